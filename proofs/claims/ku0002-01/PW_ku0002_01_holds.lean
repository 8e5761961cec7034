import PyProof.Rows.All
import Wide.All
import OpenK.AllK
import Wide.FinOn
import PySem.Challenge.RW_ku0002_01
set_option Elab.async false
section
open PySem PySem.Calls PyProof.Rows PySem.W PySem.Spec PySem.SeqAt
namespace Mine
set_option Elab.async false
set_option linter.unusedVariables false

/-! the count of tokens never falls -/
theorem setGen_toks (s : Shared) (g : Nat) (x : GenState) : (s.setGen g x).toks = s.toks := rfl
theorem runs_toks {M : Model} {Γ : PySem.Ctx} {p : Pos} {t : Sem Fin} {fs : List Frame} {s s' : Shared} {e : End} (h : Runs M Γ p t fs s e s') : s.toks ≤ s'.toks := by
  induction h
  all_goals first
    | exact Nat.le_refl _
    | (rename_i ih; exact ih)
    | (rename_i ih; exact Nat.le_trans (Nat.le_succ _) ih)
    | (rename_i ih₁ ih₂; exact Nat.le_trans ih₁ ih₂)
theorem wakes_toks {M : Model} {Γ : PySem.Ctx} {p : Pos} {g : Nat} {r : Resume} {s s' : Shared} {res : GenResult} (h : Wakes M Γ p g r s res s') : s.toks ≤ s'.toks := by
  unfold Wakes at h
  split at h
  · exact h.elim
  · split at h
    · obtain ⟨e₁, s₁, hr, _, _, rfl⟩ := h; have := runs_toks hr; exact this
    · rw [h.2]; exact Nat.le_refl _
    · rw [h.2]; exact Nat.le_refl _
  · obtain ⟨e₁, s₁, hr, _, _, rfl⟩ := h; have := runs_toks hr; exact this
  · rw [h.2]; exact Nat.le_refl _
  · rw [h.2]; exact Nat.le_refl _

theorem wp_toks {α : Type} {M : Model} {Γ : PySem.Ctx} : ∀ (t : Sem α) {Q : α → Pos → Shared → Prop} {E : Value → Pos → Shared → Prop} {p : Pos} {s : Shared} (n : Nat), n ≤ s.toks → Sem.wp M Γ t Q E p s →
    Sem.wp M Γ t (fun a p' s' => Q a p' s' ∧ n ≤ s'.toks) (fun e p' s' => E e p' s' ∧ n ≤ s'.toks) p s := by
  intro t
  induction t with
  | pure a => intro Q E p s n hn h; exact ⟨h, hn⟩
  | raise e => intro Q E p s n hn h; exact ⟨h, hn⟩
  | unsupported _ => intro Q E p s n hn h; exact h
  | finish _ => intro Q E p s n hn h; exact h
  | rule _ k ih => intro Q E p s n hn h; exact ih () n hn h
  | «at» p' k ih => intro Q E p s n hn h; exact ih () n hn h
  | load a _ k ih => intro Q E p s n hn h; obtain ⟨o, ho, h⟩ := h; exact ⟨o, ho, ih o n hn h⟩
  | update a _ f k ih => intro Q E p s n hn h; exact ⟨h.1, ih () n hn h.2⟩
  | loadIfAlive a k ih => intro Q E p s n hn h; exact ih _ n hn h
  | point _ k ih => intro Q E p s n hn h; exact ih () n hn h
  | register _ _ _ => intro Q E p s n hn h; exact h
  | alloc o k ih => intro Q E p s n hn h; exact ih _ n hn h
  | fresh k ih => intro Q E p s n hn h; exact ih _ n (Nat.le_succ_of_le hn) h
  | ask k ih => intro Q E p s n hn h; exact ih _ n hn h
  | choose src m k ih => intro Q E p s n hn h; exact ⟨h.1, ih _ n hn h.2⟩
  | os q _ k ih => intro Q E p s n hn h; exact ih _ n hn h
  | call c hh _ _ k ih =>
    intro Q E p s n hn h
    obtain ⟨r, s', hr, h⟩ := h
    exact ⟨r, s', hr, ih r n (Nat.le_trans hn (runs_toks hr)) h⟩
  | handled own k ih => intro Q E p s n hn h; exact ih _ n hn h
  | genState g k ih => intro Q E p s n hn h; obtain ⟨o, ho, h⟩ := h; exact ⟨o, ho, ih _ n hn h⟩
  | newGen c k ih => intro Q E p s n hn h; exact ih _ n hn h
  | resume g r _ k ih => intro Q E p s n hn h; obtain ⟨res, s', hr, h⟩ := h; exact ⟨res, s', hr, ih _ n (Nat.le_trans hn (wakes_toks hr)) h⟩
  | yield => intro Q E p s n hn h; exact h
  | stack k ih => intro Q E p s n hn h; exact ih _ n hn h
  | fork => intro Q E p s n hn h; exact h
  | thread k ih => intro Q E p s n hn h; exact ih _ n hn h
  | await => intro Q E p s n hn h; exact h
theorem wpAny_toks {α : Type} {M : Model} {A : Around} {E : Value → Shared → Prop} {s : Shared} {t : Sem α} {Q : α → Shared → Prop} (h : wpAny M A t Q E s) : wpAny M A t (fun a s' => Q a s' ∧ s.toks ≤ s'.toks) (fun e s' => E e s' ∧ s.toks ≤ s'.toks) s :=
  fun Γ p hΓ => wp_toks t s.toks (Nat.le_refl _) (h Γ p hΓ)
theorem codeAny_toks {M : Model} {A : Around} {s : Shared} {c : Code} {R : Result → Shared → Prop} (h : codeAny M A c R s) : codeAny M A c (fun r s' => R r s' ∧ s.toks ≤ s'.toks) s :=
  fun Γ p hc hΓ => let ⟨r, s', hr, h⟩ := h Γ p hc hΓ; ⟨r, s', hr, h, runs_toks hr⟩
end Mine

end
section
open PySem PySem.Calls PyProof.Rows PySem.W PySem.Spec
namespace Mine
set_option Elab.async false

/-! plain data, and what bears it -/
inductive D where
  | none
  | bool (b : Bool)
  | int (i : Int)
  | str (x : Str)
  | tstr (x : Str) (t : Nat)
  | bytes (b : Array UInt8)
  | list (ds : List D)
  | tuple (ds : List D)

mutual
inductive Rep (P : Addr → Prop) (h : Heap) : Value → D → Prop
  | none : Rep P h .none .none
  | bool (b : Bool) : Rep P h (.bool b) (.bool b)
  | int (i : Int) (t : Tok) : Rep P h (.int i t) (.int i)
  | str (x : Str) (t : Tok) : Rep P h (.str x t) (.str x)
  | tstr (x : Str) (t : Tok) : Rep P h (.str x t) (.tstr x t)
  | bytes (b : Array UInt8) (t : Tok) : Rep P h (.bytes b t) (.bytes b)
  | list {a : Addr} {vs : Array Value} {ds : List D} : P a → h.IsList a vs → RepAll P h vs.toList ds → Rep P h (.ref a) (.list ds)
  | tuple {a : Addr} {vs : Array Value} {ds : List D} : P a → h.IsTuple a vs → RepAll P h vs.toList ds → Rep P h (.ref a) (.tuple ds)
inductive RepAll (P : Addr → Prop) (h : Heap) : List Value → List D → Prop
  | nil : RepAll P h [] []
  | cons {v : Value} {vs : List Value} {d : D} {ds : List D} : Rep P h v d → RepAll P h vs ds → RepAll P h (v :: vs) (d :: ds)
end

mutual
theorem Rep.mono {P P' : Addr → Prop} {h h' : Heap} (hP : ∀ b, P b → P' b) (hk : ∀ b o, P b → h.get? b = some o → h'.get? b = some o) : ∀ {v : Value} {d : D}, Rep P h v d → Rep P' h' v d
  | _, _, .none => .none
  | _, _, .bool b => .bool b
  | _, _, .int i t => .int i t
  | _, _, .str x t => .str x t
  | _, _, .tstr x t => .tstr x t
  | _, _, .bytes b t => .bytes b t
  | _, _, .list p hl r => .list (hP _ p) (hl.at fun o e => hk _ o p e) (RepAll.mono hP hk r)
  | _, _, .tuple p hl r => .tuple (hP _ p) (hl.at fun o e => hk _ o p e) (RepAll.mono hP hk r)
theorem RepAll.mono {P P' : Addr → Prop} {h h' : Heap} (hP : ∀ b, P b → P' b) (hk : ∀ b o, P b → h.get? b = some o → h'.get? b = some o) : ∀ {vs : List Value} {ds : List D}, RepAll P h vs ds → RepAll P' h' vs ds
  | _, _, .nil => .nil
  | _, _, .cons a r => .cons (Rep.mono hP hk a) (RepAll.mono hP hk r)
end
mutual
theorem Rep.held {P : Addr → Prop} {h : Heap} : ∀ {v : Value} {d : D}, Rep P h v d → Rep (fun b => P b ∧ ∃ o, h.get? b = some o) h v d
  | _, _, .none => .none
  | _, _, .bool b => .bool b
  | _, _, .int i t => .int i t
  | _, _, .str x t => .str x t
  | _, _, .tstr x t => .tstr x t
  | _, _, .bytes b t => .bytes b t
  | _, _, .list p hl r => .list ⟨p, let ⟨o, e, _⟩ := hl; ⟨o, e⟩⟩ hl (RepAll.held r)
  | _, _, .tuple p hl r => .tuple ⟨p, let ⟨o, e, _⟩ := hl; ⟨o, e⟩⟩ hl (RepAll.held r)
theorem RepAll.held {P : Addr → Prop} {h : Heap} : ∀ {vs : List Value} {ds : List D}, RepAll P h vs ds → RepAll (fun b => P b ∧ ∃ o, h.get? b = some o) h vs ds
  | _, _, .nil => .nil
  | _, _, .cons a r => .cons (Rep.held a) (RepAll.held r)
end
theorem Rep.keeps {P : Addr → Prop} {h h' : Heap} {v : Value} {d : D} (r : Rep P h v d) (hk : ∀ b o, h.get? b = some o → h'.get? b = some o) : Rep P h' v d := r.mono (fun _ p => p) fun b o _ e => hk b o e
theorem RepAll.keeps {P : Addr → Prop} {h h' : Heap} {vs : List Value} {ds : List D} (r : RepAll P h vs ds) (hk : ∀ b o, h.get? b = some o → h'.get? b = some o) : RepAll P h' vs ds := r.mono (fun _ p => p) fun b o _ e => hk b o e
theorem RepAll.length {P : Addr → Prop} {h : Heap} : ∀ {vs : List Value} {ds : List D}, RepAll P h vs ds → vs.length = ds.length
  | _, _, .nil => rfl
  | _, _, .cons _ r => by rw [List.length_cons, List.length_cons, RepAll.length r]
theorem RepAll.append {P : Addr → Prop} {h : Heap} : ∀ {vs ws : List Value} {ds es : List D}, RepAll P h vs ds → RepAll P h ws es → RepAll P h (vs ++ ws) (ds ++ es)
  | _, _, _, _, .nil, k => k
  | _, _, _, _, .cons a r, k => .cons a (RepAll.append r k)
theorem RepAll.get {P : Addr → Prop} {h : Heap} : ∀ {vs : List Value} {ds : List D}, RepAll P h vs ds → ∀ {i : Nat} {d : D}, ds[i]? = some d → ∃ v, vs[i]? = some v ∧ Rep P h v d
  | _, _, .cons a _, 0, _, e => ⟨_, rfl, by cases e; exact a⟩
  | _, _, .cons _ r, i + 1, _, e => RepAll.get r (i := i) e
theorem RepAll.drop {P : Addr → Prop} {h : Heap} : ∀ {vs : List Value} {ds : List D}, RepAll P h vs ds → ∀ k, RepAll P h (vs.drop k) (ds.drop k)
  | _, _, r, 0 => r
  | _, _, .nil, _ + 1 => .nil
  | _, _, .cons _ r, k + 1 => RepAll.drop r k
theorem RepAll.take {P : Addr → Prop} {h : Heap} : ∀ {vs : List Value} {ds : List D}, RepAll P h vs ds → ∀ k, RepAll P h (vs.take k) (ds.take k)
  | _, _, _, 0 => .nil
  | _, _, .nil, _ + 1 => .nil
  | _, _, .cons a r, k + 1 => .cons a (RepAll.take r k)
theorem RepAll.one {P : Addr → Prop} {h : Heap} {v : Value} {d : D} (r : Rep P h v d) : RepAll P h [v] [d] := .cons r .nil

theorem Rep.forget {P : Addr → Prop} {h : Heap} {v : Value} {x : Str} {t : Nat} (r : Rep P h v (.tstr x t)) : Rep P h v (.str x) := by
  cases r with
  | tstr x t => exact .str x t
noncomputable def tokd (xs : List (Str × Nat)) : List D := xs.map fun p => .tstr p.1 p.2
noncomputable def untok (xs : List (Str × Nat)) : List D := xs.map fun p => .str p.1
theorem RepAll.forget {P : Addr → Prop} {h : Heap} : ∀ {vs : List Value} {xs : List (Str × Nat)}, RepAll P h vs (tokd xs) → RepAll P h vs (untok xs)
  | _, [], .nil => .nil
  | _, _ :: _, .cons a r => .cons a.forget (RepAll.forget r)
theorem Rep.forgetL {P : Addr → Prop} {h : Heap} {v : Value} {xs : List (Str × Nat)} (r : Rep P h v (.list (tokd xs))) : Rep P h v (.list (untok xs)) := by
  cases r with
  | list p hl ra => exact .list p hl ra.forget

/-! what a module's def may lean on -/
structure Fn where
  name : Str
  params : Arguments
  body : List Stmt
  scope : Scope

structure Cx where
  prog : Program
  w : World
  mg : Str → Option Value
  mb : Str → Option Value
  defs : List Fn
  more : Heap → Prop
  moreKeeps : ∀ h h' : Heap, (∀ b o, h.get? b = some o → h'.get? b = some o) → more h → more h'

structure Kit (C : Cx) (h : Heap) : Prop where
  g : h.Ns mainGlobals C.mg
  b : h.Ns builtinsNs C.mb
  bb : ∀ x : Str, x ≠ "__name__" → C.mb x = bootBuiltins x
  lim : h.NoLimit
  fns : ∀ f ∈ C.defs, ∃ a o pm cd doc, C.mg f.name = some (.ref a) ∧ h.get? a = some o ∧ o.data = .func (docDef f.name f.params f.body f.scope pm cd doc) ∧ h.CodeRec cd f.name
  more : C.more h
theorem Kit.keeps {C : Cx} {h h' : Heap} (k : Kit C h) (hk : ∀ b o, h.get? b = some o → h'.get? b = some o) : Kit C h' := ⟨k.g.keeps hk, k.b.keeps hk, k.bb, k.lim.keeps hk, fun f hf => let ⟨a, o, pm, cd, doc, h1, h2, h3, h4⟩ := k.fns f hf; ⟨a, o, pm, cd, doc, h1, hk _ _ h2, h3, h4.keeps hk⟩, C.moreKeeps _ _ hk k.more⟩

structure Bud (A : Around) (n : Nat) : Prop where
  hand : A.handled = none
  depth : A.depth + n < recursionLimit
  units : A.units + 100 * (n + 1) < cLine
theorem Bud.le {A : Around} {n m : Nat} (b : Bud A n) (h : m ≤ n) : Bud A m := ⟨b.hand, by have := b.depth; omega, by have := b.units; omega⟩

noncomputable def VarAt (env : Env) (m : Str → Option Value) (h : Heap) (x : Str) (v : Value) : Prop :=
  (env.kindOf x = some .local ∧ m x = some v) ∨ ((env.kindOf x = some .cell ∨ env.kindOf x = some .free) ∧ ∃ c, env.cells.lookup x = some c ∧ h.IsCell c (some v))

noncomputable abbrev Loc := String → Option D
noncomputable def put (n : String) (d : D) (l : Loc) : Loc := fun y => if y = n then some d else l y
noncomputable def none_ : Loc := fun _ => none
theorem put_same (n : String) (d : D) (l : Loc) : put n d l n = some d := by simp [put]
theorem put_ne {n y : String} (d : D) (l : Loc) (h : y ≠ n) : put n d l y = l y := by simp [put, h]

structure Inv (C : Cx) (env : Env) (P : Addr → Prop) (l : Loc) (h : Heap) : Prop where
  kit : Kit C h
  hp : ∀ b, ¬ P b → ∃ o, h.get? b = some o
  ns : ∃ m, h.Ns env.locals m ∧ ∀ x d, l x = some d → ∃ v, VarAt env m h (Str.ofString x) v ∧ Rep P h v d

theorem VarAt.keeps {env : Env} {m : Str → Option Value} {h h' : Heap} {x : Str} {v : Value} (k : VarAt env m h x v) (hk : ∀ b o, h.get? b = some o → h'.get? b = some o) : VarAt env m h' x v :=
  k.imp id fun ⟨a, c, e, i⟩ => ⟨a, c, e, i.keeps hk⟩
theorem Inv.keeps {C : Cx} {env : Env} {P : Addr → Prop} {l : Loc} {h h' : Heap} (I : Inv C env P l h) (hk : ∀ b o, h.get? b = some o → h'.get? b = some o) : Inv C env P l h' :=
  ⟨I.kit.keeps hk, fun b hb => let ⟨o, e⟩ := I.hp b hb; ⟨o, hk b o e⟩, let ⟨m, hn, hv⟩ := I.ns; ⟨m, hn.keeps hk, fun x d e => let ⟨v, a, r⟩ := hv x d e; ⟨v, a.keeps hk, r.keeps hk⟩⟩⟩
theorem Inv.fresh {C : Cx} {env : Env} {P : Addr → Prop} {l : Loc} {h : Heap} (I : Inv C env P l h) {b : Addr} (hb : h.get? b = none) : P b := by
  by_cases e : P b
  · exact e
  · obtain ⟨o, ho⟩ := I.hp b e
    rw [hb] at ho; cases ho

structure EnvIs (sc : Scope) (env : Env) : Prop where
  scope : env.scope = sc
  glob : env.globals = mainGlobals
  blt : env.builtins = builtinsNs
  kind : sc.kind = .function

theorem kr (s : Shared) : Keeps s s := ⟨s.heap, s.toks, rfl, fun _ _ e => e⟩
theorem kt {s s' s'' : Shared} (a : Keeps s s') (b : Keeps s' s'') : Keeps s s'' := by
  obtain ⟨h, t, rfl, k⟩ := a
  obtain ⟨h', t', rfl, k'⟩ := b
  exact ⟨h', t', rfl, fun b o e => k' b o (k b o e)⟩
theorem ktok {s : Shared} (t : Nat) : Keeps s { s with toks := t } := ⟨s.heap, t, rfl, fun _ _ e => e⟩
theorem kpush {s : Shared} (o : Obj) (t : Nat) : Keeps s { s with heap := s.heap.push o, toks := t } := ⟨_, t, rfl, fun _ _ e => Heap.get?_push_of_some _ e⟩
theorem up {s s' : Shared} (k : Keeps s s') : ∀ b o, s.heap.get? b = some o → s'.heap.get? b = some o := by
  obtain ⟨h, t, rfl, k⟩ := k; exact k

/-- no exception -/
noncomputable abbrev NoE : Value → Shared → Prop := fun _ _ => False

noncomputable def Ex (C : Cx) (n : Nat) (sc : Scope) (l : Loc) (e : Expr) (d : D) : Prop :=
  ∀ (A : Around) (env : Env) (P : Addr → Prop) (s : Shared), EnvIs sc env → Bud A n → Inv C env P l s.heap →
    wpAny (model C.prog C.w) A (eval e env) (fun v s' => Keeps s s' ∧ Rep P s'.heap v d) NoE s

noncomputable def Exs (C : Cx) (n : Nat) (sc : Scope) (l : Loc) (es : List Expr) (ds : List D) : Prop :=
  ∀ (A : Around) (env : Env) (P : Addr → Prop) (s : Shared) (pos : Pos), EnvIs sc env → Bud A n → Inv C env P l s.heap →
    wpAny (model C.prog C.w) A (spliced (backTo pos (starEach es env))) (fun vs s' => Keeps s s' ∧ RepAll P s'.heap vs ds) NoE s

noncomputable def Tx (C : Cx) (n : Nat) (sc : Scope) (l : Loc) (e : Expr) (b : Bool) : Prop :=
  ∀ (A : Around) (env : Env) (P : Addr → Prop) (s : Shared), EnvIs sc env → Bud A n → Inv C env P l s.heap →
    wpAny (model C.prog C.w) A (isTrue e env (eval e env)) (fun b' s' => Keeps s s' ∧ b' = b) NoE s

/-- an operation upon two values -/
noncomputable def Op2 (C : Cx) (n : Nat) (f : Value → Value → Sem Value) (a b c : D) : Prop :=
  ∀ (A : Around) (P : Addr → Prop) (s : Shared) (u v : Value), Bud A n → Kit C s.heap → (∀ b, ¬ P b → ∃ o, s.heap.get? b = some o) → Rep P s.heap u a → Rep P s.heap v b →
    wpAny (model C.prog C.w) A (f u v) (fun r s' => Keeps s s' ∧ Rep P s'.heap r c) NoE s
noncomputable def Op1 (C : Cx) (n : Nat) (f : Value → Sem Value) (a c : D) : Prop :=
  ∀ (A : Around) (P : Addr → Prop) (s : Shared) (u : Value), Bud A n → Kit C s.heap → (∀ b, ¬ P b → ∃ o, s.heap.get? b = some o) → Rep P s.heap u a →
    wpAny (model C.prog C.w) A (f u) (fun r s' => Keeps s s' ∧ Rep P s'.heap r c) NoE s
/-- a call upon values -/
noncomputable def Calls (C : Cx) (n : Nat) (f : Value) (as : List D) (c : D) : Prop :=
  ∀ (A : Around) (P : Addr → Prop) (s : Shared) (us : List Value), Bud A n → Kit C s.heap → (∀ b, ¬ P b → ∃ o, s.heap.get? b = some o) → RepAll P s.heap us as →
    wpAny (model C.prog C.w) A (call f us) (fun r s' => Keeps s s' ∧ Rep P s'.heap r c) NoE s

section
variable {C : Cx} {n : Nat} {sc : Scope} {l : Loc}

theorem fresh_of {P : Addr → Prop} {h : Heap} (hp : ∀ b, ¬ P b → ∃ o, h.get? b = some o) {b : Addr} (hb : h.get? b = none) : P b := by
  by_cases e : P b
  · exact e
  · obtain ⟨o, ho⟩ := hp b e
    rw [hb] at ho; cases ho
theorem get_size (h : Heap) : h.get? h.objs.size = none := Heap.get?_none_of_le (Nat.le_refl _)

noncomputable def okName (x : Str) : Bool := !(x == ("__debug__" : Str)) && !(x == ("__classdict__" : Str))

theorem load_var {M : Model} {A : Around} {E : Value → Shared → Prop} {s : Shared} {env : Env} {m : Str → Option Value} {x : Str} {v : Value} {Q : Value → Shared → Prop} (hk : env.scope.kind = .function)
    (hn : s.heap.Ns env.locals m) (hv : VarAt env m s.heap x v) (ho : okName x = true) (h : Q v s) : wpAny M A (loadName env x) Q E s := by
  rcases hv with ⟨hl, hm⟩ | ⟨hl | hl, c, hc, hi⟩
  · exact wpAny_loadName_local hk hl hn hm h
  · exact wpAny_loadName_cell hk hl hc hi h
  · refine wpAny_loadName_free hk hl hc hi h ?_
    unfold okName at ho
    simp only [Bool.and_eq_true, Bool.not_eq_true'] at ho
    exact ho.2

theorem Ex.var {x : String} {pos : Pos} {d : D} (hx : l x = some d) (ho : okName (Str.ofString x) = true := by decide +kernel) : Ex C n sc l (.Name (Str.ofString x) pos) d := by
  intro A env P s E B I
  obtain ⟨m, hn, hv⟩ := I.ns
  obtain ⟨v, ha, r⟩ := hv x d hx
  refine wpAny_Name (load_var (E.scope ▸ E.kind) hn ha ho ⟨kr s, r⟩) ?_
  unfold okName at ho
  simp only [Bool.and_eq_true, Bool.not_eq_true'] at ho
  exact ho.1

theorem Ex.forget {e : Expr} {x : Str} {t : Nat} (h : Ex C n sc l e (.tstr x t)) : Ex C n sc l e (.str x) :=
  fun A env P s E B I => wpAny_mono (h A env P s E B I) (fun _ _ ⟨k, r⟩ => ⟨k, r.forget⟩) fun _ _ x => x
theorem Ex.forgetL {e : Expr} {xs : List (Str × Nat)} (h : Ex C n sc l e (.list (tokd xs))) : Ex C n sc l e (.list (untok xs)) :=
  fun A env P s E B I => wpAny_mono (h A env P s E B I) (fun _ _ ⟨k, r⟩ => ⟨k, r.forgetL⟩) fun _ _ x => x
theorem Ex.int {i : Int} {k : Nat} {pos : Pos} : Ex C n sc l (.Constant (.int i) k pos) (.int i) :=
  fun _ _ _ _ _ _ _ => wpAny_Constant_int ⟨ktok _, .int _ _⟩
theorem Ex.str {x : Str} {k : Nat} {pos : Pos} : Ex C n sc l (.Constant (.str x) k pos) (.str x) :=
  fun _ _ _ _ _ _ _ => wpAny_Constant_str ⟨ktok _, .str _ _⟩
theorem Ex.bool {b : Bool} {k : Nat} {pos : Pos} : Ex C n sc l (.Constant (.bool b) k pos) (.bool b) :=
  fun _ _ _ s _ _ _ => wpAny_Constant_bool ⟨kr s, .bool _⟩

theorem two {A : Around} {env : Env} {P : Addr → Prop} {s : Shared} {e₁ e₂ : Expr} {d₁ d₂ d : D} {f : Value → Value → Sem Value} (E : EnvIs sc env) (B : Bud A n) (I : Inv C env P l s.heap)
    (h₁ : Ex C n sc l e₁ d₁) (h₂ : Ex C n sc l e₂ d₂) (hf : Op2 C n f d₁ d₂ d) :
    wpAny (model C.prog C.w) A (eval e₁ env) (fun a s₁ => wpAny (model C.prog C.w) A (eval e₂ env) (fun b s₂ => wpAny (model C.prog C.w) A (f a b) (fun r s' => Keeps s s' ∧ Rep P s'.heap r d) NoE s₂) NoE s₁) NoE s := by
  refine wpAny_mono (h₁ A env P s E B I) (fun a s₁ ⟨k₁, r₁⟩ => ?_) fun _ _ x => x
  have I₁ := I.keeps (up k₁)
  refine wpAny_mono (h₂ A env P s₁ E B I₁) (fun b s₂ ⟨k₂, r₂⟩ => ?_) fun _ _ x => x
  have I₂ := I₁.keeps (up k₂)
  exact wpAny_mono (hf A P s₂ a b B I₂.kit I₂.hp (r₁.keeps (up k₂)) r₂) (fun r s₃ ⟨k₃, r₃⟩ => ⟨kt (kt k₁ k₂) k₃, r₃⟩) fun _ _ x => x

theorem Ex.bin {e₁ e₂ : Expr} {op : Operator} {pos : Pos} {d₁ d₂ d : D} (h₁ : Ex C n sc l e₁ d₁) (h₂ : Ex C n sc l e₂ d₂) (hf : Op2 C n (binaryOp op) d₁ d₂ d) : Ex C n sc l (.BinOp e₁ op e₂ pos) d :=
  fun _ _ _ _ E B I => wpAny_BinOp (two E B I h₁ h₂ hf)
theorem Ex.cmp {e₁ e₂ : Expr} {op : CmpOp} {pos : Pos} {d₁ d₂ d : D} (h₁ : Ex C n sc l e₁ d₁) (h₂ : Ex C n sc l e₂ d₂) (hf : Op2 C n (compareOp op) d₁ d₂ d)
    (hm : behindInMarks op e₂ = false := by with_unfolding_all rfl) : Ex C n sc l (.Compare e₁ [op] [e₂] pos) d :=
  fun _ _ _ _ E B I => wpAny_Compare1 (two E B I h₁ h₂ hf) hm
theorem Ex.un {e : Expr} {op : UnaryOp} {pos : Pos} {d₁ d : D} (h₁ : Ex C n sc l e d₁) (hf : Op1 C n (unaryOp op) d₁ d) : Ex C n sc l (.UnaryOp op e pos) d := by
  intro A env P s E B I
  refine wpAny_UnaryOp (wpAny_mono (h₁ A env P s E B I) (fun a s₁ ⟨k₁, r₁⟩ => ?_) fun _ _ x => x)
  have I₁ := I.keeps (up k₁)
  exact wpAny_mono (hf A P s₁ a B I₁.kit I₁.hp r₁) (fun r s₃ ⟨k₃, r₃⟩ => ⟨kt k₁ k₃, r₃⟩) fun _ _ x => x

theorem Tx.cmp {e₁ e₂ : Expr} {op : CmpOp} {pos : Pos} {d₁ d₂ : D} {b : Bool} (h₁ : Ex C n sc l e₁ d₁) (h₂ : Ex C n sc l e₂ d₂) (hf : Op2 C n (compareOp op) d₁ d₂ (.bool b))
    (hm : behindInMarks op e₂ = false := by with_unfolding_all rfl) : Tx C n sc l (.Compare e₁ [op] [e₂] pos) b := by
  intro A env P s E B I
  refine wpAny_isTrue_Compare1 (wpAny_mono (two E B I h₁ h₂ hf) (fun a s₁ h => wpAny_mono h (fun c s₂ h => wpAny_mono h (fun r s₃ ⟨k, r⟩ => ?_) fun _ _ x => x) fun _ _ x => x) fun _ _ x => x) hm
  cases r with
  | bool b => exact wpAny_truthy_bool ⟨k, rfl⟩
theorem Tx.not {e : Expr} {pos : Pos} {b : Bool} (h : Tx C n sc l e b) : Tx C n sc l (.UnaryOp .Not e pos) (!b) :=
  fun A env P s E B I => wpAny_isTrue_Not (wpAny_mono (h A env P s E B I) (fun b' s₁ ⟨k, e⟩ => ⟨k, by rw [e]⟩) fun _ _ x => x)
/-- a value that is a bool, an int, a text, bytes -/
noncomputable def truth : D → Option Bool
  | .none => some false
  | .bool b => some b
  | .int i => some (i != 0)
  | .bytes b => some (b.size != 0)
  | _ => .none
end
end Mine

end
section
open PySem PySem.Calls PyProof.Rows PySem.W PySem.Spec
namespace Mine
set_option Elab.async false
section
variable {C : Cx} {n : Nat} {sc : Scope} {l : Loc}

theorem Exs.nil : Exs C n sc l [] [] := fun _ _ _ s _ _ _ _ => wpAny_items_nil ⟨kr s, .nil⟩
theorem Exs.cons {e : Expr} {es : List Expr} {d : D} {ds : List D} (h : Ex C n sc l e d) (hs : Exs C n sc l es ds) (he : ∀ env, starEach (e :: es) env = (false, eval e env) :: starEach es env := by intro _; rfl) : Exs C n sc l (e :: es) (d :: ds) := by
  intro A env P s pos E B I
  refine wpAny_items_cons (wpAny_mono (h A env P s E B I) (fun v s₁ ⟨k₁, r₁⟩ => ?_) fun _ _ x => x) (he env)
  have I₁ := I.keeps (up k₁)
  exact wpAny_mono (hs A env P s₁ pos E B I₁) (fun vs s₂ ⟨k₂, r₂⟩ => ⟨kt k₁ k₂, .cons (r₁.keeps (up k₂)) r₂⟩) fun _ _ x => x

theorem Rep.newList {P : Addr → Prop} {h : Heap} {vs : List Value} {ds : List D} (hp : ∀ b, ¬ P b → ∃ o, h.get? b = some o) (r : RepAll P h vs ds) : Rep P (h.push { cls := .type "list", data := .seq vs.toArray }) (.ref h.objs.size) (.list ds) :=
  .list (fresh_of hp (get_size h)) ⟨_, Heap.get?_push_size _ rfl, rfl, _, rfl⟩ (r.keeps fun _ _ e => Heap.get?_push_of_some _ e)
theorem Rep.newTuple {P : Addr → Prop} {h : Heap} {vs : List Value} {ds : List D} (hp : ∀ b, ¬ P b → ∃ o, h.get? b = some o) (r : RepAll P h vs ds) : Rep P (h.push { cls := .type "tuple", data := .seq vs.toArray }) (.ref h.objs.size) (.tuple ds) :=
  .tuple (fresh_of hp (get_size h)) ⟨_, Heap.get?_push_size _ rfl, rfl, _, rfl⟩ (r.keeps fun _ _ e => Heap.get?_push_of_some _ e)

theorem Ex.list {es : List Expr} {ds : List D} {pos : Pos} (h : Exs C n sc l es ds) (hz : ds.length ≤ 1000 := by decide) : Ex C n sc l (.List es pos) (.list ds) := by
  intro A env P s E B I
  refine wpAny_List (wpAny_mono (h A env P s pos E B I) (fun vs s₁ ⟨k₁, r₁⟩ => ⟨by rw [r₁.length, sizeLine_eq]; omega, ?_, .newList (I.keeps (up k₁)).hp r₁⟩) fun _ _ x => x)
  exact kt k₁ (kpush _ _)
theorem Ex.tuple {es : List Expr} {ds : List D} {k : Nat} {pos : Pos} (h : Exs C n sc l es ds) (hz : ds.length ≤ 1000 := by decide) : Ex C n sc l (.Tuple es k pos) (.tuple ds) := by
  intro A env P s E B I
  refine wpAny_Tuple (wpAny_mono (h A env P s pos E B I) (fun vs s₁ ⟨k₁, r₁⟩ => ⟨by rw [r₁.length, sizeLine_eq]; omega, ?_, .newTuple (I.keeps (up k₁)).hp r₁⟩) fun _ _ x => x)
  exact kt k₁ (kpush _ _)

theorem Ex.ite {t b o : Expr} {pos : Pos} {c : Bool} {d : D} (ht : Tx C n sc l t c) (h₁ : c = true → Ex C n sc l b d) (h₂ : c = false → Ex C n sc l o d) : Ex C n sc l (.IfExp t b o pos) d := by
  intro A env P s E B I
  refine wpAny_IfExp (wpAny_mono (ht A env P s E B I) (fun b' s₁ ⟨k₁, e⟩ => ?_) fun _ _ x => x)
  have I₁ := I.keeps (up k₁)
  subst e
  cases b' with
  | true => exact wpAny_mono (h₁ rfl A env P s₁ E B I₁) (fun v s₂ ⟨k₂, r⟩ => ⟨kt k₁ k₂, r⟩) fun _ _ x => x
  | false => exact wpAny_mono (h₂ rfl A env P s₁ E B I₁) (fun v s₂ ⟨k₂, r⟩ => ⟨kt k₁ k₂, r⟩) fun _ _ x => x
theorem Ex.or2 {x y : Expr} {pos : Pos} {a b : Bool} (h₁ : Ex C n sc l x (.bool a)) (h₂ : a = false → Ex C n sc l y (.bool b)) : Ex C n sc l (.BoolOp .Or [x, y] pos) (.bool (a || b)) := by
  intro A env P s E B I
  refine wpAny_Or2 (wpAny_mono (h₁ A env P s E B I) (fun v s₁ ⟨k₁, r⟩ => ?_) fun _ _ x => x)
  have I₁ := I.keeps (up k₁)
  cases r with
  | bool a =>
    refine wpAny_truthy_bool ?_
    cases a with
    | true => exact ⟨k₁, .bool _⟩
    | false => exact wpAny_mono (h₂ rfl A env P s₁ E B I₁) (fun v s₂ ⟨k₂, r⟩ => ⟨kt k₁ k₂, by simpa using r⟩) fun _ _ x => x
theorem Ex.and2 {x y : Expr} {pos : Pos} {a b : Bool} (h₁ : Ex C n sc l x (.bool a)) (h₂ : a = true → Ex C n sc l y (.bool b)) : Ex C n sc l (.BoolOp .And [x, y] pos) (.bool (a && b)) := by
  intro A env P s E B I
  refine wpAny_And2 (wpAny_mono (h₁ A env P s E B I) (fun v s₁ ⟨k₁, r⟩ => ?_) fun _ _ x => x)
  have I₁ := I.keeps (up k₁)
  cases r with
  | bool a =>
    refine wpAny_truthy_bool ?_
    cases a with
    | false => exact ⟨k₁, .bool _⟩
    | true => exact wpAny_mono (h₂ rfl A env P s₁ E B I₁) (fun v s₂ ⟨k₂, r⟩ => ⟨kt k₁ k₂, by simpa using r⟩) fun _ _ x => x

theorem Tx.val {e : Expr} {d : D} {b : Bool} (h : Ex C n sc l e d) (ht : ∀ (A : Around) (P : Addr → Prop) (s : Shared) (v : Value), Bud A n → Rep P s.heap v d → wpAny (model C.prog C.w) A (truthy v) (fun b' s' => Keeps s s' ∧ b' = b) NoE s)
    (he : ∀ env whole, isTrue e env whole = (do let v ← whole; standAt e.pos; holding [v] (truthy v)) := by intro _ _; rfl) : Tx C n sc l e b := by
  intro A env P s E B I
  refine wpAny_isTrue_value (wpAny_mono (h A env P s E B I) (fun v s₁ ⟨k₁, r⟩ => ?_) fun _ _ x => x) (he env _)
  exact wpAny_mono (ht A P s₁ v B r) (fun b' s₂ ⟨k₂, e⟩ => ⟨kt k₁ k₂, e⟩) fun _ _ x => x
theorem Tx.boolv {e : Expr} {b : Bool} (h : Ex C n sc l e (.bool b)) (he : ∀ env whole, isTrue e env whole = (do let v ← whole; standAt e.pos; holding [v] (truthy v)) := by intro _ _; rfl) : Tx C n sc l e b :=
  .val h (fun A P s v _ r => by cases r; exact wpAny_truthy_bool ⟨kr s, rfl⟩) he
theorem Tx.bytesv {e : Expr} {b : Array UInt8} (h : Ex C n sc l e (.bytes b)) (hz : b.size ≤ 1000) (he : ∀ env whole, isTrue e env whole = (do let v ← whole; standAt e.pos; holding [v] (truthy v)) := by intro _ _; rfl) : Tx C n sc l e (b.size != 0) :=
  .val h (fun A P s v _ r => by
    cases r
    refine truthy_bytes (by omega) ⟨ktok _, ?_⟩
    rw [Bool.eq_iff_iff]; simp) he

/-! calls by a name -/
theorem eval_Call_Name {A : Around} {env : Env} {M : Model} {id : Str} {p pos : Pos} {args : List Expr} {Q : Value → Shared → Prop} {E : Value → Shared → Prop} {s : Shared}
    (h : wpAny M A (eval (.Name id p) env) (fun f s₁ => wpAny M A (callWith pos f [] (backTo pos (starEach args env)) []) Q E s₁) E s) :
    wpAny M A (eval (.Call (.Name id p) args [] pos) env) Q E s := wpAny_Call_Name_kw h

/-- no starred argument -/
noncomputable def plainArgs : List Expr → Bool
  | [] => true
  | .Starred _ _ :: _ => false
  | _ :: r => plainArgs r
theorem plainArgs_any : ∀ {args : List Expr} {env : Env} {pos : Pos}, plainArgs args = true → (backTo pos (starEach args env)).any (·.1) = false
  | [], _, _, _ => rfl
  | e :: r, env, pos, h => by
    cases e <;> first | (simp [plainArgs] at h; done) | (have := plainArgs_any (args := r) (env := env) (pos := pos) (by simpa [plainArgs] using h); simpa [starEach, backTo] using this)

theorem evalArgs_all {A : Around} {env : Env} {M : Model} {f : Value} {pos : Pos} {args : List Expr} {Q : Args → Shared → Prop} {E : Value → Shared → Prop} {s : Shared} (hp : plainArgs args = true) (hne : args ≠ [])
    (h : wpAny M A (spliced (backTo pos (starEach args env))) (fun vs s' => Q ⟨vs, []⟩ s') E s) : wpAny M A (evalArgs f true (backTo pos (starEach args env)) []) Q E s := by
  cases args with
  | nil => exact absurd rfl hne
  | cons e r =>
    have he : ∃ x rest, backTo pos (starEach (e :: r) env) = (false, x) :: rest := by
      cases e <;> first | (simp [plainArgs] at hp; done) | exact ⟨_, _, rfl⟩
    obtain ⟨x, rest, hx⟩ := he
    rw [hx] at h ⊢
    exact evalArgs_plain h

/-- what the module binds to a name that calls nothing of the user's -/
noncomputable def Machine : Value → Prop
  | .ref _ => False
  | _ => True
theorem callWith_machine {M : Model} {A : Around} {E : Value → Shared → Prop} {s : Shared} {pos : Pos} {f : Value} {args : List (Bool × Sem Value)} {Q : Value → Shared → Prop} (hf : Machine f) (hplain : args.any (·.1) = false)
    (h : wpAny M A (evalArgs f true args []) (fun a s₁ => wpAny M A (call f a.pos a.kw) Q E s₁) E s) : wpAny M A (callWith pos f [] args []) Q E s := by
  unfold callWith
  refine wpAny_bind (wpAny_holding (wpAny_mono h (fun a s₁ h₁ => wpAny_bind (wpAny_standAt ?_)) fun _ _ x => x))
  simp only [hplain, List.any_nil, Bool.or_false]
  have hk : keeperOf f = pure .machine := by cases f <;> first | rfl | exact hf.elim
  rw [hk]
  refine wpAny_bind (wpAny_pure ?_)
  exact wpAny_bind (wpAny_mono h₁ (fun r s₂ hr => wpAny_bind (wpAny_holding (wpAny_point (wpAny_pure hr)))) fun _ _ x => x)

/-- a name of the world's -/
structure Blt (C : Cx) (sc : Scope) (x : Str) (v : Value) : Prop where
  kind : sc.names.lookup x = some .globalImplicit
  miss : C.mg x = none
  boot : bootBuiltins x = some v
  nm : x ≠ "__name__"
  nd : (x == ("__debug__" : Str)) = false

theorem name_blt {x : Str} {v : Value} {pos : Pos} {A : Around} {env : Env} {P : Addr → Prop} {s : Shared} {Q : Value → Shared → Prop} (b : Blt C sc x v) (E : EnvIs sc env) (I : Inv C env P l s.heap) (h : Q v s) :
    wpAny (model C.prog C.w) A (eval (.Name x pos) env) Q NoE s :=
  Name_function_global (E.scope ▸ E.kind) (by unfold Env.kindOf; rw [E.scope]; exact b.kind)
    (loadGlobal_builtin (by rw [E.glob]; exact I.kit.g) b.miss (by rw [E.blt]; exact I.kit.b) ((I.kit.bb x b.nm).trans b.boot) h) b.nd

theorem Ex.callB {x : Str} {v : Value} {p pos : Pos} {args : List Expr} {ds : List D} {d : D} (b : Blt C sc x v) (ha : Exs C n sc l args ds) (hc : Calls C n v ds d) (hm : Machine v := by exact True.intro)
    (hp : plainArgs args = true := by rfl) (hne : args ≠ [] := by exact fun x => nomatch x) : Ex C n sc l (.Call (.Name x p) args [] pos) d := by
  intro A env P s E B I
  refine eval_Call_Name (name_blt b E I (callWith_machine hm (plainArgs_any hp) (evalArgs_all hp hne (wpAny_mono (ha A env P s pos E B I) (fun vs s₁ ⟨k₁, r₁⟩ => ?_) fun _ _ x => x))))
  have I₁ := I.keeps (up k₁)
  exact wpAny_mono (hc A P s₁ vs B I₁.kit I₁.hp r₁) (fun r s₂ ⟨k₂, r₂⟩ => ⟨kt k₁ k₂, r₂⟩) fun _ _ x => x

/-- a def of the module's: its contract -/
noncomputable def Def (C : Cx) (n : Nat) (x : Str) (as : List D) (d : D) : Prop :=
  ∀ (A : Around) (P : Addr → Prop) (s : Shared) (us : List Value) (a : Addr), C.mg x = some (.ref a) → Bud A n → Kit C s.heap → (∀ b, ¬ P b → ∃ o, s.heap.get? b = some o) → RepAll P s.heap us as →
    wpAny (model C.prog C.w) A (call (.ref a) us) (fun r s' => Keeps s s' ∧ Rep P s'.heap r d) NoE s
theorem Def.le {x : Str} {as : List D} {d : D} {m : Nat} (h : Def C n x as d) (hm : n ≤ m) : Def C m x as d := fun A P s us a ha B => h A P s us a ha (B.le hm)

/-- a name of a def of the module's -/
structure Own (C : Cx) (sc : Scope) (x : Str) : Prop where
  kind : sc.names.lookup x = some .globalImplicit
  def_ : ∃ f ∈ C.defs, f.name = x
  nd : (x == ("__debug__" : Str)) = false

theorem Ex.callD {x : Str} {p pos : Pos} {args : List Expr} {ds : List D} {d : D} (o : Own C sc x) (ha : Exs C n sc l args ds) (hc : Def C n x ds d)
    (hp : plainArgs args = true := by rfl) (hne : args ≠ [] := by exact fun x => nomatch x) : Ex C n sc l (.Call (.Name x p) args [] pos) d := by
  intro A env P s E B I
  obtain ⟨f, hf, rfl⟩ := o.def_
  obtain ⟨a, ob, pm, cd, doc, hg, ho, hd, _⟩ := I.kit.fns f hf
  refine eval_Call_Name (Name_function_global (E.scope ▸ E.kind) (by unfold Env.kindOf; rw [E.scope]; exact o.kind) (loadGlobal_global (by rw [E.glob]; exact I.kit.g) hg ?_) o.nd)
  refine callWith_function (o := ob) (evalArgs_all hp hne (wpAny_mono (ha A env P s pos E B I) (fun vs s₁ ⟨k₁, r₁⟩ => ⟨⟨up k₁ _ _ ho, hd⟩, ?_⟩) fun _ _ x => x))
  have I₁ := I.keeps (up k₁)
  exact wpAny_mono (hc A P s₁ vs a hg B I₁.kit I₁.hp r₁) (fun r s₂ ⟨k₂, r₂⟩ => ⟨kt k₁ k₂, r₂⟩) fun _ _ x => x
end
end Mine

end
section
open PySem PySem.Calls PyProof.Rows PySem.W PySem.Spec
namespace Mine
set_option Elab.async false
set_option maxRecDepth 10000
section
variable {C : Cx} {n : Nat} {sc : Scope} {l : Loc}

/-! ints -/
theorem o_add (a b : Int) : Op2 C n (binaryOp .Add) (.int a) (.int b) (.int (a + b)) := fun _ _ _ _ _ _ _ _ r₁ r₂ => by
  cases r₁; cases r₂; exact PyProof.Rows.add_int ⟨ktok _, .int _ _⟩
theorem o_sub (a b : Int) : Op2 C n (binaryOp .Sub) (.int a) (.int b) (.int (a - b)) := fun _ _ _ _ _ _ _ _ r₁ r₂ => by
  cases r₁; cases r₂; exact PyProof.Rows.sub_int ⟨ktok _, .int _ _⟩
theorem o_mod (a b : Int) (hb : b ≠ 0) : Op2 C n (binaryOp .Mod) (.int a) (.int b) (.int (a.fmod b)) := fun _ _ _ _ _ _ _ _ r₁ r₂ => by
  cases r₁; cases r₂; exact PyProof.Rows.mod_int hb ⟨ktok _, .int _ _⟩
theorem o_fdiv (a b : Int) (hb : b ≠ 0) (ha : 0 ≤ a ∧ a < 1000) (hb' : 0 ≤ b ∧ b < 1000) : Op2 C n (binaryOp .FloorDiv) (.int a) (.int b) (.int (a.fdiv b)) := fun _ _ _ _ _ _ _ _ r₁ r₂ => by
  cases r₁; cases r₂
  exact PyProof.Rows.floordiv_int hb ⟨ktok _, .int _ _⟩ (.inl (PyProof.noPylong_small (by omega)))
theorem bits_small {a : Int} (h : -(2 ^ 63) < a ∧ a < 2 ^ 63) : Builtin.Int.intBits a ≤ 64 := PySem.intBits_le_64 (by omega) (by omega)
theorem o_mul (a b : Int) (ha : -(2 ^ 63) < a ∧ a < 2 ^ 63) : Op2 C n (binaryOp .Mult) (.int a) (.int b) (.int (a * b)) := fun _ _ _ _ _ _ _ _ r₁ r₂ => by
  cases r₁; cases r₂; exact PyProof.Rows.mul_int ⟨ktok _, .int _ _⟩ (.of_left (bits_small ha))
theorem o_pow (a b : Int) (hb : 0 ≤ b) (hs : (Builtin.Int.intBits a : Int) * b ≤ 2 ^ 27) : Op2 C n (binaryOp .Pow) (.int a) (.int b) (.int (a ^ b.toNat)) := fun _ _ _ _ _ _ _ _ r₁ r₂ => by
  cases r₁; cases r₂; exact PyProof.Rows.pow_int hb hs ⟨ktok _, .int _ _⟩
theorem o_neg (a : Int) : Op1 C n (unaryOp .USub) (.int a) (.int (-a)) := fun _ _ _ _ _ _ _ r => by
  cases r; exact PyProof.Rows.neg_int ⟨ktok _, .int _ _⟩
theorem o_lt (a b : Int) : Op2 C n (compareOp .Lt) (.int a) (.int b) (.bool (decide (a < b))) := fun _ _ s _ _ _ _ _ r₁ r₂ => by
  cases r₁; cases r₂; exact PyProof.Rows.lt_int ⟨kr s, .bool _⟩
theorem o_le (a b : Int) : Op2 C n (compareOp .LtE) (.int a) (.int b) (.bool (decide (a ≤ b))) := fun _ _ s _ _ _ _ _ r₁ r₂ => by
  cases r₁; cases r₂; exact PyProof.Rows.le_int ⟨kr s, .bool _⟩
theorem o_eq (a b : Int) : Op2 C n (compareOp .Eq) (.int a) (.int b) (.bool (a == b)) := fun _ _ s _ _ _ _ _ r₁ r₂ => by
  cases r₁; cases r₂; exact PyProof.Rows.eq_int ⟨kr s, .bool _⟩
theorem o_ne (a b : Int) : Op2 C n (compareOp .NotEq) (.int a) (.int b) (.bool (a != b)) := fun _ _ s _ _ _ _ _ r₁ r₂ => by
  cases r₁; cases r₂; exact PyProof.Rows.ne_int ⟨kr s, .bool _⟩

/-! texts -/
theorem o_cat (x y : Str) (h : x.length + y.length ≤ 100000) : Op2 C n (binaryOp .Add) (.str x) (.str y) (.str (x ++ y)) := fun _ _ _ _ _ _ _ _ r₁ r₂ => by
  cases r₁; cases r₂; exact PyProof.Rows.add_str (fun _ _ => ⟨ktok _, .str _ _⟩) (by rw [sizeLine_eq]; omega)
theorem o_seq (x y : Str) : Op2 C n (compareOp .Eq) (.str x) (.str y) (.bool (x == y)) := fun _ _ s _ _ _ _ _ r₁ r₂ => by
  cases r₁; cases r₂; exact PyProof.Rows.eq_str ⟨kr s, .bool _⟩
theorem o_sne (x y : Str) : Op2 C n (compareOp .NotEq) (.str x) (.str y) (.bool (x != y)) := fun _ _ s _ _ _ _ _ r₁ r₂ => by
  cases r₁; cases r₂; exact PyProof.Rows.ne_str ⟨kr s, .bool _⟩
theorem o_slt (x y : Str) : Op2 C n (compareOp .Lt) (.str x) (.str y) (.bool (x.cps.toList < y.cps.toList)) := fun _ _ s _ _ _ _ _ r₁ r₂ => by
  cases r₁; cases r₂; exact PyProof.Rows.lt_str ⟨kr s, .bool _⟩
theorem o_sin (x y : Str) : Op2 C n (compareOp .In) (.str y) (.str x) (.bool !(Builtin.Str.occurrences x y 0 x.length 1).isEmpty) := fun _ _ s _ _ _ _ _ r₁ r₂ => by
  cases r₁; cases r₂; exact PyProof.Rows.in_str ⟨kr s, .bool _⟩

/-! bools -/
theorem o_is (a b : Bool) : Op2 C n (compareOp .Is) (.bool a) (.bool b) (.bool (a == b)) := fun _ _ s _ _ _ _ _ r₁ r₂ => by
  cases r₁; cases r₂
  show wpAny _ _ (do return Value.bool (← isSame (.bool a) (.bool b))) _ _ s
  have e : isSame (.bool a) (.bool b) = pure (a == b) := by
    cases a <;> cases b <;> rfl
  rw [e]
  exact wpAny_bind (wpAny_pure (wpAny_pure ⟨kr s, .bool _⟩))
theorem o_isnot (a b : Bool) : Op2 C n (compareOp .IsNot) (.bool a) (.bool b) (.bool (!(a == b))) := fun _ _ s _ _ _ _ _ r₁ r₂ => by
  cases r₁; cases r₂
  show wpAny _ _ (do return Value.bool (!(← isSame (.bool a) (.bool b)))) _ _ s
  have e : isSame (.bool a) (.bool b) = pure (a == b) := by
    cases a <;> cases b <;> rfl
  rw [e]
  exact wpAny_bind (wpAny_pure (wpAny_pure ⟨kr s, .bool _⟩))

/-! lists -/
theorem RepAll.intsAre {P : Addr → Prop} {h : Heap} : ∀ {vs : List Value} {ns : List Int}, RepAll P h vs (ns.map .int) → IntsAre vs ns
  | [], [], _ => .nil
  | _ :: _, _ :: _, .cons a r => by cases a; exact .cons _ _ (RepAll.intsAre r)
theorem IntsAre.rep {P : Addr → Prop} {h : Heap} : ∀ {vs : List Value} {ns : List Int}, IntsAre vs ns → RepAll P h vs (ns.map .int)
  | _, _, .nil => .nil
  | _, _, .cons _ _ r => .cons (.int _ _) (IntsAre.rep r)

theorem o_lcat (ds es : List D) (h : ds.length + es.length ≤ 100000) : Op2 C n (binaryOp .Add) (.list ds) (.list es) (.list (ds ++ es)) := fun A P s u v B K hp r₁ r₂ => by
  cases r₁ with
  | @list a vs _ p hl ra =>
    cases r₂ with
    | @list b ws _ q hb rb =>
      obtain ⟨⟨cls, dd, data, sl⟩, ho, hc, k, hd⟩ := id hl
      obtain ⟨⟨cls2, dd2, data2, sl2⟩, ho2, hc2, k2, hd2⟩ := id hb
      simp only at hc hd hc2 hd2
      subst hc hd hc2 hd2
      have e : vs ++ ws = (vs.toList ++ ws.toList).toArray := by simp
      have z1 : vs.size = ds.length := by rw [← ra.length, Array.length_toList]
      have z2 : ws.size = es.length := by rw [← rb.length, Array.length_toList]
      refine concat_meets ⟨_, ho, rfl⟩ ⟨_, ho2, rfl⟩ noFill_list_add seq_list_add PySem.F.slot_list_add PySem.F.entry_list_add (PySem.F.args_list_add_2 _ _) (list_addW a b vs ws k k2 dd dd2 sl sl2 (by rw [sizeLine_eq]; omega)) ⟨ho, ho2, ?_⟩
      rw [e]
      exact ⟨kpush _ _, .newList hp (ra.append rb)⟩
end
end Mine

end
section
open PySem PySem.Calls PyProof.Rows PySem.W PySem.Spec PySem.SeqAt
namespace Mine
set_option Elab.async false
set_option maxRecDepth 10000
section
variable {C : Cx} {n : Nat} {sc : Scope} {l : Loc}

/-! two lists of ints or texts -/
theorem readsAll_strs {P : Addr → Prop} {h : Heap} : ∀ {vs : List Value} {ns : List Str}, RepAll P h vs (ns.map .str) → ReadsAll h vs (ns.map PyData.str) []
  | [], [], _ => .nil
  | _ :: _, k :: _, .cons a r => by
    cases a with
    | str x t =>
      have := ReadsAll.cons (Reads.str (h := h) k t) (readsAll_strs (h := h) r)
      simpa using this
theorem shaped_strs (ns : List Str) (ho : ns.all PyData.strOk = true) : shaped (.list (ns.map PyData.str)) = true := by
  have h2 : PyData.depth (.list (ns.map PyData.str)) ≤ 64 := by simp only [PyData.depth, depthAll_strs']; omega
  show (PyData.canLay0 (.list (ns.map PyData.str)) && decide (PyData.depth (.list (ns.map PyData.str)) ≤ 64)) = true
  rw [Bool.and_eq_true]
  exact ⟨by simp only [PyData.canLay0]; rw [canLayAll_strs']; exact ho, decide_eq_true h2⟩
theorem noMix_strs : ∀ ns ms : List Str, noMixAll (ns.map PyData.str) (ms.map PyData.str) = true
  | [], [] => by simp [noMixAll]
  | [], _ :: _ => by simp [noMixAll]
  | _ :: _, [] => by simp [noMixAll]
  | _ :: r, _ :: q => by simp [noMixAll, noMix, noMix_strs r q]
theorem same_strs : ∀ ns ms : List Str, PySem.Spec.sameAll (ns.map PyData.str) (ms.map PyData.str) = decide (ns = ms)
  | [], [] => by simp [PySem.Spec.sameAll]
  | [], _ :: _ => by simp [PySem.Spec.sameAll]
  | _ :: _, [] => by simp [PySem.Spec.sameAll]
  | n :: r, k :: q => by
    simp only [List.map_cons, PySem.Spec.sameAll, PySem.Spec.same, same_strs r q]
    by_cases h : n = k <;> simp [h]
theorem reads_strs {P : Addr → Prop} {h : Heap} {a : Addr} {vs : Array Value} {ns : List Str} (hl : h.IsList a vs) (hi : RepAll P h vs.toList (ns.map .str)) : Reads h (.ref a) (.list (ns.map PyData.str)) [a] := by
  obtain ⟨o, ho, hc, n, hd⟩ := hl
  exact Reads.list ho hc hd (by simpa using readsAll_strs hi)
theorem reads_ints {P : Addr → Prop} {h : Heap} {a : Addr} {vs : Array Value} {ns : List Int} (hl : h.IsList a vs) (hi : RepAll P h vs.toList (ns.map .int)) : Reads h (.ref a) (.list (ns.map PyData.int)) [a] := by
  have := reads_of_ints (h := h) (a := a) (vs := vs.toList) (ns := ns) (by simpa using hl) (RepAll.intsAre hi)
  exact this

theorem o_leq (ns ms : List Int) : Op2 C n (compareOp .Eq) (.list (ns.map .int)) (.list (ms.map .int)) (.bool (decide (ns = ms))) := fun A P s u v B K hp r₁ r₂ => by
  cases r₁ with
  | list p hl ra =>
    cases r₂ with
    | list q hb rb =>
      exact eq_dataH_same (reads_ints hl ra) (reads_ints hb rb) (shaped_ints ns) (shaped_ints ms) (by have := B.units; omega) (by simp only [noMix]; exact noMix_ints ns ms) (by simp only [PySem.Spec.same]; rw [same_ints]; exact ⟨kr s, .bool _⟩)
theorem o_lsne (ns ms : List Str) (ho : ns.all PyData.strOk = true) (ho' : ms.all PyData.strOk = true) : Op2 C n (compareOp .NotEq) (.list (ns.map .str)) (.list (ms.map .str)) (.bool (!decide (ns = ms))) := fun A P s u v B K hp r₁ r₂ => by
  cases r₁ with
  | list p hl ra =>
    cases r₂ with
    | list q hb rb =>
      exact ne_dataH_same (reads_strs hl ra) (reads_strs hb rb) (shaped_strs ns ho) (shaped_strs ms ho') (by have := B.units; omega) (by simp only [noMix]; exact noMix_strs ns ms) (by simp only [PySem.Spec.same]; rw [same_strs]; exact ⟨kr s, .bool _⟩)

theorem any_of {P : Addr → Prop} {h : Heap} {α : Type} (k : α → D) (g : α → Bool) (e : Value → Bool) (he : ∀ x v, Rep P h v (k x) → e v = g x) : ∀ {vs : List Value} {xs : List α}, RepAll P h vs (xs.map k) → vs.any e = xs.any g
  | [], [], _ => rfl
  | _ :: _, _ :: _, .cons a r => by rw [List.any_cons, List.any_cons, he _ _ a, any_of k g e he r]

/-- x in a list of ints | texts (weak: whatever its addresses) -/
theorem in_ints {A : Around} {P : Addr → Prop} {s : Shared} {x : Int} {t : Tok} {a : Addr} {vs : Array Value} {ns : List Int} {Q : Value → Shared → Prop} {E : Value → Shared → Prop} (hl : s.heap.IsList a vs) (ra : RepAll P s.heap vs.toList (ns.map .int)) (h : Q (.bool (ns.contains x)) s) :
    wpAny (model C.prog C.w) A (compareOp .In (.int x t) (.ref a)) Q E s := by
  refine SeqAt.in_listAt (fun v => match v with | .int y _ => y == x | _ => false) hl (fun y hy => ?_) ?_
  · obtain ⟨i, hi, rfl⟩ := List.mem_iff_getElem.mp (Array.mem_toList_iff.mpr hy)
    have hi' : i < ns.length := by have := ra.length; rw [List.length_map] at this; omega
    obtain ⟨v, hv, r⟩ := ra.get (i := i) (d := .int ns[i]) (by rw [List.getElem?_map, List.getElem?_eq_getElem hi']; rfl)
    rw [List.getElem?_eq_getElem hi] at hv
    rw [Option.some.inj hv]
    cases r
    exact (MeetsSeq.EqGives.int _ _ _ _).at _ _
  · have e : vs.any (fun v => match v with | .int y _ => y == x | _ => false) = ns.contains x := by
      rw [← Array.any_toList, any_of (D.int) (fun y => y == x) _ (fun y v r => by cases r; rfl) ra, List.contains_eq_any_beq]
      congr 1
      funext y
      exact Bool.eq_iff_iff.mpr ⟨fun h => by simpa using (by simpa using h : y = x).symm, fun h => by simpa using (by simpa using h : x = y).symm⟩
    rw [e]; exact h
theorem in_strs {A : Around} {P : Addr → Prop} {s : Shared} {x : Str} {t : Tok} {a : Addr} {vs : Array Value} {ns : List Str} {Q : Value → Shared → Prop} {E : Value → Shared → Prop} (hl : s.heap.IsList a vs) (ra : RepAll P s.heap vs.toList (ns.map .str)) (h : Q (.bool (ns.contains x)) s) :
    wpAny (model C.prog C.w) A (compareOp .In (.str x t) (.ref a)) Q E s := by
  refine SeqAt.in_listAt (fun v => match v with | .str y _ => y.cps.toList == x.cps.toList | _ => false) hl (fun y hy => ?_) ?_
  · obtain ⟨i, hi, rfl⟩ := List.mem_iff_getElem.mp (Array.mem_toList_iff.mpr hy)
    have hi' : i < ns.length := by have := ra.length; rw [List.length_map] at this; omega
    obtain ⟨v, hv, r⟩ := ra.get (i := i) (d := .str ns[i]) (by rw [List.getElem?_map, List.getElem?_eq_getElem hi']; rfl)
    rw [List.getElem?_eq_getElem hi] at hv
    rw [Option.some.inj hv]
    cases r
    exact (SeqRoads2.EqGives.str _ _ _ _).at _ _
  · have e : vs.any (fun v => match v with | .str y _ => y.cps.toList == x.cps.toList | _ => false) = ns.contains x := by
      rw [← Array.any_toList, any_of (D.str) (fun y => y.cps.toList == x.cps.toList) _ (fun y v r => by cases r; rfl) ra, List.contains_eq_any_beq]
      congr 1
      funext y
      rw [toList_beq]
      exact Bool.eq_iff_iff.mpr ⟨fun h => by simpa using (by simpa using h : y = x).symm, fun h => by simpa using (by simpa using h : x = y).symm⟩
    rw [e]; exact h
theorem o_ini (x : Int) (ns : List Int) : Op2 C n (compareOp .In) (.int x) (.list (ns.map .int)) (.bool (ns.contains x)) := fun A P s u v B K hp r₁ r₂ => by
  cases r₁
  cases r₂ with
  | list q hb rb => exact in_ints hb rb ⟨kr s, .bool _⟩
theorem o_ins (x : Str) (ns : List Str) : Op2 C n (compareOp .In) (.str x) (.list (ns.map .str)) (.bool (ns.contains x)) := fun A P s u v B K hp r₁ r₂ => by
  cases r₁
  cases r₂ with
  | list q hb rb => exact in_strs hb rb ⟨kr s, .bool _⟩

/-! calls of the world's -/
theorem c_lens (x : Str) (h : x.length ≤ 100000) : Calls C n (.builtin "len") [.str x] (.int x.length) := fun A P s us B K hp r => by
  cases r with
  | cons r rs => cases r; cases rs; exact PyProof.Rows.len_str (by omega) ⟨ktok _, .int _ _⟩
theorem c_lenl (ds : List D) (h : ds.length ≤ 100000) : Calls C n (.builtin "len") [.list ds] (.int ds.length) := fun A P s us B K hp r => by
  cases r with
  | cons r rs =>
    cases rs
    cases r with
    | @list a vs _ p hl ra =>
      have z : vs.size = ds.length := by rw [← ra.length, Array.length_toList]
      exact call_len_list hl (by rw [z]; omega) (by rw [z]; exact ⟨ktok _, .int _ _⟩)
theorem c_chr (i : Int) (h : 0 ≤ i ∧ i < 1000) : Calls C n (.builtin "chr") [.int i] (.str ⟨#[i.toNat]⟩) := fun A P s us B K hp r => by
  cases r with
  | cons r rs =>
    cases rs; cases r
    exact PySem.P.chr_of_int (by simp only [Bool.or_eq_false_iff, decide_eq_false_iff_not]; omega) ⟨ktok _, .str _ _⟩
theorem c_ord (c : Nat) : Calls C n (.builtin "ord") [.str ⟨#[c]⟩] (.int c) := fun A P s us B K hp r => by
  cases r with
  | cons r rs =>
    cases rs; cases r
    exact PySem.P.ord_of_char ⟨ktok _, .int _ _⟩
theorem c_bytes (ns : List Int) (h : ∀ n ∈ ns, 0 ≤ n ∧ n < 256) (hz : ns.length ≤ 100000) : Calls C n (.type "bytes") [.list (ns.map .int)] (.bytes (byteArr ns)) := fun A P s us B K hp r => by
  cases r with
  | cons r rs =>
    cases rs
    cases r with
    | @list a vs _ p hl ra =>
      have hi := RepAll.intsAre ra
      refine call_bytes_ints (vs := vs.toList) (by simpa using hl) hi h (by rw [hi.length, sizeLine_eq]; omega) B.hand fun h' t k hk => ⟨⟨h', k, rfl, hk⟩, .bytes _ _⟩
end
end Mine

end
section
open PySem PySem.Calls PyProof.Rows PySem.W PySem.Spec PySem.SeqAt
namespace Mine
set_option Elab.async false
set_option maxRecDepth 10000
section
variable {C : Cx} {n : Nat} {sc : Scope} {l : Loc}

theorem c_sum (ns : List Int) : Calls C n (.builtin "sum") [.list (ns.map .int)] (.int ns.sum) := fun A P s us B K hp r => by
  cases r with
  | cons r rs =>
    cases rs
    cases r with
    | @list a vs _ p hl ra =>
      have ha : a < s.heap.objs.size := by obtain ⟨o, ho, _⟩ := id hl; exact Heap.lt_size ho
      refine call_sum_walkAnyS (wpAny_pyIter_list hl ?_)
      refine ⟨s.heap.objs.size, [s.heap.objs.size, a], [s.heap.objs.size], _, vs.size, _, _, fun j => ns.getD j 0, rfl, (Walks.list (prog := C.prog) (w := C.w) (A := A.in1) B.hand s.heap.objs.size a (Nat.ne_of_lt ha) vs).toS, ⟨⟨_, Heap.get?_push_size _ rfl, rfl, rfl⟩, hl.push _⟩, ?_, ?_, ?_⟩
      · intro b hb
        rw [Heap.size_push]
        rcases List.mem_cons.mp hb with rfl | hb
        · exact Nat.lt_succ_self _
        · rcases List.mem_cons.mp hb with rfl | hb
          · exact Nat.lt_succ_of_lt ha
          · cases hb
      · intro i v hv
        have hi : i < vs.size := by
          rcases Nat.lt_or_ge i vs.size with h | h
          · exact h
          · rw [Array.getElem?_eq_none h] at hv; cases hv
        have z : vs.size = ns.length := by have := ra.length; rwa [Array.length_toList, List.length_map] at this
        obtain ⟨v', hv', r⟩ := ra.get (i := i) (d := .int ns[i]) (by rw [List.getElem?_map, List.getElem?_eq_getElem (by omega)]; rfl)
        rw [Array.getElem?_toList, hv] at hv'
        cases hv'
        cases r
        exact ⟨_, by dsimp only; rw [List.getD_eq_getElem?_getD, List.getElem?_eq_getElem (by omega)]; rfl⟩
      · intro s' t' hm
        have z : vs.size = ns.length := by have := ra.length; rwa [Array.length_toList, List.length_map] at this
        rw [PyProof.Rows.preSum_getD, z, List.take_length]
        refine ⟨?_, .int _ _⟩
        rw [hm.eq_with]
        exact ⟨s'.heap, s'.toks, rfl, fun b o e => hm.heap b o (fun hb => by rw [List.mem_singleton.mp hb, get_size] at e; cases e) (Heap.get?_push_of_some _ e)⟩

/-- the least of a list of texts -/
noncomputable def sLt (x y : Str) : Bool := decide (x.cps.toList < y.cps.toList)
noncomputable def bestS (xs : List Str) : Str := xs.getD (argBest (fun i j => sLt (xs.getD i ⟨#[]⟩) (xs.getD j ⟨#[]⟩)) (xs.length - 1)) ⟨#[]⟩
theorem c_min (xs : List Str) (hn : 0 < xs.length) : Calls C n (.builtin "min") [.list (xs.map .str)] (.str (bestS xs)) := fun A P s us B K hp r => by
  cases r with
  | cons r rs =>
    cases rs
    cases r with
    | @list a vs _ p hl ra =>
      have ha : a < s.heap.objs.size := by obtain ⟨o, ho, _⟩ := id hl; exact Heap.lt_size ho
      have z : vs.size = xs.length := by have := ra.length; rwa [Array.length_toList, List.length_map] at this
      have item : ∀ (i : Nat) (v : Value), vs[i]? = some v → ∃ t, v = Value.str (xs.getD i ⟨#[]⟩) t := by
        intro i v hv
        have hi : i < vs.size := by
          rcases Nat.lt_or_ge i vs.size with h | h
          · exact h
          · rw [Array.getElem?_eq_none h] at hv; cases hv
        obtain ⟨v', hv', r⟩ := ra.get (i := i) (d := .str xs[i]) (by rw [List.getElem?_map, List.getElem?_eq_getElem (by omega)]; rfl)
        rw [Array.getElem?_toList, hv] at hv'
        cases hv'
        cases r
        exact ⟨_, by rw [List.getD_eq_getElem?_getD, List.getElem?_eq_getElem (by omega)]; rfl⟩
      refine call_min_walk (wpAny_pyIter_list hl ?_)
      refine ⟨s.heap.objs.size, [s.heap.objs.size, a], [s.heap.objs.size], vs.size, _, _, fun i j => sLt (xs.getD i ⟨#[]⟩) (xs.getD j ⟨#[]⟩), rfl, Walks.list (prog := C.prog) (w := C.w) (A := A.in1) B.hand s.heap.objs.size a (Nat.ne_of_lt ha) vs, ⟨⟨_, Heap.get?_push_size _ rfl, rfl, rfl⟩, hl.push _⟩, ?_, by omega, ?_, ?_⟩
      · intro b hb
        rw [Heap.size_push]
        rcases List.mem_cons.mp hb with rfl | hb
        · exact Nat.lt_succ_self _
        · rcases List.mem_cons.mp hb with rfl | hb
          · exact Nat.lt_succ_of_lt ha
          · cases hb
      · intro i j vi vj s Q E hi hj hQ
        obtain ⟨t, rfl⟩ := item i vi hi
        obtain ⟨u, rfl⟩ := item j vj hj
        exact PyProof.Rows.lt_str hQ
      · intro v h' tk hv hk
        obtain ⟨t, rfl⟩ := item _ v hv
        refine ⟨⟨h', tk, rfl, fun b o e => hk b o (fun hb => by rw [List.mem_singleton.mp hb, get_size] at e; cases e) (Heap.get?_push_of_some _ e)⟩, ?_⟩
        unfold bestS
        rw [← z]
        exact Rep.str _ _
end
end Mine

end
section
open PySem PySem.Calls PyProof.Rows PySem.W PySem.Spec PySem.SeqAt
open PySem.Builtin.Str (strSliceIndices)
namespace Mine
set_option Elab.async false
set_option maxRecDepth 10000

/-! cuts -/
noncomputable def cut {α : Type} (xs : List α) (l u : Option Int) : List α := (xs.drop (l.elim 0 (clipAt xs.length))).take (u.elim xs.length (clipAt xs.length) - l.elim 0 (clipAt xs.length))
theorem cut_from {α : Type} (xs : List α) (p : Nat) : cut xs (some (p : Int)) none = xs.drop p := by
  unfold cut
  simp only [Option.elim, clipAt_nat]
  rcases Nat.le_total p xs.length with h | h
  · rw [Nat.min_eq_left h, List.take_of_length_le (by simp)]
  · rw [Nat.min_eq_right h, List.drop_of_length_le (by simp), List.drop_of_length_le h]; simp
theorem cut_upto {α : Type} (xs : List α) (p : Nat) : cut xs none (some (p : Int)) = xs.take p := by
  unfold cut
  simp only [Option.elim, clipAt_nat, List.drop_zero, Nat.sub_zero]
  rcases Nat.le_total p xs.length with h | h
  · rw [Nat.min_eq_left h]
  · rw [Nat.min_eq_right h, List.take_of_length_le (by simp), List.take_of_length_le h]
theorem cut_map {α β : Type} (f : α → β) (xs : List α) (l u : Option Int) : cut (xs.map f) l u = (cut xs l u).map f := by
  unfold cut
  rw [List.length_map, List.map_take, List.map_drop]
theorem cut_inner {α : Type} (xs : List α) (a k : Nat) (hk : 1 ≤ k) : cut xs (some (a : Int)) (some (-(k : Int))) = (xs.drop a).take (xs.length - k - a) := by
  unfold cut
  simp only [Option.elim, clipAt_nat, clipAt_neg _ _ hk]
  rcases Nat.le_total a xs.length with h | h
  · rw [Nat.min_eq_left h]
  · rw [Nat.min_eq_right h, List.drop_of_length_le (by simp), List.drop_of_length_le h]; simp

theorem indices_plain (l u : Option Int) (n : Nat) : strSliceIndices l u 1 n = sliceRange ((l.elim 0 (clipAt n) : Nat) : Int) ((u.elim n (clipAt n) : Nat) : Int) 1 := by
  unfold strSliceIndices
  cases l <;> cases u <;> simp [clipAt_cast]
theorem slice_txt (x : Str) (l u : Option Int) : Txt.slice x l u = ⟨(cut x.cps.toList l u).toArray⟩ := by
  have key : ((strSliceIndices l u 1 x.length).filterMap (x.cps[·]?)) = cut x.cps.toList l u := by
    rw [indices_plain, sliceRange_one, pick_run]
    unfold cut
    rw [Array.length_toList]
    rfl
  unfold Txt.slice
  split
  · rename_i h
    have hl : (strSliceIndices l u 1 x.length).length = x.length := by simpa using h
    have e := key
    rw [indices_plain, sliceRange_one] at hl
    rw [List.length_map, List.length_range] at hl
    have hz : cut x.cps.toList l u = x.cps.toList := by
      unfold cut
      rw [Array.length_toList]
      have h1 : u.elim x.cps.size (clipAt x.cps.size) ≤ x.cps.size := by
        cases u with
        | none => exact Nat.le_refl _
        | some i => simp only [Option.elim]; have := clipAt_cast x.cps.size i; omega
      have hl' : u.elim x.cps.size (clipAt x.cps.size) - l.elim 0 (clipAt x.cps.size) = x.cps.size := hl
      have h2 : l.elim 0 (clipAt x.cps.size) = 0 ∨ x.cps.size = 0 := by omega
      rcases h2 with h2 | h2
      · rw [hl', h2, List.drop_zero, List.take_of_length_le (by simp)]
      · have : x.cps.toList = [] := by rw [← List.length_eq_zero_iff, Array.length_toList]; exact h2
        rw [this]; simp
    rw [hz]
  · rw [key]

section
variable {C : Cx} {n : Nat} {sc : Scope} {l : Loc}

noncomputable def PartEx (C : Cx) (n : Nat) (sc : Scope) (l : Loc) : Option Expr → Option Int → Prop
  | none, none => True
  | some e, some i => Ex C n sc l e (.int i)
  | _, _ => False
theorem part {A : Around} {env : Env} {P : Addr → Prop} {s : Shared} {o : Option Expr} {i : Option Int} (E : EnvIs sc env) (B : Bud A n) (I : Inv C env P l s.heap) (h : PartEx C n sc l o i) :
    wpAny (model C.prog C.w) A (evalPart o env) (fun v s' => Keeps s s' ∧ (∃ t, v = partValue (i.map fun i => (i, t))) ∧ IsPart v i) NoE s := by
  cases o with
  | none => cases i with
    | none => exact wpAny_pure ⟨kr s, ⟨0, rfl⟩, .none⟩
    | some i => exact h.elim
  | some e => cases i with
    | none => exact h.elim
    | some i => exact wpAny_mono (h A env P s E B I) (fun v s₁ ⟨k, r⟩ => by cases r; exact ⟨k, ⟨_, rfl⟩, .int _ _⟩) fun _ _ x => x
theorem map_fst (i : Option Int) (t : Tok) : ((i.map fun i => (i, t)).map (·.1)) = i := by cases i <;> rfl

theorem Ex.sliceS {e : Expr} {lo hi : Option Expr} {p pos : Pos} {x : Str} {a b : Option Int} (he : Ex C n sc l e (.str x)) (ha : PartEx C n sc l lo a) (hb : PartEx C n sc l hi b) (hz : x.length ≤ 100000)
    (ht : ∀ o r, letTemporaryGo e o r = pure () := by intro _ _; rfl) : Ex C n sc l (.Subscript e (.Slice lo hi none p) pos) (.str ⟨(cut x.cps.toList a b).toArray⟩) := by
  intro A env P s E B I
  refine wpAny_Subscript_str_slice (wpAny_mono (he A env P s E B I) (fun o s₁ ⟨k₁, r₁⟩ => ?_) fun _ _ x => x) ht
  have I₁ := I.keeps (up k₁)
  refine wpAny_mono (part E B I₁ ha) (fun va s₂ ⟨k₂, ⟨ta, ea⟩, _⟩ => ?_) fun _ _ x => x
  have I₂ := I₁.keeps (up k₂)
  refine wpAny_mono (part E B I₂ hb) (fun vb s₃ ⟨k₃, ⟨tb, eb⟩, _⟩ => ?_) fun _ _ x => x
  cases r₁ with
  | str x t =>
    refine ⟨x, t, _, _, rfl, ea, eb, ?_⟩
    have k : Keeps s { s₃ with heap := s₃.heap.push { cls := .type "slice", data := .fields #[va, vb, .none] } } := kt (kt (kt k₁ k₂) k₃) (kpush _ _)
    unfold sliceMade slicePicked
    rw [map_fst, map_fst]
    rw [← slice_txt]
    unfold Txt.slice
    split
    · rename_i h
      have h' : ((1 : Int) == 1 && (strSliceIndices a b 1 x.length).length == x.length) = true := h
      rw [if_pos h']
      exact ⟨k, .str _ _⟩
    · rename_i h
      have h' : ¬ ((1 : Int) == 1 && (strSliceIndices a b 1 x.length).length == x.length) = true := h
      rw [if_neg h']
      refine ⟨?_, kt k (ktok _), .str _ _⟩
      have h1 := sliceIndices_le a b x.length
      have h2 := List.length_filterMap_le (fun j => x.cps[j]?) (strSliceIndices a b 1 x.length)
      show (List.filterMap (fun j => x.cps[j]?) (strSliceIndices a b 1 x.length)).toArray.size ≤ sizeLine
      rw [List.size_toArray, sizeLine_eq]
      omega

theorem RepAll.pick {P : Addr → Prop} {h : Heap} {vs : Array Value} {ds : List D} (r : RepAll P h vs.toList ds) : ∀ is : List Nat, RepAll P h (is.filterMap (vs[·]?)) (is.filterMap (ds[·]?))
  | [] => .nil
  | i :: is => by
    have z : vs.size = ds.length := by have := r.length; rwa [Array.length_toList] at this
    rcases Nat.lt_or_ge i ds.length with hi | hi
    · obtain ⟨v, hv, rv⟩ := r.get (i := i) (d := ds[i]) (List.getElem?_eq_getElem hi)
      rw [Array.getElem?_toList] at hv
      rw [List.filterMap_cons, List.filterMap_cons, hv, List.getElem?_eq_getElem hi]
      exact .cons rv (RepAll.pick r is)
    · rw [List.filterMap_cons, List.filterMap_cons, Array.getElem?_eq_none (by omega), List.getElem?_eq_none hi]
      exact RepAll.pick r is
noncomputable def pickL {α : Type} (ds : List α) (lo hi st : Option Int) : List α := (sliceRange (sliceBounds lo hi st ds.length).1 (sliceBounds lo hi st ds.length).2.1 (sliceBounds lo hi st ds.length).2.2).filterMap (ds[·]?)
theorem pickL_plain {α : Type} (ds : List α) (lo hi : Option Int) : pickL ds lo hi none = cut ds lo hi := by
  unfold pickL cut
  rw [sliceBounds_plain]
  simp only [sliceRange_one]
  have := pick_run ds.toArray (lo.elim 0 (clipAt ds.length)) (hi.elim ds.length (clipAt ds.length) - lo.elim 0 (clipAt ds.length))
  simpa using this
theorem pickL_map {α β : Type} (f : α → β) (ds : List α) (lo hi st : Option Int) : pickL (ds.map f) lo hi st = (pickL ds lo hi st).map f := by
  unfold pickL
  rw [List.length_map, List.map_filterMap]
  congr 1
  funext i
  rw [List.getElem?_map]

theorem Ex.sliceL {e : Expr} {lo hi st : Option Expr} {p pos : Pos} {ds : List D} {a b c : Option Int} (he : Ex C n sc l e (.list ds)) (ha : PartEx C n sc l lo a) (hb : PartEx C n sc l hi b) (hc : PartEx C n sc l st c) (h0 : c ≠ some 0) (hz : ds.length ≤ 100000)
    (ht : ∀ o r, letTemporaryGo e o r = pure () := by intro _ _; rfl) : Ex C n sc l (.Subscript e (.Slice lo hi st p) pos) (.list (pickL ds a b c)) := by
  intro A env P s E B I
  have main : wpAny (model C.prog C.w) A (eval e env) (fun o s₁ => wpAny (model C.prog C.w) A (eval (.Slice lo hi st p) env) (fun i s₂ => s₂.TypeIs o "list" ∧ wpAny (model C.prog C.w) A (getItem o i) (fun v s' => Keeps s s' ∧ Rep P s'.heap v (.list (pickL ds a b c))) NoE s₂) NoE s₁) NoE s := by
    refine wpAny_mono (he A env P s E B I) (fun o s₁ ⟨k₁, r₁⟩ => ?_) fun _ _ x => x
    have I₁ := I.keeps (up k₁)
    refine wpAny_Slice (wpAny_mono (part E B I₁ ha) (fun va s₂ ⟨k₂, _, pa⟩ => ?_) fun _ _ x => x)
    have I₂ := I₁.keeps (up k₂)
    refine wpAny_mono (part E B I₂ hb) (fun vb s₃ ⟨k₃, _, pb⟩ => ?_) fun _ _ x => x
    have I₃ := I₂.keeps (up k₃)
    refine wpAny_mono (part E B I₃ hc) (fun vc s₄ ⟨k₄, _, pc⟩ => ?_) fun _ _ x => x
    have I₄ := I₃.keeps (up k₄)
    have k : Keeps s { s₄ with heap := s₄.heap.push { cls := .type "slice", data := .fields #[va, vb, vc] } } := kt (kt (kt (kt k₁ k₂) k₃) k₄) (kpush _ _)
    have r₄ := ((r₁.keeps (up k₂)).keeps (up k₃)).keeps (up k₄)
    cases r₄ with
    | @list ax vs _ q hl ra =>
      have z : vs.size = ds.length := by have := ra.length; rwa [Array.length_toList] at this
      refine ⟨(hl.push _).typeIs, wpAny_getItem_list_slice (hl.push _) (Heap.IsSliceOf.new ..) pa pb pc h0 ?_ (by rw [sizeLine_eq]; omega)⟩
      refine ⟨kt k (kpush _ _), ?_⟩
      have r := (ra.pick (sliceRange (sliceBounds a b c vs.size).1 (sliceBounds a b c vs.size).2.1 (sliceBounds a b c vs.size).2.2)).keeps (up (kpush (s := s₄) { cls := .type "slice", data := .fields #[va, vb, vc] } s₄.toks))
      have r' := Rep.newList (I₄.keeps (up (kpush (s := s₄) { cls := .type "slice", data := .fields #[va, vb, vc] } s₄.toks))).hp r
      unfold pickL slicePick
      rw [z] at r' ⊢
      exact r'
  cases st with
  | none => exact wpAny_Subscript_Slice (T := "list") list_getitem_lookup main ht
  | some st => exact wpAny_Subscript_Slice_step (T := "list") list_getitem_lookup main ht

/-- an item -/
theorem Ex.idx {e i : Expr} {pos : Pos} {ds : List D} {k : Int} {d : D} (he : Ex C n sc l e (.list ds)) (hi : Ex C n sc l i (.int k)) (h0 : 0 ≤ k) (hd : ds[k.toNat]? = some d) (hz : k < 100000)
    (hs : ∀ o j, subscripted i false o j = operate [o, j] (getItem o j) := by intro _ _; rfl) : Ex C n sc l (.Subscript e i pos) d := by
  intro A env P s E B I
  refine PyProof.Rows.Subscript_ (wpAny_mono (he A env P s E B I) (fun o s₁ ⟨k₁, r₁⟩ => ?_) fun _ _ x => x)
  have I₁ := I.keeps (up k₁)
  refine wpAny_mono (hi A env P s₁ E B I₁) (fun j s₂ ⟨k₂, r₂⟩ => ?_) fun _ _ x => x
  have r₁' := r₁.keeps (up k₂)
  cases r₂
  cases r₁' with
  | @list ax vs _ q hl ra =>
    obtain ⟨v, hv, rv⟩ := ra.get hd
    rw [Array.getElem?_toList] at hv
    exact tail_any hl.typeIs slot_list_getitem.lookup (wpAny_getItem_list hl h0 (by omega) hv ⟨kt k₁ k₂, rv⟩) (hs _ _)
theorem Ex.idxS {e i : Expr} {pos : Pos} {x : Str} {k : Int} {c : Nat} (he : Ex C n sc l e (.str x)) (hi : Ex C n sc l i (.int k)) (h0 : 0 ≤ k) (hz : k < 100000) (hc : x.cps.toList[k.toNat]? = some c)
    (hs : ∀ o j, subscripted i false o j = operate [o, j] (getItem o j) := by intro _ _; rfl) : Ex C n sc l (.Subscript e i pos) (.str ⟨#[c]⟩) := by
  intro A env P s E B I
  refine PyProof.Rows.Subscript_ (wpAny_mono (he A env P s E B I) (fun o s₁ ⟨k₁, r₁⟩ => ?_) fun _ _ x => x)
  have I₁ := I.keeps (up k₁)
  refine wpAny_mono (hi A env P s₁ E B I₁) (fun j s₂ ⟨k₂, r₂⟩ => ?_) fun _ _ x => x
  cases r₂
  cases r₁ with
  | str x t =>
    have hlt : k.toNat < x.length := by
      rcases Nat.lt_or_ge k.toNat x.length with h | h
      · exact h
      · rw [List.getElem?_eq_none (by rw [Array.length_toList]; exact h)] at hc; cases hc
    refine tail_any (typeIs_str _ x t) slot_str_getitem.lookup (PyProof.Rows.getItem_str (c := c) (by simp only [Bool.or_eq_false_iff, decide_eq_false_iff_not]; omega) ?_ ⟨kt (kt k₁ k₂) (ktok _), .str _ _⟩) (hs _ _)
    rw [PySem.seqIndex_of h0 (by omega)]
    rw [Array.getElem?_toList] at hc
    exact hc
end
end Mine

end
section
open PySem PySem.Calls PyProof.Rows PySem.W PySem.Spec PySem.SeqAt
namespace Mine
set_option Elab.async false
set_option maxRecDepth 10000

theorem ofString_inj {a b : String} (h : Str.ofString a = Str.ofString b) : a = b := by
  rw [Str.ofString_eq_toList, Str.ofString_eq_toList] at h
  have h1 : a.toList.map Char.toNat = b.toList.map Char.toNat := by
    have := congrArg Str.cps h
    simpa using this
  have inj : ∀ (xs ys : List Char), xs.map Char.toNat = ys.map Char.toNat → xs = ys := by
    intro xs
    induction xs with
    | nil => intro ys h; cases ys with
      | nil => rfl
      | cons y ys => cases h
    | cons x xs ih =>
      intro ys h
      cases ys with
      | nil => cases h
      | cons y ys =>
        rw [List.map_cons, List.map_cons] at h
        obtain ⟨h1, h2⟩ := List.cons.inj h
        rw [Char.toNat_inj.mp h1, ih ys h2]
  exact String.toList_inj.mp (inj _ _ h1)

/-! a frame whose names are stored -/
inductive Out where
  | next (l : Loc) (o : Option (String × List D))
  | ret (d : D)

noncomputable def Mut (env : Env) (a : Option Addr) (b : Addr) : Prop := b = env.locals ∨ (∃ x, env.cells.lookup x = some b) ∨ a = some b

noncomputable def OwnAt (env : Env) (P : Addr → Prop) (o : Option (String × List D)) (a : Option Addr) (h : Heap) : Prop :=
  match o, a with
  | none, none => True
  | some (x, ds), some a => P a ∧ okName (Str.ofString x) = true ∧ env.kindOf (Str.ofString x) = some .local ∧ (∃ m, h.Ns env.locals m ∧ m (Str.ofString x) = some (.ref a)) ∧ ∃ vs, PlainL h a vs ∧ RepAll (fun b => P b ∧ some a ≠ some b) h vs.toList ds
  | _, _ => False

structure SInv (C : Cx) (h₀ : Heap) (env : Env) (P : Addr → Prop) (l : Loc) (o : Option (String × List D)) (a : Option Addr) (h : Heap) : Prop where
  inv : Inv C env (fun b => P b ∧ a ≠ some b) l h
  lp : ¬ P env.locals
  cl : ∀ x c, env.cells.lookup x = some c → ¬ P c ∧ c ≠ env.locals ∧ ∃ ov, h.IsCell c ov
  cinj : ∀ x y c, env.cells.lookup x = some c → env.cells.lookup y = some c → x = y
  own : OwnAt env P o a h
  clx : ∀ x, env.kindOf x = some .cell → ∃ c, env.cells.lookup x = some c
  kit₀ : Kit C h₀
  sub₀ : ∀ b o, h₀.get? b = some o → h.get? b = some o
  no₀ : ∀ b, Mut env a b → h₀.get? b = none

noncomputable def KB (env : Env) (a : Option Addr) (h h' : Heap) : Prop := ∀ b o, ¬ Mut env a b → h.get? b = some o → h'.get? b = some o
theorem KB.trans {env : Env} {a : Option Addr} {h h' h'' : Heap} (x : KB env a h h') (y : KB env a h' h'') : KB env a h h'' := fun b o hb e => y b o hb (x b o hb e)
theorem KB.of {env : Env} {a : Option Addr} {h h' : Heap} (x : ∀ b o, h.get? b = some o → h'.get? b = some o) : KB env a h h' := fun b o _ e => x b o e

theorem OwnAt.keeps {env : Env} {P : Addr → Prop} {o : Option (String × List D)} {a : Option Addr} {h h' : Heap} (x : OwnAt env P o a h) (hk : ∀ b o, h.get? b = some o → h'.get? b = some o) : OwnAt env P o a h' := by
  cases o with
  | none => cases a with
    | none => trivial
    | some a => exact x
  | some p => cases a with
    | none => exact x
    | some a =>
      obtain ⟨h1, h0, h3, ⟨m, h2, h4⟩, vs, h5, h6⟩ := x
      exact ⟨h1, h0, h3, ⟨m, h2.keeps hk, h4⟩, vs, h5.keeps hk, h6.keeps hk⟩
theorem SInv.keeps {C : Cx} {h₀ : Heap} {env : Env} {P : Addr → Prop} {l : Loc} {o : Option (String × List D)} {a : Option Addr} {h h' : Heap} (S : SInv C h₀ env P l o a h) (hk : ∀ b o, h.get? b = some o → h'.get? b = some o) : SInv C h₀ env P l o a h' :=
  ⟨S.inv.keeps hk, S.lp, fun x c e => let ⟨h1, h2, ov, h3⟩ := S.cl x c e; ⟨h1, h2, ov, h3.keeps hk⟩, S.cinj, S.own.keeps hk, S.clx, S.kit₀, fun b o e => hk b o (S.sub₀ b o e), S.no₀⟩

theorem SInv.mutNot {C : Cx} {h₀ : Heap} {env : Env} {P : Addr → Prop} {l : Loc} {o : Option (String × List D)} {a : Option Addr} {h : Heap} (S : SInv C h₀ env P l o a h) {b : Addr} (hb : P b ∧ a ≠ some b) : ¬ Mut env a b := by
  rintro (e | ⟨x, e⟩ | e)
  · exact S.lp (e ▸ hb.1)
  · exact (S.cl x b e).1 hb.1
  · exact hb.2 e

/-- a name's value behind a store at one changed place -/
theorem Inv.stored {C : Cx} {env : Env} {P : Addr → Prop} {l : Loc} {h h' : Heap} {w : Addr} {x : String} {v : Value} {d : D} {m m' : Str → Option Value} (I : Inv C env P l h) (K : Kit C h') (hw : ¬ P w)
    (hs : Heap.SameBut w h h') (hwx : ∃ o, h'.get? w = some o) (hn : h.Ns env.locals m) (hn' : h'.Ns env.locals m') (hv : VarAt env m' h' (Str.ofString x) v) (r : Rep P h v d)
    (hold : ∀ (y : String) u, y ≠ x → VarAt env m h (Str.ofString y) u → VarAt env m' h' (Str.ofString y) u) : Inv C env P (put x d l) h' := by
  have old : ∀ b ob, P b → h.get? b = some ob → h'.get? b = some ob := fun b ob hb e => hs.extBut b ob (fun e' => hw (e' ▸ hb)) e
  refine ⟨K, fun b hb => ?_, m', hn', fun y e hy => ?_⟩
  · by_cases q : b = w
    · exact q ▸ hwx
    · obtain ⟨o, e⟩ := I.hp b hb
      exact ⟨o, hs.extBut b o q e⟩
  · by_cases q : y = x
    · subst q
      rw [put_same] at hy
      cases hy
      exact ⟨v, hv, r.mono (fun _ p => p) old⟩
    · rw [put_ne _ _ q] at hy
      obtain ⟨m₀, hn₀, hv₀⟩ := I.ns
      have hm : m₀ = m := by
        obtain ⟨o1, es1, ep1, e1, d1, _, f1⟩ := hn₀
        obtain ⟨o2, es2, ep2, e2, d2, _, f2⟩ := hn
        rw [e1] at e2
        cases e2
        rw [d1] at d2
        cases d2
        funext z
        rw [← f1, ← f2]
      subst hm
      obtain ⟨u, hu, ru⟩ := hv₀ y e hy
      exact ⟨u, hold y u q hu, ru.mono (fun _ p => p) old⟩

/-- the store of a name -/
theorem store {C : Cx} {h₀ : Heap} {A : Around} {env : Env} {P : Addr → Prop} {l : Loc} {o : Option (String × List D)} {a : Option Addr} {s : Shared} {x : String} {v : Value} {d : D} (hk : env.scope.kind = .function)
    (S : SInv C h₀ env P l o a s.heap) (hx : env.kindOf (Str.ofString x) = some .local ∨ env.kindOf (Str.ofString x) = some .cell) (ho : ∀ y ds, o = some (y, ds) → x ≠ y) (r : Rep (fun b => P b ∧ a ≠ some b) s.heap v d)
    {Q : Unit → Shared → Prop} (hQ : ∀ h' tk, SInv C h₀ env P (put x d l) o a h' → KB env a s.heap h' → Q () { s with heap := h', toks := tk }) : wpAny (model C.prog C.w) A (storeName env (Str.ofString x) v) Q NoE s := by
  obtain ⟨m, hn, _⟩ := S.inv.ns
  have K₀ := S.kit₀
  have hs₀ := S.sub₀
  have hn₀ := S.no₀
  have neS : ∀ {y : String}, y ≠ x → Str.ofString y ≠ Str.ofString x := fun q e => q (ofString_inj e)
  rcases hx with hx | hx
  · refine wpAny_storeName_local hx hn (fun h' hn' hs' => ?_) (by rw [hk]; rfl)
    have keep₀ : ∀ b ob, h₀.get? b = some ob → h'.get? b = some ob := fun b ob e => hs'.extBut b ob (fun q => by rw [hn₀ b (.inl q)] at e; cases e) (hs₀ b ob e)
    have hwx : ∃ ob, h'.get? env.locals = some ob := by obtain ⟨ob, _, _, e, _⟩ := hn'; exact ⟨ob, e⟩
    refine hQ h' _ ⟨?_, S.lp, fun y c e => ?_, S.cinj, ?_, S.clx, K₀, keep₀, hn₀⟩ ?_
    · refine S.inv.stored (K₀.keeps keep₀) (fun q => S.lp q.1) hs' hwx hn hn' (.inl ⟨hx, by simp⟩) r fun y u q hu => ?_
      rcases hu with ⟨h1, h2⟩ | ⟨h1, c, h2, h3⟩
      · exact .inl ⟨h1, by dsimp only; rw [if_neg (neS q)]; exact h2⟩
      · exact .inr ⟨h1, c, h2, h3.sameBut hs' (S.cl _ c h2).2.1⟩
    · obtain ⟨h1, h2, ov, h3⟩ := S.cl y c e
      exact ⟨h1, h2, ov, h3.sameBut hs' h2⟩
    · have O := S.own
      cases o with
      | none => cases a with
        | none => trivial
        | some a => exact O
      | some p => cases a with
        | none => exact O
        | some a =>
          obtain ⟨h1, h2, h3, ⟨m₁, h4, h5⟩, vs, h6, h7⟩ := O
          have hal : a ≠ env.locals := fun e => S.lp (e ▸ h1)
          have hm : m₁ = m := by
            obtain ⟨o1, es1, ep1, e1, d1, _, f1⟩ := h4
            obtain ⟨o2, es2, ep2, e2, d2, _, f2⟩ := hn
            rw [e1] at e2; cases e2
            rw [d1] at d2; cases d2
            funext z
            rw [← f1, ← f2]
          subst hm
          refine ⟨h1, h2, h3, ⟨_, hn', ?_⟩, vs, h6.extBut hs'.extBut hal, h7.mono (fun _ p => p) fun b ob hb e => hs'.extBut b ob (fun q => S.lp (q ▸ hb.1)) e⟩
          rw [if_neg (neS (Ne.symm (ho p.1 p.2 rfl)))]
          exact h5
    · intro b ob hb e
      exact hs'.extBut b ob (fun e' => hb (.inl e')) e
  · obtain ⟨c, hc⟩ := S.clx _ hx
    obtain ⟨hcP, hcL, ov, hov⟩ := S.cl _ c hc
    refine wpAny_storeName_cell hk hx hc hov fun h' hc' hs' => ?_
    have keep₀ : ∀ b ob, h₀.get? b = some ob → h'.get? b = some ob := fun b ob e => hs'.extBut b ob (fun q => by rw [hn₀ b (.inr (.inl ⟨_, q ▸ hc⟩))] at e; cases e) (hs₀ b ob e)
    have hwx : ∃ ob, h'.get? c = some ob := by obtain ⟨ob, e, _⟩ := hc'; exact ⟨ob, e⟩
    have hn' : h'.Ns env.locals m := hn.sameBut hs' (Ne.symm hcL)
    refine hQ h' s.toks ⟨?_, S.lp, fun y c₁ e => ?_, S.cinj, ?_, S.clx, K₀, keep₀, hn₀⟩ ?_
    · refine S.inv.stored (K₀.keeps keep₀) (fun q => hcP q.1) hs' hwx hn hn' (.inr ⟨.inl hx, c, hc, hc'⟩) r fun y u q hu => ?_
      rcases hu with ⟨h1, h2⟩ | ⟨h1, c₁, h2, h3⟩
      · exact .inl ⟨h1, h2⟩
      · exact .inr ⟨h1, c₁, h2, h3.sameBut hs' fun e => neS q (S.cinj _ _ c₁ h2 (e ▸ hc))⟩
    · obtain ⟨h1, h2, ov₁, h3⟩ := S.cl y c₁ e
      by_cases q : c₁ = c
      · subst q; exact ⟨h1, h2, _, hc'⟩
      · exact ⟨h1, h2, ov₁, h3.sameBut hs' q⟩
    · have O := S.own
      cases o with
      | none => cases a with
        | none => trivial
        | some a => exact O
      | some p => cases a with
        | none => exact O
        | some a =>
          obtain ⟨h1, h2, h3, ⟨m₁, h4, h5⟩, vs, h6, h7⟩ := O
          have hac : a ≠ c := fun e => hcP (e ▸ h1)
          exact ⟨h1, h2, h3, ⟨m₁, h4.sameBut hs' (Ne.symm hcL), h5⟩, vs, h6.extBut hs'.extBut hac, h7.mono (fun _ p => p) fun b ob hb e => hs'.extBut b ob (fun q => hcP (q ▸ hb.1)) e⟩
    · intro b ob hb e
      exact hs'.extBut b ob (fun e' => hb (.inr (.inl ⟨_, e' ▸ hc⟩))) e

noncomputable def Post (C : Cx) (h₀ : Heap) (env : Env) (P : Addr → Prop) (a : Option Addr) (s : Shared) (Q : Out → Prop) (f : Flow) (s' : Shared) : Prop :=
  ∃ h' tk, s' = { s with heap := h', toks := tk } ∧ KB env a s.heap h' ∧ match f with
    | .next => ∃ l o, Q (.next l o) ∧ SInv C h₀ env P l o a h'
    | .ret v => ∃ d, Q (.ret d) ∧ Rep P h' v d
    | _ => False

noncomputable def Sx (C : Cx) (n : Nat) (sc : Scope) (l : Loc) (o : Option (String × List D)) (sts : List Stmt) (Q : Out → Prop) : Prop :=
  ∀ (A : Around) (h₀ : Heap) (env : Env) (P : Addr → Prop) (s : Shared) (a : Option Addr), EnvIs sc env → Bud A n → SInv C h₀ env P l o a s.heap → wpAny (model C.prog C.w) A (execs sts env) (Post C h₀ env P a s Q) NoE s
noncomputable def S1 (C : Cx) (n : Nat) (sc : Scope) (l : Loc) (o : Option (String × List D)) (st : Stmt) (Q : Out → Prop) : Prop :=
  ∀ (A : Around) (h₀ : Heap) (env : Env) (P : Addr → Prop) (s : Shared) (a : Option Addr), EnvIs sc env → Bud A n → SInv C h₀ env P l o a s.heap → wpAny (model C.prog C.w) A (exec st env) (Post C h₀ env P a s Q) NoE s

section
variable {C : Cx} {n : Nat} {sc : Scope} {l : Loc} {o : Option (String × List D)} {Q Q' : Out → Prop}

theorem Post.after {h₀ : Heap} {env : Env} {P : Addr → Prop} {a : Option Addr} {s s₁ s₂ : Shared} {f : Flow} (k : ∃ h' tk, s₁ = { s with heap := h', toks := tk } ∧ KB env a s.heap h') (p : Post C h₀ env P a s₁ Q f s₂) : Post C h₀ env P a s Q f s₂ := by
  obtain ⟨h', tk, rfl, k⟩ := k
  obtain ⟨h'', tk', rfl, k', r⟩ := p
  exact ⟨h'', tk', rfl, k.trans k', r⟩
theorem kbOf {env : Env} {a : Option Addr} {s s₁ : Shared} (k : Keeps s s₁) : ∃ h' tk, s₁ = { s with heap := h', toks := tk } ∧ KB env a s.heap h' := by
  obtain ⟨h', tk, rfl, k⟩ := k
  exact ⟨h', tk, rfl, .of k⟩
theorem Post.mono {h₀ : Heap} {env : Env} {P : Addr → Prop} {a : Option Addr} {s s₁ : Shared} {f : Flow} (h : ∀ x, Q x → Q' x) (p : Post C h₀ env P a s Q f s₁) : Post C h₀ env P a s Q' f s₁ := by
  obtain ⟨h', tk, rfl, k, r⟩ := p
  refine ⟨h', tk, rfl, k, ?_⟩
  cases f with
  | next => obtain ⟨l, o, q, S⟩ := r; exact ⟨l, o, h _ q, S⟩
  | ret v => obtain ⟨d, q, S⟩ := r; exact ⟨d, h _ q, S⟩
  | brk => exact r
  | cont => exact r
theorem Sx.mono {sts : List Stmt} (h : Sx C n sc l o sts Q) (hq : ∀ x, Q x → Q' x) : Sx C n sc l o sts Q' :=
  fun A h₀ env P s a E B S => wpAny_mono (h A h₀ env P s a E B S) (fun _ _ p => p.mono hq) fun _ _ x => x
theorem S1.mono {st : Stmt} (h : S1 C n sc l o st Q) (hq : ∀ x, Q x → Q' x) : S1 C n sc l o st Q' :=
  fun A h₀ env P s a E B S => wpAny_mono (h A h₀ env P s a E B S) (fun _ _ p => p.mono hq) fun _ _ x => x

/-! the same, with a floor under the count of tokens -/
noncomputable def SxT (C : Cx) (n : Nat) (sc : Scope) (l : Loc) (o : Option (String × List D)) (k : Nat) (sts : List Stmt) (Q : Out → Nat → Prop) : Prop :=
  ∀ (A : Around) (h₀ : Heap) (env : Env) (P : Addr → Prop) (s : Shared) (a : Option Addr), EnvIs sc env → Bud A n → SInv C h₀ env P l o a s.heap → k ≤ s.toks → wpAny (model C.prog C.w) A (execs sts env) (fun f s' => Post C h₀ env P a s (fun x => Q x s'.toks) f s') NoE s
noncomputable def S1T (C : Cx) (n : Nat) (sc : Scope) (l : Loc) (o : Option (String × List D)) (k : Nat) (st : Stmt) (Q : Out → Nat → Prop) : Prop :=
  ∀ (A : Around) (h₀ : Heap) (env : Env) (P : Addr → Prop) (s : Shared) (a : Option Addr), EnvIs sc env → Bud A n → SInv C h₀ env P l o a s.heap → k ≤ s.toks → wpAny (model C.prog C.w) A (exec st env) (fun f s' => Post C h₀ env P a s (fun x => Q x s'.toks) f s') NoE s
theorem Sx.T {sts : List Stmt} {k : Nat} {R : Out → Nat → Prop} (h : Sx C n sc l o sts Q) (hq : ∀ x k', Q x → k ≤ k' → R x k') : SxT C n sc l o k sts R :=
  fun A h₀ env P s a E B S hk => wpAny_mono (wpAny_toks (h A h₀ env P s a E B S)) (fun _ s' p => p.1.mono fun x q => hq x _ q (Nat.le_trans hk p.2)) fun _ _ x => x.1
theorem S1.T {st : Stmt} {k : Nat} {R : Out → Nat → Prop} (h : S1 C n sc l o st Q) (hq : ∀ x k', Q x → k ≤ k' → R x k') : S1T C n sc l o k st R :=
  fun A h₀ env P s a E B S hk => wpAny_mono (wpAny_toks (h A h₀ env P s a E B S)) (fun _ s' p => p.1.mono fun x q => hq x _ q (Nat.le_trans hk p.2)) fun _ _ x => x.1
noncomputable def ExR (C : Cx) (n : Nat) (sc : Scope) (l : Loc) (k : Nat) (e : Expr) (R : D → Nat → Prop) : Prop :=
  ∀ (A : Around) (env : Env) (P : Addr → Prop) (s : Shared), EnvIs sc env → Bud A n → Inv C env P l s.heap → k ≤ s.toks →
    wpAny (model C.prog C.w) A (eval e env) (fun v s' => Keeps s s' ∧ ∃ d, R d s'.toks ∧ Rep P s'.heap v d) NoE s
theorem Ex.R {e : Expr} {d : D} {k : Nat} {R : D → Nat → Prop} (h : Ex C n sc l e d) (hr : ∀ k', k ≤ k' → R d k') : ExR C n sc l k e R :=
  fun A env P s E B I hk => wpAny_mono (wpAny_toks (h A env P s E B I)) (fun _ _ ⟨⟨kk, r⟩, ht⟩ => ⟨kk, d, hr _ (Nat.le_trans hk ht), r⟩) fun _ _ x => x.1
theorem ExR.plain {e : Expr} {d : D} (h : ExR C n sc l 0 e (fun d' _ => d' = d)) : Ex C n sc l e d :=
  fun A env P s E B I => wpAny_mono (h A env P s E B I (Nat.zero_le _)) (fun _ _ ⟨kk, d', e, r⟩ => ⟨kk, e ▸ r⟩) fun _ _ x => x
theorem SxT.mono {sts : List Stmt} {k : Nat} {R R' : Out → Nat → Prop} (h : SxT C n sc l o k sts R) (hq : ∀ x k', R x k' → k ≤ k' → R' x k') : SxT C n sc l o k sts R' :=
  fun A h₀ env P s a E B S hk => wpAny_mono (wpAny_toks (h A h₀ env P s a E B S hk)) (fun _ s' p => p.1.mono fun x q => hq x _ q (Nat.le_trans hk p.2)) fun _ _ x => x.1
theorem S1T.mono {st : Stmt} {k : Nat} {R R' : Out → Nat → Prop} (h : S1T C n sc l o k st R) (hq : ∀ x k', R x k' → k ≤ k' → R' x k') : S1T C n sc l o k st R' :=
  fun A h₀ env P s a E B S hk => wpAny_mono (wpAny_toks (h A h₀ env P s a E B S hk)) (fun _ s' p => p.1.mono fun x q => hq x _ q (Nat.le_trans hk p.2)) fun _ _ x => x.1
theorem S1T.plain {st : Stmt} (h : S1T C n sc l o 0 st (fun x _ => Q x)) : S1 C n sc l o st Q := fun A h₀ env P s a E B S => h A h₀ env P s a E B S (Nat.zero_le _)
theorem SxT.plain {sts : List Stmt} (h : SxT C n sc l o 0 sts (fun x _ => Q x)) : Sx C n sc l o sts Q := fun A h₀ env P s a E B S => h A h₀ env P s a E B S (Nat.zero_le _)
theorem SxT.cons {st : Stmt} {rest : List Stmt} {k : Nat} {R₁ R : Out → Nat → Prop} (h : S1T C n sc l o k st R₁) (hn : ∀ l' o' k', R₁ (.next l' o') k' → k ≤ k' → SxT C n sc l' o' k' rest R) (hr : ∀ d k', R₁ (.ret d) k' → k ≤ k' → R (.ret d) k') : SxT C n sc l o k (st :: rest) R := by
  intro A h₀ env P s a E B S hk
  refine wpAny_execs_cons (wpAny_mono (wpAny_toks (h A h₀ env P s a E B S hk)) (fun f s₁ p => ?_) fun _ _ x => x.1)
  obtain ⟨⟨h', tk, rfl, kb, r⟩, hk'⟩ := p
  have hk'' := Nat.le_trans hk hk'
  cases f with
  | next =>
    obtain ⟨l', o', q, S'⟩ := r
    exact wpAny_mono (hn l' o' _ q hk'' A h₀ env P _ a E B S' (Nat.le_refl _)) (fun f s₂ p => p.after ⟨h', tk, rfl, kb⟩) fun _ _ x => x
  | ret v => obtain ⟨d, q, R⟩ := r; exact ⟨h', tk, rfl, kb, d, hr d _ q hk'', R⟩
  | brk => exact r.elim
  | cont => exact r.elim
theorem SxT.step {st : Stmt} {rest : List Stmt} {l' : Loc} {o' : Option (String × List D)} {k : Nat} {R : Out → Nat → Prop} (h : S1 C n sc l o st (fun x => x = .next l' o')) (hn : ∀ k', k ≤ k' → SxT C n sc l' o' k' rest R) : SxT C n sc l o k (st :: rest) R :=
  .cons (h.T (R := fun x _ => x = .next l' o') fun _ _ q _ => q) (fun _ _ _ e hk => by cases e; exact hn _ hk) fun _ _ e => by cases e
theorem SxT.nil {k : Nat} {R : Out → Nat → Prop} (h : ∀ k', k ≤ k' → R (.next l o) k') : SxT C n sc l o k [] R :=
  fun _ _ _ _ s _ _ _ S hk => wpAny_execs_nil ⟨s.heap, s.toks, rfl, .of fun _ _ e => e, l, o, h _ hk, S⟩

theorem Sx.nil (h : Q (.next l o)) : Sx C n sc l o [] Q :=
  fun _ _ _ _ s _ _ _ S => wpAny_execs_nil ⟨s.heap, s.toks, rfl, .of fun _ _ e => e, l, o, h, S⟩
theorem Sx.cons {st : Stmt} {rest : List Stmt} {Q₁ : Out → Prop} (h : S1 C n sc l o st Q₁) (hn : ∀ l' o', Q₁ (.next l' o') → Sx C n sc l' o' rest Q) (hr : ∀ d, Q₁ (.ret d) → Q (.ret d)) : Sx C n sc l o (st :: rest) Q := by
  intro A h₀ env P s a E B S
  refine wpAny_execs_cons (wpAny_mono (h A h₀ env P s a E B S) (fun f s₁ p => ?_) fun _ _ x => x)
  obtain ⟨h', tk, rfl, k, r⟩ := p
  cases f with
  | next =>
    obtain ⟨l', o', q, S'⟩ := r
    exact wpAny_mono (hn l' o' q A h₀ env P _ a E B S') (fun f s₂ p => p.after ⟨h', tk, rfl, k⟩) fun _ _ x => x
  | ret v => obtain ⟨d, q, R⟩ := r; exact ⟨h', tk, rfl, k, d, hr d q, R⟩
  | brk => exact r.elim
  | cont => exact r.elim
/-- the state is known behind the statement -/
theorem Sx.step {st : Stmt} {rest : List Stmt} {l' : Loc} {o' : Option (String × List D)} (h : S1 C n sc l o st (fun x => x = .next l' o')) (hn : Sx C n sc l' o' rest Q) : Sx C n sc l o (st :: rest) Q :=
  .cons h (fun _ _ e => by cases e; exact hn) fun _ e => by cases e

noncomputable def storable (sc : Scope) (x : String) (cells : Bool) : Bool := sc.names.lookup (Str.ofString x) == some .local || (cells && sc.names.lookup (Str.ofString x) == some .cell)

theorem S1.assign {x : String} {e : Expr} {p pos : Pos} {d : D} (he : Ex C n sc l e d) (hq : Q (.next (put x d l) o)) (hx : sc.names.lookup (Str.ofString x) = some .local ∨ sc.names.lookup (Str.ofString x) = some .cell := by decide +kernel)
    (ho : ∀ y ds, o = some (y, ds) → x ≠ y := by intro _ _ e; first | (cases e; decide) | cases e)
    (hs : ∀ env, swapsWith e (some (.Name (Str.ofString x) p)) pos.line env = pure false := by intro _; rfl) : S1 C n sc l o (.Assign [.Name (Str.ofString x) p] e pos) Q := by
  intro A h₀ env P s a E B S
  refine wpAny_Assign_Name (wpAny_mono (he A env _ s E B S.inv) (fun v s₁ ⟨k₁, r₁⟩ => ?_) fun _ _ x => x) (hs env)
  refine store (E.scope ▸ E.kind) (S.keeps (up k₁)) (by unfold Env.kindOf; rw [E.scope]; exact hx) ho r₁ fun h' tk S' k => ?_
  exact Post.after (kbOf k₁) ⟨h', tk, rfl, k, _, _, hq, S'⟩
theorem S1.ret {e : Expr} {pos : Pos} {d : D} (he : Ex C n sc l e d) (hq : Q (.ret d)) : S1 C n sc l o (.Return (some e) pos) Q := by
  intro A h₀ env P s a E B S
  refine wpAny_Return_some (wpAny_mono (he A env _ s E B S.inv) (fun v s₁ ⟨k₁, r₁⟩ => ?_) fun _ _ x => x)
  exact Post.after (kbOf k₁) ⟨s₁.heap, s₁.toks, rfl, .of fun _ _ e => e, d, hq, r₁.mono (fun _ p => p.1) fun _ _ _ e => e⟩
theorem S1.ite {t : Expr} {b c : List Stmt} {pos : Pos} {v : Bool} (ht : Tx C n sc l t v) (h₁ : v = true → Sx C n sc l o b Q) (h₂ : v = false → Sx C n sc l o c Q) : S1 C n sc l o (.If t b c pos) Q := by
  intro A h₀ env P s a E B S
  refine wpAny_If (wpAny_mono (ht A env _ s E B S.inv) (fun b' s₁ ⟨k₁, e⟩ => ?_) fun _ _ x => x)
  subst e
  have S₁ := S.keeps (up k₁)
  cases b' with
  | true => exact wpAny_mono (h₁ rfl A h₀ env P s₁ a E B S₁) (fun f s₂ p => p.after (kbOf k₁)) fun _ _ x => x
  | false => exact wpAny_mono (h₂ rfl A h₀ env P s₁ a E B S₁) (fun f s₂ p => p.after (kbOf k₁)) fun _ _ x => x
/-- a test that does not hold, nothing else -/
theorem S1.skip {t : Expr} {b : List Stmt} {pos : Pos} (ht : Tx C n sc l t false) (hq : Q (.next l o)) : S1 C n sc l o (.If t b [] pos) Q := .ite ht (fun e => by cases e) fun _ => .nil hq
end
end Mine

end
section
open PySem PySem.Calls PyProof.Rows PySem.W PySem.Spec PySem.SeqAt
namespace Mine
set_option Elab.async false
set_option maxRecDepth 10000

theorem eqN {a b : Addr} (h : a = b) : @Eq Nat a b := h
/-! what a for | a comprehension walks -/
noncomputable def KW (wr : List Addr) (s s' : Shared) : Prop := ∃ h' tk, s' = { s with heap := h', toks := tk } ∧ ∀ b o, b ∉ wr → s.heap.get? b = some o → h'.get? b = some o
theorem KW.trans {wr : List Addr} {s s' s'' : Shared} (x : KW wr s s') (y : KW wr s' s'') : KW wr s s'' := by
  obtain ⟨h, t, rfl, k⟩ := x
  obtain ⟨h', t', rfl, k'⟩ := y
  exact ⟨h', t', rfl, fun b o hb e => k' b o hb (k b o hb e)⟩
theorem KW.refl (wr : List Addr) (s : Shared) : KW wr s s := ⟨s.heap, s.toks, rfl, fun _ _ _ e => e⟩

structure It (C : Cx) (A : Around) (I : Addr) (wr : List Addr) (fp : Addr → Prop) (ds : List D) (tgt : Expr) (St : Nat → Heap → Prop) : Prop where
  frame : ∀ i h h', St i h → (∀ b o, fp b → h.get? b = some o → h'.get? b = some o) → St i h'
  next : ∀ i d (s : Shared), ds[i]? = some d → St i s.heap → wpAny (model C.prog C.w) A (pyNext (.ref I)) (fun r s₁ => ∃ v, r = some v ∧
    wpAny (model C.prog C.w) A (letOwnedTupleGo tgt (.ref I) v) (fun _ s₂ => St (i + 1) s₂.heap ∧ (∀ Z : Addr → Prop, (∀ b, fp b → b ∉ wr → Z b) → (∀ b, s.heap.get? b = none → Z b) → Rep Z s₂.heap v d) ∧ KW wr s s₂) NoE s₁) NoE s
  done : ∀ (s : Shared), St ds.length s.heap → wpAny (model C.prog C.w) A (pyNext (.ref I)) (fun r s₁ => r = none ∧ KW wr s s₁) NoE s
  self : ∀ i (s : Shared) (Q : Value → Shared → Prop), St i s.heap → Q (.ref I) s → wpAny (model C.prog C.w) A (pyIter (.ref I)) Q NoE s
  live : ∀ i h, St i h → ∀ b ∈ wr, ∃ o, h.get? b = some o

noncomputable def ExI (C : Cx) (n : Nat) (sc : Scope) (l : Loc) (e : Expr) (ds : List D) (tgt : Expr) : Prop :=
  ∀ (A : Around) (env : Env) (P : Addr → Prop) (s : Shared), EnvIs sc env → Bud A n → Inv C env P l s.heap →
    wpAny (model C.prog C.w) A (eval e env) (fun x s₁ => wpAny (model C.prog C.w) A (pyIter x) (fun it s₂ => ∃ I wr St, it = .ref I ∧ Keeps s s₂ ∧ (∀ b ∈ wr, s.heap.get? b = none ∧ ∃ o, s₂.heap.get? b = some o) ∧
      It C A I wr (fun b => P b ∧ ∃ o, s₂.heap.get? b = some o) ds tgt St ∧ St 0 s₂.heap) NoE s₁) NoE s

/-- a target: a name, or two names in brackets -/
inductive Tgt : Expr → Prop where
  | name (x : Str) (p : Pos) : Tgt (.Name x p)
  | pair (es : List Expr) (k : Nat) (p : Pos) : Tgt (.Tuple es k p)

section
variable {C : Cx} {n : Nat} {sc : Scope} {l : Loc}

theorem letGo_list {A : Around} {s : Shared} {tgt : Expr} (ht : Tgt tgt) {I ax : Addr} {i : Nat} {v : Value} (hit : s.heap.IsListIter I ax i) {Q : Unit → Shared → Prop} (hQ : Q () s) : wpAny (model C.prog C.w) A (letOwnedTupleGo tgt (.ref I) v) Q NoE s := by
  cases ht with
  | name x p => exact wpAny_pure hQ
  | pair es k p =>
    cases v with
    | ref T => exact wpAny_letOwnedTupleGo_listiter hit hQ
    | _ => exact wpAny_pure hQ

theorem get_get (vs : Array Value) (i : Nat) : vs.toList[i]? = vs[i]? := Array.getElem?_toList

theorem ExI.list {e : Expr} {ds : List D} {tgt : Expr} (he : Ex C n sc l e (.list ds)) (ht : Tgt tgt) : ExI C n sc l e ds tgt := by
  intro A env P s E B I
  refine wpAny_mono (he A env P s E B I) (fun v s₁ ⟨k₁, r₁⟩ => ?_) fun _ _ x => x
  have I₁ := I.keeps (up k₁)
  cases r₁ with
  | @list a vs _ p hl ra =>
    have hal : a < s₁.heap.objs.size := by obtain ⟨o, ho, _⟩ := id hl; exact Heap.lt_size ho
    have z : vs.size = ds.length := by have := ra.length; rwa [Array.length_toList] at this
    refine wpAny_pyIter_list hl ⟨s₁.heap.objs.size, [s₁.heap.objs.size], fun i h => h.IsListIter s₁.heap.objs.size a i ∧ h.IsList a vs ∧ RepAll (fun b => (P b ∧ ∃ o, s₁.heap.get? b = some o) ∧ b ∉ [s₁.heap.objs.size]) h vs.toList ds, rfl, kt k₁ (kpush _ _), ?_, ?_, ?_⟩
    · intro b hb
      rw [List.mem_singleton.mp hb]
      refine ⟨?_, _, Heap.get?_push_size _ rfl⟩
      cases q : s.heap.get? s₁.heap.objs.size with
      | none => rfl
      | some o => have := up k₁ _ _ q; rw [get_size] at this; cases this
    · have sz : (s₁.heap.push { cls := .type "list_iterator", data := .fields #[.ref a, .int 0 0] }).get? s₁.heap.objs.size = some _ := Heap.get?_push_size _ rfl
      have hI : P s₁.heap.objs.size := I₁.fresh (get_size _)
      refine ⟨?_, ?_, ?_, ?_, ?_⟩
      · rintro i h h' ⟨h1, h2, h3⟩ hk
        refine ⟨h1.at fun o e => hk _ o ⟨hI, _, sz⟩ e, h2.at fun o e => hk _ o ⟨p, ?_⟩ e, h3.mono (fun _ p => p) fun b o hb e => hk b o ⟨hb.1.1, ?_⟩ e⟩
        · obtain ⟨o, ho, _⟩ := id hl; exact ⟨o, Heap.get?_push_of_some _ ho⟩
        · obtain ⟨o, ho⟩ := hb.1.2; exact ⟨o, Heap.get?_push_of_some _ ho⟩
      · rintro i d s₂ hd ⟨h1, h2, h3⟩
        obtain ⟨v, hv, rv⟩ := h3.get hd
        rw [get_get] at hv
        refine wpAny_pyNext_list_item h1 h2 hv fun h' hit' hs' => ⟨v, rfl, letGo_list ht hit' ⟨⟨hit', h2.extBut hs'.extBut (Nat.ne_of_lt hal), h3.mono (fun _ p => p) fun b o hb e => hs'.extBut b o (fun q => hb.2 (q ▸ List.mem_singleton_self _)) e⟩, ?_, h', s₂.toks, rfl, fun b o hb e => hs'.extBut b o (fun q => hb (q ▸ List.mem_singleton_self _)) e⟩⟩
        intro Z hZ _
        exact rv.mono (fun b p => hZ b ⟨p.1.1, let ⟨o, e⟩ := p.1.2; ⟨o, Heap.get?_push_of_some _ e⟩⟩ p.2) fun b o hb e => hs'.extBut b o (fun q => hb.2 (q ▸ List.mem_singleton_self _)) e
      · rintro s₂ ⟨h1, h2, h3⟩
        exact wpAny_pyNext_list_end B.hand h1 h2 (by rw [← z]; simp) fun h' he => ⟨rfl, h', s₂.toks, rfl, fun b o hb e => he b o (fun q => hb (q ▸ List.mem_singleton_self _)) e⟩
      · rintro i s₂ Q ⟨h1, _, _⟩ hQ
        exact wpAny_pyIter_listiter h1 hQ
      · rintro i h ⟨⟨o, ho, _⟩, _, _⟩ b hb
        rw [List.mem_singleton.mp hb]
        exact ⟨o, ho⟩
    · refine ⟨⟨_, Heap.get?_push_size _ rfl, rfl, rfl⟩, hl.push _, ?_⟩
      exact ra.held.mono (fun b hb => ⟨hb, fun q => by rw [List.mem_singleton.mp q] at hb; obtain ⟨o, ho⟩ := hb.2; rw [get_size] at ho; cases ho⟩) fun b o _ e => Heap.get?_push_of_some _ e

/-- the ints of a range -/
noncomputable def rangeD (a b : Int) : List D := (List.range (b - a).toNat).map fun i : Nat => D.int (a + (i : Int))
theorem rangeD_get {a b : Int} {i : Nat} {d : D} (h : (rangeD a b)[i]? = some d) : d = .int (a + (i : Int)) ∧ i < (b - a).toNat := by
  unfold rangeD at h
  rw [List.getElem?_map] at h
  rcases Nat.lt_or_ge i (b - a).toNat with q | q
  · rw [List.getElem?_range q] at h
    exact ⟨(Option.some.inj h).symm, q⟩
  · rw [List.getElem?_eq_none (by simpa using q)] at h; cases h

theorem it_range {A : Around} {P : Addr → Prop} {s₂ : Shared} {tgt : Expr} (ht : Tgt tgt) (hh : A.handled = none) (a b : Int) (I : Addr) (hI : P I) (hI2 : ∃ o, s₂.heap.get? I = some o) :
    It C A I [I] (fun b => P b ∧ ∃ o, s₂.heap.get? b = some o) (rangeD a b) tgt (fun i h => IsRangeIter h I (a + (i : Nat) * 1) (((b - a).toNat : Int) - (i : Nat)) 1) := by
  have W := Walks.range (prog := C.prog) (w := C.w) hh I a 1 (b - a).toNat
  have len : (rangeD a b).length = (b - a).toNat := by unfold rangeD; simp
  refine ⟨fun i h h' st hk => W.frame i h h' st fun b hb o e => hk b o (by rw [List.mem_singleton.mp hb]; exact ⟨hI, hI2⟩) e, ?_, ?_, ?_, fun i h st b hb => by rw [List.mem_singleton.mp hb]; exact ⟨_, st⟩⟩
  · intro i d s hd st
    obtain ⟨rfl, hi⟩ := rangeD_get hd
    refine W.item i s _ NoE hi st fun v h' tk ⟨t, hv⟩ st' hk => ⟨v, rfl, ?_⟩
    subst hv
    have go : ∀ {Q : Unit → Shared → Prop} {s' : Shared}, Q () s' → wpAny (model C.prog C.w) A (letOwnedTupleGo tgt (.ref I) (.int (a + (i : Int) * 1) t)) Q NoE s' := by
      intro Q s' hQ
      cases ht <;> exact wpAny_pure hQ
    refine go ⟨st', ?_, h', tk, rfl, hk⟩
    rw [Int.mul_one]
    exact fun _ _ _ => .int _ _
  · intro s st
    rw [len] at st
    exact W.done s _ NoE st fun h' tk hk => ⟨rfl, h', tk, rfl, hk⟩
  · intro i s Q st hQ
    exact W.self i s Q NoE st hQ

/-- what an iterator stands for, once it is there -/
noncomputable def ItAt (C : Cx) (A : Around) (P : Addr → Prop) (s : Shared) (ds : List D) (tgt : Expr) (it : Value) (s₂ : Shared) : Prop :=
  ∃ I wr St, it = .ref I ∧ Keeps s s₂ ∧ (∀ b ∈ wr, s.heap.get? b = none ∧ ∃ o, s₂.heap.get? b = some o) ∧ It C A I wr (fun b => P b ∧ ∃ o, s₂.heap.get? b = some o) ds tgt St ∧ St 0 s₂.heap

theorem iterRange {A : Around} {env : Env} {P : Addr → Prop} {s s₁ : Shared} {r : Addr} {a b : Int} {t u v : Tok} {tgt : Expr} (ht : Tgt tgt) (hh : A.handled = none) (I : Inv C env P l s.heap) (k₁ : Keeps s s₁) (hr : IsRange s₁.heap r a b 1 t u v) (ha : -100000 ≤ a ∧ a ≤ 100000) (hb : -100000 ≤ b ∧ b ≤ 100000) :
    wpAny (model C.prog C.w) A (pyIter (.ref r)) (ItAt C A P s (rangeD a b) tgt) NoE s₁ := by
  refine wpAny_pyIter_range hr (small_one (by omega) (by omega) (by omega) (by omega)) ?_
  have fI : s.heap.get? s₁.heap.objs.size = none := by
    cases q : s.heap.get? s₁.heap.objs.size with
    | none => rfl
    | some o => have := up k₁ _ _ q; rw [get_size] at this; cases this
  refine ⟨_, _, _, rfl, kt k₁ (kpush _ _), ?_, it_range ht hh a b _ (I.fresh fI) ⟨_, Heap.get?_push_size _ rfl⟩, ?_⟩
  · intro z hz
    rw [List.mem_singleton.mp hz]
    exact ⟨fI, _, Heap.get?_push_size _ rfl⟩
  · have hsz : Builtin.Range.rangeSize a b 1 = (((b - a).toNat : Nat) : Int) := by rw [rangeSize_one]; split <;> omega
    show IsRangeIter _ _ _ _ _
    rw [hsz]
    have e0 : a + ((0 : Nat) : Int) * 1 = a := by omega
    have e1 : (((b - a).toNat : Nat) : Int) - ((0 : Nat) : Int) = (((b - a).toNat : Nat) : Int) := by omega
    rw [e0, e1]
    exact Heap.get?_push_size _ rfl

theorem ExI.range2 {p pos : Pos} {e₁ e₂ : Expr} {a b : Int} {tgt : Expr} (bl : Blt C sc (Str.ofString "range") (.type "range")) (h : Exs C n sc l [e₁, e₂] [.int a, .int b]) (ht : Tgt tgt) (ha : -100000 ≤ a ∧ a ≤ 100000) (hb : -100000 ≤ b ∧ b ≤ 100000)
    (hp : plainArgs [e₁, e₂] = true := by rfl) : ExI C n sc l (.Call (.Name (Str.ofString "range") p) [e₁, e₂] [] pos) (rangeD a b) tgt := by
  intro A env P s E B I
  refine eval_Call_Name (name_blt bl E I (callWith_machine trivial (plainArgs_any hp) (evalArgs_all hp (by simp) (wpAny_mono (h A env P s pos E B I) (fun vs s₁ ⟨k₁, r₁⟩ => ?_) fun _ _ x => x))))
  cases r₁ with
  | cons r₁ rs =>
    cases rs with
    | cons r₂ rs =>
      cases rs
      cases r₁ with
      | int a t =>
        cases r₂ with
        | int b u =>
          refine call_range_2 ?_
          exact iterRange ht B.hand I (kt k₁ (kpush _ _)) (IsRange.new s₁.heap a b 1 t u s₁.toks) ha hb
theorem ExI.range1 {p pos : Pos} {e₁ : Expr} {b : Int} {tgt : Expr} (bl : Blt C sc (Str.ofString "range") (.type "range")) (h : Exs C n sc l [e₁] [.int b]) (ht : Tgt tgt) (hb : -100000 ≤ b ∧ b ≤ 100000)
    (hp : plainArgs [e₁] = true := by rfl) : ExI C n sc l (.Call (.Name (Str.ofString "range") p) [e₁] [] pos) (rangeD 0 b) tgt := by
  intro A env P s E B I
  refine eval_Call_Name (name_blt bl E I (callWith_machine trivial (plainArgs_any hp) (evalArgs_all hp (by simp) (wpAny_mono (h A env P s pos E B I) (fun vs s₁ ⟨k₁, r₁⟩ => ?_) fun _ _ x => x))))
  cases r₁ with
  | cons r₁ rs =>
    cases rs
    cases r₁ with
    | int b u =>
      refine call_range_1 ?_
      exact iterRange ht B.hand I (kt k₁ (kpush _ _)) (IsRange.new s₁.heap 0 b 1 s₁.toks u (s₁.toks + 1)) (by omega) hb

/-! pairs: enumerate, zip -/
theorem it_pairs {A : Around} {P : Addr → Prop} {s₂ : Shared} {es : List Expr} {k : Nat} {p : Pos} {I : Addr} {fp wr : List Addr} {m : Nat} {Pt : Nat → Array Value → Prop} {St : Nat → Heap → Prop} {Mid : Nat → Addr → Heap → Prop} {ds : List D}
    (W : WalksT C.prog C.w A I fp wr m Pt St Mid) (hm : m = ds.length) (hfp : ∀ b ∈ fp, P b ∧ ∃ o, s₂.heap.get? b = some o) (hp : ∀ b, ¬ P b → ∃ o, s₂.heap.get? b = some o)
    (Rs : Heap → Prop) (hRs : ∀ h h', Rs h → (∀ b o, (P b ∧ ∃ o, s₂.heap.get? b = some o) ∧ b ∉ wr → h.get? b = some o → h'.get? b = some o) → Rs h') (hI : s₂.heap.objs.size = I + 1) (hSt : ∀ i h, St i h → ∃ o, h.get? I = some o) (hlive : ∀ i h, St i h → ∀ b ∈ wr, ∃ o, h.get? b = some o)
    (hrep : ∀ i vals h d, ds[i]? = some d → Pt i vals → Rs h → ∃ es, d = .tuple es ∧ RepAll (fun b => (P b ∧ ∃ o, s₂.heap.get? b = some o) ∧ b ∉ wr) h vals.toList es) :
    It C A I wr (fun b => P b ∧ ∃ o, s₂.heap.get? b = some o) ds (.Tuple es k p) (fun i h => St i h ∧ Rs h) := by
  refine ⟨?_, ?_, ?_, ?_, fun i h st => hlive i h st.1⟩
  · rintro i h h' ⟨h1, h2⟩ hk
    exact ⟨W.frame i h h' h1 fun b hb o e => hk b o (hfp b hb) e, hRs h h' h2 fun b o hb e => hk b o hb.1 e⟩
  · rintro i d s hd ⟨h1, h2⟩
    have hi : i < m := by
      rw [hm]
      rcases Nat.lt_or_ge i ds.length with q | q
      · exact q
      · rw [List.getElem?_eq_none q] at hd; cases hd
    obtain ⟨oI, hoI⟩ := hSt i _ h1
    have hlt := Heap.lt_size hoI
    refine W.item i s _ NoE hi h1 fun T vals h' tk hPt hT htup hmid hk => ⟨_, rfl, ?_⟩
    refine W.go es k p i T _ _ NoE hmid fun h'' hst hk' => ?_
    have hTw : T ∉ wr := W.apart i T h' hmid
    have both : ∀ b o, b ∉ wr → s.heap.get? b = some o → h''.get? b = some o := fun b o hb e => hk' b o hb (hk b o hb e)
    have R' : Rs h'' := hRs s.heap h'' h2 fun b o hb e => both b o hb.2 e
    obtain ⟨es', rfl, ra⟩ := hrep i vals h'' d hd hPt R'
    refine ⟨⟨hst, R'⟩, fun Z hZ hN => .tuple (vs := vals) (hN T ?_) (htup.at fun o e => hk' T o hTw e) (ra.mono (fun b q => hZ b q.1 q.2) fun _ _ _ e => e), h'', tk, rfl, both⟩
    exact Heap.get?_none_of_le hT
  · rintro s ⟨h1, _⟩
    rw [← hm] at h1
    exact W.done s _ NoE h1 fun h' tk hk => ⟨rfl, h', tk, rfl, hk⟩
  · rintro i s Q ⟨h1, _⟩ hQ
    exact W.self i s Q NoE h1 hQ

noncomputable def zipD (as bs : List D) : List D := (as.zip bs).map fun p => .tuple [p.1, p.2]
theorem zipD_get {as bs : List D} {i : Nat} {d : D} (h : (zipD as bs)[i]? = some d) : ∃ a b, as[i]? = some a ∧ bs[i]? = some b ∧ d = .tuple [a, b] := by
  unfold zipD at h
  rw [List.getElem?_map] at h
  cases q : (as.zip bs)[i]? with
  | none => rw [q] at h; cases h
  | some p =>
    rw [q] at h
    obtain ⟨h1, h2⟩ := List.getElem?_zip_eq_some.mp q
    exact ⟨_, _, h1, h2, (Option.some.inj h).symm⟩

theorem ExI.zip {p pos : Pos} {e₁ e₂ : Expr} {as bs : List D} {es : List Expr} {k : Nat} {tp : Pos} (bl : Blt C sc (Str.ofString "zip") (.type "zip")) (h : Exs C n sc l [e₁, e₂] [.list as, .list bs])
    (hp : plainArgs [e₁, e₂] = true := by rfl) : ExI C n sc l (.Call (.Name (Str.ofString "zip") p) [e₁, e₂] [] pos) (zipD as bs) (.Tuple es k tp) := by
  intro A env P s E B I
  refine eval_Call_Name (name_blt bl E I (callWith_machine trivial (plainArgs_any hp) (evalArgs_all hp (by simp) (wpAny_mono (h A env P s pos E B I) (fun vs s₁ ⟨k₁, r₁⟩ => ?_) fun _ _ x => x))))
  have I₁ := I.keeps (up k₁)
  cases r₁ with
  | cons r₁ rs =>
    cases rs with
    | cons r₂ rs =>
      cases rs
      cases r₁ with
      | @list l1 xs _ p1 hl1 ra =>
        cases r₂ with
        | @list l2 ys _ p2 hl2 rb =>
          have a1 : l1 < s₁.heap.objs.size := by obtain ⟨o, ho, _⟩ := id hl1; exact Heap.lt_size ho
          have a2 : l2 < s₁.heap.objs.size := by obtain ⟨o, ho, _⟩ := id hl2; exact Heap.lt_size ho
          refine call_zip_2 hl1 hl2 fun h' hz hTI hTO hi1 hi2 hsz hk => ?_
          refine wpAny_pyIter_zip hz ?_
          have K' : Keeps s₁ { s₁ with heap := h' } := ⟨h', s₁.toks, rfl, hk⟩
          have I' := I₁.keeps hk
          have hN : ∀ b, s₁.heap.objs.size ≤ b → P b := fun b hb => I₁.fresh (Heap.get?_none_of_le hb)
          have fr : ∀ b, s₁.heap.objs.size ≤ b → s.heap.get? b = none := fun b hb => by
            cases q : s.heap.get? b with
            | none => rfl
            | some o => exact absurd (Heap.lt_size (up k₁ _ _ q)) (Nat.not_lt.mpr hb)
          have z1 : xs.size = as.length := by have := ra.length; rwa [Array.length_toList] at this
          have z2 : ys.size = bs.length := by have := rb.length; rwa [Array.length_toList] at this
          have W := WalksT.zip2 (prog := C.prog) (w := C.w) (A := A) B.hand _ _ _ _ _ _ _ (zipApart_new (n := s₁.heap.objs.size) a1 a2) xs ys
          have mem : ∀ b ∈ [s₁.heap.objs.size + 4, s₁.heap.objs.size + 2, s₁.heap.objs.size + 3, s₁.heap.objs.size, s₁.heap.objs.size + 1, l1, l2], P b ∧ ∃ o, h'.get? b = some o := by
            intro b hb
            simp only [List.mem_cons, List.not_mem_nil, or_false] at hb
            rcases hb with rfl | rfl | rfl | rfl | rfl | rfl | rfl
            · exact ⟨hN _ (by omega), _, hz⟩
            · exact ⟨hN _ (by omega), _, hTI⟩
            · exact ⟨hN _ (by omega), _, hTO⟩
            · exact ⟨hN _ (by omega), by obtain ⟨o, ho, _⟩ := hi1; exact ⟨o, ho⟩⟩
            · exact ⟨hN _ (by omega), by obtain ⟨o, ho, _⟩ := hi2; exact ⟨o, ho⟩⟩
            · exact ⟨p1, by obtain ⟨o, ho, _⟩ := hl1; exact ⟨o, hk _ _ ho⟩⟩
            · exact ⟨p2, by obtain ⟨o, ho, _⟩ := hl2; exact ⟨o, hk _ _ ho⟩⟩
          have notw : ∀ b, b < s₁.heap.objs.size → b ∉ [s₁.heap.objs.size + 4, s₁.heap.objs.size + 3, s₁.heap.objs.size, s₁.heap.objs.size + 1] := by
            intro b hb hm
            simp only [List.mem_cons, List.not_mem_nil, or_false] at hm
            rcases hm with h | h | h | h <;> (have := eqN h; omega)
          have lift : ∀ {vs : List Value} {ds : List D}, RepAll P s₁.heap vs ds → RepAll (fun b => (P b ∧ ∃ o, h'.get? b = some o) ∧ b ∉ [s₁.heap.objs.size + 4, s₁.heap.objs.size + 3, s₁.heap.objs.size, s₁.heap.objs.size + 1]) h' vs ds := fun r =>
            r.held.mono (fun b hb => ⟨⟨hb.1, let ⟨o, e⟩ := hb.2; ⟨o, hk b o e⟩⟩, notw b (let ⟨o, e⟩ := hb.2; Heap.lt_size e)⟩) fun b o _ e => hk b o e
          refine ⟨_, _, _, rfl, kt k₁ K', ?_, it_pairs (s₂ := { s₁ with heap := h' }) W ?_ mem (fun b hb => I'.hp b hb)
            (fun h => RepAll (fun b => (P b ∧ ∃ o, h'.get? b = some o) ∧ b ∉ [s₁.heap.objs.size + 4, s₁.heap.objs.size + 3, s₁.heap.objs.size, s₁.heap.objs.size + 1]) h xs.toList as ∧
              RepAll (fun b => (P b ∧ ∃ o, h'.get? b = some o) ∧ b ∉ [s₁.heap.objs.size + 4, s₁.heap.objs.size + 3, s₁.heap.objs.size, s₁.heap.objs.size + 1]) h ys.toList bs) ?_ (by show h'.objs.size = _; rw [hsz]) ?_ ?_ ?_, ⟨hz, hTI, ⟨_, _, hTO⟩, hi1, hi2, hl1.at fun o e => hk _ o e, hl2.at fun o e => hk _ o e⟩, lift ra, lift rb⟩
          · intro b hb
            have := mem b (by simp only [List.mem_cons, List.not_mem_nil, or_false] at hb ⊢; rcases hb with h | h | h | h <;> simp [h])
            exact ⟨fr b (by simp only [List.mem_cons, List.not_mem_nil, or_false] at hb; rcases hb with h | h | h | h <;> (have := eqN h; omega)), this.2⟩
          · unfold zipD
            rw [List.length_map, List.length_zip, z1, z2]
          · rintro h h'' ⟨h1, h2⟩ hk'
            exact ⟨h1.mono (fun _ p => p) fun b o hb e => hk' b o hb e, h2.mono (fun _ p => p) fun b o hb e => hk' b o hb e⟩
          · rintro i h ⟨h1, _⟩
            exact ⟨_, h1⟩
          · rintro i h ⟨h1, _, ⟨_, _, h3⟩, ⟨o4, h4, _⟩, ⟨o5, h5, _⟩, _⟩ b hb
            simp only [List.mem_cons, List.not_mem_nil, or_false] at hb
            rcases hb with q | q | q | q <;> rw [q]
            · exact ⟨_, h1⟩
            · exact ⟨_, h3⟩
            · exact ⟨_, h4⟩
            · exact ⟨_, h5⟩
          · rintro i vals h d hd ⟨x, y, hx, hy, rfl⟩ ⟨h1, h2⟩
            obtain ⟨a, b, ha, hb, rfl⟩ := zipD_get hd
            obtain ⟨u, hu, ru⟩ := h1.get ha
            obtain ⟨v, hv, rv⟩ := h2.get hb
            rw [get_get] at hu hv
            rw [hx] at hu
            rw [hy] at hv
            cases hu; cases hv
            exact ⟨_, rfl, .cons ru (.cons rv .nil)⟩

/-- enumerate of a list written out -/
noncomputable def enumD (i : Nat) : List D → List D
  | [] => []
  | d :: r => .tuple [.int i, d] :: enumD (i + 1) r
theorem enumD_get : ∀ {ds : List D} {i k : Nat} {d : D}, (enumD k ds)[i]? = some d → ∃ e, ds[i]? = some e ∧ d = .tuple [.int ((k + i : Nat) : Int), e]
  | _ :: _, 0, k, d, h => ⟨_, rfl, by cases h; rfl⟩
  | _ :: r, i + 1, k, d, h => by
    obtain ⟨e, h1, h2⟩ := enumD_get (ds := r) (i := i) (k := k + 1) h
    exact ⟨e, h1, by rw [h2]; have : k + 1 + i = k + (i + 1) := by omega
                     rw [this]⟩
theorem enumD_len : ∀ (ds : List D) (k : Nat), (enumD k ds).length = ds.length
  | [], _ => rfl
  | _ :: r, k => by rw [enumD, List.length_cons, List.length_cons, enumD_len r]

theorem ExI.enumDisp {p pos lp : Pos} {elts : List Expr} {ds : List D} {es : List Expr} {k : Nat} {tp : Pos} (bl : Blt C sc (Str.ofString "enumerate") (.type "enumerate")) (h : Exs C n sc l elts ds) (hz : ds.length ≤ 1000) :
    ExI C n sc l (.Call (.Name (Str.ofString "enumerate") p) [.List elts lp] [] pos) (enumD 0 ds) (.Tuple es k tp) := by
  intro A env P s E B I
  refine eval_Call_Name (name_blt bl E I (callWith_machine trivial (plainArgs_any rfl) (evalArgs_all rfl (by simp) ?_)))
  refine wpAny_items_cons (wpAny_List (wpAny_mono (h A env P s lp E B I) (fun vs s₀ ⟨k₀, r₀⟩ => ⟨by rw [r₀.length, sizeLine_eq]; omega, wpAny_items_nil ?_⟩) fun _ _ x => x))
  have I₀ := I.keeps (up k₀)
  have hl : ({ s₀ with heap := s₀.heap.push { cls := .type "list", data := .seq vs.toArray } } : Shared).heap.get? s₀.heap.objs.size = some _ := Heap.get?_push_size _ rfl
  have k₁ : Keeps s { s₀ with heap := s₀.heap.push { cls := .type "list", data := .seq vs.toArray } } := kt k₀ (kpush _ _)
  have I₁ := I.keeps (up k₁)
  have ra : RepAll P (s₀.heap.push { cls := .type "list", data := .seq vs.toArray }) vs.toArray.toList ds := r₀.keeps (up (kpush (s := s₀) { cls := .type "list", data := .seq vs.toArray } s₀.toks))
  have hla : P s₀.heap.objs.size := I₀.fresh (get_size _)
  have ra' : RepAll P ({ s₀ with heap := s₀.heap.push { cls := .type "list", data := .seq vs.toArray } } : Shared).heap vs.toArray.toList ds := ra
  generalize hs₁ : ({ s₀ with heap := s₀.heap.push { cls := .type "list", data := .seq vs.toArray } } : Shared) = s₁ at hl k₁ I₁ ra'
  have hll : s₀.heap.objs.size < s₁.heap.objs.size := Heap.lt_size hl
  refine call_enumerate_1 hl fun h' he hit hsz hk => ?_
  refine wpAny_pyIter_enum he ?_
  have K' : Keeps s₁ { s₁ with heap := h' } := ⟨h', s₁.toks, rfl, hk⟩
  have I' := I₁.keeps hk
  have hN : ∀ b, s₁.heap.objs.size ≤ b → P b := fun b hb => I₁.fresh (Heap.get?_none_of_le hb)
  have fr : ∀ b, s₁.heap.objs.size ≤ b → s.heap.get? b = none := fun b hb => by
    cases q : s.heap.get? b with
    | none => rfl
    | some o => exact absurd (Heap.lt_size (up k₁ _ _ q)) (Nat.not_lt.mpr hb)
  have hisl : h'.IsList s₀.heap.objs.size vs.toArray := ⟨_, hk _ _ hl, rfl, _, rfl⟩
  have W := WalksT.enumerate (prog := C.prog) (w := C.w) (A := A) B.hand (s₁.heap.objs.size + 1) s₁.heap.objs.size s₀.heap.objs.size (Nat.succ_ne_self _) (Nat.ne_of_lt (Nat.lt_succ_of_lt hll)) (Nat.ne_of_lt hll) vs.toArray
  have mem : ∀ b ∈ [s₁.heap.objs.size + 1, s₁.heap.objs.size, s₀.heap.objs.size], P b ∧ ∃ o, h'.get? b = some o := by
    intro b hb
    simp only [List.mem_cons, List.not_mem_nil, or_false] at hb
    rcases hb with rfl | rfl | rfl
    · exact ⟨hN _ (by omega), _, he⟩
    · exact ⟨hN _ (by omega), by obtain ⟨o, ho, _⟩ := hit; exact ⟨o, ho⟩⟩
    · exact ⟨hla, _, hk _ _ hl⟩
  refine ⟨_, _, _, rfl, kt k₁ K', ?_, it_pairs (s₂ := { s₁ with heap := h' }) W ?_ mem (fun b hb => I'.hp b hb)
    (fun h => RepAll (fun b => (P b ∧ ∃ o, h'.get? b = some o) ∧ b ∉ [s₁.heap.objs.size + 1, s₁.heap.objs.size]) h vs.toArray.toList ds) ?_ (by show h'.objs.size = _; rw [hsz]) ?_ ?_ ?_, ⟨⟨_, he⟩, hit, hisl⟩, ?_⟩
  · intro b hb
    have := mem b (by simp only [List.mem_cons, List.not_mem_nil, or_false] at hb ⊢; rcases hb with h | h <;> simp [h])
    exact ⟨fr b (by simp only [List.mem_cons, List.not_mem_nil, or_false] at hb; rcases hb with h | h <;> (exact h ▸ (by first | exact Nat.le_refl _ | exact Nat.le_succ _))), this.2⟩
  · rw [enumD_len, ← r₀.length, List.size_toArray]
  · rintro h h'' h1 hk'
    exact h1.mono (fun _ p => p) fun b o hb e => hk' b o hb e
  · rintro i h ⟨⟨old, h1⟩, _⟩
    exact ⟨_, h1⟩
  · rintro i h ⟨⟨old, h1⟩, ⟨o4, h4, _⟩, _⟩ b hb
    simp only [List.mem_cons, List.not_mem_nil, or_false] at hb
    rcases hb with q | q <;> rw [q]
    · exact ⟨_, h1⟩
    · exact ⟨_, h4⟩
  · rintro i vals h d hd ⟨t, x, hx, rfl⟩ h1
    obtain ⟨e, he', rfl⟩ := enumD_get hd
    obtain ⟨u, hu, ru⟩ := h1.get he'
    rw [get_get] at hu
    rw [hx] at hu
    cases hu
    exact ⟨_, rfl, .cons (by rw [Nat.zero_add]; exact .int _ _) (.cons ru .nil)⟩
  · refine ra'.held.mono (fun b hb => ⟨⟨hb.1, let ⟨o, e⟩ := hb.2; ⟨o, hk b o e⟩⟩, ?_⟩) fun b o _ e => hk b o e
    obtain ⟨o, e⟩ := hb.2
    have hlt : @LT.lt Nat _ b s₁.heap.objs.size := Heap.lt_size e
    simp only [List.mem_cons, List.not_mem_nil, or_false]
    rintro (h | h) <;> (have := eqN h; omega)
end
end Mine

end
section
open PySem PySem.Calls PyProof.Rows PySem.W PySem.Spec PySem.SeqAt
namespace Mine
set_option Elab.async false
set_option maxRecDepth 10000

theorem SInv.shrink {C : Cx} {h₀ : Heap} {env : Env} {P : Addr → Prop} {l : Loc} {o : Option (String × List D)} {a : Option Addr} {h h' : Heap} {wr : List Addr} (S : SInv C h₀ env P l o a h) (hk : ∀ b o, h.get? b = some o → h'.get? b = some o)
    (hw : ∀ b ∈ wr, h.get? b = none ∧ ∃ o, h'.get? b = some o) : SInv C h₀ env (fun b => P b ∧ b ∉ wr) l o a h' := by
  have S' := S.keeps hk
  have out : ∀ b, (∃ o, h.get? b = some o) → b ∉ wr := fun b ⟨o, e⟩ hb => by rw [(hw b hb).1] at e; cases e
  have rep : ∀ {v : Value} {d : D}, Rep (fun b => P b ∧ a ≠ some b) h v d → Rep (fun b => (P b ∧ b ∉ wr) ∧ a ≠ some b) h' v d := fun r => r.held.mono (fun b hb => ⟨⟨hb.1.1, out b hb.2⟩, hb.1.2⟩) fun b o _ e => hk b o e
  refine ⟨⟨S'.inv.kit, fun b hb => ?_, ?_⟩, fun q => S.lp q.1, fun x c e => ?_, S.cinj, ?_, S.clx, S.kit₀, S'.sub₀, S.no₀⟩
  · by_cases q : b ∈ wr
    · exact (hw b q).2
    · exact S'.inv.hp b fun z => hb ⟨⟨z.1, q⟩, z.2⟩
  · obtain ⟨m, hn, hv⟩ := S.inv.ns
    exact ⟨m, hn.keeps hk, fun x d e => let ⟨v, h1, h2⟩ := hv x d e; ⟨v, h1.keeps hk, rep h2⟩⟩
  · obtain ⟨h1, h2, h3⟩ := S'.cl x c e
    exact ⟨fun q => h1 q.1, h2, h3⟩
  · have O := S.own
    cases o with
    | none => cases a with
      | none => trivial
      | some a => exact O
    | some p => cases a with
      | none => exact O
      | some a =>
        obtain ⟨h1, h2, h3, ⟨m₁, h4, h5⟩, vs, h6, h7⟩ := O
        have ha : a ∉ wr := out a (let ⟨o, _, e, _⟩ := h6; ⟨o, e⟩)
        exact ⟨⟨h1, ha⟩, h2, h3, ⟨m₁, h4.keeps hk, h5⟩, vs, h6.keeps hk, h7.held.mono (fun b hb => ⟨⟨hb.1.1, out b hb.2⟩, hb.1.2⟩) fun b o _ e => hk b o e⟩

theorem SInv.widen {C : Cx} {h₀ : Heap} {env : Env} {P : Addr → Prop} {l l₀ : Loc} {o o₀ : Option (String × List D)} {a : Option Addr} {h h₁ : Heap} {wr : List Addr} (S₀ : SInv C h₀ env P l₀ o₀ a h₁) (S : SInv C h₀ env (fun b => P b ∧ b ∉ wr) l o a h) : SInv C h₀ env P l o a h := by
  refine ⟨⟨S.inv.kit, fun b hb => S.inv.hp b fun z => hb ⟨z.1.1, z.2⟩, ?_⟩, S₀.lp, fun x c e => ?_, S.cinj, ?_, S.clx, S.kit₀, S.sub₀, S.no₀⟩
  · obtain ⟨m, hn, hv⟩ := S.inv.ns
    exact ⟨m, hn, fun x d e => let ⟨v, h1, h2⟩ := hv x d e; ⟨v, h1, h2.mono (fun _ q => ⟨q.1.1, q.2⟩) fun _ _ _ e => e⟩⟩
  · obtain ⟨_, h2, h3⟩ := S.cl x c e
    exact ⟨(S₀.cl x c e).1, h2, h3⟩
  · have O := S.own
    cases o with
    | none => cases a with
      | none => trivial
      | some a => exact O
    | some p => cases a with
      | none => exact O
      | some a =>
        obtain ⟨h1, h2, h3, h4, vs, h6, h7⟩ := O
        exact ⟨h1.1, h2, h3, h4, vs, h6, h7.mono (fun _ q => ⟨q.1.1, q.2⟩) fun _ _ _ e => e⟩

/-- a change at the iterator's own places -/
theorem SInv.kw {C : Cx} {h₀ : Heap} {env : Env} {P : Addr → Prop} {l : Loc} {o : Option (String × List D)} {a : Option Addr} {h h' : Heap} {wr : List Addr} (S : SInv C h₀ env (fun b => P b ∧ b ∉ wr) l o a h) (hk : ∀ b o, b ∉ wr → h.get? b = some o → h'.get? b = some o)
    (hw : ∀ b ∈ wr, h₀.get? b = none ∧ ¬ Mut env a b ∧ ∃ o, h'.get? b = some o) : SInv C h₀ env (fun b => P b ∧ b ∉ wr) l o a h' := by
  have sub : ∀ b o, h₀.get? b = some o → h'.get? b = some o := fun b o e => hk b o (fun q => by rw [(hw b q).1] at e; cases e) (S.sub₀ b o e)
  have hL : env.locals ∉ wr := fun q => (hw _ q).2.1 (.inl rfl)
  have hC : ∀ x c, env.cells.lookup x = some c → c ∉ wr := fun x c e q => (hw _ q).2.1 (.inr (.inl ⟨x, e⟩))
  have ns : ∀ m, h.Ns env.locals m → h'.Ns env.locals m := fun m hn => hn.at' fun o e => hk _ o hL e
  have rep : ∀ {Z : Addr → Prop} {v : Value} {d : D}, (∀ b, Z b → b ∉ wr) → Rep Z h v d → Rep Z h' v d := fun hz r => r.mono (fun _ q => q) fun b o q e => hk b o (hz b q) e
  refine ⟨⟨S.kit₀.keeps sub, fun b hb => ?_, ?_⟩, S.lp, fun x c e => ?_, S.cinj, ?_, S.clx, S.kit₀, sub, S.no₀⟩
  · by_cases q : b ∈ wr
    · exact (hw b q).2.2
    · obtain ⟨o, e⟩ := S.inv.hp b hb
      exact ⟨o, hk b o q e⟩
  · obtain ⟨m, hn, hv⟩ := S.inv.ns
    refine ⟨m, ns m hn, fun x d e => ?_⟩
    obtain ⟨v, h1, h2⟩ := hv x d e
    refine ⟨v, h1.imp id fun ⟨a, c, e, ob, ho, hd⟩ => ⟨a, c, e, ob, hk _ _ (hC _ c e) ho, hd⟩, rep (fun _ q => q.1.2) h2⟩
  · obtain ⟨h1, h2, ov, ob, ho, hd⟩ := S.cl x c e
    exact ⟨h1, h2, ov, ob, hk _ _ (hC x c e) ho, hd⟩
  · have O := S.own
    cases o with
    | none => cases a with
      | none => trivial
      | some a => exact O
    | some p => cases a with
      | none => exact O
      | some a =>
        obtain ⟨h1, h2, h3, ⟨m₁, h4, h5⟩, vs, ⟨ob, nn, ho, r⟩, h7⟩ := O
        exact ⟨h1, h2, h3, ⟨m₁, ns _ h4, h5⟩, vs, ⟨ob, nn, hk _ _ h1.2 ho, r⟩, h7.mono (fun _ q => q) fun b o q e => hk b o q.1.2 e⟩

/-- the iterator is at its end -/
theorem SInv.finish {C : Cx} {h₀ : Heap} {env : Env} {P : Addr → Prop} {l l₀ : Loc} {o o₀ : Option (String × List D)} {a : Option Addr} {h h₁ h' : Heap} {wr : List Addr} (S₀ : SInv C h₀ env P l₀ o₀ a h₁) (S : SInv C h₀ env (fun b => P b ∧ b ∉ wr) l o a h)
    (hk : ∀ b o, b ∉ wr → h.get? b = some o → h'.get? b = some o) (hw : ∀ b ∈ wr, h₀.get? b = none ∧ ¬ Mut env a b ∧ (P b ∧ a ≠ some b)) : SInv C h₀ env P l o a h' := by
  have sub : ∀ b o, h₀.get? b = some o → h'.get? b = some o := fun b o e => hk b o (fun q => by rw [(hw b q).1] at e; cases e) (S.sub₀ b o e)
  have hL : env.locals ∉ wr := fun q => (hw _ q).2.1 (.inl rfl)
  have hC : ∀ x c, env.cells.lookup x = some c → c ∉ wr := fun x c e q => (hw _ q).2.1 (.inr (.inl ⟨x, e⟩))
  have ns : ∀ m, h.Ns env.locals m → h'.Ns env.locals m := fun m hn => hn.at' fun o e => hk _ o hL e
  refine ⟨⟨S.kit₀.keeps sub, fun b hb => ?_, ?_⟩, S₀.lp, fun x c e => ?_, S.cinj, ?_, S.clx, S.kit₀, sub, S.no₀⟩
  · have q : b ∉ wr := fun q => hb (hw b q).2.2
    obtain ⟨o, e⟩ := S.inv.hp b fun z => hb ⟨z.1.1, z.2⟩
    exact ⟨o, hk b o q e⟩
  · obtain ⟨m, hn, hv⟩ := S.inv.ns
    refine ⟨m, ns m hn, fun x d e => ?_⟩
    obtain ⟨v, h1, h2⟩ := hv x d e
    exact ⟨v, h1.imp id fun ⟨a, c, e, ob, ho, hd⟩ => ⟨a, c, e, ob, hk _ _ (hC _ c e) ho, hd⟩, h2.mono (fun _ q => ⟨q.1.1, q.2⟩) fun b o q e => hk b o q.1.2 e⟩
  · obtain ⟨h1, h2, ov, ob, ho, hd⟩ := S.cl x c e
    exact ⟨(S₀.cl x c e).1, h2, ov, ob, hk _ _ (hC x c e) ho, hd⟩
  · have O := S.own
    cases o with
    | none => cases a with
      | none => trivial
      | some a => exact O
    | some p => cases a with
      | none => exact O
      | some a =>
        obtain ⟨h1, h2, h3, ⟨m₁, h4, h5⟩, vs, ⟨ob, nn, ho, r⟩, h7⟩ := O
        exact ⟨h1.1, h2, h3, ⟨m₁, ns _ h4, h5⟩, vs, ⟨ob, nn, hk _ _ h1.2 ho, r⟩, h7.mono (fun _ q => ⟨q.1.1, q.2⟩) fun b o q e => hk b o q.1.2 e⟩

/-- what a turn's target takes -/
inductive Bind (sc : Scope) (o : Option (String × List D)) : Expr → D → Loc → Loc → Prop where
  | name {x : String} {p : Pos} {d : D} {l : Loc} : (sc.names.lookup (Str.ofString x) = some .local ∨ sc.names.lookup (Str.ofString x) = some .cell) → (∀ y ds, o = some (y, ds) → x ≠ y) → Bind sc o (.Name (Str.ofString x) p) d l (put x d l)
  | pair {x y : String} {p q r : Pos} {k : Nat} {d e : D} {l : Loc} : (sc.names.lookup (Str.ofString x) = some .local ∨ sc.names.lookup (Str.ofString x) = some .cell) → (sc.names.lookup (Str.ofString y) = some .local ∨ sc.names.lookup (Str.ofString y) = some .cell) → (∀ z ds, o = some (z, ds) → x ≠ z) → (∀ z ds, o = some (z, ds) → y ≠ z) →
      Bind sc o (.Tuple [.Name (Str.ofString x) p, .Name (Str.ofString y) q] k r) (.tuple [d, e]) l (put y e (put x d l))

theorem assign_bind {C : Cx} {h₀ : Heap} {A : Around} {env : Env} {sc : Scope} {P : Addr → Prop} {l l₁ : Loc} {o : Option (String × List D)} {a : Option Addr} {s : Shared} {tgt : Expr} {v : Value} {d : D} (E : EnvIs sc env) (hh : A.handled = none)
    (S : SInv C h₀ env P l o a s.heap) (b : Bind sc o tgt d l l₁) (r : Rep (fun b => P b ∧ a ≠ some b) s.heap v d) {Q : Unit → Shared → Prop}
    (hQ : ∀ h' tk, SInv C h₀ env P l₁ o a h' → KB env a s.heap h' → Q () { s with heap := h', toks := tk }) : wpAny (model C.prog C.w) A (assign tgt env v) Q NoE s := by
  have hkind : ∀ x, env.kindOf x = sc.names.lookup x := fun x => by unfold Env.kindOf; rw [E.scope]
  cases b with
  | name hx ho => exact wpAny_assign_Name (store (E.scope ▸ E.kind) S (by rw [hkind]; exact hx) ho r hQ)
  | @pair x y p q rr k d e l hx hy ho ho' =>
    cases r with
    | @tuple t vs _ pt htup ra =>
      have hvs : ∃ u w, vs = #[u, w] := by
        have z := ra.length
        rw [Array.length_toList] at z
        obtain ⟨vl⟩ := vs
        match vl, z with
        | [u, w], _ => exact ⟨u, w, rfl⟩
      obtain ⟨u, w, rfl⟩ := hvs
      refine wpAny_assign_Tuple hh htup rfl rfl fun h' he => ?_
      have hk : ∀ b o, s.heap.get? b = some o → h'.get? b = some o := fun b o e => he b o (fun q => by rw [q, get_size] at e; cases e) e
      have S' := S.keeps hk
      have ra' := ra.keeps hk
      cases ra' with
      | cons r1 rs =>
        cases rs with
        | cons r2 rs =>
          show wpAny _ _ (do holding [w] (assign (.Name (Str.ofString x) p) env u); assignInOrder [assign (.Name (Str.ofString y) q) env] [w]) _ _ _
          refine wpAny_bind (wpAny_holding (wpAny_assign_Name (store (s := { s with heap := h' }) (E.scope ▸ E.kind) S' (by rw [hkind]; exact hx) ho r1 fun h₂ tk₂ S₂ k₂ => ?_)))
          show wpAny _ _ (do holding [] (assign (.Name (Str.ofString y) q) env w); assignInOrder [] []) _ _ _
          have r2' : Rep (fun b => P b ∧ a ≠ some b) h₂ w e := r2.mono (fun _ q => q) fun b o q e => k₂ b o (S'.mutNot q) e
          refine wpAny_bind (wpAny_holding (wpAny_assign_Name (store (s := { s with heap := h₂, toks := tk₂ }) (E.scope ▸ E.kind) S₂ (by rw [hkind]; exact hy) ho' r2' fun h₃ tk₃ S₃ k₃ => ?_)))
          exact wpAny_pure (hQ h₃ tk₃ S₃ ((KB.of hk).trans (k₂.trans k₃)))

/-- behind a turn -/
noncomputable def stepQ (J : Loc → Option (String × List D) → Prop) (Q : D → Prop) : Out → Prop
  | .next l o => J l o
  | .ret d => Q d
section
variable {C : Cx} {n : Nat} {sc : Scope} {l : Loc} {o : Option (String × List D)} {Q Q' : Out → Prop}

theorem S1T.for {tgt iter : Expr} {body : List Stmt} {pos : Pos} {ds : List D} {k : Nat} {Q : Out → Nat → Prop} (hi : ExI C n sc l iter ds tgt) (J : Nat → Loc → Option (String × List D) → Nat → Prop) (h0 : J 0 l o k) (hJ : ∀ i l o k k', J i l o k → k ≤ k' → J i l o k')
    (turn : ∀ i d l' o' k', ds[i]? = some d → J i l' o' k' → k ≤ k' → ∃ l₁, Bind sc o' tgt d l' l₁ ∧ SxT C n sc l₁ o' k' body (fun x k'' => stepQ (fun l₂ o₂ => J (i + 1) l₂ o₂ k'') (fun d => Q (.ret d) k'') x))
    (fin : ∀ l' o' k', J ds.length l' o' k' → k ≤ k' → Q (.next l' o') k') (hs : ∀ env x, foldedSetIterable iter env x = pure x := by intro _ _; rfl) : S1T C n sc l o k (.For tgt iter body [] pos) Q := by
  intro A h₀ env P s a E B S hks
  refine wpAny_For (wpAny_mono (wpAny_toks (hi A env _ s E B S.inv)) (fun x s₁ h₁ => wpAny_mono (wpAny_toks h₁.1) (fun it s₂ h₂ => ?_) fun _ _ x => x.1.elim) fun _ _ x => x.1.elim) (hs env)
  obtain ⟨⟨I, wr, St, rfl, k₂, hw, W, st₀⟩, htk₂⟩ := h₂
  have htk₀ : k ≤ s₂.toks := Nat.le_trans hks (Nat.le_trans h₁.2 htk₂)
  have hwx : ∀ b ∈ wr, h₀.get? b = none ∧ ¬ Mut env a b := by
    intro b hb
    have e := (hw b hb).1
    refine ⟨?_, ?_⟩
    · cases q : h₀.get? b with
      | none => rfl
      | some ob => rw [S.sub₀ _ _ q] at e; cases e
    · rintro (q | ⟨x, q⟩ | q)
      · obtain ⟨m, ⟨ob, _, _, hob, _⟩, _⟩ := S.inv.ns
        rw [← q, e] at hob; cases hob
      · obtain ⟨_, _, ov, ob, hob, _⟩ := S.cl x b q
        rw [e] at hob; cases hob
      · have O := S.own
        subst q
        cases o with
        | none => exact O
        | some p =>
          obtain ⟨_, _, _, _, vs, ⟨ob, _, hob, _⟩, _⟩ := O
          rw [e] at hob; cases hob
  have S₂ := S.shrink (up k₂) hw
  have fpMut : ∀ b, ((P b ∧ a ≠ some b) ∧ ∃ ob, s₂.heap.get? b = some ob) → ¬ Mut env a b := fun b hb => S.mutNot hb.1
  refine codeAny_forLoop_any (fun k₀ s' => ∃ i l' o', k₀ = ds.length + 1 - i ∧ i ≤ ds.length ∧ (J i l' o' s'.toks ∧ k ≤ s'.toks) ∧ SInv C h₀ env (fun b => P b ∧ b ∉ wr) l' o' a s'.heap ∧ St i s'.heap ∧ (∃ h' tk, s' = { s with heap := h', toks := tk } ∧ KB env a s.heap h')) ?_ (ds.length + 1)
    ⟨0, l, o, rfl, Nat.zero_le _, ⟨hJ _ _ _ _ _ h0 htk₀, htk₀⟩, S₂, st₀, kbOf k₂⟩
  have kwOf : ∀ {s' s'' : Shared}, KW wr s' s'' → (∃ h' tk, s' = { s with heap := h', toks := tk } ∧ KB env a s.heap h') → ∃ h' tk, s'' = { s with heap := h', toks := tk } ∧ KB env a s.heap h' := by
    rintro s' s'' ⟨h2, t2, rfl, k2⟩ ⟨h1, t1, rfl, k1⟩
    exact ⟨h2, t2, rfl, fun b ob hb e => k2 b ob (fun q => by rw [(hw b q).1] at e; cases e) (k1 b ob hb e)⟩
  rintro k₀ s' ⟨i, l', o', rfl, hle, ⟨hJ', hks'⟩, S', st, kb⟩
  by_cases hlt : i < ds.length
  · have hd : ds[i]? = some ds[i] := List.getElem?_eq_getElem hlt
    refine wpAny_mono (wpAny_toks (W.next i _ s' hd st)) (fun r s₁ h₁ => ?_) fun _ _ x => x.1.elim
    obtain ⟨⟨v, rfl, h₁⟩, htk₁⟩ := h₁
    refine wpAny_mono (wpAny_toks h₁) (fun _ s₂' h₂ => ?_) fun _ _ x => x.1.elim
    obtain ⟨⟨st₂, rv, kw⟩, htk₂'⟩ := h₂
    have kb₂ := kwOf kw kb
    obtain ⟨h', tk, rfl, kw⟩ := kw
    have S₂' := S'.kw kw fun b hb => ⟨(hwx b hb).1, (hwx b hb).2, W.live _ _ st₂ b hb⟩
    obtain ⟨l₁, hb, hbody⟩ := turn i _ l' o' s'.toks hd hJ' hks'
    refine wpAny_mono (wpAny_toks (assign_bind (s := { s' with heap := h', toks := tk }) (Q := fun _ s₃ => (s'.toks ≤ s₃.toks → wpAny (model C.prog C.w) A (execs body env) (fun f s'' => Post C h₀ env (fun b => P b ∧ b ∉ wr) a s₃ (fun x => stepQ (fun l₂ o₂ => J (i + 1) l₂ o₂ s''.toks) (fun d => Q (.ret d) s''.toks) x) f s'') NoE s₃) ∧ St (i + 1) s₃.heap ∧ ∃ h' tk, s₃ = { s with heap := h', toks := tk } ∧ KB env a s.heap h') E B.hand S₂' hb (rv _ (fun b q q2 => ⟨⟨q.1.1, q2⟩, q.1.2⟩) fun b hb => fresh_of S'.inv.hp hb) fun h₃ tk₃ S₃ k₃ => ⟨fun htk => hbody A h₀ env _ _ a E B S₃ htk, W.frame _ _ _ st₂ fun b ob hb e => k₃ b ob (fpMut b hb) e, ?_⟩)) (fun _ s₃ h₃ => ?_) fun _ _ x => x.1.elim
    · obtain ⟨h1, t1, e1, kb₂⟩ := kb₂
      obtain ⟨h0', t0', rfl, _⟩ := kb
      cases e1
      exact ⟨h₃, tk₃, rfl, kb₂.trans k₃⟩
    · obtain ⟨⟨hb, st₃, kb₃⟩, htk₃⟩ := h₃
      have htk₃' : s'.toks ≤ s₃.toks := Nat.le_trans htk₁ (Nat.le_trans htk₂' htk₃)
      refine wpAny_mono (wpAny_toks (hb htk₃')) (fun f s₄ p => ?_) fun _ _ x => x.1.elim
      obtain ⟨⟨h₄, tk₄, rfl, k₄, p⟩, htk₄⟩ := p
      have kb₄ : ∃ h' tk, ({ s₃ with heap := h₄, toks := tk₄ } : Shared) = { s with heap := h', toks := tk } ∧ KB env a s.heap h' := by
        obtain ⟨h1, t1, rfl, k1⟩ := kb₃
        exact ⟨h₄, tk₄, rfl, k1.trans k₄⟩
      cases f with
      | next =>
        obtain ⟨l₂, o₂, q, S₄⟩ := p
        exact ⟨ds.length + 1 - (i + 1), by omega, i + 1, l₂, o₂, rfl, hlt, ⟨q, Nat.le_trans hks' (Nat.le_trans htk₃' htk₄)⟩, S₄, W.frame _ _ _ st₃ fun b ob hb e => k₄ b ob (fpMut b hb) e, kb₄⟩
      | ret v =>
        obtain ⟨d, q, R⟩ := p
        obtain ⟨h1, t1, e1, k1⟩ := kb₄
        have eh : h₄ = h1 := congrArg (·.heap) e1
        subst eh
        refine ⟨h₄, t1, e1, k1, d, q, ?_⟩
        exact R.mono (fun _ q => q.1) fun _ _ _ e => e
      | brk => exact p.elim
      | cont => exact p.elim
  · have hin : i = ds.length := by omega
    subst hin
    refine wpAny_mono (wpAny_toks (W.done s' st)) (fun r s₁ h₁ => ?_) fun _ _ x => x.1.elim
    obtain ⟨⟨rfl, kw⟩, htk₁⟩ := h₁
    refine wpAny_execs_nil ?_
    obtain ⟨h1, t1, e1, k1⟩ := kwOf kw kb
    refine ⟨h1, t1, e1, k1, l', o', fin l' o' _ (hJ _ _ _ _ _ hJ' htk₁) (Nat.le_trans hks' htk₁), ?_⟩
    obtain ⟨h2, t2, e2, k2⟩ := kw
    have eh : h2 = h1 := by rw [e2] at e1; exact congrArg (·.heap) e1
    subst eh
    exact S.finish S' k2 fun b hb => ⟨(hwx b hb).1, (hwx b hb).2, S.inv.fresh (hw b hb).1⟩
theorem S1.for {tgt iter : Expr} {body : List Stmt} {pos : Pos} {ds : List D} (hi : ExI C n sc l iter ds tgt) (J : Nat → Loc → Option (String × List D) → Prop) (h0 : J 0 l o)
    (turn : ∀ i d l' o', ds[i]? = some d → J i l' o' → ∃ l₁, Bind sc o' tgt d l' l₁ ∧ Sx C n sc l₁ o' body (stepQ (fun l₂ o₂ => J (i + 1) l₂ o₂) (fun d => Q (.ret d))))
    (fin : ∀ l' o', J ds.length l' o' → Q (.next l' o')) (hs : ∀ env x, foldedSetIterable iter env x = pure x := by intro _ _; rfl) : S1 C n sc l o (.For tgt iter body [] pos) Q :=
  S1T.plain (S1T.for hi (fun i l o _ => J i l o) h0 (fun _ _ _ _ _ h _ => h) (fun i d l' o' k' hd h _ => let ⟨l₁, hb, hs⟩ := turn i d l' o' hd h; ⟨l₁, hb, hs.T fun x _ q _ => by cases x <;> exact q⟩) (fun l' o' _ h _ => fin l' o' h) hs)
end
end Mine

end
section
open PySem PySem.Calls PyProof.Rows PySem.W PySem.Spec PySem.SeqAt
namespace Mine
set_option Elab.async false
set_option maxRecDepth 10000

theorem ns_unique {h : Heap} {L : Addr} {m m' : Str → Option Value} (x : h.Ns L m) (y : h.Ns L m') : m = m' := by
  obtain ⟨o1, es1, ep1, e1, d1, _, f1⟩ := x
  obtain ⟨o2, es2, ep2, e2, d2, _, f2⟩ := y
  rw [e1] at e2; cases e2
  rw [d1] at d2; cases d2
  funext z
  rw [← f1, ← f2]

/-- all names readable, the growing list too -/
noncomputable def fz (l : Loc) : Option (String × List D) → Loc
  | none => l
  | some (x, ds) => put x (.list ds) l
theorem SInv.frozen {C : Cx} {h₀ : Heap} {env : Env} {P : Addr → Prop} {l : Loc} {o : Option (String × List D)} {a : Option Addr} {h : Heap} (S : SInv C h₀ env P l o a h) : Inv C env P (fz l o) h := by
  have O := S.own
  have hp : ∀ b, ¬ P b → ∃ o, h.get? b = some o := fun b hb => S.inv.hp b fun z => hb z.1
  cases o with
  | none => cases a with
    | none =>
      obtain ⟨m, hn, hv⟩ := S.inv.ns
      exact ⟨S.inv.kit, hp, m, hn, fun x d e => let ⟨v, h1, h2⟩ := hv x d e; ⟨v, h1, h2.mono (fun _ q => q.1) fun _ _ _ e => e⟩⟩
    | some a => exact O.elim
  | some p => cases a with
    | none => exact O.elim
    | some a =>
      obtain ⟨h1, h2, h3, ⟨m₁, h4, h5⟩, vs, h6, h7⟩ := O
      obtain ⟨m, hn, hv⟩ := S.inv.ns
      have e := ns_unique h4 hn
      subst e
      refine ⟨S.inv.kit, hp, m₁, hn, fun x d e => ?_⟩
      by_cases q : x = p.1
      · subst q
        have e' : d = .list p.2 := by
          have := e
          rw [show fz l (some p) = put p.1 (.list p.2) l from rfl, put_same] at this
          exact (Option.some.inj this).symm
        subst e'
        exact ⟨.ref a, .inl ⟨h3, h5⟩, .list h1 h6.isList (h7.mono (fun _ q => q.1) fun _ _ _ e => e)⟩
      · have e' : l x = some d := by
          have := e
          rwa [show fz l (some p) = put p.1 (.list p.2) l from rfl, put_ne _ _ q] at this
        obtain ⟨v, g1, g2⟩ := hv x d e'
        exact ⟨v, g1, g2.mono (fun _ q => q.1) fun _ _ _ e => e⟩

/-- data without an address -/
inductive Flat : D → Prop where
  | none : Flat .none
  | bool (b : Bool) : Flat (.bool b)
  | int (i : Int) : Flat (.int i)
  | str (x : Str) : Flat (.str x)
  | bytes (b : Array UInt8) : Flat (.bytes b)
theorem Rep.flat {P P' : Addr → Prop} {h h' : Heap} {v : Value} {d : D} (f : Flat d) (r : Rep P h v d) : Rep P' h' v d := by
  cases f <;> cases r
  · exact .none
  · exact .bool _
  · exact .int _ _
  · exact .str _ _
  · exact .bytes _ _

section
variable {C : Cx} {n : Nat} {sc : Scope} {l : Loc} {o : Option (String × List D)} {Q Q' : Out → Prop}

theorem S1.iteF {t : Expr} {b c : List Stmt} {pos : Pos} {v : Bool} (ht : Tx C n sc (fz l o) t v) (h₁ : v = true → Sx C n sc l o b Q) (h₂ : v = false → Sx C n sc l o c Q) : S1 C n sc l o (.If t b c pos) Q := by
  intro A h₀ env P s a E B S
  refine wpAny_If (wpAny_mono (ht A env _ s E B S.frozen) (fun b' s₁ ⟨k₁, e⟩ => ?_) fun _ _ x => x)
  subst e
  have S₁ := S.keeps (up k₁)
  cases b' with
  | true => exact wpAny_mono (h₁ rfl A h₀ env P s₁ a E B S₁) (fun f s₂ p => p.after (kbOf k₁)) fun _ _ x => x
  | false => exact wpAny_mono (h₂ rfl A h₀ env P s₁ a E B S₁) (fun f s₂ p => p.after (kbOf k₁)) fun _ _ x => x
theorem S1.skipF {t : Expr} {b : List Stmt} {pos : Pos} (ht : Tx C n sc (fz l o) t false) (hq : Q (.next l o)) : S1 C n sc l o (.If t b [] pos) Q := .iteF ht (fun e => by cases e) fun _ => .nil hq
theorem S1.retF {e : Expr} {pos : Pos} {d : D} (he : Ex C n sc (fz l o) e d) (hq : Q (.ret d)) : S1 C n sc l o (.Return (some e) pos) Q := by
  intro A h₀ env P s a E B S
  refine wpAny_Return_some (wpAny_mono (he A env _ s E B S.frozen) (fun v s₁ ⟨k₁, r₁⟩ => ?_) fun _ _ x => x)
  exact Post.after (kbOf k₁) ⟨s₁.heap, s₁.toks, rfl, .of fun _ _ e => e, d, hq, r₁⟩

/-- the list grows by one -/
theorem SInv.grown {C : Cx} {h₀ : Heap} {env : Env} {P : Addr → Prop} {l : Loc} {x : String} {ds : List D} {d : D} {a : Addr} {h h' : Heap} {vs : Array Value} {v : Value} (S : SInv C h₀ env P l (some (x, ds)) (some a) h) (hp : PlainL h a vs) (ra : RepAll (fun b => P b ∧ some a ≠ some b) h vs.toList ds)
    (hp' : PlainL h' a (vs.push v)) (hs : Heap.SameBut a h h') (r : Rep (fun b => P b ∧ some a ≠ some b) h v d) : SInv C h₀ env P l (some (x, ds ++ [d])) (some a) h' := by
  obtain ⟨h1, h2, h3, ⟨m₁, h4, h5⟩, vs', h6, h7⟩ := S.own
  have hne : ∀ b, (P b ∧ some a ≠ some b) → b ≠ a := fun b hb e => hb.2 (by rw [e])
  have hL : env.locals ≠ a := fun e => S.lp (e ▸ h1)
  have hC : ∀ y c, env.cells.lookup y = some c → c ≠ a := fun y c e q => (S.cl y c e).1 (q ▸ h1)
  have sub : ∀ b ob, h₀.get? b = some ob → h'.get? b = some ob := fun b ob e => hs.extBut b ob (fun q => by rw [S.no₀ b (.inr (.inr (by rw [q])))] at e; cases e) (S.sub₀ b ob e)
  have ns : ∀ m, h.Ns env.locals m → h'.Ns env.locals m := fun m hn => hn.sameBut hs hL
  refine ⟨⟨S.kit₀.keeps sub, fun b hb => ?_, ?_⟩, S.lp, fun y c e => ?_, S.cinj, ⟨h1, h2, h3, ⟨m₁, ns _ h4, h5⟩, vs.push v, hp', ?_⟩, S.clx, S.kit₀, sub, S.no₀⟩
  · by_cases q : b = a
    · subst q; obtain ⟨ob, _, e, _⟩ := hp'; exact ⟨ob, e⟩
    · obtain ⟨ob, e⟩ := S.inv.hp b hb
      exact ⟨ob, hs.extBut b ob q e⟩
  · obtain ⟨m, hn, hv⟩ := S.inv.ns
    refine ⟨m, ns m hn, fun y e hy => ?_⟩
    obtain ⟨u, g1, g2⟩ := hv y e hy
    exact ⟨u, g1.imp id fun ⟨k, c, e, i⟩ => ⟨k, c, e, i.sameBut hs (hC _ c e)⟩, g2.mono (fun _ q => q) fun b ob q e => hs.extBut b ob (hne b q) e⟩
  · obtain ⟨g1, g2, ov, g3⟩ := S.cl y c e
    exact ⟨g1, g2, ov, g3.sameBut hs (hC y c e)⟩
  · rw [Array.toList_push]
    exact (ra.append (.one r)).mono (fun _ q => q) fun b ob q e => hs.extBut b ob (hne b q) e

theorem interactive_no {env : Env} (E : EnvIs sc env) : interactive env = false := by
  unfold interactive
  rw [E.scope, E.kind]
  rfl

theorem appendCore {x : String} {ds : List D} {e : Expr} {p1 apos cpos epos : Pos} {k : Nat} {R : D → Nat → Prop} {Q : Out → Nat → Prop} (hz : ds.length ≤ 100000)
    (he : ∀ (A : Around) (h₀ : Heap) (env : Env) (P : Addr → Prop) (s : Shared) (a : Option Addr), EnvIs sc env → Bud A n → SInv C h₀ env P l (some (x, ds)) a s.heap → k ≤ s.toks → wpAny (model C.prog C.w) A (eval e env) (fun v s' => Keeps s s' ∧ ∃ d, R d s'.toks ∧ Rep (fun b => P b ∧ a ≠ some b) s'.heap v d) NoE s)
    (hq : ∀ d k', R d k' → Q (.next l (some (x, ds ++ [d]))) k')
    (htrees : ∀ env, backTo cpos (starEach [e] env) = [(false, eval e env)] := by intro _; rfl) (hline : (apos.endLine == cpos.line) = true := by rfl) :
    S1T C n sc l (some (x, ds)) k (.Expr (.Call (.Attribute (.Name (Str.ofString x) p1) (Str.ofString "append") apos) [e] [] cpos) epos) Q := by
  intro A h₀ env P s a E B S hk
  cases a with
  | none => exact S.own.elim
  | some a =>
    obtain ⟨h1, h2, h3, ⟨m₁, h4, h5⟩, vs, h6, h7⟩ := S.own
    refine wpAny_Expr (wpAny_Call_append rfl ?_ hline (htrees env) ?_) (interactive_no E) rfl
    · rw [htrees env]; rfl
    · have hdbg : (Str.ofString x == ("__debug__" : Str)) = false := by
        unfold okName at h2
        simp only [Bool.and_eq_true, Bool.not_eq_true'] at h2
        exact h2.1
      refine wpAny_Name (wpAny_loadName_local (E.scope ▸ E.kind) h3 h4 h5 ⟨a, vs, rfl, h6, ?_⟩) hdbg
      refine wpAny_mono (he A h₀ env P s (some a) E B S hk) (fun v s₁ ⟨k₁, d, hd, r₁⟩ => ?_) fun _ _ x => x
      have z : vs.size = ds.length := by have := h7.length; rwa [Array.length_toList] at this
      refine list_append_plainL (h6.keeps (up k₁)) (fun h' hp' hs' => ?_) (by rw [sizeLine_eq]; omega)
      have S' := (S.keeps (up k₁)).grown (h6.keeps (up k₁)) (h7.keeps (up k₁)) hp' hs' r₁
      refine Post.after (kbOf k₁) ⟨h', s₁.toks, rfl, fun b ob hb e => hs'.extBut b ob (fun q => hb (.inr (.inr (by rw [q])))) e, l, _, hq d _ hd, S'⟩

theorem S1.append {x : String} {ds : List D} {e : Expr} {p1 apos cpos epos : Pos} {d : D} (hz : ds.length ≤ 100000) (he : Ex C n sc l e d) (hq : Q (.next l (some (x, ds ++ [d]))))
    (htrees : ∀ env, backTo cpos (starEach [e] env) = [(false, eval e env)] := by intro _; rfl) (hline : (apos.endLine == cpos.line) = true := by rfl) :
    S1 C n sc l (some (x, ds)) (.Expr (.Call (.Attribute (.Name (Str.ofString x) p1) (Str.ofString "append") apos) [e] [] cpos) epos) Q :=
  S1T.plain (appendCore (R := fun d' _ => d' = d) hz (fun A h₀ env P s a E B S _ => wpAny_mono (he A env _ s E B S.inv) (fun _ _ ⟨k, r⟩ => ⟨k, d, rfl, r⟩) fun _ _ x => x) (fun d' _ e => by rw [e]; exact hq) htrees hline)
theorem S1.appendF {x : String} {ds : List D} {e : Expr} {p1 apos cpos epos : Pos} {d : D} (hz : ds.length ≤ 100000) (f : Flat d) (he : Ex C n sc (put x (.list ds) l) e d) (hq : Q (.next l (some (x, ds ++ [d]))))
    (htrees : ∀ env, backTo cpos (starEach [e] env) = [(false, eval e env)] := by intro _; rfl) (hline : (apos.endLine == cpos.line) = true := by rfl) :
    S1 C n sc l (some (x, ds)) (.Expr (.Call (.Attribute (.Name (Str.ofString x) p1) (Str.ofString "append") apos) [e] [] cpos) epos) Q :=
  S1T.plain (appendCore (R := fun d' _ => d' = d) hz (fun A h₀ env P s a E B S _ => wpAny_mono (he A env _ s E B S.frozen) (fun _ _ h => ⟨h.1, d, rfl, Rep.flat f h.2⟩) fun _ _ x => x) (fun d' _ e => by rw [e]; exact hq) htrees hline)
theorem S1T.append {x : String} {ds : List D} {e : Expr} {p1 apos cpos epos : Pos} {k : Nat} {R : D → Nat → Prop} {Q : Out → Nat → Prop} (hz : ds.length ≤ 100000) (he : ExR C n sc l k e R) (hq : ∀ d k', R d k' → Q (.next l (some (x, ds ++ [d]))) k')
    (htrees : ∀ env, backTo cpos (starEach [e] env) = [(false, eval e env)] := by intro _; rfl) (hline : (apos.endLine == cpos.line) = true := by rfl) :
    S1T C n sc l (some (x, ds)) k (.Expr (.Call (.Attribute (.Name (Str.ofString x) p1) (Str.ofString "append") apos) [e] [] cpos) epos) Q :=
  appendCore hz (fun A h₀ env P s a E B S hk => he A env _ s E B S.inv hk) hq htrees hline
theorem S1T.assign {x : String} {e : Expr} {p pos : Pos} {k : Nat} {R : D → Nat → Prop} {Q : Out → Nat → Prop} (he : ExR C n sc l k e R) (hq : ∀ d k' k'', R d k' → k' ≤ k'' → Q (.next (put x d l) o) k'') (hx : sc.names.lookup (Str.ofString x) = some .local ∨ sc.names.lookup (Str.ofString x) = some .cell := by decide +kernel)
    (ho : ∀ y ds, o = some (y, ds) → x ≠ y := by intro _ _ e; first | (cases e; decide) | cases e)
    (hs : ∀ env, swapsWith e (some (.Name (Str.ofString x) p)) pos.line env = pure false := by intro _; rfl) : S1T C n sc l o k (.Assign [.Name (Str.ofString x) p] e pos) Q := by
  intro A h₀ env P s a E B S hk
  refine wpAny_Assign_Name (wpAny_mono (he A env _ s E B S.inv hk) (fun v s₁ ⟨k₁, d, hd, r₁⟩ => ?_) fun _ _ x => x) (hs env)
  refine wpAny_mono (wpAny_toks (store (Q := fun _ s'' => ∃ h₂ tk₂, s'' = { s₁ with heap := h₂, toks := tk₂ } ∧ SInv C h₀ env P (put x d l) o a h₂ ∧ KB env a s₁.heap h₂) (E.scope ▸ E.kind) (S.keeps (up k₁)) (by unfold Env.kindOf; rw [E.scope]; exact hx) ho r₁ fun h' tk S' k => ⟨h', tk, rfl, S', k⟩)) (fun _ s'' hs'' => ?_) fun _ _ x => x.1
  obtain ⟨⟨h₂, tk₂, rfl, S₂, k₂⟩, ht₂⟩ := hs''
  exact Post.after (kbOf k₁) ⟨h₂, tk₂, rfl, k₂, _, _, hq d _ _ hd ht₂, S₂⟩

/-- n += e -/
theorem S1.augInt {x : String} {e : Expr} {p pos : Pos} {a b : Int} (hx : l x = some (.int a)) (he : Ex C n sc l e (.int b)) (hq : Q (.next (put x (.int (a + b)) l) o)) (hk : sc.names.lookup (Str.ofString x) = some .local := by decide +kernel)
    (ho : ∀ y ds, o = some (y, ds) → x ≠ y := by intro _ _ e; first | (cases e; decide) | cases e) (hn : okName (Str.ofString x) = true := by decide +kernel) : S1 C n sc l o (.AugAssign (.Name (Str.ofString x) p) .Add e pos) Q := by
  intro A h₀ env P s ad E B S
  obtain ⟨m, hm, hv⟩ := S.inv.ns
  obtain ⟨v, ha, r⟩ := hv x _ hx
  refine wpAny_AugAssign_Name (load_var (E.scope ▸ E.kind) hm ha hn ?_)
  refine wpAny_mono (he A env _ s E B S.inv) (fun u s₁ ⟨k₁, r₁⟩ => ?_) fun _ _ x => x
  cases r
  cases r₁
  refine wpAny_iadd_int ?_
  refine store (s := { s₁ with toks := s₁.toks + 1 }) (E.scope ▸ E.kind) (S.keeps (up (kt k₁ (ktok (s₁.toks + 1))))) (.inl (by unfold Env.kindOf; rw [E.scope]; exact hk)) ho (.int _ _) fun h' tk S' k => ?_
  exact Post.after (kbOf (kt k₁ (ktok _))) ⟨h', tk, rfl, k, _, _, hq, S'⟩

/-- the list is not changed any more -/
noncomputable def retQ (R : D → Prop) : Out → Prop
  | .ret d => R d
  | _ => False
theorem SxT.freeze {sts : List Stmt} {x : String} {ds : List D} {k : Nat} {R : D → Prop} (h : SxT C n sc (put x (.list ds) l) none k sts (fun r _ => retQ R r)) : SxT C n sc l (some (x, ds)) k sts (fun r _ => retQ R r) := by
  intro A h₀ env P s a E B S hk
  have I := S.frozen
  have S' : SInv C h₀ env P (put x (.list ds) l) none none s.heap := by
    refine ⟨⟨I.kit, fun b hb => I.hp b fun z => hb ⟨z, fun q => by cases q⟩, ?_⟩, S.lp, S.cl, S.cinj, trivial, S.clx, S.kit₀, S.sub₀, fun b hb => S.no₀ b (by rcases hb with q | q | q; exact .inl q; exact .inr (.inl q); cases q)⟩
    obtain ⟨m, hn, hv⟩ := I.ns
    exact ⟨m, hn, fun y d e => let ⟨v, g1, g2⟩ := hv y d e; ⟨v, g1, g2.mono (fun _ q => ⟨q, fun z => by cases z⟩) fun _ _ _ e => e⟩⟩
  refine wpAny_mono (h A h₀ env P s none E B S' hk) (fun f s₁ p => ?_) fun _ _ x => x
  obtain ⟨h', tk, rfl, k, p⟩ := p
  refine ⟨h', tk, rfl, fun b ob hb e => k b ob (fun q => hb (by rcases q with q | q | q; exact .inl q; exact .inr (.inl q); cases q)) e, ?_⟩
  cases f with
  | ret v => exact p
  | next => obtain ⟨_, _, q, _⟩ := p; exact q.elim
  | brk => exact p
  | cont => exact p

theorem Sx.freeze {sts : List Stmt} {x : String} {ds : List D} {R : D → Prop} (h : Sx C n sc (put x (.list ds) l) none sts (retQ R)) : Sx C n sc l (some (x, ds)) sts (retQ R) := SxT.plain (SxT.freeze (h.T fun _ _ q _ => q))

/-- a new list that is going to grow -/
theorem SxT.grow {rest : List Stmt} {x : String} {elts : List Expr} {ds : List D} {p lp pos : Pos} {k : Nat} {R : D → Prop} (he : Exs C n sc l elts ds) (h : SxT C n sc l (some (x, ds)) (k + 1) rest (fun r _ => retQ R r)) (hz : ds.length ≤ 1000 := by decide)
    (hk : sc.names.lookup (Str.ofString x) = some .local := by decide +kernel) (hn : okName (Str.ofString x) = true := by decide +kernel) (hx : l x = none := by rfl) :
    SxT C n sc l none k (.Assign [.Name (Str.ofString x) p] (.List elts lp) pos :: rest) (fun r _ => retQ R r) := by
  intro A h₀ env P s a E B S hks
  cases a with
  | some a => exact S.own.elim
  | none =>
    refine wpAny_execs_cons (wpAny_Assign_Name (wpAny_List (wpAny_mono (wpAny_toks (he A env _ s lp E B S.inv)) (fun vs s₁ ⟨⟨k₁, r₁⟩, ht₁⟩ => ⟨by rw [r₁.length, sizeLine_eq]; omega, ?_⟩) fun _ _ x => x.1)) rfl)
    have hkind : env.kindOf (Str.ofString x) = some .local := by unfold Env.kindOf; rw [E.scope]; exact hk
    have S₁ := S.keeps (up k₁)
    have k₂ : Keeps s₁ { s₁ with heap := s₁.heap.push { cls := .type "list", data := .seq vs.toArray } } := kpush _ _
    have S₂ := S₁.keeps (up k₂)
    have hnew : s₁.heap.get? s₁.heap.objs.size = none := get_size _
    have hob : (s₁.heap.push { cls := .type "list", data := .seq vs.toArray }).get? s₁.heap.objs.size = some _ := Heap.get?_push_size _ rfl
    have hPa : P s₁.heap.objs.size := (S₁.inv.fresh hnew).1
    obtain ⟨m, hm, hv⟩ := S₂.inv.ns
    have hs0 : s.heap.get? s₁.heap.objs.size = none := by
      cases q : s.heap.get? s₁.heap.objs.size with
      | none => rfl
      | some ob => have := up k₁ _ _ q; rw [hnew] at this; cases this
    refine wpAny_storeName_local hkind hm (fun h' hn' hs' => ?_) (by rw [E.scope, E.kind]; rfl)
    have hL : s₁.heap.objs.size ≠ env.locals := fun e => S.lp (e ▸ hPa)
    have old : ∀ b ob, b ≠ env.locals → s₁.heap.get? b = some ob → h'.get? b = some ob := fun b ob hb e => hs'.extBut b ob hb (Heap.get?_push_of_some _ e)
    have sub : ∀ b ob, h₀.get? b = some ob → h'.get? b = some ob := fun b ob e => old b ob (fun q => by rw [S.no₀ b (.inl q)] at e; cases e) (S₁.sub₀ b ob e)
    have S' : SInv C h₀ env P l (some (x, ds)) (some s₁.heap.objs.size) h' := by
      have lift : ∀ {v : Value} {d : D}, Rep (fun b => P b ∧ (none : Option Addr) ≠ some b) s₁.heap v d → Rep (fun b => P b ∧ some s₁.heap.objs.size ≠ some b) h' v d := fun r =>
        r.held.mono (fun b hb => ⟨hb.1.1, fun q => by obtain ⟨ob, e⟩ := hb.2; rw [← Option.some.inj q, hnew] at e; cases e⟩) fun b ob q e => old b ob (fun z => S.lp (z ▸ q.1.1)) e
      refine ⟨⟨S.kit₀.keeps sub, fun b hb => ?_, ?_⟩, S.lp, fun y c e => ?_, S.cinj, ⟨hPa, hn, hkind, ⟨_, hn', by rw [if_pos rfl]⟩, vs.toArray, ?_, ?_⟩, S.clx, S.kit₀, sub, fun b hb => ?_⟩
      · by_cases q : b = env.locals
        · subst q; obtain ⟨ob, _, _, e, _⟩ := hn'; exact ⟨ob, e⟩
        · by_cases z : b = s₁.heap.objs.size
          · subst z; exact ⟨_, hs'.extBut _ _ hL hob⟩
          · obtain ⟨ob, e⟩ := S₁.inv.hp b fun w => hb ⟨w.1, fun q => z (Option.some.inj q).symm⟩
            exact ⟨ob, old b ob q e⟩
      · obtain ⟨m₀, hm₀, hv₀⟩ := S₁.inv.ns
        have em : m₀ = m := ns_unique (hm₀.keeps (up k₂)) hm
        subst em
        refine ⟨_, hn', fun y d e => ?_⟩
        have hyx : y ≠ x := fun q => by rw [q, hx] at e; cases e
        obtain ⟨v, g1, g2⟩ := hv₀ y d e
        refine ⟨v, ?_, lift g2⟩
        rcases g1 with ⟨g1, g3⟩ | ⟨g1, c, g3, g4⟩
        · exact .inl ⟨g1, by dsimp only; rw [if_neg (fun q => hyx (ofString_inj q))]; exact g3⟩
        · exact .inr ⟨g1, c, g3, (g4.keeps (up k₂)).sameBut hs' (S.cl _ c g3).2.1⟩
      · obtain ⟨g1, g2, ov, g3⟩ := S₂.cl y c e
        exact ⟨g1, g2, ov, g3.sameBut hs' g2⟩
      · exact ⟨_, _, hs'.extBut _ _ hL hob, rfl, rfl, rfl⟩
      · exact r₁.held.mono (fun b hb => ⟨hb.1.1, fun q => by obtain ⟨ob, e⟩ := hb.2; rw [← Option.some.inj q, hnew] at e; cases e⟩) fun b ob q e => old b ob (fun z => S.lp (z ▸ q.1.1)) e
      · rcases hb with q | q | q
        · exact S.no₀ b (.inl q)
        · exact S.no₀ b (.inr (.inl q))
        · cases q
          cases z : h₀.get? s₁.heap.objs.size with
          | none => rfl
          | some ob => have := S₁.sub₀ _ _ z; rw [hnew] at this; cases this
    refine wpAny_mono (h A h₀ env P { s₁ with heap := h', toks := s₁.toks + 1 } _ E B S' (Nat.succ_le_succ (Nat.le_trans hks ht₁))) (fun f s₃ p => ?_) fun _ _ x => x
    obtain ⟨h₃, tk₃, rfl, k₃, p⟩ := p
    obtain ⟨h₁, t₁, rfl, k₁'⟩ := k₁
    refine ⟨h₃, tk₃, rfl, fun b ob hb e => k₃ b ob (fun q => ?_) (old b ob (fun q => hb (.inl q)) (k₁' b ob e)), ?_⟩
    · rcases q with q | q | q
      · exact hb (.inl q)
      · exact hb (.inr (.inl q))
      · rw [← Option.some.inj q, hs0] at e; cases e
    · cases f with
      | ret v => exact p
      | next => obtain ⟨_, _, q, _⟩ := p; exact q.elim
      | brk => exact p
      | cont => exact p
theorem Sx.grow {rest : List Stmt} {x : String} {elts : List Expr} {ds : List D} {p lp pos : Pos} {R : D → Prop} (he : Exs C n sc l elts ds) (h : Sx C n sc l (some (x, ds)) rest (retQ R)) (hz : ds.length ≤ 1000 := by decide)
    (hk : sc.names.lookup (Str.ofString x) = some .local := by decide +kernel) (hn : okName (Str.ofString x) = true := by decide +kernel) (hx : l x = none := by rfl) :
    Sx C n sc l none (.Assign [.Name (Str.ofString x) p] (.List elts lp) pos :: rest) (retQ R) := SxT.plain (SxT.grow he (h.T fun _ _ q _ => q) hz hk hn hx)
end
end Mine

end
section
open PySem PySem.Calls PyProof.Rows PySem.W PySem.Spec PySem.SeqAt
namespace Mine
set_option Elab.async false
set_option maxRecDepth 10000
set_option linter.unusedVariables false

/-! comprehensions -/
noncomputable def Less (l l' : Loc) : Prop := ∀ x d, l x = some d → l' x = some d
theorem Inv.less {C : Cx} {env : Env} {P : Addr → Prop} {l l' : Loc} {h : Heap} (I : Inv C env P l' h) (hl : Less l l') : Inv C env P l h :=
  ⟨I.kit, I.hp, let ⟨m, hn, hv⟩ := I.ns; ⟨m, hn, fun x d e => hv x d (hl x d e)⟩⟩

/-- the places that a block changes -/
noncomputable def Hot (env : Env) (h₀ : Heap) (T : Addr) (b : Addr) : Prop := b = env.locals ∨ b = T ∨ ∃ x, env.cells.lookup x = some b ∧ h₀.get? b = none
/-- the block's state: its names, the list that it fills -/
structure CS (C : Cx) (s₀ : Shared) (env : Env) (P : Addr → Prop) (T : Addr) (l : Loc) (ys : List D) (s : Shared) : Prop where
  inv : Inv C env P l s.heap
  acc : ∃ vs, s.heap.PlainList T vs ∧ RepAll P s.heap vs.toList ys
  keep : Keeps s₀ s
  cells : ∀ x c, env.cells.lookup x = some c → s₀.heap.get? c = none → ∃ ov, s.heap.IsCell c ov
/-- what stands fast about the block -/
structure CB (C : Cx) (s₀ : Shared) (os : Scope) (env : Env) (P : Addr → Prop) (T : Addr) : Prop where
  kit : Kit C s₀.heap
  hot : ∀ b, Hot env s₀.heap T b → ¬ P b ∧ s₀.heap.get? b = none
  ne : T ≠ env.locals
  cells : ∀ x c, env.cells.lookup x = some c → s₀.heap.get? c = none → c ≠ env.locals ∧ c ≠ T ∧ ∀ y, env.cells.lookup y = some c → y = x
  clx : ∀ x, os.names.lookup x = some .cell → env.kindOf x = some .cell ∧ ∃ c, env.cells.lookup x = some c ∧ s₀.heap.get? c = none
  loc : ∀ x, os.names.lookup x = some .local → env.kindOf x = some .local

noncomputable def KCD (env : Env) (h₀ : Heap) (T : Addr) (s s' : Shared) : Prop := ∀ b o, ¬ Hot env h₀ T b → s.heap.get? b = some o → s'.heap.get? b = some o

/-- what a clause's target takes; os: the block's own scope -/
inductive BindC (os : Scope) : Expr → D → Loc → Loc → Prop where
  | name {x : String} {p : Pos} {d : D} {l : Loc} : (os.names.lookup (Str.ofString x) = some .local ∨ os.names.lookup (Str.ofString x) = some .cell) → l x = none → BindC os (.Name (Str.ofString x) p) d l (put x d l)
  | pair {x y : String} {p q r : Pos} {k : Nat} {d e : D} {l : Loc} : os.names.lookup (Str.ofString x) = some .local → os.names.lookup (Str.ofString y) = some .local → l x = none → l y = none → x ≠ y →
      BindC os (.Tuple [.Name (Str.ofString x) p, .Name (Str.ofString y) q] k r) (.tuple [d, e]) l (put y e (put x d l))
theorem BindC.less {os : Scope} {t : Expr} {d : D} {l l₁ : Loc} (b : BindC os t d l l₁) : Less l l₁ := by
  cases b with
  | @name x p d l h1 h2 =>
    intro y e hy
    by_cases q : y = x
    · rw [q, h2] at hy; cases hy
    · rw [put_ne _ _ q]; exact hy
  | @pair x y p q r k d e l h1 h2 h3 h4 h5 =>
    intro z e hz
    rw [put_ne _ _ (fun q => by rw [q, h4] at hz; cases hz), put_ne _ _ (fun q => by rw [q, h3] at hz; cases hz)]
    exact hz

theorem CS.less {C : Cx} {s₀ : Shared} {env : Env} {P : Addr → Prop} {T : Addr} {l l' : Loc} {ys : List D} {s : Shared} (S : CS C s₀ env P T l' ys s) (hl : Less l l') : CS C s₀ env P T l ys s := ⟨S.inv.less hl, S.acc, S.keep, S.cells⟩
theorem CS.keeps {C : Cx} {s₀ : Shared} {env : Env} {P : Addr → Prop} {T : Addr} {l : Loc} {ys : List D} {s s' : Shared} (S : CS C s₀ env P T l ys s) (k : Keeps s s') : CS C s₀ env P T l ys s' :=
  ⟨S.inv.keeps (up k), let ⟨vs, hp, r⟩ := S.acc; ⟨vs, hp.at fun o e => up k _ _ e, r.keeps (up k)⟩, kt S.keep k, fun x c h1 h2 => let ⟨ov, h⟩ := S.cells x c h1 h2; ⟨ov, h.keeps (up k)⟩⟩
theorem CB.ncell {C : Cx} {s₀ : Shared} {os : Scope} {env : Env} {P : Addr → Prop} {T : Addr} (B : CB C s₀ os env P T) {x : Str} {c b : Addr} (hc : env.cells.lookup x = some c) (hb : b = env.locals ∨ b = T) : c ≠ b := by
  cases e : s₀.heap.get? c with
  | none =>
    obtain ⟨h1, h2, _⟩ := B.cells x c hc e
    rcases hb with rfl | rfl
    · exact h1
    · exact h2
  | some o =>
    intro q
    subst q
    have := (B.hot c (hb.imp id .inl)).2
    rw [e] at this; cases this

theorem kthrough {s₀ s s' : Shared} (k : Keeps s₀ s) (h : ∃ h' tk, s' = { s with heap := h', toks := tk }) (hk : ∀ b o, s₀.heap.get? b = some o → s'.heap.get? b = some o) : Keeps s₀ s' := by
  obtain ⟨h1, t1, rfl, k1⟩ := k
  obtain ⟨h2, t2, rfl⟩ := h
  exact ⟨h2, t2, rfl, hk⟩

/-- a store of a block's name -/
theorem storeC {C : Cx} {A : Around} {s₀ : Shared} {os : Scope} {env : Env} {P : Addr → Prop} {T : Addr} {l : Loc} {ys : List D} {s : Shared} {x : String} {v : Value} {d : D} (hk : env.scope.kind = .function) (B : CB C s₀ os env P T) (S : CS C s₀ env P T l ys s)
    (hx : os.names.lookup (Str.ofString x) = some .local ∨ os.names.lookup (Str.ofString x) = some .cell) (r : Rep P s.heap v d) {Q : Unit → Shared → Prop}
    (hQ : ∀ s', CS C s₀ env P T (put x d l) ys s' → KCD env s₀.heap T s s' → Q () s') : wpAny (model C.prog C.w) A (storeName env (Str.ofString x) v) Q NoE s := by
  obtain ⟨m, hn, _⟩ := S.inv.ns
  have lp : ¬ P env.locals := (B.hot _ (.inl rfl)).1
  have ln : s₀.heap.get? env.locals = none := (B.hot _ (.inl rfl)).2
  rcases hx with hx | hx
  · refine wpAny_storeName_local (B.loc _ hx) hn (fun h' hn' hs' => ?_) (by rw [hk]; rfl)
    have old : ∀ b ob, P b → s.heap.get? b = some ob → h'.get? b = some ob := fun b ob hb e => hs'.extBut b ob (fun q => lp (q ▸ hb)) e
    have keep : Keeps s₀ { s with heap := h', toks := s.toks + 1 } := kthrough S.keep ⟨h', s.toks + 1, rfl⟩ fun b ob e => hs'.extBut b ob (fun q => by rw [q, ln] at e; cases e) (up S.keep b ob e)
    refine hQ _ ⟨?_, ?_, keep, fun y c h1 h2 => ?_⟩ fun b o hb e => hs'.extBut b o (fun q => hb (.inl q)) e
    · refine S.inv.stored (B.kit.keeps (up keep)) lp hs' (let ⟨ob, _, _, e, _⟩ := hn'; ⟨ob, e⟩) hn hn' (.inl ⟨B.loc _ hx, by simp⟩) r fun y u q hu => ?_
      rcases hu with ⟨h1, h2⟩ | ⟨h1, c, h2, h3⟩
      · exact .inl ⟨h1, by dsimp only; rw [if_neg (fun z => q (ofString_inj z))]; exact h2⟩
      · exact .inr ⟨h1, c, h2, h3.sameBut hs' (B.ncell h2 (.inl rfl))⟩
    · obtain ⟨vs, hp, ra⟩ := S.acc
      exact ⟨vs, hp.at fun o e => hs'.extBut _ o B.ne e, ra.mono (fun _ q => q) old⟩
    · obtain ⟨ov, h3⟩ := S.cells y c h1 h2
      exact ⟨ov, h3.sameBut hs' (B.ncell h1 (.inl rfl))⟩
  · obtain ⟨hkx, c, hc, hc0⟩ := B.clx _ hx
    obtain ⟨ov, hov⟩ := S.cells _ c hc hc0
    obtain ⟨cL, cT, cu⟩ := B.cells _ c hc hc0
    have hotc : Hot env s₀.heap T c := .inr (.inr ⟨_, hc, hc0⟩)
    have cp := (B.hot c hotc).1
    refine wpAny_storeName_cell hk hkx hc hov fun h' hc' hs' => ?_
    have old : ∀ b ob, P b → s.heap.get? b = some ob → h'.get? b = some ob := fun b ob hb e => hs'.extBut b ob (fun q => cp (q ▸ hb)) e
    have keep : Keeps s₀ { s with heap := h' } := kthrough S.keep ⟨h', s.toks, rfl⟩ fun b ob e => hs'.extBut b ob (fun q => by rw [q, hc0] at e; cases e) (up S.keep b ob e)
    refine hQ _ ⟨?_, ?_, keep, fun y c₁ h1 h2 => ?_⟩ fun b o hb e => hs'.extBut b o (fun q => hb (q ▸ hotc)) e
    · refine S.inv.stored (B.kit.keeps (up keep)) cp hs' (let ⟨ob, e, _⟩ := hc'; ⟨ob, e⟩) hn (hn.sameBut hs' (Ne.symm cL)) (.inr ⟨.inl hkx, c, hc, hc'⟩) r fun y u q hu => ?_
      rcases hu with ⟨h1, h2⟩ | ⟨h1, c₁, h2, h3⟩
      · exact .inl ⟨h1, h2⟩
      · exact .inr ⟨h1, c₁, h2, h3.sameBut hs' fun e => q (ofString_inj (cu _ (e ▸ h2)))⟩
    · obtain ⟨vs, hp, ra⟩ := S.acc
      exact ⟨vs, hp.at fun o e => hs'.extBut _ o (Ne.symm cT) e, ra.mono (fun _ q => q) old⟩
    · obtain ⟨ov₁, h3⟩ := S.cells y c₁ h1 h2
      by_cases q : c₁ = c
      · exact ⟨_, q ▸ hc'⟩
      · exact ⟨ov₁, h3.sameBut hs' q⟩

theorem KCD.trans {env : Env} {h₀ : Heap} {T : Addr} {s s' s'' : Shared} (a : KCD env h₀ T s s') (b : KCD env h₀ T s' s'') : KCD env h₀ T s s'' := fun x o hx e => b x o hx (a x o hx e)
theorem KCD.of {env : Env} {h₀ : Heap} {T : Addr} {s s' : Shared} (a : Keeps s s') : KCD env h₀ T s s' := fun x o _ e => up a x o e

theorem assignC {C : Cx} {A : Around} {s₀ : Shared} {sc os : Scope} {env : Env} {P : Addr → Prop} {T : Addr} {l l₁ : Loc} {ys : List D} {s : Shared} {tgt : Expr} {v : Value} {d : D} (E : EnvIs sc env) (hh : A.handled = none) (B : CB C s₀ os env P T) (S : CS C s₀ env P T l ys s)
    (b : BindC os tgt d l l₁) (r : Rep P s.heap v d) {Q : Unit → Shared → Prop} (hQ : ∀ s', CS C s₀ env P T l₁ ys s' → KCD env s₀.heap T s s' → Q () s') : wpAny (model C.prog C.w) A (assign tgt env v) Q NoE s := by
  cases b with
  | name hx h0 => exact wpAny_assign_Name (storeC (E.scope ▸ E.kind) B S hx r hQ)
  | @pair x y p q rr k d e l hx hy hlx hly hxy =>
    cases r with
    | @tuple t vs _ pt htup ra =>
      have hvs : ∃ u w, vs = #[u, w] := by
        have z := ra.length
        rw [Array.length_toList] at z
        obtain ⟨vl⟩ := vs
        match vl, z with
        | [u, w], _ => exact ⟨u, w, rfl⟩
      obtain ⟨u, w, rfl⟩ := hvs
      refine wpAny_assign_Tuple hh htup rfl rfl fun h' he => ?_
      have hk : Keeps s { s with heap := h' } := ⟨h', s.toks, rfl, fun b o e => he b o (fun q => by rw [q, get_size] at e; cases e) e⟩
      have S' := S.keeps hk
      have ra' := ra.keeps (up hk)
      cases ra' with
      | cons r1 rs =>
        cases rs with
        | cons r2 rs =>
          show wpAny _ _ (do holding [w] (assign (.Name (Str.ofString x) p) env u); assignInOrder [assign (.Name (Str.ofString y) q) env] [w]) _ _ _
          refine wpAny_bind (wpAny_holding (wpAny_assign_Name (storeC (E.scope ▸ E.kind) B S' (.inl hx) r1 fun s₂ S₂ hs₂ => ?_)))
          show wpAny _ _ (do holding [] (assign (.Name (Str.ofString y) q) env w); assignInOrder [] []) _ _ _
          have r2' : Rep P s₂.heap w e := r2.mono (fun _ q => q) fun b o q e => hs₂ b o (fun z => (B.hot b z).1 q) e
          refine wpAny_bind (wpAny_holding (wpAny_assign_Name (storeC (E.scope ▸ E.kind) B S₂ (.inl hy) r2' fun s₃ S₃ hs₃ => ?_)))
          exact wpAny_pure (hQ s₃ S₃ ((KCD.of hk).trans (hs₂.trans hs₃)))

section
variable {C : Cx} {n : Nat} {sc os : Scope} {l : Loc}

noncomputable abbrev testsOf (ifs : List Expr) (env : Env) : Sem Bool := forIn ifs true fun c r => if r = true then do let ok ← isTrue c env (eval c env); pure (ForInStep.yield ok) else pure (ForInStep.yield r)
/-- the tests of a clause: none, or one -/
inductive Tests (C : Cx) (n : Nat) (sc : Scope) (l : Loc) : List Expr → Bool → Prop where
  | nil : Tests C n sc l [] true
  | one {c : Expr} {b : Bool} : Tx C n sc l c b → Tests C n sc l [c] b
theorem tests_run {A : Around} {env : Env} {P : Addr → Prop} {s : Shared} {ifs : List Expr} {b : Bool} (E : EnvIs sc env) (B : Bud A n) (I : Inv C env P l s.heap) (h : Tests C n sc l ifs b) :
    wpAny (model C.prog C.w) A (testsOf ifs env) (fun ok s' => ok = b ∧ Keeps s s') NoE s := by
  cases h with
  | nil => exact wpAny_tests_nil ⟨rfl, kr s⟩
  | one h => exact wpAny_tests_one (wpAny_mono (h A env P s E B I) (fun b' s' ⟨k, e⟩ => ⟨e, k⟩) fun _ _ x => x)

/-- what is done with an item that has passed the tests -/
noncomputable def BodyOk (C : Cx) (n : Nat) (sc os : Scope) (l : Loc) (body : Env → Value → Sem Unit) (out : List D) : Prop :=
  ∀ (A : Around) (s₀ : Shared) (env : Env) (P : Addr → Prop) (T : Addr) (ys : List D) (s : Shared), EnvIs sc env → Bud A n → CB C s₀ os env P T → CS C s₀ env P T l ys s → ys.length + out.length ≤ 100000 →
    wpAny (model C.prog C.w) A (body env (.ref T)) (fun _ s' => CS C s₀ env P T l (ys ++ out) s' ∧ KCD env s₀.heap T s s') NoE s

noncomputable def emitOf (elt : Expr) (env : Env) (acc : Value) : Sem Unit := eval elt env >>= fun x => call (.builtin "list.append") [acc, x] >>= fun _ => pure ()

/-- the list grows by what R says -/
noncomputable def BodyJ (C : Cx) (n : Nat) (sc os : Scope) (l : Loc) (k : Nat) (body : Env → Value → Sem Unit) (ys : List D) (R : List D → Nat → Prop) : Prop :=
  ∀ (A : Around) (s₀ : Shared) (env : Env) (P : Addr → Prop) (T : Addr) (s : Shared), EnvIs sc env → Bud A n → CB C s₀ os env P T → CS C s₀ env P T l ys s → k ≤ s.toks →
    wpAny (model C.prog C.w) A (body env (.ref T)) (fun _ s' => (∃ ys', R ys' s'.toks ∧ CS C s₀ env P T l ys' s') ∧ KCD env s₀.heap T s s') NoE s
theorem BodyOk.J {k : Nat} {body : Env → Value → Sem Unit} {ys out : List D} {R : List D → Nat → Prop} (h : BodyOk C n sc os l body out) (hz : ys.length + out.length ≤ 100000) (hr : ∀ k', k ≤ k' → R (ys ++ out) k') : BodyJ C n sc os l k body ys R :=
  fun A s₀ env P T s E Bu B S hk => wpAny_mono (wpAny_toks (h A s₀ env P T ys s E Bu B S hz)) (fun _ s' ⟨⟨h1, h2⟩, h3⟩ => ⟨⟨_, hr _ (Nat.le_trans hk h3), h1⟩, h2⟩) fun _ _ x => x.1
theorem BodyJ.ok {body : Env → Value → Sem Unit} {out : List D} (h : ∀ ys : List D, ys.length + out.length ≤ 100000 → BodyJ C n sc os l 0 body ys (fun ys' _ => ys' = ys ++ out)) : BodyOk C n sc os l body out :=
  fun A s₀ env P T ys s E Bu B S hz => wpAny_mono (h ys hz A s₀ env P T s E Bu B S (Nat.zero_le _)) (fun _ s' ⟨⟨ys', e, h1⟩, h2⟩ => ⟨e ▸ h1, h2⟩) fun _ _ x => x
theorem BodyJ.emit {elt : Expr} {k : Nat} {ys : List D} {R₀ : D → Nat → Prop} {R : List D → Nat → Prop} (h : ExR C n sc l k elt R₀) (hz : ys.length + 1 ≤ 100000) (hr : ∀ d k', R₀ d k' → R (ys ++ [d]) k') : BodyJ C n sc os l k (emitOf elt) ys R := by
  intro A s₀ env P T s E Bu B S hk
  refine wpAny_bind (wpAny_mono (h A env P s E Bu S.inv hk) (fun v s₁ ⟨k₁, d, hd, r₁⟩ => ?_) fun _ _ x => x)
  have S₁ := S.keeps k₁
  have dp : ¬ P T := (B.hot T (.inr (.inl rfl))).1
  have dn : s₀.heap.get? T = none := (B.hot T (.inr (.inl rfl))).2
  obtain ⟨vs, hp, ra⟩ := S₁.acc
  have z : vs.size = ys.length := by have := ra.length; rwa [Array.length_toList] at this
  refine wpAny_bind (wpAny_list_append_plain hp (fun h' hp' hs' => wpAny_pure ?_) (by rw [sizeLine_eq]; omega))
  have old : ∀ b ob, P b → s₁.heap.get? b = some ob → h'.get? b = some ob := fun b ob hb e => hs'.extBut b ob (fun q => dp (q ▸ hb)) e
  have keep : Keeps s₀ { s₁ with heap := h' } := kthrough S₁.keep ⟨h', s₁.toks, rfl⟩ fun b ob e => hs'.extBut b ob (fun q => by rw [q, dn] at e; cases e) (up S₁.keep b ob e)
  refine ⟨⟨ys ++ [d], hr d _ hd, ⟨B.kit.keeps (up keep), fun b hb => ?_, ?_⟩, ⟨vs.push v, hp', ?_⟩, keep, fun y c h1 h2 => ?_⟩, fun b o hb e => hs'.extBut b o (fun q => hb (.inr (.inl q))) (up k₁ b o e)⟩
  · by_cases q : b = T
    · subst q; obtain ⟨_, e⟩ := hp'; exact ⟨_, e⟩
    · obtain ⟨ob, e⟩ := S₁.inv.hp b hb
      exact ⟨ob, hs'.extBut b ob q e⟩
  · obtain ⟨m, hn, hv⟩ := S₁.inv.ns
    refine ⟨m, hn.sameBut hs' (Ne.symm B.ne), fun x e hx => ?_⟩
    obtain ⟨u, g1, g2⟩ := hv x e hx
    exact ⟨u, g1.imp id fun ⟨k, c, e, i⟩ => ⟨k, c, e, i.sameBut hs' (B.ncell e (.inr rfl))⟩, g2.mono (fun _ q => q) old⟩
  · rw [Array.toList_push]
    exact (ra.append (.one r₁)).mono (fun _ q => q) old
  · obtain ⟨ov, h3⟩ := S₁.cells y c h1 h2
    exact ⟨ov, h3.sameBut hs' (B.ncell h1 (.inr rfl))⟩

theorem BodyOk.emit {elt : Expr} {d : D} (h : Ex C n sc l elt d) : BodyOk C n sc os l (emitOf elt) [d] :=
  BodyJ.ok fun ys hz => BodyJ.emit (h.R (R := fun d' _ => d' = d) fun _ _ => rfl) hz fun d' _ e => by rw [e]

/-- a change at the iterator's own places -/
theorem CS.kw {s₀ : Shared} {env : Env} {P : Addr → Prop} {T : Addr} {ys : List D} {wr : List Addr} {s s' : Shared} (B : CB C s₀ os env P T) (S : CS C s₀ env P T l ys s) (k : KW wr s s') (hw : ∀ b ∈ wr, ¬ P b ∧ ¬ Hot env s₀.heap T b ∧ s₀.heap.get? b = none ∧ ∃ o, s'.heap.get? b = some o) :
    CS C s₀ env P T l ys s' := by
  obtain ⟨h', tk, rfl, k⟩ := k
  have keep : Keeps s₀ { s with heap := h', toks := tk } := kthrough S.keep ⟨h', tk, rfl⟩ fun b ob e => k b ob (fun q => by rw [(hw b q).2.2.1] at e; cases e) (up S.keep b ob e)
  have cn : ∀ {x : Str} {c : Addr} {ov : Option Value}, env.cells.lookup x = some c → s.heap.IsCell c ov → h'.IsCell c ov := by
    rintro x c ov e ⟨ob, ho, hd⟩
    refine ⟨ob, k c ob (fun q => ?_) ho, hd⟩
    obtain ⟨_, q2, q3, _⟩ := hw c q
    exact q2 (.inr (.inr ⟨x, e, q3⟩))
  refine ⟨⟨B.kit.keeps (up keep), fun b hb => ?_, ?_⟩, ?_, keep, fun y c h1 h2 => let ⟨ov, h3⟩ := S.cells y c h1 h2; ⟨ov, cn h1 h3⟩⟩
  · by_cases q : b ∈ wr
    · exact (hw b q).2.2.2
    · obtain ⟨o, e⟩ := S.inv.hp b hb
      exact ⟨o, k b o q e⟩
  · obtain ⟨m, hn, hv⟩ := S.inv.ns
    refine ⟨m, hn.at' fun o e => k _ o (fun q => (hw _ q).2.1 (.inl rfl)) e, fun x e hx => ?_⟩
    obtain ⟨u, g1, g2⟩ := hv x e hx
    exact ⟨u, g1.imp id fun ⟨k', c, e, i⟩ => ⟨k', c, e, cn e i⟩, g2.mono (fun _ q => q) fun b o q e => k b o (fun z => (hw b z).1 q) e⟩
  · obtain ⟨vs, ⟨o, ho⟩, ra⟩ := S.acc
    exact ⟨vs, ⟨o, k _ _ (fun q => (hw _ q).2.1 (.inr (.inl rfl))) ho⟩, ra.mono (fun _ q => q) fun b o q e => k b o (fun z => (hw b z).1 q) e⟩

theorem CB.sub {s₀ : Shared} {env : Env} {P P' : Addr → Prop} {T : Addr} (B : CB C s₀ os env P T) (h : ∀ b, P' b → P b) : CB C s₀ os env P' T :=
  ⟨B.kit, fun b hb => ⟨fun q => (B.hot b hb).1 (h b q), (B.hot b hb).2⟩, B.ne, B.cells, B.clx, B.loc⟩
/-- the iterator is at its end -/
theorem CS.finish {s₀ : Shared} {env : Env} {P : Addr → Prop} {T : Addr} {ys : List D} {wr : List Addr} {s s' : Shared} (B : CB C s₀ os env P T) (S : CS C s₀ env (fun b => P b ∧ b ∉ wr) T l ys s) (k : KW wr s s') (hw : ∀ b ∈ wr, P b ∧ ¬ Hot env s₀.heap T b ∧ s₀.heap.get? b = none) :
    CS C s₀ env P T l ys s' := by
  obtain ⟨h', tk, rfl, k⟩ := k
  have keep : Keeps s₀ { s with heap := h', toks := tk } := kthrough S.keep ⟨h', tk, rfl⟩ fun b ob e => k b ob (fun q => by rw [(hw b q).2.2] at e; cases e) (up S.keep b ob e)
  have cn : ∀ {x : Str} {c : Addr} {ov : Option Value}, env.cells.lookup x = some c → s.heap.IsCell c ov → h'.IsCell c ov := by
    rintro x c ov e ⟨ob, ho, hd⟩
    refine ⟨ob, k c ob (fun q => ?_) ho, hd⟩
    obtain ⟨_, q2, q3⟩ := hw c q
    exact q2 (.inr (.inr ⟨x, e, q3⟩))
  refine ⟨⟨B.kit.keeps (up keep), fun b hb => ?_, ?_⟩, ?_, keep, fun y c h1 h2 => let ⟨ov, h3⟩ := S.cells y c h1 h2; ⟨ov, cn h1 h3⟩⟩
  · obtain ⟨o, e⟩ := S.inv.hp b fun q => hb q.1
    exact ⟨o, k b o (fun q => hb (hw b q).1) e⟩
  · obtain ⟨m, hn, hv⟩ := S.inv.ns
    refine ⟨m, hn.at' fun o e => k _ o (fun q => (hw _ q).2.1 (.inl rfl)) e, fun x e hx => ?_⟩
    obtain ⟨u, g1, g2⟩ := hv x e hx
    exact ⟨u, g1.imp id fun ⟨k', c, e, i⟩ => ⟨k', c, e, cn e i⟩, g2.mono (fun _ q => q.1) fun b o q e => k b o q.2 e⟩
  · obtain ⟨vs, ⟨o, ho⟩, ra⟩ := S.acc
    exact ⟨vs, ⟨o, k _ _ (fun q => (hw _ q).2.1 (.inr (.inl rfl))) ho⟩, ra.mono (fun _ q => q.1) fun b o q e => k b o q.2 e⟩

theorem flatMap_take {α β : Type} (g : α → List β) {ds : List α} {i : Nat} {d : α} (h : ds[i]? = some d) : (ds.take (i + 1)).flatMap g = (ds.take i).flatMap g ++ g d := by
  rw [List.take_add_one, h, List.flatMap_append]
  simp
theorem flatMap_take_le {α β : Type} (g : α → List β) (ds : List α) (i : Nat) : ((ds.take i).flatMap g).length ≤ (ds.flatMap g).length := by
  conv => rhs; rw [← List.take_append_drop i ds, List.flatMap_append, List.length_append]
  omega

/-- a walk over a clause's items -/
theorem comp_loopJ {A : Around} {s₀ : Shared} {env : Env} {P₀ : Addr → Prop} {T I : Addr} {wr : List Addr} {fp : Addr → Prop} {ds : List D} {tgt : Expr} {St : Nat → Heap → Prop} {ifs : List Expr} {body : Env → Value → Sem Unit} {e : Expr} {depth : Nat} {pos : Pos} {ys : List D} {s : Shared} {k : Nat}
    (E : EnvIs sc env) (Bu : Bud A n) (B₀ : CB C s₀ os env P₀ T) (W : It C A I wr fp ds tgt St) (hw : ∀ b ∈ wr, P₀ b ∧ ¬ Hot env s₀.heap T b ∧ s₀.heap.get? b = none) (hfp : ∀ b, fp b → ¬ Hot env s₀.heap T b ∧ P₀ b)
    (S : CS C s₀ env (fun b => P₀ b ∧ b ∉ wr) T l ys s) (st₀ : St 0 s.heap) (hk : k ≤ s.toks) (J : Nat → List D → Nat → Prop) (hJ₀ : J 0 ys k) (hJ : ∀ i ys k k', J i ys k → k ≤ k' → J i ys k')
    (hitem : ∀ i d ys k', ds[i]? = some d → J i ys k' → k ≤ k' → ∃ l₁ b, BindC os tgt d l l₁ ∧ Tests C n sc l₁ ifs b ∧ (b = false → J (i + 1) ys k') ∧ (b = true → BodyJ C n sc os l₁ k' body ys (J (i + 1))))
    (heq : compTurn e depth (.ref I) (.ref T) env = (standAt pos >>= fun _ => pyNext (.ref I) >>= fun r => match r with
      | none => pure (.done .next)
      | some v => letOwnedTupleGo tgt (.ref I) v >>= fun _ => assign tgt env v >>= fun _ => testsOf ifs env >>= fun ok =>
        if ok = true then body env (.ref T) >>= fun _ => again (.compLoop e depth (.ref I) (.ref T) env) else again (.compLoop e depth (.ref I) (.ref T) env)))
    (hfr : (Code.compLoop e depth (.ref I) (.ref T) env).isFrame = false) (hun : A.under (.compLoop e depth (.ref I) (.ref T) env) = A) (hqt : (Code.compLoop e depth (.ref I) (.ref T) env).quiet = true)
    {R : Result → Shared → Prop} (hR : ∀ s' ys', J ds.length ys' s'.toks → k ≤ s'.toks → CS C s₀ env P₀ T l ys' s' → (∀ b o, ¬ Hot env s₀.heap T b → b ∉ wr → s.heap.get? b = some o → s'.heap.get? b = some o) → R (.ok .next) s') :
    codeAny (model C.prog C.w) A (.compLoop e depth (.ref I) (.ref T) env) R s := by
  have B : CB C s₀ os env (fun b => P₀ b ∧ b ∉ wr) T := B₀.sub fun _ q => q.1
  generalize hP : (fun b => P₀ b ∧ b ∉ wr) = P at S B
  have hPw : ∀ b ∈ wr, ¬ P b := fun b hb q => by rw [← hP] at q; exact q.2 hb
  have hfp' : ∀ b, fp b → b ∉ wr → P b := fun b hb q => by rw [← hP]; exact ⟨(hfp b hb).2, q⟩
  refine codeAny_loop hqt (fun k₀ s' => ∃ i ys', k₀ = ds.length + 1 - i ∧ i ≤ ds.length ∧ (J i ys' s'.toks ∧ k ≤ s'.toks) ∧ CS C s₀ env P T l ys' s' ∧ St i s'.heap ∧ (∀ b o, ¬ Hot env s₀.heap T b → b ∉ wr → s.heap.get? b = some o → s'.heap.get? b = some o)) ?_ (ds.length + 1)
    ⟨0, ys, rfl, Nat.zero_le _, ⟨hJ _ _ _ _ hJ₀ hk, hk⟩, S, st₀, fun _ _ _ _ e => e⟩
  rintro k₀ s' ⟨i, ys', rfl, hle, ⟨hJ', hks'⟩, S', st, kb⟩
  rw [hun]
  show wpAny _ A (if (Code.compLoop e depth (.ref I) (.ref T) env).isFrame = true then _ else (compTurn e depth (.ref I) (.ref T) env).onRaise (fun x => do noteFrame x env; theTreesLotGoes x)) _ _ s'
  rw [hfr, if_neg (by decide)]
  refine wpAny_noted ?_
  rw [heq]
  refine wpAny_bind (wpAny_standAt (wpAny_bind ?_))
  by_cases hlt : i < ds.length
  · have hd : ds[i]? = some ds[i] := List.getElem?_eq_getElem hlt
    refine wpAny_mono (wpAny_toks (W.next i _ s' hd st)) (fun r s₁ h₁ => ?_) fun _ _ x => x.1.elim
    obtain ⟨⟨v, rfl, h₁⟩, ht₁⟩ := h₁
    refine wpAny_bind (wpAny_mono (wpAny_toks h₁) (fun _ s₂ h₂ => ?_) fun _ _ x => x.1.elim)
    obtain ⟨⟨st₂, rv, kw⟩, ht₂⟩ := h₂
    have rv := rv P hfp' fun b hb => S'.inv.fresh hb
    have S₂ := S'.kw B kw fun b hb => ⟨hPw b hb, (hw b hb).2.1, (hw b hb).2.2, W.live _ _ st₂ b hb⟩
    have kb₂ : ∀ b o, ¬ Hot env s₀.heap T b → b ∉ wr → s.heap.get? b = some o → s₂.heap.get? b = some o := by
      obtain ⟨h', tk, rfl, kw⟩ := kw
      exact fun b o hb hbw e => kw b o hbw (kb b o hb hbw e)
    obtain ⟨l₁, b, hbind, htests, hno, hyes⟩ := hitem i _ ys' s'.toks hd hJ' hks'
    have fin : ∀ s₅ ys₅, CS C s₀ env P T l₁ ys₅ s₅ → KCD env s₀.heap T s₂ s₅ → J (i + 1) ys₅ s₅.toks → k ≤ s₅.toks → ∃ m, m < ds.length + 1 - i ∧ ∃ i ys', m = ds.length + 1 - i ∧ i ≤ ds.length ∧ (J i ys' s₅.toks ∧ k ≤ s₅.toks) ∧ CS C s₀ env P T l ys' s₅ ∧ St i s₅.heap ∧ (∀ b o, ¬ Hot env s₀.heap T b → b ∉ wr → s.heap.get? b = some o → s₅.heap.get? b = some o) :=
      fun s₅ ys₅ S₅ k₅ j₅ hk₅ => ⟨ds.length + 1 - (i + 1), by omega, i + 1, ys₅, rfl, hlt, ⟨j₅, hk₅⟩, S₅.less hbind.less, W.frame _ _ _ st₂ fun b o hb e => k₅ b o (hfp b hb).1 e, fun b o hb hbw e => k₅ b o hb (kb₂ b o hb hbw e)⟩
    refine wpAny_bind (wpAny_mono (wpAny_toks (assignC (Q := fun _ s₃ => CS C s₀ env P T l₁ ys' s₃ ∧ KCD env s₀.heap T s₂ s₃) E Bu.hand B S₂ hbind rv fun s₃ S₃ k₃ => ⟨S₃, k₃⟩)) (fun _ s₃ h₃ => ?_) fun _ _ x => x.1.elim)
    obtain ⟨⟨S₃, k₃⟩, ht₃⟩ := h₃
    refine wpAny_bind (wpAny_mono (wpAny_toks (tests_run E Bu S₃.inv htests)) (fun ok s₄ h₄ => ?_) fun _ _ x => x.1.elim)
    obtain ⟨⟨rfl, k₄⟩, ht₄⟩ := h₄
    have S₄ := S₃.keeps k₄
    have ht : s'.toks ≤ s₄.toks := Nat.le_trans (Nat.le_trans ht₁ ht₂) (Nat.le_trans ht₃ ht₄)
    cases ok with
    | false =>
      rw [if_neg (by decide)]
      exact wpAny_pure ⟨rfl, fin s₄ ys' S₄ (k₃.trans (.of k₄)) (hJ _ _ _ _ (hno rfl) ht) (Nat.le_trans hks' ht)⟩
    | true =>
      rw [if_pos rfl]
      refine wpAny_bind (wpAny_mono (wpAny_toks (hyes rfl A s₀ env P T s₄ E Bu B S₄ ht)) (fun _ s₅ h₅ => ?_) fun _ _ x => x.1.elim)
      obtain ⟨⟨⟨ys₅, j₅, S₅⟩, k₅⟩, ht₅⟩ := h₅
      exact wpAny_pure ⟨rfl, fin s₅ ys₅ S₅ (k₃.trans ((KCD.of k₄).trans k₅)) j₅ (Nat.le_trans hks' (Nat.le_trans ht ht₅))⟩
  · have hin : i = ds.length := by omega
    subst hin
    refine wpAny_mono (wpAny_toks (W.done s' st)) (fun r s₁ h₁ => ?_) fun _ _ x => x.1.elim
    obtain ⟨⟨rfl, kw⟩, ht₁⟩ := h₁
    refine wpAny_pure ?_
    rw [← hP] at S'
    refine hR _ ys' (hJ _ _ _ _ hJ' ht₁) (Nat.le_trans hks' ht₁) (S'.finish B₀ kw hw) ?_
    obtain ⟨h', tk, rfl, kw⟩ := kw
    exact fun b o hb hbw e => kw b o hbw (kb b o hb hbw e)
theorem comp_loop {A : Around} {s₀ : Shared} {env : Env} {P₀ : Addr → Prop} {T I : Addr} {wr : List Addr} {fp : Addr → Prop} {ds : List D} {tgt : Expr} {St : Nat → Heap → Prop} {ifs : List Expr} {body : Env → Value → Sem Unit} {e : Expr} {depth : Nat} {pos : Pos} {ys : List D} {s : Shared} {g : D → List D}
    (E : EnvIs sc env) (Bu : Bud A n) (B₀ : CB C s₀ os env P₀ T) (W : It C A I wr fp ds tgt St) (hw : ∀ b ∈ wr, P₀ b ∧ ¬ Hot env s₀.heap T b ∧ s₀.heap.get? b = none) (hfp : ∀ b, fp b → ¬ Hot env s₀.heap T b ∧ P₀ b)
    (S : CS C s₀ env (fun b => P₀ b ∧ b ∉ wr) T l ys s) (st₀ : St 0 s.heap) (hz : ys.length + (ds.flatMap g).length ≤ 100000)
    (hitem : ∀ d ∈ ds, ∃ l₁ b, BindC os tgt d l l₁ ∧ Tests C n sc l₁ ifs b ∧ (b = false → g d = []) ∧ (b = true → BodyOk C n sc os l₁ body (g d)))
    (heq : compTurn e depth (.ref I) (.ref T) env = (standAt pos >>= fun _ => pyNext (.ref I) >>= fun r => match r with
      | none => pure (.done .next)
      | some v => letOwnedTupleGo tgt (.ref I) v >>= fun _ => assign tgt env v >>= fun _ => testsOf ifs env >>= fun ok =>
        if ok = true then body env (.ref T) >>= fun _ => again (.compLoop e depth (.ref I) (.ref T) env) else again (.compLoop e depth (.ref I) (.ref T) env)))
    (hfr : (Code.compLoop e depth (.ref I) (.ref T) env).isFrame = false) (hun : A.under (.compLoop e depth (.ref I) (.ref T) env) = A) (hqt : (Code.compLoop e depth (.ref I) (.ref T) env).quiet = true)
    {R : Result → Shared → Prop} (hR : ∀ s', CS C s₀ env P₀ T l (ys ++ ds.flatMap g) s' → (∀ b o, ¬ Hot env s₀.heap T b → b ∉ wr → s.heap.get? b = some o → s'.heap.get? b = some o) → R (.ok .next) s') :
    codeAny (model C.prog C.w) A (.compLoop e depth (.ref I) (.ref T) env) R s := 
  comp_loopJ E Bu B₀ W hw hfp S st₀ (Nat.zero_le _) (fun i ys' _ => ys' = ys ++ (ds.take i).flatMap g) (by simp) (fun _ _ _ _ h _ => h)
    (fun i d ys' k' hd hys _ => by
      obtain ⟨l₁, b, h1, h2, h3, h4⟩ := hitem d (List.mem_of_getElem? hd)
      have len := flatMap_take_le g ds (i + 1)
      rw [flatMap_take g hd, List.length_append] at len
      refine ⟨l₁, b, h1, h2, fun hb => ?_, fun hb => (h4 hb).J ?_ fun _ _ => ?_⟩
      · rw [flatMap_take g hd, h3 hb, List.append_nil]; exact hys
      · rw [hys, List.length_append]; omega
      · rw [flatMap_take g hd, hys, List.append_assoc]) heq hfr hun hqt
    fun s' ys' hys _ S' hk' => hR s' (by rw [← List.take_length (l := ds)] ; exact hys ▸ S') hk'
end
end Mine

end
section
open PySem PySem.Calls PyProof.Rows PySem.W PySem.Spec PySem.SeqAt
namespace Mine
set_option Elab.async false
set_option maxRecDepth 10000
set_option linter.unusedVariables false

/-! a block's scope, cells -/
noncomputable def relab (scope outer : Scope) : Scope :=
  { scope with names := scope.names.map fun (n, k) => if (k == .free && outer.kind == .function && outer.names.lookup n == some .cell) then (n, .cell) else (n, k) }
theorem relab_eq {scope sc : Scope} {env : Env} (E : EnvIs sc env) : relabel scope env = relab scope sc := by
  unfold relabel relab Env.kindOf
  rw [E.scope]
theorem lookup_relab {outer : Scope} : ∀ {names : List (Str × NameKind)} {x : Str} {k : NameKind}, names.lookup x = some k →
    (names.map fun (n, k) => if (k == NameKind.free && outer.kind == .function && outer.names.lookup n == some .cell) then (n, NameKind.cell) else (n, k)).lookup x = some (if (k == NameKind.free && outer.kind == .function && outer.names.lookup x == some .cell) then .cell else k)
  | [], x, k, h => by simp at h
  | (n, k') :: r, x, k, h => by
    have ih := @lookup_relab outer r x k
    show List.lookup x ((if (k' == NameKind.free && outer.kind == .function && outer.names.lookup n == some .cell) = true then (n, NameKind.cell) else (n, k')) :: _) = _
    cases hx : x == n with
    | true =>
      simp only [List.lookup_cons, hx] at h
      cases h
      rw [beq_iff_eq.mp hx]
      split <;> simp [List.lookup_cons]
    | false =>
      simp only [List.lookup_cons, hx] at h
      by_cases hc : (k' == NameKind.free && outer.kind == .function && outer.names.lookup n == some .cell) = true
      · rw [if_pos hc]; simp only [List.lookup_cons, hx]; exact ih h
      · rw [if_neg hc]; simp only [List.lookup_cons, hx]; exact ih h

noncomputable def capt (cells : List (Str × Addr)) : List (Str × NameKind) → List (Str × Addr) → List (Str × Addr)
  | [], acc => acc
  | (n, k) :: r, acc => capt cells r (if k == .free then (n, (cells.lookup n).getD 0) :: acc else acc)
theorem capt_lookup {cells : List (Str × Addr)} : ∀ {names : List (Str × NameKind)} {acc : List (Str × Addr)} {x : Str}, (∀ y ∈ names, y.2 = .free → (cells.lookup y.1).isSome = true) → (acc.lookup x = cells.lookup x ∨ (acc.lookup x = none ∧ (x, NameKind.free) ∈ names)) →
    (capt cells names acc).lookup x = cells.lookup x
  | [], acc, x, _, h => by
    rcases h with h | ⟨_, h⟩
    · exact h
    · simp at h
  | (n, k) :: r, acc, x, hs, h => by
    unfold capt
    have hr : ∀ y ∈ r, y.2 = .free → (cells.lookup y.1).isSome = true := fun y hy => hs y (List.mem_cons_of_mem _ hy)
    refine capt_lookup hr ?_
    by_cases hk : k = .free
    · subst hk
      rw [if_pos (by decide), List.lookup_cons]
      have := hs _ List.mem_cons_self rfl
      obtain ⟨c, hc⟩ := Option.isSome_iff_exists.mp this
      cases hx : x == n with
      | true =>
        left
        rw [beq_iff_eq.mp hx]
        show some ((cells.lookup n).getD 0) = _
        have hc' : cells.lookup n = some c := hc
        rw [hc']; rfl
      | false =>
        rcases h with h | ⟨h, h'⟩
        · exact .inl h
        · refine .inr ⟨h, ?_⟩
          rcases List.mem_cons.mp h' with e | e
          · rw [(Prod.mk.inj e).1] at hx; simp at hx
          · exact e
    · rw [if_neg (by simpa using hk)]
      rcases h with h | ⟨h, h'⟩
      · exact .inl h
      · refine .inr ⟨h, ?_⟩
        rcases List.mem_cons.mp h' with e | e
        · exact absurd (Prod.mk.inj e).2.symm hk
        · exact e
theorem capt_mem {cells : List (Str × Addr)} : ∀ {names : List (Str × NameKind)} {acc : List (Str × Addr)} {x : Str} {c : Addr}, (∀ y ∈ names, y.2 = .free → (cells.lookup y.1).isSome = true) → (x, c) ∈ capt cells names acc → (x, c) ∈ acc ∨ ((x, NameKind.free) ∈ names ∧ cells.lookup x = some c)
  | [], acc, x, c, _, h => .inl h
  | (n, k) :: r, acc, x, c, hs, h => by
    unfold capt at h
    rcases capt_mem (fun y hy => hs y (List.mem_cons_of_mem _ hy)) h with h | h
    · by_cases hk : k = .free
      · subst hk
        rw [if_pos (by decide)] at h
        rcases List.mem_cons.mp h with e | e
        · obtain ⟨rfl, rfl⟩ := Prod.mk.inj e
          obtain ⟨c, hc⟩ := Option.isSome_iff_exists.mp (hs _ List.mem_cons_self rfl)
          right
          have hc' : cells.lookup x = some c := hc
          rw [hc']; exact ⟨List.mem_cons_self, rfl⟩
        · exact .inl e
      · rw [if_neg (by simpa using hk)] at h
        exact .inl h
    · exact .inr ⟨List.mem_cons_of_mem _ h.1, h.2⟩

theorem closure_capt_go {env : Env} (f : Str × NameKind → List (Str × Addr) → Sem (ForInStep (List (Str × Addr)))) (hf : ∀ n k cs, f (n, k) cs = if (k == NameKind.free) = true then (do let a ← cellOf env n; pure (.yield ((n, a) :: cs))) else pure (.yield cs)) :
    ∀ (names : List (Str × NameKind)) (acc : List (Str × Addr)), (∀ y ∈ names, y.2 = .free → (env.cells.lookup y.1).isSome = true) → forIn names acc f = pure (capt env.cells names acc)
  | [], acc, _ => rfl
  | (n, k) :: r, acc, hs => by
    have ih := fun acc => closure_capt_go f hf r acc fun y hy => hs y (List.mem_cons_of_mem _ hy)
    rw [List.forIn_cons, hf]
    unfold capt
    by_cases hk : k = .free
    · subst hk
      obtain ⟨c, hc⟩ := Option.isSome_iff_exists.mp (hs _ List.mem_cons_self rfl)
      have hc' : env.cells.lookup n = some c := hc
      rw [if_pos (by decide), if_pos (by decide)]
      unfold cellOf
      rw [hc']
      simp only [pure_bind, Option.getD_some]
      exact ih _
    · rw [if_neg (by simpa using hk), if_neg (by simpa using hk)]
      simp only [pure_bind]
      exact ih _
theorem closure_capt {scope : Scope} {env : Env} (hs : ∀ y ∈ scope.names, y.2 = .free → (env.cells.lookup y.1).isSome = true) : closureFor scope env = pure (capt env.cells scope.names []) := by
  simp only [closureFor]
  rw [closure_capt_go (env := env) _ (fun n k cs => ?_) scope.names [] hs]
  · rfl
  · cases hk : k == NameKind.free <;> simp [hk]

theorem cellsFrom_app : ∀ (names : List (Str × NameKind)) (n : Nat) (acc cl : List (Str × Addr)), cellsFrom n names (acc ++ cl) = cellsFrom n names acc ++ cl
  | [], _, _, _ => rfl
  | (x, k) :: r, n, acc, cl => by
    unfold cellsFrom
    split
    · exact cellsFrom_app r (n + 1) ((x, n) :: acc) cl
    · exact cellsFrom_app r n acc cl
theorem cellsFrom_has : ∀ (names : List (Str × NameKind)) (n : Nat) (acc : List (Str × Addr)) (x : Str), ((x, NameKind.cell) ∈ names ∨ (acc.lookup x).isSome = true) → ((cellsFrom n names acc).lookup x).isSome = true
  | [], _, _, _, h => by rcases h with h | h; · simp at h
                         · exact h
  | (y, k) :: r, n, acc, x, h => by
    unfold cellsFrom
    by_cases hk : k = .cell
    · subst hk
      rw [if_pos (by decide)]
      refine cellsFrom_has r (n + 1) _ x ?_
      rw [List.lookup_cons]
      cases hx : x == y with
      | true => exact .inr rfl
      | false =>
        rcases h with h | h
        · rcases List.mem_cons.mp h with e | e
          · rw [(Prod.mk.inj e).1] at hx; simp at hx
          · exact .inl e
        · exact .inr h
    · rw [if_neg (by simpa using hk)]
      refine cellsFrom_has r n acc x ?_
      rcases h with h | h
      · rcases List.mem_cons.mp h with e | e
        · exact absurd (Prod.mk.inj e).2.symm hk
        · exact .inl e
      · exact .inr h
theorem cellsFrom_name : ∀ (names : List (Str × NameKind)) (n : Nat) (acc : List (Str × Addr)) (x : Str) (c : Addr), (x, c) ∈ cellsFrom n names acc → (x, c) ∈ acc ∨ (x, NameKind.cell) ∈ names
  | [], _, _, _, _, h => .inl h
  | (y, k) :: r, n, acc, x, c, h => by
    unfold cellsFrom at h
    by_cases hk : k = .cell
    · subst hk
      rw [if_pos (by decide)] at h
      rcases cellsFrom_name r (n + 1) _ x c h with h | h
      · rcases List.mem_cons.mp h with e | e
        · rw [(Prod.mk.inj e).1]; exact .inr List.mem_cons_self
        · exact .inl e
      · exact .inr (List.mem_cons_of_mem _ h)
    · rw [if_neg (by simpa using hk)] at h
      exact (cellsFrom_name r n acc x c h).imp id (List.mem_cons_of_mem _)

theorem lookup_app {l r : List (Str × Addr)} {x : Str} : (l ++ r).lookup x = (l.lookup x).or (r.lookup x) := by
  induction l with
  | nil => simp
  | cons p l ih =>
    rw [List.cons_append, List.lookup_cons, List.lookup_cons]
    cases x == p.1 <;> simp [ih]

section
variable {M : Model} {A : Around} {E : Value → Shared → Prop} {s : Shared}
theorem newBlock {scope : Scope} {globals : Addr} {cl : List (Str × Addr)} {qual : Str} {env : Env} {Q : Env → Shared → Prop}
    (h : Q { scope, locals := s.heap.objs.size, globals, cells := cellsFrom (s.heap.objs.size + 1) scope.names cl, qual, func := none, code := env.code, frame := env.frame, builtins := env.builtins }
      { s with heap := pushCells (s.heap.push { cls := .type "dict", data := .dict #[] }) scope.names }) : wpAny M A (newFunctionEnv scope globals cl [] qual none .none (some env)) Q E s := by
  simp only [newFunctionEnv, Option.isSome_some, if_true]
  refine wpAny_bind (wpAny_alloc ?_)
  refine wpAny_bind (wpAny_layCells _ (fun name kind cells => by cases hkc : kind == NameKind.cell <;> simp [hkc]) _ _ _ _ ?_)
  rw [show ({ s with heap := s.heap.push { cls := .type "dict", data := .dict #[] } } : Shared).heap.objs.size = s.heap.objs.size + 1 from Heap.size_push ..]
  rw [List.forIn_nil]
  refine wpAny_bind (wpAny_pure ?_)
  exact wpAny_pure h
end

section
variable {prog : Program} {w : World} {A : Around} {s : Shared} {R : Result → Shared → Prop}
theorem compStart_run {e : Expr} {depth : Nat} {it acc : Value} {env : Env} {g : Comprehension} (hg : (clausesOf e)[depth]? = some g) (ha : g.is_async = 0) (hfr : (Code.compStart e depth it acc env).isFrame = false) (hun : A.under (.compStart e depth it acc env) = A)
    (hq : (Code.compLoop e depth it acc env).quiet = true)
    (h0 : codeAny (model prog w) A (.compLoop e depth it acc env) R s)
    (h : wpAny (model prog w) A (pyIter it) (fun it' s' => it' = it ∧ codeAny (model prog w) A (.compLoop e depth it acc env) R s') NoE s) :
    codeAny (model prog w) A (.compStart e depth it acc env) R s := by
  refine codeAny_of_tree ?_
  rw [hun]
  show wpAny _ A (if (Code.compStart e depth it acc env).isFrame = true then _ else (compStart e depth it acc env).onRaise (fun x => do noteFrame x env; standAt theWindowsPlace)) _ _ s
  rw [hfr, if_neg (by decide)]
  refine wpAny_notedAt ?_
  unfold compStart
  rw [hg]
  have e0 : (Option.elim (some g) false fun x => x.is_async != 0) = false := by show (g.is_async != 0) = false; rw [ha]; rfl
  rw [e0]
  show wpAny _ _ (ask >>= _) _ _ s
  refine wpAny_bind (wpAny_askSetting (wpAny_ite ?_))
  split
  · first
      | exact wpAny_bind (wpAny_pure (wpAny_pure (And.intro hq h0)))
      | exact wpAny_pure (And.intro hq h0)
  · have fin : ∀ {s'}, codeAny (model prog w) A (.compLoop e depth it acc env) R s' → _ := fun h => And.intro hq h
    first
      | exact wpAny_bind (wpAny_rule (wpAny_bind (wpAny_standAt (wpAny_bind (wpAny_mono h (fun it' s' h' => wpAny_pure (h'.1 ▸ And.intro hq h'.2)) fun _ _ x => x.elim)))))
      | (refine wpAny_bind (wpAny_rule ?_); show wpAny _ _ (standAt g.iter.pos >>= _) _ _ s; exact wpAny_bind (wpAny_standAt (wpAny_bind (wpAny_mono h (fun it' s' h' => wpAny_pure (h'.1 ▸ And.intro hq h'.2)) fun _ _ x => x.elim))))
end
end Mine

end
section
open PySem PySem.Calls PyProof.Rows PySem.W PySem.Spec PySem.SeqAt
namespace Mine
set_option Elab.async false
set_option maxRecDepth 10000
set_option linter.unusedVariables false
section
variable {C : Cx} {n : Nat} {sc os : Scope} {l : Loc}

theorem CS.shrink {s₀ : Shared} {env : Env} {P : Addr → Prop} {T : Addr} {ys : List D} {wr : List Addr} {s s' : Shared} (S : CS C s₀ env P T l ys s) (k : Keeps s s') (hw : ∀ b ∈ wr, s.heap.get? b = none ∧ ∃ o, s'.heap.get? b = some o) :
    CS C s₀ env (fun b => P b ∧ b ∉ wr) T l ys s' := by
  have S' := S.keeps k
  have out : ∀ b, (∃ o, s.heap.get? b = some o) → b ∉ wr := fun b ⟨o, e⟩ hb => by rw [(hw b hb).1] at e; cases e
  refine ⟨⟨S'.inv.kit, fun b hb => ?_, ?_⟩, ?_, S'.keep, S'.cells⟩
  · by_cases q : b ∈ wr
    · exact (hw b q).2
    · exact S'.inv.hp b fun z => hb ⟨z, q⟩
  · obtain ⟨m, hn, hv⟩ := S.inv.ns
    exact ⟨m, hn.keeps (up k), fun x d e => let ⟨v, h1, h2⟩ := hv x d e; ⟨v, h1.keeps (up k), h2.held.mono (fun b hb => ⟨hb.1, out b hb.2⟩) fun b o _ e => up k b o e⟩⟩
  · obtain ⟨vs, hp, ra⟩ := S.acc
    exact ⟨vs, hp.at fun o e => up k _ _ e, ra.held.mono (fun b hb => ⟨hb.1, out b hb.2⟩) fun b o _ e => up k b o e⟩

/-- the second clause -/
noncomputable def clauseOf (e : Expr) (iter : Expr) (env : Env) (acc : Value) : Sem Unit :=
  eval iter env >>= fun x => standAt iter.pos >>= fun _ => foldedSetIterable iter env x >>= fun x => holding [x] (pyIter x) >>= fun it => runOwn (.compStart e 1 it acc env) env >>= fun _ => pure ()

theorem hot_live {s₀ : Shared} {env : Env} {P : Addr → Prop} {T : Addr} {ys : List D} {s : Shared} (S : CS C s₀ env P T l ys s) {b : Addr} (hb : Hot env s₀.heap T b) : ∃ o, s.heap.get? b = some o := by
  rcases hb with rfl | rfl | ⟨x, h1, h2⟩
  · obtain ⟨m, ⟨o, _, _, e, _⟩, _⟩ := S.inv.ns; exact ⟨o, e⟩
  · obtain ⟨vs, ⟨o, e⟩, _⟩ := S.acc; exact ⟨_, e⟩
  · obtain ⟨ov, o, e, _⟩ := S.cells x b h1 h2; exact ⟨o, e⟩

theorem BodyOk.clause {elt : Expr} {g₁ : Comprehension} {tgt iter : Expr} {ifs : List Expr} {scope : Scope} {pos : Pos} {ds : List D} {g : D → List D} (hi : ExI C n sc l iter ds tgt)
    (hitem : ∀ d ∈ ds, ∃ l₁ b, BindC os tgt d l l₁ ∧ Tests C n sc l₁ ifs b ∧ (b = false → g d = []) ∧ (b = true → BodyOk C n sc os l₁ (emitOf elt) (g d)))
    (hs : ∀ env x, foldedSetIterable iter env x = pure x := by intro _ _; rfl) : BodyOk C n sc os l (clauseOf (.ListComp elt [g₁, ⟨tgt, iter, ifs, 0⟩] scope pos) iter) (ds.flatMap g) := by
  intro A s₀ env P T ys s E Bu B S hz
  refine wpAny_bind (wpAny_mono (hi A env P s E Bu S.inv) (fun x s₁ h₁ => wpAny_bind (wpAny_standAt ?_)) fun _ _ x => x)
  rw [hs]
  refine wpAny_bind (wpAny_pure (wpAny_bind (wpAny_holding (wpAny_mono h₁ (fun it s₂ h₂ => ?_) fun _ _ x => x))))
  obtain ⟨I, wr, St, rfl, k₂, hw, W, st₀⟩ := h₂
  have S₂ := S.shrink k₂ hw
  have hwx : ∀ b ∈ wr, P b ∧ ¬ Hot env s₀.heap T b ∧ s₀.heap.get? b = none := by
    intro b hb
    have e := (hw b hb).1
    refine ⟨S.inv.fresh e, fun q => ?_, ?_⟩
    · obtain ⟨o, q⟩ := hot_live S q
      rw [e] at q; cases q
    · cases q : s₀.heap.get? b with
      | none => rfl
      | some o => have := up S.keep _ _ q; rw [e] at this; cases this
  refine wpAny_bind (wpAny_runOwn ?_)
  show codeAny _ A _ _ s₂
  have loop : ∀ {R : Result → Shared → Prop}, (∀ s', CS C s₀ env P T l (ys ++ ds.flatMap g) s' → KCD env s₀.heap T s s' → R (.ok .next) s') → codeAny (model C.prog C.w) A (.compLoop (.ListComp elt [g₁, ⟨tgt, iter, ifs, 0⟩] scope pos) 1 (.ref I) (.ref T) env) R s₂ := by
    intro R hR
    refine comp_loop E Bu B W hwx (fun b hb => ⟨fun q => (B.hot b q).1 hb.1, hb.1⟩) S₂ st₀ hz hitem (pos := iter.pos) (by rfl) rfl rfl rfl fun s' S' k' => hR s' S' fun b o hb e => k' b o hb (fun q => by rw [(hw b q).1] at e; cases e) (up k₂ b o e)
  refine compStart_run (g := ⟨tgt, iter, ifs, 0⟩) rfl rfl rfl rfl rfl (loop fun s' S' k' => wpAny_pure ⟨S', k'⟩) (W.self 0 _ _ st₀ ⟨rfl, loop fun s' S' k' => wpAny_pure ⟨S', k'⟩⟩)

noncomputable def BlockOk (C : Cx) (n : Nat) (sc os : Scope) (l : Loc) (iter tgt : Expr) (ifs : List Expr) (body : Env → Value → Sem Unit) (ds : List D) (g : D → List D) : Prop :=
  ∀ d ∈ ds, ∃ l₁ b, BindC os tgt d l l₁ ∧ Tests C n sc l₁ ifs b ∧ (b = false → g d = []) ∧ (b = true → BodyOk C n sc os l₁ body (g d))

structure BlockJ (C : Cx) (n : Nat) (sc os : Scope) (l : Loc) (k : Nat) (tgt : Expr) (ifs : List Expr) (body : Env → Value → Sem Unit) (ds : List D) (J : Nat → List D → Nat → Prop) : Prop where
  h0 : J 0 [] k
  up : ∀ i ys k k', J i ys k → k ≤ k' → J i ys k'
  item : ∀ i d ys k', ds[i]? = some d → J i ys k' → k ≤ k' → ∃ l₁ b, BindC os tgt d l l₁ ∧ Tests C n sc l₁ ifs b ∧ (b = false → J (i + 1) ys k') ∧ (b = true → BodyJ C n sc os l₁ k' body ys (J (i + 1)))
theorem BlockOk.J {iter tgt : Expr} {ifs : List Expr} {body : Env → Value → Sem Unit} {ds : List D} {g : D → List D} (h : BlockOk C n sc os l iter tgt ifs body ds g) (hz : (ds.flatMap g).length ≤ 100000) : BlockJ C n sc os l 0 tgt ifs body ds (fun i ys _ => ys = (ds.take i).flatMap g) :=
  ⟨by simp, fun _ _ _ _ h _ => h, fun i d ys' k' hd hys _ => by
      obtain ⟨l₁, b, h1, h2, h3, h4⟩ := h d (List.mem_of_getElem? hd)
      have len := flatMap_take_le g ds (i + 1)
      rw [flatMap_take g hd, List.length_append] at len
      refine ⟨l₁, b, h1, h2, fun hb => ?_, fun hb => (h4 hb).J ?_ fun _ _ => ?_⟩
      · rw [flatMap_take g hd, h3 hb, List.append_nil]; exact hys
      · rw [hys]; omega
      · rw [flatMap_take g hd, hys]⟩

/-- the names that a block captures -/
noncomputable def capOf (fr : List String) (l : Loc) : Loc := fun x => if x ∈ fr then l x else none

structure Block (scope sc : Scope) (fr : List String) (l : Loc) : Prop where
  kind : scope.kind = .function
  frees : ∀ x ∈ scope.names, x.2 = .free → ∃ y ∈ fr, x.1 = Str.ofString y
  caps : ∀ y ∈ fr, scope.names.lookup (Str.ofString y) = some .free ∧ (sc.names.lookup (Str.ofString y) = some .cell ∨ sc.names.lookup (Str.ofString y) = some .free) ∧ (l y).isSome = true
  look : ∀ x ∈ scope.names, scope.names.lookup x.1 = some x.2

theorem comp_coreJ {e elt iter tgt : Expr} {ifs : List Expr} {g₁ : Comprehension} {gs : List Comprehension} {scope : Scope} {pos : Pos} {fr : List String} {ds : List D} {k : Nat} {J : Nat → List D → Nat → Prop} {body : Env → Value → Sem Unit}
    (he : e = .ListComp elt (g₁ :: gs) scope pos) (hg₁ : g₁ = ⟨tgt, iter, ifs, 0⟩)
    (heq : ∀ I T env, compTurn e 0 (.ref I) (.ref T) env = (standAt iter.pos >>= fun _ => pyNext (.ref I) >>= fun r => match r with
      | none => pure (.done .next)
      | some v => letOwnedTupleGo tgt (.ref I) v >>= fun _ => assign tgt env v >>= fun _ => testsOf ifs env >>= fun ok =>
        if ok = true then body env (.ref T) >>= fun _ => again (.compLoop e 0 (.ref I) (.ref T) env) else again (.compLoop e 0 (.ref I) (.ref T) env)))
    (hi : ExI C n sc l iter ds tgt) (bk : Block scope sc fr l) (hb : BlockJ C n (relab scope sc) scope (capOf fr l) k tgt ifs body ds J)
    (hs : ∀ env x, foldedSetIterable iter env x = pure x)
    {A : Around} {env : Env} {P : Addr → Prop} {s : Shared} (E : EnvIs sc env) (Bu : Bud A n) (I : Inv C env P l s.heap) (hks : k ≤ s.toks) {use : Option (Value → Sem Unit)} {Q : Value → Shared → Prop} {p : Pos}
    (hQ : ∀ T K s' ys, J ds.length ys s'.toks → k ≤ s'.toks → Keeps s s' → s.heap.get? T = none → s.heap.get? K = none → T ≠ K → (∃ vs, s'.heap.PlainList T vs ∧ RepAll (fun b => P b ∧ b ≠ K ∧ b ≠ T) s'.heap vs.toList ys) → (∃ m, s'.heap.Ns K m) →
      compPost (model C.prog C.w) A NoE use Q (.ref T) K (.ok .next) s') :
    wpAny (model C.prog C.w) A (comprehension e scope env p (newList []) false (eval iter env) use) Q NoE s := by
  have hfree : ∀ y ∈ scope.names, y.2 = .free → ∃ z ∈ fr, y.1 = Str.ofString z ∧ ∃ d v c, l z = some d ∧ env.cells.lookup y.1 = some c ∧ s.heap.IsCell c (some v) ∧ Rep P s.heap v d := by
    intro y hy hk
    obtain ⟨z, hz, ez⟩ := bk.frees y hy hk
    obtain ⟨c1, c2, c3⟩ := bk.caps z hz
    obtain ⟨d, hd⟩ := Option.isSome_iff_exists.mp c3
    obtain ⟨m, hn, hv⟩ := I.ns
    obtain ⟨v, hva, r⟩ := hv z d hd
    have hk' : env.kindOf (Str.ofString z) = sc.names.lookup (Str.ofString z) := by unfold Env.kindOf; rw [E.scope]
    rcases hva with ⟨h1, _⟩ | ⟨_, c, h2, h3⟩
    · rw [hk'] at h1
      rcases c2 with q | q <;> (rw [h1] at q; cases q)
    · exact ⟨z, hz, ez, d, v, c, hd, ez ▸ h2, h3, r⟩
  have hsome : ∀ y ∈ scope.names, y.2 = .free → (env.cells.lookup y.1).isSome = true := fun y hy hk => by
    obtain ⟨_, _, _, _, _, c, _, h, _⟩ := hfree y hy hk
    rw [h]; rfl
  subst he
  refine wpAny_comprehension_free (g := g₁) (gs := gs) rfl (by rw [hg₁]; exact hs env) (closure_capt hsome) bk.kind (fun x hx hl => (bk.look x hx).trans (by rw [hl])) ?_
  refine wpAny_mono (wpAny_toks (hi A env P s E Bu I)) (fun x s₁ h₁ => wpAny_mono (wpAny_toks h₁.1) (fun it s₂ h₂ => ?_) fun _ _ x => x.1) fun _ _ x => x.1
  obtain ⟨⟨It', wr, St, rfl, k₂, hw, W, st₀⟩, ht₂⟩ := h₂
  have hk₂ : k ≤ s₂.toks := Nat.le_trans hks (Nat.le_trans h₁.2 ht₂)
  refine wpAny_newObj_type (newBlock ?_)
  dsimp only
  generalize hH : (s₂.heap.push { cls := .type "list", data := .seq ([] : List Value).toArray }) = H
  have hHs : H.objs.size = s₂.heap.objs.size + 1 := by rw [← hH, Heap.size_push]
  have kH : ∀ b o, s₂.heap.get? b = some o → H.get? b = some o := fun b o e => by rw [← hH]; exact Heap.get?_push_of_some _ e
  have hTH : H.get? s₂.heap.objs.size = some { cls := .type "list", data := .seq ([] : List Value).toArray } := by rw [← hH]; exact Heap.get?_push_size _ rfl
  have ok := cellsFrom_ok scope.names (H.push { cls := .type "dict", data := .dict #[] }) (H.objs.size + 1) [] ⟨fun _ _ hm => (nomatch hm), List.Pairwise.nil⟩ (by rw [Heap.size_push]; exact Nat.le_refl _)
  rw [Heap.size_push] at ok
  have hnK : (pushCells (H.push { cls := .type "dict", data := .dict #[] }) scope.names).Ns H.objs.size (fun _ => none) := (Heap.Ns.new H (.type "dict")).keeps (pushCells_keeps _ _)
  have kP : ∀ b o, H.get? b = some o → (pushCells (H.push { cls := .type "dict", data := .dict #[] }) scope.names).get? b = some o := fun b o e => pushCells_keeps _ _ b o (Heap.get?_push_of_some _ e)
  generalize hH' : pushCells (H.push { cls := .type "dict", data := .dict #[] }) scope.names = H' at ok hnK kP
  generalize hbe : ({ scope := relabel scope env, locals := H.objs.size, globals := env.globals, cells := cellsFrom (H.objs.size + 1) scope.names (capt env.cells scope.names []), qual := env.qual, func := none, code := env.code, frame := env.frame, builtins := env.builtins } : Env) = benv
  have hbs : benv.scope = relab scope sc := by rw [← hbe]; exact relab_eq E
  have hbl : benv.locals = H.objs.size := by rw [← hbe]
  have hbc : benv.cells = cellsFrom (H.objs.size + 1) scope.names [] ++ capt env.cells scope.names [] := by rw [← hbe]; exact cellsFrom_app _ _ [] _
  have Eb : EnvIs (relab scope sc) benv := ⟨hbs, by rw [← hbe]; exact E.glob, by rw [← hbe]; exact E.blt, bk.kind⟩
  have kind : ∀ {x : Str} {k : NameKind}, scope.names.lookup x = some k → benv.kindOf x = some (if (k == NameKind.free && sc.kind == .function && sc.names.lookup x == some .cell) then .cell else k) := fun h => by
    unfold Env.kindOf; rw [hbs]; exact lookup_relab h
  clear hbe
  generalize hT : s₂.heap.objs.size = T at *
  generalize hK : H.objs.size = K at *
  have hTK : T < K := by omega
  have nf : ∀ b, T ≤ b → s.heap.get? b = none := fun b hb => by
    cases q : s.heap.get? b with
    | none => rfl
    | some o => exact absurd (Heap.lt_size (up k₂ _ _ q)) (Nat.not_lt.mpr (hT ▸ hb))
  have k₄ : Keeps s { s₂ with heap := H' } := kt k₂ ⟨H', s₂.toks, rfl, fun b o e => kP b o (kH b o e)⟩
  have dich : ∀ {x : Str} {c : Addr}, benv.cells.lookup x = some c → ((x, c) ∈ cellsFrom (K + 1) scope.names [] ∧ K + 1 ≤ c ∧ H'.IsCell c none) ∨ ∃ o, s.heap.get? c = some o := by
    intro x c h
    rw [hbc, lookup_app] at h
    cases q : (cellsFrom (K + 1) scope.names []).lookup x with
    | some c' =>
      rw [q] at h
      cases h
      have := mem_of_lookup q
      exact .inl ⟨this, (ok.empty _ _ this).2, (ok.empty _ _ this).1⟩
    | none =>
      rw [q] at h
      rcases capt_mem hsome (mem_of_lookup h) with h | ⟨h1, h2⟩
      · cases h
      · obtain ⟨_, _, _, _, _, c', _, h3, ⟨o, h4, _⟩, _⟩ := hfree _ h1 rfl
        have h3' : env.cells.lookup x = some c' := h3
        rw [h2] at h3'
        cases h3'
        exact .inr ⟨o, h4⟩
  have hotge : ∀ b, Hot benv s.heap T b → T ≤ b := by
    rintro b (rfl | rfl | ⟨x, h1, h2⟩)
    · rw [hbl]; exact Nat.le_of_lt hTK
    · exact Nat.le_refl _
    · rcases dich h1 with ⟨_, h, _⟩ | ⟨o, h⟩
      · exact Nat.le_trans (Nat.le_of_lt hTK) (Nat.le_of_succ_le h)
      · rw [h2] at h; cases h
  have hex : ∀ b, (∃ o, s₂.heap.get? b = some o) → ¬ Hot benv s.heap T b := fun b ⟨o, e⟩ hb => absurd (Heap.lt_size e) (Nat.not_lt.mpr (hT ▸ hotge b hb))
  have hTne : T ≠ benv.locals := by rw [hbl]; exact Nat.ne_of_lt hTK
  have B : CB C s scope benv (fun b => P b ∧ ¬ Hot benv s.heap T b) T := by
    refine ⟨I.kit, fun b hb => ⟨fun q => q.2 hb, nf b (hotge b hb)⟩, hTne, fun x c h1 h2 => ?_, fun x hx => ⟨?_, ?_⟩, fun x hx => ?_⟩
    · rcases dich h1 with ⟨h, h3, _⟩ | ⟨o, h⟩
      · refine ⟨by rw [hbl]; exact Nat.ne_of_gt h3, Nat.ne_of_gt (Nat.lt_trans hTK h3), fun y hy => ?_⟩
        rcases dich hy with ⟨h', _⟩ | ⟨o, h'⟩
        · exact name_of_addr ok.apart h' h
        · rw [h2] at h'; cases h'
      · rw [h2] at h; cases h
    · rw [kind hx]; rfl
    · have := cellsFrom_has scope.names (K + 1) [] x (.inl (mem_of_lookup hx))
      obtain ⟨c, hc⟩ := Option.isSome_iff_exists.mp this
      refine ⟨c, by rw [hbc, lookup_app, hc]; rfl, nf c ?_⟩
      exact Nat.le_trans (Nat.le_of_lt hTK) (Nat.le_of_succ_le (ok.empty _ _ (mem_of_lookup hc)).2)
    · rw [kind hx]; rfl
  have hwx : ∀ b ∈ wr, (P b ∧ ¬ Hot benv s.heap T b) ∧ ¬ Hot benv s.heap T b ∧ s.heap.get? b = none := fun b hb =>
    have h := hex b (hw b hb).2
    ⟨⟨I.fresh (hw b hb).1, h⟩, h, (hw b hb).1⟩
  have S₄ : CS C s benv (fun b => (P b ∧ ¬ Hot benv s.heap T b) ∧ b ∉ wr) T (capOf fr l) [] { s₂ with heap := H' } := by
    refine ⟨⟨I.kit.keeps (up k₄), fun b hb => ?_, fun _ => none, by rw [hbl]; exact hnK, fun x d hx => ?_⟩, ⟨#[], ⟨_, kP _ _ hTH⟩, .nil⟩, k₄, fun x c h1 h2 => ?_⟩
    · by_cases q : Hot benv s.heap T b
      · rcases q with rfl | rfl | ⟨x, h1, h2⟩
        · obtain ⟨o, _, _, e, _⟩ := hnK; rw [hbl]; exact ⟨o, e⟩
        · exact ⟨_, kP _ _ hTH⟩
        · rcases dich h1 with ⟨_, _, ⟨o, h, _⟩⟩ | ⟨o, h⟩
          · exact ⟨o, h⟩
          · rw [h2] at h; cases h
      · by_cases q' : b ∈ wr
        · obtain ⟨o, e⟩ := (hw b q').2; exact ⟨o, kP _ _ (kH _ _ e)⟩
        · obtain ⟨o, e⟩ := I.hp b fun z => hb ⟨⟨z, q⟩, q'⟩
          exact ⟨o, up k₄ _ _ e⟩
    · unfold capOf at hx
      by_cases hxf : x ∈ fr
      · rw [if_pos hxf] at hx
        obtain ⟨c1, _, _⟩ := bk.caps x hxf
        obtain ⟨z, _, ez, d', v, c, h1, h2, h3, h4⟩ := hfree _ (mem_of_lookup c1) rfl
        have ez' : x = z := ofString_inj ez
        subst ez'
        rw [hx] at h1
        cases h1
        refine ⟨v, .inr ⟨?_, c, ?_, h3.keeps (up k₄)⟩, h4.held.mono (fun b hb => ⟨⟨hb.1, fun q => ?_⟩, fun q => ?_⟩) fun b o _ e => up k₄ b o e⟩
        · rw [kind c1]
          split
          · exact .inl rfl
          · exact .inr rfl
        · rw [hbc, lookup_app]
          have no : (cellsFrom (K + 1) scope.names []).lookup (Str.ofString x) = none := by
            cases q : (cellsFrom (K + 1) scope.names []).lookup (Str.ofString x) with
            | none => rfl
            | some c' =>
              rcases cellsFrom_name _ _ _ _ _ (mem_of_lookup q) with h | h
              · cases h
              · have := bk.look _ h
                rw [c1] at this; cases this
          rw [no]
          show (capt env.cells scope.names []).lookup (Str.ofString x) = some c
          rw [capt_lookup hsome (.inr ⟨rfl, mem_of_lookup c1⟩)]
          exact h2
        · obtain ⟨o, e⟩ := hb.2
          rw [nf b (hotge b q)] at e; cases e
        · obtain ⟨o, e⟩ := hb.2
          rw [(hw b q).1] at e; cases e
      · rw [if_neg hxf] at hx; cases hx
    · rcases dich h1 with ⟨_, _, h⟩ | ⟨o, h⟩
      · exact ⟨none, h⟩
      · rw [h2] at h; cases h
  have st₄ : St 0 H' := W.frame _ _ _ st₀ fun b o _ e => kP _ _ (kH _ _ e)
  have loop : ∀ {R : Result → Shared → Prop}, (∀ s' ys, J ds.length ys s'.toks → k ≤ s'.toks → CS C s benv (fun b => P b ∧ ¬ Hot benv s.heap T b) T (capOf fr l) ys s' → R (.ok .next) s') → codeAny (model C.prog C.w) A (.compLoop (.ListComp elt (g₁ :: gs) scope pos) 0 (.ref It') (.ref T) benv) R { s₂ with heap := H' } := by
    intro R hR
    exact comp_loopJ Eb Bu B W hwx (fun b hb => ⟨hex b hb.2, hb.1, hex b hb.2⟩) S₄ st₄ hk₂ J hb.h0 hb.up hb.item (pos := iter.pos) (heq _ _ _) rfl rfl rfl fun s' ys' j' hk' S' k' => hR s' ys' j' hk' S'
  have fin : ∀ s' ys, J ds.length ys s'.toks → k ≤ s'.toks → CS C s benv (fun b => P b ∧ ¬ Hot benv s.heap T b) T (capOf fr l) ys s' → compPost (model C.prog C.w) A NoE use Q (.ref T) K (.ok .next) s' := by
    intro s' ys j' hk' S'
    refine hQ T K s' ys j' hk' S'.keep (nf T (Nat.le_refl _)) (nf K (Nat.le_of_lt hTK)) (Nat.ne_of_lt hTK) ?_ ?_
    · obtain ⟨vs, hp, ra⟩ := S'.acc
      exact ⟨vs, hp, ra.mono (fun b q => ⟨q.1, fun e => q.2 (.inl (by rw [hbl]; exact e)), fun e => q.2 (.inr (.inl e))⟩) fun _ _ _ e => e⟩
    · obtain ⟨m, hn, _⟩ := S'.inv.ns
      rw [hbl] at hn
      exact ⟨m, hn⟩
  exact compStart_run (g := g₁) rfl (by rw [hg₁]) rfl rfl rfl (loop fin) (W.self 0 _ _ st₄ ⟨rfl, loop fin⟩)

structure CompE (e iter tgt : Expr) (ifs : List Expr) (scope : Scope) (body : Env → Value → Sem Unit) : Prop where
  shape : ∃ elt g₁ gs pos, e = .ListComp elt (g₁ :: gs) scope pos ∧ g₁ = ⟨tgt, iter, ifs, 0⟩
  heq : ∀ I T env, compTurn e 0 (.ref I) (.ref T) env = (standAt iter.pos >>= fun _ => pyNext (.ref I) >>= fun r => match r with
      | none => pure (.done .next)
      | some v => letOwnedTupleGo tgt (.ref I) v >>= fun _ => assign tgt env v >>= fun _ => testsOf ifs env >>= fun ok =>
        if ok = true then body env (.ref T) >>= fun _ => again (.compLoop e 0 (.ref I) (.ref T) env) else again (.compLoop e 0 (.ref I) (.ref T) env))
  hs : ∀ env x, foldedSetIterable iter env x = pure x
theorem compE1 {elt iter tgt : Expr} {ifs : List Expr} {scope : Scope} {pos : Pos} (hs : ∀ env x, foldedSetIterable iter env x = pure x := by intro _ _; rfl) : CompE (.ListComp elt [⟨tgt, iter, ifs, 0⟩] scope pos) iter tgt ifs scope (emitOf elt) :=
  ⟨⟨_, _, _, _, rfl, rfl⟩, fun _ _ _ => rfl, hs⟩
theorem compE2 {elt iter tgt iter' tgt' : Expr} {ifs ifs' : List Expr} {scope : Scope} {pos : Pos} (hs : ∀ env x, foldedSetIterable iter env x = pure x := by intro _ _; rfl) :
    CompE (.ListComp elt [⟨tgt, iter, ifs, 0⟩, ⟨tgt', iter', ifs', 0⟩] scope pos) iter tgt ifs scope (clauseOf (.ListComp elt [⟨tgt, iter, ifs, 0⟩, ⟨tgt', iter', ifs', 0⟩] scope pos) iter') := by
  refine ⟨⟨_, _, _, _, rfl, rfl⟩, fun I T env => ?_, hs⟩
  simp only [clauseOf, bind_assoc, pure_bind]
  rfl

theorem ExR.comp {e iter tgt : Expr} {ifs : List Expr} {scope : Scope} {body : Env → Value → Sem Unit} {fr : List String} {ds : List D} {k : Nat} {J : Nat → List D → Nat → Prop} (ce : CompE e iter tgt ifs scope body) (hi : ExI C n sc l iter ds tgt) (bk : Block scope sc fr l)
    (hb : BlockJ C n (relab scope sc) scope (capOf fr l) k tgt ifs body ds J) : ExR C n sc l k e (fun d k' => ∃ ys, d = .list ys ∧ J ds.length ys k') := by
  intro A env P s E Bu I hks
  obtain ⟨elt, g₁, gs, pos, he, hg⟩ := ce.shape
  have hev : eval e env = comprehension e scope env (firstIterPos (g₁ :: gs) pos) (newList []) false (eval iter env) := by rw [he, eval_ListComp, hg]; rfl
  rw [hev]
  refine comp_coreJ he hg ce.heq hi bk hb ce.hs E Bu I hks fun T K s' ys j' hk' k hT hK hTK ⟨vs, hp, ra⟩ hn => ?_
  obtain ⟨m, hn⟩ := hn
  refine ⟨m, hn, fun h' hs' => ⟨?_, _, ⟨ys, rfl, j'⟩, ?_⟩⟩
  · exact kthrough k ⟨h', s'.toks, rfl⟩ fun b o e => hs'.extBut b o (fun q => by rw [q, hK] at e; cases e) (up k b o e)
  · obtain ⟨o, ho⟩ := hp
    refine .list (vs := vs) (I.fresh hT) ⟨_, hs'.extBut _ _ hTK ho, rfl, _, rfl⟩ (ra.mono (fun _ q => q.1) fun b o q e => hs'.extBut b o q.2.1 e)

theorem Ex.comp {e iter tgt : Expr} {ifs : List Expr} {scope : Scope} {body : Env → Value → Sem Unit} {fr : List String} {ds ys : List D} {g : D → List D} (ce : CompE e iter tgt ifs scope body) (hi : ExI C n sc l iter ds tgt) (bk : Block scope sc fr l)
    (hb : BlockOk C n (relab scope sc) scope (capOf fr l) iter tgt ifs body ds g) (hy : ds.flatMap g = ys) (hz : ys.length ≤ 100000) : Ex C n sc l e (.list ys) := by
  have h := ExR.comp ce hi bk (hb.J (by rw [hy]; exact hz))
  refine ExR.plain fun A env P s E Bu I hk => wpAny_mono (h A env P s E Bu I hk) (fun v s' ⟨kk, d, ⟨ys', e1, e2⟩, r⟩ => ⟨kk, d, ?_, r⟩) fun _ _ x => x
  rw [e1, e2, List.take_length, hy]

theorem S1T.assignComp {o : Option (String × List D)} {Q : Out → Nat → Prop} {x : String} {p pos : Pos} {e iter tgt : Expr} {ifs : List Expr} {scope : Scope} {body : Env → Value → Sem Unit} {fr : List String} {ds : List D} {k : Nat} {J : Nat → List D → Nat → Prop} (ce : CompE e iter tgt ifs scope body) (hi : ExI C n sc l iter ds tgt) (bk : Block scope sc fr l)
    (hb : BlockJ C n (relab scope sc) scope (capOf fr l) k tgt ifs body ds J) (hq : ∀ ys k', J ds.length ys k' → k ≤ k' → Q (.next (put x (.list ys) l) o) k') (hup : ∀ x k k', Q x k → k ≤ k' → Q x k') (hx : sc.names.lookup (Str.ofString x) = some .local)
    (ho : ∀ y ds, o = some (y, ds) → x ≠ y)
    (hsw : (sc.kind == .function && p.line == e.pos.line && !(scope.names.any fun (n, k) => n == Str.ofString x && (k == .local || k == .cell))) = true) : S1T C n sc l o k (.Assign [.Name (Str.ofString x) p] e pos) Q := by
  intro A h₀ env P s a E Bu S hks
  obtain ⟨elt, g₁, gs, lpos, he, hg⟩ := ce.shape
  have hkx : env.kindOf (Str.ofString x) = some .local := by unfold Env.kindOf; rw [E.scope]; exact hx
  have hsw' : swapsWith e (some (.Name (Str.ofString x) p)) pos.line env = pure true := by
    subst he
    have hb : env.blockKind = .function := by unfold Env.blockKind; rw [E.scope, E.kind]; rfl
    show (pure (env.blockKind == .function && env.kindOf (Str.ofString x) == some .local && p.line == (Expr.ListComp elt (g₁ :: gs) scope lpos).pos.line && !(scope.names.any fun (n, k) => n == Str.ofString x && (k == .local || k == .cell))) : Sem Bool) = pure true
    rw [hb, hkx]
    rw [E.kind] at hsw
    exact congrArg pure hsw
  rw [exec_Assign_Name_used _ _ _ _ hsw']
  refine wpAny_bind (wpAny_standAt (wpAny_bind ?_))
  have hev : evalThenUse e env (PySem.assign (.Name (Str.ofString x) p) env) = (do let _ ← comprehension e scope env (firstIterPos (g₁ :: gs) lpos) (newList []) false (eval iter env) (some (PySem.assign (.Name (Str.ofString x) p) env))) := by rw [he, hg]; rfl
  rw [hev]
  refine wpAny_bind (wpAny_mono (Q := fun _ s' => Post C h₀ env P a s (fun x => Q x s'.toks) .next s') (comp_coreJ he hg ce.heq hi bk hb ce.hs E Bu S.inv hks fun T K s' ys j' hk' k hT hK hTK ⟨vs, hp, ra⟩ hn => ?_) (fun _ s' hq => wpAny_pure (wpAny_pure hq)) fun _ _ x => x)
  obtain ⟨m, hn⟩ := hn
  show wpAny _ A (PySem.assign (.Name (Str.ofString x) p) env (.ref T)) _ _ s'
  have S₁ := S.shrink (wr := [K]) (up k) fun b hb => by
    rw [List.mem_singleton.mp hb]
    exact ⟨hK, let ⟨o, _, _, e, _⟩ := hn; ⟨o, e⟩⟩
  have hPT := S.inv.fresh hT
  have hPK := S.inv.fresh hK
  have rT : Rep (fun b => (P b ∧ b ∉ [K]) ∧ a ≠ some b) s'.heap (.ref T) (.list ys) := by
    obtain ⟨o, ho⟩ := hp
    refine .list (vs := vs) ⟨⟨hPT.1, fun q => hTK (List.mem_singleton.mp q)⟩, hPT.2⟩ ⟨_, ho, rfl, _, rfl⟩ (ra.mono (fun b q => ⟨⟨q.1.1, fun z => q.2.1 (List.mem_singleton.mp z)⟩, q.1.2⟩) fun _ _ _ e => e)
  refine wpAny_mono (wpAny_toks (wpAny_assign_Name (store (Q := fun _ s'' => ∃ h₂ tk₂, s'' = { s' with heap := h₂, toks := tk₂ } ∧ SInv C h₀ env (fun b => P b ∧ b ∉ [K]) (put x (.list ys) l) o a h₂ ∧ KB env a s'.heap h₂) (E.scope ▸ E.kind) S₁ (.inl hkx) ho rT fun h₂ tk₂ S₂ k₂ => ⟨h₂, tk₂, rfl, S₂, k₂⟩))) (fun _ s'' hs'' => ?_) fun _ _ x => x.1
  obtain ⟨⟨h₂, tk₂, rfl, S₂, k₂⟩, ht₂⟩ := hs''
  have hKm : ¬ Mut env a K := S.mutNot hPK
  refine ⟨m, hn.at' fun o e => k₂ K o hKm e, fun h₃ hs₃ => ?_⟩
  have S₃ := S.finish S₂ (h' := h₃) (fun b o hb e => hs₃.extBut b o (fun q => hb (q ▸ List.mem_singleton_self _)) e) fun b hb => by
    rw [List.mem_singleton.mp hb]
    refine ⟨?_, hKm, hPK⟩
    cases q : h₀.get? K with
    | none => rfl
    | some o => have := S.sub₀ _ _ q; rw [hK] at this; cases this
  obtain ⟨h₁, t₁, rfl, k₁⟩ := k
  exact ⟨h₃, tk₂, rfl, fun b o hb e => hs₃.extBut b o (fun q => by rw [q, hK] at e; cases e) (k₂ b o hb (k₁ b o e)), _, _, hup _ _ _ (hq ys _ j' hk') ht₂, S₃⟩
theorem S1.assignComp {o : Option (String × List D)} {Q : Out → Prop} {x : String} {p pos : Pos} {e iter tgt : Expr} {ifs : List Expr} {scope : Scope} {body : Env → Value → Sem Unit} {fr : List String} {ds ys : List D} {g : D → List D} (ce : CompE e iter tgt ifs scope body) (hi : ExI C n sc l iter ds tgt) (bk : Block scope sc fr l)
    (hb : BlockOk C n (relab scope sc) scope (capOf fr l) iter tgt ifs body ds g) (hy : ds.flatMap g = ys) (hz : ys.length ≤ 100000) (hq : Q (.next (put x (.list ys) l) o)) (hx : sc.names.lookup (Str.ofString x) = some .local)
    (ho : ∀ y ds, o = some (y, ds) → x ≠ y)
    (hsw : (sc.kind == .function && p.line == e.pos.line && !(scope.names.any fun (n, k) => n == Str.ofString x && (k == .local || k == .cell))) = true) : S1 C n sc l o (.Assign [.Name (Str.ofString x) p] e pos) Q :=
  S1T.plain (S1T.assignComp ce hi bk (hb.J (by rw [hy]; exact hz)) (fun ys' _ j _ => by rw [j, List.take_length, hy]; exact hq) (fun _ _ _ h _ => h) hx ho hsw)
end
end Mine

end
section
open PySem PySem.Calls PyProof.Rows PySem.W PySem.Spec PySem.SeqAt
namespace Mine
set_option Elab.async false
set_option maxRecDepth 10000
set_option linter.unusedVariables false

/-! a def's own frame -/
noncomputable def argL : List String → List D → Loc → Loc
  | x :: xs, d :: ds, l => argL xs ds (put x d l)
  | _, _, l => l

theorem bind_vars {k : Str → Option NameKind} {P : Addr → Prop} {h : Heap} : ∀ (xs : List String) (us : List Value) (ds : List D) (l : Loc) (m cm : Str → Option Value), RepAll P h us ds →
    (∀ y d, l y = some d → ∃ v, ((k (Str.ofString y) = some .local ∧ m (Str.ofString y) = some v) ∨ (k (Str.ofString y) = some .cell ∧ cm (Str.ofString y) = some v)) ∧ Rep P h v d) →
    (∀ x ∈ xs, k (Str.ofString x) = some .local ∨ k (Str.ofString x) = some .cell) →
    (∀ y d, argL xs ds l y = some d → ∃ v, ((k (Str.ofString y) = some .local ∧ bindL k ((xs.map Str.ofString).zip us) m (Str.ofString y) = some v) ∨ (k (Str.ofString y) = some .cell ∧ bindC k ((xs.map Str.ofString).zip us) cm (Str.ofString y) = some v)) ∧ Rep P h v d)
  | [], us, ds, l, m, cm, r, hl, hx => by simpa [argL, bindL, bindC] using hl
  | x :: xs, [], ds, l, m, cm, r, hl, hx => by
    cases r
    simpa [argL, bindL, bindC] using hl
  | x :: xs, u :: us, ds, l, m, cm, r, hl, hx => by
    cases r with
    | @cons _ _ d ds r1 rs =>
      rw [List.map_cons, List.zip_cons_cons, argL, bindL, bindC]
      refine bind_vars xs us ds _ _ _ rs (fun y e hy => ?_) fun z hz => hx z (List.mem_cons_of_mem _ hz)
      by_cases q : y = x
      · subst q
        rw [put_same] at hy
        cases hy
        refine ⟨u, ?_, r1⟩
        rcases hx y List.mem_cons_self with h1 | h1
        · left; refine ⟨h1, ?_⟩; rw [if_pos h1, if_pos rfl]
        · right; refine ⟨h1, ?_⟩; rw [if_neg (by rw [h1]; decide), if_pos rfl]
      · rw [put_ne _ _ q] at hy
        have ne : Str.ofString y ≠ Str.ofString x := fun e => q (ofString_inj e)
        obtain ⟨v, hv, rv⟩ := hl y e hy
        refine ⟨v, ?_, rv⟩
        rcases hv with ⟨h1, h2⟩ | ⟨h1, h2⟩
        · left; refine ⟨h1, ?_⟩; split
          · dsimp only; rw [if_neg ne]; exact h2
          · exact h2
        · right; refine ⟨h1, ?_⟩; split
          · exact h2
          · dsimp only; rw [if_neg ne]; exact h2

theorem Bud.deeper {A : Around} {n : Nat} {env : Env} (B : Bud A (n + 1)) : Bud (A.deeper env) n :=
  ⟨B.hand, by have := B.depth; show A.depth + 1 + n < _; omega, by have := B.units; show A.units + 3 + _ < _; omega⟩

/-- what is asked of a def's header -/
structure Head (body : List Stmt) (scope : Scope) (xs : List String) : Prop where
  kind : scope.kind = .function
  co : scope.isCoroutine = false
  gen : scope.isGenerator = false
  par : ∀ x ∈ xs, scope.names.lookup (Str.ofString x) = some .local ∨ scope.names.lookup (Str.ofString x) = some .cell

section
variable {C : Cx} {n : Nat}
theorem enterR {x : Str} {params : Arguments} {body : List Stmt} {scope : Scope} {fd : FuncData} {xs : List String} {as : List D} {k : Nat} {R : D → Nat → Prop} {A : Around} {P : Addr → Prop} {s : Shared} {us ws : List Value} {a : Addr} {o : Obj}
    (H : Head body scope xs) (hb : SxT C n scope (argL xs as none_) none k body (fun x k' => ∃ d, x = .ret d ∧ R d k')) (hks : k ≤ s.toks)
    (ho : s.heap.get? a = some o) (hd : o.data = .func fd) (hbody : fd.body = .stmts body) (hscope : fd.scope = scope) (hclo : fd.closure = []) (hglob : fd.globals = mainGlobals) (hblt : fd.builtins = builtinsNs)
    (hbind : BindsTo s fd ⟨us, []⟩ ((xs.map Str.ofString).zip ws)) (hcr : s.heap.CodeRec fd.code fd.qualname)
    (B : Bud A (n + 1)) (K : Kit C s.heap) (hp : ∀ b, ¬ P b → ∃ o, s.heap.get? b = some o) (r : RepAll P s.heap ws as) :
    wpAny (model C.prog C.w) A (call (.ref a) us) (fun r s' => Keeps s s' ∧ ∃ d, R d s'.toks ∧ Rep P s'.heap r d) NoE s := by
  refine wpAny_call ?_
  have hkindOf : ∀ (e : Env), e.scope = scope → ∀ y, e.kindOf y = scope.names.lookup y := fun e he y => by unfold Env.kindOf; rw [he]
  have hxs : ∀ y ∈ (xs.map Str.ofString).zip ws, scope.names.lookup y.1 = some .local ∨ scope.names.lookup y.1 = some .cell := by
    rintro ⟨y1, y2⟩ hy
    obtain ⟨h1, _⟩ := List.of_mem_zip hy
    obtain ⟨z, hz, rfl⟩ := List.mem_map.mp h1
    exact H.par z hz
  refine codeAny_call_function (by have := B.depth; omega) ho hd (by rw [hscope]; exact H.co) (by rw [hscope]; exact H.gen) hbody hcr (hbind _ _ _ _ ?_)
  rw [hclo, hscope]
  refine wpAny_mono (wpAny_toks (wpAny_newFunctionEnv_cells (Q := fun env s' => env = newEnv scope s.heap.objs.size fd.globals (cellsFrom (s.heap.objs.size + 1) scope.names []) (fd.qualname ++ ".<locals>.") (some a) fd.code none fd.builtins ∧
      InCallC s env.locals (bindL env.kindOf ((xs.map Str.ofString).zip ws) fun _ => none) env.cells (bindC env.kindOf ((xs.map Str.ofString).zip ws) fun _ => none) s') H.kind (fun y hy => ?_) fun env he s' x => ⟨he, x⟩)) (fun env s' hes => ?_) fun _ _ x => x.1
  · rcases hxs y hy with h | h
    · exact .inl h
    · exact .inr ⟨h, cellsFrom_has _ _ _ _ (.inl (mem_of_lookup h))⟩
  obtain ⟨⟨he, x⟩, hts⟩ := hes
  have hes : env.scope = scope := by rw [he]; rfl
  have heg : env.globals = mainGlobals := by rw [he]; exact hglob
  have heb : env.builtins = builtinsNs := by rw [he]; exact hblt
  have hec : env.cells = cellsFrom (s.heap.objs.size + 1) scope.names [] := by rw [he]; rfl
  have E : EnvIs scope env := ⟨hes, heg, heb, H.kind⟩
  clear he
  refine ⟨K.lim.keeps x.toInCall.keep, codeAny_func ?_⟩
  have big : ∀ b, Mut env none b → s.heap.objs.size ≤ b := by
    rintro b (rfl | ⟨y, hy⟩ | q)
    · exact x.toInCall.fresh
    · exact Nat.le_trans x.toInCall.fresh (Nat.le_of_lt (x.above y b (mem_of_lookup hy)))
    · cases q
  have new : ∀ b, Mut env none b → s.heap.get? b = none := fun b hb => Heap.get?_none_of_le (big b hb)
  have S : SInv C s.heap env (fun b => P b ∧ ¬ Mut env none b) (argL xs as none_) none none s'.heap := by
    refine ⟨⟨K.keeps x.toInCall.keep, fun b hb => ?_, _, x.toInCall.ns, fun y d hy => ?_⟩, fun q => q.2 (.inl rfl), fun y c hc => ⟨fun q => q.2 (.inr (.inl ⟨y, hc⟩)), ?_, _, x.cell y c hc⟩, fun y z c h1 h2 => name_of_addr x.apart (mem_of_lookup h1) (mem_of_lookup h2), trivial, fun y hy => ?_, K, x.toInCall.keep, new⟩
    · by_cases q : Mut env none b
      · rcases q with rfl | ⟨y, hy⟩ | q
        · obtain ⟨o, _, _, e, _⟩ := x.toInCall.ns; exact ⟨o, e⟩
        · obtain ⟨o, e, _⟩ := x.cell y b hy; exact ⟨o, e⟩
        · cases q
      · obtain ⟨o, e⟩ := hp b fun z => hb ⟨⟨z, q⟩, fun q => by cases q⟩
        exact ⟨o, x.toInCall.keep _ _ e⟩
    · have rr : RepAll (fun b => (P b ∧ ¬ Mut env none b) ∧ (none : Option Addr) ≠ some b) s'.heap ws as := r.held.mono (fun b hb => ⟨⟨hb.1, fun q => by obtain ⟨o, e⟩ := hb.2; rw [new b q] at e; cases e⟩, fun q => by cases q⟩) fun b o _ e => x.toInCall.keep b o e
      obtain ⟨v, hv, rv⟩ := bind_vars (k := env.kindOf) xs ws as none_ (fun _ => none) (fun _ => none) rr (fun y d h => by cases h) (fun z hz => by rw [hkindOf env hes]; exact H.par z hz) y d hy
      refine ⟨v, ?_, rv⟩
      rcases hv with ⟨h1, h2⟩ | ⟨h1, h2⟩
      · exact .inl ⟨h1, h2⟩
      · refine .inr ⟨.inl h1, ?_⟩
        rw [hkindOf env hes] at h1
        have := cellsFrom_has scope.names (s.heap.objs.size + 1) [] (Str.ofString y) (.inl (mem_of_lookup h1))
        obtain ⟨c, hc⟩ := Option.isSome_iff_exists.mp this
        rw [← hec] at hc
        exact ⟨c, hc, h2 ▸ x.cell _ c hc⟩
    · exact Nat.ne_of_gt (x.above y c (mem_of_lookup hc))
    · rw [hkindOf env hes] at hy
      have := cellsFrom_has scope.names (s.heap.objs.size + 1) [] y (.inl (mem_of_lookup hy))
      rw [← hec] at this
      exact Option.isSome_iff_exists.mp this
  refine wpAny_mono (hb (A.deeper env) s.heap env _ s' none E B.deeper S (Nat.le_trans hks hts)) (fun f s₂ p => ?_) fun _ _ q => q.elim
  obtain ⟨h', tk, rfl, k, p⟩ := p
  obtain ⟨h₁, t₁, e₁⟩ := x.toInCall.same
  have keep : Keeps s { s' with heap := h', toks := tk } := by
    subst e₁
    exact ⟨h', tk, rfl, fun b o e => k b o (fun q => by rw [new b q] at e; cases e) (x.toInCall.keep b o e)⟩
  cases f with
  | ret v =>
    obtain ⟨d', ⟨d, q, hR⟩, rr⟩ := p
    cases q
    exact ⟨keep, d', hR, rr.mono (fun _ q => q.1) fun _ _ _ e => e⟩
  | next => obtain ⟨_, _, ⟨_, q, _⟩, _⟩ := p; cases q
  | brk => exact p.elim
  | cont => exact p.elim

theorem enter {x : Str} {params : Arguments} {body : List Stmt} {scope : Scope} {fd : FuncData} {xs : List String} {as : List D} {d : D} {A : Around} {P : Addr → Prop} {s : Shared} {us : List Value} {a : Addr} {o : Obj}
    (H : Head body scope xs) (hb : Sx C n scope (argL xs as none_) none body (fun x => x = .ret d))
    (ho : s.heap.get? a = some o) (hd : o.data = .func fd) (hbody : fd.body = .stmts body) (hscope : fd.scope = scope) (hclo : fd.closure = []) (hglob : fd.globals = mainGlobals) (hblt : fd.builtins = builtinsNs)
    (hbind : ∀ us', us'.length = as.length → us' = us → BindsTo s fd ⟨us', []⟩ ((xs.map Str.ofString).zip us')) (hcr : s.heap.CodeRec fd.code fd.qualname)
    (B : Bud A (n + 1)) (K : Kit C s.heap) (hp : ∀ b, ¬ P b → ∃ o, s.heap.get? b = some o) (r : RepAll P s.heap us as) :
    wpAny (model C.prog C.w) A (call (.ref a) us) (fun r s' => Keeps s s' ∧ Rep P s'.heap r d) NoE s :=
  wpAny_mono (enterR (x := x) (params := params) (R := fun d' _ => d' = d) H (hb.T (k := 0) fun x _ q _ => ⟨d, q, rfl⟩) (Nat.zero_le _) ho hd hbody hscope hclo hglob hblt (hbind us r.length rfl) hcr B K hp r) (fun _ _ ⟨k, d', e, r⟩ => ⟨k, e ▸ r⟩) fun _ _ x => x

/-- a def without defaults -/
theorem Def.of {f : Fn} (hf : f ∈ C.defs) {xs : List String} {as : List D} {d : D} (H : Head f.body f.scope xs)
    (hbind : ∀ pm cd doc (us : List Value), us.length = as.length → bindArgs (docDef f.name f.params f.body f.scope pm cd doc) ⟨us, []⟩ = pure ((xs.map Str.ofString).zip us))
    (hb : Sx C n f.scope (argL xs as none_) none f.body (fun x => x = .ret d)) : Def C (n + 1) f.name as d := by
  intro A P s us a ha B K hp r
  obtain ⟨a', o, pm, cd, doc, h1, h2, h3, h4⟩ := K.fns f hf
  rw [ha] at h1
  cases h1
  exact enter (x := f.name) (params := f.params) H hb h2 h3 rfl rfl rfl rfl rfl (fun us' hu _ => .of_eq (hbind pm cd doc us' hu)) h4 B K hp r

/-- a contract with a floor under the count of tokens -/
noncomputable def DefR (C : Cx) (n : Nat) (k : Nat) (x : Str) (as : List D) (R : D → Nat → Prop) : Prop :=
  ∀ (A : Around) (P : Addr → Prop) (s : Shared) (us : List Value) (a : Addr), C.mg x = some (.ref a) → Bud A n → Kit C s.heap → (∀ b, ¬ P b → ∃ o, s.heap.get? b = some o) → RepAll P s.heap us as → k ≤ s.toks →
    wpAny (model C.prog C.w) A (call (.ref a) us) (fun r s' => Keeps s s' ∧ ∃ d, R d s'.toks ∧ Rep P s'.heap r d) NoE s
theorem DefR.of {f : Fn} (hf : f ∈ C.defs) {xs : List String} {as : List D} {k : Nat} {R : D → Nat → Prop} (H : Head f.body f.scope xs)
    (hbind : ∀ pm cd doc (us : List Value), us.length = as.length → bindArgs (docDef f.name f.params f.body f.scope pm cd doc) ⟨us, []⟩ = pure ((xs.map Str.ofString).zip us))
    (hb : SxT C n f.scope (argL xs as none_) none k f.body (fun x k' => ∃ d, x = .ret d ∧ R d k')) : DefR C (n + 1) k f.name as R := by
  intro A P s us a ha B K hp r hk
  obtain ⟨a', o, pm, cd, doc, h1, h2, h3, h4⟩ := K.fns f hf
  rw [ha] at h1
  cases h1
  exact enterR (x := f.name) (params := f.params) H hb hk h2 h3 rfl rfl rfl rfl rfl (.of_eq (hbind pm cd doc us r.length)) h4 B K hp r
theorem Def.R {x : Str} {as : List D} {d : D} {k : Nat} {R : D → Nat → Prop} (h : Def C n x as d) (hr : ∀ k', k ≤ k' → R d k') : DefR C n k x as R :=
  fun A P s us a ha B K hp r hk => wpAny_mono (wpAny_toks (h A P s us a ha B K hp r)) (fun _ _ ⟨⟨kk, rr⟩, ht⟩ => ⟨kk, d, hr _ (Nat.le_trans hk ht), rr⟩) fun _ _ x => x.1
theorem DefR.le {k m : Nat} {x : Str} {as : List D} {R : D → Nat → Prop} (h : DefR C n k x as R) (hm : n ≤ m) : DefR C m k x as R := fun A P s us a ha B => h A P s us a ha (B.le hm)

theorem ExR.callD {sc : Scope} {l : Loc} {x : Str} {p pos : Pos} {args : List Expr} {ds : List D} {k : Nat} {R : D → Nat → Prop} (o : Own C sc x) (ha : Exs C n sc l args ds) (hc : ∀ k', k ≤ k' → DefR C n k' x ds R)
    (hp : plainArgs args = true := by rfl) (hne : args ≠ [] := by exact fun x => nomatch x) : ExR C n sc l k (.Call (.Name x p) args [] pos) R := by
  intro A env P s E B I hk
  obtain ⟨f, hf, rfl⟩ := o.def_
  obtain ⟨a, ob, pm, cd, doc, hg, ho, hd, _⟩ := I.kit.fns f hf
  refine eval_Call_Name (Name_function_global (E.scope ▸ E.kind) (by unfold Env.kindOf; rw [E.scope]; exact o.kind) (loadGlobal_global (by rw [E.glob]; exact I.kit.g) hg ?_) o.nd)
  refine callWith_function (o := ob) (evalArgs_all hp hne (wpAny_mono (wpAny_toks (ha A env P s pos E B I)) (fun vs s₁ ⟨⟨k₁, r₁⟩, ht⟩ => ⟨⟨up k₁ _ _ ho, hd⟩, ?_⟩) fun _ _ x => x.1))
  have I₁ := I.keeps (up k₁)
  exact wpAny_mono (hc _ (Nat.le_trans hk ht) A P s₁ vs a hg B I₁.kit I₁.hp r₁ (Nat.le_refl _)) (fun r s₂ ⟨k₂, d, hd, r₂⟩ => ⟨kt k₁ k₂, d, hd, r₂⟩) fun _ _ x => x

/-! tests with a floor -/
noncomputable def TxT (C : Cx) (n : Nat) (sc : Scope) (l : Loc) (k : Nat) (e : Expr) (b : Bool) : Prop :=
  ∀ (A : Around) (env : Env) (P : Addr → Prop) (s : Shared), EnvIs sc env → Bud A n → Inv C env P l s.heap → k ≤ s.toks →
    wpAny (model C.prog C.w) A (isTrue e env (eval e env)) (fun b' s' => Keeps s s' ∧ b' = b) NoE s
theorem TxT.not {sc : Scope} {l : Loc} {k : Nat} {e : Expr} {pos : Pos} {b : Bool} (h : TxT C n sc l k e b) : TxT C n sc l k (.UnaryOp .Not e pos) (!b) :=
  fun A env P s E B I hk => wpAny_isTrue_Not (wpAny_mono (h A env P s E B I hk) (fun b' s₁ ⟨k, e⟩ => ⟨k, by rw [e]⟩) fun _ _ x => x)
theorem TxT.boolv {sc : Scope} {l : Loc} {k : Nat} {e : Expr} {b : Bool} (h : ExR C n sc l k e (fun d _ => d = .bool b)) (he : ∀ env whole, isTrue e env whole = (do let v ← whole; standAt e.pos; holding [v] (truthy v)) := by intro _ _; rfl) : TxT C n sc l k e b := by
  intro A env P s E B I hk
  refine wpAny_isTrue_value (wpAny_mono (h A env P s E B I hk) (fun v s₁ ⟨k₁, d, hd, r⟩ => ?_) fun _ _ x => x) (he env _)
  subst hd
  cases r
  exact wpAny_truthy_bool ⟨k₁, rfl⟩
theorem S1T.skip {sc : Scope} {l : Loc} {o : Option (String × List D)} {k : Nat} {Q : Out → Nat → Prop} {t : Expr} {b : List Stmt} {pos : Pos} (ht : TxT C n sc l k t false) (hq : ∀ k', k ≤ k' → Q (.next l o) k') : S1T C n sc l o k (.If t b [] pos) Q := by
  intro A h₀ env P s a E B S hk
  refine wpAny_If (wpAny_mono (wpAny_toks (ht A env _ s E B S.inv hk)) (fun b' s₁ ⟨⟨k₁, e⟩, ht⟩ => ?_) fun _ _ x => x.1)
  subst e
  refine wpAny_execs_nil ?_
  exact Post.after (kbOf k₁) ⟨s₁.heap, s₁.toks, rfl, .of fun _ _ e => e, _, _, hq _ (Nat.le_trans hk ht), S.keeps (up k₁)⟩
end
end Mine

end
section
open PySem PySem.Calls PyProof.Rows PySem.W PySem.Spec PySem.SeqAt
namespace Mine
set_option Elab.async false
set_option maxRecDepth 100000
set_option linter.unusedVariables false

noncomputable def nth (n : Nat) : Stmt := (PySem.Challenge.pw_ku0002_01.main.body)[n]?.getD (.Pass ⟨0,0,0,0⟩)
noncomputable def dBody : Stmt → List Stmt | .FunctionDef _ _ b .. => b | _ => []
noncomputable def dPar : Stmt → Arguments | .FunctionDef _ a .. => a | _ => ⟨[],[],none,[],[],none,[]⟩
noncomputable def dSc : Stmt → Scope | .FunctionDef _ _ _ _ _ _ sc .. => sc | _ => PySem.Challenge.pw_ku0002_01.main.scope
noncomputable def getB (n : Nat) := { b : List Stmt // dBody (nth n) = b }
noncomputable def getP (n : Nat) := { b : Arguments // dPar (nth n) = b }
noncomputable def getS (n : Nat) := { b : Scope // dSc (nth n) = b }
noncomputable def b11 : getB 11 := ⟨_, by conv => { lhs; whnf }⟩
noncomputable def b12 : getB 12 := ⟨_, by conv => { lhs; whnf }⟩
noncomputable def b17 : getB 17 := ⟨_, by conv => { lhs; whnf }⟩
noncomputable def b18 : getB 18 := ⟨_, by conv => { lhs; whnf }⟩
noncomputable def b19 : getB 19 := ⟨_, by conv => { lhs; whnf }⟩
noncomputable def b20 : getB 20 := ⟨_, by conv => { lhs; whnf }⟩
noncomputable def b21 : getB 21 := ⟨_, by conv => { lhs; whnf }⟩
noncomputable def b22 : getB 22 := ⟨_, by conv => { lhs; whnf }⟩
noncomputable def b23 : getB 23 := ⟨_, by conv => { lhs; whnf }⟩
noncomputable def b24 : getB 24 := ⟨_, by conv => { lhs; whnf }⟩
noncomputable def b26 : getB 26 := ⟨_, by conv => { lhs; whnf }⟩
noncomputable def b27 : getB 27 := ⟨_, by conv => { lhs; whnf }⟩
noncomputable def b28 : getB 28 := ⟨_, by conv => { lhs; whnf }⟩
noncomputable def b29 : getB 29 := ⟨_, by conv => { lhs; whnf }⟩
noncomputable def b30 : getB 30 := ⟨_, by conv => { lhs; whnf }⟩
noncomputable def b31 : getB 31 := ⟨_, by conv => { lhs; whnf }⟩
noncomputable def b32 : getB 32 := ⟨_, by conv => { lhs; whnf }⟩
noncomputable def p11 : getP 11 := ⟨_, by conv => { lhs; whnf }⟩
noncomputable def p12 : getP 12 := ⟨_, by conv => { lhs; whnf }⟩
noncomputable def p17 : getP 17 := ⟨_, by conv => { lhs; whnf }⟩
noncomputable def p18 : getP 18 := ⟨_, by conv => { lhs; whnf }⟩
noncomputable def p19 : getP 19 := ⟨_, by conv => { lhs; whnf }⟩
noncomputable def p20 : getP 20 := ⟨_, by conv => { lhs; whnf }⟩
noncomputable def p21 : getP 21 := ⟨_, by conv => { lhs; whnf }⟩
noncomputable def p22 : getP 22 := ⟨_, by conv => { lhs; whnf }⟩
noncomputable def p23 : getP 23 := ⟨_, by conv => { lhs; whnf }⟩
noncomputable def p24 : getP 24 := ⟨_, by conv => { lhs; whnf }⟩
noncomputable def p26 : getP 26 := ⟨_, by conv => { lhs; whnf }⟩
noncomputable def p27 : getP 27 := ⟨_, by conv => { lhs; whnf }⟩
noncomputable def p28 : getP 28 := ⟨_, by conv => { lhs; whnf }⟩
noncomputable def p29 : getP 29 := ⟨_, by conv => { lhs; whnf }⟩
noncomputable def p30 : getP 30 := ⟨_, by conv => { lhs; whnf }⟩
noncomputable def p31 : getP 31 := ⟨_, by conv => { lhs; whnf }⟩
noncomputable def p32 : getP 32 := ⟨_, by conv => { lhs; whnf }⟩
noncomputable def s11 : getS 11 := ⟨_, by conv => { lhs; whnf }⟩
noncomputable def s12 : getS 12 := ⟨_, by conv => { lhs; whnf }⟩
noncomputable def s17 : getS 17 := ⟨_, by conv => { lhs; whnf }⟩
noncomputable def s18 : getS 18 := ⟨_, by conv => { lhs; whnf }⟩
noncomputable def s19 : getS 19 := ⟨_, by conv => { lhs; whnf }⟩
noncomputable def s20 : getS 20 := ⟨_, by conv => { lhs; whnf }⟩
noncomputable def s21 : getS 21 := ⟨_, by conv => { lhs; whnf }⟩
noncomputable def s22 : getS 22 := ⟨_, by conv => { lhs; whnf }⟩
noncomputable def s23 : getS 23 := ⟨_, by conv => { lhs; whnf }⟩
noncomputable def s24 : getS 24 := ⟨_, by conv => { lhs; whnf }⟩
noncomputable def s26 : getS 26 := ⟨_, by conv => { lhs; whnf }⟩
noncomputable def s27 : getS 27 := ⟨_, by conv => { lhs; whnf }⟩
noncomputable def s28 : getS 28 := ⟨_, by conv => { lhs; whnf }⟩
noncomputable def s29 : getS 29 := ⟨_, by conv => { lhs; whnf }⟩
noncomputable def s30 : getS 30 := ⟨_, by conv => { lhs; whnf }⟩
noncomputable def s31 : getS 31 := ⟨_, by conv => { lhs; whnf }⟩
noncomputable def s32 : getS 32 := ⟨_, by conv => { lhs; whnf }⟩
noncomputable def f11 : Fn := ⟨Str.ofString "header_check", p11.1, b11.1, s11.1⟩
noncomputable def f17 : Fn := ⟨Str.ofString "lt", p17.1, b17.1, s17.1⟩
noncomputable def f18 : Fn := ⟨Str.ofString "add", p18.1, b18.1, s18.1⟩
noncomputable def f19 : Fn := ⟨Str.ofString "floordiv", p19.1, b19.1, s19.1⟩
noncomputable def f20 : Fn := ⟨Str.ofString "mod", p20.1, b20.1, s20.1⟩
noncomputable def f21 : Fn := ⟨Str.ofString "mul", p21.1, b21.1, s21.1⟩
noncomputable def f22 : Fn := ⟨Str.ofString "concat", p22.1, b22.1, s22.1⟩
noncomputable def f23 : Fn := ⟨Str.ofString "contains", p23.1, b23.1, s23.1⟩
noncomputable def f24 : Fn := ⟨Str.ofString "countOf", p24.1, b24.1, s24.1⟩
noncomputable def f26 : Fn := ⟨Str.ofString "_law_code", p26.1, b26.1, s26.1⟩
noncomputable def f27 : Fn := ⟨Str.ofString "_law_octets", p27.1, b27.1, s27.1⟩
noncomputable def f28 : Fn := ⟨Str.ofString "_law_rows", p28.1, b28.1, s28.1⟩
noncomputable def f29 : Fn := ⟨Str.ofString "_law_ring", p29.1, b29.1, s29.1⟩
noncomputable def f30 : Fn := ⟨Str.ofString "_law_common", p30.1, b30.1, s30.1⟩
noncomputable def f31 : Fn := ⟨Str.ofString "_law_kept", p31.1, b31.1, s31.1⟩

/-- the program's names -/
structure PC (C : Cx) : Prop where
  miss : ∀ x ∈ ["chr", "ord", "range", "len", "sum", "min", "zip", "enumerate", "hasattr", "bytes"], C.mg (Str.ofString x) = none
  m11 : f11 ∈ C.defs
  m17 : f17 ∈ C.defs
  m18 : f18 ∈ C.defs
  m19 : f19 ∈ C.defs
  m20 : f20 ∈ C.defs
  m21 : f21 ∈ C.defs
  m22 : f22 ∈ C.defs
  m23 : f23 ∈ C.defs
  m24 : f24 ∈ C.defs
  m26 : f26 ∈ C.defs
  m27 : f27 ∈ C.defs
  m28 : f28 ∈ C.defs
  m29 : f29 ∈ C.defs
  m30 : f30 ∈ C.defs
  m31 : f31 ∈ C.defs

section
variable {C : Cx} {sc : Scope}
theorem PC.blt (pc : PC C) {x : String} {v : Value} (hm : x ∈ ["chr", "ord", "range", "len", "sum", "min", "zip", "enumerate", "hasattr", "bytes"]) (hk : sc.names.lookup (Str.ofString x) = some .globalImplicit)
    (hb : bootBuiltins (Str.ofString x) = some v) (hn : Str.ofString x ≠ "__name__" := by decide +kernel) (hd : (Str.ofString x == ("__debug__" : Str)) = false := by decide +kernel) : Blt C sc (Str.ofString x) v :=
  ⟨hk, pc.miss x hm, hb, hn, hd⟩
theorem Own.mk' {f : Fn} (hm : f ∈ C.defs) (hk : sc.names.lookup f.name = some .globalImplicit) (hd : (f.name == ("__debug__" : Str)) = false := by decide +kernel) : Own C sc f.name := ⟨hk, ⟨f, hm, rfl⟩, hd⟩
end

/-! the smallest -/
section
variable {C : Cx} {n : Nat}
theorem put1 {x y : String} {d e : D} {l : Loc} (h : l y = some e) (hn : y ≠ x) : put x d l y = some e := by rw [put_ne _ _ hn]; exact h

theorem d_lt (pc : PC C) (x y : Str) : Def C 1 (Str.ofString "lt") [.str x, .str y] (.bool (decide (x.cps.toList < y.cps.toList))) := by
  refine Def.of (f := f17) (xs := ["a", "b"]) pc.m17 ⟨rfl, rfl, rfl, by decide +kernel⟩ ?_ ?_
  · intro pm cd doc us hu
    match us, hu with
    | [u, v], _ => rfl
  · refine Sx.cons (Q₁ := fun x => x = .ret _) (S1.ret (Ex.cmp (Ex.var rfl) (Ex.var rfl) (o_slt x y)) rfl) ?_ ?_
    · intro _ _ h; cases h
    · intro _ h; exact h
end
end Mine

end
section
open PySem PySem.Calls PyProof.Rows PySem.W PySem.Spec PySem.SeqAt
namespace Mine
set_option Elab.async false
set_option maxRecDepth 100000
set_option linter.unusedVariables false
namespace HA
theorem slot_wd_get : Slot "wrapper_descriptor" "__get__" "wrapper_descriptor.__get__" :=
  .of (owner := "wrapper_descriptor") (n := "__get__") (by rw [typeLookup_type, builtinLookup_eq_fast]; kernel_rfl) (by decide +kernel) (by decide +kernel) (by decide +kernel)
    (by first | exact .inl (by decide +kernel) | exact .inr (by decide +kernel)) (by rw [isSubtype_type]; kernel_rfl)
theorem lk_wd_set : typeLookup (.type "wrapper_descriptor") "__set__" = pure none := by rw [typeLookup_type, builtinLookup_eq_fast]; kernel_rfl
theorem lk_wd_delete : typeLookup (.type "wrapper_descriptor") "__delete__" = pure none := by rw [typeLookup_type, builtinLookup_eq_fast]; kernel_rfl
theorem type_getitem : typeOf (.builtin "str.__getitem__") = pure (.type "wrapper_descriptor") := by show builtinType _ = _; rw [builtinType_eq_fast]; kernel_rfl
theorem entry_wd_get : entryFor table "wrapper_descriptor.__get__" = some Builtin.«wrapper_descriptor.__get__» := entryFor_of_tree (by kernel_rfl)
theorem args_wd_get (a b c : Value) : argsOk "wrapper_descriptor.__get__" ⟨[a, b, c], []⟩ := by unfold argsOk; kernel_rfl
theorem sub_str_owner : isSubtype (.type "str") (.type (".".intercalate ("str.__getitem__".cutAt '.').dropLast)) = pure true := by
  rw [show ".".intercalate ("str.__getitem__".cutAt '.').dropLast = "str" by decide +kernel, isSubtype_type]; kernel_rfl
end HA
section
variable {prog : Program} {w : World} {A : Around} {E : Value → Shared → Prop} {h : Heap} {g : Array GenState} {d : Drawn} {t : Nat} {os : OsState} {x : Str} {u : Tok}
theorem ha_get {R : Result → Shared → Prop} (hq : ∀ a h', (∀ b o, h.get? b = some o → h'.get? b = some o) → R (.ok (.ret (.ref a))) ⟨h', g, d, t, os⟩) :
    codeAny (model prog w) A (.call (.builtin "wrapper_descriptor.__get__") ⟨[.builtin "str.__getitem__", .str x u, .type "str"], []⟩) R ⟨h, g, d, t, os⟩ := by
  have hT : (⟨h, g, d, t, os⟩ : Shared).TypeIs (.str x u) "str" := rfl
  have hT5 : (⟨h, g, d, t, os⟩ : Shared).TypeIs (.builtin "str.__getitem__") "wrapper_descriptor" := HA.type_getitem
  have f8 := HA.sub_str_owner
  refine codeAny_call_builtin HA.slot_wd_get.plain HA.entry_wd_get (HA.slot_wd_get.check _ _ _ _ _ _ _ _ hT5 (HA.args_wd_get _ _ _) ?_)
  repeat (any_goals (first | assumption | wp_step))
  exact hq _ _ fun _ _ e => Heap.get?_push_of_some _ e
theorem ha_entry {tk : Tok} {Q : Fin → Shared → Prop} (hq : ∀ a h', (∀ b o, h.get? b = some o → h'.get? b = some o) → Q (.done (.ret (.ref a))) ⟨h', g, d, t, os⟩) :
    wpAny (model prog w) A (Builtin.«object.__getattribute__» ⟨[.str x u, .str "__getitem__" tk], []⟩) Q E ⟨h, g, d, t, os⟩ := by
  have hT : (⟨h, g, d, t, os⟩ : Shared).TypeIs (.str x u) "str" := rfl
  have hT5 : (⟨h, g, d, t, os⟩ : Shared).TypeIs (.builtin "str.__getitem__") "wrapper_descriptor" := HA.type_getitem
  have f4 := F.slot_str_getitem.lookup
  have f5 := HA.type_getitem
  have f6 := HA.slot_wd_get.lookup
  have f7 := HA.lk_wd_set
  have f8 := HA.lk_wd_delete
  repeat (any_goals (first | assumption | wp_step))
  refine ha_get ?_
  repeat (any_goals (first | assumption | wp_step))
  intro a h' hk
  exact wpAny_pure (hq a h' hk)
theorem ha_call {tk : Tok} {R : Result → Shared → Prop} (hq : ∀ a h', (∀ b o, h.get? b = some o → h'.get? b = some o) → R (.ok (.ret (.ref a))) ⟨h', g, d, t, os⟩) :
    codeAny (model prog w) A (.call (.builtin "object.__getattribute__") ⟨[.str x u, .str "__getitem__" tk], []⟩) R ⟨h, g, d, t, os⟩ :=
  codeAny_call_builtin F.slot_str_getattribute.plain F.entry_object_getattribute (F.slot_str_getattribute.check _ _ _ _ _ _ _ _ (show (⟨h, g, d, t, os⟩ : Shared).TypeIs (.str x u) "str" from rfl) (F.args_object_getattribute_2 _ _) (ha_entry hq))
theorem ha_by {tk : Tok} {Q : Value → Shared → Prop} (hq : ∀ a h', (∀ b o, h.get? b = some o → h'.get? b = some o) → Q (.ref a) ⟨h', g, d, t, os⟩) : wpAny (model prog w) A (getAttrBy (.str x u) (.str "__getitem__" tk) false) Q E ⟨h, g, d, t, os⟩ := by
  have hT : (⟨h, g, d, t, os⟩ : Shared).TypeIs (.str x u) "str" := rfl
  have f2 := F.slot_str_getattribute.lookup
  have f3 := F.slot_str_getattribute.bind (.str x u)
  repeat (any_goals (first | assumption | wp_step))
  refine ha_call ?_
  intro a h' hk
  dsimp only
  repeat (any_goals (first | assumption | wp_step))
  exact hq a h' hk
theorem ha_by? {tk : Tok} {Q : Option Value → Shared → Prop} (hq : ∀ a h', (∀ b o, h.get? b = some o → h'.get? b = some o) → Q (some (.ref a)) ⟨h', g, d, t, os⟩) : wpAny (model prog w) A (getAttrBy? (.str x u) (.str "__getitem__" tk)) Q E ⟨h, g, d, t, os⟩ := by
  unfold getAttrBy?
  refine wpAny_bind (wpAny_attempt (ha_by fun a h' hk => ?_))
  exact wpAny_pure (hq a h' hk)
namespace HA
theorem kind_hasattr : builtinKind "hasattr" = none := by decide +kernel
theorem plain_hasattr : plainId "hasattr" = true := by decide +kernel
theorem entry_hasattr : entryFor table "hasattr" = some Builtin.«hasattr» := entryFor_of_tree (by kernel_rfl)
theorem args_hasattr (a b : Value) : argsOk "hasattr" ⟨[a, b], []⟩ := by unfold argsOk; kernel_rfl
end HA
end
end Mine

end
section
open PySem PySem.Calls PyProof.Rows PySem.W PySem.Spec PySem.SeqAt
namespace Mine
set_option Elab.async false
set_option maxRecDepth 100000
set_option linter.unusedVariables false
section
variable {prog : Program} {w : World} {A : Around} {E : Value → Shared → Prop} {h : Heap} {g : Array GenState} {d : Drawn} {t : Nat} {os : OsState} {x : Str} {u : Tok}
theorem hasattr_str {tk : Tok} {Q : Value → Shared → Prop} (hq : ∀ h', (∀ b o, h.get? b = some o → h'.get? b = some o) → Q (.bool true) ⟨h', g, d, t, os⟩) : wpAny (model prog w) A (call (.builtin "hasattr") [.str x u, .str "__getitem__" tk]) Q E ⟨h, g, d, t, os⟩ := by
  refine Calls.call_function_entry HA.kind_hasattr HA.plain_hasattr HA.entry_hasattr (HA.args_hasattr _ _) ?_
  have f4 : typeLookup (.type "str") "__getitem__" = pure (some (.builtin "str.__getitem__")) := F.slot_str_getitem.lookup
  have f2 : typeLookup (.type "str") "__getattribute__" = pure (some (.builtin "object.__getattribute__")) := F.slot_str_getattribute.lookup
  unfold Builtin.«hasattr»
  refine wpAny_bind (wpAny_of_eq (a := [.str x u, .str "__getitem__" tk]) (by first | rfl | kernel_rfl) ?_)
  dsimp only
  refine wpAny_bind (wpAny_of_eq (a := ()) (by first | rfl | kernel_rfl) ?_)
  rw [if_neg (by intro h; cases h)]
  refine wpAny_bind (wpAny_of_eq (a := .type "str") rfl ?_)
  dsimp only
  refine wpAny_bind (wpAny_of_eq (a := some (Str.ofString "__getitem__")) rfl ?_)
  dsimp only
  refine wpAny_bind (wpAny_of_eq f4 ?_)
  dsimp only
  refine wpAny_bind (wpAny_of_eq f2 ?_)
  have e1 : (withoutEnding? "str.__getitem__" "#data").isSome = false := by decide +kernel
  rw [e1, Bool.false_and, if_neg (by decide)]
  refine wpAny_bind (wpAny_of_eq (a := 0) rfl ?_)
  rw [if_neg (by decide)]
  refine wpAny_bind (ha_by? fun a h' hk => ?_)
  rw [if_neg (by intro h; cases h)]
  exact wpAny_pure ⟨_, rfl, hq h' hk⟩
end
section
variable {C : Cx} {n : Nat}
theorem c_hasattr (x : Str) : Calls C n (.builtin "hasattr") [.str x, .str "__getitem__"] (.bool true) := fun A P s us B K hp r => by
  cases r with
  | cons r rs =>
    cases rs with
    | cons r' rs =>
      cases rs; cases r; cases r'
      exact hasattr_str fun h' hk => ⟨⟨h', s.toks, rfl, hk⟩, .bool _⟩
end
end Mine

end
section
open PySem PySem.Calls PyProof.Rows PySem.W PySem.Spec PySem.SeqAt
namespace Mine
set_option Elab.async false
set_option maxRecDepth 100000
set_option linter.unusedVariables false
namespace DL
open Builtin
theorem args_decode_2 (a b : Value) : argsOk "bytes.decode" ⟨[a, b], []⟩ := by
  unfold argsOk
  rw [signature?_of (id := "bytes.decode") (n := ['e', 'd', 'o', 'c', 'e', 'd']) (o := ['s', 'e', 't', 'y', 'b']) (by kernel_rfl) FB.owner_bytes]; kernel_rfl
section
variable {b : Array UInt8} {c : UInt8} {cs : List UInt8} {t u : Tok}
theorem entry_eq2 : «bytes.decode» ⟨[.bytes (c :: cs).toArray t, .str (Str.ofString "latin1") u], []⟩ = (mkStr (PySem.Str.ofString "utf-8") >>= fun _ => mkStr (PySem.Str.ofString "latin1") >>= fun e => mkStr (PySem.Str.ofString "bytes.decode") >>= fun d =>
    call (.builtin "_codecs.decode.text") [.bytes (c :: cs).toArray t, e, .none, d] >>= fun v => ret v) := by kernel_rfl
theorem road_eq2 {id : String} : _codecs.decodeRoad id b (PySem.Str.ofString "latin1") none [] = (_codecs.runDecoder id _codecs.latin1Decoder none true b 0 [] >>= fun r => mkStr ⟨r.1⟩) := by kernel_rfl
end
end DL
end Mine

end
section
open PySem PySem.Calls PyProof.Rows PySem.W PySem.Spec PySem.SeqAt
namespace Mine
set_option Elab.async false
set_option maxRecDepth 100000
set_option linter.unusedVariables false
namespace DL
open Builtin
theorem loop_latin {σ : Type} (b : Array UInt8) (f : Nat → Nat × Array Nat × σ → Sem (ForInStep (Nat × Array Nat × σ)))
    (hf : ∀ x p out st, out.size ≤ 1000 → p < b.size → f x (p, out, st) = pure (.yield (p + 1, out ++ #[(b.getD p 0).toNat], st))) :
    ∀ (xs : List Nat) (p : Nat) (out : Array Nat) (st : σ), p + xs.length ≤ b.size → out.size + xs.length ≤ 1000 → forIn xs (p, out, st) f = pure (p + xs.length, out ++ (((b.toList.drop p).take xs.length).map (·.toNat)).toArray, st)
  | [], p, out, st, _, _ => by simp
  | x :: xs, p, out, st, h1, h2 => by
    rw [List.length_cons] at h1 h2
    rw [List.forIn_cons, hf x p out st (by omega) (by omega), pure_bind]
    show forIn xs (p + 1, out ++ #[(b.getD p 0).toNat], st) f = _
    rw [loop_latin b f hf xs (p + 1) _ st (by omega) (by simp only [Array.size_append, List.size_toArray, List.length_cons, List.length_nil]; omega)]
    have e : b.toList.drop p = b.getD p 0 :: b.toList.drop (p + 1) := by
      have hp : p < b.toList.length := by simp; omega
      rw [List.drop_eq_getElem_cons hp]
      congr 1
      rw [Array.getD_eq_getD_getElem?, Array.getElem?_eq_getElem (by omega)]; rfl
    rw [e, List.length_cons, List.take_succ_cons, List.map_cons]
    congr 2
    · omega
    · congr 1
      simp
theorem run_latin (id : String) (b : Array UInt8) (hz : b.size ≤ 1000) : _codecs.runDecoder id _codecs.latin1Decoder none true b 0 [] = pure (b.map (·.toNat), b.size) := by
  unfold _codecs.runDecoder
  simp only [Std.Legacy.Range.forIn_eq_forIn_range', Std.Legacy.Range.size]
  rw [loop_latin b _ ?_ _ 0 #[] _ (by simp) (by simp; exact hz)]
  · rw [pure_bind]
    simp only [List.length_range', List.drop_zero]
    have e : (b.size - 0 + 1 - 1) / 1 = b.size := by omega
    rw [e, Nat.zero_add]
    have e2 : b.toList.take b.size = b.toList := by rw [← Array.length_toList, List.take_length]
    rw [e2]
    congr 2
    simp only [List.nil_append, Array.empty_append]
    rw [← Array.toList_map]
  · intro x p out st h1 h2
    rw [if_neg (by rw [sizeLine_eq]; simp only []; omega), if_neg (by simp only []; omega)]
    rfl
section
variable {b : Array UInt8} {c : UInt8} {cs : List UInt8} {t : Tok}
theorem meets_text2 {t1 t2 : Tok} {d : PySem.Str} (hz : b.size ≤ 1000) :
    Meets («_codecs.decode.text» ⟨[.bytes b t, .str (PySem.Str.ofString "latin1") t1, .none, .str d t2], []⟩) (fun _ R s => R (.ok (.ret (.str ⟨b.map (·.toNat)⟩ s.toks))) { s with toks := s.toks + 1 }) := by
  refine .of_wp fun prog w A R s h => ?_
  show wpAny _ _ (Bytes.bytesLike _ (.bytes b t) >>= fun r => _) _ _ s
  refine wpAny_bind (wpAny_of_eq KBd.like_eq ?_)
  refine wpAny_bind (wpAny_of_eq KBd.held_eq ?_)
  show wpAny _ _ (_codecs.decodeRoad _ b (PySem.Str.ofString "latin1") none [] >>= fun v => _) _ _ s
  rw [road_eq2, run_latin _ _ hz]
  refine wpAny_bind (wpAny_bind (wpAny_pure ?_))
  exact wpAny_mkStr (wpAny_pure ⟨_, rfl, h⟩) (by show (b.map _).size ≤ _; rw [Array.size_map, sizeLine_eq]; omega)
theorem meets_decode2 {u : Tok} (hz : (c :: cs).toArray.size ≤ 1000) :
    Meets («bytes.decode» ⟨[.bytes (c :: cs).toArray t, .str (Str.ofString "latin1") u], []⟩) (fun _ R s => ∀ t' k, R (.ok (.ret (.str ⟨(c :: cs).toArray.map (·.toNat)⟩ t'))) { s with toks := k }) := by
  refine .of_wp fun prog w A R s h => ?_
  rw [entry_eq2]
  refine wpAny_bind (wpAny_mkStr ?_ (by decide))
  refine wpAny_bind (wpAny_mkStr ?_ (by decide))
  refine wpAny_bind (wpAny_mkStr ?_ (by decide))
  exact wpAny_bind (call_function_meets KBd.kind_text KBd.plain_text KBd.entry_text (KBd.args_text _ _ _ _) (meets_text2 hz) (wpAny_pure ⟨_, rfl, h _ _⟩))
end
section
variable {prog : Program} {w : World} {A : Around} {E : Value → Shared → Prop} {s : Shared} {c : UInt8} {cs : List UInt8} {t u : Tok}
theorem decode2 {Q : Value → Shared → Prop} (hz : (c :: cs).toArray.size ≤ 1000) (h : ∀ t' k, Q (.str ⟨(c :: cs).toArray.map (·.toNat)⟩ t') { s with toks := k }) :
    wpAny (model prog w) A (call (.builtin "bytes.decode") [.bytes (c :: cs).toArray t, .str (Str.ofString "latin1") u]) Q E s :=
  call_meets FB.slot_bytes_decode (typeIs_bytes _ _ _) FB.entry_bytes_decode (args_decode_2 _ _) (meets_decode2 hz) h
end
end DL

/-! str.translate by a list of texts -/
namespace TR
open Builtin
section
variable {prog : Program} {w : World} {A : Around} {E : Value → Shared → Prop} {s : Shared}
theorem lookup {M : Addr} {vs : Array Value} {c : Nat} {y : Str} {t : Tok} {Q : Str.Mapped → Shared → Prop} (hl : s.heap.IsList M vs) (hc : c < 1000) (hx : vs[c]? = some (.str y t)) (h : ∀ k, Q (.text y) { s with toks := k }) :
    wpAny (model prog w) A (Str.tableLookup (.ref M) c) Q E s := by
  unfold Str.tableLookup
  refine wpAny_bind (wpAny_attempt (wpAny_bind (wpAny_mkInt' ?_)))
  refine wpAny_getItem_list hl (by omega) (by omega) (x := .str y t) (by simpa using hx) ?_
  dsimp only
  refine wpAny_bind (wpAny_of_eq (a := none) rfl ?_)
  dsimp only
  refine wpAny_bind (wpAny_of_eq (a := some y) rfl ?_)
  exact wpAny_pure (h _)
end
end TR
end Mine

end
section
open PySem PySem.Calls PyProof.Rows PySem.W PySem.Spec PySem.SeqAt
namespace Mine
set_option Elab.async false
set_option maxRecDepth 100000
set_option linter.unusedVariables false
namespace TR
open Builtin
section
variable {prog : Program} {w : World} {A : Around} {E : Value → Shared → Prop} {s : Shared}
theorem one_cp {x : Str} (h : x.length = 1) : ∃ d, x.cps = #[d] := by
  obtain ⟨⟨l⟩⟩ := x
  match l, h with
  | [d], _ => exact ⟨d, rfl⟩
noncomputable def TrI (x : Str) (code : Nat → Str) (s : Shared) (rest : List Nat) (st : List Str × Nat × Bool × List (Nat × Option Nat) × Bool) (s' : Shared) : Prop :=
  ∃ done k, x.cps.toList = done ++ rest ∧ s' = { s with toks := k } ∧ st.1.reverse.foldl (fun acc p => acc ++ p.cps) #[] = (done.flatMap fun c => (code c).cps.toList).toArray ∧ st.2.1 ≤ 3 * done.length ∧ st.2.2.2.2 = false ∧
    ∀ c a, st.2.2.2.1.lookup c = some a → ∃ d, a = some d ∧ (code c).cps = #[d]
noncomputable def TrR (x : Str) (code : Nat → Str) (s : Shared) (rest : List Nat) : ForInStep (List Str × Nat × Bool × List (Nat × Option Nat) × Bool) → Shared → Prop
  | .yield st, s' => TrI x code s rest st s'
  | .done _, _ => False
theorem args_translate (a b : Value) : argsOk "str.translate" ⟨[a, b], []⟩ := F.args_str_translate_2 a b
theorem translate {M : Addr} {vs : Array Value} {x : Str} {u : Tok} {Q : Value → Shared → Prop} (hl : s.heap.IsList M vs) (hne : x.length ≠ 0) (hz : x.length ≤ 1000) (code : Nat → Str) (hcode : ∀ c ∈ x.cps.toList, c < 1000 ∧ (code c).length ≤ 3 ∧ ∃ t, vs[c]? = some (.str (code c) t)) 
    (h : ∀ t' k, Q (.str ⟨(x.cps.toList.flatMap fun c => (code c).cps.toList).toArray⟩ t') { s with toks := k }) :
    wpAny (model prog w) A (call (.builtin "str.translate") [.str x u, .ref M]) Q E s := by
  refine wpAny_call_entry F.slot_str_translate (typeIs_str s x u) F.entry_str_translate ?_ (args_translate _ _)
  unfold «str.translate»
  refine wpAny_bind (wpAny_of_eq (a := (.str x u, x, .ref M)) rfl ?_)
  dsimp only
  rw [if_neg (by simpa using hne)]
  rw [← Array.forIn_toList]
  refine wpAny_bind (wpAny_forIn_list _ (TrI x code s) _ ?_ ?_ x.cps.toList _
      ⟨[], s.toks, rfl, rfl, rfl, Nat.le_refl _, rfl, fun c a h => by cases h⟩)
  · rintro c rest ⟨pieces, total, fast, known, afterDrop⟩ s' ⟨done, k, hx, rfl, h1, h2, h3, h4⟩
    dsimp only at h1 h2 h3 h4 ⊢
    subst h3
    obtain ⟨hc, hcl, t, ht⟩ := hcode c (by rw [hx]; simp)
    have hlen : done.length ≤ 1000 := by
      have := congrArg List.length hx
      rw [List.length_append, Array.length_toList] at this
      have hz' : x.cps.size ≤ 1000 := hz
      omega
    have hlt : Str.tooLong total = false := by unfold Str.tooLong; simp; rw [sizeLine_eq]; omega
    rw [hlt, if_neg (by decide)]
    have grow : ∀ p : Str, p.cps = (code c).cps → (p :: pieces).reverse.foldl (fun acc p => acc ++ p.cps) #[] = ((done ++ [c]).flatMap fun c => (code c).cps.toList).toArray := by
      intro p hp
      rw [List.reverse_cons, List.foldl_append, h1, List.flatMap_append]
      simp [hp]
    have hx' : x.cps.toList = (done ++ [c]) ++ rest := by rw [hx]; simp
    have slow : ∀ kn k', (∀ c a, List.lookup c kn = some a → ∃ d, a = some d ∧ (code c).cps = #[d]) → ∀ {s' : Shared}, s' = { s with toks := k' } → wpAny (model prog w) A.in1 (do
        let m ← Str.tableLookup (.ref M) c
        match m with
          | .keep => pure (ForInStep.yield ({ cps := #[c] } :: pieces, total + 1, false, kn, false))
          | .drop => pure (ForInStep.yield (pieces, total, false, kn, true))
          | .char d => pure (ForInStep.yield ({ cps := #[d] } :: pieces, total + 1, false, kn, false))
          | .text t => pure (ForInStep.yield (t :: pieces, total + t.length, false, kn, false)))
        (TrR x code s rest) E s' := by
      rintro kn k' hkn s' rfl
      refine wpAny_bind (lookup (s := { s with toks := k' }) hl hc ht fun k'' => ?_)
      exact wpAny_pure ⟨done ++ [c], k'', hx', rfl, grow _ rfl, by simp only [List.length_append, List.length_cons, List.length_nil]; omega, rfl, hkn⟩
    cases fast with
    | false =>
      rw [if_neg (by decide), if_neg (by decide)]
      exact wpAny_mono (slow known k h4 rfl) (fun r s' hr => by cases r with | done _ => exact hr.elim | yield st => exact hr) fun _ _ x => x
    | true =>
      rw [if_pos rfl]
      cases hk : known.lookup c with
      | some a =>
        obtain ⟨d, rfl, hd⟩ := h4 c a hk
        dsimp only
        refine wpAny_bind (wpAny_pure ?_)
        exact wpAny_pure ⟨done ++ [c], k, hx', rfl, grow ⟨#[d]⟩ hd.symm, by simp only [List.length_append, List.length_cons, List.length_nil]; omega, rfl, h4⟩
      | none =>
        dsimp only
        refine wpAny_bind (lookup (s := { s with toks := k }) hl hc ht fun k' => ?_)
        dsimp only
        cases hb : ((code c).length == 1 && (code c).cps.all fun x => decide (x < 128)) with
        | true =>
          have h1' : (code c).length = 1 := by
            simp only [Bool.and_eq_true, beq_iff_eq] at hb; exact hb.1
          obtain ⟨d, hd⟩ := one_cp h1'
          have e : (code c).cps[0]? = some d := by rw [hd]; rfl
          simp only [if_true, e]
          refine wpAny_bind (wpAny_pure ?_)
          refine wpAny_pure ⟨done ++ [c], k', hx', rfl, grow ⟨#[d]⟩ hd.symm, by simp only [List.length_append, List.length_cons, List.length_nil]; omega, rfl, fun c' a' h' => ?_⟩
          rw [List.lookup_cons] at h'
          cases hcc : c' == c with
          | true =>
            rw [hcc] at h'
            cases h'
            rw [beq_iff_eq.mp hcc]
            exact ⟨d, rfl, hd⟩
          | false => rw [hcc] at h'; exact h4 c' a' h'
        | false =>
          simp only [Bool.false_eq_true, if_false]
          refine wpAny_bind (wpAny_pure ?_)
          refine wpAny_bind (wpAny_rule ?_)
          exact wpAny_mono (slow known k' h4 rfl) (fun r s' hr => by cases r with | done _ => exact hr.elim | yield st => exact hr) fun _ _ x => x
  · rintro ⟨pieces, total, fast, known, afterDrop⟩ s' ⟨done, k, hx, rfl, h1, h2, h3, h4⟩
    dsimp only at h1 h2 h3 h4 ⊢
    rw [List.append_nil] at hx
    have hlen : done.length ≤ 1000 := by
      have := congrArg List.length hx
      rw [Array.length_toList] at this
      have hz' : x.cps.size ≤ 1000 := hz
      omega
    have hlt : Str.tooLong total = false := by unfold Str.tooLong; simp; rw [sizeLine_eq]; omega
    rw [hlt, if_neg (by decide), h1]
    have hl3 : ((done.flatMap fun c => (code c).cps.toList).toArray).size ≤ 3 * done.length := by
      rw [List.size_toArray]
      clear h1 h2 hlt h hlen
      have : ∀ c ∈ done, ((code c).cps.toList).length ≤ 3 := fun c hc => by
        rw [Array.length_toList]; exact (hcode c (by rw [hx]; exact hc)).2.1
      clear hcode hx hne hz
      induction done with
      | nil => simp
      | cons d ds ih =>
        rw [List.flatMap_cons, List.length_append, List.length_cons]
        have h1 := this d List.mem_cons_self
        have h2 := ih fun c hc => this c (List.mem_cons_of_mem _ hc)
        omega
    rw [hx] at h
    exact wpAny_bind (wpAny_mkStr (wpAny_pure ⟨_, rfl, h _ _⟩) (by rw [sizeLine_eq]; exact Nat.le_trans hl3 (by omega)))
end
end TR
end Mine

end
section
open PySem PySem.Calls PyProof.Rows PySem.W PySem.Spec PySem.SeqAt
namespace Mine
set_option Elab.async false
set_option maxRecDepth 100000
set_option linter.unusedVariables false
section
variable {C : Cx} {n : Nat} {sc : Scope} {l : Loc}

/-- b.decode('latin1') -/
theorem Ex.decode {o : Expr} {apos p pos : Pos} {k : Nat} {b : Array UInt8} (he : Ex C n sc l o (.bytes b)) (hne : b.size ≠ 0) (hz : b.size ≤ 1000)
    (hbase : ∀ env, attributeBase o (Str.ofString "decode") env (eval o env) = eval o env := by intro _; rfl) (hline : (apos.endLine == pos.line) = true := by rfl) :
    Ex C n sc l (.Call (.Attribute o (Str.ofString "decode") apos) [.Constant (.str (Str.ofString "latin1")) k p] [] pos) (.str ⟨b.map (·.toNat)⟩) := by
  intro A env P s E B I
  refine wpAny_Call_method (T := "bytes") (id := "bytes.decode") (hbase env) rfl hline FB.plainAttrs_bytes FB.slot_bytes_decode FB.type_bytes_decode (wpAny_mono (he A env P s E B I) (fun v s₁ ⟨k₁, r₁⟩ => ?_) fun _ _ x => x)
  cases r₁ with
  | bytes b t =>
    refine ⟨typeIs_bytes _ _ _, fun _ e => (nomatch e), ?_⟩
    have I₁ := I.keeps (up k₁)
    refine Calls.callWith_builtin (plainArgs_any rfl) (evalArgs_all rfl (by exact fun x => nomatch x) (wpAny_mono ((Exs.cons (Ex.str (C := C) (n := n) (l := l)) Exs.nil) A env P s₁ pos E B I₁) (fun vs s₂ ⟨k₂, r₂⟩ => ?_) fun _ _ x => x))
    cases r₂ with
    | cons r rs =>
      cases rs; cases r
      obtain ⟨bl⟩ := b
      cases bl with
      | nil => exact absurd rfl hne
      | cons c cs => exact DL.decode2 hz fun t' k => ⟨kt (kt k₁ k₂) (ktok _), .str _ _⟩

/-- the module's map of the signs, its function with a default -/
noncomputable def hexD (k : Nat) : Nat := if k < 10 then 48 + k else 55 + k
noncomputable def plainOctet (c : Nat) : Bool := (48 ≤ c && c ≤ 57) || (65 ≤ c && c ≤ 90) || (97 ≤ c && c ≤ 122) || c == 33 || c == 42 || c == 43 || c == 45 || c == 47
noncomputable def codeOf (c : Nat) : Str := if c == 32 then ⟨#[95]⟩ else if plainOctet c then ⟨#[c]⟩ else ⟨#[61, hexD (c / 16), hexD (c % 16)]⟩

structure MapAt (C : Cx) (h : Heap) (M : Addr) (vs : Array Value) : Prop where
  mg : C.mg (Str.ofString "_QUOPRI_HEADER_MAP") = some (.ref M)
  list : h.IsList M vs
  code : ∀ c, c < 256 → ∃ t, vs[c]? = some (.str (codeOf c) t)
theorem MapAt.keeps {h h' : Heap} {M : Addr} {vs : Array Value} (m : MapAt C h M vs) (hk : ∀ b o, h.get? b = some o → h'.get? b = some o) : MapAt C h' M vs := ⟨m.mg, m.list.at fun o e => hk _ o e, m.code⟩
structure EncAt (C : Cx) (h : Heap) (a : Addr) (fd : FuncData) (T : Addr) (tk : Tok) : Prop where
  mg : C.mg (Str.ofString "header_encode") = some (.ref a)
  ob : ∃ o, h.get? a = some o ∧ o.data = .func fd
  body : fd.body = .stmts b12.1
  scope : fd.scope = s12.1
  clo : fd.closure = []
  glob : fd.globals = mainGlobals
  blt : fd.builtins = builtinsNs
  cr : h.CodeRec fd.code fd.qualname
  dflt : fd.defaults = .ref T
  obT : ∃ o n, h.get? T = some o ∧ o.data = .seq #[.str (Str.ofString "iso-8859-1") tk] n
  two : ∀ u v, ∃ k, bindArgs fd ⟨[u, v], []⟩ = (seqItems? fd.defaults >>= k) ∧ k (some #[.str (Str.ofString "iso-8859-1") tk]) = pure [(Str.ofString "header_bytes", u), (Str.ofString "charset", v)]
  one : ∀ u, ∃ k, bindArgs fd ⟨[u], []⟩ = (seqItems? fd.defaults >>= k) ∧ k (some #[.str (Str.ofString "iso-8859-1") tk]) = pure [(Str.ofString "header_bytes", u), (Str.ofString "charset", .str (Str.ofString "iso-8859-1") tk)]
theorem EncAt.keeps {h h' : Heap} {a : Addr} {fd : FuncData} {T : Addr} {tk : Tok} (m : EncAt C h a fd T tk) (hk : ∀ b o, h.get? b = some o → h'.get? b = some o) : EncAt C h' a fd T tk :=
  ⟨m.mg, let ⟨o, e, d⟩ := m.ob; ⟨o, hk _ _ e, d⟩, m.body, m.scope, m.clo, m.glob, m.blt, m.cr.keeps hk, m.dflt, let ⟨o, n, e, d⟩ := m.obT; ⟨o, n, hk _ _ e, d⟩, m.two, m.one⟩

/-- what the program's own frame adds -/
noncomputable def MoreOf (mg : Str → Option Value) (h : Heap) : Prop := ∀ C : Cx, C.mg = mg → (∃ M vs, MapAt C h M vs) ∧ (∃ a fd T tk, EncAt C h a fd T tk) ∧ NoneBooked h
theorem MoreOf.keeps {mg : Str → Option Value} {h h' : Heap} (hk : ∀ b o, h.get? b = some o → h'.get? b = some o) (m : MoreOf mg h) : MoreOf mg h' := fun C e =>
  let ⟨⟨M, vs, h1⟩, ⟨a, fd, T, tk, h2⟩, mc, h3, h4⟩ := m C e
  ⟨⟨M, vs, h1.keeps hk⟩, ⟨a, fd, T, tk, h2.keeps hk⟩, mc, h3.keeps hk, h4⟩

structure PM (C : Cx) : Prop extends PC C where
  more : C.more = MoreOf C.mg
theorem PM.map (pm : PM C) {h : Heap} (k : Kit C h) : ∃ M vs, MapAt C h M vs := by have := k.more; rw [pm.more] at this; exact (this C rfl).1
theorem PM.enc (pm : PM C) {h : Heap} (k : Kit C h) : ∃ a fd T tk, EncAt C h a fd T tk := by have := k.more; rw [pm.more] at this; exact (this C rfl).2.1
theorem PM.free (pm : PM C) {h : Heap} (k : Kit C h) : NoneBooked h := by have := k.more; rw [pm.more] at this; exact (this C rfl).2.2

theorem name_map {pos : Pos} {A : Around} {env : Env} {P : Addr → Prop} {s : Shared} {M : Addr} {vs : Array Value} {Q : Value → Shared → Prop} (m : MapAt C s.heap M vs) (hk : sc.names.lookup (Str.ofString "_QUOPRI_HEADER_MAP") = some .globalImplicit) (E : EnvIs sc env) (I : Inv C env P l s.heap) (h : Q (.ref M) s) :
    wpAny (model C.prog C.w) A (eval (.Name (Str.ofString "_QUOPRI_HEADER_MAP") pos) env) Q NoE s :=
  Name_function_global (E.scope ▸ E.kind) (by unfold Env.kindOf; rw [E.scope]; exact hk) (loadGlobal_global (by rw [E.glob]; exact I.kit.g) m.mg h) (by decide +kernel)

theorem Ex.mapAt {i : Expr} {p pos : Pos} {k : Int} (pm : PM C) (hk : sc.names.lookup (Str.ofString "_QUOPRI_HEADER_MAP") = some .globalImplicit) (hi : Ex C n sc l i (.int k)) (h0 : 0 ≤ k ∧ k < 256)
    (hs : ∀ o j, subscripted i false o j = operate [o, j] (getItem o j) := by intro _ _; rfl) : Ex C n sc l (.Subscript (.Name (Str.ofString "_QUOPRI_HEADER_MAP") p) i pos) (.str (codeOf k.toNat)) := by
  intro A env P s E B I
  obtain ⟨M, vs, m⟩ := pm.map I.kit
  refine PyProof.Rows.Subscript_ (name_map m hk E I ?_)
  refine wpAny_mono (hi A env P s E B I) (fun j s₂ ⟨k₂, r₂⟩ => ?_) fun _ _ x => x
  cases r₂
  have m' := m.keeps (up k₂)
  obtain ⟨t, ht⟩ := m.code k.toNat (by omega)
  exact tail_any m'.list.typeIs slot_list_getitem.lookup (wpAny_getItem_list m'.list h0.1 (by omega) ht ⟨k₂, .str _ _⟩) (hs _ _)

/-- s.translate(the map) -/
theorem Ex.translate {o : Expr} {apos p pos : Pos} {x : Str} (pm : PM C) (hk : sc.names.lookup (Str.ofString "_QUOPRI_HEADER_MAP") = some .globalImplicit) (he : Ex C n sc l o (.str x)) (hne : x.length ≠ 0) (hz : x.length ≤ 1000) (hx : ∀ c ∈ x.cps.toList, c < 256)
    (hbase : ∀ env, attributeBase o (Str.ofString "translate") env (eval o env) = eval o env := by intro _; rfl) (hline : (apos.endLine == pos.line) = true := by rfl) :
    Ex C n sc l (.Call (.Attribute o (Str.ofString "translate") apos) [.Name (Str.ofString "_QUOPRI_HEADER_MAP") p] [] pos) (.str ⟨(x.cps.toList.flatMap fun c => (codeOf c).cps.toList).toArray⟩) := by
  intro A env P s E B I
  refine wpAny_Call_method (T := "str") (id := "str.translate") (hbase env) rfl hline F.plainAttrs_str F.slot_str_translate F.type_str_translate (wpAny_mono (he A env P s E B I) (fun v s₁ ⟨k₁, r₁⟩ => ?_) fun _ _ x => x)
  cases r₁ with
  | str x t =>
    refine ⟨typeIs_str _ _ _, fun _ e => (nomatch e), ?_⟩
    have I₁ := I.keeps (up k₁)
    obtain ⟨M, vs, m⟩ := pm.map I₁.kit
    refine Calls.callWith_builtin (plainArgs_any rfl) (evalArgs_all rfl (by exact fun x => nomatch x) ?_)
    refine wpAny_items_cons (name_map m hk E I₁ (wpAny_items_nil ?_)) rfl
    refine TR.translate m.list hne hz codeOf (fun c hc => ?_) fun t' k => ⟨kt k₁ (ktok _), .str _ _⟩
    have hc' := hx c hc
    refine ⟨by omega, ?_, m.code c hc'⟩
    unfold codeOf
    split
    · exact Nat.le_of_ble_eq_true rfl
    · split
      · exact Nat.le_of_ble_eq_true rfl
      · exact Nat.le_of_ble_eq_true rfl
end
end Mine

end
section
open PySem PySem.Calls PyProof.Rows PySem.W PySem.Spec PySem.SeqAt
namespace Mine
set_option Elab.async false
set_option maxRecDepth 100000
set_option linter.unusedVariables false
section
variable {C : Cx} {n : Nat} {sc : Scope} {l : Loc} {o : Option (String × List D)}
theorem Sx.ret1 {e : Expr} {pos : Pos} {d : D} (he : Ex C n sc l e d) : Sx C n sc l o [.Return (some e) pos] (fun x => x = .ret d) :=
  Sx.cons (Q₁ := fun x => x = .ret d) (S1.ret he rfl) (fun _ _ h => by cases h) fun _ h => h
theorem Sx.ifRet {t e : Expr} {rest : List Stmt} {p pos : Pos} {v : Bool} {d : D} (ht : Tx C n sc l t v) (h₁ : v = true → Ex C n sc l e d) (h₂ : v = false → Sx C n sc l o rest (fun x => x = .ret d)) : Sx C n sc l o (.If t [.Return (some e) p] [] pos :: rest) (fun x => x = .ret d) := by
  refine Sx.cons (Q₁ := fun x => (v = true ∧ x = .ret d) ∨ (v = false ∧ x = .next l o)) (S1.ite ht (fun hv => ?_) fun hv => ?_) ?_ ?_
  · exact (Sx.ret1 (h₁ hv)).mono fun x hx => .inl ⟨hv, hx⟩
  · exact Sx.nil (.inr ⟨hv, rfl⟩)
  · rintro l' o' (⟨_, h⟩ | ⟨hv, h⟩)
    · cases h
    · cases h; exact h₂ hv
  · rintro d' (⟨_, h⟩ | ⟨hv, h⟩)
    · exact h
    · cases h
end

section
variable {C : Cx}
theorem d_add (pc : PC C) (a b : Int) : Def C 1 (Str.ofString "add") [.int a, .int b] (.int (a + b)) := by
  refine Def.of (f := f18) (xs := ["a", "b"]) pc.m18 ⟨rfl, rfl, rfl, by decide +kernel⟩ ?_ (Sx.ret1 (Ex.bin (Ex.var rfl) (Ex.var rfl) (o_add a b)))
  intro pm cd doc us hu
  match us, hu with
  | [u, v], _ => rfl
theorem d_fdiv (pc : PC C) (a b : Int) (hb : b ≠ 0) (ha : 0 ≤ a ∧ a < 1000) (hb' : 0 ≤ b ∧ b < 1000) : Def C 1 (Str.ofString "floordiv") [.int a, .int b] (.int (a.fdiv b)) := by
  refine Def.of (f := f19) (xs := ["a", "b"]) pc.m19 ⟨rfl, rfl, rfl, by decide +kernel⟩ ?_ (Sx.ret1 (Ex.bin (Ex.var rfl) (Ex.var rfl) (o_fdiv a b hb ha hb')))
  intro pm cd doc us hu
  match us, hu with
  | [u, v], _ => rfl
theorem d_mod (pc : PC C) (a b : Int) (hb : b ≠ 0) : Def C 1 (Str.ofString "mod") [.int a, .int b] (.int (a.fmod b)) := by
  refine Def.of (f := f20) (xs := ["a", "b"]) pc.m20 ⟨rfl, rfl, rfl, by decide +kernel⟩ ?_ (Sx.ret1 (Ex.bin (Ex.var rfl) (Ex.var rfl) (o_mod a b hb)))
  intro pm cd doc us hu
  match us, hu with
  | [u, v], _ => rfl
theorem d_mul (pc : PC C) (a b : Int) (ha : -(2 ^ 63) < a ∧ a < 2 ^ 63) : Def C 1 (Str.ofString "mul") [.int a, .int b] (.int (a * b)) := by
  refine Def.of (f := f21) (xs := ["a", "b"]) pc.m21 ⟨rfl, rfl, rfl, by decide +kernel⟩ ?_ (Sx.ret1 (Ex.bin (Ex.var rfl) (Ex.var rfl) (o_mul a b ha)))
  intro pm cd doc us hu
  match us, hu with
  | [u, v], _ => rfl
theorem d_contains (pc : PC C) (ns : List Str) (x : Str) : Def C 1 (Str.ofString "contains") [.list (ns.map .str), .str x] (.bool (ns.contains x)) := by
  refine Def.of (f := f23) (xs := ["a", "b"]) pc.m23 ⟨rfl, rfl, rfl, by decide +kernel⟩ ?_ (Sx.ret1 (Ex.cmp (Ex.var rfl) (Ex.var rfl) (o_ins x ns)))
  intro pm cd doc us hu
  match us, hu with
  | [u, v], _ => rfl

theorem subAt_one (s : Str) (c i : Nat) : Builtin.Str.subAt s ⟨#[c]⟩ i = (s.cps.toList[i]? == some c) := by
  unfold Builtin.Str.subAt
  show (s.cps.extract i (i + 1) == #[c]) = _
  rw [Bool.eq_iff_iff, beq_iff_eq, beq_iff_eq]
  rw [← Array.toList_inj]
  simp only [Array.toList_extract, List.extract_eq_take_drop]
  rw [show i + 1 - i = 1 by omega]
  cases h : s.cps.toList.drop i with
  | nil =>
    have : s.cps.toList[i]? = none := List.getElem?_eq_none_iff.mpr (List.drop_eq_nil_iff.mp h)
    rw [this]; simp
  | cons x l =>
    have : s.cps.toList[i]? = some x := by rw [← List.head?_drop, h]; rfl
    rw [this]; simp
noncomputable def occStep (s : Str) (c n : Nat) (i : Nat) (st : Array Nat × Nat) : Id (ForInStep (Array Nat × Nat)) :=
  if (decide (st.1.size < 1) && decide (st.2 ≤ i) && decide (i + (⟨#[c]⟩ : Str).length ≤ n) && Builtin.Str.subAt s ⟨#[c]⟩ i) = true then pure (ForInStep.yield (st.1.push i, i + (⟨#[c]⟩ : Str).length)) else pure (ForInStep.yield (st.1, st.2))
theorem occ_full (s : Str) (c n : Nat) : ∀ (l : List Nat) (a : Array Nat) (b : Nat), a.size = 1 → (forIn l (a, b) (occStep s c n) : Id (Array Nat × Nat)).run.1 = a
  | [], _, _, _ => rfl
  | i :: l, a, b, h => by
    have e : occStep s c n i (a, b) = pure (ForInStep.yield (a, b)) := by
      unfold occStep
      rw [if_neg]
      simp [h]
    rw [List.forIn_cons, e]
    exact occ_full s c n l a b h
theorem occ_open (s : Str) (c n : Nat) : ∀ (l : List Nat), (forIn l (#[], 0) (occStep s c n) : Id (Array Nat × Nat)).run.1.toList.isEmpty = !(l.any fun i => decide (i + 1 ≤ n) && Builtin.Str.subAt s ⟨#[c]⟩ i)
  | [] => rfl
  | i :: l => by
    rw [List.forIn_cons]
    cases h : (decide (i + 1 ≤ n) && Builtin.Str.subAt s ⟨#[c]⟩ i) with
    | true =>
      have e : occStep s c n i (#[], 0) = pure (ForInStep.yield (#[i], i + 1)) := by
        unfold occStep
        rw [if_pos]
        · rfl
        · rw [Bool.and_eq_true] at h
          simp only [Bool.and_eq_true]
          exact ⟨⟨⟨rfl, by simp⟩, h.1⟩, h.2⟩
      rw [e, List.any_cons, h]
      show (forIn l (#[i], i + 1) (occStep s c n) : Id (Array Nat × Nat)).run.1.toList.isEmpty = _
      rw [occ_full s c n l #[i] (i + 1) rfl]
      rfl
    | false =>
      have e : occStep s c n i (#[], 0) = pure (ForInStep.yield (#[], 0)) := by
        unfold occStep
        rw [if_neg]
        intro h'
        simp only [Bool.and_eq_true] at h'
        have : (decide (i + 1 ≤ n) && Builtin.Str.subAt s ⟨#[c]⟩ i) = true := by rw [Bool.and_eq_true]; exact ⟨h'.1.2, h'.2⟩
        rw [h] at this; cases this
      rw [e, List.any_cons, h]
      exact occ_open s c n l
theorem occ_none (s : Str) (c : Nat) (n : Nat) : (Builtin.Str.occurrences s ⟨#[c]⟩ 0 n 1).isEmpty = !((List.range' 0 (n + 1)).any fun i => decide (i + 1 ≤ n) && Builtin.Str.subAt s ⟨#[c]⟩ i) := by
  unfold Builtin.Str.occurrences
  simp only [Std.Legacy.Range.forIn_eq_forIn_range', Std.Legacy.Range.size]
  rw [show (n + 1 - 0 + 1 - 1) / 1 = n + 1 by simp]
  exact occ_open s c n _
noncomputable def abcS : Str := ⟨⟨[45,33,42,43,47,48,49,50,51,52,53,54,55,56,57,65,66,67,68,69,70,71,72,73,74,75,76,77,78,79,80,81,82,83,84,85,86,87,88,89,90,97,98,99,100,101,102,103,104,105,106,107,108,109,110,111,112,113,114,115,116,117,118,119,120,121,122]⟩⟩
theorem abc_eq : Str.ofString "-!*+/0123456789ABCDEFGHIJKLMNOPQRSTUVWXYZabcdefghijklmnopqrstuvwxyz" = abcS := by decide +kernel
theorem code_in0 : ∀ c : Fin 256, (abcS.cps.toList.any fun x => x == c.1) = plainOctet c.1 := by decide +kernel
theorem any_at (l : List Nat) (c : Nat) (n : Nat) (hn : l.length = n) : ((List.range' 0 (n + 1)).any fun i => decide (i + 1 ≤ n) && (l[i]? == some c)) = l.any fun x => x == c := by
  rw [Bool.eq_iff_iff, List.any_eq_true, List.any_eq_true]
  constructor
  · rintro ⟨i, _, h⟩
    rw [Bool.and_eq_true, beq_iff_eq] at h
    exact ⟨c, List.mem_of_getElem? h.2, by simp⟩
  · rintro ⟨x, hx, h⟩
    obtain ⟨i, hi⟩ := List.mem_iff_getElem?.mp hx
    have hl : i < l.length := (List.getElem?_eq_some_iff.mp hi).1
    refine ⟨i, by rw [List.mem_range'_1]; omega, ?_⟩
    rw [Bool.and_eq_true, beq_iff_eq]
    exact ⟨by rw [decide_eq_true_eq]; omega, by rw [hi, beq_iff_eq.mp h]⟩
theorem code_in (c : Fin 256) : (!(Builtin.Str.occurrences (Str.ofString "-!*+/0123456789ABCDEFGHIJKLMNOPQRSTUVWXYZabcdefghijklmnopqrstuvwxyz") ⟨#[c.1]⟩ 0 (Str.ofString "-!*+/0123456789ABCDEFGHIJKLMNOPQRSTUVWXYZabcdefghijklmnopqrstuvwxyz").length 1).isEmpty) = plainOctet c.1 := by
  rw [abc_eq, occ_none, ← code_in0 c, ← any_at abcS.cps.toList c.1 abcS.length rfl, Bool.not_not]
  simp only [subAt_one]
theorem hex_at : ∀ k : Fin 16, (Str.ofString "0123456789ABCDEF").cps.toList[k.1]? = some (hexD k.1) := by decide +kernel

theorem d_code (pc : PC C) (c : Nat) (hc : c < 256) : Def C 2 (Str.ofString "_law_code") [.int c] (.str (codeOf c)) := by
  refine Def.of (f := f26) (xs := ["octet"]) pc.m26 ⟨rfl, rfl, rfl, by decide +kernel⟩ ?_ ?_
  · intro pm cd doc us hu
    match us, hu with
    | [u], _ => rfl
  · refine Sx.ifRet (Tx.cmp (Ex.var rfl) Ex.int (o_eq _ _)) (fun h => ?_) fun h => ?_
    · have h' : c = 32 := by
        have := beq_iff_eq.mp h; omega
      subst h'
      exact Ex.str
    · have h32 : (c == 32) = false := by
        rw [beq_eq_false_iff_ne] at h ⊢
        intro e; exact h (by rw [e]; rfl)
      refine Sx.ifRet (Tx.cmp (Ex.callB (pc.blt (x := "chr") (by simp) (by decide +kernel) (by kernel_rfl)) (Exs.cons (Ex.var rfl) Exs.nil) (c_chr c (by omega))) Ex.str (o_sin _ _)) (fun h => ?_) fun h => ?_
      · have e : codeOf c = ⟨#[(c : Int).toNat]⟩ := by
          have := code_in ⟨c, hc⟩
          unfold codeOf
          rw [h32, if_neg (by decide), if_pos]
          · rfl
          · rw [← this]; exact h
        rw [e]
        exact Ex.callB (pc.blt (x := "chr") (by simp) (by decide +kernel) (by kernel_rfl)) (Exs.cons (Ex.var rfl) Exs.nil) (c_chr c (by omega))
      · have e : codeOf c = Str.ofString "=" ++ ⟨#[hexD (c / 16)]⟩ ++ ⟨#[hexD (c % 16)]⟩ := by
          have := code_in ⟨c, hc⟩
          unfold codeOf
          rw [h32, if_neg (by decide), if_neg]
          · rfl
          · rw [← this]; intro h'; exact Bool.noConfusion (h'.symm.trans h)
        rw [e]
        have e1 : ((c : Int).fdiv 16).toNat = c / 16 := by
          rw [Int.fdiv_eq_ediv_of_nonneg _ (by decide)]; omega
        have e2 : ((c : Int).fmod 16).toNat = c % 16 := by
          rw [Int.fmod_eq_emod_of_nonneg _ (by decide)]; omega
        have b1 : 0 ≤ (c : Int).fdiv 16 ∧ (c : Int).fdiv 16 < 1000 := by rw [Int.fdiv_eq_ediv_of_nonneg _ (by decide)]; omega
        have b2 : 0 ≤ (c : Int).fmod 16 ∧ (c : Int).fmod 16 < 1000 := by rw [Int.fmod_eq_emod_of_nonneg _ (by decide)]; omega
        refine Sx.ret1 (Ex.bin (Ex.bin Ex.str (Ex.idxS Ex.str (Ex.callD (Own.mk' pc.m19 (by decide +kernel)) (Exs.cons (Ex.var rfl) (Exs.cons Ex.int Exs.nil)) (d_fdiv pc c 16 (by decide) (by omega) (by decide))) b1.1 (by omega) ?_) (o_cat _ _ ?_))
          (Ex.idxS Ex.str (Ex.callD (Own.mk' pc.m20 (by decide +kernel)) (Exs.cons (Ex.var rfl) (Exs.cons Ex.int Exs.nil)) (d_mod pc c 16 (by decide))) b2.1 (by omega) ?_) (o_cat _ _ ?_))
        · rw [e1]; exact hex_at ⟨c / 16, by omega⟩
        · exact Nat.le_of_ble_eq_true rfl
        · rw [e2]; exact hex_at ⟨c % 16, by omega⟩
        · exact Nat.le_of_ble_eq_true rfl
end
end Mine

end
section
open PySem PySem.Calls PyProof.Rows PySem.W PySem.Spec PySem.SeqAt
namespace Mine
set_option Elab.async false
set_option maxRecDepth 100000
set_option linter.unusedVariables false
section
variable {C : Cx}
theorem d_check (pm : PM C) (c : Nat) (hc : c < 256) : Def C 1 (Str.ofString "header_check") [.int c] (.bool ((⟨#[c]⟩ : Str) != codeOf c)) := by
  refine Def.of (f := f11) (xs := ["octet"]) pm.m11 ⟨rfl, rfl, rfl, by decide +kernel⟩ ?_ (Sx.ret1 (Ex.cmp (Ex.callB (pm.toPC.blt (x := "chr") (by simp) (by decide +kernel) (by kernel_rfl)) (Exs.cons (Ex.var rfl) Exs.nil) (c_chr c (by omega))) (Ex.mapAt pm (by decide +kernel) (Ex.var rfl) (by omega)) (o_sne _ _)))
  intro pm cd doc us hu
  match us, hu with
  | [u], _ => rfl

noncomputable def signsOf (b : Array UInt8) : Str := ⟨((b.toList.map (·.toNat)).flatMap fun c => (codeOf c).cps.toList).toArray⟩
noncomputable def encOf (cs : Str) (b : Array UInt8) : Str := if b.size = 0 then Str.ofString "" else Str.ofString "=?" ++ cs ++ Str.ofString "?q?" ++ signsOf b ++ Str.ofString "?="
theorem signs_len (b : Array UInt8) : (signsOf b).length ≤ 3 * b.size := by
  have key : ∀ l : List Nat, (l.flatMap fun c => (codeOf c).cps.toList).length ≤ 3 * l.length := by
    intro l
    induction l with
    | nil => simp
    | cons c l ih =>
      rw [List.flatMap_cons, List.length_append, List.length_cons]
      have : (codeOf c).cps.toList.length ≤ 3 := by
        unfold codeOf
        split
        · exact Nat.le_of_ble_eq_true rfl
        · split
          · exact Nat.le_of_ble_eq_true rfl
          · exact Nat.le_of_ble_eq_true rfl
      omega
  show (List.toArray _).size ≤ _
  rw [List.size_toArray]
  have := key (b.toList.map (·.toNat))
  rw [List.length_map, Array.length_toList] at this
  exact this
section
variable {n : Nat} {sc : Scope} {l : Loc}
theorem Ex.to {e : Expr} {d d' : D} (h : Ex C n sc l e d) (hd : d = d') : Ex C n sc l e d' := hd ▸ h
theorem Ex.fmtS {e : Expr} {pos : Pos} {x : Str} (h : Ex C n sc l e (.str x)) (hz : x.length ≤ 100000) : Ex C n sc l (.FormattedValue e 115 none pos) (.str x) := by
  intro A env P s E B I
  show wpAny _ _ (do let v ← eval e env; standAt pos; formatted pos (← holding [v] (converted 115 v)) none) _ _ _
  refine wpAny_bind (wpAny_mono (h A env P s E B I) (fun v s₁ ⟨k₁, r₁⟩ => ?_) fun _ _ x => x)
  cases r₁ with
  | str x t =>
    refine wpAny_bind (wpAny_standAt ?_)
    show wpAny _ _ (do let v' ← holding [.str x t] (habitSame "fstring-hands-on-the-str" (.str x t)); formatField v' Str.empty) _ _ s₁
    refine wpAny_bind (wpAny_holding (habitSame_str (fun t' tk => ?_) (by rw [sizeLine_eq]; omega)))
    exact formatField_str (fun t'' tk' => ⟨kt k₁ (ktok _), .str _ _⟩) (by rw [sizeLine_eq]; omega)
inductive Texts (C : Cx) (n : Nat) (sc : Scope) (l : Loc) : List Expr → List Str → Prop where
  | nil : Texts C n sc l [] []
  | cons {e : Expr} {es : List Expr} {x : Str} {xs : List Str} : Ex C n sc l e (.str x) → x.length ≤ 10000 → Texts C n sc l es xs → Texts C n sc l (e :: es) (x :: xs)
theorem texts_run {A : Around} {env : Env} {P : Addr → Prop} (E : EnvIs sc env) (B : Bud A n) : ∀ {es : List Expr} {xs : List Str} {acc : Str} {s : Shared}, Texts C n sc l es xs → Inv C env P l s.heap → acc.length + 10000 * xs.length ≤ 100000 →
    wpAny (model C.prog C.w) A (joinParts acc (evalEach es env)) (fun v s' => Keeps s s' ∧ Rep P s'.heap v (.str (xs.foldl (· ++ ·) acc))) NoE s
  | _, _, acc, s, .nil, I, hz => joinParts_nil ⟨ktok _, .str _ _⟩ (by rw [sizeLine_eq]; omega)
  | _, _, acc, s, .cons (x := x) (xs := xs) h hx ht, I, hz => by
    refine joinParts_cons (wpAny_mono (h A env P s E B I) (fun v s₁ ⟨k₁, r₁⟩ => ?_) fun _ _ x => x)
    cases r₁ with
    | str x t =>
      have ha : (acc ++ x).length = acc.length + x.length := strLen_append _ _
      rw [List.length_cons] at hz
      refine ⟨by rw [ha, sizeLine_eq]; omega, ?_⟩
      exact wpAny_mono (texts_run E B ht (I.keeps (up k₁)) (by rw [ha]; omega)) (fun v' s₂ ⟨k₂, r₂⟩ => ⟨kt k₁ k₂, r₂⟩) fun _ _ x => x
theorem Ex.joined {e₁ e₂ : Expr} {es : List Expr} {pos : Pos} {xs : List Str} (h : Texts C n sc l (e₁ :: e₂ :: es) xs) (hz : xs.length ≤ 9) : Ex C n sc l (.JoinedStr (e₁ :: e₂ :: es) pos) (.str (xs.foldl (· ++ ·) Str.empty)) :=
  fun A env P s E B I => JoinedStr_many (texts_run E B h I (by have : Str.empty.length = 0 := rfl; omega))
end
theorem empty_app (x : Str) : Str.empty ++ x = x := by
  show Str.append Str.empty x = x
  cases x; simp [Str.append, Str.empty]
theorem enc_body (pm : PM C) (b : Array UInt8) (cs : Str) (hb : b.size ≤ 100) (hc : cs.length ≤ 1000) : Sx C 0 s12.1 (argL ["header_bytes", "charset"] [.bytes b, .str cs] none_) none b12.1 (fun x => x = .ret (.str (encOf cs b))) := by
  have hT : Tx C 0 s12.1 (argL ["header_bytes", "charset"] [.bytes b, .str cs] none_) (.UnaryOp .Not (.Name (Str.ofString "header_bytes") default) default) (!(b.size != 0)) := Tx.not (Tx.bytesv (Ex.var rfl) (by omega))
  refine Sx.ifRet (Tx.not (Tx.bytesv (Ex.var rfl) (b := b) (by omega))) (fun h => ?_) fun h => ?_
  · have h' : b.size = 0 := by simpa using h
    unfold encOf
    rw [if_pos h']
    exact Ex.str
  · have h' : b.size ≠ 0 := by simpa using h
    unfold encOf
    rw [if_neg h']
    have hmap : (⟨b.map (·.toNat)⟩ : Str).cps.toList = b.toList.map (·.toNat) := by simp
    have hsg : (⟨(((⟨b.map (·.toNat)⟩ : Str).cps.toList).flatMap fun c => (codeOf c).cps.toList).toArray⟩ : Str) = signsOf b := by unfold signsOf; rw [hmap]
    have hz := signs_len b
    refine Sx.step (S1.assign (Ex.translate pm (by decide +kernel) (Ex.decode (Ex.var rfl) h' (by omega)) ?_ ?_ ?_) rfl) ?_
    · show (b.map _).size ≠ 0; rw [Array.size_map]; exact h'
    · show (b.map _).size ≤ _; rw [Array.size_map]; omega
    · intro c hc
      rw [hmap] at hc
      obtain ⟨u, _, rfl⟩ := List.mem_map.mp hc
      exact u.toNat_lt
    · rw [hsg]
      refine Sx.ret1 (Ex.to (Ex.joined (xs := [Str.ofString "=?", cs, Str.ofString "?q?", signsOf b, Str.ofString "?="]) (.cons Ex.str (Nat.le_of_ble_eq_true rfl) (.cons (Ex.fmtS (Ex.var (x := "charset") rfl) (by omega)) (by omega) (.cons Ex.str (Nat.le_of_ble_eq_true rfl) (.cons (Ex.fmtS (Ex.var (x := "encoded") rfl) (by omega)) (by omega) (.cons Ex.str (Nat.le_of_ble_eq_true rfl) .nil))))) (Nat.le_of_ble_eq_true rfl)) ?_)
      simp only [List.foldl_cons, List.foldl_nil, empty_app]

section
variable {n : Nat} {sc : Scope} {l : Loc}
theorem headEnc : Head b12.1 s12.1 ["header_bytes", "charset"] := ⟨rfl, rfl, rfl, by decide +kernel⟩
theorem name_enc {pos : Pos} {A : Around} {env : Env} {P : Addr → Prop} {s : Shared} {a T : Addr} {fd : FuncData} {tk : Tok} {Q : Value → Shared → Prop} (m : EncAt C s.heap a fd T tk) (hk : sc.names.lookup (Str.ofString "header_encode") = some .globalImplicit) (E : EnvIs sc env) (I : Inv C env P l s.heap) (h : Q (.ref a) s) :
    wpAny (model C.prog C.w) A (eval (.Name (Str.ofString "header_encode") pos) env) Q NoE s :=
  Name_function_global (E.scope ▸ E.kind) (by unfold Env.kindOf; rw [E.scope]; exact hk) (loadGlobal_global (by rw [E.glob]; exact I.kit.g) m.mg h) (by decide +kernel)

theorem Ex.enc2 (pm : PM C) {e₁ e₂ : Expr} {p pos : Pos} {b : Array UInt8} {cs : Str} (hk : sc.names.lookup (Str.ofString "header_encode") = some .globalImplicit) (h₁ : Ex C (n + 1) sc l e₁ (.bytes b)) (h₂ : Ex C (n + 1) sc l e₂ (.str cs)) (hb : b.size ≤ 100) (hc : cs.length ≤ 1000)
    (hp : plainArgs [e₁, e₂] = true := by rfl) (he₁ : ∀ env, starEach [e₁, e₂] env = (false, eval e₁ env) :: starEach [e₂] env := by intro _; rfl) (he₂ : ∀ env, starEach [e₂] env = (false, eval e₂ env) :: starEach [] env := by intro _; rfl) :
    Ex C (n + 1) sc l (.Call (.Name (Str.ofString "header_encode") p) [e₁, e₂] [] pos) (.str (encOf cs b)) := by
  intro A env P s E B I
  obtain ⟨a, fd, T, tk, m⟩ := pm.enc I.kit
  obtain ⟨o, ho, hd⟩ := m.ob
  refine eval_Call_Name (name_enc m hk E I (callWith_function (o := o) (evalArgs_all hp (by exact fun x => nomatch x) (wpAny_mono ((Exs.cons h₁ (Exs.cons h₂ Exs.nil he₂) he₁) A env P s pos E B I) (fun vs s₁ ⟨k₁, r₁⟩ => ⟨⟨up k₁ _ _ ho, hd⟩, ?_⟩) fun _ _ x => x))))
  have I₁ := I.keeps (up k₁)
  have m₁ := m.keeps (up k₁)
  obtain ⟨o₁, ho₁, hd₁⟩ := m₁.ob
  obtain ⟨oT, nT, hoT, hdT⟩ := m₁.obT
  have r₁' := r₁
  cases r₁' with
  | @cons u _ _ _ ru rs =>
    cases rs with
    | @cons v _ _ _ rv rs =>
      cases rs
      obtain ⟨kk, hk1, hk2⟩ := m₁.two u v
      exact wpAny_mono (enterR (x := Str.ofString "header_encode") (params := p12.1) (R := fun d' _ => d' = .str (encOf cs b)) (k := 0) headEnc (((enc_body pm b cs hb hc).T (R := fun x _ => ∃ d, x = .ret d ∧ d = .str (encOf cs b)) fun x _ q _ => ⟨_, q, rfl⟩)) (Nat.zero_le _) ho₁ hd₁ m₁.body m₁.scope m₁.clo m₁.glob m₁.blt (ws := [u, v])
        (BindsTo.of_defaults m₁.dflt hoT hdT hk1 hk2) m₁.cr (B.le (by omega)) I₁.kit I₁.hp r₁) (fun r s₂ ⟨k₂, d', e, r₂⟩ => ⟨kt k₁ k₂, e ▸ r₂⟩) fun _ _ x => x
theorem Ex.enc1 (pm : PM C) {e₁ : Expr} {p pos : Pos} {b : Array UInt8} (hk : sc.names.lookup (Str.ofString "header_encode") = some .globalImplicit) (h₁ : Ex C (n + 1) sc l e₁ (.bytes b)) (hb : b.size ≤ 100)
    (hp : plainArgs [e₁] = true := by rfl) (he₁ : ∀ env, starEach [e₁] env = (false, eval e₁ env) :: starEach [] env := by intro _; rfl) :
    Ex C (n + 1) sc l (.Call (.Name (Str.ofString "header_encode") p) [e₁] [] pos) (.str (encOf (Str.ofString "iso-8859-1") b)) := by
  intro A env P s E B I
  obtain ⟨a, fd, T, tk, m⟩ := pm.enc I.kit
  obtain ⟨o, ho, hd⟩ := m.ob
  refine eval_Call_Name (name_enc m hk E I (callWith_function (o := o) (evalArgs_all hp (by exact fun x => nomatch x) (wpAny_mono ((Exs.cons h₁ Exs.nil he₁) A env P s pos E B I) (fun vs s₁ ⟨k₁, r₁⟩ => ⟨⟨up k₁ _ _ ho, hd⟩, ?_⟩) fun _ _ x => x))))
  have I₁ := I.keeps (up k₁)
  have m₁ := m.keeps (up k₁)
  obtain ⟨o₁, ho₁, hd₁⟩ := m₁.ob
  obtain ⟨oT, nT, hoT, hdT⟩ := m₁.obT
  cases r₁ with
  | @cons u _ _ _ ru rs =>
    cases rs
    obtain ⟨kk, hk1, hk2⟩ := m₁.one u
    exact wpAny_mono (enterR (x := Str.ofString "header_encode") (params := p12.1) (R := fun d' _ => d' = .str (encOf (Str.ofString "iso-8859-1") b)) (k := 0) headEnc (((enc_body pm b _ hb (Nat.le_of_ble_eq_true rfl)).T (R := fun x _ => ∃ d, x = .ret d ∧ d = .str (encOf (Str.ofString "iso-8859-1") b)) fun x _ q _ => ⟨_, q, rfl⟩)) (Nat.zero_le _) ho₁ hd₁ m₁.body m₁.scope m₁.clo m₁.glob m₁.blt (ws := [u, .str (Str.ofString "iso-8859-1") tk])
        (BindsTo.of_defaults m₁.dflt hoT hdT hk1 hk2) m₁.cr (B.le (by omega)) I₁.kit I₁.hp (.cons ru (.one (.str _ _)))) (fun r s₂ ⟨k₂, d', e, r₂⟩ => ⟨kt k₁ k₂, e ▸ r₂⟩) fun _ _ x => x
end
end
end Mine

end
section
open PySem PySem.Calls PyProof.Rows PySem.W PySem.Spec PySem.SeqAt
namespace Mine
set_option Elab.async false
set_option maxRecDepth 100000
set_option linter.unusedVariables false
section
variable {M : Model} {A : Around} {E : Value → Shared → Prop} {s : Shared}
theorem isSame_str2 {y z : Str} {u v : Tok} {Q : Bool → Shared → Prop} (hu : u ≠ 0) (hv : v ≠ 0) (hco : u = v → y = z) (hb : NoneBooked s.heap) (hq : ∀ b, (b = true → y = z) → Q b s) : wpAny M A (isSame (.str y u) (.str z v)) Q E s := by
  have h0 : (u == 0 || v == 0) = false := by simp [hu, hv]
  show wpAny M A (isSame.created (y == z) u v) Q E s
  unfold isSame.created
  refine wpAny_ite ?_
  split
  · rename_i h; rw [h0] at h; exact absurd h Bool.false_ne_true
  refine wpAny_ite ?_
  split
  · rename_i h; exact wpAny_pure (hq _ fun _ => hco (beq_iff_eq.mp h))
  refine wpAny_ite ?_
  split
  · exact wpAny_pure (hq _ fun h => by cases h)
  · rename_i h
    have e : y = z := by simpa using h
    refine wpAny_bind (wpAny_sharingNotTold_none hb ?_)
    rw [if_neg Bool.false_ne_true]
    refine wpAny_bind (wpAny_sharingNotTold_none hb ?_)
    rw [if_neg Bool.false_ne_true]
    exact wpAny_bind (wpAny_rule (wpAny_bind (wpAny_askSetting (wpAny_pure (hq _ fun _ => e)))))
end
section
variable {C : Cx} {n : Nat} {sc : Scope} {l : Loc} {o : Option (String × List D)}
theorem Tx.or2 {x y : Expr} {pos : Pos} {a b : Bool} (h₁ : Tx C n sc l x a) (h₂ : a = false → Tx C n sc l y b) : Tx C n sc l (.BoolOp .Or [x, y] pos) (a || b) := by
  intro A env P s E B I
  refine wpAny_isTrue_BoolOp (wpAny_allTrue_Or_cons (wpAny_mono (h₁ A env P s E B I) (fun b' s₁ ⟨k₁, e⟩ => ?_) fun _ _ x => x))
  subst e
  cases b' with
  | true => exact ⟨k₁, rfl⟩
  | false =>
    refine wpAny_allTrue_Or_cons (wpAny_mono (h₂ rfl A env P s₁ E B (I.keeps (up k₁))) (fun b'' s₂ ⟨k₂, e⟩ => ?_) fun _ _ x => x)
    subst e
    cases b'' with
    | true => exact ⟨kt k₁ k₂, rfl⟩
    | false => exact wpAny_allTrue_Or_nil ⟨kt k₁ k₂, rfl⟩
theorem Tx.to {e : Expr} {a b : Bool} (h : Tx C n sc l e a) (hab : a = b) : Tx C n sc l e b := hab ▸ h
/-- x is y or x == y, of texts whose tokens tell them apart -/
theorem Tx.isOrEq (pm : PM C) {e₁ e₂ e₃ e₄ : Expr} {p q pos : Pos} {x y : Str} {t u : Nat} (h₁ : Ex C n sc l e₁ (.tstr x t)) (h₂ : Ex C n sc l e₂ (.tstr y u)) (h₃ : Ex C n sc l e₃ (.tstr x t)) (h₄ : Ex C n sc l e₄ (.tstr y u)) (ht : t ≠ 0) (hu : u ≠ 0) (hco : t = u → x = y)
    (hm₁ : behindInMarks .Is e₂ = false := by with_unfolding_all rfl) (hm₂ : behindInMarks .Eq e₄ = false := by with_unfolding_all rfl) :
    Tx C n sc l (.BoolOp .Or [.Compare e₁ [.Is] [e₂] p, .Compare e₃ [.Eq] [e₄] q] pos) (x == y) := by
  intro A env P s E B I
  have hop : ∀ (A : Around) (P : Addr → Prop) (s : Shared) (u' v' : Value), Kit C s.heap → Rep P s.heap u' (.tstr x t) → Rep P s.heap v' (.tstr y u) → wpAny (model C.prog C.w) A (compareOp .Is u' v') (fun r s' => ∃ b, r = .bool b ∧ (b = true → x = y) ∧ Keeps s s') NoE s := by
    intro A P s u' v' K r₁ r₂
    cases r₁; cases r₂
    show wpAny _ A (isSame (.str x t) (.str y u) >>= fun b => pure (Value.bool b)) _ _ s
    exact wpAny_bind (isSame_str2 ht hu hco (pm.free K) fun b hb => wpAny_pure ⟨b, rfl, hb, kr s⟩)
  refine wpAny_isTrue_BoolOp (wpAny_allTrue_Or_cons ?_)
  refine wpAny_isTrue_Compare1 (wpAny_mono (h₁ A env P s E B I) (fun a s₁ ⟨k₁, r₁⟩ => wpAny_mono (h₂ A env P s₁ E B (I.keeps (up k₁))) (fun c s₂ ⟨k₂, r₂⟩ => wpAny_mono (hop A P s₂ a c ((I.keeps (up k₁)).keeps (up k₂)).kit (r₁.keeps (up k₂)) r₂) (fun r s₃ hr => ?_) fun _ _ x => x) fun _ _ x => x) fun _ _ x => x) hm₁
  obtain ⟨b, rfl, hb, k₃⟩ := hr
  refine wpAny_truthy_bool ?_
  have k := kt (kt k₁ k₂) k₃
  cases b with
  | true =>
    rw [if_pos rfl]
    exact ⟨k, by rw [hb rfl]; simp⟩
  | false =>
    rw [if_neg (by decide)]
    refine wpAny_allTrue_Or_cons (wpAny_mono ((Tx.cmp (Ex.forget h₃) (Ex.forget h₄) (o_seq x y) hm₂) A env P s₃ E B (I.keeps (up k))) (fun b'' s₄ ⟨k₄, e⟩ => ?_) fun _ _ x => x)
    cases b'' with
    | true => exact ⟨kt k k₄, e⟩
    | false => exact wpAny_allTrue_Or_nil ⟨kt k k₄, e⟩

/-- a plus of two texts, neither empty: a new token -/
theorem add_str_new {M : Model} {prog : Program} {w : World} {A : Around} {E : Value → Shared → Prop} {s : Shared} {x y : Str} {t u : Tok} {Q : Value → Shared → Prop} (hx : x.length ≠ 0) (hy : y.length ≠ 0) (hsz : x.length + y.length ≤ sizeLine) (h : Q (.str (x ++ y) s.toks) { s with toks := s.toks + 1 }) :
    wpAny (model prog w) A (binaryOp .Add (.str x t) (.str y u)) Q E s := by
  refine binaryOp_concat (typeIs_str s x t) (typeIs_str s y u) PyProof.Rows.noFill_str_add PyProof.Rows.seq_str_add ?_
  refine wpAny_call_entry slot_str_add (typeIs_str s x t) entry_str_add ?_ (args_str_add _ _)
  show wpAny _ _ (do
    if (true && x.length == 0) = true then (do rule "str.__add__.left-empty"; ret (.str y u)) else
    if (true && y.length == 0) = true then (do rule "str.__add__.right-empty"; ret (.str x t)) else
    retStr (x ++ y)) _ _ s
  rw [if_neg (by simpa using hx), if_neg (by simpa using hy)]
  exact wpAny_bind (wpAny_mkStr (wpAny_pure ⟨_, rfl, h⟩) (by rw [strLen_append]; exact hsz))
noncomputable def Fresh (k : Nat) (x : Str) (d : D) (k' : Nat) : Prop := ∃ t, d = .tstr x t ∧ k ≤ t ∧ t < k'
theorem ExR.cat {e₁ e₂ : Expr} {pos : Pos} {x y : Str} {k : Nat} (h₁ : Ex C n sc l e₁ (.str x)) (h₂ : Ex C n sc l e₂ (.str y)) (hx : x.length ≠ 0) (hy : y.length ≠ 0) (hz : x.length + y.length ≤ 100000) : ExR C n sc l k (.BinOp e₁ .Add e₂ pos) (Fresh k (x ++ y)) := by
  intro A env P s E B I hk
  refine wpAny_BinOp (wpAny_mono (wpAny_toks (h₁ A env P s E B I)) (fun a s₁ ⟨⟨k₁, r₁⟩, t₁⟩ => wpAny_mono (wpAny_toks (h₂ A env P s₁ E B (I.keeps (up k₁)))) (fun c s₂ ⟨⟨k₂, r₂⟩, t₂⟩ => ?_) fun _ _ x => x.1) fun _ _ x => x.1)
  cases r₁; cases r₂
  exact add_str_new (M := model C.prog C.w) hx hy (by rw [sizeLine_eq]; omega) ⟨kt (kt k₁ k₂) (ktok _), _, ⟨_, rfl, by omega, Nat.lt_succ_self _⟩, .tstr _ _⟩
theorem S1T.ret {e : Expr} {pos : Pos} {k : Nat} {R : D → Nat → Prop} {Q : Out → Nat → Prop} (he : ExR C n sc l k e R) (hq : ∀ d k', R d k' → Q (.ret d) k') : S1T C n sc l o k (.Return (some e) pos) Q := by
  intro A h₀ env P s a E B S hk
  refine wpAny_Return_some (wpAny_mono (he A env _ s E B S.inv hk) (fun v s₁ ⟨k₁, d, hd, r₁⟩ => ?_) fun _ _ x => x)
  exact Post.after (kbOf k₁) ⟨s₁.heap, s₁.toks, rfl, .of fun _ _ e => e, d, hq d _ hd, r₁.mono (fun _ p => p.1) fun _ _ _ e => e⟩
theorem SxT.ret1 {e : Expr} {pos : Pos} {k : Nat} {R : D → Nat → Prop} (he : ExR C n sc l k e R) : SxT C n sc l o k [.Return (some e) pos] (fun x k' => ∃ d, x = .ret d ∧ R d k') :=
  SxT.cons (R₁ := fun x k' => ∃ d, x = .ret d ∧ R d k') (S1T.ret he fun d k' h => ⟨d, rfl, h⟩) (fun _ _ _ h => by obtain ⟨_, h, _⟩ := h; cases h) fun d k' h _ => h
end
section
variable {C : Cx}
theorem concat_test (pc : PC C) (x : Str) {l : Loc} (hl : l "a" = some (.str x)) {p1 p2 p3 p4 p5 : Pos} {k : Nat} : Tx C 0 s22.1 l (.UnaryOp .Not (.Call (.Name (Str.ofString "hasattr") p1) [.Name (Str.ofString "a") p2, .Constant (.str (Str.ofString "__getitem__")) k p3] [] p4) p5) false :=
  Tx.not (b := true) (Tx.boolv (Ex.callB (pc.blt (x := "hasattr") (by simp) (by decide +kernel) (by kernel_rfl)) (Exs.cons (Ex.var hl) (Exs.cons Ex.str Exs.nil)) (c_hasattr x)))
theorem d_concat (pc : PC C) (x y : Str) (hz : x.length + y.length ≤ 100000) : Def C 1 (Str.ofString "concat") [.str x, .str y] (.str (x ++ y)) := by
  refine Def.of (f := f22) (xs := ["a", "b"]) pc.m22 ⟨rfl, rfl, rfl, by decide +kernel⟩ ?_ (Sx.step (S1.skip (concat_test pc x rfl) rfl) (Sx.ret1 (Ex.bin (Ex.var rfl) (Ex.var rfl) (o_cat x y hz))))
  intro pm cd doc us hu
  match us, hu with
  | [u, v], _ => rfl
theorem r_concat (pc : PC C) (x y : Str) (k : Nat) (hx : x.length ≠ 0) (hy : y.length ≠ 0) (hz : x.length + y.length ≤ 100000) : DefR C 1 k (Str.ofString "concat") [.str x, .str y] (Fresh k (x ++ y)) := by
  refine DefR.of (f := f22) (xs := ["a", "b"]) pc.m22 ⟨rfl, rfl, rfl, by decide +kernel⟩ ?_ (SxT.step (S1.skip (concat_test pc x rfl) rfl) fun k' hk => (SxT.ret1 (ExR.cat (Ex.var rfl) (Ex.var rfl) hx hy hz)).mono ?_)
  · intro pm cd doc us hu
    match us, hu with
    | [u, v], _ => rfl
  · rintro x k'' ⟨d, rfl, t, rfl, h1, h2⟩ hk'
    exact ⟨_, rfl, t, rfl, Nat.le_trans hk h1, h2⟩
end
end Mine

end
section
open PySem PySem.Calls PyProof.Rows PySem.W PySem.Spec PySem.SeqAt
namespace Mine
set_option Elab.async false
set_option maxRecDepth 100000
set_option linter.unusedVariables false
section
variable {C : Cx}
theorem take_filter {α : Type} (f : α → Bool) {xs : List α} {i : Nat} {x : α} (h : xs[i]? = some x) : ((xs.take (i + 1)).filter f).length = ((xs.take i).filter f).length + (if f x then 1 else 0) := by
  rw [List.take_add_one, h, List.filter_append, List.length_append]
  cases hf : f x <;> simp [hf]
theorem d_count (pc : PC C) {α : Type} (xs : List α) (k : α → D) (bd : D) (f : α → Bool)
    (ht : ∀ x ∈ xs, ∀ l : Loc, l "i" = some (k x) → l "b" = some bd → ∀ p1 p2 p3 p4 p5 p6 p7, Tx C 0 s24.1 l (.BoolOp .Or [.Compare (.Name (Str.ofString "i") p1) [.Is] [.Name (Str.ofString "b") p2] p3, .Compare (.Name (Str.ofString "i") p4) [.Eq] [.Name (Str.ofString "b") p5] p6] p7) (f x)) :
    Def C 1 (Str.ofString "countOf") [.list (xs.map k), bd] (.int ((xs.filter f).length : Nat)) := by
  refine Def.of (f := f24) (xs := ["a", "b"]) pc.m24 ⟨rfl, rfl, rfl, by decide +kernel⟩ ?_ ?_
  · intro pm cd doc us hu
    match us, hu with
    | [u, v], _ => rfl
  · refine Sx.step (S1.assign Ex.int rfl) ?_
    refine Sx.cons (Q₁ := fun x => ∃ l', x = .next l' none ∧ l' "count" = some (.int ((xs.filter f).length : Nat))) (S1.for (ExI.list (Ex.var (x := "a") rfl) (.name _ _)) (fun i l o => o = none ∧ l "b" = some bd ∧ l "count" = some (.int (((xs.take i).filter f).length : Nat))) ⟨rfl, rfl, rfl⟩ ?_ ?_) ?_ ?_
    · rintro i d l' o' hd ⟨rfl, hb, hc⟩
      rw [List.getElem?_map] at hd
      obtain ⟨x, hx, rfl⟩ := Option.map_eq_some_iff.mp hd
      refine ⟨_, .name (.inl (by decide +kernel)) (fun _ _ h => by cases h), ?_⟩
      have hb' : put "i" (k x) l' "b" = some bd := by rw [put_ne _ _ (by decide)]; exact hb
      have hc' : put "i" (k x) l' "count" = some (.int (((xs.take i).filter f).length : Nat)) := by rw [put_ne _ _ (by decide)]; exact hc
      have hcnt := take_filter f hx
      refine Sx.cons (Q₁ := fun y => ∃ l₂, y = .next l₂ none ∧ l₂ "b" = some bd ∧ l₂ "count" = some (.int (((xs.take (i + 1)).filter f).length : Nat))) (S1.ite (ht x (List.mem_of_getElem? hx) _ (put_same _ _ _) hb' _ _ _ _ _ _ _) (fun hf => ?_) fun hf => ?_) ?_ ?_
      · refine Sx.cons (Q₁ := fun y => y = .next (put "count" (.int ((((xs.take i).filter f).length : Nat) + 1)) (put "i" (k x) l')) none) (S1.augInt hc' Ex.int rfl) ?_ ?_
        · rintro _ _ h
          cases h
          refine Sx.nil ⟨_, rfl, ?_, ?_⟩
          · rw [put_ne _ _ (by decide)]; exact hb'
          · rw [put_same, hcnt, hf]; rfl
        · intro _ h; cases h
      · refine Sx.nil ⟨_, rfl, hb', ?_⟩
        rw [hc', hcnt, hf]; rfl
      · rintro l₂ o₂ ⟨l₃, h, h1, h2⟩
        cases h
        exact Sx.nil ⟨rfl, h1, h2⟩
      · rintro d ⟨_, h, _⟩; cases h
    · rintro l' o' ⟨rfl, _, hc⟩
      refine ⟨_, rfl, ?_⟩
      rw [hc, List.length_map, List.take_length]
    · rintro l' o' ⟨l₂, h, hc⟩
      cases h
      exact Sx.ret1 (Ex.var hc)
    · rintro d ⟨_, h, _⟩; cases h
theorem o_beq {n : Nat} (a b : Bool) : Op2 C n (compareOp .Eq) (.bool a) (.bool b) (.bool (a == b)) := fun _ _ s _ _ _ _ _ r₁ r₂ => by
  cases r₁; cases r₂; exact PyProof.Rows.eq_bool ⟨kr s, .bool _⟩
theorem d_countB (pc : PC C) (xs : List Bool) (b : Bool) : Def C 1 (Str.ofString "countOf") [.list (xs.map .bool), .bool b] (.int ((xs.filter (· == b)).length : Nat)) :=
  d_count pc xs .bool (.bool b) _ fun x _ l hi hb _ _ _ _ _ _ _ => (Tx.or2 (Tx.cmp (Ex.var hi) (Ex.var hb) (o_is x b)) fun h => Tx.cmp (Ex.var hi) (Ex.var hb) (o_beq x b)).to (by simp)
/-- texts whose tokens tell them apart -/
noncomputable def Told (xs : List (Str × Nat)) : Prop := (∀ p ∈ xs, p.2 ≠ 0) ∧ ∀ p ∈ xs, ∀ q ∈ xs, p.2 = q.2 → p.1 = q.1
theorem d_countT (pm : PM C) (xs : List (Str × Nat)) (b : Str × Nat) (hb : b ∈ xs) (h : Told xs) : Def C 1 (Str.ofString "countOf") [.list (tokd xs), .tstr b.1 b.2] (.int ((xs.filter (·.1 == b.1)).length : Nat)) :=
  d_count pm.toPC xs (fun p => .tstr p.1 p.2) (.tstr b.1 b.2) _ fun x hx l hi hbb _ _ _ _ _ _ _ => Tx.isOrEq pm (Ex.var hi) (Ex.var hbb) (Ex.var hi) (Ex.var hbb) (h.1 x hx) (h.1 b hb) (h.2 x hx b hb)
end
end Mine

end
section
open PySem PySem.Calls PyProof.Rows PySem.W PySem.Spec PySem.SeqAt
namespace Mine
set_option Elab.async false
set_option maxRecDepth 100000
set_option linter.unusedVariables false
section
variable {C : Cx} {n : Nat} {sc : Scope} {l : Loc} {o : Option (String × List D)}
theorem S1.swap {x y : String} {p q tp pos : Pos} {k : Nat} {value : Expr} {d e : D} {Q : Out → Prop} (he : Ex C n sc l value (.tuple [d, e])) (hq : Q (.next (put x d (put y e l)) o)) (hx : sc.names.lookup (Str.ofString x) = some .local) (hy : sc.names.lookup (Str.ofString y) = some .local)
    (ho : ∀ z ds, o = some (z, ds) → x ≠ z) (ho' : ∀ z ds, o = some (z, ds) → y ≠ z)
    (hs : ∀ env, swapsWithSole [.Tuple [.Name (Str.ofString x) p, .Name (Str.ofString y) q] k tp] value pos.line env = pure false)
    (hw : ∀ env : Env, env.blockKind = .function → env.kindOf (Str.ofString x) = some .local → env.kindOf (Str.ofString y) = some .local → swappedStores [.Tuple [.Name (Str.ofString x) p, .Name (Str.ofString y) q] k tp] value env = pure (some [Str.ofString x, Str.ofString y])) :
    S1 C n sc l o (.Assign [.Tuple [.Name (Str.ofString x) p, .Name (Str.ofString y) q] k tp] value pos) Q := by
  intro A h₀ env P s a E B S
  have hkind : ∀ x, env.kindOf x = sc.names.lookup x := fun x => by unfold Env.kindOf; rw [E.scope]
  have hb : env.blockKind = .function := by unfold Env.blockKind; rw [E.scope, E.kind]; rfl
  refine Assign_Tuple_swapped (wpAny_mono (he A env _ s E B S.inv) (fun v s₁ ⟨k₁, r₁⟩ => ?_) fun _ _ x => x) (hs env) (hw env hb ((hkind _).trans hx) ((hkind _).trans hy))
  have S₁ := S.keeps (up k₁)
  cases r₁ with
  | @tuple t vs _ pt htup ra =>
    obtain ⟨vl⟩ := vs
    cases ra with
    | @cons u _ _ _ r1 ra =>
      cases ra with
      | @cons w _ _ _ r2 ra =>
        cases ra
        have hu : ∀ Q : List Value → Shared → Prop, (∀ h', Heap.ExtBut s₁.heap.objs.size s₁.heap h' → Q [u, w] { s₁ with heap := h' }) → wpAny (model C.prog C.w) A (unpackItems (.ref t) 2 none) Q NoE s₁ := fun Q hQ => unpackItems_tuple (items := ⟨[u, w]⟩) B.hand htup hQ
        refine hu _ fun h' he => ?_
        have hk : ∀ b o, s₁.heap.get? b = some o → h'.get? b = some o := fun b o e => he b o (fun q => by rw [q, get_size] at e; cases e) e
        have S' := S₁.keeps hk
        show wpAny _ _ (do holding [u] (bindName env (Str.ofString y) w); assignInOrder [bindName env (Str.ofString x)] [u]) _ _ _
        refine wpAny_bind (wpAny_holding (wpAny_bindName (store (s := { s₁ with heap := h' }) (E.scope ▸ E.kind) S' (.inl ((hkind _).trans hy)) ho' (r2.keeps hk) fun h₂ tk₂ S₂ k₂ => ?_)))
        show wpAny _ _ (do holding [] (bindName env (Str.ofString x) u); assignInOrder [] []) _ _ _
        have r1' : Rep (fun b => P b ∧ a ≠ some b) h₂ u d := (r1.keeps hk).mono (fun _ q => q) fun b o q e => k₂ b o (S'.mutNot q) e
        refine wpAny_bind (wpAny_holding (wpAny_bindName (store (s := { s₁ with heap := h₂, toks := tk₂ }) (E.scope ▸ E.kind) S₂ (.inl ((hkind _).trans hx)) ho r1' fun h₃ tk₃ S₃ k₃ => ?_)))
        exact wpAny_pure (Post.after (kbOf k₁) ⟨h₃, tk₃, rfl, (KB.of hk).trans (k₂.trans k₃), _, _, hq, S₃⟩)
end
section
variable {C : Cx}
theorem swapped2 {env : Env} {X Y : Str} {p q tp vp : Pos} {k kk : Nat} {Z : Str} {pz cp : Pos} {fn : Expr} {args : List Expr} {kws : List Keyword} (hb : env.blockKind = .function) (hx : env.kindOf X = some .local) (hy : env.kindOf Y = some .local) (hl : q.line = p.line) (hne : (X == Y) = false)
    : swappedStores [.Tuple [.Name X p, .Name Y q] k tp] (.Tuple [.Name Z pz, .Call fn args kws cp] kk vp) env = pure (some [X, Y]) := by
  unfold swappedStores
  have e : ([X, Y] : List Str).eraseDups.length = 2 := by
    have h2 : (Y == X) = false := by rw [beq_eq_false_iff_ne] at hne ⊢; exact Ne.symm hne
    simp [List.eraseDups_cons, h2]
  simp only [hb, List.filterMap_cons, List.filterMap_nil, hx, hy, List.head?_cons, Option.map_some, Option.getD_some, Expr.pos, hl]
  simp [e, foldedForSure, constantsAlone]
noncomputable def comm1 (p : Int × Int) : Int × Int := if p.2 = 0 then p else (p.2, p.1.fmod p.2)
noncomputable def comm (i : Nat) (a b : Int) : Int × Int := match i with | 0 => (a, b) | i + 1 => comm1 (comm i a b)
theorem d_common (pc : PC C) (a b : Int) : Def C 2 (Str.ofString "_law_common") [.int a, .int b] (.int (comm 6 a b).1) := by
  refine Def.of (f := f30) (xs := ["one", "two"]) pc.m30 ⟨rfl, rfl, rfl, by decide +kernel⟩ ?_ ?_
  · intro pm cd doc us hu
    match us, hu with
    | [u, v], _ => rfl
  · refine Sx.cons (Q₁ := fun x => ∃ l', x = .next l' none ∧ l' "one" = some (.int (comm 6 a b).1)) (S1.for (ExI.range1 (pc.blt (x := "range") (by simp) (by decide +kernel) (by kernel_rfl)) (Exs.cons Ex.int Exs.nil) (.name _ _) (by decide)) (fun i l o => o = none ∧ l "one" = some (.int (comm i a b).1) ∧ l "two" = some (.int (comm i a b).2)) ⟨rfl, rfl, rfl⟩ ?_ ?_) ?_ ?_
    · rintro i d l' o' hd ⟨rfl, h1, h2⟩
      refine ⟨_, .name (.inl (by decide +kernel)) (fun _ _ h => by cases h), ?_⟩
      have h1' : put "_" d l' "one" = some (.int (comm i a b).1) := by rw [put_ne _ _ (by decide)]; exact h1
      have h2' : put "_" d l' "two" = some (.int (comm i a b).2) := by rw [put_ne _ _ (by decide)]; exact h2
      refine Sx.cons (Q₁ := fun y => ∃ l₂, y = .next l₂ none ∧ l₂ "one" = some (.int (comm (i + 1) a b).1) ∧ l₂ "two" = some (.int (comm (i + 1) a b).2)) (S1.ite (Tx.cmp (Ex.var h2') Ex.int (o_ne _ _)) (fun hf => ?_) fun hf => ?_) ?_ ?_
      · have hne : (comm i a b).2 ≠ 0 := by simpa using hf
        refine Sx.cons (Q₁ := fun y => y = .next (put "one" (.int (comm i a b).2) (put "two" (.int ((comm i a b).1.fmod (comm i a b).2)) (put "_" d l'))) none) (S1.swap (Ex.tuple (Exs.cons (Ex.var h2') (Exs.cons (Ex.callD (Own.mk' pc.m20 (by decide +kernel)) (Exs.cons (Ex.var h1') (Exs.cons (Ex.var h2') Exs.nil)) (d_mod pc _ _ hne)) Exs.nil)) (Nat.le_of_ble_eq_true rfl)) rfl (by decide +kernel) (by decide +kernel) (fun _ _ h => by cases h) (fun _ _ h => by cases h) (fun _ => rfl) ?_) ?_ ?_
        · intro env hb hx hy
          exact swapped2 hb hx hy rfl (by decide +kernel)
        · rintro _ _ h
          cases h
          have hc : comm (i + 1) a b = ((comm i a b).2, (comm i a b).1.fmod (comm i a b).2) := by show comm1 _ = _; unfold comm1; rw [if_neg hne]
          refine Sx.nil ⟨_, rfl, ?_, ?_⟩
          · rw [put_same, hc]
          · rw [put_ne _ _ (by decide), put_same, hc]
        · intro _ h; cases h
      · have he : (comm i a b).2 = 0 := by simpa using hf
        have hc : comm (i + 1) a b = comm i a b := by show comm1 _ = _; unfold comm1; rw [if_pos he]
        exact Sx.nil ⟨_, rfl, by rw [hc]; exact h1', by rw [hc]; exact h2'⟩
      · rintro l₂ o₂ ⟨l₃, h, h1, h2⟩
        cases h
        exact Sx.nil ⟨rfl, h1, h2⟩
      · rintro d ⟨_, h, _⟩; cases h
    · rintro l' o' ⟨rfl, h1, _⟩
      exact ⟨_, rfl, h1⟩
    · rintro l' o' ⟨l₂, h, hc⟩
      cases h
      exact Sx.ret1 (Ex.var hc)
    · rintro d ⟨_, h, _⟩; cases h
end
end Mine

end
section
open PySem PySem.Calls PyProof.Rows PySem.W PySem.Spec PySem.SeqAt
namespace Mine
set_option Elab.async false
set_option maxRecDepth 100000
set_option linter.unusedVariables false
noncomputable def plainS : Str := Str.ofString " -!*+/0123456789ABCDEFGHIJKLMNOPQRSTUVWXYZabcdefghijklmnopqrstuvwxyz"
noncomputable def firstO (draw : Int) : Int := if draw.fmod 512 < 256 then draw.fmod 512 else ((plainS.cps.toList[(draw.fmod 68).toNat]?.getD 0 : Nat) : Int)
noncomputable def bump (acc : List Int) (c : Int) : Int := if acc.contains c then (c + 1).fmod 256 else c
noncomputable def bumps (acc : List Int) (c : Int) : Nat → Int
  | 0 => c
  | i + 1 => bump acc (bumps acc c i)
noncomputable def octs : List Int → List Int → List Int
  | acc, [] => acc
  | acc, d :: ds => octs (acc ++ [bumps acc (firstO d) 2]) ds
theorem octs_take : ∀ (ds acc : List Int) (i : Nat) (d : Int), ds[i]? = some d → octs acc (ds.take (i + 1)) = octs acc (ds.take i) ++ [bumps (octs acc (ds.take i)) (firstO d) 2]
  | e :: ds, acc, 0, d, h => by cases h; rfl
  | e :: ds, acc, i + 1, d, h => by
    rw [List.take_succ_cons, List.take_succ_cons, octs, octs]
    exact octs_take ds _ i d h
theorem octs_len : ∀ (ds acc : List Int), (octs acc ds).length = acc.length + ds.length
  | [], acc => rfl
  | d :: ds, acc => by rw [octs, octs_len ds, List.length_append, List.length_cons, List.length_cons, List.length_nil]; omega
theorem plain_at : ∀ k : Fin 68, plainS.cps.toList[k.1]? = some (plainS.cps.toList[k.1]?.getD 0) := by decide +kernel
section
variable {C : Cx}
theorem firstEx (pc : PC C) (draw : Int) {l : Loc} (h : l "draw" = some (.int draw)) (hp : l "plain" = some (.str plainS)) {p1 p2 p3 p4 p5 p6 p7 p8 p9 p10 p11 p12 p13 p14 p15 p16 : Pos} {k1 k2 k3 k4 : Nat} :
    Ex C 0 s27.1 l (.IfExp (.Compare (.BinOp (.Name (Str.ofString "draw") p1) .Mod (.Constant (.int 512) k1 p2) p3) [.Lt] [.Constant (.int 256) k2 p4] p5) (.BinOp (.Name (Str.ofString "draw") p6) .Mod (.Constant (.int 512) k3 p7) p8)
      (.Call (.Name (Str.ofString "ord") p9) [.Subscript (.Name (Str.ofString "plain") p10) (.BinOp (.Name (Str.ofString "draw") p11) .Mod (.Constant (.int 68) k4 p12) p13) p14] [] p15) p16) (.int (firstO draw)) := by
  refine Ex.ite (Tx.cmp (Ex.bin (Ex.var h) Ex.int (o_mod _ _ (by decide))) Ex.int (o_lt _ _)) (fun hc => ?_) fun hc => ?_
  · have hc' : draw.fmod 512 < 256 := by simpa using hc
    refine (Ex.bin (Ex.var h) Ex.int (o_mod _ _ (by decide))).to ?_
    unfold firstO; rw [if_pos hc']
  · have hc' : ¬ draw.fmod 512 < 256 := by simpa using hc
    have h1 : 0 ≤ draw.fmod 68 := Int.fmod_nonneg_of_pos _ (by decide)
    have h2 : draw.fmod 68 < 68 := Int.fmod_lt_of_pos _ (by decide)
    refine (Ex.callB (pc.blt (x := "ord") (by simp) (by decide +kernel) (by kernel_rfl)) (Exs.cons (Ex.idxS (Ex.var hp) (Ex.bin (Ex.var h) Ex.int (o_mod _ _ (by decide))) h1 (by omega) (plain_at ⟨(draw.fmod 68).toNat, by omega⟩)) Exs.nil) (c_ord _)).to ?_
    unfold firstO; rw [if_neg hc']
theorem d_octets (pc : PC C) (draws : List Int) (hz : draws.length ≤ 1000) : Def C 1 (Str.ofString "_law_octets") [.list (draws.map .int)] (.list ((octs [] draws).map .int)) := by
  refine Def.of (f := f27) (xs := ["draws"]) pc.m27 ⟨rfl, rfl, rfl, by decide +kernel⟩ ?_ ?_
  · intro pm cd doc us hu
    match us, hu with
    | [u], _ => rfl
  · refine Sx.step (S1.assign Ex.str rfl) ?_
    refine (Sx.grow (R := fun d => d = .list ((octs [] draws).map .int)) Exs.nil ?_ (Nat.le_of_ble_eq_true rfl)).mono fun x hx => ?_
    · refine Sx.cons (Q₁ := fun x => ∃ l', x = .next l' (some ("octets", (octs [] draws).map .int))) (S1.for (ExI.list (Ex.var (x := "draws") rfl) (.name _ _)) (fun i l o => o = some ("octets", (octs [] (draws.take i)).map .int) ∧ l "plain" = some (.str plainS)) ⟨rfl, rfl⟩ ?_ ?_) ?_ ?_
      · rintro i d l' o' hd ⟨rfl, hp⟩
        rw [List.getElem?_map] at hd
        obtain ⟨x, hx, rfl⟩ := Option.map_eq_some_iff.mp hd
        refine ⟨_, .name (.inl (by decide +kernel)) (fun _ _ h => by cases h; decide), ?_⟩
        generalize hacc : octs [] (draws.take i) = acc
        refine Sx.step (S1.assign (firstEx pc x (put_same _ _ _) (by rw [put_ne _ _ (by decide)]; exact hp)) rfl) ?_
        generalize hl : put "octet" (.int (firstO x)) (put "draw" (.int x) l') = l₁
        have e1 : l₁ "octet" = some (.int (bumps acc (firstO x) 0)) := by rw [← hl, put_same]; rfl
        have e2 : l₁ "plain" = some (.str plainS) := by rw [← hl, put_ne _ _ (by decide), put_ne _ _ (by decide)]; exact hp
        clear hl
        refine Sx.cons (Q₁ := fun y => ∃ l₂, y = .next l₂ (some ("octets", acc.map .int)) ∧ l₂ "octet" = some (.int (bumps acc (firstO x) 2)) ∧ l₂ "plain" = some (.str plainS)) (S1.for (ExI.range1 (pc.blt (x := "range") (by simp) (by decide +kernel) (by kernel_rfl)) (Exs.cons Ex.int Exs.nil) (.name _ _) (by decide)) (fun j l o => o = some ("octets", acc.map .int) ∧ l "octet" = some (.int (bumps acc (firstO x) j)) ∧ l "plain" = some (.str plainS)) ⟨rfl, e1, e2⟩ ?_ ?_) ?_ ?_
        · rintro j d l₂ o₂ hd ⟨rfl, h1, h2⟩
          refine ⟨_, .name (.inl (by decide +kernel)) (fun _ _ h => by cases h; decide), ?_⟩
          have h1' : put "_" d l₂ "octet" = some (.int (bumps acc (firstO x) j)) := by rw [put_ne _ _ (by decide)]; exact h1
          have h2' : put "_" d l₂ "plain" = some (.str plainS) := by rw [put_ne _ _ (by decide)]; exact h2
          have h1f : fz (put "_" d l₂) (some ("octets", acc.map .int)) "octet" = some (.int (bumps acc (firstO x) j)) := by show put _ _ _ _ = _; rw [put_ne _ _ (by decide)]; exact h1'
          refine Sx.cons (Q₁ := fun y => ∃ l₃, y = .next l₃ (some ("octets", acc.map .int)) ∧ l₃ "octet" = some (.int (bumps acc (firstO x) (j + 1))) ∧ l₃ "plain" = some (.str plainS)) (S1.iteF (Tx.cmp (Ex.var h1f) (Ex.var (put_same _ _ _)) (o_ini _ _)) (fun hf => ?_) fun hf => ?_) ?_ ?_
          · refine Sx.step (S1.assign (Ex.bin (Ex.bin (Ex.var h1') Ex.int (o_add _ _)) Ex.int (o_mod _ _ (by decide))) rfl) (Sx.nil ⟨_, rfl, ?_, ?_⟩)
            · rw [put_same]; show _ = some (D.int (bump acc (bumps acc (firstO x) j))); unfold bump; rw [if_pos hf]
            · rw [put_ne _ _ (by decide)]; exact h2'
          · refine Sx.nil ⟨_, rfl, ?_, h2'⟩
            rw [h1']; show _ = some (D.int (bump acc (bumps acc (firstO x) j))); unfold bump; rw [if_neg (by rw [hf]; decide)]
          · rintro l₃ o₃ ⟨l₄, h, h3, h4⟩
            cases h
            exact Sx.nil ⟨rfl, h3, h4⟩
          · rintro d ⟨_, h, _⟩; cases h
        · rintro l₂ o₂ ⟨rfl, h1, h2⟩
          exact ⟨_, rfl, h1, h2⟩
        · rintro l₂ o₂ ⟨l₃, h, h1, h2⟩
          cases h
          have hlen : acc.length ≤ 1000 := by
            have := octs_len (draws.take i) []
            rw [hacc, List.length_take] at this
            simp only [List.length_nil] at this
            omega
          refine Sx.step (S1.append (by rw [List.length_map]; omega) (Ex.var h1) rfl) (Sx.nil ⟨?_, h2⟩)
          rw [octs_take draws [] i x hx, hacc, List.map_append]
          rfl
        · rintro d ⟨_, h, _⟩; cases h
      · rintro l' o' ⟨rfl, _⟩
        exact ⟨l', by rw [List.length_map, List.take_length]⟩
      · rintro l' o' ⟨l₂, h⟩
        cases h
        exact Sx.cons (Q₁ := fun x => x = .ret (.list ((octs [] draws).map .int))) (S1.retF (Ex.var (put_same _ _ _)) rfl) (fun _ _ h => by cases h) fun d h => by cases h; rfl
      · rintro d ⟨_, h⟩; cases h
    · cases x with
      | next l o => exact hx.elim
      | ret d => rw [show d = _ from hx]
end
end Mine

end
section
open PySem PySem.Calls PyProof.Rows PySem.W PySem.Spec PySem.SeqAt
namespace Mine
set_option Elab.async false
set_option maxRecDepth 100000
set_option linter.unusedVariables false
theorem Block.mk' {scope sc : Scope} {fr : List String} {l : Loc} (hk : scope.kind = .function) (h1 : (scope.names.all fun x => x.2 != .free || fr.any fun y => x.1 == Str.ofString y) = true)
    (h2 : (fr.all fun y => scope.names.lookup (Str.ofString y) == some .free && (sc.names.lookup (Str.ofString y) == some .cell || sc.names.lookup (Str.ofString y) == some .free)) = true)
    (h3 : (scope.names.all fun x => scope.names.lookup x.1 == some x.2) = true) (hl : ∀ y ∈ fr, (l y).isSome = true) : Block scope sc fr l := by
  refine ⟨hk, fun x hx hf => ?_, fun y hy => ?_, fun x hx => ?_⟩
  · have := List.all_eq_true.mp h1 x hx
    rw [hf] at this
    obtain ⟨y, hy, e⟩ : ∃ y, y ∈ fr ∧ x.1 = Str.ofString y := by simpa using this
    exact ⟨y, hy, e⟩
  · have := List.all_eq_true.mp h2 y hy
    simp only [Bool.and_eq_true, Bool.or_eq_true, beq_iff_eq] at this
    exact ⟨this.1, this.2, hl y hy⟩
  · exact beq_iff_eq.mp (List.all_eq_true.mp h3 x hx)
theorem cap_in {fr : List String} {l : Loc} {x : String} {d : D} (h : x ∈ fr) (hl : l x = some d) : capOf fr l x = some d := by unfold capOf; rw [if_pos h, hl]
theorem cap_out {fr : List String} {l : Loc} {x : String} (h : x ∉ fr) : capOf fr l x = none := by unfold capOf; rw [if_neg h]

noncomputable abbrev Row := List Int × Str
noncomputable def RowD (r : Row) : D := .tuple [.list (r.1.map .int), .str r.2]
noncomputable abbrev Code := Int × Str
noncomputable def CodeD (c : Code) : D := .tuple [.int c.1, .str c.2]
noncomputable def nextR (codes : List Code) (room : Nat) (last : List Row) : List Row := last.flatMap fun r => codes.flatMap fun c => if (r.2 ++ c.2).length ≤ room then [(r.1 ++ [c.1], r.2 ++ c.2)] else []
noncomputable def lastR (codes : List Code) (room : Nat) : Nat → List Row
  | 0 => [([], Str.ofString "")]
  | i + 1 => nextR codes room (lastR codes room i)
noncomputable def foundR (codes : List Code) (room : Nat) : Nat → List Row
  | 0 => lastR codes room 0
  | i + 1 => foundR codes room i ++ lastR codes room (i + 1)
noncomputable def gIn (row : List D) (signs : Str) (room : Nat) : D → List D
  | .tuple [.int c, .str s] => if (signs ++ s).length ≤ room then [.tuple [.list (row ++ [.int c]), .str (signs ++ s)]] else []
  | _ => []
noncomputable def gOut (codes : List Code) (room : Nat) : D → List D
  | .tuple [.list row, .str signs] => (codes.map CodeD).flatMap (gIn row signs room)
  | _ => []
theorem gOut_eq (codes : List Code) (room : Nat) (last : List Row) : (last.map RowD).flatMap (gOut codes room) = (nextR codes room last).map RowD := by
  unfold nextR
  rw [List.map_flatMap, List.flatMap_map]
  congr 1
  funext r
  show (codes.map CodeD).flatMap (gIn (r.1.map .int) r.2 room) = _
  rw [List.map_flatMap, List.flatMap_map]
  congr 1
  funext c
  show (if (r.2 ++ c.2).length ≤ room then _ else _) = _
  split
  · simp [RowD]
  · rfl
theorem sign_le (codes : List Code) (room : Nat) : ∀ i, ∀ r ∈ lastR codes room i, r.2.length ≤ room ∧ r.1.length ≤ i
  | 0, r, h => by
    rw [show lastR codes room 0 = [([], Str.ofString "")] from rfl] at h
    rw [List.mem_singleton.mp h]
    exact ⟨Nat.zero_le _, Nat.zero_le _⟩
  | i + 1, r, h => by
    rw [show lastR codes room (i + 1) = nextR codes room (lastR codes room i) from rfl] at h
    unfold nextR at h
    obtain ⟨r', hr', h⟩ := List.mem_flatMap.mp h
    obtain ⟨c, hc, h⟩ := List.mem_flatMap.mp h
    have := sign_le codes room i r' hr'
    split at h
    · rename_i hle
      rw [List.mem_singleton.mp h]
      refine ⟨hle, ?_⟩
      simp only [List.length_append, List.length_cons, List.length_nil]
      omega
    · simp at h
section
variable {C : Cx}
theorem d_rows (pc : PC C) (codes : List Code) (room : Nat) (hroom : room ≤ 100) (hcode : ∀ c ∈ codes, c.2.length ≤ 100) (hz : ∀ i, i ≤ room → (lastR codes room i).length ≤ 5000 ∧ (foundR codes room i).length ≤ 5000) :
    Def C 1 (Str.ofString "_law_rows") [.list (codes.map CodeD), .int room] (.list ((foundR codes room room).map RowD)) := by
  refine Def.of (f := f28) (xs := ["codes", "room"]) pc.m28 ⟨rfl, rfl, rfl, by decide +kernel⟩ ?_ ?_
  · intro pm cd doc us hu
    match us, hu with
    | [u, v], _ => rfl
  · have e0 : Ex C 0 s28.1 (argL ["codes", "room"] [.list (codes.map CodeD), .int room] none_) (.List [.Tuple [.List [] ⟨67, 14, 67, 16⟩, .Constant (.str (Str.ofString "")) 0 ⟨67, 18, 67, 20⟩] 0 ⟨67, 13, 67, 21⟩] ⟨67, 12, 67, 22⟩) (.list ((lastR codes room 0).map RowD)) :=
      Ex.list (Exs.cons (Ex.tuple (Exs.cons (Ex.list Exs.nil (Nat.le_of_ble_eq_true rfl)) (Exs.cons Ex.str Exs.nil)) (Nat.le_of_ble_eq_true rfl)) Exs.nil) (Nat.le_of_ble_eq_true rfl)
    refine Sx.step (S1.assign e0 rfl) (Sx.step (S1.assign (Ex.var (put_same _ _ _)) rfl) ?_)
    generalize hl : put "last" (.list ((lastR codes room 0).map RowD)) (put "found" (.list ((lastR codes room 0).map RowD)) (argL ["codes", "room"] [.list (codes.map CodeD), .int room] none_)) = l₀
    have a1 : l₀ "last" = some (.list ((lastR codes room 0).map RowD)) := by rw [← hl, put_same]
    have a2 : l₀ "found" = some (.list ((foundR codes room 0).map RowD)) := by rw [← hl, put_ne _ _ (by decide), put_same]; rfl
    have a3 : l₀ "codes" = some (.list (codes.map CodeD)) := by rw [← hl]; rfl
    have a4 : l₀ "room" = some (.int room) := by rw [← hl]; rfl
    clear hl e0
    refine Sx.cons (Q₁ := fun x => ∃ l', x = .next l' none ∧ l' "found" = some (.list ((foundR codes room room).map RowD))) (S1.for (ExI.range1 (pc.blt (x := "range") (by simp) (by decide +kernel) (by kernel_rfl)) (Exs.cons (Ex.var a4) Exs.nil) (.name _ _) (by omega)) (fun i l o => o = none ∧ l "last" = some (.list ((lastR codes room i).map RowD)) ∧ l "found" = some (.list ((foundR codes room i).map RowD)) ∧ l "codes" = some (.list (codes.map CodeD)) ∧ l "room" = some (.int room)) ⟨rfl, a1, a2, a3, a4⟩ ?_ ?_) ?_ ?_
    · rintro i d l' o' hd ⟨rfl, b1, b2, b3, b4⟩
      refine ⟨_, .name (.inl (by decide +kernel)) (fun _ _ h => by cases h), ?_⟩
      have hi : i < room := by have := (rangeD_get hd).2; omega
      have c1 : put "_" d l' "last" = some (.list ((lastR codes room i).map RowD)) := by rw [put_ne _ _ (by decide)]; exact b1
      have c2 : put "_" d l' "found" = some (.list ((foundR codes room i).map RowD)) := by rw [put_ne _ _ (by decide)]; exact b2
      have c3 : put "_" d l' "codes" = some (.list (codes.map CodeD)) := by rw [put_ne _ _ (by decide)]; exact b3
      have c4 : put "_" d l' "room" = some (.int room) := by rw [put_ne _ _ (by decide)]; exact b4
      generalize put "_" d l' = l₁ at c1 c2 c3 c4
      have hcap : ∀ y ∈ ["codes", "room"], (l₁ y).isSome = true := by
        intro y hy
        simp only [List.mem_cons, List.not_mem_nil, or_false] at hy
        rcases hy with rfl | rfl
        · rw [c3]; rfl
        · rw [c4]; rfl
      have z1 := hz (i + 1) hi
      have z0 := hz i (Nat.le_of_lt hi)
      refine Sx.step (S1.assignComp (ys := (lastR codes room (i + 1)).map RowD) (fr := ["codes", "room"]) (g := gOut codes room) compE2 (ExI.list (Ex.var c1) (.pair _ _ _)) (Block.mk' rfl (by decide +kernel) (by decide +kernel) (by decide +kernel) hcap) ?_ (gOut_eq _ _ _) (by rw [List.length_map]; omega) rfl (by decide +kernel) (fun _ _ h => by cases h) (by decide +kernel)) ?_
      · intro d' hd'
        obtain ⟨r, hr, rfl⟩ := List.mem_map.mp hd'
        have hsg := sign_le codes room i r hr
        refine ⟨_, true, .pair (by decide +kernel) (by decide +kernel) (cap_out (by decide)) (cap_out (by decide)) (by decide), .nil, (fun h => by cases h), fun _ => ?_⟩
        have u1 : put "signs" (.str r.2) (put "row" (.list (r.1.map .int)) (capOf ["codes", "room"] l₁)) "codes" = some (.list (codes.map CodeD)) := by rw [put_ne _ _ (by decide), put_ne _ _ (by decide)]; exact cap_in (by simp) c3
        have u2 : put "signs" (.str r.2) (put "row" (.list (r.1.map .int)) (capOf ["codes", "room"] l₁)) "room" = some (.int room) := by rw [put_ne _ _ (by decide), put_ne _ _ (by decide)]; exact cap_in (by simp) c4
        have u3 : put "signs" (.str r.2) (put "row" (.list (r.1.map .int)) (capOf ["codes", "room"] l₁)) "row" = some (.list (r.1.map .int)) := by rw [put_ne _ _ (by decide), put_same]
        have u4 : put "signs" (.str r.2) (put "row" (.list (r.1.map .int)) (capOf ["codes", "room"] l₁)) "signs" = some (.str r.2) := by rw [put_same]
        have u5 : put "signs" (.str r.2) (put "row" (.list (r.1.map .int)) (capOf ["codes", "room"] l₁)) "octet" = none := by rw [put_ne _ _ (by decide), put_ne _ _ (by decide)]; exact cap_out (by decide)
        have u6 : put "signs" (.str r.2) (put "row" (.list (r.1.map .int)) (capOf ["codes", "room"] l₁)) "code" = none := by rw [put_ne _ _ (by decide), put_ne _ _ (by decide)]; exact cap_out (by decide)
        generalize put "signs" (.str r.2) (put "row" (.list (r.1.map .int)) (capOf ["codes", "room"] l₁)) = l₂ at u1 u2 u3 u4 u5 u6
        refine BodyOk.clause (g := gIn (r.1.map .int) r.2 room) (ExI.list (Ex.var u1) (.pair _ _ _)) fun d'' hd'' => ?_
        obtain ⟨c, hc, rfl⟩ := List.mem_map.mp hd''
        have hcl := hcode c hc
        have w1 : put "code" (.str c.2) (put "octet" (.int c.1) l₂) "room" = some (.int room) := by rw [put_ne _ _ (by decide), put_ne _ _ (by decide)]; exact u2
        have w2 : put "code" (.str c.2) (put "octet" (.int c.1) l₂) "row" = some (.list (r.1.map .int)) := by rw [put_ne _ _ (by decide), put_ne _ _ (by decide)]; exact u3
        have w3 : put "code" (.str c.2) (put "octet" (.int c.1) l₂) "signs" = some (.str r.2) := by rw [put_ne _ _ (by decide), put_ne _ _ (by decide)]; exact u4
        have w4 : put "code" (.str c.2) (put "octet" (.int c.1) l₂) "octet" = some (.int c.1) := by rw [put_ne _ _ (by decide), put_same]
        have w5 : put "code" (.str c.2) (put "octet" (.int c.1) l₂) "code" = some (.str c.2) := by rw [put_same]
        have hsum : (r.2 ++ c.2).length = r.2.length + c.2.length := strLen_append _ _
        refine ⟨_, decide (((r.2 ++ c.2).length : Int) ≤ room), .pair (by decide +kernel) (by decide +kernel) u5 u6 (by decide), .one (Tx.cmp (Ex.callB (pc.blt (x := "len") (by simp) (by decide +kernel) (by kernel_rfl)) (Exs.cons (Ex.bin (Ex.var w3) (Ex.var w5) (o_cat _ _ (by omega))) Exs.nil) (c_lens _ (by omega))) (Ex.var w1) (o_le _ _)), (fun h => ?_), fun h => ?_⟩
        · have h' : ¬ (r.2 ++ c.2).length ≤ room := by have := of_decide_eq_false h; omega
          show (if (r.2 ++ c.2).length ≤ room then _ else _) = _
          rw [if_neg h']
        · have h' : (r.2 ++ c.2).length ≤ room := by have := of_decide_eq_true h; omega
          have e : gIn (r.1.map .int) r.2 room (CodeD c) = [.tuple [.list (r.1.map .int ++ [.int c.1]), .str (r.2 ++ c.2)]] := by
            show (if (r.2 ++ c.2).length ≤ room then _ else _) = _
            rw [if_pos h']
          rw [e]
          exact BodyOk.emit (Ex.tuple (Exs.cons (Ex.bin (Ex.var w2) (Ex.list (Exs.cons (Ex.var w4) Exs.nil) (Nat.le_of_ble_eq_true rfl)) (o_lcat _ _ (by simp only [List.length_map, List.length_cons, List.length_nil]; omega))) (Exs.cons (Ex.bin (Ex.var w3) (Ex.var w5) (o_cat _ _ (by omega))) Exs.nil)) (Nat.le_of_ble_eq_true rfl))
      · refine Sx.step (S1.assign (Ex.bin (Ex.var (x := "found") (by rw [put_ne _ _ (by decide)]; exact c2)) (Ex.var (x := "last") (put_same _ _ _)) (o_lcat _ _ (by simp only [List.length_map]; omega))) rfl) (Sx.nil ⟨rfl, ?_, ?_, ?_, ?_⟩)
        · rw [put_ne _ _ (by decide), put_same]
        · rw [put_same, ← List.map_append]; rfl
        · rw [put_ne _ _ (by decide), put_ne _ _ (by decide)]; exact c3
        · rw [put_ne _ _ (by decide), put_ne _ _ (by decide)]; exact c4
    · rintro l' o' ⟨rfl, _, b2, _⟩
      refine ⟨l', rfl, ?_⟩
      have e : (rangeD 0 (room : Int)).length = room := by unfold rangeD; simp
      rw [e] at b2
      exact b2
    · rintro l' o' ⟨l₂, h, hc⟩
      cases h
      exact Sx.ret1 (Ex.var hc)
    · rintro d ⟨_, h, _⟩; cases h
end
end Mine

end
section
open PySem PySem.Calls PyProof.Rows PySem.W PySem.Spec PySem.SeqAt
namespace Mine
set_option Elab.async false
set_option maxRecDepth 100000
set_option linter.unusedVariables false
noncomputable def turn (x : Str) (p : Nat) : Str := ⟨(x.cps.toList.drop p ++ x.cps.toList.take p).toArray⟩
noncomputable def lessS (x y : Str) : Bool := decide (x.cps.toList < y.cps.toList)
noncomputable def leastUp (x : Str) : Nat → Str
  | 0 => x
  | i + 1 => if lessS (turn x (i + 1)) (leastUp x i) then turn x (i + 1) else leastUp x i
noncomputable def ringOf (x : Str) : Str := leastUp x (x.length - 1)
theorem str_app (a b : List Nat) : (⟨a.toArray⟩ : Str) ++ ⟨b.toArray⟩ = ⟨(a ++ b).toArray⟩ := by
  show Str.append _ _ = _
  simp [Str.append]
theorem turn_len (x : Str) (p : Nat) (h : p ≤ x.length) : (turn x p).length = x.length := by
  show (List.toArray _).size = _
  have h' : p ≤ x.cps.toList.length := by rw [Array.length_toList]; exact h
  rw [List.size_toArray, List.length_append, List.length_drop, List.length_take]
  have : x.cps.toList.length = x.length := Array.length_toList
  omega
theorem leastUp_len (x : Str) : ∀ i, i < x.length → (leastUp x i).length = x.length
  | 0, _ => rfl
  | i + 1, h => by
    unfold leastUp
    split
    · exact turn_len x _ (by omega)
    · exact leastUp_len x i (by omega)
section
variable {C : Cx}
theorem DefR.weak {n k : Nat} {x : Str} {as : List D} {R R' : D → Nat → Prop} (h : DefR C n k x as R) (hr : ∀ d k', R d k' → R' d k') : DefR C n k x as R' :=
  fun A P s us a ha B K hp r hk => wpAny_mono (h A P s us a ha B K hp r hk) (fun _ _ ⟨kk, d, hd, rr⟩ => ⟨kk, d, hr _ _ hd, rr⟩) fun _ _ x => x
/-- the same text with its own token, or a new one -/
noncomputable def Kept (k : Nat) (x : Str) (t : Nat) (y : Str) (d : D) (k' : Nat) : Prop := k ≤ k' ∧ ∃ u, d = .tstr y u ∧ ((u = t ∧ y = x) ∨ (k ≤ u ∧ u < k'))
theorem r_ring (pc : PC C) (x : Str) (t : Nat) (k : Nat) (hx : x.length ≠ 0) (hz : x.length ≤ 1000) : DefR C 2 k (Str.ofString "_law_ring") [.tstr x t] (Kept k x t (ringOf x)) := by
  refine DefR.of (f := f29) (xs := ["word"]) pc.m29 ⟨rfl, rfl, rfl, by decide +kernel⟩ ?_ ?_
  · intro pm cd doc us hu
    match us, hu with
    | [u], _ => rfl
  · refine SxT.step (S1.assign (Ex.var (x := "word") rfl) rfl) fun k₀ hk₀ => ?_
    have hlen : (rangeD 1 (x.length : Int)).length = x.length - 1 := by unfold rangeD; simp
    refine SxT.cons (R₁ := fun y k' => ∃ l' u, y = .next l' none ∧ l' "least" = some (.tstr (ringOf x) u) ∧ ((u = t ∧ ringOf x = x) ∨ (k ≤ u ∧ u < k')))
      (S1T.for (ExI.range2 (pc.blt (x := "range") (by simp) (by decide +kernel) (by kernel_rfl)) (Exs.cons Ex.int (Exs.cons (Ex.callB (pc.blt (x := "len") (by simp) (by decide +kernel) (by kernel_rfl)) (Exs.cons (Ex.forget (Ex.var (x := "word") (d := .tstr x t) rfl)) Exs.nil) (c_lens x (by omega))) Exs.nil)) (.name _ _) (by decide) (by omega))
        (fun i l o k' => o = none ∧ l "word" = some (.tstr x t) ∧ ∃ u, l "least" = some (.tstr (leastUp x i) u) ∧ ((u = t ∧ leastUp x i = x) ∨ (k ≤ u ∧ u < k'))) ⟨rfl, rfl, t, rfl, .inl ⟨rfl, rfl⟩⟩ ?_ ?_ ?_) ?_ ?_
    · rintro i l o k₁ k₂ ⟨h1, h2, u, h3, h4⟩ hk
      exact ⟨h1, h2, u, h3, h4.imp id fun ⟨a, b⟩ => ⟨a, Nat.lt_of_lt_of_le b hk⟩⟩
    · rintro i d l' o' k' hd ⟨rfl, h1, u, h2, h3⟩ hk'
      obtain ⟨rfl, hi⟩ := rangeD_get hd
      refine ⟨_, .name (.inl (by decide +kernel)) (fun _ _ h => by cases h), ?_⟩
      have c1 : put "place" (.int (1 + (i : Int))) l' "word" = some (.tstr x t) := by rw [put_ne _ _ (by decide)]; exact h1
      have c2 : put "place" (.int (1 + (i : Int))) l' "least" = some (.tstr (leastUp x i) u) := by rw [put_ne _ _ (by decide)]; exact h2
      have c3 : put "place" (.int (1 + (i : Int))) l' "place" = some (.int (((i + 1 : Nat)) : Int)) := by rw [put_same]; congr 2; omega
      generalize put "place" (.int (1 + (i : Int))) l' = l₁ at c1 c2 c3
      have hxl : x.cps.toList.length = x.length := Array.length_toList
      have hdl : (⟨(x.cps.toList.drop (i + 1)).toArray⟩ : Str).length = x.length - (i + 1) := by show (List.toArray _).size = _; rw [List.size_toArray, List.length_drop, hxl]
      have htl : (⟨(x.cps.toList.take (i + 1)).toArray⟩ : Str).length = min (i + 1) x.length := by show (List.toArray _).size = _; rw [List.size_toArray, List.length_take, hxl]
      have a1 : Ex C 1 s29.1 l₁ (.Subscript (.Name (Str.ofString "word") ⟨76, 24, 76, 28⟩) (.Slice (some (.Name (Str.ofString "place") ⟨76, 29, 76, 34⟩)) none none ⟨76, 29, 76, 35⟩) ⟨76, 24, 76, 36⟩) (.str ⟨(x.cps.toList.drop (i + 1)).toArray⟩) := by
        rw [← cut_from]; exact Ex.sliceS (a := some ((i + 1 : Nat) : Int)) (b := none) (Ex.forget (Ex.var c1)) (Ex.var c3) trivial (by omega)
      have a2 : Ex C 1 s29.1 l₁ (.Subscript (.Name (Str.ofString "word") ⟨76, 38, 76, 42⟩) (.Slice none (some (.Name (Str.ofString "place") ⟨76, 44, 76, 49⟩)) none ⟨76, 43, 76, 49⟩) ⟨76, 38, 76, 50⟩) (.str ⟨(x.cps.toList.take (i + 1)).toArray⟩) := by
        rw [← cut_upto]; exact Ex.sliceS (a := none) (b := some ((i + 1 : Nat) : Int)) (Ex.forget (Ex.var c1)) trivial (Ex.var c3) (by omega)
      refine SxT.cons (R₁ := fun y k'' => ∃ v, y = .next (put "turned" (.tstr (turn x (i + 1)) v) l₁) none ∧ k ≤ v ∧ v < k'') (S1T.assign (R := Fresh k' (turn x (i + 1))) (ExR.callD (Own.mk' pc.m22 (by decide +kernel)) (Exs.cons a1 (Exs.cons a2 Exs.nil)) fun k'' hk'' => ?_) ?_) ?_ ?_
      · refine (r_concat pc _ _ k'' (by omega) (by omega) (by omega)).weak ?_
        rintro d k₃ ⟨v, rfl, h5, h6⟩
        exact ⟨v, by rw [str_app]; rfl, Nat.le_trans hk'' h5, h6⟩
      · rintro d k₂ k₃ ⟨v, rfl, h5, h6⟩ h7
        exact ⟨v, rfl, by omega, by omega⟩
      · rintro l₂ o₂ k₂ ⟨v, h, hv1, hv2⟩ hk₂
        cases h
        have e1 : put "turned" (.tstr (turn x (i + 1)) v) l₁ "turned" = some (.tstr (turn x (i + 1)) v) := put_same _ _ _
        have e2 : put "turned" (.tstr (turn x (i + 1)) v) l₁ "least" = some (.tstr (leastUp x i) u) := by rw [put_ne _ _ (by decide)]; exact c2
        have e3 : put "turned" (.tstr (turn x (i + 1)) v) l₁ "word" = some (.tstr x t) := by rw [put_ne _ _ (by decide)]; exact c1
        generalize put "turned" (.tstr (turn x (i + 1)) v) l₁ = l₂ at e1 e2 e3
        refine (Sx.cons (Q₁ := fun y => ∃ l₃, y = .next l₃ none ∧ l₃ "word" = some (.tstr x t) ∧ ((lessS (turn x (i + 1)) (leastUp x i) = true ∧ l₃ "least" = some (.tstr (turn x (i + 1)) v)) ∨ (lessS (turn x (i + 1)) (leastUp x i) = false ∧ l₃ "least" = some (.tstr (leastUp x i) u))))
          (S1.ite (Tx.cmp (Ex.callD (Own.mk' pc.m17 (by decide +kernel)) (Exs.cons (Ex.forget (Ex.var e1)) (Exs.cons (Ex.forget (Ex.var e2)) Exs.nil)) (d_lt pc _ _)) Ex.bool (o_is _ _)) (fun hf => ?_) fun hf => ?_) (Q := fun y => ∃ l₃, y = .next l₃ none ∧ l₃ "word" = some (.tstr x t) ∧ ((lessS (turn x (i + 1)) (leastUp x i) = true ∧ l₃ "least" = some (.tstr (turn x (i + 1)) v)) ∨ (lessS (turn x (i + 1)) (leastUp x i) = false ∧ l₃ "least" = some (.tstr (leastUp x i) u)))) ?_ ?_).T ?_
        · refine Sx.step (S1.assign (Ex.var e1) rfl) (Sx.nil ⟨_, rfl, by rw [put_ne _ _ (by decide)]; exact e3, .inl ⟨?_, put_same _ _ _⟩⟩)
          have := beq_iff_eq.mp hf; exact this
        · refine Sx.nil ⟨_, rfl, e3, .inr ⟨?_, e2⟩⟩
          have := beq_eq_false_iff_ne.mp hf
          unfold lessS
          simpa using this
        · rintro l₃ o₃ ⟨l₄, h, h5⟩
          cases h
          exact Sx.nil ⟨_, rfl, h5⟩
        · rintro d ⟨_, h, _⟩; cases h
        · rintro y k₃ ⟨l₃, rfl, h5, h6⟩ hk₃
          refine ⟨rfl, h5, ?_⟩
          rcases h6 with ⟨h6, h7⟩ | ⟨h6, h7⟩
          · refine ⟨v, ?_, .inr ⟨hv1, by omega⟩⟩
            rw [h7]; unfold leastUp; rw [if_pos h6]
          · have e : leastUp x (i + 1) = leastUp x i := by conv => lhs; unfold leastUp; rw [if_neg (by rw [h6]; decide)]
            refine ⟨u, ?_, ?_⟩
            · rw [h7, e]
            · rw [e]; exact h3.imp id fun ⟨a, b⟩ => ⟨a, by omega⟩
      · rintro d k₂ ⟨_, h, _⟩; cases h
    · rintro l' o' k' ⟨rfl, _, u, h2, h3⟩ _
      rw [hlen] at h2 h3
      exact ⟨l', u, rfl, h2, h3⟩
    · rintro l' o' k' ⟨l₂, u, h, h2, h3⟩ hk'
      cases h
      refine (SxT.ret1 (Ex.R (Ex.var h2) fun k'' hk'' => (⟨by omega, u, rfl, h3.imp id fun ⟨a, b⟩ => ⟨a, by omega⟩⟩ : Kept k x t (ringOf x) _ _))).mono fun _ _ h _ => h
    · rintro d k' ⟨_, _, h, _⟩; cases h
end
end Mine

end
section
open PySem PySem.Calls PyProof.Rows PySem.W PySem.Spec PySem.SeqAt
namespace Mine
set_option Elab.async false
set_option maxRecDepth 100000
set_option linter.unusedVariables false
noncomputable def minTurn (size : Nat) (x : Str) : Str := bestS ((List.range size).map (turn x))
noncomputable def rot (r : List Int) (p : Nat) : List Int := r.drop p ++ r.take p
noncomputable def per (r : List Int) : Nat := (((List.range r.length).map (· + 1)).filter fun p => decide (rot r p = r)).headD 0
noncomputable def uniqs : List Str → List Str → List Str
  | acc, [] => acc
  | acc, y :: ys => uniqs (if acc.contains y then acc else acc ++ [y]) ys
theorem uniqs_take : ∀ (ys acc : List Str) (i : Nat) (y : Str), ys[i]? = some y → uniqs acc (ys.take (i + 1)) = if (uniqs acc (ys.take i)).contains y then uniqs acc (ys.take i) else uniqs acc (ys.take i) ++ [y]
  | z :: ys, acc, 0, y, h => by cases h; rfl
  | z :: ys, acc, i + 1, y, h => by
    rw [List.take_succ_cons, List.take_succ_cons, uniqs, uniqs]
    exact uniqs_take ys _ i y h
theorem uniqs_len : ∀ (ys acc : List Str), (uniqs acc ys).length ≤ acc.length + ys.length
  | [], acc => Nat.le_refl _
  | y :: ys, acc => by
    rw [uniqs]
    have := uniqs_len ys (if acc.contains y then acc else acc ++ [y])
    have h2 : (if acc.contains y = true then acc else acc ++ [y]).length ≤ acc.length + 1 := by split <;> simp
    simp only [List.length_cons]
    omega
noncomputable def rowsD (rs : List (List Int)) : List D := rs.map fun r => .list (r.map .int)
noncomputable def walkAt (walks : List Int) (size i : Nat) : Int := walks.getD (comm 6 ((i + 1 : Nat) : Int) size).1.toNat 0
structure KeptOk (size : Nat) (rs : List (List Int)) (ws : List (Str × Nat)) (walks : List Int) (k : Nat) : Prop where
  sz : 1 ≤ size ∧ size ≤ 100
  wl : walks.length = size + 1
  len : ws.length = rs.length
  wlen : ∀ w ∈ ws, w.1.length = size
  rlen : ∀ r ∈ rs, 1 ≤ r.length ∧ r.length ≤ 100
  told : Told ws
  low : ∀ w ∈ ws, w.2 < k
  many : ws.length ≤ 5000
  ok : ∀ w ∈ ws, PyData.strOk (ringOf w.1) = true
  ring : ∀ w ∈ ws, ringOf w.1 = minTurn size w.1
  cnt : ∀ (j : Nat) (r : List Int) (w : Str × Nat), rs[j]? = some r → ws[j]? = some w → ((ws.map (ringOf ·.1)).filter (· == ringOf w.1)).length = per r
  burn : ∀ i, i < size → 0 ≤ (comm 6 ((i + 1 : Nat) : Int) size).1 ∧ (comm 6 ((i + 1 : Nat) : Int) size).1 ≤ size
  sum : (size : Int) * ((uniqs [] (ws.map (ringOf ·.1))).length : Nat) = ((List.range size).map (walkAt walks size)).sum

theorem tokd_get {xs : List (Str × Nat)} {i : Nat} {d : D} (h : (tokd xs)[i]? = some d) : ∃ p, xs[i]? = some p ∧ d = .tstr p.1 p.2 := by
  unfold tokd at h
  rw [List.getElem?_map] at h
  obtain ⟨p, h1, h2⟩ := Option.map_eq_some_iff.mp h
  exact ⟨p, h1, h2.symm⟩
theorem untok_eq (xs : List (Str × Nat)) : untok xs = (xs.map (·.1)).map .str := by unfold untok; rw [List.map_map]; rfl
/-- what the rings' list holds behind i turns -/
noncomputable def RingsJ (ws : List (Str × Nat)) (k : Nat) (i : Nat) (ys : List D) (k' : Nat) : Prop :=
  ∃ rs, ys = tokd rs ∧ rs.map (·.1) = (ws.take i).map (ringOf ·.1) ∧ (∀ p ∈ rs, p.2 ≠ 0 ∧ (p.2 < k' ∨ p ∈ ws) ∧ (k ≤ p.2 ∨ p ∈ ws)) ∧ ∀ p ∈ rs, ∀ q ∈ rs, p.2 = q.2 → p.1 = q.1
section
variable {C : Cx}
theorem rings_block (pc : PC C) (ws : List (Str × Nat)) (k : Nat) (hk : k ≠ 0) (sc : Scope) (l : Loc) (hw : ∀ w ∈ ws, w.1.length ≠ 0 ∧ w.1.length ≤ 1000) (told : Told ws) (low : ∀ w ∈ ws, w.2 < k) (many : ws.length ≤ 5000) {scope : Scope}
    (hs1 : scope.names.lookup (Str.ofString "word") = some .local) (hs2 : (relab scope sc).names.lookup (Str.ofString "_law_ring") = some .globalImplicit) {p1 p2 p3 p4 : Pos} :
    BlockJ C 2 (relab scope sc) scope (capOf [] l) k (.Name (Str.ofString "word") p1) [] (emitOf (.Call (.Name (Str.ofString "_law_ring") p2) [.Name (Str.ofString "word") p3] [] p4)) (tokd ws) (RingsJ ws k) := by
  refine ⟨⟨[], rfl, rfl, (fun p h => by cases h), fun p h => by cases h⟩, ?_, ?_⟩
  · rintro i ys k₁ k₂ ⟨rs, h1, h2, h3, h4⟩ hle
    exact ⟨rs, h1, h2, fun p hp => ⟨(h3 p hp).1, (h3 p hp).2.1.imp (fun h => Nat.lt_of_lt_of_le h hle) id, (h3 p hp).2.2⟩, h4⟩
  · rintro i d ys k' hd ⟨rs, rfl, h2, h3, h4⟩ hk'
    obtain ⟨w, hw1, rfl⟩ := tokd_get hd
    have hwm := List.mem_of_getElem? hw1
    refine ⟨_, true, .name (.inl hs1) (cap_out (by simp)), .nil, (fun h => by cases h), fun _ => ?_⟩
    have hlen : (tokd rs).length = (ws.take i).length := by
      have := congrArg List.length h2
      rw [List.length_map, List.length_map] at this
      unfold tokd
      rw [List.length_map]; exact this
    have hlen2 : (ws.take i).length ≤ ws.length := by rw [List.length_take]; omega
    refine BodyJ.emit (R₀ := Kept k' w.1 w.2 (ringOf w.1)) (ExR.callD ⟨hs2, ⟨f29, pc.m29, rfl⟩, by decide +kernel⟩ (Exs.cons (Ex.var (put_same _ _ _)) Exs.nil) fun k'' hk'' => (r_ring pc w.1 w.2 k'' (hw w hwm).1 (hw w hwm).2).weak ?_) (by omega) ?_
    · rintro d k₃ ⟨hle, u, rfl, h5⟩
      exact ⟨Nat.le_trans hk'' hle, u, rfl, h5.imp id fun ⟨a, b⟩ => ⟨Nat.le_trans hk'' a, b⟩⟩
    · rintro d k₃ ⟨hle, u, rfl, h5⟩
      refine ⟨rs ++ [(ringOf w.1, u)], by unfold tokd; rw [List.map_append]; rfl, ?_, ?_, ?_⟩
      · rw [List.map_append, h2, List.take_add_one, hw1, List.map_append]; rfl
      · intro p hp
        rcases List.mem_append.mp hp with hp | hp
        · obtain ⟨a1, a2, a3⟩ := h3 p hp
          refine ⟨a1, ?_, a3⟩
          exact a2.imp (fun h => by omega) id
        · rw [List.mem_singleton.mp hp]
          rcases h5 with ⟨h5, h6⟩ | ⟨h5, h6⟩
          · have e : (ringOf w.1, u) = w := Prod.ext h6 h5
            refine ⟨?_, .inr (by rw [e]; exact hwm), .inr (by rw [e]; exact hwm)⟩
            show u ≠ 0
            rw [h5]; exact told.1 w hwm
          · exact ⟨by show u ≠ 0; omega, .inl h6, .inl (by show k ≤ u; omega)⟩
      · have key : ∀ p ∈ rs, p.2 = u → p.1 = ringOf w.1 := by
          intro p hp e
          obtain ⟨a1, a2, a3⟩ := h3 p hp
          rcases h5 with ⟨h5, h6⟩ | ⟨h5, h6⟩
          · rcases a3 with a3 | a3
            · have := low w hwm; omega
            · rw [h6]; exact told.2 p a3 w hwm (by omega)
          · rcases a2 with a2 | a2
            · omega
            · have := low p a2; omega
        intro p hp q hq e
        rcases List.mem_append.mp hp with hp | hp <;> rcases List.mem_append.mp hq with hq | hq
        · exact h4 p hp q hq e
        · rw [List.mem_singleton.mp hq] at e ⊢; exact key p hp e
        · rw [List.mem_singleton.mp hp] at e ⊢; exact (key q hq e.symm).symm
        · rw [List.mem_singleton.mp hp, List.mem_singleton.mp hq]
end
end Mine

end
section
open PySem PySem.Calls PyProof.Rows PySem.W PySem.Spec PySem.SeqAt
namespace Mine
set_option Elab.async false
set_option maxRecDepth 100000
set_option linter.unusedVariables false
noncomputable def gMin (size : Nat) : D → List D
  | .tstr x _ => [.str (minTurn size x)]
  | _ => []
noncomputable def gTurn (x : Str) : D → List D
  | .int p => [.str (turn x p.toNat)]
  | _ => []
noncomputable def gPlace (r : List Int) : D → List D
  | .int p => if rot r p.toNat = r then [.int p] else []
  | _ => []
noncomputable def gWalk (walks : List Int) (size : Nat) : D → List D
  | .int p => [.int (walks.getD (comm 6 p size).1.toNat 0)]
  | _ => []
theorem mem_range {a b : Int} {d : D} (h : d ∈ rangeD a b) : ∃ i : Nat, d = .int (a + i) ∧ i < (b - a).toNat := by
  obtain ⟨i, hi⟩ := List.mem_iff_getElem?.mp h
  obtain ⟨h1, h2⟩ := rangeD_get hi
  exact ⟨i, h1, h2⟩
theorem flat_range (a b : Int) (g : D → List D) : (rangeD a b).flatMap g = (List.range (b - a).toNat).flatMap fun i : Nat => g (.int (a + i)) := by
  unfold rangeD; rw [List.flatMap_map]
theorem flat_one {α β : Type} (f : α → β) (xs : List α) : (xs.flatMap fun x => [f x]) = xs.map f := by
  induction xs with
  | nil => rfl
  | cons x xs ih => rw [List.flatMap_cons, ih]; rfl
noncomputable def placesOf (r : List Int) : List Nat := ((List.range r.length).map (· + 1)).filter fun p => decide (rot r p = r)
theorem places_eq (r : List Int) : (rangeD 1 ((r.length : Int) + 1)).flatMap (gPlace r) = (placesOf r).map fun p : Nat => .int p := by
  rw [flat_range]
  have e : ((r.length : Int) + 1 - 1).toNat = r.length := by omega
  rw [e]
  unfold placesOf
  rw [List.filter_map, List.map_map]
  generalize List.range r.length = xs
  induction xs with
  | nil => rfl
  | cons x xs ih =>
    rw [List.flatMap_cons, ih]
    have e2 : (1 + (x : Int)).toNat = x + 1 := by omega
    show (if rot r (1 + (x : Int)).toNat = r then _ else _) ++ _ = _
    rw [e2]
    by_cases h : rot r (x + 1) = r
    · rw [if_pos h, List.filter_cons_of_pos (by simpa using h)]
      show D.int (1 + (x : Int)) :: _ = _
      rw [List.map_cons]
      show _ = D.int ((x + 1 : Nat) : Int) :: _
      congr 2
      omega
    · rw [if_neg h, List.filter_cons_of_neg (by simpa using h)]; rfl
theorem places_head (r : List Int) (h : 1 ≤ r.length) : (placesOf r)[0]? = some (per r) := by
  have hm : r.length ∈ placesOf r := by
    unfold placesOf
    rw [List.mem_filter]
    refine ⟨List.mem_map.mpr ⟨r.length - 1, List.mem_range.mpr (by omega), by omega⟩, ?_⟩
    simp [rot]
  unfold per
  show _ = some ((placesOf r).headD 0)
  cases hp : placesOf r with
  | nil => rw [hp] at hm; cases hm
  | cons a b => rfl
theorem places_len (r : List Int) : (placesOf r).length ≤ r.length := by
  unfold placesOf
  refine Nat.le_trans (List.length_filter_le _ _) ?_
  rw [List.length_map, List.length_range]
  exact Nat.le_refl _
theorem zip_len (as bs : List D) (h : as.length = bs.length) : (zipD as bs).length = as.length := by
  unfold zipD; rw [List.length_map, List.length_zip]; omega
section
variable {C : Cx}
theorem minEx (pc : PC C) (size : Nat) (hsz : 1 ≤ size ∧ size ≤ 100) (x : Str) (t : Nat) (hx : x.length ≤ 1000) {sc : Scope} {l : Loc} (h1 : l "word" = some (.tstr x t)) (h2 : l "size" = some (.int size)) (hmin : sc.names.lookup (Str.ofString "min") = some .globalImplicit) (hrange : sc.names.lookup (Str.ofString "range") = some .globalImplicit)
    (hword : sc.names.lookup (Str.ofString "word") = some .cell) {p1 p2 p3 p4 p5 p6 p7 p8 p9 p10 p11 p12 p13 p14 p15 p16 : Pos} :
    Ex C 2 sc l (.Call (.Name (Str.ofString "min") p1) [.ListComp (.BinOp (.Subscript (.Name (Str.ofString "word") p2) (.Slice (some (.Name (Str.ofString "place") p3)) none none p4) p5) .Add (.Subscript (.Name (Str.ofString "word") p6) (.Slice none (some (.Name (Str.ofString "place") p7)) none p8) p9) p10)
      [⟨.Name (Str.ofString "place") p11, .Call (.Name (Str.ofString "range") p12) [.Name (Str.ofString "size") p13] [] p14, [], 0⟩] { kind := .function, names := [(Str.ofString ".0", .local), (Str.ofString "place", .local), (Str.ofString "word", .free)], isGenerator := false, isCoroutine := false } p15] [] p16) (.str (minTurn size x)) := by
  have hb2 : (List.range size).length = size := List.length_range
  refine Ex.callB (pc.blt (x := "min") (by simp) hmin (by kernel_rfl)) (Exs.cons (d := .list (((List.range size).map (turn x)).map .str)) (Ex.comp (fr := ["word"]) (g := gTurn x) compE1 (ExI.range1 (pc.blt (x := "range") (by simp) hrange (by kernel_rfl)) (Exs.cons (Ex.var h2) Exs.nil) (.name _ _) (by omega)) ?_ ?_ ?_ ?_) Exs.nil) (c_min _ ?_)
  · refine ⟨rfl, fun y hy hf => ⟨"word", by simp, ?_⟩, fun y hy => ?_, fun y hy => ?_⟩
    · simp only [List.mem_cons, List.not_mem_nil, or_false] at hy
      rcases hy with rfl | rfl | rfl
      · cases hf
      · cases hf
      · rfl
    · rw [List.mem_singleton.mp hy]
      exact ⟨by decide +kernel, .inl hword, by rw [h1]; rfl⟩
    · simp only [List.mem_cons, List.not_mem_nil, or_false] at hy
      rcases hy with rfl | rfl | rfl <;> decide +kernel
  · intro d hd
    obtain ⟨i, rfl, hi⟩ := mem_range hd
    have hi' : i < size := by omega
    refine ⟨_, true, .name (.inl (by decide +kernel)) (cap_out (by decide)), .nil, (fun h => by cases h), fun _ => ?_⟩
    have c1 : put "place" (.int (0 + (i : Int))) (capOf ["word"] l) "word" = some (.tstr x t) := by rw [put_ne _ _ (by decide)]; exact cap_in (by simp) h1
    have c2 : put "place" (.int (0 + (i : Int))) (capOf ["word"] l) "place" = some (.int (i : Nat)) := by rw [put_same]; congr 2; omega
    generalize put "place" (.int (0 + (i : Int))) (capOf ["word"] l) = l₁ at c1 c2
    have e : gTurn x (.int (0 + (i : Int))) = [.str (⟨(x.cps.toList.drop i).toArray⟩ ++ ⟨(x.cps.toList.take i).toArray⟩)] := by
      show [D.str (turn x (0 + (i : Int)).toNat)] = _
      rw [str_app]
      have : (0 + (i : Int)).toNat = i := by omega
      rw [this]; rfl
    rw [e]
    have hdl : (⟨(x.cps.toList.drop i).toArray⟩ : Str).length ≤ x.length := by show (List.toArray _).size ≤ _; rw [List.size_toArray, List.length_drop, Array.length_toList]; exact Nat.sub_le _ _
    have htl : (⟨(x.cps.toList.take i).toArray⟩ : Str).length ≤ x.length := by show (List.toArray _).size ≤ _; rw [List.size_toArray, List.length_take, Array.length_toList]; exact Nat.min_le_right _ _
    refine BodyOk.emit (Ex.bin (d₁ := .str ⟨(x.cps.toList.drop i).toArray⟩) (d₂ := .str ⟨(x.cps.toList.take i).toArray⟩) ?_ ?_ (o_cat _ _ (by omega)))
    · rw [← cut_from]; exact Ex.sliceS (a := some (i : Int)) (b := none) (Ex.forget (Ex.var c1)) (Ex.var c2) trivial (by omega)
    · rw [← cut_upto]; exact Ex.sliceS (a := none) (b := some (i : Int)) (Ex.forget (Ex.var c1)) trivial (Ex.var c2) (by omega)
  · rw [flat_range]
    have e : ((size : Int) - 0).toNat = size := by omega
    rw [e, List.map_map]
    rw [← flat_one]
    congr 1
    funext i
    show [D.str (turn x (0 + (i : Int)).toNat)] = _
    have : (0 + (i : Int)).toNat = i := by omega
    rw [this]; rfl
  · simp only [List.length_map, List.length_range]; omega
  · simp only [List.length_map, List.length_range]; omega
theorem rowCat {n : Nat} {sc : Scope} {l : Loc} (r : List Int) (i : Nat) (hr : r.length ≤ 100) (c1 : l "row" = some (.list (r.map .int))) (c2 : l "place" = some (.int (i : Nat))) {p1 p2 p3 p4 p5 p6 p7 p8 p9 : Pos} :
    Ex C n sc l (.BinOp (.Subscript (.Name (Str.ofString "row") p1) (.Slice (some (.Name (Str.ofString "place") p2)) none none p3) p4) .Add (.Subscript (.Name (Str.ofString "row") p5) (.Slice none (some (.Name (Str.ofString "place") p6)) none p7) p8) p9) (.list ((rot r i).map .int)) := by
  have hdl : (r.drop i).length ≤ r.length := by rw [List.length_drop]; omega
  have htl : (r.take i).length ≤ r.length := by rw [List.length_take]; omega
  refine (Ex.bin (d₁ := .list ((r.drop i).map .int)) (d₂ := .list ((r.take i).map .int)) ?_ ?_ (o_lcat _ _ (by simp only [List.length_map]; omega))).to (by unfold rot; rw [List.map_append])
  · rw [← cut_from, ← pickL_plain, ← pickL_map]
    exact Ex.sliceL (a := some (i : Int)) (b := none) (c := none) (Ex.var c1) (Ex.var c2) trivial trivial (fun h => by cases h) (by rw [List.length_map]; omega)
  · rw [← cut_upto, ← pickL_plain, ← pickL_map]
    exact Ex.sliceL (a := none) (b := some (i : Int)) (c := none) (Ex.var c1) trivial (Ex.var c2) trivial (fun h => by cases h) (by rw [List.length_map]; omega)
theorem placeEx (pc : PC C) (r : List Int) (hr : 1 ≤ r.length ∧ r.length ≤ 100) {sc : Scope} {l : Loc} (h1 : l "row" = some (.list (r.map .int))) (hlen : sc.names.lookup (Str.ofString "len") = some .globalImplicit) (hrange : sc.names.lookup (Str.ofString "range") = some .globalImplicit)
    (hrow : sc.names.lookup (Str.ofString "row") = some .cell) {p1 p2 p3 p4 p5 p6 p7 p8 p9 p10 p11 p12 p13 p14 p15 p16 p17 p18 p19 p20 p21 p22 p23 p24 : Pos} {k1 k2 k3 : Nat} :
    Ex C 2 sc l (.Subscript (.ListComp (.Name (Str.ofString "place") p1) [⟨.Name (Str.ofString "place") p2, .Call (.Name (Str.ofString "range") p3) [.Constant (.int 1) k1 p4, .BinOp (.Call (.Name (Str.ofString "len") p5) [.Name (Str.ofString "row") p6] [] p7) .Add (.Constant (.int 1) k2 p8) p9] [] p10,
      [.Compare (.BinOp (.Subscript (.Name (Str.ofString "row") p11) (.Slice (some (.Name (Str.ofString "place") p12)) none none p13) p14) .Add (.Subscript (.Name (Str.ofString "row") p15) (.Slice none (some (.Name (Str.ofString "place") p16)) none p17) p18) p19) [.Eq] [.Name (Str.ofString "row") p20] p21], 0⟩]
      { kind := .function, names := [(Str.ofString ".0", .local), (Str.ofString "place", .local), (Str.ofString "row", .free)], isGenerator := false, isCoroutine := false } p22) (.Constant (.int 0) k3 p23) p24) (.int (per r)) := by
  refine Ex.idx (ds := (placesOf r).map fun p : Nat => .int p) (Ex.comp (fr := ["row"]) (g := gPlace r) compE1 (ExI.range2 (pc.blt (x := "range") (by simp) hrange (by kernel_rfl)) (Exs.cons Ex.int (Exs.cons (Ex.bin (Ex.callB (pc.blt (x := "len") (by simp) hlen (by kernel_rfl)) (Exs.cons (Ex.var h1) Exs.nil) (c_lenl _ (by rw [List.length_map]; omega))) Ex.int (o_add _ _)) Exs.nil)) (.name _ _) (by decide) (by rw [List.length_map]; omega)) ?_ ?_ ?_ ?_) Ex.int (Int.le_refl _) ?_ (by decide)
  · refine ⟨rfl, fun y hy hf => ⟨"row", by simp, ?_⟩, fun y hy => ?_, fun y hy => ?_⟩
    · simp only [List.mem_cons, List.not_mem_nil, or_false] at hy
      rcases hy with rfl | rfl | rfl
      · cases hf
      · cases hf
      · rfl
    · rw [List.mem_singleton.mp hy]
      exact ⟨by decide +kernel, .inl hrow, by rw [h1]; rfl⟩
    · simp only [List.mem_cons, List.not_mem_nil, or_false] at hy
      rcases hy with rfl | rfl | rfl <;> decide +kernel
  · intro d hd
    rw [List.length_map] at hd
    obtain ⟨i, rfl, hi⟩ := mem_range hd
    have c1 : put "place" (.int (1 + (i : Int))) (capOf ["row"] l) "row" = some (.list (r.map .int)) := by rw [put_ne _ _ (by decide)]; exact cap_in (by simp) h1
    have c2 : put "place" (.int (1 + (i : Int))) (capOf ["row"] l) "place" = some (.int ((i + 1 : Nat) : Int)) := by rw [put_same]; congr 2; omega
    have e2 : (1 + (i : Int)).toNat = i + 1 := by omega
    have hg : gPlace r (.int (1 + (i : Int))) = if rot r (i + 1) = r then [.int ((i + 1 : Nat) : Int)] else [] := by
      show (if rot r (1 + (i : Int)).toNat = r then _ else _) = _
      rw [e2]
      have : (1 + (i : Int)) = ((i + 1 : Nat) : Int) := by omega
      rw [this]
    refine ⟨_, decide (rot r (i + 1) = r), .name (.inl (by decide +kernel)) (cap_out (by decide)), .one (Tx.cmp (rowCat r (i + 1) hr.2 c1 c2) (Ex.var c1) (o_leq _ _)), (fun h => ?_), fun h => ?_⟩
    · rw [hg, if_neg (of_decide_eq_false h)]
    · rw [hg, if_pos (of_decide_eq_true h)]
      exact BodyOk.emit (Ex.var c2)
  · rw [List.length_map]; exact places_eq r
  · rw [List.length_map]; have := places_len r; omega
  · show ((placesOf r).map fun p : Nat => D.int p)[0]? = _
    rw [List.getElem?_map, places_head r hr.1]; rfl
end
end Mine

end
section
open PySem PySem.Calls PyProof.Rows PySem.W PySem.Spec PySem.SeqAt
namespace Mine
set_option Elab.async false
set_option maxRecDepth 100000
set_option linter.unusedVariables false
theorem gMin_eq (size : Nat) (ws : List (Str × Nat)) : (tokd ws).flatMap (gMin size) = (ws.map fun w => minTurn size w.1).map .str := by
  unfold tokd
  rw [List.flatMap_map, List.map_map, ← flat_one]
  rfl
theorem gWalk_eq (walks : List Int) (size : Nat) : (rangeD 1 ((size : Int) + 1)).flatMap (gWalk walks size) = ((List.range size).map (walkAt walks size)).map .int := by
  rw [flat_range]
  have e : ((size : Int) + 1 - 1).toNat = size := by omega
  rw [e, List.map_map, ← flat_one]
  congr 1
  funext i
  show [D.int (walks.getD (comm 6 (1 + (i : Int)) size).1.toNat 0)] = [D.int (walks.getD (comm 6 ((i + 1 : Nat) : Int) size).1.toNat 0)]
  have : (1 + (i : Int)) = ((i + 1 : Nat) : Int) := by omega
  rw [this]
section
variable {C : Cx}
theorem r_kept (pm : PM C) (size : Nat) (rs : List (List Int)) (ws : List (Str × Nat)) (walks : List Int) (k : Nat) (hk0 : k ≠ 0) (H : KeptOk size rs ws walks k) :
    DefR C 3 k (Str.ofString "_law_kept") [.list (rowsD rs), .list (tokd ws), .list (walks.map .int)] (fun d _ => d = .bool true) := by
  have pc := pm.toPC
  refine DefR.of (f := f31) (xs := ["rows", "words", "walks"]) pc.m31 ⟨rfl, rfl, rfl, by decide +kernel⟩ ?_ ?_
  · intro pm cd doc us hu
    match us, hu with
    | [u, v, w], _ => rfl
  · have hrl : (rowsD rs).length = rs.length := by unfold rowsD; rw [List.length_map]
    have hm := H.many
    have hsz := H.sz
    refine SxT.step (S1.assign (Ex.bin (Ex.callB (pc.blt (x := "len") (by simp) (by decide +kernel) (by kernel_rfl)) (Exs.cons (Ex.var (x := "walks") rfl) Exs.nil) (c_lenl _ (by rw [List.length_map, H.wl]; omega))) Ex.int (o_sub _ _)) rfl) fun k₁ hk₁ => ?_
    have esz : (((walks.map D.int).length : Int) - 1) = (size : Int) := by rw [List.length_map, H.wl]; omega
    rw [esz]
    have a1 : put "size" (.int size) (argL ["rows", "words", "walks"] [.list (rowsD rs), .list (tokd ws), .list (walks.map .int)] none_) "size" = some (.int size) := put_same _ _ _
    have a2 : put "size" (.int size) (argL ["rows", "words", "walks"] [.list (rowsD rs), .list (tokd ws), .list (walks.map .int)] none_) "rows" = some (.list (rowsD rs)) := rfl
    have a3 : put "size" (.int size) (argL ["rows", "words", "walks"] [.list (rowsD rs), .list (tokd ws), .list (walks.map .int)] none_) "words" = some (.list (tokd ws)) := rfl
    have a4 : put "size" (.int size) (argL ["rows", "words", "walks"] [.list (rowsD rs), .list (tokd ws), .list (walks.map .int)] none_) "walks" = some (.list (walks.map .int)) := rfl
    have a5 : put "size" (.int size) (argL ["rows", "words", "walks"] [.list (rowsD rs), .list (tokd ws), .list (walks.map .int)] none_) "unlike" = none := rfl
    generalize put "size" (.int size) (argL ["rows", "words", "walks"] [.list (rowsD rs), .list (tokd ws), .list (walks.map .int)] none_) = l₁ at a1 a2 a3 a4 a5
    have twl : (tokd ws).length = ws.length := by unfold tokd; rw [List.length_map]
    refine SxT.cons (R₁ := fun y _ => ∃ rk : List (Str × Nat), y = .next (put "rings" (.list (tokd rk)) l₁) none ∧ rk.map (·.1) = ws.map (ringOf ·.1) ∧ Told rk)
      (S1T.assignComp (fr := []) (J := RingsJ ws k₁) compE1 (ExI.list (Ex.var a3) (.name _ _)) (Block.mk' rfl (by decide +kernel) (by decide +kernel) (by decide +kernel) (fun y hy => by cases hy))
        (rings_block pc ws k₁ (by omega) _ _ (fun w hw => by have := H.wlen w hw; omega) H.told (fun w hw => Nat.lt_of_lt_of_le (H.low w hw) hk₁) hm (by decide +kernel) (by decide +kernel)) ?_ (fun x _ _ h _ => h) (by decide +kernel) (fun _ _ h => by cases h) (by decide +kernel)) ?_ (fun d _ ⟨_, h, _⟩ => by cases h)
    · rintro ys k₂ ⟨rk, rfl, h1, h2, h3⟩ _
      rw [twl, List.take_length] at h1
      exact ⟨rk, rfl, h1, fun p hp => (h2 p hp).1, h3⟩
    rintro l₂ o₂ k₂ ⟨rk, h, hr1, hr2⟩ _
    cases h
    have hrk : rk.length = ws.length := by have := congrArg List.length hr1; rwa [List.length_map, List.length_map] at this
    have tkl : (tokd rk).length = rk.length := by unfold tokd; rw [List.length_map]
    have b1 : put "rings" (.list (tokd rk)) l₁ "size" = some (.int size) := by rw [put_ne _ _ (by decide)]; exact a1
    have b2 : put "rings" (.list (tokd rk)) l₁ "rows" = some (.list (rowsD rs)) := by rw [put_ne _ _ (by decide)]; exact a2
    have b3 : put "rings" (.list (tokd rk)) l₁ "words" = some (.list (tokd ws)) := by rw [put_ne _ _ (by decide)]; exact a3
    have b4 : put "rings" (.list (tokd rk)) l₁ "walks" = some (.list (walks.map .int)) := by rw [put_ne _ _ (by decide)]; exact a4
    have b5 : put "rings" (.list (tokd rk)) l₁ "rings" = some (.list (tokd rk)) := put_same _ _ _
    have b6 : put "rings" (.list (tokd rk)) l₁ "unlike" = none := by rw [put_ne _ _ (by decide)]; exact a5
    generalize put "rings" (.list (tokd rk)) l₁ = l₂ at b1 b2 b3 b4 b5 b6
    suffices hS : Sx C 2 s31.1 l₂ none _ (fun x => x = .ret (.bool true)) from hS.T fun x _ h _ => ⟨_, h, rfl⟩
    -- the rings are the least turnings
    have hmins : (ws.map fun w => minTurn size w.1) = rk.map (·.1) := by
      rw [hr1]
      exact List.map_congr_left fun w hw => (H.ring w hw).symm
    have hok : (rk.map (·.1)).all PyData.strOk = true := by
      rw [hr1, List.all_eq_true]
      intro x hx
      obtain ⟨w, hw, rfl⟩ := List.mem_map.mp hx
      exact H.ok w hw
    refine Sx.step (l' := l₂) (o' := none) (S1.skip ((Tx.cmp (d₂ := .list ((rk.map (·.1)).map .str)) (Ex.to (Ex.forgetL (Ex.var b5)) (by rw [untok_eq])) (Ex.comp (fr := ["size"]) (g := gMin size) compE1 (ExI.list (Ex.var b3) (.name _ _)) (Block.mk' rfl (by decide +kernel) (by decide +kernel) (by decide +kernel) (fun y hy => by rw [List.mem_singleton.mp hy, b1]; rfl)) ?_ (by rw [gMin_eq, hmins]) (by simp only [List.length_map]; omega)) (o_lsne _ _ hok hok)).to (by simp)) rfl) ?_
    · intro d hd
      obtain ⟨j, hj⟩ := List.mem_iff_getElem?.mp hd
      obtain ⟨w, hw, rfl⟩ := tokd_get hj
      have hwm := List.mem_of_getElem? hw
      refine ⟨_, true, .name (.inr (by decide +kernel)) (cap_out (by decide)), .nil, (fun h => by cases h), fun _ => BodyOk.emit (minEx pc size hsz w.1 w.2 (by have := H.wlen w hwm; omega) (put_same _ _ _) (by rw [put_ne _ _ (by decide)]; exact cap_in (by simp) b1) (by decide +kernel) (by decide +kernel) (by decide +kernel))⟩
    -- a ring is read in one way
    refine Sx.cons (Q₁ := fun y => ∃ l', y = .next l' none ∧ l' "size" = some (.int size) ∧ l' "rings" = some (.list (tokd rk)) ∧ l' "walks" = some (.list (walks.map .int)) ∧ l' "unlike" = none) (S1.for (ExI.zip (pc.blt (x := "zip") (by simp) (by decide +kernel) (by kernel_rfl)) (Exs.cons (Ex.var b2) (Exs.cons (Ex.var b5) Exs.nil)))
      (fun i l o => o = none ∧ l "size" = some (.int size) ∧ l "rings" = some (.list (tokd rk)) ∧ l "walks" = some (.list (walks.map .int)) ∧ l "unlike" = none) ⟨rfl, b1, b5, b4, b6⟩ ?_ ?_) ?_ ?_
    · rintro i d l' o' hd ⟨rfl, c1, c2, c3, c4⟩
      obtain ⟨u, v, hu, hv, rfl⟩ := zipD_get hd
      unfold rowsD at hu
      rw [List.getElem?_map] at hu
      obtain ⟨r, hr, rfl⟩ := Option.map_eq_some_iff.mp hu
      obtain ⟨q, hq, rfl⟩ := tokd_get hv
      have hrm := List.mem_of_getElem? hr
      have hqm := List.mem_of_getElem? hq
      have hrlen := H.rlen r hrm
      refine ⟨_, .pair (.inr (by decide +kernel)) (.inl (by decide +kernel)) (fun _ _ h => by cases h) (fun _ _ h => by cases h), ?_⟩
      have e1 : put "ring" (.tstr q.1 q.2) (put "row" (.list (r.map .int)) l') "size" = some (.int size) := by rw [put_ne _ _ (by decide), put_ne _ _ (by decide)]; exact c1
      have e2 : put "ring" (.tstr q.1 q.2) (put "row" (.list (r.map .int)) l') "rings" = some (.list (tokd rk)) := by rw [put_ne _ _ (by decide), put_ne _ _ (by decide)]; exact c2
      have e3 : put "ring" (.tstr q.1 q.2) (put "row" (.list (r.map .int)) l') "walks" = some (.list (walks.map .int)) := by rw [put_ne _ _ (by decide), put_ne _ _ (by decide)]; exact c3
      have e4 : put "ring" (.tstr q.1 q.2) (put "row" (.list (r.map .int)) l') "unlike" = none := by rw [put_ne _ _ (by decide), put_ne _ _ (by decide)]; exact c4
      have e5 : put "ring" (.tstr q.1 q.2) (put "row" (.list (r.map .int)) l') "ring" = some (.tstr q.1 q.2) := put_same _ _ _
      have e6 : put "ring" (.tstr q.1 q.2) (put "row" (.list (r.map .int)) l') "row" = some (.list (r.map .int)) := by rw [put_ne _ _ (by decide), put_same]
      generalize put "ring" (.tstr q.1 q.2) (put "row" (.list (r.map .int)) l') = l₃ at e1 e2 e3 e4 e5 e6
      have hcnt : ((rk.filter (·.1 == q.1)).length) = per r := by
        have hi : i < ws.length := by
          rcases Nat.lt_or_ge i ws.length with h | h
          · exact h
          · rw [List.getElem?_eq_none (by rw [← H.len]; exact h)] at hr; cases hr
        have hw : ws[i]? = some ws[i] := List.getElem?_eq_getElem hi
        have hqe : q.1 = ringOf ws[i].1 := by
          have := congrArg (·[i]?) hr1
          simp only [List.getElem?_map, hq, hw, Option.map_some] at this
          exact Option.some.inj this
        have := H.cnt i r ws[i] hr hw
        rw [← hr1, ← hqe, List.filter_map, List.length_map] at this
        exact this
      refine Sx.cons (Q₁ := fun y => y = .next l₃ none) (S1.skip ((Tx.cmp (Ex.callD (Own.mk' pc.m24 (by decide +kernel)) (Exs.cons (Ex.var e2) (Exs.cons (Ex.var e5) Exs.nil)) ((d_countT pm rk q hqm hr2).le (by omega))) (placeEx pc r hrlen e6 (by decide +kernel) (by decide +kernel) (by decide +kernel)) (o_ne _ _)).to (by rw [hcnt]; simp)) rfl) (fun _ _ h => by cases h; exact Sx.nil ⟨rfl, e1, e2, e3, e4⟩) (fun _ h => by cases h)
    · rintro l' o' ⟨rfl, h⟩
      exact ⟨l', rfl, h⟩
    · rintro l' o' ⟨l₃, h, c1, c2, c3, c4⟩
      cases h
      -- the unlike rings
      refine (Sx.grow (R := fun d => d = .bool true) Exs.nil ?_ (Nat.le_of_ble_eq_true rfl) (by decide +kernel) (by decide +kernel) c4).mono fun x hx => ?_
      · refine Sx.cons (Q₁ := fun y => ∃ l'', y = .next l'' (some ("unlike", (uniqs [] (rk.map (·.1))).map .str)) ∧ l'' "size" = some (.int size) ∧ l'' "walks" = some (.list (walks.map .int))) (S1.for (ExI.list (Ex.var c2) (.name _ _)) (fun i l o => o = some ("unlike", (uniqs [] ((rk.map (·.1)).take i)).map .str) ∧ l "size" = some (.int size) ∧ l "walks" = some (.list (walks.map .int))) ⟨rfl, c1, c3⟩ ?_ ?_) ?_ ?_
        · rintro i d l₄ o₄ hd ⟨rfl, g1, g2⟩
          obtain ⟨q, hq, rfl⟩ := tokd_get hd
          refine ⟨_, .name (.inl (by decide +kernel)) (fun _ _ h => by cases h; decide), ?_⟩
          have hq1 : (rk.map (·.1))[i]? = some q.1 := by rw [List.getElem?_map, hq]; rfl
          have hut := uniqs_take (rk.map (·.1)) [] i q.1 hq1
          have hul := uniqs_len ((rk.map (·.1)).take i) []
          rw [List.length_take, List.length_map] at hul
          simp only [List.length_nil] at hul
          generalize uniqs [] ((rk.map (·.1)).take i) = acc at hut hul
          have i1 : put "ring" (.tstr q.1 q.2) l₄ "size" = some (.int size) := by rw [put_ne _ _ (by decide)]; exact g1
          have i2 : put "ring" (.tstr q.1 q.2) l₄ "walks" = some (.list (walks.map .int)) := by rw [put_ne _ _ (by decide)]; exact g2
          have i3 : fz (put "ring" (.tstr q.1 q.2) l₄) (some ("unlike", acc.map .str)) "ring" = some (.tstr q.1 q.2) := by show put _ _ _ _ = _; rw [put_ne _ _ (by decide), put_same]
          refine Sx.cons (Q₁ := fun y => y = .next (put "ring" (.tstr q.1 q.2) l₄) (some ("unlike", (if acc.contains q.1 then acc else acc ++ [q.1]).map .str))) (S1.iteF (Tx.cmp (Ex.callD (Own.mk' pc.m23 (by decide +kernel)) (Exs.cons (Ex.var (x := "unlike") (put_same _ _ _)) (Exs.cons (Ex.forget (Ex.var i3)) Exs.nil)) ((d_contains pc acc q.1).le (by omega))) Ex.bool (o_is _ _)) (fun hf => ?_) fun hf => ?_) ?_ ?_
          · have hf' : acc.contains q.1 = false := by simpa using hf
            rw [hf']
            refine Sx.step (S1.append (by rw [List.length_map]; omega) (Ex.forget (Ex.var (put_same _ _ _))) rfl) (Sx.nil ?_)
            rw [if_neg (by decide), List.map_append]; rfl
          · have hf' : acc.contains q.1 = true := by simpa using hf
            rw [hf']
            exact Sx.nil rfl
          · intro _ _ h
            cases h
            exact Sx.nil ⟨by rw [hut], i1, i2⟩
          · intro _ h; cases h
        · rintro l₄ o₄ ⟨rfl, g⟩
          rw [tkl, ← List.length_map (f := (·.1)), List.take_length]
          exact ⟨l₄, rfl, g⟩
        · rintro l₄ o₄ ⟨l₅, h, g1, g2⟩
          cases h
          refine Sx.freeze ?_
          have j1 : put "unlike" (.list ((uniqs [] (rk.map (·.1))).map .str)) l₄ "unlike" = some (.list ((uniqs [] (rk.map (·.1))).map .str)) := put_same _ _ _
          have j2 : put "unlike" (.list ((uniqs [] (rk.map (·.1))).map .str)) l₄ "size" = some (.int size) := by rw [put_ne _ _ (by decide)]; exact g1
          have j3 : put "unlike" (.list ((uniqs [] (rk.map (·.1))).map .str)) l₄ "walks" = some (.list (walks.map .int)) := by rw [put_ne _ _ (by decide)]; exact g2
          generalize put "unlike" (.list ((uniqs [] (rk.map (·.1))).map .str)) l₄ = l₅ at j1 j2 j3
          have hul := uniqs_len (rk.map (·.1)) []
          rw [List.length_map] at hul
          simp only [List.length_nil] at hul
          have hsum := H.sum
          rw [← hr1] at hsum
          refine (Sx.ret1 ((Ex.cmp (Ex.callD (Own.mk' pc.m21 (by decide +kernel)) (Exs.cons (Ex.var j2) (Exs.cons (Ex.callB (pc.blt (x := "len") (by simp) (by decide +kernel) (by kernel_rfl)) (Exs.cons (Ex.var j1) Exs.nil) (c_lenl _ (by rw [List.length_map]; omega))) Exs.nil)) ((d_mul pc _ _ (by omega)).le (by omega)))
            (Ex.callB (pc.blt (x := "sum") (by simp) (by decide +kernel) (by kernel_rfl)) (Exs.cons (Ex.comp (fr := ["size", "walks"]) (g := gWalk walks size) compE1 (ExI.range2 (pc.blt (x := "range") (by simp) (by decide +kernel) (by kernel_rfl)) (Exs.cons Ex.int (Exs.cons (Ex.bin (Ex.var j2) Ex.int (o_add _ _)) Exs.nil)) (.name _ _) (by decide) (by omega)) (Block.mk' rfl (by decide +kernel) (by decide +kernel) (by decide +kernel) ?_) ?_ (gWalk_eq _ _) (by simp only [List.length_map, List.length_range]; omega)) Exs.nil) (c_sum _)) (o_eq _ _)).to (d' := .bool true) ?_)).mono fun x hx => ?_
          · intro y hy
            simp only [List.mem_cons, List.not_mem_nil, or_false] at hy
            rcases hy with rfl | rfl
            · rw [j2]; rfl
            · rw [j3]; rfl
          · intro d hd
            obtain ⟨i, rfl, hi⟩ := mem_range hd
            have hi' : i < size := by omega
            have e1 : (1 + (i : Int)) = ((i + 1 : Nat) : Int) := by omega
            rw [e1]
            obtain ⟨w1, w2⟩ := H.burn i hi'
            refine ⟨_, true, .name (.inl (by decide +kernel)) (cap_out (by decide)), .nil, (fun h => by cases h), fun _ => BodyOk.emit (Ex.idx (ds := walks.map .int) (Ex.var (by rw [put_ne _ _ (by decide)]; exact cap_in (by simp) j3)) (Ex.callD (Own.mk' pc.m30 (by decide +kernel)) (Exs.cons (Ex.var (put_same _ _ _)) (Exs.cons (Ex.var (by rw [put_ne _ _ (by decide)]; exact cap_in (by simp) j2)) Exs.nil)) (d_common pc _ _)) w1 ?_ (by omega))⟩
            rw [List.getElem?_map]
            have hlt : (comm 6 ((i + 1 : Nat) : Int) size).1.toNat < walks.length := by rw [H.wl]; omega
            rw [List.getD_eq_getElem?_getD, List.getElem?_eq_getElem hlt]; rfl
          · simp only [List.length_map] at hsum ⊢; rw [hsum]; simp
          · rw [hx]; rfl
        · rintro d ⟨_, h, _⟩; cases h
      · cases x with
        | next l o => exact hx.elim
        | ret d => rw [show d = _ from hx]
    · rintro d ⟨_, h, _⟩; cases h
end
end Mine

end
section
open PySem PySem.Calls PyProof.Rows PySem.W PySem.Spec PySem.SeqAt PySem.Builtin.Str
namespace Mine
set_option Elab.async false
set_option maxRecDepth 100000
set_option linter.unusedVariables false
section
variable {C : Cx} {n : Nat} {sc : Scope} {l : Loc}
/-- a slice and its token -/
noncomputable def Sliced (k : Nat) (x : Str) (a b : Option Int) (d : D) (k' : Nat) : Prop := ∃ t, d = .tstr ⟨(cut x.cps.toList a b).toArray⟩ t ∧ ((cut x.cps.toList a b).length ≠ x.length → k ≤ t ∧ t < k')
theorem ExR.sliceS {e : Expr} {lo hi : Option Expr} {p pos : Pos} {x : Str} {a b : Option Int} {k : Nat} (he : Ex C n sc l e (.str x)) (ha : PartEx C n sc l lo a) (hb : PartEx C n sc l hi b) (hz : x.length ≤ 100000)
    (ht : ∀ o r, letTemporaryGo e o r = pure () := by intro _ _; rfl) : ExR C n sc l k (.Subscript e (.Slice lo hi none p) pos) (Sliced k x a b) := by
  intro A env P s E B I hk
  refine wpAny_Subscript_str_slice (wpAny_mono (wpAny_toks (he A env P s E B I)) (fun o s₁ ⟨⟨k₁, r₁⟩, t₁⟩ => ?_) fun _ _ x => x.1) ht
  have I₁ := I.keeps (up k₁)
  refine wpAny_mono (wpAny_toks (part E B I₁ ha)) (fun va s₂ ⟨⟨k₂, ⟨ta, ea⟩, _⟩, t₂⟩ => ?_) fun _ _ x => x.1
  have I₂ := I₁.keeps (up k₂)
  refine wpAny_mono (wpAny_toks (part E B I₂ hb)) (fun vb s₃ ⟨⟨k₃, ⟨tb, eb⟩, _⟩, t₃⟩ => ?_) fun _ _ x => x.1
  cases r₁ with
  | str x t =>
    refine ⟨x, t, _, _, rfl, ea, eb, ?_⟩
    have kk : Keeps s { s₃ with heap := s₃.heap.push { cls := .type "slice", data := .fields #[va, vb, .none] } } := kt (kt (kt k₁ k₂) k₃) (kpush _ _)
    have hsl := slice_txt x a b
    unfold sliceMade slicePicked
    rw [map_fst, map_fst]
    show ((if ((1 : Int) == 1 && (strSliceIndices a b 1 x.length).length == x.length) = true then Made.val (.str x t) else Made.str ⟨(List.filterMap (fun j => x.cps[j]?) (strSliceIndices a b 1 x.length)).toArray⟩ : Made)).post _ _
    by_cases h : ((1 : Int) == 1 && (strSliceIndices a b 1 x.length).length == x.length) = true
    · rw [if_pos h]
      unfold Txt.slice at hsl
      rw [if_pos h] at hsl
      refine ⟨kk, _, ⟨t, rfl, fun hne => ?_⟩, ?_⟩
      · exfalso
        apply hne
        have := congrArg Str.length hsl
        rw [show (⟨(cut x.cps.toList a b).toArray⟩ : Str).length = (cut x.cps.toList a b).length from List.size_toArray] at this
        exact this.symm
      · rw [← hsl]; exact .tstr _ _
    · rw [if_neg h]
      unfold Txt.slice at hsl
      rw [if_neg h] at hsl
      refine ⟨?_, kt kk (ktok _), _, ⟨s₃.toks, rfl, fun _ => ⟨by omega, Nat.lt_succ_self _⟩⟩, ?_⟩
      · have h1 := sliceIndices_le a b x.length
        have h2 := List.length_filterMap_le (fun j => x.cps[j]?) (strSliceIndices a b 1 x.length)
        show (List.filterMap (fun j => x.cps[j]?) (strSliceIndices a b 1 x.length)).toArray.size ≤ sizeLine
        rw [List.size_toArray, sizeLine_eq]
        omega
      · rw [← hsl]; exact .tstr _ _
/-- an item from the end -/
theorem Ex.idxN {e i : Expr} {pos : Pos} {ds : List D} {k : Int} {d : D} (he : Ex C n sc l e (.list ds)) (hi : Ex C n sc l i (.int k)) (h0 : k < 0) (h1 : -(ds.length : Int) ≤ k) (hd : ds[(k + ds.length).toNat]? = some d) (hz : -100000 ≤ k)
    (hs : ∀ o j, subscripted i false o j = operate [o, j] (getItem o j) := by intro _ _; rfl) : Ex C n sc l (.Subscript e i pos) d := by
  intro A env P s E B I
  refine PyProof.Rows.Subscript_ (wpAny_mono (he A env P s E B I) (fun o s₁ ⟨k₁, r₁⟩ => ?_) fun _ _ x => x)
  have I₁ := I.keeps (up k₁)
  refine wpAny_mono (hi A env P s₁ E B I₁) (fun j s₂ ⟨k₂, r₂⟩ => ?_) fun _ _ x => x
  have r₁' := r₁.keeps (up k₂)
  cases r₂
  cases r₁' with
  | @list ax vs _ q hl ra =>
    have z : vs.size = ds.length := by rw [← ra.length, Array.length_toList]
    obtain ⟨v, hv, rv⟩ := ra.get hd
    rw [Array.getElem?_toList] at hv
    exact tail_any hl.typeIs slot_list_getitem.lookup (wpAny_getItem_list_neg hl h0 (by rw [z]; exact h1) (by omega) (by rw [z]; exact hv) ⟨kt k₁ k₂, rv⟩) (hs _ _)
end
/-! what law computes -/
noncomputable def numsOf (ns : List Int) : List Int := ns.take 60
noncomputable def drawAt (ns : List Int) (k old : Int) : Int := (old + (pickL (numsOf ns) (some k) none (some 3)).sum).fmod 1000000
noncomputable def drawsOf (ns : List Int) : List Int := [drawAt ns 0 10, drawAt ns 1 32, drawAt ns 2 65]
noncomputable def gDraw (ns : List Int) : D → List D
  | .tuple [.int k, .int old] => [.int (drawAt ns k old)]
  | _ => []
noncomputable def nameOf (ns : List Int) : Str := [Str.ofString "x", Str.ofString "iso-8859-1", Str.ofString "Big5"].getD ((drawsOf ns).sum.fmod 3).toNat (Str.ofString "x")
noncomputable def checkO (o : Int) : Bool := (⟨#[o.toNat]⟩ : Str) != codeOf o.toNat
noncomputable def codesOf (os : List Int) : List Code := os.map fun o => (o, codeOf o.toNat)
noncomputable def shortN (os : List Int) : Nat := ((os.map fun o => checkO o && (o != 32)).filter (· == false)).length
noncomputable def roomN (os : List Int) : Nat := [9, 6, 4, 3].getD (shortN os) 3
noncomputable def foundOf (os : List Int) : List Row := foundR (codesOf os) (roomN os) (roomN os)
noncomputable def walksUp (s : Int) : Nat → List Int
  | 0 => [3, s, s * s]
  | i + 1 => walksUp s i ++ [s * (walksUp s i).getD ((walksUp s i).length - 1) 0 + (3 - s) * (walksUp s i).getD ((walksUp s i).length - 3) 0]
theorem walksUp_len (s : Int) : ∀ i, (walksUp s i).length = i + 3
  | 0 => rfl
  | i + 1 => by unfold walksUp; rw [List.length_append, walksUp_len s i]; rfl
noncomputable def walksOf (os : List Int) : List Int := walksUp (shortN os : Nat) (roomN os - 2)
noncomputable def atSize (os : List Int) (size : Nat) : List Row := (foundOf os).filter fun r => decide (r.2.length = size)
structure LawOk (os : List Int) : Prop where
  len : os.length = 3
  rng : ∀ o ∈ os, 0 ≤ o ∧ o < 256
  szs : ∀ i, i ≤ roomN os → (lastR (codesOf os) (roomN os) i).length ≤ 5000 ∧ (foundR (codesOf os) (roomN os) i).length ≤ 5000
  big : ∀ i, i ≤ roomN os - 2 → ∀ w ∈ walksUp (shortN os : Nat) i, -1000000 < w ∧ w < 1000000
  rows : ∀ r ∈ foundOf os, (∀ o ∈ r.1, 0 ≤ o ∧ o < 256) ∧ r.1.length ≤ 9 ∧ r.2.cps.toList = r.1.flatMap fun o => (codeOf o.toNat).cps.toList
  kept : ∀ size, 1 ≤ size → size ≤ roomN os → ∀ (ws : List (Str × Nat)) k, ws.map (·.1) = (atSize os size).map (·.2) → Told ws → (∀ w ∈ ws, w.2 < k) → KeptOk size ((atSize os size).map (·.1)) ws ((walksOf os).take (size + 1)) k
end Mine

end
section
open PySem PySem.Calls PyProof.Rows PySem.W PySem.Spec PySem.SeqAt
namespace Mine
set_option Elab.async false
set_option maxRecDepth 100000
set_option linter.unusedVariables false
theorem draws_eq (ns : List Int) : (enumD 0 [.int 10, .int 32, .int 65]).flatMap (gDraw ns) = (drawsOf ns).map .int := rfl
theorem bits10 : (Builtin.Int.intBits 10 : Int) * 6 ≤ 2 ^ 27 := by decide +kernel
noncomputable def gCode : D → List D
  | .int o => [.tuple [.int o, .str (codeOf o.toNat)]]
  | _ => []
theorem gCode_eq (os : List Int) : (os.map D.int).flatMap gCode = (codesOf os).map CodeD := by
  unfold codesOf
  rw [List.flatMap_map, List.map_map, ← flat_one]
  rfl
noncomputable def gShort : D → List D
  | .int o => [.bool (checkO o && (o != 32))]
  | _ => []
theorem gShort_eq (os : List Int) : (os.map D.int).flatMap gShort = (os.map fun o => checkO o && (o != 32)).map .bool := by
  rw [List.flatMap_map, List.map_map, ← flat_one]
  rfl
theorem check_said : ∀ c : Fin 256, ((⟨#[c.1]⟩ : Str) != codeOf c.1) = ((codeOf c.1).length == 3 || c.1 == 32) := by decide +kernel
theorem code_len : ∀ c : Fin 256, (codeOf c.1).length ≤ 3 ∧ 1 ≤ (codeOf c.1).length := by decide +kernel
section
variable {C : Cx}
theorem law_draws (pc : PC C) (ns : List Int) (hn : ns.length ≤ 100) {l : Loc} (h : l "numbers" = some (.list ((numsOf ns).map .int))) {scope : Scope} (hs : scope.names.lookup (Str.ofString "k") = some .local ∧ scope.names.lookup (Str.ofString "old") = some .local)
    (hsum : (relab scope s32.1).names.lookup (Str.ofString "sum") = some .globalImplicit) {p1 p2 p3 p4 p5 p6 p7 p8 p9 p10 p11 p12 p13 p14 p15 p16 : Pos} {k1 k2 k3 k4 : Nat} :
    BlockOk C 3 (relab scope s32.1) scope (capOf ["numbers"] l) (.List [] default) (.Tuple [.Name (Str.ofString "k") p1, .Name (Str.ofString "old") p2] k1 p3) []
      (emitOf (.BinOp (.BinOp (.Name (Str.ofString "old") p4) .Add (.Call (.Name (Str.ofString "sum") p5) [.Subscript (.Name (Str.ofString "numbers") p6) (.Slice (some (.Name (Str.ofString "k") p7)) none (some (.Constant (.int 3) k2 p8)) p9) p10] [] p11) p12) .Mod (.BinOp (.Constant (.int 10) k3 p13) .Pow (.Constant (.int 6) k4 p14) p15) p16))
      (enumD 0 [.int 10, .int 32, .int 65]) (gDraw ns) := by
  intro d hd
  have hd' : ∃ k old : Int, d = .tuple [.int k, .int old] := by
    simp only [enumD, List.mem_cons, List.not_mem_nil, or_false] at hd
    rcases hd with rfl | rfl | rfl <;> exact ⟨_, _, rfl⟩
  obtain ⟨k, old, rfl⟩ := hd'
  refine ⟨_, true, .pair hs.1 hs.2 (cap_out (by decide)) (cap_out (by decide)) (by decide), .nil, (fun h => by cases h), fun _ => ?_⟩
  have c1 : put "old" (.int old) (put "k" (.int k) (capOf ["numbers"] l)) "numbers" = some (.list ((numsOf ns).map .int)) := by rw [put_ne _ _ (by decide), put_ne _ _ (by decide)]; exact cap_in (by simp) h
  have c2 : put "old" (.int old) (put "k" (.int k) (capOf ["numbers"] l)) "k" = some (.int k) := by rw [put_ne _ _ (by decide), put_same]
  have c3 : put "old" (.int old) (put "k" (.int k) (capOf ["numbers"] l)) "old" = some (.int old) := put_same _ _ _
  generalize put "old" (.int old) (put "k" (.int k) (capOf ["numbers"] l)) = l₁ at c1 c2 c3
  have hnl : (numsOf ns).length ≤ 100 := by unfold numsOf; rw [List.length_take]; omega
  have hsl : Ex C 3 (relab scope s32.1) l₁ (.Subscript (.Name (Str.ofString "numbers") p6) (.Slice (some (.Name (Str.ofString "k") p7)) none (some (.Constant (.int 3) k2 p8)) p9) p10) (.list ((pickL (numsOf ns) (some k) none (some 3)).map .int)) := by
    rw [← pickL_map]
    exact Ex.sliceL (a := some k) (b := none) (c := some 3) (Ex.var c1) (Ex.var c2) trivial (Ex.int) (by decide) (by rw [List.length_map]; omega)
  exact BodyOk.emit (Ex.bin (Ex.bin (Ex.var c3) (Ex.callB (pc.blt (x := "sum") (by simp) hsum (by kernel_rfl)) (Exs.cons hsl Exs.nil) (c_sum _)) (o_add _ _)) (Ex.bin Ex.int Ex.int (o_pow 10 6 (by decide) bits10)) (o_mod _ _ (by decide)))
end
end Mine

end
section
open PySem PySem.Calls PyProof.Rows PySem.W PySem.Spec PySem.SeqAt
namespace Mine
set_option Elab.async false
set_option maxRecDepth 100000
set_option linter.unusedVariables false
noncomputable def wordOf (cs signs : Str) : Str := if signs = Str.ofString "" then Str.ofString "" else Str.ofString "=?" ++ cs ++ Str.ofString "?q?" ++ signs ++ Str.ofString "?="
noncomputable def gRow (size : Nat) : D → List D
  | .tuple [.list r, .str s] => if s.length = size then [.list r] else []
  | _ => []
noncomputable def gWord (size : Nat) : D → List D
  | .tstr x t => if x.length = size then [.tstr x t] else []
  | _ => []
theorem gRow_eq (size : Nat) (rs : List Row) : (rs.map RowD).flatMap (gRow size) = rowsD ((rs.filter fun r => decide (r.2.length = size)).map (·.1)) := by
  unfold rowsD
  induction rs with
  | nil => rfl
  | cons r rs ih =>
    rw [List.map_cons, List.flatMap_cons, ih]
    show (if r.2.length = size then [D.list (r.1.map .int)] else []) ++ _ = _
    by_cases h : r.2.length = size
    · rw [if_pos h, List.filter_cons_of_pos (by simpa using h)]; rfl
    · rw [if_neg h, List.filter_cons_of_neg (by simpa using h)]; rfl
theorem gWord_eq (size : Nat) (ws : List (Str × Nat)) : (tokd ws).flatMap (gWord size) = tokd (ws.filter fun w => decide (w.1.length = size)) := by
  unfold tokd
  induction ws with
  | nil => rfl
  | cons r rs ih =>
    rw [List.map_cons, List.flatMap_cons, ih]
    show (if r.1.length = size then [D.tstr r.1 r.2] else []) ++ _ = _
    by_cases h : r.1.length = size
    · rw [if_pos h, List.filter_cons_of_pos (by simpa using h)]; rfl
    · rw [if_neg h, List.filter_cons_of_neg (by simpa using h)]; rfl
/-- the words' tokens -/
noncomputable def WordsJ (found : List Row) (i : Nat) (wl : List (Str × Nat)) (k : Nat) : Prop :=
  wl.map (·.1) = (found.take i).map (·.2) ∧ (∀ p ∈ wl, p.1.length ≠ 0 → p.2 ≠ 0 ∧ p.2 < k) ∧ ∀ p ∈ wl, ∀ q ∈ wl, p.1.length ≠ 0 → q.1.length ≠ 0 → p.2 = q.2 → p.1 = q.1
theorem WordsJ.up {found : List Row} {i : Nat} {wl : List (Str × Nat)} {k k' : Nat} (h : WordsJ found i wl k) (hk : k ≤ k') : WordsJ found i wl k' :=
  ⟨h.1, fun p hp hn => ⟨(h.2.1 p hp hn).1, Nat.lt_of_lt_of_le (h.2.1 p hp hn).2 hk⟩, h.2.2⟩
theorem WordsJ.step {found : List Row} {i : Nat} {wl : List (Str × Nat)} {k k' : Nat} {r : Row} {t : Nat} (h : WordsJ found i wl k) (hr : found[i]? = some r) (hk : k ≠ 0) (hkk : k ≤ k') (ht : r.2.length ≠ 0 → k ≤ t ∧ t < k') : WordsJ found (i + 1) (wl ++ [(r.2, t)]) k' := by
  refine ⟨?_, ?_, ?_⟩
  · rw [List.map_append, h.1, List.take_add_one, hr, List.map_append]; rfl
  · intro p hp hn
    rcases List.mem_append.mp hp with hp | hp
    · have := h.2.1 p hp hn; exact ⟨this.1, by omega⟩
    · rw [List.mem_singleton.mp hp] at hn ⊢
      have := ht hn
      exact ⟨by show t ≠ 0; omega, this.2⟩
  · intro p hp q hq hn hm e
    rcases List.mem_append.mp hp with hp | hp <;> rcases List.mem_append.mp hq with hq | hq
    · exact h.2.2 p hp q hq hn hm e
    · rw [List.mem_singleton.mp hq] at e hm
      have := ht hm; have := h.2.1 p hp hn
      have e' : p.2 = t := e
      omega
    · rw [List.mem_singleton.mp hp] at e hn
      have := ht hn; have := h.2.1 q hq hm
      have e' : t = q.2 := e
      omega
    · rw [List.mem_singleton.mp hp, List.mem_singleton.mp hq]
theorem cps_nil {x : Str} (h : x.length = 0) : x = Str.ofString "" := by
  obtain ⟨⟨l⟩⟩ := x
  cases l with
  | nil => rfl
  | cons a b => cases h
theorem str_ext {x y : Str} (h : x.cps.toList = y.cps.toList) : x = y := by
  obtain ⟨⟨l⟩⟩ := x
  obtain ⟨⟨m⟩⟩ := y
  cases h; rfl
theorem app_list (x y : Str) : (x ++ y).cps.toList = x.cps.toList ++ y.cps.toList := by
  show (Str.append x y).cps.toList = _
  simp [Str.append]
theorem byteArr_nat (ns : List Int) (h : ∀ n ∈ ns, 0 ≤ n ∧ n < 256) : (byteArr ns).toList.map (·.toNat) = ns.map (·.toNat) := by
  unfold byteArr
  rw [List.map_map]
  refine List.map_congr_left fun n hn => ?_
  have := h n hn
  show n.toNat.toUInt8.toNat = n.toNat
  rw [Nat.toUInt8_eq, UInt8.toNat_ofNat']
  omega
/-- what the module writes is what the law says -/
theorem enc_word (cs : Str) (r : Row) (h1 : ∀ o ∈ r.1, 0 ≤ o ∧ o < 256) (h2 : r.2.cps.toList = r.1.flatMap fun o => (codeOf o.toNat).cps.toList) : encOf cs (byteArr r.1) = wordOf cs r.2 := by
  have hs : signsOf (byteArr r.1) = r.2 := by
    refine str_ext ?_
    unfold signsOf
    rw [byteArr_nat _ h1, List.flatMap_map, h2]
  unfold encOf wordOf
  rw [hs, byteArr_size]
  by_cases he : r.1.length = 0
  · have hr : r.1 = [] := List.length_eq_zero_iff.mp he
    have : r.2 = Str.ofString "" := by
      refine cps_nil ?_
      rw [hr] at h2
      show r.2.cps.size = 0
      rw [← Array.length_toList, h2]; rfl
    rw [if_pos he, if_pos this]
  · rw [if_neg he, if_neg]
    intro hr
    rw [hr] at h2
    match hrr : r.1, he with
    | o :: os, _ =>
      rw [hrr, List.flatMap_cons] at h2
      have ho := h1 o (by rw [hrr]; simp)
      have hcl := (code_len ⟨o.toNat, by omega⟩).2
      have := congrArg List.length h2
      rw [List.length_append] at this
      have e0 : (Str.ofString "").cps.toList.length = 0 := rfl
      rw [e0] at this
      have e1 : (codeOf o.toNat).cps.toList.length = (codeOf o.toNat).length := Array.length_toList
      have hcl' : 1 ≤ (codeOf o.toNat).length := hcl
      omega
theorem word_cut (cs signs : Str) : cut (wordOf cs signs).cps.toList (some ((cs.length + 5 : Nat) : Int)) (some (-((2 : Nat) : Int))) = signs.cps.toList ∧ (signs.length ≠ 0 → signs.length ≠ (wordOf cs signs).length) := by
  rw [cut_inner _ _ _ (by decide)]
  by_cases h : signs = Str.ofString ""
  · subst h
    refine ⟨?_, fun h => absurd rfl h⟩
    unfold wordOf
    rw [if_pos rfl]
    have e : (Str.ofString "").cps.toList = [] := rfl
    rw [e]; simp
  · unfold wordOf
    rw [if_neg h]
    have e : (Str.ofString "=?" ++ cs ++ Str.ofString "?q?" ++ signs ++ Str.ofString "?=").cps.toList = ((Str.ofString "=?").cps.toList ++ cs.cps.toList ++ (Str.ofString "?q?").cps.toList) ++ (signs.cps.toList ++ (Str.ofString "?=").cps.toList) := by
      simp only [app_list, List.append_assoc]
    have l0 : ((Str.ofString "=?").cps.toList ++ cs.cps.toList ++ (Str.ofString "?q?").cps.toList).length = cs.length + 5 := by
      simp only [List.length_append]
      have : cs.cps.toList.length = cs.length := Array.length_toList
      have e1 : (Str.ofString "=?").cps.toList.length = 2 := rfl
      have e2 : (Str.ofString "?q?").cps.toList.length = 3 := rfl
      omega
    have l2 : (Str.ofString "?=").cps.toList.length = 2 := rfl
    constructor
    · rw [e, List.drop_append_of_le_length (by omega), List.drop_of_length_le (by omega), List.nil_append, List.length_append, l0, List.length_append, l2]
      have : cs.length + 5 + (signs.cps.toList.length + 2) - 2 - (cs.length + 5) = signs.cps.toList.length := by omega
      rw [this, List.take_left]
    · intro _
      have := congrArg List.length e
      rw [List.length_append, l0, List.length_append, l2, Array.length_toList, Array.length_toList] at this
      have h1 : (Str.ofString "=?" ++ cs ++ Str.ofString "?q?" ++ signs ++ Str.ofString "?=").cps.size = (Str.ofString "=?" ++ cs ++ Str.ofString "?q?" ++ signs ++ Str.ofString "?=").length := rfl
      have h2 : signs.cps.size = signs.length := rfl
      omega
end Mine

end
section
open PySem PySem.Calls PyProof.Rows PySem.W PySem.Spec PySem.SeqAt
namespace Mine
set_option Elab.async false
set_option maxRecDepth 100000
set_option linter.unusedVariables false
section
variable {C : Cx}
theorem octNat {o : Int} (h : 0 ≤ o ∧ o < 256) : o = ((o.toNat : Nat) : Int) := by omega
theorem d_check' (pm : PM C) {o : Int} (h : 0 ≤ o ∧ o < 256) : Def C 1 (Str.ofString "header_check") [.int o] (.bool (checkO o)) := by
  have := d_check pm o.toNat (by omega)
  rw [← octNat h] at this
  exact this
theorem short_le (os : List Int) : shortN os ≤ os.length := by
  unfold shortN
  refine Nat.le_trans (List.length_filter_le _ _) ?_
  rw [List.length_map]; exact Nat.le_refl _
theorem room_le (os : List Int) (h : os.length = 3) : 3 ≤ roomN os ∧ roomN os ≤ 9 := by
  have := short_le os
  unfold roomN
  match hs : shortN os with
  | 0 => decide
  | 1 => decide
  | 2 => decide
  | 3 => decide
  | k + 4 => omega
theorem sign_small {os : List Int} (H : LawOk os) (r : Row) (hr : r ∈ foundOf os) : r.2.length ≤ 100000 := by
  have := (H.rows r hr).2.2
  have h9 := (H.rows r hr).2.1
  have hb : ∀ (xs : List Int), (∀ o ∈ xs, 0 ≤ o ∧ o < 256) → (xs.flatMap fun o => (codeOf o.toNat).cps.toList).length ≤ 3 * xs.length := by
    intro xs hx
    induction xs with
    | nil => simp
    | cons x xs ih =>
      rw [List.flatMap_cons, List.length_append, List.length_cons]
      have h1 := (code_len ⟨x.toNat, by have := hx x (by simp); omega⟩).1
      have h2 := ih fun o ho => hx o (List.mem_cons_of_mem _ ho)
      have h3 : (codeOf x.toNat).cps.toList.length = (codeOf x.toNat).length := Array.length_toList
      have h1' : (codeOf x.toNat).length ≤ 3 := h1
      omega
  have h5 := hb r.1 (H.rows r hr).1
  have h6 := congrArg List.length this
  have h7 : r.2.cps.toList.length = r.2.length := Array.length_toList
  omega
/-- behind the words: walks, sizes -/
theorem law_end (pm : PM C) (os : List Int) (H : LawOk os) (wl : List (Str × Nat)) (k : Nat) (hk : k ≠ 0) (hw : WordsJ (foundOf os) (foundOf os).length wl k) {l : Loc}
    (h1 : l "words" = some (.list (tokd wl))) (h2 : l "short" = some (.int (shortN os : Nat))) (h3 : l "room" = some (.int (roomN os : Nat))) (h4 : l "found" = some (.list ((foundOf os).map RowD))) (h5 : l "walks" = none) :
    SxT C 3 s32.1 l none k (b32.1.drop 11) (fun r _ => retQ (fun d => d = .bool true) r) := by
  have pc := pm.toPC
  have hr := room_le os H.len
  have hs3 := short_le os
  rw [H.len] at hs3
  have hbig0 := H.big
  refine SxT.grow (ds := (walksUp (shortN os : Nat) 0).map .int) (Exs.cons Ex.int (Exs.cons (Ex.var h2) (Exs.cons (Ex.callD (Own.mk' pc.m21 (by decide +kernel)) (Exs.cons (Ex.var h2) (Exs.cons (Ex.var h2) Exs.nil)) ((d_mul pc _ _ (by omega)).le (by omega))) Exs.nil))) ?_ (Nat.le_of_ble_eq_true rfl) (by decide +kernel) (by decide +kernel) h5
  refine SxT.cons (R₁ := fun y _ => ∃ l', y = .next l' (some ("walks", (walksOf os).map .int)) ∧ l' "words" = some (.list (tokd wl)) ∧ l' "room" = some (.int (roomN os : Nat)) ∧ l' "found" = some (.list ((foundOf os).map RowD)))
    (S1.T (S1.for (Q := fun y => ∃ l', y = .next l' (some ("walks", (walksOf os).map .int)) ∧ l' "words" = some (.list (tokd wl)) ∧ l' "room" = some (.int (roomN os : Nat)) ∧ l' "found" = some (.list ((foundOf os).map RowD)))
      (ExI.range1 (pc.blt (x := "range") (by simp) (by decide +kernel) (by kernel_rfl)) (Exs.cons (Ex.bin (Ex.var h3) Ex.int (o_sub _ _)) Exs.nil) (.name _ _) (by omega))
      (fun i l o => o = some ("walks", (walksUp (shortN os : Nat) i).map .int) ∧ l "short" = some (.int (shortN os : Nat)) ∧ l "words" = some (.list (tokd wl)) ∧ l "room" = some (.int (roomN os : Nat)) ∧ l "found" = some (.list ((foundOf os).map RowD))) ⟨rfl, h2, h1, h3, h4⟩ ?_ ?_) fun _ _ h _ => h) ?_ ?_
  · rintro i d l' o' hd ⟨rfl, g1, g2, g3, g4⟩
    refine ⟨_, .name (.inl (by decide +kernel)) (fun _ _ h => by cases h; decide), ?_⟩
    have hi : i < roomN os - 2 := by have := (rangeD_get hd).2; omega
    have hwlen := walksUp_len (shortN os : Nat) i
    have hb1 := hbig0 i (by omega)
    have e0 : walksUp (shortN os : Nat) (i + 1) = walksUp (shortN os : Nat) i ++ [(shortN os : Nat) * (walksUp (shortN os : Nat) i).getD ((walksUp (shortN os : Nat) i).length - 1) 0 + (3 - (shortN os : Nat)) * (walksUp (shortN os : Nat) i).getD ((walksUp (shortN os : Nat) i).length - 3) 0] := rfl
    generalize hwk : walksUp (shortN os : Nat) i = wk at hwlen hb1 e0
    have f1 : put "walks" (.list (wk.map .int)) (put "_" d l') "short" = some (.int (shortN os : Nat)) := by rw [put_ne _ _ (by decide), put_ne _ _ (by decide)]; exact g1
    have f2 : put "walks" (.list (wk.map .int)) (put "_" d l') "walks" = some (.list (wk.map .int)) := put_same _ _ _
    have at_ : ∀ j : Nat, 1 ≤ j → j ≤ 3 → ∀ {p1 p2 p3 p4 : Pos} {kk : Nat}, Ex C 3 s32.1 (put "walks" (.list (wk.map .int)) (put "_" d l')) (.Subscript (.Name (Str.ofString "walks") p1) (.UnaryOp .USub (.Constant (.int (j : Nat)) kk p2) p3) p4) (.int (wk.getD (wk.length - j) 0)) := by
      intro j hj1 hj3 p1 p2 p3 p4 kk
      refine Ex.idxN (ds := wk.map .int) (Ex.var f2) (Ex.un Ex.int (o_neg _)) (by omega) (by rw [List.length_map]; omega) ?_ (by omega)
      rw [List.getElem?_map, List.length_map]
      have e : (-(j : Int) + (wk.length : Int)).toNat = wk.length - j := by omega
      have hlt : wk.length - j < wk.length := by omega
      rw [e, List.getD_eq_getElem?_getD, List.getElem?_eq_getElem hlt]; rfl
    refine Sx.step (S1.appendF (d := .int ((shortN os : Nat) * wk.getD (wk.length - 1) 0 + (3 - (shortN os : Nat)) * wk.getD (wk.length - 3) 0)) (by rw [List.length_map]; omega) (.int _) (Ex.callD (Own.mk' pc.m18 (by decide +kernel)) (Exs.cons (Ex.callD (Own.mk' pc.m21 (by decide +kernel)) (Exs.cons (Ex.var f1) (Exs.cons (at_ 1 (by omega) (by omega)) Exs.nil)) ((d_mul pc _ _ (by omega)).le (by omega)))
      (Exs.cons (Ex.callD (Own.mk' pc.m21 (by decide +kernel)) (Exs.cons (Ex.bin Ex.int (Ex.var f1) (o_sub _ _)) (Exs.cons (at_ 3 (by omega) (by omega)) Exs.nil)) ((d_mul pc _ _ (by omega)).le (by omega))) Exs.nil)) ((d_add pc _ _).le (by omega))) rfl) (Sx.nil ⟨?_, ?_, ?_, ?_, ?_⟩)
    · rw [e0, List.map_append]; rfl
    · rw [put_ne _ _ (by decide)]; exact g1
    · rw [put_ne _ _ (by decide)]; exact g2
    · rw [put_ne _ _ (by decide)]; exact g3
    · rw [put_ne _ _ (by decide)]; exact g4
  · rintro l' o' ⟨rfl, _, g2, g3, g4⟩
    have e : (rangeD 0 (((roomN os : Nat) : Int) - 2)).length = roomN os - 2 := by unfold rangeD; simp; omega
    rw [e]
    exact ⟨l', rfl, g2, g3, g4⟩
  · rintro l' o' k' ⟨l₂, h, g2, g3, g4⟩ hk'
    cases h
    refine SxT.freeze ?_
    have j1 : put "walks" (.list ((walksOf os).map .int)) l' "walks" = some (.list ((walksOf os).map .int)) := put_same _ _ _
    have j2 : put "walks" (.list ((walksOf os).map .int)) l' "words" = some (.list (tokd wl)) := by rw [put_ne _ _ (by decide)]; exact g2
    have j3 : put "walks" (.list ((walksOf os).map .int)) l' "room" = some (.int (roomN os : Nat)) := by rw [put_ne _ _ (by decide)]; exact g3
    have j4 : put "walks" (.list ((walksOf os).map .int)) l' "found" = some (.list ((foundOf os).map RowD)) := by rw [put_ne _ _ (by decide)]; exact g4
    generalize put "walks" (.list ((walksOf os).map .int)) l' = l₃ at j1 j2 j3 j4
    have hwll : (walksOf os).length = roomN os + 1 := by unfold walksOf; rw [walksUp_len]; omega
    have hfl := (H.szs (roomN os) (Nat.le_refl _)).2
    have hwl : wl.length = (foundOf os).length := by
      have := congrArg List.length hw.1
      rwa [List.take_length, List.length_map, List.length_map] at this
    have hfl' : (foundOf os).length ≤ 5000 := hfl
    refine SxT.cons (R₁ := fun y _ => ∃ l', y = .next l' none) (S1T.for (ExI.range2 (pc.blt (x := "range") (by simp) (by decide +kernel) (by kernel_rfl)) (Exs.cons Ex.int (Exs.cons (Ex.bin (Ex.var j3) Ex.int (o_add _ _)) Exs.nil)) (.name _ _) (by decide) (by omega))
      (fun i l o _ => o = none ∧ l "walks" = some (.list ((walksOf os).map .int)) ∧ l "words" = some (.list (tokd wl)) ∧ l "found" = some (.list ((foundOf os).map RowD))) ⟨rfl, j1, j2, j4⟩ (fun _ _ _ _ _ h _ => h) ?_ ?_) ?_ ?_
    · rintro i d l₄ o₄ k₄ hd ⟨rfl, q1, q2, q3⟩ hk₄
      obtain ⟨rfl, hi⟩ := rangeD_get hd
      have hi' : i + 1 ≤ roomN os := by omega
      refine ⟨_, .name (.inr (by decide +kernel)) (fun _ _ h => by cases h), ?_⟩
      have e1 : (1 + (i : Int)) = ((i + 1 : Nat) : Int) := by omega
      rw [e1]
      have r1 : put "size" (.int ((i + 1 : Nat) : Int)) l₄ "walks" = some (.list ((walksOf os).map .int)) := by rw [put_ne _ _ (by decide)]; exact q1
      have r2 : put "size" (.int ((i + 1 : Nat) : Int)) l₄ "words" = some (.list (tokd wl)) := by rw [put_ne _ _ (by decide)]; exact q2
      have r3 : put "size" (.int ((i + 1 : Nat) : Int)) l₄ "found" = some (.list ((foundOf os).map RowD)) := by rw [put_ne _ _ (by decide)]; exact q3
      have r4 : put "size" (.int ((i + 1 : Nat) : Int)) l₄ "size" = some (.int ((i + 1 : Nat) : Int)) := put_same _ _ _
      generalize put "size" (.int ((i + 1 : Nat) : Int)) l₄ = l₅ at r1 r2 r3 r4
      have hat : (atSize os (i + 1)).length ≤ 5000 := Nat.le_trans (List.length_filter_le _ _) hfl'
      have hcap : ∀ y ∈ ["size"], (l₅ y).isSome = true := fun y hy => by rw [List.mem_singleton.mp hy, r4]; rfl
      refine SxT.step (S1.assignComp (ys := rowsD ((atSize os (i + 1)).map (·.1))) (fr := ["size"]) (g := gRow (i + 1)) compE1 (ExI.list (Ex.var r3) (.pair _ _ _)) (Block.mk' rfl (by decide +kernel) (by decide +kernel) (by decide +kernel) hcap) ?_ (gRow_eq _ _) (by unfold rowsD; simp only [List.length_map]; omega) rfl (by decide +kernel) (fun _ _ h => by cases h) (by decide +kernel)) fun k₅ hk₅ => ?_
      · intro d' hd'
        obtain ⟨r, hr, rfl⟩ := List.mem_map.mp hd'
        have hsl := sign_small H r hr
        refine ⟨_, decide (r.2.length = i + 1), .pair (by decide +kernel) (by decide +kernel) (cap_out (by decide)) (cap_out (by decide)) (by decide), .one ((Tx.cmp (Ex.callB (pc.blt (x := "len") (by simp) (by decide +kernel) (by kernel_rfl)) (Exs.cons (Ex.var (put_same _ _ _)) Exs.nil) (c_lens _ hsl)) (Ex.var (x := "size") (by rw [put_ne _ _ (by decide), put_ne _ _ (by decide)]; exact cap_in (by simp) r4)) (o_eq _ _)).to ?_), (fun h => ?_), fun h => ?_⟩
        · rw [Bool.eq_iff_iff]; simp; omega
        · show (if r.2.length = i + 1 then _ else _) = _
          rw [if_neg (of_decide_eq_false h)]
        · have e : gRow (i + 1) (RowD r) = [.list (r.1.map .int)] := by
            show (if r.2.length = i + 1 then _ else _) = _
            rw [if_pos (of_decide_eq_true h)]
          rw [e]
          exact BodyOk.emit (Ex.var (by rw [put_ne _ _ (by decide), put_same]))
      · have u1 : put "rows" (.list (rowsD ((atSize os (i + 1)).map (·.1)))) l₅ "rows" = some (.list (rowsD ((atSize os (i + 1)).map (·.1)))) := put_same _ _ _
        have u2 : put "rows" (.list (rowsD ((atSize os (i + 1)).map (·.1)))) l₅ "walks" = some (.list ((walksOf os).map .int)) := by rw [put_ne _ _ (by decide)]; exact r1
        have u3 : put "rows" (.list (rowsD ((atSize os (i + 1)).map (·.1)))) l₅ "words" = some (.list (tokd wl)) := by rw [put_ne _ _ (by decide)]; exact r2
        have u4 : put "rows" (.list (rowsD ((atSize os (i + 1)).map (·.1)))) l₅ "found" = some (.list ((foundOf os).map RowD)) := by rw [put_ne _ _ (by decide)]; exact r3
        have u5 : put "rows" (.list (rowsD ((atSize os (i + 1)).map (·.1)))) l₅ "size" = some (.int ((i + 1 : Nat) : Int)) := by rw [put_ne _ _ (by decide)]; exact r4
        generalize put "rows" (.list (rowsD ((atSize os (i + 1)).map (·.1)))) l₅ = l₆ at u1 u2 u3 u4 u5
        have hcap2 : ∀ y ∈ ["size"], (l₆ y).isSome = true := fun y hy => by rw [List.mem_singleton.mp hy, u5]; rfl
        have hwm : (wl.filter fun w => decide (w.1.length = i + 1)).map (·.1) = (atSize os (i + 1)).map (·.2) := by
          have h0 := hw.1
          rw [List.take_length] at h0
          unfold atSize
          have : (wl.map (·.1)).filter (fun x => decide (x.length = i + 1)) = ((foundOf os).map (·.2)).filter (fun x => decide (x.length = i + 1)) := by rw [h0]
          rw [List.filter_map, List.filter_map] at this
          exact this
        have htold : Told (wl.filter fun w => decide (w.1.length = i + 1)) := by
          refine ⟨fun p hp => ?_, fun p hp q hq e => ?_⟩
          · obtain ⟨hp, hl⟩ := List.mem_filter.mp hp
            have hl' := of_decide_eq_true hl
            exact (hw.2.1 p hp (by omega)).1
          · obtain ⟨hp, hl⟩ := List.mem_filter.mp hp
            obtain ⟨hq, hl2⟩ := List.mem_filter.mp hq
            have hl' := of_decide_eq_true hl
            have hl2' := of_decide_eq_true hl2
            exact hw.2.2 p hp q hq (by omega) (by omega) e
        have hlow : ∀ w ∈ (wl.filter fun w => decide (w.1.length = i + 1)), w.2 < k := by
          intro p hp
          obtain ⟨hp, hl⟩ := List.mem_filter.mp hp
          have hl' := of_decide_eq_true hl
          exact (hw.2.1 p hp (by omega)).2
        have kept : ∀ k₇, k ≤ k₇ → KeptOk (i + 1) ((atSize os (i + 1)).map (·.1)) (wl.filter fun w => decide (w.1.length = i + 1)) ((walksOf os).take (i + 1 + 1)) k₇ := fun k₇ hk₇ =>
          H.kept (i + 1) (by omega) hi' _ k₇ hwm htold fun w hw => Nat.lt_of_lt_of_le (hlow w hw) hk₇
        have hsl : ∀ {p1 p2 p3 p4 p5 p6 : Pos} {kk : Nat}, Ex C 3 s32.1 l₆ (.Subscript (.Name (Str.ofString "walks") p1) (.Slice none (some (.BinOp (.Name (Str.ofString "size") p2) .Add (.Constant (.int 1) kk p3) p4)) none p5) p6) (.list (((walksOf os).take (i + 1 + 1)).map .int)) := by
          intro p1 p2 p3 p4 p5 p6 kk
          rw [← cut_upto, ← pickL_plain, ← pickL_map]
          exact Ex.sliceL (a := none) (b := some ((i + 1 + 1 : Nat) : Int)) (c := none) (Ex.var u2) trivial (Ex.bin (Ex.var u5) Ex.int (o_add _ _)) trivial (fun h => by cases h) (by rw [List.length_map]; omega)
        refine SxT.cons (R₁ := fun y _ => y = .next l₆ none) (S1T.skip (TxT.not (b := true) (TxT.boolv (ExR.callD (Own.mk' pc.m31 (by decide +kernel)) (Exs.cons (Ex.var u1) (Exs.cons (Ex.comp (ys := tokd (wl.filter fun w => decide (w.1.length = i + 1))) (fr := ["size"]) (g := gWord (i + 1)) compE1 (ExI.list (Ex.var u3) (.name _ _)) (Block.mk' rfl (by decide +kernel) (by decide +kernel) (by decide +kernel) hcap2) ?_ (gWord_eq _ _) ?_) (Exs.cons ?_ Exs.nil))) fun k₇ hk₇ => r_kept pm (i + 1) _ _ _ k₇ (by omega) (kept k₇ (by omega))))) fun _ _ => rfl) ?_ (fun _ _ h => by cases h)
        · intro d' hd'
          obtain ⟨j, hj⟩ := List.mem_iff_getElem?.mp hd'
          obtain ⟨w, hw1, rfl⟩ := tokd_get hj
          have hwmem := List.mem_of_getElem? hw1
          have hwlen : w.1.length ≤ 100000 := by
            have h0 := hw.1
            rw [List.take_length] at h0
            have hm : w.1 ∈ (foundOf os).map (·.2) := by rw [← h0]; exact List.mem_map.mpr ⟨w, hwmem, rfl⟩
            obtain ⟨r, hr, e⟩ := List.mem_map.mp hm
            rw [← e]; exact sign_small H r hr
          refine ⟨_, decide (w.1.length = i + 1), .name (.inl (by decide +kernel)) (cap_out (by decide)), .one ((Tx.cmp (Ex.callB (pc.blt (x := "len") (by simp) (by decide +kernel) (by kernel_rfl)) (Exs.cons (Ex.forget (Ex.var (put_same _ _ _))) Exs.nil) (c_lens _ hwlen)) (Ex.var (x := "size") (by rw [put_ne _ _ (by decide)]; exact cap_in (by simp) u5)) (o_eq _ _)).to ?_), (fun h => ?_), fun h => ?_⟩
          · rw [Bool.eq_iff_iff]; simp; omega
          · show (if w.1.length = i + 1 then _ else _) = _
            rw [if_neg (of_decide_eq_false h)]
          · have e : gWord (i + 1) (.tstr w.1 w.2) = [.tstr w.1 w.2] := by
              show (if w.1.length = i + 1 then _ else _) = _
              rw [if_pos (of_decide_eq_true h)]
            rw [e]
            exact BodyOk.emit (Ex.var (put_same _ _ _))
        · unfold tokd; rw [List.length_map]; exact Nat.le_trans (List.length_filter_le _ _) (by omega)
        · exact hsl
        · rintro _ _ _ h _
          cases h
          exact SxT.nil fun _ _ => ⟨rfl, u2, u3, u4⟩
    · rintro l₄ o₄ _ ⟨rfl, _⟩ _
      exact ⟨l₄, rfl⟩
    · rintro l₄ o₄ k₄ ⟨l₅, h⟩ _
      cases h
      exact (SxT.ret1 (Ex.R (R := fun d _ => d = .bool true) Ex.bool fun _ _ => rfl)).mono fun x _ ⟨d, h, hd⟩ _ => by rw [h]; exact hd
    · rintro d _ ⟨_, h⟩; cases h
  · rintro d _ ⟨_, h, _⟩; cases h
end
end Mine

end
section
open PySem PySem.Calls PyProof.Rows PySem.W PySem.Spec PySem.SeqAt
namespace Mine
set_option Elab.async false
set_option maxRecDepth 100000
set_option linter.unusedVariables false
section
variable {C : Cx}
theorem law_words (pm : PM C) (os : List Int) (H : LawOk os) (cs : Str) (hcs : cs.length ≤ 100) {l : Loc}
    (h1 : l "name" = some (.str cs)) (h2 : l "short" = some (.int (shortN os : Nat))) (h3 : l "room" = some (.int (roomN os : Nat))) (h4 : l "found" = some (.list ((foundOf os).map RowD))) (h5 : l "walks" = none) (h6 : l "words" = none) :
    SxT C 3 s32.1 l none 0 (b32.1.drop 9) (fun r _ => retQ (fun d => d = .bool true) r) := by
  have pc := pm.toPC
  refine SxT.grow (ds := []) Exs.nil ?_ (Nat.le_of_ble_eq_true rfl) (by decide +kernel) (by decide +kernel) h6
  have hfl := (H.szs (roomN os) (Nat.le_refl _)).2
  have hfl' : (foundOf os).length ≤ 5000 := hfl
  refine SxT.cons (R₁ := fun y k' => ∃ l' wl, y = .next l' (some ("words", tokd wl)) ∧ WordsJ (foundOf os) (foundOf os).length wl k' ∧ l' "short" = some (.int (shortN os : Nat)) ∧ l' "room" = some (.int (roomN os : Nat)) ∧ l' "found" = some (.list ((foundOf os).map RowD)) ∧ l' "walks" = none)
    (S1T.for (ExI.list (Ex.var h4) (.pair _ _ _)) (fun i l o k' => ∃ wl, o = some ("words", tokd wl) ∧ WordsJ (foundOf os) i wl k' ∧ l "name" = some (.str cs) ∧ l "short" = some (.int (shortN os : Nat)) ∧ l "room" = some (.int (roomN os : Nat)) ∧ l "found" = some (.list ((foundOf os).map RowD)) ∧ l "walks" = none)
      ⟨[], rfl, ⟨rfl, (fun p h => by cases h), fun p h => by cases h⟩, h1, h2, h3, h4, h5⟩ ?_ ?_ ?_) ?_ ?_
  · rintro i l o k k' ⟨wl, a, b, c⟩ hk
    exact ⟨wl, a, b.up hk, c⟩
  · rintro i d l' o' k' hd ⟨wl, rfl, hw, g1, g2, g3, g4, g5⟩ hk'
    rw [List.getElem?_map] at hd
    obtain ⟨r, hr, rfl⟩ := Option.map_eq_some_iff.mp hd
    have hrm := List.mem_of_getElem? hr
    obtain ⟨hr1, hr2, hr3⟩ := H.rows r hrm
    have hsm := sign_small H r hrm
    refine ⟨_, .pair (.inl (by decide +kernel)) (.inl (by decide +kernel)) (fun _ _ h => by cases h; decide) (fun _ _ h => by cases h; decide), ?_⟩
    have c1 : put "signs" (.str r.2) (put "row" (.list (r.1.map .int)) l') "name" = some (.str cs) := by rw [put_ne _ _ (by decide), put_ne _ _ (by decide)]; exact g1
    have c2 : put "signs" (.str r.2) (put "row" (.list (r.1.map .int)) l') "short" = some (.int (shortN os : Nat)) := by rw [put_ne _ _ (by decide), put_ne _ _ (by decide)]; exact g2
    have c3 : put "signs" (.str r.2) (put "row" (.list (r.1.map .int)) l') "room" = some (.int (roomN os : Nat)) := by rw [put_ne _ _ (by decide), put_ne _ _ (by decide)]; exact g3
    have c4 : put "signs" (.str r.2) (put "row" (.list (r.1.map .int)) l') "found" = some (.list ((foundOf os).map RowD)) := by rw [put_ne _ _ (by decide), put_ne _ _ (by decide)]; exact g4
    have c5 : put "signs" (.str r.2) (put "row" (.list (r.1.map .int)) l') "walks" = none := by rw [put_ne _ _ (by decide), put_ne _ _ (by decide)]; exact g5
    have c6 : put "signs" (.str r.2) (put "row" (.list (r.1.map .int)) l') "signs" = some (.str r.2) := put_same _ _ _
    have c7 : put "signs" (.str r.2) (put "row" (.list (r.1.map .int)) l') "row" = some (.list (r.1.map .int)) := by rw [put_ne _ _ (by decide), put_same]
    generalize put "signs" (.str r.2) (put "row" (.list (r.1.map .int)) l') = l₁ at c1 c2 c3 c4 c5 c6 c7
    have hbz : (byteArr r.1).size ≤ 100 := by rw [byteArr_size]; omega
    have eb : ∀ {p1 p2 p3 : Pos}, Ex C 3 s32.1 l₁ (.Call (.Name (Str.ofString "bytes") p1) [.Name (Str.ofString "row") p2] [] p3) (.bytes (byteArr r.1)) := fun {_ _ _} =>
      Ex.callB (pc.blt (x := "bytes") (by simp) (by decide +kernel) (by kernel_rfl)) (Exs.cons (Ex.var c7) Exs.nil) (c_bytes r.1 hr1 (by omega))
    have ew := enc_word cs r hr1 hr3
    have hsn : r.2.length ≤ 27 := by
      have := signs_len (byteArr r.1)
      rw [byteArr_size] at this
      have hs : signsOf (byteArr r.1) = r.2 := by
        refine str_ext ?_
        unfold signsOf
        rw [byteArr_nat _ hr1, List.flatMap_map, hr3]
      rw [hs] at this; omega
    have hwl : (wordOf cs r.2).length ≤ 1000 := by
      unfold wordOf
      split
      · exact Nat.zero_le _
      · simp only [strLen_append]
        have e1 : (Str.ofString "=?").length = 2 := rfl
        have e2 : (Str.ofString "?q?").length = 3 := rfl
        have e3 : (Str.ofString "?=").length = 2 := rfl
        omega
    refine SxT.step (l' := put "word" (.str (wordOf cs r.2)) l₁) (S1.assign (Ex.ite (Tx.cmp (Ex.var c1) Ex.str (o_seq _ _)) (fun hc => ?_) fun hc => ?_) rfl) fun k₁ hk₁ => ?_
    · have hc' : cs = Str.ofString "iso-8859-1" := by simpa using hc
      rw [← ew, hc']
      exact Ex.enc1 pm (by decide +kernel) eb hbz
    · rw [← ew]
      exact Ex.enc2 pm (by decide +kernel) eb (Ex.var c1) hbz (by omega)
    · have e1 : put "word" (.str (wordOf cs r.2)) l₁ "name" = some (.str cs) := by rw [put_ne _ _ (by decide)]; exact c1
      have e2 : put "word" (.str (wordOf cs r.2)) l₁ "short" = some (.int (shortN os : Nat)) := by rw [put_ne _ _ (by decide)]; exact c2
      have e3 : put "word" (.str (wordOf cs r.2)) l₁ "room" = some (.int (roomN os : Nat)) := by rw [put_ne _ _ (by decide)]; exact c3
      have e4 : put "word" (.str (wordOf cs r.2)) l₁ "found" = some (.list ((foundOf os).map RowD)) := by rw [put_ne _ _ (by decide)]; exact c4
      have e5 : put "word" (.str (wordOf cs r.2)) l₁ "walks" = none := by rw [put_ne _ _ (by decide)]; exact c5
      have e6 : put "word" (.str (wordOf cs r.2)) l₁ "signs" = some (.str r.2) := by rw [put_ne _ _ (by decide)]; exact c6
      have e7 : put "word" (.str (wordOf cs r.2)) l₁ "word" = some (.str (wordOf cs r.2)) := put_same _ _ _
      generalize put "word" (.str (wordOf cs r.2)) l₁ = l₂ at e1 e2 e3 e4 e5 e6 e7
      have k1 : (Str.ofString "=?").length = 2 := rfl
      have k2 : (Str.ofString "?q?").length = 3 := rfl
      have k3 : (Str.ofString "?=").length = 2 := rfl
      refine SxT.step (l' := l₂) (o' := some ("words", tokd wl)) (S1.skip ((Tx.cmp (d₂ := .str (wordOf cs r.2)) (Ex.var e7) (Ex.ite (Tx.cmp (Ex.var e6) Ex.str (o_sne _ _)) (fun hc => ?_) fun hc => ?_) (o_sne _ _)).to (by simp)) rfl) fun k₂ hk₂ => ?_
      · have hc' : r.2 ≠ Str.ofString "" := by simpa using hc
        refine (Ex.bin (Ex.bin (Ex.bin (Ex.bin Ex.str (Ex.var e1) (o_cat _ _ (by omega))) Ex.str (o_cat _ _ (by simp only [strLen_append]; omega))) (Ex.var e6) (o_cat _ _ (by simp only [strLen_append]; omega))) Ex.str (o_cat _ _ (by simp only [strLen_append]; omega))).to ?_
        unfold wordOf; rw [if_neg hc']
      · have hc' : r.2 = Str.ofString "" := by simpa using hc
        refine Ex.str.to ?_
        unfold wordOf; rw [if_pos hc']
      · obtain ⟨wc1, wc2⟩ := word_cut cs r.2
        have hlen2 : wl.length ≤ 5000 := by
          have := congrArg List.length hw.1
          rw [List.length_map, List.length_map, List.length_take] at this
          omega
        refine SxT.cons (R₁ := fun y k'' => ∃ t, y = .next l₂ (some ("words", tokd (wl ++ [(r.2, t)]))) ∧ k₂ ≤ k'' ∧ (r.2.length ≠ 0 → k₂ ≤ t ∧ t < k''))
          ((S1T.append (R := Sliced k₂ (wordOf cs r.2) (some ((cs.length + 5 : Nat) : Int)) (some (-((2 : Nat) : Int)))) (Q := fun y k'' => ∃ t, y = .next l₂ (some ("words", tokd (wl ++ [(r.2, t)]))) ∧ (r.2.length ≠ 0 → k₂ ≤ t ∧ t < k'')) (by unfold tokd; rw [List.length_map]; omega)
            (ExR.sliceS (a := some ((cs.length + 5 : Nat) : Int)) (b := some (-((2 : Nat) : Int))) (Ex.var e7) ?_ ?_ (by omega)) ?_).mono ?_) ?_ ?_
        · exact Ex.bin (Ex.callB (pc.blt (x := "len") (by simp) (by decide +kernel) (by kernel_rfl)) (Exs.cons (Ex.var e1) Exs.nil) (c_lens _ (by omega))) Ex.int (o_add _ _)
        · exact Ex.un Ex.int (o_neg _)
        · rintro d k₃ ⟨t, rfl, ht⟩
          refine ⟨t, ?_, fun hn => ht ?_⟩
          · have e : (⟨(cut (wordOf cs r.2).cps.toList (some ((cs.length + 5 : Nat) : Int)) (some (-((2 : Nat) : Int)))).toArray⟩ : Str) = r.2 := by rw [wc1]
            rw [e]; unfold tokd; rw [List.map_append]; rfl
          · rw [wc1, Array.length_toList]
            exact wc2 hn
        · rintro x k₃ ⟨t, hx, ht⟩ hk₃
          exact ⟨t, hx, hk₃, ht⟩
        · rintro l₃ o₃ k₃ ⟨t, h, hk₃, ht⟩ _
          cases h
          exact SxT.nil fun k₄ hk₄ => ⟨_, rfl, (hw.up (by omega : k' ≤ k₂)).step hr (by omega) (by omega) (fun hn => ⟨(ht hn).1, by have := (ht hn).2; omega⟩), e1, e2, e3, e4, e5⟩
        · rintro d k₃ ⟨_, h, _⟩; cases h
  · rintro l' o' k' ⟨wl, rfl, hw, g1, g2, g3, g4, g5⟩ hk'
    rw [List.length_map] at hw
    exact ⟨l', wl, rfl, hw, g2, g3, g4, g5⟩
  · rintro l' o' k' ⟨l₂, wl, h, hw, g2, g3, g4, g5⟩ hk'
    cases h
    refine SxT.freeze (law_end pm os H wl k' (by omega) hw (put_same _ _ _) ?_ ?_ ?_ ?_)
    · rw [put_ne _ _ (by decide)]; exact g2
    · rw [put_ne _ _ (by decide)]; exact g3
    · rw [put_ne _ _ (by decide)]; exact g4
    · rw [put_ne _ _ (by decide)]; exact g5
  · rintro d k' ⟨_, _, h, _⟩; cases h
end
end Mine

end
section
open PySem PySem.Calls PyProof.Rows PySem.W PySem.Spec PySem.SeqAt
namespace Mine
set_option Elab.async false
set_option maxRecDepth 100000
set_option linter.unusedVariables false
theorem name_at (k : Nat) (h : k < 3) : [Str.ofString "x", Str.ofString "iso-8859-1", Str.ofString "Big5"][k]? = some ([Str.ofString "x", Str.ofString "iso-8859-1", Str.ofString "Big5"].getD k (Str.ofString "x")) ∧ ([Str.ofString "x", Str.ofString "iso-8859-1", Str.ofString "Big5"].getD k (Str.ofString "x")).length ≤ 100 := by
  match k, h with
  | 0, _ => exact ⟨rfl, Nat.le_of_ble_eq_true rfl⟩
  | 1, _ => exact ⟨rfl, Nat.le_of_ble_eq_true rfl⟩
  | 2, _ => exact ⟨rfl, Nat.le_of_ble_eq_true rfl⟩
section
variable {C : Cx}
theorem law_codes (pm : PM C) (os : List Int) (H : LawOk os) (cs : Str) (hcs : cs.length ≤ 100) {l : Loc}
    (h1 : l "name" = some (.str cs)) (h2 : l "octets" = some (.list (os.map .int))) (h5 : l "walks" = none) (h6 : l "words" = none) :
    SxT C 3 s32.1 l none 0 (b32.1.drop 4) (fun r _ => retQ (fun d => d = .bool true) r) := by
  have pc := pm.toPC
  have hl3 := H.len
  -- the codes
  refine SxT.step (S1.assignComp (ys := (codesOf os).map CodeD) (fr := []) (g := gCode) compE1 (ExI.list (Ex.var h2) (.name _ _)) (Block.mk' rfl (by decide +kernel) (by decide +kernel) (by decide +kernel) (fun y hy => by cases hy)) ?_ (gCode_eq os) (by unfold codesOf; simp only [List.length_map]; omega) rfl (by decide +kernel) (fun _ _ h => by cases h) (by decide +kernel)) fun k₁ hk₁ => ?_
  · intro d hd
    obtain ⟨o, ho, rfl⟩ := List.mem_map.mp hd
    have hr := H.rng o ho
    refine ⟨_, true, .name (.inl (by decide +kernel)) (cap_out (by simp)), .nil, (fun h => by cases h), fun _ => ?_⟩
    have hc := (d_code pc o.toNat (by omega)).le (show 2 ≤ 3 by omega)
    rw [← octNat hr] at hc
    exact BodyOk.emit (Ex.tuple (Exs.cons (Ex.var (put_same _ _ _)) (Exs.cons (Ex.callD (Own.mk' pc.m26 (by decide +kernel)) (Exs.cons (Ex.var (put_same _ _ _)) Exs.nil) hc) Exs.nil)) (Nat.le_of_ble_eq_true rfl))
  have a1 : put "codes" (.list ((codesOf os).map CodeD)) l "name" = some (.str cs) := by rw [put_ne _ _ (by decide)]; exact h1
  have a2 : put "codes" (.list ((codesOf os).map CodeD)) l "octets" = some (.list (os.map .int)) := by rw [put_ne _ _ (by decide)]; exact h2
  have a3 : put "codes" (.list ((codesOf os).map CodeD)) l "codes" = some (.list ((codesOf os).map CodeD)) := put_same _ _ _
  have a4 : put "codes" (.list ((codesOf os).map CodeD)) l "walks" = none := by rw [put_ne _ _ (by decide)]; exact h5
  have a5 : put "codes" (.list ((codesOf os).map CodeD)) l "words" = none := by rw [put_ne _ _ (by decide)]; exact h6
  generalize put "codes" (.list ((codesOf os).map CodeD)) l = l₁ at a1 a2 a3 a4 a5
  -- header_check says what the codes say
  refine SxT.cons (R₁ := fun y _ => ∃ l', y = .next l' none ∧ l' "name" = some (.str cs) ∧ l' "octets" = some (.list (os.map .int)) ∧ l' "codes" = some (.list ((codesOf os).map CodeD)) ∧ l' "walks" = none ∧ l' "words" = none)
    (S1.T (S1.for (Q := fun y => ∃ l', y = .next l' none ∧ l' "name" = some (.str cs) ∧ l' "octets" = some (.list (os.map .int)) ∧ l' "codes" = some (.list ((codesOf os).map CodeD)) ∧ l' "walks" = none ∧ l' "words" = none) (ExI.list (Ex.var a3) (.pair _ _ _))
      (fun i l o => o = none ∧ l "name" = some (.str cs) ∧ l "octets" = some (.list (os.map .int)) ∧ l "codes" = some (.list ((codesOf os).map CodeD)) ∧ l "walks" = none ∧ l "words" = none) ⟨rfl, a1, a2, a3, a4, a5⟩ ?_ ?_) fun _ _ h _ => h) ?_ ?_
  · rintro i d l' o' hd ⟨rfl, g1, g2, g3, g4, g5⟩
    rw [List.getElem?_map] at hd
    obtain ⟨c, hc, rfl⟩ := Option.map_eq_some_iff.mp hd
    unfold codesOf at hc
    rw [List.getElem?_map] at hc
    obtain ⟨o, ho, rfl⟩ := Option.map_eq_some_iff.mp hc
    have hr := H.rng o (List.mem_of_getElem? ho)
    refine ⟨_, .pair (.inl (by decide +kernel)) (.inl (by decide +kernel)) (fun _ _ h => by cases h) (fun _ _ h => by cases h), ?_⟩
    have c1 : put "code" (.str (codeOf o.toNat)) (put "octet" (.int o) l') "octet" = some (.int o) := by rw [put_ne _ _ (by decide), put_same]
    have c2 : put "code" (.str (codeOf o.toNat)) (put "octet" (.int o) l') "code" = some (.str (codeOf o.toNat)) := put_same _ _ _
    have hcl := (code_len ⟨o.toNat, by omega⟩).1
    have hcl' : (codeOf o.toNat).length ≤ 3 := hcl
    have hsaid := check_said ⟨o.toNat, by omega⟩
    refine Sx.step (S1.skip ((Tx.cmp (Ex.callD (Own.mk' pc.m11 (by decide +kernel)) (Exs.cons (Ex.var c1) Exs.nil) ((d_check' pm hr).le (by omega))) (Ex.or2 (Ex.cmp (Ex.callB (pc.blt (x := "len") (by simp) (by decide +kernel) (by kernel_rfl)) (Exs.cons (Ex.var c2) Exs.nil) (c_lens _ (by omega))) Ex.int (o_eq _ _)) fun _ => Ex.cmp (Ex.var c1) Ex.int (o_eq _ _)) (o_isnot _ _)).to ?_) rfl) (Sx.nil ⟨rfl, ?_, ?_, ?_, ?_, ?_⟩)
    · have e1 : ((((codeOf o.toNat).length : Nat) : Int) == 3) = ((codeOf o.toNat).length == 3) := by rw [Bool.eq_iff_iff]; simp; omega
      have e2 : (o == 32) = (o.toNat == 32) := by rw [Bool.eq_iff_iff]; simp; omega
      have e3 : checkO o = ((codeOf o.toNat).length == 3 || o.toNat == 32) := hsaid
      rw [e1, e2, e3]; simp
    · rw [put_ne _ _ (by decide), put_ne _ _ (by decide)]; exact g1
    · rw [put_ne _ _ (by decide), put_ne _ _ (by decide)]; exact g2
    · rw [put_ne _ _ (by decide), put_ne _ _ (by decide)]; exact g3
    · rw [put_ne _ _ (by decide), put_ne _ _ (by decide)]; exact g4
    · rw [put_ne _ _ (by decide), put_ne _ _ (by decide)]; exact g5
  · rintro l' o' ⟨rfl, h⟩
    exact ⟨l', rfl, h⟩
  · rintro l' o' k' ⟨l₂, h, g1, g2, g3, g4, g5⟩ _
    cases h
    -- short, room, the rows
    have hs3 := short_le os
    rw [hl3] at hs3
    refine SxT.step (S1.assign (Ex.callD (Own.mk' pc.m24 (by decide +kernel)) (Exs.cons (Ex.comp (ys := (os.map fun o => checkO o && (o != 32)).map .bool) (fr := []) (g := gShort) compE1 (ExI.list (Ex.var g2) (.name _ _)) (Block.mk' rfl (by decide +kernel) (by decide +kernel) (by decide +kernel) (fun y hy => by cases hy)) ?_ (gShort_eq os) (by simp only [List.length_map]; omega)) (Exs.cons Ex.bool Exs.nil)) ((d_countB pc (os.map fun o => checkO o && (o != 32)) false).le (by omega))) rfl) fun k₂ hk₂ => ?_
    · intro d hd
      obtain ⟨o, ho, rfl⟩ := List.mem_map.mp hd
      have hr := H.rng o ho
      exact ⟨_, true, .name (.inl (by decide +kernel)) (cap_out (by simp)), .nil, (fun h => by cases h), fun _ => BodyOk.emit (Ex.and2 (Ex.callD (Own.mk' pc.m11 (by decide +kernel)) (Exs.cons (Ex.var (put_same _ _ _)) Exs.nil) ((d_check' pm hr).le (by omega))) fun _ => Ex.cmp (Ex.var (put_same _ _ _)) Ex.int (o_ne _ _))⟩
    have b0 : put "short" (.int (shortN os : Nat)) l' "short" = some (.int (shortN os : Nat)) := put_same _ _ _
    have b1 : put "short" (.int (shortN os : Nat)) l' "name" = some (.str cs) := by rw [put_ne _ _ (by decide)]; exact g1
    have b3 : put "short" (.int (shortN os : Nat)) l' "codes" = some (.list ((codesOf os).map CodeD)) := by rw [put_ne _ _ (by decide)]; exact g3
    have b4 : put "short" (.int (shortN os : Nat)) l' "walks" = none := by rw [put_ne _ _ (by decide)]; exact g4
    have b5 : put "short" (.int (shortN os : Nat)) l' "words" = none := by rw [put_ne _ _ (by decide)]; exact g5
    show SxT C 3 s32.1 (put "short" (.int (shortN os : Nat)) l') none k₂ _ _
    generalize put "short" (.int (shortN os : Nat)) l' = l₂ at b0 b1 b3 b4 b5
    have hroom : ([.int 9, .int 6, .int 4, .int 3] : List D)[((shortN os : Nat) : Int).toNat]? = some (.int (roomN os : Nat)) := by
      unfold roomN
      match hs : shortN os with
      | 0 => rfl
      | 1 => rfl
      | 2 => rfl
      | 3 => rfl
      | k + 4 => omega
    refine SxT.step (S1.assign (Ex.idx (ds := [.int 9, .int 6, .int 4, .int 3]) (Ex.list (Exs.cons Ex.int (Exs.cons Ex.int (Exs.cons Ex.int (Exs.cons Ex.int Exs.nil)))) (Nat.le_of_ble_eq_true rfl)) (Ex.var b0) (by omega) hroom (by omega)) rfl) fun k₃ hk₃ => ?_
    have c0 : put "room" (.int (roomN os : Nat)) l₂ "short" = some (.int (shortN os : Nat)) := by rw [put_ne _ _ (by decide)]; exact b0
    have c1 : put "room" (.int (roomN os : Nat)) l₂ "name" = some (.str cs) := by rw [put_ne _ _ (by decide)]; exact b1
    have c2 : put "room" (.int (roomN os : Nat)) l₂ "room" = some (.int (roomN os : Nat)) := put_same _ _ _
    have c3 : put "room" (.int (roomN os : Nat)) l₂ "codes" = some (.list ((codesOf os).map CodeD)) := by rw [put_ne _ _ (by decide)]; exact b3
    have c4 : put "room" (.int (roomN os : Nat)) l₂ "walks" = none := by rw [put_ne _ _ (by decide)]; exact b4
    have c5 : put "room" (.int (roomN os : Nat)) l₂ "words" = none := by rw [put_ne _ _ (by decide)]; exact b5
    generalize put "room" (.int (roomN os : Nat)) l₂ = l₃ at c0 c1 c2 c3 c4 c5
    have hrm := room_le os hl3
    refine SxT.step (S1.assign (Ex.callD (Own.mk' pc.m28 (by decide +kernel)) (Exs.cons (Ex.var c3) (Exs.cons (Ex.var c2) Exs.nil)) ((d_rows pc (codesOf os) (roomN os) (by omega) ?_ H.szs).le (by omega))) rfl) fun k₄ hk₄ => ?_
    · intro c hc
      unfold codesOf at hc
      obtain ⟨o, ho, rfl⟩ := List.mem_map.mp hc
      have hr := H.rng o ho
      have := (code_len ⟨o.toNat, by omega⟩).1
      have h3 : (codeOf o.toNat).length ≤ 3 := this
      show (codeOf o.toNat).length ≤ 100
      omega
    have hfin := law_words pm os H cs hcs (l := put "found" (.list ((foundOf os).map RowD)) l₃) (by rw [put_ne _ _ (by decide)]; exact c1) (by rw [put_ne _ _ (by decide)]; exact c0) (by rw [put_ne _ _ (by decide)]; exact c2) (put_same _ _ _) (by rw [put_ne _ _ (by decide)]; exact c4) (by rw [put_ne _ _ (by decide)]; exact c5)
    exact fun A h₀ env P s a E B S hks => hfin A h₀ env P s a E B S (Nat.zero_le _)
  · rintro d _ ⟨_, h, _⟩; cases h

theorem law_body (pm : PM C) (ns : List Int) (hn : ns.length ≤ 63) (H : LawOk (octs [] (drawsOf ns))) : SxT C 3 s32.1 (argL ["script"] [.list (ns.map .int)] none_) none 0 b32.1 (fun r _ => retQ (fun d => d = .bool true) r) := by
  have pc := pm.toPC
  have e60 : Ex C 3 s32.1 (argL ["script"] [.list (ns.map .int)] none_) (.Subscript (.Name (Str.ofString "script") ⟨99, 14, 99, 20⟩) (.Slice none (some (.Constant (.int 60) 0 ⟨99, 22, 99, 24⟩)) none ⟨99, 21, 99, 24⟩) ⟨99, 14, 99, 25⟩) (.list ((numsOf ns).map .int)) := by
    unfold numsOf
    rw [← cut_upto, ← pickL_plain, ← pickL_map]
    exact Ex.sliceL (a := none) (b := some ((60 : Nat) : Int)) (c := none) (Ex.var rfl) trivial Ex.int trivial (fun h => by cases h) (by rw [List.length_map]; omega)
  refine SxT.step (S1.assign e60 rfl) fun k₁ hk₁ => ?_
  have a1 : put "numbers" (.list ((numsOf ns).map .int)) (argL ["script"] [.list (ns.map .int)] none_) "numbers" = some (.list ((numsOf ns).map .int)) := put_same _ _ _
  have a2 : put "numbers" (.list ((numsOf ns).map .int)) (argL ["script"] [.list (ns.map .int)] none_) "walks" = none := rfl
  have a3 : put "numbers" (.list ((numsOf ns).map .int)) (argL ["script"] [.list (ns.map .int)] none_) "words" = none := rfl
  generalize put "numbers" (.list ((numsOf ns).map .int)) (argL ["script"] [.list (ns.map .int)] none_) = l₁ at a1 a2 a3
  refine SxT.step (S1.assignComp (ys := (drawsOf ns).map .int) (fr := ["numbers"]) (g := gDraw ns) compE1 (ExI.enumDisp (pc.blt (x := "enumerate") (by simp) (by decide +kernel) (by kernel_rfl)) (Exs.cons Ex.int (Exs.cons Ex.int (Exs.cons Ex.int Exs.nil))) (Nat.le_of_ble_eq_true rfl)) (Block.mk' rfl (by decide +kernel) (by decide +kernel) (by decide +kernel) (fun y hy => by rw [List.mem_singleton.mp hy, a1]; rfl)) (law_draws pc ns (by omega) a1 ⟨by decide +kernel, by decide +kernel⟩ (by decide +kernel)) (draws_eq ns) (Nat.le_of_ble_eq_true rfl) rfl (by decide +kernel) (fun _ _ h => by cases h) (by decide +kernel)) fun k₂ hk₂ => ?_
  have b1 : put "draws" (.list ((drawsOf ns).map .int)) l₁ "draws" = some (.list ((drawsOf ns).map .int)) := put_same _ _ _
  have b2 : put "draws" (.list ((drawsOf ns).map .int)) l₁ "walks" = none := by rw [put_ne _ _ (by decide)]; exact a2
  have b3 : put "draws" (.list ((drawsOf ns).map .int)) l₁ "words" = none := by rw [put_ne _ _ (by decide)]; exact a3
  generalize put "draws" (.list ((drawsOf ns).map .int)) l₁ = l₂ at b1 b2 b3
  refine SxT.step (S1.assign (Ex.callD (Own.mk' pc.m27 (by decide +kernel)) (Exs.cons (Ex.var b1) Exs.nil) ((d_octets pc (drawsOf ns) (Nat.le_of_ble_eq_true rfl)).le (by omega))) rfl) fun k₃ hk₃ => ?_
  generalize octs [] (drawsOf ns) = os at H
  have c1 : put "octets" (.list (os.map .int)) l₂ "draws" = some (.list ((drawsOf ns).map .int)) := by rw [put_ne _ _ (by decide)]; exact b1
  have c2 : put "octets" (.list (os.map .int)) l₂ "walks" = none := by rw [put_ne _ _ (by decide)]; exact b2
  have c3 : put "octets" (.list (os.map .int)) l₂ "words" = none := by rw [put_ne _ _ (by decide)]; exact b3
  have c4 : put "octets" (.list (os.map .int)) l₂ "octets" = some (.list (os.map .int)) := put_same _ _ _
  generalize put "octets" (.list (os.map .int)) l₂ = l₃ at c1 c2 c3 c4
  have m0 : 0 ≤ (drawsOf ns).sum.fmod 3 := Int.fmod_nonneg_of_pos _ (by decide)
  have m1 : (drawsOf ns).sum.fmod 3 < 3 := Int.fmod_lt_of_pos _ (by decide)
  obtain ⟨n1, n2⟩ := name_at ((drawsOf ns).sum.fmod 3).toNat (by omega)
  refine SxT.step (S1.assign (Ex.idx (ds := [Str.ofString "x", Str.ofString "iso-8859-1", Str.ofString "Big5"].map .str) (d := .str (nameOf ns)) (Ex.list (Exs.cons Ex.str (Exs.cons Ex.str (Exs.cons Ex.str Exs.nil))) (Nat.le_of_ble_eq_true rfl)) (Ex.bin (Ex.callB (pc.blt (x := "sum") (by simp) (by decide +kernel) (by kernel_rfl)) (Exs.cons (Ex.var c1) Exs.nil) (c_sum _)) Ex.int (o_mod _ _ (by decide))) m0 (by rw [List.getElem?_map, n1]; rfl) (by omega)) rfl) fun k₄ hk₄ => ?_
  have hfin := law_codes pm os H (nameOf ns) n2 (l := put "name" (.str (nameOf ns)) l₃) (put_same _ _ _) (by rw [put_ne _ _ (by decide)]; exact c4) (by rw [put_ne _ _ (by decide)]; exact c2) (by rw [put_ne _ _ (by decide)]; exact c3)
  exact fun A h₀ env P s a E B S hks => hfin A h₀ env P s a E B S (Nat.zero_le _)
end
end Mine

end
section
open PySem PySem.W
namespace Mine
set_option Elab.async false
set_option linter.unusedVariables false
/-! turnings of a list -/
noncomputable def Cyc {α : Type} (l m : List α) : Prop := ∃ a b, l = a ++ b ∧ m = b ++ a
theorem Cyc.refl {α : Type} (l : List α) : Cyc l l := ⟨[], l, rfl, by simp⟩
theorem Cyc.symm {α : Type} {l m : List α} (h : Cyc l m) : Cyc m l := let ⟨a, b, h1, h2⟩ := h; ⟨b, a, h2, h1⟩
theorem Cyc.trans {α : Type} {l m r : List α} (h : Cyc l m) (g : Cyc m r) : Cyc l r := by
  obtain ⟨a, b, rfl, rfl⟩ := h
  obtain ⟨c, d, h1, rfl⟩ := g
  rcases List.append_eq_append_iff.mp h1 with ⟨e, rfl, rfl⟩ | ⟨e, rfl, rfl⟩
  · exact ⟨e, d ++ b, by simp, by simp⟩
  · exact ⟨a ++ c, e, by simp, by simp⟩
theorem Cyc.len {α : Type} {l m : List α} (h : Cyc l m) : l.length = m.length := by
  obtain ⟨a, b, rfl, rfl⟩ := h
  simp only [List.length_append]; omega
theorem turn_list (x : Str) (p : Nat) : (turn x p).cps.toList = x.cps.toList.drop p ++ x.cps.toList.take p := by unfold turn; simp
theorem turn_cyc (x : Str) (p : Nat) : Cyc x.cps.toList (turn x p).cps.toList := ⟨_, _, (List.take_append_drop p _).symm, turn_list x p⟩
theorem cyc_turn {x : Str} {m : List Nat} (hx : 0 < x.length) (h : Cyc x.cps.toList m) : ∃ p, p < x.length ∧ m = (turn x p).cps.toList := by
  obtain ⟨a, b, h1, rfl⟩ := h
  have hl : x.cps.toList.length = x.length := Array.length_toList
  by_cases hb : b = []
  · subst hb
    refine ⟨0, hx, ?_⟩
    rw [turn_list, h1]; simp
  · refine ⟨a.length, ?_, ?_⟩
    · rw [h1, List.length_append] at hl
      have : 0 < b.length := List.length_pos_iff.mpr hb
      omega
    · rw [turn_list, h1]; simp
theorem leastUp_turn (x : Str) : ∀ i, ∃ p, p ≤ i ∧ leastUp x i = turn x p
  | 0 => ⟨0, Nat.le_refl _, by unfold leastUp turn; simp⟩
  | i + 1 => by
    obtain ⟨p, hp, e⟩ := leastUp_turn x i
    unfold leastUp
    split
    · exact ⟨i + 1, Nat.le_refl _, rfl⟩
    · exact ⟨p, by omega, e⟩
theorem leastUp_min (x : Str) : ∀ i p, p ≤ i → ¬ (turn x p).cps.toList < (leastUp x i).cps.toList
  | 0, p, hp => by
    have : p = 0 := by omega
    subst this
    have e : turn x 0 = x := by unfold turn; simp
    rw [e]
    exact List.lt_irrefl _
  | i + 1, p, hp => by
    unfold leastUp
    by_cases h : lessS (turn x (i + 1)) (leastUp x i) = true
    · rw [if_pos h]
      have h' : (turn x (i + 1)).cps.toList < (leastUp x i).cps.toList := of_decide_eq_true h
      by_cases hp' : p = i + 1
      · rw [hp']; exact List.lt_irrefl _
      · intro hlt
        exact leastUp_min x i p (by omega) (List.lt_trans hlt h')
    · rw [if_neg h]
      have h' : ¬ (turn x (i + 1)).cps.toList < (leastUp x i).cps.toList := fun q => h (decide_eq_true q)
      by_cases hp' : p = i + 1
      · rw [hp']; exact h'
      · exact leastUp_min x i p (by omega)
theorem ring_cyc (x : Str) : Cyc x.cps.toList (ringOf x).cps.toList := by
  obtain ⟨p, _, e⟩ := leastUp_turn x (x.length - 1)
  unfold ringOf
  rw [e]
  exact turn_cyc x p
theorem ring_min {x : Str} {m : List Nat} (hx : 0 < x.length) (h : Cyc x.cps.toList m) : ¬ m < (ringOf x).cps.toList := by
  obtain ⟨p, hp, rfl⟩ := cyc_turn hx h
  exact leastUp_min x _ p (by omega)
theorem ring_iff {x y : Str} (hx : 0 < x.length) (hy : 0 < y.length) : ringOf x = ringOf y ↔ Cyc x.cps.toList y.cps.toList := by
  constructor
  · intro h
    have h1 := ring_cyc x
    rw [h] at h1
    exact h1.trans (ring_cyc y).symm
  · intro h
    refine str_ext ?_
    have h1 := ring_min hx (h.trans (ring_cyc y))
    have h2 := ring_min hy (h.symm.trans (ring_cyc x))
    exact List.le_antisymm (List.not_lt.mp h1) (List.not_lt.mp h2)
theorem best_least (x : Str) : ∀ i, i < x.length → leastUp x i = ((List.range x.length).map (turn x)).getD (argBest (fun i j => sLt (((List.range x.length).map (turn x)).getD i ⟨#[]⟩) (((List.range x.length).map (turn x)).getD j ⟨#[]⟩)) i) ⟨#[]⟩ ∧ argBest (fun i j => sLt (((List.range x.length).map (turn x)).getD i ⟨#[]⟩) (((List.range x.length).map (turn x)).getD j ⟨#[]⟩)) i ≤ i
  | 0, h => by
    refine ⟨?_, Nat.le_refl _⟩
    unfold argBest
    rw [List.getD_eq_getElem?_getD, List.getElem?_map, List.getElem?_range h]
    show x = turn x 0
    unfold turn; simp
  | i + 1, h => by
    obtain ⟨h1, h2⟩ := best_least x i (by omega)
    have ht : ((List.range x.length).map (turn x)).getD (i + 1) ⟨#[]⟩ = turn x (i + 1) := by rw [List.getD_eq_getElem?_getD, List.getElem?_map, List.getElem?_range h]; rfl
    have e : sLt (((List.range x.length).map (turn x)).getD (i + 1) ⟨#[]⟩) (((List.range x.length).map (turn x)).getD (argBest (fun i j => sLt (((List.range x.length).map (turn x)).getD i ⟨#[]⟩) (((List.range x.length).map (turn x)).getD j ⟨#[]⟩)) i) ⟨#[]⟩) = lessS (turn x (i + 1)) (leastUp x i) := by
      rw [ht, ← h1]; rfl
    unfold leastUp argBest
    rw [e]
    by_cases hc : lessS (turn x (i + 1)) (leastUp x i) = true
    · rw [if_pos hc, if_pos hc]
      exact ⟨ht.symm, Nat.le_refl _⟩
    · rw [if_neg hc, if_neg hc]
      exact ⟨h1, by omega⟩
theorem ring_minTurn (x : Str) (h : 0 < x.length) : ringOf x = minTurn x.length x := by
  unfold ringOf minTurn bestS
  rw [(best_least x (x.length - 1) (by omega)).1]
  rw [List.length_map, List.length_range]
end Mine

end
section
open PySem PySem.W
namespace Mine
set_option Elab.async false
set_option maxRecDepth 100000
set_option linter.unusedVariables false
/-! the signs are read in one way -/
noncomputable def cod (c : Nat) : List Nat := (codeOf c).cps.toList
noncomputable def sig (a : List Nat) : List Nat := a.flatMap cod
noncomputable def isHex (x : Nat) : Bool := (48 ≤ x && x ≤ 57) || (65 ≤ x && x ≤ 70)
noncomputable def hexV (x : Nat) : Nat := if x ≤ 57 then x - 48 else x - 55
noncomputable def valP (u : Nat) : Nat := if u = 95 then 32 else u
noncomputable def dec : List Nat → Option (List Nat)
  | [] => some []
  | [u] => if u = 61 then none else some [valP u]
  | [u, v] => if u = 61 then none else (dec [v]).map (valP u :: ·)
  | u :: v :: w :: r => if u = 61 then (if isHex v && isHex w then (dec r).map ((hexV v * 16 + hexV w) :: ·) else none) else (dec (v :: w :: r)).map (valP u :: ·)
theorem dec_plain {u : Nat} (h : u ≠ 61) : ∀ s, dec (u :: s) = (dec s).map (valP u :: ·)
  | [] => by simp [dec, h]
  | [v] => by conv => { lhs; rw [dec, if_neg h] }
  | v :: w :: r => by conv => { lhs; rw [dec, if_neg h] }
theorem dec_hex (v w : Nat) (r : List Nat) : dec (61 :: v :: w :: r) = if isHex v && isHex w then (dec r).map ((hexV v * 16 + hexV w) :: ·) else none := by rw [dec, if_pos rfl]
theorem not61 : isHex 61 = false := by decide
theorem dec_bad1 : ∀ (k : Nat) (s : List Nat), s.length ≤ k → dec (s ++ [61]) = none
  | _, [], _ => by simp [dec]
  | k, [u], _ => by
    by_cases h : u = 61
    · subst h; simp [dec]
    · show dec (u :: [61]) = none
      rw [dec_plain h]; simp [dec]
  | k, [u, v], _ => by
    by_cases h : u = 61
    · subst h
      show dec (61 :: v :: 61 :: []) = none
      rw [dec_hex, not61]; simp
    · show dec (u :: ([v] ++ [61])) = none
      rw [dec_plain h, dec_bad1 1 [v] (Nat.le_refl _)]; rfl
  | k + 1, u :: v :: w :: r, hk => by
    simp only [List.length_cons] at hk
    by_cases h : u = 61
    · subst h
      show dec (61 :: v :: w :: (r ++ [61])) = none
      rw [dec_hex, dec_bad1 k r (by omega)]; simp
    · show dec (u :: ((v :: w :: r) ++ [61])) = none
      rw [dec_plain h, dec_bad1 k (v :: w :: r) (by simp only [List.length_cons]; omega)]; rfl
theorem dec_bad2 (x : Nat) : ∀ (k : Nat) (s : List Nat), s.length ≤ k → dec (s ++ [61, x]) = none
  | _, [], _ => by simp [dec]
  | k, [u], _ => by
    by_cases h : u = 61
    · subst h
      show dec (61 :: 61 :: x :: []) = none
      rw [dec_hex, not61]; simp
    · show dec (u :: [61, x]) = none
      rw [dec_plain h]; simp [dec]
  | k, [u, v], _ => by
    by_cases h : u = 61
    · subst h
      show dec (61 :: v :: 61 :: [x]) = none
      rw [dec_hex, not61]; simp
    · show dec (u :: ([v] ++ [61, x])) = none
      rw [dec_plain h, dec_bad2 x 1 [v] (Nat.le_refl _)]; rfl
  | k + 1, u :: v :: w :: r, hk => by
    simp only [List.length_cons] at hk
    by_cases h : u = 61
    · subst h
      show dec (61 :: v :: w :: (r ++ [61, x])) = none
      rw [dec_hex, dec_bad2 x k r (by omega)]; simp
    · show dec (u :: ((v :: w :: r) ++ [61, x])) = none
      rw [dec_plain h, dec_bad2 x k (v :: w :: r) (by simp only [List.length_cons]; omega)]; rfl
noncomputable def codOk (c : Nat) : Bool := match cod c with
  | [u] => u != 61 && valP u == c && decide (u < 128)
  | [e, v, w] => e == 61 && isHex v && isHex w && hexV v * 16 + hexV w == c && decide (v < 128) && decide (w < 128)
  | _ => false
theorem cod_ok : ∀ c : Fin 256, codOk c.1 = true := by decide +kernel
theorem cod_cases {c : Nat} (hc : c < 256) : (∃ u, cod c = [u] ∧ u ≠ 61 ∧ valP u = c ∧ u < 128) ∨ (∃ v w, cod c = [61, v, w] ∧ isHex v = true ∧ isHex w = true ∧ hexV v * 16 + hexV w = c ∧ v < 128 ∧ w < 128) := by
  have h := cod_ok ⟨c, hc⟩
  unfold codOk at h
  dsimp only at h
  split at h
  · rename_i u e
    simp only [Bool.and_eq_true, bne_iff_ne, beq_iff_eq, decide_eq_true_eq] at h
    exact .inl ⟨u, e, h.1.1, h.1.2, h.2⟩
  · rename_i e v w hh
    simp only [Bool.and_eq_true, beq_iff_eq, decide_eq_true_eq] at h
    obtain ⟨⟨⟨⟨⟨h1, h2⟩, h3⟩, h4⟩, h5⟩, h6⟩ := h
    exact .inr ⟨v, w, by rw [hh, h1], h2, h3, h4, h5, h6⟩
  · cases h
theorem dec_cod {c : Nat} (hc : c < 256) (s : List Nat) : dec (cod c ++ s) = (dec s).map (c :: ·) := by
  rcases cod_cases hc with ⟨u, h1, h2, h3, _⟩ | ⟨v, w, h1, h2, h3, h4, _⟩
  · rw [h1]
    show dec (u :: s) = _
    rw [dec_plain h2, h3]
  · rw [h1]
    show dec (61 :: v :: w :: s) = _
    rw [dec_hex, h2, h3, h4]; rfl
theorem dec_sig : ∀ {a : List Nat}, (∀ c ∈ a, c < 256) → dec (sig a) = some a
  | [], _ => by simp [sig, dec]
  | c :: a, h => by
    have e : sig (c :: a) = cod c ++ sig a := by unfold sig; rw [List.flatMap_cons]
    rw [e, dec_cod (h c (by simp)), dec_sig fun d hd => h d (List.mem_cons_of_mem _ hd)]; rfl
theorem sig_app (a b : List Nat) : sig (a ++ b) = sig a ++ sig b := by unfold sig; rw [List.flatMap_append]
theorem sig_cut : ∀ {a : List Nat}, (∀ c ∈ a, c < 256) → ∀ {u v : List Nat}, sig a = u ++ v → (∃ a₁ a₂, a = a₁ ++ a₂ ∧ u = sig a₁ ∧ v = sig a₂) ∨ (∃ s, u = s ++ [61]) ∨ ∃ s x, u = s ++ [61, x]
  | [], _, u, v, h => by
    have h' : u ++ v = [] := h.symm
    obtain ⟨rfl, rfl⟩ := List.append_eq_nil_iff.mp h'
    exact .inl ⟨[], [], rfl, rfl, rfl⟩
  | c :: a, hc, u, v, h => by
    have e : sig (c :: a) = cod c ++ sig a := by unfold sig; rw [List.flatMap_cons]
    rw [e] at h
    have hcc := cod_cases (hc c (by simp))
    rcases List.append_eq_append_iff.mp h with ⟨u', rfl, h2⟩ | ⟨v', h1, rfl⟩
    · rcases sig_cut (fun d hd => hc d (List.mem_cons_of_mem _ hd)) h2 with ⟨a₁, a₂, rfl, rfl, rfl⟩ | ⟨s, rfl⟩ | ⟨s, x, rfl⟩
      · exact .inl ⟨c :: a₁, a₂, rfl, by unfold sig; rw [List.flatMap_cons], rfl⟩
      · exact .inr (.inl ⟨cod c ++ s, by simp⟩)
      · exact .inr (.inr ⟨cod c ++ s, x, by simp⟩)
    · have whole : u = cod c → v' = [] → _ := fun hu hv => (⟨[c], a, rfl, by rw [hu]; simp [sig], by rw [hv]; rfl⟩ : ∃ a₁ a₂, c :: a = a₁ ++ a₂ ∧ u = sig a₁ ∧ v' ++ sig a = sig a₂)
      have nothing : u = [] → v' = cod c → _ := fun hu hv => (⟨[], c :: a, rfl, by rw [hu]; rfl, by rw [hv, e]⟩ : ∃ a₁ a₂, c :: a = a₁ ++ a₂ ∧ u = sig a₁ ∧ v' ++ sig a = sig a₂)
      rcases hcc with ⟨w, h3, _⟩ | ⟨p, q, h3, _⟩
      · rw [h3] at h1
        match u, v', h1 with
        | [], _, h1 => exact .inl (nothing rfl (by rw [h3]; exact h1.symm))
        | [x], [], h1 => exact .inl (whole (by rw [h3]; simpa using h1.symm) rfl)
        | [x], y :: z, h1 => simp at h1
        | x :: y :: z, v', h1 => simp at h1
      · rw [h3] at h1
        match u, v', h1 with
        | [], _, h1 => exact .inl (nothing rfl (by rw [h3]; exact h1.symm))
        | [x], v', h1 =>
          simp at h1
          exact .inr (.inl ⟨[], by rw [← h1.1]; rfl⟩)
        | [x, y], v', h1 =>
          simp at h1
          exact .inr (.inr ⟨[], y, by rw [← h1.1]; rfl⟩)
        | [x, y, z], [], h1 => exact .inl (whole (by rw [h3]; simpa using h1.symm) rfl)
        | [x, y, z], t :: ts, h1 => simp at h1
        | x :: y :: z :: t :: ts, v', h1 => simp at h1
/-- a ring of signs is read in one way -/
theorem sig_cyc {a b : List Nat} (ha : ∀ c ∈ a, c < 256) (hb : ∀ c ∈ b, c < 256) : Cyc (sig a) (sig b) ↔ Cyc a b := by
  constructor
  · rintro ⟨u, v, h1, h2⟩
    rcases sig_cut ha h1 with ⟨a₁, a₂, rfl, rfl, rfl⟩ | ⟨s, rfl⟩ | ⟨s, x, rfl⟩
    · rw [← sig_app] at h2
      have h3 : dec (sig b) = some (a₂ ++ a₁) := by
        rw [h2]
        exact dec_sig fun c hc => ha c (by rw [List.mem_append] at hc ⊢; exact hc.symm)
      rw [dec_sig hb] at h3
      exact ⟨a₁, a₂, rfl, Option.some.inj h3⟩
    · have h3 := dec_sig hb
      rw [h2, ← List.append_assoc, dec_bad1 _ _ (Nat.le_refl _)] at h3
      cases h3
    · have h3 := dec_sig hb
      rw [h2, ← List.append_assoc, dec_bad2 x _ _ (Nat.le_refl _)] at h3
      cases h3
  · rintro ⟨u, v, rfl, rfl⟩
    exact ⟨sig u, sig v, sig_app _ _, sig_app _ _⟩
end Mine

end
section
open PySem PySem.W
namespace Mine
set_option Elab.async false
set_option maxRecDepth 100000
set_option linter.unusedVariables false
/-! rows by their octets' places -/
noncomputable abbrev RowI := List Nat × Nat
noncomputable def nextI (lens : List Nat) (room : Nat) (last : List RowI) : List RowI := last.flatMap fun r => (List.range lens.length).flatMap fun j => if r.2 + lens.getD j 0 ≤ room then [(r.1 ++ [j], r.2 + lens.getD j 0)] else []
noncomputable def lastI (lens : List Nat) (room : Nat) : Nat → List RowI
  | 0 => [([], 0)]
  | i + 1 => nextI lens room (lastI lens room i)
noncomputable def foundI (lens : List Nat) (room : Nat) : Nat → List RowI
  | 0 => lastI lens room 0
  | i + 1 => foundI lens room i ++ lastI lens room (i + 1)
noncomputable def shortI (lens : List Nat) : Nat := (lens.filter (· == 1)).length
noncomputable def roomI (lens : List Nat) : Nat := [9, 6, 4, 3].getD (shortI lens) 3
noncomputable def cycB (a b : List Nat) : Bool := (List.range (a.length + 1)).any fun p => b == a.drop p ++ a.take p
noncomputable def perN (a : List Nat) : Nat := (((List.range a.length).map (· + 1)).filter fun p => a.drop p ++ a.take p == a).headD 0
noncomputable def uniqsBy {α : Type} (R : α → α → Bool) : List α → List α → List α
  | acc, [] => acc
  | acc, y :: ys => uniqsBy R (if acc.any (R · y) then acc else acc ++ [y]) ys
noncomputable def sizeOk (rs : List RowI) (walks : List Int) (size : Nat) : Bool :=
  (rs.all fun a => (rs.filter fun b => cycB b.1 a.1).length == perN a.1) && ((size : Int) * ((uniqsBy (fun a b : RowI => cycB a.1 b.1) [] rs).length : Nat) == ((List.range size).map (walkAt walks size)).sum)
noncomputable def patOk (lens : List Nat) : Bool :=
  ((List.range (roomI lens + 1)).all fun i => decide ((lastI lens (roomI lens) i).length ≤ 5000) && decide ((foundI lens (roomI lens) i).length ≤ 5000)) &&
  ((foundI lens (roomI lens) (roomI lens)).all fun r => decide (r.1.length ≤ 9) && r.1.all (· < 3)) &&
  ((List.range (roomI lens)).all fun i => sizeOk ((foundI lens (roomI lens) (roomI lens)).filter fun r => r.2 == i + 1) ((walksUp (shortI lens : Nat) (roomI lens - 2)).take (i + 2)) (i + 1)) &&
  ((List.range (roomI lens)).all fun i => (walksUp (shortI lens : Nat) i).all fun w => decide (-1000000 < w) && decide (w < 1000000))
noncomputable def pats : List (List Nat) := [[1,1,1],[1,1,3],[1,3,1],[1,3,3],[3,1,1],[3,1,3],[3,3,1],[3,3,3]]
theorem pat0 : patOk [1,1,1] = true := by decide +kernel
theorem pat1 : patOk [1,1,3] = true := by decide +kernel
theorem pat2 : patOk [1,3,1] = true := by decide +kernel
theorem pat3 : patOk [1,3,3] = true := by decide +kernel
theorem pat4 : patOk [3,1,1] = true := by decide +kernel
theorem pat5 : patOk [3,1,3] = true := by decide +kernel
theorem pat6 : patOk [3,3,1] = true := by decide +kernel
theorem pat7 : patOk [3,3,3] = true := by decide +kernel
theorem pats_ok : pats.all patOk = true := by
  unfold pats
  simp only [List.all_cons, List.all_nil, pat0, pat1, pat2, pat3, pat4, pat5, pat6, pat7, Bool.and_self]
theorem burn_ok : ((List.range 10).all fun size => (List.range size).all fun i => decide (0 ≤ (comm 6 ((i + 1 : Nat) : Int) size).1) && decide ((comm 6 ((i + 1 : Nat) : Int) size).1 ≤ size)) = true := by decide +kernel
end Mine

end
section
open PySem PySem.W
namespace Mine
set_option Elab.async false
set_option maxRecDepth 100000
set_option linter.unusedVariables false
theorem flatMap_eq {α β : Type} {f g : α → List β} : ∀ {l : List α}, (∀ x ∈ l, f x = g x) → l.flatMap f = l.flatMap g
  | [], _ => rfl
  | x :: l, h => by rw [List.flatMap_cons, List.flatMap_cons, h x (by simp), flatMap_eq fun y hy => h y (List.mem_cons_of_mem _ hy)]
noncomputable def at_ (os : List Int) (j : Nat) : Int := os.getD j 0
noncomputable def nat_ (os : List Int) (j : Nat) : Nat := (at_ os j).toNat
noncomputable def lensOf (os : List Int) : List Nat := os.map fun o => (codeOf o.toNat).length
noncomputable def mk (os : List Int) (r : RowI) : Row := (r.1.map (at_ os), ⟨(sig (r.1.map (nat_ os))).toArray⟩)
theorem range_at (os : List Int) : os = (List.range os.length).map (at_ os) := by
  refine List.ext_getElem (by simp) fun i h1 h2 => ?_
  rw [List.getElem_map, List.getElem_range]
  show _ = os.getD i 0
  rw [List.getD_eq_getElem?_getD, List.getElem?_eq_getElem h1]; rfl
theorem lens_at (os : List Int) (j : Nat) (h : j < os.length) : (lensOf os).getD j 0 = (codeOf (nat_ os j)).length := by
  unfold lensOf nat_ at_
  rw [List.getD_eq_getElem?_getD, List.getElem?_map, List.getElem?_eq_getElem h, List.getD_eq_getElem?_getD, List.getElem?_eq_getElem h]; rfl
theorem codes_range (os : List Int) : codesOf os = (List.range os.length).map fun j => (at_ os j, codeOf (nat_ os j)) := by
  unfold codesOf
  conv => lhs; rw [range_at os]
  rw [List.map_map]
  rfl
theorem mk_snoc (os : List Int) (r : RowI) (j n : Nat) : mk os (r.1 ++ [j], n) = ((mk os r).1 ++ [at_ os j], (mk os r).2 ++ codeOf (nat_ os j)) := by
  unfold mk
  refine Prod.ext (by simp) (str_ext ?_)
  rw [app_list]
  simp only [List.map_append, sig_app, List.map_cons, List.map_nil]
  show _ = sig (r.1.map (nat_ os)) ++ cod (nat_ os j)
  simp [sig]
noncomputable def Fit (os : List Int) (r : RowI) : Prop := (mk os r).2.length = r.2 ∧ ∀ j ∈ r.1, j < os.length
theorem fit_snoc {os : List Int} {r : RowI} (h : Fit os r) {j : Nat} (hj : j < os.length) : Fit os (r.1 ++ [j], r.2 + (lensOf os).getD j 0) := by
  refine ⟨?_, ?_⟩
  · rw [mk_snoc, strLen_append, h.1, lens_at os j hj]
  · intro i hi
    rcases List.mem_append.mp hi with hi | hi
    · exact h.2 i hi
    · rw [List.mem_singleton.mp hi]; exact hj
theorem next_fit {os : List Int} {room : Nat} {last : List RowI} (h : ∀ r ∈ last, Fit os r) : ∀ r ∈ nextI (lensOf os) room last, Fit os r := by
  intro r hr
  unfold nextI at hr
  obtain ⟨q, hq, hr⟩ := List.mem_flatMap.mp hr
  obtain ⟨j, hj, hr⟩ := List.mem_flatMap.mp hr
  have hj' : j < os.length := by have := List.mem_range.mp hj; unfold lensOf at this; rwa [List.length_map] at this
  split at hr
  · rw [List.mem_singleton.mp hr]; exact fit_snoc (h q hq) hj'
  · cases hr
theorem next_eq {os : List Int} {room : Nat} {last : List RowI} (h : ∀ r ∈ last, Fit os r) : nextR (codesOf os) room (last.map (mk os)) = (nextI (lensOf os) room last).map (mk os) := by
  unfold nextR nextI
  rw [List.flatMap_map, List.map_flatMap]
  refine flatMap_eq fun r hr => ?_
  rw [codes_range, List.flatMap_map, List.map_flatMap]
  have hl : (lensOf os).length = os.length := by unfold lensOf; rw [List.length_map]
  rw [hl]
  refine flatMap_eq fun j hj => ?_
  have hj' := List.mem_range.mp hj
  have e : ((mk os r).2 ++ codeOf (nat_ os j)).length = r.2 + (lensOf os).getD j 0 := by rw [strLen_append, (h r hr).1, lens_at os j hj']
  show (if ((mk os r).2 ++ codeOf (nat_ os j)).length ≤ room then [((mk os r).1 ++ [at_ os j], (mk os r).2 ++ codeOf (nat_ os j))] else []) = (if r.2 + (lensOf os).getD j 0 ≤ room then [(r.1 ++ [j], r.2 + (lensOf os).getD j 0)] else []).map (mk os)
  rw [e]
  split
  · rw [List.map_cons, List.map_nil, mk_snoc]
  · rfl
theorem last_eq (os : List Int) (room : Nat) : ∀ i, lastR (codesOf os) room i = (lastI (lensOf os) room i).map (mk os) ∧ ∀ r ∈ lastI (lensOf os) room i, Fit os r
  | 0 => ⟨rfl, fun r hr => by
      rw [show lastI (lensOf os) room 0 = [([], 0)] from rfl] at hr
      rw [List.mem_singleton.mp hr]
      exact ⟨rfl, fun j hj => by cases hj⟩⟩
  | i + 1 => by
    obtain ⟨h1, h2⟩ := last_eq os room i
    refine ⟨?_, next_fit h2⟩
    show nextR (codesOf os) room (lastR (codesOf os) room i) = _
    rw [h1]; exact next_eq h2
theorem found_eq (os : List Int) (room : Nat) : ∀ i, foundR (codesOf os) room i = (foundI (lensOf os) room i).map (mk os) ∧ ∀ r ∈ foundI (lensOf os) room i, Fit os r
  | 0 => last_eq os room 0
  | i + 1 => by
    obtain ⟨h1, h2⟩ := found_eq os room i
    obtain ⟨h3, h4⟩ := last_eq os room (i + 1)
    refine ⟨?_, fun r hr => ?_⟩
    · show foundR (codesOf os) room i ++ lastR (codesOf os) room (i + 1) = _
      rw [h1, h3, ← List.map_append]; rfl
    · rcases List.mem_append.mp hr with hr | hr
      · exact h2 r hr
      · exact h4 r hr
/-! like rows, like lists of places -/
noncomputable def Inj (f : Nat → β) (n : Nat) : Prop := ∀ i j, i < n → j < n → f i = f j → i = j
theorem map_inj {β : Type} {f : Nat → β} {n : Nat} (hf : Inj f n) : ∀ {l m : List Nat}, (∀ x ∈ l, x < n) → (∀ x ∈ m, x < n) → l.map f = m.map f → l = m
  | [], [], _, _, _ => rfl
  | [], y :: m, _, _, h => by simp at h
  | x :: l, [], _, _, h => by simp at h
  | x :: l, y :: m, hl, hm, h => by
    rw [List.map_cons, List.map_cons] at h
    obtain ⟨h1, h2⟩ := List.cons.inj h
    rw [hf x y (hl x (by simp)) (hm y (by simp)) h1, map_inj hf (fun z hz => hl z (List.mem_cons_of_mem _ hz)) (fun z hz => hm z (List.mem_cons_of_mem _ hz)) h2]
theorem cyc_map {β : Type} {f : Nat → β} {n : Nat} (hf : Inj f n) {a b : List Nat} (ha : ∀ x ∈ a, x < n) (hb : ∀ x ∈ b, x < n) : Cyc (a.map f) (b.map f) ↔ Cyc a b := by
  constructor
  · rintro ⟨u, v, h1, h2⟩
    obtain ⟨a₁, a₂, rfl, rfl, rfl⟩ := List.map_eq_append_iff.mp h1
    rw [← List.map_append] at h2
    have := map_inj hf hb (fun x hx => ha x (by rw [List.mem_append] at hx ⊢; exact hx.symm)) h2
    exact ⟨a₁, a₂, rfl, this⟩
  · rintro ⟨u, v, rfl, rfl⟩
    exact ⟨u.map f, v.map f, by rw [List.map_append], by rw [List.map_append]⟩
theorem cycB_iff {a b : List Nat} : cycB a b = true ↔ Cyc a b := by
  unfold cycB
  rw [List.any_eq_true]
  constructor
  · rintro ⟨p, _, h⟩
    exact ⟨_, _, (List.take_append_drop p a).symm, beq_iff_eq.mp h⟩
  · rintro ⟨u, v, rfl, rfl⟩
    refine ⟨u.length, List.mem_range.mpr (by simp only [List.length_append]; omega), ?_⟩
    rw [beq_iff_eq]; simp
theorem per_map {f : Nat → Int} {n : Nat} (hf : Inj f n) {a : List Nat} (ha : ∀ x ∈ a, x < n) : per (a.map f) = perN a := by
  unfold per perN
  rw [List.length_map]
  congr 1
  refine List.filter_congr fun p _ => ?_
  have e : rot (a.map f) p = (a.drop p ++ a.take p).map f := by unfold rot; rw [List.map_append, List.map_drop, List.map_take]
  rw [e, Bool.eq_iff_iff, decide_eq_true_iff, beq_iff_eq]
  constructor
  · exact map_inj hf (fun x hx => ha x (by rcases List.mem_append.mp hx with h | h; exact List.mem_of_mem_drop h; exact List.mem_of_mem_take h)) ha
  · intro h; rw [h]
theorem uniqs_map {α : Type} (f : α → Str) (R : α → α → Bool) (S : α → Prop) (hR : ∀ x y, S x → S y → (R x y = true ↔ f x = f y)) : ∀ (ys acc : List α), (∀ y ∈ ys, S y) → (∀ y ∈ acc, S y) → uniqs (acc.map f) (ys.map f) = (uniqsBy R acc ys).map f
  | [], acc, _, _ => rfl
  | y :: ys, acc, hy, ha => by
    rw [List.map_cons, uniqs, uniqsBy]
    have e : (acc.map f).contains (f y) = acc.any (R · y) := by
      rw [Bool.eq_iff_iff, List.contains_iff_mem, List.mem_map, List.any_eq_true]
      constructor
      · rintro ⟨x, hx, e⟩
        exact ⟨x, hx, (hR x y (ha x hx) (hy y (by simp))).mpr e⟩
      · rintro ⟨x, hx, e⟩
        exact ⟨x, hx, (hR x y (ha x hx) (hy y (by simp))).mp e⟩
    rw [e]
    have ih := uniqs_map f R S hR ys
    split
    · exact ih acc (fun z hz => hy z (List.mem_cons_of_mem _ hz)) ha
    · have := ih (acc ++ [y]) (fun z hz => hy z (List.mem_cons_of_mem _ hz)) (fun z hz => by
        rcases List.mem_append.mp hz with h | h
        · exact ha z h
        · rw [List.mem_singleton.mp h]; exact hy y (by simp))
      rw [List.map_append] at this
      exact this
end Mine

end
section
open PySem PySem.W
namespace Mine
set_option Elab.async false
set_option maxRecDepth 100000
set_option linter.unusedVariables false
theorem len13 : ∀ c : Fin 256, (codeOf c.1).length = 1 ∨ (codeOf c.1).length = 3 := by decide +kernel
theorem short13 : ∀ c : Fin 256, ((((⟨#[c.1]⟩ : Str) != codeOf c.1) && (c.1 != 32)) == false) = ((codeOf c.1).length == 1) := by decide +kernel
theorem lens_pats {os : List Int} (hl : os.length = 3) (hr : ∀ o ∈ os, 0 ≤ o ∧ o < 256) : lensOf os ∈ pats := by
  match os, hl with
  | [a, b, c], _ =>
    have ha := hr a (by simp); have hb := hr b (by simp); have hc := hr c (by simp)
    have la := len13 ⟨a.toNat, by omega⟩
    have lb := len13 ⟨b.toNat, by omega⟩
    have lc := len13 ⟨c.toNat, by omega⟩
    dsimp only at la lb lc
    unfold lensOf
    simp only [List.map_cons, List.map_nil]
    rcases la with la | la <;> rcases lb with lb | lb <;> rcases lc with lc | lc <;> rw [la, lb, lc] <;> decide
theorem short_eq {os : List Int} (hr : ∀ o ∈ os, 0 ≤ o ∧ o < 256) : shortN os = shortI (lensOf os) := by
  unfold shortN shortI lensOf
  rw [List.filter_map, List.filter_map, List.length_map, List.length_map]
  congr 1
  refine List.filter_congr fun o ho => ?_
  have h := hr o ho
  have hs := short13 ⟨o.toNat, by omega⟩
  dsimp only at hs
  have e : (o != 32) = (o.toNat != 32) := by rw [Bool.eq_iff_iff]; simp; omega
  show ((checkO o && (o != 32)) == false) = _
  unfold checkO
  rw [e, hs]; rfl
theorem room_eq {os : List Int} (hr : ∀ o ∈ os, 0 ≤ o ∧ o < 256) : roomN os = roomI (lensOf os) := by unfold roomN roomI; rw [short_eq hr]
theorem pat_ok {os : List Int} (hl : os.length = 3) (hr : ∀ o ∈ os, 0 ≤ o ∧ o < 256) : patOk (lensOf os) = true := List.all_eq_true.mp pats_ok _ (lens_pats hl hr)

structure PatFacts (os : List Int) : Prop where
  szs : ∀ i, i ≤ roomN os → (lastI (lensOf os) (roomN os) i).length ≤ 5000 ∧ (foundI (lensOf os) (roomN os) i).length ≤ 5000
  rows : ∀ r ∈ foundI (lensOf os) (roomN os) (roomN os), r.1.length ≤ 9 ∧ ∀ j ∈ r.1, j < 3
  size : ∀ i, i < roomN os → sizeOk ((foundI (lensOf os) (roomN os) (roomN os)).filter fun r => r.2 == i + 1) ((walksOf os).take (i + 2)) (i + 1) = true
  big : ∀ i, i < roomN os → ∀ w ∈ walksUp (shortN os : Nat) i, -1000000 < w ∧ w < 1000000
theorem pat_facts {os : List Int} (hl : os.length = 3) (hr : ∀ o ∈ os, 0 ≤ o ∧ o < 256) : PatFacts os := by
  have h := pat_ok hl hr
  unfold patOk at h
  rw [← room_eq hr, ← short_eq hr] at h
  simp only [Bool.and_eq_true, List.all_eq_true, List.mem_range, decide_eq_true_eq] at h
  obtain ⟨⟨⟨h1, h2⟩, h3⟩, h4⟩ := h
  exact ⟨fun i hi => h1 i (by omega), fun r hr => ⟨(h2 r hr).1, fun j hj => (h2 r hr).2 j hj⟩, fun i hi => h3 i hi, fun i hi w hw => h4 i hi w hw⟩

theorem inj_at {os : List Int} (hd : os.Nodup) : Inj (at_ os) os.length := by
  intro i j hi hj h
  unfold at_ at h
  rw [List.getD_eq_getElem?_getD, List.getElem?_eq_getElem hi, List.getD_eq_getElem?_getD, List.getElem?_eq_getElem hj] at h
  exact (List.getElem_inj hd).mp h
theorem at_mem {os : List Int} {j : Nat} (h : j < os.length) : at_ os j ∈ os := by
  unfold at_
  rw [List.getD_eq_getElem?_getD, List.getElem?_eq_getElem h]
  exact List.getElem_mem h
theorem inj_nat {os : List Int} (hd : os.Nodup) (hr : ∀ o ∈ os, 0 ≤ o ∧ o < 256) : Inj (nat_ os) os.length := by
  intro i j hi hj h
  refine inj_at hd i j hi hj ?_
  have h1 := hr _ (at_mem hi)
  have h2 := hr _ (at_mem hj)
  unfold nat_ at h
  omega
theorem mk_sig (os : List Int) (r : RowI) : (mk os r).2.cps.toList = sig (r.1.map (nat_ os)) := by unfold mk; simp
theorem ring_rows {os : List Int} (hd : os.Nodup) (hr : ∀ o ∈ os, 0 ≤ o ∧ o < 256) {a b : RowI} (ha : Fit os a) (hb : Fit os b) (na : 0 < a.2) (nb : 0 < b.2) : ringOf (mk os a).2 = ringOf (mk os b).2 ↔ Cyc a.1 b.1 := by
  rw [ring_iff (by rw [ha.1]; exact na) (by rw [hb.1]; exact nb), mk_sig, mk_sig]
  have rng : ∀ {r : RowI}, Fit os r → ∀ c ∈ r.1.map (nat_ os), c < 256 := by
    intro r hf c hc
    obtain ⟨j, hj, rfl⟩ := List.mem_map.mp hc
    have := hr _ (at_mem (hf.2 j hj))
    unfold nat_; omega
  rw [sig_cyc (rng ha) (rng hb), cyc_map (inj_nat hd hr) ha.2 hb.2]
theorem at_size (os : List Int) (size : Nat) : atSize os size = ((foundI (lensOf os) (roomN os) (roomN os)).filter fun r => r.2 == size).map (mk os) := by
  obtain ⟨h1, h2⟩ := found_eq os (roomN os) (roomN os)
  unfold atSize foundOf
  rw [h1, List.filter_map]
  congr 1
  refine List.filter_congr fun r hr => ?_
  show decide ((mk os r).2.length = size) = _
  rw [(h2 r hr).1, Bool.eq_iff_iff]; simp
theorem sig_low {a : List Nat} (h : ∀ c ∈ a, c < 256) : ∀ x ∈ sig a, x < 128 := by
  intro x hx
  unfold sig at hx
  obtain ⟨c, hc, hx⟩ := List.mem_flatMap.mp hx
  rcases cod_cases (h c hc) with ⟨u, h1, _, _, h4⟩ | ⟨v, w, h1, _, _, _, h5, h6⟩
  · rw [h1] at hx
    rw [List.mem_singleton.mp hx]; exact h4
  · rw [h1] at hx
    simp only [List.mem_cons, List.not_mem_nil, or_false] at hx
    rcases hx with rfl | rfl | rfl
    · decide
    · exact h5
    · exact h6
theorem law_ok {os : List Int} (hl : os.length = 3) (hr : ∀ o ∈ os, 0 ≤ o ∧ o < 256) (hd : os.Nodup) : LawOk os := by
  have F := pat_facts hl hr
  have hroom := room_le os hl
  have rng : ∀ {r : RowI}, Fit os r → ∀ c ∈ r.1.map (nat_ os), c < 256 := by
    intro r hf c hc
    obtain ⟨j, hj, rfl⟩ := List.mem_map.mp hc
    have := hr _ (at_mem (hf.2 j hj))
    unfold nat_; omega
  refine ⟨hl, hr, fun i hi => ?_, fun i hi w hw => F.big i (by omega) w hw, fun r hrm => ?_, fun size hs1 hs2 ws k hws told low => ?_⟩
  · rw [(last_eq os (roomN os) i).1, (found_eq os (roomN os) i).1, List.length_map, List.length_map]
    exact F.szs i hi
  · unfold foundOf at hrm
    obtain ⟨h1, h2⟩ := found_eq os (roomN os) (roomN os)
    rw [h1] at hrm
    obtain ⟨q, hq, rfl⟩ := List.mem_map.mp hrm
    have hf := h2 q hq
    refine ⟨fun o ho => ?_, ?_, ?_⟩
    · unfold mk at ho
      obtain ⟨j, hj, rfl⟩ := List.mem_map.mp ho
      exact hr _ (at_mem (hf.2 j hj))
    · unfold mk
      rw [List.length_map]; exact (F.rows q hq).1
    · rw [mk_sig]
      unfold mk sig
      rw [List.flatMap_map, List.flatMap_map]; rfl
  · obtain ⟨h1, h2⟩ := found_eq os (roomN os) (roomN os)
    have hat := at_size os size
    have hmem : ∀ a ∈ (foundI (lensOf os) (roomN os) (roomN os)).filter (fun r => r.2 == size), Fit os a ∧ a.2 = size ∧ a.1.length ≤ 9 := fun a ha => by
      obtain ⟨h3, h4⟩ := List.mem_filter.mp ha
      exact ⟨h2 a h3, beq_iff_eq.mp h4, (F.rows a h3).1⟩
    have hso := F.size (size - 1) (by omega)
    have e1 : size - 1 + 1 = size := by omega
    have e2 : size - 1 + 2 = size + 1 := by omega
    rw [e1, e2] at hso
    have hlen5 : ((foundI (lensOf os) (roomN os) (roomN os)).filter fun r => r.2 == size).length ≤ 5000 := Nat.le_trans (List.length_filter_le _ _) (F.szs (roomN os) (Nat.le_refl _)).2
    generalize (foundI (lensOf os) (roomN os) (roomN os)).filter (fun r => r.2 == size) = qs at hat hmem hso hlen5
    unfold sizeOk at hso
    simp only [Bool.and_eq_true, List.all_eq_true, beq_iff_eq] at hso
    obtain ⟨hcnt, hsum⟩ := hso
    have hws' : ws.map (·.1) = qs.map fun q => (mk os q).2 := by rw [hws, hat, List.map_map]; rfl
    have hrs : (atSize os size).map (·.1) = qs.map fun q => (mk os q).1 := by rw [hat, List.map_map]; rfl
    have hwl : ws.length = qs.length := by have := congrArg List.length hws'; rwa [List.length_map, List.length_map] at this
    have wmem : ∀ w ∈ ws, ∃ q ∈ qs, w.1 = (mk os q).2 := fun w hw => by
      have : w.1 ∈ qs.map fun q => (mk os q).2 := by rw [← hws']; exact List.mem_map.mpr ⟨w, hw, rfl⟩
      obtain ⟨q, hq, e⟩ := List.mem_map.mp this
      exact ⟨q, hq, e.symm⟩
    have wlen : ∀ w ∈ ws, w.1.length = size := fun w hw => by
      obtain ⟨q, hq, e⟩ := wmem w hw
      rw [e, (hmem q hq).1.1, (hmem q hq).2.1]
    have hrings : ws.map (ringOf ·.1) = qs.map fun q => ringOf (mk os q).2 := by
      have := congrArg (List.map ringOf) hws'
      rw [List.map_map, List.map_map] at this
      exact this
    have hwk : (walksOf os).length = roomN os + 1 := by unfold walksOf; rw [walksUp_len]; omega
    have hinj := inj_at hd
    refine ⟨⟨hs1, by omega⟩, by rw [List.length_take, hwk]; omega, by rw [hrs, List.length_map]; exact hwl, wlen, fun r hrm => ?_, told, low, by omega, fun w hw => ?_, fun w hw => ?_, fun j r w hj1 hj2 => ?_, fun i hi => ?_, ?_⟩
    · rw [hrs] at hrm
      obtain ⟨q, hq, rfl⟩ := List.mem_map.mp hrm
      obtain ⟨g1, g2, g3⟩ := hmem q hq
      have : (mk os q).1.length = q.1.length := by unfold mk; rw [List.length_map]
      show 1 ≤ (mk os q).1.length ∧ (mk os q).1.length ≤ 100
      rw [this]
      refine ⟨?_, by omega⟩
      rcases Nat.eq_zero_or_pos q.1.length with h | h
      · exfalso
        have hq0 : q.1 = [] := List.length_eq_zero_iff.mp h
        have g4 := g1.1
        rw [g2] at g4
        unfold mk at g4
        rw [hq0] at g4
        have : (⟨(sig (([] : List Nat).map (nat_ os))).toArray⟩ : Str).length = 0 := rfl
        rw [this] at g4
        omega
      · exact h
    · obtain ⟨q, hq, e⟩ := wmem w hw
      have hc := ring_cyc w.1
      unfold PyData.strOk
      rw [Array.all_eq_true_iff_forall_mem]
      intro x hx
      have hx' : x ∈ (ringOf w.1).cps.toList := by simpa using hx
      have hx2 : x ∈ w.1.cps.toList := by
        obtain ⟨u, v, h3, h4⟩ := hc
        rw [h4] at hx'
        rw [h3]
        rw [List.mem_append] at hx' ⊢
        exact hx'.symm
      rw [e, mk_sig] at hx2
      have := sig_low (rng (hmem q hq).1) x hx2
      simp; omega
    · have := wlen w hw
      rw [ring_minTurn w.1 (by omega), this]
    · have hj : j < qs.length := by
        rcases Nat.lt_or_ge j qs.length with h | h
        · exact h
        · rw [hrs, List.getElem?_eq_none (by rw [List.length_map]; exact h)] at hj1; cases hj1
      have hq : qs[j]? = some qs[j] := List.getElem?_eq_getElem hj
      have hr1 : r = (mk os qs[j]).1 := by
        rw [hrs, List.getElem?_map, hq] at hj1
        exact (Option.some.inj hj1).symm
      have hw1 : w.1 = (mk os qs[j]).2 := by
        have := congrArg (·[j]?) hws'
        simp only [List.getElem?_map, hj2, hq, Option.map_some] at this
        exact Option.some.inj this
      have hqm := List.getElem_mem hj
      rw [hrings, List.filter_map, List.length_map, hr1]
      obtain ⟨g1, g2, g3⟩ := hmem _ hqm
      have hper : per (mk os qs[j]).1 = perN qs[j].1 := per_map hinj g1.2
      rw [hper, ← hcnt _ hqm]
      congr 1
      refine List.filter_congr fun b hb => ?_
      obtain ⟨f1, f2, f3⟩ := hmem b hb
      show (ringOf (mk os b).2 == ringOf w.1) = _
      rw [hw1, Bool.eq_iff_iff, beq_iff_eq, cycB_iff]
      exact ring_rows hd hr f1 g1 (by omega) (by omega)
    · have := burn_ok
      simp only [List.all_eq_true, List.mem_range, Bool.and_eq_true, decide_eq_true_eq] at this
      exact this size (by omega) i hi
    · rw [hrings]
      have hu := uniqs_map (fun q => ringOf (mk os q).2) (fun a b : RowI => cycB a.1 b.1) (fun q => q ∈ qs) (fun x y hx hy => by
        obtain ⟨f1, f2, f3⟩ := hmem x hx
        obtain ⟨g1, g2, g3⟩ := hmem y hy
        rw [cycB_iff]
        exact (ring_rows hd hr f1 g1 (by omega) (by omega)).symm) qs [] (fun y hy => hy) (fun y hy => by cases hy)
      rw [List.map_nil] at hu
      rw [hu, List.length_map]
      exact hsum
end Mine

end
section
open PySem PySem.W
namespace Mine
set_option Elab.async false
set_option maxRecDepth 100000
set_option linter.unusedVariables false
theorem plain_low : ∀ k : Fin 68, plainS.cps.toList[k.1]?.getD 0 < 256 := by decide +kernel
theorem first_rng (d : Int) : 0 ≤ firstO d ∧ firstO d < 256 := by
  unfold firstO
  have h0 : 0 ≤ d.fmod 512 := Int.fmod_nonneg_of_pos _ (by decide)
  split
  · omega
  · have h1 : 0 ≤ d.fmod 68 := Int.fmod_nonneg_of_pos _ (by decide)
    have h2 : d.fmod 68 < 68 := Int.fmod_lt_of_pos _ (by decide)
    have := plain_low ⟨(d.fmod 68).toNat, by omega⟩
    dsimp only at this
    omega
noncomputable def stepO (c : Int) : Int := (c + 1).fmod 256
theorem step_rng (c : Int) : 0 ≤ stepO c ∧ stepO c < 256 := ⟨Int.fmod_nonneg_of_pos _ (by decide), Int.fmod_lt_of_pos _ (by decide)⟩
theorem step_val {c : Int} (h : 0 ≤ c ∧ c < 256) : stepO c = if c = 255 then 0 else c + 1 := by
  unfold stepO
  rw [Int.fmod_eq_emod_of_nonneg _ (by decide)]
  split <;> omega
theorem bump_rng (acc : List Int) {c : Int} (h : 0 ≤ c ∧ c < 256) : 0 ≤ bump acc c ∧ bump acc c < 256 := by
  unfold bump; split
  · exact step_rng c
  · exact h
theorem bumps_rng (acc : List Int) {c : Int} (h : 0 ≤ c ∧ c < 256) : 0 ≤ bumps acc c 2 ∧ bumps acc c 2 < 256 := bump_rng acc (bump_rng acc h)
theorem bumps_new {acc : List Int} (hl : acc.length ≤ 2) {c : Int} (h : 0 ≤ c ∧ c < 256) : bumps acc c 2 ∉ acc := by
  show bump acc (bump acc c) ∉ acc
  by_cases h1 : c ∈ acc
  · have e1 : bump acc c = stepO c := by unfold bump; rw [if_pos (by simpa using h1)]; rfl
    rw [e1]
    by_cases h2 : stepO c ∈ acc
    · have e2 : bump acc (stepO c) = stepO (stepO c) := by unfold bump; rw [if_pos (by simpa using h2)]; rfl
      rw [e2]
      have v1 := step_val h
      have v2 := step_val (step_rng c)
      generalize stepO (stepO c) = w at v2 ⊢
      generalize stepO c = v at *
      match acc, hl with
      | [], _ => simp
      | [x], _ =>
        simp only [List.mem_cons, List.not_mem_nil, or_false] at h1 h2 ⊢
        split at v1 <;> split at v2 <;> omega
      | [x, y], _ =>
        simp only [List.mem_cons, List.not_mem_nil, or_false] at h1 h2 ⊢
        split at v1 <;> split at v2 <;> omega
    · have e2 : bump acc (stepO c) = stepO c := by unfold bump; rw [if_neg (by simpa using h2)]
      rw [e2]; exact h2
  · have e1 : bump acc c = c := by unfold bump; rw [if_neg (by simpa using h1)]
    rw [e1, e1]; exact h1
theorem octs_ok (ns : List Int) : (octs [] (drawsOf ns)).length = 3 ∧ (∀ o ∈ octs [] (drawsOf ns), 0 ≤ o ∧ o < 256) ∧ (octs [] (drawsOf ns)).Nodup := by
  unfold drawsOf
  generalize drawAt ns 0 10 = x
  generalize drawAt ns 1 32 = y
  generalize drawAt ns 2 65 = z
  have e : octs [] [x, y, z] = [] ++ [bumps [] (firstO x) 2] ++ [bumps ([] ++ [bumps [] (firstO x) 2]) (firstO y) 2] ++ [bumps ([] ++ [bumps [] (firstO x) 2] ++ [bumps ([] ++ [bumps [] (firstO x) 2]) (firstO y) 2]) (firstO z) 2] := rfl
  rw [e]
  clear e
  have ra := bumps_rng [] (first_rng x)
  generalize bumps [] (firstO x) 2 = a at ra
  have rb := bumps_rng ([] ++ [a]) (first_rng y)
  have nb := bumps_new (acc := [] ++ [a]) (by simp) (first_rng y)
  generalize bumps ([] ++ [a]) (firstO y) 2 = b at rb nb
  have rc := bumps_rng ([] ++ [a] ++ [b]) (first_rng z)
  have nc := bumps_new (acc := [] ++ [a] ++ [b]) (by simp) (first_rng z)
  generalize bumps ([] ++ [a] ++ [b]) (firstO z) 2 = c at rc nc
  simp only [List.nil_append, List.mem_cons, List.not_mem_nil, or_false] at nb nc
  refine ⟨rfl, fun o ho => ?_, ?_⟩
  · simp only [List.nil_append, List.mem_append, List.mem_cons, List.not_mem_nil, or_false] at ho
    rcases ho with (rfl | rfl) | rfl
    · exact ra
    · exact rb
    · exact rc
  · simp only [List.nil_append, List.cons_append, List.nodup_cons, List.mem_cons, List.not_mem_nil, or_false, not_or, List.nodup_nil, not_false_iff, and_true]
    simp only [List.mem_append, List.mem_cons, List.not_mem_nil, or_false, not_or] at nc
    refine ⟨⟨fun e => nb e.symm, fun e => nc.1 e.symm⟩, fun e => nc.2 e.symm⟩
theorem law_holds (ns : List Int) : LawOk (octs [] (drawsOf ns)) := let ⟨h1, h2, h3⟩ := octs_ok ns; law_ok h1 h2 h3
end Mine

end
section
open PySem PySem.Calls PyProof.Rows PySem.W PySem.Spec PySem.SeqAt
namespace Mine
set_option Elab.async false
set_option maxRecDepth 100000
set_option linter.unusedVariables false
noncomputable def f32 : Fn := ⟨Str.ofString "law", p32.1, b32.1, s32.1⟩
noncomputable def theDefs : List Fn := [f11, f17, f18, f19, f20, f21, f22, f23, f24, f26, f27, f28, f29, f30, f31, f32]
noncomputable def cxOf (prog : Program) (w : World) (mg mb : Str → Option Value) : Cx := ⟨prog, w, mg, mb, theDefs, MoreOf mg, fun _ _ hk m => MoreOf.keeps hk m⟩
noncomputable def FnIn (h : Heap) (mg : Str → Option Value) (f : Fn) : Prop := ∃ a o pm cd doc, mg f.name = some (.ref a) ∧ h.get? a = some o ∧ o.data = .func (docDef f.name f.params f.body f.scope pm cd doc) ∧ h.CodeRec cd f.name
theorem fn_in {K : Frag} {h : Heap} {mg : Str → Option Value} (X : K.In h) (G : h.Ns mainGlobals mg) (f : Fn) (a : Addr) (e : nsIn K mainGlobals f.name = some (some (.ref a))) {c : Value} {d : Option Addr} {pm cd doc : Value} {sl : Array (Option Value)}
    (hl : K.lookup a = some ⟨c, d, .func (docDef f.name f.params f.body f.scope pm cd doc), sl⟩) (hc : codeIn K cd f.name = true) : FnIn h mg f := ⟨a, _, pm, cd, doc, mg_of X G e, X _ _ hl, rfl, codeRec_of X hc⟩
noncomputable def mapIn (K : Frag) (M : Addr) : Bool := match K.lookup M with
  | some ⟨.type t, _, .seq vs _, _⟩ => t == "list" && (List.range 256).all fun c => match vs[c]? with
    | some (.str x _) => x == codeOf c
    | _ => false
  | _ => false
theorem map_in {K : Frag} {h : Heap} {mg : Str → Option Value} (X : K.In h) (G : h.Ns mainGlobals mg) {M : Addr} (e : nsIn K mainGlobals (Str.ofString "_QUOPRI_HEADER_MAP") = some (some (.ref M))) (hm : mapIn K M = true) (C : Cx) (hC : C.mg = mg) : ∃ M vs, MapAt C h M vs := by
  unfold mapIn at hm
  split at hm
  · rename_i t d vs nn sl hl
    simp only [Bool.and_eq_true, beq_iff_eq, List.all_eq_true, List.mem_range] at hm
    obtain ⟨ht, hm⟩ := hm
    refine ⟨M, vs, by rw [hC]; exact mg_of X G e, ⟨_, X _ _ hl, by rw [ht], nn, rfl⟩, fun c hc => ?_⟩
    have := hm c hc
    split at this
    · rename_i x t' hv
      exact ⟨t', by rw [hv, beq_iff_eq.mp this]⟩
    · cases this
  · cases hm
theorem law_def {C : Cx} (pm : PM C) (hf : f32 ∈ C.defs) (ns : List Int) (hn : ns.length ≤ 63) : DefR C 4 0 (Str.ofString "law") [.list (ns.map .int)] (fun d _ => d = .bool true) := by
  refine DefR.of (f := f32) (xs := ["script"]) hf ⟨rfl, rfl, rfl, by decide +kernel⟩ ?_ ((law_body pm ns hn (law_holds ns)).mono fun x k h _ => ?_)
  · intro pm cd doc us hu
    match us, hu with
    | [u], _ => rfl
  · cases x with
    | next l o => exact h.elim
    | ret d => exact ⟨d, rfl, h⟩
theorem caller_bud : Bud callerA 4 := ⟨rfl, by show (1 + claimMargin) + 4 < recursionLimit; decide, by show 4 + 100 * (4 + 1) < cLine; decide⟩
/-- the law, called -/
theorem law_run {prog : Program} {w : World} {mg mb : Str → Option Value} {s : Shared} {fa a : Addr} {vs : List Value} {ns : List Int} (G : s.heap.Ns mainGlobals mg) (b : s.heap.Ns builtinsNs mb) (bb : ∀ x : Str, x ≠ "__name__" → mb x = bootBuiltins x) (lim : s.heap.NoLimit)
    (fns : ∀ f ∈ theDefs, FnIn s.heap mg f) (more : MoreOf mg s.heap) (miss : ∀ x ∈ ["chr", "ord", "range", "len", "sum", "min", "zip", "enumerate", "hasattr", "bytes"], mg (Str.ofString x) = none)
    (hmg : mg (Str.ofString "law") = some (.ref fa)) (hL : s.heap.IsList a vs.toArray) (hI : IntsAre vs ns) (hn : ¬ (63 : Int) < (ns.length : Int)) :
    wpAny (model prog w) callerA (call (.ref fa) [.ref a]) (fun v s' => Keeps s s' ∧ v = .bool true) NoE s := by
  have K : Kit (cxOf prog w mg mb) s.heap := ⟨G, b, bb, lim, fns, more⟩
  have pm : PM (cxOf prog w mg mb) := ⟨⟨miss, by simp [cxOf, theDefs], by simp [cxOf, theDefs], by simp [cxOf, theDefs], by simp [cxOf, theDefs], by simp [cxOf, theDefs], by simp [cxOf, theDefs], by simp [cxOf, theDefs], by simp [cxOf, theDefs], by simp [cxOf, theDefs], by simp [cxOf, theDefs], by simp [cxOf, theDefs], by simp [cxOf, theDefs], by simp [cxOf, theDefs], by simp [cxOf, theDefs], by simp [cxOf, theDefs]⟩, rfl⟩
  have D := law_def pm (by simp [cxOf, theDefs]) ns (by omega)
  have hr : RepAll (fun _ => True) s.heap [.ref a] [.list (ns.map .int)] := .one (.list trivial hL (by simpa using Mine.IntsAre.rep hI))
  refine wpAny_mono (D callerA (fun _ => True) s [.ref a] fa hmg caller_bud K (fun b hb => absurd trivial hb) hr (Nat.zero_le _)) (fun v s' ⟨k, d, hd, r⟩ => ⟨k, ?_⟩) fun _ _ x => x
  subst hd
  cases r
  rfl
end Mine

end
section
open PySem PySem.Calls PySem.W PyProof.Rows
set_option Elab.async false
set_option maxRecDepth 100000
set_option maxHeartbeats 8000000
namespace MineHead
theorem warm : opensWell PySem.Challenge.rw_ku0002_01.row.toRowW.1 = true := by k_qdec
noncomputable def tp : Program := PySem.W.Fast.tw17174733347860321407.row.toRowW.1
noncomputable def pick : Nat → List Stmt → Stmt
  | _, [] => .Pass ⟨0, 0, 0, 0⟩
  | 0, x :: _ => x
  | n + 1, _ :: l => pick n l
noncomputable def tn (n : Nat) : Stmt := pick n tp.main.body
noncomputable def eBody : Stmt → List Stmt | .FunctionDef _ _ b .. => b | _ => []
noncomputable def ePar : Stmt → Arguments | .FunctionDef _ a .. => a | _ => ⟨[],[],none,[],[],none,[]⟩
noncomputable def eSc : Stmt → Scope | .FunctionDef _ _ _ _ _ _ sc .. => sc | _ => tp.main.scope
noncomputable def u (l : List Nat) : Str := ⟨⟨l⟩⟩
noncomputable def en (P : Params) (s : Str) (t : Nat) (v : Value) : DictEntry := ⟨PyData.keyHash P s, .str s t, v⟩
noncomputable abbrev z : Value := .none

noncomputable def q0 (P : Params) : Obj := PySem.W.boot_o_0 P
noncomputable def q1 (P : Params) : Obj := ⟨(.type PySem.W.SL.s14018661285674007319x4), none, (.dict ⟨[en P (u [98,117,105,108,116,105,110,115]) 162 (.ref 4), en P (u [95,95,109,97,105,110,95,95]) 163 (.ref 5)]⟩ 2), ⟨[]⟩⟩
noncomputable def q2 (P : Params) : Obj := ⟨z, none, (.dict ⟨[]⟩ 0), ⟨[]⟩⟩
noncomputable def q3 (P : Params) : Obj := ⟨(.type PySem.W.SL.s14018661285674007319x4), none, (.dict ⟨[en P (u [95,95,110,97,109,101,95,95]) 165 (.str (u [95,95,109,97,105,110,95,95]) 164), en P (u [95,95,100,111,99,95,95]) 166 z, en P (u [95,95,112,97,99,107,97,103,101,95,95]) 167 z, en P (u [95,95,108,111,97,100,101,114,95,95]) 168 (.builtin PySem.W.SL.s7097527257260152453x26), en P (u [95,95,115,112,101,99,95,95]) 169 z, en P (u [95,95,97,110,110,111,116,97,116,105,111,110,115,95,95]) 170 (.ref 6), en P (u [95,95,98,117,105,108,116,105,110,115,95,95]) 171 (.ref 4), en P (u [95,95,102,105,108,101,95,95]) 173 (.str (u [47,99,108,97,105,109,47,99,117,116,46,112,121]) 172), en P (u [95,95,99,97,99,104,101,100,95,95]) 174 z]⟩ 9), ⟨[]⟩⟩
noncomputable def q4 (P : Params) : Obj := ⟨(.type PySem.W.SL.s6658869562736209489x6), (some 0), .plain, ⟨[]⟩⟩
noncomputable def q5 (P : Params) : Obj := ⟨(.type PySem.W.SL.s6658869562736209489x6), (some 3), .plain, ⟨[]⟩⟩
noncomputable def q6 (P : Params) : Obj := ⟨(.type PySem.W.SL.s14018661285674007319x4), none, (.dict ⟨[]⟩ 0), ⟨[]⟩⟩
noncomputable def q7 (P : Params) : Obj := ⟨(.type PySem.W.SL.s2766695959194262286x5), none, (.seq ⟨[]⟩ 0), ⟨[]⟩⟩
noncomputable def q8 (P : Params) : Obj := ⟨z, none, (.fields ⟨[]⟩), ⟨[]⟩⟩
noncomputable def q9 (P : Params) : Obj := ⟨(.type PySem.W.SL.s5856160107412720595x4), none, (.fields ⟨[(.str (u [60,109,111,100,117,108,101,62]) 176), (.str (u [60,109,111,100,117,108,101,62]) 177), (.str (u [47,99,108,97,105,109,47,99,117,116,46,112,121]) 178), (.int (Int.ofNat 1) 0), (.int (Int.ofNat 0) 0), (.int (Int.ofNat 0) 0), (.int (Int.ofNat 0) 0), (.int (Int.ofNat 0) 0), (.ref 7), (.bool false), (.int (Int.ofNat 175) 0), (.ref 8), z, z, z, z, (.int (Int.ofNat 179) 0), (.int (Int.ofNat 1) 0), (.str (u [47,99,108,97,105,109,47,99,117,116,46,112,121]) 180)]⟩), ⟨[]⟩⟩
noncomputable def q10 (P : Params) : Obj := ⟨(.type PySem.W.SL.s658472552662922059x5), none, .plain, ⟨[(some (.ref 9)), (some (.ref 3)), (some (.ref 3)), none, (some (.str (u [95,95,109,97,105,110,95,95]) 164)), none, (some (.ref 0))]⟩⟩
noncomputable def t0 (P : Params) : BT := (.node (q0 P) (.node (q1 P) (.node (q3 P) (.node (q7 P) .nil .nil) .nil) (.node (q5 P) (.node (q9 P) .nil .nil) .nil)) (.node (q2 P) (.node (q4 P) (.node (q8 P) .nil .nil) .nil) (.node (q6 P) (.node (q10 P) .nil .nil) .nil)))
noncomputable def h0 (P : Params) : Heap := ⟨⟨[q0 P, q1 P, q2 P, q3 P, q4 P, q5 P, q6 P, q7 P, q8 P, q9 P, q10 P]⟩, {}⟩
noncomputable def q11 (P : Params) : Obj := ⟨(.type PySem.W.SL.s5856160107412720595x4), none, (.fields ⟨[(.str (u [60,109,111,100,117,108,101,62]) 182), (.str (u [60,109,111,100,117,108,101,62]) 183), (.str (u [47,99,108,97,105,109,47,99,117,116,46,112,121]) 184), (.int (Int.ofNat 1) 0), (.int (Int.ofNat 0) 0), (.int (Int.ofNat 0) 0), (.int (Int.ofNat 0) 0), (.int (Int.ofNat 0) 0), (.ref 11), (.bool false), (.int (Int.ofNat 181) 0), (.ref 12), z, z, z, z, (.int (Int.ofNat 185) 0), (.int (Int.ofNat 1) 0), (.str (u [47,99,108,97,105,109,47,99,117,116,46,112,121]) 186)]⟩), ⟨[]⟩⟩
noncomputable def q12 (P : Params) : Obj := ⟨(.type PySem.W.SL.s658472552662922059x5), none, .plain, ⟨[(some (.ref 13)), (some (.ref 3)), (some (.ref 3)), none, (some (.str (u [95,95,109,97,105,110,95,95]) 164)), none, (some (.ref 0))]⟩⟩
noncomputable def ta (P : Params) : BT := (.node (q0 P) (.node (q1 P) (.node (q3 P) (.node (q7 P) .nil .nil) (.node (q7 P) .nil .nil)) (.node (q5 P) (.node (q9 P) .nil .nil) (.node (q11 P) .nil .nil))) (.node (q2 P) (.node (q4 P) (.node (q8 P) .nil .nil) (.node (q8 P) .nil .nil)) (.node (q6 P) (.node (q10 P) .nil .nil) (.node (q12 P) .nil .nil))))
noncomputable def ha (P : Params) : Heap := ⟨⟨[q0 P, q1 P, q2 P, q3 P, q4 P, q5 P, q6 P, q7 P, q8 P, q9 P, q10 P, q7 P, q8 P, q11 P, q12 P]⟩, {}⟩
noncomputable def tb (P : Params) : BT := (.node (q0 P) (.node (q1 P) (.node (q3 P) (.node (q7 P) .nil .nil) (.node (q7 P) .nil .nil)) (.node (q5 P) (.node (q9 P) .nil .nil) (.node (q11 P) .nil .nil))) (.node (q2 P) (.node (q4 P) (.node (q8 P) .nil .nil) (.node (q8 P) .nil .nil)) (.node (q6 P) (.node (q10 P) .nil .nil) (.node (q12 P) .nil .nil))))
noncomputable def hb (P : Params) : Heap := ⟨⟨[q0 P, q1 P, q2 P, q3 P, q4 P, q5 P, q6 P, q7 P, q8 P, q9 P, q10 P, q7 P, q8 P, q11 P, q12 P]⟩, {}⟩
noncomputable def q13 (P : Params) : Obj := ⟨(.type PySem.W.SL.s14018661285674007319x4), none, (.dict ⟨[en P (u [95,95,110,97,109,101,95,95]) 165 (.str (u [95,95,109,97,105,110,95,95]) 164), en P (u [95,95,100,111,99,95,95]) 166 z, en P (u [95,95,112,97,99,107,97,103,101,95,95]) 167 z, en P (u [95,95,108,111,97,100,101,114,95,95]) 168 (.builtin PySem.W.SL.s7097527257260152453x26), en P (u [95,95,115,112,101,99,95,95]) 169 z, en P (u [95,95,97,110,110,111,116,97,116,105,111,110,115,95,95]) 170 (.ref 6), en P (u [95,95,98,117,105,108,116,105,110,115,95,95]) 171 (.ref 4), en P (u [95,95,102,105,108,101,95,95]) 173 (.str (u [47,99,108,97,105,109,47,99,117,116,46,112,121]) 172), en P (u [95,95,99,97,99,104,101,100,95,95]) 174 z, en P (u [95,81,85,79,80,82,73,95,77,65,80]) 1214 (.ref 17)]⟩ 10), ⟨[]⟩⟩
noncomputable def q14 (P : Params) : Obj := ⟨(.type PySem.W.SL.s1438033511350832697x5), none, (.fields ⟨[(.int (Int.ofNat 0) 188), (.int (Int.ofNat 256) 187), (.int (Int.ofNat 1) 189)]⟩), ⟨[]⟩⟩
noncomputable def q15 (P : Params) : Obj := ⟨(.type PySem.W.SL.s15992201931430999065x14), none, (.fields ⟨[(.int (Int.ofNat 256) 0), (.int (Int.ofNat 0) 0), (.int (Int.ofNat 1) 0)]⟩), ⟨[]⟩⟩
noncomputable def q16 (P : Params) : Obj := ⟨(.type PySem.W.SL.s9222952809800978799x4), none, (.seq ⟨[(.str (u [61,48,48]) 193), (.str (u [61,48,49]) 197), (.str (u [61,48,50]) 201), (.str (u [61,48,51]) 205), (.str (u [61,48,52]) 209), (.str (u [61,48,53]) 213), (.str (u [61,48,54]) 217), (.str (u [61,48,55]) 221), (.str (u [61,48,56]) 225), (.str (u [61,48,57]) 229), (.str (u [61,48,65]) 233), (.str (u [61,48,66]) 237), (.str (u [61,48,67]) 241), (.str (u [61,48,68]) 245), (.str (u [61,48,69]) 249), (.str (u [61,48,70]) 253), (.str (u [61,49,48]) 257), (.str (u [61,49,49]) 261), (.str (u [61,49,50]) 265), (.str (u [61,49,51]) 269), (.str (u [61,49,52]) 273), (.str (u [61,49,53]) 277), (.str (u [61,49,54]) 281), (.str (u [61,49,55]) 285), (.str (u [61,49,56]) 289), (.str (u [61,49,57]) 293), (.str (u [61,49,65]) 297), (.str (u [61,49,66]) 301), (.str (u [61,49,67]) 305), (.str (u [61,49,68]) 309), (.str (u [61,49,69]) 313), (.str (u [61,49,70]) 317), (.str (u [61,50,48]) 321), (.str (u [61,50,49]) 325), (.str (u [61,50,50]) 329), (.str (u [61,50,51]) 333), (.str (u [61,50,52]) 337), (.str (u [61,50,53]) 341), (.str (u [61,50,54]) 345), (.str (u [61,50,55]) 349), (.str (u [61,50,56]) 353), (.str (u [61,50,57]) 357), (.str (u [61,50,65]) 361), (.str (u [61,50,66]) 365), (.str (u [61,50,67]) 369), (.str (u [61,50,68]) 373), (.str (u [61,50,69]) 377), (.str (u [61,50,70]) 381), (.str (u [61,51,48]) 385), (.str (u [61,51,49]) 389), (.str (u [61,51,50]) 393), (.str (u [61,51,51]) 397), (.str (u [61,51,52]) 401), (.str (u [61,51,53]) 405), (.str (u [61,51,54]) 409), (.str (u [61,51,55]) 413), (.str (u [61,51,56]) 417), (.str (u [61,51,57]) 421), (.str (u [61,51,65]) 425), (.str (u [61,51,66]) 429), (.str (u [61,51,67]) 433), (.str (u [61,51,68]) 437), (.str (u [61,51,69]) 441), (.str (u [61,51,70]) 445), (.str (u [61,52,48]) 449), (.str (u [61,52,49]) 453), (.str (u [61,52,50]) 457), (.str (u [61,52,51]) 461), (.str (u [61,52,52]) 465), (.str (u [61,52,53]) 469), (.str (u [61,52,54]) 473), (.str (u [61,52,55]) 477), (.str (u [61,52,56]) 481), (.str (u [61,52,57]) 485), (.str (u [61,52,65]) 489), (.str (u [61,52,66]) 493), (.str (u [61,52,67]) 497), (.str (u [61,52,68]) 501), (.str (u [61,52,69]) 505), (.str (u [61,52,70]) 509), (.str (u [61,53,48]) 513), (.str (u [61,53,49]) 517), (.str (u [61,53,50]) 521), (.str (u [61,53,51]) 525), (.str (u [61,53,52]) 529), (.str (u [61,53,53]) 533), (.str (u [61,53,54]) 537), (.str (u [61,53,55]) 541), (.str (u [61,53,56]) 545), (.str (u [61,53,57]) 549), (.str (u [61,53,65]) 553), (.str (u [61,53,66]) 557), (.str (u [61,53,67]) 561), (.str (u [61,53,68]) 565), (.str (u [61,53,69]) 569), (.str (u [61,53,70]) 573), (.str (u [61,54,48]) 577), (.str (u [61,54,49]) 581), (.str (u [61,54,50]) 585), (.str (u [61,54,51]) 589), (.str (u [61,54,52]) 593), (.str (u [61,54,53]) 597), (.str (u [61,54,54]) 601), (.str (u [61,54,55]) 605), (.str (u [61,54,56]) 609), (.str (u [61,54,57]) 613), (.str (u [61,54,65]) 617), (.str (u [61,54,66]) 621), (.str (u [61,54,67]) 625), (.str (u [61,54,68]) 629), (.str (u [61,54,69]) 633), (.str (u [61,54,70]) 637), (.str (u [61,55,48]) 641), (.str (u [61,55,49]) 645), (.str (u [61,55,50]) 649), (.str (u [61,55,51]) 653), (.str (u [61,55,52]) 657), (.str (u [61,55,53]) 661), (.str (u [61,55,54]) 665), (.str (u [61,55,55]) 669), (.str (u [61,55,56]) 673), (.str (u [61,55,57]) 677), (.str (u [61,55,65]) 681), (.str (u [61,55,66]) 685), (.str (u [61,55,67]) 689), (.str (u [61,55,68]) 693), (.str (u [61,55,69]) 697), (.str (u [61,55,70]) 701), (.str (u [61,56,48]) 705), (.str (u [61,56,49]) 709), (.str (u [61,56,50]) 713), (.str (u [61,56,51]) 717), (.str (u [61,56,52]) 721), (.str (u [61,56,53]) 725), (.str (u [61,56,54]) 729), (.str (u [61,56,55]) 733), (.str (u [61,56,56]) 737), (.str (u [61,56,57]) 741), (.str (u [61,56,65]) 745), (.str (u [61,56,66]) 749), (.str (u [61,56,67]) 753), (.str (u [61,56,68]) 757), (.str (u [61,56,69]) 761), (.str (u [61,56,70]) 765), (.str (u [61,57,48]) 769), (.str (u [61,57,49]) 773), (.str (u [61,57,50]) 777), (.str (u [61,57,51]) 781), (.str (u [61,57,52]) 785), (.str (u [61,57,53]) 789), (.str (u [61,57,54]) 793), (.str (u [61,57,55]) 797), (.str (u [61,57,56]) 801), (.str (u [61,57,57]) 805), (.str (u [61,57,65]) 809), (.str (u [61,57,66]) 813), (.str (u [61,57,67]) 817), (.str (u [61,57,68]) 821), (.str (u [61,57,69]) 825), (.str (u [61,57,70]) 829), (.str (u [61,65,48]) 833), (.str (u [61,65,49]) 837), (.str (u [61,65,50]) 841), (.str (u [61,65,51]) 845), (.str (u [61,65,52]) 849), (.str (u [61,65,53]) 853), (.str (u [61,65,54]) 857), (.str (u [61,65,55]) 861), (.str (u [61,65,56]) 865), (.str (u [61,65,57]) 869), (.str (u [61,65,65]) 873), (.str (u [61,65,66]) 877), (.str (u [61,65,67]) 881), (.str (u [61,65,68]) 885), (.str (u [61,65,69]) 889), (.str (u [61,65,70]) 893), (.str (u [61,66,48]) 897), (.str (u [61,66,49]) 901), (.str (u [61,66,50]) 905), (.str (u [61,66,51]) 909), (.str (u [61,66,52]) 913), (.str (u [61,66,53]) 917), (.str (u [61,66,54]) 921), (.str (u [61,66,55]) 925), (.str (u [61,66,56]) 929), (.str (u [61,66,57]) 933), (.str (u [61,66,65]) 937), (.str (u [61,66,66]) 941), (.str (u [61,66,67]) 945), (.str (u [61,66,68]) 949), (.str (u [61,66,69]) 953), (.str (u [61,66,70]) 957), (.str (u [61,67,48]) 961), (.str (u [61,67,49]) 965), (.str (u [61,67,50]) 969), (.str (u [61,67,51]) 973), (.str (u [61,67,52]) 977), (.str (u [61,67,53]) 981), (.str (u [61,67,54]) 985), (.str (u [61,67,55]) 989), (.str (u [61,67,56]) 993), (.str (u [61,67,57]) 997), (.str (u [61,67,65]) 1001), (.str (u [61,67,66]) 1005), (.str (u [61,67,67]) 1009), (.str (u [61,67,68]) 1013), (.str (u [61,67,69]) 1017), (.str (u [61,67,70]) 1021), (.str (u [61,68,48]) 1025), (.str (u [61,68,49]) 1029), (.str (u [61,68,50]) 1033), (.str (u [61,68,51]) 1037), (.str (u [61,68,52]) 1041), (.str (u [61,68,53]) 1045), (.str (u [61,68,54]) 1049), (.str (u [61,68,55]) 1053), (.str (u [61,68,56]) 1057), (.str (u [61,68,57]) 1061), (.str (u [61,68,65]) 1065), (.str (u [61,68,66]) 1069), (.str (u [61,68,67]) 1073), (.str (u [61,68,68]) 1077), (.str (u [61,68,69]) 1081), (.str (u [61,68,70]) 1085), (.str (u [61,69,48]) 1089), (.str (u [61,69,49]) 1093), (.str (u [61,69,50]) 1097), (.str (u [61,69,51]) 1101), (.str (u [61,69,52]) 1105), (.str (u [61,69,53]) 1109), (.str (u [61,69,54]) 1113), (.str (u [61,69,55]) 1117), (.str (u [61,69,56]) 1121), (.str (u [61,69,57]) 1125), (.str (u [61,69,65]) 1129), (.str (u [61,69,66]) 1133), (.str (u [61,69,67]) 1137), (.str (u [61,69,68]) 1141), (.str (u [61,69,69]) 1145), (.str (u [61,69,70]) 1149), (.str (u [61,70,48]) 1153), (.str (u [61,70,49]) 1157), (.str (u [61,70,50]) 1161), (.str (u [61,70,51]) 1165), (.str (u [61,70,52]) 1169), (.str (u [61,70,53]) 1173), (.str (u [61,70,54]) 1177), (.str (u [61,70,55]) 1181), (.str (u [61,70,56]) 1185), (.str (u [61,70,57]) 1189), (.str (u [61,70,65]) 1193), (.str (u [61,70,66]) 1197), (.str (u [61,70,67]) 1201), (.str (u [61,70,68]) 1205), (.str (u [61,70,69]) 1209), (.str (u [61,70,70]) 1213)]⟩ 256), ⟨[]⟩⟩
noncomputable def q17 (P : Params) : Obj := ⟨(.type PySem.W.SL.s14018661285674007319x4), none, (.dict ⟨[]⟩ 2), ⟨[]⟩⟩
noncomputable def q18 (P : Params) : Obj := ⟨(.type PySem.W.SL.s5991306692159431302x13), none, (.fields ⟨[(.ref 19), z, z, z, (.bool false), z]⟩), ⟨[]⟩⟩
noncomputable def t1 (P : Params) : BT := (.node (q0 P) (.node (q1 P) (.node (q13 P) (.node (q7 P) (.node (q14 P) .nil .nil) .nil) (.node (q7 P) (.node (q7 P) .nil .nil) .nil)) (.node (q5 P) (.node (q9 P) (.node (q16 P) .nil .nil) .nil) (.node (q11 P) .nil .nil))) (.node (q2 P) (.node (q4 P) (.node (q8 P) (.node (q15 P) .nil .nil) .nil) (.node (q8 P) (.node (q18 P) .nil .nil) .nil)) (.node (q6 P) (.node (q10 P) (.node (q17 P) .nil .nil) .nil) (.node (q12 P) .nil .nil))))
noncomputable def h1 (P : Params) : Heap := ⟨⟨[q0 P, q1 P, q2 P, q13 P, q4 P, q5 P, q6 P, q7 P, q8 P, q9 P, q10 P, q7 P, q8 P, q11 P, q12 P, q14 P, q15 P, q16 P, q17 P, q7 P, q18 P]⟩, {}⟩
noncomputable def q19 (P : Params) : Obj := ⟨(.type PySem.W.SL.s14018661285674007319x4), none, (.dict ⟨[en P (u [95,95,110,97,109,101,95,95]) 165 (.str (u [99,112,121,51,49,51,46,101,109,97,105,108,46,113,117,111,112,114,105,109,105,109,101]) 1225), en P (u [95,95,100,111,99,95,95]) 166 z, en P (u [95,95,112,97,99,107,97,103,101,95,95]) 167 z, en P (u [95,95,108,111,97,100,101,114,95,95]) 168 (.builtin PySem.W.SL.s7097527257260152453x26), en P (u [95,95,115,112,101,99,95,95]) 169 z, en P (u [95,95,97,110,110,111,116,97,116,105,111,110,115,95,95]) 170 (.ref 6), en P (u [95,95,98,117,105,108,116,105,110,115,95,95]) 171 (.ref 4), en P (u [95,95,102,105,108,101,95,95]) 173 (.str (u [47,99,108,97,105,109,47,99,117,116,46,112,121]) 172), en P (u [95,95,99,97,99,104,101,100,95,95]) 174 z, en P (u [95,81,85,79,80,82,73,95,77,65,80]) 1214 (.ref 17), en P (u [95,81,85,79,80,82,73,95,72,69,65,68,69,82,95,77,65,80]) 1215 (.ref 22), en P (u [95,81,85,79,80,82,73,95,66,79,68,89,95,77,65,80]) 1216 (.ref 24), en P (u [97,115,99,105,105,95,108,111,119,101,114,99,97,115,101]) 1218 (.str (u [97,98,99,100,101,102,103,104,105,106,107,108,109,110,111,112,113,114,115,116,117,118,119,120,121,122]) 1217), en P (u [97,115,99,105,105,95,117,112,112,101,114,99,97,115,101]) 1220 (.str (u [65,66,67,68,69,70,71,72,73,74,75,76,77,78,79,80,81,82,83,84,85,86,87,88,89,90]) 1219), en P (u [97,115,99,105,105,95,108,101,116,116,101,114,115]) 1222 (.str (u [97,98,99,100,101,102,103,104,105,106,107,108,109,110,111,112,113,114,115,116,117,118,119,120,121,122,65,66,67,68,69,70,71,72,73,74,75,76,77,78,79,80,81,82,83,84,85,86,87,88,89,90]) 1221), en P (u [100,105,103,105,116,115]) 1224 (.str (u [48,49,50,51,52,53,54,55,56,57]) 1223)]⟩ 16), ⟨[]⟩⟩
noncomputable def q20 (P : Params) : Obj := ⟨(.type PySem.W.SL.s4674234679698826739x5), none, (.fields ⟨[z, z, z]⟩), ⟨[]⟩⟩
noncomputable def q21 (P : Params) : Obj := ⟨(.type PySem.W.SL.s9222952809800978799x4), none, (.seq ⟨[(.str (u [61,48,48]) 193), (.str (u [61,48,49]) 197), (.str (u [61,48,50]) 201), (.str (u [61,48,51]) 205), (.str (u [61,48,52]) 209), (.str (u [61,48,53]) 213), (.str (u [61,48,54]) 217), (.str (u [61,48,55]) 221), (.str (u [61,48,56]) 225), (.str (u [61,48,57]) 229), (.str (u [61,48,65]) 233), (.str (u [61,48,66]) 237), (.str (u [61,48,67]) 241), (.str (u [61,48,68]) 245), (.str (u [61,48,69]) 249), (.str (u [61,48,70]) 253), (.str (u [61,49,48]) 257), (.str (u [61,49,49]) 261), (.str (u [61,49,50]) 265), (.str (u [61,49,51]) 269), (.str (u [61,49,52]) 273), (.str (u [61,49,53]) 277), (.str (u [61,49,54]) 281), (.str (u [61,49,55]) 285), (.str (u [61,49,56]) 289), (.str (u [61,49,57]) 293), (.str (u [61,49,65]) 297), (.str (u [61,49,66]) 301), (.str (u [61,49,67]) 305), (.str (u [61,49,68]) 309), (.str (u [61,49,69]) 313), (.str (u [61,49,70]) 317), (.str (u [61,50,48]) 321), (.str (u [61,50,49]) 325), (.str (u [61,50,50]) 329), (.str (u [61,50,51]) 333), (.str (u [61,50,52]) 337), (.str (u [61,50,53]) 341), (.str (u [61,50,54]) 345), (.str (u [61,50,55]) 349), (.str (u [61,50,56]) 353), (.str (u [61,50,57]) 357), (.str (u [61,50,65]) 361), (.str (u [61,50,66]) 365), (.str (u [61,50,67]) 369), (.str (u [61,50,68]) 373), (.str (u [61,50,69]) 377), (.str (u [61,50,70]) 381), (.str (u [61,51,48]) 385), (.str (u [61,51,49]) 389), (.str (u [61,51,50]) 393), (.str (u [61,51,51]) 397), (.str (u [61,51,52]) 401), (.str (u [61,51,53]) 405), (.str (u [61,51,54]) 409), (.str (u [61,51,55]) 413), (.str (u [61,51,56]) 417), (.str (u [61,51,57]) 421), (.str (u [61,51,65]) 425), (.str (u [61,51,66]) 429), (.str (u [61,51,67]) 433), (.str (u [61,51,68]) 437), (.str (u [61,51,69]) 441), (.str (u [61,51,70]) 445), (.str (u [61,52,48]) 449), (.str (u [61,52,49]) 453), (.str (u [61,52,50]) 457), (.str (u [61,52,51]) 461), (.str (u [61,52,52]) 465), (.str (u [61,52,53]) 469), (.str (u [61,52,54]) 473), (.str (u [61,52,55]) 477), (.str (u [61,52,56]) 481), (.str (u [61,52,57]) 485), (.str (u [61,52,65]) 489), (.str (u [61,52,66]) 493), (.str (u [61,52,67]) 497), (.str (u [61,52,68]) 501), (.str (u [61,52,69]) 505), (.str (u [61,52,70]) 509), (.str (u [61,53,48]) 513), (.str (u [61,53,49]) 517), (.str (u [61,53,50]) 521), (.str (u [61,53,51]) 525), (.str (u [61,53,52]) 529), (.str (u [61,53,53]) 533), (.str (u [61,53,54]) 537), (.str (u [61,53,55]) 541), (.str (u [61,53,56]) 545), (.str (u [61,53,57]) 549), (.str (u [61,53,65]) 553), (.str (u [61,53,66]) 557), (.str (u [61,53,67]) 561), (.str (u [61,53,68]) 565), (.str (u [61,53,69]) 569), (.str (u [61,53,70]) 573), (.str (u [61,54,48]) 577), (.str (u [61,54,49]) 581), (.str (u [61,54,50]) 585), (.str (u [61,54,51]) 589), (.str (u [61,54,52]) 593), (.str (u [61,54,53]) 597), (.str (u [61,54,54]) 601), (.str (u [61,54,55]) 605), (.str (u [61,54,56]) 609), (.str (u [61,54,57]) 613), (.str (u [61,54,65]) 617), (.str (u [61,54,66]) 621), (.str (u [61,54,67]) 625), (.str (u [61,54,68]) 629), (.str (u [61,54,69]) 633), (.str (u [61,54,70]) 637), (.str (u [61,55,48]) 641), (.str (u [61,55,49]) 645), (.str (u [61,55,50]) 649), (.str (u [61,55,51]) 653), (.str (u [61,55,52]) 657), (.str (u [61,55,53]) 661), (.str (u [61,55,54]) 665), (.str (u [61,55,55]) 669), (.str (u [61,55,56]) 673), (.str (u [61,55,57]) 677), (.str (u [61,55,65]) 681), (.str (u [61,55,66]) 685), (.str (u [61,55,67]) 689), (.str (u [61,55,68]) 693), (.str (u [61,55,69]) 697), (.str (u [61,55,70]) 701), (.str (u [61,56,48]) 705), (.str (u [61,56,49]) 709), (.str (u [61,56,50]) 713), (.str (u [61,56,51]) 717), (.str (u [61,56,52]) 721), (.str (u [61,56,53]) 725), (.str (u [61,56,54]) 729), (.str (u [61,56,55]) 733), (.str (u [61,56,56]) 737), (.str (u [61,56,57]) 741), (.str (u [61,56,65]) 745), (.str (u [61,56,66]) 749), (.str (u [61,56,67]) 753), (.str (u [61,56,68]) 757), (.str (u [61,56,69]) 761), (.str (u [61,56,70]) 765), (.str (u [61,57,48]) 769), (.str (u [61,57,49]) 773), (.str (u [61,57,50]) 777), (.str (u [61,57,51]) 781), (.str (u [61,57,52]) 785), (.str (u [61,57,53]) 789), (.str (u [61,57,54]) 793), (.str (u [61,57,55]) 797), (.str (u [61,57,56]) 801), (.str (u [61,57,57]) 805), (.str (u [61,57,65]) 809), (.str (u [61,57,66]) 813), (.str (u [61,57,67]) 817), (.str (u [61,57,68]) 821), (.str (u [61,57,69]) 825), (.str (u [61,57,70]) 829), (.str (u [61,65,48]) 833), (.str (u [61,65,49]) 837), (.str (u [61,65,50]) 841), (.str (u [61,65,51]) 845), (.str (u [61,65,52]) 849), (.str (u [61,65,53]) 853), (.str (u [61,65,54]) 857), (.str (u [61,65,55]) 861), (.str (u [61,65,56]) 865), (.str (u [61,65,57]) 869), (.str (u [61,65,65]) 873), (.str (u [61,65,66]) 877), (.str (u [61,65,67]) 881), (.str (u [61,65,68]) 885), (.str (u [61,65,69]) 889), (.str (u [61,65,70]) 893), (.str (u [61,66,48]) 897), (.str (u [61,66,49]) 901), (.str (u [61,66,50]) 905), (.str (u [61,66,51]) 909), (.str (u [61,66,52]) 913), (.str (u [61,66,53]) 917), (.str (u [61,66,54]) 921), (.str (u [61,66,55]) 925), (.str (u [61,66,56]) 929), (.str (u [61,66,57]) 933), (.str (u [61,66,65]) 937), (.str (u [61,66,66]) 941), (.str (u [61,66,67]) 945), (.str (u [61,66,68]) 949), (.str (u [61,66,69]) 953), (.str (u [61,66,70]) 957), (.str (u [61,67,48]) 961), (.str (u [61,67,49]) 965), (.str (u [61,67,50]) 969), (.str (u [61,67,51]) 973), (.str (u [61,67,52]) 977), (.str (u [61,67,53]) 981), (.str (u [61,67,54]) 985), (.str (u [61,67,55]) 989), (.str (u [61,67,56]) 993), (.str (u [61,67,57]) 997), (.str (u [61,67,65]) 1001), (.str (u [61,67,66]) 1005), (.str (u [61,67,67]) 1009), (.str (u [61,67,68]) 1013), (.str (u [61,67,69]) 1017), (.str (u [61,67,70]) 1021), (.str (u [61,68,48]) 1025), (.str (u [61,68,49]) 1029), (.str (u [61,68,50]) 1033), (.str (u [61,68,51]) 1037), (.str (u [61,68,52]) 1041), (.str (u [61,68,53]) 1045), (.str (u [61,68,54]) 1049), (.str (u [61,68,55]) 1053), (.str (u [61,68,56]) 1057), (.str (u [61,68,57]) 1061), (.str (u [61,68,65]) 1065), (.str (u [61,68,66]) 1069), (.str (u [61,68,67]) 1073), (.str (u [61,68,68]) 1077), (.str (u [61,68,69]) 1081), (.str (u [61,68,70]) 1085), (.str (u [61,69,48]) 1089), (.str (u [61,69,49]) 1093), (.str (u [61,69,50]) 1097), (.str (u [61,69,51]) 1101), (.str (u [61,69,52]) 1105), (.str (u [61,69,53]) 1109), (.str (u [61,69,54]) 1113), (.str (u [61,69,55]) 1117), (.str (u [61,69,56]) 1121), (.str (u [61,69,57]) 1125), (.str (u [61,69,65]) 1129), (.str (u [61,69,66]) 1133), (.str (u [61,69,67]) 1137), (.str (u [61,69,68]) 1141), (.str (u [61,69,69]) 1145), (.str (u [61,69,70]) 1149), (.str (u [61,70,48]) 1153), (.str (u [61,70,49]) 1157), (.str (u [61,70,50]) 1161), (.str (u [61,70,51]) 1165), (.str (u [61,70,52]) 1169), (.str (u [61,70,53]) 1173), (.str (u [61,70,54]) 1177), (.str (u [61,70,55]) 1181), (.str (u [61,70,56]) 1185), (.str (u [61,70,57]) 1189), (.str (u [61,70,65]) 1193), (.str (u [61,70,66]) 1197), (.str (u [61,70,67]) 1201), (.str (u [61,70,68]) 1205), (.str (u [61,70,69]) 1209), (.str (u [61,70,70]) 1213)]⟩ 0), ⟨[]⟩⟩
noncomputable def t2 (P : Params) : BT := (.node (q0 P) (.node (q1 P) (.node (q19 P) (.node (q7 P) (.node (q14 P) .nil .nil) (.node (q20 P) .nil .nil)) (.node (q7 P) (.node (q7 P) .nil .nil) .nil)) (.node (q5 P) (.node (q9 P) (.node (q16 P) .nil .nil) .nil) (.node (q11 P) (.node (q20 P) .nil .nil) .nil))) (.node (q2 P) (.node (q4 P) (.node (q8 P) (.node (q15 P) .nil .nil) (.node (q21 P) .nil .nil)) (.node (q8 P) (.node (q18 P) .nil .nil) .nil)) (.node (q6 P) (.node (q10 P) (.node (q17 P) .nil .nil) .nil) (.node (q12 P) (.node (q21 P) .nil .nil) .nil))))
noncomputable def h2 (P : Params) : Heap := ⟨⟨[q0 P, q1 P, q2 P, q19 P, q4 P, q5 P, q6 P, q7 P, q8 P, q9 P, q10 P, q7 P, q8 P, q11 P, q12 P, q14 P, q15 P, q16 P, q17 P, q7 P, q18 P, q20 P, q21 P, q20 P, q21 P]⟩, {}⟩
noncomputable def q22 (P : Params) : Obj := ⟨(.type PySem.W.SL.s14018661285674007319x4), none, (.dict ⟨[en P (u [95,95,110,97,109,101,95,95]) 165 (.str (u [99,112,121,51,49,51,46,101,109,97,105,108,46,113,117,111,112,114,105,109,105,109,101]) 1225), en P (u [95,95,100,111,99,95,95]) 166 z, en P (u [95,95,112,97,99,107,97,103,101,95,95]) 167 z, en P (u [95,95,108,111,97,100,101,114,95,95]) 168 (.builtin PySem.W.SL.s7097527257260152453x26), en P (u [95,95,115,112,101,99,95,95]) 169 z, en P (u [95,95,97,110,110,111,116,97,116,105,111,110,115,95,95]) 170 (.ref 6), en P (u [95,95,98,117,105,108,116,105,110,115,95,95]) 171 (.ref 4), en P (u [95,95,102,105,108,101,95,95]) 173 (.str (u [47,99,108,97,105,109,47,99,117,116,46,112,121]) 172), en P (u [95,95,99,97,99,104,101,100,95,95]) 174 z, en P (u [95,81,85,79,80,82,73,95,77,65,80]) 1214 (.ref 17), en P (u [95,81,85,79,80,82,73,95,72,69,65,68,69,82,95,77,65,80]) 1215 (.ref 22), en P (u [95,81,85,79,80,82,73,95,66,79,68,89,95,77,65,80]) 1216 (.ref 24), en P (u [97,115,99,105,105,95,108,111,119,101,114,99,97,115,101]) 1218 (.str (u [97,98,99,100,101,102,103,104,105,106,107,108,109,110,111,112,113,114,115,116,117,118,119,120,121,122]) 1217), en P (u [97,115,99,105,105,95,117,112,112,101,114,99,97,115,101]) 1220 (.str (u [65,66,67,68,69,70,71,72,73,74,75,76,77,78,79,80,81,82,83,84,85,86,87,88,89,90]) 1219), en P (u [97,115,99,105,105,95,108,101,116,116,101,114,115]) 1222 (.str (u [97,98,99,100,101,102,103,104,105,106,107,108,109,110,111,112,113,114,115,116,117,118,119,120,121,122,65,66,67,68,69,70,71,72,73,74,75,76,77,78,79,80,81,82,83,84,85,86,87,88,89,90]) 1221), en P (u [100,105,103,105,116,115]) 1224 (.str (u [48,49,50,51,52,53,54,55,56,57]) 1223), en P (u [99]) 1235 (.int (Int.ofNat 57) 1432)]⟩ 17), ⟨[]⟩⟩
noncomputable def q23 (P : Params) : Obj := ⟨(.type PySem.W.SL.s9222952809800978799x4), none, (.seq ⟨[(.str (u [61,48,48]) 193), (.str (u [61,48,49]) 197), (.str (u [61,48,50]) 201), (.str (u [61,48,51]) 205), (.str (u [61,48,52]) 209), (.str (u [61,48,53]) 213), (.str (u [61,48,54]) 217), (.str (u [61,48,55]) 221), (.str (u [61,48,56]) 225), (.str (u [61,48,57]) 229), (.str (u [61,48,65]) 233), (.str (u [61,48,66]) 237), (.str (u [61,48,67]) 241), (.str (u [61,48,68]) 245), (.str (u [61,48,69]) 249), (.str (u [61,48,70]) 253), (.str (u [61,49,48]) 257), (.str (u [61,49,49]) 261), (.str (u [61,49,50]) 265), (.str (u [61,49,51]) 269), (.str (u [61,49,52]) 273), (.str (u [61,49,53]) 277), (.str (u [61,49,54]) 281), (.str (u [61,49,55]) 285), (.str (u [61,49,56]) 289), (.str (u [61,49,57]) 293), (.str (u [61,49,65]) 297), (.str (u [61,49,66]) 301), (.str (u [61,49,67]) 305), (.str (u [61,49,68]) 309), (.str (u [61,49,69]) 313), (.str (u [61,49,70]) 317), (.str (u [61,50,48]) 321), (.str (u [33]) 1239), (.str (u [61,50,50]) 329), (.str (u [61,50,51]) 333), (.str (u [61,50,52]) 337), (.str (u [61,50,53]) 341), (.str (u [61,50,54]) 345), (.str (u [61,50,55]) 349), (.str (u [61,50,56]) 353), (.str (u [61,50,57]) 357), (.str (u [42]) 1242), (.str (u [43]) 1245), (.str (u [61,50,67]) 369), (.str (u [45]) 1236), (.str (u [61,50,69]) 377), (.str (u [47]) 1248), (.str (u [48]) 1407), (.str (u [49]) 1410), (.str (u [50]) 1413), (.str (u [51]) 1416), (.str (u [52]) 1419), (.str (u [53]) 1422), (.str (u [54]) 1425), (.str (u [55]) 1428), (.str (u [56]) 1431), (.str (u [57]) 1434), (.str (u [61,51,65]) 425), (.str (u [61,51,66]) 429), (.str (u [61,51,67]) 433), (.str (u [61,51,68]) 437), (.str (u [61,51,69]) 441), (.str (u [61,51,70]) 445), (.str (u [61,52,48]) 449), (.str (u [65]) 1329), (.str (u [66]) 1332), (.str (u [67]) 1335), (.str (u [68]) 1338), (.str (u [69]) 1341), (.str (u [70]) 1344), (.str (u [71]) 1347), (.str (u [72]) 1350), (.str (u [73]) 1353), (.str (u [74]) 1356), (.str (u [75]) 1359), (.str (u [76]) 1362), (.str (u [77]) 1365), (.str (u [78]) 1368), (.str (u [79]) 1371), (.str (u [80]) 1374), (.str (u [81]) 1377), (.str (u [82]) 1380), (.str (u [83]) 1383), (.str (u [84]) 1386), (.str (u [85]) 1389), (.str (u [86]) 1392), (.str (u [87]) 1395), (.str (u [88]) 1398), (.str (u [89]) 1401), (.str (u [90]) 1404), (.str (u [61,53,66]) 557), (.str (u [61,53,67]) 561), (.str (u [61,53,68]) 565), (.str (u [61,53,69]) 569), (.str (u [61,53,70]) 573), (.str (u [61,54,48]) 577), (.str (u [97]) 1251), (.str (u [98]) 1254), (.str (u [99]) 1257), (.str (u [100]) 1260), (.str (u [101]) 1263), (.str (u [102]) 1266), (.str (u [103]) 1269), (.str (u [104]) 1272), (.str (u [105]) 1275), (.str (u [106]) 1278), (.str (u [107]) 1281), (.str (u [108]) 1284), (.str (u [109]) 1287), (.str (u [110]) 1290), (.str (u [111]) 1293), (.str (u [112]) 1296), (.str (u [113]) 1299), (.str (u [114]) 1302), (.str (u [115]) 1305), (.str (u [116]) 1308), (.str (u [117]) 1311), (.str (u [118]) 1314), (.str (u [119]) 1317), (.str (u [120]) 1320), (.str (u [121]) 1323), (.str (u [122]) 1326), (.str (u [61,55,66]) 685), (.str (u [61,55,67]) 689), (.str (u [61,55,68]) 693), (.str (u [61,55,69]) 697), (.str (u [61,55,70]) 701), (.str (u [61,56,48]) 705), (.str (u [61,56,49]) 709), (.str (u [61,56,50]) 713), (.str (u [61,56,51]) 717), (.str (u [61,56,52]) 721), (.str (u [61,56,53]) 725), (.str (u [61,56,54]) 729), (.str (u [61,56,55]) 733), (.str (u [61,56,56]) 737), (.str (u [61,56,57]) 741), (.str (u [61,56,65]) 745), (.str (u [61,56,66]) 749), (.str (u [61,56,67]) 753), (.str (u [61,56,68]) 757), (.str (u [61,56,69]) 761), (.str (u [61,56,70]) 765), (.str (u [61,57,48]) 769), (.str (u [61,57,49]) 773), (.str (u [61,57,50]) 777), (.str (u [61,57,51]) 781), (.str (u [61,57,52]) 785), (.str (u [61,57,53]) 789), (.str (u [61,57,54]) 793), (.str (u [61,57,55]) 797), (.str (u [61,57,56]) 801), (.str (u [61,57,57]) 805), (.str (u [61,57,65]) 809), (.str (u [61,57,66]) 813), (.str (u [61,57,67]) 817), (.str (u [61,57,68]) 821), (.str (u [61,57,69]) 825), (.str (u [61,57,70]) 829), (.str (u [61,65,48]) 833), (.str (u [61,65,49]) 837), (.str (u [61,65,50]) 841), (.str (u [61,65,51]) 845), (.str (u [61,65,52]) 849), (.str (u [61,65,53]) 853), (.str (u [61,65,54]) 857), (.str (u [61,65,55]) 861), (.str (u [61,65,56]) 865), (.str (u [61,65,57]) 869), (.str (u [61,65,65]) 873), (.str (u [61,65,66]) 877), (.str (u [61,65,67]) 881), (.str (u [61,65,68]) 885), (.str (u [61,65,69]) 889), (.str (u [61,65,70]) 893), (.str (u [61,66,48]) 897), (.str (u [61,66,49]) 901), (.str (u [61,66,50]) 905), (.str (u [61,66,51]) 909), (.str (u [61,66,52]) 913), (.str (u [61,66,53]) 917), (.str (u [61,66,54]) 921), (.str (u [61,66,55]) 925), (.str (u [61,66,56]) 929), (.str (u [61,66,57]) 933), (.str (u [61,66,65]) 937), (.str (u [61,66,66]) 941), (.str (u [61,66,67]) 945), (.str (u [61,66,68]) 949), (.str (u [61,66,69]) 953), (.str (u [61,66,70]) 957), (.str (u [61,67,48]) 961), (.str (u [61,67,49]) 965), (.str (u [61,67,50]) 969), (.str (u [61,67,51]) 973), (.str (u [61,67,52]) 977), (.str (u [61,67,53]) 981), (.str (u [61,67,54]) 985), (.str (u [61,67,55]) 989), (.str (u [61,67,56]) 993), (.str (u [61,67,57]) 997), (.str (u [61,67,65]) 1001), (.str (u [61,67,66]) 1005), (.str (u [61,67,67]) 1009), (.str (u [61,67,68]) 1013), (.str (u [61,67,69]) 1017), (.str (u [61,67,70]) 1021), (.str (u [61,68,48]) 1025), (.str (u [61,68,49]) 1029), (.str (u [61,68,50]) 1033), (.str (u [61,68,51]) 1037), (.str (u [61,68,52]) 1041), (.str (u [61,68,53]) 1045), (.str (u [61,68,54]) 1049), (.str (u [61,68,55]) 1053), (.str (u [61,68,56]) 1057), (.str (u [61,68,57]) 1061), (.str (u [61,68,65]) 1065), (.str (u [61,68,66]) 1069), (.str (u [61,68,67]) 1073), (.str (u [61,68,68]) 1077), (.str (u [61,68,69]) 1081), (.str (u [61,68,70]) 1085), (.str (u [61,69,48]) 1089), (.str (u [61,69,49]) 1093), (.str (u [61,69,50]) 1097), (.str (u [61,69,51]) 1101), (.str (u [61,69,52]) 1105), (.str (u [61,69,53]) 1109), (.str (u [61,69,54]) 1113), (.str (u [61,69,55]) 1117), (.str (u [61,69,56]) 1121), (.str (u [61,69,57]) 1125), (.str (u [61,69,65]) 1129), (.str (u [61,69,66]) 1133), (.str (u [61,69,67]) 1137), (.str (u [61,69,68]) 1141), (.str (u [61,69,69]) 1145), (.str (u [61,69,70]) 1149), (.str (u [61,70,48]) 1153), (.str (u [61,70,49]) 1157), (.str (u [61,70,50]) 1161), (.str (u [61,70,51]) 1165), (.str (u [61,70,52]) 1169), (.str (u [61,70,53]) 1173), (.str (u [61,70,54]) 1177), (.str (u [61,70,55]) 1181), (.str (u [61,70,56]) 1185), (.str (u [61,70,57]) 1189), (.str (u [61,70,65]) 1193), (.str (u [61,70,66]) 1197), (.str (u [61,70,67]) 1201), (.str (u [61,70,68]) 1205), (.str (u [61,70,69]) 1209), (.str (u [61,70,70]) 1213)]⟩ 0), ⟨[]⟩⟩
noncomputable def q24 (P : Params) : Obj := ⟨(.type PySem.W.SL.s1378417608194177226x14), none, (.fields ⟨[z, (.int (Int.ofNat 67) 0)]⟩), ⟨[]⟩⟩
noncomputable def q25 (P : Params) : Obj := ⟨(.type PySem.W.SL.s5991306692159431302x13), none, (.fields ⟨[(.ref 26), z, z, z, (.bool false), z]⟩), ⟨[]⟩⟩
noncomputable def t3 (P : Params) : BT := (.node (q0 P) (.node (q1 P) (.node (q22 P) (.node (q7 P) (.node (q14 P) .nil .nil) (.node (q20 P) .nil .nil)) (.node (q7 P) (.node (q7 P) .nil .nil) (.node (q25 P) .nil .nil))) (.node (q5 P) (.node (q9 P) (.node (q16 P) .nil .nil) (.node (q24 P) .nil .nil)) (.node (q11 P) (.node (q20 P) .nil .nil) .nil))) (.node (q2 P) (.node (q4 P) (.node (q8 P) (.node (q15 P) .nil .nil) (.node (q21 P) .nil .nil)) (.node (q8 P) (.node (q18 P) .nil .nil) .nil)) (.node (q6 P) (.node (q10 P) (.node (q17 P) .nil .nil) (.node (q7 P) .nil .nil)) (.node (q12 P) (.node (q23 P) .nil .nil) .nil))))
noncomputable def h3 (P : Params) : Heap := ⟨⟨[q0 P, q1 P, q2 P, q22 P, q4 P, q5 P, q6 P, q7 P, q8 P, q9 P, q10 P, q7 P, q8 P, q11 P, q12 P, q14 P, q15 P, q16 P, q17 P, q7 P, q18 P, q20 P, q23 P, q20 P, q21 P, q24 P, q7 P, q25 P]⟩, {}⟩
noncomputable def q26 (P : Params) : Obj := ⟨(.type PySem.W.SL.s9222952809800978799x4), none, (.seq ⟨[(.str (u [61,48,48]) 193), (.str (u [61,48,49]) 197), (.str (u [61,48,50]) 201), (.str (u [61,48,51]) 205), (.str (u [61,48,52]) 209), (.str (u [61,48,53]) 213), (.str (u [61,48,54]) 217), (.str (u [61,48,55]) 221), (.str (u [61,48,56]) 225), (.str (u [61,48,57]) 229), (.str (u [61,48,65]) 233), (.str (u [61,48,66]) 237), (.str (u [61,48,67]) 241), (.str (u [61,48,68]) 245), (.str (u [61,48,69]) 249), (.str (u [61,48,70]) 253), (.str (u [61,49,48]) 257), (.str (u [61,49,49]) 261), (.str (u [61,49,50]) 265), (.str (u [61,49,51]) 269), (.str (u [61,49,52]) 273), (.str (u [61,49,53]) 277), (.str (u [61,49,54]) 281), (.str (u [61,49,55]) 285), (.str (u [61,49,56]) 289), (.str (u [61,49,57]) 293), (.str (u [61,49,65]) 297), (.str (u [61,49,66]) 301), (.str (u [61,49,67]) 305), (.str (u [61,49,68]) 309), (.str (u [61,49,69]) 313), (.str (u [61,49,70]) 317), (.str (u [95]) 1435), (.str (u [33]) 1239), (.str (u [61,50,50]) 329), (.str (u [61,50,51]) 333), (.str (u [61,50,52]) 337), (.str (u [61,50,53]) 341), (.str (u [61,50,54]) 345), (.str (u [61,50,55]) 349), (.str (u [61,50,56]) 353), (.str (u [61,50,57]) 357), (.str (u [42]) 1242), (.str (u [43]) 1245), (.str (u [61,50,67]) 369), (.str (u [45]) 1236), (.str (u [61,50,69]) 377), (.str (u [47]) 1248), (.str (u [48]) 1407), (.str (u [49]) 1410), (.str (u [50]) 1413), (.str (u [51]) 1416), (.str (u [52]) 1419), (.str (u [53]) 1422), (.str (u [54]) 1425), (.str (u [55]) 1428), (.str (u [56]) 1431), (.str (u [57]) 1434), (.str (u [61,51,65]) 425), (.str (u [61,51,66]) 429), (.str (u [61,51,67]) 433), (.str (u [61,51,68]) 437), (.str (u [61,51,69]) 441), (.str (u [61,51,70]) 445), (.str (u [61,52,48]) 449), (.str (u [65]) 1329), (.str (u [66]) 1332), (.str (u [67]) 1335), (.str (u [68]) 1338), (.str (u [69]) 1341), (.str (u [70]) 1344), (.str (u [71]) 1347), (.str (u [72]) 1350), (.str (u [73]) 1353), (.str (u [74]) 1356), (.str (u [75]) 1359), (.str (u [76]) 1362), (.str (u [77]) 1365), (.str (u [78]) 1368), (.str (u [79]) 1371), (.str (u [80]) 1374), (.str (u [81]) 1377), (.str (u [82]) 1380), (.str (u [83]) 1383), (.str (u [84]) 1386), (.str (u [85]) 1389), (.str (u [86]) 1392), (.str (u [87]) 1395), (.str (u [88]) 1398), (.str (u [89]) 1401), (.str (u [90]) 1404), (.str (u [61,53,66]) 557), (.str (u [61,53,67]) 561), (.str (u [61,53,68]) 565), (.str (u [61,53,69]) 569), (.str (u [61,53,70]) 573), (.str (u [61,54,48]) 577), (.str (u [97]) 1251), (.str (u [98]) 1254), (.str (u [99]) 1257), (.str (u [100]) 1260), (.str (u [101]) 1263), (.str (u [102]) 1266), (.str (u [103]) 1269), (.str (u [104]) 1272), (.str (u [105]) 1275), (.str (u [106]) 1278), (.str (u [107]) 1281), (.str (u [108]) 1284), (.str (u [109]) 1287), (.str (u [110]) 1290), (.str (u [111]) 1293), (.str (u [112]) 1296), (.str (u [113]) 1299), (.str (u [114]) 1302), (.str (u [115]) 1305), (.str (u [116]) 1308), (.str (u [117]) 1311), (.str (u [118]) 1314), (.str (u [119]) 1317), (.str (u [120]) 1320), (.str (u [121]) 1323), (.str (u [122]) 1326), (.str (u [61,55,66]) 685), (.str (u [61,55,67]) 689), (.str (u [61,55,68]) 693), (.str (u [61,55,69]) 697), (.str (u [61,55,70]) 701), (.str (u [61,56,48]) 705), (.str (u [61,56,49]) 709), (.str (u [61,56,50]) 713), (.str (u [61,56,51]) 717), (.str (u [61,56,52]) 721), (.str (u [61,56,53]) 725), (.str (u [61,56,54]) 729), (.str (u [61,56,55]) 733), (.str (u [61,56,56]) 737), (.str (u [61,56,57]) 741), (.str (u [61,56,65]) 745), (.str (u [61,56,66]) 749), (.str (u [61,56,67]) 753), (.str (u [61,56,68]) 757), (.str (u [61,56,69]) 761), (.str (u [61,56,70]) 765), (.str (u [61,57,48]) 769), (.str (u [61,57,49]) 773), (.str (u [61,57,50]) 777), (.str (u [61,57,51]) 781), (.str (u [61,57,52]) 785), (.str (u [61,57,53]) 789), (.str (u [61,57,54]) 793), (.str (u [61,57,55]) 797), (.str (u [61,57,56]) 801), (.str (u [61,57,57]) 805), (.str (u [61,57,65]) 809), (.str (u [61,57,66]) 813), (.str (u [61,57,67]) 817), (.str (u [61,57,68]) 821), (.str (u [61,57,69]) 825), (.str (u [61,57,70]) 829), (.str (u [61,65,48]) 833), (.str (u [61,65,49]) 837), (.str (u [61,65,50]) 841), (.str (u [61,65,51]) 845), (.str (u [61,65,52]) 849), (.str (u [61,65,53]) 853), (.str (u [61,65,54]) 857), (.str (u [61,65,55]) 861), (.str (u [61,65,56]) 865), (.str (u [61,65,57]) 869), (.str (u [61,65,65]) 873), (.str (u [61,65,66]) 877), (.str (u [61,65,67]) 881), (.str (u [61,65,68]) 885), (.str (u [61,65,69]) 889), (.str (u [61,65,70]) 893), (.str (u [61,66,48]) 897), (.str (u [61,66,49]) 901), (.str (u [61,66,50]) 905), (.str (u [61,66,51]) 909), (.str (u [61,66,52]) 913), (.str (u [61,66,53]) 917), (.str (u [61,66,54]) 921), (.str (u [61,66,55]) 925), (.str (u [61,66,56]) 929), (.str (u [61,66,57]) 933), (.str (u [61,66,65]) 937), (.str (u [61,66,66]) 941), (.str (u [61,66,67]) 945), (.str (u [61,66,68]) 949), (.str (u [61,66,69]) 953), (.str (u [61,66,70]) 957), (.str (u [61,67,48]) 961), (.str (u [61,67,49]) 965), (.str (u [61,67,50]) 969), (.str (u [61,67,51]) 973), (.str (u [61,67,52]) 977), (.str (u [61,67,53]) 981), (.str (u [61,67,54]) 985), (.str (u [61,67,55]) 989), (.str (u [61,67,56]) 993), (.str (u [61,67,57]) 997), (.str (u [61,67,65]) 1001), (.str (u [61,67,66]) 1005), (.str (u [61,67,67]) 1009), (.str (u [61,67,68]) 1013), (.str (u [61,67,69]) 1017), (.str (u [61,67,70]) 1021), (.str (u [61,68,48]) 1025), (.str (u [61,68,49]) 1029), (.str (u [61,68,50]) 1033), (.str (u [61,68,51]) 1037), (.str (u [61,68,52]) 1041), (.str (u [61,68,53]) 1045), (.str (u [61,68,54]) 1049), (.str (u [61,68,55]) 1053), (.str (u [61,68,56]) 1057), (.str (u [61,68,57]) 1061), (.str (u [61,68,65]) 1065), (.str (u [61,68,66]) 1069), (.str (u [61,68,67]) 1073), (.str (u [61,68,68]) 1077), (.str (u [61,68,69]) 1081), (.str (u [61,68,70]) 1085), (.str (u [61,69,48]) 1089), (.str (u [61,69,49]) 1093), (.str (u [61,69,50]) 1097), (.str (u [61,69,51]) 1101), (.str (u [61,69,52]) 1105), (.str (u [61,69,53]) 1109), (.str (u [61,69,54]) 1113), (.str (u [61,69,55]) 1117), (.str (u [61,69,56]) 1121), (.str (u [61,69,57]) 1125), (.str (u [61,69,65]) 1129), (.str (u [61,69,66]) 1133), (.str (u [61,69,67]) 1137), (.str (u [61,69,68]) 1141), (.str (u [61,69,69]) 1145), (.str (u [61,69,70]) 1149), (.str (u [61,70,48]) 1153), (.str (u [61,70,49]) 1157), (.str (u [61,70,50]) 1161), (.str (u [61,70,51]) 1165), (.str (u [61,70,52]) 1169), (.str (u [61,70,53]) 1173), (.str (u [61,70,54]) 1177), (.str (u [61,70,55]) 1181), (.str (u [61,70,56]) 1185), (.str (u [61,70,57]) 1189), (.str (u [61,70,65]) 1193), (.str (u [61,70,66]) 1197), (.str (u [61,70,67]) 1201), (.str (u [61,70,68]) 1205), (.str (u [61,70,69]) 1209), (.str (u [61,70,70]) 1213)]⟩ 0), ⟨[]⟩⟩
noncomputable def t4 (P : Params) : BT := (.node (q0 P) (.node (q1 P) (.node (q22 P) (.node (q7 P) (.node (q14 P) .nil .nil) (.node (q20 P) .nil .nil)) (.node (q7 P) (.node (q7 P) .nil .nil) (.node (q25 P) .nil .nil))) (.node (q5 P) (.node (q9 P) (.node (q16 P) .nil .nil) (.node (q24 P) .nil .nil)) (.node (q11 P) (.node (q20 P) .nil .nil) .nil))) (.node (q2 P) (.node (q4 P) (.node (q8 P) (.node (q15 P) .nil .nil) (.node (q21 P) .nil .nil)) (.node (q8 P) (.node (q18 P) .nil .nil) .nil)) (.node (q6 P) (.node (q10 P) (.node (q17 P) .nil .nil) (.node (q7 P) .nil .nil)) (.node (q12 P) (.node (q26 P) .nil .nil) .nil))))
noncomputable def h4 (P : Params) : Heap := ⟨⟨[q0 P, q1 P, q2 P, q22 P, q4 P, q5 P, q6 P, q7 P, q8 P, q9 P, q10 P, q7 P, q8 P, q11 P, q12 P, q14 P, q15 P, q16 P, q17 P, q7 P, q18 P, q20 P, q26 P, q20 P, q21 P, q24 P, q7 P, q25 P]⟩, {}⟩
noncomputable def q27 (P : Params) : Obj := ⟨(.type PySem.W.SL.s14018661285674007319x4), none, (.dict ⟨[en P (u [95,95,110,97,109,101,95,95]) 165 (.str (u [99,112,121,51,49,51,46,101,109,97,105,108,46,113,117,111,112,114,105,109,105,109,101]) 1225), en P (u [95,95,100,111,99,95,95]) 166 z, en P (u [95,95,112,97,99,107,97,103,101,95,95]) 167 z, en P (u [95,95,108,111,97,100,101,114,95,95]) 168 (.builtin PySem.W.SL.s7097527257260152453x26), en P (u [95,95,115,112,101,99,95,95]) 169 z, en P (u [95,95,97,110,110,111,116,97,116,105,111,110,115,95,95]) 170 (.ref 6), en P (u [95,95,98,117,105,108,116,105,110,115,95,95]) 171 (.ref 4), en P (u [95,95,102,105,108,101,95,95]) 173 (.str (u [47,99,108,97,105,109,47,99,117,116,46,112,121]) 172), en P (u [95,95,99,97,99,104,101,100,95,95]) 174 z, en P (u [95,81,85,79,80,82,73,95,77,65,80]) 1214 (.ref 17), en P (u [95,81,85,79,80,82,73,95,72,69,65,68,69,82,95,77,65,80]) 1215 (.ref 22), en P (u [95,81,85,79,80,82,73,95,66,79,68,89,95,77,65,80]) 1216 (.ref 24), en P (u [97,115,99,105,105,95,108,111,119,101,114,99,97,115,101]) 1218 (.str (u [97,98,99,100,101,102,103,104,105,106,107,108,109,110,111,112,113,114,115,116,117,118,119,120,121,122]) 1217), en P (u [97,115,99,105,105,95,117,112,112,101,114,99,97,115,101]) 1220 (.str (u [65,66,67,68,69,70,71,72,73,74,75,76,77,78,79,80,81,82,83,84,85,86,87,88,89,90]) 1219), en P (u [97,115,99,105,105,95,108,101,116,116,101,114,115]) 1222 (.str (u [97,98,99,100,101,102,103,104,105,106,107,108,109,110,111,112,113,114,115,116,117,118,119,120,121,122,65,66,67,68,69,70,71,72,73,74,75,76,77,78,79,80,81,82,83,84,85,86,87,88,89,90]) 1221), en P (u [100,105,103,105,116,115]) 1224 (.str (u [48,49,50,51,52,53,54,55,56,57]) 1223), en P (u [99]) 1235 (.int (Int.ofNat 9) 1721)]⟩ 17), ⟨[]⟩⟩
noncomputable def q28 (P : Params) : Obj := ⟨(.type PySem.W.SL.s9222952809800978799x4), none, (.seq ⟨[(.str (u [61,48,48]) 193), (.str (u [61,48,49]) 197), (.str (u [61,48,50]) 201), (.str (u [61,48,51]) 205), (.str (u [61,48,52]) 209), (.str (u [61,48,53]) 213), (.str (u [61,48,54]) 217), (.str (u [61,48,55]) 221), (.str (u [61,48,56]) 225), (.str (u [9]) 1723), (.str (u [61,48,65]) 233), (.str (u [61,48,66]) 237), (.str (u [61,48,67]) 241), (.str (u [61,48,68]) 245), (.str (u [61,48,69]) 249), (.str (u [61,48,70]) 253), (.str (u [61,49,48]) 257), (.str (u [61,49,49]) 261), (.str (u [61,49,50]) 265), (.str (u [61,49,51]) 269), (.str (u [61,49,52]) 273), (.str (u [61,49,53]) 277), (.str (u [61,49,54]) 281), (.str (u [61,49,55]) 285), (.str (u [61,49,56]) 289), (.str (u [61,49,57]) 293), (.str (u [61,49,65]) 297), (.str (u [61,49,66]) 301), (.str (u [61,49,67]) 305), (.str (u [61,49,68]) 309), (.str (u [61,49,69]) 313), (.str (u [61,49,70]) 317), (.str (u [32]) 1441), (.str (u [33]) 1444), (.str (u [34]) 1447), (.str (u [35]) 1450), (.str (u [36]) 1453), (.str (u [37]) 1456), (.str (u [38]) 1459), (.str (u [39]) 1462), (.str (u [40]) 1465), (.str (u [41]) 1468), (.str (u [42]) 1471), (.str (u [43]) 1474), (.str (u [44]) 1477), (.str (u [45]) 1480), (.str (u [46]) 1483), (.str (u [47]) 1486), (.str (u [48]) 1489), (.str (u [49]) 1492), (.str (u [50]) 1495), (.str (u [51]) 1498), (.str (u [52]) 1501), (.str (u [53]) 1504), (.str (u [54]) 1507), (.str (u [55]) 1510), (.str (u [56]) 1513), (.str (u [57]) 1516), (.str (u [58]) 1519), (.str (u [59]) 1522), (.str (u [60]) 1525), (.str (u [61,51,68]) 437), (.str (u [62]) 1528), (.str (u [63]) 1531), (.str (u [64]) 1534), (.str (u [65]) 1537), (.str (u [66]) 1540), (.str (u [67]) 1543), (.str (u [68]) 1546), (.str (u [69]) 1549), (.str (u [70]) 1552), (.str (u [71]) 1555), (.str (u [72]) 1558), (.str (u [73]) 1561), (.str (u [74]) 1564), (.str (u [75]) 1567), (.str (u [76]) 1570), (.str (u [77]) 1573), (.str (u [78]) 1576), (.str (u [79]) 1579), (.str (u [80]) 1582), (.str (u [81]) 1585), (.str (u [82]) 1588), (.str (u [83]) 1591), (.str (u [84]) 1594), (.str (u [85]) 1597), (.str (u [86]) 1600), (.str (u [87]) 1603), (.str (u [88]) 1606), (.str (u [89]) 1609), (.str (u [90]) 1612), (.str (u [91]) 1615), (.str (u [92]) 1618), (.str (u [93]) 1621), (.str (u [94]) 1624), (.str (u [95]) 1627), (.str (u [96]) 1630), (.str (u [97]) 1633), (.str (u [98]) 1636), (.str (u [99]) 1639), (.str (u [100]) 1642), (.str (u [101]) 1645), (.str (u [102]) 1648), (.str (u [103]) 1651), (.str (u [104]) 1654), (.str (u [105]) 1657), (.str (u [106]) 1660), (.str (u [107]) 1663), (.str (u [108]) 1666), (.str (u [109]) 1669), (.str (u [110]) 1672), (.str (u [111]) 1675), (.str (u [112]) 1678), (.str (u [113]) 1681), (.str (u [114]) 1684), (.str (u [115]) 1687), (.str (u [116]) 1690), (.str (u [117]) 1693), (.str (u [118]) 1696), (.str (u [119]) 1699), (.str (u [120]) 1702), (.str (u [121]) 1705), (.str (u [122]) 1708), (.str (u [123]) 1711), (.str (u [124]) 1714), (.str (u [125]) 1717), (.str (u [126]) 1720), (.str (u [61,55,70]) 701), (.str (u [61,56,48]) 705), (.str (u [61,56,49]) 709), (.str (u [61,56,50]) 713), (.str (u [61,56,51]) 717), (.str (u [61,56,52]) 721), (.str (u [61,56,53]) 725), (.str (u [61,56,54]) 729), (.str (u [61,56,55]) 733), (.str (u [61,56,56]) 737), (.str (u [61,56,57]) 741), (.str (u [61,56,65]) 745), (.str (u [61,56,66]) 749), (.str (u [61,56,67]) 753), (.str (u [61,56,68]) 757), (.str (u [61,56,69]) 761), (.str (u [61,56,70]) 765), (.str (u [61,57,48]) 769), (.str (u [61,57,49]) 773), (.str (u [61,57,50]) 777), (.str (u [61,57,51]) 781), (.str (u [61,57,52]) 785), (.str (u [61,57,53]) 789), (.str (u [61,57,54]) 793), (.str (u [61,57,55]) 797), (.str (u [61,57,56]) 801), (.str (u [61,57,57]) 805), (.str (u [61,57,65]) 809), (.str (u [61,57,66]) 813), (.str (u [61,57,67]) 817), (.str (u [61,57,68]) 821), (.str (u [61,57,69]) 825), (.str (u [61,57,70]) 829), (.str (u [61,65,48]) 833), (.str (u [61,65,49]) 837), (.str (u [61,65,50]) 841), (.str (u [61,65,51]) 845), (.str (u [61,65,52]) 849), (.str (u [61,65,53]) 853), (.str (u [61,65,54]) 857), (.str (u [61,65,55]) 861), (.str (u [61,65,56]) 865), (.str (u [61,65,57]) 869), (.str (u [61,65,65]) 873), (.str (u [61,65,66]) 877), (.str (u [61,65,67]) 881), (.str (u [61,65,68]) 885), (.str (u [61,65,69]) 889), (.str (u [61,65,70]) 893), (.str (u [61,66,48]) 897), (.str (u [61,66,49]) 901), (.str (u [61,66,50]) 905), (.str (u [61,66,51]) 909), (.str (u [61,66,52]) 913), (.str (u [61,66,53]) 917), (.str (u [61,66,54]) 921), (.str (u [61,66,55]) 925), (.str (u [61,66,56]) 929), (.str (u [61,66,57]) 933), (.str (u [61,66,65]) 937), (.str (u [61,66,66]) 941), (.str (u [61,66,67]) 945), (.str (u [61,66,68]) 949), (.str (u [61,66,69]) 953), (.str (u [61,66,70]) 957), (.str (u [61,67,48]) 961), (.str (u [61,67,49]) 965), (.str (u [61,67,50]) 969), (.str (u [61,67,51]) 973), (.str (u [61,67,52]) 977), (.str (u [61,67,53]) 981), (.str (u [61,67,54]) 985), (.str (u [61,67,55]) 989), (.str (u [61,67,56]) 993), (.str (u [61,67,57]) 997), (.str (u [61,67,65]) 1001), (.str (u [61,67,66]) 1005), (.str (u [61,67,67]) 1009), (.str (u [61,67,68]) 1013), (.str (u [61,67,69]) 1017), (.str (u [61,67,70]) 1021), (.str (u [61,68,48]) 1025), (.str (u [61,68,49]) 1029), (.str (u [61,68,50]) 1033), (.str (u [61,68,51]) 1037), (.str (u [61,68,52]) 1041), (.str (u [61,68,53]) 1045), (.str (u [61,68,54]) 1049), (.str (u [61,68,55]) 1053), (.str (u [61,68,56]) 1057), (.str (u [61,68,57]) 1061), (.str (u [61,68,65]) 1065), (.str (u [61,68,66]) 1069), (.str (u [61,68,67]) 1073), (.str (u [61,68,68]) 1077), (.str (u [61,68,69]) 1081), (.str (u [61,68,70]) 1085), (.str (u [61,69,48]) 1089), (.str (u [61,69,49]) 1093), (.str (u [61,69,50]) 1097), (.str (u [61,69,51]) 1101), (.str (u [61,69,52]) 1105), (.str (u [61,69,53]) 1109), (.str (u [61,69,54]) 1113), (.str (u [61,69,55]) 1117), (.str (u [61,69,56]) 1121), (.str (u [61,69,57]) 1125), (.str (u [61,69,65]) 1129), (.str (u [61,69,66]) 1133), (.str (u [61,69,67]) 1137), (.str (u [61,69,68]) 1141), (.str (u [61,69,69]) 1145), (.str (u [61,69,70]) 1149), (.str (u [61,70,48]) 1153), (.str (u [61,70,49]) 1157), (.str (u [61,70,50]) 1161), (.str (u [61,70,51]) 1165), (.str (u [61,70,52]) 1169), (.str (u [61,70,53]) 1173), (.str (u [61,70,54]) 1177), (.str (u [61,70,55]) 1181), (.str (u [61,70,56]) 1185), (.str (u [61,70,57]) 1189), (.str (u [61,70,65]) 1193), (.str (u [61,70,66]) 1197), (.str (u [61,70,67]) 1201), (.str (u [61,70,68]) 1205), (.str (u [61,70,69]) 1209), (.str (u [61,70,70]) 1213)]⟩ 0), ⟨[]⟩⟩
noncomputable def q29 (P : Params) : Obj := ⟨(.type PySem.W.SL.s1378417608194177226x14), none, (.fields ⟨[z, (.int (Int.ofNat 95) 0)]⟩), ⟨[]⟩⟩
noncomputable def q30 (P : Params) : Obj := ⟨(.type PySem.W.SL.s5991306692159431302x13), none, (.fields ⟨[(.ref 29), z, z, z, (.bool false), z]⟩), ⟨[]⟩⟩
noncomputable def t5 (P : Params) : BT := (.node (q0 P) (.node (q1 P) (.node (q27 P) (.node (q7 P) (.node (q14 P) .nil .nil) (.node (q20 P) .nil .nil)) (.node (q7 P) (.node (q7 P) .nil .nil) (.node (q25 P) .nil .nil))) (.node (q5 P) (.node (q9 P) (.node (q16 P) .nil .nil) (.node (q24 P) .nil .nil)) (.node (q11 P) (.node (q20 P) .nil .nil) (.node (q7 P) .nil .nil)))) (.node (q2 P) (.node (q4 P) (.node (q8 P) (.node (q15 P) .nil .nil) (.node (q28 P) .nil .nil)) (.node (q8 P) (.node (q18 P) .nil .nil) (.node (q29 P) .nil .nil))) (.node (q6 P) (.node (q10 P) (.node (q17 P) .nil .nil) (.node (q7 P) .nil .nil)) (.node (q12 P) (.node (q26 P) .nil .nil) (.node (q30 P) .nil .nil)))))
noncomputable def h5 (P : Params) : Heap := ⟨⟨[q0 P, q1 P, q2 P, q27 P, q4 P, q5 P, q6 P, q7 P, q8 P, q9 P, q10 P, q7 P, q8 P, q11 P, q12 P, q14 P, q15 P, q16 P, q17 P, q7 P, q18 P, q20 P, q26 P, q20 P, q28 P, q24 P, q7 P, q25 P, q29 P, q7 P, q30 P]⟩, {}⟩
noncomputable def q31 (P : Params) : Obj := ⟨(.type PySem.W.SL.s14018661285674007319x4), none, (.dict ⟨[en P (u [95,95,110,97,109,101,95,95]) 165 (.str (u [99,112,121,51,49,51,46,111,112,101,114,97,116,111,114]) 1749), en P (u [95,95,100,111,99,95,95]) 166 z, en P (u [95,95,112,97,99,107,97,103,101,95,95]) 167 z, en P (u [95,95,108,111,97,100,101,114,95,95]) 168 (.builtin PySem.W.SL.s7097527257260152453x26), en P (u [95,95,115,112,101,99,95,95]) 169 z, en P (u [95,95,97,110,110,111,116,97,116,105,111,110,115,95,95]) 170 (.ref 6), en P (u [95,95,98,117,105,108,116,105,110,115,95,95]) 171 (.ref 4), en P (u [95,95,102,105,108,101,95,95]) 173 (.str (u [47,99,108,97,105,109,47,99,117,116,46,112,121]) 172), en P (u [95,95,99,97,99,104,101,100,95,95]) 174 z, en P (u [95,81,85,79,80,82,73,95,77,65,80]) 1214 (.ref 17), en P (u [95,81,85,79,80,82,73,95,72,69,65,68,69,82,95,77,65,80]) 1215 (.ref 22), en P (u [95,81,85,79,80,82,73,95,66,79,68,89,95,77,65,80]) 1216 (.ref 24), en P (u [97,115,99,105,105,95,108,111,119,101,114,99,97,115,101]) 1218 (.str (u [97,98,99,100,101,102,103,104,105,106,107,108,109,110,111,112,113,114,115,116,117,118,119,120,121,122]) 1217), en P (u [97,115,99,105,105,95,117,112,112,101,114,99,97,115,101]) 1220 (.str (u [65,66,67,68,69,70,71,72,73,74,75,76,77,78,79,80,81,82,83,84,85,86,87,88,89,90]) 1219), en P (u [97,115,99,105,105,95,108,101,116,116,101,114,115]) 1222 (.str (u [97,98,99,100,101,102,103,104,105,106,107,108,109,110,111,112,113,114,115,116,117,118,119,120,121,122,65,66,67,68,69,70,71,72,73,74,75,76,77,78,79,80,81,82,83,84,85,86,87,88,89,90]) 1221), en P (u [100,105,103,105,116,115]) 1224 (.str (u [48,49,50,51,52,53,54,55,56,57]) 1223), en P (u [104,101,97,100,101,114,95,99,104,101,99,107]) 1730 (.ref 37), en P (u [104,101,97,100,101,114,95,101,110,99,111,100,101]) 1740 (.ref 45), en P (u [95,81,85,79,80,82,73,95,66,79,68,89,95,69,78,67,79,68,69,95,77,65,80]) 1741 (.ref 47), en P (u [108,116]) 1758 (.ref 57), en P (u [97,100,100]) 1766 (.ref 64), en P (u [102,108,111,111,114,100,105,118]) 1774 (.ref 71), en P (u [109,111,100]) 1782 (.ref 78), en P (u [109,117,108]) 1790 (.ref 85)]⟩ 26), ⟨[]⟩⟩
noncomputable def q32 (P : Params) : Obj := ⟨z, none, (.fields ⟨[(.int (Int.ofNat 14) 0), (.int (Int.ofNat 0) 0), (.ref 36), (.int (Int.ofNat 16) 0), (.int (Int.ofNat 0) 0), (.ref 44), (.int (Int.ofNat 26) 0), (.int (Int.ofNat 0) 0), (.ref 56), (.int (Int.ofNat 28) 0), (.int (Int.ofNat 0) 0), (.ref 63), (.int (Int.ofNat 30) 0), (.int (Int.ofNat 0) 0), (.ref 70), (.int (Int.ofNat 32) 0), (.int (Int.ofNat 0) 0), (.ref 77), (.int (Int.ofNat 34) 0), (.int (Int.ofNat 0) 0), (.ref 84)]⟩), ⟨[]⟩⟩
noncomputable def q33 (P : Params) : Obj := ⟨(.type PySem.W.SL.s2766695959194262286x5), none, (.seq ⟨[(.str (u [111,99,116,101,116]) 1727)]⟩ 0), ⟨[]⟩⟩
noncomputable def q34 (P : Params) : Obj := ⟨z, none, (.func { name := (u [104,101,97,100,101,114,95,99,104,101,99,107]), qualname := (u [104,101,97,100,101,114,95,99,104,101,99,107]), params := ePar (tn 11), body := .stmts (eBody (tn 11)), scope := eSc (tn 11), globals := 0, closure := [], defaults := z, kwdefaults := z, doc := z, pyModule := z, annotations := none, code := z, closureTuple := z, builtins := 0 }), ⟨[]⟩⟩
noncomputable def q35 (P : Params) : Obj := ⟨(.type PySem.W.SL.s5856160107412720595x4), none, (.fields ⟨[(.str (u [104,101,97,100,101,114,95,99,104,101,99,107]) 1724), (.str (u [104,101,97,100,101,114,95,99,104,101,99,107]) 1725), (.str (u [47,99,108,97,105,109,47,99,117,116,46,112,121]) 1726), (.int (Int.ofNat 14) 0), (.int (Int.ofNat 1) 0), (.int (Int.ofNat 0) 0), (.int (Int.ofNat 0) 0), (.int (Int.ofNat 3) 0), (.ref 31), (.bool true), (.int (Int.ofNat 181) 0), (.ref 32), z, (.ref 33), (.ref 34), (.ref 35), (.int (Int.ofNat 1728) 0), (.int (Int.ofNat 14) 0), (.str (u [47,99,108,97,105,109,47,99,117,116,46,112,121]) 1729)]⟩), ⟨[]⟩⟩
noncomputable def q36 (P : Params) : Obj := ⟨(.type PySem.W.SL.s7174869446012820540x8), none, (.func { name := (u [104,101,97,100,101,114,95,99,104,101,99,107]), qualname := (u [104,101,97,100,101,114,95,99,104,101,99,107]), params := ePar (tn 11), body := .stmts (eBody (tn 11)), scope := eSc (tn 11), globals := 3, closure := [], defaults := z, kwdefaults := z, doc := z, pyModule := (.str (u [99,112,121,51,49,51,46,101,109,97,105,108,46,113,117,111,112,114,105,109,105,109,101]) 1225), annotations := none, code := (.ref 36), closureTuple := z, builtins := 0 }), ⟨[]⟩⟩
noncomputable def q37 (P : Params) : Obj := ⟨(.type PySem.W.SL.s2766695959194262286x5), none, (.seq ⟨[(.str (u [105,115,111,45,56,56,53,57,45,49]) 1731)]⟩ 0), ⟨[]⟩⟩
noncomputable def q38 (P : Params) : Obj := ⟨(.type PySem.W.SL.s2766695959194262286x5), none, (.seq ⟨[(.str (u [104,101,97,100,101,114,95,98,121,116,101,115]) 1735), (.str (u [99,104,97,114,115,101,116]) 1736), (.str (u [101,110,99,111,100,101,100]) 1737)]⟩ 0), ⟨[]⟩⟩
noncomputable def q39 (P : Params) : Obj := ⟨z, none, (.func { name := (u [104,101,97,100,101,114,95,101,110,99,111,100,101]), qualname := (u [104,101,97,100,101,114,95,101,110,99,111,100,101]), params := ePar (tn 12), body := .stmts (eBody (tn 12)), scope := eSc (tn 12), globals := 0, closure := [], defaults := z, kwdefaults := z, doc := z, pyModule := z, annotations := none, code := z, closureTuple := z, builtins := 0 }), ⟨[]⟩⟩
noncomputable def q40 (P : Params) : Obj := ⟨(.type PySem.W.SL.s5856160107412720595x4), none, (.fields ⟨[(.str (u [104,101,97,100,101,114,95,101,110,99,111,100,101]) 1732), (.str (u [104,101,97,100,101,114,95,101,110,99,111,100,101]) 1733), (.str (u [47,99,108,97,105,109,47,99,117,116,46,112,121]) 1734), (.int (Int.ofNat 16) 0), (.int (Int.ofNat 2) 0), (.int (Int.ofNat 0) 0), (.int (Int.ofNat 0) 0), (.int (Int.ofNat 3) 0), (.ref 39), (.bool true), (.int (Int.ofNat 181) 0), (.ref 40), z, (.ref 41), (.ref 42), (.ref 43), (.int (Int.ofNat 1738) 0), (.int (Int.ofNat 16) 0), (.str (u [47,99,108,97,105,109,47,99,117,116,46,112,121]) 1739)]⟩), ⟨[]⟩⟩
noncomputable def q41 (P : Params) : Obj := ⟨(.type PySem.W.SL.s7174869446012820540x8), none, (.func { name := (u [104,101,97,100,101,114,95,101,110,99,111,100,101]), qualname := (u [104,101,97,100,101,114,95,101,110,99,111,100,101]), params := ePar (tn 12), body := .stmts (eBody (tn 12)), scope := eSc (tn 12), globals := 3, closure := [], defaults := (.ref 38), kwdefaults := z, doc := z, pyModule := (.str (u [99,112,121,51,49,51,46,101,109,97,105,108,46,113,117,111,112,114,105,109,105,109,101]) 1225), annotations := none, code := (.ref 44), closureTuple := z, builtins := 0 }), ⟨[]⟩⟩
noncomputable def q42 (P : Params) : Obj := ⟨(.type PySem.W.SL.s9222952809800978799x4), none, (.seq ⟨[(.str (u [61,48,48]) 193), (.str (u [61,48,49]) 197), (.str (u [61,48,50]) 201), (.str (u [61,48,51]) 205), (.str (u [61,48,52]) 209), (.str (u [61,48,53]) 213), (.str (u [61,48,54]) 217), (.str (u [61,48,55]) 221), (.str (u [61,48,56]) 225), (.str (u [9]) 1723), (.str (u [10]) 1748), (.str (u [61,48,66]) 237), (.str (u [61,48,67]) 241), (.str (u [13]) 1745), (.str (u [61,48,69]) 249), (.str (u [61,48,70]) 253), (.str (u [61,49,48]) 257), (.str (u [61,49,49]) 261), (.str (u [61,49,50]) 265), (.str (u [61,49,51]) 269), (.str (u [61,49,52]) 273), (.str (u [61,49,53]) 277), (.str (u [61,49,54]) 281), (.str (u [61,49,55]) 285), (.str (u [61,49,56]) 289), (.str (u [61,49,57]) 293), (.str (u [61,49,65]) 297), (.str (u [61,49,66]) 301), (.str (u [61,49,67]) 305), (.str (u [61,49,68]) 309), (.str (u [61,49,69]) 313), (.str (u [61,49,70]) 317), (.str (u [32]) 1441), (.str (u [33]) 1444), (.str (u [34]) 1447), (.str (u [35]) 1450), (.str (u [36]) 1453), (.str (u [37]) 1456), (.str (u [38]) 1459), (.str (u [39]) 1462), (.str (u [40]) 1465), (.str (u [41]) 1468), (.str (u [42]) 1471), (.str (u [43]) 1474), (.str (u [44]) 1477), (.str (u [45]) 1480), (.str (u [46]) 1483), (.str (u [47]) 1486), (.str (u [48]) 1489), (.str (u [49]) 1492), (.str (u [50]) 1495), (.str (u [51]) 1498), (.str (u [52]) 1501), (.str (u [53]) 1504), (.str (u [54]) 1507), (.str (u [55]) 1510), (.str (u [56]) 1513), (.str (u [57]) 1516), (.str (u [58]) 1519), (.str (u [59]) 1522), (.str (u [60]) 1525), (.str (u [61,51,68]) 437), (.str (u [62]) 1528), (.str (u [63]) 1531), (.str (u [64]) 1534), (.str (u [65]) 1537), (.str (u [66]) 1540), (.str (u [67]) 1543), (.str (u [68]) 1546), (.str (u [69]) 1549), (.str (u [70]) 1552), (.str (u [71]) 1555), (.str (u [72]) 1558), (.str (u [73]) 1561), (.str (u [74]) 1564), (.str (u [75]) 1567), (.str (u [76]) 1570), (.str (u [77]) 1573), (.str (u [78]) 1576), (.str (u [79]) 1579), (.str (u [80]) 1582), (.str (u [81]) 1585), (.str (u [82]) 1588), (.str (u [83]) 1591), (.str (u [84]) 1594), (.str (u [85]) 1597), (.str (u [86]) 1600), (.str (u [87]) 1603), (.str (u [88]) 1606), (.str (u [89]) 1609), (.str (u [90]) 1612), (.str (u [91]) 1615), (.str (u [92]) 1618), (.str (u [93]) 1621), (.str (u [94]) 1624), (.str (u [95]) 1627), (.str (u [96]) 1630), (.str (u [97]) 1633), (.str (u [98]) 1636), (.str (u [99]) 1639), (.str (u [100]) 1642), (.str (u [101]) 1645), (.str (u [102]) 1648), (.str (u [103]) 1651), (.str (u [104]) 1654), (.str (u [105]) 1657), (.str (u [106]) 1660), (.str (u [107]) 1663), (.str (u [108]) 1666), (.str (u [109]) 1669), (.str (u [110]) 1672), (.str (u [111]) 1675), (.str (u [112]) 1678), (.str (u [113]) 1681), (.str (u [114]) 1684), (.str (u [115]) 1687), (.str (u [116]) 1690), (.str (u [117]) 1693), (.str (u [118]) 1696), (.str (u [119]) 1699), (.str (u [120]) 1702), (.str (u [121]) 1705), (.str (u [122]) 1708), (.str (u [123]) 1711), (.str (u [124]) 1714), (.str (u [125]) 1717), (.str (u [126]) 1720), (.str (u [61,55,70]) 701), (.str (u [61,56,48]) 705), (.str (u [61,56,49]) 709), (.str (u [61,56,50]) 713), (.str (u [61,56,51]) 717), (.str (u [61,56,52]) 721), (.str (u [61,56,53]) 725), (.str (u [61,56,54]) 729), (.str (u [61,56,55]) 733), (.str (u [61,56,56]) 737), (.str (u [61,56,57]) 741), (.str (u [61,56,65]) 745), (.str (u [61,56,66]) 749), (.str (u [61,56,67]) 753), (.str (u [61,56,68]) 757), (.str (u [61,56,69]) 761), (.str (u [61,56,70]) 765), (.str (u [61,57,48]) 769), (.str (u [61,57,49]) 773), (.str (u [61,57,50]) 777), (.str (u [61,57,51]) 781), (.str (u [61,57,52]) 785), (.str (u [61,57,53]) 789), (.str (u [61,57,54]) 793), (.str (u [61,57,55]) 797), (.str (u [61,57,56]) 801), (.str (u [61,57,57]) 805), (.str (u [61,57,65]) 809), (.str (u [61,57,66]) 813), (.str (u [61,57,67]) 817), (.str (u [61,57,68]) 821), (.str (u [61,57,69]) 825), (.str (u [61,57,70]) 829), (.str (u [61,65,48]) 833), (.str (u [61,65,49]) 837), (.str (u [61,65,50]) 841), (.str (u [61,65,51]) 845), (.str (u [61,65,52]) 849), (.str (u [61,65,53]) 853), (.str (u [61,65,54]) 857), (.str (u [61,65,55]) 861), (.str (u [61,65,56]) 865), (.str (u [61,65,57]) 869), (.str (u [61,65,65]) 873), (.str (u [61,65,66]) 877), (.str (u [61,65,67]) 881), (.str (u [61,65,68]) 885), (.str (u [61,65,69]) 889), (.str (u [61,65,70]) 893), (.str (u [61,66,48]) 897), (.str (u [61,66,49]) 901), (.str (u [61,66,50]) 905), (.str (u [61,66,51]) 909), (.str (u [61,66,52]) 913), (.str (u [61,66,53]) 917), (.str (u [61,66,54]) 921), (.str (u [61,66,55]) 925), (.str (u [61,66,56]) 929), (.str (u [61,66,57]) 933), (.str (u [61,66,65]) 937), (.str (u [61,66,66]) 941), (.str (u [61,66,67]) 945), (.str (u [61,66,68]) 949), (.str (u [61,66,69]) 953), (.str (u [61,66,70]) 957), (.str (u [61,67,48]) 961), (.str (u [61,67,49]) 965), (.str (u [61,67,50]) 969), (.str (u [61,67,51]) 973), (.str (u [61,67,52]) 977), (.str (u [61,67,53]) 981), (.str (u [61,67,54]) 985), (.str (u [61,67,55]) 989), (.str (u [61,67,56]) 993), (.str (u [61,67,57]) 997), (.str (u [61,67,65]) 1001), (.str (u [61,67,66]) 1005), (.str (u [61,67,67]) 1009), (.str (u [61,67,68]) 1013), (.str (u [61,67,69]) 1017), (.str (u [61,67,70]) 1021), (.str (u [61,68,48]) 1025), (.str (u [61,68,49]) 1029), (.str (u [61,68,50]) 1033), (.str (u [61,68,51]) 1037), (.str (u [61,68,52]) 1041), (.str (u [61,68,53]) 1045), (.str (u [61,68,54]) 1049), (.str (u [61,68,55]) 1053), (.str (u [61,68,56]) 1057), (.str (u [61,68,57]) 1061), (.str (u [61,68,65]) 1065), (.str (u [61,68,66]) 1069), (.str (u [61,68,67]) 1073), (.str (u [61,68,68]) 1077), (.str (u [61,68,69]) 1081), (.str (u [61,68,70]) 1085), (.str (u [61,69,48]) 1089), (.str (u [61,69,49]) 1093), (.str (u [61,69,50]) 1097), (.str (u [61,69,51]) 1101), (.str (u [61,69,52]) 1105), (.str (u [61,69,53]) 1109), (.str (u [61,69,54]) 1113), (.str (u [61,69,55]) 1117), (.str (u [61,69,56]) 1121), (.str (u [61,69,57]) 1125), (.str (u [61,69,65]) 1129), (.str (u [61,69,66]) 1133), (.str (u [61,69,67]) 1137), (.str (u [61,69,68]) 1141), (.str (u [61,69,69]) 1145), (.str (u [61,69,70]) 1149), (.str (u [61,70,48]) 1153), (.str (u [61,70,49]) 1157), (.str (u [61,70,50]) 1161), (.str (u [61,70,51]) 1165), (.str (u [61,70,52]) 1169), (.str (u [61,70,53]) 1173), (.str (u [61,70,54]) 1177), (.str (u [61,70,55]) 1181), (.str (u [61,70,56]) 1185), (.str (u [61,70,57]) 1189), (.str (u [61,70,65]) 1193), (.str (u [61,70,66]) 1197), (.str (u [61,70,67]) 1201), (.str (u [61,70,68]) 1205), (.str (u [61,70,69]) 1209), (.str (u [61,70,70]) 1213)]⟩ 0), ⟨[]⟩⟩
noncomputable def q43 (P : Params) : Obj := ⟨(.type PySem.W.SL.s1378417608194177226x14), none, (.fields ⟨[z, (.int (Int.ofNat 2) 0)]⟩), ⟨[]⟩⟩
noncomputable def q44 (P : Params) : Obj := ⟨(.type PySem.W.SL.s5991306692159431302x13), none, (.fields ⟨[(.ref 49), z, z, z, (.bool false), z]⟩), ⟨[]⟩⟩
noncomputable def q45 (P : Params) : Obj := ⟨(.type PySem.W.SL.s2766695959194262286x5), none, (.seq ⟨[(.str (u [97]) 1754), (.str (u [98]) 1755)]⟩ 0), ⟨[]⟩⟩
noncomputable def q46 (P : Params) : Obj := ⟨z, none, (.func { name := (u [108,116]), qualname := (u [108,116]), params := ePar (tn 17), body := .stmts (eBody (tn 17)), scope := eSc (tn 17), globals := 0, closure := [], defaults := z, kwdefaults := z, doc := z, pyModule := z, annotations := none, code := z, closureTuple := z, builtins := 0 }), ⟨[]⟩⟩
noncomputable def q47 (P : Params) : Obj := ⟨(.type PySem.W.SL.s5856160107412720595x4), none, (.fields ⟨[(.str (u [108,116]) 1751), (.str (u [108,116]) 1752), (.str (u [47,99,108,97,105,109,47,99,117,116,46,112,121]) 1753), (.int (Int.ofNat 26) 0), (.int (Int.ofNat 2) 0), (.int (Int.ofNat 0) 0), (.int (Int.ofNat 0) 0), (.int (Int.ofNat 3) 0), (.ref 51), (.bool true), (.int (Int.ofNat 181) 0), (.ref 52), z, (.ref 53), (.ref 54), (.ref 55), (.int (Int.ofNat 1756) 0), (.int (Int.ofNat 26) 0), (.str (u [47,99,108,97,105,109,47,99,117,116,46,112,121]) 1757)]⟩), ⟨[]⟩⟩
noncomputable def q48 (P : Params) : Obj := ⟨(.type PySem.W.SL.s7174869446012820540x8), none, (.func { name := (u [108,116]), qualname := (u [108,116]), params := ePar (tn 17), body := .stmts (eBody (tn 17)), scope := eSc (tn 17), globals := 3, closure := [], defaults := z, kwdefaults := z, doc := z, pyModule := (.str (u [99,112,121,51,49,51,46,111,112,101,114,97,116,111,114]) 1749), annotations := none, code := (.ref 56), closureTuple := z, builtins := 0 }), ⟨[]⟩⟩
noncomputable def q49 (P : Params) : Obj := ⟨(.type PySem.W.SL.s2766695959194262286x5), none, (.seq ⟨[(.str (u [97]) 1762), (.str (u [98]) 1763)]⟩ 0), ⟨[]⟩⟩
noncomputable def q50 (P : Params) : Obj := ⟨z, none, (.func { name := (u [97,100,100]), qualname := (u [97,100,100]), params := ePar (tn 18), body := .stmts (eBody (tn 18)), scope := eSc (tn 18), globals := 0, closure := [], defaults := z, kwdefaults := z, doc := z, pyModule := z, annotations := none, code := z, closureTuple := z, builtins := 0 }), ⟨[]⟩⟩
noncomputable def q51 (P : Params) : Obj := ⟨(.type PySem.W.SL.s5856160107412720595x4), none, (.fields ⟨[(.str (u [97,100,100]) 1759), (.str (u [97,100,100]) 1760), (.str (u [47,99,108,97,105,109,47,99,117,116,46,112,121]) 1761), (.int (Int.ofNat 28) 0), (.int (Int.ofNat 2) 0), (.int (Int.ofNat 0) 0), (.int (Int.ofNat 0) 0), (.int (Int.ofNat 3) 0), (.ref 58), (.bool true), (.int (Int.ofNat 181) 0), (.ref 59), z, (.ref 60), (.ref 61), (.ref 62), (.int (Int.ofNat 1764) 0), (.int (Int.ofNat 28) 0), (.str (u [47,99,108,97,105,109,47,99,117,116,46,112,121]) 1765)]⟩), ⟨[]⟩⟩
noncomputable def q52 (P : Params) : Obj := ⟨(.type PySem.W.SL.s7174869446012820540x8), none, (.func { name := (u [97,100,100]), qualname := (u [97,100,100]), params := ePar (tn 18), body := .stmts (eBody (tn 18)), scope := eSc (tn 18), globals := 3, closure := [], defaults := z, kwdefaults := z, doc := z, pyModule := (.str (u [99,112,121,51,49,51,46,111,112,101,114,97,116,111,114]) 1749), annotations := none, code := (.ref 63), closureTuple := z, builtins := 0 }), ⟨[]⟩⟩
noncomputable def q53 (P : Params) : Obj := ⟨(.type PySem.W.SL.s2766695959194262286x5), none, (.seq ⟨[(.str (u [97]) 1770), (.str (u [98]) 1771)]⟩ 0), ⟨[]⟩⟩
noncomputable def q54 (P : Params) : Obj := ⟨z, none, (.func { name := (u [102,108,111,111,114,100,105,118]), qualname := (u [102,108,111,111,114,100,105,118]), params := ePar (tn 19), body := .stmts (eBody (tn 19)), scope := eSc (tn 19), globals := 0, closure := [], defaults := z, kwdefaults := z, doc := z, pyModule := z, annotations := none, code := z, closureTuple := z, builtins := 0 }), ⟨[]⟩⟩
noncomputable def q55 (P : Params) : Obj := ⟨(.type PySem.W.SL.s5856160107412720595x4), none, (.fields ⟨[(.str (u [102,108,111,111,114,100,105,118]) 1767), (.str (u [102,108,111,111,114,100,105,118]) 1768), (.str (u [47,99,108,97,105,109,47,99,117,116,46,112,121]) 1769), (.int (Int.ofNat 30) 0), (.int (Int.ofNat 2) 0), (.int (Int.ofNat 0) 0), (.int (Int.ofNat 0) 0), (.int (Int.ofNat 3) 0), (.ref 65), (.bool true), (.int (Int.ofNat 181) 0), (.ref 66), z, (.ref 67), (.ref 68), (.ref 69), (.int (Int.ofNat 1772) 0), (.int (Int.ofNat 30) 0), (.str (u [47,99,108,97,105,109,47,99,117,116,46,112,121]) 1773)]⟩), ⟨[]⟩⟩
noncomputable def q56 (P : Params) : Obj := ⟨(.type PySem.W.SL.s7174869446012820540x8), none, (.func { name := (u [102,108,111,111,114,100,105,118]), qualname := (u [102,108,111,111,114,100,105,118]), params := ePar (tn 19), body := .stmts (eBody (tn 19)), scope := eSc (tn 19), globals := 3, closure := [], defaults := z, kwdefaults := z, doc := z, pyModule := (.str (u [99,112,121,51,49,51,46,111,112,101,114,97,116,111,114]) 1749), annotations := none, code := (.ref 70), closureTuple := z, builtins := 0 }), ⟨[]⟩⟩
noncomputable def q57 (P : Params) : Obj := ⟨(.type PySem.W.SL.s2766695959194262286x5), none, (.seq ⟨[(.str (u [97]) 1778), (.str (u [98]) 1779)]⟩ 0), ⟨[]⟩⟩
noncomputable def q58 (P : Params) : Obj := ⟨z, none, (.func { name := (u [109,111,100]), qualname := (u [109,111,100]), params := ePar (tn 20), body := .stmts (eBody (tn 20)), scope := eSc (tn 20), globals := 0, closure := [], defaults := z, kwdefaults := z, doc := z, pyModule := z, annotations := none, code := z, closureTuple := z, builtins := 0 }), ⟨[]⟩⟩
noncomputable def q59 (P : Params) : Obj := ⟨(.type PySem.W.SL.s5856160107412720595x4), none, (.fields ⟨[(.str (u [109,111,100]) 1775), (.str (u [109,111,100]) 1776), (.str (u [47,99,108,97,105,109,47,99,117,116,46,112,121]) 1777), (.int (Int.ofNat 32) 0), (.int (Int.ofNat 2) 0), (.int (Int.ofNat 0) 0), (.int (Int.ofNat 0) 0), (.int (Int.ofNat 3) 0), (.ref 72), (.bool true), (.int (Int.ofNat 181) 0), (.ref 73), z, (.ref 74), (.ref 75), (.ref 76), (.int (Int.ofNat 1780) 0), (.int (Int.ofNat 32) 0), (.str (u [47,99,108,97,105,109,47,99,117,116,46,112,121]) 1781)]⟩), ⟨[]⟩⟩
noncomputable def q60 (P : Params) : Obj := ⟨(.type PySem.W.SL.s7174869446012820540x8), none, (.func { name := (u [109,111,100]), qualname := (u [109,111,100]), params := ePar (tn 20), body := .stmts (eBody (tn 20)), scope := eSc (tn 20), globals := 3, closure := [], defaults := z, kwdefaults := z, doc := z, pyModule := (.str (u [99,112,121,51,49,51,46,111,112,101,114,97,116,111,114]) 1749), annotations := none, code := (.ref 77), closureTuple := z, builtins := 0 }), ⟨[]⟩⟩
noncomputable def q61 (P : Params) : Obj := ⟨(.type PySem.W.SL.s2766695959194262286x5), none, (.seq ⟨[(.str (u [97]) 1786), (.str (u [98]) 1787)]⟩ 0), ⟨[]⟩⟩
noncomputable def q62 (P : Params) : Obj := ⟨z, none, (.func { name := (u [109,117,108]), qualname := (u [109,117,108]), params := ePar (tn 21), body := .stmts (eBody (tn 21)), scope := eSc (tn 21), globals := 0, closure := [], defaults := z, kwdefaults := z, doc := z, pyModule := z, annotations := none, code := z, closureTuple := z, builtins := 0 }), ⟨[]⟩⟩
noncomputable def q63 (P : Params) : Obj := ⟨(.type PySem.W.SL.s5856160107412720595x4), none, (.fields ⟨[(.str (u [109,117,108]) 1783), (.str (u [109,117,108]) 1784), (.str (u [47,99,108,97,105,109,47,99,117,116,46,112,121]) 1785), (.int (Int.ofNat 34) 0), (.int (Int.ofNat 2) 0), (.int (Int.ofNat 0) 0), (.int (Int.ofNat 0) 0), (.int (Int.ofNat 3) 0), (.ref 79), (.bool true), (.int (Int.ofNat 181) 0), (.ref 80), z, (.ref 81), (.ref 82), (.ref 83), (.int (Int.ofNat 1788) 0), (.int (Int.ofNat 34) 0), (.str (u [47,99,108,97,105,109,47,99,117,116,46,112,121]) 1789)]⟩), ⟨[]⟩⟩
noncomputable def q64 (P : Params) : Obj := ⟨(.type PySem.W.SL.s7174869446012820540x8), none, (.func { name := (u [109,117,108]), qualname := (u [109,117,108]), params := ePar (tn 21), body := .stmts (eBody (tn 21)), scope := eSc (tn 21), globals := 3, closure := [], defaults := z, kwdefaults := z, doc := z, pyModule := (.str (u [99,112,121,51,49,51,46,111,112,101,114,97,116,111,114]) 1749), annotations := none, code := (.ref 84), closureTuple := z, builtins := 0 }), ⟨[]⟩⟩
noncomputable def t6 (P : Params) : BT := (.node (q0 P) (.node (q1 P) (.node (q31 P) (.node (q7 P) (.node (q14 P) (.node (q7 P) (.node (q51 P) .nil .nil) .nil) (.node (q42 P) (.node (q7 P) .nil .nil) .nil)) (.node (q20 P) (.node (q7 P) (.node (q56 P) .nil .nil) .nil) (.node (q46 P) .nil .nil))) (.node (q7 P) (.node (q7 P) (.node (q34 P) (.node (q53 P) .nil .nil) .nil) (.node (q7 P) (.node (q62 P) .nil .nil) .nil)) (.node (q25 P) (.node (q39 P) (.node (q7 P) .nil .nil) .nil) (.node (q8 P) .nil .nil)))) (.node (q5 P) (.node (q9 P) (.node (q16 P) (.node (q33 P) (.node (q7 P) .nil .nil) .nil) (.node (q7 P) (.node (q61 P) .nil .nil) .nil)) (.node (q24 P) (.node (q38 P) (.node (q8 P) .nil .nil) .nil) (.node (q48 P) .nil .nil))) (.node (q11 P) (.node (q20 P) (.node (q36 P) (.node (q54 P) .nil .nil) .nil) (.node (q45 P) (.node (q64 P) .nil .nil) .nil)) (.node (q7 P) (.node (q41 P) (.node (q59 P) .nil .nil) .nil) (.node (q7 P) .nil .nil))))) (.node (q2 P) (.node (q4 P) (.node (q8 P) (.node (q15 P) (.node (q8 P) (.node (q52 P) .nil .nil) .nil) (.node (q43 P) (.node (q8 P) .nil .nil) .nil)) (.node (q28 P) (.node (q8 P) (.node (q7 P) .nil .nil) .nil) (.node (q47 P) .nil .nil))) (.node (q32 P) (.node (q18 P) (.node (q35 P) (.node (q7 P) .nil .nil) .nil) (.node (q8 P) (.node (q63 P) .nil .nil) .nil)) (.node (q29 P) (.node (q40 P) (.node (q58 P) .nil .nil) .nil) (.node (q49 P) .nil .nil)))) (.node (q6 P) (.node (q10 P) (.node (q17 P) (.node (q7 P) (.node (q8 P) .nil .nil) .nil) (.node (q44 P) (.node (q7 P) .nil .nil) .nil)) (.node (q7 P) (.node (q7 P) (.node (q57 P) .nil .nil) .nil) (.node (q7 P) .nil .nil))) (.node (q12 P) (.node (q26 P) (.node (q37 P) (.node (q55 P) .nil .nil) .nil) (.node (q7 P) .nil .nil)) (.node (q30 P) (.node (q20 P) (.node (q60 P) .nil .nil) .nil) (.node (q50 P) .nil .nil))))))
noncomputable def h6 (P : Params) : Heap := ⟨⟨[q0 P, q1 P, q2 P, q31 P, q4 P, q5 P, q6 P, q7 P, q8 P, q9 P, q10 P, q7 P, q32 P, q11 P, q12 P, q14 P, q15 P, q16 P, q17 P, q7 P, q18 P, q20 P, q26 P, q20 P, q28 P, q24 P, q7 P, q25 P, q29 P, q7 P, q30 P, q7 P, q8 P, q33 P, q7 P, q34 P, q35 P, q36 P, q37 P, q7 P, q8 P, q38 P, q7 P, q39 P, q40 P, q41 P, q20 P, q42 P, q43 P, q7 P, q44 P, q7 P, q8 P, q45 P, q7 P, q46 P, q47 P, q48 P, q7 P, q8 P, q49 P, q7 P, q50 P, q51 P, q52 P, q7 P, q8 P, q53 P, q7 P, q54 P, q55 P, q56 P, q7 P, q8 P, q57 P, q7 P, q58 P, q59 P, q60 P, q7 P, q8 P, q61 P, q7 P, q62 P, q63 P, q64 P]⟩, {}⟩
noncomputable def q65 (P : Params) : Obj := ⟨(.type PySem.W.SL.s14018661285674007319x4), none, (.dict ⟨[en P (u [95,95,110,97,109,101,95,95]) 165 (.str (u [108,97,119,95,107,117,48,48,48,50,95,48,49]) 1818), en P (u [95,95,100,111,99,95,95]) 166 z, en P (u [95,95,112,97,99,107,97,103,101,95,95]) 167 z, en P (u [95,95,108,111,97,100,101,114,95,95]) 168 (.builtin PySem.W.SL.s7097527257260152453x26), en P (u [95,95,115,112,101,99,95,95]) 169 z, en P (u [95,95,97,110,110,111,116,97,116,105,111,110,115,95,95]) 170 (.ref 6), en P (u [95,95,98,117,105,108,116,105,110,115,95,95]) 171 (.ref 4), en P (u [95,95,102,105,108,101,95,95]) 173 (.str (u [47,99,108,97,105,109,47,99,117,116,46,112,121]) 172), en P (u [95,95,99,97,99,104,101,100,95,95]) 174 z, en P (u [95,81,85,79,80,82,73,95,77,65,80]) 1214 (.ref 17), en P (u [95,81,85,79,80,82,73,95,72,69,65,68,69,82,95,77,65,80]) 1215 (.ref 22), en P (u [95,81,85,79,80,82,73,95,66,79,68,89,95,77,65,80]) 1216 (.ref 24), en P (u [97,115,99,105,105,95,108,111,119,101,114,99,97,115,101]) 1218 (.str (u [97,98,99,100,101,102,103,104,105,106,107,108,109,110,111,112,113,114,115,116,117,118,119,120,121,122]) 1217), en P (u [97,115,99,105,105,95,117,112,112,101,114,99,97,115,101]) 1220 (.str (u [65,66,67,68,69,70,71,72,73,74,75,76,77,78,79,80,81,82,83,84,85,86,87,88,89,90]) 1219), en P (u [97,115,99,105,105,95,108,101,116,116,101,114,115]) 1222 (.str (u [97,98,99,100,101,102,103,104,105,106,107,108,109,110,111,112,113,114,115,116,117,118,119,120,121,122,65,66,67,68,69,70,71,72,73,74,75,76,77,78,79,80,81,82,83,84,85,86,87,88,89,90]) 1221), en P (u [100,105,103,105,116,115]) 1224 (.str (u [48,49,50,51,52,53,54,55,56,57]) 1223), en P (u [104,101,97,100,101,114,95,99,104,101,99,107]) 1730 (.ref 37), en P (u [104,101,97,100,101,114,95,101,110,99,111,100,101]) 1740 (.ref 45), en P (u [95,81,85,79,80,82,73,95,66,79,68,89,95,69,78,67,79,68,69,95,77,65,80]) 1741 (.ref 47), en P (u [108,116]) 1758 (.ref 57), en P (u [97,100,100]) 1766 (.ref 64), en P (u [102,108,111,111,114,100,105,118]) 1774 (.ref 71), en P (u [109,111,100]) 1782 (.ref 78), en P (u [109,117,108]) 1790 (.ref 85), en P (u [99,111,110,99,97,116]) 1799 (.ref 92), en P (u [99,111,110,116,97,105,110,115]) 1807 (.ref 99), en P (u [99,111,117,110,116,79,102]) 1817 (.ref 106), en P (u [95,108,97,119,95,99,111,100,101]) 1826 (.ref 113), en P (u [95,108,97,119,95,111,99,116,101,116,115]) 1838 (.ref 120), en P (u [95,108,97,119,95,114,111,119,115]) 1844 (.ref 125), en P (u [95,108,97,119,95,114,105,110,103]) 1854 (.ref 132), en P (u [95,108,97,119,95,99,111,109,109,111,110]) 1863 (.ref 139), en P (u [95,108,97,119,95,107,101,112,116]) 1869 (.ref 144), en P (u [108,97,119]) 1875 (.ref 149)]⟩ 36), ⟨[]⟩⟩
noncomputable def q66 (P : Params) : Obj := ⟨z, none, (.fields ⟨[(.int (Int.ofNat 14) 0), (.int (Int.ofNat 0) 0), (.ref 36), (.int (Int.ofNat 16) 0), (.int (Int.ofNat 0) 0), (.ref 44), (.int (Int.ofNat 26) 0), (.int (Int.ofNat 0) 0), (.ref 56), (.int (Int.ofNat 28) 0), (.int (Int.ofNat 0) 0), (.ref 63), (.int (Int.ofNat 30) 0), (.int (Int.ofNat 0) 0), (.ref 70), (.int (Int.ofNat 32) 0), (.int (Int.ofNat 0) 0), (.ref 77), (.int (Int.ofNat 34) 0), (.int (Int.ofNat 0) 0), (.ref 84), (.int (Int.ofNat 36) 0), (.int (Int.ofNat 0) 0), (.ref 91), (.int (Int.ofNat 41) 0), (.int (Int.ofNat 0) 0), (.ref 98), (.int (Int.ofNat 43) 0), (.int (Int.ofNat 0) 0), (.ref 105), (.int (Int.ofNat 50) 0), (.int (Int.ofNat 0) 0), (.ref 112), (.int (Int.ofNat 56) 0), (.int (Int.ofNat 0) 0), (.ref 119), (.int (Int.ofNat 66) 0), (.int (Int.ofNat 0) 0), (.ref 124), (.int (Int.ofNat 73) 0), (.int (Int.ofNat 0) 0), (.ref 131), (.int (Int.ofNat 80) 0), (.int (Int.ofNat 0) 0), (.ref 138), (.int (Int.ofNat 85) 0), (.int (Int.ofNat 0) 0), (.ref 143), (.int (Int.ofNat 98) 0), (.int (Int.ofNat 0) 0), (.ref 148)]⟩), ⟨[]⟩⟩
noncomputable def q67 (P : Params) : Obj := ⟨(.type PySem.W.SL.s2766695959194262286x5), none, (.seq ⟨[(.str (u [97]) 1794), (.str (u [98]) 1795), (.str (u [109,115,103]) 1796)]⟩ 0), ⟨[]⟩⟩
noncomputable def q68 (P : Params) : Obj := ⟨z, none, (.func { name := (u [99,111,110,99,97,116]), qualname := (u [99,111,110,99,97,116]), params := ePar (tn 22), body := .stmts (eBody (tn 22)), scope := eSc (tn 22), globals := 0, closure := [], defaults := z, kwdefaults := z, doc := z, pyModule := z, annotations := none, code := z, closureTuple := z, builtins := 0 }), ⟨[]⟩⟩
noncomputable def q69 (P : Params) : Obj := ⟨(.type PySem.W.SL.s5856160107412720595x4), none, (.fields ⟨[(.str (u [99,111,110,99,97,116]) 1791), (.str (u [99,111,110,99,97,116]) 1792), (.str (u [47,99,108,97,105,109,47,99,117,116,46,112,121]) 1793), (.int (Int.ofNat 36) 0), (.int (Int.ofNat 2) 0), (.int (Int.ofNat 0) 0), (.int (Int.ofNat 0) 0), (.int (Int.ofNat 3) 0), (.ref 86), (.bool true), (.int (Int.ofNat 181) 0), (.ref 87), z, (.ref 88), (.ref 89), (.ref 90), (.int (Int.ofNat 1797) 0), (.int (Int.ofNat 36) 0), (.str (u [47,99,108,97,105,109,47,99,117,116,46,112,121]) 1798)]⟩), ⟨[]⟩⟩
noncomputable def q70 (P : Params) : Obj := ⟨(.type PySem.W.SL.s7174869446012820540x8), none, (.func { name := (u [99,111,110,99,97,116]), qualname := (u [99,111,110,99,97,116]), params := ePar (tn 22), body := .stmts (eBody (tn 22)), scope := eSc (tn 22), globals := 3, closure := [], defaults := z, kwdefaults := z, doc := z, pyModule := (.str (u [99,112,121,51,49,51,46,111,112,101,114,97,116,111,114]) 1749), annotations := none, code := (.ref 91), closureTuple := z, builtins := 0 }), ⟨[]⟩⟩
noncomputable def q71 (P : Params) : Obj := ⟨(.type PySem.W.SL.s2766695959194262286x5), none, (.seq ⟨[(.str (u [97]) 1803), (.str (u [98]) 1804)]⟩ 0), ⟨[]⟩⟩
noncomputable def q72 (P : Params) : Obj := ⟨z, none, (.func { name := (u [99,111,110,116,97,105,110,115]), qualname := (u [99,111,110,116,97,105,110,115]), params := ePar (tn 23), body := .stmts (eBody (tn 23)), scope := eSc (tn 23), globals := 0, closure := [], defaults := z, kwdefaults := z, doc := z, pyModule := z, annotations := none, code := z, closureTuple := z, builtins := 0 }), ⟨[]⟩⟩
noncomputable def q73 (P : Params) : Obj := ⟨(.type PySem.W.SL.s5856160107412720595x4), none, (.fields ⟨[(.str (u [99,111,110,116,97,105,110,115]) 1800), (.str (u [99,111,110,116,97,105,110,115]) 1801), (.str (u [47,99,108,97,105,109,47,99,117,116,46,112,121]) 1802), (.int (Int.ofNat 41) 0), (.int (Int.ofNat 2) 0), (.int (Int.ofNat 0) 0), (.int (Int.ofNat 0) 0), (.int (Int.ofNat 3) 0), (.ref 93), (.bool true), (.int (Int.ofNat 181) 0), (.ref 94), z, (.ref 95), (.ref 96), (.ref 97), (.int (Int.ofNat 1805) 0), (.int (Int.ofNat 41) 0), (.str (u [47,99,108,97,105,109,47,99,117,116,46,112,121]) 1806)]⟩), ⟨[]⟩⟩
noncomputable def q74 (P : Params) : Obj := ⟨(.type PySem.W.SL.s7174869446012820540x8), none, (.func { name := (u [99,111,110,116,97,105,110,115]), qualname := (u [99,111,110,116,97,105,110,115]), params := ePar (tn 23), body := .stmts (eBody (tn 23)), scope := eSc (tn 23), globals := 3, closure := [], defaults := z, kwdefaults := z, doc := z, pyModule := (.str (u [99,112,121,51,49,51,46,111,112,101,114,97,116,111,114]) 1749), annotations := none, code := (.ref 98), closureTuple := z, builtins := 0 }), ⟨[]⟩⟩
noncomputable def q75 (P : Params) : Obj := ⟨(.type PySem.W.SL.s2766695959194262286x5), none, (.seq ⟨[(.str (u [97]) 1811), (.str (u [98]) 1812), (.str (u [99,111,117,110,116]) 1813), (.str (u [105]) 1814)]⟩ 0), ⟨[]⟩⟩
noncomputable def q76 (P : Params) : Obj := ⟨z, none, (.func { name := (u [99,111,117,110,116,79,102]), qualname := (u [99,111,117,110,116,79,102]), params := ePar (tn 24), body := .stmts (eBody (tn 24)), scope := eSc (tn 24), globals := 0, closure := [], defaults := z, kwdefaults := z, doc := z, pyModule := z, annotations := none, code := z, closureTuple := z, builtins := 0 }), ⟨[]⟩⟩
noncomputable def q77 (P : Params) : Obj := ⟨(.type PySem.W.SL.s5856160107412720595x4), none, (.fields ⟨[(.str (u [99,111,117,110,116,79,102]) 1808), (.str (u [99,111,117,110,116,79,102]) 1809), (.str (u [47,99,108,97,105,109,47,99,117,116,46,112,121]) 1810), (.int (Int.ofNat 43) 0), (.int (Int.ofNat 2) 0), (.int (Int.ofNat 0) 0), (.int (Int.ofNat 0) 0), (.int (Int.ofNat 3) 0), (.ref 100), (.bool true), (.int (Int.ofNat 181) 0), (.ref 101), z, (.ref 102), (.ref 103), (.ref 104), (.int (Int.ofNat 1815) 0), (.int (Int.ofNat 43) 0), (.str (u [47,99,108,97,105,109,47,99,117,116,46,112,121]) 1816)]⟩), ⟨[]⟩⟩
noncomputable def q78 (P : Params) : Obj := ⟨(.type PySem.W.SL.s7174869446012820540x8), none, (.func { name := (u [99,111,117,110,116,79,102]), qualname := (u [99,111,117,110,116,79,102]), params := ePar (tn 24), body := .stmts (eBody (tn 24)), scope := eSc (tn 24), globals := 3, closure := [], defaults := z, kwdefaults := z, doc := z, pyModule := (.str (u [99,112,121,51,49,51,46,111,112,101,114,97,116,111,114]) 1749), annotations := none, code := (.ref 105), closureTuple := z, builtins := 0 }), ⟨[]⟩⟩
noncomputable def q79 (P : Params) : Obj := ⟨(.type PySem.W.SL.s2766695959194262286x5), none, (.seq ⟨[(.str (u [111,99,116,101,116]) 1823)]⟩ 0), ⟨[]⟩⟩
noncomputable def q80 (P : Params) : Obj := ⟨z, none, (.func { name := (u [95,108,97,119,95,99,111,100,101]), qualname := (u [95,108,97,119,95,99,111,100,101]), params := ePar (tn 26), body := .stmts (eBody (tn 26)), scope := eSc (tn 26), globals := 0, closure := [], defaults := z, kwdefaults := z, doc := z, pyModule := z, annotations := none, code := z, closureTuple := z, builtins := 0 }), ⟨[]⟩⟩
noncomputable def q81 (P : Params) : Obj := ⟨(.type PySem.W.SL.s5856160107412720595x4), none, (.fields ⟨[(.str (u [95,108,97,119,95,99,111,100,101]) 1820), (.str (u [95,108,97,119,95,99,111,100,101]) 1821), (.str (u [47,99,108,97,105,109,47,99,117,116,46,112,121]) 1822), (.int (Int.ofNat 50) 0), (.int (Int.ofNat 1) 0), (.int (Int.ofNat 0) 0), (.int (Int.ofNat 0) 0), (.int (Int.ofNat 3) 0), (.ref 107), (.bool true), (.int (Int.ofNat 181) 0), (.ref 108), z, (.ref 109), (.ref 110), (.ref 111), (.int (Int.ofNat 1824) 0), (.int (Int.ofNat 50) 0), (.str (u [47,99,108,97,105,109,47,99,117,116,46,112,121]) 1825)]⟩), ⟨[]⟩⟩
noncomputable def q82 (P : Params) : Obj := ⟨(.type PySem.W.SL.s7174869446012820540x8), none, (.func { name := (u [95,108,97,119,95,99,111,100,101]), qualname := (u [95,108,97,119,95,99,111,100,101]), params := ePar (tn 26), body := .stmts (eBody (tn 26)), scope := eSc (tn 26), globals := 3, closure := [], defaults := z, kwdefaults := z, doc := z, pyModule := (.str (u [108,97,119,95,107,117,48,48,48,50,95,48,49]) 1818), annotations := none, code := (.ref 112), closureTuple := z, builtins := 0 }), ⟨[]⟩⟩
noncomputable def q83 (P : Params) : Obj := ⟨(.type PySem.W.SL.s2766695959194262286x5), none, (.seq ⟨[(.str (u [100,114,97,119,115]) 1830), (.str (u [112,108,97,105,110]) 1831), (.str (u [111,99,116,101,116,115]) 1832), (.str (u [100,114,97,119]) 1833), (.str (u [111,99,116,101,116]) 1834), (.str (u [95]) 1835)]⟩ 0), ⟨[]⟩⟩
noncomputable def q84 (P : Params) : Obj := ⟨z, none, (.func { name := (u [95,108,97,119,95,111,99,116,101,116,115]), qualname := (u [95,108,97,119,95,111,99,116,101,116,115]), params := ePar (tn 27), body := .stmts (eBody (tn 27)), scope := eSc (tn 27), globals := 0, closure := [], defaults := z, kwdefaults := z, doc := z, pyModule := z, annotations := none, code := z, closureTuple := z, builtins := 0 }), ⟨[]⟩⟩
noncomputable def q85 (P : Params) : Obj := ⟨(.type PySem.W.SL.s5856160107412720595x4), none, (.fields ⟨[(.str (u [95,108,97,119,95,111,99,116,101,116,115]) 1827), (.str (u [95,108,97,119,95,111,99,116,101,116,115]) 1828), (.str (u [47,99,108,97,105,109,47,99,117,116,46,112,121]) 1829), (.int (Int.ofNat 56) 0), (.int (Int.ofNat 1) 0), (.int (Int.ofNat 0) 0), (.int (Int.ofNat 0) 0), (.int (Int.ofNat 3) 0), (.ref 114), (.bool true), (.int (Int.ofNat 181) 0), (.ref 115), z, (.ref 116), (.ref 117), (.ref 118), (.int (Int.ofNat 1836) 0), (.int (Int.ofNat 56) 0), (.str (u [47,99,108,97,105,109,47,99,117,116,46,112,121]) 1837)]⟩), ⟨[]⟩⟩
noncomputable def q86 (P : Params) : Obj := ⟨(.type PySem.W.SL.s7174869446012820540x8), none, (.func { name := (u [95,108,97,119,95,111,99,116,101,116,115]), qualname := (u [95,108,97,119,95,111,99,116,101,116,115]), params := ePar (tn 27), body := .stmts (eBody (tn 27)), scope := eSc (tn 27), globals := 3, closure := [], defaults := z, kwdefaults := z, doc := z, pyModule := (.str (u [108,97,119,95,107,117,48,48,48,50,95,48,49]) 1818), annotations := none, code := (.ref 119), closureTuple := z, builtins := 0 }), ⟨[]⟩⟩
noncomputable def q87 (P : Params) : Obj := ⟨z, none, (.func { name := (u [95,108,97,119,95,114,111,119,115]), qualname := (u [95,108,97,119,95,114,111,119,115]), params := ePar (tn 28), body := .stmts (eBody (tn 28)), scope := eSc (tn 28), globals := 0, closure := [], defaults := z, kwdefaults := z, doc := z, pyModule := z, annotations := none, code := z, closureTuple := z, builtins := 0 }), ⟨[]⟩⟩
noncomputable def q88 (P : Params) : Obj := ⟨(.type PySem.W.SL.s5856160107412720595x4), none, (.fields ⟨[(.str (u [95,108,97,119,95,114,111,119,115]) 1839), (.str (u [95,108,97,119,95,114,111,119,115]) 1840), (.str (u [47,99,108,97,105,109,47,99,117,116,46,112,121]) 1841), (.int (Int.ofNat 66) 0), (.int (Int.ofNat 2) 0), (.int (Int.ofNat 0) 0), (.int (Int.ofNat 0) 0), (.int (Int.ofNat 3) 0), (.ref 121), (.bool true), (.int (Int.ofNat 181) 0), (.ref 122), z, z, z, (.ref 123), (.int (Int.ofNat 1842) 0), (.int (Int.ofNat 66) 0), (.str (u [47,99,108,97,105,109,47,99,117,116,46,112,121]) 1843)]⟩), ⟨[]⟩⟩
noncomputable def q89 (P : Params) : Obj := ⟨(.type PySem.W.SL.s7174869446012820540x8), none, (.func { name := (u [95,108,97,119,95,114,111,119,115]), qualname := (u [95,108,97,119,95,114,111,119,115]), params := ePar (tn 28), body := .stmts (eBody (tn 28)), scope := eSc (tn 28), globals := 3, closure := [], defaults := z, kwdefaults := z, doc := z, pyModule := (.str (u [108,97,119,95,107,117,48,48,48,50,95,48,49]) 1818), annotations := none, code := (.ref 124), closureTuple := z, builtins := 0 }), ⟨[]⟩⟩
noncomputable def q90 (P : Params) : Obj := ⟨(.type PySem.W.SL.s2766695959194262286x5), none, (.seq ⟨[(.str (u [119,111,114,100]) 1848), (.str (u [108,101,97,115,116]) 1849), (.str (u [112,108,97,99,101]) 1850), (.str (u [116,117,114,110,101,100]) 1851)]⟩ 0), ⟨[]⟩⟩
noncomputable def q91 (P : Params) : Obj := ⟨z, none, (.func { name := (u [95,108,97,119,95,114,105,110,103]), qualname := (u [95,108,97,119,95,114,105,110,103]), params := ePar (tn 29), body := .stmts (eBody (tn 29)), scope := eSc (tn 29), globals := 0, closure := [], defaults := z, kwdefaults := z, doc := z, pyModule := z, annotations := none, code := z, closureTuple := z, builtins := 0 }), ⟨[]⟩⟩
noncomputable def q92 (P : Params) : Obj := ⟨(.type PySem.W.SL.s5856160107412720595x4), none, (.fields ⟨[(.str (u [95,108,97,119,95,114,105,110,103]) 1845), (.str (u [95,108,97,119,95,114,105,110,103]) 1846), (.str (u [47,99,108,97,105,109,47,99,117,116,46,112,121]) 1847), (.int (Int.ofNat 73) 0), (.int (Int.ofNat 1) 0), (.int (Int.ofNat 0) 0), (.int (Int.ofNat 0) 0), (.int (Int.ofNat 3) 0), (.ref 126), (.bool true), (.int (Int.ofNat 181) 0), (.ref 127), z, (.ref 128), (.ref 129), (.ref 130), (.int (Int.ofNat 1852) 0), (.int (Int.ofNat 73) 0), (.str (u [47,99,108,97,105,109,47,99,117,116,46,112,121]) 1853)]⟩), ⟨[]⟩⟩
noncomputable def q93 (P : Params) : Obj := ⟨(.type PySem.W.SL.s7174869446012820540x8), none, (.func { name := (u [95,108,97,119,95,114,105,110,103]), qualname := (u [95,108,97,119,95,114,105,110,103]), params := ePar (tn 29), body := .stmts (eBody (tn 29)), scope := eSc (tn 29), globals := 3, closure := [], defaults := z, kwdefaults := z, doc := z, pyModule := (.str (u [108,97,119,95,107,117,48,48,48,50,95,48,49]) 1818), annotations := none, code := (.ref 131), closureTuple := z, builtins := 0 }), ⟨[]⟩⟩
noncomputable def q94 (P : Params) : Obj := ⟨(.type PySem.W.SL.s2766695959194262286x5), none, (.seq ⟨[(.str (u [111,110,101]) 1858), (.str (u [116,119,111]) 1859), (.str (u [95]) 1860)]⟩ 0), ⟨[]⟩⟩
noncomputable def q95 (P : Params) : Obj := ⟨z, none, (.func { name := (u [95,108,97,119,95,99,111,109,109,111,110]), qualname := (u [95,108,97,119,95,99,111,109,109,111,110]), params := ePar (tn 30), body := .stmts (eBody (tn 30)), scope := eSc (tn 30), globals := 0, closure := [], defaults := z, kwdefaults := z, doc := z, pyModule := z, annotations := none, code := z, closureTuple := z, builtins := 0 }), ⟨[]⟩⟩
noncomputable def q96 (P : Params) : Obj := ⟨(.type PySem.W.SL.s5856160107412720595x4), none, (.fields ⟨[(.str (u [95,108,97,119,95,99,111,109,109,111,110]) 1855), (.str (u [95,108,97,119,95,99,111,109,109,111,110]) 1856), (.str (u [47,99,108,97,105,109,47,99,117,116,46,112,121]) 1857), (.int (Int.ofNat 80) 0), (.int (Int.ofNat 2) 0), (.int (Int.ofNat 0) 0), (.int (Int.ofNat 0) 0), (.int (Int.ofNat 3) 0), (.ref 133), (.bool true), (.int (Int.ofNat 181) 0), (.ref 134), z, (.ref 135), (.ref 136), (.ref 137), (.int (Int.ofNat 1861) 0), (.int (Int.ofNat 80) 0), (.str (u [47,99,108,97,105,109,47,99,117,116,46,112,121]) 1862)]⟩), ⟨[]⟩⟩
noncomputable def q97 (P : Params) : Obj := ⟨(.type PySem.W.SL.s7174869446012820540x8), none, (.func { name := (u [95,108,97,119,95,99,111,109,109,111,110]), qualname := (u [95,108,97,119,95,99,111,109,109,111,110]), params := ePar (tn 30), body := .stmts (eBody (tn 30)), scope := eSc (tn 30), globals := 3, closure := [], defaults := z, kwdefaults := z, doc := z, pyModule := (.str (u [108,97,119,95,107,117,48,48,48,50,95,48,49]) 1818), annotations := none, code := (.ref 138), closureTuple := z, builtins := 0 }), ⟨[]⟩⟩
noncomputable def q98 (P : Params) : Obj := ⟨z, none, (.func { name := (u [95,108,97,119,95,107,101,112,116]), qualname := (u [95,108,97,119,95,107,101,112,116]), params := ePar (tn 31), body := .stmts (eBody (tn 31)), scope := eSc (tn 31), globals := 0, closure := [], defaults := z, kwdefaults := z, doc := z, pyModule := z, annotations := none, code := z, closureTuple := z, builtins := 0 }), ⟨[]⟩⟩
noncomputable def q99 (P : Params) : Obj := ⟨(.type PySem.W.SL.s5856160107412720595x4), none, (.fields ⟨[(.str (u [95,108,97,119,95,107,101,112,116]) 1864), (.str (u [95,108,97,119,95,107,101,112,116]) 1865), (.str (u [47,99,108,97,105,109,47,99,117,116,46,112,121]) 1866), (.int (Int.ofNat 85) 0), (.int (Int.ofNat 3) 0), (.int (Int.ofNat 0) 0), (.int (Int.ofNat 0) 0), (.int (Int.ofNat 3) 0), (.ref 140), (.bool true), (.int (Int.ofNat 181) 0), (.ref 141), z, z, z, (.ref 142), (.int (Int.ofNat 1867) 0), (.int (Int.ofNat 85) 0), (.str (u [47,99,108,97,105,109,47,99,117,116,46,112,121]) 1868)]⟩), ⟨[]⟩⟩
noncomputable def q100 (P : Params) : Obj := ⟨(.type PySem.W.SL.s7174869446012820540x8), none, (.func { name := (u [95,108,97,119,95,107,101,112,116]), qualname := (u [95,108,97,119,95,107,101,112,116]), params := ePar (tn 31), body := .stmts (eBody (tn 31)), scope := eSc (tn 31), globals := 3, closure := [], defaults := z, kwdefaults := z, doc := z, pyModule := (.str (u [108,97,119,95,107,117,48,48,48,50,95,48,49]) 1818), annotations := none, code := (.ref 143), closureTuple := z, builtins := 0 }), ⟨[]⟩⟩
noncomputable def q101 (P : Params) : Obj := ⟨z, none, (.func { name := (u [108,97,119]), qualname := (u [108,97,119]), params := ePar (tn 32), body := .stmts (eBody (tn 32)), scope := eSc (tn 32), globals := 0, closure := [], defaults := z, kwdefaults := z, doc := z, pyModule := z, annotations := none, code := z, closureTuple := z, builtins := 0 }), ⟨[]⟩⟩
noncomputable def q102 (P : Params) : Obj := ⟨(.type PySem.W.SL.s5856160107412720595x4), none, (.fields ⟨[(.str (u [108,97,119]) 1870), (.str (u [108,97,119]) 1871), (.str (u [47,99,108,97,105,109,47,99,117,116,46,112,121]) 1872), (.int (Int.ofNat 98) 0), (.int (Int.ofNat 1) 0), (.int (Int.ofNat 0) 0), (.int (Int.ofNat 0) 0), (.int (Int.ofNat 3) 0), (.ref 145), (.bool true), (.int (Int.ofNat 181) 0), (.ref 146), z, z, z, (.ref 147), (.int (Int.ofNat 1873) 0), (.int (Int.ofNat 98) 0), (.str (u [47,99,108,97,105,109,47,99,117,116,46,112,121]) 1874)]⟩), ⟨[]⟩⟩
noncomputable def q103 (P : Params) : Obj := ⟨(.type PySem.W.SL.s7174869446012820540x8), none, (.func { name := (u [108,97,119]), qualname := (u [108,97,119]), params := ePar (tn 32), body := .stmts (eBody (tn 32)), scope := eSc (tn 32), globals := 3, closure := [], defaults := z, kwdefaults := z, doc := z, pyModule := (.str (u [108,97,119,95,107,117,48,48,48,50,95,48,49]) 1818), annotations := none, code := (.ref 148), closureTuple := z, builtins := 0 }), ⟨[]⟩⟩
noncomputable def t7 (P : Params) : BT := (.node (q0 P) (.node (q1 P) (.node (q65 P) (.node (q7 P) (.node (q14 P) (.node (q7 P) (.node (q51 P) (.node (q8 P) .nil .nil) .nil) (.node (q71 P) .nil .nil)) (.node (q42 P) (.node (q7 P) (.node (q99 P) .nil .nil) .nil) (.node (q80 P) .nil .nil))) (.node (q20 P) (.node (q7 P) (.node (q56 P) (.node (q94 P) .nil .nil) .nil) (.node (q7 P) .nil .nil)) (.node (q46 P) (.node (q8 P) .nil .nil) (.node (q85 P) .nil .nil)))) (.node (q7 P) (.node (q7 P) (.node (q34 P) (.node (q53 P) (.node (q92 P) .nil .nil) .nil) (.node (q74 P) .nil .nil)) (.node (q7 P) (.node (q62 P) (.node (q101 P) .nil .nil) .nil) (.node (q8 P) .nil .nil))) (.node (q25 P) (.node (q39 P) (.node (q7 P) (.node (q97 P) .nil .nil) .nil) (.node (q7 P) .nil .nil)) (.node (q8 P) (.node (q69 P) .nil .nil) (.node (q87 P) .nil .nil))))) (.node (q5 P) (.node (q9 P) (.node (q16 P) (.node (q33 P) (.node (q7 P) (.node (q7 P) .nil .nil) .nil) (.node (q72 P) .nil .nil)) (.node (q7 P) (.node (q61 P) (.node (q7 P) .nil .nil) .nil) (.node (q82 P) .nil .nil))) (.node (q24 P) (.node (q38 P) (.node (q8 P) (.node (q95 P) .nil .nil) .nil) (.node (q77 P) .nil .nil)) (.node (q48 P) (.node (q7 P) .nil .nil) (.node (q7 P) .nil .nil)))) (.node (q11 P) (.node (q20 P) (.node (q36 P) (.node (q54 P) (.node (q7 P) .nil .nil) .nil) (.node (q8 P) .nil .nil)) (.node (q45 P) (.node (q64 P) (.node (q103 P) .nil .nil) .nil) (.node (q7 P) .nil .nil))) (.node (q7 P) (.node (q41 P) (.node (q59 P) (.node (q8 P) .nil .nil) .nil) (.node (q79 P) .nil .nil)) (.node (q7 P) (.node (q7 P) .nil .nil) (.node (q89 P) .nil .nil)))))) (.node (q2 P) (.node (q4 P) (.node (q8 P) (.node (q15 P) (.node (q8 P) (.node (q52 P) (.node (q90 P) .nil .nil) .nil) (.node (q7 P) .nil .nil)) (.node (q43 P) (.node (q8 P) (.node (q100 P) .nil .nil) .nil) (.node (q81 P) .nil .nil))) (.node (q28 P) (.node (q8 P) (.node (q7 P) (.node (q7 P) .nil .nil) .nil) (.node (q76 P) .nil .nil)) (.node (q47 P) (.node (q67 P) .nil .nil) (.node (q86 P) .nil .nil)))) (.node (q66 P) (.node (q18 P) (.node (q35 P) (.node (q7 P) (.node (q93 P) .nil .nil) .nil) (.node (q7 P) .nil .nil)) (.node (q8 P) (.node (q63 P) (.node (q102 P) .nil .nil) .nil) (.node (q83 P) .nil .nil))) (.node (q29 P) (.node (q40 P) (.node (q58 P) (.node (q7 P) .nil .nil) .nil) (.node (q8 P) .nil .nil)) (.node (q49 P) (.node (q70 P) .nil .nil) (.node (q88 P) .nil .nil))))) (.node (q6 P) (.node (q10 P) (.node (q17 P) (.node (q7 P) (.node (q8 P) (.node (q91 P) .nil .nil) .nil) (.node (q73 P) .nil .nil)) (.node (q44 P) (.node (q7 P) (.node (q8 P) .nil .nil) .nil) (.node (q7 P) .nil .nil))) (.node (q7 P) (.node (q7 P) (.node (q57 P) (.node (q96 P) .nil .nil) .nil) (.node (q78 P) .nil .nil)) (.node (q7 P) (.node (q68 P) .nil .nil) (.node (q8 P) .nil .nil)))) (.node (q12 P) (.node (q26 P) (.node (q37 P) (.node (q55 P) (.node (q8 P) .nil .nil) .nil) (.node (q75 P) .nil .nil)) (.node (q7 P) (.node (q7 P) .nil .nil) (.node (q84 P) .nil .nil))) (.node (q30 P) (.node (q20 P) (.node (q60 P) (.node (q98 P) .nil .nil) .nil) (.node (q7 P) .nil .nil)) (.node (q50 P) (.node (q8 P) .nil .nil) (.node (q7 P) .nil .nil)))))))
noncomputable def h7 (P : Params) : Heap := ⟨⟨[q0 P, q1 P, q2 P, q65 P, q4 P, q5 P, q6 P, q7 P, q8 P, q9 P, q10 P, q7 P, q66 P, q11 P, q12 P, q14 P, q15 P, q16 P, q17 P, q7 P, q18 P, q20 P, q26 P, q20 P, q28 P, q24 P, q7 P, q25 P, q29 P, q7 P, q30 P, q7 P, q8 P, q33 P, q7 P, q34 P, q35 P, q36 P, q37 P, q7 P, q8 P, q38 P, q7 P, q39 P, q40 P, q41 P, q20 P, q42 P, q43 P, q7 P, q44 P, q7 P, q8 P, q45 P, q7 P, q46 P, q47 P, q48 P, q7 P, q8 P, q49 P, q7 P, q50 P, q51 P, q52 P, q7 P, q8 P, q53 P, q7 P, q54 P, q55 P, q56 P, q7 P, q8 P, q57 P, q7 P, q58 P, q59 P, q60 P, q7 P, q8 P, q61 P, q7 P, q62 P, q63 P, q64 P, q7 P, q8 P, q67 P, q7 P, q68 P, q69 P, q70 P, q7 P, q8 P, q71 P, q7 P, q72 P, q73 P, q74 P, q7 P, q8 P, q75 P, q7 P, q76 P, q77 P, q78 P, q7 P, q8 P, q79 P, q7 P, q80 P, q81 P, q82 P, q7 P, q8 P, q83 P, q7 P, q84 P, q85 P, q86 P, q7 P, q8 P, q87 P, q88 P, q89 P, q7 P, q8 P, q90 P, q7 P, q91 P, q92 P, q93 P, q7 P, q8 P, q94 P, q7 P, q95 P, q96 P, q97 P, q7 P, q8 P, q98 P, q99 P, q100 P, q7 P, q8 P, q101 P, q102 P, q103 P]⟩, {}⟩
noncomputable def tf (P : Params) : BT := (.node (q0 P) (.node (q1 P) (.node (q65 P) (.node (q7 P) (.node (q14 P) (.node (q7 P) (.node (q51 P) (.node (q8 P) .nil .nil) .nil) (.node (q71 P) .nil .nil)) (.node (q42 P) (.node (q7 P) (.node (q99 P) .nil .nil) .nil) (.node (q80 P) .nil .nil))) (.node (q20 P) (.node (q7 P) (.node (q56 P) (.node (q94 P) .nil .nil) .nil) (.node (q7 P) .nil .nil)) (.node (q46 P) (.node (q8 P) .nil .nil) (.node (q85 P) .nil .nil)))) (.node (q7 P) (.node (q7 P) (.node (q34 P) (.node (q53 P) (.node (q92 P) .nil .nil) .nil) (.node (q74 P) .nil .nil)) (.node (q7 P) (.node (q62 P) (.node (q101 P) .nil .nil) .nil) (.node (q8 P) .nil .nil))) (.node (q25 P) (.node (q39 P) (.node (q7 P) (.node (q97 P) .nil .nil) .nil) (.node (q7 P) .nil .nil)) (.node (q8 P) (.node (q69 P) .nil .nil) (.node (q87 P) .nil .nil))))) (.node (q5 P) (.node (q9 P) (.node (q16 P) (.node (q33 P) (.node (q7 P) (.node (q7 P) .nil .nil) .nil) (.node (q72 P) .nil .nil)) (.node (q7 P) (.node (q61 P) (.node (q7 P) .nil .nil) .nil) (.node (q82 P) .nil .nil))) (.node (q24 P) (.node (q38 P) (.node (q8 P) (.node (q95 P) .nil .nil) .nil) (.node (q77 P) .nil .nil)) (.node (q48 P) (.node (q7 P) .nil .nil) (.node (q7 P) .nil .nil)))) (.node (q11 P) (.node (q20 P) (.node (q36 P) (.node (q54 P) (.node (q7 P) .nil .nil) .nil) (.node (q8 P) .nil .nil)) (.node (q45 P) (.node (q64 P) (.node (q103 P) .nil .nil) .nil) (.node (q7 P) .nil .nil))) (.node (q7 P) (.node (q41 P) (.node (q59 P) (.node (q8 P) .nil .nil) .nil) (.node (q79 P) .nil .nil)) (.node (q7 P) (.node (q7 P) .nil .nil) (.node (q89 P) .nil .nil)))))) (.node (q2 P) (.node (q4 P) (.node (q8 P) (.node (q15 P) (.node (q8 P) (.node (q52 P) (.node (q90 P) .nil .nil) .nil) (.node (q7 P) .nil .nil)) (.node (q43 P) (.node (q8 P) (.node (q100 P) .nil .nil) .nil) (.node (q81 P) .nil .nil))) (.node (q28 P) (.node (q8 P) (.node (q7 P) (.node (q7 P) .nil .nil) .nil) (.node (q76 P) .nil .nil)) (.node (q47 P) (.node (q67 P) .nil .nil) (.node (q86 P) .nil .nil)))) (.node (q66 P) (.node (q18 P) (.node (q35 P) (.node (q7 P) (.node (q93 P) .nil .nil) .nil) (.node (q7 P) .nil .nil)) (.node (q8 P) (.node (q63 P) (.node (q102 P) .nil .nil) .nil) (.node (q83 P) .nil .nil))) (.node (q29 P) (.node (q40 P) (.node (q58 P) (.node (q7 P) .nil .nil) .nil) (.node (q8 P) .nil .nil)) (.node (q49 P) (.node (q70 P) .nil .nil) (.node (q88 P) .nil .nil))))) (.node (q6 P) (.node (q10 P) (.node (q17 P) (.node (q7 P) (.node (q8 P) (.node (q91 P) .nil .nil) .nil) (.node (q73 P) .nil .nil)) (.node (q44 P) (.node (q7 P) (.node (q8 P) .nil .nil) .nil) (.node (q7 P) .nil .nil))) (.node (q7 P) (.node (q7 P) (.node (q57 P) (.node (q96 P) .nil .nil) .nil) (.node (q78 P) .nil .nil)) (.node (q7 P) (.node (q68 P) .nil .nil) (.node (q8 P) .nil .nil)))) (.node (q12 P) (.node (q26 P) (.node (q37 P) (.node (q55 P) (.node (q8 P) .nil .nil) .nil) (.node (q75 P) .nil .nil)) (.node (q7 P) (.node (q7 P) .nil .nil) (.node (q84 P) .nil .nil))) (.node (q30 P) (.node (q20 P) (.node (q60 P) (.node (q98 P) .nil .nil) .nil) (.node (q7 P) .nil .nil)) (.node (q50 P) (.node (q8 P) .nil .nil) (.node (q7 P) .nil .nil)))))))
noncomputable def hf (P : Params) : Heap := ⟨⟨[q0 P, q1 P, q2 P, q65 P, q4 P, q5 P, q6 P, q7 P, q8 P, q9 P, q10 P, q7 P, q66 P, q11 P, q12 P, q14 P, q15 P, q16 P, q17 P, q7 P, q18 P, q20 P, q26 P, q20 P, q28 P, q24 P, q7 P, q25 P, q29 P, q7 P, q30 P, q7 P, q8 P, q33 P, q7 P, q34 P, q35 P, q36 P, q37 P, q7 P, q8 P, q38 P, q7 P, q39 P, q40 P, q41 P, q20 P, q42 P, q43 P, q7 P, q44 P, q7 P, q8 P, q45 P, q7 P, q46 P, q47 P, q48 P, q7 P, q8 P, q49 P, q7 P, q50 P, q51 P, q52 P, q7 P, q8 P, q53 P, q7 P, q54 P, q55 P, q56 P, q7 P, q8 P, q57 P, q7 P, q58 P, q59 P, q60 P, q7 P, q8 P, q61 P, q7 P, q62 P, q63 P, q64 P, q7 P, q8 P, q67 P, q7 P, q68 P, q69 P, q70 P, q7 P, q8 P, q71 P, q7 P, q72 P, q73 P, q74 P, q7 P, q8 P, q75 P, q7 P, q76 P, q77 P, q78 P, q7 P, q8 P, q79 P, q7 P, q80 P, q81 P, q82 P, q7 P, q8 P, q83 P, q7 P, q84 P, q85 P, q86 P, q7 P, q8 P, q87 P, q88 P, q89 P, q7 P, q8 P, q90 P, q7 P, q91 P, q92 P, q93 P, q7 P, q8 P, q94 P, q7 P, q95 P, q96 P, q97 P, q7 P, q8 P, q98 P, q99 P, q100 P, q7 P, q8 P, q101 P, q102 P, q103 P]⟩, {}⟩
noncomputable def q104 (P : Params) : Obj := ⟨(.type PySem.W.SL.s15992201931430999065x14), none, (.fields ⟨[(.int (Int.ofNat 0) 0), (.int (Int.ofNat 256) 0), (.int (Int.ofNat 1) 0)]⟩), ⟨[]⟩⟩
noncomputable def q105 (P : Params) : Obj := ⟨(.type PySem.W.SL.s9222952809800978799x4), none, (.seq ⟨[]⟩ 0), ⟨[]⟩⟩
noncomputable def tc0 (P : Params) : BT := (.node (q0 P) (.node (q1 P) (.node (q3 P) (.node (q7 P) (.node (q14 P) .nil .nil) .nil) (.node (q7 P) .nil .nil)) (.node (q5 P) (.node (q9 P) (.node (q105 P) .nil .nil) .nil) (.node (q11 P) .nil .nil))) (.node (q2 P) (.node (q4 P) (.node (q8 P) (.node (q104 P) .nil .nil) .nil) (.node (q8 P) .nil .nil)) (.node (q6 P) (.node (q10 P) (.node (q6 P) .nil .nil) .nil) (.node (q12 P) .nil .nil))))
noncomputable def q106 (P : Params) : Obj := ⟨(.type PySem.W.SL.s15992201931430999065x14), none, (.fields ⟨[(.int (Int.ofNat 32) 0), (.int (Int.ofNat 224) 0), (.int (Int.ofNat 1) 0)]⟩), ⟨[]⟩⟩
noncomputable def q107 (P : Params) : Obj := ⟨(.type PySem.W.SL.s9222952809800978799x4), none, (.seq ⟨[(.str (u [61,48,48]) 193), (.str (u [61,48,49]) 197), (.str (u [61,48,50]) 201), (.str (u [61,48,51]) 205), (.str (u [61,48,52]) 209), (.str (u [61,48,53]) 213), (.str (u [61,48,54]) 217), (.str (u [61,48,55]) 221), (.str (u [61,48,56]) 225), (.str (u [61,48,57]) 229), (.str (u [61,48,65]) 233), (.str (u [61,48,66]) 237), (.str (u [61,48,67]) 241), (.str (u [61,48,68]) 245), (.str (u [61,48,69]) 249), (.str (u [61,48,70]) 253), (.str (u [61,49,48]) 257), (.str (u [61,49,49]) 261), (.str (u [61,49,50]) 265), (.str (u [61,49,51]) 269), (.str (u [61,49,52]) 273), (.str (u [61,49,53]) 277), (.str (u [61,49,54]) 281), (.str (u [61,49,55]) 285), (.str (u [61,49,56]) 289), (.str (u [61,49,57]) 293), (.str (u [61,49,65]) 297), (.str (u [61,49,66]) 301), (.str (u [61,49,67]) 305), (.str (u [61,49,68]) 309), (.str (u [61,49,69]) 313), (.str (u [61,49,70]) 317)]⟩ 32), ⟨[]⟩⟩
noncomputable def q108 (P : Params) : Obj := ⟨(.type PySem.W.SL.s14018661285674007319x4), none, (.dict ⟨[en P (u [99]) 191 (.int (Int.ofNat 31) 314)]⟩ 1), ⟨[]⟩⟩
noncomputable def tc1 (P : Params) : BT := (.node (q0 P) (.node (q1 P) (.node (q3 P) (.node (q7 P) (.node (q14 P) .nil .nil) .nil) (.node (q7 P) .nil .nil)) (.node (q5 P) (.node (q9 P) (.node (q107 P) .nil .nil) .nil) (.node (q11 P) .nil .nil))) (.node (q2 P) (.node (q4 P) (.node (q8 P) (.node (q106 P) .nil .nil) .nil) (.node (q8 P) .nil .nil)) (.node (q6 P) (.node (q10 P) (.node (q108 P) .nil .nil) .nil) (.node (q12 P) .nil .nil))))
noncomputable def q109 (P : Params) : Obj := ⟨(.type PySem.W.SL.s15992201931430999065x14), none, (.fields ⟨[(.int (Int.ofNat 64) 0), (.int (Int.ofNat 192) 0), (.int (Int.ofNat 1) 0)]⟩), ⟨[]⟩⟩
noncomputable def q110 (P : Params) : Obj := ⟨(.type PySem.W.SL.s9222952809800978799x4), none, (.seq ⟨[(.str (u [61,48,48]) 193), (.str (u [61,48,49]) 197), (.str (u [61,48,50]) 201), (.str (u [61,48,51]) 205), (.str (u [61,48,52]) 209), (.str (u [61,48,53]) 213), (.str (u [61,48,54]) 217), (.str (u [61,48,55]) 221), (.str (u [61,48,56]) 225), (.str (u [61,48,57]) 229), (.str (u [61,48,65]) 233), (.str (u [61,48,66]) 237), (.str (u [61,48,67]) 241), (.str (u [61,48,68]) 245), (.str (u [61,48,69]) 249), (.str (u [61,48,70]) 253), (.str (u [61,49,48]) 257), (.str (u [61,49,49]) 261), (.str (u [61,49,50]) 265), (.str (u [61,49,51]) 269), (.str (u [61,49,52]) 273), (.str (u [61,49,53]) 277), (.str (u [61,49,54]) 281), (.str (u [61,49,55]) 285), (.str (u [61,49,56]) 289), (.str (u [61,49,57]) 293), (.str (u [61,49,65]) 297), (.str (u [61,49,66]) 301), (.str (u [61,49,67]) 305), (.str (u [61,49,68]) 309), (.str (u [61,49,69]) 313), (.str (u [61,49,70]) 317), (.str (u [61,50,48]) 321), (.str (u [61,50,49]) 325), (.str (u [61,50,50]) 329), (.str (u [61,50,51]) 333), (.str (u [61,50,52]) 337), (.str (u [61,50,53]) 341), (.str (u [61,50,54]) 345), (.str (u [61,50,55]) 349), (.str (u [61,50,56]) 353), (.str (u [61,50,57]) 357), (.str (u [61,50,65]) 361), (.str (u [61,50,66]) 365), (.str (u [61,50,67]) 369), (.str (u [61,50,68]) 373), (.str (u [61,50,69]) 377), (.str (u [61,50,70]) 381), (.str (u [61,51,48]) 385), (.str (u [61,51,49]) 389), (.str (u [61,51,50]) 393), (.str (u [61,51,51]) 397), (.str (u [61,51,52]) 401), (.str (u [61,51,53]) 405), (.str (u [61,51,54]) 409), (.str (u [61,51,55]) 413), (.str (u [61,51,56]) 417), (.str (u [61,51,57]) 421), (.str (u [61,51,65]) 425), (.str (u [61,51,66]) 429), (.str (u [61,51,67]) 433), (.str (u [61,51,68]) 437), (.str (u [61,51,69]) 441), (.str (u [61,51,70]) 445)]⟩ 64), ⟨[]⟩⟩
noncomputable def q111 (P : Params) : Obj := ⟨(.type PySem.W.SL.s14018661285674007319x4), none, (.dict ⟨[en P (u [99]) 191 (.int (Int.ofNat 63) 442)]⟩ 1), ⟨[]⟩⟩
noncomputable def tc2 (P : Params) : BT := (.node (q0 P) (.node (q1 P) (.node (q3 P) (.node (q7 P) (.node (q14 P) .nil .nil) .nil) (.node (q7 P) .nil .nil)) (.node (q5 P) (.node (q9 P) (.node (q110 P) .nil .nil) .nil) (.node (q11 P) .nil .nil))) (.node (q2 P) (.node (q4 P) (.node (q8 P) (.node (q109 P) .nil .nil) .nil) (.node (q8 P) .nil .nil)) (.node (q6 P) (.node (q10 P) (.node (q111 P) .nil .nil) .nil) (.node (q12 P) .nil .nil))))
noncomputable def q112 (P : Params) : Obj := ⟨(.type PySem.W.SL.s15992201931430999065x14), none, (.fields ⟨[(.int (Int.ofNat 96) 0), (.int (Int.ofNat 160) 0), (.int (Int.ofNat 1) 0)]⟩), ⟨[]⟩⟩
noncomputable def q113 (P : Params) : Obj := ⟨(.type PySem.W.SL.s9222952809800978799x4), none, (.seq ⟨[(.str (u [61,48,48]) 193), (.str (u [61,48,49]) 197), (.str (u [61,48,50]) 201), (.str (u [61,48,51]) 205), (.str (u [61,48,52]) 209), (.str (u [61,48,53]) 213), (.str (u [61,48,54]) 217), (.str (u [61,48,55]) 221), (.str (u [61,48,56]) 225), (.str (u [61,48,57]) 229), (.str (u [61,48,65]) 233), (.str (u [61,48,66]) 237), (.str (u [61,48,67]) 241), (.str (u [61,48,68]) 245), (.str (u [61,48,69]) 249), (.str (u [61,48,70]) 253), (.str (u [61,49,48]) 257), (.str (u [61,49,49]) 261), (.str (u [61,49,50]) 265), (.str (u [61,49,51]) 269), (.str (u [61,49,52]) 273), (.str (u [61,49,53]) 277), (.str (u [61,49,54]) 281), (.str (u [61,49,55]) 285), (.str (u [61,49,56]) 289), (.str (u [61,49,57]) 293), (.str (u [61,49,65]) 297), (.str (u [61,49,66]) 301), (.str (u [61,49,67]) 305), (.str (u [61,49,68]) 309), (.str (u [61,49,69]) 313), (.str (u [61,49,70]) 317), (.str (u [61,50,48]) 321), (.str (u [61,50,49]) 325), (.str (u [61,50,50]) 329), (.str (u [61,50,51]) 333), (.str (u [61,50,52]) 337), (.str (u [61,50,53]) 341), (.str (u [61,50,54]) 345), (.str (u [61,50,55]) 349), (.str (u [61,50,56]) 353), (.str (u [61,50,57]) 357), (.str (u [61,50,65]) 361), (.str (u [61,50,66]) 365), (.str (u [61,50,67]) 369), (.str (u [61,50,68]) 373), (.str (u [61,50,69]) 377), (.str (u [61,50,70]) 381), (.str (u [61,51,48]) 385), (.str (u [61,51,49]) 389), (.str (u [61,51,50]) 393), (.str (u [61,51,51]) 397), (.str (u [61,51,52]) 401), (.str (u [61,51,53]) 405), (.str (u [61,51,54]) 409), (.str (u [61,51,55]) 413), (.str (u [61,51,56]) 417), (.str (u [61,51,57]) 421), (.str (u [61,51,65]) 425), (.str (u [61,51,66]) 429), (.str (u [61,51,67]) 433), (.str (u [61,51,68]) 437), (.str (u [61,51,69]) 441), (.str (u [61,51,70]) 445), (.str (u [61,52,48]) 449), (.str (u [61,52,49]) 453), (.str (u [61,52,50]) 457), (.str (u [61,52,51]) 461), (.str (u [61,52,52]) 465), (.str (u [61,52,53]) 469), (.str (u [61,52,54]) 473), (.str (u [61,52,55]) 477), (.str (u [61,52,56]) 481), (.str (u [61,52,57]) 485), (.str (u [61,52,65]) 489), (.str (u [61,52,66]) 493), (.str (u [61,52,67]) 497), (.str (u [61,52,68]) 501), (.str (u [61,52,69]) 505), (.str (u [61,52,70]) 509), (.str (u [61,53,48]) 513), (.str (u [61,53,49]) 517), (.str (u [61,53,50]) 521), (.str (u [61,53,51]) 525), (.str (u [61,53,52]) 529), (.str (u [61,53,53]) 533), (.str (u [61,53,54]) 537), (.str (u [61,53,55]) 541), (.str (u [61,53,56]) 545), (.str (u [61,53,57]) 549), (.str (u [61,53,65]) 553), (.str (u [61,53,66]) 557), (.str (u [61,53,67]) 561), (.str (u [61,53,68]) 565), (.str (u [61,53,69]) 569), (.str (u [61,53,70]) 573)]⟩ 96), ⟨[]⟩⟩
noncomputable def q114 (P : Params) : Obj := ⟨(.type PySem.W.SL.s14018661285674007319x4), none, (.dict ⟨[en P (u [99]) 191 (.int (Int.ofNat 95) 570)]⟩ 1), ⟨[]⟩⟩
noncomputable def tc3 (P : Params) : BT := (.node (q0 P) (.node (q1 P) (.node (q3 P) (.node (q7 P) (.node (q14 P) .nil .nil) .nil) (.node (q7 P) .nil .nil)) (.node (q5 P) (.node (q9 P) (.node (q113 P) .nil .nil) .nil) (.node (q11 P) .nil .nil))) (.node (q2 P) (.node (q4 P) (.node (q8 P) (.node (q112 P) .nil .nil) .nil) (.node (q8 P) .nil .nil)) (.node (q6 P) (.node (q10 P) (.node (q114 P) .nil .nil) .nil) (.node (q12 P) .nil .nil))))
noncomputable def q115 (P : Params) : Obj := ⟨(.type PySem.W.SL.s15992201931430999065x14), none, (.fields ⟨[(.int (Int.ofNat 128) 0), (.int (Int.ofNat 128) 0), (.int (Int.ofNat 1) 0)]⟩), ⟨[]⟩⟩
noncomputable def q116 (P : Params) : Obj := ⟨(.type PySem.W.SL.s9222952809800978799x4), none, (.seq ⟨[(.str (u [61,48,48]) 193), (.str (u [61,48,49]) 197), (.str (u [61,48,50]) 201), (.str (u [61,48,51]) 205), (.str (u [61,48,52]) 209), (.str (u [61,48,53]) 213), (.str (u [61,48,54]) 217), (.str (u [61,48,55]) 221), (.str (u [61,48,56]) 225), (.str (u [61,48,57]) 229), (.str (u [61,48,65]) 233), (.str (u [61,48,66]) 237), (.str (u [61,48,67]) 241), (.str (u [61,48,68]) 245), (.str (u [61,48,69]) 249), (.str (u [61,48,70]) 253), (.str (u [61,49,48]) 257), (.str (u [61,49,49]) 261), (.str (u [61,49,50]) 265), (.str (u [61,49,51]) 269), (.str (u [61,49,52]) 273), (.str (u [61,49,53]) 277), (.str (u [61,49,54]) 281), (.str (u [61,49,55]) 285), (.str (u [61,49,56]) 289), (.str (u [61,49,57]) 293), (.str (u [61,49,65]) 297), (.str (u [61,49,66]) 301), (.str (u [61,49,67]) 305), (.str (u [61,49,68]) 309), (.str (u [61,49,69]) 313), (.str (u [61,49,70]) 317), (.str (u [61,50,48]) 321), (.str (u [61,50,49]) 325), (.str (u [61,50,50]) 329), (.str (u [61,50,51]) 333), (.str (u [61,50,52]) 337), (.str (u [61,50,53]) 341), (.str (u [61,50,54]) 345), (.str (u [61,50,55]) 349), (.str (u [61,50,56]) 353), (.str (u [61,50,57]) 357), (.str (u [61,50,65]) 361), (.str (u [61,50,66]) 365), (.str (u [61,50,67]) 369), (.str (u [61,50,68]) 373), (.str (u [61,50,69]) 377), (.str (u [61,50,70]) 381), (.str (u [61,51,48]) 385), (.str (u [61,51,49]) 389), (.str (u [61,51,50]) 393), (.str (u [61,51,51]) 397), (.str (u [61,51,52]) 401), (.str (u [61,51,53]) 405), (.str (u [61,51,54]) 409), (.str (u [61,51,55]) 413), (.str (u [61,51,56]) 417), (.str (u [61,51,57]) 421), (.str (u [61,51,65]) 425), (.str (u [61,51,66]) 429), (.str (u [61,51,67]) 433), (.str (u [61,51,68]) 437), (.str (u [61,51,69]) 441), (.str (u [61,51,70]) 445), (.str (u [61,52,48]) 449), (.str (u [61,52,49]) 453), (.str (u [61,52,50]) 457), (.str (u [61,52,51]) 461), (.str (u [61,52,52]) 465), (.str (u [61,52,53]) 469), (.str (u [61,52,54]) 473), (.str (u [61,52,55]) 477), (.str (u [61,52,56]) 481), (.str (u [61,52,57]) 485), (.str (u [61,52,65]) 489), (.str (u [61,52,66]) 493), (.str (u [61,52,67]) 497), (.str (u [61,52,68]) 501), (.str (u [61,52,69]) 505), (.str (u [61,52,70]) 509), (.str (u [61,53,48]) 513), (.str (u [61,53,49]) 517), (.str (u [61,53,50]) 521), (.str (u [61,53,51]) 525), (.str (u [61,53,52]) 529), (.str (u [61,53,53]) 533), (.str (u [61,53,54]) 537), (.str (u [61,53,55]) 541), (.str (u [61,53,56]) 545), (.str (u [61,53,57]) 549), (.str (u [61,53,65]) 553), (.str (u [61,53,66]) 557), (.str (u [61,53,67]) 561), (.str (u [61,53,68]) 565), (.str (u [61,53,69]) 569), (.str (u [61,53,70]) 573), (.str (u [61,54,48]) 577), (.str (u [61,54,49]) 581), (.str (u [61,54,50]) 585), (.str (u [61,54,51]) 589), (.str (u [61,54,52]) 593), (.str (u [61,54,53]) 597), (.str (u [61,54,54]) 601), (.str (u [61,54,55]) 605), (.str (u [61,54,56]) 609), (.str (u [61,54,57]) 613), (.str (u [61,54,65]) 617), (.str (u [61,54,66]) 621), (.str (u [61,54,67]) 625), (.str (u [61,54,68]) 629), (.str (u [61,54,69]) 633), (.str (u [61,54,70]) 637), (.str (u [61,55,48]) 641), (.str (u [61,55,49]) 645), (.str (u [61,55,50]) 649), (.str (u [61,55,51]) 653), (.str (u [61,55,52]) 657), (.str (u [61,55,53]) 661), (.str (u [61,55,54]) 665), (.str (u [61,55,55]) 669), (.str (u [61,55,56]) 673), (.str (u [61,55,57]) 677), (.str (u [61,55,65]) 681), (.str (u [61,55,66]) 685), (.str (u [61,55,67]) 689), (.str (u [61,55,68]) 693), (.str (u [61,55,69]) 697), (.str (u [61,55,70]) 701)]⟩ 128), ⟨[]⟩⟩
noncomputable def q117 (P : Params) : Obj := ⟨(.type PySem.W.SL.s14018661285674007319x4), none, (.dict ⟨[en P (u [99]) 191 (.int (Int.ofNat 127) 698)]⟩ 1), ⟨[]⟩⟩
noncomputable def tc4 (P : Params) : BT := (.node (q0 P) (.node (q1 P) (.node (q3 P) (.node (q7 P) (.node (q14 P) .nil .nil) .nil) (.node (q7 P) .nil .nil)) (.node (q5 P) (.node (q9 P) (.node (q116 P) .nil .nil) .nil) (.node (q11 P) .nil .nil))) (.node (q2 P) (.node (q4 P) (.node (q8 P) (.node (q115 P) .nil .nil) .nil) (.node (q8 P) .nil .nil)) (.node (q6 P) (.node (q10 P) (.node (q117 P) .nil .nil) .nil) (.node (q12 P) .nil .nil))))
noncomputable def q118 (P : Params) : Obj := ⟨(.type PySem.W.SL.s15992201931430999065x14), none, (.fields ⟨[(.int (Int.ofNat 160) 0), (.int (Int.ofNat 96) 0), (.int (Int.ofNat 1) 0)]⟩), ⟨[]⟩⟩
noncomputable def q119 (P : Params) : Obj := ⟨(.type PySem.W.SL.s9222952809800978799x4), none, (.seq ⟨[(.str (u [61,48,48]) 193), (.str (u [61,48,49]) 197), (.str (u [61,48,50]) 201), (.str (u [61,48,51]) 205), (.str (u [61,48,52]) 209), (.str (u [61,48,53]) 213), (.str (u [61,48,54]) 217), (.str (u [61,48,55]) 221), (.str (u [61,48,56]) 225), (.str (u [61,48,57]) 229), (.str (u [61,48,65]) 233), (.str (u [61,48,66]) 237), (.str (u [61,48,67]) 241), (.str (u [61,48,68]) 245), (.str (u [61,48,69]) 249), (.str (u [61,48,70]) 253), (.str (u [61,49,48]) 257), (.str (u [61,49,49]) 261), (.str (u [61,49,50]) 265), (.str (u [61,49,51]) 269), (.str (u [61,49,52]) 273), (.str (u [61,49,53]) 277), (.str (u [61,49,54]) 281), (.str (u [61,49,55]) 285), (.str (u [61,49,56]) 289), (.str (u [61,49,57]) 293), (.str (u [61,49,65]) 297), (.str (u [61,49,66]) 301), (.str (u [61,49,67]) 305), (.str (u [61,49,68]) 309), (.str (u [61,49,69]) 313), (.str (u [61,49,70]) 317), (.str (u [61,50,48]) 321), (.str (u [61,50,49]) 325), (.str (u [61,50,50]) 329), (.str (u [61,50,51]) 333), (.str (u [61,50,52]) 337), (.str (u [61,50,53]) 341), (.str (u [61,50,54]) 345), (.str (u [61,50,55]) 349), (.str (u [61,50,56]) 353), (.str (u [61,50,57]) 357), (.str (u [61,50,65]) 361), (.str (u [61,50,66]) 365), (.str (u [61,50,67]) 369), (.str (u [61,50,68]) 373), (.str (u [61,50,69]) 377), (.str (u [61,50,70]) 381), (.str (u [61,51,48]) 385), (.str (u [61,51,49]) 389), (.str (u [61,51,50]) 393), (.str (u [61,51,51]) 397), (.str (u [61,51,52]) 401), (.str (u [61,51,53]) 405), (.str (u [61,51,54]) 409), (.str (u [61,51,55]) 413), (.str (u [61,51,56]) 417), (.str (u [61,51,57]) 421), (.str (u [61,51,65]) 425), (.str (u [61,51,66]) 429), (.str (u [61,51,67]) 433), (.str (u [61,51,68]) 437), (.str (u [61,51,69]) 441), (.str (u [61,51,70]) 445), (.str (u [61,52,48]) 449), (.str (u [61,52,49]) 453), (.str (u [61,52,50]) 457), (.str (u [61,52,51]) 461), (.str (u [61,52,52]) 465), (.str (u [61,52,53]) 469), (.str (u [61,52,54]) 473), (.str (u [61,52,55]) 477), (.str (u [61,52,56]) 481), (.str (u [61,52,57]) 485), (.str (u [61,52,65]) 489), (.str (u [61,52,66]) 493), (.str (u [61,52,67]) 497), (.str (u [61,52,68]) 501), (.str (u [61,52,69]) 505), (.str (u [61,52,70]) 509), (.str (u [61,53,48]) 513), (.str (u [61,53,49]) 517), (.str (u [61,53,50]) 521), (.str (u [61,53,51]) 525), (.str (u [61,53,52]) 529), (.str (u [61,53,53]) 533), (.str (u [61,53,54]) 537), (.str (u [61,53,55]) 541), (.str (u [61,53,56]) 545), (.str (u [61,53,57]) 549), (.str (u [61,53,65]) 553), (.str (u [61,53,66]) 557), (.str (u [61,53,67]) 561), (.str (u [61,53,68]) 565), (.str (u [61,53,69]) 569), (.str (u [61,53,70]) 573), (.str (u [61,54,48]) 577), (.str (u [61,54,49]) 581), (.str (u [61,54,50]) 585), (.str (u [61,54,51]) 589), (.str (u [61,54,52]) 593), (.str (u [61,54,53]) 597), (.str (u [61,54,54]) 601), (.str (u [61,54,55]) 605), (.str (u [61,54,56]) 609), (.str (u [61,54,57]) 613), (.str (u [61,54,65]) 617), (.str (u [61,54,66]) 621), (.str (u [61,54,67]) 625), (.str (u [61,54,68]) 629), (.str (u [61,54,69]) 633), (.str (u [61,54,70]) 637), (.str (u [61,55,48]) 641), (.str (u [61,55,49]) 645), (.str (u [61,55,50]) 649), (.str (u [61,55,51]) 653), (.str (u [61,55,52]) 657), (.str (u [61,55,53]) 661), (.str (u [61,55,54]) 665), (.str (u [61,55,55]) 669), (.str (u [61,55,56]) 673), (.str (u [61,55,57]) 677), (.str (u [61,55,65]) 681), (.str (u [61,55,66]) 685), (.str (u [61,55,67]) 689), (.str (u [61,55,68]) 693), (.str (u [61,55,69]) 697), (.str (u [61,55,70]) 701), (.str (u [61,56,48]) 705), (.str (u [61,56,49]) 709), (.str (u [61,56,50]) 713), (.str (u [61,56,51]) 717), (.str (u [61,56,52]) 721), (.str (u [61,56,53]) 725), (.str (u [61,56,54]) 729), (.str (u [61,56,55]) 733), (.str (u [61,56,56]) 737), (.str (u [61,56,57]) 741), (.str (u [61,56,65]) 745), (.str (u [61,56,66]) 749), (.str (u [61,56,67]) 753), (.str (u [61,56,68]) 757), (.str (u [61,56,69]) 761), (.str (u [61,56,70]) 765), (.str (u [61,57,48]) 769), (.str (u [61,57,49]) 773), (.str (u [61,57,50]) 777), (.str (u [61,57,51]) 781), (.str (u [61,57,52]) 785), (.str (u [61,57,53]) 789), (.str (u [61,57,54]) 793), (.str (u [61,57,55]) 797), (.str (u [61,57,56]) 801), (.str (u [61,57,57]) 805), (.str (u [61,57,65]) 809), (.str (u [61,57,66]) 813), (.str (u [61,57,67]) 817), (.str (u [61,57,68]) 821), (.str (u [61,57,69]) 825), (.str (u [61,57,70]) 829)]⟩ 160), ⟨[]⟩⟩
noncomputable def q120 (P : Params) : Obj := ⟨(.type PySem.W.SL.s14018661285674007319x4), none, (.dict ⟨[en P (u [99]) 191 (.int (Int.ofNat 159) 826)]⟩ 1), ⟨[]⟩⟩
noncomputable def tc5 (P : Params) : BT := (.node (q0 P) (.node (q1 P) (.node (q3 P) (.node (q7 P) (.node (q14 P) .nil .nil) .nil) (.node (q7 P) .nil .nil)) (.node (q5 P) (.node (q9 P) (.node (q119 P) .nil .nil) .nil) (.node (q11 P) .nil .nil))) (.node (q2 P) (.node (q4 P) (.node (q8 P) (.node (q118 P) .nil .nil) .nil) (.node (q8 P) .nil .nil)) (.node (q6 P) (.node (q10 P) (.node (q120 P) .nil .nil) .nil) (.node (q12 P) .nil .nil))))
noncomputable def q121 (P : Params) : Obj := ⟨(.type PySem.W.SL.s15992201931430999065x14), none, (.fields ⟨[(.int (Int.ofNat 192) 0), (.int (Int.ofNat 64) 0), (.int (Int.ofNat 1) 0)]⟩), ⟨[]⟩⟩
noncomputable def q122 (P : Params) : Obj := ⟨(.type PySem.W.SL.s9222952809800978799x4), none, (.seq ⟨[(.str (u [61,48,48]) 193), (.str (u [61,48,49]) 197), (.str (u [61,48,50]) 201), (.str (u [61,48,51]) 205), (.str (u [61,48,52]) 209), (.str (u [61,48,53]) 213), (.str (u [61,48,54]) 217), (.str (u [61,48,55]) 221), (.str (u [61,48,56]) 225), (.str (u [61,48,57]) 229), (.str (u [61,48,65]) 233), (.str (u [61,48,66]) 237), (.str (u [61,48,67]) 241), (.str (u [61,48,68]) 245), (.str (u [61,48,69]) 249), (.str (u [61,48,70]) 253), (.str (u [61,49,48]) 257), (.str (u [61,49,49]) 261), (.str (u [61,49,50]) 265), (.str (u [61,49,51]) 269), (.str (u [61,49,52]) 273), (.str (u [61,49,53]) 277), (.str (u [61,49,54]) 281), (.str (u [61,49,55]) 285), (.str (u [61,49,56]) 289), (.str (u [61,49,57]) 293), (.str (u [61,49,65]) 297), (.str (u [61,49,66]) 301), (.str (u [61,49,67]) 305), (.str (u [61,49,68]) 309), (.str (u [61,49,69]) 313), (.str (u [61,49,70]) 317), (.str (u [61,50,48]) 321), (.str (u [61,50,49]) 325), (.str (u [61,50,50]) 329), (.str (u [61,50,51]) 333), (.str (u [61,50,52]) 337), (.str (u [61,50,53]) 341), (.str (u [61,50,54]) 345), (.str (u [61,50,55]) 349), (.str (u [61,50,56]) 353), (.str (u [61,50,57]) 357), (.str (u [61,50,65]) 361), (.str (u [61,50,66]) 365), (.str (u [61,50,67]) 369), (.str (u [61,50,68]) 373), (.str (u [61,50,69]) 377), (.str (u [61,50,70]) 381), (.str (u [61,51,48]) 385), (.str (u [61,51,49]) 389), (.str (u [61,51,50]) 393), (.str (u [61,51,51]) 397), (.str (u [61,51,52]) 401), (.str (u [61,51,53]) 405), (.str (u [61,51,54]) 409), (.str (u [61,51,55]) 413), (.str (u [61,51,56]) 417), (.str (u [61,51,57]) 421), (.str (u [61,51,65]) 425), (.str (u [61,51,66]) 429), (.str (u [61,51,67]) 433), (.str (u [61,51,68]) 437), (.str (u [61,51,69]) 441), (.str (u [61,51,70]) 445), (.str (u [61,52,48]) 449), (.str (u [61,52,49]) 453), (.str (u [61,52,50]) 457), (.str (u [61,52,51]) 461), (.str (u [61,52,52]) 465), (.str (u [61,52,53]) 469), (.str (u [61,52,54]) 473), (.str (u [61,52,55]) 477), (.str (u [61,52,56]) 481), (.str (u [61,52,57]) 485), (.str (u [61,52,65]) 489), (.str (u [61,52,66]) 493), (.str (u [61,52,67]) 497), (.str (u [61,52,68]) 501), (.str (u [61,52,69]) 505), (.str (u [61,52,70]) 509), (.str (u [61,53,48]) 513), (.str (u [61,53,49]) 517), (.str (u [61,53,50]) 521), (.str (u [61,53,51]) 525), (.str (u [61,53,52]) 529), (.str (u [61,53,53]) 533), (.str (u [61,53,54]) 537), (.str (u [61,53,55]) 541), (.str (u [61,53,56]) 545), (.str (u [61,53,57]) 549), (.str (u [61,53,65]) 553), (.str (u [61,53,66]) 557), (.str (u [61,53,67]) 561), (.str (u [61,53,68]) 565), (.str (u [61,53,69]) 569), (.str (u [61,53,70]) 573), (.str (u [61,54,48]) 577), (.str (u [61,54,49]) 581), (.str (u [61,54,50]) 585), (.str (u [61,54,51]) 589), (.str (u [61,54,52]) 593), (.str (u [61,54,53]) 597), (.str (u [61,54,54]) 601), (.str (u [61,54,55]) 605), (.str (u [61,54,56]) 609), (.str (u [61,54,57]) 613), (.str (u [61,54,65]) 617), (.str (u [61,54,66]) 621), (.str (u [61,54,67]) 625), (.str (u [61,54,68]) 629), (.str (u [61,54,69]) 633), (.str (u [61,54,70]) 637), (.str (u [61,55,48]) 641), (.str (u [61,55,49]) 645), (.str (u [61,55,50]) 649), (.str (u [61,55,51]) 653), (.str (u [61,55,52]) 657), (.str (u [61,55,53]) 661), (.str (u [61,55,54]) 665), (.str (u [61,55,55]) 669), (.str (u [61,55,56]) 673), (.str (u [61,55,57]) 677), (.str (u [61,55,65]) 681), (.str (u [61,55,66]) 685), (.str (u [61,55,67]) 689), (.str (u [61,55,68]) 693), (.str (u [61,55,69]) 697), (.str (u [61,55,70]) 701), (.str (u [61,56,48]) 705), (.str (u [61,56,49]) 709), (.str (u [61,56,50]) 713), (.str (u [61,56,51]) 717), (.str (u [61,56,52]) 721), (.str (u [61,56,53]) 725), (.str (u [61,56,54]) 729), (.str (u [61,56,55]) 733), (.str (u [61,56,56]) 737), (.str (u [61,56,57]) 741), (.str (u [61,56,65]) 745), (.str (u [61,56,66]) 749), (.str (u [61,56,67]) 753), (.str (u [61,56,68]) 757), (.str (u [61,56,69]) 761), (.str (u [61,56,70]) 765), (.str (u [61,57,48]) 769), (.str (u [61,57,49]) 773), (.str (u [61,57,50]) 777), (.str (u [61,57,51]) 781), (.str (u [61,57,52]) 785), (.str (u [61,57,53]) 789), (.str (u [61,57,54]) 793), (.str (u [61,57,55]) 797), (.str (u [61,57,56]) 801), (.str (u [61,57,57]) 805), (.str (u [61,57,65]) 809), (.str (u [61,57,66]) 813), (.str (u [61,57,67]) 817), (.str (u [61,57,68]) 821), (.str (u [61,57,69]) 825), (.str (u [61,57,70]) 829), (.str (u [61,65,48]) 833), (.str (u [61,65,49]) 837), (.str (u [61,65,50]) 841), (.str (u [61,65,51]) 845), (.str (u [61,65,52]) 849), (.str (u [61,65,53]) 853), (.str (u [61,65,54]) 857), (.str (u [61,65,55]) 861), (.str (u [61,65,56]) 865), (.str (u [61,65,57]) 869), (.str (u [61,65,65]) 873), (.str (u [61,65,66]) 877), (.str (u [61,65,67]) 881), (.str (u [61,65,68]) 885), (.str (u [61,65,69]) 889), (.str (u [61,65,70]) 893), (.str (u [61,66,48]) 897), (.str (u [61,66,49]) 901), (.str (u [61,66,50]) 905), (.str (u [61,66,51]) 909), (.str (u [61,66,52]) 913), (.str (u [61,66,53]) 917), (.str (u [61,66,54]) 921), (.str (u [61,66,55]) 925), (.str (u [61,66,56]) 929), (.str (u [61,66,57]) 933), (.str (u [61,66,65]) 937), (.str (u [61,66,66]) 941), (.str (u [61,66,67]) 945), (.str (u [61,66,68]) 949), (.str (u [61,66,69]) 953), (.str (u [61,66,70]) 957)]⟩ 192), ⟨[]⟩⟩
noncomputable def q123 (P : Params) : Obj := ⟨(.type PySem.W.SL.s14018661285674007319x4), none, (.dict ⟨[en P (u [99]) 191 (.int (Int.ofNat 191) 954)]⟩ 1), ⟨[]⟩⟩
noncomputable def tc6 (P : Params) : BT := (.node (q0 P) (.node (q1 P) (.node (q3 P) (.node (q7 P) (.node (q14 P) .nil .nil) .nil) (.node (q7 P) .nil .nil)) (.node (q5 P) (.node (q9 P) (.node (q122 P) .nil .nil) .nil) (.node (q11 P) .nil .nil))) (.node (q2 P) (.node (q4 P) (.node (q8 P) (.node (q121 P) .nil .nil) .nil) (.node (q8 P) .nil .nil)) (.node (q6 P) (.node (q10 P) (.node (q123 P) .nil .nil) .nil) (.node (q12 P) .nil .nil))))
noncomputable def q124 (P : Params) : Obj := ⟨(.type PySem.W.SL.s15992201931430999065x14), none, (.fields ⟨[(.int (Int.ofNat 224) 0), (.int (Int.ofNat 32) 0), (.int (Int.ofNat 1) 0)]⟩), ⟨[]⟩⟩
noncomputable def q125 (P : Params) : Obj := ⟨(.type PySem.W.SL.s9222952809800978799x4), none, (.seq ⟨[(.str (u [61,48,48]) 193), (.str (u [61,48,49]) 197), (.str (u [61,48,50]) 201), (.str (u [61,48,51]) 205), (.str (u [61,48,52]) 209), (.str (u [61,48,53]) 213), (.str (u [61,48,54]) 217), (.str (u [61,48,55]) 221), (.str (u [61,48,56]) 225), (.str (u [61,48,57]) 229), (.str (u [61,48,65]) 233), (.str (u [61,48,66]) 237), (.str (u [61,48,67]) 241), (.str (u [61,48,68]) 245), (.str (u [61,48,69]) 249), (.str (u [61,48,70]) 253), (.str (u [61,49,48]) 257), (.str (u [61,49,49]) 261), (.str (u [61,49,50]) 265), (.str (u [61,49,51]) 269), (.str (u [61,49,52]) 273), (.str (u [61,49,53]) 277), (.str (u [61,49,54]) 281), (.str (u [61,49,55]) 285), (.str (u [61,49,56]) 289), (.str (u [61,49,57]) 293), (.str (u [61,49,65]) 297), (.str (u [61,49,66]) 301), (.str (u [61,49,67]) 305), (.str (u [61,49,68]) 309), (.str (u [61,49,69]) 313), (.str (u [61,49,70]) 317), (.str (u [61,50,48]) 321), (.str (u [61,50,49]) 325), (.str (u [61,50,50]) 329), (.str (u [61,50,51]) 333), (.str (u [61,50,52]) 337), (.str (u [61,50,53]) 341), (.str (u [61,50,54]) 345), (.str (u [61,50,55]) 349), (.str (u [61,50,56]) 353), (.str (u [61,50,57]) 357), (.str (u [61,50,65]) 361), (.str (u [61,50,66]) 365), (.str (u [61,50,67]) 369), (.str (u [61,50,68]) 373), (.str (u [61,50,69]) 377), (.str (u [61,50,70]) 381), (.str (u [61,51,48]) 385), (.str (u [61,51,49]) 389), (.str (u [61,51,50]) 393), (.str (u [61,51,51]) 397), (.str (u [61,51,52]) 401), (.str (u [61,51,53]) 405), (.str (u [61,51,54]) 409), (.str (u [61,51,55]) 413), (.str (u [61,51,56]) 417), (.str (u [61,51,57]) 421), (.str (u [61,51,65]) 425), (.str (u [61,51,66]) 429), (.str (u [61,51,67]) 433), (.str (u [61,51,68]) 437), (.str (u [61,51,69]) 441), (.str (u [61,51,70]) 445), (.str (u [61,52,48]) 449), (.str (u [61,52,49]) 453), (.str (u [61,52,50]) 457), (.str (u [61,52,51]) 461), (.str (u [61,52,52]) 465), (.str (u [61,52,53]) 469), (.str (u [61,52,54]) 473), (.str (u [61,52,55]) 477), (.str (u [61,52,56]) 481), (.str (u [61,52,57]) 485), (.str (u [61,52,65]) 489), (.str (u [61,52,66]) 493), (.str (u [61,52,67]) 497), (.str (u [61,52,68]) 501), (.str (u [61,52,69]) 505), (.str (u [61,52,70]) 509), (.str (u [61,53,48]) 513), (.str (u [61,53,49]) 517), (.str (u [61,53,50]) 521), (.str (u [61,53,51]) 525), (.str (u [61,53,52]) 529), (.str (u [61,53,53]) 533), (.str (u [61,53,54]) 537), (.str (u [61,53,55]) 541), (.str (u [61,53,56]) 545), (.str (u [61,53,57]) 549), (.str (u [61,53,65]) 553), (.str (u [61,53,66]) 557), (.str (u [61,53,67]) 561), (.str (u [61,53,68]) 565), (.str (u [61,53,69]) 569), (.str (u [61,53,70]) 573), (.str (u [61,54,48]) 577), (.str (u [61,54,49]) 581), (.str (u [61,54,50]) 585), (.str (u [61,54,51]) 589), (.str (u [61,54,52]) 593), (.str (u [61,54,53]) 597), (.str (u [61,54,54]) 601), (.str (u [61,54,55]) 605), (.str (u [61,54,56]) 609), (.str (u [61,54,57]) 613), (.str (u [61,54,65]) 617), (.str (u [61,54,66]) 621), (.str (u [61,54,67]) 625), (.str (u [61,54,68]) 629), (.str (u [61,54,69]) 633), (.str (u [61,54,70]) 637), (.str (u [61,55,48]) 641), (.str (u [61,55,49]) 645), (.str (u [61,55,50]) 649), (.str (u [61,55,51]) 653), (.str (u [61,55,52]) 657), (.str (u [61,55,53]) 661), (.str (u [61,55,54]) 665), (.str (u [61,55,55]) 669), (.str (u [61,55,56]) 673), (.str (u [61,55,57]) 677), (.str (u [61,55,65]) 681), (.str (u [61,55,66]) 685), (.str (u [61,55,67]) 689), (.str (u [61,55,68]) 693), (.str (u [61,55,69]) 697), (.str (u [61,55,70]) 701), (.str (u [61,56,48]) 705), (.str (u [61,56,49]) 709), (.str (u [61,56,50]) 713), (.str (u [61,56,51]) 717), (.str (u [61,56,52]) 721), (.str (u [61,56,53]) 725), (.str (u [61,56,54]) 729), (.str (u [61,56,55]) 733), (.str (u [61,56,56]) 737), (.str (u [61,56,57]) 741), (.str (u [61,56,65]) 745), (.str (u [61,56,66]) 749), (.str (u [61,56,67]) 753), (.str (u [61,56,68]) 757), (.str (u [61,56,69]) 761), (.str (u [61,56,70]) 765), (.str (u [61,57,48]) 769), (.str (u [61,57,49]) 773), (.str (u [61,57,50]) 777), (.str (u [61,57,51]) 781), (.str (u [61,57,52]) 785), (.str (u [61,57,53]) 789), (.str (u [61,57,54]) 793), (.str (u [61,57,55]) 797), (.str (u [61,57,56]) 801), (.str (u [61,57,57]) 805), (.str (u [61,57,65]) 809), (.str (u [61,57,66]) 813), (.str (u [61,57,67]) 817), (.str (u [61,57,68]) 821), (.str (u [61,57,69]) 825), (.str (u [61,57,70]) 829), (.str (u [61,65,48]) 833), (.str (u [61,65,49]) 837), (.str (u [61,65,50]) 841), (.str (u [61,65,51]) 845), (.str (u [61,65,52]) 849), (.str (u [61,65,53]) 853), (.str (u [61,65,54]) 857), (.str (u [61,65,55]) 861), (.str (u [61,65,56]) 865), (.str (u [61,65,57]) 869), (.str (u [61,65,65]) 873), (.str (u [61,65,66]) 877), (.str (u [61,65,67]) 881), (.str (u [61,65,68]) 885), (.str (u [61,65,69]) 889), (.str (u [61,65,70]) 893), (.str (u [61,66,48]) 897), (.str (u [61,66,49]) 901), (.str (u [61,66,50]) 905), (.str (u [61,66,51]) 909), (.str (u [61,66,52]) 913), (.str (u [61,66,53]) 917), (.str (u [61,66,54]) 921), (.str (u [61,66,55]) 925), (.str (u [61,66,56]) 929), (.str (u [61,66,57]) 933), (.str (u [61,66,65]) 937), (.str (u [61,66,66]) 941), (.str (u [61,66,67]) 945), (.str (u [61,66,68]) 949), (.str (u [61,66,69]) 953), (.str (u [61,66,70]) 957), (.str (u [61,67,48]) 961), (.str (u [61,67,49]) 965), (.str (u [61,67,50]) 969), (.str (u [61,67,51]) 973), (.str (u [61,67,52]) 977), (.str (u [61,67,53]) 981), (.str (u [61,67,54]) 985), (.str (u [61,67,55]) 989), (.str (u [61,67,56]) 993), (.str (u [61,67,57]) 997), (.str (u [61,67,65]) 1001), (.str (u [61,67,66]) 1005), (.str (u [61,67,67]) 1009), (.str (u [61,67,68]) 1013), (.str (u [61,67,69]) 1017), (.str (u [61,67,70]) 1021), (.str (u [61,68,48]) 1025), (.str (u [61,68,49]) 1029), (.str (u [61,68,50]) 1033), (.str (u [61,68,51]) 1037), (.str (u [61,68,52]) 1041), (.str (u [61,68,53]) 1045), (.str (u [61,68,54]) 1049), (.str (u [61,68,55]) 1053), (.str (u [61,68,56]) 1057), (.str (u [61,68,57]) 1061), (.str (u [61,68,65]) 1065), (.str (u [61,68,66]) 1069), (.str (u [61,68,67]) 1073), (.str (u [61,68,68]) 1077), (.str (u [61,68,69]) 1081), (.str (u [61,68,70]) 1085)]⟩ 224), ⟨[]⟩⟩
noncomputable def q126 (P : Params) : Obj := ⟨(.type PySem.W.SL.s14018661285674007319x4), none, (.dict ⟨[en P (u [99]) 191 (.int (Int.ofNat 223) 1082)]⟩ 1), ⟨[]⟩⟩
noncomputable def tc7 (P : Params) : BT := (.node (q0 P) (.node (q1 P) (.node (q3 P) (.node (q7 P) (.node (q14 P) .nil .nil) .nil) (.node (q7 P) .nil .nil)) (.node (q5 P) (.node (q9 P) (.node (q125 P) .nil .nil) .nil) (.node (q11 P) .nil .nil))) (.node (q2 P) (.node (q4 P) (.node (q8 P) (.node (q124 P) .nil .nil) .nil) (.node (q8 P) .nil .nil)) (.node (q6 P) (.node (q10 P) (.node (q126 P) .nil .nil) .nil) (.node (q12 P) .nil .nil))))
noncomputable def q127 (P : Params) : Obj := ⟨(.type PySem.W.SL.s14018661285674007319x4), none, (.dict ⟨[en P (u [99]) 191 (.int (Int.ofNat 255) 1210)]⟩ 1), ⟨[]⟩⟩
noncomputable def tc8 (P : Params) : BT := (.node (q0 P) (.node (q1 P) (.node (q3 P) (.node (q7 P) (.node (q14 P) .nil .nil) .nil) (.node (q7 P) .nil .nil)) (.node (q5 P) (.node (q9 P) (.node (q16 P) .nil .nil) .nil) (.node (q11 P) .nil .nil))) (.node (q2 P) (.node (q4 P) (.node (q8 P) (.node (q15 P) .nil .nil) .nil) (.node (q8 P) .nil .nil)) (.node (q6 P) (.node (q10 P) (.node (q127 P) .nil .nil) .nil) (.node (q12 P) .nil .nil))))
noncomputable def q128 (P : Params) : Obj := ⟨(.type PySem.W.SL.s14018661285674007319x4), none, (.dict ⟨[en P (u [95,95,110,97,109,101,95,95]) 165 (.str (u [99,112,121,51,49,51,46,101,109,97,105,108,46,113,117,111,112,114,105,109,105,109,101]) 1225), en P (u [95,95,100,111,99,95,95]) 166 z, en P (u [95,95,112,97,99,107,97,103,101,95,95]) 167 z, en P (u [95,95,108,111,97,100,101,114,95,95]) 168 (.builtin PySem.W.SL.s7097527257260152453x26), en P (u [95,95,115,112,101,99,95,95]) 169 z, en P (u [95,95,97,110,110,111,116,97,116,105,111,110,115,95,95]) 170 (.ref 6), en P (u [95,95,98,117,105,108,116,105,110,115,95,95]) 171 (.ref 4), en P (u [95,95,102,105,108,101,95,95]) 173 (.str (u [47,99,108,97,105,109,47,99,117,116,46,112,121]) 172), en P (u [95,95,99,97,99,104,101,100,95,95]) 174 z, en P (u [95,81,85,79,80,82,73,95,77,65,80]) 1214 (.ref 17), en P (u [95,81,85,79,80,82,73,95,72,69,65,68,69,82,95,77,65,80]) 1215 (.ref 22), en P (u [95,81,85,79,80,82,73,95,66,79,68,89,95,77,65,80]) 1216 (.ref 24), en P (u [97,115,99,105,105,95,108,111,119,101,114,99,97,115,101]) 1218 (.str (u [97,98,99,100,101,102,103,104,105,106,107,108,109,110,111,112,113,114,115,116,117,118,119,120,121,122]) 1217), en P (u [97,115,99,105,105,95,117,112,112,101,114,99,97,115,101]) 1220 (.str (u [65,66,67,68,69,70,71,72,73,74,75,76,77,78,79,80,81,82,83,84,85,86,87,88,89,90]) 1219), en P (u [97,115,99,105,105,95,108,101,116,116,101,114,115]) 1222 (.str (u [97,98,99,100,101,102,103,104,105,106,107,108,109,110,111,112,113,114,115,116,117,118,119,120,121,122,65,66,67,68,69,70,71,72,73,74,75,76,77,78,79,80,81,82,83,84,85,86,87,88,89,90]) 1221), en P (u [100,105,103,105,116,115]) 1224 (.str (u [48,49,50,51,52,53,54,55,56,57]) 1223), en P (u [99]) 1235 (.int (Int.ofNat 45) 1234)]⟩ 17), ⟨[]⟩⟩
noncomputable def q129 (P : Params) : Obj := ⟨(.type PySem.W.SL.s9222952809800978799x4), none, (.seq ⟨[(.str (u [61,48,48]) 193), (.str (u [61,48,49]) 197), (.str (u [61,48,50]) 201), (.str (u [61,48,51]) 205), (.str (u [61,48,52]) 209), (.str (u [61,48,53]) 213), (.str (u [61,48,54]) 217), (.str (u [61,48,55]) 221), (.str (u [61,48,56]) 225), (.str (u [61,48,57]) 229), (.str (u [61,48,65]) 233), (.str (u [61,48,66]) 237), (.str (u [61,48,67]) 241), (.str (u [61,48,68]) 245), (.str (u [61,48,69]) 249), (.str (u [61,48,70]) 253), (.str (u [61,49,48]) 257), (.str (u [61,49,49]) 261), (.str (u [61,49,50]) 265), (.str (u [61,49,51]) 269), (.str (u [61,49,52]) 273), (.str (u [61,49,53]) 277), (.str (u [61,49,54]) 281), (.str (u [61,49,55]) 285), (.str (u [61,49,56]) 289), (.str (u [61,49,57]) 293), (.str (u [61,49,65]) 297), (.str (u [61,49,66]) 301), (.str (u [61,49,67]) 305), (.str (u [61,49,68]) 309), (.str (u [61,49,69]) 313), (.str (u [61,49,70]) 317), (.str (u [61,50,48]) 321), (.str (u [61,50,49]) 325), (.str (u [61,50,50]) 329), (.str (u [61,50,51]) 333), (.str (u [61,50,52]) 337), (.str (u [61,50,53]) 341), (.str (u [61,50,54]) 345), (.str (u [61,50,55]) 349), (.str (u [61,50,56]) 353), (.str (u [61,50,57]) 357), (.str (u [61,50,65]) 361), (.str (u [61,50,66]) 365), (.str (u [61,50,67]) 369), (.str (u [45]) 1236), (.str (u [61,50,69]) 377), (.str (u [61,50,70]) 381), (.str (u [61,51,48]) 385), (.str (u [61,51,49]) 389), (.str (u [61,51,50]) 393), (.str (u [61,51,51]) 397), (.str (u [61,51,52]) 401), (.str (u [61,51,53]) 405), (.str (u [61,51,54]) 409), (.str (u [61,51,55]) 413), (.str (u [61,51,56]) 417), (.str (u [61,51,57]) 421), (.str (u [61,51,65]) 425), (.str (u [61,51,66]) 429), (.str (u [61,51,67]) 433), (.str (u [61,51,68]) 437), (.str (u [61,51,69]) 441), (.str (u [61,51,70]) 445), (.str (u [61,52,48]) 449), (.str (u [61,52,49]) 453), (.str (u [61,52,50]) 457), (.str (u [61,52,51]) 461), (.str (u [61,52,52]) 465), (.str (u [61,52,53]) 469), (.str (u [61,52,54]) 473), (.str (u [61,52,55]) 477), (.str (u [61,52,56]) 481), (.str (u [61,52,57]) 485), (.str (u [61,52,65]) 489), (.str (u [61,52,66]) 493), (.str (u [61,52,67]) 497), (.str (u [61,52,68]) 501), (.str (u [61,52,69]) 505), (.str (u [61,52,70]) 509), (.str (u [61,53,48]) 513), (.str (u [61,53,49]) 517), (.str (u [61,53,50]) 521), (.str (u [61,53,51]) 525), (.str (u [61,53,52]) 529), (.str (u [61,53,53]) 533), (.str (u [61,53,54]) 537), (.str (u [61,53,55]) 541), (.str (u [61,53,56]) 545), (.str (u [61,53,57]) 549), (.str (u [61,53,65]) 553), (.str (u [61,53,66]) 557), (.str (u [61,53,67]) 561), (.str (u [61,53,68]) 565), (.str (u [61,53,69]) 569), (.str (u [61,53,70]) 573), (.str (u [61,54,48]) 577), (.str (u [61,54,49]) 581), (.str (u [61,54,50]) 585), (.str (u [61,54,51]) 589), (.str (u [61,54,52]) 593), (.str (u [61,54,53]) 597), (.str (u [61,54,54]) 601), (.str (u [61,54,55]) 605), (.str (u [61,54,56]) 609), (.str (u [61,54,57]) 613), (.str (u [61,54,65]) 617), (.str (u [61,54,66]) 621), (.str (u [61,54,67]) 625), (.str (u [61,54,68]) 629), (.str (u [61,54,69]) 633), (.str (u [61,54,70]) 637), (.str (u [61,55,48]) 641), (.str (u [61,55,49]) 645), (.str (u [61,55,50]) 649), (.str (u [61,55,51]) 653), (.str (u [61,55,52]) 657), (.str (u [61,55,53]) 661), (.str (u [61,55,54]) 665), (.str (u [61,55,55]) 669), (.str (u [61,55,56]) 673), (.str (u [61,55,57]) 677), (.str (u [61,55,65]) 681), (.str (u [61,55,66]) 685), (.str (u [61,55,67]) 689), (.str (u [61,55,68]) 693), (.str (u [61,55,69]) 697), (.str (u [61,55,70]) 701), (.str (u [61,56,48]) 705), (.str (u [61,56,49]) 709), (.str (u [61,56,50]) 713), (.str (u [61,56,51]) 717), (.str (u [61,56,52]) 721), (.str (u [61,56,53]) 725), (.str (u [61,56,54]) 729), (.str (u [61,56,55]) 733), (.str (u [61,56,56]) 737), (.str (u [61,56,57]) 741), (.str (u [61,56,65]) 745), (.str (u [61,56,66]) 749), (.str (u [61,56,67]) 753), (.str (u [61,56,68]) 757), (.str (u [61,56,69]) 761), (.str (u [61,56,70]) 765), (.str (u [61,57,48]) 769), (.str (u [61,57,49]) 773), (.str (u [61,57,50]) 777), (.str (u [61,57,51]) 781), (.str (u [61,57,52]) 785), (.str (u [61,57,53]) 789), (.str (u [61,57,54]) 793), (.str (u [61,57,55]) 797), (.str (u [61,57,56]) 801), (.str (u [61,57,57]) 805), (.str (u [61,57,65]) 809), (.str (u [61,57,66]) 813), (.str (u [61,57,67]) 817), (.str (u [61,57,68]) 821), (.str (u [61,57,69]) 825), (.str (u [61,57,70]) 829), (.str (u [61,65,48]) 833), (.str (u [61,65,49]) 837), (.str (u [61,65,50]) 841), (.str (u [61,65,51]) 845), (.str (u [61,65,52]) 849), (.str (u [61,65,53]) 853), (.str (u [61,65,54]) 857), (.str (u [61,65,55]) 861), (.str (u [61,65,56]) 865), (.str (u [61,65,57]) 869), (.str (u [61,65,65]) 873), (.str (u [61,65,66]) 877), (.str (u [61,65,67]) 881), (.str (u [61,65,68]) 885), (.str (u [61,65,69]) 889), (.str (u [61,65,70]) 893), (.str (u [61,66,48]) 897), (.str (u [61,66,49]) 901), (.str (u [61,66,50]) 905), (.str (u [61,66,51]) 909), (.str (u [61,66,52]) 913), (.str (u [61,66,53]) 917), (.str (u [61,66,54]) 921), (.str (u [61,66,55]) 925), (.str (u [61,66,56]) 929), (.str (u [61,66,57]) 933), (.str (u [61,66,65]) 937), (.str (u [61,66,66]) 941), (.str (u [61,66,67]) 945), (.str (u [61,66,68]) 949), (.str (u [61,66,69]) 953), (.str (u [61,66,70]) 957), (.str (u [61,67,48]) 961), (.str (u [61,67,49]) 965), (.str (u [61,67,50]) 969), (.str (u [61,67,51]) 973), (.str (u [61,67,52]) 977), (.str (u [61,67,53]) 981), (.str (u [61,67,54]) 985), (.str (u [61,67,55]) 989), (.str (u [61,67,56]) 993), (.str (u [61,67,57]) 997), (.str (u [61,67,65]) 1001), (.str (u [61,67,66]) 1005), (.str (u [61,67,67]) 1009), (.str (u [61,67,68]) 1013), (.str (u [61,67,69]) 1017), (.str (u [61,67,70]) 1021), (.str (u [61,68,48]) 1025), (.str (u [61,68,49]) 1029), (.str (u [61,68,50]) 1033), (.str (u [61,68,51]) 1037), (.str (u [61,68,52]) 1041), (.str (u [61,68,53]) 1045), (.str (u [61,68,54]) 1049), (.str (u [61,68,55]) 1053), (.str (u [61,68,56]) 1057), (.str (u [61,68,57]) 1061), (.str (u [61,68,65]) 1065), (.str (u [61,68,66]) 1069), (.str (u [61,68,67]) 1073), (.str (u [61,68,68]) 1077), (.str (u [61,68,69]) 1081), (.str (u [61,68,70]) 1085), (.str (u [61,69,48]) 1089), (.str (u [61,69,49]) 1093), (.str (u [61,69,50]) 1097), (.str (u [61,69,51]) 1101), (.str (u [61,69,52]) 1105), (.str (u [61,69,53]) 1109), (.str (u [61,69,54]) 1113), (.str (u [61,69,55]) 1117), (.str (u [61,69,56]) 1121), (.str (u [61,69,57]) 1125), (.str (u [61,69,65]) 1129), (.str (u [61,69,66]) 1133), (.str (u [61,69,67]) 1137), (.str (u [61,69,68]) 1141), (.str (u [61,69,69]) 1145), (.str (u [61,69,70]) 1149), (.str (u [61,70,48]) 1153), (.str (u [61,70,49]) 1157), (.str (u [61,70,50]) 1161), (.str (u [61,70,51]) 1165), (.str (u [61,70,52]) 1169), (.str (u [61,70,53]) 1173), (.str (u [61,70,54]) 1177), (.str (u [61,70,55]) 1181), (.str (u [61,70,56]) 1185), (.str (u [61,70,57]) 1189), (.str (u [61,70,65]) 1193), (.str (u [61,70,66]) 1197), (.str (u [61,70,67]) 1201), (.str (u [61,70,68]) 1205), (.str (u [61,70,69]) 1209), (.str (u [61,70,70]) 1213)]⟩ 0), ⟨[]⟩⟩
noncomputable def q130 (P : Params) : Obj := ⟨(.type PySem.W.SL.s1378417608194177226x14), none, (.fields ⟨[(.bytes ⟨[45,33,42,43,47,97,98,99,100,101,102,103,104,105,106,107,108,109,110,111,112,113,114,115,116,117,118,119,120,121,122,65,66,67,68,69,70,71,72,73,74,75,76,77,78,79,80,81,82,83,84,85,86,87,88,89,90,48,49,50,51,52,53,54,55,56,57]⟩ 1233), (.int (Int.ofNat 1) 0)]⟩), ⟨[]⟩⟩
noncomputable def td0 (P : Params) : BT := (.node (q0 P) (.node (q1 P) (.node (q128 P) (.node (q7 P) (.node (q14 P) .nil .nil) (.node (q20 P) .nil .nil)) (.node (q7 P) (.node (q7 P) .nil .nil) .nil)) (.node (q5 P) (.node (q9 P) (.node (q16 P) .nil .nil) (.node (q130 P) .nil .nil)) (.node (q11 P) (.node (q20 P) .nil .nil) .nil))) (.node (q2 P) (.node (q4 P) (.node (q8 P) (.node (q15 P) .nil .nil) (.node (q21 P) .nil .nil)) (.node (q8 P) (.node (q18 P) .nil .nil) .nil)) (.node (q6 P) (.node (q10 P) (.node (q17 P) .nil .nil) .nil) (.node (q12 P) (.node (q129 P) .nil .nil) .nil))))
noncomputable def q131 (P : Params) : Obj := ⟨(.type PySem.W.SL.s14018661285674007319x4), none, (.dict ⟨[en P (u [95,95,110,97,109,101,95,95]) 165 (.str (u [99,112,121,51,49,51,46,101,109,97,105,108,46,113,117,111,112,114,105,109,105,109,101]) 1225), en P (u [95,95,100,111,99,95,95]) 166 z, en P (u [95,95,112,97,99,107,97,103,101,95,95]) 167 z, en P (u [95,95,108,111,97,100,101,114,95,95]) 168 (.builtin PySem.W.SL.s7097527257260152453x26), en P (u [95,95,115,112,101,99,95,95]) 169 z, en P (u [95,95,97,110,110,111,116,97,116,105,111,110,115,95,95]) 170 (.ref 6), en P (u [95,95,98,117,105,108,116,105,110,115,95,95]) 171 (.ref 4), en P (u [95,95,102,105,108,101,95,95]) 173 (.str (u [47,99,108,97,105,109,47,99,117,116,46,112,121]) 172), en P (u [95,95,99,97,99,104,101,100,95,95]) 174 z, en P (u [95,81,85,79,80,82,73,95,77,65,80]) 1214 (.ref 17), en P (u [95,81,85,79,80,82,73,95,72,69,65,68,69,82,95,77,65,80]) 1215 (.ref 22), en P (u [95,81,85,79,80,82,73,95,66,79,68,89,95,77,65,80]) 1216 (.ref 24), en P (u [97,115,99,105,105,95,108,111,119,101,114,99,97,115,101]) 1218 (.str (u [97,98,99,100,101,102,103,104,105,106,107,108,109,110,111,112,113,114,115,116,117,118,119,120,121,122]) 1217), en P (u [97,115,99,105,105,95,117,112,112,101,114,99,97,115,101]) 1220 (.str (u [65,66,67,68,69,70,71,72,73,74,75,76,77,78,79,80,81,82,83,84,85,86,87,88,89,90]) 1219), en P (u [97,115,99,105,105,95,108,101,116,116,101,114,115]) 1222 (.str (u [97,98,99,100,101,102,103,104,105,106,107,108,109,110,111,112,113,114,115,116,117,118,119,120,121,122,65,66,67,68,69,70,71,72,73,74,75,76,77,78,79,80,81,82,83,84,85,86,87,88,89,90]) 1221), en P (u [100,105,103,105,116,115]) 1224 (.str (u [48,49,50,51,52,53,54,55,56,57]) 1223), en P (u [99]) 1235 (.int (Int.ofNat 114) 1300)]⟩ 17), ⟨[]⟩⟩
noncomputable def q132 (P : Params) : Obj := ⟨(.type PySem.W.SL.s9222952809800978799x4), none, (.seq ⟨[(.str (u [61,48,48]) 193), (.str (u [61,48,49]) 197), (.str (u [61,48,50]) 201), (.str (u [61,48,51]) 205), (.str (u [61,48,52]) 209), (.str (u [61,48,53]) 213), (.str (u [61,48,54]) 217), (.str (u [61,48,55]) 221), (.str (u [61,48,56]) 225), (.str (u [61,48,57]) 229), (.str (u [61,48,65]) 233), (.str (u [61,48,66]) 237), (.str (u [61,48,67]) 241), (.str (u [61,48,68]) 245), (.str (u [61,48,69]) 249), (.str (u [61,48,70]) 253), (.str (u [61,49,48]) 257), (.str (u [61,49,49]) 261), (.str (u [61,49,50]) 265), (.str (u [61,49,51]) 269), (.str (u [61,49,52]) 273), (.str (u [61,49,53]) 277), (.str (u [61,49,54]) 281), (.str (u [61,49,55]) 285), (.str (u [61,49,56]) 289), (.str (u [61,49,57]) 293), (.str (u [61,49,65]) 297), (.str (u [61,49,66]) 301), (.str (u [61,49,67]) 305), (.str (u [61,49,68]) 309), (.str (u [61,49,69]) 313), (.str (u [61,49,70]) 317), (.str (u [61,50,48]) 321), (.str (u [33]) 1239), (.str (u [61,50,50]) 329), (.str (u [61,50,51]) 333), (.str (u [61,50,52]) 337), (.str (u [61,50,53]) 341), (.str (u [61,50,54]) 345), (.str (u [61,50,55]) 349), (.str (u [61,50,56]) 353), (.str (u [61,50,57]) 357), (.str (u [42]) 1242), (.str (u [43]) 1245), (.str (u [61,50,67]) 369), (.str (u [45]) 1236), (.str (u [61,50,69]) 377), (.str (u [47]) 1248), (.str (u [61,51,48]) 385), (.str (u [61,51,49]) 389), (.str (u [61,51,50]) 393), (.str (u [61,51,51]) 397), (.str (u [61,51,52]) 401), (.str (u [61,51,53]) 405), (.str (u [61,51,54]) 409), (.str (u [61,51,55]) 413), (.str (u [61,51,56]) 417), (.str (u [61,51,57]) 421), (.str (u [61,51,65]) 425), (.str (u [61,51,66]) 429), (.str (u [61,51,67]) 433), (.str (u [61,51,68]) 437), (.str (u [61,51,69]) 441), (.str (u [61,51,70]) 445), (.str (u [61,52,48]) 449), (.str (u [61,52,49]) 453), (.str (u [61,52,50]) 457), (.str (u [61,52,51]) 461), (.str (u [61,52,52]) 465), (.str (u [61,52,53]) 469), (.str (u [61,52,54]) 473), (.str (u [61,52,55]) 477), (.str (u [61,52,56]) 481), (.str (u [61,52,57]) 485), (.str (u [61,52,65]) 489), (.str (u [61,52,66]) 493), (.str (u [61,52,67]) 497), (.str (u [61,52,68]) 501), (.str (u [61,52,69]) 505), (.str (u [61,52,70]) 509), (.str (u [61,53,48]) 513), (.str (u [61,53,49]) 517), (.str (u [61,53,50]) 521), (.str (u [61,53,51]) 525), (.str (u [61,53,52]) 529), (.str (u [61,53,53]) 533), (.str (u [61,53,54]) 537), (.str (u [61,53,55]) 541), (.str (u [61,53,56]) 545), (.str (u [61,53,57]) 549), (.str (u [61,53,65]) 553), (.str (u [61,53,66]) 557), (.str (u [61,53,67]) 561), (.str (u [61,53,68]) 565), (.str (u [61,53,69]) 569), (.str (u [61,53,70]) 573), (.str (u [61,54,48]) 577), (.str (u [97]) 1251), (.str (u [98]) 1254), (.str (u [99]) 1257), (.str (u [100]) 1260), (.str (u [101]) 1263), (.str (u [102]) 1266), (.str (u [103]) 1269), (.str (u [104]) 1272), (.str (u [105]) 1275), (.str (u [106]) 1278), (.str (u [107]) 1281), (.str (u [108]) 1284), (.str (u [109]) 1287), (.str (u [110]) 1290), (.str (u [111]) 1293), (.str (u [112]) 1296), (.str (u [113]) 1299), (.str (u [114]) 1302), (.str (u [61,55,51]) 653), (.str (u [61,55,52]) 657), (.str (u [61,55,53]) 661), (.str (u [61,55,54]) 665), (.str (u [61,55,55]) 669), (.str (u [61,55,56]) 673), (.str (u [61,55,57]) 677), (.str (u [61,55,65]) 681), (.str (u [61,55,66]) 685), (.str (u [61,55,67]) 689), (.str (u [61,55,68]) 693), (.str (u [61,55,69]) 697), (.str (u [61,55,70]) 701), (.str (u [61,56,48]) 705), (.str (u [61,56,49]) 709), (.str (u [61,56,50]) 713), (.str (u [61,56,51]) 717), (.str (u [61,56,52]) 721), (.str (u [61,56,53]) 725), (.str (u [61,56,54]) 729), (.str (u [61,56,55]) 733), (.str (u [61,56,56]) 737), (.str (u [61,56,57]) 741), (.str (u [61,56,65]) 745), (.str (u [61,56,66]) 749), (.str (u [61,56,67]) 753), (.str (u [61,56,68]) 757), (.str (u [61,56,69]) 761), (.str (u [61,56,70]) 765), (.str (u [61,57,48]) 769), (.str (u [61,57,49]) 773), (.str (u [61,57,50]) 777), (.str (u [61,57,51]) 781), (.str (u [61,57,52]) 785), (.str (u [61,57,53]) 789), (.str (u [61,57,54]) 793), (.str (u [61,57,55]) 797), (.str (u [61,57,56]) 801), (.str (u [61,57,57]) 805), (.str (u [61,57,65]) 809), (.str (u [61,57,66]) 813), (.str (u [61,57,67]) 817), (.str (u [61,57,68]) 821), (.str (u [61,57,69]) 825), (.str (u [61,57,70]) 829), (.str (u [61,65,48]) 833), (.str (u [61,65,49]) 837), (.str (u [61,65,50]) 841), (.str (u [61,65,51]) 845), (.str (u [61,65,52]) 849), (.str (u [61,65,53]) 853), (.str (u [61,65,54]) 857), (.str (u [61,65,55]) 861), (.str (u [61,65,56]) 865), (.str (u [61,65,57]) 869), (.str (u [61,65,65]) 873), (.str (u [61,65,66]) 877), (.str (u [61,65,67]) 881), (.str (u [61,65,68]) 885), (.str (u [61,65,69]) 889), (.str (u [61,65,70]) 893), (.str (u [61,66,48]) 897), (.str (u [61,66,49]) 901), (.str (u [61,66,50]) 905), (.str (u [61,66,51]) 909), (.str (u [61,66,52]) 913), (.str (u [61,66,53]) 917), (.str (u [61,66,54]) 921), (.str (u [61,66,55]) 925), (.str (u [61,66,56]) 929), (.str (u [61,66,57]) 933), (.str (u [61,66,65]) 937), (.str (u [61,66,66]) 941), (.str (u [61,66,67]) 945), (.str (u [61,66,68]) 949), (.str (u [61,66,69]) 953), (.str (u [61,66,70]) 957), (.str (u [61,67,48]) 961), (.str (u [61,67,49]) 965), (.str (u [61,67,50]) 969), (.str (u [61,67,51]) 973), (.str (u [61,67,52]) 977), (.str (u [61,67,53]) 981), (.str (u [61,67,54]) 985), (.str (u [61,67,55]) 989), (.str (u [61,67,56]) 993), (.str (u [61,67,57]) 997), (.str (u [61,67,65]) 1001), (.str (u [61,67,66]) 1005), (.str (u [61,67,67]) 1009), (.str (u [61,67,68]) 1013), (.str (u [61,67,69]) 1017), (.str (u [61,67,70]) 1021), (.str (u [61,68,48]) 1025), (.str (u [61,68,49]) 1029), (.str (u [61,68,50]) 1033), (.str (u [61,68,51]) 1037), (.str (u [61,68,52]) 1041), (.str (u [61,68,53]) 1045), (.str (u [61,68,54]) 1049), (.str (u [61,68,55]) 1053), (.str (u [61,68,56]) 1057), (.str (u [61,68,57]) 1061), (.str (u [61,68,65]) 1065), (.str (u [61,68,66]) 1069), (.str (u [61,68,67]) 1073), (.str (u [61,68,68]) 1077), (.str (u [61,68,69]) 1081), (.str (u [61,68,70]) 1085), (.str (u [61,69,48]) 1089), (.str (u [61,69,49]) 1093), (.str (u [61,69,50]) 1097), (.str (u [61,69,51]) 1101), (.str (u [61,69,52]) 1105), (.str (u [61,69,53]) 1109), (.str (u [61,69,54]) 1113), (.str (u [61,69,55]) 1117), (.str (u [61,69,56]) 1121), (.str (u [61,69,57]) 1125), (.str (u [61,69,65]) 1129), (.str (u [61,69,66]) 1133), (.str (u [61,69,67]) 1137), (.str (u [61,69,68]) 1141), (.str (u [61,69,69]) 1145), (.str (u [61,69,70]) 1149), (.str (u [61,70,48]) 1153), (.str (u [61,70,49]) 1157), (.str (u [61,70,50]) 1161), (.str (u [61,70,51]) 1165), (.str (u [61,70,52]) 1169), (.str (u [61,70,53]) 1173), (.str (u [61,70,54]) 1177), (.str (u [61,70,55]) 1181), (.str (u [61,70,56]) 1185), (.str (u [61,70,57]) 1189), (.str (u [61,70,65]) 1193), (.str (u [61,70,66]) 1197), (.str (u [61,70,67]) 1201), (.str (u [61,70,68]) 1205), (.str (u [61,70,69]) 1209), (.str (u [61,70,70]) 1213)]⟩ 0), ⟨[]⟩⟩
noncomputable def q133 (P : Params) : Obj := ⟨(.type PySem.W.SL.s1378417608194177226x14), none, (.fields ⟨[(.bytes ⟨[45,33,42,43,47,97,98,99,100,101,102,103,104,105,106,107,108,109,110,111,112,113,114,115,116,117,118,119,120,121,122,65,66,67,68,69,70,71,72,73,74,75,76,77,78,79,80,81,82,83,84,85,86,87,88,89,90,48,49,50,51,52,53,54,55,56,57]⟩ 1233), (.int (Int.ofNat 23) 0)]⟩), ⟨[]⟩⟩
noncomputable def td1 (P : Params) : BT := (.node (q0 P) (.node (q1 P) (.node (q131 P) (.node (q7 P) (.node (q14 P) .nil .nil) (.node (q20 P) .nil .nil)) (.node (q7 P) (.node (q7 P) .nil .nil) .nil)) (.node (q5 P) (.node (q9 P) (.node (q16 P) .nil .nil) (.node (q133 P) .nil .nil)) (.node (q11 P) (.node (q20 P) .nil .nil) .nil))) (.node (q2 P) (.node (q4 P) (.node (q8 P) (.node (q15 P) .nil .nil) (.node (q21 P) .nil .nil)) (.node (q8 P) (.node (q18 P) .nil .nil) .nil)) (.node (q6 P) (.node (q10 P) (.node (q17 P) .nil .nil) .nil) (.node (q12 P) (.node (q132 P) .nil .nil) .nil))))
noncomputable def q134 (P : Params) : Obj := ⟨(.type PySem.W.SL.s14018661285674007319x4), none, (.dict ⟨[en P (u [95,95,110,97,109,101,95,95]) 165 (.str (u [99,112,121,51,49,51,46,101,109,97,105,108,46,113,117,111,112,114,105,109,105,109,101]) 1225), en P (u [95,95,100,111,99,95,95]) 166 z, en P (u [95,95,112,97,99,107,97,103,101,95,95]) 167 z, en P (u [95,95,108,111,97,100,101,114,95,95]) 168 (.builtin PySem.W.SL.s7097527257260152453x26), en P (u [95,95,115,112,101,99,95,95]) 169 z, en P (u [95,95,97,110,110,111,116,97,116,105,111,110,115,95,95]) 170 (.ref 6), en P (u [95,95,98,117,105,108,116,105,110,115,95,95]) 171 (.ref 4), en P (u [95,95,102,105,108,101,95,95]) 173 (.str (u [47,99,108,97,105,109,47,99,117,116,46,112,121]) 172), en P (u [95,95,99,97,99,104,101,100,95,95]) 174 z, en P (u [95,81,85,79,80,82,73,95,77,65,80]) 1214 (.ref 17), en P (u [95,81,85,79,80,82,73,95,72,69,65,68,69,82,95,77,65,80]) 1215 (.ref 22), en P (u [95,81,85,79,80,82,73,95,66,79,68,89,95,77,65,80]) 1216 (.ref 24), en P (u [97,115,99,105,105,95,108,111,119,101,114,99,97,115,101]) 1218 (.str (u [97,98,99,100,101,102,103,104,105,106,107,108,109,110,111,112,113,114,115,116,117,118,119,120,121,122]) 1217), en P (u [97,115,99,105,105,95,117,112,112,101,114,99,97,115,101]) 1220 (.str (u [65,66,67,68,69,70,71,72,73,74,75,76,77,78,79,80,81,82,83,84,85,86,87,88,89,90]) 1219), en P (u [97,115,99,105,105,95,108,101,116,116,101,114,115]) 1222 (.str (u [97,98,99,100,101,102,103,104,105,106,107,108,109,110,111,112,113,114,115,116,117,118,119,120,121,122,65,66,67,68,69,70,71,72,73,74,75,76,77,78,79,80,81,82,83,84,85,86,87,88,89,90]) 1221), en P (u [100,105,103,105,116,115]) 1224 (.str (u [48,49,50,51,52,53,54,55,56,57]) 1223), en P (u [99]) 1235 (.int (Int.ofNat 78) 1366)]⟩ 17), ⟨[]⟩⟩
noncomputable def q135 (P : Params) : Obj := ⟨(.type PySem.W.SL.s9222952809800978799x4), none, (.seq ⟨[(.str (u [61,48,48]) 193), (.str (u [61,48,49]) 197), (.str (u [61,48,50]) 201), (.str (u [61,48,51]) 205), (.str (u [61,48,52]) 209), (.str (u [61,48,53]) 213), (.str (u [61,48,54]) 217), (.str (u [61,48,55]) 221), (.str (u [61,48,56]) 225), (.str (u [61,48,57]) 229), (.str (u [61,48,65]) 233), (.str (u [61,48,66]) 237), (.str (u [61,48,67]) 241), (.str (u [61,48,68]) 245), (.str (u [61,48,69]) 249), (.str (u [61,48,70]) 253), (.str (u [61,49,48]) 257), (.str (u [61,49,49]) 261), (.str (u [61,49,50]) 265), (.str (u [61,49,51]) 269), (.str (u [61,49,52]) 273), (.str (u [61,49,53]) 277), (.str (u [61,49,54]) 281), (.str (u [61,49,55]) 285), (.str (u [61,49,56]) 289), (.str (u [61,49,57]) 293), (.str (u [61,49,65]) 297), (.str (u [61,49,66]) 301), (.str (u [61,49,67]) 305), (.str (u [61,49,68]) 309), (.str (u [61,49,69]) 313), (.str (u [61,49,70]) 317), (.str (u [61,50,48]) 321), (.str (u [33]) 1239), (.str (u [61,50,50]) 329), (.str (u [61,50,51]) 333), (.str (u [61,50,52]) 337), (.str (u [61,50,53]) 341), (.str (u [61,50,54]) 345), (.str (u [61,50,55]) 349), (.str (u [61,50,56]) 353), (.str (u [61,50,57]) 357), (.str (u [42]) 1242), (.str (u [43]) 1245), (.str (u [61,50,67]) 369), (.str (u [45]) 1236), (.str (u [61,50,69]) 377), (.str (u [47]) 1248), (.str (u [61,51,48]) 385), (.str (u [61,51,49]) 389), (.str (u [61,51,50]) 393), (.str (u [61,51,51]) 397), (.str (u [61,51,52]) 401), (.str (u [61,51,53]) 405), (.str (u [61,51,54]) 409), (.str (u [61,51,55]) 413), (.str (u [61,51,56]) 417), (.str (u [61,51,57]) 421), (.str (u [61,51,65]) 425), (.str (u [61,51,66]) 429), (.str (u [61,51,67]) 433), (.str (u [61,51,68]) 437), (.str (u [61,51,69]) 441), (.str (u [61,51,70]) 445), (.str (u [61,52,48]) 449), (.str (u [65]) 1329), (.str (u [66]) 1332), (.str (u [67]) 1335), (.str (u [68]) 1338), (.str (u [69]) 1341), (.str (u [70]) 1344), (.str (u [71]) 1347), (.str (u [72]) 1350), (.str (u [73]) 1353), (.str (u [74]) 1356), (.str (u [75]) 1359), (.str (u [76]) 1362), (.str (u [77]) 1365), (.str (u [78]) 1368), (.str (u [61,52,70]) 509), (.str (u [61,53,48]) 513), (.str (u [61,53,49]) 517), (.str (u [61,53,50]) 521), (.str (u [61,53,51]) 525), (.str (u [61,53,52]) 529), (.str (u [61,53,53]) 533), (.str (u [61,53,54]) 537), (.str (u [61,53,55]) 541), (.str (u [61,53,56]) 545), (.str (u [61,53,57]) 549), (.str (u [61,53,65]) 553), (.str (u [61,53,66]) 557), (.str (u [61,53,67]) 561), (.str (u [61,53,68]) 565), (.str (u [61,53,69]) 569), (.str (u [61,53,70]) 573), (.str (u [61,54,48]) 577), (.str (u [97]) 1251), (.str (u [98]) 1254), (.str (u [99]) 1257), (.str (u [100]) 1260), (.str (u [101]) 1263), (.str (u [102]) 1266), (.str (u [103]) 1269), (.str (u [104]) 1272), (.str (u [105]) 1275), (.str (u [106]) 1278), (.str (u [107]) 1281), (.str (u [108]) 1284), (.str (u [109]) 1287), (.str (u [110]) 1290), (.str (u [111]) 1293), (.str (u [112]) 1296), (.str (u [113]) 1299), (.str (u [114]) 1302), (.str (u [115]) 1305), (.str (u [116]) 1308), (.str (u [117]) 1311), (.str (u [118]) 1314), (.str (u [119]) 1317), (.str (u [120]) 1320), (.str (u [121]) 1323), (.str (u [122]) 1326), (.str (u [61,55,66]) 685), (.str (u [61,55,67]) 689), (.str (u [61,55,68]) 693), (.str (u [61,55,69]) 697), (.str (u [61,55,70]) 701), (.str (u [61,56,48]) 705), (.str (u [61,56,49]) 709), (.str (u [61,56,50]) 713), (.str (u [61,56,51]) 717), (.str (u [61,56,52]) 721), (.str (u [61,56,53]) 725), (.str (u [61,56,54]) 729), (.str (u [61,56,55]) 733), (.str (u [61,56,56]) 737), (.str (u [61,56,57]) 741), (.str (u [61,56,65]) 745), (.str (u [61,56,66]) 749), (.str (u [61,56,67]) 753), (.str (u [61,56,68]) 757), (.str (u [61,56,69]) 761), (.str (u [61,56,70]) 765), (.str (u [61,57,48]) 769), (.str (u [61,57,49]) 773), (.str (u [61,57,50]) 777), (.str (u [61,57,51]) 781), (.str (u [61,57,52]) 785), (.str (u [61,57,53]) 789), (.str (u [61,57,54]) 793), (.str (u [61,57,55]) 797), (.str (u [61,57,56]) 801), (.str (u [61,57,57]) 805), (.str (u [61,57,65]) 809), (.str (u [61,57,66]) 813), (.str (u [61,57,67]) 817), (.str (u [61,57,68]) 821), (.str (u [61,57,69]) 825), (.str (u [61,57,70]) 829), (.str (u [61,65,48]) 833), (.str (u [61,65,49]) 837), (.str (u [61,65,50]) 841), (.str (u [61,65,51]) 845), (.str (u [61,65,52]) 849), (.str (u [61,65,53]) 853), (.str (u [61,65,54]) 857), (.str (u [61,65,55]) 861), (.str (u [61,65,56]) 865), (.str (u [61,65,57]) 869), (.str (u [61,65,65]) 873), (.str (u [61,65,66]) 877), (.str (u [61,65,67]) 881), (.str (u [61,65,68]) 885), (.str (u [61,65,69]) 889), (.str (u [61,65,70]) 893), (.str (u [61,66,48]) 897), (.str (u [61,66,49]) 901), (.str (u [61,66,50]) 905), (.str (u [61,66,51]) 909), (.str (u [61,66,52]) 913), (.str (u [61,66,53]) 917), (.str (u [61,66,54]) 921), (.str (u [61,66,55]) 925), (.str (u [61,66,56]) 929), (.str (u [61,66,57]) 933), (.str (u [61,66,65]) 937), (.str (u [61,66,66]) 941), (.str (u [61,66,67]) 945), (.str (u [61,66,68]) 949), (.str (u [61,66,69]) 953), (.str (u [61,66,70]) 957), (.str (u [61,67,48]) 961), (.str (u [61,67,49]) 965), (.str (u [61,67,50]) 969), (.str (u [61,67,51]) 973), (.str (u [61,67,52]) 977), (.str (u [61,67,53]) 981), (.str (u [61,67,54]) 985), (.str (u [61,67,55]) 989), (.str (u [61,67,56]) 993), (.str (u [61,67,57]) 997), (.str (u [61,67,65]) 1001), (.str (u [61,67,66]) 1005), (.str (u [61,67,67]) 1009), (.str (u [61,67,68]) 1013), (.str (u [61,67,69]) 1017), (.str (u [61,67,70]) 1021), (.str (u [61,68,48]) 1025), (.str (u [61,68,49]) 1029), (.str (u [61,68,50]) 1033), (.str (u [61,68,51]) 1037), (.str (u [61,68,52]) 1041), (.str (u [61,68,53]) 1045), (.str (u [61,68,54]) 1049), (.str (u [61,68,55]) 1053), (.str (u [61,68,56]) 1057), (.str (u [61,68,57]) 1061), (.str (u [61,68,65]) 1065), (.str (u [61,68,66]) 1069), (.str (u [61,68,67]) 1073), (.str (u [61,68,68]) 1077), (.str (u [61,68,69]) 1081), (.str (u [61,68,70]) 1085), (.str (u [61,69,48]) 1089), (.str (u [61,69,49]) 1093), (.str (u [61,69,50]) 1097), (.str (u [61,69,51]) 1101), (.str (u [61,69,52]) 1105), (.str (u [61,69,53]) 1109), (.str (u [61,69,54]) 1113), (.str (u [61,69,55]) 1117), (.str (u [61,69,56]) 1121), (.str (u [61,69,57]) 1125), (.str (u [61,69,65]) 1129), (.str (u [61,69,66]) 1133), (.str (u [61,69,67]) 1137), (.str (u [61,69,68]) 1141), (.str (u [61,69,69]) 1145), (.str (u [61,69,70]) 1149), (.str (u [61,70,48]) 1153), (.str (u [61,70,49]) 1157), (.str (u [61,70,50]) 1161), (.str (u [61,70,51]) 1165), (.str (u [61,70,52]) 1169), (.str (u [61,70,53]) 1173), (.str (u [61,70,54]) 1177), (.str (u [61,70,55]) 1181), (.str (u [61,70,56]) 1185), (.str (u [61,70,57]) 1189), (.str (u [61,70,65]) 1193), (.str (u [61,70,66]) 1197), (.str (u [61,70,67]) 1201), (.str (u [61,70,68]) 1205), (.str (u [61,70,69]) 1209), (.str (u [61,70,70]) 1213)]⟩ 0), ⟨[]⟩⟩
noncomputable def q136 (P : Params) : Obj := ⟨(.type PySem.W.SL.s1378417608194177226x14), none, (.fields ⟨[(.bytes ⟨[45,33,42,43,47,97,98,99,100,101,102,103,104,105,106,107,108,109,110,111,112,113,114,115,116,117,118,119,120,121,122,65,66,67,68,69,70,71,72,73,74,75,76,77,78,79,80,81,82,83,84,85,86,87,88,89,90,48,49,50,51,52,53,54,55,56,57]⟩ 1233), (.int (Int.ofNat 45) 0)]⟩), ⟨[]⟩⟩
noncomputable def td2 (P : Params) : BT := (.node (q0 P) (.node (q1 P) (.node (q134 P) (.node (q7 P) (.node (q14 P) .nil .nil) (.node (q20 P) .nil .nil)) (.node (q7 P) (.node (q7 P) .nil .nil) .nil)) (.node (q5 P) (.node (q9 P) (.node (q16 P) .nil .nil) (.node (q136 P) .nil .nil)) (.node (q11 P) (.node (q20 P) .nil .nil) .nil))) (.node (q2 P) (.node (q4 P) (.node (q8 P) (.node (q15 P) .nil .nil) (.node (q21 P) .nil .nil)) (.node (q8 P) (.node (q18 P) .nil .nil) .nil)) (.node (q6 P) (.node (q10 P) (.node (q17 P) .nil .nil) .nil) (.node (q12 P) (.node (q135 P) .nil .nil) .nil))))
noncomputable def q137 (P : Params) : Obj := ⟨(.type PySem.W.SL.s1378417608194177226x14), none, (.fields ⟨[(.bytes ⟨[45,33,42,43,47,97,98,99,100,101,102,103,104,105,106,107,108,109,110,111,112,113,114,115,116,117,118,119,120,121,122,65,66,67,68,69,70,71,72,73,74,75,76,77,78,79,80,81,82,83,84,85,86,87,88,89,90,48,49,50,51,52,53,54,55,56,57]⟩ 1233), (.int (Int.ofNat 67) 0)]⟩), ⟨[]⟩⟩
noncomputable def td3 (P : Params) : BT := (.node (q0 P) (.node (q1 P) (.node (q22 P) (.node (q7 P) (.node (q14 P) .nil .nil) (.node (q20 P) .nil .nil)) (.node (q7 P) (.node (q7 P) .nil .nil) .nil)) (.node (q5 P) (.node (q9 P) (.node (q16 P) .nil .nil) (.node (q137 P) .nil .nil)) (.node (q11 P) (.node (q20 P) .nil .nil) .nil))) (.node (q2 P) (.node (q4 P) (.node (q8 P) (.node (q15 P) .nil .nil) (.node (q21 P) .nil .nil)) (.node (q8 P) (.node (q18 P) .nil .nil) .nil)) (.node (q6 P) (.node (q10 P) (.node (q17 P) .nil .nil) .nil) (.node (q12 P) (.node (q23 P) .nil .nil) .nil))))
noncomputable def q138 (P : Params) : Obj := ⟨(.type PySem.W.SL.s14018661285674007319x4), none, (.dict ⟨[en P (u [95,95,110,97,109,101,95,95]) 165 (.str (u [99,112,121,51,49,51,46,101,109,97,105,108,46,113,117,111,112,114,105,109,105,109,101]) 1225), en P (u [95,95,100,111,99,95,95]) 166 z, en P (u [95,95,112,97,99,107,97,103,101,95,95]) 167 z, en P (u [95,95,108,111,97,100,101,114,95,95]) 168 (.builtin PySem.W.SL.s7097527257260152453x26), en P (u [95,95,115,112,101,99,95,95]) 169 z, en P (u [95,95,97,110,110,111,116,97,116,105,111,110,115,95,95]) 170 (.ref 6), en P (u [95,95,98,117,105,108,116,105,110,115,95,95]) 171 (.ref 4), en P (u [95,95,102,105,108,101,95,95]) 173 (.str (u [47,99,108,97,105,109,47,99,117,116,46,112,121]) 172), en P (u [95,95,99,97,99,104,101,100,95,95]) 174 z, en P (u [95,81,85,79,80,82,73,95,77,65,80]) 1214 (.ref 17), en P (u [95,81,85,79,80,82,73,95,72,69,65,68,69,82,95,77,65,80]) 1215 (.ref 22), en P (u [95,81,85,79,80,82,73,95,66,79,68,89,95,77,65,80]) 1216 (.ref 24), en P (u [97,115,99,105,105,95,108,111,119,101,114,99,97,115,101]) 1218 (.str (u [97,98,99,100,101,102,103,104,105,106,107,108,109,110,111,112,113,114,115,116,117,118,119,120,121,122]) 1217), en P (u [97,115,99,105,105,95,117,112,112,101,114,99,97,115,101]) 1220 (.str (u [65,66,67,68,69,70,71,72,73,74,75,76,77,78,79,80,81,82,83,84,85,86,87,88,89,90]) 1219), en P (u [97,115,99,105,105,95,108,101,116,116,101,114,115]) 1222 (.str (u [97,98,99,100,101,102,103,104,105,106,107,108,109,110,111,112,113,114,115,116,117,118,119,120,121,122,65,66,67,68,69,70,71,72,73,74,75,76,77,78,79,80,81,82,83,84,85,86,87,88,89,90]) 1221), en P (u [100,105,103,105,116,115]) 1224 (.str (u [48,49,50,51,52,53,54,55,56,57]) 1223), en P (u [99]) 1235 (.int (Int.ofNat 32) 1439)]⟩ 17), ⟨[]⟩⟩
noncomputable def q139 (P : Params) : Obj := ⟨(.type PySem.W.SL.s9222952809800978799x4), none, (.seq ⟨[(.str (u [61,48,48]) 193), (.str (u [61,48,49]) 197), (.str (u [61,48,50]) 201), (.str (u [61,48,51]) 205), (.str (u [61,48,52]) 209), (.str (u [61,48,53]) 213), (.str (u [61,48,54]) 217), (.str (u [61,48,55]) 221), (.str (u [61,48,56]) 225), (.str (u [61,48,57]) 229), (.str (u [61,48,65]) 233), (.str (u [61,48,66]) 237), (.str (u [61,48,67]) 241), (.str (u [61,48,68]) 245), (.str (u [61,48,69]) 249), (.str (u [61,48,70]) 253), (.str (u [61,49,48]) 257), (.str (u [61,49,49]) 261), (.str (u [61,49,50]) 265), (.str (u [61,49,51]) 269), (.str (u [61,49,52]) 273), (.str (u [61,49,53]) 277), (.str (u [61,49,54]) 281), (.str (u [61,49,55]) 285), (.str (u [61,49,56]) 289), (.str (u [61,49,57]) 293), (.str (u [61,49,65]) 297), (.str (u [61,49,66]) 301), (.str (u [61,49,67]) 305), (.str (u [61,49,68]) 309), (.str (u [61,49,69]) 313), (.str (u [61,49,70]) 317), (.str (u [32]) 1441), (.str (u [61,50,49]) 325), (.str (u [61,50,50]) 329), (.str (u [61,50,51]) 333), (.str (u [61,50,52]) 337), (.str (u [61,50,53]) 341), (.str (u [61,50,54]) 345), (.str (u [61,50,55]) 349), (.str (u [61,50,56]) 353), (.str (u [61,50,57]) 357), (.str (u [61,50,65]) 361), (.str (u [61,50,66]) 365), (.str (u [61,50,67]) 369), (.str (u [61,50,68]) 373), (.str (u [61,50,69]) 377), (.str (u [61,50,70]) 381), (.str (u [61,51,48]) 385), (.str (u [61,51,49]) 389), (.str (u [61,51,50]) 393), (.str (u [61,51,51]) 397), (.str (u [61,51,52]) 401), (.str (u [61,51,53]) 405), (.str (u [61,51,54]) 409), (.str (u [61,51,55]) 413), (.str (u [61,51,56]) 417), (.str (u [61,51,57]) 421), (.str (u [61,51,65]) 425), (.str (u [61,51,66]) 429), (.str (u [61,51,67]) 433), (.str (u [61,51,68]) 437), (.str (u [61,51,69]) 441), (.str (u [61,51,70]) 445), (.str (u [61,52,48]) 449), (.str (u [61,52,49]) 453), (.str (u [61,52,50]) 457), (.str (u [61,52,51]) 461), (.str (u [61,52,52]) 465), (.str (u [61,52,53]) 469), (.str (u [61,52,54]) 473), (.str (u [61,52,55]) 477), (.str (u [61,52,56]) 481), (.str (u [61,52,57]) 485), (.str (u [61,52,65]) 489), (.str (u [61,52,66]) 493), (.str (u [61,52,67]) 497), (.str (u [61,52,68]) 501), (.str (u [61,52,69]) 505), (.str (u [61,52,70]) 509), (.str (u [61,53,48]) 513), (.str (u [61,53,49]) 517), (.str (u [61,53,50]) 521), (.str (u [61,53,51]) 525), (.str (u [61,53,52]) 529), (.str (u [61,53,53]) 533), (.str (u [61,53,54]) 537), (.str (u [61,53,55]) 541), (.str (u [61,53,56]) 545), (.str (u [61,53,57]) 549), (.str (u [61,53,65]) 553), (.str (u [61,53,66]) 557), (.str (u [61,53,67]) 561), (.str (u [61,53,68]) 565), (.str (u [61,53,69]) 569), (.str (u [61,53,70]) 573), (.str (u [61,54,48]) 577), (.str (u [61,54,49]) 581), (.str (u [61,54,50]) 585), (.str (u [61,54,51]) 589), (.str (u [61,54,52]) 593), (.str (u [61,54,53]) 597), (.str (u [61,54,54]) 601), (.str (u [61,54,55]) 605), (.str (u [61,54,56]) 609), (.str (u [61,54,57]) 613), (.str (u [61,54,65]) 617), (.str (u [61,54,66]) 621), (.str (u [61,54,67]) 625), (.str (u [61,54,68]) 629), (.str (u [61,54,69]) 633), (.str (u [61,54,70]) 637), (.str (u [61,55,48]) 641), (.str (u [61,55,49]) 645), (.str (u [61,55,50]) 649), (.str (u [61,55,51]) 653), (.str (u [61,55,52]) 657), (.str (u [61,55,53]) 661), (.str (u [61,55,54]) 665), (.str (u [61,55,55]) 669), (.str (u [61,55,56]) 673), (.str (u [61,55,57]) 677), (.str (u [61,55,65]) 681), (.str (u [61,55,66]) 685), (.str (u [61,55,67]) 689), (.str (u [61,55,68]) 693), (.str (u [61,55,69]) 697), (.str (u [61,55,70]) 701), (.str (u [61,56,48]) 705), (.str (u [61,56,49]) 709), (.str (u [61,56,50]) 713), (.str (u [61,56,51]) 717), (.str (u [61,56,52]) 721), (.str (u [61,56,53]) 725), (.str (u [61,56,54]) 729), (.str (u [61,56,55]) 733), (.str (u [61,56,56]) 737), (.str (u [61,56,57]) 741), (.str (u [61,56,65]) 745), (.str (u [61,56,66]) 749), (.str (u [61,56,67]) 753), (.str (u [61,56,68]) 757), (.str (u [61,56,69]) 761), (.str (u [61,56,70]) 765), (.str (u [61,57,48]) 769), (.str (u [61,57,49]) 773), (.str (u [61,57,50]) 777), (.str (u [61,57,51]) 781), (.str (u [61,57,52]) 785), (.str (u [61,57,53]) 789), (.str (u [61,57,54]) 793), (.str (u [61,57,55]) 797), (.str (u [61,57,56]) 801), (.str (u [61,57,57]) 805), (.str (u [61,57,65]) 809), (.str (u [61,57,66]) 813), (.str (u [61,57,67]) 817), (.str (u [61,57,68]) 821), (.str (u [61,57,69]) 825), (.str (u [61,57,70]) 829), (.str (u [61,65,48]) 833), (.str (u [61,65,49]) 837), (.str (u [61,65,50]) 841), (.str (u [61,65,51]) 845), (.str (u [61,65,52]) 849), (.str (u [61,65,53]) 853), (.str (u [61,65,54]) 857), (.str (u [61,65,55]) 861), (.str (u [61,65,56]) 865), (.str (u [61,65,57]) 869), (.str (u [61,65,65]) 873), (.str (u [61,65,66]) 877), (.str (u [61,65,67]) 881), (.str (u [61,65,68]) 885), (.str (u [61,65,69]) 889), (.str (u [61,65,70]) 893), (.str (u [61,66,48]) 897), (.str (u [61,66,49]) 901), (.str (u [61,66,50]) 905), (.str (u [61,66,51]) 909), (.str (u [61,66,52]) 913), (.str (u [61,66,53]) 917), (.str (u [61,66,54]) 921), (.str (u [61,66,55]) 925), (.str (u [61,66,56]) 929), (.str (u [61,66,57]) 933), (.str (u [61,66,65]) 937), (.str (u [61,66,66]) 941), (.str (u [61,66,67]) 945), (.str (u [61,66,68]) 949), (.str (u [61,66,69]) 953), (.str (u [61,66,70]) 957), (.str (u [61,67,48]) 961), (.str (u [61,67,49]) 965), (.str (u [61,67,50]) 969), (.str (u [61,67,51]) 973), (.str (u [61,67,52]) 977), (.str (u [61,67,53]) 981), (.str (u [61,67,54]) 985), (.str (u [61,67,55]) 989), (.str (u [61,67,56]) 993), (.str (u [61,67,57]) 997), (.str (u [61,67,65]) 1001), (.str (u [61,67,66]) 1005), (.str (u [61,67,67]) 1009), (.str (u [61,67,68]) 1013), (.str (u [61,67,69]) 1017), (.str (u [61,67,70]) 1021), (.str (u [61,68,48]) 1025), (.str (u [61,68,49]) 1029), (.str (u [61,68,50]) 1033), (.str (u [61,68,51]) 1037), (.str (u [61,68,52]) 1041), (.str (u [61,68,53]) 1045), (.str (u [61,68,54]) 1049), (.str (u [61,68,55]) 1053), (.str (u [61,68,56]) 1057), (.str (u [61,68,57]) 1061), (.str (u [61,68,65]) 1065), (.str (u [61,68,66]) 1069), (.str (u [61,68,67]) 1073), (.str (u [61,68,68]) 1077), (.str (u [61,68,69]) 1081), (.str (u [61,68,70]) 1085), (.str (u [61,69,48]) 1089), (.str (u [61,69,49]) 1093), (.str (u [61,69,50]) 1097), (.str (u [61,69,51]) 1101), (.str (u [61,69,52]) 1105), (.str (u [61,69,53]) 1109), (.str (u [61,69,54]) 1113), (.str (u [61,69,55]) 1117), (.str (u [61,69,56]) 1121), (.str (u [61,69,57]) 1125), (.str (u [61,69,65]) 1129), (.str (u [61,69,66]) 1133), (.str (u [61,69,67]) 1137), (.str (u [61,69,68]) 1141), (.str (u [61,69,69]) 1145), (.str (u [61,69,70]) 1149), (.str (u [61,70,48]) 1153), (.str (u [61,70,49]) 1157), (.str (u [61,70,50]) 1161), (.str (u [61,70,51]) 1165), (.str (u [61,70,52]) 1169), (.str (u [61,70,53]) 1173), (.str (u [61,70,54]) 1177), (.str (u [61,70,55]) 1181), (.str (u [61,70,56]) 1185), (.str (u [61,70,57]) 1189), (.str (u [61,70,65]) 1193), (.str (u [61,70,66]) 1197), (.str (u [61,70,67]) 1201), (.str (u [61,70,68]) 1205), (.str (u [61,70,69]) 1209), (.str (u [61,70,70]) 1213)]⟩ 0), ⟨[]⟩⟩
noncomputable def q140 (P : Params) : Obj := ⟨(.type PySem.W.SL.s1378417608194177226x14), none, (.fields ⟨[(.bytes ⟨[32,33,34,35,36,37,38,39,40,41,42,43,44,45,46,47,48,49,50,51,52,53,54,55,56,57,58,59,60,62,63,64,65,66,67,68,69,70,71,72,73,74,75,76,77,78,79,80,81,82,83,84,85,86,87,88,89,90,91,92,93,94,95,96,97,98,99,100,101,102,103,104,105,106,107,108,109,110,111,112,113,114,115,116,117,118,119,120,121,122,123,124,125,126,9]⟩ 1438), (.int (Int.ofNat 1) 0)]⟩), ⟨[]⟩⟩
noncomputable def tg0 (P : Params) : BT := (.node (q0 P) (.node (q1 P) (.node (q138 P) (.node (q7 P) (.node (q14 P) .nil .nil) (.node (q20 P) .nil .nil)) (.node (q7 P) (.node (q7 P) .nil .nil) (.node (q25 P) .nil .nil))) (.node (q5 P) (.node (q9 P) (.node (q16 P) .nil .nil) (.node (q24 P) .nil .nil)) (.node (q11 P) (.node (q20 P) .nil .nil) .nil))) (.node (q2 P) (.node (q4 P) (.node (q8 P) (.node (q15 P) .nil .nil) (.node (q139 P) .nil .nil)) (.node (q8 P) (.node (q18 P) .nil .nil) (.node (q140 P) .nil .nil))) (.node (q6 P) (.node (q10 P) (.node (q17 P) .nil .nil) (.node (q7 P) .nil .nil)) (.node (q12 P) (.node (q26 P) .nil .nil) .nil))))
noncomputable def q141 (P : Params) : Obj := ⟨(.type PySem.W.SL.s14018661285674007319x4), none, (.dict ⟨[en P (u [95,95,110,97,109,101,95,95]) 165 (.str (u [99,112,121,51,49,51,46,101,109,97,105,108,46,113,117,111,112,114,105,109,105,109,101]) 1225), en P (u [95,95,100,111,99,95,95]) 166 z, en P (u [95,95,112,97,99,107,97,103,101,95,95]) 167 z, en P (u [95,95,108,111,97,100,101,114,95,95]) 168 (.builtin PySem.W.SL.s7097527257260152453x26), en P (u [95,95,115,112,101,99,95,95]) 169 z, en P (u [95,95,97,110,110,111,116,97,116,105,111,110,115,95,95]) 170 (.ref 6), en P (u [95,95,98,117,105,108,116,105,110,115,95,95]) 171 (.ref 4), en P (u [95,95,102,105,108,101,95,95]) 173 (.str (u [47,99,108,97,105,109,47,99,117,116,46,112,121]) 172), en P (u [95,95,99,97,99,104,101,100,95,95]) 174 z, en P (u [95,81,85,79,80,82,73,95,77,65,80]) 1214 (.ref 17), en P (u [95,81,85,79,80,82,73,95,72,69,65,68,69,82,95,77,65,80]) 1215 (.ref 22), en P (u [95,81,85,79,80,82,73,95,66,79,68,89,95,77,65,80]) 1216 (.ref 24), en P (u [97,115,99,105,105,95,108,111,119,101,114,99,97,115,101]) 1218 (.str (u [97,98,99,100,101,102,103,104,105,106,107,108,109,110,111,112,113,114,115,116,117,118,119,120,121,122]) 1217), en P (u [97,115,99,105,105,95,117,112,112,101,114,99,97,115,101]) 1220 (.str (u [65,66,67,68,69,70,71,72,73,74,75,76,77,78,79,80,81,82,83,84,85,86,87,88,89,90]) 1219), en P (u [97,115,99,105,105,95,108,101,116,116,101,114,115]) 1222 (.str (u [97,98,99,100,101,102,103,104,105,106,107,108,109,110,111,112,113,114,115,116,117,118,119,120,121,122,65,66,67,68,69,70,71,72,73,74,75,76,77,78,79,80,81,82,83,84,85,86,87,88,89,90]) 1221), en P (u [100,105,103,105,116,115]) 1224 (.str (u [48,49,50,51,52,53,54,55,56,57]) 1223), en P (u [99]) 1235 (.int (Int.ofNat 56) 1511)]⟩ 17), ⟨[]⟩⟩
noncomputable def q142 (P : Params) : Obj := ⟨(.type PySem.W.SL.s9222952809800978799x4), none, (.seq ⟨[(.str (u [61,48,48]) 193), (.str (u [61,48,49]) 197), (.str (u [61,48,50]) 201), (.str (u [61,48,51]) 205), (.str (u [61,48,52]) 209), (.str (u [61,48,53]) 213), (.str (u [61,48,54]) 217), (.str (u [61,48,55]) 221), (.str (u [61,48,56]) 225), (.str (u [61,48,57]) 229), (.str (u [61,48,65]) 233), (.str (u [61,48,66]) 237), (.str (u [61,48,67]) 241), (.str (u [61,48,68]) 245), (.str (u [61,48,69]) 249), (.str (u [61,48,70]) 253), (.str (u [61,49,48]) 257), (.str (u [61,49,49]) 261), (.str (u [61,49,50]) 265), (.str (u [61,49,51]) 269), (.str (u [61,49,52]) 273), (.str (u [61,49,53]) 277), (.str (u [61,49,54]) 281), (.str (u [61,49,55]) 285), (.str (u [61,49,56]) 289), (.str (u [61,49,57]) 293), (.str (u [61,49,65]) 297), (.str (u [61,49,66]) 301), (.str (u [61,49,67]) 305), (.str (u [61,49,68]) 309), (.str (u [61,49,69]) 313), (.str (u [61,49,70]) 317), (.str (u [32]) 1441), (.str (u [33]) 1444), (.str (u [34]) 1447), (.str (u [35]) 1450), (.str (u [36]) 1453), (.str (u [37]) 1456), (.str (u [38]) 1459), (.str (u [39]) 1462), (.str (u [40]) 1465), (.str (u [41]) 1468), (.str (u [42]) 1471), (.str (u [43]) 1474), (.str (u [44]) 1477), (.str (u [45]) 1480), (.str (u [46]) 1483), (.str (u [47]) 1486), (.str (u [48]) 1489), (.str (u [49]) 1492), (.str (u [50]) 1495), (.str (u [51]) 1498), (.str (u [52]) 1501), (.str (u [53]) 1504), (.str (u [54]) 1507), (.str (u [55]) 1510), (.str (u [56]) 1513), (.str (u [61,51,57]) 421), (.str (u [61,51,65]) 425), (.str (u [61,51,66]) 429), (.str (u [61,51,67]) 433), (.str (u [61,51,68]) 437), (.str (u [61,51,69]) 441), (.str (u [61,51,70]) 445), (.str (u [61,52,48]) 449), (.str (u [61,52,49]) 453), (.str (u [61,52,50]) 457), (.str (u [61,52,51]) 461), (.str (u [61,52,52]) 465), (.str (u [61,52,53]) 469), (.str (u [61,52,54]) 473), (.str (u [61,52,55]) 477), (.str (u [61,52,56]) 481), (.str (u [61,52,57]) 485), (.str (u [61,52,65]) 489), (.str (u [61,52,66]) 493), (.str (u [61,52,67]) 497), (.str (u [61,52,68]) 501), (.str (u [61,52,69]) 505), (.str (u [61,52,70]) 509), (.str (u [61,53,48]) 513), (.str (u [61,53,49]) 517), (.str (u [61,53,50]) 521), (.str (u [61,53,51]) 525), (.str (u [61,53,52]) 529), (.str (u [61,53,53]) 533), (.str (u [61,53,54]) 537), (.str (u [61,53,55]) 541), (.str (u [61,53,56]) 545), (.str (u [61,53,57]) 549), (.str (u [61,53,65]) 553), (.str (u [61,53,66]) 557), (.str (u [61,53,67]) 561), (.str (u [61,53,68]) 565), (.str (u [61,53,69]) 569), (.str (u [61,53,70]) 573), (.str (u [61,54,48]) 577), (.str (u [61,54,49]) 581), (.str (u [61,54,50]) 585), (.str (u [61,54,51]) 589), (.str (u [61,54,52]) 593), (.str (u [61,54,53]) 597), (.str (u [61,54,54]) 601), (.str (u [61,54,55]) 605), (.str (u [61,54,56]) 609), (.str (u [61,54,57]) 613), (.str (u [61,54,65]) 617), (.str (u [61,54,66]) 621), (.str (u [61,54,67]) 625), (.str (u [61,54,68]) 629), (.str (u [61,54,69]) 633), (.str (u [61,54,70]) 637), (.str (u [61,55,48]) 641), (.str (u [61,55,49]) 645), (.str (u [61,55,50]) 649), (.str (u [61,55,51]) 653), (.str (u [61,55,52]) 657), (.str (u [61,55,53]) 661), (.str (u [61,55,54]) 665), (.str (u [61,55,55]) 669), (.str (u [61,55,56]) 673), (.str (u [61,55,57]) 677), (.str (u [61,55,65]) 681), (.str (u [61,55,66]) 685), (.str (u [61,55,67]) 689), (.str (u [61,55,68]) 693), (.str (u [61,55,69]) 697), (.str (u [61,55,70]) 701), (.str (u [61,56,48]) 705), (.str (u [61,56,49]) 709), (.str (u [61,56,50]) 713), (.str (u [61,56,51]) 717), (.str (u [61,56,52]) 721), (.str (u [61,56,53]) 725), (.str (u [61,56,54]) 729), (.str (u [61,56,55]) 733), (.str (u [61,56,56]) 737), (.str (u [61,56,57]) 741), (.str (u [61,56,65]) 745), (.str (u [61,56,66]) 749), (.str (u [61,56,67]) 753), (.str (u [61,56,68]) 757), (.str (u [61,56,69]) 761), (.str (u [61,56,70]) 765), (.str (u [61,57,48]) 769), (.str (u [61,57,49]) 773), (.str (u [61,57,50]) 777), (.str (u [61,57,51]) 781), (.str (u [61,57,52]) 785), (.str (u [61,57,53]) 789), (.str (u [61,57,54]) 793), (.str (u [61,57,55]) 797), (.str (u [61,57,56]) 801), (.str (u [61,57,57]) 805), (.str (u [61,57,65]) 809), (.str (u [61,57,66]) 813), (.str (u [61,57,67]) 817), (.str (u [61,57,68]) 821), (.str (u [61,57,69]) 825), (.str (u [61,57,70]) 829), (.str (u [61,65,48]) 833), (.str (u [61,65,49]) 837), (.str (u [61,65,50]) 841), (.str (u [61,65,51]) 845), (.str (u [61,65,52]) 849), (.str (u [61,65,53]) 853), (.str (u [61,65,54]) 857), (.str (u [61,65,55]) 861), (.str (u [61,65,56]) 865), (.str (u [61,65,57]) 869), (.str (u [61,65,65]) 873), (.str (u [61,65,66]) 877), (.str (u [61,65,67]) 881), (.str (u [61,65,68]) 885), (.str (u [61,65,69]) 889), (.str (u [61,65,70]) 893), (.str (u [61,66,48]) 897), (.str (u [61,66,49]) 901), (.str (u [61,66,50]) 905), (.str (u [61,66,51]) 909), (.str (u [61,66,52]) 913), (.str (u [61,66,53]) 917), (.str (u [61,66,54]) 921), (.str (u [61,66,55]) 925), (.str (u [61,66,56]) 929), (.str (u [61,66,57]) 933), (.str (u [61,66,65]) 937), (.str (u [61,66,66]) 941), (.str (u [61,66,67]) 945), (.str (u [61,66,68]) 949), (.str (u [61,66,69]) 953), (.str (u [61,66,70]) 957), (.str (u [61,67,48]) 961), (.str (u [61,67,49]) 965), (.str (u [61,67,50]) 969), (.str (u [61,67,51]) 973), (.str (u [61,67,52]) 977), (.str (u [61,67,53]) 981), (.str (u [61,67,54]) 985), (.str (u [61,67,55]) 989), (.str (u [61,67,56]) 993), (.str (u [61,67,57]) 997), (.str (u [61,67,65]) 1001), (.str (u [61,67,66]) 1005), (.str (u [61,67,67]) 1009), (.str (u [61,67,68]) 1013), (.str (u [61,67,69]) 1017), (.str (u [61,67,70]) 1021), (.str (u [61,68,48]) 1025), (.str (u [61,68,49]) 1029), (.str (u [61,68,50]) 1033), (.str (u [61,68,51]) 1037), (.str (u [61,68,52]) 1041), (.str (u [61,68,53]) 1045), (.str (u [61,68,54]) 1049), (.str (u [61,68,55]) 1053), (.str (u [61,68,56]) 1057), (.str (u [61,68,57]) 1061), (.str (u [61,68,65]) 1065), (.str (u [61,68,66]) 1069), (.str (u [61,68,67]) 1073), (.str (u [61,68,68]) 1077), (.str (u [61,68,69]) 1081), (.str (u [61,68,70]) 1085), (.str (u [61,69,48]) 1089), (.str (u [61,69,49]) 1093), (.str (u [61,69,50]) 1097), (.str (u [61,69,51]) 1101), (.str (u [61,69,52]) 1105), (.str (u [61,69,53]) 1109), (.str (u [61,69,54]) 1113), (.str (u [61,69,55]) 1117), (.str (u [61,69,56]) 1121), (.str (u [61,69,57]) 1125), (.str (u [61,69,65]) 1129), (.str (u [61,69,66]) 1133), (.str (u [61,69,67]) 1137), (.str (u [61,69,68]) 1141), (.str (u [61,69,69]) 1145), (.str (u [61,69,70]) 1149), (.str (u [61,70,48]) 1153), (.str (u [61,70,49]) 1157), (.str (u [61,70,50]) 1161), (.str (u [61,70,51]) 1165), (.str (u [61,70,52]) 1169), (.str (u [61,70,53]) 1173), (.str (u [61,70,54]) 1177), (.str (u [61,70,55]) 1181), (.str (u [61,70,56]) 1185), (.str (u [61,70,57]) 1189), (.str (u [61,70,65]) 1193), (.str (u [61,70,66]) 1197), (.str (u [61,70,67]) 1201), (.str (u [61,70,68]) 1205), (.str (u [61,70,69]) 1209), (.str (u [61,70,70]) 1213)]⟩ 0), ⟨[]⟩⟩
noncomputable def q143 (P : Params) : Obj := ⟨(.type PySem.W.SL.s1378417608194177226x14), none, (.fields ⟨[(.bytes ⟨[32,33,34,35,36,37,38,39,40,41,42,43,44,45,46,47,48,49,50,51,52,53,54,55,56,57,58,59,60,62,63,64,65,66,67,68,69,70,71,72,73,74,75,76,77,78,79,80,81,82,83,84,85,86,87,88,89,90,91,92,93,94,95,96,97,98,99,100,101,102,103,104,105,106,107,108,109,110,111,112,113,114,115,116,117,118,119,120,121,122,123,124,125,126,9]⟩ 1438), (.int (Int.ofNat 25) 0)]⟩), ⟨[]⟩⟩
noncomputable def tg1 (P : Params) : BT := (.node (q0 P) (.node (q1 P) (.node (q141 P) (.node (q7 P) (.node (q14 P) .nil .nil) (.node (q20 P) .nil .nil)) (.node (q7 P) (.node (q7 P) .nil .nil) (.node (q25 P) .nil .nil))) (.node (q5 P) (.node (q9 P) (.node (q16 P) .nil .nil) (.node (q24 P) .nil .nil)) (.node (q11 P) (.node (q20 P) .nil .nil) .nil))) (.node (q2 P) (.node (q4 P) (.node (q8 P) (.node (q15 P) .nil .nil) (.node (q142 P) .nil .nil)) (.node (q8 P) (.node (q18 P) .nil .nil) (.node (q143 P) .nil .nil))) (.node (q6 P) (.node (q10 P) (.node (q17 P) .nil .nil) (.node (q7 P) .nil .nil)) (.node (q12 P) (.node (q26 P) .nil .nil) .nil))))
noncomputable def q144 (P : Params) : Obj := ⟨(.type PySem.W.SL.s14018661285674007319x4), none, (.dict ⟨[en P (u [95,95,110,97,109,101,95,95]) 165 (.str (u [99,112,121,51,49,51,46,101,109,97,105,108,46,113,117,111,112,114,105,109,105,109,101]) 1225), en P (u [95,95,100,111,99,95,95]) 166 z, en P (u [95,95,112,97,99,107,97,103,101,95,95]) 167 z, en P (u [95,95,108,111,97,100,101,114,95,95]) 168 (.builtin PySem.W.SL.s7097527257260152453x26), en P (u [95,95,115,112,101,99,95,95]) 169 z, en P (u [95,95,97,110,110,111,116,97,116,105,111,110,115,95,95]) 170 (.ref 6), en P (u [95,95,98,117,105,108,116,105,110,115,95,95]) 171 (.ref 4), en P (u [95,95,102,105,108,101,95,95]) 173 (.str (u [47,99,108,97,105,109,47,99,117,116,46,112,121]) 172), en P (u [95,95,99,97,99,104,101,100,95,95]) 174 z, en P (u [95,81,85,79,80,82,73,95,77,65,80]) 1214 (.ref 17), en P (u [95,81,85,79,80,82,73,95,72,69,65,68,69,82,95,77,65,80]) 1215 (.ref 22), en P (u [95,81,85,79,80,82,73,95,66,79,68,89,95,77,65,80]) 1216 (.ref 24), en P (u [97,115,99,105,105,95,108,111,119,101,114,99,97,115,101]) 1218 (.str (u [97,98,99,100,101,102,103,104,105,106,107,108,109,110,111,112,113,114,115,116,117,118,119,120,121,122]) 1217), en P (u [97,115,99,105,105,95,117,112,112,101,114,99,97,115,101]) 1220 (.str (u [65,66,67,68,69,70,71,72,73,74,75,76,77,78,79,80,81,82,83,84,85,86,87,88,89,90]) 1219), en P (u [97,115,99,105,105,95,108,101,116,116,101,114,115]) 1222 (.str (u [97,98,99,100,101,102,103,104,105,106,107,108,109,110,111,112,113,114,115,116,117,118,119,120,121,122,65,66,67,68,69,70,71,72,73,74,75,76,77,78,79,80,81,82,83,84,85,86,87,88,89,90]) 1221), en P (u [100,105,103,105,116,115]) 1224 (.str (u [48,49,50,51,52,53,54,55,56,57]) 1223), en P (u [99]) 1235 (.int (Int.ofNat 81) 1583)]⟩ 17), ⟨[]⟩⟩
noncomputable def q145 (P : Params) : Obj := ⟨(.type PySem.W.SL.s9222952809800978799x4), none, (.seq ⟨[(.str (u [61,48,48]) 193), (.str (u [61,48,49]) 197), (.str (u [61,48,50]) 201), (.str (u [61,48,51]) 205), (.str (u [61,48,52]) 209), (.str (u [61,48,53]) 213), (.str (u [61,48,54]) 217), (.str (u [61,48,55]) 221), (.str (u [61,48,56]) 225), (.str (u [61,48,57]) 229), (.str (u [61,48,65]) 233), (.str (u [61,48,66]) 237), (.str (u [61,48,67]) 241), (.str (u [61,48,68]) 245), (.str (u [61,48,69]) 249), (.str (u [61,48,70]) 253), (.str (u [61,49,48]) 257), (.str (u [61,49,49]) 261), (.str (u [61,49,50]) 265), (.str (u [61,49,51]) 269), (.str (u [61,49,52]) 273), (.str (u [61,49,53]) 277), (.str (u [61,49,54]) 281), (.str (u [61,49,55]) 285), (.str (u [61,49,56]) 289), (.str (u [61,49,57]) 293), (.str (u [61,49,65]) 297), (.str (u [61,49,66]) 301), (.str (u [61,49,67]) 305), (.str (u [61,49,68]) 309), (.str (u [61,49,69]) 313), (.str (u [61,49,70]) 317), (.str (u [32]) 1441), (.str (u [33]) 1444), (.str (u [34]) 1447), (.str (u [35]) 1450), (.str (u [36]) 1453), (.str (u [37]) 1456), (.str (u [38]) 1459), (.str (u [39]) 1462), (.str (u [40]) 1465), (.str (u [41]) 1468), (.str (u [42]) 1471), (.str (u [43]) 1474), (.str (u [44]) 1477), (.str (u [45]) 1480), (.str (u [46]) 1483), (.str (u [47]) 1486), (.str (u [48]) 1489), (.str (u [49]) 1492), (.str (u [50]) 1495), (.str (u [51]) 1498), (.str (u [52]) 1501), (.str (u [53]) 1504), (.str (u [54]) 1507), (.str (u [55]) 1510), (.str (u [56]) 1513), (.str (u [57]) 1516), (.str (u [58]) 1519), (.str (u [59]) 1522), (.str (u [60]) 1525), (.str (u [61,51,68]) 437), (.str (u [62]) 1528), (.str (u [63]) 1531), (.str (u [64]) 1534), (.str (u [65]) 1537), (.str (u [66]) 1540), (.str (u [67]) 1543), (.str (u [68]) 1546), (.str (u [69]) 1549), (.str (u [70]) 1552), (.str (u [71]) 1555), (.str (u [72]) 1558), (.str (u [73]) 1561), (.str (u [74]) 1564), (.str (u [75]) 1567), (.str (u [76]) 1570), (.str (u [77]) 1573), (.str (u [78]) 1576), (.str (u [79]) 1579), (.str (u [80]) 1582), (.str (u [81]) 1585), (.str (u [61,53,50]) 521), (.str (u [61,53,51]) 525), (.str (u [61,53,52]) 529), (.str (u [61,53,53]) 533), (.str (u [61,53,54]) 537), (.str (u [61,53,55]) 541), (.str (u [61,53,56]) 545), (.str (u [61,53,57]) 549), (.str (u [61,53,65]) 553), (.str (u [61,53,66]) 557), (.str (u [61,53,67]) 561), (.str (u [61,53,68]) 565), (.str (u [61,53,69]) 569), (.str (u [61,53,70]) 573), (.str (u [61,54,48]) 577), (.str (u [61,54,49]) 581), (.str (u [61,54,50]) 585), (.str (u [61,54,51]) 589), (.str (u [61,54,52]) 593), (.str (u [61,54,53]) 597), (.str (u [61,54,54]) 601), (.str (u [61,54,55]) 605), (.str (u [61,54,56]) 609), (.str (u [61,54,57]) 613), (.str (u [61,54,65]) 617), (.str (u [61,54,66]) 621), (.str (u [61,54,67]) 625), (.str (u [61,54,68]) 629), (.str (u [61,54,69]) 633), (.str (u [61,54,70]) 637), (.str (u [61,55,48]) 641), (.str (u [61,55,49]) 645), (.str (u [61,55,50]) 649), (.str (u [61,55,51]) 653), (.str (u [61,55,52]) 657), (.str (u [61,55,53]) 661), (.str (u [61,55,54]) 665), (.str (u [61,55,55]) 669), (.str (u [61,55,56]) 673), (.str (u [61,55,57]) 677), (.str (u [61,55,65]) 681), (.str (u [61,55,66]) 685), (.str (u [61,55,67]) 689), (.str (u [61,55,68]) 693), (.str (u [61,55,69]) 697), (.str (u [61,55,70]) 701), (.str (u [61,56,48]) 705), (.str (u [61,56,49]) 709), (.str (u [61,56,50]) 713), (.str (u [61,56,51]) 717), (.str (u [61,56,52]) 721), (.str (u [61,56,53]) 725), (.str (u [61,56,54]) 729), (.str (u [61,56,55]) 733), (.str (u [61,56,56]) 737), (.str (u [61,56,57]) 741), (.str (u [61,56,65]) 745), (.str (u [61,56,66]) 749), (.str (u [61,56,67]) 753), (.str (u [61,56,68]) 757), (.str (u [61,56,69]) 761), (.str (u [61,56,70]) 765), (.str (u [61,57,48]) 769), (.str (u [61,57,49]) 773), (.str (u [61,57,50]) 777), (.str (u [61,57,51]) 781), (.str (u [61,57,52]) 785), (.str (u [61,57,53]) 789), (.str (u [61,57,54]) 793), (.str (u [61,57,55]) 797), (.str (u [61,57,56]) 801), (.str (u [61,57,57]) 805), (.str (u [61,57,65]) 809), (.str (u [61,57,66]) 813), (.str (u [61,57,67]) 817), (.str (u [61,57,68]) 821), (.str (u [61,57,69]) 825), (.str (u [61,57,70]) 829), (.str (u [61,65,48]) 833), (.str (u [61,65,49]) 837), (.str (u [61,65,50]) 841), (.str (u [61,65,51]) 845), (.str (u [61,65,52]) 849), (.str (u [61,65,53]) 853), (.str (u [61,65,54]) 857), (.str (u [61,65,55]) 861), (.str (u [61,65,56]) 865), (.str (u [61,65,57]) 869), (.str (u [61,65,65]) 873), (.str (u [61,65,66]) 877), (.str (u [61,65,67]) 881), (.str (u [61,65,68]) 885), (.str (u [61,65,69]) 889), (.str (u [61,65,70]) 893), (.str (u [61,66,48]) 897), (.str (u [61,66,49]) 901), (.str (u [61,66,50]) 905), (.str (u [61,66,51]) 909), (.str (u [61,66,52]) 913), (.str (u [61,66,53]) 917), (.str (u [61,66,54]) 921), (.str (u [61,66,55]) 925), (.str (u [61,66,56]) 929), (.str (u [61,66,57]) 933), (.str (u [61,66,65]) 937), (.str (u [61,66,66]) 941), (.str (u [61,66,67]) 945), (.str (u [61,66,68]) 949), (.str (u [61,66,69]) 953), (.str (u [61,66,70]) 957), (.str (u [61,67,48]) 961), (.str (u [61,67,49]) 965), (.str (u [61,67,50]) 969), (.str (u [61,67,51]) 973), (.str (u [61,67,52]) 977), (.str (u [61,67,53]) 981), (.str (u [61,67,54]) 985), (.str (u [61,67,55]) 989), (.str (u [61,67,56]) 993), (.str (u [61,67,57]) 997), (.str (u [61,67,65]) 1001), (.str (u [61,67,66]) 1005), (.str (u [61,67,67]) 1009), (.str (u [61,67,68]) 1013), (.str (u [61,67,69]) 1017), (.str (u [61,67,70]) 1021), (.str (u [61,68,48]) 1025), (.str (u [61,68,49]) 1029), (.str (u [61,68,50]) 1033), (.str (u [61,68,51]) 1037), (.str (u [61,68,52]) 1041), (.str (u [61,68,53]) 1045), (.str (u [61,68,54]) 1049), (.str (u [61,68,55]) 1053), (.str (u [61,68,56]) 1057), (.str (u [61,68,57]) 1061), (.str (u [61,68,65]) 1065), (.str (u [61,68,66]) 1069), (.str (u [61,68,67]) 1073), (.str (u [61,68,68]) 1077), (.str (u [61,68,69]) 1081), (.str (u [61,68,70]) 1085), (.str (u [61,69,48]) 1089), (.str (u [61,69,49]) 1093), (.str (u [61,69,50]) 1097), (.str (u [61,69,51]) 1101), (.str (u [61,69,52]) 1105), (.str (u [61,69,53]) 1109), (.str (u [61,69,54]) 1113), (.str (u [61,69,55]) 1117), (.str (u [61,69,56]) 1121), (.str (u [61,69,57]) 1125), (.str (u [61,69,65]) 1129), (.str (u [61,69,66]) 1133), (.str (u [61,69,67]) 1137), (.str (u [61,69,68]) 1141), (.str (u [61,69,69]) 1145), (.str (u [61,69,70]) 1149), (.str (u [61,70,48]) 1153), (.str (u [61,70,49]) 1157), (.str (u [61,70,50]) 1161), (.str (u [61,70,51]) 1165), (.str (u [61,70,52]) 1169), (.str (u [61,70,53]) 1173), (.str (u [61,70,54]) 1177), (.str (u [61,70,55]) 1181), (.str (u [61,70,56]) 1185), (.str (u [61,70,57]) 1189), (.str (u [61,70,65]) 1193), (.str (u [61,70,66]) 1197), (.str (u [61,70,67]) 1201), (.str (u [61,70,68]) 1205), (.str (u [61,70,69]) 1209), (.str (u [61,70,70]) 1213)]⟩ 0), ⟨[]⟩⟩
noncomputable def q146 (P : Params) : Obj := ⟨(.type PySem.W.SL.s1378417608194177226x14), none, (.fields ⟨[(.bytes ⟨[32,33,34,35,36,37,38,39,40,41,42,43,44,45,46,47,48,49,50,51,52,53,54,55,56,57,58,59,60,62,63,64,65,66,67,68,69,70,71,72,73,74,75,76,77,78,79,80,81,82,83,84,85,86,87,88,89,90,91,92,93,94,95,96,97,98,99,100,101,102,103,104,105,106,107,108,109,110,111,112,113,114,115,116,117,118,119,120,121,122,123,124,125,126,9]⟩ 1438), (.int (Int.ofNat 49) 0)]⟩), ⟨[]⟩⟩
noncomputable def tg2 (P : Params) : BT := (.node (q0 P) (.node (q1 P) (.node (q144 P) (.node (q7 P) (.node (q14 P) .nil .nil) (.node (q20 P) .nil .nil)) (.node (q7 P) (.node (q7 P) .nil .nil) (.node (q25 P) .nil .nil))) (.node (q5 P) (.node (q9 P) (.node (q16 P) .nil .nil) (.node (q24 P) .nil .nil)) (.node (q11 P) (.node (q20 P) .nil .nil) .nil))) (.node (q2 P) (.node (q4 P) (.node (q8 P) (.node (q15 P) .nil .nil) (.node (q145 P) .nil .nil)) (.node (q8 P) (.node (q18 P) .nil .nil) (.node (q146 P) .nil .nil))) (.node (q6 P) (.node (q10 P) (.node (q17 P) .nil .nil) (.node (q7 P) .nil .nil)) (.node (q12 P) (.node (q26 P) .nil .nil) .nil))))
noncomputable def q147 (P : Params) : Obj := ⟨(.type PySem.W.SL.s14018661285674007319x4), none, (.dict ⟨[en P (u [95,95,110,97,109,101,95,95]) 165 (.str (u [99,112,121,51,49,51,46,101,109,97,105,108,46,113,117,111,112,114,105,109,105,109,101]) 1225), en P (u [95,95,100,111,99,95,95]) 166 z, en P (u [95,95,112,97,99,107,97,103,101,95,95]) 167 z, en P (u [95,95,108,111,97,100,101,114,95,95]) 168 (.builtin PySem.W.SL.s7097527257260152453x26), en P (u [95,95,115,112,101,99,95,95]) 169 z, en P (u [95,95,97,110,110,111,116,97,116,105,111,110,115,95,95]) 170 (.ref 6), en P (u [95,95,98,117,105,108,116,105,110,115,95,95]) 171 (.ref 4), en P (u [95,95,102,105,108,101,95,95]) 173 (.str (u [47,99,108,97,105,109,47,99,117,116,46,112,121]) 172), en P (u [95,95,99,97,99,104,101,100,95,95]) 174 z, en P (u [95,81,85,79,80,82,73,95,77,65,80]) 1214 (.ref 17), en P (u [95,81,85,79,80,82,73,95,72,69,65,68,69,82,95,77,65,80]) 1215 (.ref 22), en P (u [95,81,85,79,80,82,73,95,66,79,68,89,95,77,65,80]) 1216 (.ref 24), en P (u [97,115,99,105,105,95,108,111,119,101,114,99,97,115,101]) 1218 (.str (u [97,98,99,100,101,102,103,104,105,106,107,108,109,110,111,112,113,114,115,116,117,118,119,120,121,122]) 1217), en P (u [97,115,99,105,105,95,117,112,112,101,114,99,97,115,101]) 1220 (.str (u [65,66,67,68,69,70,71,72,73,74,75,76,77,78,79,80,81,82,83,84,85,86,87,88,89,90]) 1219), en P (u [97,115,99,105,105,95,108,101,116,116,101,114,115]) 1222 (.str (u [97,98,99,100,101,102,103,104,105,106,107,108,109,110,111,112,113,114,115,116,117,118,119,120,121,122,65,66,67,68,69,70,71,72,73,74,75,76,77,78,79,80,81,82,83,84,85,86,87,88,89,90]) 1221), en P (u [100,105,103,105,116,115]) 1224 (.str (u [48,49,50,51,52,53,54,55,56,57]) 1223), en P (u [99]) 1235 (.int (Int.ofNat 105) 1655)]⟩ 17), ⟨[]⟩⟩
noncomputable def q148 (P : Params) : Obj := ⟨(.type PySem.W.SL.s9222952809800978799x4), none, (.seq ⟨[(.str (u [61,48,48]) 193), (.str (u [61,48,49]) 197), (.str (u [61,48,50]) 201), (.str (u [61,48,51]) 205), (.str (u [61,48,52]) 209), (.str (u [61,48,53]) 213), (.str (u [61,48,54]) 217), (.str (u [61,48,55]) 221), (.str (u [61,48,56]) 225), (.str (u [61,48,57]) 229), (.str (u [61,48,65]) 233), (.str (u [61,48,66]) 237), (.str (u [61,48,67]) 241), (.str (u [61,48,68]) 245), (.str (u [61,48,69]) 249), (.str (u [61,48,70]) 253), (.str (u [61,49,48]) 257), (.str (u [61,49,49]) 261), (.str (u [61,49,50]) 265), (.str (u [61,49,51]) 269), (.str (u [61,49,52]) 273), (.str (u [61,49,53]) 277), (.str (u [61,49,54]) 281), (.str (u [61,49,55]) 285), (.str (u [61,49,56]) 289), (.str (u [61,49,57]) 293), (.str (u [61,49,65]) 297), (.str (u [61,49,66]) 301), (.str (u [61,49,67]) 305), (.str (u [61,49,68]) 309), (.str (u [61,49,69]) 313), (.str (u [61,49,70]) 317), (.str (u [32]) 1441), (.str (u [33]) 1444), (.str (u [34]) 1447), (.str (u [35]) 1450), (.str (u [36]) 1453), (.str (u [37]) 1456), (.str (u [38]) 1459), (.str (u [39]) 1462), (.str (u [40]) 1465), (.str (u [41]) 1468), (.str (u [42]) 1471), (.str (u [43]) 1474), (.str (u [44]) 1477), (.str (u [45]) 1480), (.str (u [46]) 1483), (.str (u [47]) 1486), (.str (u [48]) 1489), (.str (u [49]) 1492), (.str (u [50]) 1495), (.str (u [51]) 1498), (.str (u [52]) 1501), (.str (u [53]) 1504), (.str (u [54]) 1507), (.str (u [55]) 1510), (.str (u [56]) 1513), (.str (u [57]) 1516), (.str (u [58]) 1519), (.str (u [59]) 1522), (.str (u [60]) 1525), (.str (u [61,51,68]) 437), (.str (u [62]) 1528), (.str (u [63]) 1531), (.str (u [64]) 1534), (.str (u [65]) 1537), (.str (u [66]) 1540), (.str (u [67]) 1543), (.str (u [68]) 1546), (.str (u [69]) 1549), (.str (u [70]) 1552), (.str (u [71]) 1555), (.str (u [72]) 1558), (.str (u [73]) 1561), (.str (u [74]) 1564), (.str (u [75]) 1567), (.str (u [76]) 1570), (.str (u [77]) 1573), (.str (u [78]) 1576), (.str (u [79]) 1579), (.str (u [80]) 1582), (.str (u [81]) 1585), (.str (u [82]) 1588), (.str (u [83]) 1591), (.str (u [84]) 1594), (.str (u [85]) 1597), (.str (u [86]) 1600), (.str (u [87]) 1603), (.str (u [88]) 1606), (.str (u [89]) 1609), (.str (u [90]) 1612), (.str (u [91]) 1615), (.str (u [92]) 1618), (.str (u [93]) 1621), (.str (u [94]) 1624), (.str (u [95]) 1627), (.str (u [96]) 1630), (.str (u [97]) 1633), (.str (u [98]) 1636), (.str (u [99]) 1639), (.str (u [100]) 1642), (.str (u [101]) 1645), (.str (u [102]) 1648), (.str (u [103]) 1651), (.str (u [104]) 1654), (.str (u [105]) 1657), (.str (u [61,54,65]) 617), (.str (u [61,54,66]) 621), (.str (u [61,54,67]) 625), (.str (u [61,54,68]) 629), (.str (u [61,54,69]) 633), (.str (u [61,54,70]) 637), (.str (u [61,55,48]) 641), (.str (u [61,55,49]) 645), (.str (u [61,55,50]) 649), (.str (u [61,55,51]) 653), (.str (u [61,55,52]) 657), (.str (u [61,55,53]) 661), (.str (u [61,55,54]) 665), (.str (u [61,55,55]) 669), (.str (u [61,55,56]) 673), (.str (u [61,55,57]) 677), (.str (u [61,55,65]) 681), (.str (u [61,55,66]) 685), (.str (u [61,55,67]) 689), (.str (u [61,55,68]) 693), (.str (u [61,55,69]) 697), (.str (u [61,55,70]) 701), (.str (u [61,56,48]) 705), (.str (u [61,56,49]) 709), (.str (u [61,56,50]) 713), (.str (u [61,56,51]) 717), (.str (u [61,56,52]) 721), (.str (u [61,56,53]) 725), (.str (u [61,56,54]) 729), (.str (u [61,56,55]) 733), (.str (u [61,56,56]) 737), (.str (u [61,56,57]) 741), (.str (u [61,56,65]) 745), (.str (u [61,56,66]) 749), (.str (u [61,56,67]) 753), (.str (u [61,56,68]) 757), (.str (u [61,56,69]) 761), (.str (u [61,56,70]) 765), (.str (u [61,57,48]) 769), (.str (u [61,57,49]) 773), (.str (u [61,57,50]) 777), (.str (u [61,57,51]) 781), (.str (u [61,57,52]) 785), (.str (u [61,57,53]) 789), (.str (u [61,57,54]) 793), (.str (u [61,57,55]) 797), (.str (u [61,57,56]) 801), (.str (u [61,57,57]) 805), (.str (u [61,57,65]) 809), (.str (u [61,57,66]) 813), (.str (u [61,57,67]) 817), (.str (u [61,57,68]) 821), (.str (u [61,57,69]) 825), (.str (u [61,57,70]) 829), (.str (u [61,65,48]) 833), (.str (u [61,65,49]) 837), (.str (u [61,65,50]) 841), (.str (u [61,65,51]) 845), (.str (u [61,65,52]) 849), (.str (u [61,65,53]) 853), (.str (u [61,65,54]) 857), (.str (u [61,65,55]) 861), (.str (u [61,65,56]) 865), (.str (u [61,65,57]) 869), (.str (u [61,65,65]) 873), (.str (u [61,65,66]) 877), (.str (u [61,65,67]) 881), (.str (u [61,65,68]) 885), (.str (u [61,65,69]) 889), (.str (u [61,65,70]) 893), (.str (u [61,66,48]) 897), (.str (u [61,66,49]) 901), (.str (u [61,66,50]) 905), (.str (u [61,66,51]) 909), (.str (u [61,66,52]) 913), (.str (u [61,66,53]) 917), (.str (u [61,66,54]) 921), (.str (u [61,66,55]) 925), (.str (u [61,66,56]) 929), (.str (u [61,66,57]) 933), (.str (u [61,66,65]) 937), (.str (u [61,66,66]) 941), (.str (u [61,66,67]) 945), (.str (u [61,66,68]) 949), (.str (u [61,66,69]) 953), (.str (u [61,66,70]) 957), (.str (u [61,67,48]) 961), (.str (u [61,67,49]) 965), (.str (u [61,67,50]) 969), (.str (u [61,67,51]) 973), (.str (u [61,67,52]) 977), (.str (u [61,67,53]) 981), (.str (u [61,67,54]) 985), (.str (u [61,67,55]) 989), (.str (u [61,67,56]) 993), (.str (u [61,67,57]) 997), (.str (u [61,67,65]) 1001), (.str (u [61,67,66]) 1005), (.str (u [61,67,67]) 1009), (.str (u [61,67,68]) 1013), (.str (u [61,67,69]) 1017), (.str (u [61,67,70]) 1021), (.str (u [61,68,48]) 1025), (.str (u [61,68,49]) 1029), (.str (u [61,68,50]) 1033), (.str (u [61,68,51]) 1037), (.str (u [61,68,52]) 1041), (.str (u [61,68,53]) 1045), (.str (u [61,68,54]) 1049), (.str (u [61,68,55]) 1053), (.str (u [61,68,56]) 1057), (.str (u [61,68,57]) 1061), (.str (u [61,68,65]) 1065), (.str (u [61,68,66]) 1069), (.str (u [61,68,67]) 1073), (.str (u [61,68,68]) 1077), (.str (u [61,68,69]) 1081), (.str (u [61,68,70]) 1085), (.str (u [61,69,48]) 1089), (.str (u [61,69,49]) 1093), (.str (u [61,69,50]) 1097), (.str (u [61,69,51]) 1101), (.str (u [61,69,52]) 1105), (.str (u [61,69,53]) 1109), (.str (u [61,69,54]) 1113), (.str (u [61,69,55]) 1117), (.str (u [61,69,56]) 1121), (.str (u [61,69,57]) 1125), (.str (u [61,69,65]) 1129), (.str (u [61,69,66]) 1133), (.str (u [61,69,67]) 1137), (.str (u [61,69,68]) 1141), (.str (u [61,69,69]) 1145), (.str (u [61,69,70]) 1149), (.str (u [61,70,48]) 1153), (.str (u [61,70,49]) 1157), (.str (u [61,70,50]) 1161), (.str (u [61,70,51]) 1165), (.str (u [61,70,52]) 1169), (.str (u [61,70,53]) 1173), (.str (u [61,70,54]) 1177), (.str (u [61,70,55]) 1181), (.str (u [61,70,56]) 1185), (.str (u [61,70,57]) 1189), (.str (u [61,70,65]) 1193), (.str (u [61,70,66]) 1197), (.str (u [61,70,67]) 1201), (.str (u [61,70,68]) 1205), (.str (u [61,70,69]) 1209), (.str (u [61,70,70]) 1213)]⟩ 0), ⟨[]⟩⟩
noncomputable def q149 (P : Params) : Obj := ⟨(.type PySem.W.SL.s1378417608194177226x14), none, (.fields ⟨[(.bytes ⟨[32,33,34,35,36,37,38,39,40,41,42,43,44,45,46,47,48,49,50,51,52,53,54,55,56,57,58,59,60,62,63,64,65,66,67,68,69,70,71,72,73,74,75,76,77,78,79,80,81,82,83,84,85,86,87,88,89,90,91,92,93,94,95,96,97,98,99,100,101,102,103,104,105,106,107,108,109,110,111,112,113,114,115,116,117,118,119,120,121,122,123,124,125,126,9]⟩ 1438), (.int (Int.ofNat 73) 0)]⟩), ⟨[]⟩⟩
noncomputable def tg3 (P : Params) : BT := (.node (q0 P) (.node (q1 P) (.node (q147 P) (.node (q7 P) (.node (q14 P) .nil .nil) (.node (q20 P) .nil .nil)) (.node (q7 P) (.node (q7 P) .nil .nil) (.node (q25 P) .nil .nil))) (.node (q5 P) (.node (q9 P) (.node (q16 P) .nil .nil) (.node (q24 P) .nil .nil)) (.node (q11 P) (.node (q20 P) .nil .nil) .nil))) (.node (q2 P) (.node (q4 P) (.node (q8 P) (.node (q15 P) .nil .nil) (.node (q148 P) .nil .nil)) (.node (q8 P) (.node (q18 P) .nil .nil) (.node (q149 P) .nil .nil))) (.node (q6 P) (.node (q10 P) (.node (q17 P) .nil .nil) (.node (q7 P) .nil .nil)) (.node (q12 P) (.node (q26 P) .nil .nil) .nil))))
noncomputable def q150 (P : Params) : Obj := ⟨(.type PySem.W.SL.s1378417608194177226x14), none, (.fields ⟨[(.bytes ⟨[32,33,34,35,36,37,38,39,40,41,42,43,44,45,46,47,48,49,50,51,52,53,54,55,56,57,58,59,60,62,63,64,65,66,67,68,69,70,71,72,73,74,75,76,77,78,79,80,81,82,83,84,85,86,87,88,89,90,91,92,93,94,95,96,97,98,99,100,101,102,103,104,105,106,107,108,109,110,111,112,113,114,115,116,117,118,119,120,121,122,123,124,125,126,9]⟩ 1438), (.int (Int.ofNat 95) 0)]⟩), ⟨[]⟩⟩
noncomputable def tg4 (P : Params) : BT := (.node (q0 P) (.node (q1 P) (.node (q27 P) (.node (q7 P) (.node (q14 P) .nil .nil) (.node (q20 P) .nil .nil)) (.node (q7 P) (.node (q7 P) .nil .nil) (.node (q25 P) .nil .nil))) (.node (q5 P) (.node (q9 P) (.node (q16 P) .nil .nil) (.node (q24 P) .nil .nil)) (.node (q11 P) (.node (q20 P) .nil .nil) .nil))) (.node (q2 P) (.node (q4 P) (.node (q8 P) (.node (q15 P) .nil .nil) (.node (q28 P) .nil .nil)) (.node (q8 P) (.node (q18 P) .nil .nil) (.node (q150 P) .nil .nil))) (.node (q6 P) (.node (q10 P) (.node (q17 P) .nil .nil) (.node (q7 P) .nil .nil)) (.node (q12 P) (.node (q26 P) .nil .nil) .nil))))
end MineHead

end
section
open PySem PySem.Calls PySem.W PyProof.Rows
set_option Elab.async false
set_option maxRecDepth 100000
set_option maxHeartbeats 8000000
namespace MineHead
noncomputable def tenv : Env := { scope := tp.main.scope, locals := mainNs, globals := mainNs, cells := [], code := .ref 13, frame := some 14 }
noncomputable def tcode : Code := .body (behindTheImports tp) tenv
noncomputable def SS (t : BT) (n k : Nat) (os : OsState) : SharedT := ⟨t, n, {}, ⟨[]⟩, {}, k, os⟩
noncomputable def thr (l : List Stmt) (q : Pos) : Thread := ⟨(PySem.W.Fast.tw12563942051412417395 l tenv).wrap doneF deadEnd id id, tcode, q, [topFrame ⟨0, 0, 0, 0⟩]⟩
noncomputable def runT (w : World) (n : Nat) (s : SharedT) (t : Thread) : Option (Flow × SharedT × Code × Pos) := PySem.W.Fast.tw10110043849684766642 PySem.W.Fast.tw14364793385576792824 tp w 11 (some (.ref 6)) 1 n s t
noncomputable def cutL (a n : Nat) : List Stmt := (tp.main.body.drop a).take n
theorem e2 (w : World) (os : OsState) : runT w 109 (SS (t1 w.params) 21 1215 os) (thr (cutL 1 7) ⟨1, 0, 1, 11⟩) = some (.next, SS (t2 w.params) 25 1227 os, tcode, ⟨8, 0, 8, 8⟩) := by kernel_rfl
theorem e4 (w : World) (os : OsState) : runT w 25 (SS (t3 w.params) 28 1435 os) (thr (cutL 9 1) ⟨9, 9, 9, 74⟩) = some (.next, SS (t4 w.params) 28 1438 os, tcode, ⟨11, 0, 11, 28⟩) := by kernel_rfl
theorem e6f (w : World) (os : OsState) : runT (w.withFollow "special-get-raises" false) 372 (SS (t5 (w.withFollow "special-get-raises" false).params) 31 1724 os) (thr (cutL 11 11) ⟨12, 9, 12, 110⟩) = some (.next, SS (t6 (w.withFollow "special-get-raises" false).params) 86 1791 os, tcode, ⟨34, 0, 35, 16⟩) := by kernel_rfl
theorem e6t (w : World) (os : OsState) : runT (w.withFollow "special-get-raises" true) 372 (SS (t5 (w.withFollow "special-get-raises" true).params) 31 1724 os) (thr (cutL 11 11) ⟨12, 9, 12, 110⟩) = some (.next, SS (t6 (w.withFollow "special-get-raises" true).params) 86 1791 os, tcode, ⟨34, 0, 35, 16⟩) := by kernel_rfl
theorem e7 (w : World) (os : OsState) : runT w 307 (SS (t6 w.params) 86 1791 os) (thr (cutL 22 11) ⟨34, 0, 35, 16⟩) = some (.next, SS (t7 w.params) 150 1876 os, tcode, ⟨98, 0, 123, 15⟩) := by kernel_rfl
end MineHead

end
section
open PySem PySem.Calls PySem.W PyProof.Rows
set_option Elab.async false
set_option maxRecDepth 100000
set_option maxHeartbeats 8000000
namespace MineHead
noncomputable def runG (w : World) (n : Nat) (s : SharedT) (t : Thread) : Option (SharedT × Thread) := PySem.W.Fast.tw10295753902157049106 PySem.W.Fast.tw14364793385576792824 tp w 11 (some (.ref 6)) 1 n s t
noncomputable def bt (C : Code) (q : Pos) (F : Frame) : Thread := ⟨PySem.W.Fast.tw11892475500146522536 PySem.W.Fast.tw14364793385576792824 C, C, q, [F, topFrame ⟨0, 0, 0, 0⟩]⟩
noncomputable def Kof : Option (SharedT × Thread) → Result → Sem Fin
  | some (_, ⟨_, _, _, .ret k _ _ _ _ _ _ :: _⟩) => k
  | _ => fun _ => .unsupported ""
noncomputable def valOf : Stmt → Expr | .Assign _ v _ => v | _ => .Name Str.empty ⟨0, 0, 0, 0⟩
noncomputable def scOf : Expr → Scope | .ListComp _ _ s _ => s | _ => tp.main.scope
noncomputable def loopOf : Stmt → Value → Code | .For t _ b o _, it => .forLoop t it b o tenv | _, _ => tcode
noncomputable def C1 : Code := .compLoop (valOf (tn 0)) 0 (.ref 16) (.ref 17) { scope := scOf (valOf (tn 0)), locals := 18, globals := 3, cells := [], code := .ref 13, frame := some 14 }
noncomputable def C3 : Code := loopOf (tn 8) (.ref 25)
noncomputable def C5 : Code := loopOf (tn 10) (.ref 28)
noncomputable def F1 (K : Result → Sem Fin) : Frame := .ret K none true [.ref 18, .ref 17] tcode ⟨1, 36, 1, 46⟩ []
noncomputable def F3 (K : Result → Sem Fin) : Frame := .ret K none false [] tcode ⟨9, 9, 9, 74⟩ []
noncomputable def F5 (K : Result → Sem Fin) : Frame := .ret K none false [] tcode ⟨12, 9, 12, 110⟩ []
noncomputable def K1ff (w : World) (os : OsState) : Result → Sem Fin := Kof (runG ((w.withFollow "comprehension-iter-twice" false).withFollow "special-get-raises" false) 52 (SS (tb ((w.withFollow "comprehension-iter-twice" false).withFollow "special-get-raises" false).params) 15 187 os) (thr (cutL 0 1) ⟨0, 0, 0, 0⟩))
theorem a1ff (w : World) (os : OsState) : runG ((w.withFollow "comprehension-iter-twice" false).withFollow "special-get-raises" false) 52 (SS (tb ((w.withFollow "comprehension-iter-twice" false).withFollow "special-get-raises" false).params) 15 187 os) (thr (cutL 0 1) ⟨0, 0, 0, 0⟩) = some (SS (tc0 ((w.withFollow "comprehension-iter-twice" false).withFollow "special-get-raises" false).params) 19 190 os, bt C1 ⟨1, 36, 1, 46⟩ (F1 (K1ff w os))) := by kernel_rfl
theorem z1ff (w : World) (os : OsState) : runT ((w.withFollow "comprehension-iter-twice" false).withFollow "special-get-raises" false) 28 (SS (tc8 ((w.withFollow "comprehension-iter-twice" false).withFollow "special-get-raises" false).params) 19 1214 os) (bt C1 ⟨1, 15, 1, 26⟩ (F1 (K1ff w os))) = some (.next, SS (t1 ((w.withFollow "comprehension-iter-twice" false).withFollow "special-get-raises" false).params) 21 1215 os, tcode, ⟨1, 0, 1, 11⟩) := by kernel_rfl
noncomputable def K1ft (w : World) (os : OsState) : Result → Sem Fin := Kof (runG ((w.withFollow "comprehension-iter-twice" false).withFollow "special-get-raises" true) 52 (SS (tb ((w.withFollow "comprehension-iter-twice" false).withFollow "special-get-raises" true).params) 15 187 os) (thr (cutL 0 1) ⟨0, 0, 0, 0⟩))
theorem a1ft (w : World) (os : OsState) : runG ((w.withFollow "comprehension-iter-twice" false).withFollow "special-get-raises" true) 52 (SS (tb ((w.withFollow "comprehension-iter-twice" false).withFollow "special-get-raises" true).params) 15 187 os) (thr (cutL 0 1) ⟨0, 0, 0, 0⟩) = some (SS (tc0 ((w.withFollow "comprehension-iter-twice" false).withFollow "special-get-raises" true).params) 19 190 os, bt C1 ⟨1, 36, 1, 46⟩ (F1 (K1ft w os))) := by kernel_rfl
theorem z1ft (w : World) (os : OsState) : runT ((w.withFollow "comprehension-iter-twice" false).withFollow "special-get-raises" true) 28 (SS (tc8 ((w.withFollow "comprehension-iter-twice" false).withFollow "special-get-raises" true).params) 19 1214 os) (bt C1 ⟨1, 15, 1, 26⟩ (F1 (K1ft w os))) = some (.next, SS (t1 ((w.withFollow "comprehension-iter-twice" false).withFollow "special-get-raises" true).params) 21 1215 os, tcode, ⟨1, 0, 1, 11⟩) := by kernel_rfl
noncomputable def K1tf (w : World) (os : OsState) : Result → Sem Fin := Kof (runG ((w.withFollow "comprehension-iter-twice" true).withFollow "special-get-raises" false) 42 (SS (tb ((w.withFollow "comprehension-iter-twice" true).withFollow "special-get-raises" false).params) 15 187 os) (thr (cutL 0 1) ⟨0, 0, 0, 0⟩))
theorem a1tf (w : World) (os : OsState) : runG ((w.withFollow "comprehension-iter-twice" true).withFollow "special-get-raises" false) 42 (SS (tb ((w.withFollow "comprehension-iter-twice" true).withFollow "special-get-raises" false).params) 15 187 os) (thr (cutL 0 1) ⟨0, 0, 0, 0⟩) = some (SS (tc0 ((w.withFollow "comprehension-iter-twice" true).withFollow "special-get-raises" false).params) 19 190 os, bt C1 ⟨1, 36, 1, 46⟩ (F1 (K1tf w os))) := by kernel_rfl
theorem z1tf (w : World) (os : OsState) : runT ((w.withFollow "comprehension-iter-twice" true).withFollow "special-get-raises" false) 38 (SS (tc8 ((w.withFollow "comprehension-iter-twice" true).withFollow "special-get-raises" false).params) 19 1214 os) (bt C1 ⟨1, 15, 1, 26⟩ (F1 (K1tf w os))) = some (.next, SS (t1 ((w.withFollow "comprehension-iter-twice" true).withFollow "special-get-raises" false).params) 21 1215 os, tcode, ⟨1, 0, 1, 11⟩) := by kernel_rfl
noncomputable def K1tt (w : World) (os : OsState) : Result → Sem Fin := Kof (runG ((w.withFollow "comprehension-iter-twice" true).withFollow "special-get-raises" true) 42 (SS (tb ((w.withFollow "comprehension-iter-twice" true).withFollow "special-get-raises" true).params) 15 187 os) (thr (cutL 0 1) ⟨0, 0, 0, 0⟩))
theorem a1tt (w : World) (os : OsState) : runG ((w.withFollow "comprehension-iter-twice" true).withFollow "special-get-raises" true) 42 (SS (tb ((w.withFollow "comprehension-iter-twice" true).withFollow "special-get-raises" true).params) 15 187 os) (thr (cutL 0 1) ⟨0, 0, 0, 0⟩) = some (SS (tc0 ((w.withFollow "comprehension-iter-twice" true).withFollow "special-get-raises" true).params) 19 190 os, bt C1 ⟨1, 36, 1, 46⟩ (F1 (K1tt w os))) := by kernel_rfl
theorem z1tt (w : World) (os : OsState) : runT ((w.withFollow "comprehension-iter-twice" true).withFollow "special-get-raises" true) 38 (SS (tc8 ((w.withFollow "comprehension-iter-twice" true).withFollow "special-get-raises" true).params) 19 1214 os) (bt C1 ⟨1, 15, 1, 26⟩ (F1 (K1tt w os))) = some (.next, SS (t1 ((w.withFollow "comprehension-iter-twice" true).withFollow "special-get-raises" true).params) 21 1215 os, tcode, ⟨1, 0, 1, 11⟩) := by kernel_rfl
theorem k1_0 (w : World) (os : OsState) (K : Result → Sem Fin) : runG w 1184 (SS (tc0 w.params) 19 190 os) (bt C1 ⟨1, 36, 1, 46⟩ (F1 K)) = some (SS (tc1 w.params) 19 318 os, bt C1 ⟨1, 15, 1, 26⟩ (F1 K)) := by kernel_rfl
theorem k1_1 (w : World) (os : OsState) (K : Result → Sem Fin) : runG w 1184 (SS (tc1 w.params) 19 318 os) (bt C1 ⟨1, 15, 1, 26⟩ (F1 K)) = some (SS (tc2 w.params) 19 446 os, bt C1 ⟨1, 15, 1, 26⟩ (F1 K)) := by kernel_rfl
theorem k1_2 (w : World) (os : OsState) (K : Result → Sem Fin) : runG w 1184 (SS (tc2 w.params) 19 446 os) (bt C1 ⟨1, 15, 1, 26⟩ (F1 K)) = some (SS (tc3 w.params) 19 574 os, bt C1 ⟨1, 15, 1, 26⟩ (F1 K)) := by kernel_rfl
theorem k1_3 (w : World) (os : OsState) (K : Result → Sem Fin) : runG w 1184 (SS (tc3 w.params) 19 574 os) (bt C1 ⟨1, 15, 1, 26⟩ (F1 K)) = some (SS (tc4 w.params) 19 702 os, bt C1 ⟨1, 15, 1, 26⟩ (F1 K)) := by kernel_rfl
theorem k1_4 (w : World) (os : OsState) (K : Result → Sem Fin) : runG w 1184 (SS (tc4 w.params) 19 702 os) (bt C1 ⟨1, 15, 1, 26⟩ (F1 K)) = some (SS (tc5 w.params) 19 830 os, bt C1 ⟨1, 15, 1, 26⟩ (F1 K)) := by kernel_rfl
theorem k1_5 (w : World) (os : OsState) (K : Result → Sem Fin) : runG w 1184 (SS (tc5 w.params) 19 830 os) (bt C1 ⟨1, 15, 1, 26⟩ (F1 K)) = some (SS (tc6 w.params) 19 958 os, bt C1 ⟨1, 15, 1, 26⟩ (F1 K)) := by kernel_rfl
theorem k1_6 (w : World) (os : OsState) (K : Result → Sem Fin) : runG w 1184 (SS (tc6 w.params) 19 958 os) (bt C1 ⟨1, 15, 1, 26⟩ (F1 K)) = some (SS (tc7 w.params) 19 1086 os, bt C1 ⟨1, 15, 1, 26⟩ (F1 K)) := by kernel_rfl
theorem k1_7 (w : World) (os : OsState) (K : Result → Sem Fin) : runG w 1184 (SS (tc7 w.params) 19 1086 os) (bt C1 ⟨1, 15, 1, 26⟩ (F1 K)) = some (SS (tc8 w.params) 19 1214 os, bt C1 ⟨1, 15, 1, 26⟩ (F1 K)) := by kernel_rfl
noncomputable def K3f (w : World) (os : OsState) : Result → Sem Fin := Kof (runG (w.withFollow "special-get-raises" false) 89 (SS (t2 (w.withFollow "special-get-raises" false).params) 25 1227 os) (thr (cutL 8 1) ⟨8, 0, 8, 8⟩))
theorem a3f (w : World) (os : OsState) : runG (w.withFollow "special-get-raises" false) 89 (SS (t2 (w.withFollow "special-get-raises" false).params) 25 1227 os) (thr (cutL 8 1) ⟨8, 0, 8, 8⟩) = some (SS (td0 (w.withFollow "special-get-raises" false).params) 26 1237 os, bt C3 ⟨10, 4, 10, 25⟩ (F3 (K3f w os))) := by kernel_rfl
theorem z3f (w : World) (os : OsState) : runT (w.withFollow "special-get-raises" false) 18 (SS (td3 (w.withFollow "special-get-raises" false).params) 26 1435 os) (bt C3 ⟨10, 4, 10, 25⟩ (F3 (K3f w os))) = some (.next, SS (t3 (w.withFollow "special-get-raises" false).params) 28 1435 os, tcode, ⟨9, 9, 9, 74⟩) := by kernel_rfl
noncomputable def K3t (w : World) (os : OsState) : Result → Sem Fin := Kof (runG (w.withFollow "special-get-raises" true) 89 (SS (t2 (w.withFollow "special-get-raises" true).params) 25 1227 os) (thr (cutL 8 1) ⟨8, 0, 8, 8⟩))
theorem a3t (w : World) (os : OsState) : runG (w.withFollow "special-get-raises" true) 89 (SS (t2 (w.withFollow "special-get-raises" true).params) 25 1227 os) (thr (cutL 8 1) ⟨8, 0, 8, 8⟩) = some (SS (td0 (w.withFollow "special-get-raises" true).params) 26 1237 os, bt C3 ⟨10, 4, 10, 25⟩ (F3 (K3t w os))) := by kernel_rfl
theorem z3t (w : World) (os : OsState) : runT (w.withFollow "special-get-raises" true) 18 (SS (td3 (w.withFollow "special-get-raises" true).params) 26 1435 os) (bt C3 ⟨10, 4, 10, 25⟩ (F3 (K3t w os))) = some (.next, SS (t3 (w.withFollow "special-get-raises" true).params) 28 1435 os, tcode, ⟨9, 9, 9, 74⟩) := by kernel_rfl
theorem k3_0 (w : World) (os : OsState) (K : Result → Sem Fin) : runG w 990 (SS (td0 w.params) 26 1237 os) (bt C3 ⟨10, 4, 10, 25⟩ (F3 K)) = some (SS (td1 w.params) 26 1303 os, bt C3 ⟨10, 4, 10, 25⟩ (F3 K)) := by kernel_rfl
theorem k3_1 (w : World) (os : OsState) (K : Result → Sem Fin) : runG w 990 (SS (td1 w.params) 26 1303 os) (bt C3 ⟨10, 4, 10, 25⟩ (F3 K)) = some (SS (td2 w.params) 26 1369 os, bt C3 ⟨10, 4, 10, 25⟩ (F3 K)) := by kernel_rfl
theorem k3_2 (w : World) (os : OsState) (K : Result → Sem Fin) : runG w 990 (SS (td2 w.params) 26 1369 os) (bt C3 ⟨10, 4, 10, 25⟩ (F3 K)) = some (SS (td3 w.params) 26 1435 os, bt C3 ⟨10, 4, 10, 25⟩ (F3 K)) := by kernel_rfl
noncomputable def K5f (w : World) (os : OsState) : Result → Sem Fin := Kof (runG (w.withFollow "special-get-raises" false) 55 (SS (t4 (w.withFollow "special-get-raises" false).params) 28 1438 os) (thr (cutL 10 1) ⟨11, 0, 11, 28⟩))
theorem a5f (w : World) (os : OsState) : runG (w.withFollow "special-get-raises" false) 55 (SS (t4 (w.withFollow "special-get-raises" false).params) 28 1438 os) (thr (cutL 10 1) ⟨11, 0, 11, 28⟩) = some (SS (tg0 (w.withFollow "special-get-raises" false).params) 29 1442 os, bt C5 ⟨13, 4, 13, 23⟩ (F5 (K5f w os))) := by kernel_rfl
theorem z5f (w : World) (os : OsState) : runT (w.withFollow "special-get-raises" false) 18 (SS (tg4 (w.withFollow "special-get-raises" false).params) 29 1724 os) (bt C5 ⟨13, 4, 13, 23⟩ (F5 (K5f w os))) = some (.next, SS (t5 (w.withFollow "special-get-raises" false).params) 31 1724 os, tcode, ⟨12, 9, 12, 110⟩) := by kernel_rfl
noncomputable def K5t (w : World) (os : OsState) : Result → Sem Fin := Kof (runG (w.withFollow "special-get-raises" true) 55 (SS (t4 (w.withFollow "special-get-raises" true).params) 28 1438 os) (thr (cutL 10 1) ⟨11, 0, 11, 28⟩))
theorem a5t (w : World) (os : OsState) : runG (w.withFollow "special-get-raises" true) 55 (SS (t4 (w.withFollow "special-get-raises" true).params) 28 1438 os) (thr (cutL 10 1) ⟨11, 0, 11, 28⟩) = some (SS (tg0 (w.withFollow "special-get-raises" true).params) 29 1442 os, bt C5 ⟨13, 4, 13, 23⟩ (F5 (K5t w os))) := by kernel_rfl
theorem z5t (w : World) (os : OsState) : runT (w.withFollow "special-get-raises" true) 18 (SS (tg4 (w.withFollow "special-get-raises" true).params) 29 1724 os) (bt C5 ⟨13, 4, 13, 23⟩ (F5 (K5t w os))) = some (.next, SS (t5 (w.withFollow "special-get-raises" true).params) 31 1724 os, tcode, ⟨12, 9, 12, 110⟩) := by kernel_rfl
theorem k5_0 (w : World) (os : OsState) (K : Result → Sem Fin) : runG w 1080 (SS (tg0 w.params) 29 1442 os) (bt C5 ⟨13, 4, 13, 23⟩ (F5 K)) = some (SS (tg1 w.params) 29 1514 os, bt C5 ⟨13, 4, 13, 23⟩ (F5 K)) := by kernel_rfl
theorem k5_1 (w : World) (os : OsState) (K : Result → Sem Fin) : runG w 1080 (SS (tg1 w.params) 29 1514 os) (bt C5 ⟨13, 4, 13, 23⟩ (F5 K)) = some (SS (tg2 w.params) 29 1586 os, bt C5 ⟨13, 4, 13, 23⟩ (F5 K)) := by kernel_rfl
theorem k5_2 (w : World) (os : OsState) (K : Result → Sem Fin) : runG w 1080 (SS (tg2 w.params) 29 1586 os) (bt C5 ⟨13, 4, 13, 23⟩ (F5 K)) = some (SS (tg3 w.params) 29 1658 os, bt C5 ⟨13, 4, 13, 23⟩ (F5 K)) := by kernel_rfl
theorem k5_3 (w : World) (os : OsState) (K : Result → Sem Fin) : runG w 990 (SS (tg3 w.params) 29 1658 os) (bt C5 ⟨13, 4, 13, 23⟩ (F5 K)) = some (SS (tg4 w.params) 29 1724 os, bt C5 ⟨13, 4, 13, 23⟩ (F5 K)) := by kernel_rfl
end MineHead

end
section
open PySem PySem.Calls PySem.W PyProof.Rows
set_option Elab.async false
set_option maxRecDepth 100000
set_option maxHeartbeats 8000000
namespace MineHead
theorem run_of {w : World} {n : Nat} {s s' : SharedT} {t : Thread} {q' : Pos} (h : runT w n s t = some (.next, s', tcode, q')) : segRun treeTable tp w 11 (some (.ref 6)) 1 n s.abs t = some (.next, s'.abs, tcode, q') := by
  unfold runT at h
  rw [← PySem.W.Fast.te10110043849684766642, ← PySem.W.Fast.te14364793385576792824] at h
  exact segRun_of h
theorem go_of {w : World} {n : Nat} {s s' : SharedT} {t t' : Thread} (h : runG w n s t = some (s', t')) : segGo treeTable tp w 11 (some (.ref 6)) 1 n s.abs t = some (s'.abs, t') := by
  unfold runG at h
  rw [← PySem.W.Fast.te10295753902157049106, ← PySem.W.Fast.te14364793385576792824] at h
  exact segGo_of h
theorem thr_eq (l : List Stmt) (q : Pos) : thr l q = piecesOf l tenv tcode q [topFrame ⟨0, 0, 0, 0⟩] := by
  unfold thr
  rw [← PySem.W.Fast.te12563942051412417395]
noncomputable def Gr (l : List Stmt) (q q' : Pos) (n : Nat) (s s' : Params → OsState → SharedT) (os : OsState) (w : World) : Prop := segRun treeTable tp w 11 (some (.ref 6)) 1 n (s w.params os).abs (piecesOf l tenv tcode q [topFrame ⟨0, 0, 0, 0⟩]) = some (.next, (s' w.params os).abs, tcode, q')
theorem gr_of {l : List Stmt} {q q' : Pos} {n : Nat} {s s' : Params → OsState → SharedT} {os : OsState} {w : World} (h : segRun treeTable tp w 11 (some (.ref 6)) 1 n (s w.params os).abs (thr l q) = some (.next, (s' w.params os).abs, tcode, q')) : Gr l q q' n s s' os w := by
  rw [thr_eq] at h; exact h
theorem gr_e {l : List Stmt} {q q' : Pos} {n : Nat} {s s' : Params → OsState → SharedT} {os : OsState} {w : World} (h : runT w n (s w.params os) (thr l q) = some (.next, s' w.params os, tcode, q')) : Gr l q q' n s s' os w := gr_of (run_of h)
noncomputable def G1 (os : OsState) (w : World) : Prop := Gr (cutL 0 1) ⟨0, 0, 0, 0⟩ ⟨1, 0, 1, 11⟩ 9552 (fun P os => SS (tb P) 15 187 os) (fun P os => SS (t1 P) 21 1215 os) os w
theorem y1ff (os : OsState) (w : World) : G1 os ((w.withFollow "comprehension-iter-twice" false).withFollow "special-get-raises" false) := gr_of (seg_go (go_of (a1ff w os)) (seg_go (go_of (k1_0 _ os _)) (seg_go (go_of (k1_1 _ os _)) (seg_go (go_of (k1_2 _ os _)) (seg_go (go_of (k1_3 _ os _)) (seg_go (go_of (k1_4 _ os _)) (seg_go (go_of (k1_5 _ os _)) (seg_go (go_of (k1_6 _ os _)) (seg_go (go_of (k1_7 _ os _)) (run_of (z1ff w os)))))))))))
theorem y1ft (os : OsState) (w : World) : G1 os ((w.withFollow "comprehension-iter-twice" false).withFollow "special-get-raises" true) := gr_of (seg_go (go_of (a1ft w os)) (seg_go (go_of (k1_0 _ os _)) (seg_go (go_of (k1_1 _ os _)) (seg_go (go_of (k1_2 _ os _)) (seg_go (go_of (k1_3 _ os _)) (seg_go (go_of (k1_4 _ os _)) (seg_go (go_of (k1_5 _ os _)) (seg_go (go_of (k1_6 _ os _)) (seg_go (go_of (k1_7 _ os _)) (run_of (z1ft w os)))))))))))
theorem y1tf (os : OsState) (w : World) : G1 os ((w.withFollow "comprehension-iter-twice" true).withFollow "special-get-raises" false) := gr_of (seg_go (go_of (a1tf w os)) (seg_go (go_of (k1_0 _ os _)) (seg_go (go_of (k1_1 _ os _)) (seg_go (go_of (k1_2 _ os _)) (seg_go (go_of (k1_3 _ os _)) (seg_go (go_of (k1_4 _ os _)) (seg_go (go_of (k1_5 _ os _)) (seg_go (go_of (k1_6 _ os _)) (seg_go (go_of (k1_7 _ os _)) (run_of (z1tf w os)))))))))))
theorem y1tt (os : OsState) (w : World) : G1 os ((w.withFollow "comprehension-iter-twice" true).withFollow "special-get-raises" true) := gr_of (seg_go (go_of (a1tt w os)) (seg_go (go_of (k1_0 _ os _)) (seg_go (go_of (k1_1 _ os _)) (seg_go (go_of (k1_2 _ os _)) (seg_go (go_of (k1_3 _ os _)) (seg_go (go_of (k1_4 _ os _)) (seg_go (go_of (k1_5 _ os _)) (seg_go (go_of (k1_6 _ os _)) (seg_go (go_of (k1_7 _ os _)) (run_of (z1tt w os)))))))))))
theorem x1 (os : OsState) (w : World) : G1 os w :=
  byRow2 "special-get-raises" (P := G1 os)
    (byRow2 "comprehension-iter-twice" (P := fun w => G1 os (w.withFollow "special-get-raises" false)) (y1ff os) (y1tf os))
    (byRow2 "comprehension-iter-twice" (P := fun w => G1 os (w.withFollow "special-get-raises" true)) (y1ft os) (y1tt os)) w
noncomputable def G3 (os : OsState) (w : World) : Prop := Gr (cutL 8 1) ⟨8, 0, 8, 8⟩ ⟨9, 9, 9, 74⟩ 3077 (fun P os => SS (t2 P) 25 1227 os) (fun P os => SS (t3 P) 28 1435 os) os w
theorem y3f (os : OsState) (w : World) : G3 os (w.withFollow "special-get-raises" false) := gr_of (seg_go (go_of (a3f w os)) (seg_go (go_of (k3_0 _ os _)) (seg_go (go_of (k3_1 _ os _)) (seg_go (go_of (k3_2 _ os _)) (run_of (z3f w os))))))
theorem y3t (os : OsState) (w : World) : G3 os (w.withFollow "special-get-raises" true) := gr_of (seg_go (go_of (a3t w os)) (seg_go (go_of (k3_0 _ os _)) (seg_go (go_of (k3_1 _ os _)) (seg_go (go_of (k3_2 _ os _)) (run_of (z3t w os))))))
theorem x3 (os : OsState) (w : World) : G3 os w := byRow2 "special-get-raises" (P := G3 os) (y3f os) (y3t os) w
noncomputable def G5 (os : OsState) (w : World) : Prop := Gr (cutL 10 1) ⟨11, 0, 11, 28⟩ ⟨12, 9, 12, 110⟩ 4303 (fun P os => SS (t4 P) 28 1438 os) (fun P os => SS (t5 P) 31 1724 os) os w
theorem y5f (os : OsState) (w : World) : G5 os (w.withFollow "special-get-raises" false) := gr_of (seg_go (go_of (a5f w os)) (seg_go (go_of (k5_0 _ os _)) (seg_go (go_of (k5_1 _ os _)) (seg_go (go_of (k5_2 _ os _)) (seg_go (go_of (k5_3 _ os _)) (run_of (z5f w os)))))))
theorem y5t (os : OsState) (w : World) : G5 os (w.withFollow "special-get-raises" true) := gr_of (seg_go (go_of (a5t w os)) (seg_go (go_of (k5_0 _ os _)) (seg_go (go_of (k5_1 _ os _)) (seg_go (go_of (k5_2 _ os _)) (seg_go (go_of (k5_3 _ os _)) (run_of (z5t w os)))))))
theorem x5 (os : OsState) (w : World) : G5 os w := byRow2 "special-get-raises" (P := G5 os) (y5f os) (y5t os) w
noncomputable def G6 (os : OsState) (w : World) : Prop := Gr (cutL 11 11) ⟨12, 9, 12, 110⟩ ⟨34, 0, 35, 16⟩ 372 (fun P os => SS (t5 P) 31 1724 os) (fun P os => SS (t6 P) 86 1791 os) os w
theorem x6 (os : OsState) (w : World) : G6 os w := byRow2 "special-get-raises" (P := G6 os) (fun w => gr_e (e6f w os)) (fun w => gr_e (e6t w os)) w
theorem x2 (os : OsState) (w : World) : Gr (cutL 1 7) ⟨1, 0, 1, 11⟩ ⟨8, 0, 8, 8⟩ 109 (fun P os => SS (t1 P) 21 1215 os) (fun P os => SS (t2 P) 25 1227 os) os w := gr_e (e2 w os)
theorem x4 (os : OsState) (w : World) : Gr (cutL 9 1) ⟨9, 9, 9, 74⟩ ⟨11, 0, 11, 28⟩ 25 (fun P os => SS (t3 P) 28 1435 os) (fun P os => SS (t4 P) 28 1438 os) os w := gr_e (e4 w os)
theorem x7 (os : OsState) (w : World) : Gr (cutL 22 11) ⟨34, 0, 35, 16⟩ ⟨98, 0, 123, 15⟩ 307 (fun P os => SS (t6 P) 86 1791 os) (fun P os => SS (t7 P) 150 1876 os) os w := gr_e (e7 w os)
end MineHead

end
section
open PySem PySem.Calls PySem.W PyProof.Rows
set_option Elab.async false
set_option maxRecDepth 100000
set_option maxHeartbeats 8000000
namespace MineHead
noncomputable def HS (t : BT) (n k : Nat) (os : OsState) : Shared := (SS t n k os).abs
noncomputable def S0 (h : Heap) (k : Nat) (os : OsState) : Shared := ⟨h, ⟨[]⟩, {}, k, os⟩
noncomputable def tpos : Pos := ⟨0, 0, 0, 0⟩
noncomputable def fr : List Frame := [topFrame ⟨0, 0, 0, 0⟩]
theorem cuts : behindTheImports tp = cutL 0 1 ++ (cutL 1 7 ++ (cutL 8 1 ++ (cutL 9 1 ++ (cutL 10 1 ++ (cutL 11 11 ++ (cutL 22 11 ++ [])))))) := by kernel_rfl
theorem fin_ (w : World) (os : OsState) : PySem.W.Fast.tw14082659384304107361 PySem.W.Fast.tw14364793385576792824 tp w 11 (some (.ref 6)) 2 (HS (t7 w.params) 150 1876 os) ⟨doneF .next, tcode, ⟨98, 0, 123, 15⟩, fr⟩ = some (S0 (hf w.params) 1876 os) := by kernel_rfl
theorem blk_ (w : World) (os : OsState) : PySem.W.Fast.tw14374325043358763698 PySem.W.Fast.tw14364793385576792824 tp w 11 (some (.ref 6)) 1 1 (S0 (ha w.params) 187 os) (blockOf (behindTheImports tp) tenv tcode tpos fr) = some (.next, HS (tb w.params) 15 187 os, tcode, tpos) := by kernel_rfl
theorem pre_ (w : World) (os : OsState) : PySem.W.Fast.tw15667345088766844465 PySem.W.Fast.tw14364793385576792824 tp w 11 (some (.ref 6)) 12 (S0 (h0 w.params) 181 os) (topStub tp) = some (S0 (ha w.params) 187 os, ⟨PySem.W.Fast.tw11892475500146522536 PySem.W.Fast.tw14364793385576792824 tcode, tcode, tpos, fr⟩) := by kernel_rfl
end MineHead

end
section
open PySem PySem.Calls PySem.W PyProof.Rows
set_option Elab.async false
set_option maxRecDepth 100000
set_option maxHeartbeats 8000000
namespace MineHead
theorem run_ (w : World) (os : OsState) : topRun treeTable tp w 11 (some (.ref 6)) (12 + (1 + (9552 + (109 + (3077 + (25 + (4303 + (372 + (307 + 2))))))))) (S0 (h0 w.params) 181 os) (topStub tp) = some (S0 (hf w.params) 1876 os) := by
  have kf := fin_ w os
  have kb := blk_ w os
  have kp := pre_ w os
  rw [← PySem.W.Fast.te14082659384304107361, ← PySem.W.Fast.te14364793385576792824] at kf
  rw [← PySem.W.Fast.te14374325043358763698, ← PySem.W.Fast.te14364793385576792824] at kb
  rw [← PySem.W.Fast.te15667345088766844465, ← PySem.W.Fast.te14364793385576792824, ← PySem.W.Fast.te11892475500146522536] at kp
  refine go_top kp (piece_block (b := behindTheImports tp) (env := tenv) (q := ⟨0, 0, 0, 0⟩) kb ?_)
  rw [cuts]
  exact piece_app (x1 os w) (piece_app (x2 os w) (piece_app (x3 os w) (piece_app (x4 os w) (piece_app (x5 os w) (piece_app (x6 os w) (piece_app (x7 os w) (piece_nil kf)))))))
end MineHead

end
section
open PySem PySem.Calls PySem.W PyProof.Rows
set_option Elab.async false
set_option maxRecDepth 100000
set_option maxHeartbeats 8000000
namespace MineHead
theorem opn_ (w : World) : PySem.W.Fast.tw10274390034422433532 PySem.W.Fast.tw14364793385576792824 (opening tp) w 392 (PySem.W.Fast.tw1435165496053646825 (opening tp)).1 (PySem.W.Fast.tw1435165496053646825 (opening tp)).2 = some (S0 (h0 w.params) 181 (PySem.W.Fast.tw1435165496053646825 (opening tp)).1.os) := by kernel_rfl
theorem fence_ (w : World) : (fun os => (PySem.W.Fast.tw14289696077712309145 tp (S0 (h0 w.params) 181 os)).map (fun s => (s.heap, s.gens, s.drawn, s.toks))) = fun _ => some (h0 w.params, ⟨[]⟩, {}, 181) := by kernel_rfl
theorem size_ (w : World) : ((h0 w.params).isNs mainGlobals && (⟨[]⟩ : Array GenState).size == 0, (h0 w.params).objs.size, (h0 w.params).nsMap mainGlobals "__annotations__") = (true, 11, some (.ref 6)) := by kernel_rfl
end MineHead

end
section
open PySem PySem.Calls PySem.W PyProof.Rows
set_option Elab.async false
set_option maxRecDepth 100000
set_option maxHeartbeats 8000000
namespace MineHead
noncomputable def hK (P : Params) : Frag := [(2, q2 P), (3, q65 P), (22, q26 P), (36, q35 P), (37, q36 P), (38, q37 P), (44, q40 P), (45, q41 P), (56, q47 P), (57, q48 P), (63, q51 P), (64, q52 P), (70, q55 P), (71, q56 P), (77, q59 P), (78, q60 P), (84, q63 P), (85, q64 P), (91, q69 P), (92, q70 P), (98, q73 P), (99, q74 P), (105, q77 P), (106, q78 P), (112, q81 P), (113, q82 P), (119, q85 P), (120, q86 P), (124, q88 P), (125, q89 P), (131, q92 P), (132, q93 P), (138, q96 P), (139, q97 P), (143, q99 P), (144, q100 P), (148, q102 P), (149, q103 P)]
noncomputable def hH : Hook := kHook hK [2, 3, 22, 36, 37, 38, 44, 45, 56, 57, 63, 64, 70, 71, 77, 78, 84, 85, 91, 92, 98, 99, 105, 106, 112, 113, 119, 120, 124, 125, 131, 132, 138, 139, 143, 144, 148, 149] (fun _ => rfl)
noncomputable def lz : List PySem.Str := [u [95,81,85,79,80,82,73,95,77,65,80], u [95,81,85,79,80,82,73,95,72,69,65,68,69,82,95,77,65,80], u [95,81,85,79,80,82,73,95,66,79,68,89,95,77,65,80], u [97,115,99,105,105,95,108,111,119,101,114,99,97,115,101], u [97,115,99,105,105,95,117,112,112,101,114,99,97,115,101], u [97,115,99,105,105,95,108,101,116,116,101,114,115], u [100,105,103,105,116,115], u [104,101,97,100,101,114,95,99,104,101,99,107], u [104,101,97,100,101,114,95,101,110,99,111,100,101], u [95,81,85,79,80,82,73,95,66,79,68,89,95,69,78,67,79,68,69,95,77,65,80], u [108,116], u [97,100,100], u [102,108,111,111,114,100,105,118], u [109,111,100], u [109,117,108], u [99,111,110,99,97,116], u [99,111,110,116,97,105,110,115], u [99,111,117,110,116,79,102], u [95,108,97,119,95,99,111,100,101], u [95,108,97,119,95,111,99,116,101,116,115], u [95,108,97,119,95,114,111,119,115], u [95,108,97,119,95,114,105,110,103], u [95,108,97,119,95,99,111,109,109,111,110], u [95,108,97,119,95,107,101,112,116]]
noncomputable def view (p : Program) : Program := { p with main := { p.main with body := [pick 32 p.main.body] } }
noncomputable def Xv (p : Program) (s : Shared) : Bool := xlAt (view p) [] s && recOk [] s
theorem lk1 (w : World) (os : OsState) : (staticsOk (importedModules tp.main.body) (h0 w.params) (hf w.params) && namesBound tp (hf w.params) && gensDone (S0 (hf w.params) 1876 os) && laidKept (h0 w.params) (hf w.params)) = true := by kernel_rfl
theorem lk3 (w : World) (os : OsState) : hH.obs (S0 (hf w.params) 1876 os) = hH.val w := by kernel_rfl
theorem lk2 (w : World) (os : OsState) : PySem.W.Fast.tw4187177175401517315 (view tp) lz (importedModules tp.main.body) (Xv tp) true (S0 (hf w.params) 1876 os) = openGood (view tp) lz := by kernel_rfl
end MineHead

end
section
open PySem PySem.Calls PySem.W PyProof.Rows
set_option Elab.async false
set_option maxRecDepth 100000
set_option maxHeartbeats 8000000
namespace MineHead
theorem left_ : LeftO tp (view tp) lz (Xv tp) hH.obs hH.val 40000 := by
  refine LeftO.of_pieces (H₀ := h0) (H₁ := hf) (gs₀ := ⟨[]⟩) (gs₁ := ⟨[]⟩) (d₀ := {}) (d₁ := {}) (k₀ := 181) (k₁ := 1876) (m₀ := 11) (ann := some (.ref 6))
    (M := 12 + (1 + (9552 + (109 + (3077 + (25 + (4303 + (372 + (307 + 2))))))))) ?_ size_ (fun w os => run_ w os) rfl (fun w => funext fun os => ?_)
  · refine open_cut (M := 392) (He := h0) (ge := ⟨[]⟩) (de := {}) (ke := 181) (fun w => ?_) rfl (fun w => ?_)
    · have h := opn_ w
      rw [← PySem.W.Fast.te10274390034422433532, ← PySem.W.Fast.te14364793385576792824, ← PySem.W.Fast.te1435165496053646825] at h
      exact h
    · have h := fence_ w
      rw [← PySem.W.Fast.te14289696077712309145] at h
      exact h
  · have h := lk2 w os
    rw [← PySem.W.Fast.te4187177175401517315] at h
    exact looks_pair (lk1 w os) (looks_pair h (lk3 w os))
theorem tp_eq : PySem.Challenge.rw_ku0002_01.row.toRowW.1 = tp := congrArg (fun l : OpenLaw => l.row.toRowW.1) PySem.W.Fast.te17174733347860321407
theorem left : LeftO PySem.Challenge.rw_ku0002_01.row.toRowW.1 (view PySem.Challenge.rw_ku0002_01.row.toRowW.1) lz (Xv PySem.Challenge.rw_ku0002_01.row.toRowW.1) hH.obs hH.val 40000 := by
  rw [tp_eq]; exact left_
theorem tn_eq (n : Nat) : tn n = pick n PySem.Challenge.pw_ku0002_01.main.body := by
  unfold tn; rw [← tp_eq]; rfl
end MineHead

end
section
open PySem PySem.Calls PySem.W PyProof.Rows MineHead
set_option Elab.async false
set_option maxRecDepth 1000000
set_option maxHeartbeats 8000000
namespace Mine
noncomputable def FnK (K : Frag) (f : Fn) : Prop := ∃ a c d pm cd doc sl, nsIn K mainGlobals f.name = some (some (.ref a)) ∧ K.lookup a = some ⟨c, d, .func (docDef f.name f.params f.body f.scope pm cd doc), sl⟩ ∧ codeIn K cd f.name = true
theorem FnK.fn {K : Frag} {h : Heap} {mg : Str → Option Value} {f : Fn} (k : FnK K f) (X : K.In h) (G : h.Ns mainGlobals mg) : FnIn h mg f := let ⟨a, _, _, _, _, _, _, h1, h2, h3⟩ := k; fn_in X G f a h1 h2 h3
theorem eP (s : Stmt) : ePar s = dPar s := by cases s <;> rfl
theorem eB (s : Stmt) : eBody s = dBody s := by cases s <;> rfl
theorem eS (s : Stmt) : eSc s = dSc s := by cases s <;> first | rfl | exact congrArg (fun p : Program => p.main.scope) tp_eq.symm
theorem pick_eq : ∀ (n : Nat) (l : List Stmt), pick n l = l[n]?.getD (.Pass ⟨0, 0, 0, 0⟩)
  | n, [] => by cases n <;> rfl
  | 0, _ :: _ => rfl
  | n + 1, _ :: l => by rw [List.getElem?_cons_succ]; exact pick_eq n l
theorem tn_nth (n : Nat) : tn n = nth n := by rw [tn_eq, pick_eq]; rfl
theorem FnK.of {K : Frag} {f : Fn} (k : Nat) (n : Str) (a : Addr) {c : Value} {d : Option Addr} {pm cd doc : Value} {sl : Array (Option Value)} (hn : nsIn K mainGlobals f.name = some (some (.ref a)))
    (hl : K.lookup a = some ⟨c, d, .func (docDef n (ePar (tn k)) (eBody (tn k)) (eSc (tn k)) pm cd doc), sl⟩) (h1 : n = f.name) (h2 : dPar (nth k) = f.params) (h3 : dBody (nth k) = f.body) (h4 : dSc (nth k) = f.scope) (hc : codeIn K cd f.name = true) : FnK K f := by
  rw [eP, eB, eS, tn_nth, h1, h2, h3, h4] at hl
  exact ⟨a, _, _, _, _, _, _, hn, hl, hc⟩
section
variable (p : Params)
theorem k_map : nsIn (hK p) mainGlobals (Str.ofString "_QUOPRI_HEADER_MAP") = some (some (.ref 22)) := by kernel_rfl
theorem k_mapIn : mapIn (hK p) 22 = true := by kernel_rfl
theorem k_enc : nsIn (hK p) mainGlobals (Str.ofString "header_encode") = some (some (.ref 45)) := by kernel_rfl
theorem k_miss : (["chr", "ord", "range", "len", "sum", "min", "zip", "enumerate", "hasattr", "bytes"].all fun x => match nsIn (hK p) mainGlobals (Str.ofString x) with | some none => true | _ => false) = true := by kernel_rfl
theorem k11 : FnK (hK p) f11 := .of 11 (u [104,101,97,100,101,114,95,99,104,101,99,107]) 37 (by kernel_rfl) rfl (by kernel_rfl) p11.2 b11.2 s11.2 (by kernel_rfl)
theorem k17 : FnK (hK p) f17 := .of 17 (u [108,116]) 57 (by kernel_rfl) rfl (by kernel_rfl) p17.2 b17.2 s17.2 (by kernel_rfl)
theorem k18 : FnK (hK p) f18 := .of 18 (u [97,100,100]) 64 (by kernel_rfl) rfl (by kernel_rfl) p18.2 b18.2 s18.2 (by kernel_rfl)
theorem k19 : FnK (hK p) f19 := .of 19 (u [102,108,111,111,114,100,105,118]) 71 (by kernel_rfl) rfl (by kernel_rfl) p19.2 b19.2 s19.2 (by kernel_rfl)
theorem k20 : FnK (hK p) f20 := .of 20 (u [109,111,100]) 78 (by kernel_rfl) rfl (by kernel_rfl) p20.2 b20.2 s20.2 (by kernel_rfl)
theorem k21 : FnK (hK p) f21 := .of 21 (u [109,117,108]) 85 (by kernel_rfl) rfl (by kernel_rfl) p21.2 b21.2 s21.2 (by kernel_rfl)
theorem k22 : FnK (hK p) f22 := .of 22 (u [99,111,110,99,97,116]) 92 (by kernel_rfl) rfl (by kernel_rfl) p22.2 b22.2 s22.2 (by kernel_rfl)
theorem k23 : FnK (hK p) f23 := .of 23 (u [99,111,110,116,97,105,110,115]) 99 (by kernel_rfl) rfl (by kernel_rfl) p23.2 b23.2 s23.2 (by kernel_rfl)
theorem k24 : FnK (hK p) f24 := .of 24 (u [99,111,117,110,116,79,102]) 106 (by kernel_rfl) rfl (by kernel_rfl) p24.2 b24.2 s24.2 (by kernel_rfl)
theorem k26 : FnK (hK p) f26 := .of 26 (u [95,108,97,119,95,99,111,100,101]) 113 (by kernel_rfl) rfl (by kernel_rfl) p26.2 b26.2 s26.2 (by kernel_rfl)
theorem k27 : FnK (hK p) f27 := .of 27 (u [95,108,97,119,95,111,99,116,101,116,115]) 120 (by kernel_rfl) rfl (by kernel_rfl) p27.2 b27.2 s27.2 (by kernel_rfl)
theorem k28 : FnK (hK p) f28 := .of 28 (u [95,108,97,119,95,114,111,119,115]) 125 (by kernel_rfl) rfl (by kernel_rfl) p28.2 b28.2 s28.2 (by kernel_rfl)
theorem k29 : FnK (hK p) f29 := .of 29 (u [95,108,97,119,95,114,105,110,103]) 132 (by kernel_rfl) rfl (by kernel_rfl) p29.2 b29.2 s29.2 (by kernel_rfl)
theorem k30 : FnK (hK p) f30 := .of 30 (u [95,108,97,119,95,99,111,109,109,111,110]) 139 (by kernel_rfl) rfl (by kernel_rfl) p30.2 b30.2 s30.2 (by kernel_rfl)
theorem k31 : FnK (hK p) f31 := .of 31 (u [95,108,97,119,95,107,101,112,116]) 144 (by kernel_rfl) rfl (by kernel_rfl) p31.2 b31.2 s31.2 (by kernel_rfl)
theorem k32 : FnK (hK p) f32 := .of 32 (u [108,97,119]) 149 (by kernel_rfl) rfl (by kernel_rfl) p32.2 b32.2 s32.2 (by kernel_rfl)
theorem k_fns {h : Heap} {mg : Str → Option Value} (X : (hK p).In h) (G : h.Ns mainGlobals mg) : ∀ f ∈ theDefs, FnIn h mg f := by
  intro f hf
  simp only [theDefs, List.mem_cons, List.not_mem_nil, or_false] at hf
  rcases hf with rfl | rfl | rfl | rfl | rfl | rfl | rfl | rfl | rfl | rfl | rfl | rfl | rfl | rfl | rfl | rfl
  · exact (k11 p).fn X G
  · exact (k17 p).fn X G
  · exact (k18 p).fn X G
  · exact (k19 p).fn X G
  · exact (k20 p).fn X G
  · exact (k21 p).fn X G
  · exact (k22 p).fn X G
  · exact (k23 p).fn X G
  · exact (k24 p).fn X G
  · exact (k26 p).fn X G
  · exact (k27 p).fn X G
  · exact (k28 p).fn X G
  · exact (k29 p).fn X G
  · exact (k30 p).fn X G
  · exact (k31 p).fn X G
  · exact (k32 p).fn X G
theorem enc_in {h : Heap} {mg : Str → Option Value} (X : (hK p).In h) (G : h.Ns mainGlobals mg) (C : Cx) (hC : C.mg = mg) : ∃ a fd T tk, EncAt C h a fd T tk :=
  ⟨45, _, 38, _, by rw [hC]; exact mg_of X G (k_enc p), ⟨_, X 45 _ rfl, rfl⟩, rfl, rfl, rfl, rfl, rfl, codeRec_of X (by kernel_rfl), rfl, ⟨_, _, X 38 _ rfl, rfl⟩, fun u v => ⟨_, rfl, rfl⟩, fun u => ⟨_, rfl, rfl⟩⟩
theorem k_more {h : Heap} {mg : Str → Option Value} (X : (hK p).In h) (G : h.Ns mainGlobals mg) : MoreOf mg h := fun C hC =>
  ⟨map_in X G (k_map p) (k_mapIn p) C hC, enc_in p X G C hC, fun _ => none, ⟨_, #[], 0, X 2 _ rfl, rfl, fun _ he => by simp at he, fun _ => rfl⟩, rfl⟩
theorem k_none {h : Heap} {mg : Str → Option Value} (X : (hK p).In h) (G : h.Ns mainGlobals mg) : ∀ x ∈ ["chr", "ord", "range", "len", "sum", "min", "zip", "enumerate", "hasattr", "bytes"], mg (Str.ofString x) = none := by
  intro x hx
  have := List.all_eq_true.mp (k_miss p) x hx
  refine mg_none_of X G ?_
  split at this
  · assumption
  · cases this
end
end Mine

end
open PySem PySem.Calls PySem.W PyProof.Rows
set_option Elab.async false
set_option maxRecDepth 1000000
set_option maxHeartbeats 8000000
open Mine MineHead
theorem PySem.Challenge.cw_ku0002_01_holds : PySem.Challenge.rw_ku0002_01.Holds := by
  w_on
  o_law
  refine holds_open (q := view PySem.Challenge.rw_ku0002_01.row.toRowW.1) (loose := lz) (Xt := Xv PySem.Challenge.rw_ku0002_01.row.toRowW.1) (XP := XL (view PySem.Challenge.rw_ku0002_01.row.toRowW.1) []) (Yf := hH.obs) (Ya := hH.val) (YP := hH.says) (N := 40000)
    left hH.of hH.keeps (fun s e => xl_of s (Bool.and_eq_true_iff.mp e).1) XL.keeps (by rfl) (by rfl) (by rfl) (fun s e => recFacts_of (Bool.and_eq_true_iff.mp e).2) (by rfl) (by first | assumption | decide +kernel) (by decide +kernel) ⟨rfl, rfl, rfl, rfl, rfl, by decide +kernel⟩ ?hw ?hc
  case hw => w_witness2
  w_strict (intro w s₀ s₁ mg mb G Y fa o pm cd doc dV kV ho hd hcd hD hmg hg args vals as hpre hlay hrd hwl hlo; have KX : (hK w.params).In s₁.heap := kIn_of Y)
  refine Ground.open G ?_
  intro T B D TE TW
  wrow_args hpre hlay hrd hwl hlo
  refine wpAny_mono (law_run T.g T.b T.builtins T.nolimit (k_fns w.params KX T.g) (k_more w.params KX T.g) (k_none w.params KX T.g) hmg (by assumption) (by assumption) (by assumption)) (fun v s' h => ?_) fun _ _ x => x.elim
  obtain ⟨⟨h', tk, rfl, hk⟩, rfl⟩ := h
  refine GoodW.toG ⟨.inl ⟨_, .bool true, [], rfl, fun _ => ?_, .bool true, ?_, fun _ => ⟨.nil, fun a ha => by cases ha⟩⟩, hk, rfl, hg⟩
  · rfl
  · wrow_post

