import PyProof.Rows.All
import Wide.All
import OpenK.AllK
import Wide.FinOn
import PySem.Challenge.RW_in0030_01
set_option Elab.async false
set_option maxRecDepth 100000
set_option linter.unusedVariables false
set_option linter.unusedSimpArgs false
namespace Mine
open PySem PySem.W PyProof.Rows PySem.Calls

/-- pure data -/
inductive D where
  | non
  | bool (b : Bool)
  | int (i : Int)
  | str (x : List Nat)
  | ty (n : String)
  | raw (a : Addr)
  | tup (l : List D)
  | lst (l : List D)

noncomputable def S (x : List Nat) : PySem.Str := ⟨x.toArray⟩

mutual
noncomputable def Rep (B : Addr → Prop) (h : Heap) : D → Value → Prop
  | .non, v => v = .none
  | .bool b, v => v = .bool b
  | .int i, v => ∃ t, v = .int i t
  | .str x, v => ∃ t, v = .str (S x) t ∧ x.length ≤ 1048576
  | .ty n, v => v = .type n
  | .raw a, v => v = .ref a
  | .tup l, v => ∃ a vs, v = .ref a ∧ ¬ B a ∧ h.IsTuple a (List.toArray vs) ∧ Reps B h l vs ∧ l.length ≤ 4194304
  | .lst l, v => ∃ a vs, v = .ref a ∧ ¬ B a ∧ h.IsList a (List.toArray vs) ∧ Reps B h l vs ∧ l.length ≤ 4194304
noncomputable def Reps (B : Addr → Prop) (h : Heap) : List D → List Value → Prop
  | [], vs => vs = []
  | d :: l, vs => ∃ v r, vs = v :: r ∧ Rep B h d v ∧ Reps B h l r
end

/-- as Rep, but the outermost list may be one that is still being changed -/
noncomputable def RepO (B : Addr → Prop) (h : Heap) : D → Value → Prop
  | .lst l, v => ∃ a vs, v = .ref a ∧ h.IsList a (List.toArray vs) ∧ Reps B h l vs ∧ l.length ≤ 4194304
  | d, v => Rep B h d v

theorem Rep.o {B : Addr → Prop} {h : Heap} {d : D} {v : Value} (r : Rep B h d v) : RepO B h d v := by
  cases d with
  | lst l => simp only [Rep] at r; obtain ⟨a, vs, h1, _, h3, h4⟩ := r; exact ⟨a, vs, h1, h3, h4⟩
  | _ => exact r

noncomputable def Kp (h h' : Heap) : Prop := ∀ b o, h.get? b = some o → h'.get? b = some o
theorem Kp.refl (h : Heap) : Kp h h := fun _ _ e => e
theorem Kp.trans {a b c : Heap} (x : Kp a b) (y : Kp b c) : Kp a c := fun _ _ e => y _ _ (x _ _ e)

/-- the lists and tuples that are not barred stand as they stood, whatever is barred may turn -/
noncomputable def KpS (B : Addr → Prop) (h h' : Heap) : Prop := ∀ b o xs n, ¬ B b → h.get? b = some o → o.data = .seq xs n → h'.get? b = some o
theorem Kp.s {B : Addr → Prop} {h h' : Heap} (k : Kp h h') : KpS B h h' := fun _ _ _ _ _ e _ => k _ _ e

mutual
theorem Rep.up {B : Addr → Prop} {h h' : Heap} (k : KpS B h h') : ∀ (d : D) (v : Value), Rep B h d v → Rep B h' d v
  | .non, _, r => by simpa only [Rep] using r
  | .bool _, _, r => by simpa only [Rep] using r
  | .int _, _, r => by simpa only [Rep] using r
  | .str _, _, r => by simpa only [Rep] using r
  | .ty _, _, r => by simpa only [Rep] using r
  | .raw _, _, r => by simpa only [Rep] using r
  | .tup l, v, r => by
    simp only [Rep] at r ⊢
    obtain ⟨a, vs, h1, h2, ⟨o, h3, h4, n, h5⟩, h6, h7⟩ := r
    exact ⟨a, vs, h1, h2, ⟨o, k a o _ n h2 h3 h5, h4, n, h5⟩, Reps.up k l vs h6, h7⟩
  | .lst l, v, r => by
    simp only [Rep] at r ⊢
    obtain ⟨a, vs, h1, h2, ⟨o, h3, h4, n, h5⟩, h6, h7⟩ := r
    exact ⟨a, vs, h1, h2, ⟨o, k a o _ n h2 h3 h5, h4, n, h5⟩, Reps.up k l vs h6, h7⟩
theorem Reps.up {B : Addr → Prop} {h h' : Heap} (k : KpS B h h') : ∀ (l : List D) (vs : List Value), Reps B h l vs → Reps B h' l vs
  | [], _, r => by simpa only [Reps] using r
  | d :: l, vs, r => by
    simp only [Reps] at r ⊢
    obtain ⟨v, r', h1, h2, h3⟩ := r
    exact ⟨v, r', h1, Rep.up k d v h2, Reps.up k l r' h3⟩
end

theorem RepO.up {B : Addr → Prop} {h h' : Heap} (k : Kp h h') (d : D) (v : Value) (r : RepO B h d v) : RepO B h' d v := by
  cases d with
  | lst l => obtain ⟨a, vs, h1, ⟨o, h3, h4, n, h5⟩, h6, h7⟩ := r; exact ⟨a, vs, h1, ⟨o, k a o h3, h4, n, h5⟩, Reps.up k.s l vs h6, h7⟩
  | _ => exact Rep.up k.s _ _ r

mutual
/-- more may be barred where it does not stand yet (or is no list, no tuple); less may always be barred -/
theorem Rep.bar {B B' : Addr → Prop} {h : Heap} (hb : ∀ a o xs n, B' a → h.get? a = some o → o.data = .seq xs n → B a) : ∀ (d : D) (v : Value), Rep B h d v → Rep B' h d v
  | .non, _, r => by simpa only [Rep] using r
  | .bool _, _, r => by simpa only [Rep] using r
  | .int _, _, r => by simpa only [Rep] using r
  | .str _, _, r => by simpa only [Rep] using r
  | .ty _, _, r => by simpa only [Rep] using r
  | .raw _, _, r => by simpa only [Rep] using r
  | .tup l, v, r => by
    simp only [Rep] at r ⊢
    obtain ⟨a, vs, h1, h2, h3, h6, h7⟩ := r
    exact ⟨a, vs, h1, fun x => let ⟨o, e, _, n, e'⟩ := h3; h2 (hb a o _ n x e e'), h3, Reps.bar hb l vs h6, h7⟩
  | .lst l, v, r => by
    simp only [Rep] at r ⊢
    obtain ⟨a, vs, h1, h2, h3, h6, h7⟩ := r
    exact ⟨a, vs, h1, fun x => let ⟨o, e, _, n, e'⟩ := h3; h2 (hb a o _ n x e e'), h3, Reps.bar hb l vs h6, h7⟩
theorem Reps.bar {B B' : Addr → Prop} {h : Heap} (hb : ∀ a o xs n, B' a → h.get? a = some o → o.data = .seq xs n → B a) : ∀ (l : List D) (vs : List Value), Reps B h l vs → Reps B' h l vs
  | [], _, r => by simpa only [Reps] using r
  | d :: l, vs, r => by
    simp only [Reps] at r ⊢
    obtain ⟨v, r', h1, h2, h3⟩ := r
    exact ⟨v, r', h1, Rep.bar hb d v h2, Reps.bar hb l r' h3⟩
end

theorem Reps.length {B : Addr → Prop} {h : Heap} : ∀ (l : List D) (vs : List Value), Reps B h l vs → vs.length = l.length
  | [], _, r => by simp only [Reps] at r; subst r; rfl
  | d :: l, vs, r => by
    simp only [Reps] at r
    obtain ⟨v, r', rfl, _, h3⟩ := r
    simp [Reps.length l r' h3]
theorem Reps.get {B : Addr → Prop} {h : Heap} : ∀ (l : List D) (vs : List Value) (i : Nat) (d : D), Reps B h l vs → l[i]? = some d → ∃ v, vs[i]? = some v ∧ Rep B h d v
  | [], _, i, d, _, e => by simp at e
  | d' :: l, vs, i, d, r, e => by
    simp only [Reps] at r
    obtain ⟨v, r', rfl, h2, h3⟩ := r
    cases i with
    | zero => simp at e; subst e; exact ⟨v, by simp, h2⟩
    | succ i => simp at e; obtain ⟨w, e1, e2⟩ := Reps.get l r' i d h3 e; exact ⟨w, by simpa using e1, e2⟩
theorem Reps.get' {B : Addr → Prop} {h : Heap} : ∀ (l : List D) (vs : List Value) (i : Nat) (v : Value), Reps B h l vs → vs[i]? = some v → ∃ d, l[i]? = some d ∧ Rep B h d v
  | [], _, i, d, r, e => by simp only [Reps] at r; subst r; simp at e
  | d' :: l, vs, i, v, r, e => by
    simp only [Reps] at r
    obtain ⟨v', r', rfl, h2, h3⟩ := r
    cases i with
    | zero => simp at e; subst e; exact ⟨d', by simp, h2⟩
    | succ i => simp at e; obtain ⟨w, e1, e2⟩ := Reps.get' l r' i v h3 e; exact ⟨w, by simpa using e1, e2⟩
theorem Reps.append {B : Addr → Prop} {h : Heap} : ∀ (l l' : List D) (vs vs' : List Value), Reps B h l vs → Reps B h l' vs' → Reps B h (l ++ l') (vs ++ vs')
  | [], l', _, vs', r, r' => by simp only [Reps] at r; subst r; exact r'
  | d :: l, l', vs, vs', r, r' => by
    simp only [Reps] at r
    obtain ⟨v, q, rfl, h2, h3⟩ := r
    simp only [List.cons_append, Reps]
    exact ⟨v, _, rfl, h2, Reps.append l l' q vs' h3 r'⟩
theorem Reps.drop {B : Addr → Prop} {h : Heap} : ∀ (n : Nat) (l : List D) (vs : List Value), Reps B h l vs → Reps B h (l.drop n) (vs.drop n)
  | 0, _, _, r => by simpa using r
  | n + 1, [], vs, r => by simp only [Reps] at r; subst r; simp [Reps]
  | n + 1, d :: l, vs, r => by
    simp only [Reps] at r
    obtain ⟨v, q, rfl, h2, h3⟩ := r
    simpa using Reps.drop n l q h3
theorem Reps.take {B : Addr → Prop} {h : Heap} : ∀ (n : Nat) (l : List D) (vs : List Value), Reps B h l vs → Reps B h (l.take n) (vs.take n)
  | 0, _, _, r => by simp [Reps]
  | n + 1, [], vs, r => by simp only [Reps] at r; subst r; simp [Reps]
  | n + 1, d :: l, vs, r => by
    simp only [Reps] at r
    obtain ⟨v, q, rfl, h2, h3⟩ := r
    simp only [List.take_succ_cons, Reps]
    exact ⟨v, _, rfl, h2, Reps.take n l q h3⟩

/-- a definition of the program's top -/
structure Df where
  name : PySem.Str
  params : Arguments
  body : List Stmt
  scope : Scope

noncomputable def theDefs (p : Program) : List Df := p.main.body.filterMap fun st => match st with
  | .FunctionDef name a b _ _ _ sc _ _ _ => some ⟨name, a, b, sc⟩
  | _ => none

structure Gl where
  prog : Program
  w : World
  mg : PySem.Str → Option Value
  mb : PySem.Str → Option Value

noncomputable def biNames : List PySem.Str := ["len", "isinstance", "map", "tuple", "min", "max", "enumerate", "zip", "all", "range", "type", "issubclass", "str", "bytes", "list"]

structure GOk (G : Gl) (h : Heap) : Prop where
  g : h.Ns mainGlobals G.mg
  b : h.Ns builtinsNs G.mb
  nolimit : h.NoLimit
  defs : ∀ d ∈ theDefs G.prog, ∃ a fd o, G.mg d.name = some (.ref a) ∧ h.get? a = some o ∧ o.data = .func fd ∧ h.CodeRec fd.code fd.qualname ∧
    fd.params = d.params ∧ fd.body = .stmts d.body ∧ fd.scope = d.scope ∧ fd.globals = mainGlobals ∧ fd.closure = [] ∧ fd.builtins = builtinsNs ∧
    ((d.params.defaults = [] ∧ fd.defaults = .none) ∨ (d.params.defaults ≠ [] ∧ ∃ T ot items n, fd.defaults = .ref T ∧ h.get? T = some ot ∧ ot.data = .seq items n ∧ items.size = d.params.defaults.length))
  bi : ∀ x ∈ biNames, G.mg x = none ∧ G.mb x = bootBuiltins x

theorem GOk.up {G : Gl} {h h' : Heap} (x : GOk G h) (k : Kp h h') : GOk G h' where
  g := x.g.keeps k
  b := x.b.keeps k
  nolimit := x.nolimit.keeps k
  defs := fun d hd => by
    obtain ⟨a, fd, o, h1, h2, h3, h4, h5, h6, h7, h8, h9, h10, h11⟩ := x.defs d hd
    refine ⟨a, fd, o, h1, k _ _ h2, h3, h4.keeps k, h5, h6, h7, h8, h9, h10, ?_⟩
    rcases h11 with h11 | ⟨e0, T, ot, items, n, e1, e2, e3, e4⟩
    · exact .inl h11
    · exact .inr ⟨e0, T, ot, items, n, e1, k _ _ e2, e3, e4⟩
  bi := x.bi

/-- what a name of the frame (a local, or a name in a cell) holds -/
noncomputable def Reads (env : Env) (h : Heap) (x : PySem.Str) (v : Value) : Prop :=
  (env.kindOf x = some .local ∧ ∃ m, h.Ns env.locals m ∧ m x = some v) ∨
  ((env.kindOf x = some .cell ∨ env.kindOf x = some .free) ∧ ∃ c, env.cells.lookup x = some c ∧ h.IsCell c (some v))

theorem Reads.up {env : Env} {h h' : Heap} {x : PySem.Str} {v : Value} (r : Reads env h x v) (k : Kp h h') : Reads env h' x v := by
  rcases r with ⟨h1, m, h2, h3⟩ | ⟨h1, c, h2, h3⟩
  · exact .inl ⟨h1, m, h2.keeps k, h3⟩
  · exact .inr ⟨h1, c, h2, h3.keeps k⟩

inductive Ent where
  | v (d : D)
  | o (l : List D)

noncomputable abbrev Gam := List (Option Ent)

structure Cx where
  G : Gl
  env : Env
  B : Addr → Prop
  h₀ : Heap
  k : Nat

/-- what is barred: the callers' lists under change, and one's own -/
noncomputable def Cx.ban (X : Cx) (ad : Nat → Addr) (Γ : Gam) : Addr → Prop := fun a => X.B a ∨ ∃ (i : Nat) (l : List D), Γ[i]? = some (some (.o l)) ∧ a = ad i

/-- the frame's own objects are new -/
structure FnX (X : Cx) : Prop where
  loc : X.h₀.get? X.env.locals = none
  cel : ∀ n c, X.env.cells.lookup n = some c → X.h₀.get? c = none
  cl : ∀ x ∈ X.env.scope.names, x.2 = .cell → (X.env.cells.lookup x.1).isSome = true

structure Gd (X : Cx) (ad : Nat → Addr) (Γ : Gam) (s : Shared) : Prop where
  kind : X.env.scope.kind = .function
  glob : X.env.globals = mainGlobals
  blt : X.env.builtins = builtinsNs
  uniq : ∀ (i j : Nat) x k k', X.env.scope.names[i]? = some (x, k) → X.env.scope.names[j]? = some (x, k') → j = i
  names : ∀ (i : Nat) x k, X.env.scope.names[i]? = some (x, k) → X.env.kindOf x = some k
  apart : X.env.cells.Pairwise fun x y => x.2 ≠ y.2
  fx : FnX X
  ns : ∃ m, s.heap.Ns X.env.locals m
  cells : ∀ n c, X.env.cells.lookup n = some c → ∃ v, s.heap.IsCell c v
  keep : Kp X.h₀ s.heap
  low : ∀ a, X.B a → ∃ o, s.heap.get? a = some o
  gok : GOk X.G X.h₀
  pos : 0 < s.toks
  vars : ∀ (i : Nat) (d : D), Γ[i]? = some (some (.v d)) → ∃ x k v, X.env.scope.names[i]? = some (x, k) ∧ Reads X.env s.heap x v ∧ Rep (X.ban ad Γ) s.heap d v
  owns : ∀ (i : Nat) (l : List D), Γ[i]? = some (some (.o l)) → ∃ x k vs, X.env.scope.names[i]? = some (x, k) ∧ Reads X.env s.heap x (.ref (ad i)) ∧ s.heap.PlainList (ad i) (List.toArray vs) ∧ Reps (X.ban ad Γ) s.heap l vs ∧ l.length ≤ 4194304 ∧
    X.h₀.get? (ad i) = none ∧ ¬ X.B (ad i) ∧ ∀ (j : Nat) (l' : List D), Γ[j]? = some (some (.o l')) → ad j = ad i → j = i

noncomputable def Step (s s' : Shared) : Prop := ∃ h' t', s' = { s with heap := h', toks := t' } ∧ Kp s.heap h' ∧ s.toks ≤ t'
theorem Step.refl (s : Shared) : Step s s := ⟨s.heap, s.toks, rfl, Kp.refl _, Nat.le_refl _⟩
theorem Step.trans {a b c : Shared} (x : Step a b) (y : Step b c) : Step a c := by
  obtain ⟨h1, t1, rfl, k1, l1⟩ := x
  obtain ⟨h2, t2, rfl, k2, l2⟩ := y
  exact ⟨h2, t2, rfl, k1.trans k2, Nat.le_trans l1 l2⟩
theorem Step.kp {a b : Shared} (x : Step a b) : Kp a.heap b.heap := by obtain ⟨_, _, rfl, k, _⟩ := x; exact k
theorem Step.toks {a b : Shared} (x : Step a b) : a.toks ≤ b.toks := by obtain ⟨_, _, rfl, _, k⟩ := x; exact k

theorem Gd.up {X : Cx} {ad : Nat → Addr} {Γ : Gam} {s s' : Shared} (g : Gd X ad Γ s) (st : Step s s') : Gd X ad Γ s' where
  kind := g.kind
  glob := g.glob
  blt := g.blt
  uniq := g.uniq
  names := g.names
  apart := g.apart
  fx := g.fx
  ns := let ⟨m, e⟩ := g.ns; ⟨m, e.keeps st.kp⟩
  cells := fun n c e => let ⟨v, q⟩ := g.cells n c e; ⟨v, q.keeps st.kp⟩
  keep := g.keep.trans st.kp
  low := fun a h => let ⟨o, e⟩ := g.low a h; ⟨o, st.kp _ _ e⟩
  gok := g.gok
  pos := Nat.lt_of_lt_of_le g.pos st.toks
  vars := fun i d e => let ⟨x, k, v, h1, h2, h3⟩ := g.vars i d e; ⟨x, k, v, h1, h2.up st.kp, Rep.up st.kp.s d v h3⟩
  owns := fun i l e => let ⟨x, k, vs, h1, h2, h3, h4, h5⟩ := g.owns i l e; ⟨x, k, vs, h1, h2.up st.kp, h3.at (fun o e => st.kp _ o e), Reps.up st.kp.s l vs h4, h5⟩

theorem Gd.gk {X : Cx} {ad : Nat → Addr} {Γ : Gam} {s : Shared} (g : Gd X ad Γ s) : GOk X.G s.heap := g.gok.up g.keep

noncomputable def Room (k : Nat) (A : Around) : Prop := A.handled = none ∧ A.depth + k < recursionLimit ∧ A.units + 4 * k + 40 < cLine
theorem Room.le {k k' : Nat} {A : Around} (r : Room k A) (h : k' ≤ k) : Room k' A := ⟨r.1, by have := r.2.1; omega, by have := r.2.2; omega⟩
theorem Room.deeper {k : Nat} {A : Around} (r : Room (k + 1) A) (env : Env) : Room k (A.deeper env) := ⟨r.1, by have := r.2.1; show A.depth + 1 + k < _; omega, by have := r.2.2; show A.units + 3 + 4 * k + 40 < _; omega⟩

/-- an expression's value, stable -/
noncomputable def Ev (X : Cx) (Γ : Gam) (e : PySem.Expr) (d : D) : Prop :=
  ∀ A s ad Q E, Room X.k A → Gd X ad Γ s → (∀ v s', Step s s' → Rep (X.ban ad Γ) s'.heap d v → Q v s') → wpAny (model X.G.prog X.G.w) A (eval e X.env) Q E s
/-- an expression's value, its outermost list perhaps under change -/
noncomputable def EvO (X : Cx) (Γ : Gam) (e : PySem.Expr) (d : D) : Prop :=
  ∀ A s ad Q E, Room X.k A → Gd X ad Γ s → (∀ v s', Step s s' → RepO (X.ban ad Γ) s'.heap d v → Q v s') → wpAny (model X.G.prog X.G.w) A (eval e X.env) Q E s
/-- a test's truth -/
noncomputable def Tr (X : Cx) (Γ : Gam) (e : PySem.Expr) (b : Bool) : Prop :=
  ∀ A s ad Q E, Room X.k A → Gd X ad Γ s → (∀ s', Step s s' → Q b s') → wpAny (model X.G.prog X.G.w) A (isTrue e X.env (eval e X.env)) Q E s

theorem Ev.o {X : Cx} {Γ : Gam} {e : PySem.Expr} {d : D} (h : Ev X Γ e d) : EvO X Γ e d := fun A s ad Q E hr g hq => h A s ad Q E hr g fun v s' st r => hq v s' st r.o

theorem wp_toks {α : Type} {M : Model} {A : Around} {t : Sem α} {Q : α → Shared → Prop} {E : Value → Shared → Prop} {s : Shared}
    (h : wpAny M A t (fun a s' => s.toks ≤ s'.toks → Q a s') E s) : wpAny M A t Q E s :=
  wpAny_mono (wpAny_toks_of (Nat.le_refl _) h) (fun _ _ x => x.2 x.1) fun _ _ x => x.2

theorem step_toks {s : Shared} {k : Nat} (h : s.toks ≤ k) : Step s { s with toks := k } := ⟨s.heap, k, rfl, Kp.refl _, h⟩
theorem step_heap {s : Shared} {h' : Heap} {k : Nat} (kp : Kp s.heap h') (h : s.toks ≤ k) : Step s { s with heap := h', toks := k } := ⟨h', k, rfl, kp, h⟩

section rules
variable {X : Cx} {Γ : Gam}

theorem loadName_of {M : Model} {A : Around} {E : Value → Shared → Prop} {s : Shared} {env : Env} {x : PySem.Str} {v : Value} {Q : Value → Shared → Prop} (hk : env.scope.kind = .function)
    (r : Reads env s.heap x v) (hq : Q v s) (hc : (x == ("__classdict__" : PySem.Str)) = false) : wpAny M A (loadName env x) Q E s := by
  rcases r with ⟨h1, m, h2, h3⟩ | ⟨h1 | h1, c, h2, h3⟩
  · exact wpAny_loadName_local hk h1 h2 h3 hq
  · exact wpAny_loadName_cell hk h1 h2 h3 hq
  · exact wpAny_loadName_free hk h1 h2 h3 hq hc

noncomputable def plainNm (x : PySem.Str) : Prop := (x == ("__debug__" : PySem.Str)) = false ∧ (x == ("__classdict__" : PySem.Str)) = false

theorem Ev.name {x : PySem.Str} {p : Pos} {i : Nat} {k : NameKind} {d : D} (hi : X.env.scope.names[i]? = some (x, k)) (hv : Γ[i]? = some (some (.v d))) (hn : plainNm x) : Ev X Γ (.Name x p) d := by
  intro A s ad Q E hr g hq
  obtain ⟨x', k', v, e1, e2, e3⟩ := g.vars i d hv
  rw [hi] at e1; cases e1
  exact wpAny_Name (loadName_of g.kind e2 (hq v s (Step.refl s) e3) hn.2) hn.1
theorem EvO.name {x : PySem.Str} {p : Pos} {i : Nat} {k : NameKind} {l : List D} (hi : X.env.scope.names[i]? = some (x, k)) (hv : Γ[i]? = some (some (.o l))) (hn : plainNm x) : EvO X Γ (.Name x p) (.lst l) := by
  intro A s ad Q E hr g hq
  obtain ⟨x', k', vs, e1, e2, e3, e4, e5, _⟩ := g.owns i l hv
  rw [hi] at e1; cases e1
  exact wpAny_Name (loadName_of g.kind e2 (hq _ s (Step.refl s) ⟨_, vs, rfl, e3.isList, e4, e5⟩) hn.2) hn.1

theorem Ev.int {i : Int} {k : Nat} {p : Pos} : Ev X Γ (.Constant (.int i) k p) (.int i) := fun A s ad Q E hr g hq => wpAny_Constant_int (hq _ _ (step_toks (Nat.le_succ _)) (by simp only [Rep]; exact ⟨_, rfl⟩))
theorem Ev.non {k : Nat} {p : Pos} : Ev X Γ (.Constant .none k p) .non := fun A s ad Q E hr g hq => wpAny_pure (hq _ _ (Step.refl s) (by simp only [Rep]))
theorem Ev.bool {b : Bool} {k : Nat} {p : Pos} : Ev X Γ (.Constant (.bool b) k p) (.bool b) := fun A s ad Q E hr g hq => wpAny_pure (hq _ _ (Step.refl s) (by simp only [Rep]))
noncomputable def L (x : PySem.Str) : List Nat := x.cps.toList
theorem S_L (x : PySem.Str) : S (L x) = x := by cases x; simp [S, L]
theorem L_S (x : List Nat) : L (S x) = x := by simp [S, L]
theorem Ev.str {x : PySem.Str} {k : Nat} {p : Pos} (hz : (L x).length ≤ 1048576) : Ev X Γ (.Constant (.str x) k p) (.str (L x)) := fun A s ad Q E hr g hq => Constant_str (hq _ _ (step_toks (Nat.le_succ _)) (by simp only [Rep]; exact ⟨_, by rw [S_L], hz⟩))

theorem Ev.binop {a b : PySem.Expr} {op : Operator} {p : Pos} {x y z : D} (ha : EvO X Γ a x) (hb : EvO X Γ b y)
    (hop : ∀ A s ad Q E v u, Room X.k A → Gd X ad Γ s → RepO (X.ban ad Γ) s.heap x v → RepO (X.ban ad Γ) s.heap y u →
      (∀ r s', Step s s' → Rep (X.ban ad Γ) s'.heap z r → Q r s') → wpAny (model X.G.prog X.G.w) A (binaryOp op v u) Q E s) : Ev X Γ (.BinOp a op b p) z := by
  intro A s ad Q E hr g hq
  refine wpAny_BinOp (ha A s ad _ E hr g fun v s1 st1 r1 => hb A s1 ad _ E hr (g.up st1) fun u s2 st2 r2 => ?_)
  exact hop A s2 ad Q E v u hr ((g.up st1).up st2) (RepO.up st2.kp _ _ r1) r2 fun r s' st => hq r s' ((st1.trans st2).trans st)

end rules
theorem Rep.ofO {B : Addr → Prop} {h : Heap} {d : D} {v : Value} (r : RepO B h d v) (hd : ∀ l, d ≠ .lst l) : Rep B h d v := by
  cases d with
  | lst l => exact absurd rfl (hd l)
  | _ => exact r

/-- no starred expression -/
noncomputable def nst : PySem.Expr → Bool
  | .Starred .. => false
  | _ => true
theorem star_cons {e : PySem.Expr} {es : List PySem.Expr} {env : Env} (h : nst e = true) : starEach (e :: es) env = (false, eval e env) :: starEach es env := by
  cases e <;> first | rfl | cases h
theorem no_star {env : Env} {pos : Pos} : ∀ {es : List PySem.Expr}, es.all nst = true → (backTo pos (starEach es env)).any (·.1) = false
  | [], _ => rfl
  | e :: es, h => by
    rw [List.all_cons, Bool.and_eq_true] at h
    rw [star_cons h.1]
    exact no_star (es := es) h.2
theorem all_plain {env : Env} {pos : Pos} : ∀ {es : List PySem.Expr}, es.all nst = true → (backTo pos (starEach es env)).all (fun x => !x.1) = true
  | [], _ => rfl
  | e :: es, h => by
    rw [List.all_cons, Bool.and_eq_true] at h
    rw [star_cons h.1]
    exact all_plain (es := es) h.2
theorem call_name {f : PySem.Str} {p pos : Pos} {e : PySem.Expr} {es : List PySem.Expr} {env : Env} : eval (.Call (.Name f p) (e :: es) [] pos) env = (do callWith pos (← eval (.Name f p) env) [] (backTo pos (starEach (e :: es) env)) (backToKw pos (keywordEach [] env))) := by rfl

/-- a row of expressions, one after another -/
noncomputable def EvL (X : Cx) (Γ : Gam) (es : List PySem.Expr) (ds : List D) : Prop :=
  ∀ A s ad Q E pos, Room X.k A → Gd X ad Γ s → (∀ vs s', Step s s' → Reps (X.ban ad Γ) s'.heap ds vs → Q vs s') → wpAny (model X.G.prog X.G.w) A (spliced (backTo pos (starEach es X.env))) Q E s

section
variable {X : Cx} {Γ : Gam}

theorem EvL.nil : EvL X Γ [] [] := fun A s ad Q E pos hr g hq => args_nil (hq _ _ (Step.refl s) (by simp only [Reps]))
theorem EvL.cons {e : PySem.Expr} {es : List PySem.Expr} {d : D} {ds : List D} (h : Ev X Γ e d) (hs : EvL X Γ es ds) (he : nst e = true := by rfl) :
    EvL X Γ (e :: es) (d :: ds) := fun A s ad Q E pos hr g hq =>
  args_cons (h A s ad _ E hr g fun v s1 st1 r1 => hs A s1 ad _ E pos hr (g.up st1) fun vs s2 st2 r2 => hq _ _ (st1.trans st2) (by simp only [Reps]; exact ⟨v, vs, rfl, Rep.up st2.kp.s _ _ r1, r2⟩)) (star_cons he)

theorem Gd.fresh {ad : Nat → Addr} {s : Shared} (g : Gd X ad Γ s) : ∀ a, s.heap.objs.size ≤ a → ¬ X.ban ad Γ a := by
  intro a ha hb
  rcases hb with hb | ⟨i, l, e, rfl⟩
  · obtain ⟨o, e⟩ := g.low a hb
    exact Nat.lt_irrefl _ (Nat.lt_of_lt_of_le (Heap.lt_size e) ha)
  · obtain ⟨x, k, vs, _, _, ⟨n, e⟩, _⟩ := g.owns i l e
    exact Nat.lt_irrefl _ (Nat.lt_of_lt_of_le (Heap.lt_size e) ha)

theorem kp_push {h : Heap} {o : Obj} : Kp h (h.push o) := fun _ _ e => Heap.get?_push_of_some _ e

theorem Ev.tup {es : List PySem.Expr} {ds : List D} {k : Nat} {p : Pos} (h : EvL X Γ es ds) (hz : ds.length ≤ 4194304) : Ev X Γ (.Tuple es k p) (.tup ds) := fun A s ad Q E hr g hq =>
  Tuple_ (h A s ad _ E p hr g fun vs s1 st r => wpAny_newObj_type (hq _ _ (st.trans (step_heap (fun _ _ e => Heap.get?_push_of_some _ e) (Nat.le_refl _)))
    (by
      simp only [Rep]
      exact ⟨_, vs, rfl, (g.up st).fresh _ (Nat.le_refl _), ⟨_, Heap.get?_push_size _ rfl, rfl, _, rfl⟩, Reps.up (Kp.s fun _ _ e => Heap.get?_push_of_some _ e) _ _ r, hz⟩))
    (by show (List.toArray vs).size ≤ sizeLine; rw [List.size_toArray, Reps.length _ _ r, sizeLine_eq]; omega))

theorem newList_of {ad : Nat → Addr} {A : Around} {s : Shared} {Q : Value → Shared → Prop} {E : Value → Shared → Prop} {M : Model} {vs : List Value} {ds : List D} (g : Gd X ad Γ s) (r : Reps (X.ban ad Γ) s.heap ds vs) (hz : ds.length ≤ 4194304)
    (hq : ∀ h', Kp s.heap h' → h'.PlainList s.heap.objs.size (List.toArray vs) → Rep (X.ban ad Γ) h' (.lst ds) (.ref s.heap.objs.size) → Q (.ref s.heap.objs.size) { s with heap := h' }) : wpAny M A (newList vs) Q E s :=
  wpAny_newObj_type (hq _ kp_push ⟨0, Heap.get?_push_size _ rfl⟩ (by
      simp only [Rep]
      exact ⟨_, vs, rfl, g.fresh _ (Nat.le_refl _), ⟨_, Heap.get?_push_size _ rfl, rfl, _, rfl⟩, Reps.up (kp_push).s _ _ r, hz⟩))
    (by show (List.toArray vs).size ≤ sizeLine; rw [List.size_toArray, Reps.length _ _ r, sizeLine_eq]; omega)

theorem step_h {s : Shared} {h' : Heap} (kp : Kp s.heap h') : Step s { s with heap := h' } := ⟨h', s.toks, rfl, kp, Nat.le_refl _⟩

theorem Ev.lst {es : List PySem.Expr} {ds : List D} {p : Pos} (h : EvL X Γ es ds) (hz : ds.length ≤ 4194304) : Ev X Γ (.List es p) (.lst ds) := fun A s ad Q E hr g hq =>
  List_ (h A s ad _ E p hr g fun vs s1 st r => newList_of (g.up st) r hz fun h' k _ r' => hq _ _ (st.trans (step_h k)) r')

/-- comparison with one operator -/
theorem Ev.cmp {a b : PySem.Expr} {op : CmpOp} {p : Pos} {x y : D} {c : Bool} (ha : EvO X Γ a x) (hb : EvO X Γ b y)
    (hop : ∀ A s ad Q E v u, Room X.k A → Gd X ad Γ s → RepO (X.ban ad Γ) s.heap x v → RepO (X.ban ad Γ) s.heap y u →
      (∀ s', Step s s' → Q (.bool c) s') → wpAny (model X.G.prog X.G.w) A (compareOp op v u) Q E s) (hm : behindInMarks op b = false := by with_unfolding_all rfl) : Ev X Γ (.Compare a [op] [b] p) (.bool c) := by
  intro A s ad Q E hr g hq
  refine wpAny_Compare1 (ha A s ad _ E hr g fun v s1 st1 r1 => hb A s1 ad _ E hr (g.up st1) fun u s2 st2 r2 => ?_) hm
  exact hop A s2 ad Q E v u hr ((g.up st1).up st2) (RepO.up st2.kp _ _ r1) r2 fun s' st => hq _ s' ((st1.trans st2).trans st) (by simp only [Rep])
theorem Tr.cmp {a b : PySem.Expr} {op : CmpOp} {p : Pos} {x y : D} {c : Bool} (ha : EvO X Γ a x) (hb : EvO X Γ b y)
    (hop : ∀ A s ad Q E v u, Room X.k A → Gd X ad Γ s → RepO (X.ban ad Γ) s.heap x v → RepO (X.ban ad Γ) s.heap y u →
      (∀ s', Step s s' → Q (.bool c) s') → wpAny (model X.G.prog X.G.w) A (compareOp op v u) Q E s) (hm : behindInMarks op b = false := by with_unfolding_all rfl) : Tr X Γ (.Compare a [op] [b] p) c := by
  intro A s ad Q E hr g hq
  refine wpAny_isTrue_Compare1 (ha A s ad _ E hr g fun v s1 st1 r1 => hb A s1 ad _ E hr (g.up st1) fun u s2 st2 r2 => ?_) hm
  exact hop A s2 ad _ E v u hr ((g.up st1).up st2) (RepO.up st2.kp _ _ r1) r2 fun s' st => wpAny_truthy_bool (hq s' ((st1.trans st2).trans st))

noncomputable def Cmp (X : Cx) (Γ : Gam) (op : CmpOp) (x y : D) (c : Bool) : Prop := ∀ A s ad Q E v u, Room X.k A → Gd X ad Γ s → RepO (X.ban ad Γ) s.heap x v → RepO (X.ban ad Γ) s.heap y u →
      (∀ s', Step s s' → Q (.bool c) s') → wpAny (model X.G.prog X.G.w) A (compareOp op v u) Q E s
noncomputable def Bin (X : Cx) (Γ : Gam) (op : Operator) (x y z : D) : Prop := ∀ A s ad Q E v u, Room X.k A → Gd X ad Γ s → RepO (X.ban ad Γ) s.heap x v → RepO (X.ban ad Γ) s.heap y u →
      (∀ r s', Step s s' → Rep (X.ban ad Γ) s'.heap z r → Q r s') → wpAny (model X.G.prog X.G.w) A (binaryOp op v u) Q E s

theorem S_append (x y : List Nat) : S x ++ S y = S (x ++ y) := by show PySem.Str.mk ((S x).cps ++ (S y).cps) = _; simp [S]
theorem S_length (x : List Nat) : (S x).length = x.length := List.size_toArray
theorem S_inj {x y : List Nat} (h : S x = S y) : x = y := by have := congrArg L h; simpa [L_S] using this
theorem S_beq (x y : List Nat) : (S x == S y) = (x == y) := by
  by_cases h : x = y
  · subst h; simp
  · have : S x ≠ S y := fun e => h (S_inj e)
    rw [beq_eq_false_iff_ne.mpr this, beq_eq_false_iff_ne.mpr h]

theorem wp_mk {α : Type} {M : Model} {A : Around} {E : Value → Shared → Prop} {s : Shared} {t : Sem α} {Q : α → Shared → Prop}
    (h : wpAny M A t (fun a s' => s.toks ≤ s'.toks → Q a s') E s) : wpAny M A t Q E s := wp_toks h

theorem Bin.add_str {x y : List Nat} (hz : x.length + y.length ≤ 1048576) : Bin X Γ .Add (.str x) (.str y) (.str (x ++ y)) := by
  intro A s ad Q E v u hr g rv ru hq
  simp only [RepO, Rep] at rv ru
  obtain ⟨t, rfl, h1⟩ := rv; obtain ⟨t', rfl, h2⟩ := ru
  exact wp_toks (SB.add (fun t' k hk => hq _ _ (step_toks hk) (by simp only [Rep]; exact ⟨_, by rw [S_append], by rw [List.length_append]; exact hz⟩)) (by rw [S_length, S_length, sizeLine_eq]; omega))
theorem Bin.add_int {x y : Int} : Bin X Γ .Add (.int x) (.int y) (.int (x + y)) := by
  intro A s ad Q E v u hr g rv ru hq
  simp only [RepO, Rep] at rv ru
  obtain ⟨t, rfl⟩ := rv; obtain ⟨t', rfl⟩ := ru
  exact PyProof.Rows.add_int (hq _ _ (step_toks (Nat.le_succ _)) (by simp only [Rep]; exact ⟨_, rfl⟩))
theorem Bin.sub_int {x y : Int} : Bin X Γ .Sub (.int x) (.int y) (.int (x - y)) := by
  intro A s ad Q E v u hr g rv ru hq
  simp only [RepO, Rep] at rv ru
  obtain ⟨t, rfl⟩ := rv; obtain ⟨t', rfl⟩ := ru
  exact PyProof.Rows.sub_int (hq _ _ (step_toks (Nat.le_succ _)) (by simp only [Rep]; exact ⟨_, rfl⟩))
theorem Bin.mod_int {x y : Int} (hy : y ≠ 0) : Bin X Γ .Mod (.int x) (.int y) (.int (x.fmod y)) := by
  intro A s ad Q E v u hr g rv ru hq
  simp only [RepO, Rep] at rv ru
  obtain ⟨t, rfl⟩ := rv; obtain ⟨t', rfl⟩ := ru
  exact PyProof.Rows.mod_int' hy (hq _ _ (step_toks (Nat.le_succ _)) (by simp only [Rep]; exact ⟨_, rfl⟩))

theorem Bin.fdiv_int {x y : Int} (hy : y ≠ 0) (hs : y.natAbs < 2 ^ 20) : Bin X Γ .FloorDiv (.int x) (.int y) (.int (x.fdiv y)) := by
  intro A s ad Q E v u hr g rv ru hq
  simp only [RepO, Rep] at rv ru
  obtain ⟨t, rfl⟩ := rv; obtain ⟨t', rfl⟩ := ru
  exact PyProof.Rows.floordiv_int hy (hq _ _ (step_toks (Nat.le_succ _)) (by simp only [Rep]; exact ⟨_, rfl⟩)) (.inl (PyProof.noPylong_small (by omega)))

theorem Bin.add_lst {x y : List D} (hz : x.length + y.length ≤ 4194304) : Bin X Γ .Add (.lst x) (.lst y) (.lst (x ++ y)) := by
  intro A s ad Q E v u hr g rv ru hq
  simp only [RepO] at rv ru
  obtain ⟨l, vs, rfl, ⟨⟨cls, dd, data, sl⟩, ho, hc, n, hd⟩, r1, z1⟩ := rv
  obtain ⟨b, ws, rfl, ⟨⟨cls2, dd2, data2, sl2⟩, ho2, hc2, n2, hd2⟩, r2, z2⟩ := ru
  simp only at hc hd hc2 hd2
  subst hc hd hc2 hd2
  have e1 := Reps.length _ _ r1
  have e2 := Reps.length _ _ r2
  refine concat_meets ⟨_, ho, rfl⟩ ⟨_, ho2, rfl⟩ noFill_list_add seq_list_add PySem.F.slot_list_add PySem.F.entry_list_add (PySem.F.args_list_add_2 _ _) (list_addW l b vs.toArray ws.toArray n n2 dd dd2 sl sl2 (by simp; rw [sizeLine_eq]; omega)) ⟨ho, ho2, ?_⟩
  have e : vs.toArray ++ ws.toArray = (vs ++ ws).toArray := by simp
  rw [e]
  refine hq _ _ (step_h kp_push) ?_
  simp only [Rep]
  exact ⟨_, vs ++ ws, rfl, g.fresh _ (Nat.le_refl _), ⟨_, Heap.get?_push_size _ rfl, rfl, _, rfl⟩, Reps.append _ _ _ _ (Reps.up (kp_push).s _ _ r1) (Reps.up (kp_push).s _ _ r2), by rw [List.length_append]; exact hz⟩

theorem foldl_app (items : Array Value) : ∀ (k : Nat) (acc : Array Value), List.foldl (fun x1 x2 => x1 ++ x2) acc (List.replicate k items) = acc ++ (List.replicate k items.toList).flatten.toArray
  | 0, acc => by simp
  | k + 1, acc => by
    rw [List.replicate_succ, List.foldl_cons, foldl_app items k]
    rw [List.replicate_succ, List.flatten_cons, ← Array.append_assoc.symm]
    congr 1
    cases items; simp

theorem Reps.rep {B : Addr → Prop} {h : Heap} {ds : List D} {vs : List Value} (r : Reps B h ds vs) : ∀ k : Nat, Reps B h (List.replicate k ds).flatten (List.replicate k vs).flatten
  | 0 => by simp [Reps]
  | k + 1 => by simpa [List.replicate_succ] using Reps.append _ _ _ _ r (Reps.rep r k)

/-- [..] * n -/
theorem Ev.mul_lst {es : List PySem.Expr} {b : PySem.Expr} {p p' : Pos} {ds : List D} {n : Int} (h : EvL X Γ es ds) (hb : Ev X Γ b (.int n)) (hn0 : ds ≠ []) (hlo : -(2 ^ 63 : Int) ≤ n) (hhi : n < 2 ^ 63) (hz : ds.length * n.toNat ≤ 4194304) (hz' : ds.length ≤ 4194304) :
    Ev X Γ (.BinOp (.List es p) .Mult b p') (.lst (List.replicate n.toNat ds).flatten) := fun A s ad Q E hr g hq =>
  wpAny_BinOp (List_ (h A s ad _ E p hr g fun vs s1 st r => newList_of (g.up st) r hz' fun h' k pl r' => hb A _ ad _ E hr ((g.up st).up (step_h k)) fun v s2 st2 r2 => by
    simp only [Rep] at r2
    obtain ⟨t, rfl⟩ := r2
    obtain ⟨m, pl'⟩ := pl.at (fun o e => st2.kp _ o e)
    have g2 := ((g.up st).up (step_h k)).up st2
    have el := Reps.length _ _ r
    have hne : vs.toArray.isEmpty = false := by
      cases vs with
      | nil => simp at el; exact absurd (List.eq_nil_of_length_eq_zero el.symm) hn0
      | cons => rfl
    exact wpAny_binaryOp_repeat_ref (T := "list") (U := "int") (by decide) ⟨_, pl', rfl⟩ (fun s' => typeIs_int s' n t) noFill_list_mul F.fills_int_mul F.slot_int_rmul repeat_list F.slot_int_index.lookup
      (call_meets F.slot_int_rmul (typeIs_int s2 n t) F.entry_int_rmul (F.args_int_rmul_2 _ _) (int___rmul___int_list n t _ vs.toArray m)
        ⟨pl', rfl, ⟨_, pl', rfl⟩, call_meets F.slot_list_mul ⟨_, pl', rfl⟩ F.entry_list_mul (F.args_list_mul_2 _ _)
          (AutoListH.list___mul___list_int_3 _ vs.toArray m n t (by simp [Builtin.List.listFitsIndex]; omega) (by rw [List.size_toArray, el]; exact Nat.not_lt.mpr (Nat.le_trans hz (by decide))) (by rw [List.size_toArray, el]; simp [Builtin.List.listTooLong, sizeLine]; omega))
          ⟨pl', by
            refine hq _ _ (((st.trans (step_h k)).trans st2).trans (step_h kp_push)) ?_
            simp only [Rep]
            refine ⟨_, (List.replicate n.toNat vs).flatten, rfl, g2.fresh _ (Nat.le_refl _), ⟨_, Heap.get?_push_size _ rfl, rfl, 0, ?_⟩, Reps.rep (Reps.up (Kp.s ((k.trans st2.kp).trans kp_push)) _ _ r) _, by rw [List.length_flatten]; simp; rw [Nat.mul_comm]; exact hz⟩
            show Data.seq (List.foldl (fun x1 x2 => x1 ++ x2) #[] (List.replicate (if vs.toArray.isEmpty = true then 0 else n.toNat) vs.toArray)) 0 = _
            rw [hne, if_neg Bool.false_ne_true, foldl_app]; simp⟩⟩)))

end
/-- Python's == on data, and the data of like make that it is asked of -/
noncomputable def dmix (s : List Nat → List Nat → Bool) (i : Int → Int → Bool) (g : List D → List D → Bool) : D → D → Bool
  | .str x, .str y => s x y
  | .int x, .int y => i x y
  | .non, .non => true
  | .tup a, .tup b => g a b
  | .lst a, .lst b => g a b
  | _, _ => false
noncomputable def deq : Nat → D → D → Bool
  | 0 => dmix (fun x y => x == y) (fun x y => x == y) fun _ _ => false
  | n + 1 => dmix (fun x y => x == y) (fun x y => x == y) fun a b => a.length == b.length && (a.zip b).all fun p => deq n p.1 p.2
noncomputable def cp : Nat → D → D → Bool
  | 0 => dmix (fun _ _ => true) (fun _ _ => true) fun _ _ => false
  | n + 1 => dmix (fun _ _ => true) (fun _ _ => true) fun a b => (a.zip b).all fun p => cp n p.1 p.2
theorem deq_str (n : Nat) (x y : List Nat) : deq n (.str x) (.str y) = (x == y) := by cases n <;> rfl
theorem deq_int (n : Nat) (x y : Int) : deq n (.int x) (.int y) = (x == y) := by cases n <;> rfl
theorem deq_non (n : Nat) : deq n .non .non = true := by cases n <;> rfl
theorem deq_seq {n : Nat} {a b : List D} : (a.length == b.length && (a.zip b).all fun p => deq n p.1 p.2) = deq (n + 1) (.tup a) (.tup b) := rfl
/-- two data of like make -/
noncomputable def Like (d e : D) (P : List D → List D → Prop) : Prop :=
  (∃ x y, d = .str x ∧ e = .str y) ∨ (∃ x y, d = .int x ∧ e = .int y) ∨ (d = .non ∧ e = .non) ∨ ∃ a b, ((d = .tup a ∧ e = .tup b) ∨ (d = .lst a ∧ e = .lst b)) ∧ P a b
theorem dmix_cases {g : List D → List D → Bool} {d e : D} (h : dmix (fun _ _ => true) (fun _ _ => true) g d e = true) : Like d e fun a b => g a b = true := by
  cases d with
  | str x => cases e with
    | str y => exact .inl ⟨x, y, rfl, rfl⟩
    | _ => exact absurd h Bool.false_ne_true
  | int x => cases e with
    | int y => exact .inr (.inl ⟨x, y, rfl, rfl⟩)
    | _ => exact absurd h Bool.false_ne_true
  | non => cases e with
    | non => exact .inr (.inr (.inl ⟨rfl, rfl⟩))
    | _ => exact absurd h Bool.false_ne_true
  | tup x => cases e with
    | tup y => exact .inr (.inr (.inr ⟨x, y, .inl ⟨rfl, rfl⟩, h⟩))
    | _ => exact absurd h Bool.false_ne_true
  | lst x => cases e with
    | lst y => exact .inr (.inr (.inr ⟨x, y, .inr ⟨rfl, rfl⟩, h⟩))
    | _ => exact absurd h Bool.false_ne_true
  | _ => exact absurd h Bool.false_ne_true
theorem cp_cases {n : Nat} {d e : D} (h : cp n d e = true) : Like d e fun a b => ∃ m, n = m + 1 ∧ ∀ p ∈ a.zip b, cp m p.1 p.2 = true := by
  cases n with
  | zero =>
    rcases dmix_cases h with h | h | h | ⟨a, b, _, h⟩
    · exact .inl h
    · exact .inr (.inl h)
    · exact .inr (.inr (.inl h))
    · cases h
  | succ n =>
    rcases dmix_cases h with h | h | h | ⟨a, b, h1, h⟩
    · exact .inl h
    · exact .inr (.inl h)
    · exact .inr (.inr (.inl h))
    · exact .inr (.inr (.inr ⟨a, b, h1, n, rfl, List.all_eq_true.mp h⟩))

theorem Reps.both {B B' : Addr → Prop} {h : Heap} {a b : List D} {vs : List Value} (r : Reps B h a vs) (q : Reps B' h b vs) {x y : D} (hm : (x, y) ∈ a.zip b) : ∃ v, Rep B h x v ∧ Rep B' h y v := by
  obtain ⟨i, hi⟩ := List.mem_iff_getElem?.mp hm
  obtain ⟨h1, h2⟩ := List.getElem?_zip_eq_some.mp hi
  obtain ⟨v, e1, e2⟩ := Reps.get _ _ i x r h1
  obtain ⟨w, f1, f2⟩ := Reps.get _ _ i y q h2
  rw [e1] at f1
  cases f1
  exact ⟨v, e2, f2⟩

/-- the same value is equal to itself, where it may be asked -/
theorem seqinj {B B' : Addr → Prop} {h : Heap} {n : Nat} {a b : List D} {vs : List Value} (ih : ∀ (d e : D) (v : Value), Rep B h d v → Rep B' h e v → cp n d e = true → deq n d e = true)
    (h4 : Reps B h a vs) (k4 : Reps B' h b vs) (hc : ∀ p ∈ a.zip b, cp n p.1 p.2 = true) : deq (n + 1) (.tup a) (.tup b) = true := by
  rw [← deq_seq, Reps.length _ _ h4 |>.symm.trans (Reps.length _ _ k4), beq_self_eq_true, Bool.true_and, List.all_eq_true]
  intro p hp
  obtain ⟨w, w1, w2⟩ := Reps.both h4 k4 hp
  exact ih p.1 p.2 w w1 w2 (hc _ hp)
theorem Rep.cpinj {B B' : Addr → Prop} {h : Heap} (n : Nat) : ∀ (d e : D) (v : Value), Rep B h d v → Rep B' h e v → cp n d e = true → deq n d e = true := by
  induction n using Nat.strongRecOn with
  | _ n ih =>
  intro d e v r q hc
  rcases cp_cases hc with ⟨x, y, rfl, rfl⟩ | ⟨x, y, rfl, rfl⟩ | ⟨rfl, rfl⟩ | ⟨a, b, hs, m, rfl, hg⟩
  · obtain ⟨t, rfl, _⟩ := r
    obtain ⟨t', e, _⟩ := q
    injection e with e1 e2
    rw [S_inj e1, deq_str, beq_self_eq_true]
  · obtain ⟨t, rfl⟩ := r
    obtain ⟨t', e⟩ := q
    injection e with e1 e2
    rw [e1, deq_int, beq_self_eq_true]
  · exact deq_non n
  · have ih := ih m (Nat.lt_succ_self m)
    rcases hs with ⟨rfl, rfl⟩ | ⟨rfl, rfl⟩
    · obtain ⟨l, vs, rfl, _, ⟨o, h1, h2, m, h3⟩, h4, _⟩ := r
      obtain ⟨l', vs', e, _, ⟨o', k1, k2, m', k3⟩, k4, _⟩ := q
      cases e
      have hv : vs = vs' := by
        rw [h1] at k1; cases k1; rw [h3] at k3; injection k3 with q1 q2; injection q1
      exact seqinj ih h4 (hv ▸ k4) hg
    · obtain ⟨l, vs, rfl, _, ⟨o, h1, h2, m, h3⟩, h4, _⟩ := r
      obtain ⟨l', vs', e, _, ⟨o', k1, k2, m', k3⟩, k4, _⟩ := q
      cases e
      have hv : vs = vs' := by
        rw [h1] at k1; cases k1; rw [h3] at k3; injection k3 with q1 q2; injection q1
      exact seqinj ih h4 (hv ▸ k4) hg

theorem zip_all {f : D → D → Bool} : ∀ (a b : List D), ((List.range (min a.length b.length)).all fun j => f (a.getD j .non) (b.getD j .non)) = (a.zip b).all fun p => f p.1 p.2
  | [], b => by simp
  | _ :: _, [] => by simp
  | x :: a, y :: b => by
    rw [List.length_cons, List.length_cons, Nat.add_min_add_right, List.range_succ_eq_map, List.all_cons, List.all_map, List.zip_cons_cons, List.all_cons, ← zip_all a b]
    simp only [List.getD_cons_zero, Function.comp_def, List.getD_cons_succ]

theorem zip_at {a b : List D} {j : Nat} (h1 : j < a.length) (h2 : j < b.length) : (a[j], b[j]) ∈ a.zip b := by
  rw [List.mem_iff_getElem?]
  exact ⟨j, by rw [List.getElem?_zip_eq_some]; exact ⟨by simp [h1], by simp [h2]⟩⟩

theorem items_at {B B' : Addr → Prop} {h : Heap} {a b : List D} {vs vs' : List Value} (h2 : Reps B h a vs) (k2 : Reps B' h b vs') {j : Nat} (hj1 : j < vs.toArray.size) (hj2 : j < vs'.toArray.size) :
    ∃ d e, (d, e) ∈ a.zip b ∧ a.getD j .non = d ∧ b.getD j .non = e ∧ Rep B h d vs.toArray[j] ∧ Rep B' h e vs'.toArray[j] := by
  have e1 := Reps.length _ _ h2
  have e2 := Reps.length _ _ k2
  have hj1' : j < a.length := by simpa [e1] using hj1
  have hj2' : j < b.length := by simpa [e2] using hj2
  obtain ⟨w1, x1, x2⟩ := Reps.get a vs j a[j] h2 (by simp [hj1'])
  obtain ⟨w2, y1, y2⟩ := Reps.get b vs' j b[j] k2 (by simp [hj2'])
  have z1 : vs.toArray[j] = w1 := by obtain ⟨_, e⟩ := List.getElem?_eq_some_iff.mp x1; simpa using e
  have z2 : vs'.toArray[j] = w2 := by obtain ⟨_, e⟩ := List.getElem?_eq_some_iff.mp y1; simpa using e
  exact ⟨a[j], b[j], zip_at hj1' hj2', by simp [List.getD, hj1'], by simp [List.getD, hj2'], z1 ▸ x2, z2 ▸ y2⟩

noncomputable abbrev ej (n : Nat) (a b : List D) (j : Nat) : Bool := deq n (a.getD j .non) (b.getD j .non)

theorem tup_fin (n : Nat) {B B' : Addr → Prop} {h : Heap} {a b : List D} {vs vs' : List Value} (h2 : Reps B h a vs) (k2 : Reps B' h b vs') :
    ((List.range (min vs.toArray.size vs'.toArray.size)).all (ej n a b) && vs.toArray.size == vs'.toArray.size) = deq (n + 1) (.tup a) (.tup b) := by
  rw [List.size_toArray, List.size_toArray, Reps.length _ _ h2, Reps.length _ _ k2]
  have := zip_all (f := deq n) a b
  unfold ej
  rw [this, ← deq_seq, Bool.and_comm]
theorem lst_fin (n : Nat) {B : Addr → Prop} {h : Heap} {a b : List D} {vs : List Value} (h2 : Reps B h a vs) (hl : a.length = b.length) :
    (List.range vs.toArray.size).all (ej n a b) = deq (n + 1) (.tup a) (.tup b) := by
  rw [List.size_toArray, Reps.length _ _ h2]
  have := zip_all (f := deq n) a b
  rw [← hl, Nat.min_self] at this
  unfold ej
  rw [this, ← deq_seq, hl, beq_self_eq_true, Bool.true_and]
theorem seq_differ {n : Nat} {a b : List D} (hl : ¬ a.length = b.length) : deq (n + 1) (.lst a) (.lst b) = false := by
  show deq (n + 1) (.tup a) (.tup b) = false
  rw [← deq_seq, beq_eq_false_iff_ne.mpr hl, Bool.false_and]
theorem sizes_eq {B B' : Addr → Prop} {h : Heap} {a b : List D} {vs vs' : List Value} (h2 : Reps B h a vs) (k2 : Reps B' h b vs') : vs.toArray.size = vs'.toArray.size ↔ a.length = b.length := by
  rw [List.size_toArray, List.size_toArray, Reps.length _ _ h2, Reps.length _ _ k2]
theorem items_eq {B B' : Addr → Prop} {A : Around} {s : Shared} {n : Nat} {a b : List D} (hc : ∀ p ∈ a.zip b, cp n p.1 p.2 = true)
    (ih : ∀ (d e : D) (v u : Value), Rep B s.heap d v → Rep B' s.heap e u → cp n d e = true → SeqAt.EqAt A s v u (deq n d e))
    (vs vs' : List Value) (h2 : Reps B s.heap a vs) (k2 : Reps B' s.heap b vs') (j) (hj1 : j < vs.toArray.size) (hj2 : j < vs'.toArray.size) : SeqAt.EqAt A s vs.toArray[j] vs'.toArray[j] (ej n a b j) := by
  obtain ⟨d, e, hm, g1, g2, r1, r2⟩ := items_at h2 k2 hj1 hj2
  unfold ej
  rw [g1, g2]
  exact ih d e _ _ r1 r2 (hc _ hm)

theorem eqAt (n : Nat) : ∀ (d e : D) {B B' : Addr → Prop} {A : Around} {s : Shared} (v u : Value), Rep B s.heap d v → Rep B' s.heap e u → cp n d e = true → A.units + n < cLine → SeqAt.EqAt A s v u (deq n d e) := by
  induction n using Nat.strongRecOn with
  | _ n ih =>
  intro d e B B' A s v u r q hc hu
  by_cases hvu : v = u
  · subst hvu
    rw [Rep.cpinj _ _ _ _ r q hc]
    exact SeqAt.EqAt.same v
  rcases cp_cases hc with ⟨x, y, rfl, rfl⟩ | ⟨x, y, rfl, rfl⟩ | ⟨rfl, rfl⟩ | ⟨a, b, hs, m, rfl, hg⟩
  · obtain ⟨t, rfl, _⟩ := r; obtain ⟨t', rfl, _⟩ := q
    rw [deq_str, ← S_beq]
    exact SeqAt.EqAt.str_str (S x) t (S y) t'
  · obtain ⟨t, rfl⟩ := r; obtain ⟨t', rfl⟩ := q
    rw [deq_int]
    exact SeqAt.EqAt.int_int x t y t'
  · exact absurd (Eq.trans r (Eq.symm q)) hvu
  · have hu1 : A.in1.units + m < cLine := by show A.units + 1 + m < cLine; omega
    have hu2 : A.units < cLine := by omega
    have ih := items_eq (a := a) (b := b) hg fun d e v u r q c => ih m (Nat.lt_succ_self m) d e (B := B) (B' := B') (A := A.in1) (s := s) v u r q c hu1
    rcases hs with ⟨rfl, rfl⟩ | ⟨rfl, rfl⟩
    · obtain ⟨l, vs, rfl, _, h1, h2, _⟩ := r
      obtain ⟨l', vs', rfl, _, k1, k2, _⟩ := q
      have key := SeqAt.RcAt.tuples (A := A) h1 k1 hu2 (ih _ _ h2 k2)
      rw [tup_fin m h2 k2] at key
      exact SeqAt.EqAt.of_refs (fun e => hvu (e ▸ rfl)) key
    · obtain ⟨l, vs, rfl, _, h1, h2, _⟩ := r
      obtain ⟨l', vs', rfl, _, k1, k2, _⟩ := q
      refine SeqAt.EqAt.of_refs (fun e => hvu (e ▸ rfl)) ?_
      by_cases hl : a.length = b.length
      · have key := SeqAt.RcAt.lists (A := A) h1 k1 ((sizes_eq h2 k2).mpr hl) hu2 (ih _ _ h2 k2)
        rw [lst_fin m h2 hl] at key
        exact key
      · rw [seq_differ hl]
        exact SeqAt.RcAt.lists_lengths (A := A) h1 k1 (bne_iff_ne.mpr fun e => hl ((sizes_eq h2 k2).mp e)) hu2
section
variable {X : Cx} {Γ : Gam}

theorem Room.units {k : Nat} {A : Around} (r : Room k A) : A.units + 40 < cLine := by have := r.2.2; omega

/-- a list perhaps under change against a list, top of a comparison -/
theorem rcO (n : Nat) (hn : n ≤ 30) (d e : D) {B B' : Addr → Prop} {A : Around} {s : Shared} (v u : Value) (r : RepO B s.heap d v) (q : RepO B' s.heap e u) (hc : cp n d e = true) (hu : A.units + 40 < cLine) (hd : ¬ (d = .non ∧ e = .non)) :
    SeqAt.RcAt A s v u (deq n d e) ∧ SeqAt.RcNeAt A s v u (!deq n d e) := by
  rcases cp_cases hc with ⟨x, y, rfl, rfl⟩ | ⟨x, y, rfl, rfl⟩ | ⟨rfl, rfl⟩ | ⟨a, b, hs, m, rfl, hg⟩
  · obtain ⟨t, rfl, _⟩ := r; obtain ⟨t', rfl, _⟩ := q
    rw [deq_str, ← S_beq]
    exact ⟨fun prog w E Q h => PyProof.Rows.eq_str h, SeqAt.RcNeAt.str_str (S x) t (S y) t'⟩
  · obtain ⟨t, rfl⟩ := r; obtain ⟨t', rfl⟩ := q
    rw [deq_int]
    exact ⟨fun prog w E Q h => PyProof.Rows.eq_int h, SeqAt.RcNeAt.int_int x t y t'⟩
  · exact absurd ⟨rfl, rfl⟩ hd
  · have hu1 : A.in1.units + m < cLine := by show A.units + 1 + m < cLine; omega
    have hu2 : A.units < cLine := by omega
    have ih := items_eq (a := a) (b := b) hg fun d e v u r q c => eqAt m d e (B := B) (B' := B') (A := A.in1) (s := s) v u r q c hu1
    rcases hs with ⟨rfl, rfl⟩ | ⟨rfl, rfl⟩
    · obtain ⟨l, vs, rfl, _, h1, h2, _⟩ := r
      obtain ⟨l', vs', rfl, _, k1, k2, _⟩ := q
      have q1 := SeqAt.RcAt.tuples (A := A) h1 k1 hu2 (ih _ _ h2 k2)
      have q3 := SeqAt.RcNeAt.tuples (A := A) h1 k1 hu2 (ih _ _ h2 k2)
      rw [tup_fin m h2 k2] at q1 q3
      exact ⟨q1, q3⟩
    · obtain ⟨l, vs, rfl, h1, h2, _⟩ := r
      obtain ⟨l', vs', rfl, k1, k2, _⟩ := q
      by_cases hl : a.length = b.length
      · have q1 := SeqAt.RcAt.lists (A := A) h1 k1 ((sizes_eq h2 k2).mpr hl) hu2 (ih _ _ h2 k2)
        have q3 := SeqAt.RcNeAt.lists (A := A) h1 k1 ((sizes_eq h2 k2).mpr hl) hu2 (ih _ _ h2 k2)
        rw [lst_fin m h2 hl] at q1 q3
        exact ⟨q1, q3⟩
      · have hne := bne_iff_ne.mpr fun e => hl ((sizes_eq h2 k2).mp e)
        rw [seq_differ hl]
        exact ⟨SeqAt.RcAt.lists_lengths (A := A) h1 k1 hne hu2, SeqAt.RcNeAt.lists_lengths (A := A) h1 k1 hne hu2⟩

theorem Cmp.eq {n : Nat} {x y : D} (hc : cp n x y = true) (hn : n ≤ 30) (hd : ¬ (x = .non ∧ y = .non)) : Cmp X Γ .Eq x y (deq n x y) := fun A s ad Q E v u hr g rv ru hq =>
  cmp_ofEq ((rcO n hn x y v u rv ru hc hr.units hd).1 _ _ E Q (hq s (Step.refl s)))
theorem Cmp.ne {n : Nat} {x y : D} (hc : cp n x y = true) (hn : n ≤ 30) (hd : ¬ (x = .non ∧ y = .non)) : Cmp X Γ .NotEq x y (!deq n x y) := fun A s ad Q E v u hr g rv ru hq =>
  cmp_ofNotEq ((rcO n hn x y v u rv ru hc hr.units hd).2 _ _ E Q (hq s (Step.refl s)))

theorem Cmp.eq_str {x y : List Nat} : Cmp X Γ .Eq (.str x) (.str y) (x == y) := Cmp.eq (n := 0) rfl (by decide) (by simp)
theorem Cmp.ne_str {x y : List Nat} : Cmp X Γ .NotEq (.str x) (.str y) (!(x == y)) := Cmp.ne (n := 0) rfl (by decide) (by simp)
theorem Cmp.eq_int {x y : Int} : Cmp X Γ .Eq (.int x) (.int y) (x == y) := Cmp.eq (n := 0) rfl (by decide) (by simp)
theorem Cmp.lt_int {x y : Int} : Cmp X Γ .Lt (.int x) (.int y) (decide (x < y)) := by
  intro A s ad Q E v u hr g rv ru hq
  simp only [RepO, Rep] at rv ru
  obtain ⟨t, rfl⟩ := rv; obtain ⟨t', rfl⟩ := ru
  exact PyProof.Rows.lt_int (hq s (Step.refl s))

/-- one text in another, by the library's word -/
theorem Cmp.in_str {x y : List Nat} : Cmp X Γ .In (.str y) (.str x) (Txt.contains (S x) (S y)) := by
  intro A s ad Q E v u hr g rv ru hq
  simp only [RepO, Rep] at rv ru
  obtain ⟨t, rfl, _⟩ := rv; obtain ⟨t', rfl, _⟩ := ru
  exact SB.contains (hq s (Step.refl s))

theorem any_reps {B : Addr → Prop} {h : Heap} {f : D → Bool} : ∀ (l : List D) (vs : List Value) (e : Value → Bool), Reps B h l vs → (∀ (i : Nat) d v, l[i]? = some d → vs[i]? = some v → e v = f d) → vs.any e = l.any f
  | [], vs, e, r, _ => by simp only [Reps] at r; subst r; rfl
  | d :: l, vs, e, r, hh => by
    simp only [Reps] at r
    obtain ⟨v, q, rfl, h1, h2⟩ := r
    rw [List.any_cons, List.any_cons, hh 0 d v rfl rfl, any_reps l q e h2 fun i d v x y => hh (i + 1) d v (by simpa using x) (by simpa using y)]

/-- a text (not) in a list of texts -/
theorem notIn_strs {x : List Nat} {l : List (List Nat)} : Cmp X Γ .NotIn (.str x) (.lst (l.map .str)) (!l.contains x) := by
  intro A s ad Q E v u hr g rv ru hq
  simp only [RepO, Rep] at rv ru
  obtain ⟨t, rfl, _⟩ := rv; obtain ⟨a, vs, rfl, h1, h2, _⟩ := ru
  have item : ∀ y ∈ vs.toArray, ∃ (i : Nat) (z : List Nat) (t' : Tok), l[i]? = some z ∧ y = .str (S z) t' := fun y hy => by
    obtain ⟨i, hi⟩ := List.mem_iff_getElem?.mp (by simpa using hy : y ∈ vs)
    obtain ⟨d, e1, e2⟩ := Reps.get' _ _ i y h2 hi
    rw [List.getElem?_map] at e1
    cases e3 : l[i]? with
    | none => rw [e3] at e1; cases e1
    | some z =>
      rw [e3] at e1; cases e1
      simp only [Rep] at e2
      obtain ⟨t', e4, _⟩ := e2
      exact ⟨i, z, t', e3, e4⟩
  let e : Value → Bool := fun v => match v with | .str y _ => y == S x | _ => false
  refine SeqAt.notIn_listAt e h1 (fun y hy => ?_) ?_
  · obtain ⟨i, z, t', _, rfl⟩ := item y hy
    exact SeqAt.EqAt.str_str (S z) t' (S x) t
  · have : vs.toArray.any e = l.contains x := by
      have := any_reps (f := fun d => match d with | .str y => y == x | _ => false) (l.map .str) vs e h2 fun i d v e1 e2 => by
        rw [List.getElem?_map] at e1
        cases e3 : l[i]? with
        | none => rw [e3] at e1; cases e1
        | some z =>
          rw [e3] at e1; cases e1
          obtain ⟨d', e4, e5⟩ := Reps.get' _ _ i v h2 e2
          rw [List.getElem?_map, e3] at e4; cases e4
          simp only [Rep] at e5
          obtain ⟨t', rfl, _⟩ := e5
          exact S_beq z x
      rw [List.any_toArray, this, List.any_map]
      rw [List.contains_eq_any_beq]
      congr 1
      funext z
      show (z == x) = (x == z)
      exact Bool.eq_iff_iff.mpr ⟨fun h => by simp at h; simp [h], fun h => by simp at h; simp [h]⟩
    rw [this]
    exact hq s (Step.refl s)

noncomputable def D.tru : D → Bool
  | .non => false
  | .bool b => b
  | .int i => i != 0
  | .str x => !x.isEmpty
  | .ty _ => true
  | .raw _ => true
  | .tup l => !l.isEmpty
  | .lst l => !l.isEmpty

/-- data whose truth may be asked -/
noncomputable def D.pl : D → Bool
  | .ty _ => false
  | .raw _ => false
  | _ => true
theorem truthyO {B : Addr → Prop} {A : Around} {s : Shared} {d : D} {v : Value} {Q : Bool → Shared → Prop} {E : Value → Shared → Prop} {prog : Program} {w : World} (r : RepO B s.heap d v) (hty : d.pl = true) (hq : ∀ s', Step s s' → Q d.tru s') : wpAny (model prog w) A (truthy v) Q E s := by
  cases d with
  | ty n => cases hty
  | raw a => cases hty
  | non => simp only [RepO, Rep] at r; subst r; exact PyProof.Rows.truthy_none (hq s (Step.refl s))
  | bool b => simp only [RepO, Rep] at r; subst r; exact wpAny_truthy_bool (hq s (Step.refl s))
  | int i => simp only [RepO, Rep] at r; obtain ⟨t, rfl⟩ := r; exact PyProof.Rows.truthy_int (hq s (Step.refl s))
  | str x =>
    simp only [RepO, Rep] at r; obtain ⟨t, rfl, hz⟩ := r
    refine PySem.P.truthy_str (by rw [S_length]; omega) ?_
    rw [S_length]
    have : ((x.length : Int) != 0) = (D.str x).tru := by cases x <;> simp [D.tru]; omega
    rw [this]; exact hq _ (step_toks (by omega))
  | tup l =>
    simp only [RepO, Rep] at r; obtain ⟨a, vs, rfl, _, h1, h2, hz⟩ := r
    have e1 := Reps.length _ _ h2
    refine PyProof.Rows.truthy_tuple h1 (by simp [e1]; omega) ?_
    have : (!vs.toArray.isEmpty) = (D.tup l).tru := by cases l <;> cases vs <;> simp_all [D.tru]
    rw [this]; exact hq _ (step_toks (by omega))
  | lst l =>
    simp only [RepO] at r; obtain ⟨a, vs, rfl, h1, h2, hz⟩ := r
    have e1 := Reps.length _ _ h2
    refine wpAny_truthy_list h1 (by simp [e1]; omega) ?_
    have : (!vs.toArray.isEmpty) = (D.lst l).tru := by cases l <;> cases vs <;> simp_all [D.tru]
    rw [this]; exact hq _ (step_toks (by omega))

noncomputable def plnT : PySem.Expr → Bool
  | .UnaryOp .. => false
  | .BoolOp .. => false
  | .IfExp .. => false
  | .Compare .. => false
  | _ => true
theorem plain_true {e : PySem.Expr} (h : plnT e = true) (env : Env) (whole : Sem Value) : PySem.isTrue e env whole = (do let v ← whole; standAt e.pos; holding [v] (truthy v)) := by
  cases e <;> first | rfl | cases h
theorem Tr.plain {e : PySem.Expr} {d : D} (h : EvO X Γ e d) (hty : d.pl = true := by rfl) (he : plnT e = true := by rfl) : Tr X Γ e d.tru := fun A s ad Q E hr g hq =>
  PyProof.Rows.isTrue_plain (h A s ad _ E hr g fun v s1 st r => truthyO r hty fun s2 st2 => hq s2 (st.trans st2)) (plain_true he _ _)
theorem Tr.not {e : PySem.Expr} {p : Pos} {b : Bool} (h : Tr X Γ e b) : Tr X Γ (.UnaryOp .Not e p) (!b) := fun A s ad Q E hr g hq =>
  PyProof.Rows.isTrue_not (h A s ad _ E hr g fun s1 st => hq s1 st)
theorem Tr.and_nil {p : Pos} : Tr X Γ (.BoolOp .And [] p) true := fun A s ad Q E hr g hq => PyProof.Rows.isTrue_and_nil (hq s (Step.refl s))
theorem Tr.or_nil {p : Pos} : Tr X Γ (.BoolOp .Or [] p) false := fun A s ad Q E hr g hq => PyProof.Rows.isTrue_or_nil (hq s (Step.refl s))
theorem Tr.and {x : PySem.Expr} {xs : List PySem.Expr} {p : Pos} {a b : Bool} (h : Tr X Γ x a) (hs : a = true → Tr X Γ (.BoolOp .And xs p) b) : Tr X Γ (.BoolOp .And (x :: xs) p) (a && b) := fun A s ad Q E hr g hq =>
  PyProof.Rows.isTrue_and (h A s ad _ E hr g fun s1 st => by
    cases a with
    | false => exact hq s1 st
    | true => exact hs rfl A s1 ad _ E hr (g.up st) fun s2 st2 => hq s2 (st.trans st2))
theorem Tr.or {x : PySem.Expr} {xs : List PySem.Expr} {p : Pos} {a b : Bool} (h : Tr X Γ x a) (hs : a = false → Tr X Γ (.BoolOp .Or xs p) b) : Tr X Γ (.BoolOp .Or (x :: xs) p) (a || b) := fun A s ad Q E hr g hq =>
  PyProof.Rows.isTrue_or (h A s ad _ E hr g fun s1 st => by
    cases a with
    | true => exact hq s1 st
    | false => exact hs rfl A s1 ad _ E hr (g.up st) fun s2 st2 => hq s2 (st.trans st2))
theorem Tr.cast {e : PySem.Expr} {a b : Bool} (h : Tr X Γ e a) (hab : a = b) : Tr X Γ e b := hab ▸ h
theorem Ev.cast {e : PySem.Expr} {a b : D} (h : Ev X Γ e a) (hab : a = b) : Ev X Γ e b := hab ▸ h

theorem Ev.ifexp {t x y : PySem.Expr} {p : Pos} {c : Bool} {d1 d2 : D} (ht : Tr X Γ t c) (hx : c = true → Ev X Γ x d1) (hy : c = false → Ev X Γ y d2) : Ev X Γ (.IfExp t x y p) (if c then d1 else d2) := fun A s ad Q E hr g hq =>
  PyProof.Rows.IfExp_ (ht A s ad _ E hr g fun s1 st => by
    cases c with
    | true => exact hx rfl A s1 ad _ E hr (g.up st) fun v s2 st2 r => hq v s2 (st.trans st2) r
    | false => exact hy rfl A s1 ad _ E hr (g.up st) fun v s2 st2 r => hq v s2 (st.trans st2) r)

theorem Ev.one {op : BoolOp} {e : PySem.Expr} {p : Pos} {d : D} (h : Ev X Γ e d) : Ev X Γ (.BoolOp op [e] p) d := fun A s ad Q E hr g hq => PyProof.Rows.BoolOp_one (h A s ad Q E hr g hq)
theorem Ev.or {x y : PySem.Expr} {r : List PySem.Expr} {p : Pos} {d1 d2 : D} (hx : Ev X Γ x d1) (hy : d1.tru = false → Ev X Γ (.BoolOp .Or (y :: r) p) d2) (hty : d1.pl = true := by rfl) : Ev X Γ (.BoolOp .Or (x :: y :: r) p) (if d1.tru then d1 else d2) := fun A s ad Q E hr g hq =>
  PyProof.Rows.BoolOp_or (hx A s ad _ E hr g fun v s1 st r1 => truthyO r1.o hty fun s2 st2 => by
    cases hc : d1.tru with
    | true => rw [hc] at hq; exact hq v s2 (st.trans st2) (Rep.up st2.kp.s _ _ r1)
    | false => rw [hc] at hq; exact hy hc A s2 ad _ E hr ((g.up st).up st2) fun v s3 st3 r3 => hq v s3 ((st.trans st2).trans st3) r3)
theorem Ev.and {x y : PySem.Expr} {r : List PySem.Expr} {p : Pos} {d1 d2 : D} (hx : Ev X Γ x d1) (hy : d1.tru = true → Ev X Γ (.BoolOp .And (y :: r) p) d2) (hty : d1.pl = true := by rfl) : Ev X Γ (.BoolOp .And (x :: y :: r) p) (if d1.tru then d2 else d1) := fun A s ad Q E hr g hq =>
  PyProof.Rows.BoolOp_and (hx A s ad _ E hr g fun v s1 st r1 => truthyO r1.o hty fun s2 st2 => by
    cases hc : d1.tru with
    | false => rw [hc] at hq; exact hq v s2 (st.trans st2) (Rep.up st2.kp.s _ _ r1)
    | true => rw [hc] at hq; exact hy hc A s2 ad _ E hr ((g.up st).up st2) fun v s3 st3 r3 => hq v s3 ((st.trans st2).trans st3) r3)
end
section
variable {X : Cx} {Γ : Gam}

/-- where an index points -/
noncomputable def ix (n : Nat) (i : Int) : Nat := if i < 0 then (i + n).toNat else i.toNat

/-- an item of a list (perhaps one under change) at an int -/
theorem Ev.item {a b : PySem.Expr} {p : Pos} {l : List D} {i : Int} {d : D} (ha : EvO X Γ a (.lst l)) (hb : Ev X Γ b (.int i)) (hlo : -(l.length : Int) ≤ i) (hd : l[ix l.length i]? = some d)
    (hs : ∀ o v u, subscripted b false (.ref o) (.int v u) = operate [.ref o, .int v u] (getItem (.ref o) (.int v u)) := by intro _ _ _; with_unfolding_all rfl) : Ev X Γ (.Subscript a b p) d := fun A s ad Q E hr g hq =>
  Subscript_ (ha A s ad _ E hr g fun v s1 st1 r1 => hb A s1 ad _ E hr (g.up st1) fun u s2 st2 r2 => by
    have r1 := RepO.up st2.kp _ _ r1
    simp only [RepO] at r1; obtain ⟨o, vs, rfl, h1, h2, hz⟩ := r1
    simp only [Rep] at r2; obtain ⟨t, rfl⟩ := r2
    obtain ⟨w, e1, e2⟩ := Reps.get _ _ _ _ h2 hd
    have el := Reps.length _ _ h2
    have hlt : ix l.length i < l.length := by
      rcases Nat.lt_or_ge (ix l.length i) l.length with h | h
      · exact h
      · rw [List.getElem?_eq_none h] at hd; cases hd
    refine tail_any h1.typeIs slot_list_getitem.lookup ?_ (hs _ _ _)
    unfold ix at hd e1 hlt
    by_cases hn : i < 0
    · rw [if_pos hn] at e1
      exact wpAny_getItem_list_neg h1 hn (by rw [List.size_toArray, el]; exact hlo) (by omega) (by rw [List.size_toArray, el]; simpa using e1) (hq _ _ (st1.trans st2) e2)
    · rw [if_neg hn] at e1 hlt
      exact wpAny_getItem_list h1 (by omega) (by omega) (by simpa using e1) (hq _ _ (st1.trans st2) e2))

/-- an item of a tuple -/
theorem Ev.itemT {a b : PySem.Expr} {p : Pos} {l : List D} {i : Int} {d : D} (ha : Ev X Γ a (.tup l)) (hb : Ev X Γ b (.int i)) (hlo : 0 ≤ i) (hd : l[i.toNat]? = some d)
    (hs : ∀ o v u, subscripted b false (.ref o) (.int v u) = operate [.ref o, .int v u] (getItem (.ref o) (.int v u)) := by intro _ _ _; with_unfolding_all rfl) : Ev X Γ (.Subscript a b p) d := fun A s ad Q E hr g hq =>
  Subscript_ (ha A s ad _ E hr g fun v s1 st1 r1 => hb A s1 ad _ E hr (g.up st1) fun u s2 st2 r2 => by
    have r1 := Rep.up st2.kp.s _ _ r1
    simp only [Rep] at r1 r2; obtain ⟨o, vs, rfl, _, h1, h2, hz⟩ := r1
    obtain ⟨t, rfl⟩ := r2
    obtain ⟨w, e1, e2⟩ := Reps.get _ _ _ _ h2 hd
    have el := Reps.length _ _ h2
    have hlt : i.toNat < l.length := by
      rcases Nat.lt_or_ge i.toNat l.length with h | h
      · exact h
      · rw [List.getElem?_eq_none h] at hd; cases hd
    exact item_tupleT (k := i) h1 (by omega) (by omega) (j := i.toNat) (by
      unfold seqIndex?
      rw [el]
      have h2 : ¬ i < 0 := by omega
      simp only [if_neg h2]
      rw [if_pos (by simp; omega)]) e1 (hq _ _ (st1.trans st2) e2) (hs _ _ _))

/-- a part of a slice -/
noncomputable def Pt (X : Cx) (Γ : Gam) : Option PySem.Expr → Option Int → Prop
  | none, none => True
  | some e, some i => Ev X Γ e (.int i)
  | _, _ => False

theorem pt_wp {e : Option PySem.Expr} {i : Option Int} (h : Pt X Γ e i) {A : Around} {s : Shared} {ad : Nat → Addr} {Q : Value → Shared → Prop} {E : Value → Shared → Prop} (hr : Room X.k A) (g : Gd X ad Γ s)
    (hq : ∀ v s', Step s s' → (∃ q : Option (Int × Tok), v = partValue q ∧ q.map (·.1) = i) → IsPart v i → Q v s') : wpAny (model X.G.prog X.G.w) A (evalPart e X.env) Q E s := by
  cases e with
  | none => cases i with
    | none => rw [evalPart_none]; exact wpAny_pure (hq _ _ (Step.refl s) ⟨none, rfl, rfl⟩ .none)
    | some i => exact h.elim
  | some e => cases i with
    | none => exact h.elim
    | some i =>
      rw [evalPart_some]
      exact h A s ad _ E hr g fun v s' st r => by
        simp only [Rep] at r; obtain ⟨t, rfl⟩ := r
        exact hq _ _ st ⟨some (i, t), rfl, rfl⟩ (.int i t)

/-- l[lo:hi] -/
noncomputable def slc {α : Type} (l : List α) (lo hi : Option Int) : List α := (l.drop (lo.elim 0 (clipAt l.length))).take (hi.elim l.length (clipAt l.length) - lo.elim 0 (clipAt l.length))

theorem slc_length_le {α : Type} (l : List α) (lo hi : Option Int) : (slc l lo hi).length ≤ l.length := by
  unfold slc; rw [List.length_take, List.length_drop]; omega

theorem Ev.sliceL {a : PySem.Expr} {lo hi : Option PySem.Expr} {x y : Option Int} {p p' : Pos} {l : List D} (ha : EvO X Γ a (.lst l)) (hlo : Pt X Γ lo x) (hhi : Pt X Γ hi y)
    (hs : ∀ o i, subscripted (.Slice lo hi none p) false (.ref o) (.ref i) = operate [.ref i, .ref o] (getItem (.ref o) (.ref i)) := by intro _ _; with_unfolding_all rfl) :
    Ev X Γ (.Subscript a (.Slice lo hi none p) p') (.lst (slc l x y)) := fun A s ad Q E hr g hq =>
  Subscript_ (ha A s ad _ E hr g fun v s1 st1 r1 => wpAny_Slice (pt_wp hlo hr (g.up st1) fun w1 s2 st2 _ q2 => pt_wp hhi hr ((g.up st1).up st2) fun w2 s3 st3 _ q3 => by
    rw [evalPart_none]
    refine wpAny_pure ?_
    have r1 := RepO.up (st2.kp.trans st3.kp) _ _ r1
    simp only [RepO] at r1; obtain ⟨o, vs, rfl, h1, h2, hz⟩ := r1
    have el := Reps.length _ _ h2
    have g3 := ((g.up st1).up st2).up st3
    have h1' : (s3.heap.push { cls := .type "slice", data := .fields #[w1, w2, .none] }).IsList o vs.toArray := h1.push _
    refine tail_any (s := { s3 with heap := s3.heap.push { cls := .type "slice", data := .fields #[w1, w2, .none] } }) h1'.typeIs slot_list_getitem.lookup
      (wpAny_getItem_list_slice h1' (Heap.IsSliceOf.new ..) q2 q3 .none (by simp) ?_ (by rw [List.size_toArray, el, sizeLine_eq]; omega)) (hs _ _)
    refine hq _ _ (((st1.trans st2).trans st3).trans (step_h (kp_push.trans kp_push))) ?_
    have e : slicePick vs.toArray x y none = (slc vs x y).toArray := by
      rw [slicePick_plain, List.size_toArray]; rfl
    simp only [Rep]
    refine ⟨_, slc vs x y, rfl, fun hb => g3.fresh _ (by show s3.heap.objs.size ≤ _; rw [Heap.size_push]; exact Nat.le_succ _) hb, ⟨_, Heap.get?_push_size _ rfl, rfl, 0, by rw [e]⟩, ?_, Nat.le_trans (slc_length_le _ _ _) hz⟩
    unfold slc
    rw [el]
    exact Reps.take _ _ _ (Reps.drop _ _ _ (Reps.up (Kp.s (kp_push.trans kp_push)) _ _ h2)))) 

theorem range_take (a : Nat) (cps : List Nat) : ∀ k : Nat, a + k ≤ cps.length → ((List.range k).map (a + ·)).filterMap (cps[·]?) = (cps.drop a).take k
  | 0, _ => by simp
  | k + 1, h => by
    rw [List.range_succ, List.map_append, List.filterMap_append, range_take a cps k (by omega), List.take_add_one, List.getElem?_drop]
    have : cps[a + k]? = some cps[a + k] := List.getElem?_eq_getElem (by omega)
    simp [this]

theorem slc_range (x : List Nat) (lo hi : Option Int) : (Builtin.Str.strSliceIndices lo hi 1 x.length) = (List.range (hi.elim x.length (clipAt x.length) - lo.elim 0 (clipAt x.length))).map (lo.elim 0 (clipAt x.length) + ·) := by
  rw [← sliceRange_one]
  unfold Builtin.Str.strSliceIndices
  simp only [show (1 : Int) > 0 by decide, if_true]
  congr 1
  · cases lo with
    | none => rfl
    | some i => exact (clipAt_cast _ _).symm
  · cases hi with
    | none => rfl
    | some i => exact (clipAt_cast _ _).symm

theorem clip_le (n : Nat) (o : Option Int) : o.elim n (clipAt n) ≤ n := by
  cases o with
  | none => exact Nat.le_refl _
  | some i => have := clipAt_cast n i; simp only [Option.elim]; omega

theorem txt_slice (x : List Nat) (lo hi : Option Int) : Txt.slice (S x) lo hi = S (slc x lo hi) := by
  have hl : (S x).length = x.length := S_length x
  have e : (Builtin.Str.strSliceIndices lo hi 1 x.length).filterMap (fun i => (S x).cps[i]?) = slc x lo hi := by
    rw [slc_range]
    have h1 := clip_le x.length hi
    unfold slc
    generalize hb : hi.elim x.length (clipAt x.length) = b at h1
    generalize ha : lo.elim 0 (clipAt x.length) = a
    have hS : ∀ i : Nat, (S x).cps[i]? = x[i]? := fun i => by simp [S]
    simp only [hS]
    rcases Nat.le_total a b with h | h
    · exact range_take a x (b - a) (by omega)
    · have : b - a = 0 := by omega
      rw [this]; simp
  unfold Txt.slice
  rw [hl]
  split
  · rename_i hh
    simp only [beq_self_eq_true, Bool.true_and, beq_iff_eq] at hh
    rw [slc_range, List.length_map, List.length_range] at hh
    have h1 := clip_le x.length hi
    unfold slc
    have h2 : lo.elim 0 (clipAt x.length) = 0 := by
      by_cases hx : x.length = 0
      · cases lo with
        | none => rfl
        | some i => have := clip_le x.length (some i); simp only [Option.elim] at this ⊢; omega
      · omega
    rw [h2] at hh ⊢
    rw [List.drop_zero, List.take_of_length_le (by omega)]
  · rw [e]; rfl

theorem Ev.sliceS {a : PySem.Expr} {lo hi : Option PySem.Expr} {x y : Option Int} {p p' : Pos} {l : List Nat} (ha : Ev X Γ a (.str l)) (hlo : Pt X Γ lo x) (hhi : Pt X Γ hi y)
    (hs : ∀ o t i, subscripted (.Slice lo hi none p) false (.str o t) (.ref i) = operate [.ref i, .str o t] (getItem (.str o t) (.ref i)) := by intro _ _ _; with_unfolding_all rfl) :
    Ev X Γ (.Subscript a (.Slice lo hi none p) p') (.str (slc l x y)) := fun A s ad Q E hr g hq =>
  Subscript_ (ha A s ad _ E hr g fun v s1 st1 r1 => wpAny_Slice (pt_wp hlo hr (g.up st1) fun w1 s2 st2 q2 _ => pt_wp hhi hr ((g.up st1).up st2) fun w2 s3 st3 q3 _ => by
    rw [evalPart_none]
    refine wpAny_pure ?_
    simp only [Rep] at r1; obtain ⟨t, rfl, hz⟩ := r1
    obtain ⟨o2, rfl, e2⟩ := q2
    obtain ⟨o3, rfl, e3⟩ := q3
    refine wp_toks (tail_any (s := { s3 with heap := s3.heap.push { cls := .type "slice", data := .fields #[partValue o2, partValue o3, .none] } }) (typeIs_str _ _ _) F.slot_str_getitem.lookup
      (wpAny_getItem_str_slice (l := o2) (u := o3) (st := none) ⟨_, Heap.get?_push_size _ rfl, rfl, rfl⟩ rfl (post_val_or_str ?_)) (hs _ _ _))
    have hS := txt_slice l x y
    subst e2 e3
    have key : (if ((1 : Int) == 1 && (slicePicked (S l) o2 o3 none).length == (S l).length) = true then S l else ⟨((slicePicked (S l) o2 o3 none).filterMap ((S l).cps[·]?)).toArray⟩) = Txt.slice (S l) (o2.map (·.1)) (o3.map (·.1)) := rfl
    refine ⟨?_, fun t' k hk => ?_⟩
    · show (Txt.slice (S l) (o2.map (·.1)) (o3.map (·.1))).length ≤ sizeLine
      rw [hS, S_length]
      exact Nat.le_trans (slc_length_le _ _ _) (by rw [sizeLine_eq]; omega)
    · show Q (.str (Txt.slice (S l) (o2.map (·.1)) (o3.map (·.1))) t') _
      refine hq _ _ (((st1.trans st2).trans st3).trans (step_heap (kp_push) hk)) ?_
      simp only [Rep]
      exact ⟨t', by rw [hS], Nat.le_trans (slc_length_le _ _ _) hz⟩))
end
inductive Out where
  | next (Γ : Gam)
  | brk (Γ : Gam)
  | cont (Γ : Gam)
  | ret (d : D)

/-- only heap and tokens turn -/
noncomputable def SR (s s' : Shared) : Prop := ∃ h' t', s' = { s with heap := h', toks := t' }
theorem SR.refl (s : Shared) : SR s s := ⟨s.heap, s.toks, rfl⟩
theorem SR.trans {a b c : Shared} (x : SR a b) (y : SR b c) : SR a c := by
  obtain ⟨h1, t1, rfl⟩ := x
  obtain ⟨h2, t2, rfl⟩ := y
  exact ⟨h2, t2, rfl⟩
theorem Step.sr {a b : Shared} (x : Step a b) : SR a b := by obtain ⟨h, t, rfl, _, _⟩ := x; exact ⟨h, t, rfl⟩

/-- one's own lists under change -/
noncomputable def ow (ad : Nat → Addr) (Γ : Gam) : Addr → Prop := fun a => ∃ (i : Nat) (l : List D), Γ[i]? = some (some (.o l)) ∧ a = ad i

/-- what a statement leaves as it was -/
noncomputable def Mv (X : Cx) (W : Addr → Prop) (s s' : Shared) : Prop :=
  SR s s' ∧ ∀ b o, s.heap.get? b = some o → b ≠ X.env.locals → (∀ n c, X.env.cells.lookup n = some c → b ≠ c) → ¬ W b → s'.heap.get? b = some o
theorem Mv.refl {X : Cx} {W : Addr → Prop} (s : Shared) : Mv X W s s := ⟨SR.refl s, fun _ _ e _ _ _ => e⟩
theorem Step.mv {X : Cx} {W : Addr → Prop} {s s' : Shared} (st : Step s s') : Mv X W s s' := ⟨st.sr, fun _ _ e _ _ _ => st.kp _ _ e⟩

noncomputable def Fresh (W : Addr → Prop) (s : Shared) (ad : Nat → Addr) (Γ : Gam) : Prop := ∀ a, ow ad Γ a → W a ∨ s.heap.get? a = none
theorem Fresh.refl {ad : Nat → Addr} {Γ : Gam} {s : Shared} : Fresh (ow ad Γ) s ad Γ := fun _ h => .inl h

theorem Mv.trans {X : Cx} {W : Addr → Prop} {ad : Nat → Addr} {Γ : Gam} {a b c : Shared} (x : Mv X W a b) (f : Fresh W a ad Γ) (y : Mv X (ow ad Γ) b c) : Mv X W a c :=
  ⟨x.1.trans y.1, fun p o e h1 h2 h3 => y.2 p o (x.2 p o e h1 h2 h3) h1 h2 fun q => (f p q).elim h3 fun z => by rw [e] at z; cases z⟩
theorem Fresh.trans {X : Cx} {W : Addr → Prop} {ad ad' : Nat → Addr} {Γ Γ' : Gam} {a b : Shared} (x : Mv X W a b) (g : Gd X ad Γ b) (f : Fresh W a ad Γ) (f' : Fresh (ow ad Γ) b ad' Γ') : Fresh W a ad' Γ' := fun p hp => by
  rcases f' p hp with h | h
  · exact f p h
  · cases e : a.heap.get? p with
    | none => exact .inr rfl
    | some o =>
      refine .inl (Classical.byContradiction fun hW => ?_)
      by_cases h1 : p = X.env.locals
      · obtain ⟨m, o', _, _, e', _⟩ := g.ns
        rw [← h1, h] at e'; cases e'
      · by_cases h2 : ∀ n c, X.env.cells.lookup n = some c → p ≠ c
        · have := x.2 p o e h1 h2 hW
          rw [h] at this; cases this
        · apply h2
          intro n c hc hpc
          obtain ⟨v, o', e', _⟩ := g.cells n c hc
          rw [← hpc, h] at e'; cases e'

noncomputable def Sat (X : Cx) (W : Addr → Prop) (s : Shared) (o : Out) (f : Flow) (s' : Shared) : Prop := match o with
  | .next Γ => f = .next ∧ ∃ ad, Gd X ad Γ s' ∧ Fresh W s ad Γ
  | .brk Γ => f = .brk ∧ ∃ ad, Gd X ad Γ s' ∧ Fresh W s ad Γ
  | .cont Γ => f = .cont ∧ ∃ ad, Gd X ad Γ s' ∧ Fresh W s ad Γ
  | .ret d => ∃ v, f = .ret v ∧ Rep X.B s'.heap d v ∧ Kp X.h₀ s'.heap

theorem Sat.trans {X : Cx} {W : Addr → Prop} {ad : Nat → Addr} {Γ : Gam} {a b c : Shared} {o : Out} {f : Flow} (x : Mv X W a b) (g : Gd X ad Γ b) (fr : Fresh W a ad Γ) (h : Sat X (ow ad Γ) b o f c) : Sat X W a o f c := by
  cases o with
  | ret d => exact h
  | _ => obtain ⟨h1, ad', h2, h3⟩ := h; exact ⟨h1, ad', h2, Fresh.trans x g fr h3⟩

noncomputable def XS (X : Cx) (Γ : Gam) (st : Stmt) (Φ : Out → Prop) : Prop :=
  FnX X → ∀ A s ad Q E, Room X.k A → Gd X ad Γ s → (∀ o f s', Φ o → Mv X (ow ad Γ) s s' → Sat X (ow ad Γ) s o f s' → Q f s') → wpAny (model X.G.prog X.G.w) A (exec st X.env) Q E s
noncomputable def XJ (X : Cx) (Γ : Gam) (ss : List Stmt) (Φ : Out → Prop) : Prop :=
  FnX X → ∀ A s ad Q E, Room X.k A → Gd X ad Γ s → (∀ o f s', Φ o → Mv X (ow ad Γ) s s' → Sat X (ow ad Γ) s o f s' → Q f s') → wpAny (model X.G.prog X.G.w) A (execs ss X.env) Q E s

section
variable {X : Cx} {Γ : Gam} {Φ : Out → Prop}

/-- behind a step -/
theorem after {A : Around} {s s1 : Shared} {ad : Nat → Addr} {Q : Flow → Shared → Prop} (st : Step s s1) (g : Gd X ad Γ s) (hq : ∀ o f s', Φ o → Mv X (ow ad Γ) s s' → Sat X (ow ad Γ) s o f s' → Q f s') :
    ∀ o f s', Φ o → Mv X (ow ad Γ) s1 s' → Sat X (ow ad Γ) s1 o f s' → Q f s' := fun o f s' ho mv sat => hq o f s' ho (st.mv.trans Fresh.refl mv) (Sat.trans (W := ow ad Γ) st.mv (g.up st) Fresh.refl sat)

theorem XJ.nil (h : Φ (.next Γ)) : XJ X Γ [] Φ := fun fx A s ad Q E hr g hq => wpAny_execs_nil (hq _ _ s h (Mv.refl s) ⟨rfl, ad, g, Fresh.refl⟩)
theorem XJ.cons {st : Stmt} {ss : List Stmt} (h : XS X Γ st (fun o => match o with | .next Γ' => XJ X Γ' ss Φ | o => Φ o)) : XJ X Γ (st :: ss) Φ := fun fx A s ad Q E hr g hq =>
  wpAny_execs_cons (h fx A s ad _ E hr g fun o f s' ho sr sat => by
    cases o with
    | next Γ' =>
      obtain ⟨rfl, ad', g', fr⟩ := sat
      exact ho fx A s' ad' Q E hr g' fun o f s'' h1 sr' h2 => hq o f s'' h1 (sr.trans fr sr') (Sat.trans sr g' fr h2)
    | brk Γ' => have := hq _ _ _ ho sr sat; obtain ⟨rfl, _⟩ := sat; exact this
    | cont Γ' => have := hq _ _ _ ho sr sat; obtain ⟨rfl, _⟩ := sat; exact this
    | ret d => have := hq _ _ _ ho sr sat; obtain ⟨v, rfl, _⟩ := sat; exact this)
theorem XS.mono {st : Stmt} {Φ' : Out → Prop} (h : XS X Γ st Φ) (hm : ∀ o, Φ o → Φ' o) : XS X Γ st Φ' := fun fx A s ad Q E hr g hq => h fx A s ad Q E hr g fun o f s' ho => hq o f s' (hm o ho)
theorem XJ.mono {ss : List Stmt} {Φ' : Out → Prop} (h : XJ X Γ ss Φ) (hm : ∀ o, Φ o → Φ' o) : XJ X Γ ss Φ' := fun fx A s ad Q E hr g hq => h fx A s ad Q E hr g fun o f s' ho => hq o f s' (hm o ho)

theorem XS.ret {e : PySem.Expr} {p : Pos} {d : D} (h : Ev X Γ e d) (hφ : Φ (.ret d)) : XS X Γ (.Return (some e) p) Φ := fun fx A s ad Q E hr g hq =>
  wpAny_Return_some (h A s ad _ E hr g fun v s' st r => hq _ _ s' hφ st.mv ⟨v, rfl, Rep.bar (fun a _ _ _ hb _ _ => .inl hb) _ _ r, g.keep.trans st.kp⟩)
theorem XS.brk {p : Pos} (hφ : Φ (.brk Γ)) : XS X Γ (.Break p) Φ := fun fx A s ad Q E hr g hq => wpAny_bind (wpAny_standAt (wpAny_pure (hq _ _ s hφ (Mv.refl s) ⟨rfl, ad, g, Fresh.refl⟩)))
theorem XS.cont {p : Pos} (hφ : Φ (.cont Γ)) : XS X Γ (.Continue p) Φ := fun fx A s ad Q E hr g hq => wpAny_bind (wpAny_standAt (wpAny_pure (hq _ _ s hφ (Mv.refl s) ⟨rfl, ad, g, Fresh.refl⟩)))
theorem XS.pas {p : Pos} (hφ : Φ (.next Γ)) : XS X Γ (.Pass p) Φ := fun fx A s ad Q E hr g hq => wpAny_Pass (hq _ _ s hφ (Mv.refl s) ⟨rfl, ad, g, Fresh.refl⟩)
theorem XS.ite {t : PySem.Expr} {b o : List Stmt} {p : Pos} {c : Bool} (ht : Tr X Γ t c) (hb : c = true → XJ X Γ b Φ) (ho : c = false → XJ X Γ o Φ) : XS X Γ (.If t b o p) Φ := fun fx A s ad Q E hr g hq =>
  wpAny_If (ht A s ad _ E hr g fun s1 st => by
    cases c with
    | true => exact hb rfl fx A s1 ad Q E hr (g.up st) (after (A := A) st g hq)
    | false => exact ho rfl fx A s1 ad Q E hr (g.up st) (after (A := A) st g hq))

theorem XS.try_ {b : List Stmt} {h₀ : ExceptHandler} {hs : List ExceptHandler} {p : Pos} (h : XJ X Γ b Φ) : XS X Γ (.Try b (h₀ :: hs) [] [] p) Φ := fun fx A s ad Q E hr g hq =>
  wpAny_bind (m := standAt p) (wpAny_standAt (wpAny_tryStmt_except (h fx A s ad _ _ hr g fun o f s' ho sr sat => by
    have := hq o f s' ho sr sat
    cases f with
    | next => exact wpAny_execs_nil this
    | _ => exact this)))

/-- the objects of frames are no lists -/
theorem kps_of {B : Addr → Prop} {h h' : Heap} {a : Addr} (hs : Heap.SameBut a h h') (ha : ∀ o xs n, h.get? a = some o → o.data ≠ .seq xs n) : KpS B h h' := fun b o xs n _ e d => (hs.2 b (fun q => ha o xs n (q ▸ e) d)).trans e

theorem set_get {i j : Nat} {e : Option Ent} {f : Option Ent} (h : (Γ.set i e)[j]? = some f) : (j = i ∧ f = e) ∨ (j ≠ i ∧ Γ[j]? = some f) := by
  rw [List.getElem?_set] at h
  by_cases hji : i = j
  · rw [if_pos hji] at h
    split at h
    · exact .inl ⟨hji.symm, (Option.some.inj h).symm⟩
    · cases h
  · rw [if_neg hji] at h; exact .inr ⟨fun e => hji e.symm, h⟩

theorem ban_none {ad : Nat → Addr} {i : Nat} {a : Addr} (h : X.ban ad (Γ.set i none) a) : X.ban ad Γ a := by
  rcases h with h | ⟨j, l, e, rfl⟩
  · exact .inl h
  · rcases set_get e with ⟨_, e2⟩ | ⟨_, e2⟩
    · cases e2
    · exact .inr ⟨j, l, e2, rfl⟩

/-- a name's store; what it held is forgotten -/
theorem store_noneL {M : Model} {A : Around} {s : Shared} {ad : Nat → Addr} {Q : Unit → Shared → Prop} {E : Value → Shared → Prop} {i : Nat} {x : PySem.Str} {k : NameKind} {v : Value} (fx : FnX X) (g : Gd X ad Γ s)
    (hi : X.env.scope.names[i]? = some (x, k)) (hk : k = .local ∨ k = .cell)
    (hq : ∀ s', Mv X (fun _ => False) s s' → KpS (fun _ => False) s.heap s'.heap → (k = .local → Heap.SameBut X.env.locals s.heap s'.heap ∧ s.toks ≤ s'.toks) → Gd X ad (Γ.set i none) s' → Reads X.env s'.heap x v → Q () s') : wpAny M A (storeName X.env x v) Q E s := by
  have hkind := g.names i x k hi
  have rest : ∀ (h' : Heap) (t' : Nat) (a : Addr), s.toks ≤ t' → Heap.SameBut a s.heap h' → X.h₀.get? a = none → (∃ o, h'.get? a = some o) → (∀ o xs n, s.heap.get? a = some o → o.data ≠ .seq xs n) → (∃ m, h'.Ns X.env.locals m) →
      (∀ n c, X.env.cells.lookup n = some c → ∃ v, h'.IsCell c v) → (∀ y w, y ≠ x → Reads X.env s.heap y w → Reads X.env h' y w) → Gd X ad (Γ.set i none) { s with heap := h', toks := t' } := by
    intro h' t' a ht hs hn hex ha hns hcells hold
    have kp := kps_of (B := X.ban ad Γ) hs ha
    have bar : ∀ (b : Addr) (o : Obj) xs n, X.ban ad (Γ.set i none) b → h'.get? b = some o → o.data = .seq xs n → X.ban ad Γ b := fun b _ _ _ hb _ _ => ban_none hb
    refine ⟨g.kind, g.glob, g.blt, g.uniq, g.names, g.apart, g.fx, hns, hcells, fun b o e => ?_, fun b hb => ?_, g.gok, Nat.lt_of_lt_of_le g.pos ht, fun j d' e => ?_, fun j l e => ?_⟩
    · exact (hs.2 b (fun q => by rw [q, hn] at e; cases e)).trans (g.keep _ _ e)
    · by_cases hba : b = a
      · subst hba; exact hex
      · obtain ⟨o, e⟩ := g.low b hb
        exact ⟨o, (hs.2 b hba).trans e⟩
    · rcases set_get e with ⟨_, e2⟩ | ⟨hji, e2⟩
      · cases e2
      · obtain ⟨y, k', w, h1, h2, h3⟩ := g.vars j d' e2
        exact ⟨y, k', w, h1, hold y w (fun e => hji (g.uniq i j x k k' hi (e ▸ h1))) h2, Rep.bar bar _ _ (Rep.up kp _ _ h3)⟩
    · rcases set_get e with ⟨_, e2⟩ | ⟨hji, e2⟩
      · cases e2
      · obtain ⟨y, k', vs, h1, h2, h3, h4, h5, h6, h6', h7⟩ := g.owns j l e2
        refine ⟨y, k', vs, h1, hold y _ (fun e => hji (g.uniq i j x k k' hi (e ▸ h1))) h2, h3.at (fun o e => (hs.2 _ (fun q => ?_)).trans e), Reps.bar bar _ _ (Reps.up kp _ _ h4), h5, h6, h6', fun j' l' e' => ?_⟩
        · rw [q] at e
          obtain ⟨n, e2⟩ := h3
          rw [q, e] at e2
          exact ha _ _ n e (by rw [Option.some.inj e2])
        · rcases set_get e' with ⟨_, e3⟩ | ⟨_, e3⟩
          · cases e3
          · exact h7 j' l' e3
  rcases hk with rfl | rfl
  · obtain ⟨m, hm⟩ := g.ns
    have nseq : ∀ o xs n, s.heap.get? X.env.locals = some o → o.data ≠ .seq xs n := fun o xs n e q => by
      obtain ⟨o', es, ep, e1, e2, _⟩ := hm
      rw [e] at e1; cases e1; rw [q] at e2; cases e2
    have ncell : ∀ c v, s.heap.IsCell c v → c ≠ X.env.locals := fun c v hc q => by
      obtain ⟨o', es, ep, e1, e2, _⟩ := hm
      obtain ⟨o, k1, k2⟩ := hc
      rw [q, e1] at k1; cases k1; rw [e2] at k2; cases k2
    refine wpAny_storeName_local hkind hm (fun h' hn' hs' => ?_) (by rw [g.kind]; rfl)
    refine hq _ ⟨⟨h', _, rfl⟩, fun b o e hb _ _ => (hs'.2 b hb).trans e⟩ (kps_of hs' nseq) (fun _ => ⟨hs', Nat.le_succ _⟩) (rest h' _ X.env.locals (Nat.le_succ _) hs' fx.loc (let ⟨o, _, _, e, _⟩ := hn'; ⟨o, e⟩) nseq ⟨_, hn'⟩ (fun n c e => ?_) (fun y w hy hr => ?_)) (.inl ⟨hkind, _, hn', by simp⟩)
    · obtain ⟨v, hv⟩ := g.cells n c e
      exact ⟨v, hv.sameBut hs' (ncell c v hv)⟩
    · rcases hr with ⟨h1, m2, h2, h3⟩ | ⟨h1, c, h2, h3⟩
      · refine .inl ⟨h1, _, hn', ?_⟩
        rw [if_neg hy]
        obtain ⟨o, es, ep, a1, a2, _, a4⟩ := hm
        obtain ⟨o', es', ep', b1, b2, _, b4⟩ := h2
        rw [a1] at b1; cases b1; rw [a2] at b2; cases b2
        rw [← a4, b4]; exact h3
      · exact .inr ⟨h1, c, h2, h3.sameBut hs' (ncell c _ h3)⟩
  · obtain ⟨c, hc⟩ := Option.isSome_iff_exists.mp (fx.cl (x, .cell) (List.mem_of_getElem? hi) rfl)
    obtain ⟨v₀, hv⟩ := g.cells x c hc
    have nseq : ∀ o xs n, s.heap.get? c = some o → o.data ≠ .seq xs n := fun o xs n e q => by
      obtain ⟨o', e1, e2⟩ := hv
      rw [e] at e1; cases e1; rw [q] at e2; cases e2
    have nloc : ∀ m, s.heap.Ns X.env.locals m → X.env.locals ≠ c := fun m hm q => by
      obtain ⟨o', es, ep, e1, e2, _⟩ := hm
      obtain ⟨o, k1, k2⟩ := hv
      rw [q, k1] at e1; cases e1; rw [k2] at e2; cases e2
    refine wpAny_storeName_cell g.kind hkind hc hv (fun h' hc' hs' => ?_)
    obtain ⟨m, hm⟩ := g.ns
    refine hq _ ⟨⟨h', _, rfl⟩, fun b o e _ hb _ => (hs'.2 b (hb x c hc)).trans e⟩ (kps_of hs' nseq) (fun h => by cases h) (rest h' s.toks c (Nat.le_refl _) hs' (fx.cel x c hc) (let ⟨o, e, _⟩ := hc'; ⟨o, e⟩) nseq ⟨m, hm.sameBut hs' (nloc m hm)⟩ (fun n c' e => ?_) (fun y w hy hr => ?_)) (.inr ⟨.inl hkind, c, hc, hc'⟩)
    · by_cases hcc : c' = c
      · subst hcc; exact ⟨_, hc'⟩
      · obtain ⟨v, hv⟩ := g.cells n c' e
        exact ⟨v, hv.sameBut hs' hcc⟩
    · rcases hr with ⟨h1, m2, h2, h3⟩ | ⟨h1, c', h2, h3⟩
      · exact .inl ⟨h1, m2, h2.sameBut hs' (nloc m2 h2), h3⟩
      · exact .inr ⟨h1, c', h2, h3.sameBut hs' fun q => hy (name_of_addr g.apart (mem_of_lookup (q ▸ h2)) (mem_of_lookup hc))⟩

/-- a name's store; what it held is forgotten -/
theorem store_none {M : Model} {A : Around} {s : Shared} {ad : Nat → Addr} {Q : Unit → Shared → Prop} {E : Value → Shared → Prop} {i : Nat} {x : PySem.Str} {k : NameKind} {v : Value} (fx : FnX X) (g : Gd X ad Γ s)
    (hi : X.env.scope.names[i]? = some (x, k)) (hk : k = .local ∨ k = .cell)
    (hq : ∀ s', Mv X (fun _ => False) s s' → KpS (fun _ => False) s.heap s'.heap → Gd X ad (Γ.set i none) s' → Reads X.env s'.heap x v → Q () s') : wpAny M A (storeName X.env x v) Q E s := store_noneL fx g hi hk fun s' a b _ c d => hq s' a b c d

/-- a fact more about a name that is told nothing of -/
theorem Gd.put {s : Shared} {ad : Nat → Addr} {i : Nat} {x : PySem.Str} {k : NameKind} {v : Value} {d : D} (g : Gd X ad (Γ.set i none) s) (hi : X.env.scope.names[i]? = some (x, k)) (hr : Reads X.env s.heap x v)
    (r : Rep (X.ban ad (Γ.set i none)) s.heap d v) : Gd X ad (Γ.set i (some (.v d))) s := by
  have eb : ∀ a, X.ban ad (Γ.set i (some (.v d))) a → X.ban ad (Γ.set i none) a := fun a h => by
    rcases h with h | ⟨j, l, e, rfl⟩
    · exact .inl h
    · rcases set_get e with ⟨_, e2⟩ | ⟨hji, e2⟩
      · cases e2
      · exact .inr ⟨j, l, by rw [List.getElem?_set_ne (fun e => hji e.symm)]; exact e2, rfl⟩
  have bar : ∀ (b : Addr) (o : Obj) xs n, X.ban ad (Γ.set i (some (.v d))) b → s.heap.get? b = some o → o.data = .seq xs n → X.ban ad (Γ.set i none) b := fun b _ _ _ hb _ _ => eb b hb
  refine ⟨g.kind, g.glob, g.blt, g.uniq, g.names, g.apart, g.fx, g.ns, g.cells, g.keep, g.low, g.gok, g.pos, fun j d' e => ?_, fun j l e => ?_⟩
  · rcases set_get e with ⟨hj, e2⟩ | ⟨hji, e2⟩
    · cases e2; subst hj
      exact ⟨x, k, v, hi, hr, Rep.bar bar _ _ r⟩
    · obtain ⟨y, k', w, h1, h2, h3⟩ := g.vars j d' (by rw [List.getElem?_set_ne (fun e => hji e.symm)]; exact e2)
      exact ⟨y, k', w, h1, h2, Rep.bar bar _ _ h3⟩
  · rcases set_get e with ⟨hj, e2⟩ | ⟨hji, e2⟩
    · cases e2
    · obtain ⟨y, k', vs, h1, h2, h3, h4, h5, h6, h6', h7⟩ := g.owns j l (by rw [List.getElem?_set_ne (fun e => hji e.symm)]; exact e2)
      refine ⟨y, k', vs, h1, h2, h3, Reps.bar bar _ _ h4, h5, h6, h6', fun j' l' e' => ?_⟩
      rcases set_get e' with ⟨_, e3⟩ | ⟨hji', e3⟩
      · cases e3
      · exact h7 j' l' (by rw [List.getElem?_set_ne (fun e => hji' e.symm)]; exact e3)

theorem Mv.weak {W W' : Addr → Prop} {s s' : Shared} (m : Mv X W s s') (h : ∀ a, W a → W' a) : Mv X W' s s' := ⟨m.1, fun b o e h1 h2 h3 => m.2 b o e h1 h2 fun q => h3 (h b q)⟩
theorem Mv.after {W : Addr → Prop} {a b c : Shared} (st : Step a b) (m : Mv X W b c) : Mv X W a c := ⟨st.sr.trans m.1, fun p o e h1 h2 h3 => m.2 p o (st.kp _ _ e) h1 h2 h3⟩
theorem ow_set {ad : Nat → Addr} {i : Nat} {d : D} {a : Addr} (h : ow ad (Γ.set i (some (.v d))) a) : ow ad Γ a := by
  obtain ⟨j, l, e, rfl⟩ := h
  rcases set_get e with ⟨_, e2⟩ | ⟨_, e2⟩
  · cases e2
  · exact ⟨j, l, e2, rfl⟩
theorem fresh_set {ad : Nat → Addr} {i : Nat} {d : D} {s : Shared} : Fresh (ow ad Γ) s ad (Γ.set i (some (.v d))) := fun a h => .inl (ow_set h)

theorem store_ofL {M : Model} {A : Around} {s : Shared} {ad : Nat → Addr} {Q : Unit → Shared → Prop} {E : Value → Shared → Prop} {i : Nat} {x : PySem.Str} {k : NameKind} {v : Value} {d : D} (fx : FnX X) (g : Gd X ad Γ s)
    (hi : X.env.scope.names[i]? = some (x, k)) (hk : k = .local ∨ k = .cell) (r : Rep (X.ban ad Γ) s.heap d v)
    (hq : ∀ s', Mv X (fun _ => False) s s' → KpS (fun _ => False) s.heap s'.heap → (k = .local → Heap.SameBut X.env.locals s.heap s'.heap ∧ s.toks ≤ s'.toks) → Gd X ad (Γ.set i (some (.v d))) s' → Q () s') : wpAny M A (storeName X.env x v) Q E s :=
  store_noneL fx g hi hk fun s' sr kp lo g' hr => hq s' sr kp lo (g'.put hi hr (Rep.bar (fun a _ _ _ hb _ _ => ban_none hb) _ _ (Rep.up (fun b o xs n _ e q => kp b o xs n (fun h => h) e q) _ _ r)))

theorem store_of {M : Model} {A : Around} {s : Shared} {ad : Nat → Addr} {Q : Unit → Shared → Prop} {E : Value → Shared → Prop} {i : Nat} {x : PySem.Str} {k : NameKind} {v : Value} {d : D} (fx : FnX X) (g : Gd X ad Γ s)
    (hi : X.env.scope.names[i]? = some (x, k)) (hk : k = .local ∨ k = .cell) (r : Rep (X.ban ad Γ) s.heap d v)
    (hq : ∀ s', Mv X (fun _ => False) s s' → KpS (fun _ => False) s.heap s'.heap → Gd X ad (Γ.set i (some (.v d))) s' → Q () s') : wpAny M A (storeName X.env x v) Q E s :=
  store_none fx g hi hk fun s' sr kp g' hr => hq s' sr kp (g'.put hi hr (Rep.bar (fun a _ _ _ hb _ _ => ban_none hb) _ _ (Rep.up (fun b o xs n _ e q => kp b o xs n (fun h => h) e q) _ _ r)))

noncomputable def noComp : PySem.Expr → Bool
  | .ListComp .. => false
  | .SetComp .. => false
  | .DictComp .. => false
  | _ => true
theorem no_swap {e : PySem.Expr} {t : Option PySem.Expr} {l : Nat} {env : Env} (h : noComp e = true) : swapsWith e t l env = pure false := by
  cases e <;> first | rfl | cases h
theorem XS.asgE {x : PySem.Str} {p p' : Pos} {e : PySem.Expr} {i : Nat} {k : NameKind} {d : D} (hv : Ev X Γ e d) (hi : X.env.scope.names[i]? = some (x, k)) (hk : k = .local ∨ k = .cell) (hφ : Φ (.next (Γ.set i (some (.v d)))))
    (hs : swapsWith e (some (.Name x p)) p'.line X.env = pure false := by rfl) : XS X Γ (.Assign [.Name x p] e p') Φ := fun fx A s ad Q E hr g hq =>
  wpAny_Assign_Name (hv A s ad _ E hr g fun v s1 st r => store_of fx (g.up st) hi hk r fun s2 sr kp g2 => hq _ _ s2 hφ (Mv.after st (sr.weak fun _ h => h.elim)) ⟨rfl, ad, g2, fresh_set⟩) hs
theorem XS.asg {x : PySem.Str} {p p' : Pos} {e : PySem.Expr} {i : Nat} {k : NameKind} {d : D} (hv : Ev X Γ e d) (hi : X.env.scope.names[i]? = some (x, k)) (hk : k = .local ∨ k = .cell) (hφ : Φ (.next (Γ.set i (some (.v d)))))
    (hs : noComp e = true := by rfl) : XS X Γ (.Assign [.Name x p] e p') Φ := XS.asgE hv hi hk hφ (no_swap hs)

/-- x += e, of texts -/
theorem XS.augS {x : PySem.Str} {p p' : Pos} {e : PySem.Expr} {i : Nat} {k : NameKind} {a b : List Nat} (hx : Γ[i]? = some (some (.v (.str a)))) (hv : Ev X Γ e (.str b)) (hi : X.env.scope.names[i]? = some (x, k)) (hk : k = .local ∨ k = .cell)
    (hn : plainNm x) (hz : a.length + b.length ≤ 1048576) (hφ : Φ (.next (Γ.set i (some (.v (.str (a ++ b))))))) : XS X Γ (.AugAssign (.Name x p) .Add e p') Φ := fun fx A s ad Q E hr g hq => by
  obtain ⟨x', k', v, e1, e2, e3⟩ := g.vars i _ hx
  rw [hi] at e1; cases e1
  refine wpAny_AugAssign_Name (loadName_of g.kind e2 (hv A s ad _ E hr g fun u s1 st r => ?_) hn.2)
  simp only [Rep] at e3 r
  obtain ⟨t, rfl, h1⟩ := e3; obtain ⟨t', rfl, h2⟩ := r
  refine wp_toks (SB.iadd (fun t' k' hk' => ?_) (by rw [S_length, S_length, sizeLine_eq]; omega))
  refine store_of (d := .str (a ++ b)) fx ((g.up st).up (step_toks hk')) hi hk (by simp only [Rep]; exact ⟨_, by rw [S_append], by rw [List.length_append]; exact hz⟩) fun s2 sr kp g2 => hq _ _ s2 hφ (Mv.after (st.trans (step_toks hk')) (sr.weak fun _ h => h.elim)) ⟨rfl, ad, g2, fresh_set⟩
end
section
variable {X : Cx} {Γ : Gam} {Φ : Out → Prop}

/-- names as targets, by their numbers -/
noncomputable def NamesAt (X : Cx) : List PySem.Expr → List Nat → Prop
  | [], [] => True
  | .Name x _ :: es, i :: is => (∃ k, X.env.scope.names[i]? = some (x, k) ∧ (k = .local ∨ k = .cell)) ∧ NamesAt X es is
  | _, _ => False

noncomputable def setAll (Γ : Gam) : List Nat → List D → Gam
  | i :: is, d :: ds => setAll (Γ.set i (some (.v d))) is ds
  | _, _ => Γ

theorem ow_setAll {ad : Nat → Addr} {a : Addr} : ∀ (is : List Nat) (ds : List D) (Γ : Gam), ow ad (setAll Γ is ds) a → ow ad Γ a
  | [], _, _, h => h
  | _ :: _, [], _, h => h
  | i :: is, d :: ds, Γ, h => ow_set (ow_setAll is ds _ h)

theorem Mv.trans' {W : Addr → Prop} {a b c : Shared} (x : Mv X W a b) (y : Mv X W b c) : Mv X W a c :=
  ⟨x.1.trans y.1, fun p o e h1 h2 h3 => y.2 p o (x.2 p o e h1 h2 h3) h1 h2 h3⟩

theorem assign_names {M : Model} {A : Around} {E : Value → Shared → Prop} (fx : FnX X) : ∀ (es : List PySem.Expr) (is : List Nat) (ds : List D) (vs : List Value) (Γ : Gam) (s : Shared) (ad : Nat → Addr) (Q : Unit → Shared → Prop),
    NamesAt X es is → ds.length = is.length → Reps (X.ban ad Γ) s.heap ds vs → Gd X ad Γ s →
    (∀ s', Mv X (fun _ => False) s s' → Gd X ad (setAll Γ is ds) s' → Q () s') → wpAny M A (assignInOrder ((assignEach es X.env).map (·.2)) vs) Q E s
  | [], [], [], vs, Γ, s, ad, Q, _, _, r, g, hq => by
    simp only [Reps] at r; subst r
    exact wpAny_pure (hq s (Mv.refl s) g)
  | [], [], _ :: _, _, _, _, _, _, _, hl, _, _, _ => by simp at hl
  | [], _ :: _, _, _, _, _, _, _, hn, _, _, _, _ => by simp [NamesAt] at hn
  | e :: es, [], _, _, _, _, _, _, hn, _, _, _, _ => by cases e <;> simp [NamesAt] at hn
  | e :: es, i :: is, [], _, _, _, _, _, _, hl, _, _, _ => by simp at hl
  | e :: es, i :: is, d :: ds, vs, Γ, s, ad, Q, hn, hl, r, g, hq => by
    cases e with
    | Name x p =>
      simp only [NamesAt] at hn
      obtain ⟨⟨k, hi, hk⟩, hn⟩ := hn
      simp only [Reps] at r
      obtain ⟨v, q, rfl, r1, r2⟩ := r
      show wpAny M A (assignInOrder (assign (.Name x p) X.env :: (assignEach es X.env).map (·.2)) (v :: q)) Q E s
      refine wpAny_bind (wpAny_holding (wpAny_assign_Name ?_))
      refine store_of fx g hi hk r1 fun s' mv kp g' => ?_
      refine assign_names fx es is ds q _ s' ad Q hn (by simpa using hl) (Reps.bar (fun a _ _ _ hb _ _ => ?_) _ _ (Reps.up (fun b o xs n _ e q => kp b o xs n (fun h => h) e q) _ _ r2)) g' fun s'' mv' g'' => hq s'' (mv.trans' mv') g''
      rcases hb with h | h
      · exact .inl h
      · exact .inr (ow_set h)
    | _ => simp [NamesAt] at hn

theorem assignEach_names : ∀ (es : List PySem.Expr) (is : List Nat), NamesAt X es is → (assignEach es X.env).length = is.length ∧ (assignEach es X.env).findIdx? (·.1) = none
  | [], [], _ => ⟨rfl, rfl⟩
  | [], _ :: _, h => by simp [NamesAt] at h
  | e :: es, [], h => by cases e <;> simp [NamesAt] at h
  | e :: es, i :: is, h => by
    cases e with
    | Name x p =>
      simp only [NamesAt] at h
      obtain ⟨a, b⟩ := assignEach_names es is h.2
      show ((false, _) :: assignEach es X.env).length = _ ∧ ((false, _) :: assignEach es X.env).findIdx? (·.1) = none
      refine ⟨by simp [a], ?_⟩
      rw [List.findIdx?_cons]
      simp [b]
    | _ => simp [NamesAt] at h

theorem unpack_tup {A : Around} {E : Value → Shared → Prop} {es : List PySem.Expr} {is : List Nat} {k : Nat} {p : Pos} {ds : List D} {v : Value} {s : Shared} {ad : Nat → Addr} {Q : Unit → Shared → Prop} (fx : FnX X) (hr : Room X.k A) (hn : NamesAt X es is) (hl : ds.length = is.length)
    (g : Gd X ad Γ s) (r : Rep (X.ban ad Γ) s.heap (.tup ds) v) (hq : ∀ s', Mv X (fun _ => False) s s' → Gd X ad (setAll Γ is ds) s' → Q () s') : wpAny (model X.G.prog X.G.w) A (assign (.Tuple es k p) X.env v) Q E s := by
  simp only [Rep] at r
  obtain ⟨a, vs, rfl, _, h1, h2, _⟩ := r
  obtain ⟨n1, n2⟩ := assignEach_names es is hn
  have el := Reps.length _ _ h2
  refine wpAny_assign_Tuple hr.1 h1 (by rw [n1, List.size_toArray, el, hl]) n2 fun h' ex => ?_
  have kp : Kp s.heap h' := fun b o e => ex b o (Nat.ne_of_lt (Heap.lt_size e)) e
  exact assign_names fx es is ds vs Γ _ ad Q hn hl (Reps.up kp.s _ _ h2) (g.up (step_h kp)) fun s' mv g' => hq s' (Mv.after (step_h kp) mv) g'

/-- a, b, .. = e -/
theorem XS.unpack {es : List PySem.Expr} {is : List Nat} {k : Nat} {p p' : Pos} {e : PySem.Expr} {ds : List D} (hv : Ev X Γ e (.tup ds)) (hn : NamesAt X es is) (hl : ds.length = is.length) (hφ : Φ (.next (setAll Γ is ds)))
    (hs : swapsWithSole [.Tuple es k p] e p'.line X.env = pure false := by rfl) (hw : swappedStores [.Tuple es k p] e X.env = pure none := by rfl) : XS X Γ (.Assign [.Tuple es k p] e p') Φ := fun fx A s ad Q E hr g hq =>
  wpAny_Assign_stores (hv A s ad _ E hr g fun v s1 st r => unpack_tup (k := k) fx hr hn hl (g.up st) r fun s2 mv g2 => hq _ _ s2 hφ (Mv.after st (mv.weak fun _ h => h.elim)) ⟨rfl, ad, g2, fun a h => .inl (ow_setAll _ _ _ h)⟩) hs hw

theorem wpAny_unpackItems_tup {A : Around} {E : Value → Shared → Prop} {s : Shared} {ad : Nat → Addr} {v : Value} {ds : List D} {Q : List Value → Shared → Prop} (hr : Room X.k A) (r : Rep (X.ban ad Γ) s.heap (.tup ds) v)
    (hq : ∀ vs h', Kp s.heap h' → Reps (X.ban ad Γ) h' ds vs → Q vs { s with heap := h' }) : wpAny (model X.G.prog X.G.w) A (unpackItems v ds.length none) Q E s := by
  simp only [Rep] at r
  obtain ⟨a, vs, rfl, _, h1, h2, _⟩ := r
  have el := Reps.length _ _ h2
  have e : ds.length = vs.toArray.size := by rw [List.size_toArray, el]
  rw [e]
  exact wpAny_unpackItems_tuple hr.1 h1 fun h' ex => hq vs h' (fun b o e => ex b o (Nat.ne_of_lt (Heap.lt_size e)) e) (Reps.up (Kp.s fun b o e => ex b o (Nat.ne_of_lt (Heap.lt_size e)) e) _ _ h2)

theorem Reps.rev {B : Addr → Prop} {h : Heap} : ∀ (l : List D) (vs : List Value), Reps B h l vs → Reps B h l.reverse vs.reverse
  | [], vs, r => by simp only [Reps] at r; subst r; simp [Reps]
  | d :: l, vs, r => by
    simp only [Reps] at r
    obtain ⟨v, q, rfl, h1, h2⟩ := r
    rw [List.reverse_cons, List.reverse_cons]
    exact Reps.append _ _ _ _ (Reps.rev l q h2) (by simp only [Reps]; exact ⟨v, [], rfl, h1, rfl⟩)

noncomputable def NmAt (X : Cx) : List PySem.Str → List Nat → Prop
  | [], [] => True
  | x :: xs, i :: is => (∃ k, X.env.scope.names[i]? = some (x, k) ∧ (k = .local ∨ k = .cell)) ∧ NmAt X xs is
  | _, _ => False

theorem bind_names {M : Model} {A : Around} {E : Value → Shared → Prop} (fx : FnX X) : ∀ (xs : List PySem.Str) (is : List Nat) (ds : List D) (vs : List Value) (Γ : Gam) (s : Shared) (ad : Nat → Addr) (Q : Unit → Shared → Prop),
    NmAt X xs is → ds.length = is.length → Reps (X.ban ad Γ) s.heap ds vs → Gd X ad Γ s →
    (∀ s', Mv X (fun _ => False) s s' → Gd X ad (setAll Γ is ds) s' → Q () s') → wpAny M A (assignInOrder (xs.map fun n => bindName X.env n) vs) Q E s
  | [], [], [], vs, Γ, s, ad, Q, _, _, r, g, hq => by
    simp only [Reps] at r; subst r
    exact wpAny_pure (hq s (Mv.refl s) g)
  | [], [], _ :: _, _, _, _, _, _, _, hl, _, _, _ => by simp at hl
  | [], _ :: _, _, _, _, _, _, _, hn, _, _, _, _ => by simp [NmAt] at hn
  | _ :: _, [], _, _, _, _, _, _, hn, _, _, _, _ => by simp [NmAt] at hn
  | e :: es, i :: is, [], _, _, _, _, _, _, hl, _, _, _ => by simp at hl
  | x :: xs, i :: is, d :: ds, vs, Γ, s, ad, Q, hn, hl, r, g, hq => by
    simp only [NmAt] at hn
    obtain ⟨⟨k, hi, hk⟩, hn⟩ := hn
    simp only [Reps] at r
    obtain ⟨v, q, rfl, r1, r2⟩ := r
    show wpAny M A (assignInOrder (bindName X.env x :: xs.map fun n => bindName X.env n) (v :: q)) Q E s
    refine wpAny_bind (wpAny_holding (wpAny_bindName ?_))
    refine store_of fx g hi hk r1 fun s' mv kp g' => ?_
    refine bind_names fx xs is ds q _ s' ad Q hn (by simpa using hl) (Reps.bar (fun a _ _ _ hb _ _ => ?_) _ _ (Reps.up (fun b o xs n _ e q => kp b o xs n (fun h => h) e q) _ _ r2)) g' fun s'' mv' g'' => hq s'' (mv.trans' mv') g''
    rcases hb with h | h
    · exact .inl h
    · exact .inr (ow_set h)

/-- a, b = x, y : the stores go from the last to the first -/
theorem XS.swap {es : List PySem.Expr} {is : List Nat} {k : Nat} {p p' : Pos} {e : PySem.Expr} {ds : List D} {xs : List PySem.Str} (hv : Ev X Γ e (.tup ds)) (hw : swappedStores [.Tuple es k p] e X.env = pure (some xs)) (hn : NmAt X xs.reverse is)
    (hl : ds.length = is.length) (hx : xs.length = ds.length) (hφ : Φ (.next (setAll Γ is ds.reverse)))
    (hs : swapsWithSole [.Tuple es k p] e p'.line X.env = pure false := by rfl) : XS X Γ (.Assign [.Tuple es k p] e p') Φ := fun fx A s ad Q E hr g hq => by
  rw [exec_Assign_arm]
  refine wpAny_bind (wpAny_standAt ?_)
  rw [hs]
  refine wpAny_bind (wpAny_pure ?_)
  rw [if_neg (by decide)]
  refine wpAny_bind (hv A s ad _ E hr g fun v s1 st r => ?_)
  rw [hw]
  refine wpAny_bind (wpAny_pure ?_)
  refine wpAny_bind (m := rule _) (wpAny_rule ?_)
  refine wpAny_bind ?_
  rw [hx]
  refine wpAny_unpackItems_tup hr r fun vs h' kp r' => ?_
  refine wpAny_bind (bind_names fx xs.reverse is ds.reverse vs.reverse Γ _ ad _ hn (by simpa using hl) (Reps.rev _ _ r') ((g.up st).up (step_h kp)) fun s2 mv g2 => wpAny_pure ?_)
  exact hq _ _ s2 hφ (Mv.after (st.trans (step_h kp)) (mv.weak fun _ h => h.elim)) ⟨rfl, ad, g2, fun a h => .inl (ow_setAll _ _ _ h)⟩
end
section
variable {X : Cx} {Γ : Gam} {Φ : Out → Prop}

/-- one address more is barred -/
noncomputable def Cx.bar (X : Cx) (a : Addr) : Cx := { X with B := fun b => X.B b ∨ b = a }

theorem Gd.barred {s : Shared} {ad : Nat → Addr} {o : Obj} (g : Gd X ad Γ s) (ho : o.isFreed = false) : Gd (X.bar s.heap.objs.size) ad Γ { s with heap := s.heap.push o } := by
  have no : ∀ (b : Addr) o', s.heap.get? b = some o' → b ≠ s.heap.objs.size := fun b o' e q => Nat.lt_irrefl _ (q ▸ Heap.lt_size e)
  have bar : ∀ (b : Addr) (o' : Obj) xs n, (X.bar s.heap.objs.size).ban ad Γ b → s.heap.get? b = some o' → o'.data = .seq xs n → X.ban ad Γ b := fun b o' xs n hb e _ => by
    rcases hb with (h | h) | h
    · exact .inl h
    · exact absurd h (no b o' e)
    · exact .inr h
  refine ⟨g.kind, g.glob, g.blt, g.uniq, g.names, g.apart, ⟨g.fx.loc, g.fx.cel, g.fx.cl⟩, ?_, ?_, g.keep.trans kp_push, ?_, g.gok, g.pos, ?_, ?_⟩
  · obtain ⟨m, h⟩ := g.ns; exact ⟨m, h.keeps kp_push⟩
  · intro n c e; obtain ⟨v, h⟩ := g.cells n c e; exact ⟨v, h.keeps kp_push⟩
  · intro a h
    rcases h with h | rfl
    · obtain ⟨o', e⟩ := g.low a h; exact ⟨o', kp_push _ _ e⟩
    · exact ⟨o, Heap.get?_push_size _ ho⟩
  · intro i d e
    obtain ⟨x, k, v, h1, h2, h3⟩ := g.vars i d e
    exact ⟨x, k, v, h1, h2.up kp_push, Rep.up kp_push.s _ _ (Rep.bar bar _ _ h3)⟩
  · intro i l e
    obtain ⟨x, k, vs, h1, h2, h3, h4, h5, h6, h6', h7⟩ := g.owns i l e
    refine ⟨x, k, vs, h1, h2.up kp_push, h3.at (fun o e => kp_push _ _ e), Reps.up kp_push.s _ _ (Reps.bar bar _ _ h4), h5, h6, fun h => ?_, h7⟩
    rcases h with h | h
    · exact h6' h
    · obtain ⟨n, e⟩ := h3; exact no _ _ e h

theorem FnX.bar {a : Addr} (f : FnX X) : FnX (X.bar a) := ⟨f.loc, f.cel, f.cl⟩

noncomputable def upd (ad : Nat → Addr) (i : Nat) (a : Addr) : Nat → Addr := fun j => if j = i then a else ad j

/-- a list of one's own -/
theorem Gd.own {s : Shared} {ad : Nat → Addr} {i : Nat} {a : Addr} {x : PySem.Str} {k : NameKind} {ds : List D} {vs : List Value} (g : Gd (X.bar a) ad (Γ.set i none) s) (hi : X.env.scope.names[i]? = some (x, k)) (hr : Reads X.env s.heap x (.ref a))
    (hp : s.heap.PlainList a (List.toArray vs)) (r : Reps ((X.bar a).ban ad (Γ.set i none)) s.heap ds vs) (hz : ds.length ≤ 4194304) (h0 : X.h₀.get? a = none) (hB : ¬ X.B a) : Gd X (upd ad i a) (Γ.set i (some (.o ds))) s := by
  have eb : ∀ b, X.ban (upd ad i a) (Γ.set i (some (.o ds))) b → (X.bar a).ban ad (Γ.set i none) b := fun b h => by
    rcases h with h | ⟨j, l, e, rfl⟩
    · exact .inl (.inl h)
    · rcases set_get e with ⟨hj, e2⟩ | ⟨hji, e2⟩
      · exact .inl (.inr (by simp [upd, hj]))
      · exact .inr ⟨j, l, by rw [List.getElem?_set_ne (fun e => hji e.symm)]; exact e2, by simp [upd, hji]⟩
  have bar : ∀ (b : Addr) (o : Obj) xs n, X.ban (upd ad i a) (Γ.set i (some (.o ds))) b → s.heap.get? b = some o → o.data = .seq xs n → (X.bar a).ban ad (Γ.set i none) b := fun b _ _ _ hb _ _ => eb b hb
  have nown : ∀ (j : Nat) (l : List D), j ≠ i → Γ[j]? = some (some (.o l)) → ad j ≠ a := fun j l hji e q => by
    obtain ⟨_, _, _, _, _, _, _, _, _, h, _⟩ := g.owns j l (by rw [List.getElem?_set_ne (fun e => hji e.symm)]; exact e)
    exact h (.inr q)
  refine ⟨g.kind, g.glob, g.blt, g.uniq, g.names, g.apart, ⟨g.fx.loc, g.fx.cel, g.fx.cl⟩, g.ns, g.cells, g.keep, fun b h => g.low b (.inl h), g.gok, g.pos, fun j d' e => ?_, fun j l e => ?_⟩
  · rcases set_get e with ⟨hj, e2⟩ | ⟨hji, e2⟩
    · cases e2
    · obtain ⟨y, k', w, h1, h2, h3⟩ := g.vars j d' (by rw [List.getElem?_set_ne (fun e => hji e.symm)]; exact e2)
      exact ⟨y, k', w, h1, h2, Rep.bar bar _ _ h3⟩
  · rcases set_get e with ⟨hj, e2⟩ | ⟨hji, e2⟩
    · cases e2; subst hj
      refine ⟨x, k, vs, hi, by simpa [upd] using hr, by simpa [upd] using hp, Reps.bar bar _ _ r, hz, by simpa [upd] using h0, by simpa [upd] using hB, fun j' l' e' q => ?_⟩
      rcases set_get e' with ⟨hj', _⟩ | ⟨hji', e3⟩
      · exact hj'
      · exact absurd (by simpa [upd, hji'] using q) (nown j' l' hji' e3)
    · obtain ⟨y, k', vs', h1, h2, h3, h4, h5, h6, h6', h7⟩ := g.owns j l (by rw [List.getElem?_set_ne (fun e => hji e.symm)]; exact e2)
      have ea : upd ad i a j = ad j := by simp [upd, hji]
      rw [ea]
      refine ⟨y, k', vs', h1, h2, h3, Reps.bar bar _ _ h4, h5, h6, fun h => h6' (.inl h), fun j' l' e' q => ?_⟩
      rcases set_get e' with ⟨hj', _⟩ | ⟨hji', e3⟩
      · subst hj'
        exact absurd (by simpa [upd] using q.symm) (nown j l hji e2)
      · exact h7 j' l' (by rw [List.getElem?_set_ne (fun e => hji' e.symm)]; exact e3) (by simpa [upd, hji'] using q)

theorem fresh_own {ad : Nat → Addr} {i : Nat} {a : Addr} {ds : List D} {s : Shared} (h : s.heap.get? a = none) : Fresh (ow ad Γ) s (upd ad i a) (Γ.set i (some (.o ds))) := fun b hb => by
  obtain ⟨j, l, e, rfl⟩ := hb
  rcases set_get e with ⟨hj, _⟩ | ⟨hji, e2⟩
  · right; simpa [upd, hj] using h
  · left; exact ⟨j, l, e2, by simp [upd, hji]⟩

theorem none_of {h : Heap} {a : Addr} (ha : h.objs.size ≤ a) : h.get? a = none := by
  cases e : h.get? a with
  | none => rfl
  | some o => exact absurd (Nat.lt_of_lt_of_le (Heap.lt_size e) ha) (Nat.lt_irrefl _)

theorem step_none {s s' : Shared} (st : Step s s') {a : Addr} (h : s'.heap.get? a = none) : s.heap.get? a = none := by
  cases e : s.heap.get? a with
  | none => rfl
  | some o => rw [st.kp _ _ e] at h; cases h

/-- x = [..], a list that is to be changed -/
theorem XS.own {x : PySem.Str} {p p' p2 : Pos} {es : List PySem.Expr} {i : Nat} {k : NameKind} {ds : List D} (hv : EvL X Γ es ds) (hi : X.env.scope.names[i]? = some (x, k)) (hk : k = .local ∨ k = .cell) (hz : ds.length ≤ 4194304)
    (hφ : Φ (.next (Γ.set i (some (.o ds))))) : XS X Γ (.Assign [.Name x p] (.List es p2) p') Φ := fun fx A s ad Q E hr g hq =>
  wpAny_Assign_Name (List_ (hv A s ad _ E p2 hr g fun vs s1 st r => wpAny_newObj_type (by
    have g1 := g.up st
    have no := none_of (Nat.le_refl s1.heap.objs.size)
    refine store_none (X := X.bar s1.heap.objs.size) fx.bar (g1.barred (o := { cls := .type "list", data := .seq vs.toArray }) rfl) hi hk fun s2 mv kp g2 hr2 => ?_
    have hp : (s1.heap.push { cls := .type "list", data := .seq vs.toArray }).PlainList s1.heap.objs.size vs.toArray := ⟨0, Heap.get?_push_size _ rfl⟩
    have hp2 : s2.heap.PlainList s1.heap.objs.size vs.toArray := hp.at fun o e => by
      obtain ⟨n, e2⟩ := hp
      rw [e2] at e; cases e
      exact kp _ _ _ n (fun h => h) e2 rfl
    have no0 : X.h₀.get? s1.heap.objs.size = none := by
      cases e : X.h₀.get? s1.heap.objs.size with
      | none => rfl
      | some o => have := g1.keep _ _ e; rw [no] at this; cases this
    have g3 := g2.own (X := X) hi hr2 hp2 (ds := ds) (Reps.up (fun b o xs n _ e q => kp b o xs n (fun h => h) e q) _ _ (Reps.up kp_push.s _ _ (Reps.bar (fun b o xs n hb e _ => ?_) _ _ r))) hz no0 fun h => by
      obtain ⟨o, e⟩ := g1.low _ h; rw [no] at e; cases e
    · refine hq _ _ s2 hφ (Mv.after (st.trans (step_h kp_push)) (mv.weak (X := X) fun _ h => h.elim)) ⟨rfl, _, g3, fresh_own (step_none st no)⟩
    · rcases hb with (h | h) | h
      · exact .inl h
      · rw [h, no] at e; cases e
      · have := ban_none (X := X) (ad := ad) (.inr h : X.ban ad (Γ.set i none) b)
        exact this)
    (by show (List.toArray vs).size ≤ sizeLine; rw [List.size_toArray, Reps.length _ _ r, sizeLine_eq]; omega)))
end
section
variable {X : Cx} {Γ : Gam} {Φ : Out → Prop}

/-- a list that is changed no more -/
theorem Gd.freeze {s : Shared} {ad : Nat → Addr} {i : Nat} {l : List D} (g : Gd X ad Γ s) (hi : Γ[i]? = some (some (.o l))) : Gd X ad (Γ.set i (some (.v (.lst l)))) s := by
  obtain ⟨x, k, vs, h1, h2, h3, h4, h5, h6, h6', h7⟩ := g.owns i l hi
  have eb : ∀ a, X.ban ad (Γ.set i (some (.v (.lst l)))) a → X.ban ad Γ a := fun a h => h.elim .inl fun h => .inr (ow_set h)
  have bar : ∀ (b : Addr) (o : Obj) xs n, X.ban ad (Γ.set i (some (.v (.lst l)))) b → s.heap.get? b = some o → o.data = .seq xs n → X.ban ad Γ b := fun b _ _ _ hb _ _ => eb b hb
  refine ⟨g.kind, g.glob, g.blt, g.uniq, g.names, g.apart, g.fx, g.ns, g.cells, g.keep, g.low, g.gok, g.pos, fun j d' e => ?_, fun j l' e => ?_⟩
  · rcases set_get e with ⟨hj, e2⟩ | ⟨hji, e2⟩
    · cases e2; subst hj
      refine ⟨x, k, _, h1, h2, ?_⟩
      simp only [Rep]
      refine ⟨ad j, vs, rfl, fun hb => ?_, h3.isList, Reps.bar bar _ _ h4, h5⟩
      rcases hb with hb | ⟨j', l', e', q⟩
      · exact h6' hb
      · rcases set_get e' with ⟨_, e3⟩ | ⟨hji', e3⟩
        · cases e3
        · exact hji' (h7 j' l' e3 q.symm)
    · obtain ⟨y, k', w, q1, q2, q3⟩ := g.vars j d' e2
      exact ⟨y, k', w, q1, q2, Rep.bar bar _ _ q3⟩
  · rcases set_get e with ⟨hj, e2⟩ | ⟨hji, e2⟩
    · cases e2
    · obtain ⟨y, k', vs', q1, q2, q3, q4, q5, q6, q6', q7⟩ := g.owns j l' e2
      exact ⟨y, k', vs', q1, q2, q3, Reps.bar bar _ _ q4, q5, q6, q6', fun j' l2 e' => by
        rcases set_get e' with ⟨_, e3⟩ | ⟨_, e3⟩
        · cases e3
        · exact q7 j' l2 e3⟩

theorem XJ.freeze {i : Nat} {l : List D} {ss : List Stmt} (hi : Γ[i]? = some (some (.o l))) (h : XJ X (Γ.set i (some (.v (.lst l)))) ss Φ) : XJ X Γ ss Φ := fun fx A s ad Q E hr g hq =>
  h fx A s ad Q E hr (g.freeze hi) fun o f s' ho mv sat => hq o f s' ho (mv.weak fun _ => ow_set) (by
    cases o with
    | ret d => exact sat
    | _ => obtain ⟨a, ad', b, c⟩ := sat; exact ⟨a, ad', b, fun p hp => (c p hp).imp ow_set id⟩)

/-- one's own list has turned -/
theorem Rep.rec_ok {B B2 : Addr → Prop} {h h2 : Heap} {l : List D} {vs : List Value} (kp : KpS B h h2) (eb : ∀ a, B2 a → B a) (r : Reps B h l vs) : Reps B2 h2 l vs := Reps.bar (fun b _ _ _ hb _ _ => eb b hb) _ _ (Reps.up kp _ _ r)

theorem Gd.turn {s : Shared} {ad : Nat → Addr} {i : Nat} {l l' : List D} {h' : Heap} {t' : Nat} {ws : List Value} (g : Gd X ad Γ s) (hi : Γ[i]? = some (some (.o l))) (hp : h'.PlainList (ad i) (List.toArray ws)) (hs : Heap.SameBut (ad i) s.heap h')
    (r : Reps (X.ban ad Γ) s.heap l' ws) (hz : l'.length ≤ 4194304) (ht : s.toks ≤ t') : Gd X ad (Γ.set i (some (.o l'))) { s with heap := h', toks := t' } := by
  obtain ⟨x, k, vs, h1, h2, ⟨n0, h3⟩, h4, h5, h6, h6', h7⟩ := g.owns i l hi
  have eb : ∀ a, X.ban ad (Γ.set i (some (.o l'))) a → X.ban ad Γ a := fun a h => by
    rcases h with h | ⟨j, l2, e, rfl⟩
    · exact .inl h
    · rcases set_get e with ⟨hj, _⟩ | ⟨_, e2⟩
      · exact .inr ⟨i, l, hi, by rw [hj]⟩
      · exact .inr ⟨j, l2, e2, rfl⟩
  have bar : ∀ (b : Addr) (o : Obj) xs n, X.ban ad (Γ.set i (some (.o l'))) b → s.heap.get? b = some o → o.data = .seq xs n → X.ban ad Γ b := fun b _ _ _ hb _ _ => eb b hb
  have kp : KpS (X.ban ad Γ) s.heap h' := fun b o xs n nb e d => (hs.2 b fun q => nb (.inr ⟨i, l, hi, q⟩)).trans e
  have reads : ∀ y w, Reads X.env s.heap y w → Reads X.env h' y w := fun y w hr => by
    rcases hr with ⟨a1, m, a2, a3⟩ | ⟨a1, c, a2, a3⟩
    · refine .inl ⟨a1, m, a2.sameBut hs fun q => ?_, a3⟩
      obtain ⟨o, _, _, e1, e2, _⟩ := a2
      rw [q, h3] at e1; cases e1; cases e2
    · refine .inr ⟨a1, c, a2, a3.sameBut hs fun q => ?_⟩
      obtain ⟨o, e1, e2⟩ := a3
      rw [q, h3] at e1; cases e1; cases e2
  refine ⟨g.kind, g.glob, g.blt, g.uniq, g.names, g.apart, g.fx, ?_, ?_, fun b o e => ?_, fun b hb => ?_, g.gok, Nat.lt_of_lt_of_le g.pos ht, fun j d' e => ?_, fun j l2 e => ?_⟩
  · obtain ⟨m, a2⟩ := g.ns
    refine ⟨m, a2.sameBut hs fun q => ?_⟩
    obtain ⟨o, _, _, e1, e2, _⟩ := a2
    rw [q, h3] at e1; cases e1; cases e2
  · intro n c e
    obtain ⟨v, a3⟩ := g.cells n c e
    refine ⟨v, a3.sameBut hs fun q => ?_⟩
    obtain ⟨o, e1, e2⟩ := a3
    rw [q, h3] at e1; cases e1; cases e2
  · exact (hs.2 b (fun q => by rw [q, h6] at e; cases e)).trans (g.keep _ _ e)
  · obtain ⟨o, e⟩ := g.low b hb
    exact ⟨o, (hs.2 b fun q => h6' (q ▸ hb)).trans e⟩
  · rcases set_get e with ⟨hj, e2⟩ | ⟨hji, e2⟩
    · cases e2
    · obtain ⟨y, k', w, q1, q2, q3⟩ := g.vars j d' e2
      exact ⟨y, k', w, q1, reads _ _ q2, Rep.up (fun b o xs n nb e d => kp b o xs n (fun h => nb h) e d) _ _ q3 |> Rep.bar (fun b o xs n hb e d => eb b hb) _ _⟩
  · rcases set_get e with ⟨hj, e2⟩ | ⟨hji, e2⟩
    · cases e2; subst hj
      exact ⟨x, k, ws, h1, reads _ _ h2, hp, Rep.rec_ok kp eb r, hz, h6, h6', fun j' l2 e' q => by
        rcases set_get e' with ⟨hj', _⟩ | ⟨_, e3⟩
        · exact hj'
        · exact h7 j' l2 e3 q⟩
    · obtain ⟨y, k', vs', q1, q2, q3, q4, q5, q6, q6', q7⟩ := g.owns j l2 e2
      refine ⟨y, k', vs', q1, reads _ _ q2, q3.at (fun o e => (hs.2 _ fun q => hji ?_).trans e), Rep.rec_ok kp eb q4, q5, q6, q6', fun j' l3 e' q => ?_⟩
      · exact h7 j l2 e2 q
      · rcases set_get e' with ⟨hj', _⟩ | ⟨_, e3⟩
        · subst hj'; exact q7 j' l hi q
        · exact q7 j' l3 e3 q
end
section
variable {X : Cx} {Γ : Gam} {Φ : Out → Prop}

/-- a method's call: the conditions of form -/
noncomputable def MForm (X : Cx) (o : PySem.Expr) (name : PySem.Str) (apos pos : Pos) (args : List PySem.Expr) : Prop :=
  ((match o with | .Call (.Name _ _) [] [] _ => false | _ => true) && args.all nst && Nat.blt args.length 30 && apos.endLine == pos.line) = true
theorem MForm.all {o : PySem.Expr} {name : PySem.Str} {apos pos : Pos} {args : List PySem.Expr} (h : MForm X o name apos pos args) : attributeBase o name X.env (eval o X.env) = eval o X.env ∧
  ((backTo pos (starEach args X.env)).all (fun x => !x.1) && (backToKw pos (keywordEach [] X.env)).all (fun x => x.1.isSome)
      && decide (args.length + ([] : List Keyword).length + (if ([] : List Keyword).isEmpty then 0 else 1) < 30)) = true ∧ (apos.endLine == pos.line) = true := by
  unfold MForm at h
  rw [Bool.and_eq_true, Bool.and_eq_true, Bool.and_eq_true] at h
  obtain ⟨⟨⟨h1, h2⟩, h3⟩, h4⟩ := h
  refine ⟨?_, ?_, h4⟩
  · unfold attributeBase
    split
    · cases h1
    · rfl
  · rw [all_plain h2, Bool.true_and]
    exact Bool.and_eq_true_iff.mpr ⟨rfl, decide_eq_true (Nat.blt_eq.mp h3)⟩

theorem fresh_turn {ad : Nat → Addr} {i : Nat} {l l' : List D} {s : Shared} (hi : Γ[i]? = some (some (.o l))) : Fresh (ow ad Γ) s ad (Γ.set i (some (.o l'))) := fun a h => by
  obtain ⟨j, l2, e, rfl⟩ := h
  rcases set_get e with ⟨hj, _⟩ | ⟨_, e2⟩
  · subst hj; exact .inl ⟨_, _, hi, rfl⟩
  · exact .inl ⟨j, l2, e2, rfl⟩

/-- x.append(e) -/
theorem XS.append {x : PySem.Str} {p apos pos p' : Pos} {e : PySem.Expr} {i : Nat} {k : NameKind} {l : List D} {d : D} (hx : X.env.scope.names[i]? = some (x, k)) (hi : Γ[i]? = some (some (.o l))) (hn : plainNm x) (he : Ev X Γ e d)
    (hf : MForm X (.Name x p) "append" apos pos [e]) (hse : nst e = true) (hz : l.length + 1 ≤ 4194304) (hφ : Φ (.next (Γ.set i (some (.o (l ++ [d]))))))
    (hi0 : interactive X.env = false := by rfl) :
    XS X Γ (.Expr (.Call (.Attribute (.Name x p) "append" apos) [e] [] pos) p') Φ := fun fx A s ad Q E hr g hq => by
  refine wpAny_Expr (wpAny_Call_method hf.all.1 hf.all.2.1 hf.all.2.2 F.plainAttrs_list F.slot_list_append F.type_list_append ?_) hi0 (no_swap rfl)
  obtain ⟨x', k', vs, h1, h2, h3, h4, h5, h6, h6', h7⟩ := g.owns i l hi
  rw [hx] at h1; cases h1
  refine wpAny_Name (loadName_of g.kind h2 ?_ hn.2) hn.1
  obtain ⟨n0, h3'⟩ := id h3
  refine ⟨⟨_, h3', rfl⟩, fun a e => by cases e; exact ⟨_, h3', rfl⟩, ?_⟩
  refine callWith_method1 (spliced_more (he A s ad _ E hr g fun v s1 st r => args_nil ?_) (star_cons hse)) (star_cons hse) rfl
  have el := Reps.length _ _ h4
  refine wpAny_list_append_plain (h3.at fun o e => st.kp _ o e) (fun h' pl sb => ?_) (by rw [List.size_toArray, el, sizeLine_eq]; omega)
  have g1 := g.up st
  have pl' : h'.PlainList (ad i) (vs ++ [v]).toArray := by simpa using pl
  have g2 := g1.turn (l' := l ++ [d]) hi pl' sb (Reps.append _ _ _ _ (Reps.up st.kp.s _ _ h4) (by simp only [Reps]; exact ⟨v, [], rfl, r, rfl⟩)) (by rw [List.length_append]; exact hz) (Nat.le_refl _)
  exact hq _ _ _ hφ ⟨st.sr.trans ⟨h', s1.toks, rfl⟩, fun b o e _ _ hW => (sb.2 b fun q => hW ⟨i, l, hi, q⟩).trans (st.kp _ _ e)⟩ ⟨rfl, ad, g2, fresh_turn hi⟩

theorem vs_snoc {B : Addr → Prop} {h : Heap} {l : List D} {d : D} {vs : List Value} (r : Reps B h (l ++ [d]) vs) : ∃ ws v, vs = ws ++ [v] ∧ Reps B h l ws ∧ Rep B h d v := by
  induction l generalizing vs with
  | nil =>
    simp only [List.nil_append, Reps] at r
    obtain ⟨v, q, rfl, h1, rfl⟩ := r
    exact ⟨[], v, rfl, by simp [Reps], h1⟩
  | cons e l ih =>
    simp only [List.cons_append, Reps] at r
    obtain ⟨v, q, rfl, h1, h2⟩ := r
    obtain ⟨ws, w, rfl, h3, h4⟩ := ih h2
    exact ⟨v :: ws, w, rfl, by simp only [Reps]; exact ⟨v, ws, rfl, h1, h3⟩, h4⟩

/-- x.pop(), of a list of texts -/
theorem XS.pop {x : PySem.Str} {p apos pos p' : Pos} {i : Nat} {k : NameKind} {l : List D} {y : List Nat} (hx : X.env.scope.names[i]? = some (x, k)) (hi : Γ[i]? = some (some (.o (l ++ [.str y])))) (hn : plainNm x)
    (hf : MForm X (.Name x p) "pop" apos pos []) (hφ : Φ (.next (Γ.set i (some (.o l)))))
    (hi0 : interactive X.env = false := by rfl) :
    XS X Γ (.Expr (.Call (.Attribute (.Name x p) "pop" apos) [] [] pos) p') Φ := fun fx A s ad Q E hr g hq => by
  refine wpAny_Expr (wpAny_Call_method hf.all.1 hf.all.2.1 hf.all.2.2 F.plainAttrs_list F.slot_list_pop F.type_list_pop ?_) hi0 (no_swap rfl)
  obtain ⟨x', k', vs, h1, h2, h3, h4, h5, h6, h6', h7⟩ := g.owns i _ hi
  rw [hx] at h1; cases h1
  refine wpAny_Name (loadName_of g.kind h2 ?_ hn.2) hn.1
  obtain ⟨n0, h3'⟩ := id h3
  refine ⟨⟨_, h3', rfl⟩, fun a e => by cases e; exact ⟨_, h3', rfl⟩, ?_⟩
  have el := Reps.length _ _ h4
  obtain ⟨ws, v, rfl, r1, r2⟩ := vs_snoc h4
  simp only [Rep] at r2
  obtain ⟨t, rfl, hz⟩ := r2
  have ew := Reps.length _ _ r1
  have hlen : l.length + 1 ≤ 4194304 := by simpa using h5
  refine callWith_method0 (call_meets F.slot_list_pop ⟨_, h3', rfl⟩ F.entry_list_pop (F.args_list_pop_1 _) (MeetsSeq.list_pop_last (ad i) (ws ++ [Value.str (S y) t]).toArray n0 (.str (S y) t) (by simp) (by rw [List.size_toArray, sizeLine_eq]; simp [ew]; omega)) ⟨h3', ?_⟩)
  have sb : Heap.SameBut (ad i) s.heap (s.heap.update (ad i) (Obj.mapSeq fun xs => xs.eraseIdxIfInBounds ((ws ++ [Value.str (S y) t]).toArray.size - 1))) := Heap.SameBut.update ..
  have ee : ((ws ++ [Value.str (S y) t]).toArray.eraseIdxIfInBounds ((ws ++ [Value.str (S y) t]).toArray.size - 1)) = ws.toArray := by
    apply Array.toList_inj.mp
    rw [Array.toList_eraseIdxIfInBounds]
    simp
    rw [List.eraseIdx_append_of_length_le (Nat.le_refl _)]
    simp
  have pl : (s.heap.update (ad i) (Obj.mapSeq fun xs => xs.eraseIdxIfInBounds ((ws ++ [Value.str (S y) t]).toArray.size - 1))).PlainList (ad i) ws.toArray := by
    refine ⟨if ws.toArray.size == (ws ++ [Value.str (S y) t]).toArray.size then n0 else n0 + 1, ?_⟩
    rw [Heap.get?_update_self _ h3' rfl]
    simp only [Obj.mapSeq, ee]
  have g2 := g.turn hi pl sb r1 (by omega) (Nat.le_refl _)
  exact hq _ _ _ hφ ⟨⟨_, s.toks, rfl⟩, fun b o e _ _ hW => (sb.2 b fun q => hW ⟨i, _, hi, q⟩).trans e⟩ ⟨rfl, ad, g2, fresh_turn hi⟩

/-- behind a loop's turn -/
noncomputable def Turn (Φ : Out → Prop) (next : Gam → Prop) : Out → Prop
  | .next Γ => next Γ
  | .cont Γ => next Γ
  | .brk Γ => Φ (.next Γ)
  | .ret d => Φ (.ret d)

theorem XS.whil {test : PySem.Expr} {body : List Stmt} {p : Pos} (I : Nat → Gam → Prop)
    (turn : ∀ n Γ', I n Γ' → ∃ b, Tr X Γ' test b ∧ (b = true → XJ X Γ' body (Turn Φ fun Γ2 => ∃ m, m < n ∧ I m Γ2)) ∧ (b = false → Φ (.next Γ')))
    (n : Nat) (h : I n Γ) : XS X Γ (.While test body [] p) Φ := fun fx A s ad Q E hr g hq => by
  refine wpAny_While (codeAny_whileLoop (fun n s' => ∃ ad' Γ', I n Γ' ∧ Gd X ad' Γ' s' ∧ Mv X (ow ad Γ) s s' ∧ Fresh (ow ad Γ) s ad' Γ') ?_ n ⟨ad, Γ, h, g, Mv.refl s, Fresh.refl⟩)
  rintro n s' ⟨ad', Γ', hI, g', mv, fr⟩
  obtain ⟨b, ht, h1, h2⟩ := turn n Γ' hI
  refine ht A s' ad' _ _ hr g' fun s2 st => ?_
  have mv2 := mv.trans fr (st.mv (W := ow ad' Γ'))
  have fr2 : Fresh (ow ad Γ) s ad' Γ' := fr
  cases b with
  | true =>
    simp only [if_true]
    refine h1 rfl fx A s2 ad' _ _ hr (g'.up st) fun o f s3 ho mv3 sat => ?_
    cases o with
    | next Γ3 =>
      obtain ⟨rfl, ad3, g3, fr3⟩ := sat
      obtain ⟨m, hm, hI'⟩ := ho
      exact ⟨m, hm, ad3, Γ3, hI', g3, mv2.trans fr2 mv3, Fresh.trans mv2 (g'.up st) fr2 fr3⟩
    | cont Γ3 =>
      obtain ⟨rfl, ad3, g3, fr3⟩ := sat
      obtain ⟨m, hm, hI'⟩ := ho
      exact ⟨m, hm, ad3, Γ3, hI', g3, mv2.trans fr2 mv3, Fresh.trans mv2 (g'.up st) fr2 fr3⟩
    | brk Γ3 =>
      obtain ⟨rfl, ad3, g3, fr3⟩ := sat
      exact hq _ _ s3 ho (mv2.trans fr2 mv3) ⟨rfl, ad3, g3, Fresh.trans mv2 (g'.up st) fr2 fr3⟩
    | ret d =>
      have := hq _ _ s3 ho (mv2.trans fr2 mv3) sat
      obtain ⟨v, rfl, _⟩ := sat
      exact this
  | false =>
    simp only [Bool.false_eq_true, if_false]
    exact wpAny_execs_nil (hq _ _ s2 (h2 rfl) mv2 ⟨rfl, ad', g'.up st, fr⟩)
end
/-- what stood barred, or is new -/
noncomputable def Zb (s1 s' : Shared) (Bn : Addr → Prop) (wr : List Addr) : Addr → Prop := fun b => (∃ o, s'.heap.get? b = some o) ∧ (Bn b ∨ s1.heap.get? b = none ∨ b ∈ wr)

/-- the next item, and the tuple that an iterator lets go -/
noncomputable def Pull (X : Cx) (A : Around) (target : PySem.Expr) (I : Addr) (s1 : Shared) (Bn : Addr → Prop) (wr : List Addr) (St : Nat → Heap → Prop) (ds : List D) : Prop :=
  ∀ (i : Nat) (s' : Shared) (Q : Option Value → Shared → Prop) (E : Value → Shared → Prop) (d : D), ds[i]? = some d → St i s'.heap →
    (∀ (b : Addr) (o : Obj) xs n, ¬ Bn b → b ∉ wr → s1.heap.get? b = some o → o.data = .seq xs n → s'.heap.get? b = some o) →
    (∀ v h1 tk, s'.toks ≤ tk → (∀ Q' : Unit → Shared → Prop, (∀ h2, St (i + 1) h2 → (∀ b o, b ∉ wr → s'.heap.get? b = some o → h2.get? b = some o) → Rep (Zb s1 s' Bn wr) h2 d v → Q' () { s' with heap := h2, toks := tk }) →
        ∀ E', wpAny (model X.G.prog X.G.w) A (letOwnedTupleGo target (.ref I) v) Q' E' { s' with heap := h1, toks := tk }) → Q (some v) { s' with heap := h1, toks := tk }) →
    wpAny (model X.G.prog X.G.w) A (pyNext (.ref I)) Q E s'

/-- an iterator that stands ready -/
structure RdyIt (X : Cx) (Γ : Gam) (ad : Nat → Addr) (A : Around) (target : PySem.Expr) (s s1 : Shared) (ds : List D) (I : Addr) (fp wr : List Addr) (St : Nat → Heap → Prop) (z : Bool) : Prop where
  hst : Step s s1
  sub : ∀ b ∈ wr, b ∈ fp
  frame : ∀ i h h', St i h → (∀ b ∈ fp, ∀ o, h.get? b = some o → h'.get? b = some o) → St i h'
  pull : Pull X A target I s1 (X.ban ad Γ) wr St ds
  done : ∀ (s : Shared) (Q : Option Value → Shared → Prop) (E : Value → Shared → Prop), St ds.length s.heap →
    (∀ h' tk, (∀ b o, b ∉ wr → s.heap.get? b = some o → h'.get? b = some o) → Q none { s with heap := h', toks := tk }) → wpAny (model X.G.prog X.G.w) A (pyNext (.ref I)) Q E s
  self : ∀ i (s : Shared) (Q : Value → Shared → Prop) (E : Value → Shared → Prop), St i s.heap → Q (.ref I) s → wpAny (model X.G.prog X.G.w) A (pyIter (.ref I)) Q E s
  hst0 : St 0 s1.heap
  hfp : ∀ b ∈ fp, (∃ o, s1.heap.get? b = some o) ∧ b ≠ X.env.locals ∧ (∀ n c, X.env.cells.lookup n = some c → b ≠ c) ∧ ¬ ow ad Γ b
  hwr : ∀ b ∈ wr, s.heap.get? b = none
  hfb : ∀ b ∈ fp, ¬ X.B b
  hns : z = false → ∀ (i : Nat) (h : Heap) (b : Addr) (o : Obj) (xs : Array Value) (n : Nat), St i h → b ∈ wr → h.get? b = some o → o.data ≠ .seq xs n
  hex : ∀ (i : Nat) (h : Heap) (b : Addr), St i h → b ∈ wr → ∃ o, h.get? b = some o

/-- of the library's walks -/
theorem Pull.ofWalks {X : Cx} {A : Around} {target : PySem.Expr} {I : Addr} {s1 : Shared} {Bn : Addr → Prop} {fp wr : List Addr} {P : Nat → Value → Prop} {St : Nat → Heap → Prop} {ds : List D} (hW : Walks X.G.prog X.G.w A I fp wr ds.length P St)
    (hgo : ∀ v, letOwnedTupleGo target (.ref I) v = pure ()) (hns : ∀ (i : Nat) (h : Heap) (b : Addr) (o : Obj) (xs : Array Value) (n : Nat), St i h → b ∈ wr → h.get? b = some o → o.data ≠ .seq xs n)
    (hst0 : St 0 s1.heap) (hP : ∀ i v, i < ds.length → P i v → ∃ d, ds[i]? = some d ∧ Rep Bn s1.heap d v) : Pull X A target I s1 Bn wr St ds := fun i s' Q E d hd hst keep hq => by
  have hlt : i < ds.length := by
    rcases Nat.lt_or_ge i ds.length with h | h
    · exact h
    · rw [List.getElem?_eq_none h] at hd; cases hd
  refine wp_toks (hW.item i s' _ _ hlt hst fun v h' tk hPv hst' hk htk => hq v h' tk htk fun Q' hq' E' => ?_)
  rw [hgo]
  refine wpAny_pure (hq' h' hst' hk ?_)
  obtain ⟨d', e1, r⟩ := hP i v hlt hPv
  rw [hd] at e1; cases e1
  refine Rep.bar (B := fun b => Bn b ∨ Zb s1 s' Bn wr b) (fun b o xs n hb _ _ => .inr hb) _ _ (Rep.up (h := s1.heap) (fun b o xs n nb e dd => ?_) _ _ (Rep.bar (fun b o xs n hb e dd => ?_) _ _ r))
  · have e2 := keep b o xs n (fun h => nb (.inl h)) (fun h => hns 0 _ b o xs n hst0 h e dd) e dd
    exact hk b o (fun hb => hns i _ b o xs n hst hb e2 dd) e2
  · rcases hb with hb | ⟨_, hb | hb | hb⟩
    · exact hb
    · exact hb
    · rw [hb] at e; cases e
    · exact absurd dd (hns 0 _ b o xs n hst0 hb e)

/-- an expression as a loop's source -/
noncomputable def It (X : Cx) (Γ : Gam) (target e : PySem.Expr) (ds : List D) (z : Bool) : Prop :=
  ∀ A s ad Q E, Room X.k A → Gd X ad Γ s → (∀ s1 I fp wr St, RdyIt X Γ ad A target s s1 ds I fp wr St z → Q (.ref I) s1) →
    wpAny (model X.G.prog X.G.w) A (eval e X.env) (fun xv s1 => wpAny (model X.G.prog X.G.w) A (pyIter xv) Q E s1) E s

section
variable {X : Cx} {Γ : Gam} {Φ : Out → Prop}

theorem Gd.seq_off {s : Shared} {ad : Nat → Addr} (g : Gd X ad Γ s) {a : Addr} {o : Obj} {xs n} (e : s.heap.get? a = some o) (hd : o.data = .seq xs n) : a ≠ X.env.locals ∧ ∀ nm c, X.env.cells.lookup nm = some c → a ≠ c := by
  constructor
  · intro q
    obtain ⟨m, o', _, _, e1, e2, _⟩ := g.ns
    rw [← q, e] at e1; cases e1; rw [hd] at e2; cases e2
  · intro nm c hc q
    obtain ⟨v, o', e1, e2⟩ := g.cells nm c hc
    rw [← q, e] at e1; cases e1; rw [hd] at e2; cases e2

theorem Gd.fields_off {s : Shared} {ad : Nat → Addr} (g : Gd X ad Γ s) {a : Addr} {o : Obj} {xs} (e : s.heap.get? a = some o) (hd : o.data = .fields xs) : a ≠ X.env.locals ∧ (∀ nm c, X.env.cells.lookup nm = some c → a ≠ c) ∧ ¬ ow ad Γ a := by
  refine ⟨?_, ?_, ?_⟩
  · intro q
    obtain ⟨m, o', _, _, e1, e2, _⟩ := g.ns
    rw [← q, e] at e1; cases e1; rw [hd] at e2; cases e2
  · intro nm c hc q
    obtain ⟨v, o', e1, e2⟩ := g.cells nm c hc
    rw [← q, e] at e1; cases e1; rw [hd] at e2; cases e2
  · rintro ⟨i, l, h, q⟩
    obtain ⟨x, k, vs, _, _, ⟨n, h3⟩, _⟩ := g.owns i l h
    rw [← q, e] at h3; cases h3; cases hd

theorem It.lst {target e : PySem.Expr} {ds : List D} (h : Ev X Γ e (.lst ds)) (hgo : ∀ it v, letOwnedTupleGo target it v = pure ()) : It X Γ target e ds false := fun A s ad Q E hr g hq =>
  h A s ad _ E hr g fun v s1 st r => by
    have r0 := r
    simp only [Rep] at r
    obtain ⟨a, vs, rfl, hb, h1, h2, hz⟩ := r
    refine wpAny_pyIter_list h1 (hq _ s1.heap.objs.size [s1.heap.objs.size, a] [s1.heap.objs.size] (fun i h => h.IsListIter s1.heap.objs.size a i ∧ h.IsList a vs.toArray) ?_)
    have g1 := g.up st
    have el := Reps.length _ _ h2
    obtain ⟨o, e1, e2, n, e3⟩ := id h1
    have hne : a ≠ s1.heap.objs.size := Nat.ne_of_lt (Heap.lt_size e1)
    have W := Walks.list (prog := X.G.prog) (w := X.G.w) (A := A) hr.1 s1.heap.objs.size a hne vs.toArray
    rw [show vs.toArray.size = ds.length from by simp [el]] at W
    have g2 := g1.up (step_h (s := s1) (h' := s1.heap.push { cls := .type "list_iterator", data := .fields #[.ref a, .int 0 0] }) kp_push)
    have hns : ∀ (i : Nat) (h : Heap) (b : Addr) (o : Obj) (xs : Array Value) (n : Nat), (h.IsListIter s1.heap.objs.size a i ∧ h.IsList a vs.toArray) → b ∈ [s1.heap.objs.size] → h.get? b = some o → o.data ≠ .seq xs n := fun i h b o xs n hs hb' e => by
      rw [List.mem_singleton.mp hb'] at e
      obtain ⟨⟨o', q1, q2, q3⟩, _⟩ := hs
      rw [e] at q1; cases q1; rw [q3]; simp
    refine ⟨st.trans (step_h kp_push), W.sub, W.frame, Pull.ofWalks W (hgo _) hns ⟨⟨_, Heap.get?_push_size _ rfl, rfl, rfl⟩, h1.push _⟩ fun i v _ hP => ?_, W.done, W.self, ⟨⟨_, Heap.get?_push_size _ rfl, rfl, rfl⟩, h1.push _⟩, fun b hb' => ?_, fun b hb' => ?_, fun b hb' => ?_, fun _ => hns, fun i h b hs hb' => ?_⟩
    · obtain ⟨d, q1, q2⟩ := Reps.get' _ _ i v h2 (by simpa using hP)
      exact ⟨d, q1, Rep.up kp_push.s _ _ q2⟩
    · rcases List.mem_cons.mp hb' with rfl | hb'
      · obtain ⟨p1, p2, p3⟩ := g2.fields_off (Heap.get?_push_size _ rfl) rfl
        exact ⟨⟨_, Heap.get?_push_size _ rfl⟩, p1, p2, p3⟩
      · rw [List.mem_singleton.mp hb']
        obtain ⟨p1, p2⟩ := g1.seq_off e1 e3
        exact ⟨⟨_, kp_push _ _ e1⟩, p1, p2, fun h => hb (.inr h)⟩
    · rw [List.mem_singleton.mp hb']; exact step_none st (none_of (Nat.le_refl _))
    · rcases List.mem_cons.mp hb' with rfl | hb'
      · exact fun h => g1.fresh _ (Nat.le_refl _) (.inl h)
      · rw [List.mem_singleton.mp hb']; exact fun h => hb (.inl h)
    · rw [List.mem_singleton.mp hb']
      obtain ⟨⟨o', q1, _⟩, _⟩ := hs
      exact ⟨o', q1⟩

theorem It.tup {target e : PySem.Expr} {ds : List D} (h : Ev X Γ e (.tup ds)) (hgo : ∀ it v, letOwnedTupleGo target it v = pure ()) : It X Γ target e ds false := fun A s ad Q E hr g hq =>
  h A s ad _ E hr g fun v s1 st r => by
    have r0 := r
    simp only [Rep] at r
    obtain ⟨a, vs, rfl, hb, h1, h2, hz⟩ := r
    refine wpAny_pyIter_tuple h1 (hq _ s1.heap.objs.size [s1.heap.objs.size, a] [s1.heap.objs.size] (fun i h => h.IsTupleIter s1.heap.objs.size a i ∧ h.IsTuple a vs.toArray) ?_)
    have g1 := g.up st
    have el := Reps.length _ _ h2
    obtain ⟨o, e1, e2, n, e3⟩ := id h1
    have hne : a ≠ s1.heap.objs.size := Nat.ne_of_lt (Heap.lt_size e1)
    have W := Walks.tuple (prog := X.G.prog) (w := X.G.w) (A := A) hr.1 s1.heap.objs.size a hne vs.toArray
    rw [show vs.toArray.size = ds.length from by simp [el]] at W
    have g2 := g1.up (step_h (s := s1) (h' := s1.heap.push { cls := .type "tuple_iterator", data := .fields #[.ref a, .int 0 0] }) kp_push)
    have hns : ∀ (i : Nat) (h : Heap) (b : Addr) (o : Obj) (xs : Array Value) (n : Nat), (h.IsTupleIter s1.heap.objs.size a i ∧ h.IsTuple a vs.toArray) → b ∈ [s1.heap.objs.size] → h.get? b = some o → o.data ≠ .seq xs n := fun i h b o xs n hs hb' e => by
      rw [List.mem_singleton.mp hb'] at e
      obtain ⟨⟨o', q1, q2, q3⟩, _⟩ := hs
      rw [e] at q1; cases q1; rw [q3]; simp
    refine ⟨st.trans (step_h kp_push), W.sub, W.frame, Pull.ofWalks W (hgo _) hns ⟨⟨_, Heap.get?_push_size _ rfl, rfl, rfl⟩, h1.push _⟩ fun i v _ hP => ?_, W.done, W.self, ⟨⟨_, Heap.get?_push_size _ rfl, rfl, rfl⟩, h1.push _⟩, fun b hb' => ?_, fun b hb' => ?_, fun b hb' => ?_, fun _ => hns, fun i h b hs hb' => ?_⟩
    · obtain ⟨d, q1, q2⟩ := Reps.get' _ _ i v h2 (by simpa using hP)
      exact ⟨d, q1, Rep.up kp_push.s _ _ q2⟩
    · rcases List.mem_cons.mp hb' with rfl | hb'
      · obtain ⟨p1, p2, p3⟩ := g2.fields_off (Heap.get?_push_size _ rfl) rfl
        exact ⟨⟨_, Heap.get?_push_size _ rfl⟩, p1, p2, p3⟩
      · rw [List.mem_singleton.mp hb']
        obtain ⟨p1, p2⟩ := g1.seq_off e1 e3
        exact ⟨⟨_, kp_push _ _ e1⟩, p1, p2, fun h => hb (.inr h)⟩
    · rw [List.mem_singleton.mp hb']; exact step_none st (none_of (Nat.le_refl _))
    · rcases List.mem_cons.mp hb' with rfl | hb'
      · exact fun h => g1.fresh _ (Nat.le_refl _) (.inl h)
      · rw [List.mem_singleton.mp hb']; exact fun h => hb (.inl h)
    · rw [List.mem_singleton.mp hb']
      obtain ⟨⟨o', q1, _⟩, _⟩ := hs
      exact ⟨o', q1⟩

noncomputable def ForJ (X : Cx) (tgt : D → Gam → Gam) (body : List Stmt) (Φ : Out → Prop) : List D → Gam → Prop
  | [], Γ => Φ (.next Γ)
  | d :: ds, Γ => XJ X (tgt d Γ) body (Turn Φ fun Γ' => ForJ X tgt body Φ ds Γ')

/-- a heap that turned at barred places alone -/
theorem Gd.butB {s : Shared} {ad : Nat → Addr} {h' : Heap} {t' : Nat} {wr : List Addr} (g : Gd X ad Γ s) (hno : ∀ (i : Nat) (l : List D), Γ[i]? ≠ some (some (.o l))) (k : ∀ b o, b ∉ wr → s.heap.get? b = some o → h'.get? b = some o) (ht : s.toks ≤ t')
    (hw : ∀ b ∈ wr, X.h₀.get? b = none ∧ b ≠ X.env.locals ∧ (∀ n c, X.env.cells.lookup n = some c → b ≠ c) ∧ ((X.B b ∧ ∃ o, h'.get? b = some o) ∨ (¬ X.B b ∧ ∀ o xs n, s.heap.get? b = some o → o.data ≠ .seq xs n))) : Gd X ad Γ { s with heap := h', toks := t' } := by
  have kp : ∀ {B : Addr → Prop}, (∀ a, X.B a → B a) → KpS B s.heap h' := fun hb b o xs n nb e d => k b o (fun h => (hw b h).2.2.2.elim (fun q => nb (hb _ q.1)) fun q => q.2 o xs n e d) e
  have reads : ∀ y w, Reads X.env s.heap y w → Reads X.env h' y w := fun y w hr => by
    rcases hr with ⟨a1, m, a2, a3⟩ | ⟨a1, c, a2, a3⟩
    · exact .inl ⟨a1, m, a2.at' fun o e => k _ o (fun h => (hw _ h).2.1 rfl) e, a3⟩
    · obtain ⟨o, e1, e2⟩ := a3
      exact .inr ⟨a1, c, a2, o, k _ o (fun h => (hw _ h).2.2.1 y c a2 rfl) e1, e2⟩
  refine ⟨g.kind, g.glob, g.blt, g.uniq, g.names, g.apart, g.fx, ?_, ?_, fun b o e => ?_, fun b hb => ?_, g.gok, Nat.lt_of_lt_of_le g.pos ht, fun j d e => ?_, fun j l e => absurd e (hno j l)⟩
  · obtain ⟨m, a⟩ := g.ns; exact ⟨m, a.at' fun o e => k _ o (fun h => (hw _ h).2.1 rfl) e⟩
  · intro n c e
    obtain ⟨v, o, e1, e2⟩ := g.cells n c e
    exact ⟨v, o, k _ o (fun h => (hw _ h).2.2.1 n c e rfl) e1, e2⟩
  · exact k b o (fun h => by rw [(hw b h).1] at e; cases e) (g.keep _ _ e)
  · by_cases hm : b ∈ wr
    · exact (hw b hm).2.2.2.elim (fun q => q.2) fun q => absurd hb q.1
    · obtain ⟨o, e⟩ := g.low b hb
      exact ⟨o, k b o hm e⟩
  · obtain ⟨x, kk, v, h1, h2, h3⟩ := g.vars j d e
    exact ⟨x, kk, v, h1, reads _ _ h2, Rep.up (kp fun a h => .inl h) _ _ h3⟩

/-- a heap that turned at an iterator's own places alone -/
theorem Gd.but {s : Shared} {ad : Nat → Addr} {h' : Heap} {t' : Nat} {wr : List Addr} (g : Gd X ad Γ s) (k : ∀ b o, b ∉ wr → s.heap.get? b = some o → h'.get? b = some o) (ht : s.toks ≤ t')
    (hw : ∀ b ∈ wr, X.h₀.get? b = none ∧ b ≠ X.env.locals ∧ (∀ n c, X.env.cells.lookup n = some c → b ≠ c) ∧ ¬ X.B b ∧ ∀ o xs n, s.heap.get? b = some o → o.data ≠ .seq xs n) : Gd X ad Γ { s with heap := h', toks := t' } := by
  have kp : ∀ {B : Addr → Prop}, KpS B s.heap h' := fun b o xs n _ e d => k b o (fun h => (hw b h).2.2.2.2 o xs n e d) e
  have reads : ∀ y w, Reads X.env s.heap y w → Reads X.env h' y w := fun y w hr => by
    rcases hr with ⟨a1, m, a2, a3⟩ | ⟨a1, c, a2, a3⟩
    · exact .inl ⟨a1, m, a2.at' fun o e => k _ o (fun h => (hw _ h).2.1 rfl) e, a3⟩
    · obtain ⟨o, e1, e2⟩ := a3
      exact .inr ⟨a1, c, a2, o, k _ o (fun h => (hw _ h).2.2.1 y c a2 rfl) e1, e2⟩
  refine ⟨g.kind, g.glob, g.blt, g.uniq, g.names, g.apart, g.fx, ?_, ?_, fun b o e => ?_, fun b hb => ?_, g.gok, Nat.lt_of_lt_of_le g.pos ht, fun j d e => ?_, fun j l e => ?_⟩
  · obtain ⟨m, a⟩ := g.ns; exact ⟨m, a.at' fun o e => k _ o (fun h => (hw _ h).2.1 rfl) e⟩
  · intro n c e
    obtain ⟨v, o, e1, e2⟩ := g.cells n c e
    exact ⟨v, o, k _ o (fun h => (hw _ h).2.2.1 n c e rfl) e1, e2⟩
  · exact k b o (fun h => by rw [(hw b h).1] at e; cases e) (g.keep _ _ e)
  · obtain ⟨o, e⟩ := g.low b hb
    exact ⟨o, k b o (fun h => (hw b h).2.2.2.1 hb) e⟩
  · obtain ⟨x, kk, v, h1, h2, h3⟩ := g.vars j d e
    exact ⟨x, kk, v, h1, reads _ _ h2, Rep.up kp _ _ h3⟩
  · obtain ⟨x, kk, vs, h1, h2, ⟨n, h3⟩, h4, h5⟩ := g.owns j l e
    exact ⟨x, kk, vs, h1, reads _ _ h2, ⟨n, k _ _ (fun h => (hw _ h).2.2.2.2 _ _ n h3 rfl) h3⟩, Reps.up kp _ _ h4, h5⟩

theorem XS.forG {target iter : PySem.Expr} {body : List Stmt} {p' : Pos} {ds : List D} {tgt : D → Gam → Gam} (hit : It X Γ target iter ds false) (hF : ForJ X tgt body Φ ds Γ)
    (htg : ∀ (d : D) (Γ' : Gam) (A : Around) (s : Shared) (ad : Nat → Addr) (v : Value) (Q : Unit → Shared → Prop) (E : Value → Shared → Prop), d ∈ ds → FnX X → Room X.k A → Gd X ad Γ' s → Rep (X.ban ad Γ') s.heap d v →
      (∀ s', Mv X (fun _ => False) s s' → Gd X ad (tgt d Γ') s' → Q () s') → wpAny (model X.G.prog X.G.w) A (assign target X.env v) Q E s)
    (how : ∀ d Γ' ad a, ow ad (tgt d Γ') a → ow ad Γ' a)
    (hs : ∀ x, foldedSetIterable iter X.env x = pure x := by intro _; rfl) : XS X Γ (.For target iter body [] p') Φ := fun fx A s ad Q E hr g hq => by
  refine wpAny_For (hit A s ad _ E hr g fun s1 I fp wr St R => ?_) hs
  have g1 := g.up R.hst
  have hwS : ∀ b ∈ wr, ∀ s' ad' Γ', Gd X ad' Γ' s' → (∀ o xs n, s'.heap.get? b = some o → o.data ≠ .seq xs n) → X.h₀.get? b = none ∧ b ≠ X.env.locals ∧ (∀ n c, X.env.cells.lookup n = some c → b ≠ c) ∧ ¬ X.B b ∧ ∀ o xs n, s'.heap.get? b = some o → o.data ≠ .seq xs n := fun b hb s' ad' Γ' g' hns => by
    have h0 := R.hwr b hb
    obtain ⟨_, p1, p2, _⟩ := R.hfp b (R.sub b hb)
    refine ⟨?_, p1, p2, fun h => ?_, hns⟩
    · cases e : X.h₀.get? b with
      | none => rfl
      | some o => have := g.keep _ _ e; rw [h0] at this; cases this
    · obtain ⟨o, e⟩ := g.low b h; rw [h0] at e; cases e
  refine codeAny_forLoop_any (fun n s' => ∃ j ad' Γ', n = ds.length - j ∧ j ≤ ds.length ∧ St j s'.heap ∧ Gd X ad' Γ' s' ∧ Mv X (fun b => ow ad Γ b ∨ b ∈ wr) s1 s' ∧ Fresh (ow ad Γ) s1 ad' Γ' ∧ ForJ X tgt body Φ (ds.drop j) Γ') ?_ ds.length
    ⟨0, ad, Γ, rfl, Nat.zero_le _, R.hst0, g1, Mv.refl s1, Fresh.refl, hF⟩
  rintro n s' ⟨j, ad', Γ', rfl, hj, hst, g', mv, fr, hF'⟩
  have final : ∀ {s3 : Shared} , Mv X (fun b => ow ad Γ b ∨ b ∈ wr) s1 s3 → Mv X (ow ad Γ) s s3 := fun {s3} m => ⟨R.hst.sr.trans m.1, fun b o e p1 p2 p3 => m.2 b o (R.hst.kp _ _ e) p1 p2 fun q => q.elim p3 fun q => by rw [R.hwr b q] at e; cases e⟩
  have finalF : ∀ {ad3 Γ3}, Fresh (ow ad Γ) s1 ad3 Γ3 → Fresh (ow ad Γ) s ad3 Γ3 := fun {ad3 Γ3} f a h => (f a h).imp id fun q => step_none R.hst q
  have nst : ∀ b ∈ wr, ∀ o xs n, s'.heap.get? b = some o → o.data ≠ .seq xs n := fun b hb o xs n e => R.hns rfl j _ b o xs n hst hb e
  by_cases hlt : j < ds.length
  · obtain ⟨d, hd⟩ : ∃ d, ds[j]? = some d := ⟨ds[j], List.getElem?_eq_getElem hlt⟩
    have hd' : ds.drop j = d :: ds.drop (j + 1) := by
      rw [List.drop_eq_getElem_cons hlt]
      rw [List.getElem?_eq_getElem hlt] at hd
      rw [Option.some.inj hd]
    rw [hd'] at hF'
    simp only [ForJ] at hF'
    refine R.pull j s' _ _ d hd hst (fun b o xs n q _ e dd => ?_) fun v h1 tk htk hgo => ?_
    · obtain ⟨p1, p2⟩ := g1.seq_off e dd
      refine mv.2 b o e p1 p2 fun z => z.elim (fun z => q (.inr z)) fun z => ?_
      exact R.hns rfl 0 _ b o xs n R.hst0 z e dd
    refine hgo _ (fun h' hst' hk rd => ?_) _
    have g2 : Gd X ad' Γ' { s' with heap := h', toks := tk } := g'.but hk htk fun b hb => hwS b hb s' ad' Γ' g' (nst b hb)
    have mv2 : Mv X (fun b => ow ad Γ b ∨ b ∈ wr) s1 { s' with heap := h', toks := tk } := ⟨mv.1.trans ⟨h', tk, rfl⟩, fun b o e p1 p2 p3 => hk b o (fun q => p3 (.inr q)) (mv.2 b o e p1 p2 p3)⟩
    -- the item, here
    have rd' : Rep (X.ban ad' Γ') h' d v := Rep.bar (fun b o xs n hb e dd => by
      rcases hb with h | ⟨i, l, hi, rfl⟩
      · exact ⟨g'.low b h, .inl (.inl h)⟩
      · refine ⟨?_, (fr (ad' i) ⟨i, l, hi, rfl⟩).imp (fun h => .inr h) .inl⟩
        obtain ⟨_, _, _, _, _, ⟨n, e⟩, _⟩ := g'.owns i l hi
        exact ⟨_, e⟩) _ _ rd
    refine htg d Γ' A _ ad' v _ _ (List.mem_of_getElem? hd) fx hr g2 rd' fun s3 mv3 g3 => ?_
    have fr3 : Fresh (ow ad Γ) s1 ad' (tgt d Γ') := fun a h => fr a (how _ _ _ _ h)
    have mv3' : Mv X (fun b => ow ad Γ b ∨ b ∈ wr) s1 s3 := mv2.trans' (mv3.weak fun _ h => h.elim)
    refine hF' fx A s3 ad' _ _ hr g3 fun o f s4 ho mv4 sat => ?_
    have mv4' : Mv X (fun b => ow ad Γ b ∨ b ∈ wr) s1 s4 := ⟨mv3'.1.trans mv4.1, fun b o e p1 p2 p3 => mv4.2 b o (mv3'.2 b o e p1 p2 p3) p1 p2 fun z => by
      rcases fr3 b z with z | z
      · exact p3 (.inl z)
      · rw [z] at e; cases e⟩
    have fr4 : ∀ {ad4 : Nat → Addr} {Γ4 : Gam}, Fresh (ow ad' (tgt d Γ')) s3 ad4 Γ4 → Fresh (ow ad Γ) s1 ad4 Γ4 := fun {ad4 Γ4} f a h => by
      rcases f a h with h | h
      · exact fr3 a h
      · cases e : s1.heap.get? a with
        | none => exact .inr rfl
        | some o' =>
          left
          refine Classical.byContradiction fun hW => ?_
          by_cases h1 : a = X.env.locals
          · obtain ⟨m, o2, _, _, e', _⟩ := g3.ns
            rw [← h1, h] at e'; cases e'
          · by_cases h2 : ∀ n c, X.env.cells.lookup n = some c → a ≠ c
            · by_cases h3 : a ∈ wr
              · -- an iterator's place stands
                have hstX : ∃ o2, s3.heap.get? a = some o2 := by
                  have hst3 : St (j + 1) s3.heap := R.frame _ _ _ hst' fun b hb o e => by
                    obtain ⟨⟨o1, e1⟩, p1, p2, p3⟩ := R.hfp b hb
                    exact mv3.2 b o e p1 p2 fun z => z
                  obtain ⟨⟨o1, e1⟩, p1, p2, p3⟩ := R.hfp a (R.sub a h3)
                  exact R.hex (j + 1) s3.heap a hst3 h3
                obtain ⟨o2, e2⟩ := hstX
                rw [h] at e2; cases e2
              · have := mv3'.2 a o' e h1 h2 fun z => z.elim hW h3
                rw [h] at this; cases this
            · apply h2
              intro n c hc hpc
              obtain ⟨v, o2, e', _⟩ := g3.cells n c hc
              rw [← hpc, h] at e'; cases e'
    have st4 : ∀ {ad4 : Nat → Addr} {Γ4 : Gam}, St (j + 1) s4.heap := fun {ad4 Γ4} => R.frame _ _ _ hst' fun b hb o e => by
      obtain ⟨⟨o1, e1⟩, p1, p2, p3⟩ := R.hfp b hb
      refine mv4.2 b o (mv3.2 b o e p1 p2 fun z => z) p1 p2 fun z => ?_
      rcases fr3 b z with z | z
      · exact p3 z
      · rw [z] at e1; cases e1
    cases o with
    | next Γ4 =>
      obtain ⟨rfl, ad4, g4, f4⟩ := sat
      exact ⟨ds.length - (j + 1), by omega, j + 1, ad4, Γ4, rfl, hlt, st4 (ad4 := ad4) (Γ4 := Γ4), g4, mv4', fr4 f4, ho⟩
    | cont Γ4 =>
      obtain ⟨rfl, ad4, g4, f4⟩ := sat
      exact ⟨ds.length - (j + 1), by omega, j + 1, ad4, Γ4, rfl, hlt, st4 (ad4 := ad4) (Γ4 := Γ4), g4, mv4', fr4 f4, ho⟩
    | brk Γ4 =>
      obtain ⟨rfl, ad4, g4, f4⟩ := sat
      exact hq _ _ s4 ho (final mv4') ⟨rfl, ad4, g4, finalF (fr4 f4)⟩
    | ret dd =>
      have := hq _ _ s4 ho (final mv4') sat
      obtain ⟨vv, rfl, _⟩ := sat
      exact this
  · have hj' : j = ds.length := by omega
    subst hj'
    rw [List.drop_length] at hF'
    simp only [ForJ] at hF'
    refine wp_toks (R.done s' _ _ hst fun h' tk hk htk => ?_)
    have g2 : Gd X ad' Γ' { s' with heap := h', toks := tk } := g'.but hk htk fun b hb => hwS b hb s' ad' Γ' g' (nst b hb)
    have mv2 : Mv X (fun b => ow ad Γ b ∨ b ∈ wr) s1 { s' with heap := h', toks := tk } := ⟨mv.1.trans ⟨h', tk, rfl⟩, fun b o e p1 p2 p3 => hk b o (fun q => p3 (.inr q)) (mv.2 b o e p1 p2 p3)⟩
    exact wpAny_execs_nil (hq _ _ _ hF' (final mv2) ⟨rfl, ad', g2, finalF fr⟩)
end
noncomputable abbrev pw : Program := PySem.Challenge.pw_in0030_01

/-- what a call of the text's own def gives -/
noncomputable def Spec (G : Gl) (f : PySem.Str) (k : Nat) (ds : List D) (d : D) : Prop :=
  (∃ df ∈ theDefs G.prog, df.name = f) ∧
  ∀ A s (B : Addr → Prop) Q E vs a, Room k A → GOk G s.heap → 0 < s.toks → G.mg f = some (.ref a) → (∀ b, B b → ∃ o, s.heap.get? b = some o) → Reps B s.heap ds vs →
    (∀ v s', Step s s' → Rep B s'.heap d v → Q v s') → wpAny (model G.prog G.w) A (call (.ref a) vs) Q E s

theorem Spec.le {G : Gl} {f : PySem.Str} {k k' : Nat} {ds : List D} {d : D} (h : Spec G f k ds d) (hk : k ≤ k') : Spec G f k' ds d := ⟨h.1, fun A s B Q E vs a hr => h.2 A s B Q E vs a (hr.le hk)⟩

section
variable {X : Cx} {Γ : Gam}

/-- a call of the text's own def by its name -/
theorem Ev.call {f : PySem.Str} {p pos : Pos} {e : PySem.Expr} {es : List PySem.Expr} {i : Nat} {ds : List D} {d : D} {k : Nat} (hi : X.env.scope.names[i]? = some (f, .globalImplicit)) (hs : EvL X Γ (e :: es) ds) (sp : Spec X.G f k ds d) (hk : k ≤ X.k)
    (hd : (f == ("__debug__" : PySem.Str)) = false) (he : nst e = true := by rfl) : Ev X Γ (.Call (.Name f p) (e :: es) [] pos) d := fun A s ad Q E hr g hq => by
  obtain ⟨⟨df, hdf, rfl⟩, sp⟩ := sp
  obtain ⟨a, fd, o, h1, h2, h3, _⟩ := g.gk.defs df hdf
  refine Call_ (Name_function_global g.kind (g.names i _ _ hi) (loadGlobal_global (mg := X.G.mg) (by rw [g.glob]; exact g.gk.g) h1 ?_) hd) call_name
  refine callWith_def h3 (hs A s ad _ E pos hr g fun vs s1 st r => ⟨st.kp _ _ h2, ?_⟩) (star_cons he)
  have g1 := g.up st
  refine sp A s1 (X.ban ad Γ) Q E vs a (hr.le hk) g1.gk g1.pos h1 (fun b hb => ?_) r fun v s2 st2 r2 => hq v s2 (st.trans st2) r2
  rcases hb with hb | ⟨j, l, hj, rfl⟩
  · exact g1.low b hb
  · obtain ⟨_, _, _, _, _, ⟨n, e⟩, _⟩ := g1.owns j l hj
    exact ⟨_, e⟩
end

noncomputable abbrev fenv (sc : Scope) (L a : Addr) (q : PySem.Str) (cd : Value) : Env :=
  { scope := sc, locals := L, globals := mainGlobals, cells := cellsFrom (L + 1) sc.names [], qual := q, func := some a, code := cd, frame := some L, builtins := builtinsNs }

theorem bindL_keep {kindOf : PySem.Str → Option NameKind} : ∀ (binds : List (PySem.Str × Value)) (m : PySem.Str → Option Value) (x : PySem.Str), x ∉ binds.map (·.1) → bindL kindOf binds m x = m x
  | [], _, _, _ => rfl
  | (n, v) :: r, m, x, h => by
    simp only [List.map_cons, List.mem_cons, not_or] at h
    unfold bindL
    rw [bindL_keep r _ x h.2]
    split
    · exact if_neg h.1
    · rfl
theorem bindC_keep {kindOf : PySem.Str → Option NameKind} : ∀ (binds : List (PySem.Str × Value)) (m : PySem.Str → Option Value) (x : PySem.Str), x ∉ binds.map (·.1) → bindC kindOf binds m x = m x
  | [], _, _, _ => rfl
  | (n, v) :: r, m, x, h => by
    simp only [List.map_cons, List.mem_cons, not_or] at h
    unfold bindC
    rw [bindC_keep r _ x h.2]
    split
    · rfl
    · exact if_neg h.1
theorem bindL_look {kindOf : PySem.Str → Option NameKind} : ∀ (binds : List (PySem.Str × Value)) (m : PySem.Str → Option Value) (x : PySem.Str) (v : Value), (binds.map (·.1)).Nodup → (x, v) ∈ binds → kindOf x = some .local → bindL kindOf binds m x = some v
  | (n, u) :: r, m, x, v, hn, hm, hk => by
    simp only [List.map_cons, List.nodup_cons] at hn
    unfold bindL
    rcases List.mem_cons.mp hm with e | hm
    · cases e
      rw [bindL_keep r _ _ hn.1, if_pos hk, if_pos rfl]
    · exact bindL_look r _ x v hn.2 hm hk
theorem bindC_look {kindOf : PySem.Str → Option NameKind} : ∀ (binds : List (PySem.Str × Value)) (m : PySem.Str → Option Value) (x : PySem.Str) (v : Value), (binds.map (·.1)).Nodup → (x, v) ∈ binds → kindOf x ≠ some .local → bindC kindOf binds m x = some v
  | (n, u) :: r, m, x, v, hn, hm, hk => by
    simp only [List.map_cons, List.nodup_cons] at hn
    unfold bindC
    rcases List.mem_cons.mp hm with e | hm
    · cases e
      rw [bindC_keep r _ _ hn.1, if_neg hk, if_pos rfl]
    · exact bindC_look r _ x v hn.2 hm hk

theorem lookup_nodup {α : Type} : ∀ (l : List (PySem.Str × α)) (i : Nat) (x : PySem.Str) (k : α), (l.map (·.1)).Nodup → l[i]? = some (x, k) → l.lookup x = some k
  | [], i, x, k, _, h => by simp at h
  | (y, j) :: r, i, x, k, hn, h => by
    simp only [List.map_cons, List.nodup_cons] at hn
    cases i with
    | zero => simp at h; obtain ⟨rfl, rfl⟩ := h; simp [List.lookup_cons]
    | succ i =>
      simp at h
      have hm : x ∈ r.map (·.1) := List.mem_map.mpr ⟨(x, k), List.mem_of_getElem? h, rfl⟩
      have hne : (x == y) = false := by
        cases hb : x == y with
        | false => rfl
        | true => exact absurd (beq_iff_eq.mp hb ▸ hm) hn.1
      rw [List.lookup_cons, hne]
      exact lookup_nodup r i x k hn.2 h
theorem uniq_nodup {α : Type} {l : List (PySem.Str × α)} (hn : (l.map (·.1)).Nodup) (i j : Nat) (x : PySem.Str) (k k' : α) (h : l[i]? = some (x, k)) (h' : l[j]? = some (x, k')) : j = i := by
  have h1 : (l.map (·.1))[i]? = some x := by simp [h]
  have h2 : (l.map (·.1))[j]? = some x := by simp [h']
  obtain ⟨a, b⟩ := List.getElem?_eq_some_iff.mp h1
  obtain ⟨c, d⟩ := List.getElem?_eq_some_iff.mp h2
  have hp := List.pairwise_iff_getElem.mp hn
  rcases Nat.lt_trichotomy i j with h | h | h
  · exact absurd (b.trans d.symm) (hp i j a c h)
  · exact h.symm
  · exact absurd (d.trans b.symm) (hp j i c a h)

/-- how arguments become the def's names -/
noncomputable def Binds (df : Df) (xs : List PySem.Str) (ds ds' : List D) : Prop :=
  ∀ (fd : FuncData) (M : Model) (A : Around) (s : Shared) (B : Addr → Prop) (vs : List Value) (E : Value → Shared → Prop) (Q : List (PySem.Str × Value) → Shared → Prop), fd.params = df.params →
    ((df.params.defaults = [] ∧ fd.defaults = .none) ∨ (df.params.defaults ≠ [] ∧ ∃ T ot items n, fd.defaults = .ref T ∧ s.heap.get? T = some ot ∧ ot.data = .seq items n ∧ items.size = df.params.defaults.length)) →
    (∀ b, B b → ∃ o, s.heap.get? b = some o) → Reps B s.heap ds vs → (∀ vs' s', Step s s' → Reps B s'.heap ds' vs' → Q (xs.zip vs') s') → wpAny M A (bindArgs fd ⟨vs, []⟩) Q E s

theorem Spec.intro {G : Gl} {k : Nat} {df : Df} {xs : List PySem.Str} {ds ds' : List D} {d : D} {Γ : Gam} (hdf : df ∈ theDefs G.prog) (hb : Binds df xs ds ds') (hx : xs.length = ds'.length) (hxn : xs.Nodup)
    (hxk : ∀ x ∈ xs, df.scope.names.lookup x = some .local ∨ df.scope.names.lookup x = some .cell) (hnd : (df.scope.names.map (·.1)).Nodup)
    (hΓ : ∀ (i : Nat) e, Γ[i]? = some (some e) → ∃ x k, ∃ (j : Nat) (d : D), e = .v d ∧ df.scope.names[i]? = some (x, k) ∧ xs[j]? = some x ∧ ds'[j]? = some d)
    (walk : ∀ L a q cd B h₀, XJ ⟨G, fenv df.scope L a q cd, B, h₀, k⟩ Γ df.body (fun o => o = .ret d))
    (hco : df.scope.isCoroutine = false := by rfl) (hgen : df.scope.isGenerator = false := by rfl) (hk : df.scope.kind = .function := by rfl) : Spec G df.name (k + 1) ds d := by
  refine ⟨⟨df, hdf, rfl⟩, fun A s B Q E vs a hr gk hpos hmg hB r hq => ?_⟩
  obtain ⟨a', fd, o, e1, e2, e3, e4, e5, e6, e7, e8, e9, e10, e11⟩ := gk.defs df hdf
  rw [hmg] at e1; cases e1
  refine wp_toks (wpAny_call (codeAny_call_function (Nat.lt_of_le_of_lt (Nat.le_add_right _ _) hr.2.1) e2 e3 (by rw [e7]; exact hco) (by rw [e7]; exact hgen) e6 e4 ?_))
  refine hb fd _ _ s B vs _ _ e5 e11 hB r fun vs' s1 st r' => ?_
  have el := Reps.length _ _ r'
  have hbm : (xs.zip vs').map (·.1) = xs := by rw [List.map_fst_zip (by omega)]
  rw [e7, e8, e9, e10]
  refine wp_toks (wpAny_newFunctionEnv_cells hk (fun x hx' => ?_) fun env he s2 x ht2 => ?_)
  · have : x.1 ∈ xs := by have := List.mem_map_of_mem (f := (·.1)) hx'; rwa [hbm] at this
    rcases hxk x.1 this with h | h
    · exact .inl h
    · exact .inr ⟨h, cellsFrom_some _ _ _ (.inl h)⟩
  have gk1 := gk.up st.kp
  refine ⟨(gk1.nolimit).keeps x.toInCall.keep, codeAny_func ?_⟩
  have hE : env = fenv df.scope s1.heap.objs.size a (fd.qualname ++ ".<locals>.") fd.code := he
  let X : Cx := ⟨G, fenv df.scope s1.heap.objs.size a (fd.qualname ++ ".<locals>.") fd.code, B, s1.heap, k⟩
  rw [hE] at x ⊢
  obtain ⟨h', t', hs2⟩ := x.toInCall.same
  have kn : ∀ i y kk, df.scope.names[i]? = some (y, kk) → X.env.kindOf y = some kk := fun i y kk h => lookup_nodup _ i y kk hnd h
  have fx : FnX X := by
    refine ⟨none_of (Nat.le_refl _), fun n c hc => none_of (Nat.le_of_lt (x.above n c (mem_of_lookup hc))), fun y hy hc => ?_⟩
    obtain ⟨i, hi⟩ := List.mem_iff_getElem?.mp hy
    exact cellsFrom_some _ _ _ (.inl (lookup_nodup _ i y.1 .cell hnd (by rw [hi, ← hc])))
  have none_at : ∀ (i : Nat) l, Γ[i]? ≠ some (some (.o l)) := fun i l h => by
    obtain ⟨_, _, _, _, e, _⟩ := hΓ i _ h; cases e
  have ban : ∀ (ad : Nat → Addr) b, X.ban ad Γ b → B b := fun ad b hb => by
    rcases hb with h | ⟨i, l, h, _⟩
    · exact h
    · exact absurd h (none_at i l)
  have g : Gd X (fun _ => 0) Γ s2 := by
    refine ⟨hk, rfl, rfl, fun i j y k1 k2 h1 h2 => uniq_nodup hnd i j y k1 k2 h1 h2, kn, x.apart, fx, ⟨_, x.toInCall.ns⟩, fun n c hc => ⟨_, x.cell n c hc⟩, x.toInCall.keep, fun b hb => ?_, gk1, ?_, fun i dd hi => ?_, fun i l h => absurd h (none_at i l)⟩
    · obtain ⟨o', e⟩ := hB b hb; exact ⟨o', x.toInCall.keep _ _ (st.kp _ _ e)⟩
    · exact Nat.lt_of_lt_of_le hpos (Nat.le_trans st.toks ht2)
    · obtain ⟨y, kk, j, d', e, h1, h2, h3⟩ := hΓ i _ hi
      cases e
      obtain ⟨v, hv, rv⟩ := Reps.get _ _ j _ r' h3
      have hmem : (y, v) ∈ xs.zip vs' := by
        rw [List.mem_iff_getElem?]
        exact ⟨j, by rw [List.getElem?_zip_eq_some]; exact ⟨h2, hv⟩⟩
      have hkk := kn i y kk h1
      refine ⟨y, kk, v, h1, ?_, Rep.bar (fun b _ _ _ hb _ _ => ban _ b hb) _ _ (Rep.up (Kp.s x.toInCall.keep) _ _ rv)⟩
      have hyx : y ∈ xs := List.mem_of_getElem? h2
      rcases hxk y hyx with h | h
      · exact .inl ⟨h, _, x.toInCall.ns, bindL_look _ _ _ _ (by rw [hbm]; exact hxn) hmem h⟩
      · obtain ⟨c, hc⟩ := Option.isSome_iff_exists.mp (cellsFrom_some df.scope.names (s1.heap.objs.size + 1) [] (.inl h))
        refine .inr ⟨.inl h, c, hc, ?_⟩
        have := x.cell y c hc
        rwa [bindC_look _ _ _ _ (by rw [hbm]; exact hxn) hmem (by show df.scope.names.lookup y ≠ _; rw [h]; simp)] at this
  refine walk _ _ _ _ _ _ fx (A.deeper _) s2 (fun _ => 0) _ _ (hr.deeper _) g fun o f s3 ho mv sat => ?_
  subst ho
  obtain ⟨v, rfl, rv, kp⟩ := sat
  intro ht
  obtain ⟨h3, t3, e⟩ := mv.1
  refine hq v s3 ?_ rv
  obtain ⟨h1, t1, e', k1, l1⟩ := st
  subst e' hs2 e
  exact ⟨h3, t3, rfl, k1.trans kp, ht⟩
section
variable {X : Cx} {Γ : Gam}

/-- a built-in's name -/
theorem bi_name {A : Around} {E : Value → Shared → Prop} {s : Shared} {ad : Nat → Addr} {x : PySem.Str} {p : Pos} {i : Nat} {v : Value} {Q : Value → Shared → Prop} (g : Gd X ad Γ s) (hi : X.env.scope.names[i]? = some (x, .globalImplicit)) (hm : x ∈ biNames) (hb : bootBuiltins x = some v)
    (hd : (x == ("__debug__" : PySem.Str)) = false) (h : Q v s) : wpAny (model X.G.prog X.G.w) A (eval (.Name x p) X.env) Q E s :=
  Name_function_global g.kind (g.names i _ _ hi) (loadGlobal_builtin (mg := X.G.mg) (mb := X.G.mb) (by rw [g.glob]; exact g.gk.g) (g.gk.bi x hm).1 (by rw [g.blt]; exact g.gk.b) ((g.gk.bi x hm).2.trans hb) h) hd

/-- a built-in type's name, as data -/
theorem Ev.ty {x : PySem.Str} {p : Pos} {i : Nat} {T : String} (hi : X.env.scope.names[i]? = some (x, .globalImplicit)) (hm : x ∈ biNames) (hb : bootBuiltins x = some (.type T))
    (hd : (x == ("__debug__" : PySem.Str)) = false) : Ev X Γ (.Name x p) (.ty T) := fun A s ad Q E hr g hq => bi_name g hi hm hb hd (hq _ s (Step.refl s) (by simp only [Rep]))

/-- a call of a built-in function, plain arguments -/
theorem Ev.bi {f : PySem.Str} {id : String} {p pos : Pos} {e : PySem.Expr} {es : List PySem.Expr} {i : Nat} {ds : List D} {d : D} (hi : X.env.scope.names[i]? = some (f, .globalImplicit)) (hm : f ∈ biNames) (hb : bootBuiltins f = some (.builtin id))
    (hd : (f == ("__debug__" : PySem.Str)) = false) (hs : EvL X Γ (e :: es) ds)
    (h : ∀ A s ad Q E vs, Room X.k A → Gd X ad Γ s → Reps (X.ban ad Γ) s.heap ds vs → (∀ v s', Step s s' → Rep (X.ban ad Γ) s'.heap d v → Q v s') → wpAny (model X.G.prog X.G.w) A (PySem.call (.builtin id) vs) Q E s)
    (he : nst e = true := by rfl) (hp : es.all nst = true := by rfl) : Ev X Γ (.Call (.Name f p) (e :: es) [] pos) d := fun A s ad Q E hr g hq =>
  Call_ (bi_name g hi hm hb hd (PyProof.Rows.callWith_builtin1 (hs A s ad _ E pos hr g fun vs s1 st r => h A s1 ad Q E vs hr (g.up st) r fun v s2 st2 => hq v s2 (st.trans st2)) (star_cons he) (no_star hp))) call_name
theorem EvO.bi {f : PySem.Str} {id : String} {p pos : Pos} {e : PySem.Expr} {i : Nat} {d0 d : D} (hi : X.env.scope.names[i]? = some (f, .globalImplicit)) (hm : f ∈ biNames) (hb : bootBuiltins f = some (.builtin id))
    (hd : (f == ("__debug__" : PySem.Str)) = false) (hs : EvO X Γ e d0)
    (h : ∀ A s ad Q E v, Room X.k A → Gd X ad Γ s → RepO (X.ban ad Γ) s.heap d0 v → (∀ v s', Step s s' → Rep (X.ban ad Γ) s'.heap d v → Q v s') → wpAny (model X.G.prog X.G.w) A (PySem.call (.builtin id) [v]) Q E s)
    (he : nst e = true := by rfl) : Ev X Γ (.Call (.Name f p) [e] [] pos) d := fun A s ad Q E hr g hq =>
  Call_ (bi_name g hi hm hb hd (PyProof.Rows.callWith_builtin1 (spliced_more (hs A s ad _ E hr g fun v s1 st r => args_nil (h A s1 ad Q E v hr (g.up st) r fun v s2 st2 => hq v s2 (st.trans st2))) (star_cons he)) (star_cons he) rfl)) call_name
/-- a call of a built-in type, plain arguments -/
theorem Ev.biT {f : PySem.Str} {T : String} {p pos : Pos} {e : PySem.Expr} {es : List PySem.Expr} {i : Nat} {ds : List D} {d : D} (hi : X.env.scope.names[i]? = some (f, .globalImplicit)) (hm : f ∈ biNames) (hb : bootBuiltins f = some (.type T))
    (hd : (f == ("__debug__" : PySem.Str)) = false) (hs : EvL X Γ (e :: es) ds)
    (h : ∀ A s ad Q E vs, Room X.k A → Gd X ad Γ s → Reps (X.ban ad Γ) s.heap ds vs → (∀ v s', Step s s' → Rep (X.ban ad Γ) s'.heap d v → Q v s') → wpAny (model X.G.prog X.G.w) A (PySem.call (.type T) vs) Q E s)
    (he : nst e = true := by rfl) (hp : es.all nst = true := by rfl) : Ev X Γ (.Call (.Name f p) (e :: es) [] pos) d := fun A s ad Q E hr g hq =>
  Call_ (bi_name g hi hm hb hd (PyProof.Rows.callWith_type1 (hs A s ad _ E pos hr g fun vs s1 st r => h A s1 ad Q E vs hr (g.up st) r fun v s2 st2 => hq v s2 (st.trans st2)) (star_cons he) (no_star hp))) call_name

theorem reps1 {B : Addr → Prop} {h : Heap} {d : D} {vs : List Value} (r : Reps B h [d] vs) : ∃ v, vs = [v] ∧ Rep B h d v := by
  simp only [Reps] at r
  obtain ⟨v, q, rfl, h1, rfl⟩ := r
  exact ⟨v, rfl, h1⟩
theorem reps2 {B : Addr → Prop} {h : Heap} {d e : D} {vs : List Value} (r : Reps B h [d, e] vs) : ∃ v u, vs = [v, u] ∧ Rep B h d v ∧ Rep B h e u := by
  simp only [Reps] at r
  obtain ⟨v, q, rfl, h1, u, q2, rfl, h2, rfl⟩ := r
  exact ⟨v, u, rfl, h1, h2⟩
theorem reps3 {B : Addr → Prop} {h : Heap} {d e f : D} {vs : List Value} (r : Reps B h [d, e, f] vs) : ∃ v u t, vs = [v, u, t] ∧ Rep B h d v ∧ Rep B h e u ∧ Rep B h f t := by
  simp only [Reps] at r
  obtain ⟨v, q, rfl, h1, u, q2, rfl, h2, t, q3, rfl, h3, rfl⟩ := r
  exact ⟨v, u, t, rfl, h1, h2, h3⟩

theorem Ev.lenL {p pos : Pos} {e : PySem.Expr} {i : Nat} {l : List D} (hi : X.env.scope.names[i]? = some (("len" : PySem.Str), .globalImplicit)) (hs : EvO X Γ e (.lst l))
    (he : nst e = true := by rfl) : Ev X Γ (.Call (.Name "len" p) [e] [] pos) (.int l.length) :=
  EvO.bi hi (by decide +kernel) PyProof.Rows.Boot.«len» (by decide) hs (fun A s ad Q E v hr g r hq => by
    simp only [RepO] at r
    obtain ⟨a, vs, rfl, h1, h2, hz⟩ := r
    have el := Reps.length _ _ h2
    refine call_len_list h1 (by rw [List.size_toArray, el]; omega) ?_
    rw [List.size_toArray, el]
    exact hq _ _ (step_toks (by omega)) (by simp only [Rep]; exact ⟨_, rfl⟩)) he
theorem Ev.lenS {p pos : Pos} {e : PySem.Expr} {i : Nat} {x : List Nat} (hi : X.env.scope.names[i]? = some (("len" : PySem.Str), .globalImplicit)) (hs : Ev X Γ e (.str x))
    (he : nst e = true := by rfl) : Ev X Γ (.Call (.Name "len" p) [e] [] pos) (.int x.length) :=
  EvO.bi hi (by decide +kernel) PyProof.Rows.Boot.«len» (by decide) hs.o (fun A s ad Q E v hr g r hq => by
    simp only [RepO, Rep] at r
    obtain ⟨t, rfl, hz⟩ := r
    refine PyProof.Rows.len_str (by rw [S_length]; omega) ?_
    rw [S_length]
    exact hq _ _ (step_toks (by omega)) (by simp only [Rep]; exact ⟨_, rfl⟩)) he

/-- isinstance(text, bytes) -/
theorem Ev.isBytes {p p2 pos : Pos} {e : PySem.Expr} {i j : Nat} {x : List Nat} (hi : X.env.scope.names[i]? = some (("isinstance" : PySem.Str), .globalImplicit)) (hj : X.env.scope.names[j]? = some (("bytes" : PySem.Str), .globalImplicit)) (hs : Ev X Γ e (.str x))
    (he : nst e = true := by rfl) : Ev X Γ (.Call (.Name "isinstance" p) [e, .Name "bytes" p2] [] pos) (.bool false) :=
  Ev.bi hi (by decide +kernel) PyProof.Rows.Boot.«isinstance» (by decide) (EvL.cons hs (EvL.cons (Ev.ty hj (by decide +kernel) PyProof.Rows.Boot.«bytes» (by decide)) EvL.nil) he) (fun A s ad Q E vs hr g r hq => by
    obtain ⟨v, u, rfl, r1, r2⟩ := reps2 r
    simp only [Rep] at r1 r2
    obtain ⟨t, rfl, _⟩ := r1
    subst r2
    exact IsiPair.str_bytes (hq _ _ (step_toks (by omega)) (by simp only [Rep]))) he

theorem Ev.typeS {p pos : Pos} {e : PySem.Expr} {i : Nat} {x : List Nat} (hi : X.env.scope.names[i]? = some (("type" : PySem.Str), .globalImplicit)) (hs : Ev X Γ e (.str x))
    (he : nst e = true := by rfl) : Ev X Γ (.Call (.Name "type" p) [e] [] pos) (.ty "str") :=
  Ev.biT hi (by decide +kernel) PyProof.Rows.Boot.«type» (by decide) (EvL.cons hs EvL.nil he) (fun A s ad Q E vs hr g r hq => by
    obtain ⟨v, rfl, r1⟩ := reps1 r
    simp only [Rep] at r1
    obtain ⟨t, rfl, _⟩ := r1
    exact call_type_of (typeIs_str _ _ _) (by decide) (hq _ _ (Step.refl s) (by simp only [Rep]))) he

theorem sub_str_str : isSubtype (.type "str") (.type "str") = pure true := by rw [isSubtype_type]; kernel_rfl
end

section
variable {prog : Program} {w : World} {A : Around} {E : Value → Shared → Prop}
theorem issub_nested {s : Shared} {k : Value} {dep : Int} {tk : Tok} {Q : Fin → Shared → Prop} (hk : k = .int dep tk) (hq : Q (.done (.ret (.bool true))) s) :
    wpAny (model prog w) A (Builtin.«issubclass.nested» ⟨[.type "str", .type "str", k], []⟩) Q E s := by
  subst hk
  have hm : (Value.type ((Manifest.find? "str").elim "type" fun x => x.metatype) == Value.type "type") = true := by decide +kernel
  have hself := sub_str_str
  repeat (any_goals (first | assumption | (rw [if_pos hm]) | (rw [hself]) | wp_step))
end
section
variable {prog : Program} {w : World} {A : Around} {E : Value → Shared → Prop}
theorem args_issub_nested_3 (a b c : Value) : argsOk "issubclass.nested" ⟨[a, b, c], []⟩ := by unfold argsOk; kernel_rfl
theorem kind_issub_nested : builtinKind "issubclass.nested" = none := by decide +kernel
theorem plain_issub_nested : plainId "issubclass.nested" = true := by decide +kernel

theorem issub_items {dep : Int} {cs : List Value} {s : Shared} {Q : Option Fin × Unit → Shared → Prop}
    (h : ∀ tk, Q (some (.done (.ret (.bool true))), ()) { s with toks := tk }) :
    wpAny (model prog w) A (forIn (.type "str" :: cs) ((none : Option Fin), ()) fun c _ => do
      if ← truthy (← PySem.call (.builtin "issubclass.nested") [.type "str", c, rawInt (dep + 1)]) then
        let r ← ret (.bool true)
        pure (ForInStep.done (some r, ()))
      else pure (ForInStep.yield (none, ()))) Q E s := by
  rw [List.forIn_cons]
  refine wpAny_bind (wpAny_bind (call_function_meets (S := fun _ R s => R (.ok (.ret (.bool true))) s) kind_issub_nested plain_issub_nested F.entry_issubclass_nested (args_issub_nested_3 _ _ _) (fun prog w A R s hs => issub_nested rfl hs) ?_))
  show wpAny _ _ (truthy (.bool true) >>= _) _ _ _
  exact wpAny_bind (m := truthy (.bool true)) (wpAny_pure (wpAny_bind (wpAny_pure (wpAny_pure (wpAny_pure (h s.toks))))))

theorem issub_tuple {tp : Addr} {cs : List Value} {items : Array Value} {tk : Tok} {s : Shared} {Q : Fin → Shared → Prop} (hit : items.toList = .type "str" :: cs)
    (htp : s.heap.get? tp = some { cls := .type "tuple", data := .seq items })
    (hq : ∀ tk', Q (.done (.ret (.bool true))) { s with toks := tk' }) : wpAny (model prog w) A (Builtin.«issubclass.nested» ⟨[.type "str", .ref tp, .int 0 tk], []⟩) Q E s := by
  obtain ⟨h, g, d, t, os⟩ := s
  have hT2 : (⟨h, g, d, t, os⟩ : Shared).TypeIs (.ref tp) "tuple" := ⟨_, htp, rfl⟩
  have f1 := F.isi_sub_tuple
  repeat (any_goals (first | assumption | wp_step))
  refine wpAny_arrayLoop ?_
  simp only [Option.getD_some, hit]
  refine issub_items (dep := 0) fun tk' => ?_
  repeat (any_goals (first | assumption | wp_step))
  exact hq tk'

theorem call_issub_tuple {tp : Addr} {cs : List Value} {s : Shared} {Q : Value → Shared → Prop}
    (htp : s.heap.get? tp = some { cls := .type "tuple", data := .seq (.type "str" :: cs).toArray })
    (hq : ∀ tk', Q (.bool true) { s with toks := tk' }) : wpAny (model prog w) A (PySem.call (.builtin "issubclass") [.type "str", .ref tp]) Q E s :=
  PyProof.Rows.call_issubclass (S := fun _ R s => s.heap.get? tp = some { cls := .type "tuple", data := .seq (.type "str" :: cs).toArray } ∧ ∀ tk', R (.ok (.ret (.bool true))) { s with toks := tk' })
    (fun _ _ _ _ _ hs => PyProof.Rows.issubclass_outer (issub_tuple (cs := cs) (by simp) hs.1 fun tk' => hs.2 tk')) ⟨htp, hq⟩
end

section
variable {X : Cx} {Γ : Gam}

/-- a tuple written out, the last argument of a built-in -/
theorem bi_tup {f : PySem.Str} {id : String} {p pos p2 : Pos} {e : PySem.Expr} {es : List PySem.Expr} {k i : Nat} {d0 d : D} {ds : List D} (hi : X.env.scope.names[i]? = some (f, .globalImplicit)) (hm : f ∈ biNames) (hb : bootBuiltins f = some (.builtin id))
    (hd : (f == ("__debug__" : PySem.Str)) = false) (h0 : Ev X Γ e d0) (hs : EvL X Γ es ds) (hz : ds.length ≤ 4194304)
    (h : ∀ A s ad Q E v tp vs, Room X.k A → Gd X ad Γ s → Rep (X.ban ad Γ) s.heap d0 v → s.heap.get? tp = some { cls := .type "tuple", data := .seq (List.toArray vs) } → Reps (X.ban ad Γ) s.heap ds vs →
      (∀ v s', Step s s' → Rep (X.ban ad Γ) s'.heap d v → Q v s') → wpAny (model X.G.prog X.G.w) A (PySem.call (.builtin id) [v, .ref tp]) Q E s)
    (he : nst e = true := by rfl)
    (he2 : nst (.Tuple es k p2) = true := by rfl) :
    Ev X Γ (.Call (.Name f p) [e, .Tuple es k p2] [] pos) d := fun A s ad Q E hr g hq =>
  Call_ (bi_name g hi hm hb hd (PyProof.Rows.callWith_builtin1 (spliced_more (h0 A s ad _ E hr g fun v s1 st r => spliced_more (Tuple_ (hs A s1 ad _ E p2 hr (g.up st) fun vs s2 st2 r2 => wpAny_newObj_type (args_nil (by
    have g2 := (g.up st).up st2
    refine h A _ ad Q E v _ vs hr (g2.up (step_h kp_push)) (Rep.up (Kp.s (st2.kp.trans kp_push)) _ _ r) (Heap.get?_push_size _ rfl) (Reps.up (Kp.s kp_push) _ _ r2) fun v s' st3 r3 => hq v s' ((st.trans st2).trans ((step_h kp_push).trans st3)) r3))
    (by show (List.toArray vs).size ≤ sizeLine; rw [List.size_toArray, Reps.length _ _ r2, sizeLine_eq]; omega))) (star_cons he2)) (star_cons he)) (star_cons he) rfl)) call_name

/-- issubclass(str, (str, ..)) -/
theorem Ev.issub {p pos p2 : Pos} {e e1 e2 : PySem.Expr} {k i : Nat} {T : String} (hi : X.env.scope.names[i]? = some (("issubclass" : PySem.Str), .globalImplicit)) (h0 : Ev X Γ e (.ty "str")) (h1 : Ev X Γ e1 (.ty "str")) (h2 : Ev X Γ e2 (.ty T))
    (he : nst e = true := by rfl) (q1 : nst e1 = true := by rfl) (q2 : nst e2 = true := by rfl) :
    Ev X Γ (.Call (.Name "issubclass" p) [e, .Tuple [e1, e2] k p2] [] pos) (.bool true) :=
  bi_tup hi (by decide +kernel) PyProof.Rows.Boot.«issubclass» (by decide) h0 (EvL.cons h1 (EvL.cons h2 EvL.nil q2) q1) (Nat.le_of_ble_eq_true rfl) (fun A s ad Q E v tp vs hr g r ht rs hq => by
    obtain ⟨v1, v2, rfl, r1, r2⟩ := reps2 rs
    simp only [Rep] at r r1
    subst r r1
    exact wp_toks (call_issub_tuple ht fun tk' htk => hq _ _ (step_toks htk) (by simp only [Rep]))) he

/-- isinstance(list, (list, tuple)) -/
theorem Ev.isSeq {p pos p2 : Pos} {e e1 e2 : PySem.Expr} {k i : Nat} {l : List D} (hi : X.env.scope.names[i]? = some (("isinstance" : PySem.Str), .globalImplicit)) (h0 : Ev X Γ e (.lst l)) (h1 : Ev X Γ e1 (.ty "list")) (h2 : Ev X Γ e2 (.ty "tuple"))
    (he : nst e = true := by rfl) (q1 : nst e1 = true := by rfl) (q2 : nst e2 = true := by rfl) :
    Ev X Γ (.Call (.Name "isinstance" p) [e, .Tuple [e1, e2] k p2] [] pos) (.bool true) :=
  bi_tup hi (by decide +kernel) PyProof.Rows.Boot.«isinstance» (by decide) h0 (EvL.cons h1 (EvL.cons h2 EvL.nil q2) q1) (Nat.le_of_ble_eq_true rfl) (fun A s ad Q E v tp vs hr g r ht rs hq => by
    obtain ⟨v1, v2, rfl, r1, r2⟩ := reps2 rs
    simp only [Rep] at r r1 r2
    subst r1 r2
    obtain ⟨a, ws, rfl, _, hl, _⟩ := r
    exact wp_toks (IsiPair.tupleOfB (Tx := "list") (vs := [true, false]) (AnswersAll.cons (Answers.of_true F.isi_meta_list F.sub_list_list) (AnswersAll.cons (Answers.of_false_list (by decide) F.isi_meta_tuple F.sub_list_tuple) AnswersAll.nil)) hl.typeIs ht (b := true) rfl fun tk' htk => hq _ _ (step_toks htk) (by simp only [Rep]))) he
end
noncomputable def dfAt (i : Nat) : Df := match (theDefs pw)[i]? with
  | some d => d
  | none => ⟨"", ⟨[], [], none, [], [], none, []⟩, [], { kind := .function, names := [], isGenerator := false, isCoroutine := false }⟩

theorem theDefs_len : (theDefs pw).length = 37 := by decide +kernel
theorem dfAt_mem {i : Nat} (h : i < 37) : dfAt i ∈ theDefs pw := by
  unfold dfAt
  rw [List.getElem?_eq_getElem (by rw [theDefs_len]; exact h)]
  exact List.getElem_mem _

structure GP (G : Gl) : Prop where
  prog : G.prog = pw

theorem GP.mem {G : Gl} (h : GP G) {i : Nat} (hi : i < 37) : dfAt i ∈ theDefs G.prog := by rw [h.prog]; exact dfAt_mem hi

noncomputable abbrev cx (G : Gl) (k i : Nat) (L a : Addr) (q : PySem.Str) (cd : Value) (B : Addr → Prop) (h₀ : Heap) : Cx := ⟨G, fenv (dfAt i).scope L a q cd, B, h₀, k⟩
section
open PySem PySem.W PyProof.Rows PySem.Calls PySem.Builtin.Str

/-- where one sign stands -/
noncomputable def idx (c : Nat) : List Nat → List Nat
  | [] => []
  | a :: r => if a = c then 0 :: (idx c r).map (· + 1) else (idx c r).map (· + 1)
noncomputable def splt (c : Nat) : List Nat → List (List Nat)
  | [] => [[]]
  | a :: r => if a = c then [] :: splt c r else match splt c r with | p :: ps => (a :: p) :: ps | [] => [[a]]
noncomputable def jn (sep : List Nat) : List (List Nat) → List Nat
  | [] => []
  | [p] => p
  | p :: q :: r => p ++ sep ++ jn sep (q :: r)
noncomputable def rp (c : Nat) (z : List Nat) (x : List Nat) : List Nat := x.flatMap fun a => if a = c then z else [a]

theorem cps_S (x : List Nat) : (S x).cps.toList = x := by simp [S]
theorem L_append (a b : PySem.Str) : L (a ++ b) = L a ++ L b := by show (a.cps ++ b.cps).toList = _; simp [L]
theorem L_join (sep : PySem.Str) : ∀ ps : List PySem.Str, L (PySem.Str.join sep ps) = jn (L sep) (ps.map L)
  | [] => rfl
  | [p] => rfl
  | p :: q :: r => by
    have := L_join sep (q :: r)
    show L (p ++ sep ++ PySem.Str.join sep (q :: r)) = _
    rw [L_append, L_append, this]; rfl
theorem splt_ne (c : Nat) (x : List Nat) : splt c x ≠ [] := by
  cases x with
  | nil => simp [splt]
  | cons a r => unfold splt; split <;> try simp
                split <;> simp
theorem splt_free {c : Nat} : ∀ {x : List Nat}, c ∉ x → splt c x = [x]
  | [], _ => rfl
  | a :: r, h => by
    simp only [List.mem_cons, not_or] at h
    unfold splt
    rw [if_neg (fun e => h.1 e.symm), splt_free h.2]
theorem splt_cut {c : Nat} : ∀ {p : List Nat} (r : List Nat), c ∉ p → splt c (p ++ c :: r) = p :: splt c r
  | [], r, _ => by simp [splt]
  | a :: p, r, h => by
    simp only [List.mem_cons, not_or] at h
    rw [List.cons_append, splt, if_neg (fun e => h.1 e.symm), splt_cut r h.2]
theorem splt_jn {c : Nat} : ∀ {ps : List (List Nat)}, ps ≠ [] → (∀ p ∈ ps, c ∉ p) → splt c (jn [c] ps) = ps
  | [], h, _ => absurd rfl h
  | [p], _, h => splt_free (h p (List.mem_cons_self ..))
  | p :: q :: r, _, h => by
    show splt c (p ++ [c] ++ jn [c] (q :: r)) = _
    rw [List.append_assoc, List.singleton_append, splt_cut _ (h p (List.mem_cons_self ..)), splt_jn (by simp) (fun z hz => h z (List.mem_cons_of_mem _ hz))]
theorem jn_splt (c : Nat) : ∀ x : List Nat, jn [c] (splt c x) = x
  | [] => rfl
  | a :: r => by
    have ih := jn_splt c r
    unfold splt
    split
    · rename_i h
      subst h
      cases e : splt a r with
      | nil => exact absurd e (splt_ne a r)
      | cons p ps => rw [e] at ih; show [] ++ [a] ++ jn [a] (p :: ps) = _; rw [ih]; rfl
    · split
      · rename_i h p ps e
        rw [e] at ih
        cases ps with
        | nil => show a :: p = _; rw [show p = r from ih]
        | cons q qs => show a :: (p ++ [c] ++ jn [c] (q :: qs)) = _; rw [show p ++ [c] ++ jn [c] (q :: qs) = r from ih]
      · rename_i e; exact absurd e (splt_ne c r)
theorem splt_mem {c : Nat} : ∀ {x : List Nat} {p : List Nat}, p ∈ splt c x → c ∉ p
  | [], p, h => by simp [splt] at h; subst h; simp
  | a :: r, p, h => by
    unfold splt at h
    split at h
    · rcases List.mem_cons.mp h with rfl | h
      · simp
      · exact splt_mem h
    · rename_i hac
      split at h
      · rename_i q ps e
        rcases List.mem_cons.mp h with rfl | h
        · have := splt_mem (c := c) (x := r) (p := q) (by rw [e]; exact List.mem_cons_self ..)
          simp only [List.mem_cons, not_or]; exact ⟨fun e => hac e.symm, this⟩
        · exact splt_mem (x := r) (by rw [e]; exact List.mem_cons_of_mem _ h)
      · rename_i e; exact absurd e (splt_ne c r)

theorem txt_split_ne (x y : PySem.Str) : Txt.split x y ≠ [] := by
  unfold Txt.split
  split
  · simp
  · split
    · simp
    · rw [StrLaws.partsBetween_eq]
      obtain ⟨p, r, e⟩ := StrLaws.partsFrom_ne x y.length 0 (occurrences x y 0 x.length (x.length + 1))
      rw [e]; simp
theorem txt_split (x : List Nat) (c : Nat) : (Txt.split (S x) (S [c])).map L = splt c x := by
  have h1 := congrArg L (StrLaws.join_split (S x) (S [c]))
  rw [L_join, L_S, L_S] at h1
  have h2 : ∀ p ∈ (Txt.split (S x) (S [c])).map L, c ∉ p := fun p hp => by
    obtain ⟨q, hq, rfl⟩ := List.mem_map.mp hp
    exact StrLaws.split_free (S x) c q hq
  have h3 : (Txt.split (S x) (S [c])).map L ≠ [] := fun e => txt_split_ne _ _ (List.map_eq_nil_iff.mp e)
  rw [← splt_jn h3 h2, h1]
theorem txt_join (sep : List Nat) (ps : List (List Nat)) : Txt.join (S sep) (ps.map S) = S (jn sep ps) := by
  have : L (Txt.join (S sep) (ps.map S)) = jn sep ps := by
    show L (glued (S sep) (ps.map S)) = _
    rw [StrLaws.glued_eq_join, L_join, L_S, List.map_map]
    congr 1
    rw [show L ∘ S = id from funext L_S, List.map_id]
  rw [← this, S_L]
theorem jn_rp (c : Nat) (z : List Nat) : ∀ x : List Nat, jn z (splt c x) = rp c z x
  | [] => rfl
  | a :: r => by
    have ih := jn_rp c z r
    unfold splt
    unfold rp at ih ⊢
    rw [List.flatMap_cons]
    split
    · cases e : splt c r with
      | nil => exact absurd e (splt_ne c r)
      | cons p ps => rw [e] at ih; show [] ++ z ++ jn z (p :: ps) = _; rw [ih]; rfl
    · split
      · rename_i h p ps e
        rw [e] at ih
        cases ps with
        | nil => show a :: p = _; rw [show p = _ from ih]; rfl
        | cons q qs => show (a :: p) ++ z ++ jn z (q :: qs) = _; rw [← ih]; simp [jn]
      · rename_i e; exact absurd e (splt_ne c r)
theorem txt_replace (x z : List Nat) (c : Nat) : Txt.replace (S x) (S [c]) (S z) = S (rp c z x) := by
  have : L (Txt.replace (S x) (S [c]) (S z)) = rp c z x := by
    rw [show S [c] = (⟨#[c]⟩ : PySem.Str) from rfl, StrLaws.replace_one, L_join, L_S]
    rw [show (⟨#[c]⟩ : PySem.Str) = S [c] from rfl, txt_split, jn_rp]
  rw [← this, S_L]
theorem rp_free {c : Nat} {z : List Nat} {x : List Nat} (h : c ∉ x) : rp c z x = x := by
  rw [← jn_rp, splt_free h]; rfl
theorem txt_contains (x : List Nat) (c : Nat) : Txt.contains (S x) (S [c]) = decide (c ∈ x) := by
  have := StrLaws.found_one (S x) c
  rw [cps_S] at this
  exact this

theorem occ_loop (x : List Nat) (c k : Nat) : ∀ (m i : Nat) (acc : Array Nat) (free : Nat), i + m = x.length + 1 → free ≤ i →
    (forIn (List.range' i m) (acc, free) (StrLaws.occBody (S x) (S [c]) x.length k)).run.fst.toList = acc.toList ++ (((idx c (x.drop i)).map (· + i)).take (k - acc.size))
  | 0, i, acc, free, h, hf => by
    have : x.drop i = [] := List.drop_eq_nil_of_le (by omega)
    rw [this]; simp [idx]
  | m + 1, i, acc, free, h, hf => by
    rw [List.range'_succ, List.forIn_cons]
    unfold StrLaws.occBody
    have key := StrLaws.subAt_one (S x) c i
    rw [cps_S] at key
    have key : (i + 1 ≤ x.length ∧ subAt (S x) (S [c]) i = true) ↔ x[i]? = some c := by rw [← key, S_length]; rfl
    by_cases hi : i < x.length
    · have hd : x.drop i = x[i] :: x.drop (i + 1) := List.drop_eq_getElem_cons hi
      by_cases hc : x[i] = c
      · by_cases hk : acc.size < k
        · have hk2 := key.mpr (by rw [List.getElem?_eq_getElem hi, hc])
          rw [if_pos ⟨⟨⟨hk, hf⟩, hk2.1⟩, hk2.2⟩]
          refine (occ_loop x c k m (i + 1) (acc.push i) (i + 1) (by omega) (Nat.le_refl _)).trans ?_
          rw [hd]
          simp only [idx, if_pos hc]
          obtain ⟨q, hq⟩ : ∃ q, k - acc.size = q + 1 := ⟨k - acc.size - 1, by omega⟩
          have hq2 : k - (acc.push i).size = q := by simp; omega
          rw [hq, hq2]
          simp [Function.comp_def]
          congr 2
          funext a
          show _ = _
          omega
        · rw [if_neg (fun h => hk h.1.1.1)]
          refine (occ_loop x c k m (i + 1) acc free (by omega) (by omega)).trans ?_
          have : k - acc.size = 0 := by omega
          rw [this]; simp
      · rw [if_neg (fun h => hc (by have := key.mp ⟨h.1.2, h.2⟩; rw [List.getElem?_eq_getElem hi] at this; exact Option.some.inj this))]
        refine (occ_loop x c k m (i + 1) acc free (by omega) (by omega)).trans ?_
        rw [hd]
        simp only [idx, if_neg hc]
        simp [Function.comp_def]
        congr 2
        funext a; omega
    · rw [if_neg (fun h => by have := h.1.2; have : i + 1 ≤ x.length := this; omega)]
      refine (occ_loop x c k m (i + 1) acc free (by omega) (by omega)).trans ?_
      rw [List.drop_eq_nil_of_le (by omega), List.drop_eq_nil_of_le (by omega)]
      simp [idx]

theorem occ_one (x : List Nat) (c k : Nat) : occurrences (S x) (S [c]) 0 (S x).length k = (idx c x).take k := by
  rw [S_length, StrLaws.occ_eq]
  have := occ_loop x c k (x.length + 1) 0 #[] 0 (by omega) (Nat.le_refl _)
  simpa using this

theorem idx_cut {c : Nat} : ∀ {p : List Nat} (r : List Nat), c ∉ p → idx c (p ++ c :: r) = p.length :: (idx c r).map (· + (p.length + 1))
  | [], r, _ => by simp [idx]
  | a :: p, r, h => by
    simp only [List.mem_cons, not_or] at h
    rw [List.cons_append]
    rw [idx, if_neg (fun e => h.1 e.symm), idx_cut r h.2]
    simp [Function.comp_def]
    intro a _; omega
theorem idx_free {c : Nat} : ∀ {x : List Nat}, c ∉ x → idx c x = []
  | [], _ => rfl
  | a :: r, h => by
    simp only [List.mem_cons, not_or] at h
    unfold idx
    rw [if_neg (fun e => h.1 e.symm), idx_free h.2]; rfl

theorem strSub_L (x : List Nat) (i j : Nat) : strSub (S x) i j = S ((x.drop i).take (j - i)) := by
  have := StrLaws.strSub_toList (S x) i j
  rw [cps_S] at this
  rw [← S_L (strSub (S x) i j)]
  congr 1

/-- text.partition(sign) -/
theorem part_cut {c : Nat} {p : List Nat} (r : List Nat) (h : c ∉ p) : Txt.partition (S (p ++ c :: r)) (S [c]) = (S p, S [c], S r) := by
  unfold Txt.partition
  rw [occ_one, idx_cut r h]
  simp only [List.take_succ_cons, strSub_L, S_length]
  congr 2
  · simp
  · congr 1
    simp only [List.length_append, List.length_cons]
    have e1 : (p ++ c :: r).drop (p.length + ([] : List Nat).length.succ) = r := by
      have : p ++ c :: r = (p ++ [c]) ++ r := by simp
      rw [this]; exact List.drop_left' (by simp)
    exact (congrArg _ e1).trans (List.take_of_length_le (by simp; omega))
theorem part_free {c : Nat} {x : List Nat} (h : c ∉ x) : Txt.partition (S x) (S [c]) = (S x, S [], S []) := by
  unfold Txt.partition
  rw [occ_one, idx_free h]
  rfl
end
section
open PySem PySem.W PyProof.Rows PySem.Calls PySem.Builtin.Str

noncomputable def dropR (c : Nat) (x : List Nat) : List Nat := (x.reverse.dropWhile (· == c)).reverse
noncomputable def dropL (c : Nat) (x : List Nat) : List Nat := x.dropWhile (· == c)
/-- how many signs up to the last c, it among them -/
noncomputable def lastAt (c : Nat) (x : List Nat) : Nat := (x.reverse.dropWhile (· != c)).length

theorem txt_startswith (x : List Nat) (c : Nat) : Txt.startswith (S x) (S [c]) = (x.head? == some c) := by
  unfold Txt.startswith
  have key := StrLaws.subAt_one (S x) c 0
  rw [cps_S] at key
  rw [Bool.eq_iff_iff]
  simp only [Bool.and_eq_true, decide_eq_true_eq, beq_iff_eq]
  rw [show (0 + (S [c]).length ≤ (S x).length ∧ subAt (S x) (S [c]) 0 = true) ↔ x[0]? = some c from key, List.head?_eq_getElem?]
theorem txt_endswith (x : List Nat) (c : Nat) : Txt.endswith (S x) (S [c]) = (x.getLast? == some c) := by
  unfold Txt.endswith
  have key := StrLaws.subAt_one (S x) c (x.length - 1)
  rw [cps_S] at key
  rw [Bool.eq_iff_iff]
  simp only [Bool.and_eq_true, decide_eq_true_eq, beq_iff_eq]
  rw [List.getLast?_eq_getElem?, ← key, S_length, S_length]
  constructor
  · intro h
    have h1 : 1 ≤ x.length := by simpa using h.1
    exact ⟨by show x.length - 1 + 1 ≤ _; omega, h.2⟩
  · intro h
    have h1 : x.length - 1 + 1 ≤ x.length := h.1
    exact ⟨by show 0 + 1 ≤ _; omega, h.2⟩
theorem txt_rfind (x : List Nat) (c : Nat) : Txt.rfind (S x) (S [c]) + 1 = (lastAt c x : Int) := by
  unfold Txt.rfind
  have key : ∀ i, StrLaws.At (S x) (S [c]) (S x).length i ↔ x[i]? = some c := fun i => by
    have := StrLaws.subAt_one (S x) c i
    rw [cps_S] at this
    exact this
  have hl : ∀ y : List Nat, ((y.dropWhile (· != c)).length = 0 ∧ ∀ i : Nat, y[i]? ≠ some c) ∨ ∃ i, y[i]? = some c ∧ (∀ k, k < i → y[k]? ≠ some c) ∧ (y.dropWhile (· != c)).length = y.length - i := fun y => by
    induction y with
    | nil => left; simp
    | cons a y ih =>
      by_cases h : a = c
      · right; exact ⟨0, by simp [h], fun k hk => absurd hk (Nat.not_lt_zero _), by simp [h]⟩
      · have e : ((a :: y).dropWhile (· != c)) = y.dropWhile (· != c) := by simp [h]
        rw [e]
        rcases ih with ⟨h1, h2⟩ | ⟨i, h1, h2, h3⟩
        · left
          refine ⟨h1, fun i => ?_⟩
          cases i with
          | zero => simp [h]
          | succ i => simpa using h2 i
        · right
          refine ⟨i + 1, by simpa using h1, fun k hk => ?_, by rw [h3]; simp⟩
          cases k with
          | zero => simp [h]
          | succ k => simpa using h2 k (by omega)
  unfold lastAt
  have hr := hl x.reverse
  have get : ∀ j, j < x.length → x.reverse[j]? = x[x.length - 1 - j]? := fun j hj => by rw [List.getElem?_reverse hj]
  rcases StrLaws.last_spec (S x) (S [c]) with ⟨h1, h2⟩ | ⟨i, h1, h2, h3⟩
  · rw [h1]
    rcases hr with ⟨h3, _⟩ | ⟨j, h3, _⟩
    · rw [h3]; rfl
    · have hj : j < x.length := by
        have := List.getElem?_eq_some_iff.mp h3; obtain ⟨q, _⟩ := this; simpa using q
      rw [get j hj] at h3
      exact absurd ((key _).mpr h3) (h2 _)
  · rw [h1]
    have hi := (key i).mp h2
    have hi' : i < x.length := (List.getElem?_eq_some_iff.mp hi).1
    rcases hr with ⟨_, h4⟩ | ⟨j, h4, h5, h6⟩
    · exact absurd (by rw [get _ (by omega), show x.length - 1 - (x.length - 1 - i) = i by omega]; exact hi) (h4 (x.length - 1 - i))
    · have hj : j < x.length := by
        have := List.getElem?_eq_some_iff.mp h4; obtain ⟨q, _⟩ := this; simpa using q
      rw [get j hj] at h4
      have h7 : ¬ i < x.length - 1 - j := fun h => h3 _ h ((key _).mpr h4)
      have h8 : ¬ x.length - 1 - i < j := fun h => h5 _ h (by rw [get _ (by omega), show x.length - 1 - (x.length - 1 - i) = i by omega]; exact hi)
      rw [h6, List.length_reverse]
      show (i : Int) + 1 = _
      omega

theorem strip_eq (goes : Nat → Bool) (l r : Bool) (x : List Nat) : Txt.stripBy goes l r (S x) = PySem.stripped goes l r (S x) := by
  unfold Txt.stripBy
  split
  · rename_i h
    unfold stripSame at h
    simp only [Bool.and_eq_true, beq_iff_eq] at h
    unfold PySem.stripped
    rw [h.2, h.1]
    exact (StrLaws.sub_whole _).symm
  · rfl
theorem take_while_drop (p : Nat → Bool) : ∀ x : List Nat, x.drop (x.takeWhile p).length = x.dropWhile p
  | [] => rfl
  | a :: r => by
    by_cases h : p a = true
    · simp [h, take_while_drop p r]
    · simp [h]
theorem contains_one (c : Nat) : (S [c]).cps.contains = fun a => a == c := by
  funext a
  show (#[c] : Array Nat).contains a = _
  simp
  exact Bool.eq_iff_iff.mpr (by simp)
theorem txt_lstrip (x : List Nat) (c : Nat) : Txt.lstripChars (S x) (S [c]) = S (dropL c x) := by
  unfold Txt.lstripChars
  rw [strip_eq]
  unfold PySem.stripped stripHi stripLo
  simp only [if_true, Bool.false_eq_true, if_false]
  rw [strSub_L, cps_S, contains_one, take_while_drop, S_length]
  congr 1
  unfold dropL
  refine List.take_of_length_le ?_
  rw [← take_while_drop, List.length_drop]
  exact Nat.le_refl _
theorem txt_rstrip (x : List Nat) (c : Nat) : Txt.rstripChars (S x) (S [c]) = S (dropR c x) := by
  unfold Txt.rstripChars
  rw [strip_eq]
  unfold PySem.stripped stripHi stripLo
  simp only [if_true, Bool.false_eq_true, if_false]
  rw [strSub_L, cps_S, contains_one, S_length]
  simp only [List.drop_zero, Nat.sub_zero]
  congr 1
  unfold dropR
  rw [← take_while_drop, List.drop_reverse, List.reverse_reverse]

/-- parts of a text that is split at c four times -/
theorem split_max4 {c : Nat} {p0 p1 p2 p3 : List Nat} (r : List Nat) (hc : c < 256) (h0 : c ∉ p0) (h1 : c ∉ p1) (h2 : c ∉ p2) (h3 : c ∉ p3) :
    Txt.splitMax (S (p0 ++ c :: (p1 ++ c :: (p2 ++ c :: (p3 ++ c :: r))))) (S [c]) 4 = [S p0, S p1, S p2, S p3, S r] := by
  generalize hx : p0 ++ c :: (p1 ++ c :: (p2 ++ c :: (p3 ++ c :: r))) = x
  have hidx : (idx c x).take 4 = [p0.length, p0.length + (p1.length + 1), p0.length + (p1.length + 1) + (p2.length + 1), p0.length + (p1.length + 1) + (p2.length + 1) + (p3.length + 1)] := by
    rw [← hx, idx_cut _ h0, idx_cut _ h1, idx_cut _ h2, idx_cut _ h3]
    simp
    omega
  have hlen : 1 ≤ x.length := by rw [← hx]; simp; omega
  have hkind : ¬ Builtin.Str.strKind (S x) < Builtin.Str.strKind (S [c]) := by
    have : Builtin.Str.strKind (S [c]) = 1 := by
      unfold Builtin.Str.strKind
      rw [if_pos]
      show (#[c] : Array Nat).all _ = true
      simp [hc]
    rw [this]
    unfold Builtin.Str.strKind
    split
    · omega
    · split <;> omega
  unfold Txt.splitMax
  have e1 : (decide ((S x).length < (S [c]).length) || decide (Builtin.Str.strKind (S x) < Builtin.Str.strKind (S [c]))) = false := by
    simp only [Bool.or_eq_false_iff, decide_eq_false_iff_not]
    exact ⟨by rw [S_length]; show ¬ x.length < 1; omega, hkind⟩
  rw [e1, if_neg Bool.false_ne_true]
  have e2 : limitOf (S x) 4 = 4 := rfl
  rw [e2, occ_one, hidx]
  rw [show ([p0.length, p0.length + (p1.length + 1), p0.length + (p1.length + 1) + (p2.length + 1), p0.length + (p1.length + 1) + (p2.length + 1) + (p3.length + 1)] : List Nat).isEmpty = false from rfl, if_neg Bool.false_ne_true]
  rw [StrLaws.partsBetween_eq]
  have e3 : (S [c]).length = 1 := rfl
  simp only [StrLaws.partsFrom, strSub_L, e3, S_length]
  have pick : ∀ (a b m : List Nat) (i j : Nat), i = a.length → j = a.length + b.length → ((a ++ b ++ m).drop i).take (j - i) = b := fun a b m i j hi hj => by
    subst hi hj
    rw [List.append_assoc, List.drop_left, Nat.add_sub_cancel_left, List.take_left]
  have x0 : x = [] ++ p0 ++ (c :: (p1 ++ c :: (p2 ++ c :: (p3 ++ c :: r)))) := by rw [← hx]; simp
  have x1 : x = (p0 ++ [c]) ++ p1 ++ (c :: (p2 ++ c :: (p3 ++ c :: r))) := by rw [← hx]; simp
  have x2 : x = (p0 ++ c :: (p1 ++ [c])) ++ p2 ++ (c :: (p3 ++ c :: r)) := by rw [← hx]; simp
  have x3 : x = (p0 ++ c :: (p1 ++ c :: (p2 ++ [c]))) ++ p3 ++ (c :: r) := by rw [← hx]; simp
  have x4 : x = (p0 ++ c :: (p1 ++ c :: (p2 ++ c :: (p3 ++ [c])))) ++ r ++ [] := by rw [← hx]; simp
  congr 1
  · congr 1
    conv => lhs; rw [x0]
    exact pick _ _ _ _ _ rfl (by simp)
  congr 1
  · congr 1
    conv => lhs; rw [x1]
    exact pick _ _ _ _ _ (by simp) (by simp; omega)
  congr 1
  · congr 1
    conv => lhs; rw [x2]
    exact pick _ _ _ _ _ (by simp; omega) (by simp; omega)
  congr 1
  · congr 1
    conv => lhs; rw [x3]
    exact pick _ _ _ _ _ (by simp; omega) (by simp; omega)
  congr 1
  · congr 1
    have hl : x.length = (p0 ++ c :: (p1 ++ c :: (p2 ++ c :: (p3 ++ [c])))).length + r.length := by rw [x4]; simp; try omega
    generalize x.length = n at hl
    conv => lhs; rw [x4]
    exact pick _ _ _ _ _ (by simp; omega) hl
end
section
open PySem PySem.W PyProof.Rows PySem.Calls PySem.Builtin.Str

theorem splt_len {c : Nat} : ∀ {x : List Nat} {p : List Nat}, p ∈ splt c x → p.length ≤ x.length
  | [], p, h => by simp [splt] at h; subst h; simp
  | a :: r, p, h => by
    unfold splt at h
    split at h
    · rcases List.mem_cons.mp h with rfl | h
      · simp
      · have := splt_len h; simp; omega
    · split at h
      · rename_i q ps e
        rcases List.mem_cons.mp h with rfl | h
        · have := splt_len (c := c) (x := r) (p := q) (by rw [e]; exact List.mem_cons_self ..)
          simp; omega
        · have := splt_len (x := r) (by rw [e]; exact List.mem_cons_of_mem _ h)
          simp; omega
      · rename_i e; exact absurd e (splt_ne c r)
theorem splt_count {c : Nat} : ∀ {x : List Nat}, (splt c x).length ≤ x.length + 1
  | [] => by simp [splt]
  | a :: r => by
    have ih := splt_count (c := c) (x := r)
    unfold splt
    split
    · simp; omega
    · split
      · rename_i q ps e; rw [e] at ih; simp at ih ⊢; omega
      · simp

theorem reps_strs {B : Addr → Prop} {h : Heap} : ∀ (l : List (PySem.Str × Tok)) (ps : List (List Nat)), l.map (·.1) = ps.map S → (∀ p ∈ ps, p.length ≤ 1048576) → Reps B h (ps.map .str) (strValues l)
  | [], [], _, _ => by simp [Reps, strValues]
  | [], _ :: _, e, _ => by simp at e
  | _ :: _, [], e, _ => by simp at e
  | (x, t) :: l, p :: ps, e, hz => by
    simp only [List.map_cons, List.cons.injEq] at e
    simp only [List.map_cons, Reps, Rep, strValues]
    refine ⟨_, _, rfl, ⟨t, by rw [← e.1], hz p (List.mem_cons_self ..)⟩, ?_⟩
    exact reps_strs l ps e.2 fun q hq => hz q (List.mem_cons_of_mem _ hq)
theorem strs_reps {B : Addr → Prop} {h : Heap} : ∀ (ps : List (List Nat)) (vs : List Value), Reps B h (ps.map .str) vs → ∃ l : List (PySem.Str × Tok), strValues l = vs ∧ l.map (·.1) = ps.map S
  | [], vs, r => by simp only [List.map_nil, Reps] at r; subst r; exact ⟨[], rfl, rfl⟩
  | p :: ps, vs, r => by
    simp only [List.map_cons, Reps, Rep] at r
    obtain ⟨v, q, rfl, ⟨t, rfl, _⟩, r2⟩ := r
    obtain ⟨l, rfl, e⟩ := strs_reps ps q r2
    exact ⟨(S p, t) :: l, rfl, by simp [e]⟩

section
variable {prog : Program} {w : World} {A : Around} {E : Value → Shared → Prop} {s : Shared} {Q : Value → Shared → Prop}
theorem split_push {x : List Nat} {c : Nat} {t u : Tok} (hz : x.length ≤ 1048576)
    (hq : ∀ l k, s.toks ≤ k → l.map (·.1) = (splt c x).map S → Q (.ref s.heap.objs.size) { s with heap := s.heap.push { cls := .type "list", data := .seq (strValues l).toArray }, toks := k }) :
    wpAny (model prog w) A (PySem.call (.builtin "str.split") [.str (S x) t, .str (S [c]) u]) Q E s := by
  have hsp : Txt.split (S x) (S [c]) = (splt c x).map S := by
    rw [← txt_split, List.map_map, show S ∘ L = id from funext S_L, List.map_id]
  have hy : ((S [c]).length == 0) = false := rfl
  have hx : (S x).length ≤ sizeLine := by rw [S_length, sizeLine_eq]; omega
  have hn : (partsBetween (S x) (occurrences (S x) (S [c]) 0 (S x).length ((S x).length + 1)) (S [c]).length).length ≤ sizeLine := by
    rw [length_partsBetween]
    have := StrLaws.occ_length_le (S x) (S [c]) 0 (S x).length ((S x).length + 1)
    rw [S_length] at this ⊢
    rw [sizeLine_eq]; omega
  cases h1 : (decide ((S x).length < (S [c]).length) || decide (Builtin.Str.strKind (S x) < Builtin.Str.strKind (S [c])))
  · cases hf : (occurrences (S x) (S [c]) 0 (S x).length ((S x).length + 1)).isEmpty
    · refine call_meets F.slot_str_split (typeIs_str _ _ _) F.entry_str_split (F.args_str_split_2 _ _) (meets_str_split_sep (S x) (S [c]) t u h1 hy hf hx hn) ?_
      show wants Q E _ { s with toks := _, heap := s.heap.push { cls := .type "list", data := .seq (strsFrom s.toks (partsBetween (S x) (occurrences (S x) (S [c]) 0 (S x).length ((S x).length + 1)) (S [c]).length)).toArray } }
      rw [strsFrom_eq]
      exact hq (numbered s.toks _) _ (Nat.le_add_right _ _) ((numbered_texts _ _).trans (hsp ▸ ((if_neg (ne_true_of_eq_false h1)).trans (if_neg (ne_true_of_eq_false hf))).symm))
    · exact call_meets F.slot_str_split (typeIs_str _ _ _) F.entry_str_split (F.args_str_split_2 _ _) (meets_str_split_not_found (S x) (S [c]) t u h1 hy hf)
        (hq [(S x, t)] s.toks (Nat.le_refl _) (hsp ▸ ((if_neg (ne_true_of_eq_false h1)).trans (if_pos hf)).symm))
  · exact call_meets F.slot_str_split (typeIs_str _ _ _) F.entry_str_split (F.args_str_split_2 _ _) (meets_str_split_cannot_occur (S x) (S [c]) t u h1)
      (hq [(S x, t)] s.toks (Nat.le_refl _) (hsp ▸ (if_pos h1).symm))

theorem splitM_push {x y : PySem.Str} {k : Int} {t u v : Tok} {ps : List (List Nat)} (hsp : Txt.splitMax x y k = ps.map S) (hy : (y.length == 0) = false) (hk : (decide (k < -(2 ^ 63 : Int)) || decide (k ≥ 2 ^ 63)) = false) (hsz : x.length + 2 ≤ sizeLine)
    (hq : ∀ l tk, s.toks ≤ tk → l.map (·.1) = ps.map S → Q (.ref s.heap.objs.size) { s with heap := s.heap.push { cls := .type "list", data := .seq (strValues l).toArray }, toks := tk }) :
    wpAny (model prog w) A (PySem.call (.builtin "str.split") [.str x t, .str y u, .int k v]) Q E s := by
  have hn : (partsBetween x (occurrences x y 0 x.length (limitOf x k)) y.length).length ≤ sizeLine := by
    have e1 := StrLaws.occ_length_le_len x y 0 x.length (limitOf x k)
    rw [length_partsBetween]; omega
  cases h1 : (decide (x.length < y.length) || decide (Builtin.Str.strKind x < Builtin.Str.strKind y))
  · cases hf : (occurrences x y 0 x.length (limitOf x k)).isEmpty
    · refine call_meets F.slot_str_split (typeIs_str _ _ _) F.entry_str_split (F.args_str_split_3 _ _ _) (meets_str_split_sep_max x y k t u v hk h1 hy hf (by omega) hn) ?_
      show wants Q E _ { s with toks := _, heap := s.heap.push { cls := .type "list", data := .seq (strsFrom s.toks (partsBetween x (occurrences x y 0 x.length (limitOf x k)) y.length)).toArray } }
      rw [strsFrom_eq]
      exact hq (numbered s.toks _) _ (Nat.le_add_right _ _) ((numbered_texts _ _).trans (hsp ▸ ((if_neg (ne_true_of_eq_false h1)).trans (if_neg (ne_true_of_eq_false hf))).symm))
    · exact call_meets F.slot_str_split (typeIs_str _ _ _) F.entry_str_split (F.args_str_split_3 _ _ _) (meets_str_split_max_not_found x y k t u v hk h1 hy hf)
        (hq [(x, t)] s.toks (Nat.le_refl _) (hsp ▸ ((if_neg (ne_true_of_eq_false h1)).trans (if_pos hf)).symm))
  · exact call_meets F.slot_str_split (typeIs_str _ _ _) F.entry_str_split (F.args_str_split_3 _ _ _) (meets_str_split_max_cannot_occur x y k t u v hk h1)
      (hq [(x, t)] s.toks (Nat.le_refl _) (hsp ▸ (if_pos h1).symm))

theorem partition_push {x y : PySem.Str} {t u : Tok} (hy : (y.length == 0) = false) (hsz : x.length ≤ sizeLine)
    (h : ∀ ta tb tc k, s.toks ≤ k → Q (.ref s.heap.objs.size) { s with heap := s.heap.push { cls := .type "tuple", data := .seq [.str (Txt.partition x y).1 ta, .str (Txt.partition x y).2.1 tb, .str (Txt.partition x y).2.2 tc].toArray }, toks := k }) :
    wpAny (model prog w) A (PySem.call (.builtin "str.partition") [.str x t, .str y u]) Q E s := by
  refine wp_toks (call_meets F.slot_str_partition (typeIs_str _ _ _) F.entry_str_partition (F.args_str_partition_2 _ _) (meets_str_partition x y t u hy hsz) ?_)
  have h' := h
  unfold Txt.partition at h'
  revert h'
  cases occurrences x y 0 x.length 1 with
  | nil => intro h' hk; exact h' _ _ _ _ hk
  | cons i r => intro h' hk; exact h' _ _ _ _ hk
end

section
variable {X : Cx} {Γ : Gam} {Φ : Out → Prop}

/-- a method of a text, with arguments -/
theorem Ev.meth {o e : PySem.Expr} {name : PySem.Str} {id : String} {apos pos : Pos} {es : List PySem.Expr} {x : List Nat} {ds : List D} {d : D} (ho : Ev X Γ o (.str x)) (hf : MForm X o name apos pos (e :: es)) (sl : Slot "str" name id)
    (ty : typeOf (.builtin id) = pure (.type "method_descriptor")) (hs : EvL X Γ (e :: es) ds)
    (h : ∀ A s ad Q E t vs, Room X.k A → Gd X ad Γ s → x.length ≤ 1048576 → Reps (X.ban ad Γ) s.heap ds vs → (∀ v s', Step s s' → Rep (X.ban ad Γ) s'.heap d v → Q v s') → wpAny (model X.G.prog X.G.w) A (PySem.call (.builtin id) (.str (S x) t :: vs)) Q E s)
    (he : nst e = true := by rfl) (hp : es.all nst = true := by rfl) : Ev X Γ (.Call (.Attribute o name apos) (e :: es) [] pos) d := fun A s ad Q E hr g hq => by
  refine wpAny_Call_method hf.all.1 hf.all.2.1 hf.all.2.2 F.plainAttrs_str sl ty (ho A s ad _ E hr g fun v s1 st r => ?_)
  simp only [Rep] at r
  obtain ⟨t, rfl, hz⟩ := r
  refine ⟨typeIs_str _ _ _, fun a e => (nomatch e), callWith_method1 (hs A s1 ad _ E pos hr (g.up st) fun vs s2 st2 r2 => ?_) (star_cons he) (no_star hp)⟩
  exact h A s2 ad Q E t vs hr ((g.up st).up st2) hz r2 fun v s3 st3 => hq v s3 ((st.trans st2).trans st3)

theorem Ev.starts {o e : PySem.Expr} {apos pos : Pos} {x : List Nat} {c : Nat} (ho : Ev X Γ o (.str x)) (hs : Ev X Γ e (.str [c])) (hf : MForm X o "startswith" apos pos [e]) (he : nst e = true := by rfl) :
    Ev X Γ (.Call (.Attribute o "startswith" apos) [e] [] pos) (.bool (x.head? == some c)) :=
  Ev.meth ho hf F.slot_str_startswith F.type_str_startswith (EvL.cons hs EvL.nil he) (fun A s ad Q E t vs hr g hz r hq => by
    obtain ⟨v, rfl, r1⟩ := reps1 r
    simp only [Rep] at r1; obtain ⟨t', rfl, _⟩ := r1
    exact SC.startswith (hq _ s (Step.refl s) (by simp only [Rep]; rw [txt_startswith]))) he
theorem Ev.ends {o e : PySem.Expr} {apos pos : Pos} {x : List Nat} {c : Nat} (ho : Ev X Γ o (.str x)) (hs : Ev X Γ e (.str [c])) (hf : MForm X o "endswith" apos pos [e]) (he : nst e = true := by rfl) :
    Ev X Γ (.Call (.Attribute o "endswith" apos) [e] [] pos) (.bool (x.getLast? == some c)) :=
  Ev.meth ho hf F.slot_str_endswith F.type_str_endswith (EvL.cons hs EvL.nil he) (fun A s ad Q E t vs hr g hz r hq => by
    obtain ⟨v, rfl, r1⟩ := reps1 r
    simp only [Rep] at r1; obtain ⟨t', rfl, _⟩ := r1
    exact SC.endswith (hq _ s (Step.refl s) (by simp only [Rep]; rw [txt_endswith]))) he
theorem Ev.rfind {o e : PySem.Expr} {apos pos : Pos} {x : List Nat} {c : Nat} (ho : Ev X Γ o (.str x)) (hs : Ev X Γ e (.str [c])) (hf : MForm X o "rfind" apos pos [e]) (he : nst e = true := by rfl) :
    Ev X Γ (.Call (.Attribute o "rfind" apos) [e] [] pos) (.int (lastAt c x - 1)) :=
  Ev.meth ho hf F.slot_str_rfind F.type_str_rfind (EvL.cons hs EvL.nil he) (fun A s ad Q E t vs hr g hz r hq => by
    obtain ⟨v, rfl, r1⟩ := reps1 r
    simp only [Rep] at r1; obtain ⟨t', rfl, _⟩ := r1
    exact SC.rfind (hq _ _ (step_toks (Nat.le_succ _)) (by simp only [Rep]; exact ⟨_, by rw [show Txt.rfind (S x) (S [c]) = (lastAt c x : Int) - 1 from by have := txt_rfind x c; omega]⟩))) he
theorem dropL_len (c : Nat) (x : List Nat) : (dropL c x).length ≤ x.length := (List.dropWhile_sublist _).length_le
theorem dropR_len (c : Nat) (x : List Nat) : (dropR c x).length ≤ x.length := by unfold dropR; rw [List.length_reverse]; exact Nat.le_trans (List.dropWhile_sublist _).length_le (by simp)
theorem Ev.lstrip {o e : PySem.Expr} {apos pos : Pos} {x : List Nat} {c : Nat} (ho : Ev X Γ o (.str x)) (hs : Ev X Γ e (.str [c])) (hf : MForm X o "lstrip" apos pos [e]) (he : nst e = true := by rfl) :
    Ev X Γ (.Call (.Attribute o "lstrip" apos) [e] [] pos) (.str (dropL c x)) :=
  Ev.meth ho hf F.slot_str_lstrip F.type_str_lstrip (EvL.cons hs EvL.nil he) (fun A s ad Q E t vs hr g hz r hq => by
    obtain ⟨v, rfl, r1⟩ := reps1 r
    simp only [Rep] at r1; obtain ⟨t', rfl, _⟩ := r1
    exact wp_toks (SC.lstripChars (fun t2 k hk => hq _ _ (step_toks hk) (by simp only [Rep]; exact ⟨_, by rw [txt_lstrip], Nat.le_trans (dropL_len c x) hz⟩)) (by rw [S_length, sizeLine_eq]; omega))) he
theorem Ev.rstrip {o e : PySem.Expr} {apos pos : Pos} {x : List Nat} {c : Nat} (ho : Ev X Γ o (.str x)) (hs : Ev X Γ e (.str [c])) (hf : MForm X o "rstrip" apos pos [e]) (he : nst e = true := by rfl) :
    Ev X Γ (.Call (.Attribute o "rstrip" apos) [e] [] pos) (.str (dropR c x)) :=
  Ev.meth ho hf F.slot_str_rstrip F.type_str_rstrip (EvL.cons hs EvL.nil he) (fun A s ad Q E t vs hr g hz r hq => by
    obtain ⟨v, rfl, r1⟩ := reps1 r
    simp only [Rep] at r1; obtain ⟨t', rfl, _⟩ := r1
    exact wp_toks (SC.rstripChars (fun t2 k hk => hq _ _ (step_toks hk) (by simp only [Rep]; exact ⟨_, by rw [txt_rstrip], Nat.le_trans (dropR_len c x) hz⟩)) (by rw [S_length, sizeLine_eq]; omega))) he

theorem rep_newlist {ad : Nat → Addr} {s : Shared} {l : List (PySem.Str × Tok)} {ps : List (List Nat)} {k : Nat} (g : Gd X ad Γ s) (e : l.map (·.1) = ps.map S) (hp : ∀ p ∈ ps, p.length ≤ 1048576) (hn : ps.length ≤ 4194304) :
    Rep (X.ban ad Γ) (s.heap.push { cls := .type "list", data := .seq (strValues l).toArray }) (.lst (ps.map .str)) (.ref s.heap.objs.size) := by
  simp only [Rep]
  exact ⟨_, strValues l, rfl, g.fresh _ (Nat.le_refl _), ⟨_, Heap.get?_push_size _ rfl, rfl, _, rfl⟩, reps_strs l ps e hp, by rw [List.length_map]; exact hn⟩

theorem Ev.split {o e : PySem.Expr} {apos pos : Pos} {x : List Nat} {c : Nat} (ho : Ev X Γ o (.str x)) (hs : Ev X Γ e (.str [c])) (hf : MForm X o "split" apos pos [e]) (he : nst e = true := by rfl) :
    Ev X Γ (.Call (.Attribute o "split" apos) [e] [] pos) (.lst ((splt c x).map .str)) :=
  Ev.meth ho hf F.slot_str_split F.type_str_split (EvL.cons hs EvL.nil he) (fun A s ad Q E t vs hr g hz r hq => by
    obtain ⟨v, rfl, r1⟩ := reps1 r
    simp only [Rep] at r1; obtain ⟨t', rfl, _⟩ := r1
    exact split_push hz fun l k hk e => hq _ _ (step_heap kp_push hk) (rep_newlist (k := k) g e (fun p hp => Nat.le_trans (splt_len hp) hz) (Nat.le_trans splt_count (by omega)))) he
theorem Ev.splitM {o e e2 : PySem.Expr} {apos pos : Pos} {x y : List Nat} {k : Int} {ps : List (List Nat)} (ho : Ev X Γ o (.str x)) (hs : Ev X Γ e (.str y)) (hs2 : Ev X Γ e2 (.int k)) (hsp : Txt.splitMax (S x) (S y) k = ps.map S) (hy : y ≠ []) (hk : (decide (k < -(2 ^ 63 : Int)) || decide (k ≥ 2 ^ 63)) = false)
    (hp : ∀ p ∈ ps, p.length ≤ 1048576) (hn : ps.length ≤ 4194304) (hf : MForm X o "split" apos pos [e, e2]) 
    (he : nst e = true := by rfl) (he2 : nst e2 = true := by rfl) (hpl : List.all [e2] nst = true := by rfl) :
    Ev X Γ (.Call (.Attribute o "split" apos) [e, e2] [] pos) (.lst (ps.map .str)) :=
  Ev.meth ho hf F.slot_str_split F.type_str_split (EvL.cons hs (EvL.cons hs2 EvL.nil he2) he) (fun A s ad Q E t vs hr g hz r hq => by
    obtain ⟨v, u, rfl, r1, r2⟩ := reps2 r
    simp only [Rep] at r1 r2; obtain ⟨t', rfl, _⟩ := r1; obtain ⟨t2, rfl⟩ := r2
    exact splitM_push hsp (by rw [S_length]; cases y <;> simp_all) hk (by rw [S_length, sizeLine_eq]; omega) fun l k hk e => hq _ _ (step_heap kp_push hk) (rep_newlist (k := k) g e hp hn)) he hpl
theorem Ev.partition {o e : PySem.Expr} {apos pos : Pos} {x a b c : List Nat} {y : Nat} (ho : Ev X Γ o (.str x)) (hs : Ev X Γ e (.str [y])) (hsp : Txt.partition (S x) (S [y]) = (S a, S b, S c))
    (ha : a.length ≤ 1048576) (hb : b.length ≤ 1048576) (hc : c.length ≤ 1048576) (hf : MForm X o "partition" apos pos [e]) 
    (he : nst e = true := by rfl) :
    Ev X Γ (.Call (.Attribute o "partition" apos) [e] [] pos) (.tup [.str a, .str b, .str c]) :=
  Ev.meth ho hf F.slot_str_partition F.type_str_partition (EvL.cons hs EvL.nil he) (fun A s ad Q E t vs hr g hz r hq => by
    obtain ⟨v, rfl, r1⟩ := reps1 r
    simp only [Rep] at r1; obtain ⟨t', rfl, _⟩ := r1
    refine partition_push rfl (by rw [S_length, sizeLine_eq]; omega) fun ta tb tc k hk => hq _ _ (step_heap kp_push hk) ?_
    rw [hsp]
    simp only [Rep, Reps]
    exact ⟨_, _, rfl, g.fresh _ (Nat.le_refl _), ⟨_, Heap.get?_push_size _ rfl, rfl, _, rfl⟩, ⟨_, _, rfl, ⟨_, rfl, ha⟩, _, _, rfl, ⟨_, rfl, hb⟩, _, _, rfl, ⟨_, rfl, hc⟩, rfl⟩, Nat.le_of_ble_eq_true rfl⟩) he
theorem Ev.join {o e : PySem.Expr} {apos pos : Pos} {x : List Nat} {ps : List (List Nat)} (ho : Ev X Γ o (.str x)) (hs : Ev X Γ e (.lst (ps.map .str))) (hz1 : (ps.map (·.length)).sum + ps.length * x.length ≤ 16777216) (hz2 : (jn x ps).length ≤ 1048576) (hf : MForm X o "join" apos pos [e]) (he : nst e = true := by rfl) :
    Ev X Γ (.Call (.Attribute o "join" apos) [e] [] pos) (.str (jn x ps)) :=
  Ev.meth ho hf F.slot_str_join F.type_str_join (EvL.cons hs EvL.nil he) (fun A s ad Q E t vs hr g hz r hq => by
    obtain ⟨v, rfl, r1⟩ := reps1 r
    simp only [Rep] at r1
    obtain ⟨a, vs, rfl, _, h1, h2, _⟩ := r1
    obtain ⟨l, rfl, e⟩ := strs_reps ps vs h2
    exact wp_toks (SC.join h1 e (joinOk_of (by rw [List.map_map, List.length_map, S_length, show (fun y : PySem.Str => y.length) ∘ S = (fun y : List Nat => y.length) from funext S_length]; exact hz1)) fun t2 k hk => hq _ _ (step_toks hk) (by simp only [Rep]; exact ⟨_, by rw [txt_join], hz2⟩))) he

/-- text.replace(sign, other), both written out -/
theorem Ev.replace {o : PySem.Expr} {apos pos p1 p2 : Pos} {k1 k2 : Nat} {x : List Nat} {y z : PySem.Str} {c : Nat} (ho : Ev X Γ o (.str x)) (hy : y = S [c]) (hyz : (y == z) = false) (hz14 : (L z).length ≤ 14) (hz : (rp c (L z) x).length ≤ 1048576) (hf : MForm X o "replace" apos pos [.Constant (.str y) k1 p1, .Constant (.str z) k2 p2]) :
    Ev X Γ (.Call (.Attribute o "replace" apos) [.Constant (.str y) k1 p1, .Constant (.str z) k2 p2] [] pos) (.str (rp c (L z) x)) := fun A s ad Q E hr g hq => by
  refine wpAny_Call_method hf.all.1 hf.all.2.1 hf.all.2.2 F.plainAttrs_str F.slot_str_replace F.type_str_replace (ho A s ad _ E hr g fun v s1 st r => ?_)
  simp only [Rep] at r
  obtain ⟨t, rfl, hx⟩ := r
  refine ⟨typeIs_str _ _ _, fun a e => (nomatch e), callWith_method1 (spliced_more (Constant_str (spliced_more (Constant_str (args_nil ?_)) rfl)) rfl) rfl rfl⟩
  have hp := (g.up st).pos
  subst hy
  refine wp_toks (SC.replaceW (by exact Nat.ne_of_gt hp) (Nat.succ_ne_zero _) (by exact (Nat.succ_ne_self s1.toks).symm) hyz (by rw [S_length]; exact hx) hz14 fun t' k hk => hq _ _ (st.trans (step_toks (by simp only at hk; omega))) ?_)
  simp only [Rep]
  exact ⟨_, by rw [← S_L z, txt_replace, L_S], hz⟩

/-- [sign] * n, of a text of one sign -/
theorem mul_one (c : Nat) (n : Int) : Txt.mul (S [c]) n = S (List.replicate n.toNat c) := by
  unfold Txt.mul
  split
  · rw [show n.toNat = 0 by omega]; rfl
  · split
    · rename_i h
      simp only [Bool.or_eq_true, beq_iff_eq] at h
      rcases h with h | h
      · subst h; rfl
      · exact absurd h (by show ¬ (1 = 0); omega)
    · have : ∀ (k : Nat) (acc : Array Nat), (List.replicate k (S [c]).cps).foldl (· ++ ·) acc = acc ++ (List.replicate k c).toArray := fun k => by
        induction k with
        | zero => intro acc; simp
        | succ k ih =>
          intro acc
          rw [List.replicate_succ, List.foldl_cons, ih, List.replicate_succ]
          apply Array.toList_inj.mp
          simp [S]
      rw [this]
      simp [S]
theorem Bin.mul_str {c : Nat} {n : Int} (h0 : 0 ≤ n) (hn : n ≤ 1048576) : Bin X Γ .Mult (.str [c]) (.int n) (.str (List.replicate n.toNat c)) := by
  intro A s ad Q E v u hr g rv ru hq
  simp only [RepO, Rep] at rv ru
  obtain ⟨t, rfl, h1⟩ := rv; obtain ⟨t', rfl⟩ := ru
  exact wp_toks (SB.mul (mulOk_of 1 1048576 (Nat.le_refl _) (by omega) (by omega) (by decide) (by decide)) fun t2 k hk => hq _ _ (step_toks hk) (by simp only [Rep]; exact ⟨_, by rw [mul_one], by rw [List.length_replicate]; omega⟩))
end
end
noncomputable def NoOwn (Γ : Gam) : Prop := ∀ (i : Nat) (l : List D), Γ[i]? ≠ some (some (.o l))
theorem NoOwn.ban {X : Cx} {Γ : Gam} {ad : Nat → Addr} {a : Addr} (n : NoOwn Γ) (h : X.ban ad Γ a) : X.B a := by
  rcases h with h | ⟨i, l, e, _⟩
  · exact h
  · exact absurd e (n i l)
theorem NoOwn.nil {Γ : Gam} (h : ∀ e ∈ Γ, ∀ l, e ≠ some (.o l)) : NoOwn Γ := fun i l e => h _ (List.mem_of_getElem? e) l rfl

noncomputable def MvC (C P : Addr) (wr : List Addr) (s s' : Shared) : Prop :=
  SR s s' ∧ s.toks ≤ s'.toks ∧ ∀ b o, s.heap.get? b = some o → b ≠ C → b ≠ P → b ∉ wr → s'.heap.get? b = some o
theorem MvC.refl {C P : Addr} {wr : List Addr} (s : Shared) : MvC C P wr s s := ⟨SR.refl s, Nat.le_refl _, fun _ _ e _ _ _ => e⟩
theorem MvC.trans {C P : Addr} {wr : List Addr} {a b c : Shared} (x : MvC C P wr a b) (y : MvC C P wr b c) : MvC C P wr a c :=
  ⟨x.1.trans y.1, Nat.le_trans x.2.1 y.2.1, fun p o e h1 h2 h3 => y.2.2 p o (x.2.2 p o e h1 h2 h3) h1 h2 h3⟩
theorem MvC.weak {C P : Addr} {wr wr' : List Addr} {a b : Shared} (x : MvC C P wr a b) (h : ∀ q ∈ wr, q ∈ wr') : MvC C P wr' a b :=
  ⟨x.1, x.2.1, fun p o e h1 h2 h3 => x.2.2 p o e h1 h2 fun q => h3 (h _ q)⟩
theorem Step.mvc {C P : Addr} {wr : List Addr} {a b : Shared} (st : Step a b) : MvC C P wr a b := ⟨st.sr, st.toks, fun _ _ e _ _ _ => st.kp _ _ e⟩

/-- what adds to the list under way -/
noncomputable def Emit (X : Cx) (P : Addr) (Γ : Gam) (m : Sem Unit) (es : List D) : Prop :=
  ∀ A s ad Q E ds ys, Room X.k A → Gd X ad Γ s → X.B P → s.heap.PlainList P (List.toArray ys) → Reps X.B s.heap ds ys → ds.length + es.length ≤ 4194304 →
    (∀ s' ys', MvC X.env.locals P [] s s' → Gd X ad Γ s' → s'.heap.PlainList P (List.toArray ys') → Reps X.B s'.heap (ds ++ es) ys' → Q () s') → wpAny (model X.G.prog X.G.w) A m Q E s

/-- a clause's tests -/
noncomputable def Tst (X : Cx) (Γ : Gam) (ifs : List PySem.Expr) (b : Bool) : Prop :=
  ∀ A s ad Q E, Room X.k A → Gd X ad Γ s → (∀ s', Step s s' → Q b s') →
    wpAny (model X.G.prog X.G.w) A (forIn ifs true fun c r => if r = true then do let ok ← isTrue c X.env (eval c X.env); pure (ForInStep.yield ok) else pure (ForInStep.yield r)) Q E s

section
variable {X : Cx} {Γ : Gam}

theorem Tst.nil : Tst X Γ [] true := fun A s ad Q E hr g hq => wpAny_tests_nil (hq s (Step.refl s))
theorem Tst.one {c : PySem.Expr} {b : Bool} (h : Tr X Γ c b) : Tst X Γ [c] b := fun A s ad Q E hr g hq => wpAny_tests_one (h A s ad Q E hr g hq)

/-- a barred list turns, all else stands -/
theorem Gd.turnB {s : Shared} {ad : Nat → Addr} {P : Addr} {h' : Heap} {t' : Nat} {o : Obj} {xs n} (g : Gd X ad Γ s) (hno : NoOwn Γ) (hB : X.B P) (e0 : s.heap.get? P = some o) (d0 : o.data = .seq xs n) (h0 : X.h₀.get? P = none) (hex : ∃ o, h'.get? P = some o)
    (hs : Heap.SameBut P s.heap h') (ht : s.toks ≤ t') : Gd X ad Γ { s with heap := h', toks := t' } := by
  obtain ⟨offl, offc⟩ := g.seq_off e0 d0
  have kp : ∀ {B : Addr → Prop}, (∀ a, X.B a → B a) → KpS B s.heap h' := fun hb b o xs n nb e _ => (hs.2 b fun q => nb (hb _ (q ▸ hB))).trans e
  have reads : ∀ y w, Reads X.env s.heap y w → Reads X.env h' y w := fun y w hr => by
    rcases hr with ⟨a1, m, a2, a3⟩ | ⟨a1, c, a2, a3⟩
    · exact .inl ⟨a1, m, a2.sameBut hs (Ne.symm offl), a3⟩
    · exact .inr ⟨a1, c, a2, a3.sameBut hs (Ne.symm (offc y c a2))⟩
  refine ⟨g.kind, g.glob, g.blt, g.uniq, g.names, g.apart, g.fx, ?_, ?_, fun b o e => ?_, fun b hb => ?_, g.gok, Nat.lt_of_lt_of_le g.pos ht, fun j d e => ?_, fun j l e => absurd e (hno j l)⟩
  · obtain ⟨m, a⟩ := g.ns; exact ⟨m, a.sameBut hs (Ne.symm offl)⟩
  · intro n c e
    obtain ⟨v, a⟩ := g.cells n c e
    exact ⟨v, a.sameBut hs (Ne.symm (offc n c e))⟩
  · exact (hs.2 b fun q => by rw [q, h0] at e; cases e).trans (g.keep _ _ e)
  · by_cases hbp : b = P
    · rw [hbp]; exact hex
    · obtain ⟨o, e⟩ := g.low b hb; exact ⟨o, (hs.2 b hbp).trans e⟩
  · obtain ⟨x, k, v, h1, h2, h3⟩ := g.vars j d e
    exact ⟨x, k, v, h1, reads _ _ h2, Rep.up (kp fun a h => .inl h) _ _ h3⟩

/-- the element's own value joins the list -/
theorem Emit.elt {P : Addr} {elt : PySem.Expr} {d : D} (hno : NoOwn Γ) (h0 : X.h₀.get? P = none) (h : Ev X Γ elt d) : Emit X P Γ (do let _ ← PySem.call (.builtin "list.append") [.ref P, ← eval elt X.env]) [d] := fun A s ad Q E ds ys hr g hB pl r hz hq => by
  refine wpAny_bind (h A s ad _ E hr g fun v s1 st rv => wpAny_bind ?_)
  have el := Reps.length _ _ r
  obtain ⟨n0, e0⟩ := id (pl.at fun o e => st.kp _ o e : s1.heap.PlainList P ys.toArray)
  refine wpAny_list_append_plain (pl.at fun o e => st.kp _ o e) (fun h' pl' sb => ?_) (by rw [List.size_toArray, el, sizeLine_eq]; simp at hz; omega)
  have g1 := g.up st
  have g2 := g1.turnB (t' := s1.toks) hno hB e0 rfl h0 (let ⟨n, e⟩ := pl'; ⟨_, e⟩) sb (Nat.le_refl _)
  have kp : KpS X.B s1.heap h' := fun b o xs n nb e _ => (sb.2 b fun q => nb (q ▸ hB)).trans e
  refine wpAny_pure (hq { s1 with heap := h' } (ys ++ [v]) ⟨st.sr.trans ⟨h', s1.toks, rfl⟩, st.toks, fun b o e _ hP _ => (sb.2 b hP).trans (st.kp _ _ e)⟩ g2 (by simpa using pl') ?_)
  refine Reps.append _ _ _ _ (Reps.up kp _ _ (Reps.up st.kp.s _ _ r)) ?_
  simp only [Reps]
  exact ⟨v, [], rfl, Rep.up kp _ _ (Rep.bar (fun a _ _ _ hb _ _ => .inl hb) _ _ rv), rfl⟩

/-- the loop of a comprehension's clause -/
theorem comp_loop {A : Around} {s : Shared} {ad : Nat → Addr} {s1 : Shared} {Bn : Addr → Prop} {P I : Addr} {fp wr : List Addr} {St : Nat → Heap → Prop} {elt target : PySem.Expr} {gens : List Comprehension} {scope : Scope} {pos posI : Pos} {depth : Nat}
    {ifs : List PySem.Expr} {body : Sem Unit} {tgt : D → Gam} {p : D → Bool} {f : D → List D} {ds ds0 : List D} {ys0 : List Value} {R : Result → Shared → Prop}
    (hT : compTurn (.ListComp elt gens scope pos) depth (.ref I) (.ref P) X.env = (do
      standAt posI
      match ← pyNext (.ref I) with
      | none => pure (.done .next)
      | some v =>
        letOwnedTupleGo target (.ref I) v
        assign target X.env v
        let mut ok := true
        for c in ifs do
          if ok then ok ← isTrue c X.env (eval c X.env)
        if ok then body
        again (.compLoop (.ListComp elt gens scope pos) depth (.ref I) (.ref P) X.env)))
    (hno : NoOwn Γ) (hr : Room X.k A) (hB : X.B P) (h0 : X.h₀.get? P = none) (g : Gd X ad Γ s) (sub : ∀ b ∈ wr, b ∈ fp) (frame : ∀ i h h', St i h → (∀ b ∈ fp, ∀ o, h.get? b = some o → h'.get? b = some o) → St i h') (pull : Pull X A target I s1 Bn wr St ds)
    (done : ∀ (s : Shared) (Q : Option Value → Shared → Prop) (E : Value → Shared → Prop), St ds.length s.heap → (∀ h' tk, (∀ b o, b ∉ wr → s.heap.get? b = some o → h'.get? b = some o) → Q none { s with heap := h', toks := tk }) → wpAny (model X.G.prog X.G.w) A (pyNext (.ref I)) Q E s)
    (hst : St 0 s.heap)
    (hfp : ∀ b ∈ fp, (∃ o, s.heap.get? b = some o) ∧ b ≠ X.env.locals ∧ (∀ n c, X.env.cells.lookup n = some c → b ≠ c) ∧ b ≠ P)
    (hwr : ∀ b ∈ wr, X.h₀.get? b = none ∧ (X.B b ∨ (¬ X.B b ∧ ∀ (i : Nat) (h : Heap) (o : Obj) (xs : Array Value) (n : Nat), St i h → h.get? b = some o → o.data ≠ .seq xs n))) (hPw : P ∉ wr) (hex : ∀ (i : Nat) (h : Heap) (b : Addr), St i h → b ∈ wr → ∃ o, h.get? b = some o)
    (hs1 : Kp s1.heap s.heap) (hZ : ∀ b, X.B b → Bn b ∨ s1.heap.get? b = none ∨ b ∈ wr) (hC1 : ∀ o xs n, s1.heap.get? X.env.locals = some o → o.data ≠ .seq xs n) (hP1 : Bn P ∨ s1.heap.get? P = none)
    (pl : s.heap.PlainList P (List.toArray ys0)) (r : Reps X.B s.heap ds0 ys0)
    (htg : ∀ d ∈ ds, ∀ A s v Q E, Room X.k A → Gd X ad Γ s → Rep X.B s.heap d v → (∀ s', (∀ b o, b ≠ X.env.locals → s.heap.get? b = some o → s'.heap.get? b = some o) → SR s s' → s.toks ≤ s'.toks → Gd X ad (tgt d) s' → Q () s') → wpAny (model X.G.prog X.G.w) A (assign target X.env v) Q E s)
    (hfor : ∀ d ∈ ds, ∀ s, Gd X ad (tgt d) s → Gd X ad Γ s)
    (hts : ∀ d ∈ ds, Tst X (tgt d) ifs (p d)) (hbd : ∀ d ∈ ds, p d = true → Emit X P (tgt d) body (f d))
    (hsz : ds0.length + (ds.flatMap fun d => if p d then f d else []).length ≤ 4194304)
    (hR : ∀ s' ys', MvC X.env.locals P wr s s' → (∃ m, s'.heap.Ns X.env.locals m) → ((∀ b ∈ wr, ¬ X.B b) → Gd X ad Γ s') → s'.heap.PlainList P (List.toArray ys') → Reps X.B s'.heap (ds0 ++ ds.flatMap fun d => if p d then f d else []) ys' → R (.ok .next) s') :
    codeAny (model X.G.prog X.G.w) A (.compLoop (.ListComp elt gens scope pos) depth (.ref I) (.ref P) X.env) R s := by
  refine codeAny_loop rfl (fun n s' => ∃ j ys', n = ds.length - j ∧ j ≤ ds.length ∧ St j s'.heap ∧ Gd X ad Γ s' ∧ s'.heap.PlainList P (List.toArray ys') ∧ Reps X.B s'.heap (ds0 ++ (ds.take j).flatMap fun d => if p d then f d else []) ys' ∧ MvC X.env.locals P wr s s') ?_ ds.length
    ⟨0, ys0, rfl, Nat.zero_le _, hst, g, pl, by simpa using r, MvC.refl s⟩
  rintro n s' ⟨j, ys', rfl, hj, hst', g', pl', r', mv⟩
  show wpAny _ A ((compTurn (.ListComp elt gens scope pos) depth (.ref I) (.ref P) X.env).onRaise (fun x => do noteFrame x X.env; theTreesLotGoes x)) _ _ s'
  refine wpAny_noted ?_
  rw [hT]
  refine wpAny_bind (wpAny_standAt (wpAny_bind ?_))
  have off : ∀ {h' : Heap}, (∀ b ∈ wr, X.B b → ∃ o, h'.get? b = some o) → ∀ b ∈ wr, X.h₀.get? b = none ∧ b ≠ X.env.locals ∧ (∀ n c, X.env.cells.lookup n = some c → b ≠ c) ∧ ((X.B b ∧ ∃ o, h'.get? b = some o) ∨ (¬ X.B b ∧ ∀ o xs n, s'.heap.get? b = some o → o.data ≠ .seq xs n)) := fun hx b hb =>
    ⟨(hwr b hb).1, (hfp b (sub b hb)).2.1, (hfp b (sub b hb)).2.2.1, (hwr b hb).2.imp (fun h => ⟨h, hx b hb h⟩) fun h => ⟨h.1, fun o xs n => h.2 j _ o xs n hst'⟩⟩
  have kpw : ∀ {h' : Heap}, (∀ b o, b ∉ wr → s'.heap.get? b = some o → h'.get? b = some o) → KpS X.B s'.heap h' := fun k b o xs n nb e d => k b o (fun h => (hwr b h).2.elim nb fun q => q.2 j _ o xs n hst' e d) e
  by_cases hlt : j < ds.length
  · obtain ⟨d, hd⟩ : ∃ d, ds[j]? = some d := ⟨ds[j], List.getElem?_eq_getElem hlt⟩
    have hmem : d ∈ ds := List.mem_of_getElem? hd
    refine pull j s' _ _ d hd hst' (fun b o xs n nb hnw e dd => mv.2.2 b o (hs1 _ _ e) (fun q => hC1 o xs n (q ▸ e) dd) (fun q => hP1.elim (fun h => nb (q ▸ h)) fun h => by rw [← q, e] at h; cases h) hnw) fun v h1' tk htk hgo => ?_
    refine wpAny_bind (hgo _ (fun h1 hst1 hk rd0 => ?_) _)
    have g1 : Gd X ad Γ { s' with heap := h1, toks := tk } := g'.butB hno hk htk (off fun b hb _ => hex _ _ b hst1 hb)
    have pl1 : h1.PlainList P ys'.toArray := pl'.at fun o e => hk _ o hPw e
    have r1 := Reps.up (kpw hk) _ _ r'
    have mv1 : MvC X.env.locals P wr s { s' with heap := h1, toks := tk } := mv.trans ⟨⟨h1, tk, rfl⟩, htk, fun b o e _ _ h => hk b o h e⟩
    have rd1 : Rep X.B h1 d v := Rep.bar (fun b o xs n hb e dd => ⟨g'.low b hb, hZ b hb⟩) _ _ rd0
    refine wpAny_bind (htg d hmem A _ v _ _ hr g1 rd1 fun s2 sb2 sr2 tk2 g2 => ?_)
    obtain ⟨n1, e1⟩ := id pl1
    have off1 := g1.seq_off (a := P) e1 rfl
    have pl2 : s2.heap.PlainList P ys'.toArray := pl1.at fun o e => sb2 _ _ off1.1 e
    have kp2 : KpS X.B h1 s2.heap := fun b o xs n _ e dd => sb2 b o (g1.seq_off (s := { s' with heap := h1, toks := tk }) e dd).1 e
    have r2 := Reps.up kp2 _ _ r1
    have mv2 : MvC X.env.locals P wr s s2 := mv1.trans ⟨sr2, tk2, fun b o e h _ _ => sb2 b o h e⟩
    have hst2 : St (j + 1) s2.heap := frame _ _ _ hst1 fun b hb o e => sb2 b o (hfp b hb).2.1 e
    refine wpAny_bind (hts d hmem A s2 ad _ _ hr g2 fun s3 st3 => ?_)
    have hd' : ds.take (j + 1) = ds.take j ++ [d] := by rw [List.take_add_one, hd]; rfl
    have pl3 : s3.heap.PlainList P ys'.toArray := pl2.at fun o e => st3.kp _ o e
    have r3 := Reps.up st3.kp.s _ _ r2
    have mv3 := mv2.trans st3.mvc
    have hst3 : St (j + 1) s3.heap := frame _ _ _ hst2 fun b hb o e => st3.kp _ _ e
    have hfl : ds.flatMap (fun d => if p d then f d else []) = (ds.take j).flatMap (fun d => if p d then f d else []) ++ ((if p d then f d else []) ++ (ds.drop (j + 1)).flatMap fun d => if p d then f d else []) := by
      conv => lhs; rw [← List.take_append_drop (j + 1) ds, hd', List.flatMap_append, List.flatMap_append]
      simp
    cases hpd : p d with
    | false =>
      refine wpAny_pure ⟨rfl, ds.length - (j + 1), by omega, j + 1, ys', rfl, hlt, hst3, hfor d hmem _ (g2.up st3), pl3, ?_, mv3⟩
      rw [hd', List.flatMap_append]
      simpa [hpd] using r3
    | true =>
      refine wpAny_bind (hbd d hmem hpd A s3 ad _ _ _ ys' hr (g2.up st3) hB pl3 r3 (by
        rw [hfl, hpd, List.length_append, List.length_append] at hsz
        simp only [if_true] at hsz
        rw [List.length_append]; omega) fun s4 ys4 mv4 g4 pl4 r4 => ?_)
      refine wpAny_pure ⟨rfl, ds.length - (j + 1), by omega, j + 1, ys4, rfl, hlt, frame _ _ _ hst3 (fun b hb o e => mv4.2.2 b o e (hfp b hb).2.1 (hfp b hb).2.2.2 (by simp)), hfor d hmem _ g4, pl4, ?_, mv3.trans (mv4.weak (by simp))⟩
      rw [hd', List.flatMap_append]
      simpa [hpd] using r4
  · have hj' : j = ds.length := by omega
    subst hj'
    refine wp_toks (done s' _ _ hst' fun h1 tk hk htk => ?_)
    rw [List.take_length] at r'
    exact wpAny_pure (hR _ ys' (mv.trans ⟨⟨h1, tk, rfl⟩, htk, fun b o e _ _ h => hk b o h e⟩) (let ⟨m, hm⟩ := g'.ns; ⟨m, hm.at' fun o e => hk _ o (fun h => (hfp _ (sub _ h)).2.1 rfl) e⟩) (fun hnb => g'.butB hno hk htk (off fun b hb h => absurd h (hnb b hb))) (pl'.at fun o e => hk _ o hPw e) (Reps.up (kpw hk) _ _ r'))
end
/-- the cells that a comprehension's frame takes along -/
noncomputable def clAdd (cells : List (PySem.Str × Addr)) : List (PySem.Str × NameKind) → List (PySem.Str × Addr) → List (PySem.Str × Addr)
  | [], acc => acc
  | (n, k) :: r, acc => clAdd cells r (if k == .free then (n, (cells.lookup n).getD 0) :: acc else acc)

theorem closure_loop {env : Env} : ∀ (l : List (PySem.Str × NameKind)) (acc : List (PySem.Str × Addr)), (∀ y ∈ l, y.2 = .free → (env.cells.lookup y.1).isSome = true) →
    (forIn l acc (fun (x : PySem.Str × NameKind) (cs : List (PySem.Str × Addr)) => do if x.2 == .free then let c ← cellOf env x.1; pure (ForInStep.yield ((x.1, c) :: cs)) else pure (ForInStep.yield cs)) : Sem (List (PySem.Str × Addr))) = pure (clAdd env.cells l acc)
  | [], acc, _ => rfl
  | (n, k) :: r, acc, h => by
    rw [List.forIn_cons]
    have ih := fun acc => closure_loop (env := env) r acc fun y hy => h y (List.mem_cons_of_mem _ hy)
    cases hk : (k == NameKind.free) with
    | false =>
      show (pure (ForInStep.yield acc) >>= _ : Sem _) = _
      simp only [hk, pure_bind, clAdd, Bool.false_eq_true, if_false]
      exact ih acc
    | true =>
      obtain ⟨c, hc⟩ := Option.isSome_iff_exists.mp (h (n, k) (List.mem_cons_self ..) (by simpa using hk))
      simp only [hk, if_true, clAdd, cellOf, hc, pure_bind, Option.getD_some]
      exact ih _

theorem closure_eq {env : Env} {scope : Scope} (h : ∀ y ∈ scope.names, y.2 = .free → (env.cells.lookup y.1).isSome = true) : closureFor scope env = pure (clAdd env.cells scope.names []) := by
  have := closure_loop (env := env) scope.names [] h
  unfold closureFor
  show ((forIn scope.names [] _ : Sem _) >>= fun cs => pure cs) = _
  rw [bind_pure]
  refine Eq.trans ?_ this
  congr 1

theorem clAdd_mem {cells : List (PySem.Str × Addr)} : ∀ (l : List (PySem.Str × NameKind)) (acc : List (PySem.Str × Addr)) (q : PySem.Str × Addr), q ∈ clAdd cells l acc → q ∈ acc ∨ ((q.1, .free) ∈ l ∧ q.2 = (cells.lookup q.1).getD 0)
  | [], acc, q, h => .inl h
  | (n, k) :: r, acc, q, h => by
    unfold clAdd at h
    rcases clAdd_mem r _ q h with h | h
    · by_cases hk : k = .free
      · subst hk
        simp only [beq_self_eq_true, if_true] at h
        rcases List.mem_cons.mp h with h | h
        · exact .inr ⟨by rw [h]; exact List.mem_cons_self .., by rw [h]⟩
        · exact .inl h
      · rw [if_neg (by simpa using hk)] at h; exact .inl h
    · exact .inr ⟨List.mem_cons_of_mem _ h.1, h.2⟩
theorem clAdd_has {cells : List (PySem.Str × Addr)} : ∀ (l : List (PySem.Str × NameKind)) (acc : List (PySem.Str × Addr)) (n : PySem.Str), ((n, .free) ∈ l ∨ (∃ c, (n, c) ∈ acc)) → ∃ c, (n, c) ∈ clAdd cells l acc
  | [], acc, n, h => by
    rcases h with h | h
    · cases h
    · exact h
  | (m, k) :: r, acc, n, h => by
    unfold clAdd
    apply clAdd_has r
    rcases h with h | ⟨c, h⟩
    · rcases List.mem_cons.mp h with h | h
      · cases h; right; exact ⟨_, List.mem_cons_self ..⟩
      · exact .inl h
    · right
      split
      · exact ⟨c, List.mem_cons_of_mem _ h⟩
      · exact ⟨c, h⟩
theorem clAdd_apart {cells : List (PySem.Str × Addr)} (hap : ∀ x y c, cells.lookup x = some c → cells.lookup y = some c → x = y) : ∀ (l : List (PySem.Str × NameKind)) (acc : List (PySem.Str × Addr)), (l.map (·.1)).Nodup → (∀ y ∈ l, y.2 = .free → (cells.lookup y.1).isSome = true) →
    (∀ q ∈ acc, cells.lookup q.1 = some q.2 ∧ q.1 ∉ l.map (·.1)) → (acc.Pairwise fun x y => x.2 ≠ y.2) → (clAdd cells l acc).Pairwise fun x y => x.2 ≠ y.2
  | [], acc, _, _, _, hp => hp
  | (n, k) :: r, acc, hn, hs, ha, hp => by
    unfold clAdd
    simp only [List.map_cons, List.nodup_cons] at hn
    have rest : ∀ q ∈ acc, cells.lookup q.1 = some q.2 ∧ q.1 ∉ r.map (·.1) := fun q hq => ⟨(ha q hq).1, fun h => (ha q hq).2 (List.mem_cons_of_mem _ h)⟩
    apply clAdd_apart hap r _ hn.2 (fun y hy => hs y (List.mem_cons_of_mem _ hy))
    · split
      · rename_i hk
        obtain ⟨c, hc⟩ := Option.isSome_iff_exists.mp (hs (n, k) (List.mem_cons_self ..) (by simpa using hk))
        intro q hq
        rcases List.mem_cons.mp hq with rfl | hq
        · exact ⟨by simp only [hc, Option.getD_some], hn.1⟩
        · exact rest q hq
      · exact rest
    · split
      · rename_i hk
        obtain ⟨c, hc⟩ := Option.isSome_iff_exists.mp (hs (n, k) (List.mem_cons_self ..) (by simpa using hk))
        refine List.pairwise_cons.mpr ⟨fun q hq e => ?_, hp⟩
        simp only [hc, Option.getD_some] at e
        have := hap n q.1 c hc (e ▸ (ha q hq).1)
        exact (ha q hq).2 (by simp [this])
      · exact hp
theorem mem_lookup_apart {l : List (PySem.Str × Addr)} {n : PySem.Str} (h : ∃ c, (n, c) ∈ l) : ∃ c, l.lookup n = some c := by
  obtain ⟨c, h⟩ := h
  induction l with
  | nil => cases h
  | cons q r ih =>
    obtain ⟨m, c'⟩ := q
    cases hb : n == m with
    | true => exact ⟨c', by simp [List.lookup_cons, hb]⟩
    | false =>
      rcases List.mem_cons.mp h with e | h
      · cases e; simp at hb
      · obtain ⟨c2, h2⟩ := ih h; exact ⟨c2, by simp [List.lookup_cons, hb, h2]⟩

noncomputable def compOk (scope : Scope) (outer : List (PySem.Str × NameKind)) : Bool :=
  scope.names.all (fun y => y.2 != .cell && (y.2 != .free || outer.contains (y.1, .cell))) && decide ((scope.names.map (·.1)).Nodup) && (scope.kind == .function)

/-- a comprehension's own frame within X -/
noncomputable abbrev cX (X : Cx) (scope : Scope) (C : Addr) (B : Addr → Prop) : Cx := { G := X.G, env := compEnvC scope (clAdd X.env.cells scope.names []) C X.env, B := B, h₀ := X.h₀, k := X.k }

/-- what the comprehension's frame knows from outside -/
noncomputable def FreeIn (X : Cx) (Γ : Gam) (scope : Scope) (Γ' : Gam) : Prop :=
  ∀ (i : Nat) (e : Ent), Γ'[i]? = some (some e) → ∃ (d : D) (y : PySem.Str) (j : Nat), e = .v d ∧ scope.names[i]? = some (y, .free) ∧ X.env.scope.names[j]? = some (y, .cell) ∧ Γ[j]? = some (some (.v d))

/-- as FreeIn, the rest of a frame from its n-th name on -/
noncomputable def FreeAt (X : Cx) (Γ : Gam) (scope : Scope) (n : Nat) (Γ' : Gam) : Prop :=
  ∀ (i : Nat) (e : Ent), Γ'[i]? = some (some e) → ∃ (d : D) (y : PySem.Str) (j : Nat), e = .v d ∧ scope.names[i + n]? = some (y, .free) ∧ X.env.scope.names[j]? = some (y, .cell) ∧ Γ[j]? = some (some (.v d))
theorem FreeAt.nil {X : Cx} {Γ : Gam} {scope : Scope} {n : Nat} : FreeAt X Γ scope n [] := fun i e h => by cases h
theorem FreeAt.none {X : Cx} {Γ : Gam} {scope : Scope} {n : Nat} {l : Gam} (h : FreeAt X Γ scope (n + 1) l) : FreeAt X Γ scope n (Option.none :: l) := fun i e q => by
  cases i with
  | zero => cases q
  | succ i => rw [Nat.succ_add_eq_add_succ]; exact h i e q
theorem FreeAt.some {X : Cx} {Γ : Gam} {scope : Scope} {n : Nat} {l : Gam} {d : D} {y : PySem.Str} (j : Nat) (h1 : scope.names[n]? = Option.some (y, .free)) (h2 : X.env.scope.names[j]? = Option.some (y, .cell)) (h3 : Γ[j]? = Option.some (Option.some (.v d)))
    (h : FreeAt X Γ scope (n + 1) l) : FreeAt X Γ scope n (Option.some (.v d) :: l) := fun i e q => by
  cases i with
  | zero => cases q; exact ⟨d, y, j, rfl, by rw [Nat.zero_add]; exact h1, h2, h3⟩
  | succ i => rw [Nat.succ_add_eq_add_succ]; exact h i e q
theorem FreeIn.of {X : Cx} {Γ : Gam} {scope : Scope} {l : Gam} (h : FreeAt X Γ scope 0 l) : FreeIn X Γ scope l := h

theorem NoOwn.done : NoOwn [] := fun i l e => by cases e
theorem NoOwn.no {l : Gam} (h : NoOwn l) : NoOwn (none :: l) := fun i => by
  cases i with
  | zero => intro _ e; cases e
  | succ i => exact h i
theorem NoOwn.ve {l : Gam} {d : D} (h : NoOwn l) : NoOwn (some (.v d) :: l) := fun i => by
  cases i with
  | zero => intro _ e; cases e
  | succ i => exact h i
/-- what stands in the one frame stands in the other -/
noncomputable def SubG (Γ Δ : Gam) : Prop := NoOwn Δ ∧ ∀ (i : Nat) e, Γ[i]? = some (some e) → Δ[i]? = some (some e)
theorem SubG.done : SubG [] [] := ⟨NoOwn.done, fun _ _ h => h⟩
theorem SubG.no {l l' : Gam} (h : SubG l l') : SubG (none :: l) (none :: l') := ⟨h.1.no, fun i e q => by
  cases i with
  | zero => exact q
  | succ i => exact h.2 i e q⟩
theorem SubG.new {l l' : Gam} {d : D} (h : SubG l l') : SubG (none :: l) (some (.v d) :: l') := ⟨h.1.ve, fun i e q => by
  cases i with
  | zero => cases q
  | succ i => exact h.2 i e q⟩
theorem SubG.same {l l' : Gam} {d : D} (h : SubG l l') : SubG (some (.v d) :: l) (some (.v d) :: l') := ⟨h.1.ve, fun i e q => by
  cases i with
  | zero => exact q
  | succ i => exact h.2 i e q⟩

section
variable {X : Cx} {Γ : Gam}

theorem Gd.less {s : Shared} {ad : Nat → Addr} {Γ' : Gam} (g : Gd X ad Γ s) (hno : NoOwn Γ) (h : ∀ (i : Nat) e, Γ'[i]? = some (some e) → Γ[i]? = some (some e)) : Gd X ad Γ' s := by
  have hno' : NoOwn Γ' := fun i l e => hno i l (h i _ e)
  refine ⟨g.kind, g.glob, g.blt, g.uniq, g.names, g.apart, g.fx, g.ns, g.cells, g.keep, g.low, g.gok, g.pos, fun j d e => ?_, fun j l e => absurd e (hno' j l)⟩
  obtain ⟨x, k, v, h1, h2, h3⟩ := g.vars j d (h j _ e)
  exact ⟨x, k, v, h1, h2, Rep.bar (fun a _ _ _ hb _ _ => .inl (hno'.ban hb)) _ _ h3⟩

theorem relabel_get {scope : Scope} {env : Env} {i : Nat} {y : PySem.Str} {k : NameKind} (h : (relabel scope env).names[i]? = some (y, k)) : ∃ k₀, scope.names[i]? = some (y, k₀) ∧ (k₀ = k ∨ k₀ = .free ∧ k = .cell) := by
  unfold relabel at h
  rw [List.getElem?_map] at h
  cases e : scope.names[i]? with
  | none => rw [e] at h; cases h
  | some q =>
    obtain ⟨n, k₀⟩ := q
    rw [e] at h
    simp only [Option.map_some, Option.some.injEq] at h
    split at h
    · rename_i hc
      simp only [Bool.and_eq_true, beq_iff_eq] at hc
      cases h
      exact ⟨_, rfl, .inr ⟨hc.1.1, rfl⟩⟩
    · cases h; exact ⟨_, rfl, .inl rfl⟩
theorem relabel_nodup {scope : Scope} {env : Env} : (relabel scope env).names.map (·.1) = scope.names.map (·.1) := by
  unfold relabel
  rw [List.map_map]
  apply List.map_congr_left
  intro x _
  obtain ⟨n, k⟩ := x
  show ((if _ then (n, NameKind.cell) else (n, k)) : PySem.Str × NameKind).1 = n
  split <;> rfl

/-- the frame stands -/
theorem Gd.comp {s1 s4 : Shared} {ad : Nat → Addr} {scope : Scope} {Γ' : Gam} {N : Addr → Prop} {C : Addr} {m : PySem.Str → Option Value} (g : Gd X ad Γ s1) (hok : compOk scope X.env.scope.names = true) (hΓ : FreeIn X Γ scope Γ')
    (st : Step s1 s4) (hC0 : s1.heap.get? C = none) (hCn : s4.heap.Ns C m) (hN : ∀ b, N b → s1.heap.get? b = none ∧ ∃ o, s4.heap.get? b = some o) : Gd (cX X scope C fun a => X.ban ad Γ a ∨ N a) ad Γ' s4 := by
  unfold compOk at hok
  simp only [Bool.and_eq_true, List.all_eq_true, beq_iff_eq, decide_eq_true_eq] at hok
  obtain ⟨⟨hall, hnd⟩, hkind⟩ := hok
  have hfree : ∀ y ∈ scope.names, y.2 = .free → ∃ j : Nat, X.env.scope.names[j]? = some (y.1, NameKind.cell) := fun y hy hk => by
    have := (hall y hy).2
    rw [hk] at this
    simp only [bne_self_eq_false, Bool.false_or, List.contains_iff_mem] at this
    exact List.mem_iff_getElem?.mp this
  have hcs : ∀ y ∈ scope.names, y.2 = .free → (X.env.cells.lookup y.1).isSome = true := fun y hy hk => by
    obtain ⟨j, hj⟩ := hfree y hy hk
    exact g.fx.cl (y.1, .cell) (List.mem_of_getElem? hj) rfl
  have hap : ∀ x y c, X.env.cells.lookup x = some c → X.env.cells.lookup y = some c → x = y := fun x y c h1 h2 => name_of_addr g.apart (mem_of_lookup h1) (mem_of_lookup h2)
  have hclm : ∀ n c, (n, c) ∈ clAdd X.env.cells scope.names [] → X.env.cells.lookup n = some c := fun n c h => by
    rcases clAdd_mem _ _ _ h with h | ⟨h1, h2⟩
    · cases h
    · obtain ⟨c', hc'⟩ := Option.isSome_iff_exists.mp (hcs _ h1 rfl)
      simp only [hc', Option.getD_some] at h2
      rw [h2]; exact hc'
  have hcl : ∀ n c, (clAdd X.env.cells scope.names []).lookup n = some c → X.env.cells.lookup n = some c := fun n c h => hclm n c (mem_of_lookup h)
  have hhas : ∀ y, (y, NameKind.free) ∈ scope.names → ∃ c, (clAdd X.env.cells scope.names []).lookup y = some c := fun y h => mem_lookup_apart (clAdd_has _ _ _ (.inl h))
  have hnd' : ((relabel scope X.env).names.map (·.1)).Nodup := by rw [relabel_nodup]; exact hnd
  have hno : ∀ (i : Nat) (l : List D), Γ'[i]? ≠ some (some (.o l)) := fun i l e => by
    obtain ⟨d, _, _, e2, _⟩ := hΓ i _ e; cases e2
  have noneof : ∀ {a : Addr}, s1.heap.get? a = none → X.h₀.get? a = none := fun {a} h => by
    cases e : X.h₀.get? a with
    | none => rfl
    | some o => have := g.keep _ _ e; rw [h] at this; cases this
  refine ⟨hkind, g.glob, g.blt, fun i j x k k' h1 h2 => uniq_nodup hnd' i j x k k' h1 h2, fun i x k h => lookup_nodup _ i x k hnd' h, ?_, ⟨noneof hC0, fun n c h => g.fx.cel n c (hcl n c h), fun x hx hk => ?_⟩, ⟨m, hCn⟩,
    fun n c h => ?_, g.keep.trans st.kp, fun a ha => ?_, g.gok, Nat.lt_of_lt_of_le g.pos st.toks, fun i d e => ?_, fun i l e => absurd e (hno i l)⟩
  · exact clAdd_apart hap _ _ hnd hcs (by simp) List.Pairwise.nil
  · obtain ⟨i, hi⟩ := List.mem_iff_getElem?.mp hx
    obtain ⟨n, k⟩ := x
    simp only at hk
    subst hk
    obtain ⟨k₀, h1, h2⟩ := relabel_get hi
    have hmem := List.mem_of_getElem? h1
    rcases h2 with h2 | ⟨h2, _⟩
    · subst h2
      have := (hall _ hmem).1
      simp at this
    · subst h2
      obtain ⟨c, hc⟩ := hhas n hmem
      exact Option.isSome_iff_exists.mpr ⟨c, hc⟩
  · obtain ⟨v, hv⟩ := g.cells n c (hcl n c h)
    exact ⟨v, hv.keeps st.kp⟩
  · rcases ha with (ha | ⟨i, l, hi, rfl⟩) | ha
    · obtain ⟨o, e⟩ := g.low a ha; exact ⟨o, st.kp _ _ e⟩
    · obtain ⟨_, _, _, _, _, ⟨n, e⟩, _⟩ := g.owns i l hi; exact ⟨_, st.kp _ _ e⟩
    · exact (hN a ha).2
  · obtain ⟨d', y, j, e1, h1, h2, h3⟩ := hΓ i _ e
    cases e1
    obtain ⟨y', k', v, q1, q2, q3⟩ := g.vars j d h3
    rw [h2] at q1; cases q1
    have hkj := g.names j y .cell h2
    have hrel : (relabel scope X.env).names[i]? = some (y, .cell) := by
      unfold relabel
      rw [List.getElem?_map, h1]
      simp only [Option.map_some]
      rw [if_pos (by simp [g.kind, hkj])]
    obtain ⟨c, hc⟩ := hhas y (List.mem_of_getElem? h1)
    refine ⟨y, .cell, v, hrel, .inr ⟨.inl (show (relabel scope X.env).names.lookup y = some .cell from lookup_nodup _ i y .cell hnd' hrel), c, hc, ?_⟩, ?_⟩
    · rcases q2 with ⟨q, _⟩ | ⟨_, c', q4, q5⟩
      · rw [hkj] at q; cases q
      · rw [hcl y c hc] at q4; cases q4
        exact q5.keeps st.kp
    · refine Rep.up st.kp.s _ _ (Rep.bar (fun a o xs n hb e _ => ?_) _ _ q3)
      rcases hb with hb | ⟨j', l, e', _⟩
      · rcases hb with hb | hb
        · exact hb
        · rw [(hN a hb).1] at e; cases e
      · exact absurd e' (hno j' l)
end
section
variable {X : Cx} {Γ : Gam} {Φ : Out → Prop}

/-- one target's assignment, in a comprehension's frame -/
noncomputable def CTgt (X : Cx) (Γ : Gam) (target : PySem.Expr) (d : D) (Γ1 : Gam) : Prop := ∀ A s ad v Q E, Room X.k A → Gd X ad Γ s → Rep X.B s.heap d v →
  (∀ s', (∀ b o, b ≠ X.env.locals → s.heap.get? b = some o → s'.heap.get? b = some o) → SR s s' → s.toks ≤ s'.toks → Gd X ad Γ1 s' → Q () s') → wpAny (model X.G.prog X.G.w) A (assign target X.env v) Q E s

theorem SameBut_of_up {a : Addr} {h h' : Heap} (x : Heap.SameBut a h h') : Heap.SameBut a h h' := x

theorem CTgt.name {x : PySem.Str} {p : Pos} {i : Nat} {d : D} (hno : NoOwn Γ) (hi : X.env.scope.names[i]? = some (x, .local)) : CTgt X Γ (.Name x p) d (Γ.set i (some (.v d))) := fun A s ad v Q E hr g r hq =>
  wpAny_assign_Name (store_ofL g.fx g hi (.inl rfl) (Rep.bar (fun a _ _ _ hb _ _ => hno.ban hb) _ _ r) fun s' mv kp lo g' => hq s' (fun b o hb e => ((lo rfl).1.2 b hb).trans e) mv.1 (lo rfl).2 g')

/-- the code of a comprehension, from its first iterator on -/
theorem comp_block {A : Around} {E : Value → Shared → Prop} {s s1 : Shared} {ad : Nat → Addr} {I : Addr} {fp wr : List Addr} {St : Nat → Heap → Prop} {elt target iter : PySem.Expr} {rest : List Comprehension} {scope : Scope} {pos : Pos}
    {ifs : List PySem.Expr} {body : Addr → Env → Sem Unit} {tgt : D → Gam} {Γ' : Gam} {p : D → Bool} {f : D → List D} {ds : List D} {RR : Value → Addr → Result → Shared → Prop}
    (hT : ∀ I P env, compTurn (.ListComp elt (⟨target, iter, ifs, 0⟩ :: rest) scope pos) 0 (.ref I) (.ref P) env = (do
      standAt iter.pos
      match ← pyNext (.ref I) with
      | none => pure (.done .next)
      | some v =>
        letOwnedTupleGo target (.ref I) v
        assign target env v
        let mut ok := true
        for c in ifs do
          if ok then ok ← isTrue c env (eval c env)
        if ok then body P env
        again (.compLoop (.ListComp elt (⟨target, iter, ifs, 0⟩ :: rest) scope pos) 0 (.ref I) (.ref P) env)))
    (hr : Room X.k A) (g : Gd X ad Γ s) {z : Bool} (R : RdyIt X Γ ad A target s s1 ds I fp wr St z) (hok : compOk scope X.env.scope.names = true) (hΓ : FreeIn X Γ scope Γ')
    (htg : ∀ C B, ∀ d ∈ ds, CTgt (cX X scope C B) Γ' target d (tgt d))
    (hless : ∀ d ∈ ds, NoOwn (tgt d) ∧ ∀ (i : Nat) e, Γ'[i]? = some (some e) → (tgt d)[i]? = some (some e))
    (hts : ∀ C B, ∀ d ∈ ds, Tst (cX X scope C B) (tgt d) ifs (p d))
    (hbd : ∀ C B P, X.h₀.get? P = none → ∀ d ∈ ds, p d = true → Emit (cX X scope C B) P (tgt d) (body P (cX X scope C B).env) (f d))
    (hsz : (ds.flatMap fun d => if p d then f d else []).length ≤ 4194304)
    (hRR : ∀ P C s', Step s s' → (∃ m, s'.heap.Ns C m) → C ≠ X.env.locals → s.heap.get? C = none →
      Rep (X.ban ad Γ) s'.heap (.lst (ds.flatMap fun d => if p d then f d else [])) (.ref P) → RR (.ref P) C (.ok .next) s') :
    wpAny (model X.G.prog X.G.w) A (newList []) (fun acc s₃ => wpAny (model X.G.prog X.G.w) A (newFunctionEnv scope X.env.globals (clAdd X.env.cells scope.names []) [] X.env.qual none .none (some X.env)) (fun cenv s₄ =>
      codeAny (model X.G.prog X.G.w) A (.compStart (.ListComp elt (⟨target, iter, ifs, 0⟩ :: rest) scope pos) 0 (.ref I) acc { cenv with scope := relabel scope X.env }) (RR acc cenv.locals) s₄) E s₃) E s1 := by
  have hok' := hok
  unfold compOk at hok'
  simp only [Bool.and_eq_true, List.all_eq_true, beq_iff_eq, decide_eq_true_eq] at hok'
  obtain ⟨⟨hall, hnd⟩, hkind⟩ := hok'
  have hcell : ∀ y ∈ scope.names, y.2 ≠ .cell := fun y hy e => by have := (hall y hy).1; rw [e] at this; simp at this
  have hno' : NoOwn Γ' := fun i l e => by obtain ⟨d, _, _, e2, _⟩ := hΓ i _ e; cases e2
  refine wpAny_newObj_type (wpAny_newFunctionEnv hcell (by intro y hy; simp at hy) (fun h₁ hns₁ hsb₁ => ?_) hkind)
  dsimp only at hns₁ hsb₁ ⊢
  generalize hH2 : s1.heap.push { cls := .type "list", dict := none, data := .seq ([] : List Value).toArray } = H2 at hns₁ hsb₁ ⊢
  have hC : H2.objs.size = s1.heap.objs.size + 1 := by rw [← hH2, Heap.size_push]
  have hDC : s1.heap.objs.size ≠ H2.objs.size := by rw [hC]; exact Nat.ne_of_lt (Nat.lt_succ_self _)
  have below : ∀ b o, s1.heap.get? b = some o → b ≠ H2.objs.size ∧ b ≠ s1.heap.objs.size := fun b o e => by
    have hb := Heap.lt_size e
    exact ⟨by rw [hC]; exact Nat.ne_of_lt (Nat.lt_succ_of_lt hb), Nat.ne_of_lt hb⟩
  have old : ∀ b o, s1.heap.get? b = some o → h₁.get? b = some o := fun b o e => hsb₁.extBut b o (below b o e).1 (Heap.get?_push_of_some _ (hH2 ▸ Heap.get?_push_of_some _ e))
  have hacc : h₁.PlainList s1.heap.objs.size #[] := ⟨_, hsb₁.extBut _ _ hDC (Heap.get?_push_of_some _ (hH2 ▸ Heap.get?_push_size _ rfl))⟩
  have g1 := g.up R.hst
  generalize hs4 : ({ s1 with heap := h₁, toks := s1.toks + ([] : List (PySem.Str × Value)).length } : Shared) = s4
  have st14 : Step s1 s4 := by rw [← hs4]; exact step_heap old (Nat.le_add_right _ _)
  have P0 := none_of (h := s1.heap) (Nat.le_refl _)
  have C0 : s1.heap.get? H2.objs.size = none := none_of (by rw [hC]; exact Nat.le_succ _)
  have h4 : s4.heap = h₁ := by rw [← hs4]
  obtain ⟨n0, hacc'⟩ := id hacc
  have st4 : Step s s4 := R.hst.trans st14
  have gc := g.comp (N := fun a => a ∈ wr ∨ a = s1.heap.objs.size) hok hΓ st4 (step_none R.hst C0) (by rw [h4]; exact hns₁) fun b hb => by
    rcases hb with hb | rfl
    · obtain ⟨⟨o, e⟩, _⟩ := R.hfp b (R.sub b hb)
      exact ⟨R.hwr b hb, o, st14.kp _ _ e⟩
    · exact ⟨step_none R.hst P0, _, by rw [h4]; exact hacc'⟩
  have hP0 : X.h₀.get? s1.heap.objs.size = none := by
    cases e : X.h₀.get? s1.heap.objs.size with
    | none => rfl
    | some o => have := g1.keep _ _ e; rw [P0] at this; cases this
  let X' : Cx := cX X scope H2.objs.size fun a => X.ban ad Γ a ∨ (a ∈ wr ∨ a = s1.heap.objs.size)
  have hfpc : ∀ b ∈ fp, (∃ o, s4.heap.get? b = some o) ∧ b ≠ X'.env.locals ∧ (∀ n c, X'.env.cells.lookup n = some c → b ≠ c) ∧ b ≠ s1.heap.objs.size := fun b hb => by
    obtain ⟨⟨o, e⟩, p1, p2, p3⟩ := R.hfp b hb
    refine ⟨⟨o, st14.kp _ _ e⟩, (below b o e).1, fun n c hc => ?_, (below b o e).2⟩
    rcases clAdd_mem _ _ _ (mem_of_lookup hc) with h | ⟨h1, h2⟩
    · cases h
    · have : ((relabel scope X.env).names.map (·.1)).Nodup := by rw [relabel_nodup]; exact hnd
      obtain ⟨y, hy⟩ : ∃ y, X.env.scope.names.contains (n, NameKind.cell) = true := by
        have := (hall _ h1).2
        simp only [bne_self_eq_false, Bool.false_or] at this
        exact ⟨n, this⟩
      obtain ⟨c', hc'⟩ := Option.isSome_iff_exists.mp (g1.fx.cl (n, .cell) (List.contains_iff_mem.mp hy) rfl)
      simp only at h2 hc'
      rw [hc'] at h2
      rw [show c = c' from h2]
      exact p2 _ c' hc'
  have hwrc : ∀ b ∈ wr, X'.h₀.get? b = none ∧ (X'.B b ∨ (¬ X'.B b ∧ ∀ (i : Nat) (h : Heap) (o : Obj) (xs : Array Value) (n : Nat), St i h → h.get? b = some o → o.data ≠ .seq xs n)) := fun b hb => by
    have h0 := R.hwr b hb
    refine ⟨?_, .inl (.inr (.inl hb))⟩
    cases e2 : X.h₀.get? b with
    | none => rfl
    | some o2 => have := g.keep _ _ e2; rw [h0] at this; cases this
  have hPw : s1.heap.objs.size ∉ wr := fun h => (hfpc _ (R.sub _ h)).2.2.2 rfl
  have hst4 : St 0 s4.heap := R.frame _ _ _ R.hst0 fun b _ o e => st14.kp b o e
  have loop : codeAny (model X.G.prog X.G.w) A (.compLoop (.ListComp elt (⟨target, iter, ifs, 0⟩ :: rest) scope pos) 0 (.ref I) (.ref s1.heap.objs.size) X'.env) (RR (.ref s1.heap.objs.size) H2.objs.size) s4 := by
    refine comp_loop (X := X') (Γ := Γ') (P := s1.heap.objs.size) (ds0 := []) (ys0 := []) (tgt := tgt) (p := p) (f := f) (body := body s1.heap.objs.size X'.env) (hT I _ _) hno' hr (.inr (.inr rfl)) hP0 gc R.sub R.frame R.pull R.done hst4 hfpc hwrc hPw R.hex st14.kp
      (fun b hb => hb.imp id fun h => h.elim .inr fun h => .inl (by rw [h]; exact P0)) (fun o xs n e => absurd (C0.symm.trans e) (by simp)) (.inr P0) (by rw [h4]; exact hacc) (by simp only [Reps]) (fun d hd A s v Q E hr g r hq => htg _ _ d hd A s ad v Q E hr g r hq) (fun d hd s gd => gd.less (hless d hd).1 (hless d hd).2) (fun d hd => hts _ _ d hd) (fun d hd hp => hbd _ _ _ hP0 d hd hp)
      (by simpa using hsz) fun s5 ys5 mv5 ns5 g5 pl5 r5 => ?_
    have kp5 : Kp s.heap s5.heap := fun b o e0 => by
      have e := R.hst.kp _ _ e0
      exact mv5.2.2 b o (st14.kp _ _ e) (below b o e).1 (below b o e).2 fun hb => by rw [R.hwr b hb] at e0; cases e0
    have sr5 : SR s s5 := R.hst.sr.trans (st14.sr.trans mv5.1)
    have tk5 : s.toks ≤ s5.toks := Nat.le_trans R.hst.toks (Nat.le_trans st14.toks mv5.2.1)
    have st5 : Step s s5 := by
      obtain ⟨h', t', e⟩ := sr5
      subst e
      exact ⟨h', t', rfl, kp5, tk5⟩
    refine hRR _ _ s5 st5 ns5 (fun e => ?_) (step_none R.hst C0) ?_
    · obtain ⟨m, o, _, _, e2, _⟩ := g1.ns
      exact (below _ o e2).1 e.symm
    · simp only [Rep]
      refine ⟨_, ys5, rfl, g1.fresh _ (Nat.le_refl _), pl5.isList, Reps.bar (B := X'.B) (fun a o xs n hb e _ => Or.inl hb) _ _ (by simpa using r5), hsz⟩
  exact codeAny_compStart_list loop (R.self 0 _ _ _ hst4 loop)
end
section
variable {X : Cx} {Γ : Gam} {Φ : Out → Prop}

theorem flat_filter {p : D → Bool} {f : D → D} : ∀ ds : List D, (ds.flatMap fun d => if p d then [f d] else []) = (ds.filter p).map f
  | [] => rfl
  | d :: ds => by
    rw [List.flatMap_cons, flat_filter ds]
    cases h : p d <;> simp [h]

theorem relabel_local {scope : Scope} {env : Env} {i : Nat} {x : PySem.Str} (h : scope.names[i]? = some (x, .local)) : (relabel scope env).names[i]? = some (x, .local) := by
  unfold relabel
  rw [List.getElem?_map, h]
  rfl

theorem compOk_hyps {scope : Scope} (hok : compOk scope X.env.scope.names = true) : scope.kind = .function ∧ (∀ y ∈ scope.names, y.2 = .local → scope.names.lookup y.1 = some .local) ∧ (∀ y ∈ scope.names, y.2 = .free → (y.1, NameKind.cell) ∈ X.env.scope.names) := by
  unfold compOk at hok
  simp only [Bool.and_eq_true, List.all_eq_true, beq_iff_eq, decide_eq_true_eq] at hok
  obtain ⟨⟨hall, hnd⟩, hkind⟩ := hok
  refine ⟨hkind, fun y hy hl => ?_, fun y hy hk => ?_⟩
  · obtain ⟨i, hi⟩ := List.mem_iff_getElem?.mp hy
    exact lookup_nodup _ i y.1 .local hnd (by rw [hi, ← hl])
  · have := (hall y hy).2
    rw [hk] at this
    simpa using this

theorem closure_of {s : Shared} {ad : Nat → Addr} {scope : Scope} (g : Gd X ad Γ s) (hok : compOk scope X.env.scope.names = true) : closureFor scope X.env = pure (clAdd X.env.cells scope.names []) :=
  closure_eq fun y hy hk => g.fx.cl (y.1, .cell) ((compOk_hyps hok).2.2 y hy hk) rfl

/-- the frame of the comprehension is let go -/
theorem Gd.letgo {s0 s : Shared} {ad : Nat → Addr} {C : Addr} {h' : Heap} (g0 : Gd X ad Γ s0) {Γ1 : Gam} (g : Gd X ad Γ1 s) (h0 : s0.heap.get? C = none) (hC : ∃ m, s.heap.Ns C m) (hl : C ≠ X.env.locals) (sb : Heap.SameBut C s.heap h') : Gd X ad Γ1 { s with heap := h' } := by
  refine g.but (wr := [C]) (fun b o hb e => (sb.2 b fun q => hb (by simp [q])).trans e) (Nat.le_refl _) fun b hb => ?_
  rw [List.mem_singleton.mp hb]
  obtain ⟨m, o, es, ep, e1, e2, _⟩ := hC
  refine ⟨?_, hl, fun n c hc q => ?_, fun hB => ?_, fun o' xs n e d => ?_⟩
  · cases e : X.h₀.get? C with
    | none => rfl
    | some o => have := g0.keep _ _ e; rw [h0] at this; cases this
  · obtain ⟨v, o', q1, q2⟩ := g.cells n c hc
    rw [← q, e1] at q1; cases q1; rw [e2] at q2; cases q2
  · obtain ⟨o', q1⟩ := g0.low _ hB; rw [h0] at q1; cases q1
  · rw [e1] at e; cases e; rw [e2] at d; cases d

theorem rep_letgo {B : Addr → Prop} {s : Shared} {C : Addr} {h' : Heap} {d : D} {v : Value} (r : Rep B s.heap d v) (hC : ∃ m, s.heap.Ns C m) (sb : Heap.SameBut C s.heap h') : Rep B h' d v :=
  Rep.up (fun b o xs n _ e dd => (sb.2 b fun q => by
    obtain ⟨m, o', es, ep, e1, e2, _⟩ := hC
    rw [q, e1] at e; cases e; rw [e2] at dd; cases dd).trans e) _ _ r

theorem step_letgo {s0 s : Shared} {C : Addr} {h' : Heap} (st : Step s0 s) (h0 : s0.heap.get? C = none) (sb : Heap.SameBut C s.heap h') : Step s0 { s with heap := h' } := by
  obtain ⟨h1, t1, rfl, k, l⟩ := st
  exact ⟨h', t1, rfl, fun b o e => (sb.2 b fun q => by rw [q, h0] at e; cases e).trans (k _ _ e), l⟩

/-- what a comprehension with one clause asks -/
structure CompHyp (X : Cx) (Γ : Gam) (elt target iter : PySem.Expr) (ifs : List PySem.Expr) (scope : Scope) (pos : Pos) (ds : List D) (p : D → Bool) (f : D → D) : Prop where
  ok : compOk scope X.env.scope.names = true
  ex : ∃ (Γ' : Gam) (tgt : D → Gam), FreeIn X Γ scope Γ' ∧ (∀ C B, ∀ d ∈ ds, CTgt (cX X scope C B) Γ' target d (tgt d)) ∧ (∀ d ∈ ds, NoOwn (tgt d) ∧ ∀ (i : Nat) e, Γ'[i]? = some (some e) → (tgt d)[i]? = some (some e)) ∧
    (∀ C B, ∀ d ∈ ds, Tst (cX X scope C B) (tgt d) ifs (p d)) ∧ (∀ C B, ∀ d ∈ ds, p d = true → Ev (cX X scope C B) (tgt d) elt (f d))
  it : ∃ z, It X Γ target iter ds z
  sz : ds.length ≤ 4194304

theorem CompHyp.name {elt iter : PySem.Expr} {x : PySem.Str} {px : Pos} {ifs : List PySem.Expr} {scope : Scope} {pos : Pos} {ds : List D} {p : D → Bool} {f : D → D} (i : Nat) (Γ' : Gam) {z : Bool} (hit : It X Γ (.Name x px) iter ds z) (hok : compOk scope X.env.scope.names = true) (hi : scope.names[i]? = some (x, .local))
    (hΓ : FreeIn X Γ scope Γ') (hts : ∀ C B, ∀ d ∈ ds, Tst (cX X scope C B) (Γ'.set i (some (.v d))) ifs (p d)) (helt : ∀ C B, ∀ d ∈ ds, p d = true → Ev (cX X scope C B) (Γ'.set i (some (.v d))) elt (f d)) (hsz : ds.length ≤ 4194304) :
    CompHyp X Γ elt (.Name x px) iter ifs scope pos ds p f := by
  have hno : NoOwn Γ' := fun i l e => by obtain ⟨d, _, _, e2, _⟩ := hΓ i _ e; cases e2
  refine ⟨hok, ⟨Γ', fun d => Γ'.set i (some (.v d)), hΓ, fun C B d _ => CTgt.name hno (relabel_local hi), fun d _ => ⟨fun j l e => ?_, fun j e h => ?_⟩, hts, helt⟩, ⟨_, hit⟩, hsz⟩
  · rcases set_get e with ⟨_, e2⟩ | ⟨_, e2⟩
    · cases e2
    · exact hno j l e2
  · rw [List.getElem?_set_ne]
    · exact h
    · intro q
      obtain ⟨_, _, _, _, e2, _⟩ := hΓ j _ h
      rw [← q, hi] at e2; cases e2

theorem comp_wp {elt target iter : PySem.Expr} {ifs : List PySem.Expr} {scope : Scope} {pos : Pos} {ds : List D} {p : D → Bool} {f : D → D} (c : CompHyp X Γ elt target iter ifs scope pos ds p f)
    {A : Around} {E : Value → Shared → Prop} {s s1 : Shared} {ad : Nat → Addr} {I : Addr} {fp wr : List Addr} {St : Nat → Heap → Prop} {RR : Value → Addr → Result → Shared → Prop}
    (hr : Room X.k A) (g : Gd X ad Γ s) {z : Bool} (R : RdyIt X Γ ad A target s s1 ds I fp wr St z)
    (hRR : ∀ P C s', Step s s' → (∃ m, s'.heap.Ns C m) → C ≠ X.env.locals → s.heap.get? C = none → Rep (X.ban ad Γ) s'.heap (.lst ((ds.filter p).map f)) (.ref P) → RR (.ref P) C (.ok .next) s') :
    wpAny (model X.G.prog X.G.w) A (newList []) (fun acc s₃ => wpAny (model X.G.prog X.G.w) A (newFunctionEnv scope X.env.globals (clAdd X.env.cells scope.names []) [] X.env.qual none .none (some X.env)) (fun cenv s₄ =>
      codeAny (model X.G.prog X.G.w) A (.compStart (.ListComp elt [⟨target, iter, ifs, 0⟩] scope pos) 0 (.ref I) acc { cenv with scope := relabel scope X.env }) (RR acc cenv.locals) s₄) E s₃) E s1 := by
  obtain ⟨hok, ⟨Γ', tgt, hΓ, htg, hless, hts, helt⟩, ⟨_, hit⟩, hsz⟩ := c
  refine comp_block (f := fun d => [f d]) (body := fun P env => (do let _ ← PySem.call (.builtin "list.append") [.ref P, ← eval elt env])) (fun _ _ _ => rfl) hr g R hok hΓ htg hless hts (fun C B P h0 d hd hp => Emit.elt (hless d hd).1 h0 (helt C B d hd hp)) (by rw [flat_filter, List.length_map]; exact Nat.le_trans (List.length_filter_le _ _) hsz) ?_
  intro P C s' st hC hl h0 r
  rw [flat_filter] at r
  exact hRR P C s' st hC hl h0 r

theorem Ev.comp {elt target iter : PySem.Expr} {ifs : List PySem.Expr} {scope : Scope} {pos : Pos} {ds : List D} {p : D → Bool} {f : D → D} (c : CompHyp X Γ elt target iter ifs scope pos ds p f)
    (hs : ∀ x, foldedSetIterable iter X.env x = pure x := by intro _; rfl) : Ev X Γ (.ListComp elt [⟨target, iter, ifs, 0⟩] scope pos) (.lst ((ds.filter p).map f)) := fun A s ad Q E hr g hq => by
  rw [eval_ListComp]
  obtain ⟨hkind, hnames, _⟩ := compOk_hyps c.ok
  obtain ⟨z, cit⟩ := c.it
  refine wpAny_comprehension_free (use := none) rfl hs (closure_of g c.ok) hkind hnames (cit A s ad _ E hr g fun s1 I fp wr St R => ?_)
  refine comp_wp c (RR := fun acc C => compPost (model X.G.prog X.G.w) A E none Q acc C) hr g R fun P C s' st hC hl h0 r => ?_
  obtain ⟨m, hm⟩ := id hC
  exact ⟨m, hm, fun h' sb => hq _ _ (step_letgo st h0 sb) (rep_letgo r hC sb)⟩

/-- x = [.. for ..], x the frame's own name -/
theorem XS.asgComp {elt target iter : PySem.Expr} {ifs : List PySem.Expr} {scope : Scope} {pos spos py : Pos} {y : PySem.Str} {i : Nat} {ds : List D} {p : D → Bool} {f : D → D} (c : CompHyp X Γ elt target iter ifs scope pos ds p f)
    (hi : X.env.scope.names[i]? = some (y, .local)) (hφ : Φ (.next (Γ.set i (some (.v (.lst ((ds.filter p).map f)))))))
    (hsw : swapsWith (.ListComp elt [⟨target, iter, ifs, 0⟩] scope pos) (some (.Name y py)) spos.line X.env = pure true)
    (hs : ∀ x, foldedSetIterable iter X.env x = pure x := by intro _; rfl) :
    XS X Γ (.Assign [.Name y py] (.ListComp elt [⟨target, iter, ifs, 0⟩] scope pos) spos) Φ := fun fx A s ad Q E hr g hq => by
  rw [exec_Assign_Name_used _ _ _ _ hsw]
  refine wpAny_bind (wpAny_standAt (wpAny_bind ?_))
  show wpAny _ A (do let _ ← comprehension (.ListComp elt [⟨target, iter, ifs, 0⟩] scope pos) scope X.env _ (newList []) false (eval iter X.env) (some (assign (.Name y py) X.env))) _ _ s
  obtain ⟨hkind, hnames, _⟩ := compOk_hyps c.ok
  obtain ⟨z, cit⟩ := c.it
  refine wpAny_bind (wpAny_mono (wpAny_comprehension_free (use := some (assign (.Name y py) X.env)) (Q := fun _ s' => Q .next s') rfl hs (closure_of g c.ok) hkind hnames
    (cit A s ad _ E hr g fun s1 I fp wr St R => ?_)) (fun _ s' hq => wpAny_pure (wpAny_pure hq)) fun _ _ e => e)
  refine comp_wp c (RR := fun acc C => compPost (model X.G.prog X.G.w) A E (some (assign (.Name y py) X.env)) (fun _ s' => Q .next s') acc C) hr g R fun P C s' st hC hl h0 r => ?_
  show wpAny _ A (assign (.Name y py) X.env (.ref P)) _ _ _
  refine wpAny_assign_Name (store_ofL fx (g.up st) hi (.inl rfl) r fun s2 mv kp lo g2 => ?_)
  have hC2 : ∃ m, s2.heap.Ns C m := by
    obtain ⟨m, hm⟩ := hC
    exact ⟨m, hm.sameBut (lo rfl).1 hl⟩
  obtain ⟨m, hm⟩ := id hC2
  refine ⟨m, hm, fun h' sb => ?_⟩
  have g3 := Gd.letgo g g2 h0 hC2 hl sb
  refine hq _ _ _ hφ ?_ ⟨rfl, ad, g3, fresh_set⟩
  have mv2 : Mv X (ow ad Γ) s s2 := Mv.after st (mv.weak fun _ h => h.elim)
  exact ⟨mv2.1.trans ⟨h', s2.toks, rfl⟩, fun b o e h1 h2 h3 => (sb.2 b fun q => by rw [q, h0] at e; cases e).trans (mv2.2 b o e h1 h2 h3)⟩
end
section
variable {X : Cx} {Γ : Gam} {Φ : Out → Prop}

theorem Pull.ofWalksT {A : Around} {elts : List PySem.Expr} {k : Nat} {tp : Pos} {I : Addr} {s1 : Shared} {Bn : Addr → Prop} {fp wr : List Addr} {Pt : Nat → Array Value → Prop} {St : Nat → Heap → Prop} {Mid : Nat → Addr → Heap → Prop} {ds : List D} {n : Nat} (hn : n = ds.length)
    (hW : WalksT X.G.prog X.G.w A I fp wr n Pt St Mid)
    (hP : ∀ i vals, Pt i vals → ∃ l, ds[i]? = some (.tup l) ∧ Reps (fun b => Bn b ∨ b ∈ wr) s1.heap l vals.toList ∧ l.length ≤ 4194304) : Pull X A (.Tuple elts k tp) I s1 Bn wr St ds := fun i s' Q E d hd hst keep hq => by
  subst hn
  have hlt : i < ds.length := by
    rcases Nat.lt_or_ge i ds.length with h | h
    · exact h
    · rw [List.getElem?_eq_none h] at hd; cases hd
  refine wp_toks (hW.item i s' _ _ hlt hst fun T vals h1 tk hPt hT hTup hMid hk htk => hq (.ref T) h1 tk htk fun Q' hq' E' => ?_)
  refine hW.go elts k tp i T _ _ _ hMid fun h2 hst2 hk2 => hq' h2 hst2 (fun b o hb e => hk2 b o hb (hk b o hb e)) ?_
  obtain ⟨l, e1, r, hz⟩ := hP i vals hPt
  rw [hd] at e1; cases e1
  have hTw := hW.apart i T h1 hMid
  obtain ⟨o, q1, q2, q3⟩ := hTup
  simp only [Rep]
  refine ⟨T, vals.toList, rfl, fun hb => ?_, ⟨o, hk2 T o hTw q1, q2, by simpa using q3⟩, ?_, hz⟩
  · obtain ⟨⟨o2, e2⟩, _⟩ := hb
    exact Nat.lt_irrefl _ (Nat.lt_of_lt_of_le (Heap.lt_size e2) hT)
  · refine Reps.bar (B := fun b => (Bn b ∨ b ∈ wr) ∨ Zb s1 s' Bn wr b) (fun b o xs n hb _ _ => .inr hb) _ _ (Reps.up (h := s1.heap) (fun b o xs n nb e dd => ?_) _ _ (Reps.bar (fun b o xs n hb e dd => ?_) _ _ r))
    · have nw : b ∉ wr := fun h => nb (.inl (.inr h))
      exact hk2 b o nw (hk b o nw (keep b o xs n (fun h => nb (.inl (.inl h))) nw e dd))
    · rcases hb with hb | ⟨_, hb | hb | hb⟩
      · exact hb
      · exact .inl hb
      · rw [hb] at e; cases e
      · exact .inr hb

/-- a call of a built-in type, its value as it comes -/
theorem callT_wp {A : Around} {s : Shared} {ad : Nat → Addr} {Q : Value → Shared → Prop} {E : Value → Shared → Prop} {f : PySem.Str} {T : String} {p pos : Pos} {e : PySem.Expr} {es : List PySem.Expr} {i : Nat} {ds : List D} (hi : X.env.scope.names[i]? = some (f, .globalImplicit)) (hm : f ∈ biNames) (hb : bootBuiltins f = some (.type T))
    (hd : (f == ("__debug__" : PySem.Str)) = false) (hs : EvL X Γ (e :: es) ds) (hr : Room X.k A) (g : Gd X ad Γ s)
    (h : ∀ vs s1, Step s s1 → Reps (X.ban ad Γ) s1.heap ds vs → wpAny (model X.G.prog X.G.w) A (PySem.call (.type T) vs) Q E s1)
    (he : nst e = true) (hp : es.all nst = true) : wpAny (model X.G.prog X.G.w) A (eval (.Call (.Name f p) (e :: es) [] pos) X.env) Q E s :=
  Call_ (bi_name g hi hm hb hd (PyProof.Rows.callWith_type1 (hs A s ad _ E pos hr g fun vs s1 st r => h vs s1 st r) (star_cons he) (no_star hp))) call_name

noncomputable def rangeD (a : Int) (n : Nat) : List D := (List.range n).map fun i : Nat => .int (a + (i : Int))

theorem range_ready {A : Around} {s s1 : Shared} {ad : Nat → Addr} {target : PySem.Expr} {r : Addr} {a b : Int} {t u v : Tok} {Q : Value → Shared → Prop} {E : Value → Shared → Prop} (hr : Room X.k A) (g : Gd X ad Γ s) (st : Step s s1) (hR : IsRange s1.heap r a b 1 t u v)
    (h1 : -(2 ^ 62) ≤ a) (h2 : a < 2 ^ 62) (h3 : -(2 ^ 62) ≤ b) (h4 : b < 2 ^ 62) (hgo : ∀ it v, letOwnedTupleGo target it v = pure ())
    (hq : ∀ s2 I fp wr St, RdyIt X Γ ad A target s s2 (rangeD a (b - a).toNat) I fp wr St false → Q (.ref I) s2) : wpAny (model X.G.prog X.G.w) A (pyIter (.ref r)) Q E s1 := by
  refine wpAny_pyIter_range hR (small_one h1 h2 h3 h4) ?_
  have hn : Builtin.Range.rangeSize a b 1 = (((b - a).toNat : Nat) : Int) := by
    rw [rangeSize_one]; split <;> omega
  have W := Walks.range (prog := X.G.prog) (w := X.G.w) (A := A) hr.1 s1.heap.objs.size a 1 (b - a).toNat
  rw [show (b - a).toNat = (rangeD a (b - a).toNat).length from by simp [rangeD]] at W
  have g1 := g.up st
  have e0 : IsRangeIter (s1.heap.push { cls := .type "range_iterator", data := .fields #[rawInt a, rawInt (Builtin.Range.rangeSize a b 1), rawInt 1] }) s1.heap.objs.size (a + ((0 : Nat) : Int) * 1) (((rangeD a (b - a).toNat).length : Nat) - ((0 : Nat) : Int)) 1 := by
    have := Heap.get?_push_size s1.heap (o := { cls := .type "range_iterator", data := .fields #[rawInt a, rawInt (Builtin.Range.rangeSize a b 1), rawInt 1] }) rfl
    rw [hn] at this ⊢
    simpa [rangeD] using this
  refine hq _ _ [s1.heap.objs.size] [s1.heap.objs.size] (fun i h => IsRangeIter h s1.heap.objs.size (a + (i : Nat) * 1) (((rangeD a (b - a).toNat).length : Nat) - ((i : Nat) : Int)) 1) ?_
  have hns : ∀ (i : Nat) (h : Heap) (b' : Addr) (o : Obj) (xs : Array Value) (n : Nat), IsRangeIter h s1.heap.objs.size (a + (i : Nat) * 1) (((rangeD a (b - a).toNat).length : Nat) - ((i : Nat) : Int)) 1 → b' ∈ [s1.heap.objs.size] → h.get? b' = some o → o.data ≠ .seq xs n := fun i h b' o xs n hs hb' e => by
    rw [List.mem_singleton.mp hb', hs] at e
    cases e; simp
  have g2 := g1.up (step_h (s := s1) (h' := s1.heap.push { cls := .type "range_iterator", data := .fields #[rawInt a, rawInt (Builtin.Range.rangeSize a b 1), rawInt 1] }) kp_push)
  refine ⟨st.trans (step_h kp_push), W.sub, W.frame, Pull.ofWalks W (hgo _) hns e0 fun i v hi hP => ?_, W.done, W.self, e0, fun b' hb' => ?_, fun b' hb' => ?_, fun b' hb' => ?_, fun _ => hns, fun i h b' hs hb' => ?_⟩
  · obtain ⟨t', rfl⟩ := hP
    have hi' : i < (b - a).toNat := by simpa [rangeD] using hi
    refine ⟨.int (a + (i : Int)), by simp [rangeD, List.getElem?_range hi'], by simp only [Rep]; exact ⟨t', by rw [Int.mul_one]⟩⟩
  · rw [List.mem_singleton.mp hb']
    obtain ⟨p1, p2, p3⟩ := g2.fields_off (Heap.get?_push_size _ rfl) rfl
    exact ⟨⟨_, Heap.get?_push_size _ rfl⟩, p1, p2, p3⟩
  · rw [List.mem_singleton.mp hb']; exact step_none st (none_of (Nat.le_refl _))
  · rw [List.mem_singleton.mp hb']; exact fun h => g1.fresh _ (Nat.le_refl _) (.inl h)
  · rw [List.mem_singleton.mp hb']; exact ⟨_, hs⟩

theorem It.range1 {target e : PySem.Expr} {n : Int} {i : Nat} {p pos : Pos} (hi : X.env.scope.names[i]? = some (("range" : PySem.Str), .globalImplicit)) (h : Ev X Γ e (.int n)) (h1 : -(2 ^ 62) ≤ n) (h2 : n < 2 ^ 62) (hgo : ∀ it v, letOwnedTupleGo target it v = pure () := by intro _ _; rfl)
    (he : nst e = true := by rfl) :
    It X Γ target (.Call (.Name "range" p) [e] [] pos) (rangeD 0 n.toNat) false := fun A s ad Q E hr g hq =>
  callT_wp hi (by decide +kernel) PyProof.Rows.Boot.«range» (by decide) (EvL.cons h EvL.nil he) hr g (fun vs s1 st r => by
    obtain ⟨v, rfl, r1⟩ := reps1 r
    simp only [Rep] at r1; obtain ⟨t, rfl⟩ := r1
    refine call_range_1 (range_ready hr g (st.trans (step_heap (kp_push (o := { cls := .type "range", data := .fields #[.int 0 s1.toks, .int n t, .int 1 (s1.toks + 1)] })) (k := s1.toks + 1 + 1) (Nat.le_trans (Nat.le_succ _) (Nat.le_succ _)))) (IsRange.new _ _ _ _ _ _ _) (by decide) (by decide) h1 h2 hgo (by rw [Int.sub_zero]; exact hq))) he rfl
theorem It.range2 {target e e2 : PySem.Expr} {a b : Int} {i : Nat} {p pos : Pos} (hi : X.env.scope.names[i]? = some (("range" : PySem.Str), .globalImplicit)) (h : Ev X Γ e (.int a)) (h' : Ev X Γ e2 (.int b)) (h1 : -(2 ^ 62) ≤ a) (h2 : a < 2 ^ 62) (h3 : -(2 ^ 62) ≤ b) (h4 : b < 2 ^ 62)
    (hgo : ∀ it v, letOwnedTupleGo target it v = pure () := by intro _ _; rfl)
    (he : nst e = true := by rfl) (he2 : nst e2 = true := by rfl) (hp : List.all [e2] nst = true := by rfl) :
    It X Γ target (.Call (.Name "range" p) [e, e2] [] pos) (rangeD a (b - a).toNat) false := fun A s ad Q E hr g hq =>
  callT_wp hi (by decide +kernel) PyProof.Rows.Boot.«range» (by decide) (EvL.cons h (EvL.cons h' EvL.nil he2) he) hr g (fun vs s1 st r => by
    obtain ⟨v, u, rfl, r1, r2⟩ := reps2 r
    simp only [Rep] at r1 r2; obtain ⟨t, rfl⟩ := r1; obtain ⟨t2, rfl⟩ := r2
    exact call_range_2 (range_ready hr g (st.trans (step_heap (kp_push (o := { cls := .type "range", data := .fields #[.int a t, .int b t2, .int 1 s1.toks] })) (k := s1.toks + 1) (Nat.le_succ _))) (IsRange.new _ _ _ _ _ _ _) h1 h2 h3 h4 hgo hq)) he hp

noncomputable def enumD (ds : List D) : List D := ds.mapIdx fun i d => .tup [.int i, d]

theorem It.enum {elts : List PySem.Expr} {kk : Nat} {tp : Pos} {e : PySem.Expr} {ds : List D} {i : Nat} {p pos : Pos} (hi : X.env.scope.names[i]? = some (("enumerate" : PySem.Str), .globalImplicit)) (h : Ev X Γ e (.lst ds))
    (he : nst e = true := by rfl) :
    It X Γ (.Tuple elts kk tp) (.Call (.Name "enumerate" p) [e] [] pos) (enumD ds) false := fun A s ad Q E hr g hq =>
  callT_wp hi (by decide +kernel) PyProof.Rows.Boot.«enumerate» (by decide) (EvL.cons h EvL.nil he) hr g (fun vs0 s1 st r => by
    obtain ⟨v, rfl, r1⟩ := reps1 r
    simp only [Rep] at r1
    obtain ⟨a, vs, rfl, hb, hl, rs, hz⟩ := r1
    have g1 := g.up st
    have el := Reps.length _ _ rs
    obtain ⟨o, e1, e2, n, e3⟩ := id hl
    have halt : a < s1.heap.objs.size := Heap.lt_size e1
    refine call_enumerate_list hl fun h' hE hLi hsz hk => ?_
    refine wpAny_pyIter_enum (s := { s1 with heap := h' }) hE ?_
    have W := WalksT.enumerate (prog := X.G.prog) (w := X.G.w) (A := A) hr.1 (s1.heap.objs.size + 1) s1.heap.objs.size a (Nat.succ_ne_self _) (Nat.ne_of_lt (Nat.lt_succ_of_lt halt)) (Nat.ne_of_lt halt) vs.toArray
    have hst0 : (∃ old, IsEnum h' (s1.heap.objs.size + 1) s1.heap.objs.size ((0 : Nat) : Int) old) ∧ h'.IsListIter s1.heap.objs.size a 0 ∧ h'.IsList a vs.toArray := ⟨⟨_, hE⟩, hLi, hl.at fun o e => hk _ o e⟩
    have g2 := g1.up (step_h (s := s1) (h' := h') hk)
    have no1 : s.heap.get? s1.heap.objs.size = none := step_none st (none_of (Nat.le_refl _))
    have no2 : s.heap.get? (s1.heap.objs.size + 1) = none := step_none st (none_of (Nat.le_succ _))
    refine hq _ _ [s1.heap.objs.size + 1, s1.heap.objs.size, a] [s1.heap.objs.size + 1, s1.heap.objs.size] (fun i h => (∃ old, IsEnum h (s1.heap.objs.size + 1) s1.heap.objs.size i old) ∧ h.IsListIter s1.heap.objs.size a i ∧ h.IsList a vs.toArray) ?_
    have hlen : vs.toArray.size = (enumD ds).length := by simp [enumD, el]
    refine ⟨st.trans (step_h hk), W.sub, W.frame, Pull.ofWalksT hlen W fun i vals hP => ?_, hlen ▸ W.done, W.self, hst0, fun b hb' => ?_, fun b hb' => ?_, fun b hb' => ?_, fun _ i h b o' xs n' hs hb' e' => ?_, fun i h b hs hb' => ?_⟩
    · obtain ⟨t, x, hx, rfl⟩ := hP
      obtain ⟨d, q1, q2⟩ := Reps.get' _ _ i x rs (by simpa using hx)
      refine ⟨[.int i, d], by simp [enumD, List.getElem?_mapIdx, q1], ?_, Nat.le_of_ble_eq_true rfl⟩
      simp only [Reps, Rep]
      refine ⟨_, _, rfl, ⟨t, rfl⟩, _, _, rfl, Rep.up (Kp.s hk) _ _ (Rep.bar (fun b o' xs n' hb' e' dd => ?_) _ _ q2), rfl⟩
      rcases hb' with hb' | hb'
      · exact hb'
      · have hlt := Heap.lt_size e'
        simp only [List.mem_cons, List.not_mem_nil, or_false] at hb'
        rcases hb' with rfl | rfl
        · exact absurd hlt (Nat.not_lt.mpr (Nat.le_succ _))
        · exact absurd hlt (Nat.lt_irrefl _)
    · simp only [List.mem_cons, List.not_mem_nil, or_false] at hb'
      rcases hb' with rfl | rfl | rfl
      · obtain ⟨p1, p2, p3⟩ := g2.fields_off (a := s1.heap.objs.size + 1) hE rfl
        exact ⟨⟨_, hE⟩, p1, p2, p3⟩
      · obtain ⟨o5, q5, q6, q7⟩ := hLi
        obtain ⟨p1, p2, p3⟩ := g2.fields_off (a := s1.heap.objs.size) q5 q7
        exact ⟨⟨_, q5⟩, p1, p2, p3⟩
      · obtain ⟨p1, p2⟩ := g1.seq_off e1 e3
        exact ⟨⟨_, hk _ _ e1⟩, p1, p2, fun h => hb (.inr h)⟩
    · simp only [List.mem_cons, List.not_mem_nil, or_false] at hb'
      rcases hb' with rfl | rfl
      · exact no2
      · exact no1
    · simp only [List.mem_cons, List.not_mem_nil, or_false] at hb'
      rcases hb' with rfl | rfl | rfl
      · exact fun h => g1.fresh _ (Nat.le_succ _) (.inl h)
      · exact fun h => g1.fresh _ (Nat.le_refl _) (.inl h)
      · exact fun h => hb (.inl h)
    · simp only [List.mem_cons, List.not_mem_nil, or_false] at hb'
      obtain ⟨⟨old, q1⟩, ⟨o5, q5, q6, q7⟩, _⟩ := hs
      rcases hb' with rfl | rfl
      · rw [q1] at e'; cases e'; simp
      · rw [q5] at e'; cases e'; rw [q7]; simp
    · simp only [List.mem_cons, List.not_mem_nil, or_false] at hb'
      obtain ⟨⟨old, q1⟩, ⟨o5, q5, q6, q7⟩, _⟩ := hs
      rcases hb' with rfl | rfl
      · exact ⟨_, q1⟩
      · exact ⟨_, q5⟩) he rfl

noncomputable def zipD (ds es : List D) : List D := (ds.zip es).map fun p => .tup [p.1, p.2]

theorem It.zip {elts : List PySem.Expr} {kk : Nat} {tp : Pos} {e e' : PySem.Expr} {ds es : List D} {i : Nat} {p pos : Pos} (hi : X.env.scope.names[i]? = some (("zip" : PySem.Str), .globalImplicit)) (h : Ev X Γ e (.lst ds)) (h' : Ev X Γ e' (.lst es))
    (he : nst e = true := by rfl) (he2 : nst e' = true := by rfl) (hp : List.all [e'] nst = true := by rfl) :
    It X Γ (.Tuple elts kk tp) (.Call (.Name "zip" p) [e, e'] [] pos) (zipD ds es) true := fun A s ad Q E hr g hq =>
  callT_wp hi (by decide +kernel) PyProof.Rows.Boot.«zip» (by decide) (EvL.cons h (EvL.cons h' EvL.nil he2) he) hr g (fun vs0 s1 st r => by
    obtain ⟨v, u, rfl, r1, r2⟩ := reps2 r
    simp only [Rep] at r1 r2
    obtain ⟨a, vs, rfl, hb, hl, rs, hz⟩ := r1
    obtain ⟨a', vs', rfl, hbz, hl', rs', hz'⟩ := r2
    have g1 := g.up st
    have el := Reps.length _ _ rs
    have el' := Reps.length _ _ rs'
    obtain ⟨o, e1, e2, n, e3⟩ := id hl
    obtain ⟨o', e1', e2', n', e3'⟩ := id hl'
    have halt : a < s1.heap.objs.size := Heap.lt_size e1
    have halt' : a' < s1.heap.objs.size := Heap.lt_size e1'
    refine call_zip_2 hl hl' fun h' hZ hTI hTO hi1 hi2 hsz hk => ?_
    refine wpAny_pyIter_zip (s := { s1 with heap := h' }) hZ ?_
    generalize hm : s1.heap.objs.size = m at *
    have W := WalksT.zip2 (prog := X.G.prog) (w := X.G.w) (A := A) hr.1 (m + 4) (m + 2) (m + 3) m (m + 1) a a' (zipApart_new halt halt') vs.toArray vs'.toArray
    have no : ∀ j, s.heap.get? (m + j) = none := fun j => step_none st (none_of (by rw [hm]; exact Nat.le_add_right _ _))
    have g2 := g1.up (step_h (s := s1) (h' := h') hk)
    have fr : ∀ j, ¬ X.ban ad Γ (m + j) := fun j => g1.fresh _ (by rw [hm]; exact Nat.le_add_right _ _)
    refine hq _ _ [m + 4, m + 2, m + 3, m, m + 1, a, a'] [m + 4, m + 3, m, m + 1]
      (fun i h => IsZip h (m + 4) (m + 2) (m + 3) .none ∧ IsPair h (m + 2) (.ref m) (.ref (m + 1)) ∧ (∃ x y, IsPair h (m + 3) x y) ∧ h.IsListIter m a i ∧ h.IsListIter (m + 1) a' i ∧ h.IsList a vs.toArray ∧ h.IsList a' vs'.toArray) ?_
    have hlen : min vs.toArray.size vs'.toArray.size = (zipD ds es).length := by simp [zipD, el, el']
    have hst0 : IsZip h' (m + 4) (m + 2) (m + 3) .none ∧ IsPair h' (m + 2) (.ref m) (.ref (m + 1)) ∧ (∃ x y, IsPair h' (m + 3) x y) ∧ h'.IsListIter m a 0 ∧ h'.IsListIter (m + 1) a' 0 ∧ h'.IsList a vs.toArray ∧ h'.IsList a' vs'.toArray :=
      ⟨hZ, hTI, ⟨_, _, hTO⟩, hi1, hi2, hl.at fun o e => hk _ o e, hl'.at fun o e => hk _ o e⟩
    have seqo : ∀ b ∈ [m + 2, m + 3], ∃ o xs n, h'.get? b = some o ∧ o.data = .seq xs n := fun b hb => by
      simp only [List.mem_cons, List.not_mem_nil, or_false] at hb
      rcases hb with rfl | rfl
      · exact ⟨_, _, _, hTI, rfl⟩
      · exact ⟨_, _, _, hTO, rfl⟩
    refine ⟨st.trans (step_h hk), W.sub, W.frame, Pull.ofWalksT hlen W fun i vals hP => ?_, hlen ▸ W.done, W.self, hst0, fun b hb' => ?_, fun b hb' => ?_, fun b hb' => ?_, (fun hz => by cases hz), fun i h b hs hb' => ?_⟩
    · obtain ⟨x, y, hx, hy, rfl⟩ := hP
      obtain ⟨d, q1, q2⟩ := Reps.get' _ _ i x rs (by simpa using hx)
      obtain ⟨d', q1', q2'⟩ := Reps.get' _ _ i y rs' (by simpa using hy)
      have big : ∀ b o' xs n', (X.ban ad Γ b ∨ b ∈ [m + 4, m + 3, m, m + 1]) → s1.heap.get? b = some o' → o'.data = .seq xs n' → X.ban ad Γ b := fun b o' xs n' hb' e' dd => by
        rcases hb' with hb' | hb'
        · exact hb'
        · have hlt := Heap.lt_size e'
          rw [hm] at hlt
          simp only [List.mem_cons, List.not_mem_nil, or_false] at hb'
          rcases hb' with rfl | rfl | rfl | rfl
          · exact absurd hlt (Nat.not_lt.mpr (Nat.le_add_right _ _))
          · exact absurd hlt (Nat.not_lt.mpr (Nat.le_add_right _ _))
          · exact absurd hlt (Nat.lt_irrefl _)
          · exact absurd hlt (Nat.not_lt.mpr (Nat.le_add_right _ _))
      refine ⟨[d, d'], by unfold zipD; rw [List.getElem?_map, (List.getElem?_zip_eq_some (z := (d, d'))).mpr ⟨q1, q1'⟩]; rfl, ?_, Nat.le_of_ble_eq_true rfl⟩
      simp only [Reps]
      exact ⟨_, _, rfl, Rep.up (Kp.s hk) _ _ (Rep.bar big _ _ q2), _, _, rfl, Rep.up (Kp.s hk) _ _ (Rep.bar big _ _ q2'), rfl⟩
    · simp only [List.mem_cons, List.not_mem_nil, or_false] at hb'
      rcases hb' with rfl | rfl | rfl | rfl | rfl | rfl | rfl
      · obtain ⟨p1, p2, p3⟩ := g2.fields_off (a := m + 4) hZ rfl
        exact ⟨⟨_, hZ⟩, p1, p2, p3⟩
      · obtain ⟨p1, p2⟩ := g2.seq_off (a := m + 2) hTI rfl
        exact ⟨⟨_, hTI⟩, p1, p2, fun h => fr 2 (.inr h)⟩
      · obtain ⟨p1, p2⟩ := g2.seq_off (a := m + 3) hTO rfl
        exact ⟨⟨_, hTO⟩, p1, p2, fun h => fr 3 (.inr h)⟩
      · obtain ⟨o5, q5, q6, q7⟩ := hi1
        obtain ⟨p1, p2, p3⟩ := g2.fields_off q5 q7
        exact ⟨⟨_, q5⟩, p1, p2, p3⟩
      · obtain ⟨o5, q5, q6, q7⟩ := hi2
        obtain ⟨p1, p2, p3⟩ := g2.fields_off q5 q7
        exact ⟨⟨_, q5⟩, p1, p2, p3⟩
      · obtain ⟨p1, p2⟩ := g1.seq_off e1 e3
        exact ⟨⟨_, hk _ _ e1⟩, p1, p2, fun h => hb (.inr h)⟩
      · obtain ⟨p1, p2⟩ := g1.seq_off e1' e3'
        exact ⟨⟨_, hk _ _ e1'⟩, p1, p2, fun h => hbz (.inr h)⟩
    · simp only [List.mem_cons, List.not_mem_nil, or_false] at hb'
      rcases hb' with rfl | rfl | rfl | rfl
      · exact no 4
      · exact no 3
      · exact no 0
      · exact no 1
    · simp only [List.mem_cons, List.not_mem_nil, or_false] at hb'
      rcases hb' with rfl | rfl | rfl | rfl | rfl | rfl | rfl
      · exact fun h => fr 4 (.inl h)
      · exact fun h => fr 2 (.inl h)
      · exact fun h => fr 3 (.inl h)
      · exact fun h => fr 0 (.inl h)
      · exact fun h => fr 1 (.inl h)
      · exact fun h => hb (.inl h)
      · exact fun h => hbz (.inl h)
    · simp only [List.mem_cons, List.not_mem_nil, or_false] at hb'
      obtain ⟨q1, q2, ⟨x, y, q3⟩, ⟨o5, q5, _⟩, ⟨o6, q6, _⟩, _⟩ := hs
      rcases hb' with rfl | rfl | rfl | rfl
      · exact ⟨_, q1⟩
      · exact ⟨_, q3⟩
      · exact ⟨_, q5⟩
      · exact ⟨_, q6⟩) he hp
end
theorem Binds.plain {df : Df} {xs : List PySem.Str} {ds : List D} (hn : df.params.defaults = []) (h : ∀ fd : FuncData, fd.params = df.params → fd.defaults = .none → ∀ vs : List Value, vs.length = ds.length → bindArgs fd ⟨vs, []⟩ = pure (xs.zip vs)) : Binds df xs ds ds :=
  fun fd M A s B vs E Q hp hd hB r hq => by
    rcases hd with ⟨_, hd⟩ | ⟨e0, _⟩
    · rw [h fd hp hd vs (Reps.length _ _ r)]
      exact wpAny_pure (hq vs s (Step.refl s) r)
    · exact absurd hn e0

noncomputable def fnOk (df : Df) (xs : List PySem.Str) : Bool :=
  (df.scope.names.map (·.1)).take xs.length == xs && decide ((df.scope.names.map (·.1)).Nodup) && (df.scope.names.take xs.length).all (fun y => y.2 == .local || y.2 == .cell) && !df.scope.isCoroutine && !df.scope.isGenerator && df.scope.kind == .function

theorem lenS {α : Type} {l : List α} {n : Nat} (h : l.length = n + 1) : ∃ a t, l = a :: t ∧ t.length = n := by
  cases l with
  | nil => cases h
  | cons a t => exact ⟨a, t, rfl, Nat.succ.inj h⟩
theorem len1 {α : Type} {vs : List α} (h : vs.length = 1) : ∃ a, vs = [a] := by
  obtain ⟨a, t, rfl, h1⟩ := lenS h
  exact ⟨a, by rw [List.eq_nil_of_length_eq_zero h1]⟩
theorem len2 {α : Type} {vs : List α} (h : vs.length = 2) : ∃ a b, vs = [a, b] := by
  obtain ⟨a, t, rfl, h1⟩ := lenS h
  obtain ⟨b, rfl⟩ := len1 h1
  exact ⟨a, b, rfl⟩
theorem len3 {α : Type} {vs : List α} (h : vs.length = 3) : ∃ a b c, vs = [a, b, c] := by
  obtain ⟨a, t, rfl, h1⟩ := lenS h
  obtain ⟨b, c, rfl⟩ := len2 h1
  exact ⟨a, b, c, rfl⟩
theorem len4 {α : Type} {vs : List α} (h : vs.length = 4) : ∃ a b c d, vs = [a, b, c, d] := by
  obtain ⟨a, t, rfl, h1⟩ := lenS h
  obtain ⟨b, c, d, rfl⟩ := len3 h1
  exact ⟨a, b, c, d, rfl⟩
theorem len6 {α : Type} {vs : List α} (h : vs.length = 6) : ∃ a b c d e f, vs = [a, b, c, d, e, f] := by
  obtain ⟨a, t, rfl, h1⟩ := lenS h
  obtain ⟨b, t, rfl, h2⟩ := lenS h1
  obtain ⟨c, d, e, f, rfl⟩ := len4 h2
  exact ⟨a, b, c, d, e, f, rfl⟩

theorem gam_get {ds : List D} {m i : Nat} {e : Ent} (h : (ds.map (fun d => some (.v d)) ++ List.replicate m (none : Option Ent))[i]? = some (some e)) : ∃ d, e = .v d ∧ ds[i]? = some d ∧ i < ds.length := by
  rw [List.getElem?_append] at h
  split at h
  · rename_i hlt
    rw [List.length_map] at hlt
    rw [List.getElem?_map, List.getElem?_eq_getElem hlt] at h
    simp only [Option.map_some, Option.some.injEq] at h
    exact ⟨ds[i], h.symm, List.getElem?_eq_getElem hlt, hlt⟩
  · rw [List.getElem?_replicate] at h
    split at h <;> cases h

/-- a def's walk, its names told in order -/
theorem Spec.fn {G : Gl} {i : Nat} {k : Nat} {xs : List PySem.Str} {ds ds' : List D} {d : D} (hG : GP G) (hi : i < 37) (hb : Binds (dfAt i) xs ds ds') (hx : xs.length = ds'.length) (hok : fnOk (dfAt i) xs = true) (m : Nat)
    (walk : ∀ L a q cd B h₀, XJ (cx G k i L a q cd B h₀) (ds'.map (fun d => some (.v d)) ++ List.replicate m (none : Option Ent)) (dfAt i).body (fun o => o = .ret d)) : Spec G (dfAt i).name (k + 1) ds d := by
  unfold fnOk at hok
  simp only [Bool.and_eq_true, beq_iff_eq, decide_eq_true_eq, List.all_eq_true, Bool.or_eq_true, Bool.not_eq_true'] at hok
  obtain ⟨⟨⟨⟨⟨h1, h2⟩, h3⟩, h4⟩, h5⟩, h6⟩ := hok
  have hget : ∀ (j : Nat) x, xs[j]? = some x → ∃ kk, (dfAt i).scope.names[j]? = some (x, kk) ∧ (kk = .local ∨ kk = .cell) := fun j x hj => by
    rw [← h1, List.getElem?_take] at hj
    split at hj
    · rename_i hlt
      rw [List.getElem?_map] at hj
      cases e : (dfAt i).scope.names[j]? with
      | none => rw [e] at hj; cases hj
      | some y =>
        rw [e] at hj
        simp only [Option.map_some, Option.some.injEq] at hj
        subst hj
        refine ⟨y.2, rfl, h3 y ?_⟩
        rw [List.mem_iff_getElem?]
        exact ⟨j, by rw [List.getElem?_take, if_pos hlt]; exact e⟩
    · cases hj
  refine Spec.intro (Γ := ds'.map (fun d => some (.v d)) ++ List.replicate m (none : Option Ent)) (hG.mem hi) hb hx ?_ (fun x hx' => ?_) h2 (fun j e hj => ?_) walk h4 h5 h6
  · rw [← h1]; exact List.Sublist.nodup (List.take_sublist _ _) h2
  · obtain ⟨j, hj⟩ := List.mem_iff_getElem?.mp hx'
    obtain ⟨kk, e, hk⟩ := hget j x hj
    rcases hk with rfl | rfl
    · exact .inl (lookup_nodup _ j x .local h2 e)
    · exact .inr (lookup_nodup _ j x .cell h2 e)
  · obtain ⟨d', rfl, e2, hlt⟩ := gam_get hj
    obtain ⟨x, hxj⟩ : ∃ x, xs[j]? = some x := ⟨xs[j]'(by omega), List.getElem?_eq_getElem (by omega)⟩
    obtain ⟨kk, e, hk⟩ := hget j x hxj
    exact ⟨x, kk, j, d', rfl, e, hxj, e2⟩

/-- a test that is decided -/
theorem XS.iteF {X : Cx} {Γ : Gam} {Φ : Out → Prop} {t : PySem.Expr} {b o : List Stmt} {p : Pos} (ht : Tr X Γ t false) (ho : XJ X Γ o Φ) : XS X Γ (.If t b o p) Φ := XS.ite ht (fun h => by cases h) fun _ => ho
theorem XS.iteT {X : Cx} {Γ : Gam} {Φ : Out → Prop} {t : PySem.Expr} {b o : List Stmt} {p : Pos} (ht : Tr X Γ t true) (ho : XJ X Γ b Φ) : XS X Γ (.If t b o p) Φ := XS.ite ht (fun _ => ho) fun h => by cases h

theorem Ev.strK {X : Cx} {Γ : Gam} {x : PySem.Str} {y : List Nat} {k : Nat} {p : Pos} (h : L x = y) (hz : y.length ≤ 1048576) : Ev X Γ (.Constant (.str x) k p) (.str y) := h ▸ Ev.str (h.symm ▸ hz)
theorem K0 : L (PySem.Str.ofString "cpy313.xml.etree.ElementTree") = [99, 112, 121, 51, 49, 51, 46, 120, 109, 108, 46, 101, 116, 114, 101, 101, 46, 69, 108, 101, 109, 101, 110, 116, 84, 114, 101, 101] := rfl
theorem K1 : L (PySem.Str.ofString "os") = [111, 115] := rfl
theorem K2 : L (PySem.Str.ofString "abc") = [97, 98, 99] := rfl
theorem K3 : L (PySem.Str.ofString "collections.abc") = [99, 111, 108, 108, 101, 99, 116, 105, 111, 110, 115, 46, 97, 98, 99] := rfl
theorem K4 : L (PySem.Str.ofString "cpy313.genericpath") = [99, 112, 121, 51, 49, 51, 46, 103, 101, 110, 101, 114, 105, 99, 112, 97, 116, 104] := rfl
theorem K5 : L (PySem.Str.ofString "cpy313.posixpath") = [99, 112, 121, 51, 49, 51, 46, 112, 111, 115, 105, 120, 112, 97, 116, 104] := rfl
theorem K6 : L (PySem.Str.ofString "law_in0030_01") = [108, 97, 119, 95, 105, 110, 48, 48, 51, 48, 95, 48, 49] := rfl
theorem K7 : L (PySem.Str.ofString "__fspath__") = [95, 95, 102, 115, 112, 97, 116, 104, 95, 95] := rfl
theorem K8 : L (PySem.Str.ofString "") = [] := rfl
theorem K9 : L (PySem.Str.ofString "/") = [47] := rfl
theorem K10 : L (PySem.Str.ofString ".") = [46] := rfl
theorem K11 : L (PySem.Str.ofString "..") = [46, 46] := rfl
theorem K12 : L (PySem.Str.ofString "&") = [38] := rfl
theorem K13 : L (PySem.Str.ofString "a") = [97] := rfl
theorem K14 : L (PySem.Str.ofString "<") = [60] := rfl
theorem K15 : L (PySem.Str.ofString ">") = [62] := rfl
theorem K16 : L (PySem.Str.ofString "\"") = [34] := rfl
theorem K17 : L (PySem.Str.ofString "/../") = [47, 46, 46, 47] := rfl
theorem K18 : L (PySem.Str.ofString "\r") = [13] := rfl
theorem K19 : L (PySem.Str.ofString "\n") = [10] := rfl
theorem K20 : L (PySem.Str.ofString "\t") = [9] := rfl
theorem K21 : L (PySem.Str.ofString "&lt;") = [38, 108, 116, 59] := rfl
theorem K22 : L (PySem.Str.ofString "/b") = [47, 98] := rfl
theorem K23 : L (PySem.Str.ofString "b.") = [98, 46] := rfl
theorem K24 : L (PySem.Str.ofString "amp") = [97, 109, 112] := rfl
theorem K25 : L (PySem.Str.ofString "lt") = [108, 116] := rfl
theorem K26 : L (PySem.Str.ofString "gt") = [103, 116] := rfl
theorem K27 : L (PySem.Str.ofString "quot") = [113, 117, 111, 116] := rfl
theorem K28 : L (PySem.Str.ofString "#13") = [35, 49, 51] := rfl
theorem K29 : L (PySem.Str.ofString "#10") = [35, 49, 48] := rfl
theorem K30 : L (PySem.Str.ofString "#09") = [35, 48, 57] := rfl
theorem K31 : L (PySem.Str.ofString "#xD") = [35, 120, 68] := rfl
theorem K32 : L (PySem.Str.ofString "#xA") = [35, 120, 65] := rfl
theorem K33 : L (PySem.Str.ofString "#x9") = [35, 120, 57] := rfl
theorem K34 : L (PySem.Str.ofString "//") = [47, 47] := rfl
theorem K35 : L (PySem.Str.ofString "</e>") = [60, 47, 101, 62] := rfl
theorem K36 : L (PySem.Str.ofString "cannot serialize %r (type %s)") = [99, 97, 110, 110, 111, 116, 32, 115, 101, 114, 105, 97, 108, 105, 122, 101, 32, 37, 114, 32, 40, 116, 121, 112, 101, 32, 37, 115, 41] := rfl
theorem K37 : L (PySem.Str.ofString "no path specified") = [110, 111, 32, 112, 97, 116, 104, 32, 115, 112, 101, 99, 105, 102, 105, 101, 100] := rfl
theorem K38 : L (PySem.Str.ofString "commonpath() arg is an empty sequence") = [99, 111, 109, 109, 111, 110, 112, 97, 116, 104, 40, 41, 32, 97, 114, 103, 32, 105, 115, 32, 97, 110, 32, 101, 109, 112, 116, 121, 32, 115, 101, 113, 117, 101, 110, 99, 101] := rfl
theorem K39 : L (PySem.Str.ofString ";") = [59] := rfl
theorem K40 : L (PySem.Str.ofString "\">") = [34, 62] := rfl
theorem K41 : L (PySem.Str.ofString "&amp;") = [38, 97, 109, 112, 59] := rfl
theorem K42 : L (PySem.Str.ofString "&gt;") = [38, 103, 116, 59] := rfl
theorem K43 : L (PySem.Str.ofString "&quot;") = [38, 113, 117, 111, 116, 59] := rfl
theorem K44 : L (PySem.Str.ofString "&#13;") = [38, 35, 49, 51, 59] := rfl
theorem K45 : L (PySem.Str.ofString "&#10;") = [38, 35, 49, 48, 59] := rfl
theorem K46 : L (PySem.Str.ofString "&#09;") = [38, 35, 48, 57, 59] := rfl
theorem K47 : L (PySem.Str.ofString "&#xD;") = [38, 35, 120, 68, 59] := rfl
theorem K48 : L (PySem.Str.ofString "&#x9;") = [38, 35, 120, 57, 59] := rfl
theorem K49 : L (PySem.Str.ofString "&#xA;") = [38, 35, 120, 65, 59] := rfl
theorem K50 : L (PySem.Str.ofString "issubclass() arg 1 must be a class") = [105, 115, 115, 117, 98, 99, 108, 97, 115, 115, 40, 41, 32, 97, 114, 103, 32, 49, 32, 109, 117, 115, 116, 32, 98, 101, 32, 97, 32, 99, 108, 97, 115, 115] := rfl
theorem K51 : L (PySem.Str.ofString "utf-8") = [117, 116, 102, 45, 56] := rfl
theorem K52 : L (PySem.Str.ofString "join") = [106, 111, 105, 110] := rfl
theorem K53 : L (PySem.Str.ofString "relpath") = [114, 101, 108, 112, 97, 116, 104] := rfl
theorem K54 : L (PySem.Str.ofString "commonpath") = [99, 111, 109, 109, 111, 110, 112, 97, 116, 104] := rfl
theorem K55 : L (PySem.Str.ofString "m&") = [109, 38] := rfl
theorem K56 : L (PySem.Str.ofString "n") = [110] := rfl
theorem K57 : L (PySem.Str.ofString "/m&/n/") = [47, 109, 38, 47, 110, 47] := rfl
theorem K58 : L (PySem.Str.ofString "/m&/n") = [47, 109, 38, 47, 110] := rfl
theorem K59 : L (PySem.Str.ofString "Can't mix absolute and relative paths") = [67, 97, 110, 39, 116, 32, 109, 105, 120, 32, 97, 98, 115, 111, 108, 117, 116, 101, 32, 97, 110, 100, 32, 114, 101, 108, 97, 116, 105, 118, 101, 32, 112, 97, 116, 104, 115] := rfl
theorem K60 : L (PySem.Str.ofString "\" h=\"") = [34, 32, 104, 61, 34] := rfl
theorem K61 : L (PySem.Str.ofString "<e b=\"") = [60, 101, 32, 98, 61, 34] := rfl
theorem K62 : L (PySem.Str.ofString "<e b=") = [60, 101, 32, 98, 61] := rfl
theorem K63 : L (PySem.Str.ofString " h=") = [32, 104, 61] := rfl
theorem getLast_str {st : List (List Nat)} (h : (D.lst (st.map D.str)).tru = true) : (st.map D.str).getLast? = some (.str (st.getLast?.getD [])) := by
  rw [List.getLast?_map]
  cases e : st.getLast? with
  | none => rw [List.getLast?_eq_none_iff] at e; subst e; simp [D.tru] at h
  | some x => rfl
theorem atK {α : Type} (k : Nat) {l : List α} {x : α} (h : l[k]? = some x) : l[k]? = some x := h
theorem Pt.no {X : Cx} {Γ : Gam} : Pt X Γ none none := trivial
theorem Pt.so {X : Cx} {Γ : Gam} {e : PySem.Expr} {i : Int} (h : Ev X Γ e (.int i)) : Pt X Γ (some e) (some i) := h
theorem Ev.bin {X : Cx} {Γ : Gam} {a b : PySem.Expr} {op : Operator} {p : Pos} {x y z : D} (ha : EvO X Γ a x) (hb : EvO X Γ b y) (hop : Bin X Γ op x y z) : Ev X Γ (.BinOp a op b p) z := Ev.binop ha hb hop
theorem Ev.cm {X : Cx} {Γ : Gam} {a b : PySem.Expr} {op : CmpOp} {p : Pos} {x y : D} {c : Bool} (ha : EvO X Γ a x) (hb : EvO X Γ b y) (hop : Cmp X Γ op x y c) (hm : behindInMarks op b = false := by with_unfolding_all rfl) : Ev X Γ (.Compare a [op] [b] p) (.bool c) := Ev.cmp ha hb hop hm
theorem Tr.cm {X : Cx} {Γ : Gam} {a b : PySem.Expr} {op : CmpOp} {p : Pos} {x y : D} {c : Bool} (ha : EvO X Γ a x) (hb : EvO X Γ b y) (hop : Cmp X Γ op x y c) (hm : behindInMarks op b = false := by with_unfolding_all rfl) : Tr X Γ (.Compare a [op] [b] p) c := Tr.cmp ha hb hop hm
theorem Cmp.in_one {X : Cx} {Γ : Gam} {x : List Nat} {c : Nat} : Cmp X Γ .In (.str [c]) (.str x) (decide (c ∈ x)) := by rw [← txt_contains]; exact Cmp.in_str
local macro_rules
  | `(tactic| walk_at "side") => `(tactic| first | assumption | decide | omega | exact Nat.le_of_ble_eq_true rfl | (simp only [List.length_append, List.length_cons, List.length_nil, List.length_map] at *; omega))
  | `(tactic| walk_at "ix") => `(tactic| first | assumption | rfl | exact getLast_str (by assumption))
  | `(tactic| walk_at "bin") => `(tactic| first | exact Bin.add_str (by walk_at "side") | exact Bin.add_int | exact Bin.sub_int | exact Bin.add_lst (by walk_at "side") | exact Bin.mod_int (by decide) | exact Bin.fdiv_int (by decide) (by decide) | exact Bin.mul_str (by walk_at "side") (by walk_at "side"))
  | `(tactic| walk_at "cmp") => `(tactic| first | exact Cmp.eq_str | exact Cmp.ne_str | exact Cmp.eq_int | exact Cmp.lt_int | exact Cmp.in_one | exact notIn_strs (l := [[], [46]]))
section
seal Ev EvO Tr XS XJ EvL Pt Cmp Bin Spec Tst It Emit
theorem bind_1 {i : Nat} {x : PySem.Str} {d : D} (hn : (dfAt i).params.defaults = []) (h : ∀ fd : FuncData, fd.params = (dfAt i).params → fd.defaults = .none → ∀ v, bindArgs fd ⟨[v], []⟩ = pure ([x].zip [v])) : Binds (dfAt i) [x] [d] [d] := Binds.plain hn fun fd hp hd vs hl => by
  obtain ⟨v, rfl⟩ := len1 hl
  exact h fd hp hd v

theorem get_sep_spec {G : Gl} (hG : GP G) (x : List Nat) : Spec G "_get_sep" 1 [.str x] (.str [47]) := by
  refine Spec.fn (i := 12) (xs := ["path"]) hG (by decide) (bind_1 (by decide +kernel) fun fd hp hd v => by unfold bindArgs; rw [hp, hd]; rfl) rfl (by decide +kernel) 2 fun L a q cd B h₀ => ?_
  have h : dfAt 12 = ⟨_, _, _, _⟩ := rfl
  unfold cx
  rw [h]
  show XJ _ [some (.v _), none, none] _ _
  refine XJ.cons (XS.iteF (Tr.plain (Ev.o (Ev.isBytes (atK 1 rfl) (atK 2 rfl) (Ev.name (i := 0) rfl rfl ⟨rfl, rfl⟩)))) ?_)
  exact XJ.cons (XS.ret (Ev.strK K9 (by decide)) rfl)

theorem fspath_spec {G : Gl} (hG : GP G) (x : List Nat) : Spec G "fspath" 1 [.str x] (.str x) := by
  refine Spec.fn (i := 9) (xs := ["path"]) hG (by decide) (bind_1 (by decide +kernel) fun fd hp hd v => by unfold bindArgs; rw [hp, hd]; rfl) rfl (by decide +kernel) 12 fun L a q cd B h₀ => ?_
  have h : dfAt 9 = ⟨_, _, _, _⟩ := rfl
  unfold cx
  rw [h]
  show XJ _ [some (.v _), none, none, none, none, none, none, none, none, none, none, none, none] _ _
  refine XJ.cons (XS.asg (i := 1) (Ev.typeS (atK 4 rfl) (Ev.name (i := 0) rfl rfl ⟨rfl, rfl⟩)) rfl (by first | exact .inl rfl | exact .inr rfl) ?_) <;> try dsimp only [List.set]
  refine XJ.cons (XS.iteT (Tr.plain (Ev.o (Ev.issub (atK 5 rfl) (Ev.name (i := 1) rfl rfl ⟨rfl, rfl⟩) (Ev.ty (atK 6 rfl) (by decide +kernel) PyProof.Rows.Boot.«str» (by decide)) (Ev.ty (atK 7 rfl) (by decide +kernel) PyProof.Rows.Boot.«bytes» (by decide))))) ?_)
  exact XJ.cons (XS.ret (Ev.name (i := 0) rfl rfl ⟨rfl, rfl⟩) rfl)
end
/-- what several replacements make of one sign -/
noncomputable def fz (l : List (Nat × List Nat)) (a : Nat) : List Nat := l.foldl (fun acc p => rp p.1 p.2 acc) [a]
noncomputable def esc (l : List (Nat × List Nat)) (t : List Nat) : List Nat := t.flatMap (fz l)

theorem esc_nil (t : List Nat) : esc [] t = t := by
  unfold esc
  show t.flatMap (fun a => [a]) = t
  simp
theorem rp_append (c : Nat) (z a b : List Nat) : rp c z (a ++ b) = rp c z a ++ rp c z b := by unfold rp; rw [List.flatMap_append]
theorem rp_esc (c : Nat) (z : List Nat) (l : List (Nat × List Nat)) : ∀ t : List Nat, rp c z (esc l t) = esc (l ++ [(c, z)]) t
  | [] => rfl
  | a :: t => by
    have ih := rp_esc c z l t
    unfold esc at ih ⊢
    rw [List.flatMap_cons, List.flatMap_cons, rp_append, ih]
    congr 1
    unfold fz
    rw [List.foldl_append]; rfl
theorem fz_other (a : Nat) : ∀ (l : List (Nat × List Nat)), a ∉ l.map (·.1) → fz l a = [a] := fun l => by
  unfold fz
  induction l with
  | nil => intro _; rfl
  | cons p r ih =>
    intro h
    simp only [List.map_cons, List.mem_cons, not_or] at h
    rw [List.foldl_cons]
    have : rp p.1 p.2 [a] = [a] := by unfold rp; simp [h.1]
    rw [this]; exact ih h.2
theorem fz_len {l : List (Nat × List Nat)} {n : Nat} (hn : 1 ≤ n) (h : ∀ c ∈ l.map (·.1), (fz l c).length ≤ n) (a : Nat) : (fz l a).length ≤ n := by
  by_cases ha : a ∈ l.map (·.1)
  · exact h a ha
  · rw [fz_other a l ha]; simpa using hn
theorem esc_len {l : List (Nat × List Nat)} {n : Nat} (hn : 1 ≤ n) (h : ∀ c ∈ l.map (·.1), (fz l c).length ≤ n) : ∀ t : List Nat, (esc l t).length ≤ n * t.length
  | [] => by simp [esc]
  | a :: t => by
    have ih := esc_len hn h t
    unfold esc at ih ⊢
    rw [List.flatMap_cons, List.length_append, List.length_cons, Nat.mul_add, Nat.mul_one]
    have := fz_len hn h a
    omega

section
variable {X : Cx} {Γ : Gam} {Φ : Out → Prop}
theorem set_same {i : Nat} {v : Option Ent} (h : Γ[i]? = some v) : Γ.set i v = Γ := by
  obtain ⟨hi, e⟩ := List.getElem?_eq_some_iff.mp h
  rw [← e]; exact List.set_getElem_self hi

/-- if sign in x: x = x.replace(sign, other) -/
theorem XS.repl {x : PySem.Str} {y z : PySem.Str} {k k1 k2 : Nat} {p p2 p3 p4 p6 p7 p8 p9 apos pos p5 : Pos} {i : Nat} {t : List Nat} {l : List (Nat × List Nat)} {c : Nat} {zz : List Nat} (hi : X.env.scope.names[i]? = some (x, .local)) (hx : Γ[i]? = some (some (.v (.str (esc l t))))) (hn : plainNm x)
    (hy : L y = [c]) (hz : L z = zz) (hyz : (y == z) = false) (h14 : zz.length ≤ 14) (ht : t.length ≤ 170000) (hl : ∀ q ∈ (l ++ [(c, zz)]).map (·.1), (fz (l ++ [(c, zz)]) q).length ≤ 6)
    (hf : MForm X (.Name x p5) "replace" apos pos [.Constant (.str y) k1 p6, .Constant (.str z) k2 p7])
    (hφ : Φ (.next (Γ.set i (some (.v (.str (esc (l ++ [(c, zz)]) t))))))) :
    XS X Γ (.If (.Compare (.Constant (.str y) k p) [.In] [.Name x p2] p3) [.Assign [.Name x p4] (.Call (.Attribute (.Name x p5) "replace" apos) [.Constant (.str y) k1 p6, .Constant (.str z) k2 p7] [] pos) p8] [] p9) Φ := by
  have hyS : y = S [c] := by rw [← S_L y, hy]
  refine XS.ite (c := decide (c ∈ esc l t)) (Tr.cmp (Ev.o (Ev.strK hy (by simp))) (Ev.o (Ev.name hi hx hn)) Cmp.in_one) (fun _ => ?_) (fun h => ?_)
  · refine XJ.cons (XS.asg (Ev.replace (c := c) (Ev.name hi hx hn) hyS hyz (by rw [hz]; exact h14) ?_ hf) hi (.inl rfl) ?_)
    · rw [hz, rp_esc]
      exact Nat.le_trans (esc_len (by decide) hl t) (by omega)
    · refine XJ.nil ?_
      rw [hz, rp_esc]; exact hφ
  · refine XJ.nil ?_
    have h' : c ∉ esc l t := by simpa using h
    rw [← rp_esc, rp_free h', set_same hx] at hφ
    exact hφ
end

noncomputable def tA : List (Nat × List Nat) := [(38, [38, 97, 109, 112, 59]), (60, [38, 108, 116, 59]), (62, [38, 103, 116, 59]), (34, [38, 113, 117, 111, 116, 59]), (13, [38, 35, 49, 51, 59]), (10, [38, 35, 49, 48, 59]), (9, [38, 35, 48, 57, 59])]
noncomputable def tH : List (Nat × List Nat) := [(38, [38, 97, 109, 112, 59]), (62, [38, 103, 116, 59]), (34, [38, 113, 117, 111, 116, 59])]
noncomputable def tN : List (Nat × List Nat) := [(38, [38, 97, 109, 112, 59]), (60, [38, 108, 116, 59]), (34, [38, 113, 117, 111, 116, 59]), (9, [38, 35, 120, 57, 59]), (10, [38, 35, 120, 65, 59]), (13, [38, 35, 120, 68, 59])]
noncomputable def tC : List (Nat × List Nat) := [(38, [38, 97, 109, 112, 59]), (60, [38, 108, 116, 59]), (62, [38, 103, 116, 59])]
noncomputable def tD : List (Nat × List Nat) := [(38, [38, 97, 109, 112, 59]), (60, [38, 108, 116, 59]), (62, [38, 103, 116, 59]), (13, [38, 35, 120, 68, 59])]
noncomputable def tV (d : Int) : List (Nat × List Nat) := if d.fmod 3 == 0 then tA else if d.fmod 3 == 1 then tN else tH
noncomputable def tT (d : Int) : List (Nat × List Nat) := if (d.fdiv 3).fmod 2 == 0 then tC else tD
section
seal Ev EvO Tr XS XJ EvL Pt Cmp Bin Spec Tst It Emit
theorem escape_cdata_spec {G : Gl} (hG : GP G) (x : List Nat) (hx : x.length ≤ 170000) : Spec G "_escape_cdata" 1 [.str x] (.str (esc tC x)) := by
  suffices h : Spec G "_escape_cdata" 1 [.str (esc [] x)] (.str (esc tC x)) by rwa [esc_nil] at h
  refine Spec.fn (i := 2) (xs := ["text"]) hG (by decide) (bind_1 (by decide +kernel) fun fd hp hd v => by unfold bindArgs; rw [hp, hd]; rfl) rfl (by decide +kernel) 3 fun L a q cd B h₀ => ?_
  have h : dfAt 2 = ⟨_, _, _, _⟩ := rfl
  unfold cx
  rw [h]
  show XJ _ [some (.v _), none, none, none] _ _
  refine XJ.cons (XS.try_ ?_)
  refine XJ.cons (XS.repl (i := 0) rfl rfl ⟨rfl, rfl⟩ K12 K41 (by decide +kernel) (by decide) hx (by decide) rfl ?_)
  refine XJ.cons (XS.repl (i := 0) rfl rfl ⟨rfl, rfl⟩ K14 K21 (by decide +kernel) (by decide) hx (by decide) rfl ?_)
  refine XJ.cons (XS.repl (i := 0) rfl rfl ⟨rfl, rfl⟩ K15 K42 (by decide +kernel) (by decide) hx (by decide) rfl ?_)
  exact XJ.cons (XS.ret (Ev.name (i := 0) rfl rfl ⟨rfl, rfl⟩) rfl)

theorem escape_attrib_spec {G : Gl} (hG : GP G) (x : List Nat) (hx : x.length ≤ 170000) : Spec G "_escape_attrib" 1 [.str x] (.str (esc tA x)) := by
  suffices h : Spec G "_escape_attrib" 1 [.str (esc [] x)] (.str (esc tA x)) by rwa [esc_nil] at h
  refine Spec.fn (i := 3) (xs := ["text"]) hG (by decide) (bind_1 (by decide +kernel) fun fd hp hd v => by unfold bindArgs; rw [hp, hd]; rfl) rfl (by decide +kernel) 3 fun L a q cd B h₀ => ?_
  have h : dfAt 3 = ⟨_, _, _, _⟩ := rfl
  unfold cx
  rw [h]
  show XJ _ [some (.v _), none, none, none] _ _
  refine XJ.cons (XS.try_ ?_)
  refine XJ.cons (XS.repl (i := 0) rfl rfl ⟨rfl, rfl⟩ K12 K41 (by decide +kernel) (by decide) hx (by decide) rfl ?_)
  refine XJ.cons (XS.repl (i := 0) rfl rfl ⟨rfl, rfl⟩ K14 K21 (by decide +kernel) (by decide) hx (by decide) rfl ?_)
  refine XJ.cons (XS.repl (i := 0) rfl rfl ⟨rfl, rfl⟩ K15 K42 (by decide +kernel) (by decide) hx (by decide) rfl ?_)
  refine XJ.cons (XS.repl (i := 0) rfl rfl ⟨rfl, rfl⟩ K16 K43 (by decide +kernel) (by decide) hx (by decide) rfl ?_)
  refine XJ.cons (XS.repl (i := 0) rfl rfl ⟨rfl, rfl⟩ K18 K44 (by decide +kernel) (by decide) hx (by decide) rfl ?_)
  refine XJ.cons (XS.repl (i := 0) rfl rfl ⟨rfl, rfl⟩ K19 K45 (by decide +kernel) (by decide) hx (by decide) rfl ?_)
  refine XJ.cons (XS.repl (i := 0) rfl rfl ⟨rfl, rfl⟩ K20 K46 (by decide +kernel) (by decide) hx (by decide) rfl ?_)
  exact XJ.cons (XS.ret (Ev.name (i := 0) rfl rfl ⟨rfl, rfl⟩) rfl)

theorem escape_attrib_html_spec {G : Gl} (hG : GP G) (x : List Nat) (hx : x.length ≤ 170000) : Spec G "_escape_attrib_html" 1 [.str x] (.str (esc tH x)) := by
  suffices h : Spec G "_escape_attrib_html" 1 [.str (esc [] x)] (.str (esc tH x)) by rwa [esc_nil] at h
  refine Spec.fn (i := 4) (xs := ["text"]) hG (by decide) (bind_1 (by decide +kernel) fun fd hp hd v => by unfold bindArgs; rw [hp, hd]; rfl) rfl (by decide +kernel) 3 fun L a q cd B h₀ => ?_
  have h : dfAt 4 = ⟨_, _, _, _⟩ := rfl
  unfold cx
  rw [h]
  show XJ _ [some (.v _), none, none, none] _ _
  refine XJ.cons (XS.try_ ?_)
  refine XJ.cons (XS.repl (i := 0) rfl rfl ⟨rfl, rfl⟩ K12 K41 (by decide +kernel) (by decide) hx (by decide) rfl ?_)
  refine XJ.cons (XS.repl (i := 0) rfl rfl ⟨rfl, rfl⟩ K15 K42 (by decide +kernel) (by decide) hx (by decide) rfl ?_)
  refine XJ.cons (XS.repl (i := 0) rfl rfl ⟨rfl, rfl⟩ K16 K43 (by decide +kernel) (by decide) hx (by decide) rfl ?_)
  exact XJ.cons (XS.ret (Ev.name (i := 0) rfl rfl ⟨rfl, rfl⟩) rfl)

theorem escape_cdata_c14n_spec {G : Gl} (hG : GP G) (x : List Nat) (hx : x.length ≤ 170000) : Spec G "_escape_cdata_c14n" 1 [.str x] (.str (esc tD x)) := by
  suffices h : Spec G "_escape_cdata_c14n" 1 [.str (esc [] x)] (.str (esc tD x)) by rwa [esc_nil] at h
  refine Spec.fn (i := 5) (xs := ["text"]) hG (by decide) (bind_1 (by decide +kernel) fun fd hp hd v => by unfold bindArgs; rw [hp, hd]; rfl) rfl (by decide +kernel) 3 fun L a q cd B h₀ => ?_
  have h : dfAt 5 = ⟨_, _, _, _⟩ := rfl
  unfold cx
  rw [h]
  show XJ _ [some (.v _), none, none, none] _ _
  refine XJ.cons (XS.try_ ?_)
  refine XJ.cons (XS.repl (i := 0) rfl rfl ⟨rfl, rfl⟩ K12 K41 (by decide +kernel) (by decide) hx (by decide) rfl ?_)
  refine XJ.cons (XS.repl (i := 0) rfl rfl ⟨rfl, rfl⟩ K14 K21 (by decide +kernel) (by decide) hx (by decide) rfl ?_)
  refine XJ.cons (XS.repl (i := 0) rfl rfl ⟨rfl, rfl⟩ K15 K42 (by decide +kernel) (by decide) hx (by decide) rfl ?_)
  refine XJ.cons (XS.repl (i := 0) rfl rfl ⟨rfl, rfl⟩ K18 K47 (by decide +kernel) (by decide) hx (by decide) rfl ?_)
  exact XJ.cons (XS.ret (Ev.name (i := 0) rfl rfl ⟨rfl, rfl⟩) rfl)

theorem escape_attrib_c14n_spec {G : Gl} (hG : GP G) (x : List Nat) (hx : x.length ≤ 170000) : Spec G "_escape_attrib_c14n" 1 [.str x] (.str (esc tN x)) := by
  suffices h : Spec G "_escape_attrib_c14n" 1 [.str (esc [] x)] (.str (esc tN x)) by rwa [esc_nil] at h
  refine Spec.fn (i := 6) (xs := ["text"]) hG (by decide) (bind_1 (by decide +kernel) fun fd hp hd v => by unfold bindArgs; rw [hp, hd]; rfl) rfl (by decide +kernel) 3 fun L a q cd B h₀ => ?_
  have h : dfAt 6 = ⟨_, _, _, _⟩ := rfl
  unfold cx
  rw [h]
  show XJ _ [some (.v _), none, none, none] _ _
  refine XJ.cons (XS.try_ ?_)
  refine XJ.cons (XS.repl (i := 0) rfl rfl ⟨rfl, rfl⟩ K12 K41 (by decide +kernel) (by decide) hx (by decide) rfl ?_)
  refine XJ.cons (XS.repl (i := 0) rfl rfl ⟨rfl, rfl⟩ K14 K21 (by decide +kernel) (by decide) hx (by decide) rfl ?_)
  refine XJ.cons (XS.repl (i := 0) rfl rfl ⟨rfl, rfl⟩ K16 K43 (by decide +kernel) (by decide) hx (by decide) rfl ?_)
  refine XJ.cons (XS.repl (i := 0) rfl rfl ⟨rfl, rfl⟩ K20 K48 (by decide +kernel) (by decide) hx (by decide) rfl ?_)
  refine XJ.cons (XS.repl (i := 0) rfl rfl ⟨rfl, rfl⟩ K19 K49 (by decide +kernel) (by decide) hx (by decide) rfl ?_)
  refine XJ.cons (XS.repl (i := 0) rfl rfl ⟨rfl, rfl⟩ K18 K47 (by decide +kernel) (by decide) hx (by decide) rfl ?_)
  exact XJ.cons (XS.ret (Ev.name (i := 0) rfl rfl ⟨rfl, rfl⟩) rfl)
end
section
seal Ev EvO Tr XS XJ EvL Pt Cmp Bin Spec Tst It Emit
theorem bind_2 {i : Nat} {x y : PySem.Str} {d e : D} (hn : (dfAt i).params.defaults = []) (h : ∀ fd : FuncData, fd.params = (dfAt i).params → fd.defaults = .none → ∀ v u, bindArgs fd ⟨[v, u], []⟩ = pure ([x, y].zip [v, u])) : Binds (dfAt i) [x, y] [d, e] [d, e] := Binds.plain hn fun fd hp hd vs hl => by
  obtain ⟨v, u, rfl⟩ := len2 hl
  exact h fd hp hd v u
theorem bind_3 {i : Nat} {x y z : PySem.Str} {d e f : D} (hn : (dfAt i).params.defaults = []) (h : ∀ fd : FuncData, fd.params = (dfAt i).params → fd.defaults = .none → ∀ v u t, bindArgs fd ⟨[v, u, t], []⟩ = pure ([x, y, z].zip [v, u, t])) : Binds (dfAt i) [x, y, z] [d, e, f] [d, e, f] := Binds.plain hn fun fd hp hd vs hl => by
  obtain ⟨v, u, t, rfl⟩ := len3 hl
  exact h fd hp hd v u t
theorem bind_4 {i : Nat} {x y z z' : PySem.Str} {d e f f' : D} (hn : (dfAt i).params.defaults = []) (h : ∀ fd : FuncData, fd.params = (dfAt i).params → fd.defaults = .none → ∀ v u t t', bindArgs fd ⟨[v, u, t, t'], []⟩ = pure ([x, y, z, z'].zip [v, u, t, t'])) : Binds (dfAt i) [x, y, z, z'] [d, e, f, f'] [d, e, f, f'] := Binds.plain hn fun fd hp hd vs hl => by
  obtain ⟨v, u, t, t', rfl⟩ := len4 hl
  exact h fd hp hd v u t t'

theorem value_spec {G : Gl} (hG : GP G) (x : List Nat) (n : Int) (hx : x.length ≤ 170000) : Spec G "_law_value" 2 [.str x, .int n] (.str (esc (tV n) x)) := by
  have s1 := escape_attrib_spec hG x hx
  have s2 := escape_attrib_c14n_spec hG x hx
  have s3 := escape_attrib_html_spec hG x hx
  refine Spec.fn (i := 21) (xs := ["text", "dress"]) hG (by decide) (bind_2 (by decide +kernel) fun fd hp hd v u => by unfold bindArgs; rw [hp, hd]; rfl) rfl (by decide +kernel) 3 fun L a q cd B h₀ => ?_
  have h : dfAt 21 = ⟨_, _, _, _⟩ := rfl
  unfold cx
  rw [h]
  show XJ _ [some (.v _), some (.v _), none, none, none] _ _
  refine XJ.cons (XS.ite (Tr.cm (Ev.o (Ev.bin (Ev.o (Ev.name (i := 1) rfl rfl ⟨rfl, rfl⟩)) (Ev.o Ev.int) (by walk_at "bin"))) (Ev.o Ev.int) (by walk_at "cmp")) (fun hc => ?_) (fun hc => ?_))
  · have e : tV n = tA := by unfold tV; rw [hc]; rfl
    rw [e]
    exact XJ.cons (XS.ret (Ev.call (atK 2 rfl) (EvL.cons (Ev.name (i := 0) rfl rfl ⟨rfl, rfl⟩) EvL.nil rfl) (s1) (Nat.le_of_ble_eq_true rfl) rfl) rfl)
  refine XJ.nil ?_
  refine XJ.cons (XS.ite (Tr.cm (Ev.o (Ev.bin (Ev.o (Ev.name (i := 1) rfl rfl ⟨rfl, rfl⟩)) (Ev.o Ev.int) (by walk_at "bin"))) (Ev.o Ev.int) (by walk_at "cmp")) (fun hc' => ?_) (fun hc' => ?_))
  · have e : tV n = tN := by unfold tV; rw [hc, hc']; rfl
    rw [e]
    exact XJ.cons (XS.ret (Ev.call (atK 3 rfl) (EvL.cons (Ev.name (i := 0) rfl rfl ⟨rfl, rfl⟩) EvL.nil rfl) (s2) (Nat.le_of_ble_eq_true rfl) rfl) rfl)
  refine XJ.nil ?_
  have e : tV n = tH := by unfold tV; rw [hc, hc']; rfl
  rw [e]
  exact XJ.cons (XS.ret (Ev.call (atK 4 rfl) (EvL.cons (Ev.name (i := 0) rfl rfl ⟨rfl, rfl⟩) EvL.nil rfl) (s3) (Nat.le_of_ble_eq_true rfl) rfl) rfl)

theorem content_spec {G : Gl} (hG : GP G) (x : List Nat) (n : Int) (hx : x.length ≤ 170000) : Spec G "_law_content" 2 [.str x, .int n] (.str (esc (tT n) x)) := by
  have s1 := escape_cdata_spec hG x hx
  have s2 := escape_cdata_c14n_spec hG x hx
  refine Spec.fn (i := 22) (xs := ["text", "dress"]) hG (by decide) (bind_2 (by decide +kernel) fun fd hp hd v u => by unfold bindArgs; rw [hp, hd]; rfl) rfl (by decide +kernel) 2 fun L a q cd B h₀ => ?_
  have h : dfAt 22 = ⟨_, _, _, _⟩ := rfl
  unfold cx
  rw [h]
  show XJ _ [some (.v _), some (.v _), none, none] _ _
  refine XJ.cons (XS.ite (Tr.cm (Ev.o (Ev.bin (Ev.o (Ev.bin (Ev.o (Ev.name (i := 1) rfl rfl ⟨rfl, rfl⟩)) (Ev.o Ev.int) (by walk_at "bin"))) (Ev.o Ev.int) (by walk_at "bin"))) (Ev.o Ev.int) (by walk_at "cmp")) (fun hc => ?_) (fun hc => ?_))
  · have e : tT n = tC := by unfold tT; rw [hc]; rfl
    rw [e]
    exact XJ.cons (XS.ret (Ev.call (atK 2 rfl) (EvL.cons (Ev.name (i := 0) rfl rfl ⟨rfl, rfl⟩) EvL.nil rfl) (s1) (Nat.le_of_ble_eq_true rfl) rfl) rfl)
  refine XJ.nil ?_
  have e : tT n = tD := by unfold tT; rw [hc]; rfl
  rw [e]
  exact XJ.cons (XS.ret (Ev.call (atK 3 rfl) (EvL.cons (Ev.name (i := 0) rfl rfl ⟨rfl, rfl⟩) EvL.nil rfl) (s2) (Nat.le_of_ble_eq_true rfl) rfl) rfl)

theorem tV_len (n : Int) (t : List Nat) : (esc (tV n) t).length ≤ 6 * t.length := by
  unfold tV
  split
  · exact esc_len (by decide) (by decide) t
  · split
    · exact esc_len (by decide) (by decide) t
    · exact esc_len (by decide) (by decide) t
theorem tT_len (n : Int) (t : List Nat) : (esc (tT n) t).length ≤ 6 * t.length := by
  unfold tT
  split
  · exact esc_len (by decide) (by decide) t
  · exact esc_len (by decide) (by decide) t

/-- <e b="..." h="...">.. -/
noncomputable def opn (n : Int) (b h t : List Nat) : List Nat := [60, 101, 32, 98, 61, 34] ++ esc (tV n) b ++ [34, 32, 104, 61, 34] ++ esc (tV n) h ++ [34, 62] ++ esc (tT n) t

theorem open_spec {G : Gl} (hG : GP G) (b h t : List Nat) (n : Int) (hb : b.length ≤ 10000) (hh : h.length ≤ 10000) (ht : t.length ≤ 10000) : Spec G "_law_open" 3 [.str b, .str h, .str t, .int n] (.str (opn n b h t)) := by
  have s1 := value_spec hG b n (by omega)
  have s2 := value_spec hG h n (by omega)
  have s3 := content_spec hG t n (by omega)
  have l1 := tV_len n b
  have l2 := tV_len n h
  have l3 := tT_len n t
  refine Spec.fn (i := 29) (xs := ["base", "href", "text", "dress"]) hG (by decide) (bind_4 (by decide +kernel) fun fd hp hd v u t t' => by unfold bindArgs; rw [hp, hd]; rfl) rfl (by decide +kernel) 2 fun L a q cd B h₀ => ?_
  have h : dfAt 29 = ⟨_, _, _, _⟩ := rfl
  unfold cx
  rw [h]
  show XJ _ [some (.v _), some (.v _), some (.v _), some (.v _), none, none] _ _
  unfold opn
  exact XJ.cons (XS.ret (Ev.bin (Ev.o (Ev.bin (Ev.o (Ev.bin (Ev.o (Ev.bin (Ev.o (Ev.bin (Ev.o (Ev.strK K61 (by decide))) (Ev.o (Ev.call (atK 4 rfl) (EvL.cons (Ev.name (i := 0) rfl rfl ⟨rfl, rfl⟩) (EvL.cons (Ev.name (i := 3) rfl rfl ⟨rfl, rfl⟩) EvL.nil rfl) rfl) (s1) (Nat.le_of_ble_eq_true rfl) rfl)) (by walk_at "bin"))) (Ev.o (Ev.strK K60 (by decide))) (by walk_at "bin"))) (Ev.o (Ev.call (atK 4 rfl) (EvL.cons (Ev.name (i := 1) rfl rfl ⟨rfl, rfl⟩) (EvL.cons (Ev.name (i := 3) rfl rfl ⟨rfl, rfl⟩) EvL.nil rfl) rfl) (s2) (Nat.le_of_ble_eq_true rfl) rfl)) (by walk_at "bin"))) (Ev.o (Ev.strK K40 (by decide))) (by walk_at "bin"))) (Ev.o (Ev.call (atK 5 rfl) (EvL.cons (Ev.name (i := 2) rfl rfl ⟨rfl, rfl⟩) (EvL.cons (Ev.name (i := 3) rfl rfl ⟨rfl, rfl⟩) EvL.nil rfl) rfl) (s3) (Nat.le_of_ble_eq_true rfl) rfl)) (by walk_at "bin")) rfl)
end
theorem clip_nat (len n : Nat) : clipAt len (n : Int) = min n len := by
  unfold clipAt; rw [if_neg (by omega)]; omega
theorem slc_to {α : Type} (l : List α) (n : Nat) : slc l none (some (n : Int)) = l.take n := by
  unfold slc
  simp only [Option.elim, clip_nat, List.drop_zero, Nat.sub_zero]
  rcases Nat.le_total n l.length with h | h
  · rw [Nat.min_eq_left h]
  · rw [Nat.min_eq_right h, List.take_of_length_le (Nat.le_refl _), List.take_of_length_le h]
theorem slc_from {α : Type} (l : List α) (n : Nat) : slc l (some (n : Int)) none = l.drop n := by
  unfold slc
  simp only [Option.elim, clip_nat]
  rcases Nat.le_total n l.length with h | h
  · rw [Nat.min_eq_left h]; exact List.take_of_length_le (by simp)
  · rw [Nat.min_eq_right h, List.drop_of_length_le (Nat.le_refl _), List.drop_of_length_le h]; simp
theorem slc_mid {α : Type} (l : List α) (a n : Nat) : slc l (some (a : Int)) (some (n : Int)) = (l.drop a).take (n - a) := by
  unfold slc
  simp only [Option.elim, clip_nat]
  rcases Nat.le_total a l.length with h | h
  · rw [Nat.min_eq_left h]
    rcases Nat.le_total n l.length with h2 | h2
    · rw [Nat.min_eq_left h2]
    · rw [Nat.min_eq_right h2, List.take_of_length_le (by simp), List.take_of_length_le (by simp; omega)]
  · rw [Nat.min_eq_right h, List.drop_of_length_le (Nat.le_refl _), List.drop_of_length_le h]; simp
theorem slc_butlast {α : Type} (l : List α) : slc l none (some (-1)) = l.dropLast := by
  have : clipAt l.length (-1) = l.length - 1 := by unfold clipAt; rw [if_pos (by decide)]; omega
  unfold slc
  simp only [Option.elim, List.drop_zero, Nat.sub_zero, this]
  rw [List.dropLast_eq_take]

section
variable {X : Cx} {Γ : Gam} {Φ : Out → Prop}
theorem Ev.neg {e : PySem.Expr} {p : Pos} {i : Int} (h : Ev X Γ e (.int i)) : Ev X Γ (.UnaryOp .USub e p) (.int (-i)) := fun A s ad Q E hr g hq =>
  UnaryOp_ (h A s ad _ E hr g fun v s1 st r => by
    simp only [Rep] at r; obtain ⟨t, rfl⟩ := r
    exact neg_int (hq _ _ (st.trans (step_toks (Nat.le_succ _))) (by simp only [Rep]; exact ⟨_, rfl⟩)))

/-- an item at a place from the front -/
theorem Ev.itemN {a b : PySem.Expr} {p : Pos} {l : List D} {i : Int} {d : D} (ha : EvO X Γ a (.lst l)) (hb : Ev X Γ b (.int i)) (h0 : 0 ≤ i) (hd : l[i.toNat]? = some d)
    (hs : ∀ o v u, subscripted b false (.ref o) (.int v u) = operate [.ref o, .int v u] (getItem (.ref o) (.int v u)) := by intro _ _ _; with_unfolding_all rfl) : Ev X Γ (.Subscript a b p) d :=
  Ev.item ha hb (by omega) (by unfold ix; rw [if_neg (by omega)]; exact hd) hs
/-- the last item -/
theorem Ev.itemL {a b : PySem.Expr} {p : Pos} {l : List D} {i : Int} {d : D} (ha : EvO X Γ a (.lst l)) (hb : Ev X Γ b (.int i)) (hi : i = -1) (hd : l.getLast? = some d)
    (hs : ∀ o v u, subscripted b false (.ref o) (.int v u) = operate [.ref o, .int v u] (getItem (.ref o) (.int v u)) := by intro _ _ _; with_unfolding_all rfl) : Ev X Γ (.Subscript a b p) d := by
  subst hi
  have hl : l ≠ [] := by rintro rfl; simp at hd
  have h1 : 0 < l.length := List.length_pos_iff.mpr hl
  refine Ev.item ha hb (by omega) ?_ hs
  unfold ix
  rw [if_pos (by decide), ← hd, List.getLast?_eq_getElem?]
  congr 1
  omega
end

section
variable {X : Cx} {Γ : Gam} {Φ : Out → Prop}
/-- for x in .. -/
theorem XS.forN {x : PySem.Str} {px p' : Pos} {iter : PySem.Expr} {body : List Stmt} {ds : List D} {i : Nat} {k : NameKind} (hit : It X Γ (.Name x px) iter ds false) (hi : X.env.scope.names[i]? = some (x, k)) (hk : k = .local ∨ k = .cell)
    (hF : ForJ X (fun d Γ => Γ.set i (some (.v d))) body Φ ds Γ) (hs : ∀ x, foldedSetIterable iter X.env x = pure x := by intro _; rfl) : XS X Γ (.For (.Name x px) iter body [] p') Φ :=
  XS.forG hit hF (fun d Γ' A s ad v Q E _ fx hr g r hq => wpAny_assign_Name (store_of fx g hi hk r fun s' mv kp g' => hq s' mv g')) (fun d Γ' ad a h => ow_set h) hs
/-- for x, y in .. -/
theorem XS.forT {es : List PySem.Expr} {kk : Nat} {tp p' : Pos} {iter : PySem.Expr} {body : List Stmt} {ls : List (List D)} {is : List Nat} (hit : It X Γ (.Tuple es kk tp) iter (ls.map .tup) false) (hn : NamesAt X es is) (hl : ∀ l ∈ ls, l.length = is.length)
    (hF : ForJ X (fun d Γ => match d with | .tup l => setAll Γ is l | _ => Γ) body Φ (ls.map .tup) Γ) (hs : ∀ x, foldedSetIterable iter X.env x = pure x := by intro _; rfl) : XS X Γ (.For (.Tuple es kk tp) iter body [] p') Φ :=
  XS.forG hit hF (fun d Γ' A s ad v Q E hd fx hr g r hq => by
    obtain ⟨l, hl', rfl⟩ := List.mem_map.mp hd
    exact unpack_tup fx hr hn (hl l hl') g r fun s' mv g' => hq s' mv g')
    (fun d Γ' ad a h => by
      cases d with
      | tup l => exact ow_setAll is l Γ' h
      | _ => exact h) hs

theorem ForJ.run {σ : Type} {tgt : D → Gam → Gam} {body : List Stmt} (I : σ → Gam → Prop) (step : σ → D → σ) : ∀ (ds : List D) (st : σ) (Γ : Gam), I st Γ → (∀ d ∈ ds, ∀ st Γ, I st Γ → XJ X (tgt d Γ) body (Turn Φ (I (step st d)))) →
    (∀ Γ, I (ds.foldl step st) Γ → Φ (.next Γ)) → ForJ X tgt body Φ ds Γ
  | [], st, Γ, h, _, hf => hf Γ h
  | d :: ds, st, Γ, h, ht, hf => by
    have h1 := ht d (List.mem_cons_self ..) st Γ h
    refine h1.mono fun o ho => ?_
    have rest : ∀ Γ', I (step st d) Γ' → ForJ X tgt body Φ ds Γ' := fun Γ' h' => ForJ.run I step ds (step st d) Γ' h' (fun d' hd' => ht d' (List.mem_cons_of_mem _ hd')) hf
    cases o with
    | next Γ' => exact rest Γ' ho
    | cont Γ' => exact rest Γ' ho
    | brk Γ' => exact ho
    | ret d => exact ho
theorem ForJ.runN {σ : Type} {tgt : D → Gam → Gam} {body : List Stmt} (N : Nat) (I : Nat → σ → Gam → Prop) (step : σ → D → σ) : ∀ (ds : List D) (j : Nat) (st : σ) (Γ : Gam), j + ds.length ≤ N → I j st Γ → (∀ d ∈ ds, ∀ j st Γ, j < N → I j st Γ → XJ X (tgt d Γ) body (Turn Φ (I (j + 1) (step st d)))) →
    (∀ j Γ, I j (ds.foldl step st) Γ → Φ (.next Γ)) → ForJ X tgt body Φ ds Γ
  | [], j, st, Γ, _, h, _, hf => hf j Γ h
  | d :: ds, j, st, Γ, hN, h, ht, hf => by
    simp only [List.length_cons] at hN
    have h1 := ht d (List.mem_cons_self ..) j st Γ (by omega) h
    refine h1.mono fun o ho => ?_
    have rest : ∀ Γ', I (j + 1) (step st d) Γ' → ForJ X tgt body Φ ds Γ' := fun Γ' h' => ForJ.runN N I step ds (j + 1) (step st d) Γ' (by omega) h' (fun d' hd' => ht d' (List.mem_cons_of_mem _ hd')) hf
    cases o with
    | next Γ' => exact rest Γ' ho
    | cont Γ' => exact rest Γ' ho
    | brk Γ' => exact ho
    | ret d => exact ho
theorem ForJ.one {tgt : D → Gam → Gam} {body : List Stmt} {d : D} (h : XJ X (tgt d Γ) body (Turn Φ fun Γ' => Φ (.next Γ'))) : ForJ X tgt body Φ [d] Γ := h
end

theorem bind_var {i : Nat} {x y : PySem.Str} {d e : D} (hn : (dfAt i).params.defaults = []) (h : ∀ fd : FuncData, fd.params = (dfAt i).params → fd.defaults = .none → ∀ v u, bindArgs fd ⟨[v, u], []⟩ = (newTuple [u] >>= fun t => pure [(x, v), (y, t)])) : Binds (dfAt i) [x, y] [d, e] [d, .tup [e]] :=
  fun fd M A s B vs E Q hp hd hB r hq => by
    rcases hd with ⟨_, hd⟩ | ⟨e0, _⟩
    · obtain ⟨v, u, rfl, r1, r2⟩ := reps2 r
      rw [h fd hp hd v u]
      refine wpAny_bind (wpAny_newObj_type (wpAny_pure (hq [v, _] _ (step_h kp_push) ?_)))
      simp only [Reps, Rep]
      refine ⟨_, _, rfl, Rep.up kp_push.s _ _ r1, _, _, rfl, ⟨_, [u], rfl, fun hb => ?_, ⟨_, Heap.get?_push_size _ rfl, rfl, _, rfl⟩, ⟨_, _, rfl, Rep.up kp_push.s _ _ r2, rfl⟩, Nat.le_of_ble_eq_true rfl⟩, rfl⟩
      obtain ⟨o, e⟩ := hB _ hb
      exact Nat.lt_irrefl _ (Heap.lt_size e)
    · exact absurd hn e0
section
seal Ev EvO Tr XS XJ EvL Pt Cmp Bin Spec Tst It Emit
/-! the walks of posixpath -/
noncomputable def jnp (a p : List Nat) : List Nat := if (p.head? == some 47 || a.isEmpty) then p else if a.getLast? == some 47 then a ++ p else a ++ (47 :: p)
theorem jnp_len (a p : List Nat) : (jnp a p).length ≤ a.length + p.length + 1 := by
  unfold jnp
  split
  · omega
  · split <;> simp <;> omega

theorem join_spec {G : Gl} (hG : GP G) (a p : List Nat) (hz : a.length + p.length + 1 ≤ 1048576) : Spec G "join" 2 [.str a, .str p] (.str (jnp a p)) := by
  have s1 := fspath_spec hG a
  have s2 := fspath_spec hG p
  have s3 := get_sep_spec hG a
  refine Spec.fn (i := 13) (xs := ["a", "p"]) hG (by decide) (bind_var (by decide +kernel) fun fd hp hd v u => by unfold bindArgs; rw [hp, hd]; rfl) rfl (by decide +kernel) 9 fun L a' q cd B h₀ => ?_
  have h : dfAt 13 = ⟨_, _, _, _⟩ := rfl
  unfold cx
  rw [h]
  show XJ _ [some (.v _), some (.v _), none, none, none, none, none, none, none, none, none] _ _
  refine XJ.cons (XS.asg (i := 0) (Ev.call (atK 5 rfl) (EvL.cons (Ev.name (i := 0) rfl rfl ⟨rfl, rfl⟩) EvL.nil rfl) (s1) (Nat.le_of_ble_eq_true rfl) rfl) rfl (by first | exact .inl rfl | exact .inr rfl) ?_) <;> try dsimp only [List.set]
  refine XJ.cons (XS.asg (i := 2) (Ev.call (atK 6 rfl) (EvL.cons (Ev.name (i := 0) rfl rfl ⟨rfl, rfl⟩) EvL.nil rfl) (s3) (Nat.le_of_ble_eq_true rfl) rfl) rfl (by first | exact .inl rfl | exact .inr rfl) ?_) <;> try dsimp only [List.set]
  refine XJ.cons (XS.asg (i := 3) (Ev.name (i := 0) rfl rfl ⟨rfl, rfl⟩) rfl (by first | exact .inl rfl | exact .inr rfl) ?_) <;> try dsimp only [List.set]
  refine XJ.cons (XS.try_ ?_)
  refine XJ.cons (XS.forN (i := 4) (It.tup (Ev.name (i := 1) rfl rfl ⟨rfl, rfl⟩) (by intro _ _; rfl)) rfl (.inl rfl) (ForJ.one ?_))
  refine XJ.cons (XS.asg (i := 4) (Ev.call (atK 5 rfl) (EvL.cons (Ev.name (i := 4) rfl rfl ⟨rfl, rfl⟩) EvL.nil rfl) (s2) (Nat.le_of_ble_eq_true rfl) rfl) rfl (by first | exact .inl rfl | exact .inr rfl) ?_) <;> try dsimp only [List.set]
  refine XJ.cons (XS.ite (Tr.or (Tr.plain (Ev.o (Ev.starts (Ev.name (i := 4) rfl rfl ⟨rfl, rfl⟩) (Ev.name (i := 2) rfl rfl ⟨rfl, rfl⟩) rfl))) (fun hc => (Tr.or (Tr.not (Tr.plain (Ev.o (Ev.name (i := 3) rfl rfl ⟨rfl, rfl⟩)))) (fun hc => Tr.or_nil)))) (fun hc => ?_) (fun hc => ?_))
  · have e : jnp a p = p := by
      unfold jnp; rw [if_pos]
      simpa [D.tru] using hc
    rw [e]
    refine XJ.cons (XS.asg (i := 3) (Ev.name (i := 4) rfl rfl ⟨rfl, rfl⟩) rfl (by first | exact .inl rfl | exact .inr rfl) ?_) <;> try dsimp only [List.set]
    refine XJ.nil ?_
    refine XJ.nil ?_
    refine XJ.nil ?_
    exact XJ.cons (XS.ret (Ev.name (i := 3) rfl rfl ⟨rfl, rfl⟩) rfl)
  have h1 : ¬ (p.head? == some 47 || a.isEmpty) = true := fun h => by simp [D.tru] at hc h; simp_all
  refine XJ.cons (XS.ite (Tr.plain (Ev.o (Ev.ends (Ev.name (i := 3) rfl rfl ⟨rfl, rfl⟩) (Ev.name (i := 2) rfl rfl ⟨rfl, rfl⟩) rfl))) (fun hc' => ?_) (fun hc' => ?_))
  · have e : jnp a p = a ++ p := by
      unfold jnp; rw [if_neg h1, if_pos]
      simpa [D.tru] using hc'
    rw [e]
    refine XJ.cons (XS.augS (i := 3) rfl (Ev.name (i := 4) rfl rfl ⟨rfl, rfl⟩) rfl (.inl rfl) ⟨rfl, rfl⟩ (by omega) ?_)
    refine XJ.nil ?_
    refine XJ.nil ?_
    refine XJ.nil ?_
    refine XJ.nil ?_
    exact XJ.cons (XS.ret (Ev.name (i := 3) rfl rfl ⟨rfl, rfl⟩) rfl)
  · have e : jnp a p = a ++ ([47] ++ p) := by
      unfold jnp; rw [if_neg h1, if_neg]
      · rfl
      · simpa [D.tru] using hc'
    rw [e]
    refine XJ.cons (XS.augS (i := 3) rfl (Ev.bin (Ev.o (Ev.name (i := 2) rfl rfl ⟨rfl, rfl⟩)) (Ev.o (Ev.name (i := 4) rfl rfl ⟨rfl, rfl⟩)) (by walk_at "bin")) rfl (.inl rfl) ⟨rfl, rfl⟩ (by simp; omega) ?_)
    refine XJ.nil ?_
    refine XJ.nil ?_
    refine XJ.nil ?_
    refine XJ.nil ?_
    exact XJ.cons (XS.ret (Ev.name (i := 3) rfl rfl ⟨rfl, rfl⟩) rfl)
end
section
seal Ev EvO Tr XS XJ EvL Pt Cmp Bin Spec Tst It Emit
noncomputable def spr (p : List Nat) : List Nat × List Nat :=
  if !(slc p none (some 1) == [47]) then ([], p) else if (!(slc p (some 1) (some 2) == [47]) || slc p (some 2) (some 3) == [47]) then ([47], slc p (some 1) none) else (slc p none (some 2), slc p (some 2) none)

theorem splitroot_spec {G : Gl} (hG : GP G) (p : List Nat) : Spec G "splitroot" 2 [.str p] (.tup [.str [], .str (spr p).1, .str (spr p).2]) := by
  have s1 := fspath_spec hG p
  refine Spec.fn (i := 14) (xs := ["p"]) hG (by decide) (bind_1 (by decide +kernel) fun fd hp hd v => by unfold bindArgs; rw [hp, hd]; rfl) rfl (by decide +kernel) 5 fun L a q cd B h₀ => ?_
  have h : dfAt 14 = ⟨_, _, _, _⟩ := rfl
  unfold cx
  rw [h]
  show XJ _ [some (.v _), none, none, none, none, none] _ _
  refine XJ.cons (XS.asg (i := 0) (Ev.call (atK 3 rfl) (EvL.cons (Ev.name (i := 0) rfl rfl ⟨rfl, rfl⟩) EvL.nil rfl) (s1) (Nat.le_of_ble_eq_true rfl) rfl) rfl (by first | exact .inl rfl | exact .inr rfl) ?_) <;> try dsimp only [List.set]
  refine XJ.cons (XS.iteF (Tr.plain (Ev.o (Ev.isBytes (atK 4 rfl) (atK 5 rfl) (Ev.name (i := 0) rfl rfl ⟨rfl, rfl⟩)))) ?_)
  refine XJ.cons (XS.asg (i := 1) (Ev.strK K9 (by decide)) rfl (by first | exact .inl rfl | exact .inr rfl) ?_) <;> try dsimp only [List.set]
  refine XJ.cons (XS.asg (i := 2) (Ev.strK K8 (by decide)) rfl (by first | exact .inl rfl | exact .inr rfl) ?_) <;> try dsimp only [List.set]
  refine XJ.nil ?_
  refine XJ.cons (XS.ite (Tr.cm (Ev.o (by first | exact Ev.sliceS (Ev.name (i := 0) rfl rfl ⟨rfl, rfl⟩) Pt.no (Pt.so Ev.int) | exact Ev.sliceL (Ev.o (Ev.name (i := 0) rfl rfl ⟨rfl, rfl⟩)) Pt.no (Pt.so Ev.int))) (Ev.o (Ev.name (i := 1) rfl rfl ⟨rfl, rfl⟩)) (by walk_at "cmp")) (fun hc => ?_) (fun hc => ?_))
  · have e : spr p = ([], p) := by unfold spr; rw [if_pos hc]
    rw [e]
    exact XJ.cons (XS.ret (Ev.tup (EvL.cons (Ev.name (i := 2) rfl rfl ⟨rfl, rfl⟩) (EvL.cons (Ev.name (i := 2) rfl rfl ⟨rfl, rfl⟩) (EvL.cons (Ev.name (i := 0) rfl rfl ⟨rfl, rfl⟩) EvL.nil rfl) rfl) rfl) (Nat.le_of_ble_eq_true rfl)) rfl)
  refine XJ.cons (XS.ite (Tr.or (Tr.cm (Ev.o (by first | exact Ev.sliceS (Ev.name (i := 0) rfl rfl ⟨rfl, rfl⟩) (Pt.so Ev.int) (Pt.so Ev.int) | exact Ev.sliceL (Ev.o (Ev.name (i := 0) rfl rfl ⟨rfl, rfl⟩)) (Pt.so Ev.int) (Pt.so Ev.int))) (Ev.o (Ev.name (i := 1) rfl rfl ⟨rfl, rfl⟩)) (by walk_at "cmp")) (fun hc => (Tr.or (Tr.cm (Ev.o (by first | exact Ev.sliceS (Ev.name (i := 0) rfl rfl ⟨rfl, rfl⟩) (Pt.so Ev.int) (Pt.so Ev.int) | exact Ev.sliceL (Ev.o (Ev.name (i := 0) rfl rfl ⟨rfl, rfl⟩)) (Pt.so Ev.int) (Pt.so Ev.int))) (Ev.o (Ev.name (i := 1) rfl rfl ⟨rfl, rfl⟩)) (by walk_at "cmp")) (fun hc => Tr.or_nil)))) (fun hc' => ?_) (fun hc' => ?_))
  · have e : spr p = ([47], slc p (some 1) none) := by unfold spr; rw [if_neg (by rw [hc]; decide), if_pos (by simpa using hc')]
    rw [e]
    exact XJ.cons (XS.ret (Ev.tup (EvL.cons (Ev.name (i := 2) rfl rfl ⟨rfl, rfl⟩) (EvL.cons (Ev.name (i := 1) rfl rfl ⟨rfl, rfl⟩) (EvL.cons (by first | exact Ev.sliceS (Ev.name (i := 0) rfl rfl ⟨rfl, rfl⟩) (Pt.so Ev.int) Pt.no | exact Ev.sliceL (Ev.o (Ev.name (i := 0) rfl rfl ⟨rfl, rfl⟩)) (Pt.so Ev.int) Pt.no) EvL.nil rfl) rfl) rfl) (Nat.le_of_ble_eq_true rfl)) rfl)
  · have e : spr p = (slc p none (some 2), slc p (some 2) none) := by unfold spr; rw [if_neg (by rw [hc]; decide), if_neg (by simpa using hc')]
    rw [e]
    exact XJ.cons (XS.ret (Ev.tup (EvL.cons (Ev.name (i := 2) rfl rfl ⟨rfl, rfl⟩) (EvL.cons (by first | exact Ev.sliceS (Ev.name (i := 0) rfl rfl ⟨rfl, rfl⟩) Pt.no (Pt.so Ev.int) | exact Ev.sliceL (Ev.o (Ev.name (i := 0) rfl rfl ⟨rfl, rfl⟩)) Pt.no (Pt.so Ev.int)) (EvL.cons (by first | exact Ev.sliceS (Ev.name (i := 0) rfl rfl ⟨rfl, rfl⟩) (Pt.so Ev.int) Pt.no | exact Ev.sliceL (Ev.o (Ev.name (i := 0) rfl rfl ⟨rfl, rfl⟩)) (Pt.so Ev.int) Pt.no) EvL.nil rfl) rfl) rfl) (Nat.le_of_ble_eq_true rfl)) rfl)
end
section
seal Ev EvO Tr XS XJ EvL Pt Cmp Bin Spec Tst It Emit
/-- dirname -/
noncomputable def dnm (p : List Nat) : List Nat :=
  let head := slc p none (some ((lastAt 47 p : Int) - 1 + 1))
  if !head.isEmpty && !(head == List.replicate head.length 47) then dropR 47 head else head

theorem dirname_spec {G : Gl} (hG : GP G) (p : List Nat) (hz : p.length ≤ 1048576) : Spec G "dirname" 2 [.str p] (.str (dnm p)) := by
  have s1 := fspath_spec hG p
  have s2 := get_sep_spec hG p
  refine Spec.fn (i := 15) (xs := ["p"]) hG (by decide) (bind_1 (by decide +kernel) fun fd hp hd v => by unfold bindArgs; rw [hp, hd]; rfl) rfl (by decide +kernel) 6 fun L a q cd B h₀ => ?_
  have h : dfAt 15 = ⟨_, _, _, _⟩ := rfl
  unfold cx
  rw [h]
  show XJ _ [some (.v _), none, none, none, none, none, none] _ _
  refine XJ.cons (XS.asg (i := 0) (Ev.call (atK 4 rfl) (EvL.cons (Ev.name (i := 0) rfl rfl ⟨rfl, rfl⟩) EvL.nil rfl) (s1) (Nat.le_of_ble_eq_true rfl) rfl) rfl (by first | exact .inl rfl | exact .inr rfl) ?_) <;> try dsimp only [List.set]
  refine XJ.cons (XS.asg (i := 1) (Ev.call (atK 5 rfl) (EvL.cons (Ev.name (i := 0) rfl rfl ⟨rfl, rfl⟩) EvL.nil rfl) (s2) (Nat.le_of_ble_eq_true rfl) rfl) rfl (by first | exact .inl rfl | exact .inr rfl) ?_) <;> try dsimp only [List.set]
  refine XJ.cons (XS.asg (i := 2) (Ev.bin (Ev.o (Ev.rfind (Ev.name (i := 0) rfl rfl ⟨rfl, rfl⟩) (Ev.name (i := 1) rfl rfl ⟨rfl, rfl⟩) rfl)) (Ev.o Ev.int) (by walk_at "bin")) rfl (by first | exact .inl rfl | exact .inr rfl) ?_) <;> try dsimp only [List.set]
  refine XJ.cons (XS.asg (i := 3) (by first | exact Ev.sliceS (Ev.name (i := 0) rfl rfl ⟨rfl, rfl⟩) Pt.no (Pt.so (Ev.name (i := 2) rfl rfl ⟨rfl, rfl⟩)) | exact Ev.sliceL (Ev.o (Ev.name (i := 0) rfl rfl ⟨rfl, rfl⟩)) Pt.no (Pt.so (Ev.name (i := 2) rfl rfl ⟨rfl, rfl⟩))) rfl (by first | exact .inl rfl | exact .inr rfl) ?_) <;> try dsimp only [List.set]
  have hl : ((slc p none (some ((lastAt 47 p : Int) - 1 + 1))).length : Int) ≤ 1048576 := by have := slc_length_le p none (some ((lastAt 47 p : Int) - 1 + 1)); omega
  have hl0 : (0 : Int) ≤ (slc p none (some ((lastAt 47 p : Int) - 1 + 1))).length := by omega
  refine XJ.cons (XS.ite (Tr.and (Tr.plain (Ev.o (Ev.name (i := 3) rfl rfl ⟨rfl, rfl⟩))) (fun hc => (Tr.and (Tr.cm (Ev.o (Ev.name (i := 3) rfl rfl ⟨rfl, rfl⟩)) (Ev.o (Ev.bin (Ev.o (Ev.name (i := 1) rfl rfl ⟨rfl, rfl⟩)) (Ev.o (by first | exact Ev.lenS (atK 6 rfl) (Ev.name (i := 3) rfl rfl ⟨rfl, rfl⟩) | exact Ev.lenL (atK 6 rfl) (Ev.o (Ev.name (i := 3) rfl rfl ⟨rfl, rfl⟩)))) (by walk_at "bin"))) (by walk_at "cmp")) (fun hc => Tr.and_nil)))) (fun hc => ?_) (fun hc => ?_))
  · have e : dnm p = dropR 47 (slc p none (some ((lastAt 47 p : Int) - 1 + 1))) := by
      unfold dnm; rw [if_pos]; simpa [D.tru] using hc
    rw [e]
    refine XJ.cons (XS.asg (i := 3) (Ev.rstrip (Ev.name (i := 3) rfl rfl ⟨rfl, rfl⟩) (Ev.name (i := 1) rfl rfl ⟨rfl, rfl⟩) rfl) rfl (by first | exact .inl rfl | exact .inr rfl) ?_) <;> try dsimp only [List.set]
    refine XJ.nil ?_
    exact XJ.cons (XS.ret (Ev.name (i := 3) rfl rfl ⟨rfl, rfl⟩) rfl)
  · have e : dnm p = slc p none (some ((lastAt 47 p : Int) - 1 + 1)) := by
      unfold dnm; rw [if_neg]; simpa [D.tru] using hc
    rw [e]
    refine XJ.nil ?_
    exact XJ.cons (XS.ret (Ev.name (i := 3) rfl rfl ⟨rfl, rfl⟩) rfl)

/-- one piece's turn in normpath -/
noncomputable def nstep (root : List Nat) (st : List (List Nat)) (c : List Nat) : List (List Nat) :=
  if c.isEmpty || c == [46] then st
  else if !(c == [46, 46]) || (root.isEmpty && st.isEmpty) || (!st.isEmpty && st.getLast?.getD [] == [46, 46]) then st ++ [c]
  else st.dropLast
noncomputable def nrm (p : List Nat) : List Nat :=
  if p.isEmpty then [46] else
  let r := spr p
  let q := r.1 ++ jn [47] ((splt 47 r.2).foldl (nstep r.1) [])
  if q.isEmpty then [46] else q
end
section
seal Ev EvO Tr XS XJ EvL Pt Cmp Bin Spec Tst It Emit
noncomputable def wt (ps : List (List Nat)) : Nat := (ps.map (fun p => p.length + 1)).sum
theorem wt_append (a b : List (List Nat)) : wt (a ++ b) = wt a + wt b := by unfold wt; rw [List.map_append, List.sum_append]
theorem wt_cons (a : List Nat) (b : List (List Nat)) : wt (a :: b) = a.length + 1 + wt b := by unfold wt; rw [List.map_cons, List.sum_cons]
theorem wt_len : ∀ ps : List (List Nat), (ps.map (·.length)).sum + ps.length = wt ps
  | [] => rfl
  | a :: b => by have := wt_len b; rw [wt_cons, List.map_cons, List.sum_cons, List.length_cons]; omega
theorem wt_splt (c : Nat) : ∀ x : List Nat, wt (splt c x) = x.length + 1
  | [] => rfl
  | a :: r => by
    have ih := wt_splt c r
    unfold splt
    split
    · rw [wt_cons, ih]; simp; omega
    · split
      · rename_i p ps e
        rw [e, wt_cons] at ih
        rw [wt_cons, List.length_cons, List.length_cons]; omega
      · rename_i e; exact absurd e (splt_ne c r)
theorem jn_wt (c : Nat) : ∀ ps : List (List Nat), (jn [c] ps).length ≤ wt ps
  | [] => by simp [jn, wt]
  | [p] => by simp [jn, wt]
  | p :: q :: r => by
    have ih := jn_wt c (q :: r)
    show (p ++ [c] ++ jn [c] (q :: r)).length ≤ _
    rw [wt_cons]
    simp
    omega
theorem wt_dropLast (ps : List (List Nat)) : wt ps.dropLast ≤ wt ps := by
  rcases List.eq_nil_or_concat ps with rfl | ⟨l, y, rfl⟩
  · simp
  · rw [List.concat_eq_append, List.dropLast_concat, wt_append]; omega
theorem wt_nstep (root : List Nat) (st : List (List Nat)) (c : List Nat) : wt (nstep root st c) ≤ wt st + c.length + 1 := by
  unfold nstep
  split
  · omega
  · split
    · rw [wt_append]; simp [wt]; omega
    · have := wt_dropLast st; omega
theorem wt_fold (root : List Nat) : ∀ (cs st : List (List Nat)), wt (cs.foldl (nstep root) st) ≤ wt st + wt cs
  | [], st => by simp [wt]
  | c :: cs, st => by
    have h1 := wt_fold root cs (nstep root st c)
    have h2 := wt_nstep root st c
    rw [List.foldl_cons, wt_cons]; omega
theorem spr_len (p : List Nat) : (spr p).1.length + (spr p).2.length ≤ 2 * p.length := by
  unfold spr
  have h1 := slc_length_le p none (some 1)
  have h2 := slc_length_le p (some 1) none
  have h3 := slc_length_le p none (some 2)
  have h4 := slc_length_le p (some 2) none
  split
  · simp; omega
  · split
    · have : slc p none (some 1) = [47] := by rename_i h _; simpa using h
      rw [this] at h1
      simp at h1 ⊢
      omega
    · simp; omega

theorem normpath_spec {G : Gl} (hG : GP G) (p : List Nat) (hz : p.length ≤ 400000) : Spec G "normpath" 3 [.str p] (.str (nrm p)) := by
  have s1 := fspath_spec hG p
  have s2 := splitroot_spec hG p
  have hl := spr_len p
  refine Spec.fn (i := 16) (xs := ["path"]) hG (by decide) (bind_1 (by decide +kernel) fun fd hp hd v => by unfold bindArgs; rw [hp, hd]; rfl) rfl (by decide +kernel) 12 fun L a q cd B h₀ => ?_
  have h : dfAt 16 = ⟨_, _, _, _⟩ := rfl
  unfold cx
  rw [h]
  show XJ _ [some (.v _), none, none, none, none, none, none, none, none, none, none, none, none] _ _
  refine XJ.cons (XS.asg (i := 0) (Ev.call (atK 9 rfl) (EvL.cons (Ev.name (i := 0) rfl rfl ⟨rfl, rfl⟩) EvL.nil rfl) (s1) (Nat.le_of_ble_eq_true rfl) rfl) rfl (by first | exact .inl rfl | exact .inr rfl) ?_) <;> try dsimp only [List.set]
  refine XJ.cons (XS.iteF (Tr.plain (Ev.o (Ev.isBytes (atK 10 rfl) (atK 11 rfl) (Ev.name (i := 0) rfl rfl ⟨rfl, rfl⟩)))) ?_)
  refine XJ.cons (XS.asg (i := 1) (Ev.strK K9 (by decide)) rfl (by first | exact .inl rfl | exact .inr rfl) ?_) <;> try dsimp only [List.set]
  refine XJ.cons (XS.asg (i := 2) (Ev.strK K10 (by decide)) rfl (by first | exact .inl rfl | exact .inr rfl) ?_) <;> try dsimp only [List.set]
  refine XJ.cons (XS.asg (i := 3) (Ev.strK K11 (by decide)) rfl (by first | exact .inl rfl | exact .inr rfl) ?_) <;> try dsimp only [List.set]
  refine XJ.nil ?_
  refine XJ.cons (XS.ite (Tr.not (Tr.plain (Ev.o (Ev.name (i := 0) rfl rfl ⟨rfl, rfl⟩)))) (fun hc => ?_) (fun hc => ?_))
  · have e : nrm p = [46] := by unfold nrm; rw [if_pos]; simpa [D.tru] using hc
    rw [e]
    exact XJ.cons (XS.ret (Ev.name (i := 2) rfl rfl ⟨rfl, rfl⟩) rfl)
  refine XJ.nil ?_
  have e : nrm p = if ((spr p).1 ++ jn [47] ((splt 47 (spr p).2).foldl (nstep (spr p).1) [])).isEmpty then [46] else ((spr p).1 ++ jn [47] ((splt 47 (spr p).2).foldl (nstep (spr p).1) [])) := by
    unfold nrm; rw [if_neg]; simpa [D.tru] using hc
  rw [e]
  generalize hr : (spr p).1 = root at *
  generalize ht : (spr p).2 = tail at *
  refine XJ.cons (XS.unpack (is := [4, 5, 0]) (Ev.call (atK 12 rfl) (EvL.cons (Ev.name (i := 0) rfl rfl ⟨rfl, rfl⟩) EvL.nil rfl) (s2) (Nat.le_of_ble_eq_true rfl) rfl) ⟨⟨.local, rfl, .inl rfl⟩, ⟨.local, rfl, .inl rfl⟩, ⟨.local, rfl, .inl rfl⟩, trivial⟩ rfl ?_)
  refine XJ.cons (XS.asg (i := 6) (Ev.split (Ev.name (i := 0) rfl rfl ⟨rfl, rfl⟩) (Ev.name (i := 1) rfl rfl ⟨rfl, rfl⟩) rfl) rfl (by first | exact .inl rfl | exact .inr rfl) ?_) <;> try dsimp only [List.set]
  refine XJ.cons (XS.own (i := 7) EvL.nil rfl (.inl rfl) (Nat.le_of_ble_eq_true rfl) ?_)
  have hw := wt_fold root (splt 47 tail) []
  rw [wt_splt] at hw
  have hcnt := splt_count (c := 47) (x := tail)
  refine XJ.cons (XS.forN (i := 8) (It.lst (Ev.name (i := 6) rfl rfl ⟨rfl, rfl⟩) (by intro _ _; rfl)) rfl (.inl rfl)
    (ForJ.runN (σ := List (List Nat)) 1000000 (fun j st Γ => st.length ≤ j ∧ ∃ c, Γ = [some (.v (.str tail)), some (.v (.str [47])), some (.v (.str [46])), some (.v (.str [46, 46])), some (.v (.str [])), some (.v (.str root)), some (.v (.lst ((splt 47 tail).map .str))), some (.o (st.map .str)), c, none, none, none, none])
      (fun st d => match d with | .str c => nstep root st c | _ => st) _ 0 [] _ (by rw [List.length_map]; omega) ⟨by simp, none, rfl⟩ ?_ ?_))
  · rintro d hd j st Γ hj ⟨hst, c0, rfl⟩
    obtain ⟨c, hc', rfl⟩ := List.mem_map.mp hd
    have fin : ∀ (st' : List (List Nat)) c1, nstep root st c = st' → st'.length ≤ j + 1 → ((nstep root st c).length ≤ j + 1 ∧ ∃ c2, [some (.v (.str tail)), some (.v (.str [47])), some (.v (.str [46])), some (.v (.str [46, 46])), some (.v (.str [])), some (.v (.str root)), some (.v (.lst ((splt 47 tail).map .str))), some (.o (st'.map .str)), c1, none, none, none, none] = [some (.v (.str tail)), some (.v (.str [47])), some (.v (.str [46])), some (.v (.str [46, 46])), some (.v (.str [])), some (.v (.str root)), some (.v (.lst ((splt 47 tail).map .str))), some (Ent.o ((nstep root st c).map .str)), c2, none, none, none, none]) := by
      rintro _ c1 rfl h
      exact ⟨h, c1, rfl⟩
    show XJ _ (List.set _ _ _) _ _
    refine XJ.cons (XS.ite (Tr.or (Tr.not (Tr.plain (Ev.o (Ev.name (i := 8) rfl rfl ⟨rfl, rfl⟩)))) (fun hc => (Tr.or (Tr.cm (Ev.o (Ev.name (i := 8) rfl rfl ⟨rfl, rfl⟩)) (Ev.o (Ev.name (i := 2) rfl rfl ⟨rfl, rfl⟩)) (by walk_at "cmp")) (fun hc => Tr.or_nil)))) (fun hc1 => ?_) (fun hc1 => ?_))
    · have e1 : nstep root st c = st := by unfold nstep; rw [if_pos]; simpa [D.tru] using hc1
      exact XJ.cons (XS.cont (fin _ _ e1 (by omega)))
    refine XJ.nil ?_
    refine XJ.cons (XS.ite (Tr.or (Tr.cm (Ev.o (Ev.name (i := 8) rfl rfl ⟨rfl, rfl⟩)) (Ev.o (Ev.name (i := 3) rfl rfl ⟨rfl, rfl⟩)) (by walk_at "cmp")) (fun hc => (Tr.or (Tr.and (Tr.not (Tr.plain (Ev.o (Ev.name (i := 5) rfl rfl ⟨rfl, rfl⟩)))) (fun hc => (Tr.and (Tr.not (Tr.plain (EvO.name (i := 7) rfl rfl ⟨rfl, rfl⟩))) (fun hc => Tr.and_nil)))) (fun hc => (Tr.or (Tr.and (Tr.plain (EvO.name (i := 7) rfl rfl ⟨rfl, rfl⟩)) (fun hc => (Tr.and (Tr.cm (Ev.o (Ev.itemL (EvO.name (i := 7) rfl rfl ⟨rfl, rfl⟩) (Ev.neg Ev.int) rfl (by walk_at "ix"))) (Ev.o (Ev.name (i := 3) rfl rfl ⟨rfl, rfl⟩)) (by walk_at "cmp")) (fun hc => Tr.and_nil)))) (fun hc => Tr.or_nil)))))) (fun hc2 => ?_) (fun hc2 => ?_))
    · have e1 : nstep root st c = st ++ [c] := by
        unfold nstep; rw [if_neg, if_pos]
        · simpa [D.tru, or_assoc, and_assoc] using hc2
        · simpa [D.tru] using hc1
      refine XJ.cons (XS.append (i := 7) rfl rfl ⟨rfl, rfl⟩ (Ev.name (i := 8) rfl rfl ⟨rfl, rfl⟩) rfl rfl (by rw [List.length_map]; omega) ?_)
      refine XJ.nil ?_
      refine XJ.nil ?_
      have ff := fin _ (some (.v (.str c))) e1 (by simp; omega)
      rw [List.map_append] at ff
      exact ff
    · have e1 : nstep root st c = st.dropLast := by
        unfold nstep; rw [if_neg, if_neg]
        · simpa [D.tru, or_assoc, and_assoc] using hc2
        · simpa [D.tru] using hc1
      rcases List.eq_nil_or_concat st with rfl | ⟨l, y, rfl⟩
      · refine XJ.cons (XS.iteF (Tr.cast (Tr.plain (EvO.name (i := 7) rfl rfl ⟨rfl, rfl⟩)) rfl) ?_)
        refine XJ.nil ?_
        refine XJ.nil ?_
        exact XJ.nil (fin _ _ e1 (by simp))
      · rw [List.concat_eq_append] at e1 fin hst ⊢
        rw [List.dropLast_concat] at e1
        rw [List.map_append]
        refine XJ.cons (XS.iteT (Tr.cast (Tr.plain (EvO.name (i := 7) rfl rfl ⟨rfl, rfl⟩)) (by simp [D.tru])) ?_)
        refine XJ.cons (XS.pop (i := 7) (y := y) rfl rfl ⟨rfl, rfl⟩ rfl ?_)
        refine XJ.nil ?_
        refine XJ.nil ?_
        refine XJ.nil ?_
        exact fin _ _ e1 (by simp at hst; omega)
  · rintro j Γ ⟨hst, c0, rfl⟩
    have ef : ∀ (cs st : List (List Nat)), (cs.map D.str).foldl (fun st d => match d with | .str c => nstep root st c | _ => st) st = cs.foldl (nstep root) st := fun cs => by
      induction cs with
      | nil => intro st; rfl
      | cons a b ih => intro st; exact ih _
    rw [ef]
    generalize hres : (splt 47 tail).foldl (nstep root) [] = res at *
    have hwl := wt_len res
    have hjl := jn_wt 47 res
    have hw0 : wt [] = 0 := rfl
    refine XJ.freeze (i := 7) rfl ?_
    refine XJ.cons (XS.asg (i := 6) (Ev.name (i := 7) rfl rfl ⟨rfl, rfl⟩) rfl (by first | exact .inl rfl | exact .inr rfl) ?_) <;> try dsimp only [List.set]
    have hz1 : (res.map (·.length)).sum + res.length * ([47] : List Nat).length ≤ 16777216 := by simp; omega
    have hz2 : (jn [47] res).length ≤ 1048576 := by omega
    refine XJ.cons (XS.asg (i := 0) (Ev.bin (Ev.o (Ev.name (i := 5) rfl rfl ⟨rfl, rfl⟩)) (Ev.o (Ev.join (Ev.name (i := 1) rfl rfl ⟨rfl, rfl⟩) (Ev.name (i := 6) rfl rfl ⟨rfl, rfl⟩) (by first | exact hz1 | walk_at "side") (by first | exact hz2 | walk_at "side") rfl)) (by walk_at "bin")) rfl (by first | exact .inl rfl | exact .inr rfl) ?_) <;> try dsimp only [List.set]
    refine (XJ.cons (XS.ret (Ev.cast (Ev.or (Ev.name (i := 0) rfl rfl ⟨rfl, rfl⟩) (fun hc => (Ev.one (Ev.name (i := 2) rfl rfl ⟨rfl, rfl⟩)))) ?_) rfl))
    generalize root ++ jn [47] res = w
    cases w <;> rfl
end
section
seal Ev EvO Tr XS XJ EvL Pt Cmp Bin Spec Tst It Emit
theorem abspath_spec {G : Gl} (hG : GP G) (p : List Nat) (hz : p.length ≤ 400000) (ha : p.head? = some 47) : Spec G "abspath" 4 [.str p] (.str (nrm p)) := by
  have s1 := fspath_spec hG p
  have s2 := normpath_spec hG p hz
  refine Spec.fn (i := 17) (xs := ["path"]) hG (by decide) (bind_1 (by decide +kernel) fun fd hp hd v => by unfold bindArgs; rw [hp, hd]; rfl) rfl (by decide +kernel) 6 fun L a q cd B h₀ => ?_
  have h : dfAt 17 = ⟨_, _, _, _⟩ := rfl
  unfold cx
  rw [h]
  show XJ _ [some (.v _), none, none, none, none, none, none] _ _
  refine XJ.cons (XS.asg (i := 0) (Ev.call (atK 1 rfl) (EvL.cons (Ev.name (i := 0) rfl rfl ⟨rfl, rfl⟩) EvL.nil rfl) (s1) (Nat.le_of_ble_eq_true rfl) rfl) rfl (by first | exact .inl rfl | exact .inr rfl) ?_) <;> try dsimp only [List.set]
  refine XJ.cons (XS.iteF (Tr.plain (Ev.o (Ev.isBytes (atK 2 rfl) (atK 3 rfl) (Ev.name (i := 0) rfl rfl ⟨rfl, rfl⟩)))) ?_)
  refine XJ.cons (XS.iteF (Tr.cast (Tr.not (Tr.plain (Ev.o (Ev.starts (Ev.name (i := 0) rfl rfl ⟨rfl, rfl⟩) (Ev.strK K9 (by decide)) rfl)))) (by rw [ha]; rfl)) ?_)
  refine XJ.nil ?_
  refine XJ.nil ?_
  exact XJ.cons (XS.ret (Ev.call (atK 6 rfl) (EvL.cons (Ev.name (i := 0) rfl rfl ⟨rfl, rfl⟩) EvL.nil rfl) (s2) (Nat.le_of_ble_eq_true rfl) rfl) rfl)
end
section
open PySem.AutoSeq1 (wpAny_loadPart')
open PySem.MeetsSeq PySem.MeetsSeq2 PySem.MeetsSeq3 PySem.SeqAt

/-- Python's < on lists of texts -/
noncomputable def llt : List (List Nat) → List (List Nat) → Bool
  | [], [] => false
  | [], _ :: _ => true
  | _ :: _, [] => false
  | x :: a, y :: b => if x = y then llt a b else decide (x < y)

noncomputable def Strs (a : List (List Nat)) (items : Array Value) : Prop := items.size = a.length ∧ ∀ (i : Nat) x, a[i]? = some x → ∃ t, items[i]? = some (.str (S x) t)

theorem Strs.of {B : Addr → Prop} {h : Heap} {a : List (List Nat)} {vs : List Value} (r : Reps B h (a.map .str) vs) : Strs a vs.toArray := by
  refine ⟨by simp [Reps.length _ _ r], fun i x hx => ?_⟩
  obtain ⟨v, e1, e2⟩ := Reps.get _ _ i (.str x) r (by rw [List.getElem?_map, hx]; rfl)
  simp only [Rep] at e2
  obtain ⟨t, rfl, _⟩ := e2
  exact ⟨t, by simpa using e1⟩

theorem rc_str {M : Program} {w : World} {A : Around} {E : Value → Shared → Prop} {s : Shared} {x y : List Nat} {t u : Tok} {Q : Value → Shared → Prop} (h : Q (.bool (decide (x < y))) s) : wpAny (model M w) A (richCompare .Lt (.str (S x) t) (.str (S y) u)) Q E s :=
  PyProof.Rows.lt_str (by rw [cps_S, cps_S]; exact h)
theorem rc_str' {M : Program} {w : World} {A : Around} {E : Value → Shared → Prop} {s : Shared} {x y : List Nat} {t u : Tok} {Q : Value → Shared → Prop} (h : Q (.bool (decide (y < x))) s) : wpAny (model M w) A (richCompare .Gt (.str (S x) t) (.str (S y) u)) Q E s :=
  PySem.P.gt_str (by rw [cps_S, cps_S]; exact h)

theorem lt_loop (l b : Addr) (items items2 : Array Value) (n n2 : Nat) (dd dd2 : Option Addr) (sl sl2 : Array (Option Value)) (a0 c0 : List (List Nat)) (hs : Strs a0 items) (hs2 : Strs c0 items2) (k : Nat) :
    ∀ (i : Nat) (a c : List (List Nat)), a0.drop i = a → c0.drop i = c → i ≤ a0.length → i ≤ c0.length → a.length = k → Meets (Builtin.«list.__eq__.loop» ⟨[.ref l, .ref b, rawInt i, rawInt 0], []⟩)
      (fun A R s => s.heap.get? l = some { cls := .type "list", dict := dd, data := .seq items n, slots := sl } ∧ s.heap.get? b = some { cls := .type "list", dict := dd2, data := .seq items2 n2, slots := sl2 } ∧
        R (.ok (.ret (.bool (llt a c)))) s) := by
  have endcase : ∀ (i : Nat) (a c : List (List Nat)), a0.drop i = a → c0.drop i = c → i ≤ a0.length → i ≤ c0.length → (a = [] ∨ c = []) → (decide (items.size < items2.size)) = (llt a c) := fun i a c ha hc hi hi2 h => by
    have e1 := congrArg List.length ha
    have e2 := congrArg List.length hc
    rw [List.length_drop] at e1 e2
    rw [hs.1, hs2.1]
    cases a <;> cases c <;> simp_all [llt] <;> omega
  induction k with
  | zero =>
    intro i a c ha hc hi hi2 hk prog w A R s h
    obtain ⟨hp, g, d, tk, os⟩ := s; obtain ⟨hl, hb, h⟩ := h
    have ha' := List.eq_nil_of_length_eq_zero hk
    have e1 := congrArg List.length ha
    rw [List.length_drop, hk] at e1
    have hi1 : items[((i : Nat) : Int).toNat]? = none := by simp [hs.1]; omega
    wp_walk using wpAny_loadPart' hl, wpAny_loadPart' hb
    rw [hi1]
    wp_walk using wpAny_loadPart' hl, wpAny_loadPart' hb
    show R (.ok (.ret (.bool (decide (items.size < items2.size))))) _
    rw [endcase i a c ha hc hi hi2 (.inl ha')]; exact h
  | succ k ih =>
    intro i a c ha hc hi hi2 hk prog w A R s h
    obtain ⟨hp, g, d, tk, os⟩ := s; obtain ⟨hl, hb, h⟩ := h
    obtain ⟨x, a', rfl⟩ : ∃ x a', a = x :: a' := by cases a with | nil => simp at hk | cons x a' => exact ⟨x, a', rfl⟩
    have e1 := congrArg List.length ha
    rw [List.length_drop, hk] at e1
    have gx : a0[i]? = some x := by have := congrArg (·[0]?) ha; simpa [List.getElem?_drop] using this
    obtain ⟨t, hx⟩ := hs.2 i x gx
    have hi1 : items[((i : Nat) : Int).toNat]? = some (.str (S x) t) := by simpa using hx
    cases c with
    | nil =>
      have e2 := congrArg List.length hc
      rw [List.length_drop, List.length_nil] at e2
      have hi3 : items2[((i : Nat) : Int).toNat]? = none := by simp [hs2.1]; omega
      wp_walk using wpAny_loadPart' hl, wpAny_loadPart' hb
      rw [hi1, hi3]
      wp_walk using wpAny_loadPart' hl, wpAny_loadPart' hb
      show R (.ok (.ret (.bool (decide (items.size < items2.size))))) _
      rw [endcase i _ _ ha hc hi hi2 (.inr rfl)]; exact h
    | cons y c' =>
      have gy : c0[i]? = some y := by have := congrArg (·[0]?) hc; simpa [List.getElem?_drop] using this
      obtain ⟨u, hy⟩ := hs2.2 i y gy
      have hi3 : items2[((i : Nat) : Int).toNat]? = some (.str (S y) u) := by simpa using hy
      have hc1 : ((i : Int) + 1) = ((i + 1 : Nat) : Int) := by push_cast; rfl
      wp_walk using wpAny_loadPart' hl, wpAny_loadPart' hb
      rw [hi1, hi3]
      refine wpAny_bind (SeqAt.EqAt.str_str (S x) t (S y) u prog w _ _ ?_)
      rw [S_beq]
      by_cases hxy : x = y
      · subst hxy
        rw [beq_self_eq_true]
        wp_walk
        rw [hc1]
        have d1 : a0.drop (i + 1) = a' := by rw [← List.drop_drop, ha]; rfl
        have d2 : c0.drop (i + 1) = c' := by rw [← List.drop_drop, hc]; rfl
        exact ⟨plainId_quiet plain_eq_loop _, codeAny_builtin entry_eq_loop (by
          rw [Around.under_plainId plain_eq_loop _]
          have e2 := congrArg List.length hc
          rw [List.length_drop, List.length_cons] at e2
          exact ih (i + 1) a' c' d1 d2 (by omega) (by omega) (by simpa using hk) prog w A R _ ⟨hl, hb, by simpa [llt] using h⟩)⟩
      · rw [show (x == y) = false from by simpa using hxy]
        wp_walk using wpAny_loadPart' hl, wpAny_loadPart' hb
        rw [hi1, hi3]
        refine wpAny_bind (rc_str ?_)
        wp_walk
        simpa [llt, hxy, Ne.symm hxy, eq_comm] using h

theorem list_lt (l b : Addr) (items items2 : Array Value) (n n2 : Nat) (dd dd2 : Option Addr) (sl sl2 : Array (Option Value)) (a c : List (List Nat)) (hs : Strs a items) (hs2 : Strs c items2) :
    Meets (Builtin.«list.__lt__» ⟨[.ref l, .ref b], []⟩)
      (fun A R s => s.heap.get? l = some { cls := .type "list", dict := dd, data := .seq items n, slots := sl } ∧ s.heap.get? b = some { cls := .type "list", dict := dd2, data := .seq items2 n2, slots := sl2 } ∧
        R (.ok (.ret (.bool (llt a c)))) s) := by
  intro prog w A R s h
  obtain ⟨hp, g, d, tk, os⟩ := s; obtain ⟨hl, hb, h⟩ := h
  have f3 := AutoSeq1.sub_list_list
  wp_walk using wpAny_loadPart' hl, wpAny_loadPart' hb
  exact ⟨plainId_quiet plain_eq_loop _, codeAny_builtin entry_eq_loop (by
    rw [Around.under_plainId plain_eq_loop _]
    exact lt_loop l b items items2 n n2 dd dd2 sl sl2 a c hs hs2 _ 0 a c rfl rfl (Nat.zero_le _) (Nat.zero_le _) rfl prog w A R _ ⟨hl, hb, h⟩)⟩

theorem rc_lt {A : Around} {s : Shared} {l b : Addr} {items items2 : Array Value} {a c : List (List Nat)} (hl : s.heap.IsList l items) (hb : s.heap.IsList b items2) (hs : Strs a items) (hs2 : Strs c items2) (hu : A.units < cLine)
    {prog : Program} {w : World} {E : Value → Shared → Prop} {Q : Value → Shared → Prop} (h : Q (.bool (llt a c)) s) : wpAny (model prog w) A (richCompare .Lt (.ref l) (.ref b)) Q E s := by
  obtain ⟨⟨cls, dd, data, sl⟩, ho, hc, n, hd⟩ := id hl
  obtain ⟨⟨cls2, dd2, data2, sl2⟩, ho2, hc2, n2, hd2⟩ := id hb
  simp only at hc hd hc2 hd2
  subst hc hd hc2 hd2
  exact richCompare_meets_room (op := .Lt) ⟨_, ho, rfl⟩ ⟨_, ho2, rfl⟩ F.slot_list_lt F.entry_list_lt (F.args_list_lt_2 _ _) (list_lt l b items items2 n n2 dd dd2 sl sl2 a c hs hs2)
    ⟨ho, ho2, show Value.bool (llt a c) ≠ Value.notImplemented ∧ Q (.bool (llt a c)) s from ⟨(fun x => nomatch x), h⟩⟩ hu

theorem gt_loop (l b : Addr) (items items2 : Array Value) (n n2 : Nat) (dd dd2 : Option Addr) (sl sl2 : Array (Option Value)) (a0 c0 : List (List Nat)) (hs : Strs a0 items) (hs2 : Strs c0 items2) (k : Nat) :
    ∀ (i : Nat) (a c : List (List Nat)), a0.drop i = a → c0.drop i = c → i ≤ a0.length → i ≤ c0.length → a.length = k → Meets (Builtin.«list.__eq__.loop» ⟨[.ref l, .ref b, rawInt i, rawInt 4], []⟩)
      (fun A R s => s.heap.get? l = some { cls := .type "list", dict := dd, data := .seq items n, slots := sl } ∧ s.heap.get? b = some { cls := .type "list", dict := dd2, data := .seq items2 n2, slots := sl2 } ∧
        R (.ok (.ret (.bool (llt c a)))) s) := by
  have endcase : ∀ (i : Nat) (a c : List (List Nat)), a0.drop i = a → c0.drop i = c → i ≤ a0.length → i ≤ c0.length → (a = [] ∨ c = []) → (decide (items.size > items2.size)) = (llt c a) := fun i a c ha hc hi hi2 h => by
    have e1 := congrArg List.length ha
    have e2 := congrArg List.length hc
    rw [List.length_drop] at e1 e2
    rw [hs.1, hs2.1]
    cases a <;> cases c <;> simp_all [llt] <;> omega
  induction k with
  | zero =>
    intro i a c ha hc hi hi2 hk prog w A R s h
    obtain ⟨hp, g, d, tk, os⟩ := s; obtain ⟨hl, hb, h⟩ := h
    have ha' := List.eq_nil_of_length_eq_zero hk
    have e1 := congrArg List.length ha
    rw [List.length_drop, hk] at e1
    have hi1 : items[((i : Nat) : Int).toNat]? = none := by simp [hs.1]; omega
    wp_walk using wpAny_loadPart' hl, wpAny_loadPart' hb
    rw [hi1]
    wp_walk using wpAny_loadPart' hl, wpAny_loadPart' hb
    show R (.ok (.ret (.bool (decide (items.size > items2.size))))) _
    rw [endcase i a c ha hc hi hi2 (.inl ha')]; exact h
  | succ k ih =>
    intro i a c ha hc hi hi2 hk prog w A R s h
    obtain ⟨hp, g, d, tk, os⟩ := s; obtain ⟨hl, hb, h⟩ := h
    obtain ⟨x, a', rfl⟩ : ∃ x a', a = x :: a' := by cases a with | nil => simp at hk | cons x a' => exact ⟨x, a', rfl⟩
    have e1 := congrArg List.length ha
    rw [List.length_drop, hk] at e1
    have gx : a0[i]? = some x := by have := congrArg (·[0]?) ha; simpa [List.getElem?_drop] using this
    obtain ⟨t, hx⟩ := hs.2 i x gx
    have hi1 : items[((i : Nat) : Int).toNat]? = some (.str (S x) t) := by simpa using hx
    cases c with
    | nil =>
      have e2 := congrArg List.length hc
      rw [List.length_drop, List.length_nil] at e2
      have hi3 : items2[((i : Nat) : Int).toNat]? = none := by simp [hs2.1]; omega
      wp_walk using wpAny_loadPart' hl, wpAny_loadPart' hb
      rw [hi1, hi3]
      wp_walk using wpAny_loadPart' hl, wpAny_loadPart' hb
      show R (.ok (.ret (.bool (decide (items.size > items2.size))))) _
      rw [endcase i _ _ ha hc hi hi2 (.inr rfl)]; exact h
    | cons y c' =>
      have gy : c0[i]? = some y := by have := congrArg (·[0]?) hc; simpa [List.getElem?_drop] using this
      obtain ⟨u, hy⟩ := hs2.2 i y gy
      have hi3 : items2[((i : Nat) : Int).toNat]? = some (.str (S y) u) := by simpa using hy
      have hc1 : ((i : Int) + 1) = ((i + 1 : Nat) : Int) := by push_cast; rfl
      wp_walk using wpAny_loadPart' hl, wpAny_loadPart' hb
      rw [hi1, hi3]
      refine wpAny_bind (SeqAt.EqAt.str_str (S x) t (S y) u prog w _ _ ?_)
      rw [S_beq]
      by_cases hxy : x = y
      · subst hxy
        rw [beq_self_eq_true]
        wp_walk
        rw [hc1]
        have d1 : a0.drop (i + 1) = a' := by rw [← List.drop_drop, ha]; rfl
        have d2 : c0.drop (i + 1) = c' := by rw [← List.drop_drop, hc]; rfl
        exact ⟨plainId_quiet plain_eq_loop _, codeAny_builtin entry_eq_loop (by
          rw [Around.under_plainId plain_eq_loop _]
          have e2 := congrArg List.length hc
          rw [List.length_drop, List.length_cons] at e2
          exact ih (i + 1) a' c' d1 d2 (by omega) (by omega) (by simpa using hk) prog w A R _ ⟨hl, hb, by simpa [llt] using h⟩)⟩
      · rw [show (x == y) = false from by simpa using hxy]
        wp_walk using wpAny_loadPart' hl, wpAny_loadPart' hb
        rw [hi1, hi3]
        refine wpAny_bind (rc_str' ?_)
        wp_walk
        simpa [llt, hxy, Ne.symm hxy, eq_comm] using h

theorem list_gt (l b : Addr) (items items2 : Array Value) (n n2 : Nat) (dd dd2 : Option Addr) (sl sl2 : Array (Option Value)) (a c : List (List Nat)) (hs : Strs a items) (hs2 : Strs c items2) :
    Meets (Builtin.«list.__gt__» ⟨[.ref l, .ref b], []⟩)
      (fun A R s => s.heap.get? l = some { cls := .type "list", dict := dd, data := .seq items n, slots := sl } ∧ s.heap.get? b = some { cls := .type "list", dict := dd2, data := .seq items2 n2, slots := sl2 } ∧
        R (.ok (.ret (.bool (llt c a)))) s) := by
  intro prog w A R s h
  obtain ⟨hp, g, d, tk, os⟩ := s; obtain ⟨hl, hb, h⟩ := h
  have f3 := AutoSeq1.sub_list_list
  wp_walk using wpAny_loadPart' hl, wpAny_loadPart' hb
  exact ⟨plainId_quiet plain_eq_loop _, codeAny_builtin entry_eq_loop (by
    rw [Around.under_plainId plain_eq_loop _]
    exact gt_loop l b items items2 n n2 dd dd2 sl sl2 a c hs hs2 _ 0 a c rfl rfl (Nat.zero_le _) (Nat.zero_le _) rfl prog w A R _ ⟨hl, hb, h⟩)⟩

theorem rc_gt {A : Around} {s : Shared} {l b : Addr} {items items2 : Array Value} {a c : List (List Nat)} (hl : s.heap.IsList l items) (hb : s.heap.IsList b items2) (hs : Strs a items) (hs2 : Strs c items2) (hu : A.units < cLine)
    {prog : Program} {w : World} {E : Value → Shared → Prop} {Q : Value → Shared → Prop} (h : Q (.bool (llt c a)) s) : wpAny (model prog w) A (richCompare .Gt (.ref l) (.ref b)) Q E s := by
  obtain ⟨⟨cls, dd, data, sl⟩, ho, hc, n, hd⟩ := id hl
  obtain ⟨⟨cls2, dd2, data2, sl2⟩, ho2, hc2, n2, hd2⟩ := id hb
  simp only at hc hd hc2 hd2
  subst hc hd hc2 hd2
  exact richCompare_meets_room (op := .Gt) ⟨_, ho, rfl⟩ ⟨_, ho2, rfl⟩ F.slot_list_gt F.entry_list_gt (F.args_list_gt_2 _ _) (list_gt l b items items2 n n2 dd dd2 sl sl2 a c hs hs2)
    ⟨ho, ho2, show Value.bool (llt c a) ≠ Value.notImplemented ∧ Q (.bool (llt c a)) s from ⟨(fun x => nomatch x), h⟩⟩ hu
end
/-- a comparison that leans on what the heap holds -/
noncomputable def CmpH (prog : Program) (w : World) (A : Around) (op : CmpOp) (Inv : Heap → Prop) (P : Nat → Value → Prop) (bt : Nat → Nat → Bool) : Prop :=
  ∀ i j vi vj (s : Shared) (Q : Value → Shared → Prop) (E : Value → Shared → Prop), Inv s.heap → P i vi → P j vj → Q (.bool (bt i j)) s → wpAny (model prog w) A (richCompare op vi vj) Q E s

section
variable {prog : Program} {w : World} {A : Around} {R : Result → Shared → Prop} {I : Addr} {fp wr : List Addr} {n : Nat} {P : Nat → Value → Prop} {St : Nat → Heap → Prop} {Inv : Heap → Prop}

theorem min_loopH (W : Walks prog w A.in1 I fp wr n P St) (bt : Nat → Nat → Bool) (hcmp : CmpH prog w A.in1 .Lt Inv P bt) (S : Addr) (hSf : S ∉ fp) (hinv : ∀ h h', Inv h → (∀ b o, b ∉ wr → b ≠ S → h.get? b = some o → h'.get? b = some o) → Inv h') :
    ∀ (k j : Nat) (s : Shared) (vb : Value) (c : Nat), n - (j + 1) = k → j + 1 ≤ n → St (j + 1) s.heap → Inv s.heap → P (argBest bt j) vb →
    s.heap.get? S = some { cls := .type "list", dict := none, data := .seq #[vb, vb] c, slots := #[] } →
    (∀ v h' tk, P (argBest bt (n - 1)) v → (∀ b o, b ∉ wr → b ≠ S → s.heap.get? b = some o → h'.get? b = some o) → R (.ok (.ret v)) { s with heap := h', toks := tk }) →
    codeAny (model prog w) A (.builtin "min.loop" ⟨[.ref I, .none, .ref S], []⟩) R s := by
  have hSw : S ∉ wr := fun h => hSf (W.sub _ h)
  have hname : (toString "min" ++ toString ".loop" : String) = "min.loop" := by decide
  intro k
  induction k with
  | zero =>
    intro j s vb c hk hj hst hI hPb hS hR
    have hin : j + 1 = n := by omega
    refine codeAny_builtin F.entry_min_loop ?_
    rw [Around.under_plainId F.plain_min_loop _]
    show wpAny _ A.in1 (seqItems? (.ref S) >>= _) _ _ s
    refine wpAny_bind (wpAny_seqItems hS rfl ?_)
    show wpAny _ A.in1 (tryCatch (pyNext (.ref I)) _ >>= _) _ _ s
    refine wpAny_bind (wpAny_tryCatch (W.done s _ _ (hin ▸ hst) fun h' tk hk' => ?_))
    have hS' := hk' S _ hSw hS
    show wpAny _ A.in1 (updateSeq S (fun _ => #[]) >>= _) _ _ _
    refine wpAny_bind ?_
    refine wpAny_updateSeq hS' rfl (wpAny_bind (wpAny_letGo (wpAny_pure ?_)))
    refine hR vb _ tk (by rw [← hin]; exact hPb) fun b o hbw hbS e => (Heap.get?_update_other _ _ (Ne.symm hbS)).trans (hk' b o hbw e)
  | succ k ih =>
    intro j s vb c hk hj hst hI hPb hS hR
    have hlt : j + 1 < n := by omega
    refine codeAny_builtin F.entry_min_loop ?_
    rw [Around.under_plainId F.plain_min_loop _]
    show wpAny _ A.in1 (seqItems? (.ref S) >>= _) _ _ s
    refine wpAny_bind (wpAny_seqItems hS rfl ?_)
    show wpAny _ A.in1 (tryCatch (pyNext (.ref I)) _ >>= _) _ _ s
    refine wpAny_bind (wpAny_tryCatch (W.item (j + 1) s _ _ hlt hst fun v h' tk hP hst' hk' => ?_))
    have hS' := hk' S _ hSw hS
    have hI' : Inv h' := hinv _ _ hI fun b o hb _ e => hk' b o hb e
    show wpAny _ A.in1 (tryCatch (holding [v, v] (richCompare .Lt v vb >>= _)) _ >>= _) _ _ _
    refine wpAny_bind (wpAny_tryCatch (wpAny_holding (wpAny_bind (hcmp (j + 1) (argBest bt j) v vb _ _ _ hI' hP hPb ?_))))
    refine wpAny_bind (wpAny_holding (wpAny_truthy_bool ?_))
    refine wpAny_bind (wpAny_letGo (wpAny_pure ?_))
    cases hb : bt (j + 1) (argBest bt j) with
    | true =>
      simp only [if_true]
      refine wpAny_bind ?_
      refine wpAny_updateSeq hS' rfl (wpAny_bind (wpAny_letGo ?_))
      rw [hname]
      refine wpAny_pure ⟨plainId_quiet F.plain_min_loop _, ih (j + 1) _ v _ (by omega) hlt (W.frame _ _ _ hst' fun b hbf o e => ?_) (hinv _ _ hI' fun b o _ hbS e => (Heap.get?_update_other _ _ (Ne.symm hbS)).trans e) (by simp only [argBest, hb, if_true]; exact hP) (Heap.get?_update_self _ hS' rfl)
        fun v' h'' tk'' hP' hk'' => ?_⟩
      · exact (Heap.get?_update_other _ _ (fun h : S = b => hSf (by rw [h]; exact hbf))).trans e
      · exact hR v' h'' tk'' hP' fun b o hbw hbS e => hk'' b o hbw hbS ((Heap.get?_update_other _ _ (Ne.symm hbS)).trans (hk' b o hbw e))
    | false =>
      simp only [Bool.false_eq_true, if_false]
      refine wpAny_bind (wpAny_letGo ?_)
      rw [hname]
      refine wpAny_pure ⟨plainId_quiet F.plain_min_loop _, ih (j + 1) _ vb c (by omega) hlt hst' hI' (by simp only [argBest, hb, Bool.false_eq_true, if_false]; exact hPb) hS' fun v' h'' tk'' hP' hk'' => ?_⟩
      exact hR v' h'' tk'' hP' fun b o hbw hbS e => hk'' b o hbw hbS (hk' b o hbw e)

theorem min_firstH (W : Walks prog w A.in1 I fp wr n P St) (bt : Nat → Nat → Bool) (hcmp : CmpH prog w A.in1 .Lt Inv P bt) (S : Addr) (hSf : S ∉ fp) (hinv : ∀ h h', Inv h → (∀ b o, b ∉ wr → b ≠ S → h.get? b = some o → h'.get? b = some o) → Inv h') (hn : 0 < n) {s : Shared} {c : Nat} (hst : St 0 s.heap) (hI : Inv s.heap)
    (hS : s.heap.get? S = some { cls := .type "list", dict := none, data := .seq #[] c, slots := #[] })
    (hR : ∀ v h' tk, P (argBest bt (n - 1)) v → (∀ b o, b ∉ wr → b ≠ S → s.heap.get? b = some o → h'.get? b = some o) → R (.ok (.ret v)) { s with heap := h', toks := tk }) :
    codeAny (model prog w) A (.builtin "min.loop" ⟨[.ref I, .none, .ref S], []⟩) R s := by
  have hSw : S ∉ wr := fun h => hSf (W.sub _ h)
  have hname : (toString "min" ++ toString ".loop" : String) = "min.loop" := by decide
  refine codeAny_builtin F.entry_min_loop ?_
  rw [Around.under_plainId F.plain_min_loop _]
  show wpAny _ A.in1 (seqItems? (.ref S) >>= _) _ _ s
  refine wpAny_bind (wpAny_seqItems hS rfl ?_)
  show wpAny _ A.in1 (tryCatch (pyNext (.ref I)) _ >>= _) _ _ s
  refine wpAny_bind (wpAny_tryCatch (W.item 0 s _ _ hn hst fun v h' tk hP hst' hk' => ?_))
  have hS' := hk' S _ hSw hS
  show wpAny _ A.in1 (updateSeq S (fun _ => #[v, v]) >>= _) _ _ _
  refine wpAny_bind ?_
  refine wpAny_updateSeq hS' rfl ?_
  rw [hname]
  refine wpAny_pure ⟨plainId_quiet F.plain_min_loop _, min_loopH W bt hcmp S hSf hinv _ 0 _ v _ rfl hn (W.frame _ _ _ hst' fun b hbf o e => ?_) (hinv _ _ hI fun b o hb hbS e => (Heap.get?_update_other _ _ (Ne.symm hbS)).trans (hk' b o hb e)) hP (Heap.get?_update_self _ hS' rfl) fun v' h'' tk'' hP' hk'' => ?_⟩
  · exact (Heap.get?_update_other _ _ (fun h : S = b => hSf (by rw [h]; exact hbf))).trans e
  · exact hR v' h'' tk'' hP' fun b o hbw hbS e => hk'' b o hbw hbS ((Heap.get?_update_other _ _ (Ne.symm hbS)).trans (hk' b o hbw e))

theorem call_minH {E : Value → Shared → Prop} {s : Shared} {x : Value} {Q : Value → Shared → Prop}
    (h : wpAny (model prog w) A.in1 (pyIter x) (fun it s₂ => ∃ (I : Addr) (fp wr : List Addr) (n : Nat) (P : Nat → Value → Prop) (St : Nat → Heap → Prop) (bt : Nat → Nat → Bool) (Inv : Heap → Prop), it = .ref I ∧ Walks prog w A.in1 I fp wr n P St ∧ St 0 s₂.heap ∧ Inv s₂.heap ∧ (∀ b ∈ fp, b < s₂.heap.objs.size) ∧ 0 < n ∧ CmpH prog w A.in1 .Lt Inv P bt ∧
      (∀ h h', Inv h → (∀ b o, b ∉ wr → b ≠ s₂.heap.objs.size → h.get? b = some o → h'.get? b = some o) → Inv h') ∧
      ∀ v h' tk, P (argBest bt (n - 1)) v → (∀ b o, b ∉ wr → s₂.heap.get? b = some o → h'.get? b = some o) → Q v { s₂ with heap := h', toks := tk }) E s) :
    wpAny (model prog w) A (PySem.call (.builtin "min") [x]) Q E s := by
  have hname : (toString "min" ++ toString ".loop" : String) = "min.loop" := by decide
  refine call_function_tree F.kind_min F.plain_min F.entry_min (F.args_min1 _) ?_
  show wpAny _ A.in1 (Builtin.Builtins.bindParams "min" ["key", "default"] 0 ⟨[], []⟩ >>= _) _ _ s
  refine wpAny_bind (wpAny_of_eq (show Builtin.Builtins.bindParams "min" ["key", "default"] 0 ⟨[], []⟩ = pure [none, none] from rfl) ?_)
  refine wpAny_bind (wpAny_pure ?_)
  refine wpAny_bind (wpAny_mono h (fun it s₂ h₂ => ?_) fun _ _ e => e)
  obtain ⟨I, fp, wr, n, P, St, bt, Inv, rfl, W, hst, hI, hfp, hn, hcmp, hinv, hQ⟩ := h₂
  refine wpAny_bind (wpAny_newObj_type ?_)
  have hSf : s₂.heap.objs.size ∉ fp := fun hm => Nat.lt_irrefl _ (hfp _ hm)
  rw [hname]
  refine wpAny_pure ⟨plainId_quiet F.plain_min_loop _, min_firstH W bt hcmp s₂.heap.objs.size hSf hinv hn (W.frame _ _ _ hst fun b _ o e => Heap.get?_push_of_some _ e) (hinv _ _ hI fun b o _ _ e => Heap.get?_push_of_some _ e) (Heap.get?_push_size _ rfl) fun v h' tk hP hk => ?_⟩
  exact hQ v h' tk hP fun b o hbw e => hk b o hbw (Nat.ne_of_lt (Heap.lt_size e)) (Heap.get?_push_of_some _ e)

theorem max_loopH (W : Walks prog w A.in1 I fp wr n P St) (bt : Nat → Nat → Bool) (hcmp : CmpH prog w A.in1 .Gt Inv P bt) (S : Addr) (hSf : S ∉ fp) (hinv : ∀ h h', Inv h → (∀ b o, b ∉ wr → b ≠ S → h.get? b = some o → h'.get? b = some o) → Inv h') :
    ∀ (k j : Nat) (s : Shared) (vb : Value) (c : Nat), n - (j + 1) = k → j + 1 ≤ n → St (j + 1) s.heap → Inv s.heap → P (argBest bt j) vb →
    s.heap.get? S = some { cls := .type "list", dict := none, data := .seq #[vb, vb] c, slots := #[] } →
    (∀ v h' tk, P (argBest bt (n - 1)) v → (∀ b o, b ∉ wr → b ≠ S → s.heap.get? b = some o → h'.get? b = some o) → R (.ok (.ret v)) { s with heap := h', toks := tk }) →
    codeAny (model prog w) A (.builtin "max.loop" ⟨[.ref I, .none, .ref S], []⟩) R s := by
  have hSw : S ∉ wr := fun h => hSf (W.sub _ h)
  have hname : (toString "max" ++ toString ".loop" : String) = "max.loop" := by decide
  intro k
  induction k with
  | zero =>
    intro j s vb c hk hj hst hI hPb hS hR
    have hin : j + 1 = n := by omega
    refine codeAny_builtin F.entry_max_loop ?_
    rw [Around.under_plainId F.plain_max_loop _]
    show wpAny _ A.in1 (seqItems? (.ref S) >>= _) _ _ s
    refine wpAny_bind (wpAny_seqItems hS rfl ?_)
    show wpAny _ A.in1 (tryCatch (pyNext (.ref I)) _ >>= _) _ _ s
    refine wpAny_bind (wpAny_tryCatch (W.done s _ _ (hin ▸ hst) fun h' tk hk' => ?_))
    have hS' := hk' S _ hSw hS
    show wpAny _ A.in1 (updateSeq S (fun _ => #[]) >>= _) _ _ _
    refine wpAny_bind ?_
    refine wpAny_updateSeq hS' rfl (wpAny_bind (wpAny_letGo (wpAny_pure ?_)))
    refine hR vb _ tk (by rw [← hin]; exact hPb) fun b o hbw hbS e => (Heap.get?_update_other _ _ (Ne.symm hbS)).trans (hk' b o hbw e)
  | succ k ih =>
    intro j s vb c hk hj hst hI hPb hS hR
    have hlt : j + 1 < n := by omega
    refine codeAny_builtin F.entry_max_loop ?_
    rw [Around.under_plainId F.plain_max_loop _]
    show wpAny _ A.in1 (seqItems? (.ref S) >>= _) _ _ s
    refine wpAny_bind (wpAny_seqItems hS rfl ?_)
    show wpAny _ A.in1 (tryCatch (pyNext (.ref I)) _ >>= _) _ _ s
    refine wpAny_bind (wpAny_tryCatch (W.item (j + 1) s _ _ hlt hst fun v h' tk hP hst' hk' => ?_))
    have hS' := hk' S _ hSw hS
    have hI' : Inv h' := hinv _ _ hI fun b o hb _ e => hk' b o hb e
    show wpAny _ A.in1 (tryCatch (holding [v, v] (richCompare .Gt v vb >>= _)) _ >>= _) _ _ _
    refine wpAny_bind (wpAny_tryCatch (wpAny_holding (wpAny_bind (hcmp (j + 1) (argBest bt j) v vb _ _ _ hI' hP hPb ?_))))
    refine wpAny_bind (wpAny_holding (wpAny_truthy_bool ?_))
    refine wpAny_bind (wpAny_letGo (wpAny_pure ?_))
    cases hb : bt (j + 1) (argBest bt j) with
    | true =>
      simp only [if_true]
      refine wpAny_bind ?_
      refine wpAny_updateSeq hS' rfl (wpAny_bind (wpAny_letGo ?_))
      rw [hname]
      refine wpAny_pure ⟨plainId_quiet F.plain_max_loop _, ih (j + 1) _ v _ (by omega) hlt (W.frame _ _ _ hst' fun b hbf o e => ?_) (hinv _ _ hI' fun b o _ hbS e => (Heap.get?_update_other _ _ (Ne.symm hbS)).trans e) (by simp only [argBest, hb, if_true]; exact hP) (Heap.get?_update_self _ hS' rfl)
        fun v' h'' tk'' hP' hk'' => ?_⟩
      · exact (Heap.get?_update_other _ _ (fun h : S = b => hSf (by rw [h]; exact hbf))).trans e
      · exact hR v' h'' tk'' hP' fun b o hbw hbS e => hk'' b o hbw hbS ((Heap.get?_update_other _ _ (Ne.symm hbS)).trans (hk' b o hbw e))
    | false =>
      simp only [Bool.false_eq_true, if_false]
      refine wpAny_bind (wpAny_letGo ?_)
      rw [hname]
      refine wpAny_pure ⟨plainId_quiet F.plain_max_loop _, ih (j + 1) _ vb c (by omega) hlt hst' hI' (by simp only [argBest, hb, Bool.false_eq_true, if_false]; exact hPb) hS' fun v' h'' tk'' hP' hk'' => ?_⟩
      exact hR v' h'' tk'' hP' fun b o hbw hbS e => hk'' b o hbw hbS (hk' b o hbw e)

theorem max_firstH (W : Walks prog w A.in1 I fp wr n P St) (bt : Nat → Nat → Bool) (hcmp : CmpH prog w A.in1 .Gt Inv P bt) (S : Addr) (hSf : S ∉ fp) (hinv : ∀ h h', Inv h → (∀ b o, b ∉ wr → b ≠ S → h.get? b = some o → h'.get? b = some o) → Inv h') (hn : 0 < n) {s : Shared} {c : Nat} (hst : St 0 s.heap) (hI : Inv s.heap)
    (hS : s.heap.get? S = some { cls := .type "list", dict := none, data := .seq #[] c, slots := #[] })
    (hR : ∀ v h' tk, P (argBest bt (n - 1)) v → (∀ b o, b ∉ wr → b ≠ S → s.heap.get? b = some o → h'.get? b = some o) → R (.ok (.ret v)) { s with heap := h', toks := tk }) :
    codeAny (model prog w) A (.builtin "max.loop" ⟨[.ref I, .none, .ref S], []⟩) R s := by
  have hSw : S ∉ wr := fun h => hSf (W.sub _ h)
  have hname : (toString "max" ++ toString ".loop" : String) = "max.loop" := by decide
  refine codeAny_builtin F.entry_max_loop ?_
  rw [Around.under_plainId F.plain_max_loop _]
  show wpAny _ A.in1 (seqItems? (.ref S) >>= _) _ _ s
  refine wpAny_bind (wpAny_seqItems hS rfl ?_)
  show wpAny _ A.in1 (tryCatch (pyNext (.ref I)) _ >>= _) _ _ s
  refine wpAny_bind (wpAny_tryCatch (W.item 0 s _ _ hn hst fun v h' tk hP hst' hk' => ?_))
  have hS' := hk' S _ hSw hS
  show wpAny _ A.in1 (updateSeq S (fun _ => #[v, v]) >>= _) _ _ _
  refine wpAny_bind ?_
  refine wpAny_updateSeq hS' rfl ?_
  rw [hname]
  refine wpAny_pure ⟨plainId_quiet F.plain_max_loop _, max_loopH W bt hcmp S hSf hinv _ 0 _ v _ rfl hn (W.frame _ _ _ hst' fun b hbf o e => ?_) (hinv _ _ hI fun b o hb hbS e => (Heap.get?_update_other _ _ (Ne.symm hbS)).trans (hk' b o hb e)) hP (Heap.get?_update_self _ hS' rfl) fun v' h'' tk'' hP' hk'' => ?_⟩
  · exact (Heap.get?_update_other _ _ (fun h : S = b => hSf (by rw [h]; exact hbf))).trans e
  · exact hR v' h'' tk'' hP' fun b o hbw hbS e => hk'' b o hbw hbS ((Heap.get?_update_other _ _ (Ne.symm hbS)).trans (hk' b o hbw e))

theorem call_maxH {E : Value → Shared → Prop} {s : Shared} {x : Value} {Q : Value → Shared → Prop}
    (h : wpAny (model prog w) A.in1 (pyIter x) (fun it s₂ => ∃ (I : Addr) (fp wr : List Addr) (n : Nat) (P : Nat → Value → Prop) (St : Nat → Heap → Prop) (bt : Nat → Nat → Bool) (Inv : Heap → Prop), it = .ref I ∧ Walks prog w A.in1 I fp wr n P St ∧ St 0 s₂.heap ∧ Inv s₂.heap ∧ (∀ b ∈ fp, b < s₂.heap.objs.size) ∧ 0 < n ∧ CmpH prog w A.in1 .Gt Inv P bt ∧
      (∀ h h', Inv h → (∀ b o, b ∉ wr → b ≠ s₂.heap.objs.size → h.get? b = some o → h'.get? b = some o) → Inv h') ∧
      ∀ v h' tk, P (argBest bt (n - 1)) v → (∀ b o, b ∉ wr → s₂.heap.get? b = some o → h'.get? b = some o) → Q v { s₂ with heap := h', toks := tk }) E s) :
    wpAny (model prog w) A (PySem.call (.builtin "max") [x]) Q E s := by
  have hname : (toString "max" ++ toString ".loop" : String) = "max.loop" := by decide
  refine call_function_tree F.kind_max F.plain_max F.entry_max (F.args_max1 _) ?_
  show wpAny _ A.in1 (Builtin.Builtins.bindParams "max" ["key", "default"] 0 ⟨[], []⟩ >>= _) _ _ s
  refine wpAny_bind (wpAny_of_eq (show Builtin.Builtins.bindParams "max" ["key", "default"] 0 ⟨[], []⟩ = pure [none, none] from rfl) ?_)
  refine wpAny_bind (wpAny_pure ?_)
  refine wpAny_bind (wpAny_mono h (fun it s₂ h₂ => ?_) fun _ _ e => e)
  obtain ⟨I, fp, wr, n, P, St, bt, Inv, rfl, W, hst, hI, hfp, hn, hcmp, hinv, hQ⟩ := h₂
  refine wpAny_bind (wpAny_newObj_type ?_)
  have hSf : s₂.heap.objs.size ∉ fp := fun hm => Nat.lt_irrefl _ (hfp _ hm)
  rw [hname]
  refine wpAny_pure ⟨plainId_quiet F.plain_max_loop _, max_firstH W bt hcmp s₂.heap.objs.size hSf hinv hn (W.frame _ _ _ hst fun b _ o e => Heap.get?_push_of_some _ e) (hinv _ _ hI fun b o _ _ e => Heap.get?_push_of_some _ e) (Heap.get?_push_size _ rfl) fun v h' tk hP hk => ?_⟩
  exact hQ v h' tk hP fun b o hbw e => hk b o hbw (Nat.ne_of_lt (Heap.lt_size e)) (Heap.get?_push_of_some _ e)
end

noncomputable def btmin (ls : List (List (List Nat))) (i j : Nat) : Bool := llt (ls.getD i []) (ls.getD j [])
noncomputable def btmax (ls : List (List (List Nat))) (i j : Nat) : Bool := llt (ls.getD j []) (ls.getD i [])
section
variable {X : Cx} {Γ : Gam}

/-- min of a list of lists of texts -/
theorem Ev.min {p pos : Pos} {e : PySem.Expr} {i : Nat} {ls : List (List (List Nat))} (hi : X.env.scope.names[i]? = some (("min" : PySem.Str), .globalImplicit)) (hs : Ev X Γ e (.lst (ls.map fun l => .lst (l.map .str)))) (hne : 0 < ls.length)
    (he : nst e = true := by rfl) : Ev X Γ (.Call (.Name "min" p) [e] [] pos) (.lst ((ls.getD (argBest (btmin ls) (ls.length - 1)) []).map .str)) :=
  Ev.bi hi (by decide +kernel) PyProof.Rows.Boot.«min» (by decide) (EvL.cons hs EvL.nil he) (fun A s ad Q E vs0 hr g r hq => by
    obtain ⟨v, rfl, r1⟩ := reps1 r
    simp only [Rep] at r1
    obtain ⟨a, vs, rfl, hb, hl, rs, hz⟩ := r1
    have el := Reps.length _ _ rs
    rw [List.length_map] at el
    obtain ⟨o, e1, e2, n, e3⟩ := id hl
    have halt := Heap.lt_size e1
    refine wp_toks (call_minH (wpAny_pyIter_list hl ⟨s.heap.objs.size, [s.heap.objs.size, a], [s.heap.objs.size], vs.toArray.size, fun i v => vs.toArray[i]? = some v, fun i h => h.IsListIter s.heap.objs.size a i ∧ h.IsList a vs.toArray, btmin ls,
      fun h => Reps (fun b => X.ban ad Γ b ∨ s.heap.objs.size ≤ b) h (ls.map fun l => .lst (l.map .str)) vs, rfl, Walks.list (A := A.in1) hr.1 _ a (Nat.ne_of_lt halt) _, ⟨⟨_, Heap.get?_push_size _ rfl, rfl, rfl⟩, hl.push _⟩, Reps.up kp_push.s _ _ (Reps.bar (fun b o xs n hb' e _ => hb'.elim id fun h => absurd (Heap.lt_size e) (Nat.not_lt.mpr h)) _ _ rs), ?_, by simpa [el] using hne, ?_, ?_, ?_⟩))
    · intro b hb'
      rw [Heap.size_push]
      simp only [List.mem_cons, List.not_mem_nil, or_false] at hb'
      rcases hb' with rfl | rfl
      · exact Nat.lt_succ_self _
      · exact Nat.lt_succ_of_lt halt
    · intro i j vi vj s' Q' E' hI hvi hvj hQ'
      obtain ⟨d, f1, f2⟩ := Reps.get' _ _ i vi hI (by simpa using hvi)
      obtain ⟨d', f3, f4⟩ := Reps.get' _ _ j vj hI (by simpa using hvj)
      rw [List.getElem?_map] at f1 f3
      cases q1 : ls[i]? with
      | none => rw [q1] at f1; cases f1
      | some x =>
        cases q2 : ls[j]? with
        | none => rw [q2] at f3; cases f3
        | some y =>
          rw [q1] at f1; rw [q2] at f3
          cases f1; cases f3
          simp only [Rep] at f2 f4
          obtain ⟨b1, ws1, rfl, _, l1, t1, _⟩ := f2
          obtain ⟨b2, ws2, rfl, _, l2, t2, _⟩ := f4
          refine rc_lt l1 l2 (Strs.of t1) (Strs.of t2) (by show A.units + 1 < cLine; have := hr.units; omega) ?_
          simpa [btmin, q1, q2] using hQ'
    · intro h h' hI hk
      refine Reps.up (h := h) (fun b o xs n nb e dd => ?_) _ _ hI
      refine hk b o (fun q => nb (.inr ?_)) (fun q => nb (.inr ?_)) e
      · rw [List.mem_singleton.mp q]; exact Nat.le_refl _
      · rw [q, Heap.size_push]; exact Nat.le_succ _
    · intro v h' tk hv hk htk
      have kp : Kp s.heap h' := fun b o e => hk b o (fun q => by rw [List.mem_singleton.mp q] at e; exact Nat.lt_irrefl _ (Heap.lt_size e)) (Heap.get?_push_of_some _ e)
      obtain ⟨d, f1, f2⟩ := Reps.get' _ _ _ v rs (by simpa using hv)
      rw [el, List.getElem?_map] at f1
      cases q1 : ls[argBest (btmin ls) (ls.length - 1)]? with
      | none => rw [q1] at f1; cases f1
      | some x =>
        rw [q1] at f1
        cases f1
        rw [show ls.getD (argBest (btmin ls) (ls.length - 1)) [] = x from by simp [q1]] at hq
        exact hq _ _ (step_heap kp htk) (Rep.up kp.s _ _ f2)) he

/-- max of a list of lists of texts -/
theorem Ev.max {p pos : Pos} {e : PySem.Expr} {i : Nat} {ls : List (List (List Nat))} (hi : X.env.scope.names[i]? = some (("max" : PySem.Str), .globalImplicit)) (hs : Ev X Γ e (.lst (ls.map fun l => .lst (l.map .str)))) (hne : 0 < ls.length)
    (he : nst e = true := by rfl) : Ev X Γ (.Call (.Name "max" p) [e] [] pos) (.lst ((ls.getD (argBest (btmax ls) (ls.length - 1)) []).map .str)) :=
  Ev.bi hi (by decide +kernel) PyProof.Rows.Boot.«max» (by decide) (EvL.cons hs EvL.nil he) (fun A s ad Q E vs0 hr g r hq => by
    obtain ⟨v, rfl, r1⟩ := reps1 r
    simp only [Rep] at r1
    obtain ⟨a, vs, rfl, hb, hl, rs, hz⟩ := r1
    have el := Reps.length _ _ rs
    rw [List.length_map] at el
    obtain ⟨o, e1, e2, n, e3⟩ := id hl
    have halt := Heap.lt_size e1
    refine wp_toks (call_maxH (wpAny_pyIter_list hl ⟨s.heap.objs.size, [s.heap.objs.size, a], [s.heap.objs.size], vs.toArray.size, fun i v => vs.toArray[i]? = some v, fun i h => h.IsListIter s.heap.objs.size a i ∧ h.IsList a vs.toArray, btmax ls,
      fun h => Reps (fun b => X.ban ad Γ b ∨ s.heap.objs.size ≤ b) h (ls.map fun l => .lst (l.map .str)) vs, rfl, Walks.list (A := A.in1) hr.1 _ a (Nat.ne_of_lt halt) _, ⟨⟨_, Heap.get?_push_size _ rfl, rfl, rfl⟩, hl.push _⟩, Reps.up kp_push.s _ _ (Reps.bar (fun b o xs n hb' e _ => hb'.elim id fun h => absurd (Heap.lt_size e) (Nat.not_lt.mpr h)) _ _ rs), ?_, by simpa [el] using hne, ?_, ?_, ?_⟩))
    · intro b hb'
      rw [Heap.size_push]
      simp only [List.mem_cons, List.not_mem_nil, or_false] at hb'
      rcases hb' with rfl | rfl
      · exact Nat.lt_succ_self _
      · exact Nat.lt_succ_of_lt halt
    · intro i j vi vj s' Q' E' hI hvi hvj hQ'
      obtain ⟨d, f1, f2⟩ := Reps.get' _ _ i vi hI (by simpa using hvi)
      obtain ⟨d', f3, f4⟩ := Reps.get' _ _ j vj hI (by simpa using hvj)
      rw [List.getElem?_map] at f1 f3
      cases q1 : ls[i]? with
      | none => rw [q1] at f1; cases f1
      | some x =>
        cases q2 : ls[j]? with
        | none => rw [q2] at f3; cases f3
        | some y =>
          rw [q1] at f1; rw [q2] at f3
          cases f1; cases f3
          simp only [Rep] at f2 f4
          obtain ⟨b1, ws1, rfl, _, l1, t1, _⟩ := f2
          obtain ⟨b2, ws2, rfl, _, l2, t2, _⟩ := f4
          refine rc_gt l1 l2 (Strs.of t1) (Strs.of t2) (by show A.units + 1 < cLine; have := hr.units; omega) ?_
          simpa [btmax, q1, q2] using hQ'
    · intro h h' hI hk
      refine Reps.up (h := h) (fun b o xs n nb e dd => ?_) _ _ hI
      refine hk b o (fun q => nb (.inr ?_)) (fun q => nb (.inr ?_)) e
      · rw [List.mem_singleton.mp q]; exact Nat.le_refl _
      · rw [q, Heap.size_push]; exact Nat.le_succ _
    · intro v h' tk hv hk htk
      have kp : Kp s.heap h' := fun b o e => hk b o (fun q => by rw [List.mem_singleton.mp q] at e; exact Nat.lt_irrefl _ (Heap.lt_size e)) (Heap.get?_push_of_some _ e)
      obtain ⟨d, f1, f2⟩ := Reps.get' _ _ _ v rs (by simpa using hv)
      rw [el, List.getElem?_map] at f1
      cases q1 : ls[argBest (btmax ls) (ls.length - 1)]? with
      | none => rw [q1] at f1; cases f1
      | some x =>
        rw [q1] at f1
        cases f1
        rw [show ls.getD (argBest (btmax ls) (ls.length - 1)) [] = x from by simp [q1]] at hq
        exact hq _ _ (step_heap kp htk) (Rep.up kp.s _ _ f2)) he
end
section
seal Ev EvO Tr XS XJ EvL Pt Cmp Bin Spec Tst It Emit
noncomputable def mnL (ls : List (List (List Nat))) : List (List Nat) := ls.getD (argBest (btmin ls) (ls.length - 1)) []
noncomputable def mxL (ls : List (List (List Nat))) : List (List Nat) := ls.getD (argBest (btmax ls) (ls.length - 1)) []
noncomputable def lcp : List (List Nat) → List (List Nat) → List (List Nat)
  | x :: a, y :: b => if x = y then x :: lcp a b else []
  | _, _ => []
theorem lcp_nil (b : List (List Nat)) : lcp [] b = [] := by cases b <;> rfl
theorem lcp_pre : ∀ (p a b : List (List Nat)), lcp (p ++ a) (p ++ b) = p ++ lcp a b
  | [], _, _ => rfl
  | x :: p, a, b => by simp [lcp, lcp_pre p a b]
theorem llt_pre : ∀ (p a b : List (List Nat)), llt (p ++ a) (p ++ b) = llt a b
  | [], _, _ => rfl
  | x :: p, a, b => by simp [llt, llt_pre p a b]

noncomputable def enumI (k : Nat) : List (List Nat) → List (List D)
  | [] => []
  | x :: a => [.int k, .str x] :: enumI (k + 1) a
theorem enum_eq : ∀ (a : List (List Nat)) (k : Nat), ((a.map D.str).mapIdx fun i d => D.tup [.int ((i + k : Nat) : Int), d]) = (enumI k a).map .tup
  | [], k => rfl
  | x :: a, k => by
    rw [List.map_cons, List.mapIdx_cons, enumI, List.map_cons, ← enum_eq a (k + 1)]
    simp [Nat.add_assoc, Nat.add_comm 1 k]
theorem enumD_eq (a : List (List Nat)) : enumD (a.map D.str) = (enumI 0 a).map .tup := by
  have := enum_eq a 0
  unfold enumD
  rw [← this]
  rfl
theorem enumI_len : ∀ (a : List (List Nat)) (k : Nat), ∀ l ∈ enumI k a, l.length = 2
  | [], _, l, h => by cases h
  | x :: a, k, l, h => by
    unfold enumI at h
    rcases List.mem_cons.mp h with rfl | h
    · rfl
    · exact enumI_len a (k + 1) l h

/-- the walk along the first of two lists, up to the first place where they part -/
theorem ForJ.lcp {X : Cx} {Φ : Out → Prop} {tgt : D → Gam → Gam} {body : List Stmt} (I : Gam → Prop) (s1 s2 : List (List Nat)) (turnE : ∀ (p a b : List (List Nat)) x Γ, s1 = p ++ x :: a → s2 = p ++ x :: b → I Γ → XJ X (tgt (.tup [.int p.length, .str x]) Γ) body (fun o => ∃ Γ', o = .next Γ' ∧ I Γ'))
    (turnN : ∀ (p a b : List (List Nat)) x y Γ, x ≠ y → s1 = p ++ x :: a → s2 = p ++ y :: b → I Γ → XJ X (tgt (.tup [.int p.length, .str x]) Γ) body (Turn Φ (fun _ => False)))
    (fin : ∀ Γ, I Γ → lcp s1 s2 = s1 → Φ (.next Γ)) : ∀ (a b p : List (List Nat)) Γ, s1 = p ++ a → s2 = p ++ b → llt b a = false → I Γ → ForJ X tgt body Φ ((enumI p.length a).map .tup) Γ
  | [], b, p, Γ, h1, h2, _, hI => fin Γ hI (by rw [h1, h2, lcp_pre, lcp_nil])
  | x :: a, [], p, Γ, _, _, hl, _ => by simp [llt] at hl
  | x :: a, y :: b, p, Γ, h1, h2, hl, hI => by
    show XJ X (tgt (.tup [.int p.length, .str x]) Γ) body _
    by_cases hxy : x = y
    · subst hxy
      refine (turnE p a b x Γ h1 h2 hI).mono fun o ho => ?_
      obtain ⟨Γ', rfl, hI'⟩ := ho
      have := ForJ.lcp I s1 s2 turnE turnN fin a b (p ++ [x]) Γ' (by rw [h1]; simp) (by rw [h2]; simp) (by simpa [llt] using hl) hI'
      rw [List.length_append] at this
      exact this
    · refine (turnN p a b x y Γ hxy h1 h2 hI).mono fun o ho => ?_
      cases o with
      | next Γ' => exact ho.elim
      | cont Γ' => exact ho.elim
      | brk Γ' => exact ho
      | ret d => exact ho

theorem It.cast {X : Cx} {Γ : Gam} {t e : PySem.Expr} {ds ds' : List D} {z : Bool} (h : It X Γ t e ds z) (he : ds = ds') : It X Γ t e ds' z := he ▸ h

theorem pre_item {p : List (List Nat)} {y : List Nat} {b : List (List Nat)} {s2 : List (List Nat)} (h : s2 = p ++ y :: b) : (s2.map D.str)[((p.length : Nat) : Int).toNat]? = some (.str y) := by
  subst h; simp
theorem pre_slice {p a s1 : List (List Nat)} (h : s1 = p ++ a) : slc (s1.map D.str) none (some (p.length : Int)) = p.map .str := by
  subst h; rw [slc_to]; simp

theorem commonprefix_spec {G : Gl} (hG : GP G) (a b : List (List Nat)) (hl : llt (mxL [a, b]) (mnL [a, b]) = false) :
    Spec G "commonprefix" 2 [.lst [.lst (a.map .str), .lst (b.map .str)]] (.lst ((lcp (mnL [a, b]) (mxL [a, b])).map .str)) := by
  refine Spec.fn (i := 10) (xs := ["m"]) hG (by decide) (bind_1 (by decide +kernel) fun fd hp hd v => by unfold bindArgs; rw [hp, hd]; rfl) rfl (by decide +kernel) 12 fun L a' q cd B h₀ => ?_
  have h : dfAt 10 = ⟨_, _, _, _⟩ := rfl
  unfold cx
  rw [h]
  show XJ _ [some (.v _), none, none, none, none, none, none, none, none, none, none, none, none] _ _
  refine XJ.cons (XS.iteF (Tr.cast (Tr.not (Tr.plain (Ev.o (Ev.name (i := 0) rfl rfl ⟨rfl, rfl⟩)))) rfl) (XJ.nil ?_))
  refine XJ.cons (XS.iteF (Tr.cast (Tr.not (Tr.plain (Ev.o (Ev.isSeq (atK 5 rfl) (Ev.itemN (Ev.o (Ev.name (i := 0) rfl rfl ⟨rfl, rfl⟩)) Ev.int (by walk_at "side") (by walk_at "ix")) (Ev.ty (atK 6 rfl) (by decide +kernel) PyProof.Rows.Boot.«list» (by decide)) (Ev.ty (atK 7 rfl) (by decide +kernel) PyProof.Rows.Boot.«tuple» (by decide)))))) rfl) (XJ.nil ?_))
  refine XJ.cons (XS.asg (i := 1) (Ev.min (ls := [a, b]) (atK 10 rfl) (Ev.name (i := 0) rfl rfl ⟨rfl, rfl⟩) (Nat.succ_pos _)) rfl (.inl rfl) ?_)
  refine XJ.cons (XS.asg (i := 2) (Ev.max (ls := [a, b]) (atK 11 rfl) (Ev.name (i := 0) rfl rfl ⟨rfl, rfl⟩) (Nat.succ_pos _)) rfl (.inl rfl) ?_)
  generalize hs1 : mnL [a, b] = s1 at *
  generalize hs2 : mxL [a, b] = s2 at *
  have e1 : [a, b].getD (argBest (btmin [a, b]) ([a, b].length - 1)) [] = s1 := hs1
  have e2 : [a, b].getD (argBest (btmax [a, b]) ([a, b].length - 1)) [] = s2 := hs2
  rw [e1, e2]
  refine XJ.cons (XS.forT (is := [3, 4]) (It.cast (It.enum (atK 12 rfl) (Ev.name (i := 1) rfl rfl ⟨rfl, rfl⟩)) (enumD_eq s1)) ⟨⟨.local, rfl, .inl rfl⟩, ⟨.local, rfl, .inl rfl⟩, trivial⟩ (enumI_len s1 0)
    (ForJ.lcp (fun Γ => ∃ c1 c2, Γ = [some (.v (.lst [.lst (a.map .str), .lst (b.map .str)])), some (.v (.lst (s1.map .str))), some (.v (.lst (s2.map .str))), c1, c2, none, none, none, none, none, none, none, none]) s1 s2 ?_ ?_ ?_ s1 s2 [] _ rfl rfl hl ⟨none, none, rfl⟩))
  · rintro p u v x Γ h1 h2 ⟨c1, c2, rfl⟩
    have hi := pre_item h2
    have hn : (0 : Int) ≤ (p.length : Int) := Int.natCast_nonneg _
    refine XJ.cons (XS.iteF (Tr.cast (Tr.cm (Ev.o (Ev.name (i := 4) rfl rfl ⟨rfl, rfl⟩)) (Ev.o (Ev.itemN (Ev.o (Ev.name (i := 2) rfl rfl ⟨rfl, rfl⟩)) (Ev.name (i := 3) rfl rfl ⟨rfl, rfl⟩) (by walk_at "side") (by walk_at "ix"))) (by walk_at "cmp")) (by simp)) ?_)
    exact XJ.nil (XJ.nil ⟨_, rfl, _, _, rfl⟩)
  · rintro p u v x y Γ hxy h1 h2 ⟨c1, c2, rfl⟩
    have hi := pre_item h2
    have hn : (0 : Int) ≤ (p.length : Int) := Int.natCast_nonneg _
    refine XJ.cons (XS.iteT (Tr.cast (Tr.cm (Ev.o (Ev.name (i := 4) rfl rfl ⟨rfl, rfl⟩)) (Ev.o (Ev.itemN (Ev.o (Ev.name (i := 2) rfl rfl ⟨rfl, rfl⟩)) (Ev.name (i := 3) rfl rfl ⟨rfl, rfl⟩) (by walk_at "side") (by walk_at "ix"))) (by walk_at "cmp")) (by simpa using hxy)) ?_)
    have e3 : lcp s1 s2 = p := by rw [h1, h2, lcp_pre]; simp [lcp, hxy]
    rw [e3]
    exact XJ.cons (XS.ret (Ev.cast (by first | exact Ev.sliceS (Ev.name (i := 1) rfl rfl ⟨rfl, rfl⟩) Pt.no (Pt.so (Ev.name (i := 3) rfl rfl ⟨rfl, rfl⟩)) | exact Ev.sliceL (Ev.o (Ev.name (i := 1) rfl rfl ⟨rfl, rfl⟩)) Pt.no (Pt.so (Ev.name (i := 3) rfl rfl ⟨rfl, rfl⟩))) (by rw [pre_slice h1])) rfl)
  · rintro Γ ⟨c1, c2, rfl⟩ he
    rw [he]
    exact XJ.cons (XS.ret (Ev.name (i := 1) rfl rfl ⟨rfl, rfl⟩) rfl)
end
section
variable {X : Cx} {Γ : Gam}
theorem Cmp.is_none {x : List Nat} : Cmp X Γ .Is (.str x) .non false := fun A s ad Q E v u hr g rv ru hq => by
  simp only [RepO, Rep] at rv ru
  obtain ⟨t, rfl, _⟩ := rv; subst ru
  exact is_str_none (hq s (Step.refl s))
theorem EvO.cast {e : PySem.Expr} {a b : D} (h : EvO X Γ e a) (hab : a = b) : EvO X Γ e b := hab ▸ h
end
theorem bind_def {i : Nat} {x y : PySem.Str} {d e : D} (hn : (dfAt i).params.defaults.length = 1)
    (h : ∀ fd : FuncData, fd.params = (dfAt i).params → ∀ v u, ∃ k : Option (Array Value) → Sem (List (PySem.Str × Value)), bindArgs fd ⟨[v, u], []⟩ = (seqItems? fd.defaults >>= k) ∧ ∀ z, k (some #[z]) = pure ([x, y].zip [v, u])) : Binds (dfAt i) [x, y] [d, e] [d, e] :=
  fun fd M A s B vs E Q hp hd hB r hq => by
    rcases hd with ⟨e0, _⟩ | ⟨_, T, ot, items, n, e1, e2, e3, e4⟩
    · rw [e0] at hn; cases hn
    · obtain ⟨v, u, rfl, r1, r2⟩ := reps2 r
      obtain ⟨k, h1, h2⟩ := h fd hp v u
      rw [hn] at e4
      obtain ⟨z, rfl⟩ : ∃ z, items = #[z] := by
        obtain ⟨l⟩ := items
        match l, e4 with
        | [z], _ => exact ⟨z, rfl⟩
      rw [h1, e1]
      refine wpAny_bind (wpAny_seqItems e2 e3 ?_)
      rw [h2]
      exact wpAny_pure (hq _ s (Step.refl s) r)
theorem kdef {α β : Type} {m : Sem β} {x : Sem α} {k : α → Sem β} {P : (α → Sem β) → Prop} (h1 : m = (x >>= k)) (h2 : P k) : ∃ k, m = (x >>= k) ∧ P k := ⟨k, h1, h2⟩
theorem bind18 {d e : D} : Binds (dfAt 18) ["path", "start"] [d, e] [d, e] := bind_def (by decide +kernel) fun fd hp v u => by
  have h18 : dfAt 18 = ⟨_, _, _, _⟩ := rfl
  rw [h18] at hp
  unfold bindArgs
  rw [hp]
  exact kdef rfl fun z => rfl
section
seal Ev EvO Tr XS XJ EvL Pt Cmp Bin Spec Tst It Emit
noncomputable def tl (t : List Nat) : List (List Nat) := if t.isEmpty then [] else splt 47 t
noncomputable def rlp (p s : List Nat) : List Nat :=
  let a := tl (dropL 47 (nrm s))
  let b := tl (dropL 47 (nrm p))
  let i := (lcp (mnL [a, b]) (mxL [a, b])).length
  let rel := List.replicate ((a.length : Int) - (i : Int)).toNat [46, 46] ++ b.drop i
  if rel.isEmpty then [46] else jn [47] rel
theorem tl_wt (t : List Nat) : wt (tl t) ≤ t.length + 1 := by
  unfold tl; split
  · simp [wt]
  · rw [wt_splt]; exact Nat.le_refl _
theorem wt_rep (k : Nat) : wt (List.replicate k [46, 46]) = 3 * k := by
  induction k with
  | zero => rfl
  | succ k ih => rw [List.replicate_succ, wt_cons, ih]; simp; omega
theorem wt_drop (i : Nat) (a : List (List Nat)) : wt (a.drop i) ≤ wt a := by
  conv => rhs; rw [← List.take_append_drop i a, wt_append]
  omega
theorem wt_ge (a : List (List Nat)) : a.length ≤ wt a := by have := wt_len a; omega
theorem lcp_len : ∀ a b : List (List Nat), (lcp a b).length ≤ a.length
  | [], b => by rw [lcp_nil]; simp
  | x :: a, [] => by simp [lcp]
  | x :: a, y :: b => by
    have := lcp_len a b
    unfold lcp
    split <;> simp <;> omega
theorem mnL_two (a b : List (List Nat)) : mnL [a, b] = if llt b a then b else a := by
  unfold mnL
  show [a, b].getD (argBest (btmin [a, b]) 1) [] = _
  unfold argBest
  show [a, b].getD (if llt b a then 1 else 0) [] = _
  split <;> rfl
theorem mxL_two (a b : List (List Nat)) : mxL [a, b] = if llt a b then b else a := by
  unfold mxL
  show [a, b].getD (argBest (btmax [a, b]) 1) [] = _
  unfold argBest
  show [a, b].getD (if llt a b then 1 else 0) [] = _
  split <;> rfl
theorem lcp_two (a b : List (List Nat)) : (lcp (mnL [a, b]) (mxL [a, b])).length ≤ a.length + b.length := by
  rw [mnL_two]
  by_cases h : llt b a = true
  · rw [if_pos h]
    have := lcp_len b (mxL [a, b])
    omega
  · rw [if_neg h]
    have := lcp_len a (mxL [a, b])
    omega
theorem flat_rep (k : Nat) (d : D) : (List.replicate k [d]).flatten = List.replicate k d := by
  induction k with
  | zero => rfl
  | succ k ih => rw [List.replicate_succ, List.flatten_cons, ih]; rfl

theorem relpath_spec {G : Gl} (hG : GP G) (p s : List Nat) (hp : p.length ≤ 400000) (hs : s.length ≤ 400000) (hap : p.head? = some 47) (has : s.head? = some 47) (hnp : (nrm p).length ≤ 100000) (hns : (nrm s).length ≤ 100000)
    (hl : llt (mxL [tl (dropL 47 (nrm s)), tl (dropL 47 (nrm p))]) (mnL [tl (dropL 47 (nrm s)), tl (dropL 47 (nrm p))]) = false) : Spec G "relpath" 5 [.str p, .str s] (.str (rlp p s)) := by
  have s1 := fspath_spec hG p
  have s2 := fspath_spec hG s
  have s3 := abspath_spec hG s hs has
  have s4 := abspath_spec hG p hp hap
  refine Spec.fn (i := 18) (xs := ["path", "start"]) hG (by decide) bind18 rfl (by decide +kernel) 20 fun L a' q cd B h₀ => ?_
  have h : dfAt 18 = ⟨_, _, _, _⟩ := rfl
  unfold cx
  rw [h]
  show XJ _ [some (.v _), some (.v _), none, none, none, none, none, none, none, none, none, none, none, none, none, none, none, none, none, none, none, none] _ _
  have hne : p.isEmpty = false := by cases p with | nil => simp at hap | cons _ _ => rfl
  refine XJ.cons (XS.asg (i := 0) (Ev.call (atK 11 rfl) (EvL.cons (Ev.name (i := 0) rfl rfl ⟨rfl, rfl⟩) EvL.nil rfl) (s1) (Nat.le_of_ble_eq_true rfl) rfl) rfl (by first | exact .inl rfl | exact .inr rfl) ?_) <;> try dsimp only [List.set]
  refine XJ.cons (XS.iteF (Tr.cast (Tr.not (Tr.plain (Ev.o (Ev.name (i := 0) rfl rfl ⟨rfl, rfl⟩)))) (by simp [D.tru, hne])) (XJ.nil ?_))
  refine XJ.cons (XS.iteF (Tr.plain (Ev.o (Ev.isBytes (atK 13 rfl) (atK 14 rfl) (Ev.name (i := 0) rfl rfl ⟨rfl, rfl⟩)))) ?_)
  refine XJ.cons (XS.asg (i := 2) (Ev.strK K10 (by decide)) rfl (by first | exact .inl rfl | exact .inr rfl) ?_) <;> try dsimp only [List.set]
  refine XJ.cons (XS.asg (i := 3) (Ev.strK K9 (by decide)) rfl (by first | exact .inl rfl | exact .inr rfl) ?_) <;> try dsimp only [List.set]
  refine XJ.cons (XS.asg (i := 4) (Ev.strK K11 (by decide)) rfl (by first | exact .inl rfl | exact .inr rfl) ?_) <;> try dsimp only [List.set]
  refine XJ.nil ?_
  refine XJ.cons (XS.iteF (Tr.cm (Ev.o (Ev.name (i := 1) rfl rfl ⟨rfl, rfl⟩)) (Ev.o Ev.non) Cmp.is_none) ?_)
  refine XJ.cons (XS.asg (i := 1) (Ev.call (atK 11 rfl) (EvL.cons (Ev.name (i := 1) rfl rfl ⟨rfl, rfl⟩) EvL.nil rfl) (s2) (Nat.le_of_ble_eq_true rfl) rfl) rfl (by first | exact .inl rfl | exact .inr rfl) ?_) <;> try dsimp only [List.set]
  refine XJ.nil ?_
  refine XJ.cons (XS.try_ ?_)
  refine XJ.cons (XS.asg (i := 5) (Ev.lstrip (Ev.call (atK 15 rfl) (EvL.cons (Ev.name (i := 1) rfl rfl ⟨rfl, rfl⟩) EvL.nil rfl) (s3) (Nat.le_of_ble_eq_true rfl) rfl) (Ev.name (i := 3) rfl rfl ⟨rfl, rfl⟩) rfl) rfl (by first | exact .inl rfl | exact .inr rfl) ?_) <;> try dsimp only [List.set]
  refine XJ.cons (XS.asg (i := 6) (Ev.lstrip (Ev.call (atK 15 rfl) (EvL.cons (Ev.name (i := 0) rfl rfl ⟨rfl, rfl⟩) EvL.nil rfl) (s4) (Nat.le_of_ble_eq_true rfl) rfl) (Ev.name (i := 3) rfl rfl ⟨rfl, rfl⟩) rfl) rfl (by first | exact .inl rfl | exact .inr rfl) ?_) <;> try dsimp only [List.set]
  have l1 := dropL_len 47 (nrm s)
  have l2 := dropL_len 47 (nrm p)
  have hr : rlp p s = if (List.replicate (((tl (dropL 47 (nrm s))).length : Int) - ((lcp (mnL [tl (dropL 47 (nrm s)), tl (dropL 47 (nrm p))]) (mxL [tl (dropL 47 (nrm s)), tl (dropL 47 (nrm p))])).length : Int)).toNat [46, 46] ++ (tl (dropL 47 (nrm p))).drop (lcp (mnL [tl (dropL 47 (nrm s)), tl (dropL 47 (nrm p))]) (mxL [tl (dropL 47 (nrm s)), tl (dropL 47 (nrm p))])).length).isEmpty then [46] else jn [47] (List.replicate (((tl (dropL 47 (nrm s))).length : Int) - ((lcp (mnL [tl (dropL 47 (nrm s)), tl (dropL 47 (nrm p))]) (mxL [tl (dropL 47 (nrm s)), tl (dropL 47 (nrm p))])).length : Int)).toNat [46, 46] ++ (tl (dropL 47 (nrm p))).drop (lcp (mnL [tl (dropL 47 (nrm s)), tl (dropL 47 (nrm p))]) (mxL [tl (dropL 47 (nrm s)), tl (dropL 47 (nrm p))])).length) := rfl
  rw [hr]
  generalize ht : dropL 47 (nrm s) = t1 at *
  generalize ht2 : dropL 47 (nrm p) = t2 at *
  have w1 := tl_wt t1
  have w2 := tl_wt t2
  have w3 := wt_ge (tl t1)
  have w4 := wt_ge (tl t2)
  refine XJ.cons (XS.asg (i := 7) (d := .lst ((tl t1).map .str)) (Ev.cast (Ev.ifexp (Tr.plain (Ev.o (Ev.name (i := 5) rfl rfl ⟨rfl, rfl⟩))) (fun hc => (Ev.split (Ev.name (i := 5) rfl rfl ⟨rfl, rfl⟩) (Ev.name (i := 3) rfl rfl ⟨rfl, rfl⟩) rfl)) (fun hc => (Ev.lst EvL.nil (Nat.le_of_ble_eq_true rfl)))) ?_) rfl (.inl rfl) ?_) <;> try dsimp only [List.set]
  · unfold tl; cases t1 <;> rfl
  refine XJ.cons (XS.asg (i := 8) (d := .lst ((tl t2).map .str)) (Ev.cast (Ev.ifexp (Tr.plain (Ev.o (Ev.name (i := 6) rfl rfl ⟨rfl, rfl⟩))) (fun hc => (Ev.split (Ev.name (i := 6) rfl rfl ⟨rfl, rfl⟩) (Ev.name (i := 3) rfl rfl ⟨rfl, rfl⟩) rfl)) (fun hc => (Ev.lst EvL.nil (Nat.le_of_ble_eq_true rfl)))) ?_) rfl (.inl rfl) ?_) <;> try dsimp only [List.set]
  · unfold tl; cases t2 <;> rfl
  have s5 := commonprefix_spec hG (tl t1) (tl t2) hl
  have w5 := lcp_two (tl t1) (tl t2)
  generalize hi : lcp (mnL [tl t1, tl t2]) (mxL [tl t1, tl t2]) = pre at *
  refine XJ.cons (XS.asg (i := 9) (d := .int pre.length) (Ev.cast (by first | exact Ev.lenS (atK 16 rfl) (Ev.call (atK 17 rfl) (EvL.cons (Ev.lst (EvL.cons (Ev.name (i := 7) rfl rfl ⟨rfl, rfl⟩) (EvL.cons (Ev.name (i := 8) rfl rfl ⟨rfl, rfl⟩) EvL.nil rfl) rfl) (Nat.le_of_ble_eq_true rfl)) EvL.nil rfl) (s5) (Nat.le_of_ble_eq_true rfl) rfl) | exact Ev.lenL (atK 16 rfl) (Ev.o (Ev.call (atK 17 rfl) (EvL.cons (Ev.lst (EvL.cons (Ev.name (i := 7) rfl rfl ⟨rfl, rfl⟩) (EvL.cons (Ev.name (i := 8) rfl rfl ⟨rfl, rfl⟩) EvL.nil rfl) rfl) (Nat.le_of_ble_eq_true rfl)) EvL.nil rfl) (s5) (Nat.le_of_ble_eq_true rfl) rfl))) (by rw [List.length_map])) rfl (.inl rfl) ?_) <;> try dsimp only [List.set]
  generalize hk : (((tl t1).length : Int) - (pre.length : Int)) = n at *
  have hn : n.toNat ≤ (tl t1).length := by omega
  have e1 : (D.lst ((List.replicate n.toNat [D.str [46, 46]]).flatten ++ slc ((tl t2).map D.str) (some (pre.length : Int)) none)) = .lst ((List.replicate n.toNat [46, 46] ++ (tl t2).drop pre.length).map .str) := by
    rw [flat_rep, slc_from, List.map_append, List.map_replicate, List.map_drop]
  refine XJ.cons (XS.asg (i := 10) (d := .lst ((List.replicate n.toNat [46, 46] ++ (tl t2).drop pre.length).map .str)) (Ev.cast (Ev.bin (Ev.o (Ev.mul_lst (n := n) (EvL.cons (Ev.name (i := 4) rfl rfl ⟨rfl, rfl⟩) EvL.nil rfl) (Ev.cast (Ev.bin (Ev.o (by first | exact Ev.lenS (atK 16 rfl) (Ev.name (i := 7) rfl rfl ⟨rfl, rfl⟩) | exact Ev.lenL (atK 16 rfl) (Ev.o (Ev.name (i := 7) rfl rfl ⟨rfl, rfl⟩)))) (Ev.o (Ev.name (i := 9) rfl rfl ⟨rfl, rfl⟩)) (by walk_at "bin")) (by rw [List.length_map, hk])) (by simp) (by omega) (by omega) (by simp; omega) (by simp))) (Ev.o (by first | exact Ev.sliceS (Ev.name (i := 8) rfl rfl ⟨rfl, rfl⟩) (Pt.so (Ev.name (i := 9) rfl rfl ⟨rfl, rfl⟩)) Pt.no | exact Ev.sliceL (Ev.o (Ev.name (i := 8) rfl rfl ⟨rfl, rfl⟩)) (Pt.so (Ev.name (i := 9) rfl rfl ⟨rfl, rfl⟩)) Pt.no)) (Bin.add_lst ?_)) e1) rfl (.inl rfl) ?_) <;> try dsimp only [List.set]
  · rw [flat_rep, slc_from]
    simp
    omega
  have hw : wt (List.replicate n.toNat [46, 46] ++ (tl t2).drop pre.length) ≤ 600000 := by
    rw [wt_append, wt_rep]
    have := wt_drop pre.length (tl t2)
    omega
  generalize hrel : List.replicate n.toNat [46, 46] ++ (tl t2).drop pre.length = rel at *
  have hwl := wt_len rel
  have hjl := jn_wt 47 rel
  refine XJ.cons (XS.ite (Tr.not (Tr.plain (Ev.o (Ev.name (i := 10) rfl rfl ⟨rfl, rfl⟩)))) (fun hc => ?_) (fun hc => ?_))
  · have e2 : rel.isEmpty = true := by simpa [D.tru] using hc
    rw [e2]
    exact XJ.cons (XS.ret (Ev.name (i := 2) rfl rfl ⟨rfl, rfl⟩) rfl)
  · have e2 : rel.isEmpty = false := by simpa [D.tru] using hc
    rw [e2]
    refine XJ.nil ?_
    have hz1 : (rel.map (·.length)).sum + rel.length * ([47] : List Nat).length ≤ 16777216 := by simp; omega
    have hz2 : (jn [47] rel).length ≤ 1048576 := by omega
    exact XJ.cons (XS.ret (Ev.join (Ev.name (i := 3) rfl rfl ⟨rfl, rfl⟩) (Ev.name (i := 10) rfl rfl ⟨rfl, rfl⟩) (by first | exact hz1 | walk_at "side") (by first | exact hz2 | walk_at "side") rfl) rfl)
end
section
seal Ev EvO Tr XS XJ EvL Pt Cmp Bin Spec Tst It Emit
noncomputable def mk : List (List Nat) := [[], [47], [46, 46], [38], [97], [46], [60], [62], [34], [47, 46, 46, 47], [13], [10], [9], [38, 108, 116, 59], [47, 98], [98, 46]]
noncomputable def mkAt (i : Int) : List Nat := mk.getD i.toNat []
theorem mk_at {i : Int} (h : i.toNat < 16) : ([.str [], .str [47], .str [46, 46], .str [38], .str [97], .str [46], .str [60], .str [62], .str [34], .str [47, 46, 46, 47], .str [13], .str [10], .str [9], .str [38, 108, 116, 59], .str [47, 98], .str [98, 46]] : List D)[i.toNat]? = some (.str (mkAt i)) := by
  have e : ([.str [], .str [47], .str [46, 46], .str [38], .str [97], .str [46], .str [60], .str [62], .str [34], .str [47, 46, 46, 47], .str [13], .str [10], .str [9], .str [38, 108, 116, 59], .str [47, 98], .str [98, 46]] : List D) = mk.map .str := rfl
  have hl : i.toNat < mk.length := h
  rw [e, List.getElem?_map, List.getElem?_eq_getElem hl]
  unfold mkAt
  simp [hl]
theorem mkAt_len (i : Int) : (mkAt i).length ≤ 4 := by
  unfold mkAt
  rw [List.getD_eq_getElem?_getD]
  rcases Nat.lt_or_ge i.toNat mk.length with h | h
  · rw [List.getElem?_eq_getElem h]
    have : ∀ x ∈ mk, x.length ≤ 4 := by decide
    exact this _ (List.getElem_mem h)
  · rw [List.getElem?_eq_none h]; simp
noncomputable def pthP (q : Int) : List Nat := mkAt (q.fmod 16) ++ mkAt ((q.fdiv 16).fmod 16) ++ mkAt ((q.fdiv 256).fmod 16) ++ mkAt ((q.fdiv 4096).fmod 16)
theorem pth_len (q : Int) : (pthP q).length ≤ 16 := by
  unfold pthP
  have h1 := mkAt_len (q.fmod 16)
  have h2 := mkAt_len ((q.fdiv 16).fmod 16)
  have h3 := mkAt_len ((q.fdiv 256).fmod 16)
  have h4 := mkAt_len ((q.fdiv 4096).fmod 16)
  simp only [List.length_append]
  omega

theorem path_spec {G : Gl} (hG : GP G) (q : Int) : Spec G "_law_path" 1 [.int q] (.str (pthP q)) := by
  have f : ∀ a : Int, 0 ≤ a.fmod 16 ∧ (a.fmod 16).toNat < 16 := fun a => by
    have h1 := Int.fmod_nonneg_of_pos a (b := 16) (by decide)
    have h2 := Int.fmod_lt_of_pos a (b := 16) (by decide)
    omega
  have a1 := f q
  have a2 := f (q.fdiv 16)
  have a3 := f (q.fdiv 256)
  have a4 := f (q.fdiv 4096)
  have b1 := a1.1
  have b2 := a2.1
  have b3 := a3.1
  have b4 := a4.1
  have c1 := mk_at a1.2
  have c2 := mk_at a2.2
  have c3 := mk_at a3.2
  have c4 := mk_at a4.2
  have h1 := mkAt_len (q.fmod 16)
  have h2 := mkAt_len ((q.fdiv 16).fmod 16)
  have h3 := mkAt_len ((q.fdiv 256).fmod 16)
  have h4 := mkAt_len ((q.fdiv 4096).fmod 16)
  refine Spec.fn (i := 20) (xs := ["q"]) hG (by decide) (bind_1 (by decide +kernel) fun fd hp hd v => by unfold bindArgs; rw [hp, hd]; rfl) rfl (by decide +kernel) 1 fun L a' q' cd B h₀ => ?_
  have h : dfAt 20 = ⟨_, _, _, _⟩ := rfl
  unfold cx
  rw [h]
  show XJ _ [some (.v _), none] _ _
  refine XJ.cons (XS.asg (i := 1) (Ev.lst (EvL.cons (Ev.strK K8 (by decide)) (EvL.cons (Ev.strK K9 (by decide)) (EvL.cons (Ev.strK K11 (by decide)) (EvL.cons (Ev.strK K12 (by decide)) (EvL.cons (Ev.strK K13 (by decide)) (EvL.cons (Ev.strK K10 (by decide)) (EvL.cons (Ev.strK K14 (by decide)) (EvL.cons (Ev.strK K15 (by decide)) (EvL.cons (Ev.strK K16 (by decide)) (EvL.cons (Ev.strK K17 (by decide)) (EvL.cons (Ev.strK K18 (by decide)) (EvL.cons (Ev.strK K19 (by decide)) (EvL.cons (Ev.strK K20 (by decide)) (EvL.cons (Ev.strK K21 (by decide)) (EvL.cons (Ev.strK K22 (by decide)) (EvL.cons (Ev.strK K23 (by decide)) EvL.nil rfl) rfl) rfl) rfl) rfl) rfl) rfl) rfl) rfl) rfl) rfl) rfl) rfl) rfl) rfl) rfl) (Nat.le_of_ble_eq_true rfl)) rfl (by first | exact .inl rfl | exact .inr rfl) ?_) <;> try dsimp only [List.set]
  unfold pthP
  exact XJ.cons (XS.ret (Ev.bin (Ev.o (Ev.bin (Ev.o (Ev.bin (Ev.o (Ev.itemN (Ev.o (Ev.name (i := 1) rfl rfl ⟨rfl, rfl⟩)) (Ev.bin (Ev.o (Ev.name (i := 0) rfl rfl ⟨rfl, rfl⟩)) (Ev.o Ev.int) (by walk_at "bin")) (by walk_at "side") (by walk_at "ix"))) (Ev.o (Ev.itemN (Ev.o (Ev.name (i := 1) rfl rfl ⟨rfl, rfl⟩)) (Ev.bin (Ev.o (Ev.bin (Ev.o (Ev.name (i := 0) rfl rfl ⟨rfl, rfl⟩)) (Ev.o Ev.int) (by walk_at "bin"))) (Ev.o Ev.int) (by walk_at "bin")) (by walk_at "side") (by walk_at "ix"))) (by walk_at "bin"))) (Ev.o (Ev.itemN (Ev.o (Ev.name (i := 1) rfl rfl ⟨rfl, rfl⟩)) (Ev.bin (Ev.o (Ev.bin (Ev.o (Ev.name (i := 0) rfl rfl ⟨rfl, rfl⟩)) (Ev.o Ev.int) (by walk_at "bin"))) (Ev.o Ev.int) (by walk_at "bin")) (by walk_at "side") (by walk_at "ix"))) (by walk_at "bin"))) (Ev.o (Ev.itemN (Ev.o (Ev.name (i := 1) rfl rfl ⟨rfl, rfl⟩)) (Ev.bin (Ev.o (Ev.bin (Ev.o (Ev.name (i := 0) rfl rfl ⟨rfl, rfl⟩)) (Ev.o Ev.int) (by walk_at "bin"))) (Ev.o Ev.int) (by walk_at "bin")) (by walk_at "side") (by walk_at "ix"))) (by walk_at "bin")) rfl)

noncomputable def isE (p : List Nat) : Bool := p.isEmpty
noncomputable def trimR (f : List (List Nat)) : List (List Nat) := (f.reverse.dropWhile isE).reverse
noncomputable def fold (ps : List (List Nat)) : List (List Nat) :=
  let front := ps.dropLast
  if (jn [] front).isEmpty then List.replicate (if front.isEmpty then 1 else front.length + 1) [] else trimR front
theorem jn_nil : ∀ ps : List (List Nat), jn [] ps = ps.flatten
  | [] => rfl
  | [p] => by simp [jn]
  | p :: q :: r => by
    have := jn_nil (q :: r)
    show p ++ [] ++ jn [] (q :: r) = _
    rw [this]; simp
theorem trimR_snoc (l : List (List Nat)) (y : List Nat) : trimR (l ++ [y]) = if y.isEmpty then trimR l else l ++ [y] := by
  unfold trimR
  rw [List.reverse_append]
  show ((y :: l.reverse).dropWhile isE).reverse = _
  rw [List.dropWhile_cons]
  unfold isE
  cases y <;> simp

theorem folder_spec {G : Gl} (hG : GP G) (ps : List (List Nat)) (hw : wt ps ≤ 100000) : Spec G "_law_folder" 1 [.lst (ps.map .str)] (.lst ((fold ps).map .str)) := by
  refine Spec.fn (i := 25) (xs := ["pieces"]) hG (by decide) (bind_1 (by decide +kernel) fun fd hp hd v => by unfold bindArgs; rw [hp, hd]; rfl) rfl (by decide +kernel) 2 fun L a' q' cd B h₀ => ?_
  have h : dfAt 25 = ⟨_, _, _, _⟩ := rfl
  unfold cx
  rw [h]
  show XJ _ [some (.v _), none, none] _ _
  have hd := wt_dropLast ps
  refine XJ.cons (XS.asg (i := 1) (d := .lst (ps.dropLast.map .str)) (Ev.cast (by first | exact Ev.sliceS (Ev.name (i := 0) rfl rfl ⟨rfl, rfl⟩) Pt.no (Pt.so (Ev.neg Ev.int)) | exact Ev.sliceL (Ev.o (Ev.name (i := 0) rfl rfl ⟨rfl, rfl⟩)) Pt.no (Pt.so (Ev.neg Ev.int))) ?_) rfl (.inl rfl) ?_)
  · rw [show (-1 : Int) = -1 from rfl, slc_butlast, List.map_dropLast]
  dsimp only [List.set]
  have hf : fold ps = if (jn [] ps.dropLast).isEmpty then List.replicate (if ps.dropLast.isEmpty then 1 else ps.dropLast.length + 1) [] else trimR ps.dropLast := rfl
  rw [hf]
  generalize ps.dropLast = f at *
  have hwl := wt_len f
  have hz1 : (f.map (·.length)).sum + f.length * ([] : List Nat).length ≤ 16777216 := by simp; omega
  have hz2 : (jn [] f).length ≤ 1048576 := by
    rw [jn_nil, List.length_flatten]
    show (f.map (fun x => x.length)).sum ≤ _
    omega
  refine XJ.cons (XS.ite (Tr.cm (Ev.o (Ev.join (Ev.strK K8 (by decide)) (Ev.name (i := 1) rfl rfl ⟨rfl, rfl⟩) (by first | exact hz1 | walk_at "side") (by first | exact hz2 | walk_at "side") rfl)) (Ev.o (Ev.strK K8 (by decide))) (by walk_at "cmp")) (fun hc => ?_) (fun hc => ?_))
  · have e : (jn [] f).isEmpty = true := by simpa using hc
    rw [e]
    refine XJ.cons (XS.ret (Ev.cast (Ev.mul_lst (n := if f.isEmpty then 1 else f.length + 1) (EvL.cons (Ev.strK K8 (by decide)) EvL.nil rfl) (Ev.cast (Ev.ifexp (Tr.plain (Ev.o (Ev.name (i := 1) rfl rfl ⟨rfl, rfl⟩))) (fun hc => (Ev.bin (Ev.o (by first | exact Ev.lenS (atK 2 rfl) (Ev.name (i := 1) rfl rfl ⟨rfl, rfl⟩) | exact Ev.lenL (atK 2 rfl) (Ev.o (Ev.name (i := 1) rfl rfl ⟨rfl, rfl⟩)))) (Ev.o Ev.int) (by walk_at "bin"))) (fun hc => Ev.int)) ?_) (by simp) ?_ ?_ ?_ (by simp)) ?_) rfl)
    · cases f <;> simp [D.tru]
    · split <;> omega
    · split <;> omega
    · split <;> simp <;> omega
    · rw [flat_rep]
      have e3 : (if f.isEmpty then (1 : Int) else f.length + 1).toNat = if f.isEmpty then 1 else f.length + 1 := by split <;> omega
      rw [e3]
      show D.lst _ = .lst (List.map D.str (List.replicate _ _))
      rw [List.map_replicate]
  · have e : (jn [] f).isEmpty = false := by simpa using hc
    rw [e]
    refine XJ.nil ?_
    have hex : ∃ x ∈ f, x ≠ [] := by
      refine Classical.byContradiction fun hn => ?_
      have : jn [] f = [] := by
        rw [jn_nil, List.flatten_eq_nil_iff]
        intro l hl
        exact Classical.byContradiction fun h => hn ⟨l, hl, h⟩
      rw [this] at e; cases e
    refine XJ.cons (XS.whil (fun n Γ => ∃ g : List (List Nat), g.length = n ∧ (∃ x ∈ g, x ≠ []) ∧ trimR g = trimR f ∧ Γ = [some (.v (.lst (ps.map .str))), some (.v (.lst (g.map .str))), none]) ?_ f.length ⟨f, rfl, hex, rfl, rfl⟩)
    rintro n Γ' ⟨g, rfl, hg, ht, rfl⟩
    rcases List.eq_nil_or_concat g with rfl | ⟨l, y, rfl⟩
    · obtain ⟨x, hx, _⟩ := hg; cases hx
    rw [List.concat_eq_append] at *
    have hlast : ((l ++ [y]).map D.str).getLast? = some (.str y) := by simp
    refine ⟨_, (Tr.cm (Ev.o (Ev.itemL (Ev.o (Ev.name (i := 1) rfl rfl ⟨rfl, rfl⟩)) (Ev.neg Ev.int) rfl (by walk_at "ix"))) (Ev.o (Ev.strK K8 (by decide))) (by walk_at "cmp")), fun hy => ?_, fun hy => ?_⟩
    · have hy' : y = [] := by simpa using hy
      subst hy'
      refine XJ.cons (XS.asg (i := 1) (d := .lst (l.map .str)) (Ev.cast (by first | exact Ev.sliceS (Ev.name (i := 1) rfl rfl ⟨rfl, rfl⟩) Pt.no (Pt.so (Ev.neg Ev.int)) | exact Ev.sliceL (Ev.o (Ev.name (i := 1) rfl rfl ⟨rfl, rfl⟩)) Pt.no (Pt.so (Ev.neg Ev.int))) ?_) rfl (.inl rfl) ?_)
      · rw [slc_butlast]; simp
      refine XJ.nil ⟨l.length, by simp, l, rfl, ?_, ?_, rfl⟩
      · obtain ⟨x, hx, hne⟩ := hg
        rw [List.mem_append] at hx
        rcases hx with hx | hx
        · exact ⟨x, hx, hne⟩
        · simp at hx; exact absurd hx hne
      · rw [← ht, trimR_snoc]; rfl
    · have hy' : y.isEmpty = false := by simpa using hy
      have e2 : trimR f = l ++ [y] := by rw [← ht, trimR_snoc, hy']; rfl
      rw [e2]
      exact XJ.cons (XS.ret (Ev.name (i := 1) rfl rfl ⟨rfl, rfl⟩) rfl)
end
section
seal Ev EvO Tr XS XJ EvL Pt Cmp Bin Spec Tst It Emit
theorem dw_nil {α : Type} {p : α → Bool} : ∀ l : List α, l.dropWhile p = [] → ∀ x ∈ l, p x = true
  | [], _, x, h => by cases h
  | a :: l, hd, x, h => by
    rw [List.dropWhile_cons] at hd
    split at hd
    · rename_i ha
      rcases List.mem_cons.mp h with rfl | h
      · exact ha
      · exact dw_nil l hd x h
    · cases hd
theorem fold_ne (ps : List (List Nat)) : fold ps ≠ [] := by
  unfold fold
  generalize ps.dropLast = f
  dsimp only
  split
  · cases f <;> simp [List.replicate_succ]
  · rename_i h
    intro he
    apply h
    have : ∀ l : List (List Nat), trimR l = [] → jn [] l = [] := fun l hl => by
      unfold trimR at hl
      rw [List.reverse_eq_nil_iff] at hl
      rw [jn_nil, List.flatten_eq_nil_iff]
      intro x hx
      have := dw_nil _ hl x (List.mem_reverse.mpr hx)
      unfold isE at this
      simpa using this
    rw [this f he]; rfl
theorem wt_trimR (f : List (List Nat)) : wt (trimR f) ≤ wt f := by
  induction hn : f.length generalizing f with
  | zero => rw [List.eq_nil_of_length_eq_zero hn]; simp [trimR]
  | succ n ih =>
    rcases List.eq_nil_or_concat f with rfl | ⟨l, y, rfl⟩
    · simp at hn
    · rw [List.concat_eq_append] at *
      rw [trimR_snoc, wt_append]
      simp at hn
      split
      · have := ih l hn; omega
      · rw [wt_append]; exact Nat.le_refl _
theorem wt_repE (k : Nat) : wt (List.replicate k []) = k := by
  induction k with
  | zero => rfl
  | succ k ih => rw [List.replicate_succ, wt_cons, ih]; simp; omega
theorem wt_folder (ps : List (List Nat)) : wt (fold ps) ≤ wt ps + 1 := by
  unfold fold
  have h1 := wt_dropLast ps
  have h2 := wt_ge ps
  have h3 : ps.dropLast.length = ps.length - 1 := by simp
  generalize ps.dropLast = f at *
  dsimp only
  split
  · rw [wt_repE]
    split
    · omega
    · rename_i hf
      have : f.length ≠ 0 := fun h => hf (by rw [List.eq_nil_of_length_eq_zero h]; rfl)
      omega
  · have := wt_trimR f; omega

noncomputable def bhd (above : List (List Nat)) (t : List Nat) : List (List Nat) :=
  if slc t none (some 1) == [47] then splt 47 t else (if (fold above).getLast?.getD [] == [] then (fold above).dropLast else fold above) ++ splt 47 t
theorem wt_bhd (above : List (List Nat)) (t : List Nat) : wt (bhd above t) ≤ wt above + t.length + 2 := by
  unfold bhd
  have h1 := wt_folder above
  have h2 := wt_dropLast (fold above)
  split
  · rw [wt_splt]; omega
  · rw [wt_append, wt_splt]
    split <;> omega

theorem behind_spec {G : Gl} (hG : GP G) (ps : List (List Nat)) (t : List Nat) (hw : wt ps ≤ 100000) (ht : t.length ≤ 100000) : Spec G "_law_behind" 2 [.lst (ps.map .str), .str t] (.lst ((bhd ps t).map .str)) := by
  have s1 := folder_spec hG ps hw
  have h1 := wt_folder ps
  have h2 := wt_ge (fold ps)
  have h3 := splt_count (c := 47) (x := t)
  refine Spec.fn (i := 26) (xs := ["above", "text"]) hG (by decide) (bind_2 (by decide +kernel) fun fd hp hd v u => by unfold bindArgs; rw [hp, hd]; rfl) rfl (by decide +kernel) 2 fun L a' q' cd B h₀ => ?_
  have h : dfAt 26 = ⟨_, _, _, _⟩ := rfl
  unfold cx
  rw [h]
  show XJ _ [some (.v _), some (.v _), none, none] _ _
  unfold bhd
  refine XJ.cons (XS.ite (Tr.cm (Ev.o (by first | exact Ev.sliceS (Ev.name (i := 1) rfl rfl ⟨rfl, rfl⟩) Pt.no (Pt.so Ev.int) | exact Ev.sliceL (Ev.o (Ev.name (i := 1) rfl rfl ⟨rfl, rfl⟩)) Pt.no (Pt.so Ev.int))) (Ev.o (Ev.strK K9 (by decide))) (by walk_at "cmp")) (fun hc => ?_) (fun hc => ?_))
  · rw [if_pos hc]
    exact XJ.cons (XS.ret (Ev.split (Ev.name (i := 1) rfl rfl ⟨rfl, rfl⟩) (Ev.strK K9 (by decide)) rfl) rfl)
  · rw [if_neg (by rw [hc]; decide)]
    refine XJ.nil ?_
    have hne := fold_ne ps
    refine XJ.cons (XS.asg (i := 2) (Ev.call (atK 3 rfl) (EvL.cons (Ev.name (i := 0) rfl rfl ⟨rfl, rfl⟩) EvL.nil rfl) (s1) (Nat.le_of_ble_eq_true rfl) rfl) rfl (by first | exact .inl rfl | exact .inr rfl) ?_) <;> try dsimp only [List.set]
    generalize fold ps = f at *
    rcases List.eq_nil_or_concat f with rfl | ⟨l, y, rfl⟩
    · exact absurd rfl hne
    rw [List.concat_eq_append] at *
    have hlast : ((l ++ [y]).map D.str).getLast? = some (.str y) := by simp
    have e1 : (l ++ [y]).getLast?.getD [] = y := by simp
    have e2 : slc ((l ++ [y]).map D.str) none (some (-1)) = l.map .str := by rw [slc_butlast]; simp
    rw [e1, List.dropLast_concat]
    refine XJ.cons (XS.ret (Ev.cast (Ev.bin (z := .lst (((if y == [] then l else l ++ [y]) ++ splt 47 t).map .str)) (Ev.o (Ev.cast (b := .lst ((if y == [] then l else l ++ [y]).map .str)) (Ev.ifexp (Tr.cm (Ev.o (Ev.itemL (Ev.o (Ev.name (i := 2) rfl rfl ⟨rfl, rfl⟩)) (Ev.neg Ev.int) rfl (by walk_at "ix"))) (Ev.o (Ev.strK K8 (by decide))) (by walk_at "cmp")) (fun hc => (by first | exact Ev.sliceS (Ev.name (i := 2) rfl rfl ⟨rfl, rfl⟩) Pt.no (Pt.so (Ev.neg Ev.int)) | exact Ev.sliceL (Ev.o (Ev.name (i := 2) rfl rfl ⟨rfl, rfl⟩)) Pt.no (Pt.so (Ev.neg Ev.int)))) (fun hc => (Ev.name (i := 2) rfl rfl ⟨rfl, rfl⟩))) ?_)) (Ev.o (Ev.split (Ev.name (i := 1) rfl rfl ⟨rfl, rfl⟩) (Ev.strK K9 (by decide)) rfl)) ?_) rfl) rfl)
    · rw [e2]; cases y <;> rfl
    · have e5 : D.lst (((if y == [] then l else l ++ [y]) ++ splt 47 t).map .str) = .lst ((if y == [] then l else l ++ [y]).map .str ++ (splt 47 t).map .str) := by rw [List.map_append]
      rw [e5]
      refine Bin.add_lst ?_
      rw [List.length_map, List.length_map]
      have h4 : (if y == [] then l else l ++ [y]).length ≤ (l ++ [y]).length := by split <;> simp
      omega

noncomputable def plcS (ps : List (List Nat)) : Nat := (ps.dropLast.takeWhile isE).length
noncomputable def pstep (sl : Nat) (st : Nat × List (List Nat)) (p : List Nat) : Nat × List (List Nat) :=
  if p == [46, 46] then (if !st.2.isEmpty then (st.1, st.2.dropLast) else if sl == 0 then (st.1 + 1, st.2) else st)
  else if !([[], [46]] : List (List Nat)).contains p then (st.1, st.2 ++ [p]) else st
noncomputable def plc (ps : List (List Nat)) : List Nat :=
  let sl := plcS ps
  let st := ps.foldl (pstep sl) (0, [])
  let q := (if sl == 2 then [47, 47] else if sl != 0 then [47] else []) ++ jn [47] (List.replicate st.1 [46, 46] ++ st.2)
  if q.isEmpty then [46] else q

theorem wt_pstep (sl : Nat) (st : Nat × List (List Nat)) (p : List Nat) : 3 * (pstep sl st p).1 + wt (pstep sl st p).2 ≤ 3 * st.1 + wt st.2 + 3 * (p.length + 1) := by
  unfold pstep
  have h := wt_dropLast st.2
  split
  · split
    · dsimp only; omega
    · split
      · dsimp only; omega
      · omega
  · split
    · dsimp only; rw [wt_append]; simp [wt]; omega
    · omega
theorem wt_pfold (sl : Nat) : ∀ (cs : List (List Nat)) (st : Nat × List (List Nat)), 3 * (cs.foldl (pstep sl) st).1 + wt (cs.foldl (pstep sl) st).2 ≤ 3 * st.1 + wt st.2 + 3 * wt cs
  | [], st => by simp [wt]
  | c :: cs, st => by
    have h1 := wt_pfold sl cs (pstep sl st c)
    have h2 := wt_pstep sl st c
    rw [List.foldl_cons, wt_cons]; omega

theorem place_spec {G : Gl} (hG : GP G) (ps : List (List Nat)) (hw : wt ps ≤ 100000) : Spec G "_law_place" 1 [.lst (ps.map .str)] (.str (plc ps)) := by
  have hlen := wt_ge ps
  refine Spec.fn (i := 27) (xs := ["pieces"]) hG (by decide) (bind_1 (by decide +kernel) fun fd hp hd v => by unfold bindArgs; rw [hp, hd]; rfl) rfl (by decide +kernel) 6 fun L a' q' cd B h₀ => ?_
  have h : dfAt 27 = ⟨_, _, _, _⟩ := rfl
  unfold cx
  rw [h]
  show XJ _ [some (.v _), none, none, none, none, none, none] _ _
  refine XJ.cons (XS.swap (is := [3, 2, 1]) (xs := ["ups", "names", "slashes"]) (Ev.tup (EvL.cons Ev.int (EvL.cons (Ev.lst EvL.nil (Nat.le_of_ble_eq_true rfl)) (EvL.cons Ev.int EvL.nil rfl) rfl) rfl) (Nat.le_of_ble_eq_true rfl)) rfl ⟨⟨.local, rfl, .inl rfl⟩, ⟨.local, rfl, .inl rfl⟩, ⟨.local, rfl, .inl rfl⟩, trivial⟩ rfl rfl ?_)
  show XJ _ [some (.v (.lst (ps.map .str))), some (.v (.int 0)), some (.v (.lst [])), some (.v (.int 0)), none, none, none] _ _
  refine XJ.cons (XS.whil (fun n Γ => ∃ s : Nat, n = ps.length - s ∧ s + ((ps.dropLast.drop s).takeWhile isE).length = plcS ps ∧ Γ = [some (.v (.lst (ps.map .str))), some (.v (.int 0)), some (.v (.lst [])), some (.v (.int s)), none, none, none]) ?_ ps.length ⟨0, rfl, by simp [plcS], rfl⟩)
  rintro n Γ' ⟨s, rfl, hs, rfl⟩
  have hs0 : (0 : Int) ≤ (s : Int) := Int.natCast_nonneg _
  have hdr : ∀ h : s < ps.length - 1, ps.dropLast.drop s = ps[s]'(by omega) :: ps.dropLast.drop (s + 1) := fun h => by
    have hl2 : s < ps.dropLast.length := by simp; omega
    rw [List.drop_eq_getElem_cons hl2]; congr 1; exact List.getElem_dropLast ..
  refine ⟨if h : s < ps.length - 1 then isE (ps[s]'(by omega)) else false, ?_, fun hy => ?_, fun hy => ?_⟩
  · by_cases hlt : s < ps.length - 1
    · have hl3 : s < ps.length := by omega
      have hget : (ps.map D.str)[((s : Nat) : Int).toNat]? = some (.str ps[s]) := by simp [hl3]
      rw [dif_pos hlt]
      refine Tr.cast (Tr.and (Tr.cm (Ev.o (Ev.name (i := 3) rfl rfl ⟨rfl, rfl⟩)) (Ev.o (Ev.bin (Ev.o (by first | exact Ev.lenS (atK 6 rfl) (Ev.name (i := 0) rfl rfl ⟨rfl, rfl⟩) | exact Ev.lenL (atK 6 rfl) (Ev.o (Ev.name (i := 0) rfl rfl ⟨rfl, rfl⟩)))) (Ev.o Ev.int) (by walk_at "bin"))) (by walk_at "cmp")) (fun hc => (Tr.and (Tr.cm (Ev.o (Ev.itemN (Ev.o (Ev.name (i := 0) rfl rfl ⟨rfl, rfl⟩)) (Ev.name (i := 3) rfl rfl ⟨rfl, rfl⟩) (by walk_at "side") (by walk_at "ix"))) (Ev.o (Ev.strK K8 (by decide))) (by walk_at "cmp")) (fun hc => Tr.and_nil)))) ?_
      have : (decide ((s : Int) < ((ps.map D.str).length : Int) - 1)) = true := by simp; omega
      rw [this]
      unfold isE
      cases ps[s] <;> simp
    · rw [dif_neg hlt]
      have : (decide ((s : Int) < ((ps.map D.str).length : Int) - 1)) = false := by simp; omega
      refine Tr.cast (Tr.and (b := false) (Tr.cm (Ev.o (Ev.name (i := 3) rfl rfl ⟨rfl, rfl⟩)) (Ev.o (Ev.bin (Ev.o (by first | exact Ev.lenS (atK 6 rfl) (Ev.name (i := 0) rfl rfl ⟨rfl, rfl⟩) | exact Ev.lenL (atK 6 rfl) (Ev.o (Ev.name (i := 0) rfl rfl ⟨rfl, rfl⟩)))) (Ev.o Ev.int) (by walk_at "bin"))) (by walk_at "cmp")) (fun hc => absurd (this.symm.trans hc) (by decide))) ?_
      rw [this]; rfl
  · have hlt : s < ps.length - 1 := Classical.byContradiction fun h => by rw [dif_neg h] at hy; cases hy
    rw [dif_pos hlt] at hy
    rw [hdr hlt, List.takeWhile_cons, hy] at hs
    refine XJ.cons (XS.asg (i := 3) (d := .int ((s + 1 : Nat) : Int)) (Ev.cast (Ev.bin (Ev.o (Ev.name (i := 3) rfl rfl ⟨rfl, rfl⟩)) (Ev.o Ev.int) (by walk_at "bin")) (by simp)) rfl (.inl rfl) ?_)
    refine XJ.nil ⟨ps.length - (s + 1), by omega, s + 1, rfl, ?_, rfl⟩
    rw [← hs]
    simp; omega
  have hs' : plcS ps = s := by
    rw [← hs]
    by_cases hlt : s < ps.length - 1
    · rw [dif_pos hlt] at hy
      rw [hdr hlt, List.takeWhile_cons, hy]; simp
    · rw [List.drop_of_length_le (by simp; omega)]; simp
  have hw2 := wt_pfold (plcS ps) ps (0, [])
  unfold plc
  rw [hs'] at hw2 ⊢
  dsimp only
  have hlen1 : ps.length ≤ 100000 := by omega
  refine XJ.cons (XS.forN (i := 4) (It.lst (Ev.name (i := 0) rfl rfl ⟨rfl, rfl⟩) (by intro _ _; rfl)) rfl (.inl rfl)
    (ForJ.runN (σ := Nat × List (List Nat)) 100000 (fun j st Γ => st.2.length ≤ j ∧ ∃ c, Γ = [some (.v (.lst (ps.map .str))), some (.v (.int st.1)), some (.v (.lst (st.2.map .str))), some (.v (.int s)), c, none, none])
      (fun st d => match d with | .str c => pstep s st c | _ => st) _ 0 (0, []) _ (by rw [List.length_map]; omega) ⟨by simp, none, rfl⟩ ?_ ?_))
  · rintro d hd j ⟨u, ns⟩ Γ hj ⟨hst, c0, rfl⟩
    obtain ⟨c, hc', rfl⟩ := List.mem_map.mp hd
    have fin : ∀ (st' : Nat × List (List Nat)) c1, pstep s (u, ns) c = st' → st'.2.length ≤ j + 1 → ((pstep s (u, ns) c).2.length ≤ j + 1 ∧ ∃ c2, [some (.v (.lst (ps.map .str))), some (.v (.int st'.1)), some (.v (.lst (st'.2.map .str))), some (.v (.int s)), c1, none, none] = [some (.v (.lst (ps.map .str))), some (.v (.int (pstep s (u, ns) c).1)), some (.v (.lst ((pstep s (u, ns) c).2.map .str))), some (Ent.v (.int s)), c2, none, none]) := by
      rintro _ c1 rfl h
      exact ⟨h, c1, rfl⟩
    show XJ _ [some (.v (.lst (ps.map .str))), some (.v (.int u)), some (.v (.lst (ns.map .str))), some (.v (.int s)), some (.v (.str c)), none, none] _ _
    dsimp only at hst
    refine XJ.cons (XS.ite (Tr.cm (Ev.o (Ev.name (i := 4) rfl rfl ⟨rfl, rfl⟩)) (Ev.o (Ev.strK K11 (by decide))) (by walk_at "cmp")) (fun h1 => ?_) (fun h1 => ?_))
    · refine XJ.cons (XS.ite (Tr.plain (Ev.o (Ev.name (i := 2) rfl rfl ⟨rfl, rfl⟩))) (fun h2 => ?_) (fun h2 => ?_))
      · have e1 : pstep s (u, ns) c = (u, ns.dropLast) := by unfold pstep; rw [if_pos h1, if_pos (by simpa [D.tru] using h2)]
        refine XJ.cons (XS.asg (i := 2) (d := .lst (ns.dropLast.map .str)) (Ev.cast (by first | exact Ev.sliceS (Ev.name (i := 2) rfl rfl ⟨rfl, rfl⟩) Pt.no (Pt.so (Ev.neg Ev.int)) | exact Ev.sliceL (Ev.o (Ev.name (i := 2) rfl rfl ⟨rfl, rfl⟩)) Pt.no (Pt.so (Ev.neg Ev.int))) (by rw [slc_butlast, List.map_dropLast])) rfl (.inl rfl) ?_)
        refine XJ.nil ?_
        refine XJ.nil ?_
        refine XJ.nil ?_
        exact fin _ _ e1 (by simp; omega)
      · refine XJ.cons (XS.ite (Tr.cm (Ev.o (Ev.name (i := 3) rfl rfl ⟨rfl, rfl⟩)) (Ev.o Ev.int) (by walk_at "cmp")) (fun h3 => ?_) (fun h3 => ?_))
        · have e1 : pstep s (u, ns) c = (u + 1, ns) := by unfold pstep; rw [if_pos h1, if_neg (by simpa [D.tru] using h2), if_pos (by simp at h3 ⊢; omega)]
          refine XJ.cons (XS.asg (i := 1) (d := .int ((u + 1 : Nat) : Int)) (Ev.cast (Ev.bin (Ev.o (Ev.name (i := 1) rfl rfl ⟨rfl, rfl⟩)) (Ev.o Ev.int) (by walk_at "bin")) (by simp)) rfl (.inl rfl) ?_)
          refine XJ.nil ?_
          refine XJ.nil ?_
          refine XJ.nil ?_
          refine XJ.nil ?_
          exact fin _ _ e1 (by dsimp only; omega)
        · have e1 : pstep s (u, ns) c = (u, ns) := by unfold pstep; rw [if_pos h1, if_neg (by simpa [D.tru] using h2), if_neg (by simp at h3 ⊢; omega)]
          refine XJ.nil ?_
          refine XJ.nil ?_
          refine XJ.nil ?_
          exact XJ.nil (fin _ _ e1 (by dsimp only; omega))
    · refine XJ.cons (XS.ite (Tr.cm (Ev.o (Ev.name (i := 4) rfl rfl ⟨rfl, rfl⟩)) (Ev.o (Ev.lst (EvL.cons (Ev.strK K8 (by decide)) (EvL.cons (Ev.strK K10 (by decide)) EvL.nil rfl) rfl) (Nat.le_of_ble_eq_true rfl))) (by walk_at "cmp")) (fun h2 => ?_) (fun h2 => ?_))
      · have e1 : pstep s (u, ns) c = (u, ns ++ [c]) := by unfold pstep; rw [if_neg (by rw [h1]; decide), if_pos h2]
        refine XJ.cons (XS.asg (i := 2) (d := .lst ((ns ++ [c]).map .str)) (Ev.cast (b := .lst ((ns ++ [c]).map .str)) (Ev.bin (Ev.o (Ev.name (i := 2) rfl rfl ⟨rfl, rfl⟩)) (Ev.o (Ev.lst (EvL.cons (Ev.name (i := 4) rfl rfl ⟨rfl, rfl⟩) EvL.nil rfl) (Nat.le_of_ble_eq_true rfl))) (Bin.add_lst ?_)) (by rw [List.map_append]; rfl)) rfl (.inl rfl) ?_)
        · rw [List.length_map]; simp; omega
        refine XJ.nil ?_
        refine XJ.nil ?_
        refine XJ.nil ?_
        exact fin _ _ e1 (by simp; omega)
      · have e1 : pstep s (u, ns) c = (u, ns) := by unfold pstep; rw [if_neg (by rw [h1]; decide), if_neg (by rw [h2]; decide)]
        refine XJ.nil ?_
        refine XJ.nil ?_
        exact XJ.nil (fin _ _ e1 (by dsimp only; omega))
  · rintro j Γ ⟨hst, c0, rfl⟩
    have ef : ∀ (cs : List (List Nat)) st, (cs.map D.str).foldl (fun st d => match d with | .str c => pstep s st c | _ => st) st = cs.foldl (pstep s) st := fun cs => by
      induction cs with
      | nil => intro st; rfl
      | cons a b ih => intro st; exact ih _
    rw [ef]
    generalize hres : ps.foldl (pstep s) (0, []) = res at *
    obtain ⟨u, ns⟩ := res
    dsimp only at *
    have hw3 : 3 * u + wt ns ≤ 300000 := by simp [wt] at hw2 ⊢; simp [wt] at hw; omega
    refine XJ.cons (XS.asg (i := 5) (d := .str (if s == 2 then [47, 47] else if s != 0 then [47] else [])) (Ev.cast (Ev.ifexp (Tr.cm (Ev.o (Ev.name (i := 3) rfl rfl ⟨rfl, rfl⟩)) (Ev.o Ev.int) (by walk_at "cmp")) (fun hc => (Ev.strK K34 (by decide))) (fun hc => (Ev.ifexp (Tr.plain (Ev.o (Ev.name (i := 3) rfl rfl ⟨rfl, rfl⟩))) (fun hc => (Ev.strK K9 (by decide))) (fun hc => (Ev.strK K8 (by decide)))))) ?_) rfl (.inl rfl) ?_)
    · by_cases h2 : s = 2
      · subst h2; rfl
      · have : ((s : Int) == 2) = false := by simp; omega
        rw [this]
        by_cases h0 : s = 0
        · subst h0; rfl
        · have e3 : (D.int (s : Int)).tru = true := by simp [D.tru, h0]
          have e4 : (s != 0) = true := by simpa using h0
          have e5 : (s == 2) = false := by simpa using h2
          rw [e3, e4, e5]; rfl
    generalize hroot : (if s == 2 then [47, 47] else if s != 0 then [47] else [] : List Nat) = root at *
    have hrl : root.length ≤ 2 := by rw [← hroot]; split <;> (try split) <;> simp
    have hall : wt (List.replicate u [46, 46] ++ ns) ≤ 300000 := by rw [wt_append, wt_rep]; omega
    have hwl := wt_len (List.replicate u [46, 46] ++ ns)
    have hjl := jn_wt 47 (List.replicate u [46, 46] ++ ns)
    have hz1 : ((List.replicate u ([46, 46] : List Nat) ++ ns).map (·.length)).sum + (List.replicate u ([46, 46] : List Nat) ++ ns).length * ([47] : List Nat).length ≤ 16777216 := by
      rw [show ([47] : List Nat).length = 1 from rfl, Nat.mul_one]; omega
    have hz2 : (jn [47] (List.replicate u [46, 46] ++ ns)).length ≤ 1048576 := by omega
    have hz3 : root.length + (jn [47] (List.replicate u [46, 46] ++ ns)).length ≤ 1048576 := by omega
    have hu : u ≤ 100000 := by omega
    have hns := wt_ge ns
    refine XJ.cons (XS.ret (Ev.cast (Ev.or (Ev.bin (Ev.o (Ev.name (i := 5) rfl rfl ⟨rfl, rfl⟩)) (Ev.o (Ev.join (Ev.strK K9 (by decide)) (Ev.cast (b := .lst ((List.replicate u [46, 46] ++ ns).map .str)) (Ev.bin (Ev.o (Ev.mul_lst (n := (u : Int)) (EvL.cons (Ev.strK K11 (by decide)) EvL.nil rfl) (Ev.name (i := 1) rfl rfl ⟨rfl, rfl⟩) (by simp) (by omega) (by omega) (by simp; omega) (by simp))) (Ev.o (Ev.name (i := 2) rfl rfl ⟨rfl, rfl⟩)) (Bin.add_lst (by rw [flat_rep]; simp; omega))) (by rw [flat_rep, List.map_append, List.map_replicate]; rfl)) hz1 hz2 rfl)) (Bin.add_str hz3)) (fun hc => Ev.one (Ev.strK K10 (by decide)))) ?_) rfl)
    generalize root ++ jn [47] (List.replicate u [46, 46] ++ ns) = w
    cases w <;> rfl
end
section
variable {X : Cx} {Γ : Gam} {Φ : Out → Prop}

theorem ForJ.runI {tgt : D → Gam → Gam} {body : List Stmt} (I : Nat → Gam → Prop) (ds0 : List D) (turn : ∀ j d Γ, ds0[j]? = some d → I j Γ → XJ X (tgt d Γ) body (Turn Φ (I (j + 1)))) (fin : ∀ Γ, I ds0.length Γ → Φ (.next Γ)) :
    ∀ (ds : List D) (j : Nat) (Γ : Gam), ds0.drop j = ds → j ≤ ds0.length → I j Γ → ForJ X tgt body Φ ds Γ
  | [], j, Γ, hd, hj, h => by
    have := congrArg List.length hd
    simp at this
    have e : j = ds0.length := by omega
    subst e
    exact fin Γ h
  | d :: ds, j, Γ, hd, hj, h => by
    have hget : ds0[j]? = some d := by have := congrArg (·[0]?) hd; simpa [List.getElem?_drop] using this
    have hlt : j < ds0.length := by
      rcases Nat.lt_or_ge j ds0.length with h | h
      · exact h
      · rw [List.getElem?_eq_none h] at hget; cases hget
    have hd' : ds0.drop (j + 1) = ds := by rw [← List.drop_drop, hd]; rfl
    refine (turn j d Γ hget h).mono fun o ho => ?_
    have rest : ∀ Γ', I (j + 1) Γ' → ForJ X tgt body Φ ds Γ' := fun Γ' h' => ForJ.runI I ds0 turn fin ds (j + 1) Γ' hd' hlt h'
    cases o with
    | next Γ' => exact rest Γ' ho
    | cont Γ' => exact rest Γ' ho
    | brk Γ' => exact ho
    | ret d => exact ho

theorem noX {s : Shared} {ad : Nat → Addr} (g : Gd X ad Γ s) {a : Addr} (h : s.heap.get? a = none) : X.h₀.get? a = none := by
  cases e : X.h₀.get? a with
  | none => rfl
  | some o => have := g.keep _ _ e; rw [h] at this; cases this

theorem plain_kps {h h' : Heap} {a : Addr} {xs : Array Value} (p : h.PlainList a xs) (kp : KpS (fun _ => False) h h') : h'.PlainList a xs := by
  obtain ⟨n, e⟩ := p
  exact ⟨n, kp _ _ _ n (fun h => h) e rfl⟩

theorem store_two {M : Model} {A : Around} {E : Value → Shared → Prop} {s : Shared} {ad : Nat → Addr} {x1 x2 : PySem.Str} {i1 i2 : Nat} {a1 a2 : Addr} {vs : List Value} {ds : List D} {Q : Unit → Shared → Prop} (fx : FnX X) (g : Gd ((X.bar a1).bar a2) ad Γ s)
    (hi1 : X.env.scope.names[i1]? = some (x1, .local)) (hi2 : X.env.scope.names[i2]? = some (x2, .local)) (p1 : s.heap.PlainList a1 ([] : List Value).toArray) (p2 : s.heap.PlainList a2 vs.toArray) (r : Reps (((X.bar a1).bar a2).ban ad Γ) s.heap ds vs)
    (h1 : X.h₀.get? a1 = none) (h2 : X.h₀.get? a2 = none) (hB1 : ¬ X.B a1) (hB2 : ¬ X.B a2) (hne : a2 ≠ a1) (hz : ds.length ≤ 4194304)
    (hq : ∀ s', Mv X (fun _ => False) s s' → Gd X (upd (upd ad i2 a2) i1 a1) ((Γ.set i2 (some (.o ds))).set i1 (some (.o []))) s' → Q () s') :
    wpAny M A (assignInOrder [bindName X.env x2, bindName X.env x1] [.ref a2, .ref a1]) Q E s := by
  show wpAny M A (assignInOrder (bindName X.env x2 :: [bindName X.env x1]) (.ref a2 :: [.ref a1])) Q E s
  refine wpAny_bind (wpAny_holding (wpAny_bindName ?_))
  refine store_none (X := (X.bar a1).bar a2) fx.bar.bar g hi2 (.inl rfl) fun s2 mv kp g2 hr2 => ?_
  have g3 := Gd.own (X := X.bar a1) (i := i2) (k := .local) (ds := ds) g2 hi2 hr2 (plain_kps p2 kp) (Reps.up (fun b o xs n _ e q => kp b o xs n (fun h => h) e q) _ _ (Reps.bar (fun b o xs n hb _ _ => ban_none hb) _ _ r)) hz h2 (fun h => h.elim hB2 hne)
  refine wpAny_bind (wpAny_holding (wpAny_bindName ?_))
  refine store_none (X := X.bar a1) fx.bar g3 hi1 (.inl rfl) fun s3 mv3 kp3 g4 hr3 => ?_
  have g5 := Gd.own (X := X) (i := i1) (k := .local) (ds := []) g4 hi1 hr3 (plain_kps (plain_kps p1 kp) kp3) (by simp only [Reps]) (Nat.zero_le _) h1 hB1
  exact wpAny_pure (hq s3 (Mv.trans' (X := X) mv mv3) g5)

/-- x, y = ([], [..]), both lists to be changed -/
theorem XS.own2 {x1 x2 : PySem.Str} {p1 p2 p p' q1 q2 q : Pos} {k kk : Nat} {es : List PySem.Expr} {ds : List D} {i1 i2 : Nat} (hv : ∀ a, EvL (X.bar a) Γ es ds) (hi1 : X.env.scope.names[i1]? = some (x1, .local)) (hi2 : X.env.scope.names[i2]? = some (x2, .local)) (h12 : i1 ≠ i2) (hz : ds.length ≤ 4194304)
    (hw : swappedStores [.Tuple [.Name x1 p1, .Name x2 p2] k p] (.Tuple [.List [] q1, .List es q2] kk q) X.env = pure (some [x1, x2]))
    (hs : swapsWithSole [.Tuple [.Name x1 p1, .Name x2 p2] k p] (.Tuple [.List [] q1, .List es q2] kk q) p'.line X.env = pure false)
    (hφ : Φ (.next ((Γ.set i2 (some (.o ds))).set i1 (some (.o [])))))
    (he1 : nst (.List [] q1) = true := by rfl) (he2 : nst (.List es q2) = true := by rfl) :
    XS X Γ (.Assign [.Tuple [.Name x1 p1, .Name x2 p2] k p] (.Tuple [.List [] q1, .List es q2] kk q) p') Φ := fun fx A s ad Q E hr g hq => by
  rw [exec_Assign_arm]
  refine wpAny_bind (wpAny_standAt ?_)
  rw [hs]
  refine wpAny_bind (wpAny_pure ?_)
  rw [if_neg (by decide)]
  have no1 : s.heap.get? s.heap.objs.size = none := none_of (Nat.le_refl _)
  have g1 := g.barred (o := { cls := .type "list", data := .seq ([] : List Value).toArray }) rfl
  refine wpAny_bind (Tuple_ (spliced_more (List_ (args_nil (wpAny_newObj_type (spliced_more (List_ (hv _ A _ ad _ E q2 hr g1 fun vs s2 st2 r2 => wpAny_newObj_type (args_nil (wpAny_newObj_type ?_)) ?_)) (star_cons he2))))) (star_cons he1)))
  rotate_left
  · show (List.toArray vs).size ≤ sizeLine; rw [List.size_toArray, Reps.length _ _ r2, sizeLine_eq]; omega
  rw [hw]
  refine wpAny_bind (wpAny_pure ?_)
  refine wpAny_bind (m := rule _) (wpAny_rule ?_)
  have g2 := (g1.up st2).barred (o := { cls := .type "list", data := .seq vs.toArray }) rfl
  have no2 : s2.heap.get? s2.heap.objs.size = none := none_of (Nat.le_refl _)
  have p2 : (s2.heap.push { cls := .type "list", data := .seq vs.toArray }).PlainList s2.heap.objs.size vs.toArray := ⟨0, Heap.get?_push_size _ rfl⟩
  have p1 : (s2.heap.push { cls := .type "list", data := .seq vs.toArray }).PlainList s.heap.objs.size ([] : List Value).toArray := ⟨0, kp_push _ _ (st2.kp _ _ (Heap.get?_push_size _ rfl))⟩
  have hne : s2.heap.objs.size ≠ s.heap.objs.size := fun e => by
    have := st2.kp _ _ (Heap.get?_push_size s.heap (o := { cls := .type "list", data := .seq ([] : List Value).toArray }) rfl)
    rw [← e, no2] at this; cases this
  have hB1 : ¬ X.B s.heap.objs.size := fun h => by obtain ⟨o, e⟩ := g.low _ h; rw [no1] at e; cases e
  have hB2 : ¬ X.B s2.heap.objs.size := fun h => by
    obtain ⟨o, e⟩ := g.low _ h
    have := st2.kp _ _ (kp_push (o := { cls := .type "list", data := .seq ([] : List Value).toArray }) _ _ e)
    rw [no2] at this; cases this
  have h01 := noX g no1
  have h02 : X.h₀.get? s2.heap.objs.size = none := noX (X := X.bar s.heap.objs.size) (g1.up st2) no2
  have r3 : Reps (((X.bar s.heap.objs.size).bar s2.heap.objs.size).ban ad Γ) (s2.heap.push { cls := .type "list", data := .seq vs.toArray }) ds vs := Reps.up kp_push.s _ _ (Reps.bar (fun b o xs n hb e _ => by
    rcases hb with (hb | hb) | hb
    · exact .inl hb
    · rw [hb, no2] at e; cases e
    · exact .inr hb) _ _ r2)
  have st04 : Step s { s2 with heap := s2.heap.push { cls := .type "list", data := .seq vs.toArray } } := (step_h kp_push).trans (st2.trans (step_h kp_push))
  generalize hh4 : s2.heap.push { cls := .type "list", data := .seq vs.toArray } = h4 at *
  refine wpAny_bind ?_
  refine wpAny_unpackItems_tuple (items := [Value.ref s.heap.objs.size, Value.ref s2.heap.objs.size].toArray) hr.1 ⟨_, Heap.get?_push_size h4 rfl, rfl, _, rfl⟩ fun h5 ex5 => ?_
  have kp45 : Kp h4 h5 := fun b o e => ex5 b o (Nat.ne_of_lt (Nat.lt_of_lt_of_le (Heap.lt_size e) (by rw [Heap.size_push]; exact Nat.le_succ _))) (kp_push _ _ e)
  have st45 : Step { s2 with heap := h4 } { s2 with heap := h5 } := step_h kp45
  refine wpAny_bind (store_two (M := model X.G.prog X.G.w) (A := A) (E := E) (i1 := i1) (i2 := i2) (x1 := x1) (x2 := x2) (ds := ds) fx (g2.up st45) hi1 hi2 (p1.at fun o e => kp45 _ _ e) (p2.at fun o e => kp45 _ _ e) (Reps.up kp45.s _ _ r3) h01 h02 hB1 hB2 hne hz fun s6 mv g6 => wpAny_pure ?_)
  refine hq _ _ s6 hφ (Mv.after (st04.trans st45) (mv.weak fun _ h => h.elim)) ⟨rfl, _, g6, fun b hb => ?_⟩
  obtain ⟨j, l, e, rfl⟩ := hb
  rcases set_get e with ⟨hj, _⟩ | ⟨hj, e2⟩
  · right; simpa [upd, hj] using no1
  · rcases set_get e2 with ⟨hj2, _⟩ | ⟨hj2, e3⟩
    · right
      have : s.heap.get? s2.heap.objs.size = none := by
        cases e : s.heap.get? s2.heap.objs.size with
        | none => rfl
        | some o =>
          have := st2.kp _ _ (kp_push (o := { cls := .type "list", data := .seq ([] : List Value).toArray }) _ _ e)
          rw [no2] at this; cases this
      simpa [upd, hj, hj2, Ne.symm h12] using this
    · left; exact ⟨j, l, e3, by simp [upd, hj, hj2]⟩
end
section
seal Ev EvO Tr XS XJ EvL Pt Cmp Bin Spec Tst It Emit
noncomputable def iD (u : Nat) : D := .int (u : Int)
noncomputable def way (outer : List (List Nat)) (ups : List Nat) (bases : List (List Nat)) (k : Nat) : List (List Nat) :=
  bhd (if h : ups.getD k 0 < k then way outer ups bases (ups.getD k 0) else outer) (bases.getD k [])
termination_by k
decreasing_by exact h
noncomputable def wayIn (outer : List (List Nat)) (ups : List Nat) (bases : List (List Nat)) (k : Nat) : List (List Nat) := if ups.getD k 0 < k then way outer ups bases (ups.getD k 0) else outer
theorem way_eq (outer : List (List Nat)) (ups : List Nat) (bases : List (List Nat)) (k : Nat) : way outer ups bases k = bhd (wayIn outer ups bases k) (bases.getD k []) := by
  rw [way]; unfold wayIn; split <;> rfl
noncomputable def plcK (outer : List (List Nat)) (ups : List Nat) (bases hrefs : List (List Nat)) (k : Nat) : List Nat := plc (bhd (way outer ups bases k) (hrefs.getD k []))
theorem wt_way (outer : List (List Nat)) (ups : List Nat) (bases : List (List Nat)) (hb : ∀ k, (bases.getD k []).length ≤ 16) (k : Nat) : wt (way outer ups bases k) ≤ wt outer + 18 * (k + 1) := by
  induction k using Nat.strongRecOn with
  | ind k ih =>
    rw [way_eq]
    have h1 := wt_bhd (wayIn outer ups bases k) (bases.getD k [])
    have h2 := hb k
    unfold wayIn at *
    split at h1
    · rename_i h
      rw [if_pos h]
      have := ih _ h
      omega
    · rename_i h
      rw [if_neg h]
      omega

theorem getD_get {l : List (List Nat)} {k : Nat} (h : k < l.length) : (l.map D.str)[k]? = some (.str (l.getD k [])) := by
  rw [List.getElem?_map, List.getElem?_eq_getElem h]; simp [h]
theorem getD_int {l : List Nat} {k : Nat} (h : k < l.length) : (l.map iD)[k]? = some (.int (l.getD k 0 : Nat)) := by
  rw [List.getElem?_map, List.getElem?_eq_getElem h]; simp [h, iD]

theorem places_spec {G : Gl} (hG : GP G) (outer : List (List Nat)) (ups : List Nat) (bases hrefs : List (List Nat)) (ho : wt outer ≤ 1000) (hu : ups.length = 4) (hb4 : bases.length = 4) (hh4 : hrefs.length = 4) (hup : ∀ k, k ≠ 0 → ups.getD k 0 < k)
    (hb : ∀ k, (bases.getD k []).length ≤ 16) (hh : ∀ k, (hrefs.getD k []).length ≤ 16) :
    Spec G "_law_places" 3 [.lst (outer.map .str), .lst (ups.map iD), .lst (bases.map .str), .lst (hrefs.map .str)] (.lst (((List.range 4).map (plcK outer ups bases hrefs)).map .str)) := by
  have hw := wt_way outer ups bases hb
  refine Spec.fn (i := 28) (xs := ["outer", "ups", "bases", "hrefs"]) hG (by decide) (bind_4 (by decide +kernel) fun fd hp hd v u t t' => by unfold bindArgs; rw [hp, hd]; rfl) rfl (by decide +kernel) 6 fun L a' q' cd B h₀ => ?_
  have h : dfAt 28 = ⟨_, _, _, _⟩ := rfl
  unfold cx
  rw [h]
  show XJ _ [some (.v _), some (.v _), some (.v _), some (.v _), none, none, none, none, none, none] _ _
  refine XJ.cons (XS.own2 (i1 := 4) (i2 := 5) (fun a => EvL.nil) rfl rfl (by decide) (Nat.zero_le _) rfl rfl ?_)
  show XJ _ [some (.v (.lst (outer.map .str))), some (.v (.lst (ups.map iD))), some (.v (.lst (bases.map .str))), some (.v (.lst (hrefs.map .str))), some (.o []), some (.o []), none, none, none, none] _ _
  refine XJ.cons (XS.forN (i := 6) (It.range1 (atK 7 rfl) Ev.int (by decide) (by decide)) rfl (.inl rfl)
    (ForJ.runI (fun j Γ => ∃ c, Γ = [some (.v (.lst (outer.map .str))), some (.v (.lst (ups.map iD))), some (.v (.lst (bases.map .str))), some (.v (.lst (hrefs.map .str))),
      some (.o ((List.range j).map fun k => .lst ((way outer ups bases k).map .str))), some (.o ((List.range j).map fun k => .str (plcK outer ups bases hrefs k))), c, none, none, none]) (rangeD 0 (4 : Int).toNat) ?_ ?_ _ 0 _ rfl (by decide) ⟨none, rfl⟩))
  · rintro j d Γ hd ⟨c, rfl⟩
    have hj : j < 4 ∧ d = .int (j : Int) := by
      have hl : j < (rangeD 0 (4 : Int).toNat).length := by
        rcases Nat.lt_or_ge j (rangeD 0 (4 : Int).toNat).length with h | h
        · exact h
        · rw [List.getElem?_eq_none h] at hd; cases hd
      have hl' : j < 4 := by simpa [rangeD] using hl
      refine ⟨hl', ?_⟩
      have : (rangeD 0 (4 : Int).toNat)[j]? = some (.int (j : Int)) := by
        unfold rangeD
        rw [List.getElem?_map, List.getElem?_range (by simpa using hl')]
        simp
      rw [this] at hd; exact (Option.some.inj hd).symm
    obtain ⟨hj, rfl⟩ := hj
    have s1 := behind_spec hG (wayIn outer ups bases j) (bases.getD j []) (by unfold wayIn; split; · have := hw (ups.getD j 0); omega
                                                                              · omega) (by have := hb j; omega)
    have s2 := behind_spec hG (way outer ups bases j) (hrefs.getD j []) (by have := hw j; omega) (by have := hh j; omega)
    have hwb := wt_bhd (way outer ups bases j) (hrefs.getD j [])
    have s3 := place_spec hG (bhd (way outer ups bases j) (hrefs.getD j [])) (by have := hw j; have := hh j; omega)
    have hj0 : (0 : Int) ≤ (j : Int) := Int.natCast_nonneg _
    have hg1 : (bases.map D.str)[((j : Nat) : Int).toNat]? = some (.str (bases.getD j [])) := getD_get (by omega)
    have hg2 : (hrefs.map D.str)[((j : Nat) : Int).toNat]? = some (.str (hrefs.getD j [])) := getD_get (by omega)
    have hg3 : (ups.map iD)[((j : Nat) : Int).toNat]? = some (.int (ups.getD j 0 : Nat)) := getD_int (by omega)
    have hlen : ((List.range j).map fun k => D.lst ((way outer ups bases k).map .str)).length = j := by simp
    refine XJ.cons (XS.append (i := 4) (k := .local) rfl rfl ⟨rfl, rfl⟩ (d := .lst ((way outer ups bases j).map .str)) (Ev.cast (Ev.call (atK 8 rfl) (EvL.cons (Ev.cast (b := .lst ((wayIn outer ups bases j).map .str)) (Ev.ifexp (Tr.plain (Ev.o (Ev.name (i := 6) rfl rfl ⟨rfl, rfl⟩))) (fun hc => Ev.itemN (d := .lst ((wayIn outer ups bases j).map .str)) (EvO.name (i := 4) rfl rfl ⟨rfl, rfl⟩) (Ev.itemN (Ev.o (Ev.name (i := 1) rfl rfl ⟨rfl, rfl⟩)) (Ev.name (i := 6) rfl rfl ⟨rfl, rfl⟩) (by walk_at "side") (by walk_at "ix")) (Int.natCast_nonneg _) ?_) (fun hc => (Ev.name (i := 0) rfl rfl ⟨rfl, rfl⟩))) ?_) (EvL.cons (Ev.itemN (Ev.o (Ev.name (i := 2) rfl rfl ⟨rfl, rfl⟩)) (Ev.name (i := 6) rfl rfl ⟨rfl, rfl⟩) (by walk_at "side") (by walk_at "ix")) EvL.nil rfl) rfl) s1 (Nat.le_of_ble_eq_true rfl) rfl) (by rw [← way_eq])) rfl rfl (by rw [hlen]; omega) ?_)
    · have hj1 : j ≠ 0 := by intro h; subst h; simp [D.tru] at hc
      have := hup j hj1
      unfold wayIn
      rw [if_pos this]
      rw [Int.toNat_natCast, List.getElem?_map, List.getElem?_range this]; rfl
    · by_cases hj1 : j = 0
      · subst hj1
        unfold wayIn
        rw [if_neg (Nat.not_lt_zero _)]
        rfl
      · have : (D.int (j : Int)).tru = true := by simp [D.tru, hj1]
        rw [this]; rfl
    have hap : ((List.range j).map fun k => D.lst ((way outer ups bases k).map .str)) ++ [.lst ((way outer ups bases j).map .str)] = (List.range (j + 1)).map fun k => D.lst ((way outer ups bases k).map .str) := by
      rw [List.range_succ, List.map_append]; rfl
    rw [hap]
    show XJ _ [some (.v (.lst (outer.map .str))), some (.v (.lst (ups.map iD))), some (.v (.lst (bases.map .str))), some (.v (.lst (hrefs.map .str))), some (.o ((List.range (j + 1)).map fun k => .lst ((way outer ups bases k).map .str))), some (.o ((List.range j).map fun k => .str (plcK outer ups bases hrefs k))), some (.v (.int j)), none, none, none] _ _
    refine XJ.cons (XS.append (i := 5) (k := .local) rfl rfl ⟨rfl, rfl⟩ (d := .str (plcK outer ups bases hrefs j)) (Ev.call (atK 9 rfl) (EvL.cons (Ev.call (atK 8 rfl) (EvL.cons (Ev.itemN (d := .lst ((way outer ups bases j).map .str)) (EvO.name (i := 4) rfl rfl ⟨rfl, rfl⟩) (Ev.name (i := 6) rfl rfl ⟨rfl, rfl⟩) hj0 ?_) (EvL.cons (Ev.itemN (Ev.o (Ev.name (i := 3) rfl rfl ⟨rfl, rfl⟩)) (Ev.name (i := 6) rfl rfl ⟨rfl, rfl⟩) (by walk_at "side") (by walk_at "ix")) EvL.nil rfl) rfl) s2 (Nat.le_of_ble_eq_true rfl) rfl) EvL.nil rfl) s3 (Nat.le_of_ble_eq_true rfl) rfl) rfl rfl (by simp; omega) ?_)
    · simp [List.getElem?_map, List.getElem?_range (Nat.lt_succ_self j)]
    refine XJ.nil ⟨some (.v (.int j)), ?_⟩
    have hap2 : ((List.range j).map fun k => D.str (plcK outer ups bases hrefs k)) ++ [.str (plcK outer ups bases hrefs j)] = (List.range (j + 1)).map fun k => D.str (plcK outer ups bases hrefs k) := by
      rw [List.range_succ, List.map_append]; rfl
    rw [hap2]
    rfl
  · rintro Γ ⟨c, rfl⟩
    refine XJ.freeze (i := 5) rfl ?_
    refine XJ.cons (XS.ret (Ev.cast (Ev.name (i := 5) rfl rfl ⟨rfl, rfl⟩) ?_) rfl)
    rw [List.map_map]; rfl
end
section
variable {X : Cx} {Γ : Gam} {Φ : Out → Prop}

theorem compStart_one {prog : Program} {w : World} {A : Around} {R : Result → Shared → Prop} {s : Shared} {elt : PySem.Expr} {g g' : Comprehension} {scope : Scope} {pos : Pos} {it acc : Value} {env : Env} (hg : g'.is_async = 0)
    (h0 : codeAny (model prog w) A (.compLoop (.ListComp elt [g, g'] scope pos) 1 it acc env) R s)
    (h : wpAny (model prog w) A (pyIter it) (fun it' s' => codeAny (model prog w) A (.compLoop (.ListComp elt [g, g'] scope pos) 1 it' acc env) R s')
      (notedBy (model prog w) A env fun x s' => R (.error x) s') s) :
    codeAny (model prog w) A (.compStart (.ListComp elt [g, g'] scope pos) 1 it acc env) R s := by
  obtain ⟨t, i, fs, asy⟩ := g'
  simp only at hg
  subst hg
  refine codeAny_of_tree ?_
  show wpAny _ _ ((compStart (.ListComp elt [g, ⟨t, i, fs, 0⟩] scope pos) 1 it acc env).onRaise (fun x => do noteFrame x env; standAt theWindowsPlace)) _ _ s
  refine wpAny_notedAt ?_
  unfold compStart
  show wpAny _ _ (ask >>= _) _ _ s
  refine wpAny_bind (wpAny_askSetting (wpAny_ite ?_))
  split
  · first
      | exact wpAny_bind (wpAny_pure (wpAny_pure (And.intro rfl h0)))
      | exact wpAny_pure (And.intro rfl h0)
  · first
      | exact wpAny_bind (wpAny_rule (wpAny_bind (wpAny_standAt (wpAny_bind (wpAny_mono h (fun it' s' h' => wpAny_pure (And.intro rfl h')) fun _ _ x => x)))))
      | (refine wpAny_bind (wpAny_rule ?_); show wpAny _ _ (standAt i.pos >>= _) _ _ s; exact wpAny_bind (wpAny_standAt (wpAny_bind (wpAny_mono h (fun it' s' h' => wpAny_pure (And.intro rfl h')) fun _ _ x => x))))
/-- the second clause of a comprehension, for one item of the first -/
theorem Emit.nest {P : Addr} {elt target iter : PySem.Expr} {g0 : Comprehension} {scope : Scope} {pos : Pos} {ds : List D} {f : D → D} {tgt : D → Gam} (hno : NoOwn Γ) (h0 : X.h₀.get? P = none) (hit : It X Γ target iter ds false)
    (hT : ∀ I env, compTurn (.ListComp elt [g0, ⟨target, iter, [], 0⟩] scope pos) 1 (.ref I) (.ref P) env = (do
      standAt iter.pos
      match ← pyNext (.ref I) with
      | none => pure (.done .next)
      | some v =>
        letOwnedTupleGo target (.ref I) v
        assign target env v
        let mut ok := true
        for c in ([] : List PySem.Expr) do
          if ok then ok ← isTrue c env (eval c env)
        if ok then (do let _ ← PySem.call (.builtin "list.append") [.ref P, ← eval elt env])
        again (.compLoop (.ListComp elt [g0, ⟨target, iter, [], 0⟩] scope pos) 1 (.ref I) (.ref P) env)))
    (htg : ∀ d ∈ ds, CTgt X Γ target d (tgt d)) (hless : ∀ d ∈ ds, NoOwn (tgt d) ∧ ∀ (i : Nat) e, Γ[i]? = some (some e) → (tgt d)[i]? = some (some e))
    (helt : ∀ d ∈ ds, Ev X (tgt d) elt (f d)) (hs : ∀ x, foldedSetIterable iter X.env x = pure x) :
    Emit X P Γ (do
      let x ← eval iter X.env
      standAt iter.pos
      let x ← foldedSetIterable iter X.env x
      let _ ← runOwn (.compStart (.ListComp elt [g0, ⟨target, iter, [], 0⟩] scope pos) 1 (← holding [x] (pyIter x)) (.ref P) X.env) X.env) (ds.map f) := fun A s ad Q E ds0 ys hr g hB pl r hz hq => by
  refine wpAny_bind (wpAny_mono (hit A s ad (fun it s1 => wpAny (model X.G.prog X.G.w) A (runOwn (.compStart (.ListComp elt [g0, ⟨target, iter, [], 0⟩] scope pos) 1 it (.ref P) X.env) X.env) (fun _ s2 => Q () s2) E s1) E hr g fun s1 I fp wr St R => ?_) (fun xv s1 h1 => ?_) fun _ _ h => h)
  rotate_left
  · refine wpAny_bind (wpAny_standAt (wpAny_bind (wpAny_of_eq (hs xv) (wpAny_bind (wpAny_holding (wpAny_mono h1 (fun it s2 h2 => ?_) fun _ _ h => h))))))
    exact wpAny_bind (wpAny_mono h2 (fun _ s3 h3 => wpAny_pure h3) fun _ _ h => h)
  have g1 := g.up R.hst
  have hfm : (ds.flatMap fun d => if (fun _ => true) d then [f d] else []) = ds.map f := by
    rw [flat_filter (p := fun _ => true) (f := f), List.filter_eq_self.mpr (fun _ _ => rfl)]
  refine wpAny_runOwn ?_
  have loop : codeAny (model X.G.prog X.G.w) A (.compLoop (.ListComp elt [g0, ⟨target, iter, [], 0⟩] scope pos) 1 (.ref I) (.ref P) X.env) (fun r s' => match r with | .ok f => Q () s' | .error e => cameBackBy (model X.G.prog X.G.w) A X.env E e s') s1 := by
    refine comp_loop (Γ := Γ) (ad := ad) (ds0 := ds0) (ys0 := ys) (s1 := s1) (Bn := X.ban ad Γ) (tgt := tgt) (p := fun _ => true) (f := fun d => [f d]) (ds := ds) (hT I X.env) hno hr hB h0 g1 R.sub R.frame R.pull R.done R.hst0
      (fun b hb => ?_) (fun b hb => ?_) (fun h => R.hfb P (R.sub P h) hB) R.hex (Kp.refl _) (fun b hb => .inl (.inl hb)) (fun o xs n e => ?_) (.inl (.inl hB)) (pl.at fun o e => R.hst.kp _ o e) (Reps.up R.hst.kp.s _ _ r)
      (fun d hd A s v Q E hr g r hq => htg d hd A s ad v Q E hr g r hq) (fun d hd s gd => gd.less (hless d hd).1 (hless d hd).2) (fun d hd => Tst.nil) (fun d hd _ => Emit.elt (hless d hd).1 h0 (helt d hd)) (by rw [hfm]; exact hz) fun s2 ys2 mv ns gk pl2 r2 => ?_
    · obtain ⟨q1, q2, q3, _⟩ := R.hfp b hb
      exact ⟨q1, q2, q3, fun e => R.hfb b hb (e ▸ hB)⟩
    · exact ⟨noX g (R.hwr b hb), .inr ⟨R.hfb b (R.sub b hb), fun i h o xs n hst e => R.hns rfl i h b o xs n hst hb e⟩⟩
    · obtain ⟨m, o', _, _, e1, e2, _⟩ := g1.ns
      rw [e1] at e; cases e; rw [e2]; simp
    · rw [hfm] at r2
      refine hq s2 ys2 ⟨R.hst.sr.trans mv.1, Nat.le_trans R.hst.toks mv.2.1, fun b o e h1 h2 _ => mv.2.2 b o (R.hst.kp _ _ e) h1 h2 fun hb => by rw [R.hwr b hb] at e; cases e⟩ (gk fun b hb => R.hfb b (R.sub b hb)) pl2 r2
  exact compStart_one rfl loop (R.self 0 _ _ _ R.hst0 loop)

theorem Emit.cast {P : Addr} {m : Sem Unit} {es es' : List D} (h : Emit X P Γ m es) (e : es = es') : Emit X P Γ m es' := e ▸ h
/-- [.. for .. in .. if .. for .. in ..] -/
theorem Ev.comp2 {elt target iter target2 iter2 : PySem.Expr} {ifs : List PySem.Expr} {scope : Scope} {pos : Pos} {ds : List D} {p : D → Bool} {f : D → List D} {Γ' : Gam} {tgt : D → Gam} {z : Bool}
    (hok : compOk scope X.env.scope.names = true) (hit : It X Γ target iter ds z) (hΓ : FreeIn X Γ scope Γ') (htg : ∀ C B, ∀ d ∈ ds, CTgt (cX X scope C B) Γ' target d (tgt d))
    (hless : ∀ d ∈ ds, NoOwn (tgt d) ∧ ∀ (i : Nat) e, Γ'[i]? = some (some e) → (tgt d)[i]? = some (some e)) (hts : ∀ C B, ∀ d ∈ ds, Tst (cX X scope C B) (tgt d) ifs (p d))
    (hbd : ∀ C B P, X.h₀.get? P = none → ∀ d ∈ ds, p d = true → Emit (cX X scope C B) P (tgt d) (do
      let x ← eval iter2 (cX X scope C B).env
      standAt iter2.pos
      let x ← foldedSetIterable iter2 (cX X scope C B).env x
      let _ ← runOwn (.compStart (.ListComp elt [⟨target, iter, ifs, 0⟩, ⟨target2, iter2, [], 0⟩] scope pos) 1 (← holding [x] (pyIter x)) (.ref P) (cX X scope C B).env) (cX X scope C B).env) (f d))
    (hsz : (ds.flatMap fun d => if p d then f d else []).length ≤ 4194304) (hs : ∀ x, foldedSetIterable iter X.env x = pure x := by intro _; rfl) :
    Ev X Γ (.ListComp elt [⟨target, iter, ifs, 0⟩, ⟨target2, iter2, [], 0⟩] scope pos) (.lst (ds.flatMap fun d => if p d then f d else [])) := fun A s ad Q E hr g hq => by
  rw [eval_ListComp]
  obtain ⟨hkind, hnames, _⟩ := compOk_hyps hok
  refine wpAny_comprehension_free (use := none) rfl hs (closure_of g hok) hkind hnames (hit A s ad _ E hr g fun s1 I fp wr St R => ?_)
  refine comp_block (RR := fun acc C => compPost (model X.G.prog X.G.w) A E none Q acc C) (body := fun P env => (do
      let x ← eval iter2 env
      standAt iter2.pos
      let x ← foldedSetIterable iter2 env x
      let _ ← runOwn (.compStart (.ListComp elt [⟨target, iter, ifs, 0⟩, ⟨target2, iter2, [], 0⟩] scope pos) 1 (← holding [x] (pyIter x)) (.ref P) env) env)) (fun I P env => by simp [compTurn, bind_assoc]; rfl) hr g R hok hΓ htg hless hts hbd hsz fun P C s' st hC hl h0 r => ?_
  obtain ⟨m, hm⟩ := id hC
  exact ⟨m, hm, fun h' sb => hq _ _ (step_letgo st h0 sb) (rep_letgo r hC sb)⟩
end
section
seal Ev EvO Tr XS XJ EvL Pt Cmp Bin Spec Tst It Emit
noncomputable def kids (ups : List Nat) (k : Nat) : List Nat := ((List.range (4 - (k + 1))).map (k + 1 + ·)).filter fun c => ups.getD c 0 == k
noncomputable def ordF (ups : List Nat) : Nat → Nat → List Nat
  | 0, k => [k]
  | n + 1, k => k :: (kids ups k).flatMap (ordF ups n)
theorem kids_lt {ups : List Nat} {k c : Nat} (h : c ∈ kids ups k) : k < c ∧ c < 4 := by
  unfold kids at h
  obtain ⟨h1, _⟩ := List.mem_filter.mp h
  obtain ⟨i, hi, rfl⟩ := List.mem_map.mp h1
  rw [List.mem_range] at hi
  omega
noncomputable def kidP (ups : List Nat) (k : Nat) : D → Bool
  | .int c => ups.getD c.toNat 0 == k
  | _ => false
theorem range_kids (k : Nat) : rangeD ((k : Int) + 1) ((4 : Int) - ((k : Int) + 1)).toNat = ((List.range (4 - (k + 1))).map (k + 1 + ·)).map iD := by
  unfold rangeD iD
  have : ((4 : Int) - ((k : Int) + 1)).toNat = 4 - (k + 1) := by omega
  rw [this, List.map_map]
  apply List.map_congr_left
  intro i _
  simp
theorem filter_kids (ups : List Nat) (k : Nat) : (((List.range (4 - (k + 1))).map (k + 1 + ·)).map iD).filter (kidP ups k) = (kids ups k).map iD := by
  unfold kids
  rw [List.filter_map]
  congr 1
theorem int_eq_nat (a b : Nat) : ((a : Int) == (b : Int)) = (a == b) := by
  rw [Bool.eq_iff_iff]; simp; omega
theorem flat_kids (ups : List Nat) (k : Nat) (f : Nat → List Nat) : ∀ l : List Nat, (l.map iD).flatMap (fun d => if kidP ups k d then (match d with | .int c => (f c.toNat).map iD | _ => []) else []) = ((l.filter fun c => ups.getD c 0 == k).flatMap f).map iD
  | [] => rfl
  | c :: l => by
    have ih := flat_kids ups k f l
    rw [List.map_cons, List.flatMap_cons, ih]
    have e : kidP ups k (iD c) = (ups.getD c 0 == k) := rfl
    rw [e, List.filter_cons]
    split
    · rw [List.flatMap_cons, List.map_append]; rfl
    · rfl

theorem kids_len (ups : List Nat) (k : Nat) : (kids ups k).length ≤ 4 := by
  unfold kids
  refine Nat.le_trans (List.length_filter_le _ _) ?_
  simp; omega
theorem flat_len {α β : Type} (f : α → List β) (b : Nat) : ∀ l : List α, (∀ c ∈ l, (f c).length ≤ b) → (l.flatMap f).length ≤ l.length * b
  | [], _ => by simp
  | c :: l, h => by
    have h1 := h c (List.mem_cons_self ..)
    have h2 := flat_len f b l fun c hc => h c (List.mem_cons_of_mem _ hc)
    rw [List.flatMap_cons, List.length_append, List.length_cons, Nat.add_mul]
    omega
theorem gam_free1 {l : Gam} {i : Nat} {e : Ent} (h : l[i]? = some (some e)) : i < l.length := (List.getElem?_eq_some_iff.mp h).1

noncomputable abbrev ordSc : Scope := { kind := .function, names := [(".0", .local), ("child", .local), ("one", .local), ("_law_order", .globalImplicit), ("k", .free), ("ups", .free)], isGenerator := false, isCoroutine := false }

theorem order_step {G : Gl} (hG : GP G) (ups : List Nat) (hu : ups.length = 4) (n k : Nat) (ord : Nat → List Nat) (hk4 : k < 4) (hol : ∀ c, (ord c).length ≤ 1000)
    (ih : ∀ c : Nat, k < c → c < 4 → Spec G "_law_order" n [.int c, .lst (ups.map iD)] (.lst ((ord c).map iD))) : Spec G "_law_order" (n + 1) [.int k, .lst (ups.map iD)] (.lst ((k :: (kids ups k).flatMap ord).map iD)) := by
  refine Spec.fn (i := 30) (xs := ["k", "ups"]) hG (by decide) (bind_2 (by decide +kernel) fun fd hp hd v u => by unfold bindArgs; rw [hp, hd]; rfl) rfl (by decide +kernel) 1 fun L a' q' cd B h₀ => ?_
  have h : dfAt 30 = ⟨_, _, _, _⟩ := rfl
  unfold cx
  rw [h]
  show XJ _ [some (.v _), some (.v _), none] _ _
  have hin : ∀ d ∈ ((List.range (4 - (k + 1))).map (k + 1 + ·)).map iD, ∃ c : Nat, d = .int c ∧ k < c ∧ c < 4 := fun d hd => by
    obtain ⟨c, hc, rfl⟩ := List.mem_map.mp hd
    obtain ⟨i, hi, rfl⟩ := List.mem_map.mp hc
    rw [List.mem_range] at hi
    exact ⟨_, rfl, by omega, by omega⟩
  have hfl := flat_kids ups k ord ((List.range (4 - (k + 1))).map (k + 1 + ·))
  have hkl := kids_len ups k
  have hfl2 := flat_len ord 1000 (kids ups k) fun c _ => hol c
  have hno : NoOwn [none, none, none, none, some (.v (.int k)), some (.v (.lst (ups.map iD)))] := .no (.no (.no (.no (.ve (.ve .done)))))
  refine XJ.cons (XS.ret (Ev.cast (Ev.bin (Ev.o (Ev.lst (EvL.cons (Ev.name (i := 0) rfl rfl ⟨rfl, rfl⟩) EvL.nil rfl) (Nat.le_of_ble_eq_true rfl))) (Ev.o (Ev.comp2 (ds := ((List.range (4 - (k + 1))).map (k + 1 + ·)).map iD) (p := kidP ups k) (f := fun d => match d with | .int c => (ord c.toNat).map iD | _ => [])
    (Γ' := [none, none, none, none, some (.v (.int k)), some (.v (.lst (ups.map iD)))]) (tgt := fun d => [none, some (.v d), none, none, some (.v (.int k)), some (.v (.lst (ups.map iD)))]) (by kernel_rfl) (It.cast (It.range2 (atK 2 rfl) (Ev.bin (Ev.o (Ev.name (i := 0) rfl rfl ⟨rfl, rfl⟩)) (Ev.o Ev.int) (by walk_at "bin")) Ev.int (by omega) (by omega) (by decide) (by decide)) (range_kids k)) ?_ ?_ ?_ ?_ ?_ ?_)) (Bin.add_lst ?_)) ?_) rfl)
  · exact .of (.none (.none (.none (.none (.some 0 rfl rfl rfl (.some 1 rfl rfl rfl .nil))))))
  · intro C B d hd
    exact CTgt.name (i := 1) hno rfl
  · intro d hd
    exact SubG.no (.new (.no (.no (.same (.same .done)))))
  · intro C B d hd
    obtain ⟨c, rfl, h1, h2⟩ := hin d hd
    have hg : (ups.map iD)[((c : Nat) : Int).toNat]? = some (.int (ups.getD c 0 : Nat)) := getD_int (by omega)
    have hc0 : (0 : Int) ≤ (c : Int) := Int.natCast_nonneg _
    exact Tst.one (Tr.cast (Tr.cm (Ev.o (Ev.itemN (Ev.o (Ev.name (i := 5) rfl rfl ⟨rfl, rfl⟩)) (Ev.name (i := 1) rfl rfl ⟨rfl, rfl⟩) (by walk_at "side") (by walk_at "ix"))) (Ev.o (Ev.name (i := 4) rfl rfl ⟨rfl, rfl⟩)) (by walk_at "cmp")) (by rw [int_eq_nat]; rfl))
  · intro C B P h0 d hd hp
    obtain ⟨c, rfl, h1, h2⟩ := hin d hd
    have s1 := ih c h1 h2
    have hno2 : NoOwn [none, some (.v (.int c)), none, none, some (.v (.int k)), some (.v (.lst (ups.map iD)))] := .no (.ve (.no (.no (.ve (.ve .done)))))
    refine Emit.cast (Emit.nest (ds := (ord c).map iD) (f := fun d => d) (tgt := fun d => [none, some (.v (.int c)), some (.v d), none, some (.v (.int k)), some (.v (.lst (ups.map iD)))]) hno2 h0 (It.lst (Ev.call (atK 3 rfl) (EvL.cons (Ev.name (i := 1) rfl rfl ⟨rfl, rfl⟩) (EvL.cons (Ev.name (i := 5) rfl rfl ⟨rfl, rfl⟩) EvL.nil rfl) rfl) s1 (Nat.le_refl _) rfl) (by intro _ _; rfl)) (by intro _ _; rfl) ?_ ?_ ?_ (by intro _; rfl)) (by simp)
    · intro d hd
      exact CTgt.name (i := 2) hno2 rfl
    · intro d hd
      exact SubG.no (.same (.new (.no (.same (.same .done)))))
    · intro d hd
      exact (Ev.name (i := 2) rfl rfl ⟨rfl, rfl⟩)
  · rw [hfl, List.length_map]
    show ((kids ups k).flatMap ord).length ≤ _
    omega
  · rw [hfl, List.length_map]
    show 1 + ((kids ups k).flatMap ord).length ≤ _
    omega
  · rw [hfl]; rfl
end
section
seal Ev EvO Tr XS XJ EvL Pt Cmp Bin Spec Tst It Emit
theorem ordF_len (ups : List Nat) : ∀ (n k : Nat), (ordF ups n k).length ≤ 5 ^ n
  | 0, k => by simp [ordF]
  | n + 1, k => by
    have h1 := flat_len (ordF ups n) (5 ^ n) (kids ups k) fun c _ => ordF_len ups n c
    have h2 := kids_len ups k
    have h3 : (kids ups k).length * 5 ^ n ≤ 4 * 5 ^ n := Nat.mul_le_mul_right _ h2
    have h4 : 0 < 5 ^ n := Nat.pow_pos (by decide)
    rw [ordF, List.length_cons, Nat.pow_succ]
    omega
theorem kids_three (ups : List Nat) (k : Nat) (h : 3 ≤ k) : kids ups k = [] := by
  unfold kids
  rw [show 4 - (k + 1) = 0 by omega]; rfl
theorem order_spec {G : Gl} (hG : GP G) (ups : List Nat) (hu : ups.length = 4) : ∀ (n k : Nat), n ≤ 3 → 3 ≤ k + n → k < 4 → Spec G "_law_order" (n + 1) [.int k, .lst (ups.map iD)] (.lst ((ordF ups n k).map iD)) := fun n => by
  induction n with
  | zero =>
    intro k _ hk hk4
    have := order_step hG ups hu 0 k (fun _ => []) hk4 (fun c => Nat.zero_le _) (fun c h1 h2 => absurd h2 (by omega))
    rw [kids_three ups k (by omega)] at this
    exact this
  | succ n ih =>
    intro k hn hk hk4
    exact order_step hG ups hu (n + 1) k (ordF ups n) hk4 (fun c => Nat.le_trans (ordF_len ups n c) (Nat.le_trans (Nat.pow_le_pow_right (by decide) (show n ≤ 3 by omega)) (by decide))) (fun c h1 h2 => ih c (by omega) (by omega) h2)

theorem opn_len (n : Int) (b h t : List Nat) : (opn n b h t).length ≤ 13 + 6 * b.length + 6 * h.length + 6 * t.length := by
  have h1 := tV_len n b
  have h2 := tV_len n h
  have h3 := tT_len n t
  unfold opn
  simp only [List.length_append, List.length_cons, List.length_nil]
  omega
noncomputable def clo : List Nat := [60, 47, 101, 62]
noncomputable def docF (ups : List Nat) (bases hrefs places : List (List Nat)) (dress : Int) : Nat → Nat → List Nat
  | 0, k => opn dress (bases.getD k []) (hrefs.getD k []) (places.getD k []) ++ clo
  | n + 1, k => opn dress (bases.getD k []) (hrefs.getD k []) (places.getD k []) ++ (kids ups k).flatMap (docF ups bases hrefs places dress n) ++ clo

noncomputable abbrev docSc : Scope := { kind := .function, names := [(".0", .local), ("child", .local), ("_law_doc", .globalImplicit), ("bases", .free), ("dress", .free), ("hrefs", .free), ("k", .free), ("places", .free), ("ups", .free)], isGenerator := false, isCoroutine := false }
theorem bind_6 {i : Nat} {x1 x2 x3 x4 x5 x6 : PySem.Str} {d1 d2 d3 d4 d5 d6 : D} (hn : (dfAt i).params.defaults = []) (h : ∀ fd : FuncData, fd.params = (dfAt i).params → fd.defaults = .none → ∀ v1 v2 v3 v4 v5 v6, bindArgs fd ⟨[v1, v2, v3, v4, v5, v6], []⟩ = pure ([x1, x2, x3, x4, x5, x6].zip [v1, v2, v3, v4, v5, v6])) : Binds (dfAt i) [x1, x2, x3, x4, x5, x6] [d1, d2, d3, d4, d5, d6] [d1, d2, d3, d4, d5, d6] := Binds.plain hn fun fd hp hd vs hl => by
  obtain ⟨v1, v2, v3, v4, v5, v6, rfl⟩ := len6 hl
  exact h fd hp hd v1 v2 v3 v4 v5 v6

theorem jn_flat (ps : List (List Nat)) : jn [] ps = ps.flatten := jn_nil ps

theorem doc_step {G : Gl} (hG : GP G) (ups : List Nat) (bases hrefs places : List (List Nat)) (dress : Int) (hu : ups.length = 4) (hb4 : bases.length = 4) (hh4 : hrefs.length = 4) (hp4 : places.length = 4)
    (hb : ∀ k, (bases.getD k []).length ≤ 16) (hh : ∀ k, (hrefs.getD k []).length ≤ 16) (hp : ∀ k, (places.getD k []).length ≤ 1000) (n k : Nat) (dc : Nat → List Nat) (hk4 : k < 4) (hol : ∀ c, (dc c).length ≤ 200000)
    (ih : ∀ c : Nat, k < c → c < 4 → Spec G "_law_doc" (n + 3) [.int c, .lst (ups.map iD), .lst (bases.map .str), .lst (hrefs.map .str), .lst (places.map .str), .int dress] (.str (dc c))) :
    Spec G "_law_doc" (n + 4) [.int k, .lst (ups.map iD), .lst (bases.map .str), .lst (hrefs.map .str), .lst (places.map .str), .int dress] (.str (opn dress (bases.getD k []) (hrefs.getD k []) (places.getD k []) ++ (kids ups k).flatMap dc ++ clo)) := by
  have s1 := open_spec hG (bases.getD k []) (hrefs.getD k []) (places.getD k []) dress (by have := hb k; omega) (by have := hh k; omega) (by have := hp k; omega)
  have hol1 := opn_len dress (bases.getD k []) (hrefs.getD k []) (places.getD k [])
  have hbk := hb k
  have hhk := hh k
  have hpk := hp k
  refine Spec.fn (i := 31) (xs := ["k", "ups", "bases", "hrefs", "places", "dress"]) hG (by decide) (bind_6 (by decide +kernel) fun fd hp hd v1 v2 v3 v4 v5 v6 => by unfold bindArgs; rw [hp, hd]; rfl) rfl (by decide +kernel) 3 fun L a' q' cd B h₀ => ?_
  have h : dfAt 31 = ⟨_, _, _, _⟩ := rfl
  unfold cx
  rw [h]
  show XJ _ [some (.v _), some (.v _), some (.v _), some (.v _), some (.v _), some (.v _), none, none, none] _ _
  have hin : ∀ d ∈ ((List.range (4 - (k + 1))).map (k + 1 + ·)).map iD, ∃ c : Nat, d = .int c ∧ k < c ∧ c < 4 := fun d hd => by
    obtain ⟨c, hc, rfl⟩ := List.mem_map.mp hd
    obtain ⟨i, hi, rfl⟩ := List.mem_map.mp hc
    rw [List.mem_range] at hi
    exact ⟨_, rfl, by omega, by omega⟩
  have hkl := kids_len ups k
  have hres : ((((List.range (4 - (k + 1))).map (k + 1 + ·)).map iD).filter (kidP ups k)).map (fun d => match d with | .int c => D.str (dc c.toNat) | _ => .non) = ((kids ups k).map dc).map .str := by
    rw [filter_kids, List.map_map, List.map_map]; rfl
  refine XJ.cons (XS.asgComp (i := 6) (ds := ((List.range (4 - (k + 1))).map (k + 1 + ·)).map iD) (p := kidP ups k) (f := fun d => match d with | .int c => D.str (dc c.toNat) | _ => .non)
    (CompHyp.name 1 [none, none, none, some (.v (.lst (bases.map .str))), some (.v (.int dress)), some (.v (.lst (hrefs.map .str))), some (.v (.int k)), some (.v (.lst (places.map .str))), some (.v (.lst (ups.map iD)))] (It.cast (It.range2 (atK 7 rfl) (Ev.bin (Ev.o (Ev.name (i := 0) rfl rfl ⟨rfl, rfl⟩)) (Ev.o Ev.int) (by walk_at "bin")) Ev.int (by omega) (by omega) (by decide) (by decide)) (range_kids k)) (by kernel_rfl) rfl ?_ ?_ ?_ ?_) rfl ?_ rfl)
  · exact .of (.none (.none (.none (.some 2 rfl rfl rfl (.some 5 rfl rfl rfl (.some 3 rfl rfl rfl (.some 0 rfl rfl rfl (.some 4 rfl rfl rfl (.some 1 rfl rfl rfl .nil)))))))))
  · intro C B d hd
    obtain ⟨c, rfl, h1, h2⟩ := hin d hd
    have hg : (ups.map iD)[((c : Nat) : Int).toNat]? = some (.int (ups.getD c 0 : Nat)) := getD_int (by omega)
    have hc0 : (0 : Int) ≤ (c : Int) := Int.natCast_nonneg _
    exact Tst.one (Tr.cast (Tr.cm (Ev.o (Ev.itemN (Ev.o (Ev.name (i := 8) rfl rfl ⟨rfl, rfl⟩)) (Ev.name (i := 1) rfl rfl ⟨rfl, rfl⟩) (by walk_at "side") (by walk_at "ix"))) (Ev.o (Ev.name (i := 6) rfl rfl ⟨rfl, rfl⟩)) (by walk_at "cmp")) (by rw [int_eq_nat]; rfl))
  · intro C B d hd hpd
    obtain ⟨c, rfl, h1, h2⟩ := hin d hd
    have s2 := ih c h1 h2
    exact Ev.call (atK 2 rfl) (EvL.cons (Ev.name (i := 1) rfl rfl ⟨rfl, rfl⟩) (EvL.cons (Ev.name (i := 8) rfl rfl ⟨rfl, rfl⟩) (EvL.cons (Ev.name (i := 3) rfl rfl ⟨rfl, rfl⟩) (EvL.cons (Ev.name (i := 5) rfl rfl ⟨rfl, rfl⟩) (EvL.cons (Ev.name (i := 7) rfl rfl ⟨rfl, rfl⟩) (EvL.cons (Ev.name (i := 4) rfl rfl ⟨rfl, rfl⟩) EvL.nil rfl) rfl) rfl) rfl) rfl) rfl) s2 (Nat.le_refl _) rfl
  · simp; omega
  rw [hres]
  show XJ _ [some (.v (.int k)), some (.v (.lst (ups.map iD))), some (.v (.lst (bases.map .str))), some (.v (.lst (hrefs.map .str))), some (.v (.lst (places.map .str))), some (.v (.int dress)), some (.v (.lst (((kids ups k).map dc).map .str))), none, none] _ _
  have hk0 : (0 : Int) ≤ (k : Int) := Int.natCast_nonneg _
  have hg1 : (bases.map D.str)[((k : Nat) : Int).toNat]? = some (.str (bases.getD k [])) := getD_get (by omega)
  have hg2 : (hrefs.map D.str)[((k : Nat) : Int).toNat]? = some (.str (hrefs.getD k [])) := getD_get (by omega)
  have hg3 : (places.map D.str)[((k : Nat) : Int).toNat]? = some (.str (places.getD k [])) := getD_get (by omega)
  have hjf : jn [] ((kids ups k).map dc) = (kids ups k).flatMap dc := by rw [jn_flat, List.flatMap_def]
  have hfl := flat_len dc 200000 (kids ups k) fun c _ => hol c
  have hsum : (((kids ups k).map dc).map (fun x => x.length)).sum = ((kids ups k).flatMap dc).length := by rw [List.flatMap_def, List.length_flatten]
  have hz1 : (((kids ups k).map dc).map (fun x => x.length)).sum + ((kids ups k).map dc).length * ([] : List Nat).length ≤ 16777216 := by rw [hsum]; simp only [List.length_nil, Nat.mul_zero]; omega
  have hz2 : (jn [] ((kids ups k).map dc)).length ≤ 1048576 := by rw [hjf]; omega
  have hz3 : (opn dress (bases.getD k []) (hrefs.getD k []) (places.getD k [])).length + (jn [] ((kids ups k).map dc)).length ≤ 1048576 := by rw [hjf]; omega
  have hz4 : (opn dress (bases.getD k []) (hrefs.getD k []) (places.getD k []) ++ jn [] ((kids ups k).map dc)).length + ([60, 47, 101, 62] : List Nat).length ≤ 1048576 := by rw [List.length_append, hjf]; simp only [List.length_cons, List.length_nil]; omega
  refine XJ.cons (XS.ret (Ev.cast (Ev.bin (Ev.o (Ev.bin (Ev.o (Ev.call (atK 8 rfl) (EvL.cons (Ev.itemN (Ev.o (Ev.name (i := 2) rfl rfl ⟨rfl, rfl⟩)) (Ev.name (i := 0) rfl rfl ⟨rfl, rfl⟩) (by walk_at "side") (by walk_at "ix")) (EvL.cons (Ev.itemN (Ev.o (Ev.name (i := 3) rfl rfl ⟨rfl, rfl⟩)) (Ev.name (i := 0) rfl rfl ⟨rfl, rfl⟩) (by walk_at "side") (by walk_at "ix")) (EvL.cons (Ev.itemN (Ev.o (Ev.name (i := 4) rfl rfl ⟨rfl, rfl⟩)) (Ev.name (i := 0) rfl rfl ⟨rfl, rfl⟩) (by walk_at "side") (by walk_at "ix")) (EvL.cons (Ev.name (i := 5) rfl rfl ⟨rfl, rfl⟩) EvL.nil rfl) rfl) rfl) rfl) s1 (Nat.le_add_left 3 n) rfl)) (Ev.o (Ev.join (Ev.strK K8 (by decide)) (Ev.name (i := 6) rfl rfl ⟨rfl, rfl⟩) hz1 hz2 rfl)) (Bin.add_str hz3))) (Ev.o (Ev.strK K35 (by decide))) (Bin.add_str hz4)) ?_) rfl)
  rw [hjf]; rfl

theorem docF_len (ups : List Nat) (bases hrefs places : List (List Nat)) (dress : Int) (hb : ∀ k, (bases.getD k []).length ≤ 16) (hh : ∀ k, (hrefs.getD k []).length ≤ 16) (hp : ∀ k, (places.getD k []).length ≤ 1000) : ∀ (n k : Nat), (docF ups bases hrefs places dress n k).length ≤ 6300 * 5 ^ n
  | 0, k => by
    have h1 := opn_len dress (bases.getD k []) (hrefs.getD k []) (places.getD k [])
    have h2 := hb k
    have h3 := hh k
    have h4 := hp k
    rw [docF, List.length_append]
    show _ + 4 ≤ _
    omega
  | n + 1, k => by
    have h1 := opn_len dress (bases.getD k []) (hrefs.getD k []) (places.getD k [])
    have h2 := hb k
    have h3 := hh k
    have h4 := hp k
    have h5 := flat_len (docF ups bases hrefs places dress n) (6300 * 5 ^ n) (kids ups k) fun c _ => docF_len ups bases hrefs places dress hb hh hp n c
    have h6 := kids_len ups k
    have h7 : (kids ups k).length * (6300 * 5 ^ n) ≤ 4 * (6300 * 5 ^ n) := Nat.mul_le_mul_right _ h6
    have h8 : 1 ≤ 5 ^ n := Nat.pow_pos (by decide)
    rw [docF, List.length_append, List.length_append, Nat.pow_succ]
    show _ + _ + 4 ≤ _
    omega

theorem doc_spec {G : Gl} (hG : GP G) (ups : List Nat) (bases hrefs places : List (List Nat)) (dress : Int) (hu : ups.length = 4) (hb4 : bases.length = 4) (hh4 : hrefs.length = 4) (hp4 : places.length = 4)
    (hb : ∀ k, (bases.getD k []).length ≤ 16) (hh : ∀ k, (hrefs.getD k []).length ≤ 16) (hp : ∀ k, (places.getD k []).length ≤ 1000) : ∀ (n k : Nat), n ≤ 3 → 3 ≤ k + n → k < 4 →
    Spec G "_law_doc" (n + 4) [.int k, .lst (ups.map iD), .lst (bases.map .str), .lst (hrefs.map .str), .lst (places.map .str), .int dress] (.str (docF ups bases hrefs places dress n k)) := fun n => by
  induction n with
  | zero =>
    intro k _ hk hk4
    have := doc_step hG ups bases hrefs places dress hu hb4 hh4 hp4 hb hh hp 0 k (fun _ => []) hk4 (fun c => Nat.zero_le _) (fun c h1 h2 => absurd h2 (by omega))
    rw [kids_three ups k (by omega)] at this
    rw [docF]
    simpa using this
  | succ n ih =>
    intro k hn hk hk4
    exact doc_step hG ups bases hrefs places dress hu hb4 hh4 hp4 hb hh hp (n + 1) k (docF ups bases hrefs places dress n) hk4 (fun c => Nat.le_trans (docF_len ups bases hrefs places dress hb hh hp n c) (Nat.le_trans (Nat.mul_le_mul_left _ (Nat.pow_le_pow_right (by decide) (show n ≤ 2 by omega))) (by decide))) (fun c h1 h2 => ih c (by omega) (by omega) h2)
end
/-- a heap with one object more -/
noncomputable def plus (h : Heap) (a : Addr) (o : Obj) : Heap :=
  { h with objs := ((List.range (max h.objs.size (a + 1))).map fun b => if b = a then o else (h.objs[b]?).getD ⟨.none, none, .freed, #[]⟩).toArray }
theorem plus_self {h : Heap} {a : Addr} {o : Obj} (ho : o.isFreed = false) : (plus h a o).get? a = some o := by
  have e : (plus h a o).objs[a]? = some o := by
    unfold plus
    simp [List.getElem?_range (show a < max h.objs.size (a + 1) from Nat.lt_of_lt_of_le (Nat.lt_succ_self a) (Nat.le_max_right _ _))]
  unfold Heap.get?
  rw [e]
  obtain ⟨c, d, dt, sl⟩ := o
  cases dt <;> first | rfl | (simp [Obj.isFreed] at ho)
theorem plus_other {h : Heap} {a b : Addr} {o : Obj} (hb : b ≠ a) : (plus h a o).get? b = h.get? b := by
  unfold Heap.get?
  by_cases hlt : b < max h.objs.size (a + 1)
  · have e : (plus h a o).objs[b]? = some ((h.objs[b]?).getD ⟨.none, none, .freed, #[]⟩) := by
      unfold plus
      simp [List.getElem?_range hlt, hb]
    rw [e]
    cases e2 : h.objs[b]? with
    | none => rfl
    | some o' => rfl
  · have hge := Nat.not_lt.mp hlt
    have e : (plus h a o).objs[b]? = none := by
      refine Array.getElem?_eq_none ?_
      unfold plus
      simpa using hge
    have e2 : h.objs[b]? = none := Array.getElem?_eq_none (Nat.le_trans (Nat.le_max_left _ _) hge)
    rw [e, e2]

noncomputable abbrev Cx.base (X : Cx) (a : Addr) (o : Obj) : Cx := { X with h₀ := plus X.h₀ a o }
theorem kp_plus {h : Heap} {a : Addr} {o : Obj} (hn : h.get? a = none) : Kp h (plus h a o) := fun b o' e => by
  by_cases hb : b = a
  · rw [hb, hn] at e; cases e
  · rw [plus_other hb]; exact e

section
variable {X : Cx} {Γ : Gam} {Φ : Out → Prop}
theorem Gd.base {s : Shared} {ad : Nat → Addr} {a : Addr} {o : Obj} (g : Gd X ad Γ s) (ho : o.isFreed = false) (hn : X.h₀.get? a = none) (hs : s.heap.get? a = some o) (hl : a ≠ X.env.locals) (hc : ∀ n c, X.env.cells.lookup n = some c → a ≠ c) (hw : ¬ ow ad Γ a) : Gd (X.base a o) ad Γ s := by
  have two : ∀ b, b ≠ a → (plus X.h₀ a o).get? b = X.h₀.get? b := fun b hb => plus_other hb
  refine ⟨g.kind, g.glob, g.blt, g.uniq, g.names, g.apart, ⟨(two _ hl.symm).trans g.fx.loc, fun n c h => (two _ (hc n c h).symm).trans (g.fx.cel n c h), g.fx.cl⟩, g.ns, g.cells, fun b o' e => ?_, g.low, g.gok.up (kp_plus hn), g.pos, g.vars, fun i l e => ?_⟩
  · by_cases hb : b = a
    · subst hb
      rw [plus_self ho] at e; cases e; exact hs
    · rw [two b hb] at e; exact g.keep _ _ e
  · obtain ⟨x, k, vs, h1, h2, h3, h4, h5, h6, h7⟩ := g.owns i l e
    exact ⟨x, k, vs, h1, h2, h3, h4, h5, (two _ fun q => hw ⟨i, l, e, q.symm⟩).trans h6, h7⟩
theorem Gd.unbase {s : Shared} {ad : Nat → Addr} {a : Addr} {o : Obj} (g : Gd (X.base a o) ad Γ s) (hn : X.h₀.get? a = none) (hg : GOk X.G X.h₀) : Gd X ad Γ s := by
  have up : ∀ b, (plus X.h₀ a o).get? b = none → X.h₀.get? b = none := fun b e => by
    by_cases hb : b = a
    · rw [hb]; exact hn
    · rw [plus_other hb] at e; exact e
  refine ⟨g.kind, g.glob, g.blt, g.uniq, g.names, g.apart, ⟨up _ g.fx.loc, fun n c h => up _ (g.fx.cel n c h), g.fx.cl⟩, g.ns, g.cells, (kp_plus hn).trans g.keep, g.low, hg, g.pos, g.vars, fun i l e => ?_⟩
  obtain ⟨x, k, vs, h1, h2, h3, h4, h5, h6, h7⟩ := g.owns i l e
  exact ⟨x, k, vs, h1, h2, h3, h4, h5, up _ h6, h7⟩
theorem Sat.unbase {W : Addr → Prop} {s s' : Shared} {out : Out} {f : Flow} {a : Addr} {o : Obj} (h : Sat (X.base a o) W s out f s') (hn : X.h₀.get? a = none) (hg : GOk X.G X.h₀) : Sat X W s out f s' := by
  cases out with
  | ret d => obtain ⟨v, h1, h2, h3⟩ := h; exact ⟨v, h1, h2, (kp_plus hn).trans h3⟩
  | _ => obtain ⟨h1, ad, h2, h3⟩ := h; exact ⟨h1, ad, h2.unbase hn hg, h3⟩
end
inductive SKV : List (PySem.Str × Value) → List (List Nat × List Nat) → Prop
  | nil : SKV [] []
  | cons {k v : List Nat} {t : Tok} {kvs ps} : v.length ≤ 1048576 → SKV kvs ps → SKV ((S k, .str (S v) t) :: kvs) ((k, v) :: ps)

noncomputable def dget (ps : List (List Nat × List Nat)) (k : List Nat) : Option (List Nat) := (ps.find? fun p => p.1 == k).map (·.2)
theorem SKV.get {kvs ps} (h : SKV kvs ps) (k : List Nat) : (dget ps k = none ∧ valueAt kvs (S k) = none) ∨ ∃ v t, dget ps k = some v ∧ valueAt kvs (S k) = some (.str (S v) t) ∧ v.length ≤ 1048576 := by
  induction h with
  | nil => exact .inl ⟨rfl, rfl⟩
  | @cons k' v t kvs ps hv hs ih =>
    unfold dget valueAt at *
    by_cases hk : k' = k
    · subst hk
      exact .inr ⟨v, t, by simp, by simp, hv⟩
    · have hk' : S k' ≠ S k := fun e => hk (S_inj e)
      rw [List.find?_cons_of_neg (by simpa using hk), List.find?_cons_of_neg (by simpa using hk')]
      exact ih

/-- a dict of texts stands for good -/
noncomputable def SDict (X : Cx) (a : Addr) (ps : List (List Nat × List Nat)) : Prop := (a == sysModules) = false ∧ ∃ o kvs, X.h₀.get? a = some o ∧ o.IsDictOf (strKind X.G.prog X.G.w) kvs ∧ SKV kvs ps

section
variable {X : Cx} {Γ : Gam} {Φ : Out → Prop}
theorem Cmp.in_dict {a : Addr} {ps : List (List Nat × List Nat)} {k : List Nat} (hd : SDict X a ps) : Cmp X Γ .In (.str k) (.raw a) (dget ps k).isSome := fun A s ad Q E v u hr g rv ru hq => by
  simp only [RepO, Rep] at rv ru
  obtain ⟨t, rfl, _⟩ := rv; subst ru
  obtain ⟨hsm, o, kvs, h1, h2, h3⟩ := hd
  have hD : s.heap.DictOf (strKind X.G.prog X.G.w) a kvs := Heap.dictOf_iff.mpr ⟨o, g.keep _ _ h1, h2⟩
  refine wpAny_in_of (k := S k) (strKind_is _ _ _ _) hsm hD.mapOf ?_
  rcases h3.get k with ⟨e1, e2⟩ | ⟨v, t', e1, e2, _⟩
  · rw [e1] at hq; rw [e2]; exact hq _ (step_toks (Nat.le_succ _))
  · rw [e1] at hq; rw [e2]; exact hq _ (step_toks (Nat.le_succ _))
theorem Ev.dict_get {e b : PySem.Expr} {p : Pos} {a : Addr} {ps : List (List Nat × List Nat)} {k v : List Nat} (hd : SDict X a ps) (he : Ev X Γ e (.raw a)) (hb : Ev X Γ b (.str k)) (hv : dget ps k = some v)
    (hs : ∀ o x t, subscripted b false (.ref o) (.str x t) = operate [.ref o, .str x t] (getItem (.ref o) (.str x t)) := by intro _ _ _; with_unfolding_all rfl) : Ev X Γ (.Subscript e b p) (.str v) := fun A s ad Q E hr g hq =>
  Subscript_ (he A s ad _ E hr g fun w s1 st1 r1 => hb A s1 ad _ E hr (g.up st1) fun u s2 st2 r2 => by
    simp only [Rep] at r1 r2
    subst r1
    obtain ⟨t, rfl, _⟩ := r2
    obtain ⟨hsm, o, kvs, h1, h2, h3⟩ := hd
    have hD : s2.heap.DictOf (strKind X.G.prog X.G.w) a kvs := Heap.dictOf_iff.mpr ⟨o, ((g.up st1).up st2).keep _ _ h1, h2⟩
    rcases h3.get k with ⟨e1, _⟩ | ⟨v', t', e1, e2, hz⟩
    · rw [e1] at hv; cases hv
    · rw [e1] at hv; cases hv
      exact tail_any hD.typeIs slot_dict_getitem.lookup (wpAny_getItem_of (k := S k) (strKind_is _ _ _ _) hD.mapOf e2 (hq _ _ ((st1.trans st2).trans (step_toks (Nat.le_succ _))) (by simp only [Rep]; exact ⟨_, rfl, hz⟩))) (hs _ _ _))
end
inductive DLit : List (Option PySem.Expr) → List PySem.Expr → List (List Nat × List Nat) → Prop
  | nil : DLit [] [] []
  | cons {x y : PySem.Str} {n1 n2 : Nat} {p1 p2 : Pos} {k v : List Nat} {ks vs ps} : L x = k → L y = v → v.length ≤ 1048576 → DLit ks vs ps → DLit (some (.Constant (.str x) n1 p1) :: ks) (.Constant (.str y) n2 p2 :: vs) ((k, v) :: ps)
theorem DLit.keys {ks vs ps} (h : DLit ks vs ps) : ks.all (·.isSome) = true ∧ ks.length = vs.length ∧ ks.length = ps.length := by
  induction h with
  | nil => exact ⟨rfl, rfl, rfl⟩
  | cons _ _ _ _ ih => exact ⟨by simpa using ih.1, by simp [ih.2.1], by simp [ih.2.2]⟩
theorem SKV.fst {kvs ps} (h : SKV kvs ps) : kvs.map (·.1) = ps.map fun p => S p.1 := by
  induction h with
  | nil => rfl
  | cons _ _ ih => simp [ih]
theorem dlit_wp {prog : Program} {w : World} {A : Around} {env : Env} {pos : Pos} {E : Value → Shared → Prop} {ks vs ps} (h : DLit ks vs ps) : ∀ {s : Shared} {Q : List (Value × Value) → Shared → Prop},
    (∀ vals tk, allStrKeys vals = true → SKV (strPairs vals) ps → s.toks ≤ tk → Q vals { s with toks := tk }) → wpAny (model prog w) A (evalPairs (pairTrees ks vs env pos)) Q E s := by
  induction h with
  | nil => intro s Q hq; exact pairTrees_nil_walk (hq [] s.toks rfl SKV.nil (Nat.le_refl _))
  | @cons x y n1 n2 p1 p2 k v ks vs ps hk hv hz _ ih =>
    intro s Q hq
    refine pairTrees_cons_walk (Constant_str (Constant_str (ih fun vals tk h1 h2 h3 => ?_)))
    refine hq _ tk (by simpa [allStrKeys] using h1) ?_ (by simp only at h3; omega)
    show SKV ((x, .str y _) :: strPairs vals) _
    rw [← S_L x, ← S_L y, hk, hv]
    exact SKV.cons hz h2

section
variable {X : Cx} {Γ : Gam} {Φ : Out → Prop}
/-- x = {..}, of texts; from here on it stands for good -/
theorem XJ.dict {x : PySem.Str} {p p' q : Pos} {i : Nat} {ks : List (Option PySem.Expr)} {vs : List PySem.Expr} {ps : List (List Nat × List Nat)} {ss : List Stmt} (hL : DLit ks vs ps) (h0 : ks ≠ []) (h15 : ks.length ≤ 15) (hnd : (ps.map fun y => S y.1).Nodup)
    (hi : X.env.scope.names[i]? = some (x, .local)) (hs : swapsWith (.Dict ks vs q) (some (.Name x p)) p'.line X.env = pure false)
    (cont : ∀ a o, SDict (X.base a o) a ps → XJ (X.base a o) (Γ.set i (some (.v (.raw a)))) ss Φ) : XJ X Γ (.Assign [.Name x p] (.Dict ks vs q) p' :: ss) Φ := fun fx A s ad Q E hr g hq => by
  obtain ⟨k1, k2, k3⟩ := hL.keys
  have no : s.heap.get? s.heap.objs.size = none := none_of (Nat.le_refl _)
  have off : ∀ b o, s.heap.get? b = some o → s.heap.objs.size ≠ b := fun b o e q => by rw [← q, no] at e; cases e
  refine wpAny_execs_cons (wpAny_Assign_Name (wpAny_Dict_walk (knd := strKind X.G.prog X.G.w) k1 k2 h0 h15 (dlit_wp hL fun vals tk h1 h2 h3 => display_done_str h1 (by rw [h2.fst]; exact hnd) (Heap.DictOf.new _) fun h' hm hsb => ?_)) hs)
  have kp : Kp s.heap h' := fun b o e => (hsb.2 b fun q => off b o e q.symm).trans (kp_push _ _ e)
  obtain ⟨o, ho, hD⟩ := Heap.dictOf_iff.mp hm
  have st : Step s { s with heap := h', toks := tk + vals.length } := ⟨h', _, rfl, kp, by simp only at h3; omega⟩
  have g1 := g.up st
  refine store_ofL (d := .raw s.heap.objs.size) fx g1 hi (.inl rfl) (by simp only [Rep]) fun s2 mv kps lo g2 => ?_
  have hl : s.heap.objs.size ≠ X.env.locals := by obtain ⟨m, o', _, _, e1, _⟩ := g.ns; exact off _ _ e1
  have hs2 : s2.heap.get? s.heap.objs.size = some o := ((lo rfl).1.2 _ hl).trans ho
  have hfree : o.isFreed = false := by
    obtain ⟨es, ep, _, hd, _⟩ := hD
    obtain ⟨c, d, dt, sl⟩ := o
    simp only at hd
    subst hd
    rfl
  have hn : X.h₀.get? s.heap.objs.size = none := noX g no
  have g3 := g2.base hfree hn hs2 hl (fun n c h => by obtain ⟨v, o', e1, _⟩ := g.cells n c h; exact off _ _ e1) (fun hw => by
    obtain ⟨j, l, e, hq'⟩ := ow_set hw
    obtain ⟨_, _, _, _, _, ⟨n, e1⟩, _⟩ := g.owns j l e
    exact off _ _ e1 hq')
  have hsm : (s.heap.objs.size == sysModules) = false := by
    obtain ⟨o', _, _, e1, _⟩ := g.gk.g
    have h1 := Heap.lt_size e1
    have h2 : s.heap.objs.size ≠ 1 := fun e => by rw [e] at h1; exact absurd h1 (by decide)
    simpa [sysModules] using h2
  refine cont _ o ⟨hsm, o, _, plus_self hfree, hD, h2⟩ g3.fx A s2 ad Q E hr g3 fun out f s3 ho3 mv3 sat => ?_
  have mv12 : Mv X (ow ad Γ) s s2 := Mv.after st (mv.weak fun _ h => h.elim)
  have mv3' : Mv X (ow ad (Γ.set i (some (.v (.raw s.heap.objs.size))))) s2 s3 := mv3
  exact hq out f s3 ho3 (mv12.trans fresh_set mv3') (Sat.trans mv12 g2 fresh_set (sat.unbase hn g.gok))
end
section
seal Ev EvO Tr XS XJ EvL Pt Cmp Bin Spec Tst It Emit
noncomputable def prt (c : Nat) (x : List Nat) : List Nat × List Nat × List Nat := if c ∈ x then (x.takeWhile (· != c), [c], (x.dropWhile (· != c)).drop 1) else (x, [], [])
theorem cut_at {c : Nat} : ∀ {x : List Nat}, c ∈ x → x = x.takeWhile (· != c) ++ c :: (x.dropWhile (· != c)).drop 1
  | a :: r, h => by
    by_cases ha : a = c
    · subst ha; simp
    · have hr : c ∈ r := by
        rcases List.mem_cons.mp h with h | h
        · exact absurd h.symm ha
        · exact h
      have := cut_at hr
      rw [List.takeWhile_cons, List.dropWhile_cons]
      have e : (a != c) = true := by simpa using ha
      rw [e]
      simp only [if_true]
      rw [List.cons_append, ← this]
theorem take_free {c : Nat} : ∀ {x : List Nat}, c ∉ x.takeWhile (· != c)
  | [] => by simp
  | a :: r => by
    rw [List.takeWhile_cons]
    split
    · rename_i h
      have := take_free (c := c) (x := r)
      simp only [List.mem_cons, not_or]
      exact ⟨fun e => by rw [e] at h; simp at h, this⟩
    · simp
theorem prt_eq (c : Nat) (x : List Nat) : Txt.partition (S x) (S [c]) = (S (prt c x).1, S (prt c x).2.1, S (prt c x).2.2) := by
  unfold prt
  split
  · rename_i h
    have e := part_cut ((x.dropWhile (· != c)).drop 1) (take_free (c := c) (x := x))
    rw [← cut_at h] at e
    exact e
  · rename_i h; exact part_free h
theorem prt_len (c : Nat) (x : List Nat) : (prt c x).1.length ≤ x.length ∧ (prt c x).2.1.length ≤ 1 ∧ (prt c x).2.2.length ≤ x.length := by
  unfold prt
  split
  · refine ⟨(List.takeWhile_sublist _).length_le, by simp, ?_⟩
    rw [List.length_drop]
    have := (List.dropWhile_sublist (fun a => a != c) (l := x)).length_le
    omega
  · simp
noncomputable def sgD : List (List Nat × List Nat) := [([97, 109, 112], [38]), ([108, 116], [60]), ([103, 116], [62]), ([113, 117, 111, 116], [34]), ([35, 49, 51], [13]), ([35, 49, 48], [10]), ([35, 48, 57], [9]), ([35, 120, 68], [13]), ([35, 120, 65], [10]), ([35, 120, 57], [9])]
noncomputable def sgstep (w bit : List Nat) : List Nat := w ++ (if !(prt 59 bit).2.1.isEmpty && (dget sgD (prt 59 bit).1).isSome then (dget sgD (prt 59 bit).1).getD [] ++ (prt 59 bit).2.2 else [38] ++ bit)
noncomputable def sgn (t : List Nat) : List Nat := ((splt 38 t).drop 1).foldl sgstep ((splt 38 t).headD [])
theorem dget_len {k v : List Nat} (h : dget sgD k = some v) : v.length = 1 := by
  unfold dget at h
  obtain ⟨p, hp, rfl⟩ := Option.map_eq_some_iff.mp h
  have hm := List.mem_of_find?_eq_some hp
  have : ∀ p ∈ sgD, p.2.length = 1 := by decide
  exact this p hm
theorem sgstep_len (w bit : List Nat) : (sgstep w bit).length ≤ w.length + bit.length + 1 := by
  unfold sgstep
  have h := (prt_len 59 bit).2.2
  rw [List.length_append]
  split
  · rw [List.length_append]
    cases e : dget sgD (prt 59 bit).1 with
    | none => simp; omega
    | some v => have := dget_len e; simp [this]; omega
  · simp; omega
theorem sgfold_len : ∀ (bs : List (List Nat)) (w : List Nat), (bs.foldl sgstep w).length ≤ w.length + wt bs
  | [], w => by simp [wt]
  | b :: bs, w => by
    have h1 := sgfold_len bs (sgstep w b)
    have h2 := sgstep_len w b
    rw [List.foldl_cons, wt_cons]; omega

theorem signs_spec {G : Gl} (hG : GP G) (t : List Nat) (hz : t.length ≤ 400000) : Spec G "_law_signs" 1 [.str t] (.str (sgn t)) := by
  refine Spec.fn (i := 24) (xs := ["text"]) hG (by decide) (bind_1 (by decide +kernel) fun fd hp hd v => by unfold bindArgs; rw [hp, hd]; rfl) rfl (by decide +kernel) 7 fun L a' q cd B h₀ => ?_
  have h : dfAt 24 = ⟨_, _, _, _⟩ := rfl
  unfold cx
  rw [h]
  show XJ _ [some (.v _), none, none, none, none, none, none, none] _ _
  refine XJ.dict (i := 1) (ps := sgD) (DLit.cons K24 K12 (by decide) (DLit.cons K25 K14 (by decide) (DLit.cons K26 K15 (by decide) (DLit.cons K27 K16 (by decide) (DLit.cons K28 K18 (by decide) (DLit.cons K29 K19 (by decide) (DLit.cons K30 K20 (by decide) (DLit.cons K31 K18 (by decide) (DLit.cons K32 K19 (by decide) (DLit.cons K33 K20 (by decide) DLit.nil)))))))))) (by simp) (by decide) (by decide +kernel) rfl rfl fun a o hd => ?_
  dsimp only [List.set]
  refine XJ.cons (XS.asg (i := 2) (Ev.split (Ev.name (i := 0) rfl rfl ⟨rfl, rfl⟩) (Ev.strK K12 (by decide)) rfl) rfl (by first | exact .inl rfl | exact .inr rfl) ?_) <;> try dsimp only [List.set]
  have hw := wt_splt 38 t
  unfold sgn
  rcases hsp : splt 38 t with _ | ⟨b, bs⟩
  · exact absurd hsp (splt_ne 38 t)
  rw [hsp, wt_cons] at hw
  have hbs := wt_ge bs
  show XJ _ _ _ (fun o => o = .ret (.str (bs.foldl sgstep b)))
  refine XJ.cons (XS.asg (i := 3) (d := .str b) (Ev.itemN (Ev.o (Ev.name (i := 2) rfl rfl ⟨rfl, rfl⟩)) Ev.int (by walk_at "side") (by walk_at "ix")) rfl (.inl rfl) ?_)
  dsimp only [List.set]
  refine XJ.cons (XS.forN (i := 4) (It.lst (Ev.cast (b := .lst (bs.map .str)) (by first | exact Ev.sliceS (Ev.name (i := 2) rfl rfl ⟨rfl, rfl⟩) (Pt.so Ev.int) Pt.no | exact Ev.sliceL (Ev.o (Ev.name (i := 2) rfl rfl ⟨rfl, rfl⟩)) (Pt.so Ev.int) Pt.no) (by rw [show (1 : Int) = ((1 : Nat) : Int) from rfl, slc_from]; rfl)) (by intro _ _; rfl)) rfl (.inl rfl)
    (ForJ.runI (fun j Γ => ∃ c1 c2 c3 c4, Γ = [some (.v (.str t)), some (.v (.raw a)), some (.v (.lst ((b :: bs).map .str))), some (.v (.str ((bs.take j).foldl sgstep b))), c1, c2, c3, c4]) (bs.map .str) ?_ ?_ _ 0 _ rfl (Nat.zero_le _) ⟨none, none, none, none, rfl⟩))
  · rintro j d Γ hd' ⟨c1, c2, c3, c4, rfl⟩
    rw [List.getElem?_map] at hd'
    obtain ⟨bit, hbit, rfl⟩ := Option.map_eq_some_iff.mp hd'
    have htk : (bs.take (j + 1)).foldl sgstep b = sgstep ((bs.take j).foldl sgstep b) bit := by
      rw [List.take_add_one, hbit, List.foldl_append]; rfl
    have hlt : wt (bs.take j) ≤ wt bs := by conv => rhs; rw [← List.take_append_drop j bs, wt_append]
                                            omega
    have hwl := sgfold_len (bs.take j) b
    have hbl : bit.length ≤ wt bs := by
      have := List.mem_of_getElem? hbit
      obtain ⟨l1, l2, rfl⟩ := List.append_of_mem this
      rw [wt_append, wt_cons]; omega
    have hpl := prt_len 59 bit
    generalize hwj : (bs.take j).foldl sgstep b = wj at *
    show XJ _ [some (.v (.str t)), some (.v (.raw a)), some (.v (.lst ((b :: bs).map .str))), some (.v (.str wj)), some (.v (.str bit)), c2, c3, c4] _ _
    refine XJ.cons (XS.unpack (is := [5, 6, 7]) (Ev.partition (Ev.name (i := 4) rfl rfl ⟨rfl, rfl⟩) (Ev.strK K39 (by decide)) (prt_eq 59 bit) (by omega) (by omega) (by omega) rfl) ⟨⟨.local, rfl, .inl rfl⟩, ⟨.local, rfl, .inl rfl⟩, ⟨.local, rfl, .inl rfl⟩, trivial⟩ rfl ?_)
    show XJ _ [some (.v (.str t)), some (.v (.raw a)), some (.v (.lst ((b :: bs).map .str))), some (.v (.str wj)), some (.v (.str bit)), some (.v (.str (prt 59 bit).1)), some (.v (.str (prt 59 bit).2.1)), some (.v (.str (prt 59 bit).2.2))] _ _
    have hst := sgstep_len wj bit
    refine XJ.cons (XS.asg (i := 3) (d := .str (sgstep wj bit)) (Ev.cast (Ev.bin (z := .str (sgstep wj bit)) (Ev.o (Ev.name (i := 3) rfl rfl ⟨rfl, rfl⟩)) (Ev.o (Ev.cast (b := .str (if !(prt 59 bit).2.1.isEmpty && (dget sgD (prt 59 bit).1).isSome then (dget sgD (prt 59 bit).1).getD [] ++ (prt 59 bit).2.2 else [38] ++ bit))
      (Ev.ifexp (c := !(prt 59 bit).2.1.isEmpty && (dget sgD (prt 59 bit).1).isSome) (d1 := .str ((dget sgD (prt 59 bit).1).getD [] ++ (prt 59 bit).2.2)) (d2 := .str ([38] ++ bit)) (Tr.cast (Tr.and (Tr.plain (Ev.o (Ev.name (i := 6) rfl rfl ⟨rfl, rfl⟩))) (fun _ => Tr.and (Tr.cm (Ev.o (Ev.name (i := 5) rfl rfl ⟨rfl, rfl⟩)) (Ev.o (Ev.name (i := 1) rfl rfl ⟨rfl, rfl⟩)) (Cmp.in_dict hd)) (fun _ => Tr.and_nil))) (by simp [D.tru])) (fun hc => ?_) (fun hc => (Ev.bin (Ev.o (Ev.strK K12 (by decide))) (Ev.o (Ev.name (i := 4) rfl rfl ⟨rfl, rfl⟩)) (by walk_at "bin")))) ?_)) ?_) rfl) rfl (.inl rfl) ?_)
    · simp only [Bool.and_eq_true] at hc
      obtain ⟨v, hv⟩ := Option.isSome_iff_exists.mp hc.2
      have hvl := dget_len hv
      rw [hv]
      exact Ev.bin (Ev.o (Ev.dict_get hd (Ev.name (i := 1) rfl rfl ⟨rfl, rfl⟩) (Ev.name (i := 5) rfl rfl ⟨rfl, rfl⟩) hv)) (Ev.o (Ev.name (i := 7) rfl rfl ⟨rfl, rfl⟩)) (Bin.add_str (by omega))
    · split <;> rfl
    · have h2 := hst
      unfold sgstep at h2
      rw [List.length_append] at h2
      exact Bin.add_str (by omega)
    refine XJ.nil ⟨some (.v (.str bit)), some (.v (.str (prt 59 bit).1)), some (.v (.str (prt 59 bit).2.1)), some (.v (.str (prt 59 bit).2.2)), ?_⟩
    rw [htk]; rfl
  · rintro Γ ⟨c1, c2, c3, c4, rfl⟩
    have e : (bs.take (bs.map D.str).length) = bs := by rw [List.length_map, List.take_length]
    rw [e]
    exact XJ.cons (XS.ret (Ev.name (i := 3) rfl rfl ⟨rfl, rfl⟩) rfl)
end
section
seal Ev EvO Tr XS XJ EvL Pt Cmp Bin Spec Tst It Emit
noncomputable def sgl (n : Int) : List (List Nat) := if n.fmod 3 == 0 then [[60], [62], [13], [10], [9]] else if n.fmod 3 == 1 then [[60], [13], [10], [9]] else [[62]]
noncomputable def bare (n : Int) (vals text : List Nat) : Bool := (sgl n).any (fun s => Txt.contains (S vals) (S s)) || (decide (62 ∈ text) || ((n.fdiv 3).fmod 2 == 1 && decide (13 ∈ text)))
theorem sgl_at (n : Int) : ([.lst [.str [60], .str [62], .str [13], .str [10], .str [9]], .lst [.str [60], .str [13], .str [10], .str [9]], .lst [.str [62]]] : List D)[(n.fmod 3).toNat]? = some (.lst ((sgl n).map .str)) := by
  have h1 := Int.fmod_nonneg_of_pos n (b := 3) (by decide)
  have h2 := Int.fmod_lt_of_pos n (b := 3) (by decide)
  unfold sgl
  have : n.fmod 3 = 0 ∨ n.fmod 3 = 1 ∨ n.fmod 3 = 2 := by omega
  rcases this with h | h | h <;> rw [h] <;> rfl
noncomputable def inV (vals : List Nat) : D → Bool
  | .str s => Txt.contains (S vals) (S s)
  | _ => false

theorem bare_spec {G : Gl} (hG : GP G) (n : Int) (vals text : List Nat) : Spec G "_law_bare" 1 [.int n, .str vals, .str text] (.bool (bare n vals text)) := by
  refine Spec.fn (i := 23) (xs := ["dress", "values", "text"]) hG (by decide) (bind_3 (by decide +kernel) fun fd hp hd v u t => by unfold bindArgs; rw [hp, hd]; rfl) rfl (by decide +kernel) 1 fun L a' q cd B h₀ => ?_
  have h : dfAt 23 = ⟨_, _, _, _⟩ := rfl
  unfold cx
  rw [h]
  show XJ _ [some (.v _), some (.v _), some (.v _), none] _ _
  have h1 := Int.fmod_nonneg_of_pos n (b := 3) (by decide)
  have hg := sgl_at n
  refine XJ.cons (XS.asg (i := 3) (d := .lst ((sgl n).map .str)) (Ev.itemN (Ev.o (Ev.lst (EvL.cons (Ev.lst (EvL.cons (Ev.strK K14 (by decide)) (EvL.cons (Ev.strK K15 (by decide)) (EvL.cons (Ev.strK K18 (by decide)) (EvL.cons (Ev.strK K19 (by decide)) (EvL.cons (Ev.strK K20 (by decide)) EvL.nil rfl) rfl) rfl) rfl) rfl) (Nat.le_of_ble_eq_true rfl)) (EvL.cons (Ev.lst (EvL.cons (Ev.strK K14 (by decide)) (EvL.cons (Ev.strK K18 (by decide)) (EvL.cons (Ev.strK K19 (by decide)) (EvL.cons (Ev.strK K20 (by decide)) EvL.nil rfl) rfl) rfl) rfl) (Nat.le_of_ble_eq_true rfl)) (EvL.cons (Ev.lst (EvL.cons (Ev.strK K15 (by decide)) EvL.nil rfl) (Nat.le_of_ble_eq_true rfl)) EvL.nil rfl) rfl) rfl) (Nat.le_of_ble_eq_true rfl))) (Ev.bin (Ev.o (Ev.name (i := 0) rfl rfl ⟨rfl, rfl⟩)) (Ev.o Ev.int) (by walk_at "bin")) (by walk_at "side") (by walk_at "ix")) rfl (.inl rfl) ?_)
  show XJ _ [some (.v (.int n)), some (.v (.str vals)), some (.v (.str text)), some (.v (.lst ((sgl n).map .str)))] _ _
  have hl : ((sgl n).map D.str).length ≤ 4194304 := by unfold sgl; split <;> (try split) <;> decide
  have hf : (((sgl n).map D.str).filter (inV vals)).map (fun d => d) = (((sgl n).filter fun s => Txt.contains (S vals) (S s)).map D.str) := by
    rw [List.map_id', List.filter_map]; rfl
  have hany : (!((((sgl n).filter fun s => Txt.contains (S vals) (S s)).map D.str).isEmpty)) = (sgl n).any (fun s => Txt.contains (S vals) (S s)) := by
    rw [Bool.eq_iff_iff]
    simp [List.filter_eq_nil_iff]
  refine XJ.cons (XS.ite (c := (sgl n).any (fun s => Txt.contains (S vals) (S s))) (Tr.cast (Tr.plain (Ev.o (Ev.comp (ds := (sgl n).map .str) (p := inV vals) (f := fun d => d) (CompHyp.name 1 [none, none, some (.v (.str vals))] (It.lst (Ev.name (i := 3) rfl rfl ⟨rfl, rfl⟩) (by intro _ _; rfl)) (by kernel_rfl) rfl ?_ ?_ ?_ hl)))) ?_) (fun hc => ?_) (fun hc => ?_))
  · exact .of (.none (.none (.some 1 rfl rfl rfl .nil)))
  · intro C B d hd
    obtain ⟨s, hs, rfl⟩ := List.mem_map.mp hd
    exact Tst.one (Tr.cm (Ev.o (Ev.name (i := 1) rfl rfl ⟨rfl, rfl⟩)) (Ev.o (Ev.name (i := 2) rfl rfl ⟨rfl, rfl⟩)) Cmp.in_str)
  · intro C B d hd hp
    exact (Ev.name (i := 1) rfl rfl ⟨rfl, rfl⟩)
  · rw [← hany, ← hf]; rfl
  · unfold bare
    rw [hc]
    exact XJ.cons (XS.ret Ev.bool rfl)
  · unfold bare
    rw [hc]
    refine XJ.nil ?_
    refine XJ.cons (XS.ret (Ev.cast (Ev.or (Ev.cm (Ev.o (Ev.strK K15 (by decide))) (Ev.o (Ev.name (i := 2) rfl rfl ⟨rfl, rfl⟩)) (by walk_at "cmp")) (fun hc => (Ev.one (Ev.and (Ev.cm (Ev.o (Ev.bin (Ev.o (Ev.bin (Ev.o (Ev.name (i := 0) rfl rfl ⟨rfl, rfl⟩)) (Ev.o Ev.int) (by walk_at "bin"))) (Ev.o Ev.int) (by walk_at "bin"))) (Ev.o Ev.int) (by walk_at "cmp")) (fun hc => (Ev.one (Ev.cm (Ev.o (Ev.strK K18 (by decide))) (Ev.o (Ev.name (i := 2) rfl rfl ⟨rfl, rfl⟩)) (by walk_at "cmp")))))))) ?_) rfl)
    generalize decide (62 ∈ text) = x
    generalize ((n.fdiv 3).fmod 2 == 1) = y
    generalize decide (13 ∈ text) = z
    cases x <;> cases y <;> cases z <;> rfl
end
section
variable {X : Cx} {Γ : Gam} {Φ : Out → Prop}
theorem CTgt.pair {x y : PySem.Str} {p1 p2 p : Pos} {k i j : Nat} {d e : D} (hno : NoOwn Γ) (hi : X.env.scope.names[i]? = some (x, .local)) (hj : X.env.scope.names[j]? = some (y, .local)) :
    CTgt X Γ (.Tuple [.Name x p1, .Name y p2] k p) (.tup [d, e]) ((Γ.set i (some (.v d))).set j (some (.v e))) := fun A s ad v Q E hr g r hq => by
  simp only [Rep] at r
  obtain ⟨a, vs, rfl, _, h1, h2, _⟩ := r
  obtain ⟨v1, v2, rfl, r1, r2⟩ := reps2 h2
  refine wpAny_assign_Tuple hr.1 h1 rfl rfl fun h' ex => ?_
  have kp : Kp s.heap h' := fun b o e => ex b o (Nat.ne_of_lt (Heap.lt_size e)) e
  have g1 := g.up (step_h kp)
  have b1 : Rep (X.ban ad Γ) h' d v1 := Rep.bar (fun a _ _ _ hb _ _ => hno.ban hb) _ _ (Rep.up kp.s _ _ r1)
  refine wpAny_bind (wpAny_holding (wpAny_assign_Name (store_ofL (s := { s with heap := h' }) g.fx g1 hi (.inl rfl) b1 fun s2 mv kps lo g2 => ?_)))
  have hno2 : NoOwn (Γ.set i (some (.v d))) := fun q l h => by
    rcases set_get h with ⟨_, e2⟩ | ⟨_, e2⟩
    · cases e2
    · exact hno q l e2
  have b2 : Rep (X.ban ad (Γ.set i (some (.v d)))) s2.heap e v2 := Rep.bar (fun a _ _ _ hb _ _ => hno2.ban hb) _ _ (Rep.up (fun b o xs n _ e q => kps b o xs n (fun h => h) e q) _ _ (Rep.up kp.s _ _ r2))
  refine wpAny_bind (wpAny_holding (wpAny_assign_Name (store_ofL g.fx g2 hj (.inl rfl) b2 fun s3 mv3 kps3 lo3 g3 => ?_)))
  refine wpAny_pure (hq s3 (fun b o hb e => ((lo3 rfl).1.2 b hb).trans (((lo rfl).1.2 b hb).trans (kp _ _ e))) ?_ (Nat.le_trans (lo rfl).2 (lo3 rfl).2) g3)
  exact (show SR s { s with heap := h' } from ⟨h', s.toks, rfl⟩).trans (mv.1.trans mv3.1)
end
section
variable {X : Cx} {Γ : Gam} {Φ : Out → Prop}
/-- a == b != c, as a value -/
theorem Ev.chain {a b c : PySem.Expr} {o1 o2 : CmpOp} {p : Pos} {x y z : D} {t u : Bool} (ha : EvO X Γ a x) (hb : Ev X Γ b y) (hc : EvO X Γ c z) (h1 : Cmp X Γ o1 x y t) (h2 : t = true → Cmp X Γ o2 y z u)
    (hm : lastMarks [o1, o2] [b, c] = false := by with_unfolding_all rfl) (he : evalEach [] X.env = [] := by rfl) : Ev X Γ (.Compare a [o1, o2] [b, c] p) (.bool (t && u)) := by
  intro A s ad Q E hr g hq
  refine Compare_chain (ha A s ad _ E hr g fun v s1 st1 r1 => ?_) hm
  rw [he]
  refine chain_link (hb A s1 ad _ E hr (g.up st1) fun w s2 st2 r2 => ?_)
  refine h1 A s2 ad _ E v w hr ((g.up st1).up st2) (RepO.up st2.kp _ _ r1) r2.o fun s3 st3 => wpAny_truthy_bool ?_
  cases t with
  | false =>
    rw [if_neg (by decide)]
    exact hq _ _ ((st1.trans st2).trans st3) (by simp only [Rep]; rfl)
  | true =>
    rw [if_pos rfl]
    refine chain_last (hc A s3 ad _ E hr (((g.up st1).up st2).up st3) fun q s4 st4 r4 => ?_)
    refine h2 rfl A s4 ad Q E w q hr ((((g.up st1).up st2).up st3).up st4) (RepO.up (st3.trans st4).kp _ _ r2.o) r4 fun s5 st5 => hq _ _ ((((st1.trans st2).trans st3).trans st4).trans st5) ?_
    simp only [Rep, Bool.true_and]

/-- all of a list of truths -/
theorem Ev.all {p pos : Pos} {e : PySem.Expr} {i : Nat} {bs : List Bool} (hi : X.env.scope.names[i]? = some (("all" : PySem.Str), .globalImplicit)) (hs : Ev X Γ e (.lst (bs.map .bool)))
    (he : nst e = true := by rfl) : Ev X Γ (.Call (.Name "all" p) [e] [] pos) (.bool (bs.all id)) :=
  Ev.bi hi (by decide +kernel) PyProof.Rows.Boot.«all» (by decide) (EvL.cons hs EvL.nil he) (fun A s ad Q E vs0 hr g r hq => by
    obtain ⟨v, rfl, r1⟩ := reps1 r
    simp only [Rep] at r1
    obtain ⟨a, vs, rfl, hb, hl, rs, hz⟩ := r1
    have el := Reps.length _ _ rs
    rw [List.length_map] at el
    obtain ⟨o, e1, e2, n, e3⟩ := id hl
    have halt := Heap.lt_size e1
    refine wp_toks (call_all_walk (wpAny_pyIter_list hl ?_))
    refine ⟨s.heap.objs.size, [s.heap.objs.size, a], [s.heap.objs.size], vs.toArray.size, _, _, fun i => (bs[i]?).getD true, rfl, Walks.list (A := A.in1) hr.1 _ a (Nat.ne_of_lt halt) vs.toArray,
      ⟨⟨_, Heap.get?_push_size _ rfl, rfl, rfl⟩, hl.push _⟩, fun i v s' Q' E' hP hQ => ?_, fun h' tk hk htk => ?_⟩
    · obtain ⟨d, f1, f2⟩ := Reps.get' _ _ i v rs (by simpa using hP)
      rw [List.getElem?_map] at f1
      cases q1 : bs[i]? with
      | none => rw [q1] at f1; cases f1
      | some b =>
        rw [q1] at f1; cases f1
        simp only [Rep] at f2
        subst f2
        simp only [q1, Option.getD_some] at hQ
        exact wpAny_truthy_bool hQ
    · have e : ((List.range vs.toArray.size).all fun i => (bs[i]?).getD true) = bs.all id := by
        rw [List.size_toArray, el, Bool.eq_iff_iff, List.all_eq_true, List.all_eq_true]
        constructor
        · intro h b hb
          obtain ⟨i, hi, rfl⟩ := List.getElem_of_mem hb
          have := h i (List.mem_range.mpr hi)
          simpa only [List.getElem?_eq_getElem hi, Option.getD_some, id] using this
        · intro h i hi
          have hi' := List.mem_range.mp hi
          simp only [List.getElem?_eq_getElem hi', Option.getD_some]
          exact h _ (List.getElem_mem hi')
      rw [e]
      refine hq _ _ (step_heap (fun b o q => ?_) htk) (by simp only [Rep])
      exact hk b o (fun hm => by rw [List.mem_singleton.mp hm] at q; exact Nat.lt_irrefl _ (Heap.lt_size q)) (Heap.get?_push_of_some _ q)) he
end
section
seal Ev EvO Tr XS XJ EvL Pt Cmp Bin Spec Tst It Emit
/-- the names of a place -/
noncomputable def nms (p : List Nat) : List (List Nat) := (splt 47 p).filter fun x => !x.isEmpty
/-- the number of names in common; w is the first way -/
noncomputable def shq : List (List (List Nat)) → List (List Nat) → Nat
  | _, [] => 0
  | ws, c :: cs => if ws.all (fun w => w.take 1 == [c]) then shq (ws.map (List.drop 1)) cs + 1 else 0
noncomputable def shN (ps : List (List Nat)) : Nat := shq (ps.map nms) (nms (ps.headD []))
noncomputable def orDot (x : List Nat) : List Nat := if x.isEmpty then [46] else x
noncomputable def shF (ps : List (List Nat)) : List Nat := 47 :: jn [47] ((nms (ps.headD [])).take (shN ps))
noncomputable def shR (ps : List (List Nat)) : List (List Nat) := ps.map fun p => orDot (jn [47] ((nms p).drop (shN ps)))

theorem deq_strs : ∀ x y : List (List Nat), deq 1 (.lst (x.map .str)) (.lst (y.map .str)) = (x == y) := fun x y => by
  have h : ∀ x y : List (List Nat), ((x.map D.str).length == (y.map D.str).length && ((x.map D.str).zip (y.map D.str)).all fun p => deq 0 p.1 p.2) = (x == y) := by
    intro x
    induction x with
    | nil => intro y; cases y <;> rfl
    | cons a x ih =>
      intro y
      cases y with
      | nil => rfl
      | cons b y =>
        have := ih y
        rw [Bool.eq_iff_iff] at this ⊢
        simp only [Bool.and_eq_true, beq_iff_eq, List.length_map] at this
        simp only [List.map_cons, List.zip_cons_cons, List.all_cons, List.length_cons, deq_str, Bool.and_eq_true, beq_iff_eq, List.length_map, Nat.add_right_cancel_iff, List.cons.injEq]
        rw [← this]
        constructor
        · rintro ⟨h1, h2, h3⟩; exact ⟨h2, h1, h3⟩
        · rintro ⟨h1, h2, h3⟩; exact ⟨h2, h1, h3⟩
  exact h x y
theorem cp_strs (x y : List (List Nat)) : cp 1 (.lst (x.map .str)) (.lst (y.map .str)) = true := by
  refine List.all_eq_true.mpr ?_
  rintro ⟨a, b⟩ h
  have h1 := List.of_mem_zip h
  obtain ⟨_, _, rfl⟩ := List.mem_map.mp h1.1
  obtain ⟨_, _, rfl⟩ := List.mem_map.mp h1.2
  rfl
theorem Cmp.eq_strs {X : Cx} {Γ : Gam} {x y : List (List Nat)} : Cmp X Γ .Eq (.lst (x.map .str)) (.lst (y.map .str)) (x == y) := by
  rw [← deq_strs]; exact Cmp.eq (cp_strs x y) (by decide) (by simp)
theorem Cmp.ne_strs {X : Cx} {Γ : Gam} {x y : List (List Nat)} : Cmp X Γ .NotEq (.lst (x.map .str)) (.lst (y.map .str)) (!(x == y)) := by
  rw [← deq_strs]; exact Cmp.ne (cp_strs x y) (by decide) (by simp)

theorem wt_filter (p : List Nat → Bool) (l : List (List Nat)) : wt (l.filter p) ≤ wt l := by
  induction l with
  | nil => simp
  | cons a l ih =>
    rw [List.filter_cons, wt_cons]
    split
    · rw [wt_cons]; omega
    · omega
theorem wt_take (n : Nat) (l : List (List Nat)) : wt (l.take n) ≤ wt l := by
  conv => rhs; rw [← List.take_append_drop n l, wt_append]
  omega
theorem wt_nms (p : List Nat) : wt (nms p) ≤ p.length + 1 := by
  have := wt_filter (fun x => !x.isEmpty) (splt 47 p)
  have := wt_splt 47 p
  unfold nms; omega

/-- one turn of the loop of _law_shared -/
noncomputable def shAll (ws : List (List (List Nat))) (w0 : List (List Nat)) (n : Nat) : Bool := ws.all fun w => ((w.drop n).take 1 == (w0.drop n).take 1) && !((w0.drop n).take 1 == [])
theorem shAll_go (ws : List (List (List Nat))) (w0 : List (List Nat)) (n : Nat) (hne : ws ≠ []) :
    shAll ws w0 n = true → shq (ws.map (List.drop n)) (w0.drop n) = shq (ws.map (List.drop (n + 1))) (w0.drop (n + 1)) + 1 ∧ n < w0.length := by
  intro h
  unfold shAll at h
  rcases hd : w0.drop n with _ | ⟨c, cs⟩
  · obtain ⟨w, hw⟩ := List.exists_mem_of_ne_nil ws hne
    have := List.all_eq_true.mp h w hw
    rw [hd] at this
    simp at this
  · have hn : n < w0.length := by
      rcases Nat.lt_or_ge n w0.length with h | h
      · exact h
      · rw [List.drop_of_length_le h] at hd; cases hd
    have h1 : w0.drop (n + 1) = cs := by rw [← List.drop_drop, hd]; rfl
    rw [hd] at h
    have h2 : (ws.map (List.drop n)).all (fun w => w.take 1 == [c]) = true := by
      rw [List.all_eq_true] at h ⊢
      intro w hw
      obtain ⟨v, hv, rfl⟩ := List.mem_map.mp hw
      have := h v hv
      simp only [Bool.and_eq_true] at this
      exact this.1
    rw [shq, if_pos h2, h1, List.map_map]
    refine ⟨?_, hn⟩
    congr 2
    refine List.map_congr_left fun v _ => ?_
    show List.drop 1 (List.drop n v) = _
    rw [List.drop_drop]
theorem shAll_stop (ws : List (List (List Nat))) (w0 : List (List Nat)) (n : Nat) :
    shAll ws w0 n = false → shq (ws.map (List.drop n)) (w0.drop n) = 0 := by
  intro h
  unfold shAll at h
  rcases hd : w0.drop n with _ | ⟨c, cs⟩
  · cases ws <;> rfl
  · rw [hd] at h
    rw [shq, if_neg]
    intro h2
    rw [List.all_eq_true] at h2
    have : (ws.all fun w => ((w.drop n).take 1 == (c :: cs).take 1) && !((c :: cs).take 1 == [])) = true := by
      rw [List.all_eq_true]
      intro v hv
      have := h2 _ (List.mem_map.mpr ⟨v, hv, rfl⟩)
      rw [show (c :: cs).take 1 = [c] from rfl, this]; rfl
    rw [this] at h; cases h

theorem filt_tt {α : Type} (l : List α) : (l.filter fun _ => true) = l := List.filter_eq_self.mpr fun _ _ => rfl
noncomputable def wayD (w : List (List Nat)) : D := .lst (w.map .str)
noncomputable def unD : D → List Nat
  | .str s => s
  | _ => []
noncomputable def unW : D → List (List Nat)
  | .lst l => l.map unD
  | _ => []
theorem unW_wayD (w : List (List Nat)) : unW (wayD w) = w := by
  show (w.map D.str).map unD = w
  rw [List.map_map]; exact List.map_id'' (fun _ => rfl) _

theorem filt_nms (p : List Nat) : ((((splt 47 p).map D.str).filter fun d => !(unD d).isEmpty).map fun d => d) = (nms p).map .str := by
  rw [List.map_id', List.filter_map]; rfl

theorem shared_spec {G : Gl} (hG : GP G) (p0 : List Nat) (ps : List (List Nat)) (hn : ps.length ≤ 20) (hl : ∀ p ∈ p0 :: ps, p.length ≤ 4000) :
    Spec G "_law_shared" 2 [.lst ((p0 :: ps).map .str)] (.tup [.str (shF (p0 :: ps)), .lst ((shR (p0 :: ps)).map .str)]) := by
  refine Spec.fn (i := 33) (xs := ["places"]) hG (by decide) (bind_1 (by decide +kernel) fun fd hp hd v => by unfold bindArgs; rw [hp, hd]; rfl) rfl (by decide +kernel) 3 fun L a' q cd B h₀ => ?_
  have h : dfAt 33 = ⟨_, _, _, _⟩ := rfl
  unfold cx
  rw [h]
  show XJ _ [some (.v _), none, none, none] _ _
  generalize hps : p0 :: ps = qs at *
  have hq0 : qs ≠ [] := by rw [← hps]; simp
  have hqn : qs.length ≤ 21 := by rw [← hps]; simp; omega
  have hh : qs.headD [] = p0 := by rw [← hps]; rfl
  have hws : ((qs.map D.str).filter (fun _ => true)).map (fun d => wayD (nms (unD d))) = (qs.map nms).map wayD := by
    rw [filt_tt, List.map_map, List.map_map]; rfl
  refine XJ.cons (XS.asgE (i := 1) (d := .lst ((qs.map nms).map wayD)) (Ev.cast (Ev.comp (ds := qs.map .str) (p := fun _ => true) (f := fun d => wayD (nms (unD d)))
    (CompHyp.name 1 [none, none] (It.lst (Ev.name (i := 0) rfl rfl ⟨rfl, rfl⟩) (by intro _ _; rfl)) (by kernel_rfl) rfl ?_ (fun C B d hd => Tst.nil) ?_ ?_)) (by rw [hws])) rfl (.inr rfl) ?_)
  · exact .of (.none (.none .nil))
  · intro C B d hd _
    obtain ⟨p, hp, rfl⟩ := List.mem_map.mp hd
    have hpl := hl p hp
    have hwp := wt_splt 47 p
    have hlp := wt_ge (splt 47 p)
    refine Ev.cast (Ev.comp (ds := (splt 47 p).map .str) (p := fun d => !(unD d).isEmpty) (f := fun d => d) (CompHyp.name 1 [none, none] (It.lst (Ev.split (Ev.name (i := 1) rfl rfl ⟨rfl, rfl⟩) (Ev.strK K9 (by decide)) rfl) (by intro _ _; rfl)) (by kernel_rfl) rfl ?_ ?_ ?_ ?_)) (by rw [filt_nms]; rfl)
    · exact .of (.none (.none .nil))
    · intro C' B' d hd
      obtain ⟨s, hs, rfl⟩ := List.mem_map.mp hd
      exact Tst.one (Tr.cast (Tr.plain (d := .str s) (Ev.o (Ev.name (i := 1) rfl rfl ⟨rfl, rfl⟩))) rfl)
    · intro C' B' d hd hpd
      exact (Ev.name (i := 1) rfl rfl ⟨rfl, rfl⟩)
    · rw [List.length_map]; omega
  · rw [List.length_map]; omega
  have hw0 : nms p0 = (qs.map nms).headD [] := by rw [← hps]; rfl
  generalize hwz : qs.map nms = ws at *
  have hwne : ws ≠ [] := by rw [← hwz]; simp [hq0]
  have hwn : ws.length ≤ 21 := by rw [← hwz]; simpa using hqn
  have hg0 : (ws.map wayD)[0]? = some (.lst ((nms p0).map .str)) := by
    rw [hw0]; cases ws with
    | nil => exact absurd rfl hwne
    | cons a b => rfl
  have hwl : ∀ w ∈ ws, wt w ≤ 4001 := by
    intro w hw
    rw [← hwz] at hw
    obtain ⟨p, hp, rfl⟩ := List.mem_map.mp hw
    have := wt_nms p
    have := hl p hp
    omega
  have hp0l : wt (nms p0) ≤ 4001 := by
    have := wt_nms p0
    have := hl p0 (by rw [← hps]; simp)
    omega
  have hp0n := wt_ge (nms p0)
  show XJ _ [some (.v (.lst (qs.map .str))), some (.v (.lst (ws.map wayD))), none, none] _ _
  refine XJ.cons (XS.asg (i := 2) (d := .int ((0 : Nat) : Int)) Ev.int rfl (.inr rfl) ?_)
  have hshN : shN qs = shq ws (nms p0) := by unfold shN; rw [hwz, hh]
  refine XJ.cons (XS.whil (I := fun n Γ => ∃ k : Nat, Γ = [some (.v (.lst (qs.map .str))), some (.v (.lst (ws.map wayD))), some (.v (.int (k : Int))), none] ∧ n + k = (nms p0).length + 1 ∧ k + shq (ws.map (List.drop k)) ((nms p0).drop k) = shN qs) ?_ ((nms p0).length + 1) ⟨0, rfl, rfl, ?_⟩)
  · rintro n Γ ⟨k, rfl, hk, hinv⟩
    refine ⟨shAll ws (nms p0) k, ?_, fun ht => ?_, fun hf => ?_⟩
    · have hall : (((ws.map wayD).filter (fun _ => true)).map fun d => D.bool ((((unW d).drop k).take 1 == ((nms p0).drop k).take 1) && !(((nms p0).drop k).take 1 == []))) = (ws.map fun w => (((w.drop k).take 1 == ((nms p0).drop k).take 1) && !(((nms p0).drop k).take 1 == []))).map D.bool := by
        rw [filt_tt, List.map_map, List.map_map]
        refine List.map_congr_left fun w _ => ?_
        show D.bool _ = D.bool _
        rw [unW_wayD]
      have hid : ((ws.map fun w => (((w.drop k).take 1 == ((nms p0).drop k).take 1) && !(((nms p0).drop k).take 1 == []))).all id) = shAll ws (nms p0) k := by
        rw [List.all_map]; rfl
      rw [← hid]
      refine Tr.cast (Tr.plain (Ev.o (Ev.all (atK 3 rfl) (Ev.cast (Ev.comp (ds := ws.map wayD) (p := fun _ => true) (f := fun d => D.bool ((((unW d).drop k).take 1 == ((nms p0).drop k).take 1) && !(((nms p0).drop k).take 1 == [])))
        (CompHyp.name 1 [none, none, some (.v (.int (k : Int))), some (.v (.lst (ws.map wayD)))] (It.lst (Ev.name (i := 1) rfl rfl ⟨rfl, rfl⟩) (by intro _ _; rfl)) (by kernel_rfl) rfl ?_ (fun C B d hd => Tst.nil) ?_ ?_)) (by rw [hall]))))) ?_
      · exact .of (.none (.none (.some 2 rfl rfl rfl (.some 1 rfl rfl rfl .nil))))
      · intro C B d hd _
        obtain ⟨w, hw, rfl⟩ := List.mem_map.mp hd
        rw [unW_wayD]
        have e1 : slc (w.map D.str) (some (k : Int)) (some ((k : Int) + 1)) = ((w.drop k).take 1).map .str := by
          rw [show (k : Int) + 1 = ((k + 1 : Nat) : Int) from rfl, slc_mid, Nat.add_sub_cancel_left, ← List.map_drop, ← List.map_take]
        have e2 : slc ((nms p0).map D.str) (some (k : Int)) (some ((k : Int) + 1)) = (((nms p0).drop k).take 1).map .str := by
          rw [show (k : Int) + 1 = ((k + 1 : Nat) : Int) from rfl, slc_mid, Nat.add_sub_cancel_left, ← List.map_drop, ← List.map_take]
        refine Ev.chain (Ev.o (Ev.cast (b := .lst (((w.drop k).take 1).map .str)) (Ev.sliceL (a := .Name "way" _) (l := w.map .str) (x := some (k : Int)) (y := some ((k : Int) + 1)) (Ev.o (Ev.name (i := 1) rfl rfl ⟨rfl, rfl⟩)) (Pt.so (Ev.name (i := 2) rfl rfl ⟨rfl, rfl⟩)) (Pt.so (Ev.bin (Ev.o (Ev.name (i := 2) rfl rfl ⟨rfl, rfl⟩)) (Ev.o Ev.int) (by walk_at "bin")))) (by rw [e1])))
          (Ev.cast (b := .lst ((((nms p0).drop k).take 1).map .str)) (Ev.sliceL (l := (nms p0).map .str) (x := some (k : Int)) (y := some ((k : Int) + 1)) (Ev.o (Ev.itemN (Ev.o (Ev.name (i := 3) rfl rfl ⟨rfl, rfl⟩)) Ev.int (by decide) hg0)) (Pt.so (Ev.name (i := 2) rfl rfl ⟨rfl, rfl⟩)) (Pt.so (Ev.bin (Ev.o (Ev.name (i := 2) rfl rfl ⟨rfl, rfl⟩)) (Ev.o Ev.int) (by walk_at "bin")))) (by rw [e2])) (Ev.o (Ev.cast (b := .lst (([] : List (List Nat)).map .str)) (Ev.lst EvL.nil (Nat.le_of_ble_eq_true rfl)) rfl)) Cmp.eq_strs (fun _ => Cmp.ne_strs)
      · rw [List.length_map]; omega
      · rfl
    · obtain ⟨h1, h2⟩ := shAll_go ws (nms p0) k hwne ht
      refine XJ.cons (XS.asg (i := 2) (d := .int ((k + 1 : Nat) : Int)) (Ev.bin (Ev.o (Ev.name (i := 2) rfl rfl ⟨rfl, rfl⟩)) (Ev.o Ev.int) (by walk_at "bin")) rfl (.inr rfl) ?_)
      refine XJ.nil ⟨n - 1, by omega, k + 1, rfl, by omega, ?_⟩
      omega
    · have := shAll_stop ws (nms p0) k hf
      have hk2 : k = shN qs := by omega
      subst hk2
      generalize hsn : shN qs = k at *
      have hR : (((ws.map wayD).filter (fun _ => true)).map fun d => D.str (orDot (jn [47] ((unW d).drop k)))) = (shR qs).map .str := by
        unfold shR
        rw [filt_tt, hsn, ← hwz, List.map_map, List.map_map, List.map_map]
        refine List.map_congr_left fun w _ => ?_
        show D.str _ = D.str _
        rw [unW_wayD]
      have hF : shF qs = [47] ++ jn [47] ((nms p0).take k) := by unfold shF; rw [hsn, hh]; rfl
      have hz : ∀ w ∈ ws, ∀ l : List (List Nat), wt l ≤ wt w → (l.map (·.length)).sum + l.length * ([47] : List Nat).length ≤ 16777216 ∧ (jn [47] l).length ≤ 4001 := by
        intro w hw l hlw
        have h1 := hwl w hw
        have h2 := jn_wt 47 l
        have h3 := wt_len l
        refine ⟨?_, by omega⟩
        rw [show ([47] : List Nat).length = 1 from rfl, Nat.mul_one]; omega
      have hp0w : nms p0 ∈ ws := by rw [← hwz, ← hps]; simp
      obtain ⟨hz1, hz2⟩ := hz _ hp0w ((nms p0).take k) (wt_take k _)
      have hz3 : ([47] : List Nat).length + (jn [47] ((nms p0).take k)).length ≤ 1048576 := by rw [show ([47] : List Nat).length = 1 from rfl]; omega
      refine XJ.cons (XS.ret (Ev.cast (Ev.tup (EvL.cons (d := .str ([47] ++ jn [47] ((nms p0).take k))) (Ev.bin (Ev.o (Ev.strK K9 (by decide))) (Ev.o (Ev.join (Ev.strK K9 (by decide)) (Ev.cast (b := .lst (((nms p0).take k).map .str)) (Ev.sliceL (l := (nms p0).map .str) (Ev.o (Ev.itemN (Ev.o (Ev.name (i := 1) rfl rfl ⟨rfl, rfl⟩)) Ev.int (by decide) hg0)) Pt.no (Pt.so (Ev.name (i := 2) rfl rfl ⟨rfl, rfl⟩))) (by rw [slc_to, List.map_take])) hz1 (by omega) rfl)) (Bin.add_str hz3))
        (EvL.cons (d := .lst ((shR qs).map .str)) (Ev.cast (Ev.comp (ds := ws.map wayD) (p := fun _ => true) (f := fun d => D.str (orDot (jn [47] ((unW d).drop k))))
          (CompHyp.name 1 [none, none, some (.v (.int (k : Int)))] (It.lst (Ev.name (i := 1) rfl rfl ⟨rfl, rfl⟩) (by intro _ _; rfl)) (by kernel_rfl) rfl ?_ (fun C B d hd => Tst.nil) ?_ ?_)) (by rw [hR])) EvL.nil rfl) rfl) (Nat.le_of_ble_eq_true rfl)) (by rw [hF])) rfl)
      · exact .of (.none (.none (.some 2 rfl rfl rfl .nil)))
      · intro C B d hd _
        obtain ⟨w, hw, rfl⟩ := List.mem_map.mp hd
        rw [unW_wayD]
        obtain ⟨hy1, hy2⟩ := hz w hw (w.drop k) (wt_drop k _)
        refine Ev.cast (Ev.or (Ev.join (Ev.strK K9 (by decide)) (Ev.cast (b := .lst ((w.drop k).map .str)) (Ev.sliceL (l := w.map .str) (Ev.o (Ev.name (i := 1) rfl rfl ⟨rfl, rfl⟩)) (Pt.so (Ev.name (i := 2) rfl rfl ⟨rfl, rfl⟩)) Pt.no) (by rw [slc_from, List.map_drop])) hy1 (by omega) rfl) (fun hc => Ev.one (Ev.strK K10 (by decide)))) ?_
        generalize jn [47] (w.drop k) = v
        cases v <;> rfl
      · rw [List.length_map]; omega
  · show 0 + shq (ws.map (List.drop 0)) ((nms p0).drop 0) = _
    rw [hshN]
    have : ws.map (List.drop 0) = ws := List.map_id'' (fun _ => rfl) _
    rw [this, List.drop_zero, Nat.zero_add]
end
section
seal Ev EvO Tr XS XJ EvL Pt Cmp Bin Spec Tst It Emit
noncomputable def row4 (a b c d : List Nat) : D := .tup [.str a, .str b, .str c, .str d]
noncomputable def topF (f : List Nat) : List Nat := if f == [47] then f else f ++ [47]
noncomputable def due6 (ps : List (List Nat)) : List D :=
  row4 (topF (shF ps)) [46] (shF ps) (shF ps) :: (ps.zip (shR ps)).map fun q => row4 [] (if q.1.take 2 == [47, 47] then q.1 else q.2) q.1 q.1
noncomputable def pr1 : D → List Nat
  | .tup (.str a :: _) => a
  | _ => []
noncomputable def pr2 : D → List Nat
  | .tup [_, .str b] => b
  | _ => []
theorem shF_len (p0 : List Nat) (ps : List (List Nat)) (hl : p0.length ≤ 4000) : (shF (p0 :: ps)).length ≤ 4002 := by
  unfold shF
  have h1 := wt_nms p0
  have h2 := wt_take (shN (p0 :: ps)) (nms p0)
  have h3 := jn_wt 47 ((nms p0).take (shN (p0 :: ps)))
  show (jn [47] ((nms p0).take (shN (p0 :: ps)))).length + 1 ≤ _
  omega
theorem reps_strs_mem {ps rs : List (List Nat)} {d : D} (h : d ∈ zipD (ps.map .str) (rs.map .str)) : ∃ p r, (p, r) ∈ ps.zip rs ∧ d = .tup [.str p, .str r] := by
  unfold zipD at h
  obtain ⟨⟨x, y⟩, hm, rfl⟩ := List.mem_map.mp h
  rw [List.zip_map] at hm
  obtain ⟨⟨p, r⟩, hm2, e⟩ := List.mem_map.mp hm
  cases e
  exact ⟨p, r, hm2, rfl⟩

theorem due_spec {G : Gl} (hG : GP G) (p0 : List Nat) (ps : List (List Nat)) (hn : ps.length ≤ 20) (hl : ∀ p ∈ p0 :: ps, p.length ≤ 4000) :
    Spec G "_law_due" 3 [.lst ((p0 :: ps).map .str)] (.lst (due6 (p0 :: ps))) := by
  have s1 := shared_spec hG p0 ps hn hl
  have hF := shF_len p0 ps (hl p0 (by simp))
  refine Spec.fn (i := 35) (xs := ["places"]) hG (by decide) (bind_1 (by decide +kernel) fun fd hp hd v => by unfold bindArgs; rw [hp, hd]; rfl) rfl (by decide +kernel) 6 fun L a' q cd B h₀ => ?_
  have h : dfAt 35 = ⟨_, _, _, _⟩ := rfl
  unfold cx
  rw [h]
  show XJ _ [some (.v _), none, none, none, none, none, none] _ _
  have hrn : (shR (p0 :: ps)).length = ps.length + 1 := by unfold shR; simp
  generalize hps : p0 :: ps = qs at *
  have hqn : qs.length ≤ 21 := by rw [← hps]; simp; omega
  have hqr : (shR qs).length ≤ 21 := by omega
  refine XJ.cons (XS.unpack (is := [1, 2]) (Ev.call (atK 5 rfl) (EvL.cons (Ev.name (i := 0) rfl rfl ⟨rfl, rfl⟩) EvL.nil rfl) (s1) (Nat.le_of_ble_eq_true rfl) rfl) ⟨⟨.local, rfl, .inl rfl⟩, ⟨.local, rfl, .inl rfl⟩, trivial⟩ rfl ?_)
  show XJ _ [some (.v (.lst (qs.map .str))), some (.v (.str (shF qs))), some (.v (.lst ((shR qs).map .str))), none, none, none, none] _ _
  have hdue : due6 qs = row4 (topF (shF qs)) [46] (shF qs) (shF qs) :: (qs.zip (shR qs)).map fun q => row4 [] (if q.1.take 2 == [47, 47] then q.1 else q.2) q.1 q.1 := rfl
  generalize hFz : shF qs = F at *
  generalize hRz : shR qs = R at *
  refine XJ.cons (XS.asg (i := 3) (d := .str (topF F)) (Ev.cast (Ev.ifexp (Tr.cm (Ev.o (Ev.name (i := 1) rfl rfl ⟨rfl, rfl⟩)) (Ev.o (Ev.strK K9 (by decide))) (by walk_at "cmp")) (fun hc => (Ev.name (i := 1) rfl rfl ⟨rfl, rfl⟩)) (fun hc => Ev.bin (Ev.o (Ev.name (i := 1) rfl rfl ⟨rfl, rfl⟩)) (Ev.o (Ev.strK K9 (by decide))) (Bin.add_str (by show F.length + 1 ≤ _; omega)))) ?_) rfl (.inl rfl) ?_)
  · unfold topF; split <;> rfl
  dsimp only [List.set]
  have hres : ((zipD (qs.map .str) (R.map .str)).filter (fun _ => true)).map (fun d => row4 [] (if (pr1 d).take 2 == [47, 47] then pr1 d else pr2 d) (pr1 d) (pr1 d)) = (qs.zip R).map fun q => row4 [] (if q.1.take 2 == [47, 47] then q.1 else q.2) q.1 q.1 := by
    rw [filt_tt]
    unfold zipD
    rw [List.map_map, List.zip_map, List.map_map]
    rfl
  have hno : NoOwn ([none, none, none] : Gam) := .no (.no (.no .done))
  refine XJ.cons (XS.asgComp (i := 4) (ds := zipD (qs.map .str) (R.map .str)) (p := fun _ => true) (f := fun d => row4 [] (if (pr1 d).take 2 == [47, 47] then pr1 d else pr2 d) (pr1 d) (pr1 d))
    ⟨by kernel_rfl, ⟨[none, none, none], fun d => [none, some (.v (.str (pr1 d))), some (.v (.str (pr2 d)))], ?_, ?_, ?_, fun C B d hd => Tst.nil, ?_⟩, ⟨_, It.zip (atK 6 rfl) (Ev.name (i := 0) rfl rfl ⟨rfl, rfl⟩) (Ev.name (i := 2) rfl rfl ⟨rfl, rfl⟩)⟩, ?_⟩ rfl ?_ rfl)
  · exact .of (.none (.none (.none .nil)))
  · intro C B d hd
    obtain ⟨p, r, hm, rfl⟩ := reps_strs_mem hd
    exact CTgt.pair (i := 1) (j := 2) hno rfl rfl
  · intro d hd
    exact SubG.no (.new (.new .done))
  · intro C B d hd _
    obtain ⟨p, r, hm, rfl⟩ := reps_strs_mem hd
    show Ev _ [none, some (.v (.str p)), some (.v (.str r))] _ (row4 [] (if p.take 2 == [47, 47] then p else r) p p)
    have hsl : slc p none (some (2 : Int)) = p.take 2 := slc_to p 2
    refine Ev.cast (Ev.tup (EvL.cons (d := .str []) (Ev.strK K8 (by decide)) (EvL.cons (d := .str (if p.take 2 == [47, 47] then p else r)) (Ev.cast (Ev.ifexp (c := p.take 2 == [47, 47]) (d1 := .str p) (d2 := .str r) (Tr.cast (Tr.cm (Ev.o (by first | exact Ev.sliceS (Ev.name (i := 1) rfl rfl ⟨rfl, rfl⟩) Pt.no (Pt.so Ev.int) | exact Ev.sliceL (Ev.o (Ev.name (i := 1) rfl rfl ⟨rfl, rfl⟩)) Pt.no (Pt.so Ev.int))) (Ev.o (Ev.strK K34 (by decide))) (by walk_at "cmp")) (by rw [hsl])) (fun hc => Ev.name (i := 1) rfl rfl ⟨rfl, rfl⟩) (fun hc => Ev.name (i := 2) rfl rfl ⟨rfl, rfl⟩)) ?_) (EvL.cons (d := .str p) (Ev.name (i := 1) rfl rfl ⟨rfl, rfl⟩) (EvL.cons (d := .str p) (Ev.name (i := 1) rfl rfl ⟨rfl, rfl⟩) EvL.nil rfl) rfl) rfl) rfl) (Nat.le_of_ble_eq_true rfl)) rfl
    split <;> rfl
  · unfold zipD; rw [List.length_map, List.length_zip, List.length_map]; omega
  rw [hres]
  show XJ _ [some (.v (.lst (qs.map .str))), some (.v (.str F)), some (.v (.lst (R.map .str))), some (.v (.str (topF F))), some (.v (.lst ((qs.zip R).map fun q => row4 [] (if q.1.take 2 == [47, 47] then q.1 else q.2) q.1 q.1))), none, none] _ _
  refine XJ.cons (XS.ret (Ev.cast (Ev.bin (Ev.o (Ev.lst (EvL.cons (Ev.tup (EvL.cons (Ev.name (i := 3) rfl rfl ⟨rfl, rfl⟩) (EvL.cons (Ev.strK K10 (by decide)) (EvL.cons (Ev.name (i := 1) rfl rfl ⟨rfl, rfl⟩) (EvL.cons (Ev.name (i := 1) rfl rfl ⟨rfl, rfl⟩) EvL.nil rfl) rfl) rfl) rfl) (Nat.le_of_ble_eq_true rfl)) EvL.nil rfl) (Nat.le_of_ble_eq_true rfl))) (Ev.o (Ev.name (i := 4) rfl rfl ⟨rfl, rfl⟩)) (Bin.add_lst (by simp; omega))) (by rw [hdue]; rfl)) rfl)
end
theorem owner_map : Manifest.owners.lookup (String.ofList ['p', 'a', 'm'].reverse) = some Manifest.sig_map := by kernel_rfl
theorem mro_map : mroOf (.type "map") = pure [.type "map", .type "object"] := by rw [mroOf_type]; kernel_rfl
theorem lookup_map_new : typeLookup (.type "map") "__new__" = pure (some (.builtin "map.__new__")) := by rw [typeLookup_type, builtinLookup_eq_fast]; kernel_rfl
theorem slot_map_init : Slot "map" "__init__" "object.__init__" :=
  .of (owner := "object") (n := "__init__") (by rw [typeLookup_type, builtinLookup_eq_fast]; kernel_rfl) (by decide +kernel) (by decide +kernel) (by decide +kernel)
    (by first | exact .inl (by decide +kernel) | exact .inr (by decide +kernel)) (by rw [isSubtype_type]; kernel_rfl)
theorem slot_map_next : Slot "map" "__next__" "map.__next__" :=
  .of (owner := "map") (n := "__next__") (by rw [typeLookup_type, builtinLookup_eq_fast]; kernel_rfl) (by decide +kernel) (by decide +kernel) (by decide +kernel)
    (by first | exact .inl (by decide +kernel) | exact .inr (by decide +kernel)) (by rw [isSubtype_type]; kernel_rfl)
theorem slot_map_iter : Slot "map" "__iter__" "map.__iter__" :=
  .of (owner := "map") (n := "__iter__") (by rw [typeLookup_type, builtinLookup_eq_fast]; kernel_rfl) (by decide +kernel) (by decide +kernel) (by decide +kernel)
    (by first | exact .inl (by decide +kernel) | exact .inr (by decide +kernel)) (by rw [isSubtype_type]; kernel_rfl)
theorem called_map : TypeCalled "map" "map.__new__" "object.__init__" :=
  ⟨by decide +kernel, by decide +kernel, ⟨_, _, mro_map⟩, madeBy_type mro_map lookup_map_new (by decide +kernel), by decide +kernel, by rw [isSubtype_type]; kernel_rfl, slot_map_init⟩
theorem typeCall_map_2 (a b : Value) : checkTypeCall "map" ⟨[a, b], []⟩ = pure () := by kernel_rfl
theorem newCall_map_2 (a b : Value) : checkBuiltinCall "map.__new__" ⟨[.type "map", a, b], []⟩ = pure () := by kernel_rfl
theorem entry_map_new : entryFor table "map.__new__" = some Builtin.«map.__new__» := entryFor_of_tree (by kernel_rfl)
theorem entry_map_next : entryFor table "map.__next__" = some Builtin.«map.__next__» := entryFor_of_tree (by kernel_rfl)
theorem entry_map_iter : entryFor table "map.__iter__" = some Builtin.«dict_keyiterator.__iter__» :=
  entryFor_alias (id' := "dict_keyiterator.__iter__") (by kernel_rfl) (by first | rfl | decide +kernel | (unfold String.splitOn; simp +decide [String.splitOnAux])) (by decide +kernel) (by kernel_rfl)
theorem args_map_next_1 (a : Value) : argsOk "map.__next__" ⟨[a], []⟩ := by
  unfold argsOk; rw [signature?_of (id := "map.__next__") (n := ['_', '_', 't', 'x', 'e', 'n', '_', '_']) (o := ['p', 'a', 'm']) (by kernel_rfl) owner_map]; kernel_rfl
theorem args_map_iter_1 (a : Value) : argsOk "map.__iter__" ⟨[a], []⟩ := by
  unfold argsOk; rw [signature?_of (id := "map.__iter__") (n := ['_', '_', 'r', 'e', 't', 'i', '_', '_']) (o := ['p', 'a', 'm']) (by kernel_rfl) owner_map]; kernel_rfl
theorem map_no_len : typeLookup (.type "map") "__len__" = pure none := by rw [typeLookup_type, builtinLookup_eq_fast]; kernel_rfl
theorem map_no_hint : typeLookup (.type "map") "__length_hint__" = pure none := by rw [typeLookup_type, builtinLookup_eq_fast]; kernel_rfl
theorem sub_map : isSubtype (.type "map") (.type "map") = pure true := by rw [isSubtype_type]; kernel_rfl

noncomputable abbrev IsMap (h : Heap) (M T : Addr) (f : Value) : Prop := h.get? M = some { cls := .type "map", dict := none, data := .fields #[.ref T, f], slots := #[] }
noncomputable abbrev IsOne (h : Heap) (T : Addr) (a : Value) : Prop := h.get? T = some { cls := .type "tuple", data := .seq #[a] }
noncomputable abbrev mapH1 (h : Heap) (l : Addr) : Heap := h.push { cls := .type "list_iterator", data := .fields #[.ref l, .int 0 0] }
noncomputable abbrev mapH2 (h : Heap) (l : Addr) : Heap := (mapH1 h l).push { cls := .type "tuple", data := .seq #[.ref h.objs.size] }
noncomputable abbrev mapH3 (h : Heap) (l : Addr) (f : Value) : Heap := (mapH2 h l).push { cls := .type "map", data := .fields #[.ref (mapH1 h l).objs.size, f] }

theorem meets_map_new (l : Addr) (f : Value) (xs : Array Value) :
    Meets (Builtin.«map.__new__» ⟨[.type "map", f, .ref l], []⟩) (fun _ R s => s.heap.IsList l xs ∧
      R (.ok (.ret (.ref (mapH2 s.heap l).objs.size))) { s with heap := mapH3 s.heap l f }) :=
  .of_wp fun prog w A R s h => by
    obtain ⟨hp, g, d, tk, os⟩ := s; obtain ⟨hl, h⟩ := h
    have hsub := sub_map
    have hL1 : Heap.IsList (Shared.heap ⟨hp, g, d, tk, os⟩) l xs := hl
    wp_walk using wpAny_pyIter_list hL1
    exact ⟨_, rfl, h⟩
section
variable {prog : Program} {w : World} {A : Around} {E : Value → Shared → Prop} {s : Shared}

theorem call_map_2 {l : Addr} {f : Value} {xs : Array Value} {Q : Value → Shared → Prop} (hl : s.heap.IsList l xs)
    (h : ∀ h', IsMap h' (s.heap.objs.size + 2) (s.heap.objs.size + 1) f → IsOne h' (s.heap.objs.size + 1) (.ref s.heap.objs.size) → h'.IsListIter s.heap.objs.size l 0 → h'.objs.size = s.heap.objs.size + 3 →
      Kp s.heap h' → Q (.ref (s.heap.objs.size + 2)) { s with heap := h' }) :
    wpAny (model prog w) A (call (.type "map") [f, .ref l]) Q E s := by
  refine callType_new called_map (by decide) (typeCall_map_2 _ _) (newCall_map_2 _ _) (fun obj => F.args_object_init_3 obj _ _) entry_map_new
    (meets_map_new l f xs) ⟨hl, ?_⟩
  have z1 : (mapH1 s.heap l).objs.size = s.heap.objs.size + 1 := Heap.size_push ..
  have z2 : (mapH2 s.heap l).objs.size = s.heap.objs.size + 2 := by rw [Heap.size_push, z1]
  have z3 : (mapH3 s.heap l f).objs.size = s.heap.objs.size + 3 := by rw [Heap.size_push, z2]
  have g3 : (mapH3 s.heap l f).get? (mapH2 s.heap l).objs.size = some _ := Heap.get?_push_size _ rfl
  have g2 : (mapH3 s.heap l f).get? (mapH1 s.heap l).objs.size = some _ := Heap.get?_push_of_some _ (Heap.get?_push_size _ rfl)
  have g1 : (mapH3 s.heap l f).get? s.heap.objs.size = some _ := Heap.get?_push_of_some _ (Heap.get?_push_of_some _ (Heap.get?_push_size _ rfl))
  show _ ∧ _
  rw [z1, z2] at g3
  rw [z1] at g2
  rw [z2]
  exact ⟨⟨_, g3, rfl⟩, h _ g3 g2 ⟨_, g1, rfl, rfl⟩ z3 fun c o x => Heap.get?_push_of_some _ (Heap.get?_push_of_some _ (Heap.get?_push_of_some _ x))⟩

theorem map_next_item {M T it l : Addr} {f : Value} {k : Nat} {xs : Array Value} {x : Value} {Q : Value → Shared → Prop} (hM : IsMap s.heap M T f) (hT : IsOne s.heap T (.ref it)) (h1 : s.heap.IsListIter it l k) (hl : s.heap.IsList l xs) (hx : xs[k]? = some x) (hne : M ≠ it)
    (hc : ∀ h', h'.IsListIter it l (k + 1) → Heap.SameBut it s.heap h' → wpAny (model prog w) A (call f [x]) Q E { s with heap := h' }) :
    wpAny (model prog w) A (Builtin.«map.__next__» ⟨[.ref M], []⟩) (fun fin s' => ∃ v, fin = .done (.ret v) ∧ Q v s') E s := by
  show wpAny _ _ (field (.ref M) 0 >>= _) _ _ _
  refine wpAny_bind (wpAny_field hM rfl (x := .ref T) rfl ?_)
  refine wpAny_bind (wpAny_seqItems hT rfl ?_)
  dsimp only
  rw [← Array.forIn_toList]
  simp only [List.forIn_cons, List.forIn_nil]
  refine wpAny_bind (wpAny_bind (wpAny_bind (wpAny_holding (wpAny_nextOf_list_item h1 hl hx fun h2 h12 hs2 => ?_))))
  refine wpAny_pure (wpAny_pure ?_)
  have hM2 : IsMap h2 M T f := (hs2.2 M hne).trans hM
  refine wpAny_bind (wpAny_field hM2 rfl (x := f) rfl ?_)
  refine wpAny_bind (wpAny_holding (wpAny_mono (hc h2 h12 hs2) (fun v s' hq => ?_) fun _ _ e => e))
  exact wpAny_bind (wpAny_letGo (wpAny_pure ⟨_, rfl, hq⟩))

theorem map_next_end {M T it l : Addr} {f : Value} {k : Nat} {xs : Array Value} {Q : Fin → Shared → Prop} (hh : A.handled = none) (hM : IsMap s.heap M T f) (hT : IsOne s.heap T (.ref it)) (h1 : s.heap.IsListIter it l k) (hl : s.heap.IsList l xs) (hx : xs[k]? = none)
    (hE : ∀ h' e, Heap.ExtBut it s.heap h' → (∃ o, h'.get? e = some o ∧ o.cls = .type "StopIteration") → E (.ref e) { s with heap := h' }) :
    wpAny (model prog w) A (Builtin.«map.__next__» ⟨[.ref M], []⟩) Q E s := by
  show wpAny _ _ (field (.ref M) 0 >>= _) _ _ _
  refine wpAny_bind (wpAny_field hM rfl (x := .ref T) rfl ?_)
  refine wpAny_bind (wpAny_seqItems hT rfl ?_)
  dsimp only
  rw [← Array.forIn_toList]
  simp only [List.forIn_cons, List.forIn_nil]
  exact wpAny_bind (wpAny_bind (wpAny_bind (wpAny_holding (wpAny_nextOf_list_end hh h1 hl hx hE))))

theorem pyNext_map_item {M T it l : Addr} {f : Value} {k : Nat} {xs : Array Value} {x : Value} {Q : Option Value → Shared → Prop} (hM : IsMap s.heap M T f) (hT : IsOne s.heap T (.ref it)) (h1 : s.heap.IsListIter it l k) (hl : s.heap.IsList l xs) (hx : xs[k]? = some x) (hne : M ≠ it)
    (hc : ∀ h' E', h'.IsListIter it l (k + 1) → Heap.SameBut it s.heap h' → wpAny (model prog w) A.in1 (call f [x]) (fun v => Q (some v)) E' { s with heap := h' }) :
    wpAny (model prog w) A (pyNext (.ref M)) Q E s := by
  have hTy : s.TypeIs (.ref M) "map" := ⟨_, hM, rfl⟩
  unfold pyNext
  exact wpAny_bind (wpAny_attempt (wpAny_callSpecial?_slot (name := Str.ofString "__next__") hTy slot_map_next
    (wpAny_call_entry slot_map_next hTy entry_map_next
      (map_next_item hM hT h1 hl hx hne fun h' a1 a2 => wpAny_mono (hc h' _ a1 a2) (fun v s' hq => wpAny_pure hq) fun _ _ e => e) (args_map_next_1 _))))

theorem pyNext_map_end {M T it l : Addr} {f : Value} {k : Nat} {xs : Array Value} {Q : Option Value → Shared → Prop} (hh : A.handled = none) (hM : IsMap s.heap M T f) (hT : IsOne s.heap T (.ref it)) (h1 : s.heap.IsListIter it l k) (hl : s.heap.IsList l xs) (hx : xs[k]? = none)
    (hQ : ∀ h', Heap.ExtBut it s.heap h' → Q none { s with heap := h' }) : wpAny (model prog w) A (pyNext (.ref M)) Q E s := by
  have hTy : s.TypeIs (.ref M) "map" := ⟨_, hM, rfl⟩
  unfold pyNext
  refine wpAny_bind (wpAny_attempt (wpAny_callSpecial?_slot (name := Str.ofString "__next__") hTy slot_map_next
    (wpAny_call_entry slot_map_next hTy entry_map_next (map_next_end hh hM hT h1 hl hx fun h' e hk he => ?_) (args_map_next_1 _))))
  obtain ⟨o, ho, hc⟩ := he
  refine wpAny_bind (wpAny_isInstance (T := "StopIteration") (b := true) ⟨o, ho, hc⟩ isSubtype_stop ?_)
  exact wpAny_pure (hQ _ hk)

theorem pyIter_map {M T : Addr} {f : Value} {Q : Value → Shared → Prop} (hM : IsMap s.heap M T f) (h : Q (.ref M) s) : wpAny (model prog w) A (pyIter (.ref M)) Q E s := by
  have hTy : s.TypeIs (.ref M) "map" := ⟨_, hM, rfl⟩
  refine wpAny_pyIter_slot hTy slot_map_iter (wpAny_call_entry slot_map_iter hTy entry_map_iter ?_ (args_map_iter_1 _))
  show wpAny _ _ (ret (.ref M)) _ _ s
  exact wpAny_pure ⟨_, rfl, "map", _, hTy, slot_map_next.lookup, h⟩
end
/-- a map object that is walked, its base below N -/
structure WK (prog : Program) (w : World) (A : Around) (I : Addr) (N n : Nat) (P : Nat → Value → Prop) (St : Nat → Shared → Prop) (Fi : Shared → Prop) : Prop where
  ty : ∀ i s, St i s → s.TypeIs (.ref I) "map"
  frame : ∀ i (s : Shared) h' tk, St i s → s.toks ≤ tk → (∀ b o, b < N → s.heap.get? b = some o → h'.get? b = some o) → St i { s with heap := h', toks := tk }
  fin : ∀ (s : Shared) h' tk, Fi s → s.toks ≤ tk → (∀ b o, b < N → s.heap.get? b = some o → h'.get? b = some o) → Fi { s with heap := h', toks := tk }
  item : ∀ i (s : Shared) (Q : Option Value → Shared → Prop) (E : Value → Shared → Prop), i < n → St i s →
    (∀ v s', P i v → St (i + 1) s' → (∀ b o, N ≤ b → s.heap.get? b = some o → s'.heap.get? b = some o) → Q (some v) s') → wpAny (model prog w) A (pyNext (.ref I)) Q E s
  done : ∀ (s : Shared) (Q : Option Value → Shared → Prop) (E : Value → Shared → Prop), St n s → (∀ s', Fi s' → (∀ b o, N ≤ b → s.heap.get? b = some o → s'.heap.get? b = some o) → Q none s') → wpAny (model prog w) A (pyNext (.ref I)) Q E s
  self : ∀ i (s : Shared) (Q : Value → Shared → Prop) (E : Value → Shared → Prop), St i s → Q (.ref I) s → wpAny (model prog w) A (pyIter (.ref I)) Q E s
  low : I < N

section
variable {prog : Program} {w : World} {A : Around} {R : Result → Shared → Prop} {I N n : Nat} {P : Nat → Value → Prop} {St : Nat → Shared → Prop} {Fi : Shared → Prop}

theorem extend_loopK (W : WK prog w A.in1 I N n P St Fi) (hn : n ≤ sizeLine) (S : Addr) (hSf : N ≤ S) (res : Value) :
    ∀ (k i : Nat) (s : Shared) (acc : Array Value) (c : Nat), n - i = k → i ≤ n → St i s → s.heap.get? S = some { cls := .type "list", dict := none, data := .seq acc c, slots := #[] } → ItemsOf P acc i →
    (∀ s' acc' c', Fi s' → s'.heap.get? S = some { cls := .type "list", dict := none, data := .seq acc' c', slots := #[] } → ItemsOf P acc' n → R (.ok (.ret res)) s') →
    codeAny (model prog w) A (.builtin "list.extend.loop" ⟨[.ref S, .ref I, res], []⟩) R s := by
  intro k
  induction k with
  | zero =>
    intro i s acc c hk hi hst hS hacc hR
    have hin : i = n := by omega
    subst hin
    refine codeAny_builtin F.entry_extend_loop ?_
    rw [Around.under_plainId F.plain_extend_loop _]
    show wpAny _ A.in1 (pyNext (.ref I) >>= _) _ _ s
    refine wpAny_bind (W.done s _ _ hst fun s' hf hk' => ?_)
    exact wpAny_pure (hR s' acc c hf (hk' S _ hSf hS) hacc)
  | succ k ih =>
    intro i s acc c hk hi hst hS hacc hR
    have hlt : i < n := by omega
    refine codeAny_builtin F.entry_extend_loop ?_
    rw [Around.under_plainId F.plain_extend_loop _]
    show wpAny _ A.in1 (pyNext (.ref I) >>= _) _ _ s
    refine wpAny_bind (W.item i s _ _ hlt hst fun v s' hP hst' hk' => ?_)
    have hS' := hk' S _ hSf hS
    show wpAny _ A.in1 (updateSeq S (·.push v) >>= _) _ _ _
    refine wpAny_bind ?_
    refine wpAny_updateSeq hS' rfl (wpAny_pure ⟨plainId_quiet F.plain_extend_loop _, ih (i + 1) _ (acc.push v) _ (by omega) hlt (W.frame _ s' _ s'.toks hst' (Nat.le_refl _) fun b o hb e => ?_) (Heap.get?_update_self _ hS' rfl) (hacc.push hP) hR⟩)
      (by rw [hacc.1]; omega) (by show (acc.push v).size ≤ sizeLine + 1; rw [Array.size_push, hacc.1]; omega)
    exact (Heap.get?_update_other _ _ (fun h : S = b => absurd (h.symm ▸ hb : S < N) (Nat.not_lt.mpr hSf))).trans e
end

section
variable {prog : Program} {w : World} {A : Around} {E : Value → Shared → Prop} {s : Shared} {I N n : Nat} {P : Nat → Value → Prop} {St : Nat → Shared → Prop} {Fi : Shared → Prop}

theorem collect_map {Q : List Value → Shared → Prop} (W : WK prog w A.in1 I N n P St Fi) (hst : St 0 s) (hN : N ≤ s.heap.objs.size)
    (hQ : ∀ s' acc, Fi s' → ItemsOf P acc n → Q acc.toList s') (hn : n ≤ sizeLine := by size_fits) : wpAny (model prog w) A (collect (.ref I)) Q E s := by
  have hSI : s.heap.objs.size ≠ I := fun e => Nat.lt_irrefl N (Nat.lt_of_le_of_lt hN (e ▸ W.low))
  unfold collect
  refine wpAny_bind (wpAny_runValue (codeAny_builtin F.entry_proto_collect ?_))
  rw [Around.under_plainId F.plain_proto_collect _]
  show wpAny _ A.in1 (newList [] >>= fun l => again (.builtin "list.__iadd__" ⟨[l, .ref I], []⟩)) _ _ s
  refine wpAny_bind (wpAny_newObj_type ?_)
  refine wpAny_pure ⟨plainId_quiet F.plain_list_iadd _, codeAny_builtin F.entry_list_iadd ?_⟩
  rw [Around.under_plainId F.plain_list_iadd _]
  have hst₁ := W.frame 0 s (s.heap.push { cls := .type "list", data := .seq ([] : List Value).toArray }) s.toks hst (Nat.le_refl _) fun b o _ e => Heap.get?_push_of_some _ e
  show wpAny _ A.in1 (Builtin.List.listExtendWith (.ref s.heap.objs.size) (.ref I) (.ref s.heap.objs.size)) _ _ _
  unfold Builtin.List.listExtendWith
  refine wpAny_bind (wpAny_typeOf (W.ty 0 _ hst₁) ?_)
  have h1 : Builtin.List.listSameRef (.ref s.heap.objs.size) (.ref I) = false := by simp [Builtin.List.listSameRef, hSI]
  have h2 : (Value.type "map" == Value.type "list") = false := by decide
  have h3 : (Value.type "map" == Value.type "tuple") = false := by decide
  simp only [h1, h2, h3, Bool.or_false, Bool.false_eq_true, if_false]
  refine wpAny_bind (W.self 0 _ _ _ hst₁ ?_)
  refine wpAny_bind (wpAny_holding ?_)
  unfold Builtin.List.listLengthHint
  refine wpAny_bind (wpAny_specialOf (W.ty 0 _ hst₁) map_no_len ?_)
  show wpAny _ A.in1 (specialOf (Value.ref I) (Str.ofString "__length_hint__") >>= _) _ _ _
  refine wpAny_bind (wpAny_specialOf (W.ty 0 _ hst₁) map_no_hint ?_)
  refine wpAny_pure ?_
  show wpAny _ A.in1 (rule "list.extend.makes-room" >>= fun _ => Builtin.List.listTouch (.ref s.heap.objs.size) >>= fun _ =>
    again (.builtin "list.extend.loop" ⟨[.ref s.heap.objs.size, .ref I, .ref s.heap.objs.size], []⟩)) _ _ _
  refine wpAny_bind (wpAny_rule ?_)
  have hS₁ : (s.heap.push { cls := .type "list", data := .seq ([] : List Value).toArray }).get? s.heap.objs.size = some { cls := .type "list", data := .seq ([] : List Value).toArray } := Heap.get?_push_size _ rfl
  refine wpAny_bind ?_
  show wpAny _ A.in1 (updateSeq s.heap.objs.size (·.push .none) >>= fun _ => updateSeq s.heap.objs.size (·.pop)) _ _ _
  refine wpAny_bind (wpAny_updateSeq hS₁ rfl ?_)
  have hS₂ := Heap.get?_update_self (Obj.mapSeq (·.push Value.none)) hS₁ rfl
  refine wpAny_updateSeq hS₂ rfl ?_
  have hS₃ := Heap.get?_update_self (Obj.mapSeq (·.pop)) hS₂ rfl
  have oth : ∀ b o, b ≠ s.heap.objs.size → (s.heap.push { cls := .type "list", data := .seq ([] : List Value).toArray }).get? b = some o →
      (((s.heap.push { cls := .type "list", data := .seq ([] : List Value).toArray }).update s.heap.objs.size (Obj.mapSeq (·.push Value.none))).update s.heap.objs.size (Obj.mapSeq (·.pop))).get? b = some o :=
    fun b o hb e => (Heap.get?_update_other _ _ (Ne.symm hb)).trans ((Heap.get?_update_other _ _ (Ne.symm hb)).trans e)
  refine wpAny_pure ⟨plainId_quiet F.plain_extend_loop _, extend_loopK W hn _ hN _ n 0 _ _ _ rfl (Nat.zero_le _)
    (W.frame 0 ({ s with heap := s.heap.push { cls := .type "list", data := .seq ([] : List Value).toArray } } : Shared) _ s.toks hst₁ (Nat.le_refl _) fun b o hb e => oth b o (fun h => absurd (h ▸ hb) (Nat.not_lt.mpr hN)) e) hS₃ (ItemsOf.nil P) fun s' acc' c' hm hS' hacc => ?_⟩
  show wpAny _ A (load s.heap.objs.size >>= _) _ _ s'
  refine wpAny_bind (wpAny_load hS' ?_)
  exact wpAny_pure (hQ s' acc' hm hacc)

theorem tuple_new_map {Q₁ : Value → Shared → Prop} (W : WK prog w A.in1.in1 I N n P St Fi) (hst : St 0 s) (hN : N ≤ s.heap.objs.size)
    (h : ∀ s' acc, Fi s' → ItemsOf P acc n → Q₁ (.ref s'.heap.objs.size) { s' with heap := s'.heap.push { cls := .type "tuple", data := .seq acc } }) (hsz : n ≤ sizeLine := by size_fits) :
    codeAny (model prog w) A (.call (.builtin "tuple.__new__") ⟨[.type "tuple", .ref I], []⟩) (wants Q₁ E) s := by
  refine codeAny_of_tree ?_
  show wpAny _ A.in1 (do checkBuiltinCall "tuple.__new__" ⟨[.type "tuple", .ref I], []⟩; again (.builtin "tuple.__new__" ⟨[.type "tuple", .ref I], []⟩)) _ _ s
  refine wpAny_bind (wpAny_of_eq (F.newCall_tuple_1 _) (wpAny_pure ⟨plainId_quiet F.plain_tuple_new _, codeAny_builtin F.entry_tuple_new ?_⟩))
  rw [Around.under_plainId F.plain_tuple_new _]
  have hsub := sub_tuple_self
  have hinit := init_tuple_lookup
  have hmh := madeHere_tuple
  have hTI := W.ty 0 s hst
  wp_walk using wpAny_typeOf hTI, collect_map (hn := hsz) W hst hN
  intro s' acc hm hacc
  show wpAny _ _ (Builtin.Tuple.tupleExact acc.toList.toArray >>= fun v => ret v) _ _ _
  unfold Builtin.Tuple.tupleExact
  refine wpAny_bind (wpAny_newObj_type ?_ (by show acc.toList.toArray.size ≤ sizeLine; simp only [Array.toArray_toList]; rw [hacc.1]; exact hsz))
  refine wpAny_pure ?_
  have e : acc.toList.toArray = acc := by simp
  rw [e]
  exact h s' acc hm hacc

theorem call_tuple_map {Q : Value → Shared → Prop} (W : WK prog w A.in1.in1.in1 I N n P St Fi) (hst : St 0 s) (hN : N ≤ s.heap.objs.size)
    (hQ : ∀ s' acc, Fi s' → ItemsOf P acc n → Q (.ref s'.heap.objs.size) { s' with heap := s'.heap.push { cls := .type "tuple", data := .seq acc } }) (hsz : n ≤ sizeLine := by size_fits) :
    wpAny (model prog w) A (call (.type "tuple") [.ref I]) Q E s := by
  refine callType_codes (Q₁ := fun obj s₁ => s₁.TypeIs obj "tuple" ∧ Q obj s₁) F.called_tuple (F.typeCall_tuple_1 _) F.entry_object_init
    (tuple_new_map (hsz := hsz) W hst hN fun s' acc hm hacc => ⟨⟨_, Heap.get?_push_size _ rfl, rfl⟩, hQ s' acc hm hacc⟩) fun obj s₁ h₁ => ?_
  exact ⟨h₁.1, F.args_object_init_2 obj _, object_init_meets F.called_tuple.init.lookup F.called_tuple.made (by decide) prog w A.in1 _ s₁ ⟨h₁.1, rfl, h₁.2⟩⟩
end
theorem Reps.of {B : Addr → Prop} {h : Heap} : ∀ (l : List D) (vs : List Value), vs.length = l.length → (∀ (i : Nat) d v, l[i]? = some d → vs[i]? = some v → Rep B h d v) → Reps B h l vs
  | [], vs, e, _ => by simp only [Reps]; exact List.eq_nil_of_length_eq_zero e
  | d :: l, [], e, _ => by simp at e
  | d :: l, v :: vs, e, hh => by
    simp only [Reps]
    exact ⟨v, vs, rfl, hh 0 d v rfl rfl, Reps.of l vs (by simpa using e) fun i d v a b => hh (i + 1) d v (by simpa using a) (by simpa using b)⟩

section
variable {X : Cx} {Γ : Gam}

/-- the name of an own def, as data -/
theorem Ev.defn {f : PySem.Str} {p : Pos} {i : Nat} {a : Addr} (hi : X.env.scope.names[i]? = some (f, .globalImplicit)) (ha : X.G.mg f = some (.ref a))
    (hd : (f == ("__debug__" : PySem.Str)) = false) : Ev X Γ (.Name f p) (.raw a) := fun A s ad Q E hr g hq =>
  Name_function_global g.kind (g.names i _ _ hi) (loadGlobal_global (mg := X.G.mg) (by rw [g.glob]; exact g.gk.g) ha (hq _ s (Step.refl s) (by simp only [Rep]))) hd

theorem Room.in1 {k : Nat} {A : Around} (r : Room (k + 1) A) : Room k A.in1.in1.in1.in1 := ⟨r.1, by have := r.2.1; show A.depth + k < _; omega, by have := r.2.2; show A.units + 1 + 1 + 1 + 1 + 4 * k + 40 < _; omega⟩

/-- a map of an own def over a list of texts, that gives each text itself -/
theorem WK.map {A : Around} {s1 s2 : Shared} {G : Gl} {f : PySem.Str} {fa l : Addr} {xs : List (List Nat)} {vs : List Value} {B : Addr → Prop} {h' : Heap}
    (hr : Room 1 A.in1) (gk : GOk G s1.heap) (hp : 0 < s1.toks) (hf : G.mg f = some (.ref fa)) (hsp : ∀ x ∈ xs, Spec G f 1 [.str x] (.str x)) (hl : s1.heap.IsList l vs.toArray) (rs : Reps B s1.heap (xs.map .str) vs) :
    WK G.prog G.w A (s1.heap.objs.size + 2) (s1.heap.objs.size + 3) xs.length (fun i v => ∃ x, xs[i]? = some x ∧ ∃ t, v = .str (S x) t ∧ x.length ≤ 1048576)
      (fun i s => Step s1 s ∧ IsMap s.heap (s1.heap.objs.size + 2) (s1.heap.objs.size + 1) (.ref fa) ∧ IsOne s.heap (s1.heap.objs.size + 1) (.ref s1.heap.objs.size) ∧ s.heap.IsListIter s1.heap.objs.size l i) (fun s => Step s1 s) where
  ty := fun i s h => ⟨_, h.2.1, rfl⟩
  frame := fun i s h' tk h ht hk => by
    obtain ⟨st, h1, h2, h3⟩ := h
    obtain ⟨hh, tk', rfl, kp, hle⟩ := st
    refine ⟨⟨h', tk, rfl, fun b o e => hk b o (Nat.lt_of_lt_of_le (Heap.lt_size e) (Nat.le_add_right _ _)) (kp b o e), Nat.le_trans hle ht⟩, hk _ _ (by omega) h1, hk _ _ (by omega) h2, ?_⟩
    exact h3.at fun o e => hk _ o (by omega) e
  fin := fun s h' tk h ht hk => by
    obtain ⟨hh, tk', rfl, kp, hle⟩ := h
    exact ⟨h', tk, rfl, fun b o e => hk b o (Nat.lt_of_lt_of_le (Heap.lt_size e) (Nat.le_add_right _ _)) (kp b o e), Nat.le_trans hle ht⟩
  item := fun i s Q E hi h hq => by
    obtain ⟨st, h1, h2, h3⟩ := h
    have hlt : i < vs.length := by have := Reps.length _ _ rs; rw [List.length_map] at this; omega
    have hv : vs.toArray[i]? = some vs[i] := by simp [hlt]
    obtain ⟨d, e1, e2⟩ := Reps.get' _ _ i vs[i] rs (by simp [hlt])
    rw [List.getElem?_map] at e1
    obtain ⟨x, hx, rfl⟩ := Option.map_eq_some_iff.mp e1
    simp only [Rep] at e2
    obtain ⟨t, e3, hxl⟩ := e2
    have hl1 : s.heap.IsList l vs.toArray := hl.at fun o e => st.kp _ _ e
    have ne2 : (s1.heap.objs.size + 2 : Nat) ≠ s1.heap.objs.size := by omega
    have ne1 : (s1.heap.objs.size + 1 : Nat) ≠ s1.heap.objs.size := by omega
    refine pyNext_map_item h1 h2 h3 hl1 hv ne2 fun h2' E' hi2 hsb => ?_
    have hit : s1.heap.get? s1.heap.objs.size = none := none_of (Nat.le_refl _)
    have kp2 : Kp s1.heap h2' := fun b o e => (hsb.2 b (fun q => by rw [q, hit] at e; cases e)).trans (st.kp _ _ e)
    have hsp1 := hsp x (List.mem_of_getElem? hx)
    obtain ⟨hh, tk', rfl, kp, hle⟩ := st
    refine hsp1.2 A.in1 _ (fun _ => False) _ _ [vs[i]] fa hr (gk.up kp2) (Nat.lt_of_lt_of_le hp hle) hf (fun _ h => h.elim) (by simp only [Reps, Rep]; exact ⟨_, [], rfl, ⟨t, e3, hxl⟩, rfl⟩) fun v s3 st3 r3 => ?_
    simp only [Rep] at r3
    obtain ⟨t3, rfl, _⟩ := r3
    have hge : ∀ b : Nat, s1.heap.objs.size + 3 ≤ b → b ≠ s1.heap.objs.size := fun b hb => by omega
    refine hq _ s3 ⟨x, hx, t3, rfl, hxl⟩ ⟨Step.trans (b := { s1 with heap := h2', toks := tk' }) ⟨h2', tk', rfl, kp2, hle⟩ st3, st3.kp _ _ ((hsb.2 _ ne2).trans h1), st3.kp _ _ ((hsb.2 _ ne1).trans h2), hi2.at fun o e => st3.kp _ o e⟩ fun b o hb e => st3.kp _ _ ((hsb.2 b (hge b hb)).trans e)
  done := fun s Q E h hq => by
    obtain ⟨st, h1, h2, h3⟩ := h
    have el := Reps.length _ _ rs
    rw [List.length_map] at el
    have hl1 : s.heap.IsList l vs.toArray := hl.at fun o e => st.kp _ _ e
    refine wp_toks (pyNext_map_end hr.1 h1 h2 h3 hl1 (by simp [el]) fun h2' hx htk => ?_)
    have hit : s1.heap.get? s1.heap.objs.size = none := none_of (Nat.le_refl _)
    obtain ⟨hh, tk', rfl, kp, hle⟩ := st
    have hge : ∀ b : Nat, s1.heap.objs.size + 3 ≤ b → b ≠ s1.heap.objs.size := fun b hb => by omega
    exact hq _ ⟨h2', tk', rfl, fun b o e => hx b o (fun q => by rw [q, hit] at e; cases e) (kp _ _ e), hle⟩ fun b o hb e => hx b o (hge b hb) e
  self := fun i s Q E h hq => pyIter_map h.2.1 hq
  low := Nat.lt_succ_self _

/-- tuple(map(f, e)) for a def f that gives each text itself -/
theorem Ev.tupMap {p p2 p3 pos pos2 : Pos} {f : PySem.Str} {e : PySem.Expr} {i j m : Nat} {k : Nat} {xs : List (List Nat)} (hk : X.k = k + 3) (hi : X.env.scope.names[i]? = some (("tuple" : PySem.Str), .globalImplicit)) (hj : X.env.scope.names[j]? = some (("map" : PySem.Str), .globalImplicit)) (hm : X.env.scope.names[m]? = some (f, .globalImplicit))
    (hsp : ∀ x, Spec X.G f 1 [.str x] (.str x)) (h : Ev X Γ e (.lst (xs.map .str))) (hd : (f == ("__debug__" : PySem.Str)) = false)
    (he : nst (.Name f p3) = true := by rfl) (he2 : nst e = true := by rfl) (hp : List.all [e] nst = true := by rfl)
    (he3 : nst (.Call (.Name "map" p2) [.Name f p3, e] [] pos2) = true := by rfl) :
    Ev X Γ (.Call (.Name "tuple" p) [.Call (.Name "map" p2) [.Name f p3, e] [] pos2] [] pos) (.tup (xs.map .str)) := fun A s ad Q E hr g hq => by
  obtain ⟨df, hdf, rfl⟩ := (hsp []).1
  obtain ⟨fa, fd, o, hfa, _⟩ := g.gk.defs df hdf
  refine Call_ (bi_name g hi (by decide +kernel) PyProof.Rows.Boot.«tuple» (by decide) (PyProof.Rows.callWith_type1 (spliced_more (callT_wp hj (by decide +kernel) PyProof.Rows.Boot.«map» (by decide) (EvL.cons (Ev.defn hm hfa hd) (EvL.cons h EvL.nil he2) he) hr g (fun vs0 s1 st r => ?_) he hp) (star_cons he3)) (star_cons he3) rfl)) call_name
  obtain ⟨v, u, rfl, r1, r2⟩ := reps2 r
  simp only [Rep] at r1 r2
  subst r1
  obtain ⟨l, vs, rfl, hb, hl, rs, hz⟩ := r2
  have g1 := g.up st
  refine call_map_2 hl fun h' hM hT hI hsz hkp => args_nil ?_
  rw [List.length_map] at hz
  have hrr : Room 1 A.in1.in1.in1.in1 := ⟨hr.1, by have := hr.2.1; show A.depth + 1 < _; omega, by have := hr.2.2; show A.units + 1 + 1 + 1 + 1 + 4 * 1 + 40 < _; omega⟩
  refine call_tuple_map (s := { s1 with heap := h' }) (WK.map (A := A.in1.in1.in1) (s2 := s1) (h' := h') hrr g1.gk g1.pos hfa (fun x _ => hsp x) hl rs) ⟨step_h hkp, hM, hT, hI⟩ (by show _ ≤ h'.objs.size; omega) (fun s' acc hst hacc => ?_) (by rw [sizeLine_eq]; omega)
  refine hq _ _ (st.trans (hst.trans (step_h (s := s') (h' := s'.heap.push { cls := .type "tuple", data := .seq acc }) kp_push))) ?_
  simp only [Rep]
  have g2 := g1.up hst
  refine ⟨_, acc.toList, rfl, g2.fresh _ (Nat.le_refl _), ⟨_, Heap.get?_push_size _ rfl, rfl, 0, by simp⟩, Reps.of _ _ ?_ fun i d v h1 h2 => ?_, by rw [List.length_map]; exact hz⟩
  · rw [Array.length_toList, hacc.1, List.length_map]
  · obtain ⟨x, hx, t, rfl, hxl⟩ := hacc.2 i v (by simpa using h2)
    rw [List.getElem?_map, hx] at h1
    cases h1
    simp only [Rep]
    exact ⟨t, rfl, hxl⟩
end
noncomputable def set0 (c : Bool) : Obj := { cls := .type "set", dict := none, data := .set #[] 0 (.fresh 0 0 (!c)), slots := #[] }
noncomputable def tab1 (c : Bool) : SetTable := { mask := 7, place := #[1], dummies := #[], finger := 0, led := !c, moves := 0, plain := true }
noncomputable def set1 (c : Bool) : Obj := { cls := .type "set", dict := none, data := .set #[(1, .bool true)] 1 (tab1 c), slots := #[] }
/-- whether the order of sets goes by the world's text -/
noncomputable def byT (w : World) : Bool := w.params.followText "set-order"

theorem owner_setit : Manifest.owners.lookup (String.ofList ['r', 'o', 't', 'a', 'r', 'e', 't', 'i', '_', 't', 'e', 's'].reverse) = some Manifest.sig_set_iterator := by kernel_rfl
theorem slot_setit_next : Slot "set_iterator" "__next__" "set_iterator.__next__" :=
  .of (owner := "set_iterator") (n := "__next__") (by rw [typeLookup_type, builtinLookup_eq_fast]; kernel_rfl) (by decide +kernel) (by decide +kernel) (by decide +kernel)
    (by first | exact .inl (by decide +kernel) | exact .inr (by decide +kernel)) (by rw [isSubtype_type]; kernel_rfl)
theorem entry_setit_next : entryFor table "set_iterator.__next__" = some Builtin.«set_iterator.__next__» := entryFor_of_tree (by kernel_rfl)
theorem args_setit_next_1 (a : Value) : argsOk "set_iterator.__next__" ⟨[a], []⟩ := by
  unfold argsOk; rw [signature?_of (id := "set_iterator.__next__") (n := ['_', '_', 't', 'x', 'e', 'n', '_', '_']) (o := ['r', 'o', 't', 'a', 'r', 'e', 't', 'i', '_', 't', 'e', 's']) (by kernel_rfl) owner_setit]; kernel_rfl
theorem entry_set_iter : entryFor table "set.__iter__" = some Builtin.«frozenset.__iter__» :=
  entryFor_alias (id' := "frozenset.__iter__") (by kernel_rfl) (by first | rfl | decide +kernel | (unfold String.splitOn; simp +decide [String.splitOnAux])) (by decide +kernel) (by kernel_rfl)

noncomputable abbrev IsSetIt (h : Heap) (I P : Addr) (slot i : Int) : Prop := h.get? I = some { cls := .type "set_iterator", dict := none, data := .fields #[rawInt slot, rawInt i, .ref P, rawInt 1, rawInt 1], slots := #[] }

section
variable {prog : Program} {w : World} {A : Around} {E : Value → Shared → Prop} {s : Shared}

theorem pyHash_true {Q : Int → Shared → Prop} (h : ∀ tk, s.toks ≤ tk → Q 1 { s with toks := tk }) : wpAny (model prog w) A (pyHash (.bool true)) Q E s := by
  have hv : [Value.bool true].any Value.onHeap = false := rfl
  show wpAny _ _ (pyHashByItsType (.bool true)) _ _ _
  unfold pyHashByItsType
  refine wpAny_bind ?_
  rw [cRoomFor, if_neg (by rw [hv]; exact Bool.false_ne_true)]; refine wpAny_pure ?_
  refine wpAny_bind (wpAny_specialOf (PySem.typeIs_bool s true) F.slot_bool_hash.lookup ?_)
  show wpAny _ _ (if (some (Value.builtin "int.__hash__") == some Value.none) = true then _ else _) Q E s
  rw [if_neg (by rw [beq_builtin_none]; exact Bool.false_ne_true)]
  refine wpAny_bind (wpAny_specialOf (PySem.typeIs_bool s true) F.slot_bool_hash.lookup ?_)
  show wpAny _ _ (callSpecialIfBoundUnlessNone? (.bool true) "__hash__" _ >>= _) Q E s
  refine wpAny_bind (wpAny_callSpecialIfBoundUnlessNone?_slot (PySem.typeIs_bool s true) F.slot_bool_hash
    (wpAny_call_entry F.slot_bool_hash (PySem.typeIs_bool s true) F.entry_int_hash
      (show wpAny _ _ (do ret (← mkInt 1)) _ _ s from wpAny_ret_mkInt ?_) (F.args_int_hash_1 _)))
  show wpAny _ _ (if (decide (-(2 : Int) ^ 63 ≤ 1) && decide ((1 : Int) < 2 ^ 63)) = true then _ else _) Q E _
  rw [if_pos (by decide)]
  exact wpAny_pure (h _ (Nat.le_succ _))

theorem newSet_c {Q : Value → Shared → Prop} (h : Q (.ref s.heap.objs.size) { s with heap := s.heap.push (set0 (byT w)) }) : wpAny (model prog w) A (newSet (.type "set")) Q E s := by
  unfold newSet setsByText
  refine wpAny_bind (wpAny_bind (wpAny_askSetting (wpAny_pure ?_)))
  dsimp only
  simp only [newObj]
  exact wpAny_bind (wpAny_alloc (wpAny_pure h))

theorem setState_c {a : Addr} {o : Obj} {es : Array (Int × Value)} {ep : Nat} {t : SetTable} {Q : (Array (Int × Value) × Nat × SetTable) → Shared → Prop}
    (ho : s.heap.get? a = some o) (hd : o.data = .set es ep t) (hf : t.fits es.size = true) (h : Q (es, ep, t) s) :
    wpAny (model prog w) A (setState a) Q E s := wpAny_setState_of ho hd hf h

theorem add_true {P : Addr} {b : Bool} {Q : Value → Shared → Prop} (hP : s.heap.get? P = some (if b then set1 (byT w) else set0 (byT w)))
    (h : ∀ h' tk, s.toks ≤ tk → h'.get? P = some (set1 (byT w)) → Heap.SameBut P s.heap h' → Q .none { s with heap := h', toks := tk }) :
    wpAny (model prog w) A (call (.builtin "set.add") [.ref P, .bool true]) Q E s := by
  have hT : s.TypeIs (.ref P) "set" := by cases b <;> exact ⟨_, hP, rfl⟩
  refine wpAny_call_entry F.slot_set_add hT F.entry_set_add ?_ (F.args_set_add_2 _ _)
  unfold Builtin.«set.add» Builtin.Frozenset.oneOther
  simp only [List.isEmpty_nil, bind_assoc]
  unfold Builtin.Frozenset.addrOf setAdd
  refine wpAny_bind (wpAny_pure ?_)
  try dsimp only
  refine wpAny_bind (wpAny_pure ?_)
  try dsimp only
  refine wpAny_bind ?_
  refine wpAny_holding ?_
  refine wpAny_bind (pyHash_true fun tk htk => ?_)
  unfold setAddHashed setAddHashedIn
  cases b with
  | false =>
    have hP0 : s.heap.get? P = some (set0 (byT w)) := hP
    refine wpAny_holding (wpAny_bind (setState_c (s := { s with toks := tk }) hP0 rfl (by cases byT w <;> rfl) ?_))
    dsimp only
    rw [if_pos (by decide +kernel)]
    unfold setAddByScan
    refine wpAny_bind (wpAny_bind (wpAny_rule (wpAny_bind ?_)))
    show wpAny _ _ (pure ScanMet.absent) _ _ _
    refine wpAny_pure ?_
    dsimp only
    have hl : layNew (.fresh 0 0 (!(byT w))) #[] 1 (.bool true) = (#[(1, .bool true)], tab1 (byT w), false, false) := by cases byT w <;> decide +kernel
    rw [hl]
    dsimp only
    refine wpAny_bind (wpAny_pure ?_)
    have hpl : (tab1 (byT w)).plain = true := rfl
    rw [if_pos hpl]
    refine wpAny_bind (wpAny_pure ?_)
    rw [if_pos rfl]
    refine wpAny_bind ?_
    unfold storeSet
    refine wpAny_bind (wpAny_load (s := { s with toks := tk }) hP0 ?_)
    show wpAny _ _ (if (1 : Nat) > sizeLine then _ else _) _ _ _
    rw [if_neg (by decide)]
    refine wpAny_update (s := { s with toks := tk }) hP0 ?_
    have hfull : (!false && (tab1 (byT w)).tooFull) = false := by cases byT w <;> decide +kernel
    rw [hfull]
    refine wpAny_pure (wpAny_pure (wpAny_pure ⟨_, rfl, h _ _ htk ?_ (Heap.SameBut.update ..)⟩))
    exact Heap.get?_update_self _ hP0 rfl
  | true =>
    have hP1 : s.heap.get? P = some (set1 (byT w)) := hP
    refine wpAny_holding (wpAny_bind (setState_c (s := { s with toks := tk }) hP1 rfl (by cases byT w <;> rfl) ?_))
    dsimp only
    rw [if_pos (by decide +kernel)]
    unfold setAddByScan
    refine wpAny_bind (wpAny_bind (wpAny_rule (wpAny_bind ?_)))
    show wpAny _ _ (setScanFrom P (.bool true) 1 true [(1, .bool true)] 0) _ _ _
    unfold setScanFrom
    dsimp only
    rw [if_pos (by decide)]
    unfold setEpoch
    refine wpAny_bind (wpAny_bind (setState_c (s := { s with toks := tk }) hP1 rfl (by cases byT w <;> rfl) (wpAny_pure ?_)))
    refine wpAny_bind ?_
    unfold eqBool
    refine wpAny_holding ?_
    rw [if_pos (by decide)]
    refine wpAny_bind (wpAny_rule (wpAny_pure ?_))
    rw [if_pos rfl]
    refine wpAny_pure (wpAny_pure (wpAny_pure (wpAny_pure ⟨_, rfl, h _ _ htk hP1 (Heap.SameBut.refl ..)⟩)))
end
section
variable {prog : Program} {w : World} {A : Around} {E : Value → Shared → Prop} {s : Shared}

theorem fits1 (c : Bool) : (tab1 c).fits (#[(1, Value.bool true)] : Array (Int × Value)).size = true := by cases c <;> rfl

theorem pyIter_set1 {P : Addr} {Q : Value → Shared → Prop} (hP : s.heap.get? P = some (set1 (byT w)))
    (h : ∀ h', IsSetIt h' s.heap.objs.size P 0 0 → Kp s.heap h' → Q (.ref s.heap.objs.size) { s with heap := h' }) : wpAny (model prog w) A (pyIter (.ref P)) Q E s := by
  have hT : s.TypeIs (.ref P) "set" := ⟨_, hP, rfl⟩
  refine wpAny_pyIter_slot hT F.slot_set_iter (wpAny_call_entry F.slot_set_iter hT entry_set_iter ?_ (F.args_set_iter_1 _))
  unfold Builtin.«frozenset.__iter__» Builtin.Frozenset.slot0 Builtin.Frozenset.addrOf Builtin.Frozenset.sizeOf setEntries setDrawn setEpoch setsByText
  refine wpAny_bind (wpAny_bind (wpAny_pure (wpAny_pure ?_)))
  refine wpAny_bind (wpAny_bind (wpAny_bind (setState_c hP rfl (fits1 _) (wpAny_pure (wpAny_pure ?_)))))
  refine wpAny_bind ?_
  refine wpAny_bind (setState_c hP rfl (fits1 _) ?_)
  refine wpAny_bind (wpAny_bind (wpAny_askSetting (wpAny_pure (wpAny_pure ?_))))
  refine wpAny_ite ?_
  rw [if_neg (by show ¬ ((!(byT w) && _) = true); cases byT w <;> decide)]
  refine wpAny_bind (wpAny_pure ?_)
  refine wpAny_bind (wpAny_bind (setState_c hP rfl (fits1 _) (wpAny_pure ?_)))
  refine wpAny_bind (wpAny_newObj_type ?_ (by size_fits))
  refine wpAny_pure ⟨_, rfl, "set_iterator", _, ⟨_, Heap.get?_push_size _ rfl, rfl⟩, slot_setit_next.lookup, h _ (Heap.get?_push_size _ rfl) kp_push⟩

theorem pick_one {α : Type} (next : Nat → Nat) (x : α) : pickOrder next #[x] = #[x] := by
  unfold pickOrder
  show pickOrder.go next 1 0 [x] #[] = _
  unfold pickOrder.go
  have : next 0 % [x].length = 0 := Nat.mod_one _
  rw [this]
  rfl

theorem setWalk_one {P : Addr} {Q : Array (Int × Value) → Shared → Prop} (hP : s.heap.get? P = some (set1 (byT w))) (hb : byT w = true) (h : Q #[(1, .bool true)] s) : wpAny (model prog w) A (setWalk P) Q E s := by
  unfold setWalk setsByText
  refine wpAny_bind (setState_c hP rfl (fits1 _) ?_)
  refine wpAny_bind (wpAny_bind (wpAny_askSetting (wpAny_pure ?_)))
  show wpAny _ _ (if byT w = true then _ else _) _ _ _
  rw [if_pos hb]
  refine wpAny_bind (wpAny_askSetting (wpAny_pure ?_))
  rw [pick_one]
  exact h

noncomputable def slotB (w : World) : Int := if byT w then 0 else 2

theorem setNext_item {P : Addr} {Q : Option (Value × Nat) → Shared → Prop} (hP : s.heap.get? P = some (set1 (byT w))) (h : Q (some (.bool true, if byT w then 0 else 2)) s) : wpAny (model prog w) A (setNext P 0 0 1) Q E s := by
  unfold setNext setsByText
  refine wpAny_bind (setState_c hP rfl (fits1 _) ?_)
  refine wpAny_bind (wpAny_bind (wpAny_askSetting (wpAny_pure ?_)))
  show wpAny _ _ (if byT w = true then _ else _) _ _ _
  cases hb : byT w with
  | true =>
    rw [if_pos rfl]
    rw [hb] at h
    dsimp only
    rw [if_neg (by decide)]
    exact wpAny_bind (setWalk_one hP hb (wpAny_pure h))
  | false =>
    rw [if_neg (by decide)]
    rw [hb] at h
    dsimp only
    rw [if_neg (by decide)]
    refine wpAny_bind (wpAny_of_eq (a := ()) (by rfl) ?_)
    exact wpAny_pure h

theorem setNext_end {P : Addr} {Q : Option (Value × Nat) → Shared → Prop} (hP : s.heap.get? P = some (set1 (byT w))) (h : Q none s) : wpAny (model prog w) A (setNext P (slotB w).toNat 1 1) Q E s := by
  unfold setNext setsByText
  refine wpAny_bind (setState_c hP rfl (fits1 _) ?_)
  refine wpAny_bind (wpAny_bind (wpAny_askSetting (wpAny_pure ?_)))
  show wpAny _ _ (if byT w = true then _ else _) _ _ _
  cases hb : byT w with
  | true =>
    rw [if_pos rfl]
    dsimp only
    rw [if_neg (by decide)]
    exact wpAny_bind (setWalk_one hP hb (wpAny_pure h))
  | false =>
    rw [if_neg (by decide)]
    dsimp only
    rw [if_neg (by decide)]
    refine wpAny_bind (wpAny_of_eq (a := ()) (by rfl) ?_)
    have : slotB w = 2 := by unfold slotB; rw [hb]; rfl
    rw [this]
    exact wpAny_pure h

theorem setit_next_item {P I : Addr} {Q : Value → Shared → Prop} (hP : s.heap.get? P = some (set1 (byT w))) (hI : IsSetIt s.heap I P 0 0)
    (h : ∀ h', IsSetIt h' I P (slotB w) 1 → Heap.SameBut I s.heap h' → Q (.bool true) { s with heap := h' }) :
    wpAny (model prog w) A (Builtin.«set_iterator.__next__» ⟨[.ref I], []⟩) (fun fin s' => ∃ v, fin = .done (.ret v) ∧ Q v s') E s := by
  show wpAny _ _ (fieldsOf (.ref I) >>= _) _ _ _
  refine wpAny_bind (wpAny_fieldsOf hI rfl ?_)
  show wpAny _ _ (setEntries P >>= _) _ _ _
  unfold setEntries
  refine wpAny_bind (wpAny_bind (setState_c hP rfl (fits1 _) (wpAny_pure ?_)))
  rw [if_neg (by show ¬ ((1 : Int) != 1) = true; decide)]
  show wpAny _ _ (setNext P 0 0 1 >>= _) _ _ _
  refine wpAny_bind (setNext_item hP ?_)
  refine wpAny_bind (wpAny_setField_rec hI (by simp) fun h1 hI1 hs1 => ?_)
  refine wpAny_bind (wpAny_setField_rec hI1 (by simp) fun h2 hI2 hs2 => ?_)
  refine wpAny_pure ⟨_, rfl, h h2 ?_ (hs1.trans hs2)⟩
  have e : (((if byT w = true then 0 else 2 : Nat) : Nat) : Int) = slotB w := by unfold slotB; split <;> rfl
  show IsSetIt h2 I P (slotB w) 1
  rw [← e]
  exact hI2

theorem setit_next_end {P I : Addr} {Q : Fin → Shared → Prop} (hh : A.handled = none) (hP : s.heap.get? P = some (set1 (byT w))) (hI : IsSetIt s.heap I P (slotB w) 1)
    (hE : ∀ h' e, Heap.ExtBut I s.heap h' → (∃ o, h'.get? e = some o ∧ o.cls = .type "StopIteration") → E (.ref e) { s with heap := h' }) :
    wpAny (model prog w) A (Builtin.«set_iterator.__next__» ⟨[.ref I], []⟩) Q E s := by
  show wpAny _ _ (fieldsOf (.ref I) >>= _) _ _ _
  refine wpAny_bind (wpAny_fieldsOf hI rfl ?_)
  show wpAny _ _ (setEntries P >>= _) _ _ _
  unfold setEntries
  refine wpAny_bind (wpAny_bind (setState_c hP rfl (fits1 _) (wpAny_pure ?_)))
  rw [if_neg (by show ¬ ((1 : Int) != 1) = true; decide)]
  show wpAny _ _ (setNext P (slotB w).toNat 1 1 >>= _) _ _ _
  refine wpAny_bind (setNext_end hP ?_)
  refine wpAny_bind (wpAny_setField_rec hI (by simp) fun h1 hI1 hs1 => ?_)
  show wpAny _ _ (newExc (.type "StopIteration") [] >>= _) _ _ _
  refine wpAny_bind ?_
  simp only [newExc, newTuple]
  refine wpAny_bind (wpAny_newObj_type ?_ (by size_fits))
  refine wpAny_bind (m := firstArgMember _ _) (wpAny_of_eq (a := Value.none) (by first | rfl | (simp only [firstArgMember]; rfl)) ?_)
  refine wpAny_newObj_type ?_ (by size_fits)
  simp only [raiseNew]
  refine wpAny_bind (wpAny_handled ?_)
  rw [hh]
  refine wpAny_bind (wpAny_pure (wpAny_throw ?_))
  exact hE _ _ ((hs1.extBut.push _).push _) ⟨_, Heap.get?_push_size _ rfl, rfl⟩

theorem pyNext_setit_item {P I : Addr} {Q : Option Value → Shared → Prop} (hP : s.heap.get? P = some (set1 (byT w))) (hI : IsSetIt s.heap I P 0 0)
    (h : ∀ h', IsSetIt h' I P (slotB w) 1 → Heap.SameBut I s.heap h' → Q (some (.bool true)) { s with heap := h' }) : wpAny (model prog w) A (pyNext (.ref I)) Q E s := by
  have hTy : s.TypeIs (.ref I) "set_iterator" := ⟨_, hI, rfl⟩
  unfold pyNext
  exact wpAny_bind (wpAny_attempt (wpAny_callSpecial?_slot (name := Str.ofString "__next__") hTy slot_setit_next
    (wpAny_call_entry slot_setit_next hTy entry_setit_next (setit_next_item hP hI fun h' a1 a2 => wpAny_pure (h h' a1 a2)) (args_setit_next_1 _))))
theorem pyNext_setit_end {P I : Addr} {Q : Option Value → Shared → Prop} (hh : A.handled = none) (hP : s.heap.get? P = some (set1 (byT w))) (hI : IsSetIt s.heap I P (slotB w) 1)
    (hQ : ∀ h', Heap.ExtBut I s.heap h' → Q none { s with heap := h' }) : wpAny (model prog w) A (pyNext (.ref I)) Q E s := by
  have hTy : s.TypeIs (.ref I) "set_iterator" := ⟨_, hI, rfl⟩
  unfold pyNext
  refine wpAny_bind (wpAny_attempt (wpAny_callSpecial?_slot (name := Str.ofString "__next__") hTy slot_setit_next
    (wpAny_call_entry slot_setit_next hTy entry_setit_next (setit_next_end hh hP hI fun h' e hk he => ?_) (args_setit_next_1 _))))
  obtain ⟨o, ho, hc⟩ := he
  refine wpAny_bind (wpAny_isInstance (T := "StopIteration") (b := true) ⟨o, ho, hc⟩ isSubtype_stop ?_)
  exact wpAny_pure (hQ _ hk)

/-- x, = {True} -/
theorem unpackItems_set1 {P : Addr} {Q : List Value → Shared → Prop} (hh : A.handled = none) (hP : s.heap.get? P = some (set1 (byT w)))
    (hQ : ∀ h', Kp s.heap h' → Q [.bool true] { s with heap := h' }) : wpAny (model prog w) A (unpackItems (.ref P) 1 none) Q E s := by
  have hT : s.TypeIs (.ref P) "set" := ⟨_, hP, rfl⟩
  have hne : P ≠ s.heap.objs.size := Nat.ne_of_lt (Heap.lt_size hP)
  unfold unpackItems
  refine wpAny_bind ?_
  unfold notIterableAtAll
  refine wpAny_bind (wpAny_specialOf hT F.slot_set_iter.lookup ?_)
  refine wpAny_pure ?_
  simp only [Bool.false_eq_true, if_false]
  refine wpAny_bind (wpAny_holding (pyIter_set1 hP fun h1 hI kp1 => ?_))
  refine wpAny_bind (wpAny_holding ?_)
  unfold draw
  refine wpAny_bind (pyNext_setit_item (s := { s with heap := h1 }) (kp1 _ _ hP) hI fun h2 hI2 hs2 => ?_)
  refine wpAny_bind (wpAny_holding ?_)
  unfold draw
  refine wpAny_pure (wpAny_pure ?_)
  rw [if_neg (by decide)]
  have hP2 : h2.get? P = some (set1 (byT w)) := hs2.extBut _ _ hne (kp1 _ _ hP)
  refine wpAny_bind (wpAny_holding (pyNext_setit_end (s := { s with heap := h2 }) hh hP2 hI2 fun h3 ex => ?_))
  simp only [Option.isSome_none, Bool.false_eq_true, if_false]
  refine wpAny_pure (hQ h3 fun b o e => ?_)
  have hb : b ≠ s.heap.objs.size := Nat.ne_of_lt (Heap.lt_size e)
  exact ex b o hb (hs2.extBut b o hb (kp1 _ _ e))
end
section
variable {X : Cx} {Γ : Gam} {Φ : Out → Prop}

/-- a new set turns, all else stands -/
theorem Gd.turnS {s : Shared} {ad : Nat → Addr} {P : Addr} {h' : Heap} {t' : Nat} {o : Obj} {es ep t} (g : Gd X ad Γ s) (hno : NoOwn Γ) (e0 : s.heap.get? P = some o) (d0 : o.data = .set es ep t) (h0 : X.h₀.get? P = none) (hex : ∃ o, h'.get? P = some o)
    (hs : Heap.SameBut P s.heap h') (ht : s.toks ≤ t') : Gd X ad Γ { s with heap := h', toks := t' } := by
  refine g.butB (wr := [P]) hno (fun b o hb e => (hs.2 b fun q => hb (by simp [q])).trans e) ht fun b hb => ?_
  rw [List.mem_singleton.mp hb]
  refine ⟨h0, ?_, ?_, ?_⟩
  · intro q
    obtain ⟨m, o', _, _, e1, e2, _⟩ := g.ns
    rw [← q, e0] at e1; cases e1; rw [d0] at e2; cases e2
  · intro nm c hc q
    obtain ⟨v, o', e1, e2⟩ := g.cells nm c hc
    rw [← q, e0] at e1; cases e1; rw [d0] at e2; cases e2
  · by_cases hB : X.B P
    · exact .inl ⟨hB, hex⟩
    · refine .inr ⟨hB, fun o' xs n e d => ?_⟩
      rw [e0] at e; cases e; rw [d0] at d; cases d

theorem comp_loopS {A : Around} {s : Shared} {ad : Nat → Addr} {s1 : Shared} {Bn : Addr → Prop} {P I : Addr} {fp wr : List Addr} {St : Nat → Heap → Prop} {elt target iter : PySem.Expr} {scope : Scope} {pos : Pos}
    {tgt : D → Gam} {ds : List D} {R : Result → Shared → Prop}
    (hT : compTurn (.SetComp elt [⟨target, iter, [], 0⟩] scope pos) 0 (.ref I) (.ref P) X.env = (do
      standAt iter.pos
      match ← pyNext (.ref I) with
      | none => pure (.done .next)
      | some v =>
        letOwnedTupleGo target (.ref I) v
        assign target X.env v
        let mut ok := true
        for c in ([] : List PySem.Expr) do
          if ok then ok ← isTrue c X.env (eval c X.env)
        if ok then (do let v ← eval elt X.env; standAt elt.pos; let _ ← PySem.call (.builtin "set.add") [.ref P, v])
        again (.compLoop (.SetComp elt [⟨target, iter, [], 0⟩] scope pos) 0 (.ref I) (.ref P) X.env)))
    (hno : NoOwn Γ) (hr : Room X.k A) (h0 : X.h₀.get? P = none) (g : Gd X ad Γ s) (sub : ∀ b ∈ wr, b ∈ fp) (frame : ∀ i h h', St i h → (∀ b ∈ fp, ∀ o, h.get? b = some o → h'.get? b = some o) → St i h') (pull : Pull X A target I s1 Bn wr St ds)
    (done : ∀ (s : Shared) (Q : Option Value → Shared → Prop) (E : Value → Shared → Prop), St ds.length s.heap → (∀ h' tk, (∀ b o, b ∉ wr → s.heap.get? b = some o → h'.get? b = some o) → Q none { s with heap := h', toks := tk }) → wpAny (model X.G.prog X.G.w) A (pyNext (.ref I)) Q E s)
    (hst : St 0 s.heap)
    (hfp : ∀ b ∈ fp, (∃ o, s.heap.get? b = some o) ∧ b ≠ X.env.locals ∧ (∀ n c, X.env.cells.lookup n = some c → b ≠ c) ∧ b ≠ P)
    (hwr : ∀ b ∈ wr, X.h₀.get? b = none ∧ (X.B b ∨ (¬ X.B b ∧ ∀ (i : Nat) (h : Heap) (o : Obj) (xs : Array Value) (n : Nat), St i h → h.get? b = some o → o.data ≠ .seq xs n))) (hPw : P ∉ wr) (hex : ∀ (i : Nat) (h : Heap) (b : Addr), St i h → b ∈ wr → ∃ o, h.get? b = some o)
    (hs1 : Kp s1.heap s.heap) (hZ : ∀ b, X.B b → Bn b ∨ s1.heap.get? b = none ∨ b ∈ wr) (hC1 : ∀ o xs n, s1.heap.get? X.env.locals = some o → o.data ≠ .seq xs n) (hP1 : s1.heap.get? P = none)
    (pl : s.heap.get? P = some (set0 (byT X.G.w)))
    (htg : ∀ d ∈ ds, ∀ A s v Q E, Room X.k A → Gd X ad Γ s → Rep X.B s.heap d v → (∀ s', (∀ b o, b ≠ X.env.locals → s.heap.get? b = some o → s'.heap.get? b = some o) → SR s s' → s.toks ≤ s'.toks → Gd X ad (tgt d) s' → Q () s') → wpAny (model X.G.prog X.G.w) A (assign target X.env v) Q E s)
    (hfor : ∀ d ∈ ds, NoOwn (tgt d) ∧ ∀ s, Gd X ad (tgt d) s → Gd X ad Γ s)
    (helt : ∀ d ∈ ds, Ev X (tgt d) elt (.bool true)) (hne : 0 < ds.length)
    (hR : ∀ s', MvC X.env.locals P wr s s' → (∃ m, s'.heap.Ns X.env.locals m) → s'.heap.get? P = some (set1 (byT X.G.w)) → R (.ok .next) s') :
    codeAny (model X.G.prog X.G.w) A (.compLoop (.SetComp elt [⟨target, iter, [], 0⟩] scope pos) 0 (.ref I) (.ref P) X.env) R s := by
  refine codeAny_loop rfl (fun n s' => ∃ j, n = ds.length - j ∧ j ≤ ds.length ∧ St j s'.heap ∧ Gd X ad Γ s' ∧ s'.heap.get? P = some (if decide (0 < j) then set1 (byT X.G.w) else set0 (byT X.G.w)) ∧ MvC X.env.locals P wr s s') ?_ ds.length
    ⟨0, rfl, Nat.zero_le _, hst, g, pl, MvC.refl s⟩
  rintro n s' ⟨j, rfl, hj, hst', g', pl', mv⟩
  show wpAny _ A ((compTurn (.SetComp elt [⟨target, iter, [], 0⟩] scope pos) 0 (.ref I) (.ref P) X.env).onRaise (fun x => do noteFrame x X.env; theTreesLotGoes x)) _ _ s'
  refine wpAny_noted ?_
  rw [hT]
  refine wpAny_bind (wpAny_standAt (wpAny_bind ?_))
  have off : ∀ {h' : Heap}, (∀ b ∈ wr, X.B b → ∃ o, h'.get? b = some o) → ∀ b ∈ wr, X.h₀.get? b = none ∧ b ≠ X.env.locals ∧ (∀ n c, X.env.cells.lookup n = some c → b ≠ c) ∧ ((X.B b ∧ ∃ o, h'.get? b = some o) ∨ (¬ X.B b ∧ ∀ o xs n, s'.heap.get? b = some o → o.data ≠ .seq xs n)) := fun hx b hb =>
    ⟨(hwr b hb).1, (hfp b (sub b hb)).2.1, (hfp b (sub b hb)).2.2.1, (hwr b hb).2.imp (fun h => ⟨h, hx b hb h⟩) fun h => ⟨h.1, fun o xs n => h.2 j _ o xs n hst'⟩⟩
  by_cases hlt : j < ds.length
  · obtain ⟨d, hd⟩ : ∃ d, ds[j]? = some d := ⟨ds[j], List.getElem?_eq_getElem hlt⟩
    have hmem : d ∈ ds := List.mem_of_getElem? hd
    refine pull j s' _ _ d hd hst' (fun b o xs n nb hnw e dd => mv.2.2 b o (hs1 _ _ e) (fun q => hC1 o xs n (q ▸ e) dd) (fun q => by rw [q, hP1] at e; cases e) hnw) fun v h1' tk htk hgo => ?_
    refine wpAny_bind (hgo _ (fun h1 hst1 hk rd0 => ?_) _)
    have g1 : Gd X ad Γ { s' with heap := h1, toks := tk } := g'.butB hno hk htk (off fun b hb _ => hex _ _ b hst1 hb)
    have pl1 := hk P _ hPw pl'
    have mv1 : MvC X.env.locals P wr s { s' with heap := h1, toks := tk } := mv.trans ⟨⟨h1, tk, rfl⟩, htk, fun b o e _ _ h => hk b o h e⟩
    have rd1 : Rep X.B h1 d v := Rep.bar (fun b o xs n hb e dd => ⟨g'.low b hb, hZ b hb⟩) _ _ rd0
    refine wpAny_bind (htg d hmem A _ v _ _ hr g1 rd1 fun s2 sb2 sr2 tk2 g2 => ?_)
    have offP : ∀ (s : Shared), Gd X ad Γ s → ∀ b : Bool, s.heap.get? P = some (if b then set1 (byT X.G.w) else set0 (byT X.G.w)) → P ≠ X.env.locals := fun s gg b e q => by
      obtain ⟨m, o', _, _, e1, e2, _⟩ := gg.ns
      rw [← q, e] at e1; cases e1; cases b <;> cases e2
    have pl2 : s2.heap.get? P = _ := sb2 _ _ (offP _ g' _ pl') pl1
    have mv2 : MvC X.env.locals P wr s s2 := mv1.trans ⟨sr2, tk2, fun b o e h _ _ => sb2 b o h e⟩
    have hst2 : St (j + 1) s2.heap := frame _ _ _ hst1 fun b hb o e => sb2 b o (hfp b hb).2.1 e
    refine wpAny_bind (Tst.nil A s2 ad _ _ hr g2 fun s3 st3 => ?_)
    have mv3 := mv2.trans st3.mvc
    have hst3 : St (j + 1) s3.heap := frame _ _ _ hst2 fun b hb o e => st3.kp _ _ e
    rw [if_pos rfl]
    refine wpAny_bind (wpAny_bind (helt d hmem A s3 ad _ _ hr (g2.up st3) fun v4 s4 st4 r4 => ?_))
    simp only [Rep] at r4
    subst r4
    refine wpAny_bind (wpAny_standAt (wpAny_bind ?_))
    have pl4 := st4.kp _ _ (st3.kp _ _ pl2)
    refine add_true pl4 fun h5 tk5 htk5 pl5 sb5 => ?_
    have g4 := (g2.up st3).up st4
    have g5 : Gd X ad (tgt d) { s4 with heap := h5, toks := tk5 } := by
      rcases Bool.eq_false_or_eq_true (decide (0 < j)) with hz | hz
      · rw [hz] at pl4; exact g4.turnS (hfor d hmem).1 pl4 rfl h0 ⟨_, pl5⟩ sb5 htk5
      · rw [hz] at pl4; exact g4.turnS (hfor d hmem).1 pl4 rfl h0 ⟨_, pl5⟩ sb5 htk5
    refine wpAny_pure (wpAny_pure ⟨rfl, ds.length - (j + 1), by omega, j + 1, rfl, hlt, frame _ _ _ hst3 (fun b hb o e => (sb5.2 b (hfp b hb).2.2.2).trans (st4.kp _ _ e)), (hfor d hmem).2 _ g5, ?_, mv3.trans (st4.mvc.trans ⟨⟨h5, tk5, rfl⟩, htk5, fun b o e _ hP _ => (sb5.2 b hP).trans e⟩)⟩)
    rw [if_pos (by simp)]
    exact pl5
  · have hj' : j = ds.length := by omega
    subst hj'
    refine wp_toks (done s' _ _ hst' fun h1 tk hk htk => ?_)
    rw [if_pos (by simpa using hne)] at pl'
    exact wpAny_pure (hR _ (mv.trans ⟨⟨h1, tk, rfl⟩, htk, fun b o e _ _ h => hk b o h e⟩) (let ⟨m, hm⟩ := g'.ns; ⟨m, hm.at' fun o e => hk _ o (fun h => (hfp _ (sub _ h)).2.1 rfl) e⟩) (hk P _ hPw pl'))
end
section
variable {X : Cx} {Γ : Gam} {Φ : Out → Prop}

theorem codeAny_compStart_set {A : Around} {R : Result → Shared → Prop} {s : Shared} {prog : Program} {w : World} {elt target iter : PySem.Expr} {ifs : List PySem.Expr} {rest : List Comprehension} {scope : Scope} {pos : Pos} {it acc : Value} {env : Env}
    (h0 : codeAny (model prog w) A (.compLoop (.SetComp elt (⟨target, iter, ifs, 0⟩ :: rest) scope pos) 0 it acc env) R s)
    (h : wpAny (model prog w) A (pyIter it) (fun it' s' => codeAny (model prog w) A (.compLoop (.SetComp elt (⟨target, iter, ifs, 0⟩ :: rest) scope pos) 0 it' acc env) R s')
      (notedBy (model prog w) A env fun x s' => R (.error x) s') s) :
    codeAny (model prog w) A (.compStart (.SetComp elt (⟨target, iter, ifs, 0⟩ :: rest) scope pos) 0 it acc env) R s := by
  refine codeAny_of_tree ?_
  show wpAny _ _ ((compStart (.SetComp elt (⟨target, iter, ifs, 0⟩ :: rest) scope pos) 0 it acc env).onRaise (fun x => do noteFrame x env; standAt theWindowsPlace)) _ _ s
  refine wpAny_notedAt ?_
  unfold compStart
  show wpAny _ _ (ask >>= _) _ _ s
  refine wpAny_bind (wpAny_askSetting (wpAny_ite ?_))
  split
  · first
      | exact wpAny_bind (wpAny_pure (wpAny_pure (And.intro rfl h0)))
      | exact wpAny_pure (And.intro rfl h0)
  · first
      | exact wpAny_bind (wpAny_rule (wpAny_bind (wpAny_standAt (wpAny_bind (wpAny_mono h (fun it' s' h' => wpAny_pure (And.intro rfl h')) fun _ _ x => x)))))
      | (refine wpAny_bind (wpAny_rule ?_); show wpAny _ _ (standAt iter.pos >>= _) _ _ s; exact wpAny_bind (wpAny_standAt (wpAny_bind (wpAny_mono h (fun it' s' h' => wpAny_pure (And.intro rfl h')) fun _ _ x => x))))

/-- {elt for target in iter}, each element True -/
noncomputable def EvSet (X : Cx) (Γ : Gam) (e : PySem.Expr) : Prop :=
  ∀ A s ad Q E, Room X.k A → Gd X ad Γ s → (∀ P s', Step s s' → s'.heap.get? P = some (set1 (byT X.G.w)) → Q (.ref P) s') → wpAny (model X.G.prog X.G.w) A (eval e X.env) Q E s

theorem Ev.setComp {elt target iter : PySem.Expr} {scope : Scope} {pos : Pos} {ds : List D} {tgt : D → Gam} {Γ' : Gam} (hok : compOk scope X.env.scope.names = true) (hΓ : FreeIn X Γ scope Γ')
    (htg : ∀ C B, ∀ d ∈ ds, CTgt (cX X scope C B) Γ' target d (tgt d)) (hless : ∀ d ∈ ds, NoOwn (tgt d) ∧ ∀ (i : Nat) e, Γ'[i]? = some (some e) → (tgt d)[i]? = some (some e))
    (helt : ∀ C B, ∀ d ∈ ds, Ev (cX X scope C B) (tgt d) elt (.bool true)) (hit : It X Γ target iter ds false) (hne : 0 < ds.length)
    (hT : ∀ I P env, compTurn (.SetComp elt [⟨target, iter, [], 0⟩] scope pos) 0 (.ref I) (.ref P) env = (do
      standAt iter.pos
      match ← pyNext (.ref I) with
      | none => pure (.done .next)
      | some v =>
        letOwnedTupleGo target (.ref I) v
        assign target env v
        let mut ok := true
        for c in ([] : List PySem.Expr) do
          if ok then ok ← isTrue c env (eval c env)
        if ok then (do let v ← eval elt env; standAt elt.pos; let _ ← PySem.call (.builtin "set.add") [.ref P, v])
        again (.compLoop (.SetComp elt [⟨target, iter, [], 0⟩] scope pos) 0 (.ref I) (.ref P) env)) := by intro _ _ _; rfl)
    (hs : ∀ x, foldedSetIterable iter X.env x = pure x := by intro _; rfl)
    (hev : ∀ env, eval (.SetComp elt [⟨target, iter, [], 0⟩] scope pos) env = comprehension (.SetComp elt [⟨target, iter, [], 0⟩] scope pos) scope env (firstIterPos [⟨target, iter, [], 0⟩] pos) (newSet (.type "set")) false (eval iter env) := by intro _; rfl) :
    EvSet X Γ (.SetComp elt [⟨target, iter, [], 0⟩] scope pos) := fun A s ad Q E hr g hq => by
  rw [hev]
  obtain ⟨hkind0, hnames, _⟩ := compOk_hyps hok
  refine wpAny_comprehension_free (use := none) rfl hs (closure_of g hok) hkind0 hnames (hit A s ad _ E hr g fun s1 I fp wr St R => ?_)
  have hok' := hok
  unfold compOk at hok'
  simp only [Bool.and_eq_true, List.all_eq_true, beq_iff_eq, decide_eq_true_eq] at hok'
  obtain ⟨⟨hall, hnd⟩, hkind⟩ := hok'
  have hcell : ∀ y ∈ scope.names, y.2 ≠ .cell := fun y hy e => by have := (hall y hy).1; rw [e] at this; simp at this
  have hno' : NoOwn Γ' := fun i l e => by obtain ⟨d, _, _, e2, _⟩ := hΓ i _ e; cases e2
  refine newSet_c (wpAny_newFunctionEnv hcell (by intro y hy; simp at hy) (fun h₁ hns₁ hsb₁ => ?_) hkind)
  dsimp only at hns₁ hsb₁ ⊢
  generalize hH2 : s1.heap.push (set0 (byT X.G.w)) = H2 at hns₁ hsb₁ ⊢
  have hC : H2.objs.size = s1.heap.objs.size + 1 := by rw [← hH2, Heap.size_push]
  have hDC : s1.heap.objs.size ≠ H2.objs.size := by rw [hC]; exact Nat.ne_of_lt (Nat.lt_succ_self _)
  have below : ∀ b o, s1.heap.get? b = some o → b ≠ H2.objs.size ∧ b ≠ s1.heap.objs.size := fun b o e => by
    have hb := Heap.lt_size e
    exact ⟨by rw [hC]; exact Nat.ne_of_lt (Nat.lt_succ_of_lt hb), Nat.ne_of_lt hb⟩
  have old : ∀ b o, s1.heap.get? b = some o → h₁.get? b = some o := fun b o e => hsb₁.extBut b o (below b o e).1 (Heap.get?_push_of_some _ (hH2 ▸ Heap.get?_push_of_some _ e))
  have hacc : h₁.get? s1.heap.objs.size = some (set0 (byT X.G.w)) := hsb₁.extBut _ _ hDC (Heap.get?_push_of_some _ (hH2 ▸ Heap.get?_push_size _ rfl))
  have g1 := g.up R.hst
  generalize hs4 : ({ s1 with heap := h₁, toks := s1.toks + ([] : List (PySem.Str × Value)).length } : Shared) = s4
  have st14 : Step s1 s4 := by rw [← hs4]; exact step_heap old (Nat.le_add_right _ _)
  have P0 := none_of (h := s1.heap) (Nat.le_refl _)
  have C0 : s1.heap.get? H2.objs.size = none := none_of (by rw [hC]; exact Nat.le_succ _)
  have h4 : s4.heap = h₁ := by rw [← hs4]
  have gc := g.comp (N := fun a => a ∈ wr) hok hΓ (R.hst.trans st14) (step_none R.hst C0) (by rw [h4]; exact hns₁) fun b hb => by
    obtain ⟨⟨o, e⟩, _⟩ := R.hfp b (R.sub b hb)
    exact ⟨R.hwr b hb, o, st14.kp _ _ e⟩
  have hP0 : X.h₀.get? s1.heap.objs.size = none := by
    cases e : X.h₀.get? s1.heap.objs.size with
    | none => rfl
    | some o => have := g1.keep _ _ e; rw [P0] at this; cases this
  let X' : Cx := cX X scope H2.objs.size fun a => X.ban ad Γ a ∨ a ∈ wr
  have hfpc : ∀ b ∈ fp, (∃ o, s4.heap.get? b = some o) ∧ b ≠ X'.env.locals ∧ (∀ n c, X'.env.cells.lookup n = some c → b ≠ c) ∧ b ≠ s1.heap.objs.size := fun b hb => by
    obtain ⟨⟨o, e⟩, p1, p2, p3⟩ := R.hfp b hb
    refine ⟨⟨o, st14.kp _ _ e⟩, (below b o e).1, fun n c hc => ?_, (below b o e).2⟩
    rcases clAdd_mem _ _ _ (mem_of_lookup hc) with h | ⟨h1, h2⟩
    · cases h
    · have : ((relabel scope X.env).names.map (·.1)).Nodup := by rw [relabel_nodup]; exact hnd
      obtain ⟨y, hy⟩ : ∃ y, X.env.scope.names.contains (n, NameKind.cell) = true := by
        have := (hall _ h1).2
        simp only [bne_self_eq_false, Bool.false_or] at this
        exact ⟨n, this⟩
      obtain ⟨c', hc'⟩ := Option.isSome_iff_exists.mp (g1.fx.cl (n, .cell) (List.contains_iff_mem.mp hy) rfl)
      simp only at h2 hc'
      rw [hc'] at h2
      rw [show c = c' from h2]
      exact p2 _ c' hc'
  have hwrc : ∀ b ∈ wr, X'.h₀.get? b = none ∧ (X'.B b ∨ (¬ X'.B b ∧ ∀ (i : Nat) (h : Heap) (o : Obj) (xs : Array Value) (n : Nat), St i h → h.get? b = some o → o.data ≠ .seq xs n)) := fun b hb => by
    have h0 := R.hwr b hb
    refine ⟨?_, .inl (.inr hb)⟩
    cases e2 : X.h₀.get? b with
    | none => rfl
    | some o2 => have := g.keep _ _ e2; rw [h0] at this; cases this
  have hPw : s1.heap.objs.size ∉ wr := fun h => (hfpc _ (R.sub _ h)).2.2.2 rfl
  have hst4 : St 0 s4.heap := R.frame _ _ _ R.hst0 fun b _ o e => st14.kp b o e
  have loop : codeAny (model X.G.prog X.G.w) A (.compLoop (.SetComp elt [⟨target, iter, [], 0⟩] scope pos) 0 (.ref I) (.ref s1.heap.objs.size) X'.env) (compPost (model X.G.prog X.G.w) A E none Q (.ref s1.heap.objs.size) H2.objs.size) s4 := by
    refine comp_loopS (X := X') (Γ := Γ') (P := s1.heap.objs.size) (tgt := tgt) (hT I _ _) hno' hr hP0 gc R.sub R.frame R.pull R.done hst4 hfpc hwrc hPw R.hex st14.kp
      (fun b hb => hb.imp id fun h => .inr h) (fun o xs n e => absurd (C0.symm.trans e) (by simp)) P0 (by rw [h4]; exact hacc) (fun d hd A s v Q E hr g r hq => htg _ _ d hd A s ad v Q E hr g r hq) (fun d hd => ⟨(hless d hd).1, fun s gd => gd.less (hless d hd).1 (hless d hd).2⟩) (fun d hd => helt _ _ d hd) hne fun s5 mv5 ns5 pl5 => ?_
    have kp5 : Kp s.heap s5.heap := fun b o e0 => by
      have e := R.hst.kp _ _ e0
      exact mv5.2.2 b o (st14.kp _ _ e) (below b o e).1 (below b o e).2 fun hb => by rw [R.hwr b hb] at e0; cases e0
    have sr5 : SR s s5 := R.hst.sr.trans (st14.sr.trans mv5.1)
    have tk5 : s.toks ≤ s5.toks := Nat.le_trans R.hst.toks (Nat.le_trans st14.toks mv5.2.1)
    have st5 : Step s s5 := by
      obtain ⟨h', t', e⟩ := sr5
      subst e
      exact ⟨h', t', rfl, kp5, tk5⟩
    obtain ⟨m, hm⟩ := id ns5
    exact ⟨m, hm, fun h' sb => hq _ _ (step_letgo st5 (step_none R.hst C0) sb) ((sb.2 _ hDC).trans pl5)⟩
  exact codeAny_compStart_set loop (R.self 0 _ _ _ hst4 loop)

theorem unpack_set {A : Around} {E : Value → Shared → Prop} {x : PySem.Str} {px p : Pos} {i k : Nat} {kd : NameKind} {P : Addr} {s : Shared} {ad : Nat → Addr} {Q : Unit → Shared → Prop} (fx : FnX X) (hr : Room X.k A) (hi : X.env.scope.names[i]? = some (x, kd)) (hkd : kd = .local ∨ kd = .cell)
    (g : Gd X ad Γ s) (hP : s.heap.get? P = some (set1 (byT X.G.w))) (hq : ∀ s', Mv X (fun _ => False) s s' → Gd X ad (setAll Γ [i] [.bool true]) s' → Q () s') : wpAny (model X.G.prog X.G.w) A (assign (.Tuple [.Name x px] k p) X.env (.ref P)) Q E s := by
  have hn : NamesAt X [.Name x px] [i] := ⟨⟨kd, hi, hkd⟩, trivial⟩
  obtain ⟨n1, n2⟩ := assignEach_names _ _ hn
  rw [arm_assign_Tuple]
  refine wpAny_bind (wpAny_standAt ?_)
  unfold unpack
  rw [n2, n1]
  refine wpAny_bind (wpAny_holding (unpackItems_set1 hr.1 hP fun h' kp => ?_))
  exact assign_names fx _ [i] [.bool true] [.bool true] Γ _ ad Q hn rfl (by simp only [Reps, Rep]; exact ⟨_, _, rfl, rfl, rfl⟩) (g.up (step_h kp)) fun s' mv g' => hq s' (Mv.after (step_h kp) mv) g'

/-- x, = {..} -/
theorem XS.unpackSet {x : PySem.Str} {px : Pos} {i k : Nat} {kd : NameKind} {p p' : Pos} {e : PySem.Expr} (hv : EvSet X Γ e) (hi : X.env.scope.names[i]? = some (x, kd)) (hkd : kd = .local ∨ kd = .cell) (hφ : Φ (.next (setAll Γ [i] [.bool true])))
    (hs : swapsWithSole [.Tuple [.Name x px] k p] e p'.line X.env = pure false := by rfl) (hw : swappedStores [.Tuple [.Name x px] k p] e X.env = pure none := by rfl) : XS X Γ (.Assign [.Tuple [.Name x px] k p] e p') Φ := fun fx A s ad Q E hr g hq =>
  wpAny_Assign_stores (hv A s ad _ E hr g fun P s1 st hP => unpack_set (k := k) fx hr hi hkd (g.up st) hP fun s2 mv g2 => hq _ _ s2 hφ (Mv.after st (mv.weak fun _ h => h.elim)) ⟨rfl, ad, g2, fun a h => .inl (ow_setAll _ _ _ h)⟩) hs hw
end
section
seal Ev EvO Tr XS XJ EvL Pt Cmp Bin Spec Tst It Emit
noncomputable def isN (c : List Nat) : Bool := !c.isEmpty && !(c == [46])
/-- the names of a path for commonpath -/
noncomputable def cnm (p : List Nat) : List (List Nat) := (splt 47 p).filter isN
noncomputable def cmn (ps : List (List Nat)) : List (List Nat) := lcp (mnL (ps.map cnm)) (mxL (ps.map cnm))
noncomputable def cmp (ps : List (List Nat)) : List Nat := 47 :: jn [47] (cmn ps)
theorem wt_cnm (p : List Nat) : wt (cnm p) ≤ p.length + 1 := by
  have h1 := wt_filter isN (splt 47 p)
  have h2 := wt_splt 47 p
  unfold cnm; omega
theorem lcp_wt : ∀ a b : List (List Nat), wt (lcp a b) ≤ wt a
  | [], b => by rw [lcp_nil]; exact Nat.le_refl _
  | x :: a, [] => by unfold lcp; simp [wt]
  | x :: a, y :: b => by
    have := lcp_wt a b
    unfold lcp
    split
    · rw [wt_cons, wt_cons]; omega
    · simp [wt]
theorem argBest_lt (bt : Nat → Nat → Bool) : ∀ n, argBest bt n ≤ n
  | 0 => Nat.le_refl _
  | n + 1 => by
    have := argBest_lt bt n
    unfold argBest
    split <;> omega
theorem mnL_mem (ls : List (List (List Nat))) (h : 0 < ls.length) : mnL ls ∈ ls := by
  unfold mnL
  have := argBest_lt (btmin ls) (ls.length - 1)
  have hlt : argBest (btmin ls) (ls.length - 1) < ls.length := by omega
  rw [List.getD_eq_getElem?_getD, List.getElem?_eq_getElem hlt]
  exact List.getElem_mem hlt
theorem cmn_wt (ps : List (List Nat)) (hne : 0 < ps.length) (hl : ∀ p ∈ ps, p.length ≤ 4000) : wt (cmn ps) ≤ 4001 := by
  unfold cmn
  have h1 := lcp_wt (mnL (ps.map cnm)) (mxL (ps.map cnm))
  have h2 := mnL_mem (ps.map cnm) (by simpa using hne)
  obtain ⟨p, hp, e⟩ := List.mem_map.mp h2
  have h3 := wt_cnm p
  have h4 := hl p hp
  rw [e] at h3
  omega

theorem commonpath_spec {G : Gl} (hG : GP G) (p0 : List Nat) (ps : List (List Nat)) (hn : ps.length ≤ 20) (hl : ∀ p ∈ p0 :: ps, p.length ≤ 4000) (hab : ∀ p ∈ p0 :: ps, p.head? = some 47)
    (hlt : llt (mxL ((p0 :: ps).map cnm)) (mnL ((p0 :: ps).map cnm)) = false) : Spec G "commonpath" 4 [.lst ((p0 :: ps).map .str)] (.str (cmp (p0 :: ps))) := by
  have hcw := cmn_wt (p0 :: ps) (Nat.succ_pos _) hl
  refine Spec.fn (i := 19) (xs := ["paths"]) hG (by decide) (bind_1 (by decide +kernel) fun fd hp hd v => by unfold bindArgs; rw [hp, hd]; rfl) rfl (by decide +kernel) 22 fun L a' q cd B h₀ => ?_
  have h : dfAt 19 = ⟨_, _, _, _⟩ := rfl
  unfold cx
  rw [h]
  show XJ _ [some (.v _), none, none, none, none, none, none, none, none, none, none, none, none, none, none, none, none, none, none, none, none, none, none] _ _
  refine XJ.cons (XS.asg (i := 0) (Ev.tupMap (k := 0) rfl (atK 11 rfl) (atK 12 rfl) (atK 13 rfl) (fun x => fspath_spec hG x) (Ev.name (i := 0) rfl rfl ⟨rfl, rfl⟩) rfl) rfl (.inl rfl) ?_)
  dsimp only [List.set]
  have hp0 : ((p0 :: ps).map D.str)[(0 : Int).toNat]? = some (.str p0) := rfl
  generalize hps : p0 :: ps = qs at *
  have hq0 : 0 < qs.length := by rw [← hps]; simp
  have hqe : qs.isEmpty = false := by rw [← hps]; rfl
  have hqn : qs.length ≤ 21 := by rw [← hps]; simp; omega
  refine XJ.cons (XS.iteF (Tr.cast (b := false) (Tr.not (Tr.plain (Ev.o (Ev.name (i := 0) rfl rfl ⟨rfl, rfl⟩)))) (by show (!!(qs.map D.str).isEmpty) = false; rw [List.isEmpty_map, hqe]; rfl)) (XJ.nil ?_))
  refine XJ.cons (XS.iteF (Tr.plain (Ev.o (Ev.isBytes (atK 15 rfl) (atK 16 rfl) (Ev.itemT (Ev.name (i := 0) rfl rfl ⟨rfl, rfl⟩) Ev.int (by decide) hp0)))) ?_)
  refine XJ.cons (XS.asg (i := 1) (d := .str [47]) (Ev.strK K9 (by decide)) rfl (.inr rfl) ?_)
  refine XJ.cons (XS.asg (i := 2) (d := .str [46]) (Ev.strK K10 (by decide)) rfl (.inr rfl) ?_)
  refine XJ.nil ?_
  show XJ _ [some (.v (.tup (qs.map .str))), some (.v (.str [47])), some (.v (.str [46])), none, none, none, none, none, none, none, none, none, none, none, none, none, none, none, none, none, none, none, none] _ _
  refine XJ.cons (XS.try_ ?_)
  have hr1 : ((qs.map D.str).filter (fun _ => true)).map (fun d => wayD (splt 47 (unD d))) = (qs.map (splt 47)).map wayD := by
    rw [filt_tt, List.map_map, List.map_map]; rfl
  refine XJ.cons (XS.asgComp (i := 3) (ds := qs.map .str) (p := fun _ => true) (f := fun d => wayD (splt 47 (unD d)))
    (CompHyp.name 1 [none, none, some (.v (.str [47]))] (It.tup (Ev.name (i := 0) rfl rfl ⟨rfl, rfl⟩) (by intro _ _; rfl)) (by kernel_rfl) rfl ?_ (fun C B d hd => Tst.nil) ?_ ?_) rfl ?_ rfl)
  · exact .of (.none (.none (.some 1 rfl rfl rfl .nil)))
  · intro C B d hd _
    obtain ⟨p, hp, rfl⟩ := List.mem_map.mp hd
    exact (Ev.split (Ev.name (i := 1) rfl rfl ⟨rfl, rfl⟩) (Ev.name (i := 2) rfl rfl ⟨rfl, rfl⟩) rfl)
  · rw [List.length_map]; omega
  rw [hr1]
  refine XJ.cons (XS.try_ ?_)
  have hno : NoOwn ([none, none, some (.v (.str [47]))] : Gam) := .no (.no (.ve .done))
  refine XJ.cons (XS.unpackSet (i := 4) (kd := .local) (Ev.setComp (ds := qs.map .str) (Γ' := [none, none, some (.v (.str [47]))]) (tgt := fun d => [none, some (.v d), some (.v (.str [47]))]) (by kernel_rfl) ?_ ?_ ?_ ?_ (It.tup (Ev.name (i := 0) rfl rfl ⟨rfl, rfl⟩) (by intro _ _; rfl)) (by simpa using hq0)) rfl (.inl rfl) ?_)
  · exact .of (.none (.none (.some 1 rfl rfl rfl .nil)))
  · intro C B d hd
    exact CTgt.name (i := 1) hno rfl
  · intro d hd
    exact SubG.no (.new (.same .done))
  · intro C B d hd
    obtain ⟨p, hp, rfl⟩ := List.mem_map.mp hd
    exact Ev.cast (Ev.starts (Ev.name (i := 1) rfl rfl ⟨rfl, rfl⟩) (Ev.name (i := 2) rfl rfl ⟨rfl, rfl⟩) rfl) (by rw [hab p hp]; rfl)
  refine XJ.nil ?_
  show XJ _ [some (.v (.tup (qs.map .str))), some (.v (.str [47])), some (.v (.str [46])), some (.v (.lst ((qs.map (splt 47)).map wayD))), some (.v (.bool true)), none, none, none, none, none, none, none, none, none, none, none, none, none, none, none, none, none, none] _ _
  have hr2 : (((qs.map (splt 47)).map wayD).filter (fun _ => true)).map (fun d => wayD ((unW d).filter isN)) = (qs.map cnm).map wayD := by
    rw [filt_tt, List.map_map, List.map_map, List.map_map]
    refine List.map_congr_left fun p _ => ?_
    show wayD ((unW (wayD (splt 47 p))).filter isN) = wayD (cnm p)
    rw [unW_wayD]; rfl
  refine XJ.cons (XS.asgComp (i := 3) (ds := (qs.map (splt 47)).map wayD) (p := fun _ => true) (f := fun d => wayD ((unW d).filter isN))
    (CompHyp.name 1 [none, none, some (.v (.str [46]))] (It.lst (Ev.name (i := 3) rfl rfl ⟨rfl, rfl⟩) (by intro _ _; rfl)) (by kernel_rfl) rfl ?_ (fun C B d hd => Tst.nil) ?_ ?_) rfl ?_ rfl)
  · exact .of (.none (.none (.some 2 rfl rfl rfl .nil)))
  · intro C B d hd _
    obtain ⟨l, hl2, rfl⟩ := List.mem_map.mp hd
    obtain ⟨p, hp, rfl⟩ := List.mem_map.mp hl2
    have hpl := hl p hp
    have hwp := wt_splt 47 p
    have hlp := wt_ge (splt 47 p)
    rw [unW_wayD]
    have hff : ((((splt 47 p).map D.str).filter fun d => isN (unD d)).map fun d => d) = ((splt 47 p).filter isN).map .str := by
      rw [List.map_id', List.filter_map]; rfl
    refine Ev.cast (Ev.comp (ds := (splt 47 p).map .str) (p := fun d => isN (unD d)) (f := fun d => d) (CompHyp.name 1 [none, none, some (.v (.str [46]))] (It.lst (Ev.name (i := 1) rfl rfl ⟨rfl, rfl⟩) (by intro _ _; rfl)) (by kernel_rfl) rfl ?_ ?_ ?_ ?_)) (by rw [hff]; rfl)
    · exact .of (.none (.none (.some 2 rfl rfl rfl .nil)))
    · intro C' B' d hd
      obtain ⟨s, hs, rfl⟩ := List.mem_map.mp hd
      exact Tst.one (Tr.cast (Tr.and (Tr.plain (d := .str s) (Ev.o (Ev.name (i := 1) rfl rfl ⟨rfl, rfl⟩))) (fun _ => Tr.and (Tr.cm (Ev.o (Ev.name (i := 1) rfl rfl ⟨rfl, rfl⟩)) (Ev.o (Ev.name (i := 2) rfl rfl ⟨rfl, rfl⟩)) Cmp.ne_str) (fun _ => Tr.and_nil))) (by show ((!s.isEmpty) && ((!(s == [46])) && true)) = isN s; rw [Bool.and_true]; rfl))
    · intro C' B' d hd hpd
      exact (Ev.name (i := 1) rfl rfl ⟨rfl, rfl⟩)
    · rw [List.length_map]; omega
  · rw [List.length_map, List.length_map]; omega
  rw [hr2]
  show XJ _ [some (.v (.tup (qs.map .str))), some (.v (.str [47])), some (.v (.str [46])), some (.v (.lst ((qs.map cnm).map wayD))), some (.v (.bool true)), none, none, none, none, none, none, none, none, none, none, none, none, none, none, none, none, none, none] _ _
  have hcm : cmp qs = [47] ++ jn [47] (cmn qs) := rfl
  have hcn : cmn qs = lcp (mnL (qs.map cnm)) (mxL (qs.map cnm)) := rfl
  generalize hws : qs.map cnm = ws at *
  have hwn : 0 < ws.length := by rw [← hws]; simpa using hq0
  refine XJ.cons (XS.asg (i := 6) (d := .lst ((mnL ws).map .str)) (Ev.min (ls := ws) (atK 17 rfl) (Ev.name (i := 3) rfl rfl ⟨rfl, rfl⟩) hwn) rfl (.inl rfl) ?_)
  refine XJ.cons (XS.asg (i := 7) (d := .lst ((mxL ws).map .str)) (Ev.max (ls := ws) (atK 18 rfl) (Ev.name (i := 3) rfl rfl ⟨rfl, rfl⟩) hwn) rfl (.inl rfl) ?_)
  dsimp only [List.set]
  generalize mnL ws = s1 at *
  generalize mxL ws = s2 at *
  refine XJ.cons (XS.asg (i := 8) (d := .lst (s1.map .str)) (Ev.name (i := 6) rfl rfl ⟨rfl, rfl⟩) rfl (.inl rfl) ?_)
  dsimp only [List.set]
  have hjw := jn_wt 47 (cmn qs)
  have hjl := wt_len (cmn qs)
  refine XJ.cons (XS.mono (Φ := fun o => ∃ c5 c9, o = .next [some (.v (.tup (qs.map .str))), some (.v (.str [47])), some (.v (.str [46])), some (.v (.lst (ws.map wayD))), some (.v (.bool true)), c5, some (.v (.lst (s1.map .str))), some (.v (.lst (s2.map .str))), some (.v (.lst ((cmn qs).map .str))), c9, none, none, none, none, none, none, none, none, none, none, none, none, none]) (XS.forT (is := [9, 5]) (It.cast (It.enum (atK 19 rfl) (Ev.name (i := 6) rfl rfl ⟨rfl, rfl⟩)) (enumD_eq s1)) ⟨⟨.local, rfl, .inl rfl⟩, ⟨.local, rfl, .inl rfl⟩, trivial⟩ (enumI_len s1 0)
    (ForJ.lcp (fun Γ => ∃ c5 c9, Γ = [some (.v (.tup (qs.map .str))), some (.v (.str [47])), some (.v (.str [46])), some (.v (.lst (ws.map wayD))), some (.v (.bool true)), c5, some (.v (.lst (s1.map .str))), some (.v (.lst (s2.map .str))), some (.v (.lst (s1.map .str))), c9, none, none, none, none, none, none, none, none, none, none, none, none, none]) s1 s2 ?_ ?_ ?_ s1 s2 [] _ rfl rfl hlt ⟨none, none, rfl⟩)) ?_)
  · rintro p u v x Γ h1 h2 ⟨c1, c2, rfl⟩
    have hi := pre_item h2
    have hn : (0 : Int) ≤ (p.length : Int) := Int.natCast_nonneg _
    refine XJ.cons (XS.iteF (Tr.cast (Tr.cm (Ev.o (Ev.name (i := 5) rfl rfl ⟨rfl, rfl⟩)) (Ev.o (Ev.itemN (Ev.o (Ev.name (i := 7) rfl rfl ⟨rfl, rfl⟩)) (Ev.name (i := 9) rfl rfl ⟨rfl, rfl⟩) (by walk_at "side") (by walk_at "ix"))) (by walk_at "cmp")) (by simp)) ?_)
    exact XJ.nil (XJ.nil ⟨_, rfl, _, _, rfl⟩)
  · rintro p u v x y Γ hxy h1 h2 ⟨c1, c2, rfl⟩
    have hi := pre_item h2
    have hn : (0 : Int) ≤ (p.length : Int) := Int.natCast_nonneg _
    have e3 : cmn qs = p := by rw [hcn, h1, h2, lcp_pre]; simp [lcp, hxy]
    refine XJ.cons (XS.iteT (Tr.cast (Tr.cm (Ev.o (Ev.name (i := 5) rfl rfl ⟨rfl, rfl⟩)) (Ev.o (Ev.itemN (Ev.o (Ev.name (i := 7) rfl rfl ⟨rfl, rfl⟩)) (Ev.name (i := 9) rfl rfl ⟨rfl, rfl⟩) (by walk_at "side") (by walk_at "ix"))) (by walk_at "cmp")) (by simpa using hxy)) ?_)
    refine XJ.cons (XS.asg (i := 8) (d := .lst (p.map .str)) (Ev.cast (by first | exact Ev.sliceS (Ev.name (i := 6) rfl rfl ⟨rfl, rfl⟩) Pt.no (Pt.so (Ev.name (i := 9) rfl rfl ⟨rfl, rfl⟩)) | exact Ev.sliceL (Ev.o (Ev.name (i := 6) rfl rfl ⟨rfl, rfl⟩)) Pt.no (Pt.so (Ev.name (i := 9) rfl rfl ⟨rfl, rfl⟩))) (by rw [pre_slice h1])) rfl (.inl rfl) ?_)
    refine XJ.cons (XS.brk ⟨some (.v (.str x)), some (.v (.int p.length)), ?_⟩)
    rw [e3]; rfl
  · rintro Γ ⟨c1, c2, rfl⟩ he
    refine ⟨c1, c2, ?_⟩
    rw [hcn, he]
  rintro o ⟨c5, c9, rfl⟩
  show XJ _ [some (.v (.tup (qs.map .str))), some (.v (.str [47])), some (.v (.str [46])), some (.v (.lst (ws.map wayD))), some (.v (.bool true)), c5, some (.v (.lst (s1.map .str))), some (.v (.lst (s2.map .str))), some (.v (.lst ((cmn qs).map .str))), c9, none, none, none, none, none, none, none, none, none, none, none, none, none] _ _
  rw [hcm]
  generalize hcz : cmn qs = cm at *
  have hz1 : (cm.map (·.length)).sum + cm.length * ([47] : List Nat).length ≤ 16777216 := by
    rw [show ([47] : List Nat).length = 1 from rfl, Nat.mul_one]; omega
  have hz2 : (jn [47] cm).length ≤ 1048576 := by omega
  have hz3 : ([47] : List Nat).length + (jn [47] cm).length ≤ 1048576 := by rw [show ([47] : List Nat).length = 1 from rfl]; omega
  refine XJ.cons (XS.asg (i := 10) (d := .str [47]) (Ev.cast (Ev.ifexp (c := true) (d2 := .str []) (Tr.cast (Tr.plain (Ev.o (Ev.name (i := 4) rfl rfl ⟨rfl, rfl⟩))) rfl) (fun _ => (Ev.name (i := 1) rfl rfl ⟨rfl, rfl⟩)) (fun h => by cases h)) rfl) rfl (.inl rfl) ?_)
  dsimp only [List.set]
  exact XJ.cons (XS.ret (Ev.bin (Ev.o (Ev.name (i := 10) rfl rfl ⟨rfl, rfl⟩)) (Ev.o (Ev.join (Ev.name (i := 1) rfl rfl ⟨rfl, rfl⟩) (Ev.name (i := 8) rfl rfl ⟨rfl, rfl⟩) (by first | exact hz1 | walk_at "side") (by first | exact hz2 | walk_at "side") rfl)) (Bin.add_str hz3)) rfl)
end
section
seal Ev EvO Tr XS XJ EvL Pt Cmp Bin Spec Tst It Emit
noncomputable def hrF (f p : List Nat) : List Nat := if p.take 2 == [47, 47] then p else rlp p f
noncomputable def rowF (dress : Int) (hs ps : List (List Nat)) (k : Nat) : List Nat := opn dress [] (hs.getD k []) (ps.getD k []) ++ [60, 47, 101, 62]
noncomputable def flatF (dress : Int) (ps : List (List Nat)) : List Nat :=
  opn dress (jnp (cmp ps) []) [46] (cmp ps) ++ ((List.range ps.length).flatMap (rowF dress (ps.map (hrF (cmp ps))) ps)) ++ [60, 47, 101, 62]

theorem rowF_len (dress : Int) (hs ps : List (List Nat)) (k : Nat) (h1 : ∀ p ∈ ps, p.length ≤ 4000) (h2 : ∀ p ∈ hs, p.length ≤ 9000) : (rowF dress hs ps k).length ≤ 80000 := by
  have a1 : (hs.getD k []).length ≤ 9000 := by
    rw [List.getD_eq_getElem?_getD]
    cases h : hs[k]? with
    | none => simp
    | some x => exact h2 x (List.mem_of_getElem? h)
  have a2 : (ps.getD k []).length ≤ 4000 := by
    rw [List.getD_eq_getElem?_getD]
    cases h : ps[k]? with
    | none => simp
    | some x => exact h1 x (List.mem_of_getElem? h)
  have a3 := opn_len dress [] (hs.getD k []) (ps.getD k [])
  unfold rowF
  rw [List.length_append]
  simp only [List.length_cons, List.length_nil] at a3 ⊢
  omega
theorem flatL (f : Nat → List Nat) (m : Nat) : ∀ l : List Nat, (∀ k ∈ l, (f k).length ≤ m) → (l.flatMap f).length ≤ l.length * m
  | [], _ => by simp
  | k :: l, h => by
    have h1 := h k (by simp)
    have h2 := flatL f m l fun k hk => h k (by simp [hk])
    rw [List.flatMap_cons, List.length_append, List.length_cons, Nat.succ_mul]
    omega

theorem flat_spec {G : Gl} (hG : GP G) (p0 : List Nat) (ps : List (List Nat)) (dress : Int) (hn : ps.length ≤ 5) (hl : ∀ p ∈ p0 :: ps, p.length ≤ 4000) (hab : ∀ p ∈ p0 :: ps, p.head? = some 47)
    (hlt : llt (mxL ((p0 :: ps).map cnm)) (mnL ((p0 :: ps).map cnm)) = false)
    (hrel : ∀ p ∈ p0 :: ps, (p.take 2 == [47, 47]) = false → Spec G "relpath" 5 [.str p, .str (cmp (p0 :: ps))] (.str (rlp p (cmp (p0 :: ps)))))
    (hrl : ∀ p ∈ p0 :: ps, (hrF (cmp (p0 :: ps)) p).length ≤ 9000) :
    Spec G "_law_flat" 6 [.lst ((p0 :: ps).map .str), .int dress] (.str (flatF dress (p0 :: ps))) := by
  have s1 := commonpath_spec hG p0 ps (by omega) hl hab hlt
  have hcw := cmn_wt (p0 :: ps) (Nat.succ_pos _) hl
  have hcl : (cmp (p0 :: ps)).length ≤ 4002 := by
    have := jn_wt 47 (cmn (p0 :: ps))
    show (jn [47] (cmn (p0 :: ps))).length + 1 ≤ _
    omega
  have s2 := join_spec hG (cmp (p0 :: ps)) [] (by show _ + 0 + 1 ≤ _; omega)
  have hjl := jnp_len (cmp (p0 :: ps)) []
  have s3 := open_spec hG (jnp (cmp (p0 :: ps)) []) [46] (cmp (p0 :: ps)) dress (by simp only [List.length_nil] at hjl; omega) (by decide) (by omega)
  have hol := opn_len dress (jnp (cmp (p0 :: ps)) []) [46] (cmp (p0 :: ps))
  refine Spec.fn (i := 34) (xs := ["places", "dress"]) hG (by decide) (bind_2 (by decide +kernel) fun fd hp hd v u => by unfold bindArgs; rw [hp, hd]; rfl) rfl (by decide +kernel) 8 fun L a' q cd B h₀ => ?_
  have h : dfAt 34 = ⟨_, _, _, _⟩ := rfl
  unfold cx
  rw [h]
  show XJ _ [some (.v _), some (.v _), none, none, none, none, none, none, none, none] _ _
  generalize hps : p0 :: ps = qs at *
  have hqn : qs.length ≤ 6 := by rw [← hps]; simp; omega
  have hff : flatF dress qs = opn dress (jnp (cmp qs) []) [46] (cmp qs) ++ ((List.range qs.length).flatMap (rowF dress (qs.map (hrF (cmp qs))) qs)) ++ [60, 47, 101, 62] := rfl
  refine XJ.cons (XS.asg (i := 2) (Ev.call (atK 5 rfl) (EvL.cons (Ev.name (i := 0) rfl rfl ⟨rfl, rfl⟩) EvL.nil rfl) (s1) (Nat.le_of_ble_eq_true rfl) rfl) rfl (.inr rfl) ?_)
  dsimp only [List.set]
  generalize hcz : cmp qs = F at *
  have hr1 : ((qs.map D.str).filter (fun _ => true)).map (fun d => D.str (hrF F (unD d))) = (qs.map (hrF F)).map .str := by
    rw [filt_tt, List.map_map, List.map_map]; rfl
  refine XJ.cons (XS.asgE (i := 3) (d := .lst ((qs.map (hrF F)).map .str)) (Ev.cast (Ev.comp (ds := qs.map .str) (p := fun _ => true) (f := fun d => D.str (hrF F (unD d)))
    (CompHyp.name 1 [none, none, none, some (.v (.str F))] (It.lst (Ev.name (i := 0) rfl rfl ⟨rfl, rfl⟩) (by intro _ _; rfl)) (by kernel_rfl) rfl ?_ (fun C B d hd => Tst.nil) ?_ ?_)) (by rw [hr1])) rfl (.inr rfl) ?_)
  · exact .of (.none (.none (.none (.some 2 rfl rfl rfl .nil))))
  · intro C B d hd _
    obtain ⟨p, hp, rfl⟩ := List.mem_map.mp hd
    have hsl : slc p none (some (2 : Int)) = p.take 2 := slc_to p 2
    show Ev _ [none, some (.v (.str p)), none, some (.v (.str F))] _ (.str (hrF F p))
    refine Ev.cast (Ev.ifexp (c := p.take 2 == [47, 47]) (d1 := .str p) (d2 := .str (rlp p F)) (Tr.cast (Tr.cm (Ev.o (by first | exact Ev.sliceS (Ev.name (i := 1) rfl rfl ⟨rfl, rfl⟩) Pt.no (Pt.so Ev.int) | exact Ev.sliceL (Ev.o (Ev.name (i := 1) rfl rfl ⟨rfl, rfl⟩)) Pt.no (Pt.so Ev.int))) (Ev.o (Ev.strK K34 (by decide))) (by walk_at "cmp")) (by rw [hsl])) (fun hc => Ev.name (i := 1) rfl rfl ⟨rfl, rfl⟩) (fun hc => ?_)) ?_
    · have s4 := hrel p hp hc
      exact (Ev.call (atK 2 rfl) (EvL.cons (Ev.name (i := 1) rfl rfl ⟨rfl, rfl⟩) (EvL.cons (Ev.name (i := 3) rfl rfl ⟨rfl, rfl⟩) EvL.nil rfl) rfl) (s4) (Nat.le_of_ble_eq_true rfl) rfl)
    · unfold hrF; split <;> rfl
  · rw [List.length_map]; omega
  dsimp only [List.set]
  have hhl : ∀ h ∈ qs.map (hrF F), h.length ≤ 9000 := fun h hh => by
    obtain ⟨p, hp, rfl⟩ := List.mem_map.mp hh
    exact hrl p hp
  have hhn : (qs.map (hrF F)).length = qs.length := List.length_map _
  generalize hhz : qs.map (hrF F) = hs at *
  have hrow := fun k => rowF_len dress hs qs k hl hhl
  have hr2 : (((List.range qs.length).map iD).filter (fun _ => true)).map (fun d => match d with | .int c => D.str (rowF dress hs qs c.toNat) | _ => .non) = ((List.range qs.length).map (rowF dress hs qs)).map .str := by
    rw [filt_tt, List.map_map, List.map_map]; rfl
  have hrg : rangeD 0 (((qs.map D.str).length : Int)).toNat = (List.range qs.length).map iD := by
    unfold rangeD iD
    rw [Int.toNat_natCast, List.length_map]
    refine List.map_congr_left fun i _ => ?_
    rw [Int.zero_add]
  refine XJ.cons (XS.asgComp (i := 4) (ds := (List.range qs.length).map iD) (p := fun _ => true) (f := fun d => match d with | .int c => D.str (rowF dress hs qs c.toNat) | _ => .non)
    (CompHyp.name 1 [none, none, none, some (.v (.int dress)), some (.v (.lst (hs.map .str))), some (.v (.lst (qs.map .str)))] (It.cast (It.range1 (atK 6 rfl) (n := ((qs.map D.str).length : Int)) (by first | exact Ev.lenS (atK 7 rfl) (Ev.name (i := 0) rfl rfl ⟨rfl, rfl⟩) | exact Ev.lenL (atK 7 rfl) (Ev.o (Ev.name (i := 0) rfl rfl ⟨rfl, rfl⟩))) (by omega) (by rw [List.length_map]; omega)) hrg) (by kernel_rfl) rfl ?_ (fun C B d hd => Tst.nil) ?_ ?_) rfl ?_ rfl)
  · exact .of (.none (.none (.none (.some 1 rfl rfl rfl (.some 3 rfl rfl rfl (.some 0 rfl rfl rfl .nil))))))
  · intro C B d hd _
    obtain ⟨k, hk, rfl⟩ := List.mem_map.mp hd
    rw [List.mem_range] at hk
    have hk0 : (0 : Int) ≤ (k : Int) := Int.natCast_nonneg _
    have hg1 : (hs.map D.str)[((k : Nat) : Int).toNat]? = some (.str (hs.getD k [])) := getD_get (by omega)
    have hg2 : (qs.map D.str)[((k : Nat) : Int).toNat]? = some (.str (qs.getD k [])) := getD_get (by omega)
    have l1 : (hs.getD k []).length ≤ 9000 := by
      rw [List.getD_eq_getElem?_getD, List.getElem?_eq_getElem (by omega)]
      exact hhl _ (List.getElem_mem _)
    have l2 : (qs.getD k []).length ≤ 4000 := by
      rw [List.getD_eq_getElem?_getD, List.getElem?_eq_getElem (by omega)]
      exact hl _ (List.getElem_mem _)
    have s4 := open_spec hG [] (hs.getD k []) (qs.getD k []) dress (by decide) (by omega) (by omega)
    have hrk := hrow k
    show Ev _ [none, some (.v (.int k)), none, some (.v (.int dress)), some (.v (.lst (hs.map .str))), some (.v (.lst (qs.map .str)))] _ (.str (rowF dress hs qs k))
    have hz : (opn dress [] (hs.getD k []) (qs.getD k [])).length + ([60, 47, 101, 62] : List Nat).length ≤ 1048576 := by
      unfold rowF at hrk
      rw [List.length_append] at hrk
      omega
    exact Ev.bin (Ev.o (Ev.call (atK 2 rfl) (EvL.cons (Ev.strK K8 (by decide)) (EvL.cons (Ev.itemN (Ev.o (Ev.name (i := 4) rfl rfl ⟨rfl, rfl⟩)) (Ev.name (i := 1) rfl rfl ⟨rfl, rfl⟩) (by walk_at "side") (by walk_at "ix")) (EvL.cons (Ev.itemN (Ev.o (Ev.name (i := 5) rfl rfl ⟨rfl, rfl⟩)) (Ev.name (i := 1) rfl rfl ⟨rfl, rfl⟩) (by walk_at "side") (by walk_at "ix")) (EvL.cons (Ev.name (i := 3) rfl rfl ⟨rfl, rfl⟩) EvL.nil rfl) rfl) rfl) rfl) (s4) (Nat.le_of_ble_eq_true rfl) rfl)) (Ev.o (Ev.strK K35 (by decide))) (Bin.add_str hz)
  · rw [List.length_map, List.length_range]; omega
  rw [hr2]
  show XJ _ [some (.v (.lst (qs.map .str))), some (.v (.int dress)), some (.v (.str F)), some (.v (.lst (hs.map .str))), some (.v (.lst (((List.range qs.length).map (rowF dress hs qs)).map .str))), none, none, none, none, none] _ _
  have hfl := flatL (rowF dress hs qs) 80000 (List.range qs.length) fun k _ => hrow k
  rw [List.length_range] at hfl
  have hjf : jn [] ((List.range qs.length).map (rowF dress hs qs)) = (List.range qs.length).flatMap (rowF dress hs qs) := by rw [jn_flat, List.flatMap_def]
  have hsum : (((List.range qs.length).map (rowF dress hs qs)).map (fun x => x.length)).sum = ((List.range qs.length).flatMap (rowF dress hs qs)).length := by rw [List.flatMap_def, List.length_flatten]
  have hz1 : (((List.range qs.length).map (rowF dress hs qs)).map (fun x => x.length)).sum + ((List.range qs.length).map (rowF dress hs qs)).length * ([] : List Nat).length ≤ 16777216 := by rw [hsum]; simp only [List.length_nil, Nat.mul_zero]; omega
  have hz2 : (jn [] ((List.range qs.length).map (rowF dress hs qs))).length ≤ 1048576 := by rw [hjf]; omega
  simp only [List.length_cons, List.length_nil] at hjl hol
  have hz3 : (opn dress (jnp F []) [46] F).length + (jn [] ((List.range qs.length).map (rowF dress hs qs))).length ≤ 1048576 := by rw [hjf]; omega
  have hz4 : (opn dress (jnp F []) [46] F ++ jn [] ((List.range qs.length).map (rowF dress hs qs))).length + ([60, 47, 101, 62] : List Nat).length ≤ 1048576 := by rw [List.length_append, hjf]; simp only [List.length_cons, List.length_nil]; omega
  refine XJ.cons (XS.ret (Ev.cast (Ev.bin (Ev.o (Ev.bin (Ev.o (Ev.call (atK 8 rfl) (EvL.cons (Ev.call (atK 9 rfl) (EvL.cons (Ev.name (i := 2) rfl rfl ⟨rfl, rfl⟩) (EvL.cons (Ev.strK K8 (by decide)) EvL.nil rfl) rfl) (s2) (Nat.le_of_ble_eq_true rfl) rfl) (EvL.cons (Ev.strK K10 (by decide)) (EvL.cons (Ev.name (i := 2) rfl rfl ⟨rfl, rfl⟩) (EvL.cons (Ev.name (i := 1) rfl rfl ⟨rfl, rfl⟩) EvL.nil rfl) rfl) rfl) rfl) (s3) (Nat.le_of_ble_eq_true rfl) rfl)) (Ev.o (Ev.join (Ev.strK K8 (by decide)) (Ev.name (i := 4) rfl rfl ⟨rfl, rfl⟩) hz1 hz2 rfl)) (Bin.add_str hz3))) (Ev.o (Ev.strK K35 (by decide))) (Bin.add_str hz4)) ?_) rfl)
  rw [hjf, hff]
end
section
seal Ev EvO Tr XS XJ EvL Pt Cmp Bin Spec Tst It Emit
-- the escapes undone
noncomputable def gbit (bit : List Nat) : List Nat := if !(prt 59 bit).2.1.isEmpty && (dget sgD (prt 59 bit).1).isSome then (dget sgD (prt 59 bit).1).getD [] ++ (prt 59 bit).2.2 else [38] ++ bit
theorem sgfold (bs : List (List Nat)) : ∀ w, bs.foldl sgstep w = w ++ bs.flatMap gbit := by
  induction bs with
  | nil => intro w; simp
  | cons b bs ih =>
    intro w
    rw [List.foldl_cons, ih, List.flatMap_cons]
    show (w ++ gbit b) ++ _ = _
    rw [List.append_assoc]
theorem sgn_of {t p : List Nat} {ps : List (List Nat)} (h : splt 38 t = p :: ps) : sgn t = p ++ ps.flatMap gbit := by
  unfold sgn
  rw [h]
  exact sgfold ps p
theorem sgn_cons {c : Nat} {t : List Nat} (hc : c ≠ 38) : sgn (c :: t) = c :: sgn t := by
  rcases h : splt 38 t with _ | ⟨p, ps⟩
  · exact absurd h (splt_ne 38 t)
  · have : splt 38 (c :: t) = (c :: p) :: ps := by unfold splt; rw [if_neg hc, h]
    rw [sgn_of this, sgn_of h]; rfl
theorem splt_pre {c : Nat} {t p : List Nat} {ps : List (List Nat)} (h : splt c t = p :: ps) : ∀ {q : List Nat}, c ∉ q → splt c (q ++ t) = (q ++ p) :: ps
  | [], _ => h
  | a :: q, hq => by
    simp only [List.mem_cons, not_or] at hq
    show splt c (a :: (q ++ t)) = _
    unfold splt
    rw [if_neg (Ne.symm hq.1), splt_pre h hq.2]; rfl
theorem prt_cut {c : Nat} {p : List Nat} (r : List Nat) (h : c ∉ p) : prt c (p ++ c :: r) = (p, [c], r) := by
  unfold prt
  rw [if_pos (by simp)]
  have h1 : (p ++ c :: r).takeWhile (· != c) = p := by
    rw [List.takeWhile_append_of_pos (by intro x hx; simp; rintro rfl; exact h hx)]
    simp
  have h2 : (p ++ c :: r).dropWhile (· != c) = c :: r := by
    rw [List.dropWhile_append_of_pos (by intro x hx; simp; rintro rfl; exact h hx)]
    simp
  rw [h1, h2]; rfl
theorem sgn_ent {name v : List Nat} (t : List Nat) (h1 : 38 ∉ name) (h2 : 59 ∉ name) (hd : dget sgD name = some v) : sgn (38 :: (name ++ 59 :: t)) = v ++ sgn t := by
  rcases h : splt 38 t with _ | ⟨p, ps⟩
  · exact absurd h (splt_ne 38 t)
  · have e0 : splt 38 ((name ++ [59]) ++ t) = ((name ++ [59]) ++ p) :: ps := splt_pre h (by simp [h1])
    have e1 : splt 38 (38 :: (name ++ 59 :: t)) = [] :: ((name ++ 59 :: p) :: ps) := by
      show splt 38 ([] ++ 38 :: (name ++ 59 :: t)) = _
      rw [splt_cut _ (by simp)]
      congr 1
      simpa using e0
    rw [sgn_of e1, sgn_of h, List.flatMap_cons]
    have : gbit (name ++ 59 :: p) = v ++ p := by
      unfold gbit
      rw [prt_cut p h2, hd]; rfl
    rw [this]; simp
theorem fz_out : ∀ (l : List (Nat × List Nat)) (a : Nat), (∀ p ∈ l, p.1 ≠ a) → fz l a = [a]
  | [], _, _ => rfl
  | p :: l, a, h => by
    have h1 : rp p.1 p.2 [a] = [a] := by
      unfold rp
      simp [Ne.symm (h p (by simp))]
    show l.foldl (fun acc p => rp p.1 p.2 acc) (rp p.1 p.2 [a]) = [a]
    rw [h1]
    exact fz_out l a fun q hq => h q (by simp [hq])
/-- a table whose each sign is undone -/
noncomputable def okT (l : List (Nat × List Nat)) : Bool := (l.map (·.1)).contains 38 && l.all fun p =>
  (fz l p.1).head? == some 38 && (fz l p.1).getLast? == some 59 && !(((fz l p.1).drop 1).dropLast.contains 38) && !(((fz l p.1).drop 1).dropLast.contains 59) && dget sgD (((fz l p.1).drop 1).dropLast) == some [p.1] && 2 ≤ (fz l p.1).length
theorem okT_at {l : List (Nat × List Nat)} (h : okT l = true) (a : Nat) : (fz l a = [a] ∧ a ≠ 38) ∨ ∃ name, fz l a = 38 :: (name ++ [59]) ∧ dget sgD name = some [a] ∧ 38 ∉ name ∧ 59 ∉ name := by
  unfold okT at h
  simp only [Bool.and_eq_true, List.all_eq_true] at h
  obtain ⟨h0, h⟩ := h
  by_cases ha : ∃ p ∈ l, p.1 = a
  · obtain ⟨p, hp, rfl⟩ := ha
    obtain ⟨⟨⟨⟨⟨q1, q2⟩, q3⟩, q4⟩, q5⟩, q6⟩ := h p hp
    refine .inr ⟨((fz l p.1).drop 1).dropLast, ?_, by simpa using q5, by simpa using q3, by simpa using q4⟩
    generalize fz l p.1 = z at *
    rcases z with _ | ⟨x, z⟩
    · simp at q1
    · rcases List.eq_nil_or_concat z with rfl | ⟨z', y, rfl⟩
      · simp at q6
      · rw [List.concat_eq_append] at *
        have e1 : x = 38 := by simpa using q1
        have e2 : y = 59 := by
          rw [List.getLast?_cons] at q2
          simpa using q2
        subst e1; subst e2
        simp
  · refine .inl ⟨fz_out l a fun p hp e => ha ⟨p, hp, e⟩, fun e => ha ?_⟩
    rw [List.contains_iff_mem] at h0
    obtain ⟨p, hp, e'⟩ := List.mem_map.mp h0
    exact ⟨p, hp, e'.trans e.symm⟩
theorem sgn_esc {l : List (Nat × List Nat)} (h : okT l = true) : ∀ x, sgn (esc l x) = x
  | [] => rfl
  | a :: x => by
    have ih := sgn_esc h x
    have e : esc l (a :: x) = fz l a ++ esc l x := by unfold esc; rw [List.flatMap_cons]
    rw [e]
    rcases okT_at h a with ⟨h1, h2⟩ | ⟨name, h1, h2, h3, h4⟩
    · rw [h1]
      show sgn (a :: esc l x) = _
      rw [sgn_cons h2, ih]
    · rw [h1]
      have : (38 :: (name ++ [59])) ++ esc l x = 38 :: (name ++ 59 :: esc l x) := by simp
      rw [this, sgn_ent _ h3 h4 h2, ih]; rfl
theorem okV (n : Int) : okT (tV n) = true := by
  unfold tV
  split
  · decide +kernel
  · split <;> decide +kernel
theorem okC (n : Int) : okT (tT n) = true := by
  unfold tT
  split <;> decide +kernel

/-- a sign that a table spells otherwise -/
noncomputable def gone (l : List (Nat × List Nat)) (c : Nat) : Bool := (l.map (·.1)).contains c && l.all fun p => !(fz l p.1).contains c
theorem gone_esc {l : List (Nat × List Nat)} {c : Nat} (h : gone l c = true) (t : List Nat) : c ∉ esc l t := by
  unfold gone at h
  simp only [Bool.and_eq_true, List.all_eq_true, Bool.not_eq_true', List.contains_iff_mem] at h
  obtain ⟨h0, h1⟩ := h
  intro hm
  unfold esc at hm
  obtain ⟨a, _, ha⟩ := List.mem_flatMap.mp hm
  by_cases hk : ∃ p ∈ l, p.1 = a
  · obtain ⟨p, hp, rfl⟩ := hk
    have := h1 p hp
    rw [← Bool.not_eq_true, List.contains_iff_mem] at this
    exact this ha
  · rw [fz_out l a fun p hp e => hk ⟨p, hp, e⟩] at ha
    simp only [List.mem_singleton] at ha
    subst ha
    obtain ⟨p, hp, e'⟩ := List.mem_map.mp h0
    exact hk ⟨p, hp, e'⟩
theorem gone34 (n : Int) (t : List Nat) : 34 ∉ esc (tV n) t := by
  refine gone_esc ?_ t
  unfold tV
  split
  · decide +kernel
  · split <;> decide +kernel
theorem gone60 (n : Int) (t : List Nat) : 60 ∉ esc (tT n) t := by
  refine gone_esc ?_ t
  unfold tT
  split <;> decide +kernel
theorem gone62 (n : Int) (t : List Nat) : 62 ∉ esc (tT n) t := by
  refine gone_esc ?_ t
  unfold tT
  split <;> decide +kernel
theorem sgl_gone (n : Int) : ∀ s ∈ sgl n, ∃ c, s = [c] ∧ gone (tV n) c = true := by
  unfold sgl tV
  have f : ∀ (l : List (Nat × List Nat)) (ss : List (List Nat)), (ss.all fun s => match s with | [c] => gone l c | _ => false) = true → ∀ s ∈ ss, ∃ c, s = [c] ∧ gone l c = true := fun l ss h s hs => by
    have := List.all_eq_true.mp h s hs
    rcases s with _ | ⟨c, _ | ⟨d, r⟩⟩
    · cases this
    · exact ⟨c, rfl, this⟩
    · cases this
  split
  · exact f _ _ (by decide +kernel)
  · split
    · exact f _ _ (by decide +kernel)
    · exact f _ _ (by decide +kernel)
theorem bare_esc (n : Int) (b h t : List Nat) : bare n (esc (tV n) b ++ esc (tV n) h) (esc (tT n) t) = false := by
  unfold bare
  rw [Bool.or_eq_false_iff, Bool.or_eq_false_iff, Bool.and_eq_false_iff]
  refine ⟨?_, ?_, ?_⟩
  · rw [List.any_eq_false]
    intro s hs
    obtain ⟨c, rfl, hg⟩ := sgl_gone n s hs
    rw [txt_contains]
    have h1 := gone_esc hg b
    have h2 := gone_esc hg h
    simp [h1, h2]
  · exact decide_eq_false (gone62 n t)
  · by_cases hq : ((n.fdiv 3).fmod 2 == 1) = true
    · right
      refine decide_eq_false (gone_esc ?_ t)
      unfold tT
      have e1 : (n.fdiv 3).fmod 2 = 1 := by simpa using hq
      rw [e1]
      decide +kernel
    · left; simpa using hq
end
section
seal Ev EvO Tr XS XJ EvL Pt Cmp Bin Spec Tst It Emit
/-- the signs of a document: an element's head, an element's end -/
inductive Evt where
  | op (b h t : List Nat)
  | cl
noncomputable def docT : List Int → List Evt → List Nat
  | _, [] => []
  | hs, .cl :: r => [60, 47, 101, 62] ++ docT hs r
  | n :: hs, .op b h t :: r => opn n b h t ++ docT hs r
  | [], .op _ _ _ :: _ => []
noncomputable def baseF (bs : List (List Nat)) (b : List Nat) : List Nat := jnp (dnm (bs.getLast?.getD [])) b
noncomputable def rdE : List (List Nat) → List Evt → List D
  | _, [] => []
  | bs, .cl :: r => rdE bs.dropLast r
  | bs, .op b h t :: r => row4 b h (nrm (jnp (dnm (baseF bs b)) h)) t :: rdE (bs ++ [baseF bs b]) r
noncomputable def okE : List Int → List (List Nat) → List Evt → Prop
  | _, bs, [] => bs = [[]]
  | hs, bs, .cl :: r => okE hs bs.dropLast r
  | [], _, .op _ _ _ :: _ => False
  | _ :: hs, bs, .op b _ _ :: r => bs ≠ [] ∧ okE hs (bs ++ [baseF bs b]) r
noncomputable def opsN : List Evt → Nat
  | [] => 0
  | .cl :: r => opsN r
  | .op _ _ _ :: r => opsN r + 1
noncomputable def szE : List Evt → Prop
  | [] => True
  | .cl :: r => szE r
  | .op b h t :: r => (b.length ≤ 9000 ∧ h.length ≤ 9000 ∧ t.length ≤ 9000) ∧ szE r

theorem slc_len {α : Type} (l : List α) (a b : Option Int) : (slc l a b).length ≤ l.length := slc_length_le l a b
theorem dnm_len (p : List Nat) : (dnm p).length ≤ p.length := by
  unfold dnm
  dsimp only
  have h1 := slc_len p none (some ((lastAt 47 p : Int) - 1 + 1))
  split
  · have := dropR_len 47 (slc p none (some ((lastAt 47 p : Int) - 1 + 1)))
    omega
  · exact h1
theorem baseF_len (bs : List (List Nat)) (b : List Nat) (m : Nat) (h : ∀ x ∈ bs, x.length ≤ m) : (baseF bs b).length ≤ m + b.length + 1 := by
  unfold baseF
  have h1 := jnp_len (dnm (bs.getLast?.getD [])) b
  have h2 := dnm_len (bs.getLast?.getD [])
  have h3 : (bs.getLast?.getD []).length ≤ m := by
    cases hb : bs.getLast? with
    | none => simp
    | some x => exact h x (List.mem_of_getLast? hb)
  omega

theorem docT_suf (hs : List Int) (e : Evt) (r : List Evt) (bs : List (List Nat)) (h : okE hs bs (e :: r)) : ∃ w hs', docT hs (e :: r) = w ++ docT hs' r ∧ w ≠ [] := by
  cases e with
  | cl => exact ⟨_, hs, rfl, by simp⟩
  | op b h' t =>
    cases hs with
    | nil => exact h.elim
    | cons n hs => exact ⟨opn n b h' t, hs, rfl, by unfold opn; simp⟩
theorem docT_front : ∀ (hs : List Int) (evs : List Evt), docT hs evs = [] ∨ ∃ r, docT hs evs = 60 :: r
  | hs, [] => .inl (by unfold docT; rfl)
  | hs, .cl :: r => .inr ⟨_, rfl⟩
  | n :: hs, .op b h t :: r => .inr ⟨_, rfl⟩
  | [], .op b h t :: r => .inl (by unfold docT; rfl)

/-- the head of an element, taken apart -/
theorem opn_cut (n : Int) (b h t r : List Nat) : opn n b h t ++ r = [60, 101, 32, 98, 61] ++ 34 :: (esc (tV n) b ++ 34 :: ([32, 104, 61] ++ 34 :: (esc (tV n) h ++ 34 :: (62 :: (esc (tT n) t ++ r))))) := by
  unfold opn; simp
theorem opn_split (n : Int) (b h t r : List Nat) : Txt.splitMax (S (opn n b h t ++ r)) (S [34]) 4 = [[60, 101, 32, 98, 61], esc (tV n) b, [32, 104, 61], esc (tV n) h, 62 :: (esc (tT n) t ++ r)].map S := by
  rw [opn_cut]
  exact split_max4 _ (by decide) (by decide) (gone34 n b) (by decide) (gone34 n h)
theorem rest_part (n : Int) (t r : List Nat) (hr : r = [] ∨ ∃ q, r = 60 :: q) : ∃ m q, Txt.partition (S (esc (tT n) t ++ r)) (S [60]) = (S (esc (tT n) t), S m, S q) ∧ m ++ q = r := by
  have hg := gone60 n t
  rcases hr with rfl | ⟨q, rfl⟩
  · refine ⟨[], [], ?_, rfl⟩
    rw [List.append_nil]
    exact part_free hg
  · exact ⟨[60], q, part_cut q hg, rfl⟩

theorem D_lst_tru (l : List D) : (D.lst l).tru = !l.isEmpty := rfl

theorem read_spec {G : Gl} (hG : GP G) (hands : List Int) (evs : List Evt) (hok : okE hands [[]] evs) (hsz : szE evs) (hops : opsN evs ≤ 10) (hhn : hands.length ≤ 10) (hdl : (docT hands evs).length ≤ 1000000) :
    Spec G "_law_read" 4 [.str (docT hands evs), .lst (hands.map .int)] (.lst (rdE [[]] evs)) := by
  refine Spec.fn (i := 32) (xs := ["doc", "hands"]) hG (by decide) (bind_2 (by decide +kernel) fun fd hp hd v u => by unfold bindArgs; rw [hp, hd]; rfl) rfl (by decide +kernel) 14 fun L a' q cd B h₀ => ?_
  have h : dfAt 32 = ⟨_, _, _, _⟩ := rfl
  unfold cx
  rw [h]
  show XJ _ [some (.v _), some (.v _), none, none, none, none, none, none, none, none, none, none, none, none, none, none] _ _
  refine XJ.cons (XS.own2 (i1 := 2) (i2 := 3) (fun a => (EvL.cons (Ev.strK K8 (by decide)) EvL.nil rfl)) rfl rfl (by decide) (by decide) rfl rfl ?_)
  dsimp only [List.set]
  refine XJ.freeze (i := 3) rfl ?_
  dsimp only [List.set]
  refine XJ.cons (XS.mono (Φ := fun o => ∃ c0 c3 c4 c5 c6 c7 c8 c9, c3 = some (.v (.lst ([[]].map .str))) ∧ o = .next [c0, some (.v (.lst (hands.map .int))), some (.o (rdE [[]] evs)), c3, c4, c5, c6, c7, c8, c9, none, none, none, none, none, none])
    (XS.whil (I := fun n Γ => ∃ (pre hs : List Int) (ev : List Evt) (tl : List D) (bs : List (List Nat)) (c4 c5 c6 c7 c8 c9 : Option Ent), n = ev.length ∧ Γ = [some (.v (.str (docT hs ev))), some (.v (.lst (hands.map .int))), some (.o tl), some (.v (.lst (bs.map .str))), c4, c5, c6, c7, c8, c9, none, none, none, none, none, none] ∧
      hands = pre ++ hs ∧ tl.length = pre.length ∧ okE hs bs ev ∧ szE ev ∧ tl ++ rdE bs ev = rdE [[]] evs ∧ (docT hs ev).length ≤ 1000000 ∧ (∀ x ∈ bs, x.length + 9001 * opsN ev ≤ 90010) ∧ bs.length + opsN ev ≤ 12) ?_ evs.length ⟨[], hands, evs, [], [[]], none, none, none, none, none, none, rfl, rfl, rfl, rfl, hok, hsz, rfl, hdl, ?_, ?_⟩) ?_)
  · rintro n Γ ⟨pre, hs, ev, tl, bs, c4, c5, c6, c7, c8, c9, rfl, rfl, hpre, htl, hk, hz, hres, hdz, hbz, hbn⟩
    refine ⟨!(docT hs ev).isEmpty, Tr.cast (Tr.plain (d := .str (docT hs ev)) (Ev.o (Ev.name (i := 0) rfl rfl ⟨rfl, rfl⟩))) rfl, fun ht => ?_, fun hf => ?_⟩
    · cases ev with
      | nil => unfold docT at ht; cases ht
      | cons e r =>
        cases e with
        | cl =>
          have e1 : docT hs (.cl :: r) = [60, 47, 101, 62] ++ docT hs r := by rw [docT]
          have e2 : slc (docT hs (.cl :: r)) none (some (4 : Int)) = [60, 47, 101, 62] := by
            rw [show (4 : Int) = ((4 : Nat) : Int) from rfl, slc_to, e1]; rfl
          have e3 : slc (docT hs (.cl :: r)) (some (4 : Int)) none = docT hs r := by
            rw [show (4 : Int) = ((4 : Nat) : Int) from rfl, slc_from, e1]; rfl
          have e4 : (docT hs (.cl :: r)).length = 4 + (docT hs r).length := by rw [e1, List.length_append]; rfl
          refine XJ.cons (XS.iteT (Tr.cast (Tr.cm (Ev.o (by first | exact Ev.sliceS (Ev.name (i := 0) rfl rfl ⟨rfl, rfl⟩) Pt.no (Pt.so Ev.int) | exact Ev.sliceL (Ev.o (Ev.name (i := 0) rfl rfl ⟨rfl, rfl⟩)) Pt.no (Pt.so Ev.int))) (Ev.o (Ev.strK K35 (by decide))) (by walk_at "cmp")) (by rw [e2]; rfl)) ?_)
          refine XJ.cons (XS.swap (is := [0, 3]) (xs := ["bases", "doc"]) (Ev.tup (EvL.cons (d := .lst (bs.dropLast.map .str)) (Ev.cast (Ev.sliceL (l := bs.map .str) (y := some (-1)) (Ev.o (Ev.name (i := 3) rfl rfl ⟨rfl, rfl⟩)) Pt.no (Pt.so (Ev.neg Ev.int))) (by rw [slc_butlast, List.map_dropLast])) (EvL.cons (d := .str (docT hs r)) (Ev.cast (by first | exact Ev.sliceS (Ev.name (i := 0) rfl rfl ⟨rfl, rfl⟩) (Pt.so Ev.int) Pt.no | exact Ev.sliceL (Ev.o (Ev.name (i := 0) rfl rfl ⟨rfl, rfl⟩)) (Pt.so Ev.int) Pt.no) (by rw [e3])) EvL.nil rfl) rfl) (Nat.le_of_ble_eq_true rfl)) rfl ⟨⟨.local, rfl, .inl rfl⟩, ⟨.local, rfl, .inl rfl⟩, trivial⟩ rfl rfl ?_)
          refine XJ.nil (XJ.nil ⟨r.length, Nat.lt_succ_self _, pre, hs, r, tl, bs.dropLast, c4, c5, c6, c7, c8, c9, rfl, rfl, hpre, htl, hk, hz, hres, by omega, fun x hx => hbz x (List.dropLast_subset _ hx), ?_⟩)
          have : bs.dropLast.length ≤ bs.length := by simp
          have : opsN (.cl :: r) = opsN r := rfl
          omega
        | op b h t =>
          cases hs with
          | nil => exact hk.elim
          | cons m hs =>
            obtain ⟨hbe, hk⟩ := hk
            obtain ⟨⟨zb, zh, zt⟩, hz⟩ := hz
            have e1 : docT (m :: hs) (.op b h t :: r) = opn m b h t ++ docT hs r := by rw [docT]
            have hops1 : opsN (.op b h t :: r) = opsN r + 1 := rfl
            rw [hops1] at hbz hbn
            have hrd : rdE bs (.op b h t :: r) = row4 b h (nrm (jnp (dnm (baseF bs b)) h)) t :: rdE (bs ++ [baseF bs b]) r := by rw [rdE]
            rw [hrd] at hres
            have e2 : slc (docT (m :: hs) (.op b h t :: r)) none (some (4 : Int)) = [60, 101, 32, 98] := by
              rw [show (4 : Int) = ((4 : Nat) : Int) from rfl, slc_to, e1]; rfl
            rw [e1] at hdz e2 ⊢
            have hfr := docT_front hs r
            generalize hrz : docT hs r = rest at *
            have hsp := opn_split m b h t rest
            obtain ⟨mk, rs, hpt, hmr⟩ := rest_part m t rest hfr
            have hcut := opn_cut m b h t rest
            have hlen : (opn m b h t ++ rest).length = 13 + (esc (tV m) b).length + (esc (tV m) h).length + (esc (tT m) t).length + rest.length := by rw [hcut]; simp; omega
            have hvb := tV_len m b
            have hvh := tV_len m h
            have hvt := tT_len m t
            have hmrl : mk.length + rs.length = rest.length := by rw [← hmr, List.length_append]
            have hs1 := signs_spec hG (esc (tV m) b) (by omega)
            have hs2 := signs_spec hG (esc (tV m) h) (by omega)
            have hs3 := signs_spec hG (esc (tT m) t) (by omega)
            have hs4 := bare_spec hG m (esc (tV m) b ++ esc (tV m) h) (esc (tT m) t)
            rw [sgn_esc (okV m)] at hs1 hs2
            rw [sgn_esc (okC m)] at hs3
            rw [bare_esc] at hs4
            have hgl : ∃ lb, bs.getLast? = some lb := by
              cases hb' : bs.getLast? with
              | none => exact absurd (List.getLast?_eq_none_iff.mp hb') hbe
              | some x => exact ⟨x, rfl⟩
            obtain ⟨lb, hgl⟩ := hgl
            have hix1 : (bs.map D.str).getLast? = some (.str lb) := by rw [List.getLast?_map, hgl]; rfl
            have hlb := hbz lb (List.mem_of_getLast? hgl)
            have hB : baseF bs b = jnp (dnm lb) b := by unfold baseF; rw [hgl]; rfl
            have hBl := baseF_len bs b (90010 - 9001 * (opsN r + 1)) fun x hx => by have := hbz x hx; omega
            rw [hB] at hBl hres hk
            generalize hBz : jnp (dnm lb) b = B1 at *
            have hdl1 := dnm_len lb
            have hdl2 := dnm_len B1
            have hjl := jnp_len (dnm B1) h
            have s4 := dirname_spec hG lb (by omega)
            have s5 := join_spec hG (dnm lb) b (by omega)
            rw [hBz] at s5
            have s6 := dirname_spec hG B1 (by omega)
            have s7 := join_spec hG (dnm B1) h (by omega)
            have s8 := normpath_spec hG (jnp (dnm B1) h) (by omega)
            refine XJ.cons (XS.iteF (Tr.cast (Tr.cm (Ev.o (by first | exact Ev.sliceS (Ev.name (i := 0) rfl rfl ⟨rfl, rfl⟩) Pt.no (Pt.so Ev.int) | exact Ev.sliceL (Ev.o (Ev.name (i := 0) rfl rfl ⟨rfl, rfl⟩)) Pt.no (Pt.so Ev.int))) (Ev.o (Ev.strK K35 (by decide))) (by walk_at "cmp")) (by rw [e2]; rfl)) ?_)
            generalize hP1 : esc (tV m) b = P1 at *
            generalize hP3 : esc (tV m) h = P3 at *
            generalize hPt : esc (tT m) t = Pt' at *
            have hpl : ∀ p ∈ [[60, 101, 32, 98, 61], P1, [32, 104, 61], P3, 62 :: (Pt' ++ rest)], p.length ≤ 1048576 := by
              intro p hp
              simp only [List.mem_cons, List.not_mem_nil, or_false] at hp
              rcases hp with rfl | rfl | rfl | rfl | rfl
              · simp
              · omega
              · simp
              · omega
              · rw [List.length_cons, List.length_append]; omega
            refine XJ.cons (XS.asg (i := 4) (d := .lst ([[60, 101, 32, 98, 61], P1, [32, 104, 61], P3, 62 :: (Pt' ++ rest)].map .str)) (Ev.splitM (Ev.name (i := 0) rfl rfl ⟨rfl, rfl⟩) (Ev.strK K16 (by decide)) Ev.int hsp (by simp) (by decide) hpl (by simp) rfl) rfl (.inl rfl) ?_)
            dsimp only [List.set]
            have hb0 : ([[60, 101, 32, 98, 61], P1, [32, 104, 61], P3, 62 :: (Pt' ++ rest)].map D.str)[(0 : Int).toNat]? = some (.str [60, 101, 32, 98, 61]) := rfl
            have hb1 : ([[60, 101, 32, 98, 61], P1, [32, 104, 61], P3, 62 :: (Pt' ++ rest)].map D.str)[(1 : Int).toNat]? = some (.str P1) := rfl
            have hb2 : ([[60, 101, 32, 98, 61], P1, [32, 104, 61], P3, 62 :: (Pt' ++ rest)].map D.str)[(2 : Int).toNat]? = some (.str [32, 104, 61]) := rfl
            have hb3 : ([[60, 101, 32, 98, 61], P1, [32, 104, 61], P3, 62 :: (Pt' ++ rest)].map D.str)[(3 : Int).toNat]? = some (.str P3) := rfl
            have hb4 : ([[60, 101, 32, 98, 61], P1, [32, 104, 61], P3, 62 :: (Pt' ++ rest)].map D.str)[(4 : Int).toNat]? = some (.str (62 :: (Pt' ++ rest))) := rfl
            have hbl : ([[60, 101, 32, 98, 61], P1, [32, 104, 61], P3, 62 :: (Pt' ++ rest)].map D.str).length = 5 := rfl
            generalize [[60, 101, 32, 98, 61], P1, [32, 104, 61], P3, 62 :: (Pt' ++ rest)].map D.str = bz at *
            have hsl1 : slc (62 :: (Pt' ++ rest)) none (some (1 : Int)) = [62] := by rw [show (1 : Int) = ((1 : Nat) : Int) from rfl, slc_to]; rfl
            have hsl2 : slc (62 :: (Pt' ++ rest)) (some (1 : Int)) none = Pt' ++ rest := by rw [show (1 : Int) = ((1 : Nat) : Int) from rfl, slc_from]; rfl
            refine XJ.cons (XS.iteF (Tr.cast (Tr.or (Tr.cm (Ev.o (Ev.lenL (atK 10 rfl) (Ev.o (Ev.name (i := 4) rfl rfl ⟨rfl, rfl⟩)))) (Ev.o Ev.int) Cmp.lt_int) (fun _ => Tr.or (Tr.cm (Ev.o (Ev.name (i := 3) rfl rfl ⟨rfl, rfl⟩)) (Ev.o (Ev.cast (b := .lst (([] : List (List Nat)).map .str)) (Ev.lst EvL.nil (Nat.le_of_ble_eq_true rfl)) rfl)) Cmp.eq_strs) (fun _ => Tr.or
              (Tr.cm (Ev.o (Ev.tup (EvL.cons (d := .str [60, 101, 32, 98, 61]) (Ev.itemN (Ev.o (Ev.name (i := 4) rfl rfl ⟨rfl, rfl⟩)) Ev.int (by walk_at "side") (by walk_at "ix")) (EvL.cons (d := .str [32, 104, 61]) (Ev.itemN (Ev.o (Ev.name (i := 4) rfl rfl ⟨rfl, rfl⟩)) Ev.int (by walk_at "side") (by walk_at "ix")) (EvL.cons (d := .str [62]) (Ev.cast (Ev.sliceS (Ev.itemN (Ev.o (Ev.name (i := 4) rfl rfl ⟨rfl, rfl⟩)) Ev.int (by walk_at "side") (by walk_at "ix")) Pt.no (Pt.so Ev.int)) (by rw [hsl1])) EvL.nil rfl) rfl) rfl) (Nat.le_of_ble_eq_true rfl))) (Ev.o (Ev.tup (EvL.cons (Ev.strK K62 (by decide)) (EvL.cons (Ev.strK K63 (by decide)) (EvL.cons (Ev.strK K15 (by decide)) EvL.nil rfl) rfl) rfl) (Nat.le_of_ble_eq_true rfl))) (Cmp.ne (n := 1) rfl (by decide) (by simp))) (fun _ => Tr.or_nil)))) ?_) ?_)
            · rw [hbl]
              have : (bs == []) = false := by cases bs with | nil => exact absurd rfl hbe | cons _ _ => rfl
              rw [this]; rfl
            refine XJ.nil ?_
            refine XJ.cons (XS.swap (is := [6, 5]) (xs := ["base", "href"]) (Ev.tup (EvL.cons (Ev.call (atK 11 rfl) (EvL.cons (Ev.itemN (Ev.o (Ev.name (i := 4) rfl rfl ⟨rfl, rfl⟩)) Ev.int (by walk_at "side") (by walk_at "ix")) EvL.nil rfl) (hs1) (Nat.le_of_ble_eq_true rfl) rfl) (EvL.cons (Ev.call (atK 11 rfl) (EvL.cons (Ev.itemN (Ev.o (Ev.name (i := 4) rfl rfl ⟨rfl, rfl⟩)) Ev.int (by walk_at "side") (by walk_at "ix")) EvL.nil rfl) (hs2) (Nat.le_of_ble_eq_true rfl) rfl) EvL.nil rfl) rfl) (Nat.le_of_ble_eq_true rfl)) rfl ⟨⟨.local, rfl, .inl rfl⟩, ⟨.local, rfl, .inl rfl⟩, trivial⟩ rfl rfl ?_)
            show XJ _ [some (.v (.str (opn m b h t ++ rest))), some (.v (.lst (hands.map .int))), some (.o tl), some (.v (.lst (bs.map .str))), some (.v (.lst bz)), some (.v (.str b)), some (.v (.str h)), c7, c8, c9, none, none, none, none, none, none] _ _
            refine XJ.cons (XS.asg (i := 3) (d := .lst ((bs ++ [B1]).map .str)) (Ev.cast (Ev.bin (Ev.o (Ev.name (i := 3) rfl rfl ⟨rfl, rfl⟩)) (Ev.o (Ev.lst (EvL.cons (Ev.call (atK 12 rfl) (EvL.cons (Ev.call (atK 13 rfl) (EvL.cons (Ev.itemL (Ev.o (Ev.name (i := 3) rfl rfl ⟨rfl, rfl⟩)) (Ev.neg Ev.int) rfl (by walk_at "ix")) EvL.nil rfl) (s4) (Nat.le_of_ble_eq_true rfl) rfl) (EvL.cons (Ev.name (i := 5) rfl rfl ⟨rfl, rfl⟩) EvL.nil rfl) rfl) (s5) (Nat.le_of_ble_eq_true rfl) rfl) EvL.nil rfl) (Nat.le_of_ble_eq_true rfl))) (Bin.add_lst (by simp only [List.length_map, List.length_cons, List.length_nil]; omega))) (by rw [List.map_append]; rfl)) rfl (.inl rfl) ?_)
            dsimp only [List.set]
            have hix2 : ((bs ++ [B1]).map D.str).getLast? = some (.str B1) := by rw [List.getLast?_map, List.getLast?_concat]; rfl
            refine XJ.cons (XS.unpack (is := [7, 8, 9]) (Ev.partition (x := Pt' ++ rest) (Ev.cast (Ev.sliceS (Ev.itemN (Ev.o (Ev.name (i := 4) rfl rfl ⟨rfl, rfl⟩)) Ev.int (by walk_at "side") (by walk_at "ix")) (Pt.so Ev.int) Pt.no) (by rw [hsl2])) (Ev.strK K14 (by decide)) hpt (by omega) (by omega) (by omega) rfl) ⟨⟨.local, rfl, .inl rfl⟩, ⟨.local, rfl, .inl rfl⟩, ⟨.local, rfl, .inl rfl⟩, trivial⟩ rfl ?_)
            show XJ _ [some (.v (.str (opn m b h t ++ rest))), some (.v (.lst (hands.map .int))), some (.o tl), some (.v (.lst ((bs ++ [B1]).map .str))), some (.v (.lst bz)), some (.v (.str b)), some (.v (.str h)), some (.v (.str Pt')), some (.v (.str mk)), some (.v (.str rs)), none, none, none, none, none, none] _ _
            have hgh : (hands.map D.int)[((tl.length : Nat) : Int).toNat]? = some (.int m) := by
              rw [Int.toNat_natCast, hpre, htl]; simp
            have hln : tl.length < hands.length := by rw [hpre, htl]; simp
            refine XJ.cons (XS.iteF (Tr.cast (Tr.or (Tr.cm (Ev.o (Ev.lenL (atK 10 rfl) (EvO.name (i := 2) rfl rfl ⟨rfl, rfl⟩))) (Ev.o (Ev.lenL (atK 10 rfl) (Ev.o (Ev.name (i := 1) rfl rfl ⟨rfl, rfl⟩)))) Cmp.eq_int) (fun _ => Tr.or (Tr.plain (d := .bool false) (Ev.o (Ev.call (atK 14 rfl) (EvL.cons (Ev.itemN (Ev.o (Ev.name (i := 1) rfl rfl ⟨rfl, rfl⟩)) (Ev.lenL (atK 10 rfl) (EvO.name (i := 2) rfl rfl ⟨rfl, rfl⟩)) (Int.natCast_nonneg _) hgh) (EvL.cons (Ev.bin (Ev.o (Ev.itemN (Ev.o (Ev.name (i := 4) rfl rfl ⟨rfl, rfl⟩)) Ev.int (by walk_at "side") (by walk_at "ix"))) (Ev.o (Ev.itemN (Ev.o (Ev.name (i := 4) rfl rfl ⟨rfl, rfl⟩)) Ev.int (by walk_at "side") (by walk_at "ix"))) (Bin.add_str (by omega))) (EvL.cons (Ev.name (i := 7) rfl rfl ⟨rfl, rfl⟩) EvL.nil rfl) rfl) rfl) hs4 (Nat.le_of_ble_eq_true rfl) rfl))) (fun _ => Tr.or_nil))) ?_) ?_)
            · rw [List.length_map]
              have : ((tl.length : Int) == (hands.length : Int)) = false := by rw [beq_eq_false_iff_ne]; omega
              rw [this]; rfl
            refine XJ.nil ?_
            refine XJ.cons (XS.append (i := 2) (k := .local) rfl rfl ⟨rfl, rfl⟩ (d := row4 b h (nrm (jnp (dnm B1) h)) t) (Ev.tup (EvL.cons (Ev.name (i := 5) rfl rfl ⟨rfl, rfl⟩) (EvL.cons (Ev.name (i := 6) rfl rfl ⟨rfl, rfl⟩) (EvL.cons (Ev.call (atK 15 rfl) (EvL.cons (Ev.call (atK 12 rfl) (EvL.cons (Ev.call (atK 13 rfl) (EvL.cons (Ev.itemL (Ev.o (Ev.name (i := 3) rfl rfl ⟨rfl, rfl⟩)) (Ev.neg Ev.int) rfl (by walk_at "ix")) EvL.nil rfl) (s6) (Nat.le_of_ble_eq_true rfl) rfl) (EvL.cons (Ev.name (i := 6) rfl rfl ⟨rfl, rfl⟩) EvL.nil rfl) rfl) (s7) (Nat.le_of_ble_eq_true rfl) rfl) EvL.nil rfl) (s8) (Nat.le_of_ble_eq_true rfl) rfl) (EvL.cons (Ev.call (atK 11 rfl) (EvL.cons (Ev.name (i := 7) rfl rfl ⟨rfl, rfl⟩) EvL.nil rfl) (hs3) (Nat.le_of_ble_eq_true rfl) rfl) EvL.nil rfl) rfl) rfl) rfl) (Nat.le_of_ble_eq_true rfl)) rfl rfl (by omega) ?_)
            dsimp only [List.set]
            refine XJ.cons (XS.asg (i := 0) (d := .str rest) (Ev.cast (Ev.bin (Ev.o (Ev.name (i := 8) rfl rfl ⟨rfl, rfl⟩)) (Ev.o (Ev.name (i := 9) rfl rfl ⟨rfl, rfl⟩)) (Bin.add_str (by omega))) (by rw [hmr])) rfl (.inl rfl) ?_)
            dsimp only [List.set]
            refine XJ.nil (XJ.nil ⟨r.length, Nat.lt_succ_self _, pre ++ [m], hs, r, tl ++ [row4 b h (nrm (jnp (dnm B1) h)) t], bs ++ [B1], _, _, _, _, _, _, rfl, by rw [hrz], by rw [hpre]; simp, by simp [htl], hk, hz, by rw [List.append_assoc]; exact hres, by rw [hrz]; omega, fun x hx => ?_, by rw [List.length_append]; simp only [List.length_singleton]; omega⟩)
            rcases List.mem_append.mp hx with hx | hx
            · have := hbz x hx; omega
            · simp only [List.mem_singleton] at hx
              subst hx; omega
    · cases ev with
      | nil =>
        have e1 : bs = [[]] := hk
        subst e1
        refine ⟨some (.v (.str (docT hs []))), some (.v (.lst ([[]].map .str))), c4, c5, c6, c7, c8, c9, rfl, ?_⟩
        have e2 : tl = rdE [[]] evs := by rw [← hres]; unfold rdE; simp
        rw [e2]
      | cons e r =>
        obtain ⟨w, hs', e1, e2⟩ := docT_suf hs e r bs hk
        rw [e1] at hf
        cases w with
        | nil => exact absurd rfl e2
        | cons _ _ => simp at hf
  · intro x hx
    simp only [List.mem_singleton] at hx
    subst hx
    simp only [List.length_nil]
    omega
  · simp only [List.length_singleton]
    omega
  · rintro o ⟨c0, c3, c4, c5, c6, c7, c8, c9, rfl, rfl⟩
    refine XJ.freeze (i := 2) rfl ?_
    dsimp only [List.set]
    exact XJ.cons (XS.ret (Ev.cast (Ev.ifexp (c := true) (d2 := .non) (Tr.cast (Tr.cm (Ev.o (Ev.name (i := 3) rfl rfl ⟨rfl, rfl⟩)) (Ev.o (Ev.cast (b := .lst ([[]].map .str)) (Ev.lst (EvL.cons (Ev.strK K8 (by decide)) EvL.nil rfl) (Nat.le_of_ble_eq_true rfl)) rfl)) Cmp.eq_strs) (by decide)) (fun _ => (Ev.name (i := 2) rfl rfl ⟨rfl, rfl⟩)) (fun h => by cases h)) rfl) rfl)
end
section
seal Ev EvO Tr XS XJ EvL Pt Cmp Bin Spec Tst It Emit
-- paths: the folder of pieces is dirname
theorem splt_mid (c : Nat) (y : List Nat) : ∀ x : List Nat, splt c (x ++ c :: y) = splt c x ++ splt c y
  | [] => by simp [splt]
  | a :: x => by
    have ih := splt_mid c y x
    rw [List.cons_append]
    by_cases h : a = c
    · rw [splt, if_pos h, ih]
      conv => rhs; rw [splt, if_pos h]
      rfl
    · rcases hx : splt c x with _ | ⟨p, ps⟩
      · exact absurd hx (splt_ne c x)
      · rw [hx] at ih
        have e1 : splt c (a :: (x ++ c :: y)) = (a :: p) :: (ps ++ splt c y) := by
          rw [splt, if_neg h, ih]; rfl
        have e2 : splt c (a :: x) = (a :: p) :: ps := by unfold splt; rw [if_neg h, hx]
        rw [e1, e2]; rfl
theorem splt_snoc_sl (c : Nat) (x : List Nat) : splt c (x ++ [c]) = splt c x ++ [[]] := by
  have := splt_mid c [] x
  rw [this]; rfl
/-- the last piece of what ends otherwise -/
theorem splt_last {c a : Nat} (h : a ≠ c) : ∀ x : List Nat, ∃ f z, splt c (x ++ [a]) = f ++ [z ++ [a]]
  | [] => ⟨[], [], by simp [splt, h]⟩
  | b :: x => by
    obtain ⟨f, z, ih⟩ := splt_last h x
    rw [List.cons_append]
    by_cases hb : b = c
    · exact ⟨[] :: f, z, by rw [splt, if_pos hb, ih]; rfl⟩
    · cases f with
      | nil => exact ⟨[], b :: z, by unfold splt; rw [if_neg hb, ih]; rfl⟩
      | cons p f => exact ⟨(b :: p) :: f, z, by unfold splt; rw [if_neg hb, ih]; rfl⟩
theorem cut_last {c : Nat} {x : List Nat} (h : c ∈ x) : ∃ q z, x = q ++ c :: z ∧ c ∉ z := by
  induction x with
  | nil => cases h
  | cons a x ih =>
    by_cases hx : c ∈ x
    · obtain ⟨q, z, rfl, hz⟩ := ih hx
      exact ⟨a :: q, z, rfl, hz⟩
    · rcases List.mem_cons.mp h with rfl | h
      · exact ⟨[], x, rfl, hx⟩
      · exact absurd h hx
theorem headP {c : Nat} {q z : List Nat} (hz : c ∉ z) : (q ++ c :: z).take (lastAt c (q ++ c :: z)) = q ++ [c] := by
  have h1 : (q ++ c :: z).reverse.dropWhile (· != c) = c :: q.reverse := by
    rw [List.reverse_append, List.reverse_cons, List.append_assoc, List.dropWhile_append_of_pos]
    · simp
    · intro y hy
      rw [List.mem_reverse] at hy
      simp only [bne_iff_ne, ne_eq]
      rintro rfl; exact hz hy
  unfold lastAt
  rw [h1]
  have : q ++ c :: z = (q ++ [c]) ++ z := by simp
  rw [this]
  exact List.take_left' (by simp)
theorem dw_all {α : Type} {p : α → Bool} : ∀ l : List α, (∀ y ∈ l, p y = true) → l.dropWhile p = []
  | [], _ => rfl
  | a :: l, h => by rw [List.dropWhile_cons, if_pos (h a (by simp))]; exact dw_all l fun y hy => h y (by simp [hy])
theorem headN {c : Nat} {x : List Nat} (h : c ∉ x) : lastAt c x = 0 := by
  unfold lastAt
  have : x.reverse.dropWhile (· != c) = [] := by
    refine dw_all _ fun y hy => ?_
    rw [List.mem_reverse] at hy
    simp only [bne_iff_ne, ne_eq]
    rintro rfl; exact h hy
  rw [this]; rfl
noncomputable def allS (x : List Nat) : Bool := x.all (· == 47)
theorem allS_rep {x : List Nat} (h : allS x = true) : x = List.replicate x.length 47 := by
  unfold allS at h
  rw [List.all_eq_true] at h
  exact List.eq_replicate_iff.mpr ⟨rfl, fun b hb => by simpa using h b hb⟩
theorem allS_beq (x : List Nat) : (x == List.replicate x.length 47) = allS x := by
  rw [Bool.eq_iff_iff]
  constructor
  · intro h
    have h := eq_of_beq h
    unfold allS
    rw [List.all_eq_true, h]
    intro y hy
    simpa using (List.mem_replicate.mp hy).2
  · intro h
    rw [← allS_rep h]; simp
theorem dnm_no {p : List Nat} (h : 47 ∉ p) : dnm p = [] := by
  unfold dnm
  rw [headN h]
  have : slc p none (some (((0 : Nat) : Int) - 1 + 1)) = [] := by
    rw [show (((0 : Nat) : Int) - 1 + 1) = ((0 : Nat) : Int) from rfl, slc_to]; rfl
  simp only [this]; rfl
theorem dropR_snoc (c : Nat) (x : List Nat) : dropR c (x ++ [c]) = dropR c x := by
  unfold dropR; rw [List.reverse_append]; simp
theorem dropR_end {c a : Nat} (h : a ≠ c) (x : List Nat) : dropR c (x ++ [a]) = x ++ [a] := by
  unfold dropR; rw [List.reverse_append]; simp [h]
theorem dnm_cut {q z : List Nat} (hz : 47 ∉ z) : dnm (q ++ 47 :: z) = if allS q then q ++ [47] else dropR 47 q := by
  unfold dnm
  have h1 := headP (q := q) hz
  have h2 : slc (q ++ 47 :: z) none (some ((lastAt 47 (q ++ 47 :: z) : Int) - 1 + 1)) = q ++ [47] := by
    rw [show ((lastAt 47 (q ++ 47 :: z) : Int) - 1 + 1) = ((lastAt 47 (q ++ 47 :: z) : Nat) : Int) from by omega, slc_to, h1]
  simp only [h2]
  rw [allS_beq, dropR_snoc]
  have h3 : allS (q ++ [47]) = allS q := by unfold allS; simp
  have h4 : (q ++ [47]).isEmpty = false := by cases q <;> rfl
  rw [h3, h4]
  cases allS q <;> rfl

theorem jn_nil_rep (n : Nat) : jn [] (List.replicate n []) = [] := by rw [jn_nil]; simp
theorem splt_rep (n : Nat) : splt 47 (List.replicate n 47) = List.replicate (n + 1) [] := by
  induction n with
  | zero => rfl
  | succ n ih => rw [List.replicate_succ, splt, if_pos rfl, ih]; rfl
theorem flat_splt (c : Nat) : ∀ x : List Nat, (splt c x).flatten = x.filter (· != c)
  | [] => rfl
  | a :: x => by
    have ih := flat_splt c x
    by_cases h : a = c
    · subst h
      rw [splt, if_pos rfl]; simpa using ih
    · rcases hx : splt c x with _ | ⟨p, ps⟩
      · exact absurd hx (splt_ne c x)
      · have e2 : splt c (a :: x) = (a :: p) :: ps := by unfold splt; rw [if_neg h, hx]
        rw [hx] at ih
        rw [e2, List.filter_cons]
        simp only [bne_iff_ne, ne_eq, h, not_false_eq_true, if_true]
        rw [← ih]; rfl
theorem jn_splt_empty (q : List Nat) : (jn [] (splt 47 q)).isEmpty = allS q := by
  rw [jn_nil, flat_splt, Bool.eq_iff_iff, List.isEmpty_iff, List.filter_eq_nil_iff]
  unfold allS
  rw [List.all_eq_true]
  constructor
  · intro h x hx
    have := h x hx
    simpa using this
  · intro h x hx
    have := h x hx
    simpa using this
theorem snoc_ind {P : List Nat → Prop} (h0 : P []) (h1 : ∀ x a, P x → P (x ++ [a])) : ∀ x, P x := by
  intro x
  have : ∀ n, ∀ x : List Nat, x.length = n → P x := by
    intro n
    induction n with
    | zero => intro x hx; rw [List.eq_nil_of_length_eq_zero hx]; exact h0
    | succ n ih =>
      intro x hx
      rcases List.eq_nil_or_concat x with rfl | ⟨l, y, rfl⟩
      · exact h0
      · rw [List.concat_eq_append] at *
        exact h1 l y (ih l (by simpa using hx))
  exact this _ x rfl
theorem trimR_splt : ∀ q : List Nat, allS q = false → trimR (splt 47 q) = splt 47 (dropR 47 q) := by
  refine snoc_ind ?_ ?_
  · intro h; cases h
  · intro x a ih h
    by_cases ha : a = 47
    · subst ha
      have h' : allS x = false := by
        unfold allS at h ⊢
        simpa using h
      rw [splt_snoc_sl, trimR_snoc, dropR_snoc, ← ih h']; rfl
    · obtain ⟨f, z, e⟩ := splt_last ha x
      rw [dropR_end ha, e, trimR_snoc]
      cases z <;> rfl
theorem fold_splt (p : List Nat) : fold (splt 47 p) = splt 47 (dnm p) := by
  by_cases h : 47 ∈ p
  · obtain ⟨q, z, rfl, hz⟩ := cut_last h
    rw [dnm_cut hz, splt_mid, splt_free hz]
    unfold fold
    rw [List.dropLast_concat]
    dsimp only
    rw [jn_splt_empty]
    have hne : (splt 47 q).isEmpty = false := by
      cases h : splt 47 q with
      | nil => exact absurd h (splt_ne 47 q)
      | cons _ _ => rfl
    cases hq : allS q with
    | true =>
      rw [if_pos rfl, if_pos rfl, hne]
      have e := allS_rep hq
      rw [e, splt_rep, List.length_replicate]
      have : List.replicate q.length 47 ++ [47] = List.replicate (q.length + 1) 47 := by rw [List.replicate_succ']
      rw [this, splt_rep]; rfl
    | false =>
      rw [if_neg (by decide), if_neg (by decide)]
      exact trimR_splt q hq
  · rw [dnm_no h, splt_free h]; rfl
/-- where a way leads is where join and dirname lead -/
theorem bhd_splt (p t : List Nat) : bhd (splt 47 p) t = splt 47 (jnp (dnm p) t) := by
  have hs : (slc t none (some 1) == [47]) = (t.head? == some 47) := by
    rw [show (1 : Int) = ((1 : Nat) : Int) from rfl, slc_to]
    cases t with
    | nil => rfl
    | cons a t => simp
  unfold bhd jnp
  rw [hs, fold_splt]
  cases ht : (t.head? == some 47) with
  | true => simp
  | false =>
    simp only [Bool.false_or, Bool.false_eq_true, if_false]
    generalize dnm p = d
    rcases List.eq_nil_or_concat d with rfl | ⟨l, y, rfl⟩
    · simp [splt]
    · rw [List.concat_eq_append]
      have h4 : (l ++ [y]).isEmpty = false := by cases l <;> rfl
      simp only [h4, Bool.false_eq_true, if_false]
      have h5 : (l ++ [y]).getLast? = some y := by simp
      rw [h5]
      by_cases hy : y = 47
      · subst hy
        rw [splt_snoc_sl]
        rw [if_pos (by simp), if_pos (by simp), List.dropLast_concat, ← splt_mid]
        simp
      · rw [if_neg (show ¬ ((some y == some 47) = true) from by simpa using hy)]
        obtain ⟨f, z, e⟩ := splt_last hy l
        rw [splt_mid, e]
        rw [if_neg (by simp)]
end
section
seal Ev EvO Tr XS XJ EvL Pt Cmp Bin Spec Tst It Emit
-- the place of pieces is normpath
/-- the slashes ahead -/
noncomputable def lead : List Nat → Nat
  | 47 :: r => lead r + 1
  | _ => 0
theorem lead_cons_ne {a : Nat} {r : List Nat} (h : a ≠ 47) : lead (a :: r) = 0 := by
  unfold lead
  split
  · rename_i e; simp at e; exact absurd e.1 h
  · rfl
theorem plcS_splt : ∀ p : List Nat, plcS (splt 47 p) = lead p
  | [] => rfl
  | a :: r => by
    have ih := plcS_splt r
    by_cases h : a = 47
    · subst h
      rw [splt, if_pos rfl, lead, ← ih]
      unfold plcS
      rcases hx : splt 47 r with _ | ⟨p, ps⟩
      · exact absurd hx (splt_ne 47 r)
      · rw [List.dropLast_cons_cons, List.takeWhile_cons, if_pos (show isE [] = true from rfl)]; rfl
    · rw [lead_cons_ne h]
      rcases hx : splt 47 r with _ | ⟨p, ps⟩
      · exact absurd hx (splt_ne 47 r)
      · have e2 : splt 47 (a :: r) = (a :: p) :: ps := by rw [splt, if_neg h, hx]
        rw [e2]
        unfold plcS
        cases ps with
        | nil => rfl
        | cons q ps => rw [List.dropLast_cons_cons, List.takeWhile_cons, if_neg (by unfold isE; simp)]; rfl
/-- the root that slashes make -/
noncomputable def rootN (n : Nat) : List Nat := if n == 2 then [47, 47] else if n != 0 then [47] else []
theorem rootN_e (n : Nat) : (rootN n).isEmpty = (n == 0) := by
  unfold rootN
  match n with
  | 0 => rfl
  | 1 => rfl
  | 2 => rfl
  | n + 3 => simp
/-- the names under way -/
noncomputable def csF (r : List Nat) (p : List Nat) : List (List Nat) := (splt 47 p).foldl (nstep r) []
theorem nstep_nil (r : List Nat) (st : List (List Nat)) : nstep r st [] = st := rfl
theorem nstep_dot (r : List Nat) (st : List (List Nat)) : nstep r st [46] = st := rfl
theorem cs_lead (r : List Nat) (p : List Nat) : csF r (47 :: p) = csF r p := by
  unfold csF
  rw [splt, if_pos rfl, List.foldl_cons, nstep_nil]
theorem nrm_eq (p : List Nat) : nrm p = if (rootN (lead p) ++ jn [47] (csF (rootN (lead p)) p)).isEmpty then [46] else rootN (lead p) ++ jn [47] (csF (rootN (lead p)) p) := by
  unfold nrm
  cases p with
  | nil => rfl
  | cons a r =>
    have e0 : (a :: r).isEmpty = false := rfl
    rw [e0, if_neg (by decide)]
    have s1 : slc (a :: r) none (some 1) = [a] := by rw [show (1 : Int) = ((1 : Nat) : Int) from rfl, slc_to]; rfl
    have key : ∀ r1 r2, spr (a :: r) = (r1, r2) → r1 = rootN (lead (a :: r)) → (splt 47 r2).foldl (nstep r1) [] = csF (rootN (lead (a :: r))) (a :: r) →
        (let r' := spr (a :: r)
         let q := r'.1 ++ jn [47] ((splt 47 r'.2).foldl (nstep r'.1) [])
         if q.isEmpty then [46] else q) = if (rootN (lead (a :: r)) ++ jn [47] (csF (rootN (lead (a :: r))) (a :: r))).isEmpty then [46] else rootN (lead (a :: r)) ++ jn [47] (csF (rootN (lead (a :: r))) (a :: r)) := by
      intro r1 r2 e1 e2 e3
      rw [e1]
      dsimp only
      rw [e3, e2]
    by_cases h : a = 47
    · subst h
      have t1 : slc (47 :: r) (some 1) (some 2) = r.take 1 := by
        rw [show (1 : Int) = ((1 : Nat) : Int) from rfl, show (2 : Int) = ((2 : Nat) : Int) from rfl, slc_mid]; rfl
      have t2 : slc (47 :: r) (some 2) (some 3) = (r.drop 1).take 1 := by
        rw [show (2 : Int) = ((2 : Nat) : Int) from rfl, show (3 : Int) = ((3 : Nat) : Int) from rfl, slc_mid]; rfl
      have t3 : slc (47 :: r) (some 1) none = r := by rw [show (1 : Int) = ((1 : Nat) : Int) from rfl, slc_from]; rfl
      have t4 : slc (47 :: r) none (some 2) = 47 :: r.take 1 := by rw [show (2 : Int) = ((2 : Nat) : Int) from rfl, slc_to]; rfl
      have t5 : slc (47 :: r) (some 2) none = r.drop 1 := by rw [show (2 : Int) = ((2 : Nat) : Int) from rfl, slc_from]; rfl
      have hsp : spr (47 :: r) = if (!(r.take 1 == [47]) || (r.drop 1).take 1 == [47]) then ([47], r) else (47 :: r.take 1, r.drop 1) := by
        unfold spr
        rw [s1, if_neg (by decide), t1, t2, t3, t4, t5]
      cases r with
      | nil => exact key [47] [] hsp rfl rfl
      | cons b r =>
        by_cases hb : b = 47
        · subst hb
          have tk : (47 :: r).take 1 = [47] := rfl
          have td : (47 :: r).drop 1 = r := rfl
          rw [tk, td] at hsp
          cases r with
          | nil => exact key [47, 47] [] hsp rfl rfl
          | cons d r =>
            by_cases hd : d = 47
            · subst hd
              have : rootN (lead (47 :: 47 :: 47 :: r)) = [47] := by
                show rootN (lead r + 1 + 1 + 1) = _
                unfold rootN; simp
              refine key [47] (47 :: 47 :: r) hsp this.symm ?_
              rw [this, cs_lead]; rfl
            · have h1 : rootN (lead (47 :: 47 :: d :: r)) = [47, 47] := by
                rw [lead, lead, lead_cons_ne hd]; rfl
              have h2 : (!([47] == [47]) || (d :: r).take 1 == [47]) = false := by simp [hd]
              rw [h2, if_neg (by decide)] at hsp
              refine key [47, 47] (d :: r) hsp h1.symm ?_
              rw [h1, cs_lead, cs_lead]; rfl
        · have h1 : rootN (lead (47 :: b :: r)) = [47] := by
            rw [lead, lead_cons_ne hb]; rfl
          have h2 : (!((b :: r).take 1 == [47]) || ((b :: r).drop 1).take 1 == [47]) = true := by simp [hb]
          rw [h2, if_pos rfl] at hsp
          refine key [47] (b :: r) hsp h1.symm ?_
          rw [h1, cs_lead]; rfl
    · have h1 : rootN (lead (a :: r)) = [] := by rw [lead_cons_ne h]; rfl
      have hsp : spr (a :: r) = ([], a :: r) := by
        unfold spr
        rw [s1, if_pos (by simp [h])]
      refine key [] (a :: r) hsp h1.symm ?_
      rw [h1]; rfl

/-- the two walks over the pieces -/
theorem steps_same (n : Nat) (c : List Nat) (u : Nat) (ns : List (List Nat)) (hn : ∀ x ∈ ns, x ≠ [46, 46]) (hu : n ≠ 0 → u = 0) :
    nstep (rootN n) (List.replicate u [46, 46] ++ ns) c = List.replicate (pstep n (u, ns) c).1 [46, 46] ++ (pstep n (u, ns) c).2 ∧ (∀ x ∈ (pstep n (u, ns) c).2, x ≠ [46, 46]) ∧ (n ≠ 0 → (pstep n (u, ns) c).1 = 0) := by
  unfold nstep pstep
  rw [rootN_e]
  by_cases hd : c = [46, 46]
  · subst hd
    rw [if_neg (show ¬ ((([46, 46] : List Nat).isEmpty || ([46, 46] : List Nat) == [46]) = true) from by decide), if_pos (show (([46, 46] : List Nat) == [46, 46]) = true from by decide)]
    rcases List.eq_nil_or_concat ns with rfl | ⟨l, y, rfl⟩
    · simp only [List.append_nil, List.isEmpty_nil, Bool.not_true, Bool.false_eq_true, if_false]
      by_cases h0 : n = 0
      · subst h0
        rw [if_pos (show ((0 : Nat) == 0) = true from rfl)]
        refine ⟨?_, by simp, fun h => absurd rfl h⟩
        have : (!(([46, 46] : List Nat) == [46, 46]) || ((0 : Nat) == 0 && (List.replicate u ([46, 46] : List Nat)).isEmpty) || (!(List.replicate u ([46, 46] : List Nat)).isEmpty && (List.replicate u ([46, 46] : List Nat)).getLast?.getD [] == [46, 46])) = true := by
          cases u with
          | zero => rfl
          | succ u => rw [List.replicate_succ']; simp
        rw [if_pos this, List.replicate_succ']; simp
      · rw [if_neg (show ¬ ((n == 0) = true) from by simpa using h0)]
        have hu0 := hu h0
        subst hu0
        refine ⟨?_, by simp, fun _ => rfl⟩
        have : (n == 0) = false := by simpa using h0
        rw [this]; rfl
    · rw [List.concat_eq_append] at *
      have h1 : (!(l ++ [y]).isEmpty) = true := by cases l <;> rfl
      rw [if_pos h1]
      have hy : y ≠ [46, 46] := hn y (by simp)
      have h2 : (!(([46, 46] : List Nat) == [46, 46]) || (n == 0 && (List.replicate u ([46, 46] : List Nat) ++ (l ++ [y])).isEmpty) || (!(List.replicate u ([46, 46] : List Nat) ++ (l ++ [y])).isEmpty && (List.replicate u ([46, 46] : List Nat) ++ (l ++ [y])).getLast?.getD [] == [46, 46])) = false := by
        rw [← List.append_assoc]
        have e1 : ((List.replicate u ([46, 46] : List Nat) ++ l) ++ [y]).isEmpty = false := by cases (List.replicate u ([46, 46] : List Nat) ++ l) <;> rfl
        have e2 : ((List.replicate u ([46, 46] : List Nat) ++ l) ++ [y]).getLast?.getD [] = y := by simp
        rw [e1, e2]
        have e3 : (y == [46, 46]) = false := by simpa using hy
        rw [e3]; simp
      rw [h2, if_neg (by decide)]
      refine ⟨?_, fun x hx => hn x (List.dropLast_subset _ hx), hu⟩
      rw [← List.append_assoc, List.dropLast_concat, List.dropLast_concat]
  · have hd' : (c == [46, 46]) = false := by simpa using hd
    rw [hd', if_neg (show ¬ (false = true) from by decide)]
    by_cases he : (c.isEmpty || c == [46]) = true
    · have h3 : (([[], [46]] : List (List Nat)).contains c) = true := by
        rw [Bool.or_eq_true] at he
        rcases he with he | he
        · rw [List.isEmpty_iff] at he; subst he; rfl
        · have := eq_of_beq he; subst this; rfl
      rw [if_pos he, h3]
      exact ⟨rfl, hn, hu⟩
    · have h3 : (([[], [46]] : List (List Nat)).contains c) = false := by
        rw [Bool.not_eq_true, Bool.or_eq_false_iff] at he
        rw [← Bool.not_eq_true, List.contains_iff_mem]
        intro hm
        simp only [List.mem_cons, List.not_mem_nil, or_false] at hm
        rcases hm with rfl | rfl
        · exact absurd he.1 (by decide)
        · exact absurd he.2 (by decide)
      rw [if_neg he, h3]
      refine ⟨?_, fun x hx => ?_, hu⟩
      · simp
      · rcases List.mem_append.mp hx with hx | hx
        · exact hn x hx
        · rw [List.mem_singleton] at hx; subst hx; exact hd
theorem folds_same (n : Nat) : ∀ (cs : List (List Nat)) (u : Nat) (ns : List (List Nat)), (∀ x ∈ ns, x ≠ [46, 46]) → (n ≠ 0 → u = 0) →
    cs.foldl (nstep (rootN n)) (List.replicate u [46, 46] ++ ns) = List.replicate (cs.foldl (pstep n) (u, ns)).1 [46, 46] ++ (cs.foldl (pstep n) (u, ns)).2
  | [], _, _, _, _ => rfl
  | c :: cs, u, ns, hn, hu => by
    obtain ⟨h1, h2, h3⟩ := steps_same n c u ns hn hu
    rw [List.foldl_cons, List.foldl_cons, h1]
    exact folds_same n cs _ _ h2 h3
theorem plc_splt (p : List Nat) : plc (splt 47 p) = nrm p := by
  rw [nrm_eq]
  unfold plc csF
  rw [plcS_splt]
  have := folds_same (lead p) (splt 47 p) 0 [] (by simp) (fun _ => rfl)
  simp only [List.replicate_zero, List.nil_append] at this
  rw [this]
  rfl
end
section
seal Ev EvO Tr XS XJ EvL Pt Cmp Bin Spec Tst It Emit
-- normpath: what stands, and what it is behind another path
inductive Stab (r : List Nat) : List (List Nat) → Prop where
  | nil : Stab r []
  | snoc {l : List (List Nat)} {c : List Nat} : Stab r l → nstep r l c = l ++ [c] → c ≠ [] → c ≠ [46] → 47 ∉ c → Stab r (l ++ [c])
theorem Stab.dropLast {r : List Nat} {l : List (List Nat)} (h : Stab r l) : Stab r l.dropLast := by
  cases h with
  | nil => exact Stab.nil
  | snoc h _ _ _ _ => rw [List.dropLast_concat]; exact h
theorem stab_step {r : List Nat} {l : List (List Nat)} {c : List Nat} (h : Stab r l) (hc : 47 ∉ c) : Stab r (nstep r l c) := by
  have hn : nstep r l c = nstep r l c := rfl
  by_cases he : (c.isEmpty || c == [46]) = true
  · have : nstep r l c = l := by unfold nstep; rw [if_pos he]
    rw [this]; exact h
  · have he' := he
    rw [Bool.not_eq_true, Bool.or_eq_false_iff] at he'
    by_cases hq : (!(c == [46, 46]) || (r.isEmpty && l.isEmpty) || (!l.isEmpty && l.getLast?.getD [] == [46, 46])) = true
    · have e : nstep r l c = l ++ [c] := by unfold nstep; rw [if_neg he, if_pos hq]
      rw [e]
      refine Stab.snoc h e (fun e => ?_) (fun e => ?_) hc
      · subst e; exact absurd he'.1 (by decide)
      · subst e; exact absurd he'.2 (by decide)
    · have : nstep r l c = l.dropLast := by unfold nstep; rw [if_neg he, if_neg hq]
      rw [this]; exact h.dropLast
theorem stab_fold {r : List Nat} : ∀ (cs l : List (List Nat)), Stab r l → (∀ c ∈ cs, 47 ∉ c) → Stab r (cs.foldl (nstep r) l)
  | [], _, h, _ => h
  | c :: cs, l, h, hc => stab_fold cs _ (stab_step h (hc c (by simp))) fun x hx => hc x (by simp [hx])
theorem stab_cs (r p : List Nat) : Stab r (csF r p) := stab_fold _ _ Stab.nil fun c hc => splt_mem hc
theorem Stab.fix {r : List Nat} {l : List (List Nat)} (h : Stab r l) : l.foldl (nstep r) [] = l := by
  induction h with
  | nil => rfl
  | snoc h e _ _ _ ih => rw [List.foldl_append, ih]; exact e
theorem Stab.each {r : List Nat} {l : List (List Nat)} (h : Stab r l) : ∀ x ∈ l, x ≠ [] ∧ x ≠ [46] ∧ 47 ∉ x := by
  induction h with
  | nil => simp
  | snoc h e h1 h2 h3 ih =>
    intro x hx
    rcases List.mem_append.mp hx with hx | hx
    · exact ih x hx
    · rw [List.mem_singleton] at hx; subst hx; exact ⟨h1, h2, h3⟩
theorem fold_jn {r : List Nat} {s l : List (List Nat)} (h : ∀ x ∈ l, x ≠ [] ∧ x ≠ [46] ∧ 47 ∉ x) : (splt 47 (jn [47] l)).foldl (nstep r) s = l.foldl (nstep r) s := by
  by_cases hl : l = []
  · subst hl; rfl
  · rw [splt_jn hl fun p hp => (h p hp).2.2]
theorem lead_jn {l : List (List Nat)} (h : ∀ x ∈ l, x ≠ [] ∧ x ≠ [46] ∧ 47 ∉ x) : lead (jn [47] l) = 0 := by
  cases l with
  | nil => rfl
  | cons p l =>
    obtain ⟨h1, _, h3⟩ := h p (by simp)
    cases p with
    | nil => exact absurd rfl h1
    | cons a p =>
      simp only [List.mem_cons, not_or] at h3
      cases l with
      | nil => exact lead_cons_ne (Ne.symm h3.1)
      | cons q l => exact lead_cons_ne (Ne.symm h3.1)
noncomputable def nrmN (r : List Nat) (l : List (List Nat)) : List Nat := if (r ++ jn [47] l).isEmpty then [46] else r ++ jn [47] l
theorem nrm_N (p : List Nat) : nrm p = nrmN (rootN (lead p)) (csF (rootN (lead p)) p) := nrm_eq p
theorem jn_empty {l : List (List Nat)} (h : ∀ x ∈ l, x ≠ [] ∧ x ≠ [46] ∧ 47 ∉ x) : (jn [47] l).isEmpty = l.isEmpty := by
  cases l with
  | nil => rfl
  | cons p l =>
    obtain ⟨h1, _, h3⟩ := h p (by simp)
    cases p with
    | nil => exact absurd rfl h1
    | cons a p => cases l <;> rfl
/-- a normal path: its root, its names -/
theorem nrmN_root {n : Nat} {l : List (List Nat)} (h : ∀ x ∈ l, x ≠ [] ∧ x ≠ [46] ∧ 47 ∉ x) : rootN (lead (nrmN (rootN n) l)) = rootN n ∧ ∀ r s, (splt 47 (nrmN (rootN n) l)).foldl (nstep r) s = l.foldl (nstep r) s := by
  have hl := lead_jn h
  have hf := fun r s => fold_jn (r := r) (s := s) h
  match n with
  | 0 =>
    unfold nrmN
    have : rootN 0 = [] := rfl
    rw [this, List.nil_append, jn_empty h]
    cases l with
    | nil => exact ⟨rfl, fun r s => rfl⟩
    | cons a l => rw [show (a :: l).isEmpty = false from rfl, if_neg (by decide)]; exact ⟨by rw [hl]; rfl, hf⟩
  | 2 =>
    have e : nrmN (rootN 2) l = 47 :: 47 :: jn [47] l := rfl
    rw [e]
    refine ⟨by rw [lead, lead, hl], fun r s => ?_⟩
    rw [splt, if_pos rfl, splt, if_pos rfl, List.foldl_cons, List.foldl_cons, nstep_nil, nstep_nil, hf]
  | 1 =>
    have e : nrmN (rootN 1) l = 47 :: jn [47] l := rfl
    rw [e]
    refine ⟨by rw [lead, hl], fun r s => ?_⟩
    rw [splt, if_pos rfl, List.foldl_cons, nstep_nil, hf]
  | n + 3 =>
    have e0 : rootN (n + 3) = [47] := by unfold rootN; simp
    have e : nrmN (rootN (n + 3)) l = 47 :: jn [47] l := by rw [e0]; rfl
    rw [e, e0]
    refine ⟨by rw [lead, hl]; rfl, fun r s => ?_⟩
    rw [splt, if_pos rfl, List.foldl_cons, nstep_nil, hf]
theorem nrm_root (p : List Nat) : rootN (lead (nrm p)) = rootN (lead p) := by
  rw [nrm_N]; exact (nrmN_root (stab_cs _ _).each).1
theorem nrm_splt (p : List Nat) (r : List Nat) (s : List (List Nat)) : (splt 47 (nrm p)).foldl (nstep r) s = (csF (rootN (lead p)) p).foldl (nstep r) s := by
  rw [nrm_N]; exact (nrmN_root (stab_cs _ _).each).2 r s
theorem nrm_idem (p : List Nat) : nrm (nrm p) = nrm p := by
  have h1 := nrm_root p
  have h2 : csF (rootN (lead (nrm p))) (nrm p) = csF (rootN (lead p)) p := by
    unfold csF
    rw [nrm_splt, h1]
    exact (stab_cs _ _).fix
  have h3 := nrm_N (nrm p)
  rw [h2, h1, ← nrm_N] at h3
  exact h3

/-- a relative path behind another -/
theorem absorb1 {r : List Nat} (hr : r.isEmpty = false) {st s : List (List Nat)} {c : List Nat} (h : Stab [] st) : nstep r (st.foldl (nstep r) s) c = (nstep [] st c).foldl (nstep r) s := by
  by_cases he : (c.isEmpty || c == [46]) = true
  · have e1 : ∀ r l, nstep r l c = l := fun r l => by unfold nstep; rw [if_pos he]
    rw [e1, e1]
  · by_cases hq : (!(c == [46, 46]) || (([] : List Nat).isEmpty && st.isEmpty) || (!st.isEmpty && st.getLast?.getD [] == [46, 46])) = true
    · have e : nstep [] st c = st ++ [c] := by unfold nstep; rw [if_neg he, if_pos hq]
      rw [e, List.foldl_append]; rfl
    · have e : nstep [] st c = st.dropLast := by unfold nstep; rw [if_neg he, if_neg hq]
      rw [e]
      rw [Bool.not_eq_true, Bool.or_eq_false_iff, Bool.or_eq_false_iff] at hq
      obtain ⟨⟨q1, q2⟩, q3⟩ := hq
      have hc : c = [46, 46] := by simpa using q1
      subst hc
      cases h with
      | nil => exact absurd q2 (by decide)
      | @snoc l x hs ex x1 x2 x3 =>
        have e1 : (l ++ [x]).isEmpty = false := by cases l <;> rfl
        have e2 : (l ++ [x]).getLast?.getD [] = x := by simp
        rw [e1, e2] at q3
        have hx : (x == [46, 46]) = false := by simpa using q3
        rw [List.dropLast_concat, List.foldl_append]
        generalize l.foldl (nstep r) s = t
        show nstep r (nstep r t x) [46, 46] = t
        have h1 : nstep r t x = t ++ [x] := by
          unfold nstep
          have : (x.isEmpty || x == [46]) = false := by
            rw [Bool.or_eq_false_iff]
            exact ⟨by cases x with | nil => exact absurd rfl x1 | cons _ _ => rfl, by simpa using x2⟩
          rw [this, if_neg (by decide), hx, if_pos (by simp)]
        rw [h1]
        unfold nstep
        rw [if_neg (show ¬ ((([46, 46] : List Nat).isEmpty || ([46, 46] : List Nat) == [46]) = true) from by decide)]
        have f1 : (t ++ [x]).isEmpty = false := by cases t <;> rfl
        have f2 : (t ++ [x]).getLast?.getD [] = x := by simp
        rw [f1, f2, hx, hr, if_neg (by decide), List.dropLast_concat]
theorem absorb {r : List Nat} (hr : r.isEmpty = false) (s : List (List Nat)) : ∀ (cs st : List (List Nat)), Stab [] st → (∀ c ∈ cs, 47 ∉ c) → cs.foldl (nstep r) (st.foldl (nstep r) s) = (cs.foldl (nstep []) st).foldl (nstep r) s
  | [], _, _, _ => rfl
  | c :: cs, st, h, hc => by
    rw [List.foldl_cons, List.foldl_cons, absorb1 hr h]
    exact absorb hr s cs _ (stab_step h (hc c (by simp))) fun x hx => hc x (by simp [hx])
theorem absorb_cs {r : List Nat} (hr : r.isEmpty = false) (s : List (List Nat)) (p : List Nat) : (splt 47 p).foldl (nstep r) s = (csF [] p).foldl (nstep r) s :=
  absorb hr s (splt 47 p) [] Stab.nil fun c hc => splt_mem hc

/-- the folder that the moved document stands in -/
noncomputable def mF : List Nat := [47, 109, 38, 47, 110]
theorem head_lead {p : List Nat} : (p.head? == some 47) = (lead p != 0) := by
  cases p with
  | nil => rfl
  | cons a r =>
    by_cases h : a = 47
    · subst h; simp [lead]
    · rw [lead_cons_ne h, show ((a :: r).head? == some 47) = (a == 47) from rfl, beq_eq_false_iff_ne.mpr h]; rfl
theorem rootN_lead {p : List Nat} : (rootN (lead p)).isEmpty = !(p.head? == some 47) := by
  rw [rootN_e, head_lead]; cases lead p <;> rfl
theorem jnp_m_abs {p : List Nat} (h : (p.head? == some 47) = true) : jnp mF p = p := by
  unfold jnp; rw [h]; rfl
theorem jnp_m_rel {p : List Nat} (h : (p.head? == some 47) = false) : jnp mF p = mF ++ 47 :: p := by
  unfold jnp; rw [h]; rfl
theorem nrm_m_rel (p : List Nat) (h : (p.head? == some 47) = false) : nrm (jnp mF p) = nrmN [47] ((splt 47 p).foldl (nstep [47]) [[109, 38], [110]]) := by
  rw [jnp_m_rel h, nrm_N]
  have e1 : rootN (lead (mF ++ 47 :: p)) = [47] := rfl
  rw [e1]
  unfold csF
  rw [splt_mid, List.foldl_append]
  rfl
theorem nrm_head (p : List Nat) : ((nrm p).head? == some 47) = (p.head? == some 47) := by
  have := nrm_root p
  have h1 := rootN_lead (p := nrm p)
  have h2 := rootN_lead (p := p)
  rw [this, h2] at h1
  cases h : ((nrm p).head? == some 47) <;> cases h' : (p.head? == some 47) <;> simp_all
/-- join and normpath agree about a normal path -/
theorem nrm_join (p : List Nat) : nrm (jnp mF (nrm p)) = nrm (jnp mF p) := by
  cases h : (p.head? == some 47) with
  | true =>
    rw [jnp_m_abs h, jnp_m_abs (by rw [nrm_head, h]), nrm_idem]
  | false =>
    rw [nrm_m_rel p h, nrm_m_rel (nrm p) (by rw [nrm_head, h])]
    congr 1
    rw [nrm_splt]
    have : rootN (lead p) = [] := by
      have := rootN_lead (p := p)
      rw [h] at this
      simpa using this
    rw [this]
    exact (absorb_cs (by decide) _ p).symm

theorem dropR_app {m q : List Nat} (h : allS q = false) : dropR 47 (m ++ q) = m ++ dropR 47 q := by
  revert h
  refine snoc_ind (P := fun q => allS q = false → dropR 47 (m ++ q) = m ++ dropR 47 q) ?_ ?_ q
  · intro h; cases h
  · intro x a ih h
    by_cases ha : a = 47
    · subst ha
      have h' : allS x = false := by unfold allS at h ⊢; simpa using h
      rw [← List.append_assoc, dropR_snoc, dropR_snoc, ih h']
    · rw [← List.append_assoc, dropR_end ha, dropR_end ha, List.append_assoc]
theorem dropR_ne {q : List Nat} (h : allS q = false) : ∃ x a, dropR 47 q = x ++ [a] ∧ a ≠ 47 := by
  revert h
  refine snoc_ind (P := fun q => allS q = false → ∃ x a, dropR 47 q = x ++ [a] ∧ a ≠ 47) ?_ ?_ q
  · intro h; cases h
  · intro x a ih h
    by_cases ha : a = 47
    · subst ha
      have h' : allS x = false := by unfold allS at h ⊢; simpa using h
      rw [dropR_snoc]; exact ih h'
    · exact ⟨x, a, dropR_end ha x, ha⟩
theorem dropR_head {q : List Nat} (h : allS q = false) : (dropR 47 q).head? = q.head? := by
  revert h
  refine snoc_ind (P := fun q => allS q = false → (dropR 47 q).head? = q.head?) ?_ ?_ q
  · intro h; cases h
  · intro x a ih h
    by_cases ha : a = 47
    · subst ha
      have h' : allS x = false := by unfold allS at h ⊢; simpa using h
      rw [dropR_snoc, ih h']
      cases x with
      | nil => cases h'
      | cons _ _ => rfl
    · rw [dropR_end ha]
theorem dnm_head {p : List Nat} (h : (p.head? == some 47) = true) : ((dnm p).head? == some 47) = true := by
  have hm : 47 ∈ p := by
    cases p with
    | nil => cases h
    | cons a r => simp at h; subst h; simp
  obtain ⟨q, z, rfl, hz⟩ := cut_last hm
  rw [dnm_cut hz]
  cases hq : allS q with
  | true =>
    rw [if_pos rfl]
    cases q with
    | nil => rfl
    | cons a q => simpa using h
  | false =>
    rw [if_neg (by decide), dropR_head hq]
    cases q with
    | nil => cases hq
    | cons a q => simpa using h
theorem jnp_abs_l {d t : List Nat} (h : (d.head? == some 47) = true) : ((jnp d t).head? == some 47) = true := by
  unfold jnp
  split
  · rename_i h2
    rw [Bool.or_eq_true] at h2
    rcases h2 with h2 | h2
    · exact h2
    · rw [List.isEmpty_iff] at h2; subst h2; cases h
  · split
    · cases d with
      | nil => cases h
      | cons a d => simpa using h
    · cases d with
      | nil => cases h
      | cons a d => simpa using h
theorem jnp_end {x t : List Nat} {a : Nat} (h : a ≠ 47) (ht : (t.head? == some 47) = false) : jnp (x ++ [a]) t = x ++ [a] ++ 47 :: t := by
  unfold jnp
  have e1 : (x ++ [a]).isEmpty = false := by cases x <;> rfl
  have e2 : ((x ++ [a]).getLast? == some 47) = false := by simpa using h
  rw [ht, e1, e2]; rfl
/-- the base of what is moved -/
theorem base_moved (b t : List Nat) : jnp (dnm (jnp mF b)) t = jnp mF (jnp (dnm b) t) := by
  cases ht : (t.head? == some 47) with
  | true =>
    have e : ∀ d, jnp d t = t := fun d => by unfold jnp; rw [ht]; rfl
    rw [e, e, e]
  | false =>
    cases hb : (b.head? == some 47) with
    | true => rw [jnp_m_abs hb, jnp_m_abs (jnp_abs_l (dnm_head hb))]
    | false =>
      rw [jnp_m_rel hb]
      by_cases hm : 47 ∈ b
      · obtain ⟨q, z, rfl, hz⟩ := cut_last hm
        have hqs : allS q = false := by
          cases q with
          | nil => exact absurd hb (by simp)
          | cons a q =>
            unfold allS
            rw [List.all_cons]
            have : (a == 47) = false := by simpa using hb
            rw [this]; rfl
        have e1 : mF ++ 47 :: (q ++ 47 :: z) = (mF ++ 47 :: q) ++ 47 :: z := by simp
        have hq2 : allS (mF ++ 47 :: q) = false := rfl
        rw [e1, dnm_cut hz, hq2, dnm_cut hz, hqs]
        simp only [Bool.false_eq_true, if_false]
        have e2 : mF ++ 47 :: q = (mF ++ [47]) ++ q := by simp
        rw [e2, dropR_app hqs]
        obtain ⟨x, a, e3, ha⟩ := dropR_ne hqs
        have hh := dropR_head hqs
        rw [e3] at hh
        rw [e3, ← List.append_assoc, jnp_end ha ht, jnp_end ha ht, jnp_m_rel]
        · simp
        · have h1 : ((x ++ [a]) ++ 47 :: t).head? = (x ++ [a]).head? := by cases x <;> rfl
          rw [h1, hh]
          cases q with
          | nil => cases hqs
          | cons a q => simpa using hb
      · have e1 : dnm (mF ++ 47 :: b) = mF := by rw [dnm_cut hm]; rfl
        rw [e1, dnm_no hm]
        have : jnp [] t = t := by unfold jnp; simp
        rw [this]
end
section
seal Ev EvO Tr XS XJ EvL Pt Cmp Bin Spec Tst It Emit
-- the documents as rows of signs, and what the reader tells of them
section
variable (ups : List Nat) (b h p : Nat → List Nat)
noncomputable def evF : Nat → Nat → List Evt
  | 0, k => [.op (b k) (h k) (p k), .cl]
  | n + 1, k => .op (b k) (h k) (p k) :: ((kids ups k).flatMap (evF n) ++ [.cl])
noncomputable def rowsT : Nat → Nat → List Nat → List D
  | 0, k, P => [row4 (b k) (h k) (nrm (jnp (dnm (jnp (dnm P) (b k))) (h k))) (p k)]
  | n + 1, k, P => row4 (b k) (h k) (nrm (jnp (dnm (jnp (dnm P) (b k))) (h k))) (p k) :: (kids ups k).flatMap fun c => rowsT n c (jnp (dnm P) (b k))
end
noncomputable def txtE (d : Int) : List Evt → List Nat
  | [] => []
  | .cl :: r => clo ++ txtE d r
  | .op b h t :: r => opn d b h t ++ txtE d r
theorem txtE_app (d : Int) : ∀ a c : List Evt, txtE d (a ++ c) = txtE d a ++ txtE d c
  | [], _ => rfl
  | .cl :: r, c => by rw [List.cons_append, txtE, txtE, txtE_app d r c, List.append_assoc]
  | .op b h t :: r, c => by rw [List.cons_append, txtE, txtE, txtE_app d r c, List.append_assoc]
theorem txtE_flat (d : Int) (f : Nat → List Evt) : ∀ ks : List Nat, txtE d (ks.flatMap f) = ks.flatMap fun k => txtE d (f k)
  | [] => rfl
  | k :: ks => by rw [List.flatMap_cons, List.flatMap_cons, txtE_app, txtE_flat d f ks]
theorem opsN_app : ∀ a c : List Evt, opsN (a ++ c) = opsN a + opsN c
  | [], _ => by simp [opsN]
  | .cl :: r, c => by rw [List.cons_append, opsN, opsN, opsN_app r c]
  | .op b h t :: r, c => by rw [List.cons_append, opsN, opsN, opsN_app r c]; omega
theorem szE_app : ∀ a c : List Evt, szE a → szE c → szE (a ++ c)
  | [], _, _, h => h
  | .cl :: r, c, h1, h2 => szE_app r c h1 h2
  | .op b h t :: r, c, h1, h2 => ⟨h1.1, szE_app r c h1.2 h2⟩
theorem docT_app (d : Int) (hs : List Int) (r : List Evt) : ∀ E : List Evt, docT (List.replicate (opsN E) d ++ hs) (E ++ r) = txtE d E ++ docT hs r
  | [] => rfl
  | .cl :: E => by
    rw [opsN, List.cons_append, docT, docT_app d hs r E, txtE]
    show clo ++ _ = _
    rw [List.append_assoc]
  | .op b h t :: E => by
    rw [opsN, List.replicate_succ, List.cons_append, List.cons_append, docT, docT_app d hs r E, txtE, List.append_assoc]
theorem docF_txt (ups : List Nat) (bases hrefs places : List (List Nat)) (d : Int) : ∀ n k, docF ups bases hrefs places d n k = txtE d (evF ups (fun k => bases.getD k []) (fun k => hrefs.getD k []) (fun k => places.getD k []) n k)
  | 0, k => by rw [docF, evF, txtE, txtE, txtE]; simp
  | n + 1, k => by
    rw [docF, evF, txtE, txtE_app, txtE_flat, txtE, txtE, List.append_nil, List.append_assoc]
    congr 3
    funext c
    exact docF_txt ups bases hrefs places d n c

section
variable {ups : List Nat} {b h p : Nat → List Nat}
theorem okE_ev (d : Int) : ∀ (n : Nat),
    (∀ k hs bs r, bs ≠ [] → okE hs bs r → okE (List.replicate (opsN (evF ups b h p n k)) d ++ hs) bs (evF ups b h p n k ++ r)) ∧
    (∀ (ks : List Nat) hs bs r, bs ≠ [] → okE hs bs r → okE (List.replicate (opsN (ks.flatMap (evF ups b h p n))) d ++ hs) bs (ks.flatMap (evF ups b h p n) ++ r)) := fun n => by
  have forest : ∀ n, (∀ k hs bs r, bs ≠ [] → okE hs bs r → okE (List.replicate (opsN (evF ups b h p n k)) d ++ hs) bs (evF ups b h p n k ++ r)) →
      (∀ (ks : List Nat) hs bs r, bs ≠ [] → okE hs bs r → okE (List.replicate (opsN (ks.flatMap (evF ups b h p n))) d ++ hs) bs (ks.flatMap (evF ups b h p n) ++ r)) := fun n ih ks => by
    induction ks with
    | nil => intro hs bs r _ h; exact h
    | cons k ks ihk =>
      intro hs bs r hb h
      rw [List.flatMap_cons, opsN_app, ← List.replicate_append_replicate, List.append_assoc, List.append_assoc]
      exact ih k _ bs _ hb (ihk hs bs r hb h)
  induction n with
  | zero =>
    have h0 : ∀ k hs bs r, bs ≠ [] → okE hs bs r → okE (List.replicate (opsN (evF ups b h p 0 k)) d ++ hs) bs (evF ups b h p 0 k ++ r) := fun k hs bs r hb hk => by
      rw [evF]
      refine ⟨hb, ?_⟩
      show okE hs (bs ++ [baseF bs (b k)]).dropLast r
      rw [List.dropLast_concat]; exact hk
    exact ⟨h0, forest 0 h0⟩
  | succ n ih =>
    have h0 : ∀ k hs bs r, bs ≠ [] → okE hs bs r → okE (List.replicate (opsN (evF ups b h p (n + 1) k)) d ++ hs) bs (evF ups b h p (n + 1) k ++ r) := fun k hs bs r hb hk => by
      rw [evF, opsN, List.replicate_succ, List.cons_append, List.cons_append, opsN_app, List.append_assoc]
      refine ⟨hb, ih.2 (kids ups k) hs (bs ++ [baseF bs (b k)]) (.cl :: r) (by simp) ?_⟩
      show okE hs (bs ++ [baseF bs (b k)]).dropLast r
      rw [List.dropLast_concat]; exact hk
    exact ⟨h0, forest (n + 1) h0⟩
theorem rdE_ev : ∀ (n : Nat),
    (∀ k bs r, rdE bs (evF ups b h p n k ++ r) = rowsT ups b h p n k (bs.getLast?.getD []) ++ rdE bs r) ∧
    (∀ (ks : List Nat) bs r, rdE bs (ks.flatMap (evF ups b h p n) ++ r) = (ks.flatMap fun c => rowsT ups b h p n c (bs.getLast?.getD [])) ++ rdE bs r) := fun n => by
  have forest : ∀ n, (∀ k bs r, rdE bs (evF ups b h p n k ++ r) = rowsT ups b h p n k (bs.getLast?.getD []) ++ rdE bs r) →
      (∀ (ks : List Nat) bs r, rdE bs (ks.flatMap (evF ups b h p n) ++ r) = (ks.flatMap fun c => rowsT ups b h p n c (bs.getLast?.getD [])) ++ rdE bs r) := fun n ih ks => by
    induction ks with
    | nil => intro bs r; rfl
    | cons k ks ihk =>
      intro bs r
      rw [List.flatMap_cons, List.append_assoc, ih, ihk, List.flatMap_cons, List.append_assoc]
  have last : ∀ (bs : List (List Nat)) x, (bs ++ [x]).getLast?.getD [] = x := fun bs x => by simp
  induction n with
  | zero =>
    have h0 : ∀ k bs r, rdE bs (evF ups b h p 0 k ++ r) = rowsT ups b h p 0 k (bs.getLast?.getD []) ++ rdE bs r := fun k bs r => by
      rw [evF, rowsT]
      show row4 _ _ _ _ :: rdE (bs ++ [baseF bs (b k)]).dropLast r = _
      rw [List.dropLast_concat]; rfl
    exact ⟨h0, forest 0 h0⟩
  | succ n ih =>
    have h0 : ∀ k bs r, rdE bs (evF ups b h p (n + 1) k ++ r) = rowsT ups b h p (n + 1) k (bs.getLast?.getD []) ++ rdE bs r := fun k bs r => by
      rw [evF, rowsT, List.cons_append, rdE, List.append_assoc, ih.2, last]
      show row4 _ _ _ _ :: (_ ++ rdE (bs ++ [baseF bs (b k)]).dropLast r) = _
      rw [List.dropLast_concat]; rfl
    exact ⟨h0, forest (n + 1) h0⟩
theorem opsN_ev : ∀ (n k : Nat), opsN (evF ups b h p n k) = (ordF ups n k).length
  | 0, k => rfl
  | n + 1, k => by
    rw [evF, opsN, opsN_app, ordF, List.length_cons]
    have : ∀ ks : List Nat, opsN (ks.flatMap (evF ups b h p n)) = (ks.flatMap (ordF ups n)).length := fun ks => by
      induction ks with
      | nil => rfl
      | cons c ks ih => rw [List.flatMap_cons, opsN_app, ih, opsN_ev n c, List.flatMap_cons, List.length_append]
    rw [this]; rfl
theorem szE_ev (hb : ∀ k, (b k).length ≤ 9000) (hh : ∀ k, (h k).length ≤ 9000) (hp : ∀ k, (p k).length ≤ 9000) : ∀ (n k : Nat), szE (evF ups b h p n k)
  | 0, k => ⟨⟨hb k, hh k, hp k⟩, trivial⟩
  | n + 1, k => by
    rw [evF]
    refine ⟨⟨hb k, hh k, hp k⟩, szE_app _ _ ?_ trivial⟩
    generalize kids ups k = ks
    induction ks with
    | nil => trivial
    | cons c ks ih => rw [List.flatMap_cons]; exact szE_app _ _ (szE_ev hb hh hp n c) ih
end

theorem kids_mem2 {ups : List Nat} {k c : Nat} (h : c ∈ kids ups k) : ups.getD c 0 = k ∧ k < c := by
  unfold kids at h
  obtain ⟨h1, h2⟩ := List.mem_filter.mp h
  obtain ⟨i, _, rfl⟩ := List.mem_map.mp h1
  exact ⟨by simpa using h2, by omega⟩
/-- the reader comes to just the places of the walk over pieces -/
theorem rows_ord (outer : List (List Nat)) (ups : List Nat) (bases hrefs : List (List Nat)) (p : Nat → List Nat) : ∀ (n k : Nat) (P : List Nat), wayIn outer ups bases k = splt 47 P →
    rowsT ups (fun k => bases.getD k []) (fun k => hrefs.getD k []) p n k P = (ordF ups n k).map fun j => row4 (bases.getD j []) (hrefs.getD j []) (plcK outer ups bases hrefs j) (p j) := fun n => by
  have one : ∀ k P, wayIn outer ups bases k = splt 47 P → way outer ups bases k = splt 47 (jnp (dnm P) (bases.getD k [])) ∧
      nrm (jnp (dnm (jnp (dnm P) (bases.getD k []))) (hrefs.getD k [])) = plcK outer ups bases hrefs k := fun k P hw => by
    have h1 : way outer ups bases k = splt 47 (jnp (dnm P) (bases.getD k [])) := by rw [way_eq, hw, bhd_splt]
    refine ⟨h1, ?_⟩
    unfold plcK
    rw [h1, bhd_splt, plc_splt]
  induction n with
  | zero =>
    intro k P hw
    rw [rowsT, ordF, (one k P hw).2]; rfl
  | succ n ih =>
    intro k P hw
    rw [rowsT, ordF, (one k P hw).2, List.map_cons, List.map_flatMap]
    congr 1
    have : ∀ ks : List Nat, (∀ c ∈ ks, c ∈ kids ups k) → (ks.flatMap fun c => rowsT ups (fun k => bases.getD k []) (fun k => hrefs.getD k []) p n c (jnp (dnm P) (bases.getD k []))) = ks.flatMap fun c => (ordF ups n c).map fun j => row4 (bases.getD j []) (hrefs.getD j []) (plcK outer ups bases hrefs j) (p j) := fun ks hks => by
      induction ks with
      | nil => rfl
      | cons c ks ihk =>
        rw [List.flatMap_cons, List.flatMap_cons, ihk fun x hx => hks x (by simp [hx])]
        obtain ⟨e1, e2⟩ := kids_mem2 (hks c (by simp))
        rw [ih c (jnp (dnm P) (bases.getD k []))]
        unfold wayIn
        rw [e1, if_pos e2]
        exact (one k P hw).1
    exact this _ fun c hc => hc
theorem ways_moved (ups : List Nat) (bases : List (List Nat)) (k : Nat) : ∃ B, way [[]] ups bases k = splt 47 B ∧ way [[], [109, 38], [110], []] ups bases k = splt 47 (jnp mF B) := by
  induction k using Nat.strongRecOn with
  | ind k ih =>
    rw [way_eq, way_eq]
    have : ∃ P, wayIn [[]] ups bases k = splt 47 P ∧ wayIn [[], [109, 38], [110], []] ups bases k = splt 47 (jnp mF P) := by
      unfold wayIn
      by_cases hu : ups.getD k 0 < k
      · rw [if_pos hu, if_pos hu]; exact ih _ hu
      · rw [if_neg hu, if_neg hu]; exact ⟨[], rfl, rfl⟩
    obtain ⟨P, h1, h2⟩ := this
    refine ⟨jnp (dnm P) (bases.getD k []), ?_, ?_⟩
    · rw [h1, bhd_splt]
    · rw [h2, bhd_splt, base_moved]
theorem moved_eq (ups : List Nat) (bases hrefs : List (List Nat)) (k : Nat) : nrm (jnp mF (plcK [[]] ups bases hrefs k)) = plcK [[], [109, 38], [110], []] ups bases hrefs k := by
  obtain ⟨B, h1, h2⟩ := ways_moved ups bases k
  unfold plcK
  rw [h1, h2, bhd_splt, bhd_splt, plc_splt, plc_splt, base_moved, nrm_join]
theorem moved_abs (ups : List Nat) (bases hrefs : List (List Nat)) (k : Nat) : (plcK [[], [109, 38], [110], []] ups bases hrefs k).head? = some 47 := by
  rw [← moved_eq]
  have h1 := nrm_head (jnp mF (plcK [[]] ups bases hrefs k))
  have h2 : ((jnp mF (plcK [[]] ups bases hrefs k)).head? == some 47) = true := jnp_abs_l rfl
  rw [h2] at h1
  exact eq_of_beq h1
theorem moved_norm (ups : List Nat) (bases hrefs : List (List Nat)) (k : Nat) : nrm (plcK [[], [109, 38], [110], []] ups bases hrefs k) = plcK [[], [109, 38], [110], []] ups bases hrefs k := by
  rw [← moved_eq, nrm_idem]
end
section
seal Ev EvO Tr XS XJ EvL Pt Cmp Bin Spec Tst It Emit
-- the least, the greatest, and what they have in common
theorem llt_irrefl : ∀ a : List (List Nat), llt a a = false
  | [] => rfl
  | x :: a => by rw [llt, if_pos rfl, llt_irrefl a]
theorem llt_trans : ∀ {a b c : List (List Nat)}, llt a b = true → llt b c = true → llt a c = true
  | [], [], _, h, _ => by cases h
  | [], _ :: _, [], _, h => by cases h
  | [], _ :: _, _ :: _, _, _ => rfl
  | _ :: _, [], _, h, _ => by cases h
  | _ :: _, _ :: _, [], _, h => by cases h
  | x :: a, y :: b, z :: c, h1, h2 => by
    unfold llt at h1 h2 ⊢
    by_cases hxy : x = y
    · subst hxy
      rw [if_pos rfl] at h1
      by_cases hxz : x = z
      · subst hxz
        rw [if_pos rfl] at h2 ⊢
        exact llt_trans h1 h2
      · rw [if_neg hxz] at h2 ⊢; exact h2
    · rw [if_neg hxy] at h1
      have l1 : x < y := of_decide_eq_true h1
      by_cases hyz : y = z
      · subst hyz
        rw [if_neg hxy]; exact h1
      · rw [if_neg hyz] at h2
        have l2 : y < z := of_decide_eq_true h2
        have l3 := List.lt_trans l1 l2
        have : x ≠ z := fun e => by subst e; exact List.lt_irrefl x l3
        rw [if_neg this]; exact decide_eq_true l3
theorem best_min (ls : List (List (List Nat))) : ∀ n i, i ≤ n → llt (ls.getD i []) (ls.getD (argBest (btmin ls) n) []) = false
  | 0, i, h => by
    have : i = 0 := by omega
    subst this; exact llt_irrefl _
  | n + 1, i, h => by
    unfold argBest
    split
    · rename_i hb
      have hb' : llt (ls.getD (n + 1) []) (ls.getD (argBest (btmin ls) n) []) = true := hb
      by_cases hi : i = n + 1
      · subst hi; exact llt_irrefl _
      · have ih := best_min ls n i (by omega)
        rw [← Bool.not_eq_true]
        intro hc
        rw [llt_trans hc hb'] at ih; cases ih
    · rename_i hb
      by_cases hi : i = n + 1
      · subst hi
        rw [← Bool.not_eq_true]; exact hb
      · exact best_min ls n i (by omega)
theorem best_max (ls : List (List (List Nat))) : ∀ n i, i ≤ n → llt (ls.getD (argBest (btmax ls) n) []) (ls.getD i []) = false
  | 0, i, h => by
    have : i = 0 := by omega
    subst this; exact llt_irrefl _
  | n + 1, i, h => by
    unfold argBest
    split
    · rename_i hb
      have hb' : llt (ls.getD (argBest (btmax ls) n) []) (ls.getD (n + 1) []) = true := hb
      by_cases hi : i = n + 1
      · subst hi; exact llt_irrefl _
      · have ih := best_max ls n i (by omega)
        rw [← Bool.not_eq_true]
        intro hc
        rw [llt_trans hb' hc] at ih; cases ih
    · rename_i hb
      by_cases hi : i = n + 1
      · subst hi
        rw [← Bool.not_eq_true]; exact hb
      · exact best_max ls n i (by omega)
theorem mn_le {ls : List (List (List Nat))} {w : List (List Nat)} (h : w ∈ ls) : llt w (mnL ls) = false := by
  obtain ⟨i, hi, rfl⟩ := List.getElem_of_mem h
  have := best_min ls (ls.length - 1) i (by omega)
  rw [List.getD_eq_getElem?_getD, List.getElem?_eq_getElem hi] at this
  exact this
theorem mx_ge {ls : List (List (List Nat))} {w : List (List Nat)} (h : w ∈ ls) : llt (mxL ls) w = false := by
  obtain ⟨i, hi, rfl⟩ := List.getElem_of_mem h
  have := best_max ls (ls.length - 1) i (by omega)
  rw [List.getD_eq_getElem?_getD (l := ls) (i := i), List.getElem?_eq_getElem hi] at this
  exact this
theorem mxL_mem (ls : List (List (List Nat))) (h : 0 < ls.length) : mxL ls ∈ ls := by
  unfold mxL
  have := argBest_lt (btmax ls) (ls.length - 1)
  have hlt : argBest (btmax ls) (ls.length - 1) < ls.length := by omega
  rw [List.getD_eq_getElem?_getD, List.getElem?_eq_getElem hlt]
  exact List.getElem_mem hlt
theorem mxmn (ls : List (List (List Nat))) (h : 0 < ls.length) : llt (mxL ls) (mnL ls) = false := mn_le (mxL_mem ls h)
theorem lcp_between : ∀ (mn mx w : List (List Nat)), llt w mn = false → llt mx w = false → ∃ t, w = lcp mn mx ++ t
  | [], mx, w, _, _ => ⟨w, by rw [lcp_nil]; rfl⟩
  | x :: a, [], w, _, _ => ⟨w, by unfold lcp; rfl⟩
  | x :: a, y :: b, w, h1, h2 => by
    by_cases hxy : x = y
    · subst hxy
      rw [lcp, if_pos rfl]
      cases w with
      | nil => cases h1
      | cons z w =>
        by_cases hz : z = x
        · subst hz
          rw [llt, if_pos rfl] at h1 h2
          obtain ⟨t, ht⟩ := lcp_between a b w h1 h2
          exact ⟨t, by rw [ht]; rfl⟩
        · rw [llt, if_neg hz] at h1
          rw [llt, if_neg (Ne.symm hz)] at h2
          have l1 := of_decide_eq_false h1
          have l2 := of_decide_eq_false h2
          exact absurd (List.le_antisymm (List.not_lt.mp l2) (List.not_lt.mp l1)) hz
    · exact ⟨w, by rw [lcp, if_neg hxy]; rfl⟩
theorem shq_pre : ∀ (c : List (List Nat)) (ws : List (List (List Nat))) (t0 : List (List Nat)), (∀ w ∈ ws, ∃ t, w = c ++ t) → shq ws (c ++ t0) = c.length + shq (ws.map (List.drop c.length)) t0
  | [], ws, t0, _ => by
    have : ws.map (List.drop 0) = ws := List.map_id'' (fun _ => rfl) _
    rw [List.length_nil, this, Nat.zero_add]; rfl
  | x :: c, ws, t0, h => by
    have h1 : ws.all (fun w => w.take 1 == [x]) = true := by
      rw [List.all_eq_true]
      intro w hw
      obtain ⟨t, rfl⟩ := h w hw
      simp
    have h2 : ∀ w ∈ ws.map (List.drop 1), ∃ t, w = c ++ t := fun w hw => by
      obtain ⟨v, hv, rfl⟩ := List.mem_map.mp hw
      obtain ⟨t, rfl⟩ := h v hv
      exact ⟨t, rfl⟩
    rw [List.cons_append, shq, if_pos h1, shq_pre c _ t0 h2, List.map_map, List.length_cons]
    have : (List.drop c.length ∘ List.drop 1 : List (List Nat) → List (List Nat)) = List.drop (c.length + 1) := by
      funext l
      show List.drop c.length (List.drop 1 l) = _
      rw [List.drop_drop, Nat.add_comm]
    rw [this]; omega
/-- the names that all ways have in common -/
theorem shq_lcp (ws : List (List (List Nat))) (w0 : List (List Nat)) (h0 : w0 ∈ ws) : shq ws w0 = (lcp (mnL ws) (mxL ws)).length ∧ ∀ w ∈ ws, ∃ t, w = lcp (mnL ws) (mxL ws) ++ t := by
  have hne : 0 < ws.length := List.length_pos_of_mem h0
  have hall : ∀ w ∈ ws, ∃ t, w = lcp (mnL ws) (mxL ws) ++ t := fun w hw => lcp_between _ _ _ (mn_le hw) (mx_ge hw)
  refine ⟨?_, hall⟩
  obtain ⟨m1, e1⟩ := hall _ (mnL_mem ws hne)
  obtain ⟨m2, e2⟩ := hall _ (mxL_mem ws hne)
  have m1m := mnL_mem ws hne
  have m2m := mxL_mem ws hne
  obtain ⟨t0, e0⟩ := hall w0 h0
  generalize hc : lcp (mnL ws) (mxL ws) = c at *
  rw [e0, shq_pre c ws t0 hall]
  have : shq (ws.map (List.drop c.length)) t0 = 0 := by
    cases t0 with
    | nil => unfold shq; cases (ws.map (List.drop c.length)) <;> rfl
    | cons y t0 =>
      rw [shq, if_neg]
      intro hA
      rw [List.all_eq_true] at hA
      have a1 := hA _ (List.mem_map.mpr ⟨_, m1m, rfl⟩)
      have a2 := hA _ (List.mem_map.mpr ⟨_, m2m, rfl⟩)
      rw [e1] at a1
      rw [e2] at a2
      rw [List.drop_left] at a1 a2
      cases m1 with
      | nil => cases a1
      | cons u m1 =>
        cases m2 with
        | nil => cases a2
        | cons v m2 =>
          have b1 : u = y := by simpa using a1
          have b2 : v = y := by simpa using a2
          subst b1; subst b2
          rw [e1, e2, lcp_pre] at hc
          have := congrArg List.length hc
          rw [List.length_append, lcp, if_pos rfl, List.length_cons] at this
          omega
  rw [this]; omega
theorem lcp_rel (a t : List (List Nat)) : lcp (mnL [a, a ++ t]) (mxL [a, a ++ t]) = a := by
  have h1 : llt (a ++ t) a = false := by
    have := llt_pre a t []
    rw [List.append_nil] at this
    rw [this]; cases t <;> rfl
  have h2 : lcp a (a ++ t) = a := by
    have := lcp_pre a [] t
    rw [List.append_nil, lcp_nil, List.append_nil] at this
    exact this
  have h3 : lcp a a = a := by
    have := lcp_pre a [] []
    rw [List.append_nil, lcp_nil, List.append_nil] at this
    exact this
  rw [mnL_two, mxL_two, h1, if_neg (by decide)]
  split
  · exact h2
  · exact h3
end
section
seal Ev EvO Tr XS XJ EvL Pt Cmp Bin Spec Tst It Emit
-- the flat document
theorem Stab.take {r : List Nat} {l : List (List Nat)} (h : Stab r l) : ∀ {c t : List (List Nat)}, l = c ++ t → Stab r c := by
  induction h with
  | nil =>
    intro c t e
    have : c = [] := by cases c with | nil => rfl | cons _ _ => cases e
    subst this; exact Stab.nil
  | @snoc l x hs e h1 h2 h3 ih =>
    intro c t e2
    rcases List.eq_nil_or_concat t with rfl | ⟨t', y, rfl⟩
    · rw [List.append_nil] at e2
      rw [← e2]; exact Stab.snoc hs e h1 h2 h3
    · rw [List.concat_eq_append, ← List.append_assoc] at e2
      have := List.append_inj_left' e2 rfl
      exact ih this
theorem nstep_root {r r' : List Nat} (h : r.isEmpty = r'.isEmpty) (l : List (List Nat)) (c : List Nat) : nstep r l c = nstep r' l c := by unfold nstep; rw [h]
theorem Stab.root {r r' : List Nat} (h : r.isEmpty = r'.isEmpty) {l : List (List Nat)} (hs : Stab r l) : Stab r' l := by
  induction hs with
  | nil => exact Stab.nil
  | snoc _ e h1 h2 h3 ih => exact Stab.snoc ih (by rw [← nstep_root h]; exact e) h1 h2 h3
theorem filt_jn {f : List Nat → Bool} {l : List (List Nat)} (h : ∀ x ∈ l, x ≠ [] ∧ x ≠ [46] ∧ 47 ∉ x) (hf : ∀ x ∈ l, f x = true) (h0 : f [] = false) : (splt 47 (jn [47] l)).filter f = l := by
  by_cases hl : l = []
  · subst hl
    show List.filter f [[]] = []
    rw [List.filter_cons, h0]; rfl
  · rw [splt_jn hl fun p hp => (h p hp).2.2]
    exact List.filter_eq_self.mpr hf
/-- a normal absolute path -/
structure Pl (p : List Nat) (l : List (List Nat)) : Prop where
  each : ∀ x ∈ l, x ≠ [] ∧ x ≠ [46] ∧ 47 ∉ x
  stab : Stab [47] l
  nm : nms p = l
  cn : cnm p = l
  form : (p = 47 :: jn [47] l) ∨ (p = 47 :: 47 :: jn [47] l)
  norm : nrm p = p
theorem isN_all {l : List (List Nat)} (h : ∀ x ∈ l, x ≠ [] ∧ x ≠ [46] ∧ 47 ∉ x) : (∀ x ∈ l, isN x = true) ∧ ∀ x ∈ l, (!x.isEmpty) = true := by
  constructor
  · intro x hx
    obtain ⟨h1, h2, _⟩ := h x hx
    unfold isN
    have e1 : x.isEmpty = false := by cases x with | nil => exact absurd rfl h1 | cons _ _ => rfl
    have e2 : (x == [46]) = false := by simpa using h2
    rw [e1, e2]; rfl
  · intro x hx
    obtain ⟨h1, _, _⟩ := h x hx
    cases x with
    | nil => exact absurd rfl h1
    | cons _ _ => rfl
theorem Pl.of {p : List Nat} (hn : nrm p = p) (ha : p.head? = some 47) : ∃ l, Pl p l := by
  have hl : lead p ≠ 0 := by
    have := head_lead (p := p)
    rw [ha] at this
    simpa using this.symm
  have hr : (rootN (lead p)).isEmpty = ([47] : List Nat).isEmpty := by
    rw [rootN_e]; simpa using hl
  have hs := (stab_cs (rootN (lead p)) p).root hr
  have he := hs.each
  refine ⟨csF (rootN (lead p)) p, ?_⟩
  have hf : p = rootN (lead p) ++ jn [47] (csF (rootN (lead p)) p) := by
    have := nrm_N p
    rw [hn] at this
    refine this.trans ?_
    unfold nrmN
    rw [if_neg]
    intro h
    rw [List.isEmpty_iff, List.append_eq_nil_iff] at h
    rw [h.1] at hr; cases hr
  generalize csF (rootN (lead p)) p = l at *
  have form : (p = 47 :: jn [47] l) ∨ (p = 47 :: 47 :: jn [47] l) := by
    unfold rootN at hf
    split at hf
    · exact .inr hf
    · split at hf
      · exact .inl hf
      · rename_i h; simp at h; exact absurd h hl
  obtain ⟨n1, n2⟩ := isN_all he
  have g : ∀ f : List Nat → Bool, f [] = false → (∀ x ∈ l, f x = true) → (splt 47 p).filter f = l := by
    intro f h0 hf'
    rcases form with e | e
    · rw [e, splt, if_pos rfl, List.filter_cons, h0]
      exact filt_jn he hf' h0
    · rw [e, splt, if_pos rfl, splt, if_pos rfl, List.filter_cons, h0, List.filter_cons, h0]
      exact filt_jn he hf' h0
  exact ⟨he, hs, g _ rfl n2, g _ rfl n1, form, hn⟩

theorem jn_last {l : List (List Nat)} (h : ∀ x ∈ l, x ≠ [] ∧ x ≠ [46] ∧ 47 ∉ x) (hl : l ≠ []) : ∃ x a, jn [47] l = x ++ [a] ∧ a ≠ 47 := by
  induction l with
  | nil => exact absurd rfl hl
  | cons p l ih =>
    cases l with
    | nil =>
      obtain ⟨h1, _, h3⟩ := h p (by simp)
      rcases List.eq_nil_or_concat p with rfl | ⟨x, a, rfl⟩
      · exact absurd rfl h1
      · rw [List.concat_eq_append] at *
        exact ⟨x, a, rfl, fun e => h3 (by simp [e])⟩
    | cons q l =>
      obtain ⟨x, a, e, ha⟩ := ih (fun x hx => h x (by simp [hx])) (by simp)
      exact ⟨p ++ [47] ++ x, a, by show p ++ [47] ++ jn [47] (q :: l) = _; rw [e]; simp, ha⟩
theorem jn_head {l : List (List Nat)} (h : ∀ x ∈ l, x ≠ [] ∧ x ≠ [46] ∧ 47 ∉ x) : ((jn [47] l).head? == some 47) = false := by
  rw [head_lead, lead_jn h]; rfl
theorem jn_two {a b : List (List Nat)} (ha : a ≠ []) (hb : b ≠ []) : jn [47] (a ++ b) = jn [47] a ++ 47 :: jn [47] b := by
  induction a with
  | nil => exact absurd rfl ha
  | cons p a ih =>
    cases a with
    | nil =>
      cases b with
      | nil => exact absurd rfl hb
      | cons q b => simp [jn]
    | cons q a =>
      have := ih (by simp)
      show p ++ [47] ++ jn [47] ((q :: a) ++ b) = _
      rw [this]
      show _ = p ++ [47] ++ jn [47] (q :: a) ++ 47 :: jn [47] b
      simp
theorem orDot_head {t : List (List Nat)} (h : ∀ x ∈ t, x ≠ [] ∧ x ≠ [46] ∧ 47 ∉ x) : ((orDot (jn [47] t)).head? == some 47) = false := by
  unfold orDot
  rw [jn_empty h]
  split
  · rfl
  · exact jn_head h
theorem orDot_fold {t : List (List Nat)} (h : ∀ x ∈ t, x ≠ [] ∧ x ≠ [46] ∧ 47 ∉ x) (s : List (List Nat)) : (splt 47 (orDot (jn [47] t))).foldl (nstep [47]) s = t.foldl (nstep [47]) s := by
  unfold orDot
  rw [jn_empty h]
  split
  · rename_i ht
    rw [List.isEmpty_iff] at ht; subst ht; rfl
  · exact fold_jn h
/-- a link within the common folder -/
theorem flat_norm {c t : List (List Nat)} (hs : Stab [47] (c ++ t)) : nrm (jnp (47 :: jn [47] c) (orDot (jn [47] t))) = 47 :: jn [47] (c ++ t) := by
  have he := hs.each
  have hc : ∀ x ∈ c, x ≠ [] ∧ x ≠ [46] ∧ 47 ∉ x := fun x hx => he x (by simp [hx])
  have ht : ∀ x ∈ t, x ≠ [] ∧ x ≠ [46] ∧ 47 ∉ x := fun x hx => he x (by simp [hx])
  have hh := orDot_head ht
  have fin : ∀ q, rootN (lead q) = [47] → csF [47] q = c ++ t → nrm q = 47 :: jn [47] (c ++ t) := fun q h1 h2 => by
    rw [nrm_N, h1, h2]; rfl
  cases c with
  | nil =>
    have e : jnp (47 :: jn [47] []) (orDot (jn [47] t)) = 47 :: orDot (jn [47] t) := by
      unfold jnp; rw [hh]; rfl
    rw [e]
    refine fin _ ?_ ?_
    · rw [lead]
      have : lead (orDot (jn [47] t)) = 0 := by rw [head_lead] at hh; simpa using hh
      rw [this]; rfl
    · rw [cs_lead]
      unfold csF
      rw [orDot_fold ht]
      exact hs.fix
  | cons p c =>
    obtain ⟨x, a, e, ha⟩ := jn_last hc (by simp)
    have e1 : jnp (47 :: jn [47] (p :: c)) (orDot (jn [47] t)) = 47 :: jn [47] (p :: c) ++ 47 :: orDot (jn [47] t) := by
      rw [e]
      exact jnp_end (x := 47 :: x) ha hh
    rw [e1]
    refine fin _ ?_ ?_
    · rw [List.cons_append, lead]
      have : lead (jn [47] (p :: c) ++ 47 :: orDot (jn [47] t)) = 0 := by
        have h2 := lead_jn hc
        cases hj : jn [47] (p :: c) with
        | nil => rw [hj] at e; cases x <;> cases e
        | cons b r =>
          rw [hj] at h2
          by_cases hb : b = 47
          · subst hb; rw [lead] at h2; omega
          · exact lead_cons_ne hb
      rw [this]; rfl
    · rw [List.cons_append, cs_lead]
      unfold csF
      rw [splt_mid, List.foldl_append, fold_jn hc, orDot_fold ht, ← List.foldl_append]
      exact hs.fix
theorem dnm_top {c : List (List Nat)} (hc : ∀ x ∈ c, x ≠ [] ∧ x ≠ [46] ∧ 47 ∉ x) : dnm (topF (47 :: jn [47] c)) = 47 :: jn [47] c ∧ jnp (47 :: jn [47] c) [] = topF (47 :: jn [47] c) := by
  cases c with
  | nil => exact ⟨by decide +kernel, by decide +kernel⟩
  | cons p c =>
    obtain ⟨x, a, e, ha⟩ := jn_last hc (by simp)
    have e1 : topF (47 :: jn [47] (p :: c)) = 47 :: jn [47] (p :: c) ++ [47] := by
      unfold topF
      rw [if_neg]
      rw [e]; simp
    have hA : allS (47 :: jn [47] (p :: c)) = false := by
      rw [e]; unfold allS; simp [ha]
    refine ⟨?_, ?_⟩
    · rw [e1, dnm_cut (z := []) (by simp), hA, if_neg (by decide), e]
      exact dropR_end ha (47 :: x)
    · rw [e1, e]
      exact jnp_end (x := 47 :: x) ha rfl
theorem topF_head (r : List Nat) : ((topF (47 :: r)).head? == some 47) = true := by
  unfold topF; split <;> rfl
theorem dropL_jn {p : List Nat} {l : List (List Nat)} (h : ∀ x ∈ l, x ≠ [] ∧ x ≠ [46] ∧ 47 ∉ x) (hf : (p = 47 :: jn [47] l) ∨ (p = 47 :: 47 :: jn [47] l)) : tl (dropL 47 p) = l := by
  have h1 : dropL 47 (jn [47] l) = jn [47] l := by
    have h2 := lead_jn h
    unfold dropL
    cases hj : jn [47] l with
    | nil => rfl
    | cons b r =>
      rw [hj] at h2
      have hb : b ≠ 47 := fun e => by subst e; rw [lead] at h2; omega
      rw [List.dropWhile_cons, if_neg (by simpa using hb)]
  have h3 : dropL 47 p = jn [47] l := by
    have hc : ∀ r, dropL 47 (47 :: r) = dropL 47 r := fun r => by unfold dropL; rw [List.dropWhile_cons, if_pos (by rfl)]
    rcases hf with e | e
    · rw [e, hc, h1]
    · rw [e, hc, hc, h1]
  rw [h3]
  unfold tl
  rw [jn_empty h]
  cases l with
  | nil => rfl
  | cons a l => rw [show (a :: l).isEmpty = false from rfl, if_neg (by decide)]; exact splt_jn (by simp) fun p hp => (h p hp).2.2
/-- relpath from the common folder -/
theorem rlp_flat {p : List Nat} {c t : List (List Nat)} (hp : Pl p (c ++ t)) (hF : Pl (47 :: jn [47] c) c) : rlp p (47 :: jn [47] c) = orDot (jn [47] t) := by
  unfold rlp
  rw [hF.norm, hp.norm, dropL_jn hF.each hF.form, dropL_jn hp.each hp.form]
  dsimp only
  rw [lcp_rel]
  have : ((c.length : Int) - (c.length : Int)).toNat = 0 := by omega
  rw [this, List.replicate_zero, List.nil_append, List.drop_left]
  have ht : ∀ x ∈ t, x ≠ [] ∧ x ≠ [46] ∧ 47 ∉ x := fun x hx => hp.each x (by simp [hx])
  unfold orDot
  rw [jn_empty ht]
theorem Pl.folder {p : List Nat} {c t : List (List Nat)} (hp : Pl p (c ++ t)) : Pl (47 :: jn [47] c) c := by
  have hs : Stab [47] c := hp.stab.take rfl
  have he := hs.each
  obtain ⟨n1, n2⟩ := isN_all he
  have g : ∀ f : List Nat → Bool, f [] = false → (∀ x ∈ c, f x = true) → (splt 47 (47 :: jn [47] c)).filter f = c := by
    intro f h0 hf'
    rw [splt, if_pos rfl, List.filter_cons, h0]
    exact filt_jn he hf' h0
  refine ⟨he, hs, g _ rfl n2, g _ rfl n1, .inl rfl, ?_⟩
  rw [nrm_N]
  have : lead (47 :: jn [47] c) = 1 := by rw [lead, lead_jn he]
  rw [this]
  have : csF (rootN 1) (47 :: jn [47] c) = c := by
    rw [cs_lead]
    unfold csF
    rw [fold_jn he]
    exact hs.fix
  rw [this]; rfl
end
section
seal Ev EvO Tr XS XJ EvL Pt Cmp Bin Spec Tst It Emit
-- the flat document, told
noncomputable def evFlat (qs : List (List Nat)) : List Evt :=
  .op (topF (shF qs)) [46] (shF qs) :: ((qs.flatMap fun p => [.op [] (hrF (shF qs) p) p, .cl]) ++ [.cl])
theorem zip_self {α β : Type} (g : α → β) : ∀ l : List α, l.zip (l.map g) = l.map fun x => (x, g x)
  | [] => rfl
  | a :: l => by rw [List.map_cons, List.zip_cons_cons, zip_self g l]; rfl
theorem range_flat {α : Type} (f : List Nat → List α) : ∀ l : List (List Nat), ((List.range l.length).flatMap fun k => f (l.getD k [])) = l.flatMap f
  | [] => rfl
  | a :: l => by
    rw [List.length_cons, List.range_succ_eq_map, List.flatMap_cons, List.flatMap_cons, ← range_flat f l, List.flatMap_map]
    rfl
section
variable {p0 : List Nat} {ps : List (List Nat)} (hall : ∀ p ∈ p0 :: ps, nrm p = p ∧ p.head? = some 47)
include hall
theorem names_same : (p0 :: ps).map cnm = (p0 :: ps).map nms := by
  refine List.map_congr_left fun p hp => ?_
  obtain ⟨l, h⟩ := Pl.of (hall p hp).1 (hall p hp).2
  rw [h.nm, h.cn]
theorem common_names : shN (p0 :: ps) = (cmn (p0 :: ps)).length ∧ ∀ p ∈ p0 :: ps, ∃ t, nms p = cmn (p0 :: ps) ++ t ∧ Pl p (cmn (p0 :: ps) ++ t) := by
  have h := shq_lcp ((p0 :: ps).map nms) (nms p0) (by simp)
  have e : cmn (p0 :: ps) = lcp (mnL ((p0 :: ps).map nms)) (mxL ((p0 :: ps).map nms)) := by unfold cmn; rw [names_same hall]
  rw [e]
  refine ⟨h.1, fun p hp => ?_⟩
  obtain ⟨t, ht⟩ := h.2 (nms p) (List.mem_map.mpr ⟨p, hp, rfl⟩)
  obtain ⟨l, hl⟩ := Pl.of (hall p hp).1 (hall p hp).2
  refine ⟨t, ht, ?_⟩
  rw [← ht, hl.nm]; exact hl
theorem folder_same : shF (p0 :: ps) = 47 :: jn [47] (cmn (p0 :: ps)) ∧ cmp (p0 :: ps) = shF (p0 :: ps) := by
  obtain ⟨h1, h2⟩ := common_names hall
  obtain ⟨t, ht, _⟩ := h2 p0 (by simp)
  have e : shF (p0 :: ps) = 47 :: jn [47] (cmn (p0 :: ps)) := by
    unfold shF
    rw [h1]
    show 47 :: jn [47] ((nms p0).take _) = _
    rw [ht, List.take_left]
  exact ⟨e, by rw [e]; rfl⟩
theorem folder_pl : Pl (shF (p0 :: ps)) (cmn (p0 :: ps)) := by
  obtain ⟨t, _, h⟩ := (common_names hall).2 p0 (by simp)
  rw [(folder_same hall).1]
  exact h.folder
theorem href_flat {p : List Nat} (hp : p ∈ p0 :: ps) : hrF (shF (p0 :: ps)) p = (if p.take 2 == [47, 47] then p else orDot (jn [47] ((nms p).drop (shN (p0 :: ps))))) ∧ nrm (jnp (shF (p0 :: ps)) (hrF (shF (p0 :: ps)) p)) = p ∧
    (hrF (shF (p0 :: ps)) p).length ≤ p.length + 2 := by
  obtain ⟨h1, h2⟩ := common_names hall
  obtain ⟨t, ht, hl⟩ := h2 p hp
  have hF := (folder_same hall).1
  unfold hrF
  cases hc : (p.take 2 == [47, 47]) with
  | true =>
    simp only [if_true]
    refine ⟨trivial, ?_, by omega⟩
    have : jnp (shF (p0 :: ps)) p = p := by
      unfold jnp; rw [(hall p hp).2]; rfl
    rw [this]; exact (hall p hp).1
  | false =>
    simp only [Bool.false_eq_true, if_false]
    have hd : (nms p).drop (shN (p0 :: ps)) = t := by rw [h1, ht, List.drop_left]
    have hr : rlp p (shF (p0 :: ps)) = orDot (jn [47] t) := by
      rw [hF]
      exact rlp_flat hl hl.folder
    have hform : p = 47 :: jn [47] (cmn (p0 :: ps) ++ t) := by
      rcases hl.form with e | e
      · exact e
      · rw [e] at hc; exact absurd hc (by simp)
    rw [hr, hd]
    refine ⟨rfl, ?_, ?_⟩
    · rw [hF, flat_norm hl.stab, ← hform]
    · have w1 := wt_nms p
      have w2 : wt t ≤ wt (nms p) := by rw [ht, wt_append]; omega
      have w3 := jn_wt 47 t
      unfold orDot
      split
      · show 1 ≤ _; omega
      · omega
theorem rd_flat : rdE [[]] (evFlat (p0 :: ps)) = due6 (p0 :: ps) := by
  have hPl := folder_pl hall
  have hF := (folder_same hall).1
  obtain ⟨d1, d2⟩ := dnm_top hPl.each
  rw [← hF] at d1 d2
  generalize hfz : shF (p0 :: ps) = F at *
  have hB : baseF [[]] (topF F) = topF F := by
    show jnp (dnm []) (topF F) = topF F
    have : dnm [] = [] := by decide +kernel
    rw [this]; unfold jnp; simp
  have hdot : nrm (jnp F [46]) = F := by
    have := flat_norm (c := cmn (p0 :: ps)) (t := []) (by rw [List.append_nil]; exact hPl.stab)
    rw [List.append_nil, ← hF] at this
    exact this
  have rows : ∀ qs : List (List Nat), (∀ p ∈ qs, p ∈ p0 :: ps) → ∀ r, rdE [[], topF F] ((qs.flatMap fun p => [.op [] (hrF F p) p, .cl]) ++ r) =
      (qs.map fun p => row4 [] (if p.take 2 == [47, 47] then p else orDot (jn [47] ((nms p).drop (shN (p0 :: ps))))) p p) ++ rdE [[], topF F] r := fun qs => by
    induction qs with
    | nil => intro _ r; rfl
    | cons p qs ih =>
      intro hq r
      obtain ⟨a1, a2, _⟩ := href_flat hall (hq p (by simp))
      rw [hfz] at a1 a2
      have hb2 : baseF [[], topF F] [] = topF F := by
        show jnp (dnm (topF F)) [] = topF F
        rw [d1, d2]
      rw [List.flatMap_cons, List.append_assoc]
      show row4 [] (hrF F p) (nrm (jnp (dnm (baseF [[], topF F] [])) (hrF F p))) p :: rdE ([[], topF F] ++ [baseF [[], topF F] []]).dropLast _ = _
      rw [hb2, d1, a2, a1, List.dropLast_concat]
      exact congrArg (List.cons _) (ih (fun x hx => hq x (by simp [hx])) r)
  unfold evFlat due6
  rw [hfz, rdE, hB, d1, hdot]
  show row4 _ _ _ _ :: rdE [[], topF F] _ = _
  rw [rows _ (fun p hp => hp)]
  unfold shR
  rw [zip_self, List.map_map]
  show _ :: (_ ++ []) = _
  rw [List.append_nil]
  rfl
theorem txt_flat (d : Int) : txtE d (evFlat (p0 :: ps)) = flatF d (p0 :: ps) := by
  have hPl := folder_pl hall
  obtain ⟨hF, hc⟩ := folder_same hall
  obtain ⟨_, d2⟩ := dnm_top hPl.each
  rw [← hF] at d2
  unfold evFlat flatF
  rw [hc, d2, txtE, txtE_app]
  have h1 : ∀ qs : List (List Nat), txtE d (qs.flatMap fun p => [.op [] (hrF (shF (p0 :: ps)) p) p, .cl]) = qs.flatMap fun p => opn d [] (hrF (shF (p0 :: ps)) p) p ++ [60, 47, 101, 62] := fun qs => by
    induction qs with
    | nil => rfl
    | cons p qs ih =>
      rw [List.flatMap_cons, txtE_app, ih, List.flatMap_cons]
      congr 1
  rw [h1]
  have h2 : ((List.range (p0 :: ps).length).flatMap (rowF d ((p0 :: ps).map (hrF (shF (p0 :: ps)))) (p0 :: ps))) = (p0 :: ps).flatMap fun p => opn d [] (hrF (shF (p0 :: ps)) p) p ++ [60, 47, 101, 62] := by
    rw [← range_flat (fun p => opn d [] (hrF (shF (p0 :: ps)) p) p ++ [60, 47, 101, 62]) (p0 :: ps)]
    have : ∀ k ∈ List.range (p0 :: ps).length, rowF d ((p0 :: ps).map (hrF (shF (p0 :: ps)))) (p0 :: ps) k = (fun p => opn d [] (hrF (shF (p0 :: ps)) p) p ++ [60, 47, 101, 62]) ((p0 :: ps).getD k []) := fun k hk => by
      have hk := List.mem_range.mp hk
      unfold rowF
      rw [List.getD_eq_getElem?_getD, List.getD_eq_getElem?_getD, List.getElem?_map, List.getElem?_eq_getElem hk]
      rfl
    rw [List.flatMap_def, List.flatMap_def, List.map_congr_left this]
  rw [h2, List.append_assoc]
  rfl
omit hall in
theorem ops_flat (qs : List (List Nat)) : opsN (evFlat qs) = qs.length + 1 := by
  unfold evFlat
  rw [opsN, opsN_app]
  have : ∀ (F : List Nat) (l : List (List Nat)), opsN (l.flatMap fun p => [.op [] (hrF F p) p, .cl]) = l.length := fun F l => by
    induction l with
    | nil => rfl
    | cons p l ih => rw [List.flatMap_cons, opsN_app, ih, List.length_cons]; show 0 + 1 + _ = _; omega
  rw [this]; rfl
omit hall in
theorem ok_flat (d : Int) (qs : List (List Nat)) : okE (List.replicate (qs.length + 1) d) [[]] (evFlat qs) := by
  unfold evFlat
  rw [List.replicate_succ]
  refine ⟨by simp, ?_⟩
  generalize baseF [[]] (topF (shF qs)) = B
  generalize shF qs = F
  have : ∀ l : List (List Nat), okE (List.replicate l.length d) [[], B] ((l.flatMap fun p => [.op [] (hrF F p) p, .cl]) ++ [.cl]) := fun l => by
    induction l with
    | nil => exact rfl
    | cons p l ih =>
      rw [List.flatMap_cons, List.append_assoc, List.length_cons, List.replicate_succ]
      refine ⟨by simp, ?_⟩
      show okE _ ([[], B] ++ [_]).dropLast _
      rw [List.dropLast_concat]; exact ih
  exact this qs
theorem sz_flat (hl : ∀ p ∈ p0 :: ps, p.length ≤ 4000) (hF : (shF (p0 :: ps)).length ≤ 4002) : szE (evFlat (p0 :: ps)) := by
  unfold evFlat
  have ht : (topF (shF (p0 :: ps))).length ≤ 9000 := by
    unfold topF
    split
    · omega
    · rw [List.length_append]; show _ + 1 ≤ _; omega
  refine ⟨⟨ht, by decide, by omega⟩, szE_app _ _ ?_ trivial⟩
  have : ∀ l : List (List Nat), (∀ p ∈ l, p ∈ p0 :: ps) → szE (l.flatMap fun p => [.op [] (hrF (shF (p0 :: ps)) p) p, .cl]) := fun l => by
    induction l with
    | nil => intro _; trivial
    | cons p l ih =>
      intro hq
      obtain ⟨_, _, h3⟩ := href_flat hall (hq p (by simp))
      have h4 := hl p (hq p (by simp))
      rw [List.flatMap_cons]
      exact szE_app _ _ ⟨⟨by simp, by omega, by omega⟩, trivial⟩ (ih fun x hx => hq x (by simp [hx]))
  exact this _ fun p hp => hp
end
end
section
seal Ev EvO Tr XS XJ EvL Pt Cmp Bin Spec Tst It Emit
-- the numbers, and what the law's documents tell
theorem deq_rows (L : List D) (h : ∀ d ∈ L, ∃ a b c e, d = row4 a b c e) : deq 2 (.lst L) (.lst L) = true ∧ cp 2 (.lst L) (.lst L) = true := by
  have hz : ∀ q ∈ L.zip L, ∃ a b c e, q = (row4 a b c e, row4 a b c e) := fun q hq => by
    have : ∀ l : List D, ∀ q ∈ l.zip l, q.1 = q.2 ∧ q.1 ∈ l := fun l => by
      induction l with
      | nil => intro q hq; cases hq
      | cons d l ih =>
        intro q hq
        rw [List.zip_cons_cons] at hq
        rcases List.mem_cons.mp hq with rfl | hq
        · exact ⟨rfl, by simp⟩
        · obtain ⟨e1, e2⟩ := ih q hq
          exact ⟨e1, by simp [e2]⟩
    obtain ⟨e1, e2⟩ := this L q hq
    obtain ⟨a, b, c, e, e3⟩ := h _ e2
    refine ⟨a, b, c, e, ?_⟩
    obtain ⟨q1, q2⟩ := q
    simp only at e1 e3
    subst e1; subst e3; rfl
  constructor
  · show (L.length == L.length && (L.zip L).all fun p => deq 1 p.1 p.2) = true
    rw [beq_self_eq_true, Bool.true_and, List.all_eq_true]
    intro q hq
    obtain ⟨a, b, c, e, rfl⟩ := hz q hq
    show (true && ((a == a) && ((b == b) && ((c == c) && ((e == e) && true))))) = true
    rw [beq_self_eq_true, beq_self_eq_true, beq_self_eq_true, beq_self_eq_true]; rfl
  · refine List.all_eq_true.mpr ?_
    intro q hq
    obtain ⟨a, b, c, e, rfl⟩ := hz q hq
    rfl

theorem plc_len (ps : List (List Nat)) : (plc ps).length ≤ 3 * wt ps + 3 := by
  unfold plc
  dsimp only
  have h1 := wt_pfold (plcS ps) ps (0, [])
  generalize ps.foldl (pstep (plcS ps)) (0, []) = st at *
  have h2 := jn_wt 47 (List.replicate st.1 [46, 46] ++ st.2)
  rw [wt_append, wt_rep] at h2
  have h3 : (if plcS ps == 2 then [47, 47] else if plcS ps != 0 then [47] else [] : List Nat).length ≤ 2 := by
    split
    · simp
    · split <;> simp
  have h4 : wt ([] : List (List Nat)) = 0 := rfl
  simp only [h4] at h1
  generalize (if plcS ps == 2 then [47, 47] else if plcS ps != 0 then [47] else [] : List Nat) = r at *
  split
  · simp
  · rw [List.length_append]; omega

section
variable (u2 u3 : Nat) (h2 : u2 < 2) (h3 : u3 < 3)
include h2 h3
theorem ord_len : (ordF [0, 0, u2, u3] 3 0).length = 4 ∧ ∀ k ∈ ordF [0, 0, u2, u3] 3 0, k < 4 := by
  have a : u2 = 0 ∨ u2 = 1 := by omega
  have b : u3 = 0 ∨ u3 = 1 ∨ u3 = 2 := by omega
  rcases a with rfl | rfl <;> rcases b with rfl | rfl | rfl <;> decide +kernel
theorem ups_low : ∀ k, k ≠ 0 → ([0, 0, u2, u3] : List Nat).getD k 0 < k := by
  intro k hk
  match k, hk with
  | 1, _ => show 0 < 1; omega
  | 2, _ => exact h2
  | 3, _ => exact h3
  | k + 4, _ => show 0 < _; omega
end

section
variable (ups : List Nat) (bases hrefs : List (List Nat)) (hb : ∀ k, (bases.getD k []).length ≤ 16) (hh : ∀ k, (hrefs.getD k []).length ≤ 16)
include hb hh
theorem plcK_len (outer : List (List Nat)) (ho : wt outer ≤ 10) (k : Nat) (hk : k < 4) : (plcK outer ups bases hrefs k).length ≤ 400 := by
  unfold plcK
  have h1 := wt_way outer ups bases hb k
  have h2 := wt_bhd (way outer ups bases k) (hrefs.getD k [])
  have h3 := plc_len (bhd (way outer ups bases k) (hrefs.getD k []))
  have h4 := hh k
  have h5 : 18 * (k + 1) ≤ 72 := by omega
  omega
end
noncomputable def plcs (outer : List (List Nat)) (ups : List Nat) (bases hrefs : List (List Nat)) : List (List Nat) := (List.range 4).map (plcK outer ups bases hrefs)
theorem plcs_at (outer : List (List Nat)) (ups : List Nat) (bases hrefs : List (List Nat)) {k : Nat} (hk : k < 4) : (plcs outer ups bases hrefs).getD k [] = plcK outer ups bases hrefs k := by
  unfold plcs
  rw [List.getD_eq_getElem?_getD, List.getElem?_map, List.getElem?_range hk]; rfl
theorem plcs_len (outer : List (List Nat)) (ups : List Nat) (bases hrefs : List (List Nat)) : (plcs outer ups bases hrefs).length = 4 := by unfold plcs; simp
noncomputable def oM : List (List Nat) := [[], [109, 38], [110], []]
noncomputable def mB : List Nat := [47, 109, 38, 47, 110, 47]

section
variable (u2 u3 : Nat) (h2 : u2 < 2) (h3 : u3 < 3) (bases hrefs : List (List Nat)) (hb : ∀ k, (bases.getD k []).length ≤ 16) (hh : ∀ k, (hrefs.getD k []).length ≤ 16)
/-- the elements of the document -/
noncomputable def ev1 : List Evt := evF [0, 0, u2, u3] (fun k => bases.getD k []) (fun k => hrefs.getD k []) (fun k => (plcs [[]] [0, 0, u2, u3] bases hrefs).getD k []) 3 0
noncomputable def ev2 : List Evt := .op mB [46] mF :: (ev1 u2 u3 bases hrefs ++ [.cl])
noncomputable def rows1 : List D := (ordF [0, 0, u2, u3] 3 0).map fun k => row4 (bases.getD k []) (hrefs.getD k []) ((plcs [[]] [0, 0, u2, u3] bases hrefs).getD k []) ((plcs [[]] [0, 0, u2, u3] bases hrefs).getD k [])
noncomputable def rows2 : List D := (ordF [0, 0, u2, u3] 3 0).map fun k => row4 (bases.getD k []) (hrefs.getD k []) ((plcs oM [0, 0, u2, u3] bases hrefs).getD k []) ((plcs [[]] [0, 0, u2, u3] bases hrefs).getD k [])
include h2 h3
theorem ops1 : opsN (ev1 u2 u3 bases hrefs) = 4 := by
  unfold ev1
  rw [opsN_ev]; exact (ord_len u2 u3 h2 h3).1
theorem doc1 (d : Int) : docF [0, 0, u2, u3] bases hrefs (plcs [[]] [0, 0, u2, u3] bases hrefs) d 3 0 = docT (List.replicate 4 d) (ev1 u2 u3 bases hrefs) := by
  have := docT_app d [] [] (ev1 u2 u3 bases hrefs)
  rw [ops1 u2 u3 h2 h3, List.append_nil, List.append_nil] at this
  rw [this, docF_txt]
  show _ = _ ++ []
  rw [List.append_nil]; rfl
theorem doc2 (d e : Int) : opn e mB [46] mF ++ docF [0, 0, u2, u3] bases hrefs (plcs [[]] [0, 0, u2, u3] bases hrefs) d 3 0 ++ [60, 47, 101, 62] = docT (e :: List.replicate 4 d) (ev2 u2 u3 bases hrefs) := by
  have := docT_app d [] [.cl] (ev1 u2 u3 bases hrefs)
  rw [ops1 u2 u3 h2 h3, List.append_nil] at this
  unfold ev2
  rw [docT, this, docF_txt, List.append_assoc]
  rfl
theorem ok1 (d : Int) : okE (List.replicate 4 d) [[]] (ev1 u2 u3 bases hrefs) := by
  have := (okE_ev (ups := [0, 0, u2, u3]) (b := fun k => bases.getD k []) (h := fun k => hrefs.getD k []) (p := fun k => (plcs [[]] [0, 0, u2, u3] bases hrefs).getD k []) d 3).1 0 [] [[]] [] (by simp) rfl
  have e := ops1 u2 u3 h2 h3 bases hrefs
  unfold ev1 at e ⊢
  rw [e, List.append_nil, List.append_nil] at this
  exact this
theorem ok2 (d e : Int) : okE (e :: List.replicate 4 d) [[]] (ev2 u2 u3 bases hrefs) := by
  have := (okE_ev (ups := [0, 0, u2, u3]) (b := fun k => bases.getD k []) (h := fun k => hrefs.getD k []) (p := fun k => (plcs [[]] [0, 0, u2, u3] bases hrefs).getD k []) d 3).1 0 [] ([[]] ++ [baseF [[]] mB]) [.cl] (by simp) (by show ([[]] ++ [baseF [[]] mB]).dropLast = [[]]; rfl)
  have e' := ops1 u2 u3 h2 h3 bases hrefs
  unfold ev1 at e'
  rw [e', List.append_nil] at this
  exact ⟨by simp, this⟩
theorem rd1 : rdE [[]] (ev1 u2 u3 bases hrefs) = rows1 u2 u3 bases hrefs := by
  have h := (rdE_ev (ups := [0, 0, u2, u3]) (b := fun k => bases.getD k []) (h := fun k => hrefs.getD k []) (p := fun k => (plcs [[]] [0, 0, u2, u3] bases hrefs).getD k []) 3).1 0 [[]] []
  rw [List.append_nil] at h
  unfold ev1 rows1
  rw [h]
  have hr := rows_ord [[]] [0, 0, u2, u3] bases hrefs (fun k => (plcs [[]] [0, 0, u2, u3] bases hrefs).getD k []) 3 0 [] rfl
  show rowsT _ _ _ _ 3 0 [] ++ [] = _
  rw [List.append_nil, hr]
  refine List.map_congr_left fun k hk => ?_
  rw [plcs_at _ _ _ _ ((ord_len u2 u3 h2 h3).2 k hk)]
theorem rd2 : rdE [[]] (ev2 u2 u3 bases hrefs) = row4 mB [46] mF mF :: rows2 u2 u3 bases hrefs := by
  have hB : baseF [[]] mB = mB := by decide +kernel
  have hn : nrm (jnp (dnm mB) [46]) = mF := by decide +kernel
  have h := (rdE_ev (ups := [0, 0, u2, u3]) (b := fun k => bases.getD k []) (h := fun k => hrefs.getD k []) (p := fun k => (plcs [[]] [0, 0, u2, u3] bases hrefs).getD k []) 3).1 0 [[], mB] [.cl]
  unfold ev2 ev1 rows2
  rw [rdE, hB, hn]
  congr 1
  show rdE [[], mB] _ = _
  rw [h]
  have hr := rows_ord oM [0, 0, u2, u3] bases hrefs (fun k => (plcs [[]] [0, 0, u2, u3] bases hrefs).getD k []) 3 0 mB rfl
  show rowsT _ _ _ _ 3 0 mB ++ [] = _
  rw [List.append_nil, hr]
  refine List.map_congr_left fun k hk => ?_
  rw [plcs_at _ _ _ _ ((ord_len u2 u3 h2 h3).2 k hk), plcs_at _ _ _ _ ((ord_len u2 u3 h2 h3).2 k hk)]
theorem moved_is : (plcs [[]] [0, 0, u2, u3] bases hrefs).map (fun t => nrm (jnp mF t)) = plcs oM [0, 0, u2, u3] bases hrefs := by
  unfold plcs
  rw [List.map_map]
  exact List.map_congr_left fun k _ => moved_eq _ _ _ k
theorem moved_all : ∀ p ∈ mF :: plcs oM [0, 0, u2, u3] bases hrefs, nrm p = p ∧ p.head? = some 47 := by
  intro p hp
  rcases List.mem_cons.mp hp with rfl | hp
  · exact ⟨by decide +kernel, rfl⟩
  · unfold plcs at hp
    obtain ⟨k, _, rfl⟩ := List.mem_map.mp hp
    exact ⟨moved_norm _ _ _ k, moved_abs _ _ _ k⟩
include hb hh
theorem moved_len : ∀ p ∈ mF :: plcs oM [0, 0, u2, u3] bases hrefs, p.length ≤ 400 := by
  intro p hp
  rcases List.mem_cons.mp hp with rfl | hp
  · decide
  · unfold plcs at hp
    obtain ⟨k, hk, rfl⟩ := List.mem_map.mp hp
    exact plcK_len _ bases hrefs hb hh oM (by decide) k (List.mem_range.mp hk)
theorem alone_len : ∀ k, ((plcs [[]] [0, 0, u2, u3] bases hrefs).getD k []).length ≤ 400 := by
  intro k
  by_cases hk : k < 4
  · rw [plcs_at _ _ _ _ hk]
    exact plcK_len _ bases hrefs hb hh [[]] (by decide) k hk
  · rw [List.getD_eq_getElem?_getD, List.getElem?_eq_none (by rw [plcs_len]; omega)]; simp
theorem sz1 : szE (ev1 u2 u3 bases hrefs) := by
  unfold ev1
  have ha := alone_len u2 u3 h2 h3 bases hrefs hb hh
  exact szE_ev (fun k => by have := hb k; omega) (fun k => by have := hh k; omega) (fun k => by have := ha k; omega) 3 0
theorem sz2 : szE (ev2 u2 u3 bases hrefs) := ⟨⟨by decide, by decide, by decide⟩, szE_app _ _ (sz1 u2 u3 h2 h3 bases hrefs hb hh) trivial⟩
theorem doclen1 (d : Int) : (docF [0, 0, u2, u3] bases hrefs (plcs [[]] [0, 0, u2, u3] bases hrefs) d 3 0).length ≤ 800000 := by
  have ha := alone_len u2 u3 h2 h3 bases hrefs hb hh
  have := docF_len [0, 0, u2, u3] bases hrefs (plcs [[]] [0, 0, u2, u3] bases hrefs) d hb hh (fun k => by have := ha k; omega) 3 0
  omega
end
end
/-- what a call gives, whatever was made before -/
noncomputable def Spec0 (G : Gl) (f : PySem.Str) (k : Nat) (ds : List D) (d : D) : Prop :=
  (∃ df ∈ theDefs G.prog, df.name = f) ∧
  ∀ A s (B : Addr → Prop) Q E vs a, Room k A → GOk G s.heap → G.mg f = some (.ref a) → (∀ b, B b → ∃ o, s.heap.get? b = some o) → Reps B s.heap ds vs →
    (∀ v s', Step s s' → Rep B s'.heap d v → Q v s') → wpAny (model G.prog G.w) A (call (.ref a) vs) Q E s

section
variable {M : Model} {A : Around} {E : Value → Shared → Prop} {s : Shared}
theorem stLC_pos {s₀ : Shared} {m cm : PySem.Str → Option Value} {env : Env} {n : PySem.Str} {v : Value} {Q : Unit → Shared → Prop} (x : InCallC s₀ env.locals m env.cells cm s) (hk : env.scope.kind = .function) (hl : env.kindOf n = some .local)
    (h : ∀ s', InCallC s₀ env.locals (fun y => if y = n then some v else m y) env.cells cm s' → 0 < s'.toks → Q () s') : wpAny M A (storeName env n v) Q E s := by
  refine wpAny_storeName_local hl x.toInCall.ns (fun h' hn' hs' => h _ ⟨⟨?_, hn', fun b o e => ?_, x.toInCall.fresh⟩, fun k c hc => ?_, x.apart, x.above⟩ (Nat.succ_pos _)) (by rw [hk]; rfl)
  · obtain ⟨h₁, tk, rfl⟩ := x.toInCall.same
    exact ⟨h', _, rfl⟩
  · exact hs'.extBut b o (Nat.ne_of_lt (Nat.lt_of_lt_of_le (Heap.lt_size e) x.toInCall.fresh)) (x.toInCall.keep b o e)
  · exact (x.cell k c hc).sameBut hs' (Nat.ne_of_gt (x.above k c (mem_of_lookup hc)))
/-- a def's frame, its one argument a plain local -/
theorem newFn_pos {scope : Scope} {globals : Addr} {binds : List (PySem.Str × Value)} {qual : PySem.Str} {func : Option Addr} {code : Value} {builtins : Addr} {Q : Env → Shared → Prop}
    (hk : scope.kind = .function)
    (hkind : ∀ x ∈ binds, scope.names.lookup x.1 = some .local ∨ (scope.names.lookup x.1 = some .cell ∧ ((cellsFrom (s.heap.objs.size + 1) scope.names []).lookup x.1).isSome = true))
    (hl1 : ∃ n v, binds = [(n, v)] ∧ scope.names.lookup n = some .local)
    (hQ : ∀ env, env = newEnv scope s.heap.objs.size globals (cellsFrom (s.heap.objs.size + 1) scope.names []) qual func code none builtins →
      ∀ s', InCallC s env.locals (bindL env.kindOf binds fun _ => none) env.cells (bindC env.kindOf binds fun _ => none) s' → 0 < s'.toks → Q env s') :
    wpAny M A (newFunctionEnv scope globals [] binds qual func code none builtins) Q E s := by
  obtain ⟨n, v, rfl, hl⟩ := hl1
  simp only [newFunctionEnv, Option.isSome_none, Bool.false_eq_true, if_false]
  refine wpAny_bind (wpAny_alloc ?_)
  refine wpAny_bind (wpAny_layCells _ (fun name kind cells => by cases hkc : kind == NameKind.cell <;> simp [hkc]) _ _ _ _ ?_)
  have ok := cellsFrom_ok scope.names (s.heap.push { cls := .type "frame", data := .dict #[] }) (s.heap.objs.size + 1) [] ⟨fun _ _ hm => (nomatch hm), List.Pairwise.nil⟩ (by rw [Heap.size_push]; exact Nat.le_refl _)
  rw [Heap.size_push] at ok
  rw [show ({ s with heap := s.heap.push { cls := .type "frame", data := .dict #[] } } : Shared).heap.objs.size = s.heap.objs.size + 1 from Heap.size_push ..]
  rw [List.forIn_cons]
  refine wpAny_bind (wpAny_bind (wpAny_bind (stLC_pos (s₀ := s) (env := newEnv scope s.heap.objs.size globals (cellsFrom (s.heap.objs.size + 1) scope.names []) qual func code none builtins) (m := fun _ => none) (cm := fun _ => none)
    ⟨⟨⟨_, _, rfl⟩, (Heap.Ns.new s.heap (.type "frame")).keeps (pushCells_keeps _ _), fun b o e => pushCells_keeps _ _ b o (Heap.get?_push_of_some _ e), Nat.le_refl _⟩,
      fun n c hc => (ok.empty n c (mem_of_lookup hc)).1, ok.apart, fun n c hm => (ok.empty n c hm).2⟩ hk hl fun s' x' hp => ?_)))
  refine wpAny_pure ?_
  dsimp only
  rw [List.forIn_nil]
  refine wpAny_pure (wpAny_pure (hQ _ rfl s' ?_ hp))
  have hl' : (newEnv scope s.heap.objs.size globals (cellsFrom (s.heap.objs.size + 1) scope.names []) qual func code none builtins).kindOf n = some .local := hl
  unfold bindL bindC
  rw [if_pos hl', if_pos hl']
  exact x'
end

theorem Spec0.intro {G : Gl} {k : Nat} {df : Df} {xs : List PySem.Str} {ds ds' : List D} {d : D} {Γ : Gam} (hl0 : ∃ x0, xs = [x0] ∧ df.scope.names.lookup x0 = some .local) (hdf : df ∈ theDefs G.prog) (hb : Binds df xs ds ds') (hx : xs.length = ds'.length) (hxn : xs.Nodup)
    (hxk : ∀ x ∈ xs, df.scope.names.lookup x = some .local ∨ df.scope.names.lookup x = some .cell) (hnd : (df.scope.names.map (·.1)).Nodup)
    (hΓ : ∀ (i : Nat) e, Γ[i]? = some (some e) → ∃ x k, ∃ (j : Nat) (d : D), e = .v d ∧ df.scope.names[i]? = some (x, k) ∧ xs[j]? = some x ∧ ds'[j]? = some d)
    (walk : ∀ L a q cd B h₀, XJ ⟨G, fenv df.scope L a q cd, B, h₀, k⟩ Γ df.body (fun o => o = .ret d))
    (hco : df.scope.isCoroutine = false := by rfl) (hgen : df.scope.isGenerator = false := by rfl) (hk : df.scope.kind = .function := by rfl) : Spec0 G df.name (k + 1) ds d := by
  refine ⟨⟨df, hdf, rfl⟩, fun A s B Q E vs a hr gk hmg hB r hq => ?_⟩
  obtain ⟨a', fd, o, e1, e2, e3, e4, e5, e6, e7, e8, e9, e10, e11⟩ := gk.defs df hdf
  rw [hmg] at e1; cases e1
  refine wp_toks (wpAny_call (codeAny_call_function (Nat.lt_of_le_of_lt (Nat.le_add_right _ _) hr.2.1) e2 e3 (by rw [e7]; exact hco) (by rw [e7]; exact hgen) e6 e4 ?_))
  refine hb fd _ _ s B vs _ _ e5 e11 hB r fun vs' s1 st r' => ?_
  have el := Reps.length _ _ r'
  have hbm : (xs.zip vs').map (·.1) = xs := by rw [List.map_fst_zip (by omega)]
  have hl1 : ∃ n v, xs.zip vs' = [(n, v)] ∧ df.scope.names.lookup n = some .local := by
    obtain ⟨x0, rfl, h0⟩ := hl0
    cases vs' with
    | nil => simp only [List.length_cons, List.length_nil] at hx el; omega
    | cons v r => exact ⟨x0, v, rfl, h0⟩
  rw [e7, e8, e9, e10]
  refine wp_toks (newFn_pos hk (fun x hx' => ?_) hl1 fun env he s2 x hpos2 ht2 => ?_)
  · have : x.1 ∈ xs := by have := List.mem_map_of_mem (f := (·.1)) hx'; rwa [hbm] at this
    rcases hxk x.1 this with h | h
    · exact .inl h
    · exact .inr ⟨h, cellsFrom_some _ _ _ (.inl h)⟩
  have gk1 := gk.up st.kp
  refine ⟨(gk1.nolimit).keeps x.toInCall.keep, codeAny_func ?_⟩
  have hE : env = fenv df.scope s1.heap.objs.size a (fd.qualname ++ ".<locals>.") fd.code := he
  let X : Cx := ⟨G, fenv df.scope s1.heap.objs.size a (fd.qualname ++ ".<locals>.") fd.code, B, s1.heap, k⟩
  rw [hE] at x ⊢
  obtain ⟨h', t', hs2⟩ := x.toInCall.same
  have kn : ∀ i y kk, df.scope.names[i]? = some (y, kk) → X.env.kindOf y = some kk := fun i y kk h => lookup_nodup _ i y kk hnd h
  have fx : FnX X := by
    refine ⟨none_of (Nat.le_refl _), fun n c hc => none_of (Nat.le_of_lt (x.above n c (mem_of_lookup hc))), fun y hy hc => ?_⟩
    obtain ⟨i, hi⟩ := List.mem_iff_getElem?.mp hy
    exact cellsFrom_some _ _ _ (.inl (lookup_nodup _ i y.1 .cell hnd (by rw [hi, ← hc])))
  have none_at : ∀ (i : Nat) l, Γ[i]? ≠ some (some (.o l)) := fun i l h => by
    obtain ⟨_, _, _, _, e, _⟩ := hΓ i _ h; cases e
  have ban : ∀ (ad : Nat → Addr) b, X.ban ad Γ b → B b := fun ad b hb => by
    rcases hb with h | ⟨i, l, h, _⟩
    · exact h
    · exact absurd h (none_at i l)
  have g : Gd X (fun _ => 0) Γ s2 := by
    refine ⟨hk, rfl, rfl, fun i j y k1 k2 h1 h2 => uniq_nodup hnd i j y k1 k2 h1 h2, kn, x.apart, fx, ⟨_, x.toInCall.ns⟩, fun n c hc => ⟨_, x.cell n c hc⟩, x.toInCall.keep, fun b hb => ?_, gk1, ?_, fun i dd hi => ?_, fun i l h => absurd h (none_at i l)⟩
    · obtain ⟨o', e⟩ := hB b hb; exact ⟨o', x.toInCall.keep _ _ (st.kp _ _ e)⟩
    · exact hpos2
    · obtain ⟨y, kk, j, d', e, h1, h2, h3⟩ := hΓ i _ hi
      cases e
      obtain ⟨v, hv, rv⟩ := Reps.get _ _ j _ r' h3
      have hmem : (y, v) ∈ xs.zip vs' := by
        rw [List.mem_iff_getElem?]
        exact ⟨j, by rw [List.getElem?_zip_eq_some]; exact ⟨h2, hv⟩⟩
      have hkk := kn i y kk h1
      refine ⟨y, kk, v, h1, ?_, Rep.bar (fun b _ _ _ hb _ _ => ban _ b hb) _ _ (Rep.up (Kp.s x.toInCall.keep) _ _ rv)⟩
      have hyx : y ∈ xs := List.mem_of_getElem? h2
      rcases hxk y hyx with h | h
      · exact .inl ⟨h, _, x.toInCall.ns, bindL_look _ _ _ _ (by rw [hbm]; exact hxn) hmem h⟩
      · obtain ⟨c, hc⟩ := Option.isSome_iff_exists.mp (cellsFrom_some df.scope.names (s1.heap.objs.size + 1) [] (.inl h))
        refine .inr ⟨.inl h, c, hc, ?_⟩
        have := x.cell y c hc
        rwa [bindC_look _ _ _ _ (by rw [hbm]; exact hxn) hmem (by show df.scope.names.lookup y ≠ _; rw [h]; simp)] at this
  refine walk _ _ _ _ _ _ fx (A.deeper _) s2 (fun _ => 0) _ _ (hr.deeper _) g fun o f s3 ho mv sat => ?_
  subst ho
  obtain ⟨v, rfl, rv, kp⟩ := sat
  intro ht
  obtain ⟨h3, t3, e⟩ := mv.1
  refine hq v s3 ?_ rv
  obtain ⟨h1, t1, e', k1, l1⟩ := st
  subst e' hs2 e
  exact ⟨h3, t3, rfl, k1.trans kp, ht⟩

theorem Spec0.fn {G : Gl} {i : Nat} {k : Nat} {xs : List PySem.Str} {ds ds' : List D} {d : D} (hl0 : ∃ x0, xs = [x0] ∧ (dfAt i).scope.names.lookup x0 = some .local) (hG : GP G) (hi : i < 37) (hb : Binds (dfAt i) xs ds ds') (hx : xs.length = ds'.length) (hok : fnOk (dfAt i) xs = true) (m : Nat)
    (walk : ∀ L a q cd B h₀, XJ (cx G k i L a q cd B h₀) (ds'.map (fun d => some (.v d)) ++ List.replicate m (none : Option Ent)) (dfAt i).body (fun o => o = .ret d)) : Spec0 G (dfAt i).name (k + 1) ds d := by
  unfold fnOk at hok
  simp only [Bool.and_eq_true, beq_iff_eq, decide_eq_true_eq, List.all_eq_true, Bool.or_eq_true, Bool.not_eq_true'] at hok
  obtain ⟨⟨⟨⟨⟨h1, h2⟩, h3⟩, h4⟩, h5⟩, h6⟩ := hok
  have hget : ∀ (j : Nat) x, xs[j]? = some x → ∃ kk, (dfAt i).scope.names[j]? = some (x, kk) ∧ (kk = .local ∨ kk = .cell) := fun j x hj => by
    rw [← h1, List.getElem?_take] at hj
    split at hj
    · rename_i hlt
      rw [List.getElem?_map] at hj
      cases e : (dfAt i).scope.names[j]? with
      | none => rw [e] at hj; cases hj
      | some y =>
        rw [e] at hj
        simp only [Option.map_some, Option.some.injEq] at hj
        subst hj
        refine ⟨y.2, rfl, h3 y ?_⟩
        rw [List.mem_iff_getElem?]
        exact ⟨j, by rw [List.getElem?_take, if_pos hlt]; exact e⟩
    · cases hj
  refine Spec0.intro (Γ := ds'.map (fun d => some (.v d)) ++ List.replicate m (none : Option Ent)) hl0 (hG.mem hi) hb hx ?_ (fun x hx' => ?_) h2 (fun j e hj => ?_) walk h4 h5 h6
  · rw [← h1]; exact List.Sublist.nodup (List.take_sublist _ _) h2
  · obtain ⟨j, hj⟩ := List.mem_iff_getElem?.mp hx'
    obtain ⟨kk, e, hk⟩ := hget j x hj
    rcases hk with rfl | rfl
    · exact .inl (lookup_nodup _ j x .local h2 e)
    · exact .inr (lookup_nodup _ j x .cell h2 e)
  · obtain ⟨d', rfl, e2, hlt⟩ := gam_get hj
    obtain ⟨x, hxj⟩ : ∃ x, xs[j]? = some x := ⟨xs[j]'(by omega), List.getElem?_eq_getElem (by omega)⟩
    obtain ⟨kk, e, hk⟩ := hget j x hxj
    exact ⟨x, kk, j, d', rfl, e, hxj, e2⟩
section
seal Ev EvO Tr XS XJ EvL Pt Cmp Bin Spec Tst It Emit
noncomputable def cN : List Int := [9, 3876, 67800, 21865, 290, 13, 1170, 1041, 1948]
noncomputable def numF (script : List Int) : List Int := script.take 9 ++ cN.drop (script.take 9).length
theorem numF_len (s : List Int) : (numF s).length = 9 := by
  unfold numF
  rw [List.length_append, List.length_drop, List.length_take]
  show _ + (9 - _) = 9
  omega
theorem nine {l : List Int} (h : l.length = 9) : ∃ a b c d e f g i j, l = [a, b, c, d, e, f, g, i, j] := by
  obtain ⟨a, t, rfl, h1⟩ := lenS h
  obtain ⟨b, t, rfl, h2⟩ := lenS h1
  obtain ⟨c, t, rfl, h3⟩ := lenS h2
  obtain ⟨d, e, f, g, i, j, rfl⟩ := len6 h3
  exact ⟨a, b, c, d, e, f, g, i, j, rfl⟩
theorem strs4 {l : List (List Nat)} (h : l.length = 4) {k : Nat} (hk : k < 4) : (l.map D.str)[((k : Nat) : Int).toNat]? = some (.str (l.getD k [])) := getD_get (by omega)
theorem rows_form (f g h i : Nat → List Nat) (l : List Nat) : ∀ d ∈ l.map (fun k => row4 (f k) (g k) (h k) (i k)), ∃ a b c e, d = row4 a b c e := fun d hd => by
  obtain ⟨k, _, rfl⟩ := List.mem_map.mp hd
  exact ⟨_, _, _, _, rfl⟩

theorem law_spec {G : Gl} (hG : GP G) (script : List Int) (hsl : script.length ≤ 100) : Spec0 G "law" 8 [.lst (script.map .int)] (.bool true) := by
  refine Spec0.fn (i := 36) (xs := ["script"]) ⟨"script", rfl, by decide +kernel⟩ hG (by decide) (bind_1 (by decide +kernel) fun fd hp hd v => by unfold bindArgs; rw [hp, hd]; rfl) rfl (by decide +kernel) 21 fun L a' q cd B h₀ => ?_
  have h : dfAt 36 = ⟨_, _, _, _⟩ := rfl
  unfold cx
  rw [h]
  show XJ _ [some (.v _), none, none, none, none, none, none, none, none, none, none, none, none, none, none, none, none, none, none, none, none, none] _ _
  have e9 : slc (script.map D.int) none (some (9 : Int)) = (script.take 9).map .int := by
    rw [show (9 : Int) = ((9 : Nat) : Int) from rfl, slc_to, List.map_take]
  have ec : (([.int 9, .int 3876, .int 67800, .int 21865, .int 290, .int 13, .int 1170, .int 1041, .int 1948] : List D)) = cN.map .int := rfl
  have htl : (script.take 9).length ≤ 9 := by rw [List.length_take]; omega
  refine XJ.cons (XS.asg (i := 1) (d := .lst ((numF script).map .int)) (Ev.cast (Ev.bin (Ev.o (Ev.cast (b := .lst ((script.take 9).map .int)) (Ev.sliceL (Ev.o (Ev.name (i := 0) rfl rfl ⟨rfl, rfl⟩)) Pt.no (Pt.so Ev.int)) (by rw [e9])))
    (Ev.o (Ev.cast (b := .lst ((cN.drop (script.take 9).length).map .int)) (Ev.sliceL (l := cN.map .int) (Ev.o (Ev.cast (Ev.lst (EvL.cons Ev.int (EvL.cons Ev.int (EvL.cons Ev.int (EvL.cons Ev.int (EvL.cons Ev.int (EvL.cons Ev.int (EvL.cons Ev.int (EvL.cons Ev.int (EvL.cons Ev.int EvL.nil rfl) rfl) rfl) rfl) rfl) rfl) rfl) rfl) rfl) (Nat.le_of_ble_eq_true rfl)) (by rw [ec]))) (Pt.so (Ev.cast (b := .int ((script.take 9).length : Nat)) (Ev.lenL (l := (script.take 9).map .int) (atK 13 rfl) (Ev.o (Ev.cast (b := .lst ((script.take 9).map .int)) (Ev.sliceL (Ev.o (Ev.name (i := 0) rfl rfl ⟨rfl, rfl⟩)) Pt.no (Pt.so Ev.int)) (by rw [e9])))) (by rw [List.length_map]))) Pt.no) (by rw [slc_from, List.map_drop])))
    (Bin.add_lst (by rw [List.length_map, List.length_map, List.length_drop]; show _ + (9 - _) ≤ _; omega))) (by unfold numF; rw [List.map_append])) rfl (.inr rfl) ?_)
  dsimp only [List.set]
  obtain ⟨n0, n1, n2, n3, n4, n5, n6, n7, n8, hnum⟩ := nine (numF_len script)
  rw [hnum]
  generalize hscr : D.lst (script.map D.int) = scr at *
  -- the elements that lie in one another
  have hq2 := Int.fmod_nonneg_of_pos (n3.fmod 12) (b := 2) (by decide)
  have hq3 := Int.fmod_lt_of_pos (n3.fmod 12) (b := 2) (by decide)
  have hq4 := Int.fmod_nonneg_of_pos (n4.fmod 12) (b := 3) (by decide)
  have hq5 := Int.fmod_lt_of_pos (n4.fmod 12) (b := 3) (by decide)
  obtain ⟨u2, hu2⟩ := Int.eq_ofNat_of_zero_le hq2
  obtain ⟨u3, hu3⟩ := Int.eq_ofNat_of_zero_le hq4
  have h2 : u2 < 2 := by rw [hu2] at hq3; omega
  have h3 : u3 < 3 := by rw [hu3] at hq5; omega
  have hu1 : (n2.fmod 12).fmod 1 = 0 := Int.fmod_one _
  have hrg : rangeD 1 ((4 : Int) - 1).toNat = [.int 1, .int 2, .int 3] := rfl
  let fu : D → D := fun d => match d with
    | .int 1 => .int 0
    | .int 2 => .int u2
    | _ => .int u3
  refine XJ.cons (XS.asg (i := 2) (d := .lst (([0, 0, u2, u3] : List Nat).map iD)) (Ev.cast (Ev.bin (Ev.o (Ev.lst (EvL.cons Ev.int EvL.nil rfl) (Nat.le_of_ble_eq_true rfl))) (Ev.o (Ev.comp (ds := [.int 1, .int 2, .int 3]) (p := fun _ => true) (f := fu)
    (CompHyp.name 1 [none, none, some (.v (.lst (([n0, n1, n2, n3, n4, n5, n6, n7, n8] : List Int).map .int)))] (It.cast (It.range2 (atK 14 rfl) Ev.int Ev.int (by decide) (by decide) (by decide) (by decide)) hrg) (by kernel_rfl) rfl ?_ (fun C B d hd => Tst.nil) ?_ (by decide)))) (Bin.add_lst (by simp))) rfl) rfl (.inl rfl) ?_)
  · exact .of (.none (.none (.some 1 rfl rfl rfl .nil)))
  · intro C B d hd _
    simp only [List.mem_cons, List.not_mem_nil, or_false] at hd
    rcases hd with rfl | rfl | rfl
    · show Ev _ [none, some (.v (.int 1)), some (.v (.lst (([n0, n1, n2, n3, n4, n5, n6, n7, n8] : List Int).map .int)))] _ (.int 0)
      have g : (([n0, n1, n2, n3, n4, n5, n6, n7, n8] : List Int).map D.int)[((1 : Int) + 1).toNat]? = some (.int n2) := rfl
      exact Ev.cast (Ev.bin (Ev.o (Ev.bin (Ev.o (Ev.itemN (Ev.o (Ev.name (i := 2) rfl rfl ⟨rfl, rfl⟩)) (Ev.bin (Ev.o (Ev.name (i := 1) rfl rfl ⟨rfl, rfl⟩)) (Ev.o Ev.int) (by walk_at "bin")) (by walk_at "side") (by walk_at "ix"))) (Ev.o Ev.int) (by walk_at "bin"))) (Ev.o (Ev.name (i := 1) rfl rfl ⟨rfl, rfl⟩)) (by walk_at "bin")) (by rw [hu1])
    · show Ev _ [none, some (.v (.int 2)), some (.v (.lst (([n0, n1, n2, n3, n4, n5, n6, n7, n8] : List Int).map .int)))] _ (.int u2)
      have g : (([n0, n1, n2, n3, n4, n5, n6, n7, n8] : List Int).map D.int)[((2 : Int) + 1).toNat]? = some (.int n3) := rfl
      exact Ev.cast (Ev.bin (Ev.o (Ev.bin (Ev.o (Ev.itemN (Ev.o (Ev.name (i := 2) rfl rfl ⟨rfl, rfl⟩)) (Ev.bin (Ev.o (Ev.name (i := 1) rfl rfl ⟨rfl, rfl⟩)) (Ev.o Ev.int) (by walk_at "bin")) (by walk_at "side") (by walk_at "ix"))) (Ev.o Ev.int) (by walk_at "bin"))) (Ev.o (Ev.name (i := 1) rfl rfl ⟨rfl, rfl⟩)) (by walk_at "bin")) (by rw [hu2])
    · show Ev _ [none, some (.v (.int 3)), some (.v (.lst (([n0, n1, n2, n3, n4, n5, n6, n7, n8] : List Int).map .int)))] _ (.int u3)
      have g : (([n0, n1, n2, n3, n4, n5, n6, n7, n8] : List Int).map D.int)[((3 : Int) + 1).toNat]? = some (.int n4) := rfl
      exact Ev.cast (Ev.bin (Ev.o (Ev.bin (Ev.o (Ev.itemN (Ev.o (Ev.name (i := 2) rfl rfl ⟨rfl, rfl⟩)) (Ev.bin (Ev.o (Ev.name (i := 1) rfl rfl ⟨rfl, rfl⟩)) (Ev.o Ev.int) (by walk_at "bin")) (by walk_at "side") (by walk_at "ix"))) (Ev.o Ev.int) (by walk_at "bin"))) (Ev.o (Ev.name (i := 1) rfl rfl ⟨rfl, rfl⟩)) (by walk_at "bin")) (by rw [hu3])
  dsimp only [List.set]
  -- bases and links
  have hsb : slc (([n0, n1, n2, n3, n4, n5, n6, n7, n8] : List Int).map D.int) (some 1) (some 5) = ([n1, n2, n3, n4] : List Int).map .int := by
    rw [show (1 : Int) = ((1 : Nat) : Int) from rfl, show (5 : Int) = ((5 : Nat) : Int) from rfl, slc_mid]; rfl
  have hsh : slc (([n0, n1, n2, n3, n4, n5, n6, n7, n8] : List Int).map D.int) (some 5) (some 9) = ([n5, n6, n7, n8] : List Int).map .int := by
    rw [show (9 : Int) = ((9 : Nat) : Int) from rfl, show (5 : Int) = ((5 : Nat) : Int) from rfl, slc_mid]; rfl
  let fb : D → D := fun d => match d with | .int n => .str (pthP (n.fdiv 12)) | _ => .non
  let fh : D → D := fun d => match d with | .int n => .str (pthP n) | _ => .non
  refine XJ.cons (XS.asgE (i := 3) (d := .lst (([n1, n2, n3, n4].map fun n => pthP (n.fdiv 12)).map .str)) (Ev.cast (Ev.comp (ds := ([n1, n2, n3, n4] : List Int).map .int) (p := fun _ => true) (f := fb)
    (CompHyp.name 1 [none, none, none] (It.lst (Ev.cast (Ev.sliceL (Ev.o (Ev.name (i := 1) rfl rfl ⟨rfl, rfl⟩)) (Pt.so Ev.int) (Pt.so Ev.int)) (by rw [hsb])) (by intro _ _; rfl)) (by kernel_rfl) rfl ?_ (fun C B d hd => Tst.nil) ?_ (by simp))) rfl) rfl (.inr rfl) ?_)
  · exact .of (.none (.none (.none .nil)))
  · intro C B d hd _
    obtain ⟨n, _, rfl⟩ := List.mem_map.mp hd
    have s1 := path_spec hG (n.fdiv 12)
    show Ev _ [none, some (.v (.int n)), none] _ (.str (pthP (n.fdiv 12)))
    exact (Ev.call (atK 2 rfl) (EvL.cons (Ev.bin (Ev.o (Ev.name (i := 1) rfl rfl ⟨rfl, rfl⟩)) (Ev.o Ev.int) (by walk_at "bin")) EvL.nil rfl) (s1) (Nat.le_of_ble_eq_true rfl) rfl)
  dsimp only [List.set]
  refine XJ.cons (XS.asgE (i := 4) (d := .lst (([n5, n6, n7, n8].map pthP).map .str)) (Ev.cast (Ev.comp (ds := ([n5, n6, n7, n8] : List Int).map .int) (p := fun _ => true) (f := fh)
    (CompHyp.name 1 [none, none, none] (It.lst (Ev.cast (Ev.sliceL (Ev.o (Ev.name (i := 1) rfl rfl ⟨rfl, rfl⟩)) (Pt.so Ev.int) (Pt.so Ev.int)) (by rw [hsh])) (by intro _ _; rfl)) (by kernel_rfl) rfl ?_ (fun C B d hd => Tst.nil) ?_ (by simp))) rfl) rfl (.inr rfl) ?_)
  · exact .of (.none (.none (.none .nil)))
  · intro C B d hd _
    obtain ⟨n, _, rfl⟩ := List.mem_map.mp hd
    have s1 := path_spec hG n
    show Ev _ [none, some (.v (.int n)), none] _ (.str (pthP n))
    exact (Ev.call (atK 2 rfl) (EvL.cons (Ev.name (i := 1) rfl rfl ⟨rfl, rfl⟩) EvL.nil rfl) (s1) (Nat.le_of_ble_eq_true rfl) rfl)
  dsimp only [List.set]
  have hb : ∀ k, (([n1, n2, n3, n4].map fun n => pthP (n.fdiv 12)).getD k []).length ≤ 16 := fun k => by
    rw [List.getD_eq_getElem?_getD, List.getElem?_map]
    cases ([n1, n2, n3, n4])[k]? with
    | none => simp
    | some n => exact pth_len _
  have hh : ∀ k, (([n5, n6, n7, n8].map pthP).getD k []).length ≤ 16 := fun k => by
    rw [List.getD_eq_getElem?_getD, List.getElem?_map]
    cases ([n5, n6, n7, n8])[k]? with
    | none => simp
    | some n => exact pth_len _
  have hb4 : ([n1, n2, n3, n4].map fun n => pthP (n.fdiv 12)).length = 4 := rfl
  have hh4 : ([n5, n6, n7, n8].map pthP).length = 4 := rfl
  have hn0 : (([n0, n1, n2, n3, n4, n5, n6, n7, n8] : List Int).map D.int)[(0 : Int).toNat]? = some (.int n0) := rfl
  generalize ([n1, n2, n3, n4].map fun n => pthP (n.fdiv 12)) = bases at *
  generalize [n5, n6, n7, n8].map pthP = hrefs at *
  generalize (([n0, n1, n2, n3, n4, n5, n6, n7, n8] : List Int).map D.int) = nums at *
  have hup := ups_low u2 u3 h2 h3
  have s1 := places_spec hG [[]] [0, 0, u2, u3] bases hrefs (by decide) rfl hb4 hh4 hup hb hh
  have s2 := places_spec hG [[], [109, 38], [110], []] [0, 0, u2, u3] bases hrefs (by decide) rfl hb4 hh4 hup hb hh
  refine XJ.cons (XS.unpack (is := [5, 6]) (ds := [.lst ((plcs [[]] [0, 0, u2, u3] bases hrefs).map .str), .lst ((plcs oM [0, 0, u2, u3] bases hrefs).map .str)]) (Ev.tup (EvL.cons (Ev.call (atK 15 rfl) (EvL.cons (Ev.lst (EvL.cons (Ev.strK K8 (by decide)) EvL.nil rfl) (Nat.le_of_ble_eq_true rfl)) (EvL.cons (Ev.name (i := 2) rfl rfl ⟨rfl, rfl⟩) (EvL.cons (Ev.name (i := 3) rfl rfl ⟨rfl, rfl⟩) (EvL.cons (Ev.name (i := 4) rfl rfl ⟨rfl, rfl⟩) EvL.nil rfl) rfl) rfl) rfl) (s1) (Nat.le_of_ble_eq_true rfl) rfl) (EvL.cons (Ev.call (atK 15 rfl) (EvL.cons (Ev.lst (EvL.cons (Ev.strK K8 (by decide)) (EvL.cons (Ev.strK K55 (by decide)) (EvL.cons (Ev.strK K56 (by decide)) (EvL.cons (Ev.strK K8 (by decide)) EvL.nil rfl) rfl) rfl) rfl) (Nat.le_of_ble_eq_true rfl)) (EvL.cons (Ev.name (i := 2) rfl rfl ⟨rfl, rfl⟩) (EvL.cons (Ev.name (i := 3) rfl rfl ⟨rfl, rfl⟩) (EvL.cons (Ev.name (i := 4) rfl rfl ⟨rfl, rfl⟩) EvL.nil rfl) rfl) rfl) rfl) (s2) (Nat.le_of_ble_eq_true rfl) rfl) EvL.nil rfl) rfl) (Nat.le_of_ble_eq_true rfl)) ⟨⟨.cell, rfl, .inr rfl⟩, ⟨.cell, rfl, .inr rfl⟩, trivial⟩ rfl ?_)
  refine XJ.cons (XS.swap (is := [8, 7]) (xs := ["one", "two"]) (ds := [.int n0, .int (n0.fdiv 6)]) (Ev.tup (EvL.cons (Ev.itemN (Ev.o (Ev.name (i := 1) rfl rfl ⟨rfl, rfl⟩)) Ev.int (by walk_at "side") (by walk_at "ix")) (EvL.cons (Ev.bin (Ev.o (Ev.itemN (Ev.o (Ev.name (i := 1) rfl rfl ⟨rfl, rfl⟩)) Ev.int (by walk_at "side") (by walk_at "ix"))) (Ev.o Ev.int) (by walk_at "bin")) EvL.nil rfl) rfl) (Nat.le_of_ble_eq_true rfl)) rfl ⟨⟨.local, rfl, .inl rfl⟩, ⟨.local, rfl, .inl rfl⟩, trivial⟩ rfl rfl ?_)
  show XJ _ [some (.v scr), some (.v (.lst nums)), some (.v (.lst (([0, 0, u2, u3] : List Nat).map iD))), some (.v (.lst (bases.map .str))), some (.v (.lst (hrefs.map .str))), some (.v (.lst ((plcs [[]] [0, 0, u2, u3] bases hrefs).map .str))), some (.v (.lst ((plcs oM [0, 0, u2, u3] bases hrefs).map .str))), some (.v (.int n0)), some (.v (.int (n0.fdiv 6))), none, none, none, none, none, none, none, none, none, none, none, none, none] _ _
  generalize n0.fdiv 6 = two at *
  have k1 := doc1 u2 u3 h2 h3 bases hrefs n0
  have k2 := doc2 u2 u3 h2 h3 bases hrefs n0 two
  have k3 := ok1 u2 u3 h2 h3 bases hrefs n0
  have k4 := ok2 u2 u3 h2 h3 bases hrefs n0 two
  have k5 := rd1 u2 u3 h2 h3 bases hrefs
  have k6 := rd2 u2 u3 h2 h3 bases hrefs
  have k7 := sz1 u2 u3 h2 h3 bases hrefs hb hh
  have k8 := sz2 u2 u3 h2 h3 bases hrefs hb hh
  have k9 := doclen1 u2 u3 h2 h3 bases hrefs hb hh n0
  have m1 := moved_is u2 u3 h2 h3 bases hrefs
  have m2 := moved_all u2 u3 h2 h3 bases hrefs
  have m3 := moved_len u2 u3 h2 h3 bases hrefs hb hh
  have m4 := alone_len u2 u3 h2 h3 bases hrefs hb hh
  have o1 := ops1 u2 u3 h2 h3 bases hrefs
  have o2 : opsN (ev2 u2 u3 bases hrefs) ≤ 10 := by
    unfold ev2
    rw [opsN, opsN_app, o1]
    show 4 + 0 + 1 ≤ 10
    omega
  have al4 := plcs_len [[]] [0, 0, u2, u3] bases hrefs
  have mv4 := plcs_len oM [0, 0, u2, u3] bases hrefs
  obtain ⟨ol, olt⟩ := ord_len u2 u3 h2 h3
  have r1 : rows1 u2 u3 bases hrefs = (ordF [0, 0, u2, u3] 3 0).map fun k => row4 (bases.getD k []) (hrefs.getD k []) ((plcs [[]] [0, 0, u2, u3] bases hrefs).getD k []) ((plcs [[]] [0, 0, u2, u3] bases hrefs).getD k []) := rfl
  have r2 : rows2 u2 u3 bases hrefs = (ordF [0, 0, u2, u3] 3 0).map fun k => row4 (bases.getD k []) (hrefs.getD k []) ((plcs oM [0, 0, u2, u3] bases hrefs).getD k []) ((plcs [[]] [0, 0, u2, u3] bases hrefs).getD k []) := rfl
  generalize hal : plcs [[]] [0, 0, u2, u3] bases hrefs = alone at *
  generalize hmv : plcs oM [0, 0, u2, u3] bases hrefs = moved at *
  have s3 := doc_spec hG [0, 0, u2, u3] bases hrefs alone n0 rfl hb4 hh4 al4 hb hh (fun k => Nat.le_trans (m4 k) (by decide)) 3 0 (by decide) (by decide) (by decide)
  have s4 := order_spec hG [0, 0, u2, u3] rfl 3 0 (by decide) (by decide) (by decide)
  have s5 := read_spec hG (List.replicate 4 n0) (ev1 u2 u3 bases hrefs) k3 k7 (by omega) (by simp) (by rw [← k1]; omega)
  rw [← k1, k5] at s5
  have hdl : (docF [0, 0, u2, u3] bases hrefs alone n0 3 0).length ≤ 800000 := k9
  generalize hdoc : docF [0, 0, u2, u3] bases hrefs alone n0 3 0 = doc at *
  refine XJ.cons (XS.asg (i := 9) (Ev.call (atK 16 rfl) (EvL.cons Ev.int (EvL.cons (Ev.name (i := 2) rfl rfl ⟨rfl, rfl⟩) (EvL.cons (Ev.name (i := 3) rfl rfl ⟨rfl, rfl⟩) (EvL.cons (Ev.name (i := 4) rfl rfl ⟨rfl, rfl⟩) (EvL.cons (Ev.name (i := 5) rfl rfl ⟨rfl, rfl⟩) (EvL.cons (Ev.name (i := 7) rfl rfl ⟨rfl, rfl⟩) EvL.nil rfl) rfl) rfl) rfl) rfl) rfl) (s3) (Nat.le_of_ble_eq_true rfl) rfl) rfl (by first | exact .inl rfl | exact .inr rfl) ?_) <;> try dsimp only [List.set]
  refine XJ.cons (XS.asg (i := 10) (Ev.call (atK 17 rfl) (EvL.cons Ev.int (EvL.cons (Ev.name (i := 2) rfl rfl ⟨rfl, rfl⟩) EvL.nil rfl) rfl) (s4) (Nat.le_of_ble_eq_true rfl) rfl) rfl (by first | exact .inl rfl | exact .inr rfl) ?_) <;> try dsimp only [List.set]
  generalize hord : ordF [0, 0, u2, u3] 3 0 = order at *
  have hol : (order.map iD).length ≤ 4194304 := by rw [List.length_map, ol]; decide
  let f1 : D → D := fun d => match d with | .int c => row4 (bases.getD c.toNat []) (hrefs.getD c.toNat []) (alone.getD c.toNat []) (alone.getD c.toNat []) | _ => .non
  let f2 : D → D := fun d => match d with | .int c => row4 (bases.getD c.toNat []) (hrefs.getD c.toNat []) (moved.getD c.toNat []) (alone.getD c.toNat []) | _ => .non
  have c1 : ((order.map iD).filter (fun _ => true)).map f1 = rows1 u2 u3 bases hrefs := by rw [filt_tt, List.map_map, r1]; rfl
  have c2 : ((order.map iD).filter (fun _ => true)).map f2 = rows2 u2 u3 bases hrefs := by rw [filt_tt, List.map_map, r2]; rfl
  have q1 : ∀ d ∈ rows1 u2 u3 bases hrefs, ∃ a b c e, d = row4 a b c e := by rw [r1]; exact rows_form _ _ _ _ _
  have q2 : ∀ d ∈ rows2 u2 u3 bases hrefs, ∃ a b c e, d = row4 a b c e := by rw [r2]; exact rows_form _ _ _ _ _
  have rl2 : (rows2 u2 u3 bases hrefs).length = 4 := by rw [r2, List.length_map, ol]
  generalize rows1 u2 u3 bases hrefs = R1 at *
  generalize rows2 u2 u3 bases hrefs = R2 at *
  obtain ⟨dq1, cq1⟩ := deq_rows R1 q1
  have four : ∀ (X : Cx) (Γ : Gam) (e : PySem.Expr), True := fun _ _ _ => trivial
  refine XJ.cons (XS.iteF (Tr.cast (Tr.cm (Ev.o (Ev.call (atK 18 rfl) (EvL.cons (Ev.name (i := 9) rfl rfl ⟨rfl, rfl⟩) (EvL.cons (Ev.cast (b := .lst ((List.replicate 4 n0).map .int)) (Ev.mul_lst (n := 4) (EvL.cons (Ev.name (i := 7) rfl rfl ⟨rfl, rfl⟩) EvL.nil rfl) Ev.int (by simp) (by decide) (by decide) (by simp) (by simp)) rfl) EvL.nil rfl) rfl) s5 (Nat.le_of_ble_eq_true rfl) rfl))
    (Ev.o (Ev.cast (b := .lst R1) (Ev.comp (ds := order.map iD) (p := fun _ => true) (f := f1)
      (CompHyp.name 1 [none, none, some (.v (.lst (alone.map .str))), some (.v (.lst (bases.map .str))), some (.v (.lst (hrefs.map .str)))] (It.lst (Ev.name (i := 10) rfl rfl ⟨rfl, rfl⟩) (by intro _ _; rfl)) (by kernel_rfl) rfl ?_ (fun C B d hd => Tst.nil) ?_ hol)) (by rw [c1]))) (Cmp.ne (n := 2) cq1 (by decide) (by simp))) (by rw [dq1]; rfl)) ?_)
  · exact .of (.none (.none (.some 5 rfl rfl rfl (.some 3 rfl rfl rfl (.some 4 rfl rfl rfl .nil)))))
  · intro C B d hd _
    obtain ⟨k, hk, rfl⟩ := List.mem_map.mp hd
    have hk4 := olt k hk
    have hk0 : (0 : Int) ≤ (k : Int) := Int.natCast_nonneg _
    have g1 := strs4 hb4 hk4
    have g2 := strs4 hh4 hk4
    have g3 := strs4 al4 hk4
    show Ev _ [none, some (.v (.int k)), some (.v (.lst (alone.map .str))), some (.v (.lst (bases.map .str))), some (.v (.lst (hrefs.map .str)))] _ (row4 (bases.getD k []) (hrefs.getD k []) (alone.getD k []) (alone.getD k []))
    exact (Ev.tup (EvL.cons (Ev.itemN (Ev.o (Ev.name (i := 3) rfl rfl ⟨rfl, rfl⟩)) (Ev.name (i := 1) rfl rfl ⟨rfl, rfl⟩) (by walk_at "side") (by walk_at "ix")) (EvL.cons (Ev.itemN (Ev.o (Ev.name (i := 4) rfl rfl ⟨rfl, rfl⟩)) (Ev.name (i := 1) rfl rfl ⟨rfl, rfl⟩) (by walk_at "side") (by walk_at "ix")) (EvL.cons (Ev.itemN (Ev.o (Ev.name (i := 2) rfl rfl ⟨rfl, rfl⟩)) (Ev.name (i := 1) rfl rfl ⟨rfl, rfl⟩) (by walk_at "side") (by walk_at "ix")) (EvL.cons (Ev.itemN (Ev.o (Ev.name (i := 2) rfl rfl ⟨rfl, rfl⟩)) (Ev.name (i := 1) rfl rfl ⟨rfl, rfl⟩) (by walk_at "side") (by walk_at "ix")) EvL.nil rfl) rfl) rfl) rfl) (Nat.le_of_ble_eq_true rfl))
  refine XJ.nil ?_
  -- the document within another
  have s6 := open_spec hG mB [46] mF two (by decide) (by decide) (by decide)
  have ol2 := opn_len two mB [46] mF
  have ol3 : (opn two mB [46] mF).length ≤ 85 := ol2
  have hz1 : (opn two mB [46] mF).length + doc.length ≤ 1048576 := by omega
  have hz2 : (opn two mB [46] mF ++ doc).length + ([60, 47, 101, 62] : List Nat).length ≤ 1048576 := by
    rw [List.length_append, show ([60, 47, 101, 62] : List Nat).length = 4 from rfl]; omega
  have hz3 : (opn two mB [46] mF ++ doc ++ [60, 47, 101, 62]).length ≤ 1000000 := by
    rw [List.length_append, List.length_append, show ([60, 47, 101, 62] : List Nat).length = 4 from rfl]; omega
  have s7 := read_spec hG (two :: List.replicate 4 n0) (ev2 u2 u3 bases hrefs) k4 k8 o2 (by simp) (by rw [← k2]; exact hz3)
  rw [← k2, k6] at s7
  refine XJ.cons (XS.asg (i := 11) (d := .str (opn two mB [46] mF ++ doc ++ [60, 47, 101, 62])) (Ev.bin (Ev.o (Ev.bin (Ev.o (Ev.call (atK 19 rfl) (EvL.cons (Ev.strK K57 (by decide)) (EvL.cons (Ev.strK K10 (by decide)) (EvL.cons (Ev.strK K58 (by decide)) (EvL.cons (Ev.name (i := 8) rfl rfl ⟨rfl, rfl⟩) EvL.nil rfl) rfl) rfl) rfl) (s6) (Nat.le_of_ble_eq_true rfl) rfl)) (Ev.o (Ev.name (i := 9) rfl rfl ⟨rfl, rfl⟩)) (Bin.add_str hz1))) (Ev.o (Ev.strK K35 (by decide))) (Bin.add_str hz2)) rfl (.inl rfl) ?_)
  dsimp only [List.set]
  generalize opn two mB [46] mF ++ doc ++ [60, 47, 101, 62] = outer at *
  refine XJ.cons (XS.asg (i := 12) (d := .lst (row4 mB [46] mF mF :: R2)) (Ev.cast (Ev.bin (Ev.o (Ev.lst (EvL.cons (Ev.tup (EvL.cons (Ev.strK K57 (by decide)) (EvL.cons (Ev.strK K10 (by decide)) (EvL.cons (Ev.strK K58 (by decide)) (EvL.cons (Ev.strK K58 (by decide)) EvL.nil rfl) rfl) rfl) rfl) (Nat.le_of_ble_eq_true rfl)) EvL.nil rfl) (Nat.le_of_ble_eq_true rfl))) (Ev.o (Ev.cast (b := .lst R2) (Ev.comp (ds := order.map iD) (p := fun _ => true) (f := f2)
      (CompHyp.name 1 [none, none, some (.v (.lst (alone.map .str))), some (.v (.lst (bases.map .str))), some (.v (.lst (hrefs.map .str))), some (.v (.lst (moved.map .str)))] (It.lst (Ev.name (i := 10) rfl rfl ⟨rfl, rfl⟩) (by intro _ _; rfl)) (by kernel_rfl) rfl ?_ (fun C B d hd => Tst.nil) ?_ hol)) (by rw [c2]))) (Bin.add_lst (by rw [rl2]; simp))) rfl) rfl (.inl rfl) ?_)
  · exact .of (.none (.none (.some 5 rfl rfl rfl (.some 3 rfl rfl rfl (.some 4 rfl rfl rfl (.some 6 rfl rfl rfl .nil))))))
  · intro C B d hd _
    obtain ⟨k, hk, rfl⟩ := List.mem_map.mp hd
    have hk4 := olt k hk
    have hk0 : (0 : Int) ≤ (k : Int) := Int.natCast_nonneg _
    have g1 := strs4 hb4 hk4
    have g2 := strs4 hh4 hk4
    have g3 := strs4 al4 hk4
    have g4 := strs4 mv4 hk4
    show Ev _ [none, some (.v (.int k)), some (.v (.lst (alone.map .str))), some (.v (.lst (bases.map .str))), some (.v (.lst (hrefs.map .str))), some (.v (.lst (moved.map .str)))] _ (row4 (bases.getD k []) (hrefs.getD k []) (moved.getD k []) (alone.getD k []))
    exact (Ev.tup (EvL.cons (Ev.itemN (Ev.o (Ev.name (i := 3) rfl rfl ⟨rfl, rfl⟩)) (Ev.name (i := 1) rfl rfl ⟨rfl, rfl⟩) (by walk_at "side") (by walk_at "ix")) (EvL.cons (Ev.itemN (Ev.o (Ev.name (i := 4) rfl rfl ⟨rfl, rfl⟩)) (Ev.name (i := 1) rfl rfl ⟨rfl, rfl⟩) (by walk_at "side") (by walk_at "ix")) (EvL.cons (Ev.itemN (Ev.o (Ev.name (i := 5) rfl rfl ⟨rfl, rfl⟩)) (Ev.name (i := 1) rfl rfl ⟨rfl, rfl⟩) (by walk_at "side") (by walk_at "ix")) (EvL.cons (Ev.itemN (Ev.o (Ev.name (i := 2) rfl rfl ⟨rfl, rfl⟩)) (Ev.name (i := 1) rfl rfl ⟨rfl, rfl⟩) (by walk_at "side") (by walk_at "ix")) EvL.nil rfl) rfl) rfl) rfl) (Nat.le_of_ble_eq_true rfl))
  dsimp only [List.set]
  obtain ⟨dq2, cq2⟩ := deq_rows (row4 mB [46] mF mF :: R2) (fun d hd => by
    rcases List.mem_cons.mp hd with rfl | hd
    · exact ⟨_, _, _, _, rfl⟩
    · exact q2 d hd)
  have m5 : ∀ t ∈ alone, t.length ≤ 400 := fun t ht => by
    obtain ⟨i, hi, rfl⟩ := List.getElem_of_mem ht
    have := m4 i
    rw [List.getD_eq_getElem?_getD, List.getElem?_eq_getElem hi] at this
    exact this
  have c3 : ((alone.map D.str).filter (fun _ => true)).map (fun d => D.str (nrm (jnp mF (unD d)))) = moved.map .str := by
    rw [filt_tt, List.map_map, ← m1, List.map_map]; rfl
  refine XJ.cons (XS.iteF (Tr.cast (Tr.or (Tr.cm (Ev.o (Ev.call (atK 18 rfl) (EvL.cons (Ev.name (i := 11) rfl rfl ⟨rfl, rfl⟩) (EvL.cons (Ev.cast (b := .lst ((two :: List.replicate 4 n0).map .int)) (Ev.bin (Ev.o (Ev.lst (EvL.cons (Ev.name (i := 8) rfl rfl ⟨rfl, rfl⟩) EvL.nil rfl) (Nat.le_of_ble_eq_true rfl))) (Ev.o (Ev.mul_lst (n := 4) (EvL.cons (Ev.name (i := 7) rfl rfl ⟨rfl, rfl⟩) EvL.nil rfl) Ev.int (by simp) (by decide) (by decide) (by simp) (by simp))) (Bin.add_lst (by simp))) rfl) EvL.nil rfl) rfl) s7 (Nat.le_of_ble_eq_true rfl) rfl))
    (Ev.o (Ev.name (i := 12) rfl rfl ⟨rfl, rfl⟩)) (Cmp.ne (n := 2) cq2 (by decide) (by simp))) (fun _ => Tr.or (Tr.cm (Ev.o (Ev.cast (b := .lst (moved.map .str)) (Ev.comp (ds := alone.map .str) (p := fun _ => true) (f := fun d => D.str (nrm (jnp mF (unD d))))
      (CompHyp.name 1 [none, none, none, none] (It.lst (Ev.name (i := 5) rfl rfl ⟨rfl, rfl⟩) (by intro _ _; rfl)) (by kernel_rfl) rfl ?_ (fun C B d hd => Tst.nil) ?_ (by rw [List.length_map, al4]; decide))) (by rw [c3]))) (Ev.o (Ev.name (i := 6) rfl rfl ⟨rfl, rfl⟩)) Cmp.ne_strs) (fun _ => Tr.or_nil))) (by rw [dq2]; simp)) ?_)
  · exact .of (.none (.none (.none (.none .nil))))
  · intro C B d hd _
    obtain ⟨t, ht, rfl⟩ := List.mem_map.mp hd
    have htl := m5 t ht
    have hjl := jnp_len mF t
    have hml : mF.length = 5 := rfl
    have sA := join_spec hG mF t (by omega)
    have sB := normpath_spec hG (jnp mF t) (by omega)
    show Ev _ [none, some (.v (.str t)), none, none] _ (.str (nrm (jnp mF t)))
    exact (Ev.call (atK 2 rfl) (EvL.cons (Ev.call (atK 3 rfl) (EvL.cons (Ev.strK K58 (by decide)) (EvL.cons (Ev.name (i := 1) rfl rfl ⟨rfl, rfl⟩) EvL.nil rfl) rfl) (sA) (Nat.le_of_ble_eq_true rfl) rfl) EvL.nil rfl) (sB) (Nat.le_of_ble_eq_true rfl) rfl)
  refine XJ.nil ?_
  -- the flat document
  have hm4 : ∀ p ∈ mF :: moved, p.length ≤ 4000 := fun p hp => Nat.le_trans (m3 p hp) (by decide)
  have hcl := cmn_wt (mF :: moved) (Nat.succ_pos _) hm4
  have hFl := shF_len mF moved (by decide)
  obtain ⟨hF1, hF2⟩ := folder_same m2
  have hFn := (folder_pl m2).norm
  have s8 := due_spec hG mF moved (by rw [mv4]; decide) hm4
  have s9 := flat_spec hG mF moved two (by rw [mv4]; decide) hm4 (fun p hp => (m2 p hp).2) (mxmn _ (by simp))
    (fun p hp _ => relpath_spec hG p (cmp (mF :: moved)) (by have := m3 p hp; omega) (by rw [hF2]; omega) (m2 p hp).2 rfl (by rw [(m2 p hp).1]; have := m3 p hp; omega) (by rw [hF2, hFn]; omega) (mxmn _ (by simp)))
    (fun p hp => by rw [hF2]; have := (href_flat m2 hp).2.2; have := m3 p hp; omega)
  have hfl : docT (List.replicate 6 two) (evFlat (mF :: moved)) = flatF two (mF :: moved) := by
    have := docT_app two [] [] (evFlat (mF :: moved))
    rw [ops_flat, List.append_nil, List.append_nil, txt_flat m2, List.length_cons, mv4] at this
    rw [this]
    show _ ++ [] = _
    rw [List.append_nil]
  have hflz : (flatF two (mF :: moved)).length ≤ 1000000 := by
    have a1 := opn_len two (jnp (cmp (mF :: moved)) []) [46] (cmp (mF :: moved))
    have a2 := jnp_len (cmp (mF :: moved)) []
    have a3 := flatL (rowF two ((mF :: moved).map (hrF (cmp (mF :: moved)))) (mF :: moved)) 80000 (List.range (mF :: moved).length) fun k _ => rowF_len two _ _ k hm4 (fun h hh => by
      obtain ⟨p, hp, rfl⟩ := List.mem_map.mp hh
      rw [hF2]; have := (href_flat m2 hp).2.2; have := m3 p hp; omega)
    rw [List.length_range, List.length_cons, mv4] at a3
    unfold flatF
    rw [List.length_append, List.length_append]
    rw [hF2] at a1 a2 a3 ⊢
    simp only [List.length_cons, List.length_nil] at a1 a2 a3 ⊢
    rw [mv4]
    omega
  have hok := ok_flat two (mF :: moved)
  rw [List.length_cons, mv4] at hok
  have s10 := read_spec hG (List.replicate 6 two) (evFlat (mF :: moved)) hok (sz_flat m2 hm4 hFl) (by rw [ops_flat, List.length_cons, mv4]; decide) (by simp) (by rw [hfl]; exact hflz)
  rw [hfl, rd_flat m2] at s10
  have hdl6 : ∀ d ∈ due6 (mF :: moved), ∃ a b c e, d = row4 a b c e := fun d hd => by
    unfold due6 at hd
    rcases List.mem_cons.mp hd with rfl | hd
    · exact ⟨_, _, _, _, rfl⟩
    · obtain ⟨q, _, rfl⟩ := List.mem_map.mp hd
      exact ⟨_, _, _, _, rfl⟩
  obtain ⟨dq3, cq3⟩ := deq_rows _ hdl6
  generalize due6 (mF :: moved) = R3 at *
  generalize flatF two (mF :: moved) = flat at *
  have hpl : ∀ {X : Cx} {Γ : Gam} {e : PySem.Expr}, Ev X Γ e (.lst ([.str mF] ++ moved.map .str)) → Ev X Γ e (.lst ((mF :: moved).map .str)) := fun h => h
  exact XJ.cons (XS.ret (Ev.cast (Ev.cm (Ev.o (Ev.call (atK 18 rfl) (EvL.cons (Ev.call (atK 20 rfl) (EvL.cons (hpl (Ev.bin (Ev.o (Ev.lst (EvL.cons (Ev.strK K58 (by decide)) EvL.nil rfl) (Nat.le_of_ble_eq_true rfl))) (Ev.o (Ev.name (i := 6) rfl rfl ⟨rfl, rfl⟩)) (Bin.add_lst (by rw [List.length_map, mv4]; decide)))) (EvL.cons (Ev.name (i := 8) rfl rfl ⟨rfl, rfl⟩) EvL.nil rfl) rfl) s9 (Nat.le_of_ble_eq_true rfl) rfl) (EvL.cons (Ev.cast (b := .lst ((List.replicate 6 two).map .int)) (Ev.mul_lst (n := 6) (EvL.cons (Ev.name (i := 8) rfl rfl ⟨rfl, rfl⟩) EvL.nil rfl) Ev.int (by simp) (by decide) (by decide) (by simp) (by simp)) rfl) EvL.nil rfl) rfl) s10 (Nat.le_of_ble_eq_true rfl) rfl))
    (Ev.o (Ev.call (atK 21 rfl) (EvL.cons (hpl (Ev.bin (Ev.o (Ev.lst (EvL.cons (Ev.strK K58 (by decide)) EvL.nil rfl) (Nat.le_of_ble_eq_true rfl))) (Ev.o (Ev.name (i := 6) rfl rfl ⟨rfl, rfl⟩)) (Bin.add_lst (by rw [List.length_map, mv4]; decide)))) EvL.nil rfl) s8 (Nat.le_of_ble_eq_true rfl) rfl)) (Cmp.eq (n := 2) cq3 (by decide) (by simp))) (by rw [dq3])) rfl)
end
section
set_option maxHeartbeats 8000000
/-- what of the top is looked at: the defs but relpath (it has a default), the classes -/
noncomputable def keepSt : Stmt → Bool
  | .FunctionDef n .. => !(n == ("relpath" : PySem.Str))
  | .ClassDef .. => true
  | _ => false
noncomputable def vw : Program := { pw with main := { pw.main with body := pw.main.body.filter keepSt } }
noncomputable abbrev rwR : RowW := (OpenRow.toRowW (OpenLaw.row PySem.Challenge.rw_in0030_01))

noncomputable def defSize (h : Heap) (v : Value) : Option Nat := match v with
  | .ref T => (match h.get? T with
    | some ot => (match ot.data with
      | .seq items _ => some items.size
      | _ => none)
    | none => none)
  | _ => none
noncomputable abbrev RelT := Option ((Arguments × FuncBody × Scope) × (Addr × List (PySem.Str × Addr) × Addr) × Bool × Bool × Option Nat)
/-- relpath's def, as it stands behind the top -/
noncomputable def relObs (s : Shared) : RelT := match s.heap.nsMap mainGlobals "relpath" with
  | some (.ref a) => (match s.heap.get? a with
    | some o => (match o.data with
      | .func fd => some ((fd.params, fd.body, fd.scope), (fd.globals, fd.closure, fd.builtins), s.heap.codeRecOk fd.code fd.qualname, s.heap.isNs mainGlobals, defSize s.heap fd.defaults)
      | _ => none)
    | none => none)
  | _ => none
noncomputable def relVal (_ : World) : RelT := some (((dfAt 18).params, .stmts (dfAt 18).body, (dfAt 18).scope), (mainGlobals, [], builtinsNs), true, true, some 1)
noncomputable def relSays (_ : World) (h : Heap) : Prop := ∃ mg0 a fd o, h.Ns mainGlobals mg0 ∧ mg0 ("relpath" : PySem.Str) = some (.ref a) ∧ h.get? a = some o ∧ o.data = .func fd ∧ h.CodeRec fd.code fd.qualname ∧
  fd.params = (dfAt 18).params ∧ fd.body = .stmts (dfAt 18).body ∧ fd.scope = (dfAt 18).scope ∧ fd.globals = mainGlobals ∧ fd.closure = [] ∧ fd.builtins = builtinsNs ∧
  ∃ T ot items n, fd.defaults = .ref T ∧ h.get? T = some ot ∧ ot.data = .seq items n ∧ items.size = 1
theorem relKeeps (w : World) (h h' : Heap) (x : relSays w h) (k : ∀ b o, h.get? b = some o → h'.get? b = some o) : relSays w h' := by
  obtain ⟨mg0, a, fd, o, h1, h2, h3, h4, h5, e1, e2, e3, e4, e5, e6, T, ot, items, n, d1, d2, d3, d4⟩ := x
  exact ⟨mg0, a, fd, o, h1.keeps k, h2, k _ _ h3, h4, h5.keeps k, e1, e2, e3, e4, e5, e6, T, ot, items, n, d1, k _ _ d2, d3, d4⟩
theorem relOf (w : World) (s : Shared) (e : relObs s = relVal w) : relSays w s.heap := by
  unfold relObs relVal at e
  split at e
  · rename_i a ha
    split at e
    · rename_i o ho
      split at e
      · rename_i fd hd
        simp only [Option.some.injEq, Prod.mk.injEq] at e
        obtain ⟨⟨e1, e2, e3⟩, ⟨e4, e5, e6⟩, e7, e8, e9⟩ := e
        refine ⟨_, a, fd, o, Heap.Ns.of_isNs e8, ha, ho, hd, Heap.CodeRec.of_ok e7, e1, e2, e3, e4, e5, e6, ?_⟩
        unfold defSize at e9
        split at e9
        · rename_i T hT
          split at e9
          · rename_i ot hot
            split at e9
            · rename_i items n hn
              exact ⟨T, ot, items, n, hT, hot, hn, by simpa using e9⟩
            · cases e9
          · cases e9
        · cases e9
      · cases e
    · cases e
  · cases e

/-- the top's run, once for every world -/
theorem leftH : LeftO pw vw ["relpath"] (fun s => xlAt vw [] s && recOk (RowW.records rwR) s) relObs relVal 3558 := fun w => by
  unfold openEnds fencedOpening topFrom
  rw [Fast.te14082659384304107361, Fast.te14364793385576792824, Fast.te10274390034422433532, Fast.te14289696077712309145, Fast.te4187177175401517315]
  kernel_rfl

noncomputable def dLaw : DefRec := match defOf vw "law" with
  | some (d, _) => d
  | none => ⟨"law", (dfAt 36).params, (dfAt 36).body, (dfAt 36).scope, ⟨0, 0, 0, 0⟩⟩
theorem law_def : defOf vw "law" = some (dLaw, []) := by kernel_rfl
theorem law_the : pw.theDef "law" = some (dLaw.params, dLaw.body, dLaw.scope) := by kernel_rfl
theorem law_kw : kwWritten? dLaw.params.kwonlyargs dLaw.params.kw_defaults = some [] := by kernel_rfl
theorem law_name : dLaw.name = ("law" : PySem.Str) := by kernel_rfl
noncomputable abbrev prL : Program := (RowW.prog (OpenRow.toRowW (OpenLaw.row PySem.Challenge.rw_in0030_01)))
theorem s_bare : (["vars", "dir", "locals"] : List Str).filter (readsOut prL prL.main.body) = [] := by
  rw [Fast.te13343964577679436407]; kernel_rfl
theorem s_road : noRoadLSs { strict := !(importedModules prL.main.body).all cThrough.contains, foot := none, bare := (["vars", "dir", "locals"] : List Str).filter (readsOut prL prL.main.body) } prL.main.body = true := by
  rw [s_bare, Fast.te8326940854005059898]; kernel_rfl
theorem s_names : namesResolve prL = true := by rw [Fast.te8377067652309620493]; kernel_rfl
theorem s_meet : namesMeet prL prL.main.body (fun _ n => attrL n) = true := by rw [Fast.te17119622794617984870]; kernel_rfl
theorem s_row : (OpenLaw.row PySem.Challenge.rw_in0030_01).wellSaid = true := by
  delta OpenRow.wellSaid OpenRow.partSaid looksOpen
  iterate 15 with_reducible (refine look_both ?_ ?_; rotate_left; kernel_rfl)
  exact look_both (look_both (look_both (look_both (by kernel_rfl) s_names) (by kernel_rfl)) s_road) s_meet
theorem law_said : PySem.Challenge.rw_in0030_01.wellSaid = true := by
  delta OpenLaw.wellSaid
  iterate 18 with_reducible (refine look_both ?_ ?_; rotate_left; (first | rw [Fast.te17119622794617984870] | rw [Fast.te8326940854005059898] | rw [Fast.named_eq] | skip); kernel_rfl)
  exact s_row
theorem law_ok : (chainsOk vw && opensWell pw && (frees rwR && rwR.within.isEmpty)) = true := by kernel_rfl

noncomputable def toDf (r : DefRec) : Df := ⟨r.name, r.params, r.body, r.scope⟩
theorem recs_all : theDefs pw = ((recsOf vw).map toDf).take 18 ++ dfAt 18 :: ((recsOf vw).map toDf).drop 18 := by kernel_rfl
theorem bi_free : (biNames.all fun x => !startupNames.contains x && !(looseW vw ["relpath"]).contains x && !((recsOf vw).map (·.name)).contains x && !((litsOf vw).map (·.1)).contains x && !((clssOf vw (looseW vw ["relpath"])).map (·.name)).contains x) = true := by kernel_rfl
theorem rel_name : (dfAt 18).name = ("relpath" : PySem.Str) := by kernel_rfl
theorem rel_dfl : (dfAt 18).params.defaults.length = 1 := by kernel_rfl
theorem ns_same {h : Heap} {a : Addr} {m m' : PySem.Str → Option Value} (x : h.Ns a m) (y : h.Ns a m') (n : PySem.Str) : m n = m' n := by
  obtain ⟨o, es, ep, e1, e2, _, e3⟩ := x
  obtain ⟨o', es', ep', f1, f2, _, f3⟩ := y
  rw [e1] at f1; cases f1
  rw [e2] at f2; cases f2
  rw [← e3, ← f3]

theorem gok_top {w : World} {mean : ExcName → Option Value} {mg mb : PySem.Str → Option Value} {h : Heap} (T : Top vw (looseW vw ["relpath"]) mean mg mb h) (Y : relSays w h) : GOk ⟨pw, w, mg, mb⟩ h where
  g := T.g
  b := T.b
  nolimit := T.nolimit
  defs := fun d hd' => by
    have hmem : d ∈ (recsOf vw).map toDf ∨ d = dfAt 18 := by
      have hd2 : d ∈ theDefs pw := hd'
      rw [recs_all] at hd2
      rcases List.mem_append.mp hd2 with h1 | h1
      · exact .inl (List.mem_of_mem_take h1)
      · rcases List.mem_cons.mp h1 with h1 | h1
        · exact .inr h1
        · exact .inl (List.mem_of_mem_drop h1)
    rcases hmem with hm | rfl
    · obtain ⟨r, hr, rfl⟩ := List.mem_map.mp hm
      obtain ⟨a, o, pm, code, doc, h1, h2, h3, h4⟩ := T.fn r hr
      have hdf : r.params.defaults = [] := by
        unfold recsOf at hr
        obtain ⟨st, _, hs⟩ := List.mem_filterMap.mp hr
        split at hs
        · split at hs
          · split at hs
            · rename_i e _
              cases hs
              exact e
            · cases hs
          · cases hs
        · cases hs
      exact ⟨a, _, o, h1, h2, h3, h4, rfl, rfl, rfl, rfl, rfl, rfl, .inl ⟨hdf, rfl⟩⟩
    · obtain ⟨mg0, a, fd, o, h1, h2, h3, h4, h5, e1, e2, e3, e4, e5, e6, T', ot, items, n, d1, d2, d3, d4⟩ := Y
      refine ⟨a, fd, o, ?_, h3, h4, h5, e1, e2, e3, e4, e5, e6, .inr ⟨fun e => ?_, T', ot, items, n, d1, d2, d3, d4.trans rel_dfl.symm⟩⟩
      · show mg (dfAt 18).name = _
        rw [rel_name, ns_same T.g h1]; exact h2
      · have := rel_dfl
        rw [e] at this; cases this
  bi := fun x hx => by
    have h1 := List.all_eq_true.mp bi_free x hx
    simp only [Bool.and_eq_true, Bool.not_eq_true', ← Bool.not_eq_true, List.contains_iff_mem] at h1
    obtain ⟨⟨⟨⟨a1, a2⟩, a3⟩, a4⟩, a5⟩ := h1
    have hn : x ≠ ("__name__" : PySem.Str) := by
      intro e
      subst e
      exact absurd hx (by decide +kernel)
    exact ⟨T.free x a1 a2 a3 a4 a5, T.builtins x hn⟩
theorem ints_reps {B : Addr → Prop} {h : Heap} : ∀ {vs : List Value} {ns : List Int}, IntsAre vs ns → Reps B h (ns.map .int) vs
  | _, _, .nil => by simp only [List.map_nil, Reps]
  | _, _, .cons n t r => by
    simp only [List.map_cons, Reps, Rep]
    exact ⟨_, _, rfl, ⟨t, rfl⟩, ints_reps r⟩

theorem law_walk : WalkO vw ["relpath"] (XL vw []) relSays rwR dLaw [] (fun f vs => PySem.call f vs) := by
  intro w s₀ s₁ mg mb G Y fa o pm cd doc dV kV ho hd hcd hD hmg hg args vals as hpre hlay hrd hwl hlo
  have hfa : mg ("law" : PySem.Str) = some (.ref fa) := by rw [← law_name]; exact hmg
  clear ho hd hcd hD hmg
  refine Ground.open G ?_
  intro T B D TE TW
  clear G B D TE TW
  wrow_args hpre hlay hrd hwl hlo
  rename_i ns _ _ _ _ _ _ _ l vs _ hL _ _ _ hI _ hlen _
  have gok := gok_top T Y
  have sp := law_spec (G := ⟨pw, w, mg, mb⟩) ⟨rfl⟩ ns (by omega)
  have e1 := hI.length
  refine sp.2 callerA s₁ (fun _ => False) _ _ [.ref l] fa ⟨rfl, by decide +kernel, by decide +kernel⟩ gok hfa (fun _ h => h.elim) ?_ fun v s' st r => ?_
  · simp only [Reps, Rep]
    exact ⟨_, _, rfl, ⟨l, vs, rfl, fun h => h, hL, ints_reps hI, by rw [List.length_map]; omega⟩, rfl⟩
  · simp only [Rep] at r
    subst r
    obtain ⟨h', tk, rfl, kp, _⟩ := st
    refine GoodW.toG ⟨.inl ⟨.bool true, .bool true, [], rfl, ?_, ReadsW.bool _, ?_, fun _ => ⟨List.nodup_nil, fun a ha => nomatch ha⟩⟩, kp, rfl, hg⟩
    · refine raisesW_false ?_
      wrow_none_raised
    · wrow_post
theorem law_holds : PySem.Challenge.rw_in0030_01.Holds := by
  refine holds_law law_said fun said => ?_
  exact holds_open (r := OpenLaw.row PySem.Challenge.rw_in0030_01) (q := vw) (loose := ["relpath"]) (Xt := fun s => xlAt vw [] s && recOk (RowW.records rwR) s) (XP := XL vw []) (Yf := relObs) (Ya := relVal) (YP := relSays) (N := 3558)
    leftH relOf relKeeps (fun s e => xl_of s (Bool.and_eq_true_iff.mp e).1) XL.keeps law_def law_the law_kw (fun s e => recFacts_of (Bool.and_eq_true_iff.mp e).2) (by rfl) said law_ok ⟨rfl, rfl, rfl, rfl, rfl, by decide +kernel⟩
    ⟨[ofPy (.list [.int 3, .int 1])], by decide +kernel, by decide +kernel⟩ law_walk
end
end Mine
theorem PySem.Challenge.cw_in0030_01_holds : PySem.Challenge.rw_in0030_01.Holds :=
  Mine.law_holds
