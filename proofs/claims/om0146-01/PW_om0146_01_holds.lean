import PyProof.Rows.All
import Wide.All
import OpenK.AllK
import Wide.FinOn
import Flt.RightMore
import Flt.Ops
import PySem.Challenge.RW_om0146_01
set_option Elab.async false
section
open PySem PySem.W PyProof.Rows
namespace Mine

/-- data: what a value stands for -/
inductive D where
  | none
  | bool (b : Bool)
  | int (i : Int)
  | flt (b : UInt64)
  | str (s : Str)
  | tup (ds : List D)
  | lst (ds : List D)
  | val (v : Value)
  | rng (a b k : Int)

/-- what stays: an object, and whether data may be read through it -/
noncomputable abbrev Zone := Addr → Option (Bool × Obj)

noncomputable def isTup (o : Obj) (vs : List Value) : Prop := o.cls = .type "tuple" ∧ ∃ n, o.data = .seq vs.toArray n
noncomputable def isLst (o : Obj) (vs : List Value) : Prop := o.cls = .type "list" ∧ ∃ n, o.data = .seq vs.toArray n
noncomputable abbrev tupO (vs : List Value) (n : Nat) : Obj := { cls := .type "tuple", data := .seq vs.toArray n }
noncomputable abbrev rngO (a b k : Int) (t u w : Tok) : Obj := { cls := .type "range", dict := Option.none, data := .fields #[.int a t, .int b u, .int k w], slots := #[] }
noncomputable abbrev lstO (vs : List Value) (n : Nat) : Obj := { cls := .type "list", data := .seq vs.toArray n }

mutual
noncomputable def Rep (Z : Zone) : D → Value → Prop
  | .none, v => v = .none
  | .bool b, v => v = .bool b
  | .int i, v => ∃ t, v = .int i t
  | .flt b, v => ∃ t, v = .float b t
  | .str s, v => ∃ t, v = .str s t
  | .tup ds, v => ∃ a o vs, v = .ref a ∧ Z a = some (true, o) ∧ isTup o vs ∧ RepL Z ds vs
  | .lst ds, v => ∃ a o vs, v = .ref a ∧ Z a = some (true, o) ∧ isLst o vs ∧ RepL Z ds vs
  | .val u, v => v = u
  | .rng a b k, v => ∃ r t u w, v = .ref r ∧ Z r = some (true, rngO a b k t u w)
noncomputable def RepL (Z : Zone) : List D → List Value → Prop
  | [], vs => vs = []
  | d :: ds, vs => ∃ v r, vs = v :: r ∧ Rep Z d v ∧ RepL Z ds r
end

noncomputable def ZLe (Z Z' : Zone) : Prop := ∀ a o, Z a = some o → Z' a = some o
theorem ZLe.refl (Z : Zone) : ZLe Z Z := fun _ _ h => h
theorem ZLe.trans {Z Z' Z'' : Zone} (h : ZLe Z Z') (h' : ZLe Z' Z'') : ZLe Z Z'' := fun a o e => h' a o (h a o e)

mutual
theorem Rep.gen {Z Z' : Zone} (h : ∀ a o, Z a = some (true, o) → Z' a = some (true, o)) : ∀ {d : D} {v : Value}, Rep Z d v → Rep Z' d v
  | .none, _, x => by simpa only [Rep] using x
  | .bool _, _, x => by simpa only [Rep] using x
  | .int _, _, x => by simpa only [Rep] using x
  | .flt _, _, x => by simpa only [Rep] using x
  | .str _, _, x => by simpa only [Rep] using x
  | .val _, _, x => by simpa only [Rep] using x
  | .rng _ _ _, _, x => by
    simp only [Rep] at x ⊢
    obtain ⟨r, t, u, w, e, z⟩ := x
    exact ⟨r, t, u, w, e, h _ _ z⟩
  | .tup ds, v, x => by
    simp only [Rep] at x ⊢
    obtain ⟨a, o, vs, e, z, t, r⟩ := x
    exact ⟨a, o, vs, e, h _ _ z, t, RepL.gen h r⟩
  | .lst ds, v, x => by
    simp only [Rep] at x ⊢
    obtain ⟨a, o, vs, e, z, t, r⟩ := x
    exact ⟨a, o, vs, e, h _ _ z, t, RepL.gen h r⟩
theorem RepL.gen {Z Z' : Zone} (h : ∀ a o, Z a = some (true, o) → Z' a = some (true, o)) : ∀ {ds : List D} {vs : List Value}, RepL Z ds vs → RepL Z' ds vs
  | [], _, x => by simpa only [RepL] using x
  | d :: ds, vs, x => by
    simp only [RepL] at x ⊢
    obtain ⟨v, r, e, x1, x2⟩ := x
    exact ⟨v, r, e, Rep.gen h x1, RepL.gen h x2⟩
end
theorem Rep.mono {Z Z' : Zone} (h : ZLe Z Z') {d : D} {v : Value} (x : Rep Z d v) : Rep Z' d v := x.gen fun a o e => h a (true, o) e
theorem RepL.mono {Z Z' : Zone} (h : ZLe Z Z') {ds : List D} {vs : List Value} (x : RepL Z ds vs) : RepL Z' ds vs := x.gen fun a o e => h a (true, o) e


theorem RepL.length {Z : Zone} : ∀ {ds : List D} {vs : List Value}, RepL Z ds vs → vs.length = ds.length
  | [], _, x => by simp only [RepL] at x; subst x; rfl
  | d :: ds, vs, x => by
    simp only [RepL] at x
    obtain ⟨v, r, rfl, _, x2⟩ := x
    simp only [List.length_cons, x2.length]
theorem RepL.nil {Z : Zone} : RepL Z [] [] := by simp only [RepL]
theorem RepL.cons {Z : Zone} {d : D} {v : Value} {ds : List D} {vs : List Value} (h : Rep Z d v) (r : RepL Z ds vs) : RepL Z (d :: ds) (v :: vs) := by
  simp only [RepL]; exact ⟨v, vs, rfl, h, r⟩
theorem RepL.get {Z : Zone} : ∀ {ds : List D} {vs : List Value} {i : Nat} {d : D}, RepL Z ds vs → ds[i]? = some d → ∃ v, vs[i]? = some v ∧ Rep Z d v
  | [], _, _, _, _, e => by simp at e
  | d :: ds, vs, i, d', x, e => by
    simp only [RepL] at x
    obtain ⟨v, r, rfl, x1, x2⟩ := x
    cases i with
    | zero => simp at e; subst e; exact ⟨v, rfl, x1⟩
    | succ i => simp only [List.getElem?_cons_succ] at e ⊢; exact x2.get e
theorem RepL.append {Z : Zone} : ∀ {ds es : List D} {vs us : List Value}, RepL Z ds vs → RepL Z es us → RepL Z (ds ++ es) (vs ++ us)
  | [], _, _, _, x, y => by simp only [RepL] at x; subst x; exact y
  | d :: ds, es, vs, us, x, y => by
    simp only [RepL] at x
    obtain ⟨v, r, rfl, x1, x2⟩ := x
    exact RepL.cons x1 (x2.append y)
theorem RepL.set {Z : Zone} : ∀ {ds : List D} {vs : List Value} {i : Nat} {d : D} {v : Value}, RepL Z ds vs → Rep Z d v → RepL Z (ds.set i d) (vs.set i v)
  | [], _, _, _, _, x, _ => by simp only [RepL] at x; subst x; exact RepL.nil
  | d :: ds, vs, i, d', v', x, y => by
    simp only [RepL] at x
    obtain ⟨v, r, rfl, x1, x2⟩ := x
    cases i with
    | zero => exact RepL.cons y x2
    | succ i => exact RepL.cons x1 (x2.set y)
theorem RepL.drop {Z : Zone} : ∀ {ds : List D} {vs : List Value} (i : Nat), RepL Z ds vs → RepL Z (ds.drop i) (vs.drop i)
  | [], _, i, x => by simp only [RepL] at x; subst x; simp [RepL]
  | d :: ds, vs, i, x => by
    cases i with
    | zero => exact x
    | succ i =>
      simp only [RepL] at x
      obtain ⟨v, r, rfl, x1, x2⟩ := x
      exact x2.drop i
theorem RepL.take {Z : Zone} : ∀ {ds : List D} {vs : List Value} (i : Nat), RepL Z ds vs → RepL Z (ds.take i) (vs.take i)
  | [], _, i, x => by simp only [RepL] at x; subst x; simp [RepL]
  | d :: ds, vs, i, x => by
    cases i with
    | zero => exact RepL.nil
    | succ i =>
      simp only [RepL] at x
      obtain ⟨v, r, rfl, x1, x2⟩ := x
      exact RepL.cons x1 (x2.take i)
theorem RepL.reverse {Z : Zone} : ∀ {ds : List D} {vs : List Value}, RepL Z ds vs → RepL Z ds.reverse vs.reverse
  | [], _, x => by simp only [RepL] at x; subst x; exact RepL.nil
  | d :: ds, vs, x => by
    simp only [RepL] at x
    obtain ⟨v, r, rfl, x1, x2⟩ := x
    rw [List.reverse_cons, List.reverse_cons]
    exact x2.reverse.append (RepL.cons x1 RepL.nil)

/-! the store of a frame -/
noncomputable def get (x : Str) : List (Str × D) → Option D
  | [] => Option.none
  | (y, e) :: r => if x = y then some e else get x r
noncomputable def put (x : Str) (d : D) : List (Str × D) → List (Str × D)
  | [] => [(x, d)]
  | (y, e) :: r => if x = y then (y, d) :: r else (y, e) :: put x d r
theorem get_put (x y : Str) (d : D) : ∀ m, get y (put x d m) = if y = x then some d else get y m
  | [] => by simp [get, put]
  | (z, e) :: r => by
    unfold put
    by_cases h : x = z
    · subst h; simp only [if_true, get]; by_cases h' : y = x <;> simp [h']
    · simp only [if_neg h, get, get_put x y d r]
      by_cases h' : y = z
      · subst h'; simp [Ne.symm h]
      · simp [h']

inductive Cel where
  | list (ds : List D)
  | iter (ds : List D)

noncomputable def CelO (Z : Zone) (o : Obj) : Cel → Prop
  | .list ds => ∃ vs n, o = lstO vs n ∧ RepL Z ds vs
  | .iter ds => ∃ l ol vs i, Z l = some (true, ol) ∧ isLst ol vs ∧ o.cls = .type "list_iterator" ∧ o.data = .fields #[.ref l, .int ((i : Nat) : Int) 0] ∧ RepL Z ds (vs.drop i)
theorem CelO.gen {Z Z' : Zone} (h : ∀ a o, Z a = some (true, o) → Z' a = some (true, o)) {o : Obj} : ∀ {x : Cel}, CelO Z o x → CelO Z' o x
  | .list _, ⟨vs, n, e, r⟩ => ⟨vs, n, e, r.gen h⟩
  | .iter _, ⟨l, ol, vs, i, z, t, e1, e2, r⟩ => ⟨l, ol, vs, i, h _ _ z, t, e1, e2, r.gen h⟩

structure Cx where
  prog : Program
  w : World
  base : Heap
  s0 : Shared

structure Sig where
  m : List (Str × D)
  L : Addr → Option Cel

structure EnvOk (env : Env) : Prop where
  kind : env.scope.kind = .function
  globals : env.globals = mainGlobals
  builtins : env.builtins = builtinsNs
  apart : ∀ x y k, env.cells.lookup x = some k → env.cells.lookup y = some k → env.locals < k → x = y

/-- the frame's own objects: its names, the cells that it made -/
noncomputable def Own (env : Env) (a : Addr) : Prop := a = env.locals ∨ (env.locals < a ∧ ∃ x, env.cells.lookup x = some a)

structure RelG (c : Cx) (Z : Zone) (L : Addr → Option Cel) (s : Shared) : Prop where
  rest : ∃ h tk, s = { c.s0 with heap := h, toks := tk }
  base : ∀ a o, c.base.get? a = some o → Z a = some (true, o)
  zone : ∀ a p, Z a = some p → s.heap.get? a = some p.2
  cel : ∀ a x, L a = some x → Z a = Option.none ∧ ∃ o, s.heap.get? a = some o ∧ CelO Z o x

noncomputable def plainName (x : Str) : Bool := !(x == ("__debug__" : Str)) && !(x == ("__classdict__" : Str))

structure RelF (env : Env) (Z : Zone) (m : List (Str × D)) (L : Addr → Option Cel) (h : Heap) : Prop where
  ok : EnvOk env
  ns : ∃ mv, h.Ns env.locals mv ∧ ∀ x d, get x m = some d → env.kindOf x = some .local → ∃ v, mv x = some v ∧ Rep Z d v
  kinds : ∀ x d, get x m = some d → plainName x = true ∧ (env.kindOf x = some .local ∨ env.kindOf x = some .cell ∨ env.kindOf x = some .free)
  cellv : ∀ x d, get x m = some d → env.kindOf x ≠ some .local → ∃ k v, env.cells.lookup x = some k ∧ h.IsCell k (some v) ∧ Rep Z d v ∧ (env.locals < k ∨ ∃ p, Z k = some p)
  has : ∀ x k, env.cells.lookup x = some k → env.locals < k → ∃ v₀, h.IsCell k v₀
  own : ∀ a, Own env a → Z a = Option.none ∧ L a = Option.none

structure Rel (c : Cx) (env : Env) (Z : Zone) (σ : Sig) (s : Shared) : Prop where
  g : RelG c Z σ.L s
  f : RelF env Z σ.m σ.L s.heap

noncomputable def Room (n : Nat) (A : Around) : Prop := A.handled = Option.none ∧ A.depth + n < recursionLimit ∧ A.units + 8 * n + 64 < cLine

theorem Room.le {n k : Nat} {A : Around} (h : Room n A) (hk : k ≤ n) : Room k A := ⟨h.1, by have := h.2.1; (first | lia | omega), by have := h.2.2; (first | lia | omega)⟩
theorem Room.deeper {n : Nat} {A : Around} (h : Room (n + 1) A) (env : Env) : Room n (A.deeper env) :=
  ⟨h.1, by have := h.2.1; show A.depth + 1 + n < _; (first | lia | omega), by have := h.2.2; show A.units + 3 + 8 * n + 64 < _; (first | lia | omega)⟩

noncomputable abbrev wpc (c : Cx) (A : Around) {α : Type} (t : Sem α) (Q : α → Shared → Prop) (s : Shared) : Prop := wpAny (model c.prog c.w) A t Q (fun _ _ => False) s

/-- the end of a step: a new state, a greater zone, what is handed back stands for b -/
noncomputable def Post (c : Cx) (env : Env) (Z : Zone) {α β : Type} (R : Zone → β → α → Prop) (Q : β → Sig → Prop) (a : α) (s : Shared) : Prop :=
  ∃ Z' σ' b, ZLe Z Z' ∧ Rel c env Z' σ' s ∧ R Z' b a ∧ Q b σ'
noncomputable def PostG (c : Cx) (Z : Zone) {α β : Type} (R : Zone → β → α → Prop) (Q : β → (Addr → Option Cel) → Prop) (a : α) (s : Shared) : Prop :=
  ∃ Z' L' b, ZLe Z Z' ∧ RelG c Z' L' s ∧ R Z' b a ∧ Q b L'

noncomputable def AW (c : Cx) (n : Nat) (env : Env) {α β : Type} (t : Sem α) (R : Zone → β → α → Prop) (σ : Sig) (Q : β → Sig → Prop) : Prop :=
  ∀ Z A s, Room n A → Rel c env Z σ s → wpc c A t (Post c env Z R Q) s

/-- an expression's value -/
noncomputable def AE (c : Cx) (n : Nat) (env : Env) (e : Expr) (σ : Sig) (Q : D → Sig → Prop) : Prop := AW c n env (eval e env) Rep σ Q
/-- a test -/
noncomputable def AT (c : Cx) (n : Nat) (env : Env) (e : Expr) (σ : Sig) (Q : Bool → Sig → Prop) : Prop := AW c n env (isTrue e env (eval e env)) (fun _ b a => a = b) σ Q

inductive F where
  | next | brk | cont
  | ret (d : D)
noncomputable def FRep (Z : Zone) : F → Flow → Prop
  | .next, f => f = .next
  | .brk, f => f = .brk
  | .cont, f => f = .cont
  | .ret d, f => ∃ v, f = .ret v ∧ Rep Z d v
noncomputable def F.val : F → D
  | .ret d => d
  | _ => .none
/-- a block -/
noncomputable def AX (c : Cx) (n : Nat) (env : Env) (b : List Stmt) (σ : Sig) (Q : F → Sig → Prop) : Prop := AW c n env (execs b env) FRep σ Q
noncomputable def AX1 (c : Cx) (n : Nat) (env : Env) (b : Stmt) (σ : Sig) (Q : F → Sig → Prop) : Prop := AW c n env (exec b env) FRep σ Q
/-- a call, from any frame -/
noncomputable def AC (c : Cx) (n : Nat) (f : Value) (ds : List D) (kw : List (Str × D)) (L : Addr → Option Cel) (Q : D → (Addr → Option Cel) → Prop) : Prop :=
  ∀ Z A s vs us, Room n A → RelG c Z L s → RepL Z ds vs → RepL Z (kw.map (·.2)) us → wpc c A (call f vs ((kw.map (·.1)).zip us)) (PostG c Z Rep Q) s

section
variable {c : Cx} {n : Nat} {env : Env} {σ : Sig} {α β : Type}

theorem AW.mono {t : Sem α} {R : Zone → β → α → Prop} {Q Q' : β → Sig → Prop} (h : AW c n env t R σ Q) (hq : ∀ b σ', Q b σ' → Q' b σ') : AW c n env t R σ Q' :=
  fun Z A s r x => wpAny_mono (h Z A s r x) (fun _ _ ⟨Z', σ', b, h1, h2, h3, h4⟩ => ⟨Z', σ', b, h1, h2, h3, hq _ _ h4⟩) fun _ _ e => e
theorem AX.mono {b : List Stmt} {Q Q' : F → Sig → Prop} (h : AX c n env b σ Q) (hq : ∀ f σ', Q f σ' → Q' f σ') : AX c n env b σ Q' := AW.mono h hq
theorem AE.mono {e : Expr} {Q Q' : D → Sig → Prop} (h : AE c n env e σ Q) (hq : ∀ f σ', Q f σ' → Q' f σ') : AE c n env e σ Q' := AW.mono h hq
theorem AT.mono {e : Expr} {Q Q' : Bool → Sig → Prop} (h : AT c n env e σ Q) (hq : ∀ f σ', Q f σ' → Q' f σ') : AT c n env e σ Q' := AW.mono h hq
theorem AC.mono {f : Value} {ds : List D} {kw : List (Str × D)} {L : Addr → Option Cel} {Q Q' : D → (Addr → Option Cel) → Prop} (h : AC c n f ds kw L Q) (hq : ∀ d L', Q d L' → Q' d L') : AC c n f ds kw L Q' :=
  fun Z A s vs us r x y z => wpAny_mono (h Z A s vs us r x y z) (fun _ _ ⟨Z', σ', b, h1, h2, h3, h4⟩ => ⟨Z', σ', b, h1, h2, h3, hq _ _ h4⟩) fun _ _ e => e
end

/-! the relation under small changes -/
theorem RelG.keeps {c : Cx} {Z : Zone} {L : Addr → Option Cel} {s : Shared} (x : RelG c Z L s) {h' : Heap} {tk : Nat} (hk : ∀ b o, s.heap.get? b = some o → h'.get? b = some o) :
    RelG c Z L { s with heap := h', toks := tk } :=
  ⟨by obtain ⟨h, t, rfl⟩ := x.rest; exact ⟨h', tk, rfl⟩, x.base, fun a o e => hk _ _ (x.zone a o e), fun a y e => let ⟨z, o, e1, e2⟩ := x.cel a y e; ⟨z, o, hk _ _ e1, e2⟩⟩
theorem RelF.keeps {env : Env} {Z : Zone} {m : List (Str × D)} {L : Addr → Option Cel} {h h' : Heap} (x : RelF env Z m L h) (hk : ∀ b o, h.get? b = some o → h'.get? b = some o) : RelF env Z m L h' :=
  ⟨x.ok, let ⟨mv, a, b⟩ := x.ns; ⟨mv, a.keeps hk, b⟩, x.kinds, fun y d e k => let ⟨q, v, e1, e2, e3⟩ := x.cellv y d e k; ⟨q, v, e1, e2.keeps hk, e3⟩,
    fun y k e l => let ⟨v, e2⟩ := x.has y k e l; ⟨v, e2.keeps hk⟩, x.own⟩
theorem Rel.keeps {c : Cx} {env : Env} {Z : Zone} {σ : Sig} {s : Shared} (x : Rel c env Z σ s) {h' : Heap} {tk : Nat} (hk : ∀ b o, s.heap.get? b = some o → h'.get? b = some o) :
    Rel c env Z σ { s with heap := h', toks := tk } := ⟨x.g.keeps hk, x.f.keeps hk⟩
theorem Rel.tok {c : Cx} {env : Env} {Z : Zone} {σ : Sig} {s : Shared} (x : Rel c env Z σ s) (tk : Nat) : Rel c env Z σ { s with toks := tk } := x.keeps fun _ _ e => e
theorem RelG.tok {c : Cx} {Z : Zone} {L : Addr → Option Cel} {s : Shared} (x : RelG c Z L s) (tk : Nat) : RelG c Z L { s with toks := tk } := x.keeps fun _ _ e => e

theorem Post.pure {c : Cx} {env : Env} {Z : Zone} {R : Zone → β → α → Prop} {Q : β → Sig → Prop} {a : α} {s : Shared} {σ : Sig} {b : β} (x : Rel c env Z σ s) (hr : R Z b a) (hq : Q b σ) : Post c env Z R Q a s :=
  ⟨Z, σ, b, .refl Z, x, hr, hq⟩
theorem Post.trans {c : Cx} {env : Env} {Z Z' : Zone} {R : Zone → β → α → Prop} {Q : β → Sig → Prop} {a : α} {s : Shared} (h : ZLe Z Z') (x : Post c env Z' R Q a s) : Post c env Z R Q a s :=
  let ⟨Z2, σ', b, h1, h2, h3, h4⟩ := x; ⟨Z2, σ', b, h.trans h1, h2, h3, h4⟩
theorem PostG.trans {c : Cx} {Z Z' : Zone} {R : Zone → β → α → Prop} {Q : β → (Addr → Option Cel) → Prop} {a : α} {s : Shared} (h : ZLe Z Z') (x : PostG c Z' R Q a s) : PostG c Z R Q a s :=
  let ⟨Z2, σ', b, h1, h2, h3, h4⟩ := x; ⟨Z2, σ', b, h.trans h1, h2, h3, h4⟩

theorem Post.elim {c : Cx} {env : Env} {Z : Zone} {α β : Type} {R : Zone → β → α → Prop} {Q : β → Sig → Prop} {a : α} {s : Shared} {T : Prop} (h : Post c env Z R Q a s)
    (k : ∀ Z' σ' b, ZLe Z Z' → Rel c env Z' σ' s → R Z' b a → Q b σ' → T) : T := let ⟨Z', σ', b, h1, h2, h3, h4⟩ := h; k Z' σ' b h1 h2 h3 h4
theorem ex34 {α β γ : Type} {P₁ P₂ P₃ P₄ : α → β → γ → Prop} {T : Prop} (h : ∃ x y z, P₁ x y z ∧ P₂ x y z ∧ P₃ x y z ∧ P₄ x y z) (k : ∀ x y z, P₁ x y z → P₂ x y z → P₃ x y z → P₄ x y z → T) : T := let ⟨x, y, z, h1, h2, h3, h4⟩ := h; k x y z h1 h2 h3 h4
end Mine
end
section
open PySem PySem.W PyProof.Rows
namespace Mine

section
variable {c : Cx} {n : Nat} {env : Env} {σ : Sig} {α β : Type}

/-! names -/
theorem RelG.nsBase {Z : Zone} {L : Addr → Option Cel} {s : Shared} (x : RelG c Z L s) {a : Addr} {m : Str → Option Value} (h : c.base.Ns a m) : s.heap.Ns a m :=
  h.keeps fun b o e => x.zone b _ (x.base b o e)

theorem plain_debug {x : Str} (h : plainName x = true) : (x == ("__debug__" : Str)) = false := by
  unfold plainName at h; cases hh : (x == ("__debug__" : Str)) <;> simp_all
theorem plain_cdict {x : Str} (h : plainName x = true) : (x == ("__classdict__" : Str)) = false := by
  unfold plainName at h; cases hh : (x == ("__classdict__" : Str)) <;> simp_all

theorem load_var {Z : Zone} {s : Shared} {A : Around} {x : Str} {d : D} {E : Value → Shared → Prop} {Q : Value → Shared → Prop} (r : Rel c env Z σ s) (hx : get x σ.m = some d)
    (h : ∀ v, Rep Z d v → Q v s) : wpAny (model c.prog c.w) A (loadName env x) Q E s := by
  obtain ⟨hp, hk⟩ := r.f.kinds x d hx
  rcases hk with hk | hk | hk
  · obtain ⟨mv, hn, hm⟩ := r.f.ns
    obtain ⟨v, e1, e2⟩ := hm x d hx hk
    exact wpAny_loadName_local r.f.ok.kind hk hn e1 (h v e2)
  · obtain ⟨k, v, e1, e2, e3, _⟩ := r.f.cellv x d hx (by rw [hk]; intro q; cases q)
    exact wpAny_loadName_cell r.f.ok.kind hk e1 e2 (h v e3)
  · obtain ⟨k, v, e1, e2, e3, _⟩ := r.f.cellv x d hx (by rw [hk]; intro q; cases q)
    exact wpAny_loadName_free r.f.ok.kind hk e1 e2 (h v e3) (plain_cdict hp)

theorem AE.name {x : Str} {pos : Pos} {d : D} {Q : D → Sig → Prop} (hx : get x σ.m = some d) (h : Q d σ) : AE c n env (.Name x pos) σ Q :=
  fun _ _ _ _ r => wpAny_Name (load_var r hx fun _ e => .pure r e h) (plain_debug (r.f.kinds x d hx).1)

noncomputable def Glb (c : Cx) (x : Str) (v : Value) : Prop := ∃ mg, c.base.Ns mainGlobals mg ∧ mg x = some v
noncomputable def Blt (c : Cx) (x : Str) (v : Value) : Prop := ∃ mg mb, c.base.Ns mainGlobals mg ∧ mg x = Option.none ∧ c.base.Ns builtinsNs mb ∧ mb x = some v

theorem AE.glob {x : Str} {pos : Pos} {v : Value} {Q : D → Sig → Prop} (hg : Glb c x v) (h : Q (.val v) σ) (hk : env.kindOf x = some .globalImplicit := by rfl) (hp : plainName x = true := by rfl) :
    AE c n env (.Name x pos) σ Q := fun Z A s _ r => by
  obtain ⟨mg, h1, h2⟩ := hg
  refine PySem.Calls.Name_function_global r.f.ok.kind hk (PySem.Calls.loadGlobal_global (mg := mg) ?_ h2 (.pure r (by simp only [Rep]) h)) (plain_debug hp)
  rw [r.f.ok.globals]; exact r.g.nsBase h1
theorem AE.globD {x : Str} {pos : Pos} {v : Value} {d : D} {Q : D → Sig → Prop} (hg : Glb c x v) (hd : ∀ Z, (∀ a o, c.base.get? a = some o → Z a = some (true, o)) → Rep Z d v) (h : Q d σ) (hk : env.kindOf x = some .globalImplicit := by rfl) (hp : plainName x = true := by rfl) :
    AE c n env (.Name x pos) σ Q := fun Z A s _ r => by
  obtain ⟨mg, h1, h2⟩ := hg
  refine PySem.Calls.Name_function_global r.f.ok.kind hk (PySem.Calls.loadGlobal_global (mg := mg) ?_ h2 (.pure r (hd Z r.g.base) h)) (plain_debug hp)
  rw [r.f.ok.globals]; exact r.g.nsBase h1
theorem AE.built {x : Str} {pos : Pos} {v : Value} {Q : D → Sig → Prop} (hg : Blt c x v) (h : Q (.val v) σ) (hk : env.kindOf x = some .globalImplicit := by rfl) (hp : plainName x = true := by rfl) :
    AE c n env (.Name x pos) σ Q := fun Z A s _ r => by
  obtain ⟨mg, mb, h1, h2, h3, h4⟩ := hg
  refine PySem.Calls.Name_function_global r.f.ok.kind hk (PySem.Calls.loadGlobal_builtin (mg := mg) (mb := mb) ?_ h2 ?_ h4 (.pure r (by simp only [Rep]) h)) (plain_debug hp)
  · rw [r.f.ok.globals]; exact r.g.nsBase h1
  · rw [r.f.ok.builtins]; exact r.g.nsBase h3

/-! constants -/
theorem AE.int {i : Int} {k : Nat} {pos : Pos} {Q : D → Sig → Prop} (h : Q (.int i) σ) : AE c n env (.Constant (.int i) k pos) σ Q :=
  fun _ _ _ _ r => wpAny_Constant_int (.pure (r.tok _) (by simp only [Rep]; exact ⟨_, rfl⟩) h)
theorem AE.str {x : Str} {k : Nat} {pos : Pos} {Q : D → Sig → Prop} (h : Q (.str x) σ) : AE c n env (.Constant (.str x) k pos) σ Q :=
  fun _ _ _ _ r => PySem.Calls.Constant_str (.pure (r.tok _) (by simp only [Rep]; exact ⟨_, rfl⟩) h)
theorem AE.bool {b : Bool} {k : Nat} {pos : Pos} {Q : D → Sig → Prop} (h : Q (.bool b) σ) : AE c n env (.Constant (.bool b) k pos) σ Q :=
  fun _ _ _ _ r => fun _ _ _ => Post.pure r (by simp only [Rep]) h
theorem AE.none {k : Nat} {pos : Pos} {Q : D → Sig → Prop} (h : Q .none σ) : AE c n env (.Constant .none k pos) σ Q :=
  fun _ _ _ _ r => fun _ _ _ => Post.pure r (by simp only [Rep]) h

/-! operations upon two values -/
noncomputable def AO (c : Cx) (n : Nat) (env : Env) (t : Value → Value → Sem α) (R : Zone → β → α → Prop) (d₁ d₂ : D) (σ : Sig) (Q : β → Sig → Prop) : Prop :=
  ∀ Z A s v₁ v₂, Room n A → Rel c env Z σ s → Rep Z d₁ v₁ → Rep Z d₂ v₂ → wpc c A (t v₁ v₂) (Post c env Z R Q) s

theorem two_steps {t : Sem Value} {u : Sem Value} {f : Value → Value → Sem α} {R : Zone → β → α → Prop} {Q : β → Sig → Prop} {Z : Zone} {A : Around} {s : Shared}
    (h : AW c n env t Rep σ (fun d₁ σ₁ => AW c n env u Rep σ₁ (fun d₂ σ₂ => AO c n env f R d₁ d₂ σ₂ Q))) (hr : Room n A) (r : Rel c env Z σ s) :
    wpc c A t (fun a s₁ => wpc c A u (fun b s₂ => wpc c A (f a b) (Post c env Z R Q) s₂) s₁) s :=
  wpAny_mono (h Z A s hr r) (fun v₁ _ hpz => hpz.elim fun Z₁ _ _ l₁ r₁ e₁ h₁ => wpAny_mono (h₁ Z₁ A _ hr r₁) (fun v₂ _ hpz => hpz.elim fun Z₂ _ _ l₂ r₂ e₂ h₂ =>
    wpAny_mono (h₂ Z₂ A _ v₁ v₂ hr r₂ (e₁.mono l₂) e₂) (fun _ _ p => p.trans (l₁.trans l₂)) fun _ _ e => e) fun _ _ e => e) fun _ _ e => e

theorem AE.binop {l r : Expr} {op : Operator} {pos : Pos} {Q : D → Sig → Prop} (h : AE c n env l σ (fun d₁ σ₁ => AE c n env r σ₁ (fun d₂ σ₂ => AO c n env (binaryOp op) Rep d₁ d₂ σ₂ Q))) :
    AE c n env (.BinOp l op r pos) σ Q := fun _ _ _ hr r => wpAny_BinOp (two_steps h hr r)
theorem AE.cmp {l r : Expr} {op : CmpOp} {pos : Pos} {Q : D → Sig → Prop} (h : AE c n env l σ (fun d₁ σ₁ => AE c n env r σ₁ (fun d₂ σ₂ => AO c n env (compareOp op) Rep d₁ d₂ σ₂ Q)))
    (hm : behindInMarks op r = false := by with_unfolding_all rfl) : AE c n env (.Compare l [op] [r] pos) σ Q := fun _ _ _ hr r => wpAny_Compare1 (two_steps h hr r) hm
/-- the test of a comparison that gives a bool -/
theorem AT.cmp {l r : Expr} {op : CmpOp} {pos : Pos} {Q : Bool → Sig → Prop}
    (h : AE c n env l σ (fun d₁ σ₁ => AE c n env r σ₁ (fun d₂ σ₂ => AO c n env (compareOp op) Rep d₁ d₂ σ₂ (fun d σ₃ => ∃ b, d = .bool b ∧ Q b σ₃))))
    (hm : behindInMarks op r = false := by with_unfolding_all rfl) : AT c n env (.Compare l [op] [r] pos) σ Q := fun Z A s hr r => by
  refine wpAny_isTrue_Compare1 (wpAny_mono (two_steps h hr r) (fun v₁ s₁ h₁ => wpAny_mono h₁ (fun v₂ s₂ h₂ => wpAny_mono h₂ (fun v s₃ p => ?_) fun _ _ e => e) fun _ _ e => e) fun _ _ e => e) hm
  obtain ⟨Z', σ', d, l, r', e, b, rfl, q⟩ := p
  simp only [Rep] at e; subst e
  exact wpAny_truthy_bool ⟨Z', σ', b, l, r', rfl, q⟩

theorem AO.ints {t : Value → Value → Sem Value} {i j : Int} {d : D} {Q : D → Sig → Prop} (h : Q d σ)
    (ht : ∀ (A : Around) (s : Shared) (a b : Tok) (Q' : Value → Shared → Prop), A.units + 64 < cLine → (∀ v tk, (∀ Z, Rep Z d v) → Q' v { s with toks := tk }) → wpc c A (t (.int i a) (.int j b)) Q' s) :
    AO c n env t Rep (.int i) (.int j) σ Q := fun Z A s v₁ v₂ hr r e₁ e₂ => by
  simp only [Rep] at e₁ e₂
  obtain ⟨a, rfl⟩ := e₁; obtain ⟨b, rfl⟩ := e₂
  exact ht A s a b _ (by have := hr.2.2; (first | lia | omega)) fun v tk hv => .pure (r.tok tk) (hv Z) h
theorem rep_int {Z : Zone} {i : Int} {t : Tok} : Rep Z (.int i) (.int i t) := by simp only [Rep]; exact ⟨_, rfl⟩
theorem rep_bool {Z : Zone} {b : Bool} : Rep Z (.bool b) (.bool b) := by simp only [Rep]
theorem rep_str {Z : Zone} {x : Str} {t : Tok} : Rep Z (.str x) (.str x t) := by simp only [Rep]; exact ⟨_, rfl⟩
theorem rep_flt {Z : Zone} {x : UInt64} {t : Tok} : Rep Z (.flt x) (.float x t) := by simp only [Rep]; exact ⟨_, rfl⟩

variable {i j : Int} {Q : D → Sig → Prop}
theorem AO.add (h : Q (.int (i + j)) σ) : AO c n env (binaryOp .Add) Rep (.int i) (.int j) σ Q := .ints h fun _ _ _ _ _ _ q => PyProof.Rows.add_int (q _ _ fun _ => rep_int)
theorem AO.sub (h : Q (.int (i - j)) σ) : AO c n env (binaryOp .Sub) Rep (.int i) (.int j) σ Q := .ints h fun _ _ _ _ _ _ q => PyProof.Rows.sub_int (q _ _ fun _ => rep_int)
theorem AO.mul (h : Q (.int (i * j)) σ) (hm : IntMulOk i j) : AO c n env (binaryOp .Mult) Rep (.int i) (.int j) σ Q := .ints h fun _ _ _ _ _ _ q => PyProof.Rows.mul_int (q _ _ fun _ => rep_int) hm
theorem AO.rshift (hn : 0 ≤ j) (h : Q (.int (i.fdiv (2 ^ j.toNat))) σ) : AO c n env (binaryOp .RShift) Rep (.int i) (.int j) σ Q := .ints h fun _ _ _ _ _ _ q => PyProof.Rows.rshift_int hn (q _ _ fun _ => rep_int)
theorem AO.band (h : Q (.int (Builtin.bitAnd i j)) σ) : AO c n env (binaryOp .BitAnd) Rep (.int i) (.int j) σ Q := .ints h fun _ _ _ _ _ _ q => PyProof.Rows.and_int (q _ _ fun _ => rep_int)
theorem AO.lt (h : Q (.bool (decide (i < j))) σ) : AO c n env (compareOp .Lt) Rep (.int i) (.int j) σ Q := .ints h fun _ _ _ _ _ _ q => PyProof.Rows.lt_int (q _ _ fun _ => rep_bool)
theorem AO.gt (h : Q (.bool (decide (j < i))) σ) : AO c n env (compareOp .Gt) Rep (.int i) (.int j) σ Q := .ints h fun _ _ _ _ _ _ q => PyProof.Rows.gt_int (q _ _ fun _ => rep_bool)
theorem AO.ge (h : Q (.bool (decide (j ≤ i))) σ) : AO c n env (compareOp .GtE) Rep (.int i) (.int j) σ Q := .ints h fun _ _ _ _ _ _ q => PyProof.Rows.ge_int (q _ _ fun _ => rep_bool)
theorem AO.eq (h : Q (.bool (i == j)) σ) : AO c n env (compareOp .Eq) Rep (.int i) (.int j) σ Q := .ints h fun _ _ _ _ _ _ q => PyProof.Rows.eq_int (q _ _ fun _ => rep_bool)
theorem AO.ne (h : Q (.bool (i != j)) σ) : AO c n env (compareOp .NotEq) Rep (.int i) (.int j) σ Q := .ints h fun _ _ _ _ _ _ q => PyProof.Rows.ne_int (q _ _ fun _ => rep_bool)
end
end Mine
end
section
open PySem PySem.W PyProof.Rows
namespace Mine

noncomputable def Sig.put (σ : Sig) (x : Str) (d : D) : Sig := ⟨Mine.put x d σ.m, σ.L⟩
noncomputable def setL (L : Addr → Option Cel) (a : Addr) (x : Cel) : Addr → Option Cel := fun b => if b = a then some x else L b
noncomputable def Sig.cel (σ : Sig) (a : Addr) (x : Cel) : Sig := ⟨σ.m, setL σ.L a x⟩

/-- a name that may be stored in the frame -/
noncomputable def Sto (env : Env) (x : Str) : Prop := plainName x = true ∧ (env.kindOf x = some .local ∨ (env.kindOf x = some .cell ∧ ∃ k, env.cells.lookup x = some k ∧ env.locals < k))

section
variable {c : Cx} {n : Nat} {env : Env} {σ : Sig} {α β : Type} {Z : Zone} {s : Shared} {A : Around}

theorem cell_ne_ns {h : Heap} {a b : Addr} {v : Option Value} {m : Str → Option Value} (x : h.IsCell a v) (y : h.Ns b m) : a ≠ b := by
  rintro rfl
  obtain ⟨o, e1, e2⟩ := x
  obtain ⟨o', es, ep, e3, e4, _⟩ := y
  rw [e1] at e3; cases e3; rw [e2] at e4; cases e4
theorem RelG.sameBut {L : Addr → Option Cel} (x : RelG c Z L s) {a : Addr} (hz : Z a = Option.none) (hl : L a = Option.none) {h' : Heap} (hs : Heap.SameBut a s.heap h') (tk : Nat) : RelG c Z L { s with heap := h', toks := tk } :=
  ⟨by obtain ⟨h, t, rfl⟩ := x.rest; exact ⟨h', tk, rfl⟩, x.base, fun b o e => (hs.2 b (by rintro rfl; rw [hz] at e; cases e)).trans (x.zone b o e),
    fun b y e => let ⟨z, o, e1, e2⟩ := x.cel b y e; ⟨z, o, (hs.2 b (by rintro rfl; rw [hl] at e; cases e)).trans e1, e2⟩⟩

theorem own_ne {a b : Addr} {p : Bool × Obj} (r : Rel c env Z σ s) (ha : Own env a) (hb : Z b = some p) : b ≠ a := by
  rintro rfl; rw [(r.f.own b ha).1] at hb; cases hb

theorem store_var {x : Str} {d : D} {v : Value} {E : Value → Shared → Prop} {Q : Unit → Shared → Prop} (r : Rel c env Z σ s) (hx : Sto env x) (hv : Rep Z d v)
    (h : ∀ s', Rel c env Z (σ.put x d) s' → Q () s') : wpAny (model c.prog c.w) A (storeName env x v) Q E s := by
  obtain ⟨hp, hk⟩ := hx
  obtain ⟨mv, hn, hm⟩ := r.f.ns
  rcases hk with hk | ⟨hk, k, hc, hlt⟩
  · refine wpAny_storeName_local hk hn (fun h' hn' hs => h _ ?_) (by rw [r.f.ok.kind]; rfl)
    have ho := r.f.own env.locals (.inl rfl)
    refine ⟨r.g.sameBut ho.1 ho.2 hs _, ⟨r.f.ok, ⟨_, hn', fun y e hy hl => ?_⟩, fun y e hy => ?_, fun y e hy hl => ?_, fun y k hc hlt => ?_, r.f.own⟩⟩
    · simp only [Sig.put, get_put] at hy
      by_cases q : y = x
      · rw [if_pos q] at hy; cases hy; exact ⟨v, if_pos q, hv⟩
      · rw [if_neg q] at hy; rw [if_neg q]; exact hm y e hy hl
    · simp only [Sig.put, get_put] at hy
      by_cases q : y = x
      · subst q; exact ⟨hp, .inl hk⟩
      · rw [if_neg q] at hy; exact r.f.kinds y e hy
    · simp only [Sig.put, get_put] at hy
      by_cases q : y = x
      · subst q; exact (hl hk).elim
      · rw [if_neg q] at hy
        obtain ⟨k, u, e1, e2, e3⟩ := r.f.cellv y e hy hl
        exact ⟨k, u, e1, e2.sameBut hs (cell_ne_ns e2 hn), e3⟩
    · obtain ⟨u, e2⟩ := r.f.has y k hc hlt
      exact ⟨u, e2.sameBut hs (cell_ne_ns e2 hn)⟩
  · obtain ⟨v₀, hv₀⟩ := r.f.has x k hc hlt
    refine wpAny_storeName_cell r.f.ok.kind hk hc hv₀ fun h' hn' hs => h _ ?_
    have hown : Own env k := .inr ⟨hlt, x, hc⟩
    have ho := r.f.own k hown
    refine ⟨r.g.sameBut ho.1 ho.2 hs _, ⟨r.f.ok, ⟨mv, hn.sameBut hs (Ne.symm (cell_ne_ns hv₀ hn)), fun y e hy hl => ?_⟩, fun y e hy => ?_, fun y e hy hl => ?_, fun y k' hc' hlt' => ?_, r.f.own⟩⟩
    · simp only [Sig.put, get_put] at hy
      by_cases q : y = x
      · subst q; rw [hk] at hl; cases hl
      · rw [if_neg q] at hy; exact hm y e hy hl
    · simp only [Sig.put, get_put] at hy
      by_cases q : y = x
      · subst q; exact ⟨hp, .inr (.inl hk)⟩
      · rw [if_neg q] at hy; exact r.f.kinds y e hy
    · simp only [Sig.put, get_put] at hy
      by_cases q : y = x
      · subst q; rw [if_pos rfl] at hy; cases hy; exact ⟨k, v, hc, hn', hv, .inl hlt⟩
      · rw [if_neg q] at hy
        obtain ⟨k', u, e1, e2, e3, e4⟩ := r.f.cellv y e hy hl
        refine ⟨k', u, e1, e2.sameBut hs ?_, e3, e4⟩
        rintro rfl
        rcases e4 with e4 | ⟨p, e4⟩
        · exact q (r.f.ok.apart y x k' e1 hc e4)
        · rw [ho.1] at e4; cases e4
    · by_cases q : k' = k
      · subst q; exact ⟨_, hn'⟩
      · obtain ⟨u, e2⟩ := r.f.has y k' hc' hlt'
        exact ⟨u, e2.sameBut hs q⟩

/-- less is known: names and lists may be forgotten -/
noncomputable def Sle (σ σ' : Sig) : Prop := (∀ x d, get x σ'.m = some d → get x σ.m = some d) ∧ ∀ a x, σ'.L a = some x → σ.L a = some x
theorem Sle.refl (σ : Sig) : Sle σ σ := ⟨fun _ _ h => h, fun _ _ h => h⟩
theorem Rel.le {σ' : Sig} (r : Rel c env Z σ s) (h : Sle σ σ') : Rel c env Z σ' s :=
  ⟨⟨r.g.rest, r.g.base, r.g.zone, fun a x e => r.g.cel a x (h.2 a x e)⟩,
    ⟨r.f.ok, let ⟨mv, a, b⟩ := r.f.ns; ⟨mv, a, fun x d e => b x d (h.1 x d e)⟩, fun x d e => r.f.kinds x d (h.1 x d e), fun x d e => r.f.cellv x d (h.1 x d e), r.f.has,
      fun a o => ⟨(r.f.own a o).1, by
        cases q : σ'.L a with
        | none => rfl
        | some x => have := h.2 a x q; rw [(r.f.own a o).2] at this; cases this⟩⟩⟩
theorem AW.weaken {t : Sem α} {R : Zone → β → α → Prop} {Q : β → Sig → Prop} {σ' : Sig} (h : AW c n env t R σ' Q) (hs : Sle σ σ') : AW c n env t R σ Q :=
  fun Z A s hr r => h Z A s hr (r.le hs)
theorem AX.weaken {b : List Stmt} {Q : F → Sig → Prop} {σ' : Sig} (h : AX c n env b σ' Q) (hs : Sle σ σ') : AX c n env b σ Q := AW.weaken h hs
theorem AE.weaken {b : Expr} {Q : D → Sig → Prop} {σ' : Sig} (h : AE c n env b σ' Q) (hs : Sle σ σ') : AE c n env b σ Q := AW.weaken h hs
theorem AT.weaken {b : Expr} {Q : Bool → Sig → Prop} {σ' : Sig} (h : AT c n env b σ' Q) (hs : Sle σ σ') : AT c n env b σ Q := AW.weaken h hs

/-! statements -/
variable {Q : F → Sig → Prop} {rest : List Stmt} {pos pos' : Pos}

theorem AX.nil (h : Q .next σ) : AX c n env [] σ Q := fun _ _ _ _ r => wpAny_execs_nil (.pure (b := F.next) r rfl h)

/-- one statement, then the rest -/
theorem AX.step {st : Stmt} (h : AX1 c n env st σ (fun f σ₁ => match f with | .next => AX c n env rest σ₁ Q | f => Q f σ₁)) : AX c n env (st :: rest) σ Q := fun Z A s hr r => by
  refine wpAny_execs_cons (wpAny_mono (h Z A s hr r) (fun f s₁ p => ?_) fun _ _ e => e)
  obtain ⟨Z₁, σ₁, b, l, r₁, e, q⟩ := p
  cases b with
  | next => cases e; exact wpAny_mono (q Z₁ A s₁ hr r₁) (fun _ _ p => p.trans l) fun _ _ e => e
  | brk => cases e; exact ⟨Z₁, σ₁, F.brk, l, r₁, rfl, q⟩
  | cont => cases e; exact ⟨Z₁, σ₁, F.cont, l, r₁, rfl, q⟩
  | ret d => obtain ⟨v, rfl, e⟩ := e; exact ⟨Z₁, σ₁, .ret d, l, r₁, ⟨v, rfl, e⟩, q⟩
theorem wp_execs_append {M : Model} {Γ : Ctx} {E : Value → Pos → Shared → Prop} (b : List Stmt) (env : Env) (Q : Flow → Pos → Shared → Prop) : ∀ (a : List Stmt) (p : Pos) (s : Shared),
    Sem.wp M Γ (execs (a ++ b) env) Q E p s = Sem.wp M Γ (execs a env) (fun f p' s' => match f with | .next => Sem.wp M Γ (execs b env) Q E p' s' | f => Q f p' s') E p s
  | [], p, s => rfl
  | st :: r, p, s => by
    rw [List.cons_append, execs_cons, execs_cons, Sem.wp_bind', Sem.wp_bind']
    congr 1
    funext f p' s'
    cases f with
    | next => exact wp_execs_append b env Q r p' s'
    | _ => rfl

theorem AX.if_ {test : Expr} {body orelse : List Stmt} (h : AT c n env test σ (fun b σ₁ => if b = true then AX c n env (body ++ rest) σ₁ Q else AX c n env (orelse ++ rest) σ₁ Q)) :
    AX c n env (.If test body orelse pos :: rest) σ Q := fun Z A s hr r Γ p hΓ => by
  rw [execs_cons, exec_If, Sem.wp_bind', Sem.wp_bind', Sem.wp_cmd_standAt, Sem.wp_bind']
  refine Sem.wp_mono _ Γ _ (fun b p₂ s₂ q => ?_) (fun _ _ _ e => e) _ _ (h Z A s hr r Γ _ hΓ)
  obtain ⟨Z₁, σ₁, b', l, r₁, rfl, q⟩ := q
  cases b with
  | true =>
    simp only [if_true] at q ⊢
    have := q Z₁ A s₂ hr r₁ Γ p₂ hΓ
    rw [wp_execs_append] at this
    refine Sem.wp_mono _ Γ _ (fun f p₃ s₃ q => ?_) (fun _ _ _ e => e) _ _ this
    cases f with
    | next => exact Sem.wp_mono _ Γ _ (fun _ _ _ q => q.trans l) (fun _ _ _ e => e) _ _ q
    | _ => exact Post.trans l q
  | false =>
    simp only [Bool.false_eq_true, if_false] at q ⊢
    have := q Z₁ A s₂ hr r₁ Γ p₂ hΓ
    rw [wp_execs_append] at this
    refine Sem.wp_mono _ Γ _ (fun f p₃ s₃ q => ?_) (fun _ _ _ e => e) _ _ this
    cases f with
    | next => exact Sem.wp_mono _ Γ _ (fun _ _ _ q => q.trans l) (fun _ _ _ e => e) _ _ q
    | _ => exact Post.trans l q
end
end Mine
end
section
open PySem PySem.W PyProof.Rows
namespace Mine

section
variable {c : Cx} {n : Nat} {env : Env} {σ : Sig} {α β : Type} {Z : Zone} {s : Shared} {A : Around} {Q : F → Sig → Prop} {rest : List Stmt} {pos pos' : Pos}

theorem AX.then_ {st : Stmt} (h : ∀ Z A s, Room n A → Rel c env Z σ s → wpc c A (exec st env) (fun f s' => ∃ Z' σ', ZLe Z Z' ∧ Rel c env Z' σ' s' ∧ f = .next ∧ AX c n env rest σ' Q) s) :
    AX c n env (st :: rest) σ Q := .step fun Z A s hr r => wpAny_mono (h Z A s hr r) (fun _ _ ⟨Z', σ', l, r', e, q⟩ => ⟨Z', σ', F.next, l, r', e, q⟩) fun _ _ e => e

theorem AX.assign {x : Str} {value : Expr} (h : AE c n env value σ (fun d σ₁ => AX c n env rest (σ₁.put x d) Q)) (hx : Sto env x := by exact ⟨rfl, .inl rfl⟩)
    (hs : swapsWith value (some (.Name x pos')) pos.line env = pure false := by rfl) : AX c n env (.Assign [.Name x pos'] value pos :: rest) σ Q :=
  .then_ fun Z A s hr r => wpAny_Assign_Name (wpAny_mono (h Z A s hr r) (fun _ _ hpz => hpz.elim fun Z₁ _ _ l r₁ e q => store_var r₁ hx e fun _ r' => ⟨Z₁, _, l, r', rfl, q⟩) fun _ _ e => e) hs

theorem AX.aug {x : Str} {op : Operator} {value : Expr} {d₀ : D} (hx' : get x σ.m = some d₀)
    (h : AE c n env value σ (fun d σ₁ => AO c n env (inplaceOp op) Rep d₀ d σ₁ (fun d' σ₂ => AX c n env rest (σ₂.put x d') Q))) (hx : Sto env x := by exact ⟨rfl, .inl rfl⟩) :
    AX c n env (.AugAssign (.Name x pos') op value pos :: rest) σ Q :=
  .then_ fun Z A s hr r => wpAny_AugAssign_Name (load_var r hx' fun v₀ e₀ => wpAny_mono (h Z A s hr r) (fun v s₁ hpz => hpz.elim fun Z₁ _ _ l r₁ e q =>
    wpAny_mono (q Z₁ A s₁ v₀ v hr r₁ (e₀.mono l) e) (fun _ _ hpz => hpz.elim fun Z₂ _ _ l₂ r₂ e₂ q₂ => store_var r₂ hx e₂ fun _ r' => ⟨Z₂, _, l.trans l₂, r', rfl, q₂⟩) fun _ _ e => e) fun _ _ e => e)

theorem AX.ret {e : Expr} (h : AE c n env e σ (fun d σ₁ => Q (.ret d) σ₁)) : AX c n env (.Return (some e) pos :: rest) σ Q :=
  .step fun Z A s hr r => wpAny_Return_some (wpAny_mono (h Z A s hr r) (fun v _ hpz => hpz.elim fun Z₁ σ₁ d l r₁ e q => ⟨Z₁, σ₁, .ret d, l, r₁, ⟨v, rfl, e⟩, q⟩) fun _ _ e => e)
theorem AX.brk (h : Q .brk σ) : AX c n env (.Break pos :: rest) σ Q := .step fun _ _ _ _ r => wpAny_Break (.pure (b := F.brk) r rfl h)
theorem AX.cont (h : Q .cont σ) : AX c n env (.Continue pos :: rest) σ Q := .step fun _ _ _ _ r => wpAny_Continue (.pure (b := F.cont) r rfl h)
theorem AX.pass (h : AX c n env rest σ Q) : AX c n env (.Pass pos :: rest) σ Q := .step fun _ _ _ _ r => wpAny_Pass (.pure (b := F.next) r rfl h)

/-- an expression for its effect; it gives None -/
theorem AX.expr {e : Expr} (h : AE c n env e σ (fun d σ₁ => d = .none ∧ AX c n env rest σ₁ Q)) (hs : swapsWith e Option.none pos.line env = pure false := by rfl) :
    AX c n env (.Expr e pos :: rest) σ Q :=
  .then_ fun Z A s hr r => by
    refine wpAny_Expr (wpAny_mono (h Z A s hr r) (fun v _ hpz => hpz.elim fun Z₁ σ₁ d l r₁ e hq1 => ?_) fun _ _ e => e) (by unfold interactive; rw [r.f.ok.kind]; rfl) hs
    obtain ⟨q₁, q⟩ := hq1
    subst q₁; simp only [Rep] at e; subst e
    exact ⟨Z₁, σ₁, l, r₁, rfl, q⟩

/-! loops -/
noncomputable def LoopQ (I : Sig → Prop) (B : Sig → Prop) (R : D → Sig → Prop) : F → Sig → Prop
  | .next, σ => I σ
  | .cont, σ => I σ
  | .brk, σ => B σ
  | .ret d, σ => R d σ
/-- a flow that leaves a loop or a branch: the rest, or the end -/
noncomputable def Then (c : Cx) (n : Nat) (env : Env) (rest : List Stmt) (Q : F → Sig → Prop) : F → Sig → Prop
  | .next, σ => AX c n env rest σ Q
  | f, σ => Q f σ

theorem AX.while_ {test : Expr} {body : List Stmt} (I : Nat → Sig → Prop) (k : Nat) (hI : I k σ)
    (step : ∀ k σ, I k σ → AT c n env test σ (fun b σ₁ => if b = true then AX c n env body σ₁ (LoopQ (fun σ₂ => ∃ k', k' < k ∧ I k' σ₂) (fun σ₂ => AX c n env rest σ₂ Q) (fun d σ₂ => Q (.ret d) σ₂)) else AX c n env rest σ₁ Q)) :
    AX c n env (.While test body [] pos :: rest) σ Q := by
  refine .step fun Z A s hr r => ?_
  refine wpAny_While (codeAny_whileLoop (fun k s => ∃ Z' σ', ZLe Z Z' ∧ Rel c env Z' σ' s ∧ I k σ') (fun k s hq1 => ?_) k ⟨Z, σ, .refl Z, r, hI⟩)
  obtain ⟨Z₁, σ₁, l₁, r₁, h₁⟩ := hq1
  refine wpAny_mono (step k σ₁ h₁ Z₁ A s hr r₁) (fun b s₂ hpz => hpz.elim fun Z₂ σ₂ b' l₂ r₂ e q => ?_) fun _ _ e => e.elim
  subst e
  cases b with
  | true =>
    simp only [if_true] at q ⊢
    refine wpAny_mono (q Z₂ A s₂ hr r₂) (fun f s₃ hpz => hpz.elim fun Z₃ σ₃ f' l₃ r₃ e q => ?_) fun _ _ e => e.elim
    have l := l₁.trans (l₂.trans l₃)
    cases f' with
    | next => cases e; obtain ⟨k', hk, q⟩ := q; exact ⟨k', hk, Z₃, σ₃, l, r₃, q⟩
    | cont => cases e; obtain ⟨k', hk, q⟩ := q; exact ⟨k', hk, Z₃, σ₃, l, r₃, q⟩
    | brk => cases e; exact ⟨Z₃, σ₃, F.next, l, r₃, rfl, q⟩
    | ret d => obtain ⟨v, rfl, e⟩ := e; exact ⟨Z₃, σ₃, F.ret d, l, r₃, ⟨v, rfl, e⟩, q⟩
  | false =>
    simp only [Bool.false_eq_true, if_false] at q ⊢
    exact wpAny_execs_nil ⟨Z₂, σ₂, F.next, l₁.trans l₂, r₂, rfl, q⟩

/-! tests -/
theorem AT.not {x : Expr} {Q : Bool → Sig → Prop} (h : AT c n env x σ (fun b σ₁ => Q (!b) σ₁)) : AT c n env (.UnaryOp .Not x pos) σ Q := fun Z A s hr r =>
  PyProof.Rows.isTrue_not (wpAny_mono (h Z A s hr r) (fun b _ hpz => hpz.elim fun Z₁ σ₁ b' l r₁ e q => ⟨Z₁, σ₁, !b', l, r₁, by rw [e], q⟩) fun _ _ e => e)
theorem AT.and {a b : Expr} {Q : Bool → Sig → Prop} (h : AT c n env a σ (fun x σ₁ => if x = true then AT c n env b σ₁ Q else Q false σ₁)) : AT c n env (.BoolOp .And [a, b] pos) σ Q := fun Z A s hr r => by
  refine PyProof.Rows.isTrue_and (wpAny_mono (h Z A s hr r) (fun b _ hpz => hpz.elim fun Z₁ σ₁ b' l r₁ e q => ?_) fun _ _ e => e)
  subst e
  cases b with
  | false => simp only [Bool.false_eq_true, if_false] at q ⊢; exact ⟨Z₁, σ₁, false, l, r₁, rfl, q⟩
  | true =>
    simp only [if_true] at q ⊢
    refine PyProof.Rows.isTrue_and (wpAny_mono (q Z₁ A _ hr r₁) (fun b _ hpz => hpz.elim fun Z₂ σ₂ b' l₂ r₂ e q => ?_) fun _ _ e => e)
    subst e
    cases b with
    | false => simp only [Bool.false_eq_true, if_false]; exact ⟨Z₂, σ₂, false, l.trans l₂, r₂, rfl, q⟩
    | true => simp only [if_true]; exact PyProof.Rows.isTrue_and_nil ⟨Z₂, σ₂, true, l.trans l₂, r₂, rfl, q⟩
theorem AT.or {a b : Expr} {Q : Bool → Sig → Prop} (h : AT c n env a σ (fun x σ₁ => if x = true then Q true σ₁ else AT c n env b σ₁ Q)) : AT c n env (.BoolOp .Or [a, b] pos) σ Q := fun Z A s hr r => by
  refine PyProof.Rows.isTrue_or (wpAny_mono (h Z A s hr r) (fun b _ hpz => hpz.elim fun Z₁ σ₁ b' l r₁ e q => ?_) fun _ _ e => e)
  subst e
  cases b with
  | true => simp only [if_true] at q ⊢; exact ⟨Z₁, σ₁, true, l, r₁, rfl, q⟩
  | false =>
    simp only [Bool.false_eq_true, if_false] at q ⊢
    refine PyProof.Rows.isTrue_or (wpAny_mono (q Z₁ A _ hr r₁) (fun b _ hpz => hpz.elim fun Z₂ σ₂ b' l₂ r₂ e q => ?_) fun _ _ e => e)
    subst e
    cases b with
    | true => simp only [if_true]; exact ⟨Z₂, σ₂, true, l.trans l₂, r₂, rfl, q⟩
    | false => simp only [Bool.false_eq_true, if_false]; exact PyProof.Rows.isTrue_or_nil ⟨Z₂, σ₂, false, l.trans l₂, r₂, rfl, q⟩
theorem AE.ife {test a b : Expr} {Q : D → Sig → Prop} (h : AT c n env test σ (fun x σ₁ => if x = true then AE c n env a σ₁ Q else AE c n env b σ₁ Q)) : AE c n env (.IfExp test a b pos) σ Q := fun Z A s hr r => by
  refine wpAny_IfExp (wpAny_mono (h Z A s hr r) (fun b _ hpz => hpz.elim fun Z₁ σ₁ b' l r₁ e q => ?_) fun _ _ e => e)
  subst e
  cases b with
  | true => simp only [if_true] at q ⊢; exact wpAny_mono (q Z₁ A _ hr r₁) (fun _ _ p => p.trans l) fun _ _ e => e
  | false => simp only [Bool.false_eq_true, if_false] at q ⊢; exact wpAny_mono (q Z₁ A _ hr r₁) (fun _ _ p => p.trans l) fun _ _ e => e

/-- the two ways of a test that is decided by a proposition -/
theorem ways {p : Prop} [Decidable p] {X Y : Prop} (h1 : p → X) (h2 : ¬ p → Y) : ∃ b, D.bool (decide p) = .bool b ∧ (if b = true then X else Y) := by
  refine ⟨_, rfl, ?_⟩
  by_cases h : p
  · simp only [h, decide_true, if_true]; exact h1 h
  · simp only [h, decide_false, Bool.false_eq_true, if_false]; exact h2 h
theorem waysB {b₀ : Bool} {X Y : Prop} (h1 : b₀ = true → X) (h2 : b₀ = false → Y) : ∃ b, D.bool b₀ = .bool b ∧ (if b = true then X else Y) := by
  refine ⟨_, rfl, ?_⟩
  cases b₀ with
  | true => exact h1 rfl
  | false => exact h2 rfl

/-! items -/
theorem sub_ops (slice : Expr) (o i : Value) : ∃ ops, subscripted slice false o i = operate ops (getItem o i) := by
  unfold subscripted
  split
  · exact ⟨_, rfl⟩
  · rename_i h; cases h
  · exact ⟨_, rfl⟩
theorem AE.sub {v i : Expr} {Q : D → Sig → Prop} (h : AE c n env v σ (fun d₁ σ₁ => AE c n env i σ₁ (fun d₂ σ₂ => AO c n env (subscriptTail v i) Rep d₁ d₂ σ₂ Q))) : AE c n env (.Subscript v i pos) σ Q :=
  fun _ _ _ hr r => Subscript_ (two_steps h hr r)

variable {v i : Expr} {k : Int} {Q : D → Sig → Prop}
/-- an item of a list that may change -/
theorem AO.itemL {a : Addr} {ds : List D} {d : D} (hl : σ.L a = some (.list ds)) (h0 : 0 ≤ k) (hf : k < 2 ^ 63) (hd : ds[k.toNat]? = some d) (h : Q d σ) : AO c n env (subscriptTail v i) Rep (.val (.ref a)) (.int k) σ Q :=
  fun Z A s v₁ v₂ hr r e₁ e₂ => by
    simp only [Rep] at e₁ e₂
    obtain ⟨t, rfl⟩ := e₂; subst e₁
    obtain ⟨_, o, ho, vs, m, rfl, hv⟩ := r.g.cel a _ hl
    obtain ⟨x, hx, hr⟩ := hv.get hd
    obtain ⟨ops, hs⟩ := sub_ops i (.ref a) (.int k t)
    have il : s.heap.IsList a vs.toArray := ⟨_, ho, rfl, m, rfl⟩
    exact tail_any il.typeIs slot_list_getitem.lookup (wpAny_getItem_list il h0 hf (by simpa using hx) (.pure r hr h)) hs
theorem seqIdx_nn {k : Int} {l : Nat} (h0 : 0 ≤ k) (h : k.toNat < l) : seqIndex? k l = some k.toNat := by
  unfold seqIndex?
  have : ¬ k < 0 := by (first | lia | omega)
  simp only [this, if_false]
  have h1 : (0 ≤ k && k < l) = true := by simp; (first | lia | omega)
  rw [if_pos h1]
/-- an item of a tuple -/
theorem AO.itemT {ds : List D} {d : D} (h0 : 0 ≤ k) (hf : k < 2 ^ 63) (hd : ds[k.toNat]? = some d) (h : Q d σ) : AO c n env (subscriptTail v i) Rep (.tup ds) (.int k) σ Q :=
  fun Z A s v₁ v₂ hr r e₁ e₂ => by
    simp only [Rep] at e₁ e₂
    obtain ⟨t, rfl⟩ := e₂
    obtain ⟨a, o, vs, rfl, hz, ⟨ht1, m, ht2⟩, hv⟩ := e₁
    obtain ⟨x, hx, hr⟩ := hv.get hd
    obtain ⟨ops, hs⟩ := sub_ops i (.ref a) (.int k t)
    have il : IsTup s.heap a vs.toArray := ⟨_, r.g.zone _ _ hz, ht1, m, ht2⟩
    exact tail_any il.typeIs slot_tuple_getitem.lookup (getItem_tuple il (by (first | lia | omega)) hf (seqIdx_nn h0 (by simp; exact (List.getElem?_eq_some_iff.mp hx).1)) (by simpa using hx) (.pure r hr h)) hs
/-- an item of a list that does not change -/
theorem AO.itemF {ds : List D} {d : D} (h0 : 0 ≤ k) (hf : k < 2 ^ 63) (hd : ds[k.toNat]? = some d) (h : Q d σ) : AO c n env (subscriptTail v i) Rep (.lst ds) (.int k) σ Q :=
  fun Z A s v₁ v₂ hr r e₁ e₂ => by
    simp only [Rep] at e₁ e₂
    obtain ⟨t, rfl⟩ := e₂
    obtain ⟨a, o, vs, rfl, hz, ⟨ht1, m, ht2⟩, hv⟩ := e₁
    obtain ⟨x, hx, hr⟩ := hv.get hd
    obtain ⟨ops, hs⟩ := sub_ops i (.ref a) (.int k t)
    have il : s.heap.IsList a vs.toArray := ⟨_, r.g.zone _ _ hz, ht1, m, ht2⟩
    exact tail_any il.typeIs slot_list_getitem.lookup (wpAny_getItem_list il h0 hf (by simpa using hx) (.pure r hr h)) hs
end
end Mine
end
section
open PySem PySem.W PyProof.Rows
namespace Mine
section
variable {c : Cx} {n : Nat} {env : Env} {σ : Sig} {prog : Program} {w : World} {A : Around} {E : Value → Shared → Prop} {s : Shared}

/-- pairs of ints, by the first, then by the second -/
noncomputable def ltP (i j k l : Int) : Bool := if i == k then decide (j < l) else decide (i < k)
theorem lt_pairs {a b : Addr} {i j k l : Int} {t1 t2 t3 t4 : Tok} {Q : Value → Shared → Prop} (hu : A.units + 1 < cLine)
    (ha : IsTup s.heap a #[.int i t1, .int j t2]) (hb : IsTup s.heap b #[.int k t3, .int l t4]) (h : Q (.bool (ltP i j k l)) s) :
    wpAny (model prog w) A (compareOp .Lt (.ref a) (.ref b)) Q E s := by
  show wpAny _ _ (richCompare .Lt (.ref a) (.ref b)) Q E s
  refine wpAny_richCompare_same_room (T := "tuple") ha.typeIs hb.typeIs F.slot_tuple_lt
    (wpAny_call_entry F.slot_tuple_lt ha.typeIs F.entry_tuple_lt ?_ (F.args_tuple_lt_2 _ _)) (by (first | lia | omega))
  show wpAny _ _ (isInstance (.ref b) (.type "tuple") >>= _) _ _ s
  refine wpAny_bind (wpAny_isInstance hb.typeIs isSubtype_tuple_tuple ?_)
  simp only [Bool.not_true, Bool.false_eq_true, if_false]
  refine wpAny_bind (tupleItemsOf_ ha ?_)
  refine wpAny_bind (tupleItemsOf_ hb ?_)
  refine wpAny_bind ?_
  show wpAny _ _ (forIn [(Value.int i t1, Value.int k t3), (Value.int j t2, Value.int l t4)] (Option.none, ()) _) _ _ s
  unfold ltP at h
  rw [List.forIn_cons]
  refine wpAny_bind (wpAny_bind (wpAny_eqBool_int ?_))
  cases h1 : i == k with
  | false =>
    rw [h1] at h
    simp only [Bool.not_false, if_true, Bool.false_eq_true, if_false] at h ⊢
    exact wpAny_bind (wpAny_rule (wpAny_bind (PyProof.Rows.lt_int (wpAny_bind (wpAny_pure (wpAny_pure (wpAny_pure (wpAny_pure ⟨_, rfl, by simp, h⟩))))))))
  | true =>
    rw [h1] at h
    simp only [Bool.not_true, if_true, Bool.false_eq_true, if_false] at h ⊢
    refine wpAny_pure ?_
    dsimp only
    rw [List.forIn_cons]
    refine wpAny_bind (wpAny_bind (wpAny_eqBool_int ?_))
    cases h2 : j == l with
    | false =>
      simp only [Bool.not_false, if_true]
      exact wpAny_bind (wpAny_rule (wpAny_bind (PyProof.Rows.lt_int (wpAny_bind (wpAny_pure (wpAny_pure (wpAny_pure (wpAny_pure ⟨_, rfl, by simp, h⟩))))))))
    | true =>
      simp only [Bool.not_true, Bool.false_eq_true, if_false]
      refine wpAny_pure ?_
      dsimp only
      rw [List.forIn_nil]
      refine wpAny_pure (wpAny_pure ⟨.bool false, rfl, by simp, ?_⟩)
      have : j = l := by simpa using h2
      subst this
      simpa using h
theorem AO.ltP {i j k l : Int} {Q : D → Sig → Prop} (h : Q (.bool (ltP i j k l)) σ) : AO c n env (compareOp .Lt) Rep (.tup [.int i, .int j]) (.tup [.int k, .int l]) σ Q := fun Z A s v₁ v₂ hr r e₁ e₂ => by
  simp only [Rep, RepL] at e₁ e₂
  obtain ⟨a, o, vs, rfl, hz, ⟨ht1, m, ht2⟩, _, _, rfl, ⟨t1, rfl⟩, _, _, rfl, ⟨t2, rfl⟩, rfl⟩ := e₁
  obtain ⟨b, o', vs', rfl, hz', ⟨ht1', m', ht2'⟩, _, _, rfl, ⟨t3, rfl⟩, _, _, rfl, ⟨t4, rfl⟩, rfl⟩ := e₂
  exact lt_pairs (by have := hr.2.2; (first | lia | omega)) ⟨o, r.g.zone _ _ hz, ht1, m, ht2⟩ ⟨o', r.g.zone _ _ hz', ht1', m', ht2'⟩ (.pure r rep_bool h)

/-! lists that change -/
theorem Rel.cel {Z : Zone} {a : Addr} {x₀ x : Cel} {h' : Heap} {o' : Obj} (r : Rel c env Z σ s) (hl : σ.L a = some x₀) (hs : Heap.SameBut a s.heap h') (ho : h'.get? a = some o') (hx : CelO Z o' x) (tk : Nat) :
    Rel c env Z (σ.cel a x) { s with heap := h', toks := tk } := by
  have hz := (r.g.cel a x₀ hl).1
  have own : ∀ b, Own env b → b ≠ a := fun b hb e => by subst e; rw [(r.f.own b hb).2] at hl; cases hl
  refine ⟨⟨by obtain ⟨h, t, rfl⟩ := r.g.rest; exact ⟨h', tk, rfl⟩, r.g.base, fun b o e => (hs.2 b (by rintro rfl; rw [hz] at e; cases e)).trans (r.g.zone b o e), fun b y e => ?_⟩,
    ⟨r.f.ok, let ⟨mv, p, q⟩ := r.f.ns; ⟨mv, p.sameBut hs (own _ (.inl rfl)), q⟩, r.f.kinds, fun y d e k => ?_, fun y k hc hlt => ?_, fun b hb => ⟨(r.f.own b hb).1, ?_⟩⟩⟩
  · simp only [Sig.cel, setL] at e
    by_cases q : b = a
    · subst q; rw [if_pos rfl] at e; cases e; exact ⟨hz, o', ho, hx⟩
    · rw [if_neg q] at e
      obtain ⟨z, o, e1, e2⟩ := r.g.cel b y e
      exact ⟨z, o, (hs.2 b q).trans e1, e2⟩
  · obtain ⟨q, v, e1, e2, e3, e4⟩ := r.f.cellv y d e k
    refine ⟨q, v, e1, e2.sameBut hs ?_, e3, e4⟩
    rcases e4 with e4 | ⟨p, e4⟩
    · exact own _ (.inr ⟨e4, y, e1⟩)
    · rintro rfl; rw [hz] at e4; cases e4
  · obtain ⟨v, e2⟩ := r.f.has y k hc hlt
    exact ⟨v, e2.sameBut hs (own _ (.inr ⟨hlt, y, hc⟩))⟩
  · simp only [Sig.cel, setL]; rw [if_neg (own b hb)]; exact (r.f.own b hb).2

variable {Q : F → Sig → Prop} {rest : List Stmt} {pos pos' : Pos}
theorem AX.setitem {o i value : Expr} (h : AE c n env value σ (fun d σ₁ => AE c n env o σ₁ (fun d₁ σ₂ => AE c n env i σ₂ (fun d₂ σ₃ =>
      ∃ a ds k, d₁ = .val (.ref a) ∧ d₂ = .int k ∧ σ₃.L a = some (.list ds) ∧ 0 ≤ k ∧ k < 2 ^ 63 ∧ k < ds.length ∧ AX c n env rest (σ₃.cel a (.list (ds.set k.toNat d))) Q))))
    (hs : swapsWith value (some (.Subscript o i pos')) pos.line env = pure false := by rfl) : AX c n env (.Assign [.Subscript o i pos'] value pos :: rest) σ Q :=
  .then_ fun Z A s hr r => by
    refine wpAny_Assign_Subscript (wpAny_mono (h Z A s hr r) (fun v s₁ hpz => hpz.elim fun Z₁ σ₁ d l₁ r₁ e₁ h₁ => wpAny_mono (h₁ Z₁ A s₁ hr r₁) (fun v₁ s₂ hpz => hpz.elim fun Z₂ σ₂ d₁ l₂ r₂ e₂ h₂ => wpAny_mono (h₂ Z₂ A s₂ hr r₂)
      (fun v₂ s₃ hpz => hpz.elim fun Z₃ σ₃ d₂ l₃ r₃ e₃ ⟨a, ds, k, q1, q2, q3, q4, q5, q6, q⟩ => ?_) fun _ _ e => e) fun _ _ e => e) fun _ _ e => e) hs
    subst q1 q2
    simp only [Rep] at e₂ e₃
    obtain ⟨t, rfl⟩ := e₃; subst e₂
    obtain ⟨hz, o, ho, vs, m, rfl, hv⟩ := r₃.g.cel a _ q3
    refine ki_setAt (n := m) (items := vs.toArray) ho q4 q5 (by have := hv.length; simp; (first | lia | omega)) ⟨Z₃, _, l₁.trans (l₂.trans l₃), r₃.cel q3 (Heap.SameBut.update ..) (Heap.get?_update_self _ ho rfl) (x := .list (ds.set k.toNat d)) ?_ _, rfl, q⟩
    refine ⟨vs.set k.toNat v, m, ?_, hv.set ((e₁.mono l₂).mono l₃)⟩
    simp [Obj.mapSeq]

/-! calls of the text's own functions -/
open Classical in
theorem frame_call {Z : Zone} {f : Value} {ds : List D} {kw : List (Str × D)} {vs us : List Value} {Q : D → Sig → Prop} (hr : Room n A) (r : Rel c env Z σ s) (hv : RepL Z ds vs) (hu : RepL Z (kw.map (·.2)) us)
    (h : AC c n f ds kw σ.L (fun d L' => Q d ⟨σ.m, L'⟩)) : wpc c A (call f vs ((kw.map (·.1)).zip us)) (Post c env Z Rep Q) s := by
  have some_of : ∀ a, Own env a → ∃ o, s.heap.get? a = some o := by
    rintro a (rfl | ⟨hlt, x, hx⟩)
    · obtain ⟨mv, ⟨o, es, ep, e1, e2, _⟩, _⟩ := r.f.ns
      exact ⟨o, e1⟩
    · obtain ⟨v₀, o, e2, e3⟩ := r.f.has x a hx hlt
      exact ⟨o, e2⟩
  let Zc : Zone := fun a => if Own env a then (s.heap.get? a).map fun o => (false, o) else Z a
  have notOwn : ∀ a p, Z a = some p → ¬ Own env a := fun a o e q => by rw [(r.f.own a q).1] at e; cases e
  have lc : ZLe Z Zc := fun a o e => by show (if Own env a then _ else _) = _; rw [if_neg (notOwn a o e)]; exact e
  have rc : RelG c Zc σ.L s := ⟨r.g.rest, fun a o e => lc a _ (r.g.base a o e), fun a o e => by
      by_cases q : Own env a
      · simp only [Zc, if_pos q] at e
        cases h' : s.heap.get? a with
        | none => rw [h'] at e; cases e
        | some o' => rw [h'] at e; cases e; rfl
      · simp only [Zc, if_neg q] at e; exact r.g.zone a o e,
    fun a x e => by
      obtain ⟨z, o, e1, e2⟩ := r.g.cel a x e
      have q : ¬ Own env a := fun q => by rw [(r.f.own a q).2] at e; cases e
      exact ⟨by simp only [Zc, if_neg q]; exact z, o, e1, e2.gen fun a o e => lc a _ e⟩⟩
  refine wpAny_mono (h Zc A s vs us hr rc (hv.mono lc) (hu.mono lc)) (fun v s' hq1 => ?_) fun _ _ e => e
  obtain ⟨Z₂, L', d, l₂, r₂, e, q⟩ := hq1
  let Z' : Zone := fun a => if Own env a then Option.none else Z₂ a
  have same : ∀ a, Own env a → ∀ o, s.heap.get? a = some o → Z₂ a = some (false, o) := fun a q o e => l₂ a _ (by simp only [Zc, if_pos q, e]; rfl)
  have down : ∀ a o, Z₂ a = some (true, o) → Z' a = some (true, o) := fun a o e => by
    by_cases q : Own env a
    · obtain ⟨o', e1⟩ := some_of a q
      rw [same a q o' e1] at e; cases e
    · simp only [Z', if_neg q]; exact e
  have l' : ZLe Z Z' := fun a o e => by simp only [Z', if_neg (notOwn a o e)]; exact l₂ a o (lc a o e)
  have keep : ∀ a, Own env a → ∀ o, s.heap.get? a = some o → s'.heap.get? a = some o := fun a q o e => r₂.zone a _ (same a q o e)
  refine ⟨Z', ⟨σ.m, L'⟩, d, l', ⟨⟨r₂.rest, fun a o e => l' a _ (r.g.base a o e), fun a o e => ?_, fun a x e => ?_⟩, ⟨r.f.ok, ?_, r.f.kinds, fun x d e k => ?_, fun x k hc hlt => ?_, fun a q => ⟨?_, ?_⟩⟩⟩, e.gen down, q⟩
  · by_cases q : Own env a
    · simp only [Z', if_pos q] at e; cases e
    · simp only [Z', if_neg q] at e; exact r₂.zone a o e
  · obtain ⟨z, o, e1, e2⟩ := r₂.cel a x e
    refine ⟨?_, o, e1, e2.gen down⟩
    simp only [Z']; split <;> first | rfl | exact z
  · obtain ⟨mv, p, q⟩ := r.f.ns
    exact ⟨mv, p.at' (keep _ (.inl rfl)), fun x d e k => let ⟨v, a, b⟩ := q x d e k; ⟨v, a, b.mono l'⟩⟩
  · obtain ⟨q, v, e1, ⟨o, e2, e2'⟩, e3, e4⟩ := r.f.cellv x d e k
    refine ⟨q, v, e1, ⟨o, ?_, e2'⟩, e3.mono l', ?_⟩
    · rcases e4 with e4 | ⟨p, e4⟩
      · exact keep _ (.inr ⟨e4, x, e1⟩) o e2
      · have h1 := r.g.zone _ _ e4
        rw [e2] at h1; cases h1
        exact r₂.zone _ _ (l₂ _ _ (lc _ _ e4))
    · exact e4.imp id fun ⟨p, e4⟩ => ⟨p, l' _ _ e4⟩
  · obtain ⟨v, ⟨o, e2, e2'⟩⟩ := r.f.has x k hc hlt
    exact ⟨v, ⟨o, keep _ (.inr ⟨hlt, x, hc⟩) o e2, e2'⟩⟩
  · simp only [Z', if_pos q]
  · cases h' : L' a with
    | none => exact h'
    | some x =>
      obtain ⟨o, e1⟩ := some_of a q
      have := (r₂.cel a x h').1
      rw [same a q o e1] at this; cases this

/-! arguments -/
noncomputable def AA (c : Cx) (n : Nat) (env : Env) (pos : Pos) (args : List Expr) (σ : Sig) (Q : List D → Sig → Prop) : Prop := AW c n env (spliced (backTo pos (starEach args env))) RepL σ Q
theorem AA.nil {Q : List D → Sig → Prop} (h : Q [] σ) : AA c n env pos [] σ Q := fun _ _ _ _ r => args_nil (.pure r RepL.nil h)
theorem AA.cons {e : Expr} {es : List Expr} {Q : List D → Sig → Prop} (h : AE c n env e σ (fun d σ₁ => AA c n env pos es σ₁ (fun ds σ₂ => Q (d :: ds) σ₂)))
    (he : starEach (e :: es) env = (false, eval e env) :: starEach es env := by rfl) : AA c n env pos (e :: es) σ Q := fun Z A s hr r =>
  args_cons (wpAny_mono (h Z A s hr r) (fun _ s₁ hpz => hpz.elim fun Z₁ _ _ l₁ r₁ e₁ h₁ => wpAny_mono (h₁ Z₁ A s₁ hr r₁) (fun _ _ hpz => hpz.elim fun Z₂ σ₂ ds l₂ r₂ e₂ h₂ =>
    ⟨Z₂, σ₂, _, l₁.trans l₂, r₂, RepL.cons (e₁.mono l₂) e₂, h₂⟩) fun _ _ e => e) fun _ _ e => e) he

noncomputable def IsFn (c : Cx) (a : Addr) : Prop := ∃ o fd, c.base.get? a = some o ∧ o.data = .func fd
/-- a call of a function by positions -/
theorem AE.callFn {f : Expr} {e : Expr} {es : List Expr} {Q : D → Sig → Prop} (h : AE c n env f σ (fun d σ₁ => ∃ a, d = .val (.ref a) ∧ IsFn c a ∧ AA c n env pos (e :: es) σ₁ (fun ds σ₂ => AC c n (.ref a) ds [] σ₂.L (fun d L' => Q d ⟨σ₂.m, L'⟩))))
    (he : eval (.Call f (e :: es) [] pos) env = (do callWith pos (← eval f env) [] (backTo pos (starEach (e :: es) env)) (backToKw pos (keywordEach [] env))) := by rfl)
    (he' : starEach (e :: es) env = (false, eval e env) :: starEach es env := by rfl) : AE c n env (.Call f (e :: es) [] pos) σ Q := fun Z A s hr r => by
  refine Call_ (wpAny_mono (h Z A s hr r) (fun v s₁ hpz => hpz.elim fun Z₁ σ₁ d l₁ r₁ e₁ hq1 => ?_) fun _ _ e => e) he
  obtain ⟨a, q1, ⟨o, fd, q2, q3⟩, h₁⟩ := hq1
  subst q1; simp only [Rep] at e₁; subst e₁
  refine callWith_def (o := o) q3 (wpAny_mono (h₁ Z₁ A s₁ hr r₁) (fun vs s₂ hpz => hpz.elim fun Z₂ σ₂ ds l₂ r₂ e₂ h₂ => ⟨r₂.g.zone _ _ (r₂.g.base _ _ q2), ?_⟩) fun _ _ e => e) he'
  exact wpAny_mono (frame_call (kw := []) (us := []) hr r₂ e₂ RepL.nil h₂) (fun _ _ p => p.trans (l₁.trans l₂)) fun _ _ e => e

/-! the body of a function -/
structure FnOk (c : Cx) (a : Addr) (fd : FuncData) (body : List Stmt) : Prop where
  obj : ∃ o, c.base.get? a = some o ∧ o.data = .func fd
  code : c.base.CodeRec fd.code fd.qualname
  body : fd.body = .stmts body
  closure : fd.closure = []
  co : fd.scope.isCoroutine = false
  gen : fd.scope.isGenerator = false
  kind : fd.scope.kind = .function
  globals : fd.globals = mainGlobals
  builtins : fd.builtins = builtinsNs
  cells : ∀ x, fd.scope.names.lookup x = some .cell → ∀ k, ((cellsFrom k fd.scope.names []).lookup x).isSome = true
  lim : c.base.NoLimit
theorem FnOk.isFn {a : Addr} {fd : FuncData} {body : List Stmt} (h : FnOk c a fd body) : IsFn c a := let ⟨o, e1, e2⟩ := h.obj; ⟨o, fd, e1, e2⟩

theorem bindL_miss {kindOf : Str → Option NameKind} {x : Str} : ∀ (names : List Str) (vs : List Value) (m : Str → Option Value), x ∉ names → bindL kindOf (names.zip vs) m x = m x
  | [], _, _, _ => by simp [bindL]
  | _ :: _, [], _, _ => by simp [bindL]
  | y :: names, v :: vs, m, hx => by
    simp only [List.mem_cons, not_or] at hx
    rw [List.zip_cons_cons, bindL, bindL_miss names vs _ hx.2]
    split
    · exact if_neg hx.1
    · rfl
theorem bindC_miss {kindOf : Str → Option NameKind} {x : Str} : ∀ (names : List Str) (vs : List Value) (m : Str → Option Value), x ∉ names → bindC kindOf (names.zip vs) m x = m x
  | [], _, _, _ => by simp [bindC]
  | _ :: _, [], _, _ => by simp [bindC]
  | y :: names, v :: vs, m, hx => by
    simp only [List.mem_cons, not_or] at hx
    rw [List.zip_cons_cons, bindC, bindC_miss names vs _ hx.2]
    split
    · rfl
    · exact if_neg hx.1
theorem get_zip {Z : Zone} {kindOf : Str → Option NameKind} {x : Str} {d : D} : ∀ (names : List Str) (ds : List D) (vs : List Value) (m cm : Str → Option Value), names.Nodup → RepL Z ds vs → get x (names.zip ds) = some d →
    ∃ v, Rep Z d v ∧ x ∈ names ∧ (kindOf x = some .local → bindL kindOf (names.zip vs) m x = some v) ∧ (kindOf x = some .cell → bindC kindOf (names.zip vs) cm x = some v)
  | [], _, _, _, _, _, _, h => by simp [get] at h
  | _ :: _, [], _, _, _, _, _, h => by simp [get] at h
  | y :: names, d' :: ds, vs, m, cm, hn, hr, h => by
    simp only [RepL] at hr
    obtain ⟨v, r, rfl, h1, h2⟩ := hr
    obtain ⟨hn1, hn2⟩ := List.nodup_cons.mp hn
    rw [List.zip_cons_cons, get] at h
    by_cases q : x = y
    · subst q
      rw [if_pos rfl] at h; cases h
      refine ⟨v, h1, List.mem_cons_self, fun k => ?_, fun k => ?_⟩
      · rw [List.zip_cons_cons, bindL, bindL_miss _ _ _ hn1, if_pos k, if_pos rfl]
      · rw [List.zip_cons_cons, bindC, bindC_miss _ _ _ hn1, if_neg (by rw [k]; intro q; cases q), if_pos rfl]
    · rw [if_neg q] at h
      obtain ⟨v', e1, e2, e3, e4⟩ := get_zip names ds r _ _ hn2 h2 h
      refine ⟨v', e1, List.mem_cons_of_mem _ e2, fun k => ?_, fun k => ?_⟩
      · rw [List.zip_cons_cons, bindL]; exact e3 k
      · rw [List.zip_cons_cons, bindC]; exact e4 k

@[reducible] noncomputable def withScope (sc : Scope) (e : Env) : Env := { e with scope := sc }
/-- the contract of a function by its body: the arguments are bound to names -/
theorem AC.body {a : Addr} {fd : FuncData} {body : List Stmt} {ds ds' : List D} {kw : List (Str × D)} {names : List Str} {L : Addr → Option Cel} {Q : D → (Addr → Option Cel) → Prop} (ok : FnOk c a fd body) (hn : names.Nodup)
    (hk : names.all (fun x => plainName x && (fd.scope.names.lookup x == some .local || fd.scope.names.lookup x == some .cell)) = true)
    (hb : ∀ Z A s vs us, Room n A → RelG c Z L s → RepL Z ds vs → RepL Z (kw.map (·.2)) us →
      wpc c A (bindArgs fd ⟨vs, (kw.map (·.1)).zip us⟩) (fun binds s' => ∃ vs', binds = names.zip vs' ∧ RepL Z ds' vs' ∧ s' = s) s)
    (h : ∀ e : Env, (∀ x, fd.scope.names.lookup x = some .cell → ∃ k, e.cells.lookup x = some k ∧ e.locals < k) → AX c n (withScope fd.scope e) body ⟨names.zip ds', L⟩ (fun f σ' => Q f.val σ'.L)) : AC c (n + 1) (.ref a) ds kw L Q := fun Z A s vs us hr r hv hu => by
  obtain ⟨o, ho, hd⟩ := ok.obj
  have up : ∀ a o, c.base.get? a = some o → s.heap.get? a = some o := fun a o e => r.zone a _ (r.base a o e)
  refine wpAny_call (codeAny_call_function (by have := hr.2.1; (first | lia | omega)) (up _ _ ho) hd ok.co ok.gen ok.body ?_ ?_)
  · obtain ⟨c', o', vs, t, e1, e2, e3⟩ := ok.code
    exact ⟨c', o', vs, t, e1, up _ _ e2, e3⟩
  have hr1 : Room n A.in1 := ⟨hr.1, by have := hr.2.1; show A.depth + n < _; (first | lia | omega), by have := hr.2.2; show A.units + 1 + 8 * n + 64 < _; (first | lia | omega)⟩
  refine wpAny_mono (hb Z A.in1 s vs us hr1 r hv hu) (fun binds s₁ hq1 => ?_) fun _ _ e => e.elim
  obtain ⟨vs', e1, e2, e3⟩ := hq1
  subst e1 e3
  rw [ok.closure]
  have hkk : ∀ x ∈ names, plainName x = true ∧ (fd.scope.names.lookup x = some .local ∨ fd.scope.names.lookup x = some .cell) := fun x hx => by
    have := List.all_eq_true.mp hk x hx
    simpa using this
  refine wpAny_newFunctionEnv_cells ok.kind (fun x hx => ?_) fun env' he s' x => ?_
  · have hm : x.1 ∈ names := by
      obtain ⟨y, v⟩ := x
      exact (List.of_mem_zip hx).1
    rcases (hkk _ hm).2 with q | q
    · exact .inl q
    · exact .inr ⟨q, ok.cells _ q _⟩
  subst he
  refine ⟨ok.lim.keeps fun b o e => x.toInCall.keep b o (up b o e), codeAny_func ?_⟩
  have fresh : ∀ b, Own (callEnvC fd s₁.heap.objs.size a) b → s₁.heap.objs.size ≤ b := by
    rintro b (rfl | ⟨_, y, hy⟩)
    · exact x.toInCall.fresh
    · exact Nat.le_of_lt (Nat.lt_of_le_of_lt x.toInCall.fresh (x.above _ _ (mem_of_lookup hy)))
  have none_of : ∀ b, s₁.heap.objs.size ≤ b → s₁.heap.get? b = Option.none := fun b hb => by
    cases q : s₁.heap.get? b with
    | none => rfl
    | some o => exact absurd (Heap.lt_size q) (Nat.not_lt.mpr hb)
  have rel : Rel c (callEnvC fd s₁.heap.objs.size a) Z ⟨names.zip ds', L⟩ s' := by
    obtain ⟨h₁, tk, e⟩ := x.toInCall.same
    refine ⟨?_, ⟨⟨ok.kind, ok.globals, ok.builtins, fun y y' k h1 h2 _ => name_of_addr x.apart (mem_of_lookup h1) (mem_of_lookup h2)⟩, ⟨_, x.toInCall.ns, fun y d hy hl => ?_⟩, fun y d hy => ?_, fun y d hy hl => ?_, fun y k hc hlt => ⟨_, x.cell y k hc⟩, fun b hb => ⟨?_, ?_⟩⟩⟩
    · subst e; exact r.keeps x.toInCall.keep
    · obtain ⟨v, q1, _, q3, _⟩ := get_zip (kindOf := (callEnvC fd s₁.heap.objs.size a).kindOf) names ds' vs' (fun _ => Option.none) (fun _ => Option.none) hn e2 hy
      exact ⟨v, q3 hl, q1⟩
    · obtain ⟨v, q1, q2, _⟩ := get_zip (kindOf := (callEnvC fd s₁.heap.objs.size a).kindOf) names ds' vs' (fun _ => Option.none) (fun _ => Option.none) hn e2 hy
      exact ⟨(hkk y q2).1, (hkk y q2).2.elim .inl fun q => .inr (.inl q)⟩
    · obtain ⟨v, q1, q2, _, q4⟩ := get_zip (kindOf := (callEnvC fd s₁.heap.objs.size a).kindOf) names ds' vs' (fun _ => Option.none) (fun _ => Option.none) hn e2 hy
      have hcell : fd.scope.names.lookup y = some .cell := (hkk y q2).2.resolve_left hl
      obtain ⟨k, hk'⟩ := Option.isSome_iff_exists.mp (ok.cells y hcell (s₁.heap.objs.size + 1))
      exact ⟨k, v, hk', q4 hcell ▸ x.cell y k hk', q1, .inl (x.above _ _ (mem_of_lookup hk'))⟩
    · cases q : Z b with
      | none => rfl
      | some o => have := r.zone b o q; rw [none_of b (fresh b hb)] at this; cases this
    · cases q : L b with
      | none => exact q
      | some y => obtain ⟨_, o, this, _⟩ := r.cel b y q; rw [none_of b (fresh b hb)] at this; cases this
  refine wpAny_mono (h (callEnvC fd s₁.heap.objs.size a) (fun y hy => by
      obtain ⟨k, hk'⟩ := Option.isSome_iff_exists.mp (ok.cells y hy (s₁.heap.objs.size + 1))
      exact ⟨k, hk', x.above _ _ (mem_of_lookup hk')⟩) Z _ s' (hr.deeper _) rel) (fun f s₂ hpz => hpz.elim fun Z₂ σ₂ f' l₂ r₂ e q => ?_) fun _ _ e => e.elim
  show PostG c Z Rep Q _ s₂
  refine ⟨Z₂, σ₂.L, f'.val, l₂, r₂.g, ?_, q⟩
  cases f' with
  | next => cases e; simp only [F.val, Rep]
  | brk => cases e; simp only [F.val, Rep]
  | cont => cases e; simp only [F.val, Rep]
  | ret d => obtain ⟨v, rfl, e⟩ := e; exact e

/-- plain arguments by position -/
theorem AC.fn {a : Addr} {fd : FuncData} {body : List Stmt} {ds : List D} {names : List Str} {L : Addr → Option Cel} {Q : D → (Addr → Option Cel) → Prop} (ok : FnOk c a fd body) (hn : names.Nodup)
    (hk : names.all (fun x => plainName x && (fd.scope.names.lookup x == some .local || fd.scope.names.lookup x == some .cell)) = true)
    (hb : ∀ vs : List Value, vs.length = ds.length → bindArgs fd ⟨vs, []⟩ = pure (names.zip vs))
    (h : ∀ e : Env, (∀ x, fd.scope.names.lookup x = some .cell → ∃ k, e.cells.lookup x = some k ∧ e.locals < k) → AX c n (withScope fd.scope e) body ⟨names.zip ds, L⟩ (fun f σ' => Q f.val σ'.L)) : AC c (n + 1) (.ref a) ds [] L Q :=
  .body ok hn hk (fun Z A s vs us hr r hv hu => by
    simp only [List.map_nil, List.zip_nil_left]
    rw [hb vs hv.length]
    exact wpAny_pure ⟨vs, rfl, hv, rfl⟩) h
end
end Mine
end
section
open PySem PySem.W PyProof.Rows
namespace Mine

theorem ofString_inj (a b : String) : (Str.ofString a = Str.ofString b) = (a = b) := by
  refine propext ⟨fun h => ?_, fun h => by rw [h]⟩
  rw [Str.ofString_eq_toList, Str.ofString_eq_toList] at h
  have h1 : a.toList.map Char.toNat = b.toList.map Char.toNat := by simpa using h
  have h2 : ∀ (l l' : List Char), l.map Char.toNat = l'.map Char.toNat → l = l' := by
    intro l
    induction l with
    | nil => intro l' e; cases l' <;> simp_all
    | cons x r ih =>
      intro l' e
      cases l' with
      | nil => simp at e
      | cons y r' =>
        simp only [List.map_cons, List.cons.injEq] at e
        rw [ih r' e.2]
        congr 1
        exact Char.toNat_inj.mp e.1
  exact String.toList_inj.mp (h2 _ _ h1)

section
variable {c : Cx} {n : Nat} {env : Env} {σ : Sig} {Q : F → Sig → Prop} {rest : List Stmt} {x : Str} {d : D} {m m' : List (Str × D)} {L : Addr → Option Cel}
theorem AX.norm (hm : put x d m = m') (h : AX c n env rest ⟨m', L⟩ Q) : AX c n env rest (Sig.put ⟨m, L⟩ x d) Q := by
  unfold Sig.put; rw [hm]; exact h
theorem AX.app0 (h : AX c n env rest σ Q) : AX c n env ([] ++ rest) σ Q := h
theorem AX.app1 {st : Stmt} {b : List Stmt} (h : AX c n env (st :: (b ++ rest)) σ Q) : AX c n env ((st :: b) ++ rest) σ Q := h
end
end Mine
end
section
open PySem PySem.W PyProof.Rows
namespace Mine

/-- a relation that reads through data alone -/
noncomputable def ByData {α β : Type} (R : Zone → β → α → Prop) : Prop := ∀ Z Z' b a, (∀ x o, Z x = some (true, o) → Z' x = some (true, o)) → R Z b a → R Z' b a
theorem byData_rep : ByData Rep := fun _ _ _ _ h x => x.gen h
theorem byData_repL : ByData RepL := fun _ _ _ _ h x => x.gen h
theorem byData_bool : ByData (fun (_ : Zone) (b a : Bool) => a = b) := fun _ _ _ _ _ x => x
theorem byData_flow : ByData FRep := fun _ _ b _ h x => by
  cases b with
  | ret d => obtain ⟨v, e, q⟩ := x; exact ⟨v, e, q.gen h⟩
  | next => exact x
  | brk => exact x
  | cont => exact x

section
variable {c : Cx} {n : Nat} {env : Env} {σ : Sig} {α β : Type} {Z : Zone} {s : Shared} {A : Around}

/-! more may be known to stay, less may -/
/-- objects of the heap that are neither the frame's own nor lists that change may be held -/
theorem Rel.hold {Z' : Zone} (r : Rel c env Z σ s) (l : ZLe Z Z') (hz : ∀ a p, Z' a = some p → Z a = some p ∨ (s.heap.get? a = some p.2 ∧ ¬ Own env a ∧ σ.L a = Option.none)) : Rel c env Z' σ s := by
  refine ⟨⟨r.g.rest, fun a o e => l a _ (r.g.base a o e), fun a p e => (hz a p e).elim (r.g.zone a p) fun q => q.1, fun a x e => ?_⟩,
    ⟨r.f.ok, let ⟨mv, p, q⟩ := r.f.ns; ⟨mv, p, fun x d e k => let ⟨v, e1, e2⟩ := q x d e k; ⟨v, e1, e2.mono l⟩⟩, r.f.kinds, fun x d e k => let ⟨q, v, e1, e2, e3, e4⟩ := r.f.cellv x d e k; ⟨q, v, e1, e2, e3.mono l, e4.imp id fun ⟨p, e4⟩ => ⟨p, l _ _ e4⟩⟩, r.f.has, fun a q => ⟨?_, (r.f.own a q).2⟩⟩⟩
  · obtain ⟨z, o, e1, e2⟩ := r.g.cel a x e
    refine ⟨?_, o, e1, e2.gen fun a o e => l a _ e⟩
    cases q : Z' a with
    | none => rfl
    | some p => rcases hz a p q with q | q
                · rw [z] at q; cases q
                · rw [q.2.2] at e; cases e
  · cases q' : Z' a with
    | none => rfl
    | some p => rcases hz a p q' with q' | q'
                · rw [(r.f.own a q).1] at q'; cases q'
                · exact (q'.2.1 q).elim

/-- what was held without being read may be let go -/
theorem Rel.drop {Z' : Zone} (r : Rel c env Z σ s) (hsub : ∀ a p, Z' a = some p → Z a = some p) (hd : ∀ a o, Z a = some (true, o) → Z' a = some (true, o)) (hf : ∀ k p v, Z k = some p → p.2.data = .cell (some v) → Z' k = some p) : Rel c env Z' σ s := by
  refine ⟨⟨r.g.rest, fun a o e => hd a _ (r.g.base a o e), fun a p e => r.g.zone a p (hsub a p e), fun a x e => ?_⟩,
    ⟨r.f.ok, let ⟨mv, p, q⟩ := r.f.ns; ⟨mv, p, fun x d e k => let ⟨v, e1, e2⟩ := q x d e k; ⟨v, e1, e2.gen hd⟩⟩, r.f.kinds, fun x d e k => let ⟨q, v, e1, ⟨o, e2, e2'⟩, e3, e4⟩ := r.f.cellv x d e k; ⟨q, v, e1, ⟨o, e2, e2'⟩, e3.gen hd, e4.imp id fun ⟨p, e4⟩ => ⟨p, hf q p v e4 (by have := r.g.zone _ _ e4; rw [e2] at this; cases this; exact e2')⟩⟩, r.f.has, fun a q => ⟨?_, (r.f.own a q).2⟩⟩⟩
  · obtain ⟨z, o, e1, e2⟩ := r.g.cel a x e
    refine ⟨?_, o, e1, e2.gen hd⟩
    cases q : Z' a with
    | none => rfl
    | some p => rw [hsub a p q] at z; cases z
  · cases q' : Z' a with
    | none => rfl
    | some p => have := hsub a p q'; rw [(r.f.own a q).1] at this; cases this

/-- a new list to be followed -/
theorem Rel.newCel {a : Addr} {x : Cel} {o : Obj} (r : Rel c env Z σ s) (hz : Z a = Option.none) (hn : ¬ Own env a) (ho : s.heap.get? a = some o) (hx : CelO Z o x) : Rel c env Z (σ.cel a x) s :=
  ⟨⟨r.g.rest, r.g.base, r.g.zone, fun b y e => by
      simp only [Sig.cel, setL] at e
      by_cases q : b = a
      · subst q; rw [if_pos rfl] at e; cases e; exact ⟨hz, o, ho, hx⟩
      · rw [if_neg q] at e; exact r.g.cel b y e⟩,
    ⟨r.f.ok, r.f.ns, r.f.kinds, r.f.cellv, r.f.has, fun b q => ⟨(r.f.own b q).1, by
      simp only [Sig.cel, setL]; rw [if_neg (by rintro rfl; exact hn q)]; exact (r.f.own b q).2⟩⟩⟩

/-- a list that is not touched -/
theorem AW.frame {t : Sem α} {R : Zone → β → α → Prop} {Q : β → Sig → Prop} (h : AW c n env t R σ Q) (hR : ByData R) {a : Addr} {x : Cel} (ha : σ.L a = Option.none) :
    AW c n env t R (σ.cel a x) (fun b σ' => ∃ σ'', σ' = σ''.cel a x ∧ σ''.L a = Option.none ∧ Q b σ'') := fun Z A s hr r => by
  have hl : (σ.cel a x).L a = some x := by simp only [Sig.cel, setL, if_true]
  obtain ⟨hz, o, ho, hx⟩ := r.g.cel a x hl
  let Z₁ : Zone := fun b => if b = a then some (false, o) else Z b
  have l₁ : ZLe Z Z₁ := fun b p e => by simp only [Z₁]; rw [if_neg (by rintro rfl; rw [hz] at e; cases e)]; exact e
  have notOwn : ¬ Own env a := fun q => by rw [(r.f.own a q).2] at hl; cases hl
  have r₀ : Rel c env Z σ s := r.le ⟨fun _ _ e => e, fun b y e => by
      simp only [Sig.cel, setL]; rw [if_neg (by rintro rfl; rw [ha] at e; cases e)]; exact e⟩
  have r₁ : Rel c env Z₁ σ s := r₀.hold l₁ fun b p e => by
    simp only [Z₁] at e
    by_cases q : b = a
    · subst q; rw [if_pos rfl] at e; cases e; exact .inr ⟨ho, notOwn, ha⟩
    · rw [if_neg q] at e; exact .inl e
  refine wpAny_mono (h Z₁ A s hr r₁) (fun v s' hpz => hpz.elim fun Z₂ σ₂ b l₂ r₂ e q => ?_) fun _ _ e => e
  have ha₂ : Z₂ a = some (false, o) := l₂ a _ (by simp only [Z₁, if_true])
  let Z₃ : Zone := fun b => if b = a then Option.none else Z₂ b
  have hd : ∀ b o', Z₂ b = some (true, o') → Z₃ b = some (true, o') := fun b o' e => by
    simp only [Z₃]; rw [if_neg (by rintro rfl; rw [ha₂] at e; cases e)]; exact e
  have l₃ : ZLe Z Z₃ := fun b p e => by
    simp only [Z₃]; rw [if_neg (by rintro rfl; rw [hz] at e; cases e)]; exact l₂ b p (l₁ b p e)
  have hla : σ₂.L a = Option.none := by
    cases h' : σ₂.L a with
    | none => rfl
    | some y => have := (r₂.g.cel a y h').1; rw [ha₂] at this; cases this
  have notOwn₂ : ∀ b, Own env b → b ≠ a := fun b q e => notOwn (e ▸ q)
  refine ⟨Z₃, σ₂.cel a x, b, l₃, ?_, hR _ _ _ _ hd e, σ₂, rfl, hla, q⟩
  have ncell : ∀ v, o.data ≠ .cell (some v) := by
    intro v e
    cases x with
    | list ds => obtain ⟨vs, m, rfl, _⟩ := hx; cases e
    | iter ds => obtain ⟨l, ol, vs, i, _, _, _, e2, _⟩ := hx; rw [e2] at e; cases e
  have r₃ : Rel c env Z₃ σ₂ s' := r₂.drop (fun b p e => by simp only [Z₃] at e; split at e <;> first | cases e | exact e) hd fun k p v e e' => by
    simp only [Z₃]; rw [if_neg ?_]; exact e
    rintro rfl
    rw [ha₂] at e; cases e
    exact ncell v e'
  exact r₃.newCel (by simp only [Z₃, if_true]) (fun q => notOwn q) (r₂.g.zone _ _ ha₂) (hx.gen fun b o' e => l₃ b _ e)
end
end Mine
end
section
open PySem PySem.W PyProof.Rows
namespace Mine

section
variable {c : Cx} {n : Nat} {env : Env} {σ : Sig} {α β : Type} {Z : Zone} {s : Shared} {A : Around} {pos : Pos}

/-! storing to a target -/
noncomputable def AS (c : Cx) (n : Nat) (env : Env) (target : Expr) (d : D) (σ : Sig) (K : Sig → Prop) : Prop :=
  ∀ Z A s v, Room n A → Rel c env Z σ s → Rep Z d v → wpc c A (assign target env v) (fun _ s' => ∃ Z' σ', ZLe Z Z' ∧ Rel c env Z' σ' s' ∧ K σ') s
theorem AS.name {x : Str} {d : D} {K : Sig → Prop} (h : K (σ.put x d)) (hx : Sto env x := by exact ⟨rfl, .inl rfl⟩) : AS c n env (.Name x pos) d σ K :=
  fun Z _ _ _ _ r e => wpAny_assign_Name (store_var r hx e fun _ r' => ⟨Z, _, .refl Z, r', h⟩)
theorem AS.pair {x y : Str} {px py : Pos} {k : Nat} {d₁ d₂ : D} {K : Sig → Prop} (h : K ((σ.put x d₁).put y d₂)) (hx : Sto env x := by exact ⟨rfl, .inl rfl⟩) (hy : Sto env y := by exact ⟨rfl, .inl rfl⟩) :
    AS c n env (.Tuple [.Name x px, .Name y py] k pos) (.tup [d₁, d₂]) σ K := fun Z A s v hr r e => by
  simp only [Rep, RepL] at e
  obtain ⟨a, o, vs, rfl, hz, ⟨ht1, m, ht2⟩, v₁, _, rfl, e₁, v₂, _, rfl, e₂, rfl⟩ := e
  refine wpAny_assign_Tuple hr.1 (items := #[v₁, v₂]) ⟨o, r.g.zone _ _ hz, ht1, m, ht2⟩ rfl rfl fun h' hk => ?_
  have r' : Rel c env Z σ { s with heap := h' } := r.keeps (tk := s.toks) fun b o e => hk b o (Nat.ne_of_lt (Heap.lt_size e)) e
  show wpc c A (do holding [v₂] (assign (.Name x px) env v₁); holding [] (assign (.Name y py) env v₂); pure ()) _ _
  refine wpAny_bind (wpAny_holding (wpAny_assign_Name (store_var r' hx e₁ fun s₁ r₁ => wpAny_bind (wpAny_holding (wpAny_assign_Name (store_var r₁ hy e₂ fun s₂ r₂ => wpAny_pure ⟨Z, _, .refl Z, r₂, h⟩))))))

theorem AX.assignT {elts : List Expr} {k : Nat} {tpos : Pos} {value : Expr} {rest : List Stmt} {Q : F → Sig → Prop}
    (h : AE c n env value σ (fun d σ₁ => AS c n env (.Tuple elts k tpos) d σ₁ (fun σ₂ => AX c n env rest σ₂ Q)))
    (hs : swapsWithSole [.Tuple elts k tpos] value pos.line env = pure false := by rfl) (hw : swappedStores [.Tuple elts k tpos] value env = pure Option.none := by rfl) :
    AX c n env (.Assign [.Tuple elts k tpos] value pos :: rest) σ Q :=
  .then_ fun Z A s hr r => Assign_Tuple (wpAny_mono (h Z A s hr r) (fun v s₁ hpz => hpz.elim fun Z₁ _ _ l₁ r₁ e₁ h₁ => wpAny_mono (h₁ Z₁ A s₁ v hr r₁ e₁) (fun _ _ ⟨Z₂, σ₂, l₂, r₂, h₂⟩ => ⟨Z₂, σ₂, l₁.trans l₂, r₂, rfl, h₂⟩) fun _ _ e => e) fun _ _ e => e) hs hw

/-! iterators -/
/-- v stands for d by what is held, and by new objects of the heap -/
noncomputable def RepH (Z : Zone) (h₀ h : Heap) (d : D) (v : Value) : Prop :=
  ∃ Z' : Zone, (∀ a p, Z' a = some p → Z a = some p ∨ (h.get? a = some p.2 ∧ h₀.get? a = Option.none)) ∧ Rep Z' d v
theorem RepH.old {Z : Zone} {h₀ h : Heap} {d : D} {v : Value} (x : Rep Z d v) : RepH Z h₀ h d v := ⟨Z, fun _ _ e => .inl e, x⟩

structure Stp (c : Cx) (A : Around) (target : Expr) (it : Value) (Z : Zone) (wr : List Addr) (St : List D → Heap → Prop) (Fin : Heap → Prop) : Prop where
  frame : ∀ ds h h', St ds h → (∀ b ∈ wr, ∀ o, h.get? b = some o → h'.get? b = some o) → (∀ a p, Z a = some p → h'.get? a = some p.2) → St ds h'
  alive : ∀ ds h, St ds h → ∀ b ∈ wr, ∃ o, h.get? b = some o ∧ (∀ v, o.data ≠ .cell (some v))
  item : ∀ d ds s (K : Value → Shared → Prop), St (d :: ds) s.heap → (∀ a p, Z a = some p → s.heap.get? a = some p.2) →
    (∀ v h' tk, (∀ b o, b ∉ wr → s.heap.get? b = some o → h'.get? b = some o) → St ds h' → RepH Z s.heap h' d v → K v { s with heap := h', toks := tk }) →
    wpc c A (pyNext it) (fun r s₁ => ∃ v, r = some v ∧ wpc c A (letOwnedTupleGo target it v) (fun _ s₂ => K v s₂) s₁) s
  self : ∀ ds s (K : Value → Shared → Prop), St ds s.heap → K it s → wpc c A (pyIter it) K s
  done : ∀ s (K : Shared → Prop), St [] s.heap → (∀ a p, Z a = some p → s.heap.get? a = some p.2) →
    (∀ h' tk, (∀ b o, b ∉ wr → s.heap.get? b = some o → h'.get? b = some o) → Fin h' → K { s with heap := h', toks := tk }) → wpc c A (pyNext it) (fun r s₁ => r = Option.none ∧ K s₁) s

/-- the iterator's own objects are no others' -/
noncomputable def Free (env : Env) (Z : Zone) (σ : Sig) (wr : List Addr) : Prop := ∀ b ∈ wr, Z b = Option.none ∧ σ.L b = Option.none ∧ ¬ Own env b

/-- within a turn the iterator's objects are held -/
theorem held {wr : List Addr} (r : Rel c env Z σ s) (hf : Free env Z σ wr) (ha : ∀ b ∈ wr, ∃ o, s.heap.get? b = some o ∧ (∀ v, o.data ≠ .cell (some v))) :
    ∃ Z', ZLe Z Z' ∧ Rel c env Z' σ s ∧ (∀ b ∈ wr, ∃ o, s.heap.get? b = some o ∧ Z' b = some (false, o)) ∧
      ∀ Z₂ σ₂ s₂, ZLe Z' Z₂ → Rel c env Z₂ σ₂ s₂ → ∃ Z₃, ZLe Z Z₃ ∧ (∀ a o, Z₂ a = some (true, o) → Z₃ a = some (true, o)) ∧ Rel c env Z₃ σ₂ s₂ ∧ Free env Z₃ σ₂ wr ∧ ∀ b ∈ wr, ∀ o, s.heap.get? b = some o → s₂.heap.get? b = some o := by
  let Z' : Zone := fun b => if b ∈ wr then (s.heap.get? b).map fun o => (false, o) else Z b
  have l : ZLe Z Z' := fun b p e => by simp only [Z']; rw [if_neg fun q => by rw [(hf b q).1] at e; cases e]; exact e
  have hin : ∀ b ∈ wr, ∃ o, s.heap.get? b = some o ∧ Z' b = some (false, o) := fun b q => by
    obtain ⟨o, e, _⟩ := ha b q
    exact ⟨o, e, by simp only [Z', if_pos q, e]; rfl⟩
  refine ⟨Z', l, r.hold l fun b p e => ?_, hin, fun Z₂ σ₂ s₂ l₂ r₂ => ?_⟩
  · simp only [Z'] at e
    by_cases q : b ∈ wr
    · rw [if_pos q] at e
      obtain ⟨o, e', _⟩ := ha b q
      rw [e'] at e; cases e
      exact .inr ⟨e', (hf b q).2.2, (hf b q).2.1⟩
    · rw [if_neg q] at e; exact .inl e
  · have at2 : ∀ b ∈ wr, ∃ o, s.heap.get? b = some o ∧ Z₂ b = some (false, o) := fun b q => let ⟨o, e, e'⟩ := hin b q; ⟨o, e, l₂ b _ e'⟩
    let Z₃ : Zone := fun b => if b ∈ wr then Option.none else Z₂ b
    have hd : ∀ a o, Z₂ a = some (true, o) → Z₃ a = some (true, o) := fun a o e => by
      simp only [Z₃]; rw [if_neg fun q => by obtain ⟨o', _, e'⟩ := at2 a q; rw [e'] at e; cases e]; exact e
    refine ⟨Z₃, fun b p e => ?_, hd, r₂.drop (fun b p e => by simp only [Z₃] at e; split at e <;> first | cases e | exact e) hd (fun k p v e e' => ?_), fun b q => ⟨by simp only [Z₃, if_pos q], ?_, (hf b q).2.2⟩, fun b q o e => ?_⟩
    · simp only [Z₃]; rw [if_neg fun q => by rw [(hf b q).1] at e; cases e]; exact l₂ b p (l b p e)
    · simp only [Z₃]; rw [if_neg fun q => ?_]; exact e
      obtain ⟨o, e1, e2⟩ := ha k q
      obtain ⟨o', e3, e4⟩ := at2 k q
      rw [e1] at e3; cases e3
      rw [e4] at e; cases e
      exact e2 v e'
    · cases h' : σ₂.L b with
      | none => rfl
      | some y => have := (r₂.g.cel b y h').1; obtain ⟨o, _, e⟩ := at2 b q; rw [e] at this; cases this
    · obtain ⟨o', e1, e2⟩ := at2 b q
      rw [e1] at e; cases e
      exact r₂.g.zone _ _ e2

/-- the item's own objects are held from then on -/
theorem taken {wr : List Addr} {Z₀ : Zone} {h' : Heap} {tk : Nat} {d : D} {v : Value} (r : Rel c env Z σ s) (hf : Free env Z σ wr) (ha : ∀ b ∈ wr, ∃ o, s.heap.get? b = some o) (l₀ : ZLe Z₀ Z)
    (hk : ∀ b o, b ∉ wr → s.heap.get? b = some o → h'.get? b = some o) (hv : RepH Z₀ s.heap h' d v) :
    ∃ Z', ZLe Z Z' ∧ Rel c env Z' σ { s with heap := h', toks := tk } ∧ Free env Z' σ wr ∧ Rep Z' d v := by
  have wrz : ∀ a p, Z a = some p → a ∉ wr := fun a p e q => by rw [(hf a q).1] at e; cases e
  have wrl : ∀ a x, σ.L a = some x → a ∉ wr := fun a x e q => by rw [(hf a q).2.1] at e; cases e
  have wro : ∀ a, Own env a → a ∉ wr := fun a e q => (hf a q).2.2 e
  have r' : Rel c env Z σ { s with heap := h', toks := tk } :=
    ⟨⟨by obtain ⟨h, t, rfl⟩ := r.g.rest; exact ⟨h', tk, rfl⟩, r.g.base, fun a p e => hk _ _ (wrz a p e) (r.g.zone a p e), fun a x e => let ⟨z, o, e1, e2⟩ := r.g.cel a x e; ⟨z, o, hk _ _ (wrl a x e) e1, e2⟩⟩,
      ⟨r.f.ok, let ⟨mv, p, q⟩ := r.f.ns; ⟨mv, p.at' fun o e => hk _ o (wro _ (.inl rfl)) e, q⟩, r.f.kinds, fun x d e k => let ⟨q, v, e1, ⟨o, e2, e2'⟩, e3, e4⟩ := r.f.cellv x d e k; ⟨q, v, e1, ⟨o, hk _ o (e4.elim (fun e4 => wro _ (.inr ⟨e4, x, e1⟩)) fun ⟨p, e4⟩ => wrz _ _ e4) e2, e2'⟩, e3, e4⟩,
        fun x k hc hlt => let ⟨v, ⟨o, e2, e2'⟩⟩ := r.f.has x k hc hlt; ⟨v, ⟨o, hk _ o (wro _ (.inr ⟨hlt, x, hc⟩)) e2, e2'⟩⟩, r.f.own⟩⟩
  obtain ⟨Z₁, h1, h2⟩ := hv
  have zs : ∀ a, s.heap.get? a = Option.none → Z a = Option.none := fun a e => by
    cases q : Z a with
    | none => rfl
    | some p => rw [r.g.zone a p q] at e; cases e
  let Z' : Zone := fun a => match s.heap.get? a with | some _ => Z a | Option.none => Z₁ a
  have hold : ∀ a o, s.heap.get? a = some o → Z' a = Z a := fun a o e => by simp only [Z', e]
  have hnew : ∀ a, s.heap.get? a = Option.none → Z' a = Z₁ a := fun a e => by simp only [Z', e]
  have l : ZLe Z Z' := fun a p e => by rw [hold a _ (r.g.zone a p e)]; exact e
  have own : ∀ a, Own env a → ∃ o, s.heap.get? a = some o := by
    rintro a (rfl | ⟨hlt, x, hx⟩)
    · obtain ⟨mv, ⟨o', es, ep, e1, _⟩, _⟩ := r.f.ns
      exact ⟨o', e1⟩
    · obtain ⟨v₀, o', e2, _⟩ := r.f.has x a hx hlt
      exact ⟨o', e2⟩
  refine ⟨Z', l, r'.hold l fun a p e => ?_, fun b q => ⟨?_, (hf b q).2.1, (hf b q).2.2⟩, h2.gen fun a o e => ?_⟩
  · cases q : s.heap.get? a with
    | some o => rw [hold a o q] at e; exact .inl e
    | none =>
      rw [hnew a q] at e
      refine .inr ⟨?_, fun q' => ?_, ?_⟩
      · rcases h1 a p e with q' | q'
        · have := r.g.zone a p (l₀ a p q'); rw [q] at this; cases this
        · exact q'.1
      · obtain ⟨o, e'⟩ := own a q'; rw [q] at e'; cases e'
      · cases h : σ.L a with
        | none => rfl
        | some x => obtain ⟨_, o, e', _⟩ := r.g.cel a x h; rw [q] at e'; cases e'
  · obtain ⟨o, e⟩ := ha b q
    rw [hold b o e]; exact (hf b q).1
  · rcases h1 a _ e with q | q
    · exact l a _ (l₀ a _ q)
    · rw [hnew a q.2]; exact e

/-- a loop over items -/
noncomputable def AFor (c : Cx) (n : Nat) (env : Env) (target : Expr) (body : List Stmt) (E B : Sig → Prop) (R : D → Sig → Prop) : List D → Sig → Prop
  | [], σ => E σ
  | d :: ds, σ => AS c n env target d σ (fun σ₁ => AX c n env body σ₁ (LoopQ (AFor c n env target body E B R ds) B R))

/-- what is iterated: its items, its iterator's objects -/
noncomputable def Iter (c : Cx) (A : Around) (env : Env) (target : Expr) (Z : Zone) (σ : Sig) (Fin : Heap → Prop) (it : Value) (items : List D) (s : Shared) : Prop :=
  ∃ wr St, Stp c A target it Z wr St Fin ∧ St items s.heap ∧ Free env Z σ wr
/-- evaluating an expression, then iterating over its value -/
noncomputable def AEI (c : Cx) (n : Nat) (env : Env) (target e : Expr) (Fin : Heap → Prop) (σ : Sig) (K : List D → Sig → Prop) : Prop :=
  ∀ Z A s, Room n A → Rel c env Z σ s → wpc c A (eval e env) (fun v s₁ => wpc c A (pyIter v) (fun it s' => ∃ Z' σ' items, ZLe Z Z' ∧ Rel c env Z' σ' s' ∧ Iter c A env target Z' σ' Fin it items s' ∧ K items σ') s₁) s
/-- iterating over a value -/
noncomputable def AI (c : Cx) (n : Nat) (env : Env) (target : Expr) (d : D) (σ : Sig) (K : List D → Sig → Prop) : Prop :=
  ∀ Z A s v, Room n A → Rel c env Z σ s → Rep Z d v → wpc c A (pyIter v) (fun it s' => ∃ Z' σ' items, ZLe Z Z' ∧ Rel c env Z' σ' s' ∧ Iter c A env target Z' σ' (fun _ => True) it items s' ∧ K items σ') s

theorem for_loop {target : Expr} {body orelse : List Stmt} {it : Value} {items : List D} {E B : Sig → Prop} {R : D → Sig → Prop} {QR : Result → Shared → Prop} (hr : Room n A) (r : Rel c env Z σ s) (hi : Iter c A env target Z σ (fun _ => True) it items s)
    (h : AFor c n env target body E B R items σ)
    (hE : ∀ Z' σ' s', ZLe Z Z' → Rel c env Z' σ' s' → E σ' → wpc c A (execs orelse env) (fun f s'' => QR (.ok f) s'') s') (hB : ∀ Z' σ' s', ZLe Z Z' → Rel c env Z' σ' s' → B σ' → QR (.ok .next) s')
    (hR : ∀ Z' σ' s' d v, ZLe Z Z' → Rel c env Z' σ' s' → Rep Z' d v → R d σ' → QR (.ok (.ret v)) s') :
    codeAny (model c.prog c.w) A (.forLoop target it body orelse env) QR s := by
  obtain ⟨wr, St, W, hst, hf⟩ := hi
  refine codeAny_forLoop_any (fun k s => ∃ Z' σ' ds, ds.length = k ∧ ZLe Z Z' ∧ Rel c env Z' σ' s ∧ Free env Z' σ' wr ∧ St ds s.heap ∧ AFor c n env target body E B R ds σ') ?_ items.length ⟨Z, σ, items, rfl, .refl Z, r, hf, hst, h⟩
  rintro k s ⟨Z₁, σ₁, ds, rfl, l₁, r₁, hf₁, hst₁, h₁⟩
  have zone : ∀ a p, Z a = some p → s.heap.get? a = some p.2 := fun a p e => r₁.g.zone a p (l₁ a p e)
  cases ds with
  | nil =>
    refine wpAny_mono (W.done s (fun s₁ => wpc c A (execs orelse env) (fun f s'' => QR (.ok f) s'') s₁) hst₁ zone fun h' tk hk _ => ?_) (fun o s₂ q => ?_) fun _ _ e => e.elim
    · obtain ⟨Z₂, l₂, r₂, _⟩ := taken (tk := tk) (d := .none) (v := .none) r₁ hf₁ (fun b q => let ⟨o, e, _⟩ := W.alive _ _ hst₁ b q; ⟨o, e⟩) l₁ hk (.old (by simp only [Rep]))
      exact hE Z₂ σ₁ _ (l₁.trans l₂) r₂ h₁
    · obtain ⟨rfl, q⟩ := q
      exact wpAny_mono q (fun _ _ e => e) fun _ _ e => e.elim
  | cons d ds =>
    refine wpAny_mono (W.item d ds s (fun v s₂ => ∃ Z₂, ZLe Z₁ Z₂ ∧ Rel c env Z₂ σ₁ s₂ ∧ Free env Z₂ σ₁ wr ∧ Rep Z₂ d v ∧ St ds s₂.heap) hst₁ zone fun v h' tk hk hst₂ hv => ?_) (fun o s₂ q => ?_) fun _ _ e => e.elim
    · obtain ⟨Z₂, l₂, r₂, f₂, e₂⟩ := taken (tk := tk) r₁ hf₁ (fun b q => let ⟨o, e, _⟩ := W.alive _ _ hst₁ b q; ⟨o, e⟩) l₁ hk hv
      exact ⟨Z₂, l₂, r₂, f₂, e₂, hst₂⟩
    · obtain ⟨v, rfl, q⟩ := q
      refine wpAny_mono q (fun _ s₃ hq1 => ?_) fun _ _ e => e.elim
      obtain ⟨Z₂, l₂, r₂, f₂, e₂, hst₂⟩ := hq1
      obtain ⟨Z₃, l₃, r₃, _, back⟩ := held r₂ f₂ (W.alive _ _ hst₂)
      refine wpAny_mono (h₁ Z₃ A s₃ v hr r₃ (e₂.mono l₃)) (fun _ s₄ hq1 => ?_) fun _ _ e => e.elim
      obtain ⟨Z₄, σ₄, l₄, r₄, h₄⟩ := hq1
      refine wpAny_mono (h₄ Z₄ A s₄ hr r₄) (fun f s₅ hpz => hpz.elim fun Z₅ σ₅ f' l₅ r₅ e₅ h₅ => ?_) fun _ _ e => e.elim
      obtain ⟨Z₆, l₆, d₆, r₆, f₆, k₆⟩ := back Z₅ σ₅ s₅ (l₄.trans l₅) r₅
      have hst₆ : St ds s₅.heap := W.frame _ _ _ hst₂ k₆ fun a p e => r₆.g.zone a p (l₆ a p (l₂ a p (l₁ a p e)))
      have l : ZLe Z Z₆ := l₁.trans (l₂.trans l₆)
      cases f' with
      | next => cases e₅; exact ⟨ds.length, by simp, Z₆, σ₅, ds, rfl, l, r₆, f₆, hst₆, h₅⟩
      | cont => cases e₅; exact ⟨ds.length, by simp, Z₆, σ₅, ds, rfl, l, r₆, f₆, hst₆, h₅⟩
      | brk => cases e₅; exact hB Z₆ σ₅ s₅ l r₆ h₅
      | ret d' => obtain ⟨v', rfl, e₅⟩ := e₅; exact hR Z₆ σ₅ s₅ d' v' l r₆ (e₅.gen d₆) h₅

theorem AX.for_ {target iter : Expr} {body rest : List Stmt} {Q : F → Sig → Prop}
    (h : AEI c n env target iter (fun _ => True) σ (fun items σ₂ => AFor c n env target body (fun σ₃ => AX c n env rest σ₃ Q) (fun σ₃ => AX c n env rest σ₃ Q) (fun d σ₃ => Q (.ret d) σ₃) items σ₂))
    (hs : ∀ x, foldedSetIterable iter env x = pure x := by intro _; rfl) : AX c n env (.For target iter body [] pos :: rest) σ Q := by
  refine .step fun Z A s hr r => wpAny_For (wpAny_mono (h Z A s hr r) (fun v s₁ h₁ => wpAny_mono h₁ (fun it s₂ hpz => ex34 hpz fun Z₂ σ₂ items l r₂ i₂ h₂ => ?_) fun _ _ e => e) fun _ _ e => e) hs
  exact for_loop hr r₂ i₂ h₂ (fun Z' σ' s' l' r' q => wpAny_execs_nil ⟨Z', σ', F.next, l.trans l', r', rfl, q⟩) (fun Z' σ' s' l' r' q => ⟨Z', σ', F.next, l.trans l', r', rfl, q⟩)
    fun Z' σ' s' d v l' r' e q => ⟨Z', σ', F.ret d, l.trans l', r', ⟨v, rfl, e⟩, q⟩
/-- a loop with an else -/
theorem AX.forElse {target iter : Expr} {body orelse rest : List Stmt} {Q : F → Sig → Prop}
    (h : AEI c n env target iter (fun _ => True) σ (fun items σ₂ => AFor c n env target body (fun σ₃ => AX c n env orelse σ₃ (Then c n env rest Q)) (fun σ₃ => AX c n env rest σ₃ Q) (fun d σ₃ => Q (.ret d) σ₃) items σ₂))
    (hs : ∀ x, foldedSetIterable iter env x = pure x := by intro _; rfl) : AX c n env (.For target iter body orelse pos :: rest) σ Q := by
  refine .step fun Z A s hr r => wpAny_For (wpAny_mono (h Z A s hr r) (fun v s₁ h₁ => wpAny_mono h₁ (fun it s₂ hpz => ex34 hpz fun Z₂ σ₂ items l r₂ i₂ h₂ => ?_) fun _ _ e => e) fun _ _ e => e) hs
  refine for_loop hr r₂ i₂ h₂ (fun Z' σ' s' l' r' q => wpAny_mono (q Z' A s' hr r') (fun f s'' hpz => hpz.elim fun Z₃ σ₃ f' l₃ r₃ e q => ⟨Z₃, σ₃, f', l.trans (l'.trans l₃), r₃, e, ?_⟩) fun _ _ e => e) (fun Z' σ' s' l' r' q => ⟨Z', σ', F.next, l.trans l', r', rfl, q⟩)
    fun Z' σ' s' d v l' r' e q => ⟨Z', σ', F.ret d, l.trans l', r', ⟨v, rfl, e⟩, q⟩
  cases f' <;> exact q
/-- iterating over data -/
theorem AEI.data {target e : Expr} {K : List D → Sig → Prop} (h : AE c n env e σ (fun d σ₁ => AI c n env target d σ₁ K)) : AEI c n env target e (fun _ => True) σ K := fun Z A s hr r =>
  wpAny_mono (h Z A s hr r) (fun v s₁ hpz => hpz.elim fun Z₁ _ _ l₁ r₁ e₁ h₁ => wpAny_mono (h₁ Z₁ A s₁ v hr r₁ e₁) (fun _ _ hpz => ex34 hpz fun Z₂ σ₂ items l₂ r₂ i₂ h₂ => ⟨Z₂, σ₂, items, l₁.trans l₂, r₂, i₂, h₂⟩) fun _ _ e => e) fun _ _ e => e
end
end Mine
end
section
open PySem PySem.W PyProof.Rows
namespace Mine

section
variable {c : Cx} {n : Nat} {env : Env} {σ : Sig} {α β : Type} {Z : Zone} {s : Shared} {A : Around} {pos : Pos} {target : Expr}

theorem go_other {I : Addr} {o : Obj} {T : String} {v : Value} {Q : Unit → Shared → Prop} {M : Model} {E : Value → Shared → Prop} (ho : s.heap.get? I = some o) (hc : o.cls = .type T)
    (hT : (["enumerate", "zip", "dict_itemiterator", "dict_reverseitemiterator", "odict_iterator", "itertools.zip_longest", "itertools.pairwise"].contains T) = false) (h : Q () s) :
    wpAny M A (letOwnedTupleGo target (.ref I) v) Q E s := by
  have key : wpAny M A (match (Value.ref I, v) with
      | (.ref r, .ref a) => do
        let o ← load r
        match o.cls, o.data with
        | .type n, .fields vs =>
          if ["enumerate", "zip", "dict_itemiterator", "dict_reverseitemiterator", "odict_iterator", "itertools.zip_longest", "itertools.pairwise"].contains n && vs[0]? == some (rawInt a) then
            rule "for.unpacks-the-owned-tuple"
            updateField r 0 .none
        | _, _ => pure ()
      | _ => pure ()) Q E s := by
    cases v with
    | ref a =>
      refine wpAny_bind (wpAny_load ho ?_)
      rw [hc]
      cases hd : o.data with
      | fields vs =>
        simp only [hT, Bool.false_and, Bool.false_eq_true, if_false]
        exact wpAny_pure h
      | _ => exact wpAny_pure h
    | _ => exact wpAny_pure h
  unfold letOwnedTupleGo
  split
  · exact key
  · exact key
  · exact wpAny_pure h

theorem Stp.ofWalks {I : Addr} {fp wr : List Addr} {P : Nat → Value → Prop} {St : Nat → Heap → Prop} {items : List D} (W : Walks c.prog c.w A I fp wr items.length P St) (hfp : ∀ b ∈ fp, b ∈ wr ∨ ∃ p, Z b = some p) (hwr : ∀ b ∈ wr, Z b = Option.none)
    (hP : ∀ i v d, items[i]? = some d → P i v → Rep Z d v) (alive : ∀ i h, St i h → ∀ b ∈ wr, ∃ o, h.get? b = some o ∧ ∀ v, o.data ≠ .cell (some v))
    (go : ∀ i h, St i h → ∃ o T, h.get? I = some o ∧ o.cls = .type T ∧ (["enumerate", "zip", "dict_itemiterator", "dict_reverseitemiterator", "odict_iterator", "itertools.zip_longest", "itertools.pairwise"].contains T) = false) :
    Stp c A target (.ref I) Z wr (fun ds h => ∃ i, i ≤ items.length ∧ ds = items.drop i ∧ St i h ∧ ∀ a p, Z a = some p → h.get? a = some p.2) (fun _ => True) where
  frame := fun ds h h' ⟨i, hi, e, st, z⟩ hw hz => ⟨i, hi, e, W.frame i h h' st fun b hb o ho => (hfp b hb).elim (fun q => hw b q o ho) fun ⟨p, q⟩ => by
    have := z b p q; rw [ho] at this; cases this; exact hz b p q, hz⟩
  alive := fun ds h ⟨i, _, _, st, _⟩ => alive i h st
  item := fun d ds s K ⟨i, hi, e, st, z⟩ hz hK => by
    have hlt : i < items.length := by
      rcases Nat.lt_or_ge i items.length with q | q
      · exact q
      · rw [List.drop_eq_nil_of_le q] at e; cases e
    have hd : items[i]? = some d ∧ ds = items.drop (i + 1) := by
      rw [List.drop_eq_getElem_cons hlt] at e
      cases e
      exact ⟨List.getElem?_eq_getElem hlt, rfl⟩
    refine W.item i s _ _ hlt st fun v h' tk hp st' hk => ⟨v, rfl, ?_⟩
    obtain ⟨o, T, g1, g2, g3⟩ := go (i + 1) h' st'
    refine go_other (s := { s with heap := h', toks := tk }) g1 g2 g3 (hK v h' tk hk ⟨i + 1, hlt, hd.2, st', fun a p q => hk a _ (fun hn => by rw [hwr a hn] at q; cases q) (hz a p q)⟩ (.old (hP i v d hd.1 hp)))
  self := fun ds s K ⟨i, _, _, st, _⟩ hK => W.self i s _ _ st hK
  done := fun s K ⟨i, hi, e, st, z⟩ hz hK => by
    have : i = items.length := by
      rcases Nat.lt_or_ge i items.length with q | q
      · rw [List.drop_eq_getElem_cons q] at e; cases e
      · (first | lia | omega)
    subst this
    exact W.done s _ _ st fun h' tk hk => ⟨rfl, hK h' tk hk trivial⟩

theorem Rel.fresh (r : Rel c env Z σ s) {a : Addr} (h : s.heap.get? a = Option.none) : Z a = Option.none ∧ σ.L a = Option.none ∧ ¬ Own env a := by
  refine ⟨?_, ?_, ?_⟩
  · cases q : Z a with
    | none => rfl
    | some p => rw [r.g.zone a p q] at h; cases h
  · cases q : σ.L a with
    | none => rfl
    | some x => obtain ⟨_, o, e, _⟩ := r.g.cel a x q; rw [e] at h; cases h
  · rintro (rfl | ⟨hlt, x, hx⟩)
    · obtain ⟨mv, ⟨o', es, ep, e1, _⟩, _⟩ := r.f.ns
      rw [e1] at h; cases h
    · obtain ⟨v₀, o', e2, _⟩ := r.f.has x a hx hlt
      rw [e2] at h; cases h
theorem get_size (h : Heap) : h.get? h.objs.size = Option.none := by
  cases q : h.get? h.objs.size with
  | none => rfl
  | some o => exact absurd (Heap.lt_size q) (Nat.lt_irrefl _)
theorem size_ne {h : Heap} {a : Addr} {o : Obj} (e : h.get? a = some o) : a ≠ h.objs.size := Nat.ne_of_lt (Heap.lt_size e)

theorem repL_at {ds : List D} {vs : List Value} (hr : RepL Z ds vs) {i : Nat} {v : Value} {d : D} (hd : ds[i]? = some d) (hv : vs[i]? = some v) : Rep Z d v := by
  obtain ⟨v', e, h⟩ := hr.get hd
  rw [hv] at e; cases e; exact h

/-- the items of a list that does not change -/
theorem AI.lst {ds : List D} {K : List D → Sig → Prop} (h : K ds σ) : AI c n env target (.lst ds) σ K := fun Z A s v hr r e => by
  simp only [Rep] at e
  obtain ⟨l, o, vs, rfl, hz, ⟨t1, m, t2⟩, hv⟩ := e
  have hl : s.heap.IsList l vs.toArray := ⟨o, r.g.zone _ _ hz, t1, m, t2⟩
  refine wpAny_pyIter_list hl ?_
  have hfr := r.fresh (get_size s.heap)
  have hne : l ≠ s.heap.objs.size := size_ne (r.g.zone _ _ hz)
  have hlen : vs.toArray.size = ds.length := by simp [hv.length]
  have W := Walks.list (prog := c.prog) (w := c.w) hr.1 s.heap.objs.size l hne vs.toArray
  rw [hlen] at W
  refine ⟨Z, σ, ds, .refl Z, r.keeps (tk := s.toks) fun _ _ e => Heap.get?_push_of_some _ e, ⟨[s.heap.objs.size], _, Stp.ofWalks (items := ds) W ?_ ?_ ?_ ?_ ?_, ⟨0, Nat.zero_le _, rfl, ⟨⟨_, Heap.get?_push_size _ rfl, rfl, rfl⟩, hl.push _⟩, fun a p e => Heap.get?_push_of_some _ (r.g.zone a p e)⟩, ?_⟩, h⟩
  · intro b hb
    simp at hb
    rcases hb with rfl | rfl
    · exact .inl (by simp)
    · exact .inr ⟨_, hz⟩
  · intro b hb; simp at hb; subst hb; exact hfr.1
  · intro i v d hd hp
    exact repL_at hv hd (by simpa using hp)
  · rintro i h ⟨⟨o, e1, e2, e3⟩, _⟩ b hb
    simp at hb; subst hb
    exact ⟨o, e1, fun v e => by rw [e3] at e; cases e⟩
  · rintro i h ⟨⟨o, e1, e2, e3⟩, _⟩
    exact ⟨o, _, e1, e2, by decide⟩
  · intro b hb; simp at hb; subst hb; exact hfr
/-- the items of a tuple -/
theorem AI.tup {ds : List D} {K : List D → Sig → Prop} (h : K ds σ) : AI c n env target (.tup ds) σ K := fun Z A s v hr r e => by
  simp only [Rep] at e
  obtain ⟨l, o, vs, rfl, hz, ⟨t1, m, t2⟩, hv⟩ := e
  have hl : s.heap.IsTuple l vs.toArray := ⟨o, r.g.zone _ _ hz, t1, m, t2⟩
  refine wpAny_pyIter_tuple hl ?_
  have hfr := r.fresh (get_size s.heap)
  have hne : l ≠ s.heap.objs.size := size_ne (r.g.zone _ _ hz)
  have hlen : vs.toArray.size = ds.length := by simp [hv.length]
  have W := Walks.tuple (prog := c.prog) (w := c.w) hr.1 s.heap.objs.size l hne vs.toArray
  rw [hlen] at W
  refine ⟨Z, σ, ds, .refl Z, r.keeps (tk := s.toks) fun _ _ e => Heap.get?_push_of_some _ e, ⟨[s.heap.objs.size], _, Stp.ofWalks (items := ds) W ?_ ?_ ?_ ?_ ?_, ⟨0, Nat.zero_le _, rfl, ⟨⟨_, Heap.get?_push_size _ rfl, rfl, rfl⟩, hl.push _⟩, fun a p e => Heap.get?_push_of_some _ (r.g.zone a p e)⟩, ?_⟩, h⟩
  · intro b hb
    simp at hb
    rcases hb with rfl | rfl
    · exact .inl (by simp)
    · exact .inr ⟨_, hz⟩
  · intro b hb; simp at hb; subst hb; exact hfr.1
  · intro i v d hd hp
    exact repL_at hv hd (by simpa using hp)
  · rintro i h ⟨⟨o, e1, e2, e3⟩, _⟩ b hb
    simp at hb; subst hb
    exact ⟨o, e1, fun v e => by rw [e3] at e; cases e⟩
  · rintro i h ⟨⟨o, e1, e2, e3⟩, _⟩
    exact ⟨o, _, e1, e2, by decide⟩
  · intro b hb; simp at hb; subst hb; exact hfr
noncomputable def chars (x : Str) : List D := x.cps.toList.map fun k => D.str ⟨#[k]⟩
/-- the signs of a text -/
theorem AI.str {x : Str} {K : List D → Sig → Prop} (h : K (chars x) σ) : AI c n env target (.str x) σ K := fun Z A s v hr r e => by
  simp only [Rep] at e
  obtain ⟨t, rfl⟩ := e
  have hfr := r.fresh (get_size s.heap)
  have hlen : (chars x).length = x.cps.size := by simp [chars]
  have fin : ∀ (o : Obj) (St : Nat → Heap → Prop), Walks c.prog c.w A s.heap.objs.size [s.heap.objs.size] [s.heap.objs.size] x.cps.size (SignAt x) St → St 0 (s.heap.push o) →
      (∀ i h, St i h → ∃ o T, h.get? s.heap.objs.size = some o ∧ o.cls = .type T ∧ (["enumerate", "zip", "dict_itemiterator", "dict_reverseitemiterator", "odict_iterator", "itertools.zip_longest", "itertools.pairwise"].contains T) = false ∧ ∀ v, o.data ≠ .cell (some v)) →
      ∃ Z' σ' items, ZLe Z Z' ∧ Rel c env Z' σ' { s with heap := s.heap.push o } ∧ Iter c A env target Z' σ' (fun _ => True) (.ref s.heap.objs.size) items { s with heap := s.heap.push o } ∧ K items σ' := by
    intro o St W st0 hgo
    rw [← hlen] at W
    refine ⟨Z, σ, chars x, .refl Z, r.keeps (tk := s.toks) fun _ _ e => Heap.get?_push_of_some _ e, ⟨[s.heap.objs.size], _, Stp.ofWalks (items := chars x) W ?_ ?_ ?_ ?_ ?_, ⟨0, Nat.zero_le _, rfl, st0, fun a p e => Heap.get?_push_of_some _ (r.g.zone a p e)⟩, ?_⟩, h⟩
    · intro b hb; exact .inl hb
    · intro b hb; simp at hb; subst hb; exact hfr.1
    · rintro i v d hd ⟨k, u, hk, rfl⟩
      simp only [chars, List.getElem?_map, Array.getElem?_toList, hk, Option.map_some, Option.some.injEq] at hd
      subst hd; exact rep_str
    · intro i h st b hb
      simp at hb; subst hb
      obtain ⟨o, T, e1, _, _, e4⟩ := hgo i h st
      exact ⟨o, e1, e4⟩
    · intro i h st
      obtain ⟨o, T, e1, e2, e3, _⟩ := hgo i h st
      exact ⟨o, T, e1, e2, e3⟩
    · intro b hb; simp at hb; subst hb; exact hfr
  cases ha : x.cps.all (· < 128)
  · refine wpAny_pyIter_wide ha (fin _ _ (Walks.strWide hr.1 _ x t) ⟨_, Heap.get?_push_size _ rfl, rfl, rfl⟩ ?_)
    rintro i h ⟨o, e1, e2, e3⟩
    exact ⟨o, _, e1, e2, by decide, fun v e => by rw [e3] at e; cases e⟩
  · refine wpAny_pyIter_ascii ha (fin _ _ (Walks.strAscii hr.1 _ x t) ⟨_, Heap.get?_push_size _ rfl, rfl, rfl⟩ ?_)
    rintro i h ⟨o, e1, e2, e3⟩
    exact ⟨o, _, e1, e2, by decide, fun v e => by rw [e3] at e; cases e⟩
end
end Mine
end
section
open PySem PySem.W PyProof.Rows
namespace Mine

section
variable {c : Cx} {n : Nat} {env : Env} {σ : Sig} {Z : Zone} {s : Shared} {A : Around} {pos apos : Pos}

/-- a call from within a frame -/
noncomputable def AB (c : Cx) (n : Nat) (env : Env) (f : Value) (ds : List D) (kw : List (Str × D)) (σ : Sig) (Q : D → Sig → Prop) : Prop :=
  ∀ Z A s vs us, Room n A → Rel c env Z σ s → RepL Z ds vs → RepL Z (kw.map (·.2)) us → wpc c A (call f vs ((kw.map (·.1)).zip us)) (Post c env Z Rep Q) s
theorem AB.fn {f : Value} {ds : List D} {kw : List (Str × D)} {Q : D → Sig → Prop} (h : AC c n f ds kw σ.L (fun d L' => Q d ⟨σ.m, L'⟩)) : AB c n env f ds kw σ Q :=
  fun _ _ _ _ _ hr r hv hu => frame_call hr r hv hu h
theorem AC.eq {f : Value} {ds : List D} {kw : List (Str × D)} {L L₁ : Addr → Option Cel} {v : D} {Q : D → (Addr → Option Cel) → Prop} (h : AC c n f ds kw L (fun d L' => d = v ∧ L' = L₁)) (hq : Q v L₁) : AC c n f ds kw L Q :=
  AC.mono h fun _ _ q => by rw [q.1, q.2]; exact hq
theorem AB.mono {f : Value} {ds : List D} {kw : List (Str × D)} {Q Q' : D → Sig → Prop} (h : AB c n env f ds kw σ Q) (hq : ∀ d σ', Q d σ' → Q' d σ') : AB c n env f ds kw σ Q' :=
  fun Z A s vs us hr r hv hu => wpAny_mono (h Z A s vs us hr r hv hu) (fun _ _ hpz => hpz.elim fun Z' σ' b h1 h2 h3 h4 => ⟨Z', σ', b, h1, h2, h3, hq _ _ h4⟩) fun _ _ e => e

variable {f e : Expr} {es : List Expr} {Q : D → Sig → Prop}
/-- calls by position -/
theorem AE.callB {id : String} (h : AE c n env f σ (fun d σ₁ => d = .val (.builtin id) ∧ AA c n env pos (e :: es) σ₁ (fun ds σ₂ => AB c n env (.builtin id) ds [] σ₂ Q)))
    (he : eval (.Call f (e :: es) [] pos) env = (do callWith pos (← eval f env) [] (backTo pos (starEach (e :: es) env)) (backToKw pos (keywordEach [] env))) := by rfl)
    (he' : starEach (e :: es) env = (false, eval e env) :: starEach es env := by rfl) (hp : (backTo pos (starEach es env)).any (·.1) = false := by rfl) : AE c n env (.Call f (e :: es) [] pos) σ Q := fun Z A s hr r => by
  refine Call_ (wpAny_mono (h Z A s hr r) (fun v s₁ hpz => hpz.elim fun Z₁ σ₁ d l₁ r₁ e₁ hq1 => ?_) fun _ _ e => e) he
  obtain ⟨q1, h₁⟩ := hq1
  subst q1; simp only [Rep] at e₁; subst e₁
  refine PyProof.Rows.callWith_builtin1 (wpAny_mono (h₁ Z₁ A s₁ hr r₁) (fun vs s₂ hpz => hpz.elim fun Z₂ σ₂ ds l₂ r₂ e₂ h₂ => ?_) fun _ _ e => e) he' hp
  exact wpAny_mono (h₂ Z₂ A s₂ vs [] hr r₂ e₂ RepL.nil) (fun _ _ p => p.trans (l₁.trans l₂)) fun _ _ e => e
theorem AE.callT {T : String} (h : AE c n env f σ (fun d σ₁ => d = .val (.type T) ∧ AA c n env pos (e :: es) σ₁ (fun ds σ₂ => AB c n env (.type T) ds [] σ₂ Q)))
    (he : eval (.Call f (e :: es) [] pos) env = (do callWith pos (← eval f env) [] (backTo pos (starEach (e :: es) env)) (backToKw pos (keywordEach [] env))) := by rfl)
    (he' : starEach (e :: es) env = (false, eval e env) :: starEach es env := by rfl) (hp : (backTo pos (starEach es env)).any (·.1) = false := by rfl) : AE c n env (.Call f (e :: es) [] pos) σ Q := fun Z A s hr r => by
  refine Call_ (wpAny_mono (h Z A s hr r) (fun v s₁ hpz => hpz.elim fun Z₁ σ₁ d l₁ r₁ e₁ hq1 => ?_) fun _ _ e => e) he
  obtain ⟨q1, h₁⟩ := hq1
  subst q1; simp only [Rep] at e₁; subst e₁
  refine PyProof.Rows.callWith_type1 (wpAny_mono (h₁ Z₁ A s₁ hr r₁) (fun vs s₂ hpz => hpz.elim fun Z₂ σ₂ ds l₂ r₂ e₂ h₂ => ?_) fun _ _ e => e) he' hp
  exact wpAny_mono (h₂ Z₂ A s₂ vs [] hr r₂ e₂ RepL.nil) (fun _ _ p => p.trans (l₁.trans l₂)) fun _ _ e => e

/-! lists, of either kind -/
noncomputable def LstD (σ : Sig) (d : D) (ds : List D) : Prop := d = .lst ds ∨ ∃ a, d = .val (.ref a) ∧ σ.L a = some (.list ds)
theorem LstD.at {d : D} {ds : List D} {v : Value} (h : LstD σ d ds) (r : Rel c env Z σ s) (e : Rep Z d v) : ∃ l vs, v = .ref l ∧ s.heap.IsList l vs.toArray ∧ RepL Z ds vs := by
  rcases h with rfl | ⟨a, rfl, hl⟩
  · simp only [Rep] at e
    obtain ⟨l, o, vs, rfl, hz, ⟨t1, m, t2⟩, hv⟩ := e
    exact ⟨l, vs, rfl, ⟨o, r.g.zone _ _ hz, t1, m, t2⟩, hv⟩
  · simp only [Rep] at e; subst e
    obtain ⟨_, o, ho, vs, m, rfl, hv⟩ := r.g.cel a _ hl
    exact ⟨a, vs, rfl, ⟨_, ho, rfl, m, rfl⟩, hv⟩
/-- an item of a list -/
theorem AO.item {v i : Expr} {k : Int} {d₀ d : D} {ds : List D} (hl : LstD σ d₀ ds) (h0 : 0 ≤ k) (hf : k < 2 ^ 63) (hd : ds[k.toNat]? = some d) (h : Q d σ) : AO c n env (subscriptTail v i) Rep d₀ (.int k) σ Q :=
  fun Z A s v₁ v₂ hr r e₁ e₂ => by
    simp only [Rep] at e₂
    obtain ⟨t, rfl⟩ := e₂
    obtain ⟨a, vs, rfl, il, hv⟩ := hl.at r e₁
    obtain ⟨x, hx, hr⟩ := hv.get hd
    obtain ⟨ops, hs⟩ := sub_ops i (.ref a) (.int k t)
    exact tail_any il.typeIs slot_list_getitem.lookup (wpAny_getItem_list il h0 hf (by simpa using hx) (.pure r hr h)) hs
/-- an item at a place that is told as a Nat -/
theorem AO.itemI {v i : Expr} {q : Nat} {d₀ d : D} {ds : List D} (hl : LstD σ d₀ ds) (hq : q < 1000) (hd : ds[q]? = some d) (h : Q d σ) : AO c n env (subscriptTail v i) Rep d₀ (.int (q : Int)) σ Q :=
  AO.item hl (Int.natCast_nonneg q) (by (first | lia | omega)) hd h
theorem AO.itemLI {v i : Expr} {q : Nat} {a : Addr} {d : D} {ds : List D} (hl : σ.L a = some (.list ds)) (hq : q < 1000) (hd : ds[q]? = some d) (h : Q d σ) : AO c n env (subscriptTail v i) Rep (.val (.ref a)) (.int (q : Int)) σ Q :=
  AO.itemL hl (Int.natCast_nonneg q) (by (first | lia | omega)) hd h
/-- an item counted from the end -/
theorem AO.itemN {v i : Expr} {k : Int} {d₀ d : D} {ds : List D} (hl : LstD σ d₀ ds) (h0 : k < 0) (h1 : -(ds.length : Int) ≤ k) (hf : -(2 ^ 63) ≤ k) (hd : ds[(k + ds.length).toNat]? = some d) (h : Q d σ) : AO c n env (subscriptTail v i) Rep d₀ (.int k) σ Q :=
  fun Z A s v₁ v₂ hr r e₁ e₂ => by
    simp only [Rep] at e₂
    obtain ⟨t, rfl⟩ := e₂
    obtain ⟨a, vs, rfl, il, hv⟩ := hl.at r e₁
    obtain ⟨x, hx, hr⟩ := hv.get hd
    obtain ⟨ops, hs⟩ := sub_ops i (.ref a) (.int k t)
    have hlen := hv.length
    exact tail_any il.typeIs slot_list_getitem.lookup (wpAny_getItem_list_neg il h0 (by simp [hlen]; (first | lia | omega)) hf (by simpa [hlen] using hx) (.pure r hr h)) hs
theorem AB.len {d₀ : D} {ds : List D} (hl : LstD σ d₀ ds) (hf : (ds.length : Int) < 2 ^ 63) (h : Q (.int ds.length) σ) : AB c n env (.builtin "len") [d₀] [] σ Q := fun Z A s vs us hr r hv hu => by
  simp only [RepL] at hv
  obtain ⟨v, _, rfl, e, rfl⟩ := hv
  obtain ⟨a, vs, rfl, il, hv⟩ := hl.at r e
  have hlen : vs.toArray.size = ds.length := by simp [hv.length]
  exact len_list il (by rw [hlen]; exact hf) (.pure (r.tok _) (by rw [hlen]; exact rep_int) h)

/-- truth of a value -/
theorem AT.val {x : Expr} {Q : Bool → Sig → Prop} (h : AE c n env x σ (fun d σ₁ => ∀ Z A s v, Room n A → Rel c env Z σ₁ s → Rep Z d v → wpc c A (truthy v) (Post c env Z (fun _ b a => a = b) Q) s))
    (he : ∀ whole, isTrue x env whole = (do let v ← whole; standAt x.pos; holding [v] (truthy v)) := by intro _; rfl) : AT c n env x σ Q := fun Z A s hr r =>
  PyProof.Rows.isTrue_plain (wpAny_mono (h Z A s hr r) (fun v s₁ hpz => hpz.elim fun Z₁ _ _ l₁ r₁ e₁ h₁ => wpAny_mono (h₁ Z₁ A s₁ v hr r₁ e₁) (fun _ _ p => p.trans l₁) fun _ _ e => e) fun _ _ e => e) (he _)
theorem AT.list {x : Expr} {Q : Bool → Sig → Prop} (h : AE c n env x σ (fun d σ₁ => ∃ ds, LstD σ₁ d ds ∧ (ds.length : Int) < 2 ^ 63 ∧ Q (!ds.isEmpty) σ₁))
    (he : ∀ whole, isTrue x env whole = (do let v ← whole; standAt x.pos; holding [v] (truthy v)) := by intro _; rfl) : AT c n env x σ Q := by
  refine .val (AW.mono h fun d σ₁ hq1 Z A s v hr r e => ?_) he
  obtain ⟨ds, hl, hf, q⟩ := hq1
  obtain ⟨a, vs, rfl, il, hv⟩ := hl.at r e
  have hlen : vs.toArray.size = ds.length := by simp [hv.length]
  refine wpAny_truthy_list il (by rw [hlen]; exact hf) (.pure (r.tok _) ?_ q)
  cases vs <;> cases ds <;> simp_all

/-! methods -/
theorem AE.meth0 {o : Expr} {name : Str} (h : AE c n env o σ (fun d σ₁ => ∀ Z A s v, Room n A → Rel c env Z σ₁ s → Rep Z d v → MethodOnS c.prog c.w A (fun _ _ => False) name v pos [] (Post c env Z Rep Q) s))
    (hb : attributeBase o name env (eval o env) = eval o env := by rfl) (hl : (apos.endLine == pos.line) = true := by rfl) : AE c n env (.Call (.Attribute o name apos) [] [] pos) σ Q := fun Z A s hr r =>
  Call_method0 hb hl (wpAny_mono (h Z A s hr r) (fun v s₁ hpz => hpz.elim fun Z₁ _ _ l₁ r₁ e₁ h₁ => let ⟨T, id, a1, a2, a3, a4, a5, a6⟩ := h₁ Z₁ A s₁ v hr r₁ e₁; ⟨T, id, a1, a2, a3, a4, a5, wpAny_mono a6 (fun _ _ p => p.trans l₁) fun _ _ e => e⟩) fun _ _ e => e)
theorem AE.meth1 {o : Expr} {name : Str} (h : AE c n env o σ (fun d σ₁ => ∀ Z A s v, Room n A → Rel c env Z σ₁ s → Rep Z d v → MethodOnS c.prog c.w A (fun _ _ => False) name v pos [(false, eval e env)] (Post c env Z Rep Q) s))
    (hb : attributeBase o name env (eval o env) = eval o env := by rfl) (hs : starEach [e] env = [(false, eval e env)] := by rfl) (hl : (apos.endLine == pos.line) = true := by rfl) :
    AE c n env (.Call (.Attribute o name apos) [e] [] pos) σ Q := fun Z A s hr r =>
  Call_method1 hb hs hl (wpAny_mono (h Z A s hr r) (fun v s₁ hpz => hpz.elim fun Z₁ _ _ l₁ r₁ e₁ h₁ => let ⟨T, id, a1, a2, a3, a4, a5, a6⟩ := h₁ Z₁ A s₁ v hr r₁ e₁; ⟨T, id, a1, a2, a3, a4, a5, wpAny_mono a6 (fun _ _ p => p.trans l₁) fun _ _ e => e⟩) fun _ _ e => e)

theorem Rel.isL {a : Addr} {ds : List D} (r : Rel c env Z σ s) (hl : σ.L a = some (.list ds)) : ∃ vs m, IsL s.heap a vs.toArray m ∧ RepL Z ds vs := by
  obtain ⟨_, o, ho, vs, m, rfl, hv⟩ := r.g.cel a _ hl
  exact ⟨vs, m, ho, hv⟩
theorem AE.append {o : Expr} (h : AE c n env o σ (fun d₁ σ₁ => ∃ a ds₀, d₁ = .val (.ref a) ∧ σ₁.L a = some (.list ds₀) ∧ AE c n env e σ₁ (fun d₂ σ₂ => ∃ ds, σ₂.L a = some (.list ds) ∧ ds.length ≤ 1000 ∧ Q .none (σ₂.cel a (.list (ds ++ [d₂]))))))
    (hb : attributeBase o (Str.ofString "append") env (eval o env) = eval o env := by rfl) (hs : starEach [e] env = [(false, eval e env)] := by rfl) (hl : (apos.endLine == pos.line) = true := by rfl) :
    AE c n env (.Call (.Attribute o (Str.ofString "append") apos) [e] [] pos) σ Q := by
  refine AE.meth1 (AW.mono h fun d₁ σ₁ hq1 Z A s v hr r e₁ => ?_) hb hs hl
  obtain ⟨a, ds₀, q1, q2, h₁⟩ := hq1
  subst q1; simp only [Rep] at e₁; subst e₁
  obtain ⟨vs₀, m₀, hil, _⟩ := r.isL q2
  refine ⟨"list", "list.append", F.plainAttrs_list, F.slot_list_append, F.type_list_append, ⟨_, hil, rfl⟩, fun b e => by cases e; exact ⟨_, hil, rfl⟩, P.append_list (wpAny_mono (h₁ Z A s hr r) (fun v s₂ hpz => hpz.elim fun Z₂ σ₂ d₂ l₂ r₂ e₂ hq1 => ?_) fun _ _ e => e)⟩
  obtain ⟨ds, q3, q4, q⟩ := hq1
  obtain ⟨vs, m, hil₂, hv⟩ := r₂.isL q3
  have hlen := hv.length
  have hsz : vs.toArray.size ≤ sizeLine := by
    have : (1000 : Nat) ≤ sizeLine := by decide
    simp [hlen]; (first | lia | omega)
  refine ⟨vs.toArray, m, hsz, hil₂, Z₂, _, .none, l₂, r₂.cel q3 (Heap.SameBut.update ..) (Heap.get?_update_self _ hil₂ rfl) (x := .list (ds ++ [d₂])) ⟨vs ++ [v], m + 1, ?_, hv.append (RepL.cons e₂ RepL.nil)⟩ s₂.toks, by simp only [Rep], q⟩
  simp [Obj.mapSeq]
theorem AE.pop {o : Expr} (h : AE c n env o σ (fun d₁ σ₁ => ∃ a ds d, d₁ = .val (.ref a) ∧ σ₁.L a = some (.list (ds ++ [d])) ∧ ds.length ≤ 1000 ∧ Q d (σ₁.cel a (.list ds))))
    (hb : attributeBase o (Str.ofString "pop") env (eval o env) = eval o env := by rfl) (hl : (apos.endLine == pos.line) = true := by rfl) :
    AE c n env (.Call (.Attribute o (Str.ofString "pop") apos) [] [] pos) σ Q := by
  refine AE.meth0 (AW.mono h fun d₁ σ₁ hq1 Z A s v hr r e₁ => ?_) hb hl
  obtain ⟨a, ds, d, q1, q2, q3, q⟩ := hq1
  subst q1; simp only [Rep] at e₁; subst e₁
  obtain ⟨vs, m, hil, hv⟩ := r.isL q2
  obtain ⟨v, hv1, hv2⟩ := hv.get (i := ds.length) (d := d) (by simp)
  have hlen := hv.length
  simp only [List.length_append, List.length_cons, List.length_nil] at hlen
  have hlt : vs.length = ds.length + 1 := by (first | lia | omega)
  have hsz : vs.toArray.size ≤ sizeLine := by
    have : (1001 : Nat) ≤ sizeLine := by decide
    simp [hlt]; (first | lia | omega)
  refine ⟨"list", "list.pop", F.plainAttrs_list, F.slot_list_pop, F.type_list_pop, ⟨_, hil, rfl⟩, fun b e => by cases e; exact ⟨_, hil, rfl⟩, P.pop_list (y := v) hil (by rw [List.size_toArray, hlt, Nat.add_sub_cancel, List.getElem?_toArray]; exact hv1) ?_ hsz⟩
  refine ⟨Z, _, d, .refl Z, r.cel q2 (Heap.SameBut.update ..) (Heap.get?_update_self _ hil rfl) (x := .list ds) ⟨vs.take ds.length, m + 1, ?_, ?_⟩ s.toks, hv2, q⟩
  · have h1 : vs.eraseIdx (vs.length - 1) = vs.take ds.length := by rw [List.eraseIdx_eq_take_drop_succ, hlt]; simp [hlt]
    have h2 : vs.toArray.eraseIdxIfInBounds (vs.toArray.size - 1) = (vs.take ds.length).toArray := by
      rw [List.size_toArray, List.eraseIdxIfInBounds_toArray, h1]
    show (_ : Obj) = _
    simp only [Obj.mapSeq, h2]
    have h3 : ((vs.take ds.length).toArray.size == vs.toArray.size) = false := by simp [hlt]
    simp only [h3, Bool.false_eq_true, if_false]
  · have := hv.take ds.length
    simpa using this

/-- a new object, held from now on -/
theorem Rel.new (r : Rel c env Z σ s) (o : Obj) (hfree : o.isFreed = false) (tk : Nat) : ∃ Z', ZLe Z Z' ∧ Z' s.heap.objs.size = some (true, o) ∧ Rel c env Z' σ { s with heap := s.heap.push o, toks := tk } := by
  have hf := r.fresh (get_size s.heap)
  let Z' : Zone := fun a => if a = s.heap.objs.size then some (true, o) else Z a
  have l : ZLe Z Z' := fun a p e => by simp only [Z']; rw [if_neg (by rintro rfl; rw [hf.1] at e; cases e)]; exact e
  have r' : Rel c env Z σ { s with heap := s.heap.push o, toks := tk } := r.keeps fun _ _ e => Heap.get?_push_of_some _ e
  refine ⟨Z', l, by simp only [Z', if_true], r'.hold l fun a p e => ?_⟩
  simp only [Z'] at e
  by_cases q : a = s.heap.objs.size
  · subst q; rw [if_pos rfl] at e; cases e; exact .inr ⟨Heap.get?_push_size _ hfree, hf.2.2, hf.2.1⟩
  · rw [if_neg q] at e; exact .inl e

/-! ranges -/
theorem AB.range1 {b : Int} (h : Q (.rng 0 b 1) σ) : AB c n env (.type "range") [.int b] [] σ Q := fun Z A s vs us hr r hv hu => by
  simp only [RepL, Rep] at hv
  obtain ⟨_, _, rfl, ⟨t, rfl⟩, rfl⟩ := hv
  refine call_range_1 ?_
  obtain ⟨Z', l, hz, r'⟩ := r.new (rngO 0 b 1 s.toks t (s.toks + 1)) rfl (s.toks + 1 + 1)
  exact ⟨Z', σ, _, l, r', by simp only [Rep]; exact ⟨_, _, _, _, rfl, hz⟩, h⟩
theorem AB.range2 {a b : Int} (h : Q (.rng a b 1) σ) : AB c n env (.type "range") [.int a, .int b] [] σ Q := fun Z A s vs us hr r hv hu => by
  simp only [RepL, Rep] at hv
  obtain ⟨_, _, rfl, ⟨t, rfl⟩, _, _, rfl, ⟨u, rfl⟩, rfl⟩ := hv
  refine call_range_2 ?_
  obtain ⟨Z', l, hz, r'⟩ := r.new (rngO a b 1 t u s.toks) rfl (s.toks + 1)
  exact ⟨Z', σ, _, l, r', by simp only [Rep]; exact ⟨_, _, _, _, rfl, hz⟩, h⟩
theorem AB.range3 {a b k : Int} (hk : k ≠ 0) (hp : Builtin.divisionGoesByPylong (b - a) k = false) (h : Q (.rng a b k) σ) : AB c n env (.type "range") [.int a, .int b, .int k] [] σ Q := fun Z A s vs us hr r hv hu => by
  simp only [RepL, Rep] at hv
  obtain ⟨_, _, rfl, ⟨t, rfl⟩, _, _, rfl, ⟨u, rfl⟩, _, _, rfl, ⟨w, rfl⟩, rfl⟩ := hv
  refine call_range_3 hk ?_ (.inl hp)
  obtain ⟨Z', l, hz, r'⟩ := r.new (rngO a b k t u w) rfl s.toks
  exact ⟨Z', σ, _, l, r', by simp only [Rep]; exact ⟨_, _, _, _, rfl, hz⟩, h⟩

/-- the ints of a range: from a by k, m of them -/
noncomputable def steps (a k : Int) (m : Nat) : List D := (List.range m).map fun (i : Nat) => D.int (a + i * k)

theorem iter_range {target : Expr} {a k : Int} {m : Nat} {I : Addr} (hr : Room n A) (r : Rel c env Z σ s) (hI : IsRangeIter s.heap I a m k) (hf : Z I = Option.none ∧ σ.L I = Option.none ∧ ¬ Own env I) :
    Iter c A env target Z σ (fun _ => True) (.ref I) (steps a k m) s := by
  have W := Walks.range (prog := c.prog) (w := c.w) hr.1 I a k m
  rw [show m = (steps a k m).length from by simp [steps]] at W
  refine ⟨[I], _, Stp.ofWalks (items := steps a k m) W (fun b hb => .inl hb) ?_ ?_ ?_ ?_, ⟨0, Nat.zero_le _, rfl, ?_, fun a p e => r.g.zone a p e⟩, ?_⟩
  · intro b hb; simp at hb; subst hb; exact hf.1
  · rintro i v d hd ⟨t, rfl⟩
    simp only [steps, List.getElem?_map] at hd
    rcases Nat.lt_or_ge i m with q | q
    · rw [List.getElem?_range q] at hd; cases hd; exact rep_int
    · rw [List.getElem?_eq_none (by simpa using q)] at hd; cases hd
  · intro i h st b hb
    simp at hb; subst hb
    exact ⟨_, st, fun v e => by cases e⟩
  · intro i h st
    exact ⟨_, _, st, rfl, by decide⟩
  · have : a + ((0 : Nat) : Int) * k = a := by simp
    show IsRangeIter s.heap I (a + ((0 : Nat) : Int) * k) (((steps a k m).length : Int) - ((0 : Nat) : Int)) k
    rw [this]; simpa [steps] using hI
  · intro b hb; simp at hb; subst hb; exact hf
theorem AI.range {target : Expr} {a b k : Int} {K : List D → Sig → Prop} (hs : Builtin.Range.small a b k = true) (h : K (steps a k (Builtin.Range.rangeSize a b k).toNat) σ) (h0 : 0 ≤ Builtin.Range.rangeSize a b k) : AI c n env target (.rng a b k) σ K := fun Z A s v hr r e => by
  simp only [Rep] at e
  obtain ⟨R, t, u, w, rfl, hz⟩ := e
  refine wpAny_pyIter_range (t := t) (u := u) (v := w) (r.g.zone _ _ hz) hs ?_
  have hf := r.fresh (get_size s.heap)
  have r' : Rel c env Z σ { s with heap := s.heap.push { cls := .type "range_iterator", data := .fields #[rawInt a, rawInt (Builtin.Range.rangeSize a b k), rawInt k] } } := r.keeps (tk := s.toks) fun _ _ e => Heap.get?_push_of_some _ e
  refine ⟨Z, σ, _, .refl Z, r', iter_range hr r' ?_ hf, h⟩
  have : ((Builtin.Range.rangeSize a b k).toNat : Int) = Builtin.Range.rangeSize a b k := by (first | lia | omega)
  show IsRangeIter _ _ a ((Builtin.Range.rangeSize a b k).toNat : Int) k
  rw [this]
  exact Heap.get?_push_size _ rfl
end
end Mine
end
section
open PySem PySem.W PyProof.Rows
namespace Mine
section
variable {prog : Program} {w : World} {A : Around} {E : Value → Shared → Prop} {s : Shared}

theorem sub_rit_reversed : isSubtype (.type "range_iterator") (.type "reversed") = pure false := by rw [isSubtype_type]; kernel_rfl

theorem call_range_reversed {R : Addr} {a b k : Int} {t u v : Tok} {Q : Value → Shared → Prop} (hr : IsRange s.heap R a b k t u v)
    (hs : (Builtin.Range.rangeFitsLong a && Builtin.Range.rangeFitsLong b && Builtin.Range.rangeFitsLong k && Builtin.Range.rangeFitsLong (-k) && Builtin.Range.rangeFitsLong (a - k) && Builtin.Range.rangeFitsLong (Builtin.Range.rangeSize a b k)) = true)
    (h : Q (.ref s.heap.objs.size) { s with heap := s.heap.push { cls := .type "range_iterator", data := .fields #[rawInt (a + (Builtin.Range.rangeSize a b k - 1) * k), rawInt (Builtin.Range.rangeSize a b k), rawInt (-k)] } }) :
    wpAny (model prog w) A (call (.builtin "range.__reversed__") [.ref R]) Q E s := by
  refine wpAny_call_entry F.slot_range_reversed ⟨_, hr, rfl⟩ F.entry_range_reversed ?_ (F.args_range_reversed_1 _)
  unfold Builtin.«range.__reversed__»
  refine wpAny_bind (wpAny_of_eq (a := Value.ref R) rfl ?_)
  refine wpAny_bind (m := Builtin.Range.rangeFields (.ref R)) ?_
  unfold Builtin.Range.rangeFields
  refine wpAny_bind (wpAny_field hr rfl (x := .int a t) rfl ?_)
  refine wpAny_bind (wpAny_of_eq (a := some a) rfl ?_)
  refine wpAny_bind (wpAny_field hr rfl (x := .int b u) rfl ?_)
  refine wpAny_bind (wpAny_of_eq (a := some b) rfl ?_)
  refine wpAny_bind (wpAny_field hr rfl (x := .int k v) rfl ?_)
  refine wpAny_bind (wpAny_of_eq (a := some k) rfl ?_)
  refine wpAny_pure ?_
  try dsimp only
  simp only [hs, Bool.not_true, Bool.false_eq_true, if_false, if_true]
  exact wpAny_bind (wpAny_newObj_type (wpAny_pure ⟨_, rfl, h⟩))

theorem code_reversed_range {R : Addr} {a b k : Int} {t u v : Tok} {Q₁ : Value → Shared → Prop} (hr : IsRange s.heap R a b k t u v)
    (hs : (Builtin.Range.rangeFitsLong a && Builtin.Range.rangeFitsLong b && Builtin.Range.rangeFitsLong k && Builtin.Range.rangeFitsLong (-k) && Builtin.Range.rangeFitsLong (a - k) && Builtin.Range.rangeFitsLong (Builtin.Range.rangeSize a b k)) = true)
    (h : Q₁ (.ref s.heap.objs.size) { s with heap := s.heap.push { cls := .type "range_iterator", data := .fields #[rawInt (a + (Builtin.Range.rangeSize a b k - 1) * k), rawInt (Builtin.Range.rangeSize a b k), rawInt (-k)] } }) :
    codeAny (model prog w) A (.call (.builtin "reversed.__new__") ⟨[.type "reversed", .ref R], []⟩) (wants Q₁ E) s := by
  have hT : s.TypeIs (.ref R) "range" := ⟨_, hr, rfl⟩
  refine codeAny_of_tree ?_
  show wpAny _ A.in1 (do checkBuiltinCall "reversed.__new__" ⟨[.type "reversed", .ref R], []⟩; again (.builtin "reversed.__new__" ⟨[.type "reversed", .ref R], []⟩)) _ _ s
  refine wpAny_bind (wpAny_of_eq (F.newCall_reversed_1 _) (wpAny_pure ⟨plainId_quiet F.plain_reversed_new _, codeAny_builtin F.entry_reversed_new ?_⟩))
  rw [Around.under_plainId F.plain_reversed_new _]
  unfold Builtin.«reversed.__new__»
  refine wpAny_bind (wpAny_of_eq (newClass_reversed _) ?_)
  try dsimp only
  refine wpAny_bind (wpAny_of_eq (a := ()) (by kernel_rfl) ?_)
  refine wpAny_bind (wpAny_of_eq (a := ()) (by kernel_rfl) ?_)
  try dsimp only
  refine wpAny_bind (wpAny_specialOf hT F.slot_range_reversed.lookup ?_)
  try dsimp only
  refine wpAny_bind (wpAny_of_eq (F.slot_range_reversed.bind _) ?_)
  try dsimp only
  show wpAny _ _ (if (Value.builtin "range.__reversed__" == Value.none) = true then _ else _) _ _ _
  rw [if_neg (show ¬ ((Value.builtin "range.__reversed__" == Value.none) = true) from Bool.false_ne_true)]
  refine wpAny_bind (wpAny_rule ?_)
  refine wpAny_bind (m := runValue (.call (.builtin "range.__reversed__") ⟨[.ref R], []⟩)) (show wpAny _ _ (call (.builtin "range.__reversed__") [.ref R]) _ _ _ from call_range_reversed hr hs ?_)
  exact wpAny_pure h

theorem call_reversed_range {R : Addr} {a b k : Int} {t u v : Tok} {Q : Value → Shared → Prop} (hr : IsRange s.heap R a b k t u v)
    (hs : (Builtin.Range.rangeFitsLong a && Builtin.Range.rangeFitsLong b && Builtin.Range.rangeFitsLong k && Builtin.Range.rangeFitsLong (-k) && Builtin.Range.rangeFitsLong (a - k) && Builtin.Range.rangeFitsLong (Builtin.Range.rangeSize a b k)) = true)
    (h : Q (.ref s.heap.objs.size) { s with heap := s.heap.push { cls := .type "range_iterator", data := .fields #[rawInt (a + (Builtin.Range.rangeSize a b k - 1) * k), rawInt (Builtin.Range.rangeSize a b k), rawInt (-k)] } }) :
    wpAny (model prog w) A (call (.type "reversed") [.ref R]) Q E s := by
  refine callType_other (U := "range_iterator") (Q₁ := fun obj s₁ => obj = .ref s.heap.objs.size ∧ s₁ = { s with heap := s.heap.push { cls := .type "range_iterator", data := .fields #[rawInt (a + (Builtin.Range.rangeSize a b k - 1) * k), rawInt (Builtin.Range.rangeSize a b k), rawInt (-k)] } })
    (by decide +kernel) F.create_reversed ⟨_, _, F.mro_reversed⟩ F.made_reversed sub_rit_reversed (F.typeCall_reversed_1 _) (code_reversed_range hr hs ⟨rfl, rfl⟩) ?_
  rintro obj s₁ ⟨rfl, rfl⟩
  exact ⟨⟨_, Heap.get?_push_size _ rfl, rfl⟩, h⟩
end
section
variable {c : Cx} {n : Nat} {env : Env} {σ : Sig} {Z : Zone} {s : Shared} {A : Around} {pos : Pos} {f e target : Expr}
/-- the ints of a range by ones, from the last to the first -/
theorem AEI.rev {m : Nat} {K : List D → Sig → Prop} (hm : m < 2 ^ 60)
    (h : AE c n env f σ (fun d σ₁ => d = .val (.type "reversed") ∧ AE c n env e σ₁ (fun d σ₂ => d = .rng 0 m 1 ∧ K (steps (m - 1) (-1) m) σ₂)))
    (he : eval (.Call f [e] [] pos) env = (do callWith pos (← eval f env) [] (backTo pos (starEach [e] env)) (backToKw pos (keywordEach [] env))) := by rfl)
    (he' : starEach [e] env = [(false, eval e env)] := by rfl) : AEI c n env target (.Call f [e] [] pos) (fun _ => True) σ K := fun Z A s hr r => by
  refine Call_ (wpAny_mono (h Z A s hr r) (fun v s₁ hpz => hpz.elim fun Z₁ σ₁ d l₁ r₁ e₁ ⟨q1, h₁⟩ => ?_) fun _ _ e => e) he
  subst q1; simp only [Rep] at e₁; subst e₁
  refine PyProof.Rows.callWith_type1 (args_cons (wpAny_mono (h₁ Z₁ A s₁ hr r₁) (fun v s₂ hpz => hpz.elim fun Z₂ σ₂ ds l₂ r₂ e₂ ⟨q2, h₂⟩ => args_nil ?_) fun _ _ e => e) he') he' rfl
  subst q2; simp only [Rep] at e₂
  obtain ⟨R, t, u, w, rfl, hz⟩ := e₂
  have hsz : Builtin.Range.rangeSize 0 (m : Int) 1 = m := by rw [rangeSize_one]; split <;> (first | lia | omega)
  refine call_reversed_range (t := t) (u := u) (v := w) (r₂.g.zone _ _ hz) ?_ ?_
  · rw [hsz]; simp only [Builtin.Range.rangeFitsLong, Bool.and_eq_true, decide_eq_true_eq]; (first | lia | omega)
  have hf := r₂.fresh (get_size s₂.heap)
  have r₃ : Rel c env Z₂ σ₂ { s₂ with heap := s₂.heap.push { cls := .type "range_iterator", data := .fields #[rawInt (0 + (Builtin.Range.rangeSize 0 (m : Int) 1 - 1) * 1), rawInt (Builtin.Range.rangeSize 0 (m : Int) 1), rawInt (-1)] } } := r₂.keeps (tk := s₂.toks) fun _ _ e => Heap.get?_push_of_some _ e
  have hI : IsRangeIter (s₂.heap.push { cls := .type "range_iterator", data := .fields #[rawInt (0 + (Builtin.Range.rangeSize 0 (m : Int) 1 - 1) * 1), rawInt (Builtin.Range.rangeSize 0 (m : Int) 1), rawInt (-1)] }) s₂.heap.objs.size (m - 1) m (-1) := by
    rw [hsz]
    have := Heap.get?_push_size s₂.heap (o := { cls := .type "range_iterator", data := .fields #[rawInt (0 + ((m : Int) - 1) * 1), rawInt (m : Int), rawInt (-1)] }) rfl
    rw [show (0 : Int) + ((m : Int) - 1) * 1 = m - 1 from by (first | lia | omega)] at this ⊢
    exact this
  exact wpAny_pyIter_rangeiter hI ⟨Z₂, σ₂, _, l₁.trans l₂, r₃, iter_range hr r₃ hI hf, h₂⟩
end
end Mine
end
section
open PySem PySem.W PyProof.Rows
namespace Mine
section
variable {c : Cx} {n : Nat} {env : Env} {σ : Sig} {i j : Int} {Q : D → Sig → Prop} {pos : Pos}
theorem AO.fdiv (hb : j ≠ 0) (hs : j.natAbs < 1073741824) (h : Q (.int (i.fdiv j)) σ) : AO c n env (binaryOp .FloorDiv) Rep (.int i) (.int j) σ Q :=
  .ints h fun _ _ _ _ _ _ q => PyProof.Rows.floordiv_int hb (q _ _ fun _ => rep_int) (.inl (PyProof.noPylong_small hs))
theorem AO.fmod (hb : j ≠ 0) (h : Q (.int (i.fmod j)) σ) : AO c n env (binaryOp .Mod) Rep (.int i) (.int j) σ Q :=
  .ints h fun _ _ _ _ _ _ q => PyProof.Rows.mod_int' hb (q _ _ fun _ => rep_int)
theorem AO.pow (hn : 0 ≤ j) (hs : (Builtin.Int.intBits i : Int) * j ≤ 2 ^ 27) (h : Q (.int (i ^ j.toNat)) σ) : AO c n env (binaryOp .Pow) Rep (.int i) (.int j) σ Q :=
  .ints h fun _ _ _ _ _ _ q => PyProof.Rows.pow_int hn hs (q _ _ fun _ => rep_int)
theorem AE.neg {x : Expr} (h : AE c n env x σ (fun d σ₁ => ∃ i, d = .int i ∧ Q (.int (-i)) σ₁)) : AE c n env (.UnaryOp .USub x pos) σ Q := fun Z A s hr r =>
  wpAny_UnaryOp (wpAny_mono (h Z A s hr r) (fun v s₁ hpz => hpz.elim fun Z₁ σ₁ d l₁ r₁ e₁ ⟨i, q1, q⟩ => by
    subst q1; simp only [Rep] at e₁; obtain ⟨t, rfl⟩ := e₁
    exact PyProof.Rows.neg_int ⟨Z₁, σ₁, _, l₁, r₁.tok _, rep_int, q⟩) fun _ _ e => e)
theorem AS.mono {target : Expr} {d : D} {K K' : Sig → Prop} (h : AS c n env target d σ K) (hk : ∀ σ', K σ' → K' σ') : AS c n env target d σ K' :=
  fun Z A s v hr r e => wpAny_mono (h Z A s v hr r e) (fun _ _ ⟨Z', σ', l, r', q⟩ => ⟨Z', σ', l, r', hk _ q⟩) fun _ _ e => e
theorem AS.weaken {target : Expr} {d : D} {K : Sig → Prop} {σ' : Sig} (h : AS c n env target d σ' K) (hs : Sle σ σ') : AS c n env target d σ K :=
  fun Z A s v hr r e => h Z A s v hr (r.le hs) e
/-- a loop by what holds between its turns -/
theorem AFor.ind {target : Expr} {body : List Stmt} {E B : Sig → Prop} {R : D → Sig → Prop} {items : List D} (I : List D → Sig → Prop) (hI : I items σ) (nil : ∀ σ, I [] σ → E σ)
    (step : ∀ d ds σ, I (d :: ds) σ → AS c n env target d σ (fun σ₁ => AX c n env body σ₁ (LoopQ (I ds) B R))) : AFor c n env target body E B R items σ := by
  induction items generalizing σ with
  | nil => exact nil σ hI
  | cons d ds ih =>
    refine AS.mono (step d ds σ hI) fun σ₁ h => AX.mono h fun f σ₂ q => ?_
    cases f with
    | next => exact ih q
    | cont => exact ih q
    | brk => exact q
    | ret d => exact q
end
end Mine
end
section
open PySem PySem.W PyProof.Rows
namespace Mine

/-! cells of a comprehension -/
theorem cellsFrom_append : ∀ (names : List (Str × NameKind)) (k : Nat) (acc : List (Str × Addr)), cellsFrom k names acc = cellsFrom k names [] ++ acc
  | [], _, _ => by simp [cellsFrom]
  | (x, kind) :: r, k, acc => by
    unfold cellsFrom
    split
    · rw [cellsFrom_append r (k + 1) ((x, k) :: acc), cellsFrom_append r (k + 1) [(x, k)]]; simp
    · rw [cellsFrom_append r k acc]
noncomputable def clF (env : Env) : List (Str × NameKind) → List (Str × Addr) → List (Str × Addr)
  | [], acc => acc
  | (x, k) :: r, acc => if k == .free then clF env r ((x, (env.cells.lookup x).getD 0) :: acc) else clF env r acc
theorem closure_eq {scope : Scope} {env : Env} (h : ∀ x ∈ scope.names, x.2 = .free → (env.cells.lookup x.1).isSome = true) : closureFor scope env = pure (clF env scope.names []) := by
  have key : ∀ (names : List (Str × NameKind)) (acc : List (Str × Addr)), (∀ x ∈ names, x.2 = .free → (env.cells.lookup x.1).isSome = true) →
      (forIn names acc fun (x : Str × NameKind) (r : List (Str × Addr)) => match x with
        | (name, kind) => if (kind == NameKind.free) = true then do let a ← cellOf env name; pure (ForInStep.yield ((name, a) :: r)) else pure (ForInStep.yield r)) = (pure (clF env names acc) : Sem _) := by
    intro names
    induction names with
    | nil => intro acc _; rfl
    | cons x r ih =>
      intro acc hh
      obtain ⟨x, k⟩ := x
      rw [List.forIn_cons]
      unfold clF
      by_cases q : (k == NameKind.free) = true
      · simp only [q, if_true]
        obtain ⟨a, ha⟩ := Option.isSome_iff_exists.mp (hh (x, k) List.mem_cons_self (by simpa using q))
        simp only [cellOf, ha, pure_bind, Option.getD_some]
        exact ih _ fun y hy => hh y (List.mem_cons_of_mem _ hy)
      · simp only [q, Bool.false_eq_true, if_false, pure_bind]
        exact ih _ fun y hy => hh y (List.mem_cons_of_mem _ hy)
  unfold closureFor
  have := key scope.names [] h
  refine Eq.trans ?_ (congrArg (fun t : Sem (List (Str × Addr)) => t >>= fun r => pure r) this)
  rfl
theorem clF_lookup {env : Env} {x : Str} : ∀ (names : List (Str × NameKind)) (acc : List (Str × Addr)), (∀ y ∈ names, y.2 = .free → (env.cells.lookup y.1).isSome = true) →
    ∀ k, (clF env names acc).lookup x = some k → ((x, NameKind.free) ∈ names ∧ env.cells.lookup x = some k) ∨ acc.lookup x = some k
  | [], _, _, _, h => .inr h
  | (y, kind) :: r, acc, hh, k, h => by
    unfold clF at h
    have hr : ∀ z ∈ r, z.2 = .free → (env.cells.lookup z.1).isSome = true := fun z hz => hh z (List.mem_cons_of_mem _ hz)
    split at h
    · rename_i q
      have q' : kind = .free := by simpa using q
      rcases clF_lookup r _ hr k h with h' | h'
      · exact .inl ⟨List.mem_cons_of_mem _ h'.1, h'.2⟩
      · rw [List.lookup_cons] at h'
        cases hb : x == y with
        | true =>
          rw [hb] at h'
          have e : x = y := by simpa using hb
          subst e
          obtain ⟨a, ha⟩ := Option.isSome_iff_exists.mp (hh (x, kind) List.mem_cons_self q')
          simp only [ha, Option.getD_some, Option.some.injEq] at h'
          exact .inl ⟨by rw [q']; exact List.mem_cons_self, h' ▸ ha⟩
        | false => rw [hb] at h'; exact .inr h'
    · exact (clF_lookup r acc hr k h).imp (fun h => ⟨List.mem_cons_of_mem _ h.1, h.2⟩) id
theorem clF_some {env : Env} {x : Str} {a : Addr} (ha : env.cells.lookup x = some a) : ∀ (names : List (Str × NameKind)) (acc : List (Str × Addr)),
    (names.lookup x = some .free ∨ acc.lookup x = some a) → (∀ k, acc.lookup x = some k → k = a) → (clF env names acc).lookup x = some a
  | [], acc, h, _ => by
    rcases h with h | h
    · cases h
    · exact h
  | (y, kind) :: r, acc, h, hu => by
    unfold clF
    by_cases q : x = y
    · subst q
      split
      · rename_i q
        refine clF_some ha r _ (.inr (by simp [List.lookup_cons, ha])) fun k hk => ?_
        simpa [List.lookup_cons, ha] using hk.symm
      · rename_i q
        refine clF_some ha r acc ?_ hu
        rcases h with h | h
        · simp only [List.lookup_cons, beq_self_eq_true, Option.some.injEq] at h; subst h; simp at q
        · exact .inr h
    · have hb : (x == y) = false := by simpa using q
      have h' : r.lookup x = some .free ∨ acc.lookup x = some a := by
        rcases h with h | h
        · rw [List.lookup_cons, hb] at h; exact .inl h
        · exact .inr h
      split
      · refine clF_some ha r _ (h'.imp id fun h => by rw [List.lookup_cons, hb]; exact h) fun k hk => ?_
        rw [List.lookup_cons, hb] at hk; exact hu k hk
      · exact clF_some ha r acc h' hu

theorem lookup_relabel_free {env : Env} : ∀ {names : List (Str × NameKind)} {x : Str}, names.lookup x = some .free →
    (names.map fun (n, k) => if (k == NameKind.free && env.scope.kind == .function && env.kindOf n == some .cell) then (n, NameKind.cell) else (n, k)).lookup x = some .free ∨
    (names.map fun (n, k) => if (k == NameKind.free && env.scope.kind == .function && env.kindOf n == some .cell) then (n, NameKind.cell) else (n, k)).lookup x = some .cell
  | [], _, h => by simp at h
  | (n, k) :: r, x, h => by
    have ih := @lookup_relabel_free env r x
    rw [List.map_cons]
    show List.lookup x ((if (k == NameKind.free && env.scope.kind == .function && env.kindOf n == some .cell) = true then (n, NameKind.cell) else (n, k)) :: _) = _ ∨ List.lookup x ((if (k == NameKind.free && env.scope.kind == .function && env.kindOf n == some .cell) = true then (n, NameKind.cell) else (n, k)) :: _) = _
    by_cases hc : (k == NameKind.free && env.scope.kind == .function && env.kindOf n == some .cell) = true
    · rw [if_pos hc]
      cases hx : x == n with
      | true => right; simp [List.lookup_cons, hx]
      | false => simp only [List.lookup_cons, hx] at h ⊢; exact ih h
    · rw [if_neg hc]
      cases hx : x == n with
      | true => left; simp only [List.lookup_cons, hx] at h ⊢; exact h
      | false => simp only [List.lookup_cons, hx] at h ⊢; exact ih h

theorem cellsFrom_mem {x : Str} : ∀ (names : List (Str × NameKind)) (k a : Nat), (cellsFrom k names []).lookup x = some a → (x, NameKind.cell) ∈ names
  | [], _, _, h => by simp [cellsFrom] at h
  | (y, kind) :: r, k, a, h => by
    unfold cellsFrom at h
    split at h
    · rename_i q
      have q' : kind = .cell := by simpa using q
      rw [cellsFrom_append, List.lookup_append] at h
      cases e : (cellsFrom (k + 1) r []).lookup x with
      | some a' => exact List.mem_cons_of_mem _ (cellsFrom_mem r _ _ e)
      | none =>
        rw [e] at h
        simp only [Option.none_or, List.lookup_cons, List.lookup_nil] at h
        cases hb : x == y with
        | true => have : x = y := by simpa using hb
                  subst this; rw [q']; exact List.mem_cons_self
        | false => rw [hb] at h; cases h
    · exact List.mem_cons_of_mem _ (cellsFrom_mem r k a h)
theorem cellsFrom_some {x : Str} : ∀ (names : List (Str × NameKind)) (k : Nat), (x, NameKind.cell) ∈ names → ((cellsFrom k names []).lookup x).isSome = true
  | [], _, h => by cases h
  | (y, kind) :: r, k, h => by
    unfold cellsFrom
    split
    · rw [cellsFrom_append, List.lookup_append]
      rcases List.mem_cons.mp h with e | h
      · cases e
        cases (cellsFrom (k + 1) r []).lookup x <;> simp
      · obtain ⟨a, ha⟩ := Option.isSome_iff_exists.mp (cellsFrom_some r (k + 1) h)
        rw [ha]; rfl
    · rename_i q
      rcases List.mem_cons.mp h with e | h
      · cases e; simp at q
      · exact cellsFrom_some r k h

structure CompOk (scope : Scope) (env : Env) (m min : List (Str × D)) : Prop where
  kind : scope.kind = .function
  names : (scope.names.all fun x => x.2 != .local || scope.names.lookup x.1 == some .local) = true
  free : (scope.names.all fun x => x.2 != .free || ((get x.1 m).isSome && env.kindOf x.1 != some .local)) = true
  got : ∀ x d, get x min = some d → get x m = some d
  isf : ∀ x d, get x min = some d → scope.names.lookup x = some .free
  once : (scope.names.all fun x => x.2 != .cell || (scope.names.lookup x.1 == some .cell)) = true

section
variable {c : Cx} {n : Nat} {env : Env} {σ : Sig} {Z : Zone} {s : Shared} {A : Around} {pos : Pos}

theorem pushCells_le : ∀ (names : List (Str × NameKind)) (h : Heap) {a : Addr} {o : Obj}, (pushCells h names).get? a = some o → h.get? a = some o ∨ h.objs.size ≤ a
  | [], _, _, _, e => .inl e
  | (_, kind) :: r, h, a, o, e => by
    unfold pushCells at e
    split at e
    · rcases pushCells_le r _ e with e | e
      · rcases Nat.lt_or_ge a h.objs.size with q | q
        · left
          have := (Heap.get?_some_iff.mp e)
          refine Heap.get?_some_iff.mpr ⟨?_, this.2⟩
          have h1 := this.1
          cases h; simp only [Heap.push, Array.getElem?_push] at h1
          rw [if_neg (Nat.ne_of_lt q)] at h1; exact h1
        · exact .inr q
      · right; rw [Heap.size_push] at e; (first | lia | omega)
    · exact pushCells_le r h e

open Classical in
/-- into the frame of a comprehension, and out of it -/
theorem comp_frame {scope : Scope} {min : List (Str × D)} {qual : Str} {o₀ : Obj} (hfree₀ : o₀.isFreed = false) (r : Rel c env Z σ s) (ok : CompOk scope env σ.m min) :
    let D₀ := s.heap.objs.size
    let C := D₀ + 1
    let cells := cellsFrom (C + 1) scope.names (clF env scope.names [])
    let cenv : Env := { scope := relabel scope env, locals := C, globals := env.globals, cells := cells, qual := qual, func := Option.none, code := env.code, frame := env.frame, builtins := env.builtins }
    let h' := pushCells ((s.heap.push o₀).push { cls := .type "dict", data := .dict #[] }) scope.names
    ∃ Zi, ZLe Z Zi ∧ (∀ a, ¬ Own env a → Zi a = Z a) ∧ Rel c cenv Zi ⟨min, σ.L⟩ { s with heap := h' } ∧ (Zi D₀ = Option.none ∧ σ.L D₀ = Option.none ∧ ¬ Own cenv D₀ ∧ h'.get? D₀ = some o₀) ∧
      (∀ x, scope.names.lookup x = some .cell → ∃ k, cells.lookup x = some k ∧ C < k) ∧ (∀ a o, s.heap.get? a = some o → h'.get? a = some o ∧ ¬ Own cenv a) ∧
      ∀ Z₂ σ₂ s₂, ZLe Zi Z₂ → Rel c cenv Z₂ σ₂ s₂ → ∀ h'' tk, Heap.SameBut C s₂.heap h'' → ∃ Z₃, ZLe Z Z₃ ∧ (∀ a o, Z₂ a = some (true, o) → Z₃ a = some (true, o)) ∧ Rel c env Z₃ ⟨σ.m, σ₂.L⟩ { s₂ with heap := h'', toks := tk } ∧ (∀ a, Z₂ a = Option.none → Z₃ a = Option.none) := by
  intro D₀ C cells cenv h'
  have size1 : (s.heap.push o₀).objs.size = C := Heap.size_push ..
  have size2 : ((s.heap.push o₀).push { cls := .type "dict", data := .dict #[] }).objs.size = C + 1 := by rw [Heap.size_push, size1]
  have bound : ∀ x ∈ scope.names, x.2 = .free → ∃ k v, env.cells.lookup x.1 = some k ∧ s.heap.IsCell k (some v) := fun x hx hk => by
    have := List.all_eq_true.mp ok.free x hx
    rw [hk] at this
    simp only [bne_self_eq_false, Bool.false_or, Bool.and_eq_true, bne_iff_ne, ne_eq] at this
    obtain ⟨d, hd⟩ := Option.isSome_iff_exists.mp this.1
    obtain ⟨k, v, e1, e2, _⟩ := r.f.cellv x.1 d hd this.2
    exact ⟨k, v, e1, e2⟩
  have hcl : ∀ x ∈ scope.names, x.2 = .free → (env.cells.lookup x.1).isSome = true := fun x hx hk => let ⟨k, _, e, _⟩ := bound x hx hk; by rw [e]; rfl
  have keep : ∀ a o, s.heap.get? a = some o → h'.get? a = some o := fun a o e => pushCells_keeps _ _ _ _ (Heap.get?_push_of_some _ (Heap.get?_push_of_some _ e))
  have own_ok := cellsFrom_ok scope.names ((s.heap.push o₀).push { cls := .type "dict", data := .dict #[] }) (C + 1) [] ⟨fun _ _ hm => (nomatch hm), List.Pairwise.nil⟩ (by rw [size2]; exact Nat.le_refl _)
  rw [size2] at own_ok
  have look : ∀ x k, cells.lookup x = some k → ((cellsFrom (C + 1) scope.names []).lookup x = some k ∧ C + 1 ≤ k ∧ h'.IsCell k Option.none) ∨ ((cellsFrom (C + 1) scope.names []).lookup x = Option.none ∧ env.cells.lookup x = some k ∧ k < s.heap.objs.size) := fun x k hk => by
    have hk' : (cellsFrom (C + 1) scope.names [] ++ clF env scope.names []).lookup x = some k := by rw [← cellsFrom_append]; exact hk
    rw [List.lookup_append] at hk'
    cases q : (cellsFrom (C + 1) scope.names []).lookup x with
    | some k' =>
      rw [q] at hk'; simp only [Option.some_or, Option.some.injEq] at hk'; subst hk'
      have := own_ok.empty x k' (mem_of_lookup q)
      exact .inl ⟨rfl, this.2, this.1⟩
    | none =>
      rw [q] at hk'; simp only [Option.none_or] at hk'
      rcases clF_lookup scope.names [] hcl k hk' with e | e
      · refine .inr ⟨rfl, e.2, ?_⟩
        obtain ⟨k', v, e1, e2⟩ := bound (x, .free) e.1 rfl
        rw [e.2] at e1; cases e1
        exact e2.lt
      · cases e
  have notOwn : ∀ a p, Z a = some p → ¬ Own env a := fun a o e q => by rw [(r.f.own a q).1] at e; cases e
  have some_of : ∀ a, Own env a → ∃ o, s.heap.get? a = some o := by
    rintro a (rfl | ⟨hlt, x, hx⟩)
    · obtain ⟨mv, ⟨o, es, ep, e1, e2, _⟩, _⟩ := r.f.ns
      exact ⟨o, e1⟩
    · obtain ⟨v₀, o, e2, e3⟩ := r.f.has x a hx hlt
      exact ⟨o, e2⟩
  let Zi : Zone := fun a => if Own env a then (s.heap.get? a).map fun o => (false, o) else Z a
  have li : ZLe Z Zi := fun a o e => by show (if Own env a then _ else _) = _; rw [if_neg (notOwn a o e)]; exact e
  have iown : ∀ a, Own env a → ∀ o, s.heap.get? a = some o → Zi a = some (false, o) := fun a q o e => by simp only [Zi, if_pos q, e]; rfl
  have fresh : ∀ a, s.heap.get? a = Option.none → Zi a = Option.none ∧ σ.L a = Option.none := fun a e => by
    obtain ⟨f1, f2, f3⟩ := r.fresh e
    exact ⟨by simp only [Zi, if_neg f3]; exact f1, f2⟩
  have gone : ∀ a, D₀ ≤ a → s.heap.get? a = Option.none := fun a ha => by
    cases q : s.heap.get? a with
    | none => rfl
    | some o => exact absurd (Heap.lt_size q) (Nat.not_lt.mpr ha)
  have ownC : ∀ a, Own cenv a → C ≤ a := by
    rintro a (rfl | ⟨hlt, _⟩)
    · exact Nat.le_refl _
    · exact Nat.le_of_lt hlt
  have minF : ∀ x d, get x min = some d → get x σ.m = some d ∧ env.kindOf x ≠ some .local ∧ cenv.kindOf x ≠ some .local ∧ (cenv.kindOf x = some .local ∨ cenv.kindOf x = some .cell ∨ cenv.kindOf x = some .free) := fun x d e => by
    have h1 := ok.isf x d e
    have h2 := List.all_eq_true.mp ok.free _ (mem_of_lookup h1)
    simp only [bne_self_eq_false, Bool.false_or, Bool.and_eq_true, bne_iff_ne, ne_eq] at h2
    have h3 : cenv.kindOf x = some .free ∨ cenv.kindOf x = some .cell := lookup_relabel_free h1
    refine ⟨ok.got x d e, h2.2, ?_, ?_⟩
    · rcases h3 with h3 | h3 <;> rw [h3] <;> intro q <;> cases q
    · rcases h3 with h3 | h3
      · exact .inr (.inr h3)
      · exact .inr (.inl h3)
  refine ⟨Zi, li, fun a q => by simp only [Zi, if_neg q], ⟨⟨?_, fun a o e => li a _ (r.g.base a o e), fun a p e => ?_, fun a x e => ?_⟩, ⟨⟨ok.kind, r.f.ok.globals, r.f.ok.builtins, fun x y k h1 h2 h3 => ?_⟩, ⟨_, (?_ : h'.Ns C fun _ => Option.none), fun x d e hl => ((minF x d e).2.2.1 hl).elim⟩,
    fun x d e => ⟨(r.f.kinds x d (minF x d e).1).1, (minF x d e).2.2.2⟩, fun x d e _ => ?_, fun x k hc hlt => ?_, fun a q => fresh a (gone a (Nat.le_trans (Nat.le_succ _) (ownC a q)))⟩⟩,
    ⟨(fresh D₀ (gone D₀ (Nat.le_refl _))).1, (fresh D₀ (gone D₀ (Nat.le_refl _))).2, fun q => Nat.not_succ_le_self _ (ownC D₀ q), ?_⟩, fun x hx => ?_, fun a o e => ⟨keep a o e, fun q => ?_⟩, fun Z₂ σ₂ s₂ l₂ r₂ h'' tk hs => ?_⟩
  · obtain ⟨h, t, rfl⟩ := r.g.rest; exact ⟨_, _, rfl⟩
  · by_cases q : Own env a
    · obtain ⟨o, e'⟩ := some_of a q
      rw [iown a q o e'] at e; cases e
      exact keep a o e'
    · simp only [Zi, if_neg q] at e; exact keep _ _ (r.g.zone a p e)
  · obtain ⟨z, o, e1, e2⟩ := r.g.cel a x e
    have q : ¬ Own env a := fun q => by rw [(r.f.own a q).2] at e; cases e
    exact ⟨by simp only [Zi, if_neg q]; exact z, o, keep a o e1, e2.gen fun a o e => li a _ e⟩
  · rcases look x k h1 with ⟨g1, _⟩ | ⟨_, _, g⟩
    · rcases look y k h2 with ⟨g2, _⟩ | ⟨_, _, g⟩
      · exact name_of_addr own_ok.apart (mem_of_lookup g1) (mem_of_lookup g2)
      · exact absurd h3 (Nat.not_lt.mpr (Nat.le_of_lt (Nat.lt_succ_of_lt g)))
    · exact absurd h3 (Nat.not_lt.mpr (Nat.le_of_lt (Nat.lt_succ_of_lt g)))
  · have := (Heap.Ns.new (s.heap.push o₀) (.type "dict")).keeps (pushCells_keeps scope.names _)
    rw [size1] at this
    exact this
  · obtain ⟨m1, m2, _, _⟩ := minF x d e
    obtain ⟨k, v, e1, e2, e3, e4⟩ := r.f.cellv x d m1 m2
    refine ⟨k, v, ?_, e2.keeps keep, e3.mono li, .inr ?_⟩
    · have hA : (cellsFrom (C + 1) scope.names []).lookup x = Option.none := by
        cases q : (cellsFrom (C + 1) scope.names []).lookup x with
        | none => rfl
        | some k' =>
          have h1 := List.all_eq_true.mp ok.once _ (cellsFrom_mem _ _ _ q)
          simp only [bne_self_eq_false, Bool.false_or, beq_iff_eq] at h1
          rw [ok.isf x d e] at h1; cases h1
      show (cellsFrom (C + 1) scope.names (clF env scope.names [])).lookup x = some k
      rw [cellsFrom_append, List.lookup_append, hA, Option.none_or]
      exact clF_some e1 _ _ (.inl (ok.isf x d e)) fun k hk => by cases hk
    · rcases e4 with e4 | ⟨p, e4⟩
      · obtain ⟨o, e5⟩ := some_of k (.inr ⟨e4, x, e1⟩)
        exact ⟨_, iown k (.inr ⟨e4, x, e1⟩) o e5⟩
      · exact ⟨p, li _ _ e4⟩
  · rcases look x k hc with ⟨_, _, g⟩ | ⟨_, _, g⟩
    · exact ⟨_, g⟩
    · exact absurd hlt (Nat.not_lt.mpr (Nat.le_of_lt (Nat.lt_succ_of_lt g)))
  · exact pushCells_keeps _ _ _ _ (Heap.get?_push_of_some _ (Heap.get?_push_size _ hfree₀))
  · obtain ⟨k, hk⟩ := Option.isSome_iff_exists.mp (cellsFrom_some scope.names (C + 1) (mem_of_lookup hx))
    refine ⟨k, ?_, (own_ok.empty x k (mem_of_lookup hk)).2⟩
    show (cellsFrom (C + 1) scope.names (clF env scope.names [])).lookup x = some k
    rw [cellsFrom_append, List.lookup_append, hk]; rfl
  · exact absurd (Heap.lt_size e) (Nat.not_lt.mpr (Nat.le_trans (Nat.le_succ _) (ownC a q)))
  · have zC : Z₂ C = Option.none := (r₂.f.own C (.inl rfl)).1
    have lC : σ₂.L C = Option.none := (r₂.f.own C (.inl rfl)).2
    let Z₃ : Zone := fun a => if Own env a then Option.none else Z₂ a
    have same : ∀ a, Own env a → ∀ o, s.heap.get? a = some o → Z₂ a = some (false, o) := fun a q o e => l₂ a _ (iown a q o e)
    have down : ∀ a o, Z₂ a = some (true, o) → Z₃ a = some (true, o) := fun a o e => by
      by_cases q : Own env a
      · obtain ⟨o', e1⟩ := some_of a q
        rw [same a q o' e1] at e; cases e
      · simp only [Z₃, if_neg q]; exact e
    have l' : ZLe Z Z₃ := fun a o e => by simp only [Z₃, if_neg (notOwn a o e)]; exact l₂ a o (li a o e)
    have zone₂ : ∀ a p, Z₂ a = some p → h''.get? a = some p.2 := fun a p e => (hs.2 a (by rintro rfl; rw [zC] at e; cases e)).trans (r₂.g.zone a p e)
    have keep₂ : ∀ a, Own env a → ∀ o, s.heap.get? a = some o → h''.get? a = some o := fun a q o e => zone₂ a _ (same a q o e)
    refine ⟨Z₃, l', down, ⟨⟨?_, fun a o e => l' a _ (r.g.base a o e), fun a o e => ?_, fun a x e => ?_⟩, ⟨r.f.ok, ?_, r.f.kinds, fun x d e k => ?_, fun x k hc hlt => ?_, fun a q => ⟨?_, ?_⟩⟩⟩, fun a e => ?_⟩
    · obtain ⟨h, t, rfl⟩ := r₂.g.rest; exact ⟨_, _, rfl⟩
    · by_cases q : Own env a
      · simp only [Z₃, if_pos q] at e; cases e
      · simp only [Z₃, if_neg q] at e; exact zone₂ a o e
    · obtain ⟨z, o, e1, e2⟩ := r₂.g.cel a x e
      refine ⟨?_, o, (hs.2 a (by rintro rfl; rw [lC] at e; cases e)).trans e1, e2.gen down⟩
      simp only [Z₃]; split <;> first | rfl | exact z
    · obtain ⟨mv, p, q⟩ := r.f.ns
      exact ⟨mv, p.at' (keep₂ _ (.inl rfl)), fun x d e k => let ⟨v, a, b⟩ := q x d e k; ⟨v, a, b.mono l'⟩⟩
    · obtain ⟨q, v, e1, ⟨o, e2, e2'⟩, e3, e4⟩ := r.f.cellv x d e k
      refine ⟨q, v, e1, ⟨o, ?_, e2'⟩, e3.mono l', ?_⟩
      · rcases e4 with e4 | ⟨p, e4⟩
        · exact keep₂ _ (.inr ⟨e4, x, e1⟩) o e2
        · have h1 := r.g.zone _ _ e4
          rw [e2] at h1; cases h1
          exact zone₂ _ _ (l₂ _ _ (li _ _ e4))
      · exact e4.imp id fun ⟨p, e4⟩ => ⟨p, l' _ _ e4⟩
    · obtain ⟨v, ⟨o, e2, e2'⟩⟩ := r.f.has x k hc hlt
      exact ⟨v, ⟨o, keep₂ _ (.inr ⟨hlt, x, hc⟩) o e2, e2'⟩⟩
    · simp only [Z₃, if_pos q]
    · cases h9 : σ₂.L a with
      | none => rfl
      | some x =>
        obtain ⟨o, e1⟩ := some_of a q
        have := (r₂.g.cel a x h9).1
        rw [same a q o e1] at this; cases this
    · simp only [Z₃]; split <;> first | rfl | exact e
end
end Mine
end
section
open PySem PySem.W PyProof.Rows
namespace Mine
section
variable {c : Cx} {n : Nat} {env : Env} {σ : Sig} {Z : Zone} {s : Shared} {A : Around} {pos : Pos}

/-- a list may be held without being read, and taken up again -/
theorem cel_apart {a : Addr} {x : Cel} (r : Rel c env Z (σ.cel a x) s) (ha : σ.L a = Option.none) : ∃ Z₁, ZLe Z Z₁ ∧ Rel c env Z₁ σ s ∧ (∀ b, Z b = Option.none → b ≠ a → Z₁ b = Option.none) ∧
    ∀ Z₂ σ₂ s₂, ZLe Z₁ Z₂ → Rel c env Z₂ σ₂ s₂ → ∃ Z₃, ZLe Z Z₃ ∧ (∀ b o, Z₂ b = some (true, o) → Z₃ b = some (true, o)) ∧ σ₂.L a = Option.none ∧ Rel c env Z₃ (σ₂.cel a x) s₂ ∧ (∀ b p, b ≠ a → Z₂ b = some p → Z₃ b = some p) := by
  have hl : (σ.cel a x).L a = some x := by simp only [Sig.cel, setL, if_true]
  obtain ⟨hz, o, ho, hx⟩ := r.g.cel a x hl
  let Z₁ : Zone := fun b => if b = a then some (false, o) else Z b
  have l₁ : ZLe Z Z₁ := fun b p e => by simp only [Z₁]; rw [if_neg (by rintro rfl; rw [hz] at e; cases e)]; exact e
  have notOwn : ¬ Own env a := fun q => by rw [(r.f.own a q).2] at hl; cases hl
  have r₀ : Rel c env Z σ s := r.le ⟨fun _ _ e => e, fun b y e => by
      simp only [Sig.cel, setL]; rw [if_neg (by rintro rfl; rw [ha] at e; cases e)]; exact e⟩
  refine ⟨Z₁, l₁, r₀.hold l₁ fun b p e => ?_, fun b e q => by simp only [Z₁, if_neg q]; exact e, fun Z₂ σ₂ s₂ l₂ r₂ => ?_⟩
  · simp only [Z₁] at e
    by_cases q : b = a
    · subst q; rw [if_pos rfl] at e; cases e; exact .inr ⟨ho, notOwn, ha⟩
    · rw [if_neg q] at e; exact .inl e
  have ha₂ : Z₂ a = some (false, o) := l₂ a _ (by simp only [Z₁, if_true])
  let Z₃ : Zone := fun b => if b = a then Option.none else Z₂ b
  have hd : ∀ b o', Z₂ b = some (true, o') → Z₃ b = some (true, o') := fun b o' e => by
    simp only [Z₃]; rw [if_neg (by rintro rfl; rw [ha₂] at e; cases e)]; exact e
  have l₃ : ZLe Z Z₃ := fun b p e => by
    simp only [Z₃]; rw [if_neg (by rintro rfl; rw [hz] at e; cases e)]; exact l₂ b p (l₁ b p e)
  have hla : σ₂.L a = Option.none := by
    cases h' : σ₂.L a with
    | none => rfl
    | some y => have := (r₂.g.cel a y h').1; rw [ha₂] at this; cases this
  have ncell : ∀ v, o.data ≠ .cell (some v) := by
    intro v e
    cases x with
    | list ds => obtain ⟨vs, m, rfl, _⟩ := hx; cases e
    | iter ds => obtain ⟨l, ol, vs, i, _, _, _, e2, _⟩ := hx; rw [e2] at e; cases e
  have r₃ : Rel c env Z₃ σ₂ s₂ := r₂.drop (fun b p e => by simp only [Z₃] at e; split at e <;> first | cases e | exact e) hd fun k p v e e' => by
    simp only [Z₃]; rw [if_neg ?_]; exact e
    rintro rfl
    rw [ha₂] at e; cases e
    exact ncell v e'
  exact ⟨Z₃, l₃, hd, hla, r₃.newCel (by simp only [Z₃, if_true]) (fun q => notOwn q) (r₂.g.zone _ _ ha₂) (hx.gen fun b o' e => l₃ b _ e), fun b p q e => by simp only [Z₃, if_neg q]; exact e⟩

noncomputable def ATs (c : Cx) (n : Nat) (env : Env) : List Expr → Sig → (Bool → Sig → Prop) → Prop
  | [], σ, Q => Q true σ
  | [t], σ, Q => AT c n env t σ Q
  | _, _, _ => False
/-- the turns of a comprehension: the items to come, what was made -/
noncomputable def ACmp (c : Cx) (n : Nat) (env : Env) (target : Expr) (ifs : List Expr) (elt : Expr) (E : List D → Sig → Prop) : List D → List D → Sig → Prop
  | [], acc, σ => E acc σ
  | d :: ds, acc, σ => AS c n env target d σ (fun σ₁ => ATs c n env ifs σ₁ (fun b σ₂ => if b = true then AE c n env elt σ₂ (fun v σ₃ => ACmp c n env target ifs elt E ds (acc ++ [v]) σ₃) else ACmp c n env target ifs elt E ds acc σ₂))

theorem ATs.run {ifs : List Expr} {Q : Bool → Sig → Prop} (h : ATs c n env ifs σ Q) (hr : Room n A) (r : Rel c env Z σ s) :
    wpc c A (forIn ifs true fun c r => if r = true then do let ok ← isTrue c env (eval c env); pure (ForInStep.yield ok) else pure (ForInStep.yield r)) (Post c env Z (fun _ b a => a = b) Q) s := by
  match ifs, h with
  | [], h => exact wpAny_tests_nil (.pure r rfl h)
  | [t], h => exact wpAny_tests_one (h Z A s hr r)

theorem comp_loop {target iter elt : Expr} {ifs : List Expr} {scope : Scope} {it : Value} {items acc : List D} {a : Addr} {wr : List Addr} {St : List D → Heap → Prop} {Fin : Heap → Prop} {E : List D → Sig → Prop} {QR : Result → Shared → Prop}
    (hr : Room n A) (r : Rel c env Z (σ.cel a (.list acc)) s) (ha : σ.L a = Option.none) (W : Stp c A target it Z wr St Fin) (hst : St items s.heap) (hf : Free env Z (σ.cel a (.list acc)) wr)
    (h : ACmp c n env target ifs elt E items acc σ) (hlen : acc.length + items.length ≤ 1000)
    (hE : ∀ Z' σ' acc' s', ZLe Z Z' → Rel c env Z' (σ'.cel a (.list acc')) s' → σ'.L a = Option.none → Free env Z' (σ'.cel a (.list acc')) wr → Fin s'.heap → E acc' σ' → QR (.ok .next) s') :
    codeAny (model c.prog c.w) A (.compLoop (.ListComp elt [⟨target, iter, ifs, 0⟩] scope pos) 0 it (.ref a) env) QR s := by
  refine codeAny_loop rfl (fun k s => ∃ Z' σ' ds acc, ds.length = k ∧ ZLe Z Z' ∧ Rel c env Z' (σ'.cel a (.list acc)) s ∧ σ'.L a = Option.none ∧ Free env Z' (σ'.cel a (.list acc)) wr ∧ St ds s.heap ∧ acc.length + ds.length ≤ 1000 ∧ ACmp c n env target ifs elt E ds acc σ') ?_
    items.length ⟨Z, σ, items, acc, rfl, .refl Z, r, ha, hf, hst, hlen, h⟩
  rintro k s ⟨Z₁, σ₁, ds, acc, rfl, l₁, r₁, ha₁, hf₁, hst₁, hlen₁, h₁⟩
  show wpAny _ A ((compTurn (.ListComp elt [⟨target, iter, ifs, 0⟩] scope pos) 0 it (.ref a) env).onRaise (fun x => do noteFrame x env; theTreesLotGoes x)) _ _ s
  refine wpAny_noted ?_
  rw [compTurn_list]
  refine wpAny_bind (wpAny_standAt (wpAny_bind ?_))
  have zone : ∀ b p, Z b = some p → s.heap.get? b = some p.2 := fun b p e => r₁.g.zone b p (l₁ b p e)
  have wra : ∀ b ∈ wr, b ≠ a := fun b hb e => by
    have := (hf₁ b hb).2.1
    subst e
    simp [Sig.cel, setL] at this
  cases ds with
  | nil =>
    refine wpAny_mono (W.done s (fun s₁ => QR (.ok .next) s₁) hst₁ zone fun h' tk hk hfin => ?_) (fun o s₂ q => ?_) fun _ _ e => e.elim
    · obtain ⟨Z₂, l₂, r₂, f₂, _⟩ := taken (tk := tk) (d := .none) (v := .none) r₁ hf₁ (fun b q => let ⟨o, e, _⟩ := W.alive _ _ hst₁ b q; ⟨o, e⟩) l₁ hk (.old (by simp only [Rep]))
      exact hE Z₂ σ₁ acc _ (l₁.trans l₂) r₂ ha₁ f₂ hfin h₁
    · obtain ⟨rfl, q⟩ := q
      exact wpAny_pure q
  | cons d ds =>
    refine wpAny_mono (W.item d ds s (fun v s₂ => ∃ Z₂, ZLe Z₁ Z₂ ∧ Rel c env Z₂ (σ₁.cel a (.list acc)) s₂ ∧ Free env Z₂ (σ₁.cel a (.list acc)) wr ∧ Rep Z₂ d v ∧ St ds s₂.heap) hst₁ zone fun v h' tk hk hst₂ hv => ?_) (fun o s₂ q => ?_) fun _ _ e => e.elim
    · obtain ⟨Z₂, l₂, r₂, f₂, e₂⟩ := taken (tk := tk) r₁ hf₁ (fun b q => let ⟨o, e, _⟩ := W.alive _ _ hst₁ b q; ⟨o, e⟩) l₁ hk hv
      exact ⟨Z₂, l₂, r₂, f₂, e₂, hst₂⟩
    · obtain ⟨v, rfl, q⟩ := q
      refine wpAny_bind (wpAny_mono q (fun _ s₃ ⟨Z₂, l₂, r₂, f₂, e₂, hst₂⟩ => ?_) fun _ _ e => e.elim)
      obtain ⟨Z₃, l₃, r₃, in₃, back₃⟩ := held r₂ f₂ (W.alive _ _ hst₂)
      obtain ⟨Z₄, l₄, r₄, _, back₄⟩ := cel_apart r₃ ha₁
      have l₁₂ : ZLe Z Z₂ := l₁.trans l₂
      have stay : ∀ (Z₆ : Zone) (s₆ : Shared), ZLe Z₂ Z₆ → (∀ b ∈ wr, ∀ o, s₃.heap.get? b = some o → s₆.heap.get? b = some o) → (∀ b p, Z₆ b = some p → s₆.heap.get? b = some p.2) → St ds s₆.heap :=
        fun Z₆ s₆ l₆ k₆ z₆ => W.frame _ _ _ hst₂ k₆ fun b p e => z₆ b p (l₆ b p (l₁₂ b p e))
      refine wpAny_bind (wpAny_mono (h₁ Z₄ A s₃ v hr r₄ ((e₂.mono l₃).mono l₄)) (fun _ s₅ ⟨Z₅, σ₅, l₅, r₅, h₅⟩ => ?_) fun _ _ e => e.elim)
      refine wpAny_bind (wpAny_mono (ATs.run h₅ hr r₅) (fun ok s₆ hpz => hpz.elim fun Z₆ σ₆ b l₆ r₆ e₆ h₆ => ?_) fun _ _ e => e.elim)
      subst e₆
      cases ok with
      | false =>
        simp only [Bool.false_eq_true, if_false] at h₆ ⊢
        obtain ⟨Z₇, l₇, _, ha₇, r₇, _⟩ := back₄ Z₆ σ₆ s₆ (l₅.trans l₆) r₆
        obtain ⟨Z₈, l₈, _, r₈, f₈, k₈⟩ := back₃ Z₇ (σ₆.cel a (.list acc)) s₆ l₇ r₇
        exact wpAny_pure ⟨rfl, ds.length, by simp, Z₈, σ₆, ds, acc, rfl, l₁₂.trans l₈, r₈, ha₇, f₈, stay Z₈ s₆ l₈ k₈ r₈.g.zone, by simp only [List.length_cons] at hlen₁; (first | lia | omega), h₆⟩
      | true =>
        simp only [if_true] at h₆ ⊢
        refine wpAny_bind (wpAny_bind (wpAny_mono (h₆ Z₆ A s₆ hr r₆) (fun x s₇ hpz => hpz.elim fun Z₇ σ₇ d' l₇ r₇ e₇ h₇ => ?_) fun _ _ e => e.elim))
        obtain ⟨Z₈, l₈, d₈, ha₈, r₈, _⟩ := back₄ Z₇ σ₇ s₇ (l₅.trans (l₆.trans l₇)) r₇
        have hl₈ : (σ₇.cel a (.list acc)).L a = some (.list acc) := by simp only [Sig.cel, setL, if_true]
        obtain ⟨vs, m, hil, hvs⟩ := r₈.isL hl₈
        refine wpAny_bind (wpAny_list_append_plain (items := vs.toArray) ⟨m, hil⟩ (fun h' hpl hs => ?_) ?_)
        · obtain ⟨m', hpl⟩ := hpl
          have r₉ := r₈.cel hl₈ hs hpl (x := .list (acc ++ [d'])) ⟨vs ++ [x], m', by simp, hvs.append (RepL.cons (e₇.gen d₈) RepL.nil)⟩ s₇.toks
          have esig : (σ₇.cel a (.list acc)).cel a (.list (acc ++ [d'])) = σ₇.cel a (.list (acc ++ [d'])) := by
            simp only [Sig.cel]; congr 1; funext b; simp only [setL]; split <;> rfl
          rw [esig] at r₉
          obtain ⟨Z₉, l₉, _, r₉', f₉, k₉⟩ := back₃ Z₈ _ _ l₈ r₉
          exact wpAny_pure (wpAny_pure ⟨rfl, ds.length, by simp, Z₉, σ₇, ds, acc ++ [d'], rfl, l₁₂.trans l₉, r₉', ha₈, f₉, stay Z₉ _ l₉ k₉ r₉'.g.zone, by simp only [List.length_cons, List.length_append, List.length_nil] at hlen₁ ⊢; (first | lia | omega), h₇⟩)
        · have : (1000 : Nat) ≤ sizeLine := by decide
          have := hvs.length
          simp only [List.size_toArray, List.length_cons] at hlen₁ ⊢
          (first | lia | omega)
end
end Mine
end
section
open PySem PySem.W PyProof.Rows
namespace Mine
section
variable {c : Cx} {n : Nat} {env : Env} {σ : Sig} {Z : Zone} {s : Shared} {A : Around} {pos : Pos}

theorem Rel.sameBut {a : Addr} {h' : Heap} (r : Rel c env Z σ s) (hz : Z a = Option.none) (hl : σ.L a = Option.none) (hn : ¬ Own env a) (hs : Heap.SameBut a s.heap h') (tk : Nat) : Rel c env Z σ { s with heap := h', toks := tk } := by
  refine ⟨r.g.sameBut hz hl hs tk, ⟨r.f.ok, let ⟨mv, p, q⟩ := r.f.ns; ⟨mv, p.sameBut hs (fun e => hn (.inl e.symm)), q⟩, r.f.kinds, fun x d e k => ?_, fun x k hc hlt => ?_, r.f.own⟩⟩
  · obtain ⟨q, v, e1, e2, e3, e4⟩ := r.f.cellv x d e k
    refine ⟨q, v, e1, e2.sameBut hs ?_, e3, e4⟩
    rcases e4 with e4 | ⟨p, e4⟩
    · rintro rfl; exact hn (.inr ⟨e4, x, e1⟩)
    · rintro rfl; rw [hz] at e4; cases e4
  · obtain ⟨v, e2⟩ := r.f.has x k hc hlt
    exact ⟨v, e2.sameBut hs (by rintro rfl; exact hn (.inr ⟨hlt, x, hc⟩))⟩

theorem Stp.up {target : Expr} {it : Value} {wr : List Addr} {St : List D → Heap → Prop} {Fin : Heap → Prop} {Z' : Zone} (W : Stp c A target it Z wr St Fin) (l : ZLe Z Z') : Stp c A target it Z' wr St Fin where
  frame := fun ds h h' st hw hz => W.frame ds h h' st hw fun a p e => hz a p (l a p e)
  alive := W.alive
  item := fun d ds s K st hz hK => W.item d ds s K st (fun a p e => hz a p (l a p e)) fun v h' tk hk st' ⟨Z₁, h1, h2⟩ => hK v h' tk hk st' ⟨fun a => (Z' a).or (Z₁ a), fun a p e => by
      cases q : Z' a with
      | some p' => simp only [q, Option.some_or] at e; exact .inl e
      | none =>
        simp only [q, Option.none_or] at e
        rcases h1 a p e with e' | e'
        · have := l a p e'; rw [q] at this; cases this
        · exact .inr e', h2.gen fun a o e => by
      cases q : Z' a with
      | none => simp only [Option.none_or]; exact e
      | some p' =>
        simp only [Option.some_or]
        rcases h1 a _ e with e' | e'
        · have := l a _ e'; rw [q] at this; exact this
        · have := hz a p' q; rw [e'.2] at this; cases this⟩
  self := W.self
  done := fun s K st hz hK => W.done s K st (fun a p e => hz a p (l a p e)) hK

/-- a comprehension behind its iterator -/
theorem comp_core {target iter elt : Expr} {ifs : List Expr} {scope : Scope} {min : List (Str × D)} {it : Value} {items : List D} {wr : List Addr} {St : List D → Heap → Prop} {Fin : Heap → Prop} {E : List D → Sig → Prop}
    {QQ : Value → Shared → Prop} (use : Option (Value → Sem Unit)) (hr : Room n A) (r : Rel c env Z σ s) (W : Stp c A target it Z wr St Fin) (hst : St items s.heap) (hf : Free env Z σ wr) (ok : CompOk scope env σ.m min) (hlen : items.length ≤ 1000)
    (h : ∀ e : Env, (∀ x, scope.names.lookup x = some .cell → ∃ k, e.cells.lookup x = some k ∧ e.locals < k) → ACmp c n (withScope (relabel scope env) e) target ifs elt E items [] ⟨min, σ.L⟩)
    (hQ : ∀ Z' σ₂ acc a C s', ZLe Z Z' → Rel c env Z' (Sig.cel ⟨σ.m, σ₂.L⟩ a (.list acc)) s' → σ₂.L a = Option.none → Free env Z' (Sig.cel ⟨σ.m, σ₂.L⟩ a (.list acc)) wr → Fin s'.heap → E acc σ₂ →
      (∃ m, s'.heap.Ns C m) → Z' C = Option.none → (Sig.cel ⟨σ.m, σ₂.L⟩ a (.list acc)).L C = Option.none → ¬ Own env C → C ∉ wr → compPost (model c.prog c.w) A (fun _ _ => False) use QQ (.ref a) C (.ok .next) s') :
    wpc c A (newList []) (fun acc s₃ => wpc c A (newFunctionEnv scope env.globals (clF env scope.names []) [] env.qual Option.none .none (some env)) (fun cenv s₄ =>
      codeAny (model c.prog c.w) A (.compStart (.ListComp elt [⟨target, iter, ifs, 0⟩] scope pos) 0 it acc { cenv with scope := relabel scope env }) (compPost (model c.prog c.w) A (fun _ _ => False) use QQ acc cenv.locals) s₄) s₃) s := by
  refine wpAny_newObj_type ?_
  have F := comp_frame (qual := env.qual) (o₀ := { cls := .type "list", dict := Option.none, data := .seq ([] : List Value).toArray }) rfl r ok
  obtain ⟨Zi, li, zi, ri, ⟨dz, dl, dO, dh⟩, hown, hold, out⟩ := F
  simp only [newFunctionEnv, Option.isSome_some, if_true]
  refine wpAny_bind (wpAny_alloc ?_)
  refine wpAny_bind (wpAny_layCells _ (fun name kind cells => by cases hkc : kind == NameKind.cell <;> simp [hkc]) _ _ _ _ ?_)
  refine wpAny_bind ?_
  rw [List.forIn_nil]
  refine wpAny_pure (wpAny_pure ?_)
  have sz : ∀ o o' : Obj, ((s.heap.push o).push o').objs.size = s.heap.objs.size + 1 + 1 := fun o o' => by rw [Heap.size_push, Heap.size_push]
  have sz1 : ∀ o : Obj, (s.heap.push o).objs.size = s.heap.objs.size + 1 := fun o => Heap.size_push ..
  simp only [sz, sz1]
  -- the frame within
  have hrel : Rel c { scope := relabel scope env, locals := s.heap.objs.size + 1, globals := env.globals, cells := cellsFrom (s.heap.objs.size + 1 + 1) scope.names (clF env scope.names []), qual := env.qual, func := Option.none, code := env.code, frame := env.frame, builtins := env.builtins } Zi
      (Sig.cel ⟨min, σ.L⟩ s.heap.objs.size (.list [])) { s with heap := pushCells ((s.heap.push { cls := .type "list", dict := Option.none, data := .seq ([] : List Value).toArray }).push { cls := .type "dict", data := .dict #[] }) scope.names } :=
    ri.newCel dz dO dh ⟨[], 0, rfl, RepL.nil⟩
  have hst' : St items (pushCells ((s.heap.push { cls := .type "list", dict := Option.none, data := .seq ([] : List Value).toArray }).push { cls := .type "dict", data := .dict #[] }) scope.names) :=
    W.frame _ _ _ hst (fun b _ o e => (hold b o e).1) fun a p e => (hold a _ (r.g.zone a p e)).1
  have hne : ∀ b ∈ wr, b ≠ s.heap.objs.size := fun b hb e => by
    obtain ⟨o, ho, _⟩ := W.alive _ _ hst b hb
    exact absurd (Heap.lt_size ho) (by rw [e]; exact Nat.lt_irrefl _)
  have hnC : s.heap.objs.size + 1 ∉ wr := fun hb => by
    obtain ⟨o, ho, _⟩ := W.alive _ _ hst _ hb
    exact absurd (Heap.lt_size ho) (Nat.not_lt.mpr (Nat.le_succ _))
  have hfi : Free { scope := relabel scope env, locals := s.heap.objs.size + 1, globals := env.globals, cells := cellsFrom (s.heap.objs.size + 1 + 1) scope.names (clF env scope.names []), qual := env.qual, func := Option.none, code := env.code, frame := env.frame, builtins := env.builtins } Zi
      (Sig.cel ⟨min, σ.L⟩ s.heap.objs.size (.list [])) wr := fun b hb => by
    obtain ⟨o, ho, _⟩ := W.alive _ _ hst b hb
    refine ⟨by rw [zi b (hf b hb).2.2]; exact (hf b hb).1, ?_, (hold b o ho).2⟩
    simp only [Sig.cel, setL]; rw [if_neg (hne b hb)]; exact (hf b hb).2.1
  have ownE : ¬ Own env (s.heap.objs.size + 1) := (r.fresh (a := s.heap.objs.size + 1) (by
    cases q : s.heap.get? (s.heap.objs.size + 1) with
    | none => rfl
    | some o => exact absurd (Heap.lt_size q) (Nat.not_lt.mpr (Nat.le_succ _)))).2.2
  have loop := comp_loop (pos := pos) (iter := iter) (scope := scope) (QR := compPost (model c.prog c.w) A (fun _ _ => False) use QQ (.ref s.heap.objs.size) (s.heap.objs.size + 1)) hr hrel dl (W.up li) hst' hfi (h { scope := relabel scope env, locals := s.heap.objs.size + 1, globals := env.globals, cells := cellsFrom (s.heap.objs.size + 1 + 1) scope.names (clF env scope.names []), qual := env.qual, func := Option.none, code := env.code, frame := env.frame, builtins := env.builtins } hown) (by simpa using hlen) fun Z' σ' acc' s' l' r' ha' f' fin' e' => by
    obtain ⟨Z₃, l₃, d₃, r₃, n₃⟩ := out Z' (σ'.cel s.heap.objs.size (.list acc')) s' l' r' s'.heap s'.toks (Heap.SameBut.refl ..)
    have hC := r'.f.own (s.heap.objs.size + 1) (.inl rfl)
    exact hQ Z₃ σ' acc' s.heap.objs.size (s.heap.objs.size + 1) s' l₃ r₃ ha' (fun b hb => ⟨n₃ b (f' b hb).1, (f' b hb).2.1, (hf b hb).2.2⟩) fin' e' (let ⟨mv, p, _⟩ := r'.f.ns; ⟨mv, p⟩) (n₃ _ hC.1) hC.2 ownE hnC
  exact codeAny_compStart_list loop (wpAny_mono (W.self items _ (fun it' s' => codeAny (model c.prog c.w) A (.compLoop (.ListComp elt [⟨target, iter, ifs, 0⟩] scope pos) 0 it' (.ref s.heap.objs.size) _) _ s') hst' loop) (fun _ _ e => e) fun _ _ e => e.elim)

theorem CompOk.closure {scope : Scope} {min : List (Str × D)} (ok : CompOk scope env σ.m min) (r : Rel c env Z σ s) : closureFor scope env = pure (clF env scope.names []) := by
  refine closure_eq fun x hx hk => ?_
  have := List.all_eq_true.mp ok.free x hx
  rw [hk] at this
  simp only [bne_self_eq_false, Bool.false_or, Bool.and_eq_true, bne_iff_ne, ne_eq] at this
  obtain ⟨d, hd⟩ := Option.isSome_iff_exists.mp this.1
  obtain ⟨k, v, e1, _⟩ := r.f.cellv x.1 d hd this.2
  rw [e1]; rfl
theorem CompOk.locals {scope : Scope} {m min : List (Str × D)} (ok : CompOk scope env m min) : ∀ x ∈ scope.names, x.2 = .local → scope.names.lookup x.1 = some .local := fun x hx hk => by
  have := List.all_eq_true.mp ok.names x hx
  rw [hk] at this
  simpa using this

/-- the same scope, its closure known beforehand -/
theorem comp_eval {target iter elt : Expr} {ifs : List Expr} {scope : Scope} {min : List (Str × D)} {Q : Value → Shared → Prop} (use : Option (Value → Sem Unit)) (r : Rel c env Z σ s) (ok : CompOk scope env σ.m min)
    (h : wpc c A (eval iter env) (fun x s₁ => wpc c A (pyIter x) (fun it s₂ => wpc c A (newList []) (fun acc s₃ => wpc c A (newFunctionEnv scope env.globals (clF env scope.names []) [] env.qual Option.none .none (some env)) (fun cenv s₄ =>
      codeAny (model c.prog c.w) A (.compStart (.ListComp elt [⟨target, iter, ifs, 0⟩] scope pos) 0 it acc { cenv with scope := relabel scope env }) (compPost (model c.prog c.w) A (fun _ _ => False) use Q acc cenv.locals) s₄) s₃) s₂) s₁) s)
    (hs : ∀ x, foldedSetIterable iter env x = pure x) (p : Pos) :
    wpc c A (comprehension (.ListComp elt [⟨target, iter, ifs, 0⟩] scope pos) scope env p (newList []) false (eval iter env) use) Q s :=
  wpAny_comprehension_free (g := ⟨target, iter, ifs, 0⟩) (gs := []) rfl hs (ok.closure r) ok.kind ok.locals h

variable {target iter elt : Expr} {ifs : List Expr} {scope : Scope} {min : List (Str × D)}
/-- a comprehension's list, which may change later -/
theorem AE.comp {Q : D → Sig → Prop} (ok : CompOk scope env σ.m min)
    (h : AEI c n env target iter (fun _ => True) σ (fun items σ₁ => σ₁.m = σ.m ∧ items.length ≤ 1000 ∧ ∀ e : Env, (∀ x, scope.names.lookup x = some .cell → ∃ k, e.cells.lookup x = some k ∧ e.locals < k) →
      ACmp c n (withScope (relabel scope env) e) target ifs elt (fun acc σ₂ => ∀ a, σ₂.L a = Option.none → Q (.val (.ref a)) (Sig.cel ⟨σ.m, σ₂.L⟩ a (.list acc))) items [] ⟨min, σ₁.L⟩))
    (hs : ∀ x, foldedSetIterable iter env x = pure x := by intro _; rfl) : AE c n env (.ListComp elt [⟨target, iter, ifs, 0⟩] scope pos) σ Q := fun Z A s hr r => by
  rw [eval_ListComp]
  refine comp_eval Option.none r ok (wpAny_mono (h Z A s hr r) (fun v s₁ h₁ => wpAny_mono h₁ (fun it s₂ hq1 => ?_) fun _ _ e => e) fun _ _ e => e) hs _
  obtain ⟨Z₂, σ₂, items, l₂, r₂, ⟨wr, St, W, hst, hf⟩, hm, hlen, h₂⟩ := hq1
  refine comp_core Option.none hr r₂ W hst hf (by rw [hm]; exact ok) hlen h₂ fun Z' σ₃ acc a C s' l' r' ha f' _ e' hn hz hl ho hw => ?_
  refine ⟨_, hn.choose_spec, fun h' hs' => ?_⟩
  have := r'.sameBut hz hl ho hs' s'.toks
  rw [hm] at this
  exact ⟨Z', _, _, l₂.trans l', this, by simp only [Rep], e' a ha⟩
/-- x = [.. for ..]: the name is stored first, then the comprehension's own names go -/
theorem AX.assignComp {Q : F → Sig → Prop} {rest : List Stmt} {x : Str} {px spos : Pos} (ok : CompOk scope env σ.m min)
    (h : AEI c n env target iter (fun _ => True) σ (fun items σ₁ => σ₁.m = σ.m ∧ items.length ≤ 1000 ∧ ∀ e : Env, (∀ x, scope.names.lookup x = some .cell → ∃ k, e.cells.lookup x = some k ∧ e.locals < k) →
      ACmp c n (withScope (relabel scope env) e) target ifs elt (fun acc σ₂ => ∀ a, σ₂.L a = Option.none → AX c n env rest ((Sig.cel ⟨σ.m, σ₂.L⟩ a (.list acc)).put x (.val (.ref a))) Q) items [] ⟨min, σ₁.L⟩))
    (hx : Sto env x := by exact ⟨rfl, .inl rfl⟩) (hsw : swapsWith (.ListComp elt [⟨target, iter, ifs, 0⟩] scope pos) (some (.Name x px)) spos.line env = pure true := by rfl)
    (hs : ∀ x, foldedSetIterable iter env x = pure x := by intro _; rfl) : AX c n env (.Assign [.Name x px] (.ListComp elt [⟨target, iter, ifs, 0⟩] scope pos) spos :: rest) σ Q := by
  refine .then_ fun Z A s hr r => ?_
  rw [exec_Assign_Name_used _ _ _ _ hsw]
  refine wpAny_bind (wpAny_standAt (wpAny_bind ?_))
  have : evalThenUse (.ListComp elt [⟨target, iter, ifs, 0⟩] scope pos) env (PySem.assign (.Name x px) env) = (do
      let _ ← comprehension (.ListComp elt [⟨target, iter, ifs, 0⟩] scope pos) scope env (firstIterPos [⟨target, iter, ifs, 0⟩] pos) (newList []) false (eval iter env) (some (PySem.assign (.Name x px) env)); pure ()) := by rfl
  rw [this]
  refine wpAny_bind (comp_eval (some (PySem.assign (.Name x px) env)) r ok (wpAny_mono (h Z A s hr r) (fun v s₁ h₁ => wpAny_mono h₁ (fun it s₂ hq1 => ?_) fun _ _ e => e) fun _ _ e => e) hs _)
  obtain ⟨Z₂, σ₂, items, l₂, r₂, ⟨wr, St, W, hst, hf⟩, hm, hlen, h₂⟩ := hq1
  refine comp_core (some (PySem.assign (.Name x px) env)) hr r₂ W hst hf (by rw [hm]; exact ok) hlen h₂ fun Z' σ₃ acc a C s' l' r' ha f' _ e' hq1 hz hl ho hw => ?_
  obtain ⟨mC, hnC⟩ := hq1
  obtain ⟨oC, es, ep, hoC, hdC, hk1, hk2⟩ := hnC
  let Zc : Zone := fun b => if b = C then some (false, oC) else Z' b
  have lc : ZLe Z' Zc := fun b p e => by simp only [Zc]; rw [if_neg (by rintro rfl; rw [hz] at e; cases e)]; exact e
  have rc := r'.hold lc fun b p e => by
    simp only [Zc] at e
    by_cases q : b = C
    · subst q; rw [if_pos rfl] at e; cases e; exact .inr ⟨hoC, ho, hl⟩
    · rw [if_neg q] at e; exact .inl e
  refine wpAny_assign_Name (store_var rc hx (d := .val (.ref a)) (by simp only [Rep]) fun s'' r'' => ?_)
  have hoC'' : s''.heap.get? C = some oC := r''.g.zone C (false, oC) (by simp only [Zc, if_true])
  refine ⟨mC, ⟨oC, es, ep, hoC'', hdC, hk1, hk2⟩, fun h' hs' => wpAny_pure (wpAny_pure ?_)⟩
  have rd := r''.drop (Z' := Z') (fun b p e => lc b p e) (fun b o e => by
    simp only [Zc] at e; split at e
    · cases e
    · exact e) fun k p v e e' => by
    simp only [Zc] at e; split at e
    · cases e; simp only at e'; rw [hdC] at e'; cases e'
    · exact e
  have := rd.sameBut hz hl ho hs' s''.toks
  rw [hm] at this
  exact ⟨Z', _, l₂.trans l', this, rfl, e' a ha⟩
end
end Mine
end
section
open PySem PySem.W PyProof.Rows
namespace Mine

theorem put_put (x : Str) (d d' : D) : ∀ m, put x d' (put x d m) = put x d' m
  | [] => by simp [put]
  | (y, e) :: r => by
    unfold put
    by_cases h : x = y
    · subst h; simp [put]
    · simp only [if_neg h, put, put_put x d d' r]

theorem thousand : (1000 : Nat) ≤ sizeLine := by decide
section
variable {c : Cx} {n : Nat} {env : Env} {σ : Sig} {Z : Zone} {s : Shared} {A : Around} {pos : Pos} {Q : D → Sig → Prop}

/-- a new list that stays as it is -/
theorem Post.newL {ds : List D} {vs : List Value} {tk : Nat} (r : Rel c env Z σ s) (hv : RepL Z ds vs) (h : Q (.lst ds) σ) :
    Post c env Z Rep Q (.ref s.heap.objs.size) { s with heap := s.heap.push { cls := .type "list", data := .seq vs.toArray }, toks := tk } := by
  obtain ⟨Z', l, hz, r'⟩ := r.new { cls := .type "list", data := .seq vs.toArray } rfl tk
  refine ⟨Z', σ, _, l, r', ?_, h⟩
  simp only [Rep]
  exact ⟨_, _, vs, rfl, hz, ⟨rfl, _, rfl⟩, hv.mono l⟩
theorem Post.newT {ds : List D} {vs : List Value} {tk : Nat} (r : Rel c env Z σ s) (hv : RepL Z ds vs) (h : Q (.tup ds) σ) :
    Post c env Z Rep Q (.ref s.heap.objs.size) { s with heap := s.heap.push { cls := .type "tuple", data := .seq vs.toArray }, toks := tk } := by
  obtain ⟨Z', l, hz, r'⟩ := r.new { cls := .type "tuple", data := .seq vs.toArray } rfl tk
  refine ⟨Z', σ, _, l, r', ?_, h⟩
  simp only [Rep]
  exact ⟨_, _, vs, rfl, hz, ⟨rfl, _, rfl⟩, hv.mono l⟩
/-- a new list that may change -/
theorem Post.newM {ds : List D} {vs : List Value} {tk : Nat} (r : Rel c env Z σ s) (hv : RepL Z ds vs) (h : ∀ a, σ.L a = Option.none → Q (.val (.ref a)) (σ.cel a (.list ds))) :
    Post c env Z Rep Q (.ref s.heap.objs.size) { s with heap := s.heap.push { cls := .type "list", data := .seq vs.toArray }, toks := tk } := by
  have hf := r.fresh (get_size s.heap)
  have r' : Rel c env Z σ { s with heap := s.heap.push { cls := .type "list", data := .seq vs.toArray }, toks := tk } := r.keeps fun _ _ e => Heap.get?_push_of_some _ e
  exact ⟨Z, _, _, .refl Z, r'.newCel hf.1 hf.2.2 (Heap.get?_push_size _ rfl) (x := .list ds) ⟨vs, _, rfl, hv⟩, by simp only [Rep], h _ hf.2.1⟩

/-! displays -/
theorem AE.listF {elts : List Expr} (h : AA c n env pos elts σ (fun ds σ₁ => ds.length ≤ 1000 ∧ Q (.lst ds) σ₁)) : AE c n env (.List elts pos) σ Q := fun Z A s hr r => by
  refine wpAny_List_spliced (wpAny_mono (h Z A s hr r) (fun vs s₁ hpz => hpz.elim fun Z₁ σ₁ ds l₁ r₁ e₁ hq1 => ?_) fun _ _ e => e)
  obtain ⟨hl, q⟩ := hq1
  exact ⟨by have := e₁.length; exact Nat.le_trans (by (first | lia | omega)) thousand, (Post.newL (tk := s₁.toks) r₁ e₁ q).trans l₁⟩
theorem AE.listM {elts : List Expr} (h : AA c n env pos elts σ (fun ds σ₁ => ds.length ≤ 1000 ∧ ∀ a, σ₁.L a = Option.none → Q (.val (.ref a)) (σ₁.cel a (.list ds)))) : AE c n env (.List elts pos) σ Q := fun Z A s hr r => by
  refine wpAny_List_spliced (wpAny_mono (h Z A s hr r) (fun vs s₁ hpz => hpz.elim fun Z₁ σ₁ ds l₁ r₁ e₁ hq1 => ?_) fun _ _ e => e)
  obtain ⟨hl, q⟩ := hq1
  exact ⟨by have := e₁.length; exact Nat.le_trans (by (first | lia | omega)) thousand, (Post.newM (tk := s₁.toks) r₁ e₁ q).trans l₁⟩
theorem AE.tuple {elts : List Expr} {k : Nat} (h : AA c n env pos elts σ (fun ds σ₁ => ds.length ≤ 1000 ∧ Q (.tup ds) σ₁)) : AE c n env (.Tuple elts k pos) σ Q := fun Z A s hr r => by
  refine wpAny_Tuple_spliced (wpAny_mono (h Z A s hr r) (fun vs s₁ hpz => hpz.elim fun Z₁ σ₁ ds l₁ r₁ e₁ hq1 => ?_) fun _ _ e => e)
  obtain ⟨hl, q⟩ := hq1
  exact ⟨by have := e₁.length; exact Nat.le_trans (by (first | lia | omega)) thousand, (Post.newT (tk := s₁.toks) r₁ e₁ q).trans l₁⟩

/-! a list that will change no more -/
noncomputable def eraseL (L : Addr → Option Cel) (a : Addr) : Addr → Option Cel := fun b => if b = a then Option.none else L b
theorem eraseL_setL {L : Addr → Option Cel} {a : Addr} {x : Cel} (h : L a = Option.none) : eraseL (setL L a x) a = L := by
  funext b; unfold eraseL setL; split
  · rename_i q; subst q; exact h.symm
  · rfl
theorem Rel.freeze {a : Addr} {ds : List D} (r : Rel c env Z σ s) (hl : σ.L a = some (.list ds)) : ∃ Z', ZLe Z Z' ∧ Rel c env Z' ⟨σ.m, eraseL σ.L a⟩ s ∧ Rep Z' (.lst ds) (.ref a) := by
  obtain ⟨hz, o, ho, vs, k, rfl, hv⟩ := r.g.cel a _ hl
  have r₀ : Rel c env Z ⟨σ.m, eraseL σ.L a⟩ s := r.le ⟨fun _ _ e => e, fun b x e => by
    simp only [eraseL] at e; split at e
    · cases e
    · exact e⟩
  let Z' : Zone := fun b => if b = a then some (true, lstO vs k) else Z b
  have l : ZLe Z Z' := fun b p e => by simp only [Z']; rw [if_neg (by rintro rfl; rw [hz] at e; cases e)]; exact e
  refine ⟨Z', l, r₀.hold l fun b p e => ?_, ?_⟩
  · simp only [Z'] at e
    by_cases q : b = a
    · subst q; rw [if_pos rfl] at e; cases e
      exact .inr ⟨ho, (fun q => by rw [(r.f.own b q).2] at hl; cases hl), (by simp only [eraseL, if_true])⟩
    · rw [if_neg q] at e; exact .inl e
  · simp only [Rep]
    exact ⟨a, _, vs, rfl, by simp only [Z', if_true]; rfl, ⟨rfl, k, rfl⟩, hv.mono l⟩
/-- a name's value may be known better -/
theorem Rel.upd {x : Str} {d d' : D} (r : Rel c env Z σ s) (hx : get x σ.m = some d) (h : ∀ v, Rep Z d v → Rep Z d' v) : Rel c env Z (σ.put x d') s := by
  refine ⟨r.g, ⟨r.f.ok, let ⟨mv, p, q⟩ := r.f.ns; ⟨mv, p, fun y e hy hl => ?_⟩, fun y e hy => ?_, fun y e hy hl => ?_, r.f.has, r.f.own⟩⟩
  · simp only [Sig.put, get_put] at hy
    by_cases k : y = x
    · subst k; rw [if_pos rfl] at hy; cases hy
      obtain ⟨v, e1, e2⟩ := q y d hx hl
      exact ⟨v, e1, h v e2⟩
    · rw [if_neg k] at hy; exact q y e hy hl
  · simp only [Sig.put, get_put] at hy
    by_cases k : y = x
    · subst k; exact r.f.kinds y d hx
    · rw [if_neg k] at hy; exact r.f.kinds y e hy
  · simp only [Sig.put, get_put] at hy
    by_cases k : y = x
    · subst k; rw [if_pos rfl] at hy; cases hy
      obtain ⟨k, v, e1, e2, e3, e4⟩ := r.f.cellv y d hx hl
      exact ⟨k, v, e1, e2, h v e3, e4⟩
    · rw [if_neg k] at hy; exact r.f.cellv y e hy hl
theorem AE.frz {e : Expr} (h : AE c n env e σ (fun d σ₁ => ∃ a ds, d = .val (.ref a) ∧ σ₁.L a = some (.list ds) ∧ Q (.lst ds) ⟨σ₁.m, eraseL σ₁.L a⟩)) : AE c n env e σ Q := fun Z A s hr r =>
  wpAny_mono (h Z A s hr r) (fun v s₁ hpz => hpz.elim fun Z₁ σ₁ d l₁ r₁ e₁ ⟨a, ds, q1, q2, q⟩ => by
    subst q1; simp only [Rep] at e₁; subst e₁
    obtain ⟨Z₂, l₂, r₂, e₂⟩ := r₁.freeze q2
    exact ⟨Z₂, _, _, l₁.trans l₂, r₂, e₂, q⟩) fun _ _ e => e
/-- the name of a list that will change no more -/
theorem AX.frz {x : Str} {a : Addr} {ds : List D} {rest : List Stmt} {Q : F → Sig → Prop} (hx : get x σ.m = some (.val (.ref a))) (hl : σ.L a = some (.list ds)) (h : AX c n env rest (Sig.put ⟨σ.m, eraseL σ.L a⟩ x (.lst ds)) Q) : AX c n env rest σ Q := fun Z A s hr r => by
  obtain ⟨Z₂, l₂, r₂, e₂⟩ := r.freeze hl
  have r₃ := r₂.upd (x := x) (d' := .lst ds) hx fun v e => by simp only [Rep] at e; subst e; exact e₂
  exact wpAny_mono (h Z₂ A s hr r₃) (fun _ _ p => p.trans l₂) fun _ _ e => e

variable {target iter elt : Expr} {ifs : List Expr} {scope : Scope} {min : List (Str × D)}
/-- a comprehension's list, which stays -/
theorem AE.compF (ok : CompOk scope env σ.m min)
    (h : AEI c n env target iter (fun _ => True) σ (fun items σ₁ => σ₁.m = σ.m ∧ items.length ≤ 1000 ∧ ∀ e : Env, (∀ x, scope.names.lookup x = some .cell → ∃ k, e.cells.lookup x = some k ∧ e.locals < k) →
      ACmp c n (withScope (relabel scope env) e) target ifs elt (fun acc σ₂ => Q (.lst acc) ⟨σ.m, σ₂.L⟩) items [] ⟨min, σ₁.L⟩))
    (hs : ∀ x, foldedSetIterable iter env x = pure x := by intro _; rfl) : AE c n env (.ListComp elt [⟨target, iter, ifs, 0⟩] scope pos) σ Q := by
  refine .frz (.comp ok ?_ hs)
  intro Z A s hr r
  refine wpAny_mono (h Z A s hr r) (fun v s₁ h₁ => wpAny_mono h₁ (fun it s₂ hpz => ex34 hpz fun Z₂ σ₂ items l₂ r₂ i₂ hq1 => ?_) fun _ _ e => e) fun _ _ e => e
  obtain ⟨hm, hlen, h₂⟩ := hq1
  refine ⟨Z₂, σ₂, items, l₂, r₂, i₂, hm, hlen, fun e he => ?_⟩
  have key : ∀ items acc σ', ACmp c n (withScope (relabel scope env) e) target ifs elt (fun acc σ₂ => Q (.lst acc) ⟨σ.m, σ₂.L⟩) items acc σ' →
      ACmp c n (withScope (relabel scope env) e) target ifs elt (fun acc σ₂ => ∀ a, σ₂.L a = Option.none → ∃ a' ds, D.val (.ref a) = .val (.ref a') ∧ (Sig.cel ⟨σ.m, σ₂.L⟩ a (.list acc)).L a' = some (.list ds) ∧ Q (.lst ds) ⟨(Sig.cel ⟨σ.m, σ₂.L⟩ a (.list acc)).m, eraseL (Sig.cel ⟨σ.m, σ₂.L⟩ a (.list acc)).L a'⟩) items acc σ' := by
    intro items
    induction items with
    | nil => exact fun acc σ' q a ha => ⟨a, acc, rfl, by simp only [Sig.cel, setL, if_true], by simp only [Sig.cel]; rw [eraseL_setL ha]; exact q⟩
    | cons d ds ih =>
      intro acc σ' q
      have ts : ∀ {σ Q Q'}, ATs c n (withScope (relabel scope env) e) ifs σ Q → (∀ b σ', Q b σ' → Q' b σ') → ATs c n (withScope (relabel scope env) e) ifs σ Q' := by
        intro σ Q Q' h1 h2
        match ifs, h1 with
        | [], h1 => exact h2 _ _ h1
        | [t], h1 => exact AW.mono h1 h2
      refine AS.mono q fun σ₁ q => ts q fun b σ₂ q => ?_
      cases b with
      | true => simp only [if_true] at q ⊢; exact AW.mono q fun v σ₃ q => ih _ _ q
      | false => simp only [Bool.false_eq_true, if_false] at q ⊢; exact ih _ _ q
  exact key items [] _ (h₂ e he)

/-! in place -/
variable {i j : Int}
theorem AO.iadd (h : Q (.int (i + j)) σ) : AO c n env (inplaceOp .Add) Rep (.int i) (.int j) σ Q := .ints h fun _ _ _ _ _ _ q => PyProof.Rows.iadd_int (q _ _ fun _ => rep_int)
theorem AO.isub (h : Q (.int (i - j)) σ) : AO c n env (inplaceOp .Sub) Rep (.int i) (.int j) σ Q := .ints h fun _ _ _ _ _ _ q => PyProof.Rows.isub_int (q _ _ fun _ => rep_int)

/-! list + list, list * int -/
theorem AO.addL {d₁ d₂ : D} {ds es : List D} (h1 : LstD σ d₁ ds) (h2 : LstD σ d₂ es) (hs : ds.length + es.length ≤ 1000) (h : Q (.lst (ds ++ es)) σ) : AO c n env (binaryOp .Add) Rep d₁ d₂ σ Q := fun Z A s v₁ v₂ hr r e₁ e₂ => by
  obtain ⟨l, vs, rfl, hl, hv⟩ := h1.at r e₁
  obtain ⟨b, ws, rfl, hb, hw⟩ := h2.at r e₂
  obtain ⟨⟨cls, dd, data, sl⟩, ho, hc, k, hd⟩ := id hl
  obtain ⟨⟨cls2, dd2, data2, sl2⟩, ho2, hc2, k2, hd2⟩ := id hb
  simp only at hc hd hc2 hd2
  subst hc hd hc2 hd2
  have e : vs.toArray ++ ws.toArray = (vs ++ ws).toArray := by simp
  have sz : vs.toArray.size + ws.toArray.size ≤ sizeLine := by
    have := hv.length; have := hw.length; have : (1000 : Nat) ≤ sizeLine := by decide
    simp; (first | lia | omega)
  refine concat_meets ⟨_, ho, rfl⟩ ⟨_, ho2, rfl⟩ noFill_list_add seq_list_add PySem.F.slot_list_add PySem.F.entry_list_add (PySem.F.args_list_add_2 _ _) (list_addW l b vs.toArray ws.toArray k k2 dd dd2 sl sl2 sz) ⟨ho, ho2, ?_⟩
  rw [e]
  exact Post.newL r (hv.append hw) h
theorem repL_rep {ds : List D} {vs : List Value} (h : RepL Z ds vs) : ∀ k : Nat, RepL Z (List.replicate k ds).flatten (List.replicate k vs).flatten
  | 0 => RepL.nil
  | k + 1 => by rw [List.replicate_succ, List.replicate_succ, List.flatten_cons, List.flatten_cons]; exact h.append (repL_rep h k)
theorem AO.mulL {d₁ : D} {ds : List D} {x : Int} (h1 : LstD σ d₁ ds) (h0 : 0 ≤ x) (hx : x ≤ 1000) (hs : ds.length ≤ 1000) (h : Q (.lst (List.replicate x.toNat ds).flatten) σ) : AO c n env (binaryOp .Mult) Rep d₁ (.int x) σ Q := fun Z A s v₁ v₂ hr r e₁ e₂ => by
  obtain ⟨l, vs, rfl, hl, hv⟩ := h1.at r e₁
  simp only [Rep] at e₂
  obtain ⟨u, rfl⟩ := e₂
  obtain ⟨⟨cls, d, data, sl⟩, ho, hcl, k, hd⟩ := id hl
  simp only at hcl hd
  subst hcl hd
  have hsz' : vs.toArray.size * x.toNat ≤ 2 ^ 24 := by
    have := hv.length
    simp only [List.size_toArray]
    exact Nat.le_trans (Nat.mul_le_mul (show vs.length ≤ 1000 by (first | lia | omega)) (show x.toNat ≤ 1000 by (first | lia | omega))) (by decide)
  refine wpAny_binaryOp_repeat_ref (T := "list") (U := "int") (by decide) ⟨_, ho, rfl⟩ (fun s' => typeIs_int s' x u) noFill_list_mul F.fills_int_mul F.slot_int_rmul repeat_list F.slot_int_index.lookup
    (call_meets F.slot_int_rmul (typeIs_int s x u) F.entry_int_rmul (F.args_int_rmul_2 _ _) (lm_int_rmul_list_any x u l vs.toArray k d sl)
      ⟨ho, rfl, ⟨_, ho, rfl⟩, call_meets F.slot_list_mul ⟨_, ho, rfl⟩ F.entry_list_mul (F.args_list_mul_2 _ _)
        (lm_list_mul_any l vs.toArray k d sl x u (by simp [Builtin.List.listFitsIndex]; (first | lia | omega)) (by (first | lia | omega)) (by simp [Builtin.List.listTooLong, sizeLine]; (first | lia | omega)))
        ⟨ho, ?_⟩⟩)
  rw [listMul_foldl_if]
  exact Post.newL r (repL_rep hv _) h
end
end Mine
end
section
open PySem PySem.W PyProof.Rows
namespace Mine

/-- a text by its signs -/
noncomputable def tx (l : List Nat) : Str := ⟨l.toArray⟩
theorem tx_toList (l : List Nat) : (tx l).cps.toList = l := rfl
theorem tx_length (l : List Nat) : (tx l).length = l.length := by simp [tx, Str.length]
theorem tx_signs (l : List Nat) : signs (tx l) = l.map fun k => tx [k] := by simp [signs, tx]
theorem tx_chars (l : List Nat) : chars (tx l) = l.map fun k => D.str (tx [k]) := by simp [chars, tx]
theorem slice_from (l : List Nat) {a : Nat} (ha : a ≤ l.length) : Txt.slice (tx l) (some (a : Int)) Option.none = tx (l.drop a) := by
  have e : Builtin.Str.strSliceIndices (some (a : Int)) Option.none 1 (tx l).length = Builtin.Str.strSliceIndices (some (a : Int)) (some (((tx l).length : Nat) : Int)) 1 (tx l).length := by
    simp only [Builtin.Str.strSliceIndices]
    have h1 : ¬ (((tx l).length : Nat) : Int) < 0 := by (first | lia | omega)
    simp only [h1, if_false]
    congr 1
    (first | lia | omega)
  unfold Txt.slice
  rw [e]
  have h1 := StrLaws.sliced_plain (tx l) (a := a) (b := (tx l).length) (by rw [tx_length]; exact ha) (Nat.le_refl _)
  have h2 := StrLaws.strSliceIndices_plain (a := a) (b := (tx l).length) (len := (tx l).length) (by rw [tx_length]; exact ha) (Nat.le_refl _)
  rw [h1]
  rw [tx_toList, tx_length] at *
  rw [h2]
  have h3 : (l.drop a).take (l.length - a) = l.drop a := List.take_of_length_le (by simp)
  rw [h3]
  split
  · rename_i q
    simp at q
    have : a = 0 ∨ l.length = 0 := by (first | lia | omega)
    rcases this with h | h
    · subst h; simp
    · rw [List.length_eq_zero_iff] at h; subst h; simp [tx]
  · rfl
theorem slice_run (l : List Nat) {a b : Nat} (hab : a ≤ b) (hb : b ≤ l.length) : Txt.slice (tx l) (some (a : Int)) (some (b : Int)) = tx ((l.drop a).take (b - a)) := by
  unfold Txt.slice
  have h1 := StrLaws.sliced_plain (tx l) hab (by rw [tx_length]; exact hb)
  have h2 := StrLaws.strSliceIndices_plain (a := a) (b := b) (len := (tx l).length) hab (by rw [tx_length]; exact hb)
  rw [h1]
  rw [tx_toList, tx_length] at *
  rw [h2]
  split
  · rename_i q
    simp at q
    have h : l.length = 0 ∨ (a = 0 ∧ b = l.length) := by (first | lia | omega)
    rcases h with h | ⟨rfl, rfl⟩
    · rw [List.length_eq_zero_iff] at h; subst h; simp [tx]
    · simp
  · rfl

section
variable {c : Cx} {n : Nat} {env : Env} {σ : Sig} {Z : Zone} {s : Shared} {A : Around} {pos ppos : Pos} {Q : D → Sig → Prop}

/-! slices -/
noncomputable def AP (c : Cx) (n : Nat) (env : Env) (e : Option Expr) (σ : Sig) (K : Option Int → Sig → Prop) : Prop :=
  ∀ Z A s, Room n A → Rel c env Z σ s → wpc c A (evalPart e env) (fun v s' => ∃ Z' σ' k, ZLe Z Z' ∧ Rel c env Z' σ' s' ∧ IsPart v k ∧ K k σ') s
theorem AP.none {K : Option Int → Sig → Prop} (h : K Option.none σ) : AP c n env Option.none σ K := fun Z _ _ _ r => wpAny_evalPart_none ⟨Z, σ, _, .refl Z, r, .none, h⟩
theorem AP.some {e : Expr} {K : Option Int → Sig → Prop} (h : AE c n env e σ (fun d σ₁ => ∃ i, d = .int i ∧ K (some i) σ₁)) : AP c n env (some e) σ K := fun Z A s hr r =>
  wpAny_evalPart_some (wpAny_mono (h Z A s hr r) (fun v s₁ hpz => hpz.elim fun Z₁ σ₁ d l₁ r₁ e₁ ⟨i, q1, q⟩ => by
    subst q1; simp only [Rep] at e₁; obtain ⟨t, rfl⟩ := e₁
    exact ⟨Z₁, σ₁, _, l₁, r₁, .int i t, q⟩) fun _ _ e => e)
noncomputable def ASl (c : Cx) (n : Nat) (env : Env) (value sl : Expr) (d : D) (lo hi st : Option Int) (σ : Sig) (Q : D → Sig → Prop) : Prop :=
  ∀ Z A s v a vl vu vs, Room n A → Rel c env Z σ s → Rep Z d v → s.heap.IsSliceOf a vl vu vs → IsPart vl lo → IsPart vu hi → IsPart vs st → wpc c A (subscriptTail value sl v (.ref a)) (Post c env Z Rep Q) s
theorem AE.slice {value : Expr} {lo hi st : Option Expr} (h : AE c n env value σ (fun d σ₁ => AP c n env lo σ₁ (fun l σ₂ => AP c n env hi σ₂ (fun u σ₃ => AP c n env st σ₃ (fun k σ₄ => ASl c n env value (.Slice lo hi st ppos) d l u k σ₄ Q))))) :
    AE c n env (.Subscript value (.Slice lo hi st ppos) pos) σ Q := fun Z A s hr r => by
  refine Subscript_ (wpAny_mono (h Z A s hr r) (fun v s₁ hpz => hpz.elim fun Z₁ σ₁ d l₁ r₁ e₁ h₁ => wpAny_Slice (wpAny_mono (h₁ Z₁ A s₁ hr r₁) (fun vl s₂ hpz => ex34 hpz fun Z₂ σ₂ kl l₂ r₂ p₂ h₂ => wpAny_mono (h₂ Z₂ A s₂ hr r₂) (fun vu s₃ hpz => ex34 hpz fun Z₃ σ₃ ku l₃ r₃ p₃ h₃ =>
    wpAny_mono (h₃ Z₃ A s₃ hr r₃) (fun vs s₄ hpz => ex34 hpz fun Z₄ σ₄ ks l₄ r₄ p₄ h₄ => ?_) fun _ _ e => e) fun _ _ e => e) fun _ _ e => e)) fun _ _ e => e)
  have r₅ : Rel c env Z₄ σ₄ { s₄ with heap := s₄.heap.push { cls := .type "slice", data := .fields #[vl, vu, vs] } } := r₄.keeps (tk := s₄.toks) fun _ _ e => Heap.get?_push_of_some _ e
  exact wpAny_mono (h₄ Z₄ A _ v _ vl vu vs hr r₅ (((e₁.mono l₂).mono l₃).mono l₄) (Heap.IsSliceOf.new ..) p₂ p₃ p₄) (fun _ _ p => p.trans (l₁.trans (l₂.trans (l₃.trans l₄)))) fun _ _ e => e
theorem ASl.list {value sl : Expr} {d : D} {ds ds' : List D} {lo hi st : Option Int} (hl : LstD σ d ds) (h0 : st ≠ some 0) (hp : ∀ (Z : Zone) (vs : List Value), RepL Z ds vs → ∃ ws, slicePick vs.toArray lo hi st = ws.toArray ∧ RepL Z ds' ws) (hs : ds.length ≤ 1000) (h : Q (.lst ds') σ) :
    ASl c n env value sl d lo hi st σ Q := fun Z A s v a vl vu vs hr r e₁ hsl pl pu ps => by
  obtain ⟨l, xs, rfl, il, hv⟩ := hl.at r e₁
  obtain ⟨ws, hw1, hw2⟩ := hp Z xs hv
  obtain ⟨ops, hop⟩ := sub_ops sl (.ref l) (.ref a)
  refine tail_any il.typeIs slot_list_getitem.lookup (wpAny_getItem_list_slice il hsl pl pu ps h0 ?_ ?_) hop
  · rw [hw1]; exact Post.newL (tk := s.toks) r hw2 h
  · have := hv.length; exact Nat.le_trans (by simp; (first | lia | omega)) thousand
theorem ASl.upto {value sl : Expr} {d : D} {ds : List D} {b : Int} (hl : LstD σ d ds) (h0 : 0 ≤ b) (hs : ds.length ≤ 1000) (h : Q (.lst (ds.take b.toNat)) σ) : ASl c n env value sl d Option.none (some b) Option.none σ Q :=
  .list hl (by simp) (fun Z vs hv => ⟨vs.take b.toNat, by have := slicePick_upto' vs.toArray b.toNat; rw [Int.toNat_of_nonneg h0] at this; simpa using this, hv.take _⟩) hs h
theorem ASl.run {value sl : Expr} {d : D} {ds : List D} {a b : Nat} (hl : LstD σ d ds) (hab : a ≤ b) (hb : b ≤ ds.length) (hs : ds.length ≤ 1000) (h : Q (.lst ((ds.drop a).take (b - a))) σ) : ASl c n env value sl d (some (a : Int)) (some (b : Int)) Option.none σ Q :=
  .list hl (by simp) (fun Z vs hv => ⟨(vs.drop a).take (b - a), by have := slicePick_run vs.toArray a b (by simp [hv.length]; exact hb) hab; simpa using this, (hv.drop _).take _⟩) hs h
theorem ASl.rev {value sl : Expr} {d : D} {ds : List D} (hl : LstD σ d ds) (hs : ds.length ≤ 1000) (h : Q (.lst ds.reverse) σ) : ASl c n env value sl d Option.none Option.none (some (-1)) σ Q :=
  .list hl (by decide) (fun Z vs hv => ⟨vs.reverse, by have := krv_pick vs.toArray; simpa using this, hv.reverse⟩) hs h
theorem ASl.strFrom {value sl : Expr} {l : List Nat} {a : Nat} (ha : a ≤ l.length) (hs : l.length ≤ 1000) (h : Q (.str (tx (l.drop a))) σ) : ASl c n env value sl (.str (tx l)) (some (a : Int)) Option.none Option.none σ Q := fun Z A s v sa vl vu vs hr r e₁ hsl pl pu ps => by
  simp only [Rep] at e₁
  obtain ⟨t, rfl⟩ := e₁
  cases pl with | int _ tl => cases pu; cases ps
                              obtain ⟨ops, hop⟩ := sub_ops sl (.str (tx l) t) (.ref sa)
                              refine tail_any (typeIs_str _ _ _) F.slot_str_getitem.lookup (wpAny_getItem_str_slice (l := some ((a : Int), tl)) (u := Option.none) (st := Option.none) ?_ rfl (post_val_or_str ⟨?_, fun t' k => ?_⟩)) hop
                              · obtain ⟨o, h1, h2, h3⟩ := hsl; exact ⟨o, h1, h2, h3⟩
                              · exact Nat.le_trans (Txt.slice_le (tx l) (some (a : Int)) Option.none) (by rw [tx_length]; exact Nat.le_trans hs thousand)
                              · have := slice_from l ha
                                refine .pure (r.tok k) (b := .str (tx (l.drop a))) ?_ h
                                rw [← this]; exact rep_str
theorem ASl.strRun {value sl : Expr} {l : List Nat} {a b : Nat} (hab : a ≤ b) (hb : b ≤ l.length) (hs : l.length ≤ 1000) (h : Q (.str (tx ((l.drop a).take (b - a)))) σ) : ASl c n env value sl (.str (tx l)) (some (a : Int)) (some (b : Int)) Option.none σ Q := fun Z A s v sa vl vu vs hr r e₁ hsl pl pu ps => by
  simp only [Rep] at e₁
  obtain ⟨t, rfl⟩ := e₁
  cases pl with | int _ tl => cases pu with | int _ tu => cases ps
                                                          obtain ⟨ops, hop⟩ := sub_ops sl (.str (tx l) t) (.ref sa)
                                                          refine tail_any (typeIs_str _ _ _) F.slot_str_getitem.lookup (wpAny_getItem_str_slice (l := some ((a : Int), tl)) (u := some ((b : Int), tu)) (st := Option.none) ?_ rfl (post_val_or_str ⟨?_, fun t' k => ?_⟩)) hop
                                                          · obtain ⟨o, h1, h2, h3⟩ := hsl; exact ⟨o, h1, h2, h3⟩
                                                          · exact Nat.le_trans (Txt.slice_le (tx l) (some (a : Int)) (some (b : Int))) (by rw [tx_length]; exact Nat.le_trans hs thousand)
                                                          · have := slice_run l hab hb
                                                            refine .pure (r.tok k) (b := .str (tx ((l.drop a).take (b - a)))) ?_ h
                                                            rw [← this]; exact rep_str

/-! texts -/
theorem AO.itemS {v i : Expr} {l : List Nat} {k : Int} {ch : Nat} (h0 : 0 ≤ k) (hf : k < 2 ^ 63) (hd : l[k.toNat]? = some ch) (h : Q (.str (tx [ch])) σ) : AO c n env (subscriptTail v i) Rep (.str (tx l)) (.int k) σ Q :=
  fun Z A s v₁ v₂ hr r e₁ e₂ => by
    simp only [Rep] at e₁ e₂
    obtain ⟨t, rfl⟩ := e₁; obtain ⟨u, rfl⟩ := e₂
    obtain ⟨ops, hs⟩ := sub_ops i (.str (tx l) t) (.int k u)
    refine tail_any (typeIs_str _ _ _) F.slot_str_getitem.lookup (P.getItem_str (c := ch) (by simp; (first | lia | omega)) ?_ (.pure (r.tok _) rep_str h)) hs
    rw [seqIdx_nn h0 (by rw [tx_length]; exact (List.getElem?_eq_some_iff.mp hd).1)]
    simpa [tx] using hd
theorem AO.eqS {a b : List Nat} (h : Q (.bool (a == b)) σ) : AO c n env (compareOp .Eq) Rep (.str (tx a)) (.str (tx b)) σ Q := fun Z A s v₁ v₂ hr r e₁ e₂ => by
  simp only [Rep] at e₁ e₂
  obtain ⟨t, rfl⟩ := e₁; obtain ⟨u, rfl⟩ := e₂
  exact P.eq_str (.pure r rep_bool h)
theorem AO.neS {a b : List Nat} (h : Q (.bool (a != b)) σ) : AO c n env (compareOp .NotEq) Rep (.str (tx a)) (.str (tx b)) σ Q := fun Z A s v₁ v₂ hr r e₁ e₂ => by
  simp only [Rep] at e₁ e₂
  obtain ⟨t, rfl⟩ := e₁; obtain ⟨u, rfl⟩ := e₂
  exact P.ne_str (.pure r rep_bool h)
theorem AO.inS {k : Nat} {b : List Nat} (h : Q (.bool (decide (k ∈ b))) σ) : AO c n env (compareOp .In) Rep (.str (tx [k])) (.str (tx b)) σ Q := fun Z A s v₁ v₂ hr r e₁ e₂ => by
  simp only [Rep] at e₁ e₂
  obtain ⟨t, rfl⟩ := e₁; obtain ⟨u, rfl⟩ := e₂
  refine P.in_str (.pure r ?_ h)
  rw [show tx [k] = (⟨#[k]⟩ : Str) from rfl, StrLaws.found_one]
  exact rep_bool
theorem strs_of : ∀ {l : List Nat} {vs : List Value}, RepL Z (l.map fun k => D.str (tx [k])) vs → StrsAre vs (l.map fun k => tx [k])
  | [], vs, h => by simp only [List.map_nil, RepL] at h; subst h; exact .nil
  | k :: l, vs, h => by
    simp only [List.map_cons, RepL, Rep] at h
    obtain ⟨_, r, rfl, ⟨t, rfl⟩, h⟩ := h
    exact .cons _ t (strs_of h)
/-- ''.join of single signs -/
theorem AE.join {o e : Expr} {apos : Pos} (h : AE c n env o σ (fun d₁ σ₁ => d₁ = .str (tx []) ∧ AE c n env e σ₁ (fun d₂ σ₂ => ∃ l, LstD σ₂ d₂ (l.map fun k => D.str (tx [k])) ∧ l.length ≤ 1000 ∧ Q (.str (tx l)) σ₂)))
    (hb : attributeBase o (Str.ofString "join") env (eval o env) = eval o env := by rfl) (hs : starEach [e] env = [(false, eval e env)] := by rfl) (hl : (apos.endLine == pos.line) = true := by rfl) :
    AE c n env (.Call (.Attribute o (Str.ofString "join") apos) [e] [] pos) σ Q := by
  refine AE.meth1 (AW.mono h fun d₁ σ₁ hq1 Z A s v hr r e₁ => ?_) hb hs hl
  obtain ⟨q1, h₁⟩ := hq1
  subst q1; simp only [Rep] at e₁; obtain ⟨t, rfl⟩ := e₁
  refine ⟨"str", "str.join", F.plainAttrs_str, F.slot_str_join, F.type_str_join, typeIs_str _ _ _, (fun _ e => nomatch e), seqMethod1_meets F.slot_str_join F.entry_str_join (wpAny_mono (h₁ Z A s hr r) (fun v s₂ hpz => hpz.elim fun Z₂ σ₂ d₂ l₂ r₂ e₂ hq1 => ?_) fun _ _ e => e)⟩
  obtain ⟨l, q3, q4, q⟩ := hq1
  obtain ⟨b, vs, rfl, il, hv⟩ := q3.at r₂ e₂
  obtain ⟨ts, ht1, ht2⟩ := strsAre_values (strs_of hv)
  subst ht1
  have sum : ∀ l : List Nat, ((l.map fun k => tx [k]).map (·.length)).sum = l.length := by
    intro l
    induction l with
    | nil => rfl
    | cons k l ih => simp only [List.map_cons, List.sum_cons, ih, tx_length, List.length_cons, List.length_nil]; (first | lia | omega)
  have ok : JoinOk (tx []) (l.map fun k => tx [k]) = true := joinOk_of (by rw [sum]; simp [tx_length]; (first | lia | omega))
  have ok' : Builtin.Str.tooLong ((l.map fun k => tx [k]).toArray.foldl (· + ·.length + (tx []).length) 0) = false := by unfold JoinOk at ok; simpa using ok
  rw [← ht2] at ok'
  refine ⟨typeIs_str _ _ _, F.args_str_join_2 _ _, _, meets_str_join_list (tx []) t b ts ok', il, post_join ts ⟨joinFit_length ok', fun t' k => ⟨Z₂, σ₂, .str (tx l), l₂, r₂.tok k, ?_, q⟩⟩⟩
  rw [ht2]
  have : Txt.join (tx []) (l.map fun k => tx [k]) = tx l := by
    show Builtin.Str.glued _ _ = _
    rw [StrLaws.glued_eq_join, ← tx_signs]
    exact join_nil_signs (tx l)
  rw [this]; exact rep_str
end
end Mine
end
section
open PySem PySem.W PyProof.Rows
namespace Mine

theorem getD_eq {ns : List Int} {i : Nat} (h : i < ns.length) : ns.getD i 0 = ns[i] := by simp [h]
section
variable {c : Cx} {n : Nat} {env : Env} {σ : Sig} {Z : Zone} {s : Shared} {A : Around} {pos ppos : Pos} {Q : D → Sig → Prop}

theorem Rel.take {a : Addr} {o : Obj} {h' : Heap} {tk : Nat} (r : Rel c env Z σ s) (hn : s.heap.get? a = Option.none) (hk : ∀ b x, s.heap.get? b = some x → h'.get? b = some x) (ho : h'.get? a = some o) :
    ∃ Z', ZLe Z Z' ∧ Z' a = some (true, o) ∧ Rel c env Z' σ { s with heap := h', toks := tk } := by
  have hf := r.fresh hn
  let Z' : Zone := fun b => if b = a then some (true, o) else Z b
  have l : ZLe Z Z' := fun b p e => by simp only [Z']; rw [if_neg (by rintro rfl; rw [hf.1] at e; cases e)]; exact e
  have r' : Rel c env Z σ { s with heap := h', toks := tk } := r.keeps hk
  refine ⟨Z', l, by simp only [Z', if_true], r'.hold l fun b p e => ?_⟩
  simp only [Z'] at e
  by_cases q : b = a
  · subst q; rw [if_pos rfl] at e; cases e; exact .inr ⟨ho, hf.2.2, hf.2.1⟩
  · rw [if_neg q] at e; exact .inl e

theorem iter_lst {prog : Program} {w : World} {E : Value → Shared → Prop} {l : Addr} {its : Array Value} {Q : Value → Shared → Prop} (hl : s.heap.IsList l its)
    (h : ∀ s₂ : Shared, s₂ = { s with heap := s.heap.push { cls := .type "list_iterator", data := .fields #[.ref l, .int 0 0] } } →
      (s₂.heap.IsListIter s.heap.objs.size l 0 ∧ s₂.heap.IsList l its) → (∀ b ∈ [s.heap.objs.size, l], b < s₂.heap.objs.size) → l ≠ s.heap.objs.size → Q (.ref s.heap.objs.size) s₂) :
    wpAny (model prog w) A (pyIter (.ref l)) Q E s := by
  have hlt : l < s.heap.objs.size := by obtain ⟨_, e, _⟩ := hl; exact Heap.lt_size e
  refine wpAny_pyIter_list hl (h _ rfl ⟨⟨_, Heap.get?_push_size _ rfl, rfl, rfl⟩, hl.push _⟩ (fun b hb => ?_) (Nat.ne_of_lt hlt))
  show b < (s.heap.push _).objs.size
  rw [Heap.size_push]
  simp only [List.mem_cons, List.not_mem_nil, or_false] at hb
  rcases hb with rfl | rfl
  · exact Nat.lt_succ_self _
  · exact Nat.lt_succ_of_lt hlt
theorem ints_of : ∀ {ns : List Int} {vs : List Value}, RepL Z (ns.map D.int) vs → IntsAre vs ns
  | [], vs, h => by simp only [List.map_nil, RepL] at h; subst h; exact .nil
  | k :: l, vs, h => by
    simp only [List.map_cons, RepL, Rep] at h
    obtain ⟨_, r, rfl, ⟨t, rfl⟩, h⟩ := h
    exact .cons _ t (ints_of h)
theorem of_ints : ∀ {ns : List Int} {vs : List Value}, IntsAre vs ns → RepL Z (ns.map D.int) vs
  | _, _, .nil => RepL.nil
  | _, _, .cons k t h => RepL.cons rep_int (of_ints h)

theorem int_at {ns : List Int} {vs : List Value} (h : RepL Z (ns.map D.int) vs) {i : Nat} {v : Value} (hv : vs.toArray[i]? = some v) : ∃ t, v = .int (ns.getD i 0) t := by
  have hv' : vs[i]? = some v := by simpa using hv
  have hlt : i < ns.length := by have := h.length; rw [List.length_map] at this; rw [← this]; exact (List.getElem?_eq_some_iff.mp hv').1
  have := repL_at h (i := i) (d := .int ns[i]) (by simp [hlt]) hv'
  simp only [Rep] at this
  obtain ⟨t, e⟩ := this
  exact ⟨t, by rw [e]; simp [hlt]⟩
theorem preSum_eq (ns : List Int) : ∀ k, k ≤ ns.length → preSum (fun i => ns.getD i 0) k = (ns.take k).sum
  | 0, _ => by simp [preSum]
  | k + 1, h => by
    have hlt : k < ns.length := by omega
    rw [preSum, preSum_eq ns k (by omega), List.take_add_one, List.sum_append]
    simp [hlt]

theorem AB.sumL {d : D} {ns : List Int} (hl : LstD σ d (ns.map D.int)) (h : Q (.int ns.sum) σ) : AB c n env (.builtin "sum") [d] [] σ Q := fun Z A s vs us hr r hv hu => by
  simp only [RepL] at hv
  obtain ⟨v, _, rfl, e, rfl⟩ := hv
  obtain ⟨l, xs, rfl, il, hx⟩ := hl.at r e
  have hlen : xs.length = ns.length := by rw [hx.length, List.length_map]
  refine call_sum_walkG (iter_lst il fun s₂ e st hfp hlI => ?_)
  subst e
  refine ⟨_, _, _, _, _, _, fun i => ns.getD i 0, rfl, Walks.list (A := A.in1) hr.1 _ l hlI xs.toArray, st, hfp, (fun _ _ h => int_at hx h), fun h' tk t' hk => ?_⟩
  have e2 : preSum (fun i => ns.getD i 0) xs.toArray.size = ns.sum := by rw [preSum_eq _ _ (by simp [hlen]), List.take_of_length_le (by simp [hlen])]
  rw [e2]
  exact .pure (r.keeps (tk := tk) (old_kept hk)) rep_int h
theorem AB.maxL {d : D} {ns : List Int} (hl : LstD σ d (ns.map D.int)) (hne : ns ≠ []) (h : ∀ m, m ∈ ns → (∀ x ∈ ns, x ≤ m) → Q (.int m) σ) : AB c n env (.builtin "max") [d] [] σ Q := fun Z A s vs us hr r hv hu => by
  simp only [RepL] at hv
  obtain ⟨v, _, rfl, e, rfl⟩ := hv
  obtain ⟨l, xs, rfl, il, hx⟩ := hl.at r e
  have hlen : xs.length = ns.length := by rw [hx.length, List.length_map]
  have hpos : 0 < ns.length := List.length_pos_iff.mpr hne
  refine call_max_walk (iter_lst il fun s₂ e st hfp hlI => ?_)
  subst e
  refine ⟨_, _, _, _, _, _, _, rfl, Walks.list (A := A.in1) hr.1 _ l hlI xs.toArray, st, hfp, by simp; omega, CmpOf.ints_gt (fun i => ns.getD i 0) (fun _ _ h => int_at hx h), fun v h' tk hP hk => ?_⟩
  obtain ⟨t, rfl⟩ := int_at hx hP
  obtain ⟨a1, a2⟩ := argBest_gt (fun i => ns.getD i 0) (xs.toArray.size - 1)
  simp only [List.size_toArray] at a1 a2
  have hlt : argBest (fun i j => decide (ns.getD i 0 > ns.getD j 0)) (xs.length - 1) < ns.length := by omega
  refine .pure (r.keeps (tk := tk) (old_kept hk)) rep_int (h _ ?_ fun x hx => ?_)
  · simp only [List.size_toArray]; rw [getD_eq hlt]; exact List.getElem_mem _
  · obtain ⟨j, hj, rfl⟩ := List.getElem_of_mem hx
    have := a2 j (by omega)
    simp only [List.size_toArray]
    rwa [getD_eq hj] at this
theorem AB.minL {d : D} {ns : List Int} (hl : LstD σ d (ns.map D.int)) (hne : ns ≠ []) (h : ∀ m, m ∈ ns → (∀ x ∈ ns, m ≤ x) → Q (.int m) σ) : AB c n env (.builtin "min") [d] [] σ Q := fun Z A s vs us hr r hv hu => by
  simp only [RepL] at hv
  obtain ⟨v, _, rfl, e, rfl⟩ := hv
  obtain ⟨l, xs, rfl, il, hx⟩ := hl.at r e
  have hlen : xs.length = ns.length := by rw [hx.length, List.length_map]
  have hpos : 0 < ns.length := List.length_pos_iff.mpr hne
  refine call_min_walk (iter_lst il fun s₂ e st hfp hlI => ?_)
  subst e
  refine ⟨_, _, _, _, _, _, _, rfl, Walks.list (A := A.in1) hr.1 _ l hlI xs.toArray, st, hfp, by simp; omega, CmpOf.ints_lt (fun i => ns.getD i 0) (fun _ _ h => int_at hx h), fun v h' tk hP hk => ?_⟩
  obtain ⟨t, rfl⟩ := int_at hx hP
  obtain ⟨a1, a2⟩ := argBest_lt (fun i => ns.getD i 0) (xs.toArray.size - 1)
  simp only [List.size_toArray] at a1 a2
  have hlt : argBest (fun i j => decide (ns.getD i 0 < ns.getD j 0)) (xs.length - 1) < ns.length := by omega
  refine .pure (r.keeps (tk := tk) (old_kept hk)) rep_int (h _ ?_ fun x hx => ?_)
  · simp only [List.size_toArray]; rw [getD_eq hlt]; exact List.getElem_mem _
  · obtain ⟨j, hj, rfl⟩ := List.getElem_of_mem hx
    have := a2 j (by omega)
    simp only [List.size_toArray]
    rwa [getD_eq hj] at this
variable {i j : Int}
theorem AB.max2 (h : Q (.int (max i j)) σ) : AB c n env (.builtin "max") [.int i, .int j] [] σ Q := fun Z A s vs us hr r hv hu => by
  simp only [RepL, Rep] at hv
  obtain ⟨_, _, rfl, ⟨t, rfl⟩, _, _, rfl, ⟨u, rfl⟩, rfl⟩ := hv
  refine max_two_ints hr.1 fun h' tk hk => .pure (r.keeps (tk := tk) hk) ?_ h
  by_cases q : j > i
  · rw [if_pos q, Int.max_eq_right (by omega)]; exact rep_int
  · rw [if_neg q, Int.max_eq_left (by omega)]; exact rep_int
theorem AB.min2 (h : Q (.int (min i j)) σ) : AB c n env (.builtin "min") [.int i, .int j] [] σ Q := fun Z A s vs us hr r hv hu => by
  simp only [RepL, Rep] at hv
  obtain ⟨_, _, rfl, ⟨t, rfl⟩, _, _, rfl, ⟨u, rfl⟩, rfl⟩ := hv
  refine min_two_ints hr.1 fun h' tk hk => .pure (r.keeps (tk := tk) hk) ?_ h
  by_cases q : j < i
  · rw [if_pos q, Int.min_eq_right (by omega)]; exact rep_int
  · rw [if_neg q, Int.min_eq_left (by omega)]; exact rep_int
theorem AB.abs (h : Q (.int (if i < 0 then -i else i)) σ) : AB c n env (.builtin "abs") [.int i] [] σ Q := fun Z A s vs us hr r hv hu => by
  simp only [RepL, Rep] at hv
  obtain ⟨_, _, rfl, ⟨t, rfl⟩, rfl⟩ := hv
  exact call_abs_int fun u tk => .pure (r.tok tk) rep_int h
theorem AB.divmod (hb : j ≠ 0) (hs : j.natAbs < 1073741824) (h : Q (.tup [.int (i.fdiv j), .int (i.fmod j)]) σ) : AB c n env (.builtin "divmod") [.int i, .int j] [] σ Q := fun Z A s vs us hr r hv hu => by
  simp only [RepL, Rep] at hv
  obtain ⟨_, _, rfl, ⟨t, rfl⟩, _, _, rfl, ⟨u, rfl⟩, rfl⟩ := hv
  exact divmod_int hb (Post.newT (vs := [.int (i.fdiv j) s.toks, .int (i.fmod j) (s.toks + 1)]) r (RepL.cons rep_int (RepL.cons rep_int RepL.nil)) h) (.inl (PyProof.noPylong_small hs))
theorem AB.isInt (h : Q (.bool true) σ) : AB c n env (.builtin "isinstance") [.int i, .val (.type "int")] [] σ Q := fun Z A s vs us hr r hv hu => by
  simp only [RepL, Rep] at hv
  obtain ⟨_, _, rfl, ⟨t, rfl⟩, _, _, rfl, rfl, rfl⟩ := hv
  exact IsiPair.int_int (.pure r rep_bool h)

/-! sorted lists of ints -/
theorem sorted_post {xs : List Value} {out : Array Value} {ns' : List Int} (r : Rel c env Z σ s) (h1 : IntsAre out.toList ns') (h : Q (.lst (ns'.map D.int)) σ) : Post c env Z Rep Q (.ref (s.heap.objs.size + 1)) { s with heap := sortedAll s.heap xs out } := by
  obtain ⟨e, he⟩ := sortedAll_at s.heap xs out
  have hn : s.heap.get? (s.heap.objs.size + 1) = Option.none := by
    cases q : s.heap.get? (s.heap.objs.size + 1) with
    | none => rfl
    | some o => exact absurd (Heap.lt_size q) (Nat.not_lt.mpr (Nat.le_succ _))
  obtain ⟨Z', l, hz, r'⟩ := r.take (tk := s.toks) hn (fun b x e => sortedAll_old e) he
  refine ⟨Z', σ, _, l, r', ?_, h⟩
  simp only [Rep]
  exact ⟨_, _, out.toList, rfl, hz, ⟨rfl, e, by simp⟩, (of_ints h1).mono l⟩
theorem AB.sorted {d : D} {ns : List Int} (hl : LstD σ d (ns.map D.int)) (h64 : ns.length < 64) (h : ∀ ns' : List Int, ns'.Perm ns → ns'.Pairwise (· ≤ ·) → Q (.lst (ns'.map D.int)) σ) : AB c n env (.builtin "sorted") [d] [] σ Q := fun Z A s vs us hr r hv hu => by
  simp only [RepL] at hv
  obtain ⟨v, _, rfl, e, rfl⟩ := hv
  obtain ⟨l, xs, rfl, il, hx⟩ := hl.at r e
  exact sorted_ints il (ints_of hx) (by rw [hx.length, List.length_map]; exact h64) fun out ns' h1 h2 h3 => sorted_post r h1 (h ns' h2 h3)
theorem args_sorted_key (a : Value) : argsOk "sorted" ⟨[a], [(Str.ofString "key", .none)]⟩ := by unfold argsOk; kernel_rfl
theorem args_sort_key (a : Value) : argsOk "list.sort" ⟨[a], [(Str.ofString "key", .none)]⟩ := by unfold argsOk; kernel_rfl
theorem args_sorted_key2 (a u : Value) : argsOk "sorted" ⟨[a], [(Str.ofString "key", .none), (Str.ofString "reverse", u)]⟩ := by unfold argsOk; kernel_rfl
theorem args_sort_key2 (a u : Value) : argsOk "list.sort" ⟨[a], [(Str.ofString "key", .none), (Str.ofString "reverse", u)]⟩ := by unfold argsOk; kernel_rfl
set_option maxRecDepth 100000 in
theorem sort_key (a : Addr) : Builtin.«list.sort» ⟨[.ref a], [(Str.ofString "key", .none)]⟩ = Builtin.«list.sort» ⟨[.ref a], []⟩ := by kernel_rfl
set_option maxRecDepth 100000 in
theorem sort_key2 (a : Addr) (b : Bool) : Builtin.«list.sort» ⟨[.ref a], [(Str.ofString "key", .none), (Str.ofString "reverse", .bool b)]⟩ = Builtin.«list.sort» ⟨[.ref a], [(Str.ofString "reverse", .bool b)]⟩ := by kernel_rfl
theorem sorted_kw {prog : Program} {w : World} {E : Value → Shared → Prop} {l : Addr} {vs : List Value} {kw : List (Str × Value)} {P : List Int → Prop} {Q : Value → Shared → Prop} (hl : s.heap.IsList l vs.toArray) (h64 : vs.length < 64)
    (ha1 : argsOk "sorted" ⟨[.ref l], kw⟩) (ha2 : ∀ x, argsOk "list.sort" ⟨[.ref x], kw⟩)
    (ht : ∀ (a : Addr) (s : Shared) (A : Around) (R : PySem.Fin → Shared → Prop), s.heap.get? a = some (seqObj "list" vs.toArray 0) → (∀ (out : Array Value) (ns' : List Int), IntsAre out.toList ns' → P ns' → R (.done (.ret .none)) { s with heap := sortedHeap s.heap a vs out }) → wpAny (model prog w) A (Builtin.«list.sort» ⟨[.ref a], kw⟩) R E s)
    (h : ∀ (out : Array Value) (ns' : List Int), IntsAre out.toList ns' → P ns' → Q (.ref (s.heap.objs.size + 1)) { s with heap := sortedAll s.heap vs out }) :
    wpAny (model prog w) A (call (.builtin "sorted") [.ref l] kw) Q E s := by
  refine call_function_entry_kw kind_sorted plain_sorted entry_sorted ha1 ?_
  unfold Builtin.«sorted»
  refine wpAny_bind (m := checkCount "sorted" 1 1 _) (wpAny_pure ?_)
  refine wpAny_bind (collect_list hl ?_)
  refine wpAny_bind (wpAny_newList ?_)
  have hsz : ((s.heap.push (seqObj "list" #[] 0)).update s.heap.objs.size (Obj.mapSeq (· ++ vs.toArray))).objs.size = s.heap.objs.size + 1 := by
    rw [Heap.size_update, size_push']
  have hoL : (((s.heap.push (seqObj "list" #[] 0)).update s.heap.objs.size (Obj.mapSeq (· ++ vs.toArray))).push (seqObj "list" vs.toArray 0)).get? (s.heap.objs.size + 1) = some (seqObj "list" vs.toArray 0) := by
    rw [← hsz]; exact Heap.get?_push_size _ rfl
  show wpAny _ _ _ _ _ { s with heap := ((s.heap.push (seqObj "list" #[] 0)).update s.heap.objs.size (Obj.mapSeq (· ++ vs.toArray))).push (seqObj "list" vs.toArray 0) }
  rw [hsz]
  refine wpAny_bind (wpAny_holding (wpAny_call_entry_kw slot_list_sort ⟨_, hoL, rfl⟩ entry_list_sort (ht _ _ _ _ hoL fun out ns' a1 a2 => ⟨_, rfl, ?_⟩) (ha2 _)))
  exact wpAny_pure ⟨_, rfl, h out ns' a1 a2⟩
/-- sorted(xs, key=None) -/
theorem AB.sortedK {d : D} {ns : List Int} (hl : LstD σ d (ns.map D.int)) (h64 : ns.length < 64) (h : ∀ ns' : List Int, ns'.Perm ns → ns'.Pairwise (· ≤ ·) → Q (.lst (ns'.map D.int)) σ) : AB c n env (.builtin "sorted") [d] [(Str.ofString "key", .none)] σ Q := fun Z A s vs us hr r hv hu => by
  simp only [RepL] at hv
  obtain ⟨v, _, rfl, e, rfl⟩ := hv
  simp only [List.map_cons, List.map_nil, RepL, Rep] at hu
  obtain ⟨_, _, rfl, rfl, rfl⟩ := hu
  obtain ⟨l, xs, rfl, il, hx⟩ := hl.at r e
  have hlen : xs.length < 64 := by rw [hx.length, List.length_map]; exact h64
  refine sorted_kw (P := fun ns' => ns'.Perm ns ∧ ns'.Pairwise (· ≤ ·)) il hlen (args_sorted_key _) (fun _ => args_sort_key _) (fun a s A R ho hR => ?_) fun out ns' h1 h2 => sorted_post r h1 (h ns' h2.1 h2.2)
  show wpAny _ _ (Builtin.«list.sort» ⟨[.ref a], [(Str.ofString "key", .none)]⟩) _ _ _
  rw [sort_key]
  exact list_sort_tree ho (ints_of hx) hlen fun out ns' a1 a2 a3 => hR out ns' a1 ⟨a2, a3⟩
/-- sorted(xs, key=None, reverse=True) -/
theorem AB.sortedR {d : D} {ns : List Int} (hl : LstD σ d (ns.map D.int)) (h64 : ns.length < 64) (h : ∀ ns' : List Int, ns'.Perm ns → ns'.Pairwise (· ≥ ·) → Q (.lst (ns'.map D.int)) σ) : AB c n env (.builtin "sorted") [d] [(Str.ofString "key", .none), (Str.ofString "reverse", .bool true)] σ Q := fun Z A s vs us hr r hv hu => by
  simp only [RepL] at hv
  obtain ⟨v, _, rfl, e, rfl⟩ := hv
  simp only [List.map_cons, List.map_nil, RepL, Rep] at hu
  obtain ⟨_, _, rfl, rfl, _, _, rfl, rfl, rfl⟩ := hu
  obtain ⟨l, xs, rfl, il, hx⟩ := hl.at r e
  have hlen : xs.length < 64 := by rw [hx.length, List.length_map]; exact h64
  refine sorted_kw (P := fun ns' => ns'.Perm ns ∧ ns'.Pairwise (· ≥ ·)) il hlen (args_sorted_key2 _ _) (fun _ => args_sort_key2 _ _) (fun a s A R ho hR => ?_) fun out ns' h1 h2 => sorted_post r h1 (h ns' h2.1 h2.2)
  show wpAny _ _ (Builtin.«list.sort» ⟨[.ref a], [(Str.ofString "key", .none), (Str.ofString "reverse", .bool true)]⟩) _ _ _
  rw [sort_key2]
  exact list_sort_tree_rev ho (ints_of hx) hlen fun out ns' a1 a2 a3 => hR out ns' a1 ⟨a2, a3⟩
end
end Mine
end
section
open PySem PySem.W PyProof.Rows
namespace Mine

section
variable {c : Cx} {n : Nat} {env : Env} {σ : Sig} {Z : Zone} {s : Shared} {A : Around} {pos ppos : Pos} {Q : D → Sig → Prop}

/-! keyword arguments -/
noncomputable def AK (c : Cx) (n : Nat) (env : Env) (pos : Pos) (kws : List Keyword) (σ : Sig) (Q : List D → Sig → Prop) : Prop := AW c n env (evalAll ((backToKw pos (keywordEach kws env)).map (·.2))) RepL σ Q
theorem AK.nil {Q : List D → Sig → Prop} (h : Q [] σ) : AK c n env pos [] σ Q := fun _ _ _ _ r => kws_nil (.pure r RepL.nil h)
theorem AK.cons {x : Str} {e : Expr} {kp : Pos} {es : List Keyword} {Q : List D → Sig → Prop} (h : AE c n env e σ (fun d σ₁ => AK c n env pos es σ₁ (fun ds σ₂ => Q (d :: ds) σ₂))) : AK c n env pos (⟨some x, e, kp⟩ :: es) σ Q := fun Z A s hr r =>
  kws_cons (wpAny_mono (h Z A s hr r) (fun _ s₁ hpz => hpz.elim fun Z₁ _ _ l₁ r₁ e₁ h₁ => wpAny_mono (h₁ Z₁ A s₁ hr r₁) (fun _ _ hpz => hpz.elim fun Z₂ σ₂ ds l₂ r₂ e₂ h₂ =>
    ⟨Z₂, σ₂, _, l₁.trans l₂, r₂, RepL.cons (e₁.mono l₂) e₂, h₂⟩) fun _ _ e => e) fun _ _ e => e)

theorem zip_map {xs : List Str} {ds : List D} {us : List Value} (h : xs.length = ds.length) (hu : RepL Z ds us) : xs.zip us = ((xs.zip ds).map (·.1)).zip us ∧ RepL Z ((xs.zip ds).map (·.2)) us := by
  have e1 : (xs.zip ds).map (·.1) = xs := List.map_fst_zip (by (first | lia | omega))
  have e2 : (xs.zip ds).map (·.2) = ds := List.map_snd_zip (by (first | lia | omega))
  rw [e1, e2]; exact ⟨rfl, hu⟩

variable {f e : Expr} {es : List Expr} {k : Keyword} {ks : List Keyword} {xs : List Str}
theorem AE.callBK {id : String} (hx : (backToKw pos (keywordEach (k :: ks) env)).filterMap (·.1) = xs)
    (h : AE c n env f σ (fun d σ₁ => d = .val (.builtin id) ∧ AA c n env pos (e :: es) σ₁ (fun ds σ₂ => AK c n env pos (k :: ks) σ₂ (fun us σ₃ => xs.length = us.length ∧ AB c n env (.builtin id) ds (xs.zip us) σ₃ Q))))
    (he : eval (.Call f (e :: es) (k :: ks) pos) env = (do callWith pos (← eval f env) [] (backTo pos (starEach (e :: es) env)) (backToKw pos (keywordEach (k :: ks) env))) := by rfl)
    (he' : starEach (e :: es) env = (false, eval e env) :: starEach es env := by rfl)
    (hplain : (backTo pos (starEach (e :: es) env)).any (·.1) = false := by rfl)
    (hall : (backToKw pos (keywordEach (k :: ks) env)).all (·.1.isSome) = true := by rfl)
    (hkw : (backToKw pos (keywordEach (k :: ks) env)).any (·.1.isNone) = false := by rfl) : AE c n env (.Call f (e :: es) (k :: ks) pos) σ Q := fun Z A s hr r => by
  rw [he]
  refine wpAny_bind (wpAny_mono (h Z A s hr r) (fun v s₁ hpz => hpz.elim fun Z₁ σ₁ d l₁ r₁ e₁ hq1 => ?_) fun _ _ e => e)
  obtain ⟨q1, h₁⟩ := hq1
  subst q1; simp only [Rep] at e₁; subst e₁
  refine callWith_builtin_kwB hplain hkw (evalArgs_kw2 hall ?_ he')
  refine wpAny_mono (h₁ Z₁ A s₁ hr r₁) (fun vs s₂ hpz => hpz.elim fun Z₂ σ₂ ds l₂ r₂ e₂ h₂ => wpAny_mono (h₂ Z₂ A s₂ hr r₂) (fun us s₃ hpz => hpz.elim fun Z₃ σ₃ ks' l₃ r₃ e₃ hq1 => ?_) fun _ _ e => e) fun _ _ e => e
  obtain ⟨hlen, h₃⟩ := hq1
  rw [hx]
  obtain ⟨z1, z2⟩ := zip_map hlen e₃
  show wpc c A (call _ vs (xs.zip us)) _ _
  rw [z1]
  exact wpAny_mono (h₃ Z₃ A s₃ vs us hr r₃ (e₂.mono l₃) z2) (fun _ _ p => p.trans (l₁.trans (l₂.trans l₃))) fun _ _ e => e
/-- a call of a function with keywords -/
theorem AE.callFnK (hx : (backToKw pos (keywordEach (k :: ks) env)).filterMap (·.1) = xs)
    (h : AE c n env f σ (fun d σ₁ => ∃ a, d = .val (.ref a) ∧ IsFn c a ∧ AA c n env pos (e :: es) σ₁ (fun ds σ₂ => AK c n env pos (k :: ks) σ₂ (fun us σ₃ => xs.length = us.length ∧ AC c n (.ref a) ds (xs.zip us) σ₃.L (fun d L' => Q d ⟨σ₃.m, L'⟩)))))
    (he : eval (.Call f (e :: es) (k :: ks) pos) env = (do callWith pos (← eval f env) [] (backTo pos (starEach (e :: es) env)) (backToKw pos (keywordEach (k :: ks) env))) := by rfl)
    (he' : starEach (e :: es) env = (false, eval e env) :: starEach es env := by rfl)
    (hall : (backToKw pos (keywordEach (k :: ks) env)).all (·.1.isSome) = true := by rfl) : AE c n env (.Call f (e :: es) (k :: ks) pos) σ Q := fun Z A s hr r => by
  rw [he]
  refine wpAny_bind (wpAny_mono (h Z A s hr r) (fun v s₁ hpz => hpz.elim fun Z₁ σ₁ d l₁ r₁ e₁ hq1 => ?_) fun _ _ e => e)
  obtain ⟨a, q1, ⟨o, fd, q2, q3⟩, h₁⟩ := hq1
  subst q1; simp only [Rep] at e₁; subst e₁
  refine callWith_function_kw (o := o) (fd := fd) (evalArgs_kw2 hall ?_ he')
  refine wpAny_mono (h₁ Z₁ A s₁ hr r₁) (fun vs s₂ hpz => hpz.elim fun Z₂ σ₂ ds l₂ r₂ e₂ h₂ => wpAny_mono (h₂ Z₂ A s₂ hr r₂) (fun us s₃ hpz => hpz.elim fun Z₃ σ₃ ks' l₃ r₃ e₃ hq1 => ?_) fun _ _ e => e) fun _ _ e => e
  obtain ⟨hlen, h₃⟩ := hq1
  refine ⟨⟨r₃.g.zone _ _ (r₃.g.base _ _ q2), q3⟩, ?_⟩
  rw [hx]
  obtain ⟨z1, z2⟩ := zip_map hlen e₃
  show wpc c A (call _ vs (xs.zip us)) _ _
  rw [z1]
  exact wpAny_mono (frame_call hr r₃ (e₂.mono l₃) z2 h₃) (fun _ _ p => p.trans (l₁.trans (l₂.trans l₃))) fun _ _ e => e

/-! None is None -/
theorem AO.isNone (h : Q (.bool true) σ) : AO c n env (compareOp .Is) Rep .none .none σ Q := fun Z A s v₁ v₂ hr r e₁ e₂ => by
  simp only [Rep] at e₁ e₂
  subst e₁ e₂
  exact wpAny_is_self (by rfl) (.pure r rep_bool h)

/-! try that does not raise -/
theorem AX.try_ {body orelse rest : List Stmt} {h₀ : ExceptHandler} {hs : List ExceptHandler} {Q : F → Sig → Prop} (h : AX c n env body σ (fun f σ₁ => match f with | .next => AX c n env orelse σ₁ (Then c n env rest Q) | f => Q f σ₁)) :
    AX c n env (.Try body (h₀ :: hs) orelse [] pos :: rest) σ Q := by
  refine .step fun Z A s hr r => wpAny_Try_except ?_
  refine wpAny_mono (h Z A s hr r) (fun f s₁ hpz => hpz.elim fun Z₁ σ₁ f' l₁ r₁ e₁ h₁ => ?_) fun _ _ e => e.elim
  cases f' with
  | next =>
    cases e₁
    refine wpAny_mono (h₁ Z₁ A s₁ hr r₁) (fun f s₂ hpz => hpz.elim fun Z₂ σ₂ f'' l₂ r₂ e₂ h₂ => ⟨Z₂, σ₂, f'', l₁.trans l₂, r₂, e₂, ?_⟩) fun _ _ e => e
    cases f'' <;> exact h₂
  | brk => cases e₁; exact ⟨Z₁, σ₁, F.brk, l₁, r₁, rfl, h₁⟩
  | cont => cases e₁; exact ⟨Z₁, σ₁, F.cont, l₁, r₁, rfl, h₁⟩
  | ret d => obtain ⟨v, rfl, e₁⟩ := e₁; exact ⟨Z₁, σ₁, F.ret d, l₁, r₁, ⟨v, rfl, e₁⟩, h₁⟩
end
end Mine
end
section
open PySem PySem.W PyProof.Rows
set_option maxRecDepth 100000
namespace Mine

section
variable {prog : Program} {w : World} {A : Around} {E : Value → Shared → Prop} {s : Shared}
theorem nextOf_tuple_item {it l : Addr} {i : Nat} {items : Array Value} {x : Value} {Q : Value → Shared → Prop} (hit : s.heap.IsTupleIter it l i)
    (hl : s.heap.IsTuple l items) (hx : items[i]? = some x)
    (hQ : ∀ h', h'.IsTupleIter it l (i + 1) → Heap.SameBut it s.heap h' → Q x { s with heap := h' }) :
    wpAny (model prog w) A (Builtin.SmallTypes.nextOf (.ref it)) Q E s := by
  obtain ⟨o, ho, hc, hd⟩ := id hit
  obtain ⟨ol, hol, _, nl, hdl⟩ := hl
  unfold Builtin.SmallTypes.nextOf
  refine wpAny_bind (wpAny_callSpecial?_slot (name := Str.ofString "__next__") hit.typeIs F.slot_tuple_iterator_next
    (wpAny_call_entry F.slot_tuple_iterator_next hit.typeIs F.entry_tuple_iterator_next ?_ (F.args_tuple_iterator_next_1 _)))
  show wpAny _ _ (field (.ref it) 0 >>= _) _ _ s
  refine wpAny_bind (wpAny_field ho hd (x := .ref l) rfl ?_)
  show wpAny _ _ (if (Value.ref l == Value.none) = true then _ else _) _ _ s
  rw [if_neg (show ¬ ((Value.ref l == Value.none) = true) from Bool.false_ne_true)]
  show wpAny _ _ (field (.ref it) 1 >>= _) _ _ s
  refine wpAny_bind (wpAny_field ho hd (x := .int i 0) rfl ?_)
  show wpAny _ _ (seqItems? (.ref l) >>= _) _ _ s
  refine wpAny_bind (wpAny_seqItems hol hdl ?_)
  simp only [Int.toNat_natCast, hx]
  refine wpAny_bind (wpAny_setField ho hd (by simp) (wpAny_pure ⟨x, rfl, wpAny_pure (hQ _ ?_ (Heap.SameBut.update ..))⟩))
  exact ⟨_, Heap.get?_update_self _ ho (Obj.isFreed_of_fields (Obj.data_mapFields hd _)), (Obj.cls_mapFields ..).trans hc, by
    rw [Obj.data_mapFields hd]; simp [rawInt]⟩
theorem nextOf_tuple_end {it l : Addr} {i : Nat} {items : Array Value} {Q : Value → Shared → Prop} (hh : A.handled = Option.none)
    (hit : s.heap.IsTupleIter it l i) (hl : s.heap.IsTuple l items) (hx : items[i]? = Option.none)
    (hE : ∀ h' e, Heap.ExtBut it s.heap h' → (∃ o, h'.get? e = some o ∧ o.cls = .type "StopIteration") → E (.ref e) { s with heap := h' }) :
    wpAny (model prog w) A (Builtin.SmallTypes.nextOf (.ref it)) Q E s := by
  obtain ⟨o, ho, hc, hd⟩ := id hit
  obtain ⟨ol, hol, _, nl, hdl⟩ := hl
  unfold Builtin.SmallTypes.nextOf
  refine wpAny_bind (wpAny_callSpecial?_slot (name := Str.ofString "__next__") hit.typeIs F.slot_tuple_iterator_next
    (wpAny_call_entry F.slot_tuple_iterator_next hit.typeIs F.entry_tuple_iterator_next ?_ (F.args_tuple_iterator_next_1 _)))
  show wpAny _ _ (field (.ref it) 0 >>= _) _ _ s
  refine wpAny_bind (wpAny_field ho hd (x := .ref l) rfl ?_)
  show wpAny _ _ (if (Value.ref l == Value.none) = true then _ else _) _ _ s
  rw [if_neg (show ¬ ((Value.ref l == Value.none) = true) from Bool.false_ne_true)]
  show wpAny _ _ (field (.ref it) 1 >>= _) _ _ s
  refine wpAny_bind (wpAny_field ho hd (x := .int i 0) rfl ?_)
  show wpAny _ _ (seqItems? (.ref l) >>= _) _ _ s
  refine wpAny_bind (wpAny_seqItems hol hdl ?_)
  simp only [Int.toNat_natCast, hx]
  refine wpAny_bind (wpAny_rule (wpAny_bind (wpAny_setField ho hd (by simp) ?_)))
  show wpAny _ _ (newExc (.type "StopIteration") [] >>= _) _ _ _
  refine wpAny_bind ?_
  simp only [newExc, newTuple]
  refine wpAny_bind (wpAny_newObj_type ?_ (by size_fits))
  refine wpAny_bind (m := firstArgMember _ _) (wpAny_of_eq (a := Value.none) (by first | rfl | (simp only [firstArgMember]; rfl)) ?_)
  refine wpAny_newObj_type ?_ (by size_fits)
  simp only [raiseNew]
  refine wpAny_bind (wpAny_handled ?_)
  first | rw [show A.in1.handled = Option.none from hh] | rw [hh]
  refine wpAny_bind (wpAny_pure (wpAny_throw ?_))
  exact hE _ _ (((Heap.SameBut.update ..).extBut.push _).push _) ⟨_, Heap.get?_push_size _ rfl, rfl⟩

theorem tupleIter_at {h h' : Heap} {a t : Addr} {i : Nat} (x : h.IsTupleIter a t i) (hk : ∀ o, h.get? a = some o → h'.get? a = some o) : h'.IsTupleIter a t i := let ⟨o, ho, r⟩ := x; ⟨o, hk o ho, r⟩
theorem tuple_at {h h' : Heap} {a : Addr} {items : Array Value} (x : h.IsTuple a items) (hk : ∀ o, h.get? a = some o → h'.get? a = some o) : h'.IsTuple a items := let ⟨o, ho, r⟩ := x; ⟨o, hk o ho, r⟩
theorem draws_tuple (hh : A.handled = Option.none) (it l : Addr) (hne : l ≠ it) (items : Array Value) :
    Draws prog w A it [it, l] items.size (fun i v => items[i]? = some v) (fun i h => h.IsTupleIter it l i ∧ h.IsTuple l items) where
  live := fun _ _ st => let ⟨o, ho, _⟩ := st.1; ⟨o, ho⟩
  frame := fun _ _ _ st hk => ⟨tupleIter_at st.1 fun o e => hk it (by simp) o e, tuple_at st.2 fun o e => hk l (by simp) o e⟩
  item := fun i s Q E hi st hQ => by
    refine nextOf_tuple_item st.1 st.2 (x := items[i]) (by simp [hi]) fun h' hit' hs' => ?_
    exact hQ _ h' s.toks (by simp [hi]) ⟨hit', st.2.extBut hs'.extBut hne⟩ hs'
  done := fun s Q E st hE => nextOf_tuple_end hh st.1 st.2 (by simp) hE

open AutoSeq1 (wpAny_loadPart') in
theorem meets_enumerate_newT (l : Addr) (items : Array Value) (n : Nat) (dct : Option Addr) (sl : Array (Option Value)) :
    Meets (Builtin.«enumerate.__new__» ⟨[.type "enumerate", .ref l], []⟩) (fun _ R s => s.heap.get? l = some { cls := .type "tuple", dict := dct, data := .seq items n, slots := sl } ∧
      R (.ok (.ret (.ref (s.heap.push { cls := .type "tuple_iterator", data := .fields #[.ref l, .int 0 0] }).objs.size)))
        { s with heap := (s.heap.push { cls := .type "tuple_iterator", data := .fields #[.ref l, .int 0 0] }).push { cls := .type "enumerate", data := .fields #[.none, .bool false, .ref s.heap.objs.size, rawInt 0, .none, .none] } }) :=
  .of_wp fun prog w A R s h => by
    obtain ⟨hp, g, d, tk, os⟩ := s; obtain ⟨hl, h⟩ := h
    have hsub := sub_enumerate
    have hL : Heap.IsTuple (Shared.heap ⟨hp, g, d, tk, os⟩) l items := ⟨_, hl, rfl, n, rfl⟩
    wp_walk using wpAny_loadPart' hl
    refine wpAny_stack_any fun st => wpAny_pure ?_
    split
    · rename_i c _ _ _ _ _
      cases (c == Value.type "enumerate")
      · wp_walk using wpAny_loadPart' hl, wpAny_pyIter_tuple hL
        exact ⟨_, rfl, h⟩
      · wp_walk using wpAny_loadPart' hl, wpAny_pyIter_tuple hL
        exact ⟨_, rfl, h⟩
    · wp_walk using wpAny_loadPart' hl, wpAny_pyIter_tuple hL
      exact ⟨_, rfl, h⟩
theorem call_enumerate_tuple {l : Addr} {items : Array Value} {Q : Value → Shared → Prop} (hL : s.heap.IsTuple l items)
    (h : ∀ h', IsEnum h' (s.heap.objs.size + 1) s.heap.objs.size 0 .none → h'.IsTupleIter s.heap.objs.size l 0 → h'.objs.size = s.heap.objs.size + 2 →
      (∀ b o, s.heap.get? b = some o → h'.get? b = some o) → Q (.ref (s.heap.objs.size + 1)) { s with heap := h' }) :
    wpAny (model prog w) A (call (.type "enumerate") [.ref l]) Q E s := by
  obtain ⟨⟨c, dct, dt, sl⟩, hl, hc, n, hd⟩ := hL
  replace hc : c = .type "tuple" := hc
  replace hd : dt = .seq items n := hd
  subst hc hd
  refine callType_new F.called_enumerate (by decide) (F.typeCall_enumerate_1 _) (F.newCall_enumerate_1 _) (fun obj => F.args_object_init_2 obj _) F.entry_enumerate_new
    (meets_enumerate_newT l items n dct sl) ⟨hl, ?_⟩
  have hz : (s.heap.push { cls := .type "tuple_iterator", data := .fields #[.ref l, .int 0 0] }).objs.size = s.heap.objs.size + 1 := Heap.size_push ..
  show _ ∧ _
  rw [hz]
  have he : IsEnum ((s.heap.push { cls := .type "tuple_iterator", data := .fields #[.ref l, .int 0 0] }).push
      { cls := .type "enumerate", data := .fields #[.none, .bool false, .ref s.heap.objs.size, rawInt 0, .none, .none] }) (s.heap.objs.size + 1) s.heap.objs.size 0 .none := by
    have := Heap.get?_push_size (s.heap.push { cls := .type "tuple_iterator", data := .fields #[.ref l, .int 0 0] })
      (o := { cls := .type "enumerate", data := .fields #[.none, .bool false, .ref s.heap.objs.size, rawInt 0, .none, .none] }) rfl
    rw [hz] at this; exact this
  refine ⟨⟨_, he, rfl⟩, h _ he ⟨_, Heap.get?_push_of_some _ (Heap.get?_push_size _ rfl), rfl, rfl⟩ (by rw [Heap.size_push, hz]) fun b o x => Heap.get?_push_of_some _ (Heap.get?_push_of_some _ x)⟩
end

section
variable {c : Cx} {n : Nat} {env : Env} {σ : Sig} {Z : Zone} {s : Shared} {A : Around} {pos ppos : Pos} {Q : D → Sig → Prop}
theorem Stp.ofWalksT {elts : List Expr} {k : Nat} {I : Addr} {fp wr : List Addr} {Pt : Nat → Array Value → Prop} {St : Nat → Heap → Prop} {Mid : Nat → Addr → Heap → Prop} {items : List D}
    (W : WalksT c.prog c.w A I fp wr items.length Pt St Mid) (hfp : ∀ b ∈ fp, b ∈ wr ∨ ∃ p, Z b = some p) (hwr : ∀ b ∈ wr, Z b = Option.none)
    (hP : ∀ i vals d, items[i]? = some d → Pt i vals → ∃ ds, d = .tup ds ∧ RepL Z ds vals.toList) (alive : ∀ i h, St i h → ∀ b ∈ wr, ∃ o, h.get? b = some o ∧ ∀ v, o.data ≠ .cell (some v)) :
    Stp c A (.Tuple elts k pos) (.ref I) Z wr (fun ds h => ∃ i, i ≤ items.length ∧ ds = items.drop i ∧ St i h ∧ ∀ a p, Z a = some p → h.get? a = some p.2) (fun _ => True) where
  frame := fun ds h h' ⟨i, hi, e, st, z⟩ hw hz => ⟨i, hi, e, W.frame i h h' st fun b hb o ho => (hfp b hb).elim (fun q => hw b q o ho) fun ⟨p, q⟩ => by
    have := z b p q; rw [ho] at this; cases this; exact hz b p q, hz⟩
  alive := fun ds h ⟨i, _, _, st, _⟩ => alive i h st
  item := fun d ds s K ⟨i, hi, e, st, z⟩ hz hK => by
    have hlt : i < items.length := by
      rcases Nat.lt_or_ge i items.length with q | q
      · exact q
      · rw [List.drop_eq_nil_of_le q] at e; cases e
    have hd : items[i]? = some d ∧ ds = items.drop (i + 1) := by
      rw [List.drop_eq_getElem_cons hlt] at e
      cases e
      exact ⟨List.getElem?_eq_getElem hlt, rfl⟩
    refine W.item i s _ _ hlt st fun T vals h' tk hp hT hI hm hk => ⟨.ref T, rfl, ?_⟩
    refine W.go elts k pos i T { s with heap := h', toks := tk } _ _ hm fun h'' st'' hk' => ?_
    have hkk : ∀ b o, b ∉ wr → s.heap.get? b = some o → h''.get? b = some o := fun b o hb e => hk' b o hb (hk b o hb e)
    have zone : ∀ a p, Z a = some p → h''.get? a = some p.2 := fun a p q => hkk a _ (fun hn => by rw [hwr a hn] at q; cases q) (hz a p q)
    have hTn : s.heap.get? T = Option.none := by
      cases q : s.heap.get? T with
      | none => rfl
      | some o => exact absurd (Heap.lt_size q) (Nat.not_lt.mpr hT)
    obtain ⟨ds', rfl, hr⟩ := hP i vals d hd.1 hp
    obtain ⟨o, ho, hc, m, hdt⟩ := hI
    have ho'' : h''.get? T = some o := hk' T o (W.apart i T _ hm) ho
    refine hK (.ref T) h'' tk hkk ⟨i + 1, hlt, hd.2, st'', zone⟩ ⟨fun a => if a = T then some (true, o) else Z a, fun a p q => ?_, ?_⟩
    · dsimp only at q
      by_cases h : a = T
      · subst h; rw [if_pos rfl] at q; cases q; exact .inr ⟨ho'', hTn⟩
      · rw [if_neg h] at q; exact .inl q
    · simp only [Rep]
      refine ⟨T, o, vals.toList, rfl, if_pos rfl, ⟨hc, m, by simpa using hdt⟩, hr.gen fun a o' q => ?_⟩
      rw [if_neg (by rintro rfl; have := hz a _ q; rw [hTn] at this; cases this)]; exact q
  self := fun ds s K ⟨i, _, _, st, _⟩ hK => W.self i s _ _ st hK
  done := fun s K ⟨i, hi, e, st, z⟩ hz hK => by
    have : i = items.length := by
      rcases Nat.lt_or_ge i items.length with q | q
      · rw [List.drop_eq_getElem_cons q] at e; cases e
      · (first | lia | omega)
    subst this
    exact W.done s _ _ st fun h' tk hk => ⟨rfl, hK h' tk hk trivial⟩

/-- the items with their places -/
noncomputable def enums (ds : List D) : List D := ds.zipIdx.map fun p => .tup [.int ((p.2 : Nat) : Int), p.1]
theorem enums_at {ds : List D} {i : Nat} {d : D} (h : (enums ds)[i]? = some d) : ∃ x, ds[i]? = some x ∧ d = .tup [.int ((i : Nat) : Int), x] := by
  simp only [enums, List.getElem?_map, List.getElem?_zipIdx, Option.map_map, Option.map_eq_some_iff] at h
  obtain ⟨x, h1, h2⟩ := h
  exact ⟨x, h1, by simpa using h2.symm⟩
variable {f e : Expr} {elts : List Expr} {k : Nat} {tpos : Pos}
theorem enum_iter {it l : Addr} {P : Nat → Value → Prop} {St : Nat → Heap → Prop} {ds : List D} (r : Rel c env Z σ s) (hi : s.heap.get? it = Option.none) (he : s.heap.get? (it + 1) = Option.none) {h' : Heap} (hk : ∀ b o, s.heap.get? b = some o → h'.get? b = some o)
    (D : Draws c.prog c.w A.in1 it [it, l] ds.length P St) (hl : ∃ o, Z l = some (true, o)) (hP : ∀ i v d, ds[i]? = some d → P i v → Rep Z d v) (hst : St 0 h') (hen : IsEnum h' (it + 1) it 0 .none)
    (alive : ∀ i h, St i h → ∃ o, h.get? it = some o ∧ ∀ v, o.data ≠ .cell (some v)) :
    Iter c A env (.Tuple elts k tpos) Z σ (fun _ => True) (.ref (it + 1)) (enums ds) { s with heap := h' } := by
  obtain ⟨ol, hl⟩ := hl
  have hf := r.fresh hi
  have hf' := r.fresh he
  have hne : l ≠ it := by rintro rfl; rw [hf.1] at hl; cases hl
  have hne' : l ≠ it + 1 := by rintro rfl; rw [hf'.1] at hl; cases hl
  have W := WalksT.enumerateD D (it + 1) (Nat.succ_ne_self _) (by simp; exact fun q => hne' q.symm) (by simp)
  rw [show ds.length = (enums ds).length from by simp [enums]] at W
  refine ⟨[it + 1, it], _, Stp.ofWalksT W (fun b hb => ?_) (fun b hb => ?_) (fun i vals d hd hp => ?_) (fun i h st b hb => ?_), ⟨0, Nat.zero_le _, rfl, ⟨⟨.none, hen⟩, hst⟩, fun a p e => hk a _ (r.g.zone a p e)⟩, fun b hb => ?_⟩
  · simp only [List.mem_cons, List.not_mem_nil, or_false] at hb
    rcases hb with rfl | rfl | rfl
    · exact .inl (by simp)
    · exact .inl (by simp)
    · exact .inr ⟨_, hl⟩
  · simp only [List.mem_cons, List.not_mem_nil, or_false] at hb
    rcases hb with rfl | rfl
    · exact hf'.1
    · exact hf.1
  · obtain ⟨x, h1, rfl⟩ := enums_at hd
    obtain ⟨t, v, hp, rfl⟩ := hp
    exact ⟨_, rfl, RepL.cons rep_int (RepL.cons (hP i v x h1 hp) RepL.nil)⟩
  · obtain ⟨⟨old, ho⟩, hs⟩ := st
    simp only [List.mem_cons, List.not_mem_nil, or_false] at hb
    rcases hb with rfl | rfl
    · exact ⟨_, ho, fun v e => by cases e⟩
    · exact alive i h hs
  · simp only [List.mem_cons, List.not_mem_nil, or_false] at hb
    rcases hb with rfl | rfl
    · exact hf'
    · exact hf
theorem size_none (h : Heap) (k : Nat) : h.get? (h.objs.size + k) = Option.none := by
  cases q : h.get? (h.objs.size + k) with
  | none => rfl
  | some o => exact absurd (Heap.lt_size q) (Nat.not_lt.mpr (Nat.le_add_right _ _))
/-- for i, x in enumerate(..) -/
theorem AEI.enum {K : List D → Sig → Prop}
    (h : AE c n env f σ (fun d σ₁ => d = .val (.type "enumerate") ∧ AE c n env e σ₁ (fun d σ₂ => ∃ ds, (d = .lst ds ∨ d = .tup ds) ∧ K (enums ds) σ₂)))
    (he : eval (.Call f [e] [] pos) env = (do callWith pos (← eval f env) [] (backTo pos (starEach [e] env)) (backToKw pos (keywordEach [] env))) := by rfl)
    (he' : starEach [e] env = [(false, eval e env)] := by rfl) : AEI c n env (.Tuple elts k tpos) (.Call f [e] [] pos) (fun _ => True) σ K := fun Z A s hr r => by
  refine Call_ (wpAny_mono (h Z A s hr r) (fun v s₁ hpz => hpz.elim fun Z₁ σ₁ d l₁ r₁ e₁ ⟨q1, h₁⟩ => ?_) fun _ _ e => e) he
  subst q1; simp only [Rep] at e₁; subst e₁
  refine PyProof.Rows.callWith_type1 (args_cons (wpAny_mono (h₁ Z₁ A s₁ hr r₁) (fun v s₂ hpz => hpz.elim fun Z₂ σ₂ d l₂ r₂ e₂ ⟨ds, q2, h₂⟩ => args_nil ?_) fun _ _ e => e) he') he' rfl
  have hi := size_none s₂.heap 0
  have hi' := size_none s₂.heap 1
  rcases q2 with rfl | rfl
  · simp only [Rep] at e₂
    obtain ⟨l, o, vs, rfl, hz, ⟨t1, m, t2⟩, hv⟩ := e₂
    refine call_enumerate_list (items := vs.toArray) ⟨o, r₂.g.zone _ _ hz, t1, m, t2⟩ fun h' hen hit hsz hk => ?_
    refine wpAny_pyIter_enum hen ⟨Z₂, σ₂, enums ds, l₁.trans l₂, r₂.keeps (tk := s₂.toks) hk, ?_, h₂⟩
    have D := Draws.list (prog := c.prog) (w := c.w) (A := A.in1) hr.1 s₂.heap.objs.size l (size_ne (r₂.g.zone _ _ hz)) vs.toArray
    rw [show vs.toArray.size = ds.length from by simp [hv.length]] at D
    exact enum_iter r₂ hi hi' hk D ⟨_, hz⟩ (fun i v d hd hp => repL_at hv hd (by simpa using hp)) ⟨hit, o, hk _ _ (r₂.g.zone _ _ hz), t1, m, t2⟩ hen (fun i h st => let ⟨o, h1, _, h3⟩ := st.1; ⟨o, h1, fun v e => by rw [h3] at e; cases e⟩)
  · simp only [Rep] at e₂
    obtain ⟨l, o, vs, rfl, hz, ⟨t1, m, t2⟩, hv⟩ := e₂
    refine call_enumerate_tuple (items := vs.toArray) ⟨o, r₂.g.zone _ _ hz, t1, m, t2⟩ fun h' hen hit hsz hk => ?_
    refine wpAny_pyIter_enum hen ⟨Z₂, σ₂, enums ds, l₁.trans l₂, r₂.keeps (tk := s₂.toks) hk, ?_, h₂⟩
    have D := draws_tuple (prog := c.prog) (w := c.w) (A := A.in1) hr.1 s₂.heap.objs.size l (size_ne (r₂.g.zone _ _ hz)) vs.toArray
    rw [show vs.toArray.size = ds.length from by simp [hv.length]] at D
    exact enum_iter r₂ hi hi' hk D ⟨_, hz⟩ (fun i v d hd hp => repL_at hv hd (by simpa using hp)) ⟨hit, o, hk _ _ (r₂.g.zone _ _ hz), t1, m, t2⟩ hen (fun i h st => let ⟨o, h1, _, h3⟩ := st.1; ⟨o, h1, fun v e => by rw [h3] at e; cases e⟩)
end
end Mine
end
section
open PySem PySem.W PyProof.Rows
set_option maxRecDepth 100000
namespace Mine

section
variable {prog : Program} {w : World} {A : Around} {E : Value → Shared → Prop} {s : Shared}
theorem nextOf_range_item {it : Addr} {x left step : Int} {Q : Value → Shared → Prop} (hit : IsRangeIter s.heap it x left step) (hleft : 0 < left)
    (hQ : ∀ h', IsRangeIter h' it (x + step) (left - 1) step → Heap.SameBut it s.heap h' → Q (.int x s.toks) { s with heap := h', toks := s.toks + 1 }) :
    wpAny (model prog w) A (Builtin.SmallTypes.nextOf (.ref it)) Q E s := by
  have hT : s.TypeIs (.ref it) "range_iterator" := ⟨_, hit, rfl⟩
  unfold Builtin.SmallTypes.nextOf
  refine wpAny_bind (wpAny_callSpecial?_slot (name := Str.ofString "__next__") hT F.slot_range_iterator_next
    (call_meets F.slot_range_iterator_next hT F.entry_range_iterator_next (F.args_range_iterator_next_1 _) (AutoRange.range_iterator___next___range_iterator_1 it x left step (by (first | lia | omega))) ⟨hit, ?_⟩))
  exact wpAny_pure (hQ _ (Heap.get?_update_self _ (Heap.get?_update_self _ hit rfl) rfl) ((Heap.SameBut.update ..).trans (Heap.SameBut.update ..)))
theorem nextOf_range_end {it : Addr} {x left step : Int} {Q : Value → Shared → Prop} (hh : A.handled = Option.none) (hit : IsRangeIter s.heap it x left step) (hleft : left ≤ 0)
    (hE : ∀ h' e, (∀ b o, s.heap.get? b = some o → h'.get? b = some o) → (∃ o, h'.get? e = some o ∧ o.cls = .type "StopIteration") → E (.ref e) { s with heap := h' }) : wpAny (model prog w) A (Builtin.SmallTypes.nextOf (.ref it)) Q E s := by
  have hT : s.TypeIs (.ref it) "range_iterator" := ⟨_, hit, rfl⟩
  unfold Builtin.SmallTypes.nextOf
  refine wpAny_bind (wpAny_callSpecial?_slot (name := Str.ofString "__next__") hT F.slot_range_iterator_next
    (wpAny_call_entry F.slot_range_iterator_next hT F.entry_range_iterator_next ?_ (F.args_range_iterator_next_1 _)))
  show wpAny _ _ (field (.ref it) 0 >>= _) _ _ s
  refine wpAny_bind (wpAny_field hit rfl (x := rawInt x) rfl ?_)
  show wpAny _ _ (field (.ref it) 1 >>= _) _ _ s
  refine wpAny_bind (wpAny_field hit rfl (x := rawInt left) rfl ?_)
  show wpAny _ _ (field (.ref it) 2 >>= _) _ _ s
  refine wpAny_bind (wpAny_field hit rfl (x := rawInt step) rfl ?_)
  show wpAny _ _ (if left ≤ 0 then _ else _) _ _ s
  rw [if_pos hleft]
  refine wpAny_bind (wpAny_rule ?_)
  refine wpAny_bind ?_
  show wpAny _ _ (newExc (.type "StopIteration") [] >>= _) _ _ _
  refine wpAny_bind ?_
  simp only [newExc, newTuple]
  refine wpAny_bind (wpAny_newObj_type ?_ (by size_fits))
  refine wpAny_bind (m := firstArgMember _ _) (wpAny_of_eq (a := Value.none) (by first | rfl | (simp only [firstArgMember]; rfl)) ?_)
  refine wpAny_newObj_type ?_ (by size_fits)
  simp only [raiseNew]
  refine wpAny_bind (wpAny_handled ?_)
  first | rw [show A.in1.handled = Option.none from hh] | rw [hh]
  refine wpAny_bind (wpAny_pure (wpAny_throw ?_))
  exact hE _ _ (fun b o e => Heap.get?_push_of_some _ (Heap.get?_push_of_some _ e)) ⟨_, Heap.get?_push_size _ rfl, rfl⟩

structure ZA (z TI TO i1 i2 l : Addr) : Prop where
  TIz : TI ≠ z
  TOz : TO ≠ z
  i1z : i1 ≠ z
  i2z : i2 ≠ z
  TITO : TI ≠ TO
  TIi1 : TI ≠ i1
  TIi2 : TI ≠ i2
  TOi1 : TO ≠ i1
  TOi2 : TO ≠ i2
  i12 : i1 ≠ i2
  lz : l ≠ z
  lTO : l ≠ TO
  li1 : l ≠ i1
  li2 : l ≠ i2

theorem listIter_ext {h h' : Heap} {a b l : Addr} {i : Nat} (x : h.IsListIter a l i) (hs : Heap.SameBut b h h') (hab : a ≠ b) : h'.IsListIter a l i := x.extBut hs.extBut hab

theorem zipR_next_item {z TI TO i1 i2 l : Addr} {k2 : Nat} {ys : Array Value} {x left step : Int} {y a b : Value} {Q : Value → Shared → Prop} (D : ZA z TI TO i1 i2 l)
    (hz : IsZip s.heap z TI TO .none) (hTI : IsPair s.heap TI (.ref i1) (.ref i2)) (hTO : IsPair s.heap TO a b)
    (h1 : IsRangeIter s.heap i1 x left step) (hleft : 0 < left) (h2 : s.heap.IsListIter i2 l k2) (hl : s.heap.IsList l ys) (hy : ys[k2]? = some y)
    (hQ : ∀ h' t tk, IsZip h' z TI TO (rawInt s.heap.objs.size) → (∃ a b, IsPair h' TO a b) → IsRangeIter h' i1 (x + step) (left - 1) step → h'.IsListIter i2 l (k2 + 1) → IsPair h' s.heap.objs.size (.int x t) y →
      (∀ c o, c ≠ z → c ≠ TO → c ≠ i1 → c ≠ i2 → s.heap.get? c = some o → h'.get? c = some o) → Q (.ref s.heap.objs.size) { s with heap := h', toks := tk }) :
    wpAny (model prog w) A (Builtin.«zip.__next__» ⟨[.ref z], []⟩) (fun fin s' => ∃ v, fin = .done (.ret v) ∧ Q v s') E s := by
  show wpAny _ _ (field (.ref z) 2 >>= _) _ _ _
  refine wpAny_bind (wpAny_field hz rfl (x := .bool false) rfl ?_)
  show wpAny _ _ (field (.ref z) 3 >>= _) _ _ _
  refine wpAny_bind (wpAny_field hz rfl (x := .ref TI) rfl ?_)
  refine wpAny_bind (wpAny_seqItems hTI rfl ?_)
  show wpAny _ _ (Builtin.SmallTypes.ownedTupleIsFree (.ref z) >>= _) _ _ _
  refine wpAny_bind ?_
  unfold Builtin.SmallTypes.ownedTupleIsFree
  refine wpAny_bind (wpAny_field hz rfl (x := .none) rfl (wpAny_pure ?_))
  simp only [if_true]
  refine wpAny_bind (wpAny_rule ?_)
  refine wpAny_bind (wpAny_field hz rfl (x := .ref TO) rfl ?_)
  refine wpAny_bind (wpAny_setField_rec hz (by simp) fun h₁ hz₁ hs₁ => ?_)
  replace hz₁ : IsZip h₁ z TI TO .ellipsis := hz₁
  refine wpAny_bind ?_
  simp only [List.zipIdx_cons, List.zipIdx_nil, List.forIn_cons, List.forIn_nil]
  refine wpAny_bind (wpAny_bind (wpAny_onRaise ?_))
  show wpAny _ _ (Builtin.SmallTypes.nextOf (.ref i1) >>= _) _ _ _
  have h1₁ : IsRangeIter h₁ i1 x left step := (hs₁.2 _ D.i1z).trans h1
  refine wpAny_bind (nextOf_range_item h1₁ hleft fun h₂ h1₂ hs₂ => wpAny_pure ?_)
  have hTO₂ : IsPair h₂ TO a b := hs₂.extBut _ _ D.TOi1 (hs₁.extBut _ _ D.TOz hTO)
  refine wpAny_bind (wpAny_seqItems hTO₂ rfl ?_)
  refine wpAny_bind (wpAny_updateSeq_pair hTO₂ fun h₃ hTO₃ hs₃ => ?_)
  replace hTO₃ : IsPair h₃ TO (.int x s.toks) b := hTO₃
  refine wpAny_bind (wpAny_letGo (wpAny_pure ?_))
  refine wpAny_bind (wpAny_bind (wpAny_onRaise ?_))
  show wpAny _ _ (Builtin.SmallTypes.nextOf (.ref i2) >>= _) _ _ _
  refine wpAny_bind (wpAny_nextOf_list_item (((h2.extBut hs₁.extBut D.i2z).extBut hs₂.extBut D.i12.symm).extBut hs₃.extBut D.TOi2.symm)
    (((hl.extBut hs₁.extBut D.lz).extBut hs₂.extBut D.li1).extBut hs₃.extBut D.lTO) hy fun h₄ h2₄ hs₄ => wpAny_pure ?_)
  have hTO₄ : IsPair h₄ TO (.int x s.toks) b := hs₄.extBut _ _ D.TOi2 hTO₃
  refine wpAny_bind (wpAny_seqItems hTO₄ rfl ?_)
  refine wpAny_bind (wpAny_updateSeq_pair hTO₄ fun h₅ hTO₅ hs₅ => ?_)
  replace hTO₅ : IsPair h₅ TO (.int x s.toks) y := hTO₅
  refine wpAny_bind (wpAny_letGo (wpAny_pure (wpAny_pure ?_)))
  refine wpAny_bind (wpAny_seqItems hTO₅ rfl ?_)
  refine wpAny_bind (wpAny_newTuple ?_)
  have hsz : h₅.objs.size = s.heap.objs.size := by rw [hs₅.1, hs₄.1, hs₃.1, hs₂.1, hs₁.1]
  have hz₅ : IsZip h₅ z TI TO .ellipsis := hs₅.extBut _ _ D.TOz.symm (hs₄.extBut _ _ D.i2z.symm (hs₃.extBut _ _ D.TOz.symm (hs₂.extBut _ _ D.i1z.symm hz₁)))
  have hk₅ : ∀ c o, c ≠ z → c ≠ TO → c ≠ i1 → c ≠ i2 → s.heap.get? c = some o → h₅.get? c = some o := fun c o c1 c2 c3 c4 e =>
    hs₅.extBut _ _ c2 (hs₄.extBut _ _ c4 (hs₃.extBut _ _ c2 (hs₂.extBut _ _ c3 (hs₁.extBut _ _ c1 e))))
  have h1₅ : IsRangeIter h₅ i1 (x + step) (left - 1) step := hs₅.extBut _ _ D.TOi1.symm (hs₄.extBut _ _ D.i12 (hs₃.extBut _ _ D.TOi1.symm h1₂))
  have h2₅ : h₅.IsListIter i2 l (k2 + 1) := h2₄.extBut hs₅.extBut D.TOi2.symm
  have hzlt : z < h₅.objs.size := Heap.lt_size hz₅
  show wpAny _ _ (Builtin.SmallTypes.ownedTupleHandOut (.ref z) (.ref h₅.objs.size) >>= _) _ _ _
  refine wpAny_bind ?_
  unfold Builtin.SmallTypes.ownedTupleHandOut
  have hz₆ : IsZip (h₅.push { cls := .type "tuple", data := .seq #[.int x s.toks, y] }) z TI TO .ellipsis := Heap.get?_push_of_some _ hz₅
  refine wpAny_bind (wpAny_setField_rec hz₆ (by simp) fun h₇ hz₇ hs₇ => ?_)
  replace hz₇ : IsZip h₇ z TI TO (rawInt h₅.objs.size) := hz₇
  refine wpAny_setField_rec hz₇ (by simp) fun h₈ hz₈ hs₈ => ?_
  replace hz₈ : IsZip h₈ z TI TO (rawInt h₅.objs.size) := hz₈
  have up : ∀ c o, c ≠ z → h₅.get? c = some o → h₈.get? c = some o := fun c o c1 e => hs₈.extBut _ _ c1 (hs₇.extBut _ _ c1 (Heap.get?_push_of_some _ e))
  have hT₈ : IsPair h₈ h₅.objs.size (.int x s.toks) y := hs₈.extBut _ _ (Nat.ne_of_gt hzlt) (hs₇.extBut _ _ (Nat.ne_of_gt hzlt) (Heap.get?_push_size _ rfl))
  rw [hsz] at hz₈ hT₈
  refine wpAny_pure ⟨_, rfl, ?_⟩
  show Q (.ref h₅.objs.size) _
  rw [hsz]
  exact hQ h₈ s.toks _ hz₈ ⟨_, _, up _ _ D.TOz hTO₅⟩ (up _ _ D.i1z h1₅) (h2₅.at fun o e => up _ o D.i2z e) hT₈ fun c o c1 c2 c3 c4 e => up c o c1 (hk₅ c o c1 c2 c3 c4 e)

theorem zipR_next_end {z TI TO i1 i2 l : Addr} {x left step : Int} {Q : Fin → Shared → Prop} (hh : A.handled = Option.none) (D : ZA z TI TO i1 i2 l)
    (hz : IsZip s.heap z TI TO .none) (hTI : IsPair s.heap TI (.ref i1) (.ref i2)) (h1 : IsRangeIter s.heap i1 x left step) (hleft : left ≤ 0)
    (hE : ∀ h' e, (∀ c o, c ≠ z → s.heap.get? c = some o → h'.get? c = some o) → (∃ o, h'.get? e = some o ∧ o.cls = .type "StopIteration") → E (.ref e) { s with heap := h' }) :
    wpAny (model prog w) A (Builtin.«zip.__next__» ⟨[.ref z], []⟩) Q E s := by
  show wpAny _ _ (field (.ref z) 2 >>= _) _ _ _
  refine wpAny_bind (wpAny_field hz rfl (x := .bool false) rfl ?_)
  show wpAny _ _ (field (.ref z) 3 >>= _) _ _ _
  refine wpAny_bind (wpAny_field hz rfl (x := .ref TI) rfl ?_)
  refine wpAny_bind (wpAny_seqItems hTI rfl ?_)
  show wpAny _ _ (Builtin.SmallTypes.ownedTupleIsFree (.ref z) >>= _) _ _ _
  refine wpAny_bind ?_
  unfold Builtin.SmallTypes.ownedTupleIsFree
  refine wpAny_bind (wpAny_field hz rfl (x := .none) rfl (wpAny_pure ?_))
  simp only [if_true]
  refine wpAny_bind (wpAny_rule ?_)
  refine wpAny_bind (wpAny_field hz rfl (x := .ref TO) rfl ?_)
  refine wpAny_bind (wpAny_setField_rec hz (by simp) fun h₁ hz₁ hs₁ => ?_)
  replace hz₁ : IsZip h₁ z TI TO .ellipsis := hz₁
  refine wpAny_bind ?_
  simp only [List.zipIdx_cons, List.zipIdx_nil, List.forIn_cons, List.forIn_nil]
  refine wpAny_bind (wpAny_bind (wpAny_onRaise ?_))
  show wpAny _ _ (Builtin.SmallTypes.nextOf (.ref i1) >>= _) _ _ _
  have h1₁ : IsRangeIter h₁ i1 x left step := (hs₁.2 _ D.i1z).trans h1
  refine wpAny_bind (nextOf_range_end hh h1₁ hleft fun h₂ e hs₂ he => ?_)
  obtain ⟨oe, hoe, hce⟩ := he
  have hz₂ : IsZip h₂ z TI TO .ellipsis := hs₂ _ _ hz₁
  have hez : e ≠ z := fun x => by subst x; rw [hz₂] at hoe; cases hoe; simp at hce
  refine wpAny_setField_rec hz₂ (by simp) fun h₃ _ hs₃ => hE h₃ e (fun c o c1 x => hs₃.extBut _ _ c1 (hs₂ _ _ (hs₁.extBut _ _ c1 x))) ⟨oe, hs₃.extBut _ _ hez hoe, hce⟩

theorem pyNext_zipR_item {z TI TO i1 i2 l : Addr} {k2 : Nat} {ys : Array Value} {x left step : Int} {y a b : Value} {Q : Option Value → Shared → Prop} (D : ZA z TI TO i1 i2 l)
    (hz : IsZip s.heap z TI TO .none) (hTI : IsPair s.heap TI (.ref i1) (.ref i2)) (hTO : IsPair s.heap TO a b)
    (h1 : IsRangeIter s.heap i1 x left step) (hleft : 0 < left) (h2 : s.heap.IsListIter i2 l k2) (hl : s.heap.IsList l ys) (hy : ys[k2]? = some y)
    (hQ : ∀ h' t tk, IsZip h' z TI TO (rawInt s.heap.objs.size) → (∃ a b, IsPair h' TO a b) → IsRangeIter h' i1 (x + step) (left - 1) step → h'.IsListIter i2 l (k2 + 1) → IsPair h' s.heap.objs.size (.int x t) y →
      (∀ c o, c ≠ z → c ≠ TO → c ≠ i1 → c ≠ i2 → s.heap.get? c = some o → h'.get? c = some o) → Q (some (.ref s.heap.objs.size)) { s with heap := h', toks := tk }) :
    wpAny (model prog w) A (pyNext (.ref z)) Q E s := by
  have hT : s.TypeIs (.ref z) "zip" := ⟨_, hz, rfl⟩
  unfold pyNext
  exact wpAny_bind (wpAny_attempt (wpAny_callSpecial?_slot (name := Str.ofString "__next__") hT F.slot_zip_next
    (wpAny_call_entry F.slot_zip_next hT F.entry_zip_next
      (zipR_next_item D hz hTI hTO h1 hleft h2 hl hy fun h' t tk a1 a2 a3 a4 a5 a6 => wpAny_pure (hQ h' t tk a1 a2 a3 a4 a5 a6)) (F.args_zip_next_1 _))))
theorem pyNext_zipR_end {z TI TO i1 i2 l : Addr} {x left step : Int} {Q : Option Value → Shared → Prop} (hh : A.handled = Option.none) (D : ZA z TI TO i1 i2 l)
    (hz : IsZip s.heap z TI TO .none) (hTI : IsPair s.heap TI (.ref i1) (.ref i2)) (h1 : IsRangeIter s.heap i1 x left step) (hleft : left ≤ 0)
    (hQ : ∀ h', (∀ c o, c ≠ z → s.heap.get? c = some o → h'.get? c = some o) → Q Option.none { s with heap := h' }) : wpAny (model prog w) A (pyNext (.ref z)) Q E s := by
  have hT : s.TypeIs (.ref z) "zip" := ⟨_, hz, rfl⟩
  unfold pyNext
  refine wpAny_bind (wpAny_attempt (wpAny_callSpecial?_slot (name := Str.ofString "__next__") hT F.slot_zip_next
    (wpAny_call_entry F.slot_zip_next hT F.entry_zip_next (zipR_next_end hh D hz hTI h1 hleft fun h' e hk he => ?_) (F.args_zip_next_1 _))))
  obtain ⟨o, ho, hc⟩ := he
  refine wpAny_bind (wpAny_isInstance (T := "StopIteration") (b := true) ⟨o, ho, hc⟩ isSubtype_stop ?_)
  exact wpAny_pure (hQ _ hk)

theorem pyIter_listiter {I l : Addr} {i : Nat} {Q : Value → Shared → Prop} (hI : s.heap.IsListIter I l i) (h : Q (.ref I) s) : wpAny (model prog w) A (pyIter (.ref I)) Q E s := by
  refine wpAny_pyIter_slot hI.typeIs slot_listiter_iter (wpAny_call_entry slot_listiter_iter hI.typeIs entry_listiter_iter ?_ (args_listiter_iter _))
  show wpAny _ _ (ret (.ref I)) _ _ s
  exact wpAny_pure ⟨_, rfl, "list_iterator", _, hI.typeIs, slot_listiter_next.lookup, h⟩

noncomputable abbrev zrH1 (h : Heap) (a m k : Int) : Heap := h.push { cls := .type "range_iterator", data := .fields #[rawInt a, rawInt m, rawInt k] }
noncomputable abbrev zrH2 (h : Heap) (a m k : Int) (i2 : Addr) : Heap := (zrH1 h a m k).push { cls := .type "tuple", data := .seq #[.ref h.objs.size, .ref i2] }
noncomputable abbrev zrH3 (h : Heap) (a m k : Int) (i2 : Addr) : Heap := (zrH2 h a m k i2).push { cls := .type "tuple", data := .seq #[.none, .none] }
noncomputable abbrev zrH4 (h : Heap) (a m k : Int) (i2 : Addr) : Heap := (zrH3 h a m k i2).push { cls := .type "zip", data := .fields #[.none, .bool false, .bool false, .ref (zrH1 h a m k).objs.size, .ref (zrH2 h a m k i2).objs.size] }
theorem meets_zipR_new (R i2 l : Addr) (a b k : Int) (t u v : Tok) (j : Nat) (hs : Builtin.Range.small a b k = true) :
    Meets (Builtin.«zip.__new__» ⟨[.type "zip", .ref R, .ref i2], []⟩) (fun _ S s => IsRange s.heap R a b k t u v ∧ s.heap.IsListIter i2 l j ∧
      S (.ok (.ret (.ref (zrH3 s.heap a (Builtin.Range.rangeSize a b k) k i2).objs.size))) { s with heap := zrH4 s.heap a (Builtin.Range.rangeSize a b k) k i2 }) :=
  .of_wp fun prog w A S s h => by
    obtain ⟨hp, g, d, tk, os⟩ := s; obtain ⟨hl1, hl2, h⟩ := h
    have hsub := sub_zip
    have hL1 : IsRange (Shared.heap ⟨hp, g, d, tk, os⟩) R a b k t u v := hl1
    have hL2 : Heap.IsListIter (Shared.heap ⟨zrH1 hp a (Builtin.Range.rangeSize a b k) k, g, d, tk, os⟩) i2 l j := let ⟨o, h1, h2⟩ := hl2; ⟨o, Heap.get?_push_of_some _ h1, h2⟩
    wp_walk using wpAny_pyIter_range hL1 hs, pyIter_listiter hL2
    exact ⟨_, rfl, h⟩
end
end Mine
end
section
open PySem PySem.W PyProof.Rows
set_option maxRecDepth 100000
namespace Mine

section
variable {prog : Program} {w : World} {A : Around} {E : Value → Shared → Prop} {s : Shared}
theorem call_zipR {R i2 l : Addr} {a b k : Int} {t u v : Tok} {j : Nat} {Q : Value → Shared → Prop} (hs : Builtin.Range.small a b k = true) (hR : IsRange s.heap R a b k t u v) (hI : s.heap.IsListIter i2 l j)
    (h : ∀ h', IsZip h' (s.heap.objs.size + 3) (s.heap.objs.size + 1) (s.heap.objs.size + 2) .none → IsPair h' (s.heap.objs.size + 1) (.ref s.heap.objs.size) (.ref i2) →
      IsPair h' (s.heap.objs.size + 2) .none .none → IsRangeIter h' s.heap.objs.size a (Builtin.Range.rangeSize a b k) k →
      (∀ c o, s.heap.get? c = some o → h'.get? c = some o) → Q (.ref (s.heap.objs.size + 3)) { s with heap := h' }) :
    wpAny (model prog w) A (call (.type "zip") [.ref R, .ref i2]) Q E s := by
  refine callType_new F.called_zip (by decide) (F.typeCall_zip_2 _ _) (F.newCall_zip_2 _ _) (fun obj => F.args_object_init_3 obj _ _) F.entry_zip_new
    (meets_zipR_new R i2 l a b k t u v j hs) ⟨hR, hI, ?_⟩
  have z1 : (zrH1 s.heap a (Builtin.Range.rangeSize a b k) k).objs.size = s.heap.objs.size + 1 := Heap.size_push ..
  have z2 : (zrH2 s.heap a (Builtin.Range.rangeSize a b k) k i2).objs.size = s.heap.objs.size + 2 := by rw [Heap.size_push, z1]
  have z3 : (zrH3 s.heap a (Builtin.Range.rangeSize a b k) k i2).objs.size = s.heap.objs.size + 3 := by rw [Heap.size_push, z2]
  have g4 : (zrH4 s.heap a (Builtin.Range.rangeSize a b k) k i2).get? (zrH3 s.heap a (Builtin.Range.rangeSize a b k) k i2).objs.size = some _ := Heap.get?_push_size _ rfl
  have g3 : (zrH4 s.heap a (Builtin.Range.rangeSize a b k) k i2).get? (zrH2 s.heap a (Builtin.Range.rangeSize a b k) k i2).objs.size = some _ := Heap.get?_push_of_some _ (Heap.get?_push_size _ rfl)
  have g2 : (zrH4 s.heap a (Builtin.Range.rangeSize a b k) k i2).get? (zrH1 s.heap a (Builtin.Range.rangeSize a b k) k).objs.size = some _ := Heap.get?_push_of_some _ (Heap.get?_push_of_some _ (Heap.get?_push_size _ rfl))
  have g1 : (zrH4 s.heap a (Builtin.Range.rangeSize a b k) k i2).get? s.heap.objs.size = some _ := Heap.get?_push_of_some _ (Heap.get?_push_of_some _ (Heap.get?_push_of_some _ (Heap.get?_push_size _ rfl)))
  show _ ∧ _
  rw [z1, z2, z3] at g4
  rw [z2] at g3
  rw [z1] at g2
  rw [z3]
  exact ⟨⟨_, g4, rfl⟩, h _ g4 g2 g3 g1 fun c o x =>
    Heap.get?_push_of_some _ (Heap.get?_push_of_some _ (Heap.get?_push_of_some _ (Heap.get?_push_of_some _ x)))⟩
end

theorem za_new {N it l : Nat} (h1 : it < N) (h2 : l < N) (h3 : l ≠ it) : ZA (N + 3) (N + 1) (N + 2) N it l := by
  constructor <;> (intro h; have h' : @Eq Nat _ _ := h; (first | lia | omega))
section
variable {c : Cx} {n : Nat} {env : Env} {σ : Sig} {Z : Zone} {s : Shared} {A : Around} {pos ppos : Pos} {Q : D → Sig → Prop}

/-- pairs: a place by steps, an item -/
noncomputable def zips (a k : Int) (m : Nat) (ds : List D) : List D := (List.range m).map fun i => .tup [.int (a + (i : Nat) * k), ds.getD i .none]
theorem zips_at {a k : Int} {m i : Nat} {ds : List D} {d : D} (h : (zips a k m ds)[i]? = some d) : i < m ∧ d = .tup [.int (a + (i : Nat) * k), ds.getD i .none] := by
  simp only [zips, List.getElem?_map, Option.map_eq_some_iff] at h
  obtain ⟨x, h1, h2⟩ := h
  rcases Nat.lt_or_ge i m with q | q
  · rw [List.getElem?_range q] at h1; cases h1; exact ⟨q, h2.symm⟩
  · rw [List.getElem?_eq_none (by simpa using q)] at h1; cases h1
theorem zips_length {a k : Int} {m : Nat} {ds : List D} : (zips a k m ds).length = m := by simp [zips]

noncomputable abbrev ZipSt (Z : Zone) (z TI TO i1 i2 l : Addr) (a k : Int) (m j : Nat) (ds rest : List D) (h : Heap) : Prop :=
  ∃ i, i ≤ m ∧ rest = (zips a k m ds).drop i ∧ (IsZip h z TI TO .none ∧ IsPair h TI (.ref i1) (.ref i2) ∧ (∃ x y, IsPair h TO x y) ∧ IsRangeIter h i1 (a + (i : Nat) * k) ((m : Int) - (i : Nat)) k ∧ h.IsListIter i2 l (j + i)) ∧ ∀ b p, Z b = some p → h.get? b = some p.2
theorem ZipSt.elim {z TI TO i1 i2 l : Addr} {a k : Int} {m j : Nat} {ds rest : List D} {h : Heap} {T : Prop} (st : ZipSt Z z TI TO i1 i2 l a k m j ds rest h)
    (q : ∀ i x y, i ≤ m → rest = (zips a k m ds).drop i → IsZip h z TI TO .none → IsPair h TI (.ref i1) (.ref i2) → IsPair h TO x y → IsRangeIter h i1 (a + (i : Nat) * k) ((m : Int) - (i : Nat)) k → h.IsListIter i2 l (j + i) → (∀ b p, Z b = some p → h.get? b = some p.2) → T) : T :=
  let ⟨i, hi, e, ⟨f1, f2, ⟨x, y, f3⟩, f4, f5⟩, zz⟩ := st; q i x y hi e f1 f2 f3 f4 f5 zz
theorem stp_zip {elts : List Expr} {kt : Nat} {z TI TO i1 i2 l : Addr} {ol : Obj} {vs : List Value} {a k : Int} {m j : Nat} {ds : List D} (hh : A.handled = Option.none) (D : ZA z TI TO i1 i2 l)
    (hwr : ∀ b ∈ [z, TI, TO, i1, i2], Z b = Option.none) (hl : Z l = some (true, ol)) (hol : isLst ol vs) (hv : RepL Z ds (vs.drop j)) (hm : m ≤ ds.length) :
    Stp c A (.Tuple elts kt pos) (.ref z) Z [z, TI, TO, i1, i2] (ZipSt Z z TI TO i1 i2 l a k m j ds)
      (fun h => h.IsListIter i2 l (j + m)) where
  frame := fun rest h h' st hw hz => st.elim fun i x y hi e f1 f2 f3 f4 f5 zz => ⟨i, hi, e, ⟨hw z (by simp) _ f1, hw TI (by simp) _ f2, ⟨x, y, hw TO (by simp) _ f3⟩, hw i1 (by simp) _ f4, f5.elim fun o q => ⟨o, hw i2 (by simp) _ q.1, q.2⟩⟩, hz⟩
  alive := fun rest h st b hb => st.elim fun i x y hi e f1 f2 f3 f4 f5 zz => by
    obtain ⟨o, f5, f6, f7⟩ := f5
    simp only [List.mem_cons, List.not_mem_nil, or_false] at hb
    rcases hb with rfl | rfl | rfl | rfl | rfl
    · exact ⟨_, f1, fun v e => by cases e⟩
    · exact ⟨_, f2, fun v e => by cases e⟩
    · exact ⟨_, f3, fun v e => by cases e⟩
    · exact ⟨_, f4, fun v e => by cases e⟩
    · exact ⟨o, f5, fun v e => by rw [f7] at e; cases e⟩
  item := fun d rest s K st hz hK => st.elim fun i x y hi e f1 f2 f3 f4 f5 zz => by
    have hlt : i < m := by
      rcases Nat.lt_or_ge i m with q | q
      · exact q
      · rw [List.drop_eq_nil_of_le (by rw [zips_length]; exact q)] at e; cases e
    have hlt' : i < (zips a k m ds).length := by rw [zips_length]; exact hlt
    have hd : (zips a k m ds)[i]? = some d ∧ rest = (zips a k m ds).drop (i + 1) := by
      rw [List.drop_eq_getElem_cons hlt'] at e
      cases e
      exact ⟨List.getElem?_eq_getElem hlt', rfl⟩
    obtain ⟨_, rfl⟩ := zips_at hd.1
    obtain ⟨v, hv1, hv2⟩ := hv.get (i := i) (d := ds.getD i .none) (by simp [show i < ds.length by (first | lia | omega)])
    obtain ⟨t1, mm, t2⟩ := hol
    have il : s.heap.IsList l vs.toArray := ⟨ol, hz _ _ hl, t1, mm, t2⟩
    refine pyNext_zipR_item D f1 f2 f3 f4 (by (first | lia | omega)) f5 il (y := v) (by rw [List.getElem?_drop] at hv1; simpa using hv1) fun h' t tk a1 a2 a3 a4 a5 hk => ⟨_, rfl, ?_⟩
    refine wpAny_letOwnedTupleGo_zip (s := { s with heap := h', toks := tk }) a1 fun h'' hz'' hs'' => ?_
    have hlz : z < s.heap.objs.size := Heap.lt_size f1
    have kk : ∀ b o, b ∉ [z, TI, TO, i1, i2] → s.heap.get? b = some o → h''.get? b = some o := fun b o hb e => by
      simp only [List.mem_cons, List.not_mem_nil, or_false, not_or] at hb
      exact hs''.extBut _ _ hb.1 (hk b o hb.1 hb.2.2.1 hb.2.2.2.1 hb.2.2.2.2 e)
    have zone : ∀ b p, Z b = some p → h''.get? b = some p.2 := fun b p q => kk b _ (fun hn => by rw [hwr b hn] at q; cases q) (hz b p q)
    have hT : IsPair h'' s.heap.objs.size (.int (a + (i : Nat) * k) t) v := hs''.extBut _ _ (Nat.ne_of_gt hlz) a5
    have hTn := get_size s.heap
    refine hK (.ref s.heap.objs.size) h'' tk kk ⟨i + 1, hlt, hd.2, ⟨hz'', hs''.extBut _ _ D.TIz (hk _ _ D.TIz D.TITO D.TIi1 D.TIi2 f2), (let ⟨x, y, q⟩ := a2; ⟨x, y, hs''.extBut _ _ D.TOz q⟩), ?_, ?_⟩, zone⟩
      ⟨fun b => if b = s.heap.objs.size then some (true, tupO [.int (a + (i : Nat) * k) t, v] 0) else Z b, fun b p q => ?_, ?_⟩
    · have := hs''.extBut _ _ D.i1z a3
      rw [show a + ((i + 1 : Nat) : Int) * k = a + (i : Nat) * k + k from by rw [Int.natCast_add, Int.add_mul]; simp; (first | lia | omega), show (m : Int) - ((i + 1 : Nat) : Int) = (m : Int) - (i : Nat) - 1 from by (first | lia | omega)]
      exact this
    · exact a4.extBut hs''.extBut D.i2z
    · dsimp only at q
      by_cases h : b = s.heap.objs.size
      · subst h; rw [if_pos rfl] at q; cases q; exact .inr ⟨hT, hTn⟩
      · rw [if_neg h] at q; exact .inl q
    · simp only [Rep, RepL]
      refine ⟨_, tupO [.int (a + (i : Nat) * k) t, v] 0, _, rfl, if_pos rfl, ⟨rfl, _, rfl⟩, _, _, rfl, ⟨t, rfl⟩, _, _, rfl, hv2.gen fun b o' q => ?_, rfl⟩
      rw [if_neg (by rintro rfl; have := hz _ _ q; rw [hTn] at this; cases this)]; exact q
  self := fun rest s K st hK => st.elim fun i x y hi e f1 f2 f3 f4 f5 zz => wpAny_pyIter_zip f1 hK
  done := fun s K st hz hK => st.elim fun i x y hi e f1 f2 f3 f4 f5 zz => by
    have : i = m := by
      rcases Nat.lt_or_ge i m with q | q
      · rw [List.drop_eq_getElem_cons (by rw [zips_length]; exact q)] at e; cases e
      · (first | lia | omega)
    subst this
    refine pyNext_zipR_end hh D f1 f2 f4 (by (first | lia | omega)) fun h' hk => ⟨rfl, hK h' s.toks (fun b o hb e => hk b o (fun q => hb (by simp [q])) e) ?_⟩
    exact f5.at fun o e => hk _ o D.i2z e

/-- evaluating an expression, then iterating: one list iterator comes back -/
noncomputable def AEIz (c : Cx) (n : Nat) (env : Env) (target e : Expr) (σ : Sig) (K : List D → Addr → Cel → Sig → Prop) : Prop :=
  ∀ Z A s, Room n A → Rel c env Z σ s → wpc c A (eval e env) (fun v s₁ => wpc c A (pyIter v) (fun it s' => ∃ Z' σ' items a x Fin wr St, ZLe Z Z' ∧ Rel c env Z' σ' s' ∧ Stp c A target it Z' wr St Fin ∧ St items s'.heap ∧ Free env Z' σ' wr ∧ a ∈ wr ∧
    (∀ h, Fin h → ∃ o, h.get? a = some o ∧ CelO Z' o x) ∧ K items a x σ') s₁) s
variable {f e₁ e₂ : Expr} {elts : List Expr} {kt : Nat} {tpos : Pos}
theorem AEIz.zip {K : List D → Addr → Cel → Sig → Prop}
    (h : AE c n env f σ (fun d σ₁ => d = .val (.type "zip") ∧ AE c n env e₁ σ₁ (fun d₁ σ₂ => AE c n env e₂ σ₂ (fun d₂ σ₃ => ∃ a b k m it ds, d₁ = .rng a b k ∧ d₂ = .val (.ref it) ∧ σ₃.L it = some (.iter ds) ∧ Builtin.Range.small a b k = true ∧ Builtin.Range.rangeSize a b k = ((m : Nat) : Int) ∧ m ≤ ds.length ∧
      K (zips a k m ds) it (.iter (ds.drop m)) ⟨σ₃.m, eraseL σ₃.L it⟩))))
    (he : eval (.Call f [e₁, e₂] [] pos) env = (do callWith pos (← eval f env) [] (backTo pos (starEach [e₁, e₂] env)) (backToKw pos (keywordEach [] env))) := by rfl)
    (he' : starEach [e₁, e₂] env = (false, eval e₁ env) :: starEach [e₂] env := by rfl) (he2 : starEach [e₂] env = (false, eval e₂ env) :: starEach [] env := by rfl) (hp : (backTo pos (starEach [e₂] env)).any (·.1) = false := by rfl) : AEIz c n env (.Tuple elts kt tpos) (.Call f [e₁, e₂] [] pos) σ K := fun Z A s hr r => by
  refine Call_ (wpAny_mono (h Z A s hr r) (fun v s₁ hpz => hpz.elim fun Z₁ σ₁ d l₁ r₁ e₁ hq1 => ?_) fun _ _ e => e) he
  obtain ⟨q1, h₁⟩ := hq1
  subst q1; simp only [Rep] at e₁; subst e₁
  refine PyProof.Rows.callWith_type1 (args_cons (wpAny_mono (h₁ Z₁ A s₁ hr r₁) (fun v s₂ hpz => hpz.elim fun Z₂ σ₂ d₁ l₂ r₂ e₂ h₂ => args_cons (wpAny_mono (h₂ Z₂ A s₂ hr r₂) (fun v' s₃ hpz => hpz.elim fun Z₃ σ₃ d₂ l₃ r₃ e₃ hq1 => ?_) fun _ _ e => e) he2) fun _ _ e => e) he') he' hp
  obtain ⟨a, b, k, m, it, ds, q1, q2, q3, q4, q5, q6, h₃⟩ := hq1
  refine args_nil ?_
  subst q1 q2
  have e₂' := e₂.mono l₃
  simp only [Rep] at e₂' e₃
  subst e₃
  obtain ⟨R, t, u, w, rfl, hz⟩ := e₂'
  obtain ⟨hzi, o, ho, l, ol, vs, j, hl, hol, c1, c2, hv⟩ := r₃.g.cel it _ q3
  have hI : s₃.heap.IsListIter it l j := ⟨o, ho, c1, c2⟩
  refine call_zipR (t := t) (u := u) (v := w) q4 (r₃.g.zone _ _ hz) hI fun h' a1 a2 a3 a4 hk => ?_
  rw [q5] at a4
  refine wpAny_pyIter_zip a1 ?_
  have hil := Heap.lt_size ho
  have hll : l < s₃.heap.objs.size := Heap.lt_size (r₃.g.zone _ _ hl)
  have ne : ∀ {x y : Nat}, x < y → x ≠ y := fun h => Nat.ne_of_lt h
  have D : ZA (s₃.heap.objs.size + 3) (s₃.heap.objs.size + 1) (s₃.heap.objs.size + 2) s₃.heap.objs.size it l := za_new hil hll (by rintro rfl; rw [hzi] at hl; cases hl)
  have fr : ∀ b ∈ [s₃.heap.objs.size + 3, s₃.heap.objs.size + 1, s₃.heap.objs.size + 2, s₃.heap.objs.size, it], Z₃ b = Option.none ∧ eraseL σ₃.L it b = Option.none ∧ ¬ Own env b := fun b hb => by
    have new : ∀ j, Z₃ (s₃.heap.objs.size + j) = Option.none ∧ eraseL σ₃.L it (s₃.heap.objs.size + j) = Option.none ∧ ¬ Own env (s₃.heap.objs.size + j) := fun j => by
      have := r₃.fresh (size_none s₃.heap j)
      refine ⟨this.1, ?_, this.2.2⟩
      simp only [eraseL]; split <;> first | rfl | exact this.2.1
    simp only [List.mem_cons, List.not_mem_nil, or_false] at hb
    rcases hb with rfl | rfl | rfl | rfl | rfl
    · exact new 3
    · exact new 1
    · exact new 2
    · exact new 0
    · exact ⟨hzi, by simp only [eraseL, if_true], fun q => by rw [(r₃.f.own _ q).2] at q3; cases q3⟩
  have r₄ : Rel c env Z₃ ⟨σ₃.m, eraseL σ₃.L it⟩ { s₃ with heap := h' } := (r₃.le (σ' := ⟨σ₃.m, eraseL σ₃.L it⟩) ⟨fun _ _ e => e, fun b x e => by
    simp only [eraseL] at e; split at e
    · cases e
    · exact e⟩).keeps (tk := s₃.toks) hk
  have W := stp_zip (c := c) (elts := elts) (kt := kt) (pos := tpos) (a := a) (k := k) (m := m) hr.1 D (fun b hb => (fr b hb).1) hl hol hv q6
  refine ⟨Z₃, ⟨σ₃.m, eraseL σ₃.L it⟩, _, it, .iter (ds.drop m), _, _, _, l₁.trans (l₂.trans l₃), r₄, W, ⟨0, Nat.zero_le _, rfl, ⟨a1, a2, ⟨_, _, a3⟩, by simpa using a4, by simpa using hI.at fun o e => hk _ o e⟩, r₄.g.zone⟩, fun b hb => fr b hb, by simp, fun h hfin => ?_, h₃⟩
  obtain ⟨o', b1, b2, b3⟩ := hfin
  refine ⟨o', b1, l, ol, vs, j + m, hl, hol, b2, b3, ?_⟩
  have := hv.drop m
  rwa [List.drop_drop] at this

/-- x = [.. for .. in zip(range(..), it)] -/
theorem AX.assignCompZ {target iter elt : Expr} {ifs : List Expr} {scope : Scope} {min : List (Str × D)} {Q : F → Sig → Prop} {rest : List Stmt} {x : Str} {px spos : Pos} (ok : CompOk scope env σ.m min)
    (h : AEIz c n env target iter σ (fun items it y σ₁ => σ₁.m = σ.m ∧ σ₁.L it = Option.none ∧ items.length ≤ 1000 ∧ ∀ e : Env, (∀ x, scope.names.lookup x = some .cell → ∃ k, e.cells.lookup x = some k ∧ e.locals < k) →
      ACmp c n (withScope (relabel scope env) e) target ifs elt (fun acc σ₂ => ∀ a, σ₂.L a = Option.none → a ≠ it → AX c n env rest (((Sig.cel ⟨σ.m, σ₂.L⟩ a (.list acc)).cel it y).put x (.val (.ref a))) Q) items [] ⟨min, σ₁.L⟩))
    (hx : Sto env x := by exact ⟨rfl, .inl rfl⟩) (hsw : swapsWith (.ListComp elt [⟨target, iter, ifs, 0⟩] scope pos) (some (.Name x px)) spos.line env = pure true := by rfl)
    (hs : ∀ x, foldedSetIterable iter env x = pure x := by intro _; rfl) : AX c n env (.Assign [.Name x px] (.ListComp elt [⟨target, iter, ifs, 0⟩] scope pos) spos :: rest) σ Q := by
  refine .then_ fun Z A s hr r => ?_
  rw [exec_Assign_Name_used _ _ _ _ hsw]
  refine wpAny_bind (wpAny_standAt (wpAny_bind ?_))
  have : evalThenUse (.ListComp elt [⟨target, iter, ifs, 0⟩] scope pos) env (PySem.assign (.Name x px) env) = (do
      let _ ← comprehension (.ListComp elt [⟨target, iter, ifs, 0⟩] scope pos) scope env (firstIterPos [⟨target, iter, ifs, 0⟩] pos) (newList []) false (eval iter env) (some (PySem.assign (.Name x px) env)); pure ()) := by rfl
  rw [this]
  refine wpAny_bind (comp_eval (some (PySem.assign (.Name x px) env)) r ok (wpAny_mono (h Z A s hr r) (fun v s₁ h₁ => wpAny_mono h₁ (fun it s₂ hq1 => ?_) fun _ _ e => e) fun _ _ e => e) hs _)
  obtain ⟨Z₂, σ₂, items, ai, y, Fi, wr, St, l₂, r₂, W, hst, hf, haw, hfin, hm, hit, hlen, h₂⟩ := hq1
  refine comp_core (some (PySem.assign (.Name x px) env)) hr r₂ W hst hf (by rw [hm]; exact ok) hlen h₂ fun Z' σ₃ acc a C s' l' r' ha f' hF e' hq1 hz hl ho hw => ?_
  obtain ⟨mC, hnC⟩ := hq1
  obtain ⟨oi, hoi, hci⟩ := hfin _ hF
  have fi := f' ai haw
  have hai : a ≠ ai := fun q => by
    have := fi.2.1; subst q
    simp [Sig.cel, setL] at this
  have r'' := r'.newCel fi.1 fi.2.2 hoi (x := y) (hci.gen fun b o e => l' b _ e)
  have hCi : C ≠ ai := fun q => hw (q ▸ haw)
  have hl' : ((Sig.cel ⟨σ₂.m, σ₃.L⟩ a (.list acc)).cel ai y).L C = Option.none := by
    show (if C = ai then some y else _) = _
    rw [if_neg hCi]; exact hl
  obtain ⟨oC, es, ep, hoC, hdC, hk1, hk2⟩ := hnC
  let Zc : Zone := fun b => if b = C then some (false, oC) else Z' b
  have lc : ZLe Z' Zc := fun b p e => by simp only [Zc]; rw [if_neg (by rintro rfl; rw [hz] at e; cases e)]; exact e
  have rc := r''.hold lc fun b p e => by
    simp only [Zc] at e
    by_cases q : b = C
    · subst q; rw [if_pos rfl] at e; cases e; exact .inr ⟨hoC, ho, hl'⟩
    · rw [if_neg q] at e; exact .inl e
  refine wpAny_assign_Name (store_var rc hx (d := .val (.ref a)) (by simp only [Rep]) fun s'' r'' => ?_)
  have hoC'' : s''.heap.get? C = some oC := r''.g.zone C (false, oC) (by simp only [Zc, if_true])
  refine ⟨mC, ⟨oC, es, ep, hoC'', hdC, hk1, hk2⟩, fun h' hs' => wpAny_pure (wpAny_pure ?_)⟩
  have rd := r''.drop (Z' := Z') (fun b p e => lc b p e) (fun b o e => by
    simp only [Zc] at e; split at e
    · cases e
    · exact e) fun k p v e e' => by
    simp only [Zc] at e; split at e
    · cases e; simp only at e'; rw [hdC] at e'; cases e'
    · exact e
  have := rd.sameBut hz hl' ho hs' s''.toks
  rw [hm] at this
  exact ⟨Z', _, l₂.trans l', this, rfl, e' a ha hai⟩

theorem AB.iter {ds : List D} (h : ∀ a, σ.L a = Option.none → Q (.val (.ref a)) (σ.cel a (.iter ds))) : AB c n env (.builtin "iter") [.lst ds] [] σ Q := fun Z A s vs us hr r hv hu => by
  simp only [RepL, Rep] at hv
  obtain ⟨_, _, rfl, ⟨l, o, vs, rfl, hz, ⟨t1, m, t2⟩, hv⟩, rfl⟩ := hv
  refine PySem.Calls.call_function_entry (by decide +kernel) (by decide +kernel) kdk_entry_iter (kdk_args_iter _) ?_
  unfold Builtin.«iter»
  refine wpAny_bind (m := someArgs "iter" 1 2 _) (wpAny_of_eq (a := [Value.ref l]) (by first | rfl | kernel_rfl!) ?_)
  show wpAny _ _ (pyIter (.ref l) >>= _) _ _ _
  refine wpAny_bind (wpAny_pyIter_list (items := vs.toArray) ⟨o, r.g.zone _ _ hz, t1, m, t2⟩ (wpAny_pure ⟨_, rfl, ?_⟩))
  have hf := r.fresh (get_size s.heap)
  have r' : Rel c env Z σ { s with heap := s.heap.push { cls := .type "list_iterator", data := .fields #[.ref l, .int 0 0] } } := r.keeps (tk := s.toks) fun _ _ e => Heap.get?_push_of_some _ e
  exact ⟨Z, _, _, .refl Z, r'.newCel hf.1 hf.2.2 (Heap.get?_push_size _ rfl) (x := .iter ds) ⟨l, o, vs, 0, hz, ⟨t1, m, t2⟩, rfl, rfl, hv⟩, by simp only [Rep], h _ hf.2.1⟩

/-- for x in it: the rest of an iterator's items -/
theorem AI.iter {target : Expr} {a : Addr} {ds : List D} {K : List D → Sig → Prop} (ha : σ.L a = some (.iter ds)) (h : K ds ⟨σ.m, eraseL σ.L a⟩) : AI c n env target (.val (.ref a)) σ K := fun Z A s v hr r e => by
  simp only [Rep] at e; subst e
  obtain ⟨hzi, o, ho, l, ol, vs, j, hl, ⟨t1, m, t2⟩, c1, c2, hv⟩ := r.g.cel a _ ha
  have hI : s.heap.IsListIter a l j := ⟨o, ho, c1, c2⟩
  refine pyIter_listiter hI ?_
  have r₄ : Rel c env Z ⟨σ.m, eraseL σ.L a⟩ s := r.le ⟨fun _ _ e => e, fun b x e => by
    simp only [eraseL] at e; split at e
    · cases e
    · exact e⟩
  have hne : l ≠ a := by rintro rfl; rw [hzi] at hl; cases hl
  have hlen := hv.length
  have W' : Walks c.prog c.w A a [a, l] [a] ds.length (fun i v => vs.toArray[j + i]? = some v) (fun i h => h.IsListIter a l (j + i) ∧ h.IsList l vs.toArray) := by
    refine ⟨fun b hb => by simp at hb; simp [hb], fun _ _ _ st hk => ⟨st.1.at fun o e => hk a (by simp) o e, st.2.at fun o e => hk l (by simp) o e⟩, fun i s Q E hi st hQ => ?_, fun s Q E st hQ => ?_, fun _ _ _ _ st hQ => pyIter_listiter st.1 hQ⟩
    · have hlt : j + i < vs.toArray.size := by simp at hlen ⊢; (first | lia | omega)
      refine wpAny_pyNext_list_item st.1 st.2 (x := vs.toArray[j + i]) (by simp) fun h' hit' hs' => ?_
      exact hQ _ h' s.toks (by simp) ⟨hit', st.2.extBut hs'.extBut hne⟩ fun b o hb e => hs'.extBut b o (fun h => hb (by simp [h])) e
    · exact wpAny_pyNext_list_end hr.1 st.1 st.2 (by simp at hlen ⊢; (first | lia | omega)) fun h' he' => hQ h' s.toks fun b o hb e => he' b o (fun h => hb (by simp [h])) e
  refine ⟨Z, ⟨σ.m, eraseL σ.L a⟩, ds, .refl Z, r₄, ⟨[a], _, Stp.ofWalks (items := ds) W' ?_ ?_ ?_ ?_ ?_, ⟨0, Nat.zero_le _, rfl, ⟨by simpa using hI, ⟨ol, r.g.zone _ _ hl, t1, m, t2⟩⟩, r.g.zone⟩, ?_⟩, h⟩
  · intro b hb
    simp at hb
    rcases hb with rfl | rfl
    · exact .inl (by simp)
    · exact .inr ⟨_, hl⟩
  · intro b hb; simp at hb; subst hb; exact hzi
  · intro i v d hd hp
    refine repL_at hv hd ?_
    rw [List.getElem?_drop]; simpa using hp
  · rintro i h ⟨⟨o, e1, e2, e3⟩, _⟩ b hb
    simp at hb; subst hb
    exact ⟨o, e1, fun v e => by rw [e3] at e; cases e⟩
  · rintro i h ⟨⟨o, e1, e2, e3⟩, _⟩
    exact ⟨o, _, e1, e2, by decide⟩
  · intro b hb; simp at hb; subst hb
    exact ⟨hzi, by simp only [eraseL, if_true], fun q => by rw [(r.f.own _ q).2] at ha; cases ha⟩
end
end Mine
end
section
open PySem PySem.W PyProof.Rows
set_option maxRecDepth 100000
namespace Mine
open PySem.Float64

/-- p / 2 as a float -/
noncomputable def half (p : Int) : UInt64 := ofFrac (decide (p < 0)) p.natAbs 2

theorem V_half {q : Nat} (hq : q < 2 ^ 53) : ∃ t, t < infMag ∧ V t = q * 2 ^ 1073 := by
  by_cases h0 : q = 0
  · subst h0; exact ⟨0, by decide, by simp [V_zero]⟩
  · -- the place of the highest bit
    have key : ∀ j : Nat, ∀ q, q ≠ 0 → q < 2 ^ 53 → 2 ^ 52 ≤ q * 2 ^ j → ∃ i, i ≤ j ∧ 2 ^ 52 ≤ q * 2 ^ i ∧ q * 2 ^ i < 2 ^ 53 := by
      intro j
      induction j with
      | zero => intro q _ h1 h2; exact ⟨0, Nat.le_refl _, h2, by simpa using h1⟩
      | succ j ih =>
        intro q h0 h1 h2
        rcases Nat.lt_or_ge (q * 2 ^ (j + 1)) (2 ^ 53) with h | h
        · exact ⟨j + 1, Nat.le_refl _, h2, h⟩
        · obtain ⟨i, hi, h3⟩ := ih q h0 h1 (by rw [Nat.pow_succ, ← Nat.mul_assoc] at h; (first | lia | omega))
          exact ⟨i, by (first | lia | omega), h3⟩
    obtain ⟨i, hi, h1, h2⟩ := key 52 q h0 hq (by
      have : 1 ≤ q := by (first | lia | omega)
      calc 2 ^ 52 = 1 * 2 ^ 52 := by rw [Nat.one_mul]
        _ ≤ q * 2 ^ 52 := Nat.mul_le_mul_right _ this)
    refine ⟨(1073 - i) * 2 ^ 52 + q * 2 ^ i, ?_, ?_⟩
    · have : infMag = 2047 * 2 ^ 52 := rfl
      have : (1073 - i) * 2 ^ 52 ≤ 1073 * 2 ^ 52 := Nat.mul_le_mul_right _ (by (first | lia | omega))
      (first | lia | omega)
    · rw [V_at (Nat.le_of_lt h2) (.inl h1), Nat.mul_assoc, ← Nat.pow_add]
      congr 2
      (first | lia | omega)

theorem right_half {r : UInt64} {neg : Bool} {W D q : Nat} (h : Right r neg W D) (hD : 0 < D) (hq : q < 2 ^ 53) (hW : W = D * (q * 2 ^ 1073)) : ∃ t, r = pack neg t ∧ t < infMag ∧ V t = q * 2 ^ 1073 := by
  obtain ⟨t, rfl, ht, hov, hn⟩ := h
  obtain ⟨t', _, hv'⟩ := V_half hq
  have hlt : t < infMag := by
    rcases Nat.lt_or_ge t infMag with h | h
    · exact h
    · exfalso
      have h1 := hov.mp (Nat.le_antisymm ht h)
      rw [hW] at h1
      have h2 : D * ((2 ^ 54 - 1) * 2 ^ 2045) ≤ D * (2 * (q * 2 ^ 1073)) := by
        refine Nat.le_trans h1 (Nat.le_of_eq ?_)
        rw [Nat.mul_left_comm]
      have h3 := Nat.le_of_mul_le_mul_left h2 hD
      have h4 : 2 * (q * 2 ^ 1073) < 2 ^ 1127 := by
        have : q * 2 ^ 1073 < 2 ^ 53 * 2 ^ 1073 := Nat.mul_lt_mul_of_pos_right hq (Nat.two_pow_pos _)
        rw [← Nat.pow_add] at this
        have e : (2 : Nat) ^ 1127 = 2 * 2 ^ (53 + 1073) := by rw [show 1127 = (53 + 1073) + 1 from rfl, Nat.pow_succ, Nat.mul_comm]
        (first | lia | omega)
      have h5 : (2 : Nat) ^ 1127 ≤ 2 ^ 2045 := Nat.pow_le_pow_right (by decide) (by decide)
      have h6 : 1 * 2 ^ 2045 ≤ (2 ^ 54 - 1) * 2 ^ 2045 := Nat.mul_le_mul_right _ (by decide)
      (first | lia | omega)
  refine ⟨t, rfl, hlt, ?_⟩
  have h1 := (hn hlt t').1
  rw [hv', ← hW] at h1
  have h0 : dist W W = 0 := by simp [PySem.Float64.dist]
  rw [h0] at h1
  have h2 : dist W (D * V t) = 0 := Nat.le_zero.mp h1
  have h3 : W = D * V t := by
    simp only [PySem.Float64.dist] at h2; (first | lia | omega)
  rw [hW] at h3
  exact (Nat.eq_of_mul_eq_mul_left hD h3).symm
theorem V_inj {t t' : Nat} (h : V t = V t') : t = t' := by
  rcases Nat.lt_trichotomy t t' with q | q | q
  · have := V_lt q; (first | lia | omega)
  · exact q
  · have := V_lt q; (first | lia | omega)
theorem half_right {p : Int} (hp : p.natAbs < 2 ^ 53) : ∃ t, half p = pack (decide (p < 0)) t ∧ t < infMag ∧ V t = p.natAbs * 2 ^ 1073 :=
  right_half (ofFrac_right (W := p.natAbs * 2 ^ 1073) (D := 1) (by decide) (by
    rw [Nat.mul_one, Nat.mul_assoc]; congr 1) (by decide)) (by decide) hp (by rw [Nat.one_mul])
theorem right_is_half {r : UInt64} {W D : Nat} {p : Int} (h : Right r (decide (p < 0)) W D) (hD : 0 < D) (hp : p.natAbs < 2 ^ 53) (hW : W = D * (p.natAbs * 2 ^ 1073)) : r = half p := by
  obtain ⟨t, h1, _, h2⟩ := right_half h hD hp hW
  obtain ⟨t', h3, _, h4⟩ := half_right hp
  rw [h1, h3, V_inj (h2.trans h4.symm)]
/-- a quotient that is a whole number or lies halfway -/
theorem frac_half {N p : Int} {k : Nat} (hk : 0 < k) (hp : p.natAbs < 2 ^ 53) (h : 2 * N = k * p) : ofFrac (decide (N < 0)) N.natAbs k = half p := by
  have hs : decide (N < 0) = decide (p < 0) := by
    apply decide_eq_decide.mpr
    constructor
    · intro hn
      by_cases q : p < 0
      · exact q
      · have : (0 : Int) ≤ k * p := Int.mul_nonneg (by (first | lia | omega)) (by (first | lia | omega))
        (first | lia | omega)
    · intro hn
      have : (k : Int) * p < 0 := Int.mul_neg_of_pos_of_neg (by (first | lia | omega)) hn
      (first | lia | omega)
  rw [hs]
  refine right_is_half (W := p.natAbs * 2 ^ 1073) (D := 1) (ofFrac_right hk ?_ (by decide)) (by decide) hp (by rw [Nat.one_mul])
  have h2 : 2 * N.natAbs = k * p.natAbs := by
    have := congrArg Int.natAbs h
    rw [Int.natAbs_mul, Int.natAbs_mul] at this
    simpa using this
  rw [Nat.mul_one]
  have e : (2 : Nat) ^ 1074 = 2 * 2 ^ 1073 := by rw [show 1074 = 1073 + 1 from rfl, Nat.pow_succ, Nat.mul_comm]
  rw [e]
  generalize (2 : Nat) ^ 1073 = K
  calc N.natAbs * (2 * K) = (2 * N.natAbs) * K := by rw [← Nat.mul_assoc, Nat.mul_comm N.natAbs 2]
    _ = (k * p.natAbs) * K := by rw [h2]
    _ = p.natAbs * K * k := by rw [Nat.mul_comm k, Nat.mul_assoc, Nat.mul_comm k, Nat.mul_assoc]
theorem half_decode {p : Int} (hp : p.natAbs < 2 ^ 53) : ∃ m e, decode (half p) = .fin (decide (p < 0)) m e ∧ val (half p) = p * 2 ^ 1073 := by
  obtain ⟨t, h1, h2, h3⟩ := half_right hp
  obtain ⟨m, e, h4, h5⟩ := decode_pack (decide (p < 0)) h2
  rw [h1]
  refine ⟨m, e, h4, ?_⟩
  rw [val_pack _ h2, h3]
  unfold sgn
  by_cases q : p < 0
  · simp only [q, decide_true, if_true]
    have : ((p.natAbs * 2 ^ 1073 : Nat) : Int) = (p.natAbs : Int) * 2 ^ 1073 := by push_cast; rfl
    rw [this, ← Int.neg_mul]
    congr 1
    (first | lia | omega)
  · simp only [q, decide_false, Bool.false_eq_true, if_false]
    have : ((p.natAbs * 2 ^ 1073 : Nat) : Int) = (p.natAbs : Int) * 2 ^ 1073 := by push_cast; rfl
    rw [this]
    congr 1
    (first | lia | omega)
theorem half_eq {i : Int} (hi : (2 * i).natAbs < 2 ^ 53) : cmpInt (half (2 * i)) i = some .eq := by
  obtain ⟨m, e, h1, h2⟩ := half_decode hi
  rw [cmpInt_right h1, h2]
  have : (2 : Int) * i * 2 ^ 1073 = i * 2 ^ 1074 := by
    have e : (2 : Int) ^ 1074 = 2 ^ 1073 * 2 := Int.pow_succ ..
    rw [e]
    generalize (2 : Int) ^ 1073 = K
    rw [Int.mul_comm 2 i, Int.mul_assoc, Int.mul_comm 2 K]
  rw [this]
  simp [compare, compareOfLessAndEq]
theorem ofInt_two : ofInt 2 = half 4 := by decide +kernel
theorem half_mul {p : Int} (hp : (2 * p).natAbs < 2 ^ 53) : mul (ofInt 2) (half p) = half (2 * p) := by
  rw [ofInt_two]
  obtain ⟨m, e, h1, h2⟩ := half_decode (p := 4) (by decide)
  obtain ⟨m', e', h3, h4⟩ := half_decode (p := p) (by (first | lia | omega))
  have hr := mul_right h1 h3
  rw [h2, h4] at hr
  have hs : (decide ((4 : Int) < 0) != decide (p < 0)) = decide (2 * p < 0) := by
    have : decide ((4 : Int) < 0) = false := by decide
    rw [this]
    by_cases q : p < 0
    · have : 2 * p < 0 := by (first | lia | omega)
      simp [q, this]
    · have : ¬ 2 * p < 0 := by (first | lia | omega)
      simp [q, this]
  rw [hs] at hr
  refine right_is_half hr (Nat.two_pow_pos _) hp ?_
  rw [Int.natAbs_mul, Int.natAbs_mul, Int.natAbs_mul]
  have e1 : ((2 : Int) ^ 1073).natAbs = 2 ^ 1073 := by rw [Int.natAbs_pow]; rfl
  rw [e1]
  have e : (2 : Nat) ^ 1074 = 2 * 2 ^ 1073 := by rw [show 1074 = 1073 + 1 from rfl, Nat.pow_succ, Nat.mul_comm]
  rw [e]
  generalize (2 : Nat) ^ 1073 = K
  show 4 * K * (p.natAbs * K) = 2 * K * (2 * p.natAbs * K)
  have : 4 * K = 2 * (2 * K) := by (first | lia | omega)
  rw [this]
  ac_rfl
end Mine
end
section
open PySem PySem.W PyProof.Rows PySem.SeqAt
set_option maxRecDepth 100000
namespace Mine
section
variable {c : Cx} {n : Nat} {env : Env} {σ : Sig} {Z : Zone} {s : Shared} {A : Around} {pos ppos : Pos} {Q : D → Sig → Prop}

theorem AO.div {N p k : Int} (hk : 0 < k) (hk' : k < 2 ^ 20) (hp : p.natAbs < 2 ^ 53) (hN : 2 * N = k * p) (h : Q (.flt (half p)) σ) : AO c n env (binaryOp .Div) Rep (.int N) (.int k) σ Q := fun Z A s v₁ v₂ hr r e₁ e₂ => by
  simp only [Rep] at e₁ e₂
  obtain ⟨t, rfl⟩ := e₁; obtain ⟨u, rfl⟩ := e₂
  have hkn : ((k.natAbs : Nat) : Int) = k := by (first | lia | omega)
  have e : Float64.ofFrac (decide (N < 0) != decide (k < 0)) N.natAbs k.natAbs = half p := by
    have : decide (k < 0) = false := by simp; (first | lia | omega)
    rw [this, Bool.bne_false]
    exact frac_half (by (first | lia | omega)) hp (by rw [hkn]; exact hN)
  have hfit : N.natAbs < 2 ^ 1023 := by
    have h1 : 2 * N.natAbs = k.natAbs * p.natAbs := by
      have := congrArg Int.natAbs hN
      rw [Int.natAbs_mul, Int.natAbs_mul] at this
      simpa using this
    have h2 : k.natAbs * p.natAbs ≤ 2 ^ 20 * 2 ^ 53 := Nat.mul_le_mul (by (first | lia | omega)) (by (first | lia | omega))
    have h3 : (2 : Nat) ^ 20 * 2 ^ 53 < 2 ^ 1023 := by
      rw [← Nat.pow_add]; exact Nat.pow_lt_pow_right (by decide) (by decide)
    (first | lia | omega)
  refine PySem.Flt.div_ii_fits hr.1 hfit (fun q => by (first | lia | omega)) fun _ _ => ?_
  rw [e]
  exact .pure (r.tok _) rep_flt h
theorem AO.mulF {p : Int} (hp : (2 * p).natAbs < 2 ^ 53) (h : Q (.flt (half (2 * p))) σ) : AO c n env (binaryOp .Mult) Rep (.int 2) (.flt (half p)) σ Q := fun Z A s v₁ v₂ hr r e₁ e₂ => by
  simp only [Rep] at e₁ e₂
  obtain ⟨t, rfl⟩ := e₁; obtain ⟨u, rfl⟩ := e₂
  refine mul_if_sharp hr.1 (fun q => absurd q (by decide +kernel)) fun _ => ?_
  rw [half_mul hp]
  exact .pure (r.tok _) rep_flt h

/-! lists that are equal -/
inductive EqD : D → D → Prop
  | int (i : Int) : EqD (.int i) (.int i)
  | str (x : Str) : EqD (.str x) (.str x)
  | flt (i : Int) (h : (2 * i).natAbs < 2 ^ 53) : EqD (.flt (half (2 * i))) (.int i)
theorem eqAt_fi (a : UInt64) (t : Tok) (b : Int) (u : Tok) : EqAt A s (.float a t) (.int b u) (Float64.cmpInt a b == some Ordering.eq) := fun prog w E Q h => by
  unfold eqBool
  refine wpAny_holding ?_
  refine wpAny_ite_split (fun hab => absurd (eq_of_beq hab) nofun) (fun _ => ?_)
  exact wpAny_bind (show wpAny _ _ (compareOp .Eq (.float a t) (.int b u)) _ _ _ from eq_fi (wpAny_truthy_bool h))
theorem EqD.at {d d' : D} {v v' : Value} (h : EqD d d') (h1 : Rep Z d v) (h2 : Rep Z d' v') : EqAt A s v v' true := by
  cases h with
  | int i =>
    simp only [Rep] at h1 h2
    obtain ⟨t, rfl⟩ := h1; obtain ⟨u, rfl⟩ := h2
    have := EqAt.int_int (A := A) (s := s) i t i u
    rwa [beq_self_eq_true] at this
  | str x =>
    simp only [Rep] at h1 h2
    obtain ⟨t, rfl⟩ := h1; obtain ⟨u, rfl⟩ := h2
    have := EqAt.str_str (A := A) (s := s) x t x u
    rwa [beq_self_eq_true] at this
  | flt i hi =>
    simp only [Rep] at h1 h2
    obtain ⟨t, rfl⟩ := h1; obtain ⟨u, rfl⟩ := h2
    have := eqAt_fi (A := A) (s := s) (half (2 * i)) t i u
    rwa [half_eq hi, beq_self_eq_true] at this
theorem AO.neL {d₁ d₂ : D} {ds es : List D} (h1 : LstD σ d₁ ds) (h2 : LstD σ d₂ es) (hl : ds.length = es.length) (he : ∀ (i : Nat) d e, ds[i]? = some d → es[i]? = some e → EqD d e) (h : Q (.bool false) σ) : AO c n env (compareOp .NotEq) Rep d₁ d₂ σ Q := fun Z A s v₁ v₂ hr r e₁ e₂ => by
  obtain ⟨l, vs, rfl, il, hv⟩ := h1.at r e₁
  obtain ⟨b, ws, rfl, ib, hw⟩ := h2.at r e₂
  show wpc c A (richCompare .NotEq (.ref l) (.ref b)) _ s
  refine RcNeAt.lists (e := fun _ => true) il ib (by simp [hv.length, hw.length, hl]) (by have := hr.2.2; (first | lia | omega)) (fun j h1 h2 => ?_) c.prog c.w _ _ ?_
  · have l1 : j < ds.length := by rw [← hv.length]; simpa using h1
    have l2 : j < es.length := by rw [← hw.length]; simpa using h2
    exact (he j ds[j] es[j] (by simp [l1]) (by simp [l2])).at (repL_at hv (i := j) (by simp [l1]) (by simp at h1; simp [h1])) (repL_at hw (i := j) (by simp [l2]) (by simp at h2; simp [h2]))
  · have : (!(List.range vs.toArray.size).all fun _ => true) = false := by simp
    rw [this]
    exact .pure r rep_bool h
end
end Mine
end
section
open PySem PySem.W PyProof.Rows
set_option maxRecDepth 100000
namespace Mine
/-- the program of the row -/
noncomputable abbrev hd.pr : Program := PySem.Challenge.rw_om0146_01.row.toRowW.prog
/-- the parts of the def that stands at a place of the body -/
noncomputable def hd.fnB (i : Nat) : List Stmt := match hd.pr.main.body[i]? with
  | some (.FunctionDef _ _ b ..) => b
  | _ => []
noncomputable def hd.fnP (i : Nat) : Arguments := match hd.pr.main.body[i]? with
  | some (.FunctionDef _ a ..) => a
  | _ => default
noncomputable def hd.fnS (i : Nat) : Scope := match hd.pr.main.body[i]? with
  | some (.FunctionDef _ _ _ _ _ _ s ..) => s
  | _ => default
noncomputable abbrev hd.pm_1 : Arguments := by
  refine (fun (b : Arguments) (_ : hd.fnP 1 = b) => b) ?b ?h
  case h => conv => lhs; whnf
noncomputable abbrev hd.bd_1 : List Stmt := by
  refine (fun (b : List Stmt) (_ : hd.fnB 1 = b) => b) ?b ?h
  case h => conv => lhs; whnf
noncomputable abbrev hd.sc_1 : Scope := by
  refine (fun (b : Scope) (_ : hd.fnS 1 = b) => b) ?b ?h
  case h => conv => lhs; whnf
noncomputable abbrev hd.pm_22 : Arguments := by
  refine (fun (b : Arguments) (_ : hd.fnP 22 = b) => b) ?b ?h
  case h => conv => lhs; whnf
noncomputable abbrev hd.bd_22 : List Stmt := by
  refine (fun (b : List Stmt) (_ : hd.fnB 22 = b) => b) ?b ?h
  case h => conv => lhs; whnf
noncomputable abbrev hd.sc_22 : Scope := by
  refine (fun (b : Scope) (_ : hd.fnS 22 = b) => b) ?b ?h
  case h => conv => lhs; whnf
noncomputable abbrev hd.pm_24 : Arguments := by
  refine (fun (b : Arguments) (_ : hd.fnP 24 = b) => b) ?b ?h
  case h => conv => lhs; whnf
noncomputable abbrev hd.bd_24 : List Stmt := by
  refine (fun (b : List Stmt) (_ : hd.fnB 24 = b) => b) ?b ?h
  case h => conv => lhs; whnf
noncomputable abbrev hd.sc_24 : Scope := by
  refine (fun (b : Scope) (_ : hd.fnS 24 = b) => b) ?b ?h
  case h => conv => lhs; whnf
noncomputable abbrev hd.pm_25 : Arguments := by
  refine (fun (b : Arguments) (_ : hd.fnP 25 = b) => b) ?b ?h
  case h => conv => lhs; whnf
noncomputable abbrev hd.bd_25 : List Stmt := by
  refine (fun (b : List Stmt) (_ : hd.fnB 25 = b) => b) ?b ?h
  case h => conv => lhs; whnf
noncomputable abbrev hd.sc_25 : Scope := by
  refine (fun (b : Scope) (_ : hd.fnS 25 = b) => b) ?b ?h
  case h => conv => lhs; whnf
noncomputable abbrev hd.pm_26 : Arguments := by
  refine (fun (b : Arguments) (_ : hd.fnP 26 = b) => b) ?b ?h
  case h => conv => lhs; whnf
noncomputable abbrev hd.bd_26 : List Stmt := by
  refine (fun (b : List Stmt) (_ : hd.fnB 26 = b) => b) ?b ?h
  case h => conv => lhs; whnf
noncomputable abbrev hd.sc_26 : Scope := by
  refine (fun (b : Scope) (_ : hd.fnS 26 = b) => b) ?b ?h
  case h => conv => lhs; whnf
noncomputable abbrev hd.pm_27 : Arguments := by
  refine (fun (b : Arguments) (_ : hd.fnP 27 = b) => b) ?b ?h
  case h => conv => lhs; whnf
noncomputable abbrev hd.bd_27 : List Stmt := by
  refine (fun (b : List Stmt) (_ : hd.fnB 27 = b) => b) ?b ?h
  case h => conv => lhs; whnf
noncomputable abbrev hd.sc_27 : Scope := by
  refine (fun (b : Scope) (_ : hd.fnS 27 = b) => b) ?b ?h
  case h => conv => lhs; whnf
noncomputable abbrev hd.pm_28 : Arguments := by
  refine (fun (b : Arguments) (_ : hd.fnP 28 = b) => b) ?b ?h
  case h => conv => lhs; whnf
noncomputable abbrev hd.bd_28 : List Stmt := by
  refine (fun (b : List Stmt) (_ : hd.fnB 28 = b) => b) ?b ?h
  case h => conv => lhs; whnf
noncomputable abbrev hd.sc_28 : Scope := by
  refine (fun (b : Scope) (_ : hd.fnS 28 = b) => b) ?b ?h
  case h => conv => lhs; whnf
noncomputable abbrev hd.pm_29 : Arguments := by
  refine (fun (b : Arguments) (_ : hd.fnP 29 = b) => b) ?b ?h
  case h => conv => lhs; whnf
noncomputable abbrev hd.bd_29 : List Stmt := by
  refine (fun (b : List Stmt) (_ : hd.fnB 29 = b) => b) ?b ?h
  case h => conv => lhs; whnf
noncomputable abbrev hd.sc_29 : Scope := by
  refine (fun (b : Scope) (_ : hd.fnS 29 = b) => b) ?b ?h
  case h => conv => lhs; whnf
noncomputable abbrev hd.pm_30 : Arguments := by
  refine (fun (b : Arguments) (_ : hd.fnP 30 = b) => b) ?b ?h
  case h => conv => lhs; whnf
noncomputable abbrev hd.bd_30 : List Stmt := by
  refine (fun (b : List Stmt) (_ : hd.fnB 30 = b) => b) ?b ?h
  case h => conv => lhs; whnf
noncomputable abbrev hd.sc_30 : Scope := by
  refine (fun (b : Scope) (_ : hd.fnS 30 = b) => b) ?b ?h
  case h => conv => lhs; whnf
noncomputable abbrev hd.pm_31 : Arguments := by
  refine (fun (b : Arguments) (_ : hd.fnP 31 = b) => b) ?b ?h
  case h => conv => lhs; whnf
noncomputable abbrev hd.bd_31 : List Stmt := by
  refine (fun (b : List Stmt) (_ : hd.fnB 31 = b) => b) ?b ?h
  case h => conv => lhs; whnf
noncomputable abbrev hd.sc_31 : Scope := by
  refine (fun (b : Scope) (_ : hd.fnS 31 = b) => b) ?b ?h
  case h => conv => lhs; whnf
noncomputable abbrev hd.pm_32 : Arguments := by
  refine (fun (b : Arguments) (_ : hd.fnP 32 = b) => b) ?b ?h
  case h => conv => lhs; whnf
noncomputable abbrev hd.bd_32 : List Stmt := by
  refine (fun (b : List Stmt) (_ : hd.fnB 32 = b) => b) ?b ?h
  case h => conv => lhs; whnf
noncomputable abbrev hd.sc_32 : Scope := by
  refine (fun (b : Scope) (_ : hd.fnS 32 = b) => b) ?b ?h
  case h => conv => lhs; whnf
noncomputable abbrev hd.pm_33 : Arguments := by
  refine (fun (b : Arguments) (_ : hd.fnP 33 = b) => b) ?b ?h
  case h => conv => lhs; whnf
noncomputable abbrev hd.bd_33 : List Stmt := by
  refine (fun (b : List Stmt) (_ : hd.fnB 33 = b) => b) ?b ?h
  case h => conv => lhs; whnf
noncomputable abbrev hd.sc_33 : Scope := by
  refine (fun (b : Scope) (_ : hd.fnS 33 = b) => b) ?b ?h
  case h => conv => lhs; whnf
noncomputable abbrev hd.pm_34 : Arguments := by
  refine (fun (b : Arguments) (_ : hd.fnP 34 = b) => b) ?b ?h
  case h => conv => lhs; whnf
noncomputable abbrev hd.bd_34 : List Stmt := by
  refine (fun (b : List Stmt) (_ : hd.fnB 34 = b) => b) ?b ?h
  case h => conv => lhs; whnf
noncomputable abbrev hd.sc_34 : Scope := by
  refine (fun (b : Scope) (_ : hd.fnS 34 = b) => b) ?b ?h
  case h => conv => lhs; whnf
noncomputable abbrev hd.pm_37 : Arguments := by
  refine (fun (b : Arguments) (_ : hd.fnP 37 = b) => b) ?b ?h
  case h => conv => lhs; whnf
noncomputable abbrev hd.bd_37 : List Stmt := by
  refine (fun (b : List Stmt) (_ : hd.fnB 37 = b) => b) ?b ?h
  case h => conv => lhs; whnf
noncomputable abbrev hd.sc_37 : Scope := by
  refine (fun (b : Scope) (_ : hd.fnS 37 = b) => b) ?b ?h
  case h => conv => lhs; whnf
noncomputable abbrev hd.pm_38 : Arguments := by
  refine (fun (b : Arguments) (_ : hd.fnP 38 = b) => b) ?b ?h
  case h => conv => lhs; whnf
noncomputable abbrev hd.bd_38 : List Stmt := by
  refine (fun (b : List Stmt) (_ : hd.fnB 38 = b) => b) ?b ?h
  case h => conv => lhs; whnf
noncomputable abbrev hd.sc_38 : Scope := by
  refine (fun (b : Scope) (_ : hd.fnS 38 = b) => b) ?b ?h
  case h => conv => lhs; whnf
noncomputable abbrev hd.pm_39 : Arguments := by
  refine (fun (b : Arguments) (_ : hd.fnP 39 = b) => b) ?b ?h
  case h => conv => lhs; whnf
noncomputable abbrev hd.bd_39 : List Stmt := by
  refine (fun (b : List Stmt) (_ : hd.fnB 39 = b) => b) ?b ?h
  case h => conv => lhs; whnf
noncomputable abbrev hd.sc_39 : Scope := by
  refine (fun (b : Scope) (_ : hd.fnS 39 = b) => b) ?b ?h
  case h => conv => lhs; whnf
noncomputable abbrev hd.pm_41 : Arguments := by
  refine (fun (b : Arguments) (_ : hd.fnP 41 = b) => b) ?b ?h
  case h => conv => lhs; whnf
noncomputable abbrev hd.bd_41 : List Stmt := by
  refine (fun (b : List Stmt) (_ : hd.fnB 41 = b) => b) ?b ?h
  case h => conv => lhs; whnf
noncomputable abbrev hd.sc_41 : Scope := by
  refine (fun (b : Scope) (_ : hd.fnS 41 = b) => b) ?b ?h
  case h => conv => lhs; whnf
noncomputable abbrev hd.pm_42 : Arguments := by
  refine (fun (b : Arguments) (_ : hd.fnP 42 = b) => b) ?b ?h
  case h => conv => lhs; whnf
noncomputable abbrev hd.bd_42 : List Stmt := by
  refine (fun (b : List Stmt) (_ : hd.fnB 42 = b) => b) ?b ?h
  case h => conv => lhs; whnf
noncomputable abbrev hd.sc_42 : Scope := by
  refine (fun (b : Scope) (_ : hd.fnS 42 = b) => b) ?b ?h
  case h => conv => lhs; whnf
noncomputable abbrev hd.pm_43 : Arguments := by
  refine (fun (b : Arguments) (_ : hd.fnP 43 = b) => b) ?b ?h
  case h => conv => lhs; whnf
noncomputable abbrev hd.bd_43 : List Stmt := by
  refine (fun (b : List Stmt) (_ : hd.fnB 43 = b) => b) ?b ?h
  case h => conv => lhs; whnf
noncomputable abbrev hd.sc_43 : Scope := by
  refine (fun (b : Scope) (_ : hd.fnS 43 = b) => b) ?b ?h
  case h => conv => lhs; whnf
noncomputable abbrev hd.pm_44 : Arguments := by
  refine (fun (b : Arguments) (_ : hd.fnP 44 = b) => b) ?b ?h
  case h => conv => lhs; whnf
noncomputable abbrev hd.bd_44 : List Stmt := by
  refine (fun (b : List Stmt) (_ : hd.fnB 44 = b) => b) ?b ?h
  case h => conv => lhs; whnf
noncomputable abbrev hd.sc_44 : Scope := by
  refine (fun (b : Scope) (_ : hd.fnS 44 = b) => b) ?b ?h
  case h => conv => lhs; whnf
noncomputable abbrev hd.pm_45 : Arguments := by
  refine (fun (b : Arguments) (_ : hd.fnP 45 = b) => b) ?b ?h
  case h => conv => lhs; whnf
noncomputable abbrev hd.bd_45 : List Stmt := by
  refine (fun (b : List Stmt) (_ : hd.fnB 45 = b) => b) ?b ?h
  case h => conv => lhs; whnf
noncomputable abbrev hd.sc_45 : Scope := by
  refine (fun (b : Scope) (_ : hd.fnS 45 = b) => b) ?b ?h
  case h => conv => lhs; whnf
noncomputable abbrev hd.pm_46 : Arguments := by
  refine (fun (b : Arguments) (_ : hd.fnP 46 = b) => b) ?b ?h
  case h => conv => lhs; whnf
noncomputable abbrev hd.bd_46 : List Stmt := by
  refine (fun (b : List Stmt) (_ : hd.fnB 46 = b) => b) ?b ?h
  case h => conv => lhs; whnf
noncomputable abbrev hd.sc_46 : Scope := by
  refine (fun (b : Scope) (_ : hd.fnS 46 = b) => b) ?b ?h
  case h => conv => lhs; whnf
noncomputable def hd.o_5 : Params → Obj := fun P => { cls := Value.type "tuple", data := Data.seq #[] }
noncomputable def hd.o_6 : Params → Obj := fun P => { cls := Value.none, data := Data.fields #[] }
noncomputable def hd.o_7 : Params → Obj := fun P => { cls := Value.type "code", data := Data.fields #[Value.str (Str.ofString "<module>") 182, Value.str (Str.ofString "<module>") 183, Value.str (Str.ofString "/claim/cut.py") 184, Value.int 1 0, Value.int 0 0, Value.int 0 0, Value.int 0 0, Value.int 0 0, Value.ref 11, Value.bool Bool.false, Value.int 181 0, Value.ref 12, Value.none, Value.none, Value.none, Value.none, Value.int 185 0, Value.int 1 0, Value.str (Str.ofString "/claim/cut.py") 186] }
noncomputable def hd.o_8 : Params → Obj := fun P => { cls := Value.type "frame", slots := #[Option.some (Value.ref 13), Option.some (Value.ref 3), Option.some (Value.ref 3), Option.none, Option.some (Value.str (Str.ofString "__main__") 164), Option.none, Option.some (Value.ref 0)] }
noncomputable def hd.o_11 : Params → Obj := fun P => { cls := Value.type "dict", data := Data.dict #[{ hash := PyData.keyHash P (Str.ofString "__name__"), key := Value.str (Str.ofString "__name__") 165, val := Value.str (Str.ofString "cpy313.stat") 187 }, { hash := PyData.keyHash P (Str.ofString "__doc__"), key := Value.str (Str.ofString "__doc__") 166, val := Value.none }, { hash := PyData.keyHash P (Str.ofString "__package__"), key := Value.str (Str.ofString "__package__") 167, val := Value.none }, { hash := PyData.keyHash P (Str.ofString "__loader__"), key := Value.str (Str.ofString "__loader__") 168, val := Value.builtin "__main__.__loader__#opaque" }, { hash := PyData.keyHash P (Str.ofString "__spec__"), key := Value.str (Str.ofString "__spec__") 169, val := Value.none }, { hash := PyData.keyHash P (Str.ofString "__annotations__"), key := Value.str (Str.ofString "__annotations__") 170, val := Value.ref 6 }, { hash := PyData.keyHash P (Str.ofString "__builtins__"), key := Value.str (Str.ofString "__builtins__") 171, val := Value.ref 4 }, { hash := PyData.keyHash P (Str.ofString "__file__"), key := Value.str (Str.ofString "__file__") 173, val := Value.str (Str.ofString "/claim/cut.py") 172 }, { hash := PyData.keyHash P (Str.ofString "__cached__"), key := Value.str (Str.ofString "__cached__") 174, val := Value.none }, { hash := PyData.keyHash P (Str.ofString "S_IFMT"), key := Value.str (Str.ofString "S_IFMT") 195, val := Value.ref 21 }, { hash := PyData.keyHash P (Str.ofString "S_IFDIR"), key := Value.str (Str.ofString "S_IFDIR") 197, val := Value.int 16384 196 }, { hash := PyData.keyHash P (Str.ofString "S_IFCHR"), key := Value.str (Str.ofString "S_IFCHR") 199, val := Value.int 8192 198 }, { hash := PyData.keyHash P (Str.ofString "S_IFBLK"), key := Value.str (Str.ofString "S_IFBLK") 201, val := Value.int 24576 200 }, { hash := PyData.keyHash P (Str.ofString "S_IFREG"), key := Value.str (Str.ofString "S_IFREG") 203, val := Value.int 32768 202 }, { hash := PyData.keyHash P (Str.ofString "S_IFIFO"), key := Value.str (Str.ofString "S_IFIFO") 205, val := Value.int 4096 204 }, { hash := PyData.keyHash P (Str.ofString "S_IFLNK"), key := Value.str (Str.ofString "S_IFLNK") 207, val := Value.int 40960 206 }, { hash := PyData.keyHash P (Str.ofString "S_IFSOCK"), key := Value.str (Str.ofString "S_IFSOCK") 209, val := Value.int 49152 208 }, { hash := PyData.keyHash P (Str.ofString "S_ISUID"), key := Value.str (Str.ofString "S_ISUID") 211, val := Value.int 2048 210 }, { hash := PyData.keyHash P (Str.ofString "S_ISGID"), key := Value.str (Str.ofString "S_ISGID") 213, val := Value.int 1024 212 }, { hash := PyData.keyHash P (Str.ofString "S_ISVTX"), key := Value.str (Str.ofString "S_ISVTX") 215, val := Value.int 512 214 }, { hash := PyData.keyHash P (Str.ofString "S_IRUSR"), key := Value.str (Str.ofString "S_IRUSR") 217, val := Value.int 256 216 }, { hash := PyData.keyHash P (Str.ofString "S_IWUSR"), key := Value.str (Str.ofString "S_IWUSR") 219, val := Value.int 128 218 }, { hash := PyData.keyHash P (Str.ofString "S_IXUSR"), key := Value.str (Str.ofString "S_IXUSR") 221, val := Value.int 64 220 }, { hash := PyData.keyHash P (Str.ofString "S_IRGRP"), key := Value.str (Str.ofString "S_IRGRP") 223, val := Value.int 32 222 }, { hash := PyData.keyHash P (Str.ofString "S_IWGRP"), key := Value.str (Str.ofString "S_IWGRP") 225, val := Value.int 16 224 }, { hash := PyData.keyHash P (Str.ofString "S_IXGRP"), key := Value.str (Str.ofString "S_IXGRP") 227, val := Value.int 8 226 }, { hash := PyData.keyHash P (Str.ofString "S_IROTH"), key := Value.str (Str.ofString "S_IROTH") 229, val := Value.int 4 228 }, { hash := PyData.keyHash P (Str.ofString "S_IWOTH"), key := Value.str (Str.ofString "S_IWOTH") 231, val := Value.int 2 230 }, { hash := PyData.keyHash P (Str.ofString "S_IXOTH"), key := Value.str (Str.ofString "S_IXOTH") 233, val := Value.int 1 232 }, { hash := PyData.keyHash P (Str.ofString "_filemode_table"), key := Value.str (Str.ofString "_filemode_table") 259, val := Value.ref 54 }] 30 }
noncomputable def hd.o_12 : Params → Obj := fun P => { cls := Value.none, data := Data.fields #[Value.int 2 0, Value.int 0 0, Value.ref 20] }
noncomputable def hd.o_13 : Params → Obj := fun P => { cls := Value.type "tuple", data := Data.seq #[] }
noncomputable def hd.o_14 : Params → Obj := fun P => { cls := Value.none, data := Data.fields #[] }
noncomputable def hd.o_15 : Params → Obj := fun P => { cls := Value.type "tuple", data := Data.seq #[Value.str (Str.ofString "mode") 192] }
noncomputable def hd.o_16 : Params → Obj := fun P => { cls := Value.type "tuple", data := Data.seq #[] }
noncomputable def hd.o_17 : Params → Obj := fun P => { cls := Value.none, data := Data.func { name := Str.ofString "S_IFMT", qualname := Str.ofString "S_IFMT", params := hd.pm_1, body := FuncBody.stmts hd.bd_1, scope := hd.sc_1, globals := 0, closure := [], defaults := Value.none, kwdefaults := Value.none } }
noncomputable def hd.o_18 : Params → Obj := fun P => { cls := Value.type "code", data := Data.fields #[Value.str (Str.ofString "S_IFMT") 189, Value.str (Str.ofString "S_IFMT") 190, Value.str (Str.ofString "/claim/cut.py") 191, Value.int 2 0, Value.int 1 0, Value.int 0 0, Value.int 0 0, Value.int 3 0, Value.ref 15, Value.bool Bool.true, Value.int 181 0, Value.ref 16, Value.none, Value.ref 17, Value.ref 18, Value.ref 19, Value.int 193 0, Value.int 2 0, Value.str (Str.ofString "/claim/cut.py") 194] }
noncomputable def hd.o_19 : Params → Obj := fun P => { cls := Value.type "function", data := Data.func { name := Str.ofString "S_IFMT", qualname := Str.ofString "S_IFMT", params := hd.pm_1, body := FuncBody.stmts hd.bd_1, scope := hd.sc_1, globals := 3, closure := [], defaults := Value.none, kwdefaults := Value.none, pyModule := Value.str (Str.ofString "cpy313.stat") 187, code := Value.ref 20 } }
noncomputable def hd.o_20 : Params → Obj := fun P => { cls := Value.type "tuple", data := Data.seq #[Value.int 40960 206, Value.str (Str.ofString "l") 234] }
noncomputable def hd.o_21 : Params → Obj := fun P => { cls := Value.type "tuple", data := Data.seq #[Value.int 49152 208, Value.str (Str.ofString "s") 235] }
noncomputable def hd.o_22 : Params → Obj := fun P => { cls := Value.type "tuple", data := Data.seq #[Value.int 32768 202, Value.str (Str.ofString "-") 236] }
noncomputable def hd.o_23 : Params → Obj := fun P => { cls := Value.type "tuple", data := Data.seq #[Value.int 24576 200, Value.str (Str.ofString "b") 237] }
noncomputable def hd.o_24 : Params → Obj := fun P => { cls := Value.type "tuple", data := Data.seq #[Value.int 16384 196, Value.str (Str.ofString "d") 238] }
noncomputable def hd.o_25 : Params → Obj := fun P => { cls := Value.type "tuple", data := Data.seq #[Value.int 8192 198, Value.str (Str.ofString "c") 239] }
noncomputable def hd.o_26 : Params → Obj := fun P => { cls := Value.type "tuple", data := Data.seq #[Value.int 4096 204, Value.str (Str.ofString "p") 240] }
noncomputable def hd.o_27 : Params → Obj := fun P => { cls := Value.type "tuple", data := Data.seq #[Value.ref 22, Value.ref 23, Value.ref 24, Value.ref 25, Value.ref 26, Value.ref 27, Value.ref 28] }
noncomputable def hd.o_28 : Params → Obj := fun P => { cls := Value.type "tuple", data := Data.seq #[Value.int 256 216, Value.str (Str.ofString "r") 241] }
noncomputable def hd.o_29 : Params → Obj := fun P => { cls := Value.type "tuple", data := Data.seq #[Value.ref 30] }
noncomputable def hd.o_30 : Params → Obj := fun P => { cls := Value.type "tuple", data := Data.seq #[Value.int 128 218, Value.str (Str.ofString "w") 242] }
noncomputable def hd.o_31 : Params → Obj := fun P => { cls := Value.type "tuple", data := Data.seq #[Value.ref 32] }
noncomputable def hd.o_32 : Params → Obj := fun P => { cls := Value.type "tuple", data := Data.seq #[Value.int 2112 243, Value.str (Str.ofString "s") 244] }
noncomputable def hd.o_33 : Params → Obj := fun P => { cls := Value.type "tuple", data := Data.seq #[Value.int 2048 210, Value.str (Str.ofString "S") 245] }
noncomputable def hd.o_34 : Params → Obj := fun P => { cls := Value.type "tuple", data := Data.seq #[Value.int 64 220, Value.str (Str.ofString "x") 246] }
noncomputable def hd.o_35 : Params → Obj := fun P => { cls := Value.type "tuple", data := Data.seq #[Value.ref 34, Value.ref 35, Value.ref 36] }
noncomputable def hd.o_36 : Params → Obj := fun P => { cls := Value.type "tuple", data := Data.seq #[Value.int 32 222, Value.str (Str.ofString "r") 247] }
noncomputable def hd.o_37 : Params → Obj := fun P => { cls := Value.type "tuple", data := Data.seq #[Value.ref 38] }
noncomputable def hd.o_38 : Params → Obj := fun P => { cls := Value.type "tuple", data := Data.seq #[Value.int 16 224, Value.str (Str.ofString "w") 248] }
noncomputable def hd.o_39 : Params → Obj := fun P => { cls := Value.type "tuple", data := Data.seq #[Value.ref 40] }
noncomputable def hd.o_40 : Params → Obj := fun P => { cls := Value.type "tuple", data := Data.seq #[Value.int 1032 249, Value.str (Str.ofString "s") 250] }
noncomputable def hd.o_41 : Params → Obj := fun P => { cls := Value.type "tuple", data := Data.seq #[Value.int 1024 212, Value.str (Str.ofString "S") 251] }
noncomputable def hd.o_42 : Params → Obj := fun P => { cls := Value.type "tuple", data := Data.seq #[Value.int 8 226, Value.str (Str.ofString "x") 252] }
noncomputable def hd.o_43 : Params → Obj := fun P => { cls := Value.type "tuple", data := Data.seq #[Value.ref 42, Value.ref 43, Value.ref 44] }
noncomputable def hd.o_44 : Params → Obj := fun P => { cls := Value.type "tuple", data := Data.seq #[Value.int 4 228, Value.str (Str.ofString "r") 253] }
noncomputable def hd.o_45 : Params → Obj := fun P => { cls := Value.type "tuple", data := Data.seq #[Value.ref 46] }
noncomputable def hd.o_46 : Params → Obj := fun P => { cls := Value.type "tuple", data := Data.seq #[Value.int 2 230, Value.str (Str.ofString "w") 254] }
noncomputable def hd.o_47 : Params → Obj := fun P => { cls := Value.type "tuple", data := Data.seq #[Value.ref 48] }
noncomputable def hd.o_48 : Params → Obj := fun P => { cls := Value.type "tuple", data := Data.seq #[Value.int 513 255, Value.str (Str.ofString "t") 256] }
noncomputable def hd.o_49 : Params → Obj := fun P => { cls := Value.type "tuple", data := Data.seq #[Value.int 512 214, Value.str (Str.ofString "T") 257] }
noncomputable def hd.o_50 : Params → Obj := fun P => { cls := Value.type "tuple", data := Data.seq #[Value.int 1 232, Value.str (Str.ofString "x") 258] }
noncomputable def hd.o_51 : Params → Obj := fun P => { cls := Value.type "tuple", data := Data.seq #[Value.ref 50, Value.ref 51, Value.ref 52] }
noncomputable def hd.o_52 : Params → Obj := fun P => { cls := Value.type "tuple", data := Data.seq #[Value.ref 29, Value.ref 31, Value.ref 33, Value.ref 37, Value.ref 39, Value.ref 41, Value.ref 45, Value.ref 47, Value.ref 49, Value.ref 53] }
noncomputable def hd.o_53 : Params → Obj := fun P => { cls := Value.type "dict", data := Data.dict #[{ hash := PyData.keyHash P (Str.ofString "__name__"), key := Value.str (Str.ofString "__name__") 165, val := Value.str (Str.ofString "cpy313.statistics") 381 }, { hash := PyData.keyHash P (Str.ofString "__doc__"), key := Value.str (Str.ofString "__doc__") 166, val := Value.none }, { hash := PyData.keyHash P (Str.ofString "__package__"), key := Value.str (Str.ofString "__package__") 167, val := Value.none }, { hash := PyData.keyHash P (Str.ofString "__loader__"), key := Value.str (Str.ofString "__loader__") 168, val := Value.builtin "__main__.__loader__#opaque" }, { hash := PyData.keyHash P (Str.ofString "__spec__"), key := Value.str (Str.ofString "__spec__") 169, val := Value.none }, { hash := PyData.keyHash P (Str.ofString "__annotations__"), key := Value.str (Str.ofString "__annotations__") 170, val := Value.ref 6 }, { hash := PyData.keyHash P (Str.ofString "__builtins__"), key := Value.str (Str.ofString "__builtins__") 171, val := Value.ref 4 }, { hash := PyData.keyHash P (Str.ofString "__file__"), key := Value.str (Str.ofString "__file__") 173, val := Value.str (Str.ofString "/claim/cut.py") 172 }, { hash := PyData.keyHash P (Str.ofString "__cached__"), key := Value.str (Str.ofString "__cached__") 174, val := Value.none }, { hash := PyData.keyHash P (Str.ofString "S_IFMT"), key := Value.str (Str.ofString "S_IFMT") 195, val := Value.ref 21 }, { hash := PyData.keyHash P (Str.ofString "S_IFDIR"), key := Value.str (Str.ofString "S_IFDIR") 197, val := Value.int 16384 196 }, { hash := PyData.keyHash P (Str.ofString "S_IFCHR"), key := Value.str (Str.ofString "S_IFCHR") 199, val := Value.int 8192 198 }, { hash := PyData.keyHash P (Str.ofString "S_IFBLK"), key := Value.str (Str.ofString "S_IFBLK") 201, val := Value.int 24576 200 }, { hash := PyData.keyHash P (Str.ofString "S_IFREG"), key := Value.str (Str.ofString "S_IFREG") 203, val := Value.int 32768 202 }, { hash := PyData.keyHash P (Str.ofString "S_IFIFO"), key := Value.str (Str.ofString "S_IFIFO") 205, val := Value.int 4096 204 }, { hash := PyData.keyHash P (Str.ofString "S_IFLNK"), key := Value.str (Str.ofString "S_IFLNK") 207, val := Value.int 40960 206 }, { hash := PyData.keyHash P (Str.ofString "S_IFSOCK"), key := Value.str (Str.ofString "S_IFSOCK") 209, val := Value.int 49152 208 }, { hash := PyData.keyHash P (Str.ofString "S_ISUID"), key := Value.str (Str.ofString "S_ISUID") 211, val := Value.int 2048 210 }, { hash := PyData.keyHash P (Str.ofString "S_ISGID"), key := Value.str (Str.ofString "S_ISGID") 213, val := Value.int 1024 212 }, { hash := PyData.keyHash P (Str.ofString "S_ISVTX"), key := Value.str (Str.ofString "S_ISVTX") 215, val := Value.int 512 214 }, { hash := PyData.keyHash P (Str.ofString "S_IRUSR"), key := Value.str (Str.ofString "S_IRUSR") 217, val := Value.int 256 216 }, { hash := PyData.keyHash P (Str.ofString "S_IWUSR"), key := Value.str (Str.ofString "S_IWUSR") 219, val := Value.int 128 218 }, { hash := PyData.keyHash P (Str.ofString "S_IXUSR"), key := Value.str (Str.ofString "S_IXUSR") 221, val := Value.int 64 220 }, { hash := PyData.keyHash P (Str.ofString "S_IRGRP"), key := Value.str (Str.ofString "S_IRGRP") 223, val := Value.int 32 222 }, { hash := PyData.keyHash P (Str.ofString "S_IWGRP"), key := Value.str (Str.ofString "S_IWGRP") 225, val := Value.int 16 224 }, { hash := PyData.keyHash P (Str.ofString "S_IXGRP"), key := Value.str (Str.ofString "S_IXGRP") 227, val := Value.int 8 226 }, { hash := PyData.keyHash P (Str.ofString "S_IROTH"), key := Value.str (Str.ofString "S_IROTH") 229, val := Value.int 4 228 }, { hash := PyData.keyHash P (Str.ofString "S_IWOTH"), key := Value.str (Str.ofString "S_IWOTH") 231, val := Value.int 2 230 }, { hash := PyData.keyHash P (Str.ofString "S_IXOTH"), key := Value.str (Str.ofString "S_IXOTH") 233, val := Value.int 1 232 }, { hash := PyData.keyHash P (Str.ofString "_filemode_table"), key := Value.str (Str.ofString "_filemode_table") 259, val := Value.ref 54 }, { hash := PyData.keyHash P (Str.ofString "filemode"), key := Value.str (Str.ofString "filemode") 271, val := Value.ref 61 }, { hash := PyData.keyHash P (Str.ofString "heappop"), key := Value.str (Str.ofString "heappop") 282, val := Value.ref 68 }, { hash := PyData.keyHash P (Str.ofString "heapreplace"), key := Value.str (Str.ofString "heapreplace") 291, val := Value.ref 75 }, { hash := PyData.keyHash P (Str.ofString "heapify"), key := Value.str (Str.ofString "heapify") 300, val := Value.ref 82 }, { hash := PyData.keyHash P (Str.ofString "_heapreplace_max"), key := Value.str (Str.ofString "_heapreplace_max") 309, val := Value.ref 89 }, { hash := PyData.keyHash P (Str.ofString "_heapify_max"), key := Value.str (Str.ofString "_heapify_max") 318, val := Value.ref 96 }, { hash := PyData.keyHash P (Str.ofString "_siftdown"), key := Value.str (Str.ofString "_siftdown") 330, val := Value.ref 103 }, { hash := PyData.keyHash P (Str.ofString "_siftup"), key := Value.str (Str.ofString "_siftup") 343, val := Value.ref 110 }, { hash := PyData.keyHash P (Str.ofString "_siftdown_max"), key := Value.str (Str.ofString "_siftdown_max") 355, val := Value.ref 117 }, { hash := PyData.keyHash P (Str.ofString "_siftup_max"), key := Value.str (Str.ofString "_siftup_max") 368, val := Value.ref 124 }, { hash := PyData.keyHash P (Str.ofString "nsmallest"), key := Value.str (Str.ofString "nsmallest") 374, val := Value.ref 130 }, { hash := PyData.keyHash P (Str.ofString "nlargest"), key := Value.str (Str.ofString "nlargest") 380, val := Value.ref 136 }] 42 }
noncomputable def hd.o_54 : Params → Obj := fun P => { cls := Value.none, data := Data.fields #[Value.int 2 0, Value.int 0 0, Value.ref 20, Value.int 24 0, Value.int 0 0, Value.ref 60, Value.int 42 0, Value.int 0 0, Value.ref 67, Value.int 50 0, Value.int 0 0, Value.ref 74, Value.int 55 0, Value.int 0 0, Value.ref 81, Value.int 59 0, Value.int 0 0, Value.ref 88, Value.int 64 0, Value.int 0 0, Value.ref 95, Value.int 68 0, Value.int 0 0, Value.ref 102, Value.int 79 0, Value.int 0 0, Value.ref 109, Value.int 93 0, Value.int 0 0, Value.ref 116, Value.int 104 0, Value.int 0 0, Value.ref 123, Value.int 118 0, Value.int 0 0, Value.ref 129, Value.int 163 0, Value.int 0 0, Value.ref 135] }
noncomputable def hd.o_55 : Params → Obj := fun P => { cls := Value.type "tuple", data := Data.seq #[] }
noncomputable def hd.o_56 : Params → Obj := fun P => { cls := Value.none, data := Data.fields #[] }
noncomputable def hd.o_57 : Params → Obj := fun P => { cls := Value.type "tuple", data := Data.seq #[Value.str (Str.ofString "mode") 263, Value.str (Str.ofString "perm") 264, Value.str (Str.ofString "index") 265, Value.str (Str.ofString "table") 266, Value.str (Str.ofString "bit") 267, Value.str (Str.ofString "char") 268] }
noncomputable def hd.o_58 : Params → Obj := fun P => { cls := Value.type "tuple", data := Data.seq #[] }
noncomputable def hd.o_59 : Params → Obj := fun P => { cls := Value.none, data := Data.func { name := Str.ofString "filemode", qualname := Str.ofString "filemode", params := hd.pm_22, body := FuncBody.stmts hd.bd_22, scope := hd.sc_22, globals := 0, closure := [], defaults := Value.none, kwdefaults := Value.none } }
noncomputable def hd.o_60 : Params → Obj := fun P => { cls := Value.type "code", data := Data.fields #[Value.str (Str.ofString "filemode") 260, Value.str (Str.ofString "filemode") 261, Value.str (Str.ofString "/claim/cut.py") 262, Value.int 24 0, Value.int 1 0, Value.int 0 0, Value.int 0 0, Value.int 3 0, Value.ref 55, Value.bool Bool.true, Value.int 181 0, Value.ref 56, Value.none, Value.ref 57, Value.ref 58, Value.ref 59, Value.int 269 0, Value.int 24 0, Value.str (Str.ofString "/claim/cut.py") 270] }
noncomputable def hd.o_61 : Params → Obj := fun P => { cls := Value.type "function", data := Data.func { name := Str.ofString "filemode", qualname := Str.ofString "filemode", params := hd.pm_22, body := FuncBody.stmts hd.bd_22, scope := hd.sc_22, globals := 3, closure := [], defaults := Value.none, kwdefaults := Value.none, pyModule := Value.str (Str.ofString "cpy313.stat") 187, code := Value.ref 60 } }
noncomputable def hd.o_62 : Params → Obj := fun P => { cls := Value.type "tuple", data := Data.seq #[] }
noncomputable def hd.o_63 : Params → Obj := fun P => { cls := Value.none, data := Data.fields #[] }
noncomputable def hd.o_64 : Params → Obj := fun P => { cls := Value.type "tuple", data := Data.seq #[Value.str (Str.ofString "heap") 277, Value.str (Str.ofString "lastelt") 278, Value.str (Str.ofString "returnitem") 279] }
noncomputable def hd.o_65 : Params → Obj := fun P => { cls := Value.type "tuple", data := Data.seq #[] }
noncomputable def hd.o_66 : Params → Obj := fun P => { cls := Value.none, data := Data.func { name := Str.ofString "heappop", qualname := Str.ofString "heappop", params := hd.pm_24, body := FuncBody.stmts hd.bd_24, scope := hd.sc_24, globals := 0, closure := [], defaults := Value.none, kwdefaults := Value.none } }
noncomputable def hd.o_67 : Params → Obj := fun P => { cls := Value.type "code", data := Data.fields #[Value.str (Str.ofString "heappop") 274, Value.str (Str.ofString "heappop") 275, Value.str (Str.ofString "/claim/cut.py") 276, Value.int 42 0, Value.int 1 0, Value.int 0 0, Value.int 0 0, Value.int 3 0, Value.ref 62, Value.bool Bool.true, Value.int 181 0, Value.ref 63, Value.none, Value.ref 64, Value.ref 65, Value.ref 66, Value.int 280 0, Value.int 42 0, Value.str (Str.ofString "/claim/cut.py") 281] }
noncomputable def hd.o_68 : Params → Obj := fun P => { cls := Value.type "function", data := Data.func { name := Str.ofString "heappop", qualname := Str.ofString "heappop", params := hd.pm_24, body := FuncBody.stmts hd.bd_24, scope := hd.sc_24, globals := 3, closure := [], defaults := Value.none, kwdefaults := Value.none, pyModule := Value.str (Str.ofString "cpy313.heapq") 272, code := Value.ref 67 } }
noncomputable def hd.o_69 : Params → Obj := fun P => { cls := Value.type "tuple", data := Data.seq #[] }
noncomputable def hd.o_70 : Params → Obj := fun P => { cls := Value.none, data := Data.fields #[] }
noncomputable def hd.o_71 : Params → Obj := fun P => { cls := Value.type "tuple", data := Data.seq #[Value.str (Str.ofString "heap") 286, Value.str (Str.ofString "item") 287, Value.str (Str.ofString "returnitem") 288] }
noncomputable def hd.o_72 : Params → Obj := fun P => { cls := Value.type "tuple", data := Data.seq #[] }
noncomputable def hd.o_73 : Params → Obj := fun P => { cls := Value.none, data := Data.func { name := Str.ofString "heapreplace", qualname := Str.ofString "heapreplace", params := hd.pm_25, body := FuncBody.stmts hd.bd_25, scope := hd.sc_25, globals := 0, closure := [], defaults := Value.none, kwdefaults := Value.none } }
noncomputable def hd.o_74 : Params → Obj := fun P => { cls := Value.type "code", data := Data.fields #[Value.str (Str.ofString "heapreplace") 283, Value.str (Str.ofString "heapreplace") 284, Value.str (Str.ofString "/claim/cut.py") 285, Value.int 50 0, Value.int 2 0, Value.int 0 0, Value.int 0 0, Value.int 3 0, Value.ref 69, Value.bool Bool.true, Value.int 181 0, Value.ref 70, Value.none, Value.ref 71, Value.ref 72, Value.ref 73, Value.int 289 0, Value.int 50 0, Value.str (Str.ofString "/claim/cut.py") 290] }
noncomputable def hd.o_75 : Params → Obj := fun P => { cls := Value.type "function", data := Data.func { name := Str.ofString "heapreplace", qualname := Str.ofString "heapreplace", params := hd.pm_25, body := FuncBody.stmts hd.bd_25, scope := hd.sc_25, globals := 3, closure := [], defaults := Value.none, kwdefaults := Value.none, pyModule := Value.str (Str.ofString "cpy313.heapq") 272, code := Value.ref 74 } }
noncomputable def hd.o_76 : Params → Obj := fun P => { cls := Value.type "tuple", data := Data.seq #[] }
noncomputable def hd.o_77 : Params → Obj := fun P => { cls := Value.none, data := Data.fields #[] }
noncomputable def hd.o_78 : Params → Obj := fun P => { cls := Value.type "tuple", data := Data.seq #[Value.str (Str.ofString "x") 295, Value.str (Str.ofString "n") 296, Value.str (Str.ofString "i") 297] }
noncomputable def hd.o_79 : Params → Obj := fun P => { cls := Value.type "tuple", data := Data.seq #[] }
noncomputable def hd.o_80 : Params → Obj := fun P => { cls := Value.none, data := Data.func { name := Str.ofString "heapify", qualname := Str.ofString "heapify", params := hd.pm_26, body := FuncBody.stmts hd.bd_26, scope := hd.sc_26, globals := 0, closure := [], defaults := Value.none, kwdefaults := Value.none } }
noncomputable def hd.o_81 : Params → Obj := fun P => { cls := Value.type "code", data := Data.fields #[Value.str (Str.ofString "heapify") 292, Value.str (Str.ofString "heapify") 293, Value.str (Str.ofString "/claim/cut.py") 294, Value.int 55 0, Value.int 1 0, Value.int 0 0, Value.int 0 0, Value.int 3 0, Value.ref 76, Value.bool Bool.true, Value.int 181 0, Value.ref 77, Value.none, Value.ref 78, Value.ref 79, Value.ref 80, Value.int 298 0, Value.int 55 0, Value.str (Str.ofString "/claim/cut.py") 299] }
noncomputable def hd.o_82 : Params → Obj := fun P => { cls := Value.type "function", data := Data.func { name := Str.ofString "heapify", qualname := Str.ofString "heapify", params := hd.pm_26, body := FuncBody.stmts hd.bd_26, scope := hd.sc_26, globals := 3, closure := [], defaults := Value.none, kwdefaults := Value.none, pyModule := Value.str (Str.ofString "cpy313.heapq") 272, code := Value.ref 81 } }
noncomputable def hd.o_83 : Params → Obj := fun P => { cls := Value.type "tuple", data := Data.seq #[] }
noncomputable def hd.o_84 : Params → Obj := fun P => { cls := Value.none, data := Data.fields #[] }
noncomputable def hd.o_85 : Params → Obj := fun P => { cls := Value.type "tuple", data := Data.seq #[Value.str (Str.ofString "heap") 304, Value.str (Str.ofString "item") 305, Value.str (Str.ofString "returnitem") 306] }
noncomputable def hd.o_86 : Params → Obj := fun P => { cls := Value.type "tuple", data := Data.seq #[] }
noncomputable def hd.o_87 : Params → Obj := fun P => { cls := Value.none, data := Data.func { name := Str.ofString "_heapreplace_max", qualname := Str.ofString "_heapreplace_max", params := hd.pm_27, body := FuncBody.stmts hd.bd_27, scope := hd.sc_27, globals := 0, closure := [], defaults := Value.none, kwdefaults := Value.none } }
noncomputable def hd.o_88 : Params → Obj := fun P => { cls := Value.type "code", data := Data.fields #[Value.str (Str.ofString "_heapreplace_max") 301, Value.str (Str.ofString "_heapreplace_max") 302, Value.str (Str.ofString "/claim/cut.py") 303, Value.int 59 0, Value.int 2 0, Value.int 0 0, Value.int 0 0, Value.int 3 0, Value.ref 83, Value.bool Bool.true, Value.int 181 0, Value.ref 84, Value.none, Value.ref 85, Value.ref 86, Value.ref 87, Value.int 307 0, Value.int 59 0, Value.str (Str.ofString "/claim/cut.py") 308] }
noncomputable def hd.o_89 : Params → Obj := fun P => { cls := Value.type "function", data := Data.func { name := Str.ofString "_heapreplace_max", qualname := Str.ofString "_heapreplace_max", params := hd.pm_27, body := FuncBody.stmts hd.bd_27, scope := hd.sc_27, globals := 3, closure := [], defaults := Value.none, kwdefaults := Value.none, pyModule := Value.str (Str.ofString "cpy313.heapq") 272, code := Value.ref 88 } }
noncomputable def hd.o_90 : Params → Obj := fun P => { cls := Value.type "tuple", data := Data.seq #[] }
noncomputable def hd.o_91 : Params → Obj := fun P => { cls := Value.none, data := Data.fields #[] }
noncomputable def hd.o_92 : Params → Obj := fun P => { cls := Value.type "tuple", data := Data.seq #[Value.str (Str.ofString "x") 313, Value.str (Str.ofString "n") 314, Value.str (Str.ofString "i") 315] }
noncomputable def hd.o_93 : Params → Obj := fun P => { cls := Value.type "tuple", data := Data.seq #[] }
noncomputable def hd.o_94 : Params → Obj := fun P => { cls := Value.none, data := Data.func { name := Str.ofString "_heapify_max", qualname := Str.ofString "_heapify_max", params := hd.pm_28, body := FuncBody.stmts hd.bd_28, scope := hd.sc_28, globals := 0, closure := [], defaults := Value.none, kwdefaults := Value.none } }
noncomputable def hd.o_95 : Params → Obj := fun P => { cls := Value.type "code", data := Data.fields #[Value.str (Str.ofString "_heapify_max") 310, Value.str (Str.ofString "_heapify_max") 311, Value.str (Str.ofString "/claim/cut.py") 312, Value.int 64 0, Value.int 1 0, Value.int 0 0, Value.int 0 0, Value.int 3 0, Value.ref 90, Value.bool Bool.true, Value.int 181 0, Value.ref 91, Value.none, Value.ref 92, Value.ref 93, Value.ref 94, Value.int 316 0, Value.int 64 0, Value.str (Str.ofString "/claim/cut.py") 317] }
noncomputable def hd.o_96 : Params → Obj := fun P => { cls := Value.type "function", data := Data.func { name := Str.ofString "_heapify_max", qualname := Str.ofString "_heapify_max", params := hd.pm_28, body := FuncBody.stmts hd.bd_28, scope := hd.sc_28, globals := 3, closure := [], defaults := Value.none, kwdefaults := Value.none, pyModule := Value.str (Str.ofString "cpy313.heapq") 272, code := Value.ref 95 } }
noncomputable def hd.o_97 : Params → Obj := fun P => { cls := Value.type "tuple", data := Data.seq #[] }
noncomputable def hd.o_98 : Params → Obj := fun P => { cls := Value.none, data := Data.fields #[] }
noncomputable def hd.o_99 : Params → Obj := fun P => { cls := Value.type "tuple", data := Data.seq #[Value.str (Str.ofString "heap") 322, Value.str (Str.ofString "startpos") 323, Value.str (Str.ofString "pos") 324, Value.str (Str.ofString "newitem") 325, Value.str (Str.ofString "parentpos") 326, Value.str (Str.ofString "parent") 327] }
noncomputable def hd.o_100 : Params → Obj := fun P => { cls := Value.type "tuple", data := Data.seq #[] }
noncomputable def hd.o_101 : Params → Obj := fun P => { cls := Value.none, data := Data.func { name := Str.ofString "_siftdown", qualname := Str.ofString "_siftdown", params := hd.pm_29, body := FuncBody.stmts hd.bd_29, scope := hd.sc_29, globals := 0, closure := [], defaults := Value.none, kwdefaults := Value.none } }
noncomputable def hd.o_102 : Params → Obj := fun P => { cls := Value.type "code", data := Data.fields #[Value.str (Str.ofString "_siftdown") 319, Value.str (Str.ofString "_siftdown") 320, Value.str (Str.ofString "/claim/cut.py") 321, Value.int 68 0, Value.int 3 0, Value.int 0 0, Value.int 0 0, Value.int 3 0, Value.ref 97, Value.bool Bool.true, Value.int 181 0, Value.ref 98, Value.none, Value.ref 99, Value.ref 100, Value.ref 101, Value.int 328 0, Value.int 68 0, Value.str (Str.ofString "/claim/cut.py") 329] }
noncomputable def hd.o_103 : Params → Obj := fun P => { cls := Value.type "function", data := Data.func { name := Str.ofString "_siftdown", qualname := Str.ofString "_siftdown", params := hd.pm_29, body := FuncBody.stmts hd.bd_29, scope := hd.sc_29, globals := 3, closure := [], defaults := Value.none, kwdefaults := Value.none, pyModule := Value.str (Str.ofString "cpy313.heapq") 272, code := Value.ref 102 } }
noncomputable def hd.o_104 : Params → Obj := fun P => { cls := Value.type "tuple", data := Data.seq #[] }
noncomputable def hd.o_105 : Params → Obj := fun P => { cls := Value.none, data := Data.fields #[] }
noncomputable def hd.o_106 : Params → Obj := fun P => { cls := Value.type "tuple", data := Data.seq #[Value.str (Str.ofString "heap") 334, Value.str (Str.ofString "pos") 335, Value.str (Str.ofString "endpos") 336, Value.str (Str.ofString "startpos") 337, Value.str (Str.ofString "newitem") 338, Value.str (Str.ofString "childpos") 339, Value.str (Str.ofString "rightpos") 340] }
noncomputable def hd.o_107 : Params → Obj := fun P => { cls := Value.type "tuple", data := Data.seq #[] }
noncomputable def hd.o_108 : Params → Obj := fun P => { cls := Value.none, data := Data.func { name := Str.ofString "_siftup", qualname := Str.ofString "_siftup", params := hd.pm_30, body := FuncBody.stmts hd.bd_30, scope := hd.sc_30, globals := 0, closure := [], defaults := Value.none, kwdefaults := Value.none } }
noncomputable def hd.o_109 : Params → Obj := fun P => { cls := Value.type "code", data := Data.fields #[Value.str (Str.ofString "_siftup") 331, Value.str (Str.ofString "_siftup") 332, Value.str (Str.ofString "/claim/cut.py") 333, Value.int 79 0, Value.int 2 0, Value.int 0 0, Value.int 0 0, Value.int 3 0, Value.ref 104, Value.bool Bool.true, Value.int 181 0, Value.ref 105, Value.none, Value.ref 106, Value.ref 107, Value.ref 108, Value.int 341 0, Value.int 79 0, Value.str (Str.ofString "/claim/cut.py") 342] }
noncomputable def hd.o_110 : Params → Obj := fun P => { cls := Value.type "function", data := Data.func { name := Str.ofString "_siftup", qualname := Str.ofString "_siftup", params := hd.pm_30, body := FuncBody.stmts hd.bd_30, scope := hd.sc_30, globals := 3, closure := [], defaults := Value.none, kwdefaults := Value.none, pyModule := Value.str (Str.ofString "cpy313.heapq") 272, code := Value.ref 109 } }
noncomputable def hd.o_111 : Params → Obj := fun P => { cls := Value.type "tuple", data := Data.seq #[] }
noncomputable def hd.o_112 : Params → Obj := fun P => { cls := Value.none, data := Data.fields #[] }
noncomputable def hd.o_113 : Params → Obj := fun P => { cls := Value.type "tuple", data := Data.seq #[Value.str (Str.ofString "heap") 347, Value.str (Str.ofString "startpos") 348, Value.str (Str.ofString "pos") 349, Value.str (Str.ofString "newitem") 350, Value.str (Str.ofString "parentpos") 351, Value.str (Str.ofString "parent") 352] }
noncomputable def hd.o_114 : Params → Obj := fun P => { cls := Value.type "tuple", data := Data.seq #[] }
noncomputable def hd.o_115 : Params → Obj := fun P => { cls := Value.none, data := Data.func { name := Str.ofString "_siftdown_max", qualname := Str.ofString "_siftdown_max", params := hd.pm_31, body := FuncBody.stmts hd.bd_31, scope := hd.sc_31, globals := 0, closure := [], defaults := Value.none, kwdefaults := Value.none } }
noncomputable def hd.o_116 : Params → Obj := fun P => { cls := Value.type "code", data := Data.fields #[Value.str (Str.ofString "_siftdown_max") 344, Value.str (Str.ofString "_siftdown_max") 345, Value.str (Str.ofString "/claim/cut.py") 346, Value.int 93 0, Value.int 3 0, Value.int 0 0, Value.int 0 0, Value.int 3 0, Value.ref 111, Value.bool Bool.true, Value.int 181 0, Value.ref 112, Value.none, Value.ref 113, Value.ref 114, Value.ref 115, Value.int 353 0, Value.int 93 0, Value.str (Str.ofString "/claim/cut.py") 354] }
noncomputable def hd.o_117 : Params → Obj := fun P => { cls := Value.type "function", data := Data.func { name := Str.ofString "_siftdown_max", qualname := Str.ofString "_siftdown_max", params := hd.pm_31, body := FuncBody.stmts hd.bd_31, scope := hd.sc_31, globals := 3, closure := [], defaults := Value.none, kwdefaults := Value.none, pyModule := Value.str (Str.ofString "cpy313.heapq") 272, code := Value.ref 116 } }
noncomputable def hd.o_118 : Params → Obj := fun P => { cls := Value.type "tuple", data := Data.seq #[] }
noncomputable def hd.o_119 : Params → Obj := fun P => { cls := Value.none, data := Data.fields #[] }
noncomputable def hd.o_120 : Params → Obj := fun P => { cls := Value.type "tuple", data := Data.seq #[Value.str (Str.ofString "heap") 359, Value.str (Str.ofString "pos") 360, Value.str (Str.ofString "endpos") 361, Value.str (Str.ofString "startpos") 362, Value.str (Str.ofString "newitem") 363, Value.str (Str.ofString "childpos") 364, Value.str (Str.ofString "rightpos") 365] }
noncomputable def hd.o_121 : Params → Obj := fun P => { cls := Value.type "tuple", data := Data.seq #[] }
noncomputable def hd.o_122 : Params → Obj := fun P => { cls := Value.none, data := Data.func { name := Str.ofString "_siftup_max", qualname := Str.ofString "_siftup_max", params := hd.pm_32, body := FuncBody.stmts hd.bd_32, scope := hd.sc_32, globals := 0, closure := [], defaults := Value.none, kwdefaults := Value.none } }
noncomputable def hd.o_123 : Params → Obj := fun P => { cls := Value.type "code", data := Data.fields #[Value.str (Str.ofString "_siftup_max") 356, Value.str (Str.ofString "_siftup_max") 357, Value.str (Str.ofString "/claim/cut.py") 358, Value.int 104 0, Value.int 2 0, Value.int 0 0, Value.int 0 0, Value.int 3 0, Value.ref 118, Value.bool Bool.true, Value.int 181 0, Value.ref 119, Value.none, Value.ref 120, Value.ref 121, Value.ref 122, Value.int 366 0, Value.int 104 0, Value.str (Str.ofString "/claim/cut.py") 367] }
noncomputable def hd.o_124 : Params → Obj := fun P => { cls := Value.type "function", data := Data.func { name := Str.ofString "_siftup_max", qualname := Str.ofString "_siftup_max", params := hd.pm_32, body := FuncBody.stmts hd.bd_32, scope := hd.sc_32, globals := 3, closure := [], defaults := Value.none, kwdefaults := Value.none, pyModule := Value.str (Str.ofString "cpy313.heapq") 272, code := Value.ref 123 } }
noncomputable def hd.o_125 : Params → Obj := fun P => { cls := Value.type "tuple", data := Data.seq #[Value.none] }
noncomputable def hd.o_126 : Params → Obj := fun P => { cls := Value.type "tuple", data := Data.seq #[] }
noncomputable def hd.o_127 : Params → Obj := fun P => { cls := Value.none, data := Data.fields #[] }
noncomputable def hd.o_128 : Params → Obj := fun P => { cls := Value.none, data := Data.func { name := Str.ofString "nsmallest", qualname := Str.ofString "nsmallest", params := hd.pm_33, body := FuncBody.stmts hd.bd_33, scope := hd.sc_33, globals := 0, closure := [], defaults := Value.none, kwdefaults := Value.none } }
noncomputable def hd.o_129 : Params → Obj := fun P => { cls := Value.type "code", data := Data.fields #[Value.str (Str.ofString "nsmallest") 369, Value.str (Str.ofString "nsmallest") 370, Value.str (Str.ofString "/claim/cut.py") 371, Value.int 118 0, Value.int 3 0, Value.int 0 0, Value.int 0 0, Value.int 3 0, Value.ref 126, Value.bool Bool.true, Value.int 181 0, Value.ref 127, Value.none, Value.none, Value.none, Value.ref 128, Value.int 372 0, Value.int 118 0, Value.str (Str.ofString "/claim/cut.py") 373] }
noncomputable def hd.o_130 : Params → Obj := fun P => { cls := Value.type "function", data := Data.func { name := Str.ofString "nsmallest", qualname := Str.ofString "nsmallest", params := hd.pm_33, body := FuncBody.stmts hd.bd_33, scope := hd.sc_33, globals := 3, closure := [], defaults := Value.ref 125, kwdefaults := Value.none, pyModule := Value.str (Str.ofString "cpy313.heapq") 272, code := Value.ref 129 } }
noncomputable def hd.o_131 : Params → Obj := fun P => { cls := Value.type "tuple", data := Data.seq #[Value.none] }
noncomputable def hd.o_132 : Params → Obj := fun P => { cls := Value.type "tuple", data := Data.seq #[] }
noncomputable def hd.o_133 : Params → Obj := fun P => { cls := Value.none, data := Data.fields #[] }
noncomputable def hd.o_134 : Params → Obj := fun P => { cls := Value.none, data := Data.func { name := Str.ofString "nlargest", qualname := Str.ofString "nlargest", params := hd.pm_34, body := FuncBody.stmts hd.bd_34, scope := hd.sc_34, globals := 0, closure := [], defaults := Value.none, kwdefaults := Value.none } }
noncomputable def hd.o_135 : Params → Obj := fun P => { cls := Value.type "code", data := Data.fields #[Value.str (Str.ofString "nlargest") 375, Value.str (Str.ofString "nlargest") 376, Value.str (Str.ofString "/claim/cut.py") 377, Value.int 163 0, Value.int 3 0, Value.int 0 0, Value.int 0 0, Value.int 3 0, Value.ref 132, Value.bool Bool.true, Value.int 181 0, Value.ref 133, Value.none, Value.none, Value.none, Value.ref 134, Value.int 378 0, Value.int 163 0, Value.str (Str.ofString "/claim/cut.py") 379] }
noncomputable def hd.o_136 : Params → Obj := fun P => { cls := Value.type "function", data := Data.func { name := Str.ofString "nlargest", qualname := Str.ofString "nlargest", params := hd.pm_34, body := FuncBody.stmts hd.bd_34, scope := hd.sc_34, globals := 3, closure := [], defaults := Value.ref 131, kwdefaults := Value.none, pyModule := Value.str (Str.ofString "cpy313.heapq") 272, code := Value.ref 135 } }
noncomputable def hd.o_137 : Params → Obj := fun P => { cls := Value.type "dict", data := Data.dict #[{ hash := PyData.keyHash P (Str.ofString "__name__"), key := Value.str (Str.ofString "__name__") 165, val := Value.str (Str.ofString "law_om0146_01") 437 }, { hash := PyData.keyHash P (Str.ofString "__doc__"), key := Value.str (Str.ofString "__doc__") 166, val := Value.none }, { hash := PyData.keyHash P (Str.ofString "__package__"), key := Value.str (Str.ofString "__package__") 167, val := Value.none }, { hash := PyData.keyHash P (Str.ofString "__loader__"), key := Value.str (Str.ofString "__loader__") 168, val := Value.builtin "__main__.__loader__#opaque" }, { hash := PyData.keyHash P (Str.ofString "__spec__"), key := Value.str (Str.ofString "__spec__") 169, val := Value.none }, { hash := PyData.keyHash P (Str.ofString "__annotations__"), key := Value.str (Str.ofString "__annotations__") 170, val := Value.ref 6 }, { hash := PyData.keyHash P (Str.ofString "__builtins__"), key := Value.str (Str.ofString "__builtins__") 171, val := Value.ref 4 }, { hash := PyData.keyHash P (Str.ofString "__file__"), key := Value.str (Str.ofString "__file__") 173, val := Value.str (Str.ofString "/claim/cut.py") 172 }, { hash := PyData.keyHash P (Str.ofString "__cached__"), key := Value.str (Str.ofString "__cached__") 174, val := Value.none }, { hash := PyData.keyHash P (Str.ofString "S_IFMT"), key := Value.str (Str.ofString "S_IFMT") 195, val := Value.ref 21 }, { hash := PyData.keyHash P (Str.ofString "S_IFDIR"), key := Value.str (Str.ofString "S_IFDIR") 197, val := Value.int 16384 196 }, { hash := PyData.keyHash P (Str.ofString "S_IFCHR"), key := Value.str (Str.ofString "S_IFCHR") 199, val := Value.int 8192 198 }, { hash := PyData.keyHash P (Str.ofString "S_IFBLK"), key := Value.str (Str.ofString "S_IFBLK") 201, val := Value.int 24576 200 }, { hash := PyData.keyHash P (Str.ofString "S_IFREG"), key := Value.str (Str.ofString "S_IFREG") 203, val := Value.int 32768 202 }, { hash := PyData.keyHash P (Str.ofString "S_IFIFO"), key := Value.str (Str.ofString "S_IFIFO") 205, val := Value.int 4096 204 }, { hash := PyData.keyHash P (Str.ofString "S_IFLNK"), key := Value.str (Str.ofString "S_IFLNK") 207, val := Value.int 40960 206 }, { hash := PyData.keyHash P (Str.ofString "S_IFSOCK"), key := Value.str (Str.ofString "S_IFSOCK") 209, val := Value.int 49152 208 }, { hash := PyData.keyHash P (Str.ofString "S_ISUID"), key := Value.str (Str.ofString "S_ISUID") 211, val := Value.int 2048 210 }, { hash := PyData.keyHash P (Str.ofString "S_ISGID"), key := Value.str (Str.ofString "S_ISGID") 213, val := Value.int 1024 212 }, { hash := PyData.keyHash P (Str.ofString "S_ISVTX"), key := Value.str (Str.ofString "S_ISVTX") 215, val := Value.int 512 214 }, { hash := PyData.keyHash P (Str.ofString "S_IRUSR"), key := Value.str (Str.ofString "S_IRUSR") 217, val := Value.int 256 216 }, { hash := PyData.keyHash P (Str.ofString "S_IWUSR"), key := Value.str (Str.ofString "S_IWUSR") 219, val := Value.int 128 218 }, { hash := PyData.keyHash P (Str.ofString "S_IXUSR"), key := Value.str (Str.ofString "S_IXUSR") 221, val := Value.int 64 220 }, { hash := PyData.keyHash P (Str.ofString "S_IRGRP"), key := Value.str (Str.ofString "S_IRGRP") 223, val := Value.int 32 222 }, { hash := PyData.keyHash P (Str.ofString "S_IWGRP"), key := Value.str (Str.ofString "S_IWGRP") 225, val := Value.int 16 224 }, { hash := PyData.keyHash P (Str.ofString "S_IXGRP"), key := Value.str (Str.ofString "S_IXGRP") 227, val := Value.int 8 226 }, { hash := PyData.keyHash P (Str.ofString "S_IROTH"), key := Value.str (Str.ofString "S_IROTH") 229, val := Value.int 4 228 }, { hash := PyData.keyHash P (Str.ofString "S_IWOTH"), key := Value.str (Str.ofString "S_IWOTH") 231, val := Value.int 2 230 }, { hash := PyData.keyHash P (Str.ofString "S_IXOTH"), key := Value.str (Str.ofString "S_IXOTH") 233, val := Value.int 1 232 }, { hash := PyData.keyHash P (Str.ofString "_filemode_table"), key := Value.str (Str.ofString "_filemode_table") 259, val := Value.ref 54 }, { hash := PyData.keyHash P (Str.ofString "filemode"), key := Value.str (Str.ofString "filemode") 271, val := Value.ref 61 }, { hash := PyData.keyHash P (Str.ofString "heappop"), key := Value.str (Str.ofString "heappop") 282, val := Value.ref 68 }, { hash := PyData.keyHash P (Str.ofString "heapreplace"), key := Value.str (Str.ofString "heapreplace") 291, val := Value.ref 75 }, { hash := PyData.keyHash P (Str.ofString "heapify"), key := Value.str (Str.ofString "heapify") 300, val := Value.ref 82 }, { hash := PyData.keyHash P (Str.ofString "_heapreplace_max"), key := Value.str (Str.ofString "_heapreplace_max") 309, val := Value.ref 89 }, { hash := PyData.keyHash P (Str.ofString "_heapify_max"), key := Value.str (Str.ofString "_heapify_max") 318, val := Value.ref 96 }, { hash := PyData.keyHash P (Str.ofString "_siftdown"), key := Value.str (Str.ofString "_siftdown") 330, val := Value.ref 103 }, { hash := PyData.keyHash P (Str.ofString "_siftup"), key := Value.str (Str.ofString "_siftup") 343, val := Value.ref 110 }, { hash := PyData.keyHash P (Str.ofString "_siftdown_max"), key := Value.str (Str.ofString "_siftdown_max") 355, val := Value.ref 117 }, { hash := PyData.keyHash P (Str.ofString "_siftup_max"), key := Value.str (Str.ofString "_siftup_max") 368, val := Value.ref 124 }, { hash := PyData.keyHash P (Str.ofString "nsmallest"), key := Value.str (Str.ofString "nsmallest") 374, val := Value.ref 130 }, { hash := PyData.keyHash P (Str.ofString "nlargest"), key := Value.str (Str.ofString "nlargest") 380, val := Value.ref 136 }, { hash := PyData.keyHash P (Str.ofString "StatisticsError"), key := Value.str (Str.ofString "StatisticsError") 400, val := Value.ref 146 }, { hash := PyData.keyHash P (Str.ofString "median_low"), key := Value.str (Str.ofString "median_low") 408, val := Value.ref 156 }, { hash := PyData.keyHash P (Str.ofString "median_high"), key := Value.str (Str.ofString "median_high") 416, val := Value.ref 163 }, { hash := PyData.keyHash P (Str.ofString "quantiles"), key := Value.str (Str.ofString "quantiles") 436, val := Value.ref 171 }, { hash := PyData.keyHash P (Str.ofString "_law_number"), key := Value.str (Str.ofString "_law_number") 445, val := Value.ref 178 }, { hash := PyData.keyHash P (Str.ofString "_law_spans"), key := Value.str (Str.ofString "_law_spans") 451, val := Value.ref 183 }, { hash := PyData.keyHash P (Str.ofString "_law_signs"), key := Value.str (Str.ofString "_law_signs") 468, val := Value.ref 190 }] 49 }
noncomputable def hd.o_138 : Params → Obj := fun P => { cls := Value.none, data := Data.fields #[Value.int 2 0, Value.int 0 0, Value.ref 20, Value.int 24 0, Value.int 0 0, Value.ref 60, Value.int 42 0, Value.int 0 0, Value.ref 67, Value.int 50 0, Value.int 0 0, Value.ref 74, Value.int 55 0, Value.int 0 0, Value.ref 81, Value.int 59 0, Value.int 0 0, Value.ref 88, Value.int 64 0, Value.int 0 0, Value.ref 95, Value.int 68 0, Value.int 0 0, Value.ref 102, Value.int 79 0, Value.int 0 0, Value.ref 109, Value.int 93 0, Value.int 0 0, Value.ref 116, Value.int 104 0, Value.int 0 0, Value.ref 123, Value.int 118 0, Value.int 0 0, Value.ref 129, Value.int 163 0, Value.int 0 0, Value.ref 135, Value.int 209 0, Value.int 0 0, Value.ref 142, Value.int 211 0, Value.int 0 0, Value.ref 155, Value.int 220 0, Value.int 0 0, Value.ref 162, Value.int 226 0, Value.int 0 0, Value.ref 170, Value.int 255 0, Value.int 0 0, Value.ref 177, Value.int 259 0, Value.int 0 0, Value.ref 182, Value.int 272 0, Value.int 0 0, Value.ref 189] }
noncomputable def hd.o_139 : Params → Obj := fun P => { cls := Value.type "tuple", data := Data.seq #[Value.type "ValueError"] }
noncomputable def hd.o_140 : Params → Obj := fun P => { cls := Value.type "builtin_function_or_method", data := Data.fields #[Value.builtin "type.__prepare__", Value.type "type"] }
noncomputable def hd.o_141 : Params → Obj := fun P => { cls := Value.type "dict", data := Data.dict #[{ hash := PyData.keyHash P (Str.ofString "__module__"), key := Value.str (Str.ofString "__module__") 390, val := Value.str (Str.ofString "cpy313.statistics") 381 }, { hash := PyData.keyHash P (Str.ofString "__qualname__"), key := Value.str (Str.ofString "__qualname__") 392, val := Value.str (Str.ofString "StatisticsError") 391 }, { hash := PyData.keyHash P (Str.ofString "__firstlineno__"), key := Value.str (Str.ofString "__firstlineno__") 394, val := Value.int 209 393 }, { hash := PyData.keyHash P (Str.ofString "__static_attributes__"), key := Value.str (Str.ofString "__static_attributes__") 395, val := Value.ref 144 }] 4 }
noncomputable def hd.o_142 : Params → Obj := fun P => { cls := Value.type "tuple", data := Data.seq #[] }
noncomputable def hd.o_143 : Params → Obj := fun P => { cls := Value.none, data := Data.fields #[] }
noncomputable def hd.o_144 : Params → Obj := fun P => { cls := Value.type "code", data := Data.fields #[Value.str (Str.ofString "StatisticsError") 385, Value.str (Str.ofString "StatisticsError") 386, Value.str (Str.ofString "/claim/cut.py") 387, Value.int 209 0, Value.int 0 0, Value.int 0 0, Value.int 0 0, Value.int 0 0, Value.ref 140, Value.bool Bool.false, Value.int 181 0, Value.ref 141, Value.none, Value.none, Value.none, Value.none, Value.int 388 0, Value.int 209 0, Value.str (Str.ofString "/claim/cut.py") 389] }
noncomputable def hd.o_145 : Params → Obj := fun P => { cls := Value.type "frame", slots := #[Option.some (Value.ref 142), Option.some (Value.ref 3), Option.some (Value.ref 139), Option.none, Option.some (Value.str (Str.ofString "cpy313.statistics") 381), Option.none, Option.some (Value.ref 0)] }
noncomputable def hd.o_146 : Params → Obj := fun P => { cls := Value.type "tuple", data := Data.seq #[] }
noncomputable def hd.o_147 : Params → Obj := fun P => { cls := Value.type "dict", data := Data.dict #[{ hash := PyData.keyHash P (Str.ofString "__module__"), key := Value.str (Str.ofString "__module__") 390, val := Value.str (Str.ofString "cpy313.statistics") 381 }, { hash := PyData.keyHash P (Str.ofString "__firstlineno__"), key := Value.str (Str.ofString "__firstlineno__") 394, val := Value.int 209 393 }, { hash := PyData.keyHash P (Str.ofString "__static_attributes__"), key := Value.str (Str.ofString "__static_attributes__") 395, val := Value.ref 144 }, { hash := PyData.keyHash P (Str.ofString "__weakref__"), key := Value.str (Str.ofString "__weakref__") 397, val := Value.ref 147 }, { hash := PyData.keyHash P (Str.ofString "__doc__"), key := Value.str (Str.ofString "__doc__") 398, val := Value.none }] 3 }
noncomputable def hd.o_148 : Params → Obj := fun P => { cls := Value.type "type", data := Data.cls { name := Str.ofString "StatisticsError", bases := [Value.type "ValueError"], mro := [Value.ref 146, Value.type "ValueError", Value.type "Exception", Value.type "BaseException", Value.type "object"], ns := 145, qualname := Str.ofString "StatisticsError" }, slots := #[Option.some (Value.ref 137), Option.none, Option.some (Value.str (Str.ofString "StatisticsError") 383), Option.some (Value.str (Str.ofString "StatisticsError") 391), Option.some (Value.builtin "ValueError.__new__"), Option.some (Value.bool Bool.true)] }
noncomputable def hd.o_149 : Params → Obj := fun P => { cls := Value.type "getset_descriptor", data := Data.fields #[Value.str (Str.ofString "__weakref__") 396, Value.ref 146, Value.builtin "ExceptionGroup.__weakref__", Value.none] }
noncomputable def hd.o_150 : Params → Obj := fun P => { cls := Value.type "super", data := Data.fields #[Value.ref 146, Value.ref 146, Value.ref 146] }
noncomputable def hd.o_151 : Params → Obj := fun P => { cls := Value.type "builtin_function_or_method", data := Data.fields #[Value.builtin "object.__init_subclass__", Value.ref 146] }
noncomputable def hd.o_152 : Params → Obj := fun P => { cls := Value.type "tuple", data := Data.seq #[] }
noncomputable def hd.o_153 : Params → Obj := fun P => { cls := Value.none, data := Data.fields #[] }
noncomputable def hd.o_154 : Params → Obj := fun P => { cls := Value.type "tuple", data := Data.seq #[Value.str (Str.ofString "data") 404, Value.str (Str.ofString "n") 405] }
noncomputable def hd.o_155 : Params → Obj := fun P => { cls := Value.type "tuple", data := Data.seq #[] }
noncomputable def hd.o_156 : Params → Obj := fun P => { cls := Value.none, data := Data.func { name := Str.ofString "median_low", qualname := Str.ofString "median_low", params := hd.pm_37, body := FuncBody.stmts hd.bd_37, scope := hd.sc_37, globals := 0, closure := [], defaults := Value.none, kwdefaults := Value.none } }
noncomputable def hd.o_157 : Params → Obj := fun P => { cls := Value.type "code", data := Data.fields #[Value.str (Str.ofString "median_low") 401, Value.str (Str.ofString "median_low") 402, Value.str (Str.ofString "/claim/cut.py") 403, Value.int 211 0, Value.int 1 0, Value.int 0 0, Value.int 0 0, Value.int 3 0, Value.ref 150, Value.bool Bool.true, Value.int 181 0, Value.ref 151, Value.none, Value.ref 152, Value.ref 153, Value.ref 154, Value.int 406 0, Value.int 211 0, Value.str (Str.ofString "/claim/cut.py") 407] }
noncomputable def hd.o_158 : Params → Obj := fun P => { cls := Value.type "function", data := Data.func { name := Str.ofString "median_low", qualname := Str.ofString "median_low", params := hd.pm_37, body := FuncBody.stmts hd.bd_37, scope := hd.sc_37, globals := 3, closure := [], defaults := Value.none, kwdefaults := Value.none, pyModule := Value.str (Str.ofString "cpy313.statistics") 381, code := Value.ref 155 } }
noncomputable def hd.o_159 : Params → Obj := fun P => { cls := Value.type "tuple", data := Data.seq #[] }
noncomputable def hd.o_160 : Params → Obj := fun P => { cls := Value.none, data := Data.fields #[] }
noncomputable def hd.o_161 : Params → Obj := fun P => { cls := Value.type "tuple", data := Data.seq #[Value.str (Str.ofString "data") 412, Value.str (Str.ofString "n") 413] }
noncomputable def hd.o_162 : Params → Obj := fun P => { cls := Value.type "tuple", data := Data.seq #[] }
noncomputable def hd.o_163 : Params → Obj := fun P => { cls := Value.none, data := Data.func { name := Str.ofString "median_high", qualname := Str.ofString "median_high", params := hd.pm_38, body := FuncBody.stmts hd.bd_38, scope := hd.sc_38, globals := 0, closure := [], defaults := Value.none, kwdefaults := Value.none } }
noncomputable def hd.o_164 : Params → Obj := fun P => { cls := Value.type "code", data := Data.fields #[Value.str (Str.ofString "median_high") 409, Value.str (Str.ofString "median_high") 410, Value.str (Str.ofString "/claim/cut.py") 411, Value.int 220 0, Value.int 1 0, Value.int 0 0, Value.int 0 0, Value.int 3 0, Value.ref 157, Value.bool Bool.true, Value.int 181 0, Value.ref 158, Value.none, Value.ref 159, Value.ref 160, Value.ref 161, Value.int 414 0, Value.int 220 0, Value.str (Str.ofString "/claim/cut.py") 415] }
noncomputable def hd.o_165 : Params → Obj := fun P => { cls := Value.type "function", data := Data.func { name := Str.ofString "median_high", qualname := Str.ofString "median_high", params := hd.pm_38, body := FuncBody.stmts hd.bd_38, scope := hd.sc_38, globals := 3, closure := [], defaults := Value.none, kwdefaults := Value.none, pyModule := Value.str (Str.ofString "cpy313.statistics") 381, code := Value.ref 162 } }
noncomputable def hd.o_166 : Params → Obj := fun P => { cls := Value.type "dict", data := Data.dict #[{ hash := PyData.keyHash P (Str.ofString "n"), key := Value.str (Str.ofString "n") 419, val := Value.int 4 417 }, { hash := PyData.keyHash P (Str.ofString "method"), key := Value.str (Str.ofString "method") 420, val := Value.str (Str.ofString "exclusive") 418 }] 2 }
noncomputable def hd.o_167 : Params → Obj := fun P => { cls := Value.type "tuple", data := Data.seq #[] }
noncomputable def hd.o_168 : Params → Obj := fun P => { cls := Value.none, data := Data.fields #[] }
noncomputable def hd.o_169 : Params → Obj := fun P => { cls := Value.type "tuple", data := Data.seq #[Value.str (Str.ofString "data") 424, Value.str (Str.ofString "n") 425, Value.str (Str.ofString "method") 426, Value.str (Str.ofString "ld") 427, Value.str (Str.ofString "m") 428, Value.str (Str.ofString "result") 429, Value.str (Str.ofString "i") 430, Value.str (Str.ofString "j") 431, Value.str (Str.ofString "delta") 432, Value.str (Str.ofString "interpolated") 433] }
noncomputable def hd.o_170 : Params → Obj := fun P => { cls := Value.type "tuple", data := Data.seq #[] }
noncomputable def hd.o_171 : Params → Obj := fun P => { cls := Value.none, data := Data.func { name := Str.ofString "quantiles", qualname := Str.ofString "quantiles", params := hd.pm_39, body := FuncBody.stmts hd.bd_39, scope := hd.sc_39, globals := 0, closure := [], defaults := Value.none, kwdefaults := Value.none } }
noncomputable def hd.o_172 : Params → Obj := fun P => { cls := Value.type "code", data := Data.fields #[Value.str (Str.ofString "quantiles") 421, Value.str (Str.ofString "quantiles") 422, Value.str (Str.ofString "/claim/cut.py") 423, Value.int 226 0, Value.int 1 0, Value.int 0 0, Value.int 2 0, Value.int 3 0, Value.ref 165, Value.bool Bool.true, Value.int 181 0, Value.ref 166, Value.none, Value.ref 167, Value.ref 168, Value.ref 169, Value.int 434 0, Value.int 226 0, Value.str (Str.ofString "/claim/cut.py") 435] }
noncomputable def hd.o_173 : Params → Obj := fun P => { cls := Value.type "function", data := Data.func { name := Str.ofString "quantiles", qualname := Str.ofString "quantiles", params := hd.pm_39, body := FuncBody.stmts hd.bd_39, scope := hd.sc_39, globals := 3, closure := [], defaults := Value.none, kwdefaults := Value.ref 164, pyModule := Value.str (Str.ofString "cpy313.statistics") 381, code := Value.ref 170 } }
noncomputable def hd.o_174 : Params → Obj := fun P => { cls := Value.type "tuple", data := Data.seq #[] }
noncomputable def hd.o_175 : Params → Obj := fun P => { cls := Value.none, data := Data.fields #[] }
noncomputable def hd.o_176 : Params → Obj := fun P => { cls := Value.type "tuple", data := Data.seq #[Value.str (Str.ofString "x") 442] }
noncomputable def hd.o_177 : Params → Obj := fun P => { cls := Value.type "tuple", data := Data.seq #[] }
noncomputable def hd.o_178 : Params → Obj := fun P => { cls := Value.none, data := Data.func { name := Str.ofString "_law_number", qualname := Str.ofString "_law_number", params := hd.pm_41, body := FuncBody.stmts hd.bd_41, scope := hd.sc_41, globals := 0, closure := [], defaults := Value.none, kwdefaults := Value.none } }
noncomputable def hd.o_179 : Params → Obj := fun P => { cls := Value.type "code", data := Data.fields #[Value.str (Str.ofString "_law_number") 439, Value.str (Str.ofString "_law_number") 440, Value.str (Str.ofString "/claim/cut.py") 441, Value.int 255 0, Value.int 1 0, Value.int 0 0, Value.int 0 0, Value.int 3 0, Value.ref 172, Value.bool Bool.true, Value.int 181 0, Value.ref 173, Value.none, Value.ref 174, Value.ref 175, Value.ref 176, Value.int 443 0, Value.int 255 0, Value.str (Str.ofString "/claim/cut.py") 444] }
noncomputable def hd.o_180 : Params → Obj := fun P => { cls := Value.type "function", data := Data.func { name := Str.ofString "_law_number", qualname := Str.ofString "_law_number", params := hd.pm_41, body := FuncBody.stmts hd.bd_41, scope := hd.sc_41, globals := 3, closure := [], defaults := Value.none, kwdefaults := Value.none, pyModule := Value.str (Str.ofString "law_om0146_01") 437, code := Value.ref 177 } }
noncomputable def hd.o_181 : Params → Obj := fun P => { cls := Value.type "tuple", data := Data.seq #[] }
noncomputable def hd.o_182 : Params → Obj := fun P => { cls := Value.none, data := Data.fields #[] }
noncomputable def hd.o_183 : Params → Obj := fun P => { cls := Value.none, data := Data.func { name := Str.ofString "_law_spans", qualname := Str.ofString "_law_spans", params := hd.pm_42, body := FuncBody.stmts hd.bd_42, scope := hd.sc_42, globals := 0, closure := [], defaults := Value.none, kwdefaults := Value.none } }
noncomputable def hd.o_184 : Params → Obj := fun P => { cls := Value.type "code", data := Data.fields #[Value.str (Str.ofString "_law_spans") 446, Value.str (Str.ofString "_law_spans") 447, Value.str (Str.ofString "/claim/cut.py") 448, Value.int 259 0, Value.int 2 0, Value.int 0 0, Value.int 0 0, Value.int 3 0, Value.ref 179, Value.bool Bool.true, Value.int 181 0, Value.ref 180, Value.none, Value.none, Value.none, Value.ref 181, Value.int 449 0, Value.int 259 0, Value.str (Str.ofString "/claim/cut.py") 450] }
noncomputable def hd.o_185 : Params → Obj := fun P => { cls := Value.type "function", data := Data.func { name := Str.ofString "_law_spans", qualname := Str.ofString "_law_spans", params := hd.pm_42, body := FuncBody.stmts hd.bd_42, scope := hd.sc_42, globals := 3, closure := [], defaults := Value.none, kwdefaults := Value.none, pyModule := Value.str (Str.ofString "law_om0146_01") 437, code := Value.ref 182 } }
noncomputable def hd.o_186 : Params → Obj := fun P => { cls := Value.type "tuple", data := Data.seq #[] }
noncomputable def hd.o_187 : Params → Obj := fun P => { cls := Value.none, data := Data.fields #[] }
noncomputable def hd.o_188 : Params → Obj := fun P => { cls := Value.type "tuple", data := Data.seq #[Value.str (Str.ofString "row") 455, Value.str (Str.ofString "start") 456, Value.str (Str.ofString "end") 457, Value.str (Str.ofString "due") 458, Value.str (Str.ofString "k") 459, Value.str (Str.ofString "letter") 460, Value.str (Str.ofString "hour") 461, Value.str (Str.ofString "run") 462, Value.str (Str.ofString "extra") 463, Value.str (Str.ofString "both") 464, Value.str (Str.ofString "none") 465] }
noncomputable def hd.o_189 : Params → Obj := fun P => { cls := Value.type "tuple", data := Data.seq #[] }
noncomputable def hd.o_190 : Params → Obj := fun P => { cls := Value.none, data := Data.func { name := Str.ofString "_law_signs", qualname := Str.ofString "_law_signs", params := hd.pm_43, body := FuncBody.stmts hd.bd_43, scope := hd.sc_43, globals := 0, closure := [], defaults := Value.none, kwdefaults := Value.none } }
noncomputable def hd.o_191 : Params → Obj := fun P => { cls := Value.type "code", data := Data.fields #[Value.str (Str.ofString "_law_signs") 452, Value.str (Str.ofString "_law_signs") 453, Value.str (Str.ofString "/claim/cut.py") 454, Value.int 272 0, Value.int 3 0, Value.int 0 0, Value.int 0 0, Value.int 3 0, Value.ref 184, Value.bool Bool.true, Value.int 181 0, Value.ref 185, Value.none, Value.ref 186, Value.ref 187, Value.ref 188, Value.int 466 0, Value.int 272 0, Value.str (Str.ofString "/claim/cut.py") 467] }
noncomputable def hd.o_192 : Params → Obj := fun P => { cls := Value.type "function", data := Data.func { name := Str.ofString "_law_signs", qualname := Str.ofString "_law_signs", params := hd.pm_43, body := FuncBody.stmts hd.bd_43, scope := hd.sc_43, globals := 3, closure := [], defaults := Value.none, kwdefaults := Value.none, pyModule := Value.str (Str.ofString "law_om0146_01") 437, code := Value.ref 189 } }
noncomputable def hd.o_193 : Params → Obj := fun P => { cls := Value.type "dict", data := Data.dict #[{ hash := PyData.keyHash P (Str.ofString "__name__"), key := Value.str (Str.ofString "__name__") 165, val := Value.str (Str.ofString "law_om0146_01") 437 }, { hash := PyData.keyHash P (Str.ofString "__doc__"), key := Value.str (Str.ofString "__doc__") 166, val := Value.none }, { hash := PyData.keyHash P (Str.ofString "__package__"), key := Value.str (Str.ofString "__package__") 167, val := Value.none }, { hash := PyData.keyHash P (Str.ofString "__loader__"), key := Value.str (Str.ofString "__loader__") 168, val := Value.builtin "__main__.__loader__#opaque" }, { hash := PyData.keyHash P (Str.ofString "__spec__"), key := Value.str (Str.ofString "__spec__") 169, val := Value.none }, { hash := PyData.keyHash P (Str.ofString "__annotations__"), key := Value.str (Str.ofString "__annotations__") 170, val := Value.ref 6 }, { hash := PyData.keyHash P (Str.ofString "__builtins__"), key := Value.str (Str.ofString "__builtins__") 171, val := Value.ref 4 }, { hash := PyData.keyHash P (Str.ofString "__file__"), key := Value.str (Str.ofString "__file__") 173, val := Value.str (Str.ofString "/claim/cut.py") 172 }, { hash := PyData.keyHash P (Str.ofString "__cached__"), key := Value.str (Str.ofString "__cached__") 174, val := Value.none }, { hash := PyData.keyHash P (Str.ofString "S_IFMT"), key := Value.str (Str.ofString "S_IFMT") 195, val := Value.ref 21 }, { hash := PyData.keyHash P (Str.ofString "S_IFDIR"), key := Value.str (Str.ofString "S_IFDIR") 197, val := Value.int 16384 196 }, { hash := PyData.keyHash P (Str.ofString "S_IFCHR"), key := Value.str (Str.ofString "S_IFCHR") 199, val := Value.int 8192 198 }, { hash := PyData.keyHash P (Str.ofString "S_IFBLK"), key := Value.str (Str.ofString "S_IFBLK") 201, val := Value.int 24576 200 }, { hash := PyData.keyHash P (Str.ofString "S_IFREG"), key := Value.str (Str.ofString "S_IFREG") 203, val := Value.int 32768 202 }, { hash := PyData.keyHash P (Str.ofString "S_IFIFO"), key := Value.str (Str.ofString "S_IFIFO") 205, val := Value.int 4096 204 }, { hash := PyData.keyHash P (Str.ofString "S_IFLNK"), key := Value.str (Str.ofString "S_IFLNK") 207, val := Value.int 40960 206 }, { hash := PyData.keyHash P (Str.ofString "S_IFSOCK"), key := Value.str (Str.ofString "S_IFSOCK") 209, val := Value.int 49152 208 }, { hash := PyData.keyHash P (Str.ofString "S_ISUID"), key := Value.str (Str.ofString "S_ISUID") 211, val := Value.int 2048 210 }, { hash := PyData.keyHash P (Str.ofString "S_ISGID"), key := Value.str (Str.ofString "S_ISGID") 213, val := Value.int 1024 212 }, { hash := PyData.keyHash P (Str.ofString "S_ISVTX"), key := Value.str (Str.ofString "S_ISVTX") 215, val := Value.int 512 214 }, { hash := PyData.keyHash P (Str.ofString "S_IRUSR"), key := Value.str (Str.ofString "S_IRUSR") 217, val := Value.int 256 216 }, { hash := PyData.keyHash P (Str.ofString "S_IWUSR"), key := Value.str (Str.ofString "S_IWUSR") 219, val := Value.int 128 218 }, { hash := PyData.keyHash P (Str.ofString "S_IXUSR"), key := Value.str (Str.ofString "S_IXUSR") 221, val := Value.int 64 220 }, { hash := PyData.keyHash P (Str.ofString "S_IRGRP"), key := Value.str (Str.ofString "S_IRGRP") 223, val := Value.int 32 222 }, { hash := PyData.keyHash P (Str.ofString "S_IWGRP"), key := Value.str (Str.ofString "S_IWGRP") 225, val := Value.int 16 224 }, { hash := PyData.keyHash P (Str.ofString "S_IXGRP"), key := Value.str (Str.ofString "S_IXGRP") 227, val := Value.int 8 226 }, { hash := PyData.keyHash P (Str.ofString "S_IROTH"), key := Value.str (Str.ofString "S_IROTH") 229, val := Value.int 4 228 }, { hash := PyData.keyHash P (Str.ofString "S_IWOTH"), key := Value.str (Str.ofString "S_IWOTH") 231, val := Value.int 2 230 }, { hash := PyData.keyHash P (Str.ofString "S_IXOTH"), key := Value.str (Str.ofString "S_IXOTH") 233, val := Value.int 1 232 }, { hash := PyData.keyHash P (Str.ofString "_filemode_table"), key := Value.str (Str.ofString "_filemode_table") 259, val := Value.ref 54 }, { hash := PyData.keyHash P (Str.ofString "filemode"), key := Value.str (Str.ofString "filemode") 271, val := Value.ref 61 }, { hash := PyData.keyHash P (Str.ofString "heappop"), key := Value.str (Str.ofString "heappop") 282, val := Value.ref 68 }, { hash := PyData.keyHash P (Str.ofString "heapreplace"), key := Value.str (Str.ofString "heapreplace") 291, val := Value.ref 75 }, { hash := PyData.keyHash P (Str.ofString "heapify"), key := Value.str (Str.ofString "heapify") 300, val := Value.ref 82 }, { hash := PyData.keyHash P (Str.ofString "_heapreplace_max"), key := Value.str (Str.ofString "_heapreplace_max") 309, val := Value.ref 89 }, { hash := PyData.keyHash P (Str.ofString "_heapify_max"), key := Value.str (Str.ofString "_heapify_max") 318, val := Value.ref 96 }, { hash := PyData.keyHash P (Str.ofString "_siftdown"), key := Value.str (Str.ofString "_siftdown") 330, val := Value.ref 103 }, { hash := PyData.keyHash P (Str.ofString "_siftup"), key := Value.str (Str.ofString "_siftup") 343, val := Value.ref 110 }, { hash := PyData.keyHash P (Str.ofString "_siftdown_max"), key := Value.str (Str.ofString "_siftdown_max") 355, val := Value.ref 117 }, { hash := PyData.keyHash P (Str.ofString "_siftup_max"), key := Value.str (Str.ofString "_siftup_max") 368, val := Value.ref 124 }, { hash := PyData.keyHash P (Str.ofString "nsmallest"), key := Value.str (Str.ofString "nsmallest") 374, val := Value.ref 130 }, { hash := PyData.keyHash P (Str.ofString "nlargest"), key := Value.str (Str.ofString "nlargest") 380, val := Value.ref 136 }, { hash := PyData.keyHash P (Str.ofString "StatisticsError"), key := Value.str (Str.ofString "StatisticsError") 400, val := Value.ref 146 }, { hash := PyData.keyHash P (Str.ofString "median_low"), key := Value.str (Str.ofString "median_low") 408, val := Value.ref 156 }, { hash := PyData.keyHash P (Str.ofString "median_high"), key := Value.str (Str.ofString "median_high") 416, val := Value.ref 163 }, { hash := PyData.keyHash P (Str.ofString "quantiles"), key := Value.str (Str.ofString "quantiles") 436, val := Value.ref 171 }, { hash := PyData.keyHash P (Str.ofString "_law_number"), key := Value.str (Str.ofString "_law_number") 445, val := Value.ref 178 }, { hash := PyData.keyHash P (Str.ofString "_law_spans"), key := Value.str (Str.ofString "_law_spans") 451, val := Value.ref 183 }, { hash := PyData.keyHash P (Str.ofString "_law_signs"), key := Value.str (Str.ofString "_law_signs") 468, val := Value.ref 190 }, { hash := PyData.keyHash P (Str.ofString "_law_shown"), key := Value.str (Str.ofString "_law_shown") 474, val := Value.ref 195 }, { hash := PyData.keyHash P (Str.ofString "_law_levels"), key := Value.str (Str.ofString "_law_levels") 480, val := Value.ref 200 }, { hash := PyData.keyHash P (Str.ofString "law"), key := Value.str (Str.ofString "law") 486, val := Value.ref 205 }] 52 }
noncomputable def hd.o_194 : Params → Obj := fun P => { cls := Value.none, data := Data.fields #[Value.int 2 0, Value.int 0 0, Value.ref 20, Value.int 24 0, Value.int 0 0, Value.ref 60, Value.int 42 0, Value.int 0 0, Value.ref 67, Value.int 50 0, Value.int 0 0, Value.ref 74, Value.int 55 0, Value.int 0 0, Value.ref 81, Value.int 59 0, Value.int 0 0, Value.ref 88, Value.int 64 0, Value.int 0 0, Value.ref 95, Value.int 68 0, Value.int 0 0, Value.ref 102, Value.int 79 0, Value.int 0 0, Value.ref 109, Value.int 93 0, Value.int 0 0, Value.ref 116, Value.int 104 0, Value.int 0 0, Value.ref 123, Value.int 118 0, Value.int 0 0, Value.ref 129, Value.int 163 0, Value.int 0 0, Value.ref 135, Value.int 209 0, Value.int 0 0, Value.ref 142, Value.int 211 0, Value.int 0 0, Value.ref 155, Value.int 220 0, Value.int 0 0, Value.ref 162, Value.int 226 0, Value.int 0 0, Value.ref 170, Value.int 255 0, Value.int 0 0, Value.ref 177, Value.int 259 0, Value.int 0 0, Value.ref 182, Value.int 272 0, Value.int 0 0, Value.ref 189, Value.int 283 0, Value.int 0 0, Value.ref 194, Value.int 285 0, Value.int 0 0, Value.ref 199, Value.int 287 0, Value.int 0 0, Value.ref 204] }
noncomputable def hd.o_195 : Params → Obj := fun P => { cls := Value.type "tuple", data := Data.seq #[] }
noncomputable def hd.o_196 : Params → Obj := fun P => { cls := Value.none, data := Data.fields #[] }
noncomputable def hd.o_197 : Params → Obj := fun P => { cls := Value.none, data := Data.func { name := Str.ofString "_law_shown", qualname := Str.ofString "_law_shown", params := hd.pm_44, body := FuncBody.stmts hd.bd_44, scope := hd.sc_44, globals := 0, closure := [], defaults := Value.none, kwdefaults := Value.none } }
noncomputable def hd.o_198 : Params → Obj := fun P => { cls := Value.type "code", data := Data.fields #[Value.str (Str.ofString "_law_shown") 469, Value.str (Str.ofString "_law_shown") 470, Value.str (Str.ofString "/claim/cut.py") 471, Value.int 283 0, Value.int 1 0, Value.int 0 0, Value.int 0 0, Value.int 3 0, Value.ref 191, Value.bool Bool.true, Value.int 181 0, Value.ref 192, Value.none, Value.none, Value.none, Value.ref 193, Value.int 472 0, Value.int 283 0, Value.str (Str.ofString "/claim/cut.py") 473] }
noncomputable def hd.o_199 : Params → Obj := fun P => { cls := Value.type "function", data := Data.func { name := Str.ofString "_law_shown", qualname := Str.ofString "_law_shown", params := hd.pm_44, body := FuncBody.stmts hd.bd_44, scope := hd.sc_44, globals := 3, closure := [], defaults := Value.none, kwdefaults := Value.none, pyModule := Value.str (Str.ofString "law_om0146_01") 437, code := Value.ref 194 } }
noncomputable def hd.o_200 : Params → Obj := fun P => { cls := Value.type "tuple", data := Data.seq #[] }
noncomputable def hd.o_201 : Params → Obj := fun P => { cls := Value.none, data := Data.fields #[] }
noncomputable def hd.o_202 : Params → Obj := fun P => { cls := Value.none, data := Data.func { name := Str.ofString "_law_levels", qualname := Str.ofString "_law_levels", params := hd.pm_45, body := FuncBody.stmts hd.bd_45, scope := hd.sc_45, globals := 0, closure := [], defaults := Value.none, kwdefaults := Value.none } }
noncomputable def hd.o_203 : Params → Obj := fun P => { cls := Value.type "code", data := Data.fields #[Value.str (Str.ofString "_law_levels") 475, Value.str (Str.ofString "_law_levels") 476, Value.str (Str.ofString "/claim/cut.py") 477, Value.int 285 0, Value.int 3 0, Value.int 0 0, Value.int 0 0, Value.int 3 0, Value.ref 196, Value.bool Bool.true, Value.int 181 0, Value.ref 197, Value.none, Value.none, Value.none, Value.ref 198, Value.int 478 0, Value.int 285 0, Value.str (Str.ofString "/claim/cut.py") 479] }
noncomputable def hd.o_204 : Params → Obj := fun P => { cls := Value.type "function", data := Data.func { name := Str.ofString "_law_levels", qualname := Str.ofString "_law_levels", params := hd.pm_45, body := FuncBody.stmts hd.bd_45, scope := hd.sc_45, globals := 3, closure := [], defaults := Value.none, kwdefaults := Value.none, pyModule := Value.str (Str.ofString "law_om0146_01") 437, code := Value.ref 199 } }
noncomputable def hd.o_205 : Params → Obj := fun P => { cls := Value.type "tuple", data := Data.seq #[] }
noncomputable def hd.o_206 : Params → Obj := fun P => { cls := Value.none, data := Data.fields #[] }
noncomputable def hd.o_207 : Params → Obj := fun P => { cls := Value.none, data := Data.func { name := Str.ofString "law", qualname := Str.ofString "law", params := hd.pm_46, body := FuncBody.stmts hd.bd_46, scope := hd.sc_46, globals := 0, closure := [], defaults := Value.none, kwdefaults := Value.none } }
noncomputable def hd.o_208 : Params → Obj := fun P => { cls := Value.type "code", data := Data.fields #[Value.str (Str.ofString "law") 481, Value.str (Str.ofString "law") 482, Value.str (Str.ofString "/claim/cut.py") 483, Value.int 287 0, Value.int 1 0, Value.int 0 0, Value.int 0 0, Value.int 3 0, Value.ref 201, Value.bool Bool.true, Value.int 181 0, Value.ref 202, Value.none, Value.none, Value.none, Value.ref 203, Value.int 484 0, Value.int 287 0, Value.str (Str.ofString "/claim/cut.py") 485] }
noncomputable def hd.o_209 : Params → Obj := fun P => { cls := Value.type "function", data := Data.func { name := Str.ofString "law", qualname := Str.ofString "law", params := hd.pm_46, body := FuncBody.stmts hd.bd_46, scope := hd.sc_46, globals := 3, closure := [], defaults := Value.none, kwdefaults := Value.none, pyModule := Value.str (Str.ofString "law_om0146_01") 437, code := Value.ref 204 } }
noncomputable def hd.heap_8 : Params → Heap := fun P => { objs := { toList := [W.boot_o_0 P, W.boot_o_1 P, W.boot_o_2 P, W.boot_o_3 P, W.boot_o_4 P, W.boot_o_5 P, W.boot_o_6 P, W.boot_o_7 P, W.boot_o_8 P, W.boot_o_9 P, W.boot_o_10 P, hd.o_5 P, hd.o_6 P, hd.o_7 P, hd.o_8 P] } }
noncomputable def hd.heap_210 : Params → Heap := fun P => { objs := { toList := [W.boot_o_0 P, W.boot_o_1 P, W.boot_o_2 P, hd.o_193 P, W.boot_o_4 P, W.boot_o_5 P, W.boot_o_6 P, W.boot_o_7 P, W.boot_o_8 P, W.boot_o_9 P, W.boot_o_10 P, hd.o_5 P, hd.o_194 P, hd.o_7 P, hd.o_8 P, hd.o_13 P, hd.o_14 P, hd.o_15 P, hd.o_16 P, hd.o_17 P, hd.o_18 P, hd.o_19 P, hd.o_20 P, hd.o_21 P, hd.o_22 P, hd.o_23 P, hd.o_24 P, hd.o_25 P, hd.o_26 P, hd.o_27 P, hd.o_28 P, hd.o_29 P, hd.o_30 P, hd.o_31 P, hd.o_32 P, hd.o_33 P, hd.o_34 P, hd.o_35 P, hd.o_36 P, hd.o_37 P, hd.o_38 P, hd.o_39 P, hd.o_40 P, hd.o_41 P, hd.o_42 P, hd.o_43 P, hd.o_44 P, hd.o_45 P, hd.o_46 P, hd.o_47 P, hd.o_48 P, hd.o_49 P, hd.o_50 P, hd.o_51 P, hd.o_52 P, hd.o_55 P, hd.o_56 P, hd.o_57 P, hd.o_58 P, hd.o_59 P, hd.o_60 P, hd.o_61 P, hd.o_62 P, hd.o_63 P, hd.o_64 P, hd.o_65 P, hd.o_66 P, hd.o_67 P, hd.o_68 P, hd.o_69 P, hd.o_70 P, hd.o_71 P, hd.o_72 P, hd.o_73 P, hd.o_74 P, hd.o_75 P, hd.o_76 P, hd.o_77 P, hd.o_78 P, hd.o_79 P, hd.o_80 P, hd.o_81 P, hd.o_82 P, hd.o_83 P, hd.o_84 P, hd.o_85 P, hd.o_86 P, hd.o_87 P, hd.o_88 P, hd.o_89 P, hd.o_90 P, hd.o_91 P, hd.o_92 P, hd.o_93 P, hd.o_94 P, hd.o_95 P, hd.o_96 P, hd.o_97 P, hd.o_98 P, hd.o_99 P, hd.o_100 P, hd.o_101 P, hd.o_102 P, hd.o_103 P, hd.o_104 P, hd.o_105 P, hd.o_106 P, hd.o_107 P, hd.o_108 P, hd.o_109 P, hd.o_110 P, hd.o_111 P, hd.o_112 P, hd.o_113 P, hd.o_114 P, hd.o_115 P, hd.o_116 P, hd.o_117 P, hd.o_118 P, hd.o_119 P, hd.o_120 P, hd.o_121 P, hd.o_122 P, hd.o_123 P, hd.o_124 P, hd.o_125 P, hd.o_126 P, hd.o_127 P, hd.o_128 P, hd.o_129 P, hd.o_130 P, hd.o_131 P, hd.o_132 P, hd.o_133 P, hd.o_134 P, hd.o_135 P, hd.o_136 P, hd.o_139 P, hd.o_140 P, hd.o_141 P, hd.o_142 P, hd.o_143 P, hd.o_144 P, hd.o_145 P, hd.o_146 P, hd.o_147 P, hd.o_148 P, hd.o_149 P, hd.o_150 P, hd.o_151 P, hd.o_152 P, hd.o_153 P, hd.o_154 P, hd.o_155 P, hd.o_156 P, hd.o_157 P, hd.o_158 P, hd.o_159 P, hd.o_160 P, hd.o_161 P, hd.o_162 P, hd.o_163 P, hd.o_164 P, hd.o_165 P, hd.o_166 P, hd.o_167 P, hd.o_168 P, hd.o_169 P, hd.o_170 P, hd.o_171 P, hd.o_172 P, hd.o_173 P, hd.o_174 P, hd.o_175 P, hd.o_176 P, hd.o_177 P, hd.o_178 P, hd.o_179 P, hd.o_180 P, hd.o_181 P, hd.o_182 P, hd.o_183 P, hd.o_184 P, hd.o_185 P, hd.o_186 P, hd.o_187 P, hd.o_188 P, hd.o_189 P, hd.o_190 P, hd.o_191 P, hd.o_192 P, hd.o_195 P, hd.o_196 P, hd.o_197 P, hd.o_198 P, hd.o_199 P, hd.o_200 P, hd.o_201 P, hd.o_202 P, hd.o_203 P, hd.o_204 P, hd.o_205 P, hd.o_206 P, hd.o_207 P, hd.o_208 P, hd.o_209 P] } }
noncomputable def hd.tree_9 : Params → BT := fun P => W.BT.node (W.boot_o_0 P) (W.BT.node (W.boot_o_1 P) (W.BT.node (W.boot_o_3 P) (W.BT.node (W.boot_o_7 P) W.BT.nil W.BT.nil) (W.BT.node (hd.o_5 P) W.BT.nil W.BT.nil)) (W.BT.node (W.boot_o_5 P) (W.BT.node (W.boot_o_9 P) W.BT.nil W.BT.nil) (W.BT.node (hd.o_7 P) W.BT.nil W.BT.nil))) (W.BT.node (W.boot_o_2 P) (W.BT.node (W.boot_o_4 P) (W.BT.node (W.boot_o_8 P) W.BT.nil W.BT.nil) (W.BT.node (hd.o_6 P) W.BT.nil W.BT.nil)) (W.BT.node (W.boot_o_6 P) (W.BT.node (W.boot_o_10 P) W.BT.nil W.BT.nil) (W.BT.node (hd.o_8 P) W.BT.nil W.BT.nil)))
noncomputable def hd.tree_52 : Params → BT := fun P => W.BT.node (W.boot_o_0 P) (W.BT.node (W.boot_o_1 P) (W.BT.node (hd.o_11 P) (W.BT.node (W.boot_o_7 P) (W.BT.node (hd.o_13 P) (W.BT.node (hd.o_29 P) W.BT.nil W.BT.nil) (W.BT.node (hd.o_45 P) W.BT.nil W.BT.nil)) (W.BT.node (hd.o_21 P) (W.BT.node (hd.o_37 P) W.BT.nil W.BT.nil) W.BT.nil)) (W.BT.node (hd.o_5 P) (W.BT.node (hd.o_17 P) (W.BT.node (hd.o_33 P) W.BT.nil W.BT.nil) (W.BT.node (hd.o_49 P) W.BT.nil W.BT.nil)) (W.BT.node (hd.o_25 P) (W.BT.node (hd.o_41 P) W.BT.nil W.BT.nil) W.BT.nil))) (W.BT.node (W.boot_o_5 P) (W.BT.node (W.boot_o_9 P) (W.BT.node (hd.o_15 P) (W.BT.node (hd.o_31 P) W.BT.nil W.BT.nil) (W.BT.node (hd.o_47 P) W.BT.nil W.BT.nil)) (W.BT.node (hd.o_23 P) (W.BT.node (hd.o_39 P) W.BT.nil W.BT.nil) W.BT.nil)) (W.BT.node (hd.o_7 P) (W.BT.node (hd.o_19 P) (W.BT.node (hd.o_35 P) W.BT.nil W.BT.nil) (W.BT.node (hd.o_51 P) W.BT.nil W.BT.nil)) (W.BT.node (hd.o_27 P) (W.BT.node (hd.o_43 P) W.BT.nil W.BT.nil) W.BT.nil)))) (W.BT.node (W.boot_o_2 P) (W.BT.node (W.boot_o_4 P) (W.BT.node (W.boot_o_8 P) (W.BT.node (hd.o_14 P) (W.BT.node (hd.o_30 P) W.BT.nil W.BT.nil) (W.BT.node (hd.o_46 P) W.BT.nil W.BT.nil)) (W.BT.node (hd.o_22 P) (W.BT.node (hd.o_38 P) W.BT.nil W.BT.nil) W.BT.nil)) (W.BT.node (hd.o_12 P) (W.BT.node (hd.o_18 P) (W.BT.node (hd.o_34 P) W.BT.nil W.BT.nil) (W.BT.node (hd.o_50 P) W.BT.nil W.BT.nil)) (W.BT.node (hd.o_26 P) (W.BT.node (hd.o_42 P) W.BT.nil W.BT.nil) W.BT.nil))) (W.BT.node (W.boot_o_6 P) (W.BT.node (W.boot_o_10 P) (W.BT.node (hd.o_16 P) (W.BT.node (hd.o_32 P) W.BT.nil W.BT.nil) (W.BT.node (hd.o_48 P) W.BT.nil W.BT.nil)) (W.BT.node (hd.o_24 P) (W.BT.node (hd.o_40 P) W.BT.nil W.BT.nil) W.BT.nil)) (W.BT.node (hd.o_8 P) (W.BT.node (hd.o_20 P) (W.BT.node (hd.o_36 P) W.BT.nil W.BT.nil) (W.BT.node (hd.o_52 P) W.BT.nil W.BT.nil)) (W.BT.node (hd.o_28 P) (W.BT.node (hd.o_44 P) W.BT.nil W.BT.nil) W.BT.nil))))
noncomputable def hd.tree_136 : Params → BT := fun P => W.BT.node (W.boot_o_0 P) (W.BT.node (W.boot_o_1 P) (W.BT.node (hd.o_53 P) (W.BT.node (W.boot_o_7 P) (W.BT.node (hd.o_13 P) (W.BT.node (hd.o_29 P) (W.BT.node (hd.o_63 P) (W.BT.node (hd.o_127 P) W.BT.nil W.BT.nil) W.BT.nil) (W.BT.node (hd.o_95 P) W.BT.nil W.BT.nil)) (W.BT.node (hd.o_45 P) (W.BT.node (hd.o_79 P) W.BT.nil W.BT.nil) (W.BT.node (hd.o_111 P) W.BT.nil W.BT.nil))) (W.BT.node (hd.o_21 P) (W.BT.node (hd.o_37 P) (W.BT.node (hd.o_71 P) (W.BT.node (hd.o_135 P) W.BT.nil W.BT.nil) W.BT.nil) (W.BT.node (hd.o_103 P) W.BT.nil W.BT.nil)) (W.BT.node (hd.o_55 P) (W.BT.node (hd.o_87 P) W.BT.nil W.BT.nil) (W.BT.node (hd.o_119 P) W.BT.nil W.BT.nil)))) (W.BT.node (hd.o_5 P) (W.BT.node (hd.o_17 P) (W.BT.node (hd.o_33 P) (W.BT.node (hd.o_67 P) (W.BT.node (hd.o_131 P) W.BT.nil W.BT.nil) W.BT.nil) (W.BT.node (hd.o_99 P) W.BT.nil W.BT.nil)) (W.BT.node (hd.o_49 P) (W.BT.node (hd.o_83 P) W.BT.nil W.BT.nil) (W.BT.node (hd.o_115 P) W.BT.nil W.BT.nil))) (W.BT.node (hd.o_25 P) (W.BT.node (hd.o_41 P) (W.BT.node (hd.o_75 P) W.BT.nil W.BT.nil) (W.BT.node (hd.o_107 P) W.BT.nil W.BT.nil)) (W.BT.node (hd.o_59 P) (W.BT.node (hd.o_91 P) W.BT.nil W.BT.nil) (W.BT.node (hd.o_123 P) W.BT.nil W.BT.nil))))) (W.BT.node (W.boot_o_5 P) (W.BT.node (W.boot_o_9 P) (W.BT.node (hd.o_15 P) (W.BT.node (hd.o_31 P) (W.BT.node (hd.o_65 P) (W.BT.node (hd.o_129 P) W.BT.nil W.BT.nil) W.BT.nil) (W.BT.node (hd.o_97 P) W.BT.nil W.BT.nil)) (W.BT.node (hd.o_47 P) (W.BT.node (hd.o_81 P) W.BT.nil W.BT.nil) (W.BT.node (hd.o_113 P) W.BT.nil W.BT.nil))) (W.BT.node (hd.o_23 P) (W.BT.node (hd.o_39 P) (W.BT.node (hd.o_73 P) W.BT.nil W.BT.nil) (W.BT.node (hd.o_105 P) W.BT.nil W.BT.nil)) (W.BT.node (hd.o_57 P) (W.BT.node (hd.o_89 P) W.BT.nil W.BT.nil) (W.BT.node (hd.o_121 P) W.BT.nil W.BT.nil)))) (W.BT.node (hd.o_7 P) (W.BT.node (hd.o_19 P) (W.BT.node (hd.o_35 P) (W.BT.node (hd.o_69 P) (W.BT.node (hd.o_133 P) W.BT.nil W.BT.nil) W.BT.nil) (W.BT.node (hd.o_101 P) W.BT.nil W.BT.nil)) (W.BT.node (hd.o_51 P) (W.BT.node (hd.o_85 P) W.BT.nil W.BT.nil) (W.BT.node (hd.o_117 P) W.BT.nil W.BT.nil))) (W.BT.node (hd.o_27 P) (W.BT.node (hd.o_43 P) (W.BT.node (hd.o_77 P) W.BT.nil W.BT.nil) (W.BT.node (hd.o_109 P) W.BT.nil W.BT.nil)) (W.BT.node (hd.o_61 P) (W.BT.node (hd.o_93 P) W.BT.nil W.BT.nil) (W.BT.node (hd.o_125 P) W.BT.nil W.BT.nil)))))) (W.BT.node (W.boot_o_2 P) (W.BT.node (W.boot_o_4 P) (W.BT.node (W.boot_o_8 P) (W.BT.node (hd.o_14 P) (W.BT.node (hd.o_30 P) (W.BT.node (hd.o_64 P) (W.BT.node (hd.o_128 P) W.BT.nil W.BT.nil) W.BT.nil) (W.BT.node (hd.o_96 P) W.BT.nil W.BT.nil)) (W.BT.node (hd.o_46 P) (W.BT.node (hd.o_80 P) W.BT.nil W.BT.nil) (W.BT.node (hd.o_112 P) W.BT.nil W.BT.nil))) (W.BT.node (hd.o_22 P) (W.BT.node (hd.o_38 P) (W.BT.node (hd.o_72 P) (W.BT.node (hd.o_136 P) W.BT.nil W.BT.nil) W.BT.nil) (W.BT.node (hd.o_104 P) W.BT.nil W.BT.nil)) (W.BT.node (hd.o_56 P) (W.BT.node (hd.o_88 P) W.BT.nil W.BT.nil) (W.BT.node (hd.o_120 P) W.BT.nil W.BT.nil)))) (W.BT.node (hd.o_54 P) (W.BT.node (hd.o_18 P) (W.BT.node (hd.o_34 P) (W.BT.node (hd.o_68 P) (W.BT.node (hd.o_132 P) W.BT.nil W.BT.nil) W.BT.nil) (W.BT.node (hd.o_100 P) W.BT.nil W.BT.nil)) (W.BT.node (hd.o_50 P) (W.BT.node (hd.o_84 P) W.BT.nil W.BT.nil) (W.BT.node (hd.o_116 P) W.BT.nil W.BT.nil))) (W.BT.node (hd.o_26 P) (W.BT.node (hd.o_42 P) (W.BT.node (hd.o_76 P) W.BT.nil W.BT.nil) (W.BT.node (hd.o_108 P) W.BT.nil W.BT.nil)) (W.BT.node (hd.o_60 P) (W.BT.node (hd.o_92 P) W.BT.nil W.BT.nil) (W.BT.node (hd.o_124 P) W.BT.nil W.BT.nil))))) (W.BT.node (W.boot_o_6 P) (W.BT.node (W.boot_o_10 P) (W.BT.node (hd.o_16 P) (W.BT.node (hd.o_32 P) (W.BT.node (hd.o_66 P) (W.BT.node (hd.o_130 P) W.BT.nil W.BT.nil) W.BT.nil) (W.BT.node (hd.o_98 P) W.BT.nil W.BT.nil)) (W.BT.node (hd.o_48 P) (W.BT.node (hd.o_82 P) W.BT.nil W.BT.nil) (W.BT.node (hd.o_114 P) W.BT.nil W.BT.nil))) (W.BT.node (hd.o_24 P) (W.BT.node (hd.o_40 P) (W.BT.node (hd.o_74 P) W.BT.nil W.BT.nil) (W.BT.node (hd.o_106 P) W.BT.nil W.BT.nil)) (W.BT.node (hd.o_58 P) (W.BT.node (hd.o_90 P) W.BT.nil W.BT.nil) (W.BT.node (hd.o_122 P) W.BT.nil W.BT.nil)))) (W.BT.node (hd.o_8 P) (W.BT.node (hd.o_20 P) (W.BT.node (hd.o_36 P) (W.BT.node (hd.o_70 P) (W.BT.node (hd.o_134 P) W.BT.nil W.BT.nil) W.BT.nil) (W.BT.node (hd.o_102 P) W.BT.nil W.BT.nil)) (W.BT.node (hd.o_52 P) (W.BT.node (hd.o_86 P) W.BT.nil W.BT.nil) (W.BT.node (hd.o_118 P) W.BT.nil W.BT.nil))) (W.BT.node (hd.o_28 P) (W.BT.node (hd.o_44 P) (W.BT.node (hd.o_78 P) W.BT.nil W.BT.nil) (W.BT.node (hd.o_110 P) W.BT.nil W.BT.nil)) (W.BT.node (hd.o_62 P) (W.BT.node (hd.o_94 P) W.BT.nil W.BT.nil) (W.BT.node (hd.o_126 P) W.BT.nil W.BT.nil))))))
noncomputable def hd.tree_192 : Params → BT := fun P => W.BT.node (W.boot_o_0 P) (W.BT.node (W.boot_o_1 P) (W.BT.node (hd.o_137 P) (W.BT.node (W.boot_o_7 P) (W.BT.node (hd.o_13 P) (W.BT.node (hd.o_29 P) (W.BT.node (hd.o_63 P) (W.BT.node (hd.o_127 P) W.BT.nil W.BT.nil) W.BT.nil) (W.BT.node (hd.o_95 P) (W.BT.node (hd.o_161 P) W.BT.nil W.BT.nil) W.BT.nil)) (W.BT.node (hd.o_45 P) (W.BT.node (hd.o_79 P) (W.BT.node (hd.o_145 P) W.BT.nil W.BT.nil) W.BT.nil) (W.BT.node (hd.o_111 P) (W.BT.node (hd.o_177 P) W.BT.nil W.BT.nil) W.BT.nil))) (W.BT.node (hd.o_21 P) (W.BT.node (hd.o_37 P) (W.BT.node (hd.o_71 P) (W.BT.node (hd.o_135 P) W.BT.nil W.BT.nil) W.BT.nil) (W.BT.node (hd.o_103 P) (W.BT.node (hd.o_169 P) W.BT.nil W.BT.nil) W.BT.nil)) (W.BT.node (hd.o_55 P) (W.BT.node (hd.o_87 P) (W.BT.node (hd.o_153 P) W.BT.nil W.BT.nil) W.BT.nil) (W.BT.node (hd.o_119 P) (W.BT.node (hd.o_185 P) W.BT.nil W.BT.nil) W.BT.nil)))) (W.BT.node (hd.o_5 P) (W.BT.node (hd.o_17 P) (W.BT.node (hd.o_33 P) (W.BT.node (hd.o_67 P) (W.BT.node (hd.o_131 P) W.BT.nil W.BT.nil) W.BT.nil) (W.BT.node (hd.o_99 P) (W.BT.node (hd.o_165 P) W.BT.nil W.BT.nil) W.BT.nil)) (W.BT.node (hd.o_49 P) (W.BT.node (hd.o_83 P) (W.BT.node (hd.o_149 P) W.BT.nil W.BT.nil) W.BT.nil) (W.BT.node (hd.o_115 P) (W.BT.node (hd.o_181 P) W.BT.nil W.BT.nil) W.BT.nil))) (W.BT.node (hd.o_25 P) (W.BT.node (hd.o_41 P) (W.BT.node (hd.o_75 P) (W.BT.node (hd.o_141 P) W.BT.nil W.BT.nil) W.BT.nil) (W.BT.node (hd.o_107 P) (W.BT.node (hd.o_173 P) W.BT.nil W.BT.nil) W.BT.nil)) (W.BT.node (hd.o_59 P) (W.BT.node (hd.o_91 P) (W.BT.node (hd.o_157 P) W.BT.nil W.BT.nil) W.BT.nil) (W.BT.node (hd.o_123 P) (W.BT.node (hd.o_189 P) W.BT.nil W.BT.nil) W.BT.nil))))) (W.BT.node (W.boot_o_5 P) (W.BT.node (W.boot_o_9 P) (W.BT.node (hd.o_15 P) (W.BT.node (hd.o_31 P) (W.BT.node (hd.o_65 P) (W.BT.node (hd.o_129 P) W.BT.nil W.BT.nil) W.BT.nil) (W.BT.node (hd.o_97 P) (W.BT.node (hd.o_163 P) W.BT.nil W.BT.nil) W.BT.nil)) (W.BT.node (hd.o_47 P) (W.BT.node (hd.o_81 P) (W.BT.node (hd.o_147 P) W.BT.nil W.BT.nil) W.BT.nil) (W.BT.node (hd.o_113 P) (W.BT.node (hd.o_179 P) W.BT.nil W.BT.nil) W.BT.nil))) (W.BT.node (hd.o_23 P) (W.BT.node (hd.o_39 P) (W.BT.node (hd.o_73 P) (W.BT.node (hd.o_139 P) W.BT.nil W.BT.nil) W.BT.nil) (W.BT.node (hd.o_105 P) (W.BT.node (hd.o_171 P) W.BT.nil W.BT.nil) W.BT.nil)) (W.BT.node (hd.o_57 P) (W.BT.node (hd.o_89 P) (W.BT.node (hd.o_155 P) W.BT.nil W.BT.nil) W.BT.nil) (W.BT.node (hd.o_121 P) (W.BT.node (hd.o_187 P) W.BT.nil W.BT.nil) W.BT.nil)))) (W.BT.node (hd.o_7 P) (W.BT.node (hd.o_19 P) (W.BT.node (hd.o_35 P) (W.BT.node (hd.o_69 P) (W.BT.node (hd.o_133 P) W.BT.nil W.BT.nil) W.BT.nil) (W.BT.node (hd.o_101 P) (W.BT.node (hd.o_167 P) W.BT.nil W.BT.nil) W.BT.nil)) (W.BT.node (hd.o_51 P) (W.BT.node (hd.o_85 P) (W.BT.node (hd.o_151 P) W.BT.nil W.BT.nil) W.BT.nil) (W.BT.node (hd.o_117 P) (W.BT.node (hd.o_183 P) W.BT.nil W.BT.nil) W.BT.nil))) (W.BT.node (hd.o_27 P) (W.BT.node (hd.o_43 P) (W.BT.node (hd.o_77 P) (W.BT.node (hd.o_143 P) W.BT.nil W.BT.nil) W.BT.nil) (W.BT.node (hd.o_109 P) (W.BT.node (hd.o_175 P) W.BT.nil W.BT.nil) W.BT.nil)) (W.BT.node (hd.o_61 P) (W.BT.node (hd.o_93 P) (W.BT.node (hd.o_159 P) W.BT.nil W.BT.nil) W.BT.nil) (W.BT.node (hd.o_125 P) (W.BT.node (hd.o_191 P) W.BT.nil W.BT.nil) W.BT.nil)))))) (W.BT.node (W.boot_o_2 P) (W.BT.node (W.boot_o_4 P) (W.BT.node (W.boot_o_8 P) (W.BT.node (hd.o_14 P) (W.BT.node (hd.o_30 P) (W.BT.node (hd.o_64 P) (W.BT.node (hd.o_128 P) W.BT.nil W.BT.nil) W.BT.nil) (W.BT.node (hd.o_96 P) (W.BT.node (hd.o_162 P) W.BT.nil W.BT.nil) W.BT.nil)) (W.BT.node (hd.o_46 P) (W.BT.node (hd.o_80 P) (W.BT.node (hd.o_146 P) W.BT.nil W.BT.nil) W.BT.nil) (W.BT.node (hd.o_112 P) (W.BT.node (hd.o_178 P) W.BT.nil W.BT.nil) W.BT.nil))) (W.BT.node (hd.o_22 P) (W.BT.node (hd.o_38 P) (W.BT.node (hd.o_72 P) (W.BT.node (hd.o_136 P) W.BT.nil W.BT.nil) W.BT.nil) (W.BT.node (hd.o_104 P) (W.BT.node (hd.o_170 P) W.BT.nil W.BT.nil) W.BT.nil)) (W.BT.node (hd.o_56 P) (W.BT.node (hd.o_88 P) (W.BT.node (hd.o_154 P) W.BT.nil W.BT.nil) W.BT.nil) (W.BT.node (hd.o_120 P) (W.BT.node (hd.o_186 P) W.BT.nil W.BT.nil) W.BT.nil)))) (W.BT.node (hd.o_138 P) (W.BT.node (hd.o_18 P) (W.BT.node (hd.o_34 P) (W.BT.node (hd.o_68 P) (W.BT.node (hd.o_132 P) W.BT.nil W.BT.nil) W.BT.nil) (W.BT.node (hd.o_100 P) (W.BT.node (hd.o_166 P) W.BT.nil W.BT.nil) W.BT.nil)) (W.BT.node (hd.o_50 P) (W.BT.node (hd.o_84 P) (W.BT.node (hd.o_150 P) W.BT.nil W.BT.nil) W.BT.nil) (W.BT.node (hd.o_116 P) (W.BT.node (hd.o_182 P) W.BT.nil W.BT.nil) W.BT.nil))) (W.BT.node (hd.o_26 P) (W.BT.node (hd.o_42 P) (W.BT.node (hd.o_76 P) (W.BT.node (hd.o_142 P) W.BT.nil W.BT.nil) W.BT.nil) (W.BT.node (hd.o_108 P) (W.BT.node (hd.o_174 P) W.BT.nil W.BT.nil) W.BT.nil)) (W.BT.node (hd.o_60 P) (W.BT.node (hd.o_92 P) (W.BT.node (hd.o_158 P) W.BT.nil W.BT.nil) W.BT.nil) (W.BT.node (hd.o_124 P) (W.BT.node (hd.o_190 P) W.BT.nil W.BT.nil) W.BT.nil))))) (W.BT.node (W.boot_o_6 P) (W.BT.node (W.boot_o_10 P) (W.BT.node (hd.o_16 P) (W.BT.node (hd.o_32 P) (W.BT.node (hd.o_66 P) (W.BT.node (hd.o_130 P) W.BT.nil W.BT.nil) W.BT.nil) (W.BT.node (hd.o_98 P) (W.BT.node (hd.o_164 P) W.BT.nil W.BT.nil) W.BT.nil)) (W.BT.node (hd.o_48 P) (W.BT.node (hd.o_82 P) (W.BT.node (hd.o_148 P) W.BT.nil W.BT.nil) W.BT.nil) (W.BT.node (hd.o_114 P) (W.BT.node (hd.o_180 P) W.BT.nil W.BT.nil) W.BT.nil))) (W.BT.node (hd.o_24 P) (W.BT.node (hd.o_40 P) (W.BT.node (hd.o_74 P) (W.BT.node (hd.o_140 P) W.BT.nil W.BT.nil) W.BT.nil) (W.BT.node (hd.o_106 P) (W.BT.node (hd.o_172 P) W.BT.nil W.BT.nil) W.BT.nil)) (W.BT.node (hd.o_58 P) (W.BT.node (hd.o_90 P) (W.BT.node (hd.o_156 P) W.BT.nil W.BT.nil) W.BT.nil) (W.BT.node (hd.o_122 P) (W.BT.node (hd.o_188 P) W.BT.nil W.BT.nil) W.BT.nil)))) (W.BT.node (hd.o_8 P) (W.BT.node (hd.o_20 P) (W.BT.node (hd.o_36 P) (W.BT.node (hd.o_70 P) (W.BT.node (hd.o_134 P) W.BT.nil W.BT.nil) W.BT.nil) (W.BT.node (hd.o_102 P) (W.BT.node (hd.o_168 P) W.BT.nil W.BT.nil) W.BT.nil)) (W.BT.node (hd.o_52 P) (W.BT.node (hd.o_86 P) (W.BT.node (hd.o_152 P) W.BT.nil W.BT.nil) W.BT.nil) (W.BT.node (hd.o_118 P) (W.BT.node (hd.o_184 P) W.BT.nil W.BT.nil) W.BT.nil))) (W.BT.node (hd.o_28 P) (W.BT.node (hd.o_44 P) (W.BT.node (hd.o_78 P) (W.BT.node (hd.o_144 P) W.BT.nil W.BT.nil) W.BT.nil) (W.BT.node (hd.o_110 P) (W.BT.node (hd.o_176 P) W.BT.nil W.BT.nil) W.BT.nil)) (W.BT.node (hd.o_62 P) (W.BT.node (hd.o_94 P) (W.BT.node (hd.o_160 P) W.BT.nil W.BT.nil) W.BT.nil) (W.BT.node (hd.o_126 P) (W.BT.node (hd.o_192 P) W.BT.nil W.BT.nil) W.BT.nil))))))
noncomputable def hd.tree_209 : Params → BT := fun P => W.BT.node (W.boot_o_0 P) (W.BT.node (W.boot_o_1 P) (W.BT.node (hd.o_193 P) (W.BT.node (W.boot_o_7 P) (W.BT.node (hd.o_13 P) (W.BT.node (hd.o_29 P) (W.BT.node (hd.o_63 P) (W.BT.node (hd.o_127 P) W.BT.nil W.BT.nil) (W.BT.node (hd.o_195 P) W.BT.nil W.BT.nil)) (W.BT.node (hd.o_95 P) (W.BT.node (hd.o_161 P) W.BT.nil W.BT.nil) W.BT.nil)) (W.BT.node (hd.o_45 P) (W.BT.node (hd.o_79 P) (W.BT.node (hd.o_145 P) W.BT.nil W.BT.nil) W.BT.nil) (W.BT.node (hd.o_111 P) (W.BT.node (hd.o_177 P) W.BT.nil W.BT.nil) W.BT.nil))) (W.BT.node (hd.o_21 P) (W.BT.node (hd.o_37 P) (W.BT.node (hd.o_71 P) (W.BT.node (hd.o_135 P) W.BT.nil W.BT.nil) (W.BT.node (hd.o_203 P) W.BT.nil W.BT.nil)) (W.BT.node (hd.o_103 P) (W.BT.node (hd.o_169 P) W.BT.nil W.BT.nil) W.BT.nil)) (W.BT.node (hd.o_55 P) (W.BT.node (hd.o_87 P) (W.BT.node (hd.o_153 P) W.BT.nil W.BT.nil) W.BT.nil) (W.BT.node (hd.o_119 P) (W.BT.node (hd.o_185 P) W.BT.nil W.BT.nil) W.BT.nil)))) (W.BT.node (hd.o_5 P) (W.BT.node (hd.o_17 P) (W.BT.node (hd.o_33 P) (W.BT.node (hd.o_67 P) (W.BT.node (hd.o_131 P) W.BT.nil W.BT.nil) (W.BT.node (hd.o_199 P) W.BT.nil W.BT.nil)) (W.BT.node (hd.o_99 P) (W.BT.node (hd.o_165 P) W.BT.nil W.BT.nil) W.BT.nil)) (W.BT.node (hd.o_49 P) (W.BT.node (hd.o_83 P) (W.BT.node (hd.o_149 P) W.BT.nil W.BT.nil) W.BT.nil) (W.BT.node (hd.o_115 P) (W.BT.node (hd.o_181 P) W.BT.nil W.BT.nil) W.BT.nil))) (W.BT.node (hd.o_25 P) (W.BT.node (hd.o_41 P) (W.BT.node (hd.o_75 P) (W.BT.node (hd.o_141 P) W.BT.nil W.BT.nil) (W.BT.node (hd.o_207 P) W.BT.nil W.BT.nil)) (W.BT.node (hd.o_107 P) (W.BT.node (hd.o_173 P) W.BT.nil W.BT.nil) W.BT.nil)) (W.BT.node (hd.o_59 P) (W.BT.node (hd.o_91 P) (W.BT.node (hd.o_157 P) W.BT.nil W.BT.nil) W.BT.nil) (W.BT.node (hd.o_123 P) (W.BT.node (hd.o_189 P) W.BT.nil W.BT.nil) W.BT.nil))))) (W.BT.node (W.boot_o_5 P) (W.BT.node (W.boot_o_9 P) (W.BT.node (hd.o_15 P) (W.BT.node (hd.o_31 P) (W.BT.node (hd.o_65 P) (W.BT.node (hd.o_129 P) W.BT.nil W.BT.nil) (W.BT.node (hd.o_197 P) W.BT.nil W.BT.nil)) (W.BT.node (hd.o_97 P) (W.BT.node (hd.o_163 P) W.BT.nil W.BT.nil) W.BT.nil)) (W.BT.node (hd.o_47 P) (W.BT.node (hd.o_81 P) (W.BT.node (hd.o_147 P) W.BT.nil W.BT.nil) W.BT.nil) (W.BT.node (hd.o_113 P) (W.BT.node (hd.o_179 P) W.BT.nil W.BT.nil) W.BT.nil))) (W.BT.node (hd.o_23 P) (W.BT.node (hd.o_39 P) (W.BT.node (hd.o_73 P) (W.BT.node (hd.o_139 P) W.BT.nil W.BT.nil) (W.BT.node (hd.o_205 P) W.BT.nil W.BT.nil)) (W.BT.node (hd.o_105 P) (W.BT.node (hd.o_171 P) W.BT.nil W.BT.nil) W.BT.nil)) (W.BT.node (hd.o_57 P) (W.BT.node (hd.o_89 P) (W.BT.node (hd.o_155 P) W.BT.nil W.BT.nil) W.BT.nil) (W.BT.node (hd.o_121 P) (W.BT.node (hd.o_187 P) W.BT.nil W.BT.nil) W.BT.nil)))) (W.BT.node (hd.o_7 P) (W.BT.node (hd.o_19 P) (W.BT.node (hd.o_35 P) (W.BT.node (hd.o_69 P) (W.BT.node (hd.o_133 P) W.BT.nil W.BT.nil) (W.BT.node (hd.o_201 P) W.BT.nil W.BT.nil)) (W.BT.node (hd.o_101 P) (W.BT.node (hd.o_167 P) W.BT.nil W.BT.nil) W.BT.nil)) (W.BT.node (hd.o_51 P) (W.BT.node (hd.o_85 P) (W.BT.node (hd.o_151 P) W.BT.nil W.BT.nil) W.BT.nil) (W.BT.node (hd.o_117 P) (W.BT.node (hd.o_183 P) W.BT.nil W.BT.nil) W.BT.nil))) (W.BT.node (hd.o_27 P) (W.BT.node (hd.o_43 P) (W.BT.node (hd.o_77 P) (W.BT.node (hd.o_143 P) W.BT.nil W.BT.nil) (W.BT.node (hd.o_209 P) W.BT.nil W.BT.nil)) (W.BT.node (hd.o_109 P) (W.BT.node (hd.o_175 P) W.BT.nil W.BT.nil) W.BT.nil)) (W.BT.node (hd.o_61 P) (W.BT.node (hd.o_93 P) (W.BT.node (hd.o_159 P) W.BT.nil W.BT.nil) W.BT.nil) (W.BT.node (hd.o_125 P) (W.BT.node (hd.o_191 P) W.BT.nil W.BT.nil) W.BT.nil)))))) (W.BT.node (W.boot_o_2 P) (W.BT.node (W.boot_o_4 P) (W.BT.node (W.boot_o_8 P) (W.BT.node (hd.o_14 P) (W.BT.node (hd.o_30 P) (W.BT.node (hd.o_64 P) (W.BT.node (hd.o_128 P) W.BT.nil W.BT.nil) (W.BT.node (hd.o_196 P) W.BT.nil W.BT.nil)) (W.BT.node (hd.o_96 P) (W.BT.node (hd.o_162 P) W.BT.nil W.BT.nil) W.BT.nil)) (W.BT.node (hd.o_46 P) (W.BT.node (hd.o_80 P) (W.BT.node (hd.o_146 P) W.BT.nil W.BT.nil) W.BT.nil) (W.BT.node (hd.o_112 P) (W.BT.node (hd.o_178 P) W.BT.nil W.BT.nil) W.BT.nil))) (W.BT.node (hd.o_22 P) (W.BT.node (hd.o_38 P) (W.BT.node (hd.o_72 P) (W.BT.node (hd.o_136 P) W.BT.nil W.BT.nil) (W.BT.node (hd.o_204 P) W.BT.nil W.BT.nil)) (W.BT.node (hd.o_104 P) (W.BT.node (hd.o_170 P) W.BT.nil W.BT.nil) W.BT.nil)) (W.BT.node (hd.o_56 P) (W.BT.node (hd.o_88 P) (W.BT.node (hd.o_154 P) W.BT.nil W.BT.nil) W.BT.nil) (W.BT.node (hd.o_120 P) (W.BT.node (hd.o_186 P) W.BT.nil W.BT.nil) W.BT.nil)))) (W.BT.node (hd.o_194 P) (W.BT.node (hd.o_18 P) (W.BT.node (hd.o_34 P) (W.BT.node (hd.o_68 P) (W.BT.node (hd.o_132 P) W.BT.nil W.BT.nil) (W.BT.node (hd.o_200 P) W.BT.nil W.BT.nil)) (W.BT.node (hd.o_100 P) (W.BT.node (hd.o_166 P) W.BT.nil W.BT.nil) W.BT.nil)) (W.BT.node (hd.o_50 P) (W.BT.node (hd.o_84 P) (W.BT.node (hd.o_150 P) W.BT.nil W.BT.nil) W.BT.nil) (W.BT.node (hd.o_116 P) (W.BT.node (hd.o_182 P) W.BT.nil W.BT.nil) W.BT.nil))) (W.BT.node (hd.o_26 P) (W.BT.node (hd.o_42 P) (W.BT.node (hd.o_76 P) (W.BT.node (hd.o_142 P) W.BT.nil W.BT.nil) (W.BT.node (hd.o_208 P) W.BT.nil W.BT.nil)) (W.BT.node (hd.o_108 P) (W.BT.node (hd.o_174 P) W.BT.nil W.BT.nil) W.BT.nil)) (W.BT.node (hd.o_60 P) (W.BT.node (hd.o_92 P) (W.BT.node (hd.o_158 P) W.BT.nil W.BT.nil) W.BT.nil) (W.BT.node (hd.o_124 P) (W.BT.node (hd.o_190 P) W.BT.nil W.BT.nil) W.BT.nil))))) (W.BT.node (W.boot_o_6 P) (W.BT.node (W.boot_o_10 P) (W.BT.node (hd.o_16 P) (W.BT.node (hd.o_32 P) (W.BT.node (hd.o_66 P) (W.BT.node (hd.o_130 P) W.BT.nil W.BT.nil) (W.BT.node (hd.o_198 P) W.BT.nil W.BT.nil)) (W.BT.node (hd.o_98 P) (W.BT.node (hd.o_164 P) W.BT.nil W.BT.nil) W.BT.nil)) (W.BT.node (hd.o_48 P) (W.BT.node (hd.o_82 P) (W.BT.node (hd.o_148 P) W.BT.nil W.BT.nil) W.BT.nil) (W.BT.node (hd.o_114 P) (W.BT.node (hd.o_180 P) W.BT.nil W.BT.nil) W.BT.nil))) (W.BT.node (hd.o_24 P) (W.BT.node (hd.o_40 P) (W.BT.node (hd.o_74 P) (W.BT.node (hd.o_140 P) W.BT.nil W.BT.nil) (W.BT.node (hd.o_206 P) W.BT.nil W.BT.nil)) (W.BT.node (hd.o_106 P) (W.BT.node (hd.o_172 P) W.BT.nil W.BT.nil) W.BT.nil)) (W.BT.node (hd.o_58 P) (W.BT.node (hd.o_90 P) (W.BT.node (hd.o_156 P) W.BT.nil W.BT.nil) W.BT.nil) (W.BT.node (hd.o_122 P) (W.BT.node (hd.o_188 P) W.BT.nil W.BT.nil) W.BT.nil)))) (W.BT.node (hd.o_8 P) (W.BT.node (hd.o_20 P) (W.BT.node (hd.o_36 P) (W.BT.node (hd.o_70 P) (W.BT.node (hd.o_134 P) W.BT.nil W.BT.nil) (W.BT.node (hd.o_202 P) W.BT.nil W.BT.nil)) (W.BT.node (hd.o_102 P) (W.BT.node (hd.o_168 P) W.BT.nil W.BT.nil) W.BT.nil)) (W.BT.node (hd.o_52 P) (W.BT.node (hd.o_86 P) (W.BT.node (hd.o_152 P) W.BT.nil W.BT.nil) W.BT.nil) (W.BT.node (hd.o_118 P) (W.BT.node (hd.o_184 P) W.BT.nil W.BT.nil) W.BT.nil))) (W.BT.node (hd.o_28 P) (W.BT.node (hd.o_44 P) (W.BT.node (hd.o_78 P) (W.BT.node (hd.o_144 P) W.BT.nil W.BT.nil) W.BT.nil) (W.BT.node (hd.o_110 P) (W.BT.node (hd.o_176 P) W.BT.nil W.BT.nil) W.BT.nil)) (W.BT.node (hd.o_62 P) (W.BT.node (hd.o_94 P) (W.BT.node (hd.o_160 P) W.BT.nil W.BT.nil) W.BT.nil) (W.BT.node (hd.o_126 P) (W.BT.node (hd.o_192 P) W.BT.nil W.BT.nil) W.BT.nil))))))
noncomputable def hd.n_36_3 : Params → Obj := fun P => { cls := Value.type "dict", data := Data.dict #[{ hash := PyData.keyHash P (Str.ofString "__name__"), key := Value.str (Str.ofString "__name__") 165, val := Value.str (Str.ofString "cpy313.statistics") 381 }, { hash := PyData.keyHash P (Str.ofString "__doc__"), key := Value.str (Str.ofString "__doc__") 166, val := Value.none }, { hash := PyData.keyHash P (Str.ofString "__package__"), key := Value.str (Str.ofString "__package__") 167, val := Value.none }, { hash := PyData.keyHash P (Str.ofString "__loader__"), key := Value.str (Str.ofString "__loader__") 168, val := Value.builtin "__main__.__loader__#opaque" }, { hash := PyData.keyHash P (Str.ofString "__spec__"), key := Value.str (Str.ofString "__spec__") 169, val := Value.none }, { hash := PyData.keyHash P (Str.ofString "__annotations__"), key := Value.str (Str.ofString "__annotations__") 170, val := Value.ref 6 }, { hash := PyData.keyHash P (Str.ofString "__builtins__"), key := Value.str (Str.ofString "__builtins__") 171, val := Value.ref 4 }, { hash := PyData.keyHash P (Str.ofString "__file__"), key := Value.str (Str.ofString "__file__") 173, val := Value.str (Str.ofString "/claim/cut.py") 172 }, { hash := PyData.keyHash P (Str.ofString "__cached__"), key := Value.str (Str.ofString "__cached__") 174, val := Value.none }, { hash := PyData.keyHash P (Str.ofString "S_IFMT"), key := Value.str (Str.ofString "S_IFMT") 195, val := Value.ref 21 }, { hash := PyData.keyHash P (Str.ofString "S_IFDIR"), key := Value.str (Str.ofString "S_IFDIR") 197, val := Value.int 16384 196 }, { hash := PyData.keyHash P (Str.ofString "S_IFCHR"), key := Value.str (Str.ofString "S_IFCHR") 199, val := Value.int 8192 198 }, { hash := PyData.keyHash P (Str.ofString "S_IFBLK"), key := Value.str (Str.ofString "S_IFBLK") 201, val := Value.int 24576 200 }, { hash := PyData.keyHash P (Str.ofString "S_IFREG"), key := Value.str (Str.ofString "S_IFREG") 203, val := Value.int 32768 202 }, { hash := PyData.keyHash P (Str.ofString "S_IFIFO"), key := Value.str (Str.ofString "S_IFIFO") 205, val := Value.int 4096 204 }, { hash := PyData.keyHash P (Str.ofString "S_IFLNK"), key := Value.str (Str.ofString "S_IFLNK") 207, val := Value.int 40960 206 }, { hash := PyData.keyHash P (Str.ofString "S_IFSOCK"), key := Value.str (Str.ofString "S_IFSOCK") 209, val := Value.int 49152 208 }, { hash := PyData.keyHash P (Str.ofString "S_ISUID"), key := Value.str (Str.ofString "S_ISUID") 211, val := Value.int 2048 210 }, { hash := PyData.keyHash P (Str.ofString "S_ISGID"), key := Value.str (Str.ofString "S_ISGID") 213, val := Value.int 1024 212 }, { hash := PyData.keyHash P (Str.ofString "S_ISVTX"), key := Value.str (Str.ofString "S_ISVTX") 215, val := Value.int 512 214 }, { hash := PyData.keyHash P (Str.ofString "S_IRUSR"), key := Value.str (Str.ofString "S_IRUSR") 217, val := Value.int 256 216 }, { hash := PyData.keyHash P (Str.ofString "S_IWUSR"), key := Value.str (Str.ofString "S_IWUSR") 219, val := Value.int 128 218 }, { hash := PyData.keyHash P (Str.ofString "S_IXUSR"), key := Value.str (Str.ofString "S_IXUSR") 221, val := Value.int 64 220 }, { hash := PyData.keyHash P (Str.ofString "S_IRGRP"), key := Value.str (Str.ofString "S_IRGRP") 223, val := Value.int 32 222 }, { hash := PyData.keyHash P (Str.ofString "S_IWGRP"), key := Value.str (Str.ofString "S_IWGRP") 225, val := Value.int 16 224 }, { hash := PyData.keyHash P (Str.ofString "S_IXGRP"), key := Value.str (Str.ofString "S_IXGRP") 227, val := Value.int 8 226 }, { hash := PyData.keyHash P (Str.ofString "S_IROTH"), key := Value.str (Str.ofString "S_IROTH") 229, val := Value.int 4 228 }, { hash := PyData.keyHash P (Str.ofString "S_IWOTH"), key := Value.str (Str.ofString "S_IWOTH") 231, val := Value.int 2 230 }, { hash := PyData.keyHash P (Str.ofString "S_IXOTH"), key := Value.str (Str.ofString "S_IXOTH") 233, val := Value.int 1 232 }, { hash := PyData.keyHash P (Str.ofString "_filemode_table"), key := Value.str (Str.ofString "_filemode_table") 259, val := Value.ref 54 }, { hash := PyData.keyHash P (Str.ofString "filemode"), key := Value.str (Str.ofString "filemode") 271, val := Value.ref 61 }, { hash := PyData.keyHash P (Str.ofString "heappop"), key := Value.str (Str.ofString "heappop") 282, val := Value.ref 68 }, { hash := PyData.keyHash P (Str.ofString "heapreplace"), key := Value.str (Str.ofString "heapreplace") 291, val := Value.ref 75 }, { hash := PyData.keyHash P (Str.ofString "heapify"), key := Value.str (Str.ofString "heapify") 300, val := Value.ref 82 }, { hash := PyData.keyHash P (Str.ofString "_heapreplace_max"), key := Value.str (Str.ofString "_heapreplace_max") 309, val := Value.ref 89 }, { hash := PyData.keyHash P (Str.ofString "_heapify_max"), key := Value.str (Str.ofString "_heapify_max") 318, val := Value.ref 96 }, { hash := PyData.keyHash P (Str.ofString "_siftdown"), key := Value.str (Str.ofString "_siftdown") 330, val := Value.ref 103 }, { hash := PyData.keyHash P (Str.ofString "_siftup"), key := Value.str (Str.ofString "_siftup") 343, val := Value.ref 110 }, { hash := PyData.keyHash P (Str.ofString "_siftdown_max"), key := Value.str (Str.ofString "_siftdown_max") 355, val := Value.ref 117 }, { hash := PyData.keyHash P (Str.ofString "_siftup_max"), key := Value.str (Str.ofString "_siftup_max") 368, val := Value.ref 124 }, { hash := PyData.keyHash P (Str.ofString "nsmallest"), key := Value.str (Str.ofString "nsmallest") 374, val := Value.ref 130 }, { hash := PyData.keyHash P (Str.ofString "nlargest"), key := Value.str (Str.ofString "nlargest") 380, val := Value.ref 136 }, { hash := PyData.keyHash P (Str.ofString "StatisticsError"), key := Value.str (Str.ofString "StatisticsError") 400, val := Value.ref 146 }] 43 }
noncomputable def hd.n_36_12 : Params → Obj := fun P => { cls := Value.none, data := Data.fields #[Value.int 2 0, Value.int 0 0, Value.ref 20, Value.int 24 0, Value.int 0 0, Value.ref 60, Value.int 42 0, Value.int 0 0, Value.ref 67, Value.int 50 0, Value.int 0 0, Value.ref 74, Value.int 55 0, Value.int 0 0, Value.ref 81, Value.int 59 0, Value.int 0 0, Value.ref 88, Value.int 64 0, Value.int 0 0, Value.ref 95, Value.int 68 0, Value.int 0 0, Value.ref 102, Value.int 79 0, Value.int 0 0, Value.ref 109, Value.int 93 0, Value.int 0 0, Value.ref 116, Value.int 104 0, Value.int 0 0, Value.ref 123, Value.int 118 0, Value.int 0 0, Value.ref 129, Value.int 163 0, Value.int 0 0, Value.ref 135, Value.int 209 0, Value.int 0 0, Value.ref 142] }
noncomputable def hd.tree_a36 : Params → BT := fun P => W.BT.node (W.boot_o_0 P) (W.BT.node (W.boot_o_1 P) (W.BT.node (hd.n_36_3 P) (W.BT.node (W.boot_o_7 P) (W.BT.node (hd.o_189 P) (W.BT.node (hd.o_29 P) (W.BT.node (hd.o_196 P) (W.BT.node (hd.o_196 P) W.BT.nil W.BT.nil) W.BT.nil) (W.BT.node (hd.o_95 P) W.BT.nil W.BT.nil)) (W.BT.node (hd.o_45 P) (W.BT.node (hd.o_189 P) (W.BT.node (hd.o_145 P) W.BT.nil W.BT.nil) W.BT.nil) (W.BT.node (hd.o_189 P) W.BT.nil W.BT.nil))) (W.BT.node (hd.o_21 P) (W.BT.node (hd.o_37 P) (W.BT.node (hd.o_71 P) (W.BT.node (hd.o_135 P) W.BT.nil W.BT.nil) W.BT.nil) (W.BT.node (hd.o_103 P) W.BT.nil W.BT.nil)) (W.BT.node (hd.o_189 P) (W.BT.node (hd.o_87 P) W.BT.nil W.BT.nil) (W.BT.node (hd.o_196 P) W.BT.nil W.BT.nil)))) (W.BT.node (hd.o_189 P) (W.BT.node (hd.o_17 P) (W.BT.node (hd.o_33 P) (W.BT.node (hd.o_67 P) (W.BT.node (hd.o_125 P) W.BT.nil W.BT.nil) W.BT.nil) (W.BT.node (hd.o_99 P) W.BT.nil W.BT.nil)) (W.BT.node (hd.o_49 P) (W.BT.node (hd.o_189 P) (W.BT.node (hd.o_149 P) W.BT.nil W.BT.nil) W.BT.nil) (W.BT.node (hd.o_115 P) W.BT.nil W.BT.nil))) (W.BT.node (hd.o_25 P) (W.BT.node (hd.o_41 P) (W.BT.node (hd.o_75 P) (W.BT.node (hd.o_141 P) W.BT.nil W.BT.nil) W.BT.nil) (W.BT.node (hd.o_189 P) W.BT.nil W.BT.nil)) (W.BT.node (hd.o_59 P) (W.BT.node (hd.o_196 P) W.BT.nil W.BT.nil) (W.BT.node (hd.o_123 P) W.BT.nil W.BT.nil))))) (W.BT.node (W.boot_o_5 P) (W.BT.node (W.boot_o_9 P) (W.BT.node (hd.o_15 P) (W.BT.node (hd.o_31 P) (W.BT.node (hd.o_189 P) (W.BT.node (hd.o_129 P) W.BT.nil W.BT.nil) W.BT.nil) (W.BT.node (hd.o_189 P) W.BT.nil W.BT.nil)) (W.BT.node (hd.o_47 P) (W.BT.node (hd.o_81 P) (W.BT.node (hd.o_147 P) W.BT.nil W.BT.nil) W.BT.nil) (W.BT.node (hd.o_113 P) W.BT.nil W.BT.nil))) (W.BT.node (hd.o_23 P) (W.BT.node (hd.o_39 P) (W.BT.node (hd.o_73 P) (W.BT.node (hd.o_139 P) W.BT.nil W.BT.nil) W.BT.nil) (W.BT.node (hd.o_196 P) W.BT.nil W.BT.nil)) (W.BT.node (hd.o_57 P) (W.BT.node (hd.o_89 P) W.BT.nil W.BT.nil) (W.BT.node (hd.o_189 P) W.BT.nil W.BT.nil)))) (W.BT.node (hd.o_7 P) (W.BT.node (hd.o_19 P) (W.BT.node (hd.o_35 P) (W.BT.node (hd.o_189 P) (W.BT.node (hd.o_196 P) W.BT.nil W.BT.nil) W.BT.nil) (W.BT.node (hd.o_101 P) W.BT.nil W.BT.nil)) (W.BT.node (hd.o_51 P) (W.BT.node (hd.o_85 P) (W.BT.node (hd.o_151 P) W.BT.nil W.BT.nil) W.BT.nil) (W.BT.node (hd.o_117 P) W.BT.nil W.BT.nil))) (W.BT.node (hd.o_27 P) (W.BT.node (hd.o_43 P) (W.BT.node (hd.o_196 P) (W.BT.node (hd.o_196 P) W.BT.nil W.BT.nil) W.BT.nil) (W.BT.node (hd.o_109 P) W.BT.nil W.BT.nil)) (W.BT.node (hd.o_61 P) (W.BT.node (hd.o_189 P) W.BT.nil W.BT.nil) (W.BT.node (hd.o_125 P) W.BT.nil W.BT.nil)))))) (W.BT.node (W.boot_o_2 P) (W.BT.node (W.boot_o_4 P) (W.BT.node (W.boot_o_8 P) (W.BT.node (hd.o_196 P) (W.BT.node (hd.o_30 P) (W.BT.node (hd.o_64 P) (W.BT.node (hd.o_128 P) W.BT.nil W.BT.nil) W.BT.nil) (W.BT.node (hd.o_96 P) W.BT.nil W.BT.nil)) (W.BT.node (hd.o_46 P) (W.BT.node (hd.o_80 P) (W.BT.node (hd.o_189 P) W.BT.nil W.BT.nil) W.BT.nil) (W.BT.node (hd.o_196 P) W.BT.nil W.BT.nil))) (W.BT.node (hd.o_22 P) (W.BT.node (hd.o_38 P) (W.BT.node (hd.o_189 P) (W.BT.node (hd.o_136 P) W.BT.nil W.BT.nil) W.BT.nil) (W.BT.node (hd.o_189 P) W.BT.nil W.BT.nil)) (W.BT.node (hd.o_196 P) (W.BT.node (hd.o_88 P) W.BT.nil W.BT.nil) (W.BT.node (hd.o_120 P) W.BT.nil W.BT.nil)))) (W.BT.node (hd.n_36_12 P) (W.BT.node (hd.o_18 P) (W.BT.node (hd.o_34 P) (W.BT.node (hd.o_68 P) (W.BT.node (hd.o_189 P) W.BT.nil W.BT.nil) W.BT.nil) (W.BT.node (hd.o_189 P) W.BT.nil W.BT.nil)) (W.BT.node (hd.o_50 P) (W.BT.node (hd.o_196 P) (W.BT.node (hd.o_150 P) W.BT.nil W.BT.nil) W.BT.nil) (W.BT.node (hd.o_116 P) W.BT.nil W.BT.nil))) (W.BT.node (hd.o_26 P) (W.BT.node (hd.o_42 P) (W.BT.node (hd.o_189 P) (W.BT.node (hd.o_189 P) W.BT.nil W.BT.nil) W.BT.nil) (W.BT.node (hd.o_108 P) W.BT.nil W.BT.nil)) (W.BT.node (hd.o_60 P) (W.BT.node (hd.o_92 P) W.BT.nil W.BT.nil) (W.BT.node (hd.o_124 P) W.BT.nil W.BT.nil))))) (W.BT.node (W.boot_o_6 P) (W.BT.node (W.boot_o_10 P) (W.BT.node (hd.o_189 P) (W.BT.node (hd.o_32 P) (W.BT.node (hd.o_66 P) (W.BT.node (hd.o_130 P) W.BT.nil W.BT.nil) W.BT.nil) (W.BT.node (hd.o_196 P) W.BT.nil W.BT.nil)) (W.BT.node (hd.o_48 P) (W.BT.node (hd.o_82 P) (W.BT.node (hd.o_148 P) W.BT.nil W.BT.nil) W.BT.nil) (W.BT.node (hd.o_189 P) W.BT.nil W.BT.nil))) (W.BT.node (hd.o_24 P) (W.BT.node (hd.o_40 P) (W.BT.node (hd.o_74 P) (W.BT.node (hd.o_140 P) W.BT.nil W.BT.nil) W.BT.nil) (W.BT.node (hd.o_106 P) W.BT.nil W.BT.nil)) (W.BT.node (hd.o_189 P) (W.BT.node (hd.o_189 P) W.BT.nil W.BT.nil) (W.BT.node (hd.o_122 P) W.BT.nil W.BT.nil)))) (W.BT.node (hd.o_8 P) (W.BT.node (hd.o_20 P) (W.BT.node (hd.o_36 P) (W.BT.node (hd.o_196 P) (W.BT.node (hd.o_134 P) W.BT.nil W.BT.nil) W.BT.nil) (W.BT.node (hd.o_102 P) W.BT.nil W.BT.nil)) (W.BT.node (hd.o_52 P) (W.BT.node (hd.o_189 P) W.BT.nil W.BT.nil) (W.BT.node (hd.o_189 P) W.BT.nil W.BT.nil))) (W.BT.node (hd.o_28 P) (W.BT.node (hd.o_44 P) (W.BT.node (hd.o_78 P) (W.BT.node (hd.o_144 P) W.BT.nil W.BT.nil) W.BT.nil) (W.BT.node (hd.o_110 P) W.BT.nil W.BT.nil)) (W.BT.node (hd.o_189 P) (W.BT.node (hd.o_94 P) W.BT.nil W.BT.nil) (W.BT.node (hd.o_189 P) W.BT.nil W.BT.nil))))))
noncomputable def hd.heap_1 : Params → Frag := fun P => [(2, PySem.W.boot_o_2 P), (3, hd.o_193 P), (15, hd.o_13 P), (17, hd.o_15 P), (18, hd.o_16 P), (20, hd.o_18 P), (21, hd.o_19 P), (22, hd.o_20 P), (23, hd.o_21 P), (24, hd.o_22 P), (25, hd.o_23 P), (26, hd.o_24 P), (27, hd.o_25 P), (28, hd.o_26 P), (29, hd.o_27 P), (30, hd.o_28 P), (31, hd.o_29 P), (32, hd.o_30 P), (33, hd.o_31 P), (34, hd.o_32 P), (35, hd.o_33 P), (36, hd.o_34 P), (37, hd.o_35 P), (38, hd.o_36 P), (39, hd.o_37 P), (40, hd.o_38 P), (41, hd.o_39 P), (42, hd.o_40 P), (43, hd.o_41 P), (44, hd.o_42 P), (45, hd.o_43 P), (46, hd.o_44 P), (47, hd.o_45 P), (48, hd.o_46 P), (49, hd.o_47 P), (50, hd.o_48 P), (51, hd.o_49 P), (52, hd.o_50 P), (53, hd.o_51 P), (54, hd.o_52 P), (55, hd.o_55 P), (57, hd.o_57 P), (58, hd.o_58 P), (60, hd.o_60 P), (61, hd.o_61 P), (62, hd.o_62 P), (64, hd.o_64 P), (65, hd.o_65 P), (67, hd.o_67 P), (68, hd.o_68 P), (69, hd.o_69 P), (71, hd.o_71 P), (72, hd.o_72 P), (74, hd.o_74 P), (75, hd.o_75 P), (76, hd.o_76 P), (78, hd.o_78 P), (79, hd.o_79 P), (81, hd.o_81 P), (82, hd.o_82 P), (83, hd.o_83 P), (85, hd.o_85 P), (86, hd.o_86 P), (88, hd.o_88 P), (89, hd.o_89 P), (90, hd.o_90 P), (92, hd.o_92 P), (93, hd.o_93 P), (95, hd.o_95 P), (96, hd.o_96 P), (97, hd.o_97 P), (99, hd.o_99 P), (100, hd.o_100 P), (102, hd.o_102 P), (103, hd.o_103 P), (104, hd.o_104 P), (106, hd.o_106 P), (107, hd.o_107 P), (109, hd.o_109 P), (110, hd.o_110 P), (111, hd.o_111 P), (113, hd.o_113 P), (114, hd.o_114 P), (116, hd.o_116 P), (117, hd.o_117 P), (118, hd.o_118 P), (120, hd.o_120 P), (121, hd.o_121 P), (123, hd.o_123 P), (124, hd.o_124 P), (125, hd.o_125 P), (126, hd.o_126 P), (129, hd.o_129 P), (130, hd.o_130 P), (131, hd.o_131 P), (132, hd.o_132 P), (135, hd.o_135 P), (136, hd.o_136 P), (137, hd.o_139 P), (144, hd.o_146 P), (145, hd.o_147 P), (146, hd.o_148 P), (147, hd.o_149 P), (150, hd.o_152 P), (152, hd.o_154 P), (153, hd.o_155 P), (155, hd.o_157 P), (156, hd.o_158 P), (157, hd.o_159 P), (159, hd.o_161 P), (160, hd.o_162 P), (162, hd.o_164 P), (163, hd.o_165 P), (164, hd.o_166 P), (165, hd.o_167 P), (167, hd.o_169 P), (168, hd.o_170 P), (170, hd.o_172 P), (171, hd.o_173 P), (172, hd.o_174 P), (174, hd.o_176 P), (175, hd.o_177 P), (177, hd.o_179 P), (178, hd.o_180 P), (179, hd.o_181 P), (182, hd.o_184 P), (183, hd.o_185 P), (184, hd.o_186 P), (186, hd.o_188 P), (187, hd.o_189 P), (189, hd.o_191 P), (190, hd.o_192 P), (191, hd.o_195 P), (194, hd.o_198 P), (195, hd.o_199 P), (196, hd.o_200 P), (199, hd.o_203 P), (200, hd.o_204 P), (201, hd.o_205 P), (204, hd.o_208 P), (205, hd.o_209 P)]
noncomputable abbrev hd.as : List Addr := [2, 3, 15, 17, 18, 20, 21, 22, 23, 24, 25, 26, 27, 28, 29, 30, 31, 32, 33, 34, 35, 36, 37, 38, 39, 40, 41, 42, 43, 44, 45, 46, 47, 48, 49, 50, 51, 52, 53, 54, 55, 57, 58, 60, 61, 62, 64, 65, 67, 68, 69, 71, 72, 74, 75, 76, 78, 79, 81, 82, 83, 85, 86, 88, 89, 90, 92, 93, 95, 96, 97, 99, 100, 102, 103, 104, 106, 107, 109, 110, 111, 113, 114, 116, 117, 118, 120, 121, 123, 124, 125, 126, 129, 130, 131, 132, 135, 136, 137, 144, 145, 146, 147, 150, 152, 153, 155, 156, 157, 159, 160, 162, 163, 164, 165, 167, 168, 170, 171, 172, 174, 175, 177, 178, 179, 182, 183, 184, 186, 187, 189, 190, 191, 194, 195, 196, 199, 200, 201, 204, 205]
noncomputable def hd.view_1 : Program := view hd.pr [1, 2, 3, 4, 5, 6, 7, 8, 9, 10, 11, 12, 13, 14, 15, 16, 17, 18, 19, 20, 21, 22, 24, 25, 26, 27, 28, 29, 30, 31, 32, 36, 37, 38, 41, 42, 43, 44, 45, 46]
end Mine
end
section
open PySem PySem.W PyProof.Rows
set_option maxRecDepth 100000
set_option maxHeartbeats 8000000
namespace Mine
/-! The head, cut into steps: the text's top hd.runs from the interpreter's start to hd.heap_210 -/
noncomputable def hd.env_3 : Env := { scope := hd.pr.main.scope, locals := mainNs, globals := mainNs, cells := [], code := .ref 13, frame := some 14 }
noncomputable abbrev hd.cd0 : Code := Code.body (behindTheImports hd.pr) hd.env_3
noncomputable abbrev hd.p0 : Pos := ⟨0, 0, 0, 0⟩
noncomputable abbrev hd.St (t : BT) (n k : Nat) (os : OsState) : SharedT := { tree := t, n := n, life := {}, gens := { toList := [] }, drawn := {}, toks := k, os := os }
noncomputable abbrev hd.Sf (w : World) (os : OsState) : Shared := { heap := hd.heap_210 w.params, gens := { toList := [] }, drawn := {}, toks := 487, os := os }
noncomputable def hd.sts1 : List Stmt := (behindTheImports hd.pr).take 22
noncomputable def hd.sts2 : List Stmt := ((behindTheImports hd.pr).drop 22).take 14
noncomputable def hd.sts3 : List Stmt := ((behindTheImports hd.pr).drop 36).take 1
noncomputable def hd.sts3b : List Stmt := ((behindTheImports hd.pr).drop 37).take 7
noncomputable def hd.sts4 : List Stmt := (behindTheImports hd.pr).drop 44
theorem hd.sts_all : behindTheImports hd.pr = hd.sts1 ++ (hd.sts2 ++ (hd.sts3 ++ (hd.sts3b ++ (hd.sts4 ++ [])))) := by kernel_rfl
section
variable (w : World) (os : OsState)
theorem hd.opn : opening hd.pr = plainProg hd.pr.main.scope.names := by kernel_rfl
theorem hd.fen : ∀ s : Shared, fenceModules? hd.pr s = some s := by intro s; kernel_rfl
theorem hd.pre0 : topGo treeTable hd.pr w 11 (some (.ref 6)) 12 ⟨boot_heap w.params, #[], boot_drawn, boot_toks, os⟩ (topStub hd.pr) =
    some ({ heap := hd.heap_8 w.params, toks := 187, os := os }, ⟨denote treeTable hd.cd0, hd.cd0, hd.p0, [topFrame hd.p0]⟩) := by kernel_rfl
theorem hd.blk : segRun treeTable hd.pr w 11 (some (.ref 6)) 1 1 { heap := hd.heap_8 w.params, toks := 187, os := os } (blockOf (behindTheImports hd.pr) hd.env_3 hd.cd0 hd.p0 [topFrame hd.p0]) =
    some (Flow.next, (hd.St (hd.tree_9 w.params) 15 187 os).abs, hd.cd0, hd.p0) := by kernel_rfl
theorem hd.sg1 : segRunT treeTable hd.pr w 11 (some (.ref 6)) 1 371 (hd.St (hd.tree_9 w.params) 15 187 os) (piecesOf hd.sts1 hd.env_3 hd.cd0 hd.p0 [topFrame hd.p0]) =
    some (Flow.next, hd.St (hd.tree_52 w.params) 55 260 os, hd.cd0, ⟨23, 0, 23, 15⟩) := by kernel_rfl
theorem hd.sg2 : segRunT treeTable hd.pr w 11 (some (.ref 6)) 1 400 (hd.St (hd.tree_52 w.params) 55 260 os) (piecesOf hd.sts2 hd.env_3 hd.cd0 ⟨23, 0, 23, 15⟩ [topFrame hd.p0]) =
    some (Flow.next, hd.St (hd.tree_136 w.params) 137 383 os, hd.cd0, ⟨208, 0, 208, 8⟩) := by kernel_rfl
theorem hd.sg3 : segRunT treeTable hd.pr w 11 (some (.ref 6)) 1 187 (hd.St (hd.tree_136 w.params) 137 383 os) (piecesOf hd.sts3 hd.env_3 hd.cd0 ⟨208, 0, 208, 8⟩ [topFrame hd.p0]) =
    some (Flow.next, hd.St (hd.tree_a36 w.params) 150 401 os, hd.cd0, ⟨209, 0, 210, 8⟩) := by kernel_rfl
theorem hd.sg3b : segRunT treeTable hd.pr w 11 (some (.ref 6)) 1 213 (hd.St (hd.tree_a36 w.params) 150 401 os) (piecesOf hd.sts3b hd.env_3 hd.cd0 ⟨209, 0, 210, 8⟩ [topFrame hd.p0]) =
    some (Flow.next, hd.St (hd.tree_192 w.params) 191 469 os, hd.cd0, ⟨272, 0, 282, 14⟩) := by kernel_rfl
theorem hd.sg4 : segRunT treeTable hd.pr w 11 (some (.ref 6)) 1 79 (hd.St (hd.tree_192 w.params) 191 469 os) (piecesOf hd.sts4 hd.env_3 hd.cd0 ⟨272, 0, 282, 14⟩ [topFrame hd.p0]) =
    some (Flow.next, hd.St (hd.tree_209 w.params) 206 487 os, hd.cd0, ⟨287, 0, 322, 15⟩) := by kernel_rfl
theorem hd.fin0 : topRun treeTable hd.pr w 11 (some (.ref 6)) 2 (hd.St (hd.tree_209 w.params) 206 487 os).abs (restOf [] hd.env_3 hd.cd0 ⟨287, 0, 322, 15⟩ [topFrame hd.p0]) = some (hd.Sf w os) := by kernel_rfl
theorem hd.runs : topRun treeTable hd.pr w 11 (some (.ref 6)) (12 + (1 + (371 + (400 + (187 + (213 + (79 + 2))))))) ⟨boot_heap w.params, #[], boot_drawn, boot_toks, os⟩ (topStub hd.pr) = some (hd.Sf w os) := by
  refine go_top (hd.pre0 w os) (piece_block (hd.blk w os) ?_)
  rw [hd.sts_all]
  exact piece_app (segRun_of (hd.sg1 w os)) (piece_app (segRun_of (hd.sg2 w os)) (piece_app (segRun_of (hd.sg3 w os)) (piece_app (segRun_of (hd.sg3b w os)) (piece_app (segRun_of (hd.sg4 w os)) (hd.fin0 w os)))))
noncomputable abbrev hd.loo : List Str := [Str.ofString "_filemode_table", Str.ofString "nsmallest", Str.ofString "nlargest", Str.ofString "quantiles"]
theorem hd.siz : ((boot_heap w.params).isNs mainGlobals && (#[] : Array GenState).size == 0, (boot_heap w.params).objs.size, (boot_heap w.params).nsMap mainGlobals "__annotations__") = (true, 11, some (Value.ref 6)) := by kernel_rfl
theorem hd.lk1 : (staticsOk (importedModules hd.pr.main.body) (boot_heap w.params) (hd.heap_210 w.params) && namesBound hd.pr (hd.heap_210 w.params) && gensDone (hd.Sf w os) && laidKept (boot_heap w.params) (hd.heap_210 w.params)) = true := by kernel_rfl
theorem hd.lk2 : seen ((recsOf hd.view_1).map (·.name)) (ownsOf hd.view_1) [] { hd.Sf w os with gens := #[] } = expectedOf hd.view_1 := by kernel_rfl
theorem hd.lk3 : (hd.Sf w os).heap.bltView = bltViewBooted := by kernel_rfl
theorem hd.lk4a : (hd.Sf w os).heap.keysOk (looseW hd.view_1 hd.loo) ((recsOf hd.view_1).map (·.name)) ((litsOf hd.view_1).map (·.1)) ((clssOf hd.view_1 (looseW hd.view_1 hd.loo)).map (·.name)) = true := by kernel_rfl
theorem hd.lk4b : (hd.Sf w os).heap.accountedOkI (importedModules hd.pr.main.body) = true := by kernel_rfl
theorem hd.lk4c : tablesOk hd.view_1 (hd.Sf w os).heap = true := by kernel_rfl
theorem hd.lk5 : tabsOk hd.view_1 (hd.Sf w os) = true := by kernel_rfl
theorem hd.lk6 : pinSeenD hd.view_1 (drecsOf hd.view_1) (hd.Sf w os) = pinGoodD (drecsOf hd.view_1) := by kernel_rfl
theorem hd.lk7 : plainSeenE hd.view_1 (looseW hd.view_1 hd.loo) (hd.Sf w os) = plainGoodE hd.view_1 (looseW hd.view_1 hd.loo) := by kernel_rfl
theorem hd.lk8 : plainSeenD hd.view_1 hd.loo (hd.Sf w os) = plainGoodD hd.view_1 hd.loo := by kernel_rfl
theorem hd.lk9 : wideSeen hd.view_1 (hd.Sf w os) = wideGood hd.view_1 := by kernel_rfl
theorem hd.lk10 : clsSeenW hd.view_1 hd.loo (hd.Sf w os) = clsGoodW hd.view_1 hd.loo := by kernel_rfl
end
/-- the table of signs, which the law reads -/
noncomputable def hd.tabW : List (Str × WData) :=
  let b (n : Int) (c : Nat) : WData := .tuple [.int n, .str ⟨#[c]⟩]
  [(Str.ofString "_filemode_table", .tuple [.tuple [b 40960 108, b 49152 115, b 32768 45, b 24576 98, b 16384 100, b 8192 99, b 4096 112],
    .tuple [b 256 114], .tuple [b 128 119], .tuple [b 2112 115, b 2048 83, b 64 120], .tuple [b 32 114], .tuple [b 16 119],
    .tuple [b 1032 115, b 1024 83, b 8 120], .tuple [b 4 114], .tuple [b 2 119], .tuple [b 513 116, b 512 84, b 1 120]])]
noncomputable abbrev hd.hk : Hook := kHook hd.heap_1 hd.as (fun _ => by kernel_rfl)
noncomputable abbrev hd.XtM (s : Shared) : Bool := xlAt hd.view_1 hd.tabW s && recOk PySem.Challenge.rw_om0146_01.row.records s
section
variable (w : World) (os : OsState)
theorem hd.lk4d : hd.XtM (hd.Sf w os) = true := by kernel_rfl
theorem hd.lk4 : (hd.Sf w os).heap.isNs mainGlobals = true := by kernel_rfl
theorem hd.lk4e : (hd.Sf w os).heap.isNs builtinsNs = true := by kernel_rfl
theorem hd.lkY : Hook.obs hd.hk (hd.Sf w os) = Hook.val hd.hk w := by kernel_rfl
theorem hd.lks : openSeen hd.view_1 hd.loo (importedModules hd.pr.main.body) hd.XtM true (hd.Sf w os) = openGood hd.view_1 hd.loo := by
  unfold openSeen openGood
  exact looks_pair (hd.lk2 w os) (looks_pair (hd.lk3 w os) (looks_pair (look_both (look_both (look_both (look_both (look_both (look_both (hd.lk4a w os) (hd.lk4b w os)) (hd.lk4 w os)) (hd.lk4e w os)) (hd.lk4c w os)) (hd.lk4d w os)) rfl)
    (looks_pair (hd.lk5 w os) (looks_pair (hd.lk6 w os) (looks_pair (hd.lk7 w os) (looks_pair (hd.lk8 w os) (looks_pair (hd.lk9 w os) (hd.lk10 w os))))))))
end
theorem hd.left : LeftO hd.pr hd.view_1 hd.loo hd.XtM (Hook.obs hd.hk) (Hook.val hd.hk) 2616 true :=
  LeftO.of_pieces (H₀ := boot_heap) (H₁ := hd.heap_210) (boot_open hd.opn rfl hd.fen) hd.siz hd.runs rfl fun w => funext fun os => looks_pair (hd.lk1 w os) (looks_pair (hd.lks w os) (hd.lkY w os))
end Mine
end
section
open PySem PySem.W PyProof.Rows
set_option maxRecDepth 100000
set_option maxHeartbeats 8000000
namespace Mine
theorem hd.said_of (h : PySem.Challenge.rw_om0146_01.row.wellSaid = true) : PySem.Challenge.rw_om0146_01.wellSaid = true := by
  unfold OpenLaw.wellSaid
  iterate 18 (with_reducible refine look_both ?_ ?_; rotate_left; kernel_rfl)
  exact h
theorem hd.ws1 : namesResolve PySem.Challenge.rw_om0146_01.row.prog = true := by kernel_rfl
theorem hd.ws2 : noRoadLSs { strict := !(importedModules PySem.Challenge.rw_om0146_01.row.prog.main.body).all cThrough.contains, foot := none, bare := ([Str.ofString "vars", Str.ofString "dir", Str.ofString "locals"] : List Str).filter (readsOut PySem.Challenge.rw_om0146_01.row.prog PySem.Challenge.rw_om0146_01.row.prog.main.body) } PySem.Challenge.rw_om0146_01.row.prog.main.body = true := by kernel_rfl
theorem hd.ws3 : (namesMeet PySem.Challenge.rw_om0146_01.row.prog PySem.Challenge.rw_om0146_01.row.prog.main.body fun _ n => attrL n) = true := by kernel_rfl
theorem hd.row_part : PySem.Challenge.rw_om0146_01.row.partSaid = true := by
  unfold OpenRow.partSaid looksOpen
  repeat' (with_reducible refine look_both ?_ ?_)
  · kernel_rfl
  · kernel_rfl
  · exact hd.ws1
  · kernel_rfl
  · exact hd.ws2
  · exact hd.ws3
  all_goals kernel_rfl
theorem hd.row_ok : PySem.Challenge.rw_om0146_01.row.wellSaid = true := by
  unfold OpenRow.wellSaid
  exact look_both (look_both hd.row_part (by kernel_rfl)) (by kernel_rfl)
theorem hd.row_whole : PySem.Challenge.rw_om0146_01.row.prog.tablesWhole = true := by kernel_rfl
theorem hd.row_bare : PySem.Challenge.rw_om0146_01.row.prog.bare := ⟨rfl, rfl, rfl, rfl, rfl, hd.row_whole⟩
theorem hd.row_prom : PySem.Challenge.rw_om0146_01.row.toRowW.promised := by w_witness2
end Mine
end
section
open PySem PySem.W PyProof.Rows
set_option maxRecDepth 10000
namespace Mine

/-- what the law's call finds: the text's own objects, the built-ins -/
structure BaseOk (c : Cx) : Prop where
  K : (hd.heap_1 c.w.params).In c.base
  lim : c.base.NoLimit
  blt : ∃ mb, c.base.Ns builtinsNs mb ∧ ∀ x : Str, x ≠ "__name__" → mb x = bootBuiltins x

noncomputable def globs (P : Params) : Array DictEntry := match (hd.heap_1 P).lookup 3 with
  | some ⟨_, _, .dict es _, _⟩ => es
  | _ => #[]
theorem globs_keys (P : Params) : StrKeys (globs P) := by
  have h : (globs P).toList.all (fun e => match e.key with | .str _ _ => true | _ => false) = true := by kernel_rfl
  intro e he
  have := List.all_eq_true.mp h e (by simpa using he)
  split at this
  · rename_i n t q; exact ⟨n, t, q⟩
  · cases this
section
variable {c : Cx}
theorem BaseOk.ns (B : BaseOk c) : c.base.Ns mainGlobals (nsFind (globs c.w.params)) := ⟨_, globs c.w.params, _, B.K 3 _ rfl, rfl, globs_keys _, fun _ => rfl⟩
theorem BaseOk.glb (B : BaseOk c) {x : Str} {v : Value} (h : nsFind (globs c.w.params) x = some v) : Glb c x v := ⟨_, B.ns, h⟩
theorem BaseOk.bltin (B : BaseOk c) {x : Str} {v : Value} (h : nsFind (globs c.w.params) x = Option.none) (hn : x ≠ "__name__") (hb : bootBuiltins x = some v) : Blt c x v :=
  let ⟨mb, h1, h2⟩ := B.blt; ⟨_, mb, B.ns, h, h1, (h2 x hn).trans hb⟩
theorem g_S_IFMT (B : BaseOk c) : Glb c (Str.ofString "S_IFMT") (.ref 21) := B.glb (by kernel_rfl)
theorem g_filemode_table (B : BaseOk c) : Glb c (Str.ofString "_filemode_table") (.ref 54) := B.glb (by kernel_rfl)
theorem g_filemode (B : BaseOk c) : Glb c (Str.ofString "filemode") (.ref 61) := B.glb (by kernel_rfl)
theorem g_heappop (B : BaseOk c) : Glb c (Str.ofString "heappop") (.ref 68) := B.glb (by kernel_rfl)
theorem g_heapreplace (B : BaseOk c) : Glb c (Str.ofString "heapreplace") (.ref 75) := B.glb (by kernel_rfl)
theorem g_heapify (B : BaseOk c) : Glb c (Str.ofString "heapify") (.ref 82) := B.glb (by kernel_rfl)
theorem g_heapreplace_max (B : BaseOk c) : Glb c (Str.ofString "_heapreplace_max") (.ref 89) := B.glb (by kernel_rfl)
theorem g_heapify_max (B : BaseOk c) : Glb c (Str.ofString "_heapify_max") (.ref 96) := B.glb (by kernel_rfl)
theorem g_siftdown (B : BaseOk c) : Glb c (Str.ofString "_siftdown") (.ref 103) := B.glb (by kernel_rfl)
theorem g_siftup (B : BaseOk c) : Glb c (Str.ofString "_siftup") (.ref 110) := B.glb (by kernel_rfl)
theorem g_siftdown_max (B : BaseOk c) : Glb c (Str.ofString "_siftdown_max") (.ref 117) := B.glb (by kernel_rfl)
theorem g_siftup_max (B : BaseOk c) : Glb c (Str.ofString "_siftup_max") (.ref 124) := B.glb (by kernel_rfl)
theorem g_nsmallest (B : BaseOk c) : Glb c (Str.ofString "nsmallest") (.ref 130) := B.glb (by kernel_rfl)
theorem g_nlargest (B : BaseOk c) : Glb c (Str.ofString "nlargest") (.ref 136) := B.glb (by kernel_rfl)
theorem g_median_low (B : BaseOk c) : Glb c (Str.ofString "median_low") (.ref 156) := B.glb (by kernel_rfl)
theorem g_median_high (B : BaseOk c) : Glb c (Str.ofString "median_high") (.ref 163) := B.glb (by kernel_rfl)
theorem g_quantiles (B : BaseOk c) : Glb c (Str.ofString "quantiles") (.ref 171) := B.glb (by kernel_rfl)
theorem g_law_number (B : BaseOk c) : Glb c (Str.ofString "_law_number") (.ref 178) := B.glb (by kernel_rfl)
theorem g_law_spans (B : BaseOk c) : Glb c (Str.ofString "_law_spans") (.ref 183) := B.glb (by kernel_rfl)
theorem g_law_signs (B : BaseOk c) : Glb c (Str.ofString "_law_signs") (.ref 190) := B.glb (by kernel_rfl)
theorem g_law_shown (B : BaseOk c) : Glb c (Str.ofString "_law_shown") (.ref 195) := B.glb (by kernel_rfl)
theorem g_law_levels (B : BaseOk c) : Glb c (Str.ofString "_law_levels") (.ref 200) := B.glb (by kernel_rfl)
theorem g_law (B : BaseOk c) : Glb c (Str.ofString "law") (.ref 205) := B.glb (by kernel_rfl)
theorem b_len (B : BaseOk c) : Blt c (Str.ofString "len") (.builtin "len") := B.bltin (by kernel_rfl) (by decide +kernel) PyProof.Rows.Boot.«len»
theorem b_range (B : BaseOk c) : Blt c (Str.ofString "range") (.type "range") := B.bltin (by kernel_rfl) (by decide +kernel) PyProof.Rows.Boot.«range»
theorem b_reversed (B : BaseOk c) : Blt c (Str.ofString "reversed") (.type "reversed") := B.bltin (by kernel_rfl) (by decide +kernel) PyProof.Rows.Boot.«reversed»
theorem b_min (B : BaseOk c) : Blt c (Str.ofString "min") (.builtin "min") := B.bltin (by kernel_rfl) (by decide +kernel) PyProof.Rows.Boot.«min»
theorem b_max (B : BaseOk c) : Blt c (Str.ofString "max") (.builtin "max") := B.bltin (by kernel_rfl) (by decide +kernel) PyProof.Rows.Boot.«max»
theorem b_sum (B : BaseOk c) : Blt c (Str.ofString "sum") (.builtin "sum") := B.bltin (by kernel_rfl) (by decide +kernel) PyProof.Rows.Boot.«sum»
theorem b_sorted (B : BaseOk c) : Blt c (Str.ofString "sorted") (.builtin "sorted") := B.bltin (by kernel_rfl) (by decide +kernel) PyProof.Rows.Boot.«sorted»
theorem b_abs (B : BaseOk c) : Blt c (Str.ofString "abs") (.builtin "abs") := B.bltin (by kernel_rfl) (by decide +kernel) PyProof.Rows.Boot.«abs»
theorem b_iter (B : BaseOk c) : Blt c (Str.ofString "iter") (.builtin "iter") := B.bltin (by kernel_rfl) (by decide +kernel) PyProof.Rows.Boot.«iter»
theorem b_zip (B : BaseOk c) : Blt c (Str.ofString "zip") (.type "zip") := B.bltin (by kernel_rfl) (by decide +kernel) PyProof.Rows.Boot.«zip»
theorem b_enumerate (B : BaseOk c) : Blt c (Str.ofString "enumerate") (.type "enumerate") := B.bltin (by kernel_rfl) (by decide +kernel) PyProof.Rows.Boot.«enumerate»
theorem b_divmod (B : BaseOk c) : Blt c (Str.ofString "divmod") (.builtin "divmod") := B.bltin (by kernel_rfl) (by decide +kernel) PyProof.Rows.Boot.«divmod»
theorem b_isinstance (B : BaseOk c) : Blt c (Str.ofString "isinstance") (.builtin "isinstance") := B.bltin (by kernel_rfl) (by decide +kernel) PyProof.Rows.Boot.«isinstance»
theorem b_int (B : BaseOk c) : Blt c (Str.ofString "int") (.type "int") := B.bltin (by kernel_rfl) (by decide +kernel) PyProof.Rows.Boot.«int»
end
end Mine
end
section
open PySem PySem.W PyProof.Rows
set_option maxRecDepth 10000
namespace Mine

noncomputable def AllGet (m : List (Str × D)) : List (Str × D) → Prop
  | [] => True
  | (x, d) :: r => get x m = some d ∧ AllGet m r
theorem AllGet.sle {m m' : List (Str × D)} {L : Addr → Option Cel} (h : AllGet m m') : Sle ⟨m, L⟩ ⟨m', L⟩ := by
  refine ⟨fun x d e => ?_, fun _ _ e => e⟩
  have : ∀ l, AllGet m l → get x l = some d → get x m = some d := by
    intro l
    induction l with
    | nil => intro _ e; simp [get] at e
    | cons p r ih =>
      intro hh e
      unfold get at e
      split at e
      · rename_i q; cases e; subst q; exact hh.1
      · exact ih hh.2 e
  exact this m' h e

theorem fn_cells {sc : List (Str × NameKind)} (h : sc.all (fun x => x.2 != .cell) = true) : ∀ x, sc.lookup x = some .cell → ∀ k, ((cellsFrom k sc []).lookup x).isSome = true := by
  intro x hx
  have := List.all_eq_true.mp h _ (mem_of_lookup hx)
  simp at this

theorem setL_same {L : Addr → Option Cel} {a : Addr} {x : Cel} : setL L a x a = some x := if_pos rfl
theorem setL_setL {L : Addr → Option Cel} {a : Addr} {x y : Cel} : setL (setL L a x) a y = setL L a y := by
  funext b; unfold setL; split <;> rfl
theorem setL_self {L : Addr → Option Cel} {a : Addr} {x : Cel} (h : L a = some x) : setL L a x = L := by
  funext b; unfold setL; split
  · rename_i q; subst q; exact h.symm
  · rfl

theorem waysN {b₀ : Bool} {X Y : Prop} (h1 : b₀ = false → X) (h2 : b₀ = true → Y) : ∃ b, D.bool b₀ = .bool b ∧ (if (!b) = true then X else Y) := by
  refine ⟨_, rfl, ?_⟩
  cases b₀ with
  | true => exact h2 rfl
  | false => exact h1 rfl
theorem if_ff {X Y : Prop} (h : Y) : if false = true then X else Y := by simpa using h
theorem if_tt {X Y : Prop} (h : X) : if true = true then X else Y := by simpa using h

/-! heaps of pairs -/
noncomputable abbrev pr (p : Int × Int) : D := .tup [.int p.1, .int p.2]
noncomputable def ltQ (p q : Int × Int) : Bool := ltP p.1 p.2 q.1 q.2
theorem AO.ltQ {c : Cx} {n : Nat} {env : Env} {σ : Sig} {p q : Int × Int} {Q : D → Sig → Prop} (h : Q (.bool (ltQ p q)) σ) : AO c n env (compareOp .Lt) Rep (pr p) (pr q) σ Q := AO.ltP h
theorem getD_of {xs : List (Int × Int)} {i : Nat} (h : i < xs.length) : (xs.map pr)[i]? = some (pr (xs.getD i (0, 0))) := by
  simp [h]

noncomputable def sdown (lt : Int × Int → Int × Int → Bool) (x : Int × Int) (start : Nat) (pos : Nat) (xs : List (Int × Int)) : List (Int × Int) :=
  if h : start < pos then
    let p := xs.getD ((pos - 1) / 2) (0, 0)
    if lt x p then sdown lt x start ((pos - 1) / 2) (xs.set pos p) else xs.set pos x
  else xs.set pos x
termination_by pos
decreasing_by omega

/-- the smaller child climbs until a leaf is reached: the list, the leaf -/
noncomputable def sup (lt : Int × Int → Int × Int → Bool) (pos : Nat) (xs : List (Int × Int)) : List (Int × Int) × Nat :=
  if h : 2 * pos + 1 < xs.length then
    let ch := if 2 * pos + 2 < xs.length && !lt (xs.getD (2 * pos + 1) (0, 0)) (xs.getD (2 * pos + 2) (0, 0)) then 2 * pos + 2 else 2 * pos + 1
    sup lt ch (xs.set pos (xs.getD ch (0, 0)))
  else (xs, pos)
termination_by xs.length - pos
decreasing_by simp only [List.length_set]; split <;> omega

theorem sdown_length (lt : Int × Int → Int × Int → Bool) (x : Int × Int) (start : Nat) : ∀ (pos : Nat) (xs : List (Int × Int)), (sdown lt x start pos xs).length = xs.length := by
  intro pos
  induction pos using Nat.strongRecOn with
  | _ pos ih =>
    intro xs
    rw [sdown]
    split
    · dsimp only
      split
      · rw [ih _ (by omega)]; simp
      · simp
    · simp
theorem sup_length (lt : Int × Int → Int × Int → Bool) : ∀ (k pos : Nat) (xs : List (Int × Int)), xs.length - pos = k → (sup lt pos xs).1.length = xs.length ∧ (pos < xs.length → (sup lt pos xs).2 < xs.length) := by
  intro k
  induction k using Nat.strongRecOn with
  | _ k ih =>
    intro pos xs hk
    rw [sup]
    split
    · rename_i h
      dsimp only
      generalize hch : (if (decide (2 * pos + 2 < xs.length) && !lt (xs.getD (2 * pos + 1) (0, 0)) (xs.getD (2 * pos + 2) (0, 0))) = true then 2 * pos + 2 else 2 * pos + 1) = ch
      have hb : pos < ch ∧ ch < xs.length := by
        subst hch
        split
        · rename_i q; simp at q; omega
        · omega
      have := ih (xs.length - ch) (by omega) ch (xs.set pos (xs.getD ch (0, 0))) (by simp)
      simp only [List.length_set] at this
      exact ⟨this.1, fun _ => this.2 hb.2⟩
    · exact ⟨rfl, fun h => h⟩

theorem sup_step (lt : Int × Int → Int × Int → Bool) {p ch : Nat} {ys : List (Int × Int)} (h : 2 * p + 1 < ys.length) (hc : ch = if 2 * p + 2 < ys.length && !lt (ys.getD (2 * p + 1) (0, 0)) (ys.getD (2 * p + 2) (0, 0)) then 2 * p + 2 else 2 * p + 1) :
    sup lt p ys = sup lt ch (ys.set p (ys.getD ch (0, 0))) := by
  rw [sup, dif_pos h]; dsimp only; rw [← hc]
theorem sup_stop (lt : Int × Int → Int × Int → Bool) {p : Nat} {ys : List (Int × Int)} (h : ¬ 2 * p + 1 < ys.length) : sup lt p ys = (ys, p) := by
  rw [sup, dif_neg h]

/-- _siftup: down to a leaf, then up again -/
noncomputable def siftup (lt : Int × Int → Int × Int → Bool) (xs : List (Int × Int)) (pos : Nat) : List (Int × Int) :=
  let x := xs.getD pos (0, 0)
  let r := sup lt pos xs
  sdown lt x pos r.2 (r.1.set r.2 x)
theorem siftup_length (lt : Int × Int → Int × Int → Bool) (xs : List (Int × Int)) (pos : Nat) : (siftup lt xs pos).length = xs.length := by
  unfold siftup
  dsimp only
  rw [sdown_length, List.length_set, (sup_length lt _ pos xs rfl).1]
end Mine
end
section
open PySem PySem.W PyProof.Rows
namespace Mine

noncomputable def kev {α : Type} (lt : Nat → Nat → Bool) : KasT α → α
  | .ret a => a
  | .ask i j k => kev lt (k (lt i j))
theorem kev_bind {α β : Type} (lt : Nat → Nat → Bool) (f : α → KasT β) : ∀ t : KasT α, kev lt (t.bind f) = kev lt (f (kev lt t))
  | .ret _ => rfl
  | .ask i j k => kev_bind lt f (k (lt i j))

structure SOrd (lt : Nat → Nat → Bool) (n : Nat) : Prop where
  irr : ∀ i, i < n → lt i i = false
  tr : ∀ i j k, i < n → j < n → k < n → lt i j = true → lt j k = true → lt i k = true
  tot : ∀ i j, i < n → j < n → i ≠ j → lt i j = false → lt j i = true

noncomputable abbrev at0 (p : Array Nat) (k : Nat) : Nat := (p[k]?).getD 0
theorem getD_at0 (p : Array Nat) (k : Nat) : p.getD k 0 = at0 p k := by simp [at0, Array.getD_eq_getD_getElem?]

structure PA (p : Array Nat) (n : Nat) : Prop where
  perm : p.Perm (List.range n).toArray
theorem PA.size {p : Array Nat} {n : Nat} (h : PA p n) : p.size = n := by have := h.perm.size_eq; simpa using this
theorem PA.nodup {p : Array Nat} {n : Nat} (h : PA p n) : p.toList.Nodup := by
  have := h.perm.toList
  exact (List.Perm.nodup_iff this).mpr (by simpa using List.nodup_range)
theorem PA.lt {p : Array Nat} {n : Nat} (h : PA p n) {k : Nat} (hk : k < n) : at0 p k < n := by
  have hs : k < p.size := by rw [h.size]; exact hk
  have hm : p[k] ∈ p.toList := by simp
  have := h.perm.toList.mem_iff.mp hm
  simp only [List.toList_toArray, List.mem_range] at this
  simpa [at0, hs] using this
theorem PA.ne {p : Array Nat} {n : Nat} (h : PA p n) {i j : Nat} (hi : i < n) (hj : j < n) (hij : i ≠ j) : at0 p i ≠ at0 p j := by
  have h1 : i < p.size := by rw [h.size]; exact hi
  have h2 : j < p.size := by rw [h.size]; exact hj
  intro e
  simp only [at0, h1, h2, getElem?_pos, Option.getD_some] at e
  have nd := List.pairwise_iff_getElem.mp h.nodup
  rcases Nat.lt_or_ge i j with q | q
  · exact nd i j (by simpa using h1) (by simpa using h2) q (by simpa using e)
  · exact nd j i (by simpa using h2) (by simpa using h1) (by (first | lia | omega)) (by simpa using e.symm)

noncomputable def Inc (lt : Nat → Nat → Bool) (p : Array Nat) (m : Nat) : Prop := ∀ i j, i < j → j < m → lt (at0 p i) (at0 p j) = true

section
variable {lt : Nat → Nat → Bool} {n : Nat}
theorem SOrd.asym (o : SOrd lt n) {i j : Nat} (hi : i < n) (hj : j < n) (h : lt i j = true) : lt j i = false := by
  cases q : lt j i with
  | false => rfl
  | true => have := o.tr i j i hi hj hi h q; rw [o.irr i hi] at this; cases this
theorem Inc.one {p : Array Nat} : Inc lt p 1 := fun i j h1 h2 => by (first | lia | omega)
theorem Inc.step (o : SOrd lt n) {p : Array Nat} (hp : PA p n) {m : Nat} (h : Inc lt p m) (hm : m < n) (h1 : 1 ≤ m) (hl : lt (at0 p m) (at0 p (m - 1)) = false) : Inc lt p (m + 1) := by
  have hlast : lt (at0 p (m - 1)) (at0 p m) = true := o.tot _ _ (hp.lt hm) (hp.lt (by (first | lia | omega))) (hp.ne hm (by (first | lia | omega)) (by (first | lia | omega))) hl
  intro i j hij hj
  rcases Nat.lt_or_ge j m with q | q
  · exact h i j hij q
  · have : j = m := by (first | lia | omega)
    subst this
    rcases Nat.lt_or_ge i (j - 1) with q | q
    · exact o.tr _ _ _ (hp.lt (by (first | lia | omega))) (hp.lt (by (first | lia | omega))) (hp.lt hm) (h i (j - 1) q (by (first | lia | omega))) hlast
    · have : i = j - 1 := by (first | lia | omega)
      subst this; exact hlast

theorem asc_ok (o : SOrd lt n) {p : Array Nat} (hp : PA p n) : ∀ (f m : Nat), 1 ≤ m → m + f ≤ n → Inc lt p m →
    m ≤ kev lt (kas_asc p f m) ∧ kev lt (kas_asc p f m) ≤ m + f ∧ Inc lt p (kev lt (kas_asc p f m)) ∧ (kev lt (kas_asc p f m) < m + f → lt (at0 p (kev lt (kas_asc p f m))) (at0 p (kev lt (kas_asc p f m) - 1)) = true)
  | 0, m, _, _, h => ⟨Nat.le_refl _, Nat.le_refl _, h, fun q => by simp [kas_asc, kev] at q⟩
  | f + 1, m, h1, hm, h => by
    unfold kas_asc
    simp only [kev, getD_at0]
    cases q : lt (at0 p m) (at0 p (m - 1)) with
    | true => simp only [if_true, kev]; exact ⟨Nat.le_refl _, by (first | lia | omega), h, fun _ => q⟩
    | false =>
      simp only [Bool.false_eq_true, if_false]
      obtain ⟨a, b, c, d⟩ := asc_ok o hp f (m + 1) (by (first | lia | omega)) (by (first | lia | omega)) (h.step o hp (by (first | lia | omega)) h1 q)
      exact ⟨by (first | lia | omega), by (first | lia | omega), c, fun q => d (by (first | lia | omega))⟩

noncomputable def Dec (lt : Nat → Nat → Bool) (p : Array Nat) (m : Nat) : Prop := ∀ i j, i < j → j < m → lt (at0 p j) (at0 p i) = true
theorem Dec.step (o : SOrd lt n) {p : Array Nat} (hp : PA p n) {m : Nat} (h : Dec lt p m) (hm : m < n) (h1 : 1 ≤ m) (hl : lt (at0 p m) (at0 p (m - 1)) = true) : Dec lt p (m + 1) := by
  intro i j hij hj
  rcases Nat.lt_or_ge j m with q | q
  · exact h i j hij q
  · have : j = m := by (first | lia | omega)
    subst this
    rcases Nat.lt_or_ge i (j - 1) with q | q
    · exact o.tr _ _ _ (hp.lt hm) (hp.lt (by (first | lia | omega))) (hp.lt (by (first | lia | omega))) hl (h i (j - 1) q (by (first | lia | omega)))
    · have : i = j - 1 := by (first | lia | omega)
      subst this; exact hl
theorem desc_ok (o : SOrd lt n) {p : Array Nat} (hp : PA p n) : ∀ (f m : Nat), 1 ≤ m → m + f ≤ n → Dec lt p m →
    ∃ m', kev lt (kas_desc f p m 0) = (p, m', 0) ∧ m ≤ m' ∧ m' ≤ n ∧ Dec lt p m'
  | 0, m, _, hm, h => ⟨m, rfl, Nat.le_refl _, by (first | lia | omega), h⟩
  | f + 1, m, h1, hm, h => by
    unfold kas_desc
    simp only [kev, getD_at0]
    cases q : lt (at0 p m) (at0 p (m - 1)) with
    | true =>
      simp only [if_true, gt_iff_lt, Nat.lt_irrefl, if_false]
      obtain ⟨m', a, b, c, d⟩ := desc_ok o hp f (m + 1) (by (first | lia | omega)) (by (first | lia | omega)) (h.step o hp (by (first | lia | omega)) h1 q)
      exact ⟨m', a, by (first | lia | omega), c, d⟩
    | false =>
      have h2 : lt (at0 p (m - 1)) (at0 p m) = true := o.tot _ _ (hp.lt (by (first | lia | omega))) (hp.lt (by (first | lia | omega))) (hp.ne (by (first | lia | omega)) (by (first | lia | omega)) (by (first | lia | omega))) q
      simp only [Bool.false_eq_true, if_false, kev, getD_at0, h2, if_true]
      exact ⟨m, rfl, Nat.le_refl _, by (first | lia | omega), h⟩

theorem rev_ok {p : Array Nat} (hp : PA p n) {m : Nat} (hm : m ≤ n) (h : Dec lt p m) : PA (kas_rev p 0 m) n ∧ Inc lt (kas_rev p 0 m) m := by
  refine ⟨⟨(mirror_perm ..).trans hp.perm⟩, fun i j hij hj => ?_⟩
  have hg : ∀ k, k < m → at0 (kas_rev p 0 m) k = at0 p (m - 1 - k) := fun k hk => by
    unfold at0 kas_rev
    rw [getElem?_mirror_all (by rw [hp.size]; exact hm), if_pos (by (first | lia | omega))]
    simp
  rw [hg i (by (first | lia | omega)), hg j hj]
  exact h (m - 1 - j) (m - 1 - i) (by (first | lia | omega)) (by (first | lia | omega))

theorem count_ok (o : SOrd lt n) (h2 : 2 ≤ n) {p : Array Nat} (hp : PA p n) : ∃ m p', kev lt (kas_count n p) = (m, p') ∧ 1 ≤ m ∧ m ≤ n ∧ PA p' n ∧ Inc lt p' m := by
  unfold kas_count
  rw [kev_bind]
  obtain ⟨a, b, c, d⟩ := asc_ok o hp (n - 1) 1 (by (first | lia | omega)) (by (first | lia | omega)) Inc.one
  generalize kev lt (kas_asc p (n - 1) 1) = m at *
  by_cases e : m = n
  · subst e
    rw [if_pos (by simp)]
    exact ⟨m, p, rfl, a, Nat.le_refl _, hp, c⟩
  · rw [if_neg (by simpa using e)]
    by_cases g : m > 1
    · rw [if_pos g]
      simp only [kev, getD_at0]
      have : lt (at0 p 0) (at0 p (m - 1)) = true := c 0 (m - 1) (by (first | lia | omega)) (by (first | lia | omega))
      rw [this, if_pos rfl]
      exact ⟨m, p, rfl, a, by (first | lia | omega), hp, c⟩
    · rw [if_neg g]
      have em : m = 1 := by (first | lia | omega)
      subst em
      have hd := d (by (first | lia | omega))
      unfold kas_descPart
      rw [kev_bind]
      have hD : Dec lt p 2 := fun i j hij hj => by
        have h1 : i = 0 := by (first | lia | omega)
        have h2 : j = 1 := by (first | lia | omega)
        subst h1 h2; exact hd
      obtain ⟨m', e1, e2, e3, e4⟩ := desc_ok o hp (n - (1 + 1)) (1 + 1) (by (first | lia | omega)) (by (first | lia | omega)) hD
      rw [e1]
      simp only [gt_iff_lt, Nat.lt_irrefl, if_false]
      unfold kas_tail3
      rw [kev_bind]
      obtain ⟨r1, r2⟩ := rev_ok hp e3 e4
      obtain ⟨a', b', c', _⟩ := asc_ok o r1 (n - m') m' (by (first | lia | omega)) (by (first | lia | omega)) r2
      exact ⟨_, _, rfl, by (first | lia | omega), by (first | lia | omega), r1, c'⟩

theorem place_ok (o : SOrd lt n) {p : Array Nat} (hp : PA p n) {k : Nat} (hk : k < n) (hinc : Inc lt p k) : ∀ (f l r : Nat), r - l ≤ f → l ≤ r → r ≤ k → (∀ i, i < l → lt (at0 p i) (at0 p k) = true) → (∀ i, r ≤ i → i < k → lt (at0 p k) (at0 p i) = true) →
    ∃ l', kev lt (kas_place p k f l r) = l' ∧ l' ≤ k ∧ (∀ i, i < l' → lt (at0 p i) (at0 p k) = true) ∧ (∀ i, l' ≤ i → i < k → lt (at0 p k) (at0 p i) = true)
  | 0, l, r, hf, hl, hr, h1, h2 => ⟨l, rfl, by (first | lia | omega), h1, fun i hi hik => h2 i (by (first | lia | omega)) hik⟩
  | f + 1, l, r, hf, hl, hr, h1, h2 => by
    unfold kas_place
    by_cases q : l ≥ r
    · rw [if_pos q]
      exact ⟨l, rfl, by (first | lia | omega), h1, fun i hi hik => h2 i (by (first | lia | omega)) hik⟩
    · rw [if_neg q]
      simp only [kev, getD_at0]
      cases c : lt (at0 p k) (at0 p ((l + r) / 2)) with
      | true =>
        simp only [if_true]
        refine place_ok o hp hk hinc f l ((l + r) / 2) (by (first | lia | omega)) (by (first | lia | omega)) (by (first | lia | omega)) h1 fun i hi hik => ?_
        rcases Nat.lt_or_ge ((l + r) / 2) i with q' | q'
        · exact o.tr _ _ _ (hp.lt hk) (hp.lt (by (first | lia | omega))) (hp.lt (by (first | lia | omega))) c (hinc _ _ q' hik)
        · have : i = (l + r) / 2 := by (first | lia | omega)
          subst this; exact c
      | false =>
        simp only [Bool.false_eq_true, if_false]
        have hm : lt (at0 p ((l + r) / 2)) (at0 p k) = true := o.tot _ _ (hp.lt hk) (hp.lt (by (first | lia | omega))) (hp.ne hk (by (first | lia | omega)) (by (first | lia | omega))) c
        refine place_ok o hp hk hinc f ((l + r) / 2 + 1) r (by (first | lia | omega)) (by (first | lia | omega)) hr (fun i hi => ?_) h2
        rcases Nat.lt_or_ge i ((l + r) / 2) with q' | q'
        · exact o.tr _ _ _ (hp.lt (by (first | lia | omega))) (hp.lt (by (first | lia | omega))) (hp.lt hk) (hinc _ _ q' (by (first | lia | omega))) hm
        · have : i = (l + r) / 2 := by (first | lia | omega)
          subst this; exact hm

theorem bin_ok (o : SOrd lt n) : ∀ (f : Nat) (p : Array Nat) (k : Nat), PA p n → Inc lt p k → k + f = n → PA (kev lt (kas_bin f p k)) n ∧ Inc lt (kev lt (kas_bin f p k)) n
  | 0, p, k, hp, h, hk => by
    have : k = n := by (first | lia | omega)
    subst this; exact ⟨hp, h⟩
  | f + 1, p, k, hp, h, hk => by
    unfold kas_bin
    rw [kev_bind]
    obtain ⟨l, e, hl, h1, h2⟩ := place_ok o hp (k := k) (by (first | lia | omega)) h k 0 k (by (first | lia | omega)) (by (first | lia | omega)) (Nat.le_refl _) (fun i hi => by (first | lia | omega)) (fun i hi hik => by (first | lia | omega))
    rw [e]
    have hp' : PA (bubble p k (k - l)) n := ⟨(bubble_perm ..).trans hp.perm⟩
    have hg : ∀ i, at0 (bubble p k (k - l)) i = if i = l then at0 p k else if l < i ∧ i ≤ k then at0 p (i - 1) else at0 p i := fun i => by
      unfold at0
      rw [getElem?_bubble (by rw [hp.size]; (first | lia | omega)) _ (by (first | lia | omega))]
      rw [show k - (k - l) = l from by (first | lia | omega)]
      split
      · rfl
      · split <;> rfl
    refine bin_ok o f _ (k + 1) hp' (fun i j hij hj => ?_) (by (first | lia | omega))
    rw [hg i, hg j]
    by_cases a : i = l
    · rw [if_pos a, if_neg (by (first | lia | omega)), if_pos (by (first | lia | omega))]
      exact h2 (j - 1) (by (first | lia | omega)) (by (first | lia | omega))
    · rw [if_neg a]
      by_cases b : l < i ∧ i ≤ k
      · rw [if_pos b, if_neg (by (first | lia | omega)), if_pos (by (first | lia | omega))]
        exact h (i - 1) (j - 1) (by (first | lia | omega)) (by (first | lia | omega))
      · rw [if_neg b]
        by_cases d : j = l
        · rw [if_pos d]
          exact h1 i (by (first | lia | omega))
        · rw [if_neg d]
          by_cases g : l < j ∧ j ≤ k
          · rw [if_pos g]
            rcases Nat.lt_or_ge i (j - 1) with q | q
            · exact h i (j - 1) q (by (first | lia | omega))
            · (first | lia | omega)
          · rw [if_neg g]; exact h i j hij (by (first | lia | omega))

theorem sort_ok (o : SOrd lt n) (h2 : 2 ≤ n) : PA (kev lt (kas_sort n)) n ∧ Inc lt (kev lt (kas_sort n)) n := by
  unfold kas_sort
  rw [kev_bind]
  obtain ⟨m, p, e, h1, hm, hp, hi⟩ := count_ok o h2 (p := (List.range n).toArray) ⟨.refl _⟩
  rw [e]
  dsimp only
  by_cases q : m < n
  · rw [if_pos q, Nat.max_eq_left h1]
    exact bin_ok o _ p m hp hi (by (first | lia | omega))
  · rw [if_neg q]
    have : m = n := by (first | lia | omega)
    subst this
    exact ⟨hp, hi⟩

/-- the questions on the way lie within bounds -/
noncomputable def KasIn {α : Type} (lt : Nat → Nat → Bool) (n : Nat) : KasT α → Prop
  | .ret _ => True
  | .ask i j k => i < n ∧ j < n ∧ KasIn lt n (k (lt i j))
theorem KasIn.bind {α β : Type} {f : α → KasT β} : ∀ {t : KasT α}, KasIn lt n t → KasIn lt n (f (kev lt t)) → KasIn lt n (t.bind f)
  | .ret _, _, h => h
  | .ask _ _ k, h, h' => ⟨h.1, h.2.1, KasIn.bind (t := k _) h.2.2 h'⟩
theorem asc_in {p : Array Nat} (hp : PA p n) : ∀ (f m : Nat), 1 ≤ m → m + f ≤ n → KasIn lt n (kas_asc p f m)
  | 0, _, _, _ => trivial
  | f + 1, m, h1, hm => by
    unfold kas_asc
    simp only [getD_at0]
    refine ⟨hp.lt (by (first | lia | omega)), hp.lt (by (first | lia | omega)), ?_⟩
    dsimp only
    split
    · exact trivial
    · exact asc_in hp f (m + 1) (by (first | lia | omega)) (by (first | lia | omega))
theorem desc_in (o : SOrd lt n) {p : Array Nat} (hp : PA p n) : ∀ (f m : Nat), 1 ≤ m → m + f ≤ n → KasIn lt n (kas_desc f p m 0)
  | 0, _, _, _ => trivial
  | f + 1, m, h1, hm => by
    unfold kas_desc
    simp only [getD_at0]
    refine ⟨hp.lt (by (first | lia | omega)), hp.lt (by (first | lia | omega)), ?_⟩
    cases q : lt (at0 p m) (at0 p (m - 1)) with
    | true =>
      simp only [if_true, gt_iff_lt, Nat.lt_irrefl, if_false]
      exact desc_in o hp f (m + 1) (by (first | lia | omega)) (by (first | lia | omega))
    | false =>
      have h2 : lt (at0 p (m - 1)) (at0 p m) = true := o.tot _ _ (hp.lt (by (first | lia | omega))) (hp.lt (by (first | lia | omega))) (hp.ne (by (first | lia | omega)) (by (first | lia | omega)) (by (first | lia | omega))) q
      simp only [Bool.false_eq_true, if_false]
      refine ⟨hp.lt (by (first | lia | omega)), hp.lt (by (first | lia | omega)), ?_⟩
      simp only [h2, if_true]
      exact trivial
theorem place_in {p : Array Nat} (hp : PA p n) {k : Nat} (hk : k < n) : ∀ (f l r : Nat), r ≤ k → KasIn lt n (kas_place p k f l r)
  | 0, _, _, _ => trivial
  | f + 1, l, r, hr => by
    unfold kas_place
    by_cases q : l ≥ r
    · rw [if_pos q]; exact trivial
    · rw [if_neg q]
      simp only [getD_at0]
      refine ⟨hp.lt hk, hp.lt (by (first | lia | omega)), ?_⟩
      dsimp only
      split
      · exact place_in hp hk f _ _ (by (first | lia | omega))
      · exact place_in hp hk f _ _ hr
theorem bin_in : ∀ (f : Nat) (p : Array Nat) (k : Nat), PA p n → k + f = n → KasIn lt n (kas_bin f p k)
  | 0, _, _, _, _ => trivial
  | f + 1, p, k, hp, hk => by
    unfold kas_bin
    exact KasIn.bind (place_in hp (by (first | lia | omega)) _ _ _ (Nat.le_refl _)) (bin_in f _ (k + 1) ⟨(bubble_perm ..).trans hp.perm⟩ (by (first | lia | omega)))
theorem count_in (o : SOrd lt n) (h2 : 2 ≤ n) {p : Array Nat} (hp : PA p n) : KasIn lt n (kas_count n p) := by
  unfold kas_count
  refine KasIn.bind (asc_in hp _ _ (by (first | lia | omega)) (by (first | lia | omega))) ?_
  obtain ⟨a, b, c, d⟩ := asc_ok o hp (n - 1) 1 (by (first | lia | omega)) (by (first | lia | omega)) Inc.one
  generalize kev lt (kas_asc p (n - 1) 1) = m at *
  by_cases e : m = n
  · subst e
    rw [if_pos (by simp)]
    exact trivial
  · rw [if_neg (by simpa using e)]
    by_cases g : m > 1
    · rw [if_pos g]
      simp only [getD_at0]
      refine ⟨hp.lt (by (first | lia | omega)), hp.lt (by (first | lia | omega)), ?_⟩
      have : lt (at0 p 0) (at0 p (m - 1)) = true := c 0 (m - 1) (by (first | lia | omega)) (by (first | lia | omega))
      rw [this]
      exact trivial
    · rw [if_neg g]
      have em : m = 1 := by (first | lia | omega)
      subst em
      have hd := d (by (first | lia | omega))
      unfold kas_descPart
      refine KasIn.bind (desc_in o hp _ _ (by (first | lia | omega)) (by (first | lia | omega))) ?_
      have hD : Dec lt p 2 := fun i j hij hj => by
        have h1 : i = 0 := by (first | lia | omega)
        have h2 : j = 1 := by (first | lia | omega)
        subst h1 h2; exact hd
      obtain ⟨m', e1, e2, e3, e4⟩ := desc_ok o hp (n - (1 + 1)) (1 + 1) (by (first | lia | omega)) (by (first | lia | omega)) hD
      rw [e1]
      simp only [gt_iff_lt, Nat.lt_irrefl, if_false]
      unfold kas_tail3
      obtain ⟨r1, r2⟩ := rev_ok hp e3 e4
      exact KasIn.bind (asc_in r1 _ _ (by (first | lia | omega)) (by (first | lia | omega))) trivial
theorem sort_in (o : SOrd lt n) (h2 : 2 ≤ n) : KasIn lt n (kas_sort n) := by
  unfold kas_sort
  refine KasIn.bind (count_in o h2 ⟨.refl _⟩) ?_
  obtain ⟨m, p, e, h1, hm, hp, hi⟩ := count_ok o h2 (p := (List.range n).toArray) ⟨.refl _⟩
  rw [e]
  dsimp only
  by_cases q : m < n
  · rw [if_pos q, Nat.max_eq_left h1]
    exact bin_in _ p m hp (by (first | lia | omega))
  · rw [if_neg q]; exact trivial
end
end Mine
end
section
open PySem PySem.W PyProof.Rows PySem.SeqAt
set_option maxRecDepth 100000
namespace Mine

/-! questions between pairs -/
theorem repL_pr {Z : Zone} {xs : List (Int × Int)} {vs : List Value} (h : RepL Z (xs.map pr) vs) {i : Nat} (hi : i < xs.length) :
    ∃ a o t u k, vs.getD i .none = .ref a ∧ Z a = some (true, o) ∧ o.cls = .type "tuple" ∧ o.data = .seq #[.int (xs.getD i (0, 0)).1 t, .int (xs.getD i (0, 0)).2 u] k := by
  obtain ⟨v, h1, h2⟩ := h.get (i := i) (d := pr (xs.getD i (0, 0))) (getD_of hi)
  simp only [Rep, RepL] at h2
  obtain ⟨a, o, ws, rfl, hz, ⟨ht, m, hd⟩, _, _, rfl, ⟨t, rfl⟩, _, _, rfl, ⟨u, rfl⟩, rfl⟩ := h2
  exact ⟨a, o, t, u, m, by simp [h1], hz, ht, hd⟩

section
variable {prog : Program} {w : World} {A : Around} {E : Value → Shared → Prop} {s : Shared} {Z : Zone} {xs : List (Int × Int)} {vs : List Value}
theorem ask_pairs (hv : RepL Z (xs.map pr) vs) (hz : ∀ b p, Z b = some p → s.heap.get? b = some p.2) {i j : Nat} (hi : i < xs.length) (hj : j < xs.length) {C : Bool → Shared → Prop} (h : C (ltQ (xs.getD i (0, 0)) (xs.getD j (0, 0))) s) :
    kas_ask prog w A (tuples' true) vs i j C s := by
  obtain ⟨a, o, t, u, k, e1, e2, e3, e4⟩ := repL_pr hv hi
  obtain ⟨a', o', t', u', k', f1, f2, f3, f4⟩ := repL_pr hv hj
  unfold kas_ask
  rw [e1, f1]
  refine kat_lt (hz _ _ e2) e4 (hz _ _ f2) f4 ?_
  unfold ltQ ltP at h
  refine kat_cons (wpAny_eqBool_int ?_)
  cases q1 : ((xs.getD i (0, 0)).1 == (xs.getD j (0, 0)).1) with
  | false =>
    rw [q1] at h
    simp only [Bool.false_eq_true, if_false] at h
    exact kat_no (oneLt_int h)
  | true =>
    rw [q1] at h
    simp only [if_true] at h
    refine kat_yes (kat_cons (wpAny_eqBool_int ?_))
    cases q2 : ((xs.getD i (0, 0)).2 == (xs.getD j (0, 0)).2) with
    | false => exact kat_no (kat_one _ _ (PyProof.Rows.lt_int h))
    | true =>
      refine kat_yes (kat_nil ?_)
      have e : (xs.getD i (0, 0)).2 = (xs.getD j (0, 0)).2 := by simpa using q2
      rw [e] at h
      simpa using h
theorem wp_kev {κ : SortKind} {α : Type} {n : Nat} (lt : Nat → Nat → Bool) (hlt : ∀ i j C, i < n → j < n → C (lt i j) s → kas_ask prog w A κ vs i j C s) {Q : α → Shared → Prop} :
    ∀ (t : KasT α), KasIn lt n t → Q (kev lt t) s → t.kasWp (kas_ask prog w A κ vs) Q s
  | .ret _, _, h => h
  | .ask i j k, hi, h => hlt i j _ hi.1 hi.2.1 (wp_kev lt hlt (k (lt i j)) hi.2.2 h)

theorem ltP_irr (p : Int × Int) : ltQ p p = false := by simp [ltQ, ltP]
theorem ltP_tr {p q r : Int × Int} (h1 : ltQ p q = true) (h2 : ltQ q r = true) : ltQ p r = true := by
  unfold ltQ ltP at *
  by_cases a : p.1 = q.1 <;> by_cases b : q.1 = r.1 <;> by_cases d : p.1 = r.1 <;> simp_all <;> (first | lia | omega)
theorem ltP_tot {p q : Int × Int} (h : p ≠ q) (h1 : ltQ p q = false) : ltQ q p = true := by
  unfold ltQ ltP at *
  by_cases a : p.1 = q.1
  · have a' : (q.1 == p.1) = true := by simp [a]
    have b : p.2 ≠ q.2 := fun e => h (Prod.ext a e)
    simp only [a, beq_self_eq_true, if_true, decide_eq_false_iff_not, Int.not_lt] at h1
    rw [a', if_pos rfl, decide_eq_true_eq]; (first | lia | omega)
  · have a' : (q.1 == p.1) = false := by simp; exact fun e => a e.symm
    have a'' : (p.1 == q.1) = false := by simpa using a
    simp only [a'', Bool.false_eq_true, if_false, decide_eq_false_iff_not, Int.not_lt] at h1
    simp only [a', Bool.false_eq_true, if_false, decide_eq_true_eq]; (first | lia | omega)
theorem pairs_ord (hn : xs.Nodup) : SOrd (fun i j => ltQ (xs.getD i (0, 0)) (xs.getD j (0, 0))) xs.length where
  irr := fun i _ => ltP_irr _
  tr := fun i j k _ _ _ h1 h2 => ltP_tr h1 h2
  tot := fun i j hi hj hij h => ltP_tot (fun e => by
    have nd := List.pairwise_iff_getElem.mp hn
    have e' : xs[i] = xs[j] := by simpa [hi, hj] using e
    rcases Nat.lt_or_ge i j with q | q
    · exact nd i j hi hj q e'
    · exact nd j i hj hi (by (first | lia | omega)) e'.symm) h

/-- the sorted pairs -/
noncomputable def outOf (xs : List (Int × Int)) : List (Int × Int) := ((kev (fun i j => ltQ (xs.getD i (0, 0)) (xs.getD j (0, 0))) (kas_sort xs.length)).toList).map fun i => xs.getD i (0, 0)
theorem outOf_ok (hn : xs.Nodup) (h2 : 2 ≤ xs.length) : (outOf xs).Perm xs ∧ (outOf xs).Pairwise (fun p q => ltQ p q = true) := by
  obtain ⟨hp, hi⟩ := sort_ok (pairs_ord hn) h2
  constructor
  · have h1 := hp.perm.toList
    have h3 : (outOf xs).Perm ((List.range xs.length).map fun i => xs.getD i (0, 0)) := h1.map _
    refine h3.trans (List.Perm.of_eq ?_)
    apply List.ext_getElem?
    intro i
    rcases Nat.lt_or_ge i xs.length with q | q
    · simp [q]
    · simp [q]
  · rw [List.pairwise_iff_getElem]
    intro i j h1 h3 hij
    unfold outOf at h1 h3 ⊢
    simp only [List.length_map, Array.length_toList] at h1 h3
    have := hi i j hij (by rw [hp.size] at h3; exact h3)
    generalize kev (fun i j => ltQ (xs.getD i (0, 0)) (xs.getD j (0, 0))) (kas_sort xs.length) = p at *
    simp only [at0, getElem?_pos p i h1, getElem?_pos p j h3, Option.getD_some] at this
    simpa using this

theorem kind_pairs (hv : RepL Z (xs.map pr) vs) (hz : ∀ b p, Z b = some p → s.heap.get? b = some p.2) (h2 : 0 < xs.length) {Q : SortKind → Shared → Prop} (h : Q (tuples' true) s) : wpAny (model prog w) A (keyKind' vs.toArray) Q E s := by
  have key : ∀ (xs : List (Int × Int)) (vs : List Value), RepL Z (xs.map pr) vs → ∃ fs, KatTups s.heap vs fs ∧ fs.length = xs.length ∧ ∀ v ∈ fs, ∃ i t, v = .int i t := by
    intro xs
    induction xs with
    | nil => intro vs h; simp only [List.map_nil, RepL] at h; subst h; exact ⟨[], trivial, rfl, fun v hv => by cases hv⟩
    | cons x r ih =>
      intro vs h
      simp only [List.map_cons, RepL, Rep] at h
      obtain ⟨_, vs', rfl, ⟨a, o, ws, rfl, hz', ⟨ht, m, hd⟩, _, _, rfl, ⟨t, rfl⟩, _, _, rfl, ⟨u, rfl⟩, rfl⟩, h⟩ := h
      obtain ⟨fs, f1, f2, f3⟩ := ih vs' h
      refine ⟨.int x.1 t :: fs, KatTups.cons (hz _ _ hz') ht hd rfl f1, by simp [f2], fun v hv => ?_⟩
      rcases List.mem_cons.mp hv with rfl | hv
      · exact ⟨_, _, rfl⟩
      · exact f3 v hv
  obtain ⟨fs, f1, f2, f3⟩ := key xs vs hv
  exact kat_kind (T := .type "int") f1 (by (first | lia | omega)) (fun v hv => let ⟨i, t, e⟩ := f3 v hv; by subst e; exact Looks.of_pure rfl) (by decide) h
end

section
variable {c : Cx} {n : Nat} {env : Env} {σ : Sig} {Z : Zone} {s : Shared} {A : Around} {E : Value → Shared → Prop} {xs : List (Int × Int)} {vs : List Value}
theorem out_rep (hv : RepL Z (xs.map pr) vs) (p : List Nat) (hp : ∀ i ∈ p, i < xs.length) : RepL Z ((p.map fun i => xs.getD i (0, 0)).map pr) (p.map fun i => vs.getD i .none) := by
  induction p with
  | nil => exact RepL.nil
  | cons i p ih =>
    have hi : i < xs.length := hp i List.mem_cons_self
    obtain ⟨v, h1, h2⟩ := hv.get (i := i) (d := pr (xs.getD i (0, 0))) (getD_of hi)
    refine RepL.cons ?_ (ih fun j hj => hp j (List.mem_cons_of_mem _ hj))
    show Rep Z (pr (xs.getD i (0, 0))) (vs.getD i Value.none)
    rw [show vs.getD i Value.none = v by simp [h1]]
    exact h2
/-- list.sort() upon pairs -/
theorem sort_tree {a : Addr} {m : Nat} {P : PySem.Fin → Shared → Prop} (r : Rel c env Z σ s) (hl : σ.L a = some (.list (xs.map pr))) (ho : s.heap.get? a = some (lstO vs m)) (hv : RepL Z (xs.map pr) vs) (hn : xs.Nodup) (h2 : 2 ≤ xs.length) (h64 : xs.length < 64)
    (h : ∀ s', Rel c env Z (σ.cel a (.list ((outOf xs).map pr))) s' → P (.done (.ret .none)) s') : wpAny (model c.prog c.w) A (Builtin.«list.sort» ⟨[.ref a], []⟩) P E s := by
  have hlen : vs.length = xs.length := by rw [hv.length, List.length_map]
  rw [list_sort_plain]
  refine wpAny_bind (listItems_at ho rfl ?_)
  have hsz : vs.toArray.size ≤ sizeLine := Nat.le_trans (by simp; (first | lia | omega)) thousand
  refine wpAny_bind (listUpdate_at ho rfl ?_ hsz (Nat.zero_le _))
  obtain ⟨e1, ho1⟩ : ∃ e1, (s.heap.update a (Obj.mapSeq fun _ => (#[] : Array Value))).get? a = some (seqObj "list" #[] e1) := ⟨_, get?_update_seq ho fun _ => #[]⟩
  have s1 := Heap.SameBut.update s.heap a (Obj.mapSeq fun _ => (#[] : Array Value))
  have r1 := r.cel hl s1 ho1 (x := .list []) ⟨[], e1, rfl, RepL.nil⟩ s.toks
  refine wpAny_bind (seqEpoch_at ho1 rfl ?_)
  refine wpAny_bind (wpAny_newTuple ?_ (by simpa using hsz))
  refine wpAny_bind (wpAny_newList ?_ (Nat.zero_le _))
  refine wpAny_holding ?_
  have r2 : Rel c env Z (σ.cel a (.list [])) { s with heap := ((s.heap.update a (Obj.mapSeq fun _ => (#[] : Array Value))).push (seqObj "tuple" vs.toArray 0)).push (seqObj "list" #[] 0) } :=
    r1.keeps (tk := s.toks) fun b o e => Heap.get?_push_of_some _ (Heap.get?_push_of_some _ e)
  show wpAny _ A _ P E { s with heap := ((s.heap.update a (Obj.mapSeq fun _ => (#[] : Array Value))).push (seqObj "tuple" vs.toArray 0)).push (seqObj "list" #[] 0) }
  dsimp only
  have hn2 : ¬ vs.toArray.size < 2 := by rw [List.size_toArray]; (first | lia | omega)
  rw [if_neg hn2, if_neg hn2]
  have ho6 : (((s.heap.update a (Obj.mapSeq fun _ => (#[] : Array Value))).push (seqObj "tuple" vs.toArray 0)).push (seqObj "list" #[] 0)).get? a = some (seqObj "list" #[] e1) := Heap.get?_push_of_some _ (Heap.get?_push_of_some _ ho1)
  refine wpAny_bind (kind_pairs hv r2.g.zone (by (first | lia | omega)) ?_)
  obtain ⟨hp, hi⟩ := sort_ok (pairs_ord hn) h2
  refine wpAny_bind (wpAny_mono (kat_run (ks := vs) (vs := vs) (κ := tuples' true) (Q := fun st' s' => ∃ p : Array Nat, p.size = vs.length ∧ arrOf st' = p.map (kas_item (vs.toArray.zip vs.toArray)) ∧ failedOf st' = Option.none ∧ p = kev (fun i j => ltQ (xs.getD i (0, 0)) (xs.getD j (0, 0))) (kas_sort xs.length) ∧ s' = { s with heap := ((s.heap.update a (Obj.mapSeq fun _ => (#[] : Array Value))).push (seqObj "tuple" vs.toArray 0)).push (seqObj "list" #[] 0) })
    rfl (by (first | lia | omega)) (by (first | lia | omega)) (fun p' st' s' a1 a2 a3 a4 => ⟨p', a1, a2, a3, a4⟩) ?_) ?_ fun _ _ e => e)
  · rw [hlen]
    exact wp_kev (n := xs.length) _ (fun i j C hi hj hc => ask_pairs hv r2.g.zone hi hj hc) _ (sort_in (pairs_ord hn) h2) ⟨rfl, rfl⟩
  rintro ⟨⟨⟩, st'⟩ s' ⟨p, hpz, har, hf, hpe, rfl⟩
  dsimp only
  have hout := kat_snds (ks := vs) (vs := vs) rfl har
  rw [hout]
  have hpin : ∀ i ∈ p.toList, i < xs.length := fun i hi => by
    rw [hpe] at hi
    have := hp.perm.toList.mem_iff.mp hi
    simpa using this
  refine wpAny_bind (seqEpoch_at ho6 rfl ?_)
  have hsz2 : (List.toArray (p.toList.map fun i => vs.getD i Value.none)).size ≤ sizeLine + 1 := by
    rw [List.size_toArray, List.length_map, Array.length_toList, hpz]
    exact Nat.le_trans (by (first | lia | omega)) (Nat.le_succ_of_le thousand)
  refine wpAny_bind (listUpdate_at ho6 rfl ?_ (Nat.zero_le _) hsz2)
  rw [hf]
  simp only [bne_self_eq_false, Bool.false_eq_true, if_false]
  refine wpAny_pure (h _ ?_)
  have hl2 : (σ.cel a (.list [])).L a = some (.list []) := by simp only [Sig.cel, setL, if_true]
  have r3 := r2.cel hl2 (Heap.SameBut.update _ a (Obj.mapSeq fun _ => List.toArray (p.toList.map fun i => vs.getD i Value.none))) (get?_update_seq ho6 fun _ => List.toArray (p.toList.map fun i => vs.getD i Value.none))
    (x := .list ((outOf xs).map pr)) ⟨_, _, rfl, by have := out_rep hv p.toList hpin; rw [hpe] at this ⊢; exact this⟩ s.toks
  have : (σ.cel a (.list [])).cel a (.list ((outOf xs).map pr)) = σ.cel a (.list ((outOf xs).map pr)) := by simp only [Sig.cel, setL_setL]
  rw [this] at r3
  exact r3
/-- list.sort(reverse=True) upon pairs -/
theorem sort_treeR {a : Addr} {m : Nat} {P : PySem.Fin → Shared → Prop} (r : Rel c env Z σ s) (hl : σ.L a = some (.list (xs.map pr))) (ho : s.heap.get? a = some (lstO vs m)) (hv : RepL Z (xs.map pr) vs) (hn : xs.Nodup) (h2 : 2 ≤ xs.length) (h64 : xs.length < 64)
    (h : ∀ s', Rel c env Z (σ.cel a (.list (((outOf xs.reverse).reverse).map pr))) s' → P (.done (.ret .none)) s') : wpAny (model c.prog c.w) A (Builtin.«list.sort» ⟨[.ref a], [(Str.ofString "reverse", .bool true)]⟩) P E s := by
  have hvr : RepL Z (xs.reverse.map pr) vs.reverse := by rw [List.map_reverse]; exact hv.reverse
  have hnr : xs.reverse.Nodup := List.pairwise_reverse.mpr (List.Pairwise.imp (fun h => Ne.symm h) hn)
  have hlr : xs.reverse.length = xs.length := List.length_reverse
  have hlen : vs.length = xs.length := by rw [hv.length, List.length_map]
  rw [list_sort_rev]
  refine wpAny_bind (listItems_at ho rfl ?_)
  have hsz : vs.toArray.size ≤ sizeLine := Nat.le_trans (by simp; (first | lia | omega)) thousand
  refine wpAny_bind (listUpdate_at ho rfl ?_ hsz (Nat.zero_le _))
  obtain ⟨e1, ho1⟩ : ∃ e1, (s.heap.update a (Obj.mapSeq fun _ => (#[] : Array Value))).get? a = some (seqObj "list" #[] e1) := ⟨_, get?_update_seq ho fun _ => #[]⟩
  have s1 := Heap.SameBut.update s.heap a (Obj.mapSeq fun _ => (#[] : Array Value))
  have r1 := r.cel hl s1 ho1 (x := .list []) ⟨[], e1, rfl, RepL.nil⟩ s.toks
  refine wpAny_bind (seqEpoch_at ho1 rfl ?_)
  refine wpAny_bind (wpAny_newTuple ?_ (by simpa using hsz))
  refine wpAny_bind (wpAny_newList ?_ (Nat.zero_le _))
  refine wpAny_holding ?_
  have r2 : Rel c env Z (σ.cel a (.list [])) { s with heap := ((s.heap.update a (Obj.mapSeq fun _ => (#[] : Array Value))).push (seqObj "tuple" vs.toArray 0)).push (seqObj "list" #[] 0) } :=
    r1.keeps (tk := s.toks) fun b o e => Heap.get?_push_of_some _ (Heap.get?_push_of_some _ e)
  show wpAny _ A _ P E { s with heap := ((s.heap.update a (Obj.mapSeq fun _ => (#[] : Array Value))).push (seqObj "tuple" vs.toArray 0)).push (seqObj "list" #[] 0) }
  dsimp only
  have hn2 : ¬ vs.toArray.size < 2 := by rw [List.size_toArray]; (first | lia | omega)
  rw [if_neg hn2, if_neg hn2, if_pos rfl]
  refine wpAny_bind (wpAny_rule ?_)
  have ho6 : (((s.heap.update a (Obj.mapSeq fun _ => (#[] : Array Value))).push (seqObj "tuple" vs.toArray 0)).push (seqObj "list" #[] 0)).get? a = some (seqObj "list" #[] e1) := Heap.get?_push_of_some _ (Heap.get?_push_of_some _ ho1)
  refine wpAny_bind (kind_pairs hv r2.g.zone (by (first | lia | omega)) ?_)
  have hzip : (if (true : Bool) = true then (vs.toArray.zip vs.toArray).reverse else vs.toArray.zip vs.toArray) = vs.reverse.toArray.zip vs.reverse.toArray := kat_pairs (ks := vs) (vs := vs) true rfl
  rw [hzip]
  obtain ⟨hp, hi⟩ := sort_ok (pairs_ord hnr) (by (first | lia | omega))
  refine wpAny_bind (wpAny_mono (kat_run (ks := vs.reverse) (vs := vs.reverse) (κ := tuples' true) (Q := fun st' s' => ∃ p : Array Nat, p.size = vs.length ∧ arrOf st' = p.map (kas_item (vs.reverse.toArray.zip vs.reverse.toArray)) ∧ failedOf st' = Option.none ∧ p = kev (fun i j => ltQ (xs.reverse.getD i (0, 0)) (xs.reverse.getD j (0, 0))) (kas_sort xs.reverse.length) ∧ s' = { s with heap := ((s.heap.update a (Obj.mapSeq fun _ => (#[] : Array Value))).push (seqObj "tuple" vs.toArray 0)).push (seqObj "list" #[] 0) })
    rfl (by simp; (first | lia | omega)) (by simp; (first | lia | omega)) (fun p' st' s' a1 a2 a3 a4 => ⟨p', by simpa using a1, a2, a3, a4⟩) ?_) ?_ fun _ _ e => e)
  · rw [List.length_reverse, hlen, ← hlr]
    exact wp_kev (n := xs.reverse.length) _ (fun i j C hi hj hc => ask_pairs hvr r2.g.zone hi hj hc) _ (sort_in (pairs_ord hnr) (by (first | lia | omega))) ⟨rfl, rfl⟩
  rintro ⟨⟨⟩, st'⟩ s' ⟨p, hpz, har, hf, hpe, rfl⟩
  dsimp only
  have hout := kat_snds (ks := vs.reverse) (vs := vs.reverse) rfl har
  rw [hout, if_pos rfl, List.reverse_toArray]
  have hpin : ∀ i ∈ p.toList, i < xs.reverse.length := fun i hi => by
    rw [hpe] at hi
    have := hp.perm.toList.mem_iff.mp hi
    simpa using this
  refine wpAny_bind (seqEpoch_at ho6 rfl ?_)
  have hsz2 : (List.toArray (p.toList.map fun i => vs.reverse.getD i Value.none).reverse).size ≤ sizeLine + 1 := by
    rw [List.size_toArray, List.length_reverse, List.length_map, Array.length_toList, hpz]
    exact Nat.le_trans (by (first | lia | omega)) (Nat.le_succ_of_le thousand)
  refine wpAny_bind (listUpdate_at ho6 rfl ?_ (Nat.zero_le _) hsz2)
  rw [hf]
  simp only [bne_self_eq_false, Bool.false_eq_true, if_false]
  refine wpAny_pure (h _ ?_)
  have hl2 : (σ.cel a (.list [])).L a = some (.list []) := by simp only [Sig.cel, setL, if_true]
  have r3 := r2.cel hl2 (Heap.SameBut.update _ a (Obj.mapSeq fun _ => List.toArray (p.toList.map fun i => vs.reverse.getD i Value.none).reverse)) (get?_update_seq ho6 fun _ => List.toArray (p.toList.map fun i => vs.reverse.getD i Value.none).reverse)
    (x := .list (((outOf xs.reverse).reverse).map pr)) ⟨_, _, rfl, by have := (out_rep hvr p.toList hpin).reverse; rw [hpe] at this ⊢; rw [List.map_reverse]; exact this⟩ s.toks
  have : (σ.cel a (.list [])).cel a (.list (((outOf xs.reverse).reverse).map pr)) = σ.cel a (.list (((outOf xs.reverse).reverse).map pr)) := by simp only [Sig.cel, setL_setL]
  rw [this] at r3
  exact r3
end
end Mine
end
section
open PySem PySem.W PyProof.Rows PySem.SeqAt
set_option maxRecDepth 100000
namespace Mine
section
variable {c : Cx} {n : Nat} {env : Env} {σ : Sig} {Z : Zone} {s : Shared} {A : Around} {pos apos : Pos} {Q : D → Sig → Prop} {o : Expr}
theorem AE.sort0 (h : AE c n env o σ (fun d₁ σ₁ => ∃ a, ∃ xs : List (Int × Int), d₁ = .val (.ref a) ∧ σ₁.L a = some (.list (xs.map pr)) ∧ xs.Nodup ∧ 2 ≤ xs.length ∧ xs.length < 64 ∧ Q .none (σ₁.cel a (.list ((outOf xs).map pr)))))
    (hb : attributeBase o (Str.ofString "sort") env (eval o env) = eval o env := by rfl) (hl : (apos.endLine == pos.line) = true := by rfl) :
    AE c n env (.Call (.Attribute o (Str.ofString "sort") apos) [] [] pos) σ Q := by
  refine AE.meth0 (AW.mono h fun d₁ σ₁ ⟨a, xs, q1, q2, q3, q4, q5, q⟩ Z A s v hr r e₁ => ?_) hb hl
  subst q1; simp only [Rep] at e₁; subst e₁
  obtain ⟨_, o', ho, vs, m, rfl, hv⟩ := r.g.cel a _ q2
  refine ⟨"list", "list.sort", F.plainAttrs_list, slot_list_sort, (by rfl), ⟨_, ho, rfl⟩, fun b e => by cases e; exact ⟨_, ho, rfl⟩, ?_⟩
  refine callWith_builtin_kwB rfl rfl (evalArgs_kw_nil rfl (evalAll_nil ?_))
  show wpc c A (call (.builtin "list.sort") [.ref a]) _ _
  exact wpAny_call_entry slot_list_sort ⟨_, ho, rfl⟩ entry_list_sort (sort_tree r q2 ho hv q3 q4 q5 fun s' r' => ⟨_, rfl, Z, _, .none, .refl Z, r', by simp only [Rep], q⟩) (args_list_sort _)
theorem AE.sortR {k : Keyword} (hk : ∃ e kp, k = ⟨some (Str.ofString "reverse"), e, kp⟩ ∧ eval e env = pure (.bool true)) (h : AE c n env o σ (fun d₁ σ₁ => ∃ a, ∃ xs : List (Int × Int), d₁ = .val (.ref a) ∧ σ₁.L a = some (.list (xs.map pr)) ∧ xs.Nodup ∧ 2 ≤ xs.length ∧ xs.length < 64 ∧ Q .none (σ₁.cel a (.list (((outOf xs.reverse).reverse).map pr)))))
    {pl : Sem Bool} (he : eval (.Call (.Attribute o (Str.ofString "sort") apos) [] [k] pos) env = (do
      let ov ← eval o env
      standAt apos.atName
      let (f, first) ← holding [ov] (getMethod ov (Str.ofString "sort") pl)
      callWith pos f first (backTo pos (starEach [] env)) (backToKw pos (keywordEach [k] env)))) :
    AE c n env (.Call (.Attribute o (Str.ofString "sort") apos) [] [k] pos) σ Q := fun Z A s hr r => by
  obtain ⟨e, kp, rfl, hev⟩ := hk
  refine methodCall_KW (pl := pl) (wpAny_mono (h Z A s hr r) (fun v s₁ hpz => hpz.elim fun Z₁ σ₁ d l₁ r₁ e₁ ⟨a, xs, q1, q2, q3, q4, q5, q⟩ => ?_) fun _ _ e => e) he
  subst q1; simp only [Rep] at e₁; subst e₁
  obtain ⟨_, o', ho, vs, m, rfl, hv⟩ := r₁.g.cel a _ q2
  refine getMethod_list_of slot_list_sort (by rfl) (items := vs.toArray) ⟨_, ho, rfl, m, rfl⟩ ⟨_, ho, rfl⟩ ?_
  refine callWith_builtin_kwB rfl rfl (evalArgs_kw_nil rfl ?_)
  refine kws_cons ?_
  rw [hev]
  refine wpAny_pure (kws_nil ?_)
  show wpc c A (call (.builtin "list.sort") [.ref a] [(Str.ofString "reverse", .bool true)]) _ _
  exact wpAny_call_entry_kw slot_list_sort ⟨_, ho, rfl⟩ entry_list_sort (sort_treeR r₁ q2 ho hv q3 q4 q5 fun s' r' => ⟨_, rfl, Z₁, _, .none, l₁, r', by simp only [Rep], q⟩) (args_list_sort_rev _ _)
end
end Mine
end
namespace Mine
section
open PySem PySem.W PyProof.Rows
variable {c : Cx} {n : Nat} {env : Env} {x y : Str} {d e : D} {m m' : List (Str × D)} {L : Addr → Option Cel}
theorem put_nil {x : Str} {d : D} : put x d [] = [(x, d)] := rfl
theorem put_hit {x : Str} {d e : D} {r : List (Str × D)} : put x d ((x, e) :: r) = (x, d) :: r := if_pos rfl
theorem put_miss {x y : Str} {d e : D} {r r' : List (Str × D)} (h : decide (x = y) = false) (hr : put x d r = r') : put x d ((y, e) :: r) = (y, e) :: r' := by
  subst hr; exact if_neg (of_decide_eq_false h)
theorem put_two {x y : Str} {d e : D} {m m₁ m₂ : List (Str × D)} (h1 : put x d m = m₁) (h2 : put y e m₁ = m₂) : put y e (put x d m) = m₂ := by rw [h1]; exact h2
theorem AX.norm2 {Q : F → Sig → Prop} {rest : List Stmt} (hm : put y e (put x d m) = m') (h : AX c n env rest ⟨m', L⟩ Q) : AX c n env rest (Sig.put (Sig.put ⟨m, L⟩ x d) y e) Q := by unfold Sig.put; rw [hm]; exact h
theorem AE.norm {t : Expr} {Q : D → Sig → Prop} (hm : put x d m = m') (h : AE c n env t ⟨m', L⟩ Q) : AE c n env t (Sig.put ⟨m, L⟩ x d) Q := by unfold Sig.put; rw [hm]; exact h
theorem AT.norm {t : Expr} {Q : Bool → Sig → Prop} (hm : put x d m = m') (h : AT c n env t ⟨m', L⟩ Q) : AT c n env t (Sig.put ⟨m, L⟩ x d) Q := by unfold Sig.put; rw [hm]; exact h
theorem AE.norm2 {t : Expr} {Q : D → Sig → Prop} (hm : put y e (put x d m) = m') (h : AE c n env t ⟨m', L⟩ Q) : AE c n env t (Sig.put (Sig.put ⟨m, L⟩ x d) y e) Q := by unfold Sig.put; rw [hm]; exact h
theorem AT.norm2 {t : Expr} {Q : Bool → Sig → Prop} (hm : put y e (put x d m) = m') (h : AT c n env t ⟨m', L⟩ Q) : AT c n env t (Sig.put (Sig.put ⟨m, L⟩ x d) y e) Q := by unfold Sig.put; rw [hm]; exact h
end
local macro_rules | `(tactic| walk_at "pt") => `(tactic| first
  | with_reducible exact put_nil
  | with_reducible exact put_hit
  | (with_reducible refine put_miss (r' := ?r) ?a ?b; (case a => with_unfolding_all rfl); (case b => walk_at "pt")))
local macro_rules | `(tactic| walk_at "nm") => `(tactic| first | walk_at "pt" | ((with_reducible refine put_two (m₁ := ?m1) ?p ?q); (case p => walk_at "pt"); (case q => walk_at "pt")))
local macro_rules | `(tactic| walk_at "A") => `(tactic| first
  | ((with_reducible show AE _ _ _ _ _ _); (first
      | ((with_reducible refine AE.norm2 (m' := ?m2) ?h2 ?_); (case h2 => walk_at "nm"))
      | ((with_reducible refine AE.norm (m' := ?m1) ?h1 ?_); (case h1 => walk_at "nm"))
      | ((with_reducible refine AE.name (d := ?d) ?h ?_); (case h => exact rfl))
      | with_reducible first | refine AE.int ?_ | refine AE.str ?_ | refine AE.none ?_ | refine AE.bool ?_ | refine AE.binop ?_ | refine AE.slice ?_ | refine AE.sub ?_
      | ((with_reducible refine AE.cmp ?_ ?h); (case h => with_unfolding_all rfl))
      | with_reducible refine AE.ife ?_))
  | ((with_reducible show AO _ _ _ _ _ _ _ _ _); (with_reducible first | refine AO.add ?_ | refine AO.sub ?_ | refine AO.lt ?_ | refine AO.gt ?_ | refine AO.ge ?_ | refine AO.eq ?_ | refine AO.ne ?_ | refine AO.ltQ ?_ | refine AO.ltP ?_))
  | ((with_reducible show AX _ _ _ _ _ _); (first
      | ((with_reducible refine AX.norm2 (m' := ?m2) ?h2 ?_); (case h2 => walk_at "nm"))
      | ((with_reducible refine AX.norm (m' := ?m) ?h ?_); (case h => walk_at "nm"))
      | ((with_reducible refine AX.assign ?_ ?h1 ?h2); (case h1 => exact ⟨rfl, .inl rfl⟩); (case h2 => rfl))
      | ((with_reducible refine AX.setitem ?_ ?h2); (case h2 => rfl))
      | with_reducible first | refine AX.if_ ?_ | refine AX.ret ?_ | refine AX.brk ?_ | refine AX.cont ?_ | refine AX.pass ?_ | refine AX.app0 ?_ | refine AX.app1 ?_ | refine AX.nil ?_))
  | ((with_reducible show AT _ _ _ _ _ _); (first
      | ((with_reducible refine AT.norm2 (m' := ?m2) ?h2 ?_); (case h2 => walk_at "nm"))
      | ((with_reducible refine AT.norm (m' := ?m1) ?h1 ?_); (case h1 => walk_at "nm"))
      | ((with_reducible refine AT.cmp ?_ ?h); (case h => with_unfolding_all rfl))
      | with_reducible first | refine AT.not ?_ | refine AT.and ?_ | refine AT.or ?_))
  | ((with_reducible show AA _ _ _ _ _ _ _); (first
      | with_reducible refine AA.nil ?_
      | ((with_reducible refine AA.cons ?_ ?h); (case h => rfl)))))
local macro_rules | `(tactic| walk_at "W") => `(tactic| repeat walk_at "A")
local macro_rules | `(tactic| walk_at "sle") => `(tactic| (refine AllGet.sle ?_; repeat' (first | exact trivial | refine ⟨rfl, ?_⟩)))
local macro_rules | `(tactic| walk_at "bind") => `(tactic| (intro vs hv; first
  | (match vs, hv with | [_], _ => rfl)
  | (match vs, hv with | [_, _], _ => rfl)
  | (match vs, hv with | [_, _, _], _ => rfl)
  | (match vs, hv with | [_, _, _, _], _ => rfl)))
section
open PySem PySem.W PyProof.Rows
set_option maxRecDepth 10000

section
variable {c : Cx} {n : Nat} {L : Addr → Option Cel} {a : Addr} {xs : List (Int × Int)}

theorem siftdown_ok (B : BaseOk c) {start pos : Nat} (hL : L a = some (.list (xs.map pr))) (hp : pos < xs.length) (hlen : xs.length < 1000) :
    AC c (n + 1) (.ref 103) [.val (.ref a), .int start, .int pos] [] L (fun d L' => d = .none ∧ L' = setL L a (.list ((sdown ltQ (xs.getD pos (0,0)) start pos xs).map pr))) := by
  refine AC.fn (names := [Str.ofString "heap", Str.ofString "startpos", Str.ofString "pos"]) ⟨⟨_, B.K 103 _ rfl, rfl⟩, ⟨_, _, _, _, rfl, B.K 102 _ rfl, rfl, rfl⟩, rfl, rfl, rfl, rfl, rfl, rfl, rfl, fn_cells rfl, B.lim⟩ (by decide) (by decide) (by walk_at "bind") ?_
  intro e _
  dsimp only [List.zip, List.zipWith]
  walk_at "W"
  refine AO.itemLI hL (by (first | lia | omega)) (getD_of (by (first | lia | omega))) ?_
  walk_at "W"
  refine AX.while_ (fun k σ => ∃ ys, Sle σ ⟨[(Str.ofString "heap", .val (.ref a)), (Str.ofString "startpos", .int start), (Str.ofString "pos", .int k), (Str.ofString "newitem", pr (xs.getD pos (0, 0)))], setL L a (.list (ys.map pr))⟩ ∧
    k < ys.length ∧ ys.length = xs.length ∧ sdown ltQ (xs.getD pos (0, 0)) start k ys = sdown ltQ (xs.getD pos (0, 0)) start pos xs) pos ⟨xs, ?_, hp, rfl, rfl⟩ ?_
  · rw [setL_self hL]; exact Sle.refl _
  · rintro k σ ⟨ys, hs, hk, hl, hR⟩
    refine AT.weaken ?_ hs
    walk_at "W"
    refine ways (fun hlt => ?_) (fun hlt => ?_)
    · walk_at "W"
      refine AO.rshift (by (first | lia | omega)) ?_
      rw [show ((k : Int) - 1).fdiv (2 ^ (1 : Int).toNat) = (((k - 1) / 2 : Nat) : Int) from by
        rw [Int.fdiv_eq_ediv_of_nonneg _ (by decide)]; show ((k : Int) - 1) / 2 = _; (first | lia | omega)]
      walk_at "W"
      refine AO.itemLI setL_same (by (first | lia | omega)) (getD_of (by (first | lia | omega))) ?_
      walk_at "W"
      try simp only [Int.toNat_natCast]
      refine waysB (fun hq => ?_) (fun hq => ?_)
      · walk_at "W"
        refine ⟨a, _, k, rfl, rfl, setL_same, by (first | lia | omega), by (first | lia | omega), by simp; (first | lia | omega), ?_⟩
        dsimp only [Sig.cel]
        walk_at "W"
        dsimp only [LoopQ]
        refine ⟨(k - 1) / 2, by (first | lia | omega), ys.set k (ys.getD ((k - 1) / 2) (0, 0)), ?_, by simp; (first | lia | omega), by simp; (first | lia | omega), ?_⟩
        · rw [setL_setL]
          simp only [List.map_set, Int.toNat_natCast]
          walk_at "sle"
        · rw [← hR, sdown.eq_def _ _ _ k ys, dif_pos (by (first | lia | omega))]
          dsimp only
          rw [if_pos hq]
      · walk_at "W"
        dsimp only [LoopQ]
        walk_at "W"
        refine ⟨a, _, k, rfl, rfl, setL_same, by (first | lia | omega), by (first | lia | omega), by simp; (first | lia | omega), ?_⟩
        walk_at "W"
        refine ⟨rfl, ?_⟩
        dsimp only [Sig.cel]
        rw [setL_setL, ← hR, sdown.eq_def _ _ _ k ys, dif_pos (by (first | lia | omega))]
        dsimp only
        rw [if_neg (by rw [hq]; exact Bool.false_ne_true)]
        simp
    · walk_at "W"
      refine ⟨a, _, k, rfl, rfl, setL_same, by (first | lia | omega), by (first | lia | omega), by simp; (first | lia | omega), ?_⟩
      walk_at "W"
      refine ⟨rfl, ?_⟩
      dsimp only [Sig.cel]
      rw [setL_setL, ← hR, sdown.eq_def _ _ _ k ys, dif_neg (by (first | lia | omega))]
      simp

theorem siftdownMax_ok (B : BaseOk c) {start pos : Nat} (hL : L a = some (.list (xs.map pr))) (hp : pos < xs.length) (hlen : xs.length < 1000) :
    AC c (n + 1) (.ref 117) [.val (.ref a), .int start, .int pos] [] L (fun d L' => d = .none ∧ L' = setL L a (.list ((sdown (fun p q => ltQ q p) (xs.getD pos (0,0)) start pos xs).map pr))) := by
  refine AC.fn (names := [Str.ofString "heap", Str.ofString "startpos", Str.ofString "pos"]) ⟨⟨_, B.K 117 _ rfl, rfl⟩, ⟨_, _, _, _, rfl, B.K 116 _ rfl, rfl, rfl⟩, rfl, rfl, rfl, rfl, rfl, rfl, rfl, fn_cells rfl, B.lim⟩ (by decide) (by decide) (by walk_at "bind") ?_
  intro e _
  dsimp only [List.zip, List.zipWith]
  walk_at "W"
  refine AO.itemLI hL (by (first | lia | omega)) (getD_of (by (first | lia | omega))) ?_
  walk_at "W"
  refine AX.while_ (fun k σ => ∃ ys, Sle σ ⟨[(Str.ofString "heap", .val (.ref a)), (Str.ofString "startpos", .int start), (Str.ofString "pos", .int k), (Str.ofString "newitem", pr (xs.getD pos (0, 0)))], setL L a (.list (ys.map pr))⟩ ∧
    k < ys.length ∧ ys.length = xs.length ∧ sdown (fun p q => ltQ q p) (xs.getD pos (0, 0)) start k ys = sdown (fun p q => ltQ q p) (xs.getD pos (0, 0)) start pos xs) pos ⟨xs, ?_, hp, rfl, rfl⟩ ?_
  · rw [setL_self hL]; exact Sle.refl _
  · rintro k σ ⟨ys, hs, hk, hl, hR⟩
    refine AT.weaken ?_ hs
    walk_at "W"
    refine ways (fun hlt => ?_) (fun hlt => ?_)
    · walk_at "W"
      refine AO.rshift (by (first | lia | omega)) ?_
      rw [show ((k : Int) - 1).fdiv (2 ^ (1 : Int).toNat) = (((k - 1) / 2 : Nat) : Int) from by
        rw [Int.fdiv_eq_ediv_of_nonneg _ (by decide)]; show ((k : Int) - 1) / 2 = _; (first | lia | omega)]
      walk_at "W"
      refine AO.itemLI setL_same (by (first | lia | omega)) (getD_of (by (first | lia | omega))) ?_
      walk_at "W"
      try simp only [Int.toNat_natCast]
      refine waysB (fun hq => ?_) (fun hq => ?_)
      · walk_at "W"
        refine ⟨a, _, k, rfl, rfl, setL_same, by (first | lia | omega), by (first | lia | omega), by simp; (first | lia | omega), ?_⟩
        dsimp only [Sig.cel]
        walk_at "W"
        dsimp only [LoopQ]
        refine ⟨(k - 1) / 2, by (first | lia | omega), ys.set k (ys.getD ((k - 1) / 2) (0, 0)), ?_, by simp; (first | lia | omega), by simp; (first | lia | omega), ?_⟩
        · rw [setL_setL]
          simp only [List.map_set, Int.toNat_natCast]
          walk_at "sle"
        · rw [← hR, sdown.eq_def _ _ _ k ys, dif_pos (by (first | lia | omega))]
          dsimp only
          rw [if_pos hq]
      · walk_at "W"
        dsimp only [LoopQ]
        walk_at "W"
        refine ⟨a, _, k, rfl, rfl, setL_same, by (first | lia | omega), by (first | lia | omega), by simp; (first | lia | omega), ?_⟩
        walk_at "W"
        refine ⟨rfl, ?_⟩
        dsimp only [Sig.cel]
        rw [setL_setL, ← hR, sdown.eq_def _ _ _ k ys, dif_pos (by (first | lia | omega))]
        dsimp only
        rw [if_neg (by rw [hq]; exact Bool.false_ne_true)]
        simp
    · walk_at "W"
      refine ⟨a, _, k, rfl, rfl, setL_same, by (first | lia | omega), by (first | lia | omega), by simp; (first | lia | omega), ?_⟩
      walk_at "W"
      refine ⟨rfl, ?_⟩
      dsimp only [Sig.cel]
      rw [setL_setL, ← hR, sdown.eq_def _ _ _ k ys, dif_neg (by (first | lia | omega))]
      simp

theorem siftup_ok (B : BaseOk c) {pos : Nat} (hL : L a = some (.list (xs.map pr))) (hp : pos < xs.length) (hlen : xs.length < 1000) :
    AC c (n + 2) (.ref 110) [.val (.ref a), .int pos] [] L (fun d L' => d = .none ∧ L' = setL L a (.list ((siftup ltQ xs pos).map pr))) := by
  refine AC.fn (names := [Str.ofString "heap", Str.ofString "pos"]) ⟨⟨_, B.K 110 _ rfl, rfl⟩, ⟨_, _, _, _, rfl, B.K 109 _ rfl, rfl, rfl⟩, rfl, rfl, rfl, rfl, rfl, rfl, rfl, fn_cells rfl, B.lim⟩ (by decide) (by decide) (by walk_at "bind") ?_
  intro e _
  dsimp only [List.zip, List.zipWith]
  walk_at "W"
  refine AE.callB (AE.built (b_len B) ⟨rfl, ?_⟩)
  walk_at "W"
  refine AB.len (.inr ⟨_, rfl, hL⟩) (by simp; (first | lia | omega)) ?_
  simp only [List.length_map]
  walk_at "W"
  refine AO.itemLI hL (by (first | lia | omega)) (getD_of (by (first | lia | omega))) ?_
  try simp only [Int.toNat_natCast]
  walk_at "W"
  refine AO.mul ?_ (IntMulOk.of_left (by decide))
  walk_at "W"
  refine AX.while_ (fun k σ => ∃ p ys, k = ys.length - p ∧ Sle σ ⟨[(Str.ofString "heap", .val (.ref a)), (Str.ofString "pos", .int (p : Nat)), (Str.ofString "endpos", .int xs.length), (Str.ofString "startpos", .int pos), (Str.ofString "newitem", pr (xs.getD pos (0, 0))), (Str.ofString "childpos", .int (2 * (p : Nat) + 1))], setL L a (.list (ys.map pr))⟩ ∧
    p < ys.length ∧ ys.length = xs.length ∧ sup ltQ p ys = sup ltQ pos xs) (xs.length - pos) ⟨pos, xs, rfl, ?_, hp, rfl, rfl⟩ ?_
  · rw [setL_self hL]; walk_at "sle"
  · rintro k σ ⟨p, ys, hk', hs, hk, hl, hR⟩
    refine AT.weaken ?_ hs
    walk_at "W"
    refine ways (fun hlt => ?_) (fun hlt => ?_)
    · walk_at "W"
      refine ways (fun h2 => ?_) (fun h2 => ?_)
      · walk_at "W"
        refine AO.itemL setL_same (by (first | lia | omega)) (by (first | lia | omega)) (getD_of (i := 2 * p + 1) (by (first | lia | omega))) ?_
        walk_at "W"
        refine AO.itemL setL_same (by (first | lia | omega)) (by (first | lia | omega)) (getD_of (i := 2 * p + 2) (by (first | lia | omega))) ?_
        walk_at "W"
        refine waysN (fun hq => ?_) (fun hq => ?_)
        · walk_at "W"
          refine AO.itemL setL_same (by (first | lia | omega)) (by (first | lia | omega)) (getD_of (i := 2 * p + 2) (by (first | lia | omega))) ?_
          walk_at "W"
          refine ⟨a, _, p, rfl, rfl, setL_same, by (first | lia | omega), by (first | lia | omega), by simp; (first | lia | omega), ?_⟩
          dsimp only [Sig.cel]
          walk_at "W"
          refine AO.mul ?_ (IntMulOk.of_left (by decide))
          walk_at "W"
          dsimp only [LoopQ]
          refine ⟨ys.length - (2 * p + 2), by (first | lia | omega), 2 * p + 2, ys.set p (ys.getD (2 * p + 2) (0, 0)), by simp, ?_, by simp; (first | lia | omega), by simp; (first | lia | omega), ?_⟩
          · rw [setL_setL]
            simp only [List.map_set, Int.toNat_natCast]
            walk_at "sle"
          · exact (sup_step ltQ (p := p) (ys := ys) (ch := 2 * p + 2) (by (first | lia | omega)) (by rw [if_pos (by (try dsimp only); rw [hq]; simp; (first | lia | omega))])).symm.trans hR
        · walk_at "W"
          refine AO.itemL setL_same (by (first | lia | omega)) (by (first | lia | omega)) (getD_of (i := 2 * p + 1) (by (first | lia | omega))) ?_
          walk_at "W"
          refine ⟨a, _, p, rfl, rfl, setL_same, by (first | lia | omega), by (first | lia | omega), by simp; (first | lia | omega), ?_⟩
          dsimp only [Sig.cel]
          walk_at "W"
          refine AO.mul ?_ (IntMulOk.of_left (by decide))
          walk_at "W"
          dsimp only [LoopQ]
          refine ⟨ys.length - (2 * p + 1), by (first | lia | omega), 2 * p + 1, ys.set p (ys.getD (2 * p + 1) (0, 0)), by simp, ?_, by simp; (first | lia | omega), by simp; (first | lia | omega), ?_⟩
          · rw [setL_setL]
            simp only [List.map_set, Int.toNat_natCast]
            walk_at "sle"
          · exact (sup_step ltQ (p := p) (ys := ys) (ch := 2 * p + 1) (by (first | lia | omega)) (by rw [if_neg (by (try dsimp only); rw [hq]; simp)])).symm.trans hR
      · refine if_ff ?_
        walk_at "W"
        refine AO.itemL setL_same (by (first | lia | omega)) (by (first | lia | omega)) (getD_of (i := 2 * p + 1) (by (first | lia | omega))) ?_
        walk_at "W"
        refine ⟨a, _, p, rfl, rfl, setL_same, by (first | lia | omega), by (first | lia | omega), by simp; (first | lia | omega), ?_⟩
        dsimp only [Sig.cel]
        walk_at "W"
        refine AO.mul ?_ (IntMulOk.of_left (by decide))
        walk_at "W"
        dsimp only [LoopQ]
        refine ⟨ys.length - (2 * p + 1), by (first | lia | omega), 2 * p + 1, ys.set p (ys.getD (2 * p + 1) (0, 0)), by simp, ?_, by simp; (first | lia | omega), by simp; (first | lia | omega), ?_⟩
        · rw [setL_setL]
          simp only [List.map_set, Int.toNat_natCast]
          walk_at "sle"
        · exact (sup_step ltQ (p := p) (ys := ys) (ch := 2 * p + 1) (by (first | lia | omega)) (by rw [if_neg (by simp; (first | lia | omega))])).symm.trans hR
    · walk_at "W"
      refine ⟨a, _, p, rfl, rfl, setL_same, by (first | lia | omega), by (first | lia | omega), by simp; (first | lia | omega), ?_⟩
      dsimp only [Sig.cel]
      rw [setL_setL]
      simp only [Int.toNat_natCast, ← List.map_set]
      refine AX.expr (AE.callFn (AE.glob (g_siftdown B) ⟨_, rfl, ⟨_, _, B.K 103 _ rfl, rfl⟩, ?_⟩))
      walk_at "W"
      refine AC.mono (siftdown_ok B (xs := ys.set p (xs.getD pos (0, 0))) (start := pos) (pos := p) setL_same (by simp; (first | lia | omega)) (by simp; (first | lia | omega))) ?_
      rintro d L' ⟨rfl, rfl⟩
      refine ⟨rfl, ?_⟩
      walk_at "W"
      refine ⟨rfl, ?_⟩
      dsimp only
      rw [setL_setL]
      rw [sup_stop ltQ (by (first | lia | omega))] at hR
      unfold siftup
      dsimp only
      rw [← hR]
      simp [hk]

theorem siftupMax_ok (B : BaseOk c) {pos : Nat} (hL : L a = some (.list (xs.map pr))) (hp : pos < xs.length) (hlen : xs.length < 1000) :
    AC c (n + 2) (.ref 124) [.val (.ref a), .int pos] [] L (fun d L' => d = .none ∧ L' = setL L a (.list ((siftup (fun p q => ltQ q p) xs pos).map pr))) := by
  refine AC.fn (names := [Str.ofString "heap", Str.ofString "pos"]) ⟨⟨_, B.K 124 _ rfl, rfl⟩, ⟨_, _, _, _, rfl, B.K 123 _ rfl, rfl, rfl⟩, rfl, rfl, rfl, rfl, rfl, rfl, rfl, fn_cells rfl, B.lim⟩ (by decide) (by decide) (by walk_at "bind") ?_
  intro e _
  dsimp only [List.zip, List.zipWith]
  walk_at "W"
  refine AE.callB (AE.built (b_len B) ⟨rfl, ?_⟩)
  walk_at "W"
  refine AB.len (.inr ⟨_, rfl, hL⟩) (by simp; (first | lia | omega)) ?_
  simp only [List.length_map]
  walk_at "W"
  refine AO.itemLI hL (by (first | lia | omega)) (getD_of (by (first | lia | omega))) ?_
  try simp only [Int.toNat_natCast]
  walk_at "W"
  refine AO.mul ?_ (IntMulOk.of_left (by decide))
  walk_at "W"
  refine AX.while_ (fun k σ => ∃ p ys, k = ys.length - p ∧ Sle σ ⟨[(Str.ofString "heap", .val (.ref a)), (Str.ofString "pos", .int (p : Nat)), (Str.ofString "endpos", .int xs.length), (Str.ofString "startpos", .int pos), (Str.ofString "newitem", pr (xs.getD pos (0, 0))), (Str.ofString "childpos", .int (2 * (p : Nat) + 1))], setL L a (.list (ys.map pr))⟩ ∧
    p < ys.length ∧ ys.length = xs.length ∧ sup (fun p q => ltQ q p) p ys = sup (fun p q => ltQ q p) pos xs) (xs.length - pos) ⟨pos, xs, rfl, ?_, hp, rfl, rfl⟩ ?_
  · rw [setL_self hL]; walk_at "sle"
  · rintro k σ ⟨p, ys, hk', hs, hk, hl, hR⟩
    refine AT.weaken ?_ hs
    walk_at "W"
    refine ways (fun hlt => ?_) (fun hlt => ?_)
    · walk_at "W"
      refine ways (fun h2 => ?_) (fun h2 => ?_)
      · walk_at "W"
        refine AO.itemL setL_same (by (first | lia | omega)) (by (first | lia | omega)) (getD_of (i := 2 * p + 2) (by (first | lia | omega))) ?_
        walk_at "W"
        refine AO.itemL setL_same (by (first | lia | omega)) (by (first | lia | omega)) (getD_of (i := 2 * p + 1) (by (first | lia | omega))) ?_
        walk_at "W"
        refine waysN (fun hq => ?_) (fun hq => ?_)
        · walk_at "W"
          refine AO.itemL setL_same (by (first | lia | omega)) (by (first | lia | omega)) (getD_of (i := 2 * p + 2) (by (first | lia | omega))) ?_
          walk_at "W"
          refine ⟨a, _, p, rfl, rfl, setL_same, by (first | lia | omega), by (first | lia | omega), by simp; (first | lia | omega), ?_⟩
          dsimp only [Sig.cel]
          walk_at "W"
          refine AO.mul ?_ (IntMulOk.of_left (by decide))
          walk_at "W"
          dsimp only [LoopQ]
          refine ⟨ys.length - (2 * p + 2), by (first | lia | omega), 2 * p + 2, ys.set p (ys.getD (2 * p + 2) (0, 0)), by simp, ?_, by simp; (first | lia | omega), by simp; (first | lia | omega), ?_⟩
          · rw [setL_setL]
            simp only [List.map_set, Int.toNat_natCast]
            walk_at "sle"
          · exact (sup_step (fun p q => ltQ q p) (p := p) (ys := ys) (ch := 2 * p + 2) (by (first | lia | omega)) (by rw [if_pos (by (try dsimp only); rw [hq]; simp; (first | lia | omega))])).symm.trans hR
        · walk_at "W"
          refine AO.itemL setL_same (by (first | lia | omega)) (by (first | lia | omega)) (getD_of (i := 2 * p + 1) (by (first | lia | omega))) ?_
          walk_at "W"
          refine ⟨a, _, p, rfl, rfl, setL_same, by (first | lia | omega), by (first | lia | omega), by simp; (first | lia | omega), ?_⟩
          dsimp only [Sig.cel]
          walk_at "W"
          refine AO.mul ?_ (IntMulOk.of_left (by decide))
          walk_at "W"
          dsimp only [LoopQ]
          refine ⟨ys.length - (2 * p + 1), by (first | lia | omega), 2 * p + 1, ys.set p (ys.getD (2 * p + 1) (0, 0)), by simp, ?_, by simp; (first | lia | omega), by simp; (first | lia | omega), ?_⟩
          · rw [setL_setL]
            simp only [List.map_set, Int.toNat_natCast]
            walk_at "sle"
          · exact (sup_step (fun p q => ltQ q p) (p := p) (ys := ys) (ch := 2 * p + 1) (by (first | lia | omega)) (by rw [if_neg (by (try dsimp only); rw [hq]; simp)])).symm.trans hR
      · refine if_ff ?_
        walk_at "W"
        refine AO.itemL setL_same (by (first | lia | omega)) (by (first | lia | omega)) (getD_of (i := 2 * p + 1) (by (first | lia | omega))) ?_
        walk_at "W"
        refine ⟨a, _, p, rfl, rfl, setL_same, by (first | lia | omega), by (first | lia | omega), by simp; (first | lia | omega), ?_⟩
        dsimp only [Sig.cel]
        walk_at "W"
        refine AO.mul ?_ (IntMulOk.of_left (by decide))
        walk_at "W"
        dsimp only [LoopQ]
        refine ⟨ys.length - (2 * p + 1), by (first | lia | omega), 2 * p + 1, ys.set p (ys.getD (2 * p + 1) (0, 0)), by simp, ?_, by simp; (first | lia | omega), by simp; (first | lia | omega), ?_⟩
        · rw [setL_setL]
          simp only [List.map_set, Int.toNat_natCast]
          walk_at "sle"
        · exact (sup_step (fun p q => ltQ q p) (p := p) (ys := ys) (ch := 2 * p + 1) (by (first | lia | omega)) (by rw [if_neg (by simp; (first | lia | omega))])).symm.trans hR
    · walk_at "W"
      refine ⟨a, _, p, rfl, rfl, setL_same, by (first | lia | omega), by (first | lia | omega), by simp; (first | lia | omega), ?_⟩
      dsimp only [Sig.cel]
      rw [setL_setL]
      simp only [Int.toNat_natCast, ← List.map_set]
      refine AX.expr (AE.callFn (AE.glob (g_siftdown_max B) ⟨_, rfl, ⟨_, _, B.K 117 _ rfl, rfl⟩, ?_⟩))
      walk_at "W"
      refine AC.mono (siftdownMax_ok B (xs := ys.set p (xs.getD pos (0, 0))) (start := pos) (pos := p) setL_same (by simp; (first | lia | omega)) (by simp; (first | lia | omega))) ?_
      rintro d L' ⟨rfl, rfl⟩
      refine ⟨rfl, ?_⟩
      walk_at "W"
      refine ⟨rfl, ?_⟩
      dsimp only
      rw [setL_setL]
      rw [sup_stop (fun p q => ltQ q p) (by (first | lia | omega))] at hR
      unfold siftup
      dsimp only
      rw [← hR]
      simp [hk]
end
end
section
open PySem PySem.W PyProof.Rows
set_option maxRecDepth 10000

theorem steps_down (j : Nat) : steps (((j + 1 : Nat) : Int) - 1) (-1) (j + 1) = .int j :: steps ((j : Int) - 1) (-1) j := by
  unfold steps
  rw [List.range_succ_eq_map, List.map_cons, List.map_map]
  congr 1
  · congr 1; (first | lia | omega)
  · apply List.map_congr_left
    intro i _
    simp only [Function.comp]
    congr 1; (first | lia | omega)
noncomputable def heapifyN (lt : Int × Int → Int × Int → Bool) : Nat → List (Int × Int) → List (Int × Int)
  | 0, xs => xs
  | j + 1, xs => heapifyN lt j (siftup lt xs j)
noncomputable def heapifyL (lt : Int × Int → Int × Int → Bool) (xs : List (Int × Int)) : List (Int × Int) := heapifyN lt (xs.length / 2) xs
theorem heapifyN_length (lt : Int × Int → Int × Int → Bool) : ∀ (j : Nat) (xs : List (Int × Int)), (heapifyN lt j xs).length = xs.length
  | 0, _ => rfl
  | j + 1, xs => by rw [heapifyN, heapifyN_length lt j, siftup_length]
section
variable {c : Cx} {n : Nat} {L : Addr → Option Cel} {a : Addr} {xs : List (Int × Int)}

theorem heapify_ok (B : BaseOk c) (hL : L a = some (.list (xs.map pr))) (hlen : xs.length < 1000) :
    AC c (n + 3) (.ref 82) [.val (.ref a)] [] L (fun d L' => d = .none ∧ L' = setL L a (.list ((heapifyL ltQ xs).map pr))) := by
  refine AC.fn (names := [Str.ofString "x"]) ⟨⟨_, B.K 82 _ rfl, rfl⟩, ⟨_, _, _, _, rfl, B.K 81 _ rfl, rfl, rfl⟩, rfl, rfl, rfl, rfl, rfl, rfl, rfl, fn_cells rfl, B.lim⟩ (by decide) (by decide) (by walk_at "bind") ?_
  intro e _
  dsimp only [List.zip, List.zipWith]
  walk_at "W"
  refine AE.callB (AE.built (b_len B) ⟨rfl, ?_⟩)
  walk_at "W"
  refine AB.len (.inr ⟨_, rfl, hL⟩) (by simp; (first | lia | omega)) ?_
  simp only [List.length_map]
  walk_at "W"
  refine AX.for_ (AEI.rev (m := xs.length / 2) (by (first | lia | omega)) (AE.built (b_reversed B) ⟨rfl, ?_⟩))
  refine AE.callT (AE.built (b_range B) ⟨rfl, ?_⟩)
  walk_at "W"
  refine AO.fdiv (by decide) (by decide) ?_
  rw [show ((xs.length : Int)).fdiv 2 = ((xs.length / 2 : Nat) : Int) from by rw [Int.fdiv_eq_ediv_of_nonneg _ (by decide)]; (first | lia | omega)]
  walk_at "W"
  refine AB.range1 ⟨rfl, ?_⟩
  refine AFor.ind (fun items σ => ∃ (j : Nat) (ys : List (Int × Int)), items = steps ((j : Int) - 1) (-1) j ∧ Sle σ ⟨[(Str.ofString "x", .val (.ref a))], setL L a (.list (ys.map pr))⟩ ∧ ys.length = xs.length ∧ j ≤ xs.length / 2 ∧
      heapifyN ltQ j ys = heapifyL ltQ xs) ⟨xs.length / 2, xs, rfl, ?_, rfl, Nat.le_refl _, rfl⟩ ?_ ?_
  · rw [setL_self hL]
    walk_at "sle"
  · rintro σ ⟨j, ys, hj, hs, hl, _, hR⟩
    cases j with
    | succ j => rw [steps_down] at hj; cases hj
    | zero =>
      refine AX.weaken ?_ hs
      walk_at "W"
      refine ⟨rfl, ?_⟩
      rw [← hR]; rfl
  · rintro d ds σ ⟨j, ys, hj, hs, hl, hj', hR⟩
    cases j with
    | zero => cases hj
    | succ j =>
      rw [steps_down] at hj; cases hj
      refine AS.weaken ?_ hs
      refine AS.name ?_ ⟨rfl, .inl rfl⟩
      walk_at "W"
      refine AX.expr (AE.callFn (AE.glob (g_siftup B) ⟨_, rfl, ⟨_, _, B.K 110 _ rfl, rfl⟩, ?_⟩))
      walk_at "W"
      refine AC.mono (siftup_ok B (xs := ys) (pos := j) setL_same (by (first | lia | omega)) (by (first | lia | omega))) ?_
      rintro d L' ⟨rfl, rfl⟩
      refine ⟨rfl, ?_⟩
      walk_at "W"
      refine ⟨j, siftup ltQ ys j, rfl, ?_, (by rw [siftup_length]; exact hl), (by (first | lia | omega)), (by rw [← hR]; rfl)⟩
      dsimp only
      rw [setL_setL]
      walk_at "sle"

theorem heapifyMax_ok (B : BaseOk c) (hL : L a = some (.list (xs.map pr))) (hlen : xs.length < 1000) :
    AC c (n + 3) (.ref 96) [.val (.ref a)] [] L (fun d L' => d = .none ∧ L' = setL L a (.list ((heapifyL (fun p q => ltQ q p) xs).map pr))) := by
  refine AC.fn (names := [Str.ofString "x"]) ⟨⟨_, B.K 96 _ rfl, rfl⟩, ⟨_, _, _, _, rfl, B.K 95 _ rfl, rfl, rfl⟩, rfl, rfl, rfl, rfl, rfl, rfl, rfl, fn_cells rfl, B.lim⟩ (by decide) (by decide) (by walk_at "bind") ?_
  intro e _
  dsimp only [List.zip, List.zipWith]
  walk_at "W"
  refine AE.callB (AE.built (b_len B) ⟨rfl, ?_⟩)
  walk_at "W"
  refine AB.len (.inr ⟨_, rfl, hL⟩) (by simp; (first | lia | omega)) ?_
  simp only [List.length_map]
  walk_at "W"
  refine AX.for_ (AEI.rev (m := xs.length / 2) (by (first | lia | omega)) (AE.built (b_reversed B) ⟨rfl, ?_⟩))
  refine AE.callT (AE.built (b_range B) ⟨rfl, ?_⟩)
  walk_at "W"
  refine AO.fdiv (by decide) (by decide) ?_
  rw [show ((xs.length : Int)).fdiv 2 = ((xs.length / 2 : Nat) : Int) from by rw [Int.fdiv_eq_ediv_of_nonneg _ (by decide)]; (first | lia | omega)]
  walk_at "W"
  refine AB.range1 ⟨rfl, ?_⟩
  refine AFor.ind (fun items σ => ∃ (j : Nat) (ys : List (Int × Int)), items = steps ((j : Int) - 1) (-1) j ∧ Sle σ ⟨[(Str.ofString "x", .val (.ref a))], setL L a (.list (ys.map pr))⟩ ∧ ys.length = xs.length ∧ j ≤ xs.length / 2 ∧
      heapifyN (fun p q => ltQ q p) j ys = heapifyL (fun p q => ltQ q p) xs) ⟨xs.length / 2, xs, rfl, ?_, rfl, Nat.le_refl _, rfl⟩ ?_ ?_
  · rw [setL_self hL]
    walk_at "sle"
  · rintro σ ⟨j, ys, hj, hs, hl, _, hR⟩
    cases j with
    | succ j => rw [steps_down] at hj; cases hj
    | zero =>
      refine AX.weaken ?_ hs
      walk_at "W"
      refine ⟨rfl, ?_⟩
      rw [← hR]; rfl
  · rintro d ds σ ⟨j, ys, hj, hs, hl, hj', hR⟩
    cases j with
    | zero => cases hj
    | succ j =>
      rw [steps_down] at hj; cases hj
      refine AS.weaken ?_ hs
      refine AS.name ?_ ⟨rfl, .inl rfl⟩
      walk_at "W"
      refine AX.expr (AE.callFn (AE.glob (g_siftup_max B) ⟨_, rfl, ⟨_, _, B.K 124 _ rfl, rfl⟩, ?_⟩))
      walk_at "W"
      refine AC.mono (siftupMax_ok B (xs := ys) (pos := j) setL_same (by (first | lia | omega)) (by (first | lia | omega))) ?_
      rintro d L' ⟨rfl, rfl⟩
      refine ⟨rfl, ?_⟩
      walk_at "W"
      refine ⟨j, siftup (fun p q => ltQ q p) ys j, rfl, ?_, (by rw [siftup_length]; exact hl), (by (first | lia | omega)), (by rw [← hR]; rfl)⟩
      dsimp only
      rw [setL_setL]
      walk_at "sle"

theorem heapreplace_ok (B : BaseOk c) {x : Int × Int} (hL : L a = some (.list (xs.map pr))) (h0 : 0 < xs.length) (hlen : xs.length < 1000) :
    AC c (n + 3) (.ref 75) [.val (.ref a), pr x] [] L (fun d L' => d = pr (xs.getD 0 (0, 0)) ∧ L' = setL L a (.list ((siftup ltQ (xs.set 0 x) 0).map pr))) := by
  refine AC.fn (names := [Str.ofString "heap", Str.ofString "item"]) ⟨⟨_, B.K 75 _ rfl, rfl⟩, ⟨_, _, _, _, rfl, B.K 74 _ rfl, rfl, rfl⟩, rfl, rfl, rfl, rfl, rfl, rfl, rfl, fn_cells rfl, B.lim⟩ (by decide) (by decide) (by walk_at "bind") ?_
  intro e _
  dsimp only [List.zip, List.zipWith]
  walk_at "W"
  refine AO.itemL hL (by (first | lia | omega)) (by (first | lia | omega)) (getD_of (i := 0) (by (first | lia | omega))) ?_
  walk_at "W"
  refine ⟨a, _, 0, rfl, rfl, hL, by (first | lia | omega), by (first | lia | omega), by simp; (first | lia | omega), ?_⟩
  dsimp only [Sig.cel]
  rw [show (xs.map pr).set (0 : Int).toNat (pr x) = (xs.set 0 x).map pr from by simp]
  refine AX.expr (AE.callFn (AE.glob (g_siftup B) ⟨_, rfl, ⟨_, _, B.K 110 _ rfl, rfl⟩, ?_⟩))
  walk_at "W"
  refine AC.mono (siftup_ok B (xs := xs.set 0 x) (pos := 0) setL_same (by simp; (first | lia | omega)) (by simp; (first | lia | omega))) ?_
  rintro d L' ⟨rfl, rfl⟩
  refine ⟨rfl, ?_⟩
  walk_at "W"
  refine ⟨rfl, ?_⟩
  dsimp only
  rw [setL_setL]

theorem heapreplaceMax_ok (B : BaseOk c) {x : Int × Int} (hL : L a = some (.list (xs.map pr))) (h0 : 0 < xs.length) (hlen : xs.length < 1000) :
    AC c (n + 3) (.ref 89) [.val (.ref a), pr x] [] L (fun d L' => d = pr (xs.getD 0 (0, 0)) ∧ L' = setL L a (.list ((siftup (fun p q => ltQ q p) (xs.set 0 x) 0).map pr))) := by
  refine AC.fn (names := [Str.ofString "heap", Str.ofString "item"]) ⟨⟨_, B.K 89 _ rfl, rfl⟩, ⟨_, _, _, _, rfl, B.K 88 _ rfl, rfl, rfl⟩, rfl, rfl, rfl, rfl, rfl, rfl, rfl, fn_cells rfl, B.lim⟩ (by decide) (by decide) (by walk_at "bind") ?_
  intro e _
  dsimp only [List.zip, List.zipWith]
  walk_at "W"
  refine AO.itemL hL (by (first | lia | omega)) (by (first | lia | omega)) (getD_of (i := 0) (by (first | lia | omega))) ?_
  walk_at "W"
  refine ⟨a, _, 0, rfl, rfl, hL, by (first | lia | omega), by (first | lia | omega), by simp; (first | lia | omega), ?_⟩
  dsimp only [Sig.cel]
  rw [show (xs.map pr).set (0 : Int).toNat (pr x) = (xs.set 0 x).map pr from by simp]
  refine AX.expr (AE.callFn (AE.glob (g_siftup_max B) ⟨_, rfl, ⟨_, _, B.K 124 _ rfl, rfl⟩, ?_⟩))
  walk_at "W"
  refine AC.mono (siftupMax_ok B (xs := xs.set 0 x) (pos := 0) setL_same (by simp; (first | lia | omega)) (by simp; (first | lia | omega))) ?_
  rintro d L' ⟨rfl, rfl⟩
  refine ⟨rfl, ?_⟩
  walk_at "W"
  refine ⟨rfl, ?_⟩
  dsimp only
  rw [setL_setL]

/-- heappop: the first item, the rest -/
theorem heappop_ok (B : BaseOk c) {y : Int × Int} (hL : L a = some (.list ((xs ++ [y]).map pr))) (hlen : xs.length < 999) :
    AC c (n + 3) (.ref 68) [.val (.ref a)] [] L (fun d L' => d = pr ((xs ++ [y]).getD 0 (0, 0)) ∧ L' = setL L a (.list ((if xs = [] then [] else siftup ltQ (xs.set 0 y) 0).map pr))) := by
  refine AC.fn (names := [Str.ofString "heap"]) ⟨⟨_, B.K 68 _ rfl, rfl⟩, ⟨_, _, _, _, rfl, B.K 67 _ rfl, rfl, rfl⟩, rfl, rfl, rfl, rfl, rfl, rfl, rfl, fn_cells rfl, B.lim⟩ (by decide) (by decide) (by walk_at "bind") ?_
  intro e _
  dsimp only [List.zip, List.zipWith]
  walk_at "W"
  refine AE.pop ?_ (by rfl) (by rfl)
  walk_at "W"
  refine ⟨a, xs.map pr, pr y, rfl, hL.trans (by simp), by simp; (first | lia | omega), ?_⟩
  dsimp only [Sig.cel]
  walk_at "W"
  refine AT.list ?_ (by intro _; rfl)
  walk_at "W"
  refine ⟨_, .inr ⟨_, rfl, setL_same⟩, by simp; (first | lia | omega), ?_⟩
  cases xs with
  | nil =>
    refine if_ff ?_
    walk_at "W"
    exact ⟨rfl, rfl⟩
  | cons x r =>
    refine if_tt ?_
    walk_at "W"
    refine AO.itemL setL_same (by (first | lia | omega)) (by (first | lia | omega)) (getD_of (i := 0) (by simp)) ?_
    walk_at "W"
    refine ⟨a, _, 0, rfl, rfl, setL_same, by (first | lia | omega), by (first | lia | omega), by simp <;> (first | lia | omega), ?_⟩
    dsimp only [Sig.cel]
    rw [setL_setL, show ((x :: r).map pr).set (0 : Int).toNat (pr y) = ((x :: r).set 0 y).map pr from by simp]
    walk_at "W"
    refine AX.expr (AE.callFn (AE.glob (g_siftup B) ⟨_, rfl, ⟨_, _, B.K 110 _ rfl, rfl⟩, ?_⟩))
    walk_at "W"
    refine AC.mono (siftup_ok B (xs := (x :: r).set 0 y) (pos := 0) setL_same (by simp) (by simp at hlen ⊢; (first | lia | omega))) ?_
    rintro d L' ⟨rfl, rfl⟩
    refine ⟨rfl, ?_⟩
    walk_at "W"
    refine ⟨rfl, ?_⟩
    dsimp only
    rw [setL_setL, if_neg (by simp)]
end
end
section
open PySem PySem.W PyProof.Rows
set_option maxRecDepth 10000

section
variable {c : Cx} {n : Nat} {env : Env} {σ : Sig} {pos : Pos}
theorem AT.boolE {x : Expr} {Q : Bool → Sig → Prop} (h : AE c n env x σ (fun d σ₁ => ∃ b, d = .bool b ∧ Q b σ₁))
    (he : ∀ whole, isTrue x env whole = (do let v ← whole; standAt x.pos; holding [v] (truthy v)) := by intro _; rfl) : AT c n env x σ Q := by
  refine .val (AW.mono h fun d σ₁ ⟨b, q1, q⟩ Z A s v hr r e => ?_) he
  subst q1; simp only [Rep] at e; subst e
  exact wpAny_truthy_bool (.pure r rfl q)
theorem AE.strT {x : Str} {l : List Nat} {k : Nat} {Q : D → Sig → Prop} (hx : x = tx l) (h : Q (.str (tx l)) σ) : AE c n env (.Constant (.str x) k pos) σ Q := by subst hx; exact .str h
end
section
variable {c : Cx} {n : Nat} {L : Addr → Option Cel}
theorem ifmt_ok (B : BaseOk c) {m : Int} : AC c (n + 1) (.ref 21) [.int m] [] L (fun d L' => d = .int (Builtin.bitAnd m 61440) ∧ L' = L) := by
  refine AC.fn (names := [Str.ofString "mode"]) ⟨⟨_, B.K 21 _ rfl, rfl⟩, ⟨_, _, _, _, rfl, B.K 20 _ rfl, rfl, rfl⟩, rfl, rfl, rfl, rfl, rfl, rfl, rfl, fn_cells rfl, B.lim⟩ (by decide) (by decide) (by walk_at "bind") ?_
  intro e _
  dsimp only [List.zip, List.zipWith]
  walk_at "W"
  refine AO.band ?_
  exact ⟨rfl, rfl⟩

noncomputable def numI (x : Int) : Int := if x.fmod 2 = 1 then (x.fdiv 2).fmod 4 else if (if x < 0 then -x else x) < 2 ^ 40 then x else x.fmod (2 ^ 40)
theorem number_ok (B : BaseOk c) {x : Int} : AC c (n + 1) (.ref 178) [.int x] [] L (fun d L' => d = .int (numI x) ∧ L' = L) := by
  refine AC.fn (names := [Str.ofString "x"]) ⟨⟨_, B.K 178 _ rfl, rfl⟩, ⟨_, _, _, _, rfl, B.K 177 _ rfl, rfl, rfl⟩, rfl, rfl, rfl, rfl, rfl, rfl, rfl, fn_cells rfl, B.lim⟩ (by decide) (by decide) (by walk_at "bind") ?_
  intro e _
  dsimp only [List.zip, List.zipWith]
  walk_at "W"
  refine AO.fmod (by decide) ?_
  walk_at "W"
  refine waysB (fun h => ?_) (fun h => ?_)
  · walk_at "W"
    refine AO.fdiv (by decide) (by decide) ?_
    walk_at "W"
    refine AO.fmod (by decide) ?_
    refine ⟨?_, rfl⟩
    have h' : x.fmod 2 = 1 := by simpa using h
    simp only [numI, h', if_true, F.val]
  · have h' : ¬ x.fmod 2 = 1 := by simpa using h
    walk_at "W"
    refine AE.callB (AE.built (b_abs B) ⟨rfl, ?_⟩)
    walk_at "W"
    refine AB.abs ?_
    walk_at "W"
    refine AO.pow (by decide) (by decide) ?_
    walk_at "W"
    refine ways (fun h2 => ?_) (fun h2 => ?_)
    · walk_at "W"
      refine ⟨?_, rfl⟩
      have h2' : (if x < 0 then -x else x) < 2 ^ 40 := h2
      simp only [numI, h', if_false, h2', if_true, F.val]
    · walk_at "W"
      refine AO.pow (by decide) (by decide) ?_
      refine AO.fmod (by decide) ?_
      refine ⟨?_, rfl⟩
      have h2' : ¬ (if x < 0 then -x else x) < 2 ^ 40 := h2
      simp only [numI, h', if_false, h2', F.val]
      rfl
end
end
section
open PySem PySem.W PyProof.Rows
set_option maxRecDepth 10000

theorem ints_at {ss : List Int} {i : Nat} (h : i < ss.length) : (ss.map D.int)[i]? = some (.int (ss.getD i 0)) := by simp [h]
section
variable {c : Cx} {n : Nat} {L : Addr → Option Cel}
theorem medianLow_ok (B : BaseOk c) {ns : List Int} (h0 : 0 < ns.length) (h64 : ns.length < 64) : AC c (n + 1) (.ref 156) [.lst (ns.map D.int)] [] L (fun d L' => (∃ ss : List Int, ss.Perm ns ∧ ss.Pairwise (· ≤ ·) ∧ d = .int (ss.getD ((ns.length - 1) / 2) 0)) ∧ L' = L) := by
  refine AC.fn (names := [Str.ofString "data"]) ⟨⟨_, B.K 156 _ rfl, rfl⟩, ⟨_, _, _, _, rfl, B.K 155 _ rfl, rfl, rfl⟩, rfl, rfl, rfl, rfl, rfl, rfl, rfl, fn_cells rfl, B.lim⟩ (by decide) (by decide) (by walk_at "bind") ?_
  intro e _
  dsimp only [List.zip, List.zipWith]
  walk_at "W"
  refine AE.callB (AE.built (b_sorted B) ⟨rfl, ?_⟩)
  walk_at "W"
  refine AB.sorted (.inl rfl) h64 fun ss hp hs => ?_
  have hl : ss.length = ns.length := hp.length_eq
  walk_at "W"
  refine AE.callB (AE.built (b_len B) ⟨rfl, ?_⟩)
  walk_at "W"
  refine AB.len (.inl rfl) (by simp; omega) ?_
  simp only [List.length_map]
  walk_at "W"
  refine waysB (fun h => ?_) (fun h => ?_)
  · exfalso; have := beq_iff_eq.mp h; omega
  walk_at "W"
  refine AO.fmod (by decide) ?_
  walk_at "W"
  have e1 : ((ss.length : Int)).fdiv 2 = ((ss.length / 2 : Nat) : Int) := by rw [Int.fdiv_eq_ediv_of_nonneg _ (by decide)]; omega
  have e2 : ((ss.length : Int)).fmod 2 = ((ss.length % 2 : Nat) : Int) := by rw [Int.fmod_eq_emod_of_nonneg _ (by decide)]; omega
  rw [e2]
  refine waysB (fun h => ?_) (fun h => ?_)
  · walk_at "W"
    refine AO.fdiv (by decide) (by decide) ?_
    rw [e1]
    refine AO.itemI (.inl rfl) (by omega) (ints_at (i := ss.length / 2) (by omega)) ?_
    refine ⟨⟨ss, hp, hs, ?_⟩, rfl⟩
    have : ss.length % 2 = 1 := by simp at h; omega
    simp only [F.val]; congr 2; omega
  · walk_at "W"
    refine AO.fdiv (by decide) (by decide) ?_
    rw [e1]
    walk_at "W"
    have : ss.length % 2 = 0 := by simp at h; omega
    have e3 : ((ss.length / 2 : Nat) : Int) - 1 = ((ss.length / 2 - 1 : Nat) : Int) := by omega
    rw [e3]
    refine AO.itemI (.inl rfl) (by omega) (ints_at (i := ss.length / 2 - 1) (by omega)) ?_
    refine ⟨⟨ss, hp, hs, ?_⟩, rfl⟩
    simp only [F.val]; congr 2; omega
theorem medianHigh_ok (B : BaseOk c) {ns : List Int} (h0 : 0 < ns.length) (h64 : ns.length < 64) : AC c (n + 1) (.ref 163) [.lst (ns.map D.int)] [] L (fun d L' => (∃ ss : List Int, ss.Perm ns ∧ ss.Pairwise (· ≤ ·) ∧ d = .int (ss.getD (ns.length / 2) 0)) ∧ L' = L) := by
  refine AC.fn (names := [Str.ofString "data"]) ⟨⟨_, B.K 163 _ rfl, rfl⟩, ⟨_, _, _, _, rfl, B.K 162 _ rfl, rfl, rfl⟩, rfl, rfl, rfl, rfl, rfl, rfl, rfl, fn_cells rfl, B.lim⟩ (by decide) (by decide) (by walk_at "bind") ?_
  intro e _
  dsimp only [List.zip, List.zipWith]
  walk_at "W"
  refine AE.callB (AE.built (b_sorted B) ⟨rfl, ?_⟩)
  walk_at "W"
  refine AB.sorted (.inl rfl) h64 fun ss hp hs => ?_
  have hl : ss.length = ns.length := hp.length_eq
  walk_at "W"
  refine AE.callB (AE.built (b_len B) ⟨rfl, ?_⟩)
  walk_at "W"
  refine AB.len (.inl rfl) (by simp; omega) ?_
  simp only [List.length_map]
  walk_at "W"
  refine waysB (fun h => ?_) (fun h => ?_)
  · exfalso; have := beq_iff_eq.mp h; omega
  walk_at "W"
  have e1 : ((ss.length : Int)).fdiv 2 = ((ss.length / 2 : Nat) : Int) := by rw [Int.fdiv_eq_ediv_of_nonneg _ (by decide)]; omega
  refine AO.fdiv (by decide) (by decide) ?_
  rw [e1]
  refine AO.itemI (.inl rfl) (by omega) (ints_at (i := ss.length / 2) (by omega)) ?_
  refine ⟨⟨ss, hp, hs, ?_⟩, rfl⟩
  simp only [F.val, hl]
end
end
section
open PySem PySem.W PyProof.Rows
theorem steps_up' (a : Int) (m : Nat) : steps a 1 (m + 1) = .int a :: steps (a + 1) 1 m := by
  unfold steps
  rw [List.range_succ_eq_map, List.map_cons, List.map_map]
  congr 1
  · simp
  · apply List.map_congr_left; intro i _; show D.int _ = D.int _; congr 1; simp; (first | lia | omega)
section
variable {c : Cx} {n : Nat} {env : Env} {σ : Sig} {target : Expr} {body : List Stmt} {E B : Sig → Prop} {R : D → Sig → Prop} {a : Int}
/-- a loop over ints by ones, by what holds ahead of each turn -/
theorem AFor.up {m : Nat} (I : Nat → Sig → Prop) (h0 : I 0 σ) (hE : ∀ σ, I m σ → E σ)
    (step : ∀ j σ, j < m → I j σ → AS c n env target (.int (a + (j : Int))) σ (fun σ₁ => AX c n env body σ₁ (LoopQ (I (j + 1)) B R))) : AFor c n env target body E B R (steps a 1 m) σ := by
  refine AFor.ind (fun items σ => ∃ j k : Nat, j + k = m ∧ items = steps (a + j) 1 k ∧ I j σ) ⟨0, m, Nat.zero_add m, by simp, h0⟩ ?_ ?_
  · rintro σ ⟨j, k, hjk, hit, hI⟩
    cases k with
    | zero => rw [Nat.add_zero] at hjk; subst hjk; exact hE σ hI
    | succ k => rw [steps_up'] at hit; cases hit
  · rintro d ds σ ⟨j, k, hjk, hit, hI⟩
    cases k with
    | zero => cases hit
    | succ k =>
      rw [steps_up'] at hit
      obtain ⟨rfl, rfl⟩ := List.cons.inj hit
      refine AS.mono (step j σ (by (first | lia | omega)) hI) fun σ₁ h => AX.mono h fun f σ₂ h => ?_
      have hI' : ∀ σ₃, I (j + 1) σ₃ → ∃ j' k' : Nat, j' + k' = m ∧ steps (a + j + 1) 1 k = steps (a + j') 1 k' ∧ I j' σ₃ := fun σ₃ h => ⟨j + 1, k, by (first | lia | omega), by rw [Int.add_assoc]; rfl, h⟩
      cases f with
      | next => exact hI' _ h
      | cont => exact hI' _ h
      | brk => exact h
      | ret d => exact h
end
end
section
open PySem PySem.W PyProof.Rows
set_option maxRecDepth 10000

theorem bits_small {x : Int} (h : x.natAbs < 2 ^ 64) : Builtin.Int.intBits x ≤ 64 := by
  unfold Builtin.Int.intBits
  split
  · (first | lia | omega)
  · rename_i q
    have h0 : x.natAbs ≠ 0 := by simp at q; (first | lia | omega)
    have := (Nat.log2_lt h0 (k := 64)).mpr h
    (first | lia | omega)
theorem mulOk {a b : Int} (h : b.natAbs < 2 ^ 64) : IntMulOk a b := .of_right (bits_small h)
theorem rangeUp {a b : Int} (h : a ≤ b) : Builtin.Range.rangeSize a b 1 = (((b - a).toNat : Nat) : Int) := by
  rw [rangeSize_one]; split <;> (first | lia | omega)
theorem steps_up (a : Int) (m : Nat) : steps a 1 (m + 1) = .int a :: steps (a + 1) 1 m := by
  unfold steps
  rw [List.range_succ_eq_map, List.map_cons, List.map_map]
  congr 1
  · congr 1; (first | lia | omega)
  · apply List.map_congr_left
    intro i _
    simp only [Function.comp]
    congr 1; (first | lia | omega)
section
variable {c : Cx} {n : Nat} {env : Env} {σ : Sig} {target : Expr}
theorem AI.up {a b : Int} {K : List D → Sig → Prop} (h : a ≤ b) (ha : -1000000 < a) (hb : b < 1000000) (hk : K (steps a 1 (b - a).toNat) σ) : AI c n env target (.rng a b 1) σ K := by
  have e := rangeUp h
  refine AI.range ?_ (by rw [e, Int.toNat_natCast]; exact hk) (by rw [e]; (first | lia | omega))
  have f : ∀ x : Int, -10000000 < x → x < 10000000 → Builtin.Range.rangeFitsLong x = true := fun x h1 h2 => by
    simp only [Builtin.Range.rangeFitsLong, Bool.and_eq_true, decide_eq_true_eq]; (first | lia | omega)
  unfold Builtin.Range.small
  rw [e, f a (by (first | lia | omega)) (by (first | lia | omega)), f b (by (first | lia | omega)) (by (first | lia | omega)), f 1 (by (first | lia | omega)) (by (first | lia | omega)), f _ (by (first | lia | omega)) (by (first | lia | omega)), if_pos (by decide), f (b + (1 - 1)) (by (first | lia | omega)) (by (first | lia | omega))]
  simp
theorem AE.ifeD {test a b : Expr} {pos : Pos} {v : D} {Q : D → Sig → Prop} (h : AT c n env test σ (fun x σ₁ => σ₁ = σ ∧ if x = true then AE c n env a σ (fun d σ₂ => d = v ∧ σ₂ = σ) else AE c n env b σ (fun d σ₂ => d = v ∧ σ₂ = σ))) (hq : Q v σ) : AE c n env (.IfExp test a b pos) σ Q := by
  refine AE.ife (AT.mono h ?_)
  rintro x σ₁ ⟨rfl, h⟩
  cases x with
  | true => exact AE.mono h fun d σ₂ ⟨q1, q2⟩ => by subst q1 q2; exact hq
  | false => exact AE.mono h fun d σ₂ ⟨q1, q2⟩ => by subst q1 q2; exact hq
end
theorem ways2 {p : Prop} [Decidable p] {R X Y : Prop} (hr : R) (h1 : p → X) (h2 : ¬ p → Y) : ∃ b, D.bool (decide p) = .bool b ∧ R ∧ (if b = true then X else Y) :=
  let ⟨b, e, h⟩ := ways h1 h2; ⟨b, e, hr, h⟩
section
variable {c : Cx} {n : Nat} {L : Addr → Option Cel}

noncomputable def exJ (k i : Nat) : Nat := if i * 13 / k < 1 then 1 else if i * 13 / k > 11 then 11 else i * 13 / k
noncomputable def exN (ss : List Int) (k i : Nat) : Int := ss.getD (exJ k i - 1) 0 * ((k : Int) - ((i : Int) * 13 - exJ k i * k)) + ss.getD (exJ k i) 0 * ((i : Int) * 13 - exJ k i * k)

/-- quantiles by the exclusive method; P tells twice each cut -/
theorem quantEx_body (B : BaseOk c) {ns : List Int} {k : Nat} {P : List Int → Nat → Int} (hl : ns.length = 12) (hk : 2 ≤ k) (hk' : k < 100) {kw : List (Str × D)}
    (hb : ∀ fd o, c.base.get? 171 = some o → o.data = .func fd → ∀ Z A s vs us, Room n A → RelG c Z L s → RepL Z [.lst (ns.map D.int)] vs → RepL Z (kw.map (·.2)) us →
      wpc c A (bindArgs fd ⟨vs, (kw.map (·.1)).zip us⟩) (fun binds s' => ∃ vs', binds = [Str.ofString "data", Str.ofString "n", Str.ofString "method"].zip vs' ∧ RepL Z [.lst (ns.map D.int), .int k, .str (Str.ofString "exclusive")] vs' ∧ s' = s) s)
    (hP : ∀ ss : List Int, ss.Perm ns → ss.Pairwise (· ≤ ·) → ∀ i, 1 ≤ i → i < k → 2 * exN ss k i = k * P ss i ∧ (P ss i).natAbs < 2 ^ 53) :
    AC c (n + 1) (.ref 171) [.lst (ns.map D.int)] kw L (fun d L' => (∃ ss : List Int, ss.Perm ns ∧ ss.Pairwise (· ≤ ·) ∧ d = .lst ((List.range (k - 1)).map fun i => .flt (half (P ss (i + 1))))) ∧ L' = L) := by
  refine AC.body (names := [Str.ofString "data", Str.ofString "n", Str.ofString "method"]) ⟨⟨_, B.K 171 _ rfl, rfl⟩, ⟨_, _, _, _, rfl, B.K 170 _ rfl, rfl, rfl⟩, rfl, rfl, rfl, rfl, rfl, rfl, rfl, fn_cells rfl, B.lim⟩ (by decide) (by decide) (hb _ _ (B.K 171 _ rfl) rfl) ?_
  intro e _
  dsimp only [List.zip, List.zipWith]
  walk_at "W"
  refine ways (fun h => ?_) (fun h => ?_)
  · exfalso; (first | lia | omega)
  walk_at "W"
  refine AE.callB (AE.built (b_sorted B) ⟨rfl, ?_⟩)
  walk_at "W"
  refine AB.sorted (.inl rfl) (by (first | lia | omega)) fun ss hp hs => ?_
  have hsl : ss.length = 12 := by rw [hp.length_eq, hl]
  walk_at "W"
  refine AE.callB (AE.built (b_len B) ⟨rfl, ?_⟩)
  walk_at "W"
  refine AB.len (.inl rfl) (by simp; (first | lia | omega)) ?_
  simp only [List.length_map, hsl]
  rw [show ((12 : Nat) : Int) = 12 from rfl]
  walk_at "W"
  refine ways (fun h => ?_) (fun h => ?_)
  · exfalso; revert h; decide
  walk_at "W"
  rw [show Str.ofString "exclusive" = tx [101, 120, 99, 108, 117, 115, 105, 118, 101] from by kernel_rfl, show Str.ofString "inclusive" = tx [105, 110, 99, 108, 117, 115, 105, 118, 101] from by kernel_rfl]
  refine AO.eqS ?_
  refine waysB (fun h => ?_) (fun h => ?_)
  · exfalso; revert h; decide
  walk_at "W"
  refine AO.eqS ?_
  refine waysB (fun _ => ?_) (fun h => ?_)
  · walk_at "W"
    refine AE.listM ?_
    walk_at "W"
    refine ⟨by decide, fun a ha => ?_⟩
    dsimp only [Sig.cel]
    walk_at "W"
    refine AX.for_ (AEI.data ?_)
    refine AE.callT (AE.built (b_range B) ⟨rfl, ?_⟩)
    walk_at "W"
    refine AB.range2 ?_
    refine AI.up (by (first | lia | omega)) (by (first | lia | omega)) (by (first | lia | omega)) ?_
    rw [show ((k : Int) - 1).toNat = k - 1 from by (first | lia | omega)]
    refine AFor.up (fun j σ => Sle σ ⟨[(Str.ofString "data", .lst (ss.map D.int)), (Str.ofString "n", .int k), (Str.ofString "ld", .int 12), (Str.ofString "m", .int (12 + 1)), (Str.ofString "result", .val (.ref a))],
        setL L a (.list ((List.range j).map fun i => .flt (half (P ss (i + 1)))))⟩) ?_ ?_ ?_
    · walk_at "sle"
    · intro σ hs'
      refine AX.weaken ?_ hs'
      refine AX.frz (x := Str.ofString "result") (a := a) rfl setL_same ?_
      dsimp only
      rw [eraseL_setL ha]
      walk_at "W"
      exact ⟨⟨ss, hp, hs, rfl⟩, rfl⟩
    · intro j σ hjlt hs'
      refine AS.weaken ?_ hs'
      refine AS.name ?_ ⟨rfl, .inl rfl⟩
      walk_at "W"
      refine AO.mul ?_ (mulOk (by decide))
      walk_at "W"
      refine AO.fdiv (by (first | lia | omega)) (by (first | lia | omega)) ?_
      have e1 : ((1 + (j : Int)) * (12 + 1)).fdiv k = (((j + 1) * 13 / k : Nat) : Int) := by
        rw [Int.fdiv_eq_ediv_of_nonneg _ (by (first | lia | omega)), Int.natCast_ediv]
        congr 1
        (first | lia | omega)
      rw [e1]
      walk_at "A"
      refine AX.assign (AE.ifeD (v := .int ((exJ k (j + 1) : Nat) : Int)) ?_ ?_)
      · walk_at "W"
        refine ways2 rfl (fun h => ?_) (fun h => ?_)
        · walk_at "W"
          refine ⟨?_, rfl⟩
          rw [exJ, if_pos (by (first | lia | omega))]; rfl
        · refine AE.ifeD (v := .int ((exJ k (j + 1) : Nat) : Int)) ?_ ⟨rfl, rfl⟩
          walk_at "W"
          refine ways2 rfl (fun h' => ?_) (fun h' => ?_)
          · walk_at "W"
            refine ⟨?_, rfl⟩
            rw [exJ, if_neg (by (first | lia | omega)), if_pos (by (first | lia | omega))]; rfl
          · walk_at "W"
            refine ⟨?_, rfl⟩
            rw [exJ, if_neg (by (first | lia | omega)), if_neg (by (first | lia | omega))]
      walk_at "W"
      have hJ : 1 ≤ exJ k (j + 1) ∧ exJ k (j + 1) ≤ 11 := by
        unfold exJ; split
        · (first | lia | omega)
        · split <;> (first | lia | omega)
      refine AO.mul ?_ (mulOk (by decide))
      walk_at "W"
      refine AO.mul ?_ (mulOk (by (first | lia | omega)))
      walk_at "W"
      have hJ2 : exJ k (j + 1) * k ≤ 1100 := Nat.le_trans (Nat.mul_le_mul hJ.2 (Nat.le_of_lt hk')) (by decide)
      rw [show ((exJ k (j + 1) : Nat) : Int) - 1 = ((exJ k (j + 1) - 1 : Nat) : Int) from by (first | lia | omega)]
      refine AO.itemI (.inl rfl) (by (first | lia | omega)) (ints_at (i := exJ k (j + 1) - 1) (by (first | lia | omega))) ?_
      walk_at "W"
      have e3 : ((exJ k (j + 1) : Nat) : Int) * (k : Int) = ((exJ k (j + 1) * k : Nat) : Int) := by push_cast; rfl
      refine AO.mul ?_ (mulOk (by rw [e3]; (first | lia | omega)))
      walk_at "W"
      refine AO.itemI (.inl rfl) (by (first | lia | omega)) (ints_at (i := exJ k (j + 1)) (by (first | lia | omega))) ?_
      walk_at "W"
      refine AO.mul ?_ (mulOk (by rw [e3]; (first | lia | omega)))
      walk_at "W"
      obtain ⟨p1, p2⟩ := hP ss hp hs (j + 1) (by (first | lia | omega)) (by (first | lia | omega))
      refine AO.div (p := P ss (j + 1)) (by (first | lia | omega)) (by (first | lia | omega)) p2 ?_ ?_
      · rw [← p1]
        unfold exN
        rw [show (1 + (j : Int)) * (12 + 1) = ((j + 1 : Nat) : Int) * 13 from by (first | lia | omega)]
      walk_at "W"
      refine AX.expr (AE.append ?_ (by rfl) (by rfl) (by rfl))
      walk_at "W"
      refine ⟨a, _, rfl, setL_same, ?_⟩
      walk_at "W"
      refine ⟨_, setL_same, by simp; (first | lia | omega), rfl, ?_⟩
      dsimp only [Sig.cel]
      rw [setL_setL]
      walk_at "W"
      show Sle _ _
      rw [List.range_succ, List.map_append]
      walk_at "sle"
  · exfalso; revert h; decide

noncomputable def quantD (P : Params) : Array DictEntry := match (hd.heap_1 P).lookup 164 with
  | some ⟨_, _, .dict es _, _⟩ => es
  | _ => #[]
theorem quant_keys (P : Params) : StrKeys (quantD P) := by
  have h : (quantD P).toList.all (fun e => match e.key with | .str _ _ => true | _ => false) = true := by kernel_rfl
  intro e he
  have := List.all_eq_true.mp h e (by simpa using he)
  split at this
  · rename_i n t q; exact ⟨n, t, q⟩
  · cases this
theorem quant_ns (B : BaseOk c) : c.base.Ns 164 (nsFind (quantD c.w.params)) := ⟨_, quantD c.w.params, _, B.K 164 _ rfl, rfl, quant_keys _, fun _ => rfl⟩
theorem quant_method (P : Params) : ∃ t, nsFind (quantD P) (Str.ofString "method") = some (.str (Str.ofString "exclusive") t) := by
  have : (match nsFind (quantD P) (Str.ofString "method") with | some (.str x _) => x == Str.ofString "exclusive" | _ => false) = true := by kernel_rfl
  split at this
  · rename_i x t q; exact ⟨t, by rw [q]; simp at this; rw [this]⟩
  · cases this
theorem quantEx_ok (B : BaseOk c) {ns : List Int} {k : Nat} {P : List Int → Nat → Int} (hl : ns.length = 12) (hk : 2 ≤ k) (hk' : k < 100)
    (hP : ∀ ss : List Int, ss.Perm ns → ss.Pairwise (· ≤ ·) → ∀ i, 1 ≤ i → i < k → 2 * exN ss k i = k * P ss i ∧ (P ss i).natAbs < 2 ^ 53) :
    AC c (n + 1) (.ref 171) [.lst (ns.map D.int)] [(Str.ofString "n", .int k)] L (fun d L' => (∃ ss : List Int, ss.Perm ns ∧ ss.Pairwise (· ≤ ·) ∧ d = .lst ((List.range (k - 1)).map fun i => .flt (half (P ss (i + 1))))) ∧ L' = L) := by
  refine quantEx_body B hl hk hk' (fun fd o ho hd Z A s vs us hr r hv hu => ?_) hP
  have h0 := B.K 171 _ rfl
  rw [ho] at h0
  cases h0
  cases hd
  simp only [RepL] at hv hu
  obtain ⟨v, _, rfl, hv, rfl⟩ := hv
  simp only [List.map_cons, List.map_nil, RepL, Rep] at hu
  obtain ⟨_, _, rfl, ⟨t, rfl⟩, rfl⟩ := hu
  have hn := r.nsBase (quant_ns B)
  obtain ⟨t', ht'⟩ := quant_method c.w.params
  unfold bindArgs
  refine wpAny_bind (wpAny_of_eq (a := ([(Str.ofString "data", v), (Str.ofString "n", Value.int k t)], [])) rfl ?_)
  refine wpAny_bind (wpAny_of_eq (a := Option.none) rfl ?_)
  refine wpAny_ite_false rfl ?_
  refine wpAny_ite_false rfl ?_
  refine wpAny_bind (wpAny_of_eq (a := [(Str.ofString "data", v), (Str.ofString "n", Value.int k t)]) rfl ?_)
  refine wpAny_bind ?_
  show wpAny _ _ (forIn [Str.ofString "n", Str.ofString "method"] _ _) _ _ _
  rw [List.forIn_cons]
  refine wpAny_bind (wpAny_ite_false rfl (wpAny_pure ?_))
  dsimp only
  rw [List.forIn_cons]
  refine wpAny_bind (wpAny_ite_true rfl (wpAny_bind ?_))
  refine wpAny_nsGet hn ?_
  rw [ht']
  refine wpAny_pure ?_
  dsimp only
  rw [List.forIn_nil]
  refine wpAny_pure (wpAny_ite_false rfl ?_)
  exact wpAny_pure ⟨[v, .int k t, .str (Str.ofString "exclusive") t'], rfl, RepL.cons hv (RepL.cons rep_int (RepL.cons rep_str RepL.nil)), rfl⟩
end
end
section
open PySem PySem.W PyProof.Rows
set_option maxRecDepth 10000

section
variable {c : Cx} {n : Nat} {L : Addr → Option Cel}
noncomputable def inN (ss : List Int) (k i : Nat) : Int := ss.getD (i * 11 / k) 0 * ((k : Int) - ((i * 11 % k : Nat) : Int)) + ss.getD (i * 11 / k + 1) 0 * ((i * 11 % k : Nat) : Int)

/-- quantiles by the inclusive method; P tells twice each cut -/
theorem quantIn_ok (B : BaseOk c) {ns : List Int} {k : Nat} {P : List Int → Nat → Int} (hl : ns.length = 12) (hk : 2 ≤ k) (hk' : k < 100)
    (hP : ∀ ss : List Int, ss.Perm ns → ss.Pairwise (· ≤ ·) → ∀ i, 1 ≤ i → i < k → 2 * inN ss k i = k * P ss i ∧ (P ss i).natAbs < 2 ^ 53) :
    AC c (n + 1) (.ref 171) [.lst (ns.map D.int)] [(Str.ofString "n", .int k), (Str.ofString "method", .str (tx [105, 110, 99, 108, 117, 115, 105, 118, 101]))] L (fun d L' => (∃ ss : List Int, ss.Perm ns ∧ ss.Pairwise (· ≤ ·) ∧ d = .lst ((List.range (k - 1)).map fun i => .flt (half (P ss (i + 1))))) ∧ L' = L) := by
  refine AC.body (names := [Str.ofString "data", Str.ofString "n", Str.ofString "method"]) (ds' := [.lst (ns.map D.int), .int k, .str (tx [105, 110, 99, 108, 117, 115, 105, 118, 101])]) ⟨⟨_, B.K 171 _ rfl, rfl⟩, ⟨_, _, _, _, rfl, B.K 170 _ rfl, rfl, rfl⟩, rfl, rfl, rfl, rfl, rfl, rfl, rfl, fn_cells rfl, B.lim⟩ (by decide) (by decide) (fun Z A s vs us hr r hv hu => ?_) ?_
  · simp only [RepL] at hv
    obtain ⟨v, _, rfl, hv, rfl⟩ := hv
    simp only [List.map_cons, List.map_nil, RepL, Rep] at hu
    obtain ⟨_, _, rfl, ⟨t, rfl⟩, _, _, rfl, ⟨u, rfl⟩, rfl⟩ := hu
    refine wpAny_of_eq (a := [(Str.ofString "data", v), (Str.ofString "n", Value.int k t), (Str.ofString "method", Value.str (tx [105, 110, 99, 108, 117, 115, 105, 118, 101]) u)]) rfl ?_
    exact ⟨[v, .int k t, .str _ u], rfl, RepL.cons hv (RepL.cons rep_int (RepL.cons rep_str RepL.nil)), rfl⟩
  intro e _
  dsimp only [List.zip, List.zipWith]
  walk_at "W"
  refine ways (fun h => ?_) (fun h => ?_)
  · exfalso; (first | lia | omega)
  walk_at "W"
  refine AE.callB (AE.built (b_sorted B) ⟨rfl, ?_⟩)
  walk_at "W"
  refine AB.sorted (.inl rfl) (by (first | lia | omega)) fun ss hp hs => ?_
  have hsl : ss.length = 12 := by rw [hp.length_eq, hl]
  walk_at "W"
  refine AE.callB (AE.built (b_len B) ⟨rfl, ?_⟩)
  walk_at "W"
  refine AB.len (.inl rfl) (by simp; (first | lia | omega)) ?_
  simp only [List.length_map, hsl]
  rw [show ((12 : Nat) : Int) = 12 from rfl]
  walk_at "W"
  refine ways (fun h => ?_) (fun h => ?_)
  · exfalso; revert h; decide
  walk_at "W"
  rw [show Str.ofString "inclusive" = tx [105, 110, 99, 108, 117, 115, 105, 118, 101] from by kernel_rfl]
  refine AO.eqS ?_
  refine waysB (fun _ => ?_) (fun h => ?_)
  · walk_at "W"
    refine AE.listM ?_
    walk_at "W"
    refine ⟨by decide, fun a ha => ?_⟩
    dsimp only [Sig.cel]
    walk_at "W"
    refine AX.for_ (AEI.data ?_)
    refine AE.callT (AE.built (b_range B) ⟨rfl, ?_⟩)
    walk_at "W"
    refine AB.range2 ?_
    refine AI.up (by (first | lia | omega)) (by (first | lia | omega)) (by (first | lia | omega)) ?_
    rw [show ((k : Int) - 1).toNat = k - 1 from by (first | lia | omega)]
    refine AFor.up (fun j σ => Sle σ ⟨[(Str.ofString "data", .lst (ss.map D.int)), (Str.ofString "n", .int k), (Str.ofString "ld", .int 12), (Str.ofString "m", .int (12 - 1)), (Str.ofString "result", .val (.ref a))],
        setL L a (.list ((List.range j).map fun i => .flt (half (P ss (i + 1)))))⟩) ?_ ?_ ?_
    · walk_at "sle"
    · intro σ hs'
      refine AX.weaken ?_ hs'
      refine AX.frz (x := Str.ofString "result") (a := a) rfl setL_same ?_
      dsimp only
      rw [eraseL_setL ha]
      walk_at "W"
      exact ⟨⟨ss, hp, hs, rfl⟩, rfl⟩
    · intro j σ hjlt hs'
      refine AS.weaken ?_ hs'
      refine AS.name ?_ ⟨rfl, .inl rfl⟩
      walk_at "W"
      refine AX.assignT ?_ (by rfl) (by rfl)
      refine AE.callB (AE.built (b_divmod B) ⟨rfl, ?_⟩)
      walk_at "W"
      refine AO.mul ?_ (mulOk (by decide))
      walk_at "W"
      refine AB.divmod (by (first | lia | omega)) (by (first | lia | omega)) ?_
      have e0 : (1 + (j : Int)) * (12 - 1) = (((j + 1) * 11 : Nat) : Int) := by (first | lia | omega)
      have e1 : ((1 + (j : Int)) * (12 - 1)).fdiv k = (((j + 1) * 11 / k : Nat) : Int) := by
        rw [e0, Int.fdiv_eq_ediv_of_nonneg _ (by (first | lia | omega)), Int.natCast_ediv]
      have e2 : ((1 + (j : Int)) * (12 - 1)).fmod k = (((j + 1) * 11 % k : Nat) : Int) := by
        rw [e0, Int.fmod_eq_emod_of_nonneg _ (by (first | lia | omega)), Int.natCast_emod]
      rw [e1, e2]
      have hJ : (j + 1) * 11 / k ≤ 10 := by
        have : (j + 1) * 11 / k < 11 := Nat.div_lt_of_lt_mul (by (first | lia | omega))
        (first | lia | omega)
      have hR : (j + 1) * 11 % k < k := Nat.mod_lt _ (by (first | lia | omega))
      obtain ⟨p1, p2⟩ := hP ss hp hs (j + 1) (by (first | lia | omega)) (by (first | lia | omega))
      unfold inN at p1
      generalize (j + 1) * 11 / k = J at *
      generalize (j + 1) * 11 % k = R at *
      refine AS.pair ?_ ⟨rfl, .inl rfl⟩ ⟨rfl, .inl rfl⟩
      refine AX.norm2 (m' := ?mm) ?hh ?_
      case hh => (simp only [put, ofString_inj, String.reduceEq, if_true, if_false]; rfl)
      walk_at "W"
      refine AO.itemI (.inl rfl) (by (first | lia | omega)) (ints_at (i := J) (by (first | lia | omega))) ?_
      walk_at "W"
      refine AO.mul ?_ (mulOk (by (first | lia | omega)))
      walk_at "W"
      rw [show ((J : Nat) : Int) + 1 = ((J + 1 : Nat) : Int) from by (first | lia | omega)]
      refine AO.itemI (.inl rfl) (by (first | lia | omega)) (ints_at (i := J + 1) (by (first | lia | omega))) ?_
      walk_at "W"
      refine AO.mul ?_ (mulOk (by (first | lia | omega)))
      walk_at "W"
      refine AO.div (p := P ss (j + 1)) (by (first | lia | omega)) (by (first | lia | omega)) p2 ?_ ?_
      · exact p1
      walk_at "W"
      refine AX.expr (AE.append ?_ (by rfl) (by rfl) (by rfl))
      walk_at "W"
      refine ⟨a, _, rfl, setL_same, ?_⟩
      walk_at "W"
      refine ⟨_, setL_same, by simp; (first | lia | omega), rfl, ?_⟩
      dsimp only [Sig.cel]
      rw [setL_setL]
      walk_at "W"
      show Sle _ _
      rw [List.range_succ, List.map_append]
      walk_at "sle"
  · exfalso; revert h; decide
end
end
section
open PySem PySem.W PyProof.Rows
set_option maxRecDepth 10000

/-! data that stand in the text's own objects -/
mutual
noncomputable def readD (H : Addr → Option Obj) : Nat → Value → Option D
  | 0, _ => Option.none
  | f + 1, v => match v with
    | .int i _ => some (.int i)
    | .str x _ => some (.str x)
    | .ref a => match H a with
      | some ⟨.type "tuple", _, .seq vs _, _⟩ => (readL H f vs.toList).map .tup
      | _ => Option.none
    | _ => Option.none
noncomputable def readL (H : Addr → Option Obj) : Nat → List Value → Option (List D)
  | 0, _ => Option.none
  | f + 1, vs => match vs with
    | [] => some []
    | v :: r => match readD H f v, readL H f r with
      | some d, some ds => some (d :: ds)
      | _, _ => Option.none
end
mutual
theorem readD_ok {H : Addr → Option Obj} {Z : Zone} (hz : ∀ a o, H a = some o → Z a = some (true, o)) : ∀ (f : Nat) (v : Value) (d : D), readD H f v = some d → Rep Z d v
  | 0, _, _, h => by cases h
  | f + 1, v, d, h => by
    unfold readD at h
    split at h
    · cases h; exact rep_int
    · cases h; exact rep_str
    · split at h
      · rename_i a e dd vs ep sl q
        rw [Option.map_eq_some_iff] at h
        obtain ⟨ds, h1, rfl⟩ := h
        simp only [Rep]
        exact ⟨a, _, vs.toList, rfl, hz a _ q, ⟨rfl, ep, by simp⟩, readL_ok hz f _ _ h1⟩
      · cases h
    · cases h
theorem readL_ok {H : Addr → Option Obj} {Z : Zone} (hz : ∀ a o, H a = some o → Z a = some (true, o)) : ∀ (f : Nat) (vs : List Value) (ds : List D), readL H f vs = some ds → RepL Z ds vs
  | 0, _, _, h => by cases h
  | f + 1, vs, ds, h => by
    unfold readL at h
    split at h
    · cases h; exact RepL.nil
    · split at h
      · rename_i d ds' h1 h2
        cases h
        exact RepL.cons (readD_ok hz f _ _ h1) (readL_ok hz f _ _ h2)
      · cases h
end
noncomputable abbrev Row := List (Int × Nat)
noncomputable def rows : List Row := [[(40960, 108), (49152, 115), (32768, 45), (24576, 98), (16384, 100), (8192, 99), (4096, 112)], [(256, 114)], [(128, 119)], [(2112, 115), (2048, 83), (64, 120)], [(32, 114)], [(16, 119)], [(1032, 115), (1024, 83), (8, 120)], [(4, 114)], [(2, 119)], [(513, 116), (512, 84), (1, 120)]]
noncomputable def celD (p : Int × Nat) : D := .tup [.int p.1, .str (tx [p.2])]
noncomputable def rowD (r : Row) : D := .tup (r.map celD)
theorem table_read (P : Params) : readD (fun a => (hd.heap_1 P).lookup a) 20 (.ref 54) = some (.tup (rows.map rowD)) := by kernel_rfl
theorem table_rep {c : Cx} (B : BaseOk c) (Z : Zone) (hz : ∀ a o, c.base.get? a = some o → Z a = some (true, o)) : Rep Z (.tup (rows.map rowD)) (.ref 54) :=
  readD_ok (fun a o h => hz a o (B.K a o h)) 20 _ _ (table_read c.w.params)
noncomputable def signAt (mode : Int) (i : Nat) (r : Row) : Nat := match r.find? (fun p => if i = 0 then Builtin.bitAnd mode 61440 == p.1 else Builtin.bitAnd mode p.1 == p.1) with
  | some p => p.2
  | Option.none => if i = 0 then 63 else 45
noncomputable def fmode (mode : Int) : List Nat := rows.zipIdx.map fun p => signAt mode p.2 p.1

section
variable {c : Cx} {n : Nat} {env : Env} {σ : Sig} {L : Addr → Option Cel} {m : List (Str × D)}
theorem AE.forget {e : Expr} {Q : D → Sig → Prop} (h : AE c n env e σ (fun d σ₁ => ∃ σ₂, Sle σ₁ σ₂ ∧ Q d σ₂)) : AE c n env e σ Q := fun Z A s hr r =>
  wpAny_mono (h Z A s hr r) (fun _ _ ⟨Z₁, _, d, l₁, r₁, e₁, σ₂, hs, q⟩ => ⟨Z₁, σ₂, d, l₁, r₁.le hs, e₁, q⟩) fun _ _ e => e
theorem Sle.dropL {a : Addr} {x : Cel} (h : L a = Option.none) : Sle ⟨m, setL L a x⟩ ⟨m, L⟩ := ⟨fun _ _ e => e, fun b y e => by
  show (if b = a then some x else L b) = _
  have e' : L b = some y := e
  rw [if_neg (by rintro rfl; rw [h] at e'; cases e')]; exact e'⟩
end
theorem fmode_take (m : Int) {j : Nat} (hj : j < 10) : (fmode m).take (j + 1) = (fmode m).take j ++ [signAt m j (rows.getD j [])] := by
  have hl : rows.length = 10 := rfl
  rw [List.take_add_one]
  congr 1
  simp [fmode, hl, hj]
theorem signAt_some {m : Int} {j i : Nat} {r : Row} {p : Int × Nat} (hp : r[i]? = some p) (hb : ∀ q ∈ r.take i, (if j = 0 then Builtin.bitAnd m 61440 == q.1 else Builtin.bitAnd m q.1 == q.1) = false) (h : (if j = 0 then Builtin.bitAnd m 61440 == p.1 else Builtin.bitAnd m p.1 == p.1) = true) : signAt m j r = p.2 := by
  have hlt : i < r.length := (List.getElem?_eq_some_iff.mp hp).1
  have e : r = r.take i ++ (p :: r.drop (i + 1)) := by
    conv => lhs; rw [← List.take_append_drop i r, List.drop_eq_getElem_cons hlt]
    congr 2
    exact (List.getElem?_eq_some_iff.mp hp).2
  unfold signAt
  rw [e, List.find?_append, List.find?_eq_none.mpr (fun q hq => by rw [hb q hq]; exact Bool.false_ne_true), Option.none_or, List.find?_cons, h]
theorem signAt_none {m : Int} {j : Nat} {r : Row} (hb : ∀ q ∈ r, (if j = 0 then Builtin.bitAnd m 61440 == q.1 else Builtin.bitAnd m q.1 == q.1) = false) : signAt m j r = if j = 0 then 63 else 45 := by
  unfold signAt
  rw [List.find?_eq_none.mpr (fun q hq => by rw [hb q hq]; exact Bool.false_ne_true)]
section
variable {c : Cx} {n : Nat} {L : Addr → Option Cel}
theorem filemode_ok (B : BaseOk c) {m : Int} : AC c (n + 2) (.ref 61) [.int m] [] L (fun d L' => d = .str (tx (fmode m)) ∧ L' = L) := by
  refine AC.fn (names := [Str.ofString "mode"]) ⟨⟨_, B.K 61 _ rfl, rfl⟩, ⟨_, _, _, _, rfl, B.K 60 _ rfl, rfl, rfl⟩, rfl, rfl, rfl, rfl, rfl, rfl, rfl, fn_cells rfl, B.lim⟩ (by decide) (by decide) (by walk_at "bind") ?_
  intro e _
  dsimp only [List.zip, List.zipWith]
  walk_at "W"
  refine AE.listM ?_
  walk_at "W"
  refine ⟨by decide, fun a ha => ?_⟩
  dsimp only [Sig.cel]
  walk_at "W"
  refine AX.for_ (AEI.enum (AE.built (b_enumerate B) ⟨rfl, AE.globD (g_filemode_table B) (table_rep B) ⟨_, .inr rfl, ?_⟩⟩))
  refine AFor.ind (fun items σ => ∃ j : Nat, items = (enums (rows.map rowD)).drop j ∧ j ≤ 10 ∧ Sle σ ⟨[(Str.ofString "mode", .int m), (Str.ofString "perm", .val (.ref a))], setL L a (.list (((fmode m).take j).map fun k => D.str (tx [k])))⟩) ⟨0, rfl, by (first | lia | omega), ?_⟩ ?_ ?_
  · walk_at "sle"
  · rintro σ ⟨j, hj, hj', hs⟩
    have : j = 10 := by
      rcases Nat.lt_or_ge j 10 with q | q
      · rw [List.drop_eq_getElem_cons (by simpa [enums, rows] using q)] at hj; cases hj
      · (first | lia | omega)
    subst this
    refine AX.weaken ?_ hs
    walk_at "W"
    refine AE.forget (AE.join ?_ (by rfl) (by rfl) (by rfl))
    refine AE.strT (l := []) (by kernel_rfl) ⟨rfl, ?_⟩
    walk_at "W"
    refine ⟨_, .inr ⟨_, rfl, setL_same⟩, by simp [fmode, rows], _, Sle.dropL ha, ?_, rfl⟩
    have : (fmode m).take 10 = fmode m := List.take_of_length_le (by simp [fmode, rows])
    simp only [F.val, this]
  · rintro d ds σ ⟨j, hj, hj', hs⟩
    have hjl : j < 10 := by
      rcases Nat.lt_or_ge j 10 with q | q
      · exact q
      · rw [List.drop_eq_nil_of_le (by simpa [enums, rows] using q)] at hj; cases hj
    have hjl' : j < (enums (rows.map rowD)).length := by simpa [enums, rows] using hjl
    have hd : d = .tup [.int (j : Int), rowD (rows.getD j [])] ∧ ds = (enums (rows.map rowD)).drop (j + 1) := by
      rw [List.drop_eq_getElem_cons hjl'] at hj
      obtain ⟨h1, h2⟩ := List.cons.inj hj
      refine ⟨?_, h2⟩
      obtain ⟨x, e1, e2⟩ := enums_at (i := j) (List.getElem?_eq_getElem hjl')
      rw [h1, e2]
      have hl : rows.length = 10 := rfl
      simp [hl, hjl] at e1
      rw [← e1]
      simp [hl, hjl]
    obtain ⟨rfl, rfl⟩ := hd
    refine AS.weaken ?_ hs
    refine AS.pair ?_ ⟨rfl, .inl rfl⟩ ⟨rfl, .inl rfl⟩
    refine AX.norm2 (m' := ?mm) ?hh ?_
    case hh => (simp only [put, ofString_inj, String.reduceEq, if_true, if_false]; rfl)
    generalize hrow : rows.getD j [] = row
    have hkey : ((fmode m).take (j + 1)).map (fun k => D.str (tx [k])) = ((fmode m).take j).map (fun k => D.str (tx [k])) ++ [.str (tx [signAt m j row])] := by
      rw [fmode_take m hjl, hrow, List.map_append]; rfl
    have hlen : ((fmode m).take j).length ≤ 1000 := Nat.le_trans (List.length_take_le _ _) (by (first | lia | omega))
    refine AX.forElse (AEI.data ?_)
    unfold rowD
    walk_at "W"
    refine AI.tup ?_
    refine AFor.ind (fun items σ => ∃ i : Nat, items = (row.map celD).drop i ∧ (∀ q ∈ row.take i, (if j = 0 then Builtin.bitAnd m 61440 == q.1 else Builtin.bitAnd m q.1 == q.1) = false) ∧
      Sle σ ⟨[(Str.ofString "mode", .int m), (Str.ofString "perm", .val (.ref a)), (Str.ofString "index", .int j)], setL L a (.list (((fmode m).take j).map fun k => D.str (tx [k])))⟩) ⟨0, rfl, by simp, ?_⟩ ?_ ?_
    · walk_at "sle"
    · rintro σ ⟨i, hi, hb, hs⟩
      have hb' : ∀ q ∈ row, (if j = 0 then Builtin.bitAnd m 61440 == q.1 else Builtin.bitAnd m q.1 == q.1) = false := by
        have : row.length ≤ i := by
          rcases Nat.lt_or_ge i row.length with q | q
          · rw [List.drop_eq_getElem_cons (by simpa using q)] at hi; cases hi
          · exact q
        rwa [List.take_of_length_le this] at hb
      refine AX.weaken ?_ hs
      walk_at "W"
      refine waysB (fun h => ?_) (fun h => ?_)
      · walk_at "W"
        refine AX.expr (AE.append ?_ (by rfl) (by rfl) (by rfl))
        walk_at "W"
        refine ⟨a, _, rfl, setL_same, ?_⟩
        refine AE.strT (l := [63]) (by kernel_rfl) ?_
        refine ⟨_, setL_same, by simpa using hlen, rfl, ?_⟩
        dsimp only [Sig.cel]
        rw [setL_setL]
        walk_at "W"
        show AX _ _ _ _ _ _
        walk_at "W"
        refine ⟨j + 1, rfl, by (first | lia | omega), ?_⟩
        have h0 : j = 0 := by have := beq_iff_eq.mp h; (first | lia | omega)
        rw [hkey, signAt_none hb', if_pos h0]
        walk_at "sle"
      · walk_at "W"
        refine AX.expr (AE.append ?_ (by rfl) (by rfl) (by rfl))
        walk_at "W"
        refine ⟨a, _, rfl, setL_same, ?_⟩
        refine AE.strT (l := [45]) (by kernel_rfl) ?_
        refine ⟨_, setL_same, by simpa using hlen, rfl, ?_⟩
        dsimp only [Sig.cel]
        rw [setL_setL]
        walk_at "W"
        show AX _ _ _ _ _ _
        walk_at "W"
        refine ⟨j + 1, rfl, by (first | lia | omega), ?_⟩
        have h0 : ¬ j = 0 := by have := beq_eq_false_iff_ne.mp h; (first | lia | omega)
        rw [hkey, signAt_none hb', if_neg h0]
        walk_at "sle"
    · rintro d ds σ ⟨i, hi, hb, hs⟩
      have hil : i < row.length := by
        rcases Nat.lt_or_ge i row.length with q | q
        · exact q
        · rw [List.drop_eq_nil_of_le (by simpa using q)] at hi; cases hi
      have hil' : i < (row.map celD).length := by simpa using hil
      rw [List.drop_eq_getElem_cons hil'] at hi
      obtain ⟨rfl, rfl⟩ := List.cons.inj hi
      rw [List.getElem_map]
      unfold celD
      have hp : row[i]? = some row[i] := List.getElem?_eq_getElem hil
      generalize row[i] = p at *
      refine AS.weaken ?_ hs
      refine AS.pair ?_ ⟨rfl, .inl rfl⟩ ⟨rfl, .inl rfl⟩
      refine AX.norm2 (m' := ?m3) ?h3 ?_
      case h3 => (simp only [put, ofString_inj, String.reduceEq, if_false]; rfl)
      have hnext : (if j = 0 then Builtin.bitAnd m 61440 == p.1 else Builtin.bitAnd m p.1 == p.1) = false → ∀ q ∈ row.take (i + 1), (if j = 0 then Builtin.bitAnd m 61440 == q.1 else Builtin.bitAnd m q.1 == q.1) = false := by
        intro h q hq
        rw [List.take_add_one, hp] at hq
        rcases List.mem_append.mp hq with hq | hq
        · exact hb q hq
        · have : q = p := by simpa using hq
          rw [this]; exact h
      walk_at "W"
      refine waysB (fun h => ?_) (fun h => ?_)
      · have h0 : j = 0 := by have := beq_iff_eq.mp h; (first | lia | omega)
        walk_at "W"
        refine AE.callFn (AE.glob (g_S_IFMT B) ⟨_, rfl, ⟨_, _, B.K 21 _ rfl, rfl⟩, ?_⟩)
        walk_at "W"
        refine AC.eq (ifmt_ok B) ?_
        walk_at "W"
        refine waysB (fun h' => ?_) (fun h' => ?_)
        · walk_at "W"
          refine AX.expr (AE.append ?_ (by rfl) (by rfl) (by rfl))
          walk_at "W"
          refine ⟨a, _, rfl, setL_same, ?_⟩
          walk_at "W"
          refine ⟨_, setL_same, by simpa using hlen, rfl, ?_⟩
          dsimp only [Sig.cel]
          rw [setL_setL]
          walk_at "W"
          show AX _ _ _ _ _ _
          walk_at "W"
          refine ⟨j + 1, rfl, by (first | lia | omega), ?_⟩
          rw [hkey, signAt_some hp hb (by rw [if_pos h0]; exact h')]
          walk_at "sle"
        · walk_at "W"
          refine ⟨i + 1, rfl, hnext (by rw [if_pos h0]; exact h'), ?_⟩
          walk_at "sle"
      · have h0 : ¬ j = 0 := by have := beq_eq_false_iff_ne.mp h; (first | lia | omega)
        walk_at "W"
        refine AO.band ?_
        walk_at "W"
        refine waysB (fun h' => ?_) (fun h' => ?_)
        · walk_at "W"
          refine AX.expr (AE.append ?_ (by rfl) (by rfl) (by rfl))
          walk_at "W"
          refine ⟨a, _, rfl, setL_same, ?_⟩
          walk_at "W"
          refine ⟨_, setL_same, by simpa using hlen, rfl, ?_⟩
          dsimp only [Sig.cel]
          rw [setL_setL]
          walk_at "W"
          show AX _ _ _ _ _ _
          walk_at "W"
          refine ⟨j + 1, rfl, by (first | lia | omega), ?_⟩
          rw [hkey, signAt_some hp hb (by rw [if_neg h0]; exact h')]
          walk_at "sle"
        · walk_at "W"
          refine ⟨i + 1, rfl, hnext (by rw [if_neg h0]; exact h'), ?_⟩
          walk_at "sle"
end
end
section
noncomputable abbrev PP := Int × Int
noncomputable abbrev gt0 (xs : List PP) (i : Nat) : PP := xs.getD i (0, 0)

theorem gset {xs : List PP} {i j : Nat} {v : PP} (hi : i < xs.length) : gt0 (xs.set i v) j = if j = i then v else gt0 xs j := by
  unfold gt0
  rw [List.getD_eq_getElem?_getD, List.getD_eq_getElem?_getD, List.getElem?_set]
  by_cases h : i = j
  · subst h; simp [hi]
  · rw [if_neg h, if_neg (fun e => h e.symm)]

/-- the hole may move -/
theorem hole_perm {xs : List PP} {i j : Nat} (hi : i < xs.length) (hj : j < xs.length) (hij : i ≠ j) (v : PP) : ((xs.set i (gt0 xs j)).set j v).Perm (xs.set i v) := by
  rw [List.perm_iff_count]
  intro a
  have hj' : j < (xs.set i (gt0 xs j)).length := by simpa using hj
  rw [List.count_set hj', List.count_set hi, List.count_set hi]
  have e1 : (xs.set i (gt0 xs j))[j] = xs[j] := by rw [List.getElem_set_ne hij]
  have e2 : gt0 xs j = xs[j] := by simp [gt0, hj]
  rw [e1, e2]
  have c1 : (if xs[i] == a then 1 else 0) ≤ List.count a xs := by
    split
    · rename_i h; have := beq_iff_eq.mp h; rw [← this]; exact List.count_pos_iff.mpr (List.getElem_mem hi)
    · (first | lia | omega)
  have c2 : (if xs[j] == a then 1 else 0) ≤ List.count a xs := by
    split
    · rename_i h; have := beq_iff_eq.mp h; rw [← this]; exact List.count_pos_iff.mpr (List.getElem_mem hj)
    · (first | lia | omega)
  (first | lia | omega)

variable {lt : PP → PP → Bool}
theorem sdown_perm (x : PP) (start : Nat) : ∀ (pos : Nat) (xs : List PP), pos < xs.length → (sdown lt x start pos xs).Perm (xs.set pos x) := by
  intro pos
  induction pos using Nat.strongRecOn with
  | _ pos ih =>
    intro xs hp
    rw [sdown]
    split
    · rename_i h
      dsimp only
      split
      · have := ih ((pos - 1) / 2) (by (first | lia | omega)) (xs.set pos (gt0 xs ((pos - 1) / 2))) (by simp; (first | lia | omega))
        exact this.trans (hole_perm hp (by (first | lia | omega)) (by (first | lia | omega)) x)
      · exact .refl _
    · exact .refl _
theorem sup_perm (v : PP) : ∀ (k pos : Nat) (xs : List PP), xs.length - pos = k → pos < xs.length → ((sup lt pos xs).1.set (sup lt pos xs).2 v).Perm (xs.set pos v) := by
  intro k
  induction k using Nat.strongRecOn with
  | _ k ih =>
    intro pos xs hk hp
    by_cases h : 2 * pos + 1 < xs.length
    · generalize hch : (if (decide (2 * pos + 2 < xs.length) && !lt (xs.getD (2 * pos + 1) (0, 0)) (xs.getD (2 * pos + 2) (0, 0))) = true then 2 * pos + 2 else 2 * pos + 1) = ch
      have hb : pos < ch ∧ ch < xs.length := by
        subst hch
        split
        · rename_i q; simp at q; (first | lia | omega)
        · (first | lia | omega)
      rw [sup_step lt h hch.symm]
      have := ih (xs.length - ch) (by (first | lia | omega)) ch (xs.set pos (gt0 xs ch)) (by simp) (by simpa using hb.2)
      exact this.trans (hole_perm hp hb.2 (by (first | lia | omega)) v)
    · rw [sup_stop lt h]
theorem siftup_perm {xs : List PP} {pos : Nat} (hp : pos < xs.length) : (siftup lt xs pos).Perm xs := by
  unfold siftup
  dsimp only
  obtain ⟨hl, hle⟩ := sup_length lt _ pos xs rfl
  refine (sdown_perm _ _ _ _ (by rw [List.length_set, hl]; exact hle hp)).trans ?_
  rw [List.set_set]
  refine (sup_perm _ _ _ _ rfl hp).trans ?_
  have : xs.set pos (xs.getD pos (0, 0)) = xs := by
    rw [show xs.getD pos (0, 0) = xs[pos] by simp [hp]]
    exact List.set_getElem_self hp
  rw [this]

structure LO (lt : PP → PP → Bool) : Prop where
  irr : ∀ a, lt a a = false
  tr : ∀ a b c, lt a b = true → lt b c = true → lt a c = true
  ntr : ∀ a b c, lt a b = false → lt b c = false → lt a c = false
theorem LO.asym (o : LO lt) {a b : PP} (h : lt a b = true) : lt b a = false := by
  cases q : lt b a with
  | false => rfl
  | true => have := o.tr a b a h q; rw [o.irr] at this; cases this
/-- a below b, b not above c: a below c -/
theorem LO.lt_le (o : LO lt) {a b c : PP} (h1 : lt a b = true) (h2 : lt c b = false) : lt c a = false := by
  cases q : lt c a with
  | false => rfl
  | true => have := o.tr c a b q h1; rw [h2] at this; cases this

/-- the nodes from k on lie not above their children -/
noncomputable def HeapFrom (lt : PP → PP → Bool) (k : Nat) (xs : List PP) : Prop := ∀ c, 1 ≤ c → c < xs.length → k ≤ (c - 1) / 2 → lt (gt0 xs c) (gt0 xs ((c - 1) / 2)) = false

/-- h lies below s -/
inductive Dsc (s : Nat) : Nat → Prop
  | refl : Dsc s s
  | step {h : Nat} : 1 ≤ h → Dsc s ((h - 1) / 2) → Dsc s h
theorem Dsc.le {s h : Nat} (d : Dsc s h) : s ≤ h := by
  induction d with
  | refl => exact Nat.le_refl _
  | step h1 _ ih => (first | lia | omega)
theorem Dsc.up {s h : Nat} (d : Dsc s h) (hlt : s < h) : Dsc s ((h - 1) / 2) := by
  cases d with
  | refl => (first | lia | omega)
  | step _ d => exact d
/-- a heap but for a hole at h -/
structure Hole (lt : PP → PP → Bool) (start : Nat) (xs : List PP) (h : Nat) : Prop where
  rest : ∀ c, 1 ≤ c → c < xs.length → start ≤ (c - 1) / 2 → c ≠ h → (c - 1) / 2 ≠ h → lt (gt0 xs c) (gt0 xs ((c - 1) / 2)) = false
  over : start < h → start ≤ (h - 1) / 2 → ∀ c, 1 ≤ c → c < xs.length → (c - 1) / 2 = h → lt (gt0 xs c) (gt0 xs ((h - 1) / 2)) = false

theorem sup_hole (o : LO lt) (start : Nat) : ∀ (k pos : Nat) (xs : List PP), xs.length - pos = k → start ≤ pos → pos < xs.length → Dsc start pos → Hole lt start xs pos →
    let r := sup lt pos xs
    Hole lt start r.1 r.2 ∧ r.1.length ≤ 2 * r.2 + 1 ∧ start ≤ r.2 ∧ Dsc start r.2 := by
  intro k
  induction k using Nat.strongRecOn with
  | _ k ih =>
    intro pos xs hk hs hp hs' hH
    by_cases h : 2 * pos + 1 < xs.length
    · generalize hch : (if (decide (2 * pos + 2 < xs.length) && !lt (xs.getD (2 * pos + 1) (0, 0)) (xs.getD (2 * pos + 2) (0, 0))) = true then 2 * pos + 2 else 2 * pos + 1) = ch
      have hb : pos < ch ∧ ch < xs.length ∧ (ch - 1) / 2 = pos := by
        subst hch
        split
        · rename_i q; simp at q; (first | lia | omega)
        · (first | lia | omega)
      -- the chosen child lies not above the other
      have hmin : ∀ c, 1 ≤ c → c < xs.length → (c - 1) / 2 = pos → lt (gt0 xs c) (gt0 xs ch) = false := by
        intro c h1 h2 h3
        have hc : c = 2 * pos + 1 ∨ c = 2 * pos + 2 := by (first | lia | omega)
        by_cases q : (decide (2 * pos + 2 < xs.length) && !lt (xs.getD (2 * pos + 1) (0, 0)) (xs.getD (2 * pos + 2) (0, 0))) = true
        · rw [if_pos q] at hch
          subst hch
          simp only [Bool.and_eq_true, decide_eq_true_eq, Bool.not_eq_true'] at q
          rcases hc with rfl | rfl
          · exact q.2
          · exact o.irr _
        · rw [if_neg q] at hch
          subst hch
          simp only [Bool.and_eq_true, decide_eq_true_eq, Bool.not_eq_true', not_and, Bool.not_eq_false] at q
          rcases hc with rfl | rfl
          · exact o.irr _
          · exact o.asym (q h2)
      rw [sup_step lt h hch.symm]
      have hlen : (xs.set pos (gt0 xs ch)).length = xs.length := List.length_set ..
      refine ih (xs.length - ch) (by (first | lia | omega)) ch (xs.set pos (gt0 xs ch)) (by rw [hlen]) (by (first | lia | omega)) (by rw [hlen]; exact hb.2.1) (.step (by (first | lia | omega)) (by rw [hb.2.2]; exact hs')) ⟨fun c h1 h2 h3 h4 h5 => ?_, fun h1 h2 c h3 h4 h5 => ?_⟩
      · rw [hlen] at h2
        rw [gset hp, gset hp]
        by_cases e1 : c = pos
        · subst e1
          rw [if_pos rfl, if_neg (by (first | lia | omega))]
          exact hH.over (by (first | lia | omega)) h3 ch (by (first | lia | omega)) hb.2.1 hb.2.2
        · rw [if_neg e1]
          by_cases e2 : (c - 1) / 2 = pos
          · rw [if_pos e2]; exact hmin c h1 h2 e2
          · rw [if_neg e2]; exact hH.rest c h1 h2 h3 e1 e2
      · rw [hlen] at h4
        rw [gset hp, gset hp, if_neg (by (first | lia | omega)), hb.2.2, if_pos rfl]
        have := hH.rest c h3 h4 (by (first | lia | omega)) (by (first | lia | omega)) (by (first | lia | omega))
        rwa [h5] at this
    · rw [sup_stop lt h]
      exact ⟨hH, by dsimp only; (first | lia | omega), hs, hs'⟩

theorem sdown_heap (o : LO lt) (x : PP) (start : Nat) : ∀ (h : Nat) (xs : List PP), start ≤ h → h < xs.length → Dsc start h → Hole lt start xs h → (∀ c, 1 ≤ c → c < xs.length → (c - 1) / 2 = h → lt (gt0 xs c) x = false) → HeapFrom lt start (sdown lt x start h xs) := by
  intro h
  induction h using Nat.strongRecOn with
  | _ h ih =>
    intro xs hs hh hs' hH hx
    have fin : (start < h → lt x (gt0 xs ((h - 1) / 2)) = false) → HeapFrom lt start (xs.set h x) := by
      intro hx' c h1 h2 h3
      rw [List.length_set] at h2
      rw [gset hh, gset hh]
      by_cases e1 : c = h
      · rw [if_pos e1, if_neg (by (first | lia | omega)), e1]
        exact hx' (by (first | lia | omega))
      · rw [if_neg e1]
        by_cases e2 : (c - 1) / 2 = h
        · rw [if_pos e2]; exact hx c h1 h2 e2
        · rw [if_neg e2]; exact hH.rest c h1 h2 h3 e1 e2
    rw [sdown]
    split
    · rename_i hlt
      dsimp only
      split
      · rename_i q
        have q' : lt x (gt0 xs ((h - 1) / 2)) = true := q
        have hpl : start ≤ (h - 1) / 2 := (hs'.up hlt).le
        have hlen : (xs.set h (gt0 xs ((h - 1) / 2))).length = xs.length := List.length_set ..
        refine ih ((h - 1) / 2) (by (first | lia | omega)) (xs.set h (gt0 xs ((h - 1) / 2))) hpl (by rw [hlen]; (first | lia | omega)) (hs'.up hlt) ⟨fun c h1 h2 h3 h4 h5 => ?_, fun h1 h2 c h3 h4 h5 => ?_⟩ (fun c h1 h2 h3 => ?_)
        · rw [hlen] at h2
          rw [gset hh, gset hh]
          by_cases e1 : c = h
          · (first | lia | omega)
          · rw [if_neg e1]
            by_cases e2 : (c - 1) / 2 = h
            · rw [if_pos e2]; exact hH.over hlt hpl c h1 h2 e2
            · rw [if_neg e2]; exact hH.rest c h1 h2 h3 e1 e2
        · rw [hlen] at h4
          have hp := hH.rest ((h - 1) / 2) (by (first | lia | omega)) (by (first | lia | omega)) h2 (by (first | lia | omega)) (by (first | lia | omega))
          rw [gset hh, gset hh, if_neg (by (first | lia | omega) : ¬ ((h - 1) / 2 - 1) / 2 = h)]
          by_cases e1 : c = h
          · rw [if_pos e1]; exact hp
          · rw [if_neg e1]
            have := hH.rest c h3 h4 (by (first | lia | omega)) e1 (by (first | lia | omega))
            rw [h5] at this
            exact o.ntr _ _ _ this hp
        · rw [hlen] at h2
          rw [gset hh]
          by_cases e1 : c = h
          · rw [if_pos e1]; exact o.asym q'
          · rw [if_neg e1]
            have := hH.rest c h1 h2 (by (first | lia | omega)) e1 (by (first | lia | omega))
            rw [h3] at this
            exact o.lt_le q' this
      · rename_i q
        exact fin fun _ => by simpa using q
    · exact fin fun h => absurd h (by assumption)

theorem gset_len {xs : List PP} {i : Nat} {v : PP} : (xs.set i v).length = xs.length := List.length_set ..
theorem siftup_heap (o : LO lt) {xs : List PP} {pos : Nat} (hp : pos < xs.length) (h : HeapFrom lt (pos + 1) xs) : HeapFrom lt pos (siftup lt xs pos) := by
  unfold siftup
  dsimp only
  obtain ⟨hl, hle⟩ := sup_length lt _ pos xs rfl
  have hlf := hle hp
  have hH : Hole lt pos xs pos := ⟨fun c h1 h2 h3 h4 h5 => h c h1 h2 (by (first | lia | omega)), fun h1 => by (first | lia | omega)⟩
  obtain ⟨h1, h2, h3, h4⟩ := sup_hole o pos _ pos xs rfl (Nat.le_refl _) hp .refl hH
  generalize hr : sup lt pos xs = r at *
  have hlf' : r.2 < r.1.length := by rw [hl]; exact hlf
  refine sdown_heap o _ pos r.2 _ h3 (by rw [gset_len]; exact hlf') h4 ⟨fun c c1 c2 c3 c4 c5 => ?_, fun a1 a2 c c1 c2 c3 => ?_⟩ fun c c1 c2 c3 => ?_
  · rw [gset_len] at c2
    rw [gset hlf', gset hlf', if_neg c4, if_neg c5]
    exact h1.rest c c1 c2 c3 c4 c5
  · rw [gset_len] at c2; (first | lia | omega)
  · rw [gset_len] at c2; (first | lia | omega)
theorem heapifyN_heap (o : LO lt) : ∀ (j : Nat) (xs : List PP), j ≤ xs.length / 2 → HeapFrom lt j xs → HeapFrom lt 0 (heapifyN lt j xs)
  | 0, _, _, h => h
  | j + 1, xs, hj, h => heapifyN_heap o j (siftup lt xs j) (by rw [siftup_length]; (first | lia | omega)) (siftup_heap o (by (first | lia | omega)) h)
theorem heapifyL_heap (o : LO lt) (xs : List PP) : HeapFrom lt 0 (heapifyL lt xs) :=
  heapifyN_heap o _ _ (Nat.le_refl _) fun c h1 h2 h3 => by (first | lia | omega)
theorem heapifyN_perm : ∀ (j : Nat) (xs : List PP), j ≤ xs.length / 2 → (heapifyN lt j xs).Perm xs
  | 0, _, _ => .refl _
  | j + 1, xs, hj => (heapifyN_perm j (siftup lt xs j) (by rw [siftup_length]; (first | lia | omega))).trans (siftup_perm (by (first | lia | omega)))
theorem heapifyL_perm (xs : List PP) : (heapifyL lt xs).Perm xs := heapifyN_perm _ _ (Nat.le_refl _)
theorem heap_min (o : LO lt) {xs : List PP} (h : HeapFrom lt 0 xs) : ∀ i, i < xs.length → lt (gt0 xs i) (gt0 xs 0) = false := by
  intro i
  induction i using Nat.strongRecOn with
  | _ i ih =>
    intro hi
    by_cases h0 : i = 0
    · subst h0; exact o.irr _
    · exact o.ntr _ _ _ (h i (by (first | lia | omega)) hi (Nat.zero_le _)) (ih ((i - 1) / 2) (by (first | lia | omega)) (by (first | lia | omega)))

/-- what heappop leaves -/
noncomputable def popRest (lt : PP → PP → Bool) (xs : List PP) (y : PP) : List PP := if xs = [] then [] else siftup lt (xs.set 0 y) 0
theorem popRest_length (xs : List PP) (y : PP) : (popRest lt xs y).length = xs.length := by
  unfold popRest; split
  · rename_i h; simp [h]
  · rw [siftup_length, gset_len]
theorem popRest_perm (xs : List PP) (y : PP) : ((gt0 (xs ++ [y]) 0) :: popRest lt xs y).Perm (xs ++ [y]) := by
  cases xs with
  | nil => exact .refl _
  | cons x r =>
    unfold popRest
    rw [if_neg (by simp)]
    refine ((siftup_perm (by simp)).cons _).trans ?_
    show (x :: y :: r).Perm (x :: (r ++ [y]))
    exact ((List.perm_append_comm (l₁ := [y]) (l₂ := r)).cons x)
theorem popRest_heap (o : LO lt) {xs : List PP} {y : PP} (h : HeapFrom lt 0 (xs ++ [y])) : HeapFrom lt 0 (popRest lt xs y) := by
  unfold popRest
  split
  · intro c h1 h2; simp at h2
  · rename_i hne
    have h0 : 0 < xs.length := List.length_pos_iff.mpr hne
    refine siftup_heap o (by rw [gset_len]; exact h0) fun c h1 h2 h3 => ?_
    rw [gset_len] at h2
    rw [gset h0, gset h0, if_neg (by (first | lia | omega)), if_neg (by (first | lia | omega))]
    have := h c h1 (by simp; (first | lia | omega)) (Nat.zero_le _)
    have e : ∀ i, i < xs.length → gt0 (xs ++ [y]) i = gt0 xs i := fun i hi => by
      unfold gt0
      rw [List.getD_eq_getElem?_getD, List.getD_eq_getElem?_getD, List.getElem?_append_left hi]
    rwa [e c h2, e _ (by (first | lia | omega))] at this
theorem lo_ltQ : LO ltQ where
  irr := fun a => by simp [ltQ, ltP]
  tr := fun a b c h1 h2 => by
    unfold ltQ ltP at *
    by_cases x : a.1 = b.1 <;> by_cases y : b.1 = c.1 <;> by_cases z : a.1 = c.1 <;> simp_all <;> (first | lia | omega)
  ntr := fun a b c h1 h2 => by
    unfold ltQ ltP at *
    by_cases x : a.1 = b.1 <;> by_cases y : b.1 = c.1 <;> by_cases z : a.1 = c.1 <;> simp_all <;> (first | lia | omega)
theorem LO.flip (o : LO lt) : LO (fun p q => lt q p) where
  irr := o.irr
  tr := fun a b c h1 h2 => o.tr c b a h2 h1
  ntr := fun a b c h1 h2 => o.ntr c b a h2 h1
end
section
/-- the k least, in order -/
noncomputable def Least (k : Nat) (hs ys : List Int) : Prop := ys.length = k ∧ ys.Pairwise (· ≤ ·) ∧ ∃ rest : List Int, (ys ++ rest).Perm hs ∧ ∀ y ∈ ys, ∀ r ∈ rest, y ≤ r
noncomputable def Most (k : Nat) (hs ys : List Int) : Prop := ys.length = k ∧ ys.Pairwise (· ≥ ·) ∧ ∃ rest : List Int, (ys ++ rest).Perm hs ∧ ∀ y ∈ ys, ∀ r ∈ rest, r ≤ y
noncomputable abbrev gtQ (p q : PP) : Bool := ltQ q p
theorem ltQ_fst {p q : PP} (h : ltQ p q = true) : p.1 ≤ q.1 := by
  unfold ltQ ltP at h
  by_cases e : p.1 = q.1
  · (first | lia | omega)
  · simp [e] at h; (first | lia | omega)
theorem nltQ_fst {p q : PP} (h : ltQ p q = false) : q.1 ≤ p.1 := by
  unfold ltQ ltP at h
  by_cases e : p.1 = q.1
  · (first | lia | omega)
  · simp [e] at h; (first | lia | omega)
theorem mem_at {zs : List PP} {z : PP} (h : z ∈ zs) : ∃ i, i < zs.length ∧ gt0 zs i = z := by
  obtain ⟨i, hi, rfl⟩ := List.getElem_of_mem h
  exact ⟨i, hi, by simp [gt0, hi]⟩
theorem at_mem {zs : List PP} {i : Nat} (h : i < zs.length) : gt0 zs i ∈ zs := by
  simp [gt0, h]
/-- the first item given up for another -/
theorem set0_perm {zs : List PP} (h : 0 < zs.length) (v : PP) : (gt0 zs 0 :: zs.set 0 v).Perm (v :: zs) := by
  cases zs with
  | nil => simp at h
  | cons z r => exact List.Perm.swap v z r

structure LInv (hs rest : List Int) (k : Nat) (zs : List PP) (o : Int) : Prop where
  len : zs.length = k
  heap : HeapFrom gtQ 0 zs
  nodup : zs.Nodup
  ord : ∀ p ∈ zs, p.2 < o
  parts : ∃ dis : List Int, (zs.map (·.1) ++ dis ++ rest).Perm hs ∧ ∀ z ∈ zs, ∀ d ∈ dis, z.1 ≤ d
theorem LInv.top {hs rest : List Int} {k : Nat} {zs : List PP} {o : Int} (h : LInv hs rest k zs o) : ∀ z ∈ zs, z.1 ≤ (gt0 zs 0).1 := fun z hz => by
  obtain ⟨i, hi, rfl⟩ := mem_at hz
  exact nltQ_fst (heap_min lo_ltQ.flip h.heap i hi)
theorem LInv.skip {hs rest : List Int} {k : Nat} {zs : List PP} {o x : Int} (h : LInv hs (x :: rest) k zs o) (hx : ¬ x < (gt0 zs 0).1) : LInv hs rest k zs o := by
  obtain ⟨dis, hp, hd⟩ := h.parts
  refine ⟨h.len, h.heap, h.nodup, h.ord, dis ++ [x], ?_, fun z hz d hd' => ?_⟩
  · refine List.Perm.trans (List.Perm.of_eq ?_) hp
    simp
  · rcases List.mem_append.mp hd' with hd' | hd'
    · exact hd z hz d hd'
    · have : d = x := by simpa using hd'
      subst this
      have := h.top z hz
      (first | lia | omega)
theorem LInv.take {hs rest : List Int} {k : Nat} {zs : List PP} {o x : Int} (h : LInv hs (x :: rest) k zs o) (hk : 0 < k) (hx : x < (gt0 zs 0).1) : LInv hs rest k (siftup gtQ (zs.set 0 (x, o)) 0) (o + 1) := by
  obtain ⟨dis, hp, hd⟩ := h.parts
  have h0 : 0 < zs.length := by rw [h.len]; exact hk
  have hsp : (siftup gtQ (zs.set 0 (x, o)) 0).Perm (zs.set 0 (x, o)) := siftup_perm (by simpa using h0)
  have hset : (gt0 zs 0 :: siftup gtQ (zs.set 0 (x, o)) 0).Perm ((x, o) :: zs) := (hsp.cons _).trans (set0_perm h0 _)
  have hmem : ∀ z ∈ siftup gtQ (zs.set 0 (x, o)) 0, z = (x, o) ∨ z ∈ zs := fun z hz => List.mem_cons.mp (hset.mem_iff.mp (List.mem_cons_of_mem _ hz))
  have hno : (x, o) ∉ zs := fun hm => by have := h.ord _ hm; simp at this
  refine ⟨by rw [siftup_length, List.length_set, h.len], siftup_heap lo_ltQ.flip (by simpa using h0) fun c h1 h2 h3 => ?_, ?_, fun p hp' => ?_, (gt0 zs 0).1 :: dis, ?_, fun z hz d hd' => ?_⟩
  · rw [List.length_set] at h2
    rw [gset h0, gset h0, if_neg (by (first | lia | omega)), if_neg (by (first | lia | omega))]
    exact h.heap c h1 h2 (Nat.zero_le _)
  · have : (gt0 zs 0 :: siftup gtQ (zs.set 0 (x, o)) 0).Nodup := (hset.nodup_iff).mpr (List.nodup_cons.mpr ⟨hno, h.nodup⟩)
    exact (List.nodup_cons.mp this).2
  · rcases hmem p hp' with rfl | hm
    · show o < o + 1; (first | lia | omega)
    · have := h.ord p hm; (first | lia | omega)
  · have e1 := hset.map (fun p : PP => p.1)
    simp only [List.map_cons] at e1
    have e2 : ((siftup gtQ (zs.set 0 (x, o)) 0).map (fun p : PP => p.1) ++ ((gt0 zs 0).1 :: dis) ++ rest).Perm ((gt0 zs 0).1 :: (siftup gtQ (zs.set 0 (x, o)) 0).map (fun p : PP => p.1) ++ (dis ++ rest)) := by
      rw [List.append_assoc, List.cons_append]
      exact List.perm_middle
    refine e2.trans ((e1.append_right _).trans (List.Perm.trans ?_ hp))
    show (x :: (zs.map (fun p : PP => p.1) ++ (dis ++ rest))).Perm (zs.map (fun p : PP => p.1) ++ dis ++ x :: rest)
    rw [← List.append_assoc]
    exact List.perm_middle.symm
  · rcases hmem z hz with rfl | hm
    · rcases List.mem_cons.mp hd' with rfl | hd'
      · show x ≤ _; (first | lia | omega)
      · have := hd _ (at_mem h0) d hd'; show x ≤ d; (first | lia | omega)
    · rcases List.mem_cons.mp hd' with rfl | hd'
      · exact h.top z hm
      · exact hd z hm d hd'
theorem LInv.least {hs : List Int} {k : Nat} {zs : List PP} {o : Int} (h : LInv hs [] k zs o) (hk : 2 ≤ k) : Least k hs ((outOf zs).map (·.1)) := by
  obtain ⟨dis, hp, hd⟩ := h.parts
  obtain ⟨o1, o2⟩ := outOf_ok h.nodup (by rw [h.len]; exact hk)
  refine ⟨by rw [List.length_map, o1.length_eq, h.len], ?_, dis, ?_, fun y hy r hr => ?_⟩
  · exact List.pairwise_map.mpr (o2.imp fun h => ltQ_fst h)
  · rw [List.append_nil] at hp
    exact ((o1.map _).append_right _).trans hp
  · obtain ⟨p, hp', rfl⟩ := List.mem_map.mp hy
    exact hd p (o1.mem_iff.mp hp') r hr
end
section
structure MInv (hs rest : List Int) (k : Nat) (zs : List PP) (o : Int) : Prop where
  len : zs.length = k
  heap : HeapFrom ltQ 0 zs
  nodup : zs.Nodup
  ord : ∀ p ∈ zs, o < p.2
  parts : ∃ dis : List Int, (zs.map (·.1) ++ dis ++ rest).Perm hs ∧ ∀ z ∈ zs, ∀ d ∈ dis, d ≤ z.1
theorem MInv.top {hs rest : List Int} {k : Nat} {zs : List PP} {o : Int} (h : MInv hs rest k zs o) : ∀ z ∈ zs, (gt0 zs 0).1 ≤ z.1 := fun z hz => by
  obtain ⟨i, hi, rfl⟩ := mem_at hz
  exact nltQ_fst (heap_min lo_ltQ h.heap i hi)
theorem MInv.skip {hs rest : List Int} {k : Nat} {zs : List PP} {o x : Int} (h : MInv hs (x :: rest) k zs o) (hx : ¬ (gt0 zs 0).1 < x) : MInv hs rest k zs o := by
  obtain ⟨dis, hp, hd⟩ := h.parts
  refine ⟨h.len, h.heap, h.nodup, h.ord, dis ++ [x], ?_, fun z hz d hd' => ?_⟩
  · refine List.Perm.trans (List.Perm.of_eq ?_) hp
    simp
  · rcases List.mem_append.mp hd' with hd' | hd'
    · exact hd z hz d hd'
    · have : d = x := by simpa using hd'
      subst this
      have := h.top z hz
      (first | lia | omega)
theorem MInv.take {hs rest : List Int} {k : Nat} {zs : List PP} {o x : Int} (h : MInv hs (x :: rest) k zs o) (hk : 0 < k) (hx : (gt0 zs 0).1 < x) : MInv hs rest k (siftup ltQ (zs.set 0 (x, o)) 0) (o - 1) := by
  obtain ⟨dis, hp, hd⟩ := h.parts
  have h0 : 0 < zs.length := by rw [h.len]; exact hk
  have hsp : (siftup ltQ (zs.set 0 (x, o)) 0).Perm (zs.set 0 (x, o)) := siftup_perm (by simpa using h0)
  have hset : (gt0 zs 0 :: siftup ltQ (zs.set 0 (x, o)) 0).Perm ((x, o) :: zs) := (hsp.cons _).trans (set0_perm h0 _)
  have hmem : ∀ z ∈ siftup ltQ (zs.set 0 (x, o)) 0, z = (x, o) ∨ z ∈ zs := fun z hz => List.mem_cons.mp (hset.mem_iff.mp (List.mem_cons_of_mem _ hz))
  have hno : (x, o) ∉ zs := fun hm => by have := h.ord _ hm; simp at this
  refine ⟨by rw [siftup_length, List.length_set, h.len], siftup_heap lo_ltQ (by simpa using h0) fun c h1 h2 h3 => ?_, ?_, fun p hp' => ?_, (gt0 zs 0).1 :: dis, ?_, fun z hz d hd' => ?_⟩
  · rw [List.length_set] at h2
    rw [gset h0, gset h0, if_neg (by (first | lia | omega)), if_neg (by (first | lia | omega))]
    exact h.heap c h1 h2 (Nat.zero_le _)
  · have : (gt0 zs 0 :: siftup ltQ (zs.set 0 (x, o)) 0).Nodup := (hset.nodup_iff).mpr (List.nodup_cons.mpr ⟨hno, h.nodup⟩)
    exact (List.nodup_cons.mp this).2
  · rcases hmem p hp' with rfl | hm
    · show o - 1 < o; (first | lia | omega)
    · have := h.ord p hm; (first | lia | omega)
  · have e1 := hset.map (fun p : PP => p.1)
    simp only [List.map_cons] at e1
    have e2 : ((siftup ltQ (zs.set 0 (x, o)) 0).map (fun p : PP => p.1) ++ ((gt0 zs 0).1 :: dis) ++ rest).Perm ((gt0 zs 0).1 :: (siftup ltQ (zs.set 0 (x, o)) 0).map (fun p : PP => p.1) ++ (dis ++ rest)) := by
      rw [List.append_assoc, List.cons_append]
      exact List.perm_middle
    refine e2.trans ((e1.append_right _).trans (List.Perm.trans ?_ hp))
    show (x :: (zs.map (fun p : PP => p.1) ++ (dis ++ rest))).Perm (zs.map (fun p : PP => p.1) ++ dis ++ x :: rest)
    rw [← List.append_assoc]
    exact List.perm_middle.symm
  · rcases hmem z hz with rfl | hm
    · rcases List.mem_cons.mp hd' with rfl | hd'
      · show _ ≤ x; (first | lia | omega)
      · have := hd _ (at_mem h0) d hd'; show d ≤ x; (first | lia | omega)
    · rcases List.mem_cons.mp hd' with rfl | hd'
      · exact h.top z hm
      · exact hd z hm d hd'
theorem MInv.most {hs : List Int} {k : Nat} {zs : List PP} {o : Int} (h : MInv hs [] k zs o) (hk : 2 ≤ k) : Most k hs (((outOf zs.reverse).reverse).map (·.1)) := by
  obtain ⟨dis, hp, hd⟩ := h.parts
  have hnr : zs.reverse.Nodup := List.pairwise_reverse.mpr (List.Pairwise.imp (fun h => Ne.symm h) h.nodup)
  obtain ⟨o1, o2⟩ := outOf_ok hnr (by rw [List.length_reverse, h.len]; exact hk)
  have o3 : ((outOf zs.reverse).reverse).Perm zs := (List.reverse_perm _).trans (o1.trans (List.reverse_perm _))
  refine ⟨by rw [List.length_map, o3.length_eq, h.len], ?_, dis, ?_, fun y hy r hr => ?_⟩
  · exact List.pairwise_map.mpr (List.pairwise_reverse.mpr (o2.imp fun h => ltQ_fst h))
  · rw [List.append_nil] at hp
    exact ((o3.map _).append_right _).trans hp
  · obtain ⟨p, hp', rfl⟩ := List.mem_map.mp hy
    exact hd p (o3.mem_iff.mp hp') r hr
end
section
open PySem PySem.W PyProof.Rows
theorem isf_of {scope : Scope} {min : List (Str × D)} (h : (min.all fun p => scope.names.lookup p.1 == some .free) = true) : ∀ x d, get x min = some d → scope.names.lookup x = some .free := by
  intro x d e
  induction min with
  | nil => cases e
  | cons p r ih =>
    simp only [List.all_cons, Bool.and_eq_true, beq_iff_eq] at h
    unfold get at e
    split at e
    · rename_i q; rw [q]; exact h.1
    · exact ih h.2 e
section
variable {c : Cx} {n : Nat} {env : Env} {σ : Sig} {target elt : Expr} {ifs : List Expr} {E : List D → Sig → Prop} {x y : Str} {d e : D} {m m' : List (Str × D)} {L : Addr → Option Cel}
theorem ATs.mono {Q Q' : Bool → Sig → Prop} (h : ATs c n env ifs σ Q) (hq : ∀ b σ', Q b σ' → Q' b σ') : ATs c n env ifs σ Q' := by
  match ifs, h with
  | [], h => exact hq _ _ h
  | [t], h => exact AW.mono h hq
theorem ATs.nil {Q : Bool → Sig → Prop} (h : Q true σ) : ATs c n env [] σ Q := h
theorem ATs.one {t : Expr} {Q : Bool → Sig → Prop} (h : AT c n env t σ Q) : ATs c n env [t] σ Q := h
theorem ACmp.ind (I : List D → List D → Sig → Prop) {items acc : List D} (h0 : I items acc σ) (nil : ∀ acc σ, I [] acc σ → E acc σ)
    (step : ∀ d ds acc σ, I (d :: ds) acc σ → AS c n env target d σ (fun σ₁ => ATs c n env ifs σ₁ (fun b σ₂ => if b = true then AE c n env elt σ₂ (fun v σ₃ => I ds (acc ++ [v]) σ₃) else I ds acc σ₂))) : ACmp c n env target ifs elt E items acc σ := by
  induction items generalizing acc σ with
  | nil => exact nil acc σ h0
  | cons d ds ih =>
    refine AS.mono (step d ds acc σ h0) fun σ₁ h => ATs.mono h fun b σ₂ q => ?_
    cases b with
    | true => simp only [if_true] at q ⊢; exact AW.mono q fun v σ₃ q => ih q
    | false => simp only [Bool.false_eq_true, if_false] at q ⊢; exact ih q
/-- the items of a list one by one, each giving one -/
theorem ACmp.map {α : Type} {inD outD : α → D} {m₀ : List (Str × D)} {L₀ : Addr → Option Cel} (step : ∀ a : α, AS c n env target (inD a) ⟨m₀, L₀⟩ (fun σ₁ => AE c n env elt σ₁ (fun v σ₃ => v = outD a ∧ Sle σ₃ ⟨m₀, L₀⟩))) (xs : List α) (hs : Sle σ ⟨m₀, L₀⟩)
    (hE : ∀ σ', Sle σ' ⟨m₀, L₀⟩ → E (xs.map outD) σ') : ACmp c n env target [] elt E (xs.map inD) [] σ := by
  refine ACmp.ind (fun items acc σ => ∃ ys zs, xs = ys ++ zs ∧ items = zs.map inD ∧ acc = ys.map outD ∧ Sle σ ⟨m₀, L₀⟩) ⟨[], xs, rfl, rfl, rfl, hs⟩ ?_ ?_
  · rintro acc σ ⟨ys, zs, h1, h2, rfl, h3⟩
    have : zs = [] := by simpa using h2.symm
    subst this
    rw [List.append_nil] at h1; subst h1
    exact hE σ h3
  · rintro d ds acc σ ⟨ys, zs, h1, h2, rfl, h3⟩
    cases zs with
    | nil => cases h2
    | cons z zs =>
      obtain ⟨rfl, rfl⟩ := List.cons.inj h2
      refine AS.weaken (AS.mono (step z) fun σ₁ h => ATs.nil ?_) h3
      simp only [if_true]
      exact AE.mono h fun v σ₃ ⟨q1, q2⟩ => ⟨ys ++ [z], zs, by rw [h1]; simp, rfl, by rw [q1]; simp, q2⟩
/-- the items of a list one by one, some giving one -/
theorem ACmp.filterMap {α : Type} {inD : α → D} {f : α → Bool} {outD : α → D} {t : Expr} {m₀ : List (Str × D)} {L₀ : Addr → Option Cel} (step : ∀ a : α, AS c n env target (inD a) ⟨m₀, L₀⟩ (fun σ₁ => AT c n env t σ₁ (fun b σ₂ => b = f a ∧ Sle σ₂ ⟨m₀, L₀⟩ ∧ (f a = true → AE c n env elt σ₂ (fun v σ₃ => v = outD a ∧ Sle σ₃ ⟨m₀, L₀⟩))))) (xs : List α) (hs : Sle σ ⟨m₀, L₀⟩)
    (hE : ∀ σ', Sle σ' ⟨m₀, L₀⟩ → E ((xs.filter f).map outD) σ') : ACmp c n env target [t] elt E (xs.map inD) [] σ := by
  refine ACmp.ind (fun items acc σ => ∃ ys zs, xs = ys ++ zs ∧ items = zs.map inD ∧ acc = (ys.filter f).map outD ∧ Sle σ ⟨m₀, L₀⟩) ⟨[], xs, rfl, rfl, rfl, hs⟩ ?_ ?_
  · rintro acc σ ⟨ys, zs, h1, h2, rfl, h3⟩
    have : zs = [] := by simpa using h2.symm
    subst this
    rw [List.append_nil] at h1; subst h1
    exact hE σ h3
  · rintro d ds acc σ ⟨ys, zs, h1, h2, rfl, h3⟩
    cases zs with
    | nil => cases h2
    | cons z zs =>
      obtain ⟨rfl, rfl⟩ := List.cons.inj h2
      refine AS.weaken (AS.mono (step z) fun σ₁ h => ATs.one (AT.mono h ?_)) h3
      rintro b σ₂ ⟨rfl, h4, h5⟩
      cases q : f z with
      | true =>
        simp only [if_true]
        exact AE.mono (h5 q) fun v σ₃ ⟨q1, q2⟩ => ⟨ys ++ [z], zs, by rw [h1]; simp, rfl, by rw [q1]; simp [q], q2⟩
      | false =>
        simp only [Bool.false_eq_true, if_false]
        exact ⟨ys ++ [z], zs, by rw [h1]; simp, rfl, by simp [q], h4⟩
theorem ACmp.mapM {α : Type} {inD outD : α → D} {m₀ : List (Str × D)} {L₀ : Addr → Option Cel} (xs : List α) (step : ∀ a ∈ xs, AS c n env target (inD a) ⟨m₀, L₀⟩ (fun σ₁ => AE c n env elt σ₁ (fun v σ₃ => v = outD a ∧ Sle σ₃ ⟨m₀, L₀⟩))) (hs : Sle σ ⟨m₀, L₀⟩)
    (hE : ∀ σ', Sle σ' ⟨m₀, L₀⟩ → E (xs.map outD) σ') : ACmp c n env target [] elt E (xs.map inD) [] σ := by
  have e : ∀ f : α → D, xs.attach.map (fun a => f a.1) = xs.map f := fun f => by
    have := congrArg (List.map f) (List.attach_map_subtype_val xs)
    rwa [List.map_map] at this
  rw [← e]
  refine ACmp.map (inD := fun a : {x // x ∈ xs} => inD a.1) (outD := fun a => outD a.1) (fun a => step a.1 a.2) _ hs fun σ' h => ?_
  rw [e]; exact hE σ' h
theorem ACmp.filterMapM {α : Type} {inD : α → D} {f : α → Bool} {outD : α → D} {t : Expr} {m₀ : List (Str × D)} {L₀ : Addr → Option Cel} (xs : List α) (step : ∀ a ∈ xs, AS c n env target (inD a) ⟨m₀, L₀⟩ (fun σ₁ => AT c n env t σ₁ (fun b σ₂ => b = f a ∧ Sle σ₂ ⟨m₀, L₀⟩ ∧ (f a = true → AE c n env elt σ₂ (fun v σ₃ => v = outD a ∧ Sle σ₃ ⟨m₀, L₀⟩))))) (hs : Sle σ ⟨m₀, L₀⟩)
    (hE : ∀ σ', Sle σ' ⟨m₀, L₀⟩ → E ((xs.filter f).map outD) σ') : ACmp c n env target [t] elt E (xs.map inD) [] σ := by
  have e : ∀ f : α → D, xs.attach.map (fun a => f a.1) = xs.map f := fun f => by
    have := congrArg (List.map f) (List.attach_map_subtype_val xs)
    rwa [List.map_map] at this
  have e2 : (xs.attach.filter fun a => f a.1).map (fun a => outD a.1) = (xs.filter f).map outD := by
    have : xs.filter f = (xs.attach.filter fun a => f a.1).map Subtype.val := by
      conv => lhs; rw [← List.attach_map_subtype_val xs]
      rw [List.filter_map]; rfl
    rw [this, List.map_map]; rfl
  rw [← e]
  refine ACmp.filterMap (inD := fun a : {x // x ∈ xs} => inD a.1) (f := fun a => f a.1) (outD := fun a => outD a.1) (fun a => step a.1 a.2) _ hs fun σ' h => ?_
  rw [e2]; exact hE σ' h
end
end
section
open PySem PySem.W PyProof.Rows
set_option maxRecDepth 10000

noncomputable def pops (lt : PP → PP → Bool) : Nat → List PP → List PP
  | 0, _ => []
  | n + 1, zs => gt0 zs 0 :: pops lt n (popRest lt zs.dropLast (gt0 zs (zs.length - 1)))
noncomputable abbrev Span := Int × List Nat
noncomputable def spD (p : Span) : D := .tup [.int p.1, .str (tx p.2)]
/-- how long each text stands -/
noncomputable def go : Int → Int → List PP → List Span
  | _, bits, [] => [(0, fmode bits)]
  | clock, bits, p :: r => (if clock < p.1 then [(p.1 - clock, fmode bits)] else []) ++ go p.1 (bits - 2 ^ p.2.toNat) r
noncomputable def spansOf (hs : List Int) (kind : Int) : List Span :=
  let q := heapifyL ltQ ((List.range 12).map fun k => (hs.getD k 0, (k : Int)))
  go ((gt0 q 0).1 - 1) (4096 * kind + 4095) (pops ltQ 12 q)
section
variable {c : Cx} {n : Nat} {L : Addr → Option Cel}
theorem spans_ok (B : BaseOk c) {hs : List Int} {kind : Int} (hl : hs.length = 12) : AC c (n + 4) (.ref 183) [.lst (hs.map D.int), .int kind] [] L (fun d L' => d = .lst ((spansOf hs kind).map spD) ∧ L' = L) := by
  refine AC.fn (names := [Str.ofString "row", Str.ofString "kind"]) ⟨⟨_, B.K 183 _ rfl, rfl⟩, ⟨_, _, _, _, rfl, B.K 182 _ rfl, rfl, rfl⟩, rfl, rfl, rfl, rfl, rfl, rfl, rfl, fun x hx k => cellsFrom_some _ _ (mem_of_lookup hx), B.lim⟩ (by decide) (by decide) (by walk_at "bind") ?_
  intro e he
  dsimp only [List.zip, List.zipWith]
  refine AX.assignComp (min := [(Str.ofString "row", .lst (hs.map D.int))]) ⟨rfl, rfl, rfl, (AllGet.sle (L := fun _ => Option.none) (by repeat' (first | exact trivial | refine ⟨rfl, ?_⟩))).1, isf_of rfl, rfl⟩ ?_ ⟨rfl, .inl rfl⟩ (by rfl) (by intro _; rfl)
  refine AEI.data ?_
  refine AE.callT (AE.built (b_range B) ⟨rfl, ?_⟩)
  walk_at "W"
  refine AB.range1 ?_
  refine AI.up (by decide) (by decide) (by decide) ?_
  have e1 : steps 0 1 (((12 : Int) - 0).toNat) = (List.range 12).map fun (k : Nat) => D.int (k : Int) := rfl
  rw [e1]
  refine ⟨rfl, by simp, fun e' he' => ?_⟩
  refine ACmp.mapM (inD := fun (k : Nat) => D.int (k : Int)) (outD := fun k => pr (hs.getD k 0, (k : Int))) (m₀ := [(Str.ofString "row", .lst (hs.map D.int))]) (L₀ := L) (List.range 12) (fun j hj => ?_) (Sle.refl _) ?_
  rotate_left
  · intro σ hs' a ha
    rw [show (List.range 12).map (fun k => pr (hs.getD k 0, (k : Int))) = ((List.range 12).map fun k => (hs.getD k 0, (k : Int))).map pr from by rw [List.map_map]; rfl]
    generalize hxs : ((List.range 12).map fun k => (hs.getD k 0, (k : Int))) = xs
    have hxl : xs.length = 12 := by rw [← hxs]; simp
    have hxm : ∀ p ∈ xs, 0 ≤ p.2 ∧ p.2 < 12 := by
      intro p hp
      rw [← hxs] at hp
      obtain ⟨k, hk, rfl⟩ := List.mem_map.mp hp
      have := List.mem_range.mp hk
      exact ⟨by show (0 : Int) ≤ k; (first | lia | omega), by show (k : Int) < 12; (first | lia | omega)⟩
    have hLa : L a = Option.none := by
      cases q : L a with
      | none => rfl
      | some y => have := hs'.2 a y q; rw [ha] at this; cases this
    refine AX.weaken (σ' := ⟨[(Str.ofString "kind", .int kind), (Str.ofString "queue", .val (.ref a))], setL L a (.list (xs.map pr))⟩) ?_ ⟨?_, ?_⟩
    rotate_left
    · exact (AllGet.sle (L := L) (by repeat' (first | exact trivial | refine ⟨rfl, ?_⟩))).1
    · intro b y hb
      have hb' : (if b = a then some (Cel.list (xs.map pr)) else L b) = some y := hb
      show (if b = a then some (Cel.list (xs.map pr)) else σ.L b) = some y
      by_cases q : b = a
      · rw [if_pos q] at hb' ⊢; exact hb'
      · rw [if_neg q] at hb' ⊢; exact hs'.2 b y hb'
    refine AX.expr (AE.callFn (AE.glob (g_heapify B) ⟨_, rfl, ⟨_, _, B.K 82 _ rfl, rfl⟩, ?_⟩))
    walk_at "W"
    refine AC.eq (heapify_ok B (xs := xs) setL_same (by (first | lia | omega))) ?_
    refine ⟨rfl, ?_⟩
    rw [setL_setL]
    have hql : (heapifyL ltQ xs).length = 12 := by rw [(heapifyL_perm xs).length_eq, hxl]
    have hqm : ∀ p ∈ heapifyL ltQ xs, 0 ≤ p.2 ∧ p.2 < 12 := fun p hp => hxm p ((heapifyL_perm xs).mem_iff.mp hp)
    have hspan : spansOf hs kind = go ((gt0 (heapifyL ltQ xs) 0).1 - 1) (4096 * kind + 4095) (pops ltQ 12 (heapifyL ltQ xs)) := by unfold spansOf; rw [hxs]
    generalize heapifyL ltQ xs = q at *
    walk_at "W"
    refine AO.itemL setL_same (by (first | lia | omega)) (by (first | lia | omega)) (getD_of (i := 0) (by (first | lia | omega))) ?_
    walk_at "W"
    refine AO.itemT (by (first | lia | omega)) (by (first | lia | omega)) rfl ?_
    walk_at "W"
    refine AO.mul ?_ (IntMulOk.of_left (by decide))
    walk_at "W"
    refine AE.listM ?_
    walk_at "W"
    refine ⟨by simp, fun st hst => ?_⟩
    have hst' : setL L a (.list (q.map pr)) st = Option.none := hst
    have hne : st ≠ a := by
      intro e; subst e; rw [setL_same] at hst'; cases hst'
    have hLs : L st = Option.none := by
      have : (if st = a then some (Cel.list (q.map pr)) else L st) = Option.none := hst'
      rwa [if_neg hne] at this
    dsimp only [Sig.cel]
    walk_at "W"
    refine AX.while_ (fun k σ => ∃ zs clock bits acc, k = zs.length ∧ zs.length + acc.length ≤ 12 ∧ (∀ p ∈ zs, 0 ≤ p.2 ∧ p.2 < 12) ∧ acc ++ go clock bits (pops ltQ zs.length zs) = spansOf hs kind ∧
      Sle σ ⟨[(Str.ofString "queue", .val (.ref a)), (Str.ofString "clock", .int clock), (Str.ofString "bits", .int bits), (Str.ofString "stays", .val (.ref st))], setL (setL L a (.list (zs.map pr))) st (.list (acc.map spD))⟩) 12
      ⟨q, _, _, [], hql.symm, by rw [hql]; simp, hqm, by rw [hspan, hql]; rfl, ?_⟩ ?_
    · walk_at "sle"
    rintro k σ ⟨zs, clock, bits, acc, hk, hlen, hm, htot, hs''⟩
    have hgetA : ∀ (zs : List PP) (acc : List Span), setL (setL L a (.list (zs.map pr))) st (.list (acc.map spD)) a = some (.list (zs.map pr)) := fun zs acc => by
      show (if a = st then _ else _) = _
      rw [if_neg (fun e => hne e.symm)]; exact setL_same
    refine AT.weaken ?_ hs''
    refine AT.list ?_ (by intro _; rfl)
    walk_at "W"
    refine ⟨_, .inr ⟨_, rfl, hgetA _ _⟩, by simp; (first | lia | omega), ?_⟩
    rcases List.eq_nil_or_concat zs with rfl | ⟨xs', y, rfl⟩
    · refine if_ff ?_
      have hdrop : ∀ m : List (Str × D), Sle ⟨m, setL (setL L a (.list (([] : List PP).map pr))) st (.list (acc.map spD))⟩ ⟨m, L⟩ := fun m => ⟨fun _ _ e => e, fun b y hb => by
        have hb' : L b = some y := hb
        show (if b = st then _ else if b = a then _ else L b) = _
        rw [if_neg (by rintro rfl; rw [hLs] at hb'; cases hb'), if_neg (by rintro rfl; rw [hLa] at hb'; cases hb')]; exact hb'⟩
      walk_at "A"
      refine AE.forget (AE.binop ?_)
      walk_at "W"
      refine AE.listF ?_
      refine AA.cons ?_ (by rfl)
      refine AE.tuple ?_
      walk_at "W"
      refine AE.callFn (AE.glob (g_filemode B) ⟨_, rfl, ⟨_, _, B.K 61 _ rfl, rfl⟩, ?_⟩)
      walk_at "W"
      refine AC.eq (filemode_ok B) ?_
      walk_at "W"
      refine ⟨by simp, ?_⟩
      walk_at "W"
      refine ⟨by simp, ?_⟩
      refine AO.addL (.inr ⟨_, rfl, setL_same⟩) (.inl rfl) (by simp at hlen ⊢; (first | lia | omega)) ?_
      refine ⟨_, hdrop _, ?_, rfl⟩
      have ht : spansOf hs kind = acc ++ [(0, fmode bits)] := htot.symm
      simp only [F.val, ht, List.map_append]
      rfl
    · rw [List.concat_eq_append] at *
      rw [show (!((xs' ++ [y]).map pr).isEmpty) = true from by simp]
      refine if_tt ?_
      refine AX.assignT ?_ (by rfl) (by rfl)
      refine AE.callFn (AE.glob (g_heappop B) ⟨_, rfl, ⟨_, _, B.K 68 _ rfl, rfl⟩, ?_⟩)
      walk_at "W"
      refine AC.eq (heappop_ok B (xs := xs') (y := y) (hgetA _ _) (by simp at hlen; (first | lia | omega))) ?_
      have hswap : ∀ (zs ws : List PP) (acc : List Span), setL (setL (setL L a (.list (zs.map pr))) st (.list (acc.map spD))) a (.list (ws.map pr)) = setL (setL L a (.list (ws.map pr))) st (.list (acc.map spD)) := fun zs ws acc => by
        funext b; unfold setL
        by_cases e1 : b = a
        · rw [if_pos e1, if_neg (by rw [e1]; exact fun e => hne e.symm), if_pos e1]
        · by_cases e2 : b = st
          · simp only [if_neg e1, if_pos e2]
          · simp only [if_neg e1, if_neg e2]
      rw [hswap]
      show AS _ _ _ _ (pr (gt0 (xs' ++ [y]) 0)) _ _
      have hp0 := hm (gt0 (xs' ++ [y]) 0) (by
        unfold gt0
        rw [List.getD_eq_getElem?_getD, List.getElem?_eq_getElem (by simp), Option.getD_some]
        exact List.getElem_mem _)
      have hrest : ∀ p ∈ popRest ltQ xs' y, 0 ≤ p.2 ∧ p.2 < 12 := fun p hp => hm p ((popRest_perm xs' y).mem_iff.mp (List.mem_cons_of_mem _ hp))
      have hpops : pops ltQ (xs' ++ [y]).length (xs' ++ [y]) = gt0 (xs' ++ [y]) 0 :: pops ltQ (popRest ltQ xs' y).length (popRest ltQ xs' y) := by
        rw [popRest_length]
        have e1 : (xs' ++ [y]).length = xs'.length + 1 := by simp
        have e2 : gt0 (xs' ++ [y]) (xs'.length + 1 - 1) = y := by simp [gt0]
        rw [e1, pops, e1, e2, List.dropLast_concat]
      rw [hpops] at htot
      have hk2 : k = xs'.length + 1 := by simpa using hk
      rw [show (if xs' = [] then [] else siftup ltQ (xs'.set 0 y) 0) = popRest ltQ xs' y from rfl]
      generalize gt0 (xs' ++ [y]) 0 = p at *
      have hlen2 : (popRest ltQ xs' y).length = xs'.length := popRest_length xs' y
      generalize popRest ltQ xs' y = zs' at *
      refine AS.pair ?_ ⟨rfl, .inl rfl⟩ ⟨rfl, .inl rfl⟩
      walk_at "W"
      have hend : ∀ (acc' : List Span), acc' = acc ++ (if clock < p.1 then [(p.1 - clock, fmode bits)] else []) → ∀ m : List (Str × D), AllGet m [(Str.ofString "queue", .val (.ref a)), (Str.ofString "clock", .int p.1), (Str.ofString "bits", .int (bits - 2 ^ p.2.toNat)), (Str.ofString "stays", .val (.ref st))] →
          ∃ k', k' < k ∧ ∃ zs clock bits acc, k' = zs.length ∧ zs.length + acc.length ≤ 12 ∧ (∀ p ∈ zs, 0 ≤ p.2 ∧ p.2 < 12) ∧ acc ++ go clock bits (pops ltQ zs.length zs) = spansOf hs kind ∧
            Sle ⟨m, setL (setL L a (.list (zs'.map pr))) st (.list (acc'.map spD))⟩ ⟨[(Str.ofString "queue", .val (.ref a)), (Str.ofString "clock", .int clock), (Str.ofString "bits", .int bits), (Str.ofString "stays", .val (.ref st))], setL (setL L a (.list (zs.map pr))) st (.list (acc.map spD))⟩ := by
        intro acc' hacc m hg
        refine ⟨zs'.length, by (first | lia | omega), zs', p.1, bits - 2 ^ p.2.toNat, acc', rfl, ?_, hrest, ?_, hg.sle⟩
        · rw [hacc, List.length_append]
          simp only [List.length_append, List.length_cons, List.length_nil] at hlen
          split <;> simp <;> (first | lia | omega)
        · rw [hacc, List.append_assoc]; exact htot
      refine ways (fun h => ?_) (fun h => ?_)
      · walk_at "W"
        refine AX.expr (AE.append ?_ (by rfl) (by rfl) (by rfl))
        walk_at "W"
        refine ⟨st, _, rfl, setL_same, ?_⟩
        refine AE.tuple ?_
        walk_at "W"
        refine AE.callFn (AE.glob (g_filemode B) ⟨_, rfl, ⟨_, _, B.K 61 _ rfl, rfl⟩, ?_⟩)
        walk_at "W"
        refine AC.eq (filemode_ok B) ?_
        walk_at "W"
        refine ⟨by simp, _, setL_same, by simp; simp at hlen; (first | lia | omega), rfl, ?_⟩
        dsimp only [Sig.cel]
        rw [setL_setL]
        walk_at "W"
        refine AX.aug (d₀ := .int bits) rfl ?_ ⟨rfl, .inl rfl⟩
        walk_at "W"
        refine AO.pow hp0.1 ?_ ?_
        · rw [show Builtin.Int.intBits 2 = 2 from by decide]; (first | lia | omega)
        refine AO.isub ?_
        walk_at "W"
        have := hend (acc ++ [(p.1 - clock, fmode bits)]) (by rw [if_pos h])
        rw [List.map_append] at this
        exact this _ (by repeat' (first | exact trivial | refine ⟨rfl, ?_⟩))
      · walk_at "W"
        refine AX.aug (d₀ := .int bits) rfl ?_ ⟨rfl, .inl rfl⟩
        walk_at "W"
        refine AO.pow hp0.1 ?_ ?_
        · rw [show Builtin.Int.intBits 2 = 2 from by decide]; (first | lia | omega)
        refine AO.isub ?_
        walk_at "W"
        exact hend acc (by rw [if_neg h]; simp) _ (by repeat' (first | exact trivial | refine ⟨rfl, ?_⟩))
  · have hjl : j < 12 := List.mem_range.mp hj
    refine AS.name ?_ ⟨rfl, .inl rfl⟩
    walk_at "A"
    refine AE.tuple ?_
    walk_at "W"
    refine AO.itemI (.inl rfl) (by (first | lia | omega)) (ints_at (i := j) (by (first | lia | omega))) ?_
    walk_at "W"
    refine ⟨by simp, rfl, ?_⟩
    walk_at "sle"
end
end
section
open PySem PySem.W PyProof.Rows
set_option maxRecDepth 10000

noncomputable def shown1 (k : Nat) : Int := if k = 45 then 0 else if k = 115 ∨ k = 116 then 2 else 1
theorem ways2B {b₀ : Bool} {R X Y : Prop} (hr : R) (h1 : b₀ = true → X) (h2 : b₀ = false → Y) : ∃ b, D.bool b₀ = .bool b ∧ R ∧ (if b = true then X else Y) :=
  let ⟨b, e, h⟩ := waysB h1 h2; ⟨b, e, hr, h⟩
theorem Sle.names {σ : Sig} {m m' : List (Str × D)} {L : Addr → Option Cel} (h : Sle σ ⟨m, L⟩) : Sle ⟨m', σ.L⟩ ⟨m', L⟩ := ⟨fun _ _ e => e, h.2⟩
section
variable {c : Cx} {n : Nat} {L : Addr → Option Cel}
theorem shown_ok (B : BaseOk c) {l : List Nat} (hl : l.length ≤ 1000) : AC c (n + 1) (.ref 195) [.str (tx l)] [] L (fun d L' => d = .int (l.map shown1).sum ∧ L' = L) := by
  refine AC.fn (names := [Str.ofString "signs"]) ⟨⟨_, B.K 195 _ rfl, rfl⟩, ⟨_, _, _, _, rfl, B.K 194 _ rfl, rfl, rfl⟩, rfl, rfl, rfl, rfl, rfl, rfl, rfl, fun x hx k => cellsFrom_some _ _ (mem_of_lookup hx), B.lim⟩ (by decide) (by decide) (by walk_at "bind") ?_
  intro e he
  dsimp only [List.zip, List.zipWith]
  walk_at "W"
  refine AE.forget (AE.callB (AE.built (b_sum B) ⟨rfl, ?_⟩))
  refine AA.cons ?_ (by rfl)
  refine AE.compF (min := []) ⟨rfl, rfl, rfl, (AllGet.sle (L := fun _ => Option.none) (by repeat' (first | exact trivial | refine ⟨rfl, ?_⟩))).1, isf_of rfl, rfl⟩ ?_ (by intro _; rfl)
  refine AEI.data ?_
  walk_at "W"
  refine AI.str ?_
  rw [tx_chars]
  refine ⟨rfl, by simpa using hl, fun e' he' => ?_⟩
  refine ACmp.map (inD := fun k => D.str (tx [k])) (outD := fun k => .int (shown1 k)) (m₀ := []) (L₀ := L) (fun k => ?_) l (Sle.refl _) ?_
  · refine AS.name ?_ ⟨rfl, .inl rfl⟩
    walk_at "A"
    refine AE.ifeD (v := .int (shown1 k)) ?_ ⟨rfl, ?_⟩
    rotate_left
    · walk_at "sle"
    walk_at "W"
    rw [show Str.ofString "-" = tx [45] from by kernel_rfl]
    refine AO.eqS ?_
    refine ways2B rfl (fun h => ?_) (fun h => ?_)
    · have hk : k = 45 := by simpa using h
      walk_at "W"
      refine ⟨?_, rfl⟩
      rw [shown1, if_pos hk]
    · have hk : ¬ k = 45 := by simpa using h
      refine AE.ifeD (v := .int (shown1 k)) ?_ ⟨rfl, rfl⟩
      walk_at "W"
      rw [show Str.ofString "st" = tx [115, 116] from by kernel_rfl]
      refine AO.inS ?_
      refine ways2 rfl (fun h => ?_) (fun h => ?_)
      · walk_at "W"
        refine ⟨?_, rfl⟩
        rw [shown1, if_neg hk, if_pos (by simpa using h)]
      · walk_at "W"
        refine ⟨?_, rfl⟩
        rw [shown1, if_neg hk, if_neg (by simpa using h)]
  · intro σ' hs'
    walk_at "W"
    refine AB.sumL (ns := l.map shown1) (.inl (by rw [List.map_map]; rfl)) ?_
    exact ⟨_, hs'.names, rfl, rfl⟩

/-- how long at least so many are shown, from start on -/
noncomputable def levelAt (start : Int) (ws : List (Int × Int)) (k : Int) : Int := start + ((ws.filter fun p => decide (k ≤ p.2)).map (·.1)).sum
theorem levels_ok (B : BaseOk c) {start : Int} {ws : List (Int × Int)} {most : Nat} (hm : most ≤ 100) (hw : ws.length ≤ 1000) : AC c (n + 1) (.ref 200) [.int start, .lst (ws.map pr), .int most] [] L (fun d L' => d = .lst ((List.range most).map fun (i : Nat) => .int (levelAt start ws ((i : Int) + 1))) ∧ L' = L) := by
  refine AC.fn (names := [Str.ofString "start", Str.ofString "counts", Str.ofString "most"]) ⟨⟨_, B.K 200 _ rfl, rfl⟩, ⟨_, _, _, _, rfl, B.K 199 _ rfl, rfl, rfl⟩, rfl, rfl, rfl, rfl, rfl, rfl, rfl, fun x hx k => cellsFrom_some _ _ (mem_of_lookup hx), B.lim⟩ (by decide) (by decide) (by walk_at "bind") ?_
  intro e he
  dsimp only [List.zip, List.zipWith]
  walk_at "W"
  refine AE.forget (AE.compF (min := [(Str.ofString "start", .int start), (Str.ofString "counts", .lst (ws.map pr))]) ⟨rfl, rfl, rfl, (AllGet.sle (L := fun _ => Option.none) (by repeat' (first | exact trivial | refine ⟨rfl, ?_⟩))).1, isf_of rfl, rfl⟩ ?_ (by intro _; rfl))
  refine AEI.data ?_
  refine AE.callT (AE.built (b_range B) ⟨rfl, ?_⟩)
  walk_at "W"
  refine AB.range2 ?_
  refine AI.up (by (first | lia | omega)) (by (first | lia | omega)) (by (first | lia | omega)) ?_
  have e1 : steps 1 1 (((most : Int) + 1 - 1).toNat) = (List.range most).map fun (i : Nat) => D.int ((i : Int) + 1) := by
    unfold steps
    rw [show ((most : Int) + 1 - 1).toNat = most from by (first | lia | omega)]
    apply List.map_congr_left
    intro i _
    congr 1; (first | lia | omega)
  rw [e1]
  refine ⟨rfl, by simp; (first | lia | omega), fun e' he' => ?_⟩
  refine ACmp.map (inD := fun (i : Nat) => D.int ((i : Int) + 1)) (outD := fun (i : Nat) => .int (levelAt start ws ((i : Int) + 1))) (m₀ := [(Str.ofString "start", .int start), (Str.ofString "counts", .lst (ws.map pr))]) (L₀ := L) (fun i => ?_) _ (Sle.refl _) ?_
  · refine AS.name ?_ ?_
    · walk_at "W"
      refine AE.callB (AE.built (b_sum B) ⟨rfl, ?_⟩)
      refine AA.cons ?_ (by rfl)
      refine AE.compF (min := [(Str.ofString "n", .int ((i : Int) + 1))]) ⟨rfl, rfl, rfl, (AllGet.sle (L := fun _ => Option.none) (by repeat' (first | exact trivial | refine ⟨rfl, ?_⟩))).1, isf_of rfl, rfl⟩ ?_ (by intro _; rfl)
      refine AEI.data ?_
      walk_at "W"
      refine AI.lst ?_
      refine ⟨rfl, by simpa using hw, fun e'' he'' => ?_⟩
      refine ACmp.filterMap (inD := pr) (f := fun p => decide ((i : Int) + 1 ≤ p.2)) (outD := fun p => .int p.1) (m₀ := [(Str.ofString "n", .int ((i : Int) + 1))]) (L₀ := L) (fun p => ?_) _ (Sle.refl _) ?_
      · refine AS.pair ?_ ⟨rfl, .inl rfl⟩ ⟨rfl, .inl rfl⟩
        walk_at "W"
        refine ⟨_, rfl, rfl, ?_, fun _ => ?_⟩
        · walk_at "sle"
        · walk_at "W"
          refine ⟨rfl, ?_⟩
          walk_at "sle"
      · intro σ' hs'
        walk_at "W"
        refine AB.sumL (ns := (ws.filter fun p => decide ((i : Int) + 1 ≤ p.2)).map (·.1)) (.inl (by rw [List.map_map]; rfl)) ?_
        walk_at "W"
        refine ⟨rfl, ?_⟩
        exact ⟨(AllGet.sle (L := L) (by repeat' (first | exact trivial | refine ⟨rfl, ?_⟩))).1, hs'.2⟩
    · exact ⟨rfl, .inr ⟨rfl, he' _ rfl⟩⟩
  · intro σ' hs'
    exact ⟨_, hs'.names, rfl, rfl⟩
end
end
section
open PySem PySem.W PyProof.Rows
set_option maxRecDepth 10000

noncomputable abbrev Sg := Nat × Int
noncomputable def sgD (p : Sg) : D := .tup [.str (tx [p.1]), .int p.2]
noncomputable def sgsD (r : List Sg) : D := .lst (r.map sgD)
noncomputable def three (hs : List Int) (s e : Int) (k : Nat) : List (List Sg) :=
  [[(114, hs.getD (8 - 3 * k) 0 - s), (45, e - hs.getD (8 - 3 * k) 0)], [(119, hs.getD (7 - 3 * k) 0 - s), (45, e - hs.getD (7 - 3 * k) 0)],
   [([115, 115, 116].getD k 0, min (hs.getD (6 - 3 * k) 0) (hs.getD (11 - k) 0) - s), (120, max (hs.getD (6 - 3 * k) 0 - hs.getD (11 - k) 0) 0),
    ([83, 83, 84].getD k 0, max (hs.getD (11 - k) 0 - hs.getD (6 - 3 * k) 0) 0), (45, e - max (hs.getD (6 - 3 * k) 0) (hs.getD (11 - k) 0))]]
noncomputable def dueOf (hs : List Int) (s e : Int) (k : Nat) : List (List Sg) := (List.range k).flatMap (three hs s e)
section
variable {c : Cx} {n : Nat} {env : Env} {σ : Sig} {target : Expr} {body : List Stmt} {E B : Sig → Prop} {R : D → Sig → Prop} {d : D} {ds : List D}
theorem AFor.cons (h : AS c n env target d σ (fun σ₁ => AX c n env body σ₁ (LoopQ (AFor c n env target body E B R ds) B R))) : AFor c n env target body E B R (d :: ds) σ := h
theorem AFor.nil (h : E σ) : AFor c n env target body E B R [] σ := h
end
section
variable {c : Cx} {n : Nat} {L : Addr → Option Cel}
theorem signs_ok (B : BaseOk c) {hs : List Int} {s₀ e₀ : Int} (hl : hs.length = 12) : AC c (n + 1) (.ref 190) [.lst (hs.map D.int), .int s₀, .int e₀] [] L (fun d L' => d = .lst ((dueOf hs s₀ e₀ 3).map sgsD) ∧ L' = L) := by
  refine AC.fn (names := [Str.ofString "row", Str.ofString "start", Str.ofString "end"]) ⟨⟨_, B.K 190 _ rfl, rfl⟩, ⟨_, _, _, _, rfl, B.K 189 _ rfl, rfl, rfl⟩, rfl, rfl, rfl, rfl, rfl, rfl, rfl, fun x hx k => cellsFrom_some _ _ (mem_of_lookup hx), B.lim⟩ (by decide) (by decide) (by walk_at "bind") ?_
  intro e he
  dsimp only [List.zip, List.zipWith]
  walk_at "W"
  refine AE.listM ?_
  walk_at "W"
  refine ⟨by simp, fun a ha => ?_⟩
  have hLa : L a = Option.none := ha
  dsimp only [Sig.cel]
  walk_at "W"
  refine AX.for_ (AEI.data ?_)
  refine AE.callT (AE.built (b_range B) ⟨rfl, ?_⟩)
  walk_at "W"
  refine AB.range1 ?_
  refine AI.up (by decide) (by decide) (by decide) ?_
  refine AFor.up (m := 3) (fun j σ => Sle σ ⟨[(Str.ofString "row", .lst (hs.map D.int)), (Str.ofString "start", .int s₀), (Str.ofString "end", .int e₀), (Str.ofString "due", .val (.ref a))], setL L a (.list ((dueOf hs s₀ e₀ j).map sgsD))⟩) ?_ ?_ ?_
  · walk_at "sle"
  · intro σ hs'
    refine AX.weaken ?_ hs'
    refine AX.frz (x := Str.ofString "due") (a := a) rfl setL_same ?_
    dsimp only
    rw [eraseL_setL hLa]
    walk_at "W"
    exact ⟨rfl, rfl⟩
  · intro j σ hjl hs'
    rw [Int.zero_add]
    have hlen : (dueOf hs s₀ e₀ j).length ≤ 9 := by
      unfold dueOf
      rw [List.length_flatMap]
      have : ∀ l : List Nat, (l.map fun a => (three hs s₀ e₀ a).length).sum = 3 * l.length := by
        intro l; induction l with
        | nil => rfl
        | cons x r ih => rw [List.map_cons, List.sum_cons, ih]; simp [three]; (first | lia | omega)
      rw [this]; simp; (first | lia | omega)
    have ix : ∀ i : Nat, i < 12 → (hs.map D.int)[i]? = some (.int (hs.getD i 0)) := fun i hi => ints_at (by (first | lia | omega))
    refine AS.weaken ?_ hs'
    refine AS.name ?_ ⟨rfl, .inl rfl⟩
    walk_at "W"
    refine AX.for_ (AEI.data ?_)
    refine AE.listF ?_
    refine AA.cons ?_ (by rfl)
    refine AE.tuple ?_
    refine AA.cons ?_ (by rfl)
    refine AE.strT (l := [114]) (by kernel_rfl) ?_
    walk_at "W"
    refine AO.mul ?_ (IntMulOk.of_left (by decide))
    walk_at "W"
    rw [show (8 : Int) - 3 * (j : Int) = ((8 - 3 * j : Nat) : Int) from by (first | lia | omega)]
    refine AO.itemI (.inl rfl) (by (first | lia | omega)) (ix (8 - 3 * j) (by (first | lia | omega))) ?_
    walk_at "W"
    refine ⟨by simp, ?_⟩
    refine AA.cons ?_ (by rfl)
    refine AE.tuple ?_
    refine AA.cons ?_ (by rfl)
    refine AE.strT (l := [119]) (by kernel_rfl) ?_
    walk_at "W"
    refine AO.mul ?_ (IntMulOk.of_left (by decide))
    walk_at "W"
    rw [show (7 : Int) - 3 * (j : Int) = ((7 - 3 * j : Nat) : Int) from by (first | lia | omega)]
    refine AO.itemI (.inl rfl) (by (first | lia | omega)) (ix (7 - 3 * j) (by (first | lia | omega))) ?_
    walk_at "W"
    refine ⟨by simp, ?_⟩
    walk_at "W"
    refine ⟨by simp, ?_⟩
    refine AI.lst ?_
    refine AFor.cons ?_
    refine AS.pair ?_ ⟨rfl, .inl rfl⟩ ⟨rfl, .inl rfl⟩
    walk_at "W"
    refine AX.expr (AE.append ?_ (by rfl) (by rfl) (by rfl))
    walk_at "W"
    refine ⟨a, _, rfl, setL_same, ?_⟩
    refine AE.listF ?_
    refine AA.cons ?_ (by rfl)
    refine AE.tuple ?_
    walk_at "W"
    refine ⟨by simp, ?_⟩
    refine AA.cons ?_ (by rfl)
    refine AE.tuple ?_
    refine AA.cons ?_ (by rfl)
    refine AE.strT (l := [45]) (by kernel_rfl) ?_
    walk_at "W"
    refine ⟨by simp, ?_⟩
    walk_at "W"
    refine ⟨by simp, _, setL_same, by simp; (first | lia | omega), rfl, ?_⟩
    dsimp only [Sig.cel]
    rw [setL_setL]
    walk_at "W"
    refine AFor.cons ?_
    refine AS.pair ?_ ⟨rfl, .inl rfl⟩ ⟨rfl, .inl rfl⟩
    walk_at "W"
    refine AX.expr (AE.append ?_ (by rfl) (by rfl) (by rfl))
    walk_at "W"
    refine ⟨a, _, rfl, setL_same, ?_⟩
    refine AE.listF ?_
    refine AA.cons ?_ (by rfl)
    refine AE.tuple ?_
    walk_at "W"
    refine ⟨by simp, ?_⟩
    refine AA.cons ?_ (by rfl)
    refine AE.tuple ?_
    refine AA.cons ?_ (by rfl)
    refine AE.strT (l := [45]) (by kernel_rfl) ?_
    walk_at "W"
    refine ⟨by simp, ?_⟩
    walk_at "W"
    refine ⟨by simp, _, setL_same, by simp; (first | lia | omega), rfl, ?_⟩
    dsimp only [Sig.cel]
    rw [setL_setL]
    walk_at "W"
    show AX _ _ _ _ _ _
    walk_at "W"
    refine AO.mul ?_ (IntMulOk.of_left (by decide))
    walk_at "W"
    rw [show (6 : Int) - 3 * (j : Int) = ((6 - 3 * j : Nat) : Int) from by (first | lia | omega)]
    refine AO.itemI (.inl rfl) (by (first | lia | omega)) (ix (6 - 3 * j) (by (first | lia | omega))) ?_
    walk_at "W"
    rw [show (11 : Int) - (j : Int) = ((11 - j : Nat) : Int) from by (first | lia | omega)]
    refine AO.itemI (.inl rfl) (by (first | lia | omega)) (ix (11 - j) (by (first | lia | omega))) ?_
    walk_at "W"
    refine AE.callB (AE.built (b_min B) ⟨rfl, ?_⟩)
    walk_at "W"
    refine AB.min2 ?_
    walk_at "W"
    refine AE.callB (AE.built (b_max B) ⟨rfl, ?_⟩)
    walk_at "W"
    refine AB.max2 ?_
    walk_at "W"
    refine AX.expr (AE.append ?_ (by rfl) (by rfl) (by rfl))
    walk_at "W"
    refine ⟨a, _, rfl, setL_same, ?_⟩
    refine AE.listF ?_
    refine AA.cons ?_ (by rfl)
    refine AE.tuple ?_
    refine AA.cons ?_ (by rfl)
    refine AE.sub ?_
    refine AE.strT (l := [115, 115, 116]) (by kernel_rfl) ?_
    walk_at "W"
    refine AO.itemS (ch := [115, 115, 116].getD j 0) (by (first | lia | omega)) (by (first | lia | omega)) (by rw [Int.toNat_natCast]; simp [hjl]) ?_
    walk_at "W"
    refine ⟨by simp, ?_⟩
    refine AA.cons ?_ (by rfl)
    refine AE.tuple ?_
    refine AA.cons ?_ (by rfl)
    refine AE.strT (l := [120]) (by kernel_rfl) ?_
    refine AA.cons ?_ (by rfl)
    refine AE.callB (AE.built (b_max B) ⟨rfl, ?_⟩)
    walk_at "W"
    refine AB.max2 ?_
    walk_at "W"
    refine ⟨by simp, ?_⟩
    refine AA.cons ?_ (by rfl)
    refine AE.tuple ?_
    refine AA.cons ?_ (by rfl)
    refine AE.sub ?_
    refine AE.strT (l := [83, 83, 84]) (by kernel_rfl) ?_
    walk_at "W"
    refine AO.itemS (ch := [83, 83, 84].getD j 0) (by (first | lia | omega)) (by (first | lia | omega)) (by rw [Int.toNat_natCast]; simp [hjl]) ?_
    refine AA.cons ?_ (by rfl)
    refine AE.callB (AE.built (b_max B) ⟨rfl, ?_⟩)
    walk_at "W"
    refine AB.max2 ?_
    walk_at "W"
    refine ⟨by simp, ?_⟩
    refine AA.cons ?_ (by rfl)
    refine AE.tuple ?_
    refine AA.cons ?_ (by rfl)
    refine AE.strT (l := [45]) (by kernel_rfl) ?_
    walk_at "W"
    refine ⟨by simp, ?_⟩
    walk_at "W"
    refine ⟨by simp, _, setL_same, by simp; (first | lia | omega), rfl, ?_⟩
    dsimp only [Sig.cel]
    rw [setL_setL]
    walk_at "W"
    show Sle _ _
    · rw [show dueOf hs s₀ e₀ (j + 1) = dueOf hs s₀ e₀ j ++ three hs s₀ e₀ j from by unfold dueOf; rw [List.range_succ, List.flatMap_append]; simp, List.map_append]
      have : ∀ l : List D, l ++ [sgsD [(114, hs.getD (8 - 3 * j) 0 - s₀), (45, e₀ - hs.getD (8 - 3 * j) 0)]] ++ [sgsD [(119, hs.getD (7 - 3 * j) 0 - s₀), (45, e₀ - hs.getD (7 - 3 * j) 0)]] ++
          [sgsD [([115, 115, 116].getD j 0, min (hs.getD (6 - 3 * j) 0) (hs.getD (11 - j) 0) - s₀), (120, max (hs.getD (6 - 3 * j) 0 - hs.getD (11 - j) 0) 0), ([83, 83, 84].getD j 0, max (hs.getD (11 - j) 0 - hs.getD (6 - 3 * j) 0) 0), (45, e₀ - max (hs.getD (6 - 3 * j) 0) (hs.getD (11 - j) 0))]] = l ++ (three hs s₀ e₀ j).map sgsD := by
        intro l; simp [three]
      rw [← this]
      walk_at "sle"
end
end
section
open PySem PySem.W PyProof.Rows
set_option maxRecDepth 10000

section
variable {c : Cx} {n : Nat} {env : Env} {σ : Sig} {pos : Pos} {rest : List Stmt} {Q : F → Sig → Prop}
/-- an expression for its effect -/
theorem AX.exprA {e : Expr} (h : AE c n env e σ (fun _ σ₁ => AX c n env rest σ₁ Q)) (hs : swapsWith e Option.none pos.line env = pure false := by rfl) : AX c n env (.Expr e pos :: rest) σ Q :=
  .then_ fun Z A s hr r => wpAny_Expr_any (wpAny_mono (h Z A s hr r) (fun v _ ⟨Z₁, σ₁, d, l, r₁, e, q⟩ => ⟨Z₁, σ₁, l, r₁, rfl, q⟩) fun _ _ e => e) (by unfold interactive; rw [r.f.ok.kind]; rfl) hs
end
section
variable {c : Cx} {n : Nat} {L : Addr → Option Cel}
theorem nsmallest_ok (B : BaseOk c) {hs : List Int} {k : Nat} (hl : hs.length ≤ 12) (h2 : 2 ≤ k) (hk : k ≤ hs.length) : AC c (n + 4) (.ref 130) [.int k, .lst (hs.map D.int)] [] L (fun d L' => (∃ ys : List Int, Least k hs ys ∧ d = .lst (ys.map D.int)) ∧ L' = L) := by
  refine AC.body (names := [Str.ofString "n", Str.ofString "iterable", Str.ofString "key"]) (ds' := [.int k, .lst (hs.map D.int), .none]) ⟨⟨_, B.K 130 _ rfl, rfl⟩, ⟨_, _, _, _, rfl, B.K 129 _ rfl, rfl, rfl⟩, rfl, rfl, rfl, rfl, rfl, rfl, rfl, fun x hx k => cellsFrom_some _ _ (mem_of_lookup hx), B.lim⟩ (by decide) (by decide) (fun Z A s vs us hr r hv hu => ?_) ?_
  · simp only [RepL] at hv
    obtain ⟨v, _, rfl, hv, w, _, rfl, hw, rfl⟩ := hv
    simp only [List.map_nil, RepL] at hu
    subst hu
    unfold bindArgs
    refine wpAny_bind (wpAny_of_eq (a := ([(Str.ofString "n", v), (Str.ofString "iterable", w)], [])) rfl ?_)
    refine wpAny_bind (wpAny_seqItems (r.zone _ _ (r.base _ _ (B.K 125 _ rfl))) rfl ?_)
    refine wpAny_ite_false rfl ?_
    refine wpAny_ite_false rfl ?_
    refine wpAny_bind (wpAny_of_eq (a := [(Str.ofString "n", v), (Str.ofString "iterable", w), (Str.ofString "key", Value.none)]) rfl ?_)
    refine wpAny_bind (wpAny_of_eq (a := ([(Str.ofString "n", v), (Str.ofString "iterable", w), (Str.ofString "key", Value.none)], [])) rfl ?_)
    refine wpAny_ite_false rfl ?_
    exact wpAny_pure ⟨[v, w, .none], rfl, RepL.cons hv (RepL.cons hw (RepL.cons (by simp only [Rep]) RepL.nil)), rfl⟩
  intro e he
  dsimp only [List.zip, List.zipWith]
  walk_at "W"
  refine waysB (fun h => ?_) (fun h => ?_)
  · exfalso; have := beq_iff_eq.mp h; (first | lia | omega)
  walk_at "W"
  refine AX.try_ ?_
  walk_at "W"
  refine AE.callB (AE.built (b_len B) ⟨rfl, ?_⟩)
  walk_at "W"
  refine AB.len (.inl rfl) (by simp; (first | lia | omega)) ?_
  simp only [List.length_map]
  walk_at "W"
  refine ways (fun h => ?_) (fun h => ?_)
  · walk_at "W"
    refine AE.callBK (xs := [Str.ofString "key"]) (by rfl) (AE.built (b_sorted B) ⟨rfl, ?_⟩)
    walk_at "W"
    refine AK.cons ?_
    walk_at "W"
    refine AK.nil ?_
    refine ⟨rfl, ?_⟩
    refine AB.sortedK (.inl rfl) (by (first | lia | omega)) fun ss hp hs' => ?_
    refine AP.none (AP.some ?_)
    walk_at "W"
    refine ⟨_, rfl, AP.none ?_⟩
    refine ASl.upto (.inl rfl) (by (first | lia | omega)) (by simp; rw [hp.length_eq]; (first | lia | omega)) ?_
    refine ⟨⟨ss.take k, ⟨?_, ?_, ss.drop k, ?_, ?_⟩, ?_⟩, rfl⟩
    · rw [List.length_take, hp.length_eq]; (first | lia | omega)
    · exact hs'.sublist (List.take_sublist _ _)
    · rw [List.take_append_drop]; exact hp
    · intro y hy r hr
      have := List.take_append_drop k ss
      rw [← this, List.pairwise_append] at hs'
      exact hs'.2.2 y hy r hr
    · simp only [F.val, Int.toNat_natCast, List.map_take]
  walk_at "W"
  show AX _ _ _ _ _ _
  walk_at "W"
  refine AO.isNone ?_
  refine waysB (fun _ => ?_) (fun h => by cases h)
  walk_at "W"
  refine AE.callB (AE.built (b_iter B) ⟨rfl, ?_⟩)
  walk_at "W"
  refine AB.iter fun it hit => ?_
  have hLi : L it = Option.none := hit
  dsimp only [Sig.cel]
  walk_at "W"
  refine AX.assignCompZ (min := []) ⟨rfl, rfl, rfl, (AllGet.sle (L := fun _ => Option.none) (by repeat' (first | exact trivial | refine ⟨rfl, ?_⟩))).1, isf_of rfl, rfl⟩ ?_ ⟨rfl, .inl rfl⟩ (by rfl) (by intro _; rfl)
  refine AEIz.zip (AE.built (b_zip B) ⟨rfl, ?_⟩)
  refine AE.callT (AE.built (b_range B) ⟨rfl, ?_⟩)
  walk_at "W"
  refine AB.range1 ?_
  walk_at "W"
  have hrs : Builtin.Range.rangeSize 0 (k : Int) 1 = ((k : Nat) : Int) := by rw [rangeUp (by (first | lia | omega))]; (first | lia | omega)
  refine ⟨0, k, 1, k, it, hs.map D.int, rfl, rfl, setL_same, ?_, hrs, by simp; (first | lia | omega), ?_⟩
  · have f : ∀ x : Int, -10000000 < x → x < 10000000 → Builtin.Range.rangeFitsLong x = true := fun x h1 h2 => by
      simp only [Builtin.Range.rangeFitsLong, Bool.and_eq_true, decide_eq_true_eq]; (first | lia | omega)
    unfold Builtin.Range.small
    rw [hrs, f 0 (by (first | lia | omega)) (by (first | lia | omega)), f k (by (first | lia | omega)) (by (first | lia | omega)), f 1 (by (first | lia | omega)) (by (first | lia | omega)), if_pos (by decide), f ((k : Int) + (1 - 1)) (by (first | lia | omega)) (by (first | lia | omega))]
    simp
  dsimp only
  rw [eraseL_setL hLi]
  refine ⟨rfl, hLi, by rw [zips_length]; (first | lia | omega), fun e' he' => ?_⟩
  refine ACmp.map (inD := fun i => .tup [.int (0 + (i : Nat) * 1), (hs.map D.int).getD i .none]) (outD := fun i => .tup [(hs.map D.int).getD i .none, .int (0 + (i : Nat) * 1)]) (m₀ := []) (L₀ := L) (fun i => ?_) (List.range k) (Sle.refl _) ?_
  · refine AS.pair ?_ ⟨rfl, .inl rfl⟩ ⟨rfl, .inl rfl⟩
    walk_at "A"
    refine AE.tuple ?_
    walk_at "W"
    refine ⟨by simp, rfl, ?_⟩
    walk_at "sle"
  intro σ' hs' a ha hai
  have hLa : L a = Option.none := by
    cases q : L a with
    | none => rfl
    | some y => have := hs'.2 a y q; rw [ha] at this; cases this
  have hxs0 : (List.range k).map (fun i => D.tup [(hs.map D.int).getD i .none, .int (0 + (i : Nat) * 1)]) = ((List.range k).map fun (i : Nat) => (hs.getD i 0, (i : Int))).map pr := by
    rw [List.map_map]
    apply List.map_congr_left
    intro i hi
    have := List.mem_range.mp hi
    have hil : i < hs.length := by (first | lia | omega)
    simp [hil]
  rw [hxs0]
  generalize hxs : ((List.range k).map fun (i : Nat) => (hs.getD i 0, (i : Int))) = xs
  have hxl : xs.length = k := by rw [← hxs]; simp
  have hxn : xs.Nodup := by
    rw [← hxs]
    refine List.pairwise_map.mpr (List.Pairwise.imp ?_ List.nodup_range)
    intro i j hij h; exact hij (by have h3 : (i : Int) = j := congrArg Prod.snd h; (first | lia | omega))
  have hxo : ∀ p ∈ xs, p.2 < (k : Int) := by
    intro p hp; rw [← hxs] at hp
    obtain ⟨i, hi, rfl⟩ := List.mem_map.mp hp
    have := List.mem_range.mp hi
    show (i : Int) < k; (first | lia | omega)
  have hxf : xs.map (·.1) = hs.take k := by
    rw [← hxs, List.map_map]
    apply List.ext_getElem?
    intro i
    rcases Nat.lt_or_ge i k with q | q
    · simp [q, show i < hs.length by (first | lia | omega)]
    · rw [List.getElem?_eq_none (by simpa using q), List.getElem?_eq_none (by simp; (first | lia | omega))]
  have hget : ∀ (zs : List PP) (x : Cel), setL (setL L a (.list (zs.map pr))) it x a = some (.list (zs.map pr)) := fun zs x => by
    show (if a = it then _ else _) = _
    rw [if_neg hai]; exact setL_same
  refine AX.weaken (σ' := ⟨[(Str.ofString "n", .int k), (Str.ofString "it", .val (.ref it)), (Str.ofString "result", .val (.ref a))], setL (setL L a (.list (xs.map pr))) it (.iter ((hs.drop k).map D.int))⟩) ?_ ⟨?_, ?_⟩
  rotate_left
  · exact (AllGet.sle (L := L) (by repeat' (first | exact trivial | refine ⟨rfl, ?_⟩))).1
  · intro b y hb
    have hb' : (if b = it then some (Cel.iter ((hs.drop k).map D.int)) else if b = a then some (Cel.list (xs.map pr)) else L b) = some y := hb
    show (if b = it then some (Cel.iter ((hs.map D.int).drop k)) else if b = a then some (Cel.list (xs.map pr)) else σ'.L b) = some y
    rw [List.map_drop] at hb'
    by_cases q : b = it
    · rw [if_pos q] at hb' ⊢; exact hb'
    · rw [if_neg q] at hb' ⊢
      by_cases q' : b = a
      · rw [if_pos q'] at hb' ⊢; exact hb'
      · rw [if_neg q'] at hb' ⊢; exact hs'.2 b y hb'
  walk_at "W"
  refine AT.list ?_ (by intro _; rfl)
  walk_at "W"
  refine ⟨_, .inr ⟨_, rfl, hget _ _⟩, by simp; (first | lia | omega), ?_⟩
  rw [show (!(xs.map pr).isEmpty) = true from by cases xs with
    | nil => simp at hxl; (first | lia | omega)
    | cons x r => rfl]
  refine if_ff ?_
  walk_at "W"
  refine AX.expr (AE.callFn (AE.glob (g_heapify_max B) ⟨_, rfl, ⟨_, _, B.K 96 _ rfl, rfl⟩, ?_⟩))
  walk_at "W"
  refine AC.eq (heapifyMax_ok B (xs := xs) (hget _ _) (by (first | lia | omega))) ?_
  refine ⟨rfl, ?_⟩
  have hswap : ∀ (zs ws : List PP) (x : Cel), setL (setL (setL L a (.list (zs.map pr))) it x) a (.list (ws.map pr)) = setL (setL L a (.list (ws.map pr))) it x := fun zs ws x => by
    funext b; unfold setL
    by_cases e1 : b = a
    · rw [if_pos e1, if_neg (by rw [e1]; exact hai), if_pos e1]
    · by_cases e2 : b = it
      · simp only [if_neg e1, if_pos e2]
      · simp only [if_neg e1, if_neg e2]
  rw [hswap]
  have hzp : (heapifyL gtQ xs).Perm xs := heapifyL_perm xs
  have hzh : HeapFrom gtQ 0 (heapifyL gtQ xs) := heapifyL_heap lo_ltQ.flip xs
  have hzl : (heapifyL gtQ xs).length = k := by rw [hzp.length_eq, hxl]
  show AX _ _ _ _ ⟨_, setL (setL L a (.list ((heapifyL gtQ xs).map pr))) it _⟩ _
  generalize heapifyL gtQ xs = zs at *
  walk_at "W"
  refine AO.itemL (hget _ _) (by (first | lia | omega)) (by (first | lia | omega)) (getD_of (i := 0) (by (first | lia | omega))) ?_
  walk_at "W"
  refine AO.itemT (by (first | lia | omega)) (by (first | lia | omega)) rfl ?_
  walk_at "W"
  refine AE.glob (g_heapreplace_max B) ?_
  walk_at "W"
  refine AX.for_ (AEI.data ?_)
  walk_at "W"
  refine AI.iter (a := it) setL_same ?_
  dsimp only
  have hLia : setL L a (.list (zs.map pr)) it = Option.none := by
    show (if it = a then _ else L it) = _
    rw [if_neg (fun e => hai e.symm)]; exact hLi
  rw [eraseL_setL hLia]
  have hinit : LInv hs (hs.drop k) k zs k := by
    refine ⟨hzl, hzh, hzp.nodup_iff.mpr hxn, fun p hp => hxo p (hzp.mem_iff.mp hp), [], ?_, fun _ _ d hd => by cases hd⟩
    rw [List.append_nil]
    have e1 := (hzp.map (fun p : PP => p.1)).append_right (hs.drop k)
    rw [hxf, List.take_append_drop] at e1
    exact e1
  refine AFor.ind (fun items σ => ∃ (rest : List Int) (zs : List PP) (o : Int), items = rest.map D.int ∧ LInv hs rest k zs o ∧
      Sle σ ⟨[(Str.ofString "result", .val (.ref a)), (Str.ofString "top", .int (gt0 zs 0).1), (Str.ofString "order", .int o), (Str.ofString "_heapreplace", .val (.ref 89))], setL L a (.list (zs.map pr))⟩) ⟨hs.drop k, zs, k, rfl, hinit, ?_⟩ ?_ ?_
  · walk_at "sle"
  · rintro σ ⟨rest, zs, o, hr, hI, hs''⟩
    have : rest = [] := by simpa using hr.symm
    subst this
    refine AX.weaken ?_ hs''
    walk_at "W"
    refine AX.expr (AE.sort0 ?_ (by rfl) (by rfl))
    walk_at "W"
    refine ⟨a, zs, rfl, setL_same, hI.nodup, by rw [hI.len]; exact h2, by rw [hI.len]; (first | lia | omega), rfl, ?_⟩
    dsimp only [Sig.cel]
    rw [setL_setL]
    walk_at "W"
    refine AE.forget (AE.compF (min := []) ⟨rfl, rfl, rfl, (AllGet.sle (L := fun _ => Option.none) (by repeat' (first | exact trivial | refine ⟨rfl, ?_⟩))).1, isf_of rfl, rfl⟩ ?_ (by intro _; rfl))
    refine AEI.data ?_
    refine AE.frz ?_
    walk_at "W"
    refine ⟨a, _, rfl, setL_same, ?_⟩
    dsimp only
    rw [eraseL_setL hLa]
    refine AI.lst ?_
    have ho := (outOf_ok hI.nodup (by rw [hI.len]; exact h2)).1.length_eq
    refine ⟨rfl, by simp [ho, hI.len]; (first | lia | omega), fun e'' he'' => ?_⟩
    refine ACmp.map (inD := pr) (outD := fun p => .int p.1) (m₀ := []) (L₀ := L) (fun p => ?_) _ (Sle.refl _) ?_
    · refine AS.pair ?_ ⟨rfl, .inl rfl⟩ ⟨rfl, .inl rfl⟩
      walk_at "W"
      refine ⟨rfl, ?_⟩
      walk_at "sle"
    · intro σ₂ hs₂
      exact ⟨_, hs₂.names, ⟨_, hI.least h2, by simp only [F.val]; rw [List.map_map]; rfl⟩, rfl⟩
  · rintro d ds σ ⟨rest, zs, o, hr, hI, hs''⟩
    cases rest with
    | nil => cases hr
    | cons x rest =>
      obtain ⟨rfl, rfl⟩ := List.cons.inj hr
      refine AS.weaken ?_ hs''
      refine AS.name ?_ ⟨rfl, .inl rfl⟩
      walk_at "W"
      refine ways (fun h => ?_) (fun h => ?_)
      · walk_at "W"
        refine AX.exprA (AE.callFn ?_)
        walk_at "W"
        refine ⟨_, rfl, ⟨_, _, B.K 89 _ rfl, rfl⟩, ?_⟩
        walk_at "W"
        refine AE.tuple ?_
        walk_at "W"
        refine ⟨by simp, ?_⟩
        walk_at "W"
        refine AC.eq (heapreplaceMax_ok B (x := (x, o)) (xs := zs) setL_same (by rw [hI.len]; (first | lia | omega)) (by rw [hI.len]; (first | lia | omega))) ?_
        rw [setL_setL]
        have hI' := hI.take (by (first | lia | omega)) h
        show AX _ _ _ _ ⟨_, setL L a (.list ((siftup gtQ (zs.set 0 (x, o)) 0).map pr))⟩ _
        generalize siftup gtQ (zs.set 0 (x, o)) 0 = ws at *
        walk_at "W"
        refine AX.assignT ?_ (by rfl) (by rfl)
        walk_at "W"
        refine AO.itemL setL_same (by (first | lia | omega)) (by (first | lia | omega)) (getD_of (i := 0) (by rw [hI'.len]; (first | lia | omega))) ?_
        refine AS.pair ?_ ⟨rfl, .inl rfl⟩ ⟨rfl, .inl rfl⟩
        walk_at "W"
        refine AX.aug (d₀ := .int o) rfl ?_ ⟨rfl, .inl rfl⟩
        walk_at "W"
        refine AO.iadd ?_
        walk_at "W"
        refine ⟨rest, ws, o + 1, rfl, hI', ?_⟩
        walk_at "sle"
      · walk_at "W"
        refine ⟨rest, zs, o, rfl, hI.skip h, ?_⟩
        walk_at "sle"
end
end
section
open PySem PySem.W PyProof.Rows
set_option maxRecDepth 10000

theorem rangeDown (k : Nat) : Builtin.Range.rangeSize 0 (-(k : Int)) (-1) = ((k : Nat) : Int) := by
  unfold Builtin.Range.rangeSize
  simp
  try (first | lia | omega)
section
variable {c : Cx} {n : Nat} {L : Addr → Option Cel}
theorem nlargest_ok (B : BaseOk c) {hs : List Int} {k : Nat} (hl : hs.length ≤ 12) (h2 : 2 ≤ k) (hk : k ≤ hs.length) : AC c (n + 4) (.ref 136) [.int k, .lst (hs.map D.int)] [] L (fun d L' => (∃ ys : List Int, Most k hs ys ∧ d = .lst (ys.map D.int)) ∧ L' = L) := by
  refine AC.body (names := [Str.ofString "n", Str.ofString "iterable", Str.ofString "key"]) (ds' := [.int k, .lst (hs.map D.int), .none]) ⟨⟨_, B.K 136 _ rfl, rfl⟩, ⟨_, _, _, _, rfl, B.K 135 _ rfl, rfl, rfl⟩, rfl, rfl, rfl, rfl, rfl, rfl, rfl, fun x hx k => cellsFrom_some _ _ (mem_of_lookup hx), B.lim⟩ (by decide) (by decide) (fun Z A s vs us hr r hv hu => ?_) ?_
  · simp only [RepL] at hv
    obtain ⟨v, _, rfl, hv, w, _, rfl, hw, rfl⟩ := hv
    simp only [List.map_nil, RepL] at hu
    subst hu
    unfold bindArgs
    refine wpAny_bind (wpAny_of_eq (a := ([(Str.ofString "n", v), (Str.ofString "iterable", w)], [])) rfl ?_)
    refine wpAny_bind (wpAny_seqItems (r.zone _ _ (r.base _ _ (B.K 131 _ rfl))) rfl ?_)
    refine wpAny_ite_false rfl ?_
    refine wpAny_ite_false rfl ?_
    refine wpAny_bind (wpAny_of_eq (a := [(Str.ofString "n", v), (Str.ofString "iterable", w), (Str.ofString "key", Value.none)]) rfl ?_)
    refine wpAny_bind (wpAny_of_eq (a := ([(Str.ofString "n", v), (Str.ofString "iterable", w), (Str.ofString "key", Value.none)], [])) rfl ?_)
    refine wpAny_ite_false rfl ?_
    exact wpAny_pure ⟨[v, w, .none], rfl, RepL.cons hv (RepL.cons hw (RepL.cons (by simp only [Rep]) RepL.nil)), rfl⟩
  intro e he
  dsimp only [List.zip, List.zipWith]
  walk_at "W"
  refine waysB (fun h => ?_) (fun h => ?_)
  · exfalso; have := beq_iff_eq.mp h; (first | lia | omega)
  walk_at "W"
  refine AX.try_ ?_
  walk_at "W"
  refine AE.callB (AE.built (b_len B) ⟨rfl, ?_⟩)
  walk_at "W"
  refine AB.len (.inl rfl) (by simp; (first | lia | omega)) ?_
  simp only [List.length_map]
  walk_at "W"
  refine ways (fun h => ?_) (fun h => ?_)
  · walk_at "W"
    refine AE.callBK (xs := [Str.ofString "key", Str.ofString "reverse"]) (by rfl) (AE.built (b_sorted B) ⟨rfl, ?_⟩)
    walk_at "W"
    refine AK.cons ?_
    walk_at "W"
    refine AK.cons ?_
    walk_at "W"
    refine AK.nil ?_
    refine ⟨rfl, ?_⟩
    refine AB.sortedR (.inl rfl) (by (first | lia | omega)) fun ss hp hs' => ?_
    refine AP.none (AP.some ?_)
    walk_at "W"
    refine ⟨_, rfl, AP.none ?_⟩
    refine ASl.upto (.inl rfl) (by (first | lia | omega)) (by simp; rw [hp.length_eq]; (first | lia | omega)) ?_
    refine ⟨⟨ss.take k, ⟨?_, ?_, ss.drop k, ?_, ?_⟩, ?_⟩, rfl⟩
    · rw [List.length_take, hp.length_eq]; (first | lia | omega)
    · exact hs'.sublist (List.take_sublist _ _)
    · rw [List.take_append_drop]; exact hp
    · intro y hy r hr
      have := List.take_append_drop k ss
      rw [← this, List.pairwise_append] at hs'
      exact hs'.2.2 y hy r hr
    · simp only [F.val, Int.toNat_natCast, List.map_take]
  walk_at "W"
  show AX _ _ _ _ _ _
  walk_at "W"
  refine AO.isNone ?_
  refine waysB (fun _ => ?_) (fun h => by cases h)
  walk_at "W"
  refine AE.callB (AE.built (b_iter B) ⟨rfl, ?_⟩)
  walk_at "W"
  refine AB.iter fun it hit => ?_
  have hLi : L it = Option.none := hit
  dsimp only [Sig.cel]
  walk_at "W"
  refine AX.assignCompZ (min := []) ⟨rfl, rfl, rfl, (AllGet.sle (L := fun _ => Option.none) (by repeat' (first | exact trivial | refine ⟨rfl, ?_⟩))).1, isf_of rfl, rfl⟩ ?_ ⟨rfl, .inl rfl⟩ (by rfl) (by intro _; rfl)
  refine AEIz.zip (AE.built (b_zip B) ⟨rfl, ?_⟩)
  refine AE.callT (AE.built (b_range B) ⟨rfl, ?_⟩)
  walk_at "W"
  refine AE.neg ?_
  walk_at "W"
  refine ⟨_, rfl, ?_⟩
  refine AA.cons ?_ (by rfl)
  refine AE.neg ?_
  walk_at "W"
  refine ⟨_, rfl, ?_⟩
  walk_at "W"
  refine AB.range3 (by decide) (PyProof.noPylong_small (by decide)) ?_
  walk_at "W"
  have hrs : Builtin.Range.rangeSize 0 (-(k : Int)) (-1) = ((k : Nat) : Int) := rangeDown k
  refine ⟨0, -k, -1, k, it, hs.map D.int, rfl, rfl, setL_same, ?_, hrs, by simp; (first | lia | omega), ?_⟩
  · have f : ∀ x : Int, -10000000 < x → x < 10000000 → Builtin.Range.rangeFitsLong x = true := fun x h1 h2 => by
      simp only [Builtin.Range.rangeFitsLong, Bool.and_eq_true, decide_eq_true_eq]; (first | lia | omega)
    unfold Builtin.Range.small
    rw [hrs, f 0 (by (first | lia | omega)) (by (first | lia | omega)), f (-k) (by (first | lia | omega)) (by (first | lia | omega)), f (-1) (by (first | lia | omega)) (by (first | lia | omega)), f k (by (first | lia | omega)) (by (first | lia | omega)), if_neg (by decide), f (-(k : Int) + (-1 + 1)) (by (first | lia | omega)) (by (first | lia | omega))]
    simp
  dsimp only
  rw [eraseL_setL hLi]
  refine ⟨rfl, hLi, by rw [zips_length]; (first | lia | omega), fun e' he' => ?_⟩
  refine ACmp.map (inD := fun i => .tup [.int (0 + (i : Nat) * (-1)), (hs.map D.int).getD i .none]) (outD := fun i => .tup [(hs.map D.int).getD i .none, .int (0 + (i : Nat) * (-1))]) (m₀ := []) (L₀ := L) (fun i => ?_) (List.range k) (Sle.refl _) ?_
  · refine AS.pair ?_ ⟨rfl, .inl rfl⟩ ⟨rfl, .inl rfl⟩
    walk_at "A"
    refine AE.tuple ?_
    walk_at "W"
    refine ⟨by simp, rfl, ?_⟩
    walk_at "sle"
  intro σ' hs' a ha hai
  have hLa : L a = Option.none := by
    cases q : L a with
    | none => rfl
    | some y => have := hs'.2 a y q; rw [ha] at this; cases this
  have hxs0 : (List.range k).map (fun i => D.tup [(hs.map D.int).getD i .none, .int (0 + (i : Nat) * (-1))]) = ((List.range k).map fun (i : Nat) => (hs.getD i 0, -(i : Int))).map pr := by
    rw [List.map_map]
    apply List.map_congr_left
    intro i hi
    have := List.mem_range.mp hi
    have hil : i < hs.length := by (first | lia | omega)
    simp [hil]
  rw [hxs0]
  generalize hxs : ((List.range k).map fun (i : Nat) => (hs.getD i 0, -(i : Int))) = xs
  have hxl : xs.length = k := by rw [← hxs]; simp
  have hxn : xs.Nodup := by
    rw [← hxs]
    refine List.pairwise_map.mpr (List.Pairwise.imp ?_ List.nodup_range)
    intro i j hij h; exact hij (by have h3 : -(i : Int) = -(j : Int) := congrArg Prod.snd h; (first | lia | omega))
  have hxo : ∀ p ∈ xs, -(k : Int) < p.2 := by
    intro p hp; rw [← hxs] at hp
    obtain ⟨i, hi, rfl⟩ := List.mem_map.mp hp
    have := List.mem_range.mp hi
    show -(k : Int) < -(i : Int); (first | lia | omega)
  have hxf : xs.map (·.1) = hs.take k := by
    rw [← hxs, List.map_map]
    apply List.ext_getElem?
    intro i
    rcases Nat.lt_or_ge i k with q | q
    · simp [q, show i < hs.length by (first | lia | omega)]
    · rw [List.getElem?_eq_none (by simpa using q), List.getElem?_eq_none (by simp; (first | lia | omega))]
  have hget : ∀ (zs : List PP) (x : Cel), setL (setL L a (.list (zs.map pr))) it x a = some (.list (zs.map pr)) := fun zs x => by
    show (if a = it then _ else _) = _
    rw [if_neg hai]; exact setL_same
  refine AX.weaken (σ' := ⟨[(Str.ofString "n", .int k), (Str.ofString "it", .val (.ref it)), (Str.ofString "result", .val (.ref a))], setL (setL L a (.list (xs.map pr))) it (.iter ((hs.drop k).map D.int))⟩) ?_ ⟨?_, ?_⟩
  rotate_left
  · exact (AllGet.sle (L := L) (by repeat' (first | exact trivial | refine ⟨rfl, ?_⟩))).1
  · intro b y hb
    have hb' : (if b = it then some (Cel.iter ((hs.drop k).map D.int)) else if b = a then some (Cel.list (xs.map pr)) else L b) = some y := hb
    show (if b = it then some (Cel.iter ((hs.map D.int).drop k)) else if b = a then some (Cel.list (xs.map pr)) else σ'.L b) = some y
    rw [List.map_drop] at hb'
    by_cases q : b = it
    · rw [if_pos q] at hb' ⊢; exact hb'
    · rw [if_neg q] at hb' ⊢
      by_cases q' : b = a
      · rw [if_pos q'] at hb' ⊢; exact hb'
      · rw [if_neg q'] at hb' ⊢; exact hs'.2 b y hb'
  walk_at "W"
  refine AT.list ?_ (by intro _; rfl)
  walk_at "W"
  refine ⟨_, .inr ⟨_, rfl, hget _ _⟩, by simp; (first | lia | omega), ?_⟩
  rw [show (!(xs.map pr).isEmpty) = true from by cases xs with
    | nil => simp at hxl; (first | lia | omega)
    | cons x r => rfl]
  refine if_ff ?_
  walk_at "W"
  refine AX.expr (AE.callFn (AE.glob (g_heapify B) ⟨_, rfl, ⟨_, _, B.K 82 _ rfl, rfl⟩, ?_⟩))
  walk_at "W"
  refine AC.eq (heapify_ok B (xs := xs) (hget _ _) (by (first | lia | omega))) ?_
  refine ⟨rfl, ?_⟩
  have hswap : ∀ (zs ws : List PP) (x : Cel), setL (setL (setL L a (.list (zs.map pr))) it x) a (.list (ws.map pr)) = setL (setL L a (.list (ws.map pr))) it x := fun zs ws x => by
    funext b; unfold setL
    by_cases e1 : b = a
    · rw [if_pos e1, if_neg (by rw [e1]; exact hai), if_pos e1]
    · by_cases e2 : b = it
      · simp only [if_neg e1, if_pos e2]
      · simp only [if_neg e1, if_neg e2]
  rw [hswap]
  have hzp : (heapifyL ltQ xs).Perm xs := heapifyL_perm xs
  have hzh : HeapFrom ltQ 0 (heapifyL ltQ xs) := heapifyL_heap lo_ltQ xs
  have hzl : (heapifyL ltQ xs).length = k := by rw [hzp.length_eq, hxl]
  show AX _ _ _ _ ⟨_, setL (setL L a (.list ((heapifyL ltQ xs).map pr))) it _⟩ _
  generalize heapifyL ltQ xs = zs at *
  walk_at "W"
  refine AO.itemL (hget _ _) (by (first | lia | omega)) (by (first | lia | omega)) (getD_of (i := 0) (by (first | lia | omega))) ?_
  walk_at "W"
  refine AO.itemT (by (first | lia | omega)) (by (first | lia | omega)) rfl ?_
  walk_at "W"
  refine AE.neg ?_
  walk_at "W"
  refine ⟨_, rfl, ?_⟩
  walk_at "W"
  refine AE.glob (g_heapreplace B) ?_
  walk_at "W"
  refine AX.for_ (AEI.data ?_)
  walk_at "W"
  refine AI.iter (a := it) setL_same ?_
  dsimp only
  have hLia : setL L a (.list (zs.map pr)) it = Option.none := by
    show (if it = a then _ else L it) = _
    rw [if_neg (fun e => hai e.symm)]; exact hLi
  rw [eraseL_setL hLia]
  have hinit : MInv hs (hs.drop k) k zs (-k) := by
    refine ⟨hzl, hzh, hzp.nodup_iff.mpr hxn, fun p hp => hxo p (hzp.mem_iff.mp hp), [], ?_, fun _ _ d hd => by cases hd⟩
    rw [List.append_nil]
    have e1 := (hzp.map (fun p : PP => p.1)).append_right (hs.drop k)
    rw [hxf, List.take_append_drop] at e1
    exact e1
  refine AFor.ind (fun items σ => ∃ (rest : List Int) (zs : List PP) (o : Int), items = rest.map D.int ∧ MInv hs rest k zs o ∧
      Sle σ ⟨[(Str.ofString "result", .val (.ref a)), (Str.ofString "top", .int (gt0 zs 0).1), (Str.ofString "order", .int o), (Str.ofString "_heapreplace", .val (.ref 75))], setL L a (.list (zs.map pr))⟩) ⟨hs.drop k, zs, -k, rfl, hinit, ?_⟩ ?_ ?_
  · walk_at "sle"
  · rintro σ ⟨rest, zs, o, hr, hI, hs''⟩
    have : rest = [] := by simpa using hr.symm
    subst this
    refine AX.weaken ?_ hs''
    walk_at "W"
    refine AX.expr (AE.sortR ⟨_, _, rfl, rfl⟩ ?_ (by rfl))
    walk_at "W"
    refine ⟨a, zs, rfl, setL_same, hI.nodup, by rw [hI.len]; exact h2, by rw [hI.len]; (first | lia | omega), rfl, ?_⟩
    dsimp only [Sig.cel]
    rw [setL_setL]
    walk_at "W"
    refine AE.forget (AE.compF (min := []) ⟨rfl, rfl, rfl, (AllGet.sle (L := fun _ => Option.none) (by repeat' (first | exact trivial | refine ⟨rfl, ?_⟩))).1, isf_of rfl, rfl⟩ ?_ (by intro _; rfl))
    refine AEI.data ?_
    refine AE.frz ?_
    walk_at "W"
    refine ⟨a, _, rfl, setL_same, ?_⟩
    dsimp only
    rw [eraseL_setL hLa]
    refine AI.lst ?_
    have ho := (hI.most h2).1
    rw [List.length_map] at ho
    refine ⟨rfl, by rw [List.length_map, ho]; (first | lia | omega), fun e'' he'' => ?_⟩
    refine ACmp.map (inD := pr) (outD := fun p => .int p.1) (m₀ := []) (L₀ := L) (fun p => ?_) _ (Sle.refl _) ?_
    · refine AS.pair ?_ ⟨rfl, .inl rfl⟩ ⟨rfl, .inl rfl⟩
      walk_at "W"
      refine ⟨rfl, ?_⟩
      walk_at "sle"
    · intro σ₂ hs₂
      exact ⟨_, hs₂.names, ⟨_, hI.most h2, by simp only [F.val]; rw [List.map_map]; rfl⟩, rfl⟩
  · rintro d ds σ ⟨rest, zs, o, hr, hI, hs''⟩
    cases rest with
    | nil => cases hr
    | cons x rest =>
      obtain ⟨rfl, rfl⟩ := List.cons.inj hr
      refine AS.weaken ?_ hs''
      refine AS.name ?_ ⟨rfl, .inl rfl⟩
      walk_at "W"
      refine ways (fun h => ?_) (fun h => ?_)
      · walk_at "W"
        refine AX.exprA (AE.callFn ?_)
        walk_at "W"
        refine ⟨_, rfl, ⟨_, _, B.K 75 _ rfl, rfl⟩, ?_⟩
        walk_at "W"
        refine AE.tuple ?_
        walk_at "W"
        refine ⟨by simp, ?_⟩
        walk_at "W"
        refine AC.eq (heapreplace_ok B (x := (x, o)) (xs := zs) setL_same (by rw [hI.len]; (first | lia | omega)) (by rw [hI.len]; (first | lia | omega))) ?_
        rw [setL_setL]
        have hI' := hI.take (by (first | lia | omega)) h
        show AX _ _ _ _ ⟨_, setL L a (.list ((siftup ltQ (zs.set 0 (x, o)) 0).map pr))⟩ _
        generalize siftup ltQ (zs.set 0 (x, o)) 0 = ws at *
        walk_at "W"
        refine AX.assignT ?_ (by rfl) (by rfl)
        walk_at "W"
        refine AO.itemL setL_same (by (first | lia | omega)) (by (first | lia | omega)) (getD_of (i := 0) (by rw [hI'.len]; (first | lia | omega))) ?_
        refine AS.pair ?_ ⟨rfl, .inl rfl⟩ ⟨rfl, .inl rfl⟩
        walk_at "W"
        refine AX.aug (d₀ := .int o) rfl ?_ ⟨rfl, .inl rfl⟩
        walk_at "W"
        refine AO.isub ?_
        walk_at "W"
        refine ⟨rest, ws, o - 1, rfl, hI', ?_⟩
        walk_at "sle"
      · walk_at "W"
        refine ⟨rest, zs, o, rfl, hI.skip h, ?_⟩
        walk_at "sle"
end
end
section
/-! what comes out of a heap, in order -/
theorem pops_length (lt : PP → PP → Bool) : ∀ (n : Nat) (zs : List PP), (pops lt n zs).length = n
  | 0, _ => rfl
  | n + 1, zs => by rw [pops, List.length_cons, pops_length lt n]
theorem split_last {zs : List PP} {n : Nat} (h : zs.length = n + 1) : zs = zs.dropLast ++ [gt0 zs (zs.length - 1)] := by
  rcases List.eq_nil_or_concat zs with rfl | ⟨xs, y, rfl⟩
  · simp at h
  · rw [List.concat_eq_append]; simp [gt0]
theorem pops_ok {lt : PP → PP → Bool} (o : LO lt) : ∀ (n : Nat) (zs : List PP), zs.length = n → HeapFrom lt 0 zs → (pops lt n zs).Perm zs ∧ (pops lt n zs).Pairwise (fun p q => lt q p = false)
  | 0, zs, hl, _ => by
    have : zs = [] := List.length_eq_zero_iff.mp hl
    subst this; exact ⟨.refl _, .nil⟩
  | n + 1, zs, hl, hh => by
    have hs := split_last hl
    rw [pops]
    have hrl : (popRest lt zs.dropLast (gt0 zs (zs.length - 1))).length = n := by rw [popRest_length]; simp [hl]
    have hrp := popRest_perm (lt := lt) zs.dropLast (gt0 zs (zs.length - 1))
    rw [← hs] at hrp
    have hrh : HeapFrom lt 0 (popRest lt zs.dropLast (gt0 zs (zs.length - 1))) := popRest_heap o (by rw [← hs]; exact hh)
    obtain ⟨p1, p2⟩ := pops_ok o n _ hrl hrh
    refine ⟨(p1.cons _).trans hrp, List.pairwise_cons.mpr ⟨fun q hq => ?_, p2⟩⟩
    have hq' : q ∈ zs := hrp.mem_iff.mp (List.mem_cons_of_mem _ (p1.mem_iff.mp hq))
    obtain ⟨i, hi, rfl⟩ := mem_at hq'
    exact heap_min o hh i hi

/-! time -/
/-- for how long P holds of what is left -/
noncomputable def T (P : List PP → Bool) : Int → List PP → Int
  | _, [] => 0
  | c, p :: r => (if P (p :: r) = true then p.1 - c else 0) + T P p.1 r
theorem T_congr {P Q : List PP → Bool} : ∀ (ps : List PP) (c : Int), (∀ s, s <:+ ps → P s = Q s) → T P c ps = T Q c ps
  | [], _, _ => rfl
  | p :: r, c, h => by rw [T, T, h _ (List.suffix_refl _), T_congr r p.1 fun s hs => h s (hs.trans (List.suffix_cons p r))]
theorem T_add {P Q R : List PP → Bool} : ∀ (ps : List PP) (c : Int), (∀ s, s <:+ ps → (if P s = true then (1 : Int) else 0) + (if Q s = true then 1 else 0) = if R s = true then 1 else 0) → T P c ps + T Q c ps = T R c ps
  | [], _, _ => rfl
  | p :: r, c, h => by
    have h1 := h _ (List.suffix_refl _)
    have h2 := T_add r p.1 fun s hs => h s (hs.trans (List.suffix_cons p r))
    rw [T, T, T, ← h2]
    cases a : P (p :: r) <;> cases b : Q (p :: r) <;> cases d : R (p :: r) <;> simp [a, b, d] at h1 ⊢ <;> (first | lia | omega)
/-- the last hour of all -/
theorem T_all : ∀ (ps : List PP) (c : Int), ps ≠ [] → T (fun _ => true) c ps = (ps.getLast?.getD (0, 0)).1 - c
  | [], _, h => (h rfl).elim
  | [p], c, _ => by simp [T]
  | p :: q :: r, c, _ => by
    rw [T, if_pos rfl, T_all (q :: r) p.1 (by simp), List.getLast?_cons_cons]
    (first | lia | omega)
theorem T_few {f : PP → Bool} {k : Nat} : ∀ (ps : List PP) (c : Int), (ps.filter f).length < k → T (fun s => decide (k ≤ (s.filter f).length)) c ps = 0
  | [], _, _ => rfl
  | p :: r, c, h => by
    have h' : (r.filter f).length < k := by
      rw [List.filter_cons] at h; split at h
      · simp at h; (first | lia | omega)
      · exact h
    rw [T, if_neg (by simp; (first | lia | omega)), T_few r p.1 h', Int.add_zero]
/-- so many or more: until the hour of the one that is so many from the end -/
theorem T_count {f : PP → Bool} {k : Nat} (hk : 1 ≤ k) : ∀ (ps : List PP) (c : Int), k ≤ (ps.filter f).length → T (fun s => decide (k ≤ (s.filter f).length)) c ps = (gt0 (ps.filter f) ((ps.filter f).length - k)).1 - c
  | [], _, h => by simp at h; (first | lia | omega)
  | p :: r, c, h => by
    rw [T, if_pos (by simpa using h)]
    by_cases hf : f p = true
    · have e : (p :: r).filter f = p :: r.filter f := by rw [List.filter_cons, if_pos hf]
      rw [e] at h ⊢
      rw [List.length_cons] at h ⊢
      by_cases hk' : k ≤ (r.filter f).length
      · rw [T_count hk r p.1 hk', show (r.filter f).length + 1 - k = ((r.filter f).length - k) + 1 from by (first | lia | omega)]
        show _ + ((gt0 (r.filter f) _).1 - p.1) = (gt0 (r.filter f) _).1 - c
        (first | lia | omega)
      · rw [T_few r p.1 (by (first | lia | omega)), show (r.filter f).length + 1 - k = 0 from by (first | lia | omega)]
        show _ = p.1 - c
        (first | lia | omega)
    · have e : (p :: r).filter f = r.filter f := by rw [List.filter_cons, if_neg hf]
      rw [e] at h ⊢
      rw [T_count hk r p.1 h]; (first | lia | omega)
end
section
noncomputable def bitsOf (kind : Int) (ps : List PP) : Int := 4096 * kind + (ps.map fun p => (2 : Int) ^ p.2.toNat).sum
theorem bitsOf_cons (kind : Int) (p : PP) (r : List PP) : bitsOf kind (p :: r) - 2 ^ p.2.toNat = bitsOf kind r := by
  unfold bitsOf; rw [List.map_cons, List.sum_cons]; (first | lia | omega)
/-- the widths of the spans whose text is f add up to the time that f holds -/
theorem go_sum (kind : Int) (f : List Nat → Bool) : ∀ (ps : List PP) (c : Int), ps.Pairwise (fun p q => p.1 ≤ q.1) → (∀ p ∈ ps, c ≤ p.1) →
    (((go c (bitsOf kind ps) ps).filter fun s => f s.2).map (·.1)).sum = T (fun s => f (fmode (bitsOf kind s))) c ps
  | [], c, _, _ => by
    rw [go, T, List.filter_cons]
    split <;> simp
  | p :: r, c, hs, hc => by
    obtain ⟨h1, h2⟩ := List.pairwise_cons.mp hs
    have hcp := hc p List.mem_cons_self
    rw [go, bitsOf_cons, List.filter_append, List.map_append, List.sum_append, go_sum kind f r p.1 h2 h1, T]
    congr 1
    by_cases hlt : c < p.1
    · rw [if_pos hlt, List.filter_cons]
      by_cases hf : f (fmode (bitsOf kind (p :: r))) = true
      · rw [if_pos hf, if_pos hf]; simp
      · rw [if_neg hf, if_neg hf]; simp
    · rw [if_neg hlt]
      have : p.1 = c := by (first | lia | omega)
      split <;> simp <;> (first | lia | omega)
/-- the texts that stand -/
theorem go_texts (kind : Int) (f : List Nat → Prop) : ∀ (ps : List PP) (c : Int), (∀ s, s <:+ ps → f (fmode (bitsOf kind s))) → ∀ x ∈ go c (bitsOf kind ps) ps, f x.2
  | [], c, h, x, hx => by
    rw [go] at hx
    have : x = (0, fmode (bitsOf kind [])) := by simpa using hx
    rw [this]; exact h [] (List.suffix_refl _)
  | p :: r, c, h, x, hx => by
    rw [go, bitsOf_cons] at hx
    rcases List.mem_append.mp hx with hx | hx
    · split at hx
      · have : x = (p.1 - c, fmode (bitsOf kind (p :: r))) := by simpa using hx
        rw [this]; exact h _ (List.suffix_refl _)
      · cases hx
    · exact go_texts kind f r p.1 (fun s hs => h s (hs.trans (List.suffix_cons p r))) x hx
theorem go_last (kind : Int) : ∀ (ps : List PP) (c : Int), (go c (bitsOf kind ps) ps).getLast? = some (0, fmode (bitsOf kind []))
  | [], c => by rw [go]; rfl
  | p :: r, c => by
    rw [go, bitsOf_cons, List.getLast?_append, go_last kind r p.1]; rfl
theorem go_length (kind : Int) : ∀ (ps : List PP) (c : Int), (go c (bitsOf kind ps) ps).length ≤ ps.length + 1 ∧ 1 ≤ (go c (bitsOf kind ps) ps).length
  | [], c => by rw [go]; simp
  | p :: r, c => by
    rw [go, bitsOf_cons, List.length_append, List.length_cons]
    have := go_length kind r p.1
    split <;> simp <;> (first | lia | omega)

/-! one bit, two bits -/
theorem T_zero {P : List PP → Bool} : ∀ (ps : List PP) (c : Int), (∀ s, s <:+ ps → s ≠ [] → P s = false) → T P c ps = 0
  | [], _, _ => rfl
  | p :: r, c, h => by
    rw [T, h _ (List.suffix_refl _) (by simp), if_neg Bool.false_ne_true, T_zero r p.1 fun s hs => h s (hs.trans (List.suffix_cons p r))]; rfl
noncomputable def has (k : Int) (ps : List PP) : Bool := ps.any fun p => p.2 == k
theorem has_cons {k : Int} {p : PP} {r : List PP} : has k (p :: r) = (p.2 == k || has k r) := by simp [has]
theorem has_suffix {k : Int} {s ps : List PP} (h : s <:+ ps) (hk : has k ps = false) : has k s = false := by
  unfold has at *
  rw [List.any_eq_false] at *
  exact fun x hx => hk x (h.subset hx)
/-- a bit stands until its hour -/
theorem T_has {k : Int} {h : Int} : ∀ (ps : List PP) (c : Int), (ps.map (·.2)).Nodup → (h, k) ∈ ps → T (has k) c ps = h - c
  | [], _, _, hm => by cases hm
  | p :: r, c, hn, hm => by
    rw [List.map_cons, List.nodup_cons] at hn
    have hh : has k (p :: r) = true := by unfold has; rw [List.any_eq_true]; exact ⟨_, hm, by simp⟩
    rw [T, if_pos hh]
    rcases List.mem_cons.mp hm with e | hm'
    · have hr : has k r = false := by
        unfold has; rw [List.any_eq_false]
        intro x hx hx'
        have : x.2 = k := by simpa using hx'
        exact hn.1 (List.mem_map.mpr ⟨x, hx, by rw [this, ← e]⟩)
      rw [T_zero r p.1 fun s hs _ => has_suffix hs hr, ← e]; (first | lia | omega)
    · rw [T_has r p.1 hn.2 hm']; (first | lia | omega)
/-- two bits stand until the lesser of their hours -/
theorem T_both {k l h g : Int} (hkl : k ≠ l) : ∀ (ps : List PP) (c : Int), ps.Pairwise (fun p q => p.1 ≤ q.1) → (ps.map (·.2)).Nodup → (h, k) ∈ ps → (g, l) ∈ ps → T (fun s => has k s && has l s) c ps = min h g - c
  | [], _, _, _, hm, _ => by cases hm
  | p :: r, c, hs, hn, hm, hm2 => by
    rw [List.map_cons, List.nodup_cons] at hn
    obtain ⟨s1, s2⟩ := List.pairwise_cons.mp hs
    have hh : has k (p :: r) = true := by unfold has; rw [List.any_eq_true]; exact ⟨_, hm, by simp⟩
    have hg : has l (p :: r) = true := by unfold has; rw [List.any_eq_true]; exact ⟨_, hm2, by simp⟩
    have gone : ∀ j : Int, p.2 = j → has j r = false := fun j hj => by
      unfold has; rw [List.any_eq_false]
      intro x hx hx'
      have : x.2 = j := by simpa using hx'
      exact hn.1 (List.mem_map.mpr ⟨x, hx, by rw [this, hj]⟩)
    rw [T, if_pos (by rw [hh, hg]; rfl)]
    rcases List.mem_cons.mp hm with e | hm'
    · rw [T_zero r p.1 fun s hs _ => by rw [has_suffix hs (gone k (by rw [← e])), Bool.false_and]]
      rcases List.mem_cons.mp hm2 with e2 | hm2'
      · rw [← e] at e2; exact absurd (Prod.mk.inj e2).2.symm hkl
      · have := s1 _ hm2'
        rw [← e] at this ⊢
        have h3 : h ≤ g := this
        rw [Int.min_eq_left h3]; (first | lia | omega)
    · rcases List.mem_cons.mp hm2 with e2 | hm2'
      · rw [T_zero r p.1 fun s hs _ => by rw [has_suffix hs (gone l (by rw [← e2])), Bool.and_false]]
        have := s1 _ hm'
        rw [← e2] at this ⊢
        have h3 : g ≤ h := this
        rw [Int.min_eq_right h3]; (first | lia | omega)
      · rw [T_both hkl r p.1 s2 hn.2 hm' hm2']; (first | lia | omega)
end
section
noncomputable def b2 (b : Bool) : Nat := if b then 1 else 0
/-- the bits from k on that are left, as a number -/
noncomputable def lowsF (ps : List PP) : Nat → Nat → Nat
  | 0, _ => 0
  | n + 1, k => b2 (has (k : Int) ps) + 2 * lowsF ps n (k + 1)
noncomputable def lows (ps : List PP) : Nat := lowsF ps 12 0
theorem lowsF_lt (ps : List PP) : ∀ (n k : Nat), lowsF ps n k < 2 ^ n
  | 0, _ => Nat.one_pos
  | n + 1, k => by
    have h := lowsF_lt ps n (k + 1)
    have hb : b2 (has (k : Int) ps) ≤ 1 := by cases has (k : Int) ps <;> decide
    rw [lowsF, Nat.pow_succ]; (first | lia | omega)
/-- one bit of them -/
theorem lowsF_bit (ps : List PP) (N : Nat) : ∀ (i n k : Nat), i < n → (2 ^ n * N + lowsF ps n k) / 2 ^ i % 2 = b2 (has ((k + i : Nat) : Int) ps)
  | i, 0, _, h => absurd h (Nat.not_lt_zero i)
  | 0, n + 1, k, _ => by
    have hb : b2 (has (k : Int) ps) ≤ 1 := by cases has (k : Int) ps <;> decide
    rw [lowsF, Nat.pow_zero, Nat.div_one, Nat.pow_succ, Nat.mul_assoc, Nat.mul_left_comm]
    show (2 * (2 ^ n * N) + _) % 2 = b2 (has (k : Int) ps)
    generalize 2 ^ n * N = u at *
    (first | lia | omega)
  | i + 1, n + 1, k, h => by
    have hb : b2 (has (k : Int) ps) ≤ 1 := by cases has (k : Int) ps <;> decide
    have ih := lowsF_bit ps N i n (k + 1) (Nat.lt_of_succ_lt_succ h)
    have e : (2 ^ (n + 1) * N + lowsF ps (n + 1) k) / 2 = 2 ^ n * N + lowsF ps n (k + 1) := by
      rw [lowsF, Nat.pow_succ, Nat.mul_assoc, Nat.mul_left_comm]
      generalize 2 ^ n * N = u
      (first | lia | omega)
    rw [Nat.pow_succ (n := 2) (m := i), Nat.mul_comm (2 ^ i) 2, ← Nat.div_div_eq_div_mul, e, ih, Nat.add_right_comm]; rfl
theorem lowsF_nil : ∀ (n k : Nat), lowsF [] n k = 0
  | 0, _ => rfl
  | n + 1, k => by rw [lowsF, lowsF_nil n (k + 1)]; rfl
/-- a new bit -/
theorem lowsF_cons {p : PP} {r : List PP} (hg : has p.2 r = false) : ∀ (n k j : Nat), p.2 = ((k + j : Nat) : Int) → j < n → lowsF (p :: r) n k = lowsF r n k + 2 ^ j
  | 0, _, j, _, h => absurd h (Nat.not_lt_zero j)
  | n + 1, k, 0, e, _ => by
    have e1 : ∀ (n k' : Nat), k < k' → lowsF (p :: r) n k' = lowsF r n k' := by
      intro n
      induction n with
      | zero => intro k' _; rfl
      | succ n ih =>
        intro k' hk
        have : (p.2 == (k' : Int)) = false := by rw [e]; simp; (first | lia | omega)
        rw [lowsF, lowsF, ih (k' + 1) (Nat.lt_succ_of_lt hk), has_cons, this, Bool.false_or]
    rw [lowsF, lowsF, e1 n (k + 1) (Nat.lt_succ_self k), has_cons]
    have h1 : (p.2 == (k : Int)) = true := by rw [e]; simp
    have h2 : has (k : Int) r = false := by rw [← hg, e]; rfl
    rw [h1, h2, Bool.true_or, Nat.pow_zero, Nat.add_right_comm]; rfl
  | n + 1, k, j + 1, e, h => by
    have ih := lowsF_cons hg n (k + 1) j (by rw [e]; congr 1; (first | lia | omega)) (Nat.lt_of_succ_lt_succ h)
    have h1 : (p.2 == (k : Int)) = false := by rw [e]; simp; (first | lia | omega)
    rw [lowsF, lowsF, has_cons, h1, Bool.false_or, ih, Nat.mul_add, Nat.pow_succ, Nat.mul_comm 2 (2 ^ j), Nat.add_assoc]
theorem bits_lows (kind : Int) : ∀ (ps : List PP), (ps.map (·.2)).Nodup → (∀ p ∈ ps, 0 ≤ p.2 ∧ p.2 < 12) → bitsOf kind ps = 4096 * kind + (lows ps : Int)
  | [], _, _ => by simp [bitsOf, lows, lowsF_nil]
  | p :: r, hn, hr => by
    rw [List.map_cons, List.nodup_cons] at hn
    have ih := bits_lows kind r hn.2 fun q hq => hr q (List.mem_cons_of_mem _ hq)
    have hb := hr p List.mem_cons_self
    have e1 := bitsOf_cons kind p r
    have gone : has p.2 r = false := by
      unfold has; rw [List.any_eq_false]
      intro x hx hx'
      have : x.2 = p.2 := by simpa using hx'
      exact hn.1 (List.mem_map.mpr ⟨x, hx, this⟩)
    have key : lows (p :: r) = lows r + 2 ^ p.2.toNat := lowsF_cons gone 12 0 p.2.toNat (by (first | lia | omega)) (by (first | lia | omega))
    have key2 : (lows (p :: r) : Int) = lows r + 2 ^ p.2.toNat := by rw [key]; simp
    (first | lia | omega)
/-- how many bits from k on are left -/
noncomputable def cntF (ps : List PP) : Nat → Nat → Nat
  | 0, _ => 0
  | n + 1, k => b2 (has (k : Int) ps) + cntF ps n (k + 1)
theorem cntF_nil : ∀ (n k : Nat), cntF [] n k = 0
  | 0, _ => rfl
  | n + 1, k => by rw [cntF, cntF_nil n (k + 1)]; rfl
theorem cntF_cons {p : PP} {r : List PP} (hg : has p.2 r = false) : ∀ (n k j : Nat), p.2 = ((k + j : Nat) : Int) → j < n → cntF (p :: r) n k = cntF r n k + 1
  | 0, _, j, _, h => absurd h (Nat.not_lt_zero j)
  | n + 1, k, 0, e, _ => by
    have e1 : ∀ (n k' : Nat), k < k' → cntF (p :: r) n k' = cntF r n k' := by
      intro n
      induction n with
      | zero => intro k' _; rfl
      | succ n ih =>
        intro k' hk
        have : (p.2 == (k' : Int)) = false := by rw [e]; simp; (first | lia | omega)
        rw [cntF, cntF, ih (k' + 1) (Nat.lt_succ_of_lt hk), has_cons, this, Bool.false_or]
    rw [cntF, cntF, e1 n (k + 1) (Nat.lt_succ_self k), has_cons]
    have h1 : (p.2 == (k : Int)) = true := by rw [e]; simp
    have h2 : has (k : Int) r = false := by rw [← hg, e]; rfl
    rw [h1, h2, Bool.true_or, Nat.add_right_comm]; rfl
  | n + 1, k, j + 1, e, h => by
    have ih := cntF_cons hg n (k + 1) j (by rw [e]; congr 1; (first | lia | omega)) (Nat.lt_of_succ_lt_succ h)
    have h1 : (p.2 == (k : Int)) = false := by rw [e]; simp; (first | lia | omega)
    rw [cntF, cntF, has_cons, h1, Bool.false_or, ih, Nat.add_assoc]
/-- how many bits are left -/
noncomputable def bitCount (s : List PP) : Nat := cntF s 12 0
theorem count_all : ∀ (s : List PP), (s.map (·.2)).Nodup → (∀ p ∈ s, 0 ≤ p.2 ∧ p.2 < 12) → bitCount s = s.length
  | [], _, _ => cntF_nil 12 0
  | p :: r, hn, hr => by
    rw [List.map_cons, List.nodup_cons] at hn
    have ih := count_all r hn.2 fun q hq => hr q (List.mem_cons_of_mem _ hq)
    have hb := hr p List.mem_cons_self
    have gone : has p.2 r = false := by
      unfold has; rw [List.any_eq_false]
      intro x hx hx'
      have : x.2 = p.2 := by simpa using hx'
      exact hn.1 (List.mem_map.mpr ⟨x, hx, this⟩)
    have key : bitCount (p :: r) = bitCount r + 1 := cntF_cons gone 12 0 p.2.toNat (by (first | lia | omega)) (by (first | lia | omega))
    rw [List.length_cons, key, ih]
theorem lowsF_all {ps : List PP} : ∀ (n k : Nat), (∀ i, i < n → has ((k + i : Nat) : Int) ps = true) → lowsF ps n k + 1 = 2 ^ n
  | 0, _, _ => rfl
  | n + 1, k, h => by
    have ih := lowsF_all (ps := ps) n (k + 1) fun i hi => by
      have := h (i + 1) (Nat.succ_lt_succ hi)
      rwa [show k + (i + 1) = k + 1 + i from by (first | lia | omega)] at this
    have h0 : has (k : Int) ps = true := h 0 (Nat.succ_pos n)
    rw [lowsF, h0, Nat.pow_succ, ← ih]
    show 1 + 2 * _ + 1 = _
    (first | lia | omega)
end
section
open PySem PySem.W PyProof.Rows
theorem and_bit (N i : Nat) (b : Bool) (h : N / 2 ^ i % 2 = b2 b) : N &&& 2 ^ i = b2 b * 2 ^ i := by
  apply Nat.eq_of_testBit_eq
  intro j
  rw [Nat.testBit_and, Nat.testBit_two_pow]
  by_cases e : i = j
  · subst e
    have h1 : N.testBit i = b := by
      rw [Nat.testBit_eq_decide_div_mod_eq, h]; cases b <;> rfl
    rw [h1]
    cases b
    · simp [b2]
    · simp [b2]
  · cases b
    · simp [b2, e]
    · simp [b2, e, Nat.testBit_two_pow]
theorem and_eq {N P : Nat} {b : Bool} (hp : 0 < P) (h : N &&& P = b2 b * P) : (Builtin.bitAnd (N : Int) (P : Int) == (P : Int)) = b := by
  rw [bitAnd_pp (Int.natCast_nonneg _) (Int.natCast_nonneg _), Int.toNat_natCast, Int.toNat_natCast, h]
  cases b
  · simp [b2]; (first | lia | omega)
  · simp [b2]
theorem one_bit {N i : Nat} {b : Bool} (h : N / 2 ^ i % 2 = b2 b) : (Builtin.bitAnd (N : Int) ((2 ^ i : Nat) : Int) == ((2 ^ i : Nat) : Int)) = b := and_eq (Nat.two_pow_pos i) (and_bit N i b h)
theorem two_bits {N i j M : Nat} {a b : Bool} (hM : M = 2 ^ i ||| 2 ^ j) (hn : 0 < M) (h1 : 2 ^ i ≠ M) (h2 : 2 ^ j ≠ M) (ha : N / 2 ^ i % 2 = b2 a) (hb : N / 2 ^ j % 2 = b2 b) : (Builtin.bitAnd (N : Int) (M : Int) == (M : Int)) = (a && b) := by
  rw [bitAnd_pp (Int.natCast_nonneg _) (Int.natCast_nonneg _), Int.toNat_natCast, Int.toNat_natCast]
  have e : N &&& M = (b2 a * 2 ^ i) ||| (b2 b * 2 ^ j) := by
    rw [hM, Nat.and_or_distrib_left, and_bit N i a ha, and_bit N j b hb]
  rw [e]
  generalize 2 ^ i = A at *
  generalize 2 ^ j = C at *
  cases a <;> cases b
  · simp [b2]; (first | lia | omega)
  · simp [b2]; (first | lia | omega)
  · simp [b2]; (first | lia | omega)
  · simp [b2, ← hM]
/-- the text of a mode by its twelve bits and its kind -/
noncomputable def txt (kind : Nat) (ps : List PP) : List Nat :=
  [signAt ((4096 * kind : Nat) : Int) 0 (rows.getD 0 []),
   if has 8 ps then 114 else 45, if has 7 ps then 119 else 45, if has 6 ps && has 11 ps then 115 else if has 11 ps then 83 else if has 6 ps then 120 else 45,
   if has 5 ps then 114 else 45, if has 4 ps then 119 else 45, if has 3 ps && has 10 ps then 115 else if has 10 ps then 83 else if has 3 ps then 120 else 45,
   if has 2 ps then 114 else 45, if has 1 ps then 119 else 45, if has 0 ps && has 9 ps then 116 else if has 9 ps then 84 else if has 0 ps then 120 else 45]
noncomputable abbrev hit (m : Int) (j : Nat) (p : Int × Nat) : Bool := if j = 0 then Builtin.bitAnd m 61440 == p.1 else Builtin.bitAnd m p.1 == p.1
theorem sign1 (m : Int) (j : Nat) (p : Int × Nat) : signAt m j [p] = if hit m j p = true then p.2 else if j = 0 then 63 else 45 := by
  unfold signAt
  rw [List.find?_cons]
  cases q : hit m j p <;> simp only [hit] at q <;> rw [q] <;> rfl
theorem sign3 (m : Int) (j : Nat) (p p' p'' : Int × Nat) : signAt m j [p, p', p''] = if hit m j p = true then p.2 else if hit m j p' = true then p'.2 else if hit m j p'' = true then p''.2 else if j = 0 then 63 else 45 := by
  unfold signAt
  rw [List.find?_cons]
  cases q : hit m j p
  · simp only [hit] at q
    rw [q, List.find?_cons]
    cases q' : hit m j p'
    · simp only [hit] at q'
      rw [q', List.find?_cons]
      cases q'' : hit m j p'' <;> simp only [hit] at q'' <;> rw [q''] <;> rfl
    · simp only [hit] at q'
      rw [q']; rfl
  · simp only [hit] at q
    rw [q]; rfl
theorem high_and {kind low : Nat} (hk : kind < 16) (hl : low < 4096) : (4096 * kind + low) &&& 61440 = 4096 * kind := by
  apply Nat.eq_of_testBit_eq
  intro j
  have e1 := Nat.testBit_two_pow_mul_add kind (b := low) (i := 12) hl j
  have e2 := Nat.testBit_two_pow_mul_add 15 (b := 0) (i := 12) (by decide) j
  have e3 := Nat.testBit_two_pow_mul_add kind (b := 0) (i := 12) (by decide) j
  have f1 : (2 : Nat) ^ 12 * kind + low = 4096 * kind + low := rfl
  have f2 : (2 : Nat) ^ 12 * 15 + 0 = 61440 := rfl
  have f3 : (2 : Nat) ^ 12 * kind + 0 = 4096 * kind := rfl
  rw [f1] at e1; rw [f2] at e2; rw [f3] at e3
  rw [Nat.testBit_and, e1, e2, e3]
  by_cases h : j < 12
  · simp [h]
  · rw [if_neg h, if_neg h, if_neg h]
    rcases Nat.lt_or_ge (j - 12) 4 with q | q
    · have : j - 12 = 0 ∨ j - 12 = 1 ∨ j - 12 = 2 ∨ j - 12 = 3 := by (first | lia | omega)
      have f : Nat.testBit 15 (j - 12) = true := by rcases this with e | e | e | e <;> rw [e] <;> decide
      rw [f, Bool.and_true]
    · have : kind.testBit (j - 12) = false := Nat.testBit_lt_two_pow (Nat.lt_of_lt_of_le hk (Nat.pow_le_pow_right (n := 2) (by decide) q))
      rw [this]; rfl
theorem fmode_txt {kind : Nat} (hk : kind < 16) (ps : List PP) : fmode ((4096 * kind + lows ps : Nat) : Int) = txt kind ps := by
  have e0 : (4096 * kind + lows ps) / 2 ^ 0 % 2 = b2 (has 0 ps) := lowsF_bit ps kind 0 12 0 (by decide)
  have e1 : (4096 * kind + lows ps) / 2 ^ 1 % 2 = b2 (has 1 ps) := lowsF_bit ps kind 1 12 0 (by decide)
  have e2 : (4096 * kind + lows ps) / 2 ^ 2 % 2 = b2 (has 2 ps) := lowsF_bit ps kind 2 12 0 (by decide)
  have e3 : (4096 * kind + lows ps) / 2 ^ 3 % 2 = b2 (has 3 ps) := lowsF_bit ps kind 3 12 0 (by decide)
  have e4 : (4096 * kind + lows ps) / 2 ^ 4 % 2 = b2 (has 4 ps) := lowsF_bit ps kind 4 12 0 (by decide)
  have e5 : (4096 * kind + lows ps) / 2 ^ 5 % 2 = b2 (has 5 ps) := lowsF_bit ps kind 5 12 0 (by decide)
  have e6 : (4096 * kind + lows ps) / 2 ^ 6 % 2 = b2 (has 6 ps) := lowsF_bit ps kind 6 12 0 (by decide)
  have e7 : (4096 * kind + lows ps) / 2 ^ 7 % 2 = b2 (has 7 ps) := lowsF_bit ps kind 7 12 0 (by decide)
  have e8 : (4096 * kind + lows ps) / 2 ^ 8 % 2 = b2 (has 8 ps) := lowsF_bit ps kind 8 12 0 (by decide)
  have e9 : (4096 * kind + lows ps) / 2 ^ 9 % 2 = b2 (has 9 ps) := lowsF_bit ps kind 9 12 0 (by decide)
  have e10 : (4096 * kind + lows ps) / 2 ^ 10 % 2 = b2 (has 10 ps) := lowsF_bit ps kind 10 12 0 (by decide)
  have e11 : (4096 * kind + lows ps) / 2 ^ 11 % 2 = b2 (has 11 ps) := lowsF_bit ps kind 11 12 0 (by decide)
  have hlow : lows ps < 4096 := lowsF_lt ps 12 0
  have k0 : signAt ((4096 * kind + lows ps : Nat) : Int) 0 (rows.getD 0 []) = signAt ((4096 * kind : Nat) : Int) 0 (rows.getD 0 []) := by
    have a1 : Builtin.bitAnd ((4096 * kind + lows ps : Nat) : Int) 61440 = Builtin.bitAnd ((4096 * kind : Nat) : Int) 61440 := by
      rw [bitAnd_pp (Int.natCast_nonneg _) (by decide), bitAnd_pp (Int.natCast_nonneg _) (by decide), Int.toNat_natCast, Int.toNat_natCast]
      have b1 := high_and hk hlow
      have b2 := high_and (low := 0) hk (by decide)
      rw [Nat.add_zero] at b2
      show ((( 4096 * kind + lows ps) &&& 61440 : Nat) : Int) = ((4096 * kind &&& 61440 : Nat) : Int)
      rw [b1, b2]
    unfold signAt
    simp only [if_true, a1]
  generalize (4096 * kind + lows ps) = N at *
  have s1 : ∀ (i : Nat) (j : Nat) (ch : Nat) (b : Bool), j ≠ 0 → N / 2 ^ i % 2 = b2 b → signAt (N : Int) j [(((2 ^ i : Nat) : Int), ch)] = if b = true then ch else 45 := by
    intro i j ch b hj h
    rw [sign1, if_neg hj]
    have : hit (N : Int) j (((2 ^ i : Nat) : Int), ch) = b := by simp only [hit, if_neg hj]; exact one_bit h
    rw [this]
  have s3 : ∀ (i i' j M : Nat) (c1 c2 c3 : Nat) (a b : Bool), j ≠ 0 → M = 2 ^ i ||| 2 ^ i' → 0 < M → 2 ^ i ≠ M → 2 ^ i' ≠ M → N / 2 ^ i % 2 = b2 a → N / 2 ^ i' % 2 = b2 b →
      signAt (N : Int) j [((M : Int), c1), (((2 ^ i' : Nat) : Int), c2), (((2 ^ i : Nat) : Int), c3)] = if (a && b) = true then c1 else if b = true then c2 else if a = true then c3 else 45 := by
    intro i i' j M c1 c2 c3 a b hj hM hn hn1 hn2 ha hb
    rw [sign3, if_neg hj]
    have q1 : hit (N : Int) j ((M : Int), c1) = (a && b) := by simp only [hit, if_neg hj]; exact two_bits hM hn hn1 hn2 ha hb
    have q2 : hit (N : Int) j (((2 ^ i' : Nat) : Int), c2) = b := by simp only [hit, if_neg hj]; exact one_bit hb
    have q3 : hit (N : Int) j (((2 ^ i : Nat) : Int), c3) = a := by simp only [hit, if_neg hj]; exact one_bit ha
    rw [q1, q2, q3]
  show [signAt (N : Int) 0 (rows.getD 0 []), signAt (N : Int) 1 [(((2 ^ 8 : Nat) : Int), 114)], signAt (N : Int) 2 [(((2 ^ 7 : Nat) : Int), 119)], signAt (N : Int) 3 [(((2112 : Nat) : Int), 115), (((2 ^ 11 : Nat) : Int), 83), (((2 ^ 6 : Nat) : Int), 120)],
    signAt (N : Int) 4 [(((2 ^ 5 : Nat) : Int), 114)], signAt (N : Int) 5 [(((2 ^ 4 : Nat) : Int), 119)], signAt (N : Int) 6 [(((1032 : Nat) : Int), 115), (((2 ^ 10 : Nat) : Int), 83), (((2 ^ 3 : Nat) : Int), 120)],
    signAt (N : Int) 7 [(((2 ^ 2 : Nat) : Int), 114)], signAt (N : Int) 8 [(((2 ^ 1 : Nat) : Int), 119)], signAt (N : Int) 9 [(((513 : Nat) : Int), 116), (((2 ^ 9 : Nat) : Int), 84), (((2 ^ 0 : Nat) : Int), 120)]] = _
  rw [k0, s1 8 1 114 _ (by decide) e8, s1 7 2 119 _ (by decide) e7, s3 6 11 3 2112 115 83 120 _ _ (by decide) (by decide) (by decide) (by decide) (by decide) e6 e11,
    s1 5 4 114 _ (by decide) e5, s1 4 5 119 _ (by decide) e4, s3 3 10 6 1032 115 83 120 _ _ (by decide) (by decide) (by decide) (by decide) (by decide) e3 e10,
    s1 2 7 114 _ (by decide) e2, s1 1 8 119 _ (by decide) e1, s3 0 9 9 513 116 84 120 _ _ (by decide) (by decide) (by decide) (by decide) (by decide) e0 e9]
  rfl
end
section
noncomputable def pairsOfH (hs : List Int) : List PP := (List.range 12).map fun k => (hs.getD k 0, (k : Int))
/-- the bits in the order in which they fall -/
noncomputable def fall (hs : List Int) : List PP := pops ltQ 12 (heapifyL ltQ (pairsOfH hs))
structure Fall (hs : List Int) (ps : List PP) : Prop where
  perm : ps.Perm (pairsOfH hs)
  sorted : ps.Pairwise (fun p q => p.1 ≤ q.1)
theorem fall_ok (hs : List Int) : Fall hs (fall hs) := by
  have hl : (heapifyL ltQ (pairsOfH hs)).length = 12 := by rw [(heapifyL_perm _).length_eq]; simp [pairsOfH]
  obtain ⟨p1, p2⟩ := pops_ok lo_ltQ 12 _ hl (heapifyL_heap lo_ltQ _)
  exact ⟨p1.trans (heapifyL_perm _), p2.imp fun h => nltQ_fst h⟩
theorem Fall.len {hs : List Int} {ps : List PP} (f : Fall hs ps) : ps.length = 12 := by rw [f.perm.length_eq]; simp [pairsOfH]
theorem Fall.nodup {hs : List Int} {ps : List PP} (f : Fall hs ps) : (ps.map (·.2)).Nodup := by
  have h1 := f.perm.map (fun p : PP => p.2)
  refine h1.nodup_iff.mpr ?_
  unfold pairsOfH
  rw [List.map_map]
  refine List.pairwise_map.mpr (List.Pairwise.imp ?_ List.nodup_range)
  intro i j hij h
  exact hij (by have h3 : (i : Int) = j := h; (first | lia | omega))
theorem Fall.range {hs : List Int} {ps : List PP} (f : Fall hs ps) : ∀ p ∈ ps, 0 ≤ p.2 ∧ p.2 < 12 := fun p hp => by
  have := f.perm.mem_iff.mp hp
  unfold pairsOfH at this
  obtain ⟨k, hk, rfl⟩ := List.mem_map.mp this
  have := List.mem_range.mp hk
  exact ⟨by show (0 : Int) ≤ k; (first | lia | omega), by show (k : Int) < 12; (first | lia | omega)⟩
theorem Fall.mem {hs : List Int} {ps : List PP} (f : Fall hs ps) {k : Nat} (hk : k < 12) : (hs.getD k 0, (k : Int)) ∈ ps :=
  f.perm.mem_iff.mpr (List.mem_map.mpr ⟨k, List.mem_range.mpr hk, rfl⟩)
theorem Fall.has {hs : List Int} {ps : List PP} (f : Fall hs ps) {k : Nat} (hk : k < 12) : has (k : Int) ps = true := by
  unfold Mine.has; rw [List.any_eq_true]; exact ⟨_, f.mem hk, by simp⟩
theorem Fall.firsts {hs : List Int} {ps : List PP} (f : Fall hs ps) (hl : hs.length = 12) : (ps.map (·.1)).Perm hs := by
  refine (f.perm.map (fun p : PP => p.1)).trans (List.Perm.of_eq ?_)
  unfold pairsOfH
  rw [List.map_map]
  apply List.ext_getElem?
  intro i
  rcases Nat.lt_or_ge i 12 with q | q
  · simp [q, hl]
  · rw [List.getElem?_eq_none (by simpa using q), List.getElem?_eq_none (by (first | lia | omega))]
theorem Fall.lows {hs : List Int} {ps : List PP} (f : Fall hs ps) : lows ps = 4095 := by
  have h := lowsF_all (ps := ps) 12 0 fun i hi => by rw [Nat.zero_add]; exact f.has hi
  exact Nat.succ.inj h
end
section
theorem fall_head (hs : List Int) : gt0 (fall hs) 0 = gt0 (heapifyL ltQ (pairsOfH hs)) 0 := rfl
section
variable {hs : List Int} {ps : List PP}
theorem suffix_ok {s : List PP} (hn : (ps.map (·.2)).Nodup) (hr : ∀ p ∈ ps, 0 ≤ p.2 ∧ p.2 < 12) (h : s <:+ ps) : (s.map (·.2)).Nodup ∧ ∀ p ∈ s, 0 ≤ p.2 ∧ p.2 < 12 :=
  ⟨hn.sublist (h.sublist.map _), fun p hp => hr p (h.subset hp)⟩
theorem Fall.text (f : Fall hs ps) {kind : Nat} (hk : kind < 16) {s : List PP} (h : s <:+ ps) : fmode (bitsOf (kind : Int) s) = txt kind s := by
  obtain ⟨h1, h2⟩ := suffix_ok f.nodup f.range h
  rw [bits_lows (kind : Int) s h1 h2]
  have := fmode_txt hk s
  rw [← this]
  congr 1
theorem Fall.first (f : Fall hs ps) (hl : hs.length = 12) : ∀ x ∈ hs, (gt0 ps 0).1 ≤ x := fun x hx => by
  have hx' : x ∈ ps.map (·.1) := (f.firsts hl).mem_iff.mpr hx
  obtain ⟨p, hp, rfl⟩ := List.mem_map.mp hx'
  have hlen := f.len
  cases ps with
  | nil => cases hp
  | cons q r =>
    rcases List.mem_cons.mp hp with rfl | hp
    · exact Int.le_refl _
    · exact (List.pairwise_cons.mp f.sorted).1 p hp
theorem Fall.first_mem (f : Fall hs ps) (hl : hs.length = 12) : (gt0 ps 0).1 ∈ hs := by
  refine (f.firsts hl).mem_iff.mp (List.mem_map.mpr ⟨gt0 ps 0, at_mem (by rw [f.len]; decide), rfl⟩)
theorem Fall.dawn (f : Fall hs ps) (hl : hs.length = 12) {m : Int} (h1 : m ∈ hs) (h2 : ∀ x ∈ hs, m ≤ x) : (gt0 ps 0).1 = m := by
  have := f.first hl m h1
  have := h2 _ (f.first_mem hl)
  (first | lia | omega)
theorem last_max : ∀ (ps : List PP), ps.Pairwise (fun p q => p.1 ≤ q.1) → ps ≠ [] → (ps.getLast?.getD (0, 0)) ∈ ps ∧ ∀ p ∈ ps, p.1 ≤ (ps.getLast?.getD (0, 0)).1
  | [], _, h => (h rfl).elim
  | [p], _, _ => by simp
  | p :: q :: r, hs, _ => by
    obtain ⟨s1, s2⟩ := List.pairwise_cons.mp hs
    obtain ⟨i1, i2⟩ := last_max (q :: r) s2 (by simp)
    rw [List.getLast?_cons_cons]
    refine ⟨List.mem_cons_of_mem _ i1, fun x hx => ?_⟩
    rcases List.mem_cons.mp hx with rfl | hx
    · exact s1 _ i1
    · exact i2 x hx
theorem Fall.dusk (f : Fall hs ps) (hl : hs.length = 12) {m : Int} (h1 : m ∈ hs) (h2 : ∀ x ∈ hs, x ≤ m) : (ps.getLast?.getD (0, 0)).1 = m := by
  have hne : ps ≠ [] := by intro e; have := f.len; rw [e] at this; cases this
  obtain ⟨i1, i2⟩ := last_max ps f.sorted hne
  have hx' : m ∈ ps.map (·.1) := (f.firsts hl).mem_iff.mpr h1
  obtain ⟨p, hp, rfl⟩ := List.mem_map.mp hx'
  have a := i2 p hp
  have b := h2 _ ((f.firsts hl).mem_iff.mp (List.mem_map.mpr ⟨_, i1, rfl⟩))
  (first | lia | omega)
end
theorem spans_eq (hs : List Int) (kind : Int) : spansOf hs kind = go ((gt0 (fall hs) 0).1 - 1) (bitsOf kind (fall hs)) (fall hs) := by
  have f := fall_ok hs
  rw [bits_lows kind _ f.nodup f.range, f.lows]
  rfl
/-- the widths of the spans with such a text -/
theorem spans_sum {hs : List Int} (hl : hs.length = 12) {kind : Nat} (hk : kind < 16) {m : Int} (h1 : m ∈ hs) (h2 : ∀ x ∈ hs, m ≤ x) (g : List Nat → Bool) :
    (((spansOf hs kind).filter fun s => g s.2).map (·.1)).sum = T (fun s => g (txt kind s)) (m - 1) (fall hs) := by
  have f := fall_ok hs
  have hd := f.dawn hl h1 h2
  rw [spans_eq, hd, go_sum (kind : Int) g (fall hs) (m - 1) f.sorted fun p hp => ?_]
  · exact T_congr _ _ fun s hs' => by rw [f.text hk hs']
  · have := h2 _ ((f.firsts hl).mem_iff.mp (List.mem_map.mpr ⟨p, hp, rfl⟩))
    (first | lia | omega)
end
section
section
variable {hs : List Int} {ps : List PP}
theorem T_not {P : List PP → Bool} {ps : List PP} {c : Int} : T P c ps + T (fun s => !P s) c ps = T (fun _ => true) c ps :=
  T_add ps c fun s _ => by cases P s <;> rfl
/-- a bit's sign: until its hour; the hyphen from there -/
theorem time_bit (f : Fall hs ps) (hl : hs.length = 12) {c M : Int} (hM : (ps.getLast?.getD (0, 0)).1 = M) {k : Nat} (hk : k < 12) : T (has k) c ps = hs.getD k 0 - c ∧ T (fun s => !has k s) c ps = M - hs.getD k 0 := by
  have hne : ps ≠ [] := by intro e; have := f.len; rw [e] at this; cases this
  have h1 := T_has ps c f.nodup (f.mem hk)
  have h2 := T_not (P := has k) (ps := ps) (c := c)
  rw [T_all ps c hne, hM, h1] at h2
  exact ⟨h1, by (first | lia | omega)⟩
/-- two bits: both, the one alone, the other alone, none -/
theorem time_two (f : Fall hs ps) (hl : hs.length = 12) {c M : Int} (hM : (ps.getLast?.getD (0, 0)).1 = M) {k l : Nat} (hk : k < 12) (hl' : l < 12) (hne : k ≠ l) :
    T (fun s => has k s && has l s) c ps = min (hs.getD k 0) (hs.getD l 0) - c ∧ T (fun s => has k s && !has l s) c ps = max (hs.getD k 0 - hs.getD l 0) 0 ∧
    T (fun s => !has k s && has l s) c ps = max (hs.getD l 0 - hs.getD k 0) 0 ∧ T (fun s => !has k s && !has l s) c ps = M - max (hs.getD k 0) (hs.getD l 0) := by
  have b := T_both (k := (k : Int)) (l := (l : Int)) (by (first | lia | omega)) ps c f.sorted f.nodup (f.mem hk) (f.mem hl')
  obtain ⟨k1, k2⟩ := time_bit f hl (c := c) hM hk
  obtain ⟨l1, l2⟩ := time_bit f hl (c := c) hM hl'
  have e1 := T_add (P := fun s => has k s && has l s) (Q := fun s => has k s && !has l s) (R := has k) ps c fun s _ => by cases has k s <;> cases has l s <;> rfl
  have e2 := T_add (P := fun s => has k s && has l s) (Q := fun s => !has k s && has l s) (R := has l) ps c fun s _ => by cases has k s <;> cases has l s <;> rfl
  have e3 := T_add (P := fun s => !has k s && has l s) (Q := fun s => !has k s && !has l s) (R := fun s => !has k s) ps c fun s _ => by cases has k s <;> cases has l s <;> rfl
  generalize T (fun s => has k s && has l s) c ps = t1 at *
  generalize T (fun s => has k s && !has l s) c ps = t2 at *
  generalize T (fun s => !has k s && has l s) c ps = t3 at *
  generalize T (fun s => !has k s && !has l s) c ps = t4 at *
  rw [k1] at e1
  rw [l1] at e2
  rw [k2] at e3
  clear k1 l1 k2 l2
  generalize hs.getD k 0 = u at *
  generalize hs.getD l 0 = v at *
  subst b
  rcases Int.le_total u v with q | q
  · rw [Int.min_eq_left q] at *
    rw [Int.max_eq_right q, Int.max_eq_right (a := u - v) (by (first | lia | omega)), Int.max_eq_left (a := v - u) (by (first | lia | omega))]
    refine ⟨rfl, ?_, ?_, ?_⟩ <;> (first | lia | omega)
  · rw [Int.min_eq_right q] at *
    rw [Int.max_eq_left q, Int.max_eq_left (a := u - v) (by (first | lia | omega)), Int.max_eq_right (a := v - u) (by (first | lia | omega))]
    refine ⟨rfl, ?_, ?_, ?_⟩ <;> (first | lia | omega)
end
end
section
section
variable {hs : List Int} {ps : List PP}
theorem sign_r {b : Bool} {ch : Nat} (h : ch ≠ 45) : ((if b = true then ch else 45) == ch) = b ∧ ((if b = true then ch else 45) == 45) = !b := by
  cases b <;> simp [h]; exact fun e => h e.symm
theorem sign_x {a b : Bool} {c1 c2 : Nat} (h1 : c1 ≠ 45) (h2 : c2 ≠ 45) (h3 : c1 ≠ 120) (h4 : c2 ≠ 120) (h5 : c1 ≠ c2) :
    ((if (a && b) = true then c1 else if b = true then c2 else if a = true then 120 else 45) == c1) = (a && b) ∧ ((if (a && b) = true then c1 else if b = true then c2 else if a = true then 120 else 45) == 120) = (a && !b) ∧
    ((if (a && b) = true then c1 else if b = true then c2 else if a = true then 120 else 45) == c2) = (!a && b) ∧ ((if (a && b) = true then c1 else if b = true then c2 else if a = true then 120 else 45) == 45) = (!a && !b) := by
  cases a <;> cases b <;> simp [h1, h2, h3, h4, h5] <;> (first | (first | lia | omega) | (refine ⟨?_, ?_⟩ <;> (first | lia | omega)) | (refine ⟨?_, ?_, ?_⟩ <;> (first | lia | omega)))
/-- how long each sign stands at each place -/
theorem due_ok (f : Fall hs ps) (hl : hs.length = 12) {c M : Int} (hM : (ps.getLast?.getD (0, 0)).1 = M) (kind : Nat) {pl : Nat} (hpl : pl < 9) :
    ∀ x ∈ (dueOf hs c M 3).getD pl [], T (fun s => (txt kind s).getD (pl + 1) 0 == x.1) c ps = x.2 := by
  have one : ∀ (k : Nat) (ch : Nat) (pl : Nat), k < 12 → ch ≠ 45 → (∀ s, (txt kind s).getD (pl + 1) 0 = if has k s = true then ch else 45) → ∀ x ∈ [(ch, hs.getD k 0 - c), (45, M - hs.getD k 0)], T (fun s => (txt kind s).getD (pl + 1) 0 == x.1) c ps = x.2 := by
    intro k ch pl hk hch htx x hx
    obtain ⟨t1, t2⟩ := time_bit f hl (c := c) hM hk
    rcases List.mem_cons.mp hx with rfl | hx
    · rw [← t1]; exact T_congr _ _ fun s _ => by dsimp only; rw [htx s, (sign_r hch).1]
    · have : x = (45, M - hs.getD k 0) := by simpa using hx
      subst this
      rw [← t2]; exact T_congr _ _ fun s _ => by dsimp only; rw [htx s, (sign_r hch).2]
  have two : ∀ (k l : Nat) (c1 c2 : Nat) (pl : Nat), k < 12 → l < 12 → k ≠ l → c1 ≠ 45 → c2 ≠ 45 → c1 ≠ 120 → c2 ≠ 120 → c1 ≠ c2 → (∀ s, (txt kind s).getD (pl + 1) 0 = if (has k s && has l s) = true then c1 else if has l s = true then c2 else if has k s = true then 120 else 45) →
      ∀ x ∈ [(c1, min (hs.getD k 0) (hs.getD l 0) - c), (120, max (hs.getD k 0 - hs.getD l 0) 0), (c2, max (hs.getD l 0 - hs.getD k 0) 0), (45, M - max (hs.getD k 0) (hs.getD l 0))], T (fun s => (txt kind s).getD (pl + 1) 0 == x.1) c ps = x.2 := by
    intro k l c1 c2 pl hk hl' hkl g1 g2 g3 g4 g5 htx x hx
    obtain ⟨t1, t2, t3, t4⟩ := time_two f hl (c := c) hM hk hl' hkl
    rcases List.mem_cons.mp hx with rfl | hx
    · rw [← t1]; exact T_congr _ _ fun s _ => by dsimp only; rw [htx s, (sign_x g1 g2 g3 g4 g5).1]
    · rcases List.mem_cons.mp hx with rfl | hx
      · rw [← t2]; exact T_congr _ _ fun s _ => by dsimp only; rw [htx s, (sign_x g1 g2 g3 g4 g5).2.1]
      · rcases List.mem_cons.mp hx with rfl | hx
        · rw [← t3]; exact T_congr _ _ fun s _ => by dsimp only; rw [htx s, (sign_x g1 g2 g3 g4 g5).2.2.1]
        · have : x = (45, M - max (hs.getD k 0) (hs.getD l 0)) := by simpa using hx
          subst this
          rw [← t4]; exact T_congr _ _ fun s _ => by dsimp only; rw [htx s, (sign_x g1 g2 g3 g4 g5).2.2.2]
  rcases pl with _ | _ | _ | _ | _ | _ | _ | _ | _ | pl
  · exact one 8 114 0 (by decide) (by decide) fun s => rfl
  · exact one 7 119 1 (by decide) (by decide) fun s => rfl
  · exact two 6 11 115 83 2 (by decide) (by decide) (by decide) (by decide) (by decide) (by decide) (by decide) (by decide) fun s => rfl
  · exact one 5 114 3 (by decide) (by decide) fun s => rfl
  · exact one 4 119 4 (by decide) (by decide) fun s => rfl
  · exact two 3 10 115 83 5 (by decide) (by decide) (by decide) (by decide) (by decide) (by decide) (by decide) (by decide) fun s => rfl
  · exact one 2 114 6 (by decide) (by decide) fun s => rfl
  · exact one 1 119 7 (by decide) (by decide) fun s => rfl
  · exact two 0 9 116 84 8 (by decide) (by decide) (by decide) (by decide) (by decide) (by decide) (by decide) (by decide) fun s => rfl
  · exact absurd hpl (Nat.not_lt.mpr (Nat.le_add_left 9 pl))
end
end
section
theorem b2_or {a b : Bool} (h : a = true → b = false) : b2 (a || b) = b2 a + b2 b := by
  cases a <;> cases b <;> simp_all [b2]
/-- how many of three bits are left -/
theorem count_three {x y z : Int} (hxy : x ≠ y) (hxz : x ≠ z) (hyz : y ≠ z) : ∀ (s : List PP), (s.map (·.2)).Nodup → (s.filter fun p => p.2 == x || p.2 == y || p.2 == z).length = b2 (has x s) + b2 (has y s) + b2 (has z s)
  | [], _ => rfl
  | p :: r, hn => by
    rw [List.map_cons, List.nodup_cons] at hn
    have ih := count_three hxy hxz hyz r hn.2
    have gone : ∀ j : Int, (p.2 == j) = true → has j r = false := fun j hj => by
      unfold has; rw [List.any_eq_false]
      intro q hq hq'
      have h1 : q.2 = j := by simpa using hq'
      have h2 : p.2 = j := by simpa using hj
      exact hn.1 (List.mem_map.mpr ⟨q, hq, by rw [h1, h2]⟩)
    rw [has_cons, has_cons, has_cons, b2_or (gone x), b2_or (gone y), b2_or (gone z), List.filter_cons]
    by_cases e1 : p.2 = x
    · have f2 : (p.2 == y) = false := by rw [e1]; simpa using hxy
      have f3 : (p.2 == z) = false := by rw [e1]; simpa using hxz
      have f1 : (p.2 == x) = true := by simpa using e1
      rw [f1, f2, f3, if_pos (by decide), List.length_cons, ih]; simp [b2]; (first | lia | omega)
    · have f1 : (p.2 == x) = false := by simpa using e1
      by_cases e2 : p.2 = y
      · have f2 : (p.2 == y) = true := by simpa using e2
        have f3 : (p.2 == z) = false := by rw [e2]; simpa using hyz
        rw [f1, f2, f3, if_pos (by decide), List.length_cons, ih]; simp [b2]; (first | lia | omega)
      · have f2 : (p.2 == y) = false := by simpa using e2
        by_cases e3 : p.2 = z
        · have f3 : (p.2 == z) = true := by simpa using e3
          rw [f1, f2, f3, if_pos (by decide), List.length_cons, ih]; simp [b2]; (first | lia | omega)
        · have f3 : (p.2 == z) = false := by simpa using e3
          rw [f1, f2, f3, if_neg (by simp), ih]; simp [b2]
theorem shown_r {b : Bool} {ch : Nat} (h1 : ch ≠ 45) (h2 : ch ≠ 115) (h3 : ch ≠ 116) : shown1 (if b = true then ch else 45) = b2 b := by
  cases b <;> simp [shown1, b2, h1, h2, h3]
theorem shown_x {a b : Bool} {c1 c2 : Nat} (h1 : c1 = 115 ∨ c1 = 116) (h2 : c2 ≠ 45) (h3 : c2 ≠ 115) (h4 : c2 ≠ 116) : shown1 (if (a && b) = true then c1 else if b = true then c2 else if a = true then 120 else 45) = b2 a + b2 b := by
  rcases h1 with rfl | rfl <;> cases a <;> cases b <;> simp [shown1, b2, h2, h3, h4]
theorem txt_shown (kind : Nat) (s : List PP) : (((txt kind s).drop 1).map shown1).sum = (bitCount s : Int) := by
  show (shown1 _ + (shown1 _ + (shown1 _ + (shown1 _ + (shown1 _ + (shown1 _ + (shown1 _ + (shown1 _ + (shown1 _ + 0))))))))) = _
  rw [shown_r (by decide) (by decide) (by decide), shown_r (by decide) (by decide) (by decide), shown_x (.inl rfl) (by decide) (by decide) (by decide), shown_r (by decide) (by decide) (by decide), shown_r (by decide) (by decide) (by decide), shown_x (.inl rfl) (by decide) (by decide) (by decide),
    shown_r (by decide) (by decide) (by decide), shown_r (by decide) (by decide) (by decide), shown_x (.inr rfl) (by decide) (by decide) (by decide)]
  show _ = (((b2 (has 0 s) + (b2 (has 1 s) + (b2 (has 2 s) + (b2 (has 3 s) + (b2 (has 4 s) + (b2 (has 5 s) + (b2 (has 6 s) + (b2 (has 7 s) + (b2 (has 8 s) + (b2 (has 9 s) + (b2 (has 10 s) + (b2 (has 11 s) + 0)))))))))))) : Nat) : Int)
  (first | lia | omega)
end
section
/-- the sign of each kind -/
noncomputable def kinds16 : List Nat := [63, 112, 99, 63, 100, 63, 98, 63, 45, 63, 108, 63, 115, 63, 63, 63]
theorem kind_sign : ∀ kind : Nat, kind < 16 → signAt ((4096 * kind : Nat) : Int) 0 (rows.getD 0 []) = kinds16.getD kind 0 := by decide +kernel
theorem filt_true (l : List PP) : l.filter (fun _ => true) = l := by simp
section
variable {hs : List Int} {kind : Nat}
theorem spans_texts (hk : kind < 16) (f : List Nat → Prop) (h : ∀ s, f (txt kind s)) : ∀ x ∈ spansOf hs kind, f x.2 := by
  rw [spans_eq]
  exact go_texts (kind : Int) f _ _ fun s hs' => by rw [(fall_ok hs).text hk hs']; exact h s
theorem spans_first (hk : kind < 16) : ∀ x ∈ spansOf hs kind, x.2.length = 10 ∧ x.2.getD 0 0 = kinds16.getD kind 0 :=
  spans_texts hk (fun t => t.length = 10 ∧ t.getD 0 0 = kinds16.getD kind 0) fun s => ⟨rfl, by rw [← kind_sign kind hk]; rfl⟩
theorem spans_last (hk : kind < 16) : (spansOf hs kind).getLast? = some (0, txt kind []) := by
  rw [spans_eq, go_last, (fall_ok hs).text hk (List.nil_suffix)]
theorem txt_nil (kind : Nat) : (txt kind []).drop 1 = [45, 45, 45, 45, 45, 45, 45, 45, 45] := rfl
theorem spans_length : (spansOf hs kind).length ≤ 13 ∧ 1 ≤ (spansOf hs kind).length := by
  rw [spans_eq]
  have := go_length (kind : Int) (fall hs) ((gt0 (fall hs) 0).1 - 1)
  rw [(fall_ok hs).len] at this
  exact this
/-- each sign's time at each place -/
theorem spans_due (hl : hs.length = 12) (hk : kind < 16) {m M : Int} (h1 : m ∈ hs) (h2 : ∀ x ∈ hs, m ≤ x) (h3 : M ∈ hs) (h4 : ∀ x ∈ hs, x ≤ M) {pl : Nat} (hpl : pl < 9) :
    ∀ x ∈ (dueOf hs (m - 1) M 3).getD pl [], (((spansOf hs kind).filter fun s => s.2.getD (pl + 1) 0 == x.1).map (·.1)).sum = x.2 := by
  intro x hx
  rw [spans_sum hl hk h1 h2 fun t => t.getD (pl + 1) 0 == x.1]
  exact due_ok (fall_ok hs) hl ((fall_ok hs).dusk hl h3 h4) kind hpl x hx
/-- sorted hours -/
theorem sorted_eq {xs ys : List Int} (h1 : xs.Pairwise (· ≤ ·)) (h2 : ys.Pairwise (· ≤ ·)) (h : xs.Perm ys) : xs = ys :=
  h.eq_of_pairwise (fun _ _ _ _ h1 h2 => Int.le_antisymm h1 h2) h1 h2
theorem fall_sorted (hl : hs.length = 12) {ss : List Int} (hp : ss.Perm hs) (hs' : ss.Pairwise (· ≤ ·)) : (fall hs).map (·.1) = ss := by
  have f := fall_ok hs
  exact sorted_eq (List.pairwise_map.mpr f.sorted) hs' ((f.firsts hl).trans hp.symm)
theorem gt0_fst (ps : List PP) (i : Nat) : (gt0 ps i).1 = (ps.map (·.1)).getD i 0 := by
  simp only [gt0, List.getD_eq_getElem?_getD, List.getElem?_map]
  cases ps[i]? <;> rfl
/-- how long so many are shown: the hours from the greatest on -/
theorem level_all (hl : hs.length = 12) (hk : kind < 16) {m : Int} (h1 : m ∈ hs) (h2 : ∀ x ∈ hs, m ≤ x) {ss : List Int} (hp : ss.Perm hs) (hs' : ss.Pairwise (· ≤ ·)) {i : Nat} (hi : i < 12) :
    levelAt (m - 1) ((spansOf hs kind).map fun s => (s.1, ((s.2.drop 1).map shown1).sum)) ((i : Int) + 1) = ss.getD (11 - i) 0 := by
  have f := fall_ok hs
  have e1 : ((((spansOf hs kind).map fun s => (s.1, ((s.2.drop 1).map shown1).sum)).filter fun p => decide ((i : Int) + 1 ≤ p.2)).map (·.1)) = (((spansOf hs kind).filter fun s => decide ((i : Int) + 1 ≤ ((s.2.drop 1).map shown1).sum)).map (·.1)) := by
    rw [List.filter_map, List.map_map]; rfl
  unfold levelAt
  rw [e1, spans_sum hl hk h1 h2 fun t => decide ((i : Int) + 1 ≤ ((t.drop 1).map shown1).sum)]
  have e2 : T (fun s => decide ((i : Int) + 1 ≤ (((txt kind s).drop 1).map shown1).sum)) (m - 1) (fall hs) = T (fun s => decide (i + 1 ≤ (s.filter fun _ => true).length)) (m - 1) (fall hs) :=
    T_congr _ _ fun s hs'' => by
      obtain ⟨q1, q2⟩ := suffix_ok f.nodup f.range hs''
      rw [txt_shown, count_all s q1 q2, filt_true]
      rw [decide_eq_decide]; (first | lia | omega)
  rw [e2, T_count (by (first | lia | omega)) (fall hs) (m - 1) (by rw [filt_true, f.len]; (first | lia | omega)), filt_true, gt0_fst, fall_sorted hl hp hs', f.len, show 12 - (i + 1) = 11 - i from by (first | lia | omega)]
  (first | lia | omega)
end
end
section
section
variable {hs : List Int} {kind : Nat}
/-- the greatest k are the first k from the end -/
theorem most_eq {k : Nat} {ys ss : List Int} (h : Most k hs ys) (hp : ss.Perm hs) (hs' : ss.Pairwise (· ≤ ·)) : ys = ss.reverse.take k := by
  obtain ⟨hl, ho, rest, hr, hle⟩ := h
  let R := rest.mergeSort (fun a b => decide (b ≤ a))
  have r1 : R.Perm rest := List.mergeSort_perm _ _
  have r2 : R.Pairwise (fun a b => b ≤ a) := (List.pairwise_mergeSort (le := fun a b : Int => decide (b ≤ a)) (fun a b c h1 h2 => by simp at *; (first | lia | omega)) (fun a b => by simp; (first | lia | omega)) rest).imp fun h => by simpa using h
  have e : ys ++ R = ss.reverse := by
    refine List.Perm.eq_of_pairwise (le := fun a b : Int => b ≤ a) (fun _ _ _ _ h1 h2 => Int.le_antisymm h2 h1) ?_ (List.pairwise_reverse.mpr hs') ?_
    · exact List.pairwise_append.mpr ⟨ho, r2, fun a ha b hb => hle a ha b (r1.mem_iff.mp hb)⟩
    · exact ((r1.append_left ys).trans hr).trans (hp.symm.trans (List.reverse_perm ss).symm)
  rw [← e, ← hl, List.take_left]
theorem least_eq {k : Nat} {ys ss : List Int} (h : Least k hs ys) (hp : ss.Perm hs) (hs' : ss.Pairwise (· ≤ ·)) : ys = ss.take k := by
  obtain ⟨hl, ho, rest, hr, hle⟩ := h
  let R := rest.mergeSort (fun a b => decide (a ≤ b))
  have r1 : R.Perm rest := List.mergeSort_perm _ _
  have r2 : R.Pairwise (fun a b => a ≤ b) := (List.pairwise_mergeSort (le := fun a b : Int => decide (a ≤ b)) (fun a b c h1 h2 => by simp at *; (first | lia | omega)) (fun a b => by simp; (first | lia | omega)) rest).imp fun h => by simpa using h
  have e : ys ++ R = ss := by
    refine sorted_eq ?_ hs' ?_
    · exact List.pairwise_append.mpr ⟨ho, r2, fun a ha b hb => hle a ha b (r1.mem_iff.mp hb)⟩
    · exact ((r1.append_left ys).trans hr).trans hp.symm
  rw [← e, ← hl, List.take_left]
/-- the three rights of a class -/
noncomputable def trio (hs : List Int) (g : Nat) : List Int := [hs.getD (8 - 3 * g) 0, hs.getD (7 - 3 * g) 0, hs.getD (6 - 3 * g) 0]
noncomputable def inTrio (g : Nat) (p : PP) : Bool := p.2 == ((8 - 3 * g : Nat) : Int) || p.2 == ((7 - 3 * g : Nat) : Int) || p.2 == ((6 - 3 * g : Nat) : Int)
theorem pairs_trio {g : Nat} (hg : g < 3) : ((pairsOfH hs).filter (inTrio g)).map (·.1) = (trio hs g).reverse := by
  have : g = 0 ∨ g = 1 ∨ g = 2 := by (first | lia | omega)
  rcases this with rfl | rfl | rfl <;> rfl
theorem fall_trio {g : Nat} (hg : g < 3) {ss : List Int} (hp : ss.Perm (trio hs g)) (hs' : ss.Pairwise (· ≤ ·)) : ((fall hs).filter (inTrio g)).map (·.1) = ss := by
  have f := fall_ok hs
  refine sorted_eq (List.pairwise_map.mpr (f.sorted.filter _)) hs' ?_
  refine ((f.perm.filter (inTrio g)).map (·.1)).trans ?_
  rw [pairs_trio hg]
  exact (List.reverse_perm _).trans hp.symm
noncomputable def heldOf (g : Nat) (t : List Nat) : Nat := (((t.drop (1 + 3 * g)).take 3).filter fun ch => decide (ch ∈ [114, 119, 120, 115, 116])).length
theorem held_three {a b c d : Bool} {c1 c2 : Nat} (h1 : c1 = 115 ∨ c1 = 116) (h2 : c2 = 83 ∨ c2 = 84) :
    ([if a = true then 114 else 45, if b = true then 119 else 45, if (c && d) = true then c1 else if d = true then c2 else if c = true then 120 else 45].filter fun ch => decide (ch ∈ [114, 119, 120, 115, 116])).length = b2 a + b2 b + b2 c := by
  rcases h1 with rfl | rfl <;> rcases h2 with rfl | rfl <;> cases a <;> cases b <;> cases c <;> cases d <;> decide
theorem held_txt {g : Nat} (hg : g < 3) (s : List PP) : heldOf g (txt kind s) = b2 (has ((8 - 3 * g : Nat) : Int) s) + b2 (has ((7 - 3 * g : Nat) : Int) s) + b2 (has ((6 - 3 * g : Nat) : Int) s) := by
  have : g = 0 ∨ g = 1 ∨ g = 2 := by (first | lia | omega)
  rcases this with rfl | rfl | rfl
  · exact held_three (.inl rfl) (.inl rfl)
  · exact held_three (.inl rfl) (.inl rfl)
  · exact held_three (.inr rfl) (.inr rfl)
theorem trio_count {g : Nat} (hg : g < 3) {s : List PP} (hn : (s.map (·.2)).Nodup) : (s.filter (inTrio g)).length = b2 (has ((8 - 3 * g : Nat) : Int) s) + b2 (has ((7 - 3 * g : Nat) : Int) s) + b2 (has ((6 - 3 * g : Nat) : Int) s) := by
  exact count_three (by (first | lia | omega)) (by (first | lia | omega)) (by (first | lia | omega)) s hn
theorem level_trio (hl : hs.length = 12) (hk : kind < 16) {m : Int} (h1 : m ∈ hs) (h2 : ∀ x ∈ hs, m ≤ x) {g : Nat} (hg : g < 3) {ss : List Int} (hp : ss.Perm (trio hs g)) (hs' : ss.Pairwise (· ≤ ·)) {i : Nat} (hi : i < 3) :
    levelAt (m - 1) ((spansOf hs kind).map fun s => (s.1, (heldOf g s.2 : Int))) ((i : Int) + 1) = ss.getD (2 - i) 0 := by
  have f := fall_ok hs
  have e1 : ((((spansOf hs kind).map fun s => (s.1, (heldOf g s.2 : Int))).filter fun p => decide ((i : Int) + 1 ≤ p.2)).map (·.1)) = (((spansOf hs kind).filter fun s => decide ((i : Int) + 1 ≤ (heldOf g s.2 : Int))).map (·.1)) := by
    rw [List.filter_map, List.map_map]; rfl
  unfold levelAt
  rw [e1, spans_sum hl hk h1 h2 fun t => decide ((i : Int) + 1 ≤ (heldOf g t : Int))]
  have e2 : T (fun s => decide ((i : Int) + 1 ≤ (heldOf g (txt kind s) : Int))) (m - 1) (fall hs) = T (fun s => decide (i + 1 ≤ (s.filter (inTrio g)).length)) (m - 1) (fall hs) :=
    T_congr _ _ fun s hs'' => by
      obtain ⟨q1, q2⟩ := suffix_ok f.nodup f.range hs''
      rw [held_txt hg, trio_count hg q1]
      rw [decide_eq_decide]; (first | lia | omega)
  have hlen : ((fall hs).filter (inTrio g)).length = 3 := by
    have := congrArg List.length (fall_trio (hs := hs) hg hp hs')
    rw [List.length_map, hp.length_eq] at this
    exact this
  rw [e2, T_count (by (first | lia | omega)) (fall hs) (m - 1) (by rw [hlen]; (first | lia | omega)), gt0_fst, fall_trio hg hp hs', hlen, show 3 - (i + 1) = 2 - i from by (first | lia | omega)]
  (first | lia | omega)
/-- an hour's size -/
theorem numI_small (x : Int) : (numI x).natAbs < 2 ^ 40 := by
  have a1 := Int.fmod_nonneg_of_pos (x.fdiv 2) (b := 4) (by decide)
  have a2 := Int.fmod_lt_of_pos (x.fdiv 2) (b := 4) (by decide)
  have b1 := Int.fmod_nonneg_of_pos x (b := 2 ^ 40) (by decide)
  have b2 := Int.fmod_lt_of_pos x (b := 2 ^ 40) (by decide)
  unfold numI
  generalize (x.fdiv 2).fmod 4 = u at *
  generalize x.fmod (2 ^ 40) = v at *
  repeat' split
  all_goals (first | lia | omega)
end
end
section
section
variable {hs ss : List Int} {k : Nat}
theorem getD_small {b : Nat} (hb : 0 < b) (h : ∀ x ∈ ss, x.natAbs < b) (i : Nat) : (ss.getD i 0).natAbs < b := by
  rw [List.getD_eq_getElem?_getD]
  cases q : ss[i]? with
  | none => exact hb
  | some x => exact h x (List.mem_of_getElem? q)
theorem list12 (hl : ss.length = 12) : ss = (List.range 12).map fun i => ss.getD i 0 := by
  apply List.ext_getElem?
  intro i
  rw [List.getElem?_map]
  rcases Nat.lt_or_ge i 12 with q | q
  · rw [List.getElem?_range q, List.getElem?_eq_getElem (by omega), Option.map_some, List.getD_eq_getElem?_getD, List.getElem?_eq_getElem (by omega)]; rfl
  · rw [List.getElem?_eq_none (by omega), List.getElem?_eq_none (by simp; omega)]; rfl
theorem rev12 (hl : ss.length = 12) : ss.reverse = (List.range 12).map fun i => ss.getD (11 - i) 0 := by
  conv => lhs; rw [list12 hl]
  rfl
theorem list3 (hl : ss.length = 3) : ss = [ss.getD 0 0, ss.getD 1 0, ss.getD 2 0] := by
  match ss, hl with
  | [_, _, _], _ => rfl
theorem sum53 {a b : Int} (ha : a.natAbs < 2 ^ 40) (hb : b.natAbs < 2 ^ 40) : (2 * (a + b)).natAbs < 2 ^ 53 := by omega
theorem add53 {a b : Int} (ha : a.natAbs < 2 ^ 40) (hb : b.natAbs < 2 ^ 40) : (a + b).natAbs < 2 ^ 53 := by omega
theorem dbl53 {a : Int} (ha : a.natAbs < 2 ^ 40) : (2 * a).natAbs < 2 ^ 53 := by omega
/-- the exclusive cuts into 13 parts: each hour -/
theorem ex13 (h : ∀ x ∈ ss, x.natAbs < 2 ^ 40) {i : Nat} (h1 : 1 ≤ i) (h2 : i < 13) : 2 * exN ss 13 i = ((13 : Nat) : Int) * (2 * ss.getD (i - 1) 0) ∧ (2 * ss.getD (i - 1) 0).natAbs < 2 ^ 53 := by
  refine ⟨?_, dbl53 (getD_small (by decide) h (i - 1))⟩
  rcases Nat.lt_or_ge i 12 with q | q
  · have ej : exJ 13 i = i := by
      unfold exJ
      rw [Nat.mul_div_cancel i (by decide), if_neg (Nat.not_lt.mpr h1), if_neg (Nat.not_lt.mpr (Nat.le_of_lt_succ q))]
    unfold exN
    rw [ej]
    show 2 * (_ * (13 - ((i : Int) * 13 - i * 13)) + _ * ((i : Int) * 13 - i * 13)) = 13 * (2 * _)
    rw [Int.sub_self, Int.mul_zero, Int.add_zero, Int.sub_zero, Int.mul_comm _ 13, Int.mul_left_comm]
  · have : i = 12 := by omega
    subst this
    show 2 * (ss.getD 10 0 * 0 + ss.getD 11 0 * 13) = 13 * (2 * ss.getD 11 0)
    rw [Int.mul_zero, Int.zero_add, Int.mul_comm _ 13, Int.mul_left_comm]
/-- the one cut into two -/
theorem ex2 (h : ∀ x ∈ ss, x.natAbs < 2 ^ 40) {i : Nat} (h1 : 1 ≤ i) (h2 : i < 2) : 2 * exN ss 2 i = ((2 : Nat) : Int) * (ss.getD 5 0 + ss.getD 6 0) ∧ (ss.getD 5 0 + ss.getD 6 0).natAbs < 2 ^ 53 := by
  refine ⟨?_, add53 (getD_small (by decide) h 5) (getD_small (by decide) h 6)⟩
  have hi : i = 1 := by omega
  subst hi
  simp [exN, exJ]
/-- the inclusive cuts into 22 -/
theorem in22 (h : ∀ x ∈ ss, x.natAbs < 2 ^ 40) {i : Nat} : 2 * inN ss 22 i = ((22 : Nat) : Int) * (ss.getD (i / 2) 0 + ss.getD ((i + 1) / 2) 0) ∧ (ss.getD (i / 2) 0 + ss.getD ((i + 1) / 2) 0).natAbs < 2 ^ 53 := by
  refine ⟨?_, add53 (getD_small (by decide) h (i / 2)) (getD_small (by decide) h ((i + 1) / 2))⟩
  unfold inN
  have e1 : i * 11 / 22 = i / 2 := by omega
  rw [e1]
  rcases Nat.mod_two_eq_zero_or_one i with q | q
  · have e2 : i * 11 % 22 = 0 := by omega
    have e3 : (i + 1) / 2 = i / 2 := by omega
    rw [e2, e3]
    simp; omega
  · have e2 : i * 11 % 22 = 11 := by omega
    have e3 : (i + 1) / 2 = i / 2 + 1 := by omega
    rw [e2, e3]
    generalize ss.getD (i / 2) 0 = u
    generalize ss.getD (i / 2 + 1) 0 = v
    show 2 * (u * (22 - 11) + v * 11) = 22 * (u + v)
    omega
end
end
section
open PySem PySem.W PyProof.Rows
set_option maxRecDepth 10000
/-- the law's own text: its scope, its body -/
noncomputable def lawFd (P : Params) : Option FuncData := match (hd.heap_1 P).lookup 205 with
  | some ⟨_, _, .func fd, _⟩ => some fd
  | _ => Option.none
noncomputable def lawSc (P : Params) : Scope := match lawFd P with
  | some fd => fd.scope
  | _ => default
noncomputable def lawBody (P : Params) : List Stmt := match lawFd P with
  | some fd => (match fd.body with | .stmts b => b | _ => [])
  | _ => []
/-- one statement of the body -/
noncomputable def stm (P : Params) (i : Nat) : Stmt := ((lawBody P)[i]?).getD (.Break ⟨0, 0, 0, 0⟩)
theorem law_body (P : Params) : lawBody P = [stm P 0, stm P 1, stm P 2, stm P 3, stm P 4, stm P 5, stm P 6, stm P 7, stm P 8, stm P 9, stm P 10, stm P 11, stm P 12, stm P 13, stm P 14, stm P 15, stm P 16] := by kernel_rfl
noncomputable abbrev Cls (S : Scope) (e : Env) : Prop := ∀ x, S.names.lookup x = some .cell → ∃ k, e.cells.lookup x = some k ∧ e.locals < k
section
variable {c : Cx} {n : Nat} {env : Env} {σ : Sig}
/-- a part of the law's body -/
structure LX (c : Cx) (n : Nat) (e : Env) (X : List Stmt) (σ : Sig) (Q : F → Sig → Prop) : Prop where
  h : AX c n (withScope (lawSc c.w.params) e) X σ Q
theorem seg_in {e : Env} {S' : Scope} {X X' : List Stmt} {Q : F → Sig → Prop} {H : Scope → Prop} (hS : lawSc c.w.params = S') (hX : X = X') (he : Cls (lawSc c.w.params) e) (h : H (lawSc c.w.params)) (g : Cls S' e → H S' → AX c n (withScope S' e) X' σ Q) : LX c n e X σ Q := by
  subst hS hX; exact ⟨g he h⟩
variable {target iter elt : Expr} {ifs : List Expr} {scope : Scope} {min : List (Str × D)} {pos : Pos}
/-- x = [.. for ..], which stays -/
theorem AX.assignCompF {Q : F → Sig → Prop} {rest : List Stmt} {x : Str} {px spos : Pos} (ok : CompOk scope env σ.m min)
    (h : AEI c n env target iter (fun _ => True) σ (fun items σ₁ => σ₁.m = σ.m ∧ items.length ≤ 1000 ∧ ∀ e : Env, (∀ x, scope.names.lookup x = some .cell → ∃ k, e.cells.lookup x = some k ∧ e.locals < k) →
      ACmp c n (withScope (relabel scope env) e) target ifs elt (fun acc σ₂ => AX c n env rest (Sig.put ⟨σ.m, σ₂.L⟩ x (.lst acc)) Q) items [] ⟨min, σ₁.L⟩))
    (hx : Sto env x := by exact ⟨rfl, .inl rfl⟩) (hsw : swapsWith (.ListComp elt [⟨target, iter, ifs, 0⟩] scope pos) (some (.Name x px)) spos.line env = pure true := by rfl)
    (hs : ∀ x, foldedSetIterable iter env x = pure x := by intro _; rfl) : AX c n env (.Assign [.Name x px] (.ListComp elt [⟨target, iter, ifs, 0⟩] scope pos) spos :: rest) σ Q := by
  refine AX.assignComp ok ?_ hx hsw hs
  refine fun Z A s hr r => wpAny_mono (h Z A s hr r) (fun v s₁ hv => wpAny_mono hv (fun it s' ⟨Z', σ', items, h1, h2, h3, h4, h5, h6⟩ => ⟨Z', σ', items, h1, h2, h3, h4, h5, fun e he => ?_⟩) fun _ _ e => e) fun _ _ e => e
  have mono : ∀ {E E' : List D → Sig → Prop}, (∀ acc σ₂, E acc σ₂ → E' acc σ₂) → ∀ (items acc : List D) (σ : Sig), ACmp c n (withScope (relabel scope env) e) target ifs elt E items acc σ → ACmp c n (withScope (relabel scope env) e) target ifs elt E' items acc σ := by
    intro E E' hE items
    induction items with
    | nil => exact fun acc σ h => hE _ _ h
    | cons d ds ih =>
      intro acc σ h
      refine AS.mono h fun σ₁ h => ATs.mono h fun b σ₂ h => ?_
      split
      · rename_i q; rw [if_pos q] at h; exact AE.mono h fun v σ₃ h => ih _ _ h
      · rename_i q; rw [if_neg q] at h; exact ih _ _ h
  refine mono ?_ _ _ _ (h6 e he)
  intro acc σ₂ hk a ha
  refine AX.frz (x := x) (a := a) (ds := acc) ?_ ?_ ?_
  · show get x (put x _ _) = _; rw [get_put, if_pos rfl]
  · exact setL_same
  · have e1 : eraseL ((Sig.put (Sig.cel ⟨σ.m, σ₂.L⟩ a (.list acc)) x (.val (.ref a))).L) a = σ₂.L := eraseL_setL ha
    rw [e1]
    show AX c n env rest ⟨put x (.lst acc) (put x _ σ.m), σ₂.L⟩ Q
    rw [put_put]
    exact hk
end
end
section
open PySem PySem.W PyProof.Rows
set_option maxRecDepth 10000

noncomputable def twelve : List Int := [4, 5, 10, 2, -6, 3, 20, 14, 9, 12, 16, 8]
/-- the law's row of hours -/
noncomputable def hoursOf (ns : List Int) : List Int := ((ns ++ twelve).take 12).map numI
noncomputable def natureOf (ns : List Int) : Nat := ((ns.sum + 8).fmod 16).toNat
theorem hours_length (ns : List Int) : (hoursOf ns).length = 12 := by simp [hoursOf, twelve]
theorem nature_eq (ns : List Int) : (ns.sum + 8).fmod 16 = (natureOf ns : Int) := by
  have := Int.fmod_nonneg_of_pos (ns.sum + 8) (b := 16) (by decide)
  unfold natureOf; omega
theorem nature_lt (ns : List Int) : natureOf ns < 16 := by
  have := Int.fmod_nonneg_of_pos (ns.sum + 8) (b := 16) (by decide)
  have := Int.fmod_lt_of_pos (ns.sum + 8) (b := 16) (by decide)
  unfold natureOf; omega
noncomputable abbrev m1 (hs : List Int) (k : Nat) (m M : Int) : List (Str × D) :=
  [(Str.ofString "hours", .lst (hs.map D.int)), (Str.ofString "nature", .int k), (Str.ofString "dawn", .int (m - 1)), (Str.ofString "dusk", .int M), (Str.ofString "spans", .lst ((spansOf hs k).map spD))]
section
variable {c : Cx} {n : Nat} {L : Addr → Option Cel} {e : Env} {Q : F → Sig → Prop} {rest : List Stmt}
theorem law_1 (B : BaseOk c) (he : Cls (lawSc c.w.params) e) {ns : List Int} (hn : ns.length ≤ 63)
    (h : ∀ m M : Int, m ∈ hoursOf ns → (∀ x ∈ hoursOf ns, m ≤ x) → M ∈ hoursOf ns → (∀ x ∈ hoursOf ns, x ≤ M) → LX c (n + 4) e rest ⟨m1 (hoursOf ns) (natureOf ns) m M, L⟩ Q) :
    LX c (n + 4) e (stm c.w.params 0 :: stm c.w.params 1 :: stm c.w.params 2 :: stm c.w.params 3 :: stm c.w.params 4 :: rest) ⟨[(Str.ofString "script", .lst (ns.map D.int))], L⟩ Q := by
  have hlen := hours_length ns
  have hne : hoursOf ns ≠ [] := by intro q; rw [q] at hlen; cases hlen
  have hsum := nature_eq ns
  refine seg_in (S' := ⟨_, _, _, _, _⟩) (X' := Stmt.Assign _ _ _ :: Stmt.Assign _ _ _ :: Stmt.Assign _ _ _ :: Stmt.Assign _ _ _ :: Stmt.Assign _ _ _ :: rest) (H := fun S => ∀ (σ : Sig) (m M : Int), m ∈ hoursOf ns → (∀ x ∈ hoursOf ns, m ≤ x) → M ∈ hoursOf ns → (∀ x ∈ hoursOf ns, x ≤ M) → Sle σ ⟨m1 (hoursOf ns) (natureOf ns) m M, L⟩ → AX c (n + 4) (withScope (S) e) rest σ Q) rfl rfl he (fun σ m M a1 a2 a3 a4 hs => AX.weaken (h m M a1 a2 a3 a4).h hs) ?_
  clear h he
  intro he h'
  refine AX.assignCompF (min := []) ⟨rfl, rfl, rfl, (AllGet.sle (L := fun _ => Option.none) (by repeat' (first | exact trivial | refine ⟨rfl, ?_⟩))).1, isf_of rfl, rfl⟩ ?_ ⟨rfl, .inl rfl⟩ (by rfl) (by intro _; rfl)
  refine AEI.data ?_
  walk_at "W"
  refine AE.listF ?_
  walk_at "W"
  refine AE.neg ?_
  walk_at "W"
  refine ⟨_, rfl, ?_⟩
  walk_at "W"
  refine ⟨by simp, ?_⟩
  refine AO.addL (es := twelve.map D.int) (.inl rfl) (.inl rfl) (by simp [twelve]; omega) ?_
  refine AP.none ?_
  refine AP.some ?_
  walk_at "W"
  refine ⟨_, rfl, ?_⟩
  refine AP.none ?_
  refine ASl.upto (.inl rfl) (by decide) (by simp [twelve]; omega) ?_
  refine AI.lst ?_
  rw [← List.map_append, ← List.map_take]
  refine ⟨rfl, by simp; omega, fun e' he' => ?_⟩
  refine ACmp.map (inD := D.int) (outD := fun x => .int (numI x)) (m₀ := []) (L₀ := L) (fun x => ?_) _ (Sle.refl _) ?_
  · refine AS.name ?_ ⟨rfl, .inl rfl⟩
    walk_at "W"
    refine AE.callFn (AE.glob (g_law_number B) ⟨_, rfl, ⟨_, _, B.K 178 _ rfl, rfl⟩, ?_⟩)
    walk_at "W"
    refine AC.eq (number_ok B) ?_
    refine ⟨rfl, ?_⟩
    walk_at "sle"
  · intro σ' hs'
    have e1 : ((ns ++ twelve).take 12).map (fun x => D.int (numI x)) = (hoursOf ns).map D.int := by unfold hoursOf; rw [List.map_map]; rfl
    have e2 : (((12 : Int)).toNat) = 12 := rfl
    rw [e2, e1]
    obtain ⟨ms, Ls⟩ := σ'
    walk_at "W"
    refine AE.callB (AE.built (b_sum B) ⟨rfl, ?_⟩)
    walk_at "W"
    refine AB.sumL (ns := ns) (.inl rfl) ?_
    walk_at "W"
    refine AO.fmod (by decide) ?_
    rw [hsum]
    walk_at "W"
    refine AE.callB (AE.built (b_min B) ⟨rfl, ?_⟩)
    walk_at "W"
    refine AB.minL (ns := hoursOf ns) (.inl rfl) hne fun m a1 a2 => ?_
    walk_at "W"
    refine AE.callB (AE.built (b_max B) ⟨rfl, ?_⟩)
    walk_at "W"
    refine AB.maxL (ns := hoursOf ns) (.inl rfl) hne fun M a3 a4 => ?_
    walk_at "W"
    refine AE.callFn (AE.glob (g_law_spans B) ⟨_, rfl, ⟨_, _, B.K 183 _ rfl, rfl⟩, ?_⟩)
    walk_at "W"
    refine AC.eq (spans_ok B hlen) ?_
    walk_at "A"
    refine h' _ m M a1 a2 a3 a4 ⟨?_, fun a x hx => hs'.2 a x hx⟩
    exact (AllGet.sle (L := L) (by repeat' (first | exact trivial | refine ⟨rfl, ?_⟩))).1
end
end
section
open PySem PySem.W PyProof.Rows
set_option maxRecDepth 10000

section
variable {c : Cx} {n : Nat} {env : Env} {σ : Sig} {target elt : Expr} {E : List D → Sig → Prop}
theorem AO.neInts {d₁ d₂ : D} {xs ys : List Int} {Q : D → Sig → Prop} (h1 : LstD σ d₁ (xs.map D.int)) (h2 : LstD σ d₂ (ys.map D.int)) (hxy : xs = ys) (h : Q (.bool false) σ) : AO c n env (compareOp .NotEq) Rep d₁ d₂ σ Q := by
  subst hxy
  refine AO.neL h1 h2 rfl (fun i d e h1 h2 => ?_) h
  rw [h1] at h2
  rw [List.getElem?_map] at h1
  cases q : xs[i]? with
  | none => rw [q] at h1; cases h1
  | some x => rw [q] at h1; cases h1; cases h2; exact EqD.int x
end
section
variable {c : Cx} {n : Nat} {L : Addr → Option Cel} {e : Env} {Q : F → Sig → Prop} {rest : List Stmt}
theorem law_2 (B : BaseOk c) (he : Cls (lawSc c.w.params) e) {hs : List Int} {k : Nat} {m M : Int} (hk : k < 16)
    (h : LX c (n + 4) e rest ⟨m1 hs k m M, L⟩ Q) :
    LX c (n + 4) e (stm c.w.params 5 :: stm c.w.params 6 :: rest) ⟨m1 hs k m M, L⟩ Q := by
  obtain ⟨hl1, hl2⟩ := spans_length (hs := hs) (kind := k)
  have hfirst := spans_first (hs := hs) hk
  have hlast := spans_last (hs := hs) hk
  refine seg_in (S' := ⟨_, _, _, _, _⟩) (X' := Stmt.If _ _ _ _ :: Stmt.If _ _ _ _ :: rest) (H := fun S => ∀ σ : Sig, Sle σ ⟨m1 hs k m M, L⟩ → AX c (n + 4) (withScope (S) e) rest σ Q) rfl rfl he (fun σ hs => AX.weaken h.h hs) ?_
  clear h he
  intro he h'
  generalize hsp : spansOf hs k = sp at *
  walk_at "W"
  refine AE.compF (min := []) ⟨rfl, rfl, rfl, (AllGet.sle (L := fun _ => Option.none) (by repeat' (first | exact trivial | refine ⟨rfl, ?_⟩))).1, isf_of rfl, rfl⟩ ?_ (by intro _; rfl)
  refine AEI.data ?_
  walk_at "W"
  rw [hsp]
  refine AI.lst ?_
  refine ⟨rfl, by simp; (first | lia | omega), fun e' he' => ?_⟩
  refine ACmp.mapM (inD := spD) (outD := fun x => .str (tx [x.2.getD 0 0])) (m₀ := []) (L₀ := L) sp (fun x hx => ?_) (Sle.refl _) ?_
  · obtain ⟨q1, q2⟩ := hfirst x hx
    refine AS.pair ?_ ⟨rfl, .inl rfl⟩ ⟨rfl, .inl rfl⟩
    walk_at "W"
    refine AO.itemS (ch := x.2.getD 0 0) (by decide) (by decide) ?_ ?_
    · show x.2[0]? = _
      rw [List.getD_eq_getElem?_getD, List.getElem?_eq_getElem (by (first | lia | omega))]; rfl
    · refine ⟨rfl, ?_⟩
      walk_at "sle"
  · intro σ' hs'
    obtain ⟨ms, Ls⟩ := σ'
    walk_at "W"
    refine AE.listF ?_
    refine AA.cons ?_ (by rfl)
    refine AE.sub ?_
    refine AE.strT (l := kinds16) (by kernel_rfl) ?_
    walk_at "W"
    refine AO.itemS (ch := kinds16.getD k 0) (by (first | lia | omega)) (by (first | lia | omega)) ?_ ?_
    · rw [Int.toNat_natCast, List.getD_eq_getElem?_getD, List.getElem?_eq_getElem (by exact hk)]; rfl
    walk_at "W"
    refine ⟨by simp, ?_⟩
    refine AE.callB (AE.built (b_len B) ⟨rfl, ?_⟩)
    walk_at "W"
    rw [hsp]
    refine AB.len (.inl rfl) (by simp; (first | lia | omega)) ?_
    refine AO.mulL (.inl rfl) (by (first | lia | omega)) (by simp; (first | lia | omega)) (by simp) ?_
    refine AO.neL (.inl rfl) (.inl rfl) (by simp) ?_ ⟨false, rfl, if_ff ?_⟩
    · intro i d e h1 h2
      rw [List.getElem?_map] at h1
      cases q : sp[i]? with
      | none => rw [q] at h1; cases h1
      | some x =>
        rw [q] at h1; cases h1
        have hx : x ∈ sp := List.mem_of_getElem? q
        have h3 : e ∈ (List.replicate ((List.map spD sp).length : Int).toNat [D.str (tx [kinds16.getD k 0])]).flatten := List.mem_of_getElem? h2
        obtain ⟨l, hl, he⟩ := List.mem_flatten.mp h3
        rw [(List.mem_replicate.mp hl).2] at he
        have : e = D.str (tx [kinds16.getD k 0]) := by simpa using he
        rw [this, ← (hfirst x hx).2]
        exact EqD.str _
    · have hsl : Sle ⟨m1 hs k m M, Ls⟩ ⟨m1 hs k m M, L⟩ := ⟨fun _ _ e => e, hs'.2⟩
      walk_at "W"
      refine AE.neg ?_
      walk_at "W"
      refine ⟨_, rfl, ?_⟩
      rw [hsp]
      have hlast' : (sp.map spD)[(-1 + ((sp.map spD).length : Int)).toNat]? = some (spD (0, txt k [])) := by
        rw [List.length_map, List.getElem?_map, show (-1 + (sp.length : Int)).toNat = sp.length - 1 from by (first | lia | omega), ← List.getLast?_eq_getElem?, hlast]; rfl
      refine AO.itemN (.inl rfl) (by decide) (by simp; (first | lia | omega)) (by decide) hlast' ?_
      walk_at "W"
      refine AO.itemT (by decide) (by decide) rfl ?_
      refine AP.some ?_
      walk_at "W"
      refine ⟨_, rfl, ?_⟩
      refine AP.none ?_
      refine AP.none ?_
      refine ASl.strFrom (a := 1) (show 1 ≤ 10 by decide) (show 10 ≤ 1000 by decide) ?_
      refine AE.strT (l := [45, 45, 45, 45, 45, 45, 45, 45, 45]) (by kernel_rfl) ?_
      refine AO.neS ?_
      rw [txt_nil]
      refine ⟨_, rfl, if_ff ?_⟩
      exact h' _ hsl
end
end
section
open PySem PySem.W PyProof.Rows
set_option maxRecDepth 10000

theorem drop_cons {α : Type} {l r : List α} {d : α} {j : Nat} (h : d :: r = l.drop j) : l[j]? = some d ∧ r = l.drop (j + 1) := by
  have h1 : (l.drop j)[0]? = some d := by rw [← h]; rfl
  rw [List.getElem?_drop, Nat.add_zero] at h1
  refine ⟨h1, ?_⟩
  have h2 : (l.drop j).drop 1 = r := by rw [← h]; rfl
  rw [← h2, List.drop_drop]
section
variable {c : Cx} {n : Nat} {L : Addr → Option Cel} {e : Env} {Q : F → Sig → Prop} {rest : List Stmt}
theorem law_3 (B : BaseOk c) (he : Cls (lawSc c.w.params) e) {hs : List Int} {k : Nat} {m M : Int} (hl : hs.length = 12) (hk : k < 16) (a1 : m ∈ hs) (a2 : ∀ x ∈ hs, m ≤ x) (a3 : M ∈ hs) (a4 : ∀ x ∈ hs, x ≤ M)
    (h : LX c (n + 4) e rest ⟨m1 hs k m M, L⟩ Q) :
    LX c (n + 4) e (stm c.w.params 7 :: rest) ⟨m1 hs k m M, L⟩ Q := by
  have hdue := fun pl (hpl : pl < 9) => spans_due hl hk a1 a2 a3 a4 (pl := pl) hpl
  obtain ⟨hl1, hl2⟩ := spans_length (hs := hs) (kind := k)
  have hfirst := spans_first (hs := hs) hk
  have hdl : (dueOf hs (m - 1) M 3).length = 9 := rfl
  refine seg_in (S' := ⟨_, _, _, _, _⟩) (X' := Stmt.For _ _ _ _ _ :: rest) (H := fun S => ∀ σ : Sig, Sle σ ⟨m1 hs k m M, L⟩ → AX c (n + 4) (withScope (S) e) rest σ Q) rfl rfl he (fun σ hs => AX.weaken h.h hs) ?_
  clear h he
  intro he h'
  unfold m1 at *
  generalize hsp : spansOf hs k = sp at *
  refine AX.for_ (AEI.enum (AE.built (b_enumerate B) ⟨rfl, ?_⟩) (by rfl) (by rfl)) (by intro _; rfl)
  refine AE.callFn (AE.glob (g_law_signs B) ⟨_, rfl, ⟨_, _, B.K 190 _ rfl, rfl⟩, ?_⟩)
  walk_at "W"
  refine AC.eq (signs_ok B hl) ?_
  refine ⟨_, .inl rfl, ?_⟩
  generalize dueOf hs (m - 1) M 3 = due at *
  refine AFor.ind (fun items σ => ∃ j, j ≤ 9 ∧ items = (enums (due.map sgsD)).drop j ∧ Sle σ ⟨_, L⟩) ⟨0, by (first | lia | omega), rfl, Sle.refl _⟩ ?_ ?_
  · rintro σ ⟨j, hj, hit, hs'⟩
    exact h' σ hs'
  · rintro d ds σ ⟨j, hj, hit, hs'⟩
    obtain ⟨h1, h2⟩ := drop_cons hit
    obtain ⟨x, h3, rfl⟩ := enums_at h1
    rw [List.getElem?_map] at h3
    cases q : due[j]? with
    | none => rw [q] at h3; cases h3
    | some w =>
      rw [q] at h3; cases h3
      have hj9 : j < 9 := by
        rw [← hdl]; exact (List.getElem?_eq_some_iff.mp q).1
      have hw : due.getD j [] = w := by rw [List.getD_eq_getElem?_getD, q]; rfl
      have hd := hdue j hj9
      rw [hw] at hd
      refine AS.weaken ?_ hs'
      refine AS.pair ?_ ⟨rfl, .inr ⟨rfl, he _ rfl⟩⟩ ⟨rfl, .inl rfl⟩
      walk_at "A"
      refine AX.for_ (AEI.data ?_) (by intro _; rfl)
      refine AE.name (d := sgsD w) rfl ?_
      refine AI.lst ?_
      refine AFor.ind (fun items σ => ∃ zs : List Sg, items = zs.map sgD ∧ (∀ z ∈ zs, z ∈ w) ∧ Sle σ ⟨[(Str.ofString "hours", .lst (hs.map D.int)), (Str.ofString "nature", .int k), (Str.ofString "dawn", .int (m - 1)), (Str.ofString "dusk", .int M), (Str.ofString "spans", .lst (sp.map spD)), (Str.ofString "place", .int j)], L⟩) ⟨w, rfl, fun _ h => h, ?_⟩ ?_ ?_
      · walk_at "sle"
      · rintro σ₁ ⟨zs, hz, hzw, hs1⟩
        refine AX.nil ?_
        refine ⟨j + 1, by (first | lia | omega), h2, ?_⟩
        refine ⟨fun x d hx => hs1.1 x d ?_, hs1.2⟩
        exact (AllGet.sle (L := fun _ => Option.none) (by repeat' (first | exact trivial | refine ⟨rfl, ?_⟩))).1 x d hx
      · rintro d ds' σ₁ ⟨zs, hz, hzw, hs1⟩
        cases zs with
        | nil => cases hz
        | cons z zs =>
          obtain ⟨rfl, rfl⟩ := List.cons.inj hz
          have hsum := hd z (hzw z List.mem_cons_self)
          refine AS.weaken ?_ hs1
          refine AS.pair ?_ ⟨rfl, .inr ⟨rfl, he _ rfl⟩⟩ ⟨rfl, .inl rfl⟩
          walk_at "W"
          refine AE.callB (AE.built (b_sum B) ⟨rfl, ?_⟩)
          refine AA.cons ?_ (by rfl)
          refine AE.compF (min := [(Str.ofString "place", .int j), (Str.ofString "letter", .str (tx [z.1]))]) ⟨rfl, rfl, rfl, (AllGet.sle (L := fun _ => Option.none) (by repeat' (first | exact trivial | refine ⟨rfl, ?_⟩))).1, isf_of rfl, rfl⟩ ?_ (by intro _; rfl)
          refine AEI.data ?_
          walk_at "W"
          refine AI.lst ?_
          refine ⟨rfl, by simp; (first | lia | omega), fun e' he' => ?_⟩
          refine ACmp.filterMapM (inD := spD) (f := fun s => s.2.getD (j + 1) 0 == z.1) (outD := fun s => .int s.1) (m₀ := [(Str.ofString "place", .int j), (Str.ofString "letter", .str (tx [z.1]))]) (L₀ := L) sp (fun x hx => ?_) (Sle.refl _) ?_
          · obtain ⟨q1, q2⟩ := hfirst x hx
            refine AS.pair ?_ ⟨rfl, .inl rfl⟩ ⟨rfl, .inl rfl⟩
            walk_at "W"
            refine AO.itemS (ch := x.2.getD (j + 1) 0) (by (first | lia | omega)) (by (first | lia | omega)) ?_ ?_
            · rw [show ((j : Int) + 1).toNat = j + 1 from by (first | lia | omega), List.getD_eq_getElem?_getD, List.getElem?_eq_getElem (by (first | lia | omega))]; rfl
            walk_at "W"
            refine AO.eqS ?_
            refine ⟨_, rfl, by simp, ?_, fun _ => ?_⟩
            · walk_at "sle"
            · walk_at "W"
              refine ⟨rfl, ?_⟩
              walk_at "sle"
          · intro σ₂ hs2
            obtain ⟨ms, Ls⟩ := σ₂
            walk_at "W"
            refine AB.sumL (ns := (sp.filter fun s => s.2.getD (j + 1) 0 == z.1).map (·.1)) (.inl (by rw [List.map_map]; rfl)) ?_
            rw [hsum]
            walk_at "W"
            rw [bne_self_eq_false]
            refine ⟨_, rfl, if_ff ?_⟩
            refine AX.nil ?_
            refine ⟨zs, rfl, fun y hy => hzw y (List.mem_cons_of_mem _ hy), ?_, hs2.2⟩
            exact (AllGet.sle (L := fun _ => Option.none) (by repeat' (first | exact trivial | refine ⟨rfl, ?_⟩))).1
end
end
section
open PySem PySem.W PyProof.Rows
section
variable {c : Cx} {n : Nat} {L : Addr → Option Cel} {ns ss : List Int}
theorem medLow_eq (B : BaseOk c) (h0 : 0 < ns.length) (h64 : ns.length < 64) (hp : ss.Perm ns) (hs : ss.Pairwise (· ≤ ·)) : AC c (n + 1) (.ref 156) [.lst (ns.map D.int)] [] L (fun d L' => d = .int (ss.getD ((ns.length - 1) / 2) 0) ∧ L' = L) :=
  AC.mono (medianLow_ok B h0 h64) fun _ _ ⟨⟨s1, p1, o1, e⟩, q⟩ => ⟨by rw [e, sorted_eq o1 hs (p1.trans hp.symm)], q⟩
theorem medHigh_eq (B : BaseOk c) (h0 : 0 < ns.length) (h64 : ns.length < 64) (hp : ss.Perm ns) (hs : ss.Pairwise (· ≤ ·)) : AC c (n + 1) (.ref 163) [.lst (ns.map D.int)] [] L (fun d L' => d = .int (ss.getD (ns.length / 2) 0) ∧ L' = L) :=
  AC.mono (medianHigh_ok B h0 h64) fun _ _ ⟨⟨s1, p1, o1, e⟩, q⟩ => ⟨by rw [e, sorted_eq o1 hs (p1.trans hp.symm)], q⟩
theorem nlarge_eq (B : BaseOk c) {k : Nat} (hl : ns.length ≤ 12) (h2 : 2 ≤ k) (hk : k ≤ ns.length) (hp : ss.Perm ns) (hs : ss.Pairwise (· ≤ ·)) : AC c (n + 4) (.ref 136) [.int k, .lst (ns.map D.int)] [] L (fun d L' => d = .lst ((ss.reverse.take k).map D.int) ∧ L' = L) :=
  AC.mono (nlargest_ok B hl h2 hk) fun _ _ ⟨⟨ys, hy, e⟩, q⟩ => ⟨by rw [e, most_eq hy hp hs], q⟩
theorem nsmall_eq (B : BaseOk c) {k : Nat} (hl : ns.length ≤ 12) (h2 : 2 ≤ k) (hk : k ≤ ns.length) (hp : ss.Perm ns) (hs : ss.Pairwise (· ≤ ·)) : AC c (n + 4) (.ref 130) [.int k, .lst (ns.map D.int)] [] L (fun d L' => d = .lst ((ss.take k).map D.int) ∧ L' = L) :=
  AC.mono (nsmallest_ok B hl h2 hk) fun _ _ ⟨⟨ys, hy, e⟩, q⟩ => ⟨by rw [e, least_eq hy hp hs], q⟩
theorem quantEx_eq (B : BaseOk c) {k : Nat} {P : List Int → Nat → Int} (hl : ns.length = 12) (hk : 2 ≤ k) (hk' : k < 100) (hp : ss.Perm ns) (hs : ss.Pairwise (· ≤ ·))
    (hP : ∀ i, 1 ≤ i → i < k → 2 * exN ss k i = k * P ss i ∧ (P ss i).natAbs < 2 ^ 53) :
    AC c (n + 1) (.ref 171) [.lst (ns.map D.int)] [(Str.ofString "n", .int k)] L (fun d L' => d = .lst ((List.range (k - 1)).map fun i => .flt (half (P ss (i + 1)))) ∧ L' = L) :=
  AC.mono (quantEx_ok B (P := P) hl hk hk' fun xs q1 q2 => by rw [sorted_eq q2 hs (q1.trans hp.symm)]; exact hP) fun _ _ ⟨⟨s1, p1, o1, e⟩, q⟩ => ⟨by rw [e, sorted_eq o1 hs (p1.trans hp.symm)], q⟩
theorem quantIn_eq (B : BaseOk c) {k : Nat} {P : List Int → Nat → Int} (hl : ns.length = 12) (hk : 2 ≤ k) (hk' : k < 100) (hp : ss.Perm ns) (hs : ss.Pairwise (· ≤ ·))
    (hP : ∀ i, 1 ≤ i → i < k → 2 * inN ss k i = k * P ss i ∧ (P ss i).natAbs < 2 ^ 53) :
    AC c (n + 1) (.ref 171) [.lst (ns.map D.int)] [(Str.ofString "n", .int k), (Str.ofString "method", .str (tx [105, 110, 99, 108, 117, 115, 105, 118, 101]))] L (fun d L' => d = .lst ((List.range (k - 1)).map fun i => .flt (half (P ss (i + 1)))) ∧ L' = L) :=
  AC.mono (quantIn_ok B (P := P) hl hk hk' fun xs q1 q2 => by rw [sorted_eq q2 hs (q1.trans hp.symm)]; exact hP) fun _ _ ⟨⟨s1, p1, o1, e⟩, q⟩ => ⟨by rw [e, sorted_eq o1 hs (p1.trans hp.symm)], q⟩
end
end
section
open PySem PySem.W PyProof.Rows
set_option maxRecDepth 10000

noncomputable abbrev m4 (hs : List Int) (k : Nat) (m : Int) (ss : List Int) : List (Str × D) :=
  [(Str.ofString "hours", .lst (hs.map D.int)), (Str.ofString "nature", .int k), (Str.ofString "dawn", .int (m - 1)), (Str.ofString "spans", .lst ((spansOf hs k).map spD)), (Str.ofString "levels", .lst (ss.reverse.map D.int))]
theorem Sle.mk2 {m m' m₁ m₂ : List (Str × D)} {Ls L : Addr → Option Cel} (h1 : ∀ x d, get x m' = some d → get x m = some d) (h2 : ∀ a x, (Sig.mk m₂ L).L a = some x → (Sig.mk m₁ Ls).L a = some x) : Sle ⟨m, Ls⟩ ⟨m', L⟩ := ⟨h1, h2⟩
theorem levels_list {hs ss : List Int} {k : Nat} {m : Int} (hl : hs.length = 12) (hk : k < 16) (a1 : m ∈ hs) (a2 : ∀ x ∈ hs, m ≤ x) (hp : ss.Perm hs) (hss : ss.Pairwise (· ≤ ·)) :
    ((List.range 12).map fun (i : Nat) => D.int (levelAt (m - 1) ((spansOf hs k).map fun s => (s.1, ((s.2.drop 1).map shown1).sum)) ((i : Int) + 1))) = ss.reverse.map D.int := by
  rw [rev12 (by rw [hp.length_eq, hl]), List.map_map]
  have key : ∀ i ∈ List.range 12, D.int (levelAt (m - 1) ((spansOf hs k).map fun s => (s.1, ((s.2.drop 1).map shown1).sum)) ((i : Int) + 1)) = (D.int ∘ fun i => ss.getD (11 - i) 0) i := fun i hi => by
    rw [level_all hl hk a1 a2 hp hss (List.mem_range.mp hi)]; rfl
  exact List.map_congr_left key
section
variable {c : Cx} {n : Nat} {L : Addr → Option Cel} {e : Env} {Q : F → Sig → Prop} {rest : List Stmt}
theorem law_4 (B : BaseOk c) (he : Cls (lawSc c.w.params) e) {hs ss : List Int} {k : Nat} {m M : Int} (hl : hs.length = 12) (hk : k < 16) (a1 : m ∈ hs) (a2 : ∀ x ∈ hs, m ≤ x) (hp : ss.Perm hs) (hss : ss.Pairwise (· ≤ ·))
    (h : LX c (n + 4) e rest ⟨m4 hs k m ss, L⟩ Q) :
    LX c (n + 4) e (stm c.w.params 8 :: stm c.w.params 9 :: stm c.w.params 10 :: rest) ⟨m1 hs k m M, L⟩ Q := by
  obtain ⟨hl1, hl2⟩ := spans_length (hs := hs) (kind := k)
  have hfirst := spans_first (hs := hs) hk
  have hlev := levels_list hl hk a1 a2 hp hss
  have hsl : ss.length = 12 := by rw [hp.length_eq, hl]
  refine seg_in (S' := ⟨_, _, _, _, _⟩) (X' := Stmt.Assign _ _ _ :: Stmt.Assign _ _ _ :: Stmt.If _ _ _ _ :: rest) (H := fun S => ∀ σ : Sig, Sle σ ⟨m4 hs k m ss, L⟩ → AX c (n + 4) (withScope (S) e) rest σ Q) rfl rfl he (fun σ hs => AX.weaken h.h hs) ?_
  clear h he
  intro he h'
  unfold m1 m4 at *
  generalize hsp : spansOf hs k = sp at *
  refine AX.assign ?_ ⟨rfl, .inr ⟨rfl, he _ rfl⟩⟩ (by rfl)
  refine AE.callFn (AE.glob (g_law_levels B) ⟨_, rfl, ⟨_, _, B.K 200 _ rfl, rfl⟩, ?_⟩)
  walk_at "W"
  refine AE.compF (min := []) ⟨rfl, rfl, rfl, (AllGet.sle (L := fun _ => Option.none) (by repeat' (first | exact trivial | refine ⟨rfl, ?_⟩))).1, isf_of rfl, rfl⟩ ?_ (by intro _; rfl)
  refine AEI.data ?_
  walk_at "W"
  refine AI.lst ?_
  refine ⟨rfl, by simp; (first | lia | omega), fun e' he' => ?_⟩
  refine ACmp.mapM (inD := spD) (outD := fun s => pr (s.1, ((s.2.drop 1).map shown1).sum)) (m₀ := []) (L₀ := L) sp (fun x hx => ?_) (Sle.refl _) ?_
  · obtain ⟨q1, q2⟩ := hfirst x hx
    refine AS.pair ?_ ⟨rfl, .inl rfl⟩ ⟨rfl, .inl rfl⟩
    walk_at "A"
    refine AE.tuple ?_
    walk_at "W"
    refine AE.callFn (AE.glob (g_law_shown B) ⟨_, rfl, ⟨_, _, B.K 195 _ rfl, rfl⟩, ?_⟩)
    walk_at "W"
    refine AP.some ?_
    walk_at "W"
    refine ⟨_, rfl, ?_⟩
    refine AP.none ?_
    refine AP.none ?_
    refine ASl.strFrom (a := 1) (by (first | lia | omega)) (by (first | lia | omega)) ?_
    walk_at "W"
    refine AC.eq (shown_ok B (by simp; (first | lia | omega))) ?_
    walk_at "W"
    refine ⟨by simp, rfl, ?_⟩
    walk_at "sle"
  · intro σ' hs'
    obtain ⟨ms, Ls⟩ := σ'
    walk_at "W"
    have e1 : sp.map (fun s => pr (s.1, ((s.2.drop 1).map shown1).sum)) = (sp.map fun s => (s.1, ((s.2.drop 1).map shown1).sum)).map pr := by rw [List.map_map]; rfl
    rw [e1]
    refine AC.eq (levels_ok B (most := 12) (by decide) (by simp; (first | lia | omega))) ?_
    rw [hlev]
    walk_at "W"
    refine AO.fmod (by decide) ?_
    walk_at "W"
    rw [show (2 : Int) + (k : Int).fmod 11 = ((2 + k % 11 : Nat) : Int) from by rw [Int.fmod_eq_emod_of_nonneg _ (by decide)]; (first | lia | omega)]
    have hfew : 2 ≤ 2 + k % 11 ∧ 2 + k % 11 ≤ 12 := by (first | lia | omega)
    generalize 2 + k % 11 = few at *
    walk_at "W"
    refine AE.callFn (AE.glob (g_nlargest B) ⟨_, rfl, ⟨_, _, B.K 136 _ rfl, rfl⟩, ?_⟩)
    walk_at "W"
    refine AC.eq (nlarge_eq B (by (first | lia | omega)) hfew.1 (by (first | lia | omega)) hp hss) ?_
    walk_at "W"
    refine AP.none ?_
    refine AP.some ?_
    walk_at "W"
    refine ⟨_, rfl, ?_⟩
    refine AP.none ?_
    refine ASl.upto (.inl rfl) (by (first | lia | omega)) (by simp; (first | lia | omega)) ?_
    refine AO.neInts (ys := ss.reverse.take few) (.inl rfl) (.inl (by rw [Int.toNat_natCast, List.map_take])) rfl ⟨false, rfl, if_ff ?_⟩
    walk_at "W"
    refine AE.callFn (AE.glob (g_nsmallest B) ⟨_, rfl, ⟨_, _, B.K 130 _ rfl, rfl⟩, ?_⟩)
    walk_at "W"
    refine AC.eq (nsmall_eq B (by (first | lia | omega)) hfew.1 (by (first | lia | omega)) hp hss) ?_
    walk_at "W"
    refine AP.none ?_
    refine AP.none ?_
    refine AP.some ?_
    refine AE.neg ?_
    walk_at "W"
    refine ⟨_, rfl, _, rfl, ?_⟩
    refine ASl.rev (.inl rfl) (by simp; (first | lia | omega)) ?_
    refine AP.none ?_
    refine AP.some ?_
    walk_at "W"
    refine ⟨_, rfl, ?_⟩
    refine AP.none ?_
    refine ASl.upto (.inl rfl) (by (first | lia | omega)) (by simp; (first | lia | omega)) ?_
    refine AO.neInts (ys := ss.take few) (.inl rfl) (.inl (by rw [Int.toNat_natCast, ← List.map_reverse, List.reverse_reverse, List.map_take])) rfl ⟨false, rfl, if_ff ?_⟩
    refine h' _ ?_
    refine Sle.mk2 ?_ hs'.2
    exact (AllGet.sle (L := fun _ => Option.none) (by repeat' (first | exact trivial | refine ⟨rfl, ?_⟩))).1
end
end
section
open PySem PySem.W PyProof.Rows
set_option maxRecDepth 10000

section
variable {c : Cx} {n : Nat} {L : Addr → Option Cel} {e : Env} {Q : F → Sig → Prop} {rest : List Stmt}
theorem law_5 (B : BaseOk c) (he : Cls (lawSc c.w.params) e) {hs ss : List Int} {k : Nat} {m : Int} (hl : hs.length = 12) (hp : ss.Perm hs) (hss : ss.Pairwise (· ≤ ·)) (hb : ∀ x ∈ hs, x.natAbs < 2 ^ 40)
    (h : LX c (n + 4) e rest ⟨m4 hs k m ss, L⟩ Q) :
    LX c (n + 4) e (stm c.w.params 11 :: stm c.w.params 12 :: rest) ⟨m4 hs k m ss, L⟩ Q := by
  have hsl : ss.length = 12 := by rw [hp.length_eq, hl]
  have hb' : ∀ x ∈ ss, x.natAbs < 2 ^ 40 := fun x h => hb x (hp.mem_iff.mp h)
  refine seg_in (S' := ⟨_, _, _, _, _⟩) (X' := Stmt.If _ _ _ _ :: Stmt.If _ _ _ _ :: rest) (H := fun S => ∀ σ : Sig, Sle σ ⟨m4 hs k m ss, L⟩ → AX c (n + 4) (withScope S e) rest σ Q) rfl rfl he (fun σ hs => AX.weaken h.h hs) ?_
  clear h he
  intro he h'
  unfold m4 at *
  generalize hsp : spansOf hs k = sp at *
  walk_at "W"
  refine AE.listF ?_
  refine AA.cons ?_ (by rfl)
  refine AE.callFn (AE.glob (g_median_high B) ⟨_, rfl, ⟨_, _, B.K 163 _ rfl, rfl⟩, ?_⟩)
  walk_at "W"
  refine AC.eq (medHigh_eq B (by (first | lia | omega)) (by (first | lia | omega)) hp hss) ?_
  refine AA.cons ?_ (by rfl)
  refine AE.callFn (AE.glob (g_median_low B) ⟨_, rfl, ⟨_, _, B.K 156 _ rfl, rfl⟩, ?_⟩)
  walk_at "W"
  refine AC.eq (medLow_eq B (by (first | lia | omega)) (by (first | lia | omega)) hp hss) ?_
  walk_at "W"
  refine ⟨by simp, ?_⟩
  walk_at "W"
  refine AP.some ?_
  walk_at "W"
  refine ⟨_, rfl, ?_⟩
  refine AP.some ?_
  walk_at "W"
  refine ⟨_, rfl, ?_⟩
  refine AP.none ?_
  refine ASl.run (a := 5) (b := 7) (.inl rfl) (by decide) (by simp; (first | lia | omega)) (by simp; (first | lia | omega)) ?_
  refine AO.neInts (xs := [ss.getD 6 0, ss.getD 5 0]) (ys := (ss.reverse.drop 5).take 2) (.inl (by rw [hl]; rfl)) (.inl (by rw [List.map_take, List.map_drop])) (by rw [rev12 hsl]; rfl) ⟨false, rfl, if_ff ?_⟩
  walk_at "W"
  refine AE.callFnK (xs := [Str.ofString "n"]) rfl (AE.glob (g_quantiles B) ⟨_, rfl, ⟨_, _, B.K 171 _ rfl, rfl⟩, ?_⟩)
  walk_at "W"
  refine AK.cons ?_
  walk_at "W"
  refine AK.nil ?_
  refine ⟨rfl, ?_⟩
  refine AC.eq (quantEx_eq B (k := 13) (P := fun xs i => 2 * xs.getD (i - 1) 0) hl (by decide) (by decide) hp hss fun i h1 h2 => ex13 hb' h1 h2) ?_
  walk_at "W"
  refine AP.none ?_
  refine AP.none ?_
  refine AP.some ?_
  refine AE.neg ?_
  walk_at "W"
  refine ⟨_, rfl, _, rfl, ?_⟩
  refine ASl.rev (.inl rfl) (by simp; (first | lia | omega)) ?_
  refine AO.neL (.inl rfl) (.inl rfl) (by simp; (first | lia | omega)) ?_ ⟨false, rfl, if_ff ?_⟩
  · intro i d e h1 h2
    rw [← List.map_reverse, List.reverse_reverse, List.getElem?_map] at h2
    rw [List.getElem?_map] at h1
    have hi : i < 12 := by
      rcases Nat.lt_or_ge i 12 with q | q
      · exact q
      · rw [List.getElem?_eq_none (by simp; (first | lia | omega))] at h1; cases h1
    rw [List.getElem?_range (by (first | lia | omega))] at h1
    cases h1
    rw [List.getElem?_eq_getElem (by (first | lia | omega))] at h2
    cases h2
    have e1 : ss.getD (i + 1 - 1) 0 = ss[i] := by rw [Nat.add_sub_cancel, List.getD_eq_getElem?_getD, List.getElem?_eq_getElem (by (first | lia | omega))]; rfl
    show EqD (.flt (half (2 * ss.getD (i + 1 - 1) 0))) _
    rw [e1]
    have := hb' ss[i] (List.getElem_mem _)
    exact EqD.flt _ (dbl53 this)
  · walk_at "W"
    refine AE.compF (min := []) ⟨rfl, rfl, rfl, (AllGet.sle (L := fun _ => Option.none) (by repeat' (first | exact trivial | refine ⟨rfl, ?_⟩))).1, isf_of rfl, rfl⟩ ?_ (by intro _; rfl)
    refine AEI.data ?_
    refine AE.callFnK (xs := [Str.ofString "n"]) rfl (AE.glob (g_quantiles B) ⟨_, rfl, ⟨_, _, B.K 171 _ rfl, rfl⟩, ?_⟩)
    walk_at "W"
    refine AK.cons ?_
    walk_at "W"
    refine AK.nil ?_
    refine ⟨rfl, ?_⟩
    refine AC.eq (quantEx_eq B (k := 2) (P := fun xs i => xs.getD 5 0 + xs.getD 6 0) hl (by decide) (by decide) hp hss fun i h1 h2 => ex2 hb' h1 h2) ?_
    have b5 := getD_small (by decide) hb' 5
    have b6 := getD_small (by decide) hb' 6
    refine AI.lst ?_
    refine ⟨rfl, by simp, fun e' he' => ?_⟩
    refine ACmp.map (inD := fun (_ : Nat) => .flt (half (ss.getD 5 0 + ss.getD 6 0))) (outD := fun _ => .flt (half (2 * (ss.getD 5 0 + ss.getD 6 0)))) (m₀ := []) (L₀ := L) (fun x => ?_) (List.range 1) (Sle.refl _) ?_
    · refine AS.name ?_ ⟨rfl, .inl rfl⟩
      walk_at "W"
      refine AO.mulF (sum53 b5 b6) ?_
      refine ⟨rfl, ?_⟩
      walk_at "sle"
    · intro σ' hs'
      obtain ⟨ms, Ls⟩ := σ'
      walk_at "W"
      refine AE.listF ?_
      walk_at "W"
      refine AO.item (.inl rfl) (by decide) (by decide) (ints_at (i := 5) (by simp; (first | lia | omega))) ?_
      walk_at "W"
      refine AO.item (.inl rfl) (by decide) (by decide) (ints_at (i := 6) (by simp; (first | lia | omega))) ?_
      walk_at "W"
      refine ⟨by simp, ?_⟩
      have e5 : ss.reverse.getD 5 0 = ss.getD 6 0 := by rw [rev12 hsl]; rfl
      have e6 : ss.reverse.getD 6 0 = ss.getD 5 0 := by rw [rev12 hsl]; rfl
      rw [e5, e6]
      refine AO.neL (.inl rfl) (.inl rfl) rfl ?_ ⟨false, rfl, if_ff ?_⟩
      · intro i d e h1 h2
        have hi : i = 0 := by
          rcases Nat.lt_or_ge i 1 with q | q
          · (first | lia | omega)
          · rw [List.getElem?_eq_none (by simpa using q)] at h2; cases h2
        subst hi
        cases h1; cases h2
        rw [Int.add_comm (ss.getD 6 0)]
        exact EqD.flt _ (sum53 b5 b6)
      · exact h' _ (Sle.mk2 (fun _ _ q => q) hs'.2)
end
end
section
open PySem PySem.W PyProof.Rows
set_option maxRecDepth 10000

theorem rev_at {ss : List Int} (hl : ss.length = 12) {q : Nat} (hq : q ≤ 11) : ss.reverse.getD (11 - q) 0 = ss.getD q 0 := by
  rw [rev12 hl, List.getD_eq_getElem?_getD, List.getElem?_map, List.getElem?_range (by (first | lia | omega))]
  show ss.getD (11 - (11 - q)) 0 = _
  rw [show 11 - (11 - q) = q from by (first | lia | omega)]
section
variable {c : Cx} {n : Nat} {L : Addr → Option Cel} {e : Env} {Q : F → Sig → Prop} {rest : List Stmt}
theorem law_6 (B : BaseOk c) (he : Cls (lawSc c.w.params) e) {hs ss : List Int} {k : Nat} {m : Int} (hl : hs.length = 12) (hp : ss.Perm hs) (hss : ss.Pairwise (· ≤ ·)) (hb : ∀ x ∈ hs, x.natAbs < 2 ^ 40)
    (h : LX c (n + 4) e rest ⟨m4 hs k m ss, L⟩ Q) :
    LX c (n + 4) e (stm c.w.params 13 :: stm c.w.params 14 :: rest) ⟨m4 hs k m ss, L⟩ Q := by
  have hsl : ss.length = 12 := by rw [hp.length_eq, hl]
  have hb' : ∀ x ∈ ss, x.natAbs < 2 ^ 40 := fun x h => hb x (hp.mem_iff.mp h)
  refine seg_in (S' := ⟨_, _, _, _, _⟩) (X' := Stmt.Assign _ _ _ :: Stmt.If _ _ _ _ :: rest) (H := fun S => ∀ σ : Sig, Sle σ ⟨m4 hs k m ss, L⟩ → AX c (n + 4) (withScope S e) rest σ Q) rfl rfl he (fun σ hs => AX.weaken h.h hs) ?_
  clear h he
  intro he h'
  unfold m4 at *
  generalize hsp : spansOf hs k = sp at *
  refine AX.assignCompF (min := [(Str.ofString "levels", .lst (ss.reverse.map D.int))]) ⟨rfl, rfl, rfl, (AllGet.sle (L := fun _ => Option.none) (by repeat' (first | exact trivial | refine ⟨rfl, ?_⟩))).1, isf_of rfl, rfl⟩ ?_ ⟨rfl, .inl rfl⟩ (by rfl) (by intro _; rfl)
  refine AEI.data ?_
  refine AE.callT (AE.built (b_range B) ⟨rfl, ?_⟩)
  walk_at "W"
  refine AB.range2 ?_
  refine AI.up (by decide) (by decide) (by decide) ?_
  have e1 : steps 1 1 (((22 : Int) - 1).toNat) = (List.range 21).map fun (i : Nat) => D.int ((i : Int) + 1) := by
    unfold steps
    apply List.map_congr_left
    intro i _
    congr 1; (first | lia | omega)
  rw [e1]
  refine ⟨rfl, by simp, fun e' he' => ?_⟩
  refine ACmp.mapM (inD := fun (i : Nat) => D.int ((i : Int) + 1)) (outD := fun (i : Nat) => .int (ss.getD ((i + 1) / 2) 0 + ss.getD ((i + 2) / 2) 0)) (m₀ := [(Str.ofString "levels", .lst (ss.reverse.map D.int))]) (L₀ := L) (List.range 21) (fun i hi => ?_) (Sle.refl _) ?_
  · have hi' : i < 21 := List.mem_range.mp hi
    refine AS.name ?_ ⟨rfl, .inl rfl⟩
    walk_at "W"
    refine AO.fdiv (by decide) (by decide) ?_
    walk_at "W"
    rw [show (11 : Int) - ((i : Int) + 1).fdiv 2 = ((11 - (i + 1) / 2 : Nat) : Int) from by rw [Int.fdiv_eq_ediv_of_nonneg _ (by decide)]; (first | lia | omega)]
    refine AO.itemI (.inl rfl) (by (first | lia | omega)) (ints_at (i := 11 - (i + 1) / 2) (by simp; (first | lia | omega))) ?_
    walk_at "W"
    refine AO.fdiv (by decide) (by decide) ?_
    walk_at "W"
    rw [show (11 : Int) - ((i : Int) + 1 + 1).fdiv 2 = ((11 - (i + 2) / 2 : Nat) : Int) from by rw [Int.fdiv_eq_ediv_of_nonneg _ (by decide)]; (first | lia | omega)]
    refine AO.itemI (.inl rfl) (by (first | lia | omega)) (ints_at (i := 11 - (i + 2) / 2) (by simp; (first | lia | omega))) ?_
    walk_at "W"
    rw [rev_at hsl (q := (i + 1) / 2) (by (first | lia | omega)), rev_at hsl (q := (i + 2) / 2) (by (first | lia | omega))]
    refine ⟨rfl, ?_⟩
    walk_at "sle"
  · intro σ' hs'
    obtain ⟨ms, Ls⟩ := σ'
    walk_at "W"
    refine AE.compF (min := []) ⟨rfl, rfl, rfl, (AllGet.sle (L := fun _ => Option.none) (by repeat' (first | exact trivial | refine ⟨rfl, ?_⟩))).1, isf_of rfl, rfl⟩ ?_ (by intro _; rfl)
    refine AEI.data ?_
    refine AE.callFnK (xs := [Str.ofString "n", Str.ofString "method"]) rfl (AE.glob (g_quantiles B) ⟨_, rfl, ⟨_, _, B.K 171 _ rfl, rfl⟩, ?_⟩)
    walk_at "W"
    refine AK.cons ?_
    walk_at "W"
    refine AK.cons ?_
    refine AE.strT (l := [105, 110, 99, 108, 117, 115, 105, 118, 101]) (by kernel_rfl) ?_
    refine AK.nil ?_
    refine ⟨rfl, ?_⟩
    refine AC.eq (quantIn_eq B (k := 22) (P := fun xs i => xs.getD (i / 2) 0 + xs.getD ((i + 1) / 2) 0) hl (by decide) (by decide) hp hss fun i h1 h2 => in22 hb') ?_
    have bb := fun i => getD_small (by decide) hb' i
    refine AI.lst ?_
    refine ⟨rfl, by simp, fun e' he' => ?_⟩
    refine ACmp.map (inD := fun (i : Nat) => .flt (half (ss.getD ((i + 1) / 2) 0 + ss.getD ((i + 1 + 1) / 2) 0))) (outD := fun (i : Nat) => .flt (half (2 * (ss.getD ((i + 1) / 2) 0 + ss.getD ((i + 2) / 2) 0)))) (m₀ := []) (L₀ := Ls) (fun i => ?_) (List.range 21) (Sle.refl _) ?_
    · have b1 := bb ((i + 1) / 2)
      have b2 := bb ((i + 1 + 1) / 2)
      refine AS.name ?_ ⟨rfl, .inl rfl⟩
      walk_at "W"
      refine AO.mulF (sum53 b1 b2) ?_
      refine ⟨rfl, ?_⟩
      walk_at "sle"
    · intro σ₂ hs2
      obtain ⟨ms2, Ls2⟩ := σ₂
      walk_at "W"
      refine AO.neL (.inl rfl) (.inl rfl) rfl ?_ ⟨false, rfl, if_ff ?_⟩
      · intro i d e h1 h2
        rw [List.getElem?_map] at h1 h2
        cases q : (List.range 21)[i]? with
        | none => rw [q] at h1; cases h1
        | some x =>
          rw [q] at h1 h2; cases h1; cases h2
          have b1 := bb ((x + 1) / 2)
          have b2 := bb ((x + 2) / 2)
          exact EqD.flt _ (sum53 b1 b2)
      · refine h' _ (Sle.mk2 ?_ fun a x hx => hs2.2 a x (hs'.2 a x hx))
        exact (AllGet.sle (L := fun _ => Option.none) (by repeat' (first | exact trivial | refine ⟨rfl, ?_⟩))).1
end
end
section
open PySem PySem.W PyProof.Rows
set_option maxRecDepth 10000

theorem stands_list {hs ss : List Int} {k : Nat} {m : Int} (hl : hs.length = 12) (hk : k < 16) (a1 : m ∈ hs) (a2 : ∀ x ∈ hs, m ≤ x) {g : Nat} (hg : g < 3) (hp : ss.Perm (trio hs g)) (hss : ss.Pairwise (· ≤ ·)) :
    ((List.range 3).map fun (i : Nat) => D.int (levelAt (m - 1) ((spansOf hs k).map fun s => (s.1, (heldOf g s.2 : Int))) ((i : Int) + 1))) = ss.reverse.map D.int := by
  have h3 : ss.length = 3 := by rw [hp.length_eq]; rfl
  have key : ∀ i ∈ List.range 3, D.int (levelAt (m - 1) ((spansOf hs k).map fun s => (s.1, (heldOf g s.2 : Int))) ((i : Int) + 1)) = D.int (ss.getD (2 - i) 0) := fun i hi => by
    rw [level_trio hl hk a1 a2 hg hp hss (List.mem_range.mp hi)]
  rw [List.map_congr_left key]
  conv => rhs; rw [list3 h3]
  rfl
section
variable {c : Cx} {n : Nat} {L : Addr → Option Cel} {e : Env} {Q : F → Sig → Prop}
theorem law_7 (B : BaseOk c) (he : Cls (lawSc c.w.params) e) {hs ss : List Int} {k : Nat} {m : Int} (hl : hs.length = 12) (hk : k < 16) (a1 : m ∈ hs) (a2 : ∀ x ∈ hs, m ≤ x) (hQ : ∀ σ, Q (.ret (.bool true)) σ) :
    LX c (n + 4) e (stm c.w.params 15 :: stm c.w.params 16 :: []) ⟨m4 hs k m ss, L⟩ Q := by
  have hst := fun g (hg : g < 3) (s3 : List Int) (h1 : s3.Perm (trio hs g)) (h2 : s3.Pairwise (· ≤ ·)) => stands_list (k := k) hl hk a1 a2 hg h1 h2
  obtain ⟨hl1, hl2⟩ := spans_length (hs := hs) (kind := k)
  have hfirst := spans_first (hs := hs) hk
  refine seg_in (S' := ⟨_, _, _, _, _⟩) (X' := Stmt.For _ _ _ _ _ :: Stmt.Return _ _ :: []) (H := fun _ => True) rfl rfl he trivial ?_
  clear he
  intro he _
  unfold m4 at *
  generalize hsp : spansOf hs k = sp at *
  refine AX.for_ (AEI.data ?_) (by intro _; rfl)
  refine AE.callT (AE.built (b_range B) ⟨rfl, ?_⟩)
  walk_at "W"
  refine AB.range1 ?_
  refine AI.up (by decide) (by decide) (by decide) ?_
  refine AFor.up (m := 3) (fun j σ => Sle σ ⟨[(Str.ofString "hours", .lst (hs.map D.int)), (Str.ofString "dawn", .int (m - 1)), (Str.ofString "spans", .lst (sp.map spD))], L⟩) ?_ ?_ ?_
  · walk_at "sle"
  · intro σ hs'
    walk_at "W"
    exact hQ _
  · intro j σ hjl hs'
    rw [Int.zero_add]
    obtain ⟨s3, p3, o3⟩ : ∃ s3 : List Int, s3.Perm (trio hs j) ∧ s3.Pairwise (· ≤ ·) :=
      ⟨(trio hs j).mergeSort (fun a b => decide (a ≤ b)), List.mergeSort_perm _ _, (List.pairwise_mergeSort (le := fun a b : Int => decide (a ≤ b)) (fun a b c h1 h2 => by simp at *; (first | lia | omega)) (fun a b => by simp; (first | lia | omega)) _).imp fun h => by simpa using h⟩
    have hstand := hst j hjl s3 p3 o3
    have h3 : s3.length = 3 := by rw [p3.length_eq]; rfl
    have ht3 : (trio hs j).length = 3 := rfl
    have ix : ∀ i : Nat, i < 12 → (hs.map D.int)[i]? = some (.int (hs.getD i 0)) := fun i hi => ints_at (by (first | lia | omega))
    refine AS.weaken ?_ hs'
    refine AS.name ?_ ⟨rfl, .inr ⟨rfl, he _ rfl⟩⟩
    walk_at "W"
    refine AE.listF ?_
    walk_at "W"
    refine AO.mul ?_ (IntMulOk.of_left (by decide))
    walk_at "W"
    rw [show (8 : Int) - 3 * (j : Int) = ((8 - 3 * j : Nat) : Int) from by (first | lia | omega)]
    refine AO.itemI (.inl rfl) (by (first | lia | omega)) (ix (8 - 3 * j) (by (first | lia | omega))) ?_
    walk_at "W"
    refine AO.mul ?_ (IntMulOk.of_left (by decide))
    walk_at "W"
    rw [show (7 : Int) - 3 * (j : Int) = ((7 - 3 * j : Nat) : Int) from by (first | lia | omega)]
    refine AO.itemI (.inl rfl) (by (first | lia | omega)) (ix (7 - 3 * j) (by (first | lia | omega))) ?_
    walk_at "W"
    refine AO.mul ?_ (IntMulOk.of_left (by decide))
    walk_at "W"
    rw [show (6 : Int) - 3 * (j : Int) = ((6 - 3 * j : Nat) : Int) from by (first | lia | omega)]
    refine AO.itemI (.inl rfl) (by (first | lia | omega)) (ix (6 - 3 * j) (by (first | lia | omega))) ?_
    walk_at "W"
    refine ⟨by simp, ?_⟩
    rw [show [D.int (hs.getD (8 - 3 * j) 0), D.int (hs.getD (7 - 3 * j) 0), D.int (hs.getD (6 - 3 * j) 0)] = (trio hs j).map D.int from rfl]
    walk_at "A"
    refine AX.assignCompF (min := [(Str.ofString "group", .int j)]) ⟨rfl, rfl, rfl, (AllGet.sle (L := fun _ => Option.none) (by repeat' (first | exact trivial | refine ⟨rfl, ?_⟩))).1, isf_of rfl, rfl⟩ ?_ ⟨rfl, .inl rfl⟩ (by rfl) (by intro _; rfl)
    refine AEI.data ?_
    walk_at "W"
    refine AI.lst ?_
    refine ⟨rfl, by simp; (first | lia | omega), fun e' he' => ?_⟩
    refine ACmp.mapM (inD := spD) (outD := fun s => .tup [.int s.1, .str (tx ((s.2.drop (1 + 3 * j)).take 3))]) (m₀ := [(Str.ofString "group", .int j)]) (L₀ := L) sp (fun x hx => ?_) (Sle.refl _) ?_
    · obtain ⟨q1, q2⟩ := hfirst x hx
      refine AS.pair ?_ ⟨rfl, .inl rfl⟩ ⟨rfl, .inl rfl⟩
      walk_at "A"
      refine AE.tuple ?_
      walk_at "W"
      refine AP.some ?_
      walk_at "W"
      refine AO.mul ?_ (IntMulOk.of_left (by decide))
      walk_at "W"
      refine ⟨_, rfl, ?_⟩
      refine AP.some ?_
      walk_at "W"
      refine AO.mul ?_ (IntMulOk.of_left (by decide))
      walk_at "W"
      refine ⟨_, rfl, ?_⟩
      refine AP.none ?_
      rw [show (1 : Int) + 3 * (j : Int) = ((1 + 3 * j : Nat) : Int) from by (first | lia | omega), show (4 : Int) + 3 * (j : Int) = ((4 + 3 * j : Nat) : Int) from by (first | lia | omega)]
      refine ASl.strRun (by (first | lia | omega)) (by (first | lia | omega)) (by (first | lia | omega)) ?_
      walk_at "W"
      refine ⟨by simp, ?_, ?_⟩
      · rw [show 4 + 3 * j - (1 + 3 * j) = 3 from by (first | lia | omega)]
      · walk_at "sle"
    · intro σ₁ hs1
      obtain ⟨ms1, Ls1⟩ := σ₁
      walk_at "A"
      refine AX.assignCompF (min := []) ⟨rfl, rfl, rfl, (AllGet.sle (L := fun _ => Option.none) (by repeat' (first | exact trivial | refine ⟨rfl, ?_⟩))).1, isf_of rfl, rfl⟩ ?_ ⟨rfl, .inl rfl⟩ (by rfl) (by intro _; rfl)
      refine AEI.data ?_
      walk_at "W"
      refine AI.lst ?_
      refine ⟨rfl, by simp; (first | lia | omega), fun e'' he'' => ?_⟩
      refine ACmp.mapM (inD := fun s => .tup [.int s.1, .str (tx ((s.2.drop (1 + 3 * j)).take 3))]) (outD := fun s => pr (s.1, (heldOf j s.2 : Int))) (m₀ := []) (L₀ := Ls1) sp (fun x hx => ?_) (Sle.refl _) ?_
      · refine AS.pair ?_ ⟨rfl, .inl rfl⟩ ⟨rfl, .inl rfl⟩
        walk_at "A"
        refine AE.tuple ?_
        walk_at "W"
        refine AE.callB (AE.built (b_len B) ⟨rfl, ?_⟩)
        refine AA.cons ?_ (by rfl)
        refine AE.compF (min := []) ⟨rfl, rfl, rfl, (AllGet.sle (L := fun _ => Option.none) (by repeat' (first | exact trivial | refine ⟨rfl, ?_⟩))).1, isf_of rfl, rfl⟩ ?_ (by intro _; rfl)
        refine AEI.data ?_
        walk_at "W"
        refine AI.str ?_
        rw [tx_chars]
        refine ⟨rfl, by simp; (first | lia | omega), fun e3 he3 => ?_⟩
        refine ACmp.filterMap (inD := fun ch => D.str (tx [ch])) (f := fun ch => decide (ch ∈ [114, 119, 120, 115, 116])) (outD := fun ch => D.str (tx [ch])) (m₀ := []) (L₀ := Ls1) (fun ch => ?_) _ (Sle.refl _) ?_
        · refine AS.name ?_ ⟨rfl, .inl rfl⟩
          walk_at "A"
          refine AT.cmp ?_ (by with_unfolding_all rfl)
          walk_at "W"
          rw [show Str.ofString "rwxst" = tx [114, 119, 120, 115, 116] from by kernel_rfl]
          refine AO.inS ?_
          refine ⟨_, rfl, rfl, ?_, fun _ => ?_⟩
          · walk_at "sle"
          · walk_at "W"
            refine ⟨rfl, ?_⟩
            walk_at "sle"
        · intro σ₂ hs2
          obtain ⟨ms2, Ls2⟩ := σ₂
          walk_at "W"
          refine AB.len (.inl rfl) ?_ ?_
          · have := List.length_filter_le (fun ch => decide (ch ∈ [114, 119, 120, 115, 116])) ((x.2.drop (1 + 3 * j)).take 3)
            have h4 := List.length_take_le 3 (x.2.drop (1 + 3 * j))
            rw [List.length_map]; (first | lia | omega)
          walk_at "W"
          refine ⟨by simp, ?_, Sle.mk2 (fun _ _ q => nomatch q) hs2.2⟩
          rw [List.length_map]; rfl
      · intro σ₂ hs2
        obtain ⟨ms2, Ls2⟩ := σ₂
        have hLs : ∀ a x, L a = some x → Ls2 a = some x := fun a x hx => hs2.2 a x (hs1.2 a x hx)
        walk_at "W"
        refine AE.callFn (AE.glob (g_law_levels B) ⟨_, rfl, ⟨_, _, B.K 200 _ rfl, rfl⟩, ?_⟩)
        walk_at "W"
        have e1 : sp.map (fun s => pr (s.1, (heldOf j s.2 : Int))) = (sp.map fun s => (s.1, (heldOf j s.2 : Int))).map pr := by rw [List.map_map]; rfl
        rw [e1]
        refine AC.eq (levels_ok B (most := 3) (by decide) (by simp; (first | lia | omega))) ?_
        rw [hstand]
        walk_at "W"
        refine AE.callFn (AE.glob (g_nlargest B) ⟨_, rfl, ⟨_, _, B.K 136 _ rfl, rfl⟩, ?_⟩)
        walk_at "W"
        refine AC.eq (nlarge_eq B (k := 3) (by (first | lia | omega)) (by decide) (by (first | lia | omega)) p3 o3) ?_
        walk_at "W"
        refine AO.neInts (ys := s3.reverse) (.inl rfl) (.inl rfl) (List.take_of_length_le (by simp; (first | lia | omega))) ⟨false, rfl, if_ff ?_⟩
        walk_at "W"
        refine AE.callFn (AE.glob (g_nsmallest B) ⟨_, rfl, ⟨_, _, B.K 130 _ rfl, rfl⟩, ?_⟩)
        walk_at "W"
        refine AC.eq (nsmall_eq B (k := 3) (by (first | lia | omega)) (by decide) (by (first | lia | omega)) p3 o3) ?_
        walk_at "W"
        refine AP.none ?_
        refine AP.none ?_
        refine AP.some ?_
        refine AE.neg ?_
        walk_at "W"
        refine ⟨_, rfl, _, rfl, ?_⟩
        refine ASl.rev (.inl rfl) (by simp; (first | lia | omega)) ?_
        refine AO.neInts (ys := s3) (.inl rfl) (.inl (by rw [← List.map_reverse, List.reverse_reverse])) (List.take_of_length_le (by (first | lia | omega))) ⟨false, rfl, if_ff ?_⟩
        walk_at "W"
        refine AX.for_ (AEI.data ?_) (by intro _; rfl)
        refine AE.listF ?_
        refine AA.cons ?_ (by rfl)
        refine AE.callFn (AE.glob (g_median_low B) ⟨_, rfl, ⟨_, _, B.K 156 _ rfl, rfl⟩, ?_⟩)
        walk_at "W"
        refine AC.eq (medLow_eq B (by (first | lia | omega)) (by (first | lia | omega)) p3 o3) ?_
        refine AA.cons ?_ (by rfl)
        refine AE.callFn (AE.glob (g_median_high B) ⟨_, rfl, ⟨_, _, B.K 163 _ rfl, rfl⟩, ?_⟩)
        walk_at "W"
        refine AC.eq (medHigh_eq B (by (first | lia | omega)) (by (first | lia | omega)) p3 o3) ?_
        walk_at "W"
        refine ⟨by simp, ?_⟩
        refine AI.lst ?_
        rw [ht3]
        have et : s3.reverse.getD 1 0 = s3.getD 1 0 := by
          conv => lhs; rw [list3 h3]
          rfl
        refine AFor.ind (fun items σ => (∀ d ∈ items, d = .int (s3.getD 1 0)) ∧ Sle σ ⟨[(Str.ofString "hours", .lst (hs.map D.int)), (Str.ofString "dawn", .int (m - 1)), (Str.ofString "spans", .lst (sp.map spD)), (Str.ofString "stands", .lst (s3.reverse.map D.int))], L⟩) ⟨?_, ?_⟩ ?_ ?_
        · intro d hd
          rcases List.mem_cons.mp hd with rfl | hd
          · rfl
          · exact List.mem_singleton.mp hd
        · refine Sle.mk2 (m₁ := []) (m₂ := []) ?_ hLs
          exact (AllGet.sle (L := fun _ => Option.none) (by repeat' (first | exact trivial | refine ⟨rfl, ?_⟩))).1
        · rintro σ₃ ⟨_, hs3⟩
          refine AX.nil ?_
          refine ⟨?_, hs3.2⟩
          intro x d hx
          refine hs3.1 x d ?_
          exact (AllGet.sle (L := fun _ => Option.none) (by repeat' (first | exact trivial | refine ⟨rfl, ?_⟩))).1 x d hx
        · rintro d ds σ₃ ⟨hall, hs3⟩
          have hd := hall d List.mem_cons_self
          subst hd
          refine AS.weaken ?_ hs3
          refine AS.name ?_ ⟨rfl, .inl rfl⟩
          walk_at "W"
          refine AO.item (.inl rfl) (by decide) (by decide) (ints_at (i := 1) (by simp; (first | lia | omega))) ?_
          walk_at "W"
          rw [et, bne_self_eq_false]
          refine ⟨_, rfl, if_ff ?_⟩
          walk_at "W"
          refine AT.boolE ?_ (by intro _; rfl)
          refine AE.callB (AE.built (b_isinstance B) ⟨rfl, ?_⟩)
          refine AA.cons ?_ (by rfl)
          walk_at "W"
          refine AE.built (b_int B) ?_
          walk_at "W"
          refine AB.isInt ?_
          refine ⟨true, rfl, ?_⟩
          refine if_ff ?_
          refine AX.nil ?_
          refine ⟨fun d hd => hall d (List.mem_cons_of_mem _ hd), ?_⟩
          walk_at "sle"
end
end
section
open PySem PySem.W PyProof.Rows
set_option maxRecDepth 10000

section
variable {c : Cx} {n : Nat} {L : Addr → Option Cel}
theorem law_fn (B : BaseOk c) : ∃ fd, FnOk c 205 fd (lawBody c.w.params) ∧ fd.scope = lawSc c.w.params ∧ (([Str.ofString "script"].all fun x => plainName x && (fd.scope.names.lookup x == some .local || fd.scope.names.lookup x == some .cell)) = true) ∧
    ∀ vs : List Value, vs.length = 1 → bindArgs fd ⟨vs, []⟩ = pure ([Str.ofString "script"].zip vs) := by
  refine ⟨_, ⟨⟨_, B.K 205 _ rfl, rfl⟩, ⟨_, _, _, _, rfl, B.K 204 _ rfl, rfl, rfl⟩, ?b, rfl, rfl, rfl, rfl, rfl, rfl, fun x hx k => cellsFrom_some _ _ (mem_of_lookup hx), B.lim⟩, ?s, ?n, ?v⟩
  case b => kernel_rfl
  case s => kernel_rfl
  case n => decide
  case v => walk_at "bind"
/-- the law gives True -/
theorem law_ok (B : BaseOk c) {ns : List Int} (hn : ns.length ≤ 63) : AC c (n + 5) (.ref 205) [.lst (ns.map D.int)] [] L (fun d _ => d = .bool true) := by
  obtain ⟨fd, ok, hsc, hkk, hbind⟩ := law_fn B
  refine AC.fn (names := [Str.ofString "script"]) ok (by decide) hkk hbind fun e he => ?_
  rw [hsc] at he ⊢
  have he' : Cls (lawSc c.w.params) e := he
  show AX c (n + 4) (withScope (lawSc c.w.params) e) (lawBody c.w.params) ⟨[(Str.ofString "script", .lst (ns.map D.int))], L⟩ (fun f _ => f.val = .bool true)
  rw [law_body]
  refine LX.h ?_
  have hl := hours_length ns
  have hk := nature_lt ns
  have hb : ∀ x ∈ hoursOf ns, x.natAbs < 2 ^ 40 := fun x hx => by
    obtain ⟨y, _, rfl⟩ := List.mem_map.mp hx
    exact numI_small y
  obtain ⟨ss, hp, hss⟩ : ∃ ss : List Int, ss.Perm (hoursOf ns) ∧ ss.Pairwise (· ≤ ·) :=
    ⟨(hoursOf ns).mergeSort (fun a b => decide (a ≤ b)), List.mergeSort_perm _ _, (List.pairwise_mergeSort (le := fun a b : Int => decide (a ≤ b)) (fun a b c h1 h2 => by simp at *; (first | lia | omega)) (fun a b => by simp; (first | lia | omega)) _).imp fun h => by simpa using h⟩
  refine law_1 B he' hn fun m M a1 a2 a3 a4 => ?_
  refine law_2 B he' hk ?_
  refine law_3 B he' hl hk a1 a2 a3 a4 ?_
  refine law_4 B he' hl hk a1 a2 hp hss ?_
  refine law_5 B he' hl hp hss hb ?_
  refine law_6 B he' hl hp hss hb ?_
  exact law_7 B he' hl hk a1 a2 fun σ => rfl
end
end
end Mine
section
open PySem PySem.W PyProof.Rows
set_option maxRecDepth 100000
set_option maxHeartbeats 2000000
namespace Mine
theorem ns_same {h : Heap} {a : Addr} {m m' : Str → Option Value} (x : h.Ns a m) (y : h.Ns a m') : m = m' := by
  obtain ⟨o, es, ep, e1, e2, _, e3⟩ := x
  obtain ⟨o', es', ep', f1, f2, _, f3⟩ := y
  rw [e1] at f1; cases f1
  rw [e2] at f2; cases f2
  funext z; rw [← e3 z, ← f3 z]
/-- from the law's contract to the caller -/
theorem law_call {prog : Program} {w : World} {s₁ : Shared} {a : Addr} {vs : List Value} {ns : List Int} {R : Value → Shared → Prop} {E : Value → Shared → Prop} (K : (hd.heap_1 w.params).In s₁.heap) (lim : s₁.heap.NoLimit)
    (blt : ∃ mb, s₁.heap.Ns builtinsNs mb ∧ ∀ x : Str, x ≠ "__name__" → mb x = bootBuiltins x) (hl : s₁.heap.IsList a vs.toArray) (hi : IntsAre vs ns) (hn : ns.length ≤ 63)
    (h : ∀ s' : Shared, (∀ b o, s₁.heap.get? b = some o → s'.heap.get? b = some o) → s'.os = s₁.os → s'.gens = s₁.gens → R (.bool true) s') : wpAny (model prog w) callerA (call (.ref 205) [.ref a]) R E s₁ := by
  let c : Cx := ⟨prog, w, s₁.heap, s₁⟩
  have B : BaseOk c := ⟨K, lim, blt⟩
  let Z : Zone := fun b => (s₁.heap.get? b).map fun o => (true, o)
  have r : RelG c Z (fun _ => Option.none) s₁ := by
    refine ⟨⟨s₁.heap, s₁.toks, rfl⟩, fun b o e => ?_, fun b p e => ?_, fun b x e => nomatch e⟩
    · show (s₁.heap.get? b).map _ = _
      have e' : s₁.heap.get? b = some o := e
      rw [e']; rfl
    · have e' : (s₁.heap.get? b).map (fun o => (true, o)) = some p := e
      cases q : s₁.heap.get? b with
      | none => rw [q] at e'; cases e'
      | some o => rw [q] at e'; cases e'; rfl
  obtain ⟨o, ho, hc, hd⟩ := hl
  have rep : Rep Z (.lst (ns.map D.int)) (.ref a) := by
    simp only [Rep]
    refine ⟨a, o, vs, rfl, ?_, ⟨hc, hd⟩, of_ints hi⟩
    show (s₁.heap.get? a).map _ = _
    rw [ho]; rfl
  have key := law_ok (c := c) (n := 0) (L := fun _ => Option.none) B hn Z callerA s₁ [.ref a] [] ⟨rfl, by decide, by decide⟩ r (RepL.cons rep RepL.nil) RepL.nil
  refine wpAny_mono key (fun v s' ⟨Z', L', d, l, r', e, q⟩ => ?_) fun _ _ e => e.elim
  subst q
  simp only [Rep] at e
  subst e
  obtain ⟨h', tk, e'⟩ := r'.rest
  refine h s' (fun b o hb => r'.zone b (true, o) (l b _ ?_)) (by rw [e']) (by rw [e'])
  show (s₁.heap.get? b).map _ = _
  rw [hb]; rfl
end Mine
theorem PySem.Challenge.cw_om0146_01_holds : PySem.Challenge.rw_om0146_01.Holds := by
  refine ⟨Mine.hd.said_of Mine.hd.row_ok, ?_⟩
  refine holds_open (q := Mine.hd.view_1) (loose := Mine.hd.loo) (Xt := Mine.hd.XtM) (XP := XL Mine.hd.view_1 Mine.hd.tabW) (Yf := Hook.obs Mine.hd.hk) (Ya := Hook.val Mine.hd.hk) (YP := Hook.says Mine.hd.hk) (N := 2616) Mine.hd.left (Hook.of Mine.hd.hk) (Hook.keeps Mine.hd.hk) (fun s e => xl_of s (Bool.and_eq_true_iff.mp e).1) XL.keeps (by rfl) (by rfl) (by rfl) (fun s e => recFacts_of (Bool.and_eq_true_iff.mp e).2) (by rfl) Mine.hd.row_ok (by decide +kernel) Mine.hd.row_bare Mine.hd.row_prom ?_
  intro w s₀ s₁ mg mb G Y fa o pm cd doc dV kV ho hdd hcd hD hmg hg args vals as hpre hlay hrd hwl hlo
  have KX := kIn_of Y
  have T := G.T
  have hmg2 : mg (Str.ofString "law") = some (.ref fa) := hmg
  clear hmg Y ho hdd G hcd hD
  wrow_args hpre hlay hrd hwl hlo
  rename_i ns _ _ _ _ _ _ _ a vs _ hl _ _ _ hi _ hn _
  have hns : s₁.heap.Ns mainGlobals (nsFind (Mine.globs w.params)) := ⟨_, Mine.globs w.params, _, KX 3 _ rfl, rfl, Mine.globs_keys _, fun _ => rfl⟩
  have hfa : fa = 205 := by
    have e1 := Mine.ns_same T.g hns
    have e2 : nsFind (Mine.globs w.params) (Str.ofString "law") = some (.ref 205) := by kernel_rfl
    rw [e1, e2] at hmg2
    cases hmg2; rfl
  subst hfa
  refine Mine.law_call KX T.nolimit ⟨mb, T.b, T.builtins⟩ hl hi (by omega) fun s' h1 h2 h3 => ?_
  refine GoodW.toG ⟨.inl ⟨.bool true, .bool true, [], rfl, fun _ => rfl, .bool true, ?_, fun _ => ⟨List.nodup_nil, fun _ h => nomatch h⟩⟩, h1, h2, h3.trans hg⟩
  wrow_post
end
