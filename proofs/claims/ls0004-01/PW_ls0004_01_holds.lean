import PyProof.Rows.All
import Wide.All
import OpenK.AllK
import Wide.FinOn
import KE.KIntText
import KE.KFromBytes
import PySem.Challenge.RW_ls0004_01
set_option Elab.async false
section
open PySem PySem.W PyProof.Rows
namespace Mine

/-- pure values -/
inductive D where
  | none
  | bool (b : Bool)
  | int (i : Int)
  | str (l : List Nat)
  | tup (l : List D)
  | lst (l : List D)

abbrev S (l : List Nat) : Str := ⟨l.toArray⟩

theorem S_toList (x : Str) : S x.cps.toList = x := by cases x; simp [S]
theorem S_len (l : List Nat) : (S l).length = l.length := by simp [Str.length]

-- v stands for d in the heap h; no list of it lies in X
mutual
inductive Rep (h : Heap) (X : List Addr) : Value → D → Prop
  | none : Rep h X .none .none
  | bool (b : Bool) : Rep h X (.bool b) (.bool b)
  | int (i : Int) (t : Tok) : Rep h X (.int i t) (.int i)
  | str (l : List Nat) (t : Tok) : Rep h X (.str (S l) t) (.str l)
  | tup {a : Addr} {vs : List Value} {ds : List D} : h.IsTuple a vs.toArray → RepAll h X vs ds → Rep h X (.ref a) (.tup ds)
  | lst {a : Addr} {vs : List Value} {ds : List D} : h.IsList a vs.toArray → a ∉ X → RepAll h X vs ds → Rep h X (.ref a) (.lst ds)
inductive RepAll (h : Heap) (X : List Addr) : List Value → List D → Prop
  | nil : RepAll h X [] []
  | cons {v : Value} {vs : List Value} {d : D} {ds : List D} : Rep h X v d → RepAll h X vs ds → RepAll h X (v :: vs) (d :: ds)
end

def Kp (h h' : Heap) : Prop := ∀ b o, h.get? b = some o → h'.get? b = some o
theorem Kp.refl (h : Heap) : Kp h h := fun _ _ e => e
theorem Kp.trans {h h' h'' : Heap} (a : Kp h h') (b : Kp h' h'') : Kp h h'' := fun x o e => b x o (a x o e)
theorem Kp.push (h : Heap) (o : Obj) : Kp h (h.push o) := fun _ _ e => Heap.get?_push_of_some o e
theorem Kp.list {h h' : Heap} (k : Kp h h') {a vs} (x : h.IsList a vs) : h'.IsList a vs := let ⟨o, ho, r⟩ := x; ⟨o, k _ _ ho, r⟩
theorem Kp.tuple {h h' : Heap} (k : Kp h h') {a vs} (x : h.IsTuple a vs) : h'.IsTuple a vs := let ⟨o, ho, r⟩ := x; ⟨o, k _ _ ho, r⟩

mutual
theorem Rep.keep {h h' : Heap} {X : List Addr} (k : Kp h h') : ∀ {v : Value} {d : D}, Rep h X v d → Rep h' X v d
  | _, _, .none => .none
  | _, _, .bool b => .bool b
  | _, _, .int i t => .int i t
  | _, _, .str l t => .str l t
  | _, _, .tup a r => .tup (k.tuple a) (RepAll.keep k r)
  | _, _, .lst a n r => .lst (k.list a) n (RepAll.keep k r)
theorem RepAll.keep {h h' : Heap} {X : List Addr} (k : Kp h h') : ∀ {vs : List Value} {ds : List D}, RepAll h X vs ds → RepAll h' X vs ds
  | _, _, .nil => .nil
  | _, _, .cons a r => .cons (Rep.keep k a) (RepAll.keep k r)
end

/-- what stands at r is no tuple, and no list but one of X -/
def Off (h : Heap) (X : List Addr) (r : Addr) : Prop := (∀ vs, ¬ h.IsTuple r vs) ∧ (∀ vs, h.IsList r vs → r ∈ X)
def KpBut (r : Addr) (h h' : Heap) : Prop := ∀ b o, b ≠ r → h.get? b = some o → h'.get? b = some o
theorem KpBut.list {r : Addr} {h h' : Heap} (k : KpBut r h h') {a vs} (x : h.IsList a vs) (n : a ≠ r) : h'.IsList a vs := let ⟨o, ho, q⟩ := x; ⟨o, k _ _ n ho, q⟩
theorem KpBut.tuple {r : Addr} {h h' : Heap} (k : KpBut r h h') {a vs} (x : h.IsTuple a vs) (n : a ≠ r) : h'.IsTuple a vs := let ⟨o, ho, q⟩ := x; ⟨o, k _ _ n ho, q⟩
theorem KpBut.same {r : Addr} {h h' : Heap} (x : Heap.SameBut r h h') : KpBut r h h' := fun b _ n e => (x.2 b n).trans e

mutual
theorem Rep.but {h h' : Heap} {X : List Addr} {r : Addr} (k : KpBut r h h') (o : Off h X r) : ∀ {v : Value} {d : D}, Rep h X v d → Rep h' X v d
  | _, _, .none => .none
  | _, _, .bool b => .bool b
  | _, _, .int i t => .int i t
  | _, _, .str l t => .str l t
  | _, _, .tup a q => .tup (k.tuple a (by rintro rfl; exact o.1 _ a)) (RepAll.but k o q)
  | _, _, .lst a n q => .lst (k.list a (by rintro rfl; exact n (o.2 _ a))) n (RepAll.but k o q)
theorem RepAll.but {h h' : Heap} {X : List Addr} {r : Addr} (k : KpBut r h h') (o : Off h X r) : ∀ {vs : List Value} {ds : List D}, RepAll h X vs ds → RepAll h' X vs ds
  | _, _, .nil => .nil
  | _, _, .cons a q => .cons (Rep.but k o a) (RepAll.but k o q)
end
mutual
theorem Rep.less {h : Heap} {X Y : List Addr} (k : ∀ a ∈ Y, a ∈ X ∨ h.get? a = Option.none) : ∀ {v : Value} {d : D}, Rep h X v d → Rep h Y v d
  | _, _, .none => .none
  | _, _, .bool b => .bool b
  | _, _, .int i t => .int i t
  | _, _, .str l t => .str l t
  | _, _, .tup a r => .tup a (RepAll.less k r)
  | _, _, .lst a n r => .lst a (fun m => (k _ m).elim n (fun z => by obtain ⟨o, ho, _⟩ := a; rw [z] at ho; cases ho)) (RepAll.less k r)
theorem RepAll.less {h : Heap} {X Y : List Addr} (k : ∀ a ∈ Y, a ∈ X ∨ h.get? a = Option.none) : ∀ {vs : List Value} {ds : List D}, RepAll h X vs ds → RepAll h Y vs ds
  | _, _, .nil => .nil
  | _, _, .cons a r => .cons (Rep.less k a) (RepAll.less k r)
end
theorem RepAll.length {h : Heap} {X : List Addr} : ∀ {vs : List Value} {ds : List D}, RepAll h X vs ds → vs.length = ds.length
  | _, _, .nil => rfl
  | _, _, .cons _ r => by simp [RepAll.length r]
theorem RepAll.append {h : Heap} {X : List Addr} {ws : List Value} {es : List D} (k : RepAll h X ws es) : ∀ {vs : List Value} {ds : List D}, RepAll h X vs ds → RepAll h X (vs ++ ws) (ds ++ es)
  | _, _, .nil => k
  | _, _, .cons a r => .cons a (RepAll.append k r)
theorem RepAll.get {h : Heap} {X : List Addr} : ∀ {vs : List Value} {ds : List D}, RepAll h X vs ds → ∀ {i : Nat} {d : D}, ds[i]? = some d → ∃ v, vs[i]? = some v ∧ Rep h X v d
  | _, _, .nil, _, _, e => by simp at e
  | _, _, .cons (v := v) a r, 0, _, e => by simp at e; subst e; exact ⟨v, rfl, a⟩
  | _, _, .cons a r, i + 1, _, e => by simp at e; simpa using RepAll.get r e
theorem RepAll.take {h : Heap} {X : List Addr} : ∀ {vs : List Value} {ds : List D}, RepAll h X vs ds → ∀ n : Nat, RepAll h X (vs.take n) (ds.take n)
  | _, _, .nil, _ => by simpa using RepAll.nil
  | _, _, .cons a r, 0 => by simpa using RepAll.nil
  | _, _, .cons a r, n + 1 => by simpa using RepAll.cons a (RepAll.take r n)
theorem RepAll.drop {h : Heap} {X : List Addr} : ∀ {vs : List Value} {ds : List D}, RepAll h X vs ds → ∀ n : Nat, RepAll h X (vs.drop n) (ds.drop n)
  | _, _, .nil, _ => by simpa using RepAll.nil
  | _, _, .cons a r, 0 => by simpa using RepAll.cons a r
  | _, _, .cons a r, n + 1 => by simpa using RepAll.drop r n
theorem RepAll.set {h : Heap} {X : List Addr} {v : Value} {d : D} (q : Rep h X v d) : ∀ {vs : List Value} {ds : List D}, RepAll h X vs ds → ∀ n : Nat, RepAll h X (vs.set n v) (ds.set n d)
  | _, _, .nil, _ => by simpa using RepAll.nil
  | _, _, .cons a r, 0 => by simpa using RepAll.cons q r
  | _, _, .cons a r, n + 1 => by simpa using RepAll.cons a (RepAll.set q r n)

/-- what a name holds: a value; a list of the call's own that may grow, at r; the bound append of it -/
inductive Sl where
  | val (d : D)
  | own (r : Addr) (ds : List D)
  | app (r : Addr)
abbrev Store := List (Str × Sl)

def SlRep (h₀ h : Heap) (X : List Addr) (v : Value) : Sl → Prop
  | .val d => Rep h X v d
  | .own r ds => v = .ref r ∧ r ∈ X ∧ h₀.get? r = none ∧ ∃ vs, PlainL h r vs.toArray ∧ RepAll h X vs ds
  | .app r => ∃ q o, v = .ref q ∧ h.get? q = some o ∧ o.cls = .type "builtin_function_or_method" ∧ o.data = .fields #[.builtin "list.append", .ref r]

theorem SlRep.keep {h₀ h h' : Heap} {X : List Addr} {v : Value} {sl : Sl} (k : Kp h h') (x : SlRep h₀ h X v sl) : SlRep h₀ h' X v sl := by
  cases sl with
  | val d => exact Rep.keep k x
  | own r ds => obtain ⟨a, b, z, vs, c, e⟩ := x; exact ⟨a, b, z, vs, c.keeps k, RepAll.keep k e⟩
  | app r => obtain ⟨q, o, a, b, c⟩ := x; exact ⟨q, o, a, k _ _ b, c⟩

def Has (env : Env) (m : Str → Option Value) (h : Heap) (x : Str) (v : Value) : Prop :=
  match env.kindOf x with
  | some .local => m x = some v
  | some .cell => ∃ c o, env.cells.lookup x = some c ∧ h.get? c = some o ∧ o.data = .cell (some v)
  | _ => False
theorem Has.keep {env : Env} {m : Str → Option Value} {h h' : Heap} {x : Str} {v : Value} (k : Kp h h') (y : Has env m h x v) : Has env m h' x v := by
  unfold Has at *
  split at y
  · exact y
  · obtain ⟨c, o, e, a, b⟩ := y; exact ⟨c, o, e, k _ _ a, b⟩
  · exact y

structure Bs (K : Frag) (h : Heap) : Prop where
  k : K.In h
  t : ∃ p loose mg mb, TopRead p loose mg mb h
theorem Bs.keep {K : Frag} {h h' : Heap} (x : Bs K h) (k : Kp h h') : Bs K h' := ⟨x.k.keeps k, let ⟨p, l, mg, mb, T⟩ := x.t; ⟨p, l, mg, mb, T.keeps k⟩⟩

structure Cx where
  K : Frag
  env : Env
  h₀ : Heap
  X₀ : List Addr
  A : Around
  lv : Nat
  os : OsState

structure Ok (c : Cx) : Prop where
  kind : c.env.scope.kind = .function
  glob : c.env.globals = mainGlobals
  blt : c.env.builtins = builtinsNs
  bs : Bs c.K c.h₀
  hd : c.A.handled = none
  dep : c.A.depth + c.lv < recursionLimit
  un : c.A.units + 3 * c.lv + 80 < cLine
  x₀ : ∀ r ∈ c.X₀, ∃ vs, c.h₀.IsList r vs

structure Rel (c : Cx) (X : List Addr) (σ : Store) (s : Shared) : Prop where
  ok : Ok c
  gens : s.gens = #[]
  os : s.os = c.os
  keep : Kp c.h₀ s.heap
  newL : c.h₀.get? c.env.locals = none
  subX : ∀ r ∈ c.X₀, r ∈ X
  hasX : ∀ r ∈ X, ∃ vs, s.heap.IsList r vs
  uniq : ∀ x y r ds ds', σ.lookup x = some (.own r ds) → σ.lookup y = some (.own r ds') → x = y
  ns : ∃ m, s.heap.Ns c.env.locals m ∧ ∀ x sl, σ.lookup x = some sl → ∃ v, Has c.env m s.heap x v ∧ SlRep c.h₀ s.heap X v sl

theorem Rel.bs {c : Cx} {X : List Addr} {σ : Store} {s : Shared} (R : Rel c X σ s) : Bs c.K s.heap := R.ok.bs.keep R.keep

structure Go (s s' : Shared) : Prop where
  gens : s'.gens = s.gens
  os : s'.os = s.os
  kp : Kp s.heap s'.heap
theorem Rel.go {c : Cx} {X : List Addr} {σ : Store} {s s' : Shared} (R : Rel c X σ s) (g : Go s s') : Rel c X σ s' := by
  obtain ⟨m, n, q⟩ := R.ns
  exact ⟨R.ok, g.gens.trans R.gens, g.os.trans R.os, R.keep.trans g.kp, R.newL, R.subX, fun r hr => let ⟨vs, l⟩ := R.hasX r hr; ⟨vs, g.kp.list l⟩, R.uniq, m, n.keeps g.kp, fun x sl e => let ⟨v, a, b⟩ := q x sl e; ⟨v, a.keep g.kp, b.keep g.kp⟩⟩

theorem Go.rfl {s : Shared} : Go s s := ⟨Eq.refl _, Eq.refl _, Kp.refl _⟩
theorem Go.tok {s : Shared} {t : Nat} : Go s { s with toks := t } := ⟨Eq.refl _, Eq.refl _, Kp.refl _⟩
theorem Go.tr {s s' s'' : Shared} (a : Go s s') (b : Go s' s'') : Go s s'' := ⟨b.gens.trans a.gens, b.os.trans a.os, a.kp.trans b.kp⟩
theorem Go.heap {s : Shared} {h : Heap} (k : Kp s.heap h) : Go s { s with heap := h } := ⟨Eq.refl _, Eq.refl _, k⟩
theorem Go.both {s : Shared} {h : Heap} {t : Nat} (k : Kp s.heap h) : Go s { s with heap := h, toks := t } := ⟨Eq.refl _, Eq.refl _, k⟩

/-- the pure part of the state: what stands is kept, the value stands for d -/
def Gv (prog : Program) (w : World) (A : Around) (X : List Addr) (t : Sem Value) (d : D) (s : Shared) : Prop :=
  wpAny (model prog w) A t (fun v s' => Go s s' ∧ Rep s'.heap X v d) (fun _ _ => False) s

section
variable {prog : Program} {w : World}

def Ev (prog : Program) (w : World) (c : Cx) (X : List Addr) (σ : Store) (e : Expr) (d : D) : Prop :=
  ∀ s, Rel c X σ s → Gv prog w c.A X (eval e c.env) d s
def EvB (prog : Program) (w : World) (c : Cx) (X : List Addr) (σ : Store) (e : Expr) (b : Bool) : Prop :=
  ∀ s, Rel c X σ s → wpAny (model prog w) c.A (isTrue e c.env (eval e c.env)) (fun b' s' => Go s s' ∧ b' = b) (fun _ _ => False) s

theorem Ev.use {c : Cx} {X : List Addr} {σ : Store} {e : Expr} {d : D} {s : Shared} {Q : Value → Shared → Prop} {E : Value → Shared → Prop} (x : Ev prog w c X σ e d) (R : Rel c X σ s)
    (h : ∀ v s', Go s s' → Rel c X σ s' → Rep s'.heap X v d → Q v s') : wpAny (model prog w) c.A (eval e c.env) Q E s :=
  wpAny_mono (x s R) (fun v s' y => h v s' y.1 (R.go y.1) y.2) fun _ _ f => f.elim
theorem EvB.use {c : Cx} {X : List Addr} {σ : Store} {e : Expr} {b : Bool} {s : Shared} {Q : Bool → Shared → Prop} {E : Value → Shared → Prop} (x : EvB prog w c X σ e b) (R : Rel c X σ s)
    (h : ∀ s', Go s s' → Rel c X σ s' → Q b s') : wpAny (model prog w) c.A (isTrue e c.env (eval e c.env)) Q E s :=
  wpAny_mono (x s R) (fun v s' y => by obtain ⟨k, rfl⟩ := y; exact h s' k (R.go k)) fun _ _ f => f.elim
theorem Gv.use {A : Around} {X : List Addr} {t : Sem Value} {d : D} {s : Shared} {Q : Value → Shared → Prop} {E : Value → Shared → Prop} (x : Gv prog w A X t d s)
    (h : ∀ v s', Go s s' → Rep s'.heap X v d → Q v s') : wpAny (model prog w) A t Q E s :=
  wpAny_mono x (fun v s' y => h v s' y.1 y.2) fun _ _ f => f.elim
theorem Gv.of {A : Around} {X : List Addr} {t : Sem Value} {d : D} {s s₀ : Shared} (x : Gv prog w A X t d s) (k : Go s₀ s) :
    wpAny (model prog w) A t (fun v s' => Go s₀ s' ∧ Rep s'.heap X v d) (fun _ _ => False) s :=
  wpAny_mono x (fun _ _ y => ⟨k.tr y.1, y.2⟩) fun _ _ f => f

variable {c : Cx} {X : List Addr} {σ : Store} {A : Around} {s : Shared}

/-! ## names -/
theorem load_var {x : Str} {v : Value} {m : Str → Option Value} {Q : Value → Shared → Prop} {E : Value → Shared → Prop} (hk : c.env.scope.kind = .function) (n : s.heap.Ns c.env.locals m) (y : Has c.env m s.heap x v) (h : Q v s) :
    wpAny (model prog w) A (loadName c.env x) Q E s := by
  unfold Has at y
  split at y
  · rename_i e; exact wpAny_loadName_local hk e n y h
  · rename_i e
    obtain ⟨a, o, e1, e2, e3⟩ := y
    simp only [loadName, Env.blockKind, hk, e, ScopeKind.isAnnotationScope, Bool.false_and, Bool.false_eq_true, if_false, cellOf, e1, cellGet]
    refine wpAny_bind (wpAny_pure (wpAny_bind (wpAny_bind (wpAny_load e2 ?_))))
    rw [e3]; exact wpAny_pure (wpAny_pure h)
  · exact y.elim
end
end Mine
end
section
open PySem PySem.W PyProof.Rows
namespace Mine
section
variable {prog : Program} {w : World} {c : Cx} {X : List Addr} {σ : Store} {s : Shared}

/-- an expression whose value is v itself -/
def EvV (prog : Program) (w : World) (c : Cx) (X : List Addr) (σ : Store) (e : Expr) (v : Value) : Prop :=
  ∀ s, Rel c X σ s → wpAny (model prog w) c.A (eval e c.env) (fun v' s' => Go s s' ∧ v' = v) (fun _ _ => False) s
theorem EvV.use {e : Expr} {v : Value} {Q : Value → Shared → Prop} {E : Value → Shared → Prop} (x : EvV prog w c X σ e v) (R : Rel c X σ s)
    (h : ∀ s', Go s s' → Rel c X σ s' → Q v s') : wpAny (model prog w) c.A (eval e c.env) Q E s :=
  wpAny_mono (x s R) (fun v s' y => by obtain ⟨k, rfl⟩ := y; exact h s' k (R.go k)) fun _ _ f => f.elim

theorem ev_var {x : Str} {pos : Pos} {d : D} (hx : σ.lookup x = some (.val d)) (hd : (x == ("__debug__" : Str)) = false := by decide) : Ev prog w c X σ (.Name x pos) d := by
  intro s R
  obtain ⟨m, n, q⟩ := R.ns
  obtain ⟨v, a, b⟩ := q x _ hx
  exact wpAny_Name (load_var R.ok.kind n a ⟨.rfl, b⟩) hd

theorem load_glob {x : Str} {v : Value} {mg : Str → Option Value} {A : Around} {Q : Value → Shared → Prop} {E : Value → Shared → Prop} (hk : c.env.scope.kind = .function) (hx : c.env.kindOf x = some .globalImplicit)
    (hg : c.env.globals = mainGlobals) (G : s.heap.Ns mainGlobals mg) (hv : mg x = some v) (h : Q v s) : wpAny (model prog w) A (loadName c.env x) Q E s := by
  simp only [loadName, Env.blockKind, hk, hx, ScopeKind.isAnnotationScope, Bool.false_and, Bool.false_eq_true, if_false, loadGlobal]
  refine wpAny_bind (wpAny_nsGet (by rw [hg]; exact G) ?_)
  rw [hv]; exact wpAny_pure h
theorem load_blt {x : Str} {v : Value} {mg mb : Str → Option Value} {A : Around} {Q : Value → Shared → Prop} {E : Value → Shared → Prop} (hk : c.env.scope.kind = .function) (hx : c.env.kindOf x = some .globalImplicit)
    (hg : c.env.globals = mainGlobals) (hb : c.env.builtins = builtinsNs) (G : s.heap.Ns mainGlobals mg) (hn : mg x = none) (Bn : s.heap.Ns builtinsNs mb) (hv : mb x = some v) (h : Q v s) : wpAny (model prog w) A (loadName c.env x) Q E s := by
  simp only [loadName, Env.blockKind, hk, hx, ScopeKind.isAnnotationScope, Bool.false_and, Bool.false_eq_true, if_false, loadGlobal]
  refine wpAny_bind (wpAny_nsGet (by rw [hg]; exact G) ?_)
  rw [hn]
  refine wpAny_bind (wpAny_nsGet (by rw [hb]; exact Bn) ?_)
  rw [hv]; exact wpAny_pure h

theorem evV_glob {x : Str} {pos : Pos} {v : Value} (e : nsIn c.K mainGlobals x = some (some v)) (hx : c.env.kindOf x = some .globalImplicit) (hd : (x == ("__debug__" : Str)) = false := by decide) : EvV prog w c X σ (.Name x pos) v := by
  intro s R
  obtain ⟨p, l, mg, mb, T⟩ := R.bs.t
  exact wpAny_Name (load_glob R.ok.kind hx R.ok.glob T.g (mg_of R.bs.k T.g e) ⟨.rfl, rfl⟩) hd
theorem evV_blt {x : Str} {pos : Pos} {v : Value} (e : nsIn c.K mainGlobals x = some none) (hv : bootBuiltins x = some v) (hx : c.env.kindOf x = some .globalImplicit) (hn : x ≠ "__name__" := by decide) (hd : (x == ("__debug__" : Str)) = false := by decide) : EvV prog w c X σ (.Name x pos) v := by
  intro s R
  obtain ⟨p, l, mg, mb, T⟩ := R.bs.t
  exact wpAny_Name (load_blt R.ok.kind hx R.ok.glob R.ok.blt T.g (mg_none_of R.bs.k T.g e) T.b ((T.builtins x hn).trans hv) ⟨.rfl, rfl⟩) hd
theorem ev_glob_str {x : Str} {pos : Pos} {y : Str} {t : Tok} {l : List Nat} (e : nsIn c.K mainGlobals x = some (some (.str y t))) (hy : y = S l) (hx : c.env.kindOf x = some .globalImplicit) (hd : (x == ("__debug__" : Str)) = false := by decide) : Ev prog w c X σ (.Name x pos) (.str l) := by
  intro s R
  refine (evV_glob e hx hd).use R fun s' k R' => ⟨k, ?_⟩
  rw [hy]; exact .str l t

theorem ev_int {i : Int} {k : Nat} {pos : Pos} : Ev prog w c X σ (.Constant (.int i) k pos) (.int i) := fun _ _ => wpAny_Constant_int ⟨.tok, .int _ _⟩
theorem ev_none {k : Nat} {pos : Pos} : Ev prog w c X σ (.Constant .none k pos) .none := fun _ _ => Constant_none ⟨.rfl, .none⟩
theorem ev_bool {b : Bool} {k : Nat} {pos : Pos} : Ev prog w c X σ (.Constant (.bool b) k pos) (.bool b) := fun _ _ => Constant_bool ⟨.rfl, .bool _⟩
theorem ev_str {x : Str} {l : List Nat} {k : Nat} {pos : Pos} (h : x = S l) : Ev prog w c X σ (.Constant (.str x) k pos) (.str l) := by
  subst h
  intro s R
  exact fun Γ p hΓ => ⟨.tok, .str l _⟩

/-! ## two operands -/
theorem ev_add {e₁ e₂ : Expr} {pos : Pos} {i j : Int} (a : Ev prog w c X σ e₁ (.int i)) (b : Ev prog w c X σ e₂ (.int j)) : Ev prog w c X σ (.BinOp e₁ .Add e₂ pos) (.int (i + j)) := by
  intro s R
  refine wpAny_BinOp (a.use R fun v₁ s₁ k₁ R₁ r₁ => b.use R₁ fun v₂ s₂ k₂ R₂ r₂ => ?_)
  cases r₁; cases r₂
  exact P.add_int ⟨k₁.tr (k₂.tr .tok), .int _ _⟩
theorem ev_sub {e₁ e₂ : Expr} {pos : Pos} {i j : Int} (a : Ev prog w c X σ e₁ (.int i)) (b : Ev prog w c X σ e₂ (.int j)) : Ev prog w c X σ (.BinOp e₁ .Sub e₂ pos) (.int (i - j)) := by
  intro s R
  refine wpAny_BinOp (a.use R fun v₁ s₁ k₁ R₁ r₁ => b.use R₁ fun v₂ s₂ k₂ R₂ r₂ => ?_)
  cases r₁; cases r₂
  exact P.sub_int ⟨k₁.tr (k₂.tr .tok), .int _ _⟩
theorem ev_mul {e₁ e₂ : Expr} {pos : Pos} {i j : Int} (a : Ev prog w c X σ e₁ (.int i)) (b : Ev prog w c X σ e₂ (.int j)) (hm : IntMulOk i j) : Ev prog w c X σ (.BinOp e₁ .Mult e₂ pos) (.int (i * j)) := by
  intro s R
  refine wpAny_BinOp (a.use R fun v₁ s₁ k₁ R₁ r₁ => b.use R₁ fun v₂ s₂ k₂ R₂ r₂ => ?_)
  cases r₁; cases r₂
  exact P.mul_int ⟨k₁.tr (k₂.tr .tok), .int _ _⟩ hm
theorem ev_mod {e₁ e₂ : Expr} {pos : Pos} {i j : Int} (a : Ev prog w c X σ e₁ (.int i)) (b : Ev prog w c X σ e₂ (.int j)) (h0 : 0 < j) : Ev prog w c X σ (.BinOp e₁ .Mod e₂ pos) (.int (i % j)) := by
  intro s R
  refine wpAny_BinOp (a.use R fun v₁ s₁ k₁ R₁ r₁ => b.use R₁ fun v₂ s₂ k₂ R₂ r₂ => ?_)
  cases r₁; cases r₂
  have e : i.fmod j = i % j := Int.fmod_eq_emod_of_nonneg i (Int.le_of_lt h0)
  exact mod_int' (by omega) (by rw [e]; exact ⟨k₁.tr (k₂.tr .tok), .int _ _⟩)
theorem ev_div {e₁ e₂ : Expr} {pos : Pos} {i j : Int} (a : Ev prog w c X σ e₁ (.int i)) (b : Ev prog w c X σ e₂ (.int j)) (h0 : 0 < j) (hp : Builtin.divisionGoesByPylong i j = false) : Ev prog w c X σ (.BinOp e₁ .FloorDiv e₂ pos) (.int (i / j)) := by
  intro s R
  refine wpAny_BinOp (a.use R fun v₁ s₁ k₁ R₁ r₁ => b.use R₁ fun v₂ s₂ k₂ R₂ r₂ => ?_)
  cases r₁; cases r₂
  have e : i.fdiv j = i / j := Int.fdiv_eq_ediv_of_nonneg i (Int.le_of_lt h0)
  exact floordiv_int (by omega) (by rw [e]; exact ⟨k₁.tr (k₂.tr .tok), .int _ _⟩) (.inl hp)
theorem S_app (a b : List Nat) : S a ++ S b = S (a ++ b) := by show Str.mk (a.toArray ++ b.toArray) = _; simp [S]
theorem ev_cat {e₁ e₂ : Expr} {pos : Pos} {l m : List Nat} (a : Ev prog w c X σ e₁ (.str l)) (b : Ev prog w c X σ e₂ (.str m)) (hz : l.length + m.length ≤ sizeLine) : Ev prog w c X σ (.BinOp e₁ .Add e₂ pos) (.str (l ++ m)) := by
  intro s R
  refine wpAny_BinOp (a.use R fun v₁ s₁ k₁ R₁ r₁ => b.use R₁ fun v₂ s₂ k₂ R₂ r₂ => ?_)
  cases r₁; cases r₂
  refine SB.add (fun t' k => ?_) (by rw [S_len, S_len]; exact hz)
  rw [S_app]; exact ⟨k₁.tr (k₂.tr .tok), .str _ _⟩

/-! ## comparisons -/
def CmpOk (prog : Program) (w : World) (op : CmpOp) (d₁ d₂ : D) (b : Bool) : Prop :=
  ∀ (A : Around) (X : List Addr) (s : Shared) (v₁ v₂ : Value), A.handled = none → A.units + 80 < cLine → Rep s.heap X v₁ d₁ → Rep s.heap X v₂ d₂ → wpAny (model prog w) A (compareOp op v₁ v₂) (fun v s' => Go s s' ∧ v = .bool b) (fun _ _ => False) s
theorem CmpOk.use {A : Around} {op : CmpOp} {d₁ d₂ : D} {b : Bool} {v₁ v₂ : Value} {Q : Value → Shared → Prop} {E : Value → Shared → Prop} (x : CmpOk prog w op d₁ d₂ b) (ha : A.handled = none) (hu : A.units + 80 < cLine) (r₁ : Rep s.heap X v₁ d₁) (r₂ : Rep s.heap X v₂ d₂)
    (h : ∀ s', Go s s' → Q (.bool b) s') : wpAny (model prog w) A (compareOp op v₁ v₂) Q E s :=
  wpAny_mono (x A X s v₁ v₂ ha hu r₁ r₂) (fun v s' y => by obtain ⟨k, rfl⟩ := y; exact h s' k) fun _ _ f => f.elim
theorem Ok.un8 {c : Cx} (o : Ok c) : c.A.units + 80 < cLine := by have := o.un; omega

theorem ev_cmp {e₁ e₂ : Expr} {op : CmpOp} {pos : Pos} {d₁ d₂ : D} {b : Bool} (x : Ev prog w c X σ e₁ d₁) (y : Ev prog w c X σ e₂ d₂) (z : CmpOk prog w op d₁ d₂ b) (hm : behindInMarks op e₂ = false := by with_unfolding_all rfl) :
    Ev prog w c X σ (.Compare e₁ [op] [e₂] pos) (.bool b) := by
  intro s R
  refine wpAny_Compare1 (x.use R fun v₁ s₁ k₁ R₁ r₁ => y.use R₁ fun v₂ s₂ k₂ R₂ r₂ => z.use R.ok.hd R.ok.un8 (r₁.keep k₂.kp) r₂ fun s₃ k₃ => ?_) hm
  exact ⟨k₁.tr (k₂.tr k₃), .bool _⟩
theorem evb_cmp {e₁ e₂ : Expr} {op : CmpOp} {pos : Pos} {d₁ d₂ : D} {b : Bool} (x : Ev prog w c X σ e₁ d₁) (y : Ev prog w c X σ e₂ d₂) (z : CmpOk prog w op d₁ d₂ b) (hm : behindInMarks op e₂ = false := by with_unfolding_all rfl) :
    EvB prog w c X σ (.Compare e₁ [op] [e₂] pos) b := by
  intro s R
  refine wpAny_isTrue_Compare1 (x.use R fun v₁ s₁ k₁ R₁ r₁ => y.use R₁ fun v₂ s₂ k₂ R₂ r₂ => z.use R.ok.hd R.ok.un8 (r₁.keep k₂.kp) r₂ fun s₃ k₃ => ?_) hm
  exact wpAny_truthy_bool ⟨k₁.tr (k₂.tr k₃), rfl⟩

theorem cmp_eq_int {i j : Int} : CmpOk prog w .Eq (.int i) (.int j) (i == j) := fun A X s v₁ v₂ _ _ r₁ r₂ => by cases r₁; cases r₂; exact P.eq_int ⟨.rfl, rfl⟩
theorem cmp_ne_int {i j : Int} : CmpOk prog w .NotEq (.int i) (.int j) (i != j) := fun A X s v₁ v₂ _ _ r₁ r₂ => by cases r₁; cases r₂; exact P.ne_int ⟨.rfl, rfl⟩
theorem cmp_lt_int {i j : Int} : CmpOk prog w .Lt (.int i) (.int j) (decide (i < j)) := fun A X s v₁ v₂ _ _ r₁ r₂ => by cases r₁; cases r₂; exact P.lt_int ⟨.rfl, rfl⟩
theorem cmp_le_int {i j : Int} : CmpOk prog w .LtE (.int i) (.int j) (decide (i ≤ j)) := fun A X s v₁ v₂ _ _ r₁ r₂ => by cases r₁; cases r₂; exact P.le_int ⟨.rfl, rfl⟩
theorem cmp_gt_int {i j : Int} : CmpOk prog w .Gt (.int i) (.int j) (decide (i > j)) := fun A X s v₁ v₂ _ _ r₁ r₂ => by cases r₁; cases r₂; exact P.gt_int ⟨.rfl, rfl⟩
theorem cmp_ge_int {i j : Int} : CmpOk prog w .GtE (.int i) (.int j) (decide (i ≥ j)) := fun A X s v₁ v₂ _ _ r₁ r₂ => by cases r₁; cases r₂; exact P.ge_int ⟨.rfl, rfl⟩
theorem cmp_eq_str {l m : List Nat} : CmpOk prog w .Eq (.str l) (.str m) (l == m) := fun A X s v₁ v₂ _ _ r₁ r₂ => by cases r₁; cases r₂; exact P.eq_str ⟨.rfl, rfl⟩
theorem cmp_ne_str {l m : List Nat} : CmpOk prog w .NotEq (.str l) (.str m) (l != m) := fun A X s v₁ v₂ _ _ r₁ r₂ => by cases r₁; cases r₂; exact P.ne_str ⟨.rfl, rfl⟩
theorem cmp_in_str {l m : List Nat} : CmpOk prog w .In (.str l) (.str m) (Txt.contains (S m) (S l)) := fun A X s v₁ v₂ _ _ r₁ r₂ => by cases r₁; cases r₂; exact SB.contains ⟨.rfl, rfl⟩
theorem cmp_notIn_str {l m : List Nat} : CmpOk prog w .NotIn (.str l) (.str m) (!Txt.contains (S m) (S l)) := fun A X s v₁ v₂ _ _ r₁ r₂ => by cases r₁; cases r₂; exact SB.notContains ⟨.rfl, rfl⟩

/-! ## tests -/
theorem evb_not {e : Expr} {pos : Pos} {b : Bool} (x : EvB prog w c X σ e b) : EvB prog w c X σ (.UnaryOp .Not e pos) (!b) := by
  intro s R
  exact isTrue_not (x.use R fun s' k _ => ⟨k, rfl⟩)
theorem evb_and1 {e : Expr} {pos : Pos} {b : Bool} (x : EvB prog w c X σ e b) : EvB prog w c X σ (.BoolOp .And [e] pos) b := by
  intro s R
  refine isTrue_and (x.use R fun s' k _ => ?_)
  cases b
  · exact ⟨k, rfl⟩
  · exact isTrue_and_nil ⟨k, rfl⟩
theorem evb_and {e e' : Expr} {r : List Expr} {pos : Pos} {b b' : Bool} (x : EvB prog w c X σ e b) (y : b = true → EvB prog w c X σ (.BoolOp .And (e' :: r) pos) b') : EvB prog w c X σ (.BoolOp .And (e :: e' :: r) pos) (b && b') := by
  intro s R
  refine isTrue_and (x.use R fun s' k R' => ?_)
  cases b
  · exact ⟨k, rfl⟩
  · exact wpAny_mono (y rfl s' R') (fun _ _ z => ⟨k.tr z.1, z.2⟩) fun _ _ f => f
theorem evb_or1 {e : Expr} {pos : Pos} {b : Bool} (x : EvB prog w c X σ e b) : EvB prog w c X σ (.BoolOp .Or [e] pos) b := by
  intro s R
  refine isTrue_or (x.use R fun s' k _ => ?_)
  cases b
  · exact isTrue_or_nil ⟨k, rfl⟩
  · exact ⟨k, rfl⟩
theorem evb_or {e e' : Expr} {r : List Expr} {pos : Pos} {b b' : Bool} (x : EvB prog w c X σ e b) (y : b = false → EvB prog w c X σ (.BoolOp .Or (e' :: r) pos) b') : EvB prog w c X σ (.BoolOp .Or (e :: e' :: r) pos) (b || b') := by
  intro s R
  refine isTrue_or (x.use R fun s' k R' => ?_)
  cases b
  · exact wpAny_mono (y rfl s' R') (fun _ _ z => ⟨k.tr z.1, z.2⟩) fun _ _ f => f
  · exact ⟨k, rfl⟩
theorem evb_chain {e₁ e₂ e₃ : Expr} {op₁ op₂ : CmpOp} {pos : Pos} {d₁ d₂ d₃ : D} {b₁ b₂ : Bool} (x : Ev prog w c X σ e₁ d₁) (y : Ev prog w c X σ e₂ d₂) (z : Ev prog w c X σ e₃ d₃) (p : CmpOk prog w op₁ d₁ d₂ b₁) (q : CmpOk prog w op₂ d₂ d₃ b₂)
    (hm : lastMarks [op₁, op₂] [e₂, e₃] = false := by with_unfolding_all rfl) : EvB prog w c X σ (.Compare e₁ [op₁, op₂] [e₂, e₃] pos) (b₁ && b₂) := by
  intro s R
  refine isTrue_chain (x.use R fun v₁ s₁ k₁ R₁ r₁ => test_link (y.use R₁ fun v₂ s₂ k₂ R₂ r₂ => p.use R.ok.hd R.ok.un8 (r₁.keep k₂.kp) r₂ fun s₃ k₃ => wpAny_truthy_bool ?_)) hm
  cases b₁
  · exact ⟨k₁.tr (k₂.tr k₃), rfl⟩
  · refine test_last (z.use (R₂.go k₃) fun v₃ s₄ k₄ R₄ r₄ => q.use R.ok.hd R.ok.un8 (r₂.keep (k₃.tr k₄).kp) r₄ fun s₅ k₅ => wpAny_truthy_bool ?_)
    exact ⟨k₁.tr (k₂.tr (k₃.tr (k₄.tr k₅))), rfl⟩
theorem evb_str {e : Expr} {l : List Nat} (x : Ev prog w c X σ e (.str l)) (hz : l.length ≤ sizeLine) (he : ∀ whole, isTrue e c.env whole = (do let v ← whole; standAt e.pos; holding [v] (truthy v)) := by intro _; rfl) : EvB prog w c X σ e (l != []) := by
  intro s R
  refine isTrue_plain (x.use R fun v s₁ k₁ R₁ r₁ => ?_) (he _)
  cases r₁
  refine P.truthy_str (x := S l) (by rw [S_len]; rw [sizeLine_eq] at hz; omega) ⟨k₁.tr .tok, ?_⟩
  rw [S_len]
  cases l with
  | nil => rfl
  | cons a r =>
    have : ((a :: r : List Nat).length : Int) ≠ 0 := by simp only [List.length_cons]; omega
    rw [show (((a :: r : List Nat).length : Int) != 0) = true from bne_iff_ne.mpr this]; rfl
theorem evb_bool {e : Expr} {b : Bool} (x : Ev prog w c X σ e (.bool b)) (he : ∀ whole, isTrue e c.env whole = (do let v ← whole; standAt e.pos; holding [v] (truthy v)) := by intro _; rfl) : EvB prog w c X σ e b := by
  intro s R
  refine isTrue_plain (x.use R fun v s₁ k₁ R₁ r₁ => ?_) (he _)
  cases r₁
  exact wpAny_truthy_bool ⟨k₁, rfl⟩

theorem ev_ite {t e₁ e₂ : Expr} {pos : Pos} {b : Bool} {d : D} (x : EvB prog w c X σ t b) (y : b = true → Ev prog w c X σ e₁ d) (z : b = false → Ev prog w c X σ e₂ d) : Ev prog w c X σ (.IfExp t e₁ e₂ pos) d := by
  intro s R
  refine IfExp_ (x.use R fun s' k R' => ?_)
  cases b
  · exact (z rfl s' R').of k
  · exact (y rfl s' R').of k
end
end Mine
end
section
open PySem PySem.W PyProof.Rows
namespace Mine
section
variable {prog : Program} {w : World} {c : Cx} {X : List Addr} {σ : Store} {s : Shared}

/-! ## several expressions -/
def EvAll (prog : Program) (w : World) (c : Cx) (X : List Addr) (σ : Store) (pos : Pos) (es : List Expr) (ds : List D) : Prop :=
  ∀ s, Rel c X σ s → wpAny (model prog w) c.A (spliced (backTo pos (starEach es c.env))) (fun vs s' => Go s s' ∧ RepAll s'.heap X vs ds) (fun _ _ => False) s
theorem EvAll.use {pos : Pos} {es : List Expr} {ds : List D} {Q : List Value → Shared → Prop} {E : Value → Shared → Prop} (x : EvAll prog w c X σ pos es ds) (R : Rel c X σ s)
    (h : ∀ vs s', Go s s' → Rel c X σ s' → RepAll s'.heap X vs ds → Q vs s') : wpAny (model prog w) c.A (spliced (backTo pos (starEach es c.env))) Q E s :=
  wpAny_mono (x s R) (fun v s' y => h v s' y.1 (R.go y.1) y.2) fun _ _ f => f.elim
theorem evall_nil {pos : Pos} : EvAll prog w c X σ pos [] [] := fun _ _ => Calls.spliced_nil ⟨.rfl, .nil⟩
theorem evall_cons {pos : Pos} {e : Expr} {es : List Expr} {d : D} {ds : List D} (x : Ev prog w c X σ e d) (y : EvAll prog w c X σ pos es ds) (he : starEach (e :: es) c.env = (false, eval e c.env) :: starEach es c.env := by rfl) :
    EvAll prog w c X σ pos (e :: es) (d :: ds) := by
  intro s R
  rw [he]
  refine Calls.spliced_cons (x.use R fun v₁ s₁ k₁ R₁ r₁ => y.use R₁ fun vs s₂ k₂ R₂ r₂ => ?_)
  exact ⟨k₁.tr k₂, .cons (r₁.keep k₂.kp) r₂⟩

theorem notIn_of_none {h : Heap} {r : Addr} (hX : ∀ r ∈ X, ∃ vs, h.IsList r vs) (e : h.get? r = none) : r ∉ X := fun m => by
  obtain ⟨vs, o, ho, _⟩ := hX r m
  rw [e] at ho; cases ho
theorem none_size (h : Heap) : h.get? h.objs.size = none := by
  cases q : h.get? h.objs.size with
  | none => rfl
  | some o => exact absurd (Heap.lt_size q) (Nat.lt_irrefl _)

theorem ev_tuple {es : List Expr} {ds : List D} {k : Nat} {pos : Pos} (x : EvAll prog w c X σ pos es ds) (hz : ds.length ≤ sizeLine) : Ev prog w c X σ (.Tuple es k pos) (.tup ds) := by
  intro s R
  refine Tuple_ (x.use R fun vs s₁ k₁ R₁ r₁ => ?_)
  refine wpAny_newObj_type ⟨k₁.tr (.heap (Kp.push _ _)), .tup ⟨_, Heap.get?_push_size _ rfl, rfl, _, rfl⟩ (r₁.keep (Kp.push _ _))⟩ ?_
  show vs.toArray.size ≤ sizeLine
  rw [List.size_toArray, r₁.length]; exact hz
theorem ev_list {es : List Expr} {ds : List D} {pos : Pos} (x : EvAll prog w c X σ pos es ds) (hz : ds.length ≤ sizeLine) : Ev prog w c X σ (.List es pos) (.lst ds) := by
  intro s R
  refine List_ (x.use R fun vs s₁ k₁ R₁ r₁ => ?_)
  refine wpAny_newObj_type ⟨k₁.tr (.heap (Kp.push _ _)), .lst ⟨_, Heap.get?_push_size _ rfl, rfl, _, rfl⟩ (notIn_of_none R₁.hasX (none_size _)) (r₁.keep (Kp.push _ _))⟩ ?_
  show vs.toArray.size ≤ sizeLine
  rw [List.size_toArray, r₁.length]; exact hz

/-! ## calls of built-in functions -/
theorem ev_blt1 {f : Str} {np pos : Pos} {e : Expr} {id : String} {d₁ d : D} (hf : EvV prog w c X σ (.Name f np) (.builtin id)) (x : Ev prog w c X σ e d₁)
    (g : ∀ (s : Shared) (v : Value), Rel c X σ s → Rep s.heap X v d₁ → Gv prog w c.A X (call (.builtin id) [v]) d s) (hs : starEach [e] c.env = [(false, eval e c.env)] := by rfl) :
    Ev prog w c X σ (.Call (.Name f np) [e] [] pos) d := by
  intro s R
  refine Call_name1 hs (hf.use R fun s₁ k₁ R₁ => callWith_builtin1 (x.use R₁ fun v s₂ k₂ R₂ r₂ => ?_))
  exact (g s₂ v R₂ r₂).of (k₁.tr k₂)
theorem ev_blt2 {f : Str} {np pos : Pos} {e e' : Expr} {id : String} {d₁ d₂ d : D} (hf : EvV prog w c X σ (.Name f np) (.builtin id)) (x : EvAll prog w c X σ pos [e, e'] [d₁, d₂])
    (g : ∀ (s : Shared) (v v' : Value), Rel c X σ s → Rep s.heap X v d₁ → Rep s.heap X v' d₂ → Gv prog w c.A X (call (.builtin id) [v, v']) d s) (hs : starEach [e, e'] c.env = [(false, eval e c.env), (false, eval e' c.env)] := by rfl) :
    Ev prog w c X σ (.Call (.Name f np) [e, e'] [] pos) d := by
  intro s R
  refine wpAny_Call_Name_kw (hf.use R fun s₁ k₁ R₁ => Calls.callWith_builtin (by rw [hs]; rfl) ?_)
  have y := x s₁ R₁
  rw [hs] at y ⊢
  refine Calls.evalArgs_plain (wpAny_mono y (fun vs s₂ z => ?_) fun _ _ f => f.elim)
  obtain ⟨k₂, r⟩ := z
  cases r with
  | cons r₁ r => cases r with
    | cons r₂ r => cases r; exact (g s₂ _ _ (R₁.go k₂) r₁ r₂).of (k₁.tr k₂)
theorem ev_len_str {f : Str} {np pos : Pos} {e : Expr} {l : List Nat} (hf : EvV prog w c X σ (.Name f np) (.builtin "len")) (x : Ev prog w c X σ e (.str l)) (hz : l.length ≤ sizeLine) (hs : starEach [e] c.env = [(false, eval e c.env)] := by rfl) :
    Ev prog w c X σ (.Call (.Name f np) [e] [] pos) (.int l.length) := by
  refine ev_blt1 hf x (fun s v R r => ?_) hs
  cases r
  refine P.len_str (by rw [S_len]; rw [sizeLine_eq] at hz; omega) ⟨.tok, ?_⟩
  rw [S_len]; exact .int _ _
theorem ev_len_lst {f : Str} {np pos : Pos} {e : Expr} {l : List D} (hf : EvV prog w c X σ (.Name f np) (.builtin "len")) (x : Ev prog w c X σ e (.lst l)) (hz : l.length ≤ sizeLine) (hs : starEach [e] c.env = [(false, eval e c.env)] := by rfl) :
    Ev prog w c X σ (.Call (.Name f np) [e] [] pos) (.int l.length) := by
  refine ev_blt1 hf x (fun s v R r => ?_) hs
  cases r with
  | lst a n q =>
    refine len_list a (by rw [List.size_toArray, q.length]; rw [sizeLine_eq] at hz; omega) ?_
    rw [List.size_toArray, q.length]; exact ⟨.tok, .int _ _⟩
theorem ev_chr {f : Str} {np pos : Pos} {e : Expr} {i : Int} (hf : EvV prog w c X σ (.Name f np) (.builtin "chr")) (x : Ev prog w c X σ e (.int i)) (h0 : 0 ≤ i) (h1 : i ≤ 1114111) (hs : starEach [e] c.env = [(false, eval e c.env)] := by rfl) :
    Ev prog w c X σ (.Call (.Name f np) [e] [] pos) (.str [i.toNat]) := by
  refine ev_blt1 hf x (fun s v R r => ?_) hs
  cases r
  exact chr_of_range h0 h1 ⟨.tok, .str _ _⟩
theorem ev_ord {f : Str} {np pos : Pos} {e : Expr} {n : Nat} (hf : EvV prog w c X σ (.Name f np) (.builtin "ord")) (x : Ev prog w c X σ e (.str [n])) (hs : starEach [e] c.env = [(false, eval e c.env)] := by rfl) :
    Ev prog w c X σ (.Call (.Name f np) [e] [] pos) (.int n) := by
  refine ev_blt1 hf x (fun s v R r => ?_) hs
  cases r
  exact P.ord_of_char ⟨.tok, .int _ _⟩

/-! ## methods of texts -/
theorem methS0 {name : Str} {id : String} {o : Expr} {apos pos : Pos} {l : List Nat} {d : D} (slot : Slot "str" name id) (ty : typeOf (.builtin id) = pure (.type "method_descriptor"))
    (x : Ev prog w c X σ o (.str l)) (g : ∀ (s : Shared) (t : Tok), Rel c X σ s → Gv prog w c.A X (call (.builtin id) [.str (S l) t]) d s)
    (hline : (apos.endLine == pos.line) = true := by rfl) (hbase : attributeBase o name c.env (eval o c.env) = eval o c.env := by rfl) :
    Ev prog w c X σ (.Call (.Attribute o name apos) [] [] pos) d := by
  intro s R
  refine Call_method0 hbase hline (x.use R fun v s₁ k₁ R₁ r₁ => ?_)
  cases r₁
  refine ⟨"str", id, F.plainAttrs_str, slot, ty, typeIs_str _ _ _, (fun _ e => nomatch e), Calls.callWith_builtin rfl (evalArgs_nil3 ?_)⟩
  exact (g s₁ _ R₁).of k₁
theorem methS {name : Str} {id : String} {o e : Expr} {es : List Expr} {apos pos : Pos} {l : List Nat} {ds : List D} {d : D} (slot : Slot "str" name id) (ty : typeOf (.builtin id) = pure (.type "method_descriptor"))
    (x : Ev prog w c X σ o (.str l)) (y : EvAll prog w c X σ pos (e :: es) ds)
    (g : ∀ (s : Shared) (t : Tok) (vs : List Value), Rel c X σ s → RepAll s.heap X vs ds → Gv prog w c.A X (call (.builtin id) (.str (S l) t :: vs)) d s)
    (hline : (apos.endLine == pos.line) = true := by rfl) (hbase : attributeBase o name c.env (eval o c.env) = eval o c.env := by rfl)
    (he : starEach (e :: es) c.env = (false, eval e c.env) :: starEach es c.env := by rfl)
    (hfew : ((backTo pos (starEach (e :: es) c.env)).all (fun x => !x.1) && (backToKw pos (keywordEach [] c.env)).all (fun x => x.1.isSome)
      && decide ((e :: es).length + ([] : List Keyword).length + (if ([] : List Keyword).isEmpty then 0 else 1) < 30)) = true := by rfl) :
    Ev prog w c X σ (.Call (.Attribute o name apos) (e :: es) [] pos) d := by
  intro s R
  have hany : (backTo pos (starEach (e :: es) c.env)).any (·.1) = false := by
    have := (Bool.and_eq_true_iff.mp (Bool.and_eq_true_iff.mp hfew).1).1
    rw [List.any_eq_false]
    intro z hz
    have := List.all_eq_true.mp this z hz
    simpa using this
  refine wpAny_Call_method_lateS hbase hfew hline (x.use R fun v s₁ k₁ R₁ r₁ => ?_)
  cases r₁
  refine ⟨"str", id, F.plainAttrs_str, slot, ty, typeIs_str _ _ _, (fun _ e => nomatch e), Calls.callWith_builtin hany ?_⟩
  have yy := y s₁ R₁
  rw [he] at yy ⊢
  exact Calls.evalArgs_plain (wpAny_mono yy (fun vs s₂ z => (g s₂ _ vs (R₁.go z.1) z.2).of (k₁.tr z.1)) fun _ _ f => f.elim)

theorem RepAll.one {h : Heap} {vs : List Value} {d : D} (r : RepAll h X vs [d]) : ∃ v, vs = [v] ∧ Rep h X v d := by
  cases r with
  | cons a q => cases q; exact ⟨_, rfl, a⟩
theorem RepAll.two {h : Heap} {vs : List Value} {d d' : D} (r : RepAll h X vs [d, d']) : ∃ v v', vs = [v, v'] ∧ Rep h X v d ∧ Rep h X v' d' := by
  cases r with
  | cons a q => obtain ⟨v', rfl, b⟩ := q.one; exact ⟨_, _, rfl, a, b⟩

theorem S_eq (x : Str) : x = S x.cps.toList := (S_toList x).symm
theorem Rep.ofStr {h : Heap} (x : Str) (t : Tok) {l : List Nat} (e : x.cps.toList = l) : Rep h X (.str x t) (.str l) := by
  subst e; conv => arg 3; rw [S_eq x]
  exact .str _ t

theorem ev_rstrip {o : Expr} {apos pos : Pos} {l m : List Nat} (x : Ev prog w c X σ o (.str l)) (hz : l.length ≤ sizeLine) (hm : (Txt.rstrip (S l)).cps.toList = m)
    (hline : (apos.endLine == pos.line) = true := by rfl) (hbase : attributeBase o "rstrip" c.env (eval o c.env) = eval o c.env := by rfl) :
    Ev prog w c X σ (.Call (.Attribute o "rstrip" apos) [] [] pos) (.str m) :=
  methS0 F.slot_str_rstrip F.type_str_rstrip x (fun s t R => SC.rstrip (fun t' k => ⟨.tok, .ofStr _ _ hm⟩) (by rw [S_len]; exact hz)) hline hbase
theorem ev_rstripChars {o e : Expr} {apos pos : Pos} {l y m : List Nat} (x : Ev prog w c X σ o (.str l)) (hy : Ev prog w c X σ e (.str y)) (hz : l.length ≤ sizeLine) (hm : (Txt.rstripChars (S l) (S y)).cps.toList = m)
    (hline : (apos.endLine == pos.line) = true := by rfl) (hbase : attributeBase o "rstrip" c.env (eval o c.env) = eval o c.env := by rfl)
    (he : starEach [e] c.env = (false, eval e c.env) :: starEach [] c.env := by rfl) :
    Ev prog w c X σ (.Call (.Attribute o "rstrip" apos) [e] [] pos) (.str m) :=
  methS F.slot_str_rstrip F.type_str_rstrip x (evall_cons hy evall_nil he) (fun s t vs R r => by
    obtain ⟨v, rfl, q⟩ := r.one
    cases q
    exact SC.rstripChars (fun t' k => ⟨.tok, .ofStr _ _ hm⟩) (by rw [S_len]; exact hz)) hline hbase he (by rw [he]; rfl)
theorem ev_endswith {o e : Expr} {apos pos : Pos} {l y : List Nat} (x : Ev prog w c X σ o (.str l)) (hy : Ev prog w c X σ e (.str y))
    (hline : (apos.endLine == pos.line) = true := by rfl) (hbase : attributeBase o "endswith" c.env (eval o c.env) = eval o c.env := by rfl)
    (he : starEach [e] c.env = (false, eval e c.env) :: starEach [] c.env := by rfl) :
    Ev prog w c X σ (.Call (.Attribute o "endswith" apos) [e] [] pos) (.bool (Txt.endswith (S l) (S y))) :=
  methS F.slot_str_endswith F.type_str_endswith x (evall_cons hy evall_nil he) (fun s t vs R r => by
    obtain ⟨v, rfl, q⟩ := r.one
    cases q
    exact SC.endswith ⟨.rfl, .bool _⟩) hline hbase he (by rw [he]; rfl)
theorem ev_find {o e : Expr} {apos pos : Pos} {l y : List Nat} (x : Ev prog w c X σ o (.str l)) (hy : Ev prog w c X σ e (.str y))
    (hline : (apos.endLine == pos.line) = true := by rfl) (hbase : attributeBase o "find" c.env (eval o c.env) = eval o c.env := by rfl)
    (he : starEach [e] c.env = (false, eval e c.env) :: starEach [] c.env := by rfl) :
    Ev prog w c X σ (.Call (.Attribute o "find" apos) [e] [] pos) (.int (Txt.find (S l) (S y))) :=
  methS F.slot_str_find F.type_str_find x (evall_cons hy evall_nil he) (fun s t vs R r => by
    obtain ⟨v, rfl, q⟩ := r.one
    cases q
    exact SC.find ⟨.tok, .int _ _⟩) hline hbase he (by rw [he]; rfl)

theorem kept_go {s₀ : Shared} : KeptByPush (Go s₀) := fun _ _ _ x => x.tr (.both (Kp.push _ _))
theorem repAll_strs {h : Heap} : ∀ {l : List (Str × Tok)} {ts : List (List Nat)}, l.map (·.1.cps.toList) = ts → RepAll h X (strValues l) (ts.map .str)
  | [], _, e => by subst e; exact .nil
  | (x, t) :: r, _, e => by subst e; exact .cons (.ofStr _ _ rfl) (repAll_strs rfl)
theorem split_at {A : Around} {E : Value → Shared → Prop} {x y : Str} {t u : Tok} {Q : Value → Shared → Prop} (hy : (y.length == 0) = false)
    (hq : ∀ l k, l.map (·.1) = Txt.split x y → Q (.ref s.heap.objs.size) { s with heap := s.heap.push { cls := .type "list", data := .seq (strValues l).toArray }, toks := k })
    (hsz : x.length ≤ sizeLine) (hsz2 : (Builtin.Str.partsBetween x (Builtin.Str.occurrences x y 0 x.length (x.length + 1)) y.length).length ≤ sizeLine) :
    wpAny (model prog w) A (call (.builtin "str.split") [.str x t, .str y u]) Q E s := by
  cases h1 : (decide (x.length < y.length) || decide (Builtin.Str.strKind x < Builtin.Str.strKind y))
  · cases hf : (Builtin.Str.occurrences x y 0 x.length (x.length + 1)).isEmpty
    · refine call_meets F.slot_str_split (typeIs_str _ _ _) F.entry_str_split (F.args_str_split_2 _ _) (meets_str_split_sep x y t u h1 hy hf hsz hsz2) ?_
      show wants Q E _ { s with toks := _, heap := s.heap.push { cls := .type "list", data := .seq (strsFrom s.toks (Builtin.Str.partsBetween x (Builtin.Str.occurrences x y 0 x.length (x.length + 1)) y.length)).toArray } }
      rw [strsFrom_eq]
      exact hq (numbered s.toks _) _ ((numbered_texts _ _).trans ((if_neg (ne_true_of_eq_false h1)).trans (if_neg (ne_true_of_eq_false hf))).symm)
    · exact call_meets F.slot_str_split (typeIs_str _ _ _) F.entry_str_split (F.args_str_split_2 _ _) (meets_str_split_not_found x y t u h1 hy hf)
        (hq [(x, t)] s.toks ((if_neg (ne_true_of_eq_false h1)).trans (if_pos hf)).symm)
  · exact call_meets F.slot_str_split (typeIs_str _ _ _) F.entry_str_split (F.args_str_split_2 _ _) (meets_str_split_cannot_occur x y t u h1)
      (hq [(x, t)] s.toks (if_pos h1).symm)
theorem splitlines_at {A : Around} {E : Value → Shared → Prop} {x : Str} {t : Tok} {Q : Value → Shared → Prop}
    (hq : ∀ l k, l.map (·.1) = Txt.lines x → Q (.ref s.heap.objs.size) { s with heap := s.heap.push { cls := .type "list", data := .seq (strValues l).toArray }, toks := k })
    (hsz : x.length + 2 ≤ sizeLine) : wpAny (model prog w) A (call (.builtin "str.splitlines") [.str x t]) Q E s := by
  refine call_meets F.slot_str_splitlines (typeIs_str _ _ _) F.entry_str_splitlines (F.args_str_splitlines_1 _) (meets_str_splitlines x t (by omega) (by have := lineCuts_le x; omega)) ?_
  cases hw : lineCuts x == [(0, x.length)]
  · simp only [Bool.false_eq_true, if_false]
    rw [strsFrom_eq]
    exact hq (numbered s.toks (linesOf x)) _ ((numbered_texts _ _).trans (if_neg (ne_true_of_eq_false hw)).symm)
  · simp only [if_true]
    exact hq [(x, t)] s.toks (if_pos hw).symm
theorem rep_new {l : List (Str × Tok)} {ts : List (List Nat)} {k : Nat} (R : Rel c X σ s) (e : l.map (·.1.cps.toList) = ts) :
    Go s { s with heap := s.heap.push { cls := .type "list", data := .seq (strValues l).toArray }, toks := k } ∧ Rep (s.heap.push { cls := .type "list", data := .seq (strValues l).toArray }) X (.ref s.heap.objs.size) (.lst (ts.map .str)) :=
  ⟨.both (Kp.push _ _), .lst ⟨_, Heap.get?_push_size _ rfl, rfl, _, rfl⟩ (notIn_of_none R.hasX (none_size _)) (repAll_strs e)⟩
theorem ev_split {o e : Expr} {apos pos : Pos} {l y : List Nat} {ts : List (List Nat)} (x : Ev prog w c X σ o (.str l)) (hy : Ev prog w c X σ e (.str y)) (hn : y ≠ []) (hz : l.length ≤ sizeLine)
    (hz2 : (Builtin.Str.partsBetween (S l) (Builtin.Str.occurrences (S l) (S y) 0 (S l).length ((S l).length + 1)) (S y).length).length ≤ sizeLine) (hm : (Txt.split (S l) (S y)).map (·.cps.toList) = ts)
    (hline : (apos.endLine == pos.line) = true := by rfl) (hbase : attributeBase o "split" c.env (eval o c.env) = eval o c.env := by rfl)
    (he : starEach [e] c.env = (false, eval e c.env) :: starEach [] c.env := by rfl) :
    Ev prog w c X σ (.Call (.Attribute o "split" apos) [e] [] pos) (.lst (ts.map .str)) :=
  methS F.slot_str_split F.type_str_split x (evall_cons hy evall_nil he) (fun s t vs R r => by
    obtain ⟨v, rfl, q⟩ := r.one
    cases q
    refine split_at (by rw [S_len]; simpa using hn) (fun li k e => rep_new R ?_) (by rw [S_len]; exact hz) hz2
    rw [← hm, ← e, List.map_map]; rfl) hline hbase he (by rw [he]; rfl)
theorem ev_splitlines {o : Expr} {apos pos : Pos} {l : List Nat} {ts : List (List Nat)} (x : Ev prog w c X σ o (.str l)) (hz : l.length + 2 ≤ sizeLine) (hm : (Txt.lines (S l)).map (·.cps.toList) = ts)
    (hline : (apos.endLine == pos.line) = true := by rfl) (hbase : attributeBase o "splitlines" c.env (eval o c.env) = eval o c.env := by rfl) :
    Ev prog w c X σ (.Call (.Attribute o "splitlines" apos) [] [] pos) (.lst (ts.map .str)) :=
  methS0 F.slot_str_splitlines F.type_str_splitlines x (fun s t R => splitlines_at (fun li k e => rep_new R (by rw [← hm, ← e, List.map_map]; rfl)) (by rw [S_len]; exact hz)) hline hbase

theorem strs_of {h : Heap} : ∀ {vs : List Value} {ts : List (List Nat)}, RepAll h X vs (ts.map .str) → ∃ l : List (Str × Tok), vs = strValues l ∧ l.map (·.1) = ts.map S
  | _, [], r => by cases r; exact ⟨[], rfl, rfl⟩
  | _, t :: ts, r => by
    cases r with
    | cons a q =>
      obtain ⟨l, rfl, e⟩ := strs_of q
      cases a with
      | str _ k => exact ⟨(S t, k) :: l, rfl, by simp [e]⟩
theorem ev_join {o e : Expr} {apos pos : Pos} {l m : List Nat} {ts : List (List Nat)} (x : Ev prog w c X σ o (.str l)) (hy : Ev prog w c X σ e (.lst (ts.map .str))) (hok : JoinOk (S l) (ts.map S) = true) (hm : (Txt.join (S l) (ts.map S)).cps.toList = m)
    (hline : (apos.endLine == pos.line) = true := by rfl) (hbase : attributeBase o "join" c.env (eval o c.env) = eval o c.env := by rfl)
    (he : starEach [e] c.env = (false, eval e c.env) :: starEach [] c.env := by rfl) :
    Ev prog w c X σ (.Call (.Attribute o "join" apos) [e] [] pos) (.str m) :=
  methS F.slot_str_join F.type_str_join x (evall_cons hy evall_nil he) (fun s t vs R r => by
    obtain ⟨v, rfl, q⟩ := r.one
    cases q with
    | lst a n q =>
      obtain ⟨li, rfl, e⟩ := strs_of q
      exact SC.join a e hok (fun t' k => ⟨.tok, .ofStr _ _ hm⟩)) hline hbase he (by rw [he]; rfl)

/-! ## items and cuts -/
theorem rep_type {h : Heap} {v : Value} {l : List Nat} {s : Shared} (r : Rep h X v (.str l)) : s.TypeIs v "str" := by cases r; exact typeIs_str _ _ _
theorem rep_list {v : Value} {l : List D} (r : Rep s.heap X v (.lst l)) : s.TypeIs v "list" := by
  cases r with
  | lst a n q => exact a.typeIs
theorem rep_tup {v : Value} {l : List D} (r : Rep s.heap X v (.tup l)) : s.TypeIs v "tuple" := by
  cases r with
  | tup a q => exact let ⟨o, ho, hc, _⟩ := a; ⟨o, ho, hc⟩

theorem ev_item {e i : Expr} {pos : Pos} {d d' : D} {T id : String} (x : Ev prog w c X σ e d) (y : Ev prog w c X σ i d')
    (hl : typeLookup (.type T) "__getitem__" = pure (some (.builtin id))) {dr : D}
    (g : ∀ (s : Shared) (v v' : Value), Rel c X σ s → Rep s.heap X v d → Rep s.heap X v' d' → s.TypeIs v T ∧ Gv prog w c.A X (getItem v v') dr s)
    (hs : ∀ o j, subscripted i false o j = operate [o, j] (getItem o j) := by intro _ _; rfl) : Ev prog w c X σ (.Subscript e i pos) dr := by
  intro s R
  refine Subscript_ (x.use R fun v s₁ k₁ R₁ r₁ => y.use R₁ fun v' s₂ k₂ R₂ r₂ => ?_)
  obtain ⟨hT, q⟩ := g s₂ v v' R₂ (r₁.keep k₂.kp) r₂
  exact tail_any hT hl (q.of (k₁.tr k₂)) (hs v v')
theorem ev_item_str {e i : Expr} {pos : Pos} {l : List Nat} {j : Int} {n : Nat} (x : Ev prog w c X σ e (.str l)) (y : Ev prog w c X σ i (.int j)) (h1 : -(l.length : Int) ≤ j) (h2 : j < l.length) (hz : l.length ≤ sizeLine)
    (hn : l[(if j < 0 then j + l.length else j).toNat]? = some n)
    (hs : ∀ o j, subscripted i false o j = operate [o, j] (getItem o j) := by intro _ _; rfl) : Ev prog w c X σ (.Subscript e i pos) (.str [n]) := by
  refine ev_item x y F.slot_str_getitem.lookup (fun s v v' R r r' => ⟨rep_type r, ?_⟩) hs
  cases r; cases r'
  have hc : Txt.charAt (S l) j = some n := by
    unfold Txt.charAt seqIndex?
    rw [S_len]
    by_cases hj : j < 0
    · simp only [hj, if_true] at hn ⊢
      rw [if_pos (by simp only [Bool.and_eq_true, decide_eq_true_eq]; omega)]
      simpa using hn
    · simp only [hj, if_false] at hn ⊢
      rw [if_pos (by simp only [Bool.and_eq_true, decide_eq_true_eq]; omega)]
      simpa using hn
  refine SB.getItem ?_ (by rw [hc]; rfl) ⟨.tok, .ofStr _ _ ?_⟩
  · unfold fitsSsize
    rw [sizeLine_eq] at hz
    have a : ¬ j < -(2 ^ 63 : Int) := by omega
    have b : ¬ j ≥ (2 ^ 63 : Int) := by omega
    simp only [a, b, decide_false, Bool.or_self, Bool.not_false]
  · unfold Txt.item; rw [hc]; rfl
theorem get_lst {A : Around} {vs : List Value} {ds : List D} {a : Addr} {j : Int} {t : Tok} {d : D} (hl : s.heap.IsList a vs.toArray) (q : RepAll s.heap X vs ds) (h1 : -(ds.length : Int) ≤ j) (h2 : j < ds.length) (hz : ds.length ≤ sizeLine)
    (hn : ds[(if j < 0 then j + ds.length else j).toNat]? = some d) : Gv prog w A X (getItem (.ref a) (.int j t)) d s := by
  obtain ⟨v, hv, r⟩ := q.get hn
  rw [sizeLine_eq] at hz
  by_cases hj : j < 0
  · simp only [hj, if_true] at hv
    exact wpAny_getItem_list_neg hl hj (by rw [List.size_toArray, q.length]; exact h1) (by omega) (by rw [List.size_toArray, q.length]; simpa using hv) ⟨.rfl, r⟩
  · simp only [hj, if_false] at hv
    exact wpAny_getItem_list hl (by omega) (by omega) (by simpa using hv) ⟨.rfl, r⟩
theorem ev_item_lst {e i : Expr} {pos : Pos} {ds : List D} {j : Int} {d : D} (x : Ev prog w c X σ e (.lst ds)) (y : Ev prog w c X σ i (.int j)) (h1 : -(ds.length : Int) ≤ j) (h2 : j < ds.length) (hz : ds.length ≤ sizeLine)
    (hn : ds[(if j < 0 then j + ds.length else j).toNat]? = some d)
    (hs : ∀ o j, subscripted i false o j = operate [o, j] (getItem o j) := by intro _ _; rfl) : Ev prog w c X σ (.Subscript e i pos) d := by
  refine ev_item x y slot_list_getitem.lookup (fun s v v' R r r' => ⟨rep_list r, ?_⟩) hs
  cases r' with
  | int _ t => cases r with
    | lst a n q => exact get_lst a q h1 h2 hz hn
theorem ev_item_tup {e i : Expr} {pos : Pos} {ds : List D} {j : Int} {n : Nat} {d : D} (x : Ev prog w c X σ e (.tup ds)) (y : Ev prog w c X σ i (.int j)) (hlo : -(2 ^ 63) ≤ j) (hhi : j < 2 ^ 63) (hj : seqIndex? j ds.length = some n)
    (hn : ds[n]? = some d)
    (hs : ∀ o j, subscripted i false o j = operate [o, j] (getItem o j) := by intro _ _; rfl) : Ev prog w c X σ (.Subscript e i pos) d := by
  refine ev_item x y slot_tuple_getitem.lookup (fun s v v' R r r' => ⟨rep_tup r, ?_⟩) hs
  cases r' with
  | int _ t => cases r with
    | tup a q =>
      obtain ⟨v, hv, r⟩ := q.get hn
      exact getItem_tuple a hlo hhi (by rw [List.size_toArray, q.length]; exact hj) (by simpa using hv) ⟨.rfl, r⟩
/-- an item of a list that may still grow -/
theorem ev_item_own {y : Str} {i : Expr} {np pos : Pos} {r : Addr} {ds : List D} {j : Int} {d : D} (hx : σ.lookup y = some (.own r ds)) (yi : Ev prog w c X σ i (.int j)) (h1 : -(ds.length : Int) ≤ j) (h2 : j < ds.length) (hz : ds.length ≤ sizeLine)
    (hn : ds[(if j < 0 then j + ds.length else j).toNat]? = some d)
    (hs : ∀ o j, subscripted i false o j = operate [o, j] (getItem o j) := by intro _ _; rfl) (hd : (y == ("__debug__" : Str)) = false := by decide) : Ev prog w c X σ (.Subscript (.Name y np) i pos) d := by
  intro s R
  obtain ⟨m, n, q⟩ := R.ns
  obtain ⟨v, a, rfl, b1, b2, vs, b3, b4⟩ := q y _ hx
  refine Subscript_ (wpAny_Name (load_var R.ok.kind n a (yi.use R fun v' s₂ k₂ R₂ r₂ => ?_)) hd)
  cases r₂ with
  | int _ t => exact tail_any (k₂.kp.list b3.isList).typeIs slot_list_getitem.lookup ((get_lst (k₂.kp.list b3.isList) (b4.keep k₂.kp) h1 h2 hz hn).of k₂) (hs _ _)
end
end Mine
end
section
open PySem PySem.W PyProof.Rows PyProof.V PySem.Spec PySem.SeqAt
namespace Mine

/-! ## cuts of lists, plain -/
def clipI (n : Nat) (v : Option Int) (dflt : Nat) : Nat := match v with
  | none => dflt
  | some i => (max 0 (min (if i < 0 then i + n else i) (n : Int))).toNat
def cut {α : Type} (l : List α) (lo hi : Option Int) : List α := (l.take (clipI l.length hi l.length)).drop (clipI l.length lo 0)

theorem range_pick {α : Type} (l : List α) (a : Nat) : ∀ m, (List.range m).filterMap (fun k => l[a + k]?) = (l.drop a).take m
  | 0 => by simp
  | m + 1 => by
    rw [List.range_succ, List.filterMap_append, range_pick l a m, List.take_add_one]
    simp only [List.filterMap_cons, List.filterMap_nil, List.getElem?_drop]
    cases l[a + m]? <;> simp
theorem sliceRange_pick {α : Type} (l : List α) (a b : Nat) : (sliceRange (a : Int) (b : Int) 1).filterMap (l[·]?) = (l.take b).drop a := by
  have e : sliceRange (a : Int) (b : Int) 1 = (List.range (b - a)).map (fun k => a + k) := by
    unfold sliceRange
    simp only [show (1 : Int) > 0 by decide, if_true]
    have : (if (a : Int) < b then ((b : Int) - a + 1 - 1) / 1 else 0).toNat = b - a := by
      split <;> simp <;> omega
    rw [this]
    refine List.map_congr_left fun k _ => ?_
    omega
  rw [e, List.filterMap_map]
  show (List.range (b - a)).filterMap (fun k => l[a + k]?) = _
  rw [range_pick, List.drop_take]
theorem clip_le (n : Nat) (v : Option Int) (dflt : Nat) (hd : dflt ≤ n) : clipI n v dflt ≤ n := by
  cases v with
  | none => exact hd
  | some i => simp only [clipI]; omega
theorem strSlice_eq (n : Nat) (lo hi : Option Int) : Builtin.Str.strSliceIndices lo hi 1 n = sliceRange ((clipI n lo 0 : Nat) : Int) ((clipI n hi n : Nat) : Int) 1 := by
  unfold Builtin.Str.strSliceIndices
  simp only [show (1 : Int) > 0 by decide, if_true]
  congr 1
  · cases lo with
    | none => rfl
    | some i => simp only [clipI]; omega
  · cases hi with
    | none => rfl
    | some i => simp only [clipI]; omega
theorem strSlice_pick {α : Type} (l : List α) (lo hi : Option Int) : (Builtin.Str.strSliceIndices lo hi 1 l.length).filterMap (l[·]?) = cut l lo hi := by
  rw [strSlice_eq, sliceRange_pick]; rfl
theorem strSlice_len (n : Nat) (lo hi : Option Int) : (Builtin.Str.strSliceIndices lo hi 1 n).length = clipI n hi n - clipI n lo 0 := by
  rw [strSlice_eq]
  unfold sliceRange
  simp only [show (1 : Int) > 0 by decide, if_true, List.length_map, List.length_range]
  split <;> simp <;> omega
theorem cut_len {α : Type} (l : List α) (lo hi : Option Int) : (cut l lo hi).length = clipI l.length hi l.length - clipI l.length lo 0 := by
  unfold cut
  rw [List.length_drop, List.length_take, Nat.min_eq_left (clip_le _ _ _ (Nat.le_refl _))]
theorem cut_le {α : Type} (l : List α) (lo hi : Option Int) : (cut l lo hi).length ≤ l.length := by
  rw [cut_len]; have := clip_le l.length hi l.length (Nat.le_refl _); omega
theorem cut_all {α : Type} (l : List α) (lo hi : Option Int) (h : (cut l lo hi).length = l.length) : cut l lo hi = l := by
  rw [cut_len] at h
  have h1 := clip_le l.length hi l.length (Nat.le_refl _)
  by_cases h0 : l.length = 0
  · have : l = [] := List.length_eq_zero_iff.mp h0
    subst this
    simp [cut]
  · have e1 : clipI l.length hi l.length = l.length := by omega
    have e2 : clipI l.length lo 0 = 0 := by omega
    unfold cut
    rw [e1, e2]; simp

section
variable {prog : Program} {w : World} {c : Cx} {X : List Addr} {σ : Store} {s : Shared}

inductive EvPart (prog : Program) (w : World) (c : Cx) (X : List Addr) (σ : Store) : Option Expr → Option Int → Prop
  | none : EvPart prog w c X σ none none
  | some {e : Expr} {i : Int} : Ev prog w c X σ e (.int i) → EvPart prog w c X σ (some e) (some i)
theorem EvPart.use {e : Option Expr} {i : Option Int} {Q : Value → Shared → Prop} {E : Value → Shared → Prop} (x : EvPart prog w c X σ e i) (R : Rel c X σ s)
    (h : ∀ p s', Go s s' → Rel c X σ s' → i = p.map (·.1) → Q (partValue p) s') : wpAny (model prog w) c.A (evalPart e c.env) Q E s := by
  cases x with
  | none => exact evalPart_none_step (h Option.none s .rfl R rfl)
  | some y => exact evalPart_some_step (y.use R fun v s' k R' r => by
      cases r with
      | int i t => exact h (Option.some (_, t)) s' k R' rfl)
theorem ev_cut {e : Expr} {lo hi : Option Expr} {p pos : Pos} {l : List Nat} {a b : Option Int} (x : Ev prog w c X σ e (.str l)) (ya : EvPart prog w c X σ lo a) (yb : EvPart prog w c X σ hi b) (hz : l.length ≤ sizeLine) :
    Ev prog w c X σ (.Subscript e (.Slice lo hi none p) pos) (.str (cut l a b)) := by
  intro s R
  refine Subscript_ (x.use R fun v s₁ k₁ R₁ r₁ => wpAny_Slice (ya.use R₁ fun pa s₂ k₂ R₂ ea => yb.use R₂ fun pb s₃ k₃ R₃ eb => evalPart_none_step ?_))
  cases r₁ with
  | str _ t =>
    refine tail_any (ops := [.ref s₃.heap.objs.size, .str (S l) t]) (typeIs_str _ _ _) F.slot_str_getitem.lookup (wpAny_getItem_str_slice (l := pa) (u := pb) (st := none) ⟨_, Heap.get?_push_size _ rfl, rfl, rfl⟩ rfl ?_) rfl
    have kk : Go s { s₃ with heap := s₃.heap.push { cls := .type "slice", data := .fields #[partValue pa, partValue pb, .none] } } := k₁.tr (k₂.tr (k₃.tr (.heap (Kp.push _ _))))
    unfold sliceMade slicePicked
    simp only [Option.map_none, Option.getD_none]
    rw [← ea, ← eb, S_len]
    have hp : ((Builtin.Str.strSliceIndices a b 1 l.length).filterMap ((S l).cps[·]?)) = cut l a b := by
      rw [← strSlice_pick]; congr 1; funext i; simp
    split
    · rename_i hc
      have hc' : (Builtin.Str.strSliceIndices a b 1 l.length).length = l.length := by simpa using hc
      have : cut l a b = l := cut_all l a b (by rw [cut_len, ← strSlice_len]; exact hc')
      rw [this]
      exact ⟨kk, .str l t⟩
    · refine ⟨?_, kk.tr .tok, .ofStr _ _ (by rw [hp])⟩
      rw [hp]
      show (cut l a b).toArray.size ≤ sizeLine
      rw [List.size_toArray]; exact Nat.le_trans (cut_le _ _ _) hz
theorem RepAll.cut {h : Heap} {vs : List Value} {ds : List D} (q : RepAll h X vs ds) (a b : Option Int) : RepAll h X (Mine.cut vs a b) (Mine.cut ds a b) := by
  unfold Mine.cut
  rw [q.length]
  exact (q.take _).drop _
theorem slicePick_cut (vs : List Value) (a b : Option Int) : slicePick vs.toArray a b none = (cut vs a b).toArray := by
  unfold slicePick sliceBounds
  simp only [Option.getD_none, show (1 : Int) > 0 by decide, if_true, List.size_toArray, List.getElem?_toArray]
  congr 1
  have := strSlice_pick vs a b
  unfold Builtin.Str.strSliceIndices at this
  simp only [show (1 : Int) > 0 by decide, if_true] at this
  exact this
theorem ev_cutL {e : Expr} {lo hi : Option Expr} {p pos : Pos} {l : List D} {a b : Option Int} (x : Ev prog w c X σ e (.lst l)) (ya : EvPart prog w c X σ lo a) (yb : EvPart prog w c X σ hi b) (hz : l.length ≤ sizeLine) :
    Ev prog w c X σ (.Subscript e (.Slice lo hi none p) pos) (.lst (cut l a b)) := by
  intro s R
  refine Subscript_ (x.use R fun v s₁ k₁ R₁ r₁ => wpAny_Slice (ya.use R₁ fun pa s₂ k₂ R₂ ea => yb.use R₂ fun pb s₃ k₃ R₃ eb => evalPart_none_step ?_))
  cases r₁ with
  | lst hl n q =>
    rename_i ad vs
    have kk := Kp.push s₃.heap { cls := .type "slice", data := .fields #[partValue pa, partValue pb, .none] }
    have k₄ : Kp s₁.heap _ := (k₂.tr k₃).kp.trans kk
    have isp : ∀ p : Option (Int × Tok), IsPart (partValue p) (p.map (·.1)) := fun p => by
      cases p with
      | none => exact .none
      | some p => exact .int _ _
    refine tail_any (ops := [.ref s₃.heap.objs.size, .ref ad]) (k₄.list hl).typeIs slot_list_getitem.lookup (wpAny_getItem_list_slice (k₄.list hl) (Heap.IsSliceOf.new ..) (isp pa) (isp pb) .none (by simp) ?_ (by rw [List.size_toArray, q.length]; exact hz)) rfl
    rw [← ea, ← eb, slicePick_cut]
    refine ⟨k₁.tr (k₂.tr (k₃.tr (.heap (kk.trans (Kp.push _ _))))), .lst ⟨_, Heap.get?_push_size _ rfl, rfl, _, rfl⟩ ?_ ?_⟩
    · exact notIn_of_none (fun r hr => let ⟨vs, z⟩ := R₃.hasX r hr; ⟨vs, kk.list z⟩) (none_size _)
    · exact (q.keep (k₄.trans (Kp.push _ _))).cut a b

theorem ev_catL {e₁ e₂ : Expr} {pos : Pos} {l m : List D} (a : Ev prog w c X σ e₁ (.lst l)) (b : Ev prog w c X σ e₂ (.lst m)) (hz : l.length + m.length ≤ sizeLine) : Ev prog w c X σ (.BinOp e₁ .Add e₂ pos) (.lst (l ++ m)) := by
  intro s R
  refine wpAny_BinOp (a.use R fun v₁ s₁ k₁ R₁ r₁ => b.use R₁ fun v₂ s₂ k₂ R₂ r₂ => ?_)
  cases r₁ with
  | lst hl n q => cases r₂ with
    | lst hl' n' q' =>
      rename_i ad vs ad' ws
      have hl := k₂.kp.list hl
      obtain ⟨⟨cls, dd, data, sl⟩, ho, hc, n1, hd⟩ := id hl
      obtain ⟨⟨cls2, dd2, data2, sl2⟩, ho2, hc2, n2, hd2⟩ := id hl'
      simp only at hc hd hc2 hd2
      subst hc hd hc2 hd2
      refine concat_meets ⟨_, ho, rfl⟩ ⟨_, ho2, rfl⟩ noFill_list_add seq_list_add PySem.F.slot_list_add PySem.F.entry_list_add (PySem.F.args_list_add_2 _ _) (list_addW _ _ vs.toArray ws.toArray n1 n2 dd dd2 sl sl2 (by rw [List.size_toArray, List.size_toArray, q.length, q'.length]; exact hz)) ⟨ho, ho2, ?_⟩
      rw [show vs.toArray ++ ws.toArray = (vs ++ ws).toArray by simp]
      exact ⟨k₁.tr (k₂.tr (.heap (Kp.push _ _))), .lst ⟨_, Heap.get?_push_size _ rfl, rfl, _, rfl⟩ (notIn_of_none R₂.hasX (none_size _)) (((q'.append (q.keep k₂.kp))).keep (Kp.push _ _))⟩

/-! ## lists of ints -/
theorem ints_of {h : Heap} : ∀ {vs : List Value} {ns : List Int}, RepAll h X vs (ns.map .int) → IntsAre vs ns
  | _, [], r => by cases r; exact .nil
  | _, n :: ns, r => by
    cases r with
    | cons a q => cases a with
      | int _ t => exact .cons n t (ints_of q)
theorem cmp_ne_ints {l m : List Int} : CmpOk prog w .NotEq (.lst (l.map .int)) (.lst (m.map .int)) (!decide (l = m)) := fun A X s v₁ v₂ _ hu r₁ r₂ => by
  cases r₁ with
  | lst a n q => cases r₂ with
    | lst a' n' q' => exact ne_intsK a (ints_of q) a' (ints_of q') (by omega) ⟨.rfl, rfl⟩

/-- as the library's plain data -/
def prD (p : Int × Int) : D := .tup [.int p.1, .int p.2]
def prP (p : Int × Int) : PyData := .tuple [.int p.1, .int p.2]
theorem reads_prs {h : Heap} : ∀ {vs : List Value} {ps : List (Int × Int)}, RepAll h X vs (ps.map prD) → ReadsAll h vs (ps.map prP) []
  | _, [], r => by cases r; exact .nil
  | _, p :: ps, r => by
    cases r with
    | cons a q =>
      cases a with
      | tup ha qa =>
        obtain ⟨v, v', rfl, r₁, r₂⟩ := qa.two
        obtain ⟨o, ho, hc, n, hd⟩ := ha
        cases r₁ with
        | int _ t => cases r₂ with
          | int _ t' =>
            have := ReadsAll.cons (Reads.tuple ho hc hd (.cons (.int _ t) (.cons (.int _ t') .nil))) (reads_prs q)
            simpa [prP] using this
theorem canLay_prs : ∀ ps : List (Int × Int), PyData.canLayAll0 (ps.map prP) = true
  | [] => by simp [PyData.canLayAll0]
  | p :: r => by simp [PyData.canLayAll0, PyData.canLay0, prP, canLay_prs r]
theorem depth_prs : ∀ ps : List (Int × Int), PyData.depthAll (ps.map prP) ≤ 3
  | [] => by simp [PyData.depthAll]
  | p :: r => by
    have := depth_prs r
    simp only [List.map_cons, PyData.depthAll, PyData.depth, prP]
    omega
theorem shaped_prs (ps : List (Int × Int)) : shaped (.list (ps.map prP)) = true := by
  have h1 := depth_prs ps
  have h2 : PyData.depth (.list (ps.map prP)) ≤ 64 := by simp only [PyData.depth]; omega
  show (PyData.canLay0 (.list (ps.map prP)) && decide (PyData.depth (.list (ps.map prP)) ≤ 64)) = true
  rw [Bool.and_eq_true]
  exact ⟨by simp only [PyData.canLay0]; exact canLay_prs ps, decide_eq_true h2⟩
theorem reads_prL {v : Value} {ps : List (Int × Int)} (r : Rep s.heap X v (.lst (ps.map prD))) : ∃ a, Reads s.heap v (.list (ps.map prP)) [a] := by
  cases r with
  | lst a n q =>
    obtain ⟨o, ho, hc, n, hd⟩ := a
    exact ⟨_, Reads.list ho hc hd (by simpa using reads_prs q)⟩
theorem noMix_nil (ps : List (Int × Int)) : noMix (.list (ps.map prP)) (.list []) = true := by cases ps <;> simp [noMix, noMixAll]
theorem same_nil (ps : List (Int × Int)) : PySem.Spec.same (.list (ps.map prP)) (.list []) = ps.isEmpty := by cases ps <;> simp [PySem.Spec.same, PySem.Spec.sameAll]
theorem cmp_eq_nil {ps : List (Int × Int)} : CmpOk prog w .Eq (.lst (ps.map prD)) (.lst []) ps.isEmpty := fun A X s v₁ v₂ _ hu r₁ r₂ => by
  obtain ⟨a, ra⟩ := reads_prL r₁
  obtain ⟨b, rb⟩ := reads_prL (ps := []) r₂
  exact eq_dataH_same ra rb (shaped_prs ps) (shaped_prs []) (by omega) (noMix_nil ps) (by rw [show (([] : List (Int × Int)).map prP) = [] from rfl, same_nil]; exact ⟨.rfl, rfl⟩)
theorem cmp_ne_nil {ps : List (Int × Int)} : CmpOk prog w .NotEq (.lst (ps.map prD)) (.lst []) (!ps.isEmpty) := fun A X s v₁ v₂ _ hu r₁ r₂ => by
  obtain ⟨a, ra⟩ := reads_prL r₁
  obtain ⟨b, rb⟩ := reads_prL (ps := []) r₂
  exact ne_dataH_same ra rb (shaped_prs ps) (shaped_prs []) (by omega) (noMix_nil ps) (by rw [show (([] : List (Int × Int)).map prP) = [] from rfl, same_nil]; exact ⟨.rfl, rfl⟩)

/-! ## in a tuple; is None -/
theorem cmp_in_ints {i : Int} {ns : List Int} : CmpOk prog w .In (.int i) (.tup (ns.map .int)) (ns.any (· == i)) := fun A X s v₁ v₂ _ hu r₁ r₂ => by
  cases r₁ with
  | int _ t => cases r₂ with
    | tup a q =>
      refine in_tupleAt (fun y => match y with | .int k _ => k == i | _ => false) a (fun y hy => ?_) ?_
      · have hI := ints_of q
        have : ∃ k u, y = Value.int k u := by
          rw [List.mem_toArray] at hy
          clear q a
          induction hI with
          | nil => cases hy
          | cons k u _ ih => rcases List.mem_cons.mp hy with rfl | h'; exact ⟨k, u, rfl⟩; exact ih h'
        obtain ⟨k, u, rfl⟩ := this
        exact EqAt.int_int k u i t
      · refine ⟨.rfl, ?_⟩
        congr 1
        have hI := ints_of q
        clear q a
        simp only [List.any_toArray]
        induction hI with
        | nil => rfl
        | cons k u _ ih => simp only [List.any_cons, ih]
theorem strVals_of {h : Heap} : ∀ {vs : List Value} {ts : List (List Nat)}, RepAll h X vs (ts.map .str) → ∀ v ∈ vs, ∃ t u, v = Value.str (S t) u
  | _, [], r, v, hv => by cases r; cases hv
  | _, t :: ts, r, v, hv => by
    cases r with
    | cons a q => cases a with
      | str _ u => rcases List.mem_cons.mp hv with rfl | h'; exact ⟨t, u, rfl⟩; exact strVals_of q v h'
theorem any_strs {h : Heap} (l : List Nat) : ∀ {vs : List Value} {ts : List (List Nat)}, RepAll h X vs (ts.map .str) → vs.any (fun y => match y with | .str k _ => k == S l | _ => false) = ts.any (· == l)
  | _, [], r => by cases r; rfl
  | _, t :: ts, r => by
    cases r with
    | cons a q => cases a with
      | str _ u =>
        simp only [List.any_cons, any_strs l q]
        congr 1
        rw [Bool.eq_iff_iff]; simp [S]
theorem cmp_in_strs {l : List Nat} {ts : List (List Nat)} : CmpOk prog w .In (.str l) (.tup (ts.map .str)) (ts.any (· == l)) := fun A X s v₁ v₂ _ hu r₁ r₂ => by
  cases r₁ with
  | str _ t => cases r₂ with
    | tup a q =>
      refine in_tupleAt (fun y => match y with | .str k _ => k == S l | _ => false) a (fun y hy => ?_) ?_
      · obtain ⟨k, u, rfl⟩ := strVals_of q y (List.mem_toArray.mp hy)
        exact EqAt.str_str _ _ _ _
      · rw [List.any_toArray, any_strs l q]; exact ⟨.rfl, rfl⟩
theorem cmp_notIn_strs {l : List Nat} {ts : List (List Nat)} : CmpOk prog w .NotIn (.str l) (.tup (ts.map .str)) (!ts.any (· == l)) := fun A X s v₁ v₂ _ hu r₁ r₂ => by
  cases r₁ with
  | str _ t => cases r₂ with
    | tup a q =>
      refine notIn_tupleAt (fun y => match y with | .str k _ => k == S l | _ => false) a (fun y hy => ?_) ?_
      · obtain ⟨k, u, rfl⟩ := strVals_of q y (List.mem_toArray.mp hy)
        exact EqAt.str_str _ _ _ _
      · rw [List.any_toArray, any_strs l q]; exact ⟨.rfl, rfl⟩
theorem cmp_is_none : CmpOk prog w .Is .none .none true := fun A X s v₁ v₂ _ _ r₁ r₂ => by
  cases r₁; cases r₂; exact wpAny_is_plain rfl ⟨.rfl, rfl⟩
theorem cmp_is_none_lst {l : List D} : CmpOk prog w .Is (.lst l) .none false := fun A X s v₁ v₂ _ _ r₁ r₂ => by
  cases r₁ with
  | lst a n q => cases r₂; exact wpAny_is_plain rfl ⟨.rfl, rfl⟩

/-! ## sum, max -/
theorem ev_sum {f : Str} {np pos : Pos} {e : Expr} {ns : List Int} (hf : EvV prog w c X σ (.Name f np) (.builtin "sum")) (x : Ev prog w c X σ e (.lst (ns.map .int))) (hs : starEach [e] c.env = [(false, eval e c.env)] := by rfl) :
    Ev prog w c X σ (.Call (.Name f np) [e] [] pos) (.int ns.sum) := by
  refine ev_blt1 hf x (fun s v R r => ?_) hs
  cases r with
  | lst a n q =>
    rename_i ad vs
    have hI := ints_of q
    obtain ⟨xs, hxs⟩ := hI.allInts.items
    have hnums : numsOf (intItems xs).toList = ns := by rw [← hxs, show vs.toArray.toList = vs from rfl, hI.numsOf]
    rw [hxs] at a
    refine sum_intListG R.ok.hd a fun h' tk t' k => ⟨.both k, ?_⟩
    have e : preSum (numAt xs) xs.size = ns.sum := by
      rw [← hnums, nums_intItems, preSum_eq, List.take_of_length_le (by simp)]
    rw [e]; exact .int _ _
theorem ev_max {f : Str} {np pos : Pos} {e e' : Expr} {i j : Int} (hf : EvV prog w c X σ (.Name f np) (.builtin "max")) (x : EvAll prog w c X σ pos [e, e'] [.int i, .int j]) (hs : starEach [e, e'] c.env = [(false, eval e c.env), (false, eval e' c.env)] := by rfl) :
    Ev prog w c X σ (.Call (.Name f np) [e, e'] [] pos) (.int (max i j)) := by
  refine ev_blt2 hf x (fun s v v' R r r' => ?_) hs
  cases r; cases r'
  refine max_two_ints R.ok.hd fun h' tk k => ⟨.both k, ?_⟩
  split
  · rw [Int.max_eq_right (by omega)]; exact .int _ _
  · rw [Int.max_eq_left (by omega)]; exact .int _ _
end
end Mine
end
section
open PySem PySem.W PyProof.Rows
namespace Mine
section
variable {prog : Program} {w : World} {c : Cx} {X : List Addr} {σ : Store} {s : Shared}

theorem Ns.off {h : Heap} {L : Addr} {m : Str → Option Value} (n : h.Ns L m) : Off h X L := by
  obtain ⟨o, es, ep, ho, hd, _⟩ := n
  refine ⟨fun vs t => ?_, fun vs t => ?_⟩
  · obtain ⟨o', ho', _, k, hd'⟩ := t
    rw [ho] at ho'; cases ho'; rw [hd] at hd'; cases hd'
  · obtain ⟨o', ho', _, k, hd'⟩ := t
    rw [ho] at ho'; cases ho'; rw [hd] at hd'; cases hd'

/-- what is changed at r touches no slot -/
structure Apart (c : Cx) (X : List Addr) (h : Heap) (r : Addr) : Prop where
  off : Off h X r
  nfld : ∀ o vs, h.get? r = some o → o.data = .fields vs → o.cls ≠ .type "builtin_function_or_method"
  ncell : ∀ o v, h.get? r = some o → o.data ≠ .cell v

theorem SlRep.but {h₀ h h' : Heap} {r : Addr} {v : Value} {sl : Sl} (k : KpBut r h h') (a : Apart c X h r) (hr : ∀ q ds, sl = .own q ds → q ≠ r) (x : SlRep h₀ h X v sl) : SlRep h₀ h' X v sl := by
  cases sl with
  | val d => exact Rep.but k a.off x
  | own q ds =>
    obtain ⟨e, b, z, vs, p, f⟩ := x
    refine ⟨e, b, z, vs, ?_, RepAll.but k a.off f⟩
    obtain ⟨o, n, ho, rest⟩ := p
    exact ⟨o, n, k _ _ (hr q ds rfl) ho, rest⟩
  | app q =>
    obtain ⟨a', o, e, ho, hc, hd⟩ := x
    exact ⟨a', o, e, k _ _ (by rintro rfl; exact a.nfld o _ ho hd hc) ho, hc, hd⟩
theorem Has.but {env : Env} {m m' : Str → Option Value} {h h' : Heap} {r : Addr} {x : Str} {v : Value} (k : KpBut r h h') (a : Apart c X h r) (hm : env.kindOf x = some .local → m' x = m x) (y : Has env m h x v) : Has env m' h' x v := by
  unfold Has at *
  split at y
  · rename_i e; exact (hm e).trans y
  · obtain ⟨b, o, e, ho, hd⟩ := y
    exact ⟨b, o, e, k _ _ (by rintro rfl; exact a.ncell o _ ho hd) ho, hd⟩
  · exact y
theorem apart_ns {h : Heap} {L : Addr} {m : Str → Option Value} (n : h.Ns L m) : Apart c X h L := by
  refine ⟨Ns.off n, fun o vs e d => ?_, fun o v e d => ?_⟩ <;>
  · obtain ⟨o', es, ep, ho, hd, _⟩ := n
    rw [ho] at e; cases e; rw [hd] at d; cases d

theorem lookup_cons {x y : Str} {sl sl' : Sl} (e : List.lookup y ((x, sl) :: σ) = some sl') : (y = x ∧ sl' = sl) ∨ (y ≠ x ∧ σ.lookup y = some sl') := by
  rw [List.lookup_cons] at e
  by_cases h : (y == x) = true
  · rw [h] at e; exact .inl ⟨beq_iff_eq.mp h, (Option.some.inj e).symm⟩
  · have h' : (y == x) = false := by simpa using h
    rw [h'] at e; exact .inr ⟨fun z => h (beq_iff_eq.mpr z), e⟩

def Uniq (σ : Store) : Prop := ∀ x y r ds ds', σ.lookup x = some (.own r ds) → σ.lookup y = some (.own r ds') → x = y

theorem Rel.store {x : Str} {sl : Sl} {v : Value} {h' : Heap} {tk : Nat} {m : Str → Option Value} (R : Rel c X σ s) (hn : s.heap.Ns c.env.locals m) (hq : ∀ x sl, σ.lookup x = some sl → ∃ v, Has c.env m s.heap x v ∧ SlRep c.h₀ s.heap X v sl)
    (hx : c.env.kindOf x = some .local) (hv : SlRep c.h₀ s.heap X v sl) (hu : Uniq ((x, sl) :: σ))
    (n' : h'.Ns c.env.locals (fun y => if y = x then some v else m y)) (sb : Heap.SameBut c.env.locals s.heap h') : Rel c X ((x, sl) :: σ) { s with heap := h', toks := tk } := by
  have k : KpBut c.env.locals s.heap h' := KpBut.same sb
  have a : Apart c X s.heap c.env.locals := apart_ns hn
  have hl : ∀ r, (∃ vs, s.heap.IsList r vs) → r ≠ c.env.locals := fun r ⟨vs, z⟩ e => by
    subst e
    obtain ⟨o, ho, _, n1, hd⟩ := z
    obtain ⟨o', es, ep, ho', hd', _⟩ := hn
    rw [ho] at ho'; cases ho'; rw [hd] at hd'; cases hd'
  have hown : ∀ (z : Sl) (u : Value), SlRep c.h₀ s.heap X u z → ∀ q ds, z = .own q ds → q ≠ c.env.locals := fun z u y q ds e => by
    subst e
    obtain ⟨_, _, _, vs, p, _⟩ := y
    exact hl q ⟨_, p.isList⟩
  refine ⟨R.ok, R.gens, R.os, fun b o e => k b o (by rintro rfl; rw [R.newL] at e; cases e) (R.keep b o e), R.newL, R.subX,
    fun r hr => let ⟨vs, z⟩ := R.hasX r hr; ⟨vs, k.list z (hl r ⟨vs, z⟩)⟩, hu, _, n', fun y sl' e => ?_⟩
  rcases lookup_cons e with ⟨rfl, rfl⟩ | ⟨hne, e⟩
  · refine ⟨v, ?_, hv.but k a (hown _ _ hv)⟩
    unfold Has; rw [hx]; simp
  · obtain ⟨u, p, q⟩ := hq y sl' e
    exact ⟨u, p.but k a (fun _ => by simp [hne]), q.but k a (hown _ _ q)⟩

theorem uniq_val {x : Str} {d : D} (u : Uniq σ) : Uniq ((x, .val d) :: σ) := fun y z r ds ds' e e' => by
  rcases lookup_cons e with ⟨_, h⟩ | ⟨_, h⟩
  · cases h
  · rcases lookup_cons e' with ⟨_, h'⟩ | ⟨_, h'⟩
    · cases h'
    · exact u y z r ds ds' h h'
theorem uniq_app {x : Str} {r : Addr} (u : Uniq σ) : Uniq ((x, .app r) :: σ) := fun y z r ds ds' e e' => by
  rcases lookup_cons e with ⟨_, h⟩ | ⟨_, h⟩
  · cases h
  · rcases lookup_cons e' with ⟨_, h'⟩ | ⟨_, h'⟩
    · cases h'
    · exact u y z r ds ds' h h'

/-! ## outcomes -/
inductive Out where
  | next (X : List Addr) (σ : Store)
  | cont (X : List Addr) (σ : Store)
  | brk (X : List Addr) (σ : Store)
  | ret (d : D)
def Done (c : Cx) (s' : Shared) : Prop := s'.gens = #[] ∧ s'.os = c.os ∧ Kp c.h₀ s'.heap
def OutR (c : Cx) (fl : Flow) (s' : Shared) : Out → Prop
  | .next X σ => fl = .next ∧ Rel c X σ s'
  | .cont X σ => fl = .cont ∧ Rel c X σ s'
  | .brk X σ => fl = .brk ∧ Rel c X σ s'
  | .ret d => ∃ v, fl = .ret v ∧ Rep s'.heap c.X₀ v d ∧ Done c s'
def Ex (prog : Program) (w : World) (c : Cx) (X : List Addr) (σ : Store) (body : List Stmt) (P : Out → Prop) : Prop :=
  ∀ s, Rel c X σ s → wpAny (model prog w) c.A (execs body c.env) (fun fl s' => ∃ o, OutR c fl s' o ∧ P o) (fun _ _ => False) s
def Ex1 (prog : Program) (w : World) (c : Cx) (X : List Addr) (σ : Store) (st : Stmt) (P : Out → Prop) : Prop :=
  ∀ s, Rel c X σ s → wpAny (model prog w) c.A (exec st c.env) (fun fl s' => ∃ o, OutR c fl s' o ∧ P o) (fun _ _ => False) s
def Then (prog : Program) (w : World) (c : Cx) (rest : List Stmt) (P : Out → Prop) : Out → Prop
  | .next X σ => Ex prog w c X σ rest P
  | o => P o

theorem outN {P : Out → Prop} (R : Rel c X σ s) (h : P (.next X σ)) : ∃ o, OutR c .next s o ∧ P o := ⟨.next X σ, ⟨rfl, R⟩, h⟩
theorem outC {P : Out → Prop} (R : Rel c X σ s) (h : P (.cont X σ)) : ∃ o, OutR c .cont s o ∧ P o := ⟨.cont X σ, ⟨rfl, R⟩, h⟩
theorem outB {P : Out → Prop} (R : Rel c X σ s) (h : P (.brk X σ)) : ∃ o, OutR c .brk s o ∧ P o := ⟨.brk X σ, ⟨rfl, R⟩, h⟩
theorem ex_nil {P : Out → Prop} (h : P (.next X σ)) : Ex prog w c X σ [] P := fun s R => wpAny_execs_nil (outN R h)
theorem ex_cons {st : Stmt} {rest : List Stmt} {P : Out → Prop} (h : Ex1 prog w c X σ st (Then prog w c rest P)) : Ex prog w c X σ (st :: rest) P := fun s R =>
  wpAny_execs_cons (wpAny_mono (h s R) (fun fl s' y => by
    obtain ⟨o, r, p⟩ := y
    cases o with
    | next X' σ' => obtain ⟨rfl, R'⟩ := r; exact p s' R'
    | cont X' σ' => obtain ⟨rfl, R'⟩ := r; exact outC R' p
    | brk X' σ' => obtain ⟨rfl, R'⟩ := r; exact outB R' p
    | ret d => obtain ⟨v, rfl, R'⟩ := r; exact ⟨.ret d, ⟨v, rfl, R'⟩, p⟩) fun _ _ f => f)
theorem ex_mono {body : List Stmt} {P Q : Out → Prop} (h : Ex prog w c X σ body P) (k : ∀ o, P o → Q o) : Ex prog w c X σ body Q := fun s R =>
  wpAny_mono (h s R) (fun _ _ ⟨o, a, b⟩ => ⟨o, a, k o b⟩) fun _ _ f => f

/-- the store read as another one -/
theorem Rel.sub {σ' : Store} (R : Rel c X σ s) (h : ∀ x sl, σ'.lookup x = some sl → σ.lookup x = some sl) : Rel c X σ' s :=
  let ⟨m, n, q⟩ := R.ns
  ⟨R.ok, R.gens, R.os, R.keep, R.newL, R.subX, R.hasX, fun x y r ds ds' e e' => R.uniq x y r ds ds' (h _ _ e) (h _ _ e'), m, n, fun x sl e => q x sl (h x sl e)⟩
theorem ex_sub {σ' : Store} {body : List Stmt} {P : Out → Prop} (e : Ex prog w c X σ' body P) (h : ∀ x sl, σ'.lookup x = some sl → σ.lookup x = some sl) : Ex prog w c X σ body P := fun s R => e s (R.sub h)

/-- a grown list is let alone from here on -/
theorem Rel.freeze {x : Str} {r : Addr} {ds : List D} {X' : List Addr} (R : Rel c X σ s) (e : σ.lookup x = some (.own r ds)) (hX : ∀ a, a ∈ X' ↔ (a ∈ X ∧ a ≠ r)) : Rel c X' ((x, .val (.lst ds)) :: σ) s := by
  obtain ⟨m, n, q⟩ := R.ns
  have hl : ∀ a ∈ X', a ∈ X ∨ s.heap.get? a = none := fun a h => .inl ((hX a).mp h).1
  have hr0 : ∀ a ∈ c.X₀, a ≠ r := fun a ha z => by
    subst z
    obtain ⟨v, _, _, _, h0, _⟩ := q x _ e
    obtain ⟨vs, o, ho, _⟩ := R.ok.x₀ a ha
    rw [h0] at ho; cases ho
  refine ⟨R.ok, R.gens, R.os, R.keep, R.newL, fun a ha => (hX a).mpr ⟨R.subX a ha, hr0 a ha⟩, fun a ha => R.hasX a ((hX a).mp ha).1, uniq_val R.uniq, m, n, fun y sl h => ?_⟩
  rcases lookup_cons h with ⟨rfl, rfl⟩ | ⟨hne, h⟩
  · obtain ⟨v, a, rfl, b, h0, vs, p, f⟩ := q y _ e
    exact ⟨_, a, .lst p.isList (fun z => ((hX r).mp z).2 rfl) (f.less hl)⟩
  · obtain ⟨v, a, b⟩ := q y sl h
    refine ⟨v, a, ?_⟩
    cases sl with
    | val d => exact Rep.less hl b
    | own r' ds' =>
      obtain ⟨e', b1, b2, vs, p, f⟩ := b
      exact ⟨e', (hX r').mpr ⟨b1, fun z => hne (R.uniq y x r' ds' ds h (z ▸ e))⟩, b2, vs, p, f.less hl⟩
    | app r' => exact b
theorem ex_freeze {x : Str} {r : Addr} {ds : List D} {X' : List Addr} {body : List Stmt} {P : Out → Prop} (e : σ.lookup x = some (.own r ds)) (hX : ∀ a, a ∈ X' ↔ (a ∈ X ∧ a ≠ r)) (h : Ex prog w c X' ((x, .val (.lst ds)) :: σ) body P) : Ex prog w c X σ body P :=
  fun s R => h s (R.freeze e hX)

/-! ## plain statements -/
theorem ex_asg {x : Str} {e : Expr} {np pos : Pos} {d : D} {P : Out → Prop} (y : Ev prog w c X σ e d) (h : P (.next X ((x, .val d) :: σ))) (hx : c.env.kindOf x = some .local := by rfl)
    (hs : swapsWith e (some (.Name x np)) pos.line c.env = pure false := by rfl) : Ex1 prog w c X σ (.Assign [.Name x np] e pos) P := by
  intro s R
  refine wpAny_Assign_Name (y.use R fun v s₁ k R₁ r => ?_) hs
  obtain ⟨m, n, q⟩ := R₁.ns
  refine wpAny_storeName_local hx n (fun h' n' sb => outN (R₁.store n q hx (sl := .val d) r (uniq_val R₁.uniq) n' sb) h) ?_
  rw [R.ok.kind]; rfl
theorem ex_if {t : Expr} {b o : List Stmt} {pos : Pos} {v : Bool} {P : Out → Prop} (x : EvB prog w c X σ t v) (h₁ : v = true → Ex prog w c X σ b P) (h₂ : v = false → Ex prog w c X σ o P) : Ex1 prog w c X σ (.If t b o pos) P := by
  intro s R
  refine wpAny_If (x.use R fun s' k R' => ?_)
  cases v
  · exact h₂ rfl s' R'
  · exact h₁ rfl s' R'
theorem ex_ret {e : Expr} {pos : Pos} {d : D} {P : Out → Prop} (x : Ev prog w c X σ e d) (h : P (.ret d)) : Ex1 prog w c X σ (.Return (some e) pos) P := by
  intro s R
  refine wpAny_Return_some (x.use R fun v s' k R' r => ⟨.ret d, ⟨v, rfl, r.less (fun a ha => .inl (R.subX a ha)), R'.gens, R'.os, R'.keep⟩, h⟩)
theorem ex_cont {pos : Pos} {P : Out → Prop} (h : P (.cont X σ)) : Ex1 prog w c X σ (.Continue pos) P := fun s R => fun Γ p hΓ => outC R h

theorem ex_while {t : Expr} {b : List Stmt} {pos : Pos} {P : Out → Prop} (I : Nat → List Addr → Store → Prop)
    (turn : ∀ n X σ, I n X σ → ∃ v, EvB prog w c X σ t v ∧ (v = true → Ex prog w c X σ b (fun o => match o with
      | .next X' σ' => ∃ m, m < n ∧ I m X' σ'
      | .cont X' σ' => ∃ m, m < n ∧ I m X' σ'
      | .brk X' σ' => P (.next X' σ')
      | .ret d => P (.ret d))) ∧ (v = false → P (.next X σ)))
    (n : Nat) (h : I n X σ) : Ex1 prog w c X σ (.While t b [] pos) P := by
  intro s R
  refine wpAny_While (codeAny_whileLoop (fun n s => ∃ X σ, I n X σ ∧ Rel c X σ s) (fun n s hI => ?_) n ⟨X, σ, h, R⟩)
  obtain ⟨X, σ, hI, R⟩ := hI
  obtain ⟨v, tv, h1, h2⟩ := turn n X σ hI
  refine tv.use R fun s' k R' => ?_
  cases v
  · exact wpAny_execs_nil ⟨.next X σ, ⟨rfl, R'⟩, h2 rfl⟩
  · refine wpAny_mono (h1 rfl s' R') (fun fl s'' y => ?_) fun _ _ f => f.elim
    obtain ⟨o, r, p⟩ := y
    cases o with
    | next X' σ' => obtain ⟨rfl, R''⟩ := r; obtain ⟨m, hm, i⟩ := p; exact ⟨m, hm, X', σ', i, R''⟩
    | cont X' σ' => obtain ⟨rfl, R''⟩ := r; obtain ⟨m, hm, i⟩ := p; exact ⟨m, hm, X', σ', i, R''⟩
    | brk X' σ' => obtain ⟨rfl, R''⟩ := r; exact ⟨.next X' σ', ⟨rfl, R''⟩, p⟩
    | ret d => obtain ⟨v, rfl, R''⟩ := r; exact ⟨.ret d, ⟨v, rfl, R''⟩, p⟩

theorem ex_aug_str {x : Str} {e : Expr} {np pos : Pos} {l m : List Nat} {P : Out → Prop} (hl : σ.lookup x = some (.val (.str l))) (y : Ev prog w c X σ e (.str m)) (hz : l.length + m.length ≤ sizeLine) (h : P (.next X ((x, .val (.str (l ++ m))) :: σ))) (hx : c.env.kindOf x = some .local := by rfl) :
    Ex1 prog w c X σ (.AugAssign (.Name x np) .Add e pos) P := by
  intro s R
  obtain ⟨mm, n, q⟩ := R.ns
  obtain ⟨v, a, b⟩ := q x _ hl
  refine wpAny_AugAssign_Name (load_var R.ok.kind n a (y.use R fun v' s₁ k R₁ r => ?_))
  have b : Rep s₁.heap X v (.str l) := Rep.keep k.kp b
  cases b; cases r
  refine SB.iadd (fun t' k' => ?_) (by rw [S_len, S_len]; exact hz)
  have R₂ := R₁.go (s' := { s₁ with toks := k' }) .tok
  obtain ⟨m₂, n₂, q₂⟩ := R₂.ns
  refine wpAny_storeName_local hx n₂ (fun h' n' sb => outN (R₂.store n₂ q₂ hx (sl := .val (.str (l ++ m))) ?_ (uniq_val R₂.uniq) n' sb) h) ?_
  · rw [S_app]; exact .str _ _
  · rw [R.ok.kind]; rfl
theorem ex_aug_int {x : Str} {e : Expr} {np pos : Pos} {i j : Int} {P : Out → Prop} (hl : σ.lookup x = some (.val (.int i))) (y : Ev prog w c X σ e (.int j)) (h : P (.next X ((x, .val (.int (i + j))) :: σ))) (hx : c.env.kindOf x = some .local := by rfl) :
    Ex1 prog w c X σ (.AugAssign (.Name x np) .Add e pos) P := by
  intro s R
  obtain ⟨mm, n, q⟩ := R.ns
  obtain ⟨v, a, b⟩ := q x _ hl
  refine wpAny_AugAssign_Name (load_var R.ok.kind n a (y.use R fun v' s₁ k R₁ r => ?_))
  have b : Rep s₁.heap X v (.int i) := Rep.keep k.kp b
  cases b; cases r
  refine iadd_int ?_
  have R₂ := R₁.go (s' := { s₁ with toks := s₁.toks + 1 }) .tok
  obtain ⟨m₂, n₂, q₂⟩ := R₂.ns
  refine wpAny_storeName_local hx n₂ (fun h' n' sb => outN (R₂.store n₂ q₂ hx (sl := .val (.int (i + j))) (.int _ _) (uniq_val R₂.uniq) n' sb) h) ?_
  rw [R.ok.kind]; rfl
end
end Mine
end
section
open PySem PySem.W PyProof.Rows
namespace Mine
section
variable {prog : Program} {w : World} {c : Cx} {X : List Addr} {σ : Store} {s : Shared}

/-! ## another ground under the same frame -/
def Cx.wh (c : Cx) (h : Heap) : Cx := { c with h₀ := h }
def ownsAt (σ : Store) : List Addr := (σ.map (·.1)).filterMap fun x => match σ.lookup x with | some (.own r _) => some r | _ => none
theorem mem_of_lookup {x : Str} {sl : Sl} : ∀ {t : Store}, t.lookup x = some sl → x ∈ t.map (·.1)
  | [], h => by cases h
  | (y, sl') :: t, h => by
    rcases lookup_cons h with ⟨rfl, _⟩ | ⟨_, h'⟩
    · simp
    · simp only [List.map_cons, List.mem_cons]; exact .inr (mem_of_lookup h')
theorem mem_owns {x : Str} {r : Addr} {ds : List D} (e : σ.lookup x = some (.own r ds)) : r ∈ ownsAt σ :=
  List.mem_filterMap.mpr ⟨x, mem_of_lookup e, by rw [e]⟩
theorem owns_mem {r : Addr} (h : r ∈ ownsAt σ) : ∃ x ds, σ.lookup x = some (.own r ds) := by
  obtain ⟨x, _, e⟩ := List.mem_filterMap.mp h
  split at e
  · rename_i r' ds hl; cases e; exact ⟨x, ds, hl⟩
  · cases e
def ground (c : Cx) (σ : Store) (h : Heap) : Heap := hideAll h (c.env.locals :: ownsAt σ)

theorem Rel.kpGround (R : Rel c X σ s) : Kp c.h₀ (ground c σ s.heap) := fun b o e => by
  refine hideAll_get _ (R.keep b o e) fun m => ?_
  rcases List.mem_cons.mp m with rfl | m
  · rw [R.newL] at e; cases e
  · obtain ⟨x, ds, l⟩ := owns_mem m
    obtain ⟨mm, n, q⟩ := R.ns
    obtain ⟨v, _, _, _, z, _⟩ := q x _ l
    rw [z] at e; cases e
theorem Ok.wh {h : Heap} (o : Ok c) (k : Kp c.h₀ h) : Ok (c.wh h) :=
  ⟨o.kind, o.glob, o.blt, o.bs.keep k, o.hd, o.dep, o.un, fun r hr => let ⟨vs, z⟩ := o.x₀ r hr; ⟨vs, k.list z⟩⟩
theorem Rel.rebase (R : Rel c X σ s) : Rel (c.wh (ground c σ s.heap)) X σ s := by
  obtain ⟨m, n, q⟩ := R.ns
  refine ⟨R.ok.wh R.kpGround, R.gens, R.os, fun b o e => of_hideAll _ e, hideAll_none _ (.head _), R.subX, R.hasX, R.uniq, m, n, fun x sl e => ?_⟩
  obtain ⟨v, a, b⟩ := q x sl e
  refine ⟨v, a, ?_⟩
  cases sl with
  | val d => exact b
  | own r ds => obtain ⟨e1, e2, _, rest⟩ := b; exact ⟨e1, e2, hideAll_none _ (.tail _ (mem_owns e)), rest⟩
  | app r => exact b
theorem Rel.unbase {h : Heap} (R : Rel (c.wh h) X σ s) (ok : Ok c) (k : Kp c.h₀ h) : Rel c X σ s := by
  have nn : ∀ r, h.get? r = none → c.h₀.get? r = none := fun r e => by
    cases q : c.h₀.get? r with
    | none => rfl
    | some o => rw [k r o q] at e; cases e
  obtain ⟨m, n, q⟩ := R.ns
  refine ⟨ok, R.gens, R.os, k.trans R.keep, nn _ R.newL, R.subX, R.hasX, R.uniq, m, n, fun x sl e => ?_⟩
  obtain ⟨v, a, b⟩ := q x sl e
  refine ⟨v, a, ?_⟩
  cases sl with
  | val d => exact b
  | own r ds => obtain ⟨e1, e2, e3, rest⟩ := b; exact ⟨e1, e2, nn _ e3, rest⟩
  | app r => exact b

/-- an object of the machine's own is changed -/
theorem Rel.but {r : Addr} {h' : Heap} {tk : Nat} (R : Rel c X σ s) (k : KpBut r s.heap h') (a : Apart c X s.heap r) (h0 : c.h₀.get? r = none) (hnl : ∀ vs, ¬ s.heap.IsList r vs) (hL : r ≠ c.env.locals) : Rel c X σ { s with heap := h', toks := tk } := by
  obtain ⟨m, n, q⟩ := R.ns
  refine ⟨R.ok, R.gens, R.os, fun b o e => k b o (by rintro rfl; rw [h0] at e; cases e) (R.keep b o e), R.newL, R.subX,
    fun p hp => let ⟨vs, z⟩ := R.hasX p hp; ⟨vs, k.list z (by rintro rfl; exact hnl _ z)⟩, R.uniq, m, ?_, fun x sl e => ?_⟩
  · obtain ⟨o, es, ep, ho, rest⟩ := n
    exact ⟨o, es, ep, k _ _ (Ne.symm hL) ho, rest⟩
  · obtain ⟨v, y, z⟩ := q x sl e
    refine ⟨v, y.but k a (fun _ => rfl), z.but k a ?_⟩
    rintro p ds rfl rfl
    obtain ⟨_, _, _, vs, pl, _⟩ := z
    exact hnl _ pl.isList

theorem none_of_kp {h h' : Heap} (k : Kp h h') {a : Addr} (e : h'.get? a = none) : h.get? a = none := by
  cases q : h.get? a with
  | none => rfl
  | some o => rw [k a o q] at e; cases e

/-! ## loops -/
theorem ex_for_walk {x : Str} {np pos : Pos} {iter : Expr} {body : List Stmt} {P : Out → Prop} {ds : List D} (Inv : Nat → List Addr → Store → Prop)
    (hit : ∀ (s : Shared) (Q : Value → Shared → Prop), Rel c X σ s → (∀ (I : Addr) (fp : List Addr) (Pv : Nat → Value → Prop) (St : Nat → Heap → Prop) (s' : Shared), Go s s' → Walks prog w c.A I fp [I] ds.length Pv St → St 0 s'.heap →
      s.heap.get? I = none → (∀ b ∈ fp, ∃ o, s'.heap.get? b = some o ∧ b ≠ c.env.locals ∧ b ∉ X) →
      (∀ i h, St i h → ∃ o fs, h.get? I = some o ∧ o.data = .fields fs ∧ o.cls ≠ .type "builtin_function_or_method") → (∀ i v d h Y, Pv i v → ds[i]? = some d → Rep h Y v d) → Q (.ref I) s') →
      wpAny (model prog w) c.A (eval iter c.env) (fun v s₁ => wpAny (model prog w) c.A (pyIter v) Q (fun _ _ => False) s₁) (fun _ _ => False) s)
    (h0 : Inv 0 X σ)
    (turn : ∀ i X σ d h, Inv i X σ → ds[i]? = some d → Ok (c.wh h) → Ex prog w (c.wh h) X ((x, .val d) :: σ) body (fun o => match o with
      | .next X' σ' => Inv (i + 1) X' σ'
      | .cont X' σ' => Inv (i + 1) X' σ'
      | .brk X' σ' => P (.next X' σ')
      | .ret d => P (.ret d)))
    (done : ∀ X σ, Inv ds.length X σ → P (.next X σ)) (hx : c.env.kindOf x = some .local := by rfl)
    (hs : ∀ x, foldedSetIterable iter c.env x = pure x := by intro _; rfl) : Ex1 prog w c X σ (.For (.Name x np) iter body [] pos) P := by
  intro s R
  refine wpAny_For (wpAny_mono (hit s (fun it s₂ => codeAny (model prog w) c.A (.forLoop (.Name x np) it body [] c.env) _ s₂) R fun I fp Pv St s₁ k₁ W st0 hI hfp hobj hrep => ?_) (fun v s₁ y => wpAny_mono y (fun _ _ z => z) fun _ _ f => f.elim) fun _ _ f => f.elim) hs
  have R₁ := R.go k₁
  have hI0 : c.h₀.get? I = none := none_of_kp R.keep hI
  refine codeAny_forLoop (fun n s => ∃ i X σ, n = ds.length - i ∧ i ≤ ds.length ∧ Inv i X σ ∧ Rel c X σ s ∧ St i s.heap ∧ ∀ b ∈ fp, ∃ o, s.heap.get? b = some o ∧ b ≠ c.env.locals ∧ ∀ y r qs, σ.lookup y = some (.own r qs) → r ≠ b)
    (fun n s hI' => ?_) (ds.length - 0) ⟨0, X, σ, rfl, Nat.zero_le _, h0, R₁, st0, fun b hb => ?_⟩
  · obtain ⟨i, X, σ, rfl, hle, inv, R, st, hfp⟩ := hI'
    obtain ⟨oI, fs, hoI, hdI, hcI⟩ := hobj i _ st
    have apI : Apart c X s.heap I := by
      refine ⟨⟨fun vs t => ?_, fun vs t => ?_⟩, fun o vs e d => ?_, fun o v e d => ?_⟩
      · obtain ⟨o, e, _, k, d⟩ := t; rw [hoI] at e; cases e; rw [hdI] at d; cases d
      · obtain ⟨o, e, _, k, d⟩ := t; rw [hoI] at e; cases e; rw [hdI] at d; cases d
      · rw [hoI] at e; cases e; exact hcI
      · rw [hoI] at e; cases e; rw [hdI] at d; cases d
    have hnl : ∀ vs, ¬ s.heap.IsList I vs := fun vs t => by
      obtain ⟨o, e, _, k, d⟩ := t; rw [hoI] at e; cases e; rw [hdI] at d; cases d
    have hIL : I ≠ c.env.locals := by
      rintro e
      obtain ⟨m, ⟨o, es, ep, ho, hd, _⟩, _⟩ := R.ns
      rw [← e, hoI] at ho; cases ho; rw [hdI] at hd; cases hd
    by_cases hlt : i < ds.length
    · refine W.item i s _ _ hlt st fun v h' tk hp st' hk => ?_
      have kI : KpBut I s.heap h' := fun b o hb e => hk b o (by simpa using hb) e
      have R₂ : Rel c X σ { s with heap := h', toks := tk } := R.but kI apI hI0 hnl hIL
      have hd : ds[i]? = some ds[i] := List.getElem?_eq_getElem hlt
      obtain ⟨m, nm, q⟩ := R₂.ns
      refine wpAny_assign_Name (wpAny_storeName_local hx nm (fun h'' n'' sb => ?_) (by rw [R.ok.kind]; rfl))
      have R₃ : Rel c X ((x, .val ds[i]) :: σ) { s with heap := h'', toks := tk + 1 } := R₂.store nm q hx (sl := .val ds[i]) (hrep i v _ _ _ hp hd) (uniq_val R₂.uniq) n'' sb
      have st'' : St (i + 1) h'' := W.frame _ _ _ st' fun b hb o e => (sb.2 b (hfp b hb).choose_spec.2.1).trans e
      have obj3 : ∀ b ∈ fp, ∃ o, h''.get? b = some o := fun b hb => by
        obtain ⟨o, ho, hbL, _⟩ := hfp b hb
        by_cases hbI : b = I
        · subst hbI
          obtain ⟨o', fs', ho', _⟩ := hobj _ _ st''
          exact ⟨o', ho'⟩
        · exact ⟨o, (sb.2 b hbL).trans (kI b o hbI ho)⟩
      have g3 : ∀ b ∈ fp, ∀ o, h''.get? b = some o → (ground c ((x, .val ds[i]) :: σ) h'').get? b = some o := fun b hb o e => by
        refine hideAll_get _ e fun mem => ?_
        rcases List.mem_cons.mp mem with rfl | mem
        · exact (hfp _ hb).choose_spec.2.1 rfl
        · obtain ⟨y, qs, l⟩ := owns_mem mem
          rcases lookup_cons l with ⟨_, z⟩ | ⟨_, l⟩
          · cases z
          · exact (hfp b hb).choose_spec.2.2 y b qs l rfl
      refine wpAny_mono (turn i X σ ds[i] _ inv hd (R₃.ok.wh R₃.kpGround) _ R₃.rebase) (fun fl s₄ y => ?_) fun _ _ f => f.elim
      obtain ⟨o, ho, po⟩ := y
      have fin : ∀ X' σ', Rel (c.wh (ground c ((x, .val ds[i]) :: σ) h'')) X' σ' s₄ → Inv (i + 1) X' σ' → ∃ m, m < ds.length - i ∧ ∃ i X σ, m = ds.length - i ∧ i ≤ ds.length ∧ Inv i X σ ∧ Rel c X σ s₄ ∧ St i s₄.heap ∧ ∀ b ∈ fp, ∃ o, s₄.heap.get? b = some o ∧ b ≠ c.env.locals ∧ ∀ y r qs, σ.lookup y = some (.own r qs) → r ≠ b := by
        intro X' σ' R₄ inv'
        refine ⟨ds.length - (i + 1), by omega, i + 1, X', σ', rfl, hlt, inv', R₄.unbase R.ok R₃.kpGround, ?_, fun b hb => ?_⟩
        · exact W.frame _ _ _ st'' fun b hb o e => R₄.keep b o (g3 b hb o e)
        · obtain ⟨o, ho⟩ := obj3 b hb
          refine ⟨o, R₄.keep b o (g3 b hb o ho), (hfp b hb).choose_spec.2.1, ?_⟩
          rintro y r qs l rfl
          obtain ⟨m', n', q'⟩ := R₄.ns
          obtain ⟨v', _, _, _, z, _⟩ := q' y _ l
          have : (ground c ((x, .val ds[i]) :: σ) h'').get? r = none := z
          rw [g3 r hb o ho] at this; cases this
      cases o with
      | next X' σ' => obtain ⟨rfl, R₄⟩ := ho; exact fin X' σ' R₄ po
      | cont X' σ' => obtain ⟨rfl, R₄⟩ := ho; exact fin X' σ' R₄ po
      | brk X' σ' => obtain ⟨rfl, R₄⟩ := ho; exact outN (R₄.unbase R.ok R₃.kpGround) po
      | ret d =>
        obtain ⟨v', rfl, r', dn⟩ := ho
        exact ⟨.ret d, ⟨v', rfl, r', dn.1, dn.2.1, R₃.kpGround.trans dn.2.2⟩, po⟩
    · have hi : i = ds.length := by omega
      subst hi
      refine W.done s _ _ st fun h' tk hk => ?_
      have kI : KpBut I s.heap h' := fun b o hb e => hk b o (by simpa using hb) e
      exact wpAny_execs_nil (outN (R.but kI apI hI0 hnl hIL) (done X σ inv))
  · obtain ⟨o, ho, hbL, hbX⟩ := hfp b hb
    refine ⟨o, ho, hbL, ?_⟩
    rintro y r qs l rfl
    obtain ⟨m', n', q'⟩ := R₁.ns
    obtain ⟨v', _, _, hm, _⟩ := q' y _ l
    exact hbX hm
end
end Mine
end
section
open PySem PySem.W PyProof.Rows
namespace Mine
section
variable {prog : Program} {w : World} {c : Cx} {X : List Addr} {σ : Store} {s : Shared}

theorem ex_for_strs {x : Str} {np pos : Pos} {iter : Expr} {body : List Stmt} {P : Out → Prop} {ts : List (List Nat)} (hit : Ev prog w c X σ iter (.lst (ts.map .str))) (Inv : Nat → List Addr → Store → Prop)
    (h0 : Inv 0 X σ)
    (turn : ∀ i X σ t h, Inv i X σ → ts[i]? = some t → Ok (c.wh h) → Ex prog w (c.wh h) X ((x, .val (.str t)) :: σ) body (fun o => match o with
      | .next X' σ' => Inv (i + 1) X' σ'
      | .cont X' σ' => Inv (i + 1) X' σ'
      | .brk X' σ' => P (.next X' σ')
      | .ret d => P (.ret d)))
    (done : ∀ X σ, Inv ts.length X σ → P (.next X σ)) (hx : c.env.kindOf x = some .local := by rfl)
    (hs : ∀ x, foldedSetIterable iter c.env x = pure x := by intro _; rfl) : Ex1 prog w c X σ (.For (.Name x np) iter body [] pos) P := by
  refine ex_for_walk (ds := ts.map .str) Inv (fun s Q R k => ?_) h0 (fun i X σ d h inv hd ok => ?_) (fun X σ inv => done X σ (by simpa using inv)) hx hs
  · refine hit.use R fun v s₁ k₁ R₁ r => ?_
    cases r with
    | lst a n q =>
      rename_i l vs
      refine wpAny_pyIter_list a ?_
      have kk := Kp.push s₁.heap { cls := .type "list_iterator", data := .fields #[.ref l, .int 0 0] }
      have hne : l ≠ s₁.heap.objs.size := fun e => by
        obtain ⟨o, ho, _⟩ := a
        exact absurd (Heap.lt_size ho) (by rw [e]; exact Nat.lt_irrefl _)
      have W := Walks.list (prog := prog) (w := w) R.ok.hd s₁.heap.objs.size l hne vs.toArray
      rw [show vs.toArray.size = (ts.map D.str).length by rw [List.size_toArray, q.length]] at W
      refine k _ _ _ _ _ (k₁.tr (.heap kk)) W ⟨⟨_, Heap.get?_push_size _ rfl, rfl, rfl⟩, kk.list a⟩ (none_of_kp k₁.kp (none_size _)) (fun b hb => ?_) (fun i h st => ?_) fun i v d h Y pv hd => ?_
      · simp only [List.mem_cons, List.not_mem_nil, or_false] at hb
        rcases hb with rfl | rfl
        · refine ⟨_, Heap.get?_push_size _ rfl, ?_, notIn_of_none R₁.hasX (none_size _)⟩
          obtain ⟨m, nm, _⟩ := R₁.ns
          exact (Nat.ne_of_lt nm.lt).symm
        · obtain ⟨o, ho, hc, nn, hd⟩ := a
          refine ⟨o, kk _ _ ho, ?_, n⟩
          rintro rfl
          obtain ⟨m, ⟨o', es, ep, ho', hd', _⟩, _⟩ := R₁.ns
          rw [ho] at ho'; cases ho'; rw [hd] at hd'; cases hd'
      · obtain ⟨⟨o, ho, hc, hd⟩, _⟩ := st
        exact ⟨o, _, ho, hd, by rw [hc]; decide⟩
      · have pv : vs[i]? = some v := by simpa using pv
        obtain ⟨v', hv', r'⟩ := q.get hd
        rw [pv] at hv'; cases hv'
        obtain ⟨t, ht, rfl⟩ : ∃ t, ts[i]? = some t ∧ D.str t = d := by simpa using hd
        cases r'; exact .str _ _
  · obtain ⟨t, ht, rfl⟩ : ∃ t, ts[i]? = some t ∧ D.str t = d := by simpa using hd
    exact turn i X σ t h inv ht ok

theorem ex_for_str {x : Str} {np pos : Pos} {iter : Expr} {body : List Stmt} {P : Out → Prop} {l : List Nat} (hit : Ev prog w c X σ iter (.str l)) (Inv : Nat → List Addr → Store → Prop)
    (h0 : Inv 0 X σ)
    (turn : ∀ i X σ t h, Inv i X σ → l[i]? = some t → Ok (c.wh h) → Ex prog w (c.wh h) X ((x, .val (.str [t])) :: σ) body (fun o => match o with
      | .next X' σ' => Inv (i + 1) X' σ'
      | .cont X' σ' => Inv (i + 1) X' σ'
      | .brk X' σ' => P (.next X' σ')
      | .ret d => P (.ret d)))
    (done : ∀ X σ, Inv l.length X σ → P (.next X σ)) (hx : c.env.kindOf x = some .local := by rfl)
    (hs : ∀ x, foldedSetIterable iter c.env x = pure x := by intro _; rfl) : Ex1 prog w c X σ (.For (.Name x np) iter body [] pos) P := by
  refine ex_for_walk (ds := l.map fun t => .str [t]) Inv (fun s Q R k => ?_) h0 (fun i X σ d h inv hd ok => ?_) (fun X σ inv => done X σ (by simpa using inv)) hx hs
  · refine hit.use R fun v s₁ k₁ R₁ r => ?_
    cases r with
    | str _ t =>
      have hz : (l.map fun t => D.str [t]).length = (S l).cps.size := by simp
      have fin : ∀ (ty : String) (_ : ty = "str_ascii_iterator" ∨ ty = "str_iterator") (_ : Walks prog w c.A s₁.heap.objs.size [s₁.heap.objs.size] [s₁.heap.objs.size] (S l).cps.size (SignAt (S l)) (fun i h => h.IsStrIter s₁.heap.objs.size ty (S l) t i)),
          Q (.ref s₁.heap.objs.size) { s₁ with heap := s₁.heap.push { cls := .type ty, data := .fields #[.str (S l) t, .int 0 0] } } := by
        intro ty hty W
        rw [← hz] at W
        refine k _ _ _ _ _ (k₁.tr (.heap (Kp.push _ _))) W ⟨_, Heap.get?_push_size _ rfl, rfl, rfl⟩ (none_of_kp k₁.kp (none_size _)) (fun b hb => ?_) (fun i h st => ?_) fun i v d h Y pv hd => ?_
        · simp only [List.mem_cons, List.not_mem_nil, or_false] at hb
          subst hb
          refine ⟨_, Heap.get?_push_size _ rfl, ?_, notIn_of_none R₁.hasX (none_size _)⟩
          obtain ⟨m, nm, _⟩ := R₁.ns
          exact (Nat.ne_of_lt nm.lt).symm
        · obtain ⟨o, ho, hc, hd⟩ := st
          exact ⟨o, _, ho, hd, by rw [hc]; rcases hty with rfl | rfl <;> decide⟩
        · obtain ⟨n, u, hn, rfl⟩ := pv
          obtain ⟨t', ht, rfl⟩ : ∃ t', l[i]? = some t' ∧ D.str [t'] = d := by simpa using hd
          have : n = t' := by
            have hn : l[i]? = some n := by simpa [S] using hn
            rw [ht] at hn; exact (Option.some.inj hn).symm
          subst this
          exact .str [n] u
      cases ha : (S l).cps.all (· < 128)
      · exact wpAny_pyIter_wide ha (fin _ (.inr rfl) (Walks.strWide R.ok.hd _ _ _))
      · exact wpAny_pyIter_ascii ha (fin _ (.inl rfl) (Walks.strAscii R.ok.hd _ _ _))
  · obtain ⟨t, ht, rfl⟩ : ∃ t, l[i]? = some t ∧ D.str [t] = d := by simpa using hd
    exact turn i X σ t h inv ht ok

/-! ## lists that grow -/
theorem Rel.fresh {o : Obj} {vs : List Value} (R : Rel c X σ s) (hl : (s.heap.push o).IsList s.heap.objs.size vs.toArray) : Rel c (s.heap.objs.size :: X) σ { s with heap := s.heap.push o } := by
  obtain ⟨m, n, q⟩ := R.ns
  have k := Kp.push s.heap o
  have hl' : ∀ a ∈ s.heap.objs.size :: X, a ∈ X ∨ s.heap.get? a = none := fun a h => by
    rcases List.mem_cons.mp h with rfl | h
    · exact .inr (none_size _)
    · exact .inl h
  refine ⟨R.ok, R.gens, R.os, R.keep.trans k, R.newL, fun r hr => .tail _ (R.subX r hr), fun r hr => ?_, R.uniq, m, n.keeps k, fun x sl e => ?_⟩
  · rcases List.mem_cons.mp hr with rfl | hr
    · exact ⟨_, hl⟩
    · obtain ⟨vs, z⟩ := R.hasX r hr; exact ⟨vs, k.list z⟩
  · obtain ⟨v, a, b⟩ := q x sl e
    refine ⟨v, a.keep k, ?_⟩
    cases sl with
    | val d => exact Rep.keep k (Rep.less hl' b)
    | own r ds => obtain ⟨e1, e2, e3, vs, p, f⟩ := b; exact ⟨e1, .tail _ e2, e3, vs, p.keeps k, (f.less hl').keep k⟩
    | app r => exact SlRep.keep (sl := .app r) k b
theorem uniq_new {x : Str} {r : Addr} {ds : List D} (R : Rel c X σ s) (hr : s.heap.get? r = none) : Uniq ((x, .own r ds) :: σ) := by
  obtain ⟨m, n, q⟩ := R.ns
  have no : ∀ y ds', σ.lookup y ≠ some (.own r ds') := fun y ds' e => by
    obtain ⟨v, _, _, _, _, vs, p, _⟩ := q y _ e
    obtain ⟨o, nn, ho, _⟩ := p
    rw [hr] at ho; cases ho
  intro y z r' ds₁ ds₂ e e'
  rcases lookup_cons e with ⟨rfl, h⟩ | ⟨hy, h⟩
  · rcases lookup_cons e' with ⟨rfl, h'⟩ | ⟨hz, h'⟩
    · rfl
    · cases h; exact absurd h' (no _ _)
  · rcases lookup_cons e' with ⟨rfl, h'⟩ | ⟨hz, h'⟩
    · cases h'; exact absurd h (no _ _)
    · exact R.uniq y z r' ds₁ ds₂ h h'
theorem ex_own {x : Str} {es : List Expr} {ds : List D} {np lp pos : Pos} {P : Out → Prop} (y : EvAll prog w c X σ lp es ds) (hz : ds.length ≤ sizeLine) (h : ∀ r, P (.next (r :: X) ((x, .own r ds) :: σ))) (hx : c.env.kindOf x = some .local := by rfl)
    (hs : swapsWith (.List es lp) (some (.Name x np)) pos.line c.env = pure false := by rfl) : Ex1 prog w c X σ (.Assign [.Name x np] (.List es lp) pos) P := by
  intro s R
  refine wpAny_Assign_Name (List_ (y.use R fun vs s₁ k₁ R₁ r₁ => wpAny_newObj_type ?_ (by show vs.toArray.size ≤ sizeLine; rw [List.size_toArray, r₁.length]; exact hz))) hs
  have pl : PlainL (s₁.heap.push { cls := .type "list", data := .seq vs.toArray }) s₁.heap.objs.size vs.toArray := ⟨_, _, Heap.get?_push_size _ rfl, rfl, rfl, rfl⟩
  have R₂ := R₁.fresh pl.isList
  have hl' : ∀ a ∈ s₁.heap.objs.size :: X, a ∈ X ∨ s₁.heap.get? a = none := fun a h => by
    rcases List.mem_cons.mp h with rfl | h
    · exact .inr (none_size _)
    · exact .inl h
  obtain ⟨m, n, q⟩ := R₂.ns
  refine wpAny_storeName_local hx n (fun h' n' sb => outN (R₂.store n q hx (sl := .own s₁.heap.objs.size ds) ⟨rfl, .head _, none_of_kp R₁.keep (none_size _), vs, pl, (r₁.less hl').keep (Kp.push _ _)⟩ (uniq_new R₁ (none_size _)) n' sb) (h _)) ?_
  rw [R.ok.kind]; rfl

theorem apart_own {r : Addr} {vs : Array Value} {h : Heap} (p : h.IsList r vs) (m : r ∈ X) : Apart c X h r := by
  obtain ⟨o, ho, hc, k, hd⟩ := p
  refine ⟨⟨fun ws t => ?_, fun ws t => m⟩, fun o' ws e d => ?_, fun o' v e d => ?_⟩
  · obtain ⟨o', e, c', _⟩ := t; rw [ho] at e; cases e; rw [hc] at c'; simp at c'
  · rw [ho] at e; cases e; rw [hd] at d; cases d
  · rw [ho] at e; cases e; rw [hd] at d; cases d
theorem Rel.grow {x : Str} {r : Addr} {ds ds' : List D} {h' : Heap} {tk : Nat} {vs' : List Value} (R : Rel c X σ s) (e : σ.lookup x = some (.own r ds)) (sb : Heap.SameBut r s.heap h') (p' : PlainL h' r vs'.toArray) (f' : RepAll h' X vs' ds') :
    Rel c X ((x, .own r ds') :: σ) { s with heap := h', toks := tk } := by
  obtain ⟨m, n, q⟩ := R.ns
  obtain ⟨v₀, a₀, rfl, mX, z, vs, p, f⟩ := q x _ e
  have k : KpBut r s.heap h' := KpBut.same sb
  have ap : Apart c X s.heap r := apart_own p.isList mX
  have hL : r ≠ c.env.locals := by
    rintro rfl
    obtain ⟨o, ho, _, kk, hd⟩ := p.isList
    obtain ⟨o', es, ep, ho', hd', _⟩ := n
    rw [ho] at ho'; cases ho'; rw [hd] at hd'; cases hd'
  refine ⟨R.ok, R.gens, R.os, fun b o q => k b o (by rintro rfl; rw [z] at q; cases q) (R.keep b o q), R.newL, R.subX, fun b hb => ?_, ?_, m, ?_, fun y sl l => ?_⟩
  · by_cases hb' : b = r
    · subst hb'; exact ⟨_, p'.isList⟩
    · obtain ⟨ws, t⟩ := R.hasX b hb; exact ⟨ws, k.list t hb'⟩
  · intro y y' r' d₁ d₂ l l'
    rcases lookup_cons l with ⟨rfl, h1⟩ | ⟨hy, k1⟩
    · rcases lookup_cons l' with ⟨rfl, h2⟩ | ⟨_, k2⟩
      · rfl
      · cases h1; exact R.uniq _ _ _ _ _ e k2
    · rcases lookup_cons l' with ⟨rfl, h2⟩ | ⟨_, k2⟩
      · cases h2; exact R.uniq _ _ _ _ _ k1 e
      · exact R.uniq _ _ _ _ _ k1 k2
  · obtain ⟨o, es, ep, ho, rest⟩ := n
    exact ⟨o, es, ep, k _ _ (Ne.symm hL) ho, rest⟩
  · rcases lookup_cons l with ⟨rfl, rfl⟩ | ⟨hy, k1⟩
    · exact ⟨_, a₀.but k ap (fun _ => rfl), rfl, mX, z, vs', p', f'⟩
    · obtain ⟨v, a, b⟩ := q y sl k1
      refine ⟨v, a.but k ap (fun _ => rfl), b.but k ap ?_⟩
      rintro r' qs rfl rfl
      exact hy (R.uniq _ _ _ _ _ k1 e)
theorem ex_append {x : Str} {e : Expr} {np ap cp pos : Pos} {r : Addr} {ds : List D} {d : D} {P : Out → Prop} (l : σ.lookup x = some (.own r ds)) (y : Ev prog w c X σ e d) (hz : ds.length ≤ sizeLine) (h : P (.next X ((x, .own r (ds ++ [d])) :: σ)))
    (hs : swapsWith (.Call (.Attribute (.Name x np) "append" ap) [e] [] cp) none pos.line c.env = pure false := by rfl)
    (hline : (ap.endLine == cp.line) = true := by rfl) (he : starEach [e] c.env = (false, eval e c.env) :: starEach [] c.env := by rfl) (hd : (x == ("__debug__" : Str)) = false := by decide) :
    Ex1 prog w c X σ (.Expr (.Call (.Attribute (.Name x np) "append" ap) [e] [] cp) pos) P := by
  intro s R
  have hi : interactive c.env = false := by unfold interactive; rw [R.ok.kind]; rfl
  have htree : backTo cp (starEach [e] c.env) = [(false, eval e c.env)] := by rw [he]; rfl
  refine wpAny_Expr (wpAny_Call_append rfl (by rw [htree]; rfl) hline htree ?_) hi hs
  obtain ⟨m, n, q⟩ := R.ns
  obtain ⟨v₀, a₀, rfl, mX, z, vs, p, f⟩ := q x _ l
  refine wpAny_Name (load_var R.ok.kind n a₀ ⟨r, _, rfl, p, y.use R fun v s₁ k₁ R₁ r₁ => ?_⟩) hd
  refine list_append_plainL (p.keeps k₁.kp) (fun h' p' sb => ?_) (by rw [List.size_toArray, f.length]; exact hz)
  rw [show vs.toArray.push v = (vs ++ [v]).toArray by simp] at p'
  have ff : RepAll s₁.heap X (vs ++ [v]) (ds ++ [d]) := RepAll.append (.cons r₁ .nil) (f.keep k₁.kp)
  exact outN (R₁.grow l sb p' (ff.but (KpBut.same sb) (apart_own (c := c) (p.keeps k₁.kp).isList mX).off)) h

/-! ## unpacking -/
theorem kp_of_ext {h h' : Heap} (e : Heap.ExtBut h.objs.size h h') : Kp h h' := fun b o q => e b o (Nat.ne_of_lt (Heap.lt_size q)) q
theorem ex_unpack2 {x y : Str} {e : Expr} {n1 n2 tp pos : Pos} {k : Nat} {d₁ d₂ : D} {P : Out → Prop} (z : Ev prog w c X σ e (.tup [d₁, d₂])) (h : P (.next X ((y, .val d₂) :: (x, .val d₁) :: σ)))
    (hx : c.env.kindOf x = some .local := by rfl) (hy : c.env.kindOf y = some .local := by rfl)
    (hs : swapsWithSole [.Tuple [.Name x n1, .Name y n2] k tp] e pos.line c.env = pure false := by rfl)
    (hw : swappedStores [.Tuple [.Name x n1, .Name y n2] k tp] e c.env = pure none := by rfl) :
    Ex1 prog w c X σ (.Assign [.Tuple [.Name x n1, .Name y n2] k tp] e pos) P := by
  intro s R
  refine Assign_Tuple (z.use R fun v s₁ k₁ R₁ r => ?_) hs hw
  cases r with
  | tup a q =>
    obtain ⟨v₁, v₂, rfl, r₁, r₂⟩ := q.two
    refine wpAny_assign_Tuple R.ok.hd a rfl rfl fun h' ext => ?_
    have k₂ : Kp s₁.heap h' := kp_of_ext ext
    have R₂ : Rel c X σ { s₁ with heap := h' } := R₁.go (.heap k₂)
    obtain ⟨m, nm, qm⟩ := R₂.ns
    show wpAny _ _ (do holding [v₂] (assign (.Name x n1) c.env v₁); (do holding [] (assign (.Name y n2) c.env v₂); pure ())) _ _ _
    refine wpAny_bind (wpAny_holding (wpAny_assign_Name (wpAny_storeName_local hx nm (fun h₃ n₃ sb₃ => ?_) (by rw [R.ok.kind]; rfl))))
    have R₃ := R₂.store (tk := s₁.toks + 1) nm qm hx (sl := .val d₁) (Rep.keep k₂ r₁) (uniq_val R₂.uniq) n₃ sb₃
    obtain ⟨m₃, nm₃, qm₃⟩ := R₃.ns
    refine wpAny_bind (wpAny_holding (wpAny_assign_Name (wpAny_storeName_local hy nm₃ (fun h₄ n₄ sb₄ => ?_) (by rw [R.ok.kind]; rfl))))
    have rr : Rep h₃ X v₂ d₂ := Rep.but (KpBut.same sb₃) (Ns.off nm) (Rep.keep k₂ r₂)
    exact wpAny_pure (outN (R₃.store nm₃ qm₃ hy (sl := .val d₂) rr (uniq_val R₃.uniq) n₄ sb₄) h)
end
end Mine
end
section
open PySem PySem.W PyProof.Rows
namespace Mine
section
variable {prog : Program} {w : World} {c : Cx} {X : List Addr} {σ : Store} {s : Shared}

/-- what a def gives for these arguments, wherever it is called -/
def Fn (prog : Program) (w : World) (K : Frag) (a : Addr) (n : Nat) (ds : List D) (d : D) : Prop :=
  ∀ (A : Around) (X : List Addr) (s : Shared) (vs : List Value), Bs K s.heap → A.handled = none → A.depth + n < recursionLimit → A.units + 3 * n + 80 < cLine → s.gens = #[] → (∀ r ∈ X, ∃ vs, s.heap.IsList r vs) →
    RepAll s.heap X vs ds → Gv prog w A X (call (.ref a) vs) d s

theorem ev_call {f : Str} {np pos : Pos} {es : List Expr} {a : Addr} {n : Nat} {o : Obj} {fd : FuncData} {ds : List D} {d : D} (hf : EvV prog w c X σ (.Name f np) (.ref a)) (hn : n ≤ c.lv) (x : EvAll prog w c X σ pos es ds) (F : Fn prog w c.K a n ds d)
    (ho : c.K.lookup a = some o) (hd : o.data = .func fd) (he : ∃ e r, starEach es c.env = (false, e) :: r) : Ev prog w c X σ (.Call (.Name f np) es [] pos) d := by
  intro s R
  refine wpAny_Call_Name_kw (hf.use R fun s₁ k₁ R₁ => callWith_function_kw (o := o) (fd := fd) ?_)
  have y := x s₁ R₁
  obtain ⟨e, r, he⟩ := he
  rw [he] at y ⊢
  refine Calls.evalArgs_plain (wpAny_mono y (fun vs s₂ z => ?_) fun _ _ f => f.elim)
  have R₂ := R₁.go z.1
  refine ⟨⟨R₂.bs.k a o ho, hd⟩, ?_⟩
  have hdep := R.ok.dep
  have hun := R.ok.un
  exact (F c.A X s₂ vs R₂.bs R.ok.hd (by omega) (by omega) R₂.gens R₂.hasX z.2).of (k₁.tr z.1)

theorem lookup_rev {β : Type} {x : Str} : ∀ {l : List (Str × β)}, (l.map (·.1)).Nodup → l.reverse.lookup x = l.lookup x
  | [], _ => rfl
  | (y, v) :: r, h => by
    simp only [List.map_cons, List.nodup_cons] at h
    rw [List.reverse_cons, List.lookup_append, lookup_rev h.2]
    by_cases hx : (x == y) = true
    · have hxy : x = y := beq_iff_eq.mp hx
      subst hxy
      have hn : r.lookup x = none := by
        cases q : r.lookup x with
        | none => rfl
        | some z =>
          exfalso
          apply h.1
          clear h
          induction r with
          | nil => cases q
          | cons p t ih =>
            obtain ⟨k, v'⟩ := p
            rw [List.lookup_cons] at q
            by_cases hk : (x == k) = true
            · simp [beq_iff_eq.mp hk]
            · rw [show (x == k) = false by simpa using hk] at q
              simp only [List.map_cons, List.mem_cons]; exact .inr (ih q)
      rw [hn]; simp
    · have hx' : (x == y) = false := by simpa using hx
      simp [List.lookup_cons, hx']
theorem zip_keys {α : Type} : ∀ {names : List Str} {vs : List α}, names.length = vs.length → (names.zip vs).map (·.1) = names
  | [], [], _ => rfl
  | _ :: _, _ :: _, h => by simp only [List.zip_cons_cons, List.map_cons, zip_keys (Nat.succ.inj h)]
theorem zip_rep {h : Heap} {x : Str} {sl : Sl} : ∀ {names : List Str} {vs : List Value} {ds : List D}, RepAll h X vs ds → (names.zip (ds.map Sl.val)).lookup x = some sl → ∃ v d, (names.zip vs).lookup x = some v ∧ sl = .val d ∧ Rep h X v d
  | [], _, _, _, e => by simp at e
  | y :: names, _, _, .nil, e => by simp at e
  | y :: names, _, _, .cons (v := v) (d := d) a r, e => by
    simp only [List.map_cons, List.zip_cons_cons] at e ⊢
    rw [List.lookup_cons] at e ⊢
    by_cases hx : (x == y) = true
    · rw [hx] at e ⊢; exact ⟨v, d, rfl, (Option.some.inj e).symm, a⟩
    · have hx' : (x == y) = false := by simpa using hx
      rw [hx'] at e ⊢; exact zip_rep r e
theorem uniq_vals {names : List Str} {ds : List D} : Uniq (names.zip (ds.map Sl.val)) := by
  intro x y r q q' e e'
  clear e'
  exfalso
  induction names generalizing ds with
  | nil => simp at e
  | cons n t ih =>
    cases ds with
    | nil => simp at e
    | cons d ds =>
      simp only [List.map_cons, List.zip_cons_cons] at e
      rcases lookup_cons e with ⟨_, h⟩ | ⟨_, h⟩
      · cases h
      · exact ih h

theorem fn_of {K : Frag} {a : Addr} {n : Nat} {o : Obj} {fd : FuncData} {body : List Stmt} {names : List Str} {ds ds' : List D} {d : D} {extra : List Value}
    (ho : K.lookup a = some o) (hdat : o.data = .func fd) (hcd : codeIn K fd.code fd.qualname = true) (hbody : fd.body = .stmts body)
    (hbind : ∀ (s : Shared) (vs : List Value), Bs K s.heap → vs.length = ds.length → BindsTo s fd ⟨vs, []⟩ (names.zip (vs ++ extra)))
    (hextra : ∀ h X, RepAll h X extra ds') (hlen : names.length = ds.length + ds'.length) (hnd : names.Nodup)
    (hloc : (names.all fun x => decide (fd.scope.names.lookup x = some .local)) = true)
    (hcell : ∀ x ∈ fd.scope.names, x.2 ≠ .cell) (hglob : fd.globals = mainGlobals) (hblt : fd.builtins = builtinsNs)
    (hco : fd.scope.isCoroutine = false) (hgen : fd.scope.isGenerator = false) (hk : fd.scope.kind = .function)
    (hex : ∀ (L : Addr) (h₀ : Heap) (X₀ : List Addr) (A : Around) (os : OsState), Ok ⟨K, callEnv fd L a, h₀, X₀, A, n, os⟩ →
      Ex prog w ⟨K, callEnv fd L a, h₀, X₀, A, n, os⟩ X₀ (names.zip ((ds ++ ds').map Sl.val)) body (fun o => o = .ret d)) : Fn prog w K a (n + 1) ds d := by
  intro A X s vs bs hh hdep hun hg hX r
  have rr : RepAll s.heap X (vs ++ extra) (ds ++ ds') := RepAll.append (hextra _ _) r
  obtain ⟨p, l, mg, mb, T⟩ := bs.t
  have hl2 : names.length = (vs ++ extra).length := by rw [rr.length, hlen, List.length_append]
  refine wpAny_call (codeAny_call_def (by omega) (bs.k a o ho) hdat T.nolimit (codeRec_of bs.k hcd) hbody (hbind s vs bs r.length) hcell (fun x hx => ?_) (fun h₁ n₁ k₁ => ?_) hco hgen hk)
  · have hm : x.1 ∈ names := by
      have := List.mem_map_of_mem (f := (·.1)) hx
      rwa [zip_keys hl2] at this
    exact of_decide_eq_true (List.all_eq_true.mp hloc _ hm)
  · have kp : Kp s.heap h₁ := k₁
    have ok : Ok ⟨K, callEnv fd s.heap.objs.size a, s.heap, X, A.deeper (callEnv fd s.heap.objs.size a), n, s.os⟩ :=
      ⟨hk, hglob, hblt, bs, hh, (show A.depth + 1 + n < recursionLimit by omega), (show A.units + 3 + 3 * n + 80 < cLine by omega), hX⟩
    refine wpAny_mono (hex s.heap.objs.size s.heap X (A.deeper (callEnv fd s.heap.objs.size a)) s.os ok _ ⟨ok, hg, rfl, kp, none_size _, fun _ h => h, fun r hr => let ⟨vs, z⟩ := hX r hr; ⟨vs, kp.list z⟩, uniq_vals, _, n₁, fun x sl e => ?_⟩) (fun fl s' y => ?_) fun _ _ f => f.elim
    · obtain ⟨v, dd, e1, rfl, r1⟩ := zip_rep rr e
      refine ⟨v, ?_, Rep.keep kp r1⟩
      have hm : x ∈ names := by
        have := mem_of_lookup e
        rwa [zip_keys (by rw [List.length_map, List.length_append]; exact hlen)] at this
      have hkx : Env.kindOf (callEnv fd s.heap.objs.size a) x = some .local := of_decide_eq_true (List.all_eq_true.mp hloc _ hm)
      unfold Has
      rw [hkx]
      show (names.zip (vs ++ extra)).reverse.lookup x = some v
      rw [lookup_rev (by rw [zip_keys hl2]; exact hnd)]; exact e1
    · obtain ⟨o', h1, rfl⟩ := y
      obtain ⟨v, rfl, r', dn⟩ := h1
      exact ⟨⟨dn.1.trans hg.symm, dn.2.1, dn.2.2⟩, r'⟩
end
end Mine
end
section
open PySem PySem.W PyProof.Rows PySem.Calls
set_option maxRecDepth 100000
namespace Mine
/-- the figures of base 16 -/
def hexU : List Nat := [48, 49, 50, 51, 52, 53, 54, 55, 56, 57, 65, 66, 67, 68, 69, 70]
def hexV (c : Nat) : Nat := if c < 65 then c - 48 else c - 55
theorem hex_read : ∀ a ∈ hexU, ∀ b ∈ hexU, (int_private% "readNumeral") 0 16 [a, b] = (int_private% "Numeral.value") ((16 * hexV a + hexV b : Nat) : Int) := by
  intro a ha b hb
  simp only [hexU, List.mem_cons, List.not_mem_nil, or_false] at ha hb
  rcases ha with rfl | rfl | rfl | rfl | rfl | rfl | rfl | rfl | rfl | rfl | rfl | rfl | rfl | rfl | rfl | rfl <;>
  rcases hb with rfl | rfl | rfl | rfl | rfl | rfl | rfl | rfl | rfl | rfl | rfl | rfl | rfl | rfl | rfl | rfl <;> rfl
theorem wp_text16 {M : Model} {A : Around} {E : Value → Shared → Prop} {s : Shared} {Q : Value → Shared → Prop} {v : Value} {text : List Nat} {n : Int}
    (hs : (text.takeWhile (· != 0)).length ≤ 640) (hr : (int_private% "readNumeral") 0 16 (text.takeWhile (· != 0)) = (int_private% "Numeral.value") n)
    (ha : ((text.takeWhile (· != 0)).length == text.length) = true) (h : Q (.int n s.toks) { s with toks := s.toks + 1 }) :
    wpAny M A ((int_private% "intFromText") v text 16) Q E s := by
  obtain ⟨hp, g, d, tk, os⟩ := s
  repeat (any_goals (first
    | assumption
    | (with_reducible refine wpAny_ite_true (decide_eq_true hs) ?_)
    | (with_reducible refine wpAny_ite_true (decide_eq_true ha) ?_)
    | wp_step))
  all_goals (try rw [hr])
  all_goals (try dsimp only)
  repeat (any_goals (first
    | assumption
    | (with_reducible refine wpAny_ite_true (decide_eq_true hs) ?_)
    | (with_reducible refine wpAny_ite_true (decide_eq_true ha) ?_)
    | wp_step))
set_option maxHeartbeats 4000000 in
theorem hex_small : ∀ a ∈ hexU, a < 128 ∧ a ≠ 0 := by decide
theorem gives_hex {a b : Nat} {u v : Tok} (ha : a ∈ hexU) (hb : b ∈ hexU) : Gives (Builtin.«int.__new__» ⟨[.type "int", .str (S [a, b]) u, .int 16 v], []⟩) (.int ((16 * hexV a + hexV b : Nat) : Int)) :=
  .of_wp fun M A E s Q h => by
    obtain ⟨hp, g, d, tk, os⟩ := s
    have f1 := F.conv_sub_int
    have f2 := F.madeHere_int
    have f6 : typeOf (.str (S [a, b]) u) = pure (.type "str") := rfl
    have hlt : a < 128 ∧ b < 128 ∧ a ≠ 0 ∧ b ≠ 0 := ⟨(hex_small a ha).1, (hex_small b hb).1, (hex_small a ha).2, (hex_small b hb).2⟩
    have ht : (if (S [a, b]).cps.all (fun x => decide (x < 128)) = true then (S [a, b]).cps.toList else Unicode.numberText (S [a, b]).cps.toList) = [a, b] := by
      rw [if_pos (by simp [hlt.1, hlt.2.1])]
    have hw : [a, b].takeWhile (· != 0) = [a, b] := by simp [hlt.2.2.1, hlt.2.2.2]
    have hr := hex_read a ha b hb
    clear ha hb hlt
    repeat (any_goals (first
      | assumption
      | ((with_reducible show wpAny _ _ ((int_private% "intFromText") _ _ _) _ _ _); refine wp_text16 (n := ((16 * hexV a + hexV b : Nat) : Int)) (by rw [ht, hw]; simp) (by rw [ht, hw]; exact hr) (by rw [ht, hw]; simp) ?_)
      | wp_step))
    all_goals first | exact ⟨_, rfl, h⟩ | skip
theorem typeCall_int_2 (a b : Value) : checkTypeCall "int" ⟨[a, b], []⟩ = pure () := by kernel_rfl
theorem newCall_int_2 (a b : Value) : checkBuiltinCall "int.__new__" ⟨[.type "int", a, b], []⟩ = pure () := by kernel_rfl
theorem call_hex {prog : Program} {w : World} {A : Around} {E : Value → Shared → Prop} {s : Shared} {Q : Value → Shared → Prop} {a b : Nat} {u v : Tok} (ha : a ∈ hexU) (hb : b ∈ hexU) (h : Q (.int ((16 * hexV a + hexV b : Nat) : Int) s.toks) { s with toks := s.toks + 1 }) :
    wpAny (model prog w) A (call (.type "int") [.str (S [a, b]) u, .int 16 v]) Q E s :=
  callType_new F.called_int F.newNe_int (typeCall_int_2 _ _) (newCall_int_2 _ _) (fun obj => by unfold argsOk; kernel_rfl) F.entry_int_new (gives_hex ha hb).meets (show (Made.int _).post _ s from ⟨rfl, h⟩)

section
variable {prog : Program} {w : World} {c : Cx} {X : List Addr} {σ : Store} {s : Shared}
theorem ev_hex {f : Str} {np pos : Pos} {e e' : Expr} {a b : Nat} (hf : EvV prog w c X σ (.Name f np) (.type "int")) (x : EvAll prog w c X σ pos [e, e'] [.str [a, b], .int 16]) (ha : a ∈ hexU) (hb : b ∈ hexU)
    (hs : starEach [e, e'] c.env = [(false, eval e c.env), (false, eval e' c.env)] := by rfl) :
    Ev prog w c X σ (.Call (.Name f np) [e, e'] [] pos) (.int ((16 * hexV a + hexV b : Nat) : Int)) := by
  intro s R
  refine wpAny_Call_Name_kw (hf.use R fun s₁ k₁ R₁ => PySem.callWith_type (by rw [hs]; rfl) ?_)
  have y := x s₁ R₁
  rw [hs] at y ⊢
  refine Calls.evalArgs_plain (wpAny_mono y (fun vs s₂ z => ?_) fun _ _ f => f.elim)
  obtain ⟨k₂, r⟩ := z
  obtain ⟨v, v', rfl, r₁, r₂⟩ := r.two
  cases r₁; cases r₂
  exact call_hex ha hb ⟨k₁.tr (k₂.tr .tok), .int _ _⟩
end
end Mine
end
section
open PySem PySem.W PyProof.Rows
namespace Mine
section
variable {prog : Program} {w : World} {c : Cx} {X : List Addr} {σ : Store} {s : Shared}

/-- a list of the machine's own grows -/
theorem Rel.upd {r : Addr} {h' : Heap} {tk : Nat} {vs vs' : Array Value} (R : Rel c X σ s) (hr : r ∈ X) (hl : s.heap.IsList r vs) (h0 : c.h₀.get? r = none) (sb : Heap.SameBut r s.heap h') (hl' : h'.IsList r vs') (hno : ∀ y qs, σ.lookup y ≠ some (.own r qs)) :
    Rel c X σ { s with heap := h', toks := tk } := by
  obtain ⟨m, n, q⟩ := R.ns
  have k : KpBut r s.heap h' := KpBut.same sb
  have ap : Apart c X s.heap r := apart_own hl hr
  have hL : r ≠ c.env.locals := by
    rintro rfl
    obtain ⟨o, ho, _, kk, hd⟩ := hl
    obtain ⟨o', es, ep, ho', hd', _⟩ := n
    rw [ho] at ho'; cases ho'; rw [hd] at hd'; cases hd'
  refine ⟨R.ok, R.gens, R.os, fun b o q => k b o (by rintro rfl; rw [h0] at q; cases q) (R.keep b o q), R.newL, R.subX, fun b hb => ?_, R.uniq, m, ?_, fun y sl l => ?_⟩
  · by_cases hb' : b = r
    · subst hb'; exact ⟨_, hl'⟩
    · obtain ⟨ws, t⟩ := R.hasX b hb; exact ⟨ws, k.list t hb'⟩
  · obtain ⟨o, es, ep, ho, rest⟩ := n
    exact ⟨o, es, ep, k _ _ (Ne.symm hL) ho, rest⟩
  · obtain ⟨v, a, b⟩ := q y sl l
    refine ⟨v, a.but k ap (fun _ => rfl), b.but k ap ?_⟩
    rintro r' qs rfl rfl
    exact hno _ _ l

def Cx.we (c : Cx) (e : Env) : Cx := { c with env := e }

/-- how a target takes an item -/
def Takes (prog : Program) (w : World) (cC : Cx) (X : List Addr) (fr : Store) (target : Expr) (bnd : D → Store) (d : D) : Prop :=
  ∀ (s : Shared) (v : Value) (Q : Unit → Shared → Prop) (E : Value → Shared → Prop), Rel cC X fr s → Rep s.heap X v d →
    (∀ s', s'.gens = s.gens → s'.os = s.os → KpBut cC.env.locals s.heap s'.heap → Rel cC X (bnd d ++ fr) s' → Q () s') → wpAny (model prog w) cC.A (assign target cC.env v) Q E s
theorem takes_name {cC : Cx} {fr : Store} {x : Str} {pos : Pos} {d : D} (hx : cC.env.kindOf x = some .local) : Takes prog w cC X fr (.Name x pos) (fun d => [(x, .val d)]) d := by
  intro s v Q E R r h
  obtain ⟨m, n, q⟩ := R.ns
  refine wpAny_assign_Name (wpAny_storeName_local hx n (fun h' n' sb => h _ rfl rfl (KpBut.same sb) (R.store n q hx (sl := .val d) r (uniq_val R.uniq) n' sb)) (by rw [R.ok.kind]; rfl))
theorem takes_pair {cC : Cx} {fr : Store} {x y : Str} {n1 n2 tp : Pos} {k : Nat} {d₁ d₂ : D} (hx : cC.env.kindOf x = some .local) (hy : cC.env.kindOf y = some .local) :
    Takes prog w cC X fr (.Tuple [.Name x n1, .Name y n2] k tp) (fun d => match d with | .tup [a, b] => [(y, .val b), (x, .val a)] | _ => []) (.tup [d₁, d₂]) := by
  intro s v Q E R r h
  cases r with
  | tup a q =>
    obtain ⟨v₁, v₂, rfl, r₁, r₂⟩ := q.two
    refine wpAny_assign_Tuple R.ok.hd a rfl rfl fun h' ext => ?_
    have k₂ : Kp s.heap h' := kp_of_ext ext
    have R₂ : Rel cC X fr { s with heap := h' } := R.go (.heap k₂)
    obtain ⟨m, nm, qm⟩ := R₂.ns
    show wpAny _ _ (do holding [v₂] (assign (.Name x n1) cC.env v₁); (do holding [] (assign (.Name y n2) cC.env v₂); pure ())) _ _ _
    refine wpAny_bind (wpAny_holding (wpAny_assign_Name (wpAny_storeName_local hx nm (fun h₃ n₃ sb₃ => ?_) (by rw [R.ok.kind]; rfl))))
    have R₃ := R₂.store (tk := s.toks + 1) nm qm hx (sl := .val d₁) (Rep.keep k₂ r₁) (uniq_val R₂.uniq) n₃ sb₃
    obtain ⟨m₃, nm₃, qm₃⟩ := R₃.ns
    refine wpAny_bind (wpAny_holding (wpAny_assign_Name (wpAny_storeName_local hy nm₃ (fun h₄ n₄ sb₄ => ?_) (by rw [R.ok.kind]; rfl))))
    have rr : Rep h₃ X v₂ d₂ := Rep.but (KpBut.same sb₃) (Ns.off nm) (Rep.keep k₂ r₂)
    exact wpAny_pure (h _ rfl rfl (fun b o hb e => KpBut.same sb₄ b o hb (KpBut.same sb₃ b o hb (k₂ b o e))) (R₃.store nm₃ qm₃ hy (sl := .val d₂) rr (uniq_val R₃.uniq) n₄ sb₄))

/-- the state in a comprehension, i items done -/
structure CSt (cC : Cx) (X : List Addr) (fr : Store) (St : Nat → Heap → Prop) (acc : Addr) (rs : List D) (fp : List Addr) (s₀ : Shared) (i : Nat) (s : Shared) : Prop where
  rel : Rel cC X fr s
  st : St i s.heap
  lst : ∃ vs : List Value, PlainL s.heap acc vs.toArray ∧ RepAll s.heap X vs (rs.take i)
  old : Kp s₀.heap s.heap
  ft : ∀ b ∈ fp, ∃ o, s.heap.get? b = some o ∧ b ≠ cC.env.locals ∧ b ≠ acc

theorem compLoop_any {A : Around} {R : Result → Shared → Prop} {elt target iter : Expr} {scope : Scope} {pos : Pos} {it acc : Value} {env : Env} (I : Nat → Shared → Prop)
    (turn : ∀ n s, I n s → wpAny (model prog w) A (pyNext it) (fun r s₁ => match r with
      | none => R (.ok .next) s₁
      | some v => wpAny (model prog w) A (letOwnedTupleGo target it v) (fun _ s₁ => wpAny (model prog w) A (assign target env v) (fun _ s₂ => wpAny (model prog w) A (eval elt env) (fun x s₃ =>
          wpAny (model prog w) A (call (.builtin "list.append") [acc, x]) (fun _ s₄ => ∃ m, m < n ∧ I m s₄) (fun _ _ => False) s₃) (fun _ _ => False) s₂) (fun _ _ => False) s₁) (fun _ _ => False) s₁) (fun _ _ => False) s)
    (n : Nat) (h : I n s) :
    codeAny (model prog w) A (.compLoop (.ListComp elt [⟨target, iter, [], 0⟩] scope pos) 0 it acc env) R s := by
  refine codeAny_loop rfl I (fun n s hI => ?_) n h
  show wpAny _ _ ((compTurn (.ListComp elt [⟨target, iter, [], 0⟩] scope pos) 0 it acc env).onRaise (fun x => do noteFrame x env; theTreesLotGoes x)) _ _ s
  refine wpAny_noted ?_
  rw [compTurn_list1]
  refine wpAny_bind (wpAny_standAt (wpAny_bind (wpAny_mono (turn n s hI) (fun r s₁ h₁ => ?_) fun _ _ h' => h'.elim)))
  cases r with
  | none => exact wpAny_pure h₁
  | some v =>
    refine wpAny_bind (wpAny_mono h₁ (fun _ s₁' h₁' => ?_) fun _ _ h' => h'.elim)
    exact wpAny_bind (wpAny_mono h₁' (fun _ s₂ h₂ => wpAny_bind (wpAny_bind (wpAny_mono h₂ (fun x s₃ h₃ => wpAny_bind (wpAny_mono h₃
      (fun _ s₄ h₄ => wpAny_pure (wpAny_pure ⟨rfl, h₄⟩)) fun _ _ h' => h'.elim)) fun _ _ h' => h'.elim))) fun _ _ h' => h'.elim)

theorem comp_loop {cC : Cx} {fr : Store} {elt target iter : Expr} {bnd : D → Store} {scope : Scope} {pos : Pos} {I acc : Addr} {fp : List Addr} {Pv : Nat → Value → Prop} {St : Nat → Heap → Prop} {ds rs : List D} {s₀ : Shared} {R : Result → Shared → Prop}
    (W : Walks prog w cC.A I fp [I] ds.length Pv St) (hlen : rs.length = ds.length) (hz : ds.length ≤ sizeLine) (hacc : acc ∈ X) (hacc0 : s₀.heap.get? acc = none) (hI0 : s₀.heap.get? I = none) (hC0 : s₀.heap.get? cC.env.locals = none) (h₀s : Kp cC.h₀ s₀.heap)
    (hobj : ∀ i h, St i h → ∃ o fs, h.get? I = some o ∧ o.data = .fields fs ∧ o.cls ≠ .type "builtin_function_or_method")
    (hrep : ∀ (i : Nat) (v : Value) (d : D) (s : Shared), Pv i v → ds[i]? = some d → Kp s₀.heap s.heap → Rel cC X fr s → Rep s.heap X v d)
    (htk : ∀ d ∈ ds, Takes prog w cC X fr target bnd d) (hown : ∀ d ∈ ds, ∀ y r qs, (bnd d ++ fr).lookup y ≠ some (.own r qs)) (hsub : ∀ d ∈ ds, ∀ y sl, fr.lookup y = some sl → (bnd d ++ fr).lookup y = some sl)
    (helt : ∀ (i : Nat) (d r : D), ds[i]? = some d → rs[i]? = some r → Ev prog w cC X (bnd d ++ fr) elt r)
    (ht : ∀ v (s : Shared) (Q : Unit → Shared → Prop) (E : Value → Shared → Prop) i, St i s.heap → Q () s → wpAny (model prog w) cC.A (letOwnedTupleGo target (.ref I) v) Q E s)
    (fin : ∀ s, CSt cC X fr St acc rs fp s₀ ds.length s → ∀ h' tk, KpBut I s.heap h' → R (.ok .next) { s with heap := h', toks := tk }) (s : Shared) (h : CSt cC X fr St acc rs fp s₀ 0 s) :
    codeAny (model prog w) cC.A (.compLoop (.ListComp elt [⟨target, iter, [], 0⟩] scope pos) 0 (.ref I) (.ref acc) cC.env) R s := by
  refine compLoop_any (fun n s => ∃ i, n = ds.length - i ∧ i ≤ ds.length ∧ CSt cC X fr St acc rs fp s₀ i s) (fun n s hn => ?_) (ds.length - 0) ⟨0, rfl, Nat.zero_le _, h⟩
  · obtain ⟨i, rfl, hle, C⟩ := hn
    obtain ⟨oI, fs, hoI, hdI, hcI⟩ := hobj i _ C.st
    have apI : Apart cC X s.heap I := by
      refine ⟨⟨fun vs t => ?_, fun vs t => ?_⟩, fun o vs e d => ?_, fun o v e d => ?_⟩
      · obtain ⟨o, e, _, k, d⟩ := t; rw [hoI] at e; cases e; rw [hdI] at d; cases d
      · obtain ⟨o, e, _, k, d⟩ := t; rw [hoI] at e; cases e; rw [hdI] at d; cases d
      · rw [hoI] at e; cases e; exact hcI
      · rw [hoI] at e; cases e; rw [hdI] at d; cases d
    have hnl : ∀ vs, ¬ s.heap.IsList I vs := fun vs t => by
      obtain ⟨o, e, _, k, d⟩ := t; rw [hoI] at e; cases e; rw [hdI] at d; cases d
    have hIL : I ≠ cC.env.locals := by
      rintro e
      obtain ⟨m, ⟨o, es, ep, ho, hd, _⟩, _⟩ := C.rel.ns
      rw [← e, hoI] at ho; cases ho; rw [hdI] at hd; cases hd
    obtain ⟨vs, pl, ra⟩ := C.lst
    have hIacc : acc ≠ I := by rintro rfl; exact hnl _ pl.isList
    have hCacc : acc ≠ cC.env.locals := by
      rintro rfl
      obtain ⟨m, ⟨o, es, ep, ho, hd, _⟩, _⟩ := C.rel.ns
      obtain ⟨o', ho', _, k, hd'⟩ := pl.isList
      rw [ho] at ho'; cases ho'; rw [hd] at hd'; cases hd'
    by_cases hlt : i < ds.length
    · refine W.item i s _ _ hlt C.st fun v h' tk hp st' hk => ?_
      have kI : KpBut I s.heap h' := fun b o hb e => hk b o (by simpa using hb) e
      have R₂ : Rel cC X fr { s with heap := h', toks := tk } := C.rel.but kI apI (none_of_kp h₀s hI0) hnl hIL
      have old₂ : Kp s₀.heap h' := fun b o e => kI b o (by rintro rfl; rw [hI0] at e; cases e) (C.old b o e)
      have hd : ds[i]? = some ds[i] := List.getElem?_eq_getElem hlt
      have hm : ds[i] ∈ ds := List.getElem_mem hlt
      have hr : rs[i]? = some (rs[i]'(by omega)) := List.getElem?_eq_getElem (by omega)
      refine ht v _ _ _ _ st' ?_
      refine htk ds[i] hm _ v _ _ R₂ (hrep i v _ _ hp hd old₂ R₂) fun s₃ g3 o3 k3 R₃ => ?_
      refine (helt i _ _ hd hr).use R₃ fun y s₄ k4 R₄ r4 => ?_
      have pl4 : PlainL s₄.heap acc vs.toArray := by
        obtain ⟨o, n, ho, rest⟩ := pl
        exact ⟨o, n, k4.kp _ _ (k3 _ _ hCacc (kI _ _ hIacc ho)), rest⟩
      have ra4 : RepAll s₄.heap X vs (rs.take i) := by
        have r1 : RepAll h' X vs (rs.take i) := ra.but kI apI.off
        obtain ⟨m, nm, _⟩ := R₂.ns
        exact (r1.but k3 (Ns.off nm)).keep k4.kp
      refine list_append_plainL pl4 (fun h₅ pl5 sb5 => ?_) (by rw [List.size_toArray, ra4.length, List.length_take]; omega)
      rw [show vs.toArray.push y = (vs ++ [y]).toArray by simp] at pl5
      have h0acc : cC.h₀.get? acc = none := none_of_kp h₀s hacc0
      have k5 : KpBut acc s₄.heap h₅ := KpBut.same sb5
      have R₅' : Rel cC X (bnd ds[i] ++ fr) { s₄ with heap := h₅ } := R₄.upd (tk := s₄.toks) hacc pl4.isList h0acc sb5 pl5.isList (fun y qs => hown _ hm y acc qs)
      have R₅ : Rel cC X fr { s₄ with heap := h₅ } := R₅'.sub (fun y sl e => hsub _ hm y sl e)
      have st5 : St (i + 1) h₅ := by
        refine W.frame _ _ _ st' fun b hb o e => ?_
        obtain ⟨_, _, hbL, hba⟩ := C.ft b hb
        exact k5 b o hba (k4.kp _ _ (k3 b o hbL e))
      refine ⟨ds.length - (i + 1), by omega, i + 1, rfl, hlt, R₅, st5, ⟨vs ++ [y], pl5, ?_⟩, ?_, fun b hb => ?_⟩
      · rw [List.take_add_one, hr]
        exact RepAll.but k5 (apart_own (c := cC) pl4.isList hacc).off (RepAll.append (.cons r4 .nil) ra4)
      · intro b o e
        refine k5 b o (by rintro rfl; rw [hacc0] at e; cases e) (k4.kp _ _ (k3 b o (by rintro rfl; rw [hC0] at e; cases e) (old₂ b o e)))
      · obtain ⟨o, ho, hbL, hba⟩ := C.ft b hb
        by_cases hbI : b = I
        · subst hbI
          obtain ⟨o', fs', ho', _⟩ := hobj _ _ st5
          exact ⟨o', ho', hbL, hba⟩
        · exact ⟨o, k5 b o hba (k4.kp _ _ (k3 b o hbL (kI b o hbI ho))), hbL, hba⟩
    · have hi : i = ds.length := by omega
      subst hi
      exact W.done s _ _ C.st fun h' tk hk => fin s C h' tk fun b o hb e => hk b o (by simpa using hb) e

/-- what stands behind a comprehension's loop -/
structure CEnd (s : Shared) (X : List Addr) (rs : List D) (acc C : Addr) (s' : Shared) : Prop where
  go : Go s s'
  acc0 : s.heap.get? acc = none
  C0 : s.heap.get? C = none
  ne : acc ≠ C
  lst : ∃ vs : List Value, PlainL s'.heap acc vs.toArray ∧ RepAll s'.heap (acc :: X) vs rs
  ns : ∃ m, s'.heap.Ns C m

structure CompOk (prog : Program) (w : World) (c : Cx) (X : List Addr) (σ : Store) (elt target iter : Expr) (scope : Scope) (cl : List (Str × Addr)) (fr : Store) (bnd : D → Store) (ds rs : List D) : Prop where
  hit : Ev prog w c X σ iter (.lst ds)
  hz : ds.length ≤ sizeLine
  hlen : rs.length = ds.length
  hclos : closureFor scope c.env = pure cl
  hcell : ∀ x ∈ scope.names, x.2 ≠ .cell
  hkind : scope.kind = .function
  hnames : ∀ x ∈ scope.names, x.2 = .local → scope.names.lookup x.1 = some .local
  hfr : ∀ y sl, fr.lookup y = some sl → σ.lookup y = some sl ∧ c.env.kindOf y = some .cell ∧ (relabel scope c.env).names.lookup y = some .cell ∧ cl.lookup y = c.env.cells.lookup y ∧ ∃ d, sl = .val d
  htk : ∀ C acc d, d ∈ ds → Takes prog w (c.we (compEnvC scope cl C c.env)) (acc :: X) fr target bnd d
  hown : ∀ d ∈ ds, ∀ y r qs, (bnd d ++ fr).lookup y ≠ some (.own r qs)
  hsub : ∀ d ∈ ds, ∀ y sl, fr.lookup y = some sl → (bnd d ++ fr).lookup y = some sl
  helt : ∀ (C acc : Addr) (i : Nat) (d r : D), ds[i]? = some d → rs[i]? = some r → Ev prog w (c.we (compEnvC scope cl C c.env)) (acc :: X) (bnd d ++ fr) elt r
  ht : ∀ (I : Addr) v (s : Shared) (Q : Unit → Shared → Prop) (E : Value → Shared → Prop) (l : Addr) i, s.heap.IsListIter I l i → Q () s → wpAny (model prog w) c.A (letOwnedTupleGo target (.ref I) v) Q E s
  hs : ∀ x, foldedSetIterable iter c.env x = pure x

theorem comp_run {elt target iter : Expr} {scope : Scope} {pos p' : Pos} {cl : List (Str × Addr)} {fr : Store} {bnd : D → Store} {ds rs : List D} {use : Option (Value → Sem Unit)} {Q : Value → Shared → Prop}
    (O : CompOk prog w c X σ elt target iter scope cl fr bnd ds rs) (R : Rel c X σ s)
    (fin : ∀ acc C s', CEnd s X rs acc C s' → compPost (model prog w) c.A (fun _ _ => False) use Q (.ref acc) C (.ok .next) s') :
    wpAny (model prog w) c.A (comprehension (.ListComp elt [⟨target, iter, [], 0⟩] scope pos) scope c.env p' (newList []) false (eval iter c.env) use) Q (fun _ _ => False) s := by
  refine wpAny_comprehension_free (g := ⟨target, iter, [], 0⟩) (gs := []) rfl O.hs O.hclos O.hkind O.hnames (O.hit.use R fun v s₁ k₁ R₁ r₁ => ?_)
  cases r₁ with
  | lst a n q =>
    rename_i l vs
    refine wpAny_pyIter_list a ?_
    have kI := Kp.push s₁.heap { cls := .type "list_iterator", data := .fields #[.ref l, .int 0 0] }
    refine wpAny_newObj_type ?_ (by show (0 : Nat) ≤ sizeLine; exact Nat.zero_le _)
    have kA := Kp.push (s₁.heap.push { cls := .type "list_iterator", data := .fields #[.ref l, .int 0 0] }) { cls := .type "list", data := .seq (List.toArray []) }
    refine wpAny_newFunctionEnv O.hcell (fun x hx => by cases hx) (fun h₄ n₄ sb₄ => ?_) O.hkind
    have hI : s₁.heap.get? s₁.heap.objs.size = none := none_size _
    have hz1 : (s₁.heap.push { cls := .type "list_iterator", data := .fields #[.ref l, .int 0 0] }).objs.size = s₁.heap.objs.size + 1 := Heap.size_push ..
    have hz2 : ((s₁.heap.push { cls := .type "list_iterator", data := .fields #[.ref l, .int 0 0] }).push { cls := .type "list", data := .seq (List.toArray []) }).objs.size = s₁.heap.objs.size + 2 := by rw [Heap.size_push, hz1]
    -- names for the three new objects
    have lt_none : ∀ k, s₁.heap.get? (s₁.heap.objs.size + k) = none := fun k => by
      cases e : s₁.heap.get? (s₁.heap.objs.size + k) with
      | none => rfl
      | some o => exact absurd (Heap.lt_size e) (Nat.not_lt.mpr (Nat.le_add_right _ _))
    dsimp only at n₄ sb₄ ⊢
    rw [hz1, hz2]
    rw [hz2] at n₄ sb₄
    have kC : Kp ((s₁.heap.push { cls := .type "list_iterator", data := .fields #[.ref l, .int 0 0] }).push { cls := .type "list", data := .seq (List.toArray []) }) h₄ := fun b o e => by
      have hb : b ≠ s₁.heap.objs.size + 2 := by
        have := Heap.lt_size e
        rw [hz2] at this; exact Nat.ne_of_lt this
      exact (sb₄.2 b hb).trans (Heap.get?_push_of_some _ e)
    have k₄ : Kp s₁.heap h₄ := (kI.trans kA).trans kC
    have itO : h₄.IsListIter s₁.heap.objs.size l 0 := ⟨_, kC _ _ (kA _ _ (Heap.get?_push_size _ rfl)), rfl, rfl⟩
    have accO : PlainL h₄ (s₁.heap.objs.size + 1) ([] : List Value).toArray := ⟨_, _, kC _ _ (hz1 ▸ Heap.get?_push_size _ rfl), rfl, rfl, rfl⟩
    let cC : Cx := c.we (compEnvC scope cl (s₁.heap.objs.size + 2) c.env)
    have R₄ : Rel cC ((s₁.heap.objs.size + 1) :: X) fr { s₁ with heap := h₄, toks := s₁.toks + ([] : List (Str × Value)).length } := by
      obtain ⟨m, nm, qm⟩ := R₁.ns
      have hl' : ∀ b ∈ (s₁.heap.objs.size + 1) :: X, b ∈ X ∨ s₁.heap.get? b = none := fun b h => by
        rcases List.mem_cons.mp h with rfl | h
        · exact .inr (lt_none 1)
        · exact .inl h
      refine ⟨⟨O.hkind, R.ok.glob, R.ok.blt, R.ok.bs, R.ok.hd, R.ok.dep, R.ok.un, R.ok.x₀⟩, R₁.gens, R₁.os, R₁.keep.trans k₄, none_of_kp R₁.keep (lt_none 2), fun r hr => .tail _ (R₁.subX r hr), fun r hr => ?_, fun y z r d₁ d₂ e _ => ?_, _, n₄, fun y sl e => ?_⟩
      · rcases List.mem_cons.mp hr with rfl | hr
        · exact ⟨_, accO.isList⟩
        · obtain ⟨ws, t⟩ := R₁.hasX r hr; exact ⟨ws, k₄.list t⟩
      · obtain ⟨_, _, _, _, d, z⟩ := O.hfr _ _ e; cases z
      · obtain ⟨e1, e2, e3, e4, d, rfl⟩ := O.hfr y sl e
        obtain ⟨v, hv, rv⟩ := qm y _ e1
        refine ⟨v, ?_, Rep.keep k₄ (Rep.less hl' rv)⟩
        unfold Has at hv ⊢
        rw [e2] at hv
        have e3' : cC.env.kindOf y = some .cell := e3
        rw [e3']
        obtain ⟨cc, o, h1, h2, h3⟩ := hv
        exact ⟨cc, o, e4.trans h1, k₄ _ _ h2, h3⟩
    have hne : l ≠ s₁.heap.objs.size := fun e => by
      obtain ⟨o, ho, _⟩ := a
      exact absurd (Heap.lt_size ho) (by rw [e]; exact Nat.lt_irrefl _)
    have W := Walks.list (prog := prog) (w := w) R.ok.hd s₁.heap.objs.size l hne vs.toArray
    rw [show vs.toArray.size = ds.length by rw [List.size_toArray, q.length]] at W
    have loop : codeAny (model prog w) c.A (.compLoop (.ListComp elt [⟨target, iter, [], 0⟩] scope pos) 0 (.ref s₁.heap.objs.size) (.ref (s₁.heap.objs.size + 1)) cC.env)
        (compPost (model prog w) c.A (fun _ _ => False) use Q (.ref (s₁.heap.objs.size + 1)) (s₁.heap.objs.size + 2)) { s₁ with heap := h₄, toks := s₁.toks + ([] : List (Str × Value)).length } := by
      refine comp_loop (cC := cC) (s₀ := s₁) (fr := fr) (bnd := bnd) (ds := ds) (rs := rs) W O.hlen O.hz (.head _) (lt_none 1) hI (lt_none 2) R₁.keep (fun i h st => ?_) (fun i v d s' pv hd kk R' => ?_) (fun d hd => O.htk _ _ d hd) O.hown O.hsub (fun i d r => O.helt _ _ i d r)
        (fun v s' Q' E' i st hq => O.ht _ v s' Q' E' l i st.1 hq) (fun s' CE h' tk kb => ?_) _ ⟨R₄, ⟨itO, k₄.list a⟩, ⟨[], accO, by simpa using RepAll.nil⟩, k₄, fun b hb => ?_⟩
      · obtain ⟨⟨o, ho, hc, hd⟩, _⟩ := st
        exact ⟨o, _, ho, hd, by rw [hc]; decide⟩
      · have pv : vs[i]? = some v := by simpa using pv
        obtain ⟨v', hv', r'⟩ := q.get hd
        rw [pv] at hv'; cases hv'
        refine Rep.keep kk (Rep.less (fun b hb => ?_) r')
        rcases List.mem_cons.mp hb with rfl | hb
        · exact .inr (lt_none 1)
        · exact .inl hb
      · obtain ⟨ws, pl, ra⟩ := CE.lst
        obtain ⟨m, nm, _⟩ := CE.rel.ns
        obtain ⟨⟨oI, hoI, hcI, hdI⟩, _⟩ := CE.st
        have hb1 : s₁.heap.objs.size + 1 ≠ s₁.heap.objs.size := by omega
        have off : Off s'.heap ((s₁.heap.objs.size + 1) :: X) s₁.heap.objs.size := by
          refine ⟨fun vs t => ?_, fun vs t => ?_⟩
          · obtain ⟨o, e, _, k, d⟩ := t; rw [hoI] at e; cases e; rw [hdI] at d; cases d
          · obtain ⟨o, e, _, k, d⟩ := t; rw [hoI] at e; cases e; rw [hdI] at d; cases d
        refine fin _ _ _ ⟨k₁.tr ⟨(CE.rel.gens.trans R₁.gens.symm), CE.rel.os.trans R₁.os.symm, fun b o e => kb b o (by rintro rfl; rw [hI] at e; cases e) (CE.old b o e)⟩, none_of_kp k₁.kp (lt_none 1), none_of_kp k₁.kp (lt_none 2), neN (by omega), ⟨ws, ?_, ?_⟩, m, ?_⟩
        · obtain ⟨o, n, ho, rest⟩ := pl; exact ⟨o, n, kb _ _ hb1 ho, rest⟩
        · rw [List.take_of_length_le (by rw [O.hlen]; exact Nat.le_refl _)] at ra
          exact ra.but kb off
        · obtain ⟨o, es, ep, ho, rest⟩ := nm
          have hb2 : s₁.heap.objs.size + 2 ≠ s₁.heap.objs.size := by omega
          exact ⟨o, es, ep, kb _ _ hb2 ho, rest⟩
      · simp only [List.mem_cons, List.not_mem_nil, or_false] at hb
        have hCl : cC.env.locals = s₁.heap.objs.size + 2 := rfl
        rcases hb with rfl | rfl
        · obtain ⟨o, ho, _⟩ := itO
          exact ⟨o, ho, by rw [hCl]; exact neN (by omega), neN (by omega)⟩
        · obtain ⟨o, ho, _⟩ := a
          have := Heap.lt_size ho
          exact ⟨o, k₄ _ _ ho, by rw [hCl]; exact neN (Nat.ne_of_lt (Nat.lt_of_lt_of_le this (Nat.le_add_right _ _))), neN (Nat.ne_of_lt (Nat.lt_of_lt_of_le this (Nat.le_add_right _ _)))⟩
    refine codeAny_compStart_list loop ?_
    exact W.self 0 _ _ _ ⟨itO, k₄.list a⟩ loop

theorem ev_comp {elt target iter : Expr} {scope : Scope} {pos : Pos} {cl : List (Str × Addr)} {fr : Store} {bnd : D → Store} {ds rs : List D}
    (O : CompOk prog w c X σ elt target iter scope cl fr bnd ds rs) : Ev prog w c X σ (.ListComp elt [⟨target, iter, [], 0⟩] scope pos) (.lst rs) := by
  intro s R
  show wpAny _ _ (eval _ _) _ _ _
  rw [eval_ListComp]
  refine comp_run O R fun acc C s' e => ?_
  obtain ⟨vs, pl, ra⟩ := e.lst
  obtain ⟨m, nm⟩ := e.ns
  refine ⟨m, nm, fun h' sb => ?_⟩
  have kb : KpBut C s'.heap h' := KpBut.same sb
  refine ⟨⟨e.go.gens, e.go.os, fun b o q => kb b o (by rintro rfl; rw [e.C0] at q; cases q) (e.go.kp b o q)⟩, .lst (kb.list pl.isList e.ne) (notIn_of_none R.hasX e.acc0) ?_⟩
  refine (RepAll.but kb (Ns.off nm) ra).less fun a ha => .inl (.tail _ ha)

theorem ex_comp {x : Str} {np pos : Pos} {elt target iter : Expr} {scope : Scope} {lp : Pos} {cl : List (Str × Addr)} {fr : Store} {bnd : D → Store} {ds rs : List D} {P : Out → Prop}
    (O : CompOk prog w c X σ elt target iter scope cl fr bnd ds rs) (h : ∀ r, P (.next (r :: X) ((x, .own r rs) :: σ))) (hx : c.env.kindOf x = some .local := by rfl)
    (hsw : swapsWith (.ListComp elt [⟨target, iter, [], 0⟩] scope lp) (some (.Name x np)) pos.line c.env = pure true := by rfl) :
    Ex1 prog w c X σ (.Assign [.Name x np] (.ListComp elt [⟨target, iter, [], 0⟩] scope lp) pos) P := by
  intro s R
  rw [exec_Assign_Name_used _ _ _ _ hsw]
  refine wpAny_bind (wpAny_standAt (wpAny_bind ?_))
  show wpAny _ c.A (do let _ ← comprehension (.ListComp elt [⟨target, iter, [], 0⟩] scope lp) scope c.env _ (newList []) false (eval iter c.env) (some (assign (.Name x np) c.env))) _ _ s
  refine wpAny_bind (wpAny_mono (comp_run (Q := fun _ s' => ∃ o, OutR c .next s' o ∧ P o) (use := some (assign (.Name x np) c.env)) O R fun acc C s' e => ?_) (fun _ s' hq => wpAny_pure (wpAny_pure hq)) fun _ _ f => f.elim)
  obtain ⟨vs, pl, ra⟩ := e.lst
  obtain ⟨mC, nC⟩ := e.ns
  have R₁ : Rel c X σ s' := R.go e.go
  obtain ⟨m, nm, q⟩ := R₁.ns
  have nm0 := R.ns.choose_spec.1
  have hLC : c.env.locals ≠ C := by
    intro z
    obtain ⟨m0, ⟨o, es, ep, ho, _⟩, _⟩ := R.ns
    rw [z, e.C0] at ho; cases ho
  have hLA : c.env.locals ≠ acc := by
    intro z
    obtain ⟨m0, ⟨o, es, ep, ho, _⟩, _⟩ := R.ns
    rw [z, e.acc0] at ho; cases ho
  have hl' : ∀ b ∈ acc :: X, b ∈ X ∨ s.heap.get? b = none := fun b h => by
    rcases List.mem_cons.mp h with rfl | h
    · exact .inr e.acc0
    · exact .inl h
  -- the frame with the new list
  have R₂ : Rel c (acc :: X) σ s' := by
    obtain ⟨m0, n0, q0⟩ := R.ns
    refine ⟨R₁.ok, R₁.gens, R₁.os, R₁.keep, R₁.newL, fun r hr => .tail _ (R₁.subX r hr), fun r hr => ?_, R₁.uniq, m0, n0.keeps e.go.kp, fun y sl l => ?_⟩
    · rcases List.mem_cons.mp hr with rfl | hr
      · exact ⟨_, pl.isList⟩
      · exact R₁.hasX r hr
    · obtain ⟨v, a, b⟩ := q0 y sl l
      refine ⟨v, a.keep e.go.kp, ?_⟩
      cases sl with
      | val d => exact Rep.keep e.go.kp (Rep.less hl' b)
      | own r ds => obtain ⟨e1, e2, e3, vs, p, f⟩ := b; exact ⟨e1, .tail _ e2, e3, vs, p.keeps e.go.kp, (f.less hl').keep e.go.kp⟩
      | app r => exact SlRep.keep (sl := .app r) e.go.kp b
  obtain ⟨m₂, n₂, q₂⟩ := R₂.ns
  show wpAny _ c.A (assign (.Name x np) c.env (.ref acc)) _ _ _
  refine wpAny_assign_Name (wpAny_storeName_local hx n₂ (fun h₃ n₃ sb₃ => ?_) (by rw [R.ok.kind]; rfl))
  have R₃ := R₂.store (tk := s'.toks + 1) n₂ q₂ hx (sl := .own acc rs) ⟨rfl, .head _, none_of_kp R.keep e.acc0, vs, pl, ra⟩ (uniq_new R e.acc0) n₃ sb₃
  refine ⟨mC, nC.sameBut sb₃ (Ne.symm hLC), fun h₄ sb₄ => ?_⟩
  -- the comprehension's names go
  have nC3 : h₃.Ns C mC := nC.sameBut sb₃ (Ne.symm hLC)
  have apC : Apart c (acc :: X) h₃ C := apart_ns nC3
  refine outN (R₃.but (KpBut.same sb₄) apC (none_of_kp R.keep e.C0) (fun ws t => ?_) (Ne.symm hLC)) (h acc)
  obtain ⟨o, ho, _, kk, hd⟩ := t
  obtain ⟨o', es, ep, ho', hd', _⟩ := nC3
  rw [ho] at ho'; cases ho'; rw [hd] at hd'; cases hd'
end
end Mine
end
section
open PySem PySem.W PyProof.Rows
set_option maxRecDepth 100000
namespace Mine
theorem lk_append : typeLookup (.type "list") "append" = pure (some (.builtin "list.append")) := by rw [typeLookup_type, builtinLookup_eq_fast]; kernel_rfl
theorem ty_append : typeOf (.builtin "list.append") = pure (.type "method_descriptor") := by show builtinType _ = _; rw [builtinType_eq_fast]; kernel_rfl
theorem slot_md : Slot "method_descriptor" "__get__" "method_descriptor.__get__" :=
  .of (owner := "method_descriptor") (n := "__get__") (by rw [typeLookup_type, builtinLookup_eq_fast]; kernel_rfl) (by decide +kernel) (by decide +kernel) (by decide +kernel)
    (by first | exact .inl (by decide +kernel) | exact .inr (by decide +kernel)) (by rw [isSubtype_type]; kernel_rfl)
theorem md_set : typeLookup (.type "method_descriptor") "__set__" = pure none := by rw [typeLookup_type, builtinLookup_eq_fast]; kernel_rfl
theorem md_del : typeLookup (.type "method_descriptor") "__delete__" = pure none := by rw [typeLookup_type, builtinLookup_eq_fast]; kernel_rfl
theorem entry_md : entryFor table "method_descriptor.__get__" = some Builtin.«method_descriptor.__get__» := entryFor_of_tree (by kernel_rfl)
theorem args_md (a b c : Value) : argsOk "method_descriptor.__get__" ⟨[a, b, c], []⟩ := by unfold argsOk; kernel_rfl
theorem owner_append : (kfb_private% "ownerAndName") "list.append" = ("list", "append") := by first | decide +kernel | kernel_rfl
theorem sub_list_list : isSubtype (.type "list") (.type "list") = pure true := by rw [isSubtype_type]; kernel_rfl
theorem told_append : Manifest.toldItsClass.contains "list.append" = false := by decide +kernel
def bapp (a : Addr) : Obj := { cls := .type "builtin_function_or_method", data := .fields #[.builtin "list.append", .ref a] }

section
variable {prog : Program} {w : World} {A : Around} {E : Value → Shared → Prop} {s : Shared} {a : Addr}
theorem run_md {M : Model} {P : Fin → Shared → Prop} (hT : s.TypeIs (.ref a) "list") (h : P (.done (.ret (.ref s.heap.objs.size))) { s with heap := s.heap.push (bapp a) }) :
    wpAny M A (Builtin.«method_descriptor.__get__» ⟨[.builtin "list.append", .ref a, .type "list"], []⟩) P E s := by
  unfold Builtin.«method_descriptor.__get__»
  refine wpAny_bind (wpAny_of_eq (a := (.builtin "list.append", some (.ref a), some (.type "list"))) (by first | rfl | kernel_rfl) ?_)
  dsimp only
  rw [told_append]
  simp only [Bool.false_eq_true, if_false]
  show wpAny M A ((do (kfb_private% "checkInstance") (.builtin "list.append") (.ref a); ret (← newFields "builtin_function_or_method" [.builtin "list.append", .ref a])) : Sem Fin) P E s
  refine wpAny_bind ?_
  show wpAny M A (do
    let x ← (kfb_private% "nameAndClass") (.builtin "list.append")
    if !(← isInstance (.ref a) x.2) then _) _ E s
  refine wpAny_bind (wpAny_of_eq (a := (("append" : Str), .type "list")) (by show pure ((((kfb_private% "ownerAndName") "list.append").2 : Str), Value.type ((kfb_private% "ownerAndName") "list.append").1) = _; rw [owner_append]) ?_)
  refine wpAny_bind (wpAny_isInstance (T := "list") (b := true) hT sub_list_list ?_)
  simp only [Bool.not_true, Bool.false_eq_true, if_false]
  refine wpAny_pure (wpAny_bind (wpAny_newObj_type (wpAny_pure h)))

variable {h : Heap} {g : Array GenState} {d : Drawn} {t : Nat} {os : OsState} {items : Array Value} {n : Nat} {sl : Array (Option Value)}
theorem append_entry {tk : Tok} {Q : Fin → Shared → Prop} (hx : h.get? a = some ⟨.type "list", none, .seq items n, sl⟩)
    (hq : Q (.done (.ret (.ref h.objs.size))) ⟨h.push (bapp a), g, d, t, os⟩) :
    wpAny (model prog w) A (Builtin.«object.__getattribute__» ⟨[.ref a, .str "append" tk], []⟩) Q E ⟨h, g, d, t, os⟩ := by
  have hT : (⟨h, g, d, t, os⟩ : Shared).TypeIs (.ref a) "list" := ⟨_, hx, rfl⟩
  have f4 := lk_append
  have f5 := ty_append
  have f6 := slot_md.lookup
  have f7 := md_set
  have f8 := md_del
  repeat (any_goals (first | assumption | wp_step))
  refine codeAny_call_builtin slot_md.plain entry_md (slot_md.check _ _ _ _ _ _ _ _ ty_append (args_md _ _ _) (run_md hT ?_))
  exact wpAny_pure hq
theorem append_call {tk : Tok} {R : Result → Shared → Prop} (hx : h.get? a = some ⟨.type "list", none, .seq items n, sl⟩) (hq : R (.ok (.ret (.ref h.objs.size))) ⟨h.push (bapp a), g, d, t, os⟩) :
    codeAny (model prog w) A (.call (.builtin "list.__getattribute__") ⟨[.ref a, .str "append" tk], []⟩) R ⟨h, g, d, t, os⟩ :=
  codeAny_call_builtin F.slot_list_getattribute.plain F.entry_list_ga (F.slot_list_getattribute.check _ _ _ _ _ _ _ _ (show (⟨h, g, d, t, os⟩ : Shared).TypeIs (.ref a) "list" from ⟨_, hx, rfl⟩) (F.args_list_getattribute_2 _ _) (append_entry hx hq))
theorem append_by {tk : Tok} {Q : Value → Shared → Prop} (hx : h.get? a = some ⟨.type "list", none, .seq items n, sl⟩) (hq : Q (.ref h.objs.size) ⟨h.push (bapp a), g, d, t, os⟩) : wpAny (model prog w) A (getAttrBy (.ref a) (.str "append" tk) true true) Q E ⟨h, g, d, t, os⟩ := by
  have hT : (⟨h, g, d, t, os⟩ : Shared).TypeIs (.ref a) "list" := ⟨_, hx, rfl⟩
  unfold getAttrBy
  refine wpAny_holding (wpAny_bind (wpAny_typeOf hT (wpAny_bind (wpAny_of_eq F.slot_list_getattribute.lookup ?_))))
  show wpAny _ _ (getAttrByItsOwn (.ref a) (.str "append" tk) (.type "list") (.builtin "list.__getattribute__") true true) _ _ _
  unfold getAttrByItsOwn
  refine wpAny_bind (wpAny_of_eq (a := Option.none) rfl (wpAny_bind (wpAny_attempt (wpAny_holding ?_))))
  show wpAny _ _ (boundAndCalled (.builtin "list.__getattribute__") (.ref a) (.str "append" tk)) _ _ _
  unfold boundAndCalled
  refine wpAny_bind (wpAny_of_eq (F.slot_list_getattribute.bind (.ref a)) (wpAny_call (append_call hx ?_)))
  exact wpAny_pure hq
theorem append_attr {Q : Value → Shared → Prop} (p : PlainL s.heap a items) (hq : Q (.ref s.heap.objs.size) { s with heap := s.heap.push (bapp a), toks := s.toks + 1 }) : wpAny (model prog w) A (getAttr (.ref a) "append" true) Q E s := by
  obtain ⟨⟨c, dd, dt, sl⟩, n, ho, hc, hdd, hd⟩ := p
  simp only at hc hdd hd
  subst hc hdd hd
  obtain ⟨hp, g, d, tk, os⟩ := s
  unfold getAttr
  refine wpAny_bind (fun Γ p' hΓ => ?_)
  exact append_by (g := g) (d := d) (t := tk + 1) (os := os) ho hq
end
end Mine
end
section
open PySem PySem.W PyProof.Rows
set_option maxRecDepth 100000
namespace Mine
section
variable {prog : Program} {w : World} {A : Around} {E : Value → Shared → Prop} {s : Shared} {a : Addr} {items : Array Value}
theorem isType_list {M : Model} {o : Obj} {n : Nat} {Q : Bool → Shared → Prop} (ho : s.heap.get? a = some o) (hd : o.data = .seq items n) (h : Q false s) : wpAny M A (isType (.ref a)) Q E s := by
  show wpAny M A (loadPart a (some headPart) >>= fun o => pure (match o.data with | .cls _ => true | _ => false)) Q E s
  refine wpAny_bind (wpAny_loadPart ho ?_)
  rw [hd]; exact wpAny_pure h
theorem sub_list_module : isSubtype (.type "list") (.type "module") = pure false := by rw [isSubtype_type]; kernel_rfl
theorem sub_list_type : isSubtype (.type "list") (.type "type") = pure false := by rw [isSubtype_type]; kernel_rfl
theorem sig_append : Manifest.signature? "list.append" = some ⟨.oneArg, "list.append", "append", .self, [⟨"object", .posOnly, true⟩]⟩ := by kernel_rfl
theorem kind_append : builtinKind "list.append" = some .method := by decide +kernel
theorem last_append : Bind.lastOf "list.append" = "append" := by decide +kernel
theorem var_append : Manifest.varargsMethods.contains "list.append" = false := by decide +kernel
theorem plain_append : (Code.builtin "list.append" ⟨[], []⟩).quiet = true := Code.quiet_builtin _ (by decide +kernel)
theorem check_bapp {x : Value} {Q : Unit → Shared → Prop} (p : PlainL s.heap a items) (h : Q () s) : wpAny (model prog w) A (checkBoundCall "list.append" ⟨[.ref a, x], []⟩) Q E s := by
  have hT : s.TypeIs (.ref a) "list" := p.isList.typeIs
  unfold checkBoundCall
  rw [sig_append, kind_append]
  dsimp only
  rw [if_neg (by decide), last_append]
  refine wpAny_bind (wpAny_isInstance (T := "list") (b := false) hT sub_list_module ?_)
  rw [var_append]
  simp only [Bool.or_self, Bool.false_eq_true, if_false]
  obtain ⟨o, n, ho, hc, hdn, hd⟩ := id p
  refine wpAny_bind (isType_list ho hd ?_)
  simp only [Bool.false_eq_true, if_false]
  refine wpAny_bind (wpAny_typeOf hT ?_)
  dsimp only
  exact wpAny_of_eq (a := ()) (by first | rfl | kernel_rfl) h
theorem call_bapp {q : Addr} {x : Value} {o : Obj} {Q : Value → Shared → Prop} (ho : s.heap.get? q = some o) (hc : o.cls = .type "builtin_function_or_method") (hd : o.data = .fields #[.builtin "list.append", .ref a])
    (p : PlainL s.heap a items) (hQ : ∀ h', PlainL h' a (items.push x) → Heap.SameBut a s.heap h' → Q .none { s with heap := h' }) (hsz : items.size ≤ sizeLine) : wpAny (model prog w) A (call (.ref q) [x]) Q E s := by
  refine wpAny_call (codeAny_of_tree ?_)
  show wpAny _ A.in1 (callAny (.ref q) ⟨[x], []⟩) _ _ s
  simp only [callAny]
  refine wpAny_bind (wpAny_load ho ?_)
  rw [hd]
  simp only [hc, show (Value.type "builtin_function_or_method" == Value.type "method" || Value.type "builtin_function_or_method" == Value.type "builtin_function_or_method" || Value.type "builtin_function_or_method" == Value.type "method-wrapper") = true by decide, if_true]
  refine KFB.if_so (by decide) ?_
  refine wpAny_bind (check_bapp p ?_)
  refine wpAny_bind (wpAny_pure (wpAny_pure ?_))
  refine ⟨Code.quiet_builtin _ (by decide +kernel), codeAny_builtin entry_list_append ?_⟩
  obtain ⟨o', n', ho', hc', hdn', hd'⟩ := id p
  obtain ⟨n'', hd''⟩ := Obj.data_mapSeq hd' (·.push x)
  show wpAny _ _ (updateSeq a (·.push x) >>= fun _ => ret .none) _ _ s
  refine wpAny_bind (wpAny_updateSeq ho' hd' (wpAny_pure (hQ _ ?_ (Heap.SameBut.update ..))))
  refine ⟨_, n'', Heap.get?_update_self _ ho' (Obj.isFreed_of_seq hd''), (Obj.cls_mapSeq ..).trans hc', ?_, hd''⟩
  obtain ⟨c, d, dt, sl⟩ := o'
  subst hd'
  exact hdn'

end
section
variable {prog : Program} {w : World} {c : Cx} {X : List Addr} {σ : Store} {s : Shared}
theorem ex_bapp {x y : Str} {np xp ap pos : Pos} {r : Addr} {ds : List D} {P : Out → Prop} (l : σ.lookup y = some (.own r ds)) (h : P (.next X ((x, .app r) :: σ))) (hx : c.env.kindOf x = some .local := by rfl)
    (hs : swapsWith (.Attribute (.Name y np) "append" ap) (some (.Name x xp)) pos.line c.env = pure false := by rfl) (hd : (y == ("__debug__" : Str)) = false := by decide) :
    Ex1 prog w c X σ (.Assign [.Name x xp] (.Attribute (.Name y np) "append" ap) pos) P := by
  intro s R
  obtain ⟨m, n, q⟩ := R.ns
  obtain ⟨v₀, a₀, rfl, mX, z, vs, p, f⟩ := q y _ l
  refine wpAny_Assign_Name ?_ hs
  show wpAny _ _ (do
    let o ← attributeBase (.Name y np) "append" c.env (eval (.Name y np) c.env)
    standAt ap.atName
    let r ← holding [o] (getAttr o "append" true)
    letTemporaryGo (.Name y np) o r
    pure r) _ _ s
  refine wpAny_bind (show wpAny _ _ (eval (.Name y np) c.env) _ _ s from wpAny_Name (load_var R.ok.kind n a₀ ?_) hd)
  refine wpAny_bind (wpAny_standAt (wpAny_bind (wpAny_holding (append_attr p ?_))))
  refine wpAny_bind (wpAny_of_eq (a := ()) rfl (wpAny_pure ?_))
  have R₁ : Rel c X σ { s with heap := s.heap.push (bapp r), toks := s.toks + 1 } := R.go (.both (Kp.push _ _))
  obtain ⟨m₁, n₁, q₁⟩ := R₁.ns
  refine wpAny_storeName_local hx n₁ (fun h' n' sb => outN (R₁.store n₁ q₁ hx (sl := .app r) ⟨_, _, rfl, Heap.get?_push_size _ rfl, rfl, rfl⟩ (uniq_app R₁.uniq) n' sb) h) ?_
  rw [R.ok.kind]; rfl

theorem callWith_bapp {M : Model} {A : Around} {E : Value → Shared → Prop} {pos : Pos} {u : Addr} {o : Obj} {fs : Array Value} {args : List (Bool × Sem Value)} {Q : Value → Shared → Prop} (hplain : args.any (·.1) = false)
    (h : wpAny M A (evalArgs (.ref u) true args []) (fun x s₁ => (s₁.heap.get? u = some o ∧ o.cls = .type "builtin_function_or_method" ∧ o.data = .fields fs) ∧ wpAny M A (call (.ref u) ([] ++ x.pos) x.kw) Q E s₁) E s) : wpAny M A (callWith pos (.ref u) [] args []) Q E s := by
  unfold callWith
  refine wpAny_bind (wpAny_holding (wpAny_mono h (fun x s₁ h₁ => wpAny_bind (wpAny_standAt ?_)) fun _ _ x => x))
  obtain ⟨⟨ho, hc, hd⟩, hcall⟩ := h₁
  simp only [hplain, List.any_nil, Bool.or_false]
  refine wpAny_bind (m := keeperOf (.ref u)) ?_
  unfold keeperOf
  refine wpAny_bind (wpAny_load ho ?_)
  rw [hd]
  simp only [hc, show (Value.type "builtin_function_or_method" != Value.type "method") = true by decide, show (Value.type "builtin_function_or_method" == Value.type "builtin_function_or_method" || Value.type "builtin_function_or_method" == Value.type "method-wrapper") = true by decide, if_true]
  refine wpAny_pure ?_
  exact wpAny_bind (wpAny_mono hcall (fun r s₂ hr => wpAny_bind (wpAny_holding (wpAny_point (wpAny_pure hr)))) fun _ _ x => x)

theorem ex_app {f x : Str} {e : Expr} {np cp pos : Pos} {r : Addr} {ds : List D} {d : D} {P : Out → Prop} (lf : σ.lookup f = some (.app r)) (l : σ.lookup x = some (.own r ds)) (y : Ev prog w c X σ e d) (hz : ds.length ≤ sizeLine) (h : P (.next X ((x, .own r (ds ++ [d])) :: σ)))
    (hs : swapsWith (.Call (.Name f np) [e] [] cp) none pos.line c.env = pure false := by rfl)
    (he : starEach [e] c.env = (false, eval e c.env) :: starEach [] c.env := by rfl) (hd : (f == ("__debug__" : Str)) = false := by decide) :
    Ex1 prog w c X σ (.Expr (.Call (.Name f np) [e] [] cp) pos) P := by
  intro s R
  have hi : interactive c.env = false := by unfold interactive; rw [R.ok.kind]; rfl
  refine wpAny_Expr (wpAny_Call_Name_kw ?_) hi hs
  obtain ⟨m, n, q⟩ := R.ns
  obtain ⟨v₀, a₀, rfl, mX, z, vs, p, ff⟩ := q x _ l
  obtain ⟨v₁, a₁, qa, o, rfl, ho, hc, hdd⟩ := q f _ lf
  refine wpAny_Name (load_var R.ok.kind n a₁ (callWith_bapp (o := o) (fs := #[.builtin "list.append", .ref r]) (by rw [he]; rfl) ?_)) hd
  rw [he]
  refine Calls.evalArgs_plain (Calls.spliced_cons (y.use R fun v s₁ k₁ R₁ r₁ => Calls.spliced_nil ⟨⟨k₁.kp _ _ ho, hc, hdd⟩, ?_⟩))
  refine call_bapp (k₁.kp _ _ ho) hc hdd (p.keeps k₁.kp) (fun h' p' sb => ?_) (by rw [List.size_toArray, ff.length]; exact hz)
  rw [show vs.toArray.push v = (vs ++ [v]).toArray by simp] at p'
  have f2 : RepAll s₁.heap X (vs ++ [v]) (ds ++ [d]) := RepAll.append (.cons r₁ .nil) (ff.keep k₁.kp)
  exact outN (R₁.grow l sb p' (f2.but (KpBut.same sb) (apart_own (c := c) (p.keeps k₁.kp).isList mX).off)) h
end
end Mine
end
section
open PySem PySem.W PyProof.Rows
namespace Mine
section
variable {prog : Program} {w : World} {A : Around} {E : Value → Shared → Prop} {s : Shared}

theorem setItem_neg {l : Addr} {items : Array Value} {k : Int} {t : Tok} {v : Value} {Q : Unit → Shared → Prop} (hl : PlainL s.heap l items)
    (h0 : k < 0) (h1 : -(items.size : Int) ≤ k) (hfit : -(2 ^ 63) ≤ k)
    (hQ : ∀ h', PlainL h' l (items.setIfInBounds (k + items.size).toNat v) → Heap.SameBut l s.heap h' → Q () { s with heap := h' }) :
    wpAny (model prog w) A (setItem (.ref l) (.int k t) v) Q E s := by
  obtain ⟨o, n, ho, hc, hdn, hd⟩ := id hl
  have hT := hl.isList.typeIs
  unfold setItem
  try with_reducible refine wpAny_holding ?_
  first | refine wpAny_bind (wpAny_pure ?_) | skip
  refine wpAny_bind (wpAny_sequenceKey hT (by decide) ?_)
  refine wpAny_bind (wpAny_callSpecial?_slot (name := Str.ofString "__setitem__") hT slot_list_setitem
    (wpAny_call_entry slot_list_setitem hT entry_list_setitem ?_ (args_list_setitem _ _ _)))
  show wpAny _ _ (Builtin.List.listSubscript? (.int k t) >>= _) _ _ s
  refine wpAny_bind (wpAny_listSubscript_int (fitsIndex_neg h0 hfit) ?_)
  clear hfit
  have hidx := seqIndex_neg h0 h1
  have hj : (k + items.size).toNat < items.size := by omega
  obtain ⟨xi, hx⟩ : ∃ xi, items[(k + items.size).toNat]? = some xi := ⟨_, Array.getElem?_eq_getElem hj⟩
  obtain ⟨n', hd'⟩ := Obj.data_mapSeq hd (·.setIfInBounds (k + items.size).toNat v)
  have hfin : PlainL (s.heap.update l (Obj.mapSeq (·.setIfInBounds (k + items.size).toNat v))) l (items.setIfInBounds (k + items.size).toNat v) := by
    refine ⟨_, n', Heap.get?_update_self _ ho (Obj.isFreed_of_seq hd'), (Obj.cls_mapSeq ..).trans hc, ?_, hd'⟩
    obtain ⟨c, d, dt, sl⟩ := o
    subst hd
    exact hdn
  obtain ⟨j, hjk⟩ : ∃ j : Nat, k = Int.negSucc j := by
    cases k with
    | ofNat n => exact absurd h0 (Int.not_lt.mpr (Int.natCast_nonneg n))
    | negSucc n => exact ⟨n, rfl⟩
  clear hj hd' h0 h1
  subst hjk
  show wpAny _ _ ((Builtin.List.listItems (.ref l) >>= fun xs => pure ((seqIndex? (Int.negSucc j) xs.size).bind fun i => xs[i]?.map (i, ·))) >>= _) _ _ s
  refine wpAny_bind (wpAny_bind ?_)
  show wpAny _ _ (seqItems? (.ref l) >>= _) _ _ s
  refine wpAny_bind (wpAny_seqItems ho hd (wpAny_pure (wpAny_pure ?_)))
  rw [hidx]
  simp only [Option.bind_some, hx, Option.map_some]
  show wpAny _ _ (setSeqItemAt l _ v >>= _) _ _ s
  refine wpAny_bind (wpAny_setSeqItemAt ho hd ?_)
  first
    | exact wpAny_bind (wpAny_pure (wpAny_pure ⟨.none, rfl, wpAny_pure (hQ _ hfin (Heap.SameBut.update ..))⟩))
    | exact wpAny_pure ⟨.none, rfl, wpAny_pure (hQ _ hfin (Heap.SameBut.update ..))⟩
    | exact wpAny_pure ⟨rfl, rfl, wpAny_pure (hQ _ hfin (Heap.SameBut.update ..))⟩

theorem draw_list {it l : Addr} {items : Array Value} (hne : l ≠ it) : ∀ (n i : Nat) (s : Shared) (Q : List Value → Shared → Prop), s.heap.IsListIter it l i → s.heap.IsList l items → i + n ≤ items.size →
    (∀ h', h'.IsListIter it l (i + n) → Heap.SameBut it s.heap h' → Q ((items.toList.drop i).take n) { s with heap := h' }) → wpAny (model prog w) A (draw (.ref it) n) Q E s
  | 0, i, s, Q, hit, hl, hle, hQ => by
    have h := hQ s.heap (by simpa using hit) (Heap.SameBut.refl ..)
    rw [List.take_zero] at h
    exact wpAny_pure h
  | n + 1, i, s, Q, hit, hl, hle, hQ => by
    have hlt : i < items.size := by omega
    show wpAny _ _ (pyNext (.ref it) >>= _) _ _ s
    refine wpAny_bind (wpAny_pyNext_list_item hit hl (x := items[i]) (by simp [hlt]) fun h₁ hit₁ hs₁ => ?_)
    refine wpAny_bind (wpAny_holding (draw_list hne n (i + 1) _ _ hit₁ (hl.extBut hs₁.extBut hne) (by omega) fun h₂ hit₂ hs₂ => wpAny_pure ?_))
    have hd : items.toList.drop i = items[i] :: items.toList.drop (i + 1) := by simp [List.drop_eq_getElem_cons, hlt]
    have := hQ h₂ (by rw [show i + (n + 1) = i + 1 + n by omega]; exact hit₂) (hs₁.trans hs₂)
    rw [hd, List.take_succ_cons] at this
    exact this
theorem unpackItems_list {l : Addr} {items : Array Value} {Q : List Value → Shared → Prop} (hh : A.handled = none) (hl : s.heap.IsList l items)
    (hQ : ∀ h', Heap.ExtBut s.heap.objs.size s.heap h' → Q items.toList { s with heap := h' }) : wpAny (model prog w) A (unpackItems (.ref l) items.size none) Q E s := by
  have hlt : l ≠ s.heap.objs.size := by obtain ⟨o, ho, _⟩ := hl; exact Nat.ne_of_lt (Heap.lt_size ho)
  unfold unpackItems
  refine wpAny_bind ?_
  unfold notIterableAtAll
  refine wpAny_bind (wpAny_specialOf hl.typeIs slot_list_iter.lookup ?_)
  refine wpAny_pure ?_
  simp only [Bool.false_eq_true, if_false]
  refine wpAny_bind (wpAny_holding (wpAny_pyIter_list hl ?_))
  refine wpAny_bind (wpAny_holding (draw_list hlt items.size 0 _ _ ⟨_, Heap.get?_push_size _ rfl, rfl, rfl⟩ (hl.push _) (by omega) fun h₁ hit₁ hs₁ => ?_))
  have hall : List.take items.size (List.drop 0 items.toList) = items.toList := by
    rw [List.drop_zero]; exact List.take_of_length_le (by simp)
  rw [hall]
  rw [if_neg (by simp)]
  have hl₁ : h₁.IsList l items := (hl.push _).extBut hs₁.extBut hlt
  refine wpAny_bind (wpAny_holding (wpAny_pyNext_list_end hh hit₁ hl₁ (by simp) fun h₂ he₂ => ?_))
  simp only [Option.isSome_none, Bool.false_eq_true, if_false]
  refine wpAny_pure (hQ h₂ fun b o hb e => he₂ b o hb (hs₁.extBut b o hb (Heap.get?_push_of_some _ e)))
end

section
variable {prog : Program} {w : World} {c : Cx} {X : List Addr} {σ : Store} {s : Shared}
theorem ex_setneg {x : Str} {i e : Expr} {np sp pos : Pos} {r : Addr} {ds : List D} {k : Int} {d : D} {P : Out → Prop} (l : σ.lookup x = some (.own r ds)) (yi : Ev prog w c X σ i (.int k)) (ye : Ev prog w c X σ e d) (h0 : k < 0) (h1 : -(ds.length : Int) ≤ k) (hz : ds.length ≤ sizeLine)
    (h : P (.next X ((x, .own r (ds.set (k + ds.length).toNat d)) :: σ)))
    (hs : swapsWith e (some (.Subscript (.Name x np) i sp)) pos.line c.env = pure false := by rfl) (hd : (x == ("__debug__" : Str)) = false := by decide) :
    Ex1 prog w c X σ (.Assign [.Subscript (.Name x np) i sp] e pos) P := by
  intro s R
  refine wpAny_Assign_Subscript (ye.use R fun v s₁ k₁ R₁ r₁ => ?_) hs
  obtain ⟨m, n, q⟩ := R₁.ns
  obtain ⟨v₀, a₀, rfl, mX, z, vs, p, f⟩ := q x _ l
  refine wpAny_Name (load_var R.ok.kind n a₀ (yi.use R₁ fun iv s₂ k₂ R₂ r₂ => ?_)) hd
  cases r₂ with
  | int _ t =>
    rw [sizeLine_eq] at hz
    refine setItem_neg (p.keeps k₂.kp) h0 (by rw [List.size_toArray, f.length]; exact h1) (by omega) fun h' p' sb => ?_
    rw [List.size_toArray, f.length, show vs.toArray.setIfInBounds (k + ds.length).toNat v = (vs.set (k + ds.length).toNat v).toArray by simp] at p'
    have ff : RepAll s₂.heap X (vs.set (k + ds.length).toNat v) (ds.set (k + ds.length).toNat d) := RepAll.set (r₁.keep k₂.kp) (f.keep k₂.kp) _
    exact outN (R₂.grow l sb p' (ff.but (KpBut.same sb) (apart_own (c := c) (p.keeps k₂.kp).isList mX).off)) h

theorem RepAll.three {h : Heap} {vs : List Value} {a b d : D} (r : RepAll h X vs [a, b, d]) : ∃ u v w, vs = [u, v, w] ∧ Rep h X u a ∧ Rep h X v b ∧ Rep h X w d := by
  cases r with
  | cons x q => obtain ⟨v, w, rfl, y, z⟩ := q.two; exact ⟨_, _, _, rfl, x, y, z⟩
theorem ex_unpack3 {x y u : Str} {e : Expr} {n1 n2 n3 tp pos : Pos} {k : Nat} {d₁ d₂ d₃ : D} {P : Out → Prop} (z : Ev prog w c X σ e (.lst [d₁, d₂, d₃])) (h : P (.next X ((u, .val d₃) :: (y, .val d₂) :: (x, .val d₁) :: σ)))
    (hx : c.env.kindOf x = some .local := by rfl) (hy : c.env.kindOf y = some .local := by rfl) (hu : c.env.kindOf u = some .local := by rfl)
    (hs : swapsWithSole [.Tuple [.Name x n1, .Name y n2, .Name u n3] k tp] e pos.line c.env = pure false := by rfl)
    (hw : swappedStores [.Tuple [.Name x n1, .Name y n2, .Name u n3] k tp] e c.env = pure none := by rfl) :
    Ex1 prog w c X σ (.Assign [.Tuple [.Name x n1, .Name y n2, .Name u n3] k tp] e pos) P := by
  intro s R
  refine Assign_Tuple (z.use R fun v s₁ k₁ R₁ r => ?_) hs hw
  cases r with
  | lst a nX q =>
    obtain ⟨v₁, v₂, v₃, rfl, r₁, r₂, r₃⟩ := RepAll.three q
    rw [arm_assign_Tuple]
    refine wpAny_bind (wpAny_standAt ?_)
    unfold unpack
    refine wpAny_bind (wpAny_holding (unpackItems_list (items := #[v₁, v₂, v₃]) R.ok.hd a fun h' ext => ?_))
    have k₂ : Kp s₁.heap h' := kp_of_ext ext
    have R₂ : Rel c X σ { s₁ with heap := h' } := R₁.go (.heap k₂)
    obtain ⟨m, nm, qm⟩ := R₂.ns
    show wpAny _ _ (do holding [v₂, v₃] (assign (.Name x n1) c.env v₁); (do holding [v₃] (assign (.Name y n2) c.env v₂); (do holding [] (assign (.Name u n3) c.env v₃); pure ()))) _ _ _
    refine wpAny_bind (wpAny_holding (wpAny_assign_Name (wpAny_storeName_local hx nm (fun h₃ n₃ sb₃ => ?_) (by rw [R.ok.kind]; rfl))))
    have R₃ := R₂.store (tk := s₁.toks + 1) nm qm hx (sl := .val d₁) (Rep.keep k₂ r₁) (uniq_val R₂.uniq) n₃ sb₃
    obtain ⟨m₃, nm₃, qm₃⟩ := R₃.ns
    refine wpAny_bind (wpAny_holding (wpAny_assign_Name (wpAny_storeName_local hy nm₃ (fun h₄ n₄ sb₄ => ?_) (by rw [R.ok.kind]; rfl))))
    have rr : Rep h₃ X v₂ d₂ := Rep.but (KpBut.same sb₃) (Ns.off nm) (Rep.keep k₂ r₂)
    have R₄ := R₃.store (tk := s₁.toks + 1 + 1) nm₃ qm₃ hy (sl := .val d₂) rr (uniq_val R₃.uniq) n₄ sb₄
    obtain ⟨m₄, nm₄, qm₄⟩ := R₄.ns
    refine wpAny_bind (wpAny_holding (wpAny_assign_Name (wpAny_storeName_local hu nm₄ (fun h₅ n₅ sb₅ => ?_) (by rw [R.ok.kind]; rfl))))
    have r5 : Rep h₄ X v₃ d₃ := Rep.but (KpBut.same sb₄) (Ns.off nm₃) (Rep.but (KpBut.same sb₃) (Ns.off nm) (Rep.keep k₂ r₃))
    exact wpAny_pure (outN (R₄.store nm₄ qm₄ hu (sl := .val d₃) r5 (uniq_val R₄.uniq) n₅ sb₅) h)

/-- an item of a table of the text's own -/
theorem ev_tab {g : Str} {np pos : Pos} {i : Expr} {a : Addr} {o : Obj} {items : Array Value} {n : Nat} {j : Nat} {y : Str} {t : Tok} {l : List Nat} (hg : EvV prog w c X σ (.Name g np) (.ref a)) (hk : c.K.lookup a = some o) (hc : o.cls = .type "list") (hd : o.data = .seq items n)
    (yi : Ev prog w c X σ i (.int j)) (hj : j < 2 ^ 63) (hi : items[j]? = some (.str y t)) (hy : y = S l)
    (hs : ∀ o j, subscripted i false o j = operate [o, j] (getItem o j) := by intro _ _; rfl) : Ev prog w c X σ (.Subscript (.Name g np) i pos) (.str l) := by
  intro s R
  refine Subscript_ (hg.use R fun s₁ k₁ R₁ => yi.use R₁ fun v' s₂ k₂ R₂ r₂ => ?_)
  cases r₂ with
  | int _ u =>
    have hl : s₂.heap.IsList a items := ⟨o, R₂.bs.k a o hk, hc, n, hd⟩
    refine tail_any hl.typeIs slot_list_getitem.lookup (wpAny_getItem_list hl (by omega) (by omega) (by simpa using hi) ⟨k₁.tr k₂, ?_⟩) (hs _ _)
    rw [hy]; exact .str l t
end
end Mine
end
section
open PySem PySem.W PyProof.Rows
namespace Mine
section
variable {prog : Program} {w : World} {A : Around} {E : Value → Shared → Prop} {s : Shared}
theorem look_tab {a : Addr} {items : Array Value} {c : Nat} {y : Str} {t : Tok} {Q : Builtin.Str.Mapped → Shared → Prop} (hl : s.heap.IsList a items) (hc : c < 2 ^ 63) (hi : items[c]? = some (.str y t)) (h : ∀ k, Q (.text y) { s with toks := k }) :
    wpAny (model prog w) A (Builtin.Str.tableLookup (.ref a) c) Q E s := by
  unfold Builtin.Str.tableLookup
  refine wpAny_bind (wpAny_attempt (wpAny_bind (wpAny_mkInt ?_)))
  refine wpAny_getItem_list (s := { s with toks := s.toks + 1 }) (k := (c : Int)) (x := .str y t) hl (by omega) (by omega) (by simpa using hi) ?_
  exact wpAny_bind (wpAny_of_eq (a := Option.none) rfl (wpAny_bind (wpAny_of_eq (a := some y) rfl (wpAny_pure (h _)))))

theorem translate_at {a : Addr} {items : Array Value} {l : List Nat} {t : Tok} {tb : Nat → List Nat} {Q : Value → Shared → Prop} (hl : s.heap.IsList a items) (hi : ∀ c ∈ l, ∃ u, items[c]? = some (.str (S (tb c)) u)) (hlt : ∀ c ∈ l, c < 2 ^ 63) (hz : (l.flatMap tb).length ≤ sizeLine)
    (h : ∀ t' k, Q (.str (S (l.flatMap tb)) t') { s with toks := k }) : wpAny (model prog w) A (call (.builtin "str.translate") [.str (S l) t, .ref a]) Q E s := by
  refine wpAny_call_entry F.slot_str_translate (typeIs_str _ _ _) F.entry_str_translate ?_ (F.args_str_translate_2 _ _)
  unfold Builtin.«str.translate»
  refine wpAny_bind (wpAny_of_eq (a := (.str (S l) t, S l, .ref a)) rfl ?_)
  dsimp only
  by_cases hn : l = []
  · subst hn
    rw [if_pos (by rfl)]
    refine wpAny_bind (wpAny_rule (wpAny_bind (wpAny_of_eq (a := .str (S []) t) rfl (wpAny_pure ⟨_, rfl, ?_⟩))))
    have := h t s.toks
    simpa using this
  · rw [if_neg (by rw [S_len]; simpa using hn)]
    have hnl : ∀ n, n ≤ (l.flatMap tb).length → Builtin.Str.tooLong n = false := fun n h => by
      unfold Builtin.Str.tooLong; exact decide_eq_false (by omega)
    rw [← Array.forIn_toList]
    refine wpAny_bind (wpAny_forIn_list _ (fun rest (b : List Str × Nat × Bool × List (Nat × Option Nat) × Bool) s' => ∃ done, l = done ++ rest ∧ b.1.reverse.flatMap (fun p => p.cps.toList) = done.flatMap tb ∧ b.2.1 = (done.flatMap tb).length ∧ b.2.2.2.2 = false ∧
      (∀ c a, b.2.2.2.1.lookup c = some a → ∃ d, a = some d ∧ tb c = [d]) ∧ ∃ k, s' = { s with toks := k }) _ (fun c rest b s' hI => ?_) (fun b s' hI => ?_) _ _ ⟨[], by simp, by simp, by simp, rfl, fun c a e => by simp at e, s.toks, by cases s; rfl⟩)
    · obtain ⟨pieces, total, fast, known, after⟩ := b
      obtain ⟨done, hl1, hp, ht, ha, hk, k, rfl⟩ := hI
      dsimp only at hp ht ha hk ⊢
      subst ha
      have hc : c ∈ l := by rw [hl1]; simp
      obtain ⟨u, hu⟩ := hi c hc
      have hlen : (done.flatMap tb).length ≤ (l.flatMap tb).length := by rw [hl1]; simp
      rw [hnl total (by rw [ht]; exact hlen)]
      simp only [Bool.false_eq_true, if_false]
      have hl' : ∀ k, (({ s with toks := k } : Shared)).heap.IsList a items := fun _ => hl
      -- the way of the text itself
      have slow : ∀ (fs : Bool) (kn : List (Nat × Option Nat)) (k : Nat), (∀ c a, kn.lookup c = some a → ∃ d, a = some d ∧ tb c = [d]) → ∃ done', l = done' ++ rest ∧ (S (tb c) :: pieces).reverse.flatMap (fun p => p.cps.toList) = done'.flatMap tb ∧ total + (S (tb c)).length = (done'.flatMap tb).length ∧ false = false ∧
          (∀ c a, kn.lookup c = some a → ∃ d, a = some d ∧ tb c = [d]) ∧ ∃ k', ({ s with toks := k } : Shared) = { s with toks := k' } := fun fs kn k hk' =>
        ⟨done ++ [c], by rw [hl1]; simp, by rw [List.reverse_cons, List.flatMap_append, hp]; simp, by rw [ht, S_len]; simp, rfl, hk', k, rfl⟩
      have quick : ∀ (d : Nat) (kn : List (Nat × Option Nat)) (k : Nat), tb c = [d] → (∀ c a, kn.lookup c = some a → ∃ d, a = some d ∧ tb c = [d]) → ∃ done', l = done' ++ rest ∧ (({ cps := #[d] } : Str) :: pieces).reverse.flatMap (fun p => p.cps.toList) = done'.flatMap tb ∧ total + 1 = (done'.flatMap tb).length ∧ false = false ∧
          (∀ c a, kn.lookup c = some a → ∃ d, a = some d ∧ tb c = [d]) ∧ ∃ k', ({ s with toks := k } : Shared) = { s with toks := k' } := fun d kn k hd hk' =>
        ⟨done ++ [c], by rw [hl1]; simp, by rw [List.reverse_cons, List.flatMap_append, hp]; simp [hd], by rw [ht]; simp [hd], rfl, hk', k, rfl⟩
      cases fast with
      | false =>
        simp only [Bool.false_eq_true, if_false]
        exact wpAny_bind (look_tab (s := { s with toks := k }) hl (hlt c hc) hu fun k' => wpAny_pure (slow false known k' hk))
      | true =>
        simp only [if_true]
        cases hkn : known.lookup c with
        | some a₁ =>
          obtain ⟨d, rfl, hd⟩ := hk c a₁ hkn
          dsimp only
          exact wpAny_bind (wpAny_pure (wpAny_pure (quick d known k hd hk)))
        | none =>
          dsimp only
          refine wpAny_bind (look_tab (s := { s with toks := k }) hl (hlt c hc) hu fun k' => ?_)
          dsimp only
          by_cases h1 : ((S (tb c)).length == 1 && (S (tb c)).cps.all fun x => decide (x < 128)) = true
          · obtain ⟨d, hd⟩ : ∃ d, tb c = [d] := by
              have := (Bool.and_eq_true_iff.mp h1).1
              rw [S_len] at this
              have : (tb c).length = 1 := by simpa using this
              exact List.length_eq_one_iff.mp this
            rw [if_pos h1]
            have e0 : (S (tb c)).cps[0]? = some d := by rw [hd]; rfl
            rw [e0]
            dsimp only
            refine wpAny_bind (wpAny_pure (wpAny_pure (quick d ((c, some d) :: known) k' hd fun c' a' e => ?_)))
            rw [List.lookup_cons] at e
            by_cases hcc : (c' == c) = true
            · rw [hcc] at e; exact ⟨d, (Option.some.inj e).symm, by rw [beq_iff_eq.mp hcc]; exact hd⟩
            · rw [show (c' == c) = false by simpa using hcc] at e; exact hk c' a' e
          · rw [if_neg h1]
            dsimp only
            refine wpAny_bind (wpAny_pure (wpAny_bind (wpAny_rule ?_)))
            exact wpAny_bind (look_tab (s := { s with toks := k' }) hl (hlt c hc) hu fun k'' => wpAny_pure (slow false known k'' hk))
    · obtain ⟨pieces, total, fast, known, after⟩ := b
      obtain ⟨done, hl1, hp, ht, ha, hk, k, rfl⟩ := hI
      dsimp only at hp ht ha hk ⊢
      rw [List.append_nil] at hl1
      subst hl1
      rw [hnl total (by rw [ht]; exact Nat.le_refl _)]
      simp only [Bool.false_eq_true, if_false]
      have e : (pieces.reverse.foldl (fun acc (p : Str) => acc ++ p.cps) #[]) = (l.flatMap tb).toArray := by
        have gen : ∀ (ps : List Str) (acc : Array Nat), (ps.foldl (fun acc (p : Str) => acc ++ p.cps) acc).toList = acc.toList ++ ps.flatMap (fun p => p.cps.toList) := by
          intro ps
          induction ps with
          | nil => intro acc; simp
          | cons p r ih => intro acc; rw [List.foldl_cons, ih]; simp
        have := gen pieces.reverse #[]
        rw [hp] at this
        apply Array.ext'
        simpa using this
      rw [e]
      show wpAny _ _ (do ret (← mkStr (S (l.flatMap tb)))) _ _ _
      refine wpAny_bind (wpAny_mkStr (wpAny_pure ⟨_, rfl, h _ _⟩) (by rw [S_len]; exact hz))
end

section
variable {prog : Program} {w : World} {c : Cx} {X : List Addr} {σ : Store} {s : Shared}
theorem ev_translate {o : Expr} {g : Str} {np apos pos : Pos} {a : Addr} {ob : Obj} {items : Array Value} {n : Nat} {l : List Nat} {tb : Nat → List Nat} (x : Ev prog w c X σ o (.str l)) (hg : EvV prog w c X σ (.Name g np) (.ref a))
    (hk : c.K.lookup a = some ob) (hc : ob.cls = .type "list") (hd : ob.data = .seq items n)
    (hi : ∀ k ∈ l, ∃ u, items[k]? = some (.str (S (tb k)) u)) (hlt : ∀ k ∈ l, k < 2 ^ 63) (hz : (l.flatMap tb).length ≤ sizeLine)
    (hline : (apos.endLine == pos.line) = true := by rfl) (hbase : attributeBase o "translate" c.env (eval o c.env) = eval o c.env := by rfl) :
    Ev prog w c X σ (.Call (.Attribute o "translate" apos) [.Name g np] [] pos) (.str (l.flatMap tb)) := by
  intro s R
  refine Call_method1 hbase rfl hline (x.use R fun v s₁ k₁ R₁ r₁ => ?_)
  cases r₁
  refine ⟨"str", _, F.plainAttrs_str, F.slot_str_translate, F.type_str_translate, typeIs_str _ _ _, (fun _ e => nomatch e), Calls.callWith_builtin rfl (Calls.evalArgs_plain (Calls.spliced_cons (hg.use R₁ fun s₂ k₂ R₂ => Calls.spliced_nil ?_)))⟩
  have hl : s₂.heap.IsList a items := ⟨ob, R₂.bs.k a ob hk, hc, n, hd⟩
  exact translate_at hl hi hlt hz fun t' k => ⟨k₁.tr (k₂.tr .tok), .str _ _⟩
end
end Mine
end
section
open PySem PySem.W PyProof.Rows
namespace Mine
section
variable {prog : Program} {w : World} {c : Cx} {X : List Addr} {σ : Store} {s : Shared}

/-- the cells of the frame that hold nothing yet -/
def Bare (c : Cx) (x : Str) (s : Shared) : Prop := ∃ cc, c.env.cells.lookup x = some cc ∧ s.heap.IsCell cc none ∧ c.h₀.get? cc = none

theorem zip_rep2 {h : Heap} {x : Str} {sl : Sl} : ∀ {names : List Str} {vs : List Value} {ds : List D}, RepAll h X vs ds → (names.zip (ds.map Sl.val)).lookup x = some sl → ∃ (i : Nat) (v : Value) (d : D), names[i]? = some x ∧ vs[i]? = some v ∧ sl = .val d ∧ Rep h X v d
  | [], _, _, _, e => by simp at e
  | y :: names, _, _, .nil, e => by simp at e
  | y :: names, _, _, .cons (v := v) (d := d) a r, e => by
    simp only [List.map_cons, List.zip_cons_cons] at e
    rcases lookup_cons e with ⟨rfl, rfl⟩ | ⟨_, e'⟩
    · exact ⟨0, v, d, rfl, rfl, rfl, a⟩
    · obtain ⟨i, v, d', h1, h2, h3⟩ := zip_rep2 r e'
      exact ⟨i + 1, v, d', h1, h2, h3⟩

theorem fn_ofC {K : Frag} {a : Addr} {n : Nat} {o : Obj} {fd : FuncData} {body : List Stmt} {names : List Str} {ds : List D} {d : D}
    (ho : K.lookup a = some o) (hdat : o.data = .func fd) (hcd : codeIn K fd.code fd.qualname = true) (hbody : fd.body = .stmts body)
    (hbind : ∀ vs : List Value, vs.length = ds.length → bindArgs fd ⟨vs, []⟩ = pure (names.zip vs)) (hlen : names.length = ds.length) (hclo : fd.closure = [])
    (hkind : ∀ (L : Addr) (vs : List Value), vs.length = ds.length → ∀ x ∈ names.zip vs, fd.scope.names.lookup x.1 = some .local ∨ (fd.scope.names.lookup x.1 = some .cell ∧ ((cellsFrom (L + 1) fd.scope.names []).lookup x.1).isSome = true))
    (hval : ∀ (L : Addr) (vs : List Value), vs.length = ds.length → ∀ (i : Nat) (x : Str) (v : Value), names[i]? = some x → vs[i]? = some v →
      ((callEnvC fd L a).kindOf x = some .local ∧ bindL (callEnvC fd L a).kindOf (names.zip vs) (fun _ => none) x = some v) ∨
      ((callEnvC fd L a).kindOf x = some .cell ∧ (∃ cc, (callEnvC fd L a).cells.lookup x = some cc) ∧ bindC (callEnvC fd L a).kindOf (names.zip vs) (fun _ => none) x = some v))
    (hglob : fd.globals = mainGlobals) (hblt : fd.builtins = builtinsNs)
    (hco : fd.scope.isCoroutine = false) (hgen : fd.scope.isGenerator = false) (hk : fd.scope.kind = .function)
    (hex : ∀ (L : Addr) (h₀ : Heap) (X₀ : List Addr) (A : Around) (os : OsState) (s : Shared) (vs : List Value), vs.length = ds.length → Rel ⟨K, callEnvC fd L a, h₀, X₀, A, n, os⟩ X₀ (names.zip (ds.map Sl.val)) s →
      (∀ x cc, (callEnvC fd L a).cells.lookup x = some cc → bindC (callEnvC fd L a).kindOf (names.zip vs) (fun _ => none) x = none → Bare ⟨K, callEnvC fd L a, h₀, X₀, A, n, os⟩ x s) →
      wpAny (model prog w) A (execs body (callEnvC fd L a)) (fun fl s' => ∃ o, OutR ⟨K, callEnvC fd L a, h₀, X₀, A, n, os⟩ fl s' o ∧ o = .ret d) (fun _ _ => False) s) : Fn prog w K a (n + 1) ds d := by
  intro A X s vs bs hh hdep hun hg hX r
  obtain ⟨p, l, mg, mb, T⟩ := bs.t
  refine wpAny_call (codeAny_call_cells (by omega) (bs.k a o ho) hdat T.nolimit (codeRec_of bs.k hcd) hbody (hbind vs r.length) hclo (hkind _ vs r.length) (fun s₁ IC => ?_) hco hgen hk)
  obtain ⟨h₁, tk, rfl⟩ := IC.toInCall.same
  have kp : Kp s.heap h₁ := IC.toInCall.keep
  have hz : (callEnvC fd s.heap.objs.size a).locals = s.heap.objs.size := rfl
  have ok : Ok ⟨K, callEnvC fd s.heap.objs.size a, s.heap, X, A.deeper (callEnvC fd s.heap.objs.size a), n, s.os⟩ :=
    ⟨hk, hglob, hblt, bs, hh, (show A.depth + 1 + n < recursionLimit by omega), (show A.units + 3 + 3 * n + 80 < cLine by omega), hX⟩
  have R : Rel ⟨K, callEnvC fd s.heap.objs.size a, s.heap, X, A.deeper (callEnvC fd s.heap.objs.size a), n, s.os⟩ X (names.zip (ds.map Sl.val)) { s with heap := h₁, toks := tk } := by
    refine ⟨ok, hg, rfl, kp, none_size _, fun _ h => h, fun r hr => let ⟨vs, z⟩ := hX r hr; ⟨vs, kp.list z⟩, uniq_vals, _, IC.toInCall.ns, fun x sl e => ?_⟩
    obtain ⟨i, v, d', hi, hv, rfl, rr⟩ : ∃ (i : Nat) (v : Value) (d' : D), names[i]? = some x ∧ vs[i]? = some v ∧ sl = .val d' ∧ Rep s.heap X v d' := by
      exact zip_rep2 r e
    refine ⟨v, ?_, Rep.keep kp rr⟩
    rcases hval s.heap.objs.size vs r.length i x v hi hv with ⟨h1, h2⟩ | ⟨h1, ⟨cc, h2⟩, h3⟩
    · unfold Has; rw [h1]; exact h2
    · unfold Has; rw [h1]
      have := IC.cell x cc h2
      rw [h3] at this
      obtain ⟨o', ho', hd'⟩ := this
      exact ⟨cc, o', h2, ho', hd'⟩
  refine wpAny_mono (hex s.heap.objs.size s.heap X _ s.os _ vs r.length R fun x cc hx hnb => ?_) (fun fl s' y => ?_) fun _ _ f => f.elim
  · refine ⟨cc, hx, ?_, ?_⟩
    · have := IC.cell x cc hx
      rwa [hnb] at this
    · have := IC.above x cc (PySem.mem_of_lookup hx)
      cases q : s.heap.get? cc with
      | none => rfl
      | some o' => exact absurd (Heap.lt_size q) (Nat.not_lt.mpr (Nat.le_of_lt this))
  · obtain ⟨o', h1, rfl⟩ := y
    obtain ⟨v, rfl, r', dn⟩ := h1
    exact ⟨⟨dn.1.trans hg.symm, dn.2.1, dn.2.2⟩, r'⟩
end
end Mine
end
section
open PySem PySem.W PyProof.Rows PySem.Builtin.Str
namespace Mine

def consH (a : Nat) : List (List Nat) → List (List Nat)
  | [] => [[a]]
  | s :: r => (a :: s) :: r
def glueH (p : List Nat) : List (List Nat) → List (List Nat)
  | [] => [p]
  | s :: r => (p ++ s) :: r
/-- the parts of a text between the y's; k signs are still passed over -/
def sp (y : List Nat) : List Nat → Nat → List (List Nat)
  | [], _ => [[]]
  | _ :: t, k + 1 => sp y t k
  | a :: t, 0 => if y.isPrefixOf (a :: t) = true then [] :: sp y t (y.length - 1) else consH a (sp y t 0)
def oc (y : List Nat) : List Nat → Nat → Nat → List Nat
  | [], _, _ => []
  | _ :: t, k + 1, i => oc y t k (i + 1)
  | a :: t, 0, i => if y.isPrefixOf (a :: t) = true then i :: oc y t (y.length - 1) (i + 1) else oc y t 0 (i + 1)

theorem sub_at (l y : List Nat) (i : Nat) (hy : y ≠ []) : (i + y.length ≤ l.length ∧ subAt (S l) (S y) i = true) ↔ y.isPrefixOf (l.drop i) = true := by
  unfold subAt
  rw [S_len, List.isPrefixOf_iff_prefix, List.prefix_iff_eq_take, beq_iff_eq]
  constructor
  · rintro ⟨h, e⟩
    have := congrArg Array.toList e
    simpa [List.extract_eq_take_drop] using this.symm
  · intro e
    have hl := congrArg List.length e
    rw [List.length_take, List.length_drop] at hl
    have : 0 < y.length := List.length_pos_iff.mpr hy
    refine ⟨by omega, ?_⟩
    apply Array.ext'
    simpa [List.extract_eq_take_drop] using e.symm

def occF (l y xs : List Nat) (st : Array Nat × Nat) : List Nat := (forIn xs st (StrLaws.occBody (S l) (S y) l.length (l.length + 1))).run.fst.toList
theorem occF_cons {l y xs : List Nat} {i : Nat} {st st' : Array Nat × Nat} (h : StrLaws.occBody (S l) (S y) l.length (l.length + 1) i st = pure (ForInStep.yield st')) : occF l y (i :: xs) st = occF l y xs st' := by
  unfold occF
  rw [List.forIn_cons, h]; rfl
theorem occ_run (l y : List Nat) (hy : y ≠ []) : ∀ (rest pre : List Nat) (acc : Array Nat) (free : Nat), pre ++ rest = l → acc.size ≤ pre.length →
    occF l y (List.range' pre.length (rest.length + 1)) (acc, free) = acc.toList ++ oc y rest (free - pre.length) pre.length
  | [], pre, acc, free, e, ha => by
    have hp : 0 < y.length := List.length_pos_iff.mpr hy
    simp only [List.append_nil] at e
    subst e
    show occF pre y (List.range' pre.length 1) _ = _
    rw [List.range'_succ, occF_cons (st' := (acc, free)) (by unfold StrLaws.occBody; rw [if_neg (fun h => by have := h.1.2; rw [S_len] at this; omega)])]
    simp [oc, occF]
  | a :: t, pre, acc, free, e, ha => by
    have hi : (pre ++ [a]).length = pre.length + 1 := by simp
    have hd : l.drop pre.length = a :: t := by rw [← e]; simp
    have hlt : pre.length < l.length := by rw [← e]; simp
    rw [List.length_cons, List.range'_succ]
    have key := sub_at l y pre.length hy
    rw [hd] at key
    by_cases hf : free ≤ pre.length
    · rw [Nat.sub_eq_zero_of_le hf]
      by_cases hp : y.isPrefixOf (a :: t) = true
      · have h2 := key.mpr hp
        have c : StrLaws.occBody (S l) (S y) l.length (l.length + 1) pre.length (acc, free) = pure (ForInStep.yield (acc.push pre.length, pre.length + y.length)) := by
          unfold StrLaws.occBody
          rw [S_len, if_pos ⟨⟨⟨by show acc.size < _; omega, hf⟩, h2.1⟩, h2.2⟩]
        rw [occF_cons c]
        have := occ_run l y hy t (pre ++ [a]) (acc.push pre.length) (pre.length + y.length) (by rw [← e]; simp) (by rw [hi]; simp; omega)
        rw [hi] at this
        rw [this]
        have hq : 0 < y.length := List.length_pos_iff.mpr hy
        rw [oc, if_pos hp, show pre.length + y.length - (pre.length + 1) = y.length - 1 by omega]
        simp
      · have c : StrLaws.occBody (S l) (S y) l.length (l.length + 1) pre.length (acc, free) = pure (ForInStep.yield (acc, free)) := by
          unfold StrLaws.occBody
          rw [S_len, if_neg (fun h => hp (key.mp ⟨h.1.2, h.2⟩))]
        rw [occF_cons c]
        have := occ_run l y hy t (pre ++ [a]) acc free (by rw [← e]; simp) (by rw [hi]; omega)
        rw [hi] at this
        rw [this, oc, if_neg hp, Nat.sub_eq_zero_of_le (by omega)]
    · have c : StrLaws.occBody (S l) (S y) l.length (l.length + 1) pre.length (acc, free) = pure (ForInStep.yield (acc, free)) := by
        unfold StrLaws.occBody
        rw [if_neg (fun h => hf h.1.1.2)]
      rw [occF_cons c]
      have := occ_run l y hy t (pre ++ [a]) acc free (by rw [← e]; simp) (by rw [hi]; omega)
      rw [hi] at this
      rw [this, show free - pre.length = (free - (pre.length + 1)) + 1 by omega, oc]

theorem occ_oc (l y : List Nat) (hy : y ≠ []) : occurrences (S l) (S y) 0 (S l).length ((S l).length + 1) = oc y l 0 0 := by
  rw [StrLaws.occ_eq, S_len]
  have := occ_run l y hy l [] #[] 0 rfl (Nat.le_refl _)
  unfold occF at this
  simpa using this

def pb (l : List Nat) (wd : Nat) : Nat → List Nat → List (List Nat)
  | st, [] => [l.drop st]
  | st, c :: cs => ((l.take c).drop st) :: pb l wd (c + wd) cs

theorem pb_eq (l : List Nat) (wd : Nat) : ∀ (cs : List Nat) (st : Nat), (((st :: cs.map (· + wd)).zip (cs ++ [l.length])).map fun (p : Nat × Nat) => (strSub (S l) p.1 p.2).cps.toList) = pb l wd st cs
  | [], st => by simp [pb, strSub, List.extract_eq_take_drop, List.take_of_length_le]
  | c :: cs, st => by
    have := pb_eq l wd cs (c + wd)
    simp only [List.map_cons, List.cons_append, List.zip_cons_cons, pb]
    rw [← this]
    simp [strSub, List.extract_eq_take_drop, List.drop_take]
theorem sp_ne (y : List Nat) : ∀ (l : List Nat) (k : Nat), ∃ s r, sp y l k = s :: r
  | [], _ => ⟨_, _, rfl⟩
  | _ :: t, k + 1 => sp_ne y t k
  | a :: t, 0 => by
    rw [sp]
    split
    · exact ⟨_, _, rfl⟩
    · obtain ⟨s, r, e⟩ := sp_ne y t 0
      rw [e]; exact ⟨_, _, rfl⟩
theorem glue_nil (l : List (List Nat)) (h : l ≠ []) : glueH [] l = l := by
  cases l with
  | nil => exact absurd rfl h
  | cons s r => rfl
theorem glue_cons (p : List Nat) (a : Nat) (l : List (List Nat)) : glueH (p ++ [a]) l = glueH p (consH a l) := by
  cases l <;> simp [glueH, consH]

theorem pb_oc (l y : List Nat) (hy : y ≠ []) : ∀ (rest pre : List Nat) (k st : Nat), pre ++ rest = l → (k = 0 → st ≤ pre.length) → (k ≠ 0 → st = pre.length + k) → k ≤ rest.length →
    pb l y.length st (oc y rest k pre.length) = glueH ((l.take pre.length).drop st) (sp y rest k)
  | [], pre, k, st, e, h0, h1, hk => by
    simp only [List.append_nil] at e
    subst e
    simp [oc, pb, sp, glueH]
  | a :: t, pre, k + 1, st, e, h0, h1, hk => by
    have hi : (pre ++ [a]).length = pre.length + 1 := by simp
    have h1' := h1 (by omega)
    have := pb_oc l y hy t (pre ++ [a]) k st (by rw [← e]; simp) (fun z => by rw [hi]; omega) (fun z => by rw [hi]; omega) (by simpa using hk)
    rw [hi] at this
    rw [oc, sp, this]
    congr 1
    rw [List.drop_eq_nil_of_le (by rw [List.length_take]; omega), List.drop_eq_nil_of_le (by rw [List.length_take]; omega)]
  | a :: t, pre, 0, st, e, h0, h1, hk => by
    have hq : 0 < y.length := List.length_pos_iff.mpr hy
    have hi : (pre ++ [a]).length = pre.length + 1 := by simp
    have h0' := h0 rfl
    rw [oc, sp]
    split
    · rename_i hp
      have hpl : y.length ≤ t.length + 1 := by
        rw [List.isPrefixOf_iff_prefix] at hp
        simpa using hp.length_le
      have := pb_oc l y hy t (pre ++ [a]) (y.length - 1) (pre.length + y.length) (by rw [← e]; simp) (fun z => by rw [hi]; omega) (fun z => by rw [hi]; omega) (by omega)
      rw [hi] at this
      have hz : List.drop (pre.length + y.length) (List.take (pre.length + 1) l) = [] := List.drop_eq_nil_of_le (by rw [List.length_take]; omega)
      rw [hz, glue_nil _ (by obtain ⟨s, r, e⟩ := sp_ne y t (y.length - 1); rw [e]; simp)] at this
      rw [pb, this]
      simp [glueH]
    · have := pb_oc l y hy t (pre ++ [a]) 0 st (by rw [← e]; simp) (fun z => by rw [hi]; omega) (fun z => absurd rfl z) (Nat.zero_le _)
      rw [hi] at this
      rw [this, ← glue_cons]
      congr 1
      have : l.take (pre.length + 1) = l.take pre.length ++ [a] := by rw [← e]; simp [List.take_append, List.take_of_length_le]
      rw [this, List.drop_append_of_le_length (by rw [List.length_take, ← e]; simp; omega)]

theorem parts_sp (l y : List Nat) (hy : y ≠ []) : (partsBetween (S l) (occurrences (S l) (S y) 0 (S l).length ((S l).length + 1)) (S y).length).map (·.cps.toList) = sp y l 0 := by
  rw [occ_oc l y hy]
  unfold partsBetween
  rw [List.map_map, S_len, S_len]
  have h2 := pb_oc l y hy l [] 0 0 rfl (fun _ => Nat.le_refl _) (fun z => absurd rfl z) (Nat.zero_le _)
  obtain ⟨s, r, e⟩ := sp_ne y l 0
  rw [e] at h2 ⊢
  refine (pb_eq l y.length (oc y l 0 0) 0).trans (h2.trans ?_)
  simp [glueH]
end Mine
end
section
open PySem PySem.W PyProof.Rows PySem.Builtin.Str
namespace Mine

/-! ## splitlines -/
def isLB (a : Nat) : Bool := Unicode.isLineBreak a
def sk (a : Nat) (t : List Nat) : Nat := if a == 13 && t.head? == some 10 then 1 else 0
def sl : List Nat → Nat → List (List Nat)
  | [], _ => [[]]
  | _ :: t, k + 1 => sl t k
  | a :: t, 0 => if isLB a = true then [] :: sl t (sk a t) else consH a (sl t 0)
def dropE : List (List Nat) → List (List Nat)
  | [] => []
  | [s] => if s = [] then [] else [s]
  | s :: t :: r => s :: dropE (t :: r)
def lns (l : List Nat) : List (List Nat) := dropE (sl l 0)

abbrev LSt := Array (Nat × Nat × Nat) × Nat
def lnBody (s : Str) (i : Nat) (st : LSt) : Id (ForInStep LSt) :=
  if st.snd ≤ i ∧ Unicode.isLineBreak (s.cps.getD i 0) = true then
    pure (ForInStep.yield (st.fst.push (st.snd, i, if s.cps.getD i 0 == 13 && s.cps[i + 1]? == some 10 then i + 2 else i + 1), if s.cps.getD i 0 == 13 && s.cps[i + 1]? == some 10 then i + 2 else i + 1))
  else pure (ForInStep.yield (st.fst, st.snd))
def lnF (l : List Nat) (xs : List Nat) (st : LSt) : LSt := (forIn xs st (lnBody (S l))).run
theorem lnF_cons {l xs : List Nat} {i : Nat} {st st' : LSt} (h : lnBody (S l) i st = pure (ForInStep.yield st')) : lnF l (i :: xs) st = lnF l xs st' := by
  unfold lnF
  rw [List.forIn_cons, h]; rfl
def lnFin (l : List Nat) (st : LSt) : List (Nat × Nat × Nat) := (if st.snd < l.length then st.fst.push (st.snd, l.length, l.length) else st.fst).toList
theorem spans_eq (l : List Nat) : lineSpans (S l) = lnFin l (lnF l (List.range' 0 l.length) (#[], 0)) := by
  unfold lineSpans lnFin lnF lnBody
  simp [Str.length]
def seg (l : List Nat) (p : Nat × Nat × Nat) : List Nat := (l.take p.2.1).drop p.1

theorem dropE_cons (s : List Nat) (r : List (List Nat)) (h : r ≠ []) : dropE (s :: r) = s :: dropE r := by
  cases r with
  | nil => exact absurd rfl h
  | cons _ _ => rfl
theorem sl_ne : ∀ (l : List Nat) (k : Nat), sl l k ≠ []
  | [], _ => by simp [sl]
  | _ :: t, k + 1 => sl_ne t k
  | a :: t, 0 => by
    rw [sl]
    split
    · simp
    · have := sl_ne t 0
      cases h : sl t 0 with
      | nil => exact absurd h this
      | cons s r => simp [consH]

theorem ln_run (l : List Nat) : ∀ (rest pre : List Nat) (k : Nat) (acc : Array (Nat × Nat × Nat)) (st : Nat), pre ++ rest = l → (k = 0 → st ≤ pre.length) → (k ≠ 0 → st = pre.length + k) → k ≤ rest.length →
    (lnFin l (lnF l (List.range' pre.length rest.length) (acc, st))).map (seg l) = acc.toList.map (seg l) ++ dropE (glueH ((l.take pre.length).drop st) (sl rest k))
  | [], pre, k, acc, st, e, h0, h1, hk => by
    simp only [List.append_nil] at e
    subst e
    have hk0 : k = 0 := by simpa using hk
    have := h0 hk0
    simp only [List.length_nil, List.range'_zero, lnF, List.forIn_nil, sl, glueH, List.take_length, List.append_nil]
    show (lnFin pre (acc, st)).map (seg pre) = _
    unfold lnFin dropE
    by_cases hs : st < pre.length
    · simp [hs, seg]
    · have : st = pre.length := by omega
      simp [this]
  | a :: t, pre, k + 1, acc, st, e, h0, h1, hk => by
    have hi : (pre ++ [a]).length = pre.length + 1 := by simp
    have h1' := h1 (by omega)
    have := ln_run l t (pre ++ [a]) k acc st (by rw [← e]; simp) (fun z => by rw [hi]; omega) (fun z => by rw [hi]; omega) (by simpa using hk)
    rw [hi] at this
    rw [List.length_cons, List.range'_succ, lnF_cons (st' := (acc, st)) (by unfold lnBody; rw [if_neg (fun h => by have := h.1; simp only at this; omega)]), this, sl,
      List.drop_eq_nil_of_le (by rw [List.length_take]; omega), List.drop_eq_nil_of_le (by rw [List.length_take]; omega)]
  | a :: t, pre, 0, acc, st, e, h0, h1, hk => by
    have hi : (pre ++ [a]).length = pre.length + 1 := by simp
    have h0' := h0 rfl
    have ha : (S l).cps.getD pre.length 0 = a := by rw [← e]; simp
    have hn : ((S l).cps[pre.length + 1]? == some 10) = (t.head? == some 10) := by
      rw [← e]
      cases t <;> simp
    rw [List.length_cons, List.range'_succ]
    by_cases hb : isLB a = true
    · have c : lnBody (S l) pre.length (acc, st) = pure (ForInStep.yield (acc.push (st, pre.length, pre.length + 1 + sk a t), pre.length + 1 + sk a t)) := by
        unfold lnBody
        rw [ha, hn, if_pos ⟨h0', hb⟩]
        have : (if (a == 13 && t.head? == some 10) = true then pre.length + 2 else pre.length + 1) = pre.length + 1 + sk a t := by
          unfold sk; split <;> omega
        rw [this]
      have hsk : sk a t ≤ t.length := by
        unfold sk
        split
        · rename_i h
          cases t with
          | nil => simp at h
          | cons _ _ => simp
        · omega
      have := ln_run l t (pre ++ [a]) (sk a t) (acc.push (st, pre.length, pre.length + 1 + sk a t)) (pre.length + 1 + sk a t) (by rw [← e]; simp) (fun z => by rw [hi]; omega) (fun z => by rw [hi]) hsk
      rw [hi] at this
      have hz : List.drop (pre.length + 1 + sk a t) (List.take (pre.length + 1) l) = [] := List.drop_eq_nil_of_le (by rw [List.length_take]; omega)
      rw [lnF_cons c, this, sl, if_pos hb, hz, glue_nil _ (sl_ne _ _)]
      simp [seg, glueH, dropE_cons _ _ (sl_ne _ _)]
    · have c : lnBody (S l) pre.length (acc, st) = pure (ForInStep.yield (acc, st)) := by
        unfold lnBody
        rw [ha, if_neg (fun h => hb h.2)]
      have := ln_run l t (pre ++ [a]) 0 acc st (by rw [← e]; simp) (fun z => by rw [hi]; omega) (fun z => absurd rfl z) (Nat.zero_le _)
      rw [hi] at this
      rw [lnF_cons c, this, sl, if_neg hb, ← glue_cons]
      have hq : l.take (pre.length + 1) = l.take pre.length ++ [a] := by rw [← e]; simp [List.take_append, List.take_of_length_le]
      rw [hq, List.drop_append_of_le_length (by rw [List.length_take, ← e]; simp; omega)]

theorem lines_lns (l : List Nat) : (Txt.lines (S l)).map (·.cps.toList) = lns l := by
  have key : (linesOf (S l)).map (·.cps.toList) = lns l := by
    unfold linesOf lineCuts
    rw [spans_eq, List.map_map, List.map_map]
    have := ln_run l l [] 0 #[] 0 rfl (fun _ => Nat.le_refl _) (fun z => absurd rfl z) (Nat.zero_le _)
    simp only [List.length_nil, List.take_zero, List.drop_nil, List.nil_append, Array.toList_empty, List.map_nil] at this
    rw [glue_nil _ (sl_ne _ _)] at this
    rw [lns, ← this]
    refine List.map_congr_left fun p _ => ?_
    simp [seg, strSub, List.extract_eq_take_drop, List.drop_take]
  unfold Txt.lines
  split
  · rename_i h
    rw [← key]
    unfold linesOf
    rw [beq_iff_eq.mp h]
    simp [strSub, Str.length, List.extract_eq_take_drop]
  · exact key

/-! ## rstrip -/
def rsB (g : Nat → Bool) (l : List Nat) : List Nat := l.take (l.length - (l.reverse.takeWhile g).length)
theorem strip_list (g : Nat → Bool) (l : List Nat) : (Txt.stripBy g false true (S l)).cps.toList = rsB g l := by
  rw [W.stripBy_eq]
  simp [W.stripped, rsB, strSub, Str.length, List.extract_eq_take_drop]
theorem rstrip_list (l : List Nat) : (Txt.rstrip (S l)).cps.toList = rsB Unicode.isSpace l := strip_list _ l
theorem rstripChars_list (l y : List Nat) : (Txt.rstripChars (S l) (S y)).cps.toList = rsB (y.contains ·) l := by
  refine (strip_list _ l).trans ?_
  congr 1
  funext x
  simp

/-! ## join -/
def jn (sep : List Nat) : List (List Nat) → List Nat
  | [] => []
  | [a] => a
  | a :: b :: r => a ++ sep ++ jn sep (b :: r)
theorem glued_fold (sep : List Nat) : ∀ (ts : List (List Nat)) (acc : List Nat), ((ts.map S).foldl (fun acc p => acc ++ (S sep).cps ++ p.cps) acc.toArray).toList = acc ++ (ts.map (sep ++ ·)).flatten
  | [], acc => by simp
  | t :: r, acc => by
    have := glued_fold sep r (acc ++ sep ++ t)
    simp only [List.map_cons, List.foldl_cons, List.flatten_cons]
    rw [show acc.toArray ++ (S sep).cps ++ (S t).cps = (acc ++ sep ++ t).toArray by simp, this]
    simp
theorem jn_flat (sep : List Nat) : ∀ (a : List Nat) (ts : List (List Nat)), jn sep (a :: ts) = a ++ (ts.map (sep ++ ·)).flatten
  | a, [] => by simp [jn]
  | a, b :: r => by rw [jn, jn_flat sep b r]; simp
theorem join_list (sep : List Nat) (ts : List (List Nat)) : (Txt.join (S sep) (ts.map S)).cps.toList = jn sep ts := by
  unfold Txt.join glued
  cases ts with
  | nil => rfl
  | cons a r =>
    rw [jn_flat]
    have := glued_fold sep r a
    simpa using this

theorem split_list (l y : List Nat) (hy : y ≠ []) (hk : strKind (S y) ≤ strKind (S l) ∨ sp y l 0 = [l]) : (Txt.split (S l) (S y)).map (·.cps.toList) = sp y l 0 := by
  have hpos : 0 < y.length := List.length_pos_iff.mpr hy
  have one : occurrences (S l) (S y) 0 (S l).length ((S l).length + 1) = [] → sp y l 0 = [l] := fun h => by
    rw [← parts_sp l y hy, h]
    simp [partsBetween, strSub, Str.length, List.extract_eq_take_drop]
  unfold Txt.split
  split
  · rename_i h
    simp only [Bool.or_eq_true, decide_eq_true_eq] at h
    rcases h with h | h
    · rw [one]
      · rfl
      · rw [occ_oc l y hy]
        cases hq : oc y l 0 0 with
        | nil => rfl
        | cons i r =>
          exfalso
          have := (StrLaws.occ_spec (S l) (S y) 0 (S l).length ((S l).length + 1)) i (by rw [occ_oc l y hy, hq]; simp)
          omega
    · rcases hk with hk | hk
      · omega
      · rw [hk]; rfl
  · split
    · rename_i h
      rw [one (by simpa using h)]; rfl
    · exact parts_sp l y hy

theorem replace_list (l y z : List Nat) (hy : y ≠ []) : (Txt.replace (S l) (S y) (S z)).cps.toList = jn z (sp y l 0) := by
  have hpos : 0 < y.length := List.length_pos_iff.mpr hy
  unfold Txt.replace
  have hy0 : ((S y).length == 0) = false := by rw [S_len]; simp; omega
  rw [hy0, Bool.false_and, Bool.or_false]
  split
  · rename_i h
    rw [← parts_sp l y hy, List.isEmpty_iff.mp h]
    simp [partsBetween, strSub, Str.length, List.extract_eq_take_drop, jn]
  · rw [← join_list, ← parts_sp l y hy]
    unfold Txt.join
    congr 3
    rw [List.map_map]
    conv => lhs; rw [← List.map_id (partsBetween _ _ _)]
    refine List.map_congr_left fun p _ => ?_
    simp [S]

theorem ends_list (l y : List Nat) : Txt.endswith (S l) (S y) = decide (y <:+ l) := by
  unfold Txt.endswith
  rw [S_len, S_len, Nat.zero_add]
  by_cases h : y <:+ l
  · rw [decide_eq_true h]
    obtain ⟨p, rfl⟩ := h
    simp [subAt, List.extract_eq_take_drop, Str.length]
  · rw [decide_eq_false h]
    by_cases hl : y.length ≤ l.length
    · rw [decide_eq_true hl, Bool.true_and]
      cases hq : subAt (S l) (S y) (l.length - y.length) with
      | false => rfl
      | true =>
        exfalso
        apply h
        unfold subAt at hq
        have := congrArg Array.toList (beq_iff_eq.mp hq)
        rw [S_len] at this
        refine ⟨l.take (l.length - y.length), ?_⟩
        have hh : l.drop (l.length - y.length) = y := by
          have h3 : (List.drop (l.length - y.length) l).length = y.length := by rw [List.length_drop]; omega
          simpa [List.extract_eq_take_drop, List.take_of_length_le (Nat.le_of_eq h3)] using this
        conv => rhs; rw [← List.take_append_drop (l.length - y.length) l, hh]
    · rw [decide_eq_false hl]; rfl

theorem has_one (l : List Nat) (a : Nat) : Txt.contains (S l) (S [a]) = decide (a ∈ l) := by
  unfold Txt.contains
  have := StrLaws.found_one (S l) a
  simpa using this
end Mine
end
section
open PySem PySem.W PyProof.Rows PySem.Builtin.Str
namespace Mine
theorem kind_mono {y l : List Nat} (h : ∀ a ∈ y, a ∈ l) : Builtin.Str.strKind (S y) ≤ Builtin.Str.strKind (S l) := by
  unfold Builtin.Str.strKind
  have h1 : (S l).cps.all (· < 256) = true → (S y).cps.all (· < 256) = true := by
    simp only [List.all_toArray, List.all_eq_true, decide_eq_true_eq]
    exact fun z x hx => z x (h x hx)
  have h2 : (S l).cps.all (· < 65536) = true → (S y).cps.all (· < 65536) = true := by
    simp only [List.all_toArray, List.all_eq_true, decide_eq_true_eq]
    exact fun z x hx => z x (h x hx)
  generalize (S l).cps.all (· < 256) = a1 at *
  generalize (S l).cps.all (· < 65536) = a2 at *
  generalize (S y).cps.all (· < 256) = b1 at *
  generalize (S y).cps.all (· < 65536) = b2 at *
  cases a1 <;> cases a2 <;> cases b1 <;> cases b2 <;> simp_all
theorem split_all (l y : List Nat) (hy : y ≠ []) : (Txt.split (S l) (S y)).map (·.cps.toList) = sp y l 0 := by
  apply split_list l y hy
  by_cases h : occurrences (S l) (S y) 0 (S l).length ((S l).length + 1) = []
  · right
    rw [← parts_sp l y hy, h]
    simp [partsBetween, strSub, Str.length, List.extract_eq_take_drop]
  · left
    obtain ⟨i, hi⟩ := List.exists_mem_of_ne_nil _ h
    have := StrLaws.occ_spec _ _ _ _ _ i hi
    have h2 := (sub_at l y i hy).mp ⟨by simpa [S_len] using this.1, this.2⟩
    rw [List.isPrefixOf_iff_prefix] at h2
    exact kind_mono fun a ha => List.mem_of_mem_drop (h2.subset ha)

section
variable {prog : Program} {w : World} {c : Cx} {X : List Addr} {σ τ : Store} {s : Shared}

/-- every slot of τ stands in σ -/
def Inc (τ σ : Store) : Prop := ∀ x sl, τ.lookup x = some sl → σ.lookup x = some sl
theorem inc_rfl : Inc τ τ := fun _ _ h => h
theorem inc_nil : Inc [] σ := fun _ _ h => by cases h
theorem inc_cons {x : Str} {sl : Sl} (h : σ.lookup x = some sl) (r : Inc τ σ) : Inc ((x, sl) :: τ) σ := fun y sl' e => by
  rcases lookup_cons e with ⟨rfl, rfl⟩ | ⟨_, e⟩
  · exact h
  · exact r y sl' e
theorem inc_under {p : Str × Sl} (r : Inc τ σ) : Inc (p :: τ) (p :: σ) := fun y sl e => by
  obtain ⟨x, q⟩ := p
  rcases lookup_cons e with ⟨rfl, rfl⟩ | ⟨hne, e⟩
  · simp [List.lookup_cons]
  · rw [List.lookup_cons, show (y == x) = false by simpa using hne]; exact r y sl e

theorem ex_strs {x : Str} {np pos : Pos} {iter : Expr} {body : List Stmt} {P : Out → Prop} {ts : List (List Nat)} (hit : Ev prog w c X σ iter (.lst (ts.map .str))) (J : Nat → List Addr → Store → Prop)
    (h0 : J 0 X τ) (hi : Inc τ σ)
    (turn : ∀ i X τ t h, J i X τ → ts[i]? = some t → Ok (c.wh h) → Ex prog w (c.wh h) X ((x, .val (.str t)) :: τ) body (fun o => match o with
      | .next X' σ' => ∃ τ', J (i + 1) X' τ' ∧ Inc τ' σ'
      | .cont X' σ' => ∃ τ', J (i + 1) X' τ' ∧ Inc τ' σ'
      | .brk _ _ => False
      | .ret d => P (.ret d)))
    (done : ∀ X σ τ, J ts.length X τ → Inc τ σ → P (.next X σ)) (hx : c.env.kindOf x = some .local := by rfl) (hs : ∀ v, foldedSetIterable iter c.env v = pure v := by intros; rfl) : Ex1 prog w c X σ (.For (.Name x np) iter body [] pos) P := by
  refine ex_for_strs hit (fun i X σ => ∃ τ, J i X τ ∧ Inc τ σ) ⟨τ, h0, hi⟩ (fun i X σ t h hI ht ok => ?_) (fun X σ ⟨τ, a, b⟩ => done X σ τ a b) hx hs
  obtain ⟨τ, a, b⟩ := hI
  refine ex_mono (ex_sub (turn i X τ t h a ht ok) (inc_under b)) fun o ho => ?_
  cases o with
  | next X' σ' => exact ho
  | cont X' σ' => exact ho
  | brk X' σ' => exact ho.elim
  | ret d => exact ho
theorem ex_chars {x : Str} {np pos : Pos} {iter : Expr} {body : List Stmt} {P : Out → Prop} {l : List Nat} (hit : Ev prog w c X σ iter (.str l)) (J : Nat → List Addr → Store → Prop)
    (h0 : J 0 X τ) (hi : Inc τ σ)
    (turn : ∀ i X τ t h, J i X τ → l[i]? = some t → Ok (c.wh h) → Ex prog w (c.wh h) X ((x, .val (.str [t])) :: τ) body (fun o => match o with
      | .next X' σ' => ∃ τ', J (i + 1) X' τ' ∧ Inc τ' σ'
      | .cont X' σ' => ∃ τ', J (i + 1) X' τ' ∧ Inc τ' σ'
      | .brk _ _ => False
      | .ret d => P (.ret d)))
    (done : ∀ X σ τ, J l.length X τ → Inc τ σ → P (.next X σ)) (hx : c.env.kindOf x = some .local := by rfl) (hs : ∀ v, foldedSetIterable iter c.env v = pure v := by intros; rfl) : Ex1 prog w c X σ (.For (.Name x np) iter body [] pos) P := by
  refine ex_for_str hit (fun i X σ => ∃ τ, J i X τ ∧ Inc τ σ) ⟨τ, h0, hi⟩ (fun i X σ t h hI ht ok => ?_) (fun X σ ⟨τ, a, b⟩ => done X σ τ a b) hx hs
  obtain ⟨τ, a, b⟩ := hI
  refine ex_mono (ex_sub (turn i X τ t h a ht ok) (inc_under b)) fun o ho => ?_
  cases o with
  | next X' σ' => exact ho
  | cont X' σ' => exact ho
  | brk X' σ' => exact ho.elim
  | ret d => exact ho
theorem ex_loop {t : Expr} {b : List Stmt} {pos : Pos} {P : Out → Prop} (J : Nat → List Addr → Store → Prop) (n : Nat) (h : J n X τ) (hi : Inc τ σ)
    (turn : ∀ n X τ, J n X τ → ∃ v, EvB prog w c X τ t v ∧ (v = true → Ex prog w c X τ b (fun o => match o with
      | .next X' σ' => ∃ m τ', m < n ∧ J m X' τ' ∧ Inc τ' σ'
      | .cont X' σ' => ∃ m τ', m < n ∧ J m X' τ' ∧ Inc τ' σ'
      | .brk _ _ => False
      | .ret d => P (.ret d))) ∧ (v = false → ∀ σ, Inc τ σ → P (.next X σ))) : Ex1 prog w c X σ (.While t b [] pos) P := by
  refine ex_while (fun n X σ => ∃ τ, J n X τ ∧ Inc τ σ) (fun n X σ hI => ?_) n ⟨τ, h, hi⟩
  obtain ⟨τ, a, b⟩ := hI
  obtain ⟨v, e, h1, h2⟩ := turn n X τ a
  refine ⟨v, fun s R => e s (R.sub b), fun hv => ex_mono (ex_sub (h1 hv) b) fun o ho => ?_, fun hv => h2 hv σ b⟩
  cases o with
  | next X' σ' => obtain ⟨m, τ', p, q⟩ := ho; exact ⟨m, p, τ', q⟩
  | cont X' σ' => obtain ⟨m, τ', p, q⟩ := ho; exact ⟨m, p, τ', q⟩
  | brk X' σ' => exact ho.elim
  | ret d => exact ho
theorem ex_inc {body : List Stmt} {P : Out → Prop} (h : Inc τ σ) (e : Ex prog w c X τ body P) : Ex prog w c X σ body P := ex_sub e h
end
end Mine
end
section
open PySem PySem.W PyProof.Rows PySem.Builtin.Str
namespace Mine
abbrev vV (x : String) (d : D) : Str × Sl := (Str.ofString x, .val d)
abbrev vS (x : String) (l : List Nat) : Str × Sl := (Str.ofString x, .val (.str l))
abbrev vO (x : String) (r : Addr) (ds : List D) : Str × Sl := (Str.ofString x, .own r ds)
abbrev vI (x : String) (i : Int) : Str × Sl := (Str.ofString x, .val (.int i))
theorem ex1_mono {prog : Program} {w : World} {c : Cx} {X : List Addr} {σ : Store} {st : Stmt} {Q P : Out → Prop} (h : Ex1 prog w c X σ st Q) (k : ∀ o, Q o → P o) : Ex1 prog w c X σ st P := fun s R =>
  wpAny_mono (h s R) (fun _ _ ⟨o, a, b⟩ => ⟨o, a, k o b⟩) fun _ _ f => f
theorem toNat_ite (j n : Nat) : (if (j : Int) < 0 then (j : Int) + (n : Int) else (j : Int)).toNat = j := by split <;> omega
theorem drop_head {l r : List Nat} {j a : Nat} (h : l.drop j = a :: r) : l[j]? = some a ∧ j < l.length ∧ l.drop (j + 1) = r := by
  have h1 : j < l.length := by
    rcases Nat.lt_or_ge j l.length with h' | h'
    · exact h'
    · rw [List.drop_eq_nil_of_le h'] at h; cases h
  refine ⟨?_, h1, ?_⟩
  · have := congrArg List.head? h
    simpa using this
  · have := congrArg List.tail h
    simpa using this
/-- the signs of a row: octets with their widths, and what is held at its end -/
inductive TK : List Nat → List (Nat × Nat) → List Nat → Prop
  | nil : TK [] [] []
  | eq : TK [61] [] [61]
  | eqh {h : Nat} : h ∈ hexU → TK [61, h] [] [61, h]
  | lit {b : Nat} {s : List Nat} {ws : List (Nat × Nat)} {held : List Nat} : b ≠ 61 → TK s ws held → TK (b :: s) ((b, 1) :: ws) held
  | tok {a b : Nat} {s : List Nat} {ws : List (Nat × Nat)} {held : List Nat} : a ∈ hexU → b ∈ hexU → TK s ws held → TK (61 :: a :: b :: s) ((16 * hexV a + hexV b, 3) :: ws) held
def tail (held eol : List Nat) : List Nat := if held = [61] then [] else held ++ eol
def ct (eol t : List Nat) (ws : List (Nat × Nat)) (held : List Nat) : List Nat := if t = [] then eol else ws.map (·.1) ++ tail held eol
theorem hexU_ne : ∀ h ∈ hexU, h ≠ 61 := by decide
def decF (enc eol dec : List Nat) : List Nat :=
  if enc = [] then [] else if (!(decide (enc.getLastD 0 ∈ [13, 10])) && decide (eol <:+ dec)) = true then cut dec none (some (-(eol.length : Int))) else dec
theorem take_flat (cs : List (List Nat)) (i : Nat) (x : List Nat) (h : cs[i]? = some x) : (cs.take (i + 1)).flatten = (cs.take i).flatten ++ x := by
  rw [List.take_add_one, h]; simp
theorem take_flat_le (cs : List (List Nat)) (i : Nat) : (cs.take i).flatten.length ≤ cs.flatten.length := by
  conv => rhs; rw [← List.take_append_drop i cs, List.flatten_append, List.length_append]
  omega
theorem clip_pos (n a : Nat) (d : Nat) : clipI n (some (a : Int)) d = min a n := by
  unfold clipI
  simp only
  rw [if_neg (by omega)]
  omega
theorem clip_neg (n k : Nat) (d : Nat) (hk : 0 < k) : clipI n (some (-(k : Int))) d = n - k := by
  unfold clipI
  simp only
  rw [if_pos (by omega)]
  omega
theorem take_min {α : Type} (l : List α) (b : Nat) : l.take (min b l.length) = l.take b := by
  rcases Nat.le_total b l.length with h | h
  · rw [Nat.min_eq_left h]
  · rw [Nat.min_eq_right h, List.take_length, List.take_of_length_le h]
theorem drop_min {α : Type} (l : List α) (a n : Nat) (h : l.length ≤ n) : l.drop (min a n) = l.drop a := by
  rcases Nat.le_total a n with h' | h'
  · rw [Nat.min_eq_left h']
  · rw [Nat.min_eq_right h', List.drop_eq_nil_of_le h, List.drop_eq_nil_of_le (by omega)]
theorem cut_ab {α : Type} (l : List α) (a b : Nat) : cut l (some (a : Int)) (some (b : Int)) = (l.take b).drop a := by
  unfold cut
  rw [clip_pos, clip_pos, take_min, drop_min _ _ _ (by rw [List.length_take]; omega)]
theorem cut_a {α : Type} (l : List α) (a : Nat) : cut l (some (a : Int)) none = l.drop a := by
  unfold cut
  rw [clip_pos, show clipI l.length none l.length = l.length from rfl, List.take_length, drop_min _ _ _ (Nat.le_refl _)]
theorem cut_b {α : Type} (l : List α) (b : Nat) : cut l none (some (b : Int)) = l.take b := by
  unfold cut
  rw [clip_pos, show clipI l.length none 0 = 0 from rfl, take_min, List.drop_zero]
theorem cut_nk {α : Type} (l : List α) (k : Nat) (hk : 0 < k) : cut l none (some (-(k : Int))) = l.take (l.length - k) := by
  unfold cut
  rw [clip_neg _ _ _ hk, show clipI l.length none 0 = 0 from rfl, List.drop_zero]
theorem cut_ak {α : Type} (l : List α) (a k : Nat) (hk : 0 < k) : cut l (some (a : Int)) (some (-(k : Int))) = (l.take (l.length - k)).drop a := by
  unfold cut
  rw [clip_neg _ _ _ hk, clip_pos, drop_min _ _ _ (by rw [List.length_take]; omega)]
theorem cut_kn {α : Type} (l : List α) (k : Nat) (hk : 0 < k) : cut l (some (-(k : Int))) none = l.drop (l.length - k) := by
  unfold cut
  rw [clip_neg _ _ _ hk, show clipI l.length none l.length = l.length from rfl, List.take_length]
theorem cut_three {l s : List Nat} {j a b c : Nat} (h : l.drop j = a :: b :: c :: s) : cut l (some (j : Int)) (some ((j : Int) + 3)) = [a, b, c] := by
  have := cut_ab l j (j + 3)
  rw [show ((j + 3 : Nat) : Int) = (j : Int) + 3 by omega] at this
  rw [this, List.drop_take, h, show j + 3 - j = 3 by omega]; rfl
theorem cut_one {l s : List Nat} {j a : Nat} (h : l.drop j = a :: s) : cut l (some (j : Int)) (some ((j : Int) + 1)) = [a] := by
  have := cut_ab l j (j + 1)
  rw [show ((j + 1 : Nat) : Int) = (j : Int) + 1 by omega] at this
  rw [this, List.drop_take, h, show j + 1 - j = 1 by omega]; rfl
def hexd : List Nat := [48, 49, 50, 51, 52, 53, 54, 55, 56, 57, 97, 98, 99, 100, 101, 102, 65, 66, 67, 68, 69, 70]
theorem hexU_sub : ∀ a ∈ hexU, a ∈ hexd := by decide
theorem hexd_has {a : Nat} (h : a ∈ hexU) : Txt.contains (S hexd) (S [a]) = true := by rw [has_one]; exact decide_eq_true (hexU_sub a h)
end Mine
end
section
open PySem PySem.W PyProof.Rows PySem.Builtin.Str
namespace Mine
section
variable {prog : Program} {w : World} {c : Cx} {X : List Addr} {σ τ : Store} {s : Shared}
theorem ev_neg {e : Expr} {pos : Pos} {i : Int} (x : Ev prog w c X σ e (.int i)) : Ev prog w c X σ (.UnaryOp .USub e pos) (.int (-i)) := by
  intro s R
  refine wpAny_UnaryOp (x.use R fun v s' k R' r => ?_)
  cases r
  exact neg_int ⟨k.tr .tok, .int _ _⟩
theorem last_get {l : List Nat} (h : l ≠ []) : l[(if (-1 : Int) < 0 then -1 + (l.length : Int) else -1).toNat]? = some (l.getLastD 0) := by
  have hp : 0 < l.length := List.length_pos_iff.mpr h
  rw [if_pos (by decide), show (-1 + (l.length : Int)).toNat = l.length - 1 by omega, ← List.getLast?_eq_getElem?, List.getLastD_eq_getLast?, List.getLast?_eq_some_getLast h]
  rfl
end
end Mine
namespace Mine
theorem fn_of2 {prog : Program} {w : World} {K : Frag} {a : Addr} {n : Nat} {o : Obj} {fd : FuncData} {body : List Stmt} {names : List Str} {ds ds' : List D} {d : D} {extra : List Value} {P : Prop}
    (ho : K.lookup a = some o) (hdat : o.data = .func fd) (hcd : codeIn K fd.code fd.qualname = true) (hbody : fd.body = .stmts body)
    (hb1 : ∀ (s : Shared) (vs : List Value), Bs K s.heap → vs.length = (ds ++ ds').length → BindsTo s fd ⟨vs, []⟩ (names.zip vs))
    (hb2 : ∀ (s : Shared) (vs : List Value), Bs K s.heap → vs.length = ds.length → BindsTo s fd ⟨vs, []⟩ (names.zip (vs ++ extra)))
    (hextra : P → ∀ h X, RepAll h X extra ds') (hlen : names.length = ds.length + ds'.length) (hnd : names.Nodup)
    (hloc : (names.all fun x => decide (fd.scope.names.lookup x = some .local)) = true)
    (hcell : ∀ x ∈ fd.scope.names, x.2 ≠ .cell) (hglob : fd.globals = mainGlobals) (hblt : fd.builtins = builtinsNs)
    (hco : fd.scope.isCoroutine = false) (hgen : fd.scope.isGenerator = false) (hk : fd.scope.kind = .function)
    (hex : ∀ (L : Addr) (h₀ : Heap) (X₀ : List Addr) (A : Around) (os : OsState), Ok ⟨K, callEnv fd L a, h₀, X₀, A, n, os⟩ →
      Ex prog w ⟨K, callEnv fd L a, h₀, X₀, A, n, os⟩ X₀ (names.zip ((ds ++ ds').map Sl.val)) body (fun o => o = .ret d)) : Fn prog w K a (n + 1) (ds ++ ds') d ∧ (P → Fn prog w K a (n + 1) ds d) :=
  ⟨fn_of (extra := []) (ds' := []) ho hdat hcd hbody (fun s vs b l => by rw [List.append_nil]; exact hb1 s vs b l) (fun _ _ => .nil) (by rw [hlen, List.length_append]; rfl) hnd hloc hcell hglob hblt hco hgen hk (fun L h₀ X₀ A os ok => by rw [List.append_nil]; exact hex L h₀ X₀ A os ok),
   fun p => fn_of ho hdat hcd hbody hb2 (hextra p) hlen hnd hloc hcell hglob hblt hco hgen hk hex⟩
end Mine
end
section
open PySem PySem.W PyProof.Rows PySem.Builtin.Str
namespace Mine
def hx (n : Nat) : Nat := hexU.getD n 0
def safe (b : Nat) : Bool := b == 9 || (decide (32 ≤ b) && decide (b ≤ 126) && !(b == 61))
def tok (b : Nat) : List Nat := if safe b then [b] else [61, hx (b / 16), hx (b % 16)]
def tr (b : Nat) : List Nat := if b = 13 ∨ b = 10 then [b] else tok b
def qt (n : Nat) : List Nat := if n = 32 then [61, 50, 48] else [61, 48, 57]
/-- where a row of at most mx signs is cut -/
def cp (mx : Nat) (r : List Nat) : Nat := if r[mx - 3]? = some 61 then mx - 3 else if r[mx - 2]? = some 61 then mx - 2 else mx - 1
inductive WL (mx : Nat) : List Nat → List (List Nat) → List Nat → Prop
  | stop {r : List Nat} : r.length ≤ mx → WL mx r [] r
  | go {r r' : List Nat} {ps : List (List Nat)} : mx < r.length → WL mx (r.drop (cp mx r)) ps r' → WL mx r ((r.take (cp mx r) ++ [61]) :: ps) r'
def lastp (mx : Nat) (eol r : List Nat) : List Nat :=
  if r ≠ [] ∧ r.getLastD 0 ∈ [32, 9] then
    if r.length + 2 ≤ mx then r.dropLast ++ qt (r.getLastD 0)
    else if r.length + 1 = mx then r.dropLast ++ ([r.getLastD 0] ++ ([61] ++ eol))
    else r.dropLast ++ (([61] ++ eol) ++ qt (r.getLastD 0))
  else r
theorem cp_lt {mx : Nat} {r : List Nat} (h4 : 4 ≤ mx) : 0 < cp mx r ∧ cp mx r < mx := by unfold cp; split <;> (try split) <;> omega
theorem WL_suf {mx : Nat} (h4 : 4 ≤ mx) {r r' : List Nat} {ps : List (List Nat)} (h : WL mx r ps r') : (∃ p, r = p ++ r') ∧ (r ≠ [] → r' ≠ []) ∧ r'.length ≤ mx := by
  induction h with
  | stop h => exact ⟨⟨[], rfl⟩, id, h⟩
  | @go r r' ps hl _ ih =>
    obtain ⟨⟨p, hp⟩, h2, h3⟩ := ih
    have := cp_lt (r := r) h4
    refine ⟨⟨r.take (cp mx r) ++ p, ?_⟩, fun _ => h2 fun z => ?_, h3⟩
    · rw [List.append_assoc, ← hp, List.take_append_drop]
    · have := congrArg List.length z
      simp at this
      omega
theorem last_suf {p r : List Nat} (h : r ≠ []) : (p ++ r).getLastD 0 = r.getLastD 0 := by
  rw [List.getLastD_eq_getLast?, List.getLastD_eq_getLast?, List.getLast?_append, List.getLast?_eq_some_getLast h]
  rfl
theorem join_ok {sep : List Nat} {ts : List (List Nat)} (h : (ts.map List.length).sum + ts.length ≤ 1000000) (hs : sep.length ≤ 16) : JoinOk (S sep) (ts.map S) = true := by
  apply joinOk_of_weight
  · rw [List.map_map, List.length_map]
    have : (ts.map ((fun x => x.length) ∘ S)) = ts.map List.length := List.map_congr_left fun t _ => by simp [Str.length]
    rw [this]; omega
  · rw [S_len]; exact hs
theorem ex_thaw {prog : Program} {w : World} {c : Cx} {X : List Addr} {σ : Store} {x : Str} {r : Addr} {ds : List D} {body : List Stmt} {P : Out → Prop} (e : σ.lookup x = some (.own r ds))
    (h : Ex prog w c (X.filter (fun a => decide (a ≠ r))) ((x, .val (.lst ds)) :: σ) body P) : Ex prog w c X σ body P :=
  ex_freeze e (fun a => by simp) h

end Mine
end
section
open PySem PySem.W PyProof.Rows PySem.Builtin.Str
namespace Mine
section
variable {prog : Program} {w : World} {c : Cx} {X : List Addr} {σ : Store} {s : Shared}

theorem ex_if_ref {e1 cl : Expr} {p1 p2 pos : Pos} {b o : List Stmt} {P : Out → Prop} (x : EvB prog w c X σ e1 true)
    (hc : ∀ s, Rel c X σ s → wpAny (model prog w) c.A (eval cl c.env) (fun v s' => v = .bool true ∧ Rel c X σ s') (fun _ _ => False) s)
    (h : Ex prog w c X σ o P)
    (he : ∀ whole, isTrue cl c.env whole = (do let v ← whole; standAt cl.pos; holding [v] (truthy v)) := by intro _; rfl) :
    Ex1 prog w c X σ (.If (.BoolOp .And [e1, .UnaryOp .Not cl p1] p2) b o pos) P := by
  intro s R
  refine wpAny_If (isTrue_and (x.use R fun s₁ k₁ R₁ => ?_))
  refine isTrue_and (isTrue_not (isTrue_plain (wpAny_mono (hc s₁ R₁) (fun v s₂ y => ?_) fun _ _ f => f.elim) (he _)))
  obtain ⟨rfl, R₂⟩ := y
  refine wpAny_truthy_bool ?_
  exact h s₂ R₂

theorem ev_callR {f : Str} {np pos : Pos} {es : List Expr} {a : Addr} {o : Obj} {fd : FuncData} {ds : List D} (hf : EvV prog w c X σ (.Name f np) (.ref a)) (x : EvAll prog w c X σ pos es ds)
    (F : ∀ s vs, Rel c X σ s → RepAll s.heap X vs ds → wpAny (model prog w) c.A (call (.ref a) vs) (fun v s' => v = .bool true ∧ Rel c X σ s') (fun _ _ => False) s)
    (ho : c.K.lookup a = some o) (hd : o.data = .func fd) (he : ∃ e r, starEach es c.env = (false, e) :: r) (R : Rel c X σ s) :
    wpAny (model prog w) c.A (eval (.Call (.Name f np) es [] pos) c.env) (fun v s' => v = .bool true ∧ Rel c X σ s') (fun _ _ => False) s := by
  refine wpAny_Call_Name_kw (hf.use R fun s₁ k₁ R₁ => callWith_function_kw (o := o) (fd := fd) ?_)
  have y := x s₁ R₁
  obtain ⟨e, r, he⟩ := he
  rw [he] at y ⊢
  refine Calls.evalArgs_plain (wpAny_mono y (fun vs s₂ z => ?_) fun _ _ f => f.elim)
  have R₂ := R₁.go z.1
  exact ⟨⟨R₂.bs.k a o ho, hd⟩, F s₂ vs R₂ z.2⟩

theorem callN {f : Str} {np pos : Pos} {es : List Expr} {a : Addr} {o : Obj} {fd : FuncData} {ds : List D} {Q : Value → Shared → Prop} {E : Value → Shared → Prop} (R : Rel c X σ s) (hf : EvV prog w c X σ (.Name f np) (.ref a)) (x : EvAll prog w c X σ pos es ds)
    (ho : c.K.lookup a = some o) (hd : o.data = .func fd) (he : ∃ e r, starEach es c.env = (false, e) :: r)
    (h : ∀ vs s', Go s s' → Rel c X σ s' → RepAll s'.heap X vs ds → wpAny (model prog w) c.A (call (.ref a) vs) Q E s') :
    wpAny (model prog w) c.A (eval (.Call (.Name f np) es [] pos) c.env) Q E s := by
  refine wpAny_Call_Name_kw (hf.use R fun s₁ k₁ R₁ => callWith_function_kw (o := o) (fd := fd) ?_)
  have y := x s₁ R₁
  obtain ⟨e, r, he⟩ := he
  rw [he] at y ⊢
  refine Calls.evalArgs_plain (wpAny_mono y (fun vs s₂ z => ?_) fun _ _ f => f.elim)
  have R₂ := R₁.go z.1
  exact ⟨⟨R₂.bs.k a o ho, hd⟩, h vs s₂ (k₁.tr z.1) R₂ z.2⟩
/-- the locals' own slots may change -/
theorem Rel.slots {s' : Shared} (R : Rel c X σ s) (hg : s'.gens = #[]) (ho : s'.os = s.os) (k : KpBut c.env.locals s.heap s'.heap) (u : s.heap.UpToSlots s'.heap) : Rel c X σ s' := by
  obtain ⟨m, hn, hq⟩ := R.ns
  have a : Apart c X s.heap c.env.locals := apart_ns hn
  have hl : ∀ r, (∃ vs, s.heap.IsList r vs) → r ≠ c.env.locals := fun r ⟨vs, z⟩ e => by
    subst e
    obtain ⟨o, ho, _, n1, hd⟩ := z
    obtain ⟨o', es, ep, ho', hd', _⟩ := hn
    rw [ho] at ho'; cases ho'; rw [hd] at hd'; cases hd'
  have hown : ∀ (z : Sl) (v : Value), SlRep c.h₀ s.heap X v z → ∀ q ds, z = .own q ds → q ≠ c.env.locals := fun z v y q ds e => by
    subst e
    obtain ⟨_, _, _, vs, p, _⟩ := y
    exact hl q ⟨_, p.isList⟩
  refine ⟨R.ok, hg, ho.trans R.os, fun b o e => k b o (by rintro rfl; rw [R.newL] at e; cases e) (R.keep b o e), R.newL, R.subX,
    fun r hr => let ⟨vs, z⟩ := R.hasX r hr; ⟨vs, k.list z (hl r ⟨vs, z⟩)⟩, R.uniq, m, u.ns hn, fun y sl' e => ?_⟩
  obtain ⟨v, p, q⟩ := hq y sl' e
  exact ⟨v, p.but k a (fun _ => rfl), q.but k a (hown _ _ q)⟩

/-- entering a def: the store of its names -/
theorem enter_rel {K : Frag} {env : Env} {A : Around} {n : Nat} {h₁ : Heap} {tk : Nat} {names : List Str} {vs : List Value} {ds : List D}
    (ok : Ok ⟨K, env, s.heap, X, A, n, s.os⟩) (hg : s.gens = #[]) (hL : env.locals = s.heap.objs.size) (kp : Kp s.heap h₁) (hX : ∀ r ∈ X, ∃ vs, s.heap.IsList r vs) (rr : RepAll s.heap X vs ds)
    (hlen : names.length = ds.length) (hnd : names.Nodup) (hloc : (names.all fun x => decide (env.kindOf x = some .local)) = true)
    (n₁ : h₁.Ns env.locals (fun x => (names.zip vs).reverse.lookup x)) :
    Rel ⟨K, env, s.heap, X, A, n, s.os⟩ X (names.zip (ds.map Sl.val)) { s with heap := h₁, toks := tk } := by
  refine ⟨ok, hg, rfl, kp, (by show s.heap.get? env.locals = none; rw [hL]; exact none_size _), fun _ h => h, fun r hr => let ⟨vs, z⟩ := hX r hr; ⟨vs, kp.list z⟩, uniq_vals, _, n₁, fun x sl e => ?_⟩
  obtain ⟨v, dd, e1, rfl, r1⟩ := zip_rep rr e
  refine ⟨v, ?_, Rep.keep kp r1⟩
  have hm : x ∈ names := by
    have := mem_of_lookup e
    rwa [zip_keys (by rw [List.length_map]; exact hlen)] at this
  have hkx : env.kindOf x = some .local := of_decide_eq_true (List.all_eq_true.mp hloc _ hm)
  unfold Has
  show match env.kindOf x with | some .local => _ | some .cell => _ | _ => False
  rw [hkx]
  show (names.zip vs).reverse.lookup x = some v
  rw [lookup_rev (by rw [zip_keys (by rw [rr.length]; exact hlen)]; exact hnd)]; exact e1
theorem enter_do {K : Frag} {env : Env} {A : Around} {n : Nat} {h₁ : Heap} {tk : Nat} {names : List Str} {vs : List Value} {ds : List D} {body : List Stmt} {Q : Flow → Shared → Prop} {E : Value → Shared → Prop}
    (hg : s.gens = #[]) (hL : env.locals = s.heap.objs.size) (kp : Kp s.heap h₁) (hX : ∀ r ∈ X, ∃ vs, s.heap.IsList r vs) (rr : RepAll s.heap X vs ds)
    (hlen : names.length = ds.length) (hnd : names.Nodup) (hloc : (names.all fun x => decide (env.kindOf x = some .local)) = true)
    (n₁ : h₁.Ns env.locals (fun x => (names.zip vs).reverse.lookup x)) (ok : Ok ⟨K, env, s.heap, X, A, n, s.os⟩)
    (h : Rel ⟨K, env, s.heap, X, A, n, s.os⟩ X (names.zip (ds.map Sl.val)) { s with heap := h₁, toks := tk } → wpAny (model prog w) A (execs body env) Q E { s with heap := h₁, toks := tk }) :
    wpAny (model prog w) A (execs body env) Q E { s with heap := h₁, toks := tk } := h (enter_rel ok hg hL kp hX rr hlen hnd hloc n₁)
end
end Mine
end
section
open PySem PySem.W PyProof.Rows PySem.Builtin.Str
namespace Mine
section
variable {prog : Program} {w : World} {c : Cx} {X : List Addr} {σ : Store} {s : Shared}
def bndP (x y : Str) : D → Store := fun d => match d with | .tup [a, b] => [(y, .val b), (x, .val a)] | _ => []
theorem owned_iter {A : Around} {elts : List Expr} {k : Nat} {pos : Pos} {I l : Addr} {i : Nat} {v : Value} {Q : Unit → Shared → Prop} {E : Value → Shared → Prop} (h : s.heap.IsListIter I l i) (hQ : Q () s) :
    wpAny (model prog w) A (letOwnedTupleGo (.Tuple elts k pos) (.ref I) v) Q E s := by
  cases v with
  | ref T => exact wpAny_letOwnedTupleGo_listiter h hQ
  | _ => exact wpAny_pure hQ

theorem compP {α : Type} {x y : Str} {n1 n2 tp : Pos} {k : Nat} {elt iter : Expr} {scope : Scope} {cl : List (Str × Addr)} {fr : Store} (l : List α) (fa fb g : α → D)
    (hit : Ev prog w c X σ iter (.lst (l.map fun p => .tup [fa p, fb p]))) (hz : l.length ≤ sizeLine)
    (hfr : ∀ z sl, fr.lookup z = some sl → (z ≠ x ∧ z ≠ y) ∧ σ.lookup z = some sl ∧ c.env.kindOf z = some .cell ∧ (relabel scope c.env).names.lookup z = some .cell ∧ cl.lookup z = c.env.cells.lookup z ∧ ∃ d, sl = .val d)
    (helt : ∀ (C acc : Addr) (p : α), p ∈ l → Ev prog w (c.we (compEnvC scope cl C c.env)) (acc :: X) ((y, .val (fb p)) :: (x, .val (fa p)) :: fr) elt (g p))
    (hclos : closureFor scope c.env = pure cl := by rfl) (hcell : ∀ x ∈ scope.names, x.2 ≠ .cell := by decide) (hkind : scope.kind = .function := by rfl)
    (hnames : ∀ x ∈ scope.names, x.2 = .local → scope.names.lookup x.1 = some .local := by decide)
    (hx : ∀ C, (compEnvC scope cl C c.env).kindOf x = some .local := by intro _; rfl) (hy : ∀ C, (compEnvC scope cl C c.env).kindOf y = some .local := by intro _; rfl)
    (hs : ∀ x, foldedSetIterable iter c.env x = pure x := by intro _; rfl) :
    CompOk prog w c X σ elt (.Tuple [.Name x n1, .Name y n2] k tp) iter scope cl fr (bndP x y) (l.map fun p => .tup [fa p, fb p]) (l.map g) where
  hit := hit
  hz := by rw [List.length_map]; exact hz
  hlen := by rw [List.length_map, List.length_map]
  hclos := hclos
  hcell := hcell
  hkind := hkind
  hnames := hnames
  hfr := fun z sl h => (hfr z sl h).2
  htk := fun C acc d hd => by
    obtain ⟨p, _, rfl⟩ := List.mem_map.mp hd
    exact takes_pair (hx C) (hy C)
  hown := fun d hd z r qs h => by
    obtain ⟨p, _, rfl⟩ := List.mem_map.mp hd
    rcases lookup_cons (σ := (x, .val (fa p)) :: fr) h with ⟨_, e⟩ | ⟨_, h⟩
    · cases e
    · rcases lookup_cons (σ := fr) h with ⟨_, e⟩ | ⟨_, h⟩
      · cases e
      · obtain ⟨_, _, _, _, _, d, e⟩ := hfr z _ h
        cases e
  hsub := fun d hd z sl h => by
    obtain ⟨p, _, rfl⟩ := List.mem_map.mp hd
    obtain ⟨⟨n1, n2⟩, _⟩ := hfr z sl h
    show List.lookup z ((y, .val (fb p)) :: (x, .val (fa p)) :: fr) = some sl
    rw [List.lookup_cons, show (z == y) = false by simpa using n2, List.lookup_cons, show (z == x) = false by simpa using n1]
    exact h
  helt := fun C acc i d r h1 h2 => by
    rw [List.getElem?_map] at h1 h2
    cases hl : l[i]? with
    | none => rw [hl] at h1; cases h1
    | some p =>
      rw [hl] at h1 h2
      cases h1; cases h2
      exact helt C acc p (List.mem_of_getElem? hl)
  ht := fun I v s Q E l i h hQ => owned_iter h hQ
  hs := hs

theorem compN {α : Type} {x : Str} {n1 : Pos} {elt iter : Expr} {scope : Scope} {cl : List (Str × Addr)} {fr : Store} (l : List α) (fa g : α → D)
    (hit : Ev prog w c X σ iter (.lst (l.map fa))) (hz : l.length ≤ sizeLine)
    (hfr : ∀ z sl, fr.lookup z = some sl → z ≠ x ∧ σ.lookup z = some sl ∧ c.env.kindOf z = some .cell ∧ (relabel scope c.env).names.lookup z = some .cell ∧ cl.lookup z = c.env.cells.lookup z ∧ ∃ d, sl = .val d)
    (helt : ∀ (C acc : Addr) (p : α), p ∈ l → Ev prog w (c.we (compEnvC scope cl C c.env)) (acc :: X) ((x, .val (fa p)) :: fr) elt (g p))
    (hclos : closureFor scope c.env = pure cl := by rfl) (hcell : ∀ x ∈ scope.names, x.2 ≠ .cell := by decide) (hkind : scope.kind = .function := by rfl)
    (hnames : ∀ x ∈ scope.names, x.2 = .local → scope.names.lookup x.1 = some .local := by decide)
    (hx : ∀ C, (compEnvC scope cl C c.env).kindOf x = some .local := by intro _; rfl)
    (hs : ∀ x, foldedSetIterable iter c.env x = pure x := by intro _; rfl) :
    CompOk prog w c X σ elt (.Name x n1) iter scope cl fr (fun d => [(x, .val d)]) (l.map fa) (l.map g) where
  hit := hit
  hz := by rw [List.length_map]; exact hz
  hlen := by rw [List.length_map, List.length_map]
  hclos := hclos
  hcell := hcell
  hkind := hkind
  hnames := hnames
  hfr := fun z sl h => (hfr z sl h).2
  htk := fun C acc d hd => takes_name (hx C)
  hown := fun d hd z r qs h => by
    rcases lookup_cons (σ := fr) h with ⟨_, e⟩ | ⟨_, h⟩
    · cases e
    · obtain ⟨_, _, _, _, _, d, e⟩ := hfr z _ h
      cases e
  hsub := fun d hd z sl h => by
    have n1 := (hfr z sl h).1
    show List.lookup z ((x, .val d) :: fr) = some sl
    rw [List.lookup_cons, show (z == x) = false by simpa using n1]
    exact h
  helt := fun C acc i d r h1 h2 => by
    rw [List.getElem?_map] at h1 h2
    cases hl : l[i]? with
    | none => rw [hl] at h1; cases h1
    | some p =>
      rw [hl] at h1 h2
      cases h1; cases h2
      exact helt C acc p (List.mem_of_getElem? hl)
  ht := fun I v s Q E l i h hQ => wpAny_pure hQ
  hs := hs
end
def PL (ws : List (Nat × Nat)) : List D := (ws.map fun p => ((p.1 : Int), (p.2 : Int))).map prD
theorem PL_app (ws : List (Nat × Nat)) (p : Nat × Nat) : PL ws ++ [.tup [.int (p.1 : Int), .int (p.2 : Int)]] = PL (ws ++ [p]) := by simp [PL, prD]
theorem PL_len (ws : List (Nat × Nat)) : (PL ws).length = ws.length := by simp [PL]
theorem PL_map (ws : List (Nat × Nat)) : PL ws = ws.map fun p => .tup [.int (p.1 : Int), .int (p.2 : Int)] := by simp [PL, prD]
end Mine
end
section
open PySem PySem.W PyProof.Rows PySem.Builtin.Str
namespace Mine
/-- a row: its text, octets with widths, what is held -/
structure Rw where
  t : List Nat
  ws : List (Nat × Nat)
  held : List Nat
def Rw.text (r : Rw) : List Nat := r.ws.map (·.1)
def Rw.on (r : Rw) : Bool := decide (r.held = [61])
def Rw.D (r : Rw) : D := .tup [.str r.text, .bool r.on]
def Rw.ah (r : Rw) : List Nat := if r.held = [61] then r.t else []
def due1 (o : Nat) : Nat := if o = 9 ∨ (32 ≤ o ∧ o ≤ 126) ∧ o ≠ 61 then 1 else 3
def due (r : Rw) : List Nat :=
  if r.held = [] ∧ r.ws ≠ [] ∧ (r.text.getLastD 0 = 9 ∨ r.text.getLastD 0 = 32) then (r.ws.map fun p => due1 p.1).set (r.ws.length - 1) 3 else r.ws.map fun p => due1 p.1
structure RowOk (lim : Nat) (prev : Option Rw) (r : Rw) : Prop where
  tk : TK r.t r.ws r.held
  held : r.held = [] ∨ r.held = [61]
  wid : r.ws.map (·.2) = due r
  len : r.t.length ≤ lim
  oct : ∀ p ∈ r.ws, p.1 < 256
  void : ∀ q, prev = some q → q.held = [61] → r.ws = [] → r.t = [] ∧ lim ≤ q.t.length ∧ q.ws ≠ [] ∧ (q.text.getLastD 0 = 32 ∨ q.text.getLastD 0 = 9)
  full : ∀ q, prev = some q → q.held = [61] → ∀ p ws', r.ws = p :: ws' → lim < q.t.length + due1 p.1 ∧ (r.held = [] → lim < q.t.length - 1 + r.t.length)
def prevOf (rs : List Rw) : Nat → Option Rw
  | 0 => none
  | i + 1 => rs[i]?
def aheadOf (rs : List Rw) (i : Nat) : List Nat := match prevOf rs i with | none => [] | some q => q.ah
end Mine
end
section
open PySem PySem.W PyProof.Rows PySem.Builtin.Str
namespace Mine
section
variable {prog : Program} {w : World} {c : Cx} {X : List Addr} {σ : Store} {s : Shared}
def EvT (prog : Program) (w : World) (c : Cx) (X : List Addr) (σ : Store) (e : Expr) (d : D) : Prop :=
  ∀ s, Rel c X σ s → 1 ≤ s.toks → Gv prog w c.A X (eval e c.env) d s
theorem Ev.t {e : Expr} {d : D} (x : Ev prog w c X σ e d) : EvT prog w c X σ e d := fun s R _ => x s R
theorem ev_replaceT {o : Expr} {y z : Str} {k1 k2 : Nat} {p1 p2 apos pos : Pos} {l a b m : List Nat} (x : EvT prog w c X σ o (.str l)) (hy : y = S a) (hz : z = S b) (hab : a ≠ b) (hl : l.length ≤ 1000000) (hb : b.length ≤ 14)
    (hm : (Txt.replace (S l) (S a) (S b)).cps.toList = m)
    (hline : (apos.endLine == pos.line) = true := by rfl) (hbase : attributeBase o "replace" c.env (eval o c.env) = eval o c.env := by rfl) :
    EvT prog w c X σ (.Call (.Attribute o "replace" apos) [.Constant (.str y) k1 p1, .Constant (.str z) k2 p2] [] pos) (.str m) := by
  subst hy hz
  intro s R ht
  refine wpAny_Call_method_lateS hbase rfl hline (wpAny_mono (wpAny_toks_of ht (x s R ht)) (fun v s₁ q => ?_) (fun _ _ f => f.2.elim))
  obtain ⟨h1, k₁, r₁⟩ := q
  cases r₁
  refine ⟨"str", "str.replace", F.plainAttrs_str, F.slot_str_replace, F.type_str_replace, typeIs_str _ _ _, (fun _ e => nomatch e), Calls.callWith_builtin rfl ?_⟩
  refine Calls.evalArgs_plain ?_
  refine Calls.spliced_cons (wpAny_Constant_str (k := k1) (pos := p1) (Calls.spliced_cons (wpAny_Constant_str (k := k2) (pos := p2) ?_)))
  refine Calls.spliced_nil ?_
  have e1 : (s₁.toks : Nat) ≠ 0 := by omega
  have e2 : (s₁.toks + 1 : Nat) ≠ 0 := by omega
  have e3 : (s₁.toks : Nat) ≠ s₁.toks + 1 := by omega
  refine SC.replaceW e1 e2 e3 ?_ (by rw [S_len]; omega) (by rw [S_len]; omega) (fun t' k => ⟨k₁.tr .tok, .ofStr _ _ hm⟩)
  rw [beq_eq_false_iff_ne]
  intro e
  apply hab
  have := congrArg (fun x : Str => x.cps.toList) e
  simpa [S] using this
def ExT (prog : Program) (w : World) (c : Cx) (X : List Addr) (σ : Store) (body : List Stmt) (P : Out → Prop) : Prop :=
  ∀ s, Rel c X σ s → 1 ≤ s.toks → wpAny (model prog w) c.A (execs body c.env) (fun fl s' => ∃ o, OutR c fl s' o ∧ P o) (fun _ _ => False) s
def ThenT (prog : Program) (w : World) (c : Cx) (rest : List Stmt) (P : Out → Prop) : Out → Prop
  | .next X σ => ExT prog w c X σ rest P
  | o => P o
theorem ext_cons {st : Stmt} {rest : List Stmt} {P : Out → Prop} (h : Ex1 prog w c X σ st (ThenT prog w c rest P)) : ExT prog w c X σ (st :: rest) P := by
  intro s R ht
  refine wpAny_execs_cons (wpAny_mono (wpAny_toks_of ht (h s R)) (fun fl s' z => ?_) fun _ _ f => f.2.elim)
  obtain ⟨h1, o, z, y⟩ := z
  cases o with
  | next X' σ' => obtain ⟨rfl, R'⟩ := z; exact y s' R' h1
  | cont X' σ' => obtain ⟨rfl, R'⟩ := z; exact ⟨.cont X' σ', ⟨rfl, R'⟩, y⟩
  | brk X' σ' => obtain ⟨rfl, R'⟩ := z; exact ⟨.brk X' σ', ⟨rfl, R'⟩, y⟩
  | ret d => obtain ⟨v, rfl, r⟩ := z; exact ⟨.ret d, ⟨v, rfl, r⟩, y⟩
theorem ext_ex {body : List Stmt} {P : Out → Prop} (h : Ex prog w c X σ body P) : ExT prog w c X σ body P := fun s R _ => h s R
theorem ext_asg {x : Str} {e : Expr} {np pos : Pos} {d : D} {rest : List Stmt} {P : Out → Prop} (y : EvT prog w c X σ e d) (h : Ex prog w c X ((x, .val d) :: σ) rest P) (hx : c.env.kindOf x = some .local := by rfl)
    (hs : swapsWith e (some (.Name x np)) pos.line c.env = pure false := by rfl) : ExT prog w c X σ (.Assign [.Name x np] e pos :: rest) P := by
  intro s R ht
  refine wpAny_execs_cons (wpAny_Assign_Name ((y s R ht).use fun v s₁ k r => ?_) hs)
  have R₁ := R.go k
  obtain ⟨m, n, q⟩ := R₁.ns
  refine wpAny_storeName_local hx n (fun h' n' sb => ?_) ?_
  · exact h _ (R₁.store n q hx (sl := .val d) r (uniq_val R₁.uniq) n' sb)
  · rw [R.ok.kind]; rfl
end
end Mine
end
section
open PySem PySem.W PyProof.Rows
namespace Mine
abbrev PP : Program := PySem.Challenge.pw_ls0004_01
def stAt (i : Nat) : Stmt := (PP.main.body[i]?).getD (.Pass default)
def lc : Expr := match stAt 2 with | .Assign _ e _ => e | _ => .Constant .none 0 default
def lcScope : Scope := match lc with | .ListComp _ _ s _ => s | _ => PP.main.scope
def benv : Env := { scope := PP.main.scope, locals := mainNs, globals := mainNs, cells := [], code := .ref 13, frame := some 14 }
def cenv : Env := { scope := { lcScope with names := lcScope.names }, locals := 18, globals := mainNs, cells := [], qual := Str.empty, func := none, code := .ref 13, frame := some 14, builtins := 0 }
abbrev p0 : Pos := ⟨0, 0, 0, 0⟩
def bcode : Code := .body (behindTheImports PP) benv
abbrev B0 : List Frame := [topFrame p0]
abbrev an6 : Option Value := some (.ref 6)
def dob : Obj := { cls := .none, data := .dict #[] 0 }
def ob (s : SharedT) (j : Nat) : Obj := (s.tree.get j).getD dob
def gS (d : SharedT) (r : Option (SharedT × Thread)) : SharedT := match r with | some x => x.1 | none => d
def gK (r : Option (SharedT × Thread)) : Result → Sem Fin := match r with | some (_, ⟨_, _, _, .ret k _ _ _ _ _ _ :: _⟩) => k | _ => topAfter
def gR (d : SharedT) (r : Option (Flow × SharedT × Code × Pos)) : SharedT := match r with | some x => x.2.1 | none => d
/-! the list comprehension: i items are there -/
def lcode : Code := .compLoop lc 0 (.ref 16) (.ref 17) cenv
def lthr (k : Result → Sem Fin) : Thread := ⟨.pure (.again lcode), lcode, ⟨3, 15, 3, 26⟩, [.ret k none true [.ref 18, .ref 17] bcode ⟨3, 36, 3, 46⟩ [], topFrame p0]⟩
def hexs (n : Nat) : Str := ⟨#[61, (if n / 16 < 10 then 48 + n / 16 else 55 + n / 16), (if n % 16 < 10 then 48 + n % 16 else 55 + n % 16)]⟩
def mapItems : Nat → List Value → List Value
  | 0, acc => acc
  | i + 1, acc => mapItems i (.str (hexs i) (197 + 4 * i) :: acc)
def o16 (i : Nat) : Obj := { cls := .type "range_iterator", data := .fields #[.int i 0, .int (256 - i : Nat) 0, .int 1 0] }
def o17 (i : Nat) : Obj := { cls := .type "list", data := .seq ⟨mapItems i []⟩ i }
def ent (P : Params) (k : String) (t : Tok) (v : Value) : DictEntry := { hash := PyData.keyHash P (Str.ofString k), key := .str (Str.ofString k) t, val := v }
def o18 (P : Params) (i : Nat) : Obj := { cls := .type "dict", data := .dict #[ent P "c" 195 (.int ((i - 1 : Nat) : Int) (194 + 4 * (i - 1)))] 1 }
def tr15 (o : Nat → Obj) : BT := (.node (o 0) (.node (o 1) (.node (o 3) (.node (o 7) .nil .nil) (.node (o 11) .nil .nil)) (.node (o 5) (.node (o 9) .nil .nil) (.node (o 13) .nil .nil))) (.node (o 2) (.node (o 4) (.node (o 8) .nil .nil) (.node (o 12) .nil .nil)) (.node (o 6) (.node (o 10) .nil .nil) (.node (o 14) .nil .nil))))
def tr19 (o : Nat → Obj) (a b c : Obj) : BT := (.node (o 0) (.node (o 1) (.node (o 3) (.node (o 7) (.node (o 15) .nil .nil) .nil) (.node (o 11) .nil .nil)) (.node (o 5) (.node (o 9) (.node b .nil .nil) .nil) (.node (o 13) .nil .nil))) (.node (o 2) (.node (o 4) (.node (o 8) (.node a .nil .nil) .nil) (.node (o 12) .nil .nil)) (.node (o 6) (.node (o 10) (.node c .nil .nil) .nil) (.node (o 14) .nil .nil))))
def lst (w : World) (os : OsState) (o : Nat → Obj) (i : Nat) (life : Life) (d : Drawn) : SharedT := ⟨tr19 o (o16 i) (o17 i) (o18 w.params i), 19, life, #[], d, 194 + 4 * i, os⟩
/-! the for loops over bytes: j bytes are done -/
def fcode (n : Nat) (it : Addr) : Code := match stAt n with | .For t _ b e _ => .forLoop t (.ref it) b e benv | _ => bcode
def g3 (P : Params) (v : Nat → Value) (c : Value) : Obj := { cls := .type "dict", data := .dict #[ent P "__name__" 165 (v 0), ent P "__doc__" 166 (v 1), ent P "__package__" 167 (v 2), ent P "__loader__" 168 (v 3), ent P "__spec__" 169 (v 4), ent P "__annotations__" 170 (v 5), ent P "__builtins__" 171 (v 6), ent P "__file__" 173 (v 7), ent P "__cached__" 174 (v 8), ent P "CRLF" 188 (v 9), ent P "NL" 190 (v 10), ent P "_QUOPRI_MAP" 1218 (v 11), ent P "_QUOPRI_HEADER_MAP" 1219 (.ref 22), ent P "_QUOPRI_BODY_MAP" 1220 (.ref 24), ent P "ascii_lowercase" 1222 (v 14), ent P "ascii_uppercase" 1224 (v 15), ent P "ascii_letters" 1226 (v 16), ent P "digits" 1228 (v 17), ent P "hexdigits" 1233 (v 18), ent P "c" 1244 c] 20 }
def itB (l : List Nat) (t : Tok) (j : Nat) : Obj := { cls := .type "bytes_iterator", data := .fields #[.bytes ⟨l.map UInt8.ofNat⟩ t, .int j 0] }
def setB (b : Nat) : Nat → List Nat → List Value → List Value
  | 0, _, xs => xs
  | _ + 1, [], xs => xs
  | j + 1, c :: l, xs => setB (b + 3) j l (xs.set c (.str ⟨#[c]⟩ b))
def lsB (b j : Nat) (l : List Nat) : Obj := { cls := .type "list", data := .seq ⟨setB b j l (mapItems 256 [])⟩ 0 }
def by1 : List Nat := [45, 33, 42, 43, 47, 97, 98, 99, 100, 101, 102, 103, 104, 105, 106, 107, 108, 109, 110, 111, 112, 113, 114, 115, 116, 117, 118, 119, 120, 121, 122, 65, 66, 67, 68, 69, 70, 71, 72, 73, 74, 75, 76, 77, 78, 79, 80, 81, 82, 83, 84, 85, 86, 87, 88, 89, 90, 48, 49, 50, 51, 52, 53, 54, 55, 56, 57]
def by2 : List Nat := [32, 33, 34, 35, 36, 37, 38, 39, 40, 41, 42, 43, 44, 45, 46, 47, 48, 49, 50, 51, 52, 53, 54, 55, 56, 57, 58, 59, 60, 62, 63, 64, 65, 66, 67, 68, 69, 70, 71, 72, 73, 74, 75, 76, 77, 78, 79, 80, 81, 82, 83, 84, 85, 86, 87, 88, 89, 90, 91, 92, 93, 94, 95, 96, 97, 98, 99, 100, 101, 102, 103, 104, 105, 106, 107, 108, 109, 110, 111, 112, 113, 114, 115, 116, 117, 118, 119, 120, 121, 122, 123, 124, 125, 126, 9]
def tr26 (o : Nat → Obj) (a b c : Obj) : BT := (.node (o 0) (.node (o 1) (.node a (.node (o 7) (.node (o 15) .nil .nil) (.node (o 23) .nil .nil)) (.node (o 11) (.node (o 19) .nil .nil) .nil)) (.node (o 5) (.node (o 9) (.node (o 17) .nil .nil) (.node c .nil .nil)) (.node (o 13) (.node (o 21) .nil .nil) .nil))) (.node (o 2) (.node (o 4) (.node (o 8) (.node (o 16) .nil .nil) (.node (o 24) .nil .nil)) (.node (o 12) (.node (o 20) .nil .nil) .nil)) (.node (o 6) (.node (o 10) (.node (o 18) .nil .nil) .nil) (.node (o 14) (.node b .nil .nil) .nil))))
def tr29 (o : Nat → Obj) (a b c : Obj) : BT := (.node (o 0) (.node (o 1) (.node a (.node (o 7) (.node (o 15) .nil .nil) (.node (o 23) .nil .nil)) (.node (o 11) (.node (o 19) .nil .nil) (.node (o 27) .nil .nil))) (.node (o 5) (.node (o 9) (.node (o 17) .nil .nil) (.node (o 25) .nil .nil)) (.node (o 13) (.node (o 21) .nil .nil) .nil))) (.node (o 2) (.node (o 4) (.node (o 8) (.node (o 16) .nil .nil) (.node b .nil .nil)) (.node (o 12) (.node (o 20) .nil .nil) (.node c .nil .nil))) (.node (o 6) (.node (o 10) (.node (o 18) .nil .nil) (.node (o 26) .nil .nil)) (.node (o 14) (.node (o 22) .nil .nil) .nil))))
def thr1 (k : Result → Sem Fin) : Thread := ⟨.pure (.again (fcode 11 25)), fcode 11 25, ⟨13, 4, 13, 25⟩, [.ret k none false [] bcode ⟨12, 9, 12, 74⟩ [], topFrame p0]⟩
def thr2 (k : Result → Sem Fin) : Thread := ⟨.pure (.again (fcode 13 28)), fcode 13 28, ⟨16, 4, 16, 23⟩, [.ret k none false [] bcode ⟨15, 9, 15, 110⟩ [], topFrame p0]⟩
def l11 (w : World) (os : OsState) (o : Nat → Obj) (v : Nat → Value) (j : Nat) (life : Life) (d : Drawn) : SharedT :=
  ⟨tr26 o (g3 w.params v (.int (by1.getD (j - 1) 0) (1243 + 3 * (j - 1)))) (lsB 1245 j by1) (itB by1 1242 j), 26, life, #[], d, 1243 + 3 * j, os⟩
def l13 (w : World) (os : OsState) (o : Nat → Obj) (v : Nat → Value) (j : Nat) (life : Life) (d : Drawn) : SharedT :=
  ⟨tr29 o (g3 w.params v (.int (by2.getD (j - 1) 0) (1448 + 3 * (j - 1)))) (lsB 1450 j by2) (itB by2 1447 j), 29, life, #[], d, 1448 + 3 * j, os⟩
noncomputable def o0 (w : World) (o : Nat → Obj) (j : Nat) : Obj := match j with | 0 => boot_o_0 w.params | _ => o j
set_option maxRecDepth 100000
end Mine
end
section
open PySem PySem.W PyProof.Rows
namespace Mine
set_option maxRecDepth 100000
noncomputable def S0 (w : World) (os : OsState) : Shared := ⟨boot_heap w.params, Array.mk [], boot_drawn, boot_toks, os⟩
noncomputable def Sa (w : World) (os : OsState) : Shared := match topGo treeTable PP w 11 an6 12 (S0 w os) (topStub PP) with | some x => x.1 | none => S0 w os
noncomputable def ta (w : World) (os : OsState) : SharedT := ⟨tr15 (fun j => ((Sa w os).heap.objs[j]?).getD dob), 15, (Sa w os).heap.life, (Sa w os).gens, (Sa w os).drawn, (Sa w os).toks, os⟩
def sts2 : List Stmt := [stAt 0, stAt 1, stAt 2]
def sts3 : List Stmt := [stAt 3, stAt 4, stAt 5, stAt 6, stAt 7, stAt 8, stAt 9, stAt 10, stAt 11]
def sts4 : List Stmt := [stAt 12, stAt 13]
def sts5 : List Stmt := [stAt 14, stAt 15, stAt 16, stAt 17, stAt 18, stAt 19, stAt 20, stAt 21, stAt 22, stAt 23, stAt 24, stAt 25, stAt 26, stAt 27]
abbrev r1 : String := "special-get-raises"
abbrev r2 : String := "comprehension-iter-twice"
def W1 (w : World) : World := (w.withFollow r2 true).withFollow r1 true
def nA (w : World) : Nat := cond (w.params.followText r2) 96 106
noncomputable def rA (w : World) (os : OsState) := segGoT treeTable PP w 11 an6 1 (nA w) (ta w os) (piecesOf sts2 benv bcode p0 B0)
noncomputable def sA (w : World) (os : OsState) : SharedT := gS (ta w os) (rA (W1 w) os)
noncomputable def kA (w : World) (os : OsState) : Result → Sem Fin := gK (rA (W1 w) os)
noncomputable def zA (w : World) (os : OsState) (i : Nat) : SharedT := lst w os (ob (sA w os)) i (sA w os).life (sA w os).drawn
noncomputable def rB (w : World) (os : OsState) := segRunT treeTable PP w 11 an6 1 29 (zA w os 256) (lthr (kA w os))
noncomputable def yB (w : World) (os : OsState) : SharedT := gR (ta w os) (rB w os)
/-! what the later stretches read is written out; o bears the rest -/
def o13 : Obj := { cls := .type "code", data := .fields #[.str (Str.ofString "<module>") 182, .str (Str.ofString "<module>") 183, .str (Str.ofString "/claim/cut.py") 184, .int 1 0, .int 0 0, .int 0 0, .int 0 0, .int 0 0, .ref 11, .bool false, .int 181 0, .ref 12, .none, .none, .none, .none, .int 185 0, .int 1 0, .str (Str.ofString "/claim/cut.py") 186] }
noncomputable def bo (w : World) (o : Nat → Obj) (j : Nat) : Obj := match j with | 0 => boot_o_0 w.params | 1 => boot_o_1 w.params | 2 => boot_o_2 w.params | 4 => boot_o_4 w.params | 5 => boot_o_5 w.params | 6 => boot_o_6 w.params | 7 => boot_o_7 w.params | 8 => boot_o_8 w.params | 9 => boot_o_9 w.params | 10 => boot_o_10 w.params | 12 => { cls := .none, data := .fields #[] } | 13 => o13 | 17 => o17 256 | _ => o j
noncomputable def bo4 (w : World) (o : Nat → Obj) (j : Nat) : Obj := match j with | 24 => lsB 0 0 [] | _ => bo w o j
def gB (P : Params) : Obj := { cls := .type "dict", data := .dict #[ent P "__name__" 165 (.str (Str.ofString "__main__") 164), ent P "__doc__" 166 .none, ent P "__package__" 167 .none, ent P "__loader__" 168 (.builtin "__main__.__loader__#opaque"), ent P "__spec__" 169 .none, ent P "__annotations__" 170 (.ref 6), ent P "__builtins__" 171 (.ref 4), ent P "__file__" 173 (.str (Str.ofString "/claim/cut.py") 172), ent P "__cached__" 174 .none, ent P "CRLF" 188 (.str (Str.ofString "\x0d\n") 187), ent P "NL" 190 (.str (Str.ofString "\n") 189), ent P "_QUOPRI_MAP" 1218 (.ref 17)] 12 }
def vL (j : Nat) : Value := match j with | 0 => (.str (Str.ofString "cpy313.email.quoprimime") 1234) | 1 => .none | 2 => .none | 3 => (.builtin "__main__.__loader__#opaque") | 4 => .none | 5 => (.ref 6) | 6 => (.ref 4) | 7 => (.str (Str.ofString "/claim/cut.py") 172) | 8 => .none | 9 => (.str (Str.ofString "\x0d\n") 187) | 10 => (.str (Str.ofString "\n") 189) | 11 => (.ref 17) | 12 => (.ref 22) | 13 => (.ref 24) | 14 => (.str (Str.ofString "abcdefghijklmnopqrstuvwxyz") 1221) | 15 => (.str (Str.ofString "ABCDEFGHIJKLMNOPQRSTUVWXYZ") 1223) | 16 => (.str (Str.ofString "abcdefghijklmnopqrstuvwxyzABCDEFGHIJKLMNOPQRSTUVWXYZ") 1225) | 17 => (.str (Str.ofString "0123456789") 1227) | 18 => (.str (Str.ofString "0123456789abcdefABCDEF") 1232) | _ => .none
def tr21 (o : Nat → Obj) (a : Obj) : BT := (.node (o 0) (.node (o 1) (.node a (.node (o 7) (.node (o 15) .nil .nil) .nil) (.node (o 11) (.node (o 19) .nil .nil) .nil)) (.node (o 5) (.node (o 9) (.node (o 17) .nil .nil) .nil) (.node (o 13) .nil .nil))) (.node (o 2) (.node (o 4) (.node (o 8) (.node (o 16) .nil .nil) .nil) (.node (o 12) (.node (o 20) .nil .nil) .nil)) (.node (o 6) (.node (o 10) (.node (o 18) .nil .nil) .nil) (.node (o 14) .nil .nil))))
def tr28 (o : Nat → Obj) (a b : Obj) : BT := (.node (o 0) (.node (o 1) (.node a (.node (o 7) (.node (o 15) .nil .nil) (.node (o 23) .nil .nil)) (.node (o 11) (.node (o 19) .nil .nil) (.node (o 27) .nil .nil))) (.node (o 5) (.node (o 9) (.node (o 17) .nil .nil) (.node (o 25) .nil .nil)) (.node (o 13) (.node (o 21) .nil .nil) .nil))) (.node (o 2) (.node (o 4) (.node (o 8) (.node (o 16) .nil .nil) (.node (o 24) .nil .nil)) (.node (o 12) (.node (o 20) .nil .nil) .nil)) (.node (o 6) (.node (o 10) (.node (o 18) .nil .nil) (.node (o 26) .nil .nil)) (.node (o 14) (.node b .nil .nil) .nil))))
def tr31 (o : Nat → Obj) (a b : Obj) : BT := (.node (o 0) (.node (o 1) (.node a (.node (o 7) (.node (o 15) .nil .nil) (.node (o 23) .nil .nil)) (.node (o 11) (.node (o 19) .nil .nil) (.node (o 27) .nil .nil))) (.node (o 5) (.node (o 9) (.node (o 17) .nil .nil) (.node (o 25) .nil .nil)) (.node (o 13) (.node (o 21) .nil .nil) (.node (o 29) .nil .nil)))) (.node (o 2) (.node (o 4) (.node (o 8) (.node (o 16) .nil .nil) (.node b .nil .nil)) (.node (o 12) (.node (o 20) .nil .nil) (.node (o 28) .nil .nil))) (.node (o 6) (.node (o 10) (.node (o 18) .nil .nil) (.node (o 26) .nil .nil)) (.node (o 14) (.node (o 22) .nil .nil) (.node (o 30) .nil .nil)))))
noncomputable def xB (w : World) (os : OsState) (o : Nat → Obj) (life : Life) (d : Drawn) : SharedT := ⟨tr21 (bo w o) (gB w.params), 21, life, #[], d, 1219, os⟩
noncomputable def rC (w : World) (os : OsState) (o : Nat → Obj) (life : Life) (d : Drawn) := segGoT treeTable PP w 11 an6 1 220 (xB w os o life d) (piecesOf sts3 benv bcode ⟨3, 0, 3, 11⟩ B0)
noncomputable def sC (w : World) (os : OsState) (o : Nat → Obj) (life : Life) (d : Drawn) : SharedT := gS (ta w os) (rC (W1 w) os o life d)
noncomputable def kC (w : World) (os : OsState) (o : Nat → Obj) (life : Life) (d : Drawn) : Result → Sem Fin := gK (rC (W1 w) os o life d)
noncomputable def zC (w : World) (os : OsState) (o : Nat → Obj) (life : Life) (d : Drawn) (j : Nat) : SharedT := l11 w os (o0 w (bo4 w (ob (sC w os o life d)))) vL j life d
noncomputable def rD (w : World) (os : OsState) (o : Nat → Obj) (life : Life) (d : Drawn) := segRunT treeTable PP w 11 an6 1 19 (zC w os o life d 67) (thr1 (kC w os o life d))
noncomputable def yD (w : World) (os : OsState) (o : Nat → Obj) (life : Life) (d : Drawn) : SharedT := gR (ta w os) (rD w os o life d)
noncomputable def xD (w : World) (os : OsState) (o : Nat → Obj) (life : Life) (d : Drawn) : SharedT := ⟨tr28 (bo4 w o) (g3 w.params vL (.int (by1.getD 66 0) (1243 + 3 * 66))) (lsB 1245 67 by1), 28, life, #[], d, 1444, os⟩
noncomputable def rE (w : World) (os : OsState) (o : Nat → Obj) (life : Life) (d : Drawn) := segGoT treeTable PP w 11 an6 1 78 (xD w os o life d) (piecesOf sts4 benv bcode ⟨12, 9, 12, 74⟩ B0)
noncomputable def sE (w : World) (os : OsState) (o : Nat → Obj) (life : Life) (d : Drawn) : SharedT := gS (ta w os) (rE (W1 w) os o life d)
noncomputable def kE (w : World) (os : OsState) (o : Nat → Obj) (life : Life) (d : Drawn) : Result → Sem Fin := gK (rE (W1 w) os o life d)
noncomputable def zE (w : World) (os : OsState) (o : Nat → Obj) (life : Life) (d : Drawn) (j : Nat) : SharedT := l13 w os (o0 w (bo w (ob (sE w os o life d)))) vL j life d
noncomputable def rF (w : World) (os : OsState) (o : Nat → Obj) (life : Life) (d : Drawn) := segRunT treeTable PP w 11 an6 1 19 (zE w os o life d 95) (thr2 (kE w os o life d))
noncomputable def yF (w : World) (os : OsState) (o : Nat → Obj) (life : Life) (d : Drawn) : SharedT := gR (ta w os) (rF w os o life d)
noncomputable def xF (w : World) (os : OsState) (o : Nat → Obj) (life : Life) (d : Drawn) : SharedT := ⟨tr31 (bo w o) (g3 w.params vL (.int (by2.getD 94 0) (1448 + 3 * 94))) (lsB 1450 95 by2), 31, life, #[], d, 1733, os⟩
noncomputable def rG (w : World) (os : OsState) (o : Nat → Obj) (life : Life) (d : Drawn) := segRunT treeTable PP w 11 an6 1 471 (xF w os o life d) (piecesOf sts5 benv bcode ⟨15, 9, 15, 110⟩ B0)
def PAr (os : OsState) (w : World) : Prop := rA w os = some (zA w os 1, lthr (kA w os))
def PCr (os : OsState) (o : Nat → Obj) (life : Life) (d : Drawn) (w : World) : Prop := rC w os o life d = some (zC w os o life d 1, thr1 (kC w os o life d))
def PEr (os : OsState) (o : Nat → Obj) (life : Life) (d : Drawn) (w : World) : Prop := rE w os o life d = some (zE w os o life d 1, thr2 (kE w os o life d))
end Mine
end
section
open PySem PySem.W PyProof.Rows
namespace Mine
set_option maxRecDepth 100000
def fnArgs (i : Nat) : Arguments := match stAt i with | .FunctionDef _ a _ _ _ _ _ _ _ _ => a | _ => default
def fnBody (i : Nat) : List Stmt := match stAt i with | .FunctionDef _ _ b _ _ _ _ _ _ _ => b | _ => []
def fnScope (i : Nat) : Scope := match stAt i with | .FunctionDef _ _ _ _ _ _ s _ _ _ => s | _ => PP.main.scope
def tabE : List Value := ((setB 1450 95 by2 (mapItems 256 [])).set 13 (.str ⟨#[13]⟩ 1751)).set 10 (.str ⟨#[10]⟩ 1754)
def KF (P : Params) : Frag := [
(3, { cls := Value.type "dict", data := Data.dict #[ent P "__name__" 165 (Value.str (Str.ofString "law_ls0004_01") 1788), ent P "__doc__" 166 (Value.none), ent P "__package__" 167 (Value.none), ent P "__loader__" 168 (Value.builtin "__main__.__loader__#opaque"), ent P "__spec__" 169 (Value.none), ent P "__annotations__" 170 (Value.ref 6), ent P "__builtins__" 171 (Value.ref 4), ent P "__file__" 173 (Value.str (Str.ofString "/claim/cut.py") 172), ent P "__cached__" 174 (Value.none), ent P "CRLF" 188 (Value.str (Str.ofString "\x0d\n") 187), ent P "NL" 190 (Value.str (Str.ofString "\n") 189), ent P "_QUOPRI_MAP" 1218 (Value.ref 17), ent P "_QUOPRI_HEADER_MAP" 1219 (Value.ref 22), ent P "_QUOPRI_BODY_MAP" 1220 (Value.ref 24), ent P "ascii_lowercase" 1222 (Value.str (Str.ofString "abcdefghijklmnopqrstuvwxyz") 1221), ent P "ascii_uppercase" 1224 (Value.str (Str.ofString "ABCDEFGHIJKLMNOPQRSTUVWXYZ") 1223), ent P "ascii_letters" 1226 (Value.str (Str.ofString "abcdefghijklmnopqrstuvwxyzABCDEFGHIJKLMNOPQRSTUVWXYZ") 1225), ent P "digits" 1228 (Value.str (Str.ofString "0123456789") 1227), ent P "hexdigits" 1233 (Value.str (Str.ofString "0123456789abcdefABCDEF") 1232), ent P "unquote" 1739 (Value.ref 37), ent P "quote" 1746 (Value.ref 44), ent P "_QUOPRI_BODY_ENCODE_MAP" 1747 (Value.ref 46), ent P "body_encode" 1774 (Value.ref 57), ent P "decode" 1787 (Value.ref 65), ent P "_law_text" 1795 (Value.ref 70), ent P "_law_row" 1808 (Value.ref 77), ent P "_law_rows" 1814 (Value.ref 82), ent P "_law_told" 1820 (Value.ref 87), ent P "_law_refuses" 1829 (Value.ref 94), ent P "law" 1835 (Value.ref 99)] 32 }),
(17, o17 256),
(36, { cls := Value.type "code", data := Data.fields #[Value.str (Str.ofString "unquote") 1733, Value.str (Str.ofString "unquote") 1734, Value.str (Str.ofString "/claim/cut.py") 1735, Value.int 17 0, Value.int 1 0, Value.int 0 0, Value.int 0 0, Value.int 3 0, Value.ref 31, Value.bool true, Value.int 181 0, Value.ref 32, Value.none, Value.ref 33, Value.ref 34, Value.ref 35, Value.int 1737 0, Value.int 17 0, Value.str (Str.ofString "/claim/cut.py") 1738] }),
(37, { cls := Value.type "function", data := Data.func { name := Str.ofString "unquote", qualname := Str.ofString "unquote", params := (fnArgs 14), body := FuncBody.stmts (fnBody 14), scope := (fnScope 14), globals := 3, closure := [], defaults := Value.none, kwdefaults := Value.none, pyModule := Value.str (Str.ofString "cpy313.email.quoprimime") 1234, code := Value.ref 36 } }),
(43, { cls := Value.type "code", data := Data.fields #[Value.str (Str.ofString "quote") 1740, Value.str (Str.ofString "quote") 1741, Value.str (Str.ofString "/claim/cut.py") 1742, Value.int 19 0, Value.int 1 0, Value.int 0 0, Value.int 0 0, Value.int 3 0, Value.ref 38, Value.bool true, Value.int 181 0, Value.ref 39, Value.none, Value.ref 40, Value.ref 41, Value.ref 42, Value.int 1744 0, Value.int 19 0, Value.str (Str.ofString "/claim/cut.py") 1745] }),
(44, { cls := Value.type "function", data := Data.func { name := Str.ofString "quote", qualname := Str.ofString "quote", params := (fnArgs 15), body := FuncBody.stmts (fnBody 15), scope := (fnScope 15), globals := 3, closure := [], defaults := Value.none, kwdefaults := Value.none, pyModule := Value.str (Str.ofString "cpy313.email.quoprimime") 1234, code := Value.ref 43 } }),
(46, { cls := Value.type "list", data := Data.seq ⟨tabE⟩ 0 }),
(50, { cls := Value.type "tuple", data := Data.seq #[Value.int 76 1755, Value.str (Str.ofString "\n") 189] }),
(56, { cls := Value.type "code", data := Data.fields #[Value.str (Str.ofString "body_encode") 1756, Value.str (Str.ofString "body_encode") 1757, Value.str (Str.ofString "/claim/cut.py") 1758, Value.int 25 0, Value.int 3 0, Value.int 0 0, Value.int 0 0, Value.int 3 0, Value.ref 51, Value.bool true, Value.int 181 0, Value.ref 52, Value.none, Value.ref 53, Value.ref 54, Value.ref 55, Value.int 1772 0, Value.int 25 0, Value.str (Str.ofString "/claim/cut.py") 1773] }),
(57, { cls := Value.type "function", data := Data.func { name := Str.ofString "body_encode", qualname := Str.ofString "body_encode", params := (fnArgs 19), body := FuncBody.stmts (fnBody 19), scope := (fnScope 19), globals := 3, closure := [], defaults := Value.ref 50, kwdefaults := Value.none, pyModule := Value.str (Str.ofString "cpy313.email.quoprimime") 1234, code := Value.ref 56 } }),
(58, { cls := Value.type "tuple", data := Data.seq #[Value.str (Str.ofString "\n") 189] }),
(64, { cls := Value.type "code", data := Data.fields #[Value.str (Str.ofString "decode") 1775, Value.str (Str.ofString "decode") 1776, Value.str (Str.ofString "/claim/cut.py") 1777, Value.int 63 0, Value.int 2 0, Value.int 0 0, Value.int 0 0, Value.int 3 0, Value.ref 59, Value.bool true, Value.int 181 0, Value.ref 60, Value.none, Value.ref 61, Value.ref 62, Value.ref 63, Value.int 1785 0, Value.int 63 0, Value.str (Str.ofString "/claim/cut.py") 1786] }),
(65, { cls := Value.type "function", data := Data.func { name := Str.ofString "decode", qualname := Str.ofString "decode", params := (fnArgs 20), body := FuncBody.stmts (fnBody 20), scope := (fnScope 20), globals := 3, closure := [], defaults := Value.ref 58, kwdefaults := Value.none, pyModule := Value.str (Str.ofString "cpy313.email.quoprimime") 1234, code := Value.ref 64 } }),
(69, { cls := Value.type "code", data := Data.fields #[Value.str (Str.ofString "_law_text") 1790, Value.str (Str.ofString "_law_text") 1791, Value.str (Str.ofString "/claim/cut.py") 1792, Value.int 94 0, Value.int 1 0, Value.int 0 0, Value.int 0 0, Value.int 3 0, Value.ref 66, Value.bool true, Value.int 181 0, Value.ref 67, Value.none, Value.none, Value.none, Value.ref 68, Value.int 1793 0, Value.int 94 0, Value.str (Str.ofString "/claim/cut.py") 1794] }),
(70, { cls := Value.type "function", data := Data.func { name := Str.ofString "_law_text", qualname := Str.ofString "_law_text", params := (fnArgs 22), body := FuncBody.stmts (fnBody 22), scope := (fnScope 22), globals := 3, closure := [], defaults := Value.none, kwdefaults := Value.none, pyModule := Value.str (Str.ofString "law_ls0004_01") 1788, code := Value.ref 69 } }),
(76, { cls := Value.type "code", data := Data.fields #[Value.str (Str.ofString "_law_row") 1796, Value.str (Str.ofString "_law_row") 1797, Value.str (Str.ofString "/claim/cut.py") 1798, Value.int 98 0, Value.int 1 0, Value.int 0 0, Value.int 0 0, Value.int 3 0, Value.ref 71, Value.bool true, Value.int 181 0, Value.ref 72, Value.none, Value.ref 73, Value.ref 74, Value.ref 75, Value.int 1806 0, Value.int 98 0, Value.str (Str.ofString "/claim/cut.py") 1807] }),
(77, { cls := Value.type "function", data := Data.func { name := Str.ofString "_law_row", qualname := Str.ofString "_law_row", params := (fnArgs 23), body := FuncBody.stmts (fnBody 23), scope := (fnScope 23), globals := 3, closure := [], defaults := Value.none, kwdefaults := Value.none, pyModule := Value.str (Str.ofString "law_ls0004_01") 1788, code := Value.ref 76 } }),
(81, { cls := Value.type "code", data := Data.fields #[Value.str (Str.ofString "_law_rows") 1809, Value.str (Str.ofString "_law_rows") 1810, Value.str (Str.ofString "/claim/cut.py") 1811, Value.int 113 0, Value.int 2 0, Value.int 0 0, Value.int 0 0, Value.int 3 0, Value.ref 78, Value.bool true, Value.int 181 0, Value.ref 79, Value.none, Value.none, Value.none, Value.ref 80, Value.int 1812 0, Value.int 113 0, Value.str (Str.ofString "/claim/cut.py") 1813] }),
(82, { cls := Value.type "function", data := Data.func { name := Str.ofString "_law_rows", qualname := Str.ofString "_law_rows", params := (fnArgs 24), body := FuncBody.stmts (fnBody 24), scope := (fnScope 24), globals := 3, closure := [], defaults := Value.none, kwdefaults := Value.none, pyModule := Value.str (Str.ofString "law_ls0004_01") 1788, code := Value.ref 81 } }),
(86, { cls := Value.type "code", data := Data.fields #[Value.str (Str.ofString "_law_told") 1815, Value.str (Str.ofString "_law_told") 1816, Value.str (Str.ofString "/claim/cut.py") 1817, Value.int 132 0, Value.int 4 0, Value.int 0 0, Value.int 0 0, Value.int 3 0, Value.ref 83, Value.bool true, Value.int 181 0, Value.ref 84, Value.none, Value.none, Value.none, Value.ref 85, Value.int 1818 0, Value.int 132 0, Value.str (Str.ofString "/claim/cut.py") 1819] }),
(87, { cls := Value.type "function", data := Data.func { name := Str.ofString "_law_told", qualname := Str.ofString "_law_told", params := (fnArgs 25), body := FuncBody.stmts (fnBody 25), scope := (fnScope 25), globals := 3, closure := [], defaults := Value.none, kwdefaults := Value.none, pyModule := Value.str (Str.ofString "law_ls0004_01") 1788, code := Value.ref 86 } }),
(93, { cls := Value.type "code", data := Data.fields #[Value.str (Str.ofString "_law_refuses") 1821, Value.str (Str.ofString "_law_refuses") 1822, Value.str (Str.ofString "/claim/cut.py") 1823, Value.int 144 0, Value.int 3 0, Value.int 0 0, Value.int 0 0, Value.int 3 0, Value.ref 88, Value.bool true, Value.int 181 0, Value.ref 89, Value.none, Value.ref 90, Value.ref 91, Value.ref 92, Value.int 1827 0, Value.int 144 0, Value.str (Str.ofString "/claim/cut.py") 1828] }),
(94, { cls := Value.type "function", data := Data.func { name := Str.ofString "_law_refuses", qualname := Str.ofString "_law_refuses", params := (fnArgs 26), body := FuncBody.stmts (fnBody 26), scope := (fnScope 26), globals := 3, closure := [], defaults := Value.none, kwdefaults := Value.none, pyModule := Value.str (Str.ofString "law_ls0004_01") 1788, code := Value.ref 93 } }),
(98, { cls := Value.type "code", data := Data.fields #[Value.str (Str.ofString "law") 1830, Value.str (Str.ofString "law") 1831, Value.str (Str.ofString "/claim/cut.py") 1832, Value.int 150 0, Value.int 1 0, Value.int 0 0, Value.int 0 0, Value.int 3 0, Value.ref 95, Value.bool true, Value.int 181 0, Value.ref 96, Value.none, Value.none, Value.none, Value.ref 97, Value.int 1833 0, Value.int 150 0, Value.str (Str.ofString "/claim/cut.py") 1834] }),
(99, { cls := Value.type "function", data := Data.func { name := Str.ofString "law", qualname := Str.ofString "law", params := (fnArgs 27), body := FuncBody.stmts (fnBody 27), scope := (fnScope 27), globals := 3, closure := [], defaults := Value.none, kwdefaults := Value.none, pyModule := Value.str (Str.ofString "law_ls0004_01") 1788, code := Value.ref 98 } })]
def asF : List Addr := [3, 17, 36, 37, 43, 44, 46, 50, 56, 57, 58, 64, 65, 69, 70, 76, 77, 81, 82, 86, 87, 93, 94, 98, 99]
theorem asF_ok : ∀ P, asF = (KF P).map (·.1) := fun _ => by kernel_rfl
def keepL : List Nat := [0, 1, 2, 3, 4, 5, 6, 7, 8, 9, 14, 15, 16, 22, 23, 24, 25, 26, 27]
def qv : Program := view PP keepL
def looseL : List Str := [Str.ofString "_QUOPRI_MAP", Str.ofString "_QUOPRI_HEADER_MAP", Str.ofString "_QUOPRI_BODY_MAP", Str.ofString "ascii_letters", Str.ofString "hexdigits", Str.ofString "_QUOPRI_BODY_ENCODE_MAP", Str.ofString "body_encode", Str.ofString "decode"]
def lvL : List (Str × WData) := [(Str.ofString "ascii_letters", WData.str ⟨#[97, 98, 99, 100, 101, 102, 103, 104, 105, 106, 107, 108, 109, 110, 111, 112, 113, 114, 115, 116, 117, 118, 119, 120, 121, 122, 65, 66, 67, 68, 69, 70, 71, 72, 73, 74, 75, 76, 77, 78, 79, 80, 81, 82, 83, 84, 85, 86, 87, 88, 89, 90]⟩), (Str.ofString "hexdigits", WData.str ⟨#[48, 49, 50, 51, 52, 53, 54, 55, 56, 57, 97, 98, 99, 100, 101, 102, 65, 66, 67, 68, 69, 70]⟩)]
abbrev XtL : Shared → Bool := fun s => xlAt qv lvL s && recOk (RowW.records (OpenRow.toRowW PySem.Challenge.rw_ls0004_01.row)) s
abbrev HkF : Hook := kHook KF asF asF_ok
end Mine
end
section
open PySem PySem.W PyProof.Rows
namespace Mine
set_option maxRecDepth 100000
theorem lp2_0 (w : World) (os : OsState) (o : Nat → Obj) (life : Life) (d : Drawn) (k : Result → Sem Fin) :
  segGoT treeTable PP w 11 an6 1 (37 * 51) (lst w os o 1 life d) (lthr k) = some (lst w os o 52 life d, lthr k) := by kernel_rfl
theorem lp2_1 (w : World) (os : OsState) (o : Nat → Obj) (life : Life) (d : Drawn) (k : Result → Sem Fin) :
  segGoT treeTable PP w 11 an6 1 (37 * 51) (lst w os o 52 life d) (lthr k) = some (lst w os o 103 life d, lthr k) := by kernel_rfl
theorem lp2_2 (w : World) (os : OsState) (o : Nat → Obj) (life : Life) (d : Drawn) (k : Result → Sem Fin) :
  segGoT treeTable PP w 11 an6 1 (37 * 51) (lst w os o 103 life d) (lthr k) = some (lst w os o 154 life d, lthr k) := by kernel_rfl
theorem lp2_3 (w : World) (os : OsState) (o : Nat → Obj) (life : Life) (d : Drawn) (k : Result → Sem Fin) :
  segGoT treeTable PP w 11 an6 1 (37 * 51) (lst w os o 154 life d) (lthr k) = some (lst w os o 205 life d, lthr k) := by kernel_rfl
theorem lp2_4 (w : World) (os : OsState) (o : Nat → Obj) (life : Life) (d : Drawn) (k : Result → Sem Fin) :
  segGoT treeTable PP w 11 an6 1 (37 * 51) (lst w os o 205 life d) (lthr k) = some (lst w os o 256 life d, lthr k) := by kernel_rfl
end Mine
end
section
open PySem PySem.W PyProof.Rows
namespace Mine
set_option maxRecDepth 100000
theorem lp11_0 (w : World) (os : OsState) (o : Nat → Obj) (v : Nat → Value) (life : Life) (d : Drawn) (k : Result → Sem Fin) :
  segGoT treeTable PP w 11 an6 1 (45 * 33) (l11 w os (o0 w o) v 1 life d) (thr1 k) = some (l11 w os (o0 w o) v 34 life d, thr1 k) := by kernel_rfl
theorem lp11_1 (w : World) (os : OsState) (o : Nat → Obj) (v : Nat → Value) (life : Life) (d : Drawn) (k : Result → Sem Fin) :
  segGoT treeTable PP w 11 an6 1 (45 * 33) (l11 w os (o0 w o) v 34 life d) (thr1 k) = some (l11 w os (o0 w o) v 67 life d, thr1 k) := by kernel_rfl
theorem lp13_0 (w : World) (os : OsState) (o : Nat → Obj) (v : Nat → Value) (life : Life) (d : Drawn) (k : Result → Sem Fin) :
  segGoT treeTable PP w 11 an6 1 (45 * 47) (l13 w os (o0 w o) v 1 life d) (thr2 k) = some (l13 w os (o0 w o) v 48 life d, thr2 k) := by kernel_rfl
theorem lp13_1 (w : World) (os : OsState) (o : Nat → Obj) (v : Nat → Value) (life : Life) (d : Drawn) (k : Result → Sem Fin) :
  segGoT treeTable PP w 11 an6 1 (45 * 47) (l13 w os (o0 w o) v 48 life d) (thr2 k) = some (l13 w os (o0 w o) v 95 life d, thr2 k) := by kernel_rfl
end Mine
end
section
open PySem PySem.W PyProof.Rows
namespace Mine
set_option maxRecDepth 100000
theorem pre0 (w : World) (os : OsState) : topGo treeTable PP w 11 an6 12 (S0 w os) (topStub PP) = some ((ta w os).abs, ⟨denote treeTable bcode, bcode, p0, B0⟩) := by kernel_rfl
theorem blk0 (w : World) (os : OsState) : segRun treeTable PP w 11 an6 1 1 (ta w os).abs (blockOf (behindTheImports PP) benv bcode p0 B0) = some (.next, (ta w os).abs, bcode, p0) := by kernel_rfl
theorem pA_tt (w : World) (os : OsState) : PAr os ((w.withFollow r2 true).withFollow r1 true) := by unfold PAr; kernel_rfl
theorem pA_ff (w : World) (os : OsState) : PAr os ((w.withFollow r2 false).withFollow r1 false) := by unfold PAr; kernel_rfl
theorem pA_tf (w : World) (os : OsState) : PAr os ((w.withFollow r2 true).withFollow r1 false) := by unfold PAr; kernel_rfl
theorem pA_ft (w : World) (os : OsState) : PAr os ((w.withFollow r2 false).withFollow r1 true) := by unfold PAr; kernel_rfl
theorem pA (w : World) (os : OsState) : PAr os w :=
  byRow2 r1 (P := PAr os) (byRow2 r2 (P := fun w => PAr os (w.withFollow r1 false)) (fun w => pA_ff w os) (fun w => pA_tf w os)) (byRow2 r2 (P := fun w => PAr os (w.withFollow r1 true)) (fun w => pA_ft w os) (fun w => pA_tt w os)) w
theorem pB (w : World) (os : OsState) : rB w os = some (.next, xB w os (ob (yB w os)) (yB w os).life (yB w os).drawn, bcode, ⟨3, 0, 3, 11⟩) := by kernel_rfl
end Mine
end
section
open PySem PySem.W PyProof.Rows
namespace Mine
set_option maxRecDepth 100000
theorem pC_t (w : World) (os : OsState) (o : Nat → Obj) (life : Life) (d : Drawn) : PCr os o life d (w.withFollow r1 true) := by unfold PCr; kernel_rfl
theorem pC_f (w : World) (os : OsState) (o : Nat → Obj) (life : Life) (d : Drawn) : PCr os o life d (w.withFollow r1 false) := by unfold PCr; kernel_rfl
theorem pC (w : World) (os : OsState) (o : Nat → Obj) (life : Life) (d : Drawn) : PCr os o life d w := byRow2 r1 (P := PCr os o life d) (fun w => pC_f w os o life d) (fun w => pC_t w os o life d) w
theorem pD (w : World) (os : OsState) (o : Nat → Obj) (life : Life) (d : Drawn) : rD w os o life d = some (.next, xD w os (ob (yD w os o life d)) life d, bcode, ⟨12, 9, 12, 74⟩) := by kernel_rfl
end Mine
end
section
open PySem PySem.W PyProof.Rows
namespace Mine
set_option maxRecDepth 100000
theorem pE_t (w : World) (os : OsState) (o : Nat → Obj) (life : Life) (d : Drawn) : PEr os o life d (w.withFollow r1 true) := by unfold PEr; kernel_rfl
theorem pE_f (w : World) (os : OsState) (o : Nat → Obj) (life : Life) (d : Drawn) : PEr os o life d (w.withFollow r1 false) := by unfold PEr; kernel_rfl
theorem pE (w : World) (os : OsState) (o : Nat → Obj) (life : Life) (d : Drawn) : PEr os o life d w := byRow2 r1 (P := PEr os o life d) (fun w => pE_f w os o life d) (fun w => pE_t w os o life d) w
theorem pF (w : World) (os : OsState) (o : Nat → Obj) (life : Life) (d : Drawn) : rF w os o life d = some (.next, xF w os (ob (yF w os o life d)) life d, bcode, ⟨15, 9, 15, 110⟩) := by kernel_rfl
end Mine
end
section
open PySem PySem.W PyProof.Rows
namespace Mine
set_option maxRecDepth 100000
abbrev modsL : List Str := importedModules PP.main.body
noncomputable def stt (w : World) (s : Shared) : Bool := staticsOk modsL (boot_heap w.params) s.heap && namesBound PP s.heap && gensDone s && laidKept (boot_heap w.params) s.heap
abbrev posE : Pos := ⟨150, 0, 170, 61⟩
def PGr (os : OsState) (o : Nat → Obj) (life : Life) (d : Drawn) (w : World) : Prop := (rG w os o life d).map (fun r => (r.1, r.2.2, stt w r.2.1.abs, openSeen qv looseL modsL XtL true r.2.1.abs, asF.map r.2.1.abs.heap.get?)) =
  some (.next, (bcode, posE), true, openGood qv looseL, (KF w.params).map fun p => some p.2)
theorem pG_t (w : World) (os : OsState) (o : Nat → Obj) (life : Life) (d : Drawn) : PGr os o life d (w.withFollow r1 true) := by unfold PGr; kernel_rfl
theorem pG_f (w : World) (os : OsState) (o : Nat → Obj) (life : Life) (d : Drawn) : PGr os o life d (w.withFollow r1 false) := by unfold PGr; kernel_rfl
theorem pG (w : World) (os : OsState) (o : Nat → Obj) (life : Life) (d : Drawn) : PGr os o life d w := byRow2 r1 (P := PGr os o life d) (fun w => pG_f w os o life d) (fun w => pG_t w os o life d) w
end Mine
end
section
open PySem PySem.W PyProof.Rows
namespace Mine
set_option maxRecDepth 100000
theorem fin0 (w : World) (s : SharedT) : topRun treeTable PP w 11 an6 2 s.abs (restOf [] benv bcode posE B0) = some s.abs := by
  cases s
  kernel_rfl
theorem body_eq : behindTheImports PP = sts2 ++ (sts3 ++ (sts4 ++ (sts5 ++ []))) := by kernel_rfl
theorem opn (w : World) : (fencedOpening treeTable PP w 40000).map (fun s => (s.heap, s.gens, s.drawn, s.toks)) = some (boot_heap w.params, Array.mk [], boot_drawn, boot_toks) := by kernel_rfl
theorem boot_size (w : World) : ((boot_heap w.params).isNs mainGlobals && (Array.mk ([] : List GenState)).size == 0, (boot_heap w.params).objs.size, (boot_heap w.params).nsMap mainGlobals "__annotations__") = (true, 11, an6) := by kernel_rfl
theorem run2 (w : World) (os : OsState) : ∃ o life d, segRun treeTable PP w 11 an6 1 (nA w + (37 * 51 + (37 * 51 + (37 * 51 + (37 * 51 + (37 * 51 + 29)))))) (ta w os).abs (piecesOf sts2 benv bcode p0 B0) = some (.next, (xB w os o life d).abs, bcode, ⟨3, 0, 3, 11⟩) :=
  ⟨_, _, _, seg_go (segGo_of (pA w os)) (seg_go (segGo_of (lp2_0 ..)) (seg_go (segGo_of (lp2_1 ..)) (seg_go (segGo_of (lp2_2 ..)) (seg_go (segGo_of (lp2_3 ..)) (seg_go (segGo_of (lp2_4 ..)) (segRun_of (pB w os)))))))⟩
theorem run3 (w : World) (os : OsState) (o : Nat → Obj) (life : Life) (d : Drawn) : ∃ o', segRun treeTable PP w 11 an6 1 (220 + (45 * 33 + (45 * 33 + 19))) (xB w os o life d).abs (piecesOf sts3 benv bcode ⟨3, 0, 3, 11⟩ B0) = some (.next, (xD w os o' life d).abs, bcode, ⟨12, 9, 12, 74⟩) :=
  ⟨_, seg_go (segGo_of (pC w os o life d)) (seg_go (segGo_of (lp11_0 ..)) (seg_go (segGo_of (lp11_1 ..)) (segRun_of (pD w os o life d))))⟩
theorem run4 (w : World) (os : OsState) (o : Nat → Obj) (life : Life) (d : Drawn) : ∃ o', segRun treeTable PP w 11 an6 1 (78 + (45 * 47 + (45 * 47 + 19))) (xD w os o life d).abs (piecesOf sts4 benv bcode ⟨12, 9, 12, 74⟩ B0) = some (.next, (xF w os o' life d).abs, bcode, ⟨15, 9, 15, 110⟩) :=
  ⟨_, seg_go (segGo_of (pE w os o life d)) (seg_go (segGo_of (lp13_0 ..)) (seg_go (segGo_of (lp13_1 ..)) (segRun_of (pF w os o life d))))⟩
theorem top_ends (w : World) (os : OsState) : ∃ s : SharedT, topRun treeTable PP w 11 an6 40000 (S0 w os) (topStub PP) = some s.abs ∧ stt w s.abs = true ∧ openSeen qv looseL modsL XtL true s.abs = openGood qv looseL ∧ asF.map s.abs.heap.get? = (KF w.params).map fun p => some p.2 := by
  obtain ⟨o2, life, d, q2⟩ := run2 w os
  obtain ⟨o3, q3⟩ := run3 w os o2 life d
  obtain ⟨o4, q4⟩ := run4 w os o3 life d
  obtain ⟨⟨f, s, c, p⟩, e, h⟩ := Option.map_eq_some_iff.mp (pG w os o4 life d)
  simp only [Prod.mk.injEq] at h
  obtain ⟨rfl, ⟨rfl, rfl⟩, h1, h2, h3⟩ := h
  refine ⟨s, ?_, h1, h2, h3⟩
  have k5 := piece_app (segRun_of e) (fin0 w s)
  have k4 := piece_app q4 k5
  have k3 := piece_app q3 k4
  have k2 := piece_app q2 k3
  rw [← body_eq] at k2
  have k0 := go_top (pre0 w os) (piece_block (blk0 w os) k2)
  have hn : nA w ≤ 106 := by unfold nA; cases w.params.followText r2 <;> decide
  obtain ⟨M, hM, k⟩ : ∃ M, M ≤ 40000 ∧ topRun treeTable PP w 11 an6 M (S0 w os) (topStub PP) = some s.abs := ⟨_, by omega, k0⟩
  have r := topRun_mono (40000 - M) _ _ _ _ k
  rwa [Nat.add_sub_cancel' hM] at r
theorem left : LeftO PP qv looseL XtL (Hook.obs HkF) (Hook.val HkF) 40000 := fun w => by
  obtain ⟨⟨h, gs, d, k, os⟩, e, e'⟩ := Option.map_eq_some_iff.mp (opn w)
  simp only [Prod.mk.injEq] at e'
  obtain ⟨rfl, rfl, rfl, rfl⟩ := e'
  have z := boot_size w
  simp only [Prod.mk.injEq] at z
  obtain ⟨s, r, h1, h2, h3⟩ := top_ends w os
  have t : topFrom treeTable PP w 40000 ⟨boot_heap w.params, Array.mk [], boot_drawn, boot_toks, os⟩ = some s.abs := by
    unfold topFrom
    rw [show ((⟨boot_heap w.params, Array.mk [], boot_drawn, boot_toks, os⟩ : Shared).heap.isNs mainGlobals && (⟨boot_heap w.params, Array.mk [], boot_drawn, boot_toks, os⟩ : Shared).gens.size == 0) = true from z.1]
    show ((topRun treeTable PP w (boot_heap w.params).objs.size ((boot_heap w.params).nsMap mainGlobals "__annotations__") 40000 (S0 w os) (topStub PP)).bind _) = _
    rw [z.2.1, z.2.2, r]
    show (match stt w s.abs with | true => _ | false => _) = _
    rw [h1]
  unfold openEnds
  rw [e]
  show (topFrom treeTable PP w 40000 _).map _ = _
  rw [t]
  exact congrArg some (Prod.ext h2 h3)
end Mine
end
section
open PySem PySem.W PyProof.Rows PySem.Builtin.Str
namespace Mine
abbrev KK (w : World) : Frag := KF w.params
abbrev PG : Program := PySem.Challenge.rw_ls0004_01.prog
noncomputable def dft (w : World) (a : Addr) : List Value := match (KK w).lookup a with
  | some o => (match o.data with | .seq items _ => items.toList | _ => [])
  | none => []
theorem len1 {vs : List Value} (h : vs.length = 1) : ∃ a, vs = [a] := by
  match vs, h with
  | [a], _ => exact ⟨a, rfl⟩
theorem len2 {vs : List Value} (h : vs.length = 2) : ∃ a b, vs = [a, b] := by
  match vs, h with
  | [a, b], _ => exact ⟨a, b, rfl⟩
theorem len3 {vs : List Value} (h : vs.length = 3) : ∃ a b c, vs = [a, b, c] := by
  match vs, h with
  | [a, b, c], _ => exact ⟨a, b, c, rfl⟩
theorem len4 {vs : List Value} (h : vs.length = 4) : ∃ a b c d, vs = [a, b, c, d] := by
  match vs, h with
  | [a, b, c, d], _ => exact ⟨a, b, c, d, rfl⟩

theorem Ev.eq {prog : Program} {w : World} {c : Cx} {X : List Addr} {σ : Store} {e : Expr} {d d' : D} (x : Ev prog w c X σ e d) (h : d = d') : Ev prog w c X σ e d' := h ▸ x
theorem EvB.eq {prog : Program} {w : World} {c : Cx} {X : List Addr} {σ : Store} {e : Expr} {d d' : Bool} (x : EvB prog w c X σ e d) (h : d = d') : EvB prog w c X σ e d' := h ▸ x
theorem hexV_lt : ∀ a ∈ hexU, hexV a < 16 := by decide

set_option maxRecDepth 100000 in
theorem unquote_fn (w : World) (a b : Nat) (ha : a ∈ hexU) (hb : b ∈ hexU) : Fn PG w (KK w) 37 1 [.str [61, a, b]] (.str [16 * hexV a + hexV b]) := by
  have h1 := hexV_lt a ha
  have h2 := hexV_lt b hb
  refine fn_of (extra := []) (ds' := []) (names := ["s"]) rfl rfl rfl rfl ?_ (fun _ _ => .nil) rfl (by decide) rfl (by decide) rfl rfl rfl rfl rfl ?_
  · intro s vs bs hl
    obtain ⟨v, rfl⟩ := len1 hl
    exact BindsTo.of_eq rfl
  · intro L h₀ X₀ A os ok
    exact ex_cons (ex_ret (ev_chr (evV_blt rfl rfl rfl) (ev_hex (evV_blt rfl rfl rfl) (evall_cons ((ev_cut (ev_var rfl) (.some ev_int) (.some ev_int) (by show 3 ≤ sizeLine; decide)).eq rfl) (evall_cons ev_int evall_nil)) ha hb) (by omega) (by omega)) rfl)

set_option maxRecDepth 100000 in
theorem quote_fn (w : World) (n : Nat) (hn : n = 32 ∨ n = 9) : Fn PG w (KK w) 44 1 [.str [n]] (.str (qt n)) := by
  refine fn_of (extra := []) (ds' := []) (names := ["c"]) rfl rfl rfl rfl ?_ (fun _ _ => .nil) rfl (by decide) rfl (by decide) rfl rfl rfl rfl rfl ?_
  · intro s vs bs hl
    obtain ⟨v, rfl⟩ := len1 hl
    exact BindsTo.of_eq rfl
  · intro L h₀ X₀ A os ok
    rcases hn with rfl | rfl
    · exact ex_cons (ex_ret (ev_tab (j := 32) (evV_glob rfl rfl) rfl rfl rfl (ev_ord (evV_blt rfl rfl rfl) (ev_var rfl)) (by decide) rfl rfl) rfl)
    · exact ex_cons (ex_ret (ev_tab (j := 9) (evV_glob rfl rfl) rfl rfl rfl (ev_ord (evV_blt rfl rfl rfl) (ev_var rfl)) (by decide) rfl rfl) rfl)
set_option maxRecDepth 100000 in
theorem tab_ok (w : World) : ((List.range 256).all fun k => match (dft w 46)[k]? with | some (.str y _) => y == S (tr k) | _ => false) = true := by kernel_rfl
theorem tab_at (w : World) (k : Nat) (h : k < 256) : ∃ u, (dft w 46)[k]? = some (.str (S (tr k)) u) := by
  have := List.all_eq_true.mp (tab_ok w) k (List.mem_range.mpr h)
  split at this
  · rename_i y u e
    exact ⟨u, by rw [e, beq_iff_eq.mp this]⟩
  · cases this
end Mine
end
section
open PySem PySem.W PyProof.Rows PySem.Builtin.Str
namespace Mine
set_option maxRecDepth 100000 in
theorem decode_fn (w : World) (enc eol : List Nat) (cs : List (List Nat))
    (hc : ∀ (i : Nat) (t : List Nat), (lns enc)[i]? = some t → ∃ ws held, TK (rsB Unicode.isSpace t) ws held ∧ cs[i]? = some (ct eol (rsB Unicode.isSpace t) ws held))
    (hcl : cs.length = (lns enc).length) (hz : enc.length ≤ 100000) (hz1 : ∀ t ∈ lns enc, t.length ≤ 100000) (hz2 : cs.flatten.length ≤ 100000) (hz3 : eol.length ≤ 1000) :
    Fn PG w (KK w) 65 2 [.str enc, .str eol] (.str (decF enc eol cs.flatten)) ∧ (eol = [10] → Fn PG w (KK w) 65 2 [.str enc] (.str (decF enc eol cs.flatten))) := by
  have big : 1000000 ≤ sizeLine := by decide
  refine fn_of2 (ds := [.str enc]) (ds' := [.str eol]) (P := eol = [10]) (extra := dft w 58) (names := ["encoded", "eol"]) rfl rfl rfl rfl ?_ ?_ (fun h _ _ => by subst h; exact .cons (.str [10] _) .nil) rfl (by decide) rfl (by decide) rfl rfl rfl rfl rfl ?_
  · intro s vs bs hl
    obtain ⟨u, v, rfl⟩ := len2 hl
    exact BindsTo.of_defaults rfl (bs.k 58 _ rfl) rfl rfl rfl
  · intro s vs bs hl
    obtain ⟨u, rfl⟩ := len1 hl
    exact BindsTo.of_defaults rfl (bs.k 58 _ rfl) rfl rfl rfl
  · intro L h₀ X₀ A os ok
    refine ex_cons (ex_if (evb_not (evb_str (ev_var rfl) (by show enc.length ≤ sizeLine; omega))) (fun he => ?_) (fun he => ?_))
    · have : enc = [] := by cases enc with | nil => rfl | cons _ _ => simp at he
      subst this
      exact ex_cons (ex_ret (ev_var rfl) rfl)
    · have hne : enc ≠ [] := by rintro rfl; simp at he
      refine ex_nil (ex_cons (ex_asg (ev_str (l := []) rfl) ?_))
      refine ex_cons (ex_strs (ts := lns enc) (ev_splitlines (ev_var rfl) (by show enc.length + 2 ≤ sizeLine; omega) (lines_lns enc))
        (fun i X τ => X₀ = X ∧ τ = [vS "decoded" (cs.take i).flatten, vS "encoded" enc, vS "eol" eol])
        (τ := [vS "decoded" (cs.take 0).flatten, vS "encoded" enc, vS "eol" eol]) ⟨rfl, rfl⟩ (inc_cons rfl (inc_cons rfl (inc_cons rfl inc_nil))) ?_ ?_)
      · rintro i X τ t h ⟨rfl, rfl⟩ ht ok'
        obtain ⟨ws, held, hT, hci⟩ := hc i t ht
        have hx := take_flat cs i _ hci
        have hb := take_flat_le cs (i + 1)
        have htl := hz1 t (List.mem_of_getElem? ht)
        have hul : (rsB Unicode.isSpace t).length ≤ 100000 := by unfold rsB; rw [List.length_take]; omega
        refine ex_cons (ex_asg (ev_rstrip (ev_var rfl) (by show t.length ≤ sizeLine; omega) (rstrip_list t)) ?_)
        generalize rsB Unicode.isSpace t = u at *
        generalize (cs.take (i + 1)).flatten = total at *
        refine ex_cons (ex_if (evb_not (evb_str (ev_var rfl) (by show u.length ≤ sizeLine; omega))) (fun he => ?_) (fun he => ?_))
        · have hu : u = [] := by cases u with | nil => rfl | cons _ _ => simp at he
          subst hu
          rw [ct, if_pos rfl] at hx
          subst hx
          rw [List.length_append] at hb
          refine ex_cons (ex_aug_str rfl (ev_var rfl) (by omega) ?_)
          exact ex_cons (ex_cont ⟨_, ⟨rfl, rfl⟩, inc_cons rfl (inc_cons rfl (inc_cons rfl inc_nil))⟩)
        · have hu : u ≠ [] := by rintro rfl; simp at he
          rw [ct, if_neg hu] at hx
          refine ex_nil (ex_cons (ex_asg ev_int ?_))
          refine ex_cons (ex_asg (ev_len_str (evV_blt rfl rfl rfl) (ev_var rfl) (by show u.length ≤ sizeLine; omega)) ?_)
          refine ex_cons (ex_loop (τ := [vS "decoded" (cs.take i).flatten, vI "i" (0 : Nat), vI "n" u.length, vS "line" u, vS "encoded" enc, vS "eol" eol])
            (fun m X τ => X₀ = X ∧ ∃ (j : Nat) (dec : List Nat), m = u.length - j ∧ j ≤ u.length ∧ τ = [vS "decoded" dec, vI "i" j, vI "n" u.length, vS "line" u, vS "encoded" enc, vS "eol" eol] ∧
              ((j = u.length ∧ dec = total) ∨ ∃ ws held, TK (u.drop j) ws held ∧ u.drop j ≠ [] ∧ dec ++ (ws.map (·.1) ++ tail held eol) = total)) u.length
            ⟨rfl, 0, _, rfl, Nat.zero_le _, rfl, .inr ⟨ws, held, hT, hu, hx.symm⟩⟩ (inc_cons rfl (inc_cons rfl (inc_cons rfl (inc_cons rfl (inc_cons rfl (inc_cons rfl inc_nil)))))) ?_)
          rintro m X τ ⟨rfl, j, dec, rfl, hj, rfl, hcase⟩
          refine ⟨decide ((j : Int) < u.length), evb_cmp (ev_var rfl) (ev_var rfl) cmp_lt_int, fun hv => ?_, fun hv σ hσ => ?_⟩
          · have hlt : j < u.length := by have := of_decide_eq_true hv; omega
            rcases hcase with ⟨h1, _⟩ | ⟨ws, held, hK, hd0, hdec⟩
            · omega
            have hbd : dec.length ≤ 100000 := by rw [← hdec, List.length_append] at hb; omega
            obtain ⟨a, r, hr⟩ : ∃ a r, u.drop j = a :: r := by
              cases hq : u.drop j with
              | nil => exact absurd hq hd0
              | cons a r => exact ⟨a, r, rfl⟩
            obtain ⟨ha, _, hr1⟩ := drop_head hr
            refine ex_cons (ex_asg (ev_item_str (n := a) (ev_var rfl) (ev_var rfl) (by omega) (by omega) (by omega) (by rw [toNat_ite]; exact ha)) ?_)
            refine ex_cons (ex1_mono (Q := fun o => match o with
              | .next X σ => X₀ = X ∧ ∃ (j' : Nat) (dec' : List Nat), Inc [vS "decoded" dec', vI "i" j', vI "n" u.length, vS "line" u, vS "encoded" enc, vS "eol" eol] σ ∧ j < j' ∧ j' ≤ u.length ∧
                  ((j' = u.length ∧ dec' ++ eol = total) ∨ (j' < u.length ∧ ∃ ws held, TK (u.drop j') ws held ∧ dec' ++ (ws.map (·.1) ++ tail held eol) = total))
              | .cont X σ => X₀ = X ∧ j + 1 = u.length ∧ Inc [vS "decoded" total, vI "i" (j + 1 : Nat), vI "n" u.length, vS "line" u, vS "encoded" enc, vS "eol" eol] σ
              | _ => False) ?_ ?_)
            · rw [hr] at hK
              cases hK with
              | eq =>
                have hn : j + 1 = u.length := by have := congrArg List.length hr; simp at this; omega
                refine ex_if (evb_cmp (ev_var rfl) (ev_str (l := [61]) rfl) cmp_ne_str) (fun he => by simp at he) (fun _ => ex_cons ?_)
                refine ex_if (evb_cmp (ev_add (ev_var rfl) ev_int) (ev_var rfl) cmp_eq_int) (fun _ => ?_) (fun he => by exfalso; have := beq_eq_false_iff_ne.mp he; omega)
                refine ex_cons (ex_aug_int rfl ev_int (ex_cons (ex_cont ?_)))
                have : dec = total := by simpa [tail] using hdec
                subst this
                exact ⟨rfl, hn, inc_cons rfl (inc_cons rfl (inc_cons rfl (inc_cons rfl (inc_cons rfl (inc_cons rfl inc_nil)))))⟩
              | eqh hh =>
                rename_i h1
                have hn : j + 2 = u.length := by have := congrArg List.length hr; simp at this; omega
                refine ex_if (evb_cmp (ev_var rfl) (ev_str (l := [61]) rfl) cmp_ne_str) (fun he => by simp at he) (fun _ => ex_cons ?_)
                refine ex_if (evb_cmp (ev_add (ev_var rfl) ev_int) (ev_var rfl) cmp_eq_int) (fun he => by exfalso; have := beq_iff_eq.mp he; omega) (fun _ => ex_cons ?_)
                refine ex_if (v := false) ((evb_and (evb_cmp (ev_add (ev_var rfl) ev_int) (ev_var rfl) cmp_lt_int) (b' := true) (fun he => by exfalso; have := of_decide_eq_true he; omega)).eq (by rw [Bool.and_true]; exact decide_eq_false (by omega))) (fun he => by cases he) (fun _ => ?_)
                refine ex_cons (ex_aug_str rfl (ev_var rfl) (by simp only [List.length_cons, List.length_nil]; omega) (ex_cons (ex_aug_int rfl ev_int (ex_nil (ex_nil (ex_nil ?_))))))
                refine ⟨rfl, j + 1, dec ++ [61], inc_cons rfl (inc_cons rfl (inc_cons rfl (inc_cons rfl (inc_cons rfl (inc_cons rfl inc_nil))))), by omega, by omega, .inr ⟨by omega, [(h1, 1)], [], ?_, ?_⟩⟩
                · rw [hr1]; exact .lit (hexU_ne _ hh) .nil
                · rw [← hdec]; simp [tail]
              | lit hb1 hK' =>
                refine ex_if (evb_cmp (ev_var rfl) (ev_str (l := [61]) rfl) cmp_ne_str) (fun _ => ?_) (fun he => by exfalso; apply hb1; simpa using he)
                refine ex_cons (ex_aug_str rfl (ev_var rfl) (by simp only [List.length_cons, List.length_nil]; omega) (ex_cons (ex_aug_int rfl ev_int (ex_nil ?_))))
                refine ⟨rfl, j + 1, dec ++ [a], inc_cons rfl (inc_cons rfl (inc_cons rfl (inc_cons rfl (inc_cons rfl (inc_cons rfl inc_nil))))), by omega, by omega, ?_⟩
                by_cases hl : j + 1 = u.length
                · left
                  refine ⟨hl, ?_⟩
                  have : r = [] := by rw [← hr1]; exact List.drop_eq_nil_of_le (by omega)
                  subst this
                  cases hK'
                  rw [← hdec]; simp [tail]
                · right
                  refine ⟨by omega, _, _, hr1 ▸ hK', ?_⟩
                  rw [← hdec]; simp
              | tok h1 h2 hK' =>
                rename_i a1 b1 s ws'
                obtain ⟨g1, _, hr2⟩ := drop_head hr1
                obtain ⟨g2, hl2, hr3⟩ := drop_head hr2
                refine ex_if (evb_cmp (ev_var rfl) (ev_str (l := [61]) rfl) cmp_ne_str) (fun he => by simp at he) (fun _ => ex_cons ?_)
                refine ex_if (evb_cmp (ev_add (ev_var rfl) ev_int) (ev_var rfl) cmp_eq_int) (fun he => by exfalso; have := beq_iff_eq.mp he; omega) (fun _ => ex_cons ?_)
                refine ex_if (v := true) ((evb_and (evb_cmp (ev_add (ev_var rfl) ev_int) (ev_var rfl) cmp_lt_int) (fun _ => evb_and
                    (evb_cmp (ev_item_str (n := a1) (ev_var rfl) (ev_add (ev_var rfl) ev_int) (by omega) (by omega) (by omega) (by rw [show (j : Int) + 1 = ((j + 1 : Nat) : Int) by omega, toNat_ite]; exact g1)) (ev_glob_str (l := hexd) rfl rfl rfl) cmp_in_str)
                    (fun _ => evb_and1 (evb_cmp (ev_item_str (n := b1) (ev_var rfl) (ev_add (ev_var rfl) ev_int) (by omega) (by omega) (by omega) (by rw [show (j : Int) + 2 = ((j + 2 : Nat) : Int) by omega, toNat_ite]; exact g2)) (ev_glob_str (l := hexd) rfl rfl rfl) cmp_in_str)))).eq
                  (by rw [hexd_has h1, hexd_has h2, Bool.and_self, Bool.and_true]; exact decide_eq_true (by omega))) (fun _ => ?_) (fun he => by cases he)
                refine ex_cons (ex_aug_str rfl (ev_call (evV_glob rfl rfl) (Nat.le_refl 1) (evall_cons ((ev_cut (ev_var rfl) (.some (ev_var rfl)) (.some (ev_add (ev_var rfl) ev_int)) (by omega)).eq (congrArg D.str (cut_three hr))) evall_nil) (unquote_fn w a1 b1 h1 h2) rfl rfl ⟨_, _, rfl⟩) (by simp only [List.length_cons, List.length_nil]; omega) (ex_cons (ex_aug_int rfl ev_int (ex_nil (ex_nil (ex_nil ?_))))))
                refine ⟨rfl, j + 3, dec ++ [16 * hexV a1 + hexV b1], inc_cons rfl (inc_cons rfl (inc_cons rfl (inc_cons rfl (inc_cons rfl (inc_cons rfl inc_nil))))), by omega, by omega, ?_⟩
                by_cases hl : j + 3 = u.length
                · left
                  refine ⟨hl, ?_⟩
                  have : s = [] := by rw [← hr3]; exact List.drop_eq_nil_of_le (by omega)
                  subst this
                  cases hK'
                  rw [← hdec]; simp [tail]
                · right
                  refine ⟨by omega, _, _, hr3 ▸ hK', ?_⟩
                  rw [← hdec]; simp
            · intro o ho
              cases o with
              | brk _ _ => exact ho.elim
              | ret _ => exact ho.elim
              | cont X σ =>
                obtain ⟨rfl, h1, h2⟩ := ho
                exact ⟨_, _, Nat.sub_lt_sub_left hlt (Nat.lt_succ_self j), ⟨rfl, j + 1, total, rfl, Nat.le_of_eq h1, rfl, .inl ⟨h1, rfl⟩⟩, h2⟩
              | next X σ =>
                obtain ⟨rfl, j', dec', h1, h2, h3, h4⟩ := ho
                refine ex_inc h1 (ex_cons (ex_if (evb_cmp (ev_var rfl) (ev_var rfl) cmp_eq_int) (fun he => ?_) (fun he => ?_)))
                · have he' : j' = u.length := by have := beq_iff_eq.mp he; omega
                  rcases h4 with ⟨_, h4⟩ | ⟨h4, _⟩
                  · subst h4
                    rw [List.length_append] at hb
                    refine ex_cons (ex_aug_str rfl (ev_var rfl) (by omega) ?_)
                    exact ex_nil (ex_nil ⟨_, _, Nat.sub_lt_sub_left hlt h2, ⟨rfl, j', _, rfl, h3, rfl, .inl ⟨he', rfl⟩⟩, inc_cons rfl (inc_cons rfl (inc_cons rfl (inc_cons rfl (inc_cons rfl (inc_cons rfl inc_nil)))))⟩)
                  · omega
                · have he' : j' ≠ u.length := by rintro rfl; simp at he
                  rcases h4 with ⟨h4, _⟩ | ⟨h4, ws', held', h5, h6⟩
                  · exact absurd h4 he'
                  · exact ex_nil (ex_nil ⟨_, _, Nat.sub_lt_sub_left hlt h2, ⟨rfl, j', _, rfl, h3, rfl, .inr ⟨ws', held', h5, fun z => by have := congrArg List.length z; simp at this; omega, h6⟩⟩, inc_rfl⟩)
          · have hju : j = u.length := by have := of_decide_eq_false hv; omega
            have hd : dec = total := by
              rcases hcase with ⟨_, h2⟩ | ⟨_, _, _, h2, _⟩
              · exact h2
              · exact absurd (List.drop_eq_nil_of_le (Nat.le_of_eq hju.symm)) h2
            subst hd
            exact ex_nil ⟨_, ⟨rfl, rfl⟩, inc_cons (hσ _ _ rfl) (inc_cons (hσ _ _ rfl) (inc_cons (hσ _ _ rfl) inc_nil))⟩
      · rintro X σ τ ⟨rfl, rfl⟩ hI
        refine ex_inc hI ?_
        have hz2' := take_flat_le cs (lns enc).length
        have htk : (cs.take (lns enc).length).flatten = cs.flatten := by rw [← hcl, List.take_length]
        rw [htk] at hI ⊢
        have hlen : 0 < enc.length := List.length_pos_iff.mpr hne
        refine ex_cons (ex_if (v := !(decide (enc.getLastD 0 ∈ [13, 10])) && decide (eol <:+ cs.flatten)) ((evb_and (evb_cmp (ev_item_str (n := enc.getLastD 0) (ev_var rfl) (ev_neg ev_int) (by omega) (by omega) (by omega) (last_get hne)) (ev_str (l := [13, 10]) rfl) cmp_notIn_str)
          (fun _ => evb_and1 (evb_bool (ev_endswith (ev_var rfl) (ev_var rfl))))).eq (by rw [has_one, ends_list])) (fun he => ?_) (fun he => ?_))
        · refine ex_cons (ex_asg (ev_cut (ev_var rfl) .none (.some (ev_neg (ev_len_str (evV_blt rfl rfl rfl) (ev_var rfl) (by omega)))) (by omega)) (ex_nil (ex_cons (ex_ret (ev_var rfl) ?_))))
          show Out.ret _ = Out.ret _
          rw [show decF enc eol cs.flatten = cut cs.flatten none (some (-(eol.length : Int))) by unfold decF; rw [if_neg hne, if_pos he]]
        · refine ex_nil (ex_cons (ex_ret (ev_var rfl) ?_))
          show Out.ret _ = Out.ret _
          rw [show decF enc eol cs.flatten = cs.flatten by unfold decF; rw [if_neg hne, if_neg (by rw [he]; simp)]]
end Mine
end
section
open PySem PySem.W PyProof.Rows PySem.Builtin.Str
namespace Mine
theorem find_hex : ∀ a ∈ hexU, Txt.find (S hexU) (S [a]) = (hexV a : Int) := by decide +kernel
theorem TK_len {s : List Nat} {ws : List (Nat × Nat)} {held : List Nat} (h : TK s ws held) : ws.length ≤ s.length := by
  induction h with
  | nil => simp
  | eq => simp
  | eqh _ => simp
  | lit _ _ ih => simp; omega
  | tok _ _ _ ih => simp; omega
set_option maxRecDepth 100000 in
theorem row_fn (w : World) (s : List Nat) (ws : List (Nat × Nat)) (held : List Nat) (hT : TK s ws held) (hz : s.length ≤ 100000) :
    Fn PG w (KK w) 77 1 [.str s] (.tup [.lst (PL ws), .str held]) := by
  have big : 1000000 ≤ sizeLine := by decide
  have hwl := TK_len hT
  refine fn_of (extra := []) (ds' := []) (names := ["row"]) rfl rfl rfl rfl ?_ (fun _ _ => .nil) rfl (by decide) rfl (by decide) rfl rfl rfl rfl rfl ?_
  · intro s vs bs hl
    obtain ⟨v, rfl⟩ := len1 hl
    exact BindsTo.of_eq rfl
  · intro L h₀ X₀ A os ok
    refine ex_cons (ex_asg (ev_str (l := hexU) rfl) (ex_cons (ex_own evall_nil (by simp) fun r => ex_cons (ex_asg (ev_str (l := []) rfl) ?_))))
    refine ex_cons (ex_chars (l := s) (ev_var rfl)
      (fun i X τ => r :: X₀ = X ∧ ∃ wd hd ws2, τ = [vO "pairs" r (PL wd), vS "held" hd, vS "figures" hexU] ∧ TK (hd ++ s.drop i) ws2 held ∧ wd ++ ws2 = ws ∧ (hd = [] ∨ hd = [61] ∨ ∃ a, hd = [61, a]))
      (τ := [vO "pairs" r (PL []), vS "held" [], vS "figures" hexU]) ⟨rfl, [], [], ws, rfl, hT, rfl, .inl rfl⟩ (inc_cons rfl (inc_cons rfl (inc_cons rfl inc_nil))) ?_ ?_)
    · rintro i X τ t h ⟨rfl, wd, hd, ws2, rfl, hK, hw, hh⟩ ht ok'
      obtain ⟨hil, hti⟩ := List.getElem?_eq_some_iff.mp ht
      have hdr : s.drop i = t :: s.drop (i + 1) := by rw [List.drop_eq_getElem_cons hil, hti]
      have hwd : (PL wd).length ≤ sizeLine := by rw [PL_len]; have := congrArg List.length hw; rw [List.length_append] at this; omega
      rw [hdr] at hK
      generalize hq : s.drop (i + 1) = rest at hK
      rcases hh with rfl | rfl | ⟨a, rfl⟩
      · by_cases h61 : t = 61
        · subst h61
          refine ex_cons (ex_if (v := false) ((evb_and (evb_cmp (ev_var rfl) (ev_str (l := []) rfl) cmp_eq_str) (fun _ => evb_and1 (evb_cmp (ev_var rfl) (ev_str (l := [61]) rfl) cmp_ne_str))).eq (by simp)) (fun he => by cases he) (fun _ => ?_))
          refine ex_cons (ex_asg (ev_cat (ev_var rfl) (ev_var rfl) (by simp <;> omega)) ?_)
          refine ex_cons (ex_if (evb_cmp (ev_len_str (evV_blt rfl rfl rfl) (ev_var rfl) (by simp <;> omega)) ev_int cmp_eq_int) (fun he => by simp at he) (fun _ => ?_))
          exact ex_nil (ex_nil (ex_nil ⟨_, ⟨rfl, wd, [61], ws2, rfl, by first | exact hK | (rw [hq]; exact hK), hw, .inr (.inl rfl)⟩, inc_cons rfl (inc_cons rfl (inc_cons rfl inc_nil))⟩))
        · refine ex_cons (ex_if (v := true) ((evb_and (evb_cmp (ev_var rfl) (ev_str (l := []) rfl) cmp_eq_str) (fun _ => evb_and1 (evb_cmp (ev_var rfl) (ev_str (l := [61]) rfl) cmp_ne_str))).eq (by simp [h61])) (fun _ => ?_) (fun he => by cases he))
          cases hK with
          | lit _ hK' =>
            refine ex_cons (ex_append rfl (ev_tuple (evall_cons (ev_ord (evV_blt rfl rfl rfl) (ev_var rfl)) (evall_cons ev_int evall_nil)) (by simp <;> omega)) hwd ?_)
            refine ex_nil (ex_nil ⟨_, ⟨rfl, wd ++ [(t, 1)], [], _, rfl, by first | exact hK' | (rw [hq]; exact hK'), by rw [← hw]; simp, .inl rfl⟩, inc_cons ?_ (inc_cons rfl (inc_cons rfl inc_nil))⟩)
            rw [← PL_app]; rfl
          | eq => exact absurd rfl h61
          | eqh _ => exact absurd rfl h61
          | tok _ _ _ => exact absurd rfl h61
      · refine ex_cons (ex_if (v := false) ((evb_and (b' := false) (evb_cmp (ev_var rfl) (ev_str (l := []) rfl) cmp_eq_str) (fun he => by simp at he)).eq (by simp)) (fun he => by cases he) (fun _ => ?_))
        refine ex_cons (ex_asg (ev_cat (ev_var rfl) (ev_var rfl) (by simp <;> omega)) ?_)
        refine ex_cons (ex_if (evb_cmp (ev_len_str (evV_blt rfl rfl rfl) (ev_var rfl) (by simp <;> omega)) ev_int cmp_eq_int) (fun he => by simp at he) (fun _ => ?_))
        exact ex_nil (ex_nil (ex_nil ⟨_, ⟨rfl, wd, [61, t], ws2, rfl, by first | exact hK | (rw [hq]; exact hK), hw, .inr (.inr ⟨t, rfl⟩)⟩, inc_cons rfl (inc_cons rfl (inc_cons rfl inc_nil))⟩))
      · refine ex_cons (ex_if (v := false) ((evb_and (b' := false) (evb_cmp (ev_var rfl) (ev_str (l := []) rfl) cmp_eq_str) (fun he => by simp at he)).eq (by simp)) (fun he => by cases he) (fun _ => ?_))
        refine ex_cons (ex_asg (ev_cat (ev_var rfl) (ev_var rfl) (by simp <;> omega)) ?_)
        refine ex_cons (ex_if (evb_cmp (ev_len_str (evV_blt rfl rfl rfl) (ev_var rfl) (by simp <;> omega)) ev_int cmp_eq_int) (fun _ => ?_) (fun he => by simp at he))
        cases hK with
        | lit h61 _ => exact absurd rfl h61
        | tok h1 h2 hK' =>
          rename_i ws3
          have g1 := hexV_lt a h1
          have g2 := hexV_lt t h2
          refine ex_cons (ex_asg ((ev_find (ev_var rfl) (ev_item_str (n := a) (ev_var rfl) ev_int (by simp <;> omega) (by simp <;> omega) (by simp <;> omega) rfl)).eq (congrArg D.int (find_hex a h1))) ?_)
          refine ex_cons (ex_asg ((ev_find (ev_var rfl) (ev_item_str (n := t) (ev_var rfl) ev_int (by simp <;> omega) (by simp <;> omega) (by simp <;> omega) rfl)).eq (congrArg D.int (find_hex t h2))) ?_)
          refine ex_cons (ex_append rfl (ev_tuple (ds := [.int ((16 * hexV a + hexV t : Nat) : Int), .int 3]) (evall_cons ((ev_add (ev_mul ev_int (ev_var rfl) (.of_left (by decide))) (ev_var rfl)).eq (by congr 1)) (evall_cons (ev_ite (b := true)
            ((evb_and (evb_cmp (ev_var rfl) ev_int cmp_ge_int) (fun _ => evb_and1 (evb_cmp (ev_var rfl) ev_int cmp_ge_int))).eq (by simp)) (fun _ => ev_int) (fun he => by cases he)) evall_nil)) (by simp <;> omega)) hwd ?_)
          refine ex_cons (ex_asg (ev_str (l := []) rfl) ?_)
          refine ex_nil (ex_nil (ex_nil ⟨_, ⟨rfl, wd ++ [(16 * hexV a + hexV t, 3)], [], ws3, rfl, by first | exact hK' | (rw [hq]; exact hK'), by rw [← hw]; simp, .inl rfl⟩, inc_cons ?_ (inc_cons rfl (inc_cons rfl inc_nil))⟩))
          rw [← PL_app]; rfl
    · rintro X σ τ ⟨rfl, wd, hd, ws2, rfl, hK, hw, hh⟩ hI
      rw [List.drop_length, List.append_nil] at hK
      obtain ⟨rfl, rfl⟩ : ws2 = [] ∧ hd = held := by
        rcases hh with rfl | rfl | ⟨a, rfl⟩
        · cases hK; exact ⟨rfl, rfl⟩
        · cases hK with
          | eq => exact ⟨rfl, rfl⟩
          | lit h _ => exact absurd rfl h
        · cases hK with
          | eqh _ => exact ⟨rfl, rfl⟩
          | lit h _ => exact absurd rfl h
      rw [List.append_nil] at hw
      subst hw
      exact ex_inc hI (ex_thaw (x := "pairs") rfl (ex_cons (ex_ret (ev_tuple (evall_cons (ev_var rfl) (evall_cons (ev_var rfl) evall_nil)) (by simp <;> omega)) rfl)))
end Mine
end
section
open PySem PySem.W PyProof.Rows PySem.Builtin.Str
namespace Mine
theorem take_flat' {α : Type} (cs : List (List α)) (i : Nat) (x : List α) (h : cs[i]? = some x) : (cs.take (i + 1)).flatten = (cs.take i).flatten ++ x := by
  rw [List.take_add_one, h]; simp
theorem take_flat_le' {α : Type} (cs : List (List α)) (i : Nat) : (cs.take i).flatten.length ≤ cs.flatten.length := by
  conv => rhs; rw [← List.take_append_drop i cs, List.flatten_append, List.length_append]
  omega
theorem sub_get {l : List Nat} {st k : Nat} (h : st + k < l.length) : ∃ a, l[st + k]? = some a ∧ (l.drop st)[k]? = some a := by
  refine ⟨l[st + k], List.getElem?_eq_getElem h, ?_⟩
  rw [List.getElem?_drop, List.getElem?_eq_getElem h]
theorem cut_m1 {α : Type} (l : List α) (a : Nat) : cut l (some (a : Int)) (some (-1)) = (l.drop a).dropLast := by
  have := cut_ak l a 1 (by decide)
  rw [show -((1 : Nat) : Int) = -1 from rfl] at this
  rw [this, List.dropLast_eq_take, List.length_drop, List.drop_take]
  congr 1
  omega
theorem lastp_eq {mx : Nat} {eol r : List Nat} (h : r ≠ [] ∧ r.getLastD 0 ∈ [32, 9]) : lastp mx eol r = r.dropLast ++ (if r.length + 2 ≤ mx then qt (r.getLastD 0) else if r.length + 1 = mx then [r.getLastD 0] ++ ([61] ++ eol) else ([61] ++ eol) ++ qt (r.getLastD 0)) := by
  unfold lastp
  rw [if_pos h]
  by_cases h1 : r.length + 2 ≤ mx
  · rw [if_pos h1, if_pos h1]
  · rw [if_neg h1, if_neg h1]
    by_cases h2 : r.length + 1 = mx
    · rw [if_pos h2, if_pos h2]
    · rw [if_neg h2, if_neg h2]
theorem snoc_str (a b : List (List Nat)) (c : List Nat) : (a ++ b).map D.str ++ [.str c] = (a ++ (b ++ [c])).map D.str := by simp
theorem take_snoc {r : List Nat} {k a : Nat} (h : r[k]? = some a) : r.take (k + 1) = r.take k ++ [a] := by
  rw [List.take_add_one, h]; rfl

set_option maxRecDepth 100000 in
theorem enc_fn (w : World) (body eol : List Nat) (mx : Nat) (hmx : 4 ≤ mx) (hb : ∀ a ∈ body, a < 256) (hne : body ≠ []) (htb : body.flatMap tr ≠ []) (pss : List (List (List Nat)))
    (hp : ∀ (i : Nat) (t : List Nat), (lns (body.flatMap tr))[i]? = some t → ∃ ps r, WL mx t ps r ∧ pss[i]? = some (ps ++ [lastp mx eol r])) (hpl : pss.length = (lns (body.flatMap tr)).length)
    (hz0 : body.length ≤ 10000) (hz : (body.flatMap tr).length ≤ 10000) (hz1 : ∀ t ∈ lns (body.flatMap tr), t.length ≤ 10000) (hz2 : (pss.flatten.map List.length).sum + pss.flatten.length ≤ 900000) (hz3 : eol.length ≤ 10) :
    Fn PG w (KK w) 57 2 [.str body, .int mx, .str eol] (.str (jn eol (pss.flatten ++ if (body.flatMap tr).getLastD 0 ∈ [13, 10] then [[]] else []))) ∧
    (mx = 76 ∧ eol = [10] → Fn PG w (KK w) 57 2 [.str body] (.str (jn eol (pss.flatten ++ if (body.flatMap tr).getLastD 0 ∈ [13, 10] then [[]] else [])))) := by
  have big : 1000000 ≤ sizeLine := by decide
  refine fn_of2 (ds := [.str body]) (ds' := [.int mx, .str eol]) (P := mx = 76 ∧ eol = [10]) (extra := dft w 50) (names := ["body", "maxlinelen", "eol"]) rfl rfl rfl rfl ?_ ?_
    (fun h _ _ => by obtain ⟨rfl, rfl⟩ := h; exact .cons (.int 76 _) (.cons (.str [10] _) .nil)) rfl (by decide) rfl (by decide) rfl rfl rfl rfl rfl ?_
  · intro s vs bs hl
    obtain ⟨u, v, z, rfl⟩ := len3 hl
    exact BindsTo.of_defaults rfl (bs.k 50 _ rfl) rfl rfl rfl
  · intro s vs bs hl
    obtain ⟨u, rfl⟩ := len1 hl
    exact BindsTo.of_defaults rfl (bs.k 50 _ rfl) rfl rfl rfl
  · intro L h₀ X₀ A os ok
    refine ex_cons (ex_if (v := false) ((evb_cmp (ev_var rfl) ev_int cmp_lt_int).eq (decide_eq_false (by omega))) (fun he => by cases he) (fun _ => ex_nil ?_))
    refine ex_cons (ex_if (v := false) ((evb_not (evb_str (ev_var rfl) (by show body.length ≤ sizeLine; omega))).eq (by cases body with | nil => exact absurd rfl hne | cons _ _ => rfl)) (fun he => by cases he) (fun _ => ex_nil ?_))
    refine ex_cons (ex_asg (ev_translate (tb := tr) (ev_var rfl) (evV_glob rfl rfl) rfl rfl rfl (fun k hk => by obtain ⟨u, hu⟩ := tab_at w k (hb k hk); exact ⟨u, Array.getElem?_toList.symm.trans hu⟩) (fun k hk => Nat.lt_trans (hb k hk) (by decide)) (by omega)) ?_)
    generalize body.flatMap tr = tb at *
    refine ex_cons (ex_asg (ev_cat (ev_str (l := [61]) rfl) (ev_var rfl) (by simp <;> omega)) (ex_cons (ex_asg (ev_sub (ev_var rfl) ev_int) (ex_cons (ex_own evall_nil (by simp) fun r => ex_cons (ex_bapp (y := "encoded_body") rfl ?_))))))
    refine ex_cons (ex_strs (ts := lns tb) (ev_splitlines (ev_var rfl) (by show tb.length + 2 ≤ sizeLine; omega) (lines_lns tb))
      (fun i X τ => r :: X₀ = X ∧ τ = [vO "encoded_body" r ((pss.take i).flatten.map .str), ("append", .app r), vI "maxlinelen" mx, vI "maxlinelen1" ((mx : Int) - 1), vS "soft_break" ([61] ++ eol), vS "body" tb, vS "eol" eol])
      (τ := [vO "encoded_body" r ((pss.take 0).flatten.map .str), ("append", .app r), vI "maxlinelen" mx, vI "maxlinelen1" ((mx : Int) - 1), vS "soft_break" ([61] ++ eol), vS "body" tb, vS "eol" eol]) ⟨rfl, rfl⟩
      (inc_cons rfl (inc_cons rfl (inc_cons rfl (inc_cons rfl (inc_cons rfl (inc_cons rfl (inc_cons rfl inc_nil))))))) ?_ ?_)
    · rintro i X τ line h ⟨rfl, rfl⟩ ht ok'
      obtain ⟨ps, r', hW, hpi⟩ := hp i line ht
      have hx := take_flat' pss i _ hpi
      have hcount := take_flat_le' pss (i + 1)
      have htl := hz1 line (List.mem_of_getElem? ht)
      rw [hx, List.length_append, List.length_append] at hcount
      refine ex_cons (ex_asg ev_int (ex_cons (ex_asg (ev_sub (ev_sub (ev_len_str (evV_blt rfl rfl rfl) (ev_var rfl) (by omega)) ev_int) (ev_var rfl)) ?_)))
      refine ex_cons (ex_loop
        (fun m X τ => r :: X₀ = X ∧ ∃ (st : Nat) (ps1 ps2 : List (List Nat)), m = line.length - st ∧ st ≤ line.length ∧ WL mx (line.drop st) ps2 r' ∧ ps1 ++ ps2 = ps ∧
          τ = [vO "encoded_body" r (((pss.take i).flatten ++ ps1).map .str), vI "start" st, vI "laststart" ((line.length : Int) - 1 - mx), vS "line" line, ("append", .app r), vI "maxlinelen" mx, vI "maxlinelen1" ((mx : Int) - 1), vS "soft_break" ([61] ++ eol), vS "body" tb, vS "eol" eol])
        (τ := [vO "encoded_body" r (((pss.take i).flatten ++ []).map .str), vI "start" (0 : Nat), vI "laststart" ((line.length : Int) - 1 - mx), vS "line" line, ("append", .app r), vI "maxlinelen" mx, vI "maxlinelen1" ((mx : Int) - 1), vS "soft_break" ([61] ++ eol), vS "body" tb, vS "eol" eol])
        line.length ⟨rfl, 0, [], ps, rfl, Nat.zero_le _, hW, rfl, rfl⟩ (inc_cons (by rw [List.append_nil]; rfl) (inc_cons rfl (inc_cons rfl (inc_cons rfl (inc_cons rfl (inc_cons rfl (inc_cons rfl (inc_cons rfl (inc_cons rfl (inc_cons rfl inc_nil)))))))))) ?_)
      rintro m X τ ⟨rfl, st, ps1, ps2, rfl, hst, hW2, hps, rfl⟩
      have hlen1 : (((pss.take i).flatten ++ ps1).map D.str).length ≤ sizeLine := by
        have := congrArg List.length hps
        rw [List.length_append] at this
        rw [List.length_map, List.length_append]
        omega
      refine ⟨decide ((st : Int) ≤ (line.length : Int) - 1 - mx), evb_cmp (ev_var rfl) (ev_var rfl) cmp_le_int, fun hv => ?_, fun hv σ hσ => ?_⟩
      · have hlt : mx < (line.drop st).length := by have := of_decide_eq_true hv; rw [List.length_drop]; omega
        have hlt' : st + mx < line.length := by rw [List.length_drop] at hlt; omega
        obtain ⟨a0, ha0, hb0⟩ := sub_get (l := line) (st := st) (k := mx - 3) (by omega)
        obtain ⟨a1, ha1, hb1⟩ := sub_get (l := line) (st := st) (k := mx - 2) (by omega)
        cases hW2 with
        | stop hh => omega
        | @go _ _ ps' _ hW3 =>
          have hcp := cp_lt (r := line.drop st) hmx
          refine ex_cons (ex_asg ((ev_add (ev_var rfl) (ev_var rfl)).eq (d' := .int ((st + (mx - 1) : Nat) : Int)) (by congr 1; omega)) ?_)
          have fin : ∀ (row : List Nat) (e : Nat), row = (line.drop st).take (cp mx (line.drop st)) ++ [61] → e = st + cp mx (line.drop st) →
              line.length - e < line.length - st ∧ e ≤ line.length ∧ WL mx (line.drop e) ps' r' ∧ (ps1 ++ [row]) ++ ps' = ps := by
            rintro row e rfl rfl
            refine ⟨by omega, by omega, ?_, ?_⟩
            · rw [← List.drop_drop]; exact hW3
            · rw [← hps]; simp
          refine ex_cons (ex_if (evb_cmp (ev_item_str (n := a0) (ev_var rfl) (ev_sub (ev_var rfl) ev_int) (by omega) (by omega) (by omega) (by rw [show ((st + (mx - 1) : Nat) : Int) - 2 = ((st + (mx - 3) : Nat) : Int) by omega, toNat_ite]; exact ha0)) (ev_str (l := [61]) rfl) cmp_eq_str) (fun he => ?_) (fun he => ex_cons ?_))
          · have h61 : a0 = 61 := by simpa using he
            subst h61
            have hc : cp mx (line.drop st) = mx - 3 := by unfold cp; rw [if_pos hb0]
            obtain ⟨f1, f2, f3, f4⟩ := fin ((line.drop st).take (mx - 3 + 1)) (st + (mx - 3)) (by rw [hc, take_snoc hb0]) (by rw [hc])
            refine ex_cons (ex_app (x := "encoded_body") rfl rfl ((ev_cut (ev_var rfl) (.some (ev_var rfl)) (.some (ev_sub (ev_var rfl) ev_int)) (by omega)).eq (d' := .str ((line.drop st).take (mx - 3 + 1))) ?_) hlen1 ?_)
            · rw [show ((st + (mx - 1) : Nat) : Int) - 1 = ((st + (mx - 3 + 1) : Nat) : Int) by omega, cut_ab, List.drop_take]; congr 2; omega
            · refine ex_cons (ex_asg ((ev_sub (ev_var rfl) ev_int).eq (d' := .int ((st + (mx - 3) : Nat) : Int)) (by congr 1; omega)) (ex_nil (ex_nil ?_)))
              exact ⟨_, _, f1, ⟨rfl, _, _, _, rfl, f2, f3, f4, rfl⟩, inc_cons (by rw [← snoc_str]; rfl) (inc_cons rfl (inc_cons rfl (inc_cons rfl (inc_cons rfl (inc_cons rfl (inc_cons rfl (inc_cons rfl (inc_cons rfl (inc_cons rfl inc_nil)))))))))⟩
          · have h61 : a0 ≠ 61 := by simpa using he
            refine ex_if (evb_cmp (ev_item_str (n := a1) (ev_var rfl) (ev_sub (ev_var rfl) ev_int) (by omega) (by omega) (by omega) (by rw [show ((st + (mx - 1) : Nat) : Int) - 1 = ((st + (mx - 2) : Nat) : Int) by omega, toNat_ite]; exact ha1)) (ev_str (l := [61]) rfl) cmp_eq_str) (fun he2 => ?_) (fun he2 => ?_)
            · have h62 : a1 = 61 := by simpa using he2
              subst h62
              have hc : cp mx (line.drop st) = mx - 2 := by unfold cp; rw [if_neg (by rw [hb0]; simpa using h61), if_pos hb1]
              obtain ⟨f1, f2, f3, f4⟩ := fin ((line.drop st).take (mx - 2 + 1)) (st + (mx - 2)) (by rw [hc, take_snoc hb1]) (by rw [hc])
              refine ex_cons (ex_app (x := "encoded_body") rfl rfl ((ev_cut (ev_var rfl) (.some (ev_var rfl)) (.some (ev_var rfl)) (by omega)).eq (d' := .str ((line.drop st).take (mx - 2 + 1))) ?_) hlen1 ?_)
              · rw [cut_ab, List.drop_take]; congr 2; omega
              · refine ex_cons (ex_asg ((ev_sub (ev_var rfl) ev_int).eq (d' := .int ((st + (mx - 2) : Nat) : Int)) (by congr 1; omega)) (ex_nil (ex_nil (ex_nil ?_))))
                exact ⟨_, _, f1, ⟨rfl, _, _, _, rfl, f2, f3, f4, rfl⟩, inc_cons (by rw [← snoc_str]; rfl) (inc_cons rfl (inc_cons rfl (inc_cons rfl (inc_cons rfl (inc_cons rfl (inc_cons rfl (inc_cons rfl (inc_cons rfl (inc_cons rfl inc_nil)))))))))⟩
            · have h62 : a1 ≠ 61 := by simpa using he2
              have hc : cp mx (line.drop st) = mx - 1 := by unfold cp; rw [if_neg (by rw [hb0]; simpa using h61), if_neg (by rw [hb1]; simpa using h62)]
              obtain ⟨f1, f2, f3, f4⟩ := fin ((line.drop st).take (mx - 1) ++ [61]) (st + (mx - 1)) (by rw [hc]) (by rw [hc])
              refine ex_cons (ex_app (x := "encoded_body") rfl rfl ((ev_cat (m := [61]) (ev_cut (ev_var rfl) (.some (ev_var rfl)) (.some (ev_var rfl)) (by omega)) (ev_str rfl) ?_).eq (d' := .str ((line.drop st).take (mx - 1) ++ [61])) ?_) hlen1 ?_)
              · have := cut_le line (some (st : Int)) (some ((st + (mx - 1) : Nat) : Int)); show (cut line _ _).length + 1 ≤ sizeLine; omega
              · rw [cut_ab, List.drop_take]; congr 3; omega
              · refine ex_cons (ex_asg (ev_var rfl) (ex_nil (ex_nil (ex_nil ?_))))
                exact ⟨_, _, f1, ⟨rfl, _, _, _, rfl, f2, f3, f4, rfl⟩, inc_cons (by rw [← snoc_str]; rfl) (inc_cons rfl (inc_cons rfl (inc_cons rfl (inc_cons rfl (inc_cons rfl (inc_cons rfl (inc_cons rfl (inc_cons rfl (inc_cons rfl inc_nil)))))))))⟩
      · have hsh : (line.drop st).length ≤ mx := by have := of_decide_eq_false hv; rw [List.length_drop]; omega
        obtain ⟨rfl, rfl⟩ : ps2 = [] ∧ r' = line.drop st := by
          cases hW2 with
          | stop _ => exact ⟨rfl, rfl⟩
          | go h' _ => omega
        rw [List.append_nil] at hps
        subst hps
        obtain ⟨⟨pre, hpre⟩, hne', -⟩ := WL_suf hmx hW
        have hL : (line.drop st).length = line.length - st := List.length_drop
        refine ex_inc hσ ?_
        have fin2 : ∀ (piece : List Nat) (σ' : Store), piece = lastp mx eol (line.drop st) → Inc [vO "encoded_body" r (((pss.take i).flatten ++ ps1).map .str ++ [.str piece]), ("append", .app r), vI "maxlinelen" mx, vI "maxlinelen1" ((mx : Int) - 1), vS "soft_break" ([61] ++ eol), vS "body" tb, vS "eol" eol] σ' →
            Inc [vO "encoded_body" r ((pss.take (i + 1)).flatten.map .str), ("append", .app r), vI "maxlinelen" mx, vI "maxlinelen1" ((mx : Int) - 1), vS "soft_break" ([61] ++ eol), vS "body" tb, vS "eol" eol] σ' := by
          rintro piece σ' rfl h
          rw [hx, ← snoc_str]; exact h
        by_cases hl : line = []
        · have hr : line.drop st = [] := by rw [hl]; simp
          refine ex_cons (ex_if (v := false) ((evb_and (b' := false) (evb_str (ev_var rfl) (by omega)) (fun he => by exfalso; subst hl; simp at he)).eq (by rw [Bool.and_false])) (fun he => by cases he) (fun _ => ?_))
          refine ex_cons (ex_app (x := "encoded_body") rfl rfl ((ev_cut (ev_var rfl) (.some (ev_var rfl)) .none (by omega)).eq (congrArg D.str (cut_a line st))) hlen1 (ex_nil (ex_nil ⟨_, ⟨rfl, rfl⟩, fin2 _ _ ?_ (inc_cons rfl (inc_cons rfl (inc_cons rfl (inc_cons rfl (inc_cons rfl (inc_cons rfl (inc_cons rfl inc_nil)))))))⟩)))
          rw [hr]; rfl
        · have hr : line.drop st ≠ [] := hne' hl
          have hlast : line.getLastD 0 = (line.drop st).getLastD 0 := (congrArg (fun l => l.getLastD 0) hpre).trans (last_suf hr)
          have hlp : 0 < line.length := List.length_pos_iff.mpr hl
          have evl : ∀ (c : Cx) (X : List Addr) (σ : Store) (pos p1 p2 p3 : Pos) (k : Nat), c.env.kindOf "line" = some .local → List.lookup (Str.ofString "line") σ = some (.val (.str line)) → Ev PG w c X σ (.Subscript (.Name "line" p1) (.UnaryOp .USub (.Constant (.int 1) k p2) p3) pos) (.str [(line.drop st).getLastD 0]) := by
            intro c X σ pos p1 p2 p3 k hk hs
            rw [← hlast]
            exact ev_item_str (n := line.getLastD 0) (ev_var hs) (ev_neg ev_int) (by omega) (by omega) (by omega) (last_get hl)
          refine ex_cons (ex_if (v := decide ((line.drop st).getLastD 0 ∈ [32, 9])) ((evb_and (b := true) ((evb_str (ev_var rfl) (by omega)).eq (by cases line with | nil => exact absurd rfl hl | cons _ _ => rfl)) (fun _ => evb_and1 (evb_cmp (evl _ _ _ _ _ _ _ _ rfl rfl) (ev_str (l := [32, 9]) rfl) cmp_in_str))).eq (by rw [Bool.true_and, has_one])) (fun he => ?_) (fun he => ?_))
          · have hin := of_decide_eq_true he
            have hq : (line.drop st).getLastD 0 = 32 ∨ (line.drop st).getLastD 0 = 9 := by simpa using hin
            refine ex_cons (ex_asg ((ev_sub (ev_var rfl) (ev_var rfl)).eq (d' := .int ((mx : Int) + 1 - ((line.drop st).length : Int))) (by congr 1; omega)) ?_)
            refine ex_cons (ex1_mono (Q := fun o => match o with
              | .next X σ => r :: X₀ = X ∧ Inc [vS "q" (if (line.drop st).length + 2 ≤ mx then qt ((line.drop st).getLastD 0) else if (line.drop st).length + 1 = mx then [(line.drop st).getLastD 0] ++ ([61] ++ eol) else ([61] ++ eol) ++ qt ((line.drop st).getLastD 0)),
                  vO "encoded_body" r (((pss.take i).flatten ++ ps1).map .str), vI "start" st, vS "line" line, ("append", .app r), vI "maxlinelen" mx, vI "maxlinelen1" ((mx : Int) - 1), vS "soft_break" ([61] ++ eol), vS "body" tb, vS "eol" eol] σ
              | _ => False) ?_ ?_)
            · have qlen : (qt ((line.drop st).getLastD 0)).length = 3 := by unfold qt; split <;> rfl
              refine ex_if (evb_cmp (ev_var rfl) ev_int cmp_ge_int) (fun h3 => ?_) (fun h3 => ?_)
              · have h3' : (line.drop st).length + 2 ≤ mx := by have := of_decide_eq_true h3; omega
                rw [if_pos h3']
                exact ex_cons (ex_asg (ev_call (evV_glob rfl rfl) (Nat.le_refl 1) (evall_cons (evl _ _ _ _ _ _ _ _ rfl rfl) evall_nil) (quote_fn w _ hq) rfl rfl ⟨_, _, rfl⟩) (ex_nil ⟨rfl, inc_cons rfl (inc_cons rfl (inc_cons rfl (inc_cons rfl (inc_cons rfl (inc_cons rfl (inc_cons rfl (inc_cons rfl (inc_cons rfl (inc_cons rfl inc_nil)))))))))⟩))
              · have h3' : ¬ (line.drop st).length + 2 ≤ mx := by have := of_decide_eq_false h3; omega
                rw [if_neg h3']
                refine ex_cons (ex_if (evb_cmp (ev_var rfl) ev_int cmp_eq_int) (fun h2 => ?_) (fun h2 => ?_))
                · have h2' : (line.drop st).length + 1 = mx := by have := beq_iff_eq.mp h2; omega
                  rw [if_pos h2']
                  exact ex_cons (ex_asg (ev_cat (evl _ _ _ _ _ _ _ _ rfl rfl) (ev_var rfl) (by simp <;> omega)) (ex_nil (ex_nil ⟨rfl, inc_cons rfl (inc_cons rfl (inc_cons rfl (inc_cons rfl (inc_cons rfl (inc_cons rfl (inc_cons rfl (inc_cons rfl (inc_cons rfl (inc_cons rfl inc_nil)))))))))⟩)))
                · have h2' : ¬ (line.drop st).length + 1 = mx := by have := beq_eq_false_iff_ne.mp h2; omega
                  rw [if_neg h2']
                  exact ex_cons (ex_asg (ev_cat (ev_var rfl) (ev_call (evV_glob rfl rfl) (Nat.le_refl 1) (evall_cons (evl _ _ _ _ _ _ _ _ rfl rfl) evall_nil) (quote_fn w _ hq) rfl rfl ⟨_, _, rfl⟩) (by rw [qlen, List.length_append]; simp <;> omega)) (ex_nil (ex_nil ⟨rfl, inc_cons rfl (inc_cons rfl (inc_cons rfl (inc_cons rfl (inc_cons rfl (inc_cons rfl (inc_cons rfl (inc_cons rfl (inc_cons rfl (inc_cons rfl inc_nil)))))))))⟩)))
            · intro o ho
              cases o with
              | brk _ _ => exact ho.elim
              | ret _ => exact ho.elim
              | cont _ _ => exact ho.elim
              | next X σ =>
                obtain ⟨rfl, h1⟩ := ho
                refine ex_inc h1 (ex_cons (ex_app (x := "encoded_body") rfl rfl (ev_cat ((ev_cut (ev_var rfl) (.some (ev_var rfl)) (.some (ev_neg ev_int)) (by omega)).eq (congrArg D.str (cut_m1 line st))) (ev_var rfl) ?_) hlen1 (ex_nil (ex_nil ⟨_, ⟨rfl, rfl⟩, fin2 _ _ ?_ (inc_cons rfl (inc_cons rfl (inc_cons rfl (inc_cons rfl (inc_cons rfl (inc_cons rfl (inc_cons rfl inc_nil)))))))⟩))))
                · have qlen : (qt ((line.drop st).getLastD 0)).length = 3 := by unfold qt; split <;> rfl
                  rw [List.length_dropLast]
                  split
                  · omega
                  · split <;> (simp only [List.length_append, List.length_cons, List.length_nil]; omega)
                · exact (lastp_eq ⟨hr, hin⟩).symm
          · have hin := of_decide_eq_false he
            refine ex_cons (ex_app (x := "encoded_body") rfl rfl ((ev_cut (ev_var rfl) (.some (ev_var rfl)) .none (by omega)).eq (congrArg D.str (cut_a line st))) hlen1 (ex_nil (ex_nil ⟨_, ⟨rfl, rfl⟩, fin2 _ _ ?_ (inc_cons rfl (inc_cons rfl (inc_cons rfl (inc_cons rfl (inc_cons rfl (inc_cons rfl (inc_cons rfl inc_nil)))))))⟩)))
            unfold lastp
            rw [if_neg (fun h => hin h.2)]
    · rintro X σ τ ⟨rfl, rfl⟩ hI
      refine ex_inc hI ?_
      have htk : (pss.take (lns tb).length).flatten = pss.flatten := by rw [← hpl, List.take_length]
      rw [htk] at hI ⊢
      have hlen : 0 < tb.length := List.length_pos_iff.mpr htb
      refine ex_cons (ex_if (v := decide (tb.getLastD 0 ∈ [13, 10])) ((evb_cmp (ev_item_str (n := tb.getLastD 0) (ev_var rfl) (ev_neg ev_int) (by omega) (by omega) (by omega) (last_get htb)) (ev_glob_str (l := [13, 10]) rfl rfl rfl) cmp_in_str).eq (by rw [has_one])) (fun he => ?_) (fun he => ?_))
      · rw [if_pos (of_decide_eq_true he)]
        refine ex_cons (ex_app (x := "encoded_body") rfl rfl (ev_str (l := []) rfl) (by rw [List.length_map]; omega) (ex_nil (ex_thaw (x := "encoded_body") rfl (ex_cons (ex_ret (ev_join (ts := pss.flatten ++ [[]]) (ev_var rfl) ((ev_var rfl).eq (by simp)) (join_ok ?_ (by omega)) (join_list _ _)) rfl)))))
        simp only [List.map_append, List.sum_append, List.length_append, List.map_cons, List.map_nil, List.length_nil, List.sum_cons, List.sum_nil, List.length_cons]; omega
      · rw [if_neg (of_decide_eq_false he), List.append_nil]
        exact ex_nil (ex_thaw (x := "encoded_body") rfl (ex_cons (ex_ret (ev_join (ts := pss.flatten) (ev_var rfl) (ev_var rfl) (join_ok (by omega) (by omega)) (join_list _ _)) rfl)))
end Mine
end
section
open PySem PySem.W PyProof.Rows PySem.Builtin.Str
namespace Mine
set_option maxRecDepth 100000 in
theorem refuses_call {w : World} {c : Cx} {X : List Addr} {σ : Store} {s : Shared} {vs : List Value} (hA : c.A.frames = some [c.env]) (hfm : c.env.frame = some c.env.locals) (hK : c.K = KK w) (hlv : 2 ≤ c.lv)
    {text eol : List Nat} {lim : Int} (hlim : lim < 4) (R : Rel c X σ s) (r : RepAll s.heap X vs [.str text, .int lim, .str eol]) :
    wpAny (model PG w) c.A (call (.ref 94) vs) (fun v s' => v = .bool true ∧ Rel c X σ s') (fun _ _ => False) s := by
  obtain ⟨v1, v2, v3, rfl⟩ := len3 r.length
  have hdep := R.ok.dep
  have hun := R.ok.un
  have bs : Bs (KK w) s.heap := hK ▸ R.bs
  obtain ⟨p, l, mg, mb, T⟩ := bs.t
  refine wpAny_call (codeAny_call_def (by omega) (bs.k 94 _ rfl) rfl T.nolimit (codeRec_of bs.k rfl) rfl (BindsTo.of_eq (binds := [(Str.ofString "text", v1), (Str.ofString "limit", v2), (Str.ofString "eol", v3)]) rfl) (by decide) (locs rfl) (fun h₁ n₁ k₁ => ?_) rfl rfl rfl)
  refine wpAny_mono (Q := fun fl s' => fl = .ret (.bool true) ∧ Rel c X σ s') (E := fun _ _ => False) ?_ (fun fl s' y => by obtain ⟨rfl, h⟩ := y; exact ⟨rfl, h⟩) (fun _ _ f => f.elim)
  refine enter_do (K := KK w) (n := 1) (names := ["text", "limit", "eol"]) R.gens rfl k₁ R.hasX r rfl (by decide) rfl n₁ ⟨rfl, rfl, rfl, bs, R.ok.hd, (show c.A.depth + 1 + 1 < recursionLimit by omega), (show c.A.units + 3 + 3 * 1 + 80 < cLine by omega), R.hasX⟩ fun R1 => ?_
  refine wpAny_execs_cons (wpAny_Try_except ?_)
  refine wpAny_execs_cons (wpAny_Expr (callN R1 (evV_glob rfl rfl) (evall_cons (ev_var rfl) (evall_cons (ev_var rfl) (evall_cons (ev_var rfl) evall_nil))) rfl rfl ⟨_, _, rfl⟩ fun vs' s₃ g₃ R3 r3 => ?_) rfl rfl)
  have bs3 : Bs (KK w) s₃.heap := R3.bs
  obtain ⟨u1, u2, u3, rfl⟩ := len3 r3.length
  obtain ⟨p3, l3, mg3, mb3, T3⟩ := bs3.t
  refine wpAny_call (codeAny_call_def (show c.A.depth + 1 < recursionLimit by omega) (bs3.k 57 _ rfl) rfl T3.nolimit (codeRec_of bs3.k rfl) rfl (BindsTo.of_defaults (binds := [(Str.ofString "body", u1), (Str.ofString "maxlinelen", u2), (Str.ofString "eol", u3)]) rfl (bs3.k 50 _ rfl) rfl rfl rfl) (by decide) (locs rfl) (fun h₂ n₂ k₂ => ?_) rfl rfl rfl)
  refine enter_do (K := KK w) (n := 0) (names := ["body", "maxlinelen", "eol"]) R3.gens rfl k₂ R3.hasX r3 rfl (by decide) rfl n₂ ⟨rfl, rfl, rfl, bs3, R.ok.hd, (show c.A.depth + 1 + 1 + 0 < recursionLimit by omega), (show c.A.units + 3 + 3 + 3 * 0 + 80 < cLine by omega), R3.hasX⟩ fun R4 => ?_
  refine wpAny_execs_cons (wpAny_If (((evb_cmp (ev_var rfl) ev_int cmp_lt_int).eq (decide_eq_true hlim)).use R4 fun s₅ g₅ R5 => ?_))
  refine wpAny_execs_cons (Raise_madeB PySem.F.excCall_ValueError PySem.F.excRaise_ValueError R.ok.hd ((evV_blt rfl rfl rfl).use R5 fun s₆ g₆ R6 => ⟨rfl, (evall_cons (ev_str rfl) evall_nil).use R6 fun vs7 s₇ g₇ R7 r7 => ⟨by rw [r7.length]; decide, fun h' e hx => ?_⟩⟩))
  have hL0 : c.h₀.get? c.env.locals = none := R.newL
  obtain ⟨m0, hm0, -⟩ := R.ns
  have stB : (hideAll s.heap [c.env.locals]).StaysIn s.heap := fun b o q => of_hideAll _ q
  have bsB : Bs (KK w) (hideAll s.heap [c.env.locals]) := (hK ▸ R.ok.bs).keep fun b o q => hideAll_get _ (R.keep b o q) (by
    intro hm
    rw [List.mem_singleton] at hm
    subst hm
    rw [hL0] at q; cases q)
  have K0 : Below c.A (hideAll s.heap [c.env.locals]) [c.env] s.heap := by
    refine ⟨hA, stB, ?_⟩
    show _ ∧ _ ∧ _
    refine ⟨?_, ?_, trivial⟩
    · rw [R.ok.kind]; intro z; cases z
    · obtain ⟨o, es, ep, ho, hd, _⟩ := hm0
      exact ⟨c.env.locals, o, hfm, hideAll_none _ (.head _), ho, fun vs z => by rw [hd] at z; cases z⟩
  obtain ⟨m3, hm3, -⟩ := R3.ns
  obtain ⟨m7, hm7, -⟩ := R7.ns
  have F1 : Fr s.heap s.heap.objs.size s₃.heap m3 := ⟨hm3, R3.keep, Nat.le_refl _⟩
  have F2 : Fr s₃.heap s₃.heap.objs.size s₇.heap m7 := ⟨hm7, R7.keep, Nat.le_refl _⟩
  refine leave_madeW (name := "body_encode") (a := 57) (K0.push (name := "_law_refuses") (a := 94) F1 rfl) hx.of F2 (fun h₈ t fl tup hnew up => ?_) rfl
  show wpAny _ _ (noteFrame _ _) _ _ _
  refine wpAny_looks_onW (Around.frames_deeper hA) rfl fl fun h₉ held up₉ => ?_
  refine wpAny_landsW held fun h₁₀ fl₁₀ up₁₀ => ?_
  obtain ⟨ob, hob, hobc⟩ := fl₁₀.there
  obtain ⟨pB, lB, mgB, mbB, TB⟩ := (bsB.keep fl₁₀.1).t
  refine wpAny_handleBy_builtin (X := "ValueError") (T := "ValueError") (b := true) PySem.F.isExc_ValueError PySem.F.notTuple_ValueError (by rw [isSubtype_type]; kernel_rfl) ?_
  refine wpAny_Name (load_blt (c := ⟨KK w, callEnv _ s.heap.objs.size 94, s.heap, X, c.A, 0, s.os⟩) rfl rfl rfl rfl TB.g (mg_none_of (bsB.keep fl₁₀.1).k TB.g rfl) TB.b ((TB.builtins _ (by decide)).trans rfl) ⟨rfl, ⟨ob, hob, hobc⟩, ?_⟩) rfl
  refine lands_againW fl₁₀ fun h₁₁ fl₁₁ up₁₁ => ?_
  refine wpAny_execs_cons (wpAny_Return_some (Constant_bool ?_))
  refine ⟨rfl, R.slots R7.gens ((R7.os.trans g₃.os)) (fun b o hne hb => fl₁₁.1 b o (hideAll_get _ hb (by rw [List.mem_singleton]; exact hne))) ?_⟩
  exact ((((Heap.UpToSlots.of_keeps R3.keep).trans up).trans up₉).trans up₁₀).trans up₁₁
end Mine
end
section
open PySem PySem.W PyProof.Rows PySem.Builtin.Str
namespace Mine
theorem jn_nil : ∀ ts : List (List Nat), jn [] ts = ts.flatten
  | [] => rfl
  | [a] => by simp [jn]
  | a :: b :: r => by rw [jn, jn_nil (b :: r)]; simp
theorem due1_b (o : Nat) : (((o : Int) == 9) || ((decide ((32 : Int) ≤ o) && decide ((o : Int) ≤ 126)) && ((o : Int) != 61))) = decide (due1 o = 1) := by
  unfold due1
  by_cases h : o = 9 ∨ (32 ≤ o ∧ o ≤ 126) ∧ o ≠ 61
  · rw [if_pos h]
    simp only [Bool.or_eq_true, Bool.and_eq_true, beq_iff_eq, bne_iff_ne, decide_eq_true_eq, decide_true]
    omega
  · rw [if_neg h]
    rw [show decide ((3 : Nat) = 1) = false from rfl]
    rw [← Bool.not_eq_true]
    simp only [Bool.or_eq_true, Bool.and_eq_true, beq_iff_eq, bne_iff_ne, decide_eq_true_eq]
    omega
theorem on_eq (q : Rw) : (q.held == [61]) = q.on := by rw [Bool.eq_iff_iff]; simp [Rw.on]
theorem due1_cases (o : Nat) : due1 o = 1 ∨ due1 o = 3 := by unfold due1; split <;> simp
theorem due_len (r : Rw) : (due r).length = r.ws.length := by unfold due; split <;> simp
theorem flat_ones (ws : List (Nat × Nat)) : (ws.map fun p => [p.1]).flatten = ws.map (·.1) := by
  induction ws with
  | nil => rfl
  | cons a r ih => simp [ih]
theorem ahead_some {rs : List Rw} {i : Nat} (h : aheadOf rs i ≠ []) : ∃ q, prevOf rs i = some q ∧ q.held = [61] ∧ aheadOf rs i = q.t ∧ 0 < i ∧ rs[i - 1]? = some q := by
  unfold aheadOf at *
  cases i with
  | zero => exact absurd rfl h
  | succ i =>
    cases hq : rs[i]? with
    | none => rw [prevOf, hq] at h; exact absurd rfl h
    | some q =>
      rw [prevOf, hq] at h ⊢
      simp only [Rw.ah] at h ⊢
      by_cases hh : q.held = [61]
      · exact ⟨q, rfl, hh, by rw [if_pos hh], Nat.succ_pos _, hq⟩
      · rw [if_neg hh] at h; exact absurd rfl h

set_option maxHeartbeats 1000000 in
set_option maxRecDepth 100000 in
theorem rows_fn (w : World) (lim : Nat) (rs : List Rw) (hok : ∀ i r, rs[i]? = some r → RowOk lim (prevOf rs i) r) (hlast : aheadOf rs rs.length = []) (hz : rs.length ≤ 10000) (hz1 : ∀ r ∈ rs, r.t.length ≤ 10000) :
    Fn PG w (KK w) 82 2 [.lst ((rs.map Rw.t).map .str), .int lim] (.lst (rs.map Rw.D)) := by
  have big : 1000000 ≤ sizeLine := by decide
  refine fn_of (extra := []) (ds' := []) (names := ["rows", "limit"]) rfl rfl rfl rfl ?_ (fun _ _ => .nil) rfl (by decide) rfl (by decide) rfl rfl rfl rfl rfl ?_
  · intro s vs bs hl
    obtain ⟨v, u, rfl⟩ := len2 hl
    exact BindsTo.of_eq rfl
  · intro L h₀ X₀ A os ok
    refine ex_cons (ex_own evall_nil (by simp) fun r => ex_cons (ex_asg (ev_str (l := []) rfl) ?_))
    refine ex_cons (ex_strs (ts := rs.map Rw.t) (ev_var rfl)
      (fun i X τ => τ = [vO "read" r ((rs.take i).map Rw.D), vS "ahead" (aheadOf rs i), vI "limit" lim])
      (τ := [vO "read" r ((rs.take 0).map Rw.D), vS "ahead" (aheadOf rs 0), vI "limit" lim]) rfl (inc_cons rfl (inc_cons rfl (inc_cons rfl inc_nil))) ?_ ?_)
    · rintro i X τ t h rfl ht ok'
      obtain ⟨q, hq, rfl⟩ : ∃ q, rs[i]? = some q ∧ q.t = t := by
        rw [List.getElem?_map] at ht
        cases hq : rs[i]? with
        | none => rw [hq] at ht; cases ht
        | some q => rw [hq] at ht; exact ⟨q, rfl, Option.some.inj ht⟩
      have O := hok i q hq
      have htl := hz1 q (List.mem_of_getElem? hq)
      have hwl := TK_len O.tk
      have hil : i < rs.length := (List.getElem?_eq_some_iff.mp hq).1
      refine ex_cons (ex_unpack2 (ev_call (evV_glob rfl rfl) (Nat.le_refl 1) (evall_cons (ev_var rfl) evall_nil) (row_fn w q.t q.ws q.held O.tk (by omega)) rfl rfl ⟨_, _, rfl⟩) ?_)
      refine ex_cons (ex_comp (compP (fr := []) q.ws (fun p => .int (p.1 : Int)) (fun p => .int (p.2 : Int)) (fun p => .int (due1 p.1 : Int)) ((ev_var rfl).eq (congrArg D.lst (PL_map q.ws))) (by omega) (fun _ _ h => by cases h)
        (fun C acc p hp => ev_ite (b := decide (due1 p.1 = 1)) ((evb_or (evb_cmp (ev_var rfl) ev_int cmp_eq_int) (fun _ => evb_or1 (evb_and (evb_chain ev_int (ev_var rfl) ev_int cmp_le_int cmp_le_int) (fun _ => evb_and1 (evb_cmp (ev_var rfl) ev_int cmp_ne_int))))).eq (due1_b p.1))
          (fun hb => by rw [of_decide_eq_true hb]; exact ev_int) (fun hb => by rw [(due1_cases p.1).resolve_left (of_decide_eq_false hb)]; exact ev_int))) fun rd => ?_)
      have hdl : (q.ws.map fun p => D.int (due1 p.1 : Int)).length = q.ws.length := by rw [List.length_map]
      refine ex_cons (ex1_mono (Q := fun o => match o with
        | .next X σ => Inc [vO "due" rd (q.ws.map fun p => D.int (due1 p.1 : Int)), vS "held" q.held, vV "pairs" (.lst (PL q.ws)), vS "row" q.t, vO "read" r ((rs.take i).map Rw.D), vI "limit" lim] σ
        | _ => False) ?_ ?_)
      · by_cases ha : aheadOf rs i = []
        · refine ex_if (v := false) ((evb_and (b' := false) (evb_cmp (ev_var rfl) (ev_str (l := []) rfl) cmp_ne_str) (fun he => by rw [ha] at he; cases he)).eq (by rw [Bool.and_false])) (fun he => by cases he) (fun _ => ex_cons ?_)
          refine ex_if (v := false) ((evb_cmp (ev_var rfl) (ev_str (l := []) rfl) cmp_ne_str).eq (by rw [ha]; rfl)) (fun he => by cases he) (fun _ => ex_nil (ex_nil ?_))
          exact inc_cons rfl (inc_cons rfl (inc_cons rfl (inc_cons rfl (inc_cons rfl (inc_cons rfl inc_nil)))))
        · obtain ⟨pq, hp1, hp2, hp3, hi0, hp4⟩ := ahead_some ha
          have hane : (aheadOf rs i != []) = true := by simpa using ha
          have hal : (aheadOf rs i).length ≤ 10000 := by rw [hp3]; exact hz1 pq (List.mem_of_getElem? hp4)
          have hptp0 : 0 < pq.t.length := List.length_pos_iff.mpr (hp3 ▸ ha)
          by_cases hw : q.ws = []
          · obtain ⟨g1, g2, g3, g4⟩ := O.void pq hp1 hp2 hw
            have hpt : pq.text ≠ [] := by unfold Rw.text; simpa using g3
            have hptl : pq.text.length ≤ 10000 := by
              have h1 := TK_len (hok (i - 1) pq hp4).tk
              have h2 := hz1 pq (List.mem_of_getElem? hp4)
              unfold Rw.text; rw [List.length_map]; omega
            have hptp : 0 < pq.text.length := List.length_pos_iff.mpr hpt
            have hrl : ((rs.take i).map Rw.D).length = i := by rw [List.length_map, List.length_take]; omega
            refine ex_if (v := true) ((evb_and (evb_cmp (ev_var rfl) (ev_str (l := []) rfl) cmp_ne_str) (fun _ => evb_and1 (evb_cmp (ev_var rfl) (ev_list evall_nil (by simp)) cmp_eq_nil))).eq (by rw [hane, hw]; rfl)) (fun _ => ex_cons ?_) (fun he => by cases he)
            refine ex_if (v := false) ((evb_or (evb_cmp (ev_var rfl) (ev_str (l := []) rfl) cmp_ne_str) (fun _ => evb_or (evb_cmp (ev_len_str (evV_blt rfl rfl rfl) (ev_var rfl) (by omega)) (ev_var rfl) cmp_lt_int) (fun _ => evb_or1 (evb_cmp
              (ev_item_str (n := pq.text.getLastD 0) (ev_item_tup (n := 0) (ds := [.str pq.text, .bool pq.on]) (ev_item_own rfl (ev_neg ev_int) (by rw [hrl]; omega) (by rw [hrl]; omega) (by rw [hrl]; omega) ?_) ev_int (by decide) (by decide) rfl rfl) (ev_neg ev_int) (by omega) (by omega) (by omega) (last_get hpt)) (ev_str (l := [32, 9]) rfl) cmp_notIn_str)))).eq ?_) (fun he => by cases he) (fun _ => ex_nil (ex_nil ?_))
            · rw [hrl, if_pos (by decide), show (-1 + (i : Int)).toNat = i - 1 by omega, List.getElem?_map, List.getElem?_take, if_pos (by omega), hp4]; rfl
            · rw [has_one, g1, show decide (pq.text.getLastD 0 ∈ [32, 9]) = true from decide_eq_true (by simpa using g4), hp3]
              simp; omega
            · exact inc_cons rfl (inc_cons rfl (inc_cons rfl (inc_cons rfl (inc_cons rfl (inc_cons rfl inc_nil)))))
          · obtain ⟨p0, ws', hws⟩ : ∃ p ws', q.ws = p :: ws' := by cases h : q.ws with | nil => exact absurd h hw | cons p ws' => exact ⟨p, ws', rfl⟩
            obtain ⟨g1, g2⟩ := O.full pq hp1 hp2 p0 ws' hws
            refine ex_if (v := false) ((evb_and (evb_cmp (ev_var rfl) (ev_str (l := []) rfl) cmp_ne_str) (fun _ => evb_and1 (evb_cmp (ev_var rfl) (ev_list evall_nil (by simp)) cmp_eq_nil))).eq (by rw [hws]; simp)) (fun he => by cases he) (fun _ => ex_cons ?_)
            refine ex_if (v := true) ((evb_cmp (ev_var rfl) (ev_str (l := []) rfl) cmp_ne_str).eq hane) (fun _ => ex_cons ?_) (fun he => by cases he)
            refine ex_if (v := false) ((evb_or (evb_cmp (ev_add (ev_len_str (evV_blt rfl rfl rfl) (ev_var rfl) (by omega)) (ev_item_own (d := .int (due1 p0.1 : Int)) rfl ev_int (by omega) (by rw [hdl, hws]; simp <;> omega) (by omega) (by rw [hws]; rfl))) (ev_var rfl) cmp_le_int)
              (fun _ => evb_or1 (evb_and (evb_cmp (ev_var rfl) (ev_str (l := []) rfl) cmp_eq_str) (fun _ => evb_and1 (evb_cmp (ev_add (ev_sub (ev_len_str (evV_blt rfl rfl rfl) (ev_var rfl) (by omega)) ev_int) (ev_len_str (evV_blt rfl rfl rfl) (ev_var rfl) (by omega))) (ev_var rfl) cmp_le_int))))).eq ?_) (fun he => by cases he) (fun _ => ex_nil (ex_nil (ex_nil ?_)))
            · rw [hp3, decide_eq_false (by omega), Bool.false_or]
              rcases O.held with hh | hh
              · have := g2 hh
                rw [hh, decide_eq_false (by omega)]; simp
              · rw [hh]; rfl
            · exact inc_cons rfl (inc_cons rfl (inc_cons rfl (inc_cons rfl (inc_cons rfl (inc_cons rfl inc_nil)))))
      · intro o ho
        cases o with
        | brk _ _ => exact ho.elim
        | ret _ => exact ho.elim
        | cont _ _ => exact ho.elim
        | next X σ =>
          refine ex_inc ho ?_
          have hlastw : ∀ hne : q.ws ≠ [], (PL q.ws)[(if (-1 : Int) < 0 then -1 + ((PL q.ws).length : Int) else -1).toNat]? = some (.tup [.int (q.text.getLastD 0 : Int), .int ((q.ws.getLast hne).2 : Int)]) := fun hne => by
            have hp : 0 < q.ws.length := List.length_pos_iff.mpr hne
            rw [PL_len, if_pos (by decide), show (-1 + (q.ws.length : Int)).toNat = q.ws.length - 1 by omega, PL_map, List.getElem?_map, ← List.getLast?_eq_getElem?, List.getLast?_eq_some_getLast hne, Rw.text, List.getLastD_eq_getLast?, List.getLast?_map, List.getLast?_eq_some_getLast hne]
            rfl
          have hdueD : ∀ (l : List Nat), l.map (fun (n : Nat) => D.int (n : Int)) = (l.map fun (n : Nat) => (n : Int)).map D.int := fun l => by rw [List.map_map]; rfl
          have hdm : (q.ws.map fun p => D.int (due1 p.1 : Int)) = ((q.ws.map fun p => due1 p.1).map fun (n : Nat) => D.int (n : Int)) := by rw [List.map_map]; rfl
          refine ex_cons (ex1_mono (Q := fun o => match o with
            | .next X σ => Inc [vO "due" rd ((due q).map fun (n : Nat) => D.int (n : Int)), vS "held" q.held, vV "pairs" (.lst (PL q.ws)), vS "row" q.t, vO "read" r ((rs.take i).map Rw.D), vI "limit" lim] σ
            | _ => False) ?_ ?_)
          · by_cases hc : q.held = [] ∧ q.ws ≠ [] ∧ (q.text.getLastD 0 = 9 ∨ q.text.getLastD 0 = 32)
            · have hp : 0 < q.ws.length := List.length_pos_iff.mpr hc.2.1
              refine ex_if (v := true) ((evb_and (evb_cmp (ev_var rfl) (ev_str (l := []) rfl) cmp_eq_str) (fun _ => evb_and (evb_cmp (ev_var rfl) (ev_list evall_nil (by simp)) cmp_ne_nil) (fun _ => evb_and1 (evb_cmp (ev_item_tup (n := 0) (ev_item_lst (ev_var rfl) (ev_neg ev_int) (by rw [PL_len]; omega) (by rw [PL_len]; omega) (by rw [PL_len]; omega) (hlastw hc.2.1)) ev_int (by decide) (by decide) rfl rfl) (ev_tuple (ds := [9, 32].map .int) (evall_cons ev_int (evall_cons ev_int evall_nil)) (by simp <;> omega)) cmp_in_ints)))).eq ?_) (fun _ => ?_) (fun he => by cases he)
              · rw [hc.1]
                have h1 : q.ws.isEmpty = false := by cases h : q.ws with | nil => exact absurd h hc.2.1 | cons _ _ => rfl
                have h2 : ([9, 32] : List Int).any (· == (q.text.getLastD 0 : Int)) = true := by
                  rcases hc.2.2 with h | h <;> rw [h] <;> rfl
                rw [h2]
                simp [hc.2.1]
              · refine ex_cons (ex_setneg rfl (ev_neg ev_int) ev_int (by omega) (by rw [hdl]; omega) (by omega) (ex_nil ?_))
                refine inc_cons ?_ (inc_cons rfl (inc_cons rfl (inc_cons rfl (inc_cons rfl (inc_cons rfl inc_nil)))))
                unfold due
                rw [if_pos hc, List.map_set, ← hdm, ← show (-1 + ((q.ws.map fun p => D.int (due1 p.1 : Int)).length : Int)).toNat = q.ws.length - 1 by rw [hdl]; omega]
                rfl
            · refine ex_if (v := false) ?_ (fun he => by cases he) (fun _ => ex_nil ?_)
              · by_cases h1 : q.held = []
                · by_cases h2 : q.ws = []
                  · exact (evb_and (evb_cmp (ev_var rfl) (ev_str (l := []) rfl) cmp_eq_str) (fun _ => evb_and (b' := false) (evb_cmp (ev_var rfl) (ev_list evall_nil (by simp)) cmp_ne_nil) (fun he => by rw [h2] at he; cases he))).eq (by rw [Bool.and_false, Bool.and_false])
                  · have hp : 0 < q.ws.length := List.length_pos_iff.mpr h2
                    refine (evb_and (evb_cmp (ev_var rfl) (ev_str (l := []) rfl) cmp_eq_str) (fun _ => evb_and (evb_cmp (ev_var rfl) (ev_list evall_nil (by simp)) cmp_ne_nil) (fun _ => evb_and1 (evb_cmp (ev_item_tup (n := 0) (ev_item_lst (ev_var rfl) (ev_neg ev_int) (by rw [PL_len]; omega) (by rw [PL_len]; omega) (by rw [PL_len]; omega) (hlastw h2)) ev_int (by decide) (by decide) rfl rfl) (ev_tuple (ds := [9, 32].map .int) (evall_cons ev_int (evall_cons ev_int evall_nil)) (by simp <;> omega)) cmp_in_ints)))).eq ?_
                    have h3 : ([9, 32] : List Int).any (· == (q.text.getLastD 0 : Int)) = false := by
                      have h9 : q.text.getLastD 0 ≠ 9 := fun z => hc ⟨h1, h2, .inl z⟩
                      have h32 : q.text.getLastD 0 ≠ 32 := fun z => hc ⟨h1, h2, .inr z⟩
                      simp only [List.any_cons, List.any_nil, Bool.or_false, Bool.or_eq_false_iff, beq_eq_false_iff_ne]
                      omega
                    rw [h3, Bool.and_false, Bool.and_false]
                · exact (evb_and (b' := false) (evb_cmp (ev_var rfl) (ev_str (l := []) rfl) cmp_eq_str) (fun he => absurd (beq_iff_eq.mp he) h1)).eq (by rw [Bool.and_false])
              · refine inc_cons ?_ (inc_cons rfl (inc_cons rfl (inc_cons rfl (inc_cons rfl (inc_cons rfl inc_nil)))))
                unfold due
                rw [if_neg hc, ← hdm]
                rfl
          · intro o ho
            cases o with
            | brk _ _ => exact ho.elim
            | ret _ => exact ho.elim
            | cont _ _ => exact ho.elim
            | next X σ =>
              refine ex_inc ho (ex_thaw (x := "due") rfl ?_)
              have hdw : q.ws.map (fun p => D.int (p.2 : Int)) = (q.ws.map fun p => (p.2 : Int)).map D.int := by rw [List.map_map]; rfl
              have hww : (q.ws.map fun p => (p.2 : Int)) = (due q).map fun (n : Nat) => (n : Int) := by rw [← O.wid, List.map_map]; rfl
              refine ex_cons (ex_if (v := false) ((evb_or (evb_cmp ((ev_comp (compP (fr := []) q.ws (fun p => .int (p.1 : Int)) (fun p => .int (p.2 : Int)) (fun p => .int (p.2 : Int)) ((ev_var rfl).eq (congrArg D.lst (PL_map q.ws))) (by omega) (fun _ _ h => by cases h) (fun C acc p hp => ev_var rfl))).eq (congrArg D.lst hdw)) ((ev_var rfl).eq (congrArg D.lst (hdueD (due q)))) cmp_ne_ints)
                (fun _ => evb_or (evb_cmp (ev_len_str (evV_blt rfl rfl rfl) (ev_var rfl) (by omega)) (ev_var rfl) cmp_gt_int) (fun _ => evb_or1 (evb_cmp (ev_var rfl) (ev_tuple (ds := [[], [61]].map .str) (evall_cons (ev_str rfl) (evall_cons (ev_str rfl) evall_nil)) (by simp <;> omega)) cmp_notIn_strs)))).eq ?_) (fun he => by cases he) (fun _ => ex_nil ?_))
              · rw [decide_eq_true hww, decide_eq_false (by have := O.len; omega)]
                rcases O.held with hh | hh <;> rw [hh] <;> rfl
              · have hrl : ((rs.take i).map Rw.D).length ≤ sizeLine := by rw [List.length_map, List.length_take]; omega
                refine ex_cons (ex_append rfl (ev_tuple (ds := [.str q.text, .bool q.on]) (evall_cons ((ev_join (ts := q.ws.map fun p => [p.1]) (ev_str (l := []) rfl) ((ev_comp (compP (fr := []) q.ws (fun p => .int (p.1 : Int)) (fun p => .int (p.2 : Int)) (fun p => .str [p.1]) ((ev_var rfl).eq (congrArg D.lst (PL_map q.ws))) (by omega) (fun _ _ h => by cases h)
                    (fun C acc p hp => (ev_chr (evV_blt rfl rfl rfl) (ev_var rfl) (by omega) (by have := O.oct p hp; omega)).eq rfl))).eq (by rw [List.map_map]; rfl)) (join_ok ?_ (by simp)) (join_list _ _)).eq (by rw [jn_nil, flat_ones]; rfl))
                  (evall_cons ((ev_cmp (ev_var rfl) (ev_str (l := [61]) rfl) cmp_eq_str).eq ?_) evall_nil)) (by simp <;> omega)) hrl ?_)
                · have : (List.map List.length (q.ws.map fun p => [p.1])).sum = q.ws.length := by
                    rw [List.map_map]
                    generalize q.ws = ws
                    induction ws with
                    | nil => rfl
                    | cons a r ih => simp only [List.map_cons, List.sum_cons, ih, List.length_cons, Function.comp]; simp; omega
                  rw [this, List.length_map]; omega
                · exact congrArg D.bool (on_eq q)
                · refine ex_cons (ex_asg (ev_ite (b := q.on) ((evb_cmp (ev_var rfl) (ev_str (l := [61]) rfl) cmp_eq_str).eq ?_) (d := .str q.ah) (fun hb => ?_) (fun hb => ?_)) (ex_nil ⟨_, rfl, inc_cons ?_ (inc_cons ?_ (inc_cons rfl inc_nil))⟩))
                  · exact on_eq q
                  · rw [Rw.ah, if_pos (of_decide_eq_true hb)]; exact ev_var rfl
                  · rw [Rw.ah, if_neg (of_decide_eq_false hb)]; exact ev_str rfl
                  · rw [List.take_add_one, hq, List.map_append]; rfl
                  · rw [show aheadOf rs (i + 1) = q.ah by unfold aheadOf; rw [prevOf, hq]]; rfl
    · rintro X σ τ rfl hI
      refine ex_inc hI ?_
      rw [List.length_map, List.take_length, hlast]
      exact ex_thaw (x := "read") rfl (ex_cons (ex_ret (ev_ite (b := true) (evb_cmp (ev_var rfl) (ev_str (l := []) rfl) cmp_eq_str) (fun _ => ev_var rfl) (fun hb => by cases hb)) rfl))
end Mine
end
section
open PySem PySem.W PyProof.Rows PySem.Builtin.Str
namespace Mine
def sentX (sent eol : List Nat) : List Nat := if eol = [13, 10] ∧ sent.getLast? = some 13 then sent ++ [10] else sent
def toldB (rs : List Rw) (n : Nat) (mark : List Nat) : List Nat := ((rs.take n).map fun r => if r.on = true then r.text else r.text ++ mark).flatten
def tellF (sent mark told last held : List Nat) : List Nat :=
  if sent.getLast? = some 13 ∨ sent.getLast? = some 10 then told else if mark = [] then [] else if (last = [] ∨ held = [61]) ∧ mark <:+ told then told.take (told.length - mark.length) else told
theorem cut_m1n (l : List Nat) : cut l (some (-1)) none = l.getLast?.toList := by
  have := cut_kn l 1 (by decide)
  rw [show -((1 : Nat) : Int) = -1 from rfl] at this
  rw [this]
  rcases List.eq_nil_or_concat l with rfl | ⟨p, a, rfl⟩
  · rfl
  · simp
theorem le_sum : ∀ {l : List Nat} {a : Nat}, a ∈ l → a ≤ l.sum
  | b :: l, a, h => by
    rw [List.sum_cons]
    rcases List.mem_cons.mp h with rfl | h
    · omega
    · have := le_sum h
      omega
theorem ones_sum (ws : List (Nat × Nat)) : (List.map List.length (ws.map fun p => [p.1])).sum = ws.length := by
  induction ws with
  | nil => rfl
  | cons a r ih => simp only [List.map_cons, List.sum_cons, ih, List.length_cons]; simp; omega
theorem suf_cut {told mark : List Nat} : (told.drop (told.length - mark.length) = mark) ↔ mark <:+ told := by
  constructor
  · intro h
    exact ⟨told.take (told.length - mark.length), by conv => rhs; rw [← List.take_append_drop (told.length - mark.length) told, h]⟩
  · rintro ⟨p, rfl⟩
    simp

set_option maxHeartbeats 1000000 in
set_option maxRecDepth 100000 in
theorem told_fn (w : World) (sent eol mark : List Nat) (rs : List Rw) (ws : List (Nat × Nat)) (held : List Nat) (parts : List (List Nat)) (last : List Nat) (heol : eol ≠ []) (hparts : sp eol (sentX sent eol) 0 = parts) (hlast : parts.getLast? = some last)
    (hT : TK (rsB ([32, 9].contains ·) last) ws held) (hoct : ∀ p ∈ ws, p.1 < 256) (hheld : held.length ≤ 2)
    (z1 : sent.length ≤ 10000) (z2 : parts.length ≤ 10000) (z3 : rs.length ≤ 10000) (z4 : (rs.map fun r => r.text.length).sum ≤ 100000) (z5 : mark.length ≤ 10) (z6 : last.length ≤ 10000) (z7 : eol.length ≤ 10) :
    Fn PG w (KK w) 87 2 [.str sent, .lst (rs.map Rw.D), .str eol, .str mark] (.str (tellF sent mark (toldB rs (parts.length - 1) mark ++ ws.map (·.1) ++ (if held = [61] then [] else held)) last held)) := by
  have big : 1000000 ≤ sizeLine := by decide
  have hwl := TK_len hT
  have hrl : (rsB ([32, 9].contains ·) last).length ≤ 10000 := by unfold rsB; rw [List.length_take]; omega
  have hne : parts ≠ [] := by rintro rfl; cases hlast
  have hpl : 0 < parts.length := List.length_pos_iff.mpr hne
  refine fn_ofC (names := ["sent", "read", "eol", "mark"]) rfl rfl rfl rfl ?_ rfl rfl ?_ ?_ rfl rfl rfl rfl rfl ?_
  · intro vs hl
    obtain ⟨a, b, c, d, rfl⟩ := len4 hl
    rfl
  · intro L vs hl
    obtain ⟨a, b, c, d, rfl⟩ := len4 hl
    intro x hx
    simp only [List.zip_cons_cons, List.zip_nil_right, List.mem_cons, List.not_mem_nil, or_false] at hx
    rcases hx with rfl | rfl | rfl | rfl
    · exact .inl rfl
    · exact .inl rfl
    · exact .inl rfl
    · exact .inr ⟨rfl, rfl⟩
  · intro L vs hl
    obtain ⟨a, b, c, d, rfl⟩ := len4 hl
    intro i x v h1 h2
    match i, h1, h2 with
    | 0, h1, h2 => cases h1; cases h2; exact .inl ⟨rfl, rfl⟩
    | 1, h1, h2 => cases h1; cases h2; exact .inl ⟨rfl, rfl⟩
    | 2, h1, h2 => cases h1; cases h2; exact .inl ⟨rfl, rfl⟩
    | 3, h1, h2 => cases h1; cases h2; exact .inr ⟨rfl, ⟨_, rfl⟩, rfl⟩
    | k + 4, h1, h2 => cases h1
  · intro L h₀ X₀ A os s vs hl R _
    refine (show Ex PG w ⟨KK w, _, h₀, X₀, A, 1, os⟩ X₀ _ _ (fun o => o = .ret _) from ?_) s R
    have hlen1 : ∀ l : List Rw, (l.map fun r => r.text.length).sum ≤ 100000 → l.length ≤ 10000 → ((l.map fun r => if r.on = true then r.text else r.text ++ mark).map List.length).sum ≤ 100000 + 10 * l.length := by
      intro l h1 h2
      have : ((l.map fun r => if r.on = true then r.text else r.text ++ mark).map List.length).sum ≤ (l.map fun r => r.text.length).sum + 10 * l.length := by
        clear h1 h2
        induction l with
        | nil => simp
        | cons r l ih =>
          simp only [List.map_cons, List.sum_cons, List.length_cons]
          have : (if r.on = true then r.text else r.text ++ mark).length ≤ r.text.length + 10 := by split <;> simp <;> omega
          omega
      omega
    have htk : ((rs.take (parts.length - 1)).map fun r => r.text.length).sum ≤ 100000 := by
      refine Nat.le_trans ?_ z4
      conv => rhs; rw [← List.take_append_drop (parts.length - 1) rs, List.map_append, List.sum_append]
      omega
    have htl : (rs.take (parts.length - 1)).length ≤ 10000 := by rw [List.length_take]; omega
    have hj := hlen1 _ htk htl
    have htB : (toldB rs (parts.length - 1) mark).length ≤ 200000 := by
      unfold toldB
      rw [List.length_flatten]
      omega
    refine ex_cons (ex_asg (ev_split (ts := parts) (l := sentX sent eol) (ev_ite (b := decide (eol = [13, 10] ∧ sent.getLast? = some 13)) ((evb_and (evb_cmp (ev_var rfl) (ev_str (l := [13, 10]) rfl) cmp_eq_str) (fun _ => evb_and1 (evb_cmp (ev_cut (ev_var rfl) (.some (ev_neg ev_int)) .none (by omega)) (ev_str (l := [13]) rfl) cmp_eq_str))).eq ?_)
      (fun hb => (ev_cat (ev_var rfl) (ev_str (l := [10]) rfl) (by simp <;> omega)).eq (by rw [sentX, if_pos (of_decide_eq_true hb)])) (fun hb => (ev_var rfl).eq (by rw [sentX, if_neg (of_decide_eq_false hb)]))) (ev_var rfl) heol ?_ ?_ (by rw [split_all _ _ heol, hparts])) ?_)
    · rw [cut_m1n, Bool.eq_iff_iff]
      simp only [Bool.and_eq_true, beq_iff_eq, decide_eq_true_eq]
      cases sent.getLast? <;> simp
    · unfold sentX
      split
      · rw [List.length_append]; show sent.length + 1 ≤ sizeLine; omega
      · omega
    · have := congrArg List.length (parts_sp (sentX sent eol) eol heol)
      rw [List.length_map, hparts] at this
      rw [this]; omega
    · have hitem : ∀ (c : Cx) (X : List Addr) (σ : Store) (pos p1 p2 p3 : Pos) (k : Nat), List.lookup (Str.ofString "rows") σ = some (.val (.lst (parts.map .str))) → Ev PG w c X σ (.Subscript (.Name "rows" p1) (.UnaryOp .USub (.Constant (.int 1) k p2) p3) pos) (.str last) := by
        intro c X σ pos p1 p2 p3 k hs
        refine ev_item_lst (ev_var hs) (ev_neg ev_int) (by rw [List.length_map]; omega) (by rw [List.length_map]; omega) (by rw [List.length_map]; omega) ?_
        rw [List.length_map, if_pos (by decide), show (-1 + (parts.length : Int)).toNat = parts.length - 1 by omega, List.getElem?_map, ← List.getLast?_eq_getElem?, hlast]; rfl
      refine ex_cons (ex_unpack2 (ev_call (evV_glob rfl rfl) (Nat.le_refl 1) (evall_cons (ev_rstripChars (hitem _ _ _ _ _ _ _ _ rfl) (ev_str (l := [32, 9]) rfl) (by omega) (rstripChars_list _ _)) evall_nil) (row_fn w _ ws held hT (by omega)) rfl rfl ⟨_, _, rfl⟩) ?_)
      refine ex_cons (ex_asg ((ev_join (ts := (rs.take (parts.length - 1)).map fun r => if r.on = true then r.text else r.text ++ mark) (ev_str (l := []) rfl) ((ev_comp (compP (fr := [vS "mark" mark]) (rs.take (parts.length - 1)) (fun r => .str r.text) (fun r => .bool r.on) (fun r => .str (if r.on = true then r.text else r.text ++ mark))
          ((ev_cutL (ev_var rfl) .none (.some (ev_sub (ev_len_lst (evV_blt rfl rfl rfl) (ev_var rfl) (by rw [List.length_map]; omega)) ev_int)) (by rw [List.length_map]; omega)).eq ?_) (by omega)
          (fun z sl h => by
            rcases lookup_cons h with ⟨rfl, rfl⟩ | ⟨_, h⟩
            · exact ⟨⟨by decide, by decide⟩, rfl, rfl, rfl, rfl, _, rfl⟩
            · cases h)
          (fun C acc r hr => ev_ite (b := r.on) (evb_bool (ev_var rfl)) (fun hb => by rw [if_pos hb]; exact ev_var rfl) (fun hb => by
            rw [if_neg (by rw [hb]; simp)]
            refine ev_cat (ev_var rfl) (ev_var rfl) ?_
            have := le_sum (List.mem_map_of_mem (f := fun r : Rw => r.text.length) hr)
            omega)))).eq (by rw [List.map_map]; rfl)) (join_ok (by rw [List.length_map]; omega) (by simp)) (join_list _ _)).eq (d' := .str (toldB rs (parts.length - 1) mark)) (by rw [jn_nil]; rfl)) ?_)
      · rw [List.length_map, show (parts.length : Int) - 1 = ((parts.length - 1 : Nat) : Int) by omega, cut_b, ← List.map_take]; rfl
      · refine ex_cons (ex_asg (ev_cat (ev_cat (m := ws.map (·.1)) (ev_var rfl) ((ev_join (ts := ws.map fun p => [p.1]) (ev_str (l := []) rfl) ((ev_comp (compP (fr := []) ws (fun p => .int (p.1 : Int)) (fun p => .int (p.2 : Int)) (fun p => .str [p.1]) ((ev_var rfl).eq (congrArg D.lst (PL_map ws))) (by omega) (fun _ _ h => by cases h)
            (fun C acc p hp => (ev_chr (evV_blt rfl rfl rfl) (ev_var rfl) (by omega) (by have := hoct p hp; omega)).eq rfl))).eq (by rw [List.map_map]; rfl)) (join_ok (by rw [ones_sum, List.length_map]; omega) (by simp)) (join_list _ _)).eq (by rw [jn_nil, flat_ones])) (by rw [List.length_map]; omega))
          (m := if held = [61] then [] else held) (ev_ite (b := decide (held = [61])) ((evb_cmp (ev_var rfl) (ev_str (l := [61]) rfl) cmp_eq_str).eq (by rw [Bool.eq_iff_iff]; simp)) (fun hb => by rw [if_pos (of_decide_eq_true hb)]; exact ev_str rfl) (fun hb => by rw [if_neg (of_decide_eq_false hb)]; exact ev_var rfl)) ?_) ?_)
        · rw [List.length_append, List.length_map]
          have : (if held = [61] then [] else held : List Nat).length ≤ 2 := by split <;> (try simp) <;> omega
          omega
        · have htold : (toldB rs (parts.length - 1) mark ++ ws.map (·.1) ++ (if held = [61] then [] else held)).length ≤ 900000 := by
            rw [List.length_append, List.length_append, List.length_map]
            have : (if held = [61] then [] else held : List Nat).length ≤ 2 := by split <;> (try simp) <;> omega
            omega
          generalize toldB rs (parts.length - 1) mark ++ ws.map (·.1) ++ (if held = [61] then [] else held) = told at *
          refine ex_cons (ex_if (v := decide (sent.getLast? = some 13 ∨ sent.getLast? = some 10)) ((evb_cmp (ev_cut (ev_var rfl) (.some (ev_neg ev_int)) .none (by omega)) (ev_tuple (ds := [[13], [10]].map .str) (evall_cons (ev_str rfl) (evall_cons (ev_str rfl) evall_nil)) (by simp <;> omega)) cmp_in_strs).eq ?_) (fun hb => ?_) (fun hb => ex_nil ?_))
          · rw [cut_m1n, Bool.eq_iff_iff]
            simp only [List.any_cons, List.any_nil, Bool.or_false, Bool.or_eq_true, beq_iff_eq, decide_eq_true_eq]
            cases sent.getLast? <;> simp [eq_comm]
          · refine ex_cons (ex_ret (ev_var rfl) ?_)
            show Out.ret _ = Out.ret _
            rw [tellF, if_pos (of_decide_eq_true hb)]
          · refine ex_cons (ex_if (v := decide (mark = [])) ((evb_cmp (ev_var rfl) (ev_str (l := []) rfl) cmp_eq_str).eq (by rw [Bool.eq_iff_iff]; simp)) (fun hm => ?_) (fun hm => ex_nil ?_))
            · refine ex_cons (ex_ret (ev_str (l := []) rfl) ?_)
              show Out.ret _ = Out.ret _
              rw [tellF, if_neg (of_decide_eq_false hb), if_pos (of_decide_eq_true hm)]
            · have hm0 := of_decide_eq_false hm
              have hmp : 0 < mark.length := List.length_pos_iff.mpr hm0
              refine ex_cons (ex_if (v := decide ((last = [] ∨ held = [61]) ∧ mark <:+ told)) ((evb_and (evb_or (evb_cmp (hitem _ _ _ _ _ _ _ _ rfl) (ev_str (l := []) rfl) cmp_eq_str) (fun _ => evb_or1 (evb_cmp (ev_var rfl) (ev_str (l := [61]) rfl) cmp_eq_str)))
                (fun _ => evb_and1 (evb_cmp (ev_cut (ev_var rfl) (.some (ev_neg (ev_len_str (evV_blt rfl rfl rfl) (ev_var rfl) (by omega)))) .none (by omega)) (ev_var rfl) cmp_eq_str))).eq ?_) (fun hc => ?_) (fun hc => ex_nil ?_))
              · rw [cut_kn _ _ hmp, Bool.eq_iff_iff]
                simp only [Bool.and_eq_true, Bool.or_eq_true, beq_iff_eq, decide_eq_true_eq, suf_cut]
              · refine ex_cons (ex_ret ((ev_cut (ev_var rfl) .none (.some (ev_neg (ev_len_str (evV_blt rfl rfl rfl) (ev_var rfl) (by omega)))) (by omega)).eq (congrArg D.str (cut_nk _ _ hmp))) ?_)
                show Out.ret _ = Out.ret _
                rw [tellF, if_neg (of_decide_eq_false hb), if_neg hm0, if_pos (of_decide_eq_true hc)]
              · refine ex_cons (ex_ret (ev_var rfl) ?_)
                show Out.ret _ = Out.ret _
                rw [tellF, if_neg (of_decide_eq_false hb), if_neg hm0, if_neg (of_decide_eq_false hc)]
end Mine
end
section
open PySem PySem.W PyProof.Rows PySem.Builtin.Str
namespace Mine
section
variable {prog : Program} {w : World} {c : Cx} {X : List Addr} {σ : Store} {s : Shared}
theorem Rel.storeCell {x : Str} {d : D} {v : Value} {h' : Heap} {tk : Nat} {cc : Addr} (R : Rel c X σ s) (hx : c.env.kindOf x = some .cell) (hcc : c.env.cells.lookup x = some cc) {v₀ : Option Value} (hcell : s.heap.IsCell cc v₀) (h0 : c.h₀.get? cc = none)
    (hσ : ∀ y sl, σ.lookup y = some sl → c.env.kindOf y = some .local ∧ ∃ d, sl = .val d) (r : Rep s.heap X v d) (hc' : h'.IsCell cc (some v)) (sb : Heap.SameBut cc s.heap h') :
    Rel c X ((x, .val d) :: σ) { s with heap := h', toks := tk } := by
  obtain ⟨m, n, q⟩ := R.ns
  obtain ⟨oc, hoc, hdc⟩ := hcell
  have k : KpBut cc s.heap h' := KpBut.same sb
  have off : Off s.heap X cc := by
    refine ⟨fun vs t => ?_, fun vs t => ?_⟩
    · obtain ⟨o', ho', _, k', hd'⟩ := t
      rw [hoc] at ho'; cases ho'; rw [hdc] at hd'; cases hd'
    · obtain ⟨o', ho', _, k', hd'⟩ := t
      rw [hoc] at ho'; cases ho'; rw [hdc] at hd'; cases hd'
  have hl : ∀ r, (∃ vs, s.heap.IsList r vs) → r ≠ cc := fun r ⟨vs, z⟩ e => by
    subst e
    obtain ⟨o, ho, _, n1, hd⟩ := z
    rw [hoc] at ho; cases ho; rw [hdc] at hd; cases hd
  have hne : c.env.locals ≠ cc := fun e => by
    obtain ⟨o, es, ep, ho, hd, _⟩ := n
    rw [e, hoc] at ho; cases ho; rw [hdc] at hd; cases hd
  refine ⟨R.ok, R.gens, R.os, fun b o e => k b o (by rintro rfl; rw [h0] at e; cases e) (R.keep b o e), R.newL, R.subX,
    fun r hr => let ⟨vs, z⟩ := R.hasX r hr; ⟨vs, k.list z (hl r ⟨vs, z⟩)⟩, uniq_val R.uniq, m, n.sameBut sb hne, fun y sl' e => ?_⟩
  rcases lookup_cons e with ⟨rfl, rfl⟩ | ⟨_, e⟩
  · obtain ⟨o, ho, hd⟩ := hc'
    refine ⟨v, ?_, Rep.but k off r⟩
    unfold Has
    rw [hx]
    exact ⟨cc, o, hcc, ho, hd⟩
  · obtain ⟨u, p, z⟩ := q y sl' e
    obtain ⟨h1, d', rfl⟩ := hσ y sl' e
    refine ⟨u, ?_, Rep.but k off z⟩
    unfold Has at p ⊢
    rw [h1] at p ⊢
    exact p
theorem do_cell {x : Str} {e : Expr} {np pos : Pos} {d : D} {rest : List Stmt} {Q : Flow → Shared → Prop} {E : Value → Shared → Prop} (R : Rel c X σ s) (B : Bare c x s) (y : Ev prog w c X σ e d) (hx : c.env.kindOf x = some .cell)
    (hσ : ∀ y sl, σ.lookup y = some sl → c.env.kindOf y = some .local ∧ ∃ d, sl = .val d)
    (hs : swapsWith e (some (.Name x np)) pos.line c.env = pure false)
    (h : ∀ s', Rel c X ((x, .val d) :: σ) s' → wpAny (model prog w) c.A (execs rest c.env) Q E s') :
    wpAny (model prog w) c.A (execs (.Assign [.Name x np] e pos :: rest) c.env) Q E s := by
  obtain ⟨cc, h1, h2, h3⟩ := B
  refine wpAny_execs_cons (wpAny_Assign_Name (y.use R fun v s₁ k₁ R₁ r₁ => ?_) hs)
  exact wpAny_storeName_cell R.ok.kind hx h1 (h2.keeps k₁.kp) fun h' hc' sb => h _ (R₁.storeCell (tk := s₁.toks) hx h1 (h2.keeps k₁.kp) h3 hσ r₁ hc' sb)
def ExB (prog : Program) (w : World) (c : Cx) (X : List Addr) (σ : Store) (x : Str) (body : List Stmt) (P : Out → Prop) : Prop :=
  ∀ s, Rel c X σ s → Bare c x s → wpAny (model prog w) c.A (execs body c.env) (fun fl s' => ∃ o, OutR c fl s' o ∧ P o) (fun _ _ => False) s
theorem exb_cons {x : Str} {e : Expr} {np pos : Pos} {d : D} {rest : List Stmt} {P : Out → Prop} (y : Ev prog w c X σ e d) (hx : c.env.kindOf x = some .cell)
    (hσ : ∀ y sl, σ.lookup y = some sl → c.env.kindOf y = some .local ∧ ∃ d, sl = .val d)
    (hs : swapsWith e (some (.Name x np)) pos.line c.env = pure false) (h : Ex prog w c X ((x, .val d) :: σ) rest P) : ExB prog w c X σ x (.Assign [.Name x np] e pos :: rest) P :=
  fun _ R B => do_cell R B y hx hσ hs fun s' R' => h s' R'
theorem exb_at {x : Str} {body : List Stmt} {P : Out → Prop} (R : Rel c X σ s) (B : Bare c x s) (e : ExB prog w c X σ x body P) : wpAny (model prog w) c.A (execs body c.env) (fun fl s' => ∃ o, OutR c fl s' o ∧ P o) (fun _ _ => False) s := e s R B
theorem fn_ofB {K : Frag} {a : Addr} {n : Nat} {o : Obj} {fd : FuncData} {body : List Stmt} {names : List Str} {ds : List D} {d : D}
    (ho : K.lookup a = some o) (hdat : o.data = .func fd) (hcd : codeIn K fd.code fd.qualname = true) (hbody : fd.body = .stmts body)
    (hbind : ∀ vs : List Value, vs.length = ds.length → bindArgs fd ⟨vs, []⟩ = pure (names.zip vs)) (hlen : names.length = ds.length) (hclo : fd.closure = [])
    (hkind : ∀ (L : Addr) (vs : List Value), vs.length = ds.length → ∀ x ∈ names.zip vs, fd.scope.names.lookup x.1 = some .local ∨ (fd.scope.names.lookup x.1 = some .cell ∧ ((cellsFrom (L + 1) fd.scope.names []).lookup x.1).isSome = true))
    (hval : ∀ (L : Addr) (vs : List Value), vs.length = ds.length → ∀ (i : Nat) (x : Str) (v : Value), names[i]? = some x → vs[i]? = some v →
      ((callEnvC fd L a).kindOf x = some .local ∧ bindL (callEnvC fd L a).kindOf (names.zip vs) (fun _ => none) x = some v) ∨
      ((callEnvC fd L a).kindOf x = some .cell ∧ (∃ cc, (callEnvC fd L a).cells.lookup x = some cc) ∧ bindC (callEnvC fd L a).kindOf (names.zip vs) (fun _ => none) x = some v))
    (hglob : fd.globals = mainGlobals) (hblt : fd.builtins = builtinsNs)
    (hco : fd.scope.isCoroutine = false) (hgen : fd.scope.isGenerator = false) (hk : fd.scope.kind = .function)
    {x : Str} (hb : ∀ (L : Addr) (vs : List Value), vs.length = ds.length → ∃ cc, (callEnvC fd L a).cells.lookup x = some cc ∧ bindC (callEnvC fd L a).kindOf (names.zip vs) (fun _ => none) x = none)
    (hex : ∀ (L : Addr) (h₀ : Heap) (X₀ : List Addr) (A : Around) (os : OsState), ExB prog w ⟨K, callEnvC fd L a, h₀, X₀, A, n, os⟩ X₀ (names.zip (ds.map Sl.val)) x body (fun o => o = .ret d)) : Fn prog w K a (n + 1) ds d :=
  fn_ofC ho hdat hcd hbody hbind hlen hclo hkind hval hglob hblt hco hgen hk fun L h₀ X₀ A os s vs hl R B => let ⟨cc, h1, h2⟩ := hb L vs hl; hex L h₀ X₀ A os s R (B x cc h1 h2)
def strC : Expr → Option Str
  | .Constant (.str x) _ _ => some x
  | _ => none
theorem strC_eq {e : Expr} {x : Str} (h : strC e = some x) : ∃ k p, e = .Constant (.str x) k p := by
  unfold strC at h
  split at h
  · cases h; exact ⟨_, _, rfl⟩
  · cases h
def strsOf : List Expr → List (List Nat) → Bool
  | [], [] => true
  | e :: es, t :: ts => strC e == some (S t) && strsOf es ts
  | _, _ => false
theorem evall_strs {pos : Pos} : ∀ {es : List Expr} {ts : List (List Nat)}, strsOf es ts = true → EvAll prog w c X σ pos es (ts.map .str)
  | [], [], _ => evall_nil
  | e :: es, t :: ts, h => by
    rw [strsOf, Bool.and_eq_true] at h
    obtain ⟨k, p, rfl⟩ := strC_eq (beq_iff_eq.mp h.1)
    exact evall_cons (ev_str rfl) (evall_strs h.2)
  | [], t :: ts, h => by cases h
  | e :: es, [], h => by cases h
end
def odds : List (List Nat) := [[32], [9], [13], [10], [61], [13, 10], [32, 10], [], [97, 98, 99, 100, 101, 102, 103], [61, 61, 61, 61, 61], [97, 32, 98, 9, 99, 32], [11, 160], [95, 46], [120, 121, 122], [9, 13], [61, 51, 68, 61, 10]]
def piece (n : Int) : List Nat := if n % 320 > 63 then [(n % 320 - 64).toNat] else odds.getD (n % 16).toNat []
theorem odds_ok : ∀ l ∈ odds, l.length ≤ 7 ∧ ∀ a ∈ l, a < 256 := by decide
theorem piece_ok (n : Int) : (piece n).length ≤ 7 ∧ ∀ a ∈ piece n, a < 256 := by
  unfold piece
  split
  · refine ⟨by simp, fun a ha => ?_⟩
    rw [List.mem_singleton] at ha
    omega
  · rw [List.getD_eq_getElem?_getD]
    cases h : odds[(n % 16).toNat]? with
    | none => exact ⟨by simp, by simp⟩
    | some l => exact odds_ok l (List.mem_of_getElem? h)
def bodyOf (ns : List Int) : List Nat := if ns = [] then [97, 61, 98, 99, 61, 100, 13, 10, 120, 32, 13, 120, 121, 32, 10, 120, 121, 122, 9] else ((ns.map piece).flatten).take 28
theorem body_ok (ns : List Int) : (bodyOf ns).length ≤ 28 ∧ ∀ a ∈ bodyOf ns, a < 256 := by
  unfold bodyOf
  split
  · decide
  · refine ⟨by rw [List.length_take]; omega, fun a ha => ?_⟩
    obtain ⟨l, hl, ha⟩ := List.mem_flatten.mp (List.mem_of_mem_take ha)
    obtain ⟨n, _, rfl⟩ := List.mem_map.mp hl
    exact (piece_ok n).2 a ha

set_option maxHeartbeats 200000 in
set_option maxRecDepth 100000 in
theorem text_fn (w : World) (ns : List Int) (hz : ns.length ≤ 100) : Fn PG w (KK w) 70 1 [.lst (ns.map .int)] (.str (bodyOf ns)) := by
  have big : 1000000 ≤ sizeLine := by decide
  refine fn_ofB (names := ["numbers"]) (x := "odd") rfl rfl rfl rfl ?_ rfl rfl ?_ ?_ rfl rfl rfl rfl rfl ?_ ?_
  · intro vs hl
    obtain ⟨a, rfl⟩ := len1 hl
    rfl
  · intro L vs hl
    obtain ⟨a, rfl⟩ := len1 hl
    intro x hx
    simp only [List.zip_cons_cons, List.zip_nil_right, List.mem_cons, List.not_mem_nil, or_false] at hx
    subst hx
    exact .inl rfl
  · intro L vs hl
    obtain ⟨a, rfl⟩ := len1 hl
    intro i x v h1 h2
    match i, h1, h2 with
    | 0, h1, h2 => cases h1; cases h2; exact .inl ⟨rfl, rfl⟩
    | k + 1, h1, h2 => cases h1
  · intro L vs hl
    obtain ⟨a, rfl⟩ := len1 hl
    exact ⟨_, rfl, rfl⟩
  · intro L h₀ X₀ A os
    refine exb_cons (d := .lst (odds.map .str)) ?_ ?_ ?_ ?_ ?_
    · refine ev_list (ds := odds.map .str) ?_ ?_
      · refine evall_strs ?_
        decide +kernel
      · show 16 ≤ sizeLine
        decide
    · exact of_decide_eq_true rfl
    · intro y sl h
      rcases lookup_cons (σ := []) h with ⟨rfl, rfl⟩ | ⟨_, h⟩
      · exact ⟨rfl, _, rfl⟩
      · cases h
    · unfold swapsWith; rfl
    · refine ex_cons (ex_comp (compN (fr := [vV "odd" (.lst (odds.map .str))]) ns .int (fun n => .str (piece n)) (ev_var rfl) (by omega)
        (fun z sl h => by
          rcases lookup_cons (σ := []) h with ⟨rfl, rfl⟩ | ⟨_, h⟩
          · exact ⟨by decide, rfl, rfl, rfl, rfl, _, rfl⟩
          · cases h)
        (fun C acc n hn => ev_ite (b := decide (n % 320 > 63)) (evb_cmp (ev_mod (ev_var rfl) ev_int (by decide)) ev_int cmp_gt_int)
          (fun hb => by rw [piece, if_pos (of_decide_eq_true hb)]; have := of_decide_eq_true hb; exact ev_chr (evV_blt rfl rfl rfl) (ev_sub (ev_mod (ev_var rfl) ev_int (by decide)) ev_int) (by omega) (by omega))
          (fun hb => ev_item_lst (ev_var rfl) (ev_mod (ev_var rfl) ev_int (by decide)) (by have : (odds.map D.str).length = 16 := rfl; rw [this]; omega) (by have : (odds.map D.str).length = 16 := rfl; rw [this]; omega) (by decide) (by
            rw [piece, if_neg (of_decide_eq_false hb), if_neg (by omega), List.getElem?_map, List.getD_eq_getElem?_getD]
            have h16 : (n % 16).toNat < odds.length := by show _ < 16; omega
            rw [List.getElem?_eq_getElem h16]; rfl)))) fun rp => ?_)
      have hsum : ((ns.map piece).map List.length).sum ≤ 7 * ns.length := by
        clear hz
        induction ns with
        | nil => simp
        | cons n l ih =>
          have := (piece_ok n).1
          simp only [List.map_cons, List.sum_cons, List.length_cons]; omega
      have hflat : ((ns.map piece).flatten).length ≤ 7 * ns.length := by rw [List.length_flatten]; exact hsum
      refine ex_thaw (x := "pieces") rfl (ex_cons (ex_ret (ev_ite (b := decide (ns ≠ [])) ((evb_cmp (ev_var rfl) (ev_list evall_nil (by simp)) (cmp_ne_ints (m := []))).eq ?_)
        (fun hb => (ev_cut (ev_join (ts := ns.map piece) (ev_str (l := []) rfl) ((ev_var rfl).eq (by rw [List.map_map]; rfl)) (join_ok (by rw [List.length_map]; omega) (by simp)) (join_list _ _)) .none (.some ev_int) ?_).eq (d' := .str (bodyOf ns)) ?_)
        (fun hb => (ev_str rfl).eq ?_)) rfl))
      · simp
      · rw [jn_nil]; omega
      · rw [jn_nil, bodyOf, if_neg (of_decide_eq_true hb)]
        exact congrArg D.str (cut_b _ 28)
      · have : ns = [] := by simpa using hb
        subst this; rfl
end Mine
end
section
open PySem PySem.W PyProof.Rows PySem.Builtin.Str
namespace Mine
def enc (bs : List Nat) : List Nat := bs.flatMap tok
def wsOf (bs : List Nat) : List (Nat × Nat) := bs.map fun b => (b, (tok b).length)
theorem enc_nil0 : enc [] = [] := rfl
theorem enc_cons (b : Nat) (bs : List Nat) : enc (b :: bs) = tok b ++ enc bs := by simp [enc]
theorem enc_app (a b : List Nat) : enc (a ++ b) = enc a ++ enc b := by simp [enc]
theorem enc_one (b : Nat) : enc [b] = tok b := by simp [enc]
theorem ws_app (a b : List Nat) : wsOf (a ++ b) = wsOf a ++ wsOf b := by simp [wsOf]
theorem ws_fst (a : List Nat) : (wsOf a).map (·.1) = a := by simp [wsOf, Function.comp_def]
theorem safe_iff (b : Nat) : safe b = true ↔ (b = 9 ∨ (32 ≤ b ∧ b ≤ 126) ∧ b ≠ 61) := by
  unfold safe
  rw [Bool.or_eq_true, Bool.and_eq_true, Bool.and_eq_true, beq_iff_eq, decide_eq_true_iff, decide_eq_true_iff, Bool.not_eq_true', beq_eq_false_iff_ne]
theorem due_tok (b : Nat) : (tok b).length = due1 b := by
  unfold tok due1
  by_cases h : safe b = true
  · rw [if_pos h, if_pos ((safe_iff b).mp h)]; rfl
  · rw [if_neg h, if_neg (fun z => h ((safe_iff b).mpr z))]; rfl
theorem tok_safe {b : Nat} (h : safe b = true) : tok b = [b] := by unfold tok; rw [if_pos h]
theorem tok_quot {b : Nat} (h : ¬ safe b = true) : tok b = [61, hx (b / 16), hx (b % 16)] := by unfold tok; rw [if_neg h]
theorem hx_ok : ∀ n < 16, hx n ∈ hexU ∧ hexV (hx n) = n := by decide
theorem hx_ne : ∀ n < 16, hx n ≠ 61 ∧ (32 ≤ hx n ∧ hx n ≤ 126) ∧ hx n ≠ 32 := by decide
theorem TK_enc {s : List Nat} {ws : List (Nat × Nat)} {held : List Nat} (t : TK s ws held) : ∀ {bs : List Nat}, (∀ b ∈ bs, b < 256) → TK (enc bs ++ s) (wsOf bs ++ ws) held
  | [], _ => t
  | b :: bs, h => by
    have ih := TK_enc t (bs := bs) (fun a ha => h a (.tail _ ha))
    have hb := h b (.head _)
    rw [enc_cons]
    by_cases hs : safe b = true
    · have h61 : b ≠ 61 := by rcases (safe_iff b).mp hs with rfl | h; (· decide); exact h.2
      show TK (tok b ++ enc bs ++ s) ((b, (tok b).length) :: (wsOf bs ++ ws)) held
      rw [tok_safe hs]
      exact TK.lit h61 ih
    · show TK (tok b ++ enc bs ++ s) ((b, (tok b).length) :: (wsOf bs ++ ws)) held
      rw [tok_quot hs]
      have h1 := hx_ok (b / 16) (by omega)
      have h2 := hx_ok (b % 16) (by omega)
      have e : b = 16 * hexV (hx (b / 16)) + hexV (hx (b % 16)) := by rw [h1.2, h2.2]; omega
      have := TK.tok h1.1 h2.1 ih
      rw [← e] at this
      exact this
theorem bnd_eq : ∀ (bs : List Nat) (k : Nat), (∀ b ∈ bs, b < 256) → (enc bs)[k]? = some 61 → ∃ b1 b b2, bs = b1 ++ b :: b2 ∧ (enc b1).length = k ∧ safe b = false
  | [], k, _, h => by simp [enc] at h
  | b :: bs, k, hb, h => by
    rw [enc_cons] at h
    by_cases hs : safe b = true
    · rw [tok_safe hs] at h
      cases k with
      | zero =>
        simp at h
        subst h
        simp [safe] at hs
      | succ k =>
        simp at h
        obtain ⟨b1, b', b2, e, l, s⟩ := bnd_eq bs k (fun a ha => hb a (.tail _ ha)) h
        exact ⟨b :: b1, b', b2, by rw [e]; rfl, by rw [enc_cons, tok_safe hs]; simp [l], s⟩
    · have h1 := hx_ne (b / 16) (by have := hb b (.head _); omega)
      have h2 := hx_ne (b % 16) (by omega)
      rw [tok_quot hs] at h
      match k, h with
      | 0, h => exact ⟨[], b, bs, rfl, rfl, by simpa using hs⟩
      | 1, h => simp at h; exact absurd h h1.1
      | 2, h => simp at h; exact absurd h h2.1
      | k + 3, h =>
        simp at h
        obtain ⟨b1, b', b2, e, l, s⟩ := bnd_eq bs k (fun a ha => hb a (.tail _ ha)) h
        exact ⟨b :: b1, b', b2, by rw [e]; rfl, by rw [enc_cons, tok_quot hs]; simp [l], s⟩
theorem bnd_no : ∀ (bs : List Nat) (k : Nat), k ≤ (enc bs).length → (∀ j, k = j + 1 → (enc bs)[j]? ≠ some 61) → (∀ j, k = j + 2 → (enc bs)[j]? ≠ some 61) → ∃ b1 b2, bs = b1 ++ b2 ∧ (enc b1).length = k
  | bs, 0, _, _, _ => ⟨[], bs, rfl, rfl⟩
  | [], k + 1, h, _, _ => by simp [enc] at h
  | b :: bs, k + 1, h, p, q => by
    by_cases hs : safe b = true
    · rw [enc_cons, tok_safe hs] at h p q
      obtain ⟨b1, b2, e, l⟩ := bnd_no bs k (by simp at h; omega) (fun j hj => by subst hj; have := p (j + 1) rfl; simpa using this) (fun j hj => by subst hj; have := q (j + 1) rfl; simpa using this)
      exact ⟨b :: b1, b2, by rw [e]; rfl, by rw [enc_cons, tok_safe hs]; simp [l]⟩
    · rw [enc_cons, tok_quot hs] at h p q
      match k, h, p, q with
      | 0, h, p, q => exact absurd rfl (p 0 rfl)
      | 1, h, p, q => exact absurd rfl (q 0 rfl)
      | k + 2, h, p, q =>
        obtain ⟨b1, b2, e, l⟩ := bnd_no bs k (by simp at h; omega) (fun j hj => by subst hj; have := p (j + 3) rfl; simpa using this) (fun j hj => by subst hj; have := q (j + 3) rfl; simpa using this)
        exact ⟨b :: b1, b2, by rw [e]; rfl, by rw [enc_cons, tok_quot hs]; simp [l]⟩
theorem cut_at {mx : Nat} {bs : List Nat} (h4 : 4 ≤ mx) (hb : ∀ b ∈ bs, b < 256) (hl : mx < (enc bs).length) :
    ∃ b1 b b2, bs = b1 ++ b :: b2 ∧ (enc b1).length = cp mx (enc bs) ∧ mx < cp mx (enc bs) + 1 + due1 b := by
  unfold cp
  by_cases h3 : (enc bs)[mx - 3]? = some 61
  · rw [if_pos h3]
    obtain ⟨b1, b, b2, e, l, s⟩ := bnd_eq bs _ hb h3
    refine ⟨b1, b, b2, e, l, ?_⟩
    rw [← due_tok, tok_quot (by rw [s]; decide)]
    show mx < mx - 3 + 1 + 3
    omega
  · rw [if_neg h3]
    by_cases h2 : (enc bs)[mx - 2]? = some 61
    · rw [if_pos h2]
      obtain ⟨b1, b, b2, e, l, s⟩ := bnd_eq bs _ hb h2
      refine ⟨b1, b, b2, e, l, ?_⟩
      rw [← due_tok, tok_quot (by rw [s]; decide)]
      show mx < mx - 2 + 1 + 3
      omega
    · rw [if_neg h2]
      obtain ⟨b1, b2, e, l⟩ := bnd_no bs (mx - 1) (by omega) (fun j hj => by have : j = mx - 2 := by omega
                                                                             subst this; exact h2) (fun j hj => by have : j = mx - 3 := by omega
                                                                                                                   subst this; exact h3)
      cases b2 with
      | nil => rw [List.append_nil] at e; subst e; omega
      | cons b b2 =>
        refine ⟨b1, b, b2, e, l, ?_⟩
        have : 1 ≤ due1 b := by unfold due1; split <;> decide
        omega
end Mine
end
section
open PySem PySem.W PyProof.Rows PySem.Builtin.Str
namespace Mine
def rwA (b : List Nat) : Rw := ⟨enc b ++ [61], wsOf b, [61]⟩
def rwB (b : List Nat) : Rw := ⟨enc b, wsOf b, []⟩
def rwC (b : List Nat) (c : Nat) : Rw := ⟨enc b ++ qt c, wsOf b ++ [(c, 3)], []⟩
def blank (c : Nat) : Prop := c = 32 ∨ c = 9
inductive Shape : Rw → Prop
  | a {b : List Nat} : (∀ x ∈ b, x < 256) → Shape (rwA b)
  | b {b : List Nat} : (∀ x ∈ b, x < 256) → (∀ x, b.getLast? = some x → ¬ blank x) → Shape (rwB b)
  | c {b : List Nat} {c : Nat} : (∀ x ∈ b, x < 256) → blank c → Shape (rwC b c)
theorem TK_qt {c : Nat} (h : blank c) : TK (qt c) [(c, 3)] [] := by
  rcases h with rfl | rfl
  · exact TK.tok (a := 50) (b := 48) (by decide) (by decide) .nil
  · exact TK.tok (a := 48) (b := 57) (by decide) (by decide) .nil
theorem text_A (b : List Nat) : (rwA b).text = b := ws_fst b
theorem text_B (b : List Nat) : (rwB b).text = b := ws_fst b
theorem text_C (b : List Nat) (c : Nat) : (rwC b c).text = b ++ [c] := by show (wsOf b ++ [((c, 3) : Nat × Nat)]).map (fun p : Nat × Nat => p.1) = _; rw [List.map_append, ws_fst]; rfl
theorem ws_due (b : List Nat) : (wsOf b).map (·.2) = (wsOf b).map fun p => due1 p.1 := by simp [wsOf, due_tok, Function.comp_def]
theorem Shape.tk {r : Rw} (h : Shape r) : TK r.t r.ws r.held := by
  cases h with
  | a h => have := TK_enc TK.eq h; rw [List.append_nil] at this; exact this
  | b h _ => have := TK_enc TK.nil h; rw [List.append_nil, List.append_nil] at this; exact this
  | c h k => exact TK_enc (TK_qt k) h
theorem Shape.held {r : Rw} (h : Shape r) : r.held = [] ∨ r.held = [61] := by
  cases h with
  | a _ => exact .inr rfl
  | b _ _ => exact .inl rfl
  | c _ _ => exact .inl rfl
theorem last_snoc (l : List Nat) (c : Nat) : (l ++ [c]).getLastD 0 = c := by simp [List.getLastD_eq_getLast?]
theorem Shape.wid {r : Rw} (h : Shape r) : r.ws.map (·.2) = due r := by
  cases h with
  | a h => unfold due; rw [if_neg (by rintro ⟨z, _⟩; cases z)]; exact ws_due _
  | @b b h k =>
    unfold due
    rw [if_neg]
    · exact ws_due _
    · rintro ⟨-, z, y⟩
      rw [text_B] at y
      have hb : b ≠ [] := by rintro rfl; exact z rfl
      have hl : b.getLast? = some (b.getLastD 0) := by rw [List.getLastD_eq_getLast?, List.getLast?_eq_some_getLast hb]; rfl
      exact k _ hl (y.elim .inr .inl)
  | @c b c h k =>
    unfold due
    rw [if_pos]
    · show (wsOf b ++ [((c, 3) : Nat × Nat)]).map (fun p : Nat × Nat => p.2) = ((wsOf b ++ [((c, 3) : Nat × Nat)]).map fun p : Nat × Nat => due1 p.1).set ((wsOf b ++ [(c, 3)]).length - 1) 3
      rw [List.map_append, List.map_append, ws_due]
      simp [List.set_append]
    · refine ⟨rfl, by simp [rwC], ?_⟩
      rw [text_C, last_snoc]
      exact k.elim .inr .inl
theorem Shape.oct {r : Rw} (h : Shape r) : ∀ p ∈ r.ws, p.1 < 256 := by
  have hw : ∀ {b : List Nat}, (∀ x ∈ b, x < 256) → ∀ p ∈ wsOf b, p.1 < 256 := by
    intro b h p hp
    obtain ⟨x, hx, rfl⟩ := List.mem_map.mp hp
    exact h x hx
  cases h with
  | a h => exact hw h
  | b h _ => exact hw h
  | c h k =>
    intro p hp
    rcases List.mem_append.mp hp with hp | hp
    · exact hw h p hp
    · rw [List.mem_singleton] at hp; subst hp
      rcases k with rfl | rfl <;> decide
def plainC (a : Nat) : Prop := a = 9 ∨ (32 ≤ a ∧ a ≤ 126)
theorem tok_plain {b : Nat} (h : b < 256) : ∀ a ∈ tok b, plainC a := by
  intro a ha
  by_cases hs : safe b = true
  · rw [tok_safe hs, List.mem_singleton] at ha
    subst ha
    rcases (safe_iff a).mp hs with h | h
    · exact .inl h
    · exact .inr h.1
  · rw [tok_quot hs] at ha
    simp only [List.mem_cons, List.not_mem_nil, or_false] at ha
    rcases ha with rfl | rfl | rfl
    · exact .inr (by decide)
    · exact .inr (hx_ne _ (by omega)).2.1
    · exact .inr (hx_ne _ (by omega)).2.1
theorem enc_plain {bs : List Nat} (h : ∀ b ∈ bs, b < 256) : ∀ a ∈ enc bs, plainC a := by
  intro a ha
  obtain ⟨b, hb, ha⟩ := List.mem_flatMap.mp ha
  exact tok_plain (h b hb) a ha
theorem qt_plain (c : Nat) : ∀ a ∈ qt c, plainC a := by
  intro a ha
  have : ∀ x ∈ [61, 50, 48, 57], plainC x := by intro x hx; simp only [List.mem_cons, List.not_mem_nil, or_false] at hx; exact .inr (by omega)
  refine this a ?_
  unfold qt at ha
  split at ha <;> simp only [List.mem_cons, List.not_mem_nil, or_false] at ha ⊢ <;> omega
theorem Shape.plain {r : Rw} (h : Shape r) : ∀ a ∈ r.t, plainC a := by
  cases h with
  | a h =>
    intro a ha
    rcases List.mem_append.mp ha with ha | ha
    · exact enc_plain h a ha
    · rw [List.mem_singleton] at ha; subst ha; exact .inr (by decide)
  | b h _ => exact enc_plain h
  | c h k =>
    intro a ha
    rcases List.mem_append.mp ha with ha | ha
    · exact enc_plain h a ha
    · exact qt_plain _ a ha
theorem tok_last {b : Nat} (h : b < 256) : ∃ l x, tok b = l ++ [x] ∧ (blank x ↔ blank b) := by
  by_cases hs : safe b = true
  · exact ⟨[], b, tok_safe hs, Iff.rfl⟩
  · refine ⟨[61, hx (b / 16)], hx (b % 16), tok_quot hs, ?_⟩
    have h2 := hx_ne (b % 16) (by omega)
    have : ¬ blank b := by rintro (rfl | rfl) <;> exact hs (by decide)
    refine iff_of_false ?_ this
    rintro (z | z)
    · exact h2.2.2 z
    · have := h2.2.1; omega
theorem Shape.noblank {r : Rw} (h : Shape r) : ∀ x, r.t.getLast? = some x → ¬ blank x := by
  intro x hx
  cases h with
  | a h =>
    simp [rwA] at hx
    subst hx; rintro (z | z) <;> omega
  | @b b h k =>
    rcases List.eq_nil_or_concat b with rfl | ⟨b', c, e⟩
    · simp [rwB, enc] at hx
    · rw [List.concat_eq_append] at e; subst e
      obtain ⟨l, y, e, i⟩ := tok_last (h c (by simp))
      have : x = y := by
        simp only [rwB] at hx
        rw [enc_app, enc_one, e, ← List.append_assoc, List.getLast?_concat] at hx
        exact (Option.some.inj hx).symm
      subst this
      exact fun z => k c (by simp) (i.mp z)
  | @c b c h k =>
    have : x = 48 ∨ x = 57 := by
      simp only [rwC] at hx
      rcases k with rfl | rfl
      · rw [show qt 32 = [61, 50] ++ [48] from rfl, ← List.append_assoc] at hx
        simp at hx; omega
      · rw [show qt 9 = [61, 48] ++ [57] from rfl, ← List.append_assoc] at hx
        simp at hx; omega
    rintro (z | z) <;> omega
theorem rowOk_of {mx : Nat} {prev : Option Rw} {r : Rw} (h : Shape r) (hl : r.t.length ≤ mx)
    (v : ∀ q, prev = some q → q.held = [61] → r.ws = [] → r.t = [] ∧ mx ≤ q.t.length ∧ q.ws ≠ [] ∧ (q.text.getLastD 0 = 32 ∨ q.text.getLastD 0 = 9))
    (f : ∀ q, prev = some q → q.held = [61] → ∀ p ws', r.ws = p :: ws' → mx < q.t.length + due1 p.1 ∧ (r.held = [] → mx < q.t.length - 1 + r.t.length)) : RowOk mx prev r :=
  ⟨h.tk, h.held, h.wid, hl, h.oct, v, f⟩
theorem RowOk.off {mx : Nat} {prev : Option Rw} {r : Rw} (h : RowOk mx none r) (p : ∀ q, prev = some q → q.held ≠ [61]) : RowOk mx prev r :=
  ⟨h.tk, h.held, h.wid, h.len, h.oct, fun q e z => absurd z (p q e), fun q e z => absurd z (p q e)⟩
theorem rowOk_none {mx : Nat} {r : Rw} (h : Shape r) (hl : r.t.length ≤ mx) : RowOk mx none r :=
  rowOk_of h hl (fun q e => by cases e) (fun q e => by cases e)
def ROK (mx : Nat) : Option Rw → List Rw → Prop
  | _, [] => True
  | p, r :: rs => RowOk mx p r ∧ ROK mx (some r) rs
end Mine
end
section
open PySem PySem.W PyProof.Rows PySem.Builtin.Str
namespace Mine
structure LineOk (mx : Nat) (eol bs : List Nat) (ps : List (List Nat)) (r : List Nat) (r0 : Rw) (rs : List Rw) : Prop where
  wl : WL mx (enc bs) ps r
  jn : jn eol (ps ++ [lastp mx eol r]) = jn eol ((r0 :: rs).map Rw.t)
  shp : ∀ q ∈ r0 :: rs, Shape q
  head : RowOk mx none r0
  chain : ROK mx (some r0) rs
  fst : r0.ws.head?.map (·.1) = bs.head?
  hard : r0.held = [] → (enc bs).length ≤ r0.t.length
  tells : ∀ mark, ((r0 :: rs).map fun q => if q.on = true then q.text else q.text ++ mark).flatten = bs ++ mark
  last : ∀ q, (r0 :: rs).getLast? = some q → q.held = []
  z1 : rs.length ≤ bs.length + 1
  z2 : ∀ q ∈ r0 :: rs, q.t.length ≤ (enc bs).length + 3
  z3 : ps.length ≤ bs.length
  z4 : ∀ p ∈ ps, p.length ≤ (enc bs).length + 1
  z5 : (lastp mx eol r).length ≤ (enc bs).length + eol.length + 4
theorem lastp_off {mx : Nat} {eol r : List Nat} (h : ∀ x, r.getLast? = some x → ¬ blank x) : lastp mx eol r = r := by
  unfold lastp
  rw [if_neg]
  rintro ⟨hn, hm⟩
  have hl : r.getLast? = some (r.getLastD 0) := by rw [List.getLastD_eq_getLast?, List.getLast?_eq_some_getLast hn]; rfl
  refine h _ hl ?_
  simpa [blank] using hm
theorem lastp_on {mx : Nat} {eol r : List Nat} {c : Nat} (h : blank c) : lastp mx eol (r ++ [c]) = if r.length + 3 ≤ mx then r ++ qt c else if r.length + 2 = mx then r ++ ([c] ++ ([61] ++ eol)) else r ++ (([61] ++ eol) ++ qt c) := by
  unfold lastp
  rw [if_pos ⟨by simp, by rw [last_snoc]; simpa [blank] using h⟩, last_snoc]
  simp only [List.dropLast_concat, List.length_append, List.length_singleton]
theorem on_A (b : List Nat) : (rwA b).on = true := rfl
theorem on_B (b : List Nat) : (rwB b).on = false := rfl
theorem on_C (b : List Nat) (c : Nat) : (rwC b c).on = false := rfl
theorem safe_blank {c : Nat} (h : blank c) : safe c = true := by rcases h with rfl | rfl <;> decide
theorem qt_len (c : Nat) : (qt c).length = 3 := by unfold qt; split <;> rfl
theorem fst_ws (b : List Nat) : (wsOf b).head?.map (·.1) = b.head? := by cases b <;> rfl
theorem line_stop {mx : Nat} (eol : List Nat) {bs : List Nat} (h4 : 4 ≤ mx) (hb : ∀ b ∈ bs, b < 256) (hl : (enc bs).length ≤ mx) : ∃ ps r r0 rs, LineOk mx eol bs ps r r0 rs := by
  by_cases hbl : ∀ x, bs.getLast? = some x → ¬ blank x
  · have hs : Shape (rwB bs) := .b hb hbl
    have e : lastp mx eol (enc bs) = enc bs := lastp_off hs.noblank
    refine ⟨[], enc bs, rwB bs, [], .stop hl, by rw [e]; rfl, ?_, rowOk_none hs hl, trivial, fst_ws bs, fun _ => Nat.le_refl _, fun mark => ?_, fun q hq => ?_, by simp, ?_, by simp, by simp, by rw [e]; omega⟩
    · intro q hq; rw [List.mem_singleton] at hq; subst hq; exact hs
    · simp [on_B, text_B]
    · simp at hq; subst hq; rfl
    · intro q hq; rw [List.mem_singleton] at hq; subst hq; show (enc bs).length ≤ _; omega
  · have ⟨c, hc, hk⟩ : ∃ c, bs.getLast? = some c ∧ blank c := by
      apply Classical.byContradiction
      intro z
      exact hbl fun x hx k => z ⟨x, hx, k⟩
    obtain ⟨b, rfl⟩ : ∃ b, bs = b ++ [c] := by
      rcases List.eq_nil_or_concat bs with rfl | ⟨b, d, e⟩
      · cases hc
      · rw [List.concat_eq_append] at e; subst e; rw [List.getLast?_concat] at hc; cases hc; exact ⟨b, rfl⟩
    have hb' : ∀ x ∈ b, x < 256 := fun x hx => hb x (List.mem_append_left _ hx)
    have ee : enc (b ++ [c]) = enc b ++ [c] := by rw [enc_app, enc_one, tok_safe (safe_blank hk)]
    have el : (enc (b ++ [c])).length = (enc b).length + 1 := by rw [ee]; simp
    by_cases h1 : (enc b).length + 3 ≤ mx
    · have hs : Shape (rwC b c) := .c hb' hk
      have e : lastp mx eol (enc (b ++ [c])) = enc b ++ qt c := by rw [ee, lastp_on hk, if_pos h1]
      have tl : (rwC b c).t.length = (enc b).length + 3 := by show (enc b ++ qt c).length = _; rw [List.length_append, qt_len]
      refine ⟨[], enc (b ++ [c]), rwC b c, [], .stop hl, by rw [e]; rfl, ?_, rowOk_none hs (by omega), trivial, ?_, fun _ => by omega, fun mark => ?_, fun q hq => ?_, by simp, ?_, by simp, by simp, ?_⟩
      · intro q hq; rw [List.mem_singleton] at hq; subst hq; exact hs
      · cases b <;> rfl
      · simp [on_C, text_C]
      · simp at hq; subst hq; rfl
      · intro q hq; rw [List.mem_singleton] at hq; subst hq; omega
      · rw [e, List.length_append, qt_len]; omega
    · by_cases h2 : (enc b).length + 2 = mx
      · have hs : Shape (rwA (b ++ [c])) := .a hb
        have hs2 : Shape (rwB []) := .b (by simp) (by simp)
        have e : lastp mx eol (enc (b ++ [c])) = (enc (b ++ [c]) ++ [61]) ++ eol := by rw [ee, lastp_on hk, if_neg h1, if_pos h2]; simp
        have tl : (rwA (b ++ [c])).t.length = (enc b).length + 2 := by show (enc (b ++ [c]) ++ [61]).length = _; rw [List.length_append, el]; rfl
        refine ⟨[], enc (b ++ [c]), rwA (b ++ [c]), [rwB []], .stop hl, ?_, ?_, rowOk_none hs (by omega), ⟨rowOk_of hs2 (by simp [rwB, enc]) ?_ ?_, trivial⟩, ?_, (fun z => by cases z), fun mark => ?_, fun q hq => ?_, by simp, ?_, by simp, by simp, ?_⟩
        · rw [e]; simp [Mine.jn, rwA, rwB, enc_nil0]
        · intro q hq
          simp only [List.mem_cons, List.not_mem_nil, or_false] at hq
          rcases hq with rfl | rfl
          · exact hs
          · exact hs2
        · intro q hq _ _
          cases hq
          refine ⟨rfl, by omega, by simp [rwA, wsOf], ?_⟩
          rw [text_A, last_snoc]; exact hk
        · intro q hq _ p ws' hw
          cases hw
        · cases b <;> rfl
        · simp [on_A, on_B, text_A, text_B]
        · simp at hq; subst hq; rfl
        · intro q hq
          simp only [List.mem_cons, List.not_mem_nil, or_false] at hq
          rcases hq with rfl | rfl
          · omega
          · simp [rwB, enc]
        · rw [e, List.length_append, List.length_append, el]; simp only [List.length_singleton]; omega
      · have hs : Shape (rwA b) := .a hb'
        have hs2 : Shape (rwC [] c) := .c (by simp) hk
        have e : lastp mx eol (enc (b ++ [c])) = (enc b ++ [61]) ++ (eol ++ qt c) := by rw [ee, lastp_on hk, if_neg h1, if_neg h2]; simp
        have tl : (rwA b).t.length = (enc b).length + 1 := by show (enc b ++ [61]).length = _; rw [List.length_append]; rfl
        have tl2 : (rwC [] c).t.length = 3 := qt_len c
        have hbn : b ≠ [] := by rintro rfl; simp [enc] at h1; omega
        have hd : 1 ≤ due1 c := by unfold due1; split <;> decide
        refine ⟨[], enc (b ++ [c]), rwA b, [rwC [] c], .stop hl, ?_, ?_, rowOk_none hs (by omega), ⟨rowOk_of hs2 (by omega) ?_ ?_, trivial⟩, ?_, (fun z => by cases z), fun mark => ?_, fun q hq => ?_, by simp, ?_, by simp, by simp, ?_⟩
        · rw [e]; simp [Mine.jn, rwA, rwC, enc_nil0]
        · intro q hq
          simp only [List.mem_cons, List.not_mem_nil, or_false] at hq
          rcases hq with rfl | rfl
          · exact hs
          · exact hs2
        · intro q hq _ hw
          cases hw
        · intro q hq _ p ws' hw
          cases hq
          cases hw
          exact ⟨by show mx < (rwA b).t.length + due1 c; omega, fun _ => by omega⟩
        · cases b with
          | nil => exact absurd rfl hbn
          | cons x b => rfl
        · simp [on_A, on_C, text_A, text_C]
        · simp at hq; subst hq; rfl
        · intro q hq
          simp only [List.mem_cons, List.not_mem_nil, or_false] at hq
          rcases hq with rfl | rfl
          · omega
          · omega
        · rw [e, List.length_append, List.length_append, List.length_append, el, qt_len]; simp only [List.length_singleton]; omega
theorem jn_cons {sep a : List Nat} {l : List (List Nat)} (h : l ≠ []) : jn sep (a :: l) = a ++ sep ++ jn sep l := by
  cases l with
  | nil => exact absurd rfl h
  | cons b r => rw [jn]
theorem line_rows {mx : Nat} (eol : List Nat) (h4 : 4 ≤ mx) : ∀ (n : Nat) (bs : List Nat), bs.length ≤ n → (∀ b ∈ bs, b < 256) → ∃ ps r r0 rs, LineOk mx eol bs ps r r0 rs
  | 0, bs, hn, hb => line_stop eol h4 hb (by have : bs = [] := List.length_eq_zero_iff.mp (by omega)
                                             subst this; simp [enc])
  | n + 1, bs, hn, hb => by
    by_cases hl : (enc bs).length ≤ mx
    · exact line_stop eol h4 hb hl
    · obtain ⟨b1, b, b2, e, el, hd⟩ := cut_at h4 hb (by omega)
      have hcp := cp_lt (r := enc bs) h4
      have ht : (enc bs).take (cp mx (enc bs)) = enc b1 := by rw [← el, e, enc_app, List.take_left]
      have hdr : (enc bs).drop (cp mx (enc bs)) = enc (b :: b2) := by rw [← el, e, enc_app, List.drop_left]
      have hb1 : b1 ≠ [] := by rintro rfl; rw [enc_nil0, List.length_nil] at el; omega
      have hl1 : 0 < b1.length := List.length_pos_iff.mpr hb1
      have hlen : bs.length = b1.length + (b2.length + 1) := by rw [e]; simp
      have hel : (enc bs).length = (enc b1).length + (enc (b :: b2)).length := by rw [e, enc_app, List.length_append]
      have hbb1 : ∀ x ∈ b1, x < 256 := fun x hx => hb x (by rw [e]; exact List.mem_append_left _ hx)
      obtain ⟨ps, r, r0, rs, L⟩ := line_rows eol h4 n (b :: b2) (by simp only [List.length_cons]; omega) (fun x hx => hb x (by rw [e]; exact List.mem_append_right _ hx))
      have hs : Shape (rwA b1) := .a hbb1
      have tl : (rwA b1).t.length = (enc b1).length + 1 := by show (enc b1 ++ [61]).length = _; rw [List.length_append]; rfl
      refine ⟨(enc b1 ++ [61]) :: ps, r, rwA b1, r0 :: rs, ?_, ?_, ?_, rowOk_none hs (by omega), ⟨?_, L.chain⟩, ?_, (fun z => by cases z), fun mark => ?_, fun q hq => ?_, ?_, ?_, ?_, ?_, ?_⟩
      · rw [← ht]; exact .go (by omega) (by rw [hdr]; exact L.wl)
      · rw [List.cons_append, jn_cons (by simp), L.jn, List.map_cons (a := rwA b1), jn_cons (by simp)]; rfl
      · intro q hq
        rcases List.mem_cons.mp hq with rfl | hq
        · exact hs
        · exact L.shp q hq
      · have h0 := L.head
        refine ⟨h0.tk, h0.held, h0.wid, h0.len, h0.oct, ?_, ?_⟩
        · intro q hq _ hw
          have := L.fst
          rw [hw] at this
          cases this
        · intro q hq _ p ws' hw
          cases hq
          have := L.fst
          rw [hw] at this
          have hp : p.1 = b := by simpa using this
          rw [hp]
          refine ⟨by omega, fun hh => ?_⟩
          have := L.hard hh
          omega
      · rw [e]
        cases b1 with
        | nil => exact absurd rfl hb1
        | cons x b1 => rfl
      · rw [List.map_cons, List.flatten_cons, L.tells mark, on_A, if_pos rfl, text_A, e]; simp
      · rw [List.getLast?_cons_cons] at hq
        exact L.last q hq
      · have := L.z1; simp only [List.length_cons] at this ⊢; omega
      · intro q hq
        rcases List.mem_cons.mp hq with rfl | hq
        · omega
        · have := L.z2 q hq; omega
      · have := L.z3; simp only [List.length_cons] at this ⊢; omega
      · intro p hp
        rcases List.mem_cons.mp hp with rfl | hp
        · rw [List.length_append]; simp only [List.length_singleton]; omega
        · have := L.z4 p hp; omega
      · have := L.z5; omega
end Mine
end
section
open PySem PySem.W PyProof.Rows PySem.Builtin.Str
namespace Mine
theorem ROK_off {mx : Nat} {p : Option Rw} (hp : ∀ q, p = some q → q.held ≠ [61]) : ∀ {rs : List Rw}, ROK mx none rs → ROK mx p rs
  | [], _ => trivial
  | _ :: _, h => ⟨h.1.off hp, h.2⟩
theorem ROK_app {mx : Nat} {RS : List Rw} (h : ROK mx none RS) : ∀ {rs : List Rw} {p : Option Rw}, ROK mx p rs → (∀ q, rs.getLast?.or p = some q → q.held ≠ [61]) → ROK mx p (rs ++ RS)
  | [], p, _, hq => ROK_off (fun q e => hq q e) h
  | r :: rs, p, k, hq => ⟨k.1, ROK_app h k.2 fun q e => hq q (by
      cases rs with
      | nil => simpa using e
      | cons a l => rw [List.getLast?_cons_cons]; cases hl : (a :: l).getLast? with
        | none => simp at hl
        | some x => rw [hl] at e; simpa using e)⟩
theorem ROK_at {mx : Nat} : ∀ {rs : List Rw} {p : Option Rw}, ROK mx p rs → ∀ i r, rs[i]? = some r → RowOk mx (match i with | 0 => p | j + 1 => rs[j]?) r
  | [], _, _, i, r, e => by simp at e
  | a :: rs, p, h, 0, r, e => by simp at e; subst e; exact h.1
  | a :: rs, p, h, i + 1, r, e => by
    have := ROK_at h.2 i r (by simpa using e)
    cases i with
    | zero => exact this
    | succ j => simpa using this
theorem ROK_rows {mx : Nat} {rs : List Rw} (h : ROK mx none rs) : ∀ i r, rs[i]? = some r → RowOk mx (prevOf rs i) r := by
  intro i r e
  have := ROK_at h i r e
  cases i with
  | zero => exact this
  | succ j => exact this
theorem tok_le (b : Nat) : 1 ≤ (tok b).length ∧ (tok b).length ≤ 3 := by rw [due_tok]; unfold due1; split <;> decide
theorem enc_le : ∀ bs : List Nat, bs.length ≤ (enc bs).length ∧ (enc bs).length ≤ 3 * bs.length
  | [] => ⟨Nat.le_refl _, Nat.le_refl _⟩
  | b :: bs => by
    have := enc_le bs
    have := tok_le b
    rw [enc_cons, List.length_append]
    simp only [List.length_cons]
    omega
structure AllOk (mx : Nat) (eol : List Nat) (ls : List (List Nat)) (pss : List (List (List Nat))) (RS : List Rw) : Prop where
  pl : pss.length = ls.length
  hp : ∀ (i : Nat) (t : List Nat), ls[i]? = some t → ∃ ps r, WL mx (enc t) ps r ∧ pss[i]? = some (ps ++ [lastp mx eol r])
  ne : ls ≠ [] → pss.flatten ≠ [] ∧ RS ≠ []
  emp : ls = [] → pss = [] ∧ RS = []
  jn : jn eol pss.flatten = jn eol (RS.map Rw.t)
  shp : ∀ q ∈ RS, Shape q
  chain : ROK mx none RS
  last : ∀ q, RS.getLast? = some q → q.held = []
  tells : ∀ mark, (RS.map fun q => if q.on = true then q.text else q.text ++ mark).flatten = (ls.map (· ++ mark)).flatten
  z1 : RS.length ≤ ls.flatten.length + 2 * ls.length
  z2 : ∀ q ∈ RS, q.t.length ≤ 3 * ls.flatten.length + 3
  z3 : pss.flatten.length ≤ ls.flatten.length + ls.length
  z4 : ∀ p ∈ pss.flatten, p.length ≤ 3 * ls.flatten.length + eol.length + 4
theorem jn_app {sep : List Nat} {b : List (List Nat)} (hb : b ≠ []) : ∀ {a : List (List Nat)}, a ≠ [] → jn sep (a ++ b) = jn sep a ++ sep ++ jn sep b
  | [x], _ => by rw [List.singleton_append, jn_cons hb]; rfl
  | x :: y :: r, _ => by
    have := jn_app (sep := sep) hb (a := y :: r) (by simp)
    rw [List.cons_append, jn_cons (a := x) (by simp), this, jn_cons (a := x) (l := y :: r) (by simp)]; simp
theorem all_rows {mx : Nat} (eol : List Nat) (h4 : 4 ≤ mx) : ∀ (ls : List (List Nat)), (∀ l ∈ ls, ∀ b ∈ l, b < 256) → ∃ pss RS, AllOk mx eol ls pss RS
  | [], _ => ⟨[], [], rfl, fun i t e => by simp at e, fun h => absurd rfl h, fun _ => ⟨rfl, rfl⟩, rfl, by simp, trivial, by simp, fun _ => rfl, by simp, by simp, by simp, by simp⟩
  | l :: ls, hb => by
    obtain ⟨ps, r, r0, rs, L⟩ := line_rows eol h4 l.length l (Nat.le_refl _) (hb l (.head _))
    obtain ⟨pss, RS, A⟩ := all_rows eol h4 ls (fun x hx => hb x (.tail _ hx))
    have hel := (enc_le l).2
    refine ⟨(ps ++ [lastp mx eol r]) :: pss, (r0 :: rs) ++ RS, ?_, ?_, fun _ => ⟨by simp, by simp⟩, (fun h => by cases h), ?_, ?_, ?_, ?_, fun mark => ?_, ?_, ?_, ?_, ?_⟩
    · simp [A.pl]
    · intro i t e
      cases i with
      | zero => simp at e; subst e; exact ⟨ps, r, L.wl, rfl⟩
      | succ i => simp at e; simpa using A.hp i t e
    · rw [List.flatten_cons, List.map_append]
      by_cases hl : ls = []
      · obtain ⟨rfl, rfl⟩ := A.emp hl
        simp only [List.flatten_nil, List.append_nil, List.map_nil]
        exact L.jn
      · have := A.ne hl
        rw [jn_app this.1 (a := ps ++ [lastp mx eol r]) (by simp), L.jn, A.jn, jn_app (by simp [this.2]) (by simp)]
    · intro q hq
      rcases List.mem_append.mp hq with hq | hq
      · exact L.shp q hq
      · exact A.shp q hq
    · refine ROK_app A.chain ⟨L.head, L.chain⟩ fun q hq => ?_
      have : (r0 :: rs).getLast? = some q := by
        cases h : (r0 :: rs).getLast? with
        | none => simp at h
        | some x => rw [h] at hq; simpa using hq
      rw [L.last q this]; simp
    · intro q hq
      by_cases hR : RS = []
      · subst hR; rw [List.append_nil] at hq; exact L.last q hq
      · rw [List.getLast?_append] at hq
        cases h : RS.getLast? with
        | none => exact absurd (List.getLast?_eq_none_iff.mp h) hR
        | some x => rw [h] at hq; simp at hq; subst hq; exact A.last x h
    · rw [List.map_append, List.flatten_append, L.tells, A.tells]; simp
    · have h1 := L.z1; have h2 := A.z1
      simp only [List.length_append, List.length_cons, List.flatten_cons] at h1 h2 ⊢; omega
    · intro q hq
      simp only [List.flatten_cons, List.length_append]
      rcases List.mem_append.mp hq with hq | hq
      · have := L.z2 q hq; omega
      · have := A.z2 q hq; omega
    · have h1 := L.z3; have h2 := A.z3
      simp only [List.length_append, List.length_cons, List.flatten_cons, List.length_nil] at h1 h2 ⊢; omega
    · intro p hp
      simp only [List.flatten_cons, List.length_append]
      rw [List.flatten_cons] at hp
      rcases List.mem_append.mp hp with hp | hp
      · rcases List.mem_append.mp hp with hp | hp
        · have := L.z4 p hp; omega
        · rw [List.mem_singleton] at hp; subst hp; have := L.z5; omega
      · have := A.z4 p hp; omega
/-! ## the lines of a body -/
def bl : List Nat → Nat → List (List Nat)
  | [], _ => [[]]
  | _ :: t, k + 1 => bl t k
  | a :: t, 0 => if a = 13 ∨ a = 10 then [] :: bl t (sk a t) else consH a (bl t 0)
theorem bl_ne : ∀ (l : List Nat) (k : Nat), bl l k ≠ []
  | [], _ => by simp [bl]
  | _ :: t, k + 1 => bl_ne t k
  | a :: t, 0 => by
    rw [bl]
    split
    · simp
    · cases h : bl t 0 with
      | nil => exact absurd h (bl_ne t 0)
      | cons s r => simp [consH]
theorem lb_plain {a : Nat} (h : plainC a) : isLB a = false := by
  have : ∀ a < 127, (a = 9 ∨ 32 ≤ a) → isLB a = false := by decide
  exact this a (by rcases h with rfl | h <;> omega) (by rcases h with rfl | h <;> omega)
theorem sl_plain {rest : List Nat} : ∀ {p : List Nat}, (∀ a ∈ p, plainC a) → sl (p ++ rest) 0 = glueH p (sl rest 0)
  | [], _ => (glue_nil _ (sl_ne _ _)).symm
  | a :: p, h => by
    rw [List.cons_append, sl, if_neg (by rw [lb_plain (h a (.head _))]; decide), sl_plain (fun x hx => h x (.tail _ hx))]
    cases e : sl rest 0 with
    | nil => exact absurd e (sl_ne _ _)
    | cons s r => rfl
theorem tr_plain {a : Nat} (h : ¬ (a = 13 ∨ a = 10)) : tr a = tok a := by unfold tr; rw [if_neg h]
theorem tr_brk {a : Nat} (h : a = 13 ∨ a = 10) : tr a = [a] := by unfold tr; rw [if_pos h]
theorem tok_ne (a : Nat) : tok a ≠ [] := by intro h; have := (tok_le a).1; rw [h] at this; simp at this
theorem tok_head {a : Nat} (h : a < 256) : ∃ x l, tok a = x :: l ∧ plainC x := by
  cases e : tok a with
  | nil => exact absurd e (tok_ne a)
  | cons x l => exact ⟨x, l, rfl, tok_plain h x (by rw [e]; exact .head _)⟩
theorem sk_tr {a : Nat} {t : List Nat} (hb : ∀ b ∈ t, b < 256) : sk a (t.flatMap tr) = sk a t := by
  unfold sk
  have : (t.flatMap tr).head? = some 10 ↔ t.head? = some 10 := by
    cases t with
    | nil => simp
    | cons b t =>
      rw [List.flatMap_cons]
      by_cases h : b = 13 ∨ b = 10
      · rw [tr_brk h]; simp
      · obtain ⟨x, l, e, p⟩ := tok_head (hb b (.head _))
        rw [tr_plain h, e]
        simp only [List.cons_append, List.head?_cons, Option.some.injEq]
        refine iff_of_false ?_ (fun z => h (.inr z))
        rintro rfl
        rcases p with z | z <;> omega
  have e : (a == 13 && (t.flatMap tr).head? == some 10) = (a == 13 && t.head? == some 10) := by
    rw [Bool.eq_iff_iff]
    simp only [Bool.and_eq_true, beq_iff_eq, this]
  rw [e]
theorem sl_bl : ∀ (l : List Nat) (k : Nat), (∀ b ∈ l, b < 256) → (k = 0 ∨ k = 1 ∧ l.head? = some 10) → sl (l.flatMap tr) k = (bl l k).map enc
  | [], k, _, _ => by cases k <;> rfl
  | a :: t, k, hb, hk => by
    have hbt : ∀ b ∈ t, b < 256 := fun x hx => hb x (.tail _ hx)
    rcases hk with rfl | ⟨rfl, hh⟩
    · rw [List.flatMap_cons, bl]
      by_cases h : a = 13 ∨ a = 10
      · rw [tr_brk h, if_pos h, List.map_cons, List.singleton_append, sl, if_pos (by rcases h with rfl | rfl <;> decide), sk_tr hbt, sl_bl t (sk a t) hbt ?_]
        · rfl
        · unfold sk
          split
          · rename_i z; exact .inr ⟨rfl, by simp only [Bool.and_eq_true, beq_iff_eq] at z; exact z.2⟩
          · exact .inl rfl
      · rw [tr_plain h, if_neg h, sl_plain (tok_plain (hb a (.head _))), sl_bl t 0 hbt (.inl rfl)]
        cases e : bl t 0 with
        | nil => exact absurd e (bl_ne t 0)
        | cons s r => simp [consH, glueH, enc_cons]
    · simp at hh
      subst hh
      rw [List.flatMap_cons, tr_brk (.inr rfl), List.singleton_append, sl, bl]
      exact sl_bl t 0 hbt (.inl rfl)
theorem bl_bytes : ∀ (l : List Nat) (k : Nat), (∀ b ∈ l, b < 256) → ∀ s ∈ bl l k, ∀ b ∈ s, b < 256
  | [], _, _, s, hs, b, hb => by simp [bl] at hs; subst hs; cases hb
  | a :: t, k + 1, h, s, hs, b, hb => bl_bytes t k (fun x hx => h x (.tail _ hx)) s hs b hb
  | a :: t, 0, h, s, hs, b, hb => by
    rw [bl] at hs
    split at hs
    · rcases List.mem_cons.mp hs with rfl | hs
      · cases hb
      · exact bl_bytes t _ (fun x hx => h x (.tail _ hx)) s hs b hb
    · have ih := bl_bytes t 0 (fun x hx => h x (.tail _ hx))
      cases e : bl t 0 with
      | nil => exact absurd e (bl_ne t 0)
      | cons u r =>
        rw [e, consH] at hs
        rw [e] at ih
        rcases List.mem_cons.mp hs with rfl | hs
        · rcases List.mem_cons.mp hb with rfl | hb
          · exact h _ (.head _)
          · exact ih u (.head _) b hb
        · exact ih s (.tail _ hs) b hb
theorem bl_size : ∀ (l : List Nat) (k : Nat), (bl l k).length ≤ l.length + 1 ∧ (bl l k).flatten.length ≤ l.length
  | [], _ => by simp [bl]
  | a :: t, k + 1 => by have := bl_size t k; rw [bl]; simp only [List.length_cons]; omega
  | a :: t, 0 => by
    rw [bl]
    split
    · have := bl_size t (sk a t); simp only [List.length_cons, List.flatten_cons, List.length_append, List.length_nil]; omega
    · have := bl_size t 0
      cases e : bl t 0 with
      | nil => exact absurd e (bl_ne t 0)
      | cons u r => rw [e] at this; simp only [consH, List.length_cons, List.flatten_cons, List.length_append] at this ⊢; omega
theorem dropE_eq : ∀ l : List (List Nat), l ≠ [] → dropE l = if l.getLast? = some [] then l.dropLast else l
  | [s], _ => by by_cases h : s = [] <;> simp [dropE, h]
  | s :: t :: r, _ => by
    rw [dropE, dropE_eq (t :: r) (by simp), List.getLast?_cons_cons]
    split <;> simp
theorem bl_one : ∀ (l s : List Nat), bl l 0 = [s] → s = l
  | [], s, h => by simp [bl] at h; exact h
  | a :: t, s, h => by
    rw [bl] at h
    split at h
    · have := bl_ne t (sk a t)
      injection h with _ h
      exact absurd h this
    · cases e : bl t 0 with
      | nil => exact absurd e (bl_ne t 0)
      | cons u r =>
        rw [e, consH] at h
        injection h with h1 h2
        subst h2
        rw [← h1, bl_one t u e]
theorem bl_last : ∀ (n : Nat) (l : List Nat), l.length ≤ n → l ≠ [] → ((bl l 0).getLast? = some [] ↔ (l.getLastD 0 = 13 ∨ l.getLastD 0 = 10))
  | 0, l, hn, h => absurd (List.length_eq_zero_iff.mp (by omega)) h
  | n + 1, [], _, h => absurd rfl h
  | n + 1, [a], _, _ => by
    rw [bl]
    by_cases h : a = 13 ∨ a = 10
    · rw [if_pos h]
      have : bl [] (sk a []) = [[]] := by cases sk a [] <;> rfl
      rw [this]
      simpa using h
    · rw [if_neg h]
      simpa [bl, consH] using h
  | n + 1, a :: b :: t, hn, _ => by
    have hl : (a :: b :: t).getLastD 0 = (b :: t).getLastD 0 := by simp [List.getLastD_eq_getLast?, List.getLast?_cons_cons]
    rw [hl, bl]
    have ih := bl_last n (b :: t) (by simp at hn ⊢; omega) (by simp)
    by_cases h : a = 13 ∨ a = 10
    · rw [if_pos h]
      have hne := bl_ne (b :: t) (sk a (b :: t))
      have hg : ([] :: bl (b :: t) (sk a (b :: t))).getLast? = (bl (b :: t) (sk a (b :: t))).getLast? := by
        cases e : bl (b :: t) (sk a (b :: t)) with
        | nil => exact absurd e hne
        | cons u r => rw [List.getLast?_cons_cons]
      rw [hg]
      by_cases hk : (a == 13 && (b :: t).head? == some 10) = true
      · have : sk a (b :: t) = 1 := by unfold sk; rw [if_pos hk]
        rw [this, bl]
        have hb : b = 10 := by simp at hk; exact hk.2
        subst hb
        cases t with
        | nil => simp [bl]
        | cons c t =>
          have := bl_last n (c :: t) (by simp at hn ⊢; omega) (by simp)
          rw [this]; simp [List.getLastD_eq_getLast?, List.getLast?_cons_cons]
      · have : sk a (b :: t) = 0 := by unfold sk; rw [if_neg hk]
        rw [this]; exact ih
    · rw [if_neg h]
      cases e : bl (b :: t) 0 with
      | nil => exact absurd e (bl_ne _ _)
      | cons u r =>
        rw [e] at ih
        rw [consH]
        cases r with
        | nil =>
          have := bl_one _ _ e
          subst this
          rw [← ih]; simp
        | cons v r => rw [List.getLast?_cons_cons] at ih ⊢; exact ih
theorem tr_last {l : List Nat} (hb : ∀ b ∈ l, b < 256) (hn : l ≠ []) : (l.flatMap tr ≠ []) ∧ ((l.flatMap tr).getLastD 0 ∈ [13, 10] ↔ (l.getLastD 0 = 13 ∨ l.getLastD 0 = 10)) := by
  rcases List.eq_nil_or_concat l with rfl | ⟨l', c, e⟩
  · exact absurd rfl hn
  · rw [List.concat_eq_append] at e; subst e
    rw [List.flatMap_append, last_snoc]
    by_cases h : c = 13 ∨ c = 10
    · have : [c].flatMap tr = [c] := by simp [tr_brk h]
      rw [this, last_snoc]
      exact ⟨by simp, by simp⟩
    · obtain ⟨m, x, e, _⟩ := tok_last (hb c (by simp))
      have hp : plainC x := tok_plain (hb c (by simp)) x (by rw [e]; simp)
      have : [c].flatMap tr = m ++ [x] := by simp [tr_plain h, e]
      rw [this, ← List.append_assoc, last_snoc]
      refine ⟨by simp, iff_of_false ?_ h⟩
      simp only [List.mem_cons, List.not_mem_nil, or_false]
      rcases hp with z | z <;> omega
end Mine
end
section
open PySem PySem.W PyProof.Rows PySem.Builtin.Str
namespace Mine
/-! ## replace -/
def rp (y z : List Nat) : List Nat → Nat → List Nat
  | [], _ => []
  | _ :: t, k + 1 => rp y z t k
  | a :: t, 0 => if y.isPrefixOf (a :: t) = true then z ++ rp y z t (y.length - 1) else a :: rp y z t 0
theorem jn_consH (z : List Nat) (a : Nat) (l : List (List Nat)) (h : l ≠ []) : jn z (consH a l) = a :: jn z l := by
  cases l with
  | nil => exact absurd rfl h
  | cons s r => cases r <;> rfl
theorem sp_nn (y l : List Nat) (k : Nat) : sp y l k ≠ [] := by obtain ⟨s, r, e⟩ := sp_ne y l k; rw [e]; simp
theorem jn_sp (y z : List Nat) : ∀ (l : List Nat) (k : Nat), jn z (sp y l k) = rp y z l k
  | [], _ => rfl
  | _ :: t, k + 1 => jn_sp y z t k
  | a :: t, 0 => by
    rw [sp, rp]
    split
    · rw [jn_cons (sp_nn _ _ _), jn_sp y z t _]; rfl
    · rw [jn_consH _ _ _ (sp_nn _ _ _), jn_sp y z t 0]
def f1 (c : Nat) (z : List Nat) (a : Nat) : List Nat := if a = c then z else [a]
theorem rp_one (c : Nat) (z : List Nat) : ∀ l : List Nat, rp [c] z l 0 = l.flatMap (f1 c z)
  | [] => rfl
  | a :: t => by
    rw [rp, List.flatMap_cons, f1]
    by_cases h : a = c
    · subst h
      rw [if_pos (by simp [List.isPrefixOf]), if_pos rfl]
      show z ++ rp [a] z t 0 = _
      rw [rp_one a z t]
    · rw [if_neg (by simp [List.isPrefixOf]; exact fun e => h e.symm), if_neg h, rp_one c z t]; rfl
def U : List Nat := [8232]
theorem plain_bl : ∀ (l : List Nat) (k : Nat), (k = 0 ∨ k = 1 ∧ l.head? = some 10) → ((rp [13, 10] U l k).flatMap (f1 13 U)).flatMap (f1 10 U) = jn U (bl l k)
  | [], k, _ => by cases k <;> rfl
  | a :: t, k, hk => by
    rcases hk with rfl | ⟨rfl, hh⟩
    · rw [rp, bl]
      by_cases h13 : a = 13
      · subst h13
        rw [if_pos (show (13:Nat) = 13 ∨ (13:Nat) = 10 from .inl rfl), jn_cons (bl_ne _ _)]
        by_cases hh : t.head? = some 10
        · have hs : sk 13 t = 1 := by unfold sk; rw [hh]; rfl
          rw [if_pos (by
            cases t with
            | nil => cases hh
            | cons b t => simp at hh; subst hh; rfl), hs, List.flatMap_append, List.flatMap_append, ← plain_bl t 1 (.inr ⟨rfl, hh⟩)]
          rfl
        · have hs : sk 13 t = 0 := by unfold sk; rw [if_neg]; simp [hh]
          rw [if_neg (by
            cases t with
            | nil => simp [List.isPrefixOf]
            | cons b t => simp [List.isPrefixOf]; simp at hh; exact fun e => hh e.symm), hs, List.flatMap_cons, List.flatMap_append, ← plain_bl t 0 (.inl rfl)]
          rfl
      · rw [if_neg (by simp [List.isPrefixOf]; exact fun e => absurd e.symm h13), List.flatMap_cons, List.flatMap_append]
        by_cases h10 : a = 10
        · subst h10
          have hs : sk 10 t = 0 := rfl
          rw [if_pos (show (10:Nat) = 13 ∨ (10:Nat) = 10 from .inr rfl), jn_cons (bl_ne _ _), hs, ← plain_bl t 0 (.inl rfl)]
          rfl
        · rw [if_neg (by rintro (h | h) <;> contradiction), jn_consH _ _ _ (bl_ne _ _), ← plain_bl t 0 (.inl rfl)]
          have e1 : f1 13 U a = [a] := by unfold f1; rw [if_neg h13]
          have e2 : [a].flatMap (f1 10 U) = [a] := by simp [f1, h10]
          rw [e1, e2]; rfl
    · exact plain_bl t 0 (.inl rfl)
theorem plain_eq (l : List Nat) : jn U (sp [10] (jn U (sp [13] (jn U (sp [13, 10] l 0)) 0)) 0) = jn U (bl l 0) := by
  rw [jn_sp, jn_sp, jn_sp, rp_one, rp_one]; exact plain_bl l 0 (.inl rfl)
theorem jn_marks (z : List Nat) : ∀ l : List (List Nat), l ≠ [] → (l.map (· ++ z)).flatten = jn z l ++ z
  | [a], _ => by simp [jn]
  | a :: b :: r, _ => by rw [List.map_cons, List.flatten_cons, jn_marks z (b :: r) (by simp), jn_cons (a := a) (l := b :: r) (by simp)]; simp
/-! ## splitting at the line end -/
def EolOk (y : List Nat) : Prop := y = [13, 10] ∨ ∃ c, y = [c] ∧ isLB c = true ∧ ¬ plainC c
theorem EolOk.head {y : List Nat} (h : EolOk y) : ∃ c y', y = c :: y' ∧ isLB c = true ∧ ¬ plainC c := by
  rcases h with rfl | ⟨c, rfl, h⟩
  · exact ⟨13, [10], rfl, by decide, by rintro (z | z) <;> omega⟩
  · exact ⟨c, [], rfl, h⟩
def ends : List (List Nat) := [[10], [13, 10], [13], [11], [12], [28], [29], [30], [133], [8232], [8233]]
theorem one_ok : ∀ c ∈ [10, 13, 11, 12, 28, 29, 30, 133, 8232, 8233], isLB c = true ∧ (c = 9 ∨ (32 ≤ c ∧ c ≤ 126)) = False := by
  have : ∀ c ∈ [10, 13, 11, 12, 28, 29, 30, 133, 8232, 8233], isLB c = true ∧ ¬ (c = 9 ∨ (32 ≤ c ∧ c ≤ 126)) := by decide
  exact fun c hc => ⟨(this c hc).1, eq_false (this c hc).2⟩
theorem ends_ok : ∀ e ∈ ends, EolOk e := by
  intro e he
  by_cases h : e = [13, 10]
  · exact .inl h
  · have : ∃ c ∈ [10, 13, 11, 12, 28, 29, 30, 133, 8232, 8233], e = [c] := by
      simp only [ends, List.mem_cons, List.not_mem_nil, or_false] at he
      rcases he with rfl | rfl | rfl | rfl | rfl | rfl | rfl | rfl | rfl | rfl | rfl <;> first | exact absurd rfl h | exact ⟨_, by decide, rfl⟩
    obtain ⟨c, hc, rfl⟩ := this
    exact .inr ⟨c, rfl, (one_ok c hc).1, by have := (one_ok c hc).2; unfold plainC; rw [this]; exact id⟩
theorem sp_skip (y rest : List Nat) : ∀ a : List Nat, sp y (a ++ rest) a.length = sp y rest 0
  | [] => by cases rest <;> rfl
  | x :: a => by rw [List.cons_append, List.length_cons, sp]; exact sp_skip y rest a
theorem sp_self {c : Nat} {y' rest : List Nat} : sp (c :: y') (c :: y' ++ rest) 0 = [] :: sp (c :: y') rest 0 := by
  rw [List.cons_append, sp, if_pos]
  · congr 1
    exact sp_skip (c :: y') rest y'
  · rw [List.isPrefixOf_iff_prefix]; exact ⟨rest, rfl⟩
theorem sp_off {c : Nat} {y' rest : List Nat} : ∀ {p : List Nat}, (∀ a ∈ p, a ≠ c) → sp (c :: y') (p ++ rest) 0 = glueH p (sp (c :: y') rest 0)
  | [], _ => (glue_nil _ (sp_nn _ _ _)).symm
  | a :: p, h => by
    rw [List.cons_append, sp, if_neg, sp_off (fun x hx => h x (.tail _ hx))]
    · cases e : sp (c :: y') rest 0 with
      | nil => exact absurd e (sp_nn _ _ _)
      | cons s r => rfl
    · simp only [List.isPrefixOf, Bool.and_eq_true, beq_iff_eq]
      rintro ⟨z, _⟩
      exact h a (.head _) z.symm
def flat (eol : List Nat) (rows : List (List Nat)) (x : List Nat) : List Nat := (rows.map (· ++ eol)).flatten ++ x
theorem flat_cons (eol r : List Nat) (rows : List (List Nat)) (x : List Nat) : flat eol (r :: rows) x = r ++ (eol ++ flat eol rows x) := by simp [flat]
def Plain (l : List Nat) : Prop := ∀ a ∈ l, plainC a
theorem sp_flat {eol : List Nat} (he : EolOk eol) (x : List Nat) : ∀ {rows : List (List Nat)}, (∀ r ∈ rows, Plain r) → sp eol (flat eol rows x) 0 = rows ++ sp eol x 0
  | [], _ => by simp [flat]
  | r :: rows, h => by
    obtain ⟨c, y', rfl, -, hc⟩ := he.head
    rw [flat_cons, sp_off (c := c) (fun a ha e => hc (by subst e; exact h r (.head _) a ha)), sp_self, sp_flat he x (fun q hq => h q (.tail _ hq)), glueH]
    simp
theorem sp_p {eol p : List Nat} (he : EolOk eol) (hp : Plain p) : sp eol p 0 = [p] := by
  obtain ⟨c, y', rfl, -, hc⟩ := he.head
  have := sp_off (c := c) (y' := y') (rest := []) (p := p) (fun a ha e => hc (by subst e; exact hp a ha))
  rw [List.append_nil] at this
  rw [this]; simp [sp, glueH]
theorem sl_p {p : List Nat} (hp : Plain p) : sl p 0 = [p] := by
  have := sl_plain (rest := []) hp
  rw [List.append_nil] at this
  rw [this]; simp [sl, glueH]
theorem head_flat {rows : List (List Nat)} {x : List Nat} (h : ∀ r ∈ rows, Plain r) (hx : x.head? ≠ some 10) : (flat [13] rows x).head? ≠ some 10 := by
  cases rows with
  | nil => simpa [flat] using hx
  | cons r rows =>
    rw [flat_cons]
    cases r with
    | nil => simp
    | cons a r =>
      simp only [List.cons_append, List.head?_cons, ne_eq, Option.some.injEq]
      rintro rfl
      rcases h _ (.head _) 10 (.head _) with z | z <;> omega
theorem sl_flat {eol : List Nat} (he : EolOk eol) {x : List Nat} (hx : eol = [13] → x.head? ≠ some 10) : ∀ {rows : List (List Nat)}, (∀ r ∈ rows, Plain r) → sl (flat eol rows x) 0 = rows ++ sl x 0
  | [], _ => by simp [flat]
  | r :: rows, h => by
    have hr : ∀ q ∈ rows, Plain q := fun q hq => h q (.tail _ hq)
    have ih := sl_flat he hx hr
    have : sl (eol ++ flat eol rows x) 0 = [] :: sl (flat eol rows x) 0 := by
      rcases he with rfl | ⟨c, rfl, h1, h2⟩
      · rw [List.cons_append, sl, if_pos (by decide)]
        rfl
      · rw [List.singleton_append, sl, if_pos h1]
        have : sk c (flat [c] rows x) = 0 := by
          unfold sk
          rw [if_neg]
          simp only [Bool.and_eq_true, beq_iff_eq]
          rintro ⟨rfl, z⟩
          exact head_flat hr (hx rfl) z
        rw [this]
    rw [flat_cons, sl_plain (h r (.head _)), this, ih, glueH]
    simp
theorem torn_split {eol : List Nat} (he : EolOk eol) : ∀ (rows : List (List Nat)) (k : Nat), rows ≠ [] → ∃ n row, rows[n]? = some row ∧ ((∃ p, p <+: row ∧ (jn eol rows).take k = flat eol (rows.take n) p) ∨ (eol = [13, 10] ∧ (jn eol rows).take k = flat eol (rows.take n) (row ++ [13])))
  | [], _, h => absurd rfl h
  | [a], k, _ => ⟨0, a, rfl, .inl ⟨a.take k, List.take_prefix _ _, by simp [flat, jn]⟩⟩
  | a :: b :: r, k, _ => by
    have hj : jn eol (a :: b :: r) = a ++ (eol ++ jn eol (b :: r)) := by rw [jn_cons (by simp), List.append_assoc]
    by_cases h1 : k ≤ a.length
    · exact ⟨0, a, rfl, .inl ⟨a.take k, List.take_prefix _ _, by rw [hj, List.take_append_of_le_length h1]; simp [flat]⟩⟩
    · by_cases h2 : a.length + eol.length ≤ k
      · obtain ⟨n, row, hr, h⟩ := torn_split he (b :: r) (k - a.length - eol.length) (by simp)
        have e : (jn eol (a :: b :: r)).take k = a ++ (eol ++ (jn eol (b :: r)).take (k - a.length - eol.length)) := by
          rw [hj, List.take_append, List.take_of_length_le (by omega : a.length ≤ k), List.take_append, List.take_of_length_le (by omega : eol.length ≤ k - a.length)]
        refine ⟨n + 1, row, by simpa using hr, ?_⟩
        rw [e, List.take_succ_cons]
        rcases h with ⟨p, hp, h⟩ | ⟨h3, h⟩
        · exact .inl ⟨p, hp, by rw [h, flat_cons]⟩
        · exact .inr ⟨h3, by rw [h, flat_cons]⟩
      · rcases he with rfl | ⟨c, rfl, -⟩
        · have hk : k = a.length + 1 := by simp at h2; omega
          refine ⟨0, a, rfl, .inr ⟨rfl, ?_⟩⟩
          rw [hj, hk, List.take_append, List.take_of_length_le (by omega : a.length ≤ a.length + 1), show a.length + 1 - a.length = 1 by omega]
          simp [flat]
        · simp at h2; omega
/-! ## tokens of a torn row -/
theorem TK_pre {s : List Nat} {ws : List (Nat × Nat)} {held : List Nat} (h : TK s ws held) : (∀ q ∈ ws, q.1 < 256) → ∀ p, p <+: s → ∃ ws' held', TK p ws' held' ∧ held'.length ≤ 2 ∧ ∀ q ∈ ws', q.1 < 256 := by
  have nilc : ∃ ws' held', TK [] ws' held' ∧ held'.length ≤ 2 ∧ ∀ q ∈ ws', q.1 < 256 := ⟨[], [], .nil, by simp, by simp⟩
  have eqc : ∃ ws' held', TK [61] ws' held' ∧ held'.length ≤ 2 ∧ ∀ q ∈ ws', q.1 < 256 := ⟨[], [61], .eq, by simp, by simp⟩
  have eqh : ∀ h ∈ hexU, ∃ ws' held', TK [61, h] ws' held' ∧ held'.length ≤ 2 ∧ ∀ q ∈ ws', q.1 < 256 := fun h hh => ⟨[], [61, h], .eqh hh, by simp, by simp⟩
  induction h with
  | nil => intro _ p hp; rw [List.prefix_nil] at hp; subst hp; exact nilc
  | eq =>
    intro _ p hp
    cases p with
    | nil => exact nilc
    | cons x p =>
      obtain ⟨e1, hp1⟩ := List.cons_prefix_cons.mp hp; subst e1
      rw [List.prefix_nil] at hp1; subst hp1; exact eqc
  | @eqh h hh =>
    intro _ p hp
    cases p with
    | nil => exact nilc
    | cons x p =>
      obtain ⟨e2, hp2⟩ := List.cons_prefix_cons.mp hp; subst e2
      cases p with
      | nil => exact eqc
      | cons y p =>
        obtain ⟨e3, hp3⟩ := List.cons_prefix_cons.mp hp2; subst e3
        rw [List.prefix_nil] at hp3; subst hp3; exact eqh _ hh
  | @lit b s ws held hb _ ih =>
    intro hq p hp
    cases p with
    | nil => exact nilc
    | cons x p =>
      obtain ⟨e4, hp4⟩ := List.cons_prefix_cons.mp hp; subst e4
      obtain ⟨ws', held', t, l, o⟩ := ih (fun q hm => hq q (.tail _ hm)) p hp4
      refine ⟨(x, 1) :: ws', held', .lit hb t, l, fun q hm => ?_⟩
      rcases List.mem_cons.mp hm with rfl | hm
      · exact hq _ (.head _)
      · exact o q hm
  | @tok a b s ws held ha hb _ ih =>
    intro hq p hp
    match p, hp with
    | [], _ => exact nilc
    | [x], hp => obtain ⟨e5, hp5⟩ := List.cons_prefix_cons.mp hp; subst e5; exact eqc
    | [x, y], hp =>
      obtain ⟨e6, hp6⟩ := List.cons_prefix_cons.mp hp; subst e6
      obtain ⟨e7, hp7⟩ := List.cons_prefix_cons.mp hp6; subst e7
      exact eqh _ ha
    | x :: y :: z :: p, hp =>
      obtain ⟨e8, hp8⟩ := List.cons_prefix_cons.mp hp; subst e8
      obtain ⟨e9, hp9⟩ := List.cons_prefix_cons.mp hp8; subst e9
      obtain ⟨e10, hp10⟩ := List.cons_prefix_cons.mp hp9; subst e10
      obtain ⟨ws', held', t, l, o⟩ := ih (fun q hm => hq q (.tail _ hm)) p hp10
      refine ⟨_, held', .tok ha hb t, l, fun q hm => ?_⟩
      rcases List.mem_cons.mp hm with rfl | hm
      · exact hq _ (.head _)
      · exact o q hm
theorem space_plain {a : Nat} (h : plainC a) : Unicode.isSpace a = [32, 9].contains a := by
  have : ∀ a < 127, (a = 9 ∨ 32 ≤ a) → Unicode.isSpace a = [32, 9].contains a := by decide
  exact this a (by rcases h with rfl | h <;> omega) (by rcases h with rfl | h <;> omega)
theorem takeWhile_congr' {f g : Nat → Bool} : ∀ {l : List Nat}, (∀ a ∈ l, f a = g a) → l.takeWhile f = l.takeWhile g
  | [], _ => rfl
  | a :: l, h => by rw [List.takeWhile_cons, List.takeWhile_cons, h a (.head _), takeWhile_congr' (fun x hx => h x (.tail _ hx))]
theorem rs_plain {p : List Nat} (h : Plain p) : rsB Unicode.isSpace p = rsB ([32, 9].contains ·) p := by
  unfold rsB
  rw [takeWhile_congr' (f := Unicode.isSpace) (g := ([32, 9].contains ·)) fun a ha => space_plain (h a (List.mem_reverse.mp ha))]
theorem rs_full {p : List Nat} (h : Plain p) (hb : ∀ x, p.getLast? = some x → ¬ blank x) : rsB Unicode.isSpace p = p := by
  rw [rs_plain h]
  unfold rsB
  have : p.reverse.takeWhile ([32, 9].contains ·) = [] := by
    cases e : p.reverse with
    | nil => rfl
    | cons x l =>
      rw [List.takeWhile_cons, if_neg]
      intro z
      refine hb x ?_ (by simpa [blank] using z)
      rw [← List.head?_reverse, e]; rfl
  rw [this]; simp
theorem rs_pre (g : Nat → Bool) (p : List Nat) : rsB g p <+: p := List.take_prefix _ _
theorem row_ct {r : Rw} (h : Shape r) (mark : List Nat) : TK (rsB Unicode.isSpace r.t) r.ws r.held ∧ ct mark (rsB Unicode.isSpace r.t) r.ws r.held = if r.on = true then r.text else r.text ++ mark := by
  rw [rs_full h.plain h.noblank]
  refine ⟨h.tk, ?_⟩
  unfold ct
  by_cases ht : r.t = []
  · rw [if_pos ht]
    have hk := h.tk
    rw [ht] at hk
    cases e : r.ws with
    | nil =>
      have hh : r.held = [] := by rw [e] at hk; generalize r.held = q at hk; cases hk; rfl
      simp [Rw.on, Rw.text, e, hh]
    | cons x l => rw [e] at hk; cases hk
  · rw [if_neg ht]
    unfold Mine.tail Rw.on
    rcases h.held with hh | hh
    · simp [hh, Rw.text]
    · simp [hh, Rw.text]
end Mine
end
section
open PySem PySem.W PyProof.Rows PySem.Builtin.Str
namespace Mine
theorem flat_le {m : Nat} : ∀ {l : List (List Nat)}, (∀ x ∈ l, x.length ≤ m) → l.flatten.length ≤ l.length * m
  | [], _ => by simp
  | a :: l, h => by
    have := flat_le (l := l) (fun x hx => h x (.tail _ hx))
    have := h a (.head _)
    simp only [List.flatten_cons, List.length_append, List.length_cons, Nat.succ_mul]
    omega
theorem TK_wl {s : List Nat} {ws : List (Nat × Nat)} {held : List Nat} (h : TK s ws held) : ws.length + held.length ≤ s.length := by
  induction h with
  | nil => simp
  | eq => simp
  | eqh _ => simp
  | lit _ _ ih => simp only [List.length_cons]; omega
  | tok _ _ _ ih => simp only [List.length_cons]; omega
theorem dropE_snoc (l : List (List Nat)) (p : List Nat) : dropE (l ++ [p]) = l ++ (if p = [] then [] else [p]) := by
  rw [dropE_eq _ (by simp), List.getLast?_concat, List.dropLast_concat]
  by_cases h : p = []
  · subst h; simp
  · rw [if_neg (by simpa using h), if_neg h]
structure TornOk (torn eol mark : List Nat) (RS : List Rw) (cs : List (List Nat)) (ws : List (Nat × Nat)) (held : List Nat) (parts : List (List Nat)) (last : List Nat) : Prop where
  hc : ∀ (i : Nat) (t : List Nat), (lns torn)[i]? = some t → ∃ ws held, TK (rsB Unicode.isSpace t) ws held ∧ cs[i]? = some (ct mark (rsB Unicode.isSpace t) ws held)
  hcl : cs.length = (lns torn).length
  hz1 : ∀ t ∈ lns torn, t.length ≤ 1000
  hz2 : cs.flatten.length ≤ 100000
  hparts : sp eol (sentX torn eol) 0 = parts
  hlast : parts.getLast? = some last
  hT : TK (rsB ([32, 9].contains ·) last) ws held
  hoct : ∀ p ∈ ws, p.1 < 256
  hheld : held.length ≤ 2
  z2 : parts.length ≤ 1000
  z6 : last.length ≤ 1000
  same : decF torn mark cs.flatten = tellF torn mark (toldB RS (parts.length - 1) mark ++ ws.map (·.1) ++ (if held = [61] then [] else held)) last held
theorem torn_main {torn eol mark : List Nat} {RS : List Rw} (hs : ∀ q ∈ RS, Shape q) (hR : RS.length ≤ 200) (hT : ∀ q ∈ RS, q.t.length ≤ 200) (hm : mark.length ≤ 10) {m : Nat} {p row : List Nat} (hmn : m ≤ RS.length)
    (hrow : p ≠ [] → ∃ q ∈ RS, p <+: q.t)
    (hl : lns torn = (RS.take m).map Rw.t ++ (if p = [] then [] else [p])) (hp : sp eol (sentX torn eol) 0 = (RS.take m).map Rw.t ++ [p])
    (h0 : torn = [] → m = 0 ∧ p = []) (hpl : p ≠ [] → torn.getLast? = p.getLast?) : ∃ cs ws held parts last, TornOk torn eol mark RS cs ws held parts last := by
  have hpp : Plain p := by
    by_cases h : p = []
    · subst h; intro a ha; cases ha
    · obtain ⟨q, hq, hpq⟩ := hrow h
      exact fun a ha => (hs q hq).plain a (hpq.subset ha)
  have hplen : p.length ≤ 200 := by
    by_cases h : p = []
    · subst h; simp
    · obtain ⟨q, hq, hpq⟩ := hrow h
      exact Nat.le_trans hpq.length_le (hT q hq)
  obtain ⟨ws, held, hTK, hheld, hoct⟩ : ∃ ws held, TK (rsB Unicode.isSpace p) ws held ∧ held.length ≤ 2 ∧ ∀ q ∈ ws, q.1 < 256 := by
    by_cases h : p = []
    · subst h; exact ⟨[], [], .nil, by simp, by simp⟩
    · obtain ⟨q, hq, hpq⟩ := hrow h
      exact TK_pre (hs q hq).tk (hs q hq).oct _ ((rs_pre _ _).trans hpq)
  have htake : ∀ q ∈ RS.take m, q ∈ RS := fun q hq => List.mem_of_mem_take hq
  have hml : (RS.take m).length = m := by rw [List.length_take]; omega
  have hwl := TK_wl hTK
  have hrl : (rsB Unicode.isSpace p).length ≤ p.length := (rs_pre _ _).length_le
  refine ⟨((RS.take m).map fun q => if q.on = true then q.text else q.text ++ mark) ++ (if p = [] then [] else [ct mark (rsB Unicode.isSpace p) ws held]), ws, held, (RS.take m).map Rw.t ++ [p], p, ?_, ?_, ?_, ?_, hp, by rw [List.getLast?_concat], by rw [← rs_plain hpp]; exact hTK, hoct, hheld, ?_, by omega, ?_⟩
  · intro i t ht
    rw [hl] at ht
    by_cases hi : i < m
    · rw [List.getElem?_append_left (by rw [List.length_map, hml]; exact hi), List.getElem?_map] at ht
      rw [List.getElem?_append_left (by rw [List.length_map, hml]; exact hi), List.getElem?_map]
      cases e : (RS.take m)[i]? with
      | none => rw [e] at ht; cases ht
      | some q =>
        rw [e] at ht
        cases ht
        have hq := hs q (htake q (List.mem_of_getElem? e))
        have := row_ct hq mark
        exact ⟨q.ws, q.held, this.1, by rw [this.2]; rfl⟩
    · rw [List.getElem?_append_right (by rw [List.length_map, hml]; omega), List.length_map, hml] at ht
      rw [List.getElem?_append_right (by rw [List.length_map, hml]; omega), List.length_map, hml]
      by_cases h : p = []
      · rw [if_pos h] at ht; simp at ht
      · rw [if_neg h] at ht ⊢
        cases hk : i - m with
        | zero => rw [hk] at ht; simp at ht; subst ht; exact ⟨ws, held, hTK, rfl⟩
        | succ k => rw [hk] at ht; simp at ht
  · rw [hl]
    by_cases h : p = [] <;> simp [h]
  · intro t ht
    rw [hl] at ht
    rcases List.mem_append.mp ht with ht | ht
    · obtain ⟨q, hq, rfl⟩ := List.mem_map.mp ht
      have := hT q (htake q hq); omega
    · by_cases h : p = []
      · rw [if_pos h] at ht; cases ht
      · rw [if_neg h, List.mem_singleton] at ht; subst ht; omega
  · refine Nat.le_trans (flat_le (m := 400) ?_) ?_
    · intro x hx
      rcases List.mem_append.mp hx with hx | hx
      · obtain ⟨q, hq, rfl⟩ := List.mem_map.mp hx
        have h1 := hT q (htake q hq)
        have h2 := TK_wl (hs q (htake q hq)).tk
        have h3 : q.text.length = q.ws.length := by simp [Rw.text]
        split
        · omega
        · rw [List.length_append]; omega
      · by_cases h : p = []
        · rw [if_pos h] at hx; cases hx
        · rw [if_neg h, List.mem_singleton] at hx
          subst hx
          unfold ct Mine.tail
          split
          · omega
          · split
            · simp; omega
            · simp only [List.length_append, List.length_map]; omega
    · have : (((RS.take m).map fun q => if q.on = true then q.text else q.text ++ mark) ++ (if p = [] then [] else [ct mark (rsB Unicode.isSpace p) ws held])).length ≤ 201 := by
        rw [List.length_append, List.length_map, hml]
        split <;> simp <;> omega
      omega
  · rw [List.length_append, List.length_map, hml]; simp; omega
  · have e1 : ((RS.take m).map Rw.t ++ [p]).length - 1 = m := by rw [List.length_append, List.length_map, hml]; rfl
    rw [e1, List.flatten_append]
    have e2 : ((RS.take m).map fun q => if q.on = true then q.text else q.text ++ mark).flatten = toldB RS m mark := rfl
    rw [e2]
    unfold decF tellF
    by_cases ht : torn = []
    · obtain ⟨rfl, rfl⟩ := h0 ht
      subst ht
      have hw : ws = [] ∧ held = [] := by
        have : rsB Unicode.isSpace [] = [] := rfl
        rw [this] at hTK
        cases hTK; exact ⟨rfl, rfl⟩
      obtain ⟨rfl, rfl⟩ := hw
      have : toldB RS 0 mark = [] := by simp [toldB]
      rw [if_pos rfl, this]
      simp
    · rw [if_neg ht]
      have hgl : torn.getLast? = some (torn.getLastD 0) := by rw [List.getLastD_eq_getLast?, List.getLast?_eq_some_getLast ht]; rfl
      by_cases hcr : torn.getLastD 0 = 13 ∨ torn.getLastD 0 = 10
      · have hpn : p = [] := by
          apply Classical.byContradiction
          intro h
          have h2 := hpl h
          rw [hgl] at h2
          have h3 : torn.getLastD 0 ∈ p := List.mem_of_getLast? h2.symm
          rcases hpp _ h3 with z | z <;> omega
        subst hpn
        have hw : ws = [] ∧ held = [] := by
          have : rsB Unicode.isSpace [] = [] := rfl
          rw [this] at hTK
          cases hTK; exact ⟨rfl, rfl⟩
        obtain ⟨rfl, rfl⟩ := hw
        have hd : decide (torn.getLastD 0 ∈ [13, 10]) = true := decide_eq_true (by simpa using hcr)
        have h13 : torn.getLast? = some 13 ∨ torn.getLast? = some 10 := by rw [hgl]; simpa using hcr
        rw [hd, if_neg (by simp), if_pos h13]
        simp
      · have e3 : (!decide (torn.getLastD 0 ∈ [13, 10])) = true := by
          simp only [Bool.not_eq_true', decide_eq_false_iff_not]
          simpa using hcr
        rw [e3, Bool.true_and]
        rw [if_neg (show ¬ (torn.getLast? = some 13 ∨ torn.getLast? = some 10) by rw [hgl]; simpa using hcr)]
        by_cases hmk : mark = []
        · subst hmk
          rw [if_pos (show decide (([] : List Nat) <:+ _) = true by simp), if_pos rfl]
          have := cut_b ((toldB RS m []) ++ (if p = [] then [] else [ct [] (rsB Unicode.isSpace p) ws held]).flatten) 0
          simpa using this
        · rw [if_neg hmk]
          have hmp : 0 < mark.length := List.length_pos_iff.mpr hmk
          rw [cut_nk _ _ hmp]
          by_cases hpn : p = []
          · subst hpn
            have hw : ws = [] ∧ held = [] := by
              have : rsB Unicode.isSpace [] = [] := rfl
              rw [this] at hTK
              cases hTK; exact ⟨rfl, rfl⟩
            obtain ⟨rfl, rfl⟩ := hw
            simp
          · rw [if_neg hpn]
            simp only [List.flatten_cons, List.flatten_nil, List.append_nil]
            unfold ct Mine.tail
            by_cases htn : rsB Unicode.isSpace p = []
            · rw [htn] at hTK
              have hw : ws = [] ∧ held = [] := by cases hTK; exact ⟨rfl, rfl⟩
              obtain ⟨rfl, rfl⟩ := hw
              rw [if_pos htn, if_pos (by simp)]
              simp [hpn]
            · rw [if_neg htn]
              by_cases hh : held = [61]
              · subst hh
                simp
              · rw [if_neg hh, if_neg hh]
                have e : toldB RS m mark ++ (ws.map (fun x => x.1) ++ (held ++ mark)) = (toldB RS m mark ++ ws.map (fun x => x.1) ++ held) ++ mark := by simp
                rw [e, if_pos (decide_eq_true (List.suffix_append _ _)), if_neg (by rintro ⟨z | z, _⟩ <;> contradiction), List.length_append (as := toldB RS m mark ++ ws.map (fun x => x.1) ++ held), Nat.add_sub_cancel, List.take_left]
end Mine
end
section
open PySem PySem.W PyProof.Rows PySem.Builtin.Str
namespace Mine
theorem flat_snoc (eol : List Nat) (rows : List (List Nat)) (r x : List Nat) : flat eol (rows ++ [r]) x = flat eol rows (r ++ (eol ++ x)) := by simp [flat]
theorem torn_ok {eol mark : List Nat} {RS : List Rw} (he : EolOk eol) (hs : ∀ q ∈ RS, Shape q) (hn : RS ≠ []) (hR : RS.length ≤ 200) (hT : ∀ q ∈ RS, q.t.length ≤ 200) (hm : mark.length ≤ 10) (k : Nat) :
    ∃ cs ws held parts last, TornOk ((jn eol (RS.map Rw.t)).take k) eol mark RS cs ws held parts last := by
  obtain ⟨n, row, hrow, h⟩ := torn_split he (RS.map Rw.t) k (by simpa using hn)
  rw [List.getElem?_map] at hrow
  cases e : RS[n]? with
  | none => rw [e] at hrow; cases hrow
  | some q =>
    rw [e] at hrow
    cases hrow
    have hq : q ∈ RS := List.mem_of_getElem? e
    have hnl : n < RS.length := (List.getElem?_eq_some_iff.mp e).1
    have hpl : ∀ m, ∀ r ∈ (RS.take m).map Rw.t, Plain r := by
      intro m r hr
      obtain ⟨z, hz, rfl⟩ := List.mem_map.mp hr
      exact (hs z (List.mem_of_mem_take hz)).plain
    rcases h with ⟨p, hp, ht⟩ | ⟨rfl, ht⟩
    · rw [← List.map_take] at ht
      have hpp : Plain p := fun a ha => (hs q hq).plain a (hp.subset ha)
      have hh : eol = [13] → p.head? ≠ some 10 := by
        intro _ z
        rcases hpp 10 (List.mem_of_head? z) with y | y <;> omega
      have hsx : sentX (flat eol ((RS.take n).map Rw.t) p) eol = flat eol ((RS.take n).map Rw.t) p := by
        unfold sentX
        rw [if_neg]
        rintro ⟨rfl, z⟩
        by_cases hpn : p = []
        · subst hpn
          rcases List.eq_nil_or_concat ((RS.take n).map Rw.t) with h0 | ⟨l, r, h0⟩
          · rw [h0] at z; simp [flat] at z
          · rw [List.concat_eq_append] at h0
            rw [h0, flat_snoc] at z
            have : flat [13, 10] l (r ++ ([13, 10] ++ [])) = (flat [13, 10] l (r ++ [13])) ++ [10] := by simp [flat]
            rw [this, List.getLast?_concat] at z
            cases z
        · unfold flat at z
          rw [List.getLast?_append] at z
          cases e : p.getLast? with
          | none => exact hpn (List.getLast?_eq_none_iff.mp e)
          | some x =>
            rw [e] at z
            simp at z
            subst z
            rcases hpp 13 (List.mem_of_getLast? e) with y | y <;> omega
      rw [ht]
      refine torn_main (m := n) (p := p) (row := q.t) hs hR hT hm (by omega) (fun _ => ⟨q, hq, hp⟩) ?_ ?_ ?_ ?_
      · unfold lns
        rw [sl_flat he hh (hpl n), sl_p hpp, dropE_snoc]
      · rw [hsx, sp_flat he _ (hpl n), sp_p he hpp]
      · intro z
        have hl := congrArg List.length z
        cases h0 : RS.take n with
        | nil =>
          have : n = 0 := by
            have := congrArg List.length h0
            rw [List.length_take, List.length_nil] at this
            omega
          rw [h0] at z
          exact ⟨this, by simpa [flat] using z⟩
        | cons a l =>
          obtain ⟨c, y', rfl, -⟩ := he.head
          rw [h0] at hl
          simp [flat] at hl
      · intro hpn
        unfold flat
        rw [List.getLast?_append]
        cases e : p.getLast? with
        | none => exact absurd (List.getLast?_eq_none_iff.mp e) hpn
        | some x => rfl
    · rw [← List.map_take] at ht
      have hm1 : (RS.take (n + 1)).map Rw.t = (RS.take n).map Rw.t ++ [q.t] := by
        rw [List.take_add_one, e]; simp
      rw [ht]
      refine torn_main (m := n + 1) (p := []) (row := q.t) hs hR hT hm (by omega) (fun h => absurd rfl h) ?_ ?_ ?_ ?_
      · unfold lns
        rw [sl_flat he (fun h => by cases h) (hpl n), sl_plain (hs q hq).plain, if_pos rfl, List.append_nil, hm1]
        have : sl [13] 0 = [[], []] := by decide
        rw [this, glueH, List.append_nil]
        rw [show [q.t, []] = [q.t] ++ [[]] from rfl, ← List.append_assoc, dropE_snoc]
        simp
      · have : sentX (flat [13, 10] ((RS.take n).map Rw.t) (q.t ++ [13])) [13, 10] = flat [13, 10] ((RS.take (n + 1)).map Rw.t) [] := by
          unfold sentX
          rw [if_pos ⟨rfl, by unfold flat; rw [← List.append_assoc, List.getLast?_concat]⟩, hm1, flat_snoc]
          simp [flat]
        rw [this, sp_flat he _ (hpl (n + 1))]
        rfl
      · intro z
        have := congrArg List.length z
        simp [flat] at this
      · intro h; exact absurd rfl h
theorem sum_le {m : Nat} : ∀ {l : List Nat}, (∀ x ∈ l, x ≤ m) → l.sum ≤ l.length * m
  | [], _ => by simp
  | a :: l, h => by
    have := sum_le (l := l) (fun x hx => h x (.tail _ hx))
    have := h a (.head _)
    simp only [List.sum_cons, List.length_cons, Nat.succ_mul]
    omega
set_option maxRecDepth 100000 in
theorem enc_void (w : World) (eol : List Nat) (mx : Nat) (hmx : 4 ≤ mx) : Fn PG w (KK w) 57 2 [.str [], .int mx, .str eol] (.str []) ∧ (mx = 76 ∧ eol = [10] → Fn PG w (KK w) 57 2 [.str []] (.str [])) := by
  have big : 1000000 ≤ sizeLine := by decide
  refine fn_of2 (ds := [.str []]) (ds' := [.int mx, .str eol]) (P := mx = 76 ∧ eol = [10]) (extra := dft w 50) (names := ["body", "maxlinelen", "eol"]) rfl rfl rfl rfl ?_ ?_
    (fun h _ _ => by obtain ⟨rfl, rfl⟩ := h; exact .cons (.int 76 _) (.cons (.str [10] _) .nil)) rfl (by decide) rfl (by decide) rfl rfl rfl rfl rfl ?_
  · intro s vs bs hl
    obtain ⟨u, v, z, rfl⟩ := len3 hl
    exact BindsTo.of_defaults rfl (bs.k 50 _ rfl) rfl rfl rfl
  · intro s vs bs hl
    obtain ⟨u, rfl⟩ := len1 hl
    exact BindsTo.of_defaults rfl (bs.k 50 _ rfl) rfl rfl rfl
  · intro L h₀ X₀ A os ok
    refine ex_cons (ex_if (v := false) ((evb_cmp (ev_var rfl) ev_int cmp_lt_int).eq (decide_eq_false (by omega))) (fun he => by cases he) (fun _ => ex_nil ?_))
    exact ex_cons (ex_if (v := true) ((evb_not (evb_str (l := []) (ev_var rfl) (by simp))).eq rfl) (fun _ => ex_cons (ex_ret (ev_var rfl) rfl)) (fun he => by cases he))
theorem tr_len : ∀ l : List Nat, (l.flatMap tr).length ≤ 3 * l.length
  | [] => by simp
  | a :: t => by
    have ih := tr_len t
    have : (tr a).length ≤ 3 := by
      unfold tr
      split
      · simp
      · exact (tok_le a).2
    rw [List.flatMap_cons, List.length_append]
    simp only [List.length_cons]; omega
structure EncOk (w : World) (body eol : List Nat) (mx : Nat) (RS : List Rw) : Prop where
  fn : Fn PG w (KK w) 57 2 [.str body, .int mx, .str eol] (.str (jn eol (RS.map Rw.t))) ∧ (mx = 76 ∧ eol = [10] → Fn PG w (KK w) 57 2 [.str body] (.str (jn eol (RS.map Rw.t))))
  ne : RS ≠ []
  shp : ∀ q ∈ RS, Shape q
  chain : ROK mx none RS
  last : ∀ q, RS.getLast? = some q → q.held = []
  tells : (RS.map fun q => if q.on = true then q.text else q.text ++ U).flatten = jn U (bl body 0) ++ U
  z1 : RS.length ≤ 86
  z2 : ∀ q ∈ RS, q.t.length ≤ 87
theorem enc_ok (w : World) (body eol : List Nat) (mx : Nat) (h4 : 4 ≤ mx) (hb : ∀ a ∈ body, a < 256) (hz : body.length ≤ 28) (he : eol.length ≤ 10) : ∃ RS, EncOk w body eol mx RS := by
  obtain ⟨pss, RS, A⟩ := all_rows eol h4 (bl body 0) (bl_bytes body 0 hb)
  have hbn := bl_ne body 0
  have hsz := bl_size body 0
  have hRn := (A.ne hbn).2
  have ht : (RS.map fun q => if q.on = true then q.text else q.text ++ U).flatten = jn U (bl body 0) ++ U := by rw [A.tells, jn_marks _ _ hbn]
  have hz1 : RS.length ≤ 86 := by have := A.z1; omega
  have hz2 : ∀ q ∈ RS, q.t.length ≤ 87 := fun q hq => by have := A.z2 q hq; omega
  refine ⟨RS, ?_, hRn, A.shp, A.chain, A.last, ht, hz1, hz2⟩
  rw [← A.jn]
  by_cases hne : body = []
  · subst hne
    have hp := A.hp 0 [] rfl
    obtain ⟨ps, r, hw, hp⟩ := hp
    have hpl : pss.length = 1 := A.pl
    have : ps = [] ∧ r = [] := by
      cases hw with
      | stop _ => exact ⟨rfl, rfl⟩
      | go h _ => simp [enc] at h
    obtain ⟨rfl, rfl⟩ := this
    have : pss = [[[]]] := by
      match pss, hpl, hp with
      | [x], _, hp =>
        simp at hp
        rw [hp]
        simp [lastp]
    rw [this]
    exact enc_void w eol mx h4
  · have hsl : lns (body.flatMap tr) = dropE ((bl body 0).map enc) := by unfold lns; rw [sl_bl body 0 hb (.inl rfl)]
    have htl := tr_last hb hne
    have hbl := bl_last body.length body (Nat.le_refl _) hne
    have hgl : ((bl body 0).map enc).getLast? = some [] ↔ (bl body 0).getLast? = some [] := by
      rw [List.getLast?_map]
      cases e : (bl body 0).getLast? with
      | none => simp
      | some x =>
        simp only [Option.map_some, Option.some.injEq]
        constructor
        · intro h; have := (enc_le x).1; rw [h] at this; simpa using this
        · rintro rfl; rfl
    have htr := tr_len body
    have hlens : ∀ t ∈ (bl body 0).map enc, t.length ≤ 10000 := by
      intro t ht
      obtain ⟨x, hx, rfl⟩ := List.mem_map.mp ht
      have h1 := (enc_le x).2
      have h2 : x.length ≤ (bl body 0).flatten.length := by
        obtain ⟨l1, l2, e⟩ := List.append_of_mem hx
        rw [e]; simp; omega
      omega
    have hsum : ((pss.flatten).map List.length).sum ≤ pss.flatten.length * 200 := by
      have := sum_le (m := 200) (l := (pss.flatten).map List.length) (by
        intro x hx
        obtain ⟨p, hp, rfl⟩ := List.mem_map.mp hx
        have := A.z4 p hp; omega)
      rwa [List.length_map] at this
    have hfl : pss.flatten.length ≤ 57 := by have := A.z3; omega
    by_cases hc : body.getLastD 0 = 13 ∨ body.getLastD 0 = 10
    · have hg := hbl.mpr hc
      obtain ⟨ls, hls⟩ : ∃ ls, bl body 0 = ls ++ [[]] := by
        rcases List.eq_nil_or_concat (bl body 0) with h | ⟨ls, x, h⟩
        · exact absurd h hbn
        · rw [List.concat_eq_append] at h
          rw [h, List.getLast?_concat] at hg
          cases hg
          exact ⟨ls, h⟩
      have hln : lns (body.flatMap tr) = ls.map enc := by
        rw [hsl, dropE_eq _ (by simp [hbn]), if_pos (hgl.mpr hg), hls]; simp
      have hpl : pss.length = ls.length + 1 := by rw [A.pl, hls]; simp
      obtain ⟨ps', x, hpx⟩ : ∃ ps' x, pss = ps' ++ [x] := by
        rcases List.eq_nil_or_concat pss with h | ⟨l, x, h⟩
        · rw [h] at hpl; simp at hpl
        · exact ⟨l, x, by rw [h, List.concat_eq_append]⟩
      have hpl' : ps'.length = ls.length := by rw [hpx] at hpl; simp at hpl; exact hpl
      have hx : x = [[]] := by
        obtain ⟨ps, r, hw, hp⟩ := A.hp ls.length [] (by rw [hls]; simp)
        rw [hpx, ← hpl'] at hp
        simp at hp
        have : ps = [] ∧ r = [] := by
          cases hw with
          | stop _ => exact ⟨rfl, rfl⟩
          | go h _ => simp [enc] at h
        obtain ⟨rfl, rfl⟩ := this
        rw [hp]; simp [lastp]
      have hfl2 : pss.flatten = ps'.flatten ++ [[]] := by rw [hpx, hx]; simp
      have := enc_fn w body eol mx h4 hb hne htl.1 ps' (by
        intro i t hi
        rw [hln, List.getElem?_map] at hi
        cases e : ls[i]? with
        | none => rw [e] at hi; cases hi
        | some z =>
          rw [e] at hi
          cases hi
          have hil := (List.getElem?_eq_some_iff.mp e).1
          obtain ⟨ps, r, hw, hp⟩ := A.hp i z (by rw [hls, List.getElem?_append_left hil]; exact e)
          exact ⟨ps, r, hw, by rw [hpx, List.getElem?_append_left (by omega)] at hp; exact hp⟩) (by rw [hln, List.length_map]; exact hpl')
        (by omega) (by omega) (by intro t ht; rw [hln] at ht; exact hlens t (by rw [hls]; simp at ht ⊢; exact .inl ht)) (by
          rw [hfl2, List.map_append, List.sum_append, List.length_append] at hsum; rw [hfl2, List.length_append] at hfl; simp only [List.length_singleton] at hsum hfl; omega) he
      rw [if_pos (htl.2.mpr hc), ← hfl2] at this
      exact this
    · have hln : lns (body.flatMap tr) = (bl body 0).map enc := by
        rw [hsl, dropE_eq _ (by simp [hbn]), if_neg (fun z => hc (hbl.mp (hgl.mp z)))]
      have := enc_fn w body eol mx h4 hb hne htl.1 pss (by
        intro i t hi
        rw [hln, List.getElem?_map] at hi
        cases e : (bl body 0)[i]? with
        | none => rw [e] at hi; cases hi
        | some z =>
          rw [e] at hi
          cases hi
          exact A.hp i z e) (by rw [hln, List.length_map]; exact A.pl)
        (by omega) (by omega) (by intro t ht; rw [hln] at ht; exact hlens t ht) (by omega) he
      rw [if_neg (fun z => hc (htl.2.mp z)), List.append_nil] at this
      exact this
end Mine
end
section
open PySem PySem.W PyProof.Rows PySem.Builtin.Str
namespace Mine
def lawBody : List Stmt := match PySem.Challenge.pw_ls0004_01.main.body.getLast? with
  | some (.FunctionDef _ _ b _ _ _ _ _ _ _) => b
  | _ => []
def lawScope : Scope := match PySem.Challenge.pw_ls0004_01.main.body.getLast? with
  | some (.FunctionDef _ _ _ _ _ _ sc _ _ _) => sc
  | _ => PySem.Challenge.pw_ls0004_01.main.scope
noncomputable abbrev lawC (w : World) (L fa : Addr) (cd : Value) (h₀ : Heap) (A : Around) (os : OsState) : Cx := ⟨KK w, envOf (Str.ofString "law") lawScope L fa cd, h₀, [], A, 2, os⟩
theorem three (ns : List Int) : ∃ a b c : Int, cut (cut (ns.map D.int) none (some 3) ++ [.int 0, .int 0, .int 0]) none (some 3) = [.int a, .int b, .int c] := by
  have e3 : (3 : Int) = ((3 : Nat) : Int) := rfl
  rw [e3, cut_b, cut_b]
  match ns with
  | [] => exact ⟨0, 0, 0, rfl⟩
  | [a] => exact ⟨a, 0, 0, rfl⟩
  | [a, b] => exact ⟨a, b, 0, rfl⟩
  | a :: b :: c :: r => exact ⟨a, b, c, by simp⟩
theorem jn_snoc (eol : List Nat) (p : List Nat) : ∀ l : List (List Nat), jn eol (l ++ [p]) = flat eol l p
  | [] => by simp [jn, flat]
  | a :: l => by rw [List.cons_append, jn_cons (by simp), jn_snoc eol p l, flat_cons, List.append_assoc]
theorem sp_rows {eol : List Nat} (he : EolOk eol) {rows : List (List Nat)} (hn : rows ≠ []) (h : ∀ r ∈ rows, Plain r) : sp eol (jn eol rows) 0 = rows := by
  rcases List.eq_nil_or_concat rows with rfl | ⟨l, p, e⟩
  · exact absurd rfl hn
  · rw [List.concat_eq_append] at e; subst e
    rw [jn_snoc, sp_flat he _ (fun r hr => h r (List.mem_append_left _ hr)), sp_p he (h p (by simp))]
theorem jn_len {sep : List Nat} {m : Nat} : ∀ {l : List (List Nat)}, (∀ x ∈ l, x.length ≤ m) → (jn sep l).length ≤ l.length * (m + sep.length)
  | [], _ => by simp [jn]
  | [a], h => by have := h a (.head _); simp [jn]; omega
  | a :: b :: r, h => by
    have ih := jn_len (sep := sep) (l := b :: r) (fun x hx => h x (.tail _ hx))
    have := h a (.head _)
    rw [jn, List.length_append, List.length_append, List.length_cons, Nat.succ_mul]
    omega
theorem rp_len (y : List Nat) (u : Nat) : ∀ (l : List Nat) (k : Nat), (rp y [u] l k).length ≤ l.length
  | [], _ => by simp [rp]
  | _ :: t, k + 1 => by have := rp_len y u t k; rw [rp]; simp only [List.length_cons]; omega
  | a :: t, 0 => by
    rw [rp]
    split
    · have := rp_len y u t (y.length - 1); simp only [List.length_append, List.length_cons, List.length_nil]; omega
    · have := rp_len y u t 0; simp only [List.length_cons]; omega
theorem rep_len (y l : List Nat) : (jn U (sp y l 0)).length ≤ l.length := by rw [jn_sp]; exact rp_len y 8232 l 0
theorem ahead_last {rs : List Rw} (h : ∀ q, rs.getLast? = some q → q.held = []) : aheadOf rs rs.length = [] := by
  unfold aheadOf
  cases hl : rs.length with
  | zero => rfl
  | succ n =>
    show (match rs[n]? with | none => [] | some q => q.ah) = []
    have : rs.getLast? = rs[n]? := by rw [List.getLast?_eq_getElem?, hl]; rfl
    cases e : rs[n]? with
    | none => rfl
    | some q =>
      have := h q (this.trans e)
      show q.ah = []
      unfold Rw.ah
      rw [this]; rfl
theorem text_sum (RS : List Rw) : (RS.map fun q => q.text.length).sum ≤ ((RS.map fun q => if q.on = true then q.text else q.text ++ U).flatten).length := by
  induction RS with
  | nil => simp
  | cons a l ih =>
    simp only [List.map_cons, List.sum_cons, List.flatten_cons, List.length_append]
    have : a.text.length ≤ (if a.on = true then a.text else a.text ++ U).length := by split <;> simp
    omega
theorem ends_len : ∀ e ∈ ends, e.length ≤ 10 ∧ e ≠ [] := by decide
end Mine
end
section
open PySem PySem.W PyProof.Rows PySem.Builtin.Str
namespace Mine
set_option maxRecDepth 100000 in
set_option maxHeartbeats 2000000 in
theorem law_three (w : World) (L fa : Addr) (cd : Value) (h₀ : Heap) (A : Around) (os : OsState) (ns : List Int) (hn : ns.length ≤ 63)
    (first second third kind asked : Int) (body eol mark : List Nat) (hb : ∀ a ∈ body, a < 256) (hbl : body.length ≤ 28) (he : eol ∈ ends) (hm : mark.length ≤ 4)
    (hk : kind = 13 → asked = 76 ∧ eol = [10]) (ht : third % 8 = 0 → mark = [10]) :
    ExT PG w (lawC w L fa cd h₀ A os) [] [vS "between" mark, vS "ending" eol, vI "asked" asked, vI "kind" kind, vS "body" body, vI "third" third, vI "second" second, vI "first" first, vV "script" (.lst (ns.map .int))] (lawBody.drop 7) (fun o => o = .ret (.bool true)) := by
  have big : 1000000 ≤ sizeLine := by decide
  have heo := ends_ok eol he
  obtain ⟨hel, hen⟩ := ends_len eol he
  obtain ⟨mx, hmx⟩ : ∃ mx : Nat, (mx : Int) = max asked 4 := ⟨(max asked 4).toNat, by rw [Int.toNat_of_nonneg]; omega⟩
  obtain ⟨RS, E⟩ := enc_ok w body eol mx (by omega) hb hbl hel
  have hlen : (jn eol (RS.map Rw.t)).length ≤ 9000 := by
    have h1 := jn_len (sep := eol) (m := 87) (l := RS.map Rw.t) (by
      intro x hx
      obtain ⟨q, hq, rfl⟩ := List.mem_map.mp hx
      exact E.z2 q hq)
    rw [List.length_map] at h1
    have h2 : RS.length * (87 + eol.length) ≤ 86 * 97 := Nat.mul_le_mul E.z1 (by omega)
    omega
  have hsp : sp eol (jn eol (RS.map Rw.t)) 0 = RS.map Rw.t := sp_rows heo (by simpa using E.ne) (by
    intro r hr
    obtain ⟨q, hq, rfl⟩ := List.mem_map.mp hr
    exact (E.shp q hq).plain)
  have htx : ∀ q ∈ RS, q.text.length ≤ 200 := fun q hq => by
    have h1 := TK_wl (E.shp q hq).tk
    have h2 := E.z2 q hq
    have h3 : q.text.length = q.ws.length := by simp [Rw.text]
    omega
  have hts : (RS.map fun q => q.text.length).sum ≤ 100000 := by
    have := sum_le (m := 200) (l := RS.map fun q => q.text.length) (by
      intro x hx
      obtain ⟨q, hq, rfl⟩ := List.mem_map.mp hx
      exact htx q hq)
    rw [List.length_map] at this
    have := E.z1
    omega
  have z1 := E.z1
  generalize hlet : jn eol (RS.map Rw.t) = letter at hlen hsp
  refine ext_cons (ex_asg (d := .str letter) (ev_ite (evb_cmp (ev_var rfl) ev_int cmp_eq_int)
    (fun h => ev_call (evV_glob rfl rfl) (Nat.le_refl 2) (evall_cons (ev_var rfl) evall_nil) (hlet ▸ E.fn.2 (by have := hk (by simpa using h); exact ⟨by omega, this.2⟩)) rfl rfl ⟨_, _, rfl⟩)
    (fun h => ev_call (evV_glob rfl rfl) (Nat.le_refl 2) (evall_cons (ev_var rfl) (evall_cons ((ev_max (evV_blt rfl rfl rfl) (evall_cons (ev_var rfl) (evall_cons ev_int evall_nil))).eq (congrArg D.int hmx.symm)) (evall_cons (ev_var rfl) evall_nil))) (hlet ▸ E.fn.1) rfl rfl ⟨_, _, rfl⟩)) ?_)
  refine ext_cons (ex_asg (ev_call (evV_glob rfl rfl) (Nat.le_refl 2) (evall_cons ((ev_split (ev_var rfl) (ev_var rfl) hen (by omega) ?_ (split_all _ _ hen)).eq (congrArg (fun x => D.lst (x.map D.str)) hsp))
    (evall_cons ((ev_max (evV_blt rfl rfl rfl) (evall_cons (ev_var rfl) (evall_cons ev_int evall_nil))).eq (congrArg D.int hmx.symm)) evall_nil))
    (rows_fn w mx RS (ROK_rows E.chain) (ahead_last E.last) (by omega) (fun r hr => by have := E.z2 r hr; omega)) rfl rfl ⟨_, _, rfl⟩) ?_)
  · have := congrArg List.length (parts_sp letter eol hen)
    rw [List.length_map, hsp, List.length_map] at this
    omega
  refine ext_cons (ex_if (v := false) (evb_cmp (ev_var rfl) ev_none cmp_is_none_lst) (fun h => by cases h) (fun _ => ex_nil ?_))
  refine ext_asg (ev_replaceT (a := [10]) (b := U) (m := jn U (bl body 0)) (ev_replaceT (a := [13]) (b := U) (ev_replaceT (a := [13, 10]) (b := U) (ev_var rfl).t rfl rfl (by decide) (by omega) (by decide) (replace_list _ _ _ (by decide))) rfl rfl (by decide) ?_ (by decide) (replace_list _ _ _ (by decide))) rfl rfl (by decide) ?_ (by decide) (by rw [replace_list _ _ _ (by decide)]; exact plain_eq body)) ?_
  · have := rep_len [13, 10] body; omega
  · have h1 := rep_len [13, 10] body
    have h2 := rep_len [13] (jn U (sp [13, 10] body 0)); omega
  have hpl : (jn U (bl body 0)).length ≤ 1000 := by
    rw [← plain_eq]
    have h1 := rep_len [13, 10] body
    have h2 := rep_len [13] (jn U (sp [13, 10] body 0))
    have h3 := rep_len [10] (jn U (sp [13] (jn U (sp [13, 10] body 0)) 0)); omega
  refine ex_cons (ex_if (v := false) ((evb_cmp (ev_join (ts := RS.map fun r => if r.on = true then r.text else r.text ++ U) (ev_str (l := []) rfl) ((ev_comp (compP (fr := []) RS (fun r => .str r.text) (fun r => .bool r.on) (fun r => .str (if r.on = true then r.text else r.text ++ U))
      ((ev_var rfl).eq rfl) (by omega) (fun _ _ h => by cases h)
      (fun C acc r hr => ev_ite (b := r.on) (evb_bool (ev_var rfl)) (fun hb => by rw [if_pos hb]; exact ev_var rfl) (fun hb => by
        rw [if_neg (by rw [hb]; simp)]
        refine ev_cat (ev_var rfl) (ev_str rfl) ?_
        have := htx r hr
        show r.text.length + 1 ≤ sizeLine
        omega)))).eq (by rw [List.map_map]; rfl)) (join_ok ?_ (by simp)) (join_list _ _)) (ev_cat (ev_var rfl) (ev_str (l := U) rfl) ?_) cmp_ne_str).eq ?_) (fun h => by cases h) (fun _ => ex_nil ?_))
  · have := sum_le (m := 201) (l := (RS.map fun r => if r.on = true then r.text else r.text ++ U).map List.length) (by
      intro x hx
      obtain ⟨y, hy, rfl⟩ := List.mem_map.mp hx
      obtain ⟨q, hq, rfl⟩ := List.mem_map.mp hy
      have := htx q hq
      split
      · omega
      · rw [List.length_append]; show _ + 1 ≤ _; omega)
    rw [List.length_map, List.length_map] at this
    rw [List.length_map]
    omega
  · show _ + 1 ≤ _; omega
  · rw [jn_nil, E.tells]; simp
  have hc24 : cut (ns.map D.int) none (some 24) = (ns.take 24).map D.int := by
    rw [show (24 : Int) = ((24 : Nat) : Int) from rfl, cut_b, List.map_take]
  obtain ⟨k, hkk⟩ : ∃ k : Nat, (letter.length : Int) - (ns.take 24).sum % ((letter.length : Int) + 1) = k :=
    ⟨((letter.length : Int) - (ns.take 24).sum % ((letter.length : Int) + 1)).toNat, by
      have h1 := Int.emod_lt_of_pos (ns.take 24).sum (show (0 : Int) < (letter.length : Int) + 1 by omega)
      rw [Int.toNat_of_nonneg]; omega⟩
  refine ex_cons (ex_asg (d := .str (letter.take k)) ((ev_cut (ev_var rfl) .none (.some (ev_sub (ev_len_str (evV_blt rfl rfl rfl) (ev_var rfl) (by omega)) (ev_mod (ev_sum (evV_blt rfl rfl rfl) ((ev_cutL (ev_var rfl) .none (.some ev_int) (by rw [List.length_map]; omega)).eq (congrArg D.lst hc24)))
    (ev_add (ev_len_str (evV_blt rfl rfl rfl) (ev_var rfl) (by omega)) ev_int) (by omega)))) (by omega)).eq (by rw [hkk, cut_b])) ?_)
  have hm10 : mark.length ≤ 10 := by omega
  have htk : (letter.take k).length ≤ 9000 := by rw [List.length_take]; omega
  obtain ⟨cs, ws, held, parts, last, T⟩ := torn_ok (mark := mark) heo E.shp E.ne (by omega) (fun q hq => by have := E.z2 q hq; omega) hm10 k
  obtain ⟨cs', ws', held', parts', last', T'⟩ := torn_ok (mark := mark) heo E.shp E.ne (by omega) (fun q hq => by have := E.z2 q hq; omega) hm10 letter.length
  rw [hlet] at T T'
  rw [List.take_length] at T'
  have z2 := T.z2
  have z6 := T.z6
  have z2' := T'.z2
  have z6' := T'.z6
  have D1 := decode_fn w (letter.take k) mark cs T.hc T.hcl (by omega) (fun t h => by have := T.hz1 t h; omega) T.hz2 (by omega)
  have D2 := decode_fn w letter mark cs' T'.hc T'.hcl (by omega) (fun t h => by have := T'.hz1 t h; omega) T'.hz2 (by omega)
  have G1 := told_fn w (letter.take k) eol mark RS ws held parts last hen T.hparts T.hlast T.hT T.hoct T.hheld (by omega) (by omega) (by omega) hts hm10 (by omega) hel
  have G2 := told_fn w letter eol mark RS ws' held' parts' last' hen T'.hparts T'.hlast T'.hT T'.hoct T'.hheld (by omega) (by omega) (by omega) hts hm10 (by omega) hel
  rw [← T.same] at G1
  rw [← T'.same] at G2
  refine ex_cons (ex_if (v := false) ((evb_cmp (ev_call (evV_glob rfl rfl) (Nat.le_refl 2) (evall_cons (ev_var rfl) (evall_cons (ev_var rfl) evall_nil)) D1.1 rfl rfl ⟨_, _, rfl⟩)
    (ev_call (evV_glob rfl rfl) (Nat.le_refl 2) (evall_cons (ev_var rfl) (evall_cons (ev_var rfl) (evall_cons (ev_var rfl) (evall_cons (ev_var rfl) evall_nil)))) G1 rfl rfl ⟨_, _, rfl⟩) cmp_ne_str).eq (by simp)) (fun h => by cases h) (fun _ => ex_nil ?_))
  refine ex_cons (ex_asg (d := .str (decF letter mark cs'.flatten)) (ev_ite (evb_cmp (ev_mod (ev_var rfl) ev_int (by decide)) ev_int cmp_eq_int)
    (fun h => ev_call (evV_glob rfl rfl) (Nat.le_refl 2) (evall_cons (ev_var rfl) evall_nil) (D2.2 (ht (by simpa using h))) rfl rfl ⟨_, _, rfl⟩)
    (fun _ => ev_call (evV_glob rfl rfl) (Nat.le_refl 2) (evall_cons (ev_var rfl) (evall_cons (ev_var rfl) evall_nil)) D2.1 rfl rfl ⟨_, _, rfl⟩)) ?_)
  exact ex_cons (ex_ret ((ev_cmp (ev_var rfl) (ev_call (evV_glob rfl rfl) (Nat.le_refl 2) (evall_cons (ev_var rfl) (evall_cons (ev_var rfl) (evall_cons (ev_var rfl) (evall_cons (ev_var rfl) evall_nil)))) G2 rfl rfl ⟨_, _, rfl⟩) cmp_eq_str).eq (congrArg D.bool (by simp))) rfl)
end Mine
end
section
open PySem PySem.W PyProof.Rows PySem.Builtin.Str
namespace Mine
set_option maxRecDepth 100000 in
set_option maxHeartbeats 2000000 in
theorem law_two (w : World) (L fa : Addr) (cd : Value) (h₀ : Heap) (A : Around) (os : OsState) (hA : A.frames = some [(lawC w L fa cd h₀ A os).env]) (ns : List Int) (hn : ns.length ≤ 63)
    (first second third kind asked : Int) (body eol mark : List Nat) (hb : ∀ a ∈ body, a < 256) (hbl : body.length ≤ 28) (he : eol ∈ ends) (hm : mark.length ≤ 4)
    (hk : kind = 13 → asked = 76 ∧ eol = [10]) (ht : third % 8 = 0 → mark = [10]) :
    ExT PG w (lawC w L fa cd h₀ A os) [] [vS "between" mark, vS "ending" eol, vI "asked" asked, vI "kind" kind, vS "body" body, vI "third" third, vI "second" second, vI "first" first, vV "script" (.lst (ns.map .int))] (lawBody.drop 6) (fun o => o = .ret (.bool true)) := by
  have rest := law_three w L fa cd h₀ A os ns hn first second third kind asked body eol mark hb hbl he hm hk ht
  by_cases h4 : asked < 4
  · refine ext_cons (ex_if_ref ((evb_cmp (ev_var rfl) ev_int cmp_lt_int).eq (decide_eq_true h4)) (fun s R => ?_) (ex_nil rest))
    exact ev_callR (evV_glob rfl rfl) (evall_cons (ev_var rfl) (evall_cons (ev_var rfl) (evall_cons (ev_var rfl) evall_nil))) (fun s vs R r => refuses_call hA rfl rfl (Nat.le_refl 2) h4 R r) rfl rfl ⟨_, _, rfl⟩ R
  · refine ext_cons (ex_if (v := false) ((evb_and (b' := false) (evb_cmp (ev_var rfl) ev_int cmp_lt_int) (fun h => absurd (of_decide_eq_true h) h4)).eq (by simp)) (fun h => by cases h) (fun _ => ex_nil rest))
def marks (body : List Nat) (n : Nat) : List (List Nat) := [[10], [13, 10], [], [32], [9], cut body (some (-2)) none, [60, 98, 114, 62], [n]]
theorem marks_len (body : List Nat) (n : Nat) : ∀ m ∈ marks body n, m.length ≤ 4 := by
  have h2 : (cut body (some (-2)) none).length ≤ 4 := by
    rw [show (-2 : Int) = -((2 : Nat) : Int) from rfl, cut_kn _ _ (by decide), List.length_drop]; omega
  intro m hm
  simp only [marks, List.mem_cons, List.not_mem_nil, or_false] at hm
  rcases hm with rfl | rfl | rfl | rfl | rfl | rfl | rfl | rfl <;> first | exact h2 | simp
set_option maxRecDepth 100000 in
set_option maxHeartbeats 2000000 in
theorem law_ex (w : World) (L fa : Addr) (cd : Value) (h₀ : Heap) (A : Around) (os : OsState) (hA : A.frames = some [(lawC w L fa cd h₀ A os).env]) (ns : List Int) (hn : ns.length ≤ 63) :
    ExT PG w (lawC w L fa cd h₀ A os) [] [vV "script" (.lst (ns.map .int))] lawBody (fun o => o = .ret (.bool true)) := by
  have big : 1000000 ≤ sizeLine := by decide
  obtain ⟨a, b, c, hthree⟩ := three ns
  refine ext_cons (ex_unpack3 ((ev_cutL (ev_catL (ev_cutL (ev_var rfl) .none (.some ev_int) (by rw [List.length_map]; omega)) (ev_list (evall_cons ev_int (evall_cons ev_int (evall_cons ev_int evall_nil))) (by simp; omega)) ?_) .none (.some ev_int) ?_).eq (congrArg D.lst hthree)) ?_)
  · have := cut_le (ns.map D.int) none (some 3); rw [List.length_map] at this; simp; omega
  · have := cut_le (ns.map D.int) none (some 3); rw [List.length_map] at this; simp; omega
  have hc : cut (ns.map D.int) (some 3) (some 24) = ((ns.take 24).drop 3).map D.int := by
    rw [show (24 : Int) = ((24 : Nat) : Int) from rfl, show (3 : Int) = ((3 : Nat) : Int) from rfl, cut_ab, List.map_drop, List.map_take]
  have hbo := body_ok ((ns.take 24).drop 3)
  have hf := text_fn w ((ns.take 24).drop 3) (by rw [List.length_drop, List.length_take]; omega)
  generalize bodyOf ((ns.take 24).drop 3) = body at hbo hf
  refine ext_cons (ex_asg (ev_call (evV_glob rfl rfl) (show 1 ≤ 2 by decide) (evall_cons ((ev_cutL (ev_var rfl) (.some ev_int) (.some ev_int) (by rw [List.length_map]; omega)).eq (congrArg D.lst hc)) evall_nil) hf rfl rfl ⟨_, _, rfl⟩) ?_)
  refine ext_cons (ex_asg (ev_mod (ev_var rfl) ev_int (by decide)) ?_)
  generalize hkind : a % 16 = kind
  obtain ⟨asked, hasked⟩ : ∃ asked : Int, asked = if kind = 13 then 76 else if kind > 13 then a / 16 else 4 + kind := ⟨_, rfl⟩
  refine ext_cons (ex_asg (d := .int asked) (ev_ite (evb_cmp (ev_var rfl) ev_int cmp_eq_int) (fun h => ev_int.eq (congrArg D.int (by rw [hasked, if_pos (by simpa using h)])))
    (fun h => ev_ite (evb_cmp (ev_var rfl) ev_int cmp_gt_int) (fun g => (ev_div (ev_var rfl) ev_int (by decide) rfl).eq (congrArg D.int (by rw [hasked, if_neg (by simpa using h), if_pos (of_decide_eq_true g)])))
      (fun g => (ev_add ev_int (ev_var rfl)).eq (congrArg D.int (by rw [hasked, if_neg (by simpa using h), if_neg (of_decide_eq_false g)]))))) ?_)
  obtain ⟨eol, heol, hmem, h13⟩ : ∃ eol : List Nat, (kind ≠ 13 → ends[(b % 11).toNat]? = some eol) ∧ eol ∈ ends ∧ (kind = 13 → eol = [10]) := by
    by_cases h : kind = 13
    · exact ⟨[10], fun z => absurd h z, by decide, fun _ => rfl⟩
    · have hl : (b % 11).toNat < ends.length := by show _ < 11; omega
      exact ⟨ends[(b % 11).toNat], fun _ => List.getElem?_eq_getElem hl, List.getElem_mem hl, fun z => absurd z h⟩
  refine ext_cons (ex_asg (d := .str eol) (ev_ite (evb_cmp (ev_var rfl) ev_int cmp_eq_int) (fun h => (ev_str rfl).eq (congrArg D.str (h13 (by simpa using h)).symm)) (fun h => ?_)) ?_)
  · refine ev_item_lst (ds := ends.map .str) (j := b % 11) ?_ ?_ ?_ ?_ ?_ ?_
    · refine ev_list ?_ ?_
      · refine evall_strs ?_
        decide +kernel
      · show 11 ≤ sizeLine
        decide
    · exact ev_mod (ev_var rfl) ev_int (by decide)
    · show -((11 : Nat) : Int) ≤ _; omega
    · show _ < ((11 : Nat) : Int); omega
    · show 11 ≤ sizeLine
      decide
    · rw [if_neg (by omega), List.getElem?_map, heol (by simpa using h)]; rfl
  have hn8 : (0 : Int) ≤ c / 8 % 55296 := by omega
  obtain ⟨n, hnn⟩ : ∃ n : Nat, (n : Int) = c / 8 % 55296 := ⟨(c / 8 % 55296).toNat, by rw [Int.toNat_of_nonneg hn8]⟩
  have hl8 : (c % 8).toNat < (marks body n).length := by show _ < 8; omega
  obtain ⟨mark, hmark⟩ : ∃ mark, (marks body n)[(c % 8).toNat]? = some mark := ⟨_, List.getElem?_eq_getElem hl8⟩
  refine ext_cons ?_
  refine ex_asg (d := .str mark) ?_ ?_ ?_ ?_
  · refine ev_item_lst (ds := (marks body n).map .str) (j := c % 8) ?_ ?_ ?_ ?_ ?_ ?_
    · refine ev_list ?_ ?_
      · unfold marks
        refine evall_cons (ev_str rfl) ?_
        refine evall_cons (ev_str rfl) ?_
        refine evall_cons (ev_str rfl) ?_
        refine evall_cons (ev_str rfl) ?_
        refine evall_cons (ev_str rfl) ?_
        refine evall_cons ?_ ?_
        · exact ev_cut (ev_var rfl) (.some (ev_neg ev_int)) .none (by omega)
        refine evall_cons (ev_str rfl) ?_
        refine evall_cons ?_ evall_nil
        exact (ev_chr (evV_blt rfl rfl rfl) (ev_mod (ev_div (ev_var rfl) ev_int (by decide) rfl) ev_int (by decide)) (by omega) (by omega)).eq (congrArg (fun x => D.str [x]) (by omega))
      · show 8 ≤ sizeLine
        decide
    · exact ev_mod (ev_var rfl) ev_int (by decide)
    · show -((8 : Nat) : Int) ≤ _; omega
    · show _ < ((8 : Nat) : Int); omega
    · show 8 ≤ sizeLine
      decide
    · rw [if_neg (by omega), List.getElem?_map, hmark]; rfl
  · refine law_two w L fa cd h₀ A os hA ns hn a b c kind asked body eol mark hbo.2 hbo.1 hmem (marks_len body n mark (List.mem_of_getElem? hmark)) (fun h => ⟨by rw [hasked, if_pos h], h13 h⟩) (fun h => ?_)
    rw [h] at hmark
    exact (Option.some.inj hmark).symm
  · rfl
  · rfl
end Mine
end
section
open PySem PySem.W PyProof.Rows PySem.Builtin.Str
namespace Mine
theorem rep_ints {h : Heap} {X : List Addr} : ∀ {vs : List Value} {ns : List Int}, IntsAre vs ns → RepAll h X vs (ns.map .int)
  | _, _, .nil => .nil
  | _, _, .cons n t r => .cons (.int n t) (rep_ints r)
theorem law_run {w : World} {fa : Addr} {cd : Value} {s₁ : Shared} {h₁ : Heap} {tk : Nat} {ns : List Int} {l : Addr} {vs : List Value} (htk : 1 ≤ tk)
    (bs : Bs (KK w) s₁.heap) (hg : s₁.gens = #[]) (F : Fr s₁.heap s₁.heap.objs.size h₁ (fun x => List.lookup x [(Str.ofString "script", Value.ref l)].reverse)) (hl : s₁.heap.IsList l vs.toArray) (hI : IntsAre vs ns) (hn : ns.length ≤ 63) :
    wpAny (model PG w) (callerA.deeper (envOf (Str.ofString "law") lawScope s₁.heap.objs.size fa cd)) (execs lawBody (envOf (Str.ofString "law") lawScope s₁.heap.objs.size fa cd))
      (fun f s' => f = .ret (.bool true) ∧ (∀ b o, s₁.heap.get? b = some o → s'.heap.get? b = some o) ∧ s'.os = s₁.os ∧ s'.gens = #[]) (fun _ _ => False) { s₁ with heap := h₁, toks := tk } := by
  have ok : Ok (lawC w s₁.heap.objs.size fa cd s₁.heap (callerA.deeper (envOf (Str.ofString "law") lawScope s₁.heap.objs.size fa cd)) s₁.os) :=
    ⟨rfl, rfl, rfl, bs, rfl, (by show callerA.depth + 1 + 2 < recursionLimit; decide), (by show callerA.units + 3 + 3 * 2 + 80 < cLine; decide), fun r hr => by cases hr⟩
  have R : Rel (lawC w s₁.heap.objs.size fa cd s₁.heap (callerA.deeper (envOf (Str.ofString "law") lawScope s₁.heap.objs.size fa cd)) s₁.os) [] [vV "script" (.lst (ns.map .int))] { s₁ with heap := h₁, toks := tk } :=
    enter_rel (names := [Str.ofString "script"]) (vs := [.ref l]) (ds := [.lst (ns.map .int)]) ok hg rfl F.keep (fun r hr => by cases hr) (.cons (.lst hl (by simp) (rep_ints hI)) .nil) rfl (by decide) rfl F.ns
  refine wpAny_mono (law_ex w s₁.heap.objs.size fa cd s₁.heap _ s₁.os rfl ns hn _ R htk) (fun fl s' y => ?_) fun _ _ f => f
  obtain ⟨o, r, rfl⟩ := y
  obtain ⟨v, rfl, hv, d1, d2, d3⟩ := r
  cases hv
  exact ⟨rfl, d3, d2, d1⟩
end Mine
end
section
open PySem PySem.W PyProof.Rows
set_option maxRecDepth 100000 in
set_option maxHeartbeats 8000000 in
theorem PySem.Challenge.cw_ls0004_01_holds : PySem.Challenge.rw_ls0004_01.Holds := by
  w_on
  o_law
  refine holds_open (q := Mine.qv) (loose := Mine.looseL) (Xt := Mine.XtL) (XP := XL Mine.qv Mine.lvL) (Yf := Hook.obs Mine.HkF) (Ya := Hook.val Mine.HkF) (YP := Hook.says Mine.HkF) (N := 40000) Mine.left (Hook.of Mine.HkF) (Hook.keeps Mine.HkF) (fun s e => xl_of s (Bool.and_eq_true_iff.mp e).1) XL.keeps (by rfl) (by rfl) (by rfl) (fun s e => recFacts_of (Bool.and_eq_true_iff.mp e).2) (by rfl) (by first | assumption | decide +kernel) (by decide +kernel) ⟨rfl, rfl, rfl, rfl, rfl, by decide +kernel⟩ ?hw ?hc
  case hw => w_witness2
  k_go0
  refine wpAny_mono (Mine.law_run (Nat.le_add_left 1 _) ⟨by assumption, _, _, _, _, topRead_of (by assumption)⟩ (by assumption) (by assumption) (by assumption) (by assumption) (by omega)) (fun f s' y => ?_) (fun _ _ f => f.elim)
  obtain ⟨rfl, h1, h2, h3⟩ := y
  refine ⟨.inl ⟨.bool true, .bool true, [], rfl, fun _ => rfl, .bool true, ?_, fun _ => ⟨.nil, by simp⟩⟩, h1, h2, h3⟩
  first | rfl | wrow_post
end
