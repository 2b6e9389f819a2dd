import PyProof.Rows.All
import Wide.All
import OpenK.AllK
import Wide.FinOn
import PySem.Challenge.RW_ph0002_01
set_option Elab.async false
set_option maxRecDepth 100000
set_option linter.unusedVariables false
set_option linter.unusedSectionVars false
set_option linter.unusedSimpArgs false

-- M1
section
namespace Mine
open PySem PySem.W PyProof.Rows

abbrev Lk := Addr → Option Obj
def Sub (g g' : Lk) : Prop := ∀ b o, g b = some o → g' b = some o
theorem Sub.refl (g : Lk) : Sub g g := fun _ _ e => e
theorem Sub.trans {g g' g'' : Lk} (a : Sub g g') (b : Sub g' g'') : Sub g g'' := fun x o e => b x o (a x o e)

/-- plain data as the walk tells it -/
inductive D where
  | none
  | bool (b : Bool)
  | int (i : Int)
  | bytes (b : List Int)
  | list (l : List D)
  | tup (l : List D)
  | rng (a b c : Int)
  | val (v : Value)

abbrev lobj (vs : List Value) (n : Nat) : Obj := { cls := .type "list", dict := Option.none, data := .seq vs.toArray n, slots := #[] }
abbrev tobj (vs : List Value) (n : Nat) : Obj := { cls := .type "tuple", dict := Option.none, data := .seq vs.toArray n, slots := #[] }

mutual
inductive Rep (g : Lk) : Value → D → Prop
  | none : Rep g .none .none
  | bool (b : Bool) : Rep g (.bool b) (.bool b)
  | int (i : Int) (t : Tok) : Rep g (.int i t) (.int i)
  | bytes {b : Array UInt8} {t : Tok} {ks : List Int} : PySem.W.KBw.bInts b = ks → Rep g (.bytes b t) (.bytes ks)
  | val (v : Value) : Rep g v (.val v)
  | list {a : Addr} {vs : List Value} {n : Nat} {ds : List D} : g a = some (lobj vs n) → Reps g vs ds → Rep g (.ref a) (.list ds)
  | tup {a : Addr} {o : Obj} {vs : List Value} {n : Nat} {ds : List D} : g a = some o → o.cls = .type "tuple" → o.data = .seq vs.toArray n → Reps g vs ds → Rep g (.ref a) (.tup ds)
  | rng {r : Addr} {a b c : Int} {t u v : Tok} : g r = some { cls := .type "range", dict := Option.none, data := .fields #[.int a t, .int b u, .int c v], slots := #[] } → Rep g (.ref r) (.rng a b c)
inductive Reps (g : Lk) : List Value → List D → Prop
  | nil : Reps g [] []
  | cons {v : Value} {d : D} {vs : List Value} {ds : List D} : Rep g v d → Reps g vs ds → Reps g (v :: vs) (d :: ds)
end

mutual
theorem Rep.mono {g g' : Lk} (hs : Sub g g') : ∀ {v d}, Rep g v d → Rep g' v d
  | _, _, .none => .none
  | _, _, .bool b => .bool b
  | _, _, .int i t => .int i t
  | _, _, .bytes e => .bytes e
  | _, _, .val v => .val v
  | _, _, .list e r => .list (hs _ _ e) (Reps.mono hs r)
  | _, _, .tup e c d r => .tup (hs _ _ e) c d (Reps.mono hs r)
  | _, _, .rng f => .rng (hs _ _ f)
theorem Reps.mono {g g' : Lk} (hs : Sub g g') : ∀ {vs ds}, Reps g vs ds → Reps g' vs ds
  | _, _, .nil => .nil
  | _, _, .cons a r => .cons (Rep.mono hs a) (Reps.mono hs r)
end
theorem Reps.length {g : Lk} : ∀ {vs ds}, Reps g vs ds → vs.length = ds.length
  | _, _, .nil => rfl
  | _, _, .cons _ r => by rw [List.length_cons, List.length_cons, r.length]
theorem Reps.get {g : Lk} : ∀ {vs ds} (_ : Reps g vs ds) (i : Nat) {d : D}, ds[i]? = some d → ∃ v, vs[i]? = some v ∧ Rep g v d
  | _, _, .nil, i, d, h => by simp at h
  | _, _, .cons a r, 0, d, h => by simp at h; subst h; exact ⟨_, rfl, a⟩
  | _, _, .cons a r, i + 1, d, h => by
    simp only [List.getElem?_cons_succ] at h ⊢
    exact r.get i h
theorem Reps.append {g : Lk} : ∀ {vs ds us es}, Reps g vs ds → Reps g us es → Reps g (vs ++ us) (ds ++ es)
  | _, _, _, _, .nil, r => r
  | _, _, _, _, .cons a q, r => .cons a (q.append r)

/-- the text's own functions -/
structure Fn where
  name : Str
  params : Arguments
  body : List Stmt
  scope : Scope
def fnOfStmt : Stmt → Option Fn
  | .FunctionDef name args body _ _ _ scope _ _ _ => some ⟨name, args, body, scope⟩
  | _ => Option.none
def theFns : List Fn := PySem.Challenge.pw_ph0002_01.main.body.filterMap fnOfStmt

def usedBuiltins : List Str := ["len", "range", "bytes", "bytearray", "isinstance", "sorted", "sum", "enumerate", "list"]
/-- what the text's top left -/
structure TopH (h : Heap) : Prop where
  ex : ∃ mg mb, h.Ns mainGlobals mg ∧ h.Ns builtinsNs mb ∧ (∀ x : Str, x ≠ "__name__" → mb x = bootBuiltins x) ∧
    (∀ f ∈ theFns, ∃ a o pm code doc, mg f.name = some (.ref a) ∧ h.get? a = some o ∧ o.data = .func (Calls.docDef f.name f.params f.body f.scope pm code doc) ∧ h.CodeRec code f.name) ∧
    (∃ t, mg "NT_OFFSET" = some (.int 256 t)) ∧ (∀ x ∈ usedBuiltins, mg x = Option.none)
  nolimit : h.NoLimit
def TopG (g : Lk) : Prop := ∃ h0 : Heap, Sub h0.get? g ∧ TopH h0
theorem TopG.mono {g g' : Lk} (t : TopG g) (s : Sub g g') : TopG g' := let ⟨h0, a, b⟩ := t; ⟨h0, a.trans s, b⟩

def HoldsVar (env : Env) (h : Heap) (ml : Str → Option Value) (x : Str) (v : Value) : Prop :=
  (env.kindOf x = some .local ∧ ml x = some v) ∨
  ((env.kindOf x = some .cell ∨ (env.kindOf x = some .free ∧ (x == ("__classdict__" : Str)) = false)) ∧ ∃ c, env.cells.lookup x = some c ∧ h.IsCell c (some v))

abbrev Vars := List (Str × D)
structure Sit (env : Env) (g : Lk) (h : Heap) (ρ : Vars) : Prop where
  top : TopG g
  keep : Sub g h.get?
  kind : env.scope.kind = .function
  glob : env.globals = mainGlobals
  blt : env.builtins = builtinsNs
  var : ∃ ml, h.Ns env.locals ml ∧ ∀ x d, ρ.lookup x = some d → ∃ v, Rep g v d ∧ HoldsVar env h ml x v

structure Ext (g : Lk) (s : Shared) (g' : Lk) (s' : Shared) : Prop where
  same : ∃ h t, s' = { s with heap := h, toks := t }
  keep : Sub s.heap.get? s'.heap.get?
  sub : Sub g g'
  inn : Sub g' s'.heap.get?
  fresh : ∀ b o, g' b = some o → g b = some o ∨ s.heap.get? b = Option.none

theorem Ext.refl {g : Lk} {s : Shared} (h : Sub g s.heap.get?) : Ext g s g s := ⟨⟨s.heap, s.toks, rfl⟩, Sub.refl _, Sub.refl _, h, fun _ _ e => .inl e⟩
theorem Ext.tok {g : Lk} {s : Shared} (t : Nat) (h : Sub g s.heap.get?) : Ext g s g { s with toks := t } := ⟨⟨s.heap, t, rfl⟩, Sub.refl _, Sub.refl _, h, fun _ _ e => .inl e⟩
theorem Ext.trans {g g1 g2 : Lk} {s s1 s2 : Shared} (a : Ext g s g1 s1) (b : Ext g1 s1 g2 s2) : Ext g s g2 s2 where
  same := by
    obtain ⟨h, t, rfl⟩ := a.same
    obtain ⟨h', t', rfl⟩ := b.same
    exact ⟨h', t', rfl⟩
  keep := a.keep.trans b.keep
  sub := a.sub.trans b.sub
  inn := b.inn
  fresh := fun x o e => by
    rcases b.fresh x o e with q | q
    · exact a.fresh x o q
    · refine .inr ?_
      cases q' : s.heap.get? x with
      | none => rfl
      | some o' => rw [a.keep x o' q'] at q; cases q

theorem HoldsVar.keeps {env : Env} {h h' : Heap} {ml : Str → Option Value} {x : Str} {v : Value} (k : Sub h.get? h'.get?) (q : HoldsVar env h ml x v) : HoldsVar env h' ml x v := by
  rcases q with q | ⟨q, c, e, i⟩
  · exact .inl q
  · exact .inr ⟨q, c, e, i.keeps k⟩
theorem Sit.ext {env : Env} {g g' : Lk} {s s' : Shared} {ρ : Vars} (S : Sit env g s.heap ρ) (X : Ext g s g' s') : Sit env g' s'.heap ρ where
  top := S.top.mono X.sub
  keep := X.inn
  kind := S.kind
  glob := S.glob
  blt := S.blt
  var := by
    obtain ⟨ml, n, f⟩ := S.var
    refine ⟨ml, n.keeps X.keep, fun x d e => ?_⟩
    obtain ⟨v, r, q⟩ := f x d e
    exact ⟨v, r.mono X.sub, q.keeps X.keep⟩

structure GA (n : Nat) (A : Around) : Prop where
  hh : A.handled = Option.none
  depth : A.depth + n ≤ 900
  units : A.units + 10 * n ≤ 9000

abbrev pr : Program := PySem.Challenge.pw_ph0002_01
def Out (g : Lk) (s : Shared) (d : D) (v : Value) (s' : Shared) : Prop := ∃ g', Ext g s g' s' ∧ Rep g' v d
theorem Out.trans {g g1 : Lk} {s s1 s' : Shared} {d : D} {v : Value} (X : Ext g s g1 s1) (o : Out g1 s1 d v s') : Out g s d v s' :=
  let ⟨g', Y, r⟩ := o; ⟨g', X.trans Y, r⟩
theorem Out.here {g : Lk} {s : Shared} {d : D} {v : Value} (h : Sub g s.heap.get?) (r : Rep g v d) : Out g s d v s := ⟨g, .refl h, r⟩
theorem Out.tok {g : Lk} {s : Shared} {d : D} {v : Value} (t : Nat) (h : Sub g s.heap.get?) (r : Rep g v d) : Out g s d v { s with toks := t } := ⟨g, .tok t h, r⟩
def No (_ : Value) (_ : Shared) : Prop := False

section
variable (w : World)
def Ev (n : Nat) (env : Env) (ρ : Vars) (e : Expr) (d : D) : Prop :=
  ∀ A s g, GA n A → Sit env g s.heap ρ → wpAny (model pr w) A (eval e env) (Out g s d) No s
def OutT (g : Lk) (s : Shared) (b r : Bool) (s' : Shared) : Prop := r = b ∧ ∃ g', Ext g s g' s'
def EvT (n : Nat) (env : Env) (ρ : Vars) (e : Expr) (b : Bool) : Prop :=
  ∀ A s g, GA n A → Sit env g s.heap ρ → wpAny (model pr w) A (isTrue e env (eval e env)) (OutT g s b) No s
end
theorem OutT.trans {g g1 : Lk} {s s1 s' : Shared} {b r : Bool} (X : Ext g s g1 s1) (o : OutT g1 s1 b r s') : OutT g s b r s' :=
  let ⟨e, g', Y⟩ := o; ⟨e, g', X.trans Y⟩

/-- goes on behind a step -/
theorem go {α : Type} {w : World} {A : Around} {t : Sem α} {Q Q' : α → Shared → Prop} {E : Value → Shared → Prop} {s : Shared} (h : wpAny (model pr w) A t Q No s) (k : ∀ a s', Q a s' → Q' a s') : wpAny (model pr w) A t Q' E s :=
  wpAny_mono h k fun _ _ x => x.elim

section
variable {w : World} {n : Nat} {env : Env} {ρ : Vars}

theorem Ev.cint {i : Int} {k : Nat} {pos : Pos} : Ev w n env ρ (.Constant (.int i) k pos) (.int i) := fun _ _ _ _ S =>
  wpAny_Constant_int (.tok _ S.keep (.int i _))
theorem Ev.cbool {b : Bool} {k : Nat} {pos : Pos} : Ev w n env ρ (.Constant (.bool b) k pos) (.bool b) := fun _ _ _ _ S =>
  Constant_bool (.here S.keep (.bool b))
theorem Ev.name {x : Str} {pos : Pos} {d : D} (h : ρ.lookup x = some d) (hd : (x == ("__debug__" : Str)) = false := by decide) : Ev w n env ρ (.Name x pos) d := fun _ s _ _ S => by
  obtain ⟨ml, nn, f⟩ := S.var
  obtain ⟨v, r, q⟩ := f x d h
  refine wpAny_Name ?_ hd
  rcases q with ⟨k, e⟩ | ⟨k, c, e, i⟩
  · exact wpAny_loadName_local S.kind k nn e (.here S.keep r)
  · rcases k with k | ⟨k, k2⟩
    · exact wpAny_loadName_cell S.kind k e i (.here S.keep r)
    · exact wpAny_loadName_free S.kind k e i (.here S.keep r) k2
theorem Ev.blt {x : Str} {pos : Pos} {v : Value} (hv : bootBuiltins x = some v) (hx : env.kindOf x = some .globalImplicit) (hu : x ∈ usedBuiltins) (hd : (x == ("__debug__" : Str)) = false := by decide) (hn : x ≠ "__name__" := by decide) :
    Ev w n env ρ (.Name x pos) (.val v) := fun _ s g _ S => by
  obtain ⟨h0, k0, T⟩ := S.top
  obtain ⟨mg, mb, ng, nb, hb, _, _, hfree⟩ := T.ex
  have kk := k0.trans S.keep
  refine Calls.Name_function_global S.kind hx ?_ hd
  exact Calls.loadGlobal_builtin (by rw [S.glob]; exact ng.keeps kk) (hfree x hu) (by rw [S.blt]; exact nb.keeps kk) ((hb x hn).trans hv) (.here S.keep (.val v))
end
end Mine
end

-- M2
section
namespace Mine
open PySem PySem.W PyProof.Rows

section
variable (w : World)
def Bin (op : Operator) (a b d : D) : Prop := ∀ n A s g u v, GA n A → Sub g s.heap.get? → Rep g u a → Rep g v b → wpAny (model pr w) A (binaryOp op u v) (Out g s d) No s
def Cmp (op : CmpOp) (a b : D) (c : Bool) : Prop := ∀ n A s g u v, GA n A → Sub g s.heap.get? → Rep g u a → Rep g v b →
  wpAny (model pr w) A (compareOp op u v) (Out g s (.bool c)) No s
def Un (op : UnaryOp) (a d : D) : Prop := ∀ n A s g u, GA n A → Sub g s.heap.get? → Rep g u a → wpAny (model pr w) A (unaryOp op u) (Out g s d) No s
def Evs (n : Nat) (env : Env) (ρ : Vars) (es : List Expr) (ds : List D) : Prop :=
  ∀ A s g pos, GA n A → Sit env g s.heap ρ → wpAny (model pr w) A (spliced (backTo pos (starEach es env))) (fun vs s' => ∃ g', Ext g s g' s' ∧ Reps g' vs ds) No s
end
section
variable {w : World} {n : Nat} {env : Env} {ρ : Vars}

theorem Ev.nt {pos : Pos} (hx : env.kindOf "NT_OFFSET" = some .globalImplicit) : Ev w n env ρ (.Name "NT_OFFSET" pos) (.int 256) := fun _ s g _ S => by
  obtain ⟨h0, k0, T⟩ := S.top
  obtain ⟨mg, mb, ng, nb, hb, _, ⟨t, ht⟩, hfree⟩ := T.ex
  refine Calls.Name_function_global S.kind hx ?_
  exact Calls.loadGlobal_global (by rw [S.glob]; exact ng.keeps (k0.trans S.keep)) ht (.here S.keep (.int _ _))

theorem Ev.bin {l r : Expr} {op : Operator} {pos : Pos} {a b d : D} (hl : Ev w n env ρ l a) (hr : Ev w n env ρ r b) (hb : Bin w op a b d) : Ev w n env ρ (.BinOp l op r pos) d := fun A s g ga S => by
  refine wpAny_BinOp (go (hl A s g ga S) fun u s1 ⟨g1, X1, r1⟩ => go (hr A s1 g1 ga (S.ext X1)) fun v s2 ⟨g2, X2, r2⟩ => ?_)
  exact go (hb n A s2 g2 u v ga X2.inn (r1.mono X2.sub) r2) fun y s3 o => .trans (X1.trans X2) o
theorem Ev.un {x : Expr} {op : UnaryOp} {pos : Pos} {a d : D} (hx : Ev w n env ρ x a) (hu : Un w op a d) : Ev w n env ρ (.UnaryOp op x pos) d := fun A s g ga S =>
  UnaryOp_ (go (hx A s g ga S) fun u s1 ⟨g1, X1, r1⟩ => go (hu n A s1 g1 u ga X1.inn r1) fun y s3 o => .trans X1 o)
theorem Ev.cmp {l r : Expr} {op : CmpOp} {pos : Pos} {a b : D} {c : Bool} (hl : Ev w n env ρ l a) (hr : Ev w n env ρ r b) (hc : Cmp w op a b c) (hm : behindInMarks op r = false := by with_unfolding_all rfl) :
    Ev w n env ρ (.Compare l [op] [r] pos) (.bool c) := fun A s g ga S => by
  refine wpAny_Compare1 (go (hl A s g ga S) fun u s1 ⟨g1, X1, r1⟩ => go (hr A s1 g1 ga (S.ext X1)) fun v s2 ⟨g2, X2, r2⟩ => ?_) hm
  exact go (hc n A s2 g2 u v ga X2.inn (r1.mono X2.sub) r2) fun y s3 o => .trans (X1.trans X2) o
theorem EvT.cmp {l r : Expr} {op : CmpOp} {pos : Pos} {a b : D} {c : Bool} (hl : Ev w n env ρ l a) (hr : Ev w n env ρ r b) (hc : Cmp w op a b c) (hm : behindInMarks op r = false := by with_unfolding_all rfl) :
    EvT w n env ρ (.Compare l [op] [r] pos) c := fun A s g ga S => by
  refine wpAny_isTrue_Compare1 (go (hl A s g ga S) fun u s1 ⟨g1, X1, r1⟩ => go (hr A s1 g1 ga (S.ext X1)) fun v s2 ⟨g2, X2, r2⟩ => ?_) hm
  refine go (hc n A s2 g2 u v ga X2.inn (r1.mono X2.sub) r2) fun y s3 ⟨g3, X3, r3⟩ => ?_
  cases r3
  exact wpAny_truthy_bool ⟨rfl, _, X1.trans (X2.trans X3)⟩
theorem EvT.plain {e : Expr} {b : Bool} (h : Ev w n env ρ e (.bool b)) (he : ∀ whole, isTrue e env whole = (do let v ← whole; standAt e.pos; holding [v] (truthy v)) := by intro _; rfl) : EvT w n env ρ e b := fun A s g ga S =>
  isTrue_plain (go (h A s g ga S) fun v s1 ⟨g1, X1, r1⟩ => by cases r1; exact wpAny_truthy_bool ⟨rfl, _, X1⟩) (he _)
theorem EvT.not {x : Expr} {pos : Pos} {b : Bool} (h : EvT w n env ρ x b) : EvT w n env ρ (.UnaryOp .Not x pos) (!b) := fun A s g ga S =>
  isTrue_not (go (h A s g ga S) fun c s1 ⟨e, g1, X1⟩ => ⟨by rw [e], g1, X1⟩)
theorem EvT.and2 {x y : Expr} {pos : Pos} {a b : Bool} (hx : EvT w n env ρ x a) (hy : a = true → EvT w n env ρ y b) : EvT w n env ρ (.BoolOp .And [x, y] pos) (a && b) := fun A s g ga S => by
  refine isTrue_and (go (hx A s g ga S) fun c s1 ⟨e, g1, X1⟩ => ?_)
  subst e
  cases c with
  | false => exact ⟨rfl, g1, X1⟩
  | true =>
    refine isTrue_and (go (hy rfl A s1 g1 ga (S.ext X1)) fun c s2 ⟨e, g2, X2⟩ => ?_)
    subst e
    cases c with
    | false => exact ⟨rfl, g2, X1.trans X2⟩
    | true => exact isTrue_and_nil ⟨rfl, g2, X1.trans X2⟩
theorem EvT.or2 {x y : Expr} {pos : Pos} {a b : Bool} (hx : EvT w n env ρ x a) (hy : a = false → EvT w n env ρ y b) : EvT w n env ρ (.BoolOp .Or [x, y] pos) (a || b) := fun A s g ga S => by
  refine isTrue_or (go (hx A s g ga S) fun c s1 ⟨e, g1, X1⟩ => ?_)
  subst e
  cases c with
  | true => exact ⟨rfl, g1, X1⟩
  | false =>
    refine isTrue_or (go (hy rfl A s1 g1 ga (S.ext X1)) fun c s2 ⟨e, g2, X2⟩ => ?_)
    subst e
    cases c with
    | true => exact ⟨rfl, g2, X1.trans X2⟩
    | false => exact isTrue_or_nil ⟨rfl, g2, X1.trans X2⟩
theorem Ev.ifx {t x y : Expr} {pos : Pos} {b : Bool} {d : D} (ht : EvT w n env ρ t b) (hx : b = true → Ev w n env ρ x d) (hy : b = false → Ev w n env ρ y d) : Ev w n env ρ (.IfExp t x y pos) d := fun A s g ga S => by
  refine IfExp_ (go (ht A s g ga S) fun c s1 ⟨e, g1, X1⟩ => ?_)
  subst e
  cases c with
  | true => exact go (hx rfl A s1 g1 ga (S.ext X1)) fun v s2 o => .trans X1 o
  | false => exact go (hy rfl A s1 g1 ga (S.ext X1)) fun v s2 o => .trans X1 o
theorem Ev.of {e : Expr} {d d' : D} (h : Ev w n env ρ e d) (q : d = d') : Ev w n env ρ e d' := q ▸ h
theorem EvT.of {e : Expr} {d d' : Bool} (h : EvT w n env ρ e d) (q : d = d') : EvT w n env ρ e d' := q ▸ h

theorem Evs.nil : Evs w n env ρ [] [] := fun _ _ g _ _ S => Calls.spliced_nil ⟨g, .refl S.keep, .nil⟩
theorem Evs.cons {e : Expr} {es : List Expr} {d : D} {ds : List D} (h : Ev w n env ρ e d) (hs : Evs w n env ρ es ds) (hq : starEach (e :: es) env = (false, eval e env) :: starEach es env := by rfl) : Evs w n env ρ (e :: es) (d :: ds) := fun A s g pos ga S => by
  rw [hq]
  refine Calls.spliced_cons ?_
  show wpAny _ A (eval e env) _ _ s
  refine go (h A s g ga S) fun v s1 ⟨g1, X1, r1⟩ => ?_
  exact go (hs A s1 g1 pos ga (S.ext X1)) fun vs s2 ⟨g2, X2, r2⟩ => ⟨g2, X1.trans X2, .cons (r1.mono X2.sub) r2⟩

/-- a new object onto the frozen part -/
def put (g : Lk) (a : Addr) (o : Obj) : Lk := fun b => if b = a then some o else g b
theorem put_self (g : Lk) (a : Addr) (o : Obj) : put g a o a = some o := if_pos rfl
theorem fresh_size {h : Heap} {a : Addr} (e : h.objs.size ≤ a) : h.get? a = Option.none := by
  cases q : h.get? a with
  | none => rfl
  | some o => exact absurd (Heap.lt_size q) (Nat.not_lt.mpr e)
theorem Ext.put {g : Lk} {s s' : Shared} {a : Addr} {o : Obj} (h : Sub g s.heap.get?) (same : ∃ h t, s' = { s with heap := h, toks := t }) (keep : Sub s.heap.get? s'.heap.get?)
    (new : s.heap.get? a = Option.none) (here : s'.heap.get? a = some o) : Ext g s (put g a o) s' where
  same := same
  keep := keep
  sub := fun b x e => by
    unfold Mine.put
    split
    · rename_i q; subst q; rw [h _ _ e] at new; cases new
    · exact e
  inn := fun b x e => by
    unfold Mine.put at e
    split at e
    · rename_i q; subst q; cases e; exact here
    · exact keep _ _ (h _ _ e)
  fresh := fun b x e => by
    unfold Mine.put at e
    split at e
    · rename_i q; subst q; exact .inr new
    · exact .inl e
/-- a push of one object -/
theorem Ext.push {g : Lk} {s : Shared} (o : Obj) (h : Sub g s.heap.get?) (t : Nat) (hf : o.isFreed = false := by rfl) : Ext g s (Mine.put g s.heap.objs.size o) { s with heap := s.heap.push o, toks := t } :=
  .put h ⟨_, _, rfl⟩ (fun _ _ e => Heap.get?_push_of_some _ e) (fresh_size (Nat.le_refl _)) (Heap.get?_push_size _ hf)

theorem Ev.list {es : List Expr} {pos : Pos} {ds : List D} (h : Evs w n env ρ es ds) (hz : ds.length ≤ 1000 := by exact Nat.le_of_ble_eq_true rfl) : Ev w n env ρ (.List es pos) (.list ds) := fun A s g ga S => by
  refine List_ (go (h A s g pos ga S) fun vs s1 ⟨g1, X1, r1⟩ => ?_)
  refine wpAny_newObj_type ?_ (by show vs.toArray.size ≤ sizeLine; rw [List.size_toArray, r1.length, sizeLine_eq]; omega)
  have X2 := Ext.push (g := g1) (s := s1) (lobj vs 0) X1.inn s1.toks
  exact ⟨_, X1.trans X2, .list (put_self _ _ _) (r1.mono X2.sub)⟩
theorem Ev.tup {es : List Expr} {k : Nat} {pos : Pos} {ds : List D} (h : Evs w n env ρ es ds) (hz : ds.length ≤ 1000 := by exact Nat.le_of_ble_eq_true rfl) : Ev w n env ρ (.Tuple es k pos) (.tup ds) := fun A s g ga S => by
  refine Tuple_ (go (h A s g pos ga S) fun vs s1 ⟨g1, X1, r1⟩ => ?_)
  refine wpAny_newObj_type ?_ (by show vs.toArray.size ≤ sizeLine; rw [List.size_toArray, r1.length, sizeLine_eq]; omega)
  have X2 := Ext.push (g := g1) (s := s1) (tobj vs 0) X1.inn s1.toks
  exact ⟨_, X1.trans X2, .tup (put_self _ _ _) rfl rfl (r1.mono X2.sub)⟩

-- ints
theorem Bin.add {a b : Int} : Bin w .Add (.int a) (.int b) (.int (a + b)) := fun _ _ s _ _ _ _ k ra rb => by
  cases ra; cases rb; exact add_int (.tok _ k (.int _ _))
theorem Bin.sub {a b : Int} : Bin w .Sub (.int a) (.int b) (.int (a - b)) := fun _ _ s _ _ _ _ k ra rb => by
  cases ra; cases rb; exact sub_int (.tok _ k (.int _ _))
theorem intBits64 {k : Int} (h1 : -(2 ^ 64) < k) (h2 : k < 2 ^ 64) : Builtin.Int.intBits k ≤ 64 := intBits_le_64 h1 h2
theorem Bin.mul {a b : Int} (h1 : -(2 ^ 64) < a) (h2 : a < 2 ^ 64) : Bin w .Mult (.int a) (.int b) (.int (a * b)) := fun _ _ s _ _ _ _ k ra rb => by
  cases ra; cases rb; exact PyProof.Rows.mul_int (.tok _ k (.int _ _)) (.of_left (intBits64 h1 h2))
theorem Bin.fdiv {a b : Int} (h0 : b ≠ 0) (hs : b.natAbs < 1073741824) : Bin w .FloorDiv (.int a) (.int b) (.int (a.fdiv b)) := fun _ _ s _ _ _ _ k ra rb => by
  cases ra; cases rb; exact floordiv_int h0 (.tok _ k (.int _ _)) (Or.inl (PyProof.noPylong_small hs))
theorem Bin.fmod {a b : Int} (h0 : b ≠ 0) : Bin w .Mod (.int a) (.int b) (.int (a.fmod b)) := fun _ _ s _ _ _ _ k ra rb => by
  cases ra; cases rb; exact PyProof.Rows.mod_int h0 (.tok _ k (.int _ _))
theorem Bin.pow {a b : Int} (h0 : 0 ≤ b) (h1 : b ≤ 1000) (ha : a.natAbs < 2 ^ 64) : Bin w .Pow (.int a) (.int b) (.int (a ^ b.toNat)) := fun _ _ s _ _ _ _ k ra rb => by
  cases ra; cases rb; exact pow_int_small h0 (by omega) ha (.tok _ k (.int _ _))
theorem Bin.xor {a b : Int} : Bin w .BitXor (.int a) (.int b) (.int (Builtin.bitXor a b)) := fun _ _ s _ _ _ _ k ra rb => by
  cases ra; cases rb; exact xor_int (.tok _ k (.int _ _))
theorem Un.neg {a : Int} : Un w .USub (.int a) (.int (-a)) := fun _ _ s _ _ _ k ra => by
  cases ra; exact PyProof.Rows.neg_int (.tok _ k (.int _ _))
theorem Cmp.lt {a b : Int} : Cmp w .Lt (.int a) (.int b) (decide (a < b)) := fun _ _ s _ _ _ _ k ra rb => by
  cases ra; cases rb; exact PyProof.Rows.lt_int (.here k (.bool _))
theorem Cmp.gt {a b : Int} : Cmp w .Gt (.int a) (.int b) (decide (b < a)) := fun _ _ s _ _ _ _ k ra rb => by
  cases ra; cases rb; exact PyProof.Rows.gt_int (.here k (.bool _))
theorem Cmp.eq {a b : Int} : Cmp w .Eq (.int a) (.int b) (a == b) := fun _ _ s _ _ _ _ k ra rb => by
  cases ra; cases rb; exact PyProof.Rows.eq_int (.here k (.bool _))
end
end Mine
end

-- M3
section
namespace Mine
open PySem PySem.W PyProof.Rows

abbrev inl (ns : List Int) : List D := ns.map D.int
theorem Reps.intsAre {g : Lk} : ∀ {vs : List Value} {ns : List Int}, Reps g vs (inl ns) → IntsAre vs ns
  | [], [], _ => .nil
  | [], _ :: _, h => by cases h
  | _ :: _, [], h => by cases h
  | v :: vs, n :: ns, h => by
    cases h with
    | cons a r => cases a with | int i t => exact .cons n _ (Reps.intsAre r)
theorem Reps.ofInts {g : Lk} : ∀ {vs : List Value} {ns : List Int}, IntsAre vs ns → Reps g vs (inl ns)
  | _, _, .nil => .nil
  | _, _, .cons n t r => .cons (.int n t) (Reps.ofInts r)
/-- a list in the frozen part, at the heap -/
theorem Rep.isL {g : Lk} {v : Value} {ds : List D} (r : Rep g v (.list ds)) : ∃ a vs n, v = .ref a ∧ g a = some (lobj vs n) ∧ Reps g vs ds := by
  cases r with | list e q => exact ⟨_, _, _, rfl, e, q⟩
theorem isList_of {h : Heap} {a : Addr} {vs : List Value} {n : Nat} (e : h.get? a = some (lobj vs n)) : h.IsList a vs.toArray := ⟨_, e, rfl, n, rfl⟩

theorem rep_obj {y : Value} {k : Nat} : ({ cls := .type "list", data := .seq (List.foldl (fun x1 x2 => x1 ++ x2) #[] (List.replicate (if ([y].toArray).isEmpty = true then 0 else k) ([y].toArray))) } : Obj) = lobj (List.replicate k y) 0 := by
  have hj : ∀ (k : Nat) (acc : List Value), List.foldl (fun x1 x2 => x1 ++ x2) acc.toArray (List.replicate k ([y].toArray)) = (acc ++ List.replicate k y).toArray := by
    intro k
    induction k with
    | zero => intro acc; simp
    | succ k ih =>
      intro acc
      rw [List.replicate_succ, List.foldl_cons]
      have := ih (acc ++ [y])
      simp only [List.append_toArray] at this ⊢
      rw [this, List.replicate_succ, List.append_assoc]; rfl
  have := hj k []
  simp only [List.nil_append] at this
  rw [if_neg (by simp), this]
section
variable {w : World} {n : Nat} {env : Env} {ρ : Vars}
theorem Bin.addL {a b : List D} (hz : a.length + b.length ≤ 1000) : Bin w .Add (.list a) (.list b) (.list (a ++ b)) := fun _ A s g u v ga k ra rb => by
  obtain ⟨x, vs, m, rfl, e, q⟩ := ra.isL
  obtain ⟨y, us, m', rfl, e', q'⟩ := rb.isL
  refine P.add_list (k _ _ e) (k _ _ e') ?_ (by simp only [List.size_toArray, q.length, q'.length, sizeLine_eq]; omega)
  have X := Ext.push (g := g) (s := s) (lobj (vs ++ us) 0) k s.toks
  refine ⟨_, ?_, .list (put_self _ _ _) ((q.append q').mono X.sub)⟩
  have : ({ cls := .type "list", data := .seq (vs.toArray ++ us.toArray) } : Obj) = lobj (vs ++ us) 0 := by simp
  rw [this]
  exact X
theorem Cmp.inI {k : Int} {ns : List Int} : Cmp w .In (.int k) (.list (inl ns)) (ns.any (· == k)) := fun _ A s g u v ga kk ra rb => by
  obtain ⟨y, us, m', rfl, e', q'⟩ := rb.isL
  cases ra
  exact in_list_ints (isList_of (kk _ _ e')) q'.intsAre (.here kk (.bool _))
theorem Cmp.neL {ns ms : List Int} : Cmp w .NotEq (.list (inl ns)) (.list (inl ms)) (!decide (ns = ms)) := fun n A s g u v ga kk ra rb => by
  obtain ⟨y, us, m', rfl, e', q'⟩ := rb.isL
  obtain ⟨x, vs, m, rfl, e, q⟩ := ra.isL
  have := ga.units
  have hc : cLine = 9900 := rfl
  exact ne_intsK (isList_of (kk _ _ e)) q.intsAre (isList_of (kk _ _ e')) q'.intsAre (by omega) (.here kk (.bool _))
theorem Cmp.neB {a b : Bool} : Cmp w .NotEq (.bool a) (.bool b) (a != b) := fun _ A s g u v ga kk ra rb => by
  cases ra; cases rb; exact ne_bool (.here kk (.bool _))
theorem Cmp.isB {a b : Bool} : Cmp w .Is (.bool a) (.bool b) (a == b) := fun _ A s g u v ga kk ra rb => by
  cases ra; cases rb; exact is_bool (.here kk (.bool _))
theorem Bin.addB {a b : List Int} (hz : a.length + b.length ≤ 1000) : Bin w .Add (.bytes a) (.bytes b) (.bytes (a ++ b)) := fun _ A s g u v ga kk ra rb => by
  cases ra with
  | bytes e => cases rb with
    | bytes e' => exact KBa.add_K e e' (by omega) fun t k q => .tok _ kk (.bytes q)
end
end Mine
end

-- M4
section
namespace Mine
open PySem PySem.W PyProof.Rows

theorem Rep.isB {g : Lk} {v : Value} {ks : List Int} (r : Rep g v (.bytes ks)) : ∃ b t, v = .bytes b t ∧ KBw.bInts b = ks := by
  cases r with | bytes e => exact ⟨_, _, rfl, e⟩
theorem Rep.isT {g : Lk} {v : Value} {ds : List D} (r : Rep g v (.tup ds)) : ∃ a o vs n, v = .ref a ∧ g a = some o ∧ o.cls = .type "tuple" ∧ o.data = .seq vs.toArray n ∧ Reps g vs ds := by
  cases r with | tup e c d q => exact ⟨_, _, _, _, rfl, e, c, d, q⟩
section
variable {w : World} {n : Nat} {env : Env} {ρ : Vars}
theorem Ev.itemL {value slice : Expr} {pos : Pos} {ds : List D} {k : Int} {d : D} (hv : Ev w n env ρ value (.list ds)) (hs : Ev w n env ρ slice (.int k)) (h0 : 0 ≤ k) (hd : ds[k.toNat]? = some d) (hk : ds.length ≤ 1000)
    (hq : ∀ o i, subscripted slice false o i = operate [o, i] (getItem o i) := by intro _ _; rfl) : Ev w n env ρ (.Subscript value slice pos) d := fun A s g ga S => by
  refine Subscript_ (go (hv A s g ga S) fun o s1 ⟨g1, X1, r1⟩ => go (hs A s1 g1 ga (S.ext X1)) fun i s2 ⟨g2, X2, r2⟩ => ?_)
  obtain ⟨a, vs, m, rfl, e, q⟩ := r1.isL
  cases r2 with | int _ t =>
  have hl := isList_of (X2.inn _ _ (X2.sub _ _ e))
  obtain ⟨v, hv, rv⟩ := (q.mono X2.sub).get _ hd
  have hlt : k.toNat < ds.length := (List.getElem?_eq_some_iff.mp hd).1
  refine tail_any hl.typeIs slot_list_getitem.lookup (wpAny_getItem_list (x := v) hl h0 (by omega) (by simpa using hv) ?_) (hq _ _)
  exact ⟨g2, X1.trans X2, rv⟩
theorem Ev.itemT {value slice : Expr} {pos : Pos} {ds : List D} {k : Int} {d : D} (hv : Ev w n env ρ value (.tup ds)) (hs : Ev w n env ρ slice (.int k)) (h0 : 0 ≤ k) (hd : ds[k.toNat]? = some d) (hk : ds.length ≤ 1000)
    (hq : ∀ o i, subscripted slice false o i = operate [o, i] (getItem o i) := by intro _ _; rfl) (ht : ∀ o r, letTemporaryGo value o r = pure () := by intro _ _; rfl) : Ev w n env ρ (.Subscript value slice pos) d := fun A s g ga S => by
  refine Subscript_ (go (hv A s g ga S) fun o s1 ⟨g1, X1, r1⟩ => go (hs A s1 g1 ga (S.ext X1)) fun i s2 ⟨g2, X2, r2⟩ => ?_)
  obtain ⟨a, ot, vs, m, rfl, e, c1, c2, q⟩ := r1.isT
  cases r2 with | int _ t =>
  have hl := X2.inn _ _ (X2.sub _ _ e)
  obtain ⟨v, hv, rv⟩ := (q.mono X2.sub).get _ hd
  have hlt : k.toNat < ds.length := (List.getElem?_eq_some_iff.mp hd).1
  have hln := q.length
  refine item_tuple (items := vs.toArray) (j := k.toNat) (x := v) ⟨_, hl, c1, m, c2⟩ (by omega) (by omega) ?_ (by simpa using hv) ⟨g2, X1.trans X2, rv⟩ (hq _ _) (fun r => ht _ r)
  exact seqIndex_of h0 (by simp; omega)
theorem Ev.itemB {value slice : Expr} {pos : Pos} {ks : List Int} {k : Int} (hv : Ev w n env ρ value (.bytes ks)) (hs : Ev w n env ρ slice (.int k)) (h0 : 0 ≤ k) (h1 : k < (ks.length : Int)) (hk : ks.length ≤ 1000)
    (hq : ∀ o i, subscripted slice false o i = operate [o, i] (getItem o i) := by intro _ _; rfl) : Ev w n env ρ (.Subscript value slice pos) (.int (ks.getD k.toNat 0)) := fun A s g ga S => by
  refine Subscript_ (go (hv A s g ga S) fun o s1 ⟨g1, X1, r1⟩ => go (hs A s1 g1 ga (S.ext X1)) fun i s2 ⟨g2, X2, r2⟩ => ?_)
  obtain ⟨b, tb, rfl, e⟩ := r1.isB
  cases r2 with | int _ t =>
  subst e
  have hlen := KBw.ints_length b
  refine tail_any (typeIs_bytes _ _ _) FB.slot_bytes_getitem.lookup ?_ (hq _ _)
  have hb : b = b.toList.toArray := by simp
  rw [hb]
  refine getItem_bytes (by simp; omega) h0 (by simp; omega) ?_
  rw [KBw.getD_ints]
  exact .trans (X1.trans X2) (.tok _ X2.inn (.int _ _))

/-- the parts of a slice -/
def EvP (w : World) (n : Nat) (env : Env) (ρ : Vars) (e : Option Expr) (k : Option Int) : Prop :=
  ∀ A s g, GA n A → Sit env g s.heap ρ → wpAny (model pr w) A (evalPart e env) (fun v s' => ∃ g', Ext g s g' s' ∧ IsPart v k) No s
theorem EvP.none : EvP w n env ρ Option.none Option.none := fun _ _ g _ S => wpAny_pure ⟨g, .refl S.keep, .none⟩
theorem EvP.some {e : Expr} {k : Int} (h : Ev w n env ρ e (.int k)) : EvP w n env ρ (some e) (some k) := fun A s g ga S =>
  go (h A s g ga S) fun v s1 ⟨g1, X1, r1⟩ => by cases r1; exact ⟨g1, X1, .int _ _⟩
theorem slice_eq (l u : Option Expr) (p : Pos) (o i : Value) : subscripted (.Slice l u Option.none p) false o i = operate [i, o] (getItem o i) := rfl
theorem Ev.sliceB {value : Expr} {lower upper : Option Expr} {p pos : Pos} {ks : List Int} {lo hi : Option Int} (hv : Ev w n env ρ value (.bytes ks)) (hl : EvP w n env ρ lower lo) (hu : EvP w n env ρ upper hi) (hz : ks.length ≤ 1000) :
    Ev w n env ρ (.Subscript value (.Slice lower upper Option.none p) pos) (.bytes ((ks.drop (lo.elim 0 (clipAt ks.length))).take (hi.elim ks.length (clipAt ks.length) - lo.elim 0 (clipAt ks.length)))) := fun A s g ga S => by
  refine Subscript_ (go (hv A s g ga S) fun o s1 ⟨g1, X1, r1⟩ => ?_)
  refine wpAny_Slice (go (hl A s1 g1 ga (S.ext X1)) fun vl s2 ⟨g2, X2, r2⟩ => go (hu A s2 g2 ga ((S.ext X1).ext X2)) fun vu s3 ⟨g3, X3, r3⟩ => ?_)
  rw [evalPart_none]
  refine wpAny_pure ?_
  obtain ⟨b, tb, rfl, e⟩ := r1.isB
  have hlen := KBw.ints_length b
  have X4 := Ext.push (g := g3) (s := s3) { cls := .type "slice", data := .fields #[vl, vu, .none] } X3.inn s3.toks
  refine tail_any (typeIs_bytes _ _ _) FB.slot_bytes_getitem.lookup ?_ (slice_eq _ _ _ _ _)
  refine getItem_meets (typeIs_bytes _ _ _) (by decide) FB.slot_bytes_getitem FB.entry_bytes_getitem (FB.args_bytes_getitem_2 _ _) (KBc.meets_slice2 b tb _ r2 r3) ?_
  refine ⟨Heap.IsSliceOf.new _ _ _ _, Nat.le_trans (KBc.size_picked_le b lo hi) (by rw [← hlen, e, sizeLine_eq]; omega), fun t' k => ?_⟩
  exact .trans (X1.trans (X2.trans (X3.trans X4))) (.tok _ X4.inn (.bytes (KBc.ints_picked e lo hi)))
theorem slicePick_clip (items : Array Value) (a b : Nat) (hb : b ≤ items.size) (hab : a ≤ b) : slicePick items (some (a : Int)) (some (b : Int)) Option.none = ((items.toList.drop a).take (b - a)).toArray := slicePick_run items a b hb hab
theorem Reps.drop {g : Lk} : ∀ {vs ds} (k : Nat), Reps g vs ds → Reps g (vs.drop k) (ds.drop k)
  | _, _, 0, r => r
  | _, _, k + 1, .nil => by simp; exact .nil
  | _, _, k + 1, .cons _ r => r.drop k
theorem Reps.take {g : Lk} : ∀ {vs ds} (k : Nat), Reps g vs ds → Reps g (vs.take k) (ds.take k)
  | _, _, 0, r => by simp; exact .nil
  | _, _, k + 1, .nil => by simp; exact .nil
  | _, _, k + 1, .cons a r => .cons a (r.take k)
theorem Ev.sliceL {value : Expr} {lower upper : Expr} {p pos : Pos} {ds : List D} {lo hi : Nat} (hv : Ev w n env ρ value (.list ds)) (hl : Ev w n env ρ lower (.int lo)) (hu : Ev w n env ρ upper (.int hi)) (hz : ds.length ≤ 1000) (hab : lo ≤ hi) (hb : hi ≤ ds.length) :
    Ev w n env ρ (.Subscript value (.Slice (some lower) (some upper) Option.none p) pos) (.list ((ds.drop lo).take (hi - lo))) := fun A s g ga S => by
  refine Subscript_ (go (hv A s g ga S) fun o s1 ⟨g1, X1, r1⟩ => ?_)
  refine wpAny_Slice (go ((EvP.some hl) A s1 g1 ga (S.ext X1)) fun vl s2 ⟨g2, X2, r2⟩ => go ((EvP.some hu) A s2 g2 ga ((S.ext X1).ext X2)) fun vu s3 ⟨g3, X3, r3⟩ => ?_)
  rw [evalPart_none]
  refine wpAny_pure ?_
  obtain ⟨a, vs, m, rfl, e, q⟩ := r1.isL
  have hln := q.length
  have X4 := Ext.push (g := g3) (s := s3) { cls := .type "slice", data := .fields #[vl, vu, .none] } X3.inn s3.toks
  have hl := isList_of (X4.inn _ _ (X4.sub _ _ (X3.sub _ _ (X2.sub _ _ e))))
  refine tail_any (Heap.IsList.typeIs (s := { s3 with heap := _, toks := s3.toks }) hl) slot_list_getitem.lookup ?_ (slice_eq _ _ _ _ _)
  refine wpAny_getItem_list_slice hl (Heap.IsSliceOf.new _ _ _ _) r2 r3 .none (by simp) ?_ (by simp [sizeLine_eq]; omega)
  rw [slicePick_clip _ _ _ (by simp; omega) hab]
  have X5 := Ext.push (g := _) (s := { s3 with heap := s3.heap.push { cls := .type "slice", data := .fields #[vl, vu, .none] }, toks := s3.toks }) (lobj ((vs.drop lo).take (hi - lo)) 0) X4.inn s3.toks
  exact ⟨_, X1.trans (X2.trans (X3.trans (X4.trans X5))), .list (put_self _ _ _) ((((q.mono X2.sub).mono X3.sub).mono X4.sub).mono X5.sub |>.drop lo |>.take _)⟩
end
end Mine
end

-- M5
section
namespace Mine
open PySem PySem.W PyProof.Rows

/-- a call of a built-in -/
def CallV (w : World) (f : Value) (ds : List D) (d : D) : Prop := ∀ n A s g vs, GA n A → Sub g s.heap.get? → Reps g vs ds → wpAny (model pr w) A (call f vs) (Out g s d) No s

section
variable {w : World} {n : Nat} {env : Env} {ρ : Vars}
theorem Ev.callB {x : Str} {p pos : Pos} {e : Expr} {es : List Expr} {id : String} {ds : List D} {d : D} (hf : Ev w n env ρ (.Name x p) (.val (.builtin id))) (ha : Evs w n env ρ (e :: es) ds) (hc : CallV w (.builtin id) ds d)
    (hq : starEach (e :: es) env = (false, eval e env) :: starEach es env := by rfl) (hp : (backTo pos (starEach (e :: es) env)).any (·.1) = false := by rfl) : Ev w n env ρ (.Call (.Name x p) (e :: es) [] pos) d := fun A s g ga S => by
  refine wpAny_Call_NameR (go (hf A s g ga S) fun f s1 ⟨g1, X1, r1⟩ => ?_)
  cases r1
  refine Calls.callWith_builtin hp ?_
  have H := ha A s1 g1 pos ga (S.ext X1)
  rw [hq] at H ⊢
  refine Calls.evalArgs_plain (go H fun vs s2 ⟨g2, X2, r2⟩ => ?_)
  exact go (hc n A s2 g2 vs ga X2.inn r2) fun v s3 o => .trans (X1.trans X2) o
theorem Ev.callT {x : Str} {p pos : Pos} {e : Expr} {es : List Expr} {T : String} {ds : List D} {d : D} (hf : Ev w n env ρ (.Name x p) (.val (.type T))) (ha : Evs w n env ρ (e :: es) ds) (hc : CallV w (.type T) ds d)
    (hq : starEach (e :: es) env = (false, eval e env) :: starEach es env := by rfl) (hp : (backTo pos (starEach (e :: es) env)).any (·.1) = false := by rfl) : Ev w n env ρ (.Call (.Name x p) (e :: es) [] pos) d := fun A s g ga S => by
  refine wpAny_Call_NameR (go (hf A s g ga S) fun f s1 ⟨g1, X1, r1⟩ => ?_)
  cases r1
  refine PyProof.Rows.callWith_type hp ?_
  have H := ha A s1 g1 pos ga (S.ext X1)
  rw [hq] at H ⊢
  refine Calls.evalArgs_plain (go H fun vs s2 ⟨g2, X2, r2⟩ => ?_)
  exact go (hc n A s2 g2 vs ga X2.inn r2) fun v s3 o => .trans (X1.trans X2) o

theorem Reps.one {g : Lk} {vs : List Value} {d : D} (r : Reps g vs [d]) : ∃ v, vs = [v] ∧ Rep g v d := by
  cases r with | cons a q => cases q; exact ⟨_, rfl, a⟩
theorem Reps.two {g : Lk} {vs : List Value} {d e : D} (r : Reps g vs [d, e]) : ∃ v u, vs = [v, u] ∧ Rep g v d ∧ Rep g u e := by
  cases r with | cons a q => obtain ⟨u, rfl, b⟩ := q.one; exact ⟨_, _, rfl, a, b⟩
theorem Reps.three {g : Lk} {vs : List Value} {d e f : D} (r : Reps g vs [d, e, f]) : ∃ v u y, vs = [v, u, y] ∧ Rep g v d ∧ Rep g u e ∧ Rep g y f := by
  cases r with | cons a q => obtain ⟨u, y, rfl, b, c⟩ := q.two; exact ⟨_, _, _, rfl, a, b, c⟩
theorem Rep.isI {g : Lk} {v : Value} {i : Int} (r : Rep g v (.int i)) : ∃ t, v = .int i t := by cases r; exact ⟨_, rfl⟩

theorem CallV.lenL {ds : List D} (hz : ds.length ≤ 1000) : CallV w (.builtin "len") [.list ds] (.int ds.length) := fun n A s g vs ga k r => by
  obtain ⟨v, rfl, r1⟩ := r.one
  obtain ⟨a, us, m, rfl, e, q⟩ := r1.isL
  have hl := q.length
  refine Calls.call_len_list (isList_of (k _ _ e)) (by simp; omega) ?_
  rw [List.size_toArray, hl]
  exact .tok _ k (.int _ _)
theorem CallV.lenB {ks : List Int} (hz : ks.length ≤ 1000) : CallV w (.builtin "len") [.bytes ks] (.int ks.length) := fun n A s g vs ga k r => by
  obtain ⟨v, rfl, r1⟩ := r.one
  obtain ⟨b, t, rfl, e⟩ := r1.isB
  have hl := KBw.ints_length b
  refine len_bytes (by rw [← hl, e]; omega) ?_
  rw [← hl, e]
  exact .tok _ k (.int _ _)
theorem CallV.range1 {b : Int} : CallV w (.type "range") [.int b] (.rng 0 b 1) := fun n A s g vs ga k r => by
  obtain ⟨v, rfl, r1⟩ := r.one
  obtain ⟨t, rfl⟩ := r1.isI
  exact call_range_1 ⟨_, .push _ k _, .rng (put_self _ _ _)⟩
theorem CallV.range2 {a b : Int} : CallV w (.type "range") [.int a, .int b] (.rng a b 1) := fun n A s g vs ga k r => by
  obtain ⟨v, u, rfl, r1, r'⟩ := r.two
  obtain ⟨t, rfl⟩ := r1.isI
  obtain ⟨t', rfl⟩ := r'.isI
  exact call_range_2 ⟨_, .push _ k _, .rng (put_self _ _ _)⟩
theorem CallV.range3 {a b c : Int} (h0 : c ≠ 0) (hs : c.natAbs < 1073741824) : CallV w (.type "range") [.int a, .int b, .int c] (.rng a b c) := fun n A s g vs ga k r => by
  obtain ⟨v, u, y, rfl, r1, r', r''⟩ := r.three
  obtain ⟨t, rfl⟩ := r1.isI
  obtain ⟨t', rfl⟩ := r'.isI
  obtain ⟨t'', rfl⟩ := r''.isI
  exact call_range_3 h0 ⟨_, .push _ k _, .rng (put_self _ _ _)⟩ (Or.inl (PyProof.noPylong_small hs))
theorem CallV.sorted {ns ms : List Int} (hp : ms.Perm ns) (hs : ms.Pairwise (· ≤ ·)) (h64 : ns.length < 64) : CallV w (.builtin "sorted") [.list (inl ns)] (.list (inl ms)) := fun n A s g vs ga k r => by
  obtain ⟨v, rfl, r1⟩ := r.one
  obtain ⟨a, us, m, rfl, e, q⟩ := r1.isL
  have hl := q.length
  refine sorted_ints (isList_of (k _ _ e)) q.intsAre (by rw [hl]; simpa using h64) fun out ns' a1 a2 a3 => ?_
  obtain ⟨e', he⟩ := sortedAll_at s.heap us out
  have heq : ns' = ms := (a2.trans hp.symm).eq_of_pairwise (fun x y _ _ h1 h2 => Int.le_antisymm h1 h2) a3 hs
  subst heq
  have ho : (seqObj "list" out e') = lobj out.toList e' := by simp [seqObj]
  rw [ho] at he
  exact ⟨_, .put k ⟨_, _, rfl⟩ (fun b o e => sortedAll_old e) (fresh_size (Nat.le_succ _)) he, .list (put_self _ _ _) (.ofInts a1)⟩
theorem CallV.sum {ns : List Int} : CallV w (.builtin "sum") [.list (inl ns)] (.int ns.sum) := fun n A s g vs ga k r => by
  obtain ⟨v, rfl, r1⟩ := r.one
  obtain ⟨a, us, m, rfl, e, q⟩ := r1.isL
  have hi := q.intsAre
  obtain ⟨xs, hx⟩ := hi.allInts.items
  have hl := isList_of (k _ _ e)
  rw [hx] at hl
  refine sum_intListG ga.hh hl fun h' tk t' hk => ?_
  have hn : xs.toList.map (·.1) = ns := by
    have h1 := hi.numsOf
    have h2 : us = (intItems xs).toList := by rw [← hx]
    rw [h2, nums_intItems] at h1
    exact h1
  have hs : preSum (numAt xs) xs.size = ns.sum := by rw [preSum_eq, List.take_of_length_le (by simp), hn]
  rw [hs]
  exact ⟨g, ⟨⟨_, _, rfl⟩, hk, Sub.refl _, k.trans hk, fun _ _ e => .inl e⟩, .int _ _⟩
theorem CallV.isBytes {ks : List Int} : CallV w (.builtin "isinstance") [.bytes ks, .val (.type "bytes")] (.bool true) := fun n A s g vs ga k r => by
  obtain ⟨v, u, rfl, r1, r'⟩ := r.two
  obtain ⟨b, t, rfl, e⟩ := r1.isB
  cases r'
  exact call_isinstance (isinstance_true (Tx := "bytes") (by rfl) F.sub_bytes_bytes) ⟨typeIs_bytes _ _ _, .here k (.bool true)⟩
theorem CallV.bytes {ns : List Int} (hr : ∀ x ∈ ns, 0 ≤ x ∧ x < 256) (hz : ns.length ≤ 1000) : CallV w (.type "bytes") [.list (inl ns)] (.bytes ns) := fun n A s g vs ga k r => by
  obtain ⟨v, rfl, r1⟩ := r.one
  obtain ⟨a, us, m, rfl, e, q⟩ := r1.isL
  have hl := q.length
  refine call_bytes_ints (isList_of (k _ _ e)) q.intsAre hr (by rw [hl, sizeLine_eq]; simp; omega) ga.hh fun h' t k' hk => ?_
  exact ⟨g, ⟨⟨_, _, rfl⟩, hk, Sub.refl _, k.trans hk, fun _ _ e => .inl e⟩, .bytes (KBa.ints_make hr)⟩
theorem Reps.ofItems {g : Lk} {f : Nat → Int} : ∀ {vs : List Value} {k : Nat}, (∀ (j : Nat) (v : Value), vs[j]? = some v → ∃ t, v = Value.int (f (k + j)) t) → Reps g vs (inl ((List.range' k vs.length).map f))
  | [], _, _ => .nil
  | v :: vs, k, h => by
    obtain ⟨t, e⟩ := h 0 v rfl
    subst e
    refine .cons (.int _ _) ?_
    refine Reps.ofItems fun j u hj => ?_
    have := h (j + 1) u (by simpa using hj)
    rw [show k + 1 + j = k + (j + 1) by omega]
    exact this
theorem CallV.listRange {m : Nat} (hm : m ≤ 1000) : CallV w (.type "list") [.rng 0 m 1] (.list (inl ((List.range m).map fun (i : Nat) => (i : Int)))) := fun n A s g vs ga k r => by
  obtain ⟨v, rfl, r1⟩ := r.one
  cases r1 with | rng e =>
  have hs : Builtin.Range.rangeSize 0 (m : Int) 1 = m := by rw [rangeSize_one]; split <;> omega
  refine call_list_range ga.hh (k _ _ e) (small_one (by omega) (by omega) (by omega) (by omega)) hs (by omega) fun h' tk acc' c' hk hg hi => ?_
  have ho : ({ cls := .type "list", dict := Option.none, data := .seq acc' c', slots := #[] } : Obj) = lobj acc'.toList c' := by simp
  rw [ho] at hg
  refine ⟨_, .put k ⟨_, _, rfl⟩ hk (fresh_size (Nat.le_refl _)) hg, .list (put_self _ _ _) ?_⟩
  have := Reps.ofItems (g := Mine.put g s.heap.objs.size (lobj acc'.toList c')) (f := fun (i : Nat) => (i : Int)) (vs := acc'.toList) (k := 0) fun j v hj => by
    obtain ⟨t, e⟩ := hi.2 j v (by simpa using hj)
    exact ⟨t, by rw [e]; simp⟩
  rw [Array.length_toList, hi.1, ← List.range_eq_range'] at this
  exact this

/-- xs.index(k) -/
theorem Ev.index {o x : Expr} {apos pos : Pos} {ns : List Int} {k : Int} (ho : Ev w n env ρ o (.list (inl ns))) (hx : Ev w n env ρ x (.int k)) (hk : k ∈ ns) (hz : ns.length ≤ 1000)
    (hbase : attributeBase o "index" env (eval o env) = eval o env := by rfl) (hq : starEach [x] env = [(false, eval x env)] := by rfl) (hline : (apos.endLine == pos.line) = true := by rfl) :
    Ev w n env ρ (.Call (.Attribute o "index" apos) [x] [] pos) (.int (ns.idxOf k : Nat)) := fun A s g ga S => by
  refine wpAny_Call_method hbase (by rw [hq]; rfl) hline F.plainAttrs_list F.slot_list_index F.type_list_index (go (ho A s g ga S) fun ov s1 ⟨g1, X1, r1⟩ => ?_)
  obtain ⟨a, us, m, rfl, e, q⟩ := r1.isL
  have hl := X1.inn _ _ e
  refine ⟨⟨_, hl, rfl⟩, fun b hb => by cases hb; exact ⟨_, hl, rfl⟩, ?_⟩
  rw [hq]
  refine P.index_list (go (hx A s1 g1 ga (S.ext X1)) fun v s2 ⟨g2, X2, r2⟩ => ?_)
  obtain ⟨t, rfl⟩ := r2.isI
  have hi := q.intsAre
  have hlen := hi.length
  have hlt : ns.idxOf k < ns.length := List.idxOf_lt_length_iff.mpr hk
  have hget : ∀ j (hj : j < us.length), ∃ t, us[j] = .int (ns[j]'(by omega)) t := fun j hj => by
    obtain ⟨t, h⟩ := hi.get j (ns[j]'(by omega)) (by simp [show j < ns.length by omega])
    exact ⟨t, by simpa [hj] using h⟩
  refine ⟨us.toArray, m, isInt k, ns.idxOf k, by simp; omega, X2.inn _ _ (X2.sub _ _ e), fun y hy => eq_isInt k t hi y (by simpa using hy), by omega, ?_, fun j hj hlt' => ?_, ?_⟩
  · obtain ⟨t', h⟩ := hget (ns.idxOf k) (by omega)
    simp only [List.getElem_toArray]
    rw [h]
    simp [isInt, List.getElem_idxOf]
  · have hj' : j < us.length := by simpa using hj
    obtain ⟨t', h⟩ := hget j hj'
    simp only [List.getElem_toArray]
    rw [h]
    have hne := List.not_of_lt_findIdx (p := (· == k)) (xs := ns) (i := j) hlt'
    simpa [isInt] using hne
  · exact .trans (X1.trans X2) (.tok _ X2.inn (.int _ _))
end
end Mine
end

-- M6
section
namespace Mine
open PySem PySem.W PyProof.Rows

/-- what the one list (or bytearray) holds that a frame may turn -/
inductive OD where
  | list (l : List D)
  | barr (b : List Int)
structure AS where
  vs : Vars
  own : Option (Addr × OD)
abbrev bobj (b : Array UInt8) : Obj := { cls := .type "bytearray", dict := Option.none, data := .bytearray b 0, slots := #[] }
def OwnOK (g : Lk) (h : Heap) (a : Addr) : OD → Prop
  | .list l => ∃ us n, h.get? a = some (lobj us n) ∧ Reps g us l
  | .barr ks => ∃ b, h.get? a = some (bobj b) ∧ KBw.bInts b = ks
theorem OwnOK.keep {g g' : Lk} {h h' : Heap} {a : Addr} : ∀ {od : OD}, OwnOK g h a od → Sub g g' → (∀ o, h.get? a = some o → h'.get? a = some o) → OwnOK g' h' a od
  | .list _, ⟨us, n, e, r⟩, s, k => ⟨us, n, k _ e, r.mono s⟩
  | .barr _, ⟨b, e, r⟩, _, k => ⟨b, k _ e, r⟩
theorem OwnOK.here {g : Lk} {h : Heap} {a : Addr} : ∀ {od : OD}, OwnOK g h a od → ∃ o, h.get? a = some o
  | .list _, ⟨_, _, e, _⟩ => ⟨_, e⟩
  | .barr _, ⟨_, e, _⟩ => ⟨_, e⟩

structure Hold (env : Env) (σ : AS) (g p : Lk) (h : Heap) : Prop where
  sit : Sit env g h σ.vs
  gp : Sub g p
  ph : Sub p h.get?
  pL : p env.locals = Option.none
  pC : ∀ n c, (n, c) ∈ env.cells → (env.func.isSome = true → p c = Option.none) ∧ c ≠ env.locals ∧ (∃ v, h.IsCell c v) ∧ (env.func.isSome = false → ∃ o v, p c = some o ∧ o.data = .cell v)
  apart : env.cells.Pairwise fun x y => x.2 ≠ y.2
  own : ∀ a od, σ.own = some (a, od) → OwnOK g h a od ∧ p a = Option.none ∧ a ≠ env.locals ∧ ∀ n c, (n, c) ∈ env.cells → c ≠ a
structure Mv (g p g' p' : Lk) : Prop where
  sub : Sub g g'
  pub : Sub p p'
  fresh : ∀ b o, g' b = some o → g b = some o ∨ p b = Option.none
theorem Mv.refl (g p : Lk) : Mv g p g p := ⟨Sub.refl _, Sub.refl _, fun _ _ e => .inl e⟩
theorem Mv.trans {g p g1 p1 g2 p2 : Lk} (a : Mv g p g1 p1) (b : Mv g1 p1 g2 p2) : Mv g p g2 p2 := ⟨a.sub.trans b.sub, a.pub.trans b.pub, fun x o e => by
  rcases b.fresh x o e with q | q
  · exact a.fresh x o q
  · refine .inr ?_
    cases r : p x with
    | none => rfl
    | some o' => rw [a.pub _ _ r] at q; cases q⟩

inductive AF where
  | next
  | ret (d : D)
def FlowOK (g : Lk) (f : Flow) : AF → Prop
  | .next => f = .next
  | .ret d => ∃ v, f = .ret v ∧ Rep g v d
def OutS (env : Env) (g p : Lk) (s : Shared) (Q : AF → AS → Prop) (f : Flow) (s' : Shared) : Prop :=
  ∃ g' p' af σ', (∃ h t, s' = { s with heap := h, toks := t }) ∧ Mv g p g' p' ∧ Hold env σ' g' p' s'.heap ∧ FlowOK g' f af ∧ Q af σ'
def Ex (w : World) (n : Nat) (env : Env) (σ : AS) (st : Stmt) (Q : AF → AS → Prop) : Prop :=
  ∀ A s g p, GA n A → Hold env σ g p s.heap → wpAny (model pr w) A (exec st env) (OutS env g p s Q) No s
def Exs (w : World) (n : Nat) (env : Env) (σ : AS) (sts : List Stmt) (Q : AF → AS → Prop) : Prop :=
  ∀ A s g p, GA n A → Hold env σ g p s.heap → wpAny (model pr w) A (execs sts env) (OutS env g p s Q) No s

theorem Ns_some {h : Heap} {a : Addr} {m : Str → Option Value} (n : h.Ns a m) : ∃ o, h.get? a = some o := let ⟨o, _, _, e, _⟩ := n; ⟨o, e⟩

/-- behind an expression -/
theorem Hold.ext {env : Env} {σ : AS} {g p g' : Lk} {s s' : Shared} (H : Hold env σ g p s.heap) (X : Ext g s g' s') : ∃ p', Hold env σ g' p' s'.heap ∧ Mv g p g' p' ∧ (∀ b, p b = Option.none → g' b = Option.none → p' b = Option.none) := by
  obtain ⟨ml, nL, _⟩ := H.sit.var
  obtain ⟨oL, eL⟩ := Ns_some nL
  have key : ∀ b o, p b = Option.none → s.heap.get? b = some o → g' b = Option.none := fun b o e1 e2 => by
    cases q : g' b with
    | none => rfl
    | some o' =>
      rcases X.fresh b o' q with r | r
      · rw [H.gp _ _ r] at e1; cases e1
      · rw [e2] at r; cases r
  refine ⟨fun b => match p b with | some o => some o | Option.none => g' b, ⟨H.sit.ext X, ?_, ?_, ?_, ?_, H.apart, ?_⟩, ⟨X.sub, ?_, ?_⟩, ?_⟩
  · intro b o e
    show (match p b with | some o => some o | Option.none => g' b) = some o
    cases q : p b with
    | none => exact e
    | some o' =>
      have h1 := X.keep _ _ (H.ph _ _ q)
      rw [X.inn _ _ e] at h1
      cases h1; rfl
  · intro b o e
    have e : (match p b with | some o => some o | Option.none => g' b) = some o := e
    cases q : p b with
    | none => rw [q] at e; exact X.inn _ _ e
    | some o' => rw [q] at e; cases e; exact X.keep _ _ (H.ph _ _ q)
  · show (match p env.locals with | some o => some o | Option.none => g' env.locals) = Option.none
    rw [H.pL]
    exact key _ _ H.pL eL
  · intro n c hm
    obtain ⟨e1, e2, ⟨v, e3⟩, e4⟩ := H.pC n c hm
    obtain ⟨o, ho, hd⟩ := id e3
    refine ⟨fun q => ?_, e2, ⟨v, e3.keeps X.keep⟩, fun q => ?_⟩
    · show (match p c with | some o => some o | Option.none => g' c) = Option.none
      rw [e1 q]
      exact key _ _ (e1 q) ho
    · obtain ⟨o, v, r1, r2⟩ := e4 q
      refine ⟨o, v, ?_, r2⟩
      show (match p c with | some o => some o | Option.none => g' c) = some o
      rw [r1]
  · intro a od e
    obtain ⟨e1, e2, e3, e4⟩ := H.own a od e
    obtain ⟨o, ho⟩ := e1.here
    refine ⟨e1.keep X.sub fun o e => X.keep _ _ e, ?_, e3, e4⟩
    show (match p a with | some o => some o | Option.none => g' a) = Option.none
    rw [e2]
    exact key _ _ e2 ho
  · intro b o e
    show (match p b with | some o => some o | Option.none => g' b) = some o
    rw [e]
  · intro b o e
    rcases X.fresh b o e with r | r
    · exact .inl r
    · refine .inr ?_
      cases q : p b with
      | none => rfl
      | some o' => rw [H.ph _ _ q] at r; cases r
  · intro b e1 e2
    show (match p b with | some o => some o | Option.none => g' b) = Option.none
    rw [e1]; exact e2

theorem lookup_cons_eq {x y : Str} {d : D} {ρ : Vars} : List.lookup y ((x, d) :: ρ) = if y = x then some d else ρ.lookup y := by
  rw [List.lookup_cons]
  by_cases h : y = x
  · subst h; simp
  · have : (y == x) = false := by simpa using h
    rw [this, if_neg h]

def Storable (env : Env) (x : Str) : Prop := env.kindOf x = some .local ∨ (env.kindOf x = some .cell ∧ (env.cells.lookup x).isSome = true ∧ env.func.isSome = true)

/-- a name stored -/
theorem Hold.store2 {w : World} {A : Around} {E : Value → Shared → Prop} {env : Env} {σ : AS} {g p : Lk} {s : Shared} {x : Str} {v : Value} {d : D} {Q : Unit → Shared → Prop} (H : Hold env σ g p s.heap) (hx : Storable env x) (r : Rep g v d)
    (h : ∀ h' t, Hold env ⟨(x, d) :: σ.vs, σ.own⟩ g p h' → (∀ b o, b ≠ env.locals → (∀ m c, (m, c) ∈ env.cells → b ≠ c) → s.heap.get? b = some o → h'.get? b = some o) → Q () { s with heap := h', toks := t }) : wpAny (model pr w) A (storeName env x v) Q E s := by
  obtain ⟨ml, nL, f⟩ := H.sit.var
  have hgL : g env.locals = Option.none := by
    cases q : g env.locals with
    | none => rfl
    | some o => have := H.gp _ _ q; rw [H.pL] at this; cases this
  rcases hx with hx | ⟨hx, hc, hfn⟩
  · refine wpAny_storeName_local hx nL (fun h' hn hs => h h' _ ?_ fun b o hb _ e => hs.extBut b o hb e) (by rw [H.sit.kind]; rfl)
    have kp : ∀ b o, b ≠ env.locals → s.heap.get? b = some o → h'.get? b = some o := fun b o hb e => hs.extBut b o hb e
    refine ⟨⟨H.sit.top, fun b o e => kp b o (fun q => by subst q; rw [hgL] at e; cases e) (H.sit.keep _ _ e), H.sit.kind, H.sit.glob, H.sit.blt, _, hn, fun y d' e => ?_⟩, H.gp,
      fun b o e => kp b o (fun q => by subst q; rw [H.pL] at e; cases e) (H.ph _ _ e), H.pL, fun n c hm => ?_, H.apart, fun a od e => ?_⟩
    · rw [lookup_cons_eq] at e
      split at e
      · rename_i q; subst q; cases e
        exact ⟨v, r, .inl ⟨hx, if_pos rfl⟩⟩
      · rename_i q
        obtain ⟨u, ru, hu⟩ := f y d' e
        refine ⟨u, ru, ?_⟩
        rcases hu with ⟨k1, k2⟩ | ⟨k1, c, k2, k3⟩
        · exact .inl ⟨k1, (if_neg q).trans k2⟩
        · exact .inr ⟨k1, c, k2, k3.sameBut hs (H.pC _ _ (mem_of_lookup k2)).2.1⟩
    · obtain ⟨e1, e2, ⟨u, e3⟩, e4⟩ := H.pC n c hm
      exact ⟨e1, e2, ⟨u, e3.sameBut hs e2⟩, e4⟩
    · obtain ⟨e1, e2, e3, e4⟩ := H.own a od e
      exact ⟨e1.keep (Sub.refl _) fun o e => kp _ _ e3 e, e2, e3, e4⟩
  · obtain ⟨c, hc⟩ := Option.isSome_iff_exists.mp hc
    obtain ⟨c1, c2, ⟨u0, c3⟩, c4⟩ := H.pC _ _ (mem_of_lookup hc)
    replace c1 := c1 hfn
    have hgc : g c = Option.none := by
      cases q : g c with
      | none => rfl
      | some o => have := H.gp _ _ q; rw [c1] at this; cases this
    refine wpAny_storeName_cell H.sit.kind hx hc c3 fun h' hv hs => h h' s.toks ?_ fun b o _ hb e => hs.extBut b o (hb _ _ (mem_of_lookup hc)) e
    have kp : ∀ b o, b ≠ c → s.heap.get? b = some o → h'.get? b = some o := fun b o hb e => hs.extBut b o hb e
    refine ⟨⟨H.sit.top, fun b o e => kp b o (fun q => by subst q; rw [hgc] at e; cases e) (H.sit.keep _ _ e), H.sit.kind, H.sit.glob, H.sit.blt, ml, nL.sameBut hs (Ne.symm c2), fun y d' e => ?_⟩, H.gp,
      fun b o e => kp b o (fun q => by subst q; rw [c1] at e; cases e) (H.ph _ _ e), H.pL, fun n c' hm => ?_, H.apart, fun a od e => ?_⟩
    · rw [lookup_cons_eq] at e
      split at e
      · rename_i q; subst q; cases e
        exact ⟨v, r, .inr ⟨.inl hx, c, hc, hv⟩⟩
      · rename_i q
        obtain ⟨u, ru, hu⟩ := f y d' e
        refine ⟨u, ru, ?_⟩
        rcases hu with ⟨k1, k2⟩ | ⟨k1, c', k2, k3⟩
        · exact .inl ⟨k1, k2⟩
        · exact .inr ⟨k1, c', k2, k3.sameBut hs fun z => q (name_of_addr H.apart (mem_of_lookup k2) (z ▸ mem_of_lookup hc))⟩
    · obtain ⟨e1, e2, ⟨u, e3⟩, e4⟩ := H.pC n c' hm
      by_cases z : c' = c
      · subst z; exact ⟨e1, e2, ⟨_, hv⟩, e4⟩
      · exact ⟨e1, e2, ⟨u, e3.sameBut hs z⟩, e4⟩
    · obtain ⟨e1, e2, e3, e4⟩ := H.own a od e
      exact ⟨e1.keep (Sub.refl _) fun o e => kp _ _ (fun z => e4 _ _ (mem_of_lookup hc) z.symm) e, e2, e3, e4⟩

theorem Hold.store {w : World} {A : Around} {E : Value → Shared → Prop} {env : Env} {σ : AS} {g p : Lk} {s : Shared} {x : Str} {v : Value} {d : D} {Q : Unit → Shared → Prop} (H : Hold env σ g p s.heap) (hx : Storable env x) (r : Rep g v d)
    (h : ∀ h' t, Hold env ⟨(x, d) :: σ.vs, σ.own⟩ g p h' → Q () { s with heap := h', toks := t }) : wpAny (model pr w) A (storeName env x v) Q E s := H.store2 hx r fun h' t a _ => h h' t a
/-- the own list turned, in place -/
theorem Hold.turn {env : Env} {σ : AS} {g p : Lk} {h h' : Heap} {a : Addr} {od od' : OD} (H : Hold env σ g p h) (ho : σ.own = some (a, od)) (hs : Heap.ExtBut a h h') (hn : OwnOK g h' a od') : Hold env ⟨σ.vs, some (a, od')⟩ g p h' := by
  obtain ⟨e1, e2, e3, e4⟩ := H.own a od ho
  have hga : g a = Option.none := by
    cases q : g a with
    | none => rfl
    | some o => have := H.gp _ _ q; rw [e2] at this; cases this
  obtain ⟨ml, nL, f⟩ := H.sit.var
  refine ⟨⟨H.sit.top, fun b o e => hs b o (fun q => by subst q; rw [hga] at e; cases e) (H.sit.keep _ _ e), H.sit.kind, H.sit.glob, H.sit.blt, ml, nL.extBut hs (Ne.symm e3), fun y d' e => ?_⟩, H.gp,
    fun b o e => hs b o (fun q => by subst q; rw [e2] at e; cases e) (H.ph _ _ e), H.pL, fun n c hm => ?_, H.apart, fun a' od'' e => ?_⟩
  · obtain ⟨u, ru, hu⟩ := f y d' e
    refine ⟨u, ru, ?_⟩
    rcases hu with k | ⟨k1, c, k2, o, k3, k4⟩
    · exact .inl k
    · exact .inr ⟨k1, c, k2, o, hs c o (e4 _ _ (mem_of_lookup k2)) k3, k4⟩
  · obtain ⟨q1, q2, ⟨u, o, q3, q4⟩, q5⟩ := H.pC n c hm
    exact ⟨q1, q2, ⟨u, o, hs c o (e4 _ _ hm) q3, q4⟩, q5⟩
  · cases e; exact ⟨hn, e2, e3, e4⟩
/-- the own list shut: it may be read from here on -/
theorem Hold.freeze {env : Env} {σ : AS} {g p : Lk} {h : Heap} {a : Addr} {l : List D} {x : Str} (H : Hold env σ g p h) (ho : σ.own = some (a, .list l)) (hx : σ.vs.lookup x = some (.val (.ref a))) :
    ∃ g' p', Hold env ⟨(x, .list l) :: σ.vs, Option.none⟩ g' p' h ∧ Mv g p g' p' := by
  obtain ⟨⟨us, n, e1, e1'⟩, e2, e3, e4⟩ := H.own a _ ho
  have hga : g a = Option.none := by
    cases q : g a with
    | none => rfl
    | some o => have := H.gp _ _ q; rw [e2] at this; cases this
  have sg : Sub g (put g a (lobj us n)) := fun b o e => by
    unfold put
    split
    · rename_i q; subst q; rw [hga] at e; cases e
    · exact e
  have sp : Sub p (put p a (lobj us n)) := fun b o e => by
    unfold put
    split
    · rename_i q; subst q; rw [e2] at e; cases e
    · exact e
  obtain ⟨ml, nL, f⟩ := H.sit.var
  refine ⟨put g a (lobj us n), put p a (lobj us n), ⟨⟨H.sit.top.mono sg, ?_, H.sit.kind, H.sit.glob, H.sit.blt, ml, nL, fun y d' e => ?_⟩, ?_, ?_, ?_, fun m c hm => ?_, H.apart, fun _ _ e => by cases e⟩, sg, sp, ?_⟩
  · intro b o e
    unfold put at e
    split at e
    · rename_i q; subst q; cases e; exact e1
    · exact H.sit.keep _ _ e
  · rw [lookup_cons_eq] at e
    split at e
    · rename_i q; subst q; cases e
      obtain ⟨u, ru, hu⟩ := f _ _ hx
      cases ru
      exact ⟨_, .list (put_self _ _ _) (e1'.mono sg), hu⟩
    · obtain ⟨u, ru, hu⟩ := f y d' e
      exact ⟨u, ru.mono sg, hu⟩
  · intro b o e
    unfold put at e ⊢
    split at e
    · rename_i q; rw [if_pos q]; exact e
    · rename_i q; rw [if_neg q]; exact H.gp _ _ e
  · intro b o e
    unfold put at e
    split at e
    · rename_i q; subst q; cases e; exact e1
    · exact H.ph _ _ e
  · unfold put; rw [if_neg (Ne.symm e3)]; exact H.pL
  · obtain ⟨q1, q2, q3, q4⟩ := H.pC m c hm
    have hc : put p a (lobj us n) c = p c := by unfold put; rw [if_neg (e4 _ _ hm)]
    rw [hc]
    exact ⟨q1, q2, q3, q4⟩
  · intro b o e
    unfold put at e
    split at e
    · rename_i q; subst q; exact .inr e2
    · exact .inl e
/-- a new own list -/
theorem Hold.newOwn {env : Env} {σ : AS} {g p : Lk} {h h' : Heap} {a : Addr} {od : OD} (H : Hold env σ g p h) (hk : Sub h.get? h'.get?) (hn : h.get? a = Option.none) (ho : OwnOK g h' a od) : Hold env ⟨σ.vs, some (a, od)⟩ g p h' := by
  obtain ⟨ml, nL, f⟩ := H.sit.var
  obtain ⟨oL, eL⟩ := Ns_some nL
  refine ⟨⟨H.sit.top, H.sit.keep.trans hk, H.sit.kind, H.sit.glob, H.sit.blt, ml, nL.keeps hk, fun y d' e => ?_⟩, H.gp, H.ph.trans hk, H.pL, fun n c hm => ?_, H.apart, fun a' od' e => ?_⟩
  · obtain ⟨u, ru, hu⟩ := f y d' e
    exact ⟨u, ru, hu.keeps hk⟩
  · obtain ⟨q1, q2, ⟨u, q3⟩, q4⟩ := H.pC n c hm
    exact ⟨q1, q2, ⟨u, q3.keeps hk⟩, q4⟩
  · cases e
    refine ⟨ho, ?_, fun q => ?_, fun n c hm q => ?_⟩
    · cases q : p a with
      | none => rfl
      | some o => rw [H.ph _ _ q] at hn; cases hn
    · rw [q, eL] at hn; cases hn
    · obtain ⟨_, _, ⟨u, o, q3, _⟩, _⟩ := H.pC n c hm
      subst q; rw [q3] at hn; cases hn
/-- a new own thing behind an expression -/
theorem Hold.extOwn {env : Env} {σ : AS} {g p g' : Lk} {s s' : Shared} {a : Addr} {od : OD} (H : Hold env σ g p s.heap) (X : Ext g s g' s') (hn : s.heap.get? a = Option.none) (hg : g' a = Option.none) (ho : OwnOK g' s'.heap a od) :
    ∃ p', Hold env ⟨σ.vs, some (a, od)⟩ g' p' s'.heap ∧ Mv g p g' p' := by
  obtain ⟨p', H', m, f⟩ := H.ext X
  obtain ⟨ml, nL, _⟩ := H.sit.var
  obtain ⟨oL, eL⟩ := Ns_some nL
  have hp : p a = Option.none := by
    cases q : p a with
    | none => rfl
    | some o => rw [H.ph _ _ q] at hn; cases hn
  refine ⟨p', ⟨H'.sit, H'.gp, H'.ph, H'.pL, H'.pC, H'.apart, fun a' od' e => ?_⟩, m⟩
  cases e
  refine ⟨ho, f a hp hg, fun q => ?_, fun n c hm q => ?_⟩
  · rw [q, eL] at hn; cases hn
  · obtain ⟨_, _, ⟨u, o, q3, _⟩, _⟩ := H.pC n c hm
    subst q; rw [q3] at hn; cases hn
/-- names forgotten -/
theorem Hold.forget {env : Env} {σ : AS} {g p : Lk} {h : Heap} {ρ : Vars} (H : Hold env σ g p h) (hs : ∀ x d, ρ.lookup x = some d → σ.vs.lookup x = some d) : Hold env ⟨ρ, σ.own⟩ g p h := by
  obtain ⟨ml, nL, f⟩ := H.sit.var
  exact ⟨⟨H.sit.top, H.sit.keep, H.sit.kind, H.sit.glob, H.sit.blt, ml, nL, fun y d e => f y d (hs y d e)⟩, H.gp, H.ph, H.pL, H.pC, H.apart, H.own⟩

theorem OutS.of {env : Env} {g p g1 p1 : Lk} {s s1 s' : Shared} {Q : AF → AS → Prop} {f : Flow} (hm : Mv g p g1 p1) (hs : ∃ h t, s1 = { s with heap := h, toks := t }) (o : OutS env g1 p1 s1 Q f s') : OutS env g p s Q f s' := by
  obtain ⟨g', p', af, σ', ⟨h, t, e⟩, m, r⟩ := o
  obtain ⟨h1, t1, e1⟩ := hs
  exact ⟨g', p', af, σ', ⟨h, t, by rw [e, e1]⟩, hm.trans m, r⟩
end Mine
end

-- M7
section
namespace Mine
open PySem PySem.W PyProof.Rows

theorem same_trans {s s1 s2 : Shared} (a : ∃ h t, s1 = { s with heap := h, toks := t }) (b : ∃ h t, s2 = { s1 with heap := h, toks := t }) : ∃ h t, s2 = { s with heap := h, toks := t } := by
  obtain ⟨h, t, rfl⟩ := a
  obtain ⟨h', t', rfl⟩ := b
  exact ⟨h', t', rfl⟩

section
variable {w : World} {n : Nat} {env : Env} {σ : AS} {Q : AF → AS → Prop}

theorem Exs.nil (h : Q .next σ) : Exs w n env σ [] Q := fun A s g p ga H =>
  wpAny_execs_nil ⟨g, p, .next, σ, ⟨_, _, rfl⟩, .refl _ _, H, rfl, h⟩
theorem Exs.cons {st : Stmt} {rest : List Stmt} (h : Ex w n env σ st fun af σ' => match af with | .next => Exs w n env σ' rest Q | .ret d => Q (.ret d) σ') : Exs w n env σ (st :: rest) Q := fun A s g p ga H => by
  refine wpAny_execs_cons (go (h A s g p ga H) fun f s1 ⟨g1, p1, af, σ1, sm, mv, H1, fo, q⟩ => ?_)
  cases af with
  | next =>
    cases fo
    exact go (q A s1 g1 p1 ga H1) fun f' s2 o => OutS.of mv sm o
  | ret d =>
    obtain ⟨v, rfl, r⟩ := fo
    exact ⟨g1, p1, .ret d, σ1, sm, mv, H1, ⟨v, rfl, r⟩, q⟩
theorem Ex.mono {st : Stmt} {Q' : AF → AS → Prop} (h : Ex w n env σ st Q) (k : ∀ af σ', Q af σ' → Q' af σ') : Ex w n env σ st Q' := fun A s g p ga H =>
  go (h A s g p ga H) fun f s1 ⟨g1, p1, af, σ1, sm, mv, H1, fo, q⟩ => ⟨g1, p1, af, σ1, sm, mv, H1, fo, k _ _ q⟩
theorem Exs.mono {st : List Stmt} {Q' : AF → AS → Prop} (h : Exs w n env σ st Q) (k : ∀ af σ', Q af σ' → Q' af σ') : Exs w n env σ st Q' := fun A s g p ga H =>
  go (h A s g p ga H) fun f s1 ⟨g1, p1, af, σ1, sm, mv, H1, fo, q⟩ => ⟨g1, p1, af, σ1, sm, mv, H1, fo, k _ _ q⟩

theorem Ex.assign {x : Str} {px pos : Pos} {value : Expr} {d : D} (hv : Ev w n env σ.vs value d) (hx : Storable env x) (h : Q .next ⟨(x, d) :: σ.vs, σ.own⟩)
    (hs : swapsWith value (some (.Name x px)) pos.line env = pure false := by rfl) : Ex w n env σ (.Assign [.Name x px] value pos) Q := fun A s g p ga H => by
  refine wpAny_Assign_Name (go (hv A s g ga H.sit) fun v s1 ⟨g1, X1, r1⟩ => ?_) hs
  obtain ⟨p1, H1, m1, _⟩ := H.ext X1
  exact H1.store hx r1 fun h' t H2 => ⟨g1, p1, .next, _, same_trans X1.same ⟨_, _, rfl⟩, m1, H2, rfl, h⟩
theorem Ex.ret {e : Expr} {pos : Pos} {d : D} (hv : Ev w n env σ.vs e d) (h : Q (.ret d) σ) : Ex w n env σ (.Return (some e) pos) Q := fun A s g p ga H => by
  rw [exec_Return_some]
  refine wpAny_bind (wpAny_standAt (wpAny_bind (go (hv A s g ga H.sit) fun v s1 ⟨g1, X1, r1⟩ => ?_)))
  obtain ⟨p1, H1, m1, _⟩ := H.ext X1
  exact wpAny_pure ⟨g1, p1, .ret d, σ, X1.same, m1, H1, ⟨v, rfl, r1⟩, h⟩
/-- ahead of a statement the own list may be shut -/
theorem Ex.freeze {st : Stmt} {a : Addr} {l : List D} {x : Str} (ho : σ.own = some (a, .list l)) (hx : σ.vs.lookup x = some (.val (.ref a))) (h : Ex w n env ⟨(x, .list l) :: σ.vs, Option.none⟩ st Q) : Ex w n env σ st Q := fun A s g p ga H => by
  obtain ⟨g', p', H', m⟩ := H.freeze ho hx
  exact go (h A s g' p' ga H') fun f s1 o => OutS.of m ⟨_, _, rfl⟩ o
theorem Ex.if_ {test : Expr} {body orelse : List Stmt} {pos : Pos} {b : Bool} (ht : EvT w n env σ.vs test b) (h1 : b = true → Exs w n env σ body Q) (h2 : b = false → Exs w n env σ orelse Q) : Ex w n env σ (.If test body orelse pos) Q := fun A s g p ga H => by
  refine wpAny_If (go (ht A s g ga H.sit) fun c s1 ⟨e, g1, X1⟩ => ?_)
  subst e
  obtain ⟨p1, H1, m1, _⟩ := H.ext X1
  cases c with
  | true => exact go (h1 rfl A s1 g1 p1 ga H1) fun f s2 o => OutS.of m1 X1.same o
  | false => exact go (h2 rfl A s1 g1 p1 ga H1) fun f s2 o => OutS.of m1 X1.same o

/-- an expression that makes a new list -/
def EvO (w : World) (n : Nat) (env : Env) (ρ : Vars) (e : Expr) (ds : List D) : Prop :=
  ∀ A s g, GA n A → Sit env g s.heap ρ → wpAny (model pr w) A (eval e env) (fun v s' => ∃ g' a us m, Ext g s g' s' ∧ v = .ref a ∧ s'.heap.get? a = some (lobj us m) ∧ s.heap.get? a = Option.none ∧ g' a = Option.none ∧ Reps g' us ds) No s
theorem EvO.list {ρ : Vars} {es : List Expr} {pos : Pos} {ds : List D} (h : Evs w n env ρ es ds) (hz : ds.length ≤ 1000 := by exact Nat.le_of_ble_eq_true rfl) : EvO w n env ρ (.List es pos) ds := fun A s g ga S => by
  refine List_ (go (h A s g pos ga S) fun vs s1 ⟨g1, X1, r1⟩ => ?_)
  refine wpAny_newObj_type ?_ (by show vs.toArray.size ≤ sizeLine; rw [List.size_toArray, r1.length, sizeLine_eq]; omega)
  have hn : s1.heap.get? s1.heap.objs.size = Option.none := fresh_size (Nat.le_refl _)
  refine ⟨g1, _, vs, 0, ⟨same_trans X1.same ⟨_, _, rfl⟩, X1.keep.trans fun _ _ e => Heap.get?_push_of_some _ e, X1.sub, X1.inn.trans fun _ _ e => Heap.get?_push_of_some _ e, X1.fresh⟩, rfl, Heap.get?_push_size _ rfl, ?_, ?_, r1⟩
  · cases q : s.heap.get? s1.heap.objs.size with
    | none => rfl
    | some o => rw [X1.keep _ _ q] at hn; cases hn
  · cases q : g1 s1.heap.objs.size with
    | none => rfl
    | some o => rw [X1.inn _ _ q] at hn; cases hn
theorem Ex.assignOwn {x : Str} {px pos : Pos} {value : Expr} {ds : List D} (hv : EvO w n env σ.vs value ds) (hx : Storable env x) (h : ∀ a, Q .next ⟨(x, .val (.ref a)) :: σ.vs, some (a, .list ds)⟩)
    (hs : swapsWith value (some (.Name x px)) pos.line env = pure false := by rfl) : Ex w n env σ (.Assign [.Name x px] value pos) Q := fun A s g p ga H => by
  refine wpAny_Assign_Name (go (hv A s g ga H.sit) fun v s1 ⟨g1, a, us, m, X1, hv, e1, e2, e3, r1⟩ => ?_) hs
  subst hv
  obtain ⟨p1, H1, m1⟩ := H.extOwn (od := .list ds) X1 e2 e3 ⟨us, m, e1, r1⟩
  exact H1.store hx (.val _) fun h' t H2 => ⟨g1, p1, .next, _, same_trans X1.same ⟨_, _, rfl⟩, m1, H2, rfl, h a⟩

theorem EvO.mul {ρ : Vars} {l r : Expr} {pos : Pos} {d : D} {x : Int} (hl : Ev w n env ρ l (.list [d])) (hr : Ev w n env ρ r (.int x)) (h0 : 0 ≤ x) (h1 : x ≤ 1000) : EvO w n env ρ (.BinOp l .Mult r pos) (List.replicate x.toNat d) := fun A s g ga S => by
  refine wpAny_BinOp (go (hl A s g ga S) fun u s1 ⟨g1, X1, r1⟩ => go (hr A s1 g1 ga (S.ext X1)) fun v s2 ⟨g2, X2, r2⟩ => ?_)
  have X := X1.trans X2
  have ra := r1.mono X2.sub
  obtain ⟨a, vs, m, rfl, e, q⟩ := ra.isL
  obtain ⟨t, rfl⟩ := r2.isI
  have hl := X2.inn _ _ e
  cases q with | cons qa qr =>
  cases qr
  rename_i y
  refine wpAny_binaryOp_repeat_ref (T := "list") (U := "int") (by decide) ⟨_, hl, rfl⟩ (fun s' => typeIs_int s' x t) noFill_list_mul F.fills_int_mul F.slot_int_rmul repeat_list F.slot_int_index.lookup
    (call_meets F.slot_int_rmul (typeIs_int s2 x t) F.entry_int_rmul (F.args_int_rmul_2 _ _) (int___rmul___int_list x t a _ m) ⟨hl, rfl, ⟨_, hl, rfl⟩, ?_⟩)
  refine call_meets F.slot_list_mul ⟨_, hl, rfl⟩ F.entry_list_mul (F.args_list_mul_2 _ _)
        (AutoListH.list___mul___list_int_3 a _ m x t (by simp [Builtin.List.listFitsIndex]; omega) (by simp; omega) (by simp [Builtin.List.listTooLong, sizeLine]; omega)) ⟨hl, ?_⟩
  have hr : ∀ k, Reps g2 (List.replicate k y) (List.replicate k d) := by
    intro k
    induction k with
    | zero => exact .nil
    | succ k ih => exact .cons qa ih
  rw [rep_obj]
  have hn : s2.heap.get? s2.heap.objs.size = Option.none := fresh_size (Nat.le_refl _)
  refine ⟨g2, _, _, 0, ⟨same_trans X.same ⟨_, _, rfl⟩, X.keep.trans fun _ _ e => Heap.get?_push_of_some _ e, X.sub, X.inn.trans fun _ _ e => Heap.get?_push_of_some _ e, X.fresh⟩, rfl, Heap.get?_push_size _ rfl, ?_, ?_, hr _⟩
  · cases q : s.heap.get? s2.heap.objs.size with
    | none => rfl
    | some o => rw [X.keep _ _ q] at hn; cases hn
  · cases q : g2 s2.heap.objs.size with
    | none => rfl
    | some o => rw [X.inn _ _ q] at hn; cases hn

/-- xs += ys -/
theorem seq_list_iadd : seqSlot? (.type "list") (dunderI "add") = pure (some (.builtin "list.__iadd__")) := PySem.seqSlot_of F.slot_list_iadd.lookup (by decide +kernel)
theorem fill_list_iadd : fillsInplaceSlot (.type "list") "add" (Operator.Add == .Add) = pure false := by
  unfold fillsInplaceSlot
  show (typeLookup (.type "list") (dunderI "add") >>= fun fi => pure (fi.isSome && !isSeqSlot fi)) = pure false
  rw [F.slot_list_iadd.lookup]
  show (pure (true && !isSeqSlot (some (.builtin "list.__iadd__"))) : Sem Bool) = pure false
  rw [show isSeqSlot (some (.builtin "list.__iadd__")) = true by decide +kernel]; rfl
theorem iadd_lists {A : Around} {E : Value → Shared → Prop} {s : Shared} {a b : Addr} {us vs : List Value} {m m' : Nat} {Q : Value → Shared → Prop} (hl : s.heap.get? a = some (lobj us m)) (hb : s.heap.get? b = some (lobj vs m')) (hz : us.length + vs.length ≤ 1000)
    (h : Q (.ref a) { s with heap := s.heap.update a (Obj.mapSeq fun x => x ++ vs.toArray) }) : wpAny (model pr w) A (inplaceOp .Add (.ref a) (.ref b)) Q E s := by
  have ha : s.TypeIs (.ref a) "list" := ⟨_, hl, rfl⟩
  unfold inplaceOp
  refine wpAny_holding ?_
  refine wpAny_bind (wpAny_typeOf ha (wpAny_bind (wpAny_of_eq fill_list_iadd ?_)))
  show wpAny _ A (if false = true then _ else _) Q E s
  rw [if_neg Bool.false_ne_true]
  refine wpAny_bind (PySem.wpAny_binaryOp1_none (nm := "add") ha ⟨_, hb, rfl⟩ noFill_list_add ?_)
  refine wpAny_bind (wpAny_of_eq seq_list_iadd ?_)
  refine wpAny_bind (wpAny_rule ?_)
  exact call_meets F.slot_list_iadd ha F.entry_list_iadd (F.args_list_iadd_2 _ _) (AutoSeq1.list___iadd___list_list_0 a us.toArray m b vs.toArray m'
    (by simp [Builtin.List.listTooLong, sizeLine]; omega) (by simp [sizeLine_eq]; omega) (by simp [sizeLine_eq]; omega)) ⟨hl, hb, h⟩
theorem Ex.iadd {x : Str} {px pos : Pos} {value : Expr} {a : Addr} {ds es : List D} (ho : σ.own = some (a, .list ds)) (hx : σ.vs.lookup x = some (.val (.ref a))) (hst : Storable env x) (hv : Ev w n env σ.vs value (.list es)) (hz : ds.length + es.length ≤ 1000)
    (h : Q .next ⟨(x, .val (.ref a)) :: σ.vs, some (a, .list (ds ++ es))⟩) : Ex w n env σ (.AugAssign (.Name x px) .Add value pos) Q := fun A s g p ga H => by
  have hld : ∀ Q' : Value → Shared → Prop, Q' (.ref a) s → wpAny (model pr w) A (loadName env x) Q' No s := fun Q' hq => by
    obtain ⟨ml, nn, f⟩ := H.sit.var
    obtain ⟨v, r, q⟩ := f x _ hx
    cases r
    rcases q with ⟨k, e⟩ | ⟨k, c, e, i⟩
    · exact wpAny_loadName_local H.sit.kind k nn e hq
    · rcases k with k | ⟨k, k2⟩
      · exact wpAny_loadName_cell H.sit.kind k e i hq
      · exact wpAny_loadName_free H.sit.kind k e i hq k2
  refine wpAny_AugAssign_Name (hld _ ?_)
  refine go (hv A s g ga H.sit) fun v s1 ⟨g1, X1, r1⟩ => ?_
  obtain ⟨b, vs, m', rfl, e, q⟩ := r1.isL
  obtain ⟨p1, H1, m1, _⟩ := H.ext X1
  obtain ⟨⟨us, m, e1, q1⟩, e2, e3, e4⟩ := H1.own a _ ho
  have h1 := q1.length
  have h2 := q.length
  refine iadd_lists e1 (X1.inn _ _ e) (by omega) ?_
  have e5 : (s1.heap.update a (Obj.mapSeq fun x => x ++ vs.toArray)).get? a = some (lobj (us ++ vs) (if (us.toArray ++ vs.toArray).size == us.toArray.size then m else m + 1)) := by
    have := IsL.update (f := fun x => x ++ vs.toArray) e1
    simpa using this
  have H2 := H1.turn (h' := s1.heap.update a (Obj.mapSeq fun x => x ++ vs.toArray)) (od' := .list (ds ++ es)) ho (Heap.SameBut.update _ _ _).extBut ⟨_, _, e5, q1.append q⟩
  exact H2.store (s := { s1 with heap := s1.heap.update a (Obj.mapSeq fun x => x ++ vs.toArray) }) hst (.val _) fun h' t H3 => ⟨g1, p1, .next, _, same_trans X1.same ⟨_, _, rfl⟩, m1, H3, rfl, h⟩
end
end Mine
end

-- M8
section
namespace Mine
open PySem PySem.W PyProof.Rows

theorem Reps.set {g : Lk} {v : Value} {d : D} (r : Rep g v d) : ∀ {vs ds} (k : Nat), Reps g vs ds → Reps g (vs.set k v) (ds.set k d)
  | _, _, _, .nil => by simp; exact .nil
  | _, _, 0, .cons _ q => .cons r q
  | _, _, k + 1, .cons a q => .cons a (Reps.set r k q)

def insF (k : Int) (y : Value) : Array Value → Array Value := fun xs => have k := if k < 0 then (k + (xs.size : Int)).toNat else min k.toNat xs.size; (xs.extract 0 k).push y ++ xs.extract k
theorem insF_eq {k : Int} {y : Value} {us : List Value} (h0 : 0 ≤ k) (hk : k ≤ us.length) : insF k y us.toArray = (us.take k.toNat ++ y :: us.drop k.toNat).toArray := by
  have hk1 : ¬ k < 0 := by omega
  have hk2 : min k.toNat us.length = k.toNat := by omega
  apply Array.toList_inj.mp
  unfold insF
  simp only [List.size_toArray, hk1, if_false, hk2, Array.toList_append, Array.toList_push, List.extract_toArray, List.extract_eq_take_drop, Nat.sub_zero, List.drop_zero, List.append_assoc, List.singleton_append]
  congr 2
  exact List.take_of_length_le (by simp)
section
variable {w : World} {n : Nat} {env : Env} {σ : AS} {Q : AF → AS → Prop}

theorem Hold.load {A : Around} {E : Value → Shared → Prop} {g p : Lk} {s : Shared} {x : Str} {d : D} {Q' : Value → Shared → Prop} (H : Hold env σ g p s.heap) (hx : σ.vs.lookup x = some d) (hq : ∀ v, Rep g v d → Q' v s) : wpAny (model pr w) A (loadName env x) Q' E s := by
  obtain ⟨ml, nn, f⟩ := H.sit.var
  obtain ⟨v, r, q⟩ := f x _ hx
  rcases q with ⟨k, e⟩ | ⟨k, c, e, i⟩
  · exact wpAny_loadName_local H.sit.kind k nn e (hq v r)
  · rcases k with k | ⟨k, k2⟩
    · exact wpAny_loadName_cell H.sit.kind k e i (hq v r)
    · exact wpAny_loadName_free H.sit.kind k e i (hq v r) k2
/-- x //= e -/
theorem Ex.ifdiv {x : Str} {px pos : Pos} {value : Expr} {a b : Int} (hx : σ.vs.lookup x = some (.int a)) (hst : Storable env x) (hv : Ev w n env σ.vs value (.int b)) (h0 : b ≠ 0) (hs : b.natAbs < 1073741824)
    (h : Q .next ⟨(x, .int (a.fdiv b)) :: σ.vs, σ.own⟩) : Ex w n env σ (.AugAssign (.Name x px) .FloorDiv value pos) Q := fun A s g p ga H => by
  refine wpAny_AugAssign_Name (H.load hx fun v r => ?_)
  obtain ⟨t, rfl⟩ := r.isI
  refine go (hv A s g ga H.sit) fun v s1 ⟨g1, X1, r1⟩ => ?_
  obtain ⟨t', rfl⟩ := r1.isI
  obtain ⟨p1, H1, m1, _⟩ := H.ext X1
  refine ifloordiv_int h0 ?_ (Or.inl (PyProof.noPylong_small hs))
  exact Hold.store (s := { s1 with toks := s1.toks + 1 }) H1 hst (.int _ _) fun h' t H2 => ⟨g1, p1, .next, _, same_trans X1.same ⟨_, _, rfl⟩, m1, H2, rfl, h⟩
/-- xs[i] += e, the own list -/
theorem Ex.iaddItem {x : Str} {px tpos pos : Pos} {i value : Expr} {a : Addr} {ds : List D} {k y z : Int} (ho : σ.own = some (a, .list ds)) (hx : σ.vs.lookup x = some (.val (.ref a))) (hi : Ev w n env σ.vs i (.int k)) (h0 : 0 ≤ k)
    (hy : ds[k.toNat]? = some (.int y)) (hv : Ev w n env σ.vs value (.int z)) (hz : ds.length ≤ 1000) (h : Q .next ⟨σ.vs, some (a, .list (ds.set k.toNat (.int (y + z))))⟩)
    (hq : ∀ ov iv new, augStore i ov iv new = (do holding [new, ov, iv] (setItem ov iv new); release [new, ov, iv] []; pure .next) := by intros; rfl) (hd : (x == ("__debug__" : Str)) = false := by decide) :
    Ex w n env σ (.AugAssign (.Subscript (.Name x px) i tpos) .Add value pos) Q := fun A s g p ga H => by
  refine wpAny_AugAssign_SubscriptAny (go ((Ev.name hx hd) A s g ga H.sit) fun o s1 ⟨g1, X1, r1⟩ => ?_) hq
  cases r1
  obtain ⟨p1, H1, m1, _⟩ := H.ext X1
  refine go (hi A s1 g1 ga H1.sit) fun iv s2 ⟨g2, X2, r2⟩ => ?_
  obtain ⟨t, rfl⟩ := r2.isI
  obtain ⟨p2, H2, m2, _⟩ := H1.ext X2
  obtain ⟨⟨us, m, e1, q1⟩, _⟩ := H2.own a _ ho
  obtain ⟨v, hv1, rv⟩ := q1.get _ hy
  obtain ⟨t', rfl⟩ := rv.isI
  have hlt : k.toNat < ds.length := (List.getElem?_eq_some_iff.mp hy).1
  refine wpAny_getItem_list (isList_of e1) h0 (by omega) (by simpa using hv1) ?_
  refine go (hv A s2 g2 ga H2.sit) fun v s3 ⟨g3, X3, r3⟩ => ?_
  obtain ⟨t3, rfl⟩ := r3.isI
  obtain ⟨p3, H3, m3, _⟩ := H2.ext X3
  refine iadd_int ?_
  obtain ⟨⟨us, m, e1, q1⟩, _⟩ := H3.own a _ ho
  have hl := q1.length
  refine ki_setAt (s := { s3 with toks := s3.toks + 1 }) e1 h0 (by omega) (by simp; omega) ?_
  have e5 : (s3.heap.update a (Obj.mapSeq (·.setIfInBounds k.toNat (.int (y + z) s3.toks)))).get? a = some (lobj (us.set k.toNat (.int (y + z) s3.toks)) m) := by
    have := IsL.update (f := fun xs => xs.setIfInBounds k.toNat (.int (y + z) s3.toks)) e1
    simpa using this
  have H4 := H3.turn (h' := s3.heap.update a (Obj.mapSeq (·.setIfInBounds k.toNat (.int (y + z) s3.toks)))) (od' := .list (ds.set k.toNat (.int (y + z)))) ho (Heap.SameBut.update _ _ _).extBut ⟨_, _, e5, Reps.set (.int _ _) _ q1⟩
  exact ⟨g3, p3, .next, _, same_trans X1.same (same_trans X2.same (same_trans X3.same ⟨_, _, rfl⟩)), m1.trans (m2.trans m3), H4, rfl, h⟩

theorem attr_base {o : Str} {po : Pos} {attr : Str} {m : Sem Value} : attributeBase (.Name o po) attr env m = m := rfl
theorem not_interactive {env : Env} (h : env.scope.kind = .function) : interactive env = false := by
  unfold interactive; rw [h]; rfl
/-- xs.append(e), the own list -/
theorem Ex.append {x : Str} {px apos cpos pos : Pos} {e : Expr} {a : Addr} {ds : List D} {d : D} (ho : σ.own = some (a, .list ds)) (hx : σ.vs.lookup x = some (.val (.ref a))) (he : Ev w n env σ.vs e d) (hz : ds.length ≤ 1000)
    (h : Q .next ⟨σ.vs, some (a, .list (ds ++ [d]))⟩) (hq : starEach [e] env = [(false, eval e env)] := by rfl) (hline : (apos.endLine == cpos.line) = true := by rfl) (hd : (x == ("__debug__" : Str)) = false := by decide) :
    Ex w n env σ (.Expr (.Call (.Attribute (.Name x px) "append" apos) [e] [] cpos) pos) Q := fun A s g p ga H => by
  refine wpAny_Expr ?_ (not_interactive H.sit.kind)
  refine wpAny_Call_method attr_base (by rw [hq]; rfl) hline F.plainAttrs_list F.slot_list_append F.type_list_append (go ((Ev.name hx hd) A s g ga H.sit) fun o s1 ⟨g1, X1, r1⟩ => ?_)
  cases r1
  obtain ⟨p1, H1, m1, _⟩ := H.ext X1
  obtain ⟨⟨us, m, e1, q1⟩, _⟩ := H1.own a _ ho
  refine ⟨⟨_, e1, rfl⟩, fun b hb => by cases hb; exact ⟨_, e1, rfl⟩, ?_⟩
  rw [hq]
  refine P.append_list (go (he A s1 g1 ga H1.sit) fun v s2 ⟨g2, X2, r2⟩ => ?_)
  obtain ⟨p2, H2, m2, _⟩ := H1.ext X2
  obtain ⟨⟨us, m, e1, q1⟩, _⟩ := H2.own a _ ho
  have hl := q1.length
  refine ⟨us.toArray, m, by simp [sizeLine_eq]; omega, e1, ?_⟩
  have e5 : (s2.heap.update a (Obj.mapSeq (·.push v))).get? a = some (lobj (us ++ [v]) (m + 1)) := by
    have := IsL.update (f := fun xs => xs.push v) e1
    simpa using this
  have H4 := H2.turn (h' := s2.heap.update a (Obj.mapSeq (·.push v))) (od' := .list (ds ++ [d])) ho (Heap.SameBut.update _ _ _).extBut ⟨_, _, e5, q1.append (.cons r2 .nil)⟩
  exact ⟨g2, p2, .next, _, same_trans X1.same (same_trans X2.same ⟨_, _, rfl⟩), m1.trans m2, H4, rfl, h⟩
/-- xs.insert(i, e), the own list -/
def insAt (l : List D) (k : Nat) (d : D) : List D := l.take k ++ d :: l.drop k
theorem Ex.insert {x : Str} {px apos cpos pos : Pos} {i e : Expr} {a : Addr} {ds : List D} {d : D} {k : Int} (ho : σ.own = some (a, .list ds)) (hx : σ.vs.lookup x = some (.val (.ref a))) (hi : Ev w n env σ.vs i (.int k)) (h0 : 0 ≤ k) (hk : k ≤ ds.length) (he : Ev w n env σ.vs e d) (hz : ds.length ≤ 1000)
    (h : Q .next ⟨σ.vs, some (a, .list (insAt ds k.toNat d))⟩) (hq : starEach [i, e] env = [(false, eval i env), (false, eval e env)] := by rfl) (hline : (apos.endLine == cpos.line) = true := by rfl) (hd : (x == ("__debug__" : Str)) = false := by decide) :
    Ex w n env σ (.Expr (.Call (.Attribute (.Name x px) "insert" apos) [i, e] [] cpos) pos) Q := fun A s g p ga H => by
  refine wpAny_Expr ?_ (not_interactive H.sit.kind)
  refine wpAny_Call_method attr_base (by rw [hq]; rfl) hline F.plainAttrs_list F.slot_list_insert F.type_list_insert (go ((Ev.name hx hd) A s g ga H.sit) fun o s1 ⟨g1, X1, r1⟩ => ?_)
  cases r1
  obtain ⟨p1, H1, m1, _⟩ := H.ext X1
  obtain ⟨⟨us, m, e1, q1⟩, _⟩ := H1.own a _ ho
  refine ⟨⟨_, e1, rfl⟩, fun b hb => by cases hb; exact ⟨_, e1, rfl⟩, ?_⟩
  rw [hq]
  refine Calls.callWith_builtin rfl (Calls.evalArgs_plain (Calls.spliced_cons (go (hi A s1 g1 ga H1.sit) fun v s2 ⟨g2, X2, r2⟩ => ?_)))
  obtain ⟨p2, H2, m2, _⟩ := H1.ext X2
  refine Calls.spliced_cons (go (he A s2 g2 ga H2.sit) fun y s3 ⟨g3, X3, r3⟩ => Calls.spliced_nil ?_)
  obtain ⟨p3, H3, m3, _⟩ := H2.ext X3
  obtain ⟨t, rfl⟩ := r2.isI
  obtain ⟨⟨us, m, e1, q1⟩, _⟩ := H3.own a _ ho
  have hl := q1.length
  show wpAny _ A (call (.builtin "list.insert") [.ref a, .int k t, y] []) _ _ s3
  refine call_meets F.slot_list_insert ⟨_, e1, rfl⟩ F.entry_list_insert (F.args_list_insert_3 _ _ _) (AutoSeq1.list_insert_list_int_val_1 a _ m k t y (by simp [Builtin.List.listFitsIndex]; omega) (by simp [sizeLine_eq]; omega)) ⟨e1, ?_⟩
  have e5 : IsL (s3.heap.update a (Obj.mapSeq (insF k y))) a (insF k y us.toArray) _ := IsL.update (f := insF k y) e1
  rw [insF_eq h0 (by omega)] at e5
  have H4 := H3.turn (h' := _) (od' := .list (insAt ds k.toNat d)) ho (Heap.SameBut.update _ _ _).extBut ⟨_, _, e5, (q1.take _).append (.cons r3 (q1.drop _))⟩
  exact ⟨g3, p3, .next, _, same_trans X1.same (same_trans X2.same (same_trans X3.same ⟨_, _, rfl⟩)), m1.trans (m2.trans m3), H4, rfl, h⟩
end
end Mine
end

-- M9
section
namespace Mine
open PySem PySem.W PyProof.Rows

/-- the heap grown by things that nobody names -/
theorem Hold.grow {env : Env} {σ : AS} {g p : Lk} {h h' : Heap} (H : Hold env σ g p h) (k : Sub h.get? h'.get?) : Hold env σ g p h' := by
  obtain ⟨ml, nL, f⟩ := H.sit.var
  refine ⟨⟨H.sit.top, H.sit.keep.trans k, H.sit.kind, H.sit.glob, H.sit.blt, ml, nL.keeps k, fun y d e => ?_⟩, H.gp, H.ph.trans k, H.pL, fun n c hm => ?_, H.apart, fun a od e => ?_⟩
  · obtain ⟨u, ru, hu⟩ := f y d e
    exact ⟨u, ru, hu.keeps k⟩
  · obtain ⟨q1, q2, ⟨u, q3⟩, q4⟩ := H.pC n c hm
    exact ⟨q1, q2, ⟨u, q3.keeps k⟩, q4⟩
  · obtain ⟨q1, q2⟩ := H.own a od e
    exact ⟨q1.keep (Sub.refl _) fun o e => k _ _ e, q2⟩

/-- a target takes a datum -/
def Asg (w : World) (n : Nat) (env : Env) (t : Expr) (d : D) (B : Vars) : Prop :=
  ∀ A s g p σ v, GA n A → Hold env σ g p s.heap → Rep g v d → wpAny (model pr w) A (assign t env v) (fun _ s' => (∃ h t, s' = { s with heap := h, toks := t }) ∧ Hold env ⟨B ++ σ.vs, σ.own⟩ g p s'.heap) No s
def Asgs (w : World) (n : Nat) (env : Env) (ts : List (Value → Sem Unit)) (ds : List D) (B : Vars) : Prop :=
  ∀ A s g p σ vs, GA n A → Hold env σ g p s.heap → Reps g vs ds → wpAny (model pr w) A (assignInOrder ts vs) (fun _ s' => (∃ h t, s' = { s with heap := h, toks := t }) ∧ Hold env ⟨B ++ σ.vs, σ.own⟩ g p s'.heap) No s

section
variable {w : World} {n : Nat} {env : Env} {σ : AS} {Q : AF → AS → Prop}
theorem Asg.name {x : Str} {px : Pos} {d : D} (hx : Storable env x) : Asg w n env (.Name x px) d [(x, d)] := fun A s g p σ v ga H r =>
  wpAny_assign_Name (H.store hx r fun h' t H' => ⟨⟨_, _, rfl⟩, H'⟩)
theorem Asgs.nil : Asgs w n env [] [] [] := fun A s g p σ vs ga H r => by
  cases r
  exact wpAny_pure ⟨⟨_, _, rfl⟩, H⟩
theorem Asgs.cons {t : Expr} {ts : List (Value → Sem Unit)} {d : D} {ds : List D} {B C : Vars} (h : Asg w n env t d B) (hs : Asgs w n env ts ds C) : Asgs w n env (assign t env :: ts) (d :: ds) (C ++ B) := fun A s g p σ vs ga H r => by
  cases r with | cons a q =>
  show wpAny _ A (do holding _ (assign t env _); assignInOrder ts _) _ _ s
  refine wpAny_bind (wpAny_holding (go (h A s g p σ _ ga H a) fun _ s1 ⟨sm, H1⟩ => ?_))
  refine go (hs A s1 g p _ _ ga H1 q) fun _ s2 ⟨sm2, H2⟩ => ⟨same_trans sm sm2, ?_⟩
  rw [List.append_assoc]
  exact H2
theorem Asg.tup {es : List Expr} {k : Nat} {pos : Pos} {ds : List D} {B : Vars} (h : Asgs w n env ((assignEach es env).map (·.2)) ds B) (hl : (assignEach es env).length = ds.length := by rfl) (hf : (assignEach es env).findIdx? (·.1) = Option.none := by rfl) :
    Asg w n env (.Tuple es k pos) (.tup ds) B := fun A s g p σ v ga H r => by
  obtain ⟨a, ot, vs, m, rfl, e, c1, c2, q⟩ := r.isT
  have he := H.sit.keep _ _ e
  refine wpAny_assign_Tuple (items := vs.toArray) ga.hh ⟨_, he, c1, m, c2⟩ (by rw [hl, List.size_toArray, q.length]) hf fun h' hx => ?_
  have kp : Sub s.heap.get? h'.get? := fun b o e => hx b o (Nat.ne_of_lt (Heap.lt_size e)) e
  exact go (h A _ g p σ _ ga (H.grow kp) q) fun _ s1 ⟨sm, H1⟩ => ⟨same_trans ⟨_, _, rfl⟩ sm, H1⟩
theorem Asg.lst {es : List Expr} {k : Nat} {pos : Pos} {ds : List D} {B : Vars} (h : Asgs w n env ((assignEach es env).map (·.2)) ds B) (hl : (assignEach es env).length = ds.length := by rfl) (hf : (assignEach es env).findIdx? (·.1) = Option.none := by rfl) :
    Asg w n env (.Tuple es k pos) (.list ds) B := fun A s g p σ v ga H r => by
  obtain ⟨a, vs, m, rfl, e, q⟩ := r.isL
  have he := H.sit.keep _ _ e
  rw [arm_assign_Tuple]
  refine wpAny_bind (wpAny_standAt ?_)
  unfold unpack
  rw [hl, hf, show ds.length = vs.toArray.size by rw [List.size_toArray, q.length]]
  refine wpAny_bind (wpAny_holding (kun_itemsOf ga.hh (isList_of he) fun h' hx => ?_))
  have kp : Sub s.heap.get? h'.get? := fun b o e => hx b o (Nat.ne_of_lt (Heap.lt_size e)) e
  exact go (h A _ g p σ _ ga (H.grow kp) q) fun _ s1 ⟨sm, H1⟩ => ⟨same_trans ⟨_, _, rfl⟩ sm, H1⟩
theorem Ex.assignT {es : List Expr} {k : Nat} {tpos pos : Pos} {value : Expr} {d : D} {B : Vars} (hv : Ev w n env σ.vs value d) (ha : Asg w n env (.Tuple es k tpos) d B) (h : Q .next ⟨B ++ σ.vs, σ.own⟩)
    (hs : swapsWithSole [.Tuple es k tpos] value pos.line env = pure false := by rfl) (hw : swappedStores [.Tuple es k tpos] value env = pure Option.none := by rfl) : Ex w n env σ (.Assign [.Tuple es k tpos] value pos) Q := fun A s g p ga H => by
  refine Assign_Tuple (go (hv A s g ga H.sit) fun v s1 ⟨g1, X1, r1⟩ => ?_) hs hw
  obtain ⟨p1, H1, m1, _⟩ := H.ext X1
  exact go (ha A s1 g1 p1 σ v ga H1 r1) fun _ s2 ⟨sm, H2⟩ => ⟨g1, p1, .next, _, same_trans X1.same sm, m1, H2, rfl, h⟩
end

/-- one step of an iterator -/
structure ItStep (wr : List Addr) (g1 : Lk) (s : Shared) (g2 : Lk) (s2 : Shared) (v : Value) (d : D) : Prop where
  same : ∃ h t, s2 = { s with heap := h, toks := t }
  keep : ∀ b o, b ∉ wr → s.heap.get? b = some o → s2.heap.get? b = some o
  sub : Sub g1 g2
  inn : Sub g2 s2.heap.get?
  fresh : ∀ b o, g2 b = some o → g1 b = some o ∨ s.heap.get? b = Option.none
  rep : Rep g2 v d
structure It (w : World) (I : Addr) (wr : List Addr) (items : List D) (g : Lk) (St : Nat → Heap → Prop) (target : Expr) : Prop where
  frame : ∀ i h h', St i h → (∀ b ∈ wr, ∀ o, h.get? b = some o → h'.get? b = some o) → Sub g h'.get? → St i h'
  here : ∀ i h, St i h → ∀ b ∈ wr, ∃ o, h.get? b = some o
  item : ∀ n A i s d g1 (E : Value → Shared → Prop), GA n A → St i s.heap → Sub g g1 → Sub g1 s.heap.get? → (∀ b ∈ wr, g1 b = Option.none) → items[i]? = some d →
    wpAny (model pr w) A (pyNext (.ref I)) (fun r s1 => ∃ v, r = some v ∧ wpAny (model pr w) A (letOwnedTupleGo target (.ref I) v) (fun _ s2 => St (i + 1) s2.heap ∧ ∃ g2, ItStep wr g1 s g2 s2 v d) E s1) E s
  done : ∀ n A s (E : Value → Shared → Prop), GA n A → St items.length s.heap → wpAny (model pr w) A (pyNext (.ref I)) (fun r s1 => r = Option.none ∧ (∃ h t, s1 = { s with heap := h, toks := t }) ∧ ∀ b o, b ∉ wr → s.heap.get? b = some o → s1.heap.get? b = some o) E s
  self : ∀ i A s (Q : Value → Shared → Prop) (E : Value → Shared → Prop), St i s.heap → Q (.ref I) s → wpAny (model pr w) A (pyIter (.ref I)) Q E s
def IterOut (w : World) (g : Lk) (s : Shared) (items : List D) (target : Expr) (it : Value) (s1 : Shared) : Prop :=
  ∃ I wr St, it = .ref I ∧ (∃ h t, s1 = { s with heap := h, toks := t }) ∧ Sub s.heap.get? s1.heap.get? ∧ (∀ b ∈ wr, s.heap.get? b = Option.none) ∧ It w I wr items g St target ∧ St 0 s1.heap
def IterD (w : World) (d : D) (items : List D) : Prop := ∀ target n A s g v, GA n A → Sub g s.heap.get? → Rep g v d → wpAny (model pr w) A (pyIter v) (IterOut w g s items target) No s

section
variable {w : World}
theorem letGo_listiter {A : Around} {E : Value → Shared → Prop} {target : Expr} {I l : Addr} {i : Nat} {v : Value} {Q' : Unit → Shared → Prop} {s' : Shared} (hit : s'.heap.IsListIter I l i) (h : Q' () s') :
    wpAny (model pr w) A (letOwnedTupleGo target (.ref I) v) Q' E s' := by
  obtain ⟨o, ho, hc, hd⟩ := hit
  unfold letOwnedTupleGo
  cases target <;> first
    | exact wpAny_pure h
    | (cases v <;> first
        | exact wpAny_pure h
        | (refine wpAny_bind (wpAny_load ho ?_)
           rw [hc, hd]
           exact wpAny_pure h))
theorem letGo_rangeiter {A : Around} {E : Value → Shared → Prop} {target : Expr} {I : Addr} {x l st : Int} {v : Value} {Q' : Unit → Shared → Prop} {s' : Shared} (hit : IsRangeIter s'.heap I x l st) (h : Q' () s') :
    wpAny (model pr w) A (letOwnedTupleGo target (.ref I) v) Q' E s' := by
  unfold letOwnedTupleGo
  cases target <;> first
    | exact wpAny_pure h
    | (cases v <;> first
        | exact wpAny_pure h
        | (refine wpAny_bind (wpAny_load hit ?_)
           exact wpAny_pure h))
theorem IterD.list {ds : List D} : IterD w (.list ds) ds := fun target n A s g v ga k r => by
  obtain ⟨a, vs, m, rfl, e, q⟩ := r.isL
  have hl := isList_of (k _ _ e)
  have hlt : a ≠ s.heap.objs.size := Nat.ne_of_lt (Heap.lt_size (k _ _ e))
  refine wpAny_pyIter_list hl ⟨_, [s.heap.objs.size], fun i h => h.IsListIter s.heap.objs.size a i ∧ h.IsList a vs.toArray, rfl, ⟨_, _, rfl⟩, fun _ _ e => Heap.get?_push_of_some _ e, ?_, ⟨?_, ?_, ?_, ?_, ?_⟩, ⟨_, Heap.get?_push_size _ rfl, rfl, rfl⟩, hl.push _⟩
  · intro b hb; rw [List.mem_singleton.mp hb]; exact fresh_size (Nat.le_refl _)
  · intro i h h' hs hk hg
    exact ⟨hs.1.at fun o e => hk _ (by simp) o e, isList_of (hg _ _ e)⟩
  · intro i h hs b hb; rw [List.mem_singleton.mp hb]; obtain ⟨o, ho, _⟩ := hs.1; exact ⟨o, ho⟩
  · intro n A i s1 d g1 E ga hs hg hk off hd
    obtain ⟨v, hv, rv⟩ := (q.mono hg).get i hd
    refine wpAny_pyNext_list_item hs.1 hs.2 (x := v) (by simpa using hv) fun h' hit' hs' => ⟨v, rfl, letGo_listiter hit' ?_⟩
    have kp : ∀ b o, b ∉ [s.heap.objs.size] → s1.heap.get? b = some o → h'.get? b = some o := fun b o hb e => hs'.extBut b o (fun h => hb (by simp [h])) e
    refine ⟨⟨hit', isList_of (kp _ _ (by simpa using hlt) (hk _ _ (hg _ _ e)))⟩, g1, ⟨_, _, rfl⟩, kp, Sub.refl _, fun b o e => kp b o (fun hb => by rw [off b hb] at e; cases e) (hk _ _ e), fun _ _ e => .inl e, rv⟩
  · intro n A s1 E ga hs
    refine wpAny_pyNext_list_end ga.hh hs.1 hs.2 (by simp [q.length]) fun h' he' => ⟨rfl, ⟨_, _, rfl⟩, fun b o hb e => he' b o (fun h => hb (by simp [h])) e⟩
  · intro i A s1 Q E hs hq
    exact wpAny_pyIter_listiter hs.1 hq
theorem IterD.rng {a b c : Int} {m : Nat} (hs : Builtin.Range.small a b c = true) (hm : Builtin.Range.rangeSize a b c = m) : IterD w (.rng a b c) ((List.range m).map fun (i : Nat) => D.int (a + i * c)) := fun target n A s g v ga k r => by
  cases r with | rng e =>
  have he := k _ _ e
  refine wpAny_pyIter_range he hs ?_
  have W := fun (A : Around) (hh : A.handled = Option.none) => Walks.range (prog := pr) (w := w) (A := A) hh s.heap.objs.size a c m
  refine ⟨_, [s.heap.objs.size], fun i h => IsRangeIter h s.heap.objs.size (a + (i : Nat) * c) ((m : Int) - (i : Nat)) c, rfl, ⟨_, _, rfl⟩, fun _ _ e => Heap.get?_push_of_some _ e, ?_, ⟨?_, ?_, ?_, ?_, ?_⟩, ?_⟩
  · intro b hb; rw [List.mem_singleton.mp hb]; exact fresh_size (Nat.le_refl _)
  · intro i h h' hs hk hg; exact hk _ (by simp) _ hs
  · intro i h hs b hb; rw [List.mem_singleton.mp hb]; exact ⟨_, hs⟩
  · intro n A i s1 d g1 E ga hs hg hk off hd
    have hi : i < m := by
      have := (List.getElem?_eq_some_iff.mp hd).1
      simpa using this
    refine (W A ga.hh).item i s1 _ E hi hs fun v h' tk hv hs' kp => ⟨v, rfl, letGo_rangeiter hs' ?_⟩
    refine ⟨hs', g1, ⟨_, _, rfl⟩, kp, Sub.refl _, fun b o e => kp b o (fun hb => by rw [off b hb] at e; cases e) (hk _ _ e), fun _ _ e => .inl e, ?_⟩
    obtain ⟨t, rfl⟩ := hv
    have : d = D.int (a + i * c) := by
      rw [List.getElem?_map, List.getElem?_range hi] at hd
      simpa using hd.symm
    rw [this]
    exact .int _ _
  · intro n A s1 E ga hs
    have hl : ((List.range m).map fun (i : Nat) => D.int (a + i * c)).length = m := by simp
    rw [hl] at hs
    exact (W A ga.hh).done s1 _ E hs fun h' tk kp => ⟨rfl, ⟨_, _, rfl⟩, kp⟩
  · intro i A s1 Q E hs hq
    exact wpAny_pyIter_rangeiter hs hq
  · show IsRangeIter _ _ _ _ _
    rw [hm]
    have := Heap.get?_push_size s.heap (o := { cls := .type "range_iterator", data := .fields #[rawInt a, rawInt (m : Int), rawInt c] }) rfl
    simpa using this
end
end Mine
end

-- M10
section
namespace Mine
open PySem PySem.W PyProof.Rows

theorem Sub.none {g g' : Lk} (k : Sub g g') {b : Addr} (e : g' b = Option.none) : g b = Option.none := by
  cases q : g b with
  | none => rfl
  | some o => rw [k _ _ q] at e; cases e
theorem Hold.step {env : Env} {σ : AS} {g1 p1 g2 : Lk} {h h2 : Heap} {wr : List Addr} (H : Hold env σ g1 p1 h) (hw : ∀ b ∈ wr, (∃ o, p1 b = some o) ∧ g1 b = Option.none) (hcw : ∀ n c, (n, c) ∈ env.cells → c ∉ wr)
    (kb : ∀ b o, b ∉ wr → h.get? b = some o → h2.get? b = some o) (hw2 : ∀ b ∈ wr, ∃ o, h2.get? b = some o) (sub : Sub g1 g2) (inn : Sub g2 h2.get?) (fresh : ∀ b o, g2 b = some o → g1 b = some o ∨ h.get? b = Option.none) :
    ∃ p2, Hold env σ g2 p2 h2 ∧ (∀ b ∈ wr, (∃ o, p2 b = some o) ∧ g2 b = Option.none) ∧ (∀ b o, b ∉ wr → p1 b = some o → p2 b = some o) := by
  obtain ⟨ml, nL, f⟩ := H.sit.var
  obtain ⟨oL, eL⟩ := Ns_some nL
  have nw : ∀ b, p1 b = Option.none → b ∉ wr := fun b e hb => by
    obtain ⟨⟨o, q⟩, _⟩ := hw b hb
    rw [q] at e; cases e
  have key : ∀ b o, p1 b = Option.none → h.get? b = some o → g2 b = Option.none := fun b o e1 e2 => by
    cases q : g2 b with
    | none => rfl
    | some o' =>
      rcases fresh b o' q with r | r
      · rw [H.gp _ _ r] at e1; cases e1
      · rw [e2] at r; cases r
  have off : ∀ b ∈ wr, g2 b = Option.none := fun b hb => by
    obtain ⟨⟨o, q⟩, q1⟩ := hw b hb
    cases r : g2 b with
    | none => rfl
    | some o' =>
      rcases fresh b o' r with z | z
      · rw [q1] at z; cases z
      · rw [H.ph _ _ q] at z; cases z
  let p2 : Lk := fun b => if b ∈ wr then h2.get? b else match p1 b with | some o => some o | Option.none => g2 b
  have p2n : ∀ b, b ∉ wr → p2 b = match p1 b with | some o => some o | Option.none => g2 b := fun b hb => if_neg hb
  have p2w : ∀ b, b ∈ wr → p2 b = h2.get? b := fun b hb => if_pos hb
  have p2z : ∀ b o, p1 b = Option.none → h.get? b = some o → p2 b = Option.none := fun b o e1 e2 => by rw [p2n b (nw b e1), e1]; exact key b o e1 e2
  refine ⟨p2, ⟨⟨H.sit.top.mono sub, inn, H.sit.kind, H.sit.glob, H.sit.blt, ml, nL.at' (fun o e => kb _ _ (nw _ H.pL) e), fun y d e => ?_⟩, ?_, ?_, p2z _ _ H.pL eL, fun n c hm => ?_, H.apart, fun a od e => ?_⟩, fun b hb => ⟨?_, off b hb⟩, fun b o hb e => ?_⟩
  · obtain ⟨u, ru, hu⟩ := f y d e
    refine ⟨u, ru.mono sub, ?_⟩
    rcases hu with k | ⟨k1, c, k2, o, k3, k4⟩
    · exact .inl k
    · exact .inr ⟨k1, c, k2, o, kb _ _ (hcw _ _ (mem_of_lookup k2)) k3, k4⟩
  · intro b o e
    have hb : b ∉ wr := fun hb => by rw [off b hb] at e; cases e
    rw [p2n b hb]
    cases q : p1 b with
    | none => exact e
    | some o' =>
      have h1 := kb _ _ hb (H.ph _ _ q)
      rw [inn _ _ e] at h1; cases h1; rfl
  · intro b o e
    by_cases hb : b ∈ wr
    · rw [p2w b hb] at e; exact e
    · rw [p2n b hb] at e
      cases q : p1 b with
      | none => rw [q] at e; exact inn _ _ e
      | some o' => rw [q] at e; cases e; exact kb _ _ hb (H.ph _ _ q)
  · obtain ⟨q1, q2, ⟨u, o, q3, q4⟩, q5⟩ := H.pC n c hm
    refine ⟨fun z => p2z _ _ (q1 z) q3, q2, ⟨u, o, kb _ _ (hcw _ _ hm) q3, q4⟩, fun z => ?_⟩
    obtain ⟨o', v', r1, r2⟩ := q5 z
    exact ⟨o', v', by rw [p2n c (hcw _ _ hm), r1], r2⟩
  · obtain ⟨q1, q2, q3, q4⟩ := H.own a od e
    obtain ⟨o, ho⟩ := q1.here
    exact ⟨q1.keep sub fun o e => kb _ _ (nw _ q2) e, p2z _ _ q2 ho, q3, q4⟩
  · rw [p2w b hb]; exact hw2 b hb
  · rw [p2n b hb, e]

/-- an expression that is walked -/
def EvIt (w : World) (n : Nat) (env : Env) (ρ : Vars) (e : Expr) (items : List D) (target : Expr) : Prop :=
  ∀ A s g, GA n A → Sit env g s.heap ρ → wpAny (model pr w) A (eval e env) (fun x s1 => wpAny (model pr w) A (pyIter x) (fun it s2 => ∃ g', Ext g s g' s2 ∧ ∃ I wr St, it = .ref I ∧ (∀ b ∈ wr, s.heap.get? b = Option.none ∧ g' b = Option.none) ∧ It w I wr items g' St target ∧ St 0 s2.heap) No s1) No s

section
variable {w : World} {n : Nat} {env : Env} {σ : AS} {Q : AF → AS → Prop}
theorem EvIt.of {ρ : Vars} {e : Expr} {d : D} {items : List D} {target : Expr} (h : Ev w n env ρ e d) (hi : IterD w d items) : EvIt w n env ρ e items target := fun A s g ga S =>
  go (h A s g ga S) fun x s1 ⟨g1, X1, r1⟩ => go (hi target n A s1 g1 x ga X1.inn r1) fun it s2 ⟨I, wr, St, e1, sm, kp, fr, i1, i2⟩ =>
    ⟨g1, ⟨same_trans X1.same sm, X1.keep.trans kp, X1.sub, X1.inn.trans kp, X1.fresh⟩, I, wr, St, e1, fun b hb => ⟨X1.keep.none (fr b hb), X1.inn.none (fr b hb)⟩, i1, i2⟩

theorem Ex.for_ {target iter : Expr} {body : List Stmt} {pos : Pos} {items : List D} (B : Nat → D → Vars) (I : Nat → AS → Prop) (hit : EvIt w n env σ.vs iter items target)
    (ha : ∀ i d, items[i]? = some d → Asg w n env target d (B i d)) (h0 : I 0 σ)
    (turn : ∀ i d σ', items[i]? = some d → I i σ' → Exs w n env ⟨B i d ++ σ'.vs, σ'.own⟩ body fun af σ'' => match af with | .next => I (i + 1) σ'' | .ret r => Q (.ret r) σ'')
    (fin : ∀ σ', I items.length σ' → Q .next σ') (hs : ∀ x, foldedSetIterable iter env x = pure x := by intro _; rfl) : Ex w n env σ (.For target iter body [] pos) Q := fun A s g p ga H => by
  refine wpAny_For (go (hit A s g ga H.sit) fun x s1 h1 => go h1 fun it s2 ⟨g', X, I', wr, St, e1, fr, it1, it2⟩ => ?_) hs
  subst e1
  obtain ⟨p1, H1, m1, pn⟩ := H.ext X
  -- the iterator's own objects are pinned
  let pp : Lk := fun b => if b ∈ wr then s2.heap.get? b else p1 b
  have pq : ∀ b, p b = Option.none ∨ b ∉ wr := fun b => by
    by_cases hb : b ∈ wr
    · refine .inl ?_
      cases q : p b with
      | none => rfl
      | some o => have := H.ph _ _ q; rw [(fr b hb).1] at this; cases this
    · exact .inr hb
  have here := it1.here 0 _ it2
  have nin : ∀ b o, s.heap.get? b = some o → b ∉ wr := fun b o e hb => by rw [(fr b hb).1] at e; cases e
  have hcw : ∀ m c, (m, c) ∈ env.cells → c ∉ wr := fun m c hm => by
    obtain ⟨_, _, ⟨u, o, q4, _⟩, _⟩ := H.pC m c hm
    exact nin _ _ q4
  obtain ⟨ml, nL, _⟩ := H.sit.var
  obtain ⟨oL, eL⟩ := Ns_some nL
  have H2 : Hold env σ g' pp s2.heap := by
    refine ⟨H1.sit, fun b o e => ?_, fun b o e => ?_, ?_, fun m c hm => ?_, H1.apart, fun a od e => ?_⟩
    · show (if b ∈ wr then s2.heap.get? b else p1 b) = some o
      split
      · rename_i hb; rw [(fr b hb).2] at e; cases e
      · exact H1.gp _ _ e
    · have e : (if b ∈ wr then s2.heap.get? b else p1 b) = some o := e
      split at e
      · exact e
      · exact H1.ph _ _ e
    · show (if env.locals ∈ wr then s2.heap.get? env.locals else p1 env.locals) = Option.none
      rw [if_neg (nin _ _ eL)]; exact H1.pL
    · obtain ⟨_, _, ⟨u, o, q4, _⟩, _⟩ := H.pC m c hm
      have hc : (if c ∈ wr then s2.heap.get? c else p1 c) = p1 c := if_neg (nin _ _ q4)
      show (_ → (if c ∈ wr then s2.heap.get? c else p1 c) = Option.none) ∧ _ ∧ _ ∧ (_ → ∃ o v, (if c ∈ wr then s2.heap.get? c else p1 c) = some o ∧ _)
      rw [hc]
      exact H1.pC m c hm
    · obtain ⟨q1, q2, q3⟩ := H1.own a od e
      obtain ⟨o, ho⟩ := (H.own a od e).1.here
      refine ⟨q1, ?_, q3⟩
      show (if a ∈ wr then s2.heap.get? a else p1 a) = Option.none
      rw [if_neg (nin _ _ ho)]; exact q2
  have M2 : Mv g p g' pp := ⟨m1.sub, fun b o e => by
    show (if b ∈ wr then s2.heap.get? b else p1 b) = some o
    rw [if_neg (nin b o (H.ph _ _ e))]; exact m1.pub _ _ e, m1.fresh⟩
  have W2 : ∀ b ∈ wr, (∃ o, pp b = some o) ∧ g' b = Option.none := fun b hb => ⟨by
    obtain ⟨o, ho⟩ := here b hb
    exact ⟨o, by show (if b ∈ wr then s2.heap.get? b else p1 b) = some o; rw [if_pos hb]; exact ho⟩, (fr b hb).2⟩
  refine codeAny_forLoop_any (fun k s' => ∃ i gg pg σ', k = items.length + 1 - i ∧ i ≤ items.length ∧ (∃ h t, s' = { s with heap := h, toks := t }) ∧ Mv g p gg pg ∧ Sub g' gg ∧ Hold env σ' gg pg s'.heap ∧ (∀ b ∈ wr, (∃ o, pg b = some o) ∧ gg b = Option.none) ∧ St i s'.heap ∧ I i σ') ?_
    (items.length + 1) ⟨0, g', pp, σ, rfl, Nat.zero_le _, X.same, M2, Sub.refl _, H2, W2, it2, h0⟩
  rintro k s' ⟨i, gg, pg, σ', rfl, hi, sm, mv, sg, HH, WW, st, inv⟩
  cases hd : items[i]? with
  | none =>
    have hil : i = items.length := Nat.le_antisymm hi (by simpa using hd)
    subst hil
    refine wpAny_mono (it1.done n A s' No ga st) (fun r s3 ⟨e, sm3, kp⟩ => ?_) fun _ _ x => x.elim
    subst e
    refine wpAny_execs_nil ?_
    -- behind the loop: the iterator's objects are let go
    let pf : Lk := fun b => if b ∈ wr then Option.none else pg b
    have nw : ∀ b, pg b = Option.none → b ∉ wr := fun b e hb => by
      obtain ⟨⟨o, q⟩, _⟩ := WW b hb
      rw [q] at e; cases e
    have HF : Hold env σ' gg pf s3.heap := by
      obtain ⟨ml, nL, f⟩ := HH.sit.var
      have gw : ∀ b o, gg b = some o → b ∉ wr := fun b o e hb => by rw [(WW b hb).2] at e; cases e
      refine ⟨⟨HH.sit.top, fun b o e => kp b o (gw b o e) (HH.sit.keep _ _ e), HH.sit.kind, HH.sit.glob, HH.sit.blt, ml, nL.at' (fun o e => kp _ _ (nw _ HH.pL) e), fun y d e => ?_⟩, fun b o e => ?_, fun b o e => ?_, ?_, fun m c hm => ?_, HH.apart, fun a od e => ?_⟩
      · obtain ⟨u, ru, hu⟩ := f y d e
        refine ⟨u, ru, ?_⟩
        rcases hu with k | ⟨k1, c, k2, o, k3, k4⟩
        · exact .inl k
        · exact .inr ⟨k1, c, k2, o, kp _ _ (hcw _ _ (mem_of_lookup k2)) k3, k4⟩
      · show (if b ∈ wr then Option.none else pg b) = some o
        rw [if_neg (gw b o e)]; exact HH.gp _ _ e
      · have e : (if b ∈ wr then Option.none else pg b) = some o := e
        split at e
        · cases e
        · rename_i hb; exact kp _ _ hb (HH.ph _ _ e)
      · show (if env.locals ∈ wr then Option.none else pg env.locals) = Option.none
        split
        · rfl
        · exact HH.pL
      · obtain ⟨q1, q2, ⟨u, o, q3, q4⟩, q5⟩ := HH.pC m c hm
        have hc : (if c ∈ wr then Option.none else pg c) = pg c := if_neg (hcw _ _ hm)
        show (_ → (if c ∈ wr then Option.none else pg c) = Option.none) ∧ _ ∧ _ ∧ (_ → ∃ o v, (if c ∈ wr then Option.none else pg c) = some o ∧ _)
        rw [hc]
        exact ⟨q1, q2, ⟨u, o, kp _ _ (hcw _ _ hm) q3, q4⟩, q5⟩
      · obtain ⟨q1, q2, q3⟩ := HH.own a od e
        refine ⟨q1.keep (Sub.refl _) fun o e => kp _ _ (nw _ q2) e, ?_, q3⟩
        show (if a ∈ wr then Option.none else pg a) = Option.none
        split
        · rfl
        · exact q2
    refine ⟨gg, pf, .next, σ', same_trans sm sm3, ⟨mv.sub, fun b o e => ?_, mv.fresh⟩, HF, rfl, fin σ' inv⟩
    show (if b ∈ wr then Option.none else pg b) = some o
    rw [if_neg (nin b o (H.ph _ _ e))]; exact mv.pub _ _ e
  | some d =>
    have hlt : i < items.length := (List.getElem?_eq_some_iff.mp hd).1
    refine it1.item n A i s' d gg _ ga st sg HH.sit.keep (fun b hb => (WW b hb).2) hd |> fun z => wpAny_mono z (fun r s3 ⟨v, e, hz⟩ => ?_) fun _ _ x => x
    subst e
    refine wpAny_mono hz (fun _ s4 ⟨st', g4, T⟩ => ?_) fun _ _ x => x
    obtain ⟨p4, H4, W4, pk⟩ := HH.step WW hcw T.keep (it1.here _ _ st') T.sub T.inn T.fresh
    refine go (ha i d hd A s4 g4 p4 σ' v ga H4 T.rep) fun _ s5 ⟨sm5, H5⟩ => ?_
    refine go (turn i d σ' hd inv A s5 g4 p4 ga H5) fun f s6 ⟨g6, p6, af, σ6, sm6, m6, H6, fo, q⟩ => ?_
    have smAll := same_trans sm (same_trans T.same (same_trans sm5 sm6))
    have mvAll : Mv g p g6 p6 := by
      refine ⟨mv.sub.trans (T.sub.trans m6.sub), fun b o e => m6.pub _ _ (pk _ _ (nin b o (H.ph _ _ e)) (mv.pub _ _ e)), fun b o e => ?_⟩
      rcases m6.fresh b o e with z | z
      · rcases T.fresh b o z with z | z
        · exact mv.fresh b o z
        · refine .inr ?_
          cases q : p b with
          | none => rfl
          | some o' => have := HH.ph _ _ (mv.pub _ _ q); rw [this] at z; cases z
      · refine .inr ?_
        cases q : p b with
        | none => rfl
        | some o' => have := pk _ _ (nin b o' (H.ph _ _ q)) (mv.pub _ _ q); rw [this] at z; cases z
    cases af with
    | ret r =>
      obtain ⟨u, rfl, ru⟩ := fo
      exact ⟨g6, p6, .ret r, σ6, smAll, mvAll, H6, ⟨u, rfl, ru⟩, q⟩
    | next =>
      cases fo
      refine ⟨items.length + 1 - (i + 1), by omega, i + 1, g6, p6, σ6, rfl, hlt, smAll, mvAll, sg.trans (T.sub.trans m6.sub), H6, fun b hb => ?_, ?_, q⟩
      · obtain ⟨⟨o, z⟩, z2⟩ := W4 b hb
        refine ⟨⟨o, m6.pub _ _ z⟩, ?_⟩
        cases r : g6 b with
        | none => rfl
        | some o' =>
          rcases m6.fresh b o' r with y | y
          · rw [z2] at y; cases y
          · rw [z] at y; cases y
      · refine it1.frame _ _ _ st' (fun b hb o e => ?_) ((sg.trans (T.sub.trans m6.sub)).trans H6.sit.keep)
        obtain ⟨⟨o', z⟩, _⟩ := W4 b hb
        have z1 := H4.ph _ _ z
        rw [e] at z1; cases z1
        exact H6.ph _ _ (m6.pub _ _ z)
end
end Mine
end

-- M11
section
namespace Mine
open PySem PySem.W PyProof.Rows

section
variable {w : World} {A : Around} {R : Result → Shared → Prop} {s : Shared}
theorem compLoop_any {elt target iter : Expr} {ifs : List Expr} {scope : Scope} {pos : Pos} {it acc : Value} {env : Env} (I : Nat → Shared → Prop)
    (turn : ∀ n s, I n s → wpAny (model pr w) A (pyNext it) (fun r s₁ => match r with
      | Option.none => R (.ok .next) s₁
      | some v => wpAny (model pr w) A (letOwnedTupleGo target it v) (fun _ s₁' => wpAny (model pr w) A (assign target env v) (fun _ s₂ =>
          wpAny (model pr w) A (forIn ifs true fun c r => if r = true then do let ok ← isTrue c env (eval c env); pure (ForInStep.yield ok) else pure (ForInStep.yield r)) (fun ok s₃ =>
            if ok = true then wpAny (model pr w) A (eval elt env) (fun x s₄ =>
              wpAny (model pr w) A (call (.builtin "list.append") [acc, x]) (fun _ s₅ => ∃ m, m < n ∧ I m s₅) No s₄) No s₃
            else ∃ m, m < n ∧ I m s₃) No s₂) No s₁') No s₁) No s)
    (n : Nat) (h : I n s) : codeAny (model pr w) A (.compLoop (.ListComp elt [⟨target, iter, ifs, 0⟩] scope pos) 0 it acc env) R s := by
  refine codeAny_loop rfl I (fun n s hI => ?_) n h
  show wpAny _ A ((compTurn (.ListComp elt [⟨target, iter, ifs, 0⟩] scope pos) 0 it acc env).onRaise (fun x => do noteFrame x env; theTreesLotGoes x)) _ _ s
  refine wpAny_noted ?_
  rw [compTurn_list]
  refine wpAny_bind (wpAny_standAt (wpAny_bind (go (turn n s hI) fun r s₁ h₁ => ?_)))
  cases r with
  | none => exact wpAny_pure h₁
  | some v =>
    refine wpAny_bind (go h₁ fun _ s₁' h₁' => ?_)
    refine wpAny_bind (go h₁' fun _ s₂ h₂ => wpAny_bind (go h₂ fun ok s₃ h₃ => ?_))
    cases ok with
    | false => exact wpAny_pure ⟨rfl, h₃⟩
    | true => exact wpAny_bind (wpAny_bind (go h₃ fun x s₄ h₄ => wpAny_bind (go h₄ fun _ s₅ h₅ => wpAny_pure (wpAny_pure ⟨rfl, h₅⟩))))
end

def Tests (w : World) (n : Nat) (env : Env) (ρ : Vars) (ifs : List Expr) (b : Bool) : Prop :=
  ∀ A s g, GA n A → Sit env g s.heap ρ → wpAny (model pr w) A (forIn ifs true fun c r => if r = true then do let ok ← isTrue c env (eval c env); pure (ForInStep.yield ok) else pure (ForInStep.yield r)) (OutT g s b) No s
theorem Tests.nil {w : World} {n : Nat} {env : Env} {ρ : Vars} : Tests w n env ρ [] true := fun A s g ga S => wpAny_tests_nil ⟨rfl, g, .refl S.keep⟩
theorem Tests.one {w : World} {n : Nat} {env : Env} {ρ : Vars} {c : Expr} {b : Bool} (h : EvT w n env ρ c b) : Tests w n env ρ [c] b := fun A s g ga S => wpAny_tests_one (h A s g ga S)

/-- what a comprehension gathers -/
def gather (test : Nat → Bool) (res : Nat → D) : Nat → List D
  | 0 => []
  | i + 1 => if test i = true then gather test res i ++ [res i] else gather test res i
theorem gather_length {test : Nat → Bool} {res : Nat → D} : ∀ i, (gather test res i).length ≤ i
  | 0 => Nat.le_refl _
  | i + 1 => by
    have := gather_length (test := test) (res := res) i
    unfold gather
    split
    · simp; omega
    · omega
theorem gather_all {res : Nat → D} : ∀ i, gather (fun _ => true) res i = (List.range i).map res
  | 0 => rfl
  | i + 1 => by rw [gather, if_pos rfl, gather_all i, List.range_succ, List.map_append]; rfl

structure Comp (w : World) (n : Nat) (env : Env) (ρ : Vars) (elt target iter : Expr) (ifs : List Expr) (scope : Scope) (items out : List D) : Prop where
  ex : ∃ (cl : List (Str × Addr)) (ρc : Vars) (B : Nat → D → Vars) (test : Nat → Bool) (res : Nat → D),
    closureFor scope env = pure cl ∧ (cl.Pairwise fun x y => x.2 ≠ y.2) ∧ (∀ x c, (x, c) ∈ cl → env.cells.lookup x = some c ∧ env.kindOf x = some .cell ∧ ∃ d, ρ.lookup x = some d) ∧
    (∀ x d, ρc.lookup x = some d → ρ.lookup x = some d ∧ ∃ c, cl.lookup x = some c ∧ (relabel scope env).names.lookup x = some .cell) ∧
    (∀ i d, items[i]? = some d → ∀ x d', ρc.lookup x = some d' → (B i d ++ ρc).lookup x = some d') ∧
    (∀ C i d, items[i]? = some d → Asg w n (compEnvC scope cl C env) target d (B i d)) ∧
    (∀ C i d, items[i]? = some d → Tests w n (compEnvC scope cl C env) (B i d ++ ρc) ifs (test i)) ∧
    (∀ C i d, items[i]? = some d → test i = true → Ev w n (compEnvC scope cl C env) (B i d ++ ρc) elt (res i)) ∧ out = gather test res items.length
  it : EvIt w n env ρ iter items target
  kind : scope.kind = .function
  nocell : ∀ y ∈ scope.names, y.2 ≠ .cell
  names : ∀ x ∈ scope.names, x.2 = .local → scope.names.lookup x.1 = some .local
  small : items.length ≤ 1000
  folds : ∀ x, foldedSetIterable iter env x = pure x

def CompOut (g : Lk) (s : Shared) (out : List D) (acc : Value) (C : Addr) (s' : Shared) : Prop :=
  ∃ g' Da us m mC, Ext g s g' s' ∧ acc = .ref Da ∧ s'.heap.get? Da = some (lobj us m) ∧ s.heap.get? Da = Option.none ∧ g' Da = Option.none ∧ Reps g' us out ∧ s'.heap.Ns C mC ∧ s.heap.get? C = Option.none ∧ g' C = Option.none ∧ Da ≠ C

section
variable {w : World} {n : Nat} {env : Env} {ρ : Vars}
theorem Comp.core {elt target iter : Expr} {ifs : List Expr} {scope : Scope} {pos : Pos} {items out : List D} (c : Comp w n env ρ elt target iter ifs scope items out) :
    ∃ cl, closureFor scope env = pure cl ∧ ∀ A s g, GA n A → Sit env g s.heap ρ → ∀ (RR : Value → Addr → Result → Shared → Prop), (∀ acc C s', CompOut g s out acc C s' → RR acc C (.ok .next) s') →
      wpAny (model pr w) A (eval iter env) (fun x s₁ => wpAny (model pr w) A (pyIter x) (fun it s₂ => wpAny (model pr w) A (newList []) (fun acc s₃ =>
        wpAny (model pr w) A (newFunctionEnv scope env.globals cl [] env.qual Option.none .none (some env)) (fun cenv s₄ =>
          codeAny (model pr w) A (.compStart (.ListComp elt [⟨target, iter, ifs, 0⟩] scope pos) 0 it acc { cenv with scope := relabel scope env }) (RR acc cenv.locals) s₄) No s₃) No s₂) No s₁) No s := by
  obtain ⟨cl, ρc, B, test, res, hclos, hap, hcl, hρc, hsh, ha, ht, he, hout⟩ := c.ex
  refine ⟨cl, hclos, fun A s g ga S RR hRR => ?_⟩
  refine go (c.it A s g ga S) fun x s1 h1 => go h1 fun it s2 ⟨g2, X, I, wr, St, e1, fr, it1, it2⟩ => ?_
  subst e1
  refine wpAny_newObj_type (wpAny_newFunctionEnv c.nocell (by intro y hy; simp at hy) (fun h₁ hns₁ hsb₁ => ?_) c.kind)
  dsimp only at hns₁ hsb₁ ⊢
  generalize hDa : s2.heap.objs.size = Da at hns₁ hsb₁ ⊢
  generalize hH2 : s2.heap.push { cls := .type "list", dict := Option.none, data := .seq ([] : List Value).toArray } = H2 at hns₁ hsb₁ ⊢
  generalize hC : H2.objs.size = C at hns₁ hsb₁ ⊢
  have hC' : C = Da + 1 := by rw [← hC, ← hH2, Heap.size_push, hDa]
  have hDC : Da ≠ C := by omega
  have old : Sub s2.heap.get? h₁.get? := fun b o e => hsb₁.extBut b o (by have h := Heap.lt_size e; rw [hDa] at h; exact Nat.ne_of_lt (by rw [hC']; exact Nat.lt_succ_of_lt h)) (Heap.get?_push_of_some _ (hH2 ▸ Heap.get?_push_of_some _ e))
  have hacc : h₁.get? Da = some (lobj [] 0) := hsb₁.extBut _ _ hDC (Heap.get?_push_of_some _ (by rw [← hH2, ← hDa]; exact Heap.get?_push_size _ rfl))
  have fD2 : s2.heap.get? Da = Option.none := fresh_size (by omega)
  have fC2 : s2.heap.get? C = Option.none := fresh_size (by omega)
  have fD : s.heap.get? Da = Option.none := X.keep.none fD2
  have fC : s.heap.get? C = Option.none := X.keep.none fC2
  have nwr : ∀ b ∈ wr, b ≠ Da ∧ b ≠ C := fun b hb => by
    obtain ⟨o, ho⟩ := it1.here 0 _ it2 b hb
    have h := Heap.lt_size ho
    rw [hDa] at h
    exact ⟨Nat.ne_of_lt h, Nat.ne_of_lt (by rw [hC']; exact Nat.lt_succ_of_lt h)⟩
  have sold : ∀ b o, s.heap.get? b = some o → b ∉ wr ∧ b ≠ Da ∧ b ≠ C := fun b o e => ⟨fun hb => (by rw [(fr b hb).1] at e; cases e), fun q => (by rw [q, fD] at e; cases e), fun q => (by rw [q, fC] at e; cases e)⟩
  let env' := compEnvC scope cl C env
  let p0 : Lk := fun b => if b = C ∨ b = Da then Option.none else h₁.get? b
  have p0s : ∀ b o, b ≠ C → b ≠ Da → h₁.get? b = some o → p0 b = some o := fun b o q1 q2 e => by
    show (if b = C ∨ b = Da then Option.none else h₁.get? b) = some o
    rw [if_neg (by rintro (q | q); exact q1 q; exact q2 q)]; exact e
  obtain ⟨ml, nL, f⟩ := S.var
  have cells : ∀ x c, (x, c) ∈ cl → ∃ v o, s.heap.get? c = some o ∧ o.data = .cell (some v) := fun x c hm => by
    obtain ⟨k1, k2, d, k3⟩ := hcl x c hm
    obtain ⟨v, _, hv⟩ := f x d k3
    rcases hv with ⟨q, _⟩ | ⟨_, c', q2, o, q3, q4⟩
    · rw [k2] at q; cases q
    · rw [k1] at q2; cases q2; exact ⟨v, o, q3, q4⟩
  have H0 : Hold env' ⟨ρc, some (Da, .list [])⟩ g2 p0 h₁ := by
    refine ⟨⟨S.top.mono X.sub, X.inn.trans old, c.kind, S.glob, S.blt, _, hns₁, fun x d e => ?_⟩, fun b o e => ?_, fun b o e => ?_, ?_, fun x c hm => ?_, hap, fun a od e => ?_⟩
    · obtain ⟨k1, c', k2, k3⟩ := hρc x d e
      obtain ⟨v, r, hv⟩ := f x d k1
      refine ⟨v, r.mono X.sub, .inr ⟨.inl k3, c', k2, ?_⟩⟩
      obtain ⟨q1, q2, _⟩ := hcl x c' (mem_of_lookup k2)
      rcases hv with ⟨q, _⟩ | ⟨_, c'', q3, q4⟩
      · rw [q2] at q; cases q
      · rw [q1] at q3; cases q3
        exact (q4.keeps X.keep).keeps old
    · have e2 := X.inn _ _ e
      exact p0s b o (fun q => by rw [q, fC2] at e2; cases e2) (fun q => by rw [q, fD2] at e2; cases e2) (old _ _ e2)
    · have e : (if b = C ∨ b = Da then Option.none else h₁.get? b) = some o := e
      split at e
      · cases e
      · exact e
    · show (if C = C ∨ C = Da then Option.none else h₁.get? C) = Option.none
      rw [if_pos (.inl rfl)]
    · obtain ⟨v, o, k1, k2⟩ := cells x c hm
      obtain ⟨_, q2, q3⟩ := sold c o k1
      refine ⟨fun q => (by cases q), q3, ⟨_, o, old _ _ (X.keep _ _ k1), k2⟩, fun _ => ⟨o, _, p0s c o q3 q2 (old _ _ (X.keep _ _ k1)), k2⟩⟩
    · cases e
      refine ⟨⟨[], 0, hacc, .nil⟩, ?_, hDC, fun x c hm => ?_⟩
      · show (if Da = C ∨ Da = Da then Option.none else h₁.get? Da) = Option.none
        rw [if_pos (.inr rfl)]
      · obtain ⟨v, o, k1, k2⟩ := cells x c hm
        exact (sold c o k1).2.1
  have W0 : ∀ b ∈ wr, (∃ o, p0 b = some o) ∧ g2 b = Option.none := fun b hb => by
    obtain ⟨o, ho⟩ := it1.here 0 _ it2 b hb
    exact ⟨⟨o, p0s b o (nwr b hb).2 (nwr b hb).1 (old _ _ ho)⟩, (fr b hb).2⟩
  have hcw : ∀ x c, (x, c) ∈ env'.cells → c ∉ wr := fun x c hm => by
    obtain ⟨v, o, k1, k2⟩ := cells x c hm
    exact (sold c o k1).1
  have St0 : St 0 h₁ := it1.frame _ _ _ it2 (fun b hb o e => old _ _ e) (X.inn.trans old)
  have loop : ∀ s3 : Shared, s3 = { s2 with heap := h₁, toks := s2.toks + ([] : List (Str × Value)).length } →
      codeAny (model pr w) A (.compLoop (.ListComp elt [⟨target, iter, ifs, 0⟩] scope pos) 0 (.ref I) (.ref Da) env') (RR (.ref Da) C) s3 := by
    rintro s3 rfl
    refine compLoop_any (fun k s' => ∃ i gg pg, k = items.length + 1 - i ∧ i ≤ items.length ∧ (∃ h t, s' = { s with heap := h, toks := t }) ∧ Sub g2 gg ∧ (∀ b o, gg b = some o → g b = some o ∨ s.heap.get? b = Option.none) ∧ Sub s.heap.get? pg ∧
      Hold env' ⟨ρc, some (Da, .list (gather test res i))⟩ gg pg s'.heap ∧ (∀ b ∈ wr, (∃ o, pg b = some o) ∧ gg b = Option.none) ∧ St i s'.heap) ?_
      (items.length + 1) ⟨0, g2, p0, rfl, Nat.zero_le _, same_trans X.same ⟨_, _, rfl⟩, Sub.refl _, X.fresh, fun b o e => p0s b o (sold b o e).2.2 (sold b o e).2.1 (old _ _ (X.keep _ _ e)), H0, W0, St0⟩
    rintro k s' ⟨i, gg, pg, rfl, hi, sm, sg, fg, sp, HH, WW, st⟩
    cases hd : items[i]? with
    | none =>
      have hil : i = items.length := Nat.le_antisymm hi (by simpa using hd)
      subst hil
      refine go (it1.done n A s' No ga st) fun r s4 ⟨e, sm4, kp⟩ => ?_
      subst e
      obtain ⟨⟨us, m, e1, q1⟩, e2, e3, e4⟩ := HH.own Da _ rfl
      obtain ⟨mC, nC, _⟩ := HH.sit.var
      have nw : ∀ b, pg b = Option.none → b ∉ wr := fun b e hb => by
        obtain ⟨⟨o, q⟩, _⟩ := WW b hb
        rw [q] at e; cases e
      have gw : ∀ b o, gg b = some o → b ∉ wr := fun b o e hb => by rw [(WW b hb).2] at e; cases e
      refine hRR _ _ _ ⟨gg, Da, us, m, mC, ⟨same_trans sm sm4, fun b o e => kp b o (sold b o e).1 (HH.ph _ _ (sp _ _ e)), X.sub.trans sg, fun b o e => kp b o (gw b o e) (HH.sit.keep _ _ e), fg⟩, rfl, kp _ _ (nw _ e2) e1, fD, HH.gp.none e2, hout ▸ q1, nC.at' (fun o e => kp _ _ (nw _ HH.pL) e), fC, HH.gp.none HH.pL, hDC⟩
    | some d =>
      have hlt : i < items.length := (List.getElem?_eq_some_iff.mp hd).1
      refine go (it1.item n A i s' d gg No ga st sg HH.sit.keep (fun b hb => (WW b hb).2) hd) fun r s4 ⟨v, e, hz⟩ => ?_
      subst e
      refine go hz fun _ s5 ⟨st', g5, T⟩ => ?_
      obtain ⟨p5, H5, W5, pk⟩ := HH.step WW hcw T.keep (it1.here _ _ st') T.sub T.inn T.fresh
      refine go (ha C i d hd A s5 g5 p5 _ v ga H5 T.rep) fun _ s6 ⟨sm6, H6⟩ => ?_
      refine go (ht C i d hd A s6 g5 ga H6.sit) fun ok s7 ⟨eok, g7, X7⟩ => ?_
      subst eok
      obtain ⟨p7, H7, m7, _⟩ := H6.ext X7
      have fg5 : ∀ b o, g5 b = some o → g b = some o ∨ s.heap.get? b = Option.none := fun b o e => by
        rcases T.fresh b o e with z | z
        · exact fg b o z
        · exact .inr (sp.none (HH.ph.none z))
      have sp5 : Sub s.heap.get? p5 := fun b o e => pk b o (sold b o e).1 (sp _ _ e)
      have fin : ∀ (g8 p8 : Lk) (s8 : Shared), (∃ h t, s8 = { s with heap := h, toks := t }) → Mv g5 p5 g8 p8 → Hold env' ⟨ρc, some (Da, .list (gather test res (i + 1)))⟩ g8 p8 s8.heap →
          ∃ m, m < items.length + 1 - i ∧ ∃ i gg pg, m = items.length + 1 - i ∧ i ≤ items.length ∧ (∃ h t, s8 = { s with heap := h, toks := t }) ∧ Sub g2 gg ∧ (∀ b o, gg b = some o → g b = some o ∨ s.heap.get? b = Option.none) ∧ Sub s.heap.get? pg ∧
      Hold env' ⟨ρc, some (Da, .list (gather test res i))⟩ gg pg s8.heap ∧ (∀ b ∈ wr, (∃ o, pg b = some o) ∧ gg b = Option.none) ∧ St i s8.heap := fun g8 p8 s8 sm8 m8 H8 => by
        refine ⟨items.length + 1 - (i + 1), by omega, i + 1, g8, p8, rfl, hlt, sm8, sg.trans (T.sub.trans m8.sub), fun b o e => ?_, sp5.trans m8.pub, H8, fun b hb => ?_, ?_⟩
        · rcases m8.fresh b o e with z | z
          · exact fg5 b o z
          · exact .inr (sp5.none z)
        · obtain ⟨⟨o, z⟩, z2⟩ := W5 b hb
          refine ⟨⟨o, m8.pub _ _ z⟩, ?_⟩
          cases r : g8 b with
          | none => rfl
          | some o' =>
            rcases m8.fresh b o' r with y | y
            · rw [z2] at y; cases y
            · rw [z] at y; cases y
        · refine it1.frame _ _ _ st' (fun b hb o e => ?_) ((sg.trans (T.sub.trans m8.sub)).trans H8.sit.keep)
          obtain ⟨⟨o', z⟩, _⟩ := W5 b hb
          have z1 := H5.ph _ _ z
          rw [e] at z1; cases z1
          exact H8.ph _ _ (m8.pub _ _ z)
      have sm7 := same_trans sm (same_trans T.same (same_trans sm6 X7.same))
      cases htest : test i with
      | false =>
        rw [if_neg (by decide)]
        have H8 : Hold env' ⟨B i d ++ ρc, some (Da, .list (gather test res (i + 1)))⟩ g7 p7 s7.heap := by
          rw [gather, if_neg (by rw [htest]; decide)]; exact H7
        exact fin g7 p7 s7 sm7 m7 (H8.forget (hsh i d hd))
      | true =>
        rw [if_pos rfl]
        refine go (he C i d hd htest A s7 g7 ga H7.sit) fun y s8 ⟨g8, X8, r8⟩ => ?_
        obtain ⟨p8, H8, m8, _⟩ := H7.ext X8
        obtain ⟨⟨us, m, e1, q1⟩, e2, e3, e4⟩ := H8.own Da _ rfl
        have hl := q1.length
        have hg := gather_length (test := test) (res := res) i
        have hsmall := c.small
        refine call_meets F.slot_list_append ⟨_, e1, rfl⟩ F.entry_list_append (F.args_list_append_2 _ _) (list_append Da us.toArray m y (by simp [sizeLine_eq]; omega)) ⟨e1, ?_⟩
        have e5 : (s8.heap.update Da (Obj.mapSeq (·.push y))).get? Da = some (lobj (us ++ [y]) (m + 1)) := by
          have := IsL.update (f := fun xs => xs.push y) e1
          simpa using this
        have H9 := H8.turn (h' := s8.heap.update Da (Obj.mapSeq (·.push y))) (od' := .list (gather test res (i + 1))) rfl (Heap.SameBut.update _ _ _).extBut
          ⟨_, _, e5, by rw [gather, if_pos htest]; exact q1.append (.cons r8 .nil)⟩
        exact fin g8 p8 _ (same_trans sm7 (same_trans X8.same ⟨_, _, rfl⟩)) (m7.trans m8) (H9.forget (hsh i d hd))
  exact codeAny_compStart_list (loop _ rfl) (it1.self 0 _ _ _ _ St0 (loop _ rfl))
end
end Mine
end

-- M12
section
namespace Mine
open PySem PySem.W PyProof.Rows

/-- a stranger's object turned -/
theorem Hold.but {env : Env} {σ : AS} {g p : Lk} {h h' : Heap} {C : Addr} (H : Hold env σ g p h) (hp : p C = Option.none) (hL : C ≠ env.locals) (hc : ∀ n c, (n, c) ∈ env.cells → c ≠ C) (ho : ∀ a od, σ.own = some (a, od) → a ≠ C) (hs : Heap.ExtBut C h h') : Hold env σ g p h' := by
  obtain ⟨ml, nL, f⟩ := H.sit.var
  have hg : g C = Option.none := H.gp.none hp
  refine ⟨⟨H.sit.top, fun b o e => hs b o (fun q => by rw [q, hg] at e; cases e) (H.sit.keep _ _ e), H.sit.kind, H.sit.glob, H.sit.blt, ml, nL.extBut hs (Ne.symm hL), fun y d' e => ?_⟩, H.gp,
    fun b o e => hs b o (fun q => by rw [q, hp] at e; cases e) (H.ph _ _ e), H.pL, fun n c hm => ?_, H.apart, fun a od e => ?_⟩
  · obtain ⟨u, ru, hu⟩ := f y d' e
    refine ⟨u, ru, ?_⟩
    rcases hu with k | ⟨k1, c, k2, o, k3, k4⟩
    · exact .inl k
    · exact .inr ⟨k1, c, k2, o, hs c o (hc _ _ (mem_of_lookup k2)) k3, k4⟩
  · obtain ⟨q1, q2, ⟨u, o, q3, q4⟩, q5⟩ := H.pC n c hm
    exact ⟨q1, q2, ⟨u, o, hs c o (hc _ _ hm) q3, q4⟩, q5⟩
  · obtain ⟨q1, q2⟩ := H.own a od e
    exact ⟨q1.keep (Sub.refl _) fun o e' => hs _ _ (ho a od e) e', q2⟩

section
variable {w : World} {n : Nat} {env : Env} {ρ : Vars}
theorem Ext.putIn {g g' : Lk} {s s' : Shared} {a : Addr} {o : Obj} (X : Ext g s g' s') (new : s.heap.get? a = Option.none) (off : g' a = Option.none) (here : s'.heap.get? a = some o) : Ext g s (Mine.put g' a o) s' where
  same := X.same
  keep := X.keep
  sub := fun b x e => by
    unfold Mine.put
    split
    · rename_i q; subst q; rw [X.sub _ _ e] at off; cases off
    · exact X.sub _ _ e
  inn := fun b x e => by
    unfold Mine.put at e
    split at e
    · rename_i q; subst q; cases e; exact here
    · exact X.inn _ _ e
  fresh := fun b x e => by
    unfold Mine.put at e
    split at e
    · rename_i q; subst q; exact .inr new
    · exact X.fresh _ _ e
theorem Ext.but {g g' : Lk} {s s' : Shared} {C : Addr} {h' : Heap} (X : Ext g s g' s') (new : s.heap.get? C = Option.none) (off : g' C = Option.none) (hs : Heap.ExtBut C s'.heap h') : Ext g s g' { s' with heap := h' } where
  same := same_trans X.same ⟨_, _, rfl⟩
  keep := fun b o e => hs b o (fun q => by rw [q, new] at e; cases e) (X.keep _ _ e)
  sub := X.sub
  inn := fun b o e => hs b o (fun q => by rw [q, off] at e; cases e) (X.inn _ _ e)
  fresh := X.fresh
theorem put_none {g : Lk} {a b : Addr} {o : Obj} (h : b ≠ a) (e : g b = Option.none) : Mine.put g a o b = Option.none := by unfold Mine.put; rw [if_neg h]; exact e
theorem sub_put {g : Lk} {a : Addr} {o : Obj} (e : g a = Option.none) : Sub g (Mine.put g a o) := fun b x q => by
  unfold Mine.put
  split
  · rename_i z; subst z; rw [e] at q; cases q
  · exact q

theorem Ev.comp {elt target iter : Expr} {ifs : List Expr} {scope : Scope} {pos : Pos} {items out : List D} (c : Comp w n env ρ elt target iter ifs scope items out) : Ev w n env ρ (.ListComp elt [⟨target, iter, ifs, 0⟩] scope pos) (.list out) := fun A s g ga S => by
  obtain ⟨cl, hclos, core⟩ := c.core (pos := pos)
  rw [eval_ListComp]
  refine wpAny_comprehension_free (use := Option.none) rfl c.folds hclos c.kind c.names (core A s g ga S (fun acc C => compPost (model pr w) A No Option.none (Out g s (.list out)) acc C) ?_)
  rintro acc C s' ⟨g', Da, us, m, mC, X, rfl, e1, e2, e3, r, nC, f1, f2, hne⟩
  refine ⟨mC, nC, fun h' hs => ?_⟩
  have X1 := (X.putIn e2 e3 e1)
  exact ⟨_, X1.but f1 (put_none (Ne.symm hne) f2) hs.extBut, .list (put_self _ _ _) (r.mono (sub_put e3))⟩
theorem Ex.assignComp {σ : AS} {Q : AF → AS → Prop} {elt target iter : Expr} {ifs : List Expr} {scope : Scope} {y : Str} {py pos spos : Pos} {items out : List D} (c : Comp w n env σ.vs elt target iter ifs scope items out)
    (hy : env.kindOf y = some .local) (h : Q .next ⟨(y, .list out) :: σ.vs, σ.own⟩)
    (hsw : swapsWith (.ListComp elt [⟨target, iter, ifs, 0⟩] scope pos) (some (.Name y py)) spos.line env = pure true := by rfl) : Ex w n env σ (.Assign [.Name y py] (.ListComp elt [⟨target, iter, ifs, 0⟩] scope pos) spos) Q := fun A s g p ga H => by
  obtain ⟨cl, hclos, core⟩ := c.core (pos := pos)
  rw [exec_Assign_Name_used _ _ _ _ hsw]
  refine wpAny_bind (wpAny_standAt (wpAny_bind ?_))
  show wpAny _ A (do let _ ← comprehension (.ListComp elt [⟨target, iter, ifs, 0⟩] scope pos) scope env _ (newList []) false (eval iter env) (some (PySem.assign (.Name y py) env))) _ _ s
  refine wpAny_bind (wpAny_mono (wpAny_comprehension_free (E := No) (use := some (PySem.assign (.Name y py) env)) (Q := fun _ s' => OutS env g p s Q .next s') rfl c.folds hclos c.kind c.names
    (core A s g ga H.sit (fun acc C => compPost (model pr w) A No (some (PySem.assign (.Name y py) env)) (fun _ s' => OutS env g p s Q .next s') acc C) ?_)) (fun _ s' hq => wpAny_pure (wpAny_pure hq)) fun _ _ e => e)
  rintro acc C s' ⟨g', Da, us, m, mC, X, rfl, e1, e2, e3, r, nC, f1, f2, hne⟩
  have X1 := (X.putIn e2 e3 e1)
  obtain ⟨p1, H1, m1, pn⟩ := H.ext X1
  obtain ⟨ml, nL, _⟩ := H.sit.var
  obtain ⟨oL, eL⟩ := Ns_some nL
  have hCL : C ≠ env.locals := fun q => by rw [q, eL] at f1; cases f1
  have hCc : ∀ m c, (m, c) ∈ env.cells → c ≠ C := fun m c hm q => by
    obtain ⟨_, _, ⟨u, o, q3, _⟩, _⟩ := H.pC m c hm
    rw [q, f1] at q3; cases q3
  have hCo : ∀ a od, σ.own = some (a, od) → a ≠ C := fun a od e q => by
    obtain ⟨o, ho⟩ := (H.own a od e).1.here
    rw [q, f1] at ho; cases ho
  show wpAny _ A (PySem.assign (.Name y py) env (.ref Da)) _ _ _
  refine wpAny_assign_Name (H1.store2 (.inl hy) (.list (put_self _ _ _) (r.mono (sub_put e3))) fun h2 t H2 kb => ?_)
  refine ⟨mC, nC.at' (fun o e => kb C o hCL (fun m c hm q => hCc m c hm q.symm) e), fun h3 hs3 => ?_⟩
  exact ⟨_, p1, .next, _, same_trans X1.same ⟨_, _, rfl⟩, m1, H2.but (pn C (H.ph.none f1) (put_none (Ne.symm hne) f2)) hCL hCc hCo hs3.extBut, rfl, h⟩
end
end Mine
end

-- M13
section
namespace Mine
open PySem PySem.W PyProof.Rows

def FnSpec (w : World) (n : Nat) (f : Fn) (ds : List D) (d : D) : Prop :=
  ∀ A s g a o pm code doc vs, GA (n + 1) A → TopG g → Sub g s.heap.get? → s.heap.get? a = some o → o.data = .func (Calls.docDef f.name f.params f.body f.scope pm code doc) → s.heap.CodeRec code f.name → s.heap.NoLimit → Reps g vs ds →
    wpAny (model pr w) A (call (.ref a) vs) (Out g s d) No s

theorem bindL_off {kindOf : Str → Option NameKind} : ∀ {binds : List (Str × Value)} {m : Str → Option Value} {x : Str}, x ∉ binds.map (·.1) → bindL kindOf binds m x = m x
  | [], _, _, _ => rfl
  | (y, u) :: r, m, x, h => by
    have h1 : x ≠ y := fun q => h (by simp [q])
    have h2 : x ∉ r.map (·.1) := fun q => h (by simp only [List.map_cons, List.mem_cons]; exact .inr q)
    unfold bindL
    rw [bindL_off h2]
    split
    · simp [h1]
    · rfl
theorem bindC_off {kindOf : Str → Option NameKind} : ∀ {binds : List (Str × Value)} {m : Str → Option Value} {x : Str}, x ∉ binds.map (·.1) → bindC kindOf binds m x = m x
  | [], _, _, _ => rfl
  | (y, u) :: r, m, x, h => by
    have h1 : x ≠ y := fun q => h (by simp [q])
    have h2 : x ∉ r.map (·.1) := fun q => h (by simp only [List.map_cons, List.mem_cons]; exact .inr q)
    unfold bindC
    rw [bindC_off h2]
    split
    · rfl
    · simp [h1]
theorem bindL_on {kindOf : Str → Option NameKind} : ∀ {binds : List (Str × Value)} {m : Str → Option Value} {x : Str} {v : Value}, (binds.map (·.1)).Nodup → (x, v) ∈ binds → kindOf x = some .local → bindL kindOf binds m x = some v
  | (y, u) :: r, m, x, v, hn, hm, hk => by
    obtain ⟨h1, h2⟩ := List.nodup_cons.mp hn
    rcases List.mem_cons.mp hm with e | hm
    · cases e
      unfold bindL
      rw [bindL_off h1, if_pos hk]; simp
    · unfold bindL
      exact bindL_on h2 hm hk
theorem bindC_on {kindOf : Str → Option NameKind} : ∀ {binds : List (Str × Value)} {m : Str → Option Value} {x : Str} {v : Value}, (binds.map (·.1)).Nodup → (x, v) ∈ binds → kindOf x ≠ some .local → bindC kindOf binds m x = some v
  | (y, u) :: r, m, x, v, hn, hm, hk => by
    obtain ⟨h1, h2⟩ := List.nodup_cons.mp hn
    rcases List.mem_cons.mp hm with e | hm
    · cases e
      unfold bindC
      rw [bindC_off h1, if_neg hk]; simp
    · unfold bindC
      exact bindC_on h2 hm hk
theorem zip_rep {g : Lk} : ∀ {xs : List Str} {vs : List Value} {ds : List D} {x : Str} {d : D}, Reps g vs ds → (xs.zip ds).lookup x = some d → ∃ v, (x, v) ∈ xs.zip vs ∧ Rep g v d
  | [], _, _, _, _, _, h => by simp at h
  | y :: xs, _, _, _, _, .nil, h => by simp at h
  | y :: xs, v :: vs, e :: ds, x, d, .cons a q, h => by
    rw [List.zip_cons_cons, lookup_cons_eq] at h
    split at h
    · rename_i z; subst z; cases h; exact ⟨v, by simp, a⟩
    · obtain ⟨u, h1, h2⟩ := zip_rep q h
      exact ⟨u, by rw [List.zip_cons_cons]; exact List.mem_cons_of_mem _ h1, h2⟩

structure FnOK (f : Fn) (xs : List Str) : Prop where
  bind : ∀ pm cd doc (vs : List Value), vs.length = xs.length → bindArgs (Calls.docDef f.name f.params f.body f.scope pm cd doc) ⟨vs, []⟩ = pure (xs.zip vs)
  nodup : xs.Nodup
  kinds : ∀ (L : Nat), ∀ x ∈ xs, f.scope.names.lookup x = some .local ∨ (f.scope.names.lookup x = some .cell ∧ ((cellsFrom (L + 1) f.scope.names []).lookup x).isSome = true)
  cells : ∀ (L : Nat) n c, (n, c) ∈ cellsFrom (L + 1) f.scope.names [] → (cellsFrom (L + 1) f.scope.names []).lookup n = some c
  co : f.scope.isCoroutine = false
  gen : f.scope.isGenerator = false
  kind : f.scope.kind = .function

theorem FnSpec.of {w : World} {n : Nat} {f : Fn} {xs : List Str} {ds : List D} {d : D} (ok : FnOK f xs) (hlen : ds.length = xs.length)
    (hb : ∀ L a cd, Exs w n (envOfC f.name f.scope L a cd) ⟨xs.zip ds, Option.none⟩ f.body fun af _ => af = .ret d) : FnSpec w n f ds d := by
  intro A s g a o pm code doc vs ga top kg ho hdat hcd hlim hr
  have hvl : vs.length = xs.length := hr.length.trans hlen
  have hroom : A.depth < recursionLimit := by have := ga.depth; have : recursionLimit = 1000 := rfl; omega
  have hmap : (xs.zip vs).map (·.1) = xs := by rw [List.map_fst_zip]; omega
  refine wpAny_call (call_cells_ret hroom ho hdat hlim hcd (ok.bind pm code doc vs hvl) (fun x hx => ok.kinds _ x.1 (by rw [← hmap]; exact List.mem_map_of_mem hx)) (fun h₁ tk F X => ?_) ok.co ok.gen ok.kind)
  have H : Hold (envOfC f.name f.scope s.heap.objs.size a code) ⟨xs.zip ds, Option.none⟩ g s.heap.get? h₁ := by
    refine ⟨⟨top, kg.trans F.keep, ok.kind, rfl, rfl, _, F.ns, fun x d' e => ?_⟩, kg, F.keep, fresh_size (Nat.le_refl _), fun m c hm => ?_, X.apart, fun _ _ e => by cases e⟩
    · obtain ⟨v, h1, h2⟩ := zip_rep hr e
      refine ⟨v, h2, ?_⟩
      have hx : x ∈ xs := by rw [← hmap]; exact List.mem_map_of_mem (f := (·.1)) h1
      have hnd : ((xs.zip vs).map (·.1)).Nodup := by rw [hmap]; exact ok.nodup
      rcases ok.kinds s.heap.objs.size x hx with k | ⟨k, kc⟩
      · exact .inl ⟨k, bindL_on hnd h1 k⟩
      · obtain ⟨c, hc⟩ := Option.isSome_iff_exists.mp kc
        refine .inr ⟨.inl k, c, hc, ?_⟩
        have := X.cell x c hc
        rw [bindC_on hnd h1 (by show f.scope.names.lookup x ≠ _; rw [k]; decide)] at this
        exact this
    · have habove := X.above m c hm
      exact ⟨fun _ => fresh_size (Nat.le_of_lt habove), Nat.ne_of_gt habove, ⟨_, X.cell m c (ok.cells _ m c hm)⟩, fun q => by cases q⟩
  have ga' : GA n (A.deeper (envOfC f.name f.scope s.heap.objs.size a code)) := ⟨ga.hh, by have := ga.depth; show A.depth + 1 + n ≤ 900; omega, by have := ga.units; show A.units + 3 + 10 * n ≤ 9000; omega⟩
  refine wpAny_mono (hb s.heap.objs.size a code _ { s with heap := h₁, toks := tk } g s.heap.get? ga' H) (fun fl s' ⟨g', p', af, σ', sm, mv, H', fo, q⟩ => ?_) fun _ _ x => x.elim
  subst q
  obtain ⟨v, rfl, rv⟩ := fo
  exact ⟨g', ⟨same_trans ⟨_, _, rfl⟩ sm, mv.pub.trans H'.ph, mv.sub, H'.sit.keep, mv.fresh⟩, rv⟩

theorem Ev.callF {w : World} {n : Nat} {env : Env} {ρ : Vars} {f : Fn} {x : Str} {p pos : Pos} {e : Expr} {es : List Expr} {ds : List D} {d : D} (hf : f ∈ theFns) (hx : f.name = x) (hk : env.kindOf x = some .globalImplicit) (ha : Evs w (n + 1) env ρ (e :: es) ds) (hc : FnSpec w n f ds d)
    (hd : (x == ("__debug__" : Str)) = false := by decide) (hq : starEach (e :: es) env = (false, eval e env) :: starEach es env := by rfl) : Ev w (n + 1) env ρ (.Call (.Name x p) (e :: es) [] pos) d := fun A s g ga S => by
  obtain ⟨h0, k0, T⟩ := S.top
  obtain ⟨mg, mb, ng, nb, hb, hfn, _, _⟩ := T.ex
  obtain ⟨a, o, pm, code, doc, h1, h2, h3, h4⟩ := hfn f hf
  rw [hx] at h1
  refine wpAny_Call_NameR (Calls.Name_function_global S.kind hk (Calls.loadGlobal_global (by rw [S.glob]; exact ng.keeps (k0.trans S.keep)) h1 ?_) hd)
  refine Calls.callWith_function (o := o) (fd := Calls.docDef f.name f.params f.body f.scope pm code doc) ?_
  have H := ha A s g pos ga S
  rw [hq] at H ⊢
  refine Calls.evalArgs_plain (go H fun vs s2 ⟨g2, X2, r2⟩ => ?_)
  have kk : Sub h0.get? s2.heap.get? := (k0.trans X2.sub).trans X2.inn
  refine ⟨⟨kk _ _ h2, h3⟩, ?_⟩
  exact go (hc A s2 g2 a o pm code doc vs ga (TopG.mono S.top X2.sub) X2.inn (kk _ _ h2) h3 (h4.keeps kk) (T.nolimit.keeps kk) r2) fun v s3 o => .trans X2 o
end Mine
end

-- M14
section
namespace Mine
open PySem PySem.W PyProof.Rows

def enumD (ds : List D) : List D := (List.range ds.length).map fun (i : Nat) => D.tup [.int (i : Int), ds.getD i .none]
theorem enumD_length (ds : List D) : (enumD ds).length = ds.length := by simp [enumD]

section
variable {w : World} {n : Nat} {env : Env} {ρ : Vars}
theorem EvIt.enum {x : Str} {p pos : Pos} {e : Expr} {ds : List D} {es : List Expr} {k : Nat} {tp : Pos} (hf : Ev w n env ρ (.Name x p) (.val (.type "enumerate"))) (he : Ev w n env ρ e (.list ds))
    (hq : starEach [e] env = [(false, eval e env)] := by rfl) : EvIt w n env ρ (.Call (.Name x p) [e] [] pos) (enumD ds) (.Tuple es k tp) := fun A s g ga S => by
  refine wpAny_Call_NameR (go (hf A s g ga S) fun f s1 ⟨g1, X1, r1⟩ => ?_)
  cases r1
  rw [hq]
  refine PyProof.Rows.callWith_type rfl (Calls.evalArgs_plain (Calls.spliced_cons ?_))
  refine go (he A s1 g1 ga (S.ext X1)) fun v s2 ⟨g2, X2, r2⟩ => Calls.spliced_nil ?_
  obtain ⟨l, vs, m, rfl, el, q⟩ := r2.isL
  have hl := isList_of (X2.inn _ _ el)
  show wpAny _ A (call (.type "enumerate") [.ref l] []) _ _ s2
  refine call_enumerate_list hl fun h' ie il hsz kp => ?_
  refine wpAny_pyIter_enum ie ?_
  have X := X1.trans X2
  generalize hit : s2.heap.objs.size = it at ie il hsz ⊢
  have hle : l < it := by rw [← hit]; exact Heap.lt_size (X2.inn _ _ el)
  have fw : ∀ b ∈ [it + 1, it], s2.heap.get? b = Option.none := fun b hb => by
    refine fresh_size ?_
    rw [hit]
    rcases List.mem_cons.mp hb with rfl | hb
    · exact Nat.le_succ _
    · rw [List.mem_singleton.mp hb]; exact Nat.le_refl _
  have W := fun (A : Around) (hh : A.handled = Option.none) => WalksT.enumerate (prog := pr) (w := w) (A := A) hh (it + 1) it l (Nat.succ_ne_self _) (Nat.ne_of_lt (Nat.lt_succ_of_lt hle)) (Nat.ne_of_lt hle) vs.toArray
  refine ⟨g2, ⟨same_trans X.same ⟨_, _, rfl⟩, X.keep.trans kp, X.sub, X.inn.trans kp, X.fresh⟩, it + 1, [it + 1, it], fun i h => (∃ old, IsEnum h (it + 1) it i old) ∧ h.IsListIter it l i ∧ h.IsList l vs.toArray, rfl, fun b hb => ⟨X.keep.none (fw b hb), X.inn.none (fw b hb)⟩, ⟨?_, ?_, ?_, ?_, ?_⟩, ⟨_, ie⟩, il, hl.at fun o e => kp _ _ e⟩
  · intro i h h' hs hk hg
    obtain ⟨⟨old, h1⟩, h2, h3⟩ := hs
    exact ⟨⟨old, hk _ (by simp) _ h1⟩, h2.at fun o e => hk _ (by simp) o e, isList_of (hg _ _ el)⟩
  · intro i h hs b hb
    obtain ⟨⟨old, h1⟩, ⟨o, h2, _⟩, h3⟩ := hs
    rcases List.mem_cons.mp hb with rfl | hb
    · exact ⟨_, h1⟩
    · rw [List.mem_singleton.mp hb]; exact ⟨o, h2⟩
  · intro n A i s3 d g3 E ga hs hg hk off hd
    have hi : i < ds.length := by
      have := (List.getElem?_eq_some_iff.mp hd).1
      rwa [enumD_length] at this
    have hi' : i < vs.toArray.size := by rw [List.size_toArray, q.length]; exact hi
    refine (W A ga.hh).item i s3 _ E hi' hs fun T vals h4 tk hP hT hIT hMid kp4 => ⟨_, rfl, ?_⟩
    refine (W A ga.hh).go es k tp i T _ _ E hMid fun h5 hs5 kp5 => ⟨hs5, ?_⟩
    obtain ⟨t, x, hx, rfl⟩ := hP
    have hd2 : d = .tup [.int i, ds.getD i .none] := by
      rw [enumD, List.getElem?_map, List.getElem?_range hi] at hd
      simpa using hd.symm
    obtain ⟨v, hv, rv⟩ := (q.mono hg).get i (d := ds.getD i .none) (by rw [List.getD_eq_getElem?_getD, List.getElem?_eq_getElem hi]; rfl)
    have hxv : x = v := by
      have : vs[i]? = some x := by simpa using hx
      rw [hv] at this; exact (Option.some.inj this).symm
    subst hxv
    obtain ⟨oT, hoT, hcT, mT, hdT⟩ := hIT
    have hTw : T ∉ [it + 1, it] := (W A ga.hh).apart i T h4 hMid
    have h5T : h5.get? T = some oT := kp5 _ _ hTw hoT
    have newT : s3.heap.get? T = Option.none := fresh_size hT
    have kb : ∀ b o, b ∉ [it + 1, it] → s3.heap.get? b = some o → h5.get? b = some o := fun b o hb e => kp5 _ _ hb (kp4 _ _ hb e)
    have gb : ∀ b o, g3 b = some o → b ∉ [it + 1, it] := fun b o e hb => by rw [off b hb] at e; cases e
    have offT : g3 T = Option.none := hk.none newT
    rw [hd2]
    refine ⟨Mine.put g3 T oT, ⟨_, _, rfl⟩, kb, sub_put offT, fun b o e => ?_, fun b o e => ?_, .tup (put_self _ _ _) hcT (vs := [.int i t, x]) hdT (.cons (.int _ _) (.cons (rv.mono (sub_put offT)) .nil))⟩
    · unfold Mine.put at e
      split at e
      · rename_i z; subst z; cases e; exact h5T
      · exact kb _ _ (gb _ _ e) (hk _ _ e)
    · unfold Mine.put at e
      split at e
      · rename_i z; subst z; exact .inr newT
      · exact .inl e
  · intro n A s3 E ga hs
    have hlen : (enumD ds).length = vs.toArray.size := by rw [enumD_length, List.size_toArray, q.length]
    rw [hlen] at hs
    exact (W A ga.hh).done s3 _ E hs fun h4 tk kp4 => ⟨rfl, ⟨_, _, rfl⟩, kp4⟩
  · intro i A s3 Q E hs hq
    obtain ⟨⟨old, h1⟩, _, _⟩ := hs
    exact wpAny_pyIter_enum h1 hq

/-- a < b < c < d -/
theorem EvT.chain3 {l r1 r2 r3 : Expr} {o1 o2 o3 : CmpOp} {pos : Pos} {a b c d : D} {x y z : Bool} (hl : Ev w n env ρ l a) (h1 : Ev w n env ρ r1 b) (h2 : Ev w n env ρ r2 c) (h3 : Ev w n env ρ r3 d) (c1 : Cmp w o1 a b x) (c2 : Cmp w o2 b c y) (c3 : Cmp w o3 c d z)
    (hm : lastMarks [o1, o2, o3] [r1, r2, r3] = false := by with_unfolding_all rfl) : EvT w n env ρ (.Compare l [o1, o2, o3] [r1, r2, r3] pos) (x && (y && z)) := fun A s g ga S => by
  refine isTrue_chain (go (hl A s g ga S) fun va s1 ⟨g1, X1, ra⟩ => ?_) hm
  refine test_link (go (h1 A s1 g1 ga (S.ext X1)) fun vb s2 ⟨g2, X2, rb⟩ => ?_)
  refine go (c1 n A s2 g2 va vb ga X2.inn (ra.mono X2.sub) rb) fun u s3 ⟨g3, X3, r⟩ => ?_
  cases r
  refine wpAny_truthy_bool ?_
  have X123 := X1.trans (X2.trans X3)
  cases x with
  | false => exact ⟨rfl, _, X123⟩
  | true =>
    refine test_link (go (h2 A s3 g3 ga (S.ext X123)) fun vc s4 ⟨g4, X4, rc⟩ => ?_)
    refine go (c2 n A s4 g4 vb vc ga X4.inn ((rb.mono X3.sub).mono X4.sub) rc) fun u s5 ⟨g5, X5, r⟩ => ?_
    cases r
    refine wpAny_truthy_bool ?_
    have X15 := X123.trans (X4.trans X5)
    cases y with
    | false => exact ⟨rfl, _, X15⟩
    | true =>
      refine test_last (go (h3 A s5 g5 ga (S.ext X15)) fun vd s6 ⟨g6, X6, rd⟩ => ?_)
      refine go (c3 n A s6 g6 vc vd ga X6.inn ((rc.mono X5.sub).mono X6.sub) rd) fun u s7 ⟨g7, X7, r⟩ => ?_
      cases r
      exact wpAny_truthy_bool ⟨by simp, _, X15.trans (X6.trans X7)⟩
end

/-- fewer names -/
def Le (ρ ρ' : Vars) : Prop := ∀ x d, ρ.lookup x = some d → ρ'.lookup x = some d
theorem Le.nil {ρ : Vars} : Le [] ρ := fun _ _ h => by simp at h
theorem Le.cons {ρ ρ' : Vars} {x : Str} {d : D} (h : ρ'.lookup x = some d) (q : Le ρ ρ') : Le ((x, d) :: ρ) ρ' := fun y e hy => by
  rw [lookup_cons_eq] at hy
  split at hy
  · rename_i z; subst z; cases hy; exact h
  · exact q y e hy
theorem Le.refl {ρ : Vars} : Le ρ ρ := fun _ _ h => h
theorem Exs.weaken {w : World} {n : Nat} {env : Env} {σ : AS} {sts : List Stmt} {Q : AF → AS → Prop} {ρ : Vars} (h : Exs w n env ⟨ρ, σ.own⟩ sts Q) (hl : Le ρ σ.vs) : Exs w n env σ sts Q := fun A s g p ga H =>
  h A s g p ga (H.forget hl)
theorem Exs.weaken' {w : World} {n : Nat} {env : Env} {σ : AS} {sts : List Stmt} {Q : AF → AS → Prop} {ρ : Vars} {o : Option (Addr × OD)} (h : Exs w n env ⟨ρ, o⟩ sts Q) (hl : Le ρ σ.vs) (ho : σ.own = o) : Exs w n env σ sts Q := by
  subst ho; exact h.weaken hl
theorem Ex.forV {w : World} {n : Nat} {env : Env} {σ : AS} {Q : AF → AS → Prop} {target iter : Expr} {body : List Stmt} {pos : Pos} {items : List D} (ρ : Nat → Vars) (O : Nat → Option (Addr × OD)) (B : Nat → D → Vars) (hit : EvIt w n env σ.vs iter items target)
    (ha : ∀ i d, items[i]? = some d → Asg w n env target d (B i d)) (h0 : Le (ρ 0) σ.vs) (ho : σ.own = O 0)
    (turn : ∀ i d, items[i]? = some d → Exs w n env ⟨B i d ++ ρ i, O i⟩ body fun af σ'' => match af with | .next => Le (ρ (i + 1)) σ''.vs ∧ σ''.own = O (i + 1) | .ret r => Q (.ret r) σ'')
    (fin : ∀ σ', Le (ρ items.length) σ'.vs → σ'.own = O items.length → Q .next σ') (hs : ∀ x, foldedSetIterable iter env x = pure x := by intro _; rfl) : Ex w n env σ (.For target iter body [] pos) Q := by
  refine Ex.for_ B (fun i σ' => Le (ρ i) σ'.vs ∧ σ'.own = O i) hit ha ⟨h0, ho⟩ (fun i d σ' hd hi => ?_) (fun σ' hi => fin σ' hi.1 hi.2) hs
  refine (turn i d hd).weaken' (fun x e hx => ?_) hi.2
  rw [List.lookup_append] at hx ⊢
  cases q : (B i d).lookup x with
  | some y => rw [q] at hx; exact hx
  | none => rw [q] at hx; exact hi.1 x e hx

section
variable {w : World} {n : Nat} {env : Env} {ρ : Vars} {elt target iter : Expr} {ifs : List Expr} {scope : Scope} {items out : List D}
/-- a comprehension that reads one name of the frame's -/
theorem Comp.free {y : Str} {c : Addr} {e : D} (B : Nat → D → Vars) (test : Nat → Bool) (res : Nat → D) (hclos : closureFor scope env = pure [(y, c)]) (hc : env.cells.lookup y = some c) (hk : env.kindOf y = some .cell) (hρ : ρ.lookup y = some e)
    (hr : (relabel scope env).names.lookup y = some .cell) (hsh : ∀ i d, items[i]? = some d → (B i d).lookup y = Option.none) (it : EvIt w n env ρ iter items target)
    (ha : ∀ C i d, items[i]? = some d → Asg w n (compEnvC scope [(y, c)] C env) target d (B i d))
    (ht : ∀ C i d, items[i]? = some d → Tests w n (compEnvC scope [(y, c)] C env) (B i d ++ [(y, e)]) ifs (test i))
    (he : ∀ C i d, items[i]? = some d → test i = true → Ev w n (compEnvC scope [(y, c)] C env) (B i d ++ [(y, e)]) elt (res i)) (hout : out = gather test res items.length)
    (kind : scope.kind = .function) (nocell : ∀ y ∈ scope.names, y.2 ≠ .cell) (names : ∀ x ∈ scope.names, x.2 = .local → scope.names.lookup x.1 = some .local) (small : items.length ≤ 1000) (folds : ∀ x, foldedSetIterable iter env x = pure x) :
    Comp w n env ρ elt target iter ifs scope items out := by
  refine ⟨⟨[(y, c)], [(y, e)], B, test, res, hclos, List.pairwise_singleton _ _, fun x c' hm => ?_, fun x d hx => ?_, fun i d hd x d' hx => ?_, ha, ht, he, hout⟩, it, kind, nocell, names, small, folds⟩
  · rw [List.mem_singleton] at hm; cases hm; exact ⟨hc, hk, e, hρ⟩
  · rw [lookup_cons_eq] at hx
    split at hx
    · rename_i z; subst z; cases hx; exact ⟨hρ, c, by simp, hr⟩
    · simp at hx
  · have hx2 := hx
    rw [lookup_cons_eq] at hx
    split at hx
    · rename_i z; subst z; rw [List.lookup_append, hsh i d hd]; exact hx2
    · simp at hx
/-- a comprehension that reads no name of the frame's -/
theorem Comp.closed (B : Nat → D → Vars) (test : Nat → Bool) (res : Nat → D) (hclos : closureFor scope env = pure []) (it : EvIt w n env ρ iter items target)
    (ha : ∀ C i d, items[i]? = some d → Asg w n (compEnvC scope [] C env) target d (B i d))
    (ht : ∀ C i d, items[i]? = some d → Tests w n (compEnvC scope [] C env) (B i d ++ []) ifs (test i))
    (he : ∀ C i d, items[i]? = some d → test i = true → Ev w n (compEnvC scope [] C env) (B i d ++ []) elt (res i)) (hout : out = gather test res items.length)
    (kind : scope.kind = .function) (nocell : ∀ y ∈ scope.names, y.2 ≠ .cell) (names : ∀ x ∈ scope.names, x.2 = .local → scope.names.lookup x.1 = some .local) (small : items.length ≤ 1000) (folds : ∀ x, foldedSetIterable iter env x = pure x) :
    Comp w n env ρ elt target iter ifs scope items out :=
  ⟨⟨[], [], B, test, res, hclos, List.Pairwise.nil, fun x c' hm => (by cases hm), fun x d hx => (by simp at hx), fun i d hd x d' hx => (by simp at hx), ha, ht, he, hout⟩, it, kind, nocell, names, small, folds⟩
end
theorem gather_inl {f : Nat → Int} {m : Nat} : gather (fun _ => true) (fun i => .int (f i)) m = ((List.range m).map f).map D.int := by rw [gather_all, List.map_map]; rfl
end Mine
end

-- F1
section
namespace Mine
open PySem PySem.W PyProof.Rows

def fnI (i : Nat) : Fn := (theFns[i]?).getD ⟨"", ⟨[], [], Option.none, [], [], Option.none, []⟩, [], { kind := .function, names := [], isGenerator := false, isCoroutine := false, more := [] }⟩
theorem fns_length : theFns.length = 13 := by rfl
theorem fn_mem {i : Nat} (h : i < 13) : fnI i ∈ theFns := by
  unfold fnI
  rw [List.getElem?_eq_getElem (by rw [fns_length]; exact h)]
  exact List.getElem_mem _

theorem ok_isterminal : FnOK (fnI 1) ["x"] where
  bind := fun pm cd doc vs h => by
    match vs, h with
    | [v], _ => rfl
  nodup := by decide
  kinds := fun L x hx => by
    rw [List.mem_singleton.mp hx]; exact .inl rfl
  cells := fun L n c hm => by cases hm
  co := rfl
  gen := rfl
  kind := rfl

theorem isterminal_spec {w : World} {n : Nat} {x : Int} : FnSpec w n (fnI 1) [.int x] (.bool (decide (x < 256))) := FnSpec.of ok_isterminal rfl fun L a cd => by
  refine Exs.cons (Ex.ret (Ev.cmp (Ev.name rfl) (Ev.nt rfl) Cmp.lt) ?_)
  rfl
end Mine
end

-- F2
section
namespace Mine
open PySem PySem.W PyProof.Rows

/-- the five numbers after i items of the script -/
def numsAt (ns : List Int) : Nat → List Int
  | 0 => [50, 10, 12, 20, 6]
  | i + 1 => (numsAt ns i).set (i % 5) ((numsAt ns i).getD (i % 5) 0 + ns.getD i 0)
theorem numsAt_length (ns : List Int) : ∀ i, (numsAt ns i).length = 5
  | 0 => rfl
  | i + 1 => by rw [numsAt, List.length_set, numsAt_length ns i]

theorem ok_numbers : FnOK (fnI 2) ["script"] where
  bind := fun pm cd doc vs h => by
    match vs, h with
    | [v], _ => rfl
  nodup := by decide
  kinds := fun L x hx => by
    rw [List.mem_singleton.mp hx]; exact .inl rfl
  cells := fun L n c hm => by cases hm
  co := rfl
  gen := rfl
  kind := rfl
theorem boot_len' : bootBuiltins "len" = some (.builtin "len") := by decide +kernel
theorem boot_range' : bootBuiltins "range" = some (.type "range") := by decide +kernel
theorem boot_bytes' : bootBuiltins "bytes" = some (.type "bytes") := by decide +kernel
theorem boot_bytearray' : bootBuiltins "bytearray" = some (.type "bytearray") := by decide +kernel
theorem boot_isinstance' : bootBuiltins "isinstance" = some (.builtin "isinstance") := by decide +kernel
theorem boot_sorted' : bootBuiltins "sorted" = some (.builtin "sorted") := by decide +kernel
theorem boot_sum' : bootBuiltins "sum" = some (.builtin "sum") := by decide +kernel
theorem boot_enumerate' : bootBuiltins "enumerate" = some (.type "enumerate") := by decide +kernel
theorem boot_list' : bootBuiltins "list" = some (.type "list") := by decide +kernel

theorem sz {k : Nat} (h : Nat.ble k 1000 = true := by rfl) : k ≤ 1000 := Nat.le_of_ble_eq_true h
theorem inl_get {ns : List Int} {i : Nat} (h : i < ns.length) : (inl ns)[i]? = some (.int (ns.getD i 0)) := by
  rw [List.getElem?_map, List.getElem?_eq_getElem h, List.getD_eq_getElem?_getD, List.getElem?_eq_getElem h]; rfl
theorem inl_length (ns : List Int) : (inl ns).length = ns.length := by simp [inl]
theorem inl_set {ns : List Int} {i : Nat} {x : Int} : (inl ns).set i (.int x) = inl (ns.set i x) := by simp [inl, List.map_set]
theorem rng_get {a c : Int} {m i : Nat} {d : D} (h : ((List.range m).map fun (i : Nat) => D.int (a + i * c))[i]? = some d) : i < m ∧ d = .int (a + i * c) := by
  have hi : i < m := by
    have := (List.getElem?_eq_some_iff.mp h).1
    simpa using this
  refine ⟨hi, ?_⟩
  rw [List.getElem?_map, List.getElem?_range hi] at h
  simpa using h.symm
theorem iterRange {w : World} {a b : Int} {m : Nat} (ha : -(2 ^ 62) ≤ a) (ha' : a < 2 ^ 62) (hb' : b < 2 ^ 62) (hm : b = a + m) : IterD w (.rng a b 1) ((List.range m).map fun (i : Nat) => D.int (a + i * 1)) := by
  refine IterD.rng (small_one ha ha' (by omega) hb') ?_
  rw [rangeSize_one]; split <;> omega
theorem fmod_nat (i m : Nat) : Int.fmod (i : Int) (m : Int) = ((i % m : Nat) : Int) := by
  rw [Int.fmod_eq_emod_of_nonneg _ (Int.natCast_nonneg _)]; rfl

theorem numbers_spec {w : World} {n : Nat} {ns : List Int} (hz : ns.length ≤ 1000) : FnSpec w n (fnI 2) [.list (inl ns)] (.list (inl (numsAt ns ns.length))) := FnSpec.of ok_numbers rfl fun L a cd => by
  refine Exs.cons (Ex.assignOwn (EvO.list (.cons .cint (.cons .cint (.cons .cint (.cons .cint (.cons .cint .nil)))))) (.inl rfl) fun q => ?_)
  refine Exs.cons (Ex.forV (fun i => [("numbers", .val (.ref q)), ("script", .list (inl ns))]) (fun i => some (q, .list (inl (numsAt ns i)))) (fun i d => [("k", d)])
    (EvIt.of (Ev.callT (Ev.blt boot_range' rfl (by decide)) (.cons (Ev.callB (Ev.blt boot_len' rfl (by decide)) (.cons (.name rfl) .nil) (CallV.lenL (by rw [inl_length]; exact hz))) .nil) CallV.range1)
      (iterRange (m := ns.length) (by omega) (by omega) (by rw [inl_length]; omega) (by rw [inl_length]; omega)))
    (fun i d _ => .name (.inl rfl)) (.cons rfl (.cons rfl .nil)) rfl (fun i d hd => ?_) fun σ' hl ho => ?_)
  · obtain ⟨hi, rfl⟩ := rng_get hd
    have hm : Int.fmod (0 + (i : Int) * 1) 5 = ((i % 5 : Nat) : Int) := by
      rw [show (0 + (i : Int) * 1) = (i : Int) by omega]; exact fmod_nat i 5
    have hn := numsAt_length ns i
    have hlt : i % 5 < 5 := Nat.mod_lt _ (by decide)
    refine Exs.cons (Ex.iaddItem (k := ((i % 5 : Nat) : Int)) (y := (numsAt ns i).getD (i % 5) 0) (z := ns.getD i 0) rfl rfl ((Ev.bin (.name rfl) .cint (Bin.fmod (by decide))).of (by rw [hm])) (by omega) ?_
      (Ev.itemL (k := 0 + (i : Int) * 1) (.name rfl) (.name rfl) (by omega) ?_ (by rw [inl_length]; exact hz)) (by rw [inl_length, hn]; decide) (Exs.nil ⟨.cons rfl (.cons rfl .nil), ?_⟩))
    · rw [Int.toNat_natCast]; exact inl_get (by rw [hn]; exact hlt)
    · rw [show (0 + (i : Int) * 1).toNat = i by omega]; exact inl_get hi
    · rw [Int.toNat_natCast, inl_set]; rfl
  · refine Exs.weaken' (ρ := [("numbers", .val (.ref q))]) (Exs.cons (Ex.freeze (x := "numbers") rfl rfl (Ex.ret (.name rfl) ?_))) (fun x d h => hl x d (Le.cons rfl .nil x d h)) ho
    show AF.ret _ = _
    rw [List.length_map, List.length_range]

theorem ok_kinds : FnOK (fnI 3) ["numbers"] where
  bind := fun pm cd doc vs h => by
    match vs, h with
    | [v], _ => rfl
  nodup := by decide
  kinds := fun L x hx => by
    rw [List.mem_singleton.mp hx]; exact .inl rfl
  cells := fun L n c hm => by cases hm
  co := rfl
  gen := rfl
  kind := rfl
def kindsOf (c d : Int) : List Int := [1, 2 + c.fmod 84, 86 + d.fmod 84, 170 + (c + d).fmod 85, 255]
theorem kinds_spec {w : World} {n : Nat} {a b c d e : Int} : FnSpec w n (fnI 3) [.list (inl [a, b, c, d, e])] (.list (inl (kindsOf c d))) := FnSpec.of ok_kinds rfl fun L a cd => by
  refine Exs.cons (Ex.ret (Ev.list (.cons .cint (.cons (Ev.bin .cint (Ev.bin (Ev.itemL (.name rfl) .cint (by decide) rfl sz) .cint (Bin.fmod (by decide))) .add) (.cons (Ev.bin .cint (Ev.bin (Ev.itemL (.name rfl) .cint (by decide) rfl sz) .cint (Bin.fmod (by decide))) .add)
    (.cons (Ev.bin .cint (Ev.bin (Ev.bin (Ev.itemL (.name rfl) .cint (by decide) rfl sz) (Ev.itemL (.name rfl) .cint (by decide) rfl sz) .add) .cint (Bin.fmod (by decide))) .add) (.cons .cint .nil)))))) ?_)
  rfl
end Mine
end

-- F3
section
namespace Mine
open PySem PySem.W PyProof.Rows

def insI (l : List Int) (k : Nat) (x : Int) : List Int := l.take k ++ x :: l.drop k
theorem insAt_inl {l : List Int} {k : Nat} {x : Int} : insAt (inl l) k (.int x) = inl (insI l k x) := by simp [insAt, insI, inl]
theorem insI_length {l : List Int} {k : Nat} {x : Int} (h : k ≤ l.length) : (insI l k x).length = l.length + 1 := by simp [insI]; omega
def restAt (r : Int) : Nat → Int
  | 0 => r
  | i + 1 => (restAt r i).fdiv (i + 1)
def ranksAt (r : Int) : Nat → List Int
  | 0 => []
  | i + 1 => insI (ranksAt r i) ((restAt r i).fmod (i + 1)).toNat (i + 1)
theorem fmod_range (x : Int) (i : Nat) : 0 ≤ x.fmod ((i : Int) + 1) ∧ x.fmod ((i : Int) + 1) ≤ i := by
  have h1 := Int.fmod_nonneg_of_pos x (b := (i : Int) + 1) (by omega)
  have h2 := Int.fmod_lt_of_pos x (b := (i : Int) + 1) (by omega)
  omega
theorem ranksAt_length (r : Int) : ∀ i, (ranksAt r i).length = i
  | 0 => rfl
  | i + 1 => by
    have h := ranksAt_length r i
    obtain ⟨h1, h2⟩ := fmod_range (restAt r i) i
    rw [ranksAt, insI_length (by omega), h]
/-- turned or not, by a figure to the base 2 -/
def signed (n1 : Int) (l : List Int) : List Int := (List.range l.length).map fun i => if (n1.fdiv (2 ^ i)).fmod 2 == 1 then -(l.getD i 0) else l.getD i 0
def drawnOf (n0 n1 : Int) : List Int := signed n1 (ranksAt (n0.fmod 120) 5)
theorem enum_get {r : List Int} {i : Nat} {d : D} (h : (enumD (inl r))[i]? = some d) : i < r.length ∧ d = .tup [.int i, .int (r.getD i 0)] := by
  have hi : i < r.length := by
    have := (List.getElem?_eq_some_iff.mp h).1
    rwa [enumD_length, inl_length] at this
  refine ⟨hi, ?_⟩
  rw [enumD, List.getElem?_map, List.getElem?_range (by rw [inl_length]; exact hi)] at h
  have e : (inl r).getD i .none = .int (r.getD i 0) := by rw [List.getD_eq_getElem?_getD, inl_get hi]; rfl
  simp only [Option.map_some, e] at h
  exact (Option.some.inj h).symm

theorem ok_drawn : FnOK (fnI 4) ["numbers"] where
  bind := fun pm cd doc vs h => by
    match vs, h with
    | [v], _ => rfl
  nodup := by decide
  kinds := fun L x hx => by
    rw [List.mem_singleton.mp hx]; exact .inr ⟨rfl, rfl⟩
  cells := fun L n c hm => by
    have hm : (n, c) ∈ [((PySem.Str.ofString "numbers"), L + 1)] := hm
    rw [List.mem_singleton] at hm
    cases hm; rfl
  co := rfl
  gen := rfl
  kind := rfl
theorem pow2_bound {i : Nat} (h : i < 6) : (2 : Int) ^ i ≠ 0 ∧ ((2 : Int) ^ i).natAbs < 1073741824 := by
  have : i = 0 ∨ i = 1 ∨ i = 2 ∨ i = 3 ∨ i = 4 ∨ i = 5 := by omega
  rcases this with rfl | rfl | rfl | rfl | rfl | rfl <;> decide

theorem drawn_spec {w : World} {n : Nat} {n0 n1 n2 n3 n4 : Int} : FnSpec w n (fnI 4) [.list (inl [n0, n1, n2, n3, n4])] (.list (inl (drawnOf n0 n1))) := FnSpec.of ok_drawn rfl fun L a cd => by
  refine Exs.cons (Ex.assign (Ev.bin (Ev.itemL (.name rfl) .cint (by decide) rfl sz) .cint (Bin.fmod (by decide))) (.inl rfl) ?_)
  refine Exs.cons (Ex.assignOwn (EvO.list .nil) (.inl rfl) fun q => ?_)
  refine Exs.cons (Ex.forV (fun i => [("rest", .int (restAt (n0.fmod 120) i)), ("ranks", .val (.ref q)), ("numbers", .list (inl [n0, n1, n2, n3, n4]))]) (fun i => some (q, .list (inl (ranksAt (n0.fmod 120) i)))) (fun i d => [("k", d)])
    (EvIt.of (Ev.callT (Ev.blt boot_range' rfl (by decide)) (.cons .cint (.cons .cint .nil)) CallV.range2) (iterRange (m := 5) (by decide) (by decide) (by decide) (by decide)))
    (fun i d _ => .name (.inl rfl)) (.cons rfl (.cons rfl (.cons rfl .nil))) rfl (fun i d hd => ?_) fun σ' hl ho => ?_)
  · obtain ⟨hi, rfl⟩ := rng_get hd
    have hk : (1 + (i : Int) * 1) = (i : Int) + 1 := by omega
    rw [hk]
    have hlen := ranksAt_length (n0.fmod 120) i
    obtain ⟨h1, h2⟩ := fmod_range (restAt (n0.fmod 120) i) i
    refine Exs.cons (Ex.insert rfl rfl (Ev.bin (.name rfl) (.name rfl) (Bin.fmod (by omega))) h1 (by rw [inl_length, hlen]; exact h2) (.name rfl) (by rw [inl_length, hlen]; omega) ?_)
    refine Exs.cons (Ex.ifdiv rfl (.inl rfl) (.name rfl) (by omega) (by omega) (Exs.nil ⟨.cons rfl (.cons rfl (.cons rfl .nil)), ?_⟩))
    show some (q, OD.list (insAt (inl _) _ (.int _))) = _
    rw [insAt_inl]; rfl
  · rw [List.length_map, List.length_range] at hl ho
    refine Exs.weaken' (Exs.cons (Ex.freeze (x := "ranks") rfl rfl (Ex.ret (d := .list (inl (drawnOf n0 n1))) (Ev.comp (Comp.free (y := "numbers") (c := L + 1) (e := .list (inl [n0, n1, n2, n3, n4]))
      (fun i d => ([] ++ [((PySem.Str.ofString "x"), D.int ((ranksAt (n0.fmod 120) 5).getD i 0))]) ++ [((PySem.Str.ofString "k"), D.int i)]) (fun _ => true)
      (fun i => .int (if (n1.fdiv (2 ^ i)).fmod 2 == 1 then -((ranksAt (n0.fmod 120) 5).getD i 0) else (ranksAt (n0.fmod 120) 5).getD i 0)) rfl rfl rfl rfl rfl (fun i d _ => rfl)
      (EvIt.enum (Ev.blt boot_enumerate' rfl (by decide)) (.name rfl)) (fun C i d hd => ?_) (fun C i d hd => .nil) (fun C i d hd _ => ?_) ?_ rfl (by decide) (by decide) ?_ (by intro _; rfl))) rfl))) hl ho
    · obtain ⟨hi, rfl⟩ := enum_get hd
      exact Asg.tup (.cons (.name (.inl rfl)) (.cons (.name (.inl rfl)) .nil))
    · obtain ⟨hi, rfl⟩ := enum_get hd
      rw [ranksAt_length] at hi
      obtain ⟨p1, p2⟩ := pow2_bound (i := i) (by omega)
      refine Ev.ifx (EvT.cmp (Ev.bin (Ev.bin (Ev.itemL (.name rfl) .cint (by decide) rfl sz) (Ev.bin .cint (.name rfl) (Bin.pow (by omega) (by omega) (by decide))) (Bin.fdiv p1 p2)) .cint (Bin.fmod (by decide))) .cint .eq) (fun hb => ?_) (fun hb => ?_)
      · rw [Int.toNat_natCast] at hb
        rw [if_pos hb]
        exact Ev.un (.name rfl) .neg
      · rw [Int.toNat_natCast] at hb
        rw [if_neg (by rw [hb]; decide)]
        exact .name rfl
    · show inl (drawnOf n0 n1) = gather _ _ (enumD (inl (ranksAt (n0.fmod 120) 5))).length
      rw [enumD_length, inl_length, gather_inl]
      rfl
    · show (enumD (inl (ranksAt (n0.fmod 120) 5))).length ≤ 1000
      rw [enumD_length, inl_length, ranksAt_length]; decide
end Mine
end

-- F4
section
namespace Mine
open PySem PySem.W PyProof.Rows

theorem ok_row : FnOK (fnI 5) ["ranks", "kinds"] where
  bind := fun pm cd doc vs h => by
    match vs, h with
    | [v, u], _ => rfl
  nodup := by decide
  kinds := fun L x hx => by
    rcases List.mem_cons.mp hx with rfl | hx
    · exact .inl rfl
    · rw [List.mem_singleton.mp hx]; exact .inl rfl
  cells := fun L n c hm => by cases hm
  co := rfl
  gen := rfl
  kind := rfl
def wordOf (ks : List Int) (x : Int) : List Int := if x > 0 then [0, ks.getD (x - 1).toNat 0] else [ks.getD (-x - 1).toNat 0, 0]
def rowOf (rs ks : List Int) : List Int := rs.flatMap (wordOf ks)
def RankOK (x : Int) : Prop := (1 ≤ x ∧ x ≤ 5) ∨ (-5 ≤ x ∧ x ≤ -1)
theorem wordOf_length (ks : List Int) (x : Int) : (wordOf ks x).length = 2 := by unfold wordOf; split <;> rfl
theorem rowOf_length (ks : List Int) : ∀ rs : List Int, (rowOf rs ks).length = 2 * rs.length
  | [] => rfl
  | x :: rs => by
    have := rowOf_length ks rs
    rw [rowOf, List.flatMap_cons, List.length_append, wordOf_length, List.length_cons]
    rw [rowOf] at this
    omega
theorem inl_get_some {ns : List Int} {i : Nat} {d : D} (h : (inl ns)[i]? = some d) : i < ns.length ∧ d = .int (ns.getD i 0) := by
  have hi : i < ns.length := by
    have := (List.getElem?_eq_some_iff.mp h).1
    rwa [inl_length] at this
  refine ⟨hi, ?_⟩
  rw [inl_get hi] at h
  exact (Option.some.inj h).symm
theorem take_snoc {ns : List Int} {i : Nat} (h : i < ns.length) : ns.take (i + 1) = ns.take i ++ [ns.getD i 0] := by
  rw [List.take_add_one, List.getElem?_eq_getElem h, List.getD_eq_getElem?_getD, List.getElem?_eq_getElem h]; rfl
theorem mem_getD {ns : List Int} {i : Nat} (h : i < ns.length) : ns.getD i 0 ∈ ns := by
  rw [List.getD_eq_getElem?_getD, List.getElem?_eq_getElem h]; exact List.getElem_mem _
theorem word_in {ks : List Int} (hk : ∀ k ∈ ks, 0 ≤ k ∧ k < 256) {i : Nat} : 0 ≤ ks.getD i 0 ∧ ks.getD i 0 < 256 := by
  by_cases h : i < ks.length
  · exact hk _ (mem_getD h)
  · rw [List.getD_eq_getElem?_getD, List.getElem?_eq_none (by omega)]; decide
theorem row_in {ks rs : List Int} (hk : ∀ k ∈ ks, 0 ≤ k ∧ k < 256) : ∀ x ∈ rowOf rs ks, 0 ≤ x ∧ x < 256 := by
  intro x hx
  rw [rowOf, List.mem_flatMap] at hx
  obtain ⟨r, _, hx⟩ := hx
  unfold wordOf at hx
  split at hx <;> rcases List.mem_cons.mp hx with rfl | hx
  · decide
  · rw [List.mem_singleton.mp hx]; exact word_in hk
  · exact word_in hk
  · rw [List.mem_singleton.mp hx]; decide

theorem row_spec {w : World} {n : Nat} {rs ks : List Int} (hr : ∀ x ∈ rs, RankOK x) (hz : rs.length ≤ 100) (hk : ks.length = 5) (hb : ∀ k ∈ ks, 0 ≤ k ∧ k < 256) : FnSpec w n (fnI 5) [.list (inl rs), .list (inl ks)] (.bytes (rowOf rs ks)) := FnSpec.of ok_row rfl fun L a cd => by
  refine Exs.cons (Ex.assignOwn (EvO.list .nil) (.inl rfl) fun q => ?_)
  refine Exs.cons (Ex.forV (fun i => [("octets", .val (.ref q)), ("ranks", .list (inl rs)), ("kinds", .list (inl ks))]) (fun i => some (q, .list (inl (rowOf (rs.take i) ks)))) (fun i d => [("x", d)])
    (EvIt.of (.name rfl) IterD.list) (fun i d _ => .name (.inl rfl)) (.cons rfl (.cons rfl (.cons rfl .nil))) rfl (fun i d hd => ?_) fun σ' hl ho => ?_)
  · obtain ⟨hi, rfl⟩ := inl_get_some hd
    have hx := hr _ (mem_getD hi)
    generalize hxe : rs.getD i 0 = x at hx
    have hl1 := rowOf_length ks (rs.take i)
    have hl2 : (rs.take i).length ≤ 100 := by rw [List.length_take]; omega
    refine Exs.cons (Ex.iadd (es := inl (wordOf ks x)) rfl rfl (.inl rfl) (Ev.ifx (EvT.cmp (.name rfl) .cint .gt) (fun hb => ?_) (fun hb => ?_)) (by rw [inl_length, inl_length, wordOf_length]; omega) (Exs.nil ⟨.cons rfl (.cons rfl (.cons rfl .nil)), ?_⟩))
    · have hp : x > 0 := of_decide_eq_true hb
      have hlt : (x - 1).toNat < ks.length := by rcases hx with hx | hx <;> omega
      refine (Ev.list (.cons .cint (.cons (Ev.itemL (.name rfl) (Ev.bin (.name rfl) .cint .sub) (by omega) (inl_get hlt) (by rw [inl_length, hk]; decide)) .nil))).of ?_
      rw [wordOf, if_pos hp]; rfl
    · have hp : ¬ x > 0 := of_decide_eq_false hb
      have hlt : (-x - 1).toNat < ks.length := by rcases hx with hx | hx <;> omega
      refine (Ev.list (.cons (Ev.itemL (.name rfl) (Ev.bin (Ev.un (.name rfl) .neg) .cint .sub) (by rcases hx with hx | hx <;> omega) (inl_get hlt) (by rw [inl_length, hk]; decide)) (.cons .cint .nil))).of ?_
      rw [wordOf, if_neg hp]; rfl
    · show some (q, OD.list (inl _ ++ inl _)) = _
      rw [take_snoc hi, hxe]
      simp [rowOf, inl]
  · rw [inl_length] at ho
    refine Exs.weaken' (Exs.cons (Ex.freeze (x := "octets") rfl rfl (Ex.ret (d := .bytes (rowOf rs ks)) (Ev.callT (Ev.blt boot_bytes' rfl (by decide)) (.cons (.name rfl) .nil) ?_) rfl))) hl ho
    rw [List.take_length]
    exact CallV.bytes (row_in hb) (by rw [rowOf_length]; omega)

theorem ok_ranks : FnOK (fnI 6) ["row", "kinds"] where
  bind := fun pm cd doc vs h => by
    match vs, h with
    | [v, u], _ => rfl
  nodup := by decide
  kinds := fun L x hx => by
    rcases List.mem_cons.mp hx with rfl | hx
    · exact .inl rfl
    · rw [List.mem_singleton.mp hx]; exact .inl rfl
  cells := fun L n c hm => by cases hm
  co := rfl
  gen := rfl
  kind := rfl
def rankOf (ks : List Int) (word : Int) : Int :=
  if (decide (word < 256) && ks.any (· == word)) = true then ((ks.idxOf word : Nat) : Int) + 1
  else if (!decide (word < 256) && ks.any (· == word.fdiv 256)) = true then -1 - ((ks.idxOf (word.fdiv 256) : Nat) : Int)
  else 99
def wordAt (bs : List Int) (i : Nat) : Int := bs.getD (2 * i) 0 * 256 + bs.getD (2 * i + 1) 0
def readRow (ks bs : List Int) (m : Nat) : List Int := (List.range m).map fun i => rankOf ks (wordAt bs i)
theorem any_mem {ks : List Int} {k : Int} (h : ks.any (· == k) = true) : k ∈ ks := by
  obtain ⟨x, hx, e⟩ := List.any_eq_true.mp h
  rw [← beq_iff_eq.mp e]; exact hx
theorem ranks_spec {w : World} {n : Nat} {bs ks : List Int} (hl : bs.length = 10) (hb : ∀ x ∈ bs, 0 ≤ x ∧ x < 256) (hk : ks.length = 5) : FnSpec w (n + 1) (fnI 6) [.bytes bs, .list (inl ks)] (.list (inl ([0] ++ readRow ks bs 5 ++ [6]))) := FnSpec.of ok_ranks rfl fun L a cd => by
  refine Exs.cons (Ex.assignOwn (EvO.list .nil) (.inl rfl) fun q => ?_)
  refine Exs.cons (Ex.forV (fun i => [("ranks", .val (.ref q)), ("row", .bytes bs), ("kinds", .list (inl ks))]) (fun i => some (q, .list (inl (readRow ks bs i)))) (fun i d => [("k", d)])
    (EvIt.of (Ev.callT (Ev.blt boot_range' rfl (by decide)) (.cons .cint (.cons ((Ev.callB (Ev.blt boot_len' rfl (by decide)) (.cons (.name rfl) .nil) (CallV.lenB (by omega))).of (d' := .int 10) (by rw [hl]; rfl)) (.cons .cint .nil))) (CallV.range3 (by decide) (by decide)))
      (IterD.rng (m := 5) (by decide) (by decide)))
    (fun i d _ => .name (.inl rfl)) (.cons rfl (.cons rfl (.cons rfl .nil))) rfl (fun i d hd => ?_) fun σ' hl ho => ?_)
  · obtain ⟨hi, rfl⟩ := rng_get hd
    have hk0 : (0 + (i : Int) * 2) = ((2 * i : Nat) : Int) := by omega
    rw [hk0]
    have h0 := word_in hb (i := 2 * i)
    have h1 := word_in hb (i := 2 * i + 1)
    refine Exs.cons (Ex.assign (d := .int (wordAt bs i)) ?_ (.inl rfl) ?_)
    · refine (Ev.bin (Ev.bin (Ev.itemB (.name rfl) (.name rfl) (by omega) (by rw [hl]; omega) (by omega)) .cint (Bin.mul (by rw [Int.toNat_natCast]; omega) (by rw [Int.toNat_natCast]; omega))) (Ev.itemB (.name rfl) (Ev.bin (.name rfl) .cint .add) (by omega) (by rw [hl]; omega) (by omega)) .add).of ?_
      rw [Int.toNat_natCast, show (((2 * i : Nat) : Int) + 1).toNat = 2 * i + 1 by omega]; rfl
    refine Exs.cons (Ex.assign (Ev.callF (fn_mem (i := 1) (by decide)) rfl rfl (.cons (.name rfl) .nil) isterminal_spec) (.inl rfl) ?_)
    have hlen : (readRow ks bs i).length = i := by simp [readRow]
    have hnext : ∀ x : Int, x = rankOf ks (wordAt bs i) → inl (readRow ks bs i) ++ [D.int x] = inl (readRow ks bs (i + 1)) := fun x e => by
      rw [e, readRow, readRow, List.range_succ, List.map_append]; simp [inl]
    refine Exs.cons (Ex.if_ (EvT.and2 (EvT.cmp (.name rfl) .cbool .isB) fun _ => EvT.cmp (.name rfl) (.name rfl) .inI) (fun hb1 => ?_) (fun hb1 => ?_))
    · rw [Bool.and_eq_true] at hb1
      have hm := any_mem hb1.2
      refine Exs.cons (Ex.append rfl rfl (Ev.bin (Ev.index (.name rfl) (.name rfl) hm (by omega)) .cint .add) (by rw [inl_length, hlen]; omega) (Exs.nil (Exs.nil ⟨.cons rfl (.cons rfl (.cons rfl .nil)), ?_⟩)))
      show some (q, OD.list _) = _
      rw [hnext _ ?_]
      rw [rankOf, if_pos]
      rw [Bool.and_eq_true]
      exact ⟨by simpa using hb1.1, hb1.2⟩
    · refine Exs.cons (Ex.if_ (EvT.and2 (EvT.cmp (.name rfl) .cbool .isB) fun _ => EvT.cmp (Ev.bin (.name rfl) .cint (Bin.fdiv (by decide) (by decide))) (.name rfl) .inI) (fun hb2 => ?_) (fun hb2 => ?_))
      · rw [Bool.and_eq_true] at hb2
        have hm := any_mem hb2.2
        refine Exs.cons (Ex.append rfl rfl (Ev.bin (Ev.un .cint .neg) (Ev.index (.name rfl) (Ev.bin (.name rfl) .cint (Bin.fdiv (by decide) (by decide))) hm (by omega)) .sub) (by rw [inl_length, hlen]; omega) (Exs.nil (Exs.nil (Exs.nil ⟨.cons rfl (.cons rfl (.cons rfl .nil)), ?_⟩))))
        show some (q, OD.list _) = _
        rw [hnext _ ?_]
        rw [rankOf, if_neg, if_pos]
        · rw [Bool.and_eq_true]
          exact ⟨by simpa using hb2.1, hb2.2⟩
        · intro z
          rw [Bool.and_eq_true] at z
          have z1 := z.1
          have := hb2.1
          rw [z1] at this
          cases this
      · refine Exs.cons (Ex.append rfl rfl .cint (by rw [inl_length, hlen]; omega) (Exs.nil (Exs.nil (Exs.nil ⟨.cons rfl (.cons rfl (.cons rfl .nil)), ?_⟩))))
        show some (q, OD.list _) = _
        rw [hnext _ ?_]
        simp only [beq_true, beq_false] at hb1 hb2
        rw [rankOf, if_neg (by rw [hb1]; decide), if_neg (by rw [hb2]; decide)]
  · rw [List.length_map, List.length_range] at ho
    refine Exs.weaken' (Exs.cons (Ex.freeze (x := "ranks") rfl rfl (Ex.ret (d := .list (inl ([0] ++ readRow ks bs 5 ++ [6]))) ((Ev.bin (Ev.bin (Ev.list (.cons .cint .nil)) (.name rfl) (Bin.addL ?_)) (Ev.list (.cons .cint .nil)) (Bin.addL ?_)).of ?_) rfl))) hl ho
    · simp [inl, readRow]
    · simp [inl, readRow]
    · simp [inl, readRow]
end Mine
end

-- F5
section
namespace Mine
open PySem PySem.W PyProof.Rows

theorem ok_points : FnOK (fnI 9) ["ranks"] where
  bind := fun pm cd doc vs h => by
    match vs, h with
    | [v], _ => rfl
  nodup := by decide
  kinds := fun L x hx => by
    rw [List.mem_singleton.mp hx]; exact .inl rfl
  cells := fun L n c hm => by cases hm
  co := rfl
  gen := rfl
  kind := rfl
def ptOf (x : Int) : List Int := if x > 0 then [2 * x - 1, 2 * x] else [-2 * x, -2 * x - 1]
def pointsOf (rs : List Int) : List Int := [0] ++ ((rs.drop 1).take 5).flatMap ptOf ++ [11]
theorem ptOf_length (x : Int) : (ptOf x).length = 2 := by unfold ptOf; split <;> rfl
theorem flat_length (rs : List Int) : (rs.flatMap ptOf).length = 2 * rs.length := by
  induction rs with
  | nil => rfl
  | cons x rs ih => rw [List.flatMap_cons, List.length_append, ptOf_length, List.length_cons, ih]; omega
theorem inl_slice {rs : List Int} {a b : Nat} : ((inl rs).drop a).take b = inl ((rs.drop a).take b) := by simp [inl, List.map_drop, List.map_take]
theorem points_spec {w : World} {n : Nat} {rs : List Int} (hl : rs.length = 7) : FnSpec w n (fnI 9) [.list (inl rs)] (.list (inl (pointsOf rs))) := FnSpec.of ok_points rfl fun L a cd => by
  refine Exs.cons (Ex.assignOwn (EvO.list (.cons .cint .nil)) (.inl rfl) fun q => ?_)
  refine Exs.cons (Ex.forV (items := inl ((rs.drop 1).take 5)) (fun i => [("points", .val (.ref q)), ("ranks", .list (inl rs))]) (fun i => some (q, .list (inl ([0] ++ (((rs.drop 1).take 5).take i).flatMap ptOf)))) (fun i d => [("x", d)])
    (EvIt.of ((Ev.sliceL (lo := 1) (hi := 6) (.name rfl) .cint .cint (by rw [inl_length, hl]; decide) (by decide) (by rw [inl_length, hl]; decide)).of (by rw [inl_slice])) IterD.list) (fun i d _ => .name (.inl rfl)) (.cons rfl (.cons rfl .nil)) rfl (fun i d hd => ?_) fun σ' hl' ho => ?_)
  · obtain ⟨hi, rfl⟩ := inl_get_some hd
    generalize hxe : ((rs.drop 1).take 5).getD i 0 = x
    have h5 : ((rs.drop 1).take 5).length = 5 := by simp [hl]
    have hl1 := flat_length (((rs.drop 1).take 5).take i)
    have hl2 : (((rs.drop 1).take 5).take i).length ≤ 5 := by rw [List.length_take, h5]; omega
    refine Exs.cons (Ex.iadd (es := inl (ptOf x)) rfl rfl (.inl rfl) (Ev.ifx (EvT.cmp (.name rfl) .cint .gt) (fun hb => ?_) (fun hb => ?_)) (by rw [inl_length, inl_length, ptOf_length, List.length_append, hl1]; simp; omega) (Exs.nil ⟨.cons rfl (.cons rfl .nil), ?_⟩))
    · have hp : x > 0 := of_decide_eq_true hb
      refine (Ev.list (.cons (Ev.bin (Ev.bin .cint (.name rfl) (Bin.mul (by decide) (by decide))) .cint .sub) (.cons (Ev.bin .cint (.name rfl) (Bin.mul (by decide) (by decide))) .nil))).of ?_
      rw [ptOf, if_pos hp]; rfl
    · have hp : ¬ x > 0 := of_decide_eq_false hb
      refine (Ev.list (.cons (Ev.bin (Ev.un .cint .neg) (.name rfl) (Bin.mul (by decide) (by decide))) (.cons (Ev.bin (Ev.bin (Ev.un .cint .neg) (.name rfl) (Bin.mul (by decide) (by decide))) .cint .sub) .nil))).of ?_
      rw [ptOf, if_neg hp]; rfl
    · show some (q, OD.list (inl _ ++ inl _)) = _
      rw [take_snoc hi, hxe]
      simp [inl]
  · have h5 : ((rs.drop 1).take 5).length = 5 := by simp [hl]
    rw [inl_length, List.take_length] at ho
    refine Exs.weaken' (Exs.cons (Ex.freeze (x := "points") rfl rfl (Ex.ret (d := .list (inl (pointsOf rs))) ((Ev.bin (.name rfl) (Ev.list (.cons .cint .nil)) (Bin.addL ?_)).of ?_) rfl))) hl' ho
    · rw [inl_length, List.length_append, flat_length, h5]; decide
    · simp [inl, pointsOf]

theorem ok_ones : FnOK (fnI 10) ["ranks", "low", "high"] where
  bind := fun pm cd doc vs h => by
    match vs, h with
    | [v, u, y], _ => rfl
  nodup := by decide
  kinds := fun L x hx => by
    rcases List.mem_cons.mp hx with rfl | hx
    · exact .inl rfl
    · rcases List.mem_cons.mp hx with rfl | hx
      · exact .inl rfl
      · rw [List.mem_singleton.mp hx]; exact .inl rfl
  cells := fun L n c hm => by
    have hm : (n, c) ∈ [((PySem.Str.ofString "within"), L + 1)] := hm
    rw [List.mem_singleton] at hm
    cases hm; rfl
  co := rfl
  gen := rfl
  kind := rfl
def gatherI (test : Nat → Bool) (f : Nat → Int) : Nat → List Int
  | 0 => []
  | i + 1 => if test i = true then gatherI test f i ++ [f i] else gatherI test f i
theorem gather_gatherI {test : Nat → Bool} {f : Nat → Int} : ∀ m, gather test (fun i => .int (f i)) m = inl (gatherI test f m)
  | 0 => rfl
  | i + 1 => by
    rw [gather, gatherI, gather_gatherI i]
    split <;> simp [inl]
def withinOf (rs : List Int) (low high : Nat) : List Int := ((pointsOf rs).drop (2 * low - 1)).take (2 * high + 1 - (2 * low - 1))
def splitBy (l : List Int) (r : Nat) : Bool := (l.any (· == 2 * (r : Int))) != (l.any (· == 2 * (r : Int) + 1))
def onesOf (rs : List Int) (low high : Nat) : Int := (gatherI (splitBy (withinOf rs low high)) (fun r => 2 ^ r) 6).sum
theorem pointsOf_length {rs : List Int} (hl : rs.length = 7) : (pointsOf rs).length = 12 := by
  rw [pointsOf, List.length_append, List.length_append, flat_length, List.length_take, List.length_drop, hl]; rfl
theorem ones_spec {w : World} {n : Nat} {rs : List Int} {low high : Nat} (hl : rs.length = 7) (h1 : 1 ≤ low) (h2 : low ≤ high) (h3 : high ≤ 5) : FnSpec w (n + 1) (fnI 10) [.list (inl rs), .int low, .int high] (.int (onesOf rs low high)) := FnSpec.of ok_ones rfl fun L a cd => by
  have hp := pointsOf_length hl
  refine Exs.cons (Ex.assign (d := .list (inl (withinOf rs low high))) ((Ev.sliceL (lo := 2 * low - 1) (hi := 2 * high + 1) (Ev.callF (fn_mem (i := 9) (by decide)) rfl rfl (.cons (.name rfl) .nil) (points_spec hl))
    ((Ev.bin (Ev.bin .cint (.name rfl) (Bin.mul (by decide) (by decide))) .cint .sub).of (by congr 1; omega)) ((Ev.bin (Ev.bin .cint (.name rfl) (Bin.mul (by decide) (by decide))) .cint .add).of (by congr 1)) (by rw [inl_length, hp]; decide) (by omega) (by rw [inl_length, hp]; omega)).of (by rw [inl_slice]; rfl)) (.inr ⟨rfl, rfl, rfl⟩) ?_)
  refine Exs.cons (Ex.ret (Ev.callB (Ev.blt boot_sum' rfl (by decide)) (.cons ((Ev.comp (Comp.free (y := "within") (c := L + 1) (e := .list (inl (withinOf rs low high))) (fun i d => [((PySem.Str.ofString "r"), D.int i)]) (splitBy (withinOf rs low high)) (fun i => .int (2 ^ i)) rfl rfl rfl rfl rfl (fun i d _ => rfl)
    (EvIt.of (Ev.callT (Ev.blt boot_range' rfl (by decide)) (.cons .cint .nil) CallV.range1) (iterRange (m := 6) (by decide) (by decide) (by decide) (by decide)))
    (fun C i d hd => ?_) (fun C i d hd => ?_) (fun C i d hd _ => ?_) rfl rfl (by decide) (by decide) (by rw [List.length_map, List.length_range]; decide) (by intro _; rfl))).of (by rw [gather_gatherI])) .nil) CallV.sum) ?_)
  · obtain ⟨hi, rfl⟩ := rng_get hd
    rw [show (0 + (i : Int) * 1) = (i : Int) by omega]
    exact .name (.inl rfl)
  · obtain ⟨hi, rfl⟩ := rng_get hd
    exact Tests.one (EvT.cmp (Ev.cmp (Ev.bin .cint (.name rfl) (Bin.mul (by decide) (by decide))) (.name rfl) .inI) (Ev.cmp (Ev.bin (Ev.bin .cint (.name rfl) (Bin.mul (by decide) (by decide))) .cint .add) (.name rfl) .inI) .neB)
  · obtain ⟨hi, rfl⟩ := rng_get hd
    exact (Ev.bin .cint (.name rfl) (Bin.pow (by omega) (by omega) (by decide))).of (by rw [Int.toNat_natCast])
  · show AF.ret _ = AF.ret _
    rw [List.length_map, List.length_range]; rfl

theorem ok_stretch : FnOK (fnI 8) ["ranks", "r"] where
  bind := fun pm cd doc vs h => by
    match vs, h with
    | [v, u], _ => rfl
  nodup := by decide
  kinds := fun L x hx => by
    rcases List.mem_cons.mp hx with rfl | hx
    · exact .inr ⟨rfl, rfl⟩
    · rw [List.mem_singleton.mp hx]; exact .inl rfl
  cells := fun L n c hm => by
    have hm : (n, c) ∈ [((PySem.Str.ofString "ranks"), L + 1)] := hm
    rw [List.mem_singleton] at hm
    cases hm; rfl
  co := rfl
  gen := rfl
  kind := rfl
def placeOf' (rs : List Int) (x : Int) : Nat := rs.idxOf (if rs.any (· == x) = true then x else -x)
def stretchOf (rs : List Int) (r : Int) : Int × Int :=
  let i := min (placeOf' rs r) (placeOf' rs (r + 1))
  let j := max (placeOf' rs r) (placeOf' rs (r + 1))
  if (rs.getD i 0 + rs.getD j 0 == 1) = true then ((i : Int), (j : Int) - 1) else ((i : Int) + 1, (j : Int))
theorem mem_any {ks : List Int} {k : Int} (h : k ∈ ks) : ks.any (· == k) = true := List.any_eq_true.mpr ⟨k, h, by simp⟩
theorem stretch_spec {w : World} {n : Nat} {rs : List Int} {r : Int} (hl : rs.length = 7) (h1 : r ∈ rs ∨ -r ∈ rs) (h2 : r + 1 ∈ rs ∨ -(r + 1) ∈ rs) : FnSpec w n (fnI 8) [.list (inl rs), .int r] (.tup [.int (stretchOf rs r).1, .int (stretchOf rs r).2]) := FnSpec.of ok_stretch rfl fun L a cd => by
  have place : ∀ x : Int, (x ∈ rs ∨ -x ∈ rs) → (if rs.any (· == x) = true then x else -x) ∈ rs := fun x hx => by
    split
    · rename_i h; exact any_mem h
    · rename_i h
      rcases hx with hx | hx
      · exact absurd (mem_any hx) h
      · exact hx
  have lt : ∀ x : Int, (x ∈ rs ∨ -x ∈ rs) → placeOf' rs x < rs.length := fun x hx => List.idxOf_lt_length_iff.mpr (place x hx)
  have l1 := lt r h1
  have l2 := lt (r + 1) h2
  generalize hp : placeOf' rs r = p at l1
  generalize hq : placeOf' rs (r + 1) = q at l2
  refine Exs.cons (Ex.assignT (d := .list (inl [((min p q : Nat) : Int), ((max p q : Nat) : Int)])) (B := ([] ++ [((PySem.Str.ofString "j"), D.int ((max p q : Nat) : Int))]) ++ [((PySem.Str.ofString "i"), D.int ((min p q : Nat) : Int))])
    (Ev.callB (Ev.blt boot_sorted' rfl (by decide)) (.cons (d := .list (inl [(p : Int), (q : Int)])) (Ev.comp (Comp.free (y := "ranks") (c := L + 1) (e := .list (inl rs)) (items := inl [r, r + 1]) (fun i d => [((PySem.Str.ofString "x"), D.int ([r, r + 1].getD i 0))]) (fun _ => true) (fun i => .int ((placeOf' rs ([r, r + 1].getD i 0) : Nat) : Int))
      rfl rfl rfl rfl rfl (fun i d _ => rfl) (EvIt.of (Ev.list (.cons (.name rfl) (.cons (Ev.bin (.name rfl) .cint .add) .nil))) IterD.list) (fun C i d hd => ?_) (fun C i d hd => .nil) (fun C i d hd _ => ?_) ?_ rfl (by decide) (by decide) sz (by intro _; rfl))) .nil) (CallV.sorted ?_ ?_ (Nat.lt_of_lt_of_le (Nat.lt_succ_self 2) (by decide))))
    (Asg.lst (.cons (.name (.inl rfl)) (.cons (.name (.inl rfl)) .nil))) ?_)
  · obtain ⟨hi, rfl⟩ := inl_get_some hd
    exact .name (.inl rfl)
  · obtain ⟨hi, rfl⟩ := inl_get_some hd
    have hx : [r, r + 1].getD i 0 ∈ rs ∨ -([r, r + 1].getD i 0) ∈ rs := by
      have : i = 0 ∨ i = 1 := by simp at hi; omega
      rcases this with rfl | rfl
      · exact h1
      · exact h2
    generalize [r, r + 1].getD i 0 = x at hx
    refine Ev.index (.name rfl) (k := if rs.any (· == x) = true then x else -x) (Ev.ifx (EvT.cmp (.name rfl) (.name rfl) .inI) (fun hb => ?_) (fun hb => ?_)) (place x hx) (by omega)
    · rw [if_pos hb]; exact .name rfl
    · rw [if_neg (by rw [hb]; decide)]; exact Ev.un (.name rfl) .neg
  · rw [gather_inl]
    show _ = List.map D.int [((placeOf' rs r : Nat) : Int), ((placeOf' rs (r + 1) : Nat) : Int)]
    rw [hp, hq]
  · by_cases h : p ≤ q
    · rw [Nat.min_eq_left h, Nat.max_eq_right h]
    · rw [Nat.min_eq_right (by omega), Nat.max_eq_left (by omega)]; exact List.Perm.swap _ _ _
  · simp; omega
  · have hi : min p q < rs.length := by omega
    have hj : max p q < rs.length := by omega
    refine Exs.cons (Ex.ret (Ev.ifx (b := (rs.getD (min p q) 0 + rs.getD (max p q) 0 == 1)) (EvT.cmp (Ev.bin (Ev.itemL (.name rfl) (.name rfl) (by omega) (by rw [Int.toNat_natCast]; exact inl_get hi) (by rw [inl_length]; omega)) (Ev.itemL (.name rfl) (.name rfl) (by omega) (by rw [Int.toNat_natCast]; exact inl_get hj) (by rw [inl_length]; omega)) .add) .cint .eq) (fun hb => ?_) (fun hb => ?_)) rfl)
    · refine (Ev.tup (.cons (.name rfl) (.cons (Ev.bin (.name rfl) .cint .sub) .nil))).of ?_
      simp only [stretchOf, hp, hq]
      rw [if_pos hb]
    · refine (Ev.tup (.cons (Ev.bin (.name rfl) .cint .add) (.cons (.name rfl) .nil))).of ?_
      simp only [stretchOf, hp, hq]
      rw [if_neg (by rw [hb]; decide)]
end Mine
end

-- F6
section
namespace Mine
open PySem PySem.W PyProof.Rows

theorem ok_table : FnOK (fnI 11) ["ranks"] where
  bind := fun pm cd doc vs h => by
    match vs, h with
    | [v], _ => rfl
  nodup := by decide
  kinds := fun L x hx => by
    rw [List.mem_singleton.mp hx]; exact .inl rfl
  cells := fun L n c hm => by
    have hm : (n, c) ∈ [((PySem.Str.ofString "points"), L + 1)] := hm
    rw [List.mem_singleton] at hm
    cases hm; rfl
  co := rfl
  gen := rfl
  kind := rfl

def loOf (pts : List Int) (r : Nat) : Nat := min (pts.idxOf (2 * (r : Int))) (pts.idxOf (2 * (r : Int) + 1))
def hiOf (pts : List Int) (r : Nat) : Nat := max (pts.idxOf (2 * (r : Int))) (pts.idxOf (2 * (r : Int) + 1))
def crossB (a b c d : Int) : Bool := (decide (a < c) && (decide (c < b) && decide (b < d))) || (decide (c < a) && (decide (a < d) && decide (d < b)))
def addAt (t : List Int) (i : Nat) (x : Int) : List Int := t.set i (t.getD i 0 + x)
def diagT (pts : List Int) (t : List Int) (r : Nat) : List Int := if (((loOf pts r : Nat) : Int) + ((hiOf pts r : Nat) : Int)).fmod 2 == 0 then addAt t r (2 ^ r) else t
def inStep (pts : List Int) (r : Nat) (t : List Int) (q : Nat) : List Int :=
  if crossB (loOf pts r : Nat) (hiOf pts r : Nat) (loOf pts q : Nat) (hiOf pts q : Nat) = true then addAt (addAt t r (2 ^ q)) q (2 ^ r) else t
def inT (pts : List Int) (r : Nat) (t : List Int) : Nat → List Int
  | 0 => t
  | q + 1 => inStep pts r (inT pts r t q) q
def outT (pts : List Int) : Nat → List Int
  | 0 => [0, 0, 0, 0, 0, 0]
  | r + 1 => inT pts r (diagT pts (outT pts r) r) r
theorem addAt_length (t : List Int) (i : Nat) (x : Int) : (addAt t i x).length = t.length := by simp [addAt]
theorem diagT_length (pts t : List Int) (r : Nat) : (diagT pts t r).length = t.length := by unfold diagT; split <;> simp [addAt_length]
theorem inT_length (pts t : List Int) (r : Nat) : ∀ q, (inT pts r t q).length = t.length
  | 0 => rfl
  | q + 1 => by rw [inT, inStep]; split <;> simp [addAt_length, inT_length pts t r q]
theorem outT_length (pts : List Int) : ∀ r, (outT pts r).length = 6
  | 0 => rfl
  | r + 1 => by rw [outT, inT_length, diagT_length, outT_length pts r]
def arcD (pts : List Int) (r : Nat) : D := .list (inl [((loOf pts r : Nat) : Int), ((hiOf pts r : Nat) : Int)])
def range12 : List Int := [0, 1, 2, 3, 4, 5, 6, 7, 8, 9, 10, 11]
theorem cond_beq_zero {x : Int} {b : Bool} : (x == 0) = b → ((x == 0) = true ↔ b = true) := fun h => by rw [h]

theorem table_spec {w : World} {n : Nat} {rs : List Int} (hl : rs.length = 7) (hp : range12.Perm (pointsOf rs)) : FnSpec w (n + 1) (fnI 11) [.list (inl rs)] (.list (inl (outT (pointsOf rs) 6))) := FnSpec.of ok_table rfl fun L a cd => by
  refine Exs.cons (Ex.assign (Ev.callF (fn_mem (i := 9) (by decide)) rfl rfl (.cons (.name rfl) .nil) (points_spec hl)) (.inr ⟨rfl, rfl, rfl⟩) ?_)
  have hlen := pointsOf_length hl
  have mem : ∀ x ∈ range12, x ∈ pointsOf rs := fun x hx => hp.subset hx
  generalize pointsOf rs = pts at hp hlen mem ⊢
  refine Exs.cons (Ex.if_ (b := !decide (range12 = range12)) (EvT.cmp (Ev.callB (Ev.blt boot_sorted' rfl (by decide)) (.cons (.name rfl) .nil) (CallV.sorted hp (by decide) (by rw [hlen]; decide)))
    (Ev.callT (Ev.blt boot_list' rfl (by decide)) (.cons (Ev.callT (Ev.blt boot_range' rfl (by decide)) (.cons .cint .nil) CallV.range1) .nil) (CallV.listRange (m := 12) (by decide))) .neL) (fun hb => ?_) (fun hb => ?_))
  · exact absurd hb (by decide)
  refine Exs.nil ?_
  have idx : ∀ r : Nat, r < 6 → (2 * (r : Int)) ∈ pts ∧ (2 * (r : Int) + 1) ∈ pts := fun r hr => by
    have : r = 0 ∨ r = 1 ∨ r = 2 ∨ r = 3 ∨ r = 4 ∨ r = 5 := by omega
    rcases this with rfl | rfl | rfl | rfl | rfl | rfl <;> exact ⟨mem _ (by decide), mem _ (by decide)⟩
  refine Exs.cons (Ex.assignComp (out := (List.range 6).map (arcD pts)) (Comp.free (y := "points") (c := L + 1) (e := .list (inl pts)) (fun i d => [((PySem.Str.ofString "r"), D.int i)]) (fun _ => true) (fun i => arcD pts i) rfl rfl rfl rfl rfl (fun i d _ => rfl)
    (EvIt.of (Ev.callT (Ev.blt boot_range' rfl (by decide)) (.cons .cint .nil) CallV.range1) (iterRange (m := 6) (by decide) (by decide) (by decide) (by decide)))
    (fun C i d hd => ?_) (fun C i d hd => .nil) (fun C i d hd _ => ?_) (by rw [gather_all, List.length_map, List.length_range]) rfl (by decide) (by decide) (by rw [List.length_map, List.length_range]; decide) (by intro _; rfl)) rfl ?_)
  · obtain ⟨hi, rfl⟩ := rng_get hd
    rw [show (0 + (i : Int) * 1) = (i : Int) by omega]
    exact .name (.inl rfl)
  · obtain ⟨hi, rfl⟩ := rng_get hd
    obtain ⟨m1, m2⟩ := idx i hi
    refine Ev.callB (Ev.blt boot_sorted' rfl (by decide)) (.cons (Ev.list (ds := inl [((pts.idxOf (2 * (i : Int)) : Nat) : Int), ((pts.idxOf (2 * (i : Int) + 1) : Nat) : Int)]) (.cons (Ev.index (.name rfl) (Ev.bin .cint (.name rfl) (Bin.mul (by decide) (by decide))) m1 (by omega)) (.cons (Ev.index (.name rfl) (Ev.bin (Ev.bin .cint (.name rfl) (Bin.mul (by decide) (by decide))) .cint .add) m2 (by omega)) .nil))) .nil)
      (CallV.sorted (ms := [((loOf pts i : Nat) : Int), ((hiOf pts i : Nat) : Int)]) ?_ ?_ (Nat.lt_of_lt_of_le (Nat.lt_succ_self 2) (by decide)))
    · unfold loOf hiOf
      generalize pts.idxOf (2 * (i : Int)) = p
      generalize pts.idxOf (2 * (i : Int) + 1) = q
      by_cases h : p ≤ q
      · rw [Nat.min_eq_left h, Nat.max_eq_right h]
      · rw [Nat.min_eq_right (by omega), Nat.max_eq_left (by omega)]; exact List.Perm.swap _ _ _
    · unfold loOf hiOf
      simp; omega
  have arcs_get : ∀ r : Nat, r < 6 → ((List.range 6).map (arcD pts))[(r : Int).toNat]? = some (arcD pts r) := fun r hr => by
    rw [Int.toNat_natCast, List.getElem?_map, List.getElem?_range hr]; rfl
  refine Exs.cons (Ex.assignOwn (EvO.mul (Ev.list (.cons .cint .nil)) .cint (by decide) (by decide)) (.inl rfl) fun q => ?_)
  refine Exs.cons (Ex.forV (fun i => [("table", .val (.ref q)), ("arcs", .list ((List.range 6).map (arcD pts)))]) (fun i => some (q, .list (inl (outT pts i)))) (fun i d => [("r", d)])
    (EvIt.of (Ev.callT (Ev.blt boot_range' rfl (by decide)) (.cons .cint .nil) CallV.range1) (iterRange (m := 6) (by decide) (by decide) (by decide) (by decide)))
    (fun i d _ => .name (.inl rfl)) (.cons rfl (.cons rfl .nil)) rfl (fun r d hd => ?_) fun σ' hl' ho => ?_)
  · obtain ⟨hr, rfl⟩ := rng_get hd
    rw [show (0 + (r : Int) * 1) = (r : Int) by omega]
    have hto := outT_length pts r
    refine Exs.cons (Ex.assignT (B := ([] ++ [((PySem.Str.ofString "b"), D.int ((hiOf pts r : Nat) : Int))]) ++ [((PySem.Str.ofString "a"), D.int ((loOf pts r : Nat) : Int))]) (Ev.itemL (.name rfl) (.name rfl) (by omega) (arcs_get r hr) (by rw [List.length_map, List.length_range]; decide))
      (Asg.lst (.cons (.name (.inl rfl)) (.cons (.name (.inl rfl)) .nil))) ?_)
    refine Exs.cons (Ex.mono (Q := fun af σ' => af = .next ∧ Le [((PySem.Str.ofString "b"), D.int ((hiOf pts r : Nat) : Int)), ((PySem.Str.ofString "a"), D.int ((loOf pts r : Nat) : Int)), ("r", .int r), ("table", .val (.ref q)), ("arcs", .list ((List.range 6).map (arcD pts)))] σ'.vs ∧ σ'.own = some (q, .list (inl (diagT pts (outT pts r) r))))
      (Ex.if_ (EvT.cmp (Ev.bin (Ev.bin (.name rfl) (.name rfl) .add) .cint (Bin.fmod (by decide))) .cint .eq) (fun hb => ?_) (fun hb => ?_)) ?_)
    · refine Exs.cons (Ex.iaddItem (k := (r : Int)) (y := (outT pts r).getD r 0) (z := 2 ^ r) rfl rfl (.name rfl) (by omega) (by rw [Int.toNat_natCast]; exact inl_get (by omega)) ((Ev.bin .cint (.name rfl) (Bin.pow (by omega) (by omega) (by decide))).of (by rw [Int.toNat_natCast])) (by rw [inl_length, hto]; decide)
        (Exs.nil ⟨rfl, .cons rfl (.cons rfl (.cons rfl (.cons rfl (.cons rfl .nil)))), ?_⟩))
      show some (q, OD.list _) = _
      rw [Int.toNat_natCast, inl_set, diagT, if_pos hb]; rfl
    · refine Exs.nil ⟨rfl, .cons rfl (.cons rfl (.cons rfl (.cons rfl (.cons rfl .nil)))), ?_⟩
      show some (q, OD.list _) = _
      rw [diagT, if_neg (by rw [hb]; decide)]
    rintro af σ1 ⟨rfl, hle, ho1⟩
    refine Exs.weaken' ?_ hle ho1
    have htd : (diagT pts (outT pts r) r).length = 6 := by rw [diagT_length, hto]
    generalize ht : diagT pts (outT pts r) r = t at htd
    have hout : outT pts (r + 1) = inT pts r t r := by rw [← ht]; rfl
    refine Exs.cons (Ex.forV (fun k => [((PySem.Str.ofString "b"), D.int ((hiOf pts r : Nat) : Int)), ((PySem.Str.ofString "a"), D.int ((loOf pts r : Nat) : Int)), ("r", .int r), ("table", .val (.ref q)), ("arcs", .list ((List.range 6).map (arcD pts)))]) (fun k => some (q, .list (inl (inT pts r t k)))) (fun k d => [("q", d)])
      (EvIt.of (Ev.callT (Ev.blt boot_range' rfl (by decide)) (.cons (.name rfl) .nil) CallV.range1) (iterRange (m := r) (by decide) (by decide) (by omega) (by omega)))
      (fun i d _ => .name (.inl rfl)) (.cons rfl (.cons rfl (.cons rfl (.cons rfl (.cons rfl .nil))))) rfl (fun k d hd => ?_) fun σ' hl' ho => ?_)
    · obtain ⟨hk, rfl⟩ := rng_get hd
      rw [show (0 + (k : Int) * 1) = (k : Int) by omega]
      have hti := inT_length pts t r k
      rw [htd] at hti
      have hin : inT pts r t (k + 1) = inStep pts r (inT pts r t k) k := rfl
      rw [hin]
      generalize inT pts r t k = u at hti
      refine Exs.cons (Ex.assignT (B := ([] ++ [((PySem.Str.ofString "d"), D.int ((hiOf pts k : Nat) : Int))]) ++ [((PySem.Str.ofString "c"), D.int ((loOf pts k : Nat) : Int))]) (Ev.itemL (.name rfl) (.name rfl) (by omega) (arcs_get k (by omega)) (by rw [List.length_map, List.length_range]; decide))
        (Asg.lst (.cons (.name (.inl rfl)) (.cons (.name (.inl rfl)) .nil))) ?_)
      refine Exs.cons (Ex.if_ (EvT.or2 (EvT.chain3 (.name rfl) (.name rfl) (.name rfl) (.name rfl) .lt .lt .lt) fun _ => EvT.chain3 (.name rfl) (.name rfl) (.name rfl) (.name rfl) .lt .lt .lt) (fun hb => ?_) (fun hb => ?_))
      · refine Exs.cons (Ex.iaddItem (k := (r : Int)) (y := u.getD r 0) (z := 2 ^ k) rfl rfl (.name rfl) (by omega) (by rw [Int.toNat_natCast]; exact inl_get (by omega)) ((Ev.bin .cint (.name rfl) (Bin.pow (by omega) (by omega) (by decide))).of (by rw [Int.toNat_natCast])) (by rw [inl_length, hti]; decide) ?_)
        rw [Int.toNat_natCast, inl_set]
        have hta := addAt_length u r (2 ^ k)
        rw [hti] at hta
        show Exs w (n + 1) _ ⟨_, some (q, OD.list (inl (addAt u r (2 ^ k))))⟩ _ _
        refine Exs.cons (Ex.iaddItem (k := (k : Int)) (y := (addAt u r (2 ^ k)).getD k 0) (z := 2 ^ r) rfl rfl (.name rfl) (by omega) (by rw [Int.toNat_natCast]; exact inl_get (by omega)) ((Ev.bin .cint (.name rfl) (Bin.pow (by omega) (by omega) (by decide))).of (by rw [Int.toNat_natCast])) (by rw [inl_length, hta]; decide)
          (Exs.nil (Exs.nil ⟨.cons rfl (.cons rfl (.cons rfl (.cons rfl (.cons rfl .nil)))), ?_⟩)))
        show some (q, OD.list _) = _
        rw [Int.toNat_natCast, inl_set, inStep, if_pos (by exact hb)]; rfl
      · refine Exs.nil (Exs.nil ⟨.cons rfl (.cons rfl (.cons rfl (.cons rfl (.cons rfl .nil)))), ?_⟩)
        show some (q, OD.list _) = _
        rw [inStep, if_neg (by unfold crossB; rw [hb]; decide)]
    · rw [List.length_map, List.length_range] at ho
      refine Exs.nil ⟨fun x d h => hl' x d (Le.cons rfl (.cons rfl .nil) x d h), ?_⟩
      rw [ho, hout]
  · rw [List.length_map, List.length_range] at ho
    exact Exs.weaken' (Exs.cons (Ex.freeze (x := "table") rfl rfl (Ex.ret (d := .list (inl (outT pts 6))) (.name rfl) rfl))) hl' ho
end Mine
end

-- C1
section
namespace Mine
open PySem PySem.W PyProof.Rows
open Sem (wp)

/-- a code that is no decoder -/
def calm : Code → Bool
  | .builtin id _ => !Builtin.Bytes.decodersThatHold.contains id
  | _ => true
def Calm (l : List (Code × Pos)) : Prop := ∀ x ∈ l, calm x.1 = true
theorem Calm.cons {c : Code} {p : Pos} {l : List (Code × Pos)} (h : calm c = true) (q : Calm l) : Calm ((c, p) :: l) := fun x hx => by
  rcases List.mem_cons.mp hx with rfl | hx
  · exact h
  · exact q x hx

def wpC {α : Type} (M : Model) (A : Around) (t : Sem α) (Q : α → Shared → Prop) (E : Value → Shared → Prop) (s : Shared) : Prop :=
  ∀ Γ p, Γ.In A → calm Γ.code = true → Calm Γ.below → wp M Γ t (fun a _ s' => Q a s') (fun e _ s' => E e s') p s
def codeC (M : Model) (A : Around) (c : Code) (R : Result → Shared → Prop) (s : Shared) : Prop :=
  ∀ Γ p, Γ.code = c → Γ.Below A → Calm Γ.below → wpCode M Γ R p s

section
variable {α β : Type} {M : Model} {A : Around} {E : Value → Shared → Prop} {s : Shared}
theorem wpC.of {t : Sem α} {Q : α → Shared → Prop} (h : wpAny M A t Q E s) : wpC M A t Q E s := fun Γ p hΓ _ _ => h Γ p hΓ
theorem codeC.of {c : Code} {R : Result → Shared → Prop} (h : codeAny M A c R s) : codeC M A c R s := fun Γ p hc hΓ _ => h Γ p hc hΓ
theorem wpC.pure {a : α} {Q : α → Shared → Prop} (h : Q a s) : wpC M A (Pure.pure a) Q E s := .of (wpAny_pure h)
theorem wpC.mono {t : Sem α} {Q Q' : α → Shared → Prop} {E' : Value → Shared → Prop} (h : wpC M A t Q E s) (hQ : ∀ a s, Q a s → Q' a s) (hE : ∀ e s, E e s → E' e s) : wpC M A t Q' E' s :=
  fun Γ p hΓ h1 h2 => Sem.wp_mono M Γ t (fun a _ s => hQ a s) (fun e _ s => hE e s) p s (h Γ p hΓ h1 h2)
theorem goC {t : Sem α} {Q Q' : α → Shared → Prop} (h : wpC M A t Q No s) (hQ : ∀ a s, Q a s → Q' a s) : wpC M A t Q' E s := h.mono hQ fun _ _ x => x.elim
theorem wpC.bind {m : Sem α} {f : α → Sem β} {Q : β → Shared → Prop} (h : wpC M A m (fun a s' => wpC M A (f a) Q E s') E s) : wpC M A (m >>= f) Q E s := fun Γ p hΓ h1 h2 => by
  rw [Sem.wp_bind']
  exact Sem.wp_mono M Γ m (fun a p' s' h' => h' Γ p' hΓ h1 h2) (fun _ _ _ h' => h') p s (h Γ p hΓ h1 h2)
/-- a step that every context allows, and then the rest -/
theorem wpC.first {m : Sem α} {f : α → Sem β} {Q : β → Shared → Prop} (h : wpAny M A m (fun a s' => wpC M A (f a) Q E s') E s) : wpC M A (m >>= f) Q E s := .bind (.of h)
theorem wpC.holding {vs : List Value} {m : Sem α} {Q : α → Shared → Prop} (h : wpC M A m Q E s) : wpC M A (PySem.holding vs m) Q E s := fun Γ p hΓ h1 h2 => by rw [Sem.wp_holding]; exact h Γ p hΓ h1 h2
theorem wpC.keep {vs : List Value} {m : Sem α} {Q : α → Shared → Prop} (h : wpC M A m Q E s) : wpC M A (m.keep vs) Q E s := fun Γ p hΓ h1 h2 => by rw [Sem.wp_keep]; exact h Γ p hΓ h1 h2
theorem wpC.onRaise {m : Sem α} {k : Value → Sem Unit} {Q : α → Shared → Prop} (h : wpC M A m Q No s) : wpC M A (m.onRaise k) Q E s := fun Γ p hΓ h1 h2 => by
  rw [Sem.wp_onRaise]
  exact Sem.wp_mono M Γ m (fun _ _ _ h' => h') (fun e p' s' h' => h'.elim) p s (h Γ p hΓ h1 h2)
theorem wpC.run {c : Code} {h : Option Value} {Q : Flow → Shared → Prop} (hc : codeC M (A.mark h) c (fun r s' => match r with | .ok f => Q f s' | .error e => E e s') s) (hnb : h ≠ some byPass := by intro x; cases x) : wpC M A (PySem.run c h) Q E s :=
  fun Γ p hΓ h1 h2 => by rw [Sem.wp_run]; exact hc _ p rfl (hΓ.enter c h p hnb) (h2.cons h1)
theorem wpC.runValue {c : Code} {Q : Value → Shared → Prop} (hc : codeC M A c (fun r s' => match r with | .ok (.ret v) => Q v s' | .ok _ => False | .error e => E e s') s) : wpC M A (PySem.runValue c) Q E s :=
  fun Γ p hΓ h1 h2 => by rw [Sem.wp_runValue]; exact hc _ p rfl (hΓ.enter c Option.none p (by intro x; cases x)) (h2.cons h1)
theorem wpC.call {f : Value} {pos : List Value} {kw : List (Str × Value)} {Q : Value → Shared → Prop} (hc : codeC M A (.call f ⟨pos, kw⟩) (fun r s' => match r with | .ok (.ret v) => Q v s' | .ok _ => False | .error e => E e s') s) : wpC M A (PySem.call f pos kw) Q E s := .runValue hc
theorem codeC.mono {c : Code} {R R' : Result → Shared → Prop} (h : codeC M A c R s) (hR : ∀ r s, R r s → R' r s) : codeC M A c R' s := fun Γ p hc hΓ h2 => wpCode_mono hR (h Γ p hc hΓ h2)
theorem codeC.tree {c : Code} {R : Result → Shared → Prop} (hk : calm c = true)
    (h : wpC M (A.under c) (M.den c) (fun fin s' => match fin with | .done f => R (.ok f) s' | .again c' => c'.quiet = true ∧ codeC M A c' R s') (fun e s' => R (.error e) s') s) : codeC M A c R s := fun Γ p hc hΓ h2 => by
  rw [wpCode_iff_wp, hc]
  refine Sem.wp_mono M Γ _ (fun fin p' s' h' => ?_) (fun _ _ _ h' => h') p s (h Γ p (hc ▸ hΓ.in) (hc ▸ hk) h2)
  cases fin with
  | done f => exact h'
  | again c' => exact ⟨h'.1, h'.2 (Γ.goto c') p' rfl (hΓ.goto c') h2⟩
theorem codeC.loop {c : Code} {R : Result → Shared → Prop} (hk : calm c = true) (hq : c.quiet = true) (I : Nat → Shared → Prop)
    (turn : ∀ n s, I n s → wpC M (A.under c) (M.den c) (fun fin s' => match fin with | .done f => R (.ok f) s' | .again c' => (c' = c ∧ ∃ m, m < n ∧ I m s') ∨ (c'.quiet = true ∧ codeC M A c' R s')) (fun e s' => R (.error e) s') s)
    (n : Nat) (h : I n s) : codeC M A c R s := by
  induction n using Nat.strongRecOn generalizing s with
  | ind n ih =>
    refine codeC.tree hk ((turn n s h).mono (fun fin s' hf => ?_) fun _ _ h' => h')
    cases fin with
    | done f => exact hf
    | again c' =>
      rcases hf with ⟨rfl, m, hm, hI⟩ | hf
      · exact ⟨hq, ih m hm hI⟩
      · exact hf
/-- the stack, and what it holds -/
theorem wpC.stack {Q : List (Code × Pos) → Shared → Prop} (h : ∀ st, Calm st → (∀ g, A.guards = some g → guardsOf st = g) → Q st s) : wpC M A PySem.stack Q E s := fun Γ p hΓ h1 h2 => by
  show Q ((Γ.code, p) :: Γ.below) s
  exact h _ (h2.cons h1) fun g hg => by rw [guardsOf_cons]; exact hΓ.2.2.2.1 g hg
end
end Mine
end

-- C2
section
namespace Mine
open PySem PySem.W PyProof.Rows

section
variable {w : World} {A : Around} {E : Value → Shared → Prop} {s : Shared} {R : Result → Shared → Prop}
theorem codeC.func {body : List Stmt} {env : Env} (h : wpC (model pr w) (A.deeper env) (execs body env) (fun f s' => R (.ok (.ret (match f with | .ret v => v | _ => .none))) s') No s) : codeC (model pr w) A (.func body env) R s := by
  refine codeC.tree rfl ?_
  show wpC _ (A.deeper env) (do point; match ← (execs body env).onRaise (leaving env) with | .ret v => ret v | _ => ret .none) _ _ s
  refine wpC.first (wpAny_point (wpC.bind (wpC.onRaise (goC h fun f s' h' => ?_))))
  cases f <;> exact wpC.pure h'
theorem codeC.fn {name : Str} {params : Arguments} {body : List Stmt} {scope : Scope} {pm cd doc : Value} {a : Addr} {o : Obj} {args : List Value} {binds : List (Str × Value)}
    (hroom : A.depth < recursionLimit) (ho : s.heap.get? a = some o) (hdata : o.data = .func (Calls.docDef name params body scope pm cd doc)) (hlim : s.heap.NoLimit) (hcd : s.heap.CodeRec cd name)
    (hbind : bindArgs (Calls.docDef name params body scope pm cd doc) ⟨args, []⟩ = pure binds)
    (hkind : ∀ x ∈ binds, scope.names.lookup x.1 = some .local ∨ (scope.names.lookup x.1 = some .cell ∧ ((cellsFrom (s.heap.objs.size + 1) scope.names []).lookup x.1).isSome = true))
    (h : ∀ h₁ tk, Fr s.heap s.heap.objs.size h₁ (bindL (envOfC name scope s.heap.objs.size a cd).kindOf binds fun _ => Option.none) →
      Cl s.heap.objs.size (cellsFrom (s.heap.objs.size + 1) scope.names []) h₁ (bindC (envOfC name scope s.heap.objs.size a cd).kindOf binds fun _ => Option.none) →
      wpC (model pr w) (A.deeper (envOfC name scope s.heap.objs.size a cd)) (execs body (envOfC name scope s.heap.objs.size a cd))
        (fun f s' => R (.ok (.ret (match f with | .ret v => v | _ => .none))) s') No { s with heap := h₁, toks := tk })
    (hco : scope.isCoroutine = false) (hgen : scope.isGenerator = false) (hk : scope.kind = .function) : codeC (model pr w) A (.call (.ref a) ⟨args, []⟩) R s := by
  refine codeC.tree rfl ?_
  show wpC _ A.in1 (callAny (.ref a) ⟨args, []⟩) _ _ s
  simp only [callAny]
  refine wpC.first (wpAny_load ho ?_)
  have hcd' : s.heap.CodeRec (Calls.docDef name params body scope pm cd doc).code (Calls.docDef name params body scope pm cd doc).qualname := hcd
  obtain ⟨c, oc, vs, tq, hc, hoc, hdc, hq⟩ := hcd'
  have hc' : cd = .ref c := hc
  subst hc'
  have e1 : (Calls.docDef name params body scope pm (.ref c) doc).scope.isCoroutine = false := hco
  have e2 : (Calls.docDef name params body scope pm (.ref c) doc).scope.isGenerator = false := hgen
  have e3 : (Calls.docDef name params body scope pm (.ref c) doc).body = .stmts body := rfl
  simp only [hdata, callFunction, e1, e2, e3]
  refine wpC.first (m := field (.ref c) 1) (wpAny_field hoc hdc hq (wpC.first (wpAny_pure ?_)))
  rw [hbind]
  refine wpC.first (wpAny_pure (wpC.first ?_))
  refine wpAny_newFunctionEnv_cells hk hkind fun env he s' x => ?_
  subst he
  refine wpC.first (wpAny_enterFrame (hlim.keeps x.toInCall.keep) hroom (wpC.pure ⟨rfl, codeC.func ?_⟩))
  obtain ⟨h₁, tk, rfl, _⟩ := x.done
  exact h h₁ tk ⟨x.toInCall.ns, x.toInCall.keep, x.toInCall.fresh⟩ ⟨x.cell, x.apart, x.above⟩
end

structure GAC (n : Nat) (A : Around) : Prop where
  ga : GA n A
  guards : A.guards = some []

section
variable (w : World)
def EvC (n : Nat) (env : Env) (ρ : Vars) (e : Expr) (d : D) : Prop := ∀ A s g, GAC n A → Sit env g s.heap ρ → wpC (model pr w) A (eval e env) (Out g s d) No s
def EvsC (n : Nat) (env : Env) (ρ : Vars) (es : List Expr) (ds : List D) : Prop :=
  ∀ A s g pos, GAC n A → Sit env g s.heap ρ → wpC (model pr w) A (spliced (backTo pos (starEach es env))) (fun vs s' => ∃ g', Ext g s g' s' ∧ Reps g' vs ds) No s
def ExC (n : Nat) (env : Env) (σ : AS) (st : Stmt) (Q : AF → AS → Prop) : Prop := ∀ A s g p, GAC n A → Hold env σ g p s.heap → wpC (model pr w) A (exec st env) (OutS env g p s Q) No s
def ExsC (n : Nat) (env : Env) (σ : AS) (sts : List Stmt) (Q : AF → AS → Prop) : Prop := ∀ A s g p, GAC n A → Hold env σ g p s.heap → wpC (model pr w) A (execs sts env) (OutS env g p s Q) No s
def FnSpecC (n : Nat) (f : Fn) (ds : List D) (d : D) : Prop :=
  ∀ A s g a o pm code doc vs, GAC (n + 1) A → TopG g → Sub g s.heap.get? → s.heap.get? a = some o → o.data = .func (Calls.docDef f.name f.params f.body f.scope pm code doc) → s.heap.CodeRec code f.name → s.heap.NoLimit → Reps g vs ds →
    wpC (model pr w) A (call (.ref a) vs) (Out g s d) No s
end

section
variable {w : World} {n : Nat} {env : Env} {ρ : Vars} {σ : AS} {Q : AF → AS → Prop}
theorem EvC.of {e : Expr} {d : D} (h : Ev w n env ρ e d) : EvC w n env ρ e d := fun A s g ga S => .of (h A s g ga.ga S)
theorem EvsC.of {es : List Expr} {ds : List D} (h : Evs w n env ρ es ds) : EvsC w n env ρ es ds := fun A s g pos ga S => .of (h A s g pos ga.ga S)
theorem ExC.of {st : Stmt} (h : Ex w n env σ st Q) : ExC w n env σ st Q := fun A s g p ga H => .of (h A s g p ga.ga H)
theorem ExsC.of {sts : List Stmt} (h : Exs w n env σ sts Q) : ExsC w n env σ sts Q := fun A s g p ga H => .of (h A s g p ga.ga H)
theorem FnSpecC.of {f : Fn} {ds : List D} {d : D} (h : FnSpec w n f ds d) : FnSpecC w n f ds d := fun A s g a o pm code doc vs ga => fun h1 h2 h3 h4 h5 h6 h7 => .of (h A s g a o pm code doc vs ga.ga h1 h2 h3 h4 h5 h6 h7)

theorem ExsC.nil (h : Q .next σ) : ExsC w n env σ [] Q := .of (Exs.nil h)
theorem ExsC.cons {st : Stmt} {rest : List Stmt} (h : ExC w n env σ st fun af σ' => match af with | .next => ExsC w n env σ' rest Q | .ret d => Q (.ret d) σ') : ExsC w n env σ (st :: rest) Q := fun A s g p ga H => by
  rw [execs_cons]
  refine wpC.bind (goC (h A s g p ga H) fun f s1 ⟨g1, p1, af, σ1, sm, mv, H1, fo, q⟩ => ?_)
  cases af with
  | next =>
    cases fo
    exact goC (q A s1 g1 p1 ga H1) fun f' s2 o => OutS.of mv sm o
  | ret d =>
    obtain ⟨v, rfl, r⟩ := fo
    exact wpC.pure ⟨g1, p1, .ret d, σ1, sm, mv, H1, ⟨v, rfl, r⟩, q⟩
/-- a statement for every context, and then the rest -/
theorem ExsC.also {st : Stmt} {rest : List Stmt} (h : Ex w n env σ st fun af σ' => match af with | .next => ExsC w n env σ' rest Q | .ret d => Q (.ret d) σ') : ExsC w n env σ (st :: rest) Q := .cons (.of h)
theorem wpC.bindName {A : Around} {E : Value → Shared → Prop} {s : Shared} {x : Str} {v : Value} {K : Unit → Shared → Prop} (h : wpAny (model pr w) A (storeName env x v) K E s) : wpAny (model pr w) A (PySem.bindName env x v) K E s := fun Γ p hΓ => by
  rw [Sem.wp_bindName]; exact h Γ p hΓ
theorem ExC.assign {x : Str} {px pos : Pos} {value : Expr} {d : D} (hv : EvC w n env σ.vs value d) (hx : Storable env x) (h : Q .next ⟨(x, d) :: σ.vs, σ.own⟩)
    (hs : swapsWith value (some (.Name x px)) pos.line env = pure false := by rfl) : ExC w n env σ (.Assign [.Name x px] value pos) Q := fun A s g p ga H => by
  rw [exec_Assign_Name env x px value pos hs]
  refine wpC.first (wpAny_standAt (wpC.bind (goC (hv A s g ga H.sit) fun v s1 ⟨g1, X1, r1⟩ => ?_)))
  obtain ⟨p1, H1, m1, _⟩ := H.ext X1
  refine wpC.first (wpAny_standAt (wpC.first (wpC.bindName (H1.store hx r1 fun h' t H2 => ?_))))
  exact wpC.pure ⟨g1, p1, .next, _, same_trans X1.same ⟨_, _, rfl⟩, m1, H2, rfl, h⟩
theorem wpC.operate {A : Around} {E : Value → Shared → Prop} {s : Shared} {vs : List Value} {m : Sem Value} {K : Value → Shared → Prop} (h : wpAny (model pr w) A m K E s) : wpAny (model pr w) A (PySem.operate vs m) K E s := fun Γ p hΓ => by
  rw [Sem.wp_operate]; exact h Γ p hΓ
theorem EvC.bin {l r : Expr} {op : Operator} {pos : Pos} {a b d : D} (hl : EvC w n env ρ l a) (hr : Ev w n env ρ r b) (hb : Bin w op a b d) : EvC w n env ρ (.BinOp l op r pos) d := fun A s g ga S => by
  rw [eval_BinOp]
  refine wpC.bind (goC (hl A s g ga S) fun u s1 ⟨g1, X1, r1⟩ => ?_)
  refine wpC.first (wpAny_holding (go (hr A s1 g1 ga.ga (S.ext X1)) fun v s2 ⟨g2, X2, r2⟩ => ?_))
  refine wpC.first (wpAny_standAt (wpC.of (wpC.operate ?_)))
  exact go (hb n A s2 g2 u v ga.ga X2.inn (r1.mono X2.sub) r2) fun y s3 o => .trans (X1.trans X2) o
theorem EvsC.cons {e : Expr} {es : List Expr} {d : D} {ds : List D} (h : EvC w n env ρ e d) (hs : EvsC w n env ρ es ds) (hq : starEach (e :: es) env = (false, eval e env) :: starEach es env := by rfl) : EvsC w n env ρ (e :: es) (d :: ds) := fun A s g pos ga S => by
  show wpC _ A (spliced (backTo pos (starEach (e :: es) env))) _ _ s
  rw [hq]
  show wpC _ A (spliced ((false, eval e env) :: backTo pos (starEach es env))) _ _ s
  rw [spliced]
  refine wpC.bind (goC (h A s g ga S) fun v s1 ⟨g1, X1, r1⟩ => ?_)
  simp only [Bool.false_eq_true, if_false]
  refine wpC.first (wpAny_pure (wpC.bind (wpC.holding (goC (hs A s1 g1 pos ga (S.ext X1)) fun vs s2 ⟨g2, X2, r2⟩ => ?_))))
  exact wpC.pure ⟨g2, X1.trans X2, .cons (r1.mono X2.sub) r2⟩
theorem EvC.callF {f : Fn} {x : Str} {p pos : Pos} {e : Expr} {es : List Expr} {ds : List D} {d : D} (hf : f ∈ theFns) (hx : f.name = x) (hk : env.kindOf x = some .globalImplicit) (ha : EvsC w (n + 1) env ρ (e :: es) ds) (hc : FnSpecC w n f ds d)
    (hd : (x == ("__debug__" : Str)) = false := by decide) (hq : starEach (e :: es) env = (false, eval e env) :: starEach es env := by rfl) : EvC w (n + 1) env ρ (.Call (.Name x p) (e :: es) [] pos) d := fun A s g ga S => by
  obtain ⟨h0, k0, T⟩ := S.top
  obtain ⟨mg, mb, ng, nb, hb, hfn, _, _⟩ := T.ex
  obtain ⟨a, o, pm, code, doc, h1, h2, h3, h4⟩ := hfn f hf
  rw [hx] at h1
  show wpC _ A (do callWith pos (← eval (.Name x p) env) [] (backTo pos (starEach (e :: es) env)) (backToKw pos (keywordEach [] env))) _ _ s
  refine wpC.first (Calls.Name_function_global S.kind hk (Calls.loadGlobal_global (by rw [S.glob]; exact ng.keeps (k0.trans S.keep)) h1 ?_) hd)
  have H := ha A s g pos ga S
  rw [hq] at H ⊢
  show wpC _ A (callWith pos (.ref a) [] (backTo pos ((false, eval e env) :: starEach es env)) []) _ _ s
  unfold callWith
  refine wpC.bind (wpC.holding ?_)
  unfold evalArgs
  show wpC _ A (spliced (backTo pos ((false, eval e env) :: starEach es env)) >>= _) _ _ s
  refine wpC.bind (goC H fun vs s2 ⟨g2, X2, r2⟩ => ?_)
  refine wpC.holding (wpC.first (wpAny_pure (wpC.first (wpAny_pure (wpC.pure ?_)))))
  refine wpC.first (wpAny_standAt ?_)
  have kk : Sub h0.get? s2.heap.get? := (k0.trans X2.sub).trans X2.inn
  have main : wpC (model pr w) A (call (.ref a) vs) (Out g s d) No s2 :=
    goC (hc A s2 g2 a o pm code doc vs ga (TopG.mono S.top X2.sub) X2.inn (kk _ _ h2) h3 (h4.keeps kk) (T.nolimit.keeps kk) r2) fun v s3 o => .trans X2 o
  cases hs : (backTo pos ((false, eval e env) :: starEach es env)).any (·.1) <;> simp only [List.any_nil, Bool.or_false] <;>
    refine wpC.bind (m := keeperOf (.ref a)) ?_ <;> unfold keeperOf <;>
    refine wpC.first (wpAny_load (kk _ _ h2) ?_) <;> rw [h3] <;> refine wpC.pure ?_
  · have tail : ∀ t : Sem Value, wpC (model pr w) A t (Out g s d) No s2 → wpC (model pr w) A (t >>= fun r => holding [r] point >>= fun _ => pure r) (Out g s d) No s2 :=
      fun t ht => wpC.bind (goC ht fun r s₂ hr => wpC.first (wpAny_holding (wpAny_point (wpC.pure hr))))
    dsimp only
    split
    · exact tail _ main
    · exact tail _ (wpC.keep main)
  · have tail : ∀ t : Sem Value, wpC (model pr w) A t (Out g s d) No s2 → wpC (model pr w) A (t >>= fun r => holding [r] point >>= fun _ => pure r) (Out g s d) No s2 :=
      fun t ht => wpC.bind (goC ht fun r s₂ hr => wpC.first (wpAny_holding (wpAny_point (wpC.pure hr))))
    exact tail _ (wpC.keep main)
theorem FnSpecC.made {f : Fn} {xs : List Str} {ds : List D} {d : D} (ok : FnOK f xs) (hlen : ds.length = xs.length)
    (hb : ∀ L a cd, ExsC w n (envOfC f.name f.scope L a cd) ⟨xs.zip ds, Option.none⟩ f.body fun af _ => af = .ret d) : FnSpecC w n f ds d := by
  intro A s g a o pm code doc vs gac top kg ho hdat hcd hlim hr
  have ga := gac.ga
  have hvl : vs.length = xs.length := hr.length.trans hlen
  have hroom : A.depth < recursionLimit := by have := ga.depth; have : recursionLimit = 1000 := rfl; omega
  have hmap : (xs.zip vs).map (·.1) = xs := by rw [List.map_fst_zip]; omega
  refine wpC.call (codeC.fn hroom ho hdat hlim hcd (ok.bind pm code doc vs hvl) (fun x hx => ok.kinds _ x.1 (by rw [← hmap]; exact List.mem_map_of_mem hx)) (fun h₁ tk F X => ?_) ok.co ok.gen ok.kind)
  have H : Hold (envOfC f.name f.scope s.heap.objs.size a code) ⟨xs.zip ds, Option.none⟩ g s.heap.get? h₁ := by
    refine ⟨⟨top, kg.trans F.keep, ok.kind, rfl, rfl, _, F.ns, fun x d' e => ?_⟩, kg, F.keep, fresh_size (Nat.le_refl _), fun m c hm => ?_, X.apart, fun _ _ e => by cases e⟩
    · obtain ⟨v, h1, h2⟩ := zip_rep hr e
      refine ⟨v, h2, ?_⟩
      have hx : x ∈ xs := by rw [← hmap]; exact List.mem_map_of_mem (f := (·.1)) h1
      have hnd : ((xs.zip vs).map (·.1)).Nodup := by rw [hmap]; exact ok.nodup
      rcases ok.kinds s.heap.objs.size x hx with k | ⟨k, kc⟩
      · exact .inl ⟨k, bindL_on hnd h1 k⟩
      · obtain ⟨c, hc⟩ := Option.isSome_iff_exists.mp kc
        refine .inr ⟨.inl k, c, hc, ?_⟩
        have := X.cell x c hc
        rw [bindC_on hnd h1 (by show f.scope.names.lookup x ≠ _; rw [k]; decide)] at this
        exact this
    · have habove := X.above m c hm
      exact ⟨fun _ => fresh_size (Nat.le_of_lt habove), Nat.ne_of_gt habove, ⟨_, X.cell m c (ok.cells _ m c hm)⟩, fun q => by cases q⟩
  have ga' : GAC n (A.deeper (envOfC f.name f.scope s.heap.objs.size a code)) := ⟨⟨ga.hh, by have := ga.depth; show A.depth + 1 + n ≤ 900; omega, by have := ga.units; show A.units + 3 + 10 * n ≤ 9000; omega⟩, gac.guards⟩
  refine (hb s.heap.objs.size a code _ { s with heap := h₁, toks := tk } g s.heap.get? ga' H).mono (fun fl s' ⟨g', p', af, σ', sm, mv, H', fo, q⟩ => ?_) fun _ _ x => x.elim
  subst q
  obtain ⟨v, rfl, rv⟩ := fo
  exact ⟨g', ⟨same_trans ⟨_, _, rfl⟩ sm, mv.pub.trans H'.ph, mv.sub, H'.sit.keep, mv.fresh⟩, rv⟩
end
end Mine
end

-- C3
section
namespace Mine
open PySem PySem.W PyProof.Rows

section
variable {w : World} {A : Around} {s : Shared} {env : Env}
theorem forLoopC {R : Result → Shared → Prop} {target : Expr} {it : Value} {body : List Stmt} (I : Nat → Shared → Prop)
    (turn : ∀ n s, I n s → wpAny (model pr w) A (pyNext it) (fun r s₁ => match r with
      | Option.none => R (.ok .next) s₁
      | some v => wpAny (model pr w) A (letOwnedTupleGo target it v) (fun _ s₁' =>
          wpAny (model pr w) A (assign target env v) (fun _ s₂ => wpC (model pr w) A (execs body env) (fun f s₃ => match f with
            | .next | .cont => ∃ m, m < n ∧ I m s₃
            | .brk => R (.ok .next) s₃
            | .ret v => R (.ok (.ret v)) s₃) No s₂) No s₁') No s₁) No s)
    (n : Nat) (h : I n s) : codeC (model pr w) A (.forLoop target it body [] env) R s := by
  refine codeC.loop rfl rfl I (fun n s hI => ?_) n h
  show wpC _ A ((forTurn target it body [] env).onRaise (fun x => do noteFrame x env; theTreesLotGoes x)) _ _ s
  refine wpC.onRaise ?_
  simp only [forTurn]
  refine wpC.first (wpAny_standAt (wpC.first (wpAny_onRaise (wpAny_mono (turn n s hI) (fun r s₁ h₁ => ?_) fun _ _ x => x.elim))))
  cases r with
  | none => exact wpC.pure (.inr ⟨rfl, codeC.of (codeAny_block (wpAny_execs_nil h₁))⟩)
  | some v =>
    refine wpC.first (go h₁ fun _ s₁' h₁' => wpC.first (go h₁' fun _ s₂ h₂ => wpC.bind (goC h₂ fun f s₃ h₃ => ?_)))
    cases f with
    | next => exact wpC.pure (.inl ⟨rfl, h₃⟩)
    | cont => exact wpC.pure (.inl ⟨rfl, h₃⟩)
    | brk => exact wpC.pure h₃
    | ret v => exact wpC.pure h₃
theorem forC {target iter : Expr} {body : List Stmt} {pos : Pos} {Q : Flow → Shared → Prop}
    (h : wpAny (model pr w) A (eval iter env) (fun x s₁ => wpAny (model pr w) A (pyIter x) (fun it s₂ => codeC (model pr w) A (.forLoop target it body [] env) (fun r s' => match r with | .ok f => Q f s' | .error e => False) s₂) No s₁) No s)
    (hs : ∀ x, foldedSetIterable iter env x = pure x := by intro _; rfl) : wpC (model pr w) A (exec (.For target iter body [] pos) env) Q No s := by
  rw [exec_For]
  refine wpC.first (wpAny_standAt (wpC.first (go h fun x s₁ h₁ => wpC.first (wpAny_of_eq (hs x) (wpC.first (wpAny_standAt (wpC.first (wpAny_holding (go h₁ fun it s₂ h₂ => ?_)))))))))
  unfold runOwn
  refine wpC.onRaise (wpC.run (h₂.mono fun r s' hr => ?_))
  cases r with
  | ok f => exact hr
  | error e => exact hr
end

section
variable {w : World} {n : Nat} {env : Env} {σ : AS} {Q : AF → AS → Prop}
theorem ExC.for_ {target iter : Expr} {body : List Stmt} {pos : Pos} {items : List D} (B : Nat → D → Vars) (I : Nat → AS → Prop) (hit : EvIt w n env σ.vs iter items target)
    (ha : ∀ i d, items[i]? = some d → Asg w n env target d (B i d)) (h0 : I 0 σ)
    (turn : ∀ i d σ', items[i]? = some d → I i σ' → ExsC w n env ⟨B i d ++ σ'.vs, σ'.own⟩ body fun af σ'' => match af with | .next => I (i + 1) σ'' | .ret r => Q (.ret r) σ'')
    (fin : ∀ σ', I items.length σ' → Q .next σ') (hs : ∀ x, foldedSetIterable iter env x = pure x := by intro _; rfl) : ExC w n env σ (.For target iter body [] pos) Q := fun A s g p gac H => by
  have ga := gac.ga
  refine forC (go (hit A s g ga H.sit) fun x s1 h1 => go h1 fun it s2 ⟨g', X, I', wr, St, e1, fr, it1, it2⟩ => ?_) hs
  subst e1
  obtain ⟨p1, H1, m1, pn⟩ := H.ext X
  -- the iterator's own objects are pinned
  let pp : Lk := fun b => if b ∈ wr then s2.heap.get? b else p1 b
  have pq : ∀ b, p b = Option.none ∨ b ∉ wr := fun b => by
    by_cases hb : b ∈ wr
    · refine .inl ?_
      cases q : p b with
      | none => rfl
      | some o => have := H.ph _ _ q; rw [(fr b hb).1] at this; cases this
    · exact .inr hb
  have here := it1.here 0 _ it2
  have nin : ∀ b o, s.heap.get? b = some o → b ∉ wr := fun b o e hb => by rw [(fr b hb).1] at e; cases e
  have hcw : ∀ m c, (m, c) ∈ env.cells → c ∉ wr := fun m c hm => by
    obtain ⟨_, _, ⟨u, o, q4, _⟩, _⟩ := H.pC m c hm
    exact nin _ _ q4
  obtain ⟨ml, nL, _⟩ := H.sit.var
  obtain ⟨oL, eL⟩ := Ns_some nL
  have H2 : Hold env σ g' pp s2.heap := by
    refine ⟨H1.sit, fun b o e => ?_, fun b o e => ?_, ?_, fun m c hm => ?_, H1.apart, fun a od e => ?_⟩
    · show (if b ∈ wr then s2.heap.get? b else p1 b) = some o
      split
      · rename_i hb; rw [(fr b hb).2] at e; cases e
      · exact H1.gp _ _ e
    · have e : (if b ∈ wr then s2.heap.get? b else p1 b) = some o := e
      split at e
      · exact e
      · exact H1.ph _ _ e
    · show (if env.locals ∈ wr then s2.heap.get? env.locals else p1 env.locals) = Option.none
      rw [if_neg (nin _ _ eL)]; exact H1.pL
    · obtain ⟨_, _, ⟨u, o, q4, _⟩, _⟩ := H.pC m c hm
      have hc : (if c ∈ wr then s2.heap.get? c else p1 c) = p1 c := if_neg (nin _ _ q4)
      show (_ → (if c ∈ wr then s2.heap.get? c else p1 c) = Option.none) ∧ _ ∧ _ ∧ (_ → ∃ o v, (if c ∈ wr then s2.heap.get? c else p1 c) = some o ∧ _)
      rw [hc]
      exact H1.pC m c hm
    · obtain ⟨q1, q2, q3⟩ := H1.own a od e
      obtain ⟨o, ho⟩ := (H.own a od e).1.here
      refine ⟨q1, ?_, q3⟩
      show (if a ∈ wr then s2.heap.get? a else p1 a) = Option.none
      rw [if_neg (nin _ _ ho)]; exact q2
  have M2 : Mv g p g' pp := ⟨m1.sub, fun b o e => by
    show (if b ∈ wr then s2.heap.get? b else p1 b) = some o
    rw [if_neg (nin b o (H.ph _ _ e))]; exact m1.pub _ _ e, m1.fresh⟩
  have W2 : ∀ b ∈ wr, (∃ o, pp b = some o) ∧ g' b = Option.none := fun b hb => ⟨by
    obtain ⟨o, ho⟩ := here b hb
    exact ⟨o, by show (if b ∈ wr then s2.heap.get? b else p1 b) = some o; rw [if_pos hb]; exact ho⟩, (fr b hb).2⟩
  refine forLoopC (fun k s' => ∃ i gg pg σ', k = items.length + 1 - i ∧ i ≤ items.length ∧ (∃ h t, s' = { s with heap := h, toks := t }) ∧ Mv g p gg pg ∧ Sub g' gg ∧ Hold env σ' gg pg s'.heap ∧ (∀ b ∈ wr, (∃ o, pg b = some o) ∧ gg b = Option.none) ∧ St i s'.heap ∧ I i σ') ?_
    (items.length + 1) ⟨0, g', pp, σ, rfl, Nat.zero_le _, X.same, M2, Sub.refl _, H2, W2, it2, h0⟩
  rintro k s' ⟨i, gg, pg, σ', rfl, hi, sm, mv, sg, HH, WW, st, inv⟩
  cases hd : items[i]? with
  | none =>
    have hil : i = items.length := Nat.le_antisymm hi (by simpa using hd)
    subst hil
    refine wpAny_mono (it1.done n A s' No ga st) (fun r s3 ⟨e, sm3, kp⟩ => ?_) fun _ _ x => x.elim
    subst e
    -- behind the loop: the iterator's objects are let go
    let pf : Lk := fun b => if b ∈ wr then Option.none else pg b
    have nw : ∀ b, pg b = Option.none → b ∉ wr := fun b e hb => by
      obtain ⟨⟨o, q⟩, _⟩ := WW b hb
      rw [q] at e; cases e
    have HF : Hold env σ' gg pf s3.heap := by
      obtain ⟨ml, nL, f⟩ := HH.sit.var
      have gw : ∀ b o, gg b = some o → b ∉ wr := fun b o e hb => by rw [(WW b hb).2] at e; cases e
      refine ⟨⟨HH.sit.top, fun b o e => kp b o (gw b o e) (HH.sit.keep _ _ e), HH.sit.kind, HH.sit.glob, HH.sit.blt, ml, nL.at' (fun o e => kp _ _ (nw _ HH.pL) e), fun y d e => ?_⟩, fun b o e => ?_, fun b o e => ?_, ?_, fun m c hm => ?_, HH.apart, fun a od e => ?_⟩
      · obtain ⟨u, ru, hu⟩ := f y d e
        refine ⟨u, ru, ?_⟩
        rcases hu with k | ⟨k1, c, k2, o, k3, k4⟩
        · exact .inl k
        · exact .inr ⟨k1, c, k2, o, kp _ _ (hcw _ _ (mem_of_lookup k2)) k3, k4⟩
      · show (if b ∈ wr then Option.none else pg b) = some o
        rw [if_neg (gw b o e)]; exact HH.gp _ _ e
      · have e : (if b ∈ wr then Option.none else pg b) = some o := e
        split at e
        · cases e
        · rename_i hb; exact kp _ _ hb (HH.ph _ _ e)
      · show (if env.locals ∈ wr then Option.none else pg env.locals) = Option.none
        split
        · rfl
        · exact HH.pL
      · obtain ⟨q1, q2, ⟨u, o, q3, q4⟩, q5⟩ := HH.pC m c hm
        have hc : (if c ∈ wr then Option.none else pg c) = pg c := if_neg (hcw _ _ hm)
        show (_ → (if c ∈ wr then Option.none else pg c) = Option.none) ∧ _ ∧ _ ∧ (_ → ∃ o v, (if c ∈ wr then Option.none else pg c) = some o ∧ _)
        rw [hc]
        exact ⟨q1, q2, ⟨u, o, kp _ _ (hcw _ _ hm) q3, q4⟩, q5⟩
      · obtain ⟨q1, q2, q3⟩ := HH.own a od e
        refine ⟨q1.keep (Sub.refl _) fun o e => kp _ _ (nw _ q2) e, ?_, q3⟩
        show (if a ∈ wr then Option.none else pg a) = Option.none
        split
        · rfl
        · exact q2
    refine ⟨gg, pf, .next, σ', same_trans sm sm3, ⟨mv.sub, fun b o e => ?_, mv.fresh⟩, HF, rfl, fin σ' inv⟩
    show (if b ∈ wr then Option.none else pg b) = some o
    rw [if_neg (nin b o (H.ph _ _ e))]; exact mv.pub _ _ e
  | some d =>
    have hlt : i < items.length := (List.getElem?_eq_some_iff.mp hd).1
    refine it1.item n A i s' d gg _ ga st sg HH.sit.keep (fun b hb => (WW b hb).2) hd |> fun z => wpAny_mono z (fun r s3 ⟨v, e, hz⟩ => ?_) fun _ _ x => x
    subst e
    refine wpAny_mono hz (fun _ s4 ⟨st', g4, T⟩ => ?_) fun _ _ x => x
    obtain ⟨p4, H4, W4, pk⟩ := HH.step WW hcw T.keep (it1.here _ _ st') T.sub T.inn T.fresh
    refine go (ha i d hd A s4 g4 p4 σ' v ga H4 T.rep) fun _ s5 ⟨sm5, H5⟩ => ?_
    refine goC (turn i d σ' hd inv A s5 g4 p4 gac H5) fun f s6 ⟨g6, p6, af, σ6, sm6, m6, H6, fo, q⟩ => ?_
    have smAll := same_trans sm (same_trans T.same (same_trans sm5 sm6))
    have mvAll : Mv g p g6 p6 := by
      refine ⟨mv.sub.trans (T.sub.trans m6.sub), fun b o e => m6.pub _ _ (pk _ _ (nin b o (H.ph _ _ e)) (mv.pub _ _ e)), fun b o e => ?_⟩
      rcases m6.fresh b o e with z | z
      · rcases T.fresh b o z with z | z
        · exact mv.fresh b o z
        · refine .inr ?_
          cases q : p b with
          | none => rfl
          | some o' => have := HH.ph _ _ (mv.pub _ _ q); rw [this] at z; cases z
      · refine .inr ?_
        cases q : p b with
        | none => rfl
        | some o' => have := pk _ _ (nin b o' (H.ph _ _ q)) (mv.pub _ _ q); rw [this] at z; cases z
    cases af with
    | ret r =>
      obtain ⟨u, rfl, ru⟩ := fo
      exact ⟨g6, p6, .ret r, σ6, smAll, mvAll, H6, ⟨u, rfl, ru⟩, q⟩
    | next =>
      cases fo
      refine ⟨items.length + 1 - (i + 1), by omega, i + 1, g6, p6, σ6, rfl, hlt, smAll, mvAll, sg.trans (T.sub.trans m6.sub), H6, fun b hb => ?_, ?_, q⟩
      · obtain ⟨⟨o, z⟩, z2⟩ := W4 b hb
        refine ⟨⟨o, m6.pub _ _ z⟩, ?_⟩
        cases r : g6 b with
        | none => rfl
        | some o' =>
          rcases m6.fresh b o' r with y | y
          · rw [z2] at y; cases y
          · rw [z] at y; cases y
      · refine it1.frame _ _ _ st' (fun b hb o e => ?_) ((sg.trans (T.sub.trans m6.sub)).trans H6.sit.keep)
        obtain ⟨⟨o', z⟩, _⟩ := W4 b hb
        have z1 := H4.ph _ _ z
        rw [e] at z1; cases z1
        exact H6.ph _ _ (m6.pub _ _ z)
end
end Mine
end

-- C4
section
namespace Mine
open PySem PySem.W PyProof.Rows

theorem ba_mro : mroOf (.type "bytearray") = pure [.type "bytearray", .type "object"] := by rw [mroOf_type]; kernel_rfl
theorem ba_new : typeLookup (.type "bytearray") "__new__" = pure (some (.builtin "bytearray.__new__")) := by rw [typeLookup_type, builtinLookup_eq_fast]; kernel_rfl
theorem ba_init : Slot "bytearray" "__init__" "bytearray.__init__" :=
  .of (owner := "bytearray") (n := "__init__") (by rw [typeLookup_type, builtinLookup_eq_fast]; kernel_rfl) (by decide +kernel) (by decide +kernel) (by decide +kernel)
    (by first | exact .inl (by decide +kernel) | exact .inr (by decide +kernel)) (by rw [isSubtype_type]; kernel_rfl)
theorem ba_set : Slot "bytearray" "__setitem__" "bytearray.__setitem__" :=
  .of (owner := "bytearray") (n := "__setitem__") (by rw [typeLookup_type, builtinLookup_eq_fast]; kernel_rfl) (by decide +kernel) (by decide +kernel) (by decide +kernel)
    (by first | exact .inl (by decide +kernel) | exact .inr (by decide +kernel)) (by rw [isSubtype_type]; kernel_rfl)
theorem ba_called : TypeCalled "bytearray" "bytearray.__new__" "bytearray.__init__" :=
  ⟨by decide +kernel, by decide +kernel, ⟨_, _, ba_mro⟩, madeBy_type ba_mro ba_new (by decide +kernel), by decide +kernel, by rw [isSubtype_type]; kernel_rfl, ba_init⟩
theorem ba_typeCall (a : Value) : checkTypeCall "bytearray" ⟨[a], []⟩ = pure () := by kernel_rfl
theorem ba_newCall (a : Value) : checkBuiltinCall "bytearray.__new__" ⟨[.type "bytearray", a], []⟩ = pure () := by kernel_rfl
theorem ba_plain : plainId "bytearray.__new__" = true := by decide +kernel
theorem ba_entry_new : entryFor table "bytearray.__new__" = some Builtin.«list.__new__» := entryFor_alias (id' := "list.__new__") (by rw [fastTable_eq_tree]; kernel_rfl) (by decide +kernel) (by decide +kernel) (by rw [fastTable_eq_tree]; kernel_rfl)
theorem ba_entry_init : entryFor table "bytearray.__init__" = some Builtin.«bytearray.__init__» := by exact entryFor_of_tree (by kernel_rfl)
theorem ba_entry_set : entryFor table "bytearray.__setitem__" = some Builtin.«bytearray.__setitem__» := by exact entryFor_of_tree (by kernel_rfl)
theorem ba_bind (v : Value) : Builtin.Bytes.bindOptional "bytearray.__init__" "bytearray" ["source", "encoding", "errors"] [v] [] = pure [some v, Option.none, Option.none] := by kernel_rfl
theorem ba_sub : isSubtype (.type "bytearray") (.type "bytearray") = pure true := by rw [isSubtype_type]; kernel_rfl
theorem ba_release : typeLookup (.type "bytearray") "__release_buffer__" = pure (some (.builtin "bytearray.__release_buffer__")) := by rw [typeLookup_type, builtinLookup_eq_fast]; kernel_rfl
theorem ba_buffer : typeLookup (.type "bytearray") "__buffer__" = pure (some (.builtin "bytearray.__buffer__")) := by rw [typeLookup_type, builtinLookup_eq_fast]; kernel_rfl
theorem ba_bytes : typeLookup (.type "bytearray") "__bytes__" = pure Option.none := by rw [typeLookup_type, builtinLookup_eq_fast]; kernel_rfl
theorem ba_index : typeLookup (.type "bytearray") "__index__" = pure Option.none := by rw [typeLookup_type, builtinLookup_eq_fast]; kernel_rfl
theorem int_index : typeLookup (.type "int") "__index__" = pure (some (.builtin "int.__index__")) := by rw [typeLookup_type, builtinLookup_eq_fast]; kernel_rfl
theorem ba_argsI (a v : Value) : argsOk "bytearray.__init__" ⟨[a, v], []⟩ := by first | kernel_rfl | (unfold argsOk; kernel_rfl) | exact fun _ => rfl
theorem ba_argsS (a v u : Value) : argsOk "bytearray.__setitem__" ⟨[a, v, u], []⟩ := by first | kernel_rfl | (unfold argsOk; kernel_rfl) | exact fun _ => rfl
theorem ba_ends : ("bytearray.__release_buffer__" : String).endsWith ("." ++ "__release_buffer__") = true := by decide +kernel
set_option linter.deprecated false in
theorem ba_drop : ("bytearray.__release_buffer__" : String).dropRight ("__release_buffer__".length + 1) = "bytearray" := by decide +kernel
theorem ba_ends2 : ("bytearray.__buffer__" : String).endsWith ("." ++ "__buffer__") = true := by decide +kernel
set_option linter.deprecated false in
theorem ba_drop2 : ("bytearray.__buffer__" : String).dropRight ("__buffer__".length + 1) = "bytearray" := by decide +kernel
set_option maxRecDepth 1000000 in
set_option maxHeartbeats 4000000 in
theorem ba_owner : ("bytearray.__new__".splitOn ".__new__").headD "" = "bytearray" := by simp +decide [String.splitOn, String.splitOnAux]
theorem ba_dict : typeHasDict (.type "bytearray") = false := by decide +kernel
end Mine
end

-- C5
section
namespace Mine
open PySem PySem.W PyProof.Rows

/-- a bytearray, as an object -/
def bao (b : Array UInt8) : Obj := { cls := .type "bytearray", data := .bytearray b }

section
variable {w : World} {A : Around} {E : Value → Shared → Prop} {s : Shared}
theorem ba_code_new (v : Value) {Q₁ : Value → Shared → Prop} (h : Q₁ (.ref s.heap.objs.size) { s with heap := s.heap.push (bao #[]) }) :
    codeAny (model pr w) A (.call (.builtin "bytearray.__new__") ⟨[.type "bytearray", v], []⟩) (wants Q₁ E) s := by
  refine codeAny_of_tree ?_
  show wpAny _ A.in1 (do checkBuiltinCall "bytearray.__new__" ⟨[.type "bytearray", v], []⟩; again (.builtin "bytearray.__new__" ⟨[.type "bytearray", v], []⟩)) _ _ s
  refine wpAny_bind (wpAny_of_eq (ba_newCall v) (wpAny_pure ⟨plainId_quiet ba_plain _, codeAny_builtin_stack ba_entry_new rfl fun p st => ?_⟩))
  rw [Around.under_plainId ba_plain _]
  have hsub := ba_sub
  have hown := ba_owner
  simp only [hown]
  refine wpAny_bind (wpAny_of_eq (a := true) rfl ?_)
  refine bm_if_false rfl ?_
  refine wpAny_bind (wpAny_of_eq hsub ?_)
  refine bm_if_false rfl ?_
  refine wpAny_bind (wpAny_pure ?_)
  refine bm_if_true (by rw [ba_dict]; rfl) ?_
  first
    | (refine wpAny_bind ?_; refine wpAny_newObj_type ?_ (Nat.zero_le _); exact wpAny_pure h)
    | (refine wpAny_bind ?_; refine wpAny_bind ?_; refine wpAny_newObj_type ?_ (Nat.zero_le _); exact wpAny_pure (wpAny_pure h))
    | wp_walk
theorem ba_exported {a : Addr} {Q : Bool → Shared → Prop} (hg : A.guards = some []) (h : Q false s) : wpC (model pr w) A (Builtin.Bytes.exported (.ref a)) Q E s := by
  unfold Builtin.Bytes.exported
  refine wpC.bind (wpC.stack fun st hc hgs => wpC.pure ?_)
  have key : ∀ b : Bool, b = false → Q b s := fun b e => e ▸ h
  refine key _ ?_
  have hg := hgs _ hg
  rw [List.any_eq_false]
  rintro ⟨c, p⟩ hx
  have h1 := hc _ hx
  have h2 : c.isGuard = false := by
    cases q : c.isGuard with
    | false => rfl
    | true =>
      have : c ∈ guardsOf st := by
        unfold guardsOf
        exact List.mem_filter.mpr ⟨List.mem_map_of_mem (f := (·.1)) hx, q⟩
      rw [hg] at this; cases this
  dsimp only at h1
  split
  · rename_i e; cases e; unfold Code.isGuard at h2; dsimp only at h2; exact absurd h2 (by decide)
  · rename_i e; cases e; unfold Code.isGuard at h2; dsimp only at h2; exact absurd h2 (by decide)
  · rename_i e; cases e; unfold Code.isGuard at h2; dsimp only at h2; exact absurd h2 (by decide)
  · rename_i e; cases e; unfold Code.isGuard at h2; dsimp only at h2; exact absurd h2 (by decide)
  · rename_i e; cases e; unfold Code.isGuard at h2; dsimp only at h2; exact absurd h2 (by decide)
  · rename_i e
    cases e
    have h1 : (!Builtin.Bytes.decodersThatHold.contains _) = true := h1
    rw [Bool.not_eq_true'] at h1
    rw [h1, Bool.and_false]
    decide
  · decide
end
end Mine
end

-- C6
section
namespace Mine
open PySem PySem.W PyProof.Rows

section
variable {w : World} {A : Around} {E : Value → Shared → Prop} {s : Shared}
theorem ba_ownRelease {a : Addr} {b : Array UInt8} {Q : Bool → Shared → Prop} (ha : s.heap.get? a = some (bao b)) (h : Q false s) : wpAny (model pr w) A (Builtin.Bytes.ownRelease (.ref a)) Q E s := by
  have hT : s.TypeIs (.ref a) "bytearray" := ⟨_, ha, rfl⟩
  unfold Builtin.Bytes.ownRelease Builtin.Bytes.slotIsOwn
  refine wpAny_bind (wpAny_bind (wpAny_specialOf hT ba_release ?_))
  dsimp only
  refine bm_if_false (by rw [ba_ends]; rfl) ?_
  rw [ba_drop]
  refine wpAny_isInstance hT ba_sub ?_
  exact wpAny_pure h
theorem ba_write {a : Addr} {b : Array UInt8} {f : Array UInt8 → Array UInt8} {Q : Unit → Shared → Prop} (ha : s.heap.get? a = some (bao b)) (hz : (f b).size ≤ 1000)
    (h : ∀ h', h'.get? a = some (bao (f b)) → Heap.ExtBut a s.heap h' → Q () { s with heap := h' }) : wpAny (model pr w) A (Builtin.Bytes.write (.ref a) f) Q E s := by
  unfold Builtin.Bytes.write
  show wpAny _ _ (updateBytearray a f) _ _ _
  unfold updateBytearray
  refine wpAny_bind (wpAny_load ha ?_)
  show wpAny _ _ (update a (Obj.mapBytearray f) >>= fun _ => lookBehind a) _ _ _
  refine wpAny_bind (wpAny_update ha ?_)
  have hS₂ : (s.heap.update a (Obj.mapBytearray f)).get? a = some (bao (f b)) := Heap.get?_update_self (Obj.mapBytearray f) ha rfl
  refine wpAny_lookBehind hS₂ ?_ (h _ hS₂ (Heap.SameBut.update ..).extBut)
  show (if (f b).size > sizeLine then some "bytearray:memory" else Option.none) = Option.none
  rw [if_neg]
  rw [sizeLine_eq]; omega
theorem if_falseC {α : Type} {M : Model} {c : Bool} {a b : Sem α} {Q : α → Shared → Prop} (hc : c = false) (h : wpC M A b Q E s) : wpC M A (if c = true then a else b) Q E s := by subst hc; exact h
theorem if_trueC {α : Type} {M : Model} {c : Bool} {a b : Sem α} {Q : α → Shared → Prop} (hc : c = true) (h : wpC M A a Q E s) : wpC M A (if c = true then a else b) Q E s := by subst hc; exact h
theorem asIndex_int' (n : Int) (t : Tok) : asIndex (.int n t) = pure n := rfl

theorem ba_init_C {a : Addr} {n : Int} {t : Tok} {Q : Fin → Shared → Prop} (ha : s.heap.get? a = some (bao #[])) (h0 : 0 < n) (h1 : n ≤ 1000) (hg : A.guards = some [])
    (h : ∀ h', h'.get? a = some (bao (Array.replicate n.toNat 0)) → Heap.ExtBut a s.heap h' → Q (.done (.ret .none)) { s with heap := h' }) :
    wpC (model pr w) A (Builtin.«bytearray.__init__» ⟨[.ref a, .int n t], []⟩) Q E s := by
  have hTi := typeIs_int s n t
  unfold Builtin.«bytearray.__init__»
  refine wpC.first (ba_ownRelease ha ?_)
  refine if_falseC rfl ?_
  refine wpC.first (wpAny_of_eq (ba_bind _) ?_)
  refine wpC.first (wpAny_of_eq (a := ()) rfl ?_)
  refine wpC.first (wpAny_of_eq (a := ()) rfl ?_)
  refine wpC.bind ?_
  show wpC _ A (Builtin.Bytes.exported (.ref a) >>= _) _ _ s
  refine wpC.bind (ba_exported hg ?_)
  show wpC _ A (Builtin.Bytes.exportsOf (.ref a) >>= fun k => pure (decide (k > 0))) _ _ s
  refine wpC.bind (wpC.of ?_)
  show wpAny _ _ (load a >>= _) _ _ _
  refine wpAny_bind (wpAny_load ha (wpAny_pure (wpC.pure ?_)))
  refine if_falseC rfl ?_
  refine wpC.first (ba_write ha (by decide) fun h1' e1 k1 => ?_)
  have hTi := typeIs_int { s with heap := h1' } n t
  dsimp only
  refine wpC.first (wpAny_of_eq (a := Option.none) rfl ?_)
  refine if_falseC rfl ?_
  refine wpC.first (wpAny_of_eq (a := ()) rfl ?_)
  refine wpC.first (wpAny_specialOf hTi int_index ?_)
  refine if_trueC rfl ?_
  refine wpC.first (wpAny_of_eq (a := Except.ok n) rfl ?_)
  dsimp only
  refine if_falseC (by simp [Builtin.Bytes.fitsIndex]; omega) ?_
  rw [if_neg (by omega)]
  refine if_falseC (by simp; omega) ?_
  refine if_falseC (by simp [Builtin.Bytes.tooLong, sizeLine_eq]; omega) ?_
  refine wpC.first (wpAny_rule ?_)
  rw [if_pos h0]
  refine wpC.first (ba_write e1 (by simp; omega) fun h2' e2 k2 => ?_)
  exact wpC.pure (h h2' e2 fun b o hb e => k2 b o hb (k1 b o hb e))

theorem codeC.builtin {id : String} {args : Args} {b : Builtin} {R : Result → Shared → Prop} (hk : calm (.builtin id args) = true) (hb : entryFor table id = some b)
    (h : wpC (model pr w) (A.under (.builtin id args)) (b args)
      (fun fin s' => match fin with | .done f => R (.ok f) s' | .again c' => c'.quiet = true ∧ codeC (model pr w) A c' R s') (fun e s' => R (.error e) s') s) :
    codeC (model pr w) A (.builtin id args) R s := by
  refine codeC.tree hk ?_
  show wpC _ _ (match entryFor table id with | some b => b args | Option.none => unsupported ((withoutEnding? id "#data").getD id)) _ _ s
  rw [hb]; exact h
theorem codeC.callBuiltin {id : String} {args : Args} {b : Builtin} {R : Result → Shared → Prop} (hk : calm (.builtin id args) = true) (hq : plainId id = true) (hb : entryFor table id = some b)
    (h : wpAny (model pr w) A.in1 (checkBuiltinCall id args) (fun _ s₁ => wpC (model pr w) A.in1 (b args)
      (fun fin s' => match fin with | .done f => R (.ok f) s' | .again c' => c'.quiet = true ∧ codeC (model pr w) A c' R s') (fun e s' => R (.error e) s') s₁)
      (fun e s' => R (.error e) s') s) : codeC (model pr w) A (.call (.builtin id) args) R s := by
  refine codeC.tree rfl ?_
  show wpC _ A.in1 (do checkBuiltinCall id args; again (.builtin id args)) _ _ s
  refine wpC.first (wpAny_mono h (fun _ s₁ h₁ => wpC.pure (And.intro (plainId_quiet hq args) (codeC.builtin hk hb ?_))) fun _ _ h' => h')
  rw [Around.under_plainId hq args]; exact h₁

theorem ba_call_C {n : Int} {t : Tok} {Q : Value → Shared → Prop} (h0 : 0 < n) (h1 : n ≤ 1000) (hg : A.guards = some [])
    (h : ∀ h' a, h'.get? a = some (bao (Array.replicate n.toNat 0)) → s.heap.get? a = Option.none → Sub s.heap.get? h'.get? → Q (.ref a) { s with heap := h' }) :
    wpC (model pr w) A (call (.type "bytearray") [.int n t]) Q No s := by
  refine wpC.call (codeC.tree rfl ?_)
  show wpC _ _ (callAny (.type "bytearray") _) _ _ _
  refine wpC.pure ⟨Code.quiet_builtin _ (by decide +kernel), codeC.builtin rfl F.entry_type_call ?_⟩
  rw [Around.under_plain (weight_type_call_type _ _ []) rfl]
  unfold Builtin.«type.__call__»
  dsimp only
  refine if_falseC ba_called.notType ?_
  refine if_falseC ba_called.canCreate ?_
  refine wpC.first (wpAny_of_eq (ba_typeCall _) ?_)
  refine wpC.first (wpAny_of_eq ba_mro ?_)
  refine if_falseC rfl ?_
  refine wpC.first (wpAny_of_eq ba_called.made ?_)
  refine wpC.first (wpAny_pure ?_)
  refine wpC.first (wpAny_holding (wpAny_call (ba_code_new _ ?_)))
  have ea : (s.heap.push (bao #[])).get? s.heap.objs.size = some (bao #[]) := Heap.get?_push_size _ rfl
  have hT : ({ s with heap := s.heap.push (bao #[]) } : Shared).TypeIs (.ref s.heap.objs.size) "bytearray" := ⟨_, ea, rfl⟩
  refine wpC.first (wpAny_isInstance hT ba_sub ?_)
  refine if_falseC rfl ?_
  refine wpC.bind (wpC.holding ?_)
  unfold callSpecial?
  refine wpC.first (wpAny_specialOf hT ba_init.lookup ?_)
  dsimp only
  refine wpC.holding (wpC.first (wpAny_of_eq (ba_init.bind _) ?_))
  refine wpC.bind (wpC.call ?_)
  refine codeC.callBuiltin rfl ba_init.plain ba_entry_init (ba_init.check _ _ _ _ _ _ _ _ hT (ba_argsI _ _) ?_)
  refine ba_init_C ea h0 h1 hg fun h' e1 k1 => ?_
  refine wpC.pure ?_
  refine if_falseC rfl ?_
  refine wpC.pure ?_
  exact h h' _ e1 (fresh_size (Nat.le_refl _)) fun b o e => k1 b o (Nat.ne_of_lt (Heap.lt_size e)) (Heap.get?_push_of_some _ e)
end
end Mine
end

-- C7
section
namespace Mine
open PySem PySem.W PyProof.Rows

theorem bInts_set {b : Array UInt8} {k : Nat} {x : Int} (h0 : 0 ≤ x) (h1 : x < 256) : KBw.bInts (b.setIfInBounds k x.toNat.toUInt8) = (KBw.bInts b).set k x := by
  have hx : ((x.toNat.toUInt8).toNat : Int) = x := by
    have : x.toNat < 256 := by omega
    simp [Nat.mod_eq_of_lt this]; omega
  unfold KBw.bInts
  rw [Array.toList_setIfInBounds, List.map_set, hx]
theorem bInts_zero (n : Nat) : KBw.bInts (Array.replicate n 0) = List.replicate n 0 := by
  unfold KBw.bInts
  simp

section
variable {w : World} {A : Around} {E : Value → Shared → Prop} {s : Shared}
theorem ba_setAt {a : Addr} {b : Array UInt8} {k x : Int} {t u : Tok} {Q : Unit → Shared → Prop} (ha : s.heap.get? a = some (bao b)) (h0 : 0 ≤ k) (hk : k < b.size) (hz : b.size ≤ 1000) (hx0 : 0 ≤ x) (hx1 : x < 256)
    (h : ∀ h', h'.get? a = some (bao (b.setIfInBounds k.toNat x.toNat.toUInt8)) → Heap.ExtBut a s.heap h' → Q () { s with heap := h' }) : wpAny (model pr w) A (setItem (.ref a) (.int k t) (.int x u)) Q E s := by
  have hT : s.TypeIs (.ref a) "bytearray" := ⟨_, ha, rfl⟩
  unfold setItem
  refine wpAny_holding ?_
  refine wpAny_bind (wpAny_sequenceKey hT (by decide) ?_)
  refine wpAny_bind (wpAny_callSpecial?_slot (name := Str.ofString "__setitem__") hT ba_set (wpAny_call_entry ba_set hT ba_entry_set ?_ (ba_argsS _ _ _)))
  unfold Builtin.«bytearray.__setitem__»
  refine bm_if_false rfl ?_
  dsimp only
  refine wpAny_bind ?_
  unfold Builtin.Bytes.subscript?
  refine wpAny_bind (wpAny_specialOf (typeIs_int s k t) int_index ?_)
  refine bm_if_false rfl ?_
  refine wpAny_bind (wpAny_of_eq (asIndex_int' k t) ?_)
  refine bm_if_false (by simp [Builtin.Bytes.fitsIndex]; omega) ?_
  refine wpAny_pure ?_
  dsimp only
  refine wpAny_bind ?_
  unfold Builtin.Bytes.byteValue
  refine wpAny_bind (wpAny_of_eq (asIndex_int' x u) ?_)
  refine bm_if_false (by simp only [Bool.or_eq_false_iff, decide_eq_false_iff_not]; omega) ?_
  refine wpAny_pure ?_
  refine wpAny_bind ?_
  unfold Builtin.Bytes.payload Builtin.Bytes.payload?
  refine wpAny_bind (wpAny_bind (wpAny_load ha ?_))
  dsimp only [bao]
  refine wpAny_pure (wpAny_pure ?_)
  rw [seqIndex_of h0 (by omega)]
  dsimp only
  refine wpAny_bind (ba_write ha (by simp; omega) fun h' e1 k1 => ?_)
  exact wpAny_pure ⟨.none, rfl, wpAny_pure (h h' e1 k1)⟩

theorem ba_slotIsOwn_buffer {a : Addr} {b : Array UInt8} {Q : Bool → Shared → Prop} (ha : s.heap.get? a = some (bao b)) (h : Q true s) : wpAny (model pr w) A (Builtin.Bytes.slotIsOwn (.ref a) "__buffer__") Q E s := by
  have hT : s.TypeIs (.ref a) "bytearray" := ⟨_, ha, rfl⟩
  unfold Builtin.Bytes.slotIsOwn
  refine wpAny_bind (wpAny_specialOf hT ba_buffer ?_)
  dsimp only
  refine bm_if_false (by rw [ba_ends2]; rfl) ?_
  rw [ba_drop2]
  exact wpAny_isInstance hT ba_sub h
theorem ba_buffer? {a : Addr} {b : Array UInt8} {id : String} {Q : Option (Array UInt8) → Shared → Prop} (ha : s.heap.get? a = some (bao b)) (h : Q (some b) s) : wpAny (model pr w) A (Builtin.Bytes.buffer? id (.ref a) true) Q E s := by
  have hT : s.TypeIs (.ref a) "bytearray" := ⟨_, ha, rfl⟩
  unfold Builtin.Bytes.buffer?
  refine wpAny_bind (wpAny_specialOf hT ba_buffer ?_)
  dsimp only
  refine wpAny_bind (ba_slotIsOwn_buffer ha ?_)
  refine bm_if_false rfl ?_
  refine wpAny_bind (wpAny_specialOf hT ba_buffer ?_)
  show wpAny _ _ (Builtin.Bytes.ownRelease (.ref a) >>= _) _ _ _
  refine wpAny_bind (ba_ownRelease ha ?_)
  refine bm_if_false rfl ?_
  refine wpAny_bind ?_
  unfold Builtin.Bytes.payload Builtin.Bytes.payload?
  refine wpAny_bind (wpAny_bind (wpAny_load ha ?_))
  dsimp only [bao]
  exact wpAny_pure (wpAny_pure (wpAny_pure h))
theorem bytes_new_ba {a : Addr} {b : Array UInt8} {Q : Value → Shared → Prop} (ha : s.heap.get? a = some (bao b)) (hz : b.size ≤ 1000)
    (hQ : ∀ t k, Q (.bytes b t) { s with toks := k }) :
    codeAny (model pr w) A (.call (.builtin "bytes.__new__") ⟨[.type "bytes", .ref a], []⟩) (wants Q E) s := by
  refine codeAny_of_tree ?_
  show wpAny _ A.in1 (do checkBuiltinCall "bytes.__new__" ⟨[.type "bytes", .ref a], []⟩; again (.builtin "bytes.__new__" ⟨[.type "bytes", .ref a], []⟩)) _ _ s
  refine wpAny_bind (wpAny_of_eq (F.bm_newCall _) (wpAny_pure ⟨plainId_quiet F.bm_plain _, codeAny_builtin F.bm_entry ?_⟩))
  rw [Around.under_plainId F.bm_plain _]
  have hT : s.TypeIs (.ref a) "bytearray" := ⟨_, ha, rfl⟩
  unfold Builtin.«bytes.__new__»
  refine wpAny_bind (wpAny_of_eq (a := true) rfl ?_)
  refine bm_if_false rfl ?_
  refine wpAny_bind (wpAny_of_eq F.bm_sub ?_)
  refine bm_if_false rfl ?_
  refine wpAny_bind (wpAny_of_eq (F.bm_bind _) ?_)
  refine wpAny_bind (wpAny_of_eq (a := ()) rfl ?_)
  refine wpAny_bind (wpAny_of_eq (a := ()) rfl ?_)
  refine bm_if_false rfl ?_
  refine wpAny_bind (wpAny_specialOf hT ba_bytes ?_)
  refine wpAny_bind (wpAny_bind ?_)
  show wpAny _ _ (load a >>= _) _ _ _
  refine wpAny_bind (wpAny_load ha ?_)
  dsimp only [bao]
  refine wpAny_pure (wpAny_pure ?_)
  refine bm_if_false rfl ?_
  refine wpAny_bind (wpAny_specialOf hT ba_index ?_)
  refine bm_if_true rfl ?_
  first
    | show wpAny _ _ (Builtin.Bytes.buffer? "bytes.__new__" (.ref a) true >>= _) _ _ _
    | (refine wpAny_bind ?_; show wpAny _ _ (Builtin.Bytes.buffer? "bytes.__new__" (.ref a) true >>= _) _ _ _)
  refine wpAny_bind (ba_buffer? ha ?_)
  show wpAny _ _ (rule "bytes.__new__.bytes-like" >>= _) _ _ _
  refine wpAny_bind (wpAny_rule (wpAny_bind (wpAny_mkBytes ?_ (by rw [sizeLine_eq]; omega))))
  show wpAny _ _ (if (Value.type "bytes" == Value.type "bytes") = true then _ else _) _ _ _
  refine bm_if_true (by decide) ?_
  first
    | exact wpAny_pure (hQ _ _)
    | exact wpAny_bind (wpAny_pure (wpAny_pure (hQ _ _)))
theorem call_bytes_ba {a : Addr} {b : Array UInt8} {Q : Value → Shared → Prop} (ha : s.heap.get? a = some (bao b)) (hz : b.size ≤ 1000)
    (hQ : ∀ t k, Q (.bytes b t) { s with toks := k }) : wpAny (model pr w) A (call (.type "bytes") [.ref a]) Q E s := by
  refine callType_codes (Q₁ := fun obj s₁ => s₁.TypeIs obj "bytes" ∧ Q obj s₁) F.bm_called (F.bm_typeCall _) F.entry_object_init
    (bytes_new_ba ha hz fun t k => ⟨PySem.W.typeIs_bytes _ _ _, hQ t k⟩) fun obj s₁ h₁ => ?_
  exact ⟨h₁.1, F.args_object_init_2 obj _, object_init_meets F.bm_called.init.lookup F.bm_called.made (by decide) pr w A.in1 _ s₁ ⟨h₁.1, rfl, h₁.2⟩⟩
end

section
variable {w : World} {n : Nat} {env : Env} {ρ : Vars} {σ : AS} {Q : AF → AS → Prop}
/-- xs[i] = e, the own bytearray -/
theorem Ex.setBA {x : Str} {px tpos pos : Pos} {i value : Expr} {a : Addr} {ks : List Int} {k y : Int} (ho : σ.own = some (a, .barr ks)) (hx : σ.vs.lookup x = some (.val (.ref a))) (hi : Ev w n env σ.vs i (.int k)) (h0 : 0 ≤ k) (hk : k < ks.length)
    (hv : Ev w n env σ.vs value (.int y)) (hy0 : 0 ≤ y) (hy1 : y < 256) (hz : ks.length ≤ 1000) (h : Q .next ⟨σ.vs, some (a, .barr (ks.set k.toNat y))⟩)
    (hd : (x == ("__debug__" : Str)) = false := by decide) (hs : swapsWith value (some (.Subscript (.Name x px) i tpos)) pos.line env = pure false := by rfl) :
    Ex w n env σ (.Assign [.Subscript (.Name x px) i tpos] value pos) Q := fun A s g p ga H => by
  refine wpAny_Assign_Subscript (go (hv A s g ga H.sit) fun v s1 ⟨g1, X1, r1⟩ => ?_) hs
  obtain ⟨t, rfl⟩ := r1.isI
  obtain ⟨p1, H1, m1, _⟩ := H.ext X1
  refine go ((Ev.name hx hd) A s1 g1 ga H1.sit) fun o s2 ⟨g2, X2, r2⟩ => ?_
  cases r2
  obtain ⟨p2, H2, m2, _⟩ := H1.ext X2
  refine go (hi A s2 g2 ga H2.sit) fun iv s3 ⟨g3, X3, r3⟩ => ?_
  obtain ⟨t', rfl⟩ := r3.isI
  obtain ⟨p3, H3, m3, _⟩ := H2.ext X3
  obtain ⟨⟨b, e1, q1⟩, _⟩ := H3.own a _ ho
  have hlen := KBw.ints_length b
  rw [q1] at hlen
  refine ba_setAt e1 h0 (by omega) (by omega) hy0 hy1 fun h' e2 k2 => ?_
  have H4 := H3.turn (h' := h') (od' := .barr (ks.set k.toNat y)) ho k2 ⟨_, e2, by rw [bInts_set hy0 hy1, q1]⟩
  exact ⟨g3, p3, .next, _, same_trans X1.same (same_trans X2.same (same_trans X3.same ⟨_, _, rfl⟩)), m1.trans (m2.trans m3), H4, rfl, h⟩
/-- return bytes(xs), the own bytearray -/
theorem Ex.retBytes {x y : Str} {px py cpos pos : Pos} {a : Addr} {ks : List Int} (ho : σ.own = some (a, .barr ks)) (hx : σ.vs.lookup x = some (.val (.ref a))) (hf : Ev w n env σ.vs (.Name y py) (.val (.type "bytes"))) (hz : ks.length ≤ 1000) (h : Q (.ret (.bytes ks)) σ)
    (hd : (x == ("__debug__" : Str)) = false := by decide) : Ex w n env σ (.Return (some (.Call (.Name y py) [.Name x px] [] cpos)) pos) Q := fun A s g p ga H => by
  rw [exec_Return_some]
  refine wpAny_bind (wpAny_standAt (wpAny_bind ?_))
  refine wpAny_Call_NameR (go (hf A s g ga H.sit) fun f s1 ⟨g1, X1, r1⟩ => ?_)
  cases r1
  obtain ⟨p1, H1, m1, _⟩ := H.ext X1
  refine PyProof.Rows.callWith_type rfl (Calls.evalArgs_plain (Calls.spliced_cons ?_))
  refine go ((Ev.name hx hd) A s1 g1 ga H1.sit) fun v s2 ⟨g2, X2, r2⟩ => Calls.spliced_nil ?_
  cases r2
  obtain ⟨p2, H2, m2, _⟩ := H1.ext X2
  obtain ⟨⟨b, e1, q1⟩, _⟩ := H2.own a _ ho
  have hlen := KBw.ints_length b
  rw [q1] at hlen
  show wpAny _ A (call (.type "bytes") [.ref a] []) _ _ s2
  refine call_bytes_ba e1 (by omega) fun t k => ?_
  exact wpAny_pure ⟨g2, p2, .ret (.bytes ks), σ, same_trans X1.same (same_trans X2.same ⟨_, _, rfl⟩), m1.trans m2, H2, ⟨_, rfl, .bytes q1⟩, h⟩
/-- x = bytearray(e), in a calm context -/
theorem ExC.assignBA {x y : Str} {px py cpos pos : Pos} {e : Expr} {k : Int} (hf : Ev w n env σ.vs (.Name y py) (.val (.type "bytearray"))) (he : Ev w n env σ.vs e (.int k)) (h0 : 0 < k) (h1 : k ≤ 1000) (hx : Storable env x)
    (h : ∀ a, Q .next ⟨(x, .val (.ref a)) :: σ.vs, some (a, .barr (List.replicate k.toNat 0))⟩)
    (hq : starEach [e] env = [(false, eval e env)] := by rfl) (hs : swapsWith (.Call (.Name y py) [e] [] cpos) (some (.Name x px)) pos.line env = pure false := by rfl) :
    ExC w n env σ (.Assign [.Name x px] (.Call (.Name y py) [e] [] cpos) pos) Q := fun A s g p ga H => by
  rw [exec_Assign_Name env x px _ pos hs]
  refine wpC.first (wpAny_standAt (wpC.bind ?_))
  show wpC _ A (do callWith cpos (← eval (.Name y py) env) [] (backTo cpos (starEach [e] env)) (backToKw cpos (keywordEach [] env))) _ _ s
  refine wpC.first (go (hf A s g ga.ga H.sit) fun f s1 ⟨g1, X1, r1⟩ => ?_)
  cases r1
  rw [hq]
  show wpC _ A (callWith cpos (.type "bytearray") [] (backTo cpos [(false, eval e env)]) []) _ _ s1
  unfold callWith
  refine wpC.bind (wpC.holding ?_)
  unfold evalArgs
  show wpC _ A (spliced (backTo cpos [(false, eval e env)]) >>= _) _ _ s1
  refine wpC.first (Calls.spliced_cons (go (he A s1 g1 ga.ga (H.sit.ext X1)) fun v s2 ⟨g2, X2, r2⟩ => Calls.spliced_nil ?_))
  obtain ⟨t, rfl⟩ := r2.isI
  refine wpC.first (wpAny_pure (wpC.holding (wpC.first (wpAny_pure (wpC.first (wpAny_pure (wpC.pure ?_)))))))
  refine wpC.first (wpAny_standAt ?_)
  refine wpC.first (wpAny_pure ?_)
  have X := X1.trans X2
  refine wpC.bind (ba_call_C h0 h1 ga.guards fun h' a e1 e2 k1 => ?_)
  refine wpC.first (wpAny_holding (wpAny_point (wpC.pure ?_)))
  obtain ⟨p2, H2, m2⟩ := H.extOwn (s' := { s2 with heap := h' }) (a := a) (od := .barr (List.replicate k.toNat 0)) (g' := g2)
    ⟨same_trans X.same ⟨_, _, rfl⟩, X.keep.trans k1, X.sub, X.inn.trans k1, X.fresh⟩ (X.keep.none e2) (X.inn.none e2) ⟨_, e1, bInts_zero _⟩
  refine wpC.first (wpAny_standAt (wpC.first (wpC.bindName (H2.store hx (.val _) fun h'' t H3 => ?_))))
  exact wpC.pure ⟨g2, p2, .next, _, same_trans X.same ⟨_, _, rfl⟩, m2, H3, rfl, h a⟩
end
end Mine
end

-- F7
section
namespace Mine
open PySem PySem.W PyProof.Rows

theorem ok_byteswap : FnOK (fnI 0) ["data", "width"] where
  bind := fun pm cd doc vs h => by
    match vs, h with
    | [v, u], _ => rfl
  nodup := by decide
  kinds := fun L x hx => by
    rcases List.mem_cons.mp hx with rfl | hx
    · exact .inl rfl
    · rw [List.mem_singleton.mp hx]; exact .inl rfl
  cells := fun L n c hm => by cases hm
  co := rfl
  gen := rfl
  kind := rfl
/-- one stretch turned, as far as its j-th octet -/
def swIn (data : List Int) (W b : Nat) (acc : List Int) : Nat → List Int
  | 0 => acc
  | j + 1 => (swIn data W b acc j).set (b * W + W - 1 - j) (data.getD (b * W + j) 0)
def swOut (data : List Int) (W : Nat) : Nat → List Int
  | 0 => List.replicate data.length 0
  | b + 1 => swIn data W b (swOut data W b) W
theorem swIn_length (data : List Int) (W b : Nat) (acc : List Int) : ∀ j, (swIn data W b acc j).length = acc.length
  | 0 => rfl
  | j + 1 => by rw [swIn, List.length_set, swIn_length data W b acc j]
theorem swOut_length (data : List Int) (W : Nat) : ∀ b, (swOut data W b).length = data.length
  | 0 => by simp [swOut]
  | b + 1 => by rw [swOut, swIn_length, swOut_length data W b]
theorem byteswap_spec {w : World} {n : Nat} {data : List Int} {W m : Nat} (hN : data.length = m * W) (h1 : 0 < data.length) (hz : data.length ≤ 100) (hW : 0 < W) (hW' : W ≤ 100) (hb : ∀ x ∈ data, 0 ≤ x ∧ x < 256)
    (hs : Builtin.Range.small 0 data.length W = true) (hm : Builtin.Range.rangeSize 0 data.length W = m) : FnSpecC w n (fnI 0) [.bytes data, .int W] (.bytes (swOut data W m)) := FnSpecC.made ok_byteswap rfl fun L a cd => by
  refine ExsC.cons (ExC.assignBA (k := data.length) (Ev.blt boot_bytearray' rfl (by decide)) (Ev.callB (Ev.blt boot_len' rfl (by decide)) (.cons (.name rfl) .nil) (CallV.lenB (by omega))) (by omega) (by omega) (.inl rfl) fun q => ?_)
  rw [Int.toNat_natCast]
  refine ExsC.of ?_
  refine Exs.cons (Ex.forV (fun b => [("swapped_data", .val (.ref q)), ("data", .bytes data), ("width", .int W)]) (fun b => some (q, .barr (swOut data W b))) (fun b d => [("i", d)])
    (EvIt.of (Ev.callT (Ev.blt boot_range' rfl (by decide)) (.cons .cint (.cons (Ev.callB (Ev.blt boot_len' rfl (by decide)) (.cons (.name rfl) .nil) (CallV.lenB (by omega))) (.cons (.name rfl) .nil))) (CallV.range3 (by omega) (by omega))) (IterD.rng hs hm))
    (fun i d _ => .name (.inl rfl)) (.cons rfl (.cons rfl (.cons rfl .nil))) rfl (fun b d hd => ?_) fun σ' hl ho => ?_)
  · obtain ⟨hb', rfl⟩ := rng_get hd
    have hlo := swOut_length data W b
    have hbW : b * W + W ≤ data.length := by
      rw [hN]
      have := Nat.mul_le_mul_right W hb'
      rw [Nat.succ_mul] at this
      exact this
    have hi : (0 + (b : Int) * (W : Int)) = ((b * W : Nat) : Int) := by push_cast; omega
    rw [hi]
    generalize hacc : swOut data W b = acc at hlo
    have hout : swOut data W (b + 1) = swIn data W b acc W := by rw [← hacc]; rfl
    rw [hout]
    refine Exs.cons (Ex.forV (fun j => [("i", .int ((b * W : Nat) : Int)), ("swapped_data", .val (.ref q)), ("data", .bytes data), ("width", .int W)]) (fun j => some (q, .barr (swIn data W b acc j))) (fun j d => [("j", d)])
      (EvIt.of (Ev.callT (Ev.blt boot_range' rfl (by decide)) (.cons (.name rfl) .nil) CallV.range1) (iterRange (m := W) (by decide) (by decide) (by omega) (by omega)))
      (fun i d _ => .name (.inl rfl)) (.cons rfl (.cons rfl (.cons rfl (.cons rfl .nil)))) rfl (fun j d hd => ?_) fun σ' hl ho => ?_)
    · obtain ⟨hj, rfl⟩ := rng_get hd
      rw [show (0 + (j : Int) * 1) = (j : Int) by omega]
      have hli := swIn_length data W b acc j
      have hget := word_in hb (i := b * W + j)
      refine Exs.cons (Ex.setBA (k := ((b * W + W - 1 - j : Nat) : Int)) (y := data.getD (b * W + j) 0) rfl rfl
        ((Ev.bin (Ev.bin (Ev.bin (.name rfl) (.name rfl) .add) .cint .sub) (.name rfl) .sub).of (congrArg D.int (by omega))) (by omega) (by omega)
        ((Ev.itemB (k := ((b * W + j : Nat) : Int)) (.name rfl) ((Ev.bin (.name rfl) (.name rfl) .add).of (congrArg D.int (by omega))) (by omega) (by omega) (by omega)).of (by rw [Int.toNat_natCast])) hget.1 hget.2 (by omega)
        (Exs.nil ⟨.cons rfl (.cons rfl (.cons rfl (.cons rfl .nil))), ?_⟩))
      rw [Int.toNat_natCast]; rfl
    · rw [List.length_map, List.length_range] at ho
      exact Exs.nil ⟨fun x d h => hl x d (Le.cons rfl (.cons rfl (.cons rfl .nil)) x d h), ho⟩
  · rw [List.length_map, List.length_range] at ho
    exact Exs.weaken' (Exs.cons (Ex.retBytes (x := "swapped_data") rfl rfl (Ev.blt boot_bytes' rfl (by decide)) (by rw [swOut_length]; omega) rfl)) hl ho
end Mine
end

-- F8
section
namespace Mine
open PySem PySem.W PyProof.Rows

theorem ok_turned : FnOK (fnI 7) ["row", "low", "high"] where
  bind := fun pm cd doc vs h => by
    match vs, h with
    | [v, u, y], _ => rfl
  nodup := by decide
  kinds := fun L x hx => by
    rcases List.mem_cons.mp hx with rfl | hx
    · exact .inl rfl
    · rcases List.mem_cons.mp hx with rfl | hx
      · exact .inl rfl
      · rw [List.mem_singleton.mp hx]; exact .inl rfl
  cells := fun L n c hm => by cases hm
  co := rfl
  gen := rfl
  kind := rfl
theorem clip_at {m k : Nat} (h : k ≤ m) : clipAt m (k : Int) = k := by
  unfold clipAt
  split
  · omega
  · omega
def pieceOf (row : List Int) (low high : Nat) : List Int := (row.drop (2 * low - 2)).take (2 * high - (2 * low - 2))
def turnedOf (row : List Int) (low high : Nat) : List Int := row.take (2 * low - 2) ++ swOut (pieceOf row low high) (pieceOf row low high).length 1 ++ row.drop (2 * high)
theorem turned_spec {w : World} {n : Nat} {row : List Int} {low high : Nat} (hl : row.length = 10) (hb : ∀ x ∈ row, 0 ≤ x ∧ x < 256) (h1 : 1 ≤ low) (h2 : low ≤ high) (h3 : high ≤ 5) :
    FnSpecC w (n + 1) (fnI 7) [.bytes row, .int low, .int high] (.bytes (turnedOf row low high)) := FnSpecC.made ok_turned rfl fun L a cd => by
  have hp : (pieceOf row low high).length = 2 * high - (2 * low - 2) := by simp [pieceOf]; omega
  have hpb : ∀ x ∈ pieceOf row low high, 0 ≤ x ∧ x < 256 := fun x hx => hb x (List.mem_of_mem_drop (List.mem_of_mem_take hx))
  have hk : Builtin.Range.small 0 (pieceOf row low high).length (pieceOf row low high).length = true ∧ Builtin.Range.rangeSize 0 (pieceOf row low high).length (pieceOf row low high).length = 1 := by
    have : (pieceOf row low high).length = 2 ∨ (pieceOf row low high).length = 4 ∨ (pieceOf row low high).length = 6 ∨ (pieceOf row low high).length = 8 ∨ (pieceOf row low high).length = 10 := by omega
    rcases this with e | e | e | e | e <;> rw [e] <;> exact ⟨by decide, by decide⟩
  refine ExsC.also (Ex.assign (d := .bytes (pieceOf row low high)) ((Ev.sliceB (lo := some ((2 * low - 2 : Nat) : Int)) (hi := some ((2 * high : Nat) : Int)) (.name rfl)
    (.some ((Ev.bin (Ev.bin .cint (.name rfl) (Bin.mul (by decide) (by decide))) .cint .sub).of (congrArg D.int (by omega)))) (.some ((Ev.bin .cint (.name rfl) (Bin.mul (by decide) (by decide))).of (congrArg D.int (by omega)))) (by omega)).of ?_) (.inl rfl) ?_)
  · show D.bytes ((row.drop (clipAt row.length ((2 * low - 2 : Nat) : Int))).take (clipAt row.length ((2 * high : Nat) : Int) - clipAt row.length ((2 * low - 2 : Nat) : Int))) = _
    rw [clip_at (by omega), clip_at (by omega)]; rfl
  refine ExsC.cons (ExC.assign (EvC.callF (fn_mem (i := 0) (by decide)) rfl rfl (.of (.cons (.name rfl) (.cons (Ev.callB (Ev.blt boot_len' rfl (by decide)) (.cons (.name rfl) .nil) (CallV.lenB (by omega))) .nil)))
    (byteswap_spec (m := 1) (by omega) (by omega) (by omega) (by omega) (by omega) hpb ?_ ?_)) (.inl rfl) ?_)
  · exact hk.1
  · exact hk.2
  have hsw := swOut_length (pieceOf row low high) (pieceOf row low high).length 1
  refine ExsC.of (Exs.cons (Ex.ret (Ev.ifx (b := true) (EvT.plain (Ev.callB (Ev.blt boot_isinstance' rfl (by decide)) (.cons (.name rfl) (.cons (Ev.blt boot_bytes' rfl (by decide)) .nil)) CallV.isBytes))
    (fun _ => (Ev.bin (Ev.bin (Ev.sliceB (lo := Option.none) (hi := some ((2 * low - 2 : Nat) : Int)) (.name rfl) .none (.some ((Ev.bin (Ev.bin .cint (.name rfl) (Bin.mul (by decide) (by decide))) .cint .sub).of (congrArg D.int (by omega)))) (by omega))
      (.name rfl) (Bin.addB ?_)) (Ev.sliceB (lo := some ((2 * high : Nat) : Int)) (hi := Option.none) (.name rfl) (.some ((Ev.bin .cint (.name rfl) (Bin.mul (by decide) (by decide))).of (congrArg D.int (by omega)))) .none (by omega)) (Bin.addB ?_)).of ?_) (fun h => by cases h)) rfl))
  · simp; omega
  · simp; omega
  · show D.bytes ((row.drop 0).take (clipAt row.length ((2 * low - 2 : Nat) : Int) - 0) ++ _ ++ (row.drop (clipAt row.length ((2 * high : Nat) : Int))).take (row.length - clipAt row.length ((2 * high : Nat) : Int))) = _
    rw [clip_at (by omega), clip_at (by omega), List.drop_zero, Nat.sub_zero, List.take_of_length_le (l := row.drop (2 * high)) (by simp)]; rfl
end Mine
end

-- M15
section
namespace Mine
open PySem PySem.W PyProof.Rows

/-- a piece of a turn that keeps the frame -/
def Bd (w : World) (n : Nat) (env : Env) (σ : AS) (body : Sem Unit) (Q : AS → Prop) : Prop :=
  ∀ A s g p, GA n A → Hold env σ g p s.heap → wpAny (model pr w) A body (fun _ s' => ∃ g' p' σ', (∃ h t, s' = { s with heap := h, toks := t }) ∧ Mv g p g' p' ∧ Hold env σ' g' p' s'.heap ∧ Q σ') No s

section
variable {w : World} {A : Around} {R : Result → Shared → Prop} {s : Shared}
theorem compLoopB {elt target : Expr} {gens : List Comprehension} {scope : Scope} {pos p0 : Pos} {depth : Nat} {it acc : Value} {env : Env} {body : Sem Unit}
    (ht : compTurn (.ListComp elt gens scope pos) depth it acc env = (standAt p0 >>= fun _ => pyNext it >>= fun r => match r with
      | Option.none => pure (.done .next)
      | some v => letOwnedTupleGo target it v >>= fun _ => assign target env v >>= fun _ => body >>= fun _ => again (.compLoop (.ListComp elt gens scope pos) depth it acc env))) (I : Nat → Shared → Prop)
    (turn : ∀ n s, I n s → wpAny (model pr w) A (pyNext it) (fun r s₁ => match r with
      | Option.none => R (.ok .next) s₁
      | some v => wpAny (model pr w) A (letOwnedTupleGo target it v) (fun _ s₁' => wpAny (model pr w) A (assign target env v) (fun _ s₂ =>
          wpAny (model pr w) A body (fun _ s₃ => ∃ m, m < n ∧ I m s₃) No s₂) No s₁') No s₁) No s)
    (n : Nat) (h : I n s) : codeAny (model pr w) A (.compLoop (.ListComp elt gens scope pos) depth it acc env) R s := by
  refine codeAny_loop rfl I (fun n s hI => ?_) n h
  show wpAny _ A ((compTurn (.ListComp elt gens scope pos) depth it acc env).onRaise (fun x => do noteFrame x env; theTreesLotGoes x)) _ _ s
  refine wpAny_noted ?_
  rw [ht]
  refine wpAny_bind (wpAny_standAt (wpAny_bind (go (turn n s hI) fun r s₁ h₁ => ?_)))
  cases r with
  | none => exact wpAny_pure h₁
  | some v =>
    refine wpAny_bind (go h₁ fun _ s₁' h₁' => ?_)
    refine wpAny_bind (go h₁' fun _ s₂ h₂ => wpAny_bind (go h₂ fun _ s₃ h₃ => ?_))
    exact wpAny_pure ⟨rfl, h₃⟩
end

/-- such a loop, by an invariant -/
theorem loopHold {w : World} {n : Nat} {elt target : Expr} {gens : List Comprehension} {scope : Scope} {pos p0 : Pos} {depth : Nat} {acc : Value} {env : Env} {body : Sem Unit} {I' : Addr} {wr : List Addr} {items : List D} {g' : Lk} {St : Nat → Heap → Prop}
    (ht : compTurn (.ListComp elt gens scope pos) depth (.ref I') acc env = (standAt p0 >>= fun _ => pyNext (.ref I') >>= fun r => match r with
      | Option.none => pure (.done .next)
      | some v => letOwnedTupleGo target (.ref I') v >>= fun _ => assign target env v >>= fun _ => body >>= fun _ => again (.compLoop (.ListComp elt gens scope pos) depth (.ref I') acc env)))
    (it1 : It w I' wr items g' St target) (B : Nat → D → Vars) (Inv : Nat → AS → Prop) (ha : ∀ i d, items[i]? = some d → Asg w n env target d (B i d))
    (turn : ∀ i d σ', items[i]? = some d → Inv i σ' → Bd w n env ⟨B i d ++ σ'.vs, σ'.own⟩ body (Inv (i + 1)))
    {A : Around} {s : Shared} {g p : Lk} {σ : AS} (ga : GA n A) (H : Hold env σ g p s.heap) (sg0 : Sub g' g) (W : ∀ b ∈ wr, (∃ o, p b = some o) ∧ g b = Option.none) (hcw : ∀ m c, (m, c) ∈ env.cells → c ∉ wr) (st0 : St 0 s.heap) (h0 : Inv 0 σ) :
    codeAny (model pr w) A (.compLoop (.ListComp elt gens scope pos) depth (.ref I') acc env) (fun r s' => r = .ok .next ∧ ∃ gg pg σ', (∃ h t, s' = { s with heap := h, toks := t }) ∧ Sub g gg ∧ (∀ b o, gg b = some o → g b = some o ∨ p b = Option.none) ∧
      (∀ b o, b ∉ wr → p b = some o → pg b = some o) ∧ Hold env σ' gg pg s'.heap ∧ Inv items.length σ') s := by
  refine compLoopB ht (fun k s' => ∃ i gg pg σ', k = items.length + 1 - i ∧ i ≤ items.length ∧ (∃ h t, s' = { s with heap := h, toks := t }) ∧ Sub g gg ∧ (∀ b o, gg b = some o → g b = some o ∨ p b = Option.none) ∧ (∀ b o, b ∉ wr → p b = some o → pg b = some o) ∧
      Hold env σ' gg pg s'.heap ∧ (∀ b ∈ wr, (∃ o, pg b = some o) ∧ gg b = Option.none) ∧ St i s'.heap ∧ Inv i σ') ?_
    (items.length + 1) ⟨0, g, p, σ, rfl, Nat.zero_le _, ⟨_, _, rfl⟩, Sub.refl _, fun _ _ e => .inl e, fun _ _ _ e => e, H, W, st0, h0⟩
  rintro k s' ⟨i, gg, pg, σ', rfl, hi, sm, sg, fg, sp, HH, WW, st, inv⟩
  cases hd : items[i]? with
  | none =>
    have hil : i = items.length := Nat.le_antisymm hi (by simpa using hd)
    subst hil
    refine go (it1.done n A s' No ga st) fun r s3 ⟨e, sm3, kp⟩ => ?_
    subst e
    let pf : Lk := fun b => if b ∈ wr then Option.none else pg b
    have nw : ∀ b, pg b = Option.none → b ∉ wr := fun b e hb => by
      obtain ⟨⟨o, q⟩, _⟩ := WW b hb
      rw [q] at e; cases e
    have HF : Hold env σ' gg pf s3.heap := by
      obtain ⟨ml, nL, f⟩ := HH.sit.var
      have gw : ∀ b o, gg b = some o → b ∉ wr := fun b o e hb => by rw [(WW b hb).2] at e; cases e
      refine ⟨⟨HH.sit.top, fun b o e => kp b o (gw b o e) (HH.sit.keep _ _ e), HH.sit.kind, HH.sit.glob, HH.sit.blt, ml, nL.at' (fun o e => kp _ _ (nw _ HH.pL) e), fun y d e => ?_⟩, fun b o e => ?_, fun b o e => ?_, ?_, fun m c hm => ?_, HH.apart, fun a od e => ?_⟩
      · obtain ⟨u, ru, hu⟩ := f y d e
        refine ⟨u, ru, ?_⟩
        rcases hu with k | ⟨k1, c, k2, o, k3, k4⟩
        · exact .inl k
        · exact .inr ⟨k1, c, k2, o, kp _ _ (hcw _ _ (mem_of_lookup k2)) k3, k4⟩
      · show (if b ∈ wr then Option.none else pg b) = some o
        rw [if_neg (gw b o e)]; exact HH.gp _ _ e
      · have e : (if b ∈ wr then Option.none else pg b) = some o := e
        split at e
        · cases e
        · rename_i hb; exact kp _ _ hb (HH.ph _ _ e)
      · show (if env.locals ∈ wr then Option.none else pg env.locals) = Option.none
        split
        · rfl
        · exact HH.pL
      · obtain ⟨q1, q2, ⟨u, o, q3, q4⟩, q5⟩ := HH.pC m c hm
        have hc : (if c ∈ wr then Option.none else pg c) = pg c := if_neg (hcw _ _ hm)
        show (_ → (if c ∈ wr then Option.none else pg c) = Option.none) ∧ _ ∧ _ ∧ (_ → ∃ o v, (if c ∈ wr then Option.none else pg c) = some o ∧ _)
        rw [hc]
        exact ⟨q1, q2, ⟨u, o, kp _ _ (hcw _ _ hm) q3, q4⟩, q5⟩
      · obtain ⟨q1, q2, q3⟩ := HH.own a od e
        refine ⟨q1.keep (Sub.refl _) fun o e => kp _ _ (nw _ q2) e, ?_, q3⟩
        show (if a ∈ wr then Option.none else pg a) = Option.none
        split
        · rfl
        · exact q2
    refine ⟨rfl, gg, pf, σ', same_trans sm sm3, sg, fg, fun b o hb e => ?_, HF, inv⟩
    show (if b ∈ wr then Option.none else pg b) = some o
    rw [if_neg hb]; exact sp _ _ hb e
  | some d =>
    have hlt : i < items.length := (List.getElem?_eq_some_iff.mp hd).1
    refine go (it1.item n A i s' d gg No ga st (sg0.trans sg) HH.sit.keep (fun b hb => (WW b hb).2) hd) fun r s3 ⟨v, e, hz⟩ => ?_
    subst e
    refine go hz fun _ s4 ⟨st', g4, T⟩ => ?_
    obtain ⟨p4, H4, W4, pk⟩ := HH.step WW hcw T.keep (it1.here _ _ st') T.sub T.inn T.fresh
    refine go (ha i d hd A s4 g4 p4 σ' v ga H4 T.rep) fun _ s5 ⟨sm5, H5⟩ => ?_
    refine go (turn i d σ' hd inv A s5 g4 p4 ga H5) fun _ s6 ⟨g6, p6, σ6, sm6, m6, H6, q⟩ => ?_
    refine ⟨items.length + 1 - (i + 1), by omega, i + 1, g6, p6, σ6, rfl, hlt, same_trans sm (same_trans T.same (same_trans sm5 sm6)), sg.trans (T.sub.trans m6.sub), fun b o e => ?_, fun b o hb e => m6.pub _ _ (pk _ _ hb (sp _ _ hb e)), H6, fun b hb => ?_, ?_, q⟩
    · rcases m6.fresh b o e with z | z
      · rcases T.fresh b o z with z | z
        · exact fg b o z
        · refine .inr ?_
          cases q : p b with
          | none => rfl
          | some o' =>
            by_cases hb : b ∈ wr
            · obtain ⟨⟨o2, q2⟩, _⟩ := WW b hb
              have := HH.ph _ _ q2; rw [this] at z; cases z
            · have := HH.ph _ _ (sp _ _ hb q); rw [this] at z; cases z
      · refine .inr ?_
        cases q : p b with
        | none => rfl
        | some o' =>
          by_cases hb : b ∈ wr
          · obtain ⟨⟨o2, q2⟩, _⟩ := W4 b hb
            rw [q2] at z; cases z
          · have := pk _ _ hb (sp _ _ hb q); rw [this] at z; cases z
    · obtain ⟨⟨o, z⟩, z2⟩ := W4 b hb
      refine ⟨⟨o, m6.pub _ _ z⟩, ?_⟩
      cases r : g6 b with
      | none => rfl
      | some o' =>
        rcases m6.fresh b o' r with y | y
        · rw [z2] at y; cases y
        · rw [z] at y; cases y
    · refine it1.frame _ _ _ st' (fun b hb o e => ?_) ((sg0.trans (sg.trans (T.sub.trans m6.sub))).trans H6.sit.keep)
      obtain ⟨⟨o', z⟩, _⟩ := W4 b hb
      have z1 := H4.ph _ _ z
      rw [e] at z1; cases z1
      exact H6.ph _ _ (m6.pub _ _ z)
end Mine
end

-- M16
section
namespace Mine
open PySem PySem.W PyProof.Rows

section
variable {w : World} {n : Nat} {env : Env} {σ : AS} {Q : AS → Prop}
theorem Bd.emit {elt : Expr} {a : Addr} {l : List D} {d : D} (ho : σ.own = some (a, .list l)) (he : Ev w n env σ.vs elt d) (hz : l.length ≤ 1000) (h : Q ⟨σ.vs, some (a, .list (l ++ [d]))⟩) :
    Bd w n env σ (eval elt env >>= fun x => call (.builtin "list.append") [.ref a, x] >>= fun _ => pure ()) Q := fun A s g p ga H => by
  refine wpAny_bind (go (he A s g ga H.sit) fun y s1 ⟨g1, X1, r1⟩ => wpAny_bind ?_)
  obtain ⟨p1, H1, m1, _⟩ := H.ext X1
  obtain ⟨⟨us, m, e1, q1⟩, _⟩ := H1.own a _ ho
  have hl := q1.length
  refine call_meets F.slot_list_append ⟨_, e1, rfl⟩ F.entry_list_append (F.args_list_append_2 _ _) (list_append a us.toArray m y (by simp [sizeLine_eq]; omega)) ⟨e1, ?_⟩
  have e5 : (s1.heap.update a (Obj.mapSeq (·.push y))).get? a = some (lobj (us ++ [y]) (m + 1)) := by
    have := IsL.update (f := fun xs => xs.push y) e1
    simpa using this
  have H4 := H1.turn (h' := s1.heap.update a (Obj.mapSeq (·.push y))) (od' := .list (l ++ [d])) ho (Heap.SameBut.update _ _ _).extBut ⟨_, _, e5, q1.append (.cons r1 .nil)⟩
  exact wpAny_pure ⟨g1, p1, _, same_trans X1.same ⟨_, _, rfl⟩, m1, H4, h⟩

theorem compStart2 {A : Around} {R : Result → Shared → Prop} {s : Shared} {elt t1 i1 t2 i2 : Expr} {scope : Scope} {pos : Pos} {it acc : Value}
    (h0 : codeAny (model pr w) A (.compLoop (.ListComp elt [⟨t1, i1, [], 0⟩, ⟨t2, i2, [], 0⟩] scope pos) 1 it acc env) R s)
    (h : wpAny (model pr w) A (pyIter it) (fun it' s' => codeAny (model pr w) A (.compLoop (.ListComp elt [⟨t1, i1, [], 0⟩, ⟨t2, i2, [], 0⟩] scope pos) 1 it' acc env) R s') No s) :
    codeAny (model pr w) A (.compStart (.ListComp elt [⟨t1, i1, [], 0⟩, ⟨t2, i2, [], 0⟩] scope pos) 1 it acc env) R s := by
  refine codeAny_of_tree ?_
  show wpAny _ _ ((compStart (.ListComp elt [⟨t1, i1, [], 0⟩, ⟨t2, i2, [], 0⟩] scope pos) 1 it acc env).onRaise (fun x => do noteFrame x env; standAt theWindowsPlace)) _ _ s
  refine wpAny_notedAt ?_
  unfold compStart
  show wpAny _ _ (ask >>= _) _ _ s
  refine wpAny_bind (wpAny_askSetting (wpAny_ite ?_))
  split
  · first
      | exact wpAny_bind (wpAny_pure (wpAny_pure (And.intro rfl h0)))
      | exact wpAny_pure (And.intro rfl h0)
  · first
      | exact wpAny_bind (wpAny_rule (wpAny_bind (wpAny_standAt (wpAny_bind (go h fun it' s' h' => wpAny_pure (And.intro rfl h'))))))
      | (refine wpAny_bind (wpAny_rule ?_); show wpAny _ _ (standAt i2.pos >>= _) _ _ s; exact wpAny_bind (wpAny_standAt (wpAny_bind (go h fun it' s' h' => wpAny_pure (And.intro rfl h')))))

abbrev clause2 (elt t1 i1 t2 i2 : Expr) (scope : Scope) (pos : Pos) (acc : Value) (env : Env) : Sem Unit :=
  eval i2 env >>= fun x => standAt i2.pos >>= fun _ => foldedSetIterable i2 env x >>= fun x => holding [x] (pyIter x) >>= fun it => runOwn (.compStart (.ListComp elt [⟨t1, i1, [], 0⟩, ⟨t2, i2, [], 0⟩] scope pos) 1 it acc env) env >>= fun _ => pure ()
abbrev emit2 (elt : Expr) (acc : Value) (env : Env) : Sem Unit := eval elt env >>= fun x => call (.builtin "list.append") [acc, x] >>= fun _ => pure ()

theorem turn2_1 {elt t1 i1 t2 i2 : Expr} {scope : Scope} {pos : Pos} {it acc : Value} {env : Env} : compTurn (.ListComp elt [⟨t1, i1, [], 0⟩, ⟨t2, i2, [], 0⟩] scope pos) 1 it acc env = (standAt i2.pos >>= fun _ => pyNext it >>= fun r => match r with
      | Option.none => pure (.done .next)
      | some v => letOwnedTupleGo t2 it v >>= fun _ => assign t2 env v >>= fun _ => emit2 elt acc env >>= fun _ => again (.compLoop (.ListComp elt [⟨t1, i1, [], 0⟩, ⟨t2, i2, [], 0⟩] scope pos) 1 it acc env)) := by rfl
theorem turn2_0' {elt t1 i1 t2 i2 : Expr} {scope : Scope} {pos : Pos} {it acc : Value} {env : Env} : compTurn (.ListComp elt [⟨t1, i1, [], 0⟩, ⟨t2, i2, [], 0⟩] scope pos) 0 it acc env = (standAt i1.pos >>= fun _ => pyNext it >>= fun r => match r with
      | Option.none => pure (.done .next)
      | some v => letOwnedTupleGo t1 it v >>= fun _ => assign t1 env v >>= fun _ => (eval i2 env >>= fun x => standAt i2.pos >>= fun _ => foldedSetIterable i2 env x >>= fun x => holding [x] (pyIter x) >>= fun it' => runOwn (.compStart (.ListComp elt [⟨t1, i1, [], 0⟩, ⟨t2, i2, [], 0⟩] scope pos) 1 it' acc env) env >>= fun _ => again (.compLoop (.ListComp elt [⟨t1, i1, [], 0⟩, ⟨t2, i2, [], 0⟩] scope pos) 0 it acc env))) := by rfl
theorem turn2_0 {elt t1 i1 t2 i2 : Expr} {scope : Scope} {pos : Pos} {it acc : Value} {env : Env} : compTurn (.ListComp elt [⟨t1, i1, [], 0⟩, ⟨t2, i2, [], 0⟩] scope pos) 0 it acc env = (standAt i1.pos >>= fun _ => pyNext it >>= fun r => match r with
      | Option.none => pure (.done .next)
      | some v => letOwnedTupleGo t1 it v >>= fun _ => assign t1 env v >>= fun _ => clause2 elt t1 i1 t2 i2 scope pos acc env >>= fun _ => again (.compLoop (.ListComp elt [⟨t1, i1, [], 0⟩, ⟨t2, i2, [], 0⟩] scope pos) 0 it acc env)) := by
  rw [turn2_0']
  unfold clause2
  simp only [LawfulMonad.bind_assoc, LawfulMonad.pure_bind]

theorem Bd.clause {elt t1 i1 t2 i2 : Expr} {scope : Scope} {pos : Pos} {acc : Value} {items : List D} (B : Nat → D → Vars) (Inv : Nat → AS → Prop) (hit : EvIt w n env σ.vs i2 items t2) (hfold : ∀ x, foldedSetIterable i2 env x = pure x)
    (ha : ∀ i d, items[i]? = some d → Asg w n env t2 d (B i d)) (h0 : Inv 0 σ) (turn : ∀ i d σ', items[i]? = some d → Inv i σ' → Bd w n env ⟨B i d ++ σ'.vs, σ'.own⟩ (emit2 elt acc env) (Inv (i + 1)))
    (fin : ∀ σ', Inv items.length σ' → Q σ') : Bd w n env σ (clause2 elt t1 i1 t2 i2 scope pos acc env) Q := fun A s g p ga H => by
  refine wpAny_bind (go (hit A s g ga H.sit) fun x s1 h1 => wpAny_bind (wpAny_standAt (wpAny_bind (wpAny_of_eq (hfold x) (wpAny_bind (wpAny_holding (go h1 fun it s2 ⟨g', X, I', wr, St, e1, fr, it1, it2⟩ => wpAny_bind ?_)))))))
  subst e1
  obtain ⟨p1, H1, m1, pn⟩ := H.ext X
  let pp : Lk := fun b => if b ∈ wr then s2.heap.get? b else p1 b
  have here := it1.here 0 _ it2
  have nin : ∀ b o, s.heap.get? b = some o → b ∉ wr := fun b o e hb => by rw [(fr b hb).1] at e; cases e
  have hcw : ∀ m c, (m, c) ∈ env.cells → c ∉ wr := fun m c hm => by
    obtain ⟨_, _, ⟨u, o, q4, _⟩, _⟩ := H.pC m c hm
    exact nin _ _ q4
  obtain ⟨ml, nL, _⟩ := H.sit.var
  obtain ⟨oL, eL⟩ := Ns_some nL
  have H2 : Hold env σ g' pp s2.heap := by
    refine ⟨H1.sit, fun b o e => ?_, fun b o e => ?_, ?_, fun m c hm => ?_, H1.apart, fun a od e => ?_⟩
    · show (if b ∈ wr then s2.heap.get? b else p1 b) = some o
      split
      · rename_i hb; rw [(fr b hb).2] at e; cases e
      · exact H1.gp _ _ e
    · have e : (if b ∈ wr then s2.heap.get? b else p1 b) = some o := e
      split at e
      · exact e
      · exact H1.ph _ _ e
    · show (if env.locals ∈ wr then s2.heap.get? env.locals else p1 env.locals) = Option.none
      rw [if_neg (nin _ _ eL)]; exact H1.pL
    · obtain ⟨_, _, ⟨u, o, q4, _⟩, _⟩ := H.pC m c hm
      have hc : (if c ∈ wr then s2.heap.get? c else p1 c) = p1 c := if_neg (nin _ _ q4)
      show (_ → (if c ∈ wr then s2.heap.get? c else p1 c) = Option.none) ∧ _ ∧ _ ∧ (_ → ∃ o v, (if c ∈ wr then s2.heap.get? c else p1 c) = some o ∧ _)
      rw [hc]
      exact H1.pC m c hm
    · obtain ⟨q1, q2, q3⟩ := H1.own a od e
      obtain ⟨o, ho⟩ := (H.own a od e).1.here
      refine ⟨q1, ?_, q3⟩
      show (if a ∈ wr then s2.heap.get? a else p1 a) = Option.none
      rw [if_neg (nin _ _ ho)]; exact q2
  have pubp : ∀ b o, p b = some o → pp b = some o := fun b o e => by
    show (if b ∈ wr then s2.heap.get? b else p1 b) = some o
    rw [if_neg (nin b o (H.ph _ _ e))]; exact m1.pub _ _ e
  have W2 : ∀ b ∈ wr, (∃ o, pp b = some o) ∧ g' b = Option.none := fun b hb => ⟨by
    obtain ⟨o, ho⟩ := here b hb
    exact ⟨o, by show (if b ∈ wr then s2.heap.get? b else p1 b) = some o; rw [if_pos hb]; exact ho⟩, (fr b hb).2⟩
  have loop := loopHold (turn2_1 (elt := elt) (t1 := t1) (i1 := i1) (t2 := t2) (i2 := i2) (scope := scope) (pos := pos) (acc := acc)) it1 B Inv ha turn ga H2 (Sub.refl _) W2 hcw it2 h0
  refine wpAny_runOwn (codeAny_mono (compStart2 loop (it1.self 0 _ _ _ _ it2 loop)) ?_)
  rintro r s3 ⟨rfl, gg, pg, σ', sm, sg, fg, pk, HF, inv⟩
  refine wpAny_pure ⟨gg, pg, σ', same_trans X.same sm, ⟨X.sub.trans sg, fun b o e => pk b o (nin b o (H.ph _ _ e)) (pubp b o e), fun b o e => ?_⟩, HF, fin σ' inv⟩
  rcases fg b o e with z | z
  · exact m1.fresh b o z
  · refine .inr ?_
    cases q : p b with
    | none => rfl
    | some o' => rw [pubp _ _ q] at z; cases z
end
end Mine
end

-- M17
section
namespace Mine
open PySem PySem.W PyProof.Rows

theorem Bd.weaken {w : World} {n : Nat} {env : Env} {σ : AS} {ρ : Vars} {body : Sem Unit} {Q : AS → Prop} (h : Bd w n env ⟨ρ, σ.own⟩ body Q) (hl : Le ρ σ.vs) : Bd w n env σ body Q := fun A s g p ga H => h A s g p ga (H.forget hl)

section
variable {w : World} {n : Nat} {env : Env} {ρ : Vars}
theorem core2 {elt t1 i1 t2 i2 : Expr} {scope : Scope} {pos : Pos} {items : List D} (B : Nat → D → Vars) (outs : Nat → List D) (it : EvIt w n env ρ i1 items t1) (kind : scope.kind = .function) (nocell : ∀ y ∈ scope.names, y.2 ≠ .cell)
    (ha : ∀ C i d, items[i]? = some d → Asg w n (compEnvC scope [] C env) t1 d (B i d)) (hout0 : outs 0 = [])
    (turn : ∀ C a i d, items[i]? = some d → Bd w n (compEnvC scope [] C env) ⟨B i d, some (a, .list (outs i))⟩ (clause2 elt t1 i1 t2 i2 scope pos (.ref a) (compEnvC scope [] C env)) (fun σ' => σ'.own = some (a, .list (outs (i + 1))))) :
    ∀ A s g, GA n A → Sit env g s.heap ρ → ∀ (RR : Value → Addr → Result → Shared → Prop), (∀ acc C s', CompOut g s (outs items.length) acc C s' → RR acc C (.ok .next) s') →
      wpAny (model pr w) A (eval i1 env) (fun x s₁ => wpAny (model pr w) A (pyIter x) (fun it s₂ => wpAny (model pr w) A (newList []) (fun acc s₃ =>
        wpAny (model pr w) A (newFunctionEnv scope env.globals [] [] env.qual Option.none .none (some env)) (fun cenv s₄ =>
          codeAny (model pr w) A (.compStart (.ListComp elt [⟨t1, i1, [], 0⟩, ⟨t2, i2, [], 0⟩] scope pos) 0 it acc { cenv with scope := relabel scope env }) (RR acc cenv.locals) s₄) No s₃) No s₂) No s₁) No s := by
  intro A s g ga S RR hRR
  refine go (it A s g ga S) fun x s1 h1 => go h1 fun it s2 ⟨g2, X, I, wr, St, e1, fr, it1, it2⟩ => ?_
  subst e1
  refine wpAny_newObj_type (wpAny_newFunctionEnv nocell (by intro y hy; simp at hy) (fun h₁ hns₁ hsb₁ => ?_) kind)
  dsimp only at hns₁ hsb₁ ⊢
  generalize hDa : s2.heap.objs.size = Da at hns₁ hsb₁ ⊢
  generalize hH2 : s2.heap.push { cls := .type "list", dict := Option.none, data := .seq ([] : List Value).toArray } = H2 at hns₁ hsb₁ ⊢
  generalize hC : H2.objs.size = C at hns₁ hsb₁ ⊢
  have hC' : C = Da + 1 := by rw [← hC, ← hH2, Heap.size_push, hDa]
  have hDC : Da ≠ C := by omega
  have old : Sub s2.heap.get? h₁.get? := fun b o e => hsb₁.extBut b o (by have h := Heap.lt_size e; rw [hDa] at h; exact Nat.ne_of_lt (by rw [hC']; exact Nat.lt_succ_of_lt h)) (Heap.get?_push_of_some _ (hH2 ▸ Heap.get?_push_of_some _ e))
  have hacc : h₁.get? Da = some (lobj [] 0) := hsb₁.extBut _ _ hDC (Heap.get?_push_of_some _ (by rw [← hH2, ← hDa]; exact Heap.get?_push_size _ rfl))
  have fD2 : s2.heap.get? Da = Option.none := fresh_size (by omega)
  have fC2 : s2.heap.get? C = Option.none := fresh_size (by omega)
  have fD : s.heap.get? Da = Option.none := X.keep.none fD2
  have fC : s.heap.get? C = Option.none := X.keep.none fC2
  have nwr : ∀ b ∈ wr, b ≠ Da ∧ b ≠ C := fun b hb => by
    obtain ⟨o, ho⟩ := it1.here 0 _ it2 b hb
    have h := Heap.lt_size ho
    rw [hDa] at h
    exact ⟨Nat.ne_of_lt h, Nat.ne_of_lt (by rw [hC']; exact Nat.lt_succ_of_lt h)⟩
  have sold : ∀ b o, s.heap.get? b = some o → b ∉ wr ∧ b ≠ Da ∧ b ≠ C := fun b o e => ⟨fun hb => (by rw [(fr b hb).1] at e; cases e), fun q => (by rw [q, fD] at e; cases e), fun q => (by rw [q, fC] at e; cases e)⟩
  let env' := compEnvC scope [] C env
  let p0 : Lk := fun b => if b = C ∨ b = Da then Option.none else h₁.get? b
  have p0s : ∀ b o, b ≠ C → b ≠ Da → h₁.get? b = some o → p0 b = some o := fun b o q1 q2 e => by
    show (if b = C ∨ b = Da then Option.none else h₁.get? b) = some o
    rw [if_neg (by rintro (q | q); exact q1 q; exact q2 q)]; exact e
  have H0 : Hold env' ⟨[], some (Da, .list (outs 0))⟩ g2 p0 h₁ := by
    refine ⟨⟨S.top.mono X.sub, X.inn.trans old, kind, S.glob, S.blt, _, hns₁, fun x d e => by simp at e⟩, fun b o e => ?_, fun b o e => ?_, ?_, fun x c hm => (by cases hm), List.Pairwise.nil, fun a od e => ?_⟩
    · have e2 := X.inn _ _ e
      exact p0s b o (fun q => by rw [q, fC2] at e2; cases e2) (fun q => by rw [q, fD2] at e2; cases e2) (old _ _ e2)
    · have e : (if b = C ∨ b = Da then Option.none else h₁.get? b) = some o := e
      split at e
      · cases e
      · exact e
    · show (if C = C ∨ C = Da then Option.none else h₁.get? C) = Option.none
      rw [if_pos (.inl rfl)]
    · cases e
      refine ⟨⟨[], 0, hacc, by rw [hout0]; exact .nil⟩, ?_, hDC, fun x c hm => (by cases hm)⟩
      show (if Da = C ∨ Da = Da then Option.none else h₁.get? Da) = Option.none
      rw [if_pos (.inr rfl)]
  have W0 : ∀ b ∈ wr, (∃ o, p0 b = some o) ∧ g2 b = Option.none := fun b hb => by
    obtain ⟨o, ho⟩ := it1.here 0 _ it2 b hb
    exact ⟨⟨o, p0s b o (nwr b hb).2 (nwr b hb).1 (old _ _ ho)⟩, (fr b hb).2⟩
  have St0 : St 0 h₁ := it1.frame _ _ _ it2 (fun b hb o e => old _ _ e) (X.inn.trans old)
  have loop : ∀ s3 : Shared, s3 = { s2 with heap := h₁, toks := s2.toks + ([] : List (Str × Value)).length } →
      codeAny (model pr w) A (.compLoop (.ListComp elt [⟨t1, i1, [], 0⟩, ⟨t2, i2, [], 0⟩] scope pos) 0 (.ref I) (.ref Da) env') (RR (.ref Da) C) s3 := by
    rintro s3 rfl
    refine codeAny_mono (loopHold (turn2_0 (elt := elt) (t1 := t1) (i1 := i1) (t2 := t2) (i2 := i2) (scope := scope) (pos := pos) (acc := .ref Da)) it1 B (fun i σ' => σ'.own = some (Da, .list (outs i))) (ha C)
      (fun i d σ' hd hi => ?_) ga H0 (Sub.refl _) W0 (fun m c hm => by cases hm) St0 rfl) ?_
    · have := turn C Da i d hd
      refine Bd.weaken (ρ := B i d) ?_ (fun x e hx => by rw [List.lookup_append, hx]; rfl)
      show Bd w n _ ⟨B i d, σ'.own⟩ _ _
      rw [hi]; exact this
    · rintro r s' ⟨rfl, gg, pg, σ', sm, sg, fg, pk, HF, inv⟩
      obtain ⟨⟨us, m, e1, q1⟩, e2, e3, e4⟩ := HF.own Da _ inv
      obtain ⟨mC, nC, _⟩ := HF.sit.var
      refine hRR _ _ _ ⟨gg, Da, us, m, mC, ⟨same_trans X.same (same_trans ⟨_, _, rfl⟩ sm), fun b o e => HF.ph _ _ (pk b o (sold b o e).1 (p0s b o (sold b o e).2.2 (sold b o e).2.1 (old _ _ (X.keep _ _ e)))), X.sub.trans sg, HF.sit.keep, fun b o e => ?_⟩, rfl, e1, fD, HF.gp.none e2, q1, nC, fC, HF.gp.none HF.pL, hDC⟩
      rcases fg b o e with z | z
      · exact X.fresh b o z
      · refine .inr ?_
        cases q : s.heap.get? b with
        | none => rfl
        | some o' => rw [p0s b o' (sold b o' q).2.2 (sold b o' q).2.1 (old _ _ (X.keep _ _ q))] at z; cases z
  exact codeAny_compStart_list (loop _ rfl) (it1.self 0 _ _ _ _ St0 (loop _ rfl))

theorem Ex.assignComp2 {σ : AS} {Q : AF → AS → Prop} {elt t1 i1 t2 i2 : Expr} {scope : Scope} {y : Str} {py pos spos : Pos} {items : List D} (B : Nat → D → Vars) (outs : Nat → List D) (hclos : closureFor scope env = pure []) (it : EvIt w n env σ.vs i1 items t1) (kind : scope.kind = .function) (nocell : ∀ y ∈ scope.names, y.2 ≠ .cell)
    (names : ∀ x ∈ scope.names, x.2 = .local → scope.names.lookup x.1 = some .local) (folds : ∀ x, foldedSetIterable i1 env x = pure x)
    (ha : ∀ C i d, items[i]? = some d → Asg w n (compEnvC scope [] C env) t1 d (B i d)) (hout0 : outs 0 = [])
    (turn : ∀ C a i d, items[i]? = some d → Bd w n (compEnvC scope [] C env) ⟨B i d, some (a, .list (outs i))⟩ (clause2 elt t1 i1 t2 i2 scope pos (.ref a) (compEnvC scope [] C env)) (fun σ' => σ'.own = some (a, .list (outs (i + 1)))))
    (hy : env.kindOf y = some .local) (h : Q .next ⟨(y, .list (outs items.length)) :: σ.vs, σ.own⟩)
    (hsw : swapsWith (.ListComp elt [⟨t1, i1, [], 0⟩, ⟨t2, i2, [], 0⟩] scope pos) (some (.Name y py)) spos.line env = pure true := by rfl) : Ex w n env σ (.Assign [.Name y py] (.ListComp elt [⟨t1, i1, [], 0⟩, ⟨t2, i2, [], 0⟩] scope pos) spos) Q := fun A s g p ga H => by
  have core := core2 (pos := pos) B outs it kind nocell ha hout0 turn
  rw [exec_Assign_Name_used _ _ _ _ hsw]
  refine wpAny_bind (wpAny_standAt (wpAny_bind ?_))
  show wpAny _ A (do let _ ← comprehension (.ListComp elt [⟨t1, i1, [], 0⟩, ⟨t2, i2, [], 0⟩] scope pos) scope env _ (newList []) false (eval i1 env) (some (PySem.assign (.Name y py) env))) _ _ s
  refine wpAny_bind (wpAny_mono (wpAny_comprehension_free (E := No) (use := some (PySem.assign (.Name y py) env)) (Q := fun _ s' => OutS env g p s Q .next s') rfl folds hclos kind names
    (core A s g ga H.sit (fun acc C => compPost (model pr w) A No (some (PySem.assign (.Name y py) env)) (fun _ s' => OutS env g p s Q .next s') acc C) ?_)) (fun _ s' hq => wpAny_pure (wpAny_pure hq)) fun _ _ e => e)
  rintro acc C s' ⟨g', Da, us, m, mC, X, rfl, e1, e2, e3, r, nC, f1, f2, hne⟩
  have X1 := (X.putIn e2 e3 e1)
  obtain ⟨p1, H1, m1, pn⟩ := H.ext X1
  obtain ⟨ml, nL, _⟩ := H.sit.var
  obtain ⟨oL, eL⟩ := Ns_some nL
  have hCL : C ≠ env.locals := fun q => by rw [q, eL] at f1; cases f1
  have hCc : ∀ m c, (m, c) ∈ env.cells → c ≠ C := fun m c hm q => by
    obtain ⟨_, _, ⟨u, o, q3, _⟩, _⟩ := H.pC m c hm
    rw [q, f1] at q3; cases q3
  have hCo : ∀ a od, σ.own = some (a, od) → a ≠ C := fun a od e q => by
    obtain ⟨o, ho⟩ := (H.own a od e).1.here
    rw [q, f1] at ho; cases ho
  show wpAny _ A (PySem.assign (.Name y py) env (.ref Da)) _ _ _
  refine wpAny_assign_Name (H1.store2 (.inl hy) (.list (put_self _ _ _) (r.mono (sub_put e3))) fun h2 t H2 kb => ?_)
  refine ⟨mC, nC.at' (fun o e => kb C o hCL (fun m c hm q => hCc m c hm q.symm) e), fun h3 hs3 => ?_⟩
  exact ⟨_, p1, .next, _, same_trans X1.same ⟨_, _, rfl⟩, m1, H2.but (pn C (H.ph.none f1) (put_none (Ne.symm hne) f2)) hCL hCc hCo hs3.extBut, rfl, h⟩
end
end Mine
end

-- P0
section
namespace Mine
open PySem PySem.W PyProof.Rows

/-- the law's own reading of a table with a row of ones added -/
def xorRow (t : List Int) (ones : Int) : List Int := (List.range t.length).map fun k => if (ones.fdiv (2 ^ k)).fmod 2 == 1 then Builtin.bitXor (t.getD k 0) ones else t.getD k 0
def fullOf (dr : List Int) : List Int := [0] ++ dr ++ [6]
def tableOf (rs : List Int) : List Int := outT (pointsOf rs) 6

/-- what the plain law says of a drawn row -/
structure Good (dr ks : List Int) : Prop where
  len : dr.length = 5
  rank : ∀ x ∈ dr, RankOK x
  kl : ks.length = 5
  kb : ∀ k ∈ ks, 0 ≤ k ∧ k < 256
  p1 : readRow ks (rowOf dr ks) 5 = dr
  p2 : readRow ks (swOut (rowOf dr ks) 2 5) 5 = dr.map fun x => -x
  p3 : readRow ks (swOut ((rowOf dr ks).take 8) 4 2 ++ (rowOf dr ks).drop 8) 5 = [-(dr.getD 1 0), -(dr.getD 0 0), -(dr.getD 3 0), -(dr.getD 2 0), dr.getD 4 0]
  p4 : range12.Perm (pointsOf (fullOf dr))
  mem : ∀ r : Nat, r ≤ 6 → (r : Int) ∈ fullOf dr ∨ -(r : Int) ∈ fullOf dr
  p6 : ∀ low high : Nat, 1 ≤ low → low ≤ high → high ≤ 5 → ∃ dr', readRow ks (turnedOf (rowOf dr ks) low high) 5 = dr' ∧ dr'.length = 5 ∧ range12.Perm (pointsOf (fullOf dr')) ∧
    tableOf (fullOf dr') = xorRow (tableOf (fullOf dr)) (onesOf (fullOf dr) low high)
  p7 : ∀ r : Nat, r < 6 → (((fullOf dr).any (· == (r : Int))) != ((fullOf dr).any (· == ((r : Int) + 1)))) = true → ∃ low high : Nat, 1 ≤ low ∧ low ≤ high ∧ high ≤ 5 ∧ stretchOf (fullOf dr) r = ((low : Int), (high : Int)) ∧
    (tableOf (fullOf dr)).getD r 0 = onesOf (fullOf dr) low high
theorem swIn_in {data : List Int} (hd : ∀ x ∈ data, 0 ≤ x ∧ x < 256) {W b : Nat} {acc : List Int} (ha : ∀ x ∈ acc, 0 ≤ x ∧ x < 256) : ∀ j, ∀ x ∈ swIn data W b acc j, 0 ≤ x ∧ x < 256
  | 0 => ha
  | j + 1 => fun x hx => by
    rcases List.mem_or_eq_of_mem_set hx with h | h
    · exact swIn_in hd ha j x h
    · rw [h]; exact word_in hd
theorem swOut_in {data : List Int} (hd : ∀ x ∈ data, 0 ≤ x ∧ x < 256) {W : Nat} : ∀ b, ∀ x ∈ swOut data W b, 0 ≤ x ∧ x < 256
  | 0 => fun x hx => by
    rw [swOut, List.mem_replicate] at hx
    rw [hx.2]; decide
  | b + 1 => swIn_in hd (swOut_in hd b) W
theorem turnedOf_in {data : List Int} (hd : ∀ x ∈ data, 0 ≤ x ∧ x < 256) {low high : Nat} : ∀ x ∈ turnedOf data low high, 0 ≤ x ∧ x < 256 := fun x hx => by
  unfold turnedOf at hx
  rcases List.mem_append.mp hx with hx | hx
  · rcases List.mem_append.mp hx with hx | hx
    · exact hd x (List.mem_of_mem_take hx)
    · exact swOut_in (fun y hy => hd y (List.mem_of_mem_drop (List.mem_of_mem_take hy))) _ x hx
  · exact hd x (List.mem_of_mem_drop hx)
theorem turnedOf_length {data : List Int} {low high : Nat} (hl : data.length = 10) (h1 : 1 ≤ low) (h2 : low ≤ high) (h3 : high ≤ 5) : (turnedOf data low high).length = 10 := by
  unfold turnedOf pieceOf
  simp only [List.length_append, List.length_take, List.length_drop, swOut_length]
  omega
end Mine
end

-- P1
section
namespace Mine
open PySem PySem.W PyProof.Rows

/-- six noughts and ones as a number -/
def bitsNum (a b c d e f : Bool) : Int := (if a = true then 1 else 0) + (if b = true then 2 else 0) + (if c = true then 4 else 0) + (if d = true then 8 else 0) + (if e = true then 16 else 0) + (if f = true then 32 else 0)
def num (v : Nat → Bool) : Int := bitsNum (v 0) (v 1) (v 2) (v 3) (v 4) (v 5)
theorem bits_nat (a b c d e f : Bool) : bitsNum a b c d e f = ((a.toNat + 2 * b.toNat + 4 * c.toNat + 8 * d.toNat + 16 * e.toNat + 32 * f.toNat : Nat) : Int) := by
  revert a b c d e f; decide
theorem xor_bits : ∀ a b c d e f a' b' c' d' e' f' : Bool, Builtin.bitXor (bitsNum a b c d e f) (bitsNum a' b' c' d' e' f') = bitsNum (a ^^ a') (b ^^ b') (c ^^ c') (d ^^ d') (e ^^ e') (f ^^ f') := by
  decide +kernel
theorem bit0 : ∀ a b c d e f : Bool, (((bitsNum a b c d e f).fdiv (2 ^ 0)).fmod 2 == 1) = a := by decide +kernel
theorem bit1 : ∀ a b c d e f : Bool, (((bitsNum a b c d e f).fdiv (2 ^ 1)).fmod 2 == 1) = b := by decide +kernel
theorem bit2 : ∀ a b c d e f : Bool, (((bitsNum a b c d e f).fdiv (2 ^ 2)).fmod 2 == 1) = c := by decide +kernel
theorem bit3 : ∀ a b c d e f : Bool, (((bitsNum a b c d e f).fdiv (2 ^ 3)).fmod 2 == 1) = d := by decide +kernel
theorem bit4 : ∀ a b c d e f : Bool, (((bitsNum a b c d e f).fdiv (2 ^ 4)).fmod 2 == 1) = e := by decide +kernel
theorem bit5 : ∀ a b c d e f : Bool, (((bitsNum a b c d e f).fdiv (2 ^ 5)).fmod 2 == 1) = f := by decide +kernel

/-- the rows of a table, with a row of ones added -/
theorem xorRow_num {M M' : Nat → Nat → Bool} {v : Nat → Bool} (h : ∀ r q, r < 6 → q < 6 → M' r q = (M r q ^^ (v r && v q))) :
    [num (M' 0), num (M' 1), num (M' 2), num (M' 3), num (M' 4), num (M' 5)] = xorRow [num (M 0), num (M 1), num (M 2), num (M 3), num (M 4), num (M 5)] (num v) := by
  have key : ∀ k, k < 6 → num (M' k) = if v k = true then Builtin.bitXor (num (M k)) (num v) else num (M k) := fun k hk => by
    unfold num
    rw [h k 0 hk (by decide), h k 1 hk (by decide), h k 2 hk (by decide), h k 3 hk (by decide), h k 4 hk (by decide), h k 5 hk (by decide)]
    cases hv : v k with
    | true => rw [if_pos rfl, xor_bits]; simp
    | false => rw [if_neg (by decide)]; simp
  show _ = [if ((num v).fdiv (2 ^ 0)).fmod 2 == 1 then Builtin.bitXor (num (M 0)) (num v) else num (M 0), if ((num v).fdiv (2 ^ 1)).fmod 2 == 1 then Builtin.bitXor (num (M 1)) (num v) else num (M 1), if ((num v).fdiv (2 ^ 2)).fmod 2 == 1 then Builtin.bitXor (num (M 2)) (num v) else num (M 2),
    if ((num v).fdiv (2 ^ 3)).fmod 2 == 1 then Builtin.bitXor (num (M 3)) (num v) else num (M 3), if ((num v).fdiv (2 ^ 4)).fmod 2 == 1 then Builtin.bitXor (num (M 4)) (num v) else num (M 4), if ((num v).fdiv (2 ^ 5)).fmod 2 == 1 then Builtin.bitXor (num (M 5)) (num v) else num (M 5)]
  rw [show (((num v).fdiv (2 ^ 0)).fmod 2 == 1) = v 0 from bit0 _ _ _ _ _ _, show (((num v).fdiv (2 ^ 1)).fmod 2 == 1) = v 1 from bit1 _ _ _ _ _ _, show (((num v).fdiv (2 ^ 2)).fmod 2 == 1) = v 2 from bit2 _ _ _ _ _ _,
    show (((num v).fdiv (2 ^ 3)).fmod 2 == 1) = v 3 from bit3 _ _ _ _ _ _, show (((num v).fdiv (2 ^ 4)).fmod 2 == 1) = v 4 from bit4 _ _ _ _ _ _, show (((num v).fdiv (2 ^ 5)).fmod 2 == 1) = v 5 from bit5 _ _ _ _ _ _]
  rw [key 0 (by decide), key 1 (by decide), key 2 (by decide), key 3 (by decide), key 4 (by decide), key 5 (by decide)]

theorem addAt_zero (t : List Int) (i : Nat) : addAt t i 0 = t := by
  unfold addAt
  rw [Int.add_zero]
  apply List.ext_getElem?
  intro j
  by_cases h : i = j
  · subst h
    by_cases hl : i < t.length
    · rw [List.getElem?_set_self hl, List.getD_eq_getElem?_getD, List.getElem?_eq_getElem hl]; rfl
    · rw [List.getElem?_eq_none (by simp; omega), List.getElem?_eq_none (by omega)]
  · rw [List.getElem?_set_ne h]
theorem addAt_if (b : Bool) (t : List Int) (i : Nat) (x : Int) : (if b = true then addAt t i x else t) = addAt t i (if b = true then x else 0) := by
  cases b
  · rw [if_neg (by decide), if_neg (by decide), addAt_zero]
  · rfl
theorem addAt_if2 (b : Bool) (t : List Int) (i j : Nat) (x y : Int) : (if b = true then addAt (addAt t i x) j y else t) = addAt (addAt t i (if b = true then x else 0)) j (if b = true then y else 0) := by
  cases b
  · rw [if_neg (by decide), if_neg (by decide), if_neg (by decide), addAt_zero, addAt_zero]
  · rfl
def diagB (pts : List Int) (r : Nat) : Bool := (((loOf pts r : Nat) : Int) + ((hiOf pts r : Nat) : Int)).fmod 2 == 0
def crossA (pts : List Int) (r q : Nat) : Bool := crossB (loOf pts r : Nat) (hiOf pts r : Nat) (loOf pts q : Nat) (hiOf pts q : Nat)
/-- the table as noughts and ones -/
def matOf (pts : List Int) (r q : Nat) : Bool := if r = q then diagB pts r else if q < r then crossA pts r q else crossA pts q r
theorem outT_num (pts : List Int) : outT pts 6 = [num (matOf pts 0), num (matOf pts 1), num (matOf pts 2), num (matOf pts 3), num (matOf pts 4), num (matOf pts 5)] := by
  have hd : ∀ t r, diagT pts t r = addAt t r (if diagB pts r = true then 2 ^ r else 0) := fun t r => addAt_if (diagB pts r) t r _
  have hi : ∀ t r q, inStep pts r t q = addAt (addAt t r (if crossA pts r q = true then 2 ^ q else 0)) q (if crossA pts r q = true then 2 ^ r else 0) := fun t r q => addAt_if2 (crossA pts r q) t r q _ _
  simp only [outT, inT, hd, hi]
  show _ = [bitsNum (diagB pts 0) (crossA pts 1 0) (crossA pts 2 0) (crossA pts 3 0) (crossA pts 4 0) (crossA pts 5 0), bitsNum (crossA pts 1 0) (diagB pts 1) (crossA pts 2 1) (crossA pts 3 1) (crossA pts 4 1) (crossA pts 5 1), bitsNum (crossA pts 2 0) (crossA pts 2 1) (diagB pts 2) (crossA pts 3 2) (crossA pts 4 2) (crossA pts 5 2), bitsNum (crossA pts 3 0) (crossA pts 3 1) (crossA pts 3 2) (diagB pts 3) (crossA pts 4 3) (crossA pts 5 3), bitsNum (crossA pts 4 0) (crossA pts 4 1) (crossA pts 4 2) (crossA pts 4 3) (diagB pts 4) (crossA pts 5 4), bitsNum (crossA pts 5 0) (crossA pts 5 1) (crossA pts 5 2) (crossA pts 5 3) (crossA pts 5 4) (diagB pts 5)]
  simp only [bitsNum]
  generalize diagB pts 0 = d0
  generalize diagB pts 1 = d1
  generalize diagB pts 2 = d2
  generalize diagB pts 3 = d3
  generalize diagB pts 4 = d4
  generalize diagB pts 5 = d5
  generalize crossA pts 1 0 = c10
  generalize crossA pts 2 0 = c20
  generalize crossA pts 2 1 = c21
  generalize crossA pts 3 0 = c30
  generalize crossA pts 3 1 = c31
  generalize crossA pts 3 2 = c32
  generalize crossA pts 4 0 = c40
  generalize crossA pts 4 1 = c41
  generalize crossA pts 4 2 = c42
  generalize crossA pts 4 3 = c43
  generalize crossA pts 5 0 = c50
  generalize crossA pts 5 1 = c51
  generalize crossA pts 5 2 = c52
  generalize crossA pts 5 3 = c53
  generalize crossA pts 5 4 = c54
  have ex : ∀ a b c d e f i x, addAt [a, b, c, d, e, f] i x = [a, b, c, d, e, f].set i ([a, b, c, d, e, f].getD i 0 + x) := fun _ _ _ _ _ _ _ _ => rfl
  have e0 : ∀ a b c d e f x, addAt [a, b, c, d, e, f] 0 x = [a + x, b, c, d, e, f] := fun _ _ _ _ _ _ _ => rfl
  have e1 : ∀ a b c d e f x, addAt [a, b, c, d, e, f] 1 x = [a, b + x, c, d, e, f] := fun _ _ _ _ _ _ _ => rfl
  have e2 : ∀ a b c d e f x, addAt [a, b, c, d, e, f] 2 x = [a, b, c + x, d, e, f] := fun _ _ _ _ _ _ _ => rfl
  have e3 : ∀ a b c d e f x, addAt [a, b, c, d, e, f] 3 x = [a, b, c, d + x, e, f] := fun _ _ _ _ _ _ _ => rfl
  have e4 : ∀ a b c d e f x, addAt [a, b, c, d, e, f] 4 x = [a, b, c, d, e + x, f] := fun _ _ _ _ _ _ _ => rfl
  have e5 : ∀ a b c d e f x, addAt [a, b, c, d, e, f] 5 x = [a, b, c, d, e, f + x] := fun _ _ _ _ _ _ _ => rfl
  simp only [e0, e1, e2, e3, e4, e5]
  have q0 : (2 : Int) ^ 0 = 1 := rfl
  have q1 : (2 : Int) ^ 1 = 2 := rfl
  have q2 : (2 : Int) ^ 2 = 4 := rfl
  have q3 : (2 : Int) ^ 3 = 8 := rfl
  have q4 : (2 : Int) ^ 4 = 16 := rfl
  have q5 : (2 : Int) ^ 5 = 32 := rfl
  simp only [q0, q1, q2, q3, q4, q5]
  congr 1
  · omega
  congr 1
  · omega
  congr 1
  · omega
  congr 1
  · omega
  congr 1
  · omega
  congr 1
  · omega
end Mine
end

-- P2
section
namespace Mine
open PySem PySem.W PyProof.Rows

def flipAt (s e p : Nat) : Nat := if s ≤ p ∧ p ≤ e then s + e - p else p
def inn (s e p : Nat) : Bool := decide (s ≤ p ∧ p ≤ e)
def ltB (a b : Nat) : Bool := decide (a < b)
def crossX (p p' t t' : Nat) : Bool := (ltB p t ^^ ltB p t') ^^ (ltB p' t ^^ ltB p' t')
theorem bool_iff {a b : Bool} (h : a = true ↔ b = true) : a = b := by
  cases a <;> cases b <;> simp at h ⊢
theorem flip_lt {s e x y : Nat} (h : x ≠ y) : ltB (flipAt s e x) (flipAt s e y) = (ltB x y ^^ (inn s e x && inn s e y)) := by
  unfold ltB flipAt inn
  by_cases h1 : s ≤ x ∧ x ≤ e
  · by_cases h2 : s ≤ y ∧ y ≤ e
    · rw [if_pos h1, if_pos h2, decide_eq_true h1, decide_eq_true h2]
      by_cases h3 : x < y
      · rw [decide_eq_true h3, decide_eq_false (by omega)]; rfl
      · rw [decide_eq_false h3, decide_eq_true (by omega)]; rfl
    · rw [if_pos h1, if_neg h2, decide_eq_false h2, Bool.and_false, Bool.xor_false]
      by_cases h3 : x < y
      · rw [decide_eq_true h3, decide_eq_true (by omega)]
      · rw [decide_eq_false h3, decide_eq_false (by omega)]
  · rw [if_neg h1, decide_eq_false h1, Bool.false_and, Bool.xor_false]
    by_cases h2 : s ≤ y ∧ y ≤ e
    · rw [if_pos h2]
      by_cases h3 : x < y
      · rw [decide_eq_true h3, decide_eq_true (by omega)]
      · rw [decide_eq_false h3, decide_eq_false (by omega)]
    · rw [if_neg h2]
theorem flip_ne {s e x y : Nat} (h : x ≠ y) : flipAt s e x ≠ flipAt s e y := by
  unfold flipAt
  split <;> split <;> omega
theorem lt_not {a b : Nat} (h : a ≠ b) : decide (b < a) = !decide (a < b) := by
  by_cases z : a < b
  · rw [decide_eq_true z, decide_eq_false (Nat.lt_asymm z)]; rfl
  · rw [decide_eq_false z, decide_eq_true (Nat.lt_of_le_of_ne (Nat.le_of_not_lt z) (Ne.symm h))]; rfl
theorem lt_imp {a b c : Nat} (h : a < b) : (!decide (b < c) || decide (a < c)) = true := by
  by_cases z : b < c
  · rw [decide_eq_true z, decide_eq_true (Nat.lt_trans h z)]; rfl
  · rw [decide_eq_false z]; rfl
theorem lt_imp' {a b c : Nat} (h : b < c) : (!decide (a < b) || decide (a < c)) = true := by
  by_cases z : a < b
  · rw [decide_eq_true z, decide_eq_true (Nat.lt_trans z h)]; rfl
  · rw [decide_eq_false z]; rfl
theorem cross_bool : ∀ A B C D : Bool, (!C || A) = true → (!D || B) = true → (!A || B) = true → (!C || D) = true → ((A && (!C && D)) || (!A && (B && !D))) = ((A ^^ B) ^^ (C ^^ D)) := by decide
/-- two arcs with their ends in order -/
theorem cross_ord {p p' t t' : Nat} (h1 : p < p') (h6 : t < t') (h2 : p ≠ t) (h3 : p ≠ t') (h4 : p' ≠ t) (h5 : p' ≠ t') : ((decide (p < t) && (decide (t < p') && decide (p' < t'))) || (decide (t < p) && (decide (p < t') && decide (t' < p')))) = crossX p p' t t' := by
  rw [lt_not h4, lt_not h2, lt_not h5]
  exact cross_bool _ _ _ _ (lt_imp h1) (lt_imp h1) (lt_imp' h6) (lt_imp' h6)
theorem swap_bool : ∀ A B C D : Bool, ((A ^^ B) ^^ (C ^^ D)) = ((C ^^ D) ^^ (A ^^ B)) := by decide
theorem swap_bool2 : ∀ A B C D : Bool, ((A ^^ B) ^^ (C ^^ D)) = ((B ^^ A) ^^ (D ^^ C)) := by decide
theorem cross_X {p p' t t' : Nat} (h1 : p ≠ p') (h2 : p ≠ t) (h3 : p ≠ t') (h4 : p' ≠ t) (h5 : p' ≠ t') (h6 : t ≠ t') : crossB ((min p p' : Nat) : Int) ((max p p' : Nat) : Int) ((min t t' : Nat) : Int) ((max t t' : Nat) : Int) = crossX p p' t t' := by
  have lt : ∀ a b : Nat, decide (((a : Nat) : Int) < ((b : Nat) : Int)) = decide (a < b) := fun a b => decide_eq_decide.mpr Int.ofNat_lt
  have sw1 : crossX p' p t t' = crossX p p' t t' := swap_bool _ _ _ _
  have sw2 : ∀ p p', crossX p p' t' t = crossX p p' t t' := fun p p' => swap_bool2 _ _ _ _
  unfold crossB
  rw [lt, lt, lt, lt, lt, lt]
  rcases Nat.lt_or_gt_of_ne h1 with a | a <;> rcases Nat.lt_or_gt_of_ne h6 with b | b
  · rw [Nat.min_eq_left (Nat.le_of_lt a), Nat.max_eq_right (Nat.le_of_lt a), Nat.min_eq_left (Nat.le_of_lt b), Nat.max_eq_right (Nat.le_of_lt b)]
    exact cross_ord a b h2 h3 h4 h5
  · rw [Nat.min_eq_left (Nat.le_of_lt a), Nat.max_eq_right (Nat.le_of_lt a), Nat.min_eq_right (Nat.le_of_lt b), Nat.max_eq_left (Nat.le_of_lt b), ← sw2]
    exact cross_ord a b h3 h2 h5 h4
  · rw [Nat.min_eq_right (Nat.le_of_lt a), Nat.max_eq_left (Nat.le_of_lt a), Nat.min_eq_left (Nat.le_of_lt b), Nat.max_eq_right (Nat.le_of_lt b), ← sw1]
    exact cross_ord a b h4 h5 h2 h3
  · rw [Nat.min_eq_right (Nat.le_of_lt a), Nat.max_eq_left (Nat.le_of_lt a), Nat.min_eq_right (Nat.le_of_lt b), Nat.max_eq_left (Nat.le_of_lt b), ← sw2]
    rw [show crossX p p' t' t = crossX p' p t' t from swap_bool _ _ _ _]
    exact cross_ord a b h5 h4 h3 h2
theorem sym_bool : ∀ A B C D : Bool, (((!A) ^^ (!C)) ^^ ((!B) ^^ (!D))) = ((A ^^ B) ^^ (C ^^ D)) := by decide
theorem crossX_sym {p p' t t' : Nat} (h2 : p ≠ t) (h3 : p ≠ t') (h4 : p' ≠ t) (h5 : p' ≠ t') : crossX t t' p p' = crossX p p' t t' := by
  unfold crossX ltB
  rw [lt_not h2, lt_not h3, lt_not h4, lt_not h5]
  exact sym_bool _ _ _ _
theorem flip_bool : ∀ A B C D x y z u : Bool, (((A ^^ (x && z)) ^^ (B ^^ (x && u))) ^^ ((C ^^ (y && z)) ^^ (D ^^ (y && u)))) = (((A ^^ B) ^^ (C ^^ D)) ^^ ((x ^^ y) && (z ^^ u))) := by decide
theorem crossX_flip {s e p p' t t' : Nat} (h2 : p ≠ t) (h3 : p ≠ t') (h4 : p' ≠ t) (h5 : p' ≠ t') :
    crossX (flipAt s e p) (flipAt s e p') (flipAt s e t) (flipAt s e t') = (crossX p p' t t' ^^ ((inn s e p ^^ inn s e p') && (inn s e t ^^ inn s e t'))) := by
  unfold crossX
  rw [flip_lt h2, flip_lt h3, flip_lt h4, flip_lt h5]
  exact flip_bool _ _ _ _ _ _ _ _
def evenB (p p' : Nat) : Bool := decide ((p + p') % 2 = 0)
theorem diag_even {p p' : Nat} : ((((min p p' : Nat) : Int) + ((max p p' : Nat) : Int)).fmod 2 == 0) = evenB p p' := by
  have : (((min p p' : Nat) : Int) + ((max p p' : Nat) : Int)) = ((p + p' : Nat) : Int) := by omega
  rw [this]
  have h : Int.fmod ((p + p' : Nat) : Int) 2 = (((p + p') % 2 : Nat) : Int) := fmod_nat (p + p') 2
  rw [h]
  unfold evenB
  apply bool_iff
  simp only [beq_iff_eq, decide_eq_true_eq]
  omega
theorem par_flip {k p p' z : Nat} (h : z + p' = 2 * k + 1) : ((p + z) % 2 = 0) ↔ ¬ ((p + p') % 2 = 0) := by
  omega
theorem even_flip {s e p p' : Nat} (hs : (s + e) % 2 = 1) : evenB (flipAt s e p) (flipAt s e p') = (evenB p p' ^^ (inn s e p ^^ inn s e p')) := by
  obtain ⟨k, hk⟩ : ∃ k, s + e = 2 * k + 1 := ⟨(s + e) / 2, by omega⟩
  unfold evenB flipAt inn
  by_cases h1 : s ≤ p ∧ p ≤ e
  · by_cases h2 : s ≤ p' ∧ p' ≤ e
    · rw [if_pos h1, if_pos h2, decide_eq_true h1, decide_eq_true h2, Bool.xor_self, Bool.xor_false]
      apply bool_iff
      rw [decide_eq_true_eq, decide_eq_true_eq]
      have z1 : s + e - p + p = 2 * k + 1 := by omega
      have z2 : s + e - p' + p' = 2 * k + 1 := by omega
      generalize s + e - p = z at z1 ⊢
      generalize s + e - p' = z' at z2 ⊢
      omega
    · rw [if_pos h1, if_neg h2, decide_eq_true h1, decide_eq_false h2, Bool.xor_false, Bool.xor_true]
      apply bool_iff
      rw [Bool.not_eq_true', decide_eq_false_iff_not, decide_eq_true_eq]
      have z1 : s + e - p + p = 2 * k + 1 := by omega
      have := par_flip (p := p') z1
      rw [Nat.add_comm p' p, Nat.add_comm p'] at this
      exact this
  · by_cases h2 : s ≤ p' ∧ p' ≤ e
    · rw [if_neg h1, if_pos h2, decide_eq_false h1, decide_eq_true h2, Bool.false_xor, Bool.xor_true]
      apply bool_iff
      rw [Bool.not_eq_true', decide_eq_false_iff_not, decide_eq_true_eq]
      exact par_flip (k := k) (by omega)
    · rw [if_neg h1, if_neg h2, decide_eq_false h1, decide_eq_false h2, Bool.xor_self, Bool.xor_false]

theorem idx_inj {l : List Int} {x y : Int} (hx : x ∈ l) (h : l.idxOf x = l.idxOf y) : x = y := by
  have h1 : l.idxOf x < l.length := List.idxOf_lt_length_iff.mpr hx
  have h2 : l.idxOf y < l.length := by omega
  have e1 : l[l.idxOf x] = x := List.getElem_idxOf h1
  have e2 : l[l.idxOf y] = y := List.getElem_idxOf h2
  rw [← e1, ← e2]
  congr 1
theorem two_mem {r : Nat} (h : r < 6) : (2 * (r : Int)) ∈ range12 ∧ (2 * (r : Int) + 1) ∈ range12 := (show ∀ r : Nat, r < 6 → (2 * (r : Int)) ∈ range12 ∧ (2 * (r : Int) + 1) ∈ range12 by decide) r h
def posL (pts : List Int) (r : Nat) : Nat := pts.idxOf (2 * (r : Int))
def posR (pts : List Int) (r : Nat) : Nat := pts.idxOf (2 * (r : Int) + 1)
section
variable {pts : List Int} (mem : ∀ x ∈ range12, x ∈ pts)
include mem
theorem pos_ne {r q : Nat} (hr : r < 6) (hq : q < 6) : posL pts r ≠ posR pts q ∧ (r ≠ q → posL pts r ≠ posL pts q ∧ posR pts r ≠ posR pts q) := by
  obtain ⟨a, b⟩ := two_mem hr
  obtain ⟨c, d⟩ := two_mem hq
  refine ⟨fun h => ?_, fun hne => ⟨fun h => ?_, fun h => ?_⟩⟩
  · have := idx_inj (mem _ a) h; omega
  · have := idx_inj (mem _ a) h; omega
  · have := idx_inj (mem _ b) h; omega
theorem matOf_X {r q : Nat} (hr : r < 6) (hq : q < 6) (hne : r ≠ q) : matOf pts r q = crossX (posL pts r) (posR pts r) (posL pts q) (posR pts q) := by
  have a1 := (pos_ne mem hr hr).1
  have a2 := (pos_ne mem hq hq).1
  have a3 := (pos_ne mem hr hq).1
  have a4 := (pos_ne mem hq hr).1
  have a5 := (pos_ne mem hr hq).2 hne
  unfold matOf
  rw [if_neg hne]
  split
  · exact cross_X a1 a5.1 a3 (Ne.symm a4) a5.2 a2
  · rw [← crossX_sym a5.1 a3 (Ne.symm a4) a5.2]
    exact cross_X a2 (Ne.symm a5.1) a4 (Ne.symm a3) (Ne.symm a5.2) a1
omit mem in
theorem matOf_diag {r : Nat} : matOf pts r r = evenB (posL pts r) (posR pts r) := by
  unfold matOf
  rw [if_pos rfl]
  exact diag_even
def vOf (pts : List Int) (s e r : Nat) : Bool := inn s e (posL pts r) ^^ inn s e (posR pts r)
omit mem in
theorem mat_flip {pts pts' : List Int} (mem : ∀ x ∈ range12, x ∈ pts) (mem' : ∀ x ∈ range12, x ∈ pts') {s e : Nat} (hs : (s + e) % 2 = 1) (hpos : ∀ x ∈ range12, pts'.idxOf x = flipAt s e (pts.idxOf x)) {r q : Nat} (hr : r < 6) (hq : q < 6) :
    matOf pts' r q = (matOf pts r q ^^ (vOf pts s e r && vOf pts s e q)) := by
  obtain ⟨a, b⟩ := two_mem hr
  obtain ⟨c, d⟩ := two_mem hq
  have e1 : posL pts' r = flipAt s e (posL pts r) := hpos _ a
  have e2 : posR pts' r = flipAt s e (posR pts r) := hpos _ b
  have e3 : posL pts' q = flipAt s e (posL pts q) := hpos _ c
  have e4 : posR pts' q = flipAt s e (posR pts q) := hpos _ d
  by_cases hne : r = q
  · subst hne
    rw [matOf_diag, matOf_diag, e1, e2, even_flip hs, Bool.and_self]; rfl
  · rw [matOf_X mem hr hq hne, matOf_X mem' hr hq hne, e1, e2, e3, e4]
    have a3 := (pos_ne mem hr hq).1
    have a4 := (pos_ne mem hq hr).1
    have a5 := (pos_ne mem hr hq).2 hne
    rw [crossX_flip a5.1 a3 (Ne.symm a4) a5.2]; rfl
omit mem in
theorem inn_key {s e p p' : Nat} (h1 : p ≠ p') (hse : (s = min p p' + 1 ∧ e = max p p') ∨ (s = min p p' ∧ e + 1 = max p p')) (t : Nat) (k1 : p ≠ t) (k2 : p' ≠ t) : inn s e t = (ltB p t ^^ ltB p' t) := by
  have key : ∀ a b : Nat, a < b → a ≠ t → b ≠ t → ((s = a + 1 ∧ e = b) ∨ (s = a ∧ e + 1 = b)) → inn s e t = (ltB a t ^^ ltB b t) := fun a b hab h1 h2 h => by
    unfold inn ltB
    by_cases c : b < t
    · rw [decide_eq_true c, decide_eq_true (Nat.lt_trans hab c), decide_eq_false (by omega)]; rfl
    · rw [decide_eq_false c, Bool.xor_false]
      exact decide_eq_decide.mpr (by omega)
  rcases Nat.lt_or_gt_of_ne h1 with a | a
  · rw [Nat.min_eq_left (Nat.le_of_lt a), Nat.max_eq_right (Nat.le_of_lt a)] at hse
    exact key _ _ a k1 k2 hse
  · rw [Nat.min_eq_right (Nat.le_of_lt a), Nat.max_eq_left (Nat.le_of_lt a)] at hse
    rw [key _ _ a k2 k1 hse, Bool.xor_comm]
omit mem in
theorem inn_self {s e p p' : Nat} (h1 : p ≠ p') (hse : (s = min p p' + 1 ∧ e = max p p') ∨ (s = min p p' ∧ e + 1 = max p p')) : (inn s e p ^^ inn s e p') = true := by
  have key : ∀ a b : Nat, a < b → ((s = a + 1 ∧ e = b) ∨ (s = a ∧ e + 1 = b)) → (inn s e a ^^ inn s e b) = true := fun a b hab h => by
    unfold inn
    rcases h with ⟨rfl, rfl⟩ | ⟨rfl, h⟩
    · rw [decide_eq_false (by omega), decide_eq_true (by omega)]; rfl
    · rw [decide_eq_true (by omega), decide_eq_false (by omega)]; rfl
  rcases Nat.lt_or_gt_of_ne h1 with a | a
  · rw [Nat.min_eq_left (Nat.le_of_lt a), Nat.max_eq_right (Nat.le_of_lt a)] at hse
    exact key _ _ a hse
  · rw [Nat.min_eq_right (Nat.le_of_lt a), Nat.max_eq_left (Nat.le_of_lt a)] at hse
    rw [Bool.xor_comm]
    exact key _ _ a hse
omit mem in
theorem mix_bool : ∀ A B C D : Bool, ((A ^^ B) ^^ (C ^^ D)) = ((A ^^ C) ^^ (B ^^ D)) := by decide
theorem mat_row {s e r : Nat} (hr : r < 6) (hev : (posL pts r + posR pts r) % 2 = 0) (hse : (s = min (posL pts r) (posR pts r) + 1 ∧ e = max (posL pts r) (posR pts r)) ∨ (s = min (posL pts r) (posR pts r) ∧ e + 1 = max (posL pts r) (posR pts r)))
    {q : Nat} (hq : q < 6) : matOf pts r q = vOf pts s e q := by
  have a1 := (pos_ne mem hr hr).1
  by_cases hne : r = q
  · subst hne
    rw [matOf_diag]
    unfold evenB vOf
    rw [decide_eq_true hev, inn_self a1 hse]
  · rw [matOf_X mem hr hq hne]
    have a3 := (pos_ne mem hr hq).1
    have a4 := (pos_ne mem hq hr).1
    have a5 := (pos_ne mem hr hq).2 hne
    unfold crossX vOf
    rw [inn_key a1 hse _ a5.1 (Ne.symm a4), inn_key a1 hse _ a3 a5.2]
    exact mix_bool _ _ _ _
end
end Mine
end

-- P3
section
namespace Mine
open PySem PySem.W PyProof.Rows

theorem idx_of_get : ∀ {l : List Int} {i : Nat} {x : Int}, l.Nodup → l[i]? = some x → l.idxOf x = i
  | [], i, x, _, h => by simp at h
  | y :: l, 0, x, _, h => by
    simp at h; subst h
    rw [List.idxOf_cons_self]
  | y :: l, i + 1, x, hn, h => by
    obtain ⟨h1, h2⟩ := List.nodup_cons.mp hn
    have hx : l[i]? = some x := by simpa using h
    have hne : y ≠ x := fun e => h1 (e ▸ List.mem_of_getElem? hx)
    rw [List.idxOf_cons]
    have : (y == x) = false := by simpa using hne
    rw [this, idx_of_get h2 hx]; rfl
theorem get_idx {l : List Int} {x : Int} (h : x ∈ l) : l[l.idxOf x]? = some x := by
  have hl := List.idxOf_lt_length_iff.mpr h
  rw [List.getElem?_eq_getElem hl, List.getElem_idxOf hl]
/-- a stretch of a list turned -/
def revPts (l : List Int) (s e : Nat) : List Int := l.take s ++ ((l.drop s).take (e + 1 - s)).reverse ++ l.drop (e + 1)
theorem revPts_get {l : List Int} {s e j : Nat} (hs : s ≤ e) (he : e < l.length) (hj : j < l.length) : (revPts l s e)[j]? = l[flipAt s e j]? := by
  have h1 : (l.take s).length = s := by rw [List.length_take]; omega
  have h2 : ((l.drop s).take (e + 1 - s)).length = e + 1 - s := by rw [List.length_take, List.length_drop]; omega
  unfold revPts flipAt
  by_cases c1 : j < s
  · rw [if_neg (by omega), List.append_assoc, List.getElem?_append_left (by omega), List.getElem?_take, if_pos c1]
  · by_cases c2 : j ≤ e
    · rw [if_pos ⟨by omega, c2⟩, List.append_assoc, List.getElem?_append_right (by omega), h1, List.getElem?_append_left (by rw [List.length_reverse, h2]; omega), List.getElem?_reverse (by rw [h2]; omega), h2, List.getElem?_take, if_pos (by omega), List.getElem?_drop]
      congr 1; omega
    · rw [if_neg (by omega), List.getElem?_append_right (by rw [List.length_append, List.length_reverse, h1, h2]; omega), List.length_append, List.length_reverse, h1, h2, List.getElem?_drop]
      congr 1; omega
theorem revPts_length {l : List Int} {s e : Nat} (hs : s ≤ e) (he : e < l.length) : (revPts l s e).length = l.length := by
  unfold revPts
  simp only [List.length_append, List.length_take, List.length_reverse, List.length_drop]
  omega
theorem revPts_perm (l : List Int) {s e : Nat} (hs : s ≤ e) : (revPts l s e).Perm l := by
  unfold revPts
  have h : l = l.take s ++ ((l.drop s).take (e + 1 - s)) ++ l.drop (e + 1) := by
    have : l.drop (e + 1) = (l.drop s).drop (e + 1 - s) := by rw [List.drop_drop]; congr 1; omega
    rw [this, List.append_assoc, List.take_append_drop, List.take_append_drop]
  refine List.Perm.trans ?_ (List.Perm.of_eq h.symm)
  exact ((List.reverse_perm _).append_left _).append_right _
theorem flip_flip {s e p : Nat} : flipAt s e (flipAt s e p) = p := by
  unfold flipAt
  by_cases h : s ≤ p ∧ p ≤ e
  · rw [if_pos h, if_pos (by omega)]; omega
  · rw [if_neg h, if_neg h]
theorem revPts_idx {l : List Int} {s e : Nat} (hs : s ≤ e) (he : e < l.length) (hn : l.Nodup) {x : Int} (hx : x ∈ l) : (revPts l s e).idxOf x = flipAt s e (l.idxOf x) := by
  have hl := List.idxOf_lt_length_iff.mpr hx
  have hf : flipAt s e (l.idxOf x) < l.length := by
    unfold flipAt
    split <;> omega
  refine idx_of_get ((revPts_perm l hs).nodup_iff.mpr hn) ?_
  rw [revPts_get hs he hf, flip_flip, get_idx hx]
theorem within_any {l : List Int} {s e : Nat} (hn : l.Nodup) {x : Int} (hx : x ∈ l) : (((l.drop s).take (e + 1 - s)).any (· == x)) = inn s e (l.idxOf x) := by
  apply bool_iff
  unfold inn
  rw [decide_eq_true_eq]
  constructor
  · intro h
    have hm := any_mem h
    obtain ⟨k, hk⟩ := List.mem_iff_getElem?.mp hm
    rw [List.getElem?_take] at hk
    split at hk
    · rw [List.getElem?_drop] at hk
      rw [idx_of_get hn hk]
      omega
    · cases hk
  · intro h
    refine mem_any (List.mem_iff_getElem?.mpr ⟨l.idxOf x - s, ?_⟩)
    rw [List.getElem?_take, if_pos (by omega), List.getElem?_drop, show s + (l.idxOf x - s) = l.idxOf x by omega, get_idx hx]

theorem gatherI_sum (t : Nat → Bool) (f : Nat → Int) (i : Nat) : (gatherI t f (i + 1)).sum = (gatherI t f i).sum + if t i = true then f i else 0 := by
  rw [gatherI]
  split
  · simp
  · simp
theorem gatherI_num (t : Nat → Bool) : (gatherI t (fun r => 2 ^ r) 6).sum = num t := by
  rw [gatherI_sum, gatherI_sum, gatherI_sum, gatherI_sum, gatherI_sum, gatherI_sum]
  show 0 + _ + _ + _ + _ + _ + _ = _
  rw [Int.zero_add]
  rfl
theorem ones_num {rs : List Int} {low high : Nat} (hn : (pointsOf rs).Nodup) (mem : ∀ x ∈ range12, x ∈ pointsOf rs) : onesOf rs low high = num (vOf (pointsOf rs) (2 * low - 1) (2 * high)) := by
  unfold onesOf
  rw [gatherI_num]
  have key : ∀ r, r < 6 → splitBy (withinOf rs low high) r = vOf (pointsOf rs) (2 * low - 1) (2 * high) r := fun r hr => by
    obtain ⟨a, b⟩ := two_mem hr
    unfold splitBy withinOf vOf
    rw [within_any hn (mem _ a), within_any hn (mem _ b)]
    show (inn _ _ _ != inn _ _ _) = (inn _ _ _ ^^ inn _ _ _)
    rw [Bool.xor]
    rfl
  unfold num
  rw [key 0 (by decide), key 1 (by decide), key 2 (by decide), key 3 (by decide), key 4 (by decide), key 5 (by decide)]

/-- the table of a row with one stretch turned -/
theorem table_flip {rs rs' : List Int} {low high : Nat} (hp : range12.Perm (pointsOf rs)) (h1 : 1 ≤ low) (h2 : low ≤ high) (h3 : high ≤ 5) (hr : pointsOf rs' = revPts (pointsOf rs) (2 * low - 1) (2 * high)) :
    range12.Perm (pointsOf rs') ∧ tableOf rs' = xorRow (tableOf rs) (onesOf rs low high) := by
  have hn : (pointsOf rs).Nodup := hp.nodup_iff.mp (by decide)
  have hl : (pointsOf rs).length = 12 := by rw [← hp.length_eq]; rfl
  have mem : ∀ x ∈ range12, x ∈ pointsOf rs := fun x hx => hp.subset hx
  have hp' : range12.Perm (pointsOf rs') := by rw [hr]; exact hp.trans (revPts_perm _ (by omega)).symm
  refine ⟨hp', ?_⟩
  unfold tableOf
  rw [outT_num, outT_num, ones_num hn mem]
  refine xorRow_num fun r q hr' hq => ?_
  exact mat_flip mem (fun x hx => hp'.subset hx) (by omega) (fun x hx => by rw [hr]; exact revPts_idx (by omega) (by omega) hn (mem x hx)) hr' hq
end Mine
end

-- P4
section
namespace Mine
open PySem PySem.W PyProof.Rows

theorem insI_perm (l : List Int) (k : Nat) (x : Int) : (insI l k x).Perm (x :: l) := by
  unfold insI
  refine List.perm_middle.trans ?_
  rw [List.take_append_drop]
theorem ranksAt_perm (r : Int) : (ranksAt r 5).Perm [5, 4, 3, 2, 1] := by
  have step : ∀ i (l : List Int), (ranksAt r i).Perm l → (ranksAt r (i + 1)).Perm (((i : Int) + 1) :: l) := fun i l h => (insI_perm _ _ _).trans (h.cons _)
  exact step 4 _ (step 3 _ (step 2 _ (step 1 _ (step 0 _ (List.Perm.refl _)))))
theorem len5 {l : List Int} (h : l.length = 5) : ∃ a b c d e, l = [a, b, c, d, e] := by
  match l, h with
  | [a, b, c, d, e], _ => exact ⟨a, b, c, d, e, rfl⟩
def Sgn (m x : Int) : Prop := x = m ∨ x = -m
/-- what is drawn: the ranks 1 to 5 in some order, some turned -/
structure Shape (x0 x1 x2 x3 x4 : Int) : Prop where
  ex : ∃ m0 m1 m2 m3 m4 : Int, [m0, m1, m2, m3, m4].Perm [5, 4, 3, 2, 1] ∧ Sgn m0 x0 ∧ Sgn m1 x1 ∧ Sgn m2 x2 ∧ Sgn m3 x3 ∧ Sgn m4 x4
theorem drawn_shape (n0 n1 : Int) : ∃ x0 x1 x2 x3 x4, drawnOf n0 n1 = [x0, x1, x2, x3, x4] ∧ Shape x0 x1 x2 x3 x4 := by
  have hp := ranksAt_perm (n0.fmod 120)
  obtain ⟨a, b, c, d, e, h⟩ := len5 (ranksAt_length (n0.fmod 120) 5)
  rw [h] at hp
  have sg : ∀ (t : Bool) (m : Int), Sgn m (if t = true then -m else m) := fun t m => by cases t; exact .inl rfl; exact .inr rfl
  refine ⟨_, _, _, _, _, ?_, ⟨a, b, c, d, e, hp, sg ((n1.fdiv (2 ^ 0)).fmod 2 == 1) a, sg ((n1.fdiv (2 ^ 1)).fmod 2 == 1) b, sg ((n1.fdiv (2 ^ 2)).fmod 2 == 1) c, sg ((n1.fdiv (2 ^ 3)).fmod 2 == 1) d, sg ((n1.fdiv (2 ^ 4)).fmod 2 == 1) e⟩⟩
  unfold drawnOf
  rw [h]; rfl

-- the kinds and the words
structure KindsOK (ks : List Int) : Prop where
  ex : ∃ b c d, ks = [1, b, c, d, 255] ∧ 2 ≤ b ∧ b ≤ 85 ∧ 86 ≤ c ∧ c ≤ 169 ∧ 170 ≤ d ∧ d ≤ 254
theorem kinds_ok (n2 n3 : Int) : KindsOK (kindsOf n2 n3) := by
  have h1 := Int.fmod_nonneg_of_pos n2 (b := 84) (by decide)
  have h2 := Int.fmod_lt_of_pos n2 (b := 84) (by decide)
  have h3 := Int.fmod_nonneg_of_pos n3 (b := 84) (by decide)
  have h4 := Int.fmod_lt_of_pos n3 (b := 84) (by decide)
  have h5 := Int.fmod_nonneg_of_pos (n2 + n3) (b := 85) (by decide)
  have h6 := Int.fmod_lt_of_pos (n2 + n3) (b := 85) (by decide)
  exact ⟨_, _, _, rfl, by omega, by omega, by omega, by omega, by omega, by omega⟩
def hiO (ks : List Int) (x : Int) : Int := if x > 0 then 0 else ks.getD (-x - 1).toNat 0
def loO (ks : List Int) (x : Int) : Int := if x > 0 then ks.getD (x - 1).toNat 0 else 0
theorem word_eq (ks : List Int) (x : Int) : wordOf ks x = [hiO ks x, loO ks x] := by
  unfold wordOf hiO loO
  split <;> rfl
theorem hiO_neg {ks : List Int} {x : Int} (h : x ≠ 0) : hiO ks (-x) = loO ks x ∧ loO ks (-x) = hiO ks x := by
  unfold hiO loO
  by_cases c : x > 0
  · have c' : ¬ (-x > 0) := by omega
    simp only [c, c', if_true, if_false, Int.neg_neg, and_self]
  · have c' : -x > 0 := by omega
    simp only [c, c', if_true, if_false, and_self]
theorem rank_word {ks : List Int} (K : KindsOK ks) {y : Int} (hy : RankOK y) : rankOf ks (hiO ks y * 256 + loO ks y) = y := by
  obtain ⟨b, c, d, rfl, b1, b2, c1, c2, d1, d2⟩ := K.ex
  have fd : ∀ x : Int, (x * 256 + 0).fdiv 256 = x := fun x => by rw [Int.add_zero, Int.mul_fdiv_cancel _ (by decide)]
  have pos : ∀ (i : Nat) (k : Int), k < 256 → [1, b, c, d, 255][i]? = some k → [1, b, c, d, 255].Nodup → rankOf [1, b, c, d, 255] (0 * 256 + k) = (i : Int) + 1 := fun i k hk hi hn => by
    rw [show (0 : Int) * 256 + k = k by omega]
    unfold rankOf
    rw [if_pos (by rw [decide_eq_true hk, mem_any (List.mem_of_getElem? hi)]; rfl), idx_of_get hn hi]
  have neg : ∀ (i : Nat) (k : Int), 1 ≤ k → [1, b, c, d, 255][i]? = some k → [1, b, c, d, 255].Nodup → rankOf [1, b, c, d, 255] (k * 256 + 0) = -1 - (i : Int) := fun i k hk hi hn => by
    unfold rankOf
    rw [if_neg (by rw [decide_eq_false (by omega), Bool.false_and]; exact Bool.false_ne_true), fd, if_pos (by rw [decide_eq_false (by omega), mem_any (List.mem_of_getElem? hi)]; rfl), idx_of_get hn hi]
  have hn : [1, b, c, d, 255].Nodup := by
    simp only [List.nodup_cons, List.mem_cons, List.not_mem_nil, or_false, not_or, List.nodup_nil, and_true, not_false_eq_true]
    refine ⟨⟨?_, ?_, ?_, ?_⟩, ⟨?_, ?_, ?_⟩, ⟨?_, ?_⟩, ?_⟩ <;> omega
  have hy' : y = 1 ∨ y = 2 ∨ y = 3 ∨ y = 4 ∨ y = 5 ∨ y = -1 ∨ y = -2 ∨ y = -3 ∨ y = -4 ∨ y = -5 := by unfold RankOK at hy; omega
  rcases hy' with rfl | rfl | rfl | rfl | rfl | rfl | rfl | rfl | rfl | rfl
  · exact pos 0 1 (by decide) rfl hn
  · exact pos 1 b (by omega) rfl hn
  · exact pos 2 c (by omega) rfl hn
  · exact pos 3 d (by omega) rfl hn
  · exact pos 4 255 (by decide) rfl hn
  · exact neg 0 1 (by decide) rfl hn
  · exact neg 1 b (by omega) rfl hn
  · exact neg 2 c (by omega) rfl hn
  · exact neg 3 d (by omega) rfl hn
  · exact neg 4 255 (by decide) rfl hn
theorem row5 (ks : List Int) (a b c d e : Int) : rowOf [a, b, c, d, e] ks = [hiO ks a, loO ks a, hiO ks b, loO ks b, hiO ks c, loO ks c, hiO ks d, loO ks d, hiO ks e, loO ks e] := by
  unfold rowOf
  simp only [List.flatMap_cons, List.flatMap_nil, word_eq]
  rfl
theorem read5 (ks : List Int) (a a' b b' c c' d d' e e' : Int) : readRow ks [a, a', b, b', c, c', d, d', e, e'] 5 = [rankOf ks (a * 256 + a'), rankOf ks (b * 256 + b'), rankOf ks (c * 256 + c'), rankOf ks (d * 256 + d'), rankOf ks (e * 256 + e')] := rfl
theorem read_row {ks : List Int} (K : KindsOK ks) {a b c d e : Int} (ha : RankOK a) (hb : RankOK b) (hc : RankOK c) (hd : RankOK d) (he : RankOK e) : readRow ks (rowOf [a, b, c, d, e] ks) 5 = [a, b, c, d, e] := by
  rw [row5, read5, rank_word K ha, rank_word K hb, rank_word K hc, rank_word K hd, rank_word K he]

/-- a stretch of words turned -/
def revOf (l : List Int) (low high : Nat) : List Int := l.take (low - 1) ++ (((l.drop (low - 1)).take (high + 1 - low)).reverse.map fun x => -x) ++ l.drop high
theorem cases15 {P : Nat → Nat → Prop} (h : P 1 1 ∧ P 1 2 ∧ P 1 3 ∧ P 1 4 ∧ P 1 5 ∧ P 2 2 ∧ P 2 3 ∧ P 2 4 ∧ P 2 5 ∧ P 3 3 ∧ P 3 4 ∧ P 3 5 ∧ P 4 4 ∧ P 4 5 ∧ P 5 5) {low high : Nat} (h1 : 1 ≤ low) (h2 : low ≤ high) (h3 : high ≤ 5) : P low high := by
  obtain ⟨a1, a2, a3, a4, a5, a6, a7, a8, a9, b1, b2, b3, b4, b5, b6⟩ := h
  have hl : low = 1 ∨ low = 2 ∨ low = 3 ∨ low = 4 ∨ low = 5 := by omega
  have hh : high = 1 ∨ high = 2 ∨ high = 3 ∨ high = 4 ∨ high = 5 := by omega
  rcases hl with rfl | rfl | rfl | rfl | rfl
  · rcases hh with rfl | rfl | rfl | rfl | rfl
    · exact a1
    · exact a2
    · exact a3
    · exact a4
    · exact a5
  · rcases hh with rfl | rfl | rfl | rfl | rfl
    · exact absurd h2 (by decide)
    · exact a6
    · exact a7
    · exact a8
    · exact a9
  · rcases hh with rfl | rfl | rfl | rfl | rfl
    · exact absurd h2 (by decide)
    · exact absurd h2 (by decide)
    · exact b1
    · exact b2
    · exact b3
  · rcases hh with rfl | rfl | rfl | rfl | rfl
    · exact absurd h2 (by decide)
    · exact absurd h2 (by decide)
    · exact absurd h2 (by decide)
    · exact b4
    · exact b5
  · rcases hh with rfl | rfl | rfl | rfl | rfl
    · exact absurd h2 (by decide)
    · exact absurd h2 (by decide)
    · exact absurd h2 (by decide)
    · exact absurd h2 (by decide)
    · exact b6
theorem turned_row {ks : List Int} {a b c d e : Int} (ha : a ≠ 0) (hb : b ≠ 0) (hc : c ≠ 0) (hd : d ≠ 0) (he : e ≠ 0) {low high : Nat} (h1 : 1 ≤ low) (h2 : low ≤ high) (h3 : high ≤ 5) :
    turnedOf (rowOf [a, b, c, d, e] ks) low high = rowOf (revOf [a, b, c, d, e] low high) ks := by
  have ra := hiO_neg (ks := ks) ha
  have rb := hiO_neg (ks := ks) hb
  have rc := hiO_neg (ks := ks) hc
  have rd := hiO_neg (ks := ks) hd
  have re := hiO_neg (ks := ks) he
  rw [row5]
  refine cases15 (P := fun low high => turnedOf [hiO ks a, loO ks a, hiO ks b, loO ks b, hiO ks c, loO ks c, hiO ks d, loO ks d, hiO ks e, loO ks e] low high = rowOf (revOf [a, b, c, d, e] low high) ks) ?_ h1 h2 h3
  have r1 : ∀ low high a' b' c' d' e', revOf [a, b, c, d, e] low high = [a', b', c', d', e'] → rowOf (revOf [a, b, c, d, e] low high) ks = [hiO ks a', loO ks a', hiO ks b', loO ks b', hiO ks c', loO ks c', hiO ks d', loO ks d', hiO ks e', loO ks e'] := fun _ _ _ _ _ _ _ h => by rw [h, row5]
  refine ⟨?_, ?_, ?_, ?_, ?_, ?_, ?_, ?_, ?_, ?_, ?_, ?_, ?_, ?_, ?_⟩ <;>
    (rw [r1 _ _ _ _ _ _ _ rfl]; simp only [ra.1, ra.2, rb.1, rb.2, rc.1, rc.2, rd.1, rd.2, re.1, re.2]; rfl)
def pa (x : Int) : Int := if x > 0 then 2 * x - 1 else -2 * x
def pb (x : Int) : Int := if x > 0 then 2 * x else -2 * x - 1
theorem pt_eq (x : Int) : ptOf x = [pa x, pb x] := by
  unfold ptOf pa pb
  split <;> rfl
theorem pa_neg {x : Int} (h : x ≠ 0) : pa (-x) = pb x ∧ pb (-x) = pa x := by
  unfold pa pb
  by_cases c : x > 0
  · have c' : ¬ (-x > 0) := by omega
    simp only [c, c', if_true, if_false]
    exact ⟨by omega, by omega⟩
  · have c' : -x > 0 := by omega
    simp only [c, c', if_true, if_false]
    exact ⟨by omega, by omega⟩
theorem points5 (a b c d e : Int) : pointsOf (fullOf [a, b, c, d, e]) = [0, pa a, pb a, pa b, pb b, pa c, pb c, pa d, pb d, pa e, pb e, 11] := by
  unfold pointsOf fullOf
  show [0] ++ ([a, b, c, d, e].flatMap ptOf) ++ [11] = _
  simp only [List.flatMap_cons, List.flatMap_nil, pt_eq]
  rfl
theorem points_rev {a b c d e : Int} (ha : a ≠ 0) (hb : b ≠ 0) (hc : c ≠ 0) (hd : d ≠ 0) (he : e ≠ 0) {low high : Nat} (h1 : 1 ≤ low) (h2 : low ≤ high) (h3 : high ≤ 5) :
    pointsOf (fullOf (revOf [a, b, c, d, e] low high)) = revPts (pointsOf (fullOf [a, b, c, d, e])) (2 * low - 1) (2 * high) := by
  have ra := pa_neg ha
  have rb := pa_neg hb
  have rc := pa_neg hc
  have rd := pa_neg hd
  have re := pa_neg he
  rw [points5]
  refine cases15 (P := fun low high => pointsOf (fullOf (revOf [a, b, c, d, e] low high)) = revPts [0, pa a, pb a, pa b, pb b, pa c, pb c, pa d, pb d, pa e, pb e, 11] (2 * low - 1) (2 * high)) ?_ h1 h2 h3
  have r1 : ∀ low high a' b' c' d' e', revOf [a, b, c, d, e] low high = [a', b', c', d', e'] → pointsOf (fullOf (revOf [a, b, c, d, e] low high)) = [0, pa a', pb a', pa b', pb b', pa c', pb c', pa d', pb d', pa e', pb e', 11] := fun _ _ _ _ _ _ _ h => by rw [h, points5]
  refine ⟨?_, ?_, ?_, ?_, ?_, ?_, ?_, ?_, ?_, ?_, ?_, ?_, ?_, ?_, ?_⟩ <;>
    (rw [r1 _ _ _ _ _ _ _ rfl]; simp only [ra.1, ra.2, rb.1, rb.2, rc.1, rc.2, rd.1, rd.2, re.1, re.2]; rfl)
end Mine
end

-- P5
section
namespace Mine
open PySem PySem.W PyProof.Rows

theorem getD_get {l : List Int} {i : Nat} {y : Int} (h : l[i]? = some y) : l.getD i 0 = y := by
  rw [List.getD_eq_getElem?_getD, h]; rfl
theorem place_get {a b c d e : Int} {i : Nat} {y : Int} (h : (fullOf [a, b, c, d, e])[i]? = some y) : (i = 0 ∧ y = 0) ∨ (1 ≤ i ∧ i ≤ 5 ∧ (y = a ∨ y = b ∨ y = c ∨ y = d ∨ y = e) ∧ (pointsOf (fullOf [a, b, c, d, e]))[2 * i - 1]? = some (pa y) ∧ (pointsOf (fullOf [a, b, c, d, e]))[2 * i]? = some (pb y)) ∨ (i = 6 ∧ y = 6) := by
  have hl : i < 7 := (List.getElem?_eq_some_iff.mp h).1
  have hi : i = 0 ∨ i = 1 ∨ i = 2 ∨ i = 3 ∨ i = 4 ∨ i = 5 ∨ i = 6 := by omega
  rw [points5]
  rcases hi with rfl | rfl | rfl | rfl | rfl | rfl | rfl
  · exact .inl ⟨rfl, (Option.some.inj h).symm⟩
  · have : a = y := Option.some.inj h
    subst this
    exact .inr (.inl ⟨by decide, by decide, by simp, rfl, rfl⟩)
  · have : b = y := Option.some.inj h
    subst this
    exact .inr (.inl ⟨by decide, by decide, by simp, rfl, rfl⟩)
  · have : c = y := Option.some.inj h
    subst this
    exact .inr (.inl ⟨by decide, by decide, by simp, rfl, rfl⟩)
  · have : d = y := Option.some.inj h
    subst this
    exact .inr (.inl ⟨by decide, by decide, by simp, rfl, rfl⟩)
  · have : e = y := Option.some.inj h
    subst this
    exact .inr (.inl ⟨by decide, by decide, by simp, rfl, rfl⟩)
  · exact .inr (.inr ⟨rfl, (Option.some.inj h).symm⟩)

section
variable {a b c d e : Int} (ha : RankOK a) (hb : RankOK b) (hc : RankOK c) (hd : RankOK d) (he : RankOK e) (hn : (pointsOf (fullOf [a, b, c, d, e])).Nodup)
include ha hb hc hd he
theorem rank_of {y : Int} (h : y = a ∨ y = b ∨ y = c ∨ y = d ∨ y = e) : RankOK y := by
  rcases h with rfl | rfl | rfl | rfl | rfl <;> assumption
include hn
theorem posL_right {r i : Nat} (hr : r < 6) (h : (fullOf [a, b, c, d, e])[i]? = some (r : Int)) : posL (pointsOf (fullOf [a, b, c, d, e])) r = 2 * i ∧ i ≤ 5 := by
  rcases place_get h with ⟨rfl, h0⟩ | ⟨h1, h2, h3, h4, h5⟩ | ⟨_, h6⟩
  · have : r = 0 := by omega
    subst this
    refine ⟨idx_of_get hn ?_, by decide⟩
    rw [points5]; rfl
  · have hk := rank_of ha hb hc hd he h3
    have hp : (r : Int) > 0 := by unfold RankOK at hk; omega
    refine ⟨idx_of_get hn ?_, h2⟩
    rw [h5]; unfold pb; rw [if_pos hp]
  · omega
theorem posL_turned {r i : Nat} (hr : 0 < r) (h : (fullOf [a, b, c, d, e])[i]? = some (-(r : Int))) : posL (pointsOf (fullOf [a, b, c, d, e])) r = 2 * i - 1 ∧ 1 ≤ i ∧ i ≤ 5 := by
  rcases place_get h with ⟨rfl, h0⟩ | ⟨h1, h2, h3, h4, h5⟩ | ⟨_, h6⟩
  · omega
  · refine ⟨idx_of_get hn ?_, h1, h2⟩
    rw [h4]; unfold pa; rw [if_neg (by omega)]; congr 1; omega
  · omega
theorem posR_right {r i : Nat} (hr : r < 6) (h : (fullOf [a, b, c, d, e])[i]? = some ((r : Int) + 1)) : posR (pointsOf (fullOf [a, b, c, d, e])) r = 2 * i - 1 ∧ 1 ≤ i ∧ i ≤ 6 := by
  rcases place_get h with ⟨rfl, h0⟩ | ⟨h1, h2, h3, h4, h5⟩ | ⟨rfl, h6⟩
  · omega
  · refine ⟨idx_of_get hn ?_, h1, by omega⟩
    rw [h4]; unfold pa; rw [if_pos (by omega)]; congr 1; omega
  · refine ⟨idx_of_get hn ?_, by decide, by decide⟩
    have : (r : Int) = 5 := by omega
    rw [this, points5]; rfl
theorem posR_turned {r i : Nat} (h : (fullOf [a, b, c, d, e])[i]? = some (-((r : Int) + 1))) : posR (pointsOf (fullOf [a, b, c, d, e])) r = 2 * i ∧ 1 ≤ i ∧ i ≤ 5 := by
  rcases place_get h with ⟨rfl, h0⟩ | ⟨h1, h2, h3, h4, h5⟩ | ⟨_, h6⟩
  · omega
  · refine ⟨idx_of_get hn ?_, h1, h2⟩
    rw [h5]; unfold pb; rw [if_neg (by omega)]; congr 1; omega
  · omega
end

theorem ar_right {i j pL pR : Nat} (q1 : pL = 2 * i) (q3 : pR = 2 * j) (hij : i ≠ j) (hi : i ≤ 5) (j2 : j ≤ 5) : 1 ≤ min i j + 1 ∧ min i j + 1 ≤ max i j ∧ max i j ≤ 5 ∧ (pL + pR) % 2 = 0 ∧ 2 * (min i j + 1) - 1 = min pL pR + 1 ∧ 2 * max i j = max pL pR := by
  subst q1 q3
  rcases Nat.lt_or_gt_of_ne hij with a | a
  · rw [Nat.min_eq_left (Nat.le_of_lt a), Nat.max_eq_right (Nat.le_of_lt a), Nat.min_eq_left (Nat.mul_le_mul_left 2 (Nat.le_of_lt a)), Nat.max_eq_right (Nat.mul_le_mul_left 2 (Nat.le_of_lt a))]
    exact ⟨Nat.le_add_left _ _, a, j2, by omega, by omega, rfl⟩
  · rw [Nat.min_eq_right (Nat.le_of_lt a), Nat.max_eq_left (Nat.le_of_lt a), Nat.min_eq_right (Nat.mul_le_mul_left 2 (Nat.le_of_lt a)), Nat.max_eq_left (Nat.mul_le_mul_left 2 (Nat.le_of_lt a))]
    exact ⟨Nat.le_add_left _ _, a, hi, by omega, by omega, rfl⟩
theorem ar_turned {i j pL pR : Nat} (q1 : pL = 2 * i - 1) (q3 : pR = 2 * j - 1) (hij : i ≠ j) (i1 : 1 ≤ i) (hi : i ≤ 5) (j1 : 1 ≤ j) (j2 : j ≤ 6) : 1 ≤ min i j ∧ min i j ≤ max i j - 1 ∧ max i j - 1 ≤ 5 ∧ (pL + pR) % 2 = 0 ∧ 2 * min i j - 1 = min pL pR ∧ 2 * (max i j - 1) + 1 = max pL pR := by
  subst q1 q3
  rcases Nat.lt_or_gt_of_ne hij with a | a
  · have b : 2 * i - 1 ≤ 2 * j - 1 := by omega
    rw [Nat.min_eq_left (Nat.le_of_lt a), Nat.max_eq_right (Nat.le_of_lt a), Nat.min_eq_left b, Nat.max_eq_right b]
    exact ⟨i1, Nat.le_sub_one_of_lt a, by omega, by omega, rfl, by omega⟩
  · have b : 2 * j - 1 ≤ 2 * i - 1 := by omega
    rw [Nat.min_eq_right (Nat.le_of_lt a), Nat.max_eq_left (Nat.le_of_lt a), Nat.min_eq_right b, Nat.max_eq_left b]
    exact ⟨j1, Nat.le_sub_one_of_lt a, by omega, by omega, rfl, by omega⟩
theorem ne_succ (r : Int) : r ≠ -(r + 1) := by omega
theorem ne_succ' (r : Int) : -r ≠ r + 1 := by omega
theorem sum_right (r : Int) : ¬ ((r + -(r + 1) == 1) = true) := by
  rw [beq_iff_eq]; omega
theorem sum_turned (r : Int) : (-r + (r + 1) == 1) = true := by
  rw [beq_iff_eq]; omega
theorem row_case {a b c d e : Int} (ha : RankOK a) (hb : RankOK b) (hc : RankOK c) (hd : RankOK d) (he : RankOK e) (hp : range12.Perm (pointsOf (fullOf [a, b, c, d, e]))) (hm : ∀ r : Nat, r ≤ 6 → (r : Int) ∈ fullOf [a, b, c, d, e] ∨ -(r : Int) ∈ fullOf [a, b, c, d, e])
    (r : Nat) (hr : r < 6) (h : (((fullOf [a, b, c, d, e]).any (· == (r : Int))) != ((fullOf [a, b, c, d, e]).any (· == ((r : Int) + 1)))) = true) :
    ∃ low high : Nat, 1 ≤ low ∧ low ≤ high ∧ high ≤ 5 ∧ stretchOf (fullOf [a, b, c, d, e]) r = ((low : Int), (high : Int)) ∧ (tableOf (fullOf [a, b, c, d, e])).getD r 0 = onesOf (fullOf [a, b, c, d, e]) low high := by
  have hn : (pointsOf (fullOf [a, b, c, d, e])).Nodup := hp.nodup_iff.mp (by decide)
  have mem : ∀ x ∈ range12, x ∈ pointsOf (fullOf [a, b, c, d, e]) := fun x hx => hp.subset hx
  have row : ∀ low high : Nat, (∀ q, q < 6 → matOf (pointsOf (fullOf [a, b, c, d, e])) r q = vOf (pointsOf (fullOf [a, b, c, d, e])) (2 * low - 1) (2 * high) q) → (tableOf (fullOf [a, b, c, d, e])).getD r 0 = onesOf (fullOf [a, b, c, d, e]) low high := fun low high hq => by
    rw [ones_num hn mem]
    unfold tableOf
    rw [outT_num]
    have : num (matOf (pointsOf (fullOf [a, b, c, d, e])) r) = num (vOf (pointsOf (fullOf [a, b, c, d, e])) (2 * low - 1) (2 * high)) := by
      unfold num
      rw [hq 0 (by decide), hq 1 (by decide), hq 2 (by decide), hq 3 (by decide), hq 4 (by decide), hq 5 (by decide)]
    rw [← this]
    match r, hr with
    | 0, _ => rfl
    | 1, _ => rfl
    | 2, _ => rfl
    | 3, _ => rfl
    | 4, _ => rfl
    | 5, _ => rfl
  have e1 : placeOf' (fullOf [a, b, c, d, e]) r = (fullOf [a, b, c, d, e]).idxOf (if (fullOf [a, b, c, d, e]).any (· == (r : Int)) = true then (r : Int) else -(r : Int)) := rfl
  have e2 : placeOf' (fullOf [a, b, c, d, e]) ((r : Int) + 1) = (fullOf [a, b, c, d, e]).idxOf (if (fullOf [a, b, c, d, e]).any (· == ((r : Int) + 1)) = true then ((r : Int) + 1) else -((r : Int) + 1)) := rfl
  have m1 := hm r (by omega)
  have m2 : ((r : Int) + 1) ∈ fullOf [a, b, c, d, e] ∨ -((r : Int) + 1) ∈ fullOf [a, b, c, d, e] := hm (r + 1) (by omega)
  have st : stretchOf (fullOf [a, b, c, d, e]) r = if ((fullOf [a, b, c, d, e]).getD (min (placeOf' (fullOf [a, b, c, d, e]) r) (placeOf' (fullOf [a, b, c, d, e]) ((r : Int) + 1))) 0 + (fullOf [a, b, c, d, e]).getD (max (placeOf' (fullOf [a, b, c, d, e]) r) (placeOf' (fullOf [a, b, c, d, e]) ((r : Int) + 1))) 0 == 1) = true
      then (((min (placeOf' (fullOf [a, b, c, d, e]) r) (placeOf' (fullOf [a, b, c, d, e]) ((r : Int) + 1)) : Nat) : Int), ((max (placeOf' (fullOf [a, b, c, d, e]) r) (placeOf' (fullOf [a, b, c, d, e]) ((r : Int) + 1)) : Nat) : Int) - 1)
      else (((min (placeOf' (fullOf [a, b, c, d, e]) r) (placeOf' (fullOf [a, b, c, d, e]) ((r : Int) + 1)) : Nat) : Int) + 1, ((max (placeOf' (fullOf [a, b, c, d, e]) r) (placeOf' (fullOf [a, b, c, d, e]) ((r : Int) + 1)) : Nat) : Int)) := rfl
  generalize placeOf' (fullOf [a, b, c, d, e]) r = i at e1 st
  generalize placeOf' (fullOf [a, b, c, d, e]) ((r : Int) + 1) = j at e2 st
  have sum : ∀ x y : Int, (fullOf [a, b, c, d, e])[i]? = some x → (fullOf [a, b, c, d, e])[j]? = some y → (fullOf [a, b, c, d, e]).getD (min i j) 0 + (fullOf [a, b, c, d, e]).getD (max i j) 0 = x + y := fun x y hx hy => by
    by_cases hij : i ≤ j
    · rw [Nat.min_eq_left hij, Nat.max_eq_right hij, getD_get hx, getD_get hy]
    · rw [Nat.min_eq_right (by omega), Nat.max_eq_left (by omega), getD_get hx, getD_get hy, Int.add_comm]
  have ne : ∀ x y : Int, (fullOf [a, b, c, d, e])[i]? = some x → (fullOf [a, b, c, d, e])[j]? = some y → x ≠ y → i ≠ j := fun x y hx hy hne hij => by
    subst hij; rw [hx] at hy; exact hne (Option.some.inj hy)
  cases hA : (fullOf [a, b, c, d, e]).any (· == (r : Int)) with
  | true =>
    cases hB : (fullOf [a, b, c, d, e]).any (· == ((r : Int) + 1)) with
    | true => rw [hA, hB] at h; cases h
    | false =>
      rw [hA, if_pos rfl] at e1
      rw [hB, if_neg (by decide)] at e2
      have g1 := get_idx (any_mem hA)
      rw [← e1] at g1
      have g2 := get_idx (m2.resolve_left fun z => by rw [mem_any z] at hB; cases hB)
      rw [← e2] at g2
      obtain ⟨q1, q2⟩ := posL_right ha hb hc hd he hn hr g1
      obtain ⟨q3, q4, q5⟩ := posR_turned ha hb hc hd he hn g2
      have hne := ne _ _ g1 g2 (ne_succ _)
      obtain ⟨z1, z2, z3, z4, z5⟩ := ar_right q1 q3 hne q2 q5
      refine ⟨min i j + 1, max i j, z1, z2, z3, ?_, row _ _ fun q hq => mat_row mem hr z4 (.inl z5) hq⟩
      rw [st, sum _ _ g1 g2, if_neg (sum_right _)]
      rfl
  | false =>
    cases hB : (fullOf [a, b, c, d, e]).any (· == ((r : Int) + 1)) with
    | false => rw [hA, hB] at h; cases h
    | true =>
      rw [hA, if_neg (by decide)] at e1
      rw [hB, if_pos rfl] at e2
      have g1 := get_idx (m1.resolve_left fun z => by rw [mem_any z] at hA; cases hA)
      rw [← e1] at g1
      have g2 := get_idx (any_mem hB)
      rw [← e2] at g2
      have hr0 : 0 < r := by
        rcases Nat.eq_zero_or_pos r with z | z
        · subst z
          have : ((0 : Nat) : Int) ∈ fullOf [a, b, c, d, e] := List.mem_cons_self ..
          rw [mem_any this] at hA; cases hA
        · exact z
      obtain ⟨q1, q2, q2'⟩ := posL_turned ha hb hc hd he hn hr0 g1
      obtain ⟨q3, q4, q5⟩ := posR_right ha hb hc hd he hn hr g2
      have hne := ne _ _ g1 g2 (ne_succ' _)
      obtain ⟨z1, z2, z3, z4, z5⟩ := ar_turned q1 q3 hne q2 q2' q4 q5
      refine ⟨min i j, max i j - 1, z1, z2, z3, ?_, row _ _ fun q hq => mat_row mem hr z4 (.inr z5) hq⟩
      rw [st, sum _ _ g1 g2, if_pos (sum_turned _)]
      congr 1
      exact (Int.ofNat_sub (Nat.le_trans q4 (Nat.le_max_right i j))).symm
end Mine
end

-- P6
section
namespace Mine
open PySem PySem.W PyProof.Rows

theorem mem5 {m : Int} (h : m ∈ ([5, 4, 3, 2, 1] : List Int)) : 1 ≤ m ∧ m ≤ 5 := by
  simp only [List.mem_cons, List.not_mem_nil, or_false] at h
  omega
theorem sgn_rank {m x : Int} (h : 1 ≤ m ∧ m ≤ 5) (s : Sgn m x) : RankOK x := by
  unfold RankOK
  rcases s with rfl | rfl <;> omega
theorem sgn_pts {m x : Int} (h : 1 ≤ m ∧ m ≤ 5) (s : Sgn m x) : [2 * m - 1, 2 * m].Perm [pa x, pb x] := by
  unfold pa pb
  rcases s with rfl | rfl
  · rw [if_pos (by omega), if_pos (by omega)]
  · rw [if_neg (by omega), if_neg (by omega), show -2 * -m = 2 * m by omega]
    exact List.Perm.swap _ _ _
theorem pts_perm {x0 x1 x2 x3 x4 m0 m1 m2 m3 m4 : Int} (hp : [m0, m1, m2, m3, m4].Perm [5, 4, 3, 2, 1]) (b0 : 1 ≤ m0 ∧ m0 ≤ 5) (b1 : 1 ≤ m1 ∧ m1 ≤ 5) (b2 : 1 ≤ m2 ∧ m2 ≤ 5) (b3 : 1 ≤ m3 ∧ m3 ≤ 5) (b4 : 1 ≤ m4 ∧ m4 ≤ 5)
    (s0 : Sgn m0 x0) (s1 : Sgn m1 x1) (s2 : Sgn m2 x2) (s3 : Sgn m3 x3) (s4 : Sgn m4 x4) : range12.Perm (pointsOf (fullOf [x0, x1, x2, x3, x4])) := by
  rw [points5]
  have e1 : ([5, 4, 3, 2, 1] : List Int).flatMap (fun m => [2 * m - 1, 2 * m]) = [9, 10, 7, 8, 5, 6, 3, 4, 1, 2] := by decide
  have e2 := hp.flatMap_right (fun m => [2 * m - 1, 2 * m])
  rw [e1] at e2
  have e3 : [m0, m1, m2, m3, m4].flatMap (fun m => [2 * m - 1, 2 * m]) = [2 * m0 - 1, 2 * m0] ++ ([2 * m1 - 1, 2 * m1] ++ ([2 * m2 - 1, 2 * m2] ++ ([2 * m3 - 1, 2 * m3] ++ [2 * m4 - 1, 2 * m4]))) := rfl
  rw [e3] at e2
  have e4 := e2.symm.trans ((sgn_pts b0 s0).append ((sgn_pts b1 s1).append ((sgn_pts b2 s2).append ((sgn_pts b3 s3).append (sgn_pts b4 s4)))))
  have e5 := (e4.append_right [11]).cons 0
  have e6 : range12.Perm (0 :: ([9, 10, 7, 8, 5, 6, 3, 4, 1, 2] ++ [11])) := by decide
  exact e6.trans e5
theorem mem_full {x0 x1 x2 x3 x4 m0 m1 m2 m3 m4 : Int} (hp : [m0, m1, m2, m3, m4].Perm [5, 4, 3, 2, 1]) (s0 : Sgn m0 x0) (s1 : Sgn m1 x1) (s2 : Sgn m2 x2) (s3 : Sgn m3 x3) (s4 : Sgn m4 x4) :
    ∀ r : Nat, r ≤ 6 → (r : Int) ∈ fullOf [x0, x1, x2, x3, x4] ∨ -(r : Int) ∈ fullOf [x0, x1, x2, x3, x4] := fun r hr => by
  have hf : fullOf [x0, x1, x2, x3, x4] = [0, x0, x1, x2, x3, x4, 6] := rfl
  rw [hf]
  have sg : ∀ {m x : Int}, (r : Int) = m → Sgn m x → x ∈ [0, x0, x1, x2, x3, x4, 6] → (r : Int) ∈ [0, x0, x1, x2, x3, x4, 6] ∨ -(r : Int) ∈ [0, x0, x1, x2, x3, x4, 6] := fun {m x} e s hx => by
    rcases s with rfl | rfl
    · exact .inl (e ▸ hx)
    · exact .inr (by rw [e]; exact hx)
  by_cases c0 : r = 0
  · subst c0; exact .inl (List.mem_cons_self ..)
  by_cases c6 : r = 6
  · subst c6; exact .inl (by simp)
  have hin : (r : Int) ∈ ([5, 4, 3, 2, 1] : List Int) := by
    have : r = 1 ∨ r = 2 ∨ r = 3 ∨ r = 4 ∨ r = 5 := by omega
    rcases this with rfl | rfl | rfl | rfl | rfl <;> decide
  have hin2 := hp.symm.subset hin
  rcases List.mem_cons.mp hin2 with h | h
  · exact sg h s0 (by simp)
  rcases List.mem_cons.mp h with h | h
  · exact sg h s1 (by simp)
  rcases List.mem_cons.mp h with h | h
  · exact sg h s2 (by simp)
  rcases List.mem_cons.mp h with h | h
  · exact sg h s3 (by simp)
  rcases List.mem_cons.mp h with h | h
  · exact sg h s4 (by simp)
  · cases h
theorem good_of {x0 x1 x2 x3 x4 : Int} {ks : List Int} (S : Shape x0 x1 x2 x3 x4) (K : KindsOK ks) : Good [x0, x1, x2, x3, x4] ks := by
  obtain ⟨m0, m1, m2, m3, m4, hp, s0, s1, s2, s3, s4⟩ := S.ex
  have hm : ∀ m ∈ [m0, m1, m2, m3, m4], 1 ≤ m ∧ m ≤ 5 := fun m h => mem5 (hp.subset h)
  have b0 := hm m0 (by simp)
  have b1 := hm m1 (by simp)
  have b2 := hm m2 (by simp)
  have b3 := hm m3 (by simp)
  have b4 := hm m4 (by simp)
  have r0 := sgn_rank b0 s0
  have r1 := sgn_rank b1 s1
  have r2 := sgn_rank b2 s2
  have r3 := sgn_rank b3 s3
  have r4 := sgn_rank b4 s4
  have ng : ∀ {x : Int}, RankOK x → RankOK (-x) := fun {x} h => by unfold RankOK at h ⊢; omega
  have nz : ∀ {x : Int}, RankOK x → x ≠ 0 := fun {x} h => by unfold RankOK at h; omega
  have h0 := hiO_neg (ks := ks) (nz r0)
  have h1 := hiO_neg (ks := ks) (nz r1)
  have h2 := hiO_neg (ks := ks) (nz r2)
  have h3 := hiO_neg (ks := ks) (nz r3)
  have h4 := hiO_neg (ks := ks) (nz r4)
  have p4 := pts_perm hp b0 b1 b2 b3 b4 s0 s1 s2 s3 s4
  have mem := mem_full hp s0 s1 s2 s3 s4
  refine ⟨rfl, ?_, ?_, ?_, read_row K r0 r1 r2 r3 r4, ?_, ?_, p4, mem, fun low high a1 a2 a3 => ?_, fun r hr h => row_case r0 r1 r2 r3 r4 p4 mem r hr h⟩
  · intro x hx
    simp only [List.mem_cons, List.not_mem_nil, or_false] at hx
    rcases hx with rfl | rfl | rfl | rfl | rfl <;> assumption
  · obtain ⟨b, c, d, rfl, _⟩ := K.ex
    rfl
  · obtain ⟨b, c, d, rfl, k1, k2, k3, k4, k5, k6⟩ := K.ex
    intro k hk
    simp only [List.mem_cons, List.not_mem_nil, or_false] at hk
    omega
  · have e : swOut (rowOf [x0, x1, x2, x3, x4] ks) 2 5 = rowOf [-x0, -x1, -x2, -x3, -x4] ks := by
      rw [row5, row5, h0.1, h0.2, h1.1, h1.2, h2.1, h2.2, h3.1, h3.2, h4.1, h4.2]; rfl
    rw [e, read_row K (ng r0) (ng r1) (ng r2) (ng r3) (ng r4)]; rfl
  · have e : swOut ((rowOf [x0, x1, x2, x3, x4] ks).take 8) 4 2 ++ (rowOf [x0, x1, x2, x3, x4] ks).drop 8 = rowOf [-x1, -x0, -x3, -x2, x4] ks := by
      rw [row5, row5, h0.1, h0.2, h1.1, h1.2, h2.1, h2.2, h3.1, h3.2]; rfl
    rw [e, read_row K (ng r1) (ng r0) (ng r3) (ng r2) r4]; rfl
  · have hl : (revOf [x0, x1, x2, x3, x4] low high).length = 5 := by
      simp only [revOf, List.length_append, List.length_map, List.length_reverse, List.length_take, List.length_drop, List.length_cons, List.length_nil]
      omega
    have hr : ∀ x ∈ revOf [x0, x1, x2, x3, x4] low high, RankOK x := by
      have ok : ∀ x ∈ [x0, x1, x2, x3, x4], RankOK x := fun x hx => by
        simp only [List.mem_cons, List.not_mem_nil, or_false] at hx
        rcases hx with rfl | rfl | rfl | rfl | rfl <;> assumption
      intro x hx
      unfold revOf at hx
      rcases List.mem_append.mp hx with hx | hx
      · rcases List.mem_append.mp hx with hx | hx
        · exact ok x (List.mem_of_mem_take hx)
        · obtain ⟨y, hy, rfl⟩ := List.mem_map.mp hx
          exact ng (ok y (List.mem_of_mem_drop (List.mem_of_mem_take (List.mem_reverse.mp hy))))
      · exact ok x (List.mem_of_mem_drop hx)
    have tf := table_flip p4 a1 a2 a3 (points_rev (nz r0) (nz r1) (nz r2) (nz r3) (nz r4) a1 a2 a3)
    have tr := turned_row (ks := ks) (nz r0) (nz r1) (nz r2) (nz r3) (nz r4) a1 a2 a3
    refine ⟨revOf [x0, x1, x2, x3, x4] low high, ?_, hl, tf.1, tf.2⟩
    rw [tr]
    obtain ⟨y0, y1, y2, y3, y4, e⟩ := len5 hl
    rw [e] at hr ⊢
    exact read_row K (hr _ (by simp)) (hr _ (by simp)) (hr _ (by simp)) (hr _ (by simp)) (hr _ (by simp))
theorem good_law (n0 n1 n2 n3 : Int) : Good (drawnOf n0 n1) (kindsOf n2 n3) := by
  obtain ⟨x0, x1, x2, x3, x4, e, S⟩ := drawn_shape n0 n1
  rw [e]
  exact good_of S (kinds_ok n2 n3)
end Mine
end

-- L1
section
namespace Mine
open PySem PySem.W PyProof.Rows

section
variable {w : World} {n : Nat} {env : Env} {σ : AS} {Q : AF → AS → Prop}
theorem ExC.freeze {st : Stmt} {a : Addr} {l : List D} {x : Str} (ho : σ.own = some (a, .list l)) (hx : σ.vs.lookup x = some (.val (.ref a))) (h : ExC w n env ⟨(x, .list l) :: σ.vs, Option.none⟩ st Q) : ExC w n env σ st Q := fun A s g p ga H => by
  obtain ⟨g', p', H', m⟩ := H.freeze ho hx
  exact goC (h A s g' p' ga H') fun f s1 o => OutS.of m ⟨_, _, rfl⟩ o
theorem ExsC.weaken' {sts : List Stmt} {ρ : Vars} {o : Option (Addr × OD)} (h : ExsC w n env ⟨ρ, o⟩ sts Q) (hl : Le ρ σ.vs) (ho : σ.own = o) : ExsC w n env σ sts Q := by
  subst ho; exact fun A s g p ga H => h A s g p ga (H.forget hl)
theorem ExC.forV {target iter : Expr} {body : List Stmt} {pos : Pos} {items : List D} (ρ : Nat → Vars) (O : Nat → Option (Addr × OD)) (B : Nat → D → Vars) (hit : EvIt w n env σ.vs iter items target)
    (ha : ∀ i d, items[i]? = some d → Asg w n env target d (B i d)) (h0 : Le (ρ 0) σ.vs) (ho : σ.own = O 0)
    (turn : ∀ i d, items[i]? = some d → ExsC w n env ⟨B i d ++ ρ i, O i⟩ body fun af σ'' => match af with | .next => Le (ρ (i + 1)) σ''.vs ∧ σ''.own = O (i + 1) | .ret r => Q (.ret r) σ'')
    (fin : ∀ σ', Le (ρ items.length) σ'.vs → σ'.own = O items.length → Q .next σ') (hs : ∀ x, foldedSetIterable iter env x = pure x := by intro _; rfl) : ExC w n env σ (.For target iter body [] pos) Q := by
  refine ExC.for_ B (fun i σ' => Le (ρ i) σ'.vs ∧ σ'.own = O i) hit ha ⟨h0, ho⟩ (fun i d σ' hd hi => ?_) (fun σ' hi => fin σ' hi.1 hi.2) hs
  refine (turn i d hd).weaken' (fun x e hx => ?_) hi.2
  rw [List.lookup_append] at hx ⊢
  cases q : (B i d).lookup x with
  | some y => rw [q] at hx; exact hx
  | none => rw [q] at hx; exact hi.1 x e hx
end

theorem ok_law : FnOK (fnI 12) ["script"] where
  bind := fun pm cd doc vs h => by
    match vs, h with
    | [v], _ => rfl
  nodup := by decide
  kinds := fun L x hx => by
    rw [List.mem_singleton.mp hx]; exact .inl rfl
  cells := fun L n c hm => by
    have hm : (n, c) ∈ [((PySem.Str.ofString "ones"), L + 1)] := hm
    rw [List.mem_singleton] at hm
    cases hm; rfl
  co := rfl
  gen := rfl
  kind := rfl

/-- a case of the law's: a stretch and its ones -/
def CaseOK (rs : List Int) (d : D) : Prop := ∃ low high : Nat, 1 ≤ low ∧ low ≤ high ∧ high ≤ 5 ∧ d = .tup [.tup [.int low, .int high], .int (onesOf rs low high)]
def casesAt (rs t : List Int) (d0 : D) : Nat → List D
  | 0 => [d0]
  | i + 1 => if (rs.any (· == (i : Int)) != rs.any (· == ((i : Int) + 1))) = true then casesAt rs t d0 i ++ [.tup [.tup [.int (stretchOf rs i).1, .int (stretchOf rs i).2], .int (t.getD i 0)]] else casesAt rs t d0 i
theorem casesAt_length (rs t : List Int) (d0 : D) : ∀ i, (casesAt rs t d0 i).length ≤ i + 1
  | 0 => Nat.le_refl _
  | i + 1 => by
    have := casesAt_length rs t d0 i
    rw [casesAt]
    split
    · simp; omega
    · omega
theorem casesAt_ok {dr ks : List Int} (G : Good dr ks) {d0 : D} (h0 : CaseOK (fullOf dr) d0) : ∀ i, i ≤ 6 → ∀ d ∈ casesAt (fullOf dr) (tableOf (fullOf dr)) d0 i, CaseOK (fullOf dr) d
  | 0, _ => fun d hd => by rw [casesAt, List.mem_singleton] at hd; rw [hd]; exact h0
  | i + 1, hi => fun d hd => by
    rw [casesAt] at hd
    split at hd
    · rename_i hc
      rcases List.mem_append.mp hd with hd | hd
      · exact casesAt_ok G h0 i (by omega) d hd
      · rw [List.mem_singleton] at hd
        obtain ⟨low, high, a, b, c, e1, e2⟩ := G.p7 i (by omega) hc
        exact ⟨low, high, a, b, c, by rw [hd, e1, e2]⟩
    · exact casesAt_ok G h0 i (by omega) d hd

/-- the fifteen stretches -/
def innerS (low m : Nat) : List D := (List.range m).map fun (j : Nat) => D.tup [.int (low : Int), .int ((low : Int) + (j : Int) * 1)]
def outS : Nat → List D
  | 0 => []
  | i + 1 => outS i ++ innerS (i + 1) (5 - i)
def stList : List (Nat × Nat) := [(1, 1), (1, 2), (1, 3), (1, 4), (1, 5), (2, 2), (2, 3), (2, 4), (2, 5), (3, 3), (3, 4), (3, 5), (4, 4), (4, 5), (5, 5)]
theorem outS_ok : ∀ k : Nat, k < 15 → ∃ low high : Nat, 1 ≤ low ∧ low ≤ high ∧ high ≤ 5 ∧ (outS 5)[k]? = some (.tup [.int low, .int high]) := fun k hk => by
  have e : outS 5 = stList.map fun p => D.tup [.int (p.1 : Int), .int (p.2 : Int)] := rfl
  have h : ∀ p ∈ stList, 1 ≤ p.1 ∧ p.1 ≤ p.2 ∧ p.2 ≤ 5 := by decide
  have hl : k < stList.length := hk
  obtain ⟨a, b, c⟩ := h _ (List.getElem_mem hl)
  exact ⟨_, _, a, b, c, by rw [e, List.getElem?_map, List.getElem?_eq_getElem hl]; rfl⟩

theorem law_walk {w : World} {ns : List Int} {n0 n1 n2 n3 n4 : Int} (hz : ns.length ≤ 63) (hnum : numsAt ns ns.length = [n0, n1, n2, n3, n4]) (G : Good (drawnOf n0 n1) (kindsOf n2 n3)) : FnSpecC w 5 (fnI 12) [.list (inl ns)] (.bool true) := FnSpecC.made ok_law rfl fun L a cd => by
  refine ExsC.also (Ex.assign (d := .list (inl [n0, n1, n2, n3, n4])) ((Ev.callF (fn_mem (i := 2) (by decide)) rfl rfl (.cons (.name rfl) .nil) (numbers_spec (by omega))).of (by rw [hnum])) (.inl rfl) ?_)
  refine ExsC.also (Ex.assign (Ev.callF (fn_mem (i := 3) (by decide)) rfl rfl (.cons (.name rfl) .nil) kinds_spec) (.inl rfl) ?_)
  refine ExsC.also (Ex.assign (Ev.callF (fn_mem (i := 4) (by decide)) rfl rfl (.cons (.name rfl) .nil) drawn_spec) (.inl rfl) ?_)
  generalize drawnOf n0 n1 = dr at G ⊢
  generalize kindsOf n2 n3 = ks at G ⊢
  have hrl : (rowOf dr ks).length = 10 := by rw [rowOf_length, G.len]
  have hri := row_in (rs := dr) G.kb
  refine ExsC.also (Ex.assign (Ev.callF (fn_mem (i := 5) (by decide)) rfl rfl (.cons (.name rfl) (.cons (.name rfl) .nil)) (row_spec G.rank (by rw [G.len]; decide) G.kl G.kb)) (.inl rfl) ?_)
  refine ExsC.also (Ex.assign (d := .list (inl (fullOf dr))) ((Ev.callF (fn_mem (i := 6) (by decide)) rfl rfl (.cons (.name rfl) (.cons (.name rfl) .nil)) (ranks_spec hrl hri G.kl)).of (by rw [G.p1]; rfl)) (.inl rfl) ?_)
  refine ExsC.cons (ExC.assign (EvC.callF (fn_mem (i := 0) (by decide)) rfl rfl (.of (.cons (.name rfl) (.cons .cint .nil))) (byteswap_spec (W := 2) (m := 5) (by rw [hrl]) (by omega) (by omega) (by decide) (by decide) hri (by rw [hrl]; decide) (by rw [hrl]; decide))) (.inl rfl) ?_)
  have hfl : (fullOf dr).length = 7 := by simp [fullOf, G.len]
  generalize hE : swOut (rowOf dr ks) 2 5 = each
  have hEl : each.length = 10 := by rw [← hE, swOut_length, hrl]
  have hEi : ∀ x ∈ each, 0 ≤ x ∧ x < 256 := by rw [← hE]; exact swOut_in hri _
  have hEr : readRow ks each 5 = dr.map fun x => -x := by rw [← hE]; exact G.p2
  refine ExsC.also (Ex.if_ (b := (!decide (fullOf dr = fullOf dr)) || !true) (EvT.or2 (EvT.cmp (.name rfl) ((Ev.bin (Ev.bin (Ev.list (ds := inl [0]) (.cons .cint .nil)) (.name rfl) (Bin.addL (by simp [inl, G.len]))) (Ev.list (ds := inl [6]) (.cons .cint .nil)) (Bin.addL (by simp [inl, G.len]))).of (d' := .list (inl (fullOf dr))) (by simp [inl, fullOf])) .neL)
    fun _ => EvT.not (EvT.plain (Ev.callB (Ev.blt boot_isinstance' rfl (by decide)) (.cons (.name rfl) (.cons (Ev.blt boot_bytes' rfl (by decide)) .nil)) CallV.isBytes))) (fun h => by simp at h) fun _ => Exs.nil ?_)
  refine ExsC.also (Ex.if_ (b := !decide (fullOf (dr.map fun x => -x) = fullOf (dr.map fun x => -x))) (EvT.cmp ((Ev.callF (fn_mem (i := 6) (by decide)) rfl rfl (.cons (.name rfl) (.cons (.name rfl) .nil)) (ranks_spec hEl hEi G.kl)).of (d' := .list (inl (fullOf (dr.map fun x => -x)))) (by rw [hEr]; rfl))
    ((Ev.bin (Ev.bin (Ev.list (ds := inl [0]) (.cons .cint .nil)) (Ev.comp (out := inl (dr.map fun x => -x)) (Comp.closed (fun i d => [((PySem.Str.ofString "x"), D.int (dr.getD i 0))]) (fun _ => true) (fun i => .int (-(dr.getD i 0))) rfl (EvIt.of (.name rfl) IterD.list) (fun C i d hd => ?_) (fun C i d hd => .nil) (fun C i d hd _ => ?_) ?_ rfl (by decide) (by decide) (by rw [inl_length, G.len]; decide) (by intro _; rfl))) (Bin.addL (by simp [inl, G.len]))) (Ev.list (ds := inl [6]) (.cons .cint .nil)) (Bin.addL (by simp [inl, G.len]))).of (d' := .list (inl (fullOf (dr.map fun x => -x)))) (by simp [inl, fullOf])) .neL) (fun h => by simp at h) fun _ => Exs.nil ?_)
  · obtain ⟨hi, rfl⟩ := inl_get_some hd
    exact .name (.inl rfl)
  · exact Ev.un (.name rfl) .neg
  · rw [inl_length, gather_inl]
    congr 1
    apply List.ext_getElem
    · simp
    · intro i h1 h2
      simp only [List.length_map] at h1
      simp [List.getD_eq_getElem?_getD, List.getElem?_eq_getElem h1]
  -- the two stretches of four
  have hdl := G.len
  have ht8 : ((rowOf dr ks).take 8).length = 8 := by rw [List.length_take, hrl]; decide
  have hti : ∀ x ∈ (rowOf dr ks).take 8, 0 ≤ x ∧ x < 256 := fun x hx => hri x (List.mem_of_mem_take hx)
  refine ExsC.cons (ExC.assign (d := .bytes (swOut ((rowOf dr ks).take 8) 4 2 ++ (rowOf dr ks).drop 8)) (EvC.bin (EvC.callF (fn_mem (i := 0) (by decide)) rfl rfl (.of (.cons (d := .bytes ((rowOf dr ks).take 8)) ((Ev.sliceB (lo := Option.none) (hi := some ((8 : Nat) : Int)) (.name rfl) .none (.some .cint) (by omega)).of ?_) (.cons .cint .nil)))
    (byteswap_spec (W := 4) (m := 2) (by rw [ht8]) (by omega) (by omega) (by decide) (by decide) hti (by rw [ht8]; decide) (by rw [ht8]; decide)))
    ((Ev.sliceB (lo := some ((8 : Nat) : Int)) (hi := Option.none) (.name rfl) (.some .cint) .none (by omega)).of (d' := .bytes ((rowOf dr ks).drop 8)) ?_) (Bin.addB ?_)) (.inl rfl) ?_)
  · show D.bytes (((rowOf dr ks).drop 0).take (clipAt (rowOf dr ks).length ((8 : Nat) : Int) - 0)) = _
    rw [clip_at (by omega), List.drop_zero]
  · show D.bytes (((rowOf dr ks).drop (clipAt (rowOf dr ks).length ((8 : Nat) : Int))).take ((rowOf dr ks).length - clipAt (rowOf dr ks).length ((8 : Nat) : Int))) = _
    rw [clip_at (by omega), List.take_of_length_le (by simp)]
  · rw [swOut_length, ht8, List.length_drop, hrl]; decide
  generalize hF : swOut ((rowOf dr ks).take 8) 4 2 ++ (rowOf dr ks).drop 8 = fours
  have hFl : fours.length = 10 := by rw [← hF, List.length_append, swOut_length, ht8, List.length_drop, hrl]
  have hFi : ∀ x ∈ fours, 0 ≤ x ∧ x < 256 := by
    rw [← hF]
    intro x hx
    rcases List.mem_append.mp hx with hx | hx
    · exact swOut_in hti _ x hx
    · exact hri x (List.mem_of_mem_drop hx)
  have hFr : readRow ks fours 5 = [-(dr.getD 1 0), -(dr.getD 0 0), -(dr.getD 3 0), -(dr.getD 2 0), dr.getD 4 0] := by rw [← hF]; exact G.p3
  have item : ∀ {env : Env} {ρ : Vars} {e : Expr} {p q : Pos} {k c : Nat}, Ev w 5 env ρ e (.list (inl dr)) → k < 5 → (∀ o i, subscripted (.Constant (.int (k : Int)) c p) false o i = operate [o, i] (getItem o i)) → Ev w 5 env ρ (.Subscript e (.Constant (.int (k : Int)) c p) q) (.int (dr.getD k 0)) := fun he hk hq =>
    Ev.itemL he .cint (by omega) (by rw [Int.toNat_natCast]; exact inl_get (by omega)) (by rw [inl_length]; omega) hq
  refine ExsC.also (Ex.if_ (b := !decide (fullOf [-(dr.getD 1 0), -(dr.getD 0 0), -(dr.getD 3 0), -(dr.getD 2 0), dr.getD 4 0] = [0, -(dr.getD 1 0), -(dr.getD 0 0), -(dr.getD 3 0), -(dr.getD 2 0), dr.getD 4 0, 6]))
    (EvT.cmp ((Ev.callF (fn_mem (i := 6) (by decide)) rfl rfl (.cons (.name rfl) (.cons (.name rfl) .nil)) (ranks_spec hFl hFi G.kl)).of (d' := .list (inl (fullOf [-(dr.getD 1 0), -(dr.getD 0 0), -(dr.getD 3 0), -(dr.getD 2 0), dr.getD 4 0]))) (by rw [hFr]; rfl))
      (Ev.list (ds := inl [0, -(dr.getD 1 0), -(dr.getD 0 0), -(dr.getD 3 0), -(dr.getD 2 0), dr.getD 4 0, 6]) (.cons .cint (.cons (Ev.un (item (k := 1) (.name rfl) (by decide) (by intro _ _; rfl)) .neg) (.cons (Ev.un (item (k := 0) (.name rfl) (by decide) (by intro _ _; rfl)) .neg) (.cons (Ev.un (item (k := 3) (.name rfl) (by decide) (by intro _ _; rfl)) .neg) (.cons (Ev.un (item (k := 2) (.name rfl) (by decide) (by intro _ _; rfl)) .neg)
        (.cons (item (k := 4) (.name rfl) (by decide) (by intro _ _; rfl)) (.cons .cint .nil)))))))) .neL) (fun h => by simp [fullOf] at h) fun _ => Exs.nil ?_)
  -- the table
  refine ExsC.also (Ex.assign (d := .list (inl (tableOf (fullOf dr)))) (Ev.callF (fn_mem (i := 11) (by decide)) rfl rfl (.cons (.name rfl) .nil) (table_spec hfl G.p4)) (.inl rfl) ?_)
  -- the stretches
  refine ExsC.also (Ex.assignComp2 (items := (List.range 5).map fun (i : Nat) => D.int (1 + i * 1)) (fun i d => [((PySem.Str.ofString "low"), D.int (((i + 1 : Nat)) : Int))]) outS rfl
    (EvIt.of (Ev.callT (Ev.blt boot_range' rfl (by decide)) (.cons .cint (.cons .cint .nil)) CallV.range2) (iterRange (m := 5) (by decide) (by decide) (by decide) (by decide))) rfl (by decide) (by decide) (by intro _; rfl)
    (fun C i d hd => ?_) rfl (fun C a i d hd => ?_) rfl ?_)
  · obtain ⟨hi, rfl⟩ := rng_get hd
    rw [show (1 + (i : Int) * 1) = (((i + 1 : Nat)) : Int) by omega]
    exact .name (.inl rfl)
  · obtain ⟨hi, rfl⟩ := rng_get hd
    refine Bd.clause (items := (List.range (5 - i)).map fun (j : Nat) => D.int ((((i + 1 : Nat)) : Int) + j * 1)) (fun j d => [((PySem.Str.ofString "high"), d)]) (fun j σ' => Le [((PySem.Str.ofString "low"), D.int (((i + 1 : Nat)) : Int))] σ'.vs ∧ σ'.own = some (a, .list (outS i ++ innerS (i + 1) j)))
      (EvIt.of (Ev.callT (Ev.blt boot_range' rfl (by decide)) (.cons (.name rfl) (.cons .cint .nil)) CallV.range2) (iterRange (m := 5 - i) (by omega) (by omega) (by decide) (by omega))) (by intro _; rfl)
      (fun j d _ => .name (.inl rfl)) ⟨.refl, by simp [innerS]⟩ (fun j d σ' hd hi' => ?_) (fun σ' hi' => ?_)
    · obtain ⟨hj, rfl⟩ := rng_get hd
      obtain ⟨hle, ho⟩ := hi'
      refine Bd.weaken (ρ := [((PySem.Str.ofString "high"), D.int ((((i + 1 : Nat)) : Int) + j * 1)), ((PySem.Str.ofString "low"), D.int (((i + 1 : Nat)) : Int))]) ?_ (.cons rfl (.cons ?_ .nil))
      · show Bd w 5 _ ⟨_, σ'.own⟩ _ _
        rw [ho]
        refine Bd.emit rfl (Ev.tup (.cons (.name rfl) (.cons (.name rfl) .nil))) ?_ ⟨.cons rfl .nil, ?_⟩
        · have : (outS i).length ≤ 25 := by
            have : i = 0 ∨ i = 1 ∨ i = 2 ∨ i = 3 ∨ i = 4 := by omega
            rcases this with rfl | rfl | rfl | rfl | rfl <;> decide
          simp [innerS]; omega
        · show some (a, OD.list _) = _
          rw [List.append_assoc]
          congr 4
          simp [innerS, List.range_succ]
      · exact hle _ _ rfl
    · obtain ⟨hle, ho⟩ := hi'
      rw [ho, List.length_map, List.length_range]
      rfl
  rw [List.length_map, List.length_range]
  -- the drawn stretch
  have hm0 := Int.fmod_nonneg_of_pos n4 (b := 15) (by decide)
  have hm1 := Int.fmod_lt_of_pos n4 (b := 15) (by decide)
  obtain ⟨low, high, s1, s2, s3, hS⟩ := outS_ok (n4.fmod 15).toNat (by omega)
  refine ExsC.also (Ex.assign (d := .tup [.int low, .int high]) (Ev.itemL (.name rfl) (Ev.bin (Ev.itemL (.name rfl) .cint (by decide) rfl sz) .cint (Bin.fmod (by decide))) hm0 hS (by decide)) (.inl rfl) ?_)
  refine ExsC.also (Ex.assignOwn (ds := [.tup [.tup [.int low, .int high], .int (onesOf (fullOf dr) low high)]]) (EvO.list (.cons (Ev.tup (.cons (.name rfl) (.cons (Ev.callF (fn_mem (i := 10) (by decide)) rfl rfl (.cons (.name rfl) (.cons (Ev.itemT (.name rfl) .cint (by decide) rfl (by simp)) (.cons (Ev.itemT (.name rfl) .cint (by decide) rfl (by simp)) .nil))) (ones_spec hfl s1 s2 s3)) .nil))) .nil)) (.inl rfl) fun q => ?_)
  have h0 : CaseOK (fullOf dr) (.tup [.tup [.int low, .int high], .int (onesOf (fullOf dr) low high)]) := ⟨low, high, s1, s2, s3, rfl⟩
  generalize D.tup [.tup [.int low, .int high], .int (onesOf (fullOf dr) low high)] = d0 at h0 ⊢
  have htl : (tableOf (fullOf dr)).length = 6 := outT_length _ 6
  refine ExsC.also (Ex.forV (fun i => [("cases", .val (.ref q)), ("table", .list (inl (tableOf (fullOf dr)))), ("ranks", .list (inl (fullOf dr))), ("row", .bytes (rowOf dr ks)), ("kinds", .list (inl ks))]) (fun i => some (q, .list (casesAt (fullOf dr) (tableOf (fullOf dr)) d0 i))) (fun i d => [("r", d)])
    (EvIt.of (Ev.callT (Ev.blt boot_range' rfl (by decide)) (.cons .cint .nil) CallV.range1) (iterRange (m := 6) (by decide) (by decide) (by decide) (by decide)))
    (fun i d _ => .name (.inl rfl)) (.cons rfl (.cons rfl (.cons rfl (.cons rfl (.cons rfl .nil))))) rfl (fun r d hd => ?_) fun σ' hl ho => ?_)
  · obtain ⟨hr, rfl⟩ := rng_get hd
    rw [show (0 + (r : Int) * 1) = (r : Int) by omega]
    refine Exs.cons (Ex.if_ (EvT.cmp (Ev.cmp (.name rfl) (.name rfl) .inI) (Ev.cmp (Ev.bin (.name rfl) .cint .add) (.name rfl) .inI) .neB) (fun hb => ?_) (fun hb => ?_))
    · have m1 := G.mem r (by omega)
      have m2 : (r : Int) + 1 ∈ fullOf dr ∨ -((r : Int) + 1) ∈ fullOf dr := G.mem (r + 1) (by omega)
      have hcl := casesAt_length (fullOf dr) (tableOf (fullOf dr)) d0 r
      refine Exs.cons (Ex.append rfl rfl (Ev.tup (.cons (Ev.callF (fn_mem (i := 8) (by decide)) rfl rfl (.cons (.name rfl) (.cons (.name rfl) .nil)) (stretch_spec hfl m1 m2)) (.cons (Ev.itemL (.name rfl) (.name rfl) (by omega) (by rw [Int.toNat_natCast]; exact inl_get (by omega)) (by rw [inl_length]; omega)) .nil))) (by omega)
        (Exs.nil (Exs.nil ⟨.cons rfl (.cons rfl (.cons rfl (.cons rfl (.cons rfl .nil)))), ?_⟩)))
      show some (q, OD.list _) = some (q, OD.list (casesAt _ _ _ (r + 1)))
      rw [casesAt, if_pos hb]
    · refine Exs.nil (Exs.nil ⟨.cons rfl (.cons rfl (.cons rfl (.cons rfl (.cons rfl .nil)))), ?_⟩)
      show some (q, OD.list _) = some (q, OD.list (casesAt _ _ _ (r + 1)))
      rw [casesAt, if_neg (by rw [hb]; decide)]
  rw [List.length_map, List.length_range] at ho
  refine ExsC.weaken' ?_ hl ho
  have hok := casesAt_ok G h0 6 (Nat.le_refl _)
  generalize casesAt (fullOf dr) (tableOf (fullOf dr)) d0 6 = cases at hok ⊢
  refine ExsC.cons (ExC.freeze (x := "cases") rfl rfl (ExC.forV (fun i => [("table", .list (inl (tableOf (fullOf dr)))), ("row", .bytes (rowOf dr ks)), ("kinds", .list (inl ks))]) (fun i => Option.none) (fun i d => match d with
      | .tup [.tup [x, y], z] => ([] ++ [((PySem.Str.ofString "ones"), z)]) ++ (([] ++ [((PySem.Str.ofString "last"), y)]) ++ [((PySem.Str.ofString "first"), x)])
      | _ => [])
    (EvIt.of (.name rfl) IterD.list) (fun i d hd => ?_) (.cons rfl (.cons rfl (.cons rfl .nil))) rfl (fun i d hd => ?_) fun σ' hl ho => ?_))
  · obtain ⟨lo, hi, a1, a2, a3, rfl⟩ := hok d (List.mem_of_getElem? hd)
    exact Asg.tup (.cons (Asg.tup (.cons (.name (.inl rfl)) (.cons (.name (.inl rfl)) .nil))) (.cons (.name (.inr ⟨rfl, rfl, rfl⟩)) .nil))
  · obtain ⟨lo, hi, a1, a2, a3, rfl⟩ := hok d (List.mem_of_getElem? hd)
    obtain ⟨dr', e1, e2, e3, e4⟩ := G.p6 lo hi a1 a2 a3
    have htn := turnedOf_length hrl a1 a2 a3
    have htI := turnedOf_in hri (low := lo) (high := hi)
    have hfl' : (fullOf dr').length = 7 := by simp [fullOf, e2]
    refine ExsC.cons (ExC.assign (d := .list (inl (fullOf dr'))) ?_ (.inl rfl) ?_)
    · have hrs : FnSpecC w 4 (fnI 6) [.bytes (turnedOf (rowOf dr ks) lo hi), .list (inl ks)] (.list (inl (fullOf dr'))) := by
        have z := ranks_spec (w := w) (n := 3) htn htI G.kl
        rw [e1] at z
        exact .of z
      exact EvC.callF (fn_mem (i := 6) (by decide)) rfl rfl (.cons (EvC.callF (fn_mem (i := 7) (by decide)) rfl rfl (.of (.cons (.name rfl) (.cons (.name rfl) (.cons (.name rfl) .nil)))) (turned_spec hrl hri a1 a2 a3)) (.of (.cons (.name rfl) .nil))) hrs
    · generalize onesOf (fullOf dr) lo hi = ones at e4 ⊢
      generalize tableOf (fullOf dr) = tbl at htl e4 ⊢
      refine ExsC.of (Exs.cons (Ex.if_ (b := !decide (tableOf (fullOf dr') = xorRow tbl ones)) (EvT.cmp (Ev.callF (fn_mem (i := 11) (by decide)) rfl rfl (.cons (.name rfl) .nil) (table_spec hfl' e3))
        (Ev.comp (out := inl (xorRow tbl ones)) (Comp.free (y := "ones") (c := L + 1) (e := .int ones) (fun i d => ([] ++ [((PySem.Str.ofString "x"), D.int (tbl.getD i 0))]) ++ [((PySem.Str.ofString "k"), D.int i)]) (fun _ => true)
          (fun i => .int (if (ones.fdiv (2 ^ i)).fmod 2 == 1 then Builtin.bitXor (tbl.getD i 0) ones else tbl.getD i 0)) rfl rfl rfl rfl rfl (fun i d _ => rfl)
          (EvIt.enum (Ev.blt boot_enumerate' rfl (by decide)) (.name rfl)) (fun C i d hd => ?_) (fun C i d hd => .nil) (fun C i d hd _ => ?_) ?_ rfl (by decide) (by decide) ?_ (by intro _; rfl))) .neL) (fun h => by rw [e4] at h; simp at h) fun _ => Exs.nil (Exs.nil ⟨.cons rfl (.cons rfl (.cons rfl .nil)), rfl⟩)))
      · obtain ⟨hi, rfl⟩ := enum_get hd
        exact Asg.tup (.cons (.name (.inl rfl)) (.cons (.name (.inl rfl)) .nil))
      · obtain ⟨hi, rfl⟩ := enum_get hd
        rw [htl] at hi
        obtain ⟨p1, p2⟩ := pow2_bound (i := i) (by omega)
        refine Ev.ifx (EvT.cmp (Ev.bin (Ev.bin (.name rfl) (Ev.bin .cint (.name rfl) (Bin.pow (by omega) (by omega) (by decide))) (Bin.fdiv p1 p2)) .cint (Bin.fmod (by decide))) .cint .eq) (fun hb => ?_) (fun hb => ?_)
        · rw [Int.toNat_natCast] at hb
          rw [if_pos hb]
          exact Ev.bin (.name rfl) (.name rfl) .xor
        · rw [Int.toNat_natCast] at hb
          rw [if_neg (by rw [hb]; decide)]
          exact .name rfl
      · show inl (xorRow tbl ones) = gather _ _ (enumD (inl tbl)).length
        rw [enumD_length, inl_length, gather_inl]
        rfl
      · show (enumD (inl tbl)).length ≤ 1000
        rw [enumD_length, inl_length, htl]; decide
  · exact ExsC.of (Exs.cons (Ex.ret .cbool rfl))
end Mine
end

-- L2
section
namespace Mine
open PySem PySem.W PyProof.Rows
theorem law_spec {w : World} {ns : List Int} (hz : ns.length ≤ 63) : FnSpecC w 5 (fnI 12) [.list (inl ns)] (.bool true) := by
  obtain ⟨n0, n1, n2, n3, n4, h⟩ := len5 (numsAt_length ns ns.length)
  exact law_walk hz h (good_law n0 n1 n2 n3)
end Mine
end

-- H1
section
namespace Mine
open PySem PySem.W PySem.Calls PySem.Spec PyProof.Rows

/-- the claim's own thread is calm -/
theorem ends_C {prog : Program} {w : World} {t : Sem Fin} {s : Shared} {R : Result → Shared → Prop} (hreg : s.asleep)
    (h : wpC (model prog w) callerA t (fun fin s' => ∃ f, fin = .done f ∧ (R (.ok f) s' ∧ leftWithCleanup s'.gens = false)) No s) :
    ∃ n r s' s'', schedN (denote table) prog w n (.single s ⟨t, .builtin "claim.caller" {}, default, []⟩) = .halted (outcomeOf r) s' ∧ runN (denote table) prog w n s ⟨t, .builtin "claim.caller" {}, default, []⟩ = .halted (outcomeOf r) s' ∧
      s'.forget = s''.forget ∧ R r s'' := by
  have hw := h ⟨.builtin "claim.caller" {}, none, none, [], none⟩ default caller_in (by decide +kernel) (fun x hx => by cases hx)
  obtain ⟨n, r, s₁, s₂, h1, h2, h3, h4⟩ := wp_halts_full (M := model prog w) (c := .builtin "claim.caller" {}) (t := t) (p := default) (R := R) hreg
    (Sem.wp_mono (model prog w) _ t (fun fin p' s' h' => by obtain ⟨f, rfl, hf⟩ := h'; exact hf) (fun _ _ _ h' => h'.elim) default s hw)
  exact ⟨n, r, s₂, s₁, h1, h2, h3, h4⟩

/-- a law's walk, in a calm context -/
abbrev WalkC (q : Program) (loose : List Str) (XP : (Str → Option Value) → Heap → Prop) (r : RowW) (d : DefRec) (kwd : List (Str × Expr)) : Prop :=
  ∀ (w : World) (s₀ s₁ : Shared) (mg mb : Str → Option Value), Ground q loose r.records XP w s₀ mg mb s₁.heap → ∀ (a : Addr) (o : Obj) (pm cd doc dV kV : Value), s₁.heap.get? a = some o →
    o.data = .func { docDef d.name d.params d.body d.scope pm cd doc with defaults := dV, kwdefaults := kV } → s₁.heap.CodeRec cd d.name → Dflts mg s₁.heap d.params kwd dV kV → mg d.name = some (.ref a) →
    ∀ (args : List WData) (vals : List Value) (as : List Addr), Laid r.records w s₀ s₁ args vals as → r.claim.pre args = true → WData.layableAll args = true → ReadsAllW r.records (classAt s₀.heap) s₁.heap vals args as → WellAll w.params s₁.heap vals args → (∀ a ∈ as, (a == sysModules) = false) →
      wpC (model r.prog w) callerA (call (.ref a) vals) (fun v s' => GoodWG r.claim (classAt s₀.heap) (ExcName.means s₀.heap) args s₁ (.ok (.ret v)) s') No s₁
end Mine

open PySem PySem.W PySem.Calls PySem.Spec PyProof.Rows Mine
namespace Mine.Head.PySem.W
/-- the head of an open law, for a walk in a calm context -/
theorem holds_open {r : OpenRow} {q : Program} {loose : List Str} {Xt : Shared → Bool} {XP : (Str → Option Value) → Heap → Prop} {α : Type} {Yf : Shared → α} {Ya : World → α} {YP : World → Heap → Prop} {d : DefRec} {kwd : List (Str × Expr)} {N : Nat}
    (left : LeftO r.prog q loose Xt Yf Ya N) (hY : ∀ w s, Yf s = Ya w → YP w s.heap) (hYk : ∀ w h h', YP w h → (∀ b o, h.get? b = some o → h'.get? b = some o) → YP w h')
    (hX : ∀ s, Xt s = true → XP (s.heap.nsMap mainGlobals) s.heap) (hXk : ∀ mg h h', XP mg h → (∀ b o, h.get? b = some o → h'.get? b = some o) → XP mg h')
    (hdef : defOf q r.name = some (d, kwd)) (hp : r.prog.theDef r.name = some (d.params, d.body, d.scope)) (hk : kwWritten? d.params.kwonlyargs d.params.kw_defaults = some kwd) (hRf : ∀ s, Xt s = true → RecFacts r.records s.heap) (hwr : (!r.writes || r.records.isEmpty) = true)
    (k1 : r.wellSaid = true) (ok : (chainsOk q && opensWell r.prog && (frees r.toRowW && r.within.isEmpty)) = true) (hb : r.prog.bare) (hw : r.toRowW.promised)
    (call : WalkC q loose XP r.toRowW d kwd) : r.Holds := by
  have ok' := ok
  simp only [Bool.and_eq_true] at ok
  obtain ⟨⟨hch, hop⟩, hfr, hwi⟩ := ok
  obtain ⟨hsame, hu, ha, hap, hm⟩ := frees_parts hfr
  refine ⟨k1, hw, ⟨hb, hop, by show r.makers.map _ = []; rw [hm]; rfl⟩, hw.witness, fun w => ⟨(left.behind hX hch w).1, fun s' hs' => ?_⟩⟩
  obtain ⟨s₀, hf, hg0, s, hT, hz, hgens, hg, G0, _⟩ := (left.behind (XP := fun mg h => XP mg h ∧ RecFacts r.records h) (fun s hs => ⟨hX s hs, hRf s hs⟩) hch w).2 s' hs'
  have RF := G0.X.2
  have G1 : Ground q loose [] XP w s (s.heap.nsMap mainGlobals) (s.heap.nsMap builtinsNs) s.heap := ⟨G0.T, G0.B, G0.D, G0.TE, G0.TD, G0.W, G0.X.1, G0.cls, G0.has, G0.apart, G0.once, G0.K⟩
  have G := RF.ground G1
  have hgens : s.gens = #[] := Array.eq_empty_of_size_eq_zero (beq_iff_eq.mp hgens)
  refine ⟨s₀, hf, hg0, s, hT, fun n hn => ?_, RF.1, RF.2.1, fun args hpre hlay ord hord => ?_⟩
  · obtain rfl : n = r.name := by split at hn <;> simp_all
    exact pinned_of_view hg G1 hdef hp hk
  obtain ⟨⟨vs, s₁⟩, hlaid⟩ := Option.isSome_iff_exists.mp (layAllW_isSome (P := w.params) (ord := ord) G.has args r.args s (pre_splitW hpre).1)
  have keeps := layAllW_keeps _ _ _ hlaid
  have hal := layAllW_rest _ _ _ hlaid
  obtain ⟨as, hrd, hin, hold⟩ := reads_layAllW hord _ _ _ hlaid hlay s₁.heap (fun _ _ e => e)
  have L : Laid r.records w s s₁ args vs as := ⟨⟨ord, hord, hlaid⟩, hrd, hin, hold, keeps, hal.1.trans hgens, hal.2.2.1⟩
  have G₁ := G.keeps hXk keeps
  obtain ⟨a, o, pm, cd, doc, dV, kV, f1, f2, f3, f4, f5⟩ := G₁.fn hdef
  have walk := call w s s₁ _ _ G₁ a o pm cd doc dV kV f2 f3 f4 f5 (defOf_name hdef ▸ f1) args vs as L hpre hlay L.reads L.well (L.low G.low)
  have hi := ident_freeW hu ha hap
  have hwi : r.claim.within = [] := List.isEmpty_iff.mp hwi
  let kept : Heap → Prop := fun h' => r.writes = true → namesKept r.claim.prog r.keeps s.heap h' ∧ ∀ x ∈ r.claim.records, ∀ a, classAt s.heap x.1 = some a → recordClass h' a x.1 (x.2.map (·.1)) = true
  have whole : wpC (model r.prog w) callerA (do match ← nsGet mainNs r.name with
      | some f => do ret (← _root_.PySem.call f vs)
      | none => unsupported "claim.caller:no-such-global") (fun fin s' => ∃ f, fin = .done f ∧ ((r.claim.Ends s args vs s₁ (.ok f) s' ∧ s'.os = s.os ∧ kept s'.heap) ∧ leftWithCleanup s'.gens = false)) No s₁ := by
    refine wpC.first (wpAny_nsGet G₁.T.g ?_)
    rw [f1]
    refine wpC.bind (walk.mono (fun v s' g => wpC.pure ⟨_, rfl, ?_⟩) fun _ _ x => x)
    have z := g.laid (c := r.claim) hsame hwi hi L
    exact ⟨⟨z.1, z.2.1, fun q => ⟨namesKept_of hT hg r.keeps keeps g.2.1.old, noTable hwr q⟩⟩, leftWithCleanup_false_of_bare z.2.2⟩
  obtain ⟨k, res, s2, s3, hsched, hrun, hfo, hcase, hos, hkp⟩ := ends_C (R := fun res s' => r.claim.Ends s args vs s₁ res s' ∧ s'.os = s.os ∧ kept s'.heap) (Shared.asleep_of_life hal.2.2.2 hz) whole
  obtain ⟨eh, _, _, eo, _⟩ := Shared.forget_eq hfo
  have hcase := hcase.congr eh
  have hkp : kept s2.heap := by rw [eh]; exact hkp
  rw [← eo] at hos
  have hlife : s2.heap.life = s.heap.life := (runN_life _ _ _ hrun).trans hal.2.2.2
  refine ⟨vs, s₁, hlaid, k, _, s2, hsched, ?_, (fun _ i x hx => by rw [hgens] at hx; simp at hx), hkp, by rw [hlife], Shared.rest_eq hos⟩
  rcases hcase with ⟨v, rfl, d1, d2, d3, d4, d5⟩ | ⟨e, ob, cls, rfl, d1, d2, d3, d4, d5⟩
  · exact .inl ⟨v, rfl, d1, d2, d3, fun b o y _ => d4 b o y, d5⟩
  · exact .inr ⟨e, ob, cls, rfl, d1, d2, d3, d4, fun b o y _ => d5 b o y⟩
end Mine.Head.PySem.W
end

-- H2
section
namespace Mine
open PySem PySem.W PySem.Calls PySem.Spec PyProof.Rows
def fnOfRec (d : DefRec) : Fn := ⟨d.name, d.params, d.body, d.scope⟩
theorem topH_of {q : Program} {loose : List Str} {mean : ExcName → Option Value} {mg mb : Str → Option Value} {h : Heap} (T : Top q loose mean mg mb h) (h1 : theFns = (recsOf q).map fnOfRec)
    (h2 : valOf q "NT_OFFSET" = some (.int 256)) (h3 : ∀ x ∈ usedBuiltins, x ∉ startupNames ∧ x ∉ loose ∧ x ∉ (recsOf q).map (·.name) ∧ x ∉ (litsOf q).map (·.1) ∧ x ∉ (clssOf q loose).map (·.name)) : TopH h := by
  refine ⟨⟨mg, mb, T.g, T.b, T.builtins, fun f hf => ?_, ?_, fun x hx => ?_⟩, T.nolimit⟩
  · rw [h1] at hf
    obtain ⟨d, hd, rfl⟩ := List.mem_map.mp hf
    exact T.fn d hd
  · obtain ⟨v, e, r⟩ := T.const _ _ h2
    cases r h
    exact ⟨_, e⟩
  · obtain ⟨a, b, c, d, e⟩ := h3 x hx
    exact T.free x a b c d e
end Mine
open PySem PySem.W PyProof.Rows Mine
namespace Mine.Head
set_option maxHeartbeats 8000000 in
theorem law_holds : PySem.Challenge.rw_ph0002_01.Holds := by
  w_on
  o_law
  k_head
  case hw => w_witness2
  intro w s₀ s₁ mg mb G a o pm cd doc dV kV ho hd hcd hD hmg args vals as L hpre hlay hrd hwl hlo
  refine Ground.open G ?_
  intro T B D TE TW
  wrow_args hpre hlay hrd hwl hlo
  have TH := topH_of T (by rfl) (by rfl) (by decide)
  rename_i ns _ _ _ _ _ _ _ c vs _ hL _ _ _ hI _ hlen _
  have e := X.script_obj L hL
  have hin : fnI 12 ∈ theFns := fn_mem (by decide)
  have hfn : ∃ a' o' pm code doc, mg (fnI 12).name = some (.ref a') ∧ s₁.heap.get? a' = some o' ∧ o'.data = .func (Calls.docDef (fnI 12).name (fnI 12).params (fnI 12).body (fnI 12).scope pm code doc) ∧ s₁.heap.CodeRec code (fnI 12).name := by
    have h1 : theFns = (recsOf law_holds.view_39).map fnOfRec := by rfl
    rw [h1] at hin
    obtain ⟨r, hr, hr'⟩ := List.mem_map.mp hin
    rw [← hr']
    exact T.fn r hr
  obtain ⟨a', o', pm', cd', doc', f1, f2, f3, f4⟩ := hfn
  have ea : a' = a := by
    have : mg (fnI 12).name = some (.ref a) := hmg
    rw [f1] at this; cases this; rfl
  subst ea
  have hlen' : ns.length ≤ 63 := by omega
  clear hd hcd hD
  have run := law_spec (w := w) hlen' callerA s₁ s₁.heap.get? a' o' pm' cd' doc' [.ref c] ⟨⟨rfl, by show 1 + claimMargin + 6 ≤ 900; decide +kernel, by show 4 + 10 * 6 ≤ 9000; decide⟩, rfl⟩ ⟨s₁.heap, Sub.refl _, TH⟩ (Sub.refl _) f2 f3 f4 TH.nolimit (.cons (.list e (.ofInts hI)) .nil)
  refine wpC.mono run (fun v s' ⟨g', X, r⟩ => ?_) fun _ _ x => x
  cases r
  obtain ⟨h', t', es⟩ := X.same
  have hgens : s'.gens = #[] := by rw [es]; exact L.gens
  have hos : s'.os = s₁.os := by rw [es]
  refine ⟨.inl ⟨_, _, _, rfl, fun _ => rfl, .bool true, ?_, fun _ => ⟨List.nodup_nil, fun a ha => by cases ha⟩⟩, .of_keep X.keep, hos, .of_eq hgens⟩
  wrow_post

end Mine.Head
end

theorem PySem.Challenge.cw_ph0002_01_holds : PySem.Challenge.rw_ph0002_01.Holds := by
  exact Mine.Head.law_holds
