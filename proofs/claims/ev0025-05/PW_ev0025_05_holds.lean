import PyProof.Rows.All
import Wide.All
import OpenK.AllK
import Wide.FinOn
import PyProof.Rows.StrCut
import KE.IntTextLaws
import PySem.Challenge.RW_ev0025_05
set_option Elab.async false
set_option linter.all false
set_option maxRecDepth 10000
namespace Mine
open PySem PySem.Calls PyProof.Rows PySem.W

/-! ## Tokens only grow -/
theorem runs_toks {M : Model} {Γ : Ctx} {p : Pos} {t : Sem Fin} {fs : List Frame} {s : Shared} {e : End} {s' : Shared} (h : Runs M Γ p t fs s e s') : s.toks ≤ s'.toks := by
  induction h <;> first | exact Nat.le_refl _ | assumption | (simp only [Shared.setGen] at *; omega) | omega

theorem runs_size {M : Model} {Γ : Ctx} {p : Pos} {t : Sem Fin} {fs : List Frame} {s : Shared} {e : End} {s' : Shared} (h : Runs M Γ p t fs s e s') : s.heap.objs.size ≤ s'.heap.objs.size := by
  induction h <;> first | exact Nat.le_refl _ | assumption | (simp only [Shared.setGen, Heap.size_after_update, Heap.size_push] at *; omega) | omega

theorem wakes_toks {M : Model} {Γ : Ctx} {p : Pos} {g : Nat} {r : Resume} {s : Shared} {res : GenResult} {s' : Shared} (h : Wakes M Γ p g r s res s') : s.toks ≤ s'.toks := by
  unfold Wakes at h
  split at h
  · exact h.elim
  · split at h
    · obtain ⟨e₁, s₁, h1, _, _, rfl⟩ := h; have h2 := runs_toks h1; exact h2
    · obtain ⟨_, rfl⟩ := h; exact Nat.le_refl _
    · obtain ⟨_, rfl⟩ := h; exact Nat.le_refl _
  · obtain ⟨e₁, s₁, h1, _, _, rfl⟩ := h; have h2 := runs_toks h1; exact h2
  · obtain ⟨_, rfl⟩ := h; exact Nat.le_refl _
  · obtain ⟨_, rfl⟩ := h; exact Nat.le_refl _

theorem wakes_size {M : Model} {Γ : Ctx} {p : Pos} {g : Nat} {r : Resume} {s : Shared} {res : GenResult} {s' : Shared} (h : Wakes M Γ p g r s res s') : s.heap.objs.size ≤ s'.heap.objs.size := by
  unfold Wakes at h
  split at h
  · exact h.elim
  · split at h
    · obtain ⟨e₁, s₁, h1, _, _, rfl⟩ := h; have h2 := runs_size h1; exact h2
    · obtain ⟨_, rfl⟩ := h; exact Nat.le_refl _
    · obtain ⟨_, rfl⟩ := h; exact Nat.le_refl _
  · obtain ⟨e₁, s₁, h1, _, _, rfl⟩ := h; have h2 := runs_size h1; exact h2
  · obtain ⟨_, rfl⟩ := h; exact Nat.le_refl _
  · obtain ⟨_, rfl⟩ := h; exact Nat.le_refl _

/-- tokens and places only grow -/
def Up (s s' : Shared) : Prop := s.toks ≤ s'.toks ∧ s.heap.objs.size ≤ s'.heap.objs.size
theorem Up.trans {a b c : Shared} (x : Up a b) (y : Up b c) : Up a c := ⟨Nat.le_trans x.1 y.1, Nat.le_trans x.2 y.2⟩
theorem wp_toks {α : Type} {M : Model} {Γ : Ctx} {t : Sem α} {Q : α → Pos → Shared → Prop} {E : Value → Pos → Shared → Prop} {b : Shared} :
    ∀ {p : Pos} {s : Shared}, Up b s → Sem.wp M Γ t (fun a p s' => Up b s' → Q a p s') (fun e p s' => Up b s' → E e p s') p s → Sem.wp M Γ t Q E p s := by
  induction t with
  | pure a => intro p s hb h; rw [Sem.wp] at h ⊢; exact h hb
  | raise x => intro p s hb h; rw [Sem.wp] at h ⊢; exact h hb
  | unsupported | finish | yield | fork | await | register => intro p s hb h; exact h
  | rule _ k ih | «at» _ k ih | loadIfAlive _ k ih | point _ k ih | ask k ih | os _ _ k ih | handled _ k ih | newGen _ k ih | stack k ih | thread k ih => intro p s hb h; exact ih _ hb h
  | alloc _ k ih => intro p s hb h; exact ih _ ⟨hb.1, Nat.le_trans hb.2 (by rw [Heap.size_push]; omega)⟩ h
  | fresh k ih => intro p s hb h; exact ih _ ⟨Nat.le_succ_of_le hb.1, hb.2⟩ h
  | load a _ k ih | genState a k ih => intro p s hb ⟨o, ho, h⟩; exact ⟨o, ho, ih _ hb h⟩
  | update a _ f k ih => intro p s hb ⟨ha, h⟩; exact ⟨ha, ih _ ⟨hb.1, by rw [Heap.size_after_update]; exact hb.2⟩ h⟩
  | choose _ _ k ih => intro p s hb ⟨ha, h⟩; exact ⟨ha, ih _ hb h⟩
  | call c h g l k ih =>
    intro p s hb ⟨r, s', h1, h2⟩
    exact ⟨r, s', h1, ih _ (hb.trans ⟨runs_toks h1, runs_size h1⟩) h2⟩
  | resume g r l k ih =>
    intro p s hb ⟨res, s', hw, h⟩
    exact ⟨res, s', hw, ih _ (hb.trans ⟨wakes_toks hw, wakes_size hw⟩) h⟩

/-- what a run ends in has no smaller count of tokens, and no smaller heap -/
theorem wpAny_ups {α : Type} {M : Model} {A : Around} {t : Sem α} {Q : α → Shared → Prop} {E : Value → Shared → Prop} {s : Shared}
    (h : wpAny M A t (fun a s' => Up s s' → Q a s') (fun e s' => Up s s' → E e s') s) : wpAny M A t Q E s :=
  fun Γ p hΓ => wp_toks ⟨Nat.le_refl _, Nat.le_refl _⟩ (h Γ p hΓ)
theorem wpAny_up {α : Type} {M : Model} {A : Around} {t : Sem α} {Q : α → Shared → Prop} {E : Value → Shared → Prop} {s : Shared}
    (h : wpAny M A t (fun a s' => s.toks ≤ s'.toks → Q a s') (fun e s' => s.toks ≤ s'.toks → E e s') s) : wpAny M A t Q E s :=
  wpAny_ups (wpAny_mono h (fun _ _ q u => q u.1) fun _ _ q u => q u.1)
theorem codeAny_ups {M : Model} {A : Around} {c : Code} {R : Result → Shared → Prop} {s : Shared} (h : codeAny M A c (fun r s' => Up s s' → R r s') s) : codeAny M A c R s :=
  fun Γ p hc hΓ => let ⟨r, s', h1, h2⟩ := h Γ p hc hΓ; ⟨r, s', h1, h2 ⟨runs_toks h1, runs_size h1⟩⟩
end Mine
set_option maxRecDepth 10000
namespace Mine
open PySem PySem.Calls PyProof.Rows PySem.W

/-! ## Abstract values and heap -/
inductive V where
  | nn | bb (b : Bool) | ii (i : Int) | ss (s : List Nat) | tt (xs : List V) | gg (k : Nat) | rr (i : Nat) | rg (a b : Int)
  deriving Inhabited

abbrev Nm := List Nat

inductive O where
  | list (xs : List V)
  | ilist (xs : List V)
  | dict (es : List (Nm × V)) (ep : Nat)
  | ns (es : List (Nm × V))
  | inst (c : Nat) (d : Nat)
  | exc (c : Nat) (args : List V) (d : Option Nat) (fr : Bool)
  | cell (v : Option V)
  | fn (k : Nat) (cs : List Nat)
  deriving Inhabited

abbrev AH := List O
abbrev Lo := List (Option V)

/-! ## The mini language -/
inductive Bi where
  | len | ord | chr | int | str | repr | list | dict | range
  deriving DecidableEq, Inhabited
inductive Ty where
  | bool | int | str | list | dict
  deriving DecidableEq, Inhabited

inductive Tg where
  | loc (i : Nat) | cel (i : Nat) | two (a b : Tg) | three (a b c : Tg) | four (i j l m : Nat)
  deriving Inhabited

mutual
inductive X where
  | nn | bb (b : Bool) | ii (i : Int) | ss (s : List Nat)
  | loc (i : Nat) | cel (i : Nat) | glob (k : Nat)
  | bin (op : Operator) (a b : X)
  | neg (a : X)
  | cmp (op : CmpOp) (a b : X)
  | not (a : X) | and (xs : XL) | or (xs : XL) | ite (c a b : X)
  | bi (f : Bi) (xs : XL)
  | isi (x : X) (t : Ty)
  | call (f : X) (xs : XL)
  | meth (o : X) (m : Nm) (xs : XL)
  | rpl (m : X) (x y : Nat) (e : X)
  | attr (o : X) (a : Nm)
  | idx (o i : X) | sl (o : X) (lo hi : XO)
  | tup (xs : XL) | lst (xs : XL) | dct (ks : List (Nm × Int))
  | comp (elt : X) (t : Tg) (it : X) (ifs : XL) (k : Nat)
  | lam (k : Nat)
  | mkl (a : X) | mkd (a : X) | itms (a : X)
  | jn (ts : List Nm) (m : Nat) (a : X)
inductive XL where
  | nil | cons (x : X) (xs : XL)
inductive XO where
  | none | some (x : X)
end

mutual
inductive St where
  | expr (e : X)
  | asg (t : Tg) (e : X)
  | put (o i e : X)
  | seta (o : X) (a : Nm) (e : X)
  | seta2 (o : X) (a : Nm) (o' : X) (a' : Nm) (e : X)
  | sup (i : Nat) (e : X)
  | aug (i : Nat) (op : Operator) (e : X)
  | ifs (c : X) (a b : SL)
  | whl (c : X) (b : SL)
  | for_ (t : Tg) (it : X) (b : SL)
  | ret (e : X)
  | raise (e : X)
  | try_ (b : SL) (k : Nat) (i : Nat) (h : X)
  | def_ (t : Tg) (k : Nat)
  | brk | cont | pass
inductive SL where
  | nil | cons (s : St) (r : SL)
end

/-- a function of the mini language: parameters, local names, cell names (own, then free), body -/
structure MF where
  params : List Str
  vars : List Str
  own : List Str
  free : List Str
  up : List Nat
  body : SL ⊕ X

instance : Inhabited MF := ⟨⟨[], [], [], [], [], .inl .nil⟩⟩

def Nm.str (n : Nm) : Str := ⟨n.toArray⟩

/-! ## Agreement of a mini text with a text -/
structure FC where
  names : List (Str × NameKind)
  vars : List Str
  cn : List Str
  nest : Bool

def FC.kind (Γ : FC) (x : Str) : Option NameKind := Γ.names.lookup x

def Bi.name : Bi → Str
  | .len => "len" | .ord => "ord" | .chr => "chr" | .int => "int" | .str => "str" | .repr => "repr" | .list => "list" | .dict => "dict" | .range => "range"
def Bi.val : Bi → Value
  | .len => .builtin "len" | .ord => .builtin "ord" | .chr => .builtin "chr" | .int => .type "int" | .str => .type "str" | .repr => .builtin "repr"
  | .list => .type "list" | .dict => .type "dict" | .range => .type "range"
def Ty.name : Ty → Str
  | .bool => "bool" | .int => "int" | .str => "str" | .list => "list" | .dict => "dict"
def Ty.val : Ty → Value
  | .bool => .type "bool" | .int => .type "int" | .str => .type "str" | .list => .type "list" | .dict => .type "dict"

def superLike : Expr → Bool
  | .Call (.Name f _) [] [] _ => f == ("super" : Str)
  | _ => false
def isAttr : Expr → Bool
  | .Attribute .. => true
  | _ => false
def isSlice : Expr → Bool
  | .Slice .. => true
  | _ => false

section
variable (gname : Nat → Str) (fns : Nat → MF) (ob : Nat → Scope → FuncBody → Bool)

def agTg (Γ : FC) : Tg → Expr → Bool
  | .loc i, e => match e with
    | .Name x _ => Γ.vars[i]? == some x && Γ.kind x == some .local
    | _ => false
  | .cel i, e => match e with
    | .Name x _ => Γ.cn[i]? == some x && Γ.kind x == some .cell
    | _ => false
  | .two a b, e => match e with
    | .Tuple [x, y] _ _ => agTg Γ a x && agTg Γ b y
    | _ => false
  | .three a b c, e => match e with
    | .Tuple [x, y, z] _ _ => agTg Γ a x && agTg Γ b y && agTg Γ c z
    | _ => false
  | .four i j l m, e => match e with
    | .Tuple [.Name x _, .Name y _, .Name z _, .Name u _] _ _ => (Γ.vars[i]? == some x && Γ.kind x == some .local) && (Γ.vars[j]? == some y && Γ.kind y == some .local) && (Γ.vars[l]? == some z && Γ.kind z == some .local) && (Γ.vars[m]? == some u && Γ.kind u == some .local) && decide [i, j, l, m].Nodup
    | _ => false

/-- the frame of a comprehension: its names, made its own by its elder's cells -/
def compNames (Γ : FC) (names : List (Str × NameKind)) : List (Str × NameKind) :=
  names.map fun (n, k) => if k == .free && Γ.kind n == some .cell then (n, .cell) else (n, k)
def agScope (Γ : FC) (k : Nat) (sc : Scope) : Bool :=
  sc.kind == .function && !sc.isGenerator && !sc.isCoroutine &&
  (sc.names.filter (·.2 == .local)).map (·.1) == (".0" : Str) :: (fns k).vars &&
  (sc.names.filter (·.2 == .free)).map (·.1) == (fns k).free && sc.names.all (·.2 != .cell) &&
  ((fns k).up.map fun j => Γ.cn[j]?) == (fns k).free.map some && (fns k).own.isEmpty && decide (fns k).vars.Nodup && decide (sc.names.map (·.1)).Nodup
def isLocX : X → Bool
  | .loc _ => true
  | _ => false
/-- a generator's own names; what it picks: one of some texts, by a number's rest -/
def genOk (sc : Scope) (x : Str) : Bool := !sc.isCoroutine && sc.kind == .function && sc.names.all (fun p => p.2 != .cell && p.2 != .free) && sc.names.lookup (".0" : Str) == some .local && sc.names.lookup x == some .local && x != ("__debug__" : Str)
def agTxs : List Nm → List Expr → Bool
  | [], es => es.isEmpty
  | t :: ts, es => match es with
    | .Constant (.str x) _ _ :: r => x == ⟨t.toArray⟩ && decide (t.length ≤ 10) && agTxs ts r
    | _ => false
def agPick (ts : List Nm) (m : Nat) (x : Str) : Expr → Bool
  | .Subscript (.List es _) (.BinOp (.Name y _) .Mod (.Constant (.int k) _ _) _) _ => y == x && k == (m : Int) && m == ts.length && decide (0 < m) && decide (m ≤ 100) && agTxs ts es
  | _ => false
def plainIter : Expr → Bool
  | .Name .. => true
  | .Subscript .. => true
  | _ => false
def compFC (Γ : FC) (k : Nat) (sc : Scope) : FC := ⟨compNames Γ sc.names, (fns k).vars, (fns k).free, false⟩

def agFn (Γ : FC) (k : Nat) (args : Arguments) (sc : Scope) (body : FuncBody) : Bool :=
  ob k sc body && sc.kind == .function && !sc.isGenerator && !sc.isCoroutine && Γ.nest &&
  args.posonlyargs.isEmpty && args.vararg.isNone && args.kwonlyargs.isEmpty && args.kwarg.isNone && args.defaults.isEmpty && args.kw_defaults.isEmpty &&
  args.args.all (·.annotation.isNone) &&
  (args.args.map (·.arg)) == (fns k).params &&
  ((fns k).up.map fun j => Γ.cn[j]?) == (fns k).free.map some
def fnFC (k : Nat) (sc : Scope) (nest : Bool) : FC := ⟨sc.names, (fns k).vars, (fns k).own ++ (fns k).free, nest⟩
def agFc (k : Nat) (sc : Scope) : Bool :=
  sc.kind == .function && !sc.isGenerator && !sc.isCoroutine &&
  (sc.names.filter (·.2 == .local)).map (·.1) == (fns k).vars &&
  (sc.names.filter (·.2 == .cell)).map (·.1) == (fns k).own &&
  (sc.names.filter fun p => p.2 == .free && p.1 != ("__class__" : Str)).map (·.1) == (fns k).free && decide (sc.names.map (·.1)).Nodup &&
  (fns k).params.all (fun x => sc.names.lookup x == some .local || sc.names.lookup x == some .cell) && decide (fns k).params.Nodup

def agD : List (Nm × Int) → List (Option Expr) → List Expr → Bool
  | [], [], [] => true
  | (k, i) :: r, some (.Constant (.str s) _ _) :: ks, .Constant (.int j) _ _ :: vs => Nm.str k == s && i == j && agD r ks vs
  | _, _, _ => false

mutual
def agX (Γ : FC) : X → Expr → Bool
  | .nn, e => match e with
    | .Constant .none _ _ => true
    | _ => false
  | .bb b, e => match e with
    | .Constant (.bool c) _ _ => b == c
    | _ => false
  | .ii i, e => match e with
    | .Constant (.int j) _ _ => i == j
    | _ => false
  | .ss s, e => match e with
    | .Constant (.str t) _ _ => Nm.str s == t
    | _ => false
  | .loc i, e => match e with
    | .Name x _ => Γ.vars[i]? == some x && Γ.kind x == some .local && x != ("__debug__" : Str)
    | _ => false
  | .cel i, e => match e with
    | .Name x _ => Γ.cn[i]? == some x && (Γ.kind x == some .cell || Γ.kind x == some .free) && x != ("__debug__" : Str) && x != ("__classdict__" : Str)
    | _ => false
  | .glob k, e => match e with
    | .Name x _ => gname k == x && Γ.kind x == some .globalImplicit && x != ("__debug__" : Str) && !x.cps.isEmpty
    | _ => false
  | .bin op a b, e => match e with
    | .BinOp l o r _ => op == o && agX Γ a l && agX Γ b r
    | _ => false
  | .neg a, e => match e with
    | .UnaryOp .USub x _ => agX Γ a x
    | _ => false
  | .cmp op a b, e => match e with
    | .Compare l [o] [r] _ => op == o && agX Γ a l && agX Γ b r && !behindInMarks o r
    | _ => false
  | .not a, e => match e with
    | .UnaryOp .Not x _ => agX Γ a x
    | _ => false
  | .and xs, e => match e with
    | .BoolOp .And es _ => agXL Γ xs es
    | _ => false
  | .or xs, e => match e with
    | .BoolOp .Or es _ => agXL Γ xs es
    | _ => false
  | .ite c a b, e => match e with
    | .IfExp t x y _ => agX Γ c t && agX Γ a x && agX Γ b y
    | _ => false
  | .bi f xs, e => match e with
    | .Call (.Name x _) es [] _ => f.name == x && Γ.kind x == some .globalImplicit && agXL Γ xs es
    | _ => false
  | .isi x t, e => match e with
    | .Call (.Name f _) [y, .Name z _] [] _ => f == ("isinstance" : Str) && Γ.kind f == some .globalImplicit && agX Γ x y && t.name == z && Γ.kind z == some .globalImplicit
    | _ => false
  | .call f xs, e => match e with
    | .Call g es [] _ => !isAttr g && agX Γ f g && agXL Γ xs es
    | _ => false
  | .meth o m xs, e => match e with
    | .Call (.Attribute v n ap) es [] p => agX Γ o v && Nm.str m == n && agXL Γ xs es && !superLike v && ap.endLine == p.line && decide (es.length < 28)
    | _ => false
  | .rpl m x y w, e => match e with
    | .Call (.Attribute v n ap) [.Constant (.str pat) _ _, .Call (.Name f _) [u] [] _] [] p => isLocX m && agX Γ m v && n == ("replace" : Str) && pat == ⟨#[x, y]⟩ && f == ("repr" : Str) && Γ.kind f == some .globalImplicit && agX Γ w u && !superLike v && ap.endLine == p.line
    | _ => false
  | .attr o m, e => match e with
    | .Attribute v n _ => agX Γ o v && Nm.str m == n && !superLike v
    | _ => false
  | .idx o i, e => match e with
    | .Subscript v s _ => agX Γ o v && agX Γ i s && !isSlice s
    | _ => false
  | .sl o lo hi, e => match e with
    | .Subscript v (.Slice l u none _) _ => agX Γ o v && agXO Γ lo l && agXO Γ hi u
    | _ => false
  | .tup xs, e => match e with
    | .Tuple es _ _ => agXL Γ xs es
    | _ => false
  | .lst xs, e => match e with
    | .List es _ => agXL Γ xs es
    | _ => false
  | .dct ks, e => match e with
    | .Dict keys es _ => agD ks keys es && decide (ks.length ≤ 15)
    | _ => false
  | .comp x t it ifs k, e => match e with
    | .ListComp elt [⟨tg, src, tests, 0⟩] sc _ => agX Γ it src && agScope fns Γ k sc && agX (compFC fns Γ k sc) x elt && agTg (compFC fns Γ k sc) t tg && agXL (compFC fns Γ k sc) ifs tests
    | _ => false
  | .lam k, e => match e with
    | .Lambda args body sc _ => agFn fns ob Γ k args sc (.expr body)
    | _ => false
  | .mkl a, e => match e with
    | .Call (.Name x _) [y] [] _ => x == ("list" : Str) && Γ.kind x == some .globalImplicit && agX Γ a y
    | _ => false
  | .mkd a, e => match e with
    | .Call (.Name x _) [y] [] _ => x == ("dict" : Str) && Γ.kind x == some .globalImplicit && agX Γ a y
    | _ => false
  | .itms a, e => match e with
    | .Call (.Name x _) [.Call (.Attribute v n ap) [] [] p] [] _ => x == ("list" : Str) && Γ.kind x == some .globalImplicit && n == ("items" : Str) && agX Γ a v && !superLike v && ap.endLine == p.line
    | _ => false
  | .jn ts m a, e => match e with
    | .Call (.Attribute (.Constant (.str sp) _ _) n ap) [.GeneratorExp elt [⟨.Name x _, iter, [], 0⟩] sc _] [] p => sp == ⟨#[]⟩ && n == ("join" : Str) && ap.endLine == p.line && Γ.nest && agX Γ a iter && plainIter iter && genOk sc x && agPick ts m x elt
    | _ => false
def agXL (Γ : FC) : XL → List Expr → Bool
  | .nil, es => es.isEmpty
  | .cons x xs, es => match es with
    | e :: r => agX Γ x e && agXL Γ xs r
    | [] => false
def agXO (Γ : FC) : XO → Option Expr → Bool
  | .none, e => e.isNone
  | .some x, e => match e with
    | some e => agX Γ x e
    | none => false
end
def isComp : Expr → Bool
  | .ListComp .. | .SetComp .. | .DictComp .. => true
  | _ => false
def tupConst : Expr → Bool
  | .Tuple vs _ _ => vs.all (constantsAlone 8) && !vs.all (foldedForSure 8)
  | _ => false

mutual
def agSt (Γ : FC) : St → Stmt → Bool
  | .expr x, s => match s with
    | .Expr e _ => agX gname fns ob Γ x e && !isComp e
    | _ => false
  | .asg t x, s => match s with
    | .Assign [g] e _ => agTg Γ t g && agX gname fns ob Γ x e && !tupConst e
    | _ => false
  | .put o i x, s => match s with
    | .Assign [.Subscript v j _] e _ => agX gname fns ob Γ o v && agX gname fns ob Γ i j && agX gname fns ob Γ x e && !isSlice j && !isComp e
    | _ => false
  | .seta o a x, s => match s with
    | .Assign [.Attribute v n _] e _ => agX gname fns ob Γ o v && Nm.str a == n && agX gname fns ob Γ x e && !isComp e
    | _ => false
  | .seta2 o a o' a' x, s => match s with
    | .Assign [.Tuple [.Attribute v n _, .Attribute v' n' _] _ _] e _ => agX gname fns ob Γ o v && Nm.str a == n && agX gname fns ob Γ o' v' && Nm.str a' == n' && agX gname fns ob Γ x e && !tupConst e && !isComp e
    | _ => false
  | .sup _ _, _ => false
  | .aug i op x, s => match s with
    | .AugAssign (.Name n _) o e _ => Γ.vars[i]? == some n && Γ.kind n == some .local && op == o && agX gname fns ob Γ x e
    | _ => false
  | .ifs c a b, s => match s with
    | .If t x y _ => agX gname fns ob Γ c t && agSL Γ a x && agSL Γ b y
    | _ => false
  | .whl c b, s => match s with
    | .While t x [] _ => agX gname fns ob Γ c t && agSL Γ b x
    | _ => false
  | .for_ t it b, s => match s with
    | .For g e x [] _ => agTg Γ t g && agX gname fns ob Γ it e && agSL Γ b x
    | _ => false
  | .ret x, s => match s with
    | .Return (some e) _ => agX gname fns ob Γ x e
    | _ => false
  | .raise x, s => match s with
    | .Raise (some e) none _ => agX gname fns ob Γ x e
    | _ => false
  | .try_ b k i hb, s => match s with
    | .Try x [.ExceptHandler (some (.Name n _)) (some v) [.Return (some y) _] _] [] [] _ => agSL Γ b x && gname k == n && Γ.kind n == some .globalImplicit && n != ("__debug__" : Str) && !n.cps.isEmpty && Γ.vars[i]? == some v && Γ.kind v == some .local && agX gname fns ob Γ hb y
    | _ => false
  | .def_ t k, s => match s with
    | .FunctionDef _ args body [] none [] sc none bind p => agTg Γ t (.Name bind p) && agFn fns ob Γ k args sc (.stmts body)
    | _ => false
  | .brk, s => match s with
    | .Break _ => true
    | _ => false
  | .cont, s => match s with
    | .Continue _ => true
    | _ => false
  | .pass, s => match s with
    | .Pass _ => true
    | _ => false
def agSL (Γ : FC) : SL → List Stmt → Bool
  | .nil, ss => ss.isEmpty
  | .cons s r, ss => match ss with
    | t :: q => agSt Γ s t && agSL Γ r q
    | [] => false
end

/-- the first statement of a body, where it is super().__init__(..) -/
def agSup (Γ : FC) (i : Nat) (x : X) (s : Stmt) : Bool := match s with
  | .Expr (.Call (.Attribute (.Call (.Name sn _) [] [] _) n ap) [e] [] p) _ => sn == ("super" : Str) && n == ("__init__" : Str) && Γ.kind sn == some .globalImplicit && Γ.kind ("__class__" : Str) == some .free && Γ.vars[i]? == some ("self" : Str) && Γ.kind ("self" : Str) == some .local &&
      agX gname fns ob Γ x e && ap.endLine == p.line
  | _ => false
def startsSup : SL ⊕ X → Option (Nat × X × SL)
  | .inl (.cons (.sup i x) b) => some (i, x, b)
  | _ => none
def agBody (nest : Bool) (k : Nat) (sc : Scope) (body : FuncBody) : Bool :=
  agFc fns k sc && match startsSup (fns k).body, (fns k).body, body with
    | some (i, x, b), _, .stmts (t :: ss) => agSup gname fns ob (fnFC fns k sc nest) i x t && agSL gname fns ob (fnFC fns k sc nest) b ss
    | none, .inl b, .stmts ss => agSL gname fns ob (fnFC fns k sc nest) b ss
    | none, .inr x, .expr e => agX gname fns ob (fnFC fns k sc nest) x e
    | _, _, _ => false
end
def ob0 : Nat → Scope → FuncBody → Bool := fun _ _ _ => false
def ob1 (gname : Nat → Str) (fns : Nat → MF) : Nat → Scope → FuncBody → Bool := fun k sc b => (startsSup (fns k).body).isNone && sc.names.all (fun p => p.1 != ("__class__" : Str)) && agBody gname fns ob0 false k sc b


/-! ## What a text fixes -/
structure Sx where
  prog : Program
  w : World
  base : Heap
  mg : Str → Option Value
  mb : Str → Option Value
  tabs : List (Addr × Addr)
  gname : Nat → Str
  gv : Nat → Value
  gs : Nat → Option (List Nat)
  fns : Nat → MF
  gd : Nat → Option (List (Nm × V))
  cm : Nat → Nm → Option Nat
  K : Frag
  ao : Nat → Nm → Bool
  isE : Nat → Bool

variable (S : Sx)

mutual
def VR (μ : List Addr) (h : Heap) : V → Value → Prop
  | .nn, c => c = .none
  | .bb b, c => c = .bool b
  | .ii i, c => ∃ t, c = .int i t
  | .ss x, c => ∃ t, c = .str ⟨x.toArray⟩ t
  | .tt xs, c => ∃ a o cs n, c = .ref a ∧ h.get? a = some o ∧ o.cls = .type "tuple" ∧ o.data = .seq cs n ∧ VRs μ h xs cs.toList
  | .gg k, c => c = S.gv k
  | .rr i, c => ∃ a, c = .ref a ∧ μ[i]? = some a
  | .rg lo hi, c => ∃ a t1 t2 t3, c = .ref a ∧ h.get? a = some { cls := .type "range", data := .fields #[.int lo t1, .int hi t2, .int 1 t3] }
def VRs (μ : List Addr) (h : Heap) : List V → List Value → Prop
  | [], cs => cs = []
  | x :: xs, cs => ∃ c r, cs = c :: r ∧ VR μ h x c ∧ VRs μ h xs r
end

def OptVR (μ : List Addr) (h : Heap) : Option V → Option Value → Prop
  | none, c => c = none
  | some v, c => ∃ c', c = some c' ∧ VR S μ h v c'

def EntR (μ : List Addr) (h : Heap) : List (Nm × V) → List (Str × Value) → Prop
  | [], kvs => kvs = []
  | (k, v) :: r, kvs => ∃ c kr, kvs = (⟨k.toArray⟩, c) :: kr ∧ VR S μ h v c ∧ EntR μ h r kr

theorem VRs.length {μ : List Addr} {h : Heap} : ∀ {xs : List V} {cs : List Value}, VRs S μ h xs cs → cs.length = xs.length
  | [], _, e => by rw [VRs] at e; rw [e]; rfl
  | _ :: xs, _, e => by
    rw [VRs] at e
    obtain ⟨c, r, rfl, _, h2⟩ := e
    rw [List.length_cons, List.length_cons, VRs.length h2]

theorem VRs.get {μ : List Addr} {h : Heap} : ∀ {xs : List V} {cs : List Value} {j : Nat} {v : V}, VRs S μ h xs cs → xs[j]? = some v → ∃ c, cs[j]? = some c ∧ VR S μ h v c
  | [], _, j, _, _, e => by cases j <;> cases e
  | x :: xs, _, j, v, r, e => by
    rw [VRs] at r
    obtain ⟨c, r, rfl, h1, h2⟩ := r
    cases j with
    | zero => cases e; exact ⟨c, rfl, h1⟩
    | succ j =>
      rw [List.getElem?_cons_succ] at e ⊢
      exact VRs.get h2 e

theorem VRs.append {μ : List Addr} {h : Heap} : ∀ {xs ys : List V} {cs ds : List Value}, VRs S μ h xs cs → VRs S μ h ys ds → VRs S μ h (xs ++ ys) (cs ++ ds)
  | [], ys, cs, ds, a, b => by rw [VRs] at a; subst a; exact b
  | x :: xs, ys, cs, ds, a, b => by
    rw [VRs] at a
    obtain ⟨c, r, rfl, h1, h2⟩ := a
    rw [List.cons_append, VRs]
    exact ⟨c, r ++ ds, rfl, h1, VRs.append h2 b⟩

theorem VRs.one {μ : List Addr} {h : Heap} {x : V} {c : Value} (a : VR S μ h x c) : VRs S μ h [x] [c] := by
  rw [VRs]; exact ⟨c, [], rfl, a, by rw [VRs]⟩
theorem VRs.nil {μ : List Addr} {h : Heap} : VRs S μ h [] [] := by rw [VRs]
theorem VRs.cons {μ : List Addr} {h : Heap} {x : V} {xs : List V} {c : Value} {cs : List Value} (a : VR S μ h x c) (b : VRs S μ h xs cs) : VRs S μ h (x :: xs) (c :: cs) := by
  rw [VRs]; exact ⟨c, cs, rfl, a, b⟩

def fixed (c : Value) : Prop := c = .type "tuple" ∨ c = .type "range"
/-- tuples stay, places stay -/
structure Mono (μ μ' : List Addr) (h h' : Heap) : Prop where
  pre : ∀ (i : Nat) (a : Addr), μ[i]? = some a → μ'[i]? = some a
  tup : ∀ a o, h.get? a = some o → fixed o.cls → h'.get? a = some o

theorem Mono.refl (μ : List Addr) (h : Heap) : Mono μ μ h h := ⟨fun _ _ e => e, fun _ _ e _ => e⟩
theorem Mono.trans {μ₁ μ₂ μ₃ : List Addr} {h₁ h₂ h₃ : Heap} (x : Mono μ₁ μ₂ h₁ h₂) (y : Mono μ₂ μ₃ h₂ h₃) : Mono μ₁ μ₃ h₁ h₃ :=
  ⟨fun i a e => y.pre i a (x.pre i a e), fun a o e c => y.tup a o (x.tup a o e c) c⟩

section
variable {μ μ' : List Addr} {h h' : Heap}
mutual
theorem VR.mono (m : Mono μ μ' h h') : ∀ {v : V} {c : Value}, VR S μ h v c → VR S μ' h' v c
  | .nn, _, e => by rw [VR] at e ⊢; exact e
  | .bb _, _, e => by rw [VR] at e ⊢; exact e
  | .ii _, _, e => by rw [VR] at e ⊢; exact e
  | .ss _, _, e => by rw [VR] at e ⊢; exact e
  | .gg _, _, e => by rw [VR] at e ⊢; exact e
  | .rr i, _, e => by
    rw [VR] at e ⊢
    obtain ⟨a, rfl, e⟩ := e
    exact ⟨a, rfl, m.pre i a e⟩
  | .tt xs, _, e => by
    rw [VR] at e ⊢
    obtain ⟨a, o, cs, n, rfl, ho, hc, hd, hr⟩ := e
    exact ⟨a, o, cs, n, rfl, m.tup a o ho (.inl hc), hc, hd, VRs.mono m hr⟩
  | .rg _ _, _, e => by
    rw [VR] at e ⊢
    obtain ⟨a, t1, t2, t3, rfl, ho⟩ := e
    exact ⟨a, t1, t2, t3, rfl, m.tup a _ ho (.inr rfl)⟩
theorem VRs.mono (m : Mono μ μ' h h') : ∀ {xs : List V} {cs : List Value}, VRs S μ h xs cs → VRs S μ' h' xs cs
  | [], _, e => by rw [VRs] at e ⊢; exact e
  | x :: xs, _, e => by
    rw [VRs] at e ⊢
    obtain ⟨c, r, rfl, h1, h2⟩ := e
    exact ⟨c, r, rfl, VR.mono m h1, VRs.mono m h2⟩
end
theorem OptVR.mono (m : Mono μ μ' h h') : ∀ {v : Option V} {c : Option Value}, OptVR S μ h v c → OptVR S μ' h' v c
  | none, _, e => e
  | some _, _, ⟨c', e, r⟩ => ⟨c', e, VR.mono S m r⟩
theorem EntR.mono (m : Mono μ μ' h h') : ∀ {es : List (Nm × V)} {kvs : List (Str × Value)}, EntR S μ h es kvs → EntR S μ' h' es kvs
  | [], _, e => e
  | (_, _) :: _, _, ⟨c, kr, r1, r2, r3⟩ => ⟨c, kr, r1, VR.mono S m r2, EntR.mono m r3⟩
end

/-! ## Objects -/
/-- a code object -/
def CodeR (h : Heap) (cd : Value) (q : Str) : Prop := ∃ c o vs t, cd = .ref c ∧ h.get? c = some o ∧ o.cls = .type "code" ∧ o.data = .fields vs ∧ vs[1]? = some (.str q t)
theorem CodeR.rec {h : Heap} {cd : Value} {q : Str} (x : CodeR h cd q) : h.CodeRec cd q := let ⟨c, o, vs, t, a, b, _, d, e⟩ := x; ⟨c, o, vs, t, a, b, d, e⟩

/-- how a closure made in the run lies -/
structure FnR (S : Sx) (μ : List Addr) (h : Heap) (k : Nat) (cs : List Nat) (fd : FuncData) : Prop where
  params : fd.params.args.map (·.arg) = (S.fns k).params
  rest : fd.params.posonlyargs = [] ∧ fd.params.vararg = none ∧ fd.params.kwonlyargs = [] ∧ fd.params.kwarg = none
  glob : fd.globals = mainGlobals
  blt : fd.builtins = builtinsNs
  dflt : fd.defaults = .none ∧ fd.kwdefaults = .none
  plain : fd.scope.isGenerator = false ∧ fd.scope.isCoroutine = false ∧ fd.scope.kind = .function
  code : ∃ q, CodeR h fd.code q
  clo : ∀ (i : Nat) (x : Str), (S.fns k).free[i]? = some x → ∃ (j : Nat) (a : Addr), cs[i]? = some j ∧ fd.closure.lookup x = some a ∧ μ[j]? = some a

/-- a dict made in the run: it is not the table of the modules -/
def NewD (S : Sx) (a : Addr) : Prop := S.base.get? a = none ∧ (a == sysModules) = false

/-- a function's record agrees with a function of the mini language; agreement of the body is handed in -/
def OR (S : Sx) (μ : List Addr) (h : Heap) : O → Addr → Prop
  | .list xs, a => S.base.get? a = none ∧ ∃ cs n, h.get? a = some (listOf cs n) ∧ VRs S μ h xs cs.toList
  | .ilist xs, a => S.base.get? a ≠ none ∧ ∃ cs, h.IsList a cs ∧ VRs S μ h xs cs.toList
  | .dict es ep, a => NewD S a ∧ ∃ kvs, h.DictAt (strKind S.prog S.w) a kvs ep ∧ EntR S μ h es kvs
  | .ns es, a => S.base.get? a = none ∧ ∃ m o, h.get? a = some o ∧ o.cls = .type "dict" ∧ h.Ns a m ∧ (∀ k : Nm, OptVR S μ h (es.lookup k) (m ⟨k.toArray⟩)) ∧ ∃ ds k, o.data = .dict ds k ∧ ds.size ≤ es.length
  | .inst c d, a => S.base.get? a = none ∧ ∃ C dx, S.gv c = .ref C ∧ μ[d]? = some dx ∧ h.get? a = some (instObj C dx)
  | .exc c args d fr, a => S.base.get? a = none ∧ ∃ C vs t sl dd, S.gv c = .ref C ∧ h.get? a = some ⟨.ref C, dd, .fields vs, sl⟩ ∧ 2 ≤ vs.size ∧ vs[0]? = some t ∧ VR S μ h (.tt args) t ∧ (fr = true → vs[1]? = some .none) ∧
      (match d with | none => dd = none | some j => ∃ dx, dd = some dx ∧ μ[j]? = some dx)
  | .cell v, a => S.base.get? a = none ∧ ∃ cv, h.get? a = some { cls := .type "cell", data := .cell cv } ∧ OptVR S μ h v cv
  | .fn k cs, a => S.base.get? a = none ∧ ∃ fd, h.get? a = some { cls := .type "function", data := .func fd } ∧ FnR S μ h k cs fd ∧ ob1 S.gname S.fns k fd.scope fd.body = true

end Mine
set_option maxRecDepth 10000
namespace Mine
open PySem PySem.Calls PyProof.Rows PySem.W

/-- the code tables, and what is made of them -/
def TabOk (h : Heap) (ps : Array Value) : Prop := TriplesOk ps.toList ∧ ∀ pos c, codeAmong pos ps.toList = some c → ∃ q, CodeR h c q

structure Inv (S : Sx) (s : Shared) : Prop where
  stay : S.base.StaysIn s.heap
  gens : AllBare s.gens
  tabs : ∀ q ∈ S.tabs, ∃ ps, s.heap.get? q.2 = some (tabObj ps) ∧ TabOk s.heap ps

structure SR (S : Sx) (μ : List Addr) (H : AH) (h : Heap) : Prop where
  len : μ.length = H.length
  nodup : μ.Nodup
  obj : ∀ (i : Nat) (o : O) (a : Addr), H[i]? = some o → μ[i]? = some a → OR S μ h o a

structure Good (S : Sx) (μ : List Addr) (H : AH) (s : Shared) : Prop where
  inv : Inv S s
  sr : SR S μ H s.heap

/-- classes of the objects that the abstract heap knows -/
def mCls (c : Value) : Prop := c = .type "list" ∨ c = .type "dict" ∨ c = .type "cell" ∨ c = .type "function" ∨ ∃ C, c = .ref C

theorem OR.cls {S : Sx} {μ : List Addr} {h : Heap} {o : O} {a : Addr} (x : OR S μ h o a) : ∃ ob, h.get? a = some ob ∧ mCls ob.cls := by
  cases o with
  | list xs => obtain ⟨_, cs, n, e, _⟩ := x; exact ⟨_, e, .inl rfl⟩
  | ilist xs => obtain ⟨_, cs, ⟨ob, e, c, _⟩, _⟩ := x; exact ⟨ob, e, .inl c⟩
  | dict es ep => obtain ⟨_, kvs, ⟨o, es, e, c, _⟩, _⟩ := x; exact ⟨_, e, .inr (.inl c.1)⟩
  | ns es => obtain ⟨_, m, o, e, c, _⟩ := x; exact ⟨_, e, .inr (.inl c)⟩
  | inst c d => obtain ⟨_, C, dx, _, _, e⟩ := x; exact ⟨_, e, .inr (.inr (.inr (.inr ⟨C, rfl⟩)))⟩
  | exc c args d fr => obtain ⟨_, C, vs, t, sl, dd, _, e, _⟩ := x; exact ⟨_, e, .inr (.inr (.inr (.inr ⟨C, rfl⟩)))⟩
  | cell v => obtain ⟨_, cv, e, _⟩ := x; exact ⟨_, e, .inr (.inr (.inl rfl))⟩
  | fn k cs => obtain ⟨_, fd, e, _⟩ := x; exact ⟨_, e, .inr (.inr (.inr (.inl rfl)))⟩

theorem SR.cls {S : Sx} {μ : List Addr} {H : AH} {h : Heap} (x : SR S μ H h) {a : Addr} (ha : a ∈ μ) : ∃ ob, h.get? a = some ob ∧ mCls ob.cls := by
  obtain ⟨i, hi, e⟩ := List.mem_iff_getElem.mp ha
  have hi' : i < H.length := x.len ▸ hi
  exact (x.obj i H[i] a (List.getElem?_eq_getElem hi') (by rw [List.getElem?_eq_getElem hi, e])).cls

theorem not_mCls {c : Value} {t : String} (e : c = .type t) (h1 : t ≠ "list") (h2 : t ≠ "dict") (h3 : t ≠ "cell") (h4 : t ≠ "function") : ¬ mCls c := by
  subst e
  rintro (q | q | q | q | ⟨C, q⟩)
  · injection q with q; exact h1 q
  · injection q with q; exact h2 q
  · injection q with q; exact h3 q
  · injection q with q; exact h4 q
  · cases q

theorem SR.out {S : Sx} {μ : List Addr} {H : AH} {h : Heap} (x : SR S μ H h) {a : Addr} {ob : Obj} (e : h.get? a = some ob) (hn : ¬ mCls ob.cls) : a ∉ μ := fun ha => by
  obtain ⟨ob', e', hc⟩ := x.cls ha
  rw [e] at e'; cases e'; exact hn hc
theorem SR.live {S : Sx} {μ : List Addr} {H : AH} {h : Heap} (x : SR S μ H h) {a : Addr} (ha : a ∈ μ) : a < h.objs.size := let ⟨_, e, _⟩ := x.cls ha; Heap.lt_size e

/-- objects that may change at any time and that nobody looks at -/
def loose (o : Obj) : Prop := o.cls = .type "traceback" ∨ o.cls = .none

def Same (o o' : Obj) : Prop := o'.cls = o.cls ∧ o'.dict = o.dict ∧ o'.data = o.data ∧ (o.cls = .type "frame" ∨ o'.slots = o.slots)
theorem Same.refl (o : Obj) : Same o o := ⟨rfl, rfl, rfl, .inr rfl⟩
theorem Same.trans {a b c : Obj} (x : Same a b) (y : Same b c) : Same a c :=
  ⟨y.1.trans x.1, y.2.1.trans x.2.1, y.2.2.1.trans x.2.2.1, by
    rcases x.2.2.2 with q | q
    · exact .inl q
    · rcases y.2.2.2 with r | r
      · exact .inl (x.1 ▸ r)
      · exact .inr (r.trans q)⟩
theorem Same.eq {o o' : Obj} (x : Same o o') (h : o.cls ≠ .type "frame") : o' = o := by
  obtain ⟨c, d, t, s⟩ := o; obtain ⟨c', d', t', s'⟩ := o'
  obtain ⟨h1, h2, h3, h4⟩ := x
  dsimp only at h1 h2 h3 h4
  subst h1 h2 h3
  rcases h4 with h4 | h4
  · exact absurd h4 h
  · rw [h4]

structure Grow (S : Sx) (W μ μ' : List Addr) (s s' : Shared) : Prop where
  pre : ∃ ν, μ' = μ ++ ν
  fresh : ∀ a ∈ μ', a ∉ μ → s.heap.objs.size ≤ a
  size : s.heap.objs.size ≤ s'.heap.objs.size
  keep : ∀ b o, s.heap.get? b = some o → b ∉ W → b ∉ μ → ¬ loose o → ∃ o', s'.heap.get? b = some o' ∧ Same o o'
  os : s'.os = s.os
  tok : s.toks ≤ s'.toks

theorem Grow.refl (S : Sx) (W μ : List Addr) (s : Shared) : Grow S W μ μ s s :=
  ⟨⟨[], by simp⟩, fun _ h1 h2 => absurd h1 h2, Nat.le_refl _, fun _ o e _ _ _ => ⟨o, e, .refl o⟩, rfl, Nat.le_refl _⟩
theorem Grow.new {S : Sx} {W μ μ' : List Addr} {s s' : Shared} (x : Grow S W μ μ' s s') {a : Addr} (h : a ∈ μ') (hn : a ∉ μ) : s.heap.get? a = none := Heap.get?_none_of_le (x.fresh a h hn)

theorem loose_cls {o o' : Obj} (e : o'.cls = o.cls) (h : ¬ loose o) : ¬ loose o' := by unfold loose; rw [e]; exact h

theorem Grow.mem {S : Sx} {W μ μ' : List Addr} {s s' : Shared} (x : Grow S W μ μ' s s') {a : Addr} (h : a ∈ μ) : a ∈ μ' := by
  obtain ⟨ν, rfl⟩ := x.pre; exact List.mem_append_left _ h
theorem Grow.at {S : Sx} {W μ μ' : List Addr} {s s' : Shared} (x : Grow S W μ μ' s s') {i : Nat} {a : Addr} (h : μ[i]? = some a) : μ'[i]? = some a := by
  obtain ⟨ν, rfl⟩ := x.pre
  rw [List.getElem?_append_left (List.getElem?_eq_some_iff.mp h).1]; exact h

theorem Grow.trans {S : Sx} {W μ μ' μ'' : List Addr} {s s' s'' : Shared} (x : Grow S W μ μ' s s') (y : Grow S W μ' μ'' s' s'') : Grow S W μ μ'' s s'' where
  pre := by
    obtain ⟨ν, rfl⟩ := x.pre
    obtain ⟨ν', rfl⟩ := y.pre
    exact ⟨ν ++ ν', by simp⟩
  fresh a h1 h2 := by
    by_cases h3 : a ∈ μ'
    · exact x.fresh a h3 h2
    · exact Nat.le_trans x.size (y.fresh a h1 h3)
  size := Nat.le_trans x.size y.size
  keep b o e hw hm hl := by
    obtain ⟨o', e', c'⟩ := x.keep b o e hw hm hl
    have hm' : b ∉ μ' := fun hb => by rw [x.new hb hm] at e; cases e
    obtain ⟨o'', e'', c''⟩ := y.keep b o' e' hw hm' (loose_cls c'.1 hl)
    exact ⟨o'', e'', c'.trans c''⟩
  os := y.os.trans x.os
  tok := Nat.le_trans x.tok y.tok

theorem Grow.weaken {S : Sx} {W W' μ μ' : List Addr} {s s' : Shared} (x : Grow S W μ μ' s s') (h : ∀ a ∈ W, a ∈ W') : Grow S W' μ μ' s s' :=
  ⟨x.pre, x.fresh, x.size, fun b o e hw => x.keep b o e fun hb => hw (h b hb), x.os, x.tok⟩

theorem cls_ne {c : Value} {t : String} (e : c = .type t) (u : String) (h : t ≠ u) : c ≠ .type u := fun q => by
  rw [e] at q; injection q with q; exact h q

/-- tuples and places stay in a growth -/
theorem Grow.mono {S : Sx} {W μ μ' : List Addr} {s s' : Shared} {H : AH} (x : Grow S W μ μ' s s') (g : SR S μ H s.heap) (hW : ∀ a ∈ W, ∀ o, s.heap.get? a = some o → ¬ fixed o.cls) : Mono μ μ' s.heap s'.heap where
  pre i a e := x.at e
  tup a o e c := by
    have hm : a ∉ μ := g.out e (by rcases c with c | c <;> exact not_mCls c (by decide) (by decide) (by decide) (by decide))
    have hl : ¬ loose o := by rcases c with c | c <;> rintro (q | q) <;> rw [c] at q <;> first | (injection q with q; exact absurd q (by decide)) | cases q
    obtain ⟨o', e', c'⟩ := x.keep a o e (fun hw => hW a hw o e c) hm hl
    rw [c'.eq (by rcases c with c | c <;> rw [c] <;> intro q <;> injection q with q <;> exact absurd q (by decide))] at e'
    exact e'
end Mine
set_option maxRecDepth 10000
namespace Mine
open PySem PySem.Calls PyProof.Rows PySem.W

/-! ## What the top lays -/
abbrev bmVE : List Value := [.type "ValueError", .type "Exception", .type "BaseException", .type "object"]
structure SV (S : Sx) : Prop where
  g : S.base.Ns mainGlobals S.mg
  b : S.base.Ns builtinsNs S.mb
  lim : S.base.NoLimit
  glob : ∀ k, (S.gname k).cps.isEmpty = false → S.mg (S.gname k) = some (S.gv k) ∨ (S.mg (S.gname k) = none ∧ S.mb (S.gname k) = some (S.gv k))
  bi : ∀ f : Bi, S.mg f.name = none ∧ S.mb f.name = some f.val
  tabs : ∀ q ∈ S.tabs, CodeHd S.base q.1 q.2 ∧ S.base.get? q.2 = none
  gd : ∀ k es, S.gd k = some es → ∃ a kvs, S.gv k = .ref a ∧ a ≠ sysModules ∧ S.base.DictOf (strKind S.prog S.w) a kvs ∧ EntR S [] S.base es kvs
  sysm : ∃ b, sysModules < b ∧ S.base.get? b ≠ none
  ty : ∀ t : Ty, S.mg t.name = none ∧ S.mb t.name = some t.val
  isi : S.mg "isinstance" = none ∧ S.mb "isinstance" = some (.builtin "isinstance")
  kin : S.K.In S.base
  gs : ∀ k x, S.gs k = some x → ∃ t, S.gv k = .str ⟨x.toArray⟩ t
  hand : ∀ k, handedIn (S.gv k) = true
  ao : ∀ c C a, S.gv c = .ref C → S.ao c a = true → (S.isE c = false → plainGet S.K C ⟨a.toArray⟩ = true) ∧ hasDictIn S.K C = true ∧ findIn S.K (.ref C) ⟨a.toArray⟩ = some none ∧
    findIn S.K (.ref C) "__setattr__" = some (some (.builtin "object.__setattr__")) ∧ (S.isE c = false → plainOver S.K C = true)
  exc : ∀ c C, S.gv c = .ref C → S.isE c = true → mroIn S.K C (.type "BaseException") = some true ∧ mroIn S.K C (.type "tuple") = some false ∧ ktsIn S.K C "BaseException" = true ∧ typeIn S.K (.ref C) = some (.type "type") ∧ ∃ cd, clsIn S.K C = some cd ∧ cd.mro = .ref C :: bmVE
  exs : ∀ c C, S.gv c = .ref C → S.isE c = true → findIn S.K (.ref C) "__str__" = some (some (.builtin "BaseException.__str__"))
  exg : ∀ c C, S.gv c = .ref C → S.isE c = true → findIn S.K (.ref C) "__getattribute__" = some (some (.builtin "BaseException.__getattribute__")) ∧ findIn S.K (.ref C) "__getattr__" = some none
  cm : ∀ c C m k, S.gv c = .ref C → S.cm c m = some k → plainGet S.K C ⟨m.toArray⟩ = true ∧ ∃ f, S.gv k = .ref f ∧ findIn S.K (.ref C) ⟨m.toArray⟩ = some (some (.ref f)) ∧ isFn S.K (.ref f) = true
  bmain : ∃ bm ob, S.mg "__builtins__" = some (.ref bm) ∧ bm ≠ builtinsNs ∧ S.base.get? bm = some ob ∧ ob.cls = .type "module" ∧ ob.dict = some builtinsNs ∧ ob.data = .plain

/-! ## Frames -/
def FF (S : Sx) (h : Heap) : List Env → Prop
  | [] => True
  | env :: r => env.scope.kind ≠ .module ∧ (∃ L o es n, env.frame = some L ∧ S.base.get? L = none ∧ h.get? L = some o ∧ o.cls = .type "frame" ∧ o.data = .dict es n) ∧ FF S h r

theorem FF.fun {S : Sx} {h : Heap} : ∀ {l : List Env}, FF S h l → h.FunFrames S.base l
  | [], _ => trivial
  | _ :: _, ⟨k, ⟨L, o, es, n, f, b, e, _, d⟩, r⟩ => ⟨k, ⟨L, o, f, b, e, fun vs q => by rw [d] at q; cases q⟩, r.fun⟩
theorem FF.cls {S : Sx} {h : Heap} : ∀ {l : List Env}, FF S h l → ∀ b ∈ l.filterMap (·.frame), S.base.get? b = none ∧ ∃ o es n, h.get? b = some o ∧ o.cls = .type "frame" ∧ o.data = .dict es n
  | [], _, b, hb => nomatch hb
  | env :: r, ⟨_, ⟨L, o, es, n, f, q, e, c, d⟩, x⟩, b, hb => by
    rw [List.filterMap_cons, f] at hb
    rcases List.mem_cons.mp hb with rfl | hb
    · exact ⟨q, o, es, n, e, c, d⟩
    · exact x.cls b hb
theorem FF.step {S : Sx} {h h' : Heap} (k : ∀ b o, h.get? b = some o → o.cls = .type "frame" → (∃ es n, o.data = .dict es n) → ∃ o', h'.get? b = some o' ∧ o'.cls = .type "frame" ∧ ∃ es n, o'.data = .dict es n) :
    ∀ {l : List Env}, FF S h l → FF S h' l
  | [], _ => trivial
  | _ :: _, ⟨q, ⟨L, o, es, n, f, b, e, c, d⟩, r⟩ => by
    obtain ⟨o', e', c', es', n', d'⟩ := k L o e c ⟨es, n, d⟩
    exact ⟨q, ⟨L, o', es', n', f, b, e', c', d'⟩, r.step k⟩

theorem not_loose {o : Obj} {t : String} (c : o.cls = .type t) (h : t ≠ "traceback") : ¬ loose o := by
  rintro (q | q)
  · rw [c] at q; injection q with q; exact h q
  · rw [c] at q; cases q

/-- what stands around a frame of the mini language: F is the frame's own environment -/
structure AR (S : Sx) (A : Around) (F : Env) (n : Nat) (h : Heap) : Prop where
  frames : ∃ out, A.frames = some (F :: out) ∧ FF S h (F :: out)
  depth : A.depth + n ≤ recursionLimit
  units : A.units + 9 * n + 400 < cLine
  hand : n ≠ 0 → A.handled = none

/-- a frame: its names and cells -/
structure FR (S : Sx) (Γ : FC) (env F : Env) (μ : List Addr) (ρ : Lo) (κ : List Nat) (h : Heap) : Prop where
  kind : env.scope.kind = .function
  names : env.scope.names = Γ.names
  glo : env.globals = mainGlobals
  blt : env.builtins = builtinsNs
  frame : env.frame = F.frame ∧ env.frame ≠ none
  ns : ∃ m, h.Ns env.locals m ∧ ∀ (i : Nat) (x : Str), Γ.vars[i]? = some x → OptVR S μ h (ρ.getD i none) (m x)
  len : ρ.length = Γ.vars.length
  out : S.base.get? env.locals = none ∧ ∃ o, h.get? env.locals = some o ∧ (o.cls = .type "frame" ∨ o.cls = .type "dict") ∧ env.locals ∉ μ
  cel : ∀ (i : Nat) (x : Str), Γ.cn[i]? = some x → ∃ (j : Nat) (a : Addr), κ[i]? = some j ∧ env.cells.lookup x = some a ∧ μ[j]? = some a
  nest : Γ.nest = true → ∃ q ∈ S.tabs, env.code = .ref q.1

theorem Heap.Ns.sameData {h h' : Heap} {L : Addr} {m : Str → Option Value} {o o' : Obj} (n : h.Ns L m) (e : h.get? L = some o) (e' : h'.get? L = some o') (d : o'.data = o.data) : h'.Ns L m := by
  obtain ⟨o1, es, ep, a1, a2, a3, a4⟩ := n
  rw [e] at a1; cases a1
  exact ⟨o', es, ep, e', d.trans a2, a3, a4⟩

theorem Grow.locals {S : Sx} {μ μ' : List Addr} {s s' : Shared} (x : Grow S [] μ μ' s s') {L : Addr} {o : Obj} (e : s.heap.get? L = some o) (c : o.cls = .type "frame" ∨ o.cls = .type "dict") (hm : L ∉ μ) :
    ∃ o', s'.heap.get? L = some o' ∧ o'.cls = o.cls ∧ o'.data = o.data ∧ L ∉ μ' := by
  have hl : ¬ loose o := by rcases c with c | c <;> exact not_loose c (by decide)
  obtain ⟨o', e', c'⟩ := x.keep L o e (by simp) hm hl
  exact ⟨o', e', c'.1, c'.2.2.1, fun hb => by rw [x.new hb hm] at e; cases e⟩

theorem FR.grow {S : Sx} {Γ : FC} {env F : Env} {μ μ' : List Addr} {ρ : Lo} {κ : List Nat} {s s' : Shared} {H : AH} (x : FR S Γ env F μ ρ κ s.heap) (g : SR S μ H s.heap) (gr : Grow S [] μ μ' s s') : FR S Γ env F μ' ρ κ s'.heap := by
  obtain ⟨hb, o, e, c, hm⟩ := x.out
  obtain ⟨o', e', c', d', hm'⟩ := gr.locals e c hm
  have mo := gr.mono g (by simp)
  obtain ⟨m, hn, hv⟩ := x.ns
  refine ⟨x.kind, x.names, x.glo, x.blt, x.frame, ⟨m, Heap.Ns.sameData hn e e' d', fun i y q => (hv i y q).mono S mo⟩, x.len, ⟨hb, o', e', by rw [c']; exact c, hm'⟩, fun i y q => ?_, x.nest⟩
  obtain ⟨j, a, r1, r2, r3⟩ := x.cel i y q
  exact ⟨j, a, r1, r2, gr.at r3⟩

theorem FF.grow {S : Sx} {W μ μ' : List Addr} {s s' : Shared} {H : AH} (g : SR S μ H s.heap) (gr : Grow S W μ μ' s s') (hW : ∀ b ∈ W, ∀ o, s.heap.get? b = some o → o.cls = .type "frame" → ∃ o', s'.heap.get? b = some o' ∧ o'.cls = .type "frame" ∧ ∃ es n, o'.data = .dict es n)
    {l : List Env} (f : FF S s.heap l) : FF S s'.heap l :=
  f.step fun b o e c ⟨es, n, d⟩ => by
    by_cases hb : b ∈ W
    · exact hW b hb o e c
    · have hm : b ∉ μ := g.out e (not_mCls c (by decide) (by decide) (by decide) (by decide))
      obtain ⟨o', e', c'⟩ := gr.keep b o e hb hm (not_loose c (by decide))
      exact ⟨o', e', c'.1.trans c, es, n, c'.2.2.1.trans d⟩

theorem AR.grow {S : Sx} {A : Around} {F : Env} {n : Nat} {μ μ' : List Addr} {s s' : Shared} {H : AH} (x : AR S A F n s.heap) (g : SR S μ H s.heap) (gr : Grow S [] μ μ' s s') : AR S A F n s'.heap := by
  obtain ⟨out, f1, f2⟩ := x.frames
  exact ⟨⟨out, f1, f2.grow g gr (by simp)⟩, x.depth, x.units, x.hand⟩

/-! ## An exception in flight -/
/-- st: none — no place noted yet; some fl — its last place, and whose frame it is in flight through -/
def Fl (S : Sx) (h : Heap) (e : Addr) (P : Option Value → Prop) : Prop :=
  S.base.get? e = none ∧ ∃ oe vs, h.get? e = some oe ∧ oe.data = .fields vs ∧
    ((vs[1]? = some .none ∧ P none) ∨ ∃ T oT ts fl, vs[1]? = some (.ref T) ∧ S.base.get? T = none ∧ h.get? T = some oT ∧ oT.cls = .type "traceback" ∧ oT.data = .fields ts ∧ ts[3]? = some fl ∧ P (some fl))
def here (L : Addr) (st : Option Value) : Prop := st = none ∨ st = some .none ∨ st = some (rawInt L)
theorem Fl.imp {S : Sx} {h : Heap} {e : Addr} {P Q : Option Value → Prop} (x : Fl S h e P) (k : ∀ st, P st → Q st) : Fl S h e Q := by
  obtain ⟨b, oe, vs, h1, h2, h3⟩ := x
  refine ⟨b, oe, vs, h1, h2, ?_⟩
  rcases h3 with ⟨a, p⟩ | ⟨T, oT, ts, fl, a1, a2, a3, a4, a5, a6, p⟩
  · exact .inl ⟨a, k _ p⟩
  · exact .inr ⟨T, oT, ts, fl, a1, a2, a3, a4, a5, a6, k _ p⟩
end Mine
set_option maxRecDepth 10000
namespace Mine
open PySem PySem.Calls PyProof.Rows PySem.W

/-! ## Elementary steps -/
theorem CodeR.step {h h' : Heap} {cd : Value} {q : Str} (x : CodeR h cd q) (k : ∀ b o, h.get? b = some o → o.cls = .type "code" → h'.get? b = some o) : CodeR h' cd q :=
  let ⟨c, o, vs, t, a, b, cc, d, e⟩ := x; ⟨c, o, vs, t, a, k c o b cc, cc, d, e⟩

/-- the objects that others lean on: tuples and code objects -/
def Still (h h' : Heap) : Prop := ∀ b o, h.get? b = some o → (fixed o.cls ∨ o.cls = .type "code") → h'.get? b = some o
theorem Still.mono {h h' : Heap} (x : Still h h') {μ μ' : List Addr} (p : ∀ (i : Nat) (a : Addr), μ[i]? = some a → μ'[i]? = some a) : Mono μ μ' h h' := ⟨p, fun a o e c => x a o e (.inl c)⟩
theorem FnR.step {S : Sx} {μ μ' : List Addr} {h h' : Heap} {k : Nat} {cs : List Nat} {fd : FuncData} (x : FnR S μ h k cs fd) (st : Still h h') (p : ∀ (i : Nat) (a : Addr), μ[i]? = some a → μ'[i]? = some a) : FnR S μ' h' k cs fd where
  params := x.params
  rest := x.rest
  glob := x.glob
  blt := x.blt
  dflt := x.dflt
  plain := x.plain
  code := let ⟨q, c⟩ := x.code; ⟨q, c.step fun b o e h => st b o e (.inr h)⟩
  clo i y q := let ⟨j, a, r1, r2, r3⟩ := x.clo i y q; ⟨j, a, r1, r2, p j a r3⟩

/-- an object of the abstract heap that is untouched -/
theorem OR.step {S : Sx} {μ μ' : List Addr} {h h' : Heap} {o : O} {a : Addr} (x : OR S μ h o a) (st : Still h h') (p : ∀ (i : Nat) (a : Addr), μ[i]? = some a → μ'[i]? = some a) (e : ∀ ob, h.get? a = some ob → h'.get? a = some ob) :
    OR S μ' h' o a := by
  have mo := st.mono p
  cases o with
  | list xs => obtain ⟨b, cs, n, q, r⟩ := x; exact ⟨b, cs, n, e _ q, r.mono S mo⟩
  | ilist xs => obtain ⟨b, cs, ⟨ob, q, c⟩, r⟩ := x; exact ⟨b, cs, ⟨ob, e _ q, c⟩, r.mono S mo⟩
  | dict es ep => obtain ⟨b, kvs, ⟨o, es, q, r⟩, v⟩ := x; exact ⟨b, kvs, ⟨o, es, e _ q, r⟩, v.mono S mo⟩
  | ns es => obtain ⟨b, m, o, q, c, n, v, z⟩ := x; exact ⟨b, m, o, e _ q, c, Heap.Ns.sameData n q (e _ q) rfl, fun k => (v k).mono S mo, z⟩
  | inst c d => obtain ⟨b, C, dx, g, q, r⟩ := x; exact ⟨b, C, dx, g, p _ _ q, e _ r⟩
  | exc c args d fr =>
    obtain ⟨b, C, vs, t, sl, dd, gc, q, r1, r2, r3, rf, r4⟩ := x
    refine ⟨b, C, vs, t, sl, dd, gc, e _ q, r1, r2, r3.mono S mo, rf, ?_⟩
    cases d with
    | none => exact r4
    | some j => obtain ⟨dx, r5, r6⟩ := r4; exact ⟨dx, r5, p _ _ r6⟩
  | cell v => obtain ⟨b, cv, q, r⟩ := x; exact ⟨b, cv, e _ q, r.mono S mo⟩
  | fn k cs => obtain ⟨b, fd, q, r, ok⟩ := x; exact ⟨b, fd, e _ q, r.step st p, ok⟩

theorem TabOk.step {h h' : Heap} {ps : Array Value} (x : TabOk h ps) (st : Still h h') : TabOk h' ps :=
  ⟨x.1, fun pos c e => let ⟨q, r⟩ := x.2 pos c e; ⟨q, r.step fun b o e h => st b o e (.inr h)⟩⟩

section
variable {S : Sx} {μ : List Addr} {H : AH} {s : Shared} {W : List Addr}

theorem Good.toks (g : Good S μ H s) (t : Nat) : Good S μ H { s with toks := t } := ⟨⟨g.inv.stay, g.inv.gens, g.inv.tabs⟩, g.sr⟩
theorem Grow.toks (t : Nat) (ht : s.toks ≤ t) : Grow S W μ μ s { s with toks := t } :=
  ⟨⟨[], by simp⟩, fun _ h1 h2 => absurd h1 h2, Nat.le_refl _, fun _ o e _ _ _ => ⟨o, e, .refl o⟩, rfl, ht⟩

theorem Good.base_new (g : Good S μ H s) : S.base.get? s.heap.objs.size = none := g.inv.stay.fresh
theorem Good.base_newD (SVS : SV S) (g : Good S μ H s) : NewD S s.heap.objs.size := by
  refine ⟨g.base_new, ?_⟩
  obtain ⟨b, hb, hn⟩ := SVS.sysm
  obtain ⟨o, ho⟩ := Option.ne_none_iff_exists'.mp hn
  rw [beq_eq_false_iff_ne]
  have := Heap.lt_size (g.inv.stay b o ho)
  intro e
  exact absurd this (Nat.not_lt.mpr (Nat.le_of_lt (by rw [e]; exact hb)))
theorem still_push (o : Obj) : Still s.heap (s.heap.push o) := fun _ ob e _ => Heap.get?_push_of_some _ e

/-- a new object that nobody names -/
theorem Good.push (g : Good S μ H s) (o : Obj) : Good S μ H { s with heap := s.heap.push o } where
  inv := ⟨fun b ob e => Heap.get?_push_of_some _ (g.inv.stay b ob e), g.inv.gens, fun q hq => let ⟨ps, e, t⟩ := g.inv.tabs q hq; ⟨ps, Heap.get?_push_of_some _ e, t.step (still_push o)⟩⟩
  sr := ⟨g.sr.len, g.sr.nodup, fun i ob a e1 e2 => (g.sr.obj i ob a e1 e2).step (still_push o) (fun _ _ q => q) fun _ q => Heap.get?_push_of_some _ q⟩
theorem Grow.push (o : Obj) : Grow S W μ μ s { s with heap := s.heap.push o } :=
  ⟨⟨[], by simp⟩, fun _ h1 h2 => absurd h1 h2, (by dsimp only; rw [Heap.size_push]; omega), fun _ ob e _ _ _ => ⟨ob, Heap.get?_push_of_some _ e, .refl ob⟩, rfl, Nat.le_refl _⟩

/-- a new object of the abstract heap -/
theorem Good.alloc (g : Good S μ H s) (ob : Obj) (o : O) (x : OR S (μ ++ [s.heap.objs.size]) (s.heap.push ob) o s.heap.objs.size) :
    Good S (μ ++ [s.heap.objs.size]) (H ++ [o]) { s with heap := s.heap.push ob } where
  inv := (g.push ob).inv
  sr := by
    have pre : ∀ (i : Nat) (a : Addr), μ[i]? = some a → (μ ++ [s.heap.objs.size])[i]? = some a := fun i a q => by
      rw [List.getElem?_append_left (List.getElem?_eq_some_iff.mp q).1]; exact q
    refine ⟨by simp [g.sr.len], ?_, fun i o' a e1 e2 => ?_⟩
    · rw [List.nodup_append]
      refine ⟨g.sr.nodup, by simp, fun a ha b hb => ?_⟩
      rw [List.mem_singleton] at hb
      rintro rfl
      exact absurd (g.sr.live ha) (by rw [hb]; exact Nat.lt_irrefl _)
    · by_cases hi : i < H.length
      · rw [List.getElem?_append_left hi] at e1
        rw [List.getElem?_append_left (g.sr.len ▸ hi)] at e2
        exact (g.sr.obj i o' a e1 e2).step (still_push ob) pre fun _ q => Heap.get?_push_of_some _ q
      · have hi' : i = H.length := by
          have := (List.getElem?_eq_some_iff.mp e1).1
          simp at this; omega
        subst hi'
        rw [List.getElem?_append_right (Nat.le_refl _), Nat.sub_self] at e1
        rw [← g.sr.len, List.getElem?_append_right (Nat.le_refl _), Nat.sub_self] at e2
        cases e1; cases e2
        exact x
theorem Grow.alloc (ob : Obj) : Grow S W μ (μ ++ [s.heap.objs.size]) s { s with heap := s.heap.push ob } where
  pre := ⟨_, rfl⟩
  fresh a h1 h2 := by
    rcases List.mem_append.mp h1 with h | h
    · exact absurd h h2
    · rw [List.mem_singleton] at h
      subst h
      exact Nat.le_refl _
  size := by dsimp only; rw [Heap.size_push]; omega
  keep b o e _ _ _ := ⟨o, Heap.get?_push_of_some _ e, .refl o⟩
  os := rfl
  tok := Nat.le_refl _
end
end Mine
set_option maxRecDepth 100000
namespace Mine
open PySem PySem.Calls PyProof.Rows PySem.W
open Builtin Builtin.Str

theorem neg_text {n : Int} (hn : n < 0) : (PySem.Str.ofString (toString n)).cps.toList = 45 :: (PySem.Str.ofString (toString ((n.natAbs : Nat) : Int))).cps.toList := by
  obtain ⟨k, rfl⟩ := Int.eq_negSucc_of_lt_zero hn
  have e : toString (Int.negSucc k) = "-" ++ toString (k + 1) := rfl
  have e2 : toString (((Int.negSucc k).natAbs : Nat) : Int) = toString (k + 1) := rfl
  rw [e, e2, PySem.Str.ofString_eq_toList, PySem.Str.ofString_eq_toList]
  simp

theorem int_textN (c : Percent) (h1 : c.alt = false) (h2 : c.type = 100 ∨ c.type = 105 ∨ c.type = 117) (h3 : c.prec = none) (n : Int) :
    percentInt c (decide (n < 0)) (PySem.Str.ofString (toString ((n.natAbs : Nat) : Int))).cps.toList = (PySem.Str.ofString (toString n)).cps.toList := by
  rcases Int.lt_or_le n 0 with hn | hn
  · rw [neg_text hn]
    have hneg : decide (n < 0) = true := decide_eq_true hn
    unfold percentInt
    rcases h2 with h2 | h2 | h2 <;> simp [h1, h2, h3, hneg]
  · rw [KPc.int_text c h1 h2 h3 hn, Int.natAbs_of_nonneg hn]

theorem len_text (n : Int) (hm : n.natAbs < 10 ^ 10) : (PySem.Str.ofString (toString n)).length ≤ 11 := by
  have h1 : (PySem.Str.ofString (toString ((n.natAbs : Nat) : Int))).length ≤ 10 := toString_length_le (by omega) (by decide) (by omega)
  rcases Int.lt_or_le n 0 with hn | hn
  · have := neg_text hn
    rw [PySem.Str.length, ← Array.length_toList, this, List.length_cons]
    rw [PySem.Str.length, ← Array.length_toList] at h1
    omega
  · rw [Int.natAbs_of_nonneg hn] at h1; omega

section
variable {M : Model} {A : Around} {E : Value → Shared → Prop} {s : Shared} {l : List Nat} {p : List Value} {r : List Nat}
  {f : Nat → List Value × Writer × List Nat → Sem (ForInStep (List Value × Writer × List Nat))} {Q : List Value × Writer × List Nat → Shared → Prop}
  {w : Writer} {T x y : PySem.Str} {N K : Nat} {o : Option Value}
theorem after_intN {c : Percent} {n : Int} {d : List Nat} (g : KPc.Good w T N) (h1 : c.alt = false) (h2 : c.type = 100 ∨ c.type = 105 ∨ c.type = 117) (h3 : c.prec = none) (hm : n.natAbs < 10 ^ 10)
    (hd : d = (PySem.Str.ofString (toString ((n.natAbs : Nat) : Int))).cps.toList) (ho : o = none) (h : ∀ w', KPc.Good w' (T ++ PySem.Str.ofString (toString n)) (N + 11) → wpAny M A (forIn l (p, w', r) f) Q E s) :
    wpAny M A (forIn l (p, w.add ⟨(percentInt c (decide (n < 0)) d).toArray⟩ o, r) f) Q E s := by
  rw [hd, int_textN c h1 h2 h3]
  exact KPc.after_str g (len_text n hm) (KPc.obj_none ho) h
end

local macro_rules | `(tactic| kpt_piece) => `(tactic| (refine after_intN (by kpc_g) rfl (by kpc_kind) rfl (by with_reducible assumption) rfl (by kpc_none) ?_; intro _ _))

theorem log_of {a : Int} (ha : a.natAbs < 10 ^ 10) : a.natAbs.log2 < 1920 := by
  rcases Int.natAbs_eq a with h | h
  · exact shown (N := 2 ^ 1920) (by omega) (by omega) (Int.le_refl _)
  · have := shown (a := -a) (N := 2 ^ 1920) (by omega) (by omega) (Int.le_refl _)
    rwa [Int.natAbs_neg] at this
section
variable {m : PySem.Str} {a b c d e f : Int} {tm ta tb tc td te tf t : Tok} {ad : Addr}
set_option maxHeartbeats 8000000 in
theorem meets1 (hm : m.length ≤ 1000000) (ha : a.natAbs < 10 ^ 10) (hb : b.natAbs < 10 ^ 10) (hc : c.natAbs < 10 ^ 10) : Meets («str.__mod__» ⟨[.str ⟨#[37, 115, 58, 32, 108, 105, 110, 101, 32, 37, 100, 32, 99, 111, 108, 117, 109, 110, 32, 37, 100, 32, 40, 99, 104, 97, 114, 32, 37, 100, 41]⟩ t, .ref ad], []⟩)
    (fun _ R s => IsTup s.heap ad #[.str m tm, .int a ta, .int b tb, .int c tc] ∧ ∀ t' k, R (.ok (.ret (.str (m ++ Str.ofString ": line " ++ Str.ofString (toString a) ++ Str.ofString " column " ++ Str.ofString (toString b) ++ Str.ofString " (char " ++ Str.ofString (toString c) ++ Str.ofString ")") t'))) { s with toks := k }) := by
  have hla := log_of ha
  have hlb := log_of hb
  have hlc := log_of hc
  kpt_run
set_option maxHeartbeats 8000000 in
theorem meets2 (hm : m.length ≤ 1000000) (ha : a.natAbs < 10 ^ 10) (hb : b.natAbs < 10 ^ 10) (hc : c.natAbs < 10 ^ 10) (hd : d.natAbs < 10 ^ 10) (he : e.natAbs < 10 ^ 10) (hf : f.natAbs < 10 ^ 10) : Meets («str.__mod__» ⟨[.str ⟨#[37, 115, 58, 32, 108, 105, 110, 101, 32, 37, 100, 32, 99, 111, 108, 117, 109, 110, 32, 37, 100, 32, 45, 32, 108, 105, 110, 101, 32, 37, 100, 32, 99, 111, 108, 117, 109, 110, 32, 37, 100, 32, 40, 99, 104, 97, 114, 32, 37, 100, 32, 45, 32, 37, 100, 41]⟩ t, .ref ad], []⟩)
    (fun _ R s => IsTup s.heap ad #[.str m tm, .int a ta, .int b tb, .int c tc, .int d td, .int e te, .int f tf] ∧ ∀ t' k, R (.ok (.ret (.str (m ++ Str.ofString ": line " ++ Str.ofString (toString a) ++ Str.ofString " column " ++ Str.ofString (toString b) ++ Str.ofString " - line " ++ Str.ofString (toString c) ++ Str.ofString " column " ++ Str.ofString (toString d) ++ Str.ofString " (char " ++ Str.ofString (toString e) ++ Str.ofString " - " ++ Str.ofString (toString f) ++ Str.ofString ")") t'))) { s with toks := k }) := by
  have hla := log_of ha
  have hlb := log_of hb
  have hlc := log_of hc
  have hld := log_of hd
  have hle := log_of he
  have hlf := log_of hf
  kpt_run
end
end Mine
set_option maxRecDepth 10000
namespace Mine
open PySem PySem.Calls PyProof.Rows PySem.W

/-! ## What the operations mean -/
def pyI {α : Type} (l : List α) (i : Int) : Option α := if 0 ≤ i then l[i.toNat]? else if -(l.length : Int) ≤ i then l[(i + l.length).toNat]? else none
def clip (i : Int) (n : Nat) : Nat := if i < 0 then n - (-i).toNat else min i.toNat n
def loC (lo : Option Int) (n : Nat) : Nat := match lo with | none => 0 | some i => clip i n
def hiC (hi : Option Int) (n : Nat) : Nat := match hi with | none => n | some i => clip i n
def pyS {α : Type} (l : List α) (lo hi : Option Int) : List α := (l.drop (loC lo l.length)).take (hiC hi l.length - loC lo l.length)
def Fit (i : Int) : Prop := -(2 ^ 63) ≤ i ∧ i < 2 ^ 63
def BIG : Nat := 16777216

abbrev PV := V → AH → Prop

def getL (H : AH) (i : Nat) : Option (List V) := match H[i]? with
  | some (.list xs) => some xs
  | some (.ilist xs) => some xs
  | _ => none
def getD' (H : AH) (i : Nat) : Option (List (Nm × V)) := match H[i]? with
  | some (.dict es _) => some es
  | _ => none

def truQ (v : V) (H : AH) (Q : Bool → Prop) : Prop := match v with
  | .bb b => Q b
  | .ii i => Q (i != 0)
  | .ss s => s.length ≤ BIG ∧ Q (!s.isEmpty)
  | .nn => Q false
  | .tt xs => xs.length ≤ BIG ∧ Q (!xs.isEmpty)
  | .rr i => ∃ xs, getL H i = some xs ∧ xs.length ≤ BIG ∧ Q (!xs.isEmpty)
  | _ => False

/-- the text of a whole number -/
def decI (i : Int) : List Nat := (Str.ofString (toString i)).cps.toList

def pct1 : List Nat := [37, 115, 58, 32, 108, 105, 110, 101, 32, 37, 100, 32, 99, 111, 108, 117, 109, 110, 32, 37, 100, 32, 40, 99, 104, 97, 114, 32, 37, 100, 41]
def pct2 : List Nat := [37, 115, 58, 32, 108, 105, 110, 101, 32, 37, 100, 32, 99, 111, 108, 117, 109, 110, 32, 37, 100, 32, 45, 32, 108, 105, 110, 101, 32, 37, 100, 32, 99, 111, 108, 117, 109, 110, 32, 37, 100, 32, 40, 99, 104, 97, 114, 32, 37, 100, 32, 45, 32, 37, 100, 41]
/-- the two formats of the text -/
def pctOf (fm : List Nat) : List V → Option (List Nat)
  | [.ss m, .ii a, .ii b, .ii c] => if fm = pct1 ∧ m.length ≤ 1000000 ∧ a.natAbs < 10 ^ 10 ∧ b.natAbs < 10 ^ 10 ∧ c.natAbs < 10 ^ 10 then some (m ++ [58, 32, 108, 105, 110, 101, 32] ++ decI a ++ [32, 99, 111, 108, 117, 109, 110, 32] ++ decI b ++ [32, 40, 99, 104, 97, 114, 32] ++ decI c ++ [41]) else none
  | [.ss m, .ii a, .ii b, .ii c, .ii d, .ii e, .ii f] => if fm = pct2 ∧ m.length ≤ 1000000 ∧ a.natAbs < 10 ^ 10 ∧ b.natAbs < 10 ^ 10 ∧ c.natAbs < 10 ^ 10 ∧ d.natAbs < 10 ^ 10 ∧ e.natAbs < 10 ^ 10 ∧ f.natAbs < 10 ^ 10 then some (m ++ [58, 32, 108, 105, 110, 101, 32] ++ decI a ++ [32, 99, 111, 108, 117, 109, 110, 32] ++ decI b ++ [32, 45, 32, 108, 105, 110, 101, 32] ++ decI c ++ [32, 99, 111, 108, 117, 109, 110, 32] ++ decI d ++ [32, 40, 99, 104, 97, 114, 32] ++ decI e ++ [32, 45, 32] ++ decI f ++ [41]) else none
  | _ => none

def binQ (op : Operator) (a b : V) (H : AH) (Q : PV) : Prop := match op, a, b with
  | .Add, .ii a, .ii b => Q (.ii (a + b)) H
  | .Sub, .ii a, .ii b => Q (.ii (a - b)) H
  | .Mult, .ii a, .ii b => a.natAbs < 2 ^ 64 ∧ b.natAbs < 2 ^ 64 ∧ Q (.ii (a * b)) H
  | .FloorDiv, .ii a, .ii b => b ≠ 0 ∧ b.natAbs < 2 ^ 30 ∧ Q (.ii (a.fdiv b)) H
  | .Mod, .ii a, .ii b => b ≠ 0 ∧ Q (.ii (a.fmod b)) H
  | .Pow, .ii a, .ii b => 0 ≤ b ∧ b ≤ 100 ∧ 2 ≤ a ∧ a ≤ 16 ∧ Q (.ii (a ^ b.toNat)) H
  | .LShift, .ii a, .ii b => 0 ≤ b ∧ b ≤ 1000 ∧ a.natAbs < 2 ^ 64 ∧ Q (.ii (a * 2 ^ b.toNat)) H
  | .BitOr, .ii a, .ii b => Q (.ii (Builtin.bitOr a b)) H
  | .BitAnd, .ii a, .ii b => Q (.ii (Builtin.bitAnd a b)) H
  | .Add, .ss a, .ss b => a.length + b.length ≤ BIG ∧ Q (.ss (a ++ b)) H
  | .Mod, .ss f, .tt xs => ∃ r, pctOf f xs = some r ∧ Q (.ss r) H
  | _, _, _ => False

mutual
def isD (H : AH) : V → PyData → Prop
  | v, .none => v = .nn
  | v, .bool b => v = .bb b
  | v, .int i => v = .ii i
  | v, .str s => v = .ss s.cps.toList
  | v, .list ds => ∃ i xs, v = .rr i ∧ getL H i = some xs ∧ isDs H xs ds
  | v, .tuple ds => ∃ xs, v = .tt xs ∧ isDs H xs ds
  | _, .dict _ => False
def isDs (H : AH) : List V → List PyData → Prop
  | vs, [] => vs = []
  | vs, d :: ds => ∃ x r, vs = x :: r ∧ isD H x d ∧ isDs H r ds
end

/-- data that may hold dicts -/
inductive WD where
  | nn | bb (b : Bool) | ii (i : Int) | ss (s : List Nat) | lst (ds : List WD) | tup (ds : List WD) | dct (es : List (Nm × WD))
mutual
def isWd (H : AH) : V → WD → Prop
  | v, .nn => v = .nn
  | v, .bb b => v = .bb b
  | v, .ii i => v = .ii i
  | v, .ss s => v = .ss s
  | v, .lst ds => ∃ i xs, v = .rr i ∧ getL H i = some xs ∧ isWds H xs ds
  | v, .tup ds => ∃ xs, v = .tt xs ∧ isWds H xs ds
  | v, .dct es => ∃ i ps ep, v = .rr i ∧ H[i]? = some (.dict ps ep) ∧ isWdp H ps es
def isWds (H : AH) : List V → List WD → Prop
  | vs, [] => vs = []
  | vs, d :: ds => ∃ x r, vs = x :: r ∧ isWd H x d ∧ isWds H r ds
def isWdp (H : AH) : List (Nm × V) → List (Nm × WD) → Prop
  | vs, [] => vs = []
  | vs, (k, d) :: ds => ∃ x r, vs = (k, x) :: r ∧ isWd H x d ∧ isWdp H r ds
end
mutual
def wdep : WD → Nat
  | .nn => 0
  | .bb _ => 0
  | .ii _ => 0
  | .ss _ => 0
  | .lst ds => 1 + wdeps ds
  | .tup ds => 1 + wdeps ds
  | .dct es => 1 + wdepp es
def wdeps : List WD → Nat
  | [] => 0
  | d :: ds => max (wdep d) (wdeps ds)
def wdepp : List (Nm × WD) → Nat
  | [] => 0
  | (_, d) :: ds => max (wdep d) (wdepp ds)
end

def strIn (x y : List Nat) : Bool := match x with
  | [] => true
  | [c] => y.contains c
  | _ => decide (x <:+: y)

def isNn : V → Bool
  | .nn => true
  | _ => false
def isGg : V → Bool
  | .gg _ => true
  | _ => false

def ssEq (x : List Nat) : V → Bool
  | .ss y => x == y
  | _ => false
def allSs : List V → Bool
  | [] => true
  | .ss _ :: r => allSs r
  | _ => false

variable (S : Sx)

def cmpQ (op : CmpOp) (a b : V) (H : AH) (Q : PV) : Prop := match op, a, b with
  | .Eq, .ii a, .ii b => Q (.bb (a == b)) H
  | .Eq, .ss a, .ss b => Q (.bb (a == b)) H
  | .Eq, .rr a, .rr b => (∃ da db, isD H (.rr a) da ∧ isD H (.rr b) db ∧ da.canLay0 = true ∧ db.canLay0 = true ∧ da.depth ≤ 64 ∧ Q (.bb (PyData.eqv da db)) H) ∨ (getL H a ≠ none ∧ ∃ d, isWd H (.rr a) d ∧ isWd H (.rr b) d ∧ wdep d ≤ 64 ∧ Q (.bb true) H)
  | .Eq, a, b => ∃ da db, isD H a da ∧ isD H b db ∧ da.canLay0 = true ∧ db.canLay0 = true ∧ da.depth ≤ 64 ∧ Q (.bb (PyData.eqv da db)) H
  | .NotEq, .ii a, .ii b => Q (.bb (a != b)) H
  | .NotEq, .ss a, .ss b => Q (.bb (a != b)) H
  | .NotEq, .rr a, .rr b => (∃ da db, isD H (.rr a) da ∧ isD H (.rr b) db ∧ da.canLay0 = true ∧ db.canLay0 = true ∧ da.depth ≤ 64 ∧ Q (.bb (!PyData.eqv da db)) H) ∨ (getL H a ≠ none ∧ ∃ d, isWd H (.rr a) d ∧ isWd H (.rr b) d ∧ wdep d ≤ 64 ∧ Q (.bb false) H)
  | .NotEq, a, b => ∃ da db, isD H a da ∧ isD H b db ∧ da.canLay0 = true ∧ db.canLay0 = true ∧ da.depth ≤ 64 ∧ Q (.bb (!PyData.eqv da db)) H
  | .Lt, .ii a, .ii b => Q (.bb (decide (a < b))) H
  | .LtE, .ii a, .ii b => Q (.bb (decide (a ≤ b))) H
  | .Gt, .ii a, .ii b => Q (.bb (decide (b < a))) H
  | .GtE, .ii a, .ii b => Q (.bb (decide (b ≤ a))) H
  | .Is, a, .nn => isGg a = false ∧ Q (.bb (isNn a)) H
  | .IsNot, a, .nn => isGg a = false ∧ Q (.bb (!isNn a)) H
  | .In, .ss x, .ss y => Q (.bb (strIn x y)) H
  | .NotIn, .ss x, .ss y => Q (.bb (!strIn x y)) H
  | .In, .ss x, .tt ys => allSs ys = true ∧ ys.length ≤ 1000 ∧ Q (.bb (ys.any (ssEq x))) H
  | .NotIn, .ss x, .gg k => ∃ es, S.gd k = some es ∧ Q (.bb (!(es.lookup x).isSome)) H
  | _, _, _ => False

def idxQ (o i : V) (H : AH) (Q : PV) : Prop := match o, i with
  | .ss s, .ii i => Fit i ∧ ∃ c, pyI s i = some c ∧ Q (.ss [c]) H
  | .tt xs, .ii i => Fit i ∧ ∃ v, pyI xs i = some v ∧ Q v H
  | .rr j, .ii i => Fit i ∧ ∃ xs v, getL H j = some xs ∧ pyI xs i = some v ∧ Q v H
  | .rr j, .ss k => ∃ es v, getD' H j = some es ∧ es.lookup k = some v ∧ Q v H
  | .gg k, .ss x => ∃ es v, S.gd k = some es ∧ es.lookup x = some v ∧ Q v H
  | _, _ => False

def partI : V → Option (Option Int)
  | .nn => some none
  | .ii i => some (some i)
  | _ => none
def slQ (o : V) (lo hi : V) (H : AH) (Q : PV) : Prop := ∃ l u, partI lo = some l ∧ partI hi = some u ∧ match o with
  | .ss s => s.length ≤ BIG ∧ Q (.ss (pyS s l u)) H
  | .rr j => ∃ xs, getL H j = some xs ∧ xs.length ≤ BIG ∧ Q (.rr H.length) (H ++ [.list (pyS xs l u)])
  | _ => False

/-- int(text): figures, perhaps a minus ahead -/
def figsGo : List Nat → Nat → Option Nat
  | [], n => some n
  | c :: r, n => if 48 ≤ c ∧ c ≤ 57 then figsGo r (10 * n + (c - 48)) else none
def intOf : List Nat → Option Int
  | 45 :: c :: r => (figsGo (c :: r) 0).map fun n => -(n : Int)
  | c :: r => (figsGo (c :: r) 0).map fun n => (n : Int)
  | [] => none

def reprS (s : List Nat) : List Nat := (PySem.reprText ⟨s.toArray⟩).cps.toList

def isTy (H : AH) (v : V) (t : Ty) : Bool := match v, t with
  | .bb _, .bool => true
  | .bb _, .int => true
  | .ii _, .int => true
  | .ss _, .str => true
  | .rr i, .list => (getL H i).isSome
  | .rr i, .dict => (getD' H i).isSome
  | _, _ => false
def tyOk (H : AH) (v : V) : Prop := match v with
  | .rr i => (getL H i).isSome = true ∨ (getD' H i).isSome = true
  | .gg _ | .rg _ _ => False
  | _ => True


def biQ (f : Bi) (xs : List V) (H : AH) (Q : PV) : Prop := match f, xs with
  | .len, [.ss s] => s.length ≤ BIG ∧ Q (.ii s.length) H
  | .len, [.tt ys] => ys.length ≤ BIG ∧ Q (.ii ys.length) H
  | .len, [.rr i] => (∃ ys, getL H i = some ys ∧ ys.length ≤ BIG ∧ Q (.ii ys.length) H)
  | .ord, [.ss [c]] => Q (.ii c) H
  | .chr, [.ii n] => 0 ≤ n ∧ n ≤ 0x10FFFF ∧ Q (.ss [n.toNat]) H
  | .int, [.ss s] => s.length ≤ 640 ∧ ∃ i, PySem.intText? ⟨s.toArray⟩ = some i ∧ Q (.ii i) H
  | .str, [.ii i] => i.natAbs < 2 ^ 1000 ∧ Q (.ss (decI i)) H
  | .str, [.rr i] => ∃ c s d fr, H[i]? = some (.exc c [.ss s] d fr) ∧ S.isE c = true ∧ Q (.ss s) H
  | .repr, [.ss s] => (reprS s).length ≤ BIG ∧ Q (.ss (reprS s)) H
  | .range, [.ii b] => Q (.rg 0 b) H
  | .range, [.ii a, .ii b] => Q (.rg a b) H
  | _, _ => False

def isiQ (v : V) (t : Ty) (H : AH) (Q : PV) : Prop := tyOk H v ∧ Q (.bb (isTy H v t)) H
end Mine
set_option maxRecDepth 10000
namespace Mine
open PySem PySem.Calls PyProof.Rows PySem.W

def PostV (S : Sx) (μ : List Addr) (s : Shared) (Q : PV) : Value → Shared → Prop := fun v s' =>
  ∃ μ' H' b, Grow S [] μ μ' s s' ∧ Good S μ' H' s' ∧ VR S μ' s'.heap b v ∧ Q b H'

section
variable {S : Sx} {μ : List Addr} {h : Heap} {c : Value}
theorem VR.nn_inv (r : VR S μ h .nn c) : c = .none := by rw [VR] at r; exact r
theorem VR.bb_inv {b : Bool} (r : VR S μ h (.bb b) c) : c = .bool b := by rw [VR] at r; exact r
theorem VR.ii_inv {i : Int} (r : VR S μ h (.ii i) c) : ∃ t, c = .int i t := by rw [VR] at r; exact r
theorem VR.ss_inv {x : List Nat} (r : VR S μ h (.ss x) c) : ∃ t, c = .str ⟨x.toArray⟩ t := by rw [VR] at r; exact r
theorem VR.gg_inv {k : Nat} (r : VR S μ h (.gg k) c) : c = S.gv k := by rw [VR] at r; exact r
theorem VR.rr_inv {i : Nat} (r : VR S μ h (.rr i) c) : ∃ a, c = .ref a ∧ μ[i]? = some a := by rw [VR] at r; exact r
theorem VR.tt_inv {xs : List V} (r : VR S μ h (.tt xs) c) : ∃ a cs, c = .ref a ∧ IsTup h a cs ∧ VRs S μ h xs cs.toList := by
  rw [VR] at r; obtain ⟨a, o, cs, n, r1, r2, r3, r4, r5⟩ := r; exact ⟨a, cs, r1, ⟨o, r2, r3, n, r4⟩, r5⟩
theorem VR.nn : VR S μ h .nn .none := by rw [VR]
theorem VR.bb {b : Bool} : VR S μ h (.bb b) (.bool b) := by rw [VR]
theorem VR.ii {i : Int} {t : Tok} : VR S μ h (.ii i) (.int i t) := by rw [VR]; exact ⟨t, rfl⟩
theorem VR.ss {x : List Nat} {t : Tok} : VR S μ h (.ss x) (.str ⟨x.toArray⟩ t) := by rw [VR]; exact ⟨t, rfl⟩
theorem VR.gg {k : Nat} : VR S μ h (.gg k) (S.gv k) := by rw [VR]
theorem VR.rr {i : Nat} {a : Addr} (e : μ[i]? = some a) : VR S μ h (.rr i) (.ref a) := by rw [VR]; exact ⟨a, rfl, e⟩
theorem VR.tt {xs : List V} {a : Addr} {cs : Array Value} (t : IsTup h a cs) (r : VRs S μ h xs cs.toList) : VR S μ h (.tt xs) (.ref a) := by
  obtain ⟨o, e, c, n, d⟩ := t; rw [VR]; exact ⟨a, o, cs, n, rfl, e, c, d, r⟩
end

section
variable {S : Sx} {A : Around} {E : Value → Shared → Prop} {μ : List Addr} {H : AH} {s : Shared} {Q : PV}

theorem PostV.here (g : Good S μ H s) {b : V} {v : Value} (r : VR S μ s.heap b v) (q : Q b H) : PostV S μ s Q v s := ⟨μ, H, b, .refl .., g, r, q⟩
theorem PostV.tok (g : Good S μ H s) (t : Nat) {b : V} {v : Value} (r : VR S μ s.heap b v) (q : Q b H) (ht : s.toks ≤ t := by first | omega | (dsimp only; omega)) : PostV S μ s Q v { s with toks := t } :=
  ⟨μ, H, b, .toks t ht, g.toks t, r, q⟩
theorem PostV.int (g : Good S μ H s) {i : Int} {u : Tok} (t : Nat) (q : Q (.ii i) H) (ht : s.toks ≤ t := by first | omega | (dsimp only; omega)) : PostV S μ s Q (.int i u) { s with toks := t } := .tok g t .ii q ht
theorem PostV.bool (g : Good S μ H s) {b : Bool} (q : Q (.bb b) H) : PostV S μ s Q (.bool b) s := .here g .bb q
theorem PostV.str (g : Good S μ H s) {x : List Nat} {u : Tok} (t : Nat) (q : Q (.ss x) H) (ht : s.toks ≤ t := by first | omega | (dsimp only; omega)) : PostV S μ s Q (.str ⟨x.toArray⟩ u) { s with toks := t } := .tok g t .ss q ht
theorem PostV.str' (g : Good S μ H s) {x : Str} {u : Tok} (t : Nat) (q : Q (.ss x.cps.toList) H) (ht : s.toks ≤ t := by first | omega | (dsimp only; omega)) : PostV S μ s Q (.str x u) { s with toks := t } := .str g t q ht

theorem size_le_BIG {n : Nat} (h : n ≤ BIG) : n ≤ sizeLine := by rw [sizeLine_eq]; exact h

theorem mulOk {a b : Int} (ha : a.natAbs < 2 ^ 64) : IntMulOk a b := IntMulOk.of_left (intBits_le_64 (by omega) (by omega))

theorem str_eq_mk (x : Str) : x = ⟨x.cps.toList.toArray⟩ := by cases x; simp

theorem made_str (g : Good S μ H s) {x : List Nat} (hx : x.length ≤ BIG) (q : Q (.ss x) H) : (Made.str ⟨x.toArray⟩).post (PostV S μ s Q) s :=
  ⟨by show (List.toArray x).size ≤ sizeLine; rw [List.size_toArray]; exact size_le_BIG hx, .str g _ q⟩

theorem pow_sound (g : Good S μ H s) {a b : Int} {t u : Tok} (h : 0 ≤ b ∧ b ≤ 100 ∧ 2 ≤ a ∧ a ≤ 16 ∧ Q (.ii (a ^ b.toNat)) H) :
    wpAny (model S.prog S.w) A (binaryOp .Pow (.int a t) (.int b u)) (PostV S μ s Q) E s := by
  obtain ⟨h1, h2, h3, h4, q⟩ := h
  by_cases hb : b = 0
  · subst hb
    exact AutoIntOps.pow_0 (by decide) rfl (.int g _ (by simpa using q))
  · refine AutoIntOps.pow_4 h1 (by simpa using hb) (by simp; omega) (by simp; omega) ?_ (.int g _ q)
    have e : Builtin.Int.intBits a ≤ 64 := intBits_le_64 (by omega) (by omega)
    unfold Builtin.Int.intTooBig bitsLine
    rw [decide_eq_false]
    · exact Bool.false_ne_true
    · have : ((Builtin.Int.intBits a : Nat) : Int) * b ≤ 64 * 100 := Int.mul_le_mul (by omega) h2 h1 (by omega)
      omega

theorem cat_sound (g : Good S μ H s) {a b : List Nat} {t u : Tok} (h : a.length + b.length ≤ BIG ∧ Q (.ss (a ++ b)) H) :
    wpAny (model S.prog S.w) A (binaryOp .Add (.str ⟨a.toArray⟩ t) (.str ⟨b.toArray⟩ u)) (PostV S μ s Q) E s := by
  refine P.add_str ?_
  by_cases ha : a = []
  · subst ha
    exact .here g .ss (by simpa using h.2)
  · rw [if_neg (by simpa [Str.length] using ha)]
    by_cases hb : b = []
    · subst hb
      rw [if_pos (by simp [Str.length])]
      exact .here g .ss (by simpa using h.2)
    · rw [if_neg (by simpa [Str.length] using hb)]
      have e : (⟨a.toArray⟩ : Str) ++ (⟨b.toArray⟩ : Str) = ⟨(a ++ b).toArray⟩ := Str.ext' (by rw [Str.cps_append]; simp)
      rw [e]
      exact made_str g (by rw [List.length_append]; exact h.1) h.2

theorem lit0 : (PySem.Str.ofString ": line ").cps.toList = [58, 32, 108, 105, 110, 101, 32] := by decide +kernel
theorem lit1 : (PySem.Str.ofString " column ").cps.toList = [32, 99, 111, 108, 117, 109, 110, 32] := by decide +kernel
theorem lit2 : (PySem.Str.ofString " (char ").cps.toList = [32, 40, 99, 104, 97, 114, 32] := by decide +kernel
theorem lit3 : (PySem.Str.ofString ")").cps.toList = [41] := by decide +kernel
theorem lit4 : (PySem.Str.ofString " - line ").cps.toList = [32, 45, 32, 108, 105, 110, 101, 32] := by decide +kernel
theorem lit5 : (PySem.Str.ofString " - ").cps.toList = [32, 45, 32] := by decide +kernel
theorem tup_ints {μ : List Addr} {h : Heap} : ∀ {is : List Int} {cs : List Value}, VRs S μ h (is.map .ii) cs → ∃ ts : List Tok, ts.length = is.length ∧ cs = (is.zip ts).map fun p => .int p.1 p.2
  | [], cs, r => by rw [List.map_nil, VRs] at r; subst r; exact ⟨[], rfl, rfl⟩
  | i :: is, cs, r => by
    rw [List.map_cons, VRs] at r
    obtain ⟨c, cr, rfl, r1, r2⟩ := r
    obtain ⟨t, rfl⟩ := r1.ii_inv
    obtain ⟨ts, h1, rfl⟩ := tup_ints r2
    exact ⟨t :: ts, by simp [h1], by simp⟩

theorem pct_call (g : Good S μ H s) {fm : List Nat} {t : Tok} {b : Addr} {its : Array Value} {T : PySem.Str} (ht : IsTup s.heap b its)
    (hm : Meets (Builtin.«str.__mod__» ⟨[.str ⟨fm.toArray⟩ t, .ref b], []⟩) (fun _ R s => IsTup s.heap b its ∧ ∀ t' k, R (.ok (.ret (.str T t'))) { s with toks := k })) (q : Q (.ss T.cps.toList) H) :
    wpAny (model S.prog S.w) A (binaryOp .Mod (.str ⟨fm.toArray⟩ t) (.ref b)) (PostV S μ s Q) E s := by
  have hT : s.TypeIs (.ref b) "tuple" := by obtain ⟨o, ho, hc, _⟩ := ht; exact ⟨o, ho, hc⟩
  refine wpAny_ups (KPt.bin_left (T := "str") (U := "tuple") (op := .Mod) (by decide) (typeIs_str s _ t) hT F.fills_str_mod KPt.fills_tuple F.slot_str_mod
    (call_meets F.slot_str_mod (typeIs_str s _ t) F.entry_str_mod (F.args_str_mod_2 _ _) hm ⟨ht, fun t' k => ⟨(fun e => nomatch e), fun up => ?_⟩⟩))
  exact .str' g k q up.1

theorem pct_sound (g : Good S μ H s) {f : List Nat} {xs : List V} {t : Tok} {cb : Value} (rb : VR S μ s.heap (.tt xs) cb) (h : ∃ r, pctOf f xs = some r ∧ Q (.ss r) H) :
    wpAny (model S.prog S.w) A (binaryOp .Mod (.str ⟨f.toArray⟩ t) cb) (PostV S μ s Q) E s := by
  obtain ⟨r, h, q⟩ := h
  obtain ⟨ad, cs, rfl, ht, rs⟩ := rb.tt_inv
  unfold pctOf at h
  split at h
  · split at h
    · rename_i m a b c hh
      obtain ⟨rfl, h1, h2, h3, h4⟩ := hh
      cases h
      rw [VRs] at rs
      obtain ⟨c0, cr, e0, r1, r2⟩ := rs
      obtain ⟨tm, rfl⟩ := r1.ss_inv
      obtain ⟨ts, hl, rfl⟩ := tup_ints (is := [a, b, c]) r2
      obtain ⟨t1, t2, t3, rfl⟩ : ∃ t1 t2 t3, ts = [t1, t2, t3] := by
        match ts, hl with
        | [x, y, z], _ => exact ⟨x, y, z, rfl⟩
      have ec : cs = #[.str ⟨m.toArray⟩ tm, .int a t1, .int b t2, .int c t3] := by rw [← Array.toArray_toList (xs := cs), e0]; rfl
      subst ec
      refine pct_call (fm := pct1) g ht (meets1 (by simpa [PySem.Str.length] using h1) h2 h3 h4) ?_
      simpa [PySem.Str.cps_append, decI, lit0, lit1, lit2, lit3, lit4, lit5] using q
    · cases h
  · split at h
    · rename_i m a b c d e f hh
      obtain ⟨rfl, h1, h2, h3, h4, h5, h6, h7⟩ := hh
      cases h
      rw [VRs] at rs
      obtain ⟨c0, cr, e0, r1, r2⟩ := rs
      obtain ⟨tm, rfl⟩ := r1.ss_inv
      obtain ⟨ts, hl, rfl⟩ := tup_ints (is := [a, b, c, d, e, f]) r2
      obtain ⟨t1, t2, t3, t4, t5, t6, rfl⟩ : ∃ t1 t2 t3 t4 t5 t6, ts = [t1, t2, t3, t4, t5, t6] := by
        match ts, hl with
        | [x, y, z, u, v, w], _ => exact ⟨x, y, z, u, v, w, rfl⟩
      have ec : cs = #[.str ⟨m.toArray⟩ tm, .int a t1, .int b t2, .int c t3, .int d t4, .int e t5, .int f t6] := by rw [← Array.toArray_toList (xs := cs), e0]; rfl
      subst ec
      refine pct_call (fm := pct2) g ht (meets2 (by simpa [PySem.Str.length] using h1) h2 h3 h4 h5 h6 h7) ?_
      simpa [PySem.Str.cps_append, decI, lit0, lit1, lit2, lit3, lit4, lit5] using q
    · cases h
  · cases h

theorem binQ_sound (g : Good S μ H s) {op : Operator} {a b : V} {ca cb : Value} (ra : VR S μ s.heap a ca) (rb : VR S μ s.heap b cb) (h : binQ op a b H Q) :
    wpAny (model S.prog S.w) A (binaryOp op ca cb) (PostV S μ s Q) E s := by
  unfold binQ at h
  split at h
  case h_1 => obtain ⟨t, rfl⟩ := ra.ii_inv; obtain ⟨u, rfl⟩ := rb.ii_inv; exact P.add_int (.int g _ h)
  case h_2 => obtain ⟨t, rfl⟩ := ra.ii_inv; obtain ⟨u, rfl⟩ := rb.ii_inv; exact P.sub_int (.int g _ h)
  case h_3 => obtain ⟨t, rfl⟩ := ra.ii_inv; obtain ⟨u, rfl⟩ := rb.ii_inv; exact P.mul_int (.int g _ h.2.2) (mulOk h.1)
  case h_4 => obtain ⟨t, rfl⟩ := ra.ii_inv; obtain ⟨u, rfl⟩ := rb.ii_inv; exact floordiv_int h.1 (.int g _ h.2.2) (.inl (PyProof.noPylong_small (Nat.lt_of_lt_of_le h.2.1 (by decide))))
  case h_5 => obtain ⟨t, rfl⟩ := ra.ii_inv; obtain ⟨u, rfl⟩ := rb.ii_inv; exact mod_int' h.1 (.int g _ h.2)
  case h_6 => obtain ⟨t, rfl⟩ := ra.ii_inv; obtain ⟨u, rfl⟩ := rb.ii_inv; exact pow_sound g h
  case h_7 => obtain ⟨t, rfl⟩ := ra.ii_inv; obtain ⟨u, rfl⟩ := rb.ii_inv; exact lshift_int_small h.1 (by omega) h.2.2.1 (.int g _ h.2.2.2)
  case h_8 => obtain ⟨t, rfl⟩ := ra.ii_inv; obtain ⟨u, rfl⟩ := rb.ii_inv; exact or_int (.int g _ h)
  case h_9 => obtain ⟨t, rfl⟩ := ra.ii_inv; obtain ⟨u, rfl⟩ := rb.ii_inv; exact and_int (.int g _ h)
  case h_10 => obtain ⟨t, rfl⟩ := ra.ss_inv; obtain ⟨u, rfl⟩ := rb.ss_inv; exact cat_sound g h
  case h_11 => obtain ⟨t, rfl⟩ := ra.ss_inv; exact pct_sound g rb h
  case h_12 => exact h.elim

/-! truth -/
theorem OR.isList (g : Good S μ H s) {i : Nat} {a : Addr} {xs : List V} (e : getL H i = some xs) (m : μ[i]? = some a) : ∃ cs, s.heap.IsList a cs ∧ VRs S μ s.heap xs cs.toList := by
  unfold getL at e
  split at e
  · rename_i q
    cases e
    obtain ⟨_, cs, n, r, v⟩ := g.sr.obj i _ a q m
    exact ⟨cs, ⟨_, r, rfl, n, rfl⟩, v⟩
  · rename_i q
    cases e
    obtain ⟨_, cs, r, v⟩ := g.sr.obj i _ a q m
    exact ⟨cs, r, v⟩
  · cases e

theorem VRs.size {xs : List V} {cs : Array Value} {h : Heap} (r : VRs S μ h xs cs.toList) : cs.size = xs.length := by
  have := VRs.length S r
  simpa using this

theorem arr_isEmpty {xs : List V} {cs : Array Value} (h : cs.size = xs.length) : cs.isEmpty = xs.isEmpty := by
  unfold Array.isEmpty
  rw [h]
  cases xs <;> simp

theorem truQ_sound (g : Good S μ H s) {v : V} {c : Value} {Qb : Bool → Prop} (r : VR S μ s.heap v c) (h : truQ v H Qb) :
    wpAny (model S.prog S.w) A (truthy c) (fun b s' => (∃ t, s.toks ≤ t ∧ s' = { s with toks := t }) ∧ Qb b) E s := by
  unfold truQ at h
  split at h
  · rw [r.bb_inv]; exact wpAny_truthy_bool ⟨⟨s.toks, Nat.le_refl _, rfl⟩, h⟩
  · obtain ⟨t, rfl⟩ := r.ii_inv; exact P.truthy_int ⟨⟨s.toks, Nat.le_refl _, rfl⟩, h⟩
  · obtain ⟨t, rfl⟩ := r.ss_inv
    rename_i x
    have hl : (⟨x.toArray⟩ : Str).length = x.length := by simp [Str.length]
    refine P.truthy_str (by rw [hl]; have := h.1; unfold BIG at this; omega) ⟨⟨_, by first | omega | (dsimp only; omega), rfl⟩, ?_⟩
    have e : (((⟨x.toArray⟩ : Str).length : Int) != 0) = !x.isEmpty := by
      rw [hl]; cases x <;> simp <;> omega
    rw [e]; exact h.2
  · rw [r.nn_inv]; exact truthy_none ⟨⟨s.toks, Nat.le_refl _, rfl⟩, h⟩
  · obtain ⟨a, cs, rfl, ht, rs⟩ := r.tt_inv
    have hz := VRs.size rs
    refine truthy_tuple ht (by rw [hz]; have := h.1; unfold BIG at this; omega) ⟨⟨_, by first | omega | (dsimp only; omega), rfl⟩, ?_⟩
    rw [arr_isEmpty hz]; exact h.2
  · obtain ⟨a, rfl, m⟩ := r.rr_inv
    obtain ⟨xs, e, hb, q⟩ := h
    obtain ⟨cs, hl, rs⟩ := OR.isList g e m
    have hz := VRs.size rs
    refine wpAny_truthy_list hl (by rw [hz]; unfold BIG at hb; omega) ⟨⟨_, by first | omega | (dsimp only; omega), rfl⟩, ?_⟩
    rw [arr_isEmpty hz]; exact q
  · exact h.elim
end
end Mine
set_option maxRecDepth 100000
namespace Mine
open PySem PySem.Calls PyProof.Rows PySem.W

/-! ## Two dicts of the same names and values, in the same order, are equal -/
/-- entries' keys are texts, unlike one another -/
structure StrEnts (es fs : Array DictEntry) : Prop where
  sz : es.size = fs.size
  key : ∀ j (h1 : j < es.size) (h2 : j < fs.size), ∃ x t t', es[j].key = .str x t ∧ fs[j].key = .str x t' ∧ fs.findIdx? (fun e => e.key.isStr x) = some j
  str : (fs.all fun e => isExactStrKey e.key) = true
theorem dict_eqMeets {a b : Addr} {es fs : Array DictEntry} {n m : Nat} {oa ob : Obj} (ha1 : a ≠ 1) (hb1 : b ≠ 1) (hk : StrEnts es fs) :
    Meets (Builtin.«dict.__eq__» ⟨[.ref a, .ref b], []⟩) fun A R s => s.heap.get? a = some oa ∧ oa.data = .dict es n ∧ s.heap.get? b = some ob ∧ ob.data = .dict fs m ∧ ob.cls = .type "dict" ∧
      (∀ (j : Nat) (h1 : j < es.size) (h2 : j < fs.size), SeqAt.EqAt A.in1 s es[j].val fs[j].val true) ∧ R (.ok (.ret (.bool true))) s := by
  rintro prog w A R s ⟨o1, o2, o3, o4, o5, hv, hR⟩
  show wpAny _ _ (do
    let x ← Builtin.Dict.dictSlotArgs "__eq__" ⟨[.ref a, .ref b], []⟩
    match x with
    | (self, other) => do
      let y ← PySem.isInstance other (.type "dict")
      if (!y) = true then do
          PySem.rule (toString "dict." ++ toString "__eq__" ++ toString ".not-a-dict")
          PySem.ret PySem.Value.notImplemented
        else do
          let p ← Builtin.Dict.addrOf self
          let q ← Builtin.Dict.addrOf other
          let r ← Builtin.Dict.samePairs (toString "dict." ++ toString "__eq__") p q
          PySem.ret (.bool (r == true))) _ _ _
  refine wpAny_bind ?_
  unfold Builtin.Dict.dictSlotArgs Builtin.Dict.notOrdered
  rw [if_neg (by decide)]
  refine wpAny_bind (wpAny_pure ?_)
  refine wpAny_bind ?_
  unfold PySem.slotArgs
  refine wpAny_pure ?_
  refine wpAny_pure ?_
  refine wpAny_bind (wpAny_isInstance (T := "dict") (b := true) ⟨ob, o3, o5⟩ ?_ ?_)
  · rfl
  rw [if_neg (by decide)]
  refine wpAny_bind (wpAny_pure ?_)
  refine wpAny_bind (wpAny_pure ?_)
  refine wpAny_bind ?_
  unfold Builtin.Dict.samePairs Builtin.Dict.showsAll
  rw [if_neg (by simpa [sysModules] using ha1), if_neg (by simpa [sysModules] using hb1)]
  refine wpAny_bind (wpAny_pure ?_)
  refine wpAny_bind (wpAny_pure ?_)
  refine wpAny_bind (wpAny_dictEntries o1 o2 ?_)
  refine wpAny_bind (wpAny_dictEntries o3 o4 ?_)
  rw [if_neg (by simp [hk.sz])]
  refine wpAny_bind (wpAny_dictEpoch o1 o2 ?_)
  refine wpAny_bind ?_
  rw [Std.Legacy.Range.forIn_eq_forIn_range']
  refine wpAny_forIn_list _ (fun rest c s' => c = (none, ()) ∧ s' = s ∧ ∀ i ∈ rest, i < es.size) _ ?_ ?_ _ _ ⟨rfl, rfl, fun i hi => ?_⟩
  · rintro i rest c s' ⟨rfl, rfl, hi⟩
    have hi0 : i < es.size := hi i (List.mem_cons_self ..)
    have hi1 : i < fs.size := by rw [← hk.sz]; exact hi0
    obtain ⟨x, t, t', k1, k2, k3⟩ := hk.key i hi0 hi1
    refine wpAny_bind (wpAny_dictEntries o1 o2 ?_)
    rw [Array.getElem?_eq_getElem hi0]
    dsimp only
    refine wpAny_bind (wpAny_holding (wpAny_bind ?_))
    rw [k1]
    refine KTD.kt_dictFind_strs o3 o4 hk.str ?_
    rw [k3]
    dsimp only
    refine wpAny_bind (wpAny_dictEntries o3 o4 ?_)
    rw [Array.getElem?_eq_getElem hi1]
    dsimp only
    refine wpAny_holding (hv i hi0 hi1 _ _ _ _ ?_)
    rw [if_neg (by decide)]
    refine wpAny_bind (wpAny_dictEpoch o1 o2 ?_)
    rw [if_neg (by simp)]
    exact wpAny_pure ⟨rfl, rfl, fun j hj => hi j (List.mem_cons_of_mem _ hj)⟩
  · rintro c s' ⟨rfl, rfl, _⟩
    exact wpAny_pure (wpAny_pure hR)
  · rw [List.mem_range'_1] at hi
    have : [:es.size].size = es.size := by simp [Std.Legacy.Range.size]
    have h0 : [:es.size].start = 0 := rfl
    omega
/-- so two of them compare as equal -/
theorem dict_rcAt {A : Around} {s : Shared} {a b : Addr} {es fs : Array DictEntry} {n m : Nat} {oa ob : Obj} (ha1 : a ≠ 1) (hb1 : b ≠ 1) (hk : StrEnts es fs) (hu : A.units < cLine)
    (o1 : s.heap.get? a = some oa) (c1 : oa.cls = .type "dict") (o2 : oa.data = .dict es n) (o3 : s.heap.get? b = some ob) (o4 : ob.data = .dict fs m) (o5 : ob.cls = .type "dict")
    (hv : ∀ (j : Nat) (h1 : j < es.size) (h2 : j < fs.size), SeqAt.EqAt A.in1 s es[j].val fs[j].val true) : SeqAt.RcAt A s (.ref a) (.ref b) true := by
  intro prog w E Q h
  exact richCompare_meets_room ⟨oa, o1, c1⟩ ⟨ob, o3, o5⟩ F.slot_dict_eq F.entry_dict_eq (F.args_dict_eq_2 (.ref a) (.ref b)) (dict_eqMeets ha1 hb1 hk) ⟨o1, o2, o3, o4, o5, hv, ⟨(fun x => nomatch x), h⟩⟩ hu
section
variable {S : Sx} {A : Around} {E : Value → Shared → Prop} {μ : List Addr} {H : AH} {s : Shared} {Q : PV}
theorem all_true {n : Nat} : (List.range n).all (fun _ => true) = true := by simp
theorem EntR.str {h : Heap} : ∀ {ps : List (Nm × V)} {es : List DictEntry} {kvs : List (Str × Value)}, EntR S μ h ps kvs → Pairs (strKind S.prog S.w) es kvs → es.length = ps.length ∧ kvs.map (·.1) = ps.map (fun p => (⟨p.1.toArray⟩ : Str)) ∧ (∀ (j : Nat) p e, ps[j]? = some p → es[j]? = some e → (∃ t, e.key = .str ⟨p.1.toArray⟩ t) ∧ VR S μ h p.2 e.val)
  | [], _, _, r, p => by
    rw [EntR] at r
    subst r
    cases p
    exact ⟨rfl, rfl, fun j p e h => by cases h⟩
  | (a, b) :: r, _, _, x, p => by
    obtain ⟨c, kr, e1, e2, e3⟩ := x
    subst e1
    cases p with
    | cons h1 h2 h3 =>
      obtain ⟨i1, i0, i2⟩ := EntR.str e3 h3
      refine ⟨by rw [List.length_cons, List.length_cons, i1], by rw [List.map_cons, List.map_cons, i0], fun j p e q1 q2 => ?_⟩
      cases j with
      | zero =>
        cases q1; cases q2
        exact ⟨Value.isStrOf_shape h1, by rw [h2]; exact e2⟩
      | succ j => exact i2 j p e (by simpa using q1) (by simpa using q2)
mutual
theorem isWd.eqAt (g : Good S μ H s) : ∀ (d : WD) {A : Around} {v v' : V} {c c' : Value}, isWd H v d → isWd H v' d → VR S μ s.heap v c → VR S μ s.heap v' c' → A.units + wdep d < cLine → SeqAt.EqAt A s c c' true
  | .nn, A, v, v', c, c', h1, h2, r1, r2, hu => by
    rw [isWd] at h1 h2; subst h1 h2; rw [r1.nn_inv, r2.nn_inv]; exact .same _
  | .bb b, A, v, v', c, c', h1, h2, r1, r2, hu => by
    rw [isWd] at h1 h2; subst h1 h2; rw [r1.bb_inv, r2.bb_inv]; exact .same _
  | .ii i, A, v, v', c, c', h1, h2, r1, r2, hu => by
    rw [isWd] at h1 h2; subst h1 h2
    obtain ⟨t, rfl⟩ := r1.ii_inv
    obtain ⟨u, rfl⟩ := r2.ii_inv
    have := SeqAt.EqAt.int_int (A := A) (s := s) i t i u
    rwa [beq_self_eq_true] at this
  | .ss x, A, v, v', c, c', h1, h2, r1, r2, hu => by
    rw [isWd] at h1 h2; subst h1 h2
    obtain ⟨t, rfl⟩ := r1.ss_inv
    obtain ⟨u, rfl⟩ := r2.ss_inv
    have := SeqAt.EqAt.str_str (A := A) (s := s) ⟨x.toArray⟩ t ⟨x.toArray⟩ u
    rwa [beq_self_eq_true] at this
  | .lst ds, A, v, v', c, c', h1, h2, r1, r2, hu => by
    rw [isWd] at h1 h2
    obtain ⟨i, xs, rfl, e1, w1⟩ := h1
    obtain ⟨i', xs', rfl, e2, w2⟩ := h2
    obtain ⟨a, rfl, m1⟩ := r1.rr_inv
    obtain ⟨a', rfl, m2⟩ := r2.rr_inv
    obtain ⟨cs, l1, q1⟩ := OR.isList g e1 m1
    obtain ⟨cs', l2, q2⟩ := OR.isList g e2 m2
    rw [wdep] at hu
    obtain ⟨hl, he⟩ := isWds.eqAt g ds (A := A.in1) w1 w2 q1 q2 (by show A.units + 1 + _ < _; omega)
    by_cases hne : a = a'
    · subst hne; exact .same _
    · have := SeqAt.RcAt.lists (A := A) (e := fun _ => true) l1 l2 (by simpa using hl) (by omega) (fun j h1 h2 => he j (by simpa using h1) (by simpa using h2))
      rw [all_true] at this
      exact SeqAt.EqAt.of_refs hne this
  | .tup ds, A, v, v', c, c', h1, h2, r1, r2, hu => by
    rw [isWd] at h1 h2
    obtain ⟨xs, rfl, w1⟩ := h1
    obtain ⟨xs', rfl, w2⟩ := h2
    obtain ⟨a, cs, rfl, l1, q1⟩ := r1.tt_inv
    obtain ⟨a', cs', rfl, l2, q2⟩ := r2.tt_inv
    rw [wdep] at hu
    obtain ⟨hl, he⟩ := isWds.eqAt g ds (A := A.in1) w1 w2 q1 q2 (by show A.units + 1 + _ < _; omega)
    by_cases hne : a = a'
    · subst hne; exact .same _
    · have := SeqAt.RcAt.tuples (A := A) (e := fun _ => true) l1 l2 (by omega) (fun j h1 h2 => he j (by simpa using h1) (by simpa using h2))
      have hz : cs.size = cs'.size := by simpa using hl
      rw [all_true, hz, beq_self_eq_true] at this
      exact SeqAt.EqAt.of_refs hne this
  | .dct es, A, v, v', c, c', h1, h2, r1, r2, hu => by
    rw [isWd] at h1 h2
    obtain ⟨i, ps, ep, rfl, e1, w1⟩ := h1
    obtain ⟨i', ps', ep', rfl, e2, w2⟩ := h2
    obtain ⟨a, rfl, m1⟩ := r1.rr_inv
    obtain ⟨a', rfl, m2⟩ := r2.rr_inv
    rw [wdep] at hu
    by_cases hne : a = a'
    · subst hne; exact .same _
    · obtain ⟨nd1, kvs1, ⟨o1, f1, g1, x1, d1, _, p1, _⟩, rs1⟩ := g.sr.obj i _ a e1 m1
      obtain ⟨nd2, kvs2, ⟨o2, f2, g2, x2, d2, _, p2, n2⟩, rs2⟩ := g.sr.obj i' _ a' e2 m2
      obtain ⟨l1, _, s1⟩ := EntR.str rs1 p1
      obtain ⟨l2, m2', s2⟩ := EntR.str rs2 p2
      obtain ⟨hl, he⟩ := isWdp.eqAt g es (A := A.in1) w1 w2 (by show A.units + 1 + _ < _; omega)
      rw [Array.length_toList] at l1 l2
      have at1 : ∀ j (h1 : j < f1.size), ∃ p, ps[j]? = some p ∧ (∃ t, f1[j].key = .str ⟨p.1.toArray⟩ t) ∧ VR S μ s.heap p.2 f1[j].val := fun j h1 => by
        have hp : ps[j]? = some (ps[j]'(by omega)) := List.getElem?_eq_getElem (by omega)
        have hf : f1.toList[j]? = some f1[j] := by rw [Array.getElem?_toList, Array.getElem?_eq_getElem h1]
        obtain ⟨q1, q2⟩ := s1 j _ _ hp hf
        exact ⟨_, hp, q1, q2⟩
      have at2 : ∀ j (h1 : j < f2.size), ∃ p, ps'[j]? = some p ∧ (∃ t, f2[j].key = .str ⟨p.1.toArray⟩ t) ∧ VR S μ s.heap p.2 f2[j].val := fun j h1 => by
        have hp : ps'[j]? = some (ps'[j]'(by omega)) := List.getElem?_eq_getElem (by omega)
        have hf : f2.toList[j]? = some f2[j] := by rw [Array.getElem?_toList, Array.getElem?_eq_getElem h1]
        obtain ⟨q1, q2⟩ := s2 j _ _ hp hf
        exact ⟨_, hp, q1, q2⟩
      rw [m2'] at n2
      refine SeqAt.EqAt.of_refs hne (dict_rcAt (fun h => ?_) (fun h => ?_) ⟨by omega, fun j h1 h2 => ?_, ?_⟩ (by omega) g1 x1.1 d1 g2 d2 x2.1 fun j h1 h2 => ?_)
      · have := nd1.2; rw [h] at this; cases this
      · have := nd2.2; rw [h] at this; cases this
      · obtain ⟨p, hp, ⟨t, k1⟩, _⟩ := at1 j h1
        obtain ⟨p', hp', ⟨t', k2⟩, _⟩ := at2 j h2
        obtain ⟨hn, _⟩ := he j p p' hp hp'
        refine ⟨⟨p.1.toArray⟩, t, t', k1, by rw [k2, hn], ?_⟩
        rw [Array.findIdx?_eq_some_iff_getElem]
        refine ⟨h2, by rw [k2, hn]; simp [Value.isStr], fun i hi => ?_⟩
        obtain ⟨q, hq, ⟨u, k3⟩, _⟩ := at2 i (by omega)
        rw [k3]
        intro hx
        have hx : (⟨q.1.toArray⟩ : Str) = ⟨p'.1.toArray⟩ := by rw [← hn]; simpa [Value.isStr] using hx
        have e1 : (ps'.map (fun p => (⟨p.1.toArray⟩ : Str)))[i]? = some ⟨q.1.toArray⟩ := by rw [List.getElem?_map, hq]; rfl
        have e2 : (ps'.map (fun p => (⟨p.1.toArray⟩ : Str)))[j]? = some ⟨p'.1.toArray⟩ := by rw [List.getElem?_map, hp']; rfl
        rw [hx] at e1
        have := (List.getElem?_inj (i := i) (j := j) (by rw [List.length_map]; omega) n2).mp (by rw [e1, e2])
        omega
      · rw [Array.all_eq_true]
        intro j h2
        obtain ⟨p', hp', ⟨t', k2⟩, _⟩ := at2 j h2
        rw [k2]; rfl
      · obtain ⟨p, hp, _, v1⟩ := at1 j h1
        obtain ⟨p', hp', _, v2⟩ := at2 j h2
        exact (he j p p' hp hp').2 _ _ v1 v2
theorem isWds.eqAt (g : Good S μ H s) : ∀ (ds : List WD) {A : Around} {xs xs' : List V} {cs cs' : List Value}, isWds H xs ds → isWds H xs' ds → VRs S μ s.heap xs cs → VRs S μ s.heap xs' cs' → A.units + wdeps ds < cLine →
    cs.length = cs'.length ∧ ∀ j (h1 : j < cs.length) (h2 : j < cs'.length), SeqAt.EqAt A s cs[j] cs'[j] true
  | [], A, xs, xs', cs, cs', h1, h2, r1, r2, hu => by
    rw [isWds] at h1 h2; subst h1 h2
    rw [VRs] at r1 r2; subst r1 r2
    exact ⟨rfl, fun j h => by simp at h⟩
  | d :: ds, A, xs, xs', cs, cs', h1, h2, r1, r2, hu => by
    rw [isWds] at h1 h2
    obtain ⟨x, r, rfl, a1, b1⟩ := h1
    obtain ⟨x', r', rfl, a2, b2⟩ := h2
    rw [VRs] at r1 r2
    obtain ⟨c, cr, rfl, q1, t1⟩ := r1
    obtain ⟨c', cr', rfl, q2, t2⟩ := r2
    rw [wdeps] at hu
    have e1 := isWd.eqAt g d (A := A) a1 a2 q1 q2 (by omega)
    obtain ⟨e2, e3⟩ := isWds.eqAt g ds (A := A) b1 b2 t1 t2 (by omega)
    refine ⟨by rw [List.length_cons, List.length_cons, e2], fun j h1 h2 => ?_⟩
    cases j with
    | zero => exact e1
    | succ j => exact e3 j (by simpa using h1) (by simpa using h2)
theorem isWdp.eqAt (g : Good S μ H s) : ∀ (es : List (Nm × WD)) {A : Around} {ps ps' : List (Nm × V)}, isWdp H ps es → isWdp H ps' es → A.units + wdepp es < cLine →
    ps.length = ps'.length ∧ ∀ (j : Nat) p p', ps[j]? = some p → ps'[j]? = some p' → p.1 = p'.1 ∧ ∀ c c', VR S μ s.heap p.2 c → VR S μ s.heap p'.2 c' → SeqAt.EqAt A s c c' true
  | [], A, ps, ps', h1, h2, hu => by
    rw [isWdp] at h1 h2; subst h1 h2
    exact ⟨rfl, fun j p p' h => by cases h⟩
  | (k, d) :: es, A, ps, ps', h1, h2, hu => by
    rw [isWdp] at h1 h2
    obtain ⟨x, r, rfl, a1, b1⟩ := h1
    obtain ⟨x', r', rfl, a2, b2⟩ := h2
    rw [wdepp] at hu
    obtain ⟨e2, e3⟩ := isWdp.eqAt g es (A := A) b1 b2 (by omega)
    refine ⟨by rw [List.length_cons, List.length_cons, e2], fun j p p' q1 q2 => ?_⟩
    cases j with
    | zero =>
      cases q1; cases q2
      exact ⟨rfl, fun c c' r1 r2 => isWd.eqAt g d (A := A) a1 a2 r1 r2 (by omega)⟩
    | succ j => exact e3 j p p' (by simpa using q1) (by simpa using q2)
end
theorem isWd.lists (g : Good S μ H s) {d : WD} {i i' : Nat} {c c' : Value} (h1 : isWd H (.rr i) d) (h2 : isWd H (.rr i') d) (hl : getL H i ≠ none) (r1 : VR S μ s.heap (.rr i) c) (r2 : VR S μ s.heap (.rr i') c') (hu : A.units + wdep d < cLine) :
    ∃ l b cs cs', c = .ref l ∧ c' = .ref b ∧ s.heap.IsList l cs ∧ s.heap.IsList b cs' ∧ cs.size = cs'.size ∧ A.units < cLine ∧ ∀ j (h1 : j < cs.size) (h2 : j < cs'.size), SeqAt.EqAt A.in1 s cs[j] cs'[j] true := by
  cases d with
  | lst ds =>
    rw [isWd] at h1 h2
    obtain ⟨i, xs, e, e1, w1⟩ := h1
    obtain ⟨i', xs', e', e2, w2⟩ := h2
    cases e; cases e'
    obtain ⟨a, rfl, m1⟩ := r1.rr_inv
    obtain ⟨a', rfl, m2⟩ := r2.rr_inv
    obtain ⟨cs, l1, q1⟩ := OR.isList g e1 m1
    obtain ⟨cs', l2, q2⟩ := OR.isList g e2 m2
    rw [wdep] at hu
    obtain ⟨hl, he⟩ := isWds.eqAt g ds (A := A.in1) w1 w2 q1 q2 (by show A.units + 1 + _ < _; omega)
    exact ⟨a, a', cs, cs', rfl, rfl, l1, l2, by simpa using hl, by omega, fun j h1 h2 => he j (by simpa using h1) (by simpa using h2)⟩
  | dct es =>
    rw [isWd] at h1
    obtain ⟨i, ps, ep, e, e1, _⟩ := h1
    cases e
    exact absurd (by unfold getL; rw [e1]) hl
  | nn => rw [isWd] at h1; cases h1
  | bb b => rw [isWd] at h1; cases h1
  | ii b => rw [isWd] at h1; cases h1
  | ss b => rw [isWd] at h1; cases h1
  | tup ds => rw [isWd] at h1; obtain ⟨_, e, _⟩ := h1; cases e
theorem isWd.eq_lists (g : Good S μ H s) {d : WD} {i i' : Nat} {c c' : Value} (h1 : isWd H (.rr i) d) (h2 : isWd H (.rr i') d) (hl : getL H i ≠ none) (r1 : VR S μ s.heap (.rr i) c) (r2 : VR S μ s.heap (.rr i') c') (hu : A.units + wdep d < cLine) {R : Value → Shared → Prop}
    (q : R (.bool true) s) : wpAny (model S.prog S.w) A (compareOp .Eq c c') R E s := by
  obtain ⟨l, b, cs, cs', rfl, rfl, l1, l2, hz, hA, he⟩ := isWd.lists g h1 h2 hl r1 r2 hu
  have := SeqAt.RcAt.lists (A := A) (e := fun _ => true) l1 l2 hz hA he
  rw [all_true] at this
  exact this _ _ _ _ q
theorem isWd.ne_lists (g : Good S μ H s) {d : WD} {i i' : Nat} {c c' : Value} (h1 : isWd H (.rr i) d) (h2 : isWd H (.rr i') d) (hl : getL H i ≠ none) (r1 : VR S μ s.heap (.rr i) c) (r2 : VR S μ s.heap (.rr i') c') (hu : A.units + wdep d < cLine) {R : Value → Shared → Prop}
    (q : R (.bool false) s) : wpAny (model S.prog S.w) A (compareOp .NotEq c c') R E s := by
  obtain ⟨l, b, cs, cs', rfl, rfl, l1, l2, hz, hA, he⟩ := isWd.lists g h1 h2 hl r1 r2 hu
  have := SeqAt.RcNeAt.lists (A := A) (e := fun _ => true) l1 l2 hz hA he
  rw [all_true] at this
  exact this _ _ _ _ q
end
end Mine
set_option maxRecDepth 10000
namespace Mine
open PySem PySem.Calls PyProof.Rows PySem.W

section
variable {S : Sx} {A : Around} {E : Value → Shared → Prop} {μ : List Addr} {H : AH} {s : Shared} {Q : PV}

mutual
theorem isD.reads (g : Good S μ H s) : ∀ {d : PyData} {v : V} {c : Value}, isD H v d → VR S μ s.heap v c → ∃ as, Reads s.heap c d as
  | .none, v, c, e, r => by rw [isD] at e; subst e; rw [r.nn_inv]; exact ⟨_, .none⟩
  | .bool b, v, c, e, r => by rw [isD] at e; subst e; rw [r.bb_inv]; exact ⟨_, .bool b⟩
  | .int i, v, c, e, r => by rw [isD] at e; subst e; obtain ⟨t, rfl⟩ := r.ii_inv; exact ⟨_, .int i t⟩
  | .str x, v, c, e, r => by
    rw [isD] at e; subst e
    obtain ⟨t, rfl⟩ := r.ss_inv
    exact ⟨[], by rw [← str_eq_mk x]; exact Reads.str x t⟩
  | .list ds, v, c, e, r => by
    rw [isD] at e
    obtain ⟨i, xs, rfl, e1, e2⟩ := e
    obtain ⟨a, rfl, m⟩ := r.rr_inv
    obtain ⟨cs, ⟨o, h1, h2, n, h3⟩, rs⟩ := OR.isList g e1 m
    obtain ⟨as, q⟩ := isDs.reads g e2 rs
    exact ⟨_, .list h1 h2 h3 q⟩
  | .tuple ds, v, c, e, r => by
    rw [isD] at e
    obtain ⟨xs, rfl, e2⟩ := e
    obtain ⟨a, cs, rfl, ⟨o, h1, h2, n, h3⟩, rs⟩ := r.tt_inv
    obtain ⟨as, q⟩ := isDs.reads g e2 rs
    exact ⟨_, .tuple h1 h2 h3 q⟩
  | .dict _, v, c, e, r => by rw [isD] at e; exact e.elim
theorem isDs.reads (g : Good S μ H s) : ∀ {ds : List PyData} {xs : List V} {cs : List Value}, isDs H xs ds → VRs S μ s.heap xs cs → ∃ as, ReadsAll s.heap cs ds as
  | [], xs, cs, e, r => by rw [isDs] at e; subst e; rw [VRs] at r; subst r; exact ⟨_, .nil⟩
  | d :: ds, xs, cs, e, r => by
    rw [isDs] at e
    obtain ⟨x, r', rfl, e1, e2⟩ := e
    rw [VRs] at r
    obtain ⟨c, cr, rfl, r1, r2⟩ := r
    obtain ⟨as, q1⟩ := isD.reads g e1 r1
    obtain ⟨bs, q2⟩ := isDs.reads g e2 r2
    exact ⟨_, .cons q1 q2⟩
end

theorem room_eq {da db : PyData} (hu : A.units + 400 < cLine) (h : da.depth ≤ 64) : A.units + min da.depth db.depth < cLine := by
  have : min da.depth db.depth ≤ da.depth := Nat.min_le_left _ _
  omega

theorem is_none_val {v : V} {c : Value} {h : Heap} (r : VR S μ h v c) (hg : isGg v = false) : plainIs c .none = true ∧ (c == .none) = isNn v := by
  cases v with
  | nn => rw [r.nn_inv]; exact ⟨rfl, rfl⟩
  | bb b => rw [r.bb_inv]; exact ⟨rfl, rfl⟩
  | ii i => obtain ⟨t, rfl⟩ := r.ii_inv; exact ⟨rfl, rfl⟩
  | ss x => obtain ⟨t, rfl⟩ := r.ss_inv; exact ⟨rfl, rfl⟩
  | tt xs => obtain ⟨a, cs, rfl, _⟩ := r.tt_inv; exact ⟨rfl, rfl⟩
  | gg k => cases hg
  | rr i => obtain ⟨a, rfl, _⟩ := r.rr_inv; exact ⟨rfl, rfl⟩
  | rg a b => rw [VR] at r; obtain ⟨a, t1, t2, t3, rfl, _⟩ := r; exact ⟨rfl, rfl⟩

theorem strIn_eq (x y : List Nat) : strIn x y = !(Builtin.Str.occurrences ⟨y.toArray⟩ ⟨x.toArray⟩ 0 (⟨y.toArray⟩ : Str).length 1).isEmpty := by
  unfold strIn
  split
  · symm
    rw [StrLaws.found_iff]
    exact ⟨0, by simp [Str.length], by rw [StrLaws.subAt_eq]; simp [Str.length]⟩
  · rename_i c
    rw [show (⟨([c] : List Nat).toArray⟩ : Str) = ⟨#[c]⟩ from rfl, StrLaws.found_one]
    simp
  · rw [Bool.eq_iff_iff, StrLaws.found_iff, decide_eq_true_eq]
    constructor
    · rintro ⟨p, q, e⟩
      refine ⟨p.length, ?_, ?_⟩
      · simp [Str.length, ← e]
      · rw [StrLaws.subAt_eq]
        simp [Str.length, ← e]
    · rintro ⟨i, h1, h2⟩
      rw [StrLaws.subAt_eq, beq_iff_eq] at h2
      simp [Str.length] at h1 h2
      refine ⟨y.take i, (y.drop i).drop x.length, ?_⟩
      rw [← h2]
      simp [List.length_take, List.length_drop]
      rw [Nat.min_eq_left (by omega), ← List.drop_drop, List.take_append_drop, List.take_append_drop]

def ssVal (x : List Nat) : Value → Bool
  | .str y _ => y.cps.toList == x
  | _ => false
theorem ss_vals {A : Around} {h : Heap} : ∀ {ys : List V} {cs : List Value} {x : List Nat}, allSs ys = true → VRs S μ h ys cs → (∀ c ∈ cs, ∃ y t, c = .str y t) ∧ cs.any (ssVal x) = ys.any (ssEq x)
  | [], cs, x, _, r => by rw [VRs] at r; subst r; exact ⟨by simp, rfl⟩
  | .ss y :: ys, cs, x, e, r => by
    rw [VRs] at r
    obtain ⟨c, cr, rfl, r1, r2⟩ := r
    obtain ⟨q1, q2⟩ := ss_vals (A := A) (x := x) (by simpa [allSs] using e) r2
    obtain ⟨t, rfl⟩ := r1.ss_inv
    refine ⟨fun c hc => ?_, ?_⟩
    · rcases List.mem_cons.mp hc with rfl | hc
      · exact ⟨_, _, rfl⟩
      · exact q1 c hc
    · rw [List.any_cons, List.any_cons, q2]
      congr 1
      simp only [ssVal, ssEq]
      rw [Bool.eq_iff_iff]
      simp
      constructor <;> rintro rfl <;> rfl
  | .nn :: _, _, _, e, _ | .bb _ :: _, _, _, e, _ | .ii _ :: _, _, _, e, _ | .tt _ :: _, _, _, e, _ | .gg _ :: _, _, _, e, _ | .rr _ :: _, _, _, e, _ | .rg _ _ :: _, _, _, e, _ => by cases e

theorem in_tup (g : Good S μ H s) {ys : List V} {x : List Nat} {t : Tok} {c : Value} (r : VR S μ s.heap (.tt ys) c) (h : allSs ys = true) (q : Q (.bb (ys.any (ssEq x))) H) :
    wpAny (model S.prog S.w) A (compareOp .In (.str ⟨x.toArray⟩ t) c) (PostV S μ s Q) E s := by
  obtain ⟨a, cs, rfl, ht, rs⟩ := r.tt_inv
  obtain ⟨q1, q2⟩ := ss_vals (A := A) (x := x) h rs
  refine SeqAt.in_tupleAt (ssVal x) ht (fun y hy => ?_) (.bool g ?_)
  · obtain ⟨z, u, rfl⟩ := q1 y (by simpa using hy)
    have := SeqAt.EqAt.str_str (A := A.in1) (s := s) z u ⟨x.toArray⟩ t
    have e : (z == (⟨x.toArray⟩ : Str)) = ssVal x (.str z u) := by
      simp only [ssVal]
      rw [Bool.eq_iff_iff]
      simp
      constructor
      · rintro rfl; rfl
      · intro e; rw [str_eq_mk z, e]
    rwa [e] at this
  · have e : cs.any (ssVal x) = cs.toList.any (ssVal x) := by simp
    rw [e, q2]; exact q

theorem cmpQ_sound (g : Good S μ H s) (hu : A.units + 400 < cLine) (hgg : ∀ {k : Nat} {x : List Nat} {t : Tok}, (∃ es, S.gd k = some es ∧ Q (.bb (!(es.lookup x).isSome)) H) → wpAny (model S.prog S.w) A (compareOp .NotIn (.str ⟨x.toArray⟩ t) (S.gv k)) (PostV S μ s Q) E s) {op : CmpOp} {a b : V} {ca cb : Value} (ra : VR S μ s.heap a ca) (rb : VR S μ s.heap b cb) (h : cmpQ S op a b H Q) :
    wpAny (model S.prog S.w) A (compareOp op ca cb) (PostV S μ s Q) E s := by
  unfold cmpQ at h
  split at h
  case h_1 => obtain ⟨t, rfl⟩ := ra.ii_inv; obtain ⟨u, rfl⟩ := rb.ii_inv; exact P.eq_int (.bool g h)
  case h_2 => obtain ⟨t, rfl⟩ := ra.ss_inv; obtain ⟨u, rfl⟩ := rb.ss_inv; exact P.eq_str (.bool g (by simpa using h))
  case h_3 =>
    rcases h with h | h
    · obtain ⟨da, db, h1, h2, h3, h4, h5, q⟩ := h
      obtain ⟨as, r1⟩ := isD.reads g h1 ra
      obtain ⟨bs, r2⟩ := isD.reads g h2 rb
      exact SeqAt.compareEq_reads r1 r2 h3 h4 (room_eq hu h5) (.bool g q)
    · obtain ⟨hl, d, h1, h2, h3, q⟩ := h
      exact isWd.eq_lists g h1 h2 hl ra rb (by omega) (.bool g q)
  case h_4 =>
    obtain ⟨da, db, h1, h2, h3, h4, h5, q⟩ := h
    obtain ⟨as, r1⟩ := isD.reads g h1 ra
    obtain ⟨bs, r2⟩ := isD.reads g h2 rb
    exact SeqAt.compareEq_reads r1 r2 h3 h4 (room_eq hu h5) (.bool g q)
  case h_5 => obtain ⟨t, rfl⟩ := ra.ii_inv; obtain ⟨u, rfl⟩ := rb.ii_inv; exact P.ne_int (.bool g h)
  case h_6 => obtain ⟨t, rfl⟩ := ra.ss_inv; obtain ⟨u, rfl⟩ := rb.ss_inv; exact P.ne_str (.bool g (by simpa using h))
  case h_7 =>
    rcases h with h | h
    · obtain ⟨da, db, h1, h2, h3, h4, h5, q⟩ := h
      obtain ⟨as, r1⟩ := isD.reads g h1 ra
      obtain ⟨bs, r2⟩ := isD.reads g h2 rb
      exact SeqAt.compareNe_reads r1 r2 h3 h4 (room_eq hu h5) (.bool g q)
    · obtain ⟨hl, d, h1, h2, h3, q⟩ := h
      exact isWd.ne_lists g h1 h2 hl ra rb (by omega) (.bool g q)
  case h_8 =>
    obtain ⟨da, db, h1, h2, h3, h4, h5, q⟩ := h
    obtain ⟨as, r1⟩ := isD.reads g h1 ra
    obtain ⟨bs, r2⟩ := isD.reads g h2 rb
    exact SeqAt.compareNe_reads r1 r2 h3 h4 (room_eq hu h5) (.bool g q)
  case h_9 => obtain ⟨t, rfl⟩ := ra.ii_inv; obtain ⟨u, rfl⟩ := rb.ii_inv; exact P.lt_int (.bool g h)
  case h_10 => obtain ⟨t, rfl⟩ := ra.ii_inv; obtain ⟨u, rfl⟩ := rb.ii_inv; exact P.le_int (.bool g h)
  case h_11 => obtain ⟨t, rfl⟩ := ra.ii_inv; obtain ⟨u, rfl⟩ := rb.ii_inv; exact P.gt_int (.bool g h)
  case h_12 => obtain ⟨t, rfl⟩ := ra.ii_inv; obtain ⟨u, rfl⟩ := rb.ii_inv; exact P.ge_int (.bool g h)
  case h_13 =>
    rw [rb.nn_inv]
    obtain ⟨p, e⟩ := is_none_val ra h.1
    exact wpAny_is_plain p (.bool g (by rw [e]; exact h.2))
  case h_14 =>
    rw [rb.nn_inv]
    obtain ⟨p, e⟩ := is_none_val ra h.1
    exact wpAny_isNot_plain p (.bool g (by rw [e]; exact h.2))
  case h_15 => obtain ⟨t, rfl⟩ := ra.ss_inv; obtain ⟨u, rfl⟩ := rb.ss_inv; exact P.in_str (.bool g (by rw [← strIn_eq]; exact h))
  case h_16 => obtain ⟨t, rfl⟩ := ra.ss_inv; obtain ⟨u, rfl⟩ := rb.ss_inv; exact P.notIn_str (.bool g (by rw [← strIn_eq]; exact h))
  case h_17 =>
    obtain ⟨h1, h2, q⟩ := h
    obtain ⟨t, rfl⟩ := ra.ss_inv
    exact in_tup g rb h1 q
  case h_18 => obtain ⟨t, rfl⟩ := ra.ss_inv; rw [rb.gg_inv]; exact hgg h
  case h_19 => exact h.elim
end
end Mine
set_option maxRecDepth 10000
namespace Mine
open PySem PySem.Calls PyProof.Rows PySem.W

theorem pyI_seq {α : Type} {l : List α} {i : Int} {v : α} (h : pyI l i = some v) : ∃ j, seqIndex? i l.length = some j ∧ l[j]? = some v ∧ j < l.length := by
  unfold pyI at h
  split at h
  · rename_i h0
    have hlt := (List.getElem?_eq_some_iff.mp h).1
    refine ⟨i.toNat, ?_, h, hlt⟩
    have e : (if i < 0 then i + (l.length : Int) else i) = i := if_neg (by omega)
    show (if (decide (0 ≤ (if i < 0 then i + (l.length : Int) else i)) && decide ((if i < 0 then i + (l.length : Int) else i) < l.length)) = true then some (if i < 0 then i + (l.length : Int) else i).toNat else none) = _
    rw [e, if_pos (by simp; omega)]
  · split at h
    · have hlt := (List.getElem?_eq_some_iff.mp h).1
      refine ⟨(i + l.length).toNat, ?_, h, hlt⟩
      have e : (if i < 0 then i + (l.length : Int) else i) = i + l.length := if_pos (by omega)
      show (if (decide (0 ≤ (if i < 0 then i + (l.length : Int) else i)) && decide ((if i < 0 then i + (l.length : Int) else i) < l.length)) = true then some (if i < 0 then i + (l.length : Int) else i).toNat else none) = _
      rw [e, if_pos (by simp; omega)]
    · cases h

theorem subs_plain {slice : Expr} {o i : Value} (h : isSlice slice = false) : subscripted slice false o i = operate [o, i] (getItem o i) := by
  cases slice <;> first | rfl | cases h

section
variable {S : Sx} {A : Around} {E : Value → Shared → Prop} {μ : List Addr} {H : AH} {s : Shared} {Q : PV}

theorem EntR.look {h : Heap} : ∀ {es : List (Nm × V)} {kvs : List (Str × Value)} {k : Nm}, EntR S μ h es kvs → OptVR S μ h (es.lookup k) (valueAt kvs (⟨k.toArray⟩ : Str))
  | [], kvs, k, e => by rw [EntR] at e; subst e; rfl
  | (k', v) :: es, kvs, k, e => by
    obtain ⟨c, kr, rfl, r1, r2⟩ := e
    have ih := EntR.look (k := k) r2
    rw [List.lookup_cons]
    unfold valueAt at ih ⊢
    rw [List.find?_cons]
    by_cases hk : k = k'
    · subst hk
      simp only [beq_self_eq_true, decide_true, Option.map_some]
      exact ⟨c, rfl, r1⟩
    · have h1 : (k == k') = false := beq_eq_false_iff_ne.mpr hk
      have h2 : ¬ ((⟨k'.toArray⟩ : Str) = ⟨k.toArray⟩) := fun e => by
        injection e with e
        have := congrArg Array.toList e
        simp at this
        exact hk this.symm
      simp only [h1, decide_eq_false h2]
      exact ih

theorem EntR.length {h : Heap} : ∀ {es : List (Nm × V)} {kvs : List (Str × Value)}, EntR S μ h es kvs → kvs.length = es.length
  | [], kvs, e => by rw [EntR] at e; subst e; rfl
  | (_, _) :: es, kvs, e => by
    obtain ⟨c, kr, rfl, _, r2⟩ := e
    rw [List.length_cons, List.length_cons, EntR.length r2]

theorem OR.isDict (g : Good S μ H s) {i : Nat} {a : Addr} {es : List (Nm × V)} (e : getD' H i = some es) (m : μ[i]? = some a) : S.base.get? a = none ∧ ∃ kvs ep, s.heap.DictAt (strKind S.prog S.w) a kvs ep ∧ EntR S μ s.heap es kvs := by
  unfold getD' at e
  split at e
  · rename_i q
    cases e
    obtain ⟨b, kvs, r, v⟩ := g.sr.obj i _ a q m
    exact ⟨b.1, kvs, _, r, v⟩
  · cases e

theorem Good.baseVR (g : Good S μ H s) : Mono [] μ S.base s.heap := ⟨fun i a e => by simp at e, fun a o e _ => g.inv.stay a o e⟩

theorem isStr_self (x : Str) (t : Tok) : (strKind S.prog S.w).is x (.str x t) = true := strKind_is _ _ x t

theorem idxQ_sound (SVS : SV S) (g : Good S μ H s) {value slice : Expr} (hs : isSlice slice = false) {o i : V} {co ci : Value} (ro : VR S μ s.heap o co) (ri : VR S μ s.heap i ci) (h : idxQ S o i H Q) :
    wpAny (model S.prog S.w) A (subscriptTail value slice co ci) (PostV S μ s Q) E s := by
  unfold idxQ at h
  split at h
  · obtain ⟨t, rfl⟩ := ro.ss_inv
    obtain ⟨u, rfl⟩ := ri.ii_inv
    obtain ⟨⟨f1, f2⟩, c, e, q⟩ := h
    obtain ⟨j, e1, e2, e3⟩ := pyI_seq e
    refine tail_any (typeIs_str s _ t) F.slot_str_getitem.lookup (P.getItem_str (c := c) (by simp; omega) ?_ (.str g _ q)) (subs_plain hs)
    simp only [Str.length, List.size_toArray, e1, Option.bind_some]
    simpa using e2
  · obtain ⟨a, cs, rfl, ht, rs⟩ := ro.tt_inv
    obtain ⟨u, rfl⟩ := ri.ii_inv
    obtain ⟨⟨f1, f2⟩, v, e, q⟩ := h
    obtain ⟨j, e1, e2, e3⟩ := pyI_seq e
    obtain ⟨c, e4, rv⟩ := VRs.get S rs e2
    have hz := VRs.size rs
    have hT : s.TypeIs (.ref a) "tuple" := let ⟨o, ho, hc, _⟩ := ht; ⟨o, ho, hc⟩
    exact tail_any hT F.slot_tuple_getitem.lookup (PyProof.Rows.getItem_tuple ht f1 f2 (by rw [hz]; exact e1) (by simpa using e4) (.here g rv q)) (subs_plain hs)
  · obtain ⟨a, rfl, m⟩ := ro.rr_inv
    obtain ⟨u, rfl⟩ := ri.ii_inv
    obtain ⟨⟨f1, f2⟩, xs, v, e, e', q⟩ := h
    obtain ⟨cs, hl, rs⟩ := OR.isList g e m
    have hz := VRs.size rs
    refine tail_any hl.typeIs slot_list_getitem.lookup ?_ (subs_plain hs)
    unfold pyI at e'
    split at e'
    · obtain ⟨c, e4, rv⟩ := VRs.get S rs e'
      exact wpAny_getItem_list hl (by assumption) f2 (by simpa using e4) (.here g rv q)
    · split at e'
      · obtain ⟨c, e4, rv⟩ := VRs.get S rs e'
        exact wpAny_getItem_list_neg hl (by omega) (by rw [hz]; assumption) f1 (by rw [hz]; simpa using e4) (.here g rv q)
      · cases e'
  · obtain ⟨a, rfl, m⟩ := ro.rr_inv
    obtain ⟨u, rfl⟩ := ri.ss_inv
    obtain ⟨es, v, e, e', q⟩ := h
    obtain ⟨b, kvs, ep, hd, rs⟩ := OR.isDict g e m
    rename_i kk
    have l := rs.look (k := kk)
    rw [e'] at l
    obtain ⟨c, l1, l2⟩ := l
    have hm := hd.dictOf.mapOf
    exact tail_any hm.typeIs slot_dict_getitem.lookup (wpAny_getItem_of (isStr_self _ u) hm l1 (.tok g _ l2 q)) (subs_plain hs)
  · rename_i k x
    rw [ro.gg_inv]
    obtain ⟨u, rfl⟩ := ri.ss_inv
    obtain ⟨es, v, e, e', q⟩ := h
    obtain ⟨a, kvs, ga, _, hd, rs⟩ := SVS.gd k es e
    rw [ga]
    have l := rs.look (k := x)
    rw [e'] at l
    obtain ⟨c, l1, l2⟩ := l
    have hm : s.heap.MapOf (strKind S.prog S.w) a (valueAt kvs) := let ⟨o, es, ep, e, r⟩ := hd.mapOf; ⟨o, es, ep, g.inv.stay _ _ e, r⟩
    exact tail_any hm.typeIs slot_dict_getitem.lookup (wpAny_getItem_of (isStr_self _ u) hm l1 (.tok g _ (l2.mono S g.baseVR) q)) (subs_plain hs)
  · exact h.elim

theorem notIn_gg (SVS : SV S) (g : Good S μ H s) {k : Nat} {x : List Nat} {t : Tok} (h : ∃ es, S.gd k = some es ∧ Q (.bb (!(es.lookup x).isSome)) H) :
    wpAny (model S.prog S.w) A (compareOp .NotIn (.str ⟨x.toArray⟩ t) (S.gv k)) (PostV S μ s Q) E s := by
  obtain ⟨es, e, q⟩ := h
  obtain ⟨a, kvs, ga, hne, hd, rs⟩ := SVS.gd k es e
  rw [ga]
  have hm : s.heap.MapOf (strKind S.prog S.w) a (valueAt kvs) := let ⟨o, es, ep, e, r⟩ := hd.mapOf; ⟨o, es, ep, g.inv.stay _ _ e, r⟩
  have l := rs.look (k := x)
  refine wpAny_notIn_of (isStr_self _ t) (beq_eq_false_iff_ne.mpr hne) hm ?_
  have e2 : (valueAt kvs (⟨x.toArray⟩ : Str)).isSome = (es.lookup x).isSome := by
    cases q1 : es.lookup x with
    | none => rw [q1] at l; rw [show valueAt kvs (⟨x.toArray⟩ : Str) = none from l]; rfl
    | some v => rw [q1] at l; obtain ⟨c, l1, _⟩ := l; rw [l1]; rfl
  rw [e2]
  have := PostV.bool (S := S) (s := { s with toks := s.toks + 1 }) (g.toks _) q
  exact ⟨μ, H, _, .toks _ (by first | omega | (dsimp only; omega)), g.toks _, .bb, q⟩
end
end Mine
set_option maxRecDepth 10000
namespace Mine
open PySem PySem.Calls PyProof.Rows PySem.W

theorem clip_cast (i : Int) (n : Nat) : ((clip i n : Nat) : Int) = max 0 (min (if i < 0 then i + (n : Int) else i) n) := by
  unfold clip
  by_cases h : i < 0
  · rw [if_pos h, if_pos h]; omega
  · rw [if_neg h, if_neg h]; omega
theorem clip_le (i : Int) (n : Nat) : clip i n ≤ n := by
  unfold clip; split <;> omega
theorem loC_le (lo : Option Int) (n : Nat) : loC lo n ≤ n := by
  cases lo with
  | none => exact Nat.zero_le _
  | some i => exact clip_le i n
theorem hiC_le (hi : Option Int) (n : Nat) : hiC hi n ≤ n := by
  cases hi with
  | none => exact Nat.le_refl _
  | some i => exact clip_le i n

theorem range_one {a b : Nat} : sliceRange (a : Int) (b : Int) 1 = (List.range (b - a)).map (fun k => a + k) := by
  by_cases h : a ≤ b
  · have := StrLaws.strSliceIndices_plain (a := a) (b := b) (len := b) h (Nat.le_refl _)
    rw [← this]
    have h1 : ¬ ((a : Int) < 0) := by omega
    have h2 : ¬ ((b : Int) < 0) := by omega
    have e1 : max (0 : Int) (min (a : Int) (b : Int)) = a := by omega
    have e2 : max (0 : Int) (min (b : Int) (b : Int)) = b := by omega
    unfold Builtin.Str.strSliceIndices
    simp only [h1, h2, if_false, e1, e2, show ((1 : Int) > 0) = True from by simp, if_true]
  · have e : b - a = 0 := by omega
    rw [e]
    unfold sliceRange
    have h3 : ¬ ((a : Int) < b) := by omega
    simp [h3]

theorem strIdx_eq (lo hi : Option Int) (n : Nat) : Builtin.Str.strSliceIndices lo hi 1 n = (List.range (hiC hi n - loC lo n)).map (fun k => loC lo n + k) := by
  rw [← range_one]
  unfold Builtin.Str.strSliceIndices
  simp only [show ((1 : Int) > 0) = True from by simp, if_true]
  congr 1
  · cases lo with
    | none => rfl
    | some i => exact (clip_cast i n).symm
  · cases hi with
    | none => rfl
    | some i => exact (clip_cast i n).symm

theorem pyS_pick {α : Type} (l : List α) (lo hi : Option Int) : ((List.range (hiC hi l.length - loC lo l.length)).map (fun k => loC lo l.length + k)).filterMap (l[·]?) = pyS l lo hi := by
  unfold pyS
  by_cases h : loC lo l.length ≤ hiC hi l.length
  · exact StrLaws.picks l _ _ (by have := hiC_le hi l.length; omega)
  · have e : hiC hi l.length - loC lo l.length = 0 := by omega
    rw [e]; simp

theorem pyS_length {α : Type} (l : List α) (lo hi : Option Int) : (pyS l lo hi).length = hiC hi l.length - loC lo l.length := by
  unfold pyS
  have := hiC_le hi l.length
  rw [List.length_take, List.length_drop]; omega
theorem pyS_le {α : Type} (l : List α) (lo hi : Option Int) : (pyS l lo hi).length ≤ l.length := by
  rw [pyS_length]; have := hiC_le hi l.length; omega
theorem pyS_whole {α : Type} {l : List α} {lo hi : Option Int} (h : (pyS l lo hi).length = l.length) : pyS l lo hi = l :=
  List.Sublist.eq_of_length ((List.take_sublist _ _).trans (List.drop_sublist _ _)) h

theorem VRs.mem {S : Sx} {μ : List Addr} {h : Heap} : ∀ {xs : List V} {cs : List Value} (lo n : Nat), VRs S μ h xs cs → VRs S μ h ((xs.drop lo).take n) ((cs.drop lo).take n)
  | xs, cs, 0, n, r => by
    induction n generalizing xs cs with
    | zero => simp [VRs]
    | succ n ih =>
      cases xs with
      | nil => rw [VRs] at r; subst r; simp [VRs]
      | cons x xs =>
        rw [VRs] at r
        obtain ⟨c, cr, rfl, r1, r2⟩ := r
        have := ih _ _ r2
        simp only [List.drop_zero, List.take_succ_cons] at this ⊢
        exact .cons S r1 this
  | xs, cs, lo + 1, n, r => by
    cases xs with
    | nil => rw [VRs] at r; subst r; simp [VRs]
    | cons x xs =>
      rw [VRs] at r
      obtain ⟨c, cr, rfl, r1, r2⟩ := r
      simp only [List.drop_succ_cons]
      exact VRs.mem lo n r2

section
variable {S : Sx} {A : Around} {E : Value → Shared → Prop} {μ : List Addr} {H : AH} {s : Shared} {Q : PV}

theorem part_val {v : V} {c : Value} {l : Option Int} {h : Heap} (r : VR S μ h v c) (e : partI v = some l) : ∃ p : Option (Int × Tok), c = partValue p ∧ p.map (·.1) = l := by
  cases v with
  | nn => cases e; exact ⟨none, r.nn_inv, rfl⟩
  | ii i => cases e; obtain ⟨t, rfl⟩ := r.ii_inv; exact ⟨some (i, t), rfl, rfl⟩
  | _ => cases e
theorem part_isPart {c : Value} {l : Option Int} {p : Option (Int × Tok)} (h : c = partValue p ∧ p.map (·.1) = l) : IsPart c l := by
  obtain ⟨rfl, rfl⟩ := h
  cases p with
  | none => exact .none
  | some p => exact .int _ _

theorem slice_eq_kms (l : Option Int) (n : Nat) : kms_lo l n = loC l n := by cases l <;> rfl
theorem slice_eq_kms' (l : Option Int) (n : Nat) : kms_hi l n = hiC l n := by cases l <;> rfl

theorem kms_pyS (l : List Value) (lo hi : Option Int) : kms_pick l lo hi = pyS l lo hi := by
  unfold kms_pick pyS
  rw [slice_eq_kms, slice_eq_kms']
theorem VRs.pyS {h : Heap} {xs : List V} {cs : List Value} {l u : Option Int} (r : VRs S μ h xs cs) : VRs S μ h (pyS xs l u) (pyS cs l u) := by
  unfold Mine.pyS
  rw [VRs.length S r]
  exact VRs.mem _ _ r

theorem slQ_sound (g : Good S μ H s) {value lower upper : Expr} {lo' hi' : Option Expr} {p : Pos} {o lo hi : V} {co cl ch : Value} (ro : VR S μ s.heap o co) (rl : VR S μ s.heap lo cl) (rh : VR S μ s.heap hi ch) (h : slQ o lo hi H Q) :
    wpAny (model S.prog S.w) A (subscriptTail value (.Slice lo' hi' none p) co (.ref s.heap.objs.size)) (PostV S μ s Q) E { s with heap := s.heap.push { cls := .type "slice", data := .fields #[cl, ch, .none] } } := by
  obtain ⟨l, u, e1, e2, h⟩ := h
  obtain ⟨pl, pl1, pl2⟩ := part_val rl e1
  obtain ⟨pu, pu1, pu2⟩ := part_val rh e2
  have g' := g.push { cls := .type "slice", data := .fields #[cl, ch, .none] }
  have gr : Grow S [] μ μ s { s with heap := s.heap.push { cls := .type "slice", data := .fields #[cl, ch, .none] } } := .push _
  split at h
  · obtain ⟨t, rfl⟩ := ro.ss_inv
    rename_i x
    refine tail_any (ops := [.ref s.heap.objs.size, .str ⟨x.toArray⟩ t]) (typeIs_str _ _ t) F.slot_str_getitem.lookup (wpAny_getItem_str_slice (l := pl) (u := pu) (st := none) ⟨_, Heap.get?_push_size _ rfl, rfl, by rw [pl1, pu1]; rfl⟩ rfl ?_) rfl
    unfold sliceMade slicePicked
    simp only [Option.map_none, Option.getD_none, pl2, pu2]
    have hl : (⟨x.toArray⟩ : Str).length = x.length := by simp [Str.length]
    rw [hl, strIdx_eq]
    have hp : ((List.range (hiC u x.length - loC l x.length)).map (fun k => loC l x.length + k)).length = (pyS x l u).length := by rw [pyS_length]; simp
    split
    · rename_i hc
      simp only [beq_self_eq_true, Bool.true_and, beq_iff_eq] at hc
      rw [hp] at hc
      have := pyS_whole hc
      rw [this] at h
      exact ⟨μ, H, _, gr, g', .ss, h.2⟩
    · have e3 : (((List.range (hiC u x.length - loC l x.length)).map (fun k => loC l x.length + k)).filterMap ((⟨x.toArray⟩ : Str).cps[·]?)) = pyS x l u := by
        rw [← pyS_pick]; simp
      rw [e3]
      obtain ⟨m, q⟩ := made_str g' (x := pyS x l u) (Nat.le_trans (pyS_le x l u) h.1) h.2
      refine ⟨m, ?_⟩
      obtain ⟨μ', H', b, a1, a2, a3, a4⟩ := q
      exact ⟨μ', H', b, gr.trans a1, a2, a3, a4⟩
  · obtain ⟨a, rfl, m⟩ := ro.rr_inv
    obtain ⟨xs, e, hb, q⟩ := h
    obtain ⟨cs, hl, rs⟩ := OR.isList g e m
    have hz := VRs.size rs
    refine tail_any (ops := [.ref s.heap.objs.size, .ref a]) (hl.push _).typeIs slot_list_getitem.lookup (wpAny_getItem_list_slice (hl.push _) (Heap.IsSliceOf.new ..) (part_isPart ⟨pl1, pl2⟩) (part_isPart ⟨pu1, pu2⟩) .none (by decide) ?_ (by rw [hz]; exact size_le_BIG hb)) rfl
    rw [kms_pick_eq, kms_pyS]
    have gl := g'.alloc (o := .list (pyS xs l u)) (listOf (pyS cs.toList l u).toArray 0) ⟨g'.base_new, _, 0, Heap.get?_push_size _ rfl, ?_⟩
    · refine ⟨_, _, _, gr.trans (.alloc _), gl, .rr ?_, q⟩
      rw [← g.sr.len, List.getElem?_append_right (Nat.le_refl _), Nat.sub_self]; rfl
    · exact (rs.mono S (μ' := μ ++ [_]) ⟨fun i b e => by rw [List.getElem?_append_left (List.getElem?_eq_some_iff.mp e).1]; exact e, fun b o e _ => Heap.get?_push_of_some _ (Heap.get?_push_of_some _ e)⟩).pyS
  · exact h.elim
end
end Mine
set_option maxRecDepth 100000
namespace Mine
open PySem PySem.Calls PyProof.Rows PySem.W
open Builtin Builtin.Str Builtin.BaseException

/-! ## str of an exception of one's own with one text -/
section
variable {prog : Program} {w : World} {A : Around} {E : Value → Shared → Prop} {s : Shared} {K : Frag} {x C t0 : Addr} {ox : Obj} {od : Option Obj}
theorem exc_bstr {Q : Value → Shared → Prop} (X : K.In s.heap) (I : InstAt s.heap x ox C od) (hm : mroIn K C (.type "BaseException") = some true) {vs : Array Value} (hd : ox.data = .fields vs) (h0 : vs[0]? = some (.ref t0))
    {m : Str} {tk : Tok} {to : Obj} {tn : Nat} (ht : s.heap.get? t0 = some to) (hc : to.cls = .type "tuple") (htd : to.data = .seq #[.str m tk] tn) (q : Q (.str m tk) s) :
    wpAny (model prog w) A (call (.builtin "BaseException.__str__") [.ref x]) Q E s := by
  refine wpAny_call (codeAny_call_builtin PySem.F.excStr_ValueError.str.plain PySem.F.entry_bexc_str (check_slot (i := "BaseException.__str__") (owner := "BaseException") (n := "__str__") (by decide +kernel) (by decide +kernel) (I.type.andThen (looks_mroIn X hm)) (PySem.F.args_bexc_str _) ?_))
  unfold Builtin.«BaseException.__str__»
  refine wpAny_bind (m := slotArgs "__str__" 0 _) (wpAny_pure ?_)
  have ha : ∀ {B : Around} {Q' : Value × List Value → Shared → Prop} {E' : Value → Shared → Prop}, Q' (.ref t0, [.str m tk]) s → wpAny (model prog w) B (bexcArgs (.ref x)) Q' E' s := by
    intro B Q' E' hq
    unfold bexcArgs
    refine wpAny_bind (wpAny_field I.at_ hd h0 (wpAny_bind (wpAny_seqItems ht htd ?_)))
    exact wpAny_pure hq
  refine wpAny_bind (ha ?_)
  refine wpAny_bind (wpAny_rule ?_)
  refine wpAny_bind ?_
  unfold bexcText
  repeat (any_goals (first | exact wpAny_pure (wpAny_pure q) | exact wpAny_pure (wpAny_pure (wpAny_pure q)) | wp_step))
  all_goals first | exact q | exact ⟨_, rfl, q⟩ | skip
theorem exc_str {Q : Value → Shared → Prop} (hu : A.in1.in1.units < cLine) (X : K.In s.heap) (I : InstAt s.heap x ox C od) (hs : findIn K (.ref C) "__str__" = some (some (.builtin "BaseException.__str__"))) (hm : mroIn K C (.type "BaseException") = some true) {vs : Array Value} (hd : ox.data = .fields vs) (h0 : vs[0]? = some (.ref t0))
    {m : Str} {tk : Tok} {to : Obj} {tn : Nat} (ht : s.heap.get? t0 = some to) (hc : to.cls = .type "tuple") (htd : to.data = .seq #[.str m tk] tn) (q : Q (.str m tk) s) :
    wpAny (model prog w) A (call (.type "str") [.ref x]) Q E s := by
  refine callType_codes (T := "str") (Bi := Builtin.«object.__init__») (Q₁ := fun r s₁ => ∃ y u, r = .str y u ∧ Q r s₁) PySem.F.called_str (PySem.F.typeCall_str_1 _) PySem.F.entry_object_init ?_ ?_
  · refine codeAny_of_tree ?_
    show wpAny _ A.in1.in1 (do checkBuiltinCall "str.__new__" ⟨[.type "str", .ref x], []⟩; again (.builtin "str.__new__" ⟨[.type "str", .ref x], []⟩)) _ _ s
    refine wpAny_bind (wpAny_of_eq (PySem.F.newCall_str_1 _) (wpAny_pure ⟨plainId_quiet (by decide +kernel) _, codeAny_builtin PySem.F.entry_str_new ?_⟩))
    rw [Around.under_plainId (by decide +kernel) _]
    rw [str_new_tree]
    refine wpAny_bind (wpAny_pure ?_)
    refine wpAny_bind (wpAny_of_eq isSubtype_str_str ?_)
    have key : wpAny (model prog w) A.in1.in1 (PySem.Builtin.Str.strOf (.ref x)) (fun r s₁ => ∃ y u, r = .str y u ∧ Q r s₁) E s := by
      unfold PySem.Builtin.Str.strOf
      rw [show isExactStr (.ref x) = false from rfl]
      refine wpAny_bind (m := cRoomFor _ _) (wpAny_cRoomFor hu ?_)
      refine wpAny_bind (m := callSpecial? (.ref x) (Str.ofString "__str__")) ?_
      refine wpAny_bind (wpAny_bind (I.type.here ((looks_findIn X hs).here (wpAny_holding (wpAny_bind ((Looks.of_pure (PySem.F.excStr_ValueError.str.bind _)).here (wpAny_bind ?_)))))))
      refine wpAny_mono (exc_bstr (Q := fun r s₁ => r = .str m tk ∧ s₁ = s) X I hm hd h0 ht hc htd ⟨rfl, rfl⟩) (fun r s₁ z => ?_) fun _ _ z => z
      obtain ⟨rfl, rfl⟩ := z
      refine wpAny_pure ?_
      first | exact wpAny_pure ⟨_, _, rfl, q⟩ | exact wpAny_bind (wpAny_isInstance (T := "str") (b := true) (typeIs_str _ _ _) isSubtype_str_str (wpAny_pure ⟨_, _, rfl, q⟩))
    exact wpAny_bind (wpAny_mono key (fun r s₁ hr => wpAny_pure hr) fun _ _ y => y)
  · rintro obj s₁ ⟨y, u, rfl, hq⟩
    exact ⟨typeIs_str _ _ _, PySem.F.args_object_init_2 _ _, object_init_meets PySem.F.called_str.init.lookup PySem.F.called_str.made (by decide) prog w A.in1 _ s₁ ⟨typeIs_str _ _ _, rfl, hq⟩⟩
end
end Mine
set_option maxRecDepth 10000
namespace Mine
open PySem PySem.Calls PyProof.Rows PySem.W

section
variable {S : Sx} {A : Around} {E : Value → Shared → Prop} {μ : List Addr} {H : AH} {s : Shared} {Q : PV}

theorem VRs.one_inv {h : Heap} {x : V} {cs : List Value} (r : VRs S μ h [x] cs) : ∃ c, cs = [c] ∧ VR S μ h x c := by
  rw [VRs] at r
  obtain ⟨c, cr, rfl, r1, r2⟩ := r
  rw [VRs] at r2; subst r2
  exact ⟨c, rfl, r1⟩
theorem VRs.two_inv {h : Heap} {x y : V} {cs : List Value} (r : VRs S μ h [x, y] cs) : ∃ c d, cs = [c, d] ∧ VR S μ h x c ∧ VR S μ h y d := by
  rw [VRs] at r
  obtain ⟨c, cr, rfl, r1, r2⟩ := r
  obtain ⟨d, rfl, r3⟩ := r2.one_inv
  exact ⟨c, d, rfl, r1, r3⟩

theorem log2_of_lt {i : Int} (h : i.natAbs < 2 ^ 1000) : i.natAbs.log2 < 1920 := by
  by_cases h0 : i.natAbs = 0
  · rw [h0]; decide
  · have := (Nat.log2_lt h0).mpr h
    omega

theorem new_range (g : Good S μ H s) {a b : Int} {ob : Obj} {t1 t2 t3 : Tok} (t : Nat) (ht : s.toks ≤ t) (e : ob = { cls := .type "range", data := .fields #[.int a t1, .int b t2, .int 1 t3] }) (q : Q (.rg a b) H) :
    PostV S μ s Q (.ref s.heap.objs.size) { s with heap := s.heap.push ob, toks := t } := by
  subst e
  refine ⟨μ, H, _, ?_, (g.push _).toks t, ?_, q⟩
  · exact (Grow.push _).trans (.toks t ht)
  · rw [VR]; exact ⟨_, t1, t2, t3, rfl, Heap.get?_push_size _ rfl⟩

theorem biQ_sound (SVS : SV S) (hu : A.in1.in1.units < cLine) (g : Good S μ H s) {f : Bi} {xs : List V} {cs : List Value} (r : VRs S μ s.heap xs cs) (h : biQ S f xs H Q) :
    wpAny (model S.prog S.w) A (call f.val cs) (PostV S μ s Q) E s := by
  unfold biQ at h
  split at h
  · obtain ⟨c, rfl, r1⟩ := r.one_inv
    obtain ⟨t, rfl⟩ := r1.ss_inv
    rename_i x
    have hl : (⟨x.toArray⟩ : Str).length = x.length := by simp [Str.length]
    refine P.len_str (by rw [hl]; have := h.1; unfold BIG at this; omega) ?_
    rw [hl]; exact .int g _ h.2
  · obtain ⟨c, rfl, r1⟩ := r.one_inv
    obtain ⟨a, cs, rfl, ht, rs⟩ := r1.tt_inv
    have hz := VRs.size rs
    refine PyProof.Rows.len_tuple ht (by rw [hz]; have := h.1; unfold BIG at this; omega) ?_
    rw [hz]; exact .int g _ h.2
  · obtain ⟨c, rfl, r1⟩ := r.one_inv
    obtain ⟨a, rfl, m⟩ := r1.rr_inv
    obtain ⟨ys, e, hb, q⟩ := h
    obtain ⟨cs, hl, rs⟩ := OR.isList g e m
    have hz := VRs.size rs
    refine call_len_list hl (by rw [hz]; unfold BIG at hb; omega) ?_
    rw [hz]; exact .int g _ q
  · obtain ⟨c, rfl, r1⟩ := r.one_inv
    obtain ⟨t, rfl⟩ := r1.ss_inv
    exact P.ord_of_char (.int g _ h)
  · obtain ⟨c, rfl, r1⟩ := r.one_inv
    obtain ⟨t, rfl⟩ := r1.ii_inv
    exact P.chr_of_int (by simp; omega) (.str g _ h.2.2)
  · obtain ⟨c, rfl, r1⟩ := r.one_inv
    obtain ⟨t, rfl⟩ := r1.ss_inv
    obtain ⟨hl, i, e, q⟩ := h
    exact KIN.call_text e (by simpa [Str.length] using hl) (.int g _ q)
  · obtain ⟨c, rfl, r1⟩ := r.one_inv
    obtain ⟨t, rfl⟩ := r1.ii_inv
    exact P.str_of_int (log2_of_lt h.1) (.str' g _ h.2)
  · obtain ⟨c, rfl, r1⟩ := r.one_inv
    obtain ⟨a, rfl, m⟩ := r1.rr_inv
    obtain ⟨k, x, d, fr, e, hE, q⟩ := h
    obtain ⟨_, C, vs, t, sl, dd, gc, e1, _, e2, rt, _, rd⟩ := g.sr.obj _ _ a e m
    obtain ⟨ta, tcs, rfl, ⟨to, t1, t2, tn, t3⟩, rs⟩ := rt.tt_inv
    obtain ⟨cc, ec, rc⟩ := rs.one_inv
    obtain ⟨tk, rfl⟩ := rc.ss_inv
    have etc : tcs = #[.str ⟨x.toArray⟩ tk] := by rw [← Array.toArray_toList (xs := tcs), ec]
    subst etc
    have X : S.K.In s.heap := fun a o e => g.inv.stay a o (SVS.kin a o e)
    obtain ⟨m1, _⟩ := SVS.exc k C gc hE
    have I : ∃ od, InstAt s.heap a ⟨.ref C, dd, .fields vs, sl⟩ C od := by
      cases d with
      | none => dsimp only at rd; subst rd; exact ⟨none, e1, rfl, rfl, trivial⟩
      | some j =>
        obtain ⟨dx, rfl, rj⟩ := rd
        obtain ⟨ob, eo, _⟩ := g.sr.cls (List.mem_of_getElem? rj)
        exact ⟨some ob, e1, rfl, rfl, eo⟩
    obtain ⟨od, I⟩ := I
    exact exc_str hu X I (SVS.exs k C gc hE) m1 rfl e2 t1 t2 t3 (.here g .ss q)
  · obtain ⟨c, rfl, r1⟩ := r.one_inv
    obtain ⟨t, rfl⟩ := r1.ss_inv
    exact P.repr_of_str (.str' g _ h.2) (by have := h.1; unfold reprS at this; rw [sizeLine_eq]; simpa [Str.length, BIG] using this)
  · obtain ⟨c, rfl, r1⟩ := r.one_inv
    obtain ⟨t, rfl⟩ := r1.ii_inv
    exact call_range_1 (new_range g _ (by first | omega | (dsimp only; omega)) rfl h)
  · obtain ⟨c, d, rfl, r1, r2⟩ := r.two_inv
    obtain ⟨t, rfl⟩ := r1.ii_inv
    obtain ⟨u, rfl⟩ := r2.ii_inv
    exact call_range_2 (new_range g _ (by first | omega | (dsimp only; omega)) rfl h)
  · exact h.elim
end
end Mine
set_option maxRecDepth 10000
namespace Mine
open PySem PySem.Calls PyProof.Rows PySem.W

abbrev PE := Nat → AH → Prop

/-- what stands around a call -/
structure AC (S : Sx) (A : Around) (n : Nat) (h : Heap) : Prop where
  frames : ∃ out, A.frames = some out ∧ FF S h out
  depth : A.depth + n ≤ recursionLimit
  units : A.units + 9 * n + 400 < cLine
  hand : n ≠ 0 → A.handled = none

def ExcAt (H : AH) (i : Nat) : Prop := ∃ c args d, H[i]? = some (.exc c args d false)
def PostE (S : Sx) (μ : List Addr) (s : Shared) (P : Option Value → Prop) (E : PE) : Value → Shared → Prop := fun v s' =>
  ∃ μ' H' i a, Grow S [] μ μ' s s' ∧ Good S μ' H' s' ∧ v = .ref a ∧ μ'[i]? = some a ∧ Fl S s'.heap a P ∧ ExcAt H' i ∧ E i H'

def KeepOk (S : Sx) (h : Heap) (f : Value) : Prop := ∃ k, (k = Keeper.frame ∨ k = Keeper.machine ∨ k = Keeper.boundFrame) ∧ Looks (model S.prog S.w) h (keeperOf f) k

/-- a call: it ends, and what it gives -/
def Calls (S : Sx) (n : Nat) (f : V) (args : List V) (H : AH) (Q : PV) (E : PE) : Prop :=
  ∀ A s μ cf cargs, AC S A n s.heap → Good S μ H s → VR S μ s.heap f cf → VRs S μ s.heap args cargs →
    KeepOk S s.heap cf ∧ wpAny (model S.prog S.w) A (call cf cargs) (PostV S μ s Q) (PostE S μ s (· = some .none) E) s

theorem PostV.mono {S : Sx} {μ : List Addr} {s : Shared} {Q Q' : PV} (h : ∀ v H, Q v H → Q' v H) {v : Value} {s' : Shared} (x : PostV S μ s Q v s') : PostV S μ s Q' v s' :=
  let ⟨a, b, c, d, e, f, g⟩ := x; ⟨a, b, c, d, e, f, h _ _ g⟩
theorem PostE.mono {S : Sx} {μ : List Addr} {s : Shared} {P : Option Value → Prop} {E E' : PE} (h : ∀ i H, E i H → E' i H) {v : Value} {s' : Shared} (x : PostE S μ s P E v s') : PostE S μ s P E' v s' :=
  let ⟨a, b, c, d, e, f, g, k, l, m⟩ := x; ⟨a, b, c, d, e, f, g, k, l, m.1, h _ _ m.2⟩
theorem Calls.mono {S : Sx} {n : Nat} {f : V} {args : List V} {H : AH} {Q Q' : PV} {E E' : PE} (x : Calls S n f args H Q E) (h : ∀ v H, Q v H → Q' v H) (h' : ∀ i H, E i H → E' i H) : Calls S n f args H Q' E' :=
  fun A s μ cf cargs a b c d => let ⟨k, r⟩ := x A s μ cf cargs a b c d; ⟨k, wpAny_mono r (fun _ _ q => q.mono h) fun _ _ q => q.mono h'⟩

/-! ## Methods -/
def split2 : List Nat → Nat → Nat → List (List Nat)
  | [], _, _ => [[]]
  | [c], _, _ => [[c]]
  | c :: d :: r, x, y => if c = x ∧ d = y then [] :: split2 r x y else match split2 (d :: r) x y with
    | p :: ps => (c :: p) :: ps
    | [] => [[c]]
def idxOf? (s : List Nat) (c : Nat) : Option Nat := let k := s.takeWhile (· != c); if k.length < s.length then some k.length else none
def rdrop (p : Nat → Bool) (s : List Nat) : List Nat := (s.reverse.dropWhile p).reverse
def asciiLow (c : Nat) : Nat := if 65 ≤ c ∧ c ≤ 90 then c + 32 else c
def allStr : List V → Option (List (List Nat))
  | [] => some []
  | .ss x :: r => (allStr r).map (x :: ·)
  | _ => none
def joinS (sep : List Nat) : List (List Nat) → List Nat
  | [] => []
  | [x] => x
  | x :: r => x ++ sep ++ joinS sep r
def rindexOf (s : List Nat) (c : Nat) : Option Nat := (idxOf? s.reverse c).map fun k => s.length - 1 - k

/-- methods of texts -/
inductive SM where
  | find | index | rindex | count | lower | strip | lstrip | split | join
  deriving DecidableEq
def SM.nm : SM → Nm
  | .find => [102, 105, 110, 100] | .index => [105, 110, 100, 101, 120] | .rindex => [114, 105, 110, 100, 101, 120] | .count => [99, 111, 117, 110, 116] | .lower => [108, 111, 119, 101, 114]
  | .strip => [115, 116, 114, 105, 112] | .lstrip => [108, 115, 116, 114, 105, 112] | .split => [115, 112, 108, 105, 116] | .join => [106, 111, 105, 110]
def SM.id : SM → String
  | .find => "str.find" | .index => "str.index" | .rindex => "str.rindex" | .count => "str.count" | .lower => "str.lower" | .strip => "str.strip" | .lstrip => "str.lstrip" | .split => "str.split" | .join => "str.join"
def smOf (m : Nm) : Option SM := [SM.find, .index, .rindex, .count, .lower, .strip, .lstrip, .split, .join].find? fun k => k.nm == m

def strQ (s : List Nat) (m : SM) (xs : List V) (H : AH) (Q : PV) : Prop :=
  s.length ≤ 1000000 ∧ match m, xs with
  | .find, [.ss [c]] => Q (.ii (match idxOf? s c with | some k => (k : Int) | none => -1)) H
  | .index, [.ss [c]] => ∃ k, idxOf? s c = some k ∧ Q (.ii k) H
  | .rindex, [.ss [c]] => ∃ k, rindexOf s c = some k ∧ Q (.ii k) H
  | .count, [.ss [c]] => Q (.ii (s.count c)) H
  | .lower, [] => (∃ c, s = [c] ∧ c < 128) ∧ Q (.ss (s.map asciiLow)) H
  | .strip, [.ss [c]] => Q (.ss (rdrop (· == c) (s.dropWhile (· == c)))) H
  | .lstrip, [.ss [c]] => Q (.ss (s.dropWhile (· == c))) H
  | .split, [.ss [x, y]] => (x < 256 ∧ y < 256) ∧ Q (.rr H.length) (H ++ [.list ((split2 s x y).map .ss)])
  | .join, [.rr i] => ∃ ys zs, getL H i = some ys ∧ allStr ys = some zs ∧ (zs.map (·.length)).sum + zs.length * s.length ≤ 1000000 ∧ Q (.ss (joinS s zs)) H
  | _, _ => False

inductive Cal where
  | val (f : V) (first : List V)
  | str (s : List Nat) (m : SM)
  | app (i : Nat)

def appNm : Nm := "append".toList.map Char.toNat
def calOf (S : Sx) (o : V) (m : Nm) (H : AH) : Option Cal := match o with
  | .ss s => (smOf m).map (.str s)
  | .rr i => match H[i]? with
    | some (.list _) => if m = appNm then some (.app i) else none
    | some (.inst c d) => match H[d]? with
      | some (.ns es) => match es.lookup m with
        | some f => if (S.ao c m && !S.isE c) = true then some (.val f []) else none
        | none => match S.cm c m with
          | some k => some (.val (.gg k) [.rr i])
          | none => none
      | _ => none
    | _ => none
  | _ => none
def calQ (S : Sx) (n : Nat) (c : Cal) (xs : List V) (H : AH) (Q : PV) (E : PE) : Prop := match c with
  | .val f first => n ≠ 0 ∧ Calls S n f (first ++ xs) H Q E
  | .str s m => strQ s m xs H Q
  | .app i => ∃ v ys, xs = [v] ∧ H[i]? = some (.list ys) ∧ ys.length < BIG ∧ Q .nn (H.set i (.list (ys ++ [v])))

def attrQ (S : Sx) (o : V) (a : Nm) (H : AH) (Q : PV) : Prop := match o with
  | .rr i => match H[i]? with
    | some (.inst c d) => S.ao c a = true ∧ ∃ es v, H[d]? = some (.ns es) ∧ es.lookup a = some v ∧ Q v H
    | some (.exc c _ (some d) _) => S.ao c a = true ∧ ∃ es v, H[d]? = some (.ns es) ∧ es.lookup a = some v ∧ Q v H
    | _ => False
  | _ => False

/-! ## Walking over things -/
def snap (H : AH) (v : V) : Option (List V × Nat) := match v with
  | .rg a b => if 0 ≤ a ∧ a ≤ 1000000 ∧ -1000000 ≤ b ∧ b ≤ 1000000 then some ((List.range (b - a).toNat).map (fun (k : Nat) => V.ii (a + (k : Int))), 0) else none
  | .ss s => some (s.map (fun c => .ss [c]), 0)
  | .tt xs => some (xs, 0)
  | .rr i => match H[i]? with
    | some (.list xs) => some (xs, 0)
    | some (.ilist xs) => some (xs, 0)
    | some (.dict es ep) => some (es.map (fun p => .ss p.1), ep + 1)
    | _ => none
  | _ => none
def unp (H : AH) (v : V) : Option (List V) := match v with
  | .tt xs => some xs
  | .rr i => getL H i
  | _ => none

def setTg (n : Nat) (κ : List Nat) : Tg → V → Lo → AH → (Lo → AH → Prop) → Prop
  | .loc i, v, ρ, H, K => K (ρ.set i (some v)) H
  | .cel i, v, ρ, H, K => ∃ j w, κ[i]? = some j ∧ H[j]? = some (.cell w) ∧ K ρ (H.set j (.cell (some v)))
  | .two a b, v, ρ, H, K => n ≠ 0 ∧ ∃ x y, unp H v = some [x, y] ∧ setTg n κ a x ρ H fun ρ H => setTg n κ b y ρ H K
  | .three a b c, v, ρ, H, K => n ≠ 0 ∧ ∃ x y z, unp H v = some [x, y, z] ∧ setTg n κ a x ρ H fun ρ H => setTg n κ b y ρ H fun ρ H => setTg n κ c z ρ H K
  | .four i j l m, v, ρ, H, K => n ≠ 0 ∧ ∃ x y z u, unp H v = some [x, y, z, u] ∧ K ((((ρ.set i (some x)).set j (some y)).set l (some z)).set m (some u)) H

def itGo {σ : Type} (body : V → σ → (σ → Prop) → Prop) : List V → σ → (σ → Prop) → Prop
  | [], st, K => K st
  | v :: r, st, K => body v st fun st' => itGo body r st' K

/-- a dict of entries, in order, a name's last value at its first place -/
def upd (es : List (Nm × V)) (k : Nm) (v : V) : List (Nm × V) := if es.any (·.1 == k) then es.map fun p => if p.1 == k then (p.1, v) else p else es ++ [(k, v)]
def dctC : List (Nm × Int) → List (Nm × V) → List (Nm × V)
  | [], acc => acc
  | (k, i) :: r, acc => dctC r (upd acc k (.ii i))
def prsOf : List V → Option (List (Nm × V))
  | [] => some []
  | .tt [.ss k, v] :: r => (prsOf r).map ((k, v) :: ·)
  | _ => none
def updAll : List (Nm × V) → List (Nm × V) → List (Nm × V)
  | [], acc => acc
  | (k, v) :: r, acc => updAll r (upd acc k v)
def onB (v : V) (f : Bool → Prop) : Prop := match v with
  | .bb b => f b
  | _ => False
/-- what is handed on: the value, or its truth -/
def fin (t : Bool) (Q : PV) : PV := match t with
  | false => Q
  | true => fun v H => truQ v H fun b => Q (.bb b) H

section
variable (S : Sx) (n : Nat)

mutual
def ev (ρ : Lo) (κ : List Nat) (E : PE) : X → Bool → AH → PV → Prop
  | .nn, t, H, Q => fin t Q .nn H
  | .bb b, t, H, Q => fin t Q (.bb b) H
  | .ii i, t, H, Q => fin t Q (.ii i) H
  | .ss s, t, H, Q => fin t Q (.ss s) H
  | .loc i, t, H, Q => ∃ v, ρ[i]? = some (some v) ∧ fin t Q v H
  | .cel i, t, H, Q => ∃ j v, κ[i]? = some j ∧ H[j]? = some (.cell (some v)) ∧ fin t Q v H
  | .glob k, t, H, Q => match S.gs k with
    | some x => fin t Q (.ss x) H
    | none => fin t Q (.gg k) H
  | .bin op a b, t, H, Q => ev ρ κ E a false H fun x H => ev ρ κ E b false H fun y H => binQ op x y H (fin t Q)
  | .neg a, t, H, Q => ev ρ κ E a false H fun x H => ∃ i, x = .ii i ∧ fin t Q (.ii (-i)) H
  | .cmp op a b, t, H, Q => ev ρ κ E a false H fun x H => ev ρ κ E b false H fun y H => cmpQ S op x y H (fin t Q)
  | .not a, t, H, Q => match t with
    | false => ev ρ κ E a false H fun x H => truQ x H fun t => Q (.bb (!t)) H
    | true => ev ρ κ E a true H fun x H => onB x fun t => Q (.bb (!t)) H
  | .and xs, t, H, Q => evA ρ κ E true xs t H Q
  | .or xs, t, H, Q => evA ρ κ E false xs t H Q
  | .ite c a b, t, H, Q => ev ρ κ E c true H fun x H => onB x fun u => if u then ev ρ κ E a t H Q else ev ρ κ E b t H Q
  | .bi f xs, t, H, Q => evL ρ κ E xs H fun vs H => biQ S f vs H (fin t Q)
  | .isi x ty, t, H, Q => ev ρ κ E x false H fun v H => isiQ v ty H (fin t Q)
  | .call f xs, t, H, Q => ev ρ κ E f false H fun g H => evL ρ κ E xs H fun vs H => n ≠ 0 ∧ Calls S n g vs H (fin t Q) E
  | .meth o m xs, t, H, Q => ev ρ κ E o false H fun ov H => ∃ c, calOf S ov m H = some c ∧ evL ρ κ E xs H fun vs H => calQ S n c vs H (fin t Q) E
  | .rpl m x y e, t, H, Q => ev ρ κ E m false H fun mv H => ∃ s, mv = .ss s ∧ s.length ≤ 1000 ∧ ev ρ κ E e false H fun rv H => ∃ r, rv = .ss r ∧ r.length ≤ 1000 ∧ reprS r ≠ [x, y] ∧ (reprS r).length ≤ 16000 ∧
      fin t Q (.ss (joinS (reprS r) (split2 s x y))) H
  | .attr o a, t, H, Q => ev ρ κ E o false H fun ov H => attrQ S ov a H (fin t Q)
  | .idx o i, t, H, Q => ev ρ κ E o false H fun ov H => ev ρ κ E i false H fun iv H => idxQ S ov iv H (fin t Q)
  | .sl o lo hi, t, H, Q => ev ρ κ E o false H fun ov H => evO ρ κ E lo H fun l H => evO ρ κ E hi H fun u H => slQ ov l u H (fin t Q)
  | .tup xs, t, H, Q => evL ρ κ E xs H fun vs H => vs.length ≤ BIG ∧ fin t Q (.tt vs) H
  | .lst xs, t, H, Q => evL ρ κ E xs H fun vs H => vs.length ≤ BIG ∧ fin t Q (.rr H.length) (H ++ [.list vs])
  | .dct ks, t, H, Q => ∀ ep, fin t Q (.rr H.length) (H ++ [.dict (dctC ks []) ep])
  | .comp x tg it ifs k, t, H, Q => ev ρ κ E it false H fun src H => ∃ xs ep κ', snap H src = some (xs, ep) ∧ n ≠ 0 ∧ xs.length ≤ 1000000 ∧ (S.fns k).up.map (fun j => κ[j]?) = κ'.map some ∧
      itGo (fun v (st : Lo × AH) K => snap st.2 src = some (xs, ep) ∧ setTg n κ' tg v st.1 st.2 fun ρ' H' => evT ρ' κ' (fun _ _ => False) ifs H' fun b H' =>
          if b then ev ρ' κ' (fun _ _ => False) x false H' fun w H'' => ∃ ys, H''[H.length]? = some (.list ys) ∧ ys.length < BIG ∧ K (ρ', H''.set H.length (.list (ys ++ [w]))) else K (ρ', H'))
        xs ((S.fns k).vars.map fun _ => none, H ++ [.list []]) fun st => snap st.2 src = some (xs, ep) ∧ fin t Q (.rr H.length) st.2
  | .lam k, t, H, Q => ∃ cs, (S.fns k).up.map (fun j => κ[j]?) = cs.map some ∧ fin t Q (.rr H.length) (H ++ [.fn k cs])
  | .mkl a, t, H, Q => ev ρ κ E a false H fun v H => n ≠ 0 ∧ ∃ i es ep, v = .rr i ∧ H[i]? = some (.dict es ep) ∧ es.length ≤ 1000000 ∧ fin t Q (.rr H.length) (H ++ [.list (es.map fun p => .ss p.1)])
  | .mkd a, t, H, Q => ev ρ κ E a false H fun v H => n ≠ 0 ∧ ∃ i xs es, v = .rr i ∧ H[i]? = some (.list xs) ∧ prsOf xs = some es ∧ es.length ≤ 1000000 ∧ ∀ ep, fin t Q (.rr H.length) (H ++ [.dict (updAll es []) ep])
  | .itms a, t, H, Q => ev ρ κ E a false H fun v H => n ≠ 0 ∧ ∃ i es ep, v = .rr i ∧ H[i]? = some (.dict es ep) ∧ es.length ≤ 1000000 ∧ fin t Q (.rr H.length) (H ++ [.list (es.map fun p => .tt [.ss p.1, p.2])])
  | .jn ts m a, t, H, Q => n ≠ 0 ∧ ev ρ κ E a false H fun v H => ∃ (i : Nat) (ks : List Int), v = .rr i ∧ H[i]? = some (.list (ks.map .ii)) ∧ ks.length ≤ 1000 ∧ fin t Q (.ss (joinS [] (ks.map fun (k : Int) => ts.getD (k.fmod (m : Int)).toNat []))) H
def evL (ρ : Lo) (κ : List Nat) (E : PE) : XL → AH → (List V → AH → Prop) → Prop
  | .nil, H, Q => Q [] H
  | .cons x xs, H, Q => ev ρ κ E x false H fun v H => evL ρ κ E xs H fun vs H => Q (v :: vs) H
def evO (ρ : Lo) (κ : List Nat) (E : PE) : XO → AH → PV → Prop
  | .none, H, Q => Q .nn H
  | .some x, H, Q => ev ρ κ E x false H Q
/-- b: what goes on (True at «and», False at «or») -/
def evA (ρ : Lo) (κ : List Nat) (E : PE) (b : Bool) : XL → Bool → AH → PV → Prop
  | .nil, t, H, Q => match t with
    | false => False
    | true => Q (.bb b) H
  | .cons x xs, t, H, Q => match t with
    | false => match xs with
      | .nil => ev ρ κ E x false H Q
      | _ => ev ρ κ E x false H fun v H => truQ v H fun t => if t = b then evA ρ κ E b xs false H Q else Q v H
    | true => ev ρ κ E x true H fun v H => onB v fun t => if t = b then evA ρ κ E b xs true H Q else Q (.bb t) H
/-- the tests of a comprehension -/
def evT (ρ : Lo) (κ : List Nat) (E : PE) : XL → AH → (Bool → AH → Prop) → Prop
  | .nil, H, Q => Q true H
  | .cons x xs, H, Q => ev ρ κ E x true H fun v H => onB v fun t => if t then evT ρ κ E xs H Q else Q false H
end
def tst (ρ : Lo) (κ : List Nat) (E : PE) (x : X) (H : AH) (Q : Bool → AH → Prop) : Prop := ev S n ρ κ E x true H fun v H => onB v fun b => Q b H
end
end Mine
set_option maxRecDepth 10000
namespace Mine
open PySem PySem.Calls PyProof.Rows PySem.W
open PySem.StrLaws
open Builtin Builtin.Str

/-! ## Places of a sign -/
theorem idx_some {s : List Nat} {c i : Nat} (h : s[i]? = some c) (hn : ∀ k, k < i → s[k]? ≠ some c) : idxOf? s c = some i := by
  have key : ∀ (s : List Nat) (i : Nat), s[i]? = some c → (∀ k, k < i → s[k]? ≠ some c) → (s.takeWhile (· != c)).length = i := by
    intro s
    induction s with
    | nil => intro i h; simp at h
    | cons a s ih =>
      intro i h hn
      cases i with
      | zero =>
        have : a = c := by simpa using h
        subst this
        simp
      | succ i =>
        have h0 : a ≠ c := fun e => hn 0 (Nat.succ_pos _) (by simp [e])
        rw [List.takeWhile_cons_of_pos (by simpa using h0), List.length_cons, ih i (by simpa using h) fun k hk => by simpa using hn (k + 1) (by omega)]
  have hl := key s i h hn
  unfold idxOf?
  simp only [hl]
  rw [if_pos (List.getElem?_eq_some_iff.mp h).1]
theorem tw_all {α : Type} {p : α → Bool} : ∀ {l : List α}, (∀ a ∈ l, p a = true) → l.takeWhile p = l
  | [], _ => rfl
  | a :: l, h => by rw [List.takeWhile_cons_of_pos (h a List.mem_cons_self), tw_all fun b hb => h b (List.mem_cons_of_mem _ hb)]
theorem idx_none {s : List Nat} {c : Nat} (hn : ∀ k : Nat, s[k]? ≠ some c) : idxOf? s c = none := by
  have : s.takeWhile (· != c) = s := by
    refine tw_all fun a ha => ?_
    obtain ⟨k, hk⟩ := List.mem_iff_getElem?.mp ha
    simp only [bne_iff_ne, ne_eq]
    intro e
    exact hn k (e ▸ hk)
  unfold idxOf?
  rw [this]
  simp

theorem at_one (x : List Nat) (c i : Nat) : At (⟨x.toArray⟩ : PySem.Str) ⟨#[c]⟩ (⟨x.toArray⟩ : PySem.Str).length i ↔ x[i]? = some c := by
  have := subAt_one (⟨x.toArray⟩ : PySem.Str) c i
  simpa [At] using this

theorem find_eq (x : List Nat) (c : Nat) : (idxOf? x c = none ∧ occurrences (⟨x.toArray⟩ : PySem.Str) ⟨#[c]⟩ 0 (⟨x.toArray⟩ : PySem.Str).length 1 = []) ∨
    ∃ i r, idxOf? x c = some i ∧ occurrences (⟨x.toArray⟩ : PySem.Str) ⟨#[c]⟩ 0 (⟨x.toArray⟩ : PySem.Str).length 1 = i :: r := by
  rcases occ_head (⟨x.toArray⟩ : PySem.Str) ⟨#[c]⟩ 1 (Nat.le_refl _) with ⟨h, hn⟩ | ⟨i, r, h, hi, hn⟩
  · exact .inl ⟨idx_none fun k hk => hn k ((at_one x c k).mpr hk), h⟩
  · exact .inr ⟨i, r, idx_some ((at_one x c i).mp hi) fun k hk h2 => hn k hk ((at_one x c k).mpr h2), h⟩

theorem rindex_eq (x : List Nat) (c : Nat) {i : Nat} (h : rindexOf x c = some i) : lastOccurrence (⟨x.toArray⟩ : PySem.Str) ⟨#[c]⟩ 0 (⟨x.toArray⟩ : PySem.Str).length = some i := by
  rcases last_spec (⟨x.toArray⟩ : PySem.Str) ⟨#[c]⟩ with ⟨_, hn⟩ | ⟨j, h1, hj, hn⟩
  · exfalso
    have : idxOf? x.reverse c = none := idx_none fun k hk => by
      have hl := (List.getElem?_eq_some_iff.mp hk).1
      rw [List.getElem?_reverse (by simpa using hl)] at hk
      exact hn _ ((at_one x c _).mpr hk)
    unfold rindexOf at h
    rw [this] at h; cases h
  · have hj' := (at_one x c j).mp hj
    have hjl := (List.getElem?_eq_some_iff.mp hj').1
    have : idxOf? x.reverse c = some (x.length - 1 - j) := by
      refine idx_some ?_ fun k hk h2 => ?_
      · rw [List.getElem?_reverse (by omega)]
        rw [show x.length - 1 - (x.length - 1 - j) = j by omega]; exact hj'
      · have hl := (List.getElem?_eq_some_iff.mp h2).1
        rw [List.getElem?_reverse (by simpa using hl)] at h2
        exact hn (x.length - 1 - k) (by omega) ((at_one x c _).mpr h2)
    unfold rindexOf at h
    rw [this] at h
    simp only [Option.map_some, Option.some.injEq] at h
    rw [h1]
    congr 1
    omega

/-! ## Counting -/
theorem count_free {l : List Nat} {c a b : Nat} (h : ∀ k, a ≤ k → k < b → l[k]? ≠ some c) : ((l.drop a).take (b - a)).count c = 0 := by
  rw [List.count_eq_zero]
  intro hm
  obtain ⟨k, hk⟩ := List.mem_iff_getElem?.mp hm
  have hlt := (List.getElem?_eq_some_iff.mp hk).1
  have hk2 : k < b - a := by simp at hlt; omega
  rw [List.getElem?_take_of_lt hk2, List.getElem?_drop] at hk
  exact h (a + k) (by omega) (by omega) hk
theorem count_chain (x : List Nat) (c : Nat) : ∀ (cuts : List Nat) (a f : Nat), ChainG (⟨x.toArray⟩ : PySem.Str) ⟨#[c]⟩ (⟨x.toArray⟩ : PySem.Str).length a cuts f → (x.drop a).count c = cuts.length + (x.drop f).count c
  | [], a, f, h => by
    have e : f = a := h
    subst e; simp
  | i :: cuts, a, f, ⟨h1, h2, h3, h4⟩ => by
    have ih := count_chain x c cuts (i + 1) f h4
    have hi := (at_one x c i).mp h2
    have hl := (List.getElem?_eq_some_iff.mp hi).1
    have e1 : x.drop a = (x.drop a).take (i - a) ++ x.drop i := by
      conv => lhs; rw [← List.take_append_drop (i - a) (x.drop a)]
      rw [List.drop_drop, show a + (i - a) = i by omega]
    have e2 : x.drop i = c :: x.drop (i + 1) := by
      rw [List.drop_eq_getElem_cons hl]
      congr 1
      rw [List.getElem?_eq_getElem hl] at hi
      exact Option.some.inj hi
    rw [e1, List.count_append, count_free (fun k hk1 hk2 hk => h3 k hk1 hk2 ((at_one x c k).mpr hk)), e2, List.count_cons_self, ih, List.length_cons]
    omega
theorem count_eq (x : List Nat) (c : Nat) : Txt.count (⟨x.toArray⟩ : PySem.Str) ⟨#[c]⟩ = (x.count c : Int) := by
  obtain ⟨f, h, hn⟩ := occ_tight (⟨x.toArray⟩ : PySem.Str) ⟨#[c]⟩ (Nat.le_refl _)
  have := count_chain x c _ 0 f h
  rw [List.drop_zero] at this
  have h0 : (x.drop f).count c = 0 := by
    rw [List.count_eq_zero]
    intro hm
    obtain ⟨k, hk⟩ := List.mem_iff_getElem?.mp hm
    rw [List.getElem?_drop] at hk
    exact hn (f + k) (by omega) ((at_one x c _).mpr hk)
  unfold Txt.count
  rw [this, h0]; rfl

/-! ## Cutting at the ends -/
theorem contains_one (c : Nat) : (⟨#[c]⟩ : PySem.Str).cps.contains = (· == c) := by
  funext d
  simp [Array.contains]
theorem drop_tw {α : Type} (p : α → Bool) : ∀ l : List α, l.drop (l.takeWhile p).length = l.dropWhile p
  | [] => rfl
  | a :: l => by
    cases h : p a
    · rw [List.takeWhile_cons_of_neg (by simp [h]), List.dropWhile_cons_of_neg (by simp [h])]; rfl
    · rw [List.takeWhile_cons_of_pos h, List.dropWhile_cons_of_pos h, List.length_cons, List.drop_succ_cons, drop_tw p l]
theorem lstrip_eq (x : List Nat) (c : Nat) : (Txt.lstripChars (⟨x.toArray⟩ : PySem.Str) ⟨#[c]⟩).cps.toList = x.dropWhile (· == c) := by
  unfold Txt.lstripChars
  rw [PyProof.Rows.stripBy_eq, contains_one, strSub_toList]
  simp only [stripLo, stripHi, if_true, if_false, Bool.false_eq_true]
  rw [List.take_of_length_le (by simp [PySem.Str.length]), show (List.takeWhile (· == c) x.toArray.toList) = x.takeWhile (· == c) from rfl]
  exact drop_tw _ x
theorem rdrop_eq (p : Nat → Bool) (l : List Nat) : rdrop p l = l.take (l.length - (l.reverse.takeWhile p).length) := by
  unfold rdrop
  have h : l.reverse.dropWhile p = l.reverse.drop (l.reverse.takeWhile p).length := by
    conv => rhs; rw [show l.reverse = l.reverse.takeWhile p ++ l.reverse.dropWhile p from by simp]
    rw [List.drop_append]
    simp
  rw [h, List.drop_reverse, List.reverse_reverse]
theorem strip_eq (x : List Nat) (c : Nat) : (Txt.stripChars (⟨x.toArray⟩ : PySem.Str) ⟨#[c]⟩).cps.toList = rdrop (· == c) (x.dropWhile (· == c)) := by
  unfold Txt.stripChars
  rw [PyProof.Rows.stripBy_eq, contains_one, strSub_toList]
  simp only [stripLo, stripHi, if_true]
  have e : x.toArray.toList.drop (List.takeWhile (· == c) x.toArray.toList).length = x.dropWhile (· == c) := by
    exact drop_tw _ x
  rw [e, rdrop_eq]
  congr 1
  have hl : x.length = (x.takeWhile (· == c)).length + (x.dropWhile (· == c)).length := by
    conv => lhs; rw [← List.takeWhile_append_dropWhile (p := (· == c)) (l := x)]
    rw [List.length_append]
  have e2 : (⟨x.toArray⟩ : PySem.Str).length = x.length := by simp [PySem.Str.length]
  have e3 : (List.takeWhile (· == c) x.toArray.toList).length = (x.takeWhile (· == c)).length := rfl
  rw [e2, e3]
  omega

/-! ## Parting at two signs -/
theorem at_two (x : List Nat) (a b i : Nat) : At (⟨x.toArray⟩ : PySem.Str) ⟨#[a, b]⟩ (⟨x.toArray⟩ : PySem.Str).length i ↔ (x[i]? = some a ∧ x[i + 1]? = some b) := by
  unfold At
  rw [subAt_eq]
  have e : (⟨x.toArray⟩ : PySem.Str).length = x.length := by simp [PySem.Str.length]
  rw [e]
  show (i + 2 ≤ x.length ∧ ((x.drop i).take 2 == [a, b]) = true) ↔ _
  rw [beq_iff_eq]
  constructor
  · rintro ⟨h1, h2⟩
    have g : ∀ k, k < 2 → x[i + k]? = [a, b][k]? := fun k hk => by rw [← h2, List.getElem?_take_of_lt hk, List.getElem?_drop]
    exact ⟨by simpa using g 0 (by omega), by simpa using g 1 (by omega)⟩
  · rintro ⟨h1, h2⟩
    have l2 := (List.getElem?_eq_some_iff.mp h2).1
    refine ⟨by omega, ?_⟩
    have l1 : i < x.length := by omega
    rw [List.drop_eq_getElem_cons l1, List.drop_eq_getElem_cons l2]
    rw [List.getElem?_eq_getElem l1] at h1
    rw [List.getElem?_eq_getElem l2] at h2
    rw [Option.some.inj h1, Option.some.inj h2]
    rfl

theorem split2_ne : ∀ (l : List Nat) (a b : Nat), ∃ p ps, split2 l a b = p :: ps
  | [], _, _ => ⟨_, _, rfl⟩
  | [c], _, _ => ⟨_, _, rfl⟩
  | c :: d :: r, a, b => by
    unfold split2
    split
    · exact ⟨_, _, rfl⟩
    · split
      · exact ⟨_, _, rfl⟩
      · exact ⟨_, _, rfl⟩
/-- a sign that opens no mark -/
theorem split2_skip {c : Nat} {l : List Nat} {a b : Nat} (h : ¬ (c = a ∧ l[0]? = some b)) {p : List Nat} {ps : List (List Nat)} (e : split2 l a b = p :: ps) : split2 (c :: l) a b = (c :: p) :: ps := by
  cases l with
  | nil => unfold split2 at e; cases e; rfl
  | cons d r =>
    rw [split2, if_neg (by simpa using h), e]

theorem split2_free {a b : Nat} : ∀ {l : List Nat}, (∀ k : Nat, ¬ (l[k]? = some a ∧ l[k + 1]? = some b)) → split2 l a b = [l]
  | [], _ => rfl
  | c :: l, h => split2_skip (fun ⟨h1, h2⟩ => h 0 ⟨by simp [h1], by simpa using h2⟩) (split2_free fun k hk => h (k + 1) (by simpa using hk))

theorem split2_to {a b : Nat} : ∀ (n : Nat) (l : List Nat), (∀ k, k < n → ¬ (l[k]? = some a ∧ l[k + 1]? = some b)) → l[n]? = some a → l[n + 1]? = some b → split2 l a b = l.take n :: split2 (l.drop (n + 2)) a b
  | 0, l, _, h1, h2 => by
    match l, h1, h2 with
    | c :: d :: r, h1, h2 =>
      have e1 : c = a := by simpa using h1
      have e2 : d = b := by simpa using h2
      rw [split2, if_pos ⟨e1, e2⟩]; rfl
  | n + 1, l, hn, h1, h2 => by
    match l, h1, h2 with
    | c :: r, h1, h2 =>
      have ih := split2_to n r (fun k hk hk' => hn (k + 1) (by omega) (by simpa using hk')) (by simpa using h1) (by simpa using h2)
      rw [split2_skip (fun ⟨q1, q2⟩ => hn 0 (by omega) ⟨by simp [q1], by simpa using q2⟩) ih]
      rfl

theorem parts_chain (x : List Nat) (a b : Nat) : ∀ (cuts : List Nat) (p f : Nat), ChainG (⟨x.toArray⟩ : PySem.Str) ⟨#[a, b]⟩ (⟨x.toArray⟩ : PySem.Str).length p cuts f → (∀ k, f ≤ k → ¬ (x[k]? = some a ∧ x[k + 1]? = some b)) →
    (partsFrom (⟨x.toArray⟩ : PySem.Str) 2 p cuts).map (·.cps.toList) = split2 (x.drop p) a b
  | [], p, f, h, hn => by
    have e : f = p := h
    subst e
    rw [split2_free fun k hk => hn (f + k) (by omega) ⟨by simpa [List.getElem?_drop] using hk.1, by simpa [List.getElem?_drop, Nat.add_assoc] using hk.2⟩]
    simp only [partsFrom, List.map_cons, List.map_nil, strSub_toList]
    rw [List.take_of_length_le (by simp [PySem.Str.length])]
  | i :: cuts, p, f, ⟨h1, h2, h3, h4⟩, hn => by
    have ih := parts_chain x a b cuts (i + 2) f h4 hn
    obtain ⟨q1, q2⟩ := (at_two x a b i).mp h2
    rw [split2_to (i - p) (x.drop p) (fun k hk hk' => h3 (p + k) (by omega) (by omega) ((at_two x a b _).mpr ⟨by simpa [List.getElem?_drop] using hk'.1, by simpa [List.getElem?_drop, Nat.add_assoc] using hk'.2⟩))
      (by rw [List.getElem?_drop, show p + (i - p) = i by omega]; exact q1) (by rw [List.getElem?_drop, show p + (i - p + 1) = i + 1 by omega]; exact q2)]
    simp only [partsFrom, List.map_cons, strSub_toList]
    rw [ih, List.drop_drop, show p + (i - p + 2) = i + 2 by omega]

theorem between_eq (x : List Nat) (a b : Nat) : (partsBetween (⟨x.toArray⟩ : PySem.Str) (occurrences (⟨x.toArray⟩ : PySem.Str) ⟨#[a, b]⟩ 0 (⟨x.toArray⟩ : PySem.Str).length ((⟨x.toArray⟩ : PySem.Str).length + 1)) 2).map (·.cps.toList) = split2 x a b := by
  obtain ⟨f, h, hn⟩ := occ_tight (⟨x.toArray⟩ : PySem.Str) ⟨#[a, b]⟩ (by show 1 ≤ 2; omega)
  rw [partsBetween_eq, parts_chain x a b _ 0 f h fun k hk hk' => hn k hk ((at_two x a b k).mpr hk'), List.drop_zero]
theorem between_none {x : List Nat} {a b : Nat} (h : (occurrences (⟨x.toArray⟩ : PySem.Str) ⟨#[a, b]⟩ 0 (⟨x.toArray⟩ : PySem.Str).length ((⟨x.toArray⟩ : PySem.Str).length + 1)).isEmpty = true) : split2 x a b = [x] := by
  have := between_eq x a b
  rw [List.isEmpty_iff.mp h] at this
  rw [← this]
  simp [partsBetween, strSub_toList, PySem.Str.length]

theorem join_list (z : PySem.Str) : ∀ parts : List PySem.Str, (PySem.Str.join z parts).cps.toList = joinS z.cps.toList (parts.map (·.cps.toList))
  | [] => rfl
  | [x] => rfl
  | x :: y :: r => by
    have ih := join_list z (y :: r)
    show (x ++ z ++ PySem.Str.join z (y :: r)).cps.toList = _
    rw [PySem.Str.cps_append, PySem.Str.cps_append, Array.toList_append, Array.toList_append, ih]
    rfl

theorem rpl_eq (x : List Nat) (a b : Nat) (z : List Nat) : (Txt.replace ⟨x.toArray⟩ ⟨#[a, b]⟩ ⟨z.toArray⟩).cps.toList = joinS z (split2 x a b) := by
  have h20 : ((⟨#[a, b]⟩ : PySem.Str).length == 0) = false := rfl
  unfold Txt.replace
  rw [h20, Bool.false_and, Bool.or_false]
  split
  · rename_i h
    rw [between_none h]; rfl
  · rw [glued_eq_join, join_list]
    rw [show (⟨#[a, b]⟩ : PySem.Str).length = 2 from rfl, between_eq]

theorem split_eq (x : List Nat) (a b : Nat) (ha : a < 256) (hb : b < 256) : (Txt.split ⟨x.toArray⟩ ⟨#[a, b]⟩).map (·.cps.toList) = split2 x a b := by
  unfold Txt.split
  split
  · rename_i h
    rw [Bool.or_eq_true, decide_eq_true_eq, decide_eq_true_eq] at h
    have hno : ∀ k : Nat, ¬ (x[k]? = some a ∧ x[k + 1]? = some b) := by
      rintro k ⟨h1, h2⟩
      rcases h with h | h
      · have := (List.getElem?_eq_some_iff.mp h2).1
        have h' : x.length < 2 := by simpa [PySem.Str.length] using h
        omega
      · have h1 : Builtin.Str.strKind (⟨#[a, b]⟩ : PySem.Str) = 1 := by
          unfold Builtin.Str.strKind
          rw [if_pos (by simp [ha, hb])]
        rw [h1] at h
        have h2 : 1 ≤ Builtin.Str.strKind (⟨x.toArray⟩ : PySem.Str) := by
          unfold Builtin.Str.strKind; split
          · omega
          · split <;> omega
        omega
    rw [split2_free hno]; rfl
  · split
    · rename_i h
      rw [between_none h]; rfl
    · rw [show (⟨#[a, b]⟩ : PySem.Str).length = 2 from rfl, between_eq]

theorem lower_eq (c : Nat) (h : c < 128) : Txt.lower ⟨#[c]⟩ = ⟨#[asciiLow c]⟩ := by
  have key : ∀ c : Fin 128, Txt.lower ⟨#[c.val]⟩ = ⟨#[asciiLow c.val]⟩ := by decide +kernel
  exact key ⟨c, h⟩
end Mine
set_option maxRecDepth 10000
namespace Mine
open PySem PySem.Calls PyProof.Rows PySem.W

/-! ## Frame, cells and heap together -/
structure At (S : Sx) (A : Around) (F env : Env) (L : Addr) (Γ : FC) (n : Nat) (μ : List Addr) (ρ : Lo) (κ : List Nat) (H : AH) (s : Shared) : Prop where
  fl : F.frame = some L
  ar : AR S A F n s.heap
  fr : FR S Γ env F μ ρ κ s.heap
  g : Good S μ H s
  pos : (∃ (i : Nat) (v : V), ρ[i]? = some (some v)) → 0 < s.toks

theorem At.grow {S : Sx} {A : Around} {F env : Env} {L : Addr} {Γ : FC} {n : Nat} {μ μ' : List Addr} {ρ : Lo} {κ : List Nat} {H H' : AH} {s s' : Shared}
    (x : At S A F env L Γ n μ ρ κ H s) (gr : Grow S [] μ μ' s s') (g' : Good S μ' H' s') : At S A F env L Γ n μ' ρ κ H' s' :=
  ⟨x.fl, x.ar.grow x.g.sr gr, x.fr.grow x.g.sr gr, g', fun h => Nat.lt_of_lt_of_le (x.pos h) gr.tok⟩
theorem At.ac {S : Sx} {A : Around} {F env : Env} {L : Addr} {Γ : FC} {n : Nat} {μ : List Addr} {ρ : Lo} {κ : List Nat} {H : AH} {s : Shared}
    (x : At S A F env L Γ n μ ρ κ H s) : AC S A n s.heap :=
  ⟨let ⟨out, a, b⟩ := x.ar.frames; ⟨_, a, b⟩, x.ar.depth, x.ar.units, x.ar.hand⟩

def PostG {α β : Type} (S : Sx) (R : List Addr → Heap → β → α → Prop) (μ : List Addr) (s : Shared) (Q : β → AH → Prop) : α → Shared → Prop := fun v s' =>
  ∃ μ' H' b, Grow S [] μ μ' s s' ∧ Good S μ' H' s' ∧ R μ' s'.heap b v ∧ Q b H'
abbrev PostL (S : Sx) := PostG S (VRs S)
abbrev PostB (S : Sx) := PostG S (fun _ _ (b : Bool) (c : Bool) => c = b)

section
variable {S : Sx} {A : Around} {μ μ' μ₁ : List Addr} {s s₁ : Shared} {H H₁ : AH} {P : Option Value → Prop} {E : PE}

theorem PostG.pre {α β : Type} {R : List Addr → Heap → β → α → Prop} {Q : β → AH → Prop} (gr : Grow S [] μ μ₁ s s₁) {v : α} {s' : Shared} (x : PostG S R μ₁ s₁ Q v s') : PostG S R μ s Q v s' :=
  let ⟨a, b, c, d, e, f, g⟩ := x; ⟨a, b, c, gr.trans d, e, f, g⟩
theorem PostV.pre {Q : PV} (gr : Grow S [] μ μ₁ s s₁) {v : Value} {s' : Shared} (x : PostV S μ₁ s₁ Q v s') : PostV S μ s Q v s' :=
  let ⟨a, b, c, d, e, f, g⟩ := x; ⟨a, b, c, gr.trans d, e, f, g⟩
theorem PostE.pre (gr : Grow S [] μ μ₁ s s₁) {v : Value} {s' : Shared} (x : PostE S μ₁ s₁ P E v s') : PostE S μ s P E v s' :=
  let ⟨a, b, c, d, e, f, g⟩ := x; ⟨a, b, c, d, gr.trans e, f, g⟩
theorem PostE.imp {P P' : Option Value → Prop} (h : ∀ st, P st → P' st) {v : Value} {s' : Shared} (x : PostE S μ s P E v s') : PostE S μ s P' E v s' :=
  let ⟨a, b, c, d, e, f, g, k, l, m⟩ := x; ⟨a, b, c, d, e, f, g, k, l.imp h, m⟩

theorem bindG {M : Model} {α β γ : Type} {R : List Addr → Heap → β → α → Prop} {Q : β → AH → Prop} {m : Sem α} {f : α → Sem γ} {P2 : List Addr → Shared → γ → Shared → Prop}
    (hpre : ∀ μ₁ s₁ v s', Grow S [] μ μ₁ s s₁ → P2 μ₁ s₁ v s' → P2 μ s v s')
    (h : wpAny M A m (PostG S R μ s Q) (PostE S μ s P E) s)
    (k : ∀ v b μ₁ s₁ H₁, Grow S [] μ μ₁ s s₁ → Good S μ₁ H₁ s₁ → R μ₁ s₁.heap b v → Q b H₁ → wpAny M A (f v) (P2 μ₁ s₁) (PostE S μ₁ s₁ P E) s₁) :
    wpAny M A (m >>= f) (P2 μ s) (PostE S μ s P E) s :=
  wpAny_bind (wpAny_mono h (fun v s₁ ⟨μ₁, H₁, b, g1, g2, r, q⟩ => wpAny_mono (k v b μ₁ s₁ H₁ g1 g2 r q) (fun v s' x => hpre μ₁ s₁ v s' g1 x) fun _ _ x => x.pre g1) fun _ _ x => x)
theorem bindV {M : Model} {Q Q' : PV} {m : Sem Value} {f : Value → Sem Value}
    (h : wpAny M A m (PostV S μ s Q) (PostE S μ s P E) s)
    (k : ∀ v b μ₁ s₁ H₁, Grow S [] μ μ₁ s s₁ → Good S μ₁ H₁ s₁ → VR S μ₁ s₁.heap b v → Q b H₁ → wpAny M A (f v) (PostV S μ₁ s₁ Q') (PostE S μ₁ s₁ P E) s₁) :
    wpAny M A (m >>= f) (PostV S μ s Q') (PostE S μ s P E) s :=
  bindG (R := VR S) (P2 := fun μ s => PostV S μ s Q') (fun _ _ _ _ g x => x.pre g) h k
theorem bindVG {M : Model} {Q : PV} {α β : Type} {R : List Addr → Heap → β → α → Prop} {Q' : β → AH → Prop} {m : Sem Value} {f : Value → Sem α}
    (h : wpAny M A m (PostV S μ s Q) (PostE S μ s P E) s)
    (k : ∀ v b μ₁ s₁ H₁, Grow S [] μ μ₁ s s₁ → Good S μ₁ H₁ s₁ → VR S μ₁ s₁.heap b v → Q b H₁ → wpAny M A (f v) (PostG S R μ₁ s₁ Q') (PostE S μ₁ s₁ P E) s₁) :
    wpAny M A (m >>= f) (PostG S R μ s Q') (PostE S μ s P E) s :=
  bindG (R := VR S) (P2 := fun μ s => PostG S R μ s Q') (fun _ _ _ _ g x => x.pre g) h k

/-- the same, nested -/
theorem nest {M : Model} {α β γ : Type} {R : List Addr → Heap → β → α → Prop} {Q : β → AH → Prop} {m : Sem α} {f : α → Sem γ} {P2 : List Addr → Shared → γ → Shared → Prop}
    (hpre : ∀ μ₁ s₁ v s', Grow S [] μ μ₁ s s₁ → P2 μ₁ s₁ v s' → P2 μ s v s')
    (h : wpAny M A m (PostG S R μ s Q) (PostE S μ s P E) s)
    (k : ∀ v b μ₁ s₁ H₁, Grow S [] μ μ₁ s s₁ → Good S μ₁ H₁ s₁ → R μ₁ s₁.heap b v → Q b H₁ → wpAny M A (f v) (P2 μ₁ s₁) (PostE S μ₁ s₁ P E) s₁) :
    wpAny M A m (fun v s₁ => wpAny M A (f v) (P2 μ s) (PostE S μ s P E) s₁) (PostE S μ s P E) s :=
  wpAny_mono h (fun v s₁ ⟨μ₁, H₁, b, g1, g2, r, q⟩ => wpAny_mono (k v b μ₁ s₁ H₁ g1 g2 r q) (fun v s' x => hpre μ₁ s₁ v s' g1 x) fun _ _ x => x.pre g1) fun _ _ x => x
theorem nestV {M : Model} {Q Q' : PV} {m : Sem Value} {f : Value → Sem Value}
    (h : wpAny M A m (PostV S μ s Q) (PostE S μ s P E) s)
    (k : ∀ v b μ₁ s₁ H₁, Grow S [] μ μ₁ s s₁ → Good S μ₁ H₁ s₁ → VR S μ₁ s₁.heap b v → Q b H₁ → wpAny M A (f v) (PostV S μ₁ s₁ Q') (PostE S μ₁ s₁ P E) s₁) :
    wpAny M A m (fun v s₁ => wpAny M A (f v) (PostV S μ s Q') (PostE S μ s P E) s₁) (PostE S μ s P E) s :=
  nest (R := VR S) (P2 := fun μ s => PostV S μ s Q') (fun _ _ _ _ g x => x.pre g) h k
/-- two values, then what is made of them -/
theorem nest2 {M : Model} {Q₁ Q' : PV} {Q₂ : V → PV} {m₁ m₂ : Sem Value} {f : Value → Value → Sem Value}
    (h₁ : wpAny M A m₁ (PostV S μ s Q₁) (PostE S μ s P E) s)
    (h₂ : ∀ a va μ₁ s₁ H₁, Grow S [] μ μ₁ s s₁ → Good S μ₁ H₁ s₁ → VR S μ₁ s₁.heap va a → Q₁ va H₁ → wpAny M A m₂ (PostV S μ₁ s₁ (Q₂ va)) (PostE S μ₁ s₁ P E) s₁)
    (k : ∀ a b va vb μ₁ s₁ H₁, Grow S [] μ μ₁ s s₁ → Good S μ₁ H₁ s₁ → VR S μ₁ s₁.heap va a → VR S μ₁ s₁.heap vb b → Q₂ va vb H₁ → wpAny M A (f a b) (PostV S μ₁ s₁ Q') (PostE S μ₁ s₁ P E) s₁) :
    wpAny M A m₁ (fun a s₁ => wpAny M A m₂ (fun b s₂ => wpAny M A (f a b) (PostV S μ s Q') (PostE S μ s P E) s₂) (PostE S μ s P E) s₁) (PostE S μ s P E) s := by
  refine wpAny_mono h₁ (fun a s₁ ⟨μ₁, H₁, va, g1, g2, r, q⟩ => ?_) fun _ _ x => x
  refine wpAny_mono (h₂ a va μ₁ s₁ H₁ g1 g2 r q) (fun b s₂ ⟨μ₂, H₂, vb, g3, g4, r2, q2⟩ => ?_) fun _ _ x => x.pre g1
  exact wpAny_mono (k a b va vb μ₂ s₂ H₂ (g1.trans g3) g4 (r.mono S (g3.mono g2.sr (by simp))) r2 q2) (fun v s' x => x.pre (g1.trans g3)) fun _ _ x => x.pre (g1.trans g3)

theorem noErr {M : Model} {m : Sem Value} {Q : Value → Shared → Prop} {E : Value → Shared → Prop} (h : ∀ E', wpAny M A m Q E' s) : wpAny M A m Q E s := h E

theorem VR.grow {v : V} {c : Value} (g : Good S μ H s) (gr : Grow S [] μ μ₁ s s₁) (x : VR S μ s.heap v c) : VR S μ₁ s₁.heap v c := x.mono S (gr.mono g.sr (by simp))
theorem VRs.grow {v : List V} {c : List Value} (g : Good S μ H s) (gr : Grow S [] μ μ₁ s s₁) (x : VRs S μ s.heap v c) : VRs S μ₁ s₁.heap v c := x.mono S (gr.mono g.sr (by simp))
end

/-! ## Truth after a value -/
theorem truthy_post {S : Sx} {A : Around} {E : Value → Shared → Prop} {μ : List Addr} {H : AH} {s : Shared} (g : Good S μ H s) {v : V} {c : Value} {Q : Bool → AH → Prop} (r : VR S μ s.heap v c) (h : truQ v H fun b => Q b H) :
    wpAny (model S.prog S.w) A (truthy c) (PostB S μ s Q) E s :=
  wpAny_mono (truQ_sound g r h) (fun b s' ⟨⟨t, ht, e⟩, q⟩ => by subst e; exact ⟨μ, H, b, .toks t ht, g.toks t, rfl, q⟩) fun _ _ x => x

/-- the truth of a value, or the value -/
def outV (t : Bool) (e : Expr) (env : Env) : Sem Value := match t with
  | false => eval e env
  | true => do let b ← isTrue e env (eval e env); pure (.bool b)

theorem isTrue_plain {M : Model} {A : Around} {E : Value → Shared → Prop} {s : Shared} {env : Env} {e : Expr} {Q : Value → Shared → Prop} (hn : match e with | .UnaryOp .Not _ _ | .BoolOp .. | .IfExp .. | .Compare .. => False | _ => True)
    (h : wpAny M A (eval e env) (fun v s' => wpAny M A (truthy v) (fun b => Q (.bool b)) E s') E s) : wpAny M A (outV true e env) Q E s := by
  unfold outV
  have key : ∀ whole : Sem Value, wpAny M A whole (fun v s' => wpAny M A (truthy v) (fun b => Q (.bool b)) E s') E s → wpAny M A (isTrue e env whole >>= fun b => pure (Value.bool b)) Q E s := by
    intro whole h
    refine wpAny_bind ?_
    have : isTrue e env whole = (do let v ← whole; standAt e.pos; holding [v] (truthy v)) := by
      cases e <;> first | rfl | (exact hn.elim) | (rename_i op _ _; cases op <;> first | rfl | exact hn.elim)
    rw [this]
    refine wpAny_bind (wpAny_mono h (fun v s' q => ?_) fun _ _ x => x)
    exact wpAny_bind (wpAny_standAt (wpAny_holding (wpAny_mono q (fun _ _ r => wpAny_pure r) fun _ _ x => x)))
  exact key _ h

/-- a value, or its truth: the plain forms -/
theorem fin_plain {S : Sx} {A : Around} {μ : List Addr} {s : Shared} {P : Option Value → Prop} {E : PE} {env : Env} {e : Expr} {Q : PV} (t : Bool)
    (hn : match e with | .UnaryOp .Not _ _ | .BoolOp .. | .IfExp .. | .Compare .. => False | _ => True)
    (h : wpAny (model S.prog S.w) A (eval e env) (PostV S μ s (fin t Q)) (PostE S μ s P E) s) : wpAny (model S.prog S.w) A (outV t e env) (PostV S μ s Q) (PostE S μ s P E) s := by
  cases t with
  | false => exact h
  | true =>
    refine isTrue_plain hn (wpAny_mono h (fun v s' ⟨μ', H', b, gr, g, r, q⟩ => ?_) fun _ _ x => x)
    refine wpAny_mono (truthy_post (Q := fun b H => Q (.bb b) H) g r q) (fun b s'' ⟨μ2, H2, c, gr2, g2, e2, q2⟩ => ?_) fun _ _ x => x
    subst e2
    exact ⟨μ2, H2, .bb b, gr.trans gr2, g2, .bb, q2⟩
end Mine
set_option maxRecDepth 10000
namespace Mine
open PySem PySem.Calls PyProof.Rows PySem.W

section
variable {S : Sx} {A : Around} {F env : Env} {L : Addr} {Γ : FC} {n : Nat}

/-- an expression does what its mini text says -/
def EvOk (S : Sx) (A : Around) (F : Env) (L : Addr) (n : Nat) (Γ : FC) (env : Env) (x : X) (e : Expr) : Prop :=
  ∀ (t : Bool) (H : AH) (Q : PV) (E : PE) (μ : List Addr) (ρ : Lo) (κ : List Nat) (s : Shared), At S A F env L Γ n μ ρ κ H s → ev S n ρ κ E x t H Q →
    wpAny (model S.prog S.w) A (outV t e env) (PostV S μ s Q) (PostE S μ s (here L) E) s
def EvLOk (S : Sx) (A : Around) (F : Env) (L : Addr) (n : Nat) (Γ : FC) (env : Env) (xs : XL) (es : List Expr) : Prop :=
  ∀ (pos : Pos) (H : AH) (Q : List V → AH → Prop) (E : PE) (μ : List Addr) (ρ : Lo) (κ : List Nat) (s : Shared), At S A F env L Γ n μ ρ κ H s → evL S n ρ κ E xs H Q →
    wpAny (model S.prog S.w) A (spliced (backTo pos (starEach es env))) (PostL S μ s Q) (PostE S μ s (here L) E) s

theorem EvOk.val {x : X} {e : Expr} (h : EvOk S A F L n Γ env x e) {H : AH} {Q : PV} {E : PE} {μ : List Addr} {ρ : Lo} {κ : List Nat} {s : Shared} (a : At S A F env L Γ n μ ρ κ H s) (q : ev S n ρ κ E x false H Q) :
    wpAny (model S.prog S.w) A (eval e env) (PostV S μ s Q) (PostE S μ s (here L) E) s := h false H Q E μ ρ κ s a q

theorem here_none {L : Addr} {st : Option Value} (h : st = some .none) : here L st := .inr (.inl h)

/-! names -/
theorem kindOf_eq {μ : List Addr} {ρ : Lo} {κ : List Nat} {H : AH} {s : Shared} (a : At S A F env L Γ n μ ρ κ H s) (x : Str) : env.kindOf x = Γ.kind x := by
  unfold Env.kindOf FC.kind; rw [a.fr.names]

theorem ok_loc {i : Nat} {x : Str} {p : Pos} (h1 : Γ.vars[i]? = some x) (h2 : Γ.kind x = some .local) (hd : (x == ("__debug__" : Str)) = false) : EvOk S A F L n Γ env (.loc i) (.Name x p) := by
  intro t H Q E μ ρ κ s a q
  refine fin_plain t trivial ?_
  rw [ev] at q
  obtain ⟨v, e, q⟩ := q
  obtain ⟨m, hn, hv⟩ := a.fr.ns
  have hx := hv i x h1
  rw [List.getD_eq_getElem?_getD, e] at hx
  obtain ⟨c, hc, r⟩ := hx
  exact wpAny_Name (wpAny_loadName_local a.fr.kind ((kindOf_eq a x).trans h2) hn hc (.here a.g r q)) hd

theorem ok_cel {i : Nat} {x : Str} {p : Pos} (h1 : Γ.cn[i]? = some x) (h2 : Γ.kind x = some .cell ∨ Γ.kind x = some .free) (hd : (x == ("__debug__" : Str)) = false) (hcd : (x == ("__classdict__" : Str)) = false) :
    EvOk S A F L n Γ env (.cel i) (.Name x p) := by
  intro t H Q E μ ρ κ s a q
  refine fin_plain t trivial ?_
  rw [ev] at q
  obtain ⟨j, v, e1, e2, q⟩ := q
  obtain ⟨j', c, k1, k2, k3⟩ := a.fr.cel i x h1
  rw [e1] at k1; cases k1
  obtain ⟨_, cv, e3, r⟩ := a.g.sr.obj j _ c e2 k3
  obtain ⟨w, rfl, r⟩ := r
  have hc : s.heap.IsCell c (some w) := ⟨_, e3, rfl⟩
  rcases h2 with h2 | h2
  · exact wpAny_Name (wpAny_loadName_cell a.fr.kind ((kindOf_eq a x).trans h2) k2 hc (.here a.g r q)) hd
  · exact wpAny_Name (wpAny_loadName_free a.fr.kind ((kindOf_eq a x).trans h2) k2 hc (.here a.g r q) hcd) hd

theorem ns_stays {b h : Heap} {a : Addr} {m : Str → Option Value} (x : b.Ns a m) (k : b.StaysIn h) : h.Ns a m := by
  obtain ⟨o, es, ep, e, r⟩ := x
  exact ⟨o, es, ep, k _ _ e, r⟩

theorem load_name {x : Str} {v : Value} {μ : List Addr} {H : AH} {ρ : Lo} {κ : List Nat} {s : Shared} {Q : Value → Shared → Prop} {E : Value → Shared → Prop} (SVS : SV S) (a : At S A F env L Γ n μ ρ κ H s)
    (h : S.mg x = some v ∨ (S.mg x = none ∧ S.mb x = some v)) (q : Q v s) : wpAny (model S.prog S.w) A (loadGlobal env x) Q E s := by
  have hg : s.heap.Ns env.globals S.mg := by rw [a.fr.glo]; exact ns_stays SVS.g a.g.inv.stay
  have hb : s.heap.Ns env.builtins S.mb := by rw [a.fr.blt]; exact ns_stays SVS.b a.g.inv.stay
  rcases h with h | ⟨h1, h2⟩
  · exact loadGlobal_global hg h q
  · exact loadGlobal_builtin hg h1 hb h2 q

theorem ok_glob (SVS : SV S) {k : Nat} {x : Str} {p : Pos} (h1 : S.gname k = x) (h2 : Γ.kind x = some .globalImplicit) (hd : (x == ("__debug__" : Str)) = false) (hne : x.cps.isEmpty = false) : EvOk S A F L n Γ env (.glob k) (.Name x p) := by
  intro t H Q E μ ρ κ s a q
  refine fin_plain t trivial ?_
  rw [ev] at q
  subst h1
  refine Name_function_global a.fr.kind ((kindOf_eq a _).trans h2) (load_name SVS a (SVS.glob k hne) ?_) hd
  split at q
  · rename_i y hy
    obtain ⟨u, e⟩ := SVS.gs k y hy
    rw [e]; exact .here a.g .ss q
  · exact .here a.g .gg q

/-! constants -/
theorem ok_nn {k : Nat} {p : Pos} : EvOk S A F L n Γ env .nn (.Constant .none k p) := by
  intro t H Q E μ ρ κ s a q
  refine fin_plain t trivial ?_
  rw [ev] at q
  exact wpAny_Constant_none (.here a.g .nn q)
theorem ok_bb {b : Bool} {k : Nat} {p : Pos} : EvOk S A F L n Γ env (.bb b) (.Constant (.bool b) k p) := by
  intro t H Q E μ ρ κ s a q
  refine fin_plain t trivial ?_
  rw [ev] at q
  exact wpAny_Constant_bool (.here a.g .bb q)
theorem ok_ii {i : Int} {k : Nat} {p : Pos} : EvOk S A F L n Γ env (.ii i) (.Constant (.int i) k p) := by
  intro t H Q E μ ρ κ s a q
  refine fin_plain t trivial ?_
  rw [ev] at q
  exact wpAny_Constant_int (.int a.g _ q)
theorem ok_ss {x : List Nat} {k : Nat} {p : Pos} : EvOk S A F L n Γ env (.ss x) (.Constant (.str ⟨x.toArray⟩) k p) := by
  intro t H Q E μ ρ κ s a q
  refine fin_plain t trivial ?_
  rw [ev] at q
  exact PySem.wpAny_Constant_str (.str a.g _ q)

/-! operations -/
theorem ok_bin {op : Operator} {x y : X} {l r : Expr} {p : Pos} (hx : EvOk S A F L n Γ env x l) (hy : EvOk S A F L n Γ env y r) : EvOk S A F L n Γ env (.bin op x y) (.BinOp l op r p) := by
  intro t H Q E μ ρ κ s a q
  refine fin_plain t trivial ?_
  rw [ev] at q
  refine wpAny_BinOp (nest2 (hx.val a q) (fun c vc μ₁ s₁ H₁ gr g _ q => hy.val (a.grow gr g) q) fun c d vc vd μ₁ s₁ H₁ gr g r1 r2 q => ?_)
  exact binQ_sound g r1 r2 q

theorem neg_int {i : Int} {t : Tok} {s : Shared} {A : Around} {Q : Value → Shared → Prop} {E : Value → Shared → Prop} (h : Q (.int (-i) s.toks) { s with toks := s.toks + 1 }) : wpAny (model S.prog S.w) A (unaryOp .USub (.int i t)) Q E s := by
  first | exact PyProof.Rows.neg_int h | exact P.neg_int h | exact usub_int h

theorem ok_neg {x : X} {l : Expr} {p : Pos} (hx : EvOk S A F L n Γ env x l) : EvOk S A F L n Γ env (.neg x) (.UnaryOp .USub l p) := by
  intro t H Q E μ ρ κ s a q
  refine fin_plain t trivial ?_
  rw [ev] at q
  refine wpAny_UnaryOp (nestV (hx.val a q) fun c vc μ₁ s₁ H₁ gr g r q => ?_)
  obtain ⟨i, rfl, q⟩ := q
  obtain ⟨u, rfl⟩ := r.ii_inv
  exact neg_int (.int g _ q)

end
end Mine
set_option maxRecDepth 10000
namespace Mine
open PySem PySem.Calls PyProof.Rows PySem.W

section
variable {S : Sx} {A : Around} {E : Value → Shared → Prop} {μ : List Addr} {H : AH} {s : Shared} {Q : PV}

theorem isiQ_sound (g : Good S μ H s) {v : V} {c : Value} {t : Ty} (r : VR S μ s.heap v c) (h : isiQ v t H Q) :
    wpAny (model S.prog S.w) A (call (.builtin "isinstance") [c, t.val]) (PostV S μ s Q) E s := by
  obtain ⟨ok, h⟩ := h
  have yes : ∀ {b : Bool} {k : Nat}, isTy H v t = b → s.toks ≤ k → PostV S μ s Q (.bool b) { s with toks := k } := fun e hk => .tok g _ (by rw [VR]) (e ▸ h) hk
  have yes' : ∀ {b : Bool}, isTy H v t = b → PostV S μ s Q (.bool b) s := fun e => .here g (by rw [VR]) (e ▸ h)
  cases v with
  | nn =>
    rw [r.nn_inv]
    cases t
    · first | exact IsiPair.NoneType_bool (yes rfl (Nat.le_succ _)) | exact IsiPair.NoneType_bool (yes' rfl)
    · first | exact IsiPair.NoneType_int (yes rfl (Nat.le_succ _)) | exact IsiPair.NoneType_int (yes' rfl)
    · first | exact IsiPair.NoneType_str (yes rfl (Nat.le_succ _)) | exact IsiPair.NoneType_str (yes' rfl)
    · first | exact IsiPair.NoneType_list (yes rfl (Nat.le_succ _)) | exact IsiPair.NoneType_list (yes' rfl)
    · first | exact IsiPair.NoneType_dict (yes rfl (Nat.le_succ _)) | exact IsiPair.NoneType_dict (yes' rfl)
  | bb b =>
    rw [r.bb_inv]
    cases t
    · first | exact IsiPair.bool_bool (yes rfl (Nat.le_succ _)) | exact IsiPair.bool_bool (yes' rfl)
    · first | exact IsiPair.bool_int (yes rfl (Nat.le_succ _)) | exact IsiPair.bool_int (yes' rfl)
    · first | exact IsiPair.bool_str (yes rfl (Nat.le_succ _)) | exact IsiPair.bool_str (yes' rfl)
    · first | exact IsiPair.bool_list (yes rfl (Nat.le_succ _)) | exact IsiPair.bool_list (yes' rfl)
    · first | exact IsiPair.bool_dict (yes rfl (Nat.le_succ _)) | exact IsiPair.bool_dict (yes' rfl)
  | ii i =>
    obtain ⟨u, rfl⟩ := r.ii_inv
    cases t
    · first | exact IsiPair.int_bool (yes rfl (Nat.le_succ _)) | exact IsiPair.int_bool (yes' rfl)
    · first | exact IsiPair.int_int (yes rfl (Nat.le_succ _)) | exact IsiPair.int_int (yes' rfl)
    · first | exact IsiPair.int_str (yes rfl (Nat.le_succ _)) | exact IsiPair.int_str (yes' rfl)
    · first | exact IsiPair.int_list (yes rfl (Nat.le_succ _)) | exact IsiPair.int_list (yes' rfl)
    · first | exact IsiPair.int_dict (yes rfl (Nat.le_succ _)) | exact IsiPair.int_dict (yes' rfl)
  | ss x =>
    obtain ⟨u, rfl⟩ := r.ss_inv
    cases t
    · first | exact IsiPair.str_bool (yes rfl (Nat.le_succ _)) | exact IsiPair.str_bool (yes' rfl)
    · first | exact IsiPair.str_int (yes rfl (Nat.le_succ _)) | exact IsiPair.str_int (yes' rfl)
    · first | exact IsiPair.str_str (yes rfl (Nat.le_succ _)) | exact IsiPair.str_str (yes' rfl)
    · first | exact IsiPair.str_list (yes rfl (Nat.le_succ _)) | exact IsiPair.str_list (yes' rfl)
    · first | exact IsiPair.str_dict (yes rfl (Nat.le_succ _)) | exact IsiPair.str_dict (yes' rfl)
  | tt xs =>
    obtain ⟨a, cs, rfl, ⟨o, e, hc, _⟩, _⟩ := r.tt_inv
    cases t
    · first | exact IsiPair.tuple_bool e hc (yes rfl (Nat.le_succ _)) | exact IsiPair.tuple_bool e hc (yes' rfl)
    · first | exact IsiPair.tuple_int e hc (yes rfl (Nat.le_succ _)) | exact IsiPair.tuple_int e hc (yes' rfl)
    · first | exact IsiPair.tuple_str e hc (yes rfl (Nat.le_succ _)) | exact IsiPair.tuple_str e hc (yes' rfl)
    · first | exact IsiPair.tuple_list e hc (yes rfl (Nat.le_succ _)) | exact IsiPair.tuple_list e hc (yes' rfl)
    · first | exact IsiPair.tuple_dict e hc (yes rfl (Nat.le_succ _)) | exact IsiPair.tuple_dict e hc (yes' rfl)
  | rr i =>
    obtain ⟨a, rfl, m⟩ := r.rr_inv
    rcases ok with ok | ok
    · obtain ⟨xs, hx⟩ := Option.isSome_iff_exists.mp ok
      have nd : getD' H i = none := by
        unfold getL at hx; unfold getD'
        split at hx <;> first | (rename_i q; rw [q]) | cases hx
      obtain ⟨cs, ⟨o, e, hc, _⟩, _⟩ := OR.isList g hx m
      cases t
      · first | exact IsiPair.list_bool e hc (yes (by simp [isTy, ok, nd]) (Nat.le_succ _)) | exact IsiPair.list_bool e hc (yes' (by simp [isTy, ok, nd]))
      · first | exact IsiPair.list_int e hc (yes (by simp [isTy, ok, nd]) (Nat.le_succ _)) | exact IsiPair.list_int e hc (yes' (by simp [isTy, ok, nd]))
      · first | exact IsiPair.list_str e hc (yes (by simp [isTy, ok, nd]) (Nat.le_succ _)) | exact IsiPair.list_str e hc (yes' (by simp [isTy, ok, nd]))
      · first | exact IsiPair.list_list e hc (yes (by simp [isTy, ok, nd]) (Nat.le_succ _)) | exact IsiPair.list_list e hc (yes' (by simp [isTy, ok, nd]))
      · first | exact IsiPair.list_dict e hc (yes (by simp [isTy, ok, nd]) (Nat.le_succ _)) | exact IsiPair.list_dict e hc (yes' (by simp [isTy, ok, nd]))
    · obtain ⟨es, hx⟩ := Option.isSome_iff_exists.mp ok
      have nd : getL H i = none := by
        unfold getD' at hx; unfold getL
        split at hx <;> first | (rename_i q; rw [q]) | cases hx
      obtain ⟨_, kvs, ep, ⟨o, es', e, hc, _⟩, _⟩ := OR.isDict g hx m
      have hc := hc.1
      cases t
      · first | exact IsiPair.dict_bool e hc (yes (by simp [isTy, ok, nd]) (Nat.le_succ _)) | exact IsiPair.dict_bool e hc (yes' (by simp [isTy, ok, nd]))
      · first | exact IsiPair.dict_int e hc (yes (by simp [isTy, ok, nd]) (Nat.le_succ _)) | exact IsiPair.dict_int e hc (yes' (by simp [isTy, ok, nd]))
      · first | exact IsiPair.dict_str e hc (yes (by simp [isTy, ok, nd]) (Nat.le_succ _)) | exact IsiPair.dict_str e hc (yes' (by simp [isTy, ok, nd]))
      · first | exact IsiPair.dict_list e hc (yes (by simp [isTy, ok, nd]) (Nat.le_succ _)) | exact IsiPair.dict_list e hc (yes' (by simp [isTy, ok, nd]))
      · first | exact IsiPair.dict_dict e hc (yes (by simp [isTy, ok, nd]) (Nat.le_succ _)) | exact IsiPair.dict_dict e hc (yes' (by simp [isTy, ok, nd]))
  | gg k => exact ok.elim
  | rg a b => exact ok.elim
end
end Mine
set_option maxRecDepth 10000
namespace Mine
open PySem PySem.Calls PyProof.Rows PySem.W

section
variable {S : Sx} {A : Around} {F env : Env} {L : Addr} {Γ : FC} {n : Nat}

theorem markedNo {op : CmpOp} {r : Expr} {t : Sem Value} (h : behindInMarks op r = false) : markedBehindIn op r t = t := markedBehindIn_of_false h

theorem ok_cmp (SVS : SV S) {op : CmpOp} {x y : X} {l r : Expr} {p : Pos} (hb : behindInMarks op r = false) (hx : EvOk S A F L n Γ env x l) (hy : EvOk S A F L n Γ env y r) : EvOk S A F L n Γ env (.cmp op x y) (.Compare l [op] [r] p) := by
  intro t H Q E μ ρ κ s a q
  rw [ev] at q
  have key : wpAny (model S.prog S.w) A (eval l env) (fun c s₁ => wpAny (model S.prog S.w) A (eval r env) (fun d s₂ => wpAny (model S.prog S.w) A (compareOp op c d) (PostV S μ s (fin t Q)) (PostE S μ s (here L) E) s₂) (PostE S μ s (here L) E) s₁) (PostE S μ s (here L) E) s := by
    refine nest2 (hx.val a q) (fun c vc μ₁ s₁ H₁ gr g _ q => hy.val (a.grow gr g) q) fun c d vc vd μ₁ s₁ H₁ gr g r1 r2 q => ?_
    have a' := a.grow gr g
    exact cmpQ_sound g (by have := a'.ar.units; omega) (fun h => notIn_gg SVS g h) r1 r2 q
  cases t with
  | false =>
    show wpAny _ _ (eval _ env) _ _ s
    exact wpAny_Compare1 key (hm := hb)
  | true =>
    show wpAny _ _ (isTrue _ env _ >>= _) _ _ s
    refine wpAny_bind (wpAny_isTrue_Compare1 (hm := hb) ?_)
    refine wpAny_mono key (fun c s₁ h => wpAny_mono h (fun d s₂ h => wpAny_mono h (fun v s₃ ⟨μ', H', b, gr, g, r, q⟩ => ?_) fun _ _ x => x) fun _ _ x => x) fun _ _ x => x
    refine wpAny_mono (truthy_post (Q := fun b H => Q (.bb b) H) g r q) (fun b s'' ⟨μ2, H2, c, gr2, g2, e2, q2⟩ => wpAny_pure ?_) fun _ _ x => x
    subst e2
    exact ⟨μ2, H2, .bb b, gr.trans gr2, g2, .bb, q2⟩

/-- a test -/
theorem EvOk.tests {x : X} {e : Expr} (h : EvOk S A F L n Γ env x e) {H : AH} {Q : Bool → AH → Prop} {E : PE} {μ : List Addr} {ρ : Lo} {κ : List Nat} {s : Shared} (a : At S A F env L Γ n μ ρ κ H s)
    {k : Bool → Sem Value} {Q' : PV}
    (q : ev S n ρ κ E x true H fun v H => onB v fun b => Q b H)
    (hk : ∀ b μ₁ s₁ H₁, Grow S [] μ μ₁ s s₁ → Good S μ₁ H₁ s₁ → Q b H₁ → wpAny (model S.prog S.w) A (k b) (PostV S μ₁ s₁ Q') (PostE S μ₁ s₁ (here L) E) s₁) :
    wpAny (model S.prog S.w) A (isTrue e env (eval e env) >>= k) (PostV S μ s Q') (PostE S μ s (here L) E) s := by
  have h1 := h true H _ E μ ρ κ s a q
  have h2 : wpAny (model S.prog S.w) A (isTrue e env (eval e env)) (fun b s' => PostV S μ s (fun v H => onB v fun b => Q b H) (.bool b) s') (PostE S μ s (here L) E) s := by
    intro Γ' p hΓ
    have := h1 Γ' p hΓ
    unfold outV at this
    rw [Sem.wp_bind'] at this
    exact this
  refine wpAny_bind (wpAny_mono h2 (fun b s' ⟨μ', H', c, gr, g, r, q⟩ => ?_) fun _ _ x => x)
  have hc : c = .bb b := by
    cases c <;> first | exact q.elim | (have := r.bb_inv; cases this; rfl)
  subst hc
  exact wpAny_mono (hk b μ' s' H' gr g q) (fun _ _ x => x.pre gr) fun _ _ x => x.pre gr

theorem onB_bb {v : V} {f : Bool → Prop} (h : onB v f) : ∃ b, v = .bb b ∧ f b := by
  cases v <;> first | exact h.elim | exact ⟨_, rfl, h⟩

theorem ok_not {x : X} {l : Expr} {p : Pos} (hx : EvOk S A F L n Γ env x l) : EvOk S A F L n Γ env (.not x) (.UnaryOp .Not l p) := by
  intro t H Q E μ ρ κ s a q
  cases t with
  | false =>
    rw [ev] at q
    show wpAny _ _ (eval _ env) _ _ s
    refine wpAny_UnaryOp (nestV (hx.val a q) fun c vc μ₁ s₁ H₁ gr g r q => ?_)
    refine not_value (wpAny_mono (truthy_post (Q := fun b H => Q (.bb !b) H) g r q) (fun b s'' ⟨μ2, H2, c, gr2, g2, e2, q2⟩ => ?_) fun _ _ x => x)
    subst e2
    exact ⟨μ2, H2, .bb !b, gr2, g2, .bb, q2⟩
  | true =>
    rw [ev] at q
    show wpAny _ _ (isTrue _ env _ >>= _) _ _ s
    rw [show isTrue (.UnaryOp .Not l p) env (eval (.UnaryOp .Not l p) env) = (do return !(← isTrue l env (eval l env))) from rfl]
    have h1 := hx.tests (k := fun b => pure (.bool (!b))) (Q' := Q) a q (fun b μ₁ s₁ H₁ gr g q => wpAny_pure (.here g .bb q))
    intro Γ' p' hΓ
    have h2 := h1 Γ' p' hΓ
    rw [Sem.wp_bind'] at h2
    rw [Sem.wp_bind', Sem.wp_bind']
    exact h2

theorem ok_ite {c x y : X} {e l r : Expr} {p : Pos} (hc : EvOk S A F L n Γ env c e) (hx : EvOk S A F L n Γ env x l) (hy : EvOk S A F L n Γ env y r) : EvOk S A F L n Γ env (.ite c x y) (.IfExp e l r p) := by
  intro t H Q E μ ρ κ s a q
  rw [ev] at q
  cases t with
  | false =>
    show wpAny _ _ (eval _ env) _ _ s
    rw [arm_eval_IfExp]
    refine hc.tests (Q := fun u H => if u = true then ev S n ρ κ E x false H Q else ev S n ρ κ E y false H Q) a q (fun b μ₁ s₁ H₁ gr g q => ?_)
    cases b with
    | true => exact hx false H₁ Q E μ₁ ρ κ s₁ (a.grow gr g) (by simpa using q)
    | false => exact hy false H₁ Q E μ₁ ρ κ s₁ (a.grow gr g) (by simpa using q)
  | true =>
    show wpAny _ _ (isTrue _ env _ >>= _) _ _ s
    rw [arm_isTrue_IfExp]
    have h1 := hc.tests (Q := fun u H => if u = true then ev S n ρ κ E x true H Q else ev S n ρ κ E y true H Q)
      (k := fun b => if b = true then outV true l env else outV true r env) (Q' := Q) a q (fun b μ₁ s₁ H₁ gr g q => by
        cases b with
        | true => exact hx true H₁ Q E μ₁ ρ κ s₁ (a.grow gr g) (by simpa using q)
        | false => exact hy true H₁ Q E μ₁ ρ κ s₁ (a.grow gr g) (by simpa using q))
    intro Γ' p' hΓ
    have h2 := h1 Γ' p' hΓ
    rw [Sem.wp_bind'] at h2
    rw [Sem.wp_bind', Sem.wp_bind']
    refine Sem.wp_mono _ Γ' _ (fun b p'' s'' h => ?_) (fun _ _ _ x => x) p' s h2
    cases b <;> simpa [outV, Sem.wp_bind'] using h
end
end Mine
set_option maxRecDepth 10000
namespace Mine
open PySem PySem.Calls PyProof.Rows PySem.W

section
variable {S : Sx} {A : Around} {F env : Env} {L : Addr} {Γ : FC} {n : Nat}

def opOf (b : Bool) : BoolOp := if b then .And else .Or

/-- all of them -/
inductive EvAll (S : Sx) (A : Around) (F : Env) (L : Addr) (n : Nat) (Γ : FC) (env : Env) : XL → List Expr → Prop where
  | nil : EvAll S A F L n Γ env .nil []
  | cons {x : X} {e : Expr} {xs : XL} {es : List Expr} (h : EvOk S A F L n Γ env x e) (hs : ∀ rest : List Expr, starEach (e :: rest) env = (false, eval e env) :: starEach rest env) (r : EvAll S A F L n Γ env xs es) : EvAll S A F L n Γ env (.cons x xs) (e :: es)

theorem evA_val {b : Bool} {xs : XL} {es : List Expr} (hall : EvAll S A F L n Γ env xs es) {pos : Pos} :
    ∀ {H : AH} {Q : PV} {E : PE} {μ : List Addr} {ρ : Lo} {κ : List Nat} {s : Shared}, At S A F env L Γ n μ ρ κ H s → evA S n ρ κ E b xs false H Q →
    wpAny (model S.prog S.w) A (boolOp pos (opOf b) (evalEach es env)) (PostV S μ s Q) (PostE S μ s (here L) E) s := by
  induction hall with
  | nil => intro H Q E μ ρ κ s a q; rw [evA] at q; exact q.elim
  | @cons x e xs es h _ r ih =>
    intro H Q E μ ρ κ s a q
    cases r with
    | nil => rw [evA] at q; exact h.val a q
    | @cons y f ys fs h' _ r' =>
      rw [evA] at q
      · show wpAny _ _ (eval e env >>= _) _ _ s
        refine bindV (h.val a q) fun c vc μ₁ s₁ H₁ gr g r q => ?_
        refine wpAny_bind (wpAny_standAt (wpAny_bind (wpAny_holding ?_)))
        refine nest (R := fun _ _ (b : Bool) (c : Bool) => c = b) (P2 := fun μ s => PostV S μ s Q) (fun _ _ _ _ g x => x.pre g)
          (truthy_post (Q := fun t H => if t = b then evA S n ρ κ E b (.cons y ys) false H Q else Q vc H) g r q) fun t t' μ₂ s₂ H₂ gr2 g2 e2 q2 => ?_
        subst e2
        have a2 := (a.grow gr g).grow gr2 g2
        cases b <;> cases t <;> first
          | exact ih a2 (by simpa using q2)
          | exact wpAny_pure (.here g2 (r.grow g gr2) (by simpa using q2))
      · intro h; cases h

theorem evA_test {b : Bool} {xs : XL} {es : List Expr} (hall : EvAll S A F L n Γ env xs es) :
    ∀ {H : AH} {Q : PV} {E : PE} {μ : List Addr} {ρ : Lo} {κ : List Nat} {s : Shared}, At S A F env L Γ n μ ρ κ H s → evA S n ρ κ E b xs true H Q →
    wpAny (model S.prog S.w) A (allTrue (opOf b) es env) (fun t s' => PostV S μ s Q (.bool t) s') (PostE S μ s (here L) E) s := by
  induction hall with
  | nil =>
    intro H Q E μ ρ κ s a q
    rw [evA] at q
    cases b <;> exact wpAny_pure (.here a.g .bb q)
  | @cons x e xs es h _ r ih =>
    intro H Q E μ ρ κ s a q
    rw [evA] at q
    rw [arm_allTrue_cons]
    have h1 := h true H _ E μ ρ κ s a q
    have h2 : wpAny (model S.prog S.w) A (isTrue e env (eval e env)) (fun t s' => PostV S μ s (fun v H => onB v fun t => if t = b then evA S n ρ κ E b xs true H Q else Q (.bb t) H) (.bool t) s') (PostE S μ s (here L) E) s := by
      intro Γ' p hΓ
      have := h1 Γ' p hΓ
      unfold outV at this
      rw [Sem.wp_bind'] at this
      exact this
    refine wpAny_bind (wpAny_mono h2 (fun t s' ⟨μ', H', c, gr, g, r, q⟩ => ?_) fun _ _ x => x)
    obtain ⟨t', rfl, q⟩ := onB_bb q
    have ht := r.bb_inv
    cases ht
    have a2 := a.grow gr g
    have go : wpAny (model S.prog S.w) A (allTrue (opOf b) es env) (fun t s' => PostV S μ' s' Q (.bool t) s') (PostE S μ' s' (here L) E) s' → True := fun _ => trivial
    by_cases hb : t = b
    · replace q : (if t = b then evA S n ρ κ E b xs true H' Q else Q (V.bb t) H') := q
      rw [if_pos hb] at q
      have := ih a2 q
      subst hb
      cases t <;> exact wpAny_mono this (fun _ _ x => x.pre gr) fun _ _ x => x.pre gr
    · replace q : (if t = b then evA S n ρ κ E b xs true H' Q else Q (V.bb t) H') := q
      rw [if_neg hb] at q
      cases b <;> cases t <;> first | exact absurd rfl hb | exact wpAny_pure ⟨μ', H', _, gr, g, .bb, q⟩

theorem ok_boolop {b : Bool} {xs : XL} {es : List Expr} {p : Pos} {x : X} (hx : ∀ ρ κ E t H Q, ev S n ρ κ E x t H Q = evA S n ρ κ E b xs t H Q) (hall : EvAll S A F L n Γ env xs es) : EvOk S A F L n Γ env x (.BoolOp (opOf b) es p) := by
  intro t H Q E μ ρ κ s a q
  rw [hx] at q
  cases t with
  | false => exact evA_val hall a q
  | true =>
    show wpAny _ _ (isTrue _ env _ >>= _) _ _ s
    rw [arm_isTrue_BoolOp]
    exact wpAny_bind (wpAny_mono (evA_test hall a q) (fun _ _ x => wpAny_pure x) fun _ _ x => x)

/-! lists of values -/
theorem evL_sound {xs : XL} {es : List Expr} (hall : EvAll S A F L n Γ env xs es) {pos : Pos} :
    ∀ {H : AH} {Q : List V → AH → Prop} {E : PE} {μ : List Addr} {ρ : Lo} {κ : List Nat} {s : Shared}, At S A F env L Γ n μ ρ κ H s → evL S n ρ κ E xs H Q →
    wpAny (model S.prog S.w) A (spliced (backTo pos (starEach es env))) (PostL S μ s Q) (PostE S μ s (here L) E) s := by
  induction hall with
  | nil =>
    intro H Q E μ ρ κ s a q
    rw [evL] at q
    exact spliced_nil ⟨μ, H, [], .refl .., a.g, .nil S, q⟩
  | @cons x e xs es h hs r ih =>
    intro H Q E μ ρ κ s a q
    rw [evL] at q
    rw [hs]
    refine spliced_cons ?_
    refine wpAny_mono (h.val a q) (fun c s₁ ⟨μ₁, H₁, vc, gr, g, r, q⟩ => ?_) fun _ _ x => x
    refine wpAny_mono (ih (a.grow gr g) q) (fun cs s₂ ⟨μ₂, H₂, vs, gr2, g2, r2, q2⟩ => ?_) fun _ _ x => x.pre gr
    exact ⟨μ₂, H₂, vc :: vs, gr.trans gr2, g2, .cons S (r.grow g gr2) r2, q2⟩

theorem args_sound {xs : XL} {es : List Expr} (hall : EvAll S A F L n Γ env xs es) {pos : Pos} {f : Value} {H : AH} {Q : List V → AH → Prop} {E : PE} {μ : List Addr} {ρ : Lo} {κ : List Nat} {s : Shared}
    (a : At S A F env L Γ n μ ρ κ H s) (q : evL S n ρ κ E xs H Q) :
    wpAny (model S.prog S.w) A (evalArgs f true (backTo pos (starEach es env)) []) (fun a s' => ∃ cs, a = ⟨cs, []⟩ ∧ PostL S μ s Q cs s') (PostE S μ s (here L) E) s := by
  have h := evL_sound hall (pos := pos) a q
  cases hall with
  | nil =>
    rw [evL] at q
    exact PySem.evalArgs_none ⟨[], rfl, μ, H, [], .refl .., a.g, .nil S, q⟩
  | cons h1 hs r =>
    rw [hs] at h ⊢
    exact Calls.evalArgs_plain (wpAny_mono h (fun cs s' x => ⟨cs, rfl, x⟩) fun _ _ x => x)

theorem plain_args {xs : XL} {es : List Expr} (hall : EvAll S A F L n Γ env xs es) {pos : Pos} : (backTo pos (starEach es env)).any (·.1) = false := by
  induction hall with
  | nil => rfl
  | cons h1 hs r ih => rw [hs]; exact ih

/-- a call of something that is ready -/
theorem callWith_sound {xs : XL} {es : List Expr} (hall : EvAll S A F L n Γ env xs es) {pos : Pos} {f : Value} {first : List Value} {H : AH} {Q : PV} {Ql : List V → AH → Prop} {E : PE} {μ : List Addr} {ρ : Lo} {κ : List Nat} {s : Shared}
    (a : At S A F env L Γ n μ ρ κ H s) (q : evL S n ρ κ E xs H Ql)
    (k : ∀ cs vs μ₁ s₁ H₁, Grow S [] μ μ₁ s s₁ → Good S μ₁ H₁ s₁ → VRs S μ₁ s₁.heap vs cs → Ql vs H₁ →
      KeepOk S s₁.heap f ∧ wpAny (model S.prog S.w) A (call f (first ++ cs)) (PostV S μ₁ s₁ Q) (PostE S μ₁ s₁ (here L) E) s₁) :
    wpAny (model S.prog S.w) A (callWith pos f first (backTo pos (starEach es env)) []) (PostV S μ s Q) (PostE S μ s (here L) E) s := by
  refine callWith_of (P := fun h => KeepOk S h f) (by rw [plain_args hall]; rfl) (fun _ h => h) ?_
  refine wpAny_mono (args_sound hall a q) (fun ar s₁ ⟨cs, e, μ₁, H₁, vs, gr, g, r, q⟩ => ?_) fun _ _ x => x
  subst e
  obtain ⟨k1, k2⟩ := k cs vs μ₁ s₁ H₁ gr g r q
  exact ⟨k1, wpAny_mono k2 (fun _ _ x => x.pre gr) fun _ _ x => x.pre gr⟩

theorem keep_builtin {h : Heap} {id : String} : KeepOk S h (.builtin id) := ⟨.machine, .inr (.inl rfl), .now⟩
theorem keep_type {h : Heap} {T : String} : KeepOk S h (.type T) := ⟨.machine, .inr (.inl rfl), .now⟩

theorem call_notAttr {g : Expr} {es : List Expr} {p : Pos} (h : isAttr g = false) : eval (.Call g es [] p) env = (do callWith p (← eval g env) [] (backTo p (starEach es env)) (backToKw p (keywordEach [] env))) := by
  cases g <;> first | rfl | cases h

theorem ok_call {f : X} {xs : XL} {g : Expr} {es : List Expr} {p : Pos} (hg : isAttr g = false) (hf : EvOk S A F L n Γ env f g) (hall : EvAll S A F L n Γ env xs es) : EvOk S A F L n Γ env (.call f xs) (.Call g es [] p) := by
  intro t H Q E μ ρ κ s a q
  refine fin_plain t trivial ?_
  rw [ev] at q
  refine Call_ (nestV (hf.val a q) fun c vc μ₁ s₁ H₁ gr g r q => ?_) (call_notAttr hg)
  refine callWith_sound hall (a.grow gr g) q fun cs vs μ₂ s₂ H₂ gr2 g2 r2 q2 => ?_
  obtain ⟨k1, k2⟩ := q2.2 A s₂ μ₂ c cs ((a.grow gr g).grow gr2 g2).ac g2 (r.grow g gr2) r2
  exact ⟨k1, wpAny_mono k2 (fun _ _ x => x) fun _ _ x => x.imp fun _ => here_none⟩

theorem load_bi (SVS : SV S) {f : Bi} {x : Str} {p : Pos} {v : Value} {μ : List Addr} {H : AH} {ρ : Lo} {κ : List Nat} {s : Shared} {Q : Value → Shared → Prop} {E : Value → Shared → Prop} (a : At S A F env L Γ n μ ρ κ H s)
    (hx : f.name = x) (hk : Γ.kind x = some .globalImplicit) (hv : f.val = v) (q : Q v s) : wpAny (model S.prog S.w) A (eval (.Name x p) env) Q E s := by
  subst hx hv
  exact Name_function_global a.fr.kind ((kindOf_eq a _).trans hk) (load_name SVS a (.inr (SVS.bi f)) q) (by cases f <;> decide)

theorem ok_bi (SVS : SV S) {f : Bi} {x : Str} {p p' : Pos} {xs : XL} {es : List Expr} (hx : f.name = x) (hk : Γ.kind x = some .globalImplicit) (hall : EvAll S A F L n Γ env xs es) : EvOk S A F L n Γ env (.bi f xs) (.Call (.Name x p) es [] p') := by
  intro t H Q E μ ρ κ s a q
  refine fin_plain t trivial ?_
  rw [ev] at q
  refine Call_ (load_bi SVS a hx hk rfl ?_)
  refine callWith_sound hall a q fun cs vs μ₂ s₂ H₂ gr2 g2 r2 q2 => ⟨?_, biQ_sound SVS (by have := a.ar.units; show A.units + 1 + 1 < cLine; omega) g2 r2 q2⟩
  cases f <;> first | exact keep_builtin | exact keep_type

theorem ok_idx (SVS : SV S) {x y : X} {l r : Expr} {p : Pos} (hs : isSlice r = false) (hx : EvOk S A F L n Γ env x l) (hy : EvOk S A F L n Γ env y r) : EvOk S A F L n Γ env (.idx x y) (.Subscript l r p) := by
  intro t H Q E μ ρ κ s a q
  refine fin_plain t trivial ?_
  rw [ev] at q
  refine Subscript_ (nest2 (hx.val a q) (fun c vc μ₁ s₁ H₁ gr g _ q => hy.val (a.grow gr g) q) fun c d vc vd μ₁ s₁ H₁ gr g r1 r2 q => ?_)
  exact idxQ_sound SVS g hs r1 r2 q

theorem VRs.alloc {μ : List Addr} {H : AH} {s : Shared} (g : Good S μ H s) (ob : Obj) {vs : List V} {cs : List Value} (r : VRs S μ s.heap vs cs) : VRs S (μ ++ [s.heap.objs.size]) (s.heap.push ob) vs cs :=
  r.mono S ((Grow.alloc (S := S) (W := []) (μ := μ) (s := s) ob).mono g.sr (by simp))
theorem newList_post {μ μ₁ : List Addr} {H₁ : AH} {s s₁ : Shared} {cs : List Value} {vs : List V} {Q : PV} (g : Good S μ₁ H₁ s₁) (gr : Grow S [] μ μ₁ s s₁) (r : VRs S μ₁ s₁.heap vs cs) (q : Q (.rr H₁.length) (H₁ ++ [.list vs])) :
    PostV S μ s Q (.ref s₁.heap.objs.size) { s₁ with heap := s₁.heap.push { cls := .type "list", data := .seq cs.toArray } } := by
  have hr : VRs S (μ₁ ++ [s₁.heap.objs.size]) (s₁.heap.push { cls := .type "list", data := .seq cs.toArray }) vs cs.toArray.toList := by simpa using VRs.alloc g _ r
  have ho : OR S (μ₁ ++ [s₁.heap.objs.size]) (s₁.heap.push { cls := .type "list", data := .seq cs.toArray }) (.list vs) s₁.heap.objs.size := ⟨g.base_new, cs.toArray, _, Heap.get?_push_size _ rfl, hr⟩
  refine ⟨μ₁ ++ [s₁.heap.objs.size], H₁ ++ [.list vs], _, gr.trans (.alloc _), g.alloc _ _ ho, .rr ?_, q⟩
  rw [← g.sr.len]; simp

theorem ok_tup {xs : XL} {es : List Expr} {k : Nat} {p : Pos} (hall : EvAll S A F L n Γ env xs es) : EvOk S A F L n Γ env (.tup xs) (.Tuple es k p) := by
  intro t H Q E μ ρ κ s a q
  refine fin_plain t trivial ?_
  rw [ev] at q
  refine wpAny_Tuple (wpAny_mono (evL_sound hall a q) (fun cs s₁ ⟨μ₁, H₁, vs, gr, g, r, q⟩ => ⟨size_le_BIG (VRs.length S r ▸ q.1), ?_⟩) fun _ _ x => x)
  have gp := Grow.push (S := S) (W := []) (μ := μ₁) (s := s₁) { cls := .type "tuple", data := .seq cs.toArray }
  exact ⟨μ₁, H₁, .tt vs, gr.trans gp, g.push _, .tt ⟨_, Heap.get?_push_size _ rfl, rfl, _, rfl⟩ (by simpa using r.grow g gp), q.2⟩
theorem ok_lst {xs : XL} {es : List Expr} {p : Pos} (hall : EvAll S A F L n Γ env xs es) : EvOk S A F L n Γ env (.lst xs) (.List es p) := by
  intro t H Q E μ ρ κ s a q
  refine fin_plain t trivial ?_
  rw [ev] at q
  refine wpAny_List (wpAny_mono (evL_sound hall a q) (fun cs s₁ ⟨μ₁, H₁, vs, gr, g, r, q⟩ => ⟨size_le_BIG (VRs.length S r ▸ q.1), ?_⟩) fun _ _ x => x)
  exact newList_post g gr r q.2
end
end Mine
set_option maxRecDepth 100000
namespace Mine
open PySem PySem.Calls PyProof.Rows PySem.W
section
variable {prog : Program} {w : World} {A : Around} {E : Value → Shared → Prop} {s : Shared} {K : Frag} {x C : Addr} {ox : Obj} {od : Option Obj} {name : Str} {expr : Bool} {Q : Value → Shared → Prop}
theorem get_exc {v : Value} (X : K.In s.heap) (I : InstAt s.heap x ox C od) (hga : findIn K (.ref C) "__getattribute__" = some (some (.builtin "BaseException.__getattribute__"))) (hgn : findIn K (.ref C) "__getattr__" = some none) (hm : mroIn K C (.type "BaseException") = some true)
    (hf : findObj K C od name = some (.value v)) (hh : handedIn v = true) (h : Q v { s with toks := s.toks + 1 }) : wpAny (model prog w) A (getAttr (.ref x) name expr) Q E s := by
  obtain ⟨hh', g, d, t, os⟩ := s
  have L0 := I.type (M := model prog w)
  have L1 := looks_findIn (M := model prog w) X hga
  have L2 := looks_findIn (M := model prog w) X hgn
  have L3 := looks_find (M := model prog w) X I hf
  have hx2 : (Value.builtin "BaseException.__getattribute__" == Value.builtin "object.__getattribute__") = false := by decide +kernel
  unfold getAttr getAttrBy
  refine wpAny_bind (wpAny_mkText (wpAny_holding (wpAny_bind (L0.at (wpAny_bind (L1.at ?_))))))
  dsimp only
  rw [hx2, Bool.and_false, if_neg (by simp)]
  unfold getAttrByItsOwn hookBefore
  have f3 := PySem.F.attr_ValueError.ga.bind (.ref x)
  have hx0 : (expr && onTheHeap (Value.builtin "BaseException.__getattribute__")) = false := by cases expr <;> rfl
  rw [if_pos (by rfl)]
  refine wpAny_bind (L2.at ?_)
  have hI : Looks (model prog w) hh' (isInstance (.ref x) (.type "BaseException")) true := L0.andThen (looks_mroIn X hm)
  have hk : builtinKind "BaseException.__getattribute__" = some .slot := by decide +kernel
  have hsplit : splitId "BaseException.__getattribute__" = some ("BaseException", "__getattribute__") := by decide +kernel
  have ha := PySem.F.args_bexc_ga (.ref x) (.str name t)
  have hcode : codeAny (model prog w) A (.call (.builtin "BaseException.__getattribute__") ⟨[.ref x, .str name t], []⟩) (fun r s' => r = .ok (.ret v) ∧ s' = ⟨hh', g, d, t + 1, os⟩) ⟨hh', g, d, t + 1, os⟩ := by
    refine codeAny_call_builtin PySem.F.attr_ValueError.ga.plain PySem.F.entry_bexc_ga ?_
    simp only [checkBuiltinCall, hk, hsplit]
    refine wpAny_bind (hI.at ?_)
    repeat (any_goals (first | assumption | wp_step))
    refine wpAny_loadPart_at I.at_ ?_
    rw [I.cls]
    refine wpAny_pure ?_
    refine wpAny_bind (L3.at ?_)
    repeat (any_goals (first | assumption | exact ⟨rfl, rfl⟩ | wp_step))
  repeat (any_goals (first | assumption | wp_step))
  refine codeAny_mono hcode ?_
  rintro r s' ⟨rfl, rfl⟩
  show wpAny _ _ (handedOut v) _ _ _
  rw [handedOut_of hh]
  exact wpAny_pure h
end
end Mine
set_option maxRecDepth 10000
namespace Mine
open PySem PySem.Calls PyProof.Rows PySem.W

section
variable {S : Sx} {A : Around} {F env : Env} {L : Addr} {Γ : FC} {n : Nat} {μ : List Addr} {H : AH} {s : Shared} {Q : PV} {E : Value → Shared → Prop}

theorem findBy_find {es : Array DictEntry} {x : Str} : nsFind es x = (es.toList.find? (·.key.isStr x)).map (·.val) := by
  unfold nsFind findBy
  first | rfl | simp

theorem ns_look {h : Heap} {d : Addr} {m : Str → Option Value} {o : Obj} (n : h.Ns d m) (e : h.get? d = some o) (x : Str) : lookIn x o = some (m x) := by
  obtain ⟨o', es, ep, e1, e2, e3, e4⟩ := n
  rw [e] at e1; cases e1
  unfold lookIn
  rw [e2]
  have := e4 x
  rw [findBy_find] at this
  dsimp only
  split
  · rename_i en he
    rw [he] at this
    rw [← this]; rfl
  · rename_i he
    rw [he] at this
    rw [← this, if_neg]
    · rfl
    · rw [List.any_eq_true]
      rintro ⟨en, hen, hk⟩
      obtain ⟨nm, t, e5⟩ := e3 en (Array.mem_toList_iff.mp hen)
      rw [DictEntry.refKey] at hk
      first | (rw [e5] at hk; cases hk) | (simp [e5] at hk)

theorem VR.handed (SVS : SV S) {v : V} {c : Value} {h : Heap} (r : VR S μ h v c) : handedIn c = true := by
  cases v with
  | nn => rw [r.nn_inv]; rfl
  | bb b => rw [r.bb_inv]; rfl
  | ii i => obtain ⟨t, rfl⟩ := r.ii_inv; rfl
  | ss x => obtain ⟨t, rfl⟩ := r.ss_inv; rfl
  | tt xs => obtain ⟨a, cs, rfl, _⟩ := r.tt_inv; rfl
  | gg k => rw [r.gg_inv]; exact SVS.hand k
  | rr i => obtain ⟨a, rfl, _⟩ := r.rr_inv; rfl
  | rg a b => rw [VR] at r; obtain ⟨x, _, _, _, rfl, _⟩ := r; rfl

/-- an object with attributes of its own -/
def HasNs (H : AH) (i c d : Nat) : Prop := H[i]? = some (.inst c d) ∨ ∃ args fr, H[i]? = some (.exc c args (some d) fr)

theorem Good.instAt (g : Good S μ H s) {i c d : Nat} {a : Addr} {es : List (Nm × V)} (h : HasNs H i c d) (m : μ[i]? = some a) (e : H[d]? = some (.ns es)) :
    ∃ C dx ox od mm, S.gv c = .ref C ∧ ox.dict = some dx ∧ μ[d]? = some dx ∧ s.heap.get? a = some ox ∧ s.heap.get? dx = some od ∧ od.cls = .type "dict" ∧ s.heap.Ns dx mm ∧ InstAt s.heap a ox C (some od) ∧
      (∀ k : Nm, OptVR S μ s.heap (es.lookup k) (mm ⟨k.toArray⟩)) := by
  have hd : ∀ dx, μ[d]? = some dx → ∃ od mm, s.heap.get? dx = some od ∧ od.cls = .type "dict" ∧ s.heap.Ns dx mm ∧ ∀ k : Nm, OptVR S μ s.heap (es.lookup k) (mm ⟨k.toArray⟩) := by
    intro dx hm
    obtain ⟨_, mm, od, e1, e2, e3, e4, _⟩ := g.sr.obj d _ dx e hm
    exact ⟨od, mm, e1, e2, e3, e4⟩
  rcases h with h | ⟨args, fr, h⟩
  · obtain ⟨_, C, dx, h1, h2, h3⟩ := g.sr.obj i _ a h m
    obtain ⟨od, mm, e1, e2, e3, e4⟩ := hd dx h2
    exact ⟨C, dx, _, od, mm, h1, rfl, h2, h3, e1, e2, e3, ⟨h3, rfl, rfl, e1⟩, e4⟩
  · obtain ⟨_, C, vs, t, sl, dd, h1, h3, h4, h5, h6, _, dx, h7, h2⟩ := g.sr.obj i _ a h m
    subst h7
    obtain ⟨od, mm, e1, e2, e3, e4⟩ := hd dx h2
    exact ⟨C, dx, _, od, mm, h1, rfl, h2, h3, e1, e2, e3, ⟨h3, rfl, rfl, e1⟩, e4⟩

theorem Good.kin (SVS : SV S) (g : Good S μ H s) : S.K.In s.heap := fun a o e => g.inv.stay a o (SVS.kin a o e)

theorem get_raw (SVS : SV S) (g : Good S μ H s) {i c d : Nat} {a : Addr} {es : List (Nm × V)} {x : Nm} {v : V} {expr : Bool} (h : HasNs H i c d) (m : μ[i]? = some a) (e : H[d]? = some (.ns es)) (ho : S.ao c x = true) (hv : es.lookup x = some v) :
    wpAny (model S.prog S.w) A (getAttr (.ref a) ⟨x.toArray⟩ expr) (fun cv s' => s' = { s with toks := s.toks + 1 } ∧ VR S μ s.heap v cv) E s := by
  obtain ⟨C, dx, ox, od, mm, h1, _, h2, h3, h4, h5, h6, I, h8⟩ := g.instAt h m e
  obtain ⟨k1, k2, k3, _⟩ := SVS.ao c C x h1 ho
  have hx := h8 x
  rw [hv] at hx
  obtain ⟨cv, hc, r⟩ := hx
  cases hE : S.isE c with
  | false =>
    refine get_value (g.kin SVS) I (plainGet_of (k1 hE)).1 (findObj_own (attr := none) k2 k3 rfl ?_) (VR.handed SVS r) ⟨rfl, r⟩
    rw [ns_look h6 h4, hc]
  | true =>
    obtain ⟨m1, _⟩ := SVS.exc c C h1 hE
    obtain ⟨n1, n2⟩ := SVS.exg c C h1 hE
    refine get_exc (g.kin SVS) I n1 n2 m1 (findObj_own (attr := none) k2 k3 rfl ?_) (VR.handed SVS r) ⟨rfl, r⟩
    rw [ns_look h6 h4, hc]
theorem get_attr (SVS : SV S) (g : Good S μ H s) {i c d : Nat} {a : Addr} {es : List (Nm × V)} {x : Nm} {v : V} {expr : Bool} (h : HasNs H i c d) (m : μ[i]? = some a) (e : H[d]? = some (.ns es)) (ho : S.ao c x = true) (hv : es.lookup x = some v) (q : Q v H) :
    wpAny (model S.prog S.w) A (getAttr (.ref a) ⟨x.toArray⟩ expr) (PostV S μ s Q) E s :=
  wpAny_mono (get_raw SVS g h m e ho hv) (fun _ _ ⟨e, r⟩ => by subst e; exact .tok g _ r q) fun _ _ x => x

theorem attrQ_sound (SVS : SV S) (g : Good S μ H s) {o : V} {co : Value} {x : Nm} {expr : Bool} (r : VR S μ s.heap o co) (h : attrQ S o x H Q) :
    wpAny (model S.prog S.w) A (getAttr co ⟨x.toArray⟩ expr) (PostV S μ s Q) E s := by
  unfold attrQ at h
  split at h
  · obtain ⟨a, rfl, m⟩ := r.rr_inv
    split at h
    · rename_i hi
      obtain ⟨ho, es, v, e, hv, q⟩ := h
      exact get_attr SVS g (.inl hi) m e ho hv q
    · rename_i hi
      obtain ⟨ho, es, v, e, hv, q⟩ := h
      exact get_attr SVS g (.inr ⟨_, _, hi⟩) m e ho hv q
    · exact h.elim
  · exact h.elim

theorem base_of {o : Expr} {name : Str} {whole : Sem Value} (h : superLike o = false) : attributeBase o name env whole = whole := by
  unfold attributeBase
  split
  · have h' : (_ == ("super" : Str)) = false := h
    simp only [bne, h', Bool.not_false, Bool.true_or, if_true, bind_pure]
  · rfl

theorem ok_attr (SVS : SV S) {x : X} {l : Expr} {a : Nm} {p : Pos} (hs : superLike l = false) (hx : EvOk S A F L n Γ env x l) : EvOk S A F L n Γ env (.attr x a) (.Attribute l a.str p) := by
  intro t H Q E μ ρ κ s at' q
  refine fin_plain t trivial ?_
  rw [ev] at q
  refine Attribute_any_ (nestV (hx.val at' q) fun c vc μ₁ s₁ H₁ gr g r q => ?_) ?_
  · exact attrQ_sound SVS g r q
  · rw [arm_eval_Attribute, base_of hs]

end
end Mine
set_option maxRecDepth 10000
namespace Mine
open PySem PySem.Calls PyProof.Rows PySem.W

/-! ## A new state of an object of the abstract heap -/
section
variable {S : Sx} {μ : List Addr} {H : AH} {s : Shared}

/-- an object that lies already is taken into the abstract heap -/
theorem Good.reg (g : Good S μ H s) {a : Addr} {o : O} (hn : a ∉ μ) (x : OR S (μ ++ [a]) s.heap o a) : Good S (μ ++ [a]) (H ++ [o]) s where
  inv := g.inv
  sr := by
    have pre : ∀ (i : Nat) (b : Addr), μ[i]? = some b → (μ ++ [a])[i]? = some b := fun i b q => by
      rw [List.getElem?_append_left (List.getElem?_eq_some_iff.mp q).1]; exact q
    refine ⟨by simp [g.sr.len], ?_, fun i o' b e1 e2 => ?_⟩
    · rw [List.nodup_append]
      refine ⟨g.sr.nodup, by simp, fun b hb c hc => ?_⟩
      rw [List.mem_singleton] at hc
      rintro rfl
      exact hn (hc ▸ hb)
    · by_cases hi : i < H.length
      · rw [List.getElem?_append_left hi] at e1
        rw [List.getElem?_append_left (g.sr.len ▸ hi)] at e2
        exact (g.sr.obj i o' b e1 e2).step (fun _ _ q _ => q) pre fun _ q => q
      · have hi' : i = H.length := by
          have := (List.getElem?_eq_some_iff.mp e1).1
          simp at this; omega
        subst hi'
        rw [List.getElem?_append_right (Nat.le_refl _), Nat.sub_self] at e1
        rw [← g.sr.len, List.getElem?_append_right (Nat.le_refl _), Nat.sub_self] at e2
        cases e1; cases e2
        exact x
theorem Grow.reg {W μ' : List Addr} {s' : Shared} (x : Grow S W μ μ' s s') {a : Addr} (h : s.heap.objs.size ≤ a) : Grow S W μ (μ' ++ [a]) s s' where
  pre := by obtain ⟨ν, rfl⟩ := x.pre; exact ⟨ν ++ [a], by simp⟩
  fresh b h1 h2 := by
    rcases List.mem_append.mp h1 with h1 | h1
    · exact x.fresh b h1 h2
    · rw [List.mem_singleton] at h1; subst h1; exact h
  size := x.size
  keep := x.keep
  os := x.os
  tok := x.tok

/-- a run that only adds, and whose first new object is taken in -/
theorem Good.added (g : Good S μ H s) {h' : Heap} {tk : Nat} {o : O} (kp : ∀ b o, s.heap.get? b = some o → h'.get? b = some o) (up : Up s { s with heap := h', toks := tk })
    (x : Mono μ (μ ++ [s.heap.objs.size]) s.heap h' → OR S (μ ++ [s.heap.objs.size]) h' o s.heap.objs.size) :
    Good S (μ ++ [s.heap.objs.size]) (H ++ [o]) { s with heap := h', toks := tk } ∧ Grow S [] μ (μ ++ [s.heap.objs.size]) s { s with heap := h', toks := tk } := by
  have st : Still s.heap h' := fun b o e _ => kp b o e
  have g' : Good S μ H { s with heap := h', toks := tk } := ⟨⟨fun b o h => kp b o (g.inv.stay b o h), g.inv.gens, fun q hq => let ⟨ps, e, T⟩ := g.inv.tabs q hq; ⟨ps, kp _ _ e, T.step st⟩⟩, g.sr.len, g.sr.nodup,
      fun j o b h1 h2 => (g.sr.obj j o b h1 h2).step st (fun _ _ z => z) fun ob z => kp b ob z⟩
  have gr : Grow S [] μ μ s { s with heap := h', toks := tk } := ⟨⟨[], by simp⟩, fun _ h1 h2 => absurd h1 h2, up.2, fun b o h _ _ hl => ⟨o, kp b o h, .refl o⟩, rfl, up.1⟩
  have hm : s.heap.objs.size ∉ μ := fun z => absurd (g.sr.live z) (Nat.lt_irrefl _)
  exact ⟨g'.reg hm (x (st.mono fun i a q => by rw [List.getElem?_append_left (List.getElem?_eq_some_iff.mp q).1]; exact q)), gr.reg (Nat.le_refl _)⟩

theorem still_sameBut {h h' : Heap} {a : Addr} {ob : Obj} (e : h.get? a = some ob) (hc : mCls ob.cls) (sb : Heap.SameBut a h h') : Still h h' := fun b o hb hk => by
  by_cases hba : b = a
  · subst hba
    rw [e] at hb; cases hb
    rcases hk with (q | q) | q <;> exact absurd hc (not_mCls q (by decide) (by decide) (by decide) (by decide))
  · exact (sb.2 b hba).trans hb

theorem mem_of_at {μ : List Addr} {i : Nat} {a : Addr} (m : μ[i]? = some a) : a ∈ μ := List.mem_of_getElem? m
theorem at_inj {μ : List Addr} (nd : μ.Nodup) {i j : Nat} {a : Addr} (x : μ[i]? = some a) (y : μ[j]? = some a) : i = j := by
  obtain ⟨hi, ei⟩ := List.getElem?_eq_some_iff.mp x
  obtain ⟨hj, ej⟩ := List.getElem?_eq_some_iff.mp y
  exact (List.getElem?_inj hi nd).mp (x.trans y.symm)

theorem Good.set (g : Good S μ H s) {i : Nat} {a : Addr} {o' : O} {h' : Heap} {ob ob' : Obj} (m : μ[i]? = some a) (e : s.heap.get? a = some ob) (e' : h'.get? a = some ob') (hc : ob'.cls = ob.cls) (hb : S.base.get? a = none)
    (sb : Heap.SameBut a s.heap h') (x : OR S μ h' o' a) (t : Nat) (ht : s.toks ≤ t) :
    Good S μ (H.set i o') { s with heap := h', toks := t } ∧ Grow S [] μ μ s { s with heap := h', toks := t } := by
  obtain ⟨ob2, e2, hm⟩ := g.sr.cls (mem_of_at m)
  rw [e] at e2; cases e2
  have st := still_sameBut e hm sb
  have ne : ∀ b o, S.base.get? b = some o → b ≠ a := fun b o h q => by subst q; rw [hb] at h; cases h
  refine ⟨⟨⟨fun b o h => (sb.2 b (ne b o h)).trans (g.inv.stay b o h), g.inv.gens, fun q hq => ?_⟩, by simp [g.sr.len], g.sr.nodup, fun j o b h1 h2 => ?_⟩, ⟨[], by simp⟩, fun _ h1 h2 => absurd h1 h2, Nat.le_of_eq sb.1.symm, fun b o h hw hn _ => ?_, rfl, ht⟩
  · obtain ⟨ps, q1, q2⟩ := g.inv.tabs q hq
    have hqa : q.2 ≠ a := fun z => by
      rw [z, e] at q1; cases q1
      rcases hm with z | z | z | z | ⟨C, z⟩ <;> cases z
    exact ⟨ps, (sb.2 _ hqa).trans q1, q2.step st⟩
  · by_cases hj : j = i
    · subst hj
      rw [m] at h2; cases h2
      rw [List.getElem?_set_self (by rw [← g.sr.len]; exact (List.getElem?_eq_some_iff.mp m).1)] at h1
      cases h1; exact x
    · rw [List.getElem?_set_ne (Ne.symm hj)] at h1
      have hba : b ≠ a := fun z => hj (at_inj g.sr.nodup (z ▸ h2) m)
      exact (g.sr.obj j o b h1 h2).step st (fun _ _ q => q) fun ob q => (sb.2 b hba).trans q
  · have hba : b ≠ a := fun z => hn (z ▸ mem_of_at m)
    exact ⟨o, (sb.2 b hba).trans h, .refl o⟩
end

section
variable {S : Sx} {A : Around} {F env : Env} {L : Addr} {Γ : FC} {n : Nat}

theorem meth_eval {M : Model} {E : Value → Shared → Prop} {s : Shared} {o : Expr} {name : Str} {apos pos : Pos} {es : List Expr} {Q : Value → Shared → Prop} (hs : superLike o = false) (hl : (apos.endLine == pos.line) = true) (hn : es.length < 28)
    (hp : (backTo pos (starEach es env)).all (fun x => !x.1) = true)
    (h : wpAny M A (eval o env) (fun ov s₁ => ∀ pl, wpAny M A (getMethod ov name pl) (fun fx s₂ => wpAny M A (callWith pos fx.1 fx.2 (backTo pos (starEach es env)) []) Q E s₂) E s₁) E s) :
    wpAny M A (eval (.Call (.Attribute o name apos) es [] pos) env) Q E s := by
  rw [arm_eval_Call, base_of hs]
  refine wpAny_bind (wpAny_mono h (fun ov s₁ h₁ => ?_) fun _ _ x => x)
  refine wpAny_bind (wpAny_standAt ?_)
  have hform : methodCallForm (es.length + ([] : List Keyword).length) (backTo pos (starEach es env)) (backToKw pos (keywordEach [] env)) = true := by
    unfold methodCallForm
    rw [hp]
    simp [backToKw, keywordEach]; omega
  have hpos : methodCallPos true o env apos pos = pure pos := by unfold methodCallPos; simp [hl]
  unfold methodCall
  rw [hform]
  refine wpAny_bind (wpAny_holding (wpAny_mono (h₁ _) (fun fx s₂ h₂ => ?_) fun _ _ x => x))
  exact wpAny_bind (wpAny_of_eq hpos h₂)

theorem all_args {xs : XL} {es : List Expr} (hall : EvAll S A F L n Γ env xs es) {pos : Pos} : (backTo pos (starEach es env)).all (fun x => !x.1) = true := by
  induction hall with
  | nil => rfl
  | cons h1 hs r ih => rw [hs]; exact ih

theorem method_own {M : Model} {s : Shared} {K : Frag} {x C : Addr} {ox : Obj} {od : Option Obj} {name : Str} {pl : Sem Bool} {E : Value → Shared → Prop} {Q : Value × List Value → Shared → Prop} (X : K.In s.heap) (I : InstAt s.heap x ox C od)
    (hg : plainGet K C name = true) (hf : findIn K (.ref C) name = some none) (h : wpAny M A (getAttr (.ref x) name) (fun v => Q (v, [])) E s) : wpAny M A (getMethod (.ref x) name pl) Q E s := by
  unfold getMethod specialOf
  refine wpAny_bind (wpAny_bind (I.type.here ((looks_findIn X (plainGet_of hg).1).here ?_)))
  dsimp only
  rw [PySem.F.canon_object_ga, if_neg (by decide)]
  refine wpAny_bind (wpAny_bind (I.type.here ((looks_findIn X (plainGet_of hg).2).here ?_)))
  refine wpAny_bind (wpAny_bind (I.type.here ((looks_findIn X hf).here ?_)))
  exact wpAny_bind (wpAny_mono h (fun _ _ q => wpAny_pure q) fun _ _ x => x)

/-- what is kept while a method's arguments are told -/
def Ready (S : Sx) (μ : List Addr) (s : Shared) (c : Cal) (f : Value) (first : List Value) : Prop := match c with
  | .val g fs => VR S μ s.heap g f ∧ VRs S μ s.heap fs first
  | .str x m => ∃ t, first = [.str ⟨x.toArray⟩ t] ∧ f = .builtin m.id
  | .app i => ∃ a, f = .builtin "list.append" ∧ first = [.ref a] ∧ μ[i]? = some a

theorem split_at {prog : Program} {w : World} {E : Value → Shared → Prop} {s : Shared} {x y : PySem.Str} {t u : Tok} {Q : Value → Shared → Prop} (hy : (y.length == 0) = false) (hx : x.length ≤ 1000000)
    (hsz2 : (Builtin.Str.partsBetween x (Builtin.Str.occurrences x y 0 x.length (x.length + 1)) y.length).length ≤ sizeLine)
    (hq : ∀ l k, l.map (·.1) = Txt.split x y → Q (.ref s.heap.objs.size) { s with heap := s.heap.push { cls := .type "list", data := .seq (strValues l).toArray }, toks := k }) :
    wpAny (model prog w) A (call (.builtin "str.split") [.str x t, .str y u]) Q E s := by
  have hsz : x.length ≤ sizeLine := by rw [sizeLine_eq]; omega
  cases h1 : (decide (x.length < y.length) || decide (Builtin.Str.strKind x < Builtin.Str.strKind y))
  · cases hf : (Builtin.Str.occurrences x y 0 x.length (x.length + 1)).isEmpty
    · refine call_meets F.slot_str_split (typeIs_str _ _ _) F.entry_str_split (F.args_str_split_2 _ _) (meets_str_split_sep x y t u h1 hy hf hsz hsz2) ?_
      show wants Q E _ { s with toks := _, heap := s.heap.push { cls := .type "list", data := .seq (strsFrom s.toks (Builtin.Str.partsBetween x (Builtin.Str.occurrences x y 0 x.length (x.length + 1)) y.length)).toArray } }
      rw [strsFrom_eq]
      exact hq (numbered s.toks _) _ ((numbered_texts _ _).trans ((if_neg (ne_true_of_eq_false h1)).trans (if_neg (ne_true_of_eq_false hf))).symm)
    · exact call_meets F.slot_str_split (typeIs_str _ _ _) F.entry_str_split (F.args_str_split_2 _ _) (meets_str_split_not_found x y t u h1 hy hf)
        (hq [(x, t)] s.toks ((if_neg (ne_true_of_eq_false h1)).trans (if_pos hf)).symm)
  · exact call_meets F.slot_str_split (typeIs_str _ _ _) F.entry_str_split (F.args_str_split_2 _ _) (meets_str_split_cannot_occur x y t u h1)
      (hq [(x, t)] s.toks (if_pos h1).symm)

theorem strs_of {μ : List Addr} {h : Heap} : ∀ {ys : List V} {zs : List (List Nat)} {cs : List Value}, VRs S μ h ys cs → allStr ys = some zs → ∃ l : List (PySem.Str × Tok), cs = strValues l ∧ l.map (·.1) = zs.map (fun z => (⟨z.toArray⟩ : PySem.Str))
  | [], zs, cs, r, e => by
    rw [VRs] at r; subst r
    unfold allStr at e; cases e
    exact ⟨[], rfl, rfl⟩
  | y :: ys, zs, cs, r, e => by
    rw [VRs] at r
    obtain ⟨c, cr, rfl, r1, r2⟩ := r
    unfold allStr at e
    split at e
    · rename_i h'; cases h'
    · rename_i x r' h'
      cases h'
      obtain ⟨zs', h1, rfl⟩ := Option.map_eq_some_iff.mp e
      obtain ⟨t, rfl⟩ := r1.ss_inv
      obtain ⟨l, rfl, h2⟩ := strs_of r2 h1
      exact ⟨(⟨x.toArray⟩, t) :: l, rfl, by simp [h2]⟩
    · cases e
theorem vrs_strs {μ : List Addr} {h : Heap} : ∀ {l : List (PySem.Str × Tok)}, VRs S μ h ((l.map (·.1.cps.toList)).map .ss) (strValues l)
  | [] => .nil S
  | (x, t) :: l => by
    refine .cons S ?_ vrs_strs
    rw [VR]
    exact ⟨t, by simp⟩

theorem strQ_sound {μ : List Addr} {H : AH} {s : Shared} {Q : PV} {E : Value → Shared → Prop} (g : Good S μ H s) {x : List Nat} {m : SM} {t : Tok} {vs : List V} {cs : List Value} (r : VRs S μ s.heap vs cs) (h : strQ x m vs H Q) :
    wpAny (model S.prog S.w) A (call (.builtin m.id) (.str ⟨x.toArray⟩ t :: cs)) (PostV S μ s Q) E s := by
  obtain ⟨hl, h⟩ := h
  have hlen : (⟨x.toArray⟩ : PySem.Str).length ≤ sizeLine := by rw [sizeLine_eq]; simp [PySem.Str.length]; omega
  split at h
  · -- find
    rename_i c
    obtain ⟨c1, rfl, r1⟩ := r.one_inv
    obtain ⟨u, rfl⟩ := r1.ss_inv
    refine SC.find (y := ⟨#[c]⟩) ?_
    have e : Txt.find ⟨x.toArray⟩ ⟨#[c]⟩ = (match idxOf? x c with | some k => (k : Int) | none => -1) := by
      unfold Txt.find
      rcases find_eq x c with ⟨h1, h2⟩ | ⟨i, r, h1, h2⟩ <;> rw [h1, h2]
    rw [e]
    exact .int g _ h
  · -- index
    rename_i c
    obtain ⟨c1, rfl, r1⟩ := r.one_inv
    obtain ⟨u, rfl⟩ := r1.ss_inv
    obtain ⟨k, hk, q⟩ := h
    rcases find_eq x c with ⟨h1, h2⟩ | ⟨i, r, h1, h2⟩
    · rw [h1] at hk; cases hk
    · rw [h1] at hk; cases hk
      exact SC.index h2 (.int g _ q)
  · -- rindex
    rename_i c
    obtain ⟨c1, rfl, r1⟩ := r.one_inv
    obtain ⟨u, rfl⟩ := r1.ss_inv
    obtain ⟨k, hk, q⟩ := h
    exact call_gives F.slot_str_rindex (typeIs_str _ _ _) F.entry_str_rindex (F.args_str_rindex_2 _ _) (gives_str_rindex _ _ t u k (rindex_eq x c hk)) (.int g _ q)
  · -- count
    rename_i c
    obtain ⟨c1, rfl, r1⟩ := r.one_inv
    obtain ⟨u, rfl⟩ := r1.ss_inv
    refine SC.count (y := ⟨#[c]⟩) ?_
    rw [count_eq]
    exact .int g _ h
  · -- lower
    rw [VRs] at r; subst r
    obtain ⟨⟨c, rfl, hc⟩, q⟩ := h
    have e : Txt.lower ⟨[c].toArray⟩ = ⟨#[asciiLow c]⟩ := lower_eq c hc
    refine SC.lower (by rw [e]; unfold Builtin.Str.tooLong; rw [sizeLine_eq]; rfl) ?_
    rw [e]
    exact .str' g _ q
  · -- strip
    rename_i c
    obtain ⟨c1, rfl, r1⟩ := r.one_inv
    obtain ⟨u, rfl⟩ := r1.ss_inv
    refine wpAny_up (SC.stripChars (y := ⟨#[c]⟩) (hsz := hlen) fun t' k hk => ?_)
    refine .str' g k ?_ hk
    rw [strip_eq]; exact h
  · -- lstrip
    rename_i c
    obtain ⟨c1, rfl, r1⟩ := r.one_inv
    obtain ⟨u, rfl⟩ := r1.ss_inv
    refine wpAny_up (SC.lstripChars (y := ⟨#[c]⟩) (hsz := hlen) fun t' k hk => ?_)
    refine .str' g k ?_ hk
    rw [lstrip_eq]; exact h
  · -- split
    rename_i a b
    obtain ⟨c1, rfl, r1⟩ := r.one_inv
    obtain ⟨u, rfl⟩ := r1.ss_inv
    obtain ⟨⟨ha, hb⟩, q⟩ := h
    refine wpAny_ups (split_at (y := ⟨#[a, b]⟩) rfl (by simpa [PySem.Str.length] using hl) ?_ fun l k hk => fun up => ?_)
    · have hle := PySem.StrLaws.occ_length_le (⟨x.toArray⟩ : PySem.Str) ⟨#[a, b]⟩ 0 (⟨x.toArray⟩ : PySem.Str).length ((⟨x.toArray⟩ : PySem.Str).length + 1)
      have e : (⟨x.toArray⟩ : PySem.Str).length = x.length := by simp [PySem.Str.length]
      unfold Builtin.Str.partsBetween
      rw [List.length_map, List.length_zip, List.length_append, List.length_cons, List.length_map, sizeLine_eq]
      rw [e] at hle ⊢
      simp only [List.length_singleton]
      omega
    · have e := split_eq x a b ha hb
      rw [← hk, List.map_map] at e
      obtain ⟨g', gr⟩ := g.added (o := .list ((split2 x a b).map .ss)) (h' := s.heap.push { cls := .type "list", data := .seq (strValues l).toArray }) (tk := k) (fun b o e => Heap.get?_push_of_some _ e) up fun mo => ⟨g.base_new, _, _, Heap.get?_push_size _ rfl, by
        rw [List.toList_toArray, ← e]
        exact vrs_strs⟩
      exact ⟨_, _, _, gr, g', .rr (by rw [← g.sr.len, List.getElem?_append_right (Nat.le_refl _), Nat.sub_self]; rfl), q⟩
  · -- join
    rename_i i
    obtain ⟨c1, rfl, r1⟩ := r.one_inv
    obtain ⟨a, rfl, m⟩ := r1.rr_inv
    obtain ⟨ys, zs, e, hz, hs, q⟩ := h
    obtain ⟨cs, hls, rs⟩ := OR.isList g e m
    obtain ⟨l, hl1, hl2⟩ := strs_of rs hz
    have hls' : s.heap.IsList a (strValues l).toArray := by rw [← hl1, Array.toArray_toList]; exact hls
    refine wpAny_up (SC.join hls' rfl ?_ fun t' k hk => ?_)
    · unfold JoinOk
      rw [hl2, PySem.StrLaws.joinTotal]
      have e1 : ((zs.map fun z => (⟨z.toArray⟩ : PySem.Str)).map (·.length)).sum = (zs.map (·.length)).sum := by
        congr 1
        rw [List.map_map]
        apply List.map_congr_left
        intro z _
        simp [PySem.Str.length]
      rw [e1, List.length_map]
      unfold Builtin.Str.tooLong
      rw [sizeLine_eq]
      have e2 : (⟨x.toArray⟩ : PySem.Str).length = x.length := by simp [PySem.Str.length]
      rw [e2]
      simp only [gt_iff_lt, Bool.not_eq_true', decide_eq_false_iff_not, Nat.not_lt]
      omega
    · refine .str' g k ?_ hk
      have e3 : (Txt.join (⟨x.toArray⟩ : PySem.Str) (l.map (·.1))).cps.toList = joinS x zs := by
        unfold Txt.join
        rw [PySem.StrLaws.glued_eq_join, join_list, hl2, List.map_map]
        congr 1
        conv => rhs; rw [← List.map_id zs]
        apply List.map_congr_left
        intro z _
        simp
      rw [e3]; exact q
  · exact h.elim

theorem append_sound {μ : List Addr} {H : AH} {s : Shared} {Q : PV} {E : Value → Shared → Prop} (g : Good S μ H s) {i : Nat} {a : Addr} {v : V} {c : Value} {ys : List V} (m : μ[i]? = some a) (r : VR S μ s.heap v c)
    (hi : H[i]? = some (.list ys)) (hn : ys.length < BIG) (q : Q .nn (H.set i (.list (ys ++ [v])))) :
    wpAny (model S.prog S.w) A (call (.builtin "list.append") [.ref a, c]) (PostV S μ s Q) E s := by
  obtain ⟨hb, cs, k, e, rs⟩ := g.sr.obj i _ a hi m
  have hz := VRs.size rs
  refine append_at (hsz := by rw [hz]; exact size_le_BIG (Nat.le_of_lt hn)) e fun h' hs ho' => ?_
  have st : Still s.heap h' := still_sameBut e (.inl rfl) hs
  have mo : Mono μ μ s.heap h' := st.mono fun _ _ q => q
  have rr : VRs S μ h' (ys ++ [v]) (cs.push c).toList := by
    rw [Array.toList_push]
    exact (rs.mono S mo).append S (.one S (r.mono S mo))
  obtain ⟨g', gr⟩ := g.set (o' := .list (ys ++ [v])) m e ho' rfl hb hs ⟨hb, cs.push c, _, ho', rr⟩ s.toks (Nat.le_refl _)
  exact ⟨μ, _, .nn, gr, g', .nn, q⟩

theorem ready_call {μ : List Addr} {H : AH} {s : Shared} {Q : PV} {E : PE} {ρ : Lo} {κ : List Nat} (a : At S A F env L Γ n μ ρ κ H s) {c : Cal} {f : Value} {first : List Value} (rd : Ready S μ s c f first) {vs : List V} {cs : List Value} (r : VRs S μ s.heap vs cs)
    (h : calQ S n c vs H Q E) : KeepOk S s.heap f ∧ wpAny (model S.prog S.w) A (call f (first ++ cs)) (PostV S μ s Q) (PostE S μ s (here L) E) s := by
  cases c with
  | val g fs =>
    obtain ⟨r1, r2⟩ := rd
    obtain ⟨k1, k2⟩ := h.2 A s μ f (first ++ cs) a.ac a.g r1 (r2.append S r)
    exact ⟨k1, wpAny_mono k2 (fun _ _ x => x) fun _ _ x => x.imp fun _ => here_none⟩
  | str x m =>
    obtain ⟨t, rfl, rfl⟩ := rd
    exact ⟨keep_builtin, strQ_sound a.g r h⟩
  | app i =>
    obtain ⟨b, rfl, rfl, m⟩ := rd
    obtain ⟨v, ys, rfl, e, hn, q⟩ := h
    obtain ⟨c, rfl, r1⟩ := r.one_inv
    exact ⟨keep_builtin, append_sound a.g m r1 e hn q⟩

theorem Ready.grow {μ μ' : List Addr} {s s' : Shared} {H : AH} {c : Cal} {f : Value} {first : List Value} (g : Good S μ H s) (gr : Grow S [] μ μ' s s') (x : Ready S μ s c f first) : Ready S μ' s' c f first := by
  cases c with
  | val g' fs => exact ⟨x.1.grow g gr, x.2.grow g gr⟩
  | str y m => exact x
  | app i => obtain ⟨a, h1, h2, h3⟩ := x; exact ⟨a, h1, h2, gr.at h3⟩

theorem smOf_nm {m : Nm} {k : SM} (h : smOf m = some k) : k.nm = m := by
  unfold smOf at h
  exact eq_of_beq (List.find?_some (p := fun k : SM => k.nm == m) h)
theorem getMethod_str {M : Model} {x : List Nat} {k : SM} {t : Tok} {pl : Sem Bool} {s : Shared} {E : Value → Shared → Prop} {Q : Value × List Value → Shared → Prop}
    (q : Q (.builtin k.id, [.str ⟨x.toArray⟩ t]) s) : wpAny M A (getMethod (.str ⟨x.toArray⟩ t) k.nm.str pl) Q E s := by
  cases k with
  | find => exact GM.find q
  | index => exact GM.index q
  | rindex => exact GM.rindex q
  | count => exact GM.count q
  | lower => exact GM.lower q
  | strip => exact GM.strip q
  | lstrip => exact GM.lstrip q
  | split => exact GM.split q
  | join => exact GM.join q

theorem cal_sound (SVS : SV S) {μ : List Addr} {H : AH} {s : Shared} (g : Good S μ H s) {o : V} {co : Value} {m : Nm} {c : Cal} {pl : Sem Bool} {E : Value → Shared → Prop} (r : VR S μ s.heap o co) (h : calOf S o m H = some c) :
    wpAny (model S.prog S.w) A (getMethod co m.str pl) (fun fx s' => (∃ t, s.toks ≤ t ∧ s' = { s with toks := t }) ∧ Ready S μ s c fx.1 fx.2) E s := by
  unfold calOf at h
  split at h
  · obtain ⟨t, rfl⟩ := r.ss_inv
    obtain ⟨k, hk, rfl⟩ := Option.map_eq_some_iff.mp h
    rw [← smOf_nm hk]
    exact getMethod_str ⟨⟨_, Nat.le_refl _, rfl⟩, t, rfl, rfl⟩
  · obtain ⟨a, rfl, ha⟩ := r.rr_inv
    split at h
    · rename_i ys hi
      split at h
      · rename_i hm
        cases h; subst hm
        obtain ⟨_, cs, k, e, rs⟩ := g.sr.obj _ _ a hi ha
        exact getMethod_list_append e rfl rfl ⟨⟨_, Nat.le_refl _, rfl⟩, a, rfl, rfl, ha⟩
      · cases h
    · rename_i c' d hi
      split at h
      · rename_i es hd
        obtain ⟨C, dx, ox, od, mm, h1, h2, h3, h4, h5, h6, h7, I, h8⟩ := g.instAt (.inl hi) ha hd
        split at h
        · rename_i f hf
          split at h
          · rename_i ho
            cases h
            rw [Bool.and_eq_true, Bool.not_eq_true'] at ho
            obtain ⟨k1, k2, k3, _⟩ := SVS.ao c' C m h1 ho.1
            refine method_own (g.kin SVS) I (k1 ho.2) k3 ?_
            refine wpAny_mono (get_raw SVS g (.inl hi) ha hd ho.1 hf) (fun v s' ⟨e, r⟩ => ?_) fun _ _ x => x
            exact ⟨⟨_, Nat.le_succ _, e⟩, r, .nil S⟩
          · cases h
        · rename_i hf
          split at h
          · rename_i k hk
            cases h
            obtain ⟨k1, f, k2, k3, k4⟩ := SVS.cm c' C m k h1 hk
            refine method_fn (g.kin SVS) I (plainGet_of k1).1 (plainGet_of k1).2 k3 (beq_iff_eq.mp k4) ?_ ⟨⟨_, Nat.le_refl _, rfl⟩, ?_, ?_⟩
            · have hx := h8 m
              rw [hf] at hx
              unfold shadowIn
              dsimp only
              rw [Nm.str, ns_look h7 h5, hx]; rfl
            · rw [← k2]; exact .gg
            · exact .one S (.rr ha)
          · cases h
      · cases h
    · cases h
  · cases h

theorem ok_meth (SVS : SV S) {x : X} {l : Expr} {m : Nm} {xs : XL} {es : List Expr} {ap p : Pos} (hs : superLike l = false) (hl : (ap.endLine == p.line) = true) (hn : es.length < 28) (hx : EvOk S A F L n Γ env x l) (hall : EvAll S A F L n Γ env xs es) :
    EvOk S A F L n Γ env (.meth x m xs) (.Call (.Attribute l m.str ap) es [] p) := by
  intro t H Q E μ ρ κ s a q
  refine fin_plain t trivial ?_
  rw [ev] at q
  refine meth_eval hs hl hn (all_args hall) ?_
  refine wpAny_mono (hx.val a q) (fun c s₁ ⟨μ₁, H₁, vc, gr, g, r, c', hc, q⟩ => fun pl => ?_) fun _ _ x => x
  refine wpAny_mono (cal_sound SVS g r hc) (fun fx s₂ ⟨⟨t2, ht, e⟩, rd⟩ => ?_) fun _ _ x => x
  subst e
  have gr2 : Grow S [] μ₁ μ₁ s₁ { s₁ with toks := t2 } := .toks t2 ht
  have g2 := g.toks t2
  have a2 := (a.grow gr g).grow gr2 g2
  refine wpAny_mono (callWith_sound hall a2 q fun cs vs μ₃ s₃ H₃ gr3 g3 r3 q3 => ?_) (fun _ _ x => x.pre (gr.trans gr2)) fun _ _ x => x.pre (gr.trans gr2)
  exact ready_call (a2.grow gr3 g3) (Ready.grow g2 gr3 (Ready.grow g gr2 rd)) r3 q3
end
end Mine
set_option maxRecDepth 10000
namespace Mine
open PySem PySem.Calls PyProof.Rows PySem.W

section
variable {S : Sx} {A : Around} {F env : Env} {L : Addr} {Γ : FC} {n : Nat}

inductive EvOpt (S : Sx) (A : Around) (F : Env) (L : Addr) (n : Nat) (Γ : FC) (env : Env) : XO → Option Expr → Prop where
  | none : EvOpt S A F L n Γ env .none none
  | some {x : X} {e : Expr} (h : EvOk S A F L n Γ env x e) : EvOpt S A F L n Γ env (.some x) (some e)

theorem EvOpt.val {x : XO} {e : Option Expr} (h : EvOpt S A F L n Γ env x e) {H : AH} {Q : PV} {E : PE} {μ : List Addr} {ρ : Lo} {κ : List Nat} {s : Shared} (a : At S A F env L Γ n μ ρ κ H s) (q : evO S n ρ κ E x H Q) :
    wpAny (model S.prog S.w) A (evalPart e env) (PostV S μ s Q) (PostE S μ s (here L) E) s := by
  cases h with
  | none => rw [evO] at q; exact wpAny_pure (.here a.g .nn q)
  | some h => rw [evO] at q; exact h.val a q

theorem ok_sl {x : X} {lo hi : XO} {l : Expr} {lo' hi' : Option Expr} {p p' : Pos} (hx : EvOk S A F L n Γ env x l) (h1 : EvOpt S A F L n Γ env lo lo') (h2 : EvOpt S A F L n Γ env hi hi') :
    EvOk S A F L n Γ env (.sl x lo hi) (.Subscript l (.Slice lo' hi' none p) p') := by
  intro t H Q E μ ρ κ s a q
  refine fin_plain t trivial ?_
  rw [ev] at q
  refine Subscript_ ?_
  refine wpAny_mono (hx.val a q) (fun c s₁ ⟨μ₁, H₁, vc, gr, g, r, q⟩ => ?_) fun _ _ x => x
  have a1 := a.grow gr g
  refine wpAny_Slice ?_
  refine wpAny_mono (h1.val a1 q) (fun d s₂ ⟨μ₂, H₂, vd, gr2, g2, r2, q⟩ => ?_) fun _ _ x => x.pre gr
  have a2 := a1.grow gr2 g2
  refine wpAny_mono (h2.val a2 q) (fun e s₃ ⟨μ₃, H₃, ve, gr3, g3, r3, q⟩ => ?_) fun _ _ x => x.pre (gr.trans gr2)
  refine wpAny_pure ?_
  refine wpAny_mono (slQ_sound (E := PostE S μ s (here L) E) (lower := l) (upper := l) g3 ((r.grow g gr2).grow g2 gr3) (r2.grow g2 gr3) r3 q) (fun _ _ x => x.pre ((gr.trans gr2).trans gr3)) fun _ _ x => x

theorem ok_isi (SVS : SV S) {x : X} {y : Expr} {f z : Str} {ty : Ty} {p p1 p2 : Pos} (hf : f = ("isinstance" : Str)) (kf : Γ.kind f = some .globalImplicit) (hz : ty.name = z) (kz : Γ.kind z = some .globalImplicit) (hx : EvOk S A F L n Γ env x y)
    (hst : ∀ rest : List Expr, starEach (y :: rest) env = (false, eval y env) :: starEach rest env) :
    EvOk S A F L n Γ env (.isi x ty) (.Call (.Name f p1) [y, .Name z p2] [] p) := by
  intro t H Q E μ ρ κ s a q
  refine fin_plain t trivial ?_
  rw [ev] at q
  subst hf hz
  refine Call_ ?_
  refine Name_function_global a.fr.kind ((kindOf_eq a _).trans kf) (load_name SVS a (.inr SVS.isi) ?_)
  rw [show starEach [y, .Name ty.name p2] env = (false, eval y env) :: (false, eval (.Name ty.name p2) env) :: [] by rw [hst]; rfl]
  refine callWith_of (P := fun h => KeepOk S h (.builtin "isinstance")) rfl (fun _ h => h) ?_
  refine Calls.evalArgs_plain (spliced_cons (wpAny_mono (hx.val a q) (fun c s₁ ⟨μ₁, H₁, vc, gr, g, r, q⟩ => ?_) fun _ _ x => x))
  have a1 := a.grow gr g
  refine spliced_cons (Name_function_global a1.fr.kind ((kindOf_eq a1 _).trans kz) (load_name SVS a1 (.inr (SVS.ty ty)) (spliced_nil ⟨keep_builtin, ?_⟩)) (by cases ty <;> decide))
  exact wpAny_mono (isiQ_sound g r q) (fun _ _ x => x.pre gr) fun _ _ x => x

theorem ok_rpl (SVS : SV S) {m x : X} {a b : Nat} {v u : Expr} {nm f : Str} {ap p p1 p2 p3 : Pos} {k1 : Nat} (hn : nm = ("replace" : Str)) (hf : f = ("repr" : Str)) (kf : Γ.kind f = some .globalImplicit)
    (hs : superLike v = false) (hl : (ap.endLine == p.line) = true) (hm0 : isLocX m = true) (hm : EvOk S A F L n Γ env m v) (hx : EvOk S A F L n Γ env x u) (hst : ∀ rest : List Expr, starEach (u :: rest) env = (false, eval u env) :: starEach rest env) :
    EvOk S A F L n Γ env (.rpl m a b x) (.Call (.Attribute v nm ap) [.Constant (.str ⟨#[a, b]⟩) k1 p1, .Call (.Name f p2) [u] [] p3] [] p) := by
  intro t H Q E μ ρ κ s at' q
  refine fin_plain t trivial ?_
  rw [ev] at q
  subst hn hf
  have hρ : ∃ (i : Nat) (v : V), ρ[i]? = some (some v) := by
    cases m with
    | loc i =>
      have q2 := q
      rw [ev] at q2
      obtain ⟨v, e, _⟩ := q2
      exact ⟨i, v, e⟩
    | _ => cases hm0
  refine meth_eval hs hl (by show 2 < 28; omega) rfl ?_
  refine wpAny_mono (hm.val at' q) (fun c s₁ ⟨μ₁, H₁, vc, gr, g, r, q⟩ => fun pl => ?_) fun _ _ x => x
  have a1 := at'.grow gr g
  obtain ⟨sx, rfl, hz, q⟩ := q
  obtain ⟨t1, rfl⟩ := r.ss_inv
  refine GM.replace ?_
  refine callWith_of (P := fun h => KeepOk S h (.builtin "str.replace")) rfl (fun _ h => h) ?_
  refine Calls.evalArgs_plain (spliced_cons (PySem.wpAny_Constant_str (k := k1) (pos := p1) ?_))
  have gr1 : Grow S [] μ₁ μ₁ s₁ { s₁ with toks := s₁.toks + 1 } := .toks _ (Nat.le_succ _)
  have a2 := a1.grow gr1 (g.toks _)
  have hpos := a1.pos hρ
  refine spliced_cons ?_
  refine Call_ (load_bi SVS (f := .repr) a2 rfl kf rfl ?_)
  rw [show starEach [u] env = (false, eval u env) :: [] by rw [hst]; rfl]
  refine callWith_of (P := fun h => KeepOk S h (.builtin "repr")) rfl (fun _ h => h) ?_
  refine Calls.evalArgs_plain (spliced_cons ?_)
  refine wpAny_mono (hx.val a2 q) (fun d s₂ ⟨μ₂, H₂, vd, gr2, g2, r2, q⟩ => ?_) fun _ _ x => (x.pre gr1).pre gr
  obtain ⟨rx, rfl, hr, hne, hrz, q⟩ := q
  obtain ⟨t2, rfl⟩ := r2.ss_inv
  refine spliced_nil ⟨keep_builtin, ?_⟩
  have htk : s₁.toks < s₂.toks := gr2.tok
  refine P.repr_of_str ?_ (by unfold reprS at hrz; rw [sizeLine_eq, Str.length, ← Array.length_toList]; omega)
  refine spliced_nil ⟨keep_builtin, ?_⟩
  have hyz : ((⟨#[a, b]⟩ : Str) == reprText ⟨rx.toArray⟩) = false := by
    rw [beq_eq_false_iff_ne]
    intro e
    apply hne
    unfold reprS
    rw [← e]
  have hl2 : (reprText ⟨rx.toArray⟩).length ≤ 16000 := by unfold reprS at hrz; rw [Str.length, ← Array.length_toList]; exact hrz
  have hl1 : (⟨sx.toArray⟩ : Str).length ≤ 1000 := by simpa [Str.length] using hz
  refine wpAny_up (SC.replace (show s₁.toks ≠ 0 by omega) (show s₂.toks ≠ 0 by omega) (show s₁.toks ≠ s₂.toks by omega) hyz ?_ fun t' k hk => ?_)
  · have h3 : ((⟨sx.toArray⟩ : Str).length + 1) * (reprText ⟨rx.toArray⟩).length ≤ 1001 * 16000 := Nat.mul_le_mul (Nat.succ_le_succ hl1) hl2
    exact Nat.le_trans (Nat.add_le_add hl1 h3) (by decide)
  · dsimp only at hk
    have e : (Txt.replace ⟨sx.toArray⟩ ⟨#[a, b]⟩ (reprText ⟨rx.toArray⟩)).cps.toList = joinS (reprS rx) (split2 sx a b) := by
      have := rpl_eq sx a b (reprText ⟨rx.toArray⟩).cps.toList
      rwa [show (⟨(reprText ⟨rx.toArray⟩).cps.toList.toArray⟩ : Str) = reprText ⟨rx.toArray⟩ from (str_eq_mk _).symm] at this
    rw [← e] at q
    exact ((PostV.str' g2 (u := t') k q (by omega)).pre (gr1.trans gr2)).pre gr
end
end Mine
set_option maxRecDepth 10000
namespace Mine
open PySem PySem.Calls PyProof.Rows PySem.W

/-! ## Making a function -/
section
variable {M : Model} {A : Around} {E : Value → Shared → Prop} {s : Shared}

theorem CodeR.keeps {h h' : Heap} {cd : Value} {q : Str} (x : CodeR h cd q) (k : ∀ b o, h.get? b = some o → h'.get? b = some o) : CodeR h' cd q :=
  let ⟨c, o, vs, t, a, b, r⟩ := x; ⟨c, o, vs, t, a, k _ _ b, r⟩

theorem newCode_c {ctx : CodeContext} {name qualname : Str} {firstLine argc posonly kwonly flags : Nat} {free : List Str} {isFunction : Bool}
    {parse : Option Nat} {locals : Option (List Str × List Str)} {template : Option FuncData} {Q : Value → Shared → Prop}
    (hQ : ∀ c h' tk, (∀ b o, s.heap.get? b = some o → h'.get? b = some o) → s.heap.objs.size ≤ c → c < h'.objs.size → CodeR h' (.ref c) qualname → Q (.ref c) { s with heap := h', toks := tk }) :
    wpAny M A (newCode ctx name qualname firstLine argc posonly kwonly flags free isFunction parse locals template) Q E s := by
  have fin : ∀ (H : Heap) (tk : Tok) (x : Obj), (∀ b o, s.heap.get? b = some o → H.get? b = some o) → s.heap.objs.size ≤ H.objs.size → x.isFreed = false → x.cls = .type "code" → (∃ vs t, x.data = .fields vs ∧ vs[1]? = some (.str qualname t)) →
      Q (.ref H.objs.size) { s with heap := H.push x, toks := tk } := by
    intro H tk x h1 h2 hx h3 ⟨vs, t, h4, h5⟩
    exact hQ _ _ _ (fun b o e => Heap.get?_push_of_some _ (h1 b o e)) h2 (by rw [Heap.size_push]; omega) ⟨_, _, vs, t, rfl, Heap.get?_push_size _ hx, h3, h4, h5⟩
  have kp : ∀ (H : Heap) (x : Obj), (∀ b o, s.heap.get? b = some o → H.get? b = some o) → ∀ b o, s.heap.get? b = some o → (H.push x).get? b = some o := fun H x h b o e => Heap.get?_push_of_some _ (h b o e)
  have sz : ∀ (H : Heap) (x : Obj), s.heap.objs.size ≤ H.objs.size → s.heap.objs.size ≤ (H.push x).objs.size := fun H x h => by rw [Heap.size_push]; omega
  unfold newCode
  refine wpAny_bind (wpAny_mkText (wpAny_bind (wpAny_mkText (wpAny_bind (wpAny_mkText (wpAny_bind (wpAny_mkStrs fun fs => wpAny_bind (wpAny_newObjAsIs_type (wpAny_bind (wpAny_alloc ?_))))))))))
  cases locals with
  | none =>
    cases template with
    | none =>
      refine wpAny_bind (wpAny_pure (wpAny_bind (wpAny_pure (wpAny_bind (wpAny_pure (wpAny_bind (wpAny_fresh (wpAny_bind (wpAny_mkText (wpAny_newObj_type ?_ (by size_fits)))))))))))
      exact fin _ _ _ (kp _ _ (kp _ _ fun b o e => e)) (sz _ _ (sz _ _ (Nat.le_refl _))) rfl rfl ⟨_, _, rfl, rfl⟩
    | some fd =>
      refine wpAny_bind (wpAny_pure (wpAny_bind (wpAny_pure (wpAny_bind (wpAny_bind (wpAny_alloc (wpAny_pure (wpAny_bind (wpAny_fresh (wpAny_bind (wpAny_mkText (wpAny_newObj_type ?_ (by size_fits)))))))))))))
      exact fin _ _ _ (kp _ _ (kp _ _ (kp _ _ fun b o e => e))) (sz _ _ (sz _ _ (sz _ _ (Nat.le_refl _)))) rfl rfl ⟨_, _, rfl, rfl⟩
  | some l =>
    cases template with
    | none =>
      refine wpAny_bind (wpAny_mkStrs fun a => wpAny_bind (wpAny_newObjAsIs_type (wpAny_bind (wpAny_mkStrs fun b => wpAny_bind (wpAny_newObjAsIs_type
        (wpAny_bind (wpAny_pure (wpAny_bind (wpAny_fresh (wpAny_bind (wpAny_mkText (wpAny_newObj_type ?_ (by size_fits)))))))))))))
      exact fin _ _ _ (kp _ _ (kp _ _ (kp _ _ (kp _ _ fun b o e => e)))) (sz _ _ (sz _ _ (sz _ _ (sz _ _ (Nat.le_refl _))))) rfl rfl ⟨_, _, rfl, rfl⟩
    | some fd =>
      refine wpAny_bind (wpAny_mkStrs fun a => wpAny_bind (wpAny_newObjAsIs_type (wpAny_bind (wpAny_mkStrs fun b => wpAny_bind (wpAny_newObjAsIs_type
        (wpAny_bind (wpAny_bind (wpAny_alloc (wpAny_pure (wpAny_bind (wpAny_fresh (wpAny_bind (wpAny_mkText (wpAny_newObj_type ?_ (by size_fits)))))))))))))))
      exact fin _ _ _ (kp _ _ (kp _ _ (kp _ _ (kp _ _ (kp _ _ fun b o e => e))))) (sz _ _ (sz _ _ (sz _ _ (sz _ _ (sz _ _ (Nat.le_refl _)))))) rfl rfl ⟨_, _, rfl, rfl⟩

theorem codeAmong_app {pos : Pos} {a b : Int} {c x : Value} : ∀ {l : List Value}, TriplesOk l → codeAmong pos (l ++ [rawInt a, rawInt b, c]) = some x → codeAmong pos l = some x ∨ x = c := by
  intro l
  fun_induction TriplesOk l with
  | case1 =>
    intro _ e
    simp only [List.nil_append, codeAmong, rawInt] at e
    split at e
    · cases e; exact .inr rfl
    · cases e
  | case2 a' t b' u y rest ih =>
    intro h e
    simp only [List.cons_append, codeAmong] at e ⊢
    split at e
    · rename_i q; rw [if_pos q]; exact .inl e
    · rename_i q; rw [if_neg q]; exact ih h e
  | case3 l h1 h2 => exact fun h => h.elim

theorem functionCode_c {env : Env} {c P : Addr} {ps : Array Value} {pos : Pos} {firstLine : Nat} {name qualname : Str} {p : Arguments} {scope : Scope} {body : FuncBody} {Q : Value → Shared → Prop}
    (hc : env.code = .ref c) (C : CodeHd s.heap c P) (hP : s.heap.get? P = some (tabObj ps)) (T : TabOk s.heap ps)
    (h : ∀ cv h' tk ps' q, Heap.ExtBut P s.heap h' → s.heap.objs.size ≤ h'.objs.size → h'.get? P = some (tabObj ps') → TabOk h' ps' → CodeR h' cv q → Q cv { s with heap := h', toks := tk }) :
    wpAny M A (functionCode env pos firstLine name qualname p scope body) Q E s := by
  have hok := C.code hP T.1
  cases hf : codeAmong pos ps.toList with
  | some cv =>
    obtain ⟨q, r⟩ := T.2 pos cv hf
    exact wpAny_functionCode_hit hc hok hf (h cv s.heap s.toks ps q (fun _ _ _ e => e) (Nat.le_refl _) hP T r)
  | none =>
    obtain ⟨o, vs, file, tf, flags, tg, inF, text, tt, op, ho, hd, h11, h2, h7, h9, h10, hop, hpd, htr, hne⟩ := id hok
    rw [hP] at hop; cases hop
    unfold functionCode codeAt
    rw [hc, if_neg (show ¬ ((Value.ref c == Value.none) = true) from Bool.false_ne_true)]
    refine wpAny_bind (wpAny_fieldsOf ho hd ?_)
    rw [h11]
    refine wpAny_bind (wpAny_fieldsOf hP rfl ?_)
    rw [hf, h2, h7, h9, h10]
    refine wpAny_bind (newCode_c fun c' h' tk hk hc' hlt hrec => ?_)
    have hP' := hk _ _ hP
    refine wpAny_bind (wpAny_updateFieldsOfTheText hP' rfl ?_)
    have hnew : Obj.mapFields (fun vs => if (codeAmong pos vs.toList).isSome = true then vs else vs ++ #[rawInt pos.line, rawInt pos.col, .ref c']) (tabObj ps) = tabObj (ps ++ #[rawInt pos.line, rawInt pos.col, .ref c']) := by
      unfold Obj.mapFields
      dsimp only
      rw [hf]; rfl
    have hget := Heap.get?_update_self (h := h') (fun o => Obj.mapFields (fun vs => if (codeAmong pos vs.toList).isSome = true then vs else vs ++ #[rawInt pos.line, rawInt pos.col, .ref c']) o) hP' (by rw [hnew]; rfl)
    rw [hnew] at hget
    refine wpAny_bind (wpAny_fieldsOf hget rfl ?_)
    have hl : (ps ++ #[rawInt pos.line, rawInt pos.col, Value.ref c']).toList = ps.toList ++ [rawInt pos.line, rawInt pos.col, .ref c'] := by simp
    rw [hl, codeAmong_snoc _ T.1 hf]
    have hext : Heap.ExtBut P s.heap (h'.update P fun o => Obj.mapFields (fun vs => if (codeAmong pos vs.toList).isSome = true then vs else vs ++ #[rawInt pos.line, rawInt pos.col, .ref c']) o) :=
      fun b o' hb e => (Heap.SameBut.update ..).extBut b o' hb (hk b o' e)
    have cstep : ∀ {cd q}, CodeR h' cd q → CodeR (h'.update P fun o => Obj.mapFields (fun vs => if (codeAmong pos vs.toList).isSome = true then vs else vs ++ #[rawInt pos.line, rawInt pos.col, .ref c']) o) cd q := by
      rintro cd q ⟨c2, o2, vs2, t2, e1, e2, e3, e4⟩
      refine ⟨c2, o2, vs2, t2, e1, (Heap.SameBut.update ..).extBut _ _ ?_ e2, e3, e4⟩
      rintro rfl
      rw [hP'] at e2; cases e2; cases e3
    refine wpAny_pure (h _ _ _ _ qualname hext ?_ hget ⟨by rw [hl]; exact TriplesOk_snoc _ _ _ _ T.1, fun pos' x e => ?_⟩ (cstep hrec))
    · exact Nat.le_trans hc' (Nat.le_trans (Nat.le_of_lt hlt) (Nat.le_of_eq (Heap.size_after_update ..).symm))
    · rw [hl] at e
      rcases codeAmong_app T.1 e with e | rfl
      · obtain ⟨q, r⟩ := T.2 pos' x e
        exact ⟨q, cstep (r.keeps hk)⟩
      · exact ⟨_, cstep hrec⟩

theorem makeTail_c {name qual : Str} {params : Arguments} {body : FuncBody} {scope : Scope} {env : Env} {clos : List (Str × Addr)} {mg : Str → Option Value} {c P : Addr} {ps : Array Value} {pos : Pos} {firstLine : Nat} {Q : Value → Shared → Prop}
    (hcl : closureFor scope env = pure clos) (hge0 : env.globals = mainGlobals) (hg : s.heap.Ns mainGlobals mg) (hcode : env.code = .ref c) (C : CodeHd s.heap c P) (hP : s.heap.get? P = some (tabObj ps)) (T : TabOk s.heap ps)
    (hgP : mainGlobals ≠ P) (hb : s.heap.BuiltinsAt mg P)
    (h : ∀ (fd : FuncData) h' tk ps' q, fd.params = params → fd.body = body → fd.scope = scope → fd.globals = mainGlobals → fd.closure = clos → fd.builtins = builtinsNs → fd.defaults = .none → fd.kwdefaults = .none → CodeR h' fd.code q →
      Heap.ExtBut P s.heap h' → s.heap.objs.size ≤ h'.objs.size → h'.get? P = some (tabObj ps') → TabOk h' ps' → Q (.ref h'.objs.size) { s with heap := h'.push { cls := .type "function", data := .func fd }, toks := tk }) :
    wpAny M A (makeTail name qual params body scope env .none .none none pos firstLine) Q E s := by
  obtain ⟨bm, ob, hbm, hne0, _, hneP, hbo, hcls, hdict, hdata⟩ := hb
  unfold makeTail
  rw [hcl, hge0]
  refine wpAny_bind (wpAny_pure ?_)
  cases clos with
  | nil =>
    simp only [List.isEmpty_nil, if_true]
    refine wpAny_bind (wpAny_pure (wpAny_bind (functionCode_c hcode C hP T fun cv h' tk ps' q hx hz' hP' T' hr => ?_)))
    have hx' : Heap.ExtBut P s.heap h' := fun b o hb' e => hx b o hb' (e)
    have hg' := hg.extBut hx' hgP
    refine wpAny_bind (wpAny_builtinsFor hg' hbm hne0 (hx' _ _ hneP hbo) hcls hdict hdata ?_)
    refine wpAny_bind (wpAny_nsGet hg' ?_)
    have hz2 : s.heap.objs.size ≤ h'.objs.size := hz'
    cases body with
    | expr e => exact wpAny_bind (wpAny_pure (wpAny_newObj_type (h _ h' tk ps' q rfl rfl rfl rfl rfl rfl rfl rfl hr hx' hz2 hP' T') (by size_fits)))
    | stmts b =>
      dsimp only
      cases hdoc : docOf b with
      | none => exact wpAny_bind (wpAny_pure (wpAny_newObj_type (h _ h' tk ps' q rfl rfl rfl rfl rfl rfl rfl rfl hr hx' hz2 hP' T') (by size_fits)))
      | some t => exact wpAny_bind (wpAny_mkText (wpAny_newObj_type (h _ h' _ ps' q rfl rfl rfl rfl rfl rfl rfl rfl hr hx' hz2 hP' T') (by size_fits)))
  | cons q r =>
    simp only [List.isEmpty_cons, Bool.false_eq_true, if_false]
    refine wpAny_bind (wpAny_newTextTuple (wpAny_bind (functionCode_c hcode (C.keeps fun b o e => Heap.get?_push_of_some _ e) (Heap.get?_push_of_some _ hP) (T.step (still_push _)) fun cv h' tk ps' q hx hz' hP' T' hr => ?_)))
    have hx' : Heap.ExtBut P s.heap h' := fun b o hb' e => hx b o hb' (Heap.get?_push_of_some _ e)
    have hg' := hg.extBut hx' hgP
    refine wpAny_bind (wpAny_builtinsFor hg' hbm hne0 (hx' _ _ hneP hbo) hcls hdict hdata ?_)
    refine wpAny_bind (wpAny_nsGet hg' ?_)
    have hz2 : s.heap.objs.size ≤ h'.objs.size := Nat.le_trans (by rw [Heap.size_push]; omega) hz'
    cases body with
    | expr e => exact wpAny_bind (wpAny_pure (wpAny_newObj_type (h _ h' tk ps' q rfl rfl rfl rfl rfl rfl rfl rfl hr hx' hz2 hP' T') (by size_fits)))
    | stmts b =>
      dsimp only
      cases hdoc : docOf b with
      | none => exact wpAny_bind (wpAny_pure (wpAny_newObj_type (h _ h' tk ps' q rfl rfl rfl rfl rfl rfl rfl rfl hr hx' hz2 hP' T') (by size_fits)))
      | some t => exact wpAny_bind (wpAny_mkText (wpAny_newObj_type (h _ h' _ ps' q rfl rfl rfl rfl rfl rfl rfl rfl hr hx' hz2 hP' T') (by size_fits)))
end
end Mine
set_option maxRecDepth 10000
namespace Mine
open PySem PySem.Calls PyProof.Rows PySem.W

theorem closure_go {env : Env} : ∀ (names : List (Str × NameKind)) (acc : List (Str × Addr)), (∀ x, (x, NameKind.free) ∈ names → ∃ a, env.cells.lookup x = some a) →
    ∃ clos, (forIn names acc fun (x : Str × NameKind) (r : List (Str × Addr)) => if (x.2 == .free) = true then (do let c ← cellOf env x.1; pure (ForInStep.yield ((x.1, c) :: r))) else (pure (ForInStep.yield r) : Sem _)) = pure clos ∧
      (∀ x, (x, NameKind.free) ∈ names → clos.lookup x = env.cells.lookup x) ∧ ∀ x, (x, NameKind.free) ∉ names → clos.lookup x = acc.lookup x
  | [], acc, _ => ⟨acc, rfl, fun _ h => absurd h List.not_mem_nil, fun _ _ => rfl⟩
  | (n, k) :: r, acc, h => by
    have hr : ∀ x, (x, NameKind.free) ∈ r → ∃ a, env.cells.lookup x = some a := fun x hx => h x (.tail _ hx)
    rw [List.forIn_cons]
    by_cases hk : (k == NameKind.free) = true
    · have hk' := eq_of_beq hk
      subst hk'
      obtain ⟨a, ha⟩ := h n (.head _)
      obtain ⟨clos, e, h1, h2⟩ := closure_go r ((n, a) :: acc) hr
      refine ⟨clos, ?_, fun x hx => ?_, fun x hx => ?_⟩
      · rw [if_pos hk]
        unfold cellOf
        rw [ha]
        exact e
      · by_cases hm : (x, NameKind.free) ∈ r
        · exact h1 x hm
        · rw [h2 x hm]
          rcases List.mem_cons.mp hx with q | q
          · cases q; simp [ha]
          · exact absurd q hm
      · rw [h2 x fun q => hx (.tail _ q)]
        have : (x == n) = false := by
          rw [beq_eq_false_iff_ne]
          rintro rfl; exact hx (.head _)
        rw [List.lookup_cons, this]
    · obtain ⟨clos, e, h1, h2⟩ := closure_go r acc hr
      have hn : ∀ x, (x, NameKind.free) ≠ (n, k) := by
        rintro x q; cases q; exact hk rfl
      refine ⟨clos, ?_, fun x hx => ?_, fun x hx => ?_⟩
      · rw [if_neg hk]; exact e
      · rcases List.mem_cons.mp hx with q | q
        · exact absurd q (hn x)
        · exact h1 x q
      · exact h2 x fun q => hx (.tail _ q)

theorem closureFor_c {scope : Scope} {env : Env} (h : ∀ x, (x, NameKind.free) ∈ scope.names → ∃ a, env.cells.lookup x = some a) :
    ∃ clos, closureFor scope env = pure clos ∧ ∀ x, (x, NameKind.free) ∈ scope.names → clos.lookup x = env.cells.lookup x := by
  obtain ⟨clos, e, h1, _⟩ := closure_go scope.names [] h
  refine ⟨clos, ?_, h1⟩
  unfold closureFor
  rw [← bind_pure (forIn scope.names [] _)] at e
  exact e

section
variable {S : Sx} {A : Around} {F env : Env} {L : Addr} {Γ : FC} {n : Nat} {μ : List Addr} {H : AH} {s : Shared}

theorem SV.tabNe (SVS : SV S) (g : Good S μ H s) {q : Addr × Addr} (hq : q ∈ S.tabs) : q.2 ∉ μ ∧ S.base.get? q.2 = none := by
  obtain ⟨ps, e, _⟩ := g.inv.tabs q hq
  exact ⟨g.sr.out e (by rintro (z | z | z | z | ⟨C, z⟩) <;> cases z), (SVS.tabs q hq).2⟩

/-- a table is written on, and new objects lie behind -/
theorem Good.ext (SVS : SV S) (g : Good S μ H s) {q : Addr × Addr} (hq : q ∈ S.tabs) {h' : Heap} {ps' : Array Value} (hx : Heap.ExtBut q.2 s.heap h') (hP : h'.get? q.2 = some (tabObj ps')) (T : TabOk h' ps') (hz : s.heap.objs.size ≤ h'.objs.size) (t : Nat) (ht : s.toks ≤ t) :
    Good S μ H { s with heap := h', toks := t } ∧ Grow S [] μ μ s { s with heap := h', toks := t } := by
  obtain ⟨ps, e, T0⟩ := g.inv.tabs q hq
  obtain ⟨hm, hb⟩ := SVS.tabNe g hq
  have st : Still s.heap h' := fun b o eb hk => by
    refine hx b o ?_ eb
    rintro rfl
    rw [e] at eb; cases eb
    rcases hk with (z | z) | z <;> cases z
  refine ⟨⟨⟨fun b o h => hx b o (fun z => by subst z; rw [hb] at h; cases h) (g.inv.stay b o h), g.inv.gens, fun q' hq' => ?_⟩, g.sr.len, g.sr.nodup, fun j o b h1 h2 => ?_⟩, ⟨[], by simp⟩, fun _ h1 h2 => absurd h1 h2, hz, fun b o h hw hn hl => ?_, rfl, ht⟩
  · by_cases hqq : q'.2 = q.2
    · rw [hqq]; exact ⟨ps', hP, T⟩
    · obtain ⟨ps2, e2, T2⟩ := g.inv.tabs q' hq'
      exact ⟨ps2, hx _ _ hqq e2, T2.step st⟩
  · exact (g.sr.obj j o b h1 h2).step st (fun _ _ z => z) fun ob z => hx b ob (fun y => hm (y ▸ mem_of_at h2)) z
  · refine ⟨o, hx b o ?_ h, .refl o⟩
    rintro rfl
    rw [e] at h; cases h
    exact hl (.inr rfl)

theorem list_map_some {α β : Type} {l : List α} {f : α → Option β} {r : List β} (h : l.map f = r.map some) {i : Nat} {x : α} (e : l[i]? = some x) : ∃ y, r[i]? = some y ∧ f x = some y := by
  have h1 : (l.map f)[i]? = (r.map some)[i]? := by rw [h]
  rw [List.getElem?_map, List.getElem?_map, e] at h1
  cases hr : r[i]? with
  | none => rw [hr] at h1; cases h1
  | some y => rw [hr] at h1; exact ⟨y, rfl, by simpa using h1⟩

theorem map_some_of {α β : Type} {l : List α} {f : α → Option β} {r : List β} (h : l.map f = r.map some) {i : Nat} {y : β} (e : r[i]? = some y) : ∃ x, l[i]? = some x ∧ f x = some y := by
  have h1 : (l.map f)[i]? = (r.map some)[i]? := by rw [h]
  rw [List.getElem?_map, List.getElem?_map, e] at h1
  cases hl : l[i]? with
  | none => rw [hl] at h1; cases h1
  | some x => rw [hl] at h1; exact ⟨x, rfl, by simpa using h1⟩

theorem mkFn (SVS : SV S) {ρ : Lo} {κ : List Nat} (a : At S A F env L Γ n μ ρ κ H s) {k : Nat} {args : Arguments} {sc : Scope} {body : FuncBody} {cs : List Nat} {name qual : Str} {pos : Pos} {fl : Nat} {E : Value → Shared → Prop}
    (hag : agFn S.fns (ob1 S.gname S.fns) Γ k args sc body = true) (hcs : (S.fns k).up.map (fun j => κ[j]?) = cs.map some) :
    wpAny (model S.prog S.w) A (makeFunction name qual args body sc env [] [] [] pos fl) (fun v s' => ∃ μ', Grow S [] μ μ' s s' ∧ Good S μ' (H ++ [.fn k cs]) s' ∧ VR S μ' s'.heap (.rr H.length) v) E s := by
  simp only [agFn, Bool.and_eq_true, beq_iff_eq, Bool.not_eq_true', List.isEmpty_iff, Option.isNone_iff_eq_none] at hag
  obtain ⟨⟨⟨⟨⟨⟨⟨⟨⟨⟨⟨⟨⟨h1, h2⟩, h3⟩, h4⟩, h5⟩, h6⟩, h7⟩, h8⟩, h9⟩, h10⟩, h11⟩, h12⟩, h13⟩, h14⟩ := hag
  -- its own names
  have hfc : agFc S.fns k sc = true := by
    unfold ob1 agBody at h1
    exact (Bool.and_eq_true_iff.mp (Bool.and_eq_true_iff.mp h1).2).1
  have hnc : ∀ p ∈ sc.names, (p.1 != ("__class__" : Str)) = true := by
    unfold ob1 at h1
    exact List.all_eq_true.mp (Bool.and_eq_true_iff.mp (Bool.and_eq_true_iff.mp h1).1).2
  have hfree : (sc.names.filter (·.2 == .free)).map (·.1) = (S.fns k).free := by
    simp only [agFc, Bool.and_eq_true, beq_iff_eq] at hfc
    rw [← hfc.1.1.1.2]
    congr 1
    exact List.filter_congr fun p hp => by rw [hnc p hp, Bool.and_true]
  have hx : ∀ x, (x, NameKind.free) ∈ sc.names → ∃ i : Nat, (S.fns k).free[i]? = some x := by
    intro x hx
    have : x ∈ (S.fns k).free := by
      rw [← hfree]
      exact List.mem_map.mpr ⟨(x, .free), List.mem_filter.mpr ⟨hx, rfl⟩, rfl⟩
    exact List.mem_iff_getElem?.mp this
  have hx' : ∀ (i : Nat) (x : Str), (S.fns k).free[i]? = some x → (x, NameKind.free) ∈ sc.names := by
    intro i x hi
    have : x ∈ (sc.names.filter (·.2 == .free)).map (·.1) := by rw [hfree]; exact List.mem_of_getElem? hi
    obtain ⟨⟨y, kd⟩, hy, rfl⟩ := List.mem_map.mp this
    obtain ⟨hm, hk⟩ := List.mem_filter.mp hy
    have := eq_of_beq hk
    dsimp only at this
    subst this; exact hm
  have cell : ∀ (i : Nat) (x : Str), (S.fns k).free[i]? = some x → ∃ j ad, cs[i]? = some j ∧ env.cells.lookup x = some ad ∧ μ[j]? = some ad := by
    intro i x hi
    obtain ⟨u, hu, hv⟩ := map_some_of h14 hi
    obtain ⟨j, hj, hk⟩ := list_map_some hcs hu
    obtain ⟨j', ad, q1, q2, q3⟩ := a.fr.cel u x hv
    rw [hk] at q1; cases q1
    exact ⟨j, ad, hj, q2, q3⟩
  obtain ⟨clos, hcl, hlook⟩ := closureFor_c (scope := sc) (env := env) fun x hm => let ⟨i, hi⟩ := hx x hm; let ⟨_, ad, _, q, _⟩ := cell i x hi; ⟨ad, q⟩
  obtain ⟨q, hq, hcode⟩ := a.fr.nest h5
  obtain ⟨ps, hP, T⟩ := a.g.inv.tabs q hq
  have C : CodeHd s.heap q.1 q.2 := (SVS.tabs q hq).1.keeps a.g.inv.stay
  have hG := ns_stays SVS.g a.g.inv.stay
  have ne : ∀ b o, S.base.get? b = some o → b ≠ q.2 := fun b o e z => by subst z; rw [(SVS.tabs q hq).2] at e; cases e
  have hgP : mainGlobals ≠ q.2 := by obtain ⟨o, _, _, e, _⟩ := SVS.g; exact ne _ o e
  rw [makeFunction_eq]
  simp only [h8, List.zip_nil_left, List.filterMap_nil, List.isEmpty_nil, if_true, pure_bind]
  refine wpAny_up (makeTail_c hcl a.fr.glo hG hcode C hP T hgP ?_ fun fd h' tk ps' qn e1 e2 e3 e4 e5 e6 e7 e8 hr hx2 hz hP' T' htk => ?_)
  · obtain ⟨bm, ob, b1, b2, b3, b4, b5, b6⟩ := SVS.bmain
    refine ⟨bm, ob, b1, b2, ?_, ne _ ob b3, a.g.inv.stay _ _ b3, b4, b5, b6⟩
    rintro rfl
    obtain ⟨o, es, ep, e, hd, _⟩ := SVS.g
    rw [b3] at e; cases e; rw [b6] at hd; cases hd
  · dsimp only at htk
    obtain ⟨g1, gr1⟩ := a.g.ext SVS hq hx2 hP' T' hz tk htk
    have pre : ∀ (i : Nat) (ad : Addr), μ[i]? = some ad → (μ ++ [h'.objs.size])[i]? = some ad := fun i ad z => by
      rw [List.getElem?_append_left (List.getElem?_eq_some_iff.mp z).1]; exact z
    have ho : OR S (μ ++ [h'.objs.size]) (h'.push { cls := .type "function", data := .func fd }) (.fn k cs) h'.objs.size := by
      refine ⟨g1.base_new, fd, Heap.get?_push_size _ rfl, ⟨?_, ?_, e4, e6, ⟨e7, e8⟩, ?_, ⟨qn, hr.keeps fun b o z => Heap.get?_push_of_some _ z⟩, fun i x hi => ?_⟩, ?_⟩
      · rw [e1]; exact h13
      · rw [e1]; exact ⟨h6, h7, h8, h9⟩
      · rw [e3]; exact ⟨h3, h4, h2⟩
      · obtain ⟨j, ad, q1, q2, q3⟩ := cell i x hi
        exact ⟨j, ad, q1, by rw [e5, hlook x (hx' i x hi)]; exact q2, pre _ _ q3⟩
      · rw [e2, e3]; exact h1
    refine ⟨μ ++ [h'.objs.size], gr1.trans (Grow.alloc (s := { s with heap := h', toks := tk }) { cls := .type "function", data := .func fd }), g1.alloc _ _ ho, .rr ?_⟩
    rw [← a.g.sr.len]; simp

theorem ok_lam (SVS : SV S) {k : Nat} {args : Arguments} {sc : Scope} {body : Expr} {p : Pos} (hag : agFn S.fns (ob1 S.gname S.fns) Γ k args sc (.expr body) = true) :
    EvOk S A F L n Γ env (.lam k) (.Lambda args body sc p) := by
  intro t H Q E μ ρ κ s a q
  refine fin_plain t trivial ?_
  rw [ev] at q
  obtain ⟨cs, hcs, q⟩ := q
  have hd : args.defaults = [] ∧ args.kw_defaults = [] := by
    simp only [agFn, Bool.and_eq_true, List.isEmpty_iff] at hag
    exact ⟨hag.1.1.1.1.2, hag.1.1.1.2⟩
  refine kla_eval ?_ (wpAny_mono (mkFn SVS a hag hcs) (fun v s' ⟨μ', gr, g, r⟩ => ⟨μ', _, _, gr, g, r, q⟩) fun _ _ x => x)
  obtain ⟨x1, x2, x3, x4, x5, x6, x7⟩ := args
  obtain ⟨hd1, hd2⟩ := hd
  dsimp only at hd1 hd2
  subst hd1 hd2
  rw [arm_defaultsOf_mk]; rfl
end
end Mine
set_option maxRecDepth 10000
namespace Mine
open PySem PySem.Calls PyProof.Rows PySem.W

/-! ## Iterators -/
def iterNames : List String := ["list_iterator", "tuple_iterator", "range_iterator", "str_iterator", "str_ascii_iterator", "dict_keyiterator"]
def IterObj (h : Heap) (I : Addr) : Prop := ∃ o n, h.get? I = some o ∧ o.cls = .type n ∧ n ∈ iterNames

theorem iter_ne {n : String} (h : n ∈ iterNames) : n ≠ "list" ∧ n ≠ "dict" ∧ n ≠ "cell" ∧ n ≠ "function" ∧ n ≠ "tuple" ∧ n ≠ "range" ∧ n ≠ "code" ∧ n ≠ "frame" ∧ n ≠ "traceback" := by
  simp only [iterNames, List.mem_cons, List.not_mem_nil, or_false] at h
  rcases h with rfl | rfl | rfl | rfl | rfl | rfl <;> decide

section
variable {S : Sx} {A : Around} {F env : Env} {L : Addr} {Γ : FC} {n : Nat} {μ : List Addr} {H : AH} {s : Shared} {ρ : Lo} {κ : List Nat}

theorem IterObj.out {I : Addr} (g : Good S μ H s) (x : IterObj s.heap I) : I ∉ μ := by
  obtain ⟨o, n, e, c, h⟩ := x
  obtain ⟨h1, h2, h3, h4, _⟩ := iter_ne h
  exact g.sr.out e (not_mCls c h1 h2 h3 h4)

/-- only an iterator moves -/
theorem Good.iter (g : Good S μ H s) {I : Addr} {h' : Heap} {tk : Nat} (x : IterObj s.heap I) (hb : S.base.get? I = none) (hk : ∀ b o, b ≠ I → s.heap.get? b = some o → h'.get? b = some o) (u : Up s { s with heap := h', toks := tk }) :
    Good S μ H { s with heap := h', toks := tk } ∧ Grow S [I] μ μ s { s with heap := h', toks := tk } := by
  have hm := x.out g
  obtain ⟨o, n, e, c, h⟩ := x
  obtain ⟨h1, h2, h3, h4, h5, h6, h7, h8, h9⟩ := iter_ne h
  have st : Still s.heap h' := fun b ob eb hk' => hk b ob (by
    rintro rfl
    rw [e] at eb; cases eb
    rw [c] at hk'
    rcases hk' with (z | z) | z <;> injection z with z <;> first | exact h5 z | exact h6 z | exact h7 z) eb
  refine ⟨⟨⟨fun b ob z => hk b ob (fun y => by subst y; rw [hb] at z; cases z) (g.inv.stay b ob z), g.inv.gens, fun q hq => ?_⟩, g.sr.len, g.sr.nodup, fun j ob b z1 z2 => ?_⟩,
    ⟨[], by simp⟩, fun _ y1 y2 => absurd y1 y2, u.2, fun b ob z hw _ _ => ⟨ob, hk b ob (by simpa using hw) z, .refl ob⟩, rfl, u.1⟩
  · obtain ⟨ps, e2, T⟩ := g.inv.tabs q hq
    refine ⟨ps, hk _ _ ?_ e2, T.step st⟩
    intro z; rw [z, e] at e2; cases e2; cases c
  · exact (g.sr.obj j ob b z1 z2).step st (fun _ _ y => y) fun o' y => hk b o' (fun w => hm (w ▸ mem_of_at z2)) y

theorem At.iter (a : At S A F env L Γ n μ ρ κ H s) {I : Addr} {h' : Heap} {tk : Nat} (x : IterObj s.heap I) (hb : S.base.get? I = none) (hk : ∀ b o, b ≠ I → s.heap.get? b = some o → h'.get? b = some o) (u : Up s { s with heap := h', toks := tk }) :
    At S A F env L Γ n μ ρ κ H { s with heap := h', toks := tk } ∧ Grow S [I] μ μ s { s with heap := h', toks := tk } := by
  obtain ⟨g', gr⟩ := a.g.iter x hb hk u
  obtain ⟨o, nm, e, c, h⟩ := x
  obtain ⟨h1, h2, h3, h4, h5, h6, h7, h8, h9⟩ := iter_ne h
  refine ⟨⟨a.fl, ⟨?_, a.ar.depth, a.ar.units, a.ar.hand⟩, ?_, g', fun h => Nat.lt_of_lt_of_le (a.pos h) u.1⟩, gr⟩
  · obtain ⟨out, f1, f2⟩ := a.ar.frames
    refine ⟨out, f1, f2.step fun b ob eb cb hd => ⟨ob, hk b ob ?_ eb, cb, hd⟩⟩
    rintro rfl
    rw [e] at eb; cases eb; rw [c] at cb; injection cb with cb; exact h8 cb
  · have mo : Mono μ μ s.heap h' := gr.mono a.g.sr (by
      intro b hb' ob eb
      rw [List.mem_singleton] at hb'
      subst hb'
      rw [e] at eb; cases eb
      rintro (z | z) <;> rw [c] at z <;> injection z with z <;> first | exact h5 z | exact h6 z)
    obtain ⟨q1, ob, q2, q3, q4⟩ := a.fr.out
    have hne : env.locals ≠ I := by
      rintro z
      rw [z, e] at q2; cases q2
      rcases q3 with q3 | q3 <;> rw [c] at q3 <;> injection q3 with q3 <;> first | exact h8 q3 | exact h2 q3
    obtain ⟨m, hn, hv⟩ := a.fr.ns
    exact ⟨a.fr.kind, a.fr.names, a.fr.glo, a.fr.blt, a.fr.frame, ⟨m, Heap.Ns.sameData hn q2 (hk _ _ hne q2) rfl, fun i y q => (hv i y q).mono S mo⟩, a.fr.len, ⟨q1, ob, hk _ _ hne q2, q3, q4⟩, a.fr.cel, a.fr.nest⟩

def Itr (S : Sx) (μ : List Addr) (h : Heap) (xs : List V) (ep : Nat) (src : V) (I : Addr) (i : Nat) : Prop := match src with
  | .rr j => ∃ ax, μ[j]? = some ax ∧ (match ep with
    | 0 => h.IsListIter I ax i
    | ep + 1 => h.IsKeyIter I ax i xs.length ep)
  | .tt _ => ∃ t cs, h.IsTupleIter I t i ∧ IsTup h t cs ∧ VRs S μ h xs cs.toList
  | .ss y => ∃ t ty, (ty = "str_ascii_iterator" ∨ ty = "str_iterator") ∧ h.IsStrIter I ty ⟨y.toArray⟩ t i ∧ xs = y.map fun c => .ss [c]
  | .rg a b => IsRangeIter h I (a + i) ((xs.length : Int) - i) 1 ∧ xs = (List.range (b - a).toNat).map (fun (k : Nat) => V.ii (a + (k : Int)))
  | _ => False

theorem push_new {E : Value → Shared → Prop} {Q : Value → Shared → Prop} (g : Good S μ H s) {ob : Obj} {nm : String} (hc : ob.cls = .type nm) (hn : nm ∈ iterNames) (hf : ob.isFreed = false) :
    S.base.get? s.heap.objs.size = none ∧ IterObj (s.heap.push ob) s.heap.objs.size ∧ Grow S [] μ μ s { s with heap := s.heap.push ob } ∧ Good S μ H { s with heap := s.heap.push ob } :=
  ⟨g.base_new, ⟨ob, nm, Heap.get?_push_size _ hf, hc, hn⟩, .push _, g.push _⟩

theorem small_range {a b : Int} (h : 0 ≤ a ∧ a ≤ 1000000 ∧ -1000000 ≤ b ∧ b ≤ 1000000) : Builtin.Range.small a b 1 = true := by
  unfold Builtin.Range.small
  rw [rangeSize_one]
  unfold Builtin.Range.rangeFitsLong
  have : (1 : Int) > 0 := by decide
  simp only [this, if_true, Bool.and_eq_true, decide_eq_true_eq, Bool.or_eq_true]
  split <;> omega

theorem iter_make (SVS : SV S) (g : Good S μ H s) {E : Value → Shared → Prop} {src : V} {c : Value} {xs : List V} {ep : Nat} (r : VR S μ s.heap src c) (hs : snap H src = some (xs, ep)) :
    wpAny (model S.prog S.w) A (pyIter c) (fun v s' => ∃ I, v = .ref I ∧ S.base.get? I = none ∧ s.heap.objs.size ≤ I ∧ IterObj s'.heap I ∧ Grow S [] μ μ s s' ∧ Good S μ H s' ∧ Itr S μ s'.heap xs ep src I 0) E s := by
  unfold snap at hs
  split at hs
  · rename_i a b
    split at hs
    · rename_i hsm
      cases hs
      rw [VR] at r
      obtain ⟨ad, t1, t2, t3, rfl, ho⟩ := r
      refine wpAny_pyIter_range (a := a) (b := b) (c := 1) ho (small_range hsm) ?_
      obtain ⟨p1, p2, p3, p4⟩ := push_new g (E := E) (Q := fun _ _ => True) (ob := { cls := .type "range_iterator", data := .fields #[rawInt a, rawInt (Builtin.Range.rangeSize a b 1), rawInt 1] }) rfl (by decide) rfl
      refine ⟨_, rfl, p1, Nat.le_refl _, p2, p3, p4, ?_, rfl⟩
      have e : Builtin.Range.rangeSize a b 1 = (((List.range (b - a).toNat).map (fun (k : Nat) => V.ii (a + (k : Int)))).length : Int) - ((0 : Nat) : Int) := by
        rw [rangeSize_one, List.length_map, List.length_range]
        split <;> omega
      show Heap.get? _ _ = _
      rw [← e]
      exact (Heap.get?_push_size _ rfl).trans (by simp)
    · cases hs
  · cases hs
    obtain ⟨t, rfl⟩ := r.ss_inv
    rename_i y
    cases ha : (⟨y.toArray⟩ : Str).cps.all (· < 128)
    · refine wpAny_pyIter_wide ha ?_
      obtain ⟨p1, p2, p3, p4⟩ := push_new g (E := E) (Q := fun _ _ => True) (ob := { cls := .type "str_iterator", data := .fields #[.str ⟨y.toArray⟩ t, .int 0 0] }) rfl (by decide) rfl
      exact ⟨_, rfl, p1, Nat.le_refl _, p2, p3, p4, t, _, .inr rfl, ⟨_, Heap.get?_push_size _ rfl, rfl, rfl⟩, rfl⟩
    · refine wpAny_pyIter_ascii ha ?_
      obtain ⟨p1, p2, p3, p4⟩ := push_new g (E := E) (Q := fun _ _ => True) (ob := { cls := .type "str_ascii_iterator", data := .fields #[.str ⟨y.toArray⟩ t, .int 0 0] }) rfl (by decide) rfl
      exact ⟨_, rfl, p1, Nat.le_refl _, p2, p3, p4, t, _, .inl rfl, ⟨_, Heap.get?_push_size _ rfl, rfl, rfl⟩, rfl⟩
  · cases hs
    obtain ⟨a, cs, rfl, ht, rs⟩ := r.tt_inv
    refine wpAny_pyIter_tuple ht ?_
    obtain ⟨p1, p2, p3, p4⟩ := push_new g (E := E) (Q := fun _ _ => True) (ob := { cls := .type "tuple_iterator", data := .fields #[.ref a, .int 0 0] }) rfl (by decide) rfl
    exact ⟨_, rfl, p1, Nat.le_refl _, p2, p3, p4, a, cs, ⟨_, Heap.get?_push_size _ rfl, rfl, rfl⟩, ht.keeps fun b o e => Heap.get?_push_of_some _ e, rs.grow g p3⟩
  · rename_i j
    obtain ⟨a, rfl, m⟩ := r.rr_inv
    have lst : ∀ {ys : List V}, getL H j = some ys → wpAny (model S.prog S.w) A (pyIter (.ref a)) (fun v s' => ∃ I, v = .ref I ∧ S.base.get? I = none ∧ s.heap.objs.size ≤ I ∧ IterObj s'.heap I ∧ Grow S [] μ μ s s' ∧ Good S μ H s' ∧ Itr S μ s'.heap ys 0 (.rr j) I 0) E s := by
      intro ys hl
      obtain ⟨cs, hl, rs⟩ := OR.isList g hl m
      refine wpAny_pyIter_list hl ?_
      obtain ⟨p1, p2, p3, p4⟩ := push_new g (E := E) (Q := fun _ _ => True) (ob := { cls := .type "list_iterator", data := .fields #[.ref a, .int 0 0] }) rfl (by decide) rfl
      exact ⟨_, rfl, p1, Nat.le_refl _, p2, p3, p4, a, m, _, Heap.get?_push_size _ rfl, rfl, rfl⟩
    split at hs
    · rename_i hj; cases hs; exact lst (by unfold getL; rw [hj])
    · rename_i hj; cases hs; exact lst (by unfold getL; rw [hj])
    · rename_i es ep' hj
      cases hs
      obtain ⟨hb, kvs, hd, rs⟩ := g.sr.obj j _ a hj m
      have hns : (a == sysModules) = false := hb.2
      refine wpAny_pyIter_dict hns hd ?_
      obtain ⟨p1, p2, p3, p4⟩ := push_new g (E := E) (Q := fun _ _ => True) (ob := { cls := .type "dict_keyiterator", data := .fields #[.ref a, .int 0 0, .int kvs.length 0, .int ep' 0] }) rfl (by decide) rfl
      refine ⟨_, rfl, p1, Nat.le_refl _, p2, p3, p4, a, m, _, Heap.get?_push_size _ rfl, rfl, ?_⟩
      rw [List.length_map, ← rs.length]; rfl
    · cases hs
  · cases hs

theorem Itr.mono {μ' : List Addr} {h h' : Heap} {xs : List V} {ep : Nat} {src : V} {I : Addr} {i : Nat} (x : Itr S μ h xs ep src I i) (m : Mono μ μ' h h') (e : ∀ o, h.get? I = some o → h'.get? I = some o) : Itr S μ' h' xs ep src I i := by
  cases src with
  | rr j =>
    obtain ⟨ax, h1, h2⟩ := x
    refine ⟨ax, m.pre _ _ h1, ?_⟩
    cases ep with
    | zero => obtain ⟨o, q, r⟩ := h2; exact ⟨o, e _ q, r⟩
    | succ ep => obtain ⟨o, q, r⟩ := h2; exact ⟨o, e _ q, r⟩
  | tt ys =>
    obtain ⟨t, cs, ⟨o, q, r⟩, ⟨o2, q2, c2, n2, d2⟩, rs⟩ := x
    exact ⟨t, cs, ⟨o, e _ q, r⟩, ⟨o2, m.tup _ _ q2 (.inl c2), c2, n2, d2⟩, rs.mono S m⟩
  | ss y => obtain ⟨t, ty, h1, ⟨o, q, r⟩, h3⟩ := x; exact ⟨t, ty, h1, ⟨o, e _ q, r⟩, h3⟩
  | rg a b => exact ⟨e _ x.1, x.2⟩
  | nn => exact x.elim
  | bb b => exact x.elim
  | ii i => exact x.elim
  | gg k => exact x.elim

theorem EntR.key {h : Heap} : ∀ {es : List (Nm × V)} {kvs : List (Str × Value)} {i : Nat} {p : Nm × V} {k : Str} {x : Value}, EntR S μ h es kvs → es[i]? = some p → kvs[i]? = some (k, x) → k = ⟨p.1.toArray⟩
  | [], _, i, _, _, _, _, e, _ => by cases i <;> cases e
  | (a, b) :: r, _, i, p, k, x, ⟨c, kr, e1, e2, e3⟩, h1, h2 => by
    subst e1
    cases i with
    | zero => cases h1; cases h2; rfl
    | succ i => exact EntR.key e3 (by simpa using h1) (by simpa using h2)

/-- what a turn's asking gives -/
def NextOk (S : Sx) (μ : List Addr) (s : Shared) (xs : List V) (ep : Nat) (src : V) (I : Addr) (i : Nat) (r : Option Value) (s' : Shared) : Prop :=
  ∃ h' tk, s' = { s with heap := h', toks := tk } ∧ (∀ b o, b ≠ I → s.heap.get? b = some o → h'.get? b = some o) ∧
    match xs[i]?, r with
    | some x, some c => VR S μ h' x c ∧ Itr S μ h' xs ep src I (i + 1) ∧ IterObj h' I
    | none, none => True
    | _, _ => False

theorem NextOk.item {xs : List V} {ep : Nat} {src : V} {I : Addr} {i : Nat} {x : V} {c : Value} {h' : Heap} {tk : Nat} (hx : xs[i]? = some x) (hk : ∀ b o, b ∉ [I] → s.heap.get? b = some o → h'.get? b = some o)
    (h1 : VR S μ h' x c) (h2 : Itr S μ h' xs ep src I (i + 1)) (h3 : IterObj h' I) : NextOk S μ s xs ep src I i (some c) { s with heap := h', toks := tk } :=
  ⟨h', tk, rfl, fun b o hb e => hk b o (by simpa using hb) e, by rw [hx]; exact ⟨h1, h2, h3⟩⟩
theorem NextOk.done {xs : List V} {ep : Nat} {src : V} {I : Addr} {h' : Heap} {tk : Nat} (hk : ∀ b o, b ∉ [I] → s.heap.get? b = some o → h'.get? b = some o) :
    NextOk S μ s xs ep src I xs.length none { s with heap := h', toks := tk } :=
  ⟨h', tk, rfl, fun b o hb e => hk b o (by simpa using hb) e, by rw [List.getElem?_eq_none (Nat.le_refl _)]; trivial⟩

theorem mono_iter (g : Good S μ H s) {I : Addr} {h' : Heap} (x : IterObj s.heap I) (hk : ∀ b o, b ∉ [I] → s.heap.get? b = some o → h'.get? b = some o) : Mono μ μ s.heap h' := by
  obtain ⟨o, n, e, c, h⟩ := x
  obtain ⟨h1, h2, h3, h4, h5, h6, h7, h8, h9⟩ := iter_ne h
  refine ⟨fun _ _ z => z, fun a ob ea ca => hk a ob ?_ ea⟩
  rw [List.mem_singleton]
  rintro rfl
  rw [e] at ea; cases ea
  rcases ca with z | z <;> rw [c] at z <;> injection z with z <;> first | exact h5 z | exact h6 z

theorem iter_next (g : Good S μ H s) (hh : A.handled = none) {E : Value → Shared → Prop} {src : V} {xs : List V} {ep : Nat} {I : Addr} {i : Nat} (hs : snap H src = some (xs, ep)) (x : Itr S μ s.heap xs ep src I i) (io : IterObj s.heap I) (hi : i ≤ xs.length) :
    wpAny (model S.prog S.w) A (pyNext (.ref I)) (NextOk S μ s xs ep src I i) E s := by
  -- one walk serves all
  have main : ∀ {fp : List Addr} {m : Nat} {P : Nat → Value → Prop} {St : Nat → Heap → Prop}, Walks S.prog S.w A I fp [I] m P St → m = xs.length → St i s.heap →
      (∀ v h' y, xs[i]? = some y → P i v → St (i + 1) h' → (∀ b o, b ∉ [I] → s.heap.get? b = some o → h'.get? b = some o) → VR S μ h' y v ∧ Itr S μ h' xs ep src I (i + 1) ∧ IterObj h' I) →
      wpAny (model S.prog S.w) A (pyNext (.ref I)) (NextOk S μ s xs ep src I i) E s := by
    intro fp m P St W hm st k
    subst hm
    rcases Nat.lt_or_ge i xs.length with hlt | hge
    · refine W.item i s _ E hlt st fun v h' tk hP hst hk => ?_
      have hx := List.getElem?_eq_getElem hlt
      obtain ⟨k1, k2, k3⟩ := k v h' _ hx hP hst hk
      exact .item hx hk k1 k2 k3
    · have : i = xs.length := Nat.le_antisymm hi hge
      subst this
      exact W.done s _ E st fun h' tk hk => .done hk
  have obj : ∀ {h' : Heap} {nm : String}, (∃ o, h'.get? I = some o ∧ o.cls = .type nm) → nm ∈ iterNames → IterObj h' I := fun ⟨o, e, c⟩ hn => ⟨o, _, e, c, hn⟩
  cases src with
  | rg a b =>
    obtain ⟨x1, x2⟩ := x
    refine main (Walks.range hh I a 1 xs.length) rfl ?_ fun v h' y hy hP hst hk => ?_
    · show IsRangeIter _ _ _ _ _
      rw [Int.mul_one]; exact x1
    · obtain ⟨t, rfl⟩ := hP
      rw [x2, List.getElem?_map] at hy
      obtain ⟨k, hk1, rfl⟩ := Option.map_eq_some_iff.mp hy
      have hk2 : k = i := by
        obtain ⟨hlt, e⟩ := List.getElem?_eq_some_iff.mp hk1
        rw [List.getElem_range] at e
        exact e.symm
      subst hk2
      have e1 : a + (k : Int) * 1 = a + (k : Int) := by rw [Int.mul_one]
      refine ⟨?_, ⟨?_, x2⟩, ?_⟩
      · rw [e1]; exact .ii
      · have := hst
        rw [Int.mul_one] at this
        exact this
      · exact obj ⟨_, hst, rfl⟩ (by decide)
  | ss y =>
    obtain ⟨t, ty, hty, hit, rfl⟩ := x
    have st : ∀ {h' : Heap} {j : Nat}, h'.IsStrIter I ty ⟨y.toArray⟩ t j → Itr S μ h' (y.map fun c => V.ss [c]) ep (.ss y) I j := fun q => ⟨t, ty, hty, q, rfl⟩
    have fin : ∀ (v : Value) (h' : Heap) (z : V), (y.map fun c => V.ss [c])[i]? = some z → SignAt ⟨y.toArray⟩ i v → h'.IsStrIter I ty ⟨y.toArray⟩ t (i + 1) → VR S μ h' z v ∧ Itr S μ h' (y.map fun c => V.ss [c]) ep (.ss y) I (i + 1) ∧ IterObj h' I := by
      intro v h' z hz ⟨c, u, hc, hv⟩ q
      subst hv
      rw [List.getElem?_map] at hz
      obtain ⟨c', hc', rfl⟩ := Option.map_eq_some_iff.mp hz
      have : c' = c := by
        have h1 : y[i]? = some c := by simpa using hc
        rw [hc'] at h1; exact Option.some.inj h1
      subst this
      refine ⟨.ss, st q, ?_⟩
      obtain ⟨o, e, c, _⟩ := q
      rcases hty with rfl | rfl <;> exact ⟨o, _, e, c, by decide⟩
    rcases hty with rfl | rfl
    · exact main (Walks.strAscii hh I ⟨y.toArray⟩ t) (by simp) hit fun v h' z hz hP hst _ => fin v h' z hz hP hst
    · exact main (Walks.strWide hh I ⟨y.toArray⟩ t) (by simp) hit fun v h' z hz hP hst _ => fin v h' z hz hP hst
  | tt ys =>
    obtain ⟨t, cs, hit, ht, rs⟩ := x
    have hne : t ≠ I := by
      rintro rfl
      obtain ⟨o, e, c, _⟩ := ht
      obtain ⟨o2, e2, c2, _⟩ := hit
      rw [e] at e2; cases e2; rw [c] at c2; injection c2 with c2; exact absurd c2 (by decide)
    refine main (Walks.tuple hh I t hne cs) (VRs.size rs) ⟨hit, ht⟩ fun v h' y hy hP hst hk => ?_
    have mo := mono_iter g io hk
    obtain ⟨c, hc, r⟩ := VRs.get S rs hy
    have : c = v := by
      have h1 : cs[i]? = some c := by simpa using hc
      rw [hP] at h1; exact (Option.some.inj h1).symm
    subst this
    exact ⟨r.mono S mo, ⟨t, cs, hst.1, hst.2, rs.mono S mo⟩, obj (let ⟨o, e, c, _⟩ := hst.1; ⟨o, e, c⟩) (by decide)⟩
  | rr j =>
    obtain ⟨ax, m, hit⟩ := x
    cases ep with
    | zero =>
      have hl : getL H j = some xs := by
        unfold snap at hs
        unfold getL
        dsimp only at hs
        split at hs <;> first | (rename_i q; rw [q]; cases hs; rfl) | cases hs
      obtain ⟨cs, hls, rs⟩ := OR.isList g hl m
      have hne : ax ≠ I := fun z => io.out g (z ▸ mem_of_at m)
      refine main (Walks.list hh I ax hne cs) (VRs.size rs) ⟨hit, hls⟩ fun v h' y hy hP hst hk => ?_
      have mo := mono_iter g io hk
      obtain ⟨c, hc, r⟩ := VRs.get S rs hy
      have : c = v := by
        have h1 : cs[i]? = some c := by simpa using hc
        rw [hP] at h1; exact (Option.some.inj h1).symm
      subst this
      exact ⟨r.mono S mo, ⟨ax, m, hst.1⟩, obj (let ⟨o, e, c, _⟩ := hst.1; ⟨o, e, c⟩) (by decide)⟩
    | succ ep =>
      have hd : ∃ es, H[j]? = some (.dict es ep) ∧ xs = es.map fun p => .ss p.1 := by
        unfold snap at hs
        dsimp only at hs
        split at hs <;> first | (rename_i q; cases hs; exact ⟨_, q, rfl⟩) | cases hs
      obtain ⟨es, hj, rfl⟩ := hd
      obtain ⟨hb, kvs, hd, rs⟩ := g.sr.obj j _ ax hj m
      have hne : ax ≠ I := fun z => io.out g (z ▸ mem_of_at m)
      have hlen : kvs.length = (es.map fun p => V.ss p.1).length := by rw [List.length_map, rs.length]
      have hit' : s.heap.IsKeyIter I ax i kvs.length ep := by rw [hlen]; exact hit
      refine main (Walks.dictKeys hh I ax hne kvs ep) hlen ⟨hit', hd⟩ fun v h' y hy hP hst hk => ?_
      obtain ⟨k, x', hk1, hk2⟩ := hP
      obtain ⟨t, rfl⟩ := Value.isStrOf_shape hk2
      rw [List.getElem?_map] at hy
      obtain ⟨p, hp, rfl⟩ := Option.map_eq_some_iff.mp hy
      have hkey := rs.key hp hk1
      subst hkey
      refine ⟨.ss, ⟨ax, m, ?_⟩, obj (let ⟨o, e, c, _⟩ := hst.1; ⟨o, e, c⟩) (by decide)⟩
      rw [← hlen]; exact hst.1
  | nn => exact x.elim
  | bb b => exact x.elim
  | ii i => exact x.elim
  | gg k => exact x.elim
end
end Mine
set_option maxRecDepth 10000
namespace Mine
open PySem PySem.Calls PyProof.Rows PySem.W

theorem putName_shape (name : Str) (h : Int) (key v : Value) (o : Obj) : (Obj.putName name h key v o).cls = o.cls ∧ (Obj.putName name h key v o).dict = o.dict ∧ (Obj.putName name h key v o).slots = o.slots := by
  obtain ⟨c, d, dt, sl⟩ := o
  cases dt <;> try exact ⟨rfl, rfl, rfl⟩
  simp only [Obj.putName_eq, Obj.putNameByArray]
  split <;> exact ⟨rfl, rfl, rfl⟩

theorem putName_freed (name : Str) (h : Int) (key v : Value) (o : Obj) (ho : o.isFreed = false) : (Obj.putName name h key v o).isFreed = false := by
  obtain ⟨c, d, dt, sl⟩ := o
  cases dt <;> first | exact ho | (simp only [Obj.putName_eq, Obj.putNameByArray]; split <;> rfl)

theorem putName_size (name : Str) (h : Int) (key v : Value) (o : Obj) {ds : Array DictEntry} {k : Nat} (hd : o.data = .dict ds k) : ∃ ds' k', (Obj.putName name h key v o).data = .dict ds' k' ∧ ds'.size ≤ ds.size + 1 := by
  obtain ⟨c, d, dt, sl⟩ := o
  dsimp only at hd
  subst hd
  simp only [Obj.putName_eq, Obj.putNameByArray]
  split
  · exact ⟨_, _, rfl, by simp⟩
  · exact ⟨_, _, rfl, by simp⟩

/-- a namespace written on: its class stays -/
theorem nsSet_c {M : Model} {A : Around} {E : Value → Shared → Prop} {s : Shared} {a : Addr} {m : Str → Option Value} {o : Obj} {name : Str} {v : Value} {Q : Unit → Shared → Prop} (hn : s.heap.Ns a m) (ho : s.heap.get? a = some o)
    (h : ∀ h' o', h'.Ns a (fun x => if x = name then some v else m x) → Heap.SameBut a s.heap h' → h'.get? a = some o' → o'.cls = o.cls → o'.dict = o.dict → o'.slots = o.slots → (∀ ds k, o.data = .dict ds k → ∃ ds' k', o'.data = .dict ds' k' ∧ ds'.size ≤ ds.size + 1) → Q () { s with heap := h', toks := s.toks + 1 }) :
    wpAny M A (nsSet a name v) Q E s := by
  intro Γ p hΓ
  have key := Sem.wp_nsSet M Γ (fun e _ s' => E e s') p s hn name v (fun _ _ s' => s'.heap.Ns a (fun x => if x = name then some v else m x) ∧ Heap.SameBut a s.heap s'.heap) (fun h' x y => ⟨x, y⟩)
  obtain ⟨o2, es, ep, ho2, hd, hk, hm⟩ := hn
  rw [ho] at ho2; cases ho2
  have hany : es.any (·.refKey) = false := by
    rw [Array.any_eq_false']; intro e he; obtain ⟨n, t, h⟩ := hk e he; simp [DictEntry.refKey, h]
  simp only [nsSet, strHash, Sem.wp_bind', Sem.wp_cmd_ask, Sem.wp_pure', Sem.wp_cmd_mkText] at key ⊢
  rw [Sem.wp_loadPart_of M Γ _ p { s with toks := s.toks + 1 } (o := o) _ ho] at key ⊢
  simp only [hd, aRefKeyMayBeTheName_at, hany, Bool.and_false, Bool.false_eq_true, if_false, Sem.wp_cmd_updatePart] at key ⊢
  obtain ⟨k1, k2, k3⟩ := key
  refine ⟨k1, ?_⟩
  have hf : ∀ x : Obj, s.heap.get? a = some x → x.isFreed = false := fun x e => (Heap.get?_some_iff.mp e).2
  have hg := Heap.get?_update_self (h := s.heap) (Obj.putName name (PyData.keyHash M.w.params name) (.str name s.toks) v) ho (putName_freed _ _ _ _ _ (hf _ ho))
  obtain ⟨p1, p2, p3⟩ := putName_shape name (PyData.keyHash M.w.params name) (.str name s.toks) v o
  exact h _ _ k2 k3 hg p1 p2 p3 fun ds k hd => putName_size _ _ _ _ _ hd

section
variable {S : Sx} {A : Around} {F env : Env} {L : Addr} {Γ : FC} {n : Nat} {μ : List Addr} {H : AH} {s : Shared} {ρ : Lo} {κ : List Nat}

/-- a namespace outside of the abstract heap is written on -/
theorem Good.loc (g : Good S μ H s) {a : Addr} {o : Obj} {h' : Heap} (e : s.heap.get? a = some o) (c : o.cls = .type "frame" ∨ o.cls = .type "dict") (hm : a ∉ μ) (hb : S.base.get? a = none) (sb : Heap.SameBut a s.heap h') (t : Nat) (ht : s.toks ≤ t) :
    Good S μ H { s with heap := h', toks := t } ∧ Grow S [a] μ μ s { s with heap := h', toks := t } := by
  have st : Still s.heap h' := fun b ob eb hk => by
    refine (sb.2 b ?_).trans eb
    rintro rfl
    rw [e] at eb; cases eb
    rcases c with c | c <;> rw [c] at hk <;> rcases hk with (z | z) | z <;> injection z with z <;> exact absurd z (by decide)
  refine ⟨⟨⟨fun b ob z => (sb.2 b fun y => by subst y; rw [hb] at z; cases z).trans (g.inv.stay b ob z), g.inv.gens, fun q hq => ?_⟩, g.sr.len, g.sr.nodup, fun j ob b z1 z2 => ?_⟩,
    ⟨[], by simp⟩, fun _ y1 y2 => absurd y1 y2, Nat.le_of_eq sb.1.symm, fun b ob z hw _ _ => ⟨ob, (sb.2 b (by simpa using hw)).trans z, .refl ob⟩, rfl, ht⟩
  · obtain ⟨ps, e2, T⟩ := g.inv.tabs q hq
    refine ⟨ps, (sb.2 _ ?_).trans e2, T.step st⟩
    intro z; rw [z, e] at e2; cases e2
    rcases c with c | c <;> cases c
  · exact (g.sr.obj j ob b z1 z2).step st (fun _ _ y => y) fun o' y => (sb.2 b (fun w => hm (w ▸ mem_of_at z2))).trans y

theorem ns_data {h : Heap} {a : Addr} {m : Str → Option Value} {o : Obj} (n : h.Ns a m) (e : h.get? a = some o) : ∃ es k, o.data = .dict es k := by
  obtain ⟨o', es, ep, e1, e2, _⟩ := n
  rw [e] at e1; cases e1; exact ⟨es, ep, e2⟩

/-- a local is stored -/
theorem At.store {B : Around} (a : At S A F env L Γ n μ ρ κ H s) {E : Value → Shared → Prop} {i : Nat} {x : Str} {v : V} {c : Value} (h1 : Γ.vars[i]? = some x) (h2 : Γ.kind x = some .local) (hnd : Γ.vars.Nodup) (r : VR S μ s.heap v c) :
    wpAny (model S.prog S.w) B (storeName env x c) (fun _ s' => At S A F env L Γ n μ (ρ.set i (some v)) κ H s' ∧ Grow S [env.locals] μ μ s s') E s := by
  obtain ⟨q1, ob, q2, q3, q4⟩ := a.fr.out
  obtain ⟨m, hn, hv⟩ := a.fr.ns
  rw [storeName_local ((kindOf_eq a x).trans h2) (by rw [a.fr.kind]; rfl)]
  refine nsSet_c hn q2 fun h' o' n' sb e' c' d' sl' _ => ?_
  obtain ⟨g', gr⟩ := a.g.loc q2 q3 q4 q1 sb (s.toks + 1) (Nat.le_succ _)
  refine ⟨⟨a.fl, ⟨?_, a.ar.depth, a.ar.units, a.ar.hand⟩, ?_, g', fun _ => Nat.succ_pos _⟩, gr⟩
  · obtain ⟨out, f1, f2⟩ := a.ar.frames
    refine ⟨out, f1, f2.step fun b o eb cb hd => ?_⟩
    by_cases hbl : b = env.locals
    · subst hbl
      rw [q2] at eb; cases eb
      exact ⟨o', e', c'.trans cb, ns_data n' e'⟩
    · exact ⟨o, (sb.2 b hbl).trans eb, cb, hd⟩
  · have mo : Mono μ μ s.heap h' := gr.mono a.g.sr (by
      intro b hb' o3 eb
      rw [List.mem_singleton] at hb'
      subst hb'
      rw [q2] at eb; cases eb
      rintro (z | z) <;> rcases q3 with q3 | q3 <;> rw [q3] at z <;> injection z with z <;> exact absurd z (by decide))
    refine ⟨a.fr.kind, a.fr.names, a.fr.glo, a.fr.blt, a.fr.frame, ⟨_, n', fun j y hj => ?_⟩, by rw [List.length_set]; exact a.fr.len, ⟨q1, o', e', by rw [c']; exact q3, q4⟩, a.fr.cel, a.fr.nest⟩
    by_cases hji : j = i
    · subst hji
      rw [h1] at hj; cases hj
      have hlt : j < ρ.length := by rw [a.fr.len]; exact (List.getElem?_eq_some_iff.mp h1).1
      rw [List.getD_eq_getElem?_getD, List.getElem?_set_self hlt]
      simp only [if_true, Option.getD_some]
      exact ⟨c, rfl, r.mono S mo⟩
    · have hxy : y ≠ x := fun z => hji (by
        subst z
        exact (List.getElem?_inj (List.getElem?_eq_some_iff.mp hj).1 hnd).mp (hj.trans h1.symm))
      rw [List.getD_eq_getElem?_getD, List.getElem?_set_ne (Ne.symm hji), ← List.getD_eq_getElem?_getD]
      rw [if_neg hxy]
      exact (hv j y hj).mono S mo
end
end Mine
set_option maxRecDepth 10000
namespace Mine
open PySem PySem.Calls PyProof.Rows PySem.W

section
variable {S : Sx} {A : Around} {F env : Env} {L : Addr} {Γ : FC} {n : Nat} {μ : List Addr} {H : AH} {s : Shared} {ρ : Lo} {κ : List Nat}

/-- nothing old has moved -/
theorem Good.keeps (g : Good S μ H s) {h' : Heap} {tk : Nat} (hk : ∀ b o, s.heap.get? b = some o → h'.get? b = some o) (u : Up s { s with heap := h', toks := tk }) :
    Good S μ H { s with heap := h', toks := tk } ∧ Grow S [] μ μ s { s with heap := h', toks := tk } := by
  have st : Still s.heap h' := fun b ob eb _ => hk b ob eb
  exact ⟨⟨⟨fun b ob z => hk b ob (g.inv.stay b ob z), g.inv.gens, fun q hq => let ⟨ps, e2, T⟩ := g.inv.tabs q hq; ⟨ps, hk _ _ e2, T.step st⟩⟩, g.sr.len, g.sr.nodup, fun j ob b z1 z2 => (g.sr.obj j ob b z1 z2).step st (fun _ _ y => y) fun o' y => hk b o' y⟩,
    ⟨[], by simp⟩, fun _ y1 y2 => absurd y1 y2, u.2, fun b ob z _ _ _ => ⟨ob, hk b ob z, .refl ob⟩, rfl, u.1⟩
theorem At.keeps (a : At S A F env L Γ n μ ρ κ H s) {h' : Heap} {tk : Nat} (hk : ∀ b o, s.heap.get? b = some o → h'.get? b = some o) (u : Up s { s with heap := h', toks := tk }) :
    At S A F env L Γ n μ ρ κ H { s with heap := h', toks := tk } ∧ Grow S [] μ μ s { s with heap := h', toks := tk } := by
  obtain ⟨g', gr⟩ := a.g.keeps hk u
  exact ⟨a.grow gr g', gr⟩

theorem unpack_sound (g : Good S μ H s) (hh : A.handled = none) {E : Value → Shared → Prop} {v : V} {c : Value} {xs : List V} {k : Nat} (r : VR S μ s.heap v c) (h : unp H v = some xs) (hk : k = xs.length) :
    wpAny (model S.prog S.w) A (unpackItems c k none) (fun cs s' => ∃ h', s' = { s with heap := h' } ∧ (∀ b o, s.heap.get? b = some o → h'.get? b = some o) ∧ Up s s' ∧ VRs S μ s.heap xs cs) E s := by
  subst hk
  refine wpAny_ups ?_
  cases v with
  | tt ys =>
    obtain ⟨a, cs, rfl, ht, rs⟩ := r.tt_inv
    cases h
    rw [← VRs.size rs]
    exact wpAny_unpackItems_tuple hh ht fun h' hx u => ⟨h', rfl, fun b o e => hx b o (Nat.ne_of_lt (Heap.lt_size e)) e, u, rs⟩
  | rr i =>
    obtain ⟨a, rfl, m⟩ := r.rr_inv
    obtain ⟨cs, hl, rs⟩ := OR.isList g h m
    rw [← VRs.size rs]
    exact kun_itemsOf hh hl fun h' hx u => ⟨h', rfl, fun b o e => hx b o (Nat.ne_of_lt (Heap.lt_size e)) e, u, rs⟩
  | _ => cases h

theorem At.hh (a : At S A F env L Γ n μ ρ κ H s) (hn : n ≠ 0) : A.handled = none := a.ar.hand hn

/-- a cell is stored -/
theorem At.storeC {B : Around} (a : At S A F env L Γ n μ ρ κ H s) {E : Value → Shared → Prop} {i j : Nat} {x : Str} {v : V} {c : Value} {w : Option V} (h1 : Γ.cn[i]? = some x) (h2 : Γ.kind x = some .cell) (h3 : κ[i]? = some j) (h4 : H[j]? = some (.cell w)) (r : VR S μ s.heap v c) :
    wpAny (model S.prog S.w) B (storeName env x c) (fun _ s' => At S A F env L Γ n μ ρ κ (H.set j (.cell (some v))) s' ∧ Grow S [] μ μ s s') E s := by
  obtain ⟨j', ad, k1, k2, k3⟩ := a.fr.cel i x h1
  rw [h3] at k1; cases k1
  obtain ⟨hb, cv, e3, _⟩ := a.g.sr.obj j _ ad h4 k3
  have hc : s.heap.IsCell ad cv := ⟨_, e3, rfl⟩
  have cellObj : ∀ h' : Heap, h'.IsCell ad (some c) → True := fun _ _ => trivial
  unfold storeName
  simp only [(kindOf_eq a x).trans h2, a.fr.kind]
  refine wpAny_bind (wpAny_cellOf k2 ?_)
  unfold cellSet
  refine wpAny_bind (wpAny_load e3 ?_)
  dsimp only
  refine wpAny_update e3 ?_
  have e' := Heap.get?_update_self (h := s.heap) (fun o => { o with data := .cell (some c) }) e3 rfl
  have sb : Heap.SameBut ad s.heap (s.heap.update ad fun o => { o with data := .cell (some c) }) := .update ..
  have st : Still s.heap _ := still_sameBut e3 (.inr (.inr (.inl rfl))) sb
  obtain ⟨g', gr⟩ := a.g.set (o' := .cell (some v)) k3 e3 e' rfl hb sb ⟨hb, some c, e', c, rfl, r.mono S (st.mono fun _ _ z => z)⟩ s.toks (Nat.le_refl _)
  exact ⟨a.grow gr g', gr⟩

theorem assignEach_cons {t : Tg} {e : Expr} (h : agTg Γ t e = true) (rest : List Expr) : assignEach (e :: rest) env = (false, assign e env) :: assignEach rest env := by
  cases t <;> unfold agTg at h <;> split at h <;> first | rfl | cases h

theorem locals_fixed (a : At S A F env L Γ n μ ρ κ H s) : ∀ b ∈ [env.locals], ∀ o, s.heap.get? b = some o → ¬ fixed o.cls := by
  intro b hb o e
  rw [List.mem_singleton] at hb
  subst hb
  obtain ⟨_, ob, q2, q3, _⟩ := a.fr.out
  rw [q2] at e; cases e
  rintro (z | z) <;> rcases q3 with q3 | q3 <;> rw [q3] at z <;> injection z with z <;> exact absurd z (by decide)

theorem VRs.three_inv {h : Heap} {x y z : V} {cs : List Value} (r : VRs S μ h [x, y, z] cs) : ∃ c d e, cs = [c, d, e] ∧ VR S μ h x c ∧ VR S μ h y d ∧ VR S μ h z e := by
  rw [VRs] at r
  obtain ⟨c, cr, rfl, r1, r2⟩ := r
  obtain ⟨d, e, rfl, r3, r4⟩ := r2.two_inv
  exact ⟨c, d, e, rfl, r1, r3, r4⟩

theorem VRs.four_inv {h : Heap} {x y z u : V} {cs : List Value} (r : VRs S μ h [x, y, z, u] cs) : ∃ c d e f, cs = [c, d, e, f] ∧ VR S μ h x c ∧ VR S μ h y d ∧ VR S μ h z e ∧ VR S μ h u f := by
  rw [VRs] at r
  obtain ⟨c, cr, rfl, r1, r2⟩ := r
  obtain ⟨d, e, f, rfl, r3, r4, r5⟩ := r2.three_inv
  exact ⟨c, d, e, f, rfl, r1, r3, r4, r5⟩

theorem setTg_sound (hnd : Γ.vars.Nodup) {E : Value → Shared → Prop} : ∀ {t : Tg} {e : Expr} {v : V} {c : Value} {K : Lo → AH → Prop} {ρ : Lo} {H : AH} {s : Shared}, agTg Γ t e = true → At S A F env L Γ n μ ρ κ H s → VR S μ s.heap v c → setTg n κ t v ρ H K →
    wpAny (model S.prog S.w) A (assign e env c) (fun _ s' => ∃ ρ' H', At S A F env L Γ n μ ρ' κ H' s' ∧ Grow S [env.locals] μ μ s s' ∧ K ρ' H') E s
  | .loc i, e, v, c, K, ρ, H, s, ag, a, r, q => by
    unfold agTg at ag
    split at ag
    · rename_i x p
      simp only [Bool.and_eq_true, beq_iff_eq] at ag
      rw [setTg] at q
      exact assign_Name (wpAny_mono (a.store ag.1 ag.2 hnd r) (fun _ s' ⟨x, y⟩ => ⟨_, _, x, y, q⟩) fun _ _ x => x)
    · cases ag
  | .cel i, e, v, c, K, ρ, H, s, ag, a, r, q => by
    unfold agTg at ag
    split at ag
    · rename_i x p
      simp only [Bool.and_eq_true, beq_iff_eq] at ag
      rw [setTg] at q
      obtain ⟨j, w, q1, q2, q3⟩ := q
      exact assign_Name (wpAny_mono (a.storeC ag.1 ag.2 q1 q2 r) (fun _ s' ⟨x, y⟩ => ⟨_, _, x, y.weaken (by simp), q3⟩) fun _ _ x => x)
    · cases ag
  | .two t1 t2, e, v, c, K, ρ, H, s, ag, a, r, q => by
    unfold agTg at ag
    split at ag
    · rename_i e1 e2 k p
      rw [Bool.and_eq_true] at ag
      rw [setTg] at q
      obtain ⟨hn, x, y, hu, q⟩ := q
      rw [arm_assign_Tuple, assignEach_cons ag.1, assignEach_cons ag.2]
      refine wpAny_bind (wpAny_standAt ?_)
      unfold unpack
      refine wpAny_bind (wpAny_holding (wpAny_mono (unpack_sound (k := 2) a.g (a.hh hn) r hu rfl) (fun cs s₁ ⟨h', e0, hk, u, rs⟩ => ?_) fun _ _ x => x))
      subst e0
      obtain ⟨c1, c2, rfl, r1, r2⟩ := rs.two_inv
      obtain ⟨a1, gr1⟩ := a.keeps (tk := s.toks) hk u
      refine wpAny_bind (wpAny_holding (wpAny_mono (setTg_sound hnd ag.1 a1 (r1.grow a.g gr1) q) (fun _ s₂ ⟨ρ₂, H₂, a2, gr2, q2⟩ => ?_) fun _ _ x => x))
      have mo2 : Mono μ μ _ s₂.heap := gr2.mono a1.g.sr (locals_fixed a1)
      refine wpAny_bind (wpAny_holding (wpAny_mono (setTg_sound hnd ag.2 a2 ((r2.grow a.g gr1).mono S mo2) q2) (fun _ s₃ ⟨ρ₃, H₃, a3, gr3, q3⟩ => ?_) fun _ _ x => x))
      exact wpAny_pure ⟨ρ₃, H₃, a3, ((gr1.weaken (by simp)).trans gr2).trans gr3, q3⟩
    · cases ag
  | .three t1 t2 t3, e, v, c, K, ρ, H, s, ag, a, r, q => by
    unfold agTg at ag
    split at ag
    · rename_i e1 e2 e3 k p
      rw [Bool.and_eq_true, Bool.and_eq_true] at ag
      rw [setTg] at q
      obtain ⟨hn, x, y, z, hu, q⟩ := q
      rw [arm_assign_Tuple, assignEach_cons ag.1.1, assignEach_cons ag.1.2, assignEach_cons ag.2]
      refine wpAny_bind (wpAny_standAt ?_)
      unfold unpack
      refine wpAny_bind (wpAny_holding (wpAny_mono (unpack_sound (k := 3) a.g (a.hh hn) r hu rfl) (fun cs s₁ ⟨h', e0, hk, u, rs⟩ => ?_) fun _ _ x => x))
      subst e0
      obtain ⟨c1, c2, c3, rfl, r1, r2, r3⟩ := rs.three_inv
      obtain ⟨a1, gr1⟩ := a.keeps (tk := s.toks) hk u
      refine wpAny_bind (wpAny_holding (wpAny_mono (setTg_sound hnd ag.1.1 a1 (r1.grow a.g gr1) q) (fun _ s₂ ⟨ρ₂, H₂, a2, gr2, q2⟩ => ?_) fun _ _ x => x))
      have mo2 : Mono μ μ _ s₂.heap := gr2.mono a1.g.sr (locals_fixed a1)
      refine wpAny_bind (wpAny_holding (wpAny_mono (setTg_sound hnd ag.1.2 a2 ((r2.grow a.g gr1).mono S mo2) q2) (fun _ s₃ ⟨ρ₃, H₃, a3, gr3, q3⟩ => ?_) fun _ _ x => x))
      have mo3 : Mono μ μ _ s₃.heap := gr3.mono a2.g.sr (locals_fixed a2)
      refine wpAny_bind (wpAny_holding (wpAny_mono (setTg_sound hnd ag.2 a3 (((r3.grow a.g gr1).mono S mo2).mono S mo3) q3) (fun _ s₄ ⟨ρ₄, H₄, a4, gr4, q4⟩ => ?_) fun _ _ x => x))
      exact wpAny_pure ⟨ρ₄, H₄, a4, (((gr1.weaken (by simp)).trans gr2).trans gr3).trans gr4, q4⟩
    · cases ag
  | .four i j l m, e, v, c, K, ρ, H, s, ag, a, r, q => by
    unfold agTg at ag
    split at ag
    · rename_i x1 p1 x2 p2 x3 p3 x4 p4 k p
      simp only [Bool.and_eq_true, beq_iff_eq] at ag
      obtain ⟨⟨⟨⟨⟨g1, k1⟩, g2, k2⟩, g3, k3⟩, g4, k4⟩, _⟩ := ag
      rw [setTg] at q
      obtain ⟨hn, x, y, z, u, hu, q⟩ := q
      rw [arm_assign_Tuple, assignEach_cons (t := .loc i) (Γ := Γ) (by simp [agTg, g1, k1]), assignEach_cons (t := .loc j) (Γ := Γ) (by simp [agTg, g2, k2]), assignEach_cons (t := .loc l) (Γ := Γ) (by simp [agTg, g3, k3]), assignEach_cons (t := .loc m) (Γ := Γ) (by simp [agTg, g4, k4])]
      refine wpAny_bind (wpAny_standAt ?_)
      unfold unpack
      refine wpAny_bind (wpAny_holding (wpAny_mono (unpack_sound (k := 4) a.g (a.hh hn) r hu rfl) (fun cs s₁ ⟨h', e0, hk, u, rs⟩ => ?_) fun _ _ x => x))
      subst e0
      obtain ⟨c1, c2, c3, c4, rfl, r1, r2, r3, r4⟩ := rs.four_inv
      obtain ⟨a1, gr1⟩ := a.keeps (tk := s.toks) hk u
      refine wpAny_bind (wpAny_holding (assign_Name (wpAny_mono (a1.store (i := i) g1 k1 hnd (r1.grow a.g gr1)) (fun _ s₂ ⟨a2, gr2⟩ => ?_) fun _ _ x => x)))
      have mo2 : Mono μ μ _ s₂.heap := gr2.mono a1.g.sr (locals_fixed a1)
      refine wpAny_bind (wpAny_holding (assign_Name (wpAny_mono (a2.store (i := j) g2 k2 hnd ((r2.grow a.g gr1).mono S mo2)) (fun _ s₃ ⟨a3, gr3⟩ => ?_) fun _ _ x => x)))
      have mo3 : Mono μ μ _ s₃.heap := gr3.mono a2.g.sr (locals_fixed a2)
      refine wpAny_bind (wpAny_holding (assign_Name (wpAny_mono (a3.store (i := l) g3 k3 hnd (((r3.grow a.g gr1).mono S mo2).mono S mo3)) (fun _ s₄ ⟨a4, gr4⟩ => ?_) fun _ _ x => x)))
      have mo4 : Mono μ μ _ s₄.heap := gr4.mono a3.g.sr (locals_fixed a3)
      refine wpAny_bind (wpAny_holding (assign_Name (wpAny_mono (a4.store (i := m) g4 k4 hnd ((((r4.grow a.g gr1).mono S mo2).mono S mo3).mono S mo4)) (fun _ s₅ ⟨a5, gr5⟩ => ?_) fun _ _ x => x)))
      exact wpAny_pure ⟨_, _, a5, ((((gr1.weaken (by simp)).trans gr2).trans gr3).trans gr4).trans gr5, q⟩
    · cases ag
end
end Mine
set_option maxRecDepth 10000
namespace Mine
open PySem PySem.Calls PyProof.Rows PySem.W

theorem Grow.forget {S : Sx} {W W' μ μ' μ'' : List Addr} {s s' s'' : Shared} (x : Grow S W μ μ' s s') (y : Grow S W' μ' μ'' s' s'') (h : ∀ b ∈ W', s.heap.objs.size ≤ b) : Grow S W μ μ'' s s'' where
  pre := by
    obtain ⟨ν, rfl⟩ := x.pre
    obtain ⟨ν', rfl⟩ := y.pre
    exact ⟨ν ++ ν', by simp⟩
  fresh a h1 h2 := by
    by_cases h3 : a ∈ μ'
    · exact x.fresh a h3 h2
    · exact Nat.le_trans x.size (y.fresh a h1 h3)
  size := Nat.le_trans x.size y.size
  keep b o e hw hm hl := by
    obtain ⟨o', e', c'⟩ := x.keep b o e hw hm hl
    have hm' : b ∉ μ' := fun hb => by rw [x.new hb hm] at e; cases e
    have hb : b ∉ W' := fun z => absurd (Heap.lt_size e) (Nat.not_lt.mpr (h b z))
    obtain ⟨o'', e'', c''⟩ := y.keep b o' e' hb hm' (loose_cls c'.1 hl)
    exact ⟨o'', e'', c'.trans c''⟩
  os := y.os.trans x.os
  tok := Nat.le_trans x.tok y.tok

section
variable {S : Sx} {A : Around} {F env : Env} {L : Addr} {Γ : FC} {n : Nat} {μ : List Addr} {H : AH} {s : Shared} {ρ : Lo} {κ : List Nat}

theorem iter_keep {W μ' : List Addr} {s' : Shared} {I : Addr} (g : Good S μ H s) (gr : Grow S W μ μ' s s') (io : IterObj s.heap I) (hI : I ∉ W) : (∀ o, s.heap.get? I = some o → s'.heap.get? I = some o) ∧ IterObj s'.heap I := by
  have hm := io.out g
  obtain ⟨o, nm, e, c, h⟩ := io
  obtain ⟨h1, h2, h3, h4, h5, h6, h7, h8, h9⟩ := iter_ne h
  obtain ⟨o', e', c'⟩ := gr.keep I o e hI hm (not_loose c h9)
  have : o' = o := c'.eq (by rw [c]; intro z; injection z with z; exact h8 z)
  subst this
  exact ⟨fun ob eb => by rw [e] at eb; cases eb; exact e', ⟨_, nm, e', c, h⟩⟩

theorem iter_self {E : Value → Shared → Prop} {xs : List V} {ep : Nat} {src : V} {I : Addr} {i : Nat} {Q : Value → Shared → Prop} (x : Itr S μ s.heap xs ep src I i) (q : Q (.ref I) s) : wpAny (model S.prog S.w) A (pyIter (.ref I)) Q E s := by
  cases src with
  | rr j =>
    obtain ⟨ax, h1, h2⟩ := x
    cases ep with
    | zero => exact wpAny_pyIter_listiter h2 q
    | succ ep => exact wpAny_pyIter_keyiter h2 q
  | tt ys => obtain ⟨t, cs, h1, _⟩ := x; exact wpAny_pyIter_tupleiter h1 q
  | ss y =>
    obtain ⟨t, ty, h1, h2, _⟩ := x
    rcases h1 with rfl | rfl
    · exact wpAny_pyIter_striter_ascii h2 q
    · exact wpAny_pyIter_striter_wide h2 q
  | rg a b => exact wpAny_pyIter_rangeiter x.1 q
  | nn => exact x.elim
  | bb b => exact x.elim
  | ii i => exact x.elim
  | gg k => exact x.elim

theorem owned_ok {M : Model} {E : Value → Shared → Prop} {Q : Unit → Shared → Prop} {I : Addr} {target : Expr} {v : Value} (io : IterObj s.heap I) (q : Q () s) : wpAny M A (letOwnedTupleGo target (.ref I) v) Q E s := by
  obtain ⟨o, nm, e, c, h⟩ := io
  have hno : (["enumerate", "zip", "dict_itemiterator", "dict_reverseitemiterator", "odict_iterator", "itertools.zip_longest", "itertools.pairwise"].contains nm) = false := by
    simp only [iterNames, List.mem_cons, List.not_mem_nil, or_false] at h
    rcases h with rfl | rfl | rfl | rfl | rfl | rfl <;> decide
  unfold letOwnedTupleGo
  split
  all_goals first | exact wpAny_pure q | skip
  all_goals
    cases v
    all_goals first | exact wpAny_pure q | skip
    refine wpAny_bind (wpAny_load e ?_)
    obtain ⟨oc, od, odt, osl⟩ := o
    dsimp only at c
    subst c
    cases odt
    all_goals first | exact wpAny_pure q | skip
    dsimp only
    rw [hno, Bool.false_and, if_neg Bool.false_ne_true]
    exact wpAny_pure q

theorem newEnv0 {M : Model} {E : Value → Shared → Prop} {scope : Scope} {globals : Addr} {cl : List (Str × Addr)} {qual : Str} {b : Addr} {Q : Env → Shared → Prop} (hc : ∀ x ∈ scope.names, x.2 ≠ .cell)
    (h : Q (newEnv scope s.heap.objs.size globals cl qual none .none (some env) b) { s with heap := s.heap.push { cls := .type "dict", data := .dict #[] } }) :
    wpAny M A (newFunctionEnv scope globals cl [] qual none .none (some env) b) Q E s := by
  simp only [newFunctionEnv, Option.isSome_some, if_true]
  refine wpAny_bind (wpAny_alloc ?_)
  rw [forIn_yield_id cl (fun x hx c => by
    obtain ⟨name, kind⟩ := x
    have : (kind == NameKind.cell) = false := by simpa using hc _ hx
    simp only [this, Bool.false_eq_true, if_false])]
  refine wpAny_bind (wpAny_pure (wpAny_bind ?_))
  exact wpAny_pure (wpAny_pure h)

/-! the loop of a comprehension -/
theorem compLoop_c {prog : Program} {w : World} {R : Result → Shared → Prop} {elt target iter : Expr} {ifs : List Expr} {scope : Scope} {pos : Pos} {it acc : Value} {env : Env} (I : Nat → Shared → Prop)
    (turn : ∀ n s, I n s → ∀ E, wpAny (model prog w) A (pyNext it) (fun r s₁ => match r with
      | none => R (.ok .next) s₁
      | some v => wpAny (model prog w) A (letOwnedTupleGo target it v) (fun _ s₁' => wpAny (model prog w) A (assign target env v) (fun _ s₂ =>
          wpAny (model prog w) A (forIn ifs true fun c r => if r = true then do let ok ← isTrue c env (eval c env); pure (ForInStep.yield ok) else pure (ForInStep.yield r)) (fun ok s₃ =>
            if ok = true then wpAny (model prog w) A (eval elt env) (fun x s₄ => wpAny (model prog w) A (call (.builtin "list.append") [acc, x]) (fun _ s₅ => ∃ m, m < n ∧ I m s₅) E s₄) E s₃
            else ∃ m, m < n ∧ I m s₃) E s₂) E s₁') E s₁) E s)
    (n : Nat) (h : I n s) : codeAny (model prog w) A (.compLoop (.ListComp elt [⟨target, iter, ifs, 0⟩] scope pos) 0 it acc env) R s := by
  refine codeAny_loop rfl I (fun n s hI => ?_) n h
  show wpAny _ A ((compTurn (.ListComp elt [⟨target, iter, ifs, 0⟩] scope pos) 0 it acc env).onRaise (fun x => do noteFrame x env; theTreesLotGoes x)) _ _ s
  refine wpAny_noted ?_
  rw [compTurn_list]
  refine wpAny_bind (wpAny_standAt (wpAny_bind (wpAny_mono (turn n s hI _) (fun r s₁ h₁ => ?_) fun _ _ h' => h')))
  cases r with
  | none => exact wpAny_pure h₁
  | some v =>
    refine wpAny_bind (wpAny_mono h₁ (fun _ s₁' h₁' => ?_) fun _ _ h' => h')
    refine wpAny_bind (wpAny_mono h₁' (fun _ s₂ h₂ => wpAny_bind (wpAny_mono h₂ (fun ok s₃ h₃ => ?_) fun _ _ h' => h')) fun _ _ h' => h')
    cases ok with
    | false => exact wpAny_pure ⟨rfl, h₃⟩
    | true =>
      exact wpAny_bind (wpAny_bind (wpAny_mono h₃ (fun x s₄ h₄ => wpAny_bind (wpAny_mono h₄ (fun _ s₅ h₅ => wpAny_pure (wpAny_pure ⟨rfl, h₅⟩)) fun _ _ h' => h')) fun _ _ h' => h'))

theorem noE {P : Option Value → Prop} {v : Value} {s' : Shared} {E : Value → Shared → Prop} (x : PostE S μ s P (fun _ _ => False) v s') : E v s' := by
  obtain ⟨_, _, _, _, _, _, _, _, _, _, h⟩ := x; exact h.elim

/-- the tests -/
theorem evT_sound {xs : XL} {es : List Expr} (hall : EvAll S A F L n Γ env xs es) {E' : Value → Shared → Prop} :
    ∀ {H : AH} {Q : Bool → AH → Prop} {μ : List Addr} {ρ : Lo} {κ : List Nat} {s : Shared}, At S A F env L Γ n μ ρ κ H s → evT S n ρ κ (fun _ _ => False) xs H Q →
    wpAny (model S.prog S.w) A (forIn es true fun c r => if r = true then do let ok ← isTrue c env (eval c env); pure (ForInStep.yield ok) else pure (ForInStep.yield r)) (PostB S μ s Q) E' s := by
  have fls : ∀ (es : List Expr) (s : Shared) (Q : Bool → Shared → Prop), Q false s → wpAny (model S.prog S.w) A (forIn es false fun c r => if r = true then do let ok ← isTrue c env (eval c env); pure (ForInStep.yield ok) else pure (ForInStep.yield r)) Q E' s := by
    intro es
    induction es with
    | nil => intro s Q q; exact wpAny_pure q
    | cons e es ih =>
      intro s Q q
      rw [List.forIn_cons, if_neg Bool.false_ne_true]
      exact wpAny_bind (wpAny_pure (ih s Q q))
  induction hall with
  | nil => intro H Q μ ρ κ s a q; rw [evT] at q; exact wpAny_pure ⟨μ, H, true, .refl .., a.g, rfl, q⟩
  | @cons x e xs es h _ r ih =>
    intro H Q μ ρ κ s a q
    rw [evT] at q
    rw [List.forIn_cons, if_pos rfl]
    have h1 := h true H _ (fun _ _ => False) μ ρ κ s a q
    have h2 : wpAny (model S.prog S.w) A (isTrue e env (eval e env)) (fun t s' => PostV S μ s (fun v H => onB v fun t => if t = true then evT S n ρ κ (fun _ _ => False) xs H Q else Q false H) (.bool t) s') E' s := by
      intro Γ' p hΓ
      have := h1 Γ' p hΓ
      unfold outV at this
      rw [Sem.wp_bind'] at this
      exact Sem.wp_mono _ Γ' _ (fun _ _ _ x => by simpa using x) (fun _ _ _ x => noE x) p s this
    refine wpAny_bind (wpAny_bind (wpAny_mono h2 (fun t s' ⟨μ', H', c, gr, g, r, q⟩ => wpAny_pure ?_) fun _ _ x => x))
    obtain ⟨t', rfl, q⟩ := onB_bb q
    have ht := r.bb_inv
    cases ht
    cases t with
    | true => exact wpAny_mono (ih (a.grow gr g) (by simpa [onB] using q)) (fun _ _ x => x.pre gr) fun _ _ x => x
    | false => exact fls _ _ _ ⟨μ', H', false, gr, g, rfl, by simpa [onB] using q⟩
end
end Mine
set_option maxRecDepth 10000
namespace Mine
open PySem PySem.Calls PyProof.Rows PySem.W

section
variable {S : Sx} {A : Around} {F env : Env} {L : Addr} {Γ : FC} {n : Nat} {μ : List Addr} {H : AH} {s : Shared} {ρ : Lo} {κ : List Nat}

/-- the body of a comprehension's turn -/
def compBody (S : Sx) (n : Nat) (κ' : List Nat) (tg : Tg) (ifs : XL) (x : X) (src : V) (xs : List V) (ep : Nat) (r : Nat) : V → Lo × AH → (Lo × AH → Prop) → Prop := fun v st K =>
  snap st.2 src = some (xs, ep) ∧ setTg n κ' tg v st.1 st.2 fun ρ' H' => evT S n ρ' κ' (fun _ _ => False) ifs H' fun b H' =>
    if b then ev S n ρ' κ' (fun _ _ => False) x false H' fun w H'' => ∃ ys, H''[r]? = some (.list ys) ∧ ys.length < BIG ∧ K (ρ', H''.set r (.list (ys ++ [w]))) else K (ρ', H')

/-- the turns of a comprehension -/
theorem comp_turns {cenv : Env} {Γ' : FC} {κ' : List Nat} {tg : Tg} {tgE elt iter : Expr} {ifs : XL} {tests : List Expr} {x : X} {src : V} {xs : List V} {ep r : Nat} {I D : Addr} {fin : Lo × AH → Prop} {sc : Scope} {pos : Pos} {R : Result → Shared → Prop} {ρ0 : Lo}
    (hnd : Γ'.vars.Nodup) (hn : n ≠ 0) (htg : agTg Γ' tg tgE = true) (hall : EvAll S A F L n Γ' cenv ifs tests) (hx : EvOk S A F L n Γ' cenv x elt)
    (hb : S.base.get? I = none) (hIC : I ≠ cenv.locals) (a₀ : At S A F cenv L Γ' n μ ρ0 κ' H s) (io : IterObj s.heap I) (it : Itr S μ s.heap xs ep src I 0) (hD : μ[r]? = some D)
    (hgo : itGo (compBody S n κ' tg ifs x src xs ep r) xs (ρ0, H) fun st => snap st.2 src = some (xs, ep) ∧ fin st)
    (hR : ∀ μ₁ ρ₁ H₁ s₁, At S A F cenv L Γ' n μ₁ ρ₁ κ' H₁ s₁ → Grow S [I, cenv.locals] μ μ₁ s s₁ → fin (ρ₁, H₁) → R (.ok .next) s₁) :
    codeAny (model S.prog S.w) A (.compLoop (.ListComp elt [⟨tgE, iter, tests, 0⟩] sc pos) 0 (.ref I) (.ref D) cenv) R s := by
  refine compLoop_c (fun m s₁ => ∃ j μ₁ ρ₁ H₁, m = xs.length + 1 - j ∧ j ≤ xs.length ∧ At S A F cenv L Γ' n μ₁ ρ₁ κ' H₁ s₁ ∧ Grow S [I, cenv.locals] μ μ₁ s s₁ ∧ Itr S μ₁ s₁.heap xs ep src I j ∧ IterObj s₁.heap I ∧
    itGo (compBody S n κ' tg ifs x src xs ep r) (xs.drop j) (ρ₁, H₁) fun st => snap st.2 src = some (xs, ep) ∧ fin st) ?_ (xs.length + 1)
    ⟨0, μ, ρ0, H, rfl, Nat.zero_le _, a₀, .refl .., it, io, by simpa using hgo⟩
  rintro m s₁ ⟨j, μ₁, ρ₁, H₁, rfl, hj, a, gr, it, io, go⟩ E
  have hsn : snap H₁ src = some (xs, ep) := by
    rcases Nat.lt_or_ge j xs.length with h | h
    · rw [List.drop_eq_getElem_cons h] at go; exact go.1
    · rw [List.drop_eq_nil_of_le h] at go; exact go.1
  refine wpAny_ups (wpAny_mono (iter_next (E := fun e s' => Up s₁ s' → E e s') a.g (a.hh hn) hsn it io hj) (fun ro s₂ ⟨h', tk, es, hk, ho⟩ u => ?_) fun _ _ x => x)
  subst es
  obtain ⟨a2, gr2⟩ := a.iter io hb hk u
  have gr2' : Grow S [I, cenv.locals] μ μ₁ s { s₁ with heap := h', toks := tk } := gr.trans (gr2.weaken (by simp))
  rcases Nat.lt_or_ge j xs.length with hlt | hge
  · have hx1 := List.getElem?_eq_getElem hlt
    rw [hx1] at ho
    cases ro with
    | none => exact ho.elim
    | some c =>
      obtain ⟨r1, it2, io2⟩ := ho
      rw [List.drop_eq_getElem_cons hlt] at go
      obtain ⟨_, go⟩ := go
      refine owned_ok io2 ?_
      refine wpAny_mono (setTg_sound hnd htg a2 r1 go) (fun _ s₃ ⟨ρ₃, H₃, a3, gr3, q3⟩ => ?_) fun _ _ x => x
      have hIW : I ∉ [cenv.locals] := by simpa using hIC
      obtain ⟨ik3, io3⟩ := iter_keep a2.g gr3 io2 hIW
      have it3 : Itr S μ₁ s₃.heap xs ep src I (j + 1) := it2.mono (gr3.mono a2.g.sr (locals_fixed a2)) ik3
      refine wpAny_mono (evT_sound hall a3 q3) (fun ok s₄ ⟨μ₄, H₄, b, gr4, g4, e4, q4⟩ => ?_) fun _ _ x => x
      subst e4
      have a4 := a3.grow gr4 g4
      obtain ⟨ik4, io4⟩ := iter_keep a3.g gr4 io3 (by simp)
      have it4 := it3.mono (gr4.mono a3.g.sr (by simp)) ik4
      have grA : Grow S [I, cenv.locals] μ μ₄ s s₄ := (gr2'.trans (gr3.weaken (by simp))).trans (gr4.weaken (by simp))
      cases ok with
      | false =>
        exact ⟨xs.length + 1 - (j + 1), by omega, j + 1, μ₄, ρ₃, H₄, rfl, hlt, a4, grA, it4, io4, by simpa using q4⟩
      | true =>
        rw [if_pos rfl]
        rw [if_pos rfl] at q4
        refine wpAny_mono (hx.val a4 q4) (fun y s₅ ⟨μ₅, H₅, w, gr5, g5, r5, ys, hr, hz, q5⟩ => ?_) fun _ _ x => noE x
        have a5 := a4.grow gr5 g5
        obtain ⟨ik5, io5⟩ := iter_keep a4.g gr5 io4 (by simp)
        have it5 := it4.mono (gr5.mono a4.g.sr (by simp)) ik5
        have hD5 : μ₅[r]? = some D := gr5.at (grA.at hD)
        refine wpAny_mono (append_sound (Q := fun v H' => H' = H₅.set r (.list (ys ++ [w]))) g5 hD5 r5 hr hz rfl) (fun _ s₆ ⟨μ₆, H₆, _, gr6, g6, _, e6⟩ => ?_) fun _ _ x => x
        subst e6
        have a6 := a5.grow gr6 g6
        obtain ⟨ik6, io6⟩ := iter_keep a5.g gr6 io5 (by simp)
        have it6 := it5.mono (gr6.mono a5.g.sr (by simp)) ik6
        exact ⟨xs.length + 1 - (j + 1), by omega, j + 1, μ₆, ρ₃, _, rfl, hlt, a6, (grA.trans (gr5.weaken (by simp))).trans (gr6.weaken (by simp)), it6, io6, q5⟩
  · rw [List.getElem?_eq_none hge] at ho
    cases ro with
    | some c => exact ho.elim
    | none =>
      rw [List.drop_eq_nil_of_le hge] at go
      exact hR μ₁ ρ₁ H₁ _ a2 gr2' go.2

theorem names_local {names : List (Str × NameKind)} (nd : (names.map (·.1)).Nodup) {x : Str} {k : NameKind} (h : (x, k) ∈ names) : names.lookup x = some k := by
  induction names with
  | nil => cases h
  | cons p r ih =>
    obtain ⟨y, k'⟩ := p
    rw [List.map_cons, List.nodup_cons] at nd
    rcases List.mem_cons.mp h with q | q
    · cases q; simp
    · have : (x == y) = false := by
        rw [beq_eq_false_iff_ne]
        rintro rfl
        exact nd.1 (List.mem_map.mpr ⟨(x, k), q, rfl⟩)
      rw [List.lookup_cons, this]; exact ih nd.2 q

theorem relabel_names (a : At S A F env L Γ n μ ρ κ H s) (sc : Scope) : (relabel sc env).names = compNames Γ sc.names := by
  unfold relabel compNames
  dsimp only
  refine List.map_congr_left fun p _ => ?_
  obtain ⟨x, k⟩ := p
  dsimp only
  rw [kindOf_eq a, a.fr.kind]
  simp

/-- a comprehension: all but what is made of its list -/
theorem comp_core (SVS : SV S) {k : Nat} {tg : Tg} {tgE elt iter : Expr} {ifs : XL} {tests : List Expr} {x : X} {it : X} {sc : Scope} {pos : Pos} {E : PE} {Q' : Value → Shared → Prop} {use : Option (Value → Sem Unit)}
    (a : At S A F env L Γ n μ ρ κ H s) (hag : agScope S.fns Γ k sc = true) (hset : ∀ v, foldedSetIterable iter env v = pure v) (hit : EvOk S A F L n Γ env it iter)
    (htg : agTg (compFC S.fns Γ k sc) tg tgE = true)
    (hbody : ∀ cenv, cenv.scope.names = compNames Γ sc.names → EvAll S A F L n (compFC S.fns Γ k sc) cenv ifs tests ∧ EvOk S A F L n (compFC S.fns Γ k sc) cenv x elt)
    {P : Nat → AH → Prop}
    (q : ev S n ρ κ E it false H fun src H => ∃ xs ep κ', snap H src = some (xs, ep) ∧ n ≠ 0 ∧ xs.length ≤ 1000000 ∧ (S.fns k).up.map (fun j => κ[j]?) = κ'.map some ∧
      itGo (compBody S n κ' tg ifs x src xs ep H.length) xs ((S.fns k).vars.map fun _ => none, H ++ [.list []]) fun st => snap st.2 src = some (xs, ep) ∧ P H.length st.2)
    (hR : ∀ D C μ₁ H₁ s₁ r, Good S μ₁ H₁ s₁ → Grow S [] μ μ₁ s s₁ → At S A F env L Γ n μ₁ ρ κ H₁ s₁ → s.heap.objs.size ≤ C → C ∉ μ₁ → S.base.get? C = none → (∃ o, s₁.heap.get? C = some o ∧ (o.cls = .type "frame" ∨ o.cls = .type "dict")) → (∃ m, s₁.heap.Ns C m) → C ≠ env.locals →
      μ₁[r]? = some D → P r H₁ → compPost (model S.prog S.w) A (PostE S μ s (here L) E) use Q' (.ref D) C (.ok .next) s₁) :
    wpAny (model S.prog S.w) A (comprehension (.ListComp elt [⟨tgE, iter, tests, 0⟩] sc pos) sc env (firstIterPos [⟨tgE, iter, tests, 0⟩] pos) (newList []) false (eval iter env) use) Q' (PostE S μ s (here L) E) s := by
  simp only [agScope, Bool.and_eq_true, beq_iff_eq, Bool.not_eq_true', decide_eq_true_eq, List.isEmpty_iff] at hag
  obtain ⟨⟨⟨⟨⟨⟨⟨⟨⟨h1, h2⟩, h3⟩, h4⟩, h5⟩, h6⟩, h7⟩, h8⟩, h9⟩, h10⟩ := hag
  have hloc : ∀ y ∈ sc.names, y.2 = .local → sc.names.lookup y.1 = some .local := fun ⟨y, kd⟩ hy e => by
    dsimp only at e; subst e; exact names_local h10 hy
  have hcell : ∀ y ∈ sc.names, y.2 ≠ .cell := fun y hy e => by
    have := List.all_eq_true.mp h6 y hy
    rw [e] at this; cases this
  have hx' : ∀ (i : Nat) (y : Str), (S.fns k).free[i]? = some y → (y, NameKind.free) ∈ sc.names := by
    intro i y hi
    have : y ∈ (sc.names.filter (·.2 == .free)).map (·.1) := by rw [h5]; exact List.mem_of_getElem? hi
    obtain ⟨⟨z, kd⟩, hy, rfl⟩ := List.mem_map.mp this
    obtain ⟨hm, hk⟩ := List.mem_filter.mp hy
    have := eq_of_beq hk
    dsimp only at this
    subst this; exact hm
  have hfr : ∀ y, (y, NameKind.free) ∈ sc.names → ∃ i : Nat, (S.fns k).free[i]? = some y := by
    intro y hy
    have : y ∈ (S.fns k).free := by
      rw [← h5]; exact List.mem_map.mpr ⟨(y, .free), List.mem_filter.mpr ⟨hy, rfl⟩, rfl⟩
    exact List.mem_iff_getElem?.mp this
  have cl0 : ∀ y, (y, NameKind.free) ∈ sc.names → ∃ ad, env.cells.lookup y = some ad := by
    intro y hy
    obtain ⟨i, hi⟩ := hfr y hy
    obtain ⟨u, hu, hv⟩ := map_some_of h7 hi
    obtain ⟨j', ad, q1, q2, q3⟩ := a.fr.cel u y hv
    exact ⟨ad, q2⟩
  obtain ⟨cl, hcl, hlook⟩ := closureFor_c (scope := sc) (env := env) cl0
  refine wpAny_comprehension_free rfl hset hcl h1 hloc ?_
  refine wpAny_mono (hit.val a q) (fun c s₁ ⟨μ₁, H₁, src, gr, g, r, xs, ep, κ', hsn, hn, hz, hκ, go⟩ => ?_) fun _ _ x => x
  refine wpAny_mono (iter_make SVS g r hsn) (fun v s₂ ⟨I, hv, hb, hI, io, gr2, g2, it2⟩ => ?_) fun _ _ x => x
  subst hv
  refine wpAny_newObj_type ?_ (by show (([] : List Value).toArray).size ≤ sizeLine; exact Nat.zero_le _)
  have gr3 : Grow S [] μ₁ (μ₁ ++ [s₂.heap.objs.size]) s₂ { s₂ with heap := s₂.heap.push { cls := .type "list", data := .seq ([] : List Value).toArray } } := .alloc _
  have ho : OR S (μ₁ ++ [s₂.heap.objs.size]) (s₂.heap.push { cls := .type "list", data := .seq ([] : List Value).toArray }) (.list []) s₂.heap.objs.size := ⟨g2.base_new, _, _, Heap.get?_push_size _ rfl, .nil S⟩
  have g3 := g2.alloc _ (.list []) ho
  generalize hs3 : ({ s₂ with heap := s₂.heap.push { cls := .type "list", data := .seq ([] : List Value).toArray } } : Shared) = s₃ at gr3 g3
  have hs3' : s₃.heap = s₂.heap.push { cls := .type "list", data := .seq ([] : List Value).toArray } := by rw [← hs3]
  refine newEnv0 hcell ?_
  have gr4 : Grow S [] (μ₁ ++ [s₂.heap.objs.size]) (μ₁ ++ [s₂.heap.objs.size]) s₃ { s₃ with heap := s₃.heap.push { cls := .type "dict", data := .dict #[] } } := .push _
  have g4 := g3.push { cls := .type "dict", data := .dict #[] }
  have hC : s₃.heap.get? s₃.heap.objs.size = none := Heap.get?_none_of_le (Nat.le_refl _)
  have hCm : s₃.heap.objs.size ∉ μ₁ ++ [s₂.heap.objs.size] := fun z => absurd (g3.sr.live z) (Nat.lt_irrefl _)
  have hCb := g3.base_new
  have grAll : Grow S [] μ (μ₁ ++ [s₂.heap.objs.size]) s { s₃ with heap := s₃.heap.push { cls := .type "dict", data := .dict #[] } } := ((gr.trans gr2).trans gr3).trans gr4
  have aO := a.grow grAll g4
  have hsz1 : s.heap.objs.size ≤ s₃.heap.objs.size := ((gr.trans gr2).trans gr3).size
  have mo4 := grAll.mono a.g.sr (by simp)
  have io3 := (iter_keep g2 gr3 io (by simp)).2
  have io4 := iter_keep g3 gr4 io3 (by simp)
  have it4 : Itr S (μ₁ ++ [s₂.heap.objs.size]) (s₃.heap.push { cls := .type "dict", data := .dict #[] }) xs ep src I 0 :=
    (it2.mono (gr3.mono g2.sr (by simp)) (iter_keep g2 gr3 io (by simp)).1).mono (gr4.mono g3.sr (by simp)) io4.1
  have hIlt : I < s₃.heap.objs.size := by obtain ⟨o, _, e, _⟩ := io3; exact Heap.lt_size e
  -- the frame of the comprehension
  have hCenv : At S A F { (newEnv sc s₃.heap.objs.size env.globals cl env.qual none .none (some env) builtinsNs) with scope := relabel sc env } L (compFC S.fns Γ k sc) n (μ₁ ++ [s₂.heap.objs.size]) ((S.fns k).vars.map fun _ => none) κ' (H₁ ++ [.list []])
      { s₃ with heap := s₃.heap.push { cls := .type "dict", data := .dict #[] } } := by
    refine ⟨aO.fl, aO.ar, ⟨h1, relabel_names a sc, a.fr.glo, a.fr.blt, a.fr.frame, ⟨fun _ => none, Heap.Ns.new .., fun i y hy => ?_⟩, by simp [compFC], ⟨hCb, _, Heap.get?_push_size _ rfl, .inr rfl, hCm⟩, fun i y hy => ?_, fun z => by cases z⟩, g4, fun ⟨i, v, h⟩ => by
      rw [List.getElem?_map] at h
      cases hq : (S.fns k).vars[i]? <;> rw [hq] at h <;> cases h⟩
    · have : ((S.fns k).vars.map fun _ => (none : Option V)).getD i none = none := by
        rw [List.getD_eq_getElem?_getD, List.getElem?_map]
        cases (S.fns k).vars[i]? <;> rfl
      rw [this]; rfl
    · have hy' : (S.fns k).free[i]? = some y := hy
      obtain ⟨u, hu, hv⟩ := map_some_of h7 hy'
      obtain ⟨j, hj, hk⟩ := list_map_some hκ hu
      obtain ⟨j', ad, q1, q2, q3⟩ := aO.fr.cel u y hv
      rw [hk] at q1; cases q1
      exact ⟨j, ad, hj, by show cl.lookup y = some ad; rw [hlook y (hx' i y hy')]; exact q2, q3⟩
  obtain ⟨hall, hx⟩ := hbody { (newEnv sc s₃.heap.objs.size env.globals cl env.qual none .none (some env) builtinsNs) with scope := relabel sc env } (relabel_names a sc)
  have hCne : s₃.heap.objs.size ≠ env.locals := by
    obtain ⟨_, o, e, _⟩ := a.fr.out
    exact Nat.ne_of_gt (Nat.lt_of_lt_of_le (Heap.lt_size e) hsz1)
  have loop : codeAny (model S.prog S.w) A (.compLoop (.ListComp elt [⟨tgE, iter, tests, 0⟩] sc pos) 0 (.ref I) (.ref s₂.heap.objs.size) { (newEnv sc s₃.heap.objs.size env.globals cl env.qual none .none (some env) builtinsNs) with scope := relabel sc env })
      (compPost (model S.prog S.w) A (PostE S μ s (here L) E) use Q' (.ref s₂.heap.objs.size) s₃.heap.objs.size) { s₃ with heap := s₃.heap.push { cls := .type "dict", data := .dict #[] } } := by
    have hr : (μ₁ ++ [s₂.heap.objs.size])[H₁.length]? = some s₂.heap.objs.size := by rw [← g2.sr.len]; simp
    refine comp_turns (by exact h9) hn htg hall hx hb (Nat.ne_of_lt hIlt) hCenv io4.2 it4 hr go fun μ₅ ρ₅ H₅ s₅ a5 gr5 hf => ?_
    have gr6 : Grow S [] μ μ₅ s s₅ := grAll.forget gr5 (by
      intro b hb'
      simp only [List.mem_cons, List.not_mem_nil, or_false] at hb'
      rcases hb' with rfl | rfl
      · exact Nat.le_trans ((gr.size)) (by have := hI; exact this)
      · exact hsz1)
    obtain ⟨f1, o, f2, f3, f4⟩ := a5.fr.out
    obtain ⟨m5, hn5, _⟩ := a5.fr.ns
    exact hR _ _ μ₅ H₅ s₅ H₁.length a5.g gr6 (a.grow gr6 a5.g) hsz1 f4 f1 ⟨o, f2, f3⟩ ⟨m5, hn5⟩ hCne (gr5.at hr) hf
  exact codeAny_compStart_list loop (iter_self it4 loop)

theorem ok_comp (SVS : SV S) {k : Nat} {tg : Tg} {tgE elt iter : Expr} {ifs : XL} {tests : List Expr} {x : X} {it : X} {sc : Scope} {pos : Pos}
    (hag : agScope S.fns Γ k sc = true) (hset : ∀ v, foldedSetIterable iter env v = pure v) (hit : EvOk S A F L n Γ env it iter)
    (htg : agTg (compFC S.fns Γ k sc) tg tgE = true)
    (hbody : ∀ cenv, cenv.scope.names = compNames Γ sc.names → EvAll S A F L n (compFC S.fns Γ k sc) cenv ifs tests ∧ EvOk S A F L n (compFC S.fns Γ k sc) cenv x elt) :
    EvOk S A F L n Γ env (.comp x tg it ifs k) (.ListComp elt [⟨tgE, iter, tests, 0⟩] sc pos) := by
  intro t H Q E μ ρ κ s a q
  refine fin_plain t trivial ?_
  rw [ev] at q
  rw [eval_ListComp]
  refine comp_core SVS (P := fun r H => fin t Q (.rr r) H) (use := none) a hag hset hit htg hbody ?_ ?_
  · exact q
  · intro D C μ₁ H₁ s₁ r g gr a1 hC hCm hCb ⟨o, ho, hc⟩ hns hCl hr q
    obtain ⟨m, hns⟩ := hns
    refine ⟨m, hns, fun h' sb => ?_⟩
    obtain ⟨g', gr'⟩ := g.loc ho hc hCm hCb sb s₁.toks (Nat.le_refl _)
    exact ⟨μ₁, H₁, .rr r, gr.forget gr' (by simpa using hC), g', .rr hr, q⟩
end
end Mine
set_option maxRecDepth 10000
namespace Mine
open PySem PySem.Calls PyProof.Rows PySem.W

section
variable {S : Sx} {A : Around} {F env : Env} {L : Addr} {Γ : FC} {n : Nat} {μ : List Addr} {H : AH} {s : Shared} {ρ : Lo} {κ : List Nat}

theorem key_eq (a b : Nm) : ((⟨a.toArray⟩ : Str) = ⟨b.toArray⟩) ↔ a = b := by
  constructor
  · intro h
    have := congrArg (fun x : Str => x.cps.toList) h
    simpa using this
  · rintro rfl; rfl

theorem EntR.upd {h : Heap} {k : Nm} {v : V} {c : Value} (r : VR S μ h v c) : ∀ {es : List (Nm × V)} {kvs : List (Str × Value)}, EntR S μ h es kvs → EntR S μ h (upd es k v) (stored kvs ⟨k.toArray⟩ c) := by
  intro es kvs x
  have any_eq : ∀ {es : List (Nm × V)} {kvs : List (Str × Value)}, EntR S μ h es kvs → (es.any (·.1 == k)) = kvs.any (fun kv => kv.1 = (⟨k.toArray⟩ : Str)) := by
    intro es
    induction es with
    | nil => intro kvs x; cases x; rfl
    | cons p r ih =>
      intro kvs x
      obtain ⟨a, b⟩ := p
      obtain ⟨c', kr, rfl, _, x3⟩ := x
      rw [List.any_cons, List.any_cons, ih x3]
      congr 1
      rw [Bool.eq_iff_iff]
      simp only [beq_iff_eq, decide_eq_true_eq]
      exact (key_eq a k).symm
  unfold Mine.upd stored
  rw [any_eq x]
  split
  · rename_i hh; clear hh any_eq
    induction es generalizing kvs with
    | nil => cases x; exact rfl
    | cons p rr ih =>
      obtain ⟨a, b⟩ := p
      obtain ⟨c', kr, rfl, x2, x3⟩ := x
      rw [List.map_cons, List.map_cons]
      by_cases ha : a = k
      · subst ha
        simp only [beq_self_eq_true, if_true]
        exact ⟨c, _, rfl, r, ih x3⟩
      · have h1 : (a == k) = false := by simpa using ha
        have h2 : ¬ ((⟨a.toArray⟩ : Str) = ⟨k.toArray⟩) := fun z => ha ((key_eq a k).mp z)
        simp only [h1, Bool.false_eq_true, if_false, h2]
        exact ⟨c', _, rfl, x2, ih x3⟩
  · rename_i hh; clear hh any_eq
    induction es generalizing kvs with
    | nil => cases x; exact ⟨c, [], rfl, r, rfl⟩
    | cons p rr ih =>
      obtain ⟨a, b⟩ := p
      obtain ⟨c', kr, rfl, x2, x3⟩ := x
      exact ⟨c', _, rfl, x2, ih x3⟩

theorem const_str {M : Model} {E : Value → Shared → Prop} {s : Shared} {A : Around} {x : Str} {k : Nat} {p : Pos} {Q : Value → Shared → Prop} (h : Q (.str x s.toks) { s with toks := s.toks + 1 }) : wpAny M A (eval (.Constant (.str x) k p) env) Q E s := PySem.wpAny_Constant_str h

theorem agD_cons {k : Nm} {i : Int} {r : List (Nm × Int)} {keys : List (Option Expr)} {es : List Expr} (h : agD ((k, i) :: r) keys es = true) :
    ∃ k1 p1 k2 p2 ks' vs', keys = some (.Constant (.str (Nm.str k)) k1 p1) :: ks' ∧ es = .Constant (.int i) k2 p2 :: vs' ∧ agD r ks' vs' = true := by
  cases keys with
  | nil => simp [agD] at h
  | cons ko ks' =>
    cases ko with
    | none => simp [agD] at h
    | some e =>
      cases e
      case Constant c k1 p1 =>
        cases c
        case str s' =>
          cases es with
          | nil => simp [agD] at h
          | cons v vs' =>
            cases v
            case Constant c2 k2 p2 =>
              cases c2
              case int j =>
                rw [agD] at h
                simp only [Bool.and_eq_true, beq_iff_eq] at h
                obtain ⟨⟨h1, h2⟩, h3⟩ := h
                subst h1 h2
                exact ⟨k1, p1, k2, p2, ks', vs', rfl, rfl, h3⟩
              all_goals simp [agD] at h
            all_goals simp [agD] at h
        all_goals simp [agD] at h
      all_goals simp [agD] at h
theorem agD_nil {keys : List (Option Expr)} {es : List Expr} (h : agD [] keys es = true) : keys = [] ∧ es = [] := by
  cases keys <;> cases es <;> first | exact ⟨rfl, rfl⟩ | simp [agD] at h

/-- a display of names and whole numbers -/
theorem dct_pairs {E : Value → Shared → Prop} {p : Pos} : ∀ {ks : List (Nm × Int)} {keys : List (Option Expr)} {es : List Expr}, agD ks keys es = true →
    ∃ pairs : List (Sem Value × Sem Value), (evalEachOpt keys env).zip ((evalEach es env).map fun v => do let x ← v; standAt p; pure x) = pairs.map (fun q => (some q.1, q.2)) ∧ pairs.length = ks.length ∧
      ∀ (s : Shared) (Q : List (Value × Value) → Shared → Prop), (∀ vs kvs tk, s.toks ≤ tk → Carries (PySem.strKind S.prog S.w) vs kvs → (∀ (μ : List Addr) (h : Heap) (es : List (Nm × V)) (acc : List (Str × Value)), EntR S μ h es acc → EntR S μ h (dctC ks es) (merged acc kvs)) → Q vs { s with toks := tk }) →
        wpAny (model S.prog S.w) A (evalPairs pairs) Q E s := by
  intro ks
  induction ks with
  | nil =>
    intro keys es h
    obtain ⟨rfl, rfl⟩ := agD_nil h
    exact ⟨[], rfl, rfl, fun s Q q => evalPairs_nil (q [] [] s.toks (Nat.le_refl _) trivial fun _ _ _ _ x => x)⟩
  | cons q r ih =>
    obtain ⟨k, i⟩ := q
    intro keys es h
    obtain ⟨k1, p1, k2, p2, ks', vs', rfl, rfl, h3⟩ := agD_cons h
    obtain ⟨pairs, e1, e2, e3⟩ := ih h3
    refine ⟨(eval (.Constant (.str (Nm.str k)) k1 p1) env, do let x ← eval (.Constant (.int i) k2 p2) env; standAt p; pure x) :: pairs, ?_, by simp [e2], fun s Q q => ?_⟩
    · rw [List.map_cons, ← e1]; rfl
    · refine evalPairs_cons (const_str (wpAny_bind (wpAny_Constant_int (wpAny_bind (wpAny_standAt (wpAny_pure ?_))))))
      refine e3 _ _ fun vs kvs tk htk hc hm => ?_
      refine q ((.str (Nm.str k) s.toks, .int i (s.toks + 1)) :: vs) ((Nm.str k, .int i (s.toks + 1)) :: kvs) tk (by dsimp only at htk; omega) ⟨isStr_self _ _, rfl, hc⟩ fun μ h es acc x => ?_
      exact hm μ h _ _ (x.upd .ii)

theorem ok_dct (SVS : SV S) {ks : List (Nm × Int)} {keys : List (Option Expr)} {es : List Expr} {p : Pos} (h : agD ks keys es = true) (hz : ks.length ≤ 15) : EvOk S A F L n Γ env (.dct ks) (.Dict keys es p) := by
  intro t H Q E μ ρ κ s a q
  refine fin_plain t trivial ?_
  rw [ev] at q
  have hne : NewD S s.heap.objs.size := a.g.base_newD SVS
  have fin1 : ∀ (h' : Heap) (tk : Nat) (kvs : List (Str × Value)), h'.DictOf (PySem.strKind S.prog S.w) s.heap.objs.size kvs → EntR S (μ ++ [s.heap.objs.size]) h' (dctC ks []) kvs →
      Heap.SameBut s.heap.objs.size (s.heap.push { cls := .type "dict", data := .dict #[] }) h' → s.toks ≤ tk → PostV S μ s (Mine.fin t Q) (.ref s.heap.objs.size) { s with heap := h', toks := tk } := by
    intro h' tk kvs ⟨o, es, ep, d1, d2, d3, d4, d5, d6⟩ er sb htk
    have hk : ∀ b ob, s.heap.get? b = some ob → h'.get? b = some ob := fun b ob e => (sb.2 b (Nat.ne_of_lt (Heap.lt_size e))).trans (Heap.get?_push_of_some _ e)
    have hsz : s.heap.objs.size ≤ h'.objs.size := by rw [sb.1, Heap.size_push]; omega
    obtain ⟨g', gr'⟩ := a.g.keeps (tk := tk) hk ⟨htk, hsz⟩
    have st : Still s.heap h' := fun b ob eb _ => hk b ob eb
    have pre : ∀ (i : Nat) (ad : Addr), μ[i]? = some ad → (μ ++ [s.heap.objs.size])[i]? = some ad := fun i ad z => by
      rw [List.getElem?_append_left (List.getElem?_eq_some_iff.mp z).1]; exact z
    refine ⟨μ ++ [s.heap.objs.size], H ++ [.dict (dctC ks []) ep], .rr H.length, ⟨⟨_, rfl⟩, fun b h1 h2 => ?_, hsz, gr'.keep, rfl, htk⟩, ⟨g'.inv, ?_⟩, .rr (by rw [← a.g.sr.len]; simp), q ep⟩
    · rcases List.mem_append.mp h1 with z | z
      · exact absurd z h2
      · rw [List.mem_singleton] at z; exact Nat.le_of_eq z.symm
    · refine ⟨by simp [a.g.sr.len], ?_, fun i o' b e1 e2 => ?_⟩
      · rw [List.nodup_append]
        refine ⟨a.g.sr.nodup, by simp, fun b hb c hc => ?_⟩
        rw [List.mem_singleton] at hc
        rintro rfl
        exact absurd (a.g.sr.live hb) (by rw [hc]; exact Nat.lt_irrefl _)
      · by_cases hi : i < H.length
        · rw [List.getElem?_append_left hi] at e1
          rw [List.getElem?_append_left (a.g.sr.len ▸ hi)] at e2
          exact (a.g.sr.obj i o' b e1 e2).step st pre fun ob => hk b ob
        · have hi' : i = H.length := by
            have := (List.getElem?_eq_some_iff.mp e1).1
            simp at this; omega
          subst hi'
          rw [List.getElem?_append_right (Nat.le_refl _), Nat.sub_self] at e1
          rw [← a.g.sr.len, List.getElem?_append_right (Nat.le_refl _), Nat.sub_self] at e2
          cases e1; cases e2
          exact ⟨hne, kvs, ⟨o, es, d1, d2, d3, d4, d5, d6⟩, er⟩
  cases ks with
  | nil =>
    obtain ⟨rfl, rfl⟩ := agD_nil h
    refine wpAny_Dict_empty ?_
    exact fin1 _ _ [] ⟨_, _, _, Heap.get?_push_size _ rfl, ⟨rfl, rfl, rfl⟩, rfl, by intro e he; simp at he, by first | trivial | exact List.Forall₂.nil | exact Pairs.nil | (constructor), by simp⟩ rfl (.refl ..) (Nat.le_refl _)
  | cons q r =>
    obtain ⟨pairs, e1, e2, e3⟩ := dct_pairs (S := S) (A := A) (env := env) (E := PostE S μ s (here L) E) (p := p) h
    refine wpAny_Dict_pairs (knd := PySem.strKind S.prog S.w) e1 (fun z => by rw [z] at e2; cases e2) (by rw [e2]; exact hz) ?_
    refine e3 _ _ fun vs kvs tk htk hc hm => ?_
    refine ⟨kvs, hc, ⟨_, _, _, Heap.get?_push_size _ rfl, ⟨rfl, rfl, rfl⟩, rfl, by intro e he; simp at he, by first | trivial | exact List.Forall₂.nil | exact Pairs.nil | (constructor), by simp⟩, fun h' hd sb => ?_⟩
    exact fin1 h' _ _ hd (hm _ _ [] [] rfl) sb (by dsimp only at htk ⊢; omega)
end
end Mine
set_option maxRecDepth 100000
namespace Mine
open PySem PySem.Calls PyProof.Rows PySem.W

section
variable {S : Sx} {A : Around} {F env : Env} {L : Addr} {Γ : FC} {n : Nat} {μ : List Addr} {H : AH} {s : Shared} {ρ : Lo} {κ : List Nat}

theorem Grow.drop {S : Sx} {L : Addr} {μ μ' : List Addr} {s s' : Shared} (x : Grow S [L] μ μ' s s') (hL : s.heap.get? L = none) : Grow S [] μ μ' s s' :=
  ⟨x.pre, x.fresh, x.size, fun b o e _ hm hl => x.keep b o e (fun hb => by rw [List.mem_singleton] at hb; subst hb; rw [hL] at e; cases e) hm hl, x.os, x.tok⟩

/-- only frames' notes and loose objects move -/
theorem Good.quiet (g : Good S μ H s) {h' : Heap} {tk : Nat} (hμ : ∀ a ∈ μ, ∀ o, s.heap.get? a = some o → h'.get? a = some o) (hk : ∀ b o, s.heap.get? b = some o → ¬ loose o → ∃ o', h'.get? b = some o' ∧ Same o o')
    (hb : ∀ b o, S.base.get? b = some o → h'.get? b = some o) (ht : ∀ q ∈ S.tabs, h'.get? q.2 = s.heap.get? q.2) (u : Up s { s with heap := h', toks := tk }) :
    Good S μ H { s with heap := h', toks := tk } ∧ Grow S [] μ μ s { s with heap := h', toks := tk } := by
  have st : Still s.heap h' := fun b ob eb hc => by
    have hl : ¬ loose ob := by
      rcases hc with (c | c) | c <;> exact not_loose c (by decide)
    obtain ⟨o', e', sm⟩ := hk b ob eb hl
    rw [sm.eq (by rcases hc with (c | c) | c <;> rw [c] <;> intro z <;> injection z with z <;> exact absurd z (by decide))] at e'
    exact e'
  exact ⟨⟨⟨fun b o h => hb b o h, g.inv.gens, fun q hq => let ⟨ps, e, T⟩ := g.inv.tabs q hq; ⟨ps, (ht q hq).trans e, T.step st⟩⟩, g.sr.len, g.sr.nodup,
      fun j o b h1 h2 => (g.sr.obj j o b h1 h2).step st (fun _ _ z => z) fun ob z => hμ b (mem_of_at h2) ob z⟩,
    ⟨[], by simp⟩, fun _ h1 h2 => absurd h1 h2, u.2, fun b o h _ _ hl => hk b o h hl, rfl, u.1⟩

theorem VRs.of {h : Heap} : ∀ {xs : List V} {cs : List Value}, cs.length = xs.length → (∀ (j : Nat) x c, xs[j]? = some x → cs[j]? = some c → VR S μ h x c) → VRs S μ h xs cs
  | [], [], _, _ => .nil S
  | [], _ :: _, h, _ => by simp at h
  | _ :: _, [], h, _ => by simp at h
  | x :: xs, c :: cs, h, k => .cons S (k 0 x c rfl rfl) (VRs.of (by simpa using h) fun j x' c' e1 e2 => k (j + 1) x' c' (by simpa using e1) (by simpa using e2))

theorem EntR.val {h : Heap} : ∀ {es : List (Nm × V)} {kvs : List (Str × Value)} {i : Nat} {p : Nm × V} {k : Str} {x : Value}, EntR S μ h es kvs → es[i]? = some p → kvs[i]? = some (k, x) → VR S μ h p.2 x
  | [], _, i, _, _, _, _, e, _ => by cases i <;> cases e
  | (a, b) :: r, _, i, p, k, x, ⟨c, kr, e1, e2, e3⟩, h1, h2 => by
    subst e1
    cases i with
    | zero => cases h1; cases h2; exact e2
    | succ i => exact EntR.val e3 (by simpa using h1) (by simpa using h2)


theorem mkl_sound (SVS : SV S) (g : Good S μ H s) (hh : A.handled = none) {E : Value → Shared → Prop} {Q : PV} {i : Nat} {es : List (Nm × V)} {ep : Nat} {c : Value} (r : VR S μ s.heap (.rr i) c) (hi : H[i]? = some (.dict es ep)) (hz : es.length ≤ 1000000)
    (q : Q (.rr H.length) (H ++ [.list (es.map fun p => .ss p.1)])) : wpAny (model S.prog S.w) A (call (.type "list") [c]) (PostV S μ s Q) E s := by
  obtain ⟨a, rfl, m⟩ := r.rr_inv
  obtain ⟨hb, kvs, hd, rs⟩ := g.sr.obj i _ a hi m
  refine wpAny_ups (kdl_call (kdl_dict (knd := PySem.strKind S.prog S.w) (kvs := kvs) (ep := ep) (hb.2)) hh hd (by rw [rs.length, sizeLine_eq]; omega) fun h' tk acc c kp hS hacc => fun up => ?_)
  obtain ⟨g', gr⟩ := g.added (o := .list (es.map fun p => .ss p.1)) kp up fun mo => ⟨g.base_new, acc, c, hS, VRs.of (by simpa [rs.length] using hacc.1) fun j x cc e1 e2 => by
    obtain ⟨k, x', h1, h2⟩ := hacc.2 j cc (by simpa using e2)
    obtain ⟨t, rfl⟩ := Value.isStrOf_shape h2
    rw [List.getElem?_map] at e1
    obtain ⟨p, hp, rfl⟩ := Option.map_eq_some_iff.mp e1
    rw [rs.key hp h1]; exact .ss⟩
  exact ⟨_, _, _, gr, g', .rr (by rw [← g.sr.len, List.getElem?_append_right (Nat.le_refl _), Nat.sub_self]; rfl), q⟩

theorem itms_sound (g : Good S μ H s) (hh : A.handled = none) {E : Value → Shared → Prop} {Q : PV} {i : Nat} {a v : Addr} {es : List (Nm × V)} {ep : Nat} (m : μ[i]? = some a) (hi : H[i]? = some (.dict es ep)) (hv : s.heap.IsItemsView v a) (hz : es.length ≤ 1000000)
    (q : Q (.rr H.length) (H ++ [.list (es.map fun p => .tt [.ss p.1, p.2])])) : wpAny (model S.prog S.w) A (call (.type "list") [.ref v]) (PostV S μ s Q) E s := by
  obtain ⟨hb, kvs, hd, rs⟩ := g.sr.obj i _ a hi m
  refine wpAny_ups (kdx_call (knd := PySem.strKind S.prog S.w) (kvs := kvs) (ep := ep) hh hv hd (by rw [rs.length, sizeLine_eq]; omega) fun h' tk acc c as kp hS hl hG hacc => fun up => ?_)
  obtain ⟨g', gr⟩ := g.added (o := .list (es.map fun p => .tt [.ss p.1, p.2])) kp up fun mo => ⟨g.base_new, acc, c, hS, VRs.of (by rw [hacc]; simp [hl, rs.length]) fun j x cc e1 e2 => by
    rw [hacc, List.getElem?_map] at e2
    obtain ⟨aj, h1, rfl⟩ := Option.map_eq_some_iff.mp e2
    obtain ⟨key, k, x', h2, h3, h4⟩ := hG.pairs j aj h1
    obtain ⟨t, rfl⟩ := Value.isStrOf_shape h3
    rw [List.getElem?_map] at e1
    obtain ⟨p, hp, rfl⟩ := Option.map_eq_some_iff.mp e1
    have hk := rs.key hp h2
    subst hk
    have hval := (rs.val hp h2).mono S mo
    rw [VR]
    exact ⟨aj, _, #[.str _ t, x'], _, rfl, h4, rfl, rfl, .cons S .ss (.one S hval)⟩⟩
  exact ⟨_, _, _, gr, g', .rr (by rw [← g.sr.len, List.getElem?_append_right (Nat.le_refl _), Nat.sub_self]; rfl), q⟩

theorem ok_mkl (SVS : SV S) {x : X} {y : Expr} {f : Str} {p p' : Pos} (hx : f = ("list" : Str)) (hk : Γ.kind f = some .globalImplicit) (hall : EvAll S A F L n Γ env (.cons x .nil) [y]) : EvOk S A F L n Γ env (.mkl x) (.Call (.Name f p) [y] [] p') := by
  intro t H Q E μ ρ κ s a q
  refine fin_plain t trivial ?_
  rw [ev] at q
  refine Call_ (load_bi SVS (f := .list) a hx.symm hk rfl ?_)
  refine callWith_sound (Ql := fun vs H => match vs with
    | [v] => n ≠ 0 ∧ ∃ i es ep, v = .rr i ∧ H[i]? = some (.dict es ep) ∧ es.length ≤ 1000000 ∧ fin t Q (.rr H.length) (H ++ [.list (es.map fun p => .ss p.1)])
    | _ => False) hall a (by rw [evL]; exact q) fun cs vs μ₂ s₂ H₂ gr2 g2 r2 q2 => ⟨keep_type, ?_⟩
  rcases vs with _ | ⟨v, _ | ⟨_, _⟩⟩
  · exact q2.elim
  · obtain ⟨hn, i, es, ep, rfl, h1, h2, q2⟩ := q2
    obtain ⟨c, rfl, r1⟩ := r2.one_inv
    exact mkl_sound SVS g2 (a.hh hn) r1 h1 h2 q2
  · exact q2.elim

theorem ok_itms (SVS : SV S) {x : X} {v : Expr} {f nm : Str} {p p' p1 ap : Pos} (hf : f = ("list" : Str)) (hk : Γ.kind f = some .globalImplicit) (hn : nm = ("items" : Str)) (hs : superLike v = false) (hl : (ap.endLine == p1.line) = true) (hx : EvOk S A F L n Γ env x v) :
    EvOk S A F L n Γ env (.itms x) (.Call (.Name f p) [.Call (.Attribute v nm ap) [] [] p1] [] p') := by
  intro t H Q E μ ρ κ s a q
  refine fin_plain t trivial ?_
  rw [ev] at q
  subst hn
  refine Call_ (load_bi SVS (f := .list) a hf.symm hk rfl ?_)
  rw [show starEach [.Call (.Attribute v ("items" : Str) ap) [] [] p1] env = (false, eval (.Call (.Attribute v ("items" : Str) ap) [] [] p1) env) :: [] from rfl]
  refine callWith_of (P := fun h => KeepOk S h (.type "list")) rfl (fun _ h => h) ?_
  refine Calls.evalArgs_plain (spliced_cons (meth_eval hs hl (by show 0 < 28; omega) rfl ?_))
  refine wpAny_mono (hx.val a q) (fun c s₁ ⟨μ₁, H₁, vc, gr, g, r, q⟩ => fun pl => ?_) fun _ _ x => x
  obtain ⟨hn, i, es, ep, rfl, h1, h2, q⟩ := q
  obtain ⟨ad, rfl, m⟩ := r.rr_inv
  obtain ⟨hb, kvs, hd, rs⟩ := g.sr.obj i _ ad h1 m
  have hD := hd.dictOf
  refine getMethod_builtin hD.typeIs PySem.F.plainAttrs_dict PySem.F.slot_dict_items PySem.F.type_dict_items hD.mapOf.noDict ?_
  refine callWith_of (P := fun h => KeepOk S h (.builtin "dict.items")) rfl (fun _ h => h) ?_
  refine PySem.evalArgs_none ⟨keep_builtin, ?_⟩
  refine call_meetsIn PySem.F.slot_dict_items hD.typeIs PySem.F.entry_dict_items (PySem.F.args_dict_items_1 _) (meets_dict_items (PySem.strKind S.prog S.w) ad (hb.2)) ⟨⟨kvs, hD⟩, ?_⟩
  have g2 := g.push { cls := .type "dict_items", data := .fields #[.ref ad] }
  have gr2 : Grow S [] μ₁ μ₁ s₁ _ := Grow.push (S := S) (W := []) (μ := μ₁) (s := s₁) { cls := .type "dict_items", data := .fields #[.ref ad] }
  refine spliced_nil ⟨keep_type, ?_⟩
  exact wpAny_mono (itms_sound g2 (a.hh hn) m h1 ⟨_, Heap.get?_push_size _ rfl, rfl, rfl⟩ h2 q) (fun _ _ x => x.pre (gr.trans gr2)) fun _ _ x => x
end
end Mine
set_option maxRecDepth 100000
namespace Mine
open PySem PySem.Calls PyProof.Rows PySem.W
theorem list_nokeys : typeLookup (.type "list") "keys" = pure none := by rw [typeLookup_type, builtinLookup_eq_fast]; kernel_rfl
section
variable {prog : Program} {w : World} {A : Around} {E : Value → Shared → Prop} {s : Shared} {a : Addr} {cs : Array Value} {c : Nat}
theorem noKeys (hh : A.handled = none) (hx : s.heap.get? a = some (listOf cs c)) {Q : Option Value → Shared → Prop} (q : ∀ h' tk, (∀ b o, s.heap.get? b = some o → h'.get? b = some o) → Q none { s with heap := h', toks := tk }) :
    wpAny (model prog w) A (getAttr? (.ref a) "keys") Q E s := by
  obtain ⟨hp, g, d, tk, os⟩ := s
  have hT : ∀ tk', (⟨hp, g, d, tk', os⟩ : Shared).TypeIs (.ref a) "list" := fun _ => ⟨_, hx, rfl⟩
  have f1 := sub_AttributeError
  have f3 := F.slot_list_getattribute.lookup
  have f4 := F.slot_list_getattribute.bind (.ref a)
  have f5 := am_list_getattr_none
  unfold getAttr? getAttrBy? getAttrBy
  repeat (any_goals (first | assumption | exact hT _ | ((with_reducible show wpAny _ _ (call (Value.builtin "list.__getattribute__") _ _) _ _ _); refine call_meets F.slot_list_getattribute (hT _) am_entry_list_getattribute (F.args_list_getattribute_2 _ _) (meets_getattribute_miss_list a cs c #[] "keys" _ list_nokeys (by decide) (by rw [sizeLine_eq]; decide)) ⟨hx, hh, fun h' tk' e hx' => ?_⟩) | wp_step))
  obtain ⟨t', u', he⟩ := hx'.there
  show wpAny _ _ (getattributeRaised _ _ _ _ _ _ _) _ _ _
  unfold getattributeRaised
  repeat (any_goals (first | assumption | wp_step))
  exact q _ _ hx'.of.keeps
end
end Mine
namespace Mine
open PySem PySem.Calls PyProof.Rows PySem.W
theorem entry_dul : entryFor table "dict.update.loop" = some Builtin.«dict.update.loop» := entryFor_of_tree (by kernel_rfl)
theorem plain_dul : plainId "dict.update.loop" = true := by decide +kernel
theorem prsOf_nil {xs : List V} (h : prsOf xs = some []) : xs = [] := by
  unfold prsOf at h
  split at h
  · rfl
  · obtain ⟨y, _, hy⟩ := Option.map_eq_some_iff.mp h; cases hy
  · cases h
theorem prsOf_cons {xs : List V} {k : Nm} {v : V} {es : List (Nm × V)} (h : prsOf xs = some ((k, v) :: es)) : ∃ r, xs = .tt [.ss k, v] :: r ∧ prsOf r = some es := by
  unfold prsOf at h
  split at h
  · cases h
  · obtain ⟨y, h1, hy⟩ := Option.map_eq_some_iff.mp h; cases hy; exact ⟨_, rfl, h1⟩
  · cases h
theorem upd_len (es : List (Nm × V)) (k : Nm) (v : V) : (upd es k v).length ≤ es.length + 1 := by
  unfold upd; split <;> simp
section
variable {S : Sx} {A : Around} {I D : Addr} {i d0 : Nat} {xs : List V} {R : Result → Shared → Prop}

theorem dictLoop (SVS : SV S) (hh : A.handled = none) (hid : i ≠ d0) (hIb : S.base.get? I = none) : ∀ (es : List (Nm × V)) (j : Nat) (acc : List (Nm × V)) (ep : Nat) (μ : List Addr) (H : AH) (s : Shared), Good S μ H s → H[i]? = some (.list xs) → H[d0]? = some (.dict acc ep) → μ[d0]? = some D →
    Itr S μ s.heap xs 0 (.rr i) I j → IterObj s.heap I → j ≤ xs.length → prsOf (xs.drop j) = some es → acc.length + es.length ≤ 2000000 →
    (∀ s' ep', Grow S [I] μ μ s s' → Good S μ (H.set d0 (.dict (updAll es acc) ep')) s' → R (.ok (.ret .none)) s') →
    codeAny (model S.prog S.w) A (.builtin "dict.update.loop" ⟨[.ref D, .ref I, rawInt j, .none], []⟩) R s
  | es, j, acc, ep, μ, H, s, g, hi, hd, hm, it, io, hj, hp, hz, hR => by
    have hs : snap H (.rr i) = some (xs, 0) := by unfold snap; simp only [hi]
    refine codeAny_builtin entry_dul ?_
    rw [Around.under_plainId plain_dul _]
    show wpAny _ A.in1 (pyNext (.ref I) >>= _) _ _ s
    refine wpAny_bind (wpAny_ups (wpAny_mono (iter_next (A := A.in1) g hh hs it io hj) (fun r s1 hN => fun up => ?_) fun _ _ x => x))
    obtain ⟨h1, tk1, rfl, hk, hN⟩ := hN
    obtain ⟨g1, gr1⟩ := g.iter io hIb hk up
    cases es with
    | nil =>
      have hx : xs[j]? = none := by
        have := prsOf_nil hp
        rw [List.drop_eq_nil_iff] at this
        exact List.getElem?_eq_none this
      rw [hx] at hN
      cases r with
      | some c => exact hN.elim
      | none =>
        refine wpAny_bind (wpAny_pure (wpAny_pure ?_))
        refine hR _ ep gr1 ?_
        rw [updAll, show H.set d0 (.dict acc ep) = H from ?_]
        · exact g1
        · apply List.ext_getElem?
          intro n
          by_cases hn : d0 = n
          · subst hn; rw [List.getElem?_set_self (List.getElem?_eq_some_iff.mp hd).1, hd]
          · rw [List.getElem?_set_ne hn]
    | cons p es =>
      obtain ⟨k, v⟩ := p
      obtain ⟨rest, hrest, hp'⟩ := prsOf_cons hp
      have hx : xs[j]? = some (.tt [.ss k, v]) := by
        have := congrArg (·[0]?) hrest
        simpa using this
      have hdrop : xs.drop (j + 1) = rest := by
        rw [← List.drop_drop, hrest]; rfl
      rw [hx] at hN
      cases r with
      | none => exact hN.elim
      | some c =>
        obtain ⟨rc, it1, io1⟩ := hN
        obtain ⟨ta, tcs, rfl, ht, rs⟩ := rc.tt_inv
        have htc : ∃ ck cv t, tcs = #[ck, cv] ∧ ck = .str ⟨k.toArray⟩ t ∧ VR S μ h1 v cv := by
          obtain ⟨c1, c2, e, r1, r2⟩ := rs.two_inv
          obtain ⟨t, rfl⟩ := r1.ss_inv
          exact ⟨_, _, t, by rw [← Array.toArray_toList (xs := tcs), e], rfl, r2⟩
        obtain ⟨ck, cv, t, rfl, rfl, rv⟩ := htc
        obtain ⟨to, te, tc, tn, td⟩ := ht
        refine wpAny_bind (wpAny_holding (wpAny_bind (wpAny_tryCatch ?_)))
        unfold Builtin.Dict.pairItems
        refine wpAny_bind (wpAny_typeOf (T := "tuple") ⟨to, te, tc⟩ ?_)
        rw [if_pos (by decide)]
        refine wpAny_bind (wpAny_seqItems te td (wpAny_pure ?_))
        show wpAny _ _ (holding [_, _] (dictSet D _ _)) _ _ _
        obtain ⟨hbD, kvs, hdat, rse⟩ := g1.sr.obj d0 _ D hd hm
        have hzk : kvs.length ≤ sizeLine := by
          rw [rse.length, sizeLine_eq]
          simp only [List.length_cons] at hz
          omega
        refine wpAny_ups (wpAny_holding (wpAny_dictSet_pairs (knd := PySem.strKind S.prog S.w) (k := (⟨k.toArray⟩ : Str)) (hsz := hzk) (isStr_self _ _) hdat.dictOf fun h2 hd2 sb => fun up2 => ?_))
        obtain ⟨ep2, o2, ds2, f1, f2, f3, f4, f5, f6⟩ := hd2.dictAt
        obtain ⟨o0, ds0, d1, d2, d3, d4, d5, d6⟩ := hdat
        have st2 : Still h1 h2 := still_sameBut d1 (.inr (.inl d2.1)) sb
        have mo2 : Mono μ μ h1 h2 := st2.mono fun _ _ z => z
        obtain ⟨g2, gr2⟩ := g1.set (o' := .dict (upd acc k v) ep2) hm d1 f1 (f2.1.trans d2.1.symm) hbD.1 sb ⟨hbD, _, ⟨o2, ds2, f1, f2, f3, f4, f5, f6⟩, (rse.mono S mo2).upd (rv.mono S mo2)⟩ (tk1 + 1) (Nat.le_succ _)
        refine wpAny_pure ⟨plainId_quiet plain_dul _, ?_⟩
        have hne : I ≠ D := fun z => io1.out g1 (z ▸ mem_of_at hm)
        obtain ⟨oI, nI, eI, cI, hnI⟩ := io1
        have eI2 : h2.get? I = some oI := (sb.2 I hne).trans eI
        have hj' : j + 1 ≤ xs.length := (List.getElem?_eq_some_iff.mp hx).1
        rw [show rawInt ((j : Int) + 1) = rawInt ((j + 1 : Nat) : Int) from rfl]
        refine dictLoop SVS hh hid hIb es (j + 1) (upd acc k v) ep2 μ _ _ g2 (by rw [List.getElem?_set_ne (Ne.symm hid)]; exact hi) (by rw [List.getElem?_set_self (List.getElem?_eq_some_iff.mp hd).1]) hm
          (it1.mono mo2 fun o e => (sb.2 I hne).trans e) ⟨oI, nI, eI2, cI, hnI⟩ hj' (by rw [hdrop]; exact hp') (by have := upd_len acc k v; simp only [List.length_cons] at hz; omega) fun s' ep' gr3 g3 => ?_
        rw [List.set_set] at g3
        exact hR s' ep' ((gr1.trans (gr2.weaken (by simp))).trans gr3) g3
  termination_by es => es.length
end
section
variable {S : Sx} {A : Around} {F env : Env} {L : Addr} {Γ : FC} {n : Nat} {μ : List Addr} {H : AH} {s : Shared} {ρ : Lo} {κ : List Nat}

theorem prsOf_len : ∀ {xs : List V} {es : List (Nm × V)}, prsOf xs = some es → xs.length = es.length
  | xs, [], h => by rw [prsOf_nil h]; rfl
  | xs, (k, v) :: es, h => by obtain ⟨r, rfl, h'⟩ := prsOf_cons h; rw [List.length_cons, List.length_cons, prsOf_len h']

theorem mkd_sound (SVS : SV S) (g : Good S μ H s) (hh : A.handled = none) {E : Value → Shared → Prop} {Q : PV} {i : Nat} {xs : List V} {es : List (Nm × V)} {c : Value} (r : VR S μ s.heap (.rr i) c) (hi : H[i]? = some (.list xs)) (hp : prsOf xs = some es) (hz : es.length ≤ 1000000)
    (q : ∀ ep, Q (.rr H.length) (H ++ [.dict (updAll es []) ep])) : wpAny (model S.prog S.w) A (call (.type "dict") [c]) (PostV S μ s Q) E s := by
  obtain ⟨a, rfl, m⟩ := r.rr_inv
  obtain ⟨hb, cs, cn, e, rs⟩ := g.sr.obj i _ a hi m
  have hil : i < H.length := (List.getElem?_eq_some_iff.mp hi).1
  refine callType_codes (Q₁ := fun obj s₁ => obj = .ref s.heap.objs.size ∧ s₁ = { s with heap := s.heap.push { cls := .type "dict", data := .dict #[] } }) F.kt_called_dict (F.kt_typeCall_dict_1 _) F.entry_dict_init (kt_code_dict_new _ ⟨rfl, rfl⟩) ?_
  rintro obj s₁ ⟨rfl, rfl⟩
  have hnew : (s.heap.push { cls := .type "dict", data := .dict #[] }).DictOf (PySem.strKind S.prog S.w) s.heap.objs.size [] := Heap.DictOf.new s.heap
  obtain ⟨ep0, hat0⟩ := hnew.dictAt
  have g1 := g.alloc emptyDict (.dict [] ep0) ⟨g.base_newD SVS, [], hat0, rfl⟩
  have gr1 : Grow S [] μ (μ ++ [s.heap.objs.size]) s { s with heap := s.heap.push emptyDict } := .alloc _
  refine ⟨hnew.typeIs, F.args_dict_init_2 _ _, ?_⟩
  have e1 := Heap.get?_push_of_some (h := s.heap) emptyDict e
  unfold Builtin.«dict.__init__»
  refine wpAny_bind ?_
  unfold Builtin.Dict.selfAndRest
  refine wpAny_bind (wpAny_notOrdered_dict hnew.typeIs ?_)
  show wpAny _ _ (pure (s.heap.objs.size, [Value.ref a])) _ _ _
  refine wpAny_pure ?_
  show wpAny _ _ (Builtin.Dict.updateFrom "dict.__init__" s.heap.objs.size (.ref a) [] .none) _ _ _
  unfold Builtin.Dict.updateFrom
  refine wpAny_bind (wpAny_typeOf (T := "list") ⟨_, e1, rfl⟩ ?_)
  rw [if_pos (by decide)]
  refine wpAny_bind (wpAny_ups (noKeys (A := A.in1.in1) hh e1 fun h2 tk2 kp => fun up => ?_))
  rw [if_pos (by rfl)]
  obtain ⟨g2, gr2⟩ := g1.quiet (h' := h2) (tk := tk2) (fun b _ o h => kp b o h) (fun b o h _ => ⟨o, kp b o h, .refl o⟩) (fun b o h => kp b o (g1.inv.stay b o h)) (fun q hq => by
    obtain ⟨ps, e, _⟩ := g1.inv.tabs q hq
    exact (kp _ _ e).trans e.symm) up
  have m2 : (μ ++ [s.heap.objs.size])[i]? = some a := gr1.at m
  have hi2 : (H ++ [O.dict [] ep0])[i]? = some (.list xs) := by rw [List.getElem?_append_left hil]; exact hi
  have hd2 : (H ++ [O.dict [] ep0])[H.length]? = some (.dict [] ep0) := by rw [List.getElem?_append_right (Nat.le_refl _), Nat.sub_self]; rfl
  have dm : (μ ++ [s.heap.objs.size])[H.length]? = some s.heap.objs.size := by rw [← g.sr.len, List.getElem?_append_right (Nat.le_refl _), Nat.sub_self]; rfl
  refine wpAny_bind (wpAny_rule ?_)
  refine wpAny_bind (wpAny_mono (iter_make SVS g2 (src := .rr i) (xs := xs) (ep := 0) (.rr m2) (by unfold snap; simp only [hi2])) (fun v s3 ⟨I, hv, hIb, hIz, io, gr3, g3, it⟩ => ?_) fun _ _ x => x)
  subst hv
  refine wpAny_pure ⟨plainId_quiet plain_dul _, ?_⟩
  refine dictLoop (A := A.in1) SVS hh (Nat.ne_of_lt hil) hIb es 0 [] ep0 _ _ _ g3 hi2 hd2 dm it io (Nat.zero_le _) (by rw [List.drop_zero]; exact hp) (by simp; omega) fun s4 ep4 gr4 g4 => ?_
  have hIn : (⟨h2, s.gens, s.drawn, tk2, s.os⟩ : Shared).heap.get? I = none := Heap.get?_none_of_le hIz
  have grT : Grow S [] μ (μ ++ [s.heap.objs.size]) s s4 := (((((gr1.trans gr2).trans gr3).weaken (W' := [I]) (by simp)).trans gr4)).drop (Heap.get?_none_of_le (Nat.le_trans (gr1.trans gr2).size hIz))
  refine ⟨rfl, μ ++ [s.heap.objs.size], _, .rr H.length, grT, g4, .rr dm, ?_⟩
  rw [show (H ++ [O.dict [] ep0]).set H.length (.dict (updAll es []) ep4) = H ++ [.dict (updAll es []) ep4] from by rw [List.set_append_right _ _ (Nat.le_refl _)]; simp]
  exact q ep4

theorem ok_mkd (SVS : SV S) {x : X} {y : Expr} {f : Str} {p p' : Pos} (hx : f = ("dict" : Str)) (hk : Γ.kind f = some .globalImplicit) (hall : EvAll S A F L n Γ env (.cons x .nil) [y]) : EvOk S A F L n Γ env (.mkd x) (.Call (.Name f p) [y] [] p') := by
  intro t H Q E μ ρ κ s a q
  refine fin_plain t trivial ?_
  rw [ev] at q
  refine Call_ (load_bi SVS (f := .dict) a hx.symm hk rfl ?_)
  refine callWith_sound (Ql := fun vs H => match vs with
    | [v] => n ≠ 0 ∧ ∃ i xs es, v = .rr i ∧ H[i]? = some (.list xs) ∧ prsOf xs = some es ∧ es.length ≤ 1000000 ∧ ∀ ep, fin t Q (.rr H.length) (H ++ [.dict (updAll es []) ep])
    | _ => False) hall a (by rw [evL]; exact q) fun cs vs μ₂ s₂ H₂ gr2 g2 r2 q2 => ⟨keep_type, ?_⟩
  rcases vs with _ | ⟨v, _ | ⟨_, _⟩⟩
  · exact q2.elim
  · obtain ⟨hn, i, xs, es, rfl, h1, h2, h3, q2⟩ := q2
    obtain ⟨c, rfl, r1⟩ := r2.one_inv
    exact mkd_sound SVS g2 (a.hh hn) r1 h1 h2 h3 q2
  · exact q2.elim
end
end Mine
set_option maxRecDepth 100000
namespace Mine
open PySem PySem.Calls PyProof.Rows PySem.W

/-! ## A join of a generator that picks texts -/
def TxR : List Nm → List Value → Prop
  | [], cs => cs = []
  | t :: ts, cs => ∃ u r, cs = .str ⟨t.toArray⟩ u :: r ∧ TxR ts r
theorem TxR.len : ∀ {ts : List Nm} {cs : List Value}, TxR ts cs → cs.length = ts.length
  | [], cs, h => by rw [TxR] at h; subst h; rfl
  | t :: ts, cs, h => by
    rw [TxR] at h
    obtain ⟨u, r, rfl, h⟩ := h
    rw [List.length_cons, List.length_cons, TxR.len h]
theorem TxR.get : ∀ {ts : List Nm} {cs : List Value} {i : Nat}, TxR ts cs → i < ts.length → ∃ u, cs[i]? = some (.str ⟨(ts.getD i []).toArray⟩ u)
  | [], cs, i, h, hi => by simp at hi
  | t :: ts, cs, i, h, hi => by
    rw [TxR] at h
    obtain ⟨u, r, rfl, h⟩ := h
    cases i with
    | zero => exact ⟨u, rfl⟩
    | succ i =>
      obtain ⟨u', e⟩ := TxR.get (i := i) h (by simpa using hi)
      exact ⟨u', by simpa using e⟩
section
variable {M : Model} {A : Around} {E : Value → Shared → Prop} {env : Env}
theorem tx_eval {pos : Pos} : ∀ {ts : List Nm} {es : List Expr} {s : Shared}, agTxs ts es = true → wpAny M A (spliced (backTo pos (starEach es env))) (fun cs s' => (∃ k, s' = { s with toks := k }) ∧ TxR ts cs) E s
  | [], es, s, h => by
    unfold agTxs at h
    rw [List.isEmpty_iff] at h
    subst h
    exact spliced_nil ⟨⟨s.toks, rfl⟩, by rw [TxR]⟩
  | t :: ts, es, s, h => by
    unfold agTxs at h
    split at h
    · rename_i x k p r
      simp only [Bool.and_eq_true, beq_iff_eq, decide_eq_true_eq] at h
      obtain ⟨⟨rfl, _⟩, h⟩ := h
      rw [show starEach (.Constant (.str ⟨t.toArray⟩) k p :: r) env = (false, eval (.Constant (.str ⟨t.toArray⟩) k p) env) :: starEach r env from rfl]
      refine spliced_cons ?_
      refine PySem.wpAny_Constant_str (k := k) (pos := p) ?_
      refine wpAny_mono (tx_eval (s := { s with toks := s.toks + 1 }) h) (fun cs s' ⟨⟨k, e⟩, tr⟩ => ?_) fun _ _ z => z
      exact ⟨⟨k, e⟩, by rw [TxR]; exact ⟨_, cs, rfl, tr⟩⟩
    · cases h
end
section
variable {prog : Program} {w : World} {A : Around} {E : Value → Shared → Prop} {env : Env} {s : Shared}
theorem agTxs_len : ∀ {ts : List Nm} {es : List Expr}, agTxs ts es = true → ∀ t ∈ ts, t.length ≤ 10
  | [], _, _ => fun t h => by cases h
  | t :: ts, es, h => by
    unfold agTxs at h
    split at h
    · simp only [Bool.and_eq_true, beq_iff_eq, decide_eq_true_eq] at h
      obtain ⟨⟨_, h1⟩, h2⟩ := h
      intro z hz
      rcases List.mem_cons.mp hz with rfl | hz
      · exact h1
      · exact agTxs_len h2 z hz
    · cases h
theorem agPick_len {ts : List Nm} {m : Nat} {x : Str} {elt : Expr} (h : agPick ts m x elt = true) : (∀ t ∈ ts, t.length ≤ 10) ∧ 0 < m ∧ m = ts.length := by
  unfold agPick at h
  split at h
  · simp only [Bool.and_eq_true, beq_iff_eq, decide_eq_true_eq] at h
    obtain ⟨⟨⟨⟨⟨_, _⟩, h3⟩, h4⟩, _⟩, h5⟩ := h
    exact ⟨agTxs_len h5, h4, h3⟩
  · cases h
theorem pick_eval {ts : List Nm} {m : Nat} {x : Str} {elt : Expr} {mm : Str → Option Value} {k : Int} {t : Tok} (h : agPick ts m x elt = true) (hn : s.heap.Ns env.locals mm) (hv : mm x = some (.int k t)) (hk : env.scope.kind = .function) (hx : env.kindOf x = some .local) (hd : (x == ("__debug__" : Str)) = false) :
    wpAny (model prog w) A (eval elt env) (fun y s' => (∃ u, y = .str ⟨(ts.getD (k.fmod (m : Int)).toNat []).toArray⟩ u) ∧ Keeps s s') E s := by
  unfold agPick at h
  split at h
  · rename_i es p1 y p2 k' kd p3 p4 p5
    simp only [Bool.and_eq_true, beq_iff_eq, decide_eq_true_eq] at h
    obtain ⟨⟨⟨⟨⟨rfl, rfl⟩, h3⟩, h4⟩, h6⟩, h5⟩ := h
    refine Subscript_ (wpAny_List (wpAny_mono (tx_eval h5) (fun cs s1 ⟨⟨k1, e⟩, tr⟩ => ?_) fun _ _ z => z))
    subst e
    have hl := tr.len
    refine ⟨by rw [hl, sizeLine_eq]; omega, ?_⟩
    have kp : ∀ b o, s.heap.get? b = some o → (s.heap.push { cls := .type "list", data := .seq cs.toArray }).get? b = some o := fun b o e => Heap.get?_push_of_some _ e
    have hL : (s.heap.push { cls := .type "list", data := .seq cs.toArray }).IsList s.heap.objs.size cs.toArray := ⟨_, Heap.get?_push_size _ rfl, rfl, _, rfl⟩
    refine wpAny_BinOp (wpAny_Name (wpAny_loadName_local hk hx (hn.keeps kp) hv ?_) hd)
    refine wpAny_Constant_int ?_
    refine mod_int' (by omega) ?_
    have hm0 : (0 : Int) ≤ k.fmod (m : Int) := Int.fmod_nonneg_of_pos _ (by omega)
    have hm1 : k.fmod (m : Int) < (m : Int) := Int.fmod_lt_of_pos _ (by omega)
    obtain ⟨u, hu⟩ := tr.get (i := (k.fmod (m : Int)).toNat) (by omega)
    refine tail_any (hL.typeIs) slot_list_getitem.lookup (wpAny_getItem_list hL hm0 (by omega) (x := .str ⟨(ts.getD (k.fmod (m : Int)).toNat []).toArray⟩ u) (by simpa using hu) ?_) (subs_plain rfl)
    exact ⟨⟨u, rfl⟩, _, _, rfl, kp⟩
  · cases h
theorem genexprCode_c {M : Model} {c P : Addr} {ps : Array Value} {pos : Pos} {qualname : Str} {scope : Scope} {Q : Value → Shared → Prop}
    (hc : env.code = .ref c) (C : CodeHd s.heap c P) (hP : s.heap.get? P = some (tabObj ps)) (T : TabOk s.heap ps)
    (h : ∀ cv h' tk ps' q, Heap.ExtBut P s.heap h' → s.heap.objs.size ≤ h'.objs.size → h'.get? P = some (tabObj ps') → TabOk h' ps' → CodeR h' cv q → Q cv { s with heap := h', toks := tk }) :
    wpAny M A (genexprCode env pos qualname scope) Q E s := by
  have hok := C.code hP T.1
  obtain ⟨o, vs, file, tf, flags, tg, inF, text, tt, op, ho, hd, h11, h2, h7, h9, h10, hop, hpd, htr, hne⟩ := id hok
  rw [hP] at hop; cases hop
  unfold genexprCode codeAt
  rw [hc, if_neg (show ¬ ((Value.ref c == Value.none) = true) from Bool.false_ne_true)]
  refine wpAny_bind (wpAny_fieldsOf ho hd ?_)
  rw [h11]
  refine wpAny_bind (wpAny_fieldsOf hP rfl ?_)
  cases hf : codeAmong pos ps.toList with
  | some cv =>
    obtain ⟨q, r⟩ := T.2 pos cv hf
    exact wpAny_pure (h cv s.heap s.toks ps q (fun _ _ _ e => e) (Nat.le_refl _) hP T r)
  | none =>
    rw [h2, h7, h9, h10]
    refine wpAny_bind (newCode_c fun c' h' tk hk hc' hlt hrec => ?_)
    have hP' := hk _ _ hP
    refine wpAny_bind (wpAny_updateFieldsOfTheText hP' rfl ?_)
    have hnew : Obj.mapFields (fun vs => if (codeAmong pos vs.toList).isSome = true then vs else vs ++ #[rawInt pos.line, rawInt pos.col, .ref c']) (tabObj ps) = tabObj (ps ++ #[rawInt pos.line, rawInt pos.col, .ref c']) := by
      unfold Obj.mapFields
      dsimp only
      rw [hf]; rfl
    have hget := Heap.get?_update_self (h := h') (fun o => Obj.mapFields (fun vs => if (codeAmong pos vs.toList).isSome = true then vs else vs ++ #[rawInt pos.line, rawInt pos.col, .ref c']) o) hP' (by rw [hnew]; rfl)
    rw [hnew] at hget
    refine wpAny_bind (wpAny_fieldsOf hget rfl ?_)
    have hl : (ps ++ #[rawInt pos.line, rawInt pos.col, Value.ref c']).toList = ps.toList ++ [rawInt pos.line, rawInt pos.col, .ref c'] := by simp
    rw [hl, codeAmong_snoc _ T.1 hf]
    have hext : Heap.ExtBut P s.heap (h'.update P fun o => Obj.mapFields (fun vs => if (codeAmong pos vs.toList).isSome = true then vs else vs ++ #[rawInt pos.line, rawInt pos.col, .ref c']) o) :=
      fun b o' hb e => (Heap.SameBut.update ..).extBut b o' hb (hk b o' e)
    have cstep : ∀ {cd q}, CodeR h' cd q → CodeR (h'.update P fun o => Obj.mapFields (fun vs => if (codeAmong pos vs.toList).isSome = true then vs else vs ++ #[rawInt pos.line, rawInt pos.col, .ref c']) o) cd q := by
      rintro cd q ⟨c2, o2, vs2, t2, e1, e2, e3, e4⟩
      refine ⟨c2, o2, vs2, t2, e1, (Heap.SameBut.update ..).extBut _ _ ?_ e2, e3, e4⟩
      rintro rfl
      rw [hP'] at e2; cases e2; cases e3
    refine wpAny_pure (h _ _ _ _ qualname hext ?_ hget ⟨by rw [hl]; exact TriplesOk_snoc _ _ _ _ T.1, fun pos' x e => ?_⟩ (cstep hrec))
    · exact Nat.le_trans hc' (Nat.le_trans (Nat.le_of_lt hlt) (Nat.le_of_eq (Heap.size_after_update ..).symm))
    · rw [hl] at e
      rcases codeAmong_app T.1 e with e | rfl
      · obtain ⟨q, r⟩ := T.2 pos' x e
        exact ⟨q, cstep (r.keeps hk)⟩
      · exact ⟨_, cstep hrec⟩
end
section
variable {S : Sx} {A : Around} {F env : Env} {L : Addr} {Γ : FC} {n : Nat} {μ : List Addr} {H : AH} {s : Shared} {ρ : Lo} {κ : List Nat}
theorem Good.of_eq (g : Good S μ H s) {s' : Shared} (hh : s'.heap = s.heap) (hg : AllBare s'.gens) : Good S μ H s' := by
  obtain ⟨⟨a, _, c⟩, d⟩ := g
  exact ⟨⟨by rw [hh]; exact a, hg, by rw [hh]; exact c⟩, by rw [hh]; exact d⟩
/-- what lay before lies still, but an iterator; generators came and went -/
theorem Good.gen (g : Good S μ H s) {I : Addr} {s' : Shared} (x : IterObj s.heap I) (hb : S.base.get? I = none) (hk : ∀ b o, b ≠ I → s.heap.get? b = some o → s'.heap.get? b = some o) (hg : AllBare s'.gens) (hos : s'.os = s.os) (u : Up s s') :
    Good S μ H s' ∧ Grow S [I] μ μ s s' := by
  obtain ⟨g1, gr1⟩ := g.iter (h' := s'.heap) (tk := s'.toks) x hb hk u
  exact ⟨g1.of_eq rfl hg, ⟨gr1.pre, gr1.fresh, gr1.size, gr1.keep, hos, u.1⟩⟩
theorem range_pass (n : Nat) : passing (fun _ => true) n 0 = List.range n := by
  unfold passing
  rw [List.drop_zero, List.filter_eq_self.mpr (fun _ _ => rfl)]
theorem genFold_plain {iter : Expr} (h : plainIter iter = true) (env : Env) (x : Value) : genFold iter env x = pure x := by
  cases iter <;> first | rfl | cases h
theorem closure_none {sc : Scope} (h : sc.names.all (fun p => p.2 != .cell && p.2 != .free) = true) (env : Env) : ∃ clos, closureFor sc env = pure clos := by
  obtain ⟨clos, e, _⟩ := closureFor_c (scope := sc) (env := env) fun x hm => by
    have := List.all_eq_true.mp h _ hm
    simp at this
  exact ⟨clos, e⟩
set_option maxHeartbeats 4000000 in
theorem ok_jn (SVS : SV S) {ts : List Nm} {m : Nat} {y : X} {iter elt : Expr} {sp nm xn : Str} {sc : Scope} {k0 : Nat} {p0 ap px gp p : Pos} (hsp : sp = ⟨#[]⟩) (hnm : nm = ("join" : Str)) (hl : (ap.endLine == p.line) = true) (hnest : Γ.nest = true) (hx : EvOk S A F L n Γ env y iter) (hpl : plainIter iter = true) (hg : genOk sc xn = true) (hp : agPick ts m xn elt = true) :
    EvOk S A F L n Γ env (.jn ts m y) (.Call (.Attribute (.Constant (.str sp) k0 p0) nm ap) [.GeneratorExp elt [⟨.Name xn px, iter, [], 0⟩] sc gp] [] p) := by
  intro t H Q E μ ρ κ s a q
  refine fin_plain t trivial ?_
  rw [ev] at q
  have hj : ("join" : Str) = SM.join.nm.str := by decide +kernel
  rw [hj] at hnm
  clear hj
  subst hsp hnm
  unfold genOk at hg
  simp only [Bool.and_eq_true, beq_iff_eq, Bool.not_eq_true'] at hg
  obtain ⟨⟨⟨⟨⟨g1, g2⟩, g3⟩, g4⟩, g5⟩, g6⟩ := hg
  have hdbg : (xn == ("__debug__" : Str)) = false := by simpa [bne] using g6
  obtain ⟨clos, hcl⟩ := closure_none g3 env
  have hcell : ∀ y ∈ sc.names, y.2 ≠ .cell := fun y hy => by
    have := List.all_eq_true.mp g3 y hy
    simp at this; exact this.1
  have hst : starEach [.GeneratorExp elt [⟨.Name xn px, iter, [], 0⟩] sc gp] env = (false, eval (.GeneratorExp elt [⟨.Name xn px, iter, [], 0⟩] sc gp) env) :: [] := rfl
  have hall : (backTo p (starEach [.GeneratorExp elt [⟨.Name xn px, iter, [], 0⟩] sc gp] env)).all (fun x => !x.1) = true := by rw [hst]; rfl
  have hsl : superLike (.Constant (.str ⟨#[]⟩) k0 p0) = false := rfl
  refine meth_eval hsl hl (by show 1 < 28; omega) hall ?_
  refine PySem.wpAny_Constant_str ?_
  intro pl
  have a1 : At S A F env L Γ n μ ρ κ H { s with toks := s.toks + 1 } := a.grow (.toks _ (Nat.le_succ _)) (a.g.toks _)
  have gr0 : Grow S [] μ μ s { s with toks := s.toks + 1 } := .toks _ (Nat.le_succ _)
  refine wpAny_mono (getMethod_str (x := []) (k := .join) (t := s.toks) (Q := fun fx s' => fx = (.builtin SM.join.id, [.str ⟨([] : List Nat).toArray⟩ s.toks]) ∧ s' = { s with toks := s.toks + 1 }) ⟨rfl, rfl⟩) (fun fx s' z => ?_) fun _ _ z => z
  obtain ⟨rfl, rfl⟩ := z
  dsimp only
  refine callWith_of (P := fun h => KeepOk S h (.builtin "str.join")) rfl (fun _ h => h) ?_
  rw [hst]
  refine Calls.evalArgs_plain (spliced_cons ?_)
  obtain ⟨hn, q⟩ := q
  have hh : A.handled = none := a.hh hn
  have hroom : A.depth < recursionLimit := by have := a.ar.depth; omega
  have hxk : env.kindOf xn = env.kindOf xn := rfl
  obtain ⟨hpl1, hpl2, hpl3⟩ := agPick_len hp
  obtain ⟨tq, htq, hcode⟩ := a.fr.nest hnest
  refine wpAny_ups (wpAny_GeneratorExp_walksQ hh g1 hcl hcell g4 g5 g2 hroom ?_ (genFold_plain hpl env))
  refine wpAny_mono (hx.val a1 q) (fun c s₁ ⟨μ₁, H₁, vc, gr, g, r, q⟩ => ?_) fun _ _ x => fun _ => x.pre gr0
  obtain ⟨i, ks, rfl, hi, hkl, q⟩ := q
  obtain ⟨ad, rfl, mad⟩ := r.rr_inv
  obtain ⟨hb, cs, cn, e, rs⟩ := g.sr.obj i _ ad hi mad
  have hl : s₁.heap.IsList ad cs := ⟨_, e, rfl, _, rfl⟩
  have hadl : ad < s₁.heap.objs.size := Heap.lt_size e
  have hcs : cs.size = ks.length := by
    have := VRs.length S rs
    rw [List.length_map] at this
    simpa using this
  have hlim : s₁.heap.NoLimit := SVS.lim.keeps g.inv.stay
  refine wpAny_pyIter_list hl ⟨hlim.push _, ?_⟩
  have g2' := g.push { cls := .type "list_iterator", data := .fields #[.ref ad, .int 0 0] }
  have gr2 : Grow S [] μ₁ μ₁ s₁ _ := Grow.push (S := S) (W := []) (μ := μ₁) (s := s₁) { cls := .type "list_iterator", data := .fields #[.ref ad, .int 0 0] }
  have hI : (s₁.heap.push { cls := .type "list_iterator", data := .fields #[.ref ad, .int 0 0] }).IsListIter s₁.heap.objs.size ad 0 := ⟨_, Heap.get?_push_size _ rfl, rfl, rfl⟩
  have hl2 : (s₁.heap.push { cls := .type "list_iterator", data := .fields #[.ref ad, .int 0 0] }).IsList ad cs := hl.push _
  have hIo : (s₁.heap.push { cls := .type "list_iterator", data := .fields #[.ref ad, .int 0 0] }).get? s₁.heap.objs.size = some { cls := .type "list_iterator", data := .fields #[.ref ad, .int 0 0] } := Heap.get?_push_size _ rfl
  have hsz2 : (s₁.heap.push { cls := .type "list_iterator", data := .fields #[.ref ad, .int 0 0] }).objs.size = s₁.heap.objs.size + 1 := Heap.size_push ..
  have kp2 : ∀ b o, s₁.heap.get? b = some o → (s₁.heap.push { cls := .type "list_iterator", data := .fields #[.ref ad, .int 0 0] }).get? b = some o := fun b o e => Heap.get?_push_of_some _ e
  have hIb : S.base.get? s₁.heap.objs.size = none := g.base_new
  revert g2' gr2 hI hl2 hIo hsz2 kp2
  generalize s₁.heap.push { cls := .type "list_iterator", data := .fields #[.ref ad, .int 0 0] } = h₂
  intro g2' gr2 hI hl2 hIo hsz2 kp2
  obtain ⟨ps, hP, T⟩ := g2'.inv.tabs tq htq
  have C : CodeHd h₂ tq.1 tq.2 := (SVS.tabs tq htq).1.keeps g2'.inv.stay
  have ne : ∀ b o, S.base.get? b = some o → b ≠ tq.2 := fun b o e z => by subst z; rw [(SVS.tabs tq htq).2] at e; cases e
  have hgP : mainGlobals ≠ tq.2 := by obtain ⟨o, _, _, e, _⟩ := SVS.g; exact ne _ o e
  refine wpAny_up (genexprCode_c (s := { s₁ with heap := h₂ }) hcode C hP T fun cv h₄ tk₄ ps' q' hx2 hz hP' T' hr => fun htk => ?_)
  obtain ⟨g4', gr4⟩ := g2'.ext SVS htq hx2 hP' T' hz tk₄ htk
  obtain ⟨bm, ob, b1, b2, b3, b4, b5, b6⟩ := SVS.bmain
  have hG := ns_stays SVS.g g4'.inv.stay
  rw [← a.fr.glo] at hG
  refine wpAny_builtinsFor hG b1 b2 (g4'.inv.stay _ _ b3) b4 b5 b6 ?_
  have hP2 : h₂.get? tq.2 = some (tabObj ps) := hP
  have hIP : s₁.heap.objs.size ≠ tq.2 := fun z => by rw [← z, hIo] at hP2; cases hP2
  have haP : ad ≠ tq.2 := fun z => by
    have := kp2 _ _ e
    rw [z, hP2] at this; cases this
  have hsz4 : h₂.objs.size ≤ h₄.objs.size := hz
  have k24 : ∀ b o, b ≠ tq.2 → h₂.get? b = some o → h₄.get? b = some o := fun b o hb e => hx2 b o hb e
  have hI4 : h₄.IsListIter s₁.heap.objs.size ad 0 := hI.at fun o e => k24 _ o hIP e
  have hl4 : h₄.IsList ad cs := hl2.at fun o e => k24 _ o haP e
  have hlim4 : h₄.NoLimit := SVS.lim.keeps g4'.inv.stay
  refine ⟨s₁.heap.objs.size, [s₁.heap.objs.size, ad], [s₁.heap.objs.size], cs.size, _, _, fun _ => true, fun i y => ∃ u, y = .str ⟨(ts.getD ((ks.getD i 0).fmod (m : Int)).toNat []).toArray⟩ u, rfl, (fun A' hA => Walks.list hA _ _ (Nat.ne_of_lt hadl) cs), ⟨hI4, hl4⟩, ?_, hlim4, ?_, ?_, ?_⟩
  · intro b hb'
    simp only [List.mem_cons, List.not_mem_nil, or_false] at hb'
    show b < h₄.objs.size
    have hIl : s₁.heap.objs.size < h₄.objs.size := Nat.lt_of_lt_of_le (hsz2 ▸ Nat.lt_succ_self _) hsz4
    rcases hb' with rfl | rfl
    · exact hIl
    · exact Nat.lt_trans hadl hIl
  · intro hm
    rw [List.mem_singleton] at hm
    have : cStatics < s₁.heap.objs.size := let ⟨_, hnn, _⟩ := hlim; hnn.lt
    exact absurd (hm ▸ this) (Nat.lt_irrefl _)
  · intro href hkeep
    refine ⟨fun A' E' i v s₂ m₂ hA hPi hns hmx hk => ?_, fun A' E' i v s₂ m₂ hA hPi _ hns hmx hk => ?_⟩
    · rw [List.forIn_nil]
      exact wpAny_pure ⟨rfl, s₂.heap, s₂.toks, rfl, fun _ _ e => e⟩
    · have hPi : cs[i]? = some v := hPi
      have hki : ∃ t, v = .int (ks.getD i 0) t := by
        have hil : i < ks.length := by
          have := (Array.getElem?_eq_some_iff.mp hPi).1
          omega
        have hx : (ks.map V.ii)[i]? = some (.ii (ks.getD i 0)) := by
          rw [List.getElem?_map, List.getD_eq_getElem?_getD, List.getElem?_eq_getElem hil]; rfl
        obtain ⟨c, hc, rc⟩ := VRs.get S rs hx
        have : cs.toList[i]? = some v := by simpa using hPi
        rw [hc] at this
        cases this
        exact rc.ii_inv
      obtain ⟨t, rfl⟩ := hki
      exact wpAny_mono (pick_eval (env := genEnv sc clos h₄.objs.size cv builtinsNs env) hp hns hmx g2 g5 hdbg) (fun y s3 z => z) fun _ _ z => z
  · intro a' h₅ tk₅ gs hbare hlt hsz5 kp5 W hat up0
    refine spliced_nil ⟨keep_builtin, ?_⟩
    show wpAny (model S.prog S.w) A (call (.builtin "str.join") [.str (⟨#[]⟩ : PySem.Str) s.toks, .ref a']) _ _ _
    have hpn : (passing (fun _ => true) cs.size 0).length = ks.length := by rw [range_pass, List.length_range, hcs]
    have k15 : ∀ b o, b ≠ tq.2 → s₁.heap.get? b = some o → h₅.get? b = some o := fun b o hb e => kp5 b o (k24 b o hb (kp2 b o e))
    refine wpAny_ups (SC.joinGen W.in4_2 (fun i s' st => st.1.typeIs) hat ?_ (List.mem_cons_self ..) ?_ (fun s' l hm hacc => ⟨?_, fun t' k => fun up => ?_⟩) ?_)
    · intro b hb'
      show b < h₅.objs.size
      rw [hsz5]
      rcases List.mem_cons.mp hb' with rfl | hb'
      · exact Nat.lt_succ_self _
      · rcases List.mem_cons.mp hb' with rfl | hb'
        · exact Nat.lt_succ_of_lt hlt
        · exact Nat.lt_succ_of_lt (Nat.lt_trans (List.mem_range.mp hb') hlt)
    · rintro j v ⟨i', _, u, rfl⟩
      exact ⟨_, _, rfl⟩
    all_goals
      try
        have hlt' : l.map (·.1) = (ks.map fun (k : Int) => ts.getD (k.fmod (m : Int)).toNat []).map fun z => (⟨z.toArray⟩ : PySem.Str) := by
          apply List.ext_getElem?
          intro j
          have hsz : l.length = ks.length := by
            have := hacc.1
            rw [hpn] at this
            simpa [strValues] using this
          by_cases hj : j < ks.length
          · have hj' : j < l.length := hsz ▸ hj
            obtain ⟨i', hi', u, hu⟩ := hacc.2 j (.str l[j].1 l[j].2) (by simp [strValues, List.getElem?_eq_getElem hj'])
            rw [range_pass, List.getElem?_range (by omega)] at hi'
            cases hi'
            injection hu with h1 h2
            rw [List.getElem?_map, List.getElem?_map, List.getElem?_map, List.getElem?_eq_getElem hj', List.getElem?_eq_getElem hj]
            simp only [Option.map_some]
            rw [h1, List.getD_eq_getElem?_getD (l := ks), List.getElem?_eq_getElem hj]; rfl
          · rw [List.getElem?_eq_none (by simp; omega), List.getElem?_eq_none (by simp; omega)]
    · unfold JoinOk
      rw [hlt', PySem.StrLaws.joinTotal]
      have hle : ∀ z ∈ (ks.map fun (k : Int) => ts.getD (k.fmod (m : Int)).toNat []), z.length ≤ 10 := by
        intro z hz
        obtain ⟨k, _, rfl⟩ := List.mem_map.mp hz
        rw [List.getD_eq_getElem?_getD]
        cases ht : ts[(k.fmod (m : Int)).toNat]? with
        | none => simp
        | some t => exact hpl1 t (List.mem_of_getElem? ht)
      have hlen : (ks.map fun (k : Int) => ts.getD (k.fmod (m : Int)).toNat []).length ≤ 1000 := by rw [List.length_map]; exact hkl
      generalize (ks.map fun (k : Int) => ts.getD (k.fmod (m : Int)).toNat []) = zs at hle hlen
      have e1 : ((zs.map fun z => (⟨z.toArray⟩ : PySem.Str)).map (·.length)).sum ≤ zs.length * 10 := by
        clear hlen
        induction zs with
        | nil => simp
        | cons z zs ih =>
          have h1 := hle z (by simp)
          have h2 := ih fun y hy => hle y (List.mem_cons_of_mem _ hy)
          rw [List.map_cons, List.map_cons, List.sum_cons, List.length_cons, Nat.add_one_mul]
          have h3 : (⟨z.toArray⟩ : PySem.Str).length = z.length := by simp [PySem.Str.length]
          rw [h3]; omega
      rw [List.length_map]
      unfold Builtin.Str.tooLong
      rw [sizeLine_eq]
      have e2 : (⟨#[]⟩ : PySem.Str).length = 0 := rfl
      rw [e2]
      simp only [gt_iff_lt, Bool.not_eq_true', decide_eq_false_iff_not, Nat.not_lt]
      omega
    · have e3 : (Txt.join (⟨#[]⟩ : PySem.Str) (l.map (·.1))).cps.toList = joinS [] (ks.map fun (k : Int) => ts.getD (k.fmod (m : Int)).toNat []) := by
        unfold Txt.join
        rw [PySem.StrLaws.glued_eq_join, join_list, hlt', List.map_map]
        congr 1
        conv => rhs; rw [← List.map_id (ks.map fun (k : Int) => ts.getD (k.fmod (m : Int)).toNat [])]
        apply List.map_congr_left
        intro z _
        simp
      have e4 : Txt.join (⟨#[]⟩ : PySem.Str) (l.map (·.1)) = ⟨(joinS [] (ks.map fun (k : Int) => ts.getD (k.fmod (m : Int)).toNat [])).toArray⟩ := by
        rw [← e3, Array.toArray_toList]
      rw [e4]
      have hkeep : ∀ b o, b ≠ s₁.heap.objs.size → h₄.get? b = some o → s'.heap.get? b = some o := fun b o hb e => hm.heap b o (fun hmem => by
        rcases List.mem_cons.mp hmem with h | h
        · have := Heap.lt_size e
          exact absurd (h ▸ this) (Nat.lt_irrefl _)
        · rw [List.mem_singleton] at h; exact hb h) (kp5 b o e)
      have hbz : AllBare s'.gens := (g4'.inv.gens.push hbare).moved hm.gens
      have hs5 : h₅.objs.size ≤ s'.heap.objs.size := up.2
      have hs4 : h₄.objs.size ≤ s'.heap.objs.size := Nat.le_trans (Nat.le_trans (Nat.le_of_lt hlt) (by rw [hsz5]; exact Nat.le_succ _)) hs5
      obtain ⟨gz, grz⟩ := Good.gen g4' (s' := { s' with toks := max k tk₄ }) ⟨_, _, k24 _ _ hIP hIo, rfl, by simp [iterNames]⟩ hIb hkeep hbz hm.os ⟨Nat.le_max_right .., hs4⟩
      have grT := (((gr2.trans gr4).weaken (W' := [s₁.heap.objs.size]) (by simp)).trans grz).drop (Heap.get?_none_of_le (Nat.le_refl _))
      have grA := (gr0.trans gr).trans grT
      have htok : s.toks ≤ k := Nat.le_trans (Nat.le_trans (Nat.le_succ _) up0.1) up.1
      exact ⟨μ₁, H₁, _, ⟨grA.pre, grA.fresh, grA.size, grA.keep, grA.os, htok⟩, gz.of_eq rfl hbz, .ss, q⟩
    · rw [hpn, sizeLine_eq]; omega
end
end Mine
set_option maxRecDepth 10000
namespace Mine
open PySem PySem.Calls PyProof.Rows PySem.W

section
variable {S : Sx} {A : Around} {F : Env} {L : Addr} {n : Nat}

theorem agX_star {ob : Nat → Scope → FuncBody → Bool} {Γ : FC} {x : X} {e : Expr} {env : Env} (h : agX S.gname S.fns ob Γ x e = true) (rest : List Expr) : starEach (e :: rest) env = (false, eval e env) :: starEach rest env := by
  cases e <;> first | rfl | (cases x <;> simp [agX] at h)

theorem agX_set {ob : Nat → Scope → FuncBody → Bool} {Γ : FC} {x : X} {e : Expr} {env : Env} (h : agX S.gname S.fns ob Γ x e = true) (v : Value) : foldedSetIterable e env v = pure v := by
  cases e <;> first | rfl | (cases x <;> simp [agX] at h)

theorem name_eq {x y : Str} : (x != y) = true → (x == y) = false := by
  intro h; simpa [bne] using h

mutual
theorem ev_sound (SVS : SV S) {ob : Nat → Scope → FuncBody → Bool} (hob : ∀ k sc b, ob k sc b = true → ob1 S.gname S.fns k sc b = true) : ∀ (x : X) {Γ : FC} {env : Env} {e : Expr}, agX S.gname S.fns ob Γ x e = true → EvOk S A F L n Γ env x e
  | .nn, Γ, env, e, h => by
    unfold agX at h; split at h
    · exact ok_nn
    · cases h
  | .bb b, Γ, env, e, h => by
    unfold agX at h; split at h
    · rw [beq_iff_eq] at h; subst h; exact ok_bb
    · cases h
  | .ii i, Γ, env, e, h => by
    unfold agX at h; split at h
    · rw [beq_iff_eq] at h; subst h; exact ok_ii
    · cases h
  | .ss x, Γ, env, e, h => by
    unfold agX at h; split at h
    · rw [beq_iff_eq] at h; subst h; exact ok_ss
    · cases h
  | .loc i, Γ, env, e, h => by
    unfold agX at h; split at h
    · simp only [Bool.and_eq_true, beq_iff_eq] at h; exact ok_loc h.1.1 h.1.2 (name_eq h.2)
    · cases h
  | .cel i, Γ, env, e, h => by
    unfold agX at h; split at h
    · simp only [Bool.and_eq_true, beq_iff_eq, Bool.or_eq_true] at h; exact ok_cel h.1.1.1 h.1.1.2 (name_eq h.1.2) (name_eq h.2)
    · cases h
  | .glob k, Γ, env, e, h => by
    unfold agX at h; split at h
    · simp only [Bool.and_eq_true, beq_iff_eq, Bool.not_eq_true'] at h; exact ok_glob SVS h.1.1.1 h.1.1.2 (name_eq h.1.2) (h.1.1.1 ▸ h.2)
    · cases h
  | .bin op a b, Γ, env, e, h => by
    unfold agX at h; split at h
    · simp only [Bool.and_eq_true, beq_iff_eq] at h
      rw [h.1.1]
      exact ok_bin (ev_sound SVS hob a h.1.2) (ev_sound SVS hob b h.2)
    · cases h
  | .neg a, Γ, env, e, h => by
    unfold agX at h; split at h
    · exact ok_neg (ev_sound SVS hob a h)
    · cases h
  | .cmp op a b, Γ, env, e, h => by
    unfold agX at h; split at h
    · simp only [Bool.and_eq_true, beq_iff_eq, Bool.not_eq_true'] at h
      obtain ⟨⟨⟨h1, h2⟩, h3⟩, h4⟩ := h
      subst h1
      exact ok_cmp SVS h4 (ev_sound SVS hob a h2) (ev_sound SVS hob b h3)
    · cases h
  | .not a, Γ, env, e, h => by
    unfold agX at h; split at h
    · exact ok_not (ev_sound SVS hob a h)
    · cases h
  | .and xs, Γ, env, e, h => by
    unfold agX at h; split at h
    · exact ok_boolop (b := true) (fun ρ κ E t H Q => by rw [ev]) (evL_ok SVS hob xs h)
    · cases h
  | .or xs, Γ, env, e, h => by
    unfold agX at h; split at h
    · exact ok_boolop (b := false) (fun ρ κ E t H Q => by rw [ev]) (evL_ok SVS hob xs h)
    · cases h
  | .ite c a b, Γ, env, e, h => by
    unfold agX at h; split at h
    · simp only [Bool.and_eq_true] at h
      exact ok_ite (ev_sound SVS hob c h.1.1) (ev_sound SVS hob a h.1.2) (ev_sound SVS hob b h.2)
    · cases h
  | .bi f xs, Γ, env, e, h => by
    unfold agX at h; split at h
    · simp only [Bool.and_eq_true, beq_iff_eq] at h
      exact ok_bi SVS h.1.1 h.1.2 (evL_ok SVS hob xs h.2)
    · cases h
  | .isi x t, Γ, env, e, h => by
    unfold agX at h; split at h
    · simp only [Bool.and_eq_true, beq_iff_eq] at h
      obtain ⟨⟨⟨⟨h1, h2⟩, h3⟩, h4⟩, h5⟩ := h
      exact ok_isi SVS h1 h2 h4 h5 (ev_sound SVS hob x h3) (agX_star h3)
    · cases h
  | .call f xs, Γ, env, e, h => by
    unfold agX at h; split at h
    · simp only [Bool.and_eq_true, Bool.not_eq_true'] at h
      exact ok_call h.1.1 (ev_sound SVS hob f h.1.2) (evL_ok SVS hob xs h.2)
    · cases h
  | .meth o m xs, Γ, env, e, h => by
    unfold agX at h; split at h
    · simp only [Bool.and_eq_true, beq_iff_eq, Bool.not_eq_true', decide_eq_true_eq] at h
      obtain ⟨⟨⟨⟨⟨h1, h2⟩, h3⟩, h4⟩, h5⟩, h6⟩ := h
      subst h2
      exact ok_meth SVS h4 (beq_iff_eq.mpr h5) h6 (ev_sound SVS hob o h1) (evL_ok SVS hob xs h3)
    · cases h
  | .rpl m x y w, Γ, env, e, h => by
    unfold agX at h; split at h
    · simp only [Bool.and_eq_true, beq_iff_eq, Bool.not_eq_true'] at h
      obtain ⟨⟨⟨⟨⟨⟨⟨⟨h0, h1⟩, h2⟩, h3⟩, h4⟩, h5⟩, h6⟩, h7⟩, h8⟩ := h
      subst h3
      exact ok_rpl SVS h2 h4 h5 h7 (beq_iff_eq.mpr h8) h0 (ev_sound SVS hob m h1) (ev_sound SVS hob w h6) (agX_star h6)
    · cases h
  | .attr o m, Γ, env, e, h => by
    unfold agX at h; split at h
    · simp only [Bool.and_eq_true, beq_iff_eq, Bool.not_eq_true'] at h
      obtain ⟨⟨h1, h2⟩, h3⟩ := h
      subst h2
      exact ok_attr SVS h3 (ev_sound SVS hob o h1)
    · cases h
  | .idx o i, Γ, env, e, h => by
    unfold agX at h; split at h
    · simp only [Bool.and_eq_true, Bool.not_eq_true'] at h
      exact ok_idx SVS h.2 (ev_sound SVS hob o h.1.1) (ev_sound SVS hob i h.1.2)
    · cases h
  | .sl o lo hi, Γ, env, e, h => by
    unfold agX at h; split at h
    · simp only [Bool.and_eq_true] at h
      exact ok_sl (ev_sound SVS hob o h.1.1) (evO_ok SVS hob lo h.1.2) (evO_ok SVS hob hi h.2)
    · cases h
  | .tup xs, Γ, env, e, h => by
    unfold agX at h; split at h
    · exact ok_tup (evL_ok SVS hob xs h)
    · cases h
  | .lst xs, Γ, env, e, h => by
    unfold agX at h; split at h
    · exact ok_lst (evL_ok SVS hob xs h)
    · cases h
  | .dct ks, Γ, env, e, h => by
    unfold agX at h; split at h
    · simp only [Bool.and_eq_true, decide_eq_true_eq] at h
      exact ok_dct SVS h.1 h.2
    · cases h
  | .comp x t it ifs k, Γ, env, e, h => by
    unfold agX at h; split at h
    · simp only [Bool.and_eq_true] at h
      obtain ⟨⟨⟨⟨h1, h2⟩, h3⟩, h4⟩, h5⟩ := h
      exact ok_comp SVS h2 (agX_set h1) (ev_sound SVS hob it h1) h4 fun cenv _ => ⟨evL_ok SVS hob ifs h5, ev_sound SVS hob x h3⟩
    · cases h
  | .lam k, Γ, env, e, h => by
    unfold agX at h; split at h
    · refine ok_lam SVS ?_
      simp only [agFn, Bool.and_eq_true] at h ⊢
      obtain ⟨⟨⟨⟨⟨⟨⟨⟨⟨⟨⟨⟨⟨h1, h2⟩, h3⟩, h4⟩, h5⟩, h6⟩, h7⟩, h8⟩, h9⟩, h10⟩, h11⟩, h12⟩, h13⟩, h14⟩ := h
      exact ⟨⟨⟨⟨⟨⟨⟨⟨⟨⟨⟨⟨⟨hob _ _ _ h1, h2⟩, h3⟩, h4⟩, h5⟩, h6⟩, h7⟩, h8⟩, h9⟩, h10⟩, h11⟩, h12⟩, h13⟩, h14⟩
    · cases h
  | .mkl x, Γ, env, e, h => by
    unfold agX at h; split at h
    · simp only [Bool.and_eq_true, beq_iff_eq] at h
      obtain ⟨⟨h1, h2⟩, h3⟩ := h
      exact ok_mkl SVS h1 h2 (.cons (ev_sound SVS hob x h3) (agX_star h3) .nil)
    · cases h
  | .mkd x, Γ, env, e, h => by
    unfold agX at h; split at h
    · simp only [Bool.and_eq_true, beq_iff_eq] at h
      obtain ⟨⟨h1, h2⟩, h3⟩ := h
      exact ok_mkd SVS h1 h2 (.cons (ev_sound SVS hob x h3) (agX_star h3) .nil)
    · cases h
  | .itms x, Γ, env, e, h => by
    unfold agX at h; split at h
    · simp only [Bool.and_eq_true, beq_iff_eq, Bool.not_eq_true'] at h
      obtain ⟨⟨⟨⟨⟨h1, h2⟩, h3⟩, h4⟩, h5⟩, h6⟩ := h
      exact ok_itms SVS h1 h2 h3 h5 (beq_iff_eq.mpr h6) (ev_sound SVS hob x h4)
    · cases h
  | .jn ts m x, Γ, env, e, h => by
    unfold agX at h; split at h
    · simp only [Bool.and_eq_true, beq_iff_eq] at h
      obtain ⟨⟨⟨⟨⟨⟨⟨h1, h2⟩, h3⟩, h4⟩, h5⟩, h6⟩, h7⟩, h8⟩ := h
      exact ok_jn SVS h1 h2 (beq_iff_eq.mpr h3) h4 (ev_sound SVS hob x h5) h6 h7 h8
    · cases h
theorem evL_ok (SVS : SV S) {ob : Nat → Scope → FuncBody → Bool} (hob : ∀ k sc b, ob k sc b = true → ob1 S.gname S.fns k sc b = true) : ∀ (xs : XL) {Γ : FC} {env : Env} {es : List Expr}, agXL S.gname S.fns ob Γ xs es = true → EvAll S A F L n Γ env xs es
  | .nil, Γ, env, es, h => by
    unfold agXL at h
    rw [List.isEmpty_iff] at h
    subst h; exact .nil
  | .cons x xs, Γ, env, es, h => by
    unfold agXL at h; split at h
    · rw [Bool.and_eq_true] at h
      exact .cons (ev_sound SVS hob x h.1) (agX_star h.1) (evL_ok SVS hob xs h.2)
    · cases h
theorem evO_ok (SVS : SV S) {ob : Nat → Scope → FuncBody → Bool} (hob : ∀ k sc b, ob k sc b = true → ob1 S.gname S.fns k sc b = true) : ∀ (x : XO) {Γ : FC} {env : Env} {e : Option Expr}, agXO S.gname S.fns ob Γ x e = true → EvOpt S A F L n Γ env x e
  | .none, Γ, env, e, h => by
    unfold agXO at h
    rw [Option.isNone_iff_eq_none] at h
    subst h; exact .none
  | .some x, Γ, env, e, h => by
    unfold agXO at h; split at h
    · exact .some (ev_sound SVS hob x h)
    · cases h
end
end
end Mine
set_option maxRecDepth 10000
namespace Mine
open PySem PySem.Calls PyProof.Rows PySem.W

section
variable {S : Sx} {A : Around} {F env : Env} {L : Addr} {Γ : FC} {n : Nat} {μ : List Addr} {H : AH} {s : Shared} {ρ : Lo} {κ : List Nat}

theorem tab_ne (g : Good S μ H s) {q : Addr × Addr} (hq : q ∈ S.tabs) {b : Addr} {o : Obj} {t : String} (e : s.heap.get? b = some o) (c : o.cls = .type t) : q.2 ≠ b := fun z => by
  obtain ⟨ps, e2, _⟩ := g.inv.tabs q hq
  rw [z, e] at e2; cases e2; cases c

/-- a traceback moves -/
theorem Good.trace (g : Good S μ H s) {T : Addr} {oT : Obj} {f : Obj → Obj} (e : s.heap.get? T = some oT) (c : oT.cls = .type "traceback") (hb : S.base.get? T = none) :
    Good S μ H { s with heap := s.heap.update T f } ∧ Grow S [] μ μ s { s with heap := s.heap.update T f } := by
  have sb : Heap.SameBut T s.heap (s.heap.update T f) := .update ..
  have hm : T ∉ μ := g.sr.out e (not_mCls c (by decide) (by decide) (by decide) (by decide))
  refine g.quiet (tk := s.toks) (fun a ha o h => (sb.2 a fun z => hm (z ▸ ha)).trans h) (fun b o h hl => ⟨o, (sb.2 b ?_).trans h, .refl o⟩) (fun b o h => (sb.2 b fun z => by subst z; rw [hb] at h; cases h).trans (g.inv.stay b o h))
    (fun q hq => sb.2 _ (tab_ne g hq e c)) ⟨Nat.le_refl _, Nat.le_of_eq sb.1.symm⟩
  rintro rfl
  rw [e] at h; cases h
  exact hl (.inl c)

/-- frames are made ready -/
theorem Good.slots (g : Good S μ H s) {l : List Env} {h' : Heap} (ff : FF S s.heap l) (x : Heap.SlotsOnly (l.filterMap (·.frame)) s.heap h') :
    Good S μ H { s with heap := h' } ∧ Grow S [] μ μ s { s with heap := h' } := by
  have key : ∀ b, b ∈ l.filterMap (·.frame) → S.base.get? b = none ∧ ∃ o es n, s.heap.get? b = some o ∧ o.cls = .type "frame" ∧ o.data = .dict es n := ff.cls
  refine g.quiet (tk := s.toks) (fun a ha o h => (x.2.1 a fun z => ?_).trans h) (fun b o h hl => ?_) (fun b o h => (x.2.1 b fun z => ?_).trans (g.inv.stay b o h)) (fun q hq => x.2.1 _ fun z => ?_) ⟨Nat.le_refl _, Nat.le_of_eq x.1.symm⟩
  · obtain ⟨_, o', es, n, e, c, _⟩ := key a z
    exact g.sr.out e (not_mCls c (by decide) (by decide) (by decide) (by decide)) ha
  · by_cases hbl : b ∈ l.filterMap (·.frame)
    · obtain ⟨_, o', es, n, e, c, _⟩ := key b hbl
      rw [e] at h; cases h
      obtain ⟨sl, hs⟩ := x.2.2 b _ e
      exact ⟨_, hs, rfl, rfl, rfl, .inl c⟩
    · exact ⟨o, (x.2.1 b hbl).trans h, .refl o⟩
  · obtain ⟨q1, _⟩ := key b z
    rw [q1] at h; cases h
  · obtain ⟨_, o', es, n, e, c, _⟩ := key _ z
    exact tab_ne g hq e c rfl

/-- an exception's places move -/
theorem Good.exc (g : Good S μ H s) {i : Nat} {a : Addr} {c : Nat} {args : List V} {d : Option Nat} {o : Obj} {vs vs' : Array Value} {h' : Heap} (m : μ[i]? = some a) (hi : H[i]? = some (.exc c args d false)) (e : s.heap.get? a = some o) (hd : o.data = .fields vs)
    (sb : Heap.SameBut a s.heap h') (e' : h'.get? a = some { o with data := .fields vs' }) (h0 : vs'[0]? = vs[0]?) (hz : vs'.size = vs.size) :
    Good S μ H { s with heap := h' } ∧ Grow S [] μ μ s { s with heap := h' } := by
  obtain ⟨hb, C, vs0, t, sl, dd, h1, h2, h3, h4, h5, _, h6⟩ := g.sr.obj i _ a hi m
  rw [e] at h2; cases h2
  dsimp only at hd; cases hd
  have st : Still s.heap h' := still_sameBut e (.inr (.inr (.inr (.inr ⟨C, rfl⟩)))) sb
  have mo : Mono μ μ s.heap h' := st.mono fun _ _ z => z
  obtain ⟨g', gr⟩ := g.set (o' := .exc c args d false) m e e' rfl hb sb ⟨hb, C, vs', t, sl, dd, h1, e', by rw [hz]; exact h3, h0.trans h4, h5.mono S mo, (fun z => by cases z), h6⟩ s.toks (Nat.le_refl _)
  rw [show H.set i (.exc c args d false) = H from by
    apply List.ext_getElem?
    intro j
    by_cases hj : i = j
    · subst hj
      have hlt := (List.getElem?_eq_some_iff.mp hi).1
      rw [List.getElem?_set_self hlt, hi]
    · rw [List.getElem?_set_ne hj]] at g'
  exact ⟨g', gr⟩
end
end Mine
set_option maxRecDepth 10000
namespace Mine
open PySem PySem.Calls PyProof.Rows PySem.W

section
variable {S : Sx} {A : Around} {env : Env} {L : Addr} {Γ : FC} {n : Nat} {μ : List Addr} {H : AH} {s : Shared} {ρ : Lo} {κ : List Nat}

theorem fields_upd {o : Obj} {vs : Array Value} (hd : o.data = .fields vs) (f : Array Value → Array Value) : Obj.mapFields f o = { o with data := .fields (f vs) } := by
  obtain ⟨c, d, dt, sl⟩ := o
  dsimp only at hd; subst hd; rfl

theorem newEntry_sound (a : At S A env env L Γ n μ ρ κ H s) {E : Value → Shared → Prop} {i c : Nat} {e : Addr} {args : List V} {d : Option Nat} {oe : Obj} {vs : Array Value} {head : Value} {hadNext : Bool} (m : μ[i]? = some e) (hi : H[i]? = some (.exc c args d false)) (he : s.heap.get? e = some oe) (hd : oe.data = .fields vs) (hz : 1 < vs.size) :
    wpAny (model S.prog S.w) A (do let fr ← frameOf env; let pl ← entryPlaceOf L hadNext; let b ← EntryCells.newEntry head fr .none (rawInt L) .none pl; setField (.ref e) 1 b)
      (fun _ s' => At S A env env L Γ n μ ρ κ H s' ∧ Grow S [] μ μ s s' ∧ Fl S s'.heap e (· = some (rawInt L))) E s := by
  obtain ⟨out, f1, f2⟩ := a.ar.frames
  have hbe : S.base.get? e = none := (a.g.sr.obj i _ e hi m).1
  refine wpAny_bind (wpAny_frameOf_fun f1 f2.fun a.fl fun h₁ hs₁ => ?_)
  refine wpAny_bind (wpAny_entryPlaceOf fun pl hpl => ?_)
  unfold EntryCells.newEntry newFields
  refine wpAny_bind (wpAny_newObj_type ?_ (hpl.sizeOk5 _ _ _ _ _))
  obtain ⟨g1, gr1⟩ := a.g.slots f2 hs₁
  have hem : e ∉ (env :: out).filterMap (·.frame) := fun z => by
    obtain ⟨_, o', es, k, q1, q2, q3⟩ := f2.cls e z
    rw [he] at q1; cases q1; rw [hd] at q3; cases q3
  have he1 : h₁.get? e = some oe := (hs₁.2.1 e hem).trans he
  generalize hT : ({ cls := .type "traceback", dict := none, data := .fields ([head, .ref L, .none, rawInt L, .none] ++ (if pl.isEmpty then List.replicate 6 Value.none else pl)).toArray } : Obj) = oT
  have gr2 : Grow S [] μ μ { s with heap := h₁ } { s with heap := h₁.push oT } := .push _
  have g2 := g1.push oT
  have he2 : (h₁.push oT).get? e = some oe := Heap.get?_push_of_some _ he1
  refine wpAny_setField he2 hd hz ?_
  have sb : Heap.SameBut e (h₁.push oT) ((h₁.push oT).update e (Obj.mapFields (·.setIfInBounds 1 (.ref h₁.objs.size)))) := .update ..
  have e3 := Heap.get?_update_self (h := h₁.push oT) (Obj.mapFields (·.setIfInBounds 1 (Value.ref h₁.objs.size))) he2 (by rw [fields_upd hd]; rfl)
  rw [fields_upd hd] at e3
  obtain ⟨g3, gr3⟩ := g2.exc m hi he2 hd sb e3 (by rw [Array.getElem?_setIfInBounds_ne (by decide)]) (by simp)
  have gr : Grow S [] μ μ s { s with heap := (h₁.push oT).update e (Obj.mapFields (·.setIfInBounds 1 (.ref h₁.objs.size))) } := (gr1.trans gr2).trans gr3
  refine ⟨a.grow gr g3, gr, hbe, _, _, e3, rfl, .inr ⟨h₁.objs.size, oT, ([head, .ref L, .none, rawInt L, .none] ++ (if pl.isEmpty then List.replicate 6 Value.none else pl)).toArray, rawInt L, ?_, g1.base_new, ?_, by rw [← hT], by rw [← hT], ?_, rfl⟩⟩
  · rw [Array.getElem?_setIfInBounds_self_of_lt hz]
  · exact (sb.2 _ (Nat.ne_of_gt (Heap.lt_size he1))).trans (Heap.get?_push_size _ (by rw [← hT]; rfl))
  · first | (simp; done) | (rcases hpl with rfl | ⟨_, _, _, _, _, _, _, rfl⟩ <;> simp)

theorem note_sound (a : At S A env env L Γ n μ ρ κ H s) {E : Value → Shared → Prop} {i c : Nat} {e : Addr} {args : List V} {d : Option Nat} (m : μ[i]? = some e) (hi : H[i]? = some (.exc c args d false)) (fl : Fl S s.heap e (here L)) :
    wpAny (model S.prog S.w) A (noteFrame (.ref e) env) (fun _ s' => At S A env env L Γ n μ ρ κ H s' ∧ Grow S [] μ μ s s' ∧ Fl S s'.heap e (· = some (rawInt L))) E s := by
  obtain ⟨hb, oe, vs, he, hd, ht⟩ := fl
  have hz : 1 < vs.size := by
    rcases ht with ⟨q, _⟩ | ⟨_, _, _, _, q, _⟩ <;> exact (Array.getElem?_eq_some_iff.mp q).1
  unfold noteFrame
  simp only [a.fl]
  rcases ht with ⟨q, _⟩ | ⟨T, oT, ts, f, q, hbT, hT, cT, dT, h3, hp⟩
  · refine wpAny_bind (wpAny_field he hd q ?_)
    rw [if_neg (by decide)]
    exact newEntry_sound a m hi he hd hz
  · refine wpAny_bind (wpAny_field he hd q ?_)
    rw [if_pos (show (Value.ref T != Value.none) = true from by simp)]
    refine wpAny_bind (wpAny_field hT dT h3 ?_)
    rcases hp with hp | hp | hp
    · cases hp
    · cases hp
      rw [if_neg (show ¬ ((Value.none == rawInt L) = true) from by simp [rawInt])]
      refine wpAny_bind (wpAny_setField hT dT (Array.getElem?_eq_some_iff.mp h3).1 ?_)
      obtain ⟨g1, gr1⟩ := a.g.trace (f := Obj.mapFields (·.setIfInBounds 3 Value.none)) hT cT hbT
      have a1 := a.grow gr1 g1
      have hTe : T ≠ e := fun z => by
        subst z
        obtain ⟨_, C, _, _, _, _, _, q2, _⟩ := a.g.sr.obj i _ T hi m
        rw [hT] at q2; cases q2; cases cT
      have he1 : (s.heap.update T (Obj.mapFields (·.setIfInBounds 3 Value.none))).get? e = some oe := (Heap.get?_update_other _ _ hTe).trans he
      exact wpAny_mono (newEntry_sound a1 m hi he1 hd hz) (fun _ s' ⟨x, y, z⟩ => ⟨x, gr1.trans y, z⟩) fun _ _ x => x
    · cases hp
      rw [if_pos (by simp)]
      exact wpAny_pure ⟨a, .refl .., hb, oe, vs, he, hd, .inr ⟨T, oT, ts, _, q, hbT, hT, cT, dT, h3, rfl⟩⟩

theorem flight_sound (a : At S A env env L Γ n μ ρ κ H s) {E : Value → Shared → Prop} {i c : Nat} {e : Addr} {args : List V} {d : Option Nat} {P : Option Value → Prop} {fr : Option Addr} (m : μ[i]? = some e) (hi : H[i]? = some (.exc c args d false)) (fl : Fl S s.heap e P) (hP : ¬ P none) :
    wpAny (model S.prog S.w) A (setFlight (.ref e) fr) (fun _ s' => At S A env env L Γ n μ ρ κ H s' ∧ Grow S [] μ μ s s' ∧ Fl S s'.heap e (· = some (fr.elim .none fun f => rawInt f))) E s := by
  obtain ⟨hb, oe, vs, he, hd, ht⟩ := fl
  rcases ht with ⟨_, q⟩ | ⟨T, oT, ts, f, q, hbT, hT, cT, dT, h3, hp⟩
  · exact absurd q hP
  · unfold setFlight
    refine wpAny_bind (wpAny_field he hd q ?_)
    rw [if_pos (show (Value.ref T != Value.none) = true from by simp)]
    have hz3 := (Array.getElem?_eq_some_iff.mp h3).1
    refine wpAny_setField hT dT hz3 ?_
    obtain ⟨g1, gr1⟩ := a.g.trace (f := Obj.mapFields (·.setIfInBounds 3 (fr.elim .none fun f => rawInt f))) hT cT hbT
    have hTe : T ≠ e := fun z => by
      subst z
      obtain ⟨_, C, _, _, _, _, _, q2, _⟩ := a.g.sr.obj i _ T hi m
      rw [hT] at q2; cases q2; cases cT
    have e3 := Heap.get?_update_self (h := s.heap) (Obj.mapFields (·.setIfInBounds 3 (fr.elim Value.none fun f => rawInt f))) hT (by rw [fields_upd dT]; rfl)
    rw [fields_upd dT] at e3
    exact ⟨a.grow gr1 g1, gr1, hb, oe, vs, (Heap.get?_update_other _ _ hTe).trans he, hd, .inr ⟨T, _, _, _, q, hbT, e3, cT, rfl, by rw [Array.getElem?_setIfInBounds_self_of_lt hz3], rfl⟩⟩
end
end Mine
set_option maxRecDepth 10000
namespace Mine
open PySem PySem.Calls PyProof.Rows PySem.W

/-! ## Statements -/
inductive Flo where
  | nrm | brk | cont | ret (v : V)

def putQ (o i v : V) (H : AH) (K : AH → Prop) : Prop := match o, i with
  | .rr j, .ii i => ∃ ys k, H[j]? = some (.list ys) ∧ i = ((k : Nat) : Int) ∧ k < ys.length ∧ ys.length ≤ 1000000 ∧ K (H.set j (.list (ys.set k v)))
  | .rr j, .ss x => ∃ es ep, H[j]? = some (.dict es ep) ∧ es.length < 1000000 ∧ ∀ ep', K (H.set j (.dict (upd es x v) ep'))
  | _, _ => False

def setaQ (S : Sx) (o : V) (a : Nm) (v : V) (H : AH) (K : AH → Prop) : Prop := match o with
  | .rr i => match H[i]? with
    | some (.inst c d) => S.ao c a = true ∧ S.isE c = false ∧ ∃ es, H[d]? = some (.ns es) ∧ es.length < 500 ∧ K (H.set d (.ns ((a, v) :: es)))
    | some (.exc c args (some d) _) => S.ao c a = true ∧ S.isE c = true ∧ ∃ es, H[d]? = some (.ns es) ∧ es.length < 500 ∧ K (H.set d (.ns ((a, v) :: es)))
    | some (.exc c args none fr) => S.ao c a = true ∧ S.isE c = true ∧ K (H.set i (.exc c args (some H.length) fr) ++ [.ns [(a, v)]])
    | _ => False
  | _ => False

def augQ (op : Operator) (a b : V) (H : AH) (Q : PV) : Prop := match op, a, b with
  | .Add, .ii a, .ii b => Q (.ii (a + b)) H
  | .Sub, .ii a, .ii b => Q (.ii (a - b)) H
  | _, _, _ => False

abbrev QS := Flo → Lo → AH → Prop
abbrev ES := Lo → Nat → AH → Prop

def loopK (next : Lo → AH → Prop) (Q : QS) : QS := fun f ρ H => match f with
  | .nrm => next ρ H
  | .cont => next ρ H
  | .brk => Q .nrm ρ H
  | .ret v => Q (.ret v) ρ H

def forGo (body : V → Lo → AH → QS → Prop) (ok : AH → Prop) : List V → Lo → AH → QS → Prop
  | [], ρ, H, Q => ok H ∧ Q .nrm ρ H
  | v :: r, ρ, H, Q => ok H ∧ body v ρ H (loopK (fun ρ H => forGo body ok r ρ H Q) Q)

section
variable (S : Sx) (κ : List Nat)
mutual
def ex : St → Nat → Lo → AH → QS → ES → Prop
  | .expr e, n, ρ, H, Q, E => ev S n ρ κ (E ρ) e false H fun _ H => Q .nrm ρ H
  | .asg t e, n, ρ, H, Q, E => ev S n ρ κ (E ρ) e false H fun v H => setTg n κ t v ρ H fun ρ H => Q .nrm ρ H
  | .put o i e, n, ρ, H, Q, E => ev S n ρ κ (E ρ) e false H fun v H => ev S n ρ κ (E ρ) o false H fun ov H => ev S n ρ κ (E ρ) i false H fun iv H => putQ ov iv v H fun H => Q .nrm ρ H
  | .seta o a e, n, ρ, H, Q, E => ev S n ρ κ (E ρ) e false H fun v H => ev S n ρ κ (E ρ) o false H fun ov H => setaQ S ov a v H fun H => Q .nrm ρ H
  | .seta2 o a o' a' e, n, ρ, H, Q, E => ev S n ρ κ (E ρ) e false H fun v H => n ≠ 0 ∧ ∃ x y, unp H v = some [x, y] ∧ ev S n ρ κ (E ρ) o false H fun ov H => setaQ S ov a x H fun H => ev S n ρ κ (E ρ) o' false H fun ov' H => setaQ S ov' a' y H fun H => Q .nrm ρ H
  | .sup i e, n, ρ, H, Q, E => ∃ j c args d fr, ρ[i]? = some (some (.rr j)) ∧ H[j]? = some (.exc c args d fr) ∧ S.isE c = true ∧ ev S n ρ κ (E ρ) e false H fun v H => ∃ x args d fr, v = .ss x ∧ H[j]? = some (.exc c args d fr) ∧ Q .nrm ρ (H.set j (.exc c [v] d fr))
  | .aug i op e, n, ρ, H, Q, E => ∃ old, ρ[i]? = some (some old) ∧ ev S n ρ κ (E ρ) e false H fun v H => augQ op old v H fun w H => Q .nrm (ρ.set i (some w)) H
  | .ifs c a b, n, ρ, H, Q, E => tst S n ρ κ (E ρ) c H fun t H => if t then exs a n ρ H Q E else exs b n ρ H Q E
  | .whl c b, n, ρ, H, Q, E => ∃ Inv : Nat → Lo → AH → Prop, (∃ m, Inv m ρ H) ∧ ∀ m ρ H, Inv m ρ H → tst S n ρ κ (E ρ) c H fun t H => if t then exs b n ρ H (loopK (fun ρ H => ∃ m' < m, Inv m' ρ H) Q) E else Q .nrm ρ H
  | .for_ t it b, n, ρ, H, Q, E => ev S n ρ κ (E ρ) it false H fun src H => ∃ xs ep, snap H src = some (xs, ep) ∧ n ≠ 0 ∧ xs.length ≤ 1000000 ∧
      forGo (fun v ρ H K => setTg n κ t v ρ H fun ρ H => exs b n ρ H K E) (fun H => snap H src = some (xs, ep)) xs ρ H Q
  | .ret e, n, ρ, H, Q, E => ev S n ρ κ (E ρ) e false H fun v H => Q (.ret v) ρ H
  | .raise e, n, ρ, H, Q, E => n ≠ 0 ∧ ev S n ρ κ (E ρ) e false H fun v H => ∃ i c args d, v = .rr i ∧ H[i]? = some (.exc c args d true) ∧ S.isE c = true ∧ E ρ i (H.set i (.exc c args d false))
  | .try_ b k i h, n, ρ, H, Q, E => n ≠ 0 ∧ exs b n ρ H Q fun ρ e H => (∃ c args d, H[e]? = some (.exc c args d false) ∧ S.isE c = true ∧ S.gv c = S.gv k) ∧ ev S 0 (ρ.set i (some (.rr e))) κ (fun _ _ => False) h false H fun v H => Q (.ret v) (ρ.set i none) H
  | .def_ t k, n, ρ, H, Q, E => ∃ cs, (S.fns k).up.map (fun j => κ[j]?) = cs.map some ∧ setTg n κ t (.rr H.length) ρ (H ++ [.fn k cs]) fun ρ H => Q .nrm ρ H
  | .brk, _, ρ, H, Q, _ => Q .brk ρ H
  | .cont, _, ρ, H, Q, _ => Q .cont ρ H
  | .pass, _, ρ, H, Q, _ => Q .nrm ρ H
def exs : SL → Nat → Lo → AH → QS → ES → Prop
  | .nil, _, ρ, H, Q, _ => Q .nrm ρ H
  | .cons s r, n, ρ, H, Q, E => ex s n ρ H (fun f ρ H => match f with
    | .nrm => exs r n ρ H Q E
    | f => Q f ρ H) E
end
end

section
variable {S : Sx} {A : Around} {F env : Env} {L : Addr} {Γ : FC} {n : Nat} {μ : List Addr} {H : AH} {s : Shared} {ρ : Lo} {κ : List Nat}

def FlR (S : Sx) (μ : List Addr) (h : Heap) : Flo → Flow → Prop
  | .nrm, f => f = .next
  | .brk, f => f = .brk
  | .cont, f => f = .cont
  | .ret v, f => ∃ c, f = .ret c ∧ VR S μ h v c

/-- what is left of the frame: nothing is asked behind a return -/
def AtF (S : Sx) (A : Around) (env : Env) (L : Addr) (Γ : FC) (n : Nat) (μ : List Addr) (ρ : Lo) (κ : List Nat) (H : AH) (s : Shared) (b : Flo) : Prop := match b with
  | .ret _ => Good S μ H s
  | _ => At S A env env L Γ n μ ρ κ H s
def PostS (S : Sx) (A : Around) (env : Env) (L : Addr) (Γ : FC) (n : Nat) (κ : List Nat) (μ : List Addr) (s : Shared) (Q : QS) : Flow → Shared → Prop := fun f s' =>
  ∃ μ' ρ' H' b, Grow S [env.locals] μ μ' s s' ∧ AtF S A env L Γ n μ' ρ' κ H' s' b ∧ FlR S μ' s'.heap b f ∧ Q b ρ' H'
def PostX (S : Sx) (A : Around) (env : Env) (L : Addr) (Γ : FC) (n : Nat) (κ : List Nat) (μ : List Addr) (s : Shared) (E : ES) : Value → Shared → Prop := fun v s' =>
  ∃ μ' ρ' H' i a, Grow S [env.locals] μ μ' s s' ∧ At S A env env L Γ n μ' ρ' κ H' s' ∧ v = .ref a ∧ μ'[i]? = some a ∧ Fl S s'.heap a (here L) ∧ ExcAt H' i ∧ E ρ' i H'

theorem PostX.pre {μ₁ : List Addr} {s₁ : Shared} {E : ES} (gr : Grow S [env.locals] μ μ₁ s s₁) {v : Value} {s' : Shared} (x : PostX S A env L Γ n κ μ₁ s₁ E v s') : PostX S A env L Γ n κ μ s E v s' :=
  let ⟨a, b, c, d, e, f, r⟩ := x; ⟨a, b, c, d, e, gr.trans f, r⟩
theorem PostS.pre {μ₁ : List Addr} {s₁ : Shared} {Q : QS} (gr : Grow S [env.locals] μ μ₁ s s₁) {v : Flow} {s' : Shared} (x : PostS S A env L Γ n κ μ₁ s₁ Q v s') : PostS S A env L Γ n κ μ s Q v s' :=
  let ⟨a, b, c, d, e, r⟩ := x; ⟨a, b, c, d, gr.trans e, r⟩
theorem PostX.ofE {E : ES} (a : At S A env env L Γ n μ ρ κ H s) {v : Value} {s' : Shared} (x : PostE S μ s (here L) (E ρ) v s') : PostX S A env L Γ n κ μ s E v s' :=
  let ⟨μ', H', i, ad, gr, g, e, m, f, q⟩ := x; ⟨μ', ρ, H', i, ad, gr.weaken (by simp), a.grow gr g, e, m, f, q⟩

/-- a statement does what its mini text says -/
def ExOk (S : Sx) (L : Addr) (Γ : FC) (env : Env) (x : St) (st : Stmt) : Prop :=
  ∀ (n : Nat) (A : Around) (H : AH) (Q : QS) (E : ES) (μ : List Addr) (ρ : Lo) (κ : List Nat) (s : Shared), At S A env env L Γ n μ ρ κ H s → ex S κ x n ρ H Q E →
    wpAny (model S.prog S.w) A (exec st env) (PostS S A env L Γ n κ μ s Q) (PostX S A env L Γ n κ μ s E) s
def ExsOk (S : Sx) (L : Addr) (Γ : FC) (env : Env) (xs : SL) (ss : List Stmt) : Prop :=
  ∀ (n : Nat) (A : Around) (H : AH) (Q : QS) (E : ES) (μ : List Addr) (ρ : Lo) (κ : List Nat) (s : Shared), At S A env env L Γ n μ ρ κ H s → exs S κ xs n ρ H Q E →
    wpAny (model S.prog S.w) A (execs ss env) (PostS S A env L Γ n κ μ s Q) (PostX S A env L Γ n κ μ s E) s
end
end Mine
set_option maxRecDepth 10000
namespace Mine
open PySem PySem.Calls PyProof.Rows PySem.W

section
variable {S : Sx} {A : Around} {env : Env} {L : Addr} {Γ : FC} {n : Nat} {μ : List Addr} {H : AH} {s : Shared} {ρ : Lo} {κ : List Nat}

theorem swaps_none {e : Expr} {t : Option Expr} {l : Nat} (h : isComp e = false) : swapsWith e t l env = pure false := by
  cases e <;> first | rfl | cases h

/-- what a swapped assignment is -/
def nameOf? (env : Env) (line : Nat) : Expr → Option Str
  | .Name id pos => if env.kindOf id == some .local && pos.line == line then some id else none
  | _ => none

theorem swapped_cases {ts : List Expr} {e : Expr} {k : Nat} {p : Pos} (h : tupConst e = false) : swappedStores [.Tuple ts k p] e env = pure none ∨
    ∃ names : List Str, swappedStores [.Tuple ts k p] e env = pure (some names) ∧ names = ts.filterMap (nameOf? env ((ts.head?.map (·.pos.line)).getD 0)) ∧ names.length = ts.length ∧ names.eraseDups.length = names.length := by
  cases e
  case Tuple vs k' p' =>
    have h' : (vs.all (constantsAlone 8) && !vs.all (foldedForSure 8)) = false := h
    unfold swappedStores
    dsimp only
    split
    · left; rfl
    · split
      · left; rfl
      · split
        · left; rfl
        · rename_i c3
          split
          · left; rfl
          · rename_i c4
            split
            · rename_i c5
              rw [c5] at h'
              have h'' : vs.all (foldedForSure 8) = true := by simpa using h'
              exact absurd h'' c4
            · right
              simp only [Bool.or_eq_true, bne_iff_ne, ne_eq, not_or, Classical.not_not] at c3
              refine ⟨_, rfl, ?_, c3.1, c3.2⟩
              refine congrFun (congrArg _ ?_) _
              funext e
              cases e <;> rfl
  all_goals left; rfl

theorem nameOf_some {line : Nat} {e : Expr} {x : Str} (h : nameOf? env line e = some x) : ∃ p, e = .Name x p ∧ env.kindOf x = some .local := by
  unfold nameOf? at h
  split at h
  · split at h
    · rename_i q
      cases h
      simp only [Bool.and_eq_true, beq_iff_eq] at q
      exact ⟨_, rfl, q.1⟩
    · cases h
  · cases h

theorem swap2 {e1 e2 e : Expr} {k : Nat} {p : Pos} (h : tupConst e = false) : swappedStores [.Tuple [e1, e2] k p] e env = pure none ∨
    ∃ x p1 y p2, e1 = .Name x p1 ∧ e2 = .Name y p2 ∧ x ≠ y ∧ env.kindOf x = some .local ∧ env.kindOf y = some .local ∧ swappedStores [.Tuple [e1, e2] k p] e env = pure (some [x, y]) := by
  rcases swapped_cases (env := env) (ts := [e1, e2]) (k := k) (p := p) h with h | ⟨names, h1, h2, h3, h4⟩
  · exact .inl h
  · right
    generalize (([e1, e2] : List Expr).head?.map (·.pos.line)).getD 0 = line at h2
    simp only [List.filterMap_cons, List.filterMap_nil] at h2
    cases q1 : nameOf? env line e1 with
    | none => rw [q1] at h2; dsimp only at h2; split at h2 <;> subst h2 <;> simp at h3
    | some x =>
      cases q2 : nameOf? env line e2 with
      | none => rw [q1, q2] at h2; dsimp only at h2; subst h2; simp at h3
      | some y =>
        rw [q1, q2] at h2
        dsimp only at h2
        subst h2
        obtain ⟨p1, rfl, k1⟩ := nameOf_some q1
        obtain ⟨p2, rfl, k2⟩ := nameOf_some q2
        refine ⟨x, p1, y, p2, rfl, rfl, ?_, k1, k2, h1⟩
        rintro rfl
        simp [List.eraseDups_cons] at h4

theorem swap4 {x y z u : Str} {p1 p2 p3 p4 : Pos} {e : Expr} {k : Nat} {p : Pos} (h : tupConst e = false) : swappedStores [.Tuple [.Name x p1, .Name y p2, .Name z p3, .Name u p4] k p] e env = pure none ∨
    swappedStores [.Tuple [.Name x p1, .Name y p2, .Name z p3, .Name u p4] k p] e env = pure (some [x, y, z, u]) := by
  rcases swapped_cases (env := env) (ts := [.Name x p1, .Name y p2, .Name z p3, .Name u p4]) (k := k) (p := p) h with h | ⟨names, h1, h2, h3, h4⟩
  · exact .inl h
  · right
    generalize (([.Name x p1, .Name y p2, .Name z p3, .Name u p4] : List Expr).head?.map (·.pos.line)).getD 0 = line at h2
    have key : ∀ (w : Str) (pw : Pos), nameOf? env line (.Name w pw) = none ∨ nameOf? env line (.Name w pw) = some w := by
      intro w pw
      unfold nameOf?
      dsimp only
      split
      · exact .inr rfl
      · exact .inl rfl
    rw [h1]
    rcases key x p1 with q1 | q1 <;> rcases key y p2 with q2 | q2 <;> rcases key z p3 with q3 | q3 <;> rcases key u p4 with q4 | q4 <;>
      simp only [List.filterMap_cons, List.filterMap_nil, q1, q2, q3, q4] at h2 <;> subst h2 <;> first | rfl | (simp at h3; done)

theorem swap3 {e1 e2 e3 e : Expr} {k : Nat} {p : Pos} (h : tupConst e = false) : swappedStores [.Tuple [e1, e2, e3] k p] e env = pure none ∨
    ∃ x p1 y p2 z p3, e1 = .Name x p1 ∧ e2 = .Name y p2 ∧ e3 = .Name z p3 ∧ x ≠ y ∧ x ≠ z ∧ y ≠ z ∧ env.kindOf x = some .local ∧ env.kindOf y = some .local ∧ env.kindOf z = some .local ∧ swappedStores [.Tuple [e1, e2, e3] k p] e env = pure (some [x, y, z]) := by
  rcases swapped_cases (env := env) (ts := [e1, e2, e3]) (k := k) (p := p) h with h | ⟨names, h1, h2, h3, h4⟩
  · exact .inl h
  · right
    generalize (([e1, e2, e3] : List Expr).head?.map (·.pos.line)).getD 0 = line at h2
    simp only [List.filterMap_cons, List.filterMap_nil] at h2
    cases q1 : nameOf? env line e1 with
    | none => rw [q1] at h2; dsimp only at h2; repeat' (split at h2)
              all_goals subst h2; simp at h3
    | some x =>
      cases q2 : nameOf? env line e2 with
      | none => rw [q1, q2] at h2; dsimp only at h2; repeat' (split at h2)
                all_goals subst h2; simp at h3
      | some y =>
        cases q3 : nameOf? env line e3 with
        | none => rw [q1, q2, q3] at h2; dsimp only at h2; subst h2; simp at h3
        | some z =>
          rw [q1, q2, q3] at h2
          dsimp only at h2
          subst h2
          obtain ⟨p1, rfl, k1⟩ := nameOf_some q1
          obtain ⟨p2, rfl, k2⟩ := nameOf_some q2
          obtain ⟨p3, rfl, k3⟩ := nameOf_some q3
          have nd : x ≠ y ∧ x ≠ z ∧ y ≠ z := by
            refine ⟨?_, ?_, ?_⟩ <;> rintro rfl <;> simp only [List.eraseDups_cons, List.filter_cons, List.filter_nil, beq_self_eq_true, Bool.not_true, Bool.false_eq_true, if_false, List.length_cons, List.length_nil] at h4
            all_goals first
              | (by_cases a1 : z = x <;> simp [a1, List.eraseDups_cons] at h4; done)
              | (by_cases a1 : y = x <;> simp [a1, List.eraseDups_cons] at h4; done)
              | skip
          exact ⟨x, p1, y, p2, z, p3, rfl, rfl, rfl, nd.1, nd.2.1, nd.2.2, k1, k2, k3, h1⟩

theorem expr_sound (SVS : SV S) {ob : Nat → Scope → FuncBody → Bool} (hob : ∀ k sc b, ob k sc b = true → ob1 S.gname S.fns k sc b = true) {x : X} {e : Expr} (h : agX S.gname S.fns ob Γ x e = true) (a : At S A env env L Γ n μ ρ κ H s) {Q : PV} {E : ES} (q : ev S n ρ κ (E ρ) x false H Q) :
    wpAny (model S.prog S.w) A (eval e env) (PostV S μ s Q) (PostX S A env L Γ n κ μ s E) s :=
  wpAny_mono ((ev_sound SVS hob x h).val a q) (fun _ _ x => x) fun _ _ x => .ofE a x

theorem val_at (a : At S A env env L Γ n μ ρ κ H s) {Q : PV} {v : Value} {s' : Shared} (x : PostV S μ s Q v s') : ∃ μ' H' b, Grow S [env.locals] μ μ' s s' ∧ At S A env env L Γ n μ' ρ κ H' s' ∧ VR S μ' s'.heap b v ∧ Q b H' :=
  let ⟨μ', H', b, gr, g, r, q⟩ := x; ⟨μ', H', b, gr.weaken (by simp), a.grow gr g, r, q⟩

theorem not_inter (a : At S A env env L Γ n μ ρ κ H s) : interactive env = false := by
  unfold interactive; rw [a.fr.kind]; rfl

theorem st_expr (SVS : SV S) {ob : Nat → Scope → FuncBody → Bool} (hob : ∀ k sc b, ob k sc b = true → ob1 S.gname S.fns k sc b = true) {x : X} {e : Expr} {p : Pos} (h : agX S.gname S.fns ob Γ x e = true) (hc : isComp e = false) : ExOk S L Γ env (.expr x) (.Expr e p) := by
  intro n A H Q E μ ρ κ s a q
  rw [ex] at q
  rw [exec_Expr env e p (not_inter a) (swaps_none hc)]
  refine wpAny_bind (wpAny_standAt (wpAny_bind (wpAny_mono (expr_sound SVS hob h a q) (fun v s' x => ?_) fun _ _ x => x)))
  obtain ⟨μ', H', b, gr, a', r, q⟩ := val_at a x
  exact wpAny_dropValue ⟨μ', ρ, H', .nrm, gr, a', rfl, q⟩

theorem st_ret (SVS : SV S) {ob : Nat → Scope → FuncBody → Bool} (hob : ∀ k sc b, ob k sc b = true → ob1 S.gname S.fns k sc b = true) {x : X} {e : Expr} {p : Pos} (h : agX S.gname S.fns ob Γ x e = true) : ExOk S L Γ env (.ret x) (.Return (some e) p) := by
  intro n A H Q E μ ρ κ s a q
  rw [ex] at q
  refine wpAny_Return_some (wpAny_mono (expr_sound SVS hob h a q) (fun v s' x => ?_) fun _ _ x => x)
  obtain ⟨μ', H', b, gr, a', r, q⟩ := val_at a x
  exact ⟨μ', ρ, H', .ret b, gr, a'.g, ⟨v, rfl, r⟩, q⟩

theorem st_brk {p : Pos} : ExOk S L Γ env .brk (.Break p) := by
  intro n A H Q E μ ρ κ s a q
  rw [ex] at q
  exact wpAny_Break ⟨μ, ρ, H, .brk, .refl .., a, rfl, q⟩
theorem st_cont {p : Pos} : ExOk S L Γ env .cont (.Continue p) := by
  intro n A H Q E μ ρ κ s a q
  rw [ex] at q
  exact wpAny_Continue ⟨μ, ρ, H, .cont, .refl .., a, rfl, q⟩
theorem st_pass {p : Pos} : ExOk S L Γ env .pass (.Pass p) := by
  intro n A H Q E μ ρ κ s a q
  rw [ex] at q
  exact PySem.wpAny_Pass ⟨μ, ρ, H, .nrm, .refl .., a, rfl, q⟩

theorem tst_sound (SVS : SV S) {ob : Nat → Scope → FuncBody → Bool} (hob : ∀ k sc b, ob k sc b = true → ob1 S.gname S.fns k sc b = true) {x : X} {e : Expr} (h : agX S.gname S.fns ob Γ x e = true) (a : At S A env env L Γ n μ ρ κ H s) {Q : Bool → AH → Prop} {E : PE} (q : tst S n ρ κ E x H Q) :
    wpAny (model S.prog S.w) A (isTrue e env (eval e env)) (PostB S μ s Q) (PostE S μ s (here L) E) s := by
  unfold tst at q
  have h1 := ev_sound (A := A) (F := env) (L := L) (n := n) SVS hob x h true H _ E μ ρ κ s a q
  intro Γ' p hΓ
  have := h1 Γ' p hΓ
  unfold outV at this
  rw [Sem.wp_bind'] at this
  refine Sem.wp_mono _ Γ' _ (fun b p' s' hx => ?_) (fun _ _ _ x => x) p s this
  rw [Sem.wp_pure'] at hx
  obtain ⟨μ', H', c, gr, g, r, q⟩ := hx
  obtain ⟨b', rfl, q⟩ := onB_bb q
  have := r.bb_inv
  cases this
  exact ⟨μ', H', b, gr, g, rfl, q⟩

theorem st_ifs (SVS : SV S) {ob : Nat → Scope → FuncBody → Bool} (hob : ∀ k sc b, ob k sc b = true → ob1 S.gname S.fns k sc b = true) {c : X} {e : Expr} {x y : SL} {l r : List Stmt} {p : Pos} (h : agX S.gname S.fns ob Γ c e = true) (hx : ExsOk S L Γ env x l) (hy : ExsOk S L Γ env y r) :
    ExOk S L Γ env (.ifs c x y) (.If e l r p) := by
  intro n A H Q E μ ρ κ s a q
  rw [ex] at q
  refine wpAny_If (wpAny_mono (tst_sound SVS hob h a q) (fun b s' ⟨μ', H', b', gr, g, e, q⟩ => ?_) fun _ _ x => .ofE a x)
  subst e
  have a' := a.grow gr g
  have grw : Grow S [env.locals] μ μ' s s' := gr.weaken (by simp)
  cases b with
  | true => exact wpAny_mono (hx n A H' Q E μ' ρ κ s' a' (by simpa using q)) (fun _ _ x => x.pre grw) fun _ _ x => x.pre grw
  | false => exact wpAny_mono (hy n A H' Q E μ' ρ κ s' a' (by simpa using q)) (fun _ _ x => x.pre grw) fun _ _ x => x.pre grw

theorem exs_nil : ExsOk S L Γ env .nil [] := by
  intro n A H Q E μ ρ κ s a q
  rw [exs] at q
  exact wpAny_execs_nil ⟨μ, ρ, H, .nrm, .refl .., a, rfl, q⟩
theorem exs_cons {x : St} {xs : SL} {st : Stmt} {ss : List Stmt} (hx : ExOk S L Γ env x st) (hxs : ExsOk S L Γ env xs ss) : ExsOk S L Γ env (.cons x xs) (st :: ss) := by
  intro n A H Q E μ ρ κ s a q
  rw [exs] at q
  rw [execs_cons]
  refine wpAny_bind (wpAny_mono (hx n A H _ E μ ρ κ s a q) (fun f s' ⟨μ', ρ', H', b, gr, a', fr, q⟩ => ?_) fun _ _ x => x)
  cases b with
  | nrm =>
    cases fr
    exact wpAny_mono (hxs n A H' Q E μ' ρ' κ s' a' q) (fun _ _ x => x.pre gr) fun _ _ x => x.pre gr
  | brk => cases fr; exact wpAny_pure ⟨μ', ρ', H', .brk, gr, a', rfl, q⟩
  | cont => cases fr; exact wpAny_pure ⟨μ', ρ', H', .cont, gr, a', rfl, q⟩
  | ret v => obtain ⟨c, rfl, r⟩ := fr; exact wpAny_pure ⟨μ', ρ', H', .ret v, gr, a', ⟨c, rfl, r⟩, q⟩
end
end Mine
set_option maxRecDepth 10000
namespace Mine
open PySem PySem.Calls PyProof.Rows PySem.W

section
variable {S : Sx} {A : Around} {env : Env} {L : Addr} {Γ : FC} {n : Nat} {μ : List Addr} {H : AH} {s : Shared} {ρ : Lo} {κ : List Nat}

/-- another namespace, younger than the frame, moves -/
theorem At.other {μ' : List Addr} {ρ' : Lo} {H' : AH} {s' : Shared} (a0 : At S A env env L Γ n μ ρ κ H s) (a : At S A env env L Γ n μ' ρ' κ H' s') {C : Addr} {o : Obj} {h' : Heap} (hC : s.heap.objs.size ≤ C) (ho : s'.heap.get? C = some o) (hc : o.cls = .type "frame" ∨ o.cls = .type "dict") (hm : C ∉ μ') (hb : S.base.get? C = none)
    (sb : Heap.SameBut C s'.heap h') : At S A env env L Γ n μ' ρ' κ H' { s' with heap := h' } ∧ Grow S [C] μ' μ' s' { s' with heap := h' } := by
  obtain ⟨g', gr⟩ := a.g.loc ho hc hm hb sb s'.toks (Nat.le_refl _)
  have hlt : ∀ b, (∃ ob, s.heap.get? b = some ob) → b ≠ C := fun b ⟨ob, e⟩ => Nat.ne_of_lt (Nat.lt_of_lt_of_le (Heap.lt_size e) hC)
  have hloc : env.locals ≠ C := by
    obtain ⟨_, ob, e, _⟩ := a0.fr.out
    exact hlt _ ⟨ob, e⟩
  refine ⟨⟨a.fl, ⟨?_, a.ar.depth, a.ar.units, a.ar.hand⟩, ?_, g', a.pos⟩, gr⟩
  · obtain ⟨out, f1, f2⟩ := a.ar.frames
    obtain ⟨out0, f10, f20⟩ := a0.ar.frames
    rw [f1] at f10; cases f10
    refine ⟨out, f1, ?_⟩
    have go : ∀ {l : List Env}, FF S s.heap l → FF S s'.heap l → FF S h' l := by
      intro l
      induction l with
      | nil => intro _ _; trivial
      | cons e r ih =>
        rintro ⟨k0, ⟨L0, o0, es0, n0, g0, b0, e0, c0, d0⟩, r0⟩ ⟨k1, ⟨L1, o1, es1, n1, g1, b1, e1, c1, d1⟩, r1⟩
        rw [g0] at g1; cases g1
        exact ⟨k1, ⟨L0, o1, es1, n1, g0, b1, (sb.2 _ (hlt _ ⟨_, e0⟩)).trans e1, c1, d1⟩, ih r0 r1⟩
    exact go f20 f2
  · have mo : Mono μ' μ' s'.heap h' := gr.mono a.g.sr (by
      intro b hb' o3 eb
      rw [List.mem_singleton] at hb'
      subst hb'
      rw [ho] at eb; cases eb
      rintro (z | z) <;> rcases hc with q3 | q3 <;> rw [q3] at z <;> injection z with z <;> exact absurd z (by decide))
    obtain ⟨q1, ob, q2, q3, q4⟩ := a.fr.out
    obtain ⟨m, hn, hv⟩ := a.fr.ns
    have e' := (sb.2 _ hloc).trans q2
    exact ⟨a.fr.kind, a.fr.names, a.fr.glo, a.fr.blt, a.fr.frame, ⟨m, Heap.Ns.sameData hn q2 e' rfl, fun i y q => (hv i y q).mono S mo⟩, a.fr.len, ⟨q1, ob, e', q3, q4⟩, a.fr.cel, a.fr.nest⟩

theorem bind_local (a : At S A env env L Γ n μ ρ κ H s) {E : Value → Shared → Prop} {i : Nat} {x : Str} {v : V} {c : Value} (h1 : Γ.vars[i]? = some x) (h2 : Γ.kind x = some .local) (hnd : Γ.vars.Nodup) (r : VR S μ s.heap v c) {Q : Unit → Shared → Prop}
    (k : ∀ s', At S A env env L Γ n μ (ρ.set i (some v)) κ H s' → Grow S [env.locals] μ μ s s' → Mono μ μ s.heap s'.heap → Q () s') : wpAny (model S.prog S.w) A (bindName env x c) Q E s :=
  wpAny_bindName (wpAny_mono (a.store h1 h2 hnd r) (fun _ s' ⟨x, y⟩ => k s' x y (y.mono a.g.sr (locals_fixed a))) fun _ _ x => x)

theorem agTg_local {t : Tg} {x : Str} {p : Pos} (h : agTg Γ t (.Name x p) = true) (hk : Γ.kind x = some .local) : ∃ i, t = .loc i ∧ Γ.vars[i]? = some x := by
  cases t <;> simp [agTg] at h
  · exact ⟨_, rfl, h.1⟩
  · rw [hk] at h; exact absurd h.2 (by decide)

theorem assignEach_one {t : Tg} {g : Expr} (hg : agTg Γ t g = true) : (assignEach [g] env).map (·.2) = [assign g env] := by
  rw [assignEach_cons hg]; rfl

/-- an assignment whose stores are not swapped -/
theorem asg_plain (SVS : SV S) {ob : Nat → Scope → FuncBody → Bool} (hob : ∀ k sc b, ob k sc b = true → ob1 S.gname S.fns k sc b = true) (hnd : Γ.vars.Nodup) {t : Tg} {x : X} {g e : Expr} {p : Pos} (hg : agTg Γ t g = true) (h : agX S.gname S.fns ob Γ x e = true)
    (hs : swapsWithSole [g] e p.line env = pure false) (hw : swappedStores [g] e env = pure none) (a : At S A env env L Γ n μ ρ κ H s) {Q : QS} {E : ES} (q : ex S κ (.asg t x) n ρ H Q E) :
    wpAny (model S.prog S.w) A (exec (.Assign [g] e p) env) (PostS S A env L Γ n κ μ s Q) (PostX S A env L Γ n κ μ s E) s := by
  rw [ex] at q
  refine wpAny_Assign_stores (wpAny_mono (expr_sound SVS hob h a q) (fun c s₁ x => ?_) fun _ _ x => x) hs hw
  obtain ⟨μ', H', b, gr, a', r, q⟩ := val_at a x
  rw [assignEach_one hg]
  show wpAny _ _ (assign g env c) _ _ _
  exact wpAny_mono (setTg_sound hnd hg a' r q) (fun _ s₂ ⟨ρ₂, H₂, a2, gr2, q2⟩ => ⟨μ', ρ₂, H₂, .nrm, gr.trans gr2, a2, rfl, q2⟩) fun _ _ x => x

theorem asg_comp (SVS : SV S) {ob : Nat → Scope → FuncBody → Bool} (hob : ∀ k sc b, ob k sc b = true → ob1 S.gname S.fns k sc b = true) (hnd : Γ.vars.Nodup) {t : Tg} {x : X} {y : Str} {py : Pos} {e : Expr} {p : Pos} (hg : agTg Γ t (.Name y py) = true) (h : agX S.gname S.fns ob Γ x e = true)
    (hcm : isComp e = true) (hsw : swapsWith e (some (.Name y py)) p.line env = pure true) (a : At S A env env L Γ n μ ρ κ H s) {Q : QS} {E : ES} (q : ex S κ (.asg t x) n ρ H Q E) :
    wpAny (model S.prog S.w) A (exec (.Assign [.Name y py] e p) env) (PostS S A env L Γ n κ μ s Q) (PostX S A env L Γ n κ μ s E) s := by
  have key : ∃ cx ct cit cifs ck elt tgE iter tests sc pos, x = .comp cx ct cit cifs ck ∧ e = .ListComp elt [⟨tgE, iter, tests, 0⟩] sc pos := by
    cases e <;> simp [isComp] at hcm <;> cases x <;> first | (simp [agX] at h; done) | skip
    unfold agX at h
    split at h
    · rename_i heq; cases heq; exact ⟨_, _, _, _, _, _, _, _, _, _, _, rfl, rfl⟩
    · cases h
  obtain ⟨cx, ct, cit, cifs, ck, elt, tgE, iter, tests, sc, pos, rfl, rfl⟩ := key
  · rw [agX] at h
    simp only [Bool.and_eq_true] at h
    obtain ⟨⟨⟨⟨h1, h2⟩, h3⟩, h4⟩, h5⟩ := h
    rw [ex, ev] at q
    rw [exec_Assign_Name_used _ _ _ _ hsw]
    refine wpAny_bind (wpAny_standAt (wpAny_bind ?_))
    refine wpAny_bind (wpAny_mono (comp_core SVS (P := fun r H => setTg n κ t (.rr r) ρ H fun ρ H => Q .nrm ρ H) (Q' := fun _ s' => PostS S A env L Γ n κ μ s Q .next s') a h2 (agX_set h1) (ev_sound SVS hob cit h1) h4
      (fun cenv _ => ⟨evL_ok SVS hob cifs h5, ev_sound SVS hob cx h3⟩) q ?_) (fun v s' x => wpAny_pure (wpAny_pure x)) fun _ _ x => .ofE a x)
    intro D C μ₁ H₁ s₁ r g gr a1 hC hCm hCb ⟨o, ho, hc⟩ ⟨m, hns⟩ hCl hr q
    have hst : wpAny (model S.prog S.w) A (assign (.Name y py) env (.ref D)) _ (PostE S μ s (here L) (E ρ)) s₁ := setTg_sound hnd hg a1 (.rr hr) q
    refine wpAny_mono hst (fun _ s₂ ⟨ρ₂, H₂, a2, gr2, q2⟩ => ?_) fun _ _ x => x
    obtain ⟨o2, ho2, sm⟩ := gr2.keep C o ho (by simpa using hCl) hCm (by rcases hc with hc | hc <;> exact not_loose hc (by decide))
    refine ⟨m, Heap.Ns.sameData hns ho ho2 sm.2.2.1, fun h' sb => ?_⟩
    obtain ⟨a3, gr3⟩ := a.other a2 hC ho2 (by rw [sm.1]; exact hc) hCm hCb sb
    exact ⟨μ₁, ρ₂, H₂, .nrm, ((gr.weaken (by simp)).trans gr2).forget gr3 (by simpa using hC), a3, rfl, q2⟩

theorem asg_name (SVS : SV S) {ob : Nat → Scope → FuncBody → Bool} (hob : ∀ k sc b, ob k sc b = true → ob1 S.gname S.fns k sc b = true) (hnd : Γ.vars.Nodup) {t : Tg} {x : X} {y : Str} {py : Pos} {e : Expr} {p : Pos} (hg : agTg Γ t (.Name y py) = true) (h : agX S.gname S.fns ob Γ x e = true)
    (a : At S A env env L Γ n μ ρ κ H s) {Q : QS} {E : ES} (q : ex S κ (.asg t x) n ρ H Q E) :
    wpAny (model S.prog S.w) A (exec (.Assign [.Name y py] e p) env) (PostS S A env L Γ n κ μ s Q) (PostX S A env L Γ n κ μ s E) s := by
  by_cases hcm : isComp e = true
  · have : ∃ b, swapsWith e (some (.Name y py)) p.line env = pure b := by
      cases e <;> simp [isComp] at hcm <;> exact ⟨_, rfl⟩
    obtain ⟨b, hb⟩ := this
    cases b with
    | true => exact asg_comp SVS hob hnd hg h hcm hb a q
    | false => exact asg_plain SVS hob hnd hg h hb rfl a q
  · exact asg_plain SVS hob hnd hg h (show swapsWith e (some (.Name y py)) p.line env = pure false from swaps_none (by simpa using hcm)) rfl a q

theorem st_asg (SVS : SV S) {ob : Nat → Scope → FuncBody → Bool} (hob : ∀ k sc b, ob k sc b = true → ob1 S.gname S.fns k sc b = true) (hnd : Γ.vars.Nodup) {t : Tg} {x : X} {g e : Expr} {p : Pos} (hg : agTg Γ t g = true) (h : agX S.gname S.fns ob Γ x e = true) (hc : tupConst e = false) :
    ExOk S L Γ env (.asg t x) (.Assign [g] e p) := by
  intro n A H Q E μ ρ κ s a q
  cases t with
  | loc i =>
    cases g <;> simp [agTg] at hg
    exact asg_name SVS hob hnd (by simp [agTg, hg]) h a q
  | cel i =>
    cases g <;> simp [agTg] at hg
    exact asg_name SVS hob hnd (by simp [agTg, hg]) h a q
  | two t1 t2 =>
    cases g <;> simp [agTg] at hg
    rename_i elts k p'
    rcases elts with _ | ⟨e1, _ | ⟨e2, _ | ⟨e3, r⟩⟩⟩ <;> simp [agTg] at hg
    have hsw : swapsWithSole [.Tuple [e1, e2] k p'] e p.line env = pure false := by
      show swapsWith e (some (.Tuple [e1, e2] k p')) p.line env = _
      cases e <;> rfl
    rcases swap2 (env := env) (e1 := e1) (e2 := e2) (k := k) (p := p') hc with hw | ⟨x1, p1, y1, p2, rfl, rfl, hxy, k1, k2, hw⟩
    · exact asg_plain SVS hob hnd (by simp [agTg, hg]) h hsw hw a q
    · rw [kindOf_eq a] at k1 k2
      obtain ⟨i, rfl, hi⟩ := agTg_local hg.1 k1
      obtain ⟨j, rfl, hj⟩ := agTg_local hg.2 k2
      rw [ex] at q
      refine Assign_Tuple_swapped (names := [x1, y1]) (wpAny_mono (expr_sound SVS hob h a q) (fun c s₁ x => ?_) fun _ _ x => x) hsw hw
      obtain ⟨μ', H', b, gr, a', r, q⟩ := val_at a x
      rw [setTg] at q
      obtain ⟨hn, vx, vy, hu, q⟩ := q
      rw [setTg, setTg] at q
      refine wpAny_mono (unpack_sound (k := 2) a'.g (a'.hh hn) r hu rfl) (fun cs s₂ ⟨h', e0, hk, u, rs⟩ => ?_) fun _ _ x => x
      subst e0
      obtain ⟨c1, c2, rfl, r1, r2⟩ := rs.two_inv
      obtain ⟨a2, gr2⟩ := a'.keeps (tk := s₁.toks) hk u
      show wpAny _ _ (do holding _ (bindName env y1 c2); holding _ (bindName env x1 c1) >>= fun _ => pure ()) _ _ _
      refine wpAny_bind (wpAny_holding (bind_local a2 hj k2 hnd (r2.grow a'.g gr2) fun s₃ a3 gr3 mo3 => ?_))
      refine wpAny_bind (wpAny_holding (bind_local a3 hi k1 hnd ((r1.grow a'.g gr2).mono S mo3) fun s₄ a4 gr4 mo4 => ?_))
      have hij : i ≠ j := fun z => hxy (by subst z; rw [hi] at hj; cases hj; rfl)
      rw [List.set_comm _ _ hij.symm] at a4
      exact wpAny_pure ⟨μ', _, H', .nrm, ((gr.trans (gr2.weaken (by simp))).trans gr3).trans gr4, a4, rfl, q⟩
  | three t1 t2 t3 =>
    cases g <;> simp [agTg] at hg
    rename_i elts k p'
    rcases elts with _ | ⟨e1, _ | ⟨e2, _ | ⟨e3, _ | ⟨e4, r⟩⟩⟩⟩ <;> simp [agTg] at hg
    have hsw : swapsWithSole [.Tuple [e1, e2, e3] k p'] e p.line env = pure false := by
      show swapsWith e (some (.Tuple [e1, e2, e3] k p')) p.line env = _
      cases e <;> rfl
    rcases swap3 (env := env) (e1 := e1) (e2 := e2) (e3 := e3) (k := k) (p := p') hc with hw | ⟨x1, p1, y1, p2, z1, p3, rfl, rfl, rfl, hxy, hxz, hyz, k1, k2, k3, hw⟩
    · exact asg_plain SVS hob hnd (by simp [agTg, hg]) h hsw hw a q
    · rw [kindOf_eq a] at k1 k2 k3
      obtain ⟨⟨hg1, hg2⟩, hg3⟩ := hg
      obtain ⟨i, rfl, hi⟩ := agTg_local hg1 k1
      obtain ⟨j, rfl, hj⟩ := agTg_local hg2 k2
      obtain ⟨l, rfl, hl⟩ := agTg_local hg3 k3
      rw [ex] at q
      refine Assign_Tuple_swapped (names := [x1, y1, z1]) (wpAny_mono (expr_sound SVS hob h a q) (fun c s₁ x => ?_) fun _ _ x => x) hsw hw
      obtain ⟨μ', H', b, gr, a', r, q⟩ := val_at a x
      rw [setTg] at q
      obtain ⟨hn, vx, vy, vz, hu, q⟩ := q
      rw [setTg, setTg, setTg] at q
      refine wpAny_mono (unpack_sound (k := 3) a'.g (a'.hh hn) r hu rfl) (fun cs s₂ ⟨h', e0, hk, u, rs⟩ => ?_) fun _ _ x => x
      subst e0
      obtain ⟨c1, c2, c3, rfl, r1, r2, r3⟩ := rs.three_inv
      obtain ⟨a2, gr2⟩ := a'.keeps (tk := s₁.toks) hk u
      show wpAny _ _ (do holding _ (bindName env z1 c3); holding _ (bindName env y1 c2); holding _ (bindName env x1 c1) >>= fun _ => pure ()) _ _ _
      refine wpAny_bind (wpAny_holding (bind_local a2 hl k3 hnd (r3.grow a'.g gr2) fun s₃ a3 gr3 mo3 => ?_))
      refine wpAny_bind (wpAny_holding (bind_local a3 hj k2 hnd ((r2.grow a'.g gr2).mono S mo3) fun s₄ a4 gr4 mo4 => ?_))
      refine wpAny_bind (wpAny_holding (bind_local a4 hi k1 hnd (((r1.grow a'.g gr2).mono S mo3).mono S mo4) fun s₅ a5 gr5 mo5 => ?_))
      have hij : i ≠ j := fun z => hxy (by subst z; rw [hi] at hj; cases hj; rfl)
      have hil : i ≠ l := fun z => hxz (by subst z; rw [hi] at hl; cases hl; rfl)
      have hjl : j ≠ l := fun z => hyz (by subst z; rw [hj] at hl; cases hl; rfl)
      rw [show ((ρ.set l (some vz)).set j (some vy)).set i (some vx) = ((ρ.set i (some vx)).set j (some vy)).set l (some vz) by
        rw [List.set_comm _ _ hjl.symm, List.set_comm _ _ hil.symm, List.set_comm _ _ hij.symm]] at a5
      exact wpAny_pure ⟨μ', _, H', .nrm, (((gr.trans (gr2.weaken (by simp))).trans gr3).trans gr4).trans gr5, a5, rfl, q⟩
  | four i j l m =>
    unfold agTg at hg
    split at hg
    · rename_i x1 p1 x2 p2 x3 p3 x4 p4 k p'
      have hg0 : agTg Γ (.four i j l m) (.Tuple [.Name x1 p1, .Name x2 p2, .Name x3 p3, .Name x4 p4] k p') = true := by unfold agTg; exact hg
      simp only [Bool.and_eq_true, beq_iff_eq, decide_eq_true_eq] at hg
      obtain ⟨⟨⟨⟨⟨hi, k1⟩, hj, k2⟩, hl, k3⟩, hm, k4⟩, hnd4⟩ := hg
      have hsw : swapsWithSole [.Tuple [.Name x1 p1, .Name x2 p2, .Name x3 p3, .Name x4 p4] k p'] e p.line env = pure false := by
        show swapsWith e (some (.Tuple [.Name x1 p1, .Name x2 p2, .Name x3 p3, .Name x4 p4] k p')) p.line env = _
        cases e <;> rfl
      rcases swap4 (env := env) (x := x1) (y := x2) (z := x3) (u := x4) (p1 := p1) (p2 := p2) (p3 := p3) (p4 := p4) (k := k) (p := p') hc with hw | hw
      · exact asg_plain SVS hob hnd hg0 h hsw hw a q
      · rw [ex] at q
        refine Assign_Tuple_swapped (names := [x1, x2, x3, x4]) (wpAny_mono (expr_sound SVS hob h a q) (fun c s₁ x => ?_) fun _ _ x => x) hsw hw
        obtain ⟨μ', H', b, gr, a', r, q⟩ := val_at a x
        rw [setTg] at q
        obtain ⟨hn, vx, vy, vz, vu, hu, q⟩ := q
        refine wpAny_mono (unpack_sound (k := 4) a'.g (a'.hh hn) r hu rfl) (fun cs s₂ ⟨h', e0, hk, u, rs⟩ => ?_) fun _ _ x => x
        subst e0
        obtain ⟨c1, c2, c3, c4, rfl, r1, r2, r3, r4⟩ := rs.four_inv
        obtain ⟨a2, gr2⟩ := a'.keeps (tk := s₁.toks) hk u
        show wpAny _ _ (do holding _ (bindName env x4 c4); holding _ (bindName env x3 c3); holding _ (bindName env x2 c2); holding _ (bindName env x1 c1) >>= fun _ => pure ()) _ _ _
        refine wpAny_bind (wpAny_holding (bind_local a2 hm k4 hnd (r4.grow a'.g gr2) fun s₃ a3 gr3 mo3 => ?_))
        refine wpAny_bind (wpAny_holding (bind_local a3 hl k3 hnd ((r3.grow a'.g gr2).mono S mo3) fun s₄ a4 gr4 mo4 => ?_))
        refine wpAny_bind (wpAny_holding (bind_local a4 hj k2 hnd (((r2.grow a'.g gr2).mono S mo3).mono S mo4) fun s₅ a5 gr5 mo5 => ?_))
        refine wpAny_bind (wpAny_holding (bind_local a5 hi k1 hnd ((((r1.grow a'.g gr2).mono S mo3).mono S mo4).mono S mo5) fun s₆ a6 gr6 mo6 => ?_))
        simp only [List.nodup_cons, List.mem_cons, List.not_mem_nil, or_false, not_or, not_false_eq_true, and_true] at hnd4
        obtain ⟨⟨n1, n2, n3⟩, ⟨n4, n5⟩, n6, _⟩ := hnd4
        rw [show (((ρ.set m (some vu)).set l (some vz)).set j (some vy)).set i (some vx) = (((ρ.set i (some vx)).set j (some vy)).set l (some vz)).set m (some vu) by
          apply List.ext_getElem?
          intro t
          simp only [List.getElem?_set, List.length_set]
          repeat' split
          all_goals first | rfl | omega | simp_all] at a6
        exact wpAny_pure ⟨μ', _, H', .nrm, ((((gr.trans (gr2.weaken (by simp))).trans gr3).trans gr4).trans gr5).trans gr6, a6, rfl, q⟩
    · cases hg
end
end Mine
set_option maxRecDepth 10000
namespace Mine
open PySem PySem.Calls PyProof.Rows PySem.W

section
variable {S : Sx} {A : Around} {env : Env} {L : Addr} {Γ : FC} {n : Nat} {μ : List Addr} {H : AH} {s : Shared} {ρ : Lo} {κ : List Nat}

/-- an exception that comes out of a loop -/
theorem loop_err {E : ES} {e : Value} {s' : Shared} (x : PostX S A env L Γ n κ μ s E e s') :
    notedBy (model S.prog S.w) A env (fun e s'' => cameBackBy (model S.prog S.w) A env (PostX S A env L Γ n κ μ s E) e s'') e s' := by
  obtain ⟨μ', ρ', H', i, ad, gr, a, rfl, m, fl, ⟨c, args, d, hi⟩, q⟩ := x
  refine wpAny_mono (note_sound a m hi fl) (fun _ s₁ ⟨a1, gr1, fl1⟩ => ?_) fun _ _ x => x
  have fl1' := fl1
  obtain ⟨hb, oe, vs, he, hd, ht⟩ := fl1'
  rcases ht with ⟨_, q2⟩ | ⟨T, oT, ts, f, q1, hbT, hT, cT, dT, h3, hp⟩
  · cases q2
  refine wpAny_bind (wpAny_field he hd q1 ?_)
  rw [if_neg (by simp)]
  rw [a1.fl]
  refine wpAny_mono (flight_sound (fr := some L) a1 m hi fl1 (by simp)) (fun _ s₂ ⟨a2, gr2, fl2⟩ => ?_) fun _ _ x => x
  exact ⟨μ', ρ', H', i, ad, (gr.trans (gr1.weaken (by simp))).trans (gr2.weaken (by simp)), a2, rfl, m, fl2.imp fun st h => .inr (.inr h), ⟨c, args, d, hi⟩, q⟩

theorem noted_mono {M : Model} {A : Around} {env : Env} {E E' : Value → Shared → Prop} {v : Value} {s' : Shared} (x : notedBy M A env E v s') (h : ∀ e s, E e s → E' e s) : notedBy M A env E' v s' :=
  wpAny_mono x (fun _ _ q => h _ _ q) fun _ _ q => h _ _ q

theorem st_whl (SVS : SV S) {ob : Nat → Scope → FuncBody → Bool} (hob : ∀ k sc b, ob k sc b = true → ob1 S.gname S.fns k sc b = true) {c : X} {e : Expr} {x : SL} {l : List Stmt} {p : Pos} (h : agX S.gname S.fns ob Γ c e = true) (hx : ExsOk S L Γ env x l) :
    ExOk S L Γ env (.whl c x) (.While e l [] p) := by
  intro n A H Q E μ ρ κ s a q
  rw [ex] at q
  obtain ⟨Inv, ⟨m0, i0⟩, step⟩ := q
  refine wpAny_While (codeAny_whileLoop (fun m s₁ => ∃ μ₁ ρ₁ H₁, Grow S [env.locals] μ μ₁ s s₁ ∧ At S A env env L Γ n μ₁ ρ₁ κ H₁ s₁ ∧ Inv m ρ₁ H₁) ?_ m0 ⟨μ, ρ, H, .refl .., a, i0⟩)
  rintro m s₁ ⟨μ₁, ρ₁, H₁, gr, a1, iv⟩
  have st := step m ρ₁ H₁ iv
  have err : ∀ {μ₂ : List Addr} {s₂ : Shared}, Grow S [env.locals] μ μ₂ s s₂ → ∀ v s', PostX S A env L Γ n κ μ₂ s₂ E v s' → notedBy (model S.prog S.w) A env (fun e s' => cameBackBy (model S.prog S.w) A env (PostX S A env L Γ n κ μ s E) e s') v s' :=
    fun g v s' x => loop_err (x.pre g)
  refine wpAny_mono (tst_sound SVS hob h a1 st) (fun b s₂ ⟨μ₂, H₂, b', gr2, g2, e2, q⟩ => ?_) fun v s' x => err gr v s' (.ofE a1 x)
  subst e2
  have a2 := a1.grow gr2 g2
  have grw : Grow S [env.locals] μ μ₂ s s₂ := gr.trans (gr2.weaken (by simp))
  cases b with
  | true =>
    rw [if_pos rfl] at q ⊢
    refine wpAny_mono (hx n A H₂ _ E μ₂ ρ₁ κ s₂ a2 q) (fun f s₃ ⟨μ₃, ρ₃, H₃, b, gr3, a3, fr, q⟩ => ?_) fun v s' x => err grw v s' x
    have gr3' := grw.trans gr3
    cases b with
    | nrm => cases fr; obtain ⟨m', hm, q⟩ := q; exact ⟨m', hm, μ₃, ρ₃, H₃, gr3', a3, q⟩
    | cont => cases fr; obtain ⟨m', hm, q⟩ := q; exact ⟨m', hm, μ₃, ρ₃, H₃, gr3', a3, q⟩
    | brk => cases fr; exact ⟨μ₃, ρ₃, H₃, .nrm, gr3', a3, rfl, q⟩
    | ret v => obtain ⟨c, rfl, r⟩ := fr; exact ⟨μ₃, ρ₃, H₃, .ret v, gr3', a3, ⟨c, rfl, r⟩, q⟩
  | false =>
    rw [if_neg Bool.false_ne_true] at q ⊢
    exact wpAny_execs_nil ⟨μ₂, ρ₁, H₂, .nrm, grw, a2, rfl, q⟩

theorem st_for (SVS : SV S) {ob : Nat → Scope → FuncBody → Bool} (hob : ∀ k sc b, ob k sc b = true → ob1 S.gname S.fns k sc b = true) (hnd : Γ.vars.Nodup) {t : Tg} {g : Expr} {c : X} {e : Expr} {x : SL} {l : List Stmt} {p : Pos} (hg : agTg Γ t g = true) (h : agX S.gname S.fns ob Γ c e = true) (hx : ExsOk S L Γ env x l) :
    ExOk S L Γ env (.for_ t c x) (.For g e l [] p) := by
  intro n A H Q E μ ρ κ s a q
  rw [ex] at q
  rw [arm_exec_For]
  refine wpAny_bind (wpAny_standAt (wpAny_bind (wpAny_mono (expr_sound SVS hob h a q) (fun v s₁ xp => ?_) fun _ _ x => x)))
  obtain ⟨μ₁, H₁, src, gr1, a1, r, xs, ep, hsn, hn, hz, go⟩ := val_at a xp
  rw [agX_set h]
  refine wpAny_bind (wpAny_pure (wpAny_bind (wpAny_standAt (wpAny_bind (wpAny_holding (wpAny_mono (iter_make SVS a1.g r hsn) (fun it s₂ ⟨I, hv, hb, hI, io, gr2, g2, it2⟩ => ?_) fun _ _ x => x))))))
  subst hv
  have a2 := a1.grow gr2 g2
  have grw2 : Grow S [env.locals] μ μ₁ s s₂ := gr1.trans (gr2.weaken (by simp))
  have hIlt : I ∉ [env.locals] := by
    obtain ⟨_, o, e, _⟩ := a1.fr.out
    have h1 := Heap.lt_size e
    simp only [List.mem_singleton]
    intro z
    rw [z] at hI
    exact absurd h1 (Nat.not_lt.mpr hI)
  refine wpAny_runOwn (h := none) ?_
  rw [show A.mark none = A from rfl]
  have hIs : ∀ b ∈ [I, env.locals], b = env.locals ∨ s.heap.objs.size ≤ b := fun b hb' => by
    simp only [List.mem_cons, List.not_mem_nil, or_false] at hb'
    rcases hb' with rfl | rfl
    · exact .inr (Nat.le_trans gr1.size hI)
    · exact .inl rfl
  -- from the loop's own growth to the statement's
  have out : ∀ {μ₃ : List Addr} {s₃ : Shared}, Grow S [I, env.locals] μ₁ μ₃ s₂ s₃ → Grow S [env.locals] μ μ₃ s s₃ := fun {μ₃ s₃} y => by
    have y' : Grow S [env.locals, I] μ₁ μ₃ s₂ s₃ := y.weaken (by simp)
    refine ⟨?_, ?_, Nat.le_trans grw2.size y.size, ?_, y.os.trans grw2.os, Nat.le_trans grw2.tok y.tok⟩
    · obtain ⟨ν, e1⟩ := grw2.pre; obtain ⟨ν', e2⟩ := y.pre; exact ⟨ν ++ ν', by rw [e2, e1]; simp⟩
    · intro b h1 h2
      by_cases h3 : b ∈ μ₁
      · exact grw2.fresh b h3 h2
      · exact Nat.le_trans grw2.size (y.fresh b h1 h3)
    · intro b o eb hw hm hl
      obtain ⟨o', e', c'⟩ := grw2.keep b o eb hw hm hl
      have hm' : b ∉ μ₁ := fun z => by rw [grw2.new z hm] at eb; cases eb
      have hb : b ∉ [I, env.locals] := fun z => by
        rcases hIs b z with q | q
        · exact hw (by simp [q])
        · exact absurd (Heap.lt_size eb) (Nat.not_lt.mpr q)
      obtain ⟨o'', e'', c''⟩ := y.keep b o' e' hb hm' (loose_cls c'.1 hl)
      exact ⟨o'', e'', c'.trans c''⟩
  refine codeAny_forLoop_any (fun m s₃ => ∃ j μ₃ ρ₃ H₃, m = xs.length + 1 - j ∧ j ≤ xs.length ∧ At S A env env L Γ n μ₃ ρ₃ κ H₃ s₃ ∧ Grow S [I, env.locals] μ₁ μ₃ s₂ s₃ ∧ Itr S μ₃ s₃.heap xs ep src I j ∧ IterObj s₃.heap I ∧
    forGo (fun v ρ H K => setTg n κ t v ρ H fun ρ H => exs S κ x n ρ H K E) (fun H => snap H src = some (xs, ep)) (xs.drop j) ρ₃ H₃ Q) ?_ (xs.length + 1) ⟨0, μ₁, ρ, H₁, rfl, Nat.zero_le _, a2, .refl .., it2, io, by simpa using go⟩
  rintro m s₃ ⟨j, μ₃, ρ₃, H₃, rfl, hj, a3, gr3, it3, io3, go⟩
  have hsn3 : snap H₃ src = some (xs, ep) := by
    rcases Nat.lt_or_ge j xs.length with h | h
    · rw [List.drop_eq_getElem_cons h] at go; exact go.1
    · rw [List.drop_eq_nil_of_le h] at go; exact go.1
  refine wpAny_ups (wpAny_mono (iter_next (E := fun _ _ => False) a3.g (a3.hh hn) hsn3 it3 io3 hj) (fun ro s₄ ⟨h', tk, es, hk, ho⟩ u => ?_) fun _ _ x => x.elim)
  subst es
  obtain ⟨a4, gr4⟩ := a3.iter io3 hb hk u
  have gr4' : Grow S [I, env.locals] μ₁ μ₃ s₂ { s₃ with heap := h', toks := tk } := gr3.trans (gr4.weaken (by simp))
  rcases Nat.lt_or_ge j xs.length with hlt | hge
  · have hx1 := List.getElem?_eq_getElem hlt
    rw [hx1] at ho
    cases ro with
    | none => exact ho.elim
    | some c =>
      obtain ⟨r1, it4, io4⟩ := ho
      rw [List.drop_eq_getElem_cons hlt] at go
      obtain ⟨_, go⟩ := go
      refine owned_ok io4 ?_
      refine wpAny_mono (setTg_sound hnd hg a4 r1 go) (fun _ s₅ ⟨ρ₅, H₅, a5, gr5, q5⟩ => ?_) fun _ _ x => x
      obtain ⟨ik5, io5⟩ := iter_keep a4.g gr5 io4 hIlt
      have it5 : Itr S μ₃ s₅.heap xs ep src I (j + 1) := it4.mono (gr5.mono a4.g.sr (locals_fixed a4)) ik5
      have gr5' : Grow S [I, env.locals] μ₁ μ₃ s₂ s₅ := gr4'.trans (gr5.weaken (by simp))
      refine wpAny_mono (hx n A H₅ _ E μ₃ ρ₅ κ s₅ a5 q5) (fun f s₆ ⟨μ₆, ρ₆, H₆, b, gr6, a6, fr, q⟩ => ?_) fun v s' x => loop_err (x.pre (out gr5'))
      have gr6' : Grow S [I, env.locals] μ₁ μ₆ s₂ s₆ := gr5'.trans (gr6.weaken (by simp))
      obtain ⟨ik6, io6⟩ := iter_keep a5.g gr6 io5 hIlt
      have it6 := it5.mono (gr6.mono a5.g.sr (locals_fixed a5)) ik6
      cases b with
      | nrm => cases fr; exact ⟨xs.length + 1 - (j + 1), by omega, j + 1, μ₆, ρ₆, H₆, rfl, hlt, a6, gr6', it6, io6, q⟩
      | cont => cases fr; exact ⟨xs.length + 1 - (j + 1), by omega, j + 1, μ₆, ρ₆, H₆, rfl, hlt, a6, gr6', it6, io6, q⟩
      | brk => cases fr; exact ⟨μ₆, ρ₆, H₆, .nrm, out gr6', a6, rfl, q⟩
      | ret v => obtain ⟨c, rfl, r⟩ := fr; exact ⟨μ₆, ρ₆, H₆, .ret v, out gr6', a6, ⟨c, rfl, r⟩, q⟩
  · rw [List.getElem?_eq_none hge] at ho
    cases ro with
    | some c => exact ho.elim
    | none =>
      rw [List.drop_eq_nil_of_le hge] at go
      exact wpAny_execs_nil ⟨μ₃, ρ₃, H₃, .nrm, out gr4', a4, rfl, go.2⟩
end
end Mine
set_option maxRecDepth 10000
namespace Mine
open PySem PySem.Calls PyProof.Rows PySem.W

section
variable {S : Sx} {A : Around} {env : Env} {L : Addr} {Γ : FC} {n : Nat} {μ : List Addr} {H : AH} {s : Shared} {ρ : Lo} {κ : List Nat}

theorem lookup_cons_eq (es : List (Nm × V)) (x k : Nm) (v : V) : ((x, v) :: es).lookup k = if k = x then some v else es.lookup k := by
  rw [List.lookup_cons]
  by_cases h : k = x
  · subst h; simp
  · have : (k == x) = false := by simpa using h
    rw [this, if_neg h]

theorem osa_any {K : Frag} {prog : Program} {w : World} {x C dx : Addr} {ox od : Obj} {name : Str} {tk : Tok} {v : Value} {mm : Str → Option Value} {R : Result → Shared → Prop} (X : K.In s.heap) (I : InstAt s.heap x ox C (some od)) (hd : ox.dict = some dx) (hp : plainOver K C = true) (hf : findIn K (.ref C) name = some none)
    (hh : hasDictIn K C = true) (hn : s.heap.Ns dx mm) (hz : ∃ ds k, od.data = .dict ds k ∧ ds.size ≤ 600)
    (h : ∀ h' o', h'.Ns dx (fun y => if y = name then some v else mm y) → Heap.SameBut dx s.heap h' → h'.get? dx = some o' → o'.cls = od.cls → (∀ ds k, od.data = .dict ds k → ∃ ds' k', o'.data = .dict ds' k' ∧ ds'.size ≤ ds.size + 1) → R (.ok (.ret .none)) { s with heap := h', toks := s.toks + 1 }) :
    codeAny (model prog w) A (.call (.builtin "object.__setattr__") ⟨[.ref x, .str name tk, v], []⟩) R s := by
  have ht : takerIn K C name = some none := by unfold takerIn; rw [hf]; rfl
  refine osa_open X I hp ht fun b => ?_
  obtain ⟨cd, hc, hd'⟩ := any_some hh
  have hx := I.at_
  have hcl := I.cls
  have hdd := I.dict
  obtain ⟨oc, odi, oda, osl⟩ := ox
  dsimp only at hcl hd hdd
  subst hcl hd
  have D : s.heap.get? dx = some od := hdd
  refine wpAny_bind (wpAny_pure (wpAny_bind (wpAny_bind (wpAny_loadPart hx (wpAny_bind ((looks_clsIn X hc).here ?_))))))
  rw [hd']
  refine wpAny_pure (a := some dx) (wpAny_bind (wpAny_pure (wpAny_bind ?_)))
  refine nsSet_c hn D fun h' o' n' sb e' c' d' sl' hsz => ?_
  obtain ⟨ds, k, q1, q2⟩ := hz
  obtain ⟨ds', k', q3, q4⟩ := hsz ds k q1
  refine wpAny_bind (wpAny_lookBehind e' (by rw [q3]; exact pastItsLine_dict (by rw [sizeLine_eq]; omega)) ?_)
  exact wpAny_pure (h h' o' n' sb e' c' hsz)

theorem set_inst (SVS : SV S) (g : Good S μ H s) {E : Value → Shared → Prop} {i c d : Nat} {a : Addr} {es : List (Nm × V)} {x : Nm} {v : V} {cv : Value} (hi : H[i]? = some (.inst c d)) (m : μ[i]? = some a) (e : H[d]? = some (.ns es)) (ho : S.ao c x = true) (hE : S.isE c = false) (hz : es.length < 500) (r : VR S μ s.heap v cv) :
    wpAny (model S.prog S.w) A (setAttr (.ref a) ⟨x.toArray⟩ cv) (fun _ s' => Good S μ (H.set d (.ns ((x, v) :: es))) s' ∧ Grow S [] μ μ s s') E s := by
  obtain ⟨C, dx, ox, od, mm, h1, h2, h3, h4, h5, h6, h7, I, h8⟩ := g.instAt (.inl hi) m e
  obtain ⟨k1, k2, k3, k4, k5⟩ := SVS.ao c C x h1 ho
  obtain ⟨hbd, mm2, od2, q1, q2, q3, q4, ds, k, q5, q6⟩ := g.sr.obj d _ dx e h3
  rw [h5] at q1; cases q1
  refine set_plain (g.kin SVS) I k4 (osa_any (s := { s with toks := s.toks + 1 }) ((g.toks (s.toks + 1)).kin SVS) I h2 (k5 hE) k3 k2 q3 ⟨ds, k, q5, by omega⟩ fun h' o' n' sb e' c' hsz => ?_)
  have st : Still s.heap h' := still_sameBut h5 (by rw [q2]; exact .inr (.inl rfl)) sb
  have mo : Mono μ μ s.heap h' := st.mono fun _ _ z => z
  obtain ⟨ds', k', z1, z2⟩ := hsz ds k q5
  exact g.set (o' := .ns ((x, v) :: es)) h3 h5 e' c' hbd sb ⟨hbd, _, o', e', c'.trans q2, n', fun kk => by
    rw [lookup_cons_eq]
    by_cases hk : kk = x
    · subst hk; simp only [if_true]; exact ⟨cv, rfl, r.mono S mo⟩
    · have hk' : ¬ ((⟨kk.toArray⟩ : Str) = ⟨x.toArray⟩) := fun z => hk ((key_eq kk x).mp z)
      rw [if_neg hk, if_neg hk']; exact (q4 kk).mono S mo, ds', k', z1, by rw [List.length_cons]; omega⟩ _ (by dsimp only; omega)

theorem osa_exc {K : Frag} {prog : Program} {w : World} {x C : Addr} {ox : Obj} {od : Option Obj} {cd : ClassData} {name : Str} {tk : Tok} {v : Value} {R : Result → Shared → Prop} (X : K.In s.heap) (I : InstAt s.heap x ox C od) (hc : clsIn K C = some cd) (hm : cd.mro = .ref C :: bmVE) (hf : findIn K (.ref C) name = some none)
    (h : ∀ b, wpAny (model prog w) A.in1 (Builtin.ObjectAttr.storeInOwnDict (.ref x) (.ref C) (.str name tk) name v b) (fun fin s' => match fin with | .done f => R (.ok f) s' | .again c' => c'.quiet = true ∧ codeAny (model prog w) A c' R s') (fun e s' => R (.error e) s') s) :
    codeAny (model prog w) A (.call (.builtin "object.__setattr__") ⟨[.ref x, .str name tk, v], []⟩) R s := by
  have SF := PySem.F.store_object
  have sub : Looks (model prog w) s.heap (isInstance (.ref x) (.type "object")) true := I.type.andThen (looks_mroIn X (by
    unfold mroIn; rw [hc, Option.bind_some, hm]; simp))
  refine codeAny_call_builtin SF.slot.plain SF.entry (@check_slot (model prog w) _ _ s "object.__setattr__" "object" "__setattr__" (.ref x) [.str name tk, v] [] _ SF.kind SF.split sub (SF.args (.ref x) (.str name tk) v) ?_)
  have hml : Looks (model prog w) s.heap (mroOf (.ref C)) cd.mro := (looks_clsIn X hc).andThen .now
  rw [osa_eq, refuse_eq]
  refine wpAny_bind (wpAny_bind (I.type.here (wpAny_bind (hml.here ?_))))
  rw [hm, refuseLoop_ref, PySem.F.store_ValueError.passes]
  refine wpAny_pure (wpAny_bind (I.type.here (wpAny_bind ((looks_findIn X hf).here ?_))))
  exact wpAny_bind (wpAny_pure (h _))

theorem exc_dict {K : Frag} {prog : Program} {w : World} {x C dx : Addr} {ox od : Obj} {cd : ClassData} {name : Str} {tk : Tok} {v : Value} {mm : Str → Option Value} {R : Result → Shared → Prop} (X : K.In s.heap) (I : InstAt s.heap x ox C (some od)) (hd : ox.dict = some dx) (hc : clsIn K C = some cd) (hm : cd.mro = .ref C :: bmVE) (hf : findIn K (.ref C) name = some none)
    (hh : hasDictIn K C = true) (hn : s.heap.Ns dx mm) (hz : ∃ ds k, od.data = .dict ds k ∧ ds.size ≤ 600)
    (h : ∀ h' o', h'.Ns dx (fun y => if y = name then some v else mm y) → Heap.SameBut dx s.heap h' → h'.get? dx = some o' → o'.cls = od.cls → (∀ ds k, od.data = .dict ds k → ∃ ds' k', o'.data = .dict ds' k' ∧ ds'.size ≤ ds.size + 1) → R (.ok (.ret .none)) { s with heap := h', toks := s.toks + 1 }) :
    codeAny (model prog w) A (.call (.builtin "object.__setattr__") ⟨[.ref x, .str name tk, v], []⟩) R s := by
  refine osa_exc X I hc hm hf fun b => ?_
  obtain ⟨cd', hc', hd'⟩ := any_some hh
  have hx := I.at_
  have hcl := I.cls
  have hdd := I.dict
  obtain ⟨oc, odi, oda, osl⟩ := ox
  dsimp only at hcl hd hdd
  subst hcl hd
  have D : s.heap.get? dx = some od := hdd
  refine wpAny_bind (wpAny_pure (wpAny_bind (wpAny_bind (wpAny_loadPart hx (wpAny_bind ((looks_clsIn X hc').here ?_))))))
  rw [hd']
  refine wpAny_pure (a := some dx) (wpAny_bind (wpAny_pure (wpAny_bind ?_)))
  refine nsSet_c hn D fun h' o' n' sb e' c' d' sl' hsz => ?_
  obtain ⟨ds, k, q1, q2⟩ := hz
  obtain ⟨ds', k', q3, q4⟩ := hsz ds k q1
  refine wpAny_bind (wpAny_lookBehind e' (by rw [q3]; exact pastItsLine_dict (by rw [sizeLine_eq]; omega)) ?_)
  exact wpAny_pure (h h' o' n' sb e' c' hsz)

/-- the first attribute of an exception: a dict is made -/
theorem exc_nodict {K : Frag} {prog : Program} {w : World} {x C : Addr} {ox : Obj} {cd : ClassData} {name : Str} {tk : Tok} {v : Value} {R : Result → Shared → Prop} (X : K.In s.heap) (I : InstAt s.heap x ox C none) (hd : ox.dict = none) (hfr : ∃ vs, ox.data = .fields vs) (hc : clsIn K C = some cd) (hm : cd.mro = .ref C :: bmVE) (hf : findIn K (.ref C) name = some none)
    (hh : hasDictIn K C = true)
    (h : ∀ h' o', h'.Ns s.heap.objs.size (fun y => if y = name then some v else none) → Heap.SameBut s.heap.objs.size ((s.heap.push emptyDict).update x fun o => { o with dict := some s.heap.objs.size }) h' → h'.get? s.heap.objs.size = some o' → o'.cls = .type "dict" → (∃ ds' k', o'.data = .dict ds' k' ∧ ds'.size ≤ 1) → R (.ok (.ret .none)) { s with heap := h', toks := s.toks + 1 }) :
    codeAny (model prog w) A (.call (.builtin "object.__setattr__") ⟨[.ref x, .str name tk, v], []⟩) R s := by
  refine osa_exc X I hc hm hf fun b => ?_
  obtain ⟨cd', hc', hd'⟩ := any_some hh
  have hx := I.at_
  have hcl := I.cls
  obtain ⟨oc, odi, oda, osl⟩ := ox
  obtain ⟨vs, hfr⟩ := hfr
  dsimp only at hcl hd hfr
  subst hcl hd hfr
  obtain ⟨hp, g, dr, t, os⟩ := s
  refine wpAny_bind (wpAny_pure (wpAny_bind (wpAny_bind (wpAny_loadPart hx (wpAny_bind ((looks_clsIn X hc').here ?_))))))
  rw [hd']
  have hx₁ : (hp.push emptyDict).get? x = some _ := Heap.get?_push_of_some _ hx
  have hxs : x ≠ hp.objs.size := Nat.ne_of_lt (Heap.lt_size hx)
  dsimp only [Bool.not_true]
  simp only [Bool.false_eq_true, if_false, Bool.not_true, Bool.false_or, typeHasDict]
  refine wpAny_bind (wpAny_alloc' ?_)
  refine wpAny_bind (wpAny_update' hx₁ (wpAny_pure ?_))
  have hgd : ((hp.push emptyDict).update x fun o => { cls := o.cls, dict := some hp.objs.size, data := o.data, slots := o.slots }).get? hp.objs.size = some emptyDict :=
    (Heap.get?_update_ne _ _ _ _ hxs.symm).trans (Heap.get?_push_at rfl rfl)
  have hnd : ((hp.push emptyDict).update x fun o => { cls := o.cls, dict := some hp.objs.size, data := o.data, slots := o.slots }).Ns hp.objs.size (fun _ => none) :=
    ⟨_, #[], _, hgd, rfl, fun e he => absurd he (by simp), fun _ => rfl⟩
  show wpAny _ _ (Builtin.ObjectAttr.storeInDict hp.objs.size (.str name tk) name v) _ _ _
  unfold Builtin.ObjectAttr.storeInDict Builtin.ObjectAttr.newKeyGuard
  refine wpAny_bind (wpAny_pure (wpAny_bind ?_))
  refine nsSet_c hnd hgd fun h' o' n' sb e' c' d' sl' hsz => ?_
  obtain ⟨ds', k', q3, q4⟩ := hsz #[] _ rfl
  refine wpAny_bind (wpAny_lookBehind e' (by rw [q3]; exact pastItsLine_dict (by rw [sizeLine_eq]; simp at q4; omega)) ?_)
  exact wpAny_pure (h h' o' n' sb e' c' ⟨ds', k', q3, by simpa using q4⟩)

theorem set_exc (SVS : SV S) (g : Good S μ H s) {E : Value → Shared → Prop} {i c d : Nat} {a : Addr} {args : List V} {fr : Bool} {es : List (Nm × V)} {x : Nm} {v : V} {cv : Value} (hi : H[i]? = some (.exc c args (some d) fr)) (m : μ[i]? = some a) (e : H[d]? = some (.ns es)) (ho : S.ao c x = true) (hE : S.isE c = true) (hz : es.length < 500) (r : VR S μ s.heap v cv) :
    wpAny (model S.prog S.w) A (setAttr (.ref a) ⟨x.toArray⟩ cv) (fun _ s' => Good S μ (H.set d (.ns ((x, v) :: es))) s' ∧ Grow S [] μ μ s s') E s := by
  obtain ⟨C, dx, ox, od, mm, h1, h2, h3, h4, h5, h6, h7, I, h8⟩ := g.instAt (.inr ⟨args, fr, hi⟩) m e
  obtain ⟨k1, k2, k3, k4, _⟩ := SVS.ao c C x h1 ho
  obtain ⟨_, _, _, _, cd, w1, w2⟩ := SVS.exc c C h1 hE
  obtain ⟨hbd, mm2, od2, q1, q2, q3, q4, ds, k, q5, q6⟩ := g.sr.obj d _ dx e h3
  rw [h5] at q1; cases q1
  refine set_plain (g.kin SVS) I k4 (exc_dict (s := { s with toks := s.toks + 1 }) ((g.toks (s.toks + 1)).kin SVS) I h2 w1 w2 k3 k2 q3 ⟨ds, k, q5, by omega⟩ fun h' o' n' sb e' c' hsz => ?_)
  have st : Still s.heap h' := still_sameBut h5 (by rw [q2]; exact .inr (.inl rfl)) sb
  have mo : Mono μ μ s.heap h' := st.mono fun _ _ z => z
  obtain ⟨ds', k', z1, z2⟩ := hsz ds k q5
  exact g.set (o' := .ns ((x, v) :: es)) h3 h5 e' c' hbd sb ⟨hbd, _, o', e', c'.trans q2, n', fun kk => by
    rw [lookup_cons_eq]
    by_cases hk : kk = x
    · subst hk; simp only [if_true]; exact ⟨cv, rfl, r.mono S mo⟩
    · have hk' : ¬ ((⟨kk.toArray⟩ : Str) = ⟨x.toArray⟩) := fun z => hk ((key_eq kk x).mp z)
      rw [if_neg hk, if_neg hk']; exact (q4 kk).mono S mo, ds', k', z1, by rw [List.length_cons]; omega⟩ _ (by dsimp only; omega)

theorem set_exc0 (SVS : SV S) (g : Good S μ H s) {E : Value → Shared → Prop} {i c : Nat} {a : Addr} {args : List V} {fr : Bool} {x : Nm} {v : V} {cv : Value} (hi : H[i]? = some (.exc c args none fr)) (m : μ[i]? = some a) (ho : S.ao c x = true) (hE : S.isE c = true) (r : VR S μ s.heap v cv) :
    wpAny (model S.prog S.w) A (setAttr (.ref a) ⟨x.toArray⟩ cv) (fun _ s' => ∃ μ', Good S μ' (H.set i (.exc c args (some H.length) fr) ++ [.ns [(x, v)]]) s' ∧ Grow S [] μ μ' s s') E s := by
  obtain ⟨hb0, C, vs, t0, sl, dd, g1, g2, g3, g4, g5, g6, g7⟩ := g.sr.obj i _ a hi m
  dsimp only at g7
  subst g7
  have I : InstAt s.heap a ⟨.ref C, none, .fields vs, sl⟩ C none := ⟨g2, rfl, rfl, trivial⟩
  obtain ⟨k1, k2, k3, k4, _⟩ := SVS.ao c C x g1 ho
  obtain ⟨_, _, _, _, cd, w1, w2⟩ := SVS.exc c C g1 hE
  refine wpAny_ups (set_plain (g.kin SVS) I k4 (exc_nodict (s := { s with toks := s.toks + 1 }) ((g.toks (s.toks + 1)).kin SVS) I rfl ⟨_, rfl⟩ w1 w2 k3 k2 fun h' o' n' sb e' c' hsz => fun up => ?_))
  -- the new dict
  have hil : i < H.length := (List.getElem?_eq_some_iff.mp hi).1
  have gA := g.alloc emptyDict (.ns []) ⟨g.base_new, fun _ => none, emptyDict, Heap.get?_push_size _ rfl, rfl, Heap.Ns.new s.heap (.type "dict"), fun _ => rfl, #[], _, rfl, Nat.le_refl _⟩
  have grA : Grow S [] μ (μ ++ [s.heap.objs.size]) s { s with heap := s.heap.push emptyDict } := .alloc _
  have hne : a ≠ s.heap.objs.size := Nat.ne_of_lt (Heap.lt_size g2)
  have mA : (μ ++ [s.heap.objs.size])[i]? = some a := grA.at m
  have dA : (μ ++ [s.heap.objs.size])[H.length]? = some s.heap.objs.size := by rw [← g.sr.len, List.getElem?_append_right (Nat.le_refl _), Nat.sub_self]; rfl
  have eA := Heap.get?_push_of_some (h := s.heap) emptyDict g2
  have hiA : (H ++ [O.ns []])[i]? = some (.exc c args none fr) := by rw [List.getElem?_append_left hil]; exact hi
  have sbB : Heap.SameBut a (s.heap.push emptyDict) ((s.heap.push emptyDict).update a fun o => { o with dict := some s.heap.objs.size }) := .update ..
  have eB := Heap.get?_update_self (h := s.heap.push emptyDict) (fun o => { o with dict := some s.heap.objs.size }) eA rfl
  have stB := still_sameBut eA (.inr (.inr (.inr (.inr ⟨C, rfl⟩)))) sbB
  have moB : Mono (μ ++ [s.heap.objs.size]) (μ ++ [s.heap.objs.size]) (s.heap.push emptyDict) ((s.heap.push emptyDict).update a fun o => { o with dict := some s.heap.objs.size }) := stB.mono fun _ _ z => z
  have moA := grA.mono g.sr (by simp)
  obtain ⟨gB, grB⟩ := gA.set (o' := .exc c args (some H.length) fr) mA eA eB rfl hb0 sbB ⟨hb0, C, vs, t0, sl, _, g1, eB, g3, g4, (g5.mono S moA).mono S moB, g6, s.heap.objs.size, rfl, dA⟩ s.toks (Nat.le_refl _)
  have eD : ((s.heap.push emptyDict).update a fun o => { o with dict := some s.heap.objs.size }).get? s.heap.objs.size = some emptyDict := (sbB.2 _ hne.symm).trans (Heap.get?_push_size _ rfl)
  have stC := still_sameBut eD (.inr (.inl rfl)) sb
  have moC : Mono (μ ++ [s.heap.objs.size]) (μ ++ [s.heap.objs.size]) ((s.heap.push emptyDict).update a fun o => { o with dict := some s.heap.objs.size }) h' := stC.mono fun _ _ z => z
  obtain ⟨ds', k', z1, z2⟩ := hsz
  obtain ⟨gC, grC⟩ := gB.set (o' := .ns [(x, v)]) dA eD e' c' g.base_new sb ⟨g.base_new, _, o', e', c', n', fun kk => by
    rw [lookup_cons_eq]
    by_cases hk : kk = x
    · subst hk; simp only [if_true]; exact ⟨cv, rfl, ((r.mono S moA).mono S moB).mono S moC⟩
    · have hk' : ¬ ((⟨kk.toArray⟩ : Str) = ⟨x.toArray⟩) := fun z => hk ((key_eq kk x).mp z)
      rw [if_neg hk, if_neg hk']; rfl, ds', k', z1, by simpa using z2⟩ (s.toks + 1 + 1) (by dsimp only; omega)
  refine ⟨_, ?_, (grA.trans grB).trans grC⟩
  rw [show H.set i (.exc c args (some H.length) fr) ++ [O.ns [(x, v)]] = ((H ++ [O.ns []]).set i (.exc c args (some H.length) fr)).set H.length (.ns [(x, v)]) from by
    rw [List.set_append_left _ _ hil, List.set_append_right _ _ (by simp)]; simp]
  exact gC

theorem setaQ_sound (SVS : SV S) (g : Good S μ H s) {E : Value → Shared → Prop} {o v : V} {co cv : Value} {x : Nm} {K : AH → Prop} (ro : VR S μ s.heap o co) (r : VR S μ s.heap v cv) (h : setaQ S o x v H K) :
    wpAny (model S.prog S.w) A (setAttr co ⟨x.toArray⟩ cv) (fun _ s' => ∃ μ' H', Good S μ' H' s' ∧ Grow S [] μ μ' s s' ∧ K H') E s := by
  unfold setaQ at h
  split at h
  · obtain ⟨a, rfl, m⟩ := ro.rr_inv
    split at h
    · rename_i hi
      obtain ⟨ho, hE, es, e, hz, q⟩ := h
      exact wpAny_mono (set_inst SVS g hi m e ho hE hz r) (fun _ s' ⟨x, y⟩ => ⟨μ, _, x, y, q⟩) fun _ _ x => x
    · rename_i hi
      obtain ⟨ho, hE, es, e, hz, q⟩ := h
      exact wpAny_mono (set_exc SVS g hi m e ho hE hz r) (fun _ s' ⟨x, y⟩ => ⟨μ, _, x, y, q⟩) fun _ _ x => x
    · rename_i hi
      obtain ⟨ho, hE, q⟩ := h
      exact wpAny_mono (set_exc0 SVS g hi m ho hE r) (fun _ s' ⟨μ', x, y⟩ => ⟨μ', _, x, y, q⟩) fun _ _ x => x
    · exact h.elim
  · exact h.elim

theorem vrs_set {h : Heap} {v : V} {c : Value} : ∀ {xs : List V} {cs : List Value}, VRs S μ h xs cs → VR S μ h v c → ∀ k, VRs S μ h (xs.set k v) (cs.set k c)
  | [], cs, r, _, k => by rw [VRs] at r; subst r; rw [List.set_nil, List.set_nil]; exact .nil S
  | x :: xs, cs, r, rv, k => by
    rw [VRs] at r
    obtain ⟨c', cr, rfl, r1, r2⟩ := r
    cases k with
    | zero => rw [List.set_cons_zero, List.set_cons_zero]; exact .cons S rv r2
    | succ k => rw [List.set_cons_succ, List.set_cons_succ]; exact .cons S r1 (vrs_set r2 rv k)

theorem putQ_sound (SVS : SV S) (g : Good S μ H s) {E : Value → Shared → Prop} {o i v : V} {co ci cv : Value} {K : AH → Prop} (ro : VR S μ s.heap o co) (ri : VR S μ s.heap i ci) (r : VR S μ s.heap v cv) (h : putQ o i v H K) :
    wpAny (model S.prog S.w) A (setItem co ci cv) (fun _ s' => ∃ H', Good S μ H' s' ∧ Grow S [] μ μ s s' ∧ K H') E s := by
  unfold putQ at h
  split at h
  · rename_i j ii
    obtain ⟨a, rfl, m⟩ := ro.rr_inv
    obtain ⟨t, rfl⟩ := ri.ii_inv
    obtain ⟨ys, k, hj, rfl, hk, hz, q⟩ := h
    obtain ⟨hb, cs, nn, e, rs⟩ := g.sr.obj j _ a hj m
    have hsz := VRs.size rs
    refine ki_setAt e (by omega) (by omega) (by rw [hsz]; exact_mod_cast hk) ?_
    have eo : Obj.mapSeq (·.setIfInBounds ((k : Int)).toNat cv) (listOf cs nn) = listOf (cs.setIfInBounds k cv) nn := by
      unfold Obj.mapSeq
      simp
    have e' := Heap.get?_update_self (h := s.heap) (Obj.mapSeq (·.setIfInBounds ((k : Int)).toNat cv)) e (by rw [eo]; rfl)
    rw [eo] at e'
    have sb : Heap.SameBut a s.heap (s.heap.update a (Obj.mapSeq (·.setIfInBounds ((k : Int)).toNat cv))) := .update ..
    have st := still_sameBut e (.inl rfl) sb
    have mo : Mono μ μ s.heap (s.heap.update a (Obj.mapSeq (·.setIfInBounds ((k : Int)).toNat cv))) := st.mono fun _ _ z => z
    have rr : VRs S μ (s.heap.update a (Obj.mapSeq (·.setIfInBounds ((k : Int)).toNat cv))) (ys.set k v) (cs.setIfInBounds k cv).toList := by
      rw [Array.toList_setIfInBounds]
      exact vrs_set (rs.mono S mo) (r.mono S mo) k
    obtain ⟨g', gr⟩ := g.set (o' := .list (ys.set k v)) m e e' rfl hb sb ⟨hb, _, _, e', rr⟩ s.toks (Nat.le_refl _)
    exact ⟨_, g', gr, q⟩
  · rename_i j x
    obtain ⟨a, rfl, m⟩ := ro.rr_inv
    obtain ⟨t, rfl⟩ := ri.ss_inv
    obtain ⟨es, ep, hj, hz, q⟩ := h
    obtain ⟨hb, kvs, ⟨o, ds, d1, d2, d3, d4, d5, d6⟩, rs⟩ := g.sr.obj j _ a hj m
    refine wpAny_setItem_pairs (knd := PySem.strKind S.prog S.w) (isStr_self _ _) ⟨o, ds, ep, d1, d2, d3, d4, d5, d6⟩ (fun h' ⟨o2, ds2, ep2, f1, f2, f3, f4, f5, f6⟩ sb => ?_) (by rw [rs.length, sizeLine_eq]; omega)
    have st : Still s.heap h' := still_sameBut d1 (.inr (.inl d2.1)) sb
    have mo : Mono μ μ s.heap h' := st.mono fun _ _ z => z
    obtain ⟨g', gr⟩ := g.set (o' := .dict (upd es x v) ep2) m d1 f1 (f2.1.trans d2.1.symm) hb.1 sb ⟨hb, _, ⟨o2, ds2, f1, f2, f3, f4, f5, f6⟩, (rs.mono S mo).upd (r.mono S mo)⟩ (s.toks + 1) (Nat.le_succ _)
    exact ⟨_, g', gr, q ep2⟩
  · exact h.elim
end
end Mine
set_option maxRecDepth 10000
namespace Mine
open PySem PySem.Calls PyProof.Rows PySem.W

section
variable {S : Sx} {A : Around} {env : Env} {L : Addr} {Γ : FC} {n : Nat} {μ : List Addr} {H : AH} {s : Shared} {ρ : Lo} {κ : List Nat}

theorem Gw {μ' : List Addr} {s' : Shared} (gr : Grow S [] μ μ' s s') : Grow S [env.locals] μ μ' s s' := gr.weaken (by simp)

theorem st_put (SVS : SV S) {ob : Nat → Scope → FuncBody → Bool} (hob : ∀ k sc b, ob k sc b = true → ob1 S.gname S.fns k sc b = true) {o i x : X} {v j e : Expr} {p p' : Pos} (ho : agX S.gname S.fns ob Γ o v = true) (hi : agX S.gname S.fns ob Γ i j = true) (hx : agX S.gname S.fns ob Γ x e = true) :
    ExOk S L Γ env (.put o i x) (.Assign [.Subscript v j p'] e p) := by
  intro n A H Q E μ ρ κ s a q
  rw [ex] at q
  have hsw : swapsWithSole [.Subscript v j p'] e p.line env = pure false := by
    show swapsWith e (some (.Subscript v j p')) p.line env = _
    cases e <;> rfl
  have hw : swappedStores [.Subscript v j p'] e env = pure none := by unfold swappedStores; rfl
  refine wpAny_Assign_stores (wpAny_mono (expr_sound SVS hob hx a q) (fun c s₁ x1 => ?_) fun _ _ x => x) hsw hw
  obtain ⟨μ₁, H₁, b, gr1, a1, r1, q⟩ := val_at a x1
  show wpAny _ _ (assign (.Subscript v j p') env c) _ _ _
  rw [arm_assign_Subscript]
  refine wpAny_bind (wpAny_holding (wpAny_mono (expr_sound SVS hob ho a1 q) (fun d s₂ x2 => ?_) fun _ _ x => x.pre gr1))
  obtain ⟨μ₂, H₂, b2, gr2, a2, r2, q⟩ := val_at a1 x2
  have mo2 : Mono μ₁ μ₂ s₁.heap s₂.heap := gr2.mono a1.g.sr (locals_fixed a1)
  refine wpAny_bind (wpAny_holding (wpAny_mono (expr_sound SVS hob hi a2 q) (fun f s₃ x3 => ?_) fun _ _ x => (x.pre gr2).pre gr1))
  obtain ⟨μ₃, H₃, b3, gr3, a3, r3, q⟩ := val_at a2 x3
  have mo3 : Mono μ₂ μ₃ s₂.heap s₃.heap := gr3.mono a2.g.sr (locals_fixed a2)
  refine wpAny_bind (wpAny_standAt (wpAny_bind (wpAny_holding (wpAny_mono (putQ_sound SVS a3.g (r2.mono S mo3) r3 ((r1.mono S mo2).mono S mo3) q) (fun _ s₄ ⟨H₄, g4, gr4, q4⟩ => ?_) fun _ _ x => x))))
  exact wpAny_release ⟨μ₃, ρ, H₄, .nrm, ((gr1.trans gr2).trans gr3).trans (Gw gr4), a3.grow gr4 g4, rfl, q4⟩

theorem st_seta (SVS : SV S) {ob : Nat → Scope → FuncBody → Bool} (hob : ∀ k sc b, ob k sc b = true → ob1 S.gname S.fns k sc b = true) {o x : X} {nm : Nm} {v e : Expr} {p p' : Pos} (ho : agX S.gname S.fns ob Γ o v = true) (hx : agX S.gname S.fns ob Γ x e = true) :
    ExOk S L Γ env (.seta o nm x) (.Assign [.Attribute v nm.str p'] e p) := by
  intro n A H Q E μ ρ κ s a q
  rw [ex] at q
  have hsw : swapsWithSole [.Attribute v nm.str p'] e p.line env = pure false := by
    show swapsWith e (some (.Attribute v nm.str p')) p.line env = _
    cases e <;> rfl
  have hw : swappedStores [.Attribute v nm.str p'] e env = pure none := by unfold swappedStores; rfl
  refine wpAny_Assign_stores (wpAny_mono (expr_sound SVS hob hx a q) (fun c s₁ x1 => ?_) fun _ _ x => x) hsw hw
  obtain ⟨μ₁, H₁, b, gr1, a1, r1, q⟩ := val_at a x1
  show wpAny _ _ (assign (.Attribute v nm.str p') env c) _ _ _
  rw [arm_assign_Attribute]
  refine wpAny_bind (wpAny_holding (wpAny_mono (expr_sound SVS hob ho a1 q) (fun d s₂ x2 => ?_) fun _ _ x => x.pre gr1))
  obtain ⟨μ₂, H₂, b2, gr2, a2, r2, q⟩ := val_at a1 x2
  have mo2 : Mono μ₁ μ₂ s₁.heap s₂.heap := gr2.mono a1.g.sr (locals_fixed a1)
  refine wpAny_bind (wpAny_standAt (wpAny_bind (wpAny_holding (wpAny_mono (setaQ_sound SVS a2.g r2 (r1.mono S mo2) q) (fun _ s₄ ⟨μ₄, H₄, g4, gr4, q4⟩ => ?_) fun _ _ x => x))))
  exact wpAny_release ⟨μ₄, ρ, H₄, .nrm, (gr1.trans gr2).trans (Gw gr4), a2.grow gr4 g4, rfl, q4⟩

theorem st_aug (SVS : SV S) {ob : Nat → Scope → FuncBody → Bool} (hob : ∀ k sc b, ob k sc b = true → ob1 S.gname S.fns k sc b = true) (hnd : Γ.vars.Nodup) {i : Nat} {op : Operator} {x : X} {nm : Str} {e : Expr} {p p' : Pos} (h1 : Γ.vars[i]? = some nm) (h2 : Γ.kind nm = some .local) (hx : agX S.gname S.fns ob Γ x e = true) :
    ExOk S L Γ env (.aug i op x) (.AugAssign (.Name nm p') op e p) := by
  intro n A H Q E μ ρ κ s a q
  rw [ex] at q
  obtain ⟨old, ho, q⟩ := q
  obtain ⟨m, hn, hv⟩ := a.fr.ns
  have hl := hv i nm h1
  rw [List.getD_eq_getElem?_getD, ho] at hl
  obtain ⟨c, hc, r⟩ := hl
  refine wpAny_AugAssign_Name (wpAny_loadName_local a.fr.kind ((kindOf_eq a nm).trans h2) hn hc ?_)
  refine wpAny_mono (expr_sound SVS hob hx a q) (fun d s₂ x2 => ?_) fun _ _ x => x
  obtain ⟨μ₂, H₂, b2, gr2, a2, r2, q⟩ := val_at a x2
  have mo2 : Mono μ μ₂ s.heap s₂.heap := gr2.mono a.g.sr (locals_fixed a)
  have r1 := r.mono S mo2
  have fin : ∀ (z : Int) (t : Tok) (k : Nat), s₂.toks ≤ k → Q .nrm (ρ.set i (some (.ii z))) H₂ → wpAny (model S.prog S.w) A (storeName env nm (.int z t)) (fun _ => PostS S A env L Γ n κ μ s Q .next) (PostX S A env L Γ n κ μ s E) { s₂ with toks := k } := by
    intro z t k hk q
    have gk : Grow S [] μ₂ μ₂ s₂ { s₂ with toks := k } := .toks k hk
    have ak := a2.grow gk (a2.g.toks k)
    refine wpAny_mono (ak.store h1 h2 hnd (v := .ii z) .ii) (fun _ s₃ ⟨a3, gr3⟩ => ?_) fun _ _ x => x
    exact ⟨μ₂, _, H₂, .nrm, (gr2.trans (Gw gk)).trans gr3, a3, rfl, q⟩
  unfold augQ at q
  split at q
  · obtain ⟨t, rfl⟩ := r1.ii_inv
    obtain ⟨u, rfl⟩ := r2.ii_inv
    exact AutoIntOps.iadd_0 (fin _ _ _ (by first | omega | (dsimp only; omega)) q)
  · obtain ⟨t, rfl⟩ := r1.ii_inv
    obtain ⟨u, rfl⟩ := r2.ii_inv
    exact AutoIntOps.isub_0 (fin _ _ _ (by first | omega | (dsimp only; omega)) q)
  · exact q.elim

theorem st_def (SVS : SV S) {t : Tg} {k : Nat} {name bind : Str} {args : Arguments} {body : List Stmt} {sc : Scope} {p : Pos} (hnd : Γ.vars.Nodup) (hg : agTg Γ t (.Name bind p) = true) (hag : agFn S.fns (ob1 S.gname S.fns) Γ k args sc (.stmts body) = true) :
    ExOk S L Γ env (.def_ t k) (.FunctionDef name args body [] none [] sc none bind p) := by
  intro n A H Q E μ ρ κ s a q
  rw [ex] at q
  obtain ⟨cs, hcs, q⟩ := q
  have hag' := hag
  simp only [agFn, Bool.and_eq_true, List.isEmpty_iff] at hag'
  obtain ⟨⟨⟨⟨_, hd1⟩, hd2⟩, _⟩, _⟩ := hag'
  have hann : ∀ l : List Arg, l.all (·.annotation.isNone) = true → annotationsOf l env = [] := by
    intro l
    induction l with
    | nil => intro _; rfl
    | cons b r ih =>
      intro hl
      rw [List.all_cons, Bool.and_eq_true] at hl
      obtain ⟨n1, n2, n3⟩ := b
      have : n2 = none := by simpa using hl.1
      subst this
      rw [arm_annotationsOf_cons_2]; exact ih hl.2
  have hag2 := hag
  simp only [agFn, Bool.and_eq_true, List.isEmpty_iff, Option.isNone_iff_eq_none] at hag2
  obtain ⟨⟨⟨⟨⟨⟨⟨⟨⟨⟨⟨⟨⟨_, _⟩, _⟩, _⟩, _⟩, h6⟩, h7⟩, h8⟩, h9⟩, h10⟩, h11⟩, h12⟩, _⟩, _⟩ := hag2
  have key : exec (.FunctionDef name args body [] none [] sc none bind p) env = (do
      standAt p
      let f ← holding [] (do
        let dv ← evalAll ([] : List (Sem Value))
        let kdv ← holding dv (evalAllOpt [])
        holding (dv ++ kdv.filterMap id) (do
          let ann ← evalNamed []
          makeFunction name (qualnameIn env name bind) args (.stmts body) sc env dv kdv ann p p.line))
      let f ← decorate [] f
      standAt p
      bindName env bind f
      pure .next) := by
    rw [arm_exec_FunctionDef]
    obtain ⟨x1, x2, x3, x4, x5, x6, x7⟩ := args
    dsimp only at h6 h7 h8 h9 h10 h11 h12
    subst h6 h7 h8 h9 h10 h11
    rw [arm_defaultsOf_mk]
    unfold defStmt
    dsimp only
    simp only [List.nil_append, Option.toList, List.append_nil, hann x2 h12]
    rfl
  rw [key]
  refine wpAny_bind (wpAny_standAt (wpAny_bind (wpAny_holding ?_)))
  refine wpAny_bind (wpAny_pure (wpAny_bind (wpAny_holding (wpAny_pure (wpAny_holding (wpAny_bind (wpAny_pure ?_)))))))
  refine wpAny_mono (mkFn SVS a hag hcs) (fun v s' ⟨μ', gr, g, r⟩ => ?_) fun _ _ x => x
  have a' := a.grow gr g
  refine wpAny_bind (wpAny_pure (wpAny_bind (wpAny_standAt ?_)))
  have hst2 : wpAny (model S.prog S.w) A (bindName env bind v) (fun _ s' => PostS S A env L Γ n κ μ s Q .next s') (PostX S A env L Γ n κ μ s E) s' := by
    cases t with
    | loc i =>
      simp only [agTg, Bool.and_eq_true, beq_iff_eq] at hg
      rw [setTg] at q
      exact wpAny_bindName (wpAny_mono (a'.store hg.1 hg.2 hnd r) (fun _ s₂ ⟨a2, gr2⟩ => ⟨μ', _, _, .nrm, (Gw gr).trans gr2, a2, rfl, q⟩) fun _ _ x => x)
    | cel i =>
      simp only [agTg, Bool.and_eq_true, beq_iff_eq] at hg
      rw [setTg] at q
      obtain ⟨j, w, q1, q2, q3⟩ := q
      exact wpAny_bindName (wpAny_mono (a'.storeC hg.1 hg.2 q1 q2 r) (fun _ s₂ ⟨a2, gr2⟩ => ⟨μ', _, _, .nrm, (Gw gr).trans (Gw gr2), a2, rfl, q3⟩) fun _ _ x => x)
    | two t1 t2 => simp [agTg] at hg
    | three t1 t2 t3 => simp [agTg] at hg
    | four i j l m => simp [agTg] at hg
  exact wpAny_bind (wpAny_mono hst2 (fun _ _ x => wpAny_pure x) fun _ _ x => x)

theorem Good.stale (g : Good S μ H s) {i c : Nat} {args : List V} {d : Option Nat} {ad : Addr} (m : μ[i]? = some ad) (hi : H[i]? = some (.exc c args d true)) : Good S μ (H.set i (.exc c args d false)) s := by
  refine ⟨g.inv, by simp [g.sr.len], g.sr.nodup, fun j o b h1 h2 => ?_⟩
  by_cases hj : j = i
  · subst hj
    rw [List.getElem?_set_self (List.getElem?_eq_some_iff.mp hi).1] at h1
    cases h1
    rw [m] at h2; cases h2
    obtain ⟨hb, C, vs, t, sl, dd, h1, h3, h4, h5, h6, _, h7⟩ := g.sr.obj _ _ _ hi m
    exact ⟨hb, C, vs, t, sl, dd, h1, h3, h4, h5, h6, (fun z => by cases z), h7⟩
  · rw [List.getElem?_set_ne (Ne.symm hj)] at h1
    exact g.sr.obj j o b h1 h2

theorem st_raise (SVS : SV S) {ob : Nat → Scope → FuncBody → Bool} (hob : ∀ k sc b, ob k sc b = true → ob1 S.gname S.fns k sc b = true) {x : X} {e : Expr} {p : Pos} (h : agX S.gname S.fns ob Γ x e = true) : ExOk S L Γ env (.raise x) (.Raise (some e) none p) := by
  intro n A H Q E μ ρ κ s a q
  rw [ex] at q
  obtain ⟨hn, q⟩ := q
  rw [arm_exec_Raise]
  show wpAny _ _ (standAt p >>= fun _ => raiseStmt env (some (do let v ← eval e env; standAt p; pure v)) none) _ _ s
  refine wpAny_bind (wpAny_standAt ?_)
  unfold raiseStmt
  refine wpAny_bind (wpAny_bind (wpAny_mono (expr_sound SVS hob h a q) (fun v s₁ x1 => wpAny_bind (wpAny_standAt (wpAny_pure ?_))) fun _ _ x => x))
  obtain ⟨μ₁, H₁, b, gr1, a1, r1, i, c, args, d, rfl, hi, hE, q⟩ := val_at a x1
  obtain ⟨ad, rfl, m⟩ := r1.rr_inv
  obtain ⟨hb, C, vs, t, sl, dd, h1, h3, h4, h5, h6, hfr, h7⟩ := a1.g.sr.obj i _ ad hi m
  obtain ⟨k1, k2, k3, k4⟩ := SVS.exc c C h1 hE
  have hX := a1.g.kin SVS
  have hf := hfr rfl
  have hty : Looks (model S.prog S.w) s₁.heap (typeOf (.ref ad)) (.ref C) := (Looks.ld h3).andThen .now
  have hit : Looks (model S.prog S.w) s₁.heap (isType (.ref ad)) false := (Looks.ld h3).andThen .now
  have hexc : Looks (model S.prog S.w) s₁.heap (excFromValue (.ref ad) "exceptions must derive from BaseException") (.ref ad) := by
    unfold excFromValue
    have e1 : Looks (model S.prog S.w) s₁.heap (isExcClass (.ref ad)) false := hit.andThen .now
    have e2 : Looks (model S.prog S.w) s₁.heap (isInstance (.ref ad) (.type "BaseException")) true := hty.andThen (looks_mroIn hX k1)
    exact e1.andThen (e2.andThen .now)
  have hri : Looks (model S.prog S.w) s₁.heap (raisedInstance (.ref ad)) (.ref ad) := by
    unfold raisedInstance
    exact hty.andThen ((looks_typeIn hX k4.1).andThen .now)
  refine wpAny_bind (wpAny_pure (wpAny_bind (wpAny_holding (hexc.here ?_))))
  refine wpAny_bind (hit.here ?_)
  dsimp only
  rw [if_neg Bool.false_ne_true]
  refine wpAny_bind (hri.here ?_)
  refine wpAny_bind ?_
  · unfold setFlight
    refine wpAny_bind (wpAny_field h3 rfl hf ?_)
    rw [if_neg (by decide)]
    refine wpAny_pure ?_
    unfold raiseNew
    refine wpAny_bind (wpAny_handled ?_)
    rw [a1.hh hn]
    have g2 : Good S μ₁ (H₁.set i (.exc c args d false)) s₁ := a1.g.stale m hi
    have a2 : At S A env env L Γ n μ₁ ρ κ (H₁.set i (.exc c args d false)) s₁ := ⟨a1.fl, a1.ar, a1.fr, g2, a1.pos⟩
    have hi2 : (H₁.set i (.exc c args d false))[i]? = some (.exc c args d false) := List.getElem?_set_self (List.getElem?_eq_some_iff.mp hi).1
    have key : PostX S A env L Γ n κ μ s E (.ref ad) s₁ := ⟨μ₁, ρ, _, i, ad, gr1, a2, rfl, m, ⟨hb, _, vs, h3, rfl, .inl ⟨hf, .inl rfl⟩⟩, ⟨c, args, d, hi2⟩, q⟩
    exact wpAny_bind (wpAny_pure (wpAny_throw key))
end
end Mine
set_option maxRecDepth 10000
namespace Mine
open PySem PySem.Calls PyProof.Rows PySem.W

section
variable {S : Sx} {A : Around} {env : Env} {L : Addr} {Γ : FC} {n : Nat} {μ : List Addr} {H : AH} {s : Shared} {ρ : Lo} {κ : List Nat}

theorem At.mark (a : At S A env env L Γ n μ ρ κ H s) (h : Option Value) : At S (A.mark h) env env L Γ 0 μ ρ κ H s :=
  ⟨a.fl, ⟨a.ar.frames, by have := a.ar.depth; show A.depth + 0 ≤ _; omega, by have := a.ar.units; show A.units + 9 * 0 + 400 < _; omega, fun z => absurd rfl z⟩, a.fr, a.g, a.pos⟩

theorem st_try (SVS : SV S) {ob : Nat → Scope → FuncBody → Bool} (hob : ∀ k sc b, ob k sc b = true → ob1 S.gname S.fns k sc b = true) (hnd : Γ.vars.Nodup) {b : SL} {x : List Stmt} {k i : Nat} {h : X} {y : Expr} {nm v : Str} {p p1 p2 p3 : Pos}
    (hb : ExsOk S L Γ env b x) (hn : S.gname k = nm) (hk : Γ.kind nm = some .globalImplicit) (hd : (nm == ("__debug__" : Str)) = false) (hne : nm.cps.isEmpty = false) (hv : Γ.vars[i]? = some v) (hvk : Γ.kind v = some .local) (hy : agX S.gname S.fns ob Γ h y = true) :
    ExOk S L Γ env (.try_ b k i h) (.Try x [.ExceptHandler (some (.Name nm p1)) (some v) [.Return (some y) p2] p3] [] [] p) := by
  intro n A H Q E μ ρ κ s a q
  rw [ex] at q
  obtain ⟨hn0, q⟩ := q
  refine wpAny_Try_except (wpAny_mono (hb n A H Q _ μ ρ κ s a q) (fun f s₁ x1 => ?_) fun e s₁ x1 => ?_)
  · obtain ⟨μ₁, ρ₁, H₁, b1, gr1, a1, fr, q⟩ := x1
    cases b1 with
    | nrm => cases fr; exact wpAny_execs_nil ⟨μ₁, ρ₁, H₁, .nrm, gr1, a1, rfl, q⟩
    | brk => cases fr; exact ⟨μ₁, ρ₁, H₁, .brk, gr1, a1, rfl, q⟩
    | cont => cases fr; exact ⟨μ₁, ρ₁, H₁, .cont, gr1, a1, rfl, q⟩
    | ret v => obtain ⟨c, rfl, r⟩ := fr; exact ⟨μ₁, ρ₁, H₁, .ret v, gr1, a1, ⟨c, rfl, r⟩, q⟩
  · obtain ⟨μ₁, ρ₁, H₁, j, ad, gr1, a1, rfl, m, fl, _, ⟨c, args, d, hi, hE, hcl⟩, q⟩ := x1
    refine wpAny_mono (note_sound a1 m hi fl) (fun _ s₂ ⟨a2, gr2, fl2⟩ => ?_) fun _ _ x => x
    refine wpAny_mono (flight_sound (fr := none) a2 m hi fl2 (by simp)) (fun _ s₃ ⟨a3, gr3, fl3⟩ => ?_) fun _ _ x => x
    have gr13 : Grow S [env.locals] μ μ₁ s s₃ := (gr1.trans (Gw gr2)).trans (Gw gr3)
    obtain ⟨hbe, C, vs, t, sl, dd, h1, h3, h4, h5, h6, _, h7⟩ := a3.g.sr.obj j _ ad hi m
    have hgk : S.gv k = .ref C := by rw [← hcl, h1]
    obtain ⟨k1, k2, k3, k4⟩ := SVS.exc c C h1 hE
    obtain ⟨nm', qn, N, bs, bm, hdct, sn, sub, ab, col, ddd, k0', k1', k2', k3', k5', newId, hC, hbm, _⟩ := kts_cls (SVS.kin) k3
    have hC3 := a3.g.inv.stay _ _ hC
    refine wpAny_handleBy_cons ?_ (by intro z; cases z)
    have am := a3.mark (some (.ref ad))
    refine codeAny_handlers_test ?_
    refine Name_function_global am.fr.kind ((kindOf_eq am nm).trans hk) (load_name SVS am (v := .ref C) (by rw [← hgk, ← hn]; exact SVS.glob k (hn ▸ hne)) ?_) hd
    obtain ⟨hh3, g3, d3, tk3, os3⟩ := s₃
    refine wpAny_excMatches_sub_self hC3 h3 rfl hbm ?_
    rw [if_pos rfl]
    dsimp only
    refine codeAny_handlers_suite_as ?_
    refine wpAny_mono (flight_sound (fr := none) am m hi fl3 (by simp)) (fun _ s₄ ⟨a4, gr4, fl4⟩ => ?_) fun _ _ x => x
    refine wpAny_mono (a4.store hv hvk hnd (v := .rr j) (.rr m)) (fun _ s₅ ⟨a5, gr5⟩ => ?_) fun _ _ x => x
    rw [execs_cons]
    refine wpAny_bind (wpAny_Return_some (wpAny_mono ((ev_sound SVS hob h hy).val a5 q) (fun w s₆ x6 => ?_) fun _ _ x => (noE (E := fun _ _ => False) x).elim))
    obtain ⟨μ₆, H₆, bv, gr6, a6, r6, q6⟩ := val_at a5 x6
    refine wpAny_pure ?_
    dsimp only
    obtain ⟨l1, ol, l2, l3, l4⟩ := a6.fr.out
    obtain ⟨mm, hns, _⟩ := a6.fr.ns
    refine wpAny_nameGoes_keeps ((kindOf_eq a6 v).trans hvk) hns (by rw [a6.fr.kind]; rfl) fun h' v' n' sb => ?_
    obtain ⟨g7, gr7⟩ := a6.g.loc l2 l3 l4 l1 sb (s₆.toks + 1) (Nat.le_succ _)
    have mo7 := gr7.mono a6.g.sr (locals_fixed a6)
    exact ⟨μ₆, _, H₆, .ret bv, (((gr13.trans (Gw gr4)).trans gr5).trans gr6).trans gr7, g7, ⟨w, rfl, r6.mono S mo7⟩, q6⟩
end
end Mine
set_option maxRecDepth 10000
namespace Mine
open PySem PySem.Calls PyProof.Rows PySem.W

section
variable {S : Sx} {A : Around} {env : Env} {L : Addr} {Γ : FC} {n : Nat} {μ : List Addr} {H : AH} {s : Shared} {ρ : Lo} {κ : List Nat}

theorem st_seta2 (SVS : SV S) {ob : Nat → Scope → FuncBody → Bool} (hob : ∀ k sc b, ob k sc b = true → ob1 S.gname S.fns k sc b = true) {o o' x : X} {nm nm' : Nm} {v v' e : Expr} {p p1 p2 p3 : Pos} {kk : Nat} (ho : agX S.gname S.fns ob Γ o v = true) (ho' : agX S.gname S.fns ob Γ o' v' = true) (hx : agX S.gname S.fns ob Γ x e = true) (hc : tupConst e = false) :
    ExOk S L Γ env (.seta2 o nm o' nm' x) (.Assign [.Tuple [.Attribute v nm.str p1, .Attribute v' nm'.str p2] kk p3] e p) := by
  intro n A H Q E μ ρ κ s a q
  rw [ex] at q
  have hsw : swapsWithSole [.Tuple [.Attribute v nm.str p1, .Attribute v' nm'.str p2] kk p3] e p.line env = pure false := by
    show swapsWith e (some (.Tuple [.Attribute v nm.str p1, .Attribute v' nm'.str p2] kk p3)) p.line env = _
    cases e <;> rfl
  have hw : swappedStores [.Tuple [.Attribute v nm.str p1, .Attribute v' nm'.str p2] kk p3] e env = pure none := by
    rcases swap2 (env := env) (e1 := .Attribute v nm.str p1) (e2 := .Attribute v' nm'.str p2) (k := kk) (p := p3) hc with h | ⟨x, _, y, _, h, _⟩
    · exact h
    · cases h
  refine wpAny_Assign_stores (wpAny_mono (expr_sound SVS hob hx a q) (fun c s₁ x1 => ?_) fun _ _ x => x) hsw hw
  obtain ⟨μ₁, H₁, b, gr1, a1, r1, hn, vx, vy, hu, q⟩ := val_at a x1
  show wpAny _ _ (assign (.Tuple [.Attribute v nm.str p1, .Attribute v' nm'.str p2] kk p3) env c) _ _ _
  rw [arm_assign_Tuple]
  refine wpAny_bind (wpAny_standAt ?_)
  unfold unpack
  refine wpAny_bind (wpAny_holding (wpAny_mono (unpack_sound (k := 2) a1.g (a1.hh hn) r1 hu rfl) (fun cs s₂ ⟨h', e0, hk, u, rs⟩ => ?_) fun _ _ x => x))
  subst e0
  obtain ⟨c1, c2, rfl, r1, r2⟩ := rs.two_inv
  obtain ⟨a2, gr2⟩ := a1.keeps (tk := s₁.toks) hk u
  have grA := gr1.trans (Gw gr2)
  show wpAny _ _ (do holding _ (assign (.Attribute v nm.str p1) env c1); holding _ (assign (.Attribute v' nm'.str p2) env c2) >>= fun _ => pure ()) _ _ _
  have one : ∀ {μ : List Addr} {H : AH} {s : Shared} {o : X} {v : Expr} {nm : Nm} {p : Pos} {vx : V} {c1 : Value} {K : AH → Prop}, At S A env env L Γ n μ ρ κ H s → agX S.gname S.fns ob Γ o v = true → VR S μ s.heap vx c1 → ev S n ρ κ (E ρ) o false H (fun ov H => setaQ S ov nm vx H K) →
      wpAny (model S.prog S.w) A (assign (.Attribute v nm.str p) env c1) (fun _ s' => ∃ μ' H', At S A env env L Γ n μ' ρ κ H' s' ∧ Grow S [env.locals] μ μ' s s' ∧ K H') (PostX S A env L Γ n κ μ s E) s := by
    intro μ H s o v nm p vx c1 K a ho r q
    rw [arm_assign_Attribute]
    refine wpAny_bind (wpAny_holding (wpAny_mono (expr_sound SVS hob ho a q) (fun d s₂ x2 => ?_) fun _ _ x => x))
    obtain ⟨μ₂, H₂, b2, gr2, a2, r2, q⟩ := val_at a x2
    have mo2 : Mono μ μ₂ s.heap s₂.heap := gr2.mono a.g.sr (locals_fixed a)
    refine wpAny_bind (wpAny_standAt (wpAny_bind (wpAny_holding (wpAny_mono (setaQ_sound SVS a2.g r2 (r.mono S mo2) q) (fun _ s₄ ⟨μ₄, H₄, g4, gr4, q4⟩ => ?_) fun _ _ x => x))))
    exact wpAny_release ⟨μ₄, H₄, a2.grow gr4 g4, gr2.trans (Gw gr4), q4⟩
  refine wpAny_bind (wpAny_holding (wpAny_mono (one a2 ho (r1.grow a1.g gr2) q) (fun _ s₃ ⟨μ₃, H₃, a3, gr3, q⟩ => ?_) fun _ _ x => x.pre grA))
  have mo3 : Mono μ₁ μ₃ _ s₃.heap := gr3.mono a2.g.sr (locals_fixed a2)
  refine wpAny_bind (wpAny_holding (wpAny_mono (one a3 ho' ((r2.grow a1.g gr2).mono S mo3) q) (fun _ s₄ ⟨μ₄, H₄, a4, gr4, q⟩ => ?_) fun _ _ x => x.pre (grA.trans gr3)))
  exact wpAny_pure ⟨μ₄, ρ, H₄, .nrm, (grA.trans gr3).trans gr4, a4, rfl, q⟩

mutual
theorem st_sound (SVS : SV S) {ob : Nat → Scope → FuncBody → Bool} (hob : ∀ k sc b, ob k sc b = true → ob1 S.gname S.fns k sc b = true) (hnd : Γ.vars.Nodup) : ∀ (x : St) {st : Stmt}, agSt S.gname S.fns ob Γ x st = true → ExOk S L Γ env x st
  | .expr x, st, h => by
    unfold agSt at h; split at h
    · simp only [Bool.and_eq_true, Bool.not_eq_true'] at h; exact st_expr SVS hob h.1 h.2
    · cases h
  | .asg t x, st, h => by
    unfold agSt at h; split at h
    · simp only [Bool.and_eq_true, Bool.not_eq_true'] at h; exact st_asg SVS hob hnd h.1.1 h.1.2 h.2
    · cases h
  | .put o i x, st, h => by
    unfold agSt at h; split at h
    · simp only [Bool.and_eq_true] at h; exact st_put SVS hob h.1.1.1.1 h.1.1.1.2 h.1.1.2
    · cases h
  | .seta o a x, st, h => by
    unfold agSt at h; split at h
    · simp only [Bool.and_eq_true, beq_iff_eq] at h
      obtain ⟨⟨⟨h1, h2⟩, h3⟩, h4⟩ := h
      subst h2; exact st_seta SVS hob h1 h3
    · cases h
  | .seta2 o a o' a' x, st, h => by
    unfold agSt at h; split at h
    · simp only [Bool.and_eq_true, beq_iff_eq, Bool.not_eq_true'] at h
      obtain ⟨⟨⟨⟨⟨⟨h1, h2⟩, h3⟩, h4⟩, h5⟩, h6⟩, h7⟩ := h
      subst h2 h4; exact st_seta2 SVS hob h1 h3 h5 h6
    · cases h
  | .sup i x, st, h => by
    unfold agSt at h; cases h
  | .aug i op x, st, h => by
    unfold agSt at h; split at h
    · simp only [Bool.and_eq_true, beq_iff_eq] at h
      obtain ⟨⟨⟨h1, h2⟩, h3⟩, h4⟩ := h
      subst h3; exact st_aug SVS hob hnd h1 h2 h4
    · cases h
  | .ifs c a b, st, h => by
    unfold agSt at h; split at h
    · simp only [Bool.and_eq_true] at h
      exact st_ifs SVS hob h.1.1 (exs_sound SVS hob hnd a h.1.2) (exs_sound SVS hob hnd b h.2)
    · cases h
  | .whl c b, st, h => by
    unfold agSt at h; split at h
    · simp only [Bool.and_eq_true] at h
      exact st_whl SVS hob h.1 (exs_sound SVS hob hnd b h.2)
    · cases h
  | .for_ t it b, st, h => by
    unfold agSt at h; split at h
    · simp only [Bool.and_eq_true] at h
      exact st_for SVS hob hnd h.1.1 h.1.2 (exs_sound SVS hob hnd b h.2)
    · cases h
  | .ret x, st, h => by
    unfold agSt at h; split at h
    · exact st_ret SVS hob h
    · cases h
  | .raise x, st, h => by
    unfold agSt at h; split at h
    · exact st_raise SVS hob h
    · cases h
  | .try_ b k i hb, st, h => by
    unfold agSt at h; split at h
    · simp only [Bool.and_eq_true, beq_iff_eq, Bool.not_eq_true'] at h
      obtain ⟨⟨⟨⟨⟨⟨⟨h1, h2⟩, h3⟩, h4⟩, h5⟩, h6⟩, h7⟩, h8⟩ := h
      exact st_try SVS hob hnd (exs_sound SVS hob hnd b h1) h2 h3 (name_eq h4) h5 h6 h7 h8
    · cases h
  | .def_ t k, st, h => by
    unfold agSt at h; split at h
    · simp only [Bool.and_eq_true] at h
      refine st_def SVS hnd h.1 ?_
      have h2 := h.2
      simp only [agFn, Bool.and_eq_true] at h2 ⊢
      obtain ⟨⟨⟨⟨⟨⟨⟨⟨⟨⟨⟨⟨⟨h1, h2⟩, h3⟩, h4⟩, h5⟩, h6⟩, h7⟩, h8⟩, h9⟩, h10⟩, h11⟩, h12⟩, h13⟩, h14⟩ := h2
      exact ⟨⟨⟨⟨⟨⟨⟨⟨⟨⟨⟨⟨⟨hob _ _ _ h1, h2⟩, h3⟩, h4⟩, h5⟩, h6⟩, h7⟩, h8⟩, h9⟩, h10⟩, h11⟩, h12⟩, h13⟩, h14⟩
    · cases h
  | .brk, st, h => by
    unfold agSt at h; split at h
    · exact st_brk
    · cases h
  | .cont, st, h => by
    unfold agSt at h; split at h
    · exact st_cont
    · cases h
  | .pass, st, h => by
    unfold agSt at h; split at h
    · exact st_pass
    · cases h
theorem exs_sound (SVS : SV S) {ob : Nat → Scope → FuncBody → Bool} (hob : ∀ k sc b, ob k sc b = true → ob1 S.gname S.fns k sc b = true) (hnd : Γ.vars.Nodup) : ∀ (xs : SL) {ss : List Stmt}, agSL S.gname S.fns ob Γ xs ss = true → ExsOk S L Γ env xs ss
  | .nil, ss, h => by
    unfold agSL at h
    rw [List.isEmpty_iff] at h
    subst h; exact exs_nil
  | .cons x r, ss, h => by
    unfold agSL at h; split at h
    · rename_i st0 rest
      rw [Bool.and_eq_true] at h
      have h1 : ExOk S L Γ env x st0 := st_sound SVS hob hnd x h.1
      have h2 : ExsOk S L Γ env r rest := exs_sound SVS hob hnd r h.2
      exact exs_cons h1 h2
    · cases h
end
end
end Mine
set_option maxRecDepth 10000
namespace Mine
open PySem PySem.Calls PyProof.Rows PySem.W

/-! ## The cells of a function's own -/
def ownOf (names : List (Str × NameKind)) : List Str := (names.filter (·.2 == .cell)).map (·.1)

theorem mem_ownOf {names : List (Str × NameKind)} {x : Str} (h : x ∈ ownOf names) : x ∈ names.map (·.1) := by
  obtain ⟨p, hp, rfl⟩ := List.mem_map.mp h
  exact List.mem_map_of_mem (List.mem_filter.mp hp).1

theorem lookup_ne {α : Type} {l : List (Str × α)} {x y : Str} {a : α} (h : x ≠ y) : ((y, a) :: l).lookup x = l.lookup x := by
  rw [List.lookup_cons]
  have : (x == y) = false := by simpa using h
  rw [this]
theorem lookup_eq {α : Type} {l : List (Str × α)} {x : Str} {a : α} : ((x, a) :: l).lookup x = some a := by
  rw [List.lookup_cons]
  have : (x == x) = true := by simp
  rw [this]

section
variable {S : Sx} {B : Around} {E : Value → Shared → Prop}
theorem lay_sound (f : Str × NameKind → List (Str × Addr) → Sem (ForInStep (List (Str × Addr))))
    (hf : ∀ name kind cells, f (name, kind) cells = if kind == .cell then (do let a ← alloc { cls := .type "cell", data := .cell none }; pure (.yield ((name, a) :: cells))) else pure (.yield cells)) :
    ∀ (names : List (Str × NameKind)) (acc : List (Str × Addr)) (μ : List Addr) (H : AH) (s : Shared) (Q : List (Str × Addr) → Shared → Prop), Good S μ H s → (names.map (·.1)).Nodup →
      (∀ acc' ν s', Grow S [] μ (μ ++ ν) s s' → Good S (μ ++ ν) (H ++ (ownOf names).map fun _ => .cell none) s' → (∀ b o, s.heap.get? b = some o → s'.heap.get? b = some o) →
        (∀ (i : Nat) (x : Str), (ownOf names)[i]? = some x → ∃ a, ν[i]? = some a ∧ acc'.lookup x = some a) → (∀ x, x ∉ ownOf names → acc'.lookup x = acc.lookup x) → Q acc' s') →
      wpAny (model S.prog S.w) B (forIn names acc f) Q E s
  | [], acc, μ, H, s, Q, g, _, h => by
    rw [List.forIn_nil]
    refine wpAny_pure (h acc [] s (by rw [List.append_nil]; exact .refl ..) (by simpa [ownOf] using g) (fun _ _ e => e) (fun i x q => ?_) fun _ _ => rfl)
    simp [ownOf] at q
  | (name, kind) :: r, acc, μ, H, s, Q, g, nd, h => by
    rw [List.forIn_cons, hf]
    rw [List.map_cons, List.nodup_cons] at nd
    by_cases hk : (kind == NameKind.cell) = true
    · rw [if_pos hk]
      have ho : ownOf ((name, kind) :: r) = name :: ownOf r := by simp [ownOf, List.filter_cons, hk]
      rw [ho] at h
      refine wpAny_bind (wpAny_bind (wpAny_alloc (wpAny_pure ?_)))
      have g1 := g.alloc { cls := .type "cell", data := .cell none } (.cell none) ⟨g.base_new, none, Heap.get?_push_size _ rfl, rfl⟩
      refine lay_sound f hf r _ _ _ _ Q g1 nd.2 fun acc' ν s' gr g' kp lk out => ?_
      refine h acc' (s.heap.objs.size :: ν) s' ?_ ?_ (fun b o e => kp b o (Heap.get?_push_of_some _ e)) (fun i x q => ?_) fun x hx => ?_
      · have := (Grow.alloc (S := S) (W := []) (μ := μ) (s := s) { cls := .type "cell", data := .cell none }).trans gr
        simpa using this
      · simpa using g'
      · cases i with
        | zero =>
          cases q
          refine ⟨_, rfl, ?_⟩
          rw [out name fun hm => nd.1 (mem_ownOf hm)]
          exact lookup_eq
        | succ i => exact lk i x q
      · rw [out x fun hm => hx (List.mem_cons_of_mem _ hm)]
        exact lookup_ne fun z => hx (z ▸ List.mem_cons_self)
    · rw [if_neg hk]
      have ho : ownOf ((name, kind) :: r) = ownOf r := by simp [ownOf, List.filter_cons, hk]
      rw [ho] at h
      exact wpAny_bind (wpAny_pure (lay_sound f hf r acc μ H s Q g nd.2 h))
end

/-! ## Parameters -/
def ix : List Str → Str → Option Nat
  | [], _ => none
  | y :: r, x => if x = y then some 0 else (ix r x).map (· + 1)
theorem ix_some : ∀ {l : List Str} {x : Str} {i : Nat}, ix l x = some i → l[i]? = some x
  | y :: r, x, i, h => by
    unfold ix at h
    split at h
    · rename_i e; cases h; rw [e]; rfl
    · cases hr : ix r x with
      | none => rw [hr] at h; cases h
      | some j => rw [hr] at h; cases h; have := ix_some hr; simpa using this
theorem ix_none : ∀ {l : List Str} {x : Str}, ix l x = none → x ∉ l
  | [], x, _ => by simp
  | y :: r, x, h => by
    unfold ix at h
    split at h
    · cases h
    · rename_i e
      have : ix r x = none := by cases hr : ix r x with
        | none => rfl
        | some j => rw [hr] at h; cases h
      simp [e, ix_none this]

def ptOf (m : MF) : List (Option Nat × Option Nat) := m.params.map fun x => (ix m.vars x, ix m.own x)
def bindP (base : Nat) : List (Option Nat × Option Nat) → List V → Lo → AH → Lo × AH
  | (some i, _) :: r, v :: vs, ρ, H => bindP base r vs (ρ.set i (some v)) H
  | (none, some i) :: r, v :: vs, ρ, H => bindP base r vs ρ (H.set (base + i) (.cell (some v)))
  | _, _, ρ, H => (ρ, H)

theorem bindP_nil {base : Nat} {ρ : Lo} {H : AH} : ∀ l, bindP base l [] ρ H = (ρ, H)
  | [] => rfl
  | (some _, _) :: _ => rfl
  | (none, some _) :: _ => rfl
  | (none, none) :: _ => rfl

section
variable {S : Sx} {A B : Around} {env : Env} {L : Addr} {Γ : FC} {n : Nat} {μ : List Addr} {κ : List Nat} {E : Value → Shared → Prop}
theorem binds_sound {m : MF} {base : Nat} (hv : Γ.vars = m.vars) (hnd : Γ.vars.Nodup) (hcn : ∀ (i : Nat) (x : Str), m.own[i]? = some x → Γ.cn[i]? = some x) (hκ : ∀ i, i < m.own.length → κ[i]? = some (base + i))
    (f : Str × Value → PUnit → Sem (ForInStep PUnit)) (hf : ∀ n v u, f (n, v) u = (do storeName env n v; pure (.yield ⟨⟩))) :
    ∀ (ps : List Str) (vs : List V) (cs : List Value) (ρ : Lo) (H : AH) (s : Shared), At S A env env L Γ n μ ρ κ H s → VRs S μ s.heap vs cs →
      (∀ x ∈ ps, (∃ i, ix m.vars x = some i ∧ Γ.kind x = some .local) ∨ (ix m.vars x = none ∧ ∃ i, ix m.own x = some i ∧ Γ.kind x = some .cell)) → (∀ i, i < m.own.length → ∃ w, H[base + i]? = some (.cell w)) →
      wpAny (model S.prog S.w) B (forIn (ps.zip cs) PUnit.unit f) (fun _ s' => At S A env env L Γ n μ (bindP base (ps.map fun x => (ix m.vars x, ix m.own x)) vs ρ H).1 κ (bindP base (ps.map fun x => (ix m.vars x, ix m.own x)) vs ρ H).2 s' ∧ Grow S [env.locals] μ μ s s') E s
  | [], vs, cs, ρ, H, s, a, r, _, _ => by
    rw [List.zip_nil_left, List.forIn_nil]
    exact wpAny_pure ⟨by unfold bindP; exact a, .refl ..⟩
  | x :: ps, [], cs, ρ, H, s, a, r, _, _ => by
    rw [VRs] at r; subst r
    rw [List.zip_nil_right, List.forIn_nil]
    refine wpAny_pure ⟨?_, .refl ..⟩
    rw [bindP_nil]; exact a
  | x :: ps, v :: vs, cs, ρ, H, s, a, r, hk, hc => by
    rw [VRs] at r
    obtain ⟨c, cr, rfl, r1, r2⟩ := r
    rw [List.zip_cons_cons, List.forIn_cons, hf]
    rcases hk x List.mem_cons_self with ⟨i, hi, hx⟩ | ⟨hn, i, hi, hx⟩
    · refine wpAny_bind (wpAny_bind (wpAny_mono (a.store (i := i) (v := v) (by rw [hv]; exact ix_some hi) hx hnd r1) (fun _ s₁ ⟨a1, gr1⟩ => wpAny_pure ?_) fun _ _ z => z))
      refine wpAny_mono (binds_sound hv hnd hcn hκ f hf ps vs cr _ _ _ a1 (r2.mono S (gr1.mono a.g.sr (locals_fixed a))) (fun y hy => hk y (List.mem_cons_of_mem _ hy)) hc) (fun _ s₂ ⟨a2, gr2⟩ => ?_) fun _ _ z => z
      rw [List.map_cons, hi]
      simp only [bindP]
      exact ⟨a2, gr1.trans gr2⟩
    · have hlt := (List.getElem?_eq_some_iff.mp (ix_some hi)).1
      obtain ⟨w, hw⟩ := hc i hlt
      refine wpAny_bind (wpAny_bind (wpAny_mono (a.storeC (i := i) (v := v) (hcn i x (ix_some hi)) hx (hκ i hlt) hw r1) (fun _ s₁ ⟨a1, gr1⟩ => wpAny_pure ?_) fun _ _ z => z))
      refine wpAny_mono (binds_sound hv hnd hcn hκ f hf ps vs cr _ _ _ a1 (r2.grow a.g gr1) (fun y hy => hk y (List.mem_cons_of_mem _ hy)) (fun j hj => ?_)) (fun _ s₂ ⟨a2, gr2⟩ => ?_) fun _ _ z => z
      · by_cases hij : i = j
        · subst hij
          exact ⟨some v, by rw [List.getElem?_set_self (List.getElem?_eq_some_iff.mp hw).1]⟩
        · rw [List.getElem?_set_ne (by omega)]; exact hc j hj
      · rw [List.map_cons, hn, hi]
        simp only [bindP]
        exact ⟨a2, (gr1.weaken (by simp)).trans gr2⟩
end
end Mine
set_option maxRecDepth 10000
namespace Mine
open PySem PySem.Calls PyProof.Rows PySem.W

/-- what super().__init__(text) leans on -/
structure SupF (S : Sx) (fd : FuncData) : Prop where
  par : ∃ ar, (fd.params.posonlyargs ++ fd.params.args).head? = some ar ∧ ar.arg = ("self" : Str)
  code : ∃ cda oc vs file tf, fd.code = .ref cda ∧ S.base.get? cda = some oc ∧ oc.data = .fields vs ∧ vs[2]? = some (.str file tf) ∧ ((S.prog.main.file : Str) == file) = true
  cls : ∃ (cc : Addr) (occ : Obj) (D N : Addr) (nm q : Str) (bs bm : List Value) (hdct : Bool) (sn : List Str) (sub : List Value) (ab : Bool) (col : Option Bool) (dd : Option Addr) (k0 k1 k2 k3 k5 : Option Value) (newId newId' : String),
    fd.closure.lookup ("__class__" : Str) = some cc ∧ S.base.get? cc = some occ ∧ occ.data = .cell (some (.ref D)) ∧ S.base.get? D = some (excClassObj nm q D N bs bm hdct sn sub ab col dd k0 k1 k2 k3 k5 newId) ∧ ExcBaseFacts "ValueError" newId' "ValueError.__init__" bm ∧
      (∀ c C, S.gv c = .ref C → S.isE c = true → C = D) ∧ mroIn S.K D (.ref D) = some true ∧ alongIn S.K "__init__" bm = some (some (.builtin "ValueError.__init__"))
  opq : nsIn S.K cStatics "thirdparty.any" = some none
  name : S.mg "super" = none ∧ S.mb "super" = some (.type "super")
  top : (S.prog.main.scope.names.lookup ("super" : Str)).isSome = false

/-- a function's record, made in the run or laid by the top -/
structure FdR (S : Sx) (μ : List Addr) (h : Heap) (k : Nat) (cs : List Nat) (nest : Bool) (fd : FuncData) : Prop where
  glob : fd.globals = mainGlobals
  blt : fd.builtins = builtinsNs
  code : ∃ q, CodeR h fd.code q
  clo : ∀ (i : Nat) (x : Str), (S.fns k).free[i]? = some x → ∃ (j : Nat) (a : Addr), cs[i]? = some j ∧ fd.closure.lookup x = some a ∧ μ[j]? = some a
  fc : agFc S.fns k fd.scope = true
  sup : (startsSup (S.fns k).body).isSome = true → SupF S fd
  tab : nest = true → ∃ q ∈ S.tabs, fd.code = .ref q.1

theorem lookup_mem {α : Type} : ∀ {l : List (Str × α)} {x : Str} {a : α}, (l.map (·.1)).Nodup → (x, a) ∈ l → l.lookup x = some a
  | (y, b) :: r, x, a, nd, h => by
    rw [List.map_cons, List.nodup_cons] at nd
    rcases List.mem_cons.mp h with h' | h'
    · cases h'; exact lookup_eq
    · have hm := List.mem_map_of_mem (f := (·.1)) h'
      rw [lookup_ne (fun z => nd.1 (by rw [← z]; exact hm))]
      exact lookup_mem nd.2 h'
theorem mem_kind {names : List (Str × NameKind)} {kd : NameKind} {x : Str} (nd : (names.map (·.1)).Nodup) : x ∈ (names.filter (·.2 == kd)).map (·.1) ↔ names.lookup x = some kd := by
  constructor
  · intro h
    obtain ⟨⟨y, k⟩, hp, rfl⟩ := List.mem_map.mp h
    obtain ⟨h1, h2⟩ := List.mem_filter.mp hp
    have h3 : k = kd := by
      have h2' : (k == kd) = true := h2
      clear hp h h1 h2
      revert h2'
      cases k <;> cases kd <;> decide
    subst h3
    exact lookup_mem nd h1
  · intro h
    refine List.mem_map.mpr ⟨(x, kd), List.mem_filter.mpr ⟨mem_of_lookup h, ?_⟩, rfl⟩
    cases kd <;> rfl

theorem kind_free {names : List (Str × NameKind)} {x : Str} (nd : (names.map (·.1)).Nodup) (h : x ∈ (names.filter fun p => p.2 == .free && p.1 != ("__class__" : Str)).map (·.1)) : names.lookup x = some .free := by
  obtain ⟨p, hp, rfl⟩ := List.mem_map.mp h
  obtain ⟨h1, h2⟩ := List.mem_filter.mp hp
  rw [Bool.and_eq_true] at h2
  exact (mem_kind nd).mp (List.mem_map.mpr ⟨p, List.mem_filter.mpr ⟨h1, h2.1⟩, rfl⟩)

structure FcOk (m : MF) (sc : Scope) : Prop where
  kind : sc.kind = .function
  gen : sc.isGenerator = false
  cor : sc.isCoroutine = false
  vars : (sc.names.filter (·.2 == .local)).map (·.1) = m.vars
  own : ownOf sc.names = m.own
  free : (sc.names.filter fun p => p.2 == .free && p.1 != ("__class__" : Str)).map (·.1) = m.free
  nd : (sc.names.map (·.1)).Nodup
  par : ∀ x ∈ m.params, sc.names.lookup x = some .local ∨ sc.names.lookup x = some .cell
  pnd : m.params.Nodup
theorem fc_ok {fns : Nat → MF} {k : Nat} {sc : Scope} (h : agFc fns k sc = true) : FcOk (fns k) sc := by
  unfold agFc at h
  simp only [Bool.and_eq_true, Bool.not_eq_true', decide_eq_true_eq, List.all_eq_true, Bool.or_eq_true, beq_iff_eq] at h
  obtain ⟨⟨⟨⟨⟨⟨⟨⟨h1, h2⟩, h3⟩, h4⟩, h5⟩, h6⟩, h7⟩, h8⟩, h9⟩ := h
  refine ⟨?_, h2, h3, ?_, ?_, ?_, h7, fun x hx => h8 x hx, h9⟩
  · exact h1
  · rw [← h4]
  · rw [← h5]; rfl
  · rw [← h6]

theorem FcOk.vnd {m : MF} {sc : Scope} (x : FcOk m sc) : m.vars.Nodup := by
  rw [← x.vars]
  exact List.Sublist.nodup (List.Sublist.map _ List.filter_sublist) x.nd

theorem FcOk.pk {m : MF} {sc : Scope} (z : FcOk m sc) : ∀ x ∈ m.params, (∃ i, ix m.vars x = some i ∧ sc.names.lookup x = some .local) ∨ (ix m.vars x = none ∧ ∃ i, ix m.own x = some i ∧ sc.names.lookup x = some .cell) := by
  intro x hx
  rcases z.par x hx with h | h
  · refine .inl ?_
    have hm : x ∈ m.vars := by rw [← z.vars]; exact (mem_kind z.nd).mpr h
    cases hi : ix m.vars x with
    | none => exact absurd hm (ix_none hi)
    | some i => exact ⟨i, rfl, h⟩
  · refine .inr ⟨?_, ?_⟩
    · cases hi : ix m.vars x with
      | none => rfl
      | some i =>
        have hm : x ∈ m.vars := List.mem_of_getElem? (ix_some hi)
        rw [← z.vars] at hm
        have := (mem_kind z.nd).mp hm
        rw [h] at this; cases this
    · have hm : x ∈ m.own := by rw [← z.own]; exact (mem_kind z.nd).mpr h
      cases hi : ix m.own x with
      | none => exact absurd hm (ix_none hi)
      | some i => exact ⟨i, rfl, h⟩

def kap (m : MF) (base : Nat) (cs : List Nat) : List Nat := (List.range m.own.length).map (base + ·) ++ cs
theorem kap_own {m : MF} {base : Nat} {cs : List Nat} {i : Nat} (h : i < m.own.length) : (kap m base cs)[i]? = some (base + i) := by
  unfold kap
  rw [List.getElem?_append_left (by simpa using h)]
  simp [h]
theorem kap_free {m : MF} {base : Nat} {cs : List Nat} {i : Nat} (h : m.own.length ≤ i) : (kap m base cs)[i]? = cs[i - m.own.length]? := by
  unfold kap
  rw [List.getElem?_append_right (by simpa using h)]
  simp

section
variable {S : Sx} {A : Around} {n : Nat} {μ : List Addr} {H : AH} {s : Shared} {k : Nat} {cs : List Nat} {nest : Bool} {fd : FuncData}

theorem env_sound {E : Value → Shared → Prop} (ac : AC S A (n + 1) s.heap) (g : Good S μ H s) (F : FdR S μ s.heap k cs nest fd) {vs : List V} {cv : List Value} (r : VRs S μ s.heap vs cv) {q : Str} {self : Addr} :
    wpAny (model S.prog S.w) A.in1 (newFunctionEnv fd.scope fd.globals fd.closure ((S.fns k).params.zip cv) q (some self) fd.code none fd.builtins) (fun env s₁ => ∃ μ' L, Grow S [] μ μ' s s₁ ∧ s.heap.get? env.locals = none ∧ (env.func = some self ∧ env.code = fd.code ∧ ∀ x, x ∉ (S.fns k).own → env.cells.lookup x = fd.closure.lookup x) ∧
      At S (A.deeper env) env env L (fnFC S.fns k fd.scope nest) n μ' (bindP H.length (ptOf (S.fns k)) vs ((S.fns k).vars.map fun _ => none) (H ++ (S.fns k).own.map fun _ => .cell none)).1 (kap (S.fns k) H.length cs)
        (bindP H.length (ptOf (S.fns k)) vs ((S.fns k).vars.map fun _ => none) (H ++ (S.fns k).own.map fun _ => .cell none)).2 s₁) E s := by
  have z := fc_ok F.fc
  simp only [newFunctionEnv, Option.isSome_none, Bool.false_eq_true, if_false]
  refine wpAny_bind (wpAny_alloc ?_)
  have g0 := g.push { cls := .type "frame", data := .dict #[] }
  have gr0 : Grow S [] μ μ s { s with heap := s.heap.push { cls := .type "frame", data := .dict #[] } } := .push _
  refine wpAny_bind (lay_sound _ (fun name kind cells => by cases hkc : kind == NameKind.cell <;> simp [hkc]) _ _ μ H _ _ g0 z.nd fun acc ν s₁ gr1 g1 kp lk out => ?_)
  have hLget : s₁.heap.get? s.heap.objs.size = some { cls := .type "frame", data := .dict #[] } := kp _ _ (Heap.get?_push_size _ rfl)
  have hLs : s.heap.get? s.heap.objs.size = none := Heap.get?_none_of_le (Nat.le_refl _)
  have hLb : S.base.get? s.heap.objs.size = none := g.base_new
  have gr01 := gr0.trans gr1
  rw [z.own] at g1 lk out
  obtain ⟨out', f1, f2⟩ := ac.frames
  let env := newEnv fd.scope s.heap.objs.size fd.globals acc q (some self) fd.code none fd.builtins
  have at1 : At S (A.deeper env) env env s.heap.objs.size (fnFC S.fns k fd.scope nest) n (μ ++ ν) ((S.fns k).vars.map fun _ => none) (kap (S.fns k) H.length cs) (H ++ (S.fns k).own.map fun _ => .cell none) s₁ := by
    refine ⟨rfl, ⟨⟨out', ?_, ?_, ⟨_, _, _, _, rfl, hLb, hLget, rfl, rfl⟩, f2.grow g.sr gr01 (by simp)⟩, ?_, ?_, fun _ => ac.hand (by omega)⟩, ⟨z.kind, rfl, F.glob, F.blt, ⟨rfl, by intro w; cases w⟩, ⟨fun _ => none, ?_, fun i x _ => ?_⟩, ?_, ⟨hLb, _, hLget, .inl rfl, g1.sr.out hLget (not_mCls rfl (by decide) (by decide) (by decide) (by decide))⟩, fun i x hx => ?_, fun hn => F.tab hn⟩, g1, fun ⟨i, v, h⟩ => by
      rw [List.getElem?_map] at h
      cases hq : (S.fns k).vars[i]? <;> rw [hq] at h <;> cases h⟩
    · show A.frames.map (env :: ·) = some (env :: out')
      rw [f1]; rfl
    · show fd.scope.kind ≠ .module
      rw [z.kind]; decide
    · have := ac.depth
      show A.depth + 1 + n ≤ recursionLimit
      omega
    · have := ac.units
      show A.units + 3 + 9 * n + 400 < cLine
      omega
    · exact (Heap.Ns.new s.heap (.type "frame")).keeps kp
    · rw [List.getD_eq_getElem?_getD, List.getElem?_map]
      cases ((S.fns k).vars[i]?) <;> rfl
    · simp [fnFC]
    · by_cases hi : i < (S.fns k).own.length
      · have hx' : (S.fns k).own[i]? = some x := by
          have hx0 : ((S.fns k).own ++ (S.fns k).free)[i]? = some x := hx
          rwa [List.getElem?_append_left hi] at hx0
        obtain ⟨a, k1, k2⟩ := lk i x hx'
        refine ⟨_, a, kap_own hi, k2, ?_⟩
        rw [List.getElem?_append_right (by rw [g.sr.len]; omega), g.sr.len]
        rw [show H.length + i - H.length = i by omega]; exact k1
      · have hi' := Nat.le_of_not_lt hi
        have hx' : (S.fns k).free[i - (S.fns k).own.length]? = some x := by
          have hx0 : ((S.fns k).own ++ (S.fns k).free)[i]? = some x := hx
          rwa [List.getElem?_append_right hi'] at hx0
        obtain ⟨j, a, k1, k2, k3⟩ := F.clo _ x hx'
        refine ⟨j, a, by rw [kap_free hi']; exact k1, ?_, ?_⟩
        · show acc.lookup x = some a
          rw [out x fun hm => ?_]
          · exact k2
          · rw [← z.own] at hm
            have e1 := (mem_kind z.nd).mp hm
            have hm2 : x ∈ (S.fns k).free := List.mem_of_getElem? hx'
            rw [← z.free] at hm2
            have e2 := kind_free z.nd hm2
            rw [e1] at e2; cases e2
        · rw [List.getElem?_append_left (List.getElem?_eq_some_iff.mp k3).1]; exact k3
  refine wpAny_bind (wpAny_mono (binds_sound (m := S.fns k) (base := H.length) rfl z.vnd (fun i x hx => ?_) (fun i hi => kap_own hi) _ (fun _ _ _ => rfl) (S.fns k).params vs cv _ _ s₁ at1 (r.grow g gr01) z.pk (fun i hi => ?_)) (fun _ s₂ ⟨a2, gr2⟩ => ?_) fun _ _ w => w)
  · show ((S.fns k).own ++ (S.fns k).free)[i]? = some x
    rw [List.getElem?_append_left (List.getElem?_eq_some_iff.mp hx).1]; exact hx
  · refine ⟨none, ?_⟩
    rw [List.getElem?_append_right (by omega)]
    simp [hi]
  · exact wpAny_pure ⟨μ ++ ν, _, ((gr01.weaken (by simp)).trans gr2).drop hLs, hLs, ⟨rfl, rfl, out⟩, a2⟩
end
end Mine
set_option maxRecDepth 100000
namespace Mine
open PySem PySem.Calls PyProof.Rows PySem.W

abbrev tupObj (rest : List Value) : Obj := { cls := .type "tuple", data := .seq rest.toArray }
theorem slot_wd_get : Slot "wrapper_descriptor" "__get__" "wrapper_descriptor.__get__" := .of (owner := "wrapper_descriptor") (n := "__get__") (by rw [typeLookup_type, builtinLookup_eq_fast]; kernel_rfl) (by decide +kernel) (by decide +kernel) (by decide +kernel)
  (by first | exact .inl (by decide +kernel) | exact .inr (by decide +kernel)) (by rw [isSubtype_type]; kernel_rfl)
theorem entry_wd_get : entryFor table "wrapper_descriptor.__get__" = some Builtin.«wrapper_descriptor.__get__» := entryFor_of_tree (by kernel_rfl)
theorem args_wd_get (a b c : Value) : argsOk "wrapper_descriptor.__get__" ⟨[a, b, c], []⟩ := by unfold argsOk; kernel_rfl
theorem type_ve_init : typeOf (.builtin "ValueError.__init__") = pure (.type "wrapper_descriptor") := by show builtinType _ = _; rw [builtinType_eq_fast]; kernel_rfl
theorem canon_super_ga : (Manifest.canonical "super.__getattribute__" != "object.__getattribute__") = true := by decide +kernel

section
variable {prog : Program} {w : World} {A : Around} {E : Value → Shared → Prop} {h : Heap} {g : Array GenState} {d : Drawn} {t : Nat} {os : OsState}
variable {nm q : Str} {C N : Addr} {bs bm : List Value} {hdct : Bool} {sn : List Str} {sub : List Value} {ab : Bool} {col : Option Bool} {dd : Option Addr} {k0 k1 k2 k3 k5 : Option Value} {newId newId' : String}

theorem wd_get {x : Addr} {ox : Obj} {Q : Fin → Shared → Prop} (hC : h.get? C = some (excClassObj nm q C N bs bm hdct sn sub ab col dd k0 k1 k2 k3 k5 newId)) (hm : bm.contains (.type "ValueError") = true)
    (hx : h.get? x = some ox) (hxc : ox.cls = .ref C) (hq : Q (.done (.ret (.ref h.objs.size))) ⟨h.push { cls := .type "method-wrapper", data := .fields #[.builtin "ValueError.__init__", .ref x] }, g, d, t, os⟩) :
    wpAny (model prog w) A (Builtin.«wrapper_descriptor.__get__» ⟨[.builtin "ValueError.__init__", .ref x, .ref C], []⟩) Q E ⟨h, g, d, t, os⟩ := by
  have hcB : (Value.ref C :: bm).contains (.type "ValueError") = true := by rw [List.contains_cons, hm, Bool.or_true]
  have hsp : splitId "ValueError.__init__" = some ("ValueError", "__init__") := by decide +kernel
  unfold Builtin.«wrapper_descriptor.__get__»
  repeat (first | (with_reducible refine wpAny_loadPart_at hx ?_; rw [hxc]) | with_reducible refine wpAny_loadPart_at hC ?_ | (with_reducible refine wpAny_isSubtype_exc hC ?_; rw [hcB]) | wp_step)
  rw [show (".".intercalate ("ValueError.__init__".cutAt '.').dropLast) = "ValueError" by decide +kernel]
  repeat (first | (with_reducible refine wpAny_isSubtype_exc hC ?_; rw [hcB]) | (with_reducible refine wpAny_loadPart_at hx ?_; rw [hxc]) | with_reducible refine wpAny_loadPart_at hC ?_ | wp_step)
  exact hq

theorem super_ga {so x : Addr} {ox : Obj} {Q : Fin → Shared → Prop} {name : Str} {tk : Tok} (hC : h.get? C = some (excClassObj nm q C N bs bm hdct sn sub ab col dd k0 k1 k2 k3 k5 newId)) (hm : bm.contains (.type "ValueError") = true)
    (hso : h.get? so = some { cls := .type "super", dict := none, data := .fields #[.ref C, .ref x, .ref C], slots := #[] }) (hno : Looks (model prog w) h (opaqueClassAbove (.ref C)) none)
    {K : Frag} (X : K.In h) (hf : alongIn K name bm = some (some (.builtin "ValueError.__init__")))
    (hx : h.get? x = some ox) (hxc : ox.cls = .ref C) (hxC : x ≠ C) (hn : (name == ("__class__" : Str)) = false) (hq : Q (.done (.ret (.ref h.objs.size))) ⟨h.push { cls := .type "method-wrapper", data := .fields #[.builtin "ValueError.__init__", .ref x] }, g, d, t, os⟩) :
    wpAny (model prog w) A (Builtin.«super.__getattribute__» ⟨[.ref so, .str name tk], []⟩) Q E ⟨h, g, d, t, os⟩ := by
  have hlk := slot_wd_get.lookup
  have hne : (Value.ref x == Value.ref C) = false := by simp [hxC]
  have hTf : (⟨h, g, d, t, os⟩ : Shared).TypeIs (.builtin "ValueError.__init__") "wrapper_descriptor" := type_ve_init
  have hdt : ({ cls := .type "super", dict := none, data := .fields #[.ref C, .ref x, .ref C], slots := #[] } : Obj).data = .fields #[.ref C, .ref x, .ref C] := rfl
  have f0 : (#[.ref C, .ref x, .ref C] : Array Value)[0]? = some (.ref C) := rfl
  have f1 : (#[.ref C, .ref x, .ref C] : Array Value)[1]? = some (.ref x) := rfl
  have f2 : (#[.ref C, .ref x, .ref C] : Array Value)[2]? = some (.ref C) := rfl
  have hl : ((Value.ref C :: bm).dropWhile (· != .ref C)).drop 1 = bm := by
    rw [List.dropWhile_cons]; simp
  unfold Builtin.«super.__getattribute__»
  repeat (first
    | (with_reducible refine wpAny_field hso hdt f0 ?_) | (with_reducible refine wpAny_field hso hdt f1 ?_) | (with_reducible refine wpAny_field hso hdt f2 ?_)
    | (with_reducible refine ks_wpAny_notOpaque hno ?_)
    | (with_reducible refine wpAny_mroOf_exc hC ?_; rw [hl])
    | (refine ks_forIn_along X (fun _ _ => rfl) rfl ?_ hf)
    | (with_reducible refine wpAny_call_entry slot_wd_get hTf entry_wd_get ?_ (args_wd_get _ _ _))
    | (with_reducible refine wd_get hC hm hx hxc ?_)
    | (with_reducible refine ⟨_, rfl, ?_⟩)
    | (simp only [hn, hne, hxc, Bool.or_false, Bool.false_eq_true, if_false])
    | wp_step
    | dsimp only)
  all_goals exact hq

theorem getMethod_super {so x : Addr} {ox : Obj} {Q : Value × List Value → Shared → Prop} {name : Str} {pl : Sem Bool} (hC : h.get? C = some (excClassObj nm q C N bs bm hdct sn sub ab col dd k0 k1 k2 k3 k5 newId)) (hm : bm.contains (.type "ValueError") = true)
    (hso : h.get? so = some { cls := .type "super", dict := none, data := .fields #[.ref C, .ref x, .ref C], slots := #[] }) (hno : Looks (model prog w) h (opaqueClassAbove (.ref C)) none)
    {K : Frag} (X : K.In h) (hf : alongIn K name bm = some (some (.builtin "ValueError.__init__")))
    (hx : h.get? x = some ox) (hxc : ox.cls = .ref C) (hxC : x ≠ C) (hn : (name == ("__class__" : Str)) = false) (hq : Q (.ref h.objs.size, []) ⟨h.push { cls := .type "method-wrapper", data := .fields #[.builtin "ValueError.__init__", .ref x] }, g, d, t + 1, os⟩) :
    wpAny (model prog w) A (getMethod (.ref so) name pl) Q E ⟨h, g, d, t, os⟩ := by
  have hlk := F.ks_slot_super_ga.lookup
  have hcan := F.ks_canon_super_ga
  have hT : ∀ t', (⟨h, g, d, t', os⟩ : Shared).TypeIs (.ref so) "super" := fun _ => ⟨_, hso, rfl⟩
  unfold getMethod
  refine wpAny_bind (wpAny_specialOf (hT _) hlk ?_)
  show wpAny _ _ (if (Manifest.canonical "super.__getattribute__" != "object.__getattribute__") = true then _ else _) _ _ _
  rw [if_pos hcan]
  unfold getAttr getAttrBy
  refine wpAny_bind (wpAny_bind (wpAny_mkText (wpAny_holding (wpAny_bind (wpAny_typeOf (hT _) (wpAny_bind (wpAny_of_eq hlk ?_)))))))
  show wpAny _ _ (getAttrByItsOwn (.ref so) (.str name t) (.type "super") (.builtin "super.__getattribute__") true false) _ _ _
  unfold getAttrByItsOwn hookBefore callGetattribute boundAndCalled
  refine wpAny_bind (wpAny_of_eq (show (if onTheHeap (.type "super") then typeLookup (.type "super") "__getattr__" else pure none) = pure none from rfl) ?_)
  refine wpAny_bind (wpAny_attempt (wpAny_holding ?_))
  show wpAny _ _ (bindSpecial (.builtin "super.__getattribute__") (.ref so) >>= _) _ _ _
  refine wpAny_bind (wpAny_of_eq (F.ks_slot_super_ga.bind _) ?_)
  refine wpAny_mono (Q := fun v s' => v = .ref h.objs.size ∧ s' = ⟨h.push { cls := .type "method-wrapper", data := .fields #[.builtin "ValueError.__init__", .ref x] }, g, d, t + 1, os⟩) (E := fun _ _ => False)
    (wpAny_call_entry F.ks_slot_super_ga (hT _) F.ks_entry_super_ga (super_ga hC hm hso hno X hf hx hxc hxC hn ⟨_, rfl, rfl, rfl⟩) (F.ks_gaArgs_super _ _)) (fun v s' hv => ?_) fun _ _ z => z.elim
  obtain ⟨rfl, rfl⟩ := hv
  exact wpAny_pure (wpAny_pure hq)

theorem exc_init {x t0 : Addr} {ox : Obj} {vs : Array Value} {rest : List Value} {Q : Fin → Shared → Prop} (hx : h.get? x = some ox) (hd : ox.data = .fields vs) (h0 : vs[0]? = some (.ref t0)) (hrest : rest.length ≤ sizeLine)
    (hq : Q (.done (.ret .none)) ⟨(h.push { cls := .type "tuple", data := .seq rest.toArray }).update x (Obj.mapFields (·.setIfInBounds 0 (.ref h.objs.size))), g, d, t, os⟩) :
    wpAny (model prog w) A (Builtin.«BaseException.__init__» ⟨.ref x :: rest, []⟩) Q E ⟨h, g, d, t, os⟩ := by
  unfold Builtin.«BaseException.__init__»
  dsimp only
  rw [if_neg (by simp)]
  unfold newTuple Builtin.BaseException.bexcPut
  have hsz : 0 < vs.size := (Array.getElem?_eq_some_iff.mp h0).1
  have he₁ := Heap.get?_push_of_some (h := h) { cls := .type "tuple", data := .seq rest.toArray } hx
  refine wpAny_bind (wpAny_newObj_type (wpAny_bind (wpAny_bind (wpAny_field he₁ hd h0 (wpAny_bind (wpAny_setField he₁ hd hsz ?_))))) (by show rest.toArray.size ≤ sizeLine; rw [List.size_toArray]; exact hrest))
  exact wpAny_letGo (wpAny_pure hq)

theorem call_mw {x t0 b : Addr} {ox : Obj} {vs : Array Value} {rest : List Value} {Q : Value → Shared → Prop} (F : ExcBaseFacts "ValueError" newId' "ValueError.__init__" bm) (hC : h.get? C = some (excClassObj nm q C N bs bm hdct sn sub ab col dd k0 k1 k2 k3 k5 newId))
    (hb : h.get? b = some { cls := .type "method-wrapper", data := .fields #[.builtin "ValueError.__init__", .ref x] }) (hx : h.get? x = some ox) (hxc : ox.cls = .ref C) (hd : ox.data = .fields vs) (h0 : vs[0]? = some (.ref t0)) (hrest : rest.length ≤ sizeLine)
    (hq : Q .none ⟨(h.push { cls := .type "tuple", data := .seq rest.toArray }).update x (Obj.mapFields (·.setIfInBounds 0 (.ref h.objs.size))), g, d, t, os⟩) :
    wpAny (model prog w) A (call (.ref b) rest) Q E ⟨h, g, d, t, os⟩ := by
  refine wpAny_call (codeAny_of_tree ?_)
  show wpAny _ _ (callAny (.ref b) _) _ _ _
  unfold callAny
  refine wpAny_bind (wpAny_load hb ?_)
  dsimp only
  have hshort := F.noStar
  have hcB : (Value.ref C :: bm).contains (.type "ValueError") = true := by rw [List.contains_cons, F.hasB, Bool.or_true]
  simp only [checkBoundCall, F.initKind, F.initSplit, F.initRow]
  repeat (first | (with_reducible refine wpAny_loadPart_at hx ?_; rw [hxc]) | with_reducible refine wpAny_loadPart_at hC ?_ | (with_reducible refine wpAny_isSubtype_exc hC ?_; rw [hcB]) | wp_step)
  refine wpAny_onRaise ?_
  rw [show ∀ (a b : String) (n : Nat) (l : List (Str × Value)), l = [] → Bind.check ⟨.positional, "*", "ValueError", .self, [⟨"args", .varPos, false⟩]⟩ a b n (List.map (fun x => x.fst) l) = pure () from
    fun a b n l hl => by subst hl; exact check_star_args _ _ _ _ _ _]
  · refine wpAny_pure (wpAny_pure ⟨Code.quiet_builtin _ (by decide +kernel), codeAny_builtin F.initEntry ?_⟩)
    exact exc_init hx hd h0 hrest hq
  · rfl
end
end Mine
set_option maxRecDepth 10000
namespace Mine
open PySem PySem.Calls PyProof.Rows PySem.W

section
variable {S : Sx} {A : Around} {env : Env} {L : Addr} {Γ : FC} {n : Nat} {μ : List Addr} {H : AH} {s : Shared} {ρ : Lo} {κ : List Nat}

theorem meth_evalAt {M : Model} {c : Code} {E : Value → Shared → Prop} {o : Expr} {name : Str} {apos pos : Pos} {es : List Expr} {Q : Value → Shared → Prop} (hl : (apos.endLine == pos.line) = true) (hn : es.length < 28)
    (hp : (backTo pos (starEach es env)).all (fun x => !x.1) = true)
    (h : PySem.wpAt M A c (attributeBase o name env (eval o env)) (fun ov s₁ => ∀ pl, wpAny M A (getMethod ov name pl) (fun fx s₂ => wpAny M A (callWith pos fx.1 fx.2 (backTo pos (starEach es env)) []) Q E s₂) E s₁) E s) :
    PySem.wpAt M A c (eval (.Call (.Attribute o name apos) es [] pos) env) Q E s := by
  rw [arm_eval_Call]
  refine PySem.wpAt_bind (PySem.ks_wpAt_mono h (fun ov s₁ h₁ => PySem.wpAt_of_wpAny ?_) fun _ _ x => x)
  refine wpAny_bind (wpAny_standAt ?_)
  have hform : methodCallForm (es.length + ([] : List Keyword).length) (backTo pos (starEach es env)) (backToKw pos (keywordEach [] env)) = true := by
    unfold methodCallForm
    rw [hp]
    simp [backToKw, keywordEach]; omega
  have hpos : methodCallPos true o env apos pos = pure pos := by unfold methodCallPos; simp [hl]
  unfold methodCall
  rw [hform]
  refine wpAny_bind (wpAny_holding (wpAny_mono (h₁ _) (fun fx s₂ h₂ => ?_) fun _ _ x => x))
  exact wpAny_bind (wpAny_of_eq hpos h₂)

theorem keep_mw {h : Heap} {a : Addr} {vs : Array Value} (e : h.get? a = some { cls := .type "method-wrapper", data := .fields vs }) : KeepOk S h (.ref a) :=
  ⟨.machine, .inr (.inl rfl), fun A Q E s k q => by
    unfold keeperOf
    refine wpAny_bind (wpAny_load (k _ _ e) ?_)
    exact wpAny_pure q⟩

theorem st_sup (SVS : SV S) {ob : Nat → Scope → FuncBody → Bool} (hob : ∀ k sc b, ob k sc b = true → ob1 S.gname S.fns k sc b = true) {i : Nat} {x : X} {st : Stmt} (hag : agSup S.gname S.fns ob Γ i x st = true) {fd : FuncData} (F : SupF S fd)
    {f : Addr} {of : Obj} (hf : s.heap.get? f = some of) (hfd : of.data = .func fd) (hfu : env.func = some f) (hco : env.code = fd.code) (hcl : env.cells.lookup ("__class__" : Str) = fd.closure.lookup ("__class__" : Str)) {body : List Stmt}
    {Q : QS} {E : ES} (a : At S A env env L Γ n μ ρ κ H s) (q : ex S κ (.sup i x) n ρ H Q E) :
    PySem.wpAt (model S.prog S.w) A (.func body env) (exec st env) (PostS S A env L Γ n κ μ s Q) (PostX S A env L Γ n κ μ s E) s := by
  unfold agSup at hag
  split at hag
  case h_2 => cases hag
  simp only [Bool.and_eq_true, beq_iff_eq] at hag
  obtain ⟨⟨⟨⟨⟨⟨⟨h1, h2⟩, h3⟩, h4⟩, h5⟩, h6⟩, h7⟩, h8⟩ := hag
  subst h1 h2
  rw [ex] at q
  obtain ⟨j, c, args, d, fr, hρ, hj, hE, q⟩ := q
  obtain ⟨ar, p1, p2⟩ := F.par
  obtain ⟨cda, oc, vsc, file, tf, c1, c2, c3, c4, c5⟩ := F.code
  obtain ⟨cc, occ, D, N, nm, qn, bs, bm, hdct, sn, sub, ab, col, dd, k0, k1, k2, k3, k5, newId, newId', d1, d2, d3, d4, FE, d6, d7, d8⟩ := F.cls
  -- the exception
  have hgj : ∃ xa, μ[j]? = some xa ∧ (∃ m, s.heap.Ns env.locals m ∧ m ("self" : Str) = some (.ref xa)) := by
    obtain ⟨m, hn, hv⟩ := a.fr.ns
    have := hv i _ h5
    rw [List.getD_eq_getElem?_getD, hρ] at this
    obtain ⟨cv, e1, r⟩ := this
    obtain ⟨xa, rfl, hx⟩ := r.rr_inv
    exact ⟨xa, hx, m, hn, e1⟩
  obtain ⟨xa, hxa, m, hns, hself⟩ := hgj
  obtain ⟨hb0, C, vs, t0, sl, dd0, g1, g2, g3, g4, g5, g6, g7⟩ := a.g.sr.obj j _ xa hj hxa
  have hCD := d6 c C g1 hE
  subst hCD
  have hDs : s.heap.get? C = some _ := a.g.inv.stay _ _ d4
  have X := Good.kin SVS a.g
  have hxD : xa ≠ C := fun z => by rw [z, hDs] at g2; cases g2
  refine PySem.ks_wpAt_Expr_any ?_ (not_inter a) (swaps_none rfl)
  refine meth_evalAt (by rw [beq_iff_eq]; exact h8) (by simp) ?_ ?_
  · rw [agX_star h7]; rfl
  refine PySem.ks_wpAt_super_base (fd := fd) ((kindOf_eq a _).trans h3) ((kindOf_eq a _).trans h4) rfl hfu hf hfd p1 (hco.trans c1) (a.g.inv.stay _ _ c2) c3 c4 c5 F.top ?_
  refine ks_loadName_global a.fr.kind ((kindOf_eq a _).trans h3) (load_name SVS a (.inr F.name) ⟨rfl, ?_⟩)
  refine wpAny_loadName_free a.fr.kind ((kindOf_eq a _).trans h4) (hcl.trans d1) ⟨occ, a.g.inv.stay _ _ d2, d3⟩ ?_
  rw [p2]
  refine wpAny_loadName_local a.fr.kind ((kindOf_eq a _).trans h6) hns hself ?_
  obtain ⟨hh, gs, dr, tk, os⟩ := s
  refine ks_wpAny_isType_cls hDs rfl ⟨rfl, ?_⟩
  refine wpAny_ups (ks_wpAny_call_super (h := hh) hDs rfl g2 rfl (fun c e => by cases e) (looks_mroIn X d7) fun h1 e1 kp1 up1 => ?_)
  intro pl
  -- the super object
  obtain ⟨gA, grA⟩ := a.g.quiet (h' := h1) (tk := tk) (fun a _ o h => kp1 a o h) (fun b o h _ => ⟨o, kp1 b o h, .refl o⟩) (fun b o h => kp1 b o (a.g.inv.stay b o h)) (fun q hq => by
    obtain ⟨ps, e, _⟩ := a.g.inv.tabs q hq
    exact (kp1 _ _ e).trans e.symm) up1
  have X1 : S.K.In h1 := fun b o h => kp1 b o (X b o h)
  refine getMethod_super (name := "__init__") (kp1 _ _ hDs) (FE.hasB) e1 (looks_opaque X1 F.opq) X1 d8 (kp1 _ _ g2) rfl hxD (by decide) ?_
  have gB := (gA.push { cls := .type "method-wrapper", data := .fields #[.builtin "ValueError.__init__", .ref xa] }).toks (tk + 1)
  have grB : Grow S [] μ μ ⟨hh, gs, dr, tk, os⟩ ⟨h1.push { cls := .type "method-wrapper", data := .fields #[.builtin "ValueError.__init__", .ref xa] }, gs, dr, tk + 1, os⟩ :=
    (grA.trans (Grow.push _)).trans (.toks (tk + 1) (Nat.le_succ _))
  have aB := a.grow grB gB
  have hmw : (h1.push { cls := .type "method-wrapper", data := .fields #[.builtin "ValueError.__init__", .ref xa] }).get? h1.objs.size = some { cls := .type "method-wrapper", data := .fields #[.builtin "ValueError.__init__", .ref xa] } := Heap.get?_push_at rfl rfl
  have hall : EvAll S A env L n Γ env (.cons x .nil) [_] := .cons (ev_sound SVS hob x h7) (agX_star h7) .nil
  refine wpAny_mono (callWith_sound (Q := fun r H' => r = .nn ∧ Q .nrm ρ H') (E := E ρ) (Ql := fun vs H' => match vs with
    | [v] => ∃ x args d fr, v = .ss x ∧ H'[j]? = some (.exc c args d fr) ∧ Q .nrm ρ (H'.set j (.exc c [v] d fr))
    | _ => False) hall aB q fun cs vs2 μ2 s2 H2 gr2 g2' r2 q2 => ?_) (fun v s' x2 => ?_) fun e s' x2 => ?_
  · obtain ⟨v, rfl⟩ : ∃ v, vs2 = [v] := by
      rcases vs2 with _ | ⟨v, _ | ⟨_, _⟩⟩
      · exact q2.elim
      · exact ⟨v, rfl⟩
      · exact q2.elim
    obtain ⟨xx, args', d', fr', rfl, hj', q2⟩ := q2
    obtain ⟨c1, rfl, rv⟩ := r2.one_inv
    obtain ⟨o', e', sm⟩ := gr2.keep _ _ hmw (by simp) (gB.sr.out hmw (not_mCls rfl (by decide) (by decide) (by decide) (by decide))) (not_loose rfl (by decide))
    rw [sm.eq (by intro z; injection z with z; exact absurd z (by decide))] at e'
    refine ⟨keep_mw e', ?_⟩
    have hxa2 : μ2[j]? = some xa := gr2.at hxa
    obtain ⟨hb0, C', vs', t0', sl', dd', g1', gg2, gg3, gg4, gg5, gg6, gg7⟩ := g2'.sr.obj j _ xa hj' hxa2
    rw [g1] at g1'; cases g1'
    rw [VR] at gg5
    obtain ⟨ta, to, tcs, tn, rfl, _⟩ := gg5
    have hD2 : s2.heap.get? C = some _ := g2'.inv.stay _ _ d4
    obtain ⟨hh2, gs2, dr2, tk2, os2⟩ := s2
    refine call_mw FE hD2 e' gg2 rfl rfl gg4 (by rw [sizeLine_eq]; simp) ?_
    have g3 := g2'.push (tupObj [c1])
    have gr3 : Grow S [] μ2 μ2 _ _ := Grow.push (S := S) (W := []) (μ := μ2) (s := ⟨hh2, gs2, dr2, tk2, os2⟩) (tupObj [c1])
    have hx3 := Heap.get?_push_of_some (h := hh2) (tupObj [c1]) gg2
    have ht3 : (hh2.push (tupObj [c1])).get? hh2.objs.size = some (tupObj [c1]) := Heap.get?_push_size _ rfl
    have sb : Heap.SameBut xa (hh2.push (tupObj [c1])) ((hh2.push (tupObj [c1])).update xa (Obj.mapFields (·.setIfInBounds 0 (.ref hh2.objs.size)))) := .update ..
    have e4 := Heap.get?_update_self (h := hh2.push (tupObj [c1])) (Obj.mapFields (·.setIfInBounds 0 (Value.ref hh2.objs.size))) hx3 (by rw [fields_upd rfl]; rfl)
    rw [fields_upd rfl] at e4
    have st := still_sameBut hx3 (.inr (.inr (.inr (.inr ⟨C, rfl⟩)))) sb
    have mo : Mono μ2 μ2 hh2 ((hh2.push (tupObj [c1])).update xa (Obj.mapFields (·.setIfInBounds 0 (.ref hh2.objs.size)))) := (gr3.mono g2'.sr (by simp)).trans (st.mono fun _ _ z => z)
    have hsz : 0 < vs'.size := by omega
    obtain ⟨g4, gr4⟩ := g3.set (o' := .exc c [.ss xx] d' fr') hxa2 hx3 e4 rfl hb0 sb ⟨hb0, C, _, .ref hh2.objs.size, _, _, g1, e4, by simpa using gg3, by
      rw [Array.getElem?_setIfInBounds_self_of_lt hsz], by
      rw [VR]
      exact ⟨_, _, #[c1], _, rfl, (sb.2 _ (fun z => by rw [z, hx3] at ht3; injection ht3 with ht3; injection ht3 with z1; cases z1)).trans ht3, rfl, rfl, (VRs.one S rv).mono S mo⟩, fun z => by
      rw [Array.getElem?_setIfInBounds_ne (by decide)]; exact gg6 z, gg7⟩ tk2 (Nat.le_refl _)
    exact ⟨μ2, _, .nn, gr3.trans gr4, g4, .nn, rfl, q2⟩
  · obtain ⟨μ3, H3, b, gr3, g3, r3, rfl, q3⟩ := x2
    exact ⟨μ3, ρ, H3, .nrm, Gw (grB.trans gr3), aB.grow gr3 g3, rfl, q3⟩
  · exact (PostX.ofE aB x2).pre (Gw grB)
end
end Mine
set_option maxRecDepth 10000
namespace Mine
open PySem PySem.Calls PyProof.Rows PySem.W

/-! ## Arguments of exact number -/
theorem fm_congr {α β : Type} {f g : α → Option β} : ∀ {l : List α}, (∀ x ∈ l, f x = g x) → l.filterMap f = l.filterMap g
  | [], _ => rfl
  | x :: r, h => by
    rw [List.filterMap_cons, List.filterMap_cons, h x List.mem_cons_self, fm_congr fun y hy => h y (List.mem_cons_of_mem _ hy)]
theorem zip_look : ∀ {ps : List Str} {cv : List Value}, ps.Nodup → cv.length = ps.length →
    ps.filterMap (fun n => ((ps.zip cv).lookup n).map (n, ·)) = ps.zip cv ∧ ∀ n ∈ ps, ((ps.zip cv).lookup n).isNone = false
  | [], cv, _, _ => ⟨rfl, fun _ h => nomatch h⟩
  | x :: ps, [], _, h => by simp at h
  | x :: ps, c :: cv, nd, h => by
    rw [List.nodup_cons] at nd
    obtain ⟨h1, h2⟩ := zip_look nd.2 (Nat.succ.inj h)
    have hne : ∀ n ∈ ps, (((x, c) :: ps.zip cv).lookup n) = (ps.zip cv).lookup n := fun n hn => lookup_ne fun z => nd.1 (z ▸ hn)
    constructor
    · rw [List.zip_cons_cons, List.filterMap_cons, lookup_eq]
      simp only [Option.map_some]
      have h5 : ps.filterMap (fun n => (((x, c) :: ps.zip cv).lookup n).map (n, ·)) = ps.filterMap (fun n => ((ps.zip cv).lookup n).map (n, ·)) := fm_congr fun n hn => by rw [hne n hn]
      rw [h5, h1]
    · intro n hn
      rw [List.zip_cons_cons]
      rcases List.mem_cons.mp hn with rfl | hn
      · rw [lookup_eq]; rfl
      · rw [hne n hn]; exact h2 n hn

theorem seqItems_none : seqItems? .none = pure none := rfl

theorem bind_exact {fd : FuncData} {cv : List Value} {ps : List Str} (h0 : fd.params.posonlyargs = []) (h1 : fd.params.args.map (·.arg) = ps) (h2 : fd.params.vararg = none) (h3 : fd.params.kwonlyargs = []) (h4 : fd.params.kwarg = none)
    (hd : fd.defaults = .none) (nd : ps.Nodup) (hl : cv.length = ps.length) : bindArgs fd ⟨cv, []⟩ = pure (ps.zip cv) := by
  obtain ⟨z1, z2⟩ := zip_look nd hl
  have hm : (ps.filter fun n => ((ps.zip cv).lookup n).isNone) = [] := by
    rw [List.filter_eq_nil_iff]
    intro n hn
    rw [z2 n hn]; decide
  have hgt : ¬ (ps.length > ps.length) := by omega
  simp only [bindArgs, h0, h1, h2, h3, h4, hd, seqItems_none, List.map_nil, List.nil_append, List.forIn_nil, List.append_nil, pure_bind, Option.getD_none, List.length_nil, Nat.sub_zero, hl, hgt, Option.isNone_none, if_false, decide_false, Bool.false_and, Bool.false_eq_true,
    List.drop_nil, Nat.zero_sub, List.take_length, hm, List.isEmpty_nil, Bool.not_true, List.zip_nil_right, z1]

section
variable {prog : Program} {w : World} {A : Around} {R : Result → Shared → Prop} {s : Shared}
def codeOf (b : FuncBody) (env : Env) : Code := match b with
  | .stmts b => .func b env
  | .expr e => .expr e env
theorem codeAny_callF {a : Addr} {args : Args} {o : Obj} {fd : FuncData} {q : Str} (hroom : A.depth < recursionLimit)
    (ho : s.heap.get? a = some o) (hd' : o.data = .func fd) (hco : fd.scope.isCoroutine = false) (hgen : fd.scope.isGenerator = false) (hcd : CodeR s.heap fd.code q)
    (h : wpAny (model prog w) A.in1 (bindArgs fd args) (fun binds s₁ =>
      wpAny (model prog w) A.in1 (newFunctionEnv fd.scope fd.globals fd.closure binds (q ++ ".<locals>.") (some a) fd.code none fd.builtins)
        (fun env s₂ => s₂.heap.NoLimit ∧ codeAny (model prog w) A (codeOf fd.body env) R s₂) (fun e s' => R (.error e) s') s₁) (fun e s' => R (.error e) s') s) :
    codeAny (model prog w) A (.call (.ref a) args) R s := by
  refine codeAny_of_tree ?_
  show wpAny _ A.in1 (callAny (.ref a) args) _ _ s
  simp only [callAny]
  refine wpAny_bind (wpAny_load ho ?_)
  obtain ⟨c, oc, vs, tq, hc, hoc, _, hdc, hq⟩ := hcd
  simp only [hd', callFunction, hco, hgen, hc]
  rw [hc] at h
  refine wpAny_bind (m := field (.ref c) 1) (wpAny_field hoc hdc hq (wpAny_bind (wpAny_pure ?_)))
  refine wpAny_bind (wpAny_mono h (fun binds s₁ h₁ => wpAny_bind (wpAny_mono h₁ (fun env s₂ h₂ => wpAny_bind (wpAny_enterFrame h₂.1 hroom
    ?_)) fun _ _ h' => h')) fun _ _ h' => h')
  have h3 := h₂.2
  revert h3
  cases fd.body with
  | stmts b => exact fun h3 => wpAny_pure (And.intro rfl h3)
  | expr e => exact fun h3 => wpAny_pure (And.intro rfl h3)
end

/-! ## A call, as the mini language sees it -/
def bodyW (S : Sx) (k n : Nat) (κ : List Nat) (ρ : Lo) (H : AH) (Q : PV) (E : PE) : Prop := match (S.fns k).body with
  | .inl b => exs S κ b n ρ H (fun f _ H => match f with
    | .ret v => Q v H
    | _ => Q .nn H) fun _ i H => E i H
  | .inr x => ev S n ρ κ E x false H Q
def callW (S : Sx) (n k : Nat) (cs : List Nat) (vs : List V) (H : AH) (Q : PV) (E : PE) : Prop :=
  bodyW S k n (kap (S.fns k) H.length cs) (bindP H.length (ptOf (S.fns k)) vs ((S.fns k).vars.map fun _ => none) (H ++ (S.fns k).own.map fun _ => .cell none)).1
    (bindP H.length (ptOf (S.fns k)) vs ((S.fns k).vars.map fun _ => none) (H ++ (S.fns k).own.map fun _ => .cell none)).2 Q E

section
variable {S : Sx} {A : Around} {n : Nat} {μ : List Addr} {H : AH} {s : Shared} {k : Nat} {cs : List Nat} {nest : Bool} {fd : FuncData}

theorem leave_sound {env : Env} {L : Addr} {Γ : FC} {ρ : Lo} {κ : List Nat} (a : At S A env env L Γ n μ ρ κ H s) {E : Value → Shared → Prop} {P : Unit → Shared → Prop} {i c : Nat} {e : Addr} {args : List V} {d : Option Nat} (m : μ[i]? = some e) (hi : H[i]? = some (.exc c args d false)) (fl : Fl S s.heap e (here L))
    (h : ∀ s', At S A env env L Γ n μ ρ κ H s' → Grow S [] μ μ s s' → Fl S s'.heap e (· = some .none) → P () s') : wpAny (model S.prog S.w) A (leaving env (.ref e)) P E s := by
  unfold leaving
  refine wpAny_bind (wpAny_mono (note_sound a m hi fl) (fun _ s1 ⟨a1, g1, f1⟩ => ?_) fun _ _ z => z)
  exact wpAny_mono (flight_sound (fr := none) a1 m hi f1 (fun z => by cases z)) (fun _ s2 ⟨a2, g2, f2⟩ => h s2 a2 (g1.trans g2) f2) fun _ _ z => z

/-- the end of a call as the machine's code hands it over -/
def RP (S : Sx) (μ : List Addr) (s : Shared) (Q : PV) (E : PE) : Result → Shared → Prop := fun r s' => match r with
  | .ok (.ret v) => PostV S μ s Q v s'
  | .ok _ => False
  | .error e => PostE S μ s (· = some .none) E e s'
theorem sup_of {b : SL ⊕ X} {i : Nat} {x : X} {r : SL} (h : startsSup b = some (i, x, r)) : b = .inl (.cons (.sup i x) r) := by
  unfold startsSup at h
  split at h
  · cases h; rfl
  · cases h
theorem notOwn {fns : Nat → MF} {k : Nat} {nest : Bool} {sc : Scope} {x : Str} (z : FcOk (fns k) sc) (h : (fnFC fns k sc nest).kind x = some .free) : x ∉ (fns k).own := by
  intro hm
  rw [← z.own] at hm
  have e1 := (mem_kind z.nd).mp hm
  have e2 : sc.names.lookup x = some .free := h
  rw [e1] at e2; cases e2

theorem call_code (SVS : SV S) {ob : Nat → Scope → FuncBody → Bool} (hob : ∀ k sc b, ob k sc b = true → ob1 S.gname S.fns k sc b = true) (ac : AC S A (n + 1) s.heap) (g : Good S μ H s) (F : FdR S μ s.heap k cs nest fd)
    (hag : agBody S.gname S.fns ob nest k fd.scope fd.body = true) {a : Addr} {o : Obj} (ho : s.heap.get? a = some o) (hd : o.data = .func fd) (hbase : (startsSup (S.fns k).body).isSome = true → S.base.get? a = some o) {vs : List V} {cv args : List Value} (r : VRs S μ s.heap vs cv)
    (hb : ∀ (Q : List (Str × Value) → Shared → Prop) E, Q ((S.fns k).params.zip cv) s → wpAny (model S.prog S.w) A.in1 (bindArgs fd ⟨args, []⟩) Q E s) {Q : PV} {E : PE} (q : callW S n k cs vs H Q E) :
    codeAny (model S.prog S.w) A (.call (.ref a) ⟨args, []⟩) (RP S μ s Q E) s := by
  have z := fc_ok F.fc
  obtain ⟨qn, hcd⟩ := F.code
  refine codeAny_callF (by have := ac.depth; omega) ho hd z.cor z.gen hcd (hb _ _ (wpAny_mono (env_sound ac g F r) (fun env s₁ ⟨μ', L, gr, hL, ⟨en1, en2, en3⟩, at1⟩ => ⟨SVS.lim.keeps at1.g.inv.stay, ?_⟩) fun _ _ w => w))
  unfold callW bodyW at q
  unfold agBody at hag
  rw [Bool.and_eq_true] at hag
  have hag2 := hag.2
  -- how a body's statements end
  have fin1 : ∀ (f : Flow) (s' : Shared), PostS S (A.deeper env) env L (fnFC S.fns k fd.scope nest) n (kap (S.fns k) H.length cs) μ' s₁ (fun f _ H => match f with
      | .ret v => Q v H
      | _ => Q .nn H) f s' → RP S μ s Q E (.ok (.ret (match f with | .ret v => v | _ => .none))) s' := by
    intro f s' ⟨μ2, ρ2, H2, fb, gr2, atf, flr, q2⟩
    have gr3 := ((gr.weaken (W' := [env.locals]) (by simp)).trans gr2).drop hL
    cases fb with
    | nrm => cases flr; exact ⟨μ2, H2, .nn, gr3, atf.g, by rw [VR], q2⟩
    | brk => cases flr; exact ⟨μ2, H2, .nn, gr3, atf.g, by rw [VR], q2⟩
    | cont => cases flr; exact ⟨μ2, H2, .nn, gr3, atf.g, by rw [VR], q2⟩
    | ret v => obtain ⟨c, rfl, rv⟩ := flr; exact ⟨μ2, H2, v, gr3, atf, rv, q2⟩
  have fin2 : ∀ (e : Value) (s' : Shared), PostX S (A.deeper env) env L (fnFC S.fns k fd.scope nest) n (kap (S.fns k) H.length cs) μ' s₁ (fun _ i H => E i H) e s' →
      wpAny (model S.prog S.w) (A.deeper env) (leaving env e) (fun _ s'' => RP S μ s Q E (.error e) s'') (fun e' s'' => RP S μ s Q E (.error e') s'') s' := by
    intro e s' ⟨μ2, ρ2, H2, i, ad, gr2, at2, he, m, fl, ⟨c, ar, d, hi⟩, q2⟩
    subst he
    have gr3 := ((gr.weaken (W' := [env.locals]) (by simp)).trans gr2).drop hL
    exact leave_sound at2 m hi fl fun s4 a4 gr4 fl4 => ⟨μ2, H2, i, ad, gr3.trans gr4, a4.g, rfl, m, fl4, ⟨c, ar, d, hi⟩, q2⟩
  cases hsup : startsSup (S.fns k).body with
  | some t =>
    obtain ⟨i, x, b⟩ := t
    have hbd := sup_of hsup
    rw [hsup] at hag2
    rw [hbd] at q hag2
    cases hfb : fd.body with
    | expr e => rw [hfb] at hag2; cases hag2
    | stmts ss =>
      rw [hfb] at hag2
      cases ss with
      | nil => cases hag2
      | cons t ss =>
        rw [Bool.and_eq_true] at hag2
        dsimp only at q
        rw [exs] at q
        have hkc : (fnFC S.fns k fd.scope nest).kind ("__class__" : Str) = some .free := by
          have h := hag2.1
          unfold agSup at h
          split at h
          · simp only [Bool.and_eq_true, beq_iff_eq] at h
            exact h.1.1.1.1.2
          · cases h
        refine ks_codeAny_funcAt (ks_wpAt_execs_cons (ks_wpAt_mono (st_sup SVS hob hag2.1 (F.sup (by rw [hsup]; rfl)) (at1.g.inv.stay _ _ (hbase (by rw [hsup]; rfl))) hd en1 en2 (en3 _ (notOwn z hkc)) at1 q) (fun f s' ⟨μ2, ρ2, H2, fb, gr2, atf, flr, q2⟩ => ?_) fun e s' x => fin2 e s' x))
        cases fb with
        | nrm =>
          cases flr
          exact PySem.wpAt_of_wpAny (wpAny_mono (exs_sound SVS hob z.vnd b hag2.2 n (A.deeper env) _ _ _ μ2 _ _ s' atf q2) (fun f s2 x => fin1 f s2 (x.pre gr2)) fun e s2 x => fin2 e s2 (x.pre gr2))
        | brk => cases flr; exact fin1 .brk _ ⟨μ2, ρ2, H2, .brk, gr2, atf, rfl, q2⟩
        | cont => cases flr; exact fin1 .cont _ ⟨μ2, ρ2, H2, .cont, gr2, atf, rfl, q2⟩
        | ret v => obtain ⟨c, rfl, rv⟩ := flr; exact fin1 (.ret c) _ ⟨μ2, ρ2, H2, .ret v, gr2, atf, ⟨c, rfl, rv⟩, q2⟩
  | none =>
    rw [hsup] at hag2
    cases hbody : (S.fns k).body with
    | inl b =>
      rw [hbody] at q hag2
      cases hfb : fd.body with
      | expr e => rw [hfb] at hag2; cases hag2
      | stmts ss =>
        rw [hfb] at hag2
        exact codeAny_func (wpAny_mono (exs_sound SVS hob z.vnd b hag2 n (A.deeper env) _ _ _ μ' _ _ s₁ at1 q) fin1 fin2)
    | inr x =>
      rw [hbody] at q hag2
      cases hfb : fd.body with
      | stmts ss => rw [hfb] at hag2; cases hag2
      | expr e =>
        rw [hfb] at hag2
        refine kla_codeExpr (wpAny_mono (ev_sound SVS hob x hag2 false _ _ _ μ' _ _ s₁ at1 q) (fun v s' ⟨μ2, H2, b, gr2, g2, rv, q2⟩ => ⟨μ2, H2, b, gr.trans gr2, g2, rv, q2⟩) fun e s' ⟨μ2, H2, i, ad, gr2, g2, he, m, fl, ⟨c, ar, d, hi⟩, q2⟩ => ?_)
        subst he
        exact leave_sound (at1.grow gr2 g2) m hi fl fun s4 a4 gr4 fl4 => ⟨μ2, H2, i, ad, (gr.trans gr2).trans gr4, a4.g, rfl, m, fl4, ⟨c, ar, d, hi⟩, q2⟩

/-- a closure made in the run -/
theorem calls_fn (SVS : SV S) {i : Nat} {vs : List V} {Q : PV} {E : PE} (hi : H[i]? = some (.fn k cs)) (hl : vs.length = (S.fns k).params.length) (q : callW S n k cs vs H Q E) : Calls S (n + 1) (.rr i) vs H Q E := by
  intro A s μ cf cargs ac g rf rvs
  rw [VR] at rf
  obtain ⟨a, rfl, ha⟩ := rf
  obtain ⟨_, fd, ho, F, hag⟩ := g.sr.obj i _ a hi ha
  refine ⟨keeps_F _ ⟨_, _, _, _, ho⟩, ?_⟩
  obtain ⟨⟨hsn, _⟩, hag'⟩ : ((startsSup (S.fns k).body).isNone = true ∧ _) ∧ agBody S.gname S.fns ob0 false k fd.scope fd.body = true := by
    have h := hag
    unfold ob1 at h
    rw [Bool.and_eq_true, Bool.and_eq_true] at h
    exact h
  have hsn' : (startsSup (S.fns k).body).isSome = true → False := fun h => by
    cases hz : startsSup (S.fns k).body <;> rw [hz] at h hsn <;> cases h <;> cases hsn
  have hfc : agFc S.fns k fd.scope = true := by
    have h := hag'
    unfold agBody at h
    rw [Bool.and_eq_true] at h
    exact h.1
  refine wpAny_call (codeAny_mono (call_code SVS (ob := ob0) (nest := false) (cs := cs) (fun _ _ _ h => by cases h) ac g ⟨F.glob, F.blt, F.code, F.clo, hfc, fun h => (hsn' h).elim, fun h => by cases h⟩ hag' ho rfl (fun h => (hsn' h).elim) rvs (fun Q E h => ?_) q) fun r s' z => by rcases r with e | (v | _ | _ | _) <;> exact z)
  rw [bind_exact F.rest.1 F.params F.rest.2.1 F.rest.2.2.1 F.rest.2.2.2 F.dflt.1 (fc_ok hfc).pnd (by rw [rvs.length, hl])]
  exact wpAny_pure h
end
end Mine
set_option maxRecDepth 10000
namespace Mine
open PySem PySem.Calls PyProof.Rows PySem.W

/-- a function that the top lays: its place among the values, its text, how many arguments it is handed here and what is laid for the others -/
structure GFn (S : Sx) (k f m : Nat) (ds : List V) (nest : Bool) : Prop where
  at_ : ∃ a oc od fd sl dv, S.gv k = .ref a ∧ S.base.get? a = some ⟨oc, od, .func fd, sl⟩ ∧ fd.globals = mainGlobals ∧ fd.builtins = builtinsNs ∧ (∃ q, CodeR S.base fd.code q) ∧
    (nest = true → ∃ q ∈ S.tabs, fd.code = .ref q.1) ∧ agFc S.fns f fd.scope = true ∧ agBody S.gname S.fns (if nest then ob1 S.gname S.fns else ob0) nest f fd.scope fd.body = true ∧ VRs S [] S.base ds dv ∧
    ∀ (args : List Value) (B : Around) (s : Shared) (Q : List (Str × Value) → Shared → Prop) (E : Value → Shared → Prop), args.length = m → S.base.StaysIn s.heap → Q ((S.fns f).params.zip (args ++ dv)) s → wpAny (model S.prog S.w) B (bindArgs fd ⟨args, []⟩) Q E s
  free : (S.fns f).free = []
  sup : ∀ fd a oc od sl, S.gv k = .ref a → S.base.get? a = some ⟨oc, od, .func fd, sl⟩ → (startsSup (S.fns f).body).isSome = true → SupF S fd

section
variable {S : Sx} {A : Around} {n : Nat} {μ : List Addr} {H : AH} {s : Shared} {k f m : Nat} {ds : List V} {nest : Bool}

theorem mono_base {h : Heap} (st : S.base.StaysIn h) : Mono [] μ S.base h := ⟨fun i a e => by simp at e, fun a o e _ => st a o e⟩

theorem code_gg (SVS : SV S) (G : GFn S k f m ds nest) {vs : List V} {cargs : List Value} {Q : PV} {E : PE} (ac : AC S A (n + 1) s.heap) (g : Good S μ H s) (rvs : VRs S μ s.heap vs cargs) (hl : vs.length = m) (q : callW S n f [] (vs ++ ds) H Q E) :
    KeepOk S s.heap (S.gv k) ∧ codeAny (model S.prog S.w) A (.call (S.gv k) ⟨cargs, []⟩) (RP S μ s Q E) s := by
  obtain ⟨a, oc, od, fd, sl, dv, e1, e2, e3, e4, e5, e6, e7, e8, e9, e10⟩ := G.at_
  have ho := g.inv.stay _ _ e2
  rw [e1]
  refine ⟨keeps_F _ ⟨_, _, _, _, ho⟩, ?_⟩
  refine call_code SVS (ob := if nest then ob1 S.gname S.fns else ob0) (nest := nest) (cs := []) (fun k sc b h => ?_) ac g ⟨e3, e4, ?_, fun i x hx => by rw [G.free] at hx; simp at hx, e7, fun h => G.sup fd a oc od sl e1 e2 h, e6⟩ e8 ho rfl (fun _ => e2) (rvs.append S (e9.mono S (mono_base g.inv.stay))) (fun Q E h => ?_) q
  · cases nest with
    | true => exact h
    | false => cases h
  · obtain ⟨q, hq⟩ := e5
    exact ⟨q, hq.step fun b o e _ => g.inv.stay b o e⟩
  · exact e10 _ _ _ _ _ (by rw [rvs.length, hl]) g.inv.stay h

theorem calls_gg (SVS : SV S) (G : GFn S k f m ds nest) {vs : List V} {Q : PV} {E : PE} (hl : vs.length = m) (q : callW S n f [] (vs ++ ds) H Q E) : Calls S (n + 1) (.gg k) vs H Q E := by
  intro A s μ cf cargs ac g rf rvs
  rw [VR] at rf
  subst rf
  obtain ⟨h1, h2⟩ := code_gg SVS G ac g rvs hl q
  exact ⟨h1, wpAny_call (codeAny_mono h2 fun r s' z => by rcases r with e | (v | _ | _ | _) <;> exact z)⟩
end
end Mine
set_option maxRecDepth 10000
namespace Mine
open PySem PySem.Calls PyProof.Rows PySem.W

/-! ## A class called: an instance -/
structure GCls (S : Sx) (c kI f m : Nat) (ds : List V) (nest : Bool) : Prop where
  at_ : ∃ C fI, S.gv c = .ref C ∧ S.gv kI = .ref fI ∧ makesIn S.K C = true ∧ findIn S.K (.ref C) "__init__" = some (some (.ref fI)) ∧ typeIn S.K (.ref fI) = some (.type "function") ∧ keepIn S.K (.ref C) = true
  init : GFn S kI f (m + 1) ds nest

section
variable {S : Sx} {A : Around} {n : Nat} {μ : List Addr} {H : AH} {s : Shared} {c kI f m : Nat} {ds : List V} {nest : Bool}

theorem under_new {μ' : List Addr} {s' : Shared} (ac : AC S A (n + 2) s.heap) (g : Good S μ H s) (gr : Grow S [] μ μ' s s') {C : Addr} {rest : List Value} : AC S (A.under (.builtin "type.__call__" ⟨.ref C :: rest, []⟩)) (n + 1) s'.heap := by
  obtain ⟨out, f1, f2⟩ := ac.frames
  have hw : (Code.builtin "type.__call__" ⟨.ref C :: rest, []⟩).weight = 1 := rfl
  have hu : (Code.builtin "type.__call__" ⟨.ref C :: rest, []⟩).cUnits = 1 := rfl
  refine ⟨⟨out, f1, f2.grow g.sr gr (by simp)⟩, ?_, ?_, fun _ => ac.hand (by omega)⟩
  · have := ac.depth
    show A.depth + _ + (n + 1) ≤ recursionLimit
    rw [hw]; omega
  · have := ac.units
    show A.units + _ + 9 * (n + 1) + 400 < cLine
    rw [hu]; omega

theorem kin_here (SVS : SV S) (g : Good S μ H s) : S.K.In s.heap := fun a o e => g.inv.stay a o (SVS.kin a o e)

theorem calls_cls (SVS : SV S) (G : GCls S c kI f m ds nest) {vs : List V} {Q : PV} {E : PE} (hl : vs.length = m)
    (q : callW S n f [] (V.rr (H.length + 1) :: vs ++ ds) (H ++ [.ns [], .inst c H.length]) (fun r H' => r = .nn ∧ Q (.rr (H.length + 1)) H') E) : Calls S (n + 2) (.gg c) vs H Q E := by
  intro A s μ cf cargs ac g rf rvs
  rw [VR] at rf
  subst rf
  obtain ⟨C, fI, e1, e2, e3, e4, e5, e6⟩ := G.at_
  have X := kin_here SVS g
  rw [e1]
  refine ⟨let ⟨k, hk, l⟩ := looks_keep e6 X; ⟨k, hk.elim .inl fun z => .inr (.inl z), l⟩, ?_⟩
  have g1 := g.alloc emptyDict (.ns []) ⟨g.base_new, fun _ => none, emptyDict, Heap.get?_push_size _ rfl, rfl, Heap.Ns.new s.heap (.type "dict"), fun _ => rfl, #[], _, rfl, Nat.le_refl _⟩
  have hd : (μ ++ [s.heap.objs.size])[H.length]? = some s.heap.objs.size := by rw [← g.sr.len, List.getElem?_append_right (Nat.le_refl _), Nat.sub_self]; rfl
  have g2 := g1.alloc (instObj C s.heap.objs.size) (.inst c H.length) ⟨g1.base_new, C, s.heap.objs.size, e1, by
    rw [List.getElem?_append_left (by simp [g.sr.len])]; exact hd, Heap.get?_push_size _ rfl⟩
  have gr : Grow S [] μ _ s _ := (Grow.alloc (S := S) (W := []) (μ := μ) (s := s) emptyDict).trans (Grow.alloc (instObj C s.heap.objs.size))
  have hx : ((s.heap.push emptyDict)).objs.size = s.heap.objs.size + 1 := Heap.size_push ..
  dsimp only at g2 gr
  rw [hx] at g2 gr
  rw [List.append_assoc, List.append_assoc] at g2
  rw [List.append_assoc] at gr
  have hi : (μ ++ ([s.heap.objs.size] ++ [s.heap.objs.size + 1]))[H.length + 1]? = some (s.heap.objs.size + 1) := by
    rw [← g.sr.len, List.getElem?_append_right (by omega)]
    rw [show μ.length + 1 - μ.length = 1 by omega]; rfl
  obtain ⟨_, h2⟩ := code_gg SVS (n := n) (A := A.under (.builtin "type.__call__" ⟨.ref C :: cargs, []⟩)) (vs := V.rr (H.length + 1) :: vs) (cargs := .ref (s.heap.objs.size + 1) :: cargs) G.init (under_new ac g gr) g2
    (VRs.cons S (by rw [VR]; exact ⟨_, rfl, hi⟩) (rvs.grow g gr)) (by simp [hl]) q
  rw [e2] at h2
  obtain ⟨hh, gs, d, t, os⟩ := s
  refine wpAny_call (codeAny_mono (make_core (R := RP S μ ⟨hh, gs, d, t, os⟩ Q E) (makes_of X e3) (looks_findIn X e4) (fun self => bind_fn X self e5) (.inl rfl) (codeAny_mono h2 fun r s' z => ?_)) fun r s' z => by rcases r with e | (v | _ | _ | _) <;> exact z)
  rcases r with e | (v | _ | _ | _)
  · exact PostE.pre gr z
  · exact z.elim
  · exact z.elim
  · exact z.elim
  · obtain ⟨μ3, H3, b, gr3, g3, rv, rfl, q3⟩ := z
    rw [VR] at rv
    exact ⟨rv, μ3, H3, _, gr.trans gr3, g3, by rw [VR]; exact ⟨_, rfl, gr3.at hi⟩, q3⟩
end
end Mine
set_option maxRecDepth 100000
namespace Mine
open PySem PySem.Calls PyProof.Rows PySem.W

/-! ## A class of exceptions called -/
abbrev excObj (C t : Addr) : Obj := { cls := .ref C, data := .fields #[.ref t, .none, .none, .none, .bool false, .none] }

section
variable {prog : Program} {w : World} {A : Around} {E : Value → Shared → Prop} {h : Heap} {g : Array GenState} {d : Drawn} {t : Nat} {os : OsState}
variable {nm q : Str} {C N : Addr} {bs bm : List Value} {hdct : Bool} {sn : List Str} {sub : List Value} {ab : Bool} {col : Option Bool} {dd : Option Addr} {k0 k1 k2 k3 k5 : Option Value} {B newId initId : String}

theorem exc_made (F : ExcBaseFacts B newId initId bm) {mN : Str → Option Value} {rest : List Value} {fI : Addr} {oI : Obj} {Q : Fin → Shared → Prop}
    (hC : h.get? C = some (excClassObj nm q C N bs bm hdct sn sub ab col dd k0 k1 k2 k3 k5 newId)) (hn : h.Ns N mN) (hi : mN "__init__" = some (.ref fI))
    (hfI : h.get? fI = some oI) (hfc : oI.cls = .type "function") (hrest : rest.length ≤ sizeLine)
    (hq : wpAny (model prog w) A (call (.ref fI) (.ref (h.objs.size + 1) :: rest)) (fun r s' => r = .none ∧ Q (.done (.ret (.ref (h.objs.size + 1)))) s') E ⟨(h.push (tupObj rest)).push (excObj C h.objs.size), g, d, t, os⟩) :
    wpAny (model prog w) A (Builtin.«type.__call__» ⟨.ref C :: rest, []⟩) Q E ⟨h, g, d, t, os⟩ := by
  have kp : ∀ b o, h.get? b = some o → ((h.push (tupObj rest)).push (excObj C h.objs.size)).get? b = some o := fun b o e => Heap.get?_push_of_some _ (Heap.get?_push_of_some _ e)
  have hC2 := kp _ _ hC
  have hf2 := kp _ _ hfI
  have hn2 : ((h.push (tupObj rest)).push (excObj C h.objs.size)).Ns N mN := hn.keeps kp
  have hx : ((h.push (tupObj rest)).push (excObj C h.objs.size)).get? (h.objs.size + 1) = some (excObj C h.objs.size) := by heap_get
  have hself : (Value.ref C :: bm).contains (.ref C) = true := by simp
  repeat (first | with_reducible refine wpAny_loadPart_at hC ?_ | with_reducible refine wpAny_madeBy_exc hC ?_ | wp_step)
  refine codeAny_call_builtin_code (Code.quiet_builtin _ F.quiet) (wpAny_check_new_sub F hC (codeAny_exc_new_sub F hC ?_ hrest))
  show wpAny _ _ _ _ _ _
  unfold isInstance
  repeat (first | with_reducible refine wpAny_loadPart_at hx ?_ | (with_reducible refine wpAny_isSubtype_exc hC2 ?_; rw [hself]) | wp_step)
  show wpAny _ _ (typeLookup (.ref C) _) _ _ _
  refine wpAny_typeLookup_exc hC2 hn2 F.mroIs F.init.lookup ?_
  rw [hi]
  unfold bindSpecial
  refine wpAny_holding (wpAny_bind (wpAny_bind (wpAny_typeOf (T := "function") ⟨_, hf2, hfc⟩ ?_)))
  rw [if_pos (by decide)]
  refine wpAny_pure (wpAny_bind (wpAny_mono hq (fun r s' ⟨e, z⟩ => ?_) fun _ _ x => x))
  subst e
  wp_walk
  exact z

theorem exc_called (F : ExcBaseFacts B newId initId bm) {mN : Str → Option Value} {rest : List Value} {fI : Addr} {oI : Obj} {Q : Value → Shared → Prop}
    (hC : h.get? C = some (excClassObj nm q C N bs bm hdct sn sub ab col dd k0 k1 k2 k3 k5 newId)) (hn : h.Ns N mN) (hi : mN "__init__" = some (.ref fI))
    (hfI : h.get? fI = some oI) (hfc : oI.cls = .type "function") (hrest : rest.length ≤ sizeLine)
    (hq : wpAny (model prog w) (A.under (.builtin "type.__call__" ⟨.ref C :: rest, []⟩)) (call (.ref fI) (.ref (h.objs.size + 1) :: rest)) (fun r s' => r = .none ∧ Q (.ref (h.objs.size + 1)) s') E ⟨(h.push (tupObj rest)).push (excObj C h.objs.size), g, d, t, os⟩) :
    wpAny (model prog w) A (call (.ref C) rest) Q E ⟨h, g, d, t, os⟩ := by
  have f1 := tc_lookup
  have f2 := tc_bind (.ref C)
  have hT : (⟨h, g, d, t, os⟩ : Shared).TypeIs (.ref C) "type" := ⟨_, hC, rfl⟩
  refine wpAny_call (codeAny_of_tree ?_)
  show wpAny _ _ (callAny (.ref C) _) _ _ _
  repeat (any_goals (first | assumption | with_reducible refine wpAny_loadPart_at hC ?_ | wp_step))
  exact ⟨rfl, codeAny_call_builtin_at (Code.quiet_builtin _ (by decide +kernel)) entry_typeCall (wpAny_check_type_call_sub hC (exc_made F hC hn hi hfI hfc hrest hq))⟩
end
end Mine
set_option maxRecDepth 100000
namespace Mine
open PySem PySem.Calls PyProof.Rows PySem.W

structure GExc (S : Sx) (c kI f m : Nat) (ds : List V) (nest : Bool) : Prop where
  at_ : ∃ (C fI N : Addr) (mN : Str → Option Value) (oI : Obj) (nm q : Str) (bs bm : List Value) (hdct : Bool) (sn : List Str) (sub : List Value) (ab : Bool) (col : Option Bool) (dd : Option Addr) (k0 k1 k2 k3 k5 : Option Value) (B newId initId : String),
    S.gv c = .ref C ∧ S.gv kI = .ref fI ∧ S.base.get? C = some (excClassObj nm q C N bs bm hdct sn sub ab col dd k0 k1 k2 k3 k5 newId) ∧ S.base.Ns N mN ∧ mN "__init__" = some (.ref fI) ∧ S.base.get? fI = some oI ∧ oI.cls = .type "function" ∧
    ExcBaseFacts B newId initId bm ∧ keepIn S.K (.ref C) = true
  init : GFn S kI f (m + 1) ds nest
  few : m ≤ sizeLine

section
variable {S : Sx} {A : Around} {n : Nat} {μ : List Addr} {H : AH} {s : Shared} {c kI f m : Nat} {ds : List V} {nest : Bool}

theorem wp_of_RP {f : Value} {args : List Value} {s0 : Shared} {Q : PV} {E : PE} (h : codeAny (model S.prog S.w) A (.call f ⟨args, []⟩) (RP S μ s Q E) s0) : wpAny (model S.prog S.w) A (call f args) (PostV S μ s Q) (PostE S μ s (· = some .none) E) s0 :=
  wpAny_call (codeAny_mono h fun r s' z => by rcases r with e | (v | _ | _ | _) <;> exact z)

theorem calls_exc (SVS : SV S) (G : GExc S c kI f m ds nest) {vs : List V} {Q : PV} {E : PE} (hl : vs.length = m)
    (q : callW S n f [] (V.rr H.length :: vs ++ ds) (H ++ [.exc c vs none true]) (fun r H' => r = .nn ∧ Q (.rr H.length) H') E) : Calls S (n + 2) (.gg c) vs H Q E := by
  intro A s μ cf cargs ac g rf rvs
  rw [VR] at rf
  subst rf
  obtain ⟨C, fI, N, mN, oI, nm, qq, bs, bm, hdct, sn, sub, ab, col, dd, k0, k1, k2, k3, k5, B, newId, initId, e1, e2, e3, e4, e5, e6, e7, F, e8⟩ := G.at_
  have X := kin_here SVS g
  rw [e1]
  refine ⟨let ⟨k, hk, l⟩ := looks_keep e8 X; ⟨k, hk.elim .inl fun z => .inr (.inl z), l⟩, ?_⟩
  have g1 := g.push (tupObj cargs)
  have gr1 : Grow S [] μ μ s { s with heap := s.heap.push (tupObj cargs) } := .push _
  have hx : ((s.heap.push (tupObj cargs))).objs.size = s.heap.objs.size + 1 := Heap.size_push ..
  have ht : (s.heap.push (tupObj cargs)).get? s.heap.objs.size = some (tupObj cargs) := Heap.get?_push_size _ rfl
  have gr2 := gr1.trans (Grow.alloc (S := S) (W := []) (μ := μ) (s := { s with heap := s.heap.push (tupObj cargs) }) (excObj C s.heap.objs.size))
  have g2 := g1.alloc (excObj C s.heap.objs.size) (.exc c vs none true) ⟨g1.base_new, C, _, .ref s.heap.objs.size, _, none, e1, Heap.get?_push_size _ rfl, by simp, rfl, by
    rw [VR]
    exact ⟨_, _, cargs.toArray, _, rfl, Heap.get?_push_of_some _ ht, rfl, rfl, by
      rw [List.toList_toArray]
      exact rvs.mono S (gr2.mono g.sr (by simp))⟩, fun _ => rfl, rfl⟩
  dsimp only at g2 gr2
  rw [hx] at g2 gr2
  have hi : (μ ++ [s.heap.objs.size + 1])[H.length]? = some (s.heap.objs.size + 1) := by
    rw [← g.sr.len, List.getElem?_append_right (Nat.le_refl _), Nat.sub_self]; rfl
  obtain ⟨_, h2⟩ := code_gg SVS (n := n) (A := A.under (.builtin "type.__call__" ⟨.ref C :: cargs, []⟩)) (vs := V.rr H.length :: vs) (cargs := .ref (s.heap.objs.size + 1) :: cargs) G.init (under_new ac g gr2) g2
    (VRs.cons S (by rw [VR]; exact ⟨_, rfl, hi⟩) (rvs.grow g gr2)) (by simp [hl]) q
  rw [e2] at h2
  have hs := g.inv.stay
  obtain ⟨hh, gs, d, t, os⟩ := s
  refine exc_called F (hs _ _ e3) (e4.keeps hs) e5 (hs _ _ e6) e7 (by rw [rvs.length, hl]; exact G.few) (wpAny_mono (wp_of_RP h2) (fun r s' ⟨μ3, H3, b, gr3, g3, rv, hb, q3⟩ => ?_) fun e s' z => PostE.pre gr2 z)
  subst hb
  rw [VR] at rv
  exact ⟨rv, μ3, H3, _, gr2.trans gr3, g3, by rw [VR]; exact ⟨_, rfl, gr3.at hi⟩, q3⟩
end
end Mine
open PySem PySem.W PyProof.Rows
set_option maxRecDepth 100000
set_option maxHeartbeats 8000000
open_top hd05 for PySem.Challenge.rw_ev0025_05
set_option maxRecDepth 10000
namespace Mine
open PySem PySem.Calls PyProof.Rows PySem.W

/-! ## Arguments, the last of them laid by defaults -/
theorem zip_tail {α β : Type} : ∀ {ps : List α} {cv rest : List β}, ps.zip cv ++ (ps.drop cv.length).zip rest = ps.zip (cv ++ rest) ∨ ps.length < cv.length
  | ps, [], rest => .inl (by simp)
  | [], c :: cv, rest => .inr (by simp)
  | p :: ps, c :: cv, rest => by
    rcases zip_tail (ps := ps) (cv := cv) (rest := rest) with h | h
    · exact .inl (by simp only [List.zip_cons_cons, List.length_cons, List.drop_succ_cons, List.cons_append]; rw [h])
    · exact .inr (by simpa using h)

section
variable {M : Model} {A : Around} {s : Shared} {E : Value → Shared → Prop}
theorem lookup_app_none {sl l : List (Str × Value)} {x : Str} (h : sl.lookup x = none) : (sl ++ l).lookup x = l.lookup x := by
  induction sl with
  | nil => rfl
  | cons p sl ih =>
    obtain ⟨y, v⟩ := p
    rw [List.lookup_cons] at h
    rw [List.cons_append, List.lookup_cons]
    cases hb : x == y
    · rw [hb] at h; exact ih h
    · rw [hb] at h; cases h
theorem lookup_app_ne {sl : List (Str × Value)} {n x : Str} {d : Value} (h : x ≠ n) : (sl ++ [(n, d)]).lookup x = sl.lookup x := by
  induction sl with
  | nil => exact lookup_ne h
  | cons p sl ih =>
    obtain ⟨y, v⟩ := p
    rw [List.cons_append, List.lookup_cons, List.lookup_cons, ih]
theorem dfl_all (f : Str × Value → List (Str × Value) → Sem (ForInStep (List (Str × Value)))) (hf : ∀ n d sl, f (n, d) sl = if (sl.lookup n).isNone then pure (.yield (sl ++ [(n, d)])) else pure (.yield sl)) :
    ∀ (l : List (Str × Value)) (sl : List (Str × Value)) {Q : List (Str × Value) → Shared → Prop}, (l.map (·.1)).Nodup → Q (sl ++ l.filter fun p => (sl.lookup p.1).isNone) s → wpAny M A (forIn l sl f) Q E s
  | [], sl, Q, _, q => by rw [List.forIn_nil]; exact wpAny_pure (by simpa using q)
  | (n, d) :: l, sl, Q, nd, q => by
    rw [List.map_cons, List.nodup_cons] at nd
    rw [List.forIn_cons, hf]
    by_cases h : (sl.lookup n).isNone = true
    · rw [if_pos h]
      refine wpAny_bind (wpAny_pure (dfl_all f hf l _ nd.2 ?_))
      rw [List.filter_cons_of_pos (p := fun p : Str × Value => (sl.lookup p.1).isNone) (a := (n, d)) h] at q
      have e : (l.filter fun p => ((sl ++ [(n, d)]).lookup p.1).isNone) = l.filter fun p => (sl.lookup p.1).isNone := List.filter_congr fun p hp => by
        have hne : p.1 ≠ n := fun z => nd.1 (by rw [← z]; exact List.mem_map_of_mem (f := (·.1)) hp)
        rw [lookup_app_ne hne]
      rw [e, List.append_assoc]
      exact q
    · rw [if_neg h]
      rw [List.filter_cons_of_neg (p := fun p : Str × Value => (sl.lookup p.1).isNone) (a := (n, d)) h] at q
      exact wpAny_bind (wpAny_pure (dfl_all f hf l _ nd.2 q))
theorem zip_none : ∀ {ps : List Str} {cv : List Value} {x : Str}, x ∉ ps.take cv.length → (ps.zip cv).lookup x = none
  | [], _, _, _ => rfl
  | _ :: _, [], _, _ => rfl
  | p :: ps, c :: cv, x, h => by
    rw [List.length_cons, List.take_succ_cons, List.mem_cons, not_or] at h
    rw [List.zip_cons_cons, lookup_ne h.1]
    exact zip_none h.2
theorem zip_some : ∀ {ps : List Str} {cv : List Value} {x : Str}, x ∈ ps.take cv.length → ((ps.zip cv).lookup x).isNone = false
  | [], _, _, h => by simp at h
  | _ :: _, [], _, h => by simp at h
  | p :: ps, c :: cv, x, h => by
    rw [List.zip_cons_cons]
    by_cases e : x = p
    · subst e; rw [lookup_eq]; rfl
    · rw [lookup_ne e]
      rw [List.length_cons, List.take_succ_cons, List.mem_cons] at h
      exact zip_some (h.resolve_left e)

theorem bind_dfl {fd : FuncData} {cv dv : List Value} {ps : List Str} {t : Addr} {o : Obj} {items : Array Value} {k : Nat} (h0 : fd.params.posonlyargs = []) (h1 : fd.params.args.map (·.arg) = ps) (h2 : fd.params.vararg = none) (h3 : fd.params.kwonlyargs = []) (h4 : fd.params.kwarg = none)
    (hd : fd.defaults = .ref t) (ht : s.heap.get? t = some o) (hit : ∃ n, o.data = .seq items n) (nd : ps.Nodup) (hk : k ≤ items.size) (hl : cv.length + k = ps.length) (hD : items.size ≤ ps.length) (hdv : items.toList.drop (items.size - k) = dv)
    {Q : List (Str × Value) → Shared → Prop} (q : Q (ps.zip (cv ++ dv)) s) : wpAny M A (bindArgs fd ⟨cv, []⟩) Q E s := by
  obtain ⟨n, hit⟩ := hit
  have hgt : ¬ (cv.length > ps.length) := by omega
  unfold bindArgs
  simp only [h0, h1, h2, h3, h4, hd, List.map_nil, List.nil_append, List.forIn_nil, pure_bind]
  refine wpAny_bind (wpAny_seqItems ht hit ?_)
  simp only [hgt, Option.isNone_none, Bool.and_true, decide_false, Bool.false_eq_true, if_false, Option.getD_some]
  have e1 : items.toList.drop (items.toList.length - ps.length) = items.toList := by rw [show items.toList.length - ps.length = 0 by simp; omega, List.drop_zero]
  rw [e1]
  have hz : items.toList.length = items.size := by simp
  have hm : ((ps.take (ps.length - items.toList.length)).filter fun n => ((ps.zip cv).lookup n).isNone) = [] := by
    rw [List.filter_eq_nil_iff]
    intro x hx
    rw [zip_some (List.mem_of_mem_take (by
      have : ps.take (ps.length - items.toList.length) = (ps.take cv.length).take (ps.length - items.toList.length) := by rw [List.take_take]; congr 1; omega
      rw [this] at hx; exact hx))]
    decide
  rw [hm]
  simp only [List.isEmpty_nil, Bool.not_true, Bool.false_eq_true, if_false]
  have hf0 : ps.length - items.toList.length ≤ cv.length := by omega
  have hnd : (((ps.drop (ps.length - items.toList.length)).zip items.toList).map (·.1)).Nodup := by
    refine List.Sublist.nodup ?_ nd
    refine List.Sublist.trans ?_ (List.drop_sublist (ps.length - items.toList.length) ps)
    rw [List.map_fst_zip (by simp; omega)]
    exact List.Sublist.refl _
  refine wpAny_bind (dfl_all _ (fun _ _ _ => rfl) _ _ hnd ?_)
  have e2 : ((ps.drop (ps.length - items.toList.length)).zip items.toList).filter (fun p => ((ps.zip cv).lookup p.1).isNone) = (ps.drop cv.length).zip dv := by
    have h5 : ps.drop (ps.length - items.toList.length) = (ps.take cv.length).drop (ps.length - items.toList.length) ++ ps.drop cv.length := by
      conv => lhs; rw [← List.take_append_drop cv.length ps]
      rw [List.drop_append_of_le_length (by simp; omega), List.take_append_drop]
    have h6 : items.toList = items.toList.take (items.size - k) ++ dv := by rw [← hdv, List.take_append_drop]
    rw [h5]
    conv => lhs; rw [h6]
    have hdl' : dv.length = k := by rw [← hdv]; simp; omega
    rw [List.zip_append (by simp [hdl']; omega), List.filter_append]
    have h7 : (((ps.take cv.length).drop (ps.length - (items.toList.take (items.size - k) ++ dv).length)).zip (items.toList.take (items.size - k))).filter (fun p => ((ps.zip cv).lookup p.1).isNone) = [] := by
      rw [List.filter_eq_nil_iff]
      intro p hp
      have := List.of_mem_zip (a := p.1) (b := p.2) hp
      rw [zip_some (List.mem_of_mem_drop this.1)]
      decide
    rw [← h6] at h7
    have h8 : ((ps.drop cv.length).zip dv).filter (fun p => ((ps.zip cv).lookup p.1).isNone) = (ps.drop cv.length).zip dv := by
      rw [List.filter_eq_self]
      intro p hp
      have := List.of_mem_zip (a := p.1) (b := p.2) hp
      rw [zip_none fun hm => ?_]
      · rfl
      · have h9 := List.nodup_append.mp ((List.take_append_drop cv.length ps).symm ▸ nd)
        exact h9.2.2 _ hm _ this.1 rfl
    rw [← h6, h7, h8, List.nil_append]
  rw [e2]
  have e3 : ps.zip cv ++ (ps.drop cv.length).zip dv = ps.zip (cv ++ dv) := by
    rcases zip_tail (ps := ps) (cv := cv) (rest := dv) with h | h
    · exact h
    · omega
  have hdl : dv.length = k := by rw [← hdv]; simp; omega
  obtain ⟨z1, _⟩ := zip_look (ps := ps) (cv := cv ++ dv) nd (by rw [List.length_append, hdl, hl])
  rw [e3, List.append_nil, z1]
  exact wpAny_pure q
end
end Mine
set_option maxRecDepth 10000
namespace Mine
open PySem PySem.Calls PyProof.Rows PySem.W

/-- first the one, then the other -/
def seqK (next : Lo → AH → Prop) (Q : QS) : QS := fun f ρ H => match f with
  | .nrm => next ρ H
  | f => Q f ρ H
/-! ## Equations of the meanings, one a shape -/
section
variable {S : Sx} {n : Nat} {ρ : Lo} {κ : List Nat} {E : PE} {H : AH} {Q : PV} {t : Bool}
theorem fin_f {v : V} : fin false Q v H = Q v H := rfl
theorem fin_t {v : V} : fin true Q v H = truQ v H fun b => Q (.bb b) H := rfl
theorem tru_bb {b : Bool} {q : Bool → Prop} : truQ (.bb b) H q = q b := rfl
theorem tru_ii {b : Int} {q : Bool → Prop} : truQ (.ii b) H q = q (b != 0) := rfl
theorem tru_ss {s : List Nat} {q : Bool → Prop} : truQ (.ss s) H q = (s.length ≤ BIG ∧ q (!s.isEmpty)) := rfl
theorem tru_nn {q : Bool → Prop} : truQ .nn H q = q false := rfl
theorem onB_b {b : Bool} {f : Bool → Prop} : onB (.bb b) f = f b := rfl

theorem ev_nn : ev S n ρ κ E .nn t H Q = fin t Q .nn H := by rw [ev]
theorem ev_bb {b : Bool} : ev S n ρ κ E (.bb b) t H Q = fin t Q (.bb b) H := by rw [ev]
theorem ev_ii {i : Int} : ev S n ρ κ E (.ii i) t H Q = fin t Q (.ii i) H := by rw [ev]
theorem ev_ss {s : List Nat} : ev S n ρ κ E (.ss s) t H Q = fin t Q (.ss s) H := by rw [ev]
theorem ev_loc {i : Nat} : ev S n ρ κ E (.loc i) t H Q = ∃ v, ρ[i]? = some (some v) ∧ fin t Q v H := by rw [ev]
theorem ev_cel {i : Nat} : ev S n ρ κ E (.cel i) t H Q = ∃ j v, κ[i]? = some j ∧ H[j]? = some (.cell (some v)) ∧ fin t Q v H := by rw [ev]
theorem ev_glob {k : Nat} : ev S n ρ κ E (.glob k) t H Q = match S.gs k with
    | some x => fin t Q (.ss x) H
    | none => fin t Q (.gg k) H := by rw [ev]; first | done | (cases S.gs k <;> rfl)
theorem glob_s {k : Nat} {x : List Nat} (h : S.gs k = some x) : ev S n ρ κ E (.glob k) t H Q = fin t Q (.ss x) H := by rw [ev, h]
theorem glob_g {k : Nat} (h : S.gs k = none) : ev S n ρ κ E (.glob k) t H Q = fin t Q (.gg k) H := by rw [ev, h]
theorem ev_bin {op : Operator} {a b : X} : ev S n ρ κ E (.bin op a b) t H Q = ev S n ρ κ E a false H fun x H => ev S n ρ κ E b false H fun y H => binQ op x y H (fin t Q) := by rw [ev]
theorem ev_neg {a : X} : ev S n ρ κ E (.neg a) t H Q = ev S n ρ κ E a false H fun x H => ∃ i, x = .ii i ∧ fin t Q (.ii (-i)) H := by rw [ev]
theorem ev_cmp {op : CmpOp} {a b : X} : ev S n ρ κ E (.cmp op a b) t H Q = ev S n ρ κ E a false H fun x H => ev S n ρ κ E b false H fun y H => cmpQ S op x y H (fin t Q) := by rw [ev]
theorem ev_not_f {a : X} : ev S n ρ κ E (.not a) false H Q = ev S n ρ κ E a false H fun x H => truQ x H fun t => Q (.bb (!t)) H := by rw [ev]
theorem ev_not_t {a : X} : ev S n ρ κ E (.not a) true H Q = ev S n ρ κ E a true H fun x H => onB x fun t => Q (.bb (!t)) H := by rw [ev]
theorem ev_and {xs : XL} : ev S n ρ κ E (.and xs) t H Q = evA S n ρ κ E true xs t H Q := by rw [ev]
theorem ev_or {xs : XL} : ev S n ρ κ E (.or xs) t H Q = evA S n ρ κ E false xs t H Q := by rw [ev]
theorem ev_ite {c a b : X} : ev S n ρ κ E (.ite c a b) t H Q = ev S n ρ κ E c true H fun x H => onB x fun u => if u then ev S n ρ κ E a t H Q else ev S n ρ κ E b t H Q := by rw [ev]
theorem ev_bi {f : Bi} {xs : XL} : ev S n ρ κ E (.bi f xs) t H Q = evL S n ρ κ E xs H fun vs H => biQ S f vs H (fin t Q) := by rw [ev]
theorem ev_isi {x : X} {ty : Ty} : ev S n ρ κ E (.isi x ty) t H Q = ev S n ρ κ E x false H fun v H => isiQ v ty H (fin t Q) := by rw [ev]
theorem ev_call {f : X} {xs : XL} : ev S n ρ κ E (.call f xs) t H Q = ev S n ρ κ E f false H fun g H => evL S n ρ κ E xs H fun vs H => n ≠ 0 ∧ Calls S n g vs H (fin t Q) E := by rw [ev]
theorem ev_meth {o : X} {m : Nm} {xs : XL} : ev S n ρ κ E (.meth o m xs) t H Q = ev S n ρ κ E o false H fun ov H => ∃ c, calOf S ov m H = some c ∧ evL S n ρ κ E xs H fun vs H => calQ S n c vs H (fin t Q) E := by rw [ev]
theorem ev_rpl {m : X} {x y : Nat} {e : X} : ev S n ρ κ E (.rpl m x y e) t H Q = ev S n ρ κ E m false H fun mv H => ∃ s, mv = .ss s ∧ s.length ≤ 1000 ∧ ev S n ρ κ E e false H fun rv H => ∃ r, rv = .ss r ∧ r.length ≤ 1000 ∧ reprS r ≠ [x, y] ∧ (reprS r).length ≤ 16000 ∧
      fin t Q (.ss (joinS (reprS r) (split2 s x y))) H := by rw [ev]
theorem ev_attr {o : X} {a : Nm} : ev S n ρ κ E (.attr o a) t H Q = ev S n ρ κ E o false H fun ov H => attrQ S ov a H (fin t Q) := by rw [ev]
theorem ev_idx {o i : X} : ev S n ρ κ E (.idx o i) t H Q = ev S n ρ κ E o false H fun ov H => ev S n ρ κ E i false H fun iv H => idxQ S ov iv H (fin t Q) := by rw [ev]
theorem ev_sl {o : X} {lo hi : XO} : ev S n ρ κ E (.sl o lo hi) t H Q = ev S n ρ κ E o false H fun ov H => evO S n ρ κ E lo H fun l H => evO S n ρ κ E hi H fun u H => slQ ov l u H (fin t Q) := by rw [ev]
theorem ev_tup {xs : XL} : ev S n ρ κ E (.tup xs) t H Q = evL S n ρ κ E xs H fun vs H => vs.length ≤ BIG ∧ fin t Q (.tt vs) H := by rw [ev]
theorem ev_lst {xs : XL} : ev S n ρ κ E (.lst xs) t H Q = evL S n ρ κ E xs H fun vs H => vs.length ≤ BIG ∧ fin t Q (.rr H.length) (H ++ [.list vs]) := by rw [ev]
theorem ev_dct {ks : List (Nm × Int)} : ev S n ρ κ E (.dct ks) t H Q = ∀ ep, fin t Q (.rr H.length) (H ++ [.dict (dctC ks []) ep]) := by rw [ev]
theorem ev_lam {k : Nat} : ev S n ρ κ E (.lam k) t H Q = ∃ cs, (S.fns k).up.map (fun j => κ[j]?) = cs.map some ∧ fin t Q (.rr H.length) (H ++ [.fn k cs]) := by rw [ev]
theorem ev_mkl {a : X} : ev S n ρ κ E (.mkl a) t H Q = ev S n ρ κ E a false H fun v H => n ≠ 0 ∧ ∃ i es ep, v = .rr i ∧ H[i]? = some (.dict es ep) ∧ es.length ≤ 1000000 ∧ fin t Q (.rr H.length) (H ++ [.list (es.map fun p => .ss p.1)]) := by rw [ev]
theorem ev_mkd {a : X} : ev S n ρ κ E (.mkd a) t H Q = ev S n ρ κ E a false H fun v H => n ≠ 0 ∧ ∃ i xs es, v = .rr i ∧ H[i]? = some (.list xs) ∧ prsOf xs = some es ∧ es.length ≤ 1000000 ∧ ∀ ep, fin t Q (.rr H.length) (H ++ [.dict (updAll es []) ep]) := by rw [ev]
theorem evL_nil {q : List V → AH → Prop} : evL S n ρ κ E .nil H q = q [] H := by rw [evL]
theorem evL_cons {x : X} {xs : XL} {q : List V → AH → Prop} : evL S n ρ κ E (.cons x xs) H q = ev S n ρ κ E x false H fun v H => evL S n ρ κ E xs H fun vs H => q (v :: vs) H := by rw [evL]
theorem evO_none : evO S n ρ κ E .none H Q = Q .nn H := by rw [evO]
theorem evO_some {x : X} : evO S n ρ κ E (.some x) H Q = ev S n ρ κ E x false H Q := by rw [evO]
theorem evA_t {b : Bool} {x : X} {xs : XL} : evA S n ρ κ E b (.cons x xs) true H Q = ev S n ρ κ E x true H fun v H => onB v fun t => if t = b then evA S n ρ κ E b xs true H Q else Q (.bb t) H := by rw [evA]
theorem evA_tn {b : Bool} : evA S n ρ κ E b .nil true H Q = Q (.bb b) H := by rw [evA]
theorem evA_f1 {b : Bool} {x : X} : evA S n ρ κ E b (.cons x .nil) false H Q = ev S n ρ κ E x false H Q := by rw [evA]
theorem evA_f {b : Bool} {x y : X} {xs : XL} : evA S n ρ κ E b (.cons x (.cons y xs)) false H Q = ev S n ρ κ E x false H fun v H => truQ v H fun t => if t = b then evA S n ρ κ E b (.cons y xs) false H Q else Q v H := by
  rw [evA]; intro h; cases h
theorem tst_eq {x : X} {q : Bool → AH → Prop} : tst S n ρ κ E x H q = ev S n ρ κ E x true H fun v H => onB v fun b => q b H := rfl

/-! operations -/
theorem bin_add_ii {a b : Int} : binQ .Add (.ii a) (.ii b) H Q = Q (.ii (a + b)) H := rfl
theorem bin_sub_ii {a b : Int} : binQ .Sub (.ii a) (.ii b) H Q = Q (.ii (a - b)) H := rfl
theorem bin_mul_ii {a b : Int} : binQ .Mult (.ii a) (.ii b) H Q = (a.natAbs < 2 ^ 64 ∧ b.natAbs < 2 ^ 64 ∧ Q (.ii (a * b)) H) := rfl
theorem bin_div_ii {a b : Int} : binQ .FloorDiv (.ii a) (.ii b) H Q = (b ≠ 0 ∧ b.natAbs < 2 ^ 30 ∧ Q (.ii (a.fdiv b)) H) := rfl
theorem bin_mod_ii {a b : Int} : binQ .Mod (.ii a) (.ii b) H Q = (b ≠ 0 ∧ Q (.ii (a.fmod b)) H) := rfl
theorem bin_pow_ii {a b : Int} : binQ .Pow (.ii a) (.ii b) H Q = (0 ≤ b ∧ b ≤ 100 ∧ 2 ≤ a ∧ a ≤ 16 ∧ Q (.ii (a ^ b.toNat)) H) := rfl
theorem bin_shl_ii {a b : Int} : binQ .LShift (.ii a) (.ii b) H Q = (0 ≤ b ∧ b ≤ 1000 ∧ a.natAbs < 2 ^ 64 ∧ Q (.ii (a * 2 ^ b.toNat)) H) := rfl
theorem bin_or_ii {a b : Int} : binQ .BitOr (.ii a) (.ii b) H Q = Q (.ii (Builtin.bitOr a b)) H := rfl
theorem bin_and_ii {a b : Int} : binQ .BitAnd (.ii a) (.ii b) H Q = Q (.ii (Builtin.bitAnd a b)) H := rfl
theorem bin_add_ss {a b : List Nat} : binQ .Add (.ss a) (.ss b) H Q = (a.length + b.length ≤ BIG ∧ Q (.ss (a ++ b)) H) := rfl
theorem bin_mod_ss {a : List Nat} {b : List V} : binQ .Mod (.ss a) (.tt b) H Q = ∃ r, pctOf a b = some r ∧ Q (.ss r) H := rfl
theorem cmp_eq_ii {a b : Int} : cmpQ S .Eq (.ii a) (.ii b) H Q = Q (.bb (a == b)) H := rfl
theorem cmp_eq_ss {a b : List Nat} : cmpQ S .Eq (.ss a) (.ss b) H Q = Q (.bb (a == b)) H := rfl
theorem cmp_ne_ii {a b : Int} : cmpQ S .NotEq (.ii a) (.ii b) H Q = Q (.bb (a != b)) H := rfl
theorem cmp_ne_ss {a b : List Nat} : cmpQ S .NotEq (.ss a) (.ss b) H Q = Q (.bb (a != b)) H := rfl
theorem cmp_lt {a b : Int} : cmpQ S .Lt (.ii a) (.ii b) H Q = Q (.bb (decide (a < b))) H := rfl
theorem cmp_le {a b : Int} : cmpQ S .LtE (.ii a) (.ii b) H Q = Q (.bb (decide (a ≤ b))) H := rfl
theorem cmp_gt {a b : Int} : cmpQ S .Gt (.ii a) (.ii b) H Q = Q (.bb (decide (b < a))) H := rfl
theorem cmp_ge {a b : Int} : cmpQ S .GtE (.ii a) (.ii b) H Q = Q (.bb (decide (b ≤ a))) H := rfl
theorem cmp_is {a : V} : cmpQ S .Is a .nn H Q = (isGg a = false ∧ Q (.bb (isNn a)) H) := by cases a <;> rfl
theorem cmp_isn {a : V} : cmpQ S .IsNot a .nn H Q = (isGg a = false ∧ Q (.bb (!isNn a)) H) := by cases a <;> rfl
theorem cmp_in {a b : List Nat} : cmpQ S .In (.ss a) (.ss b) H Q = Q (.bb (strIn a b)) H := rfl
theorem cmp_nin {a b : List Nat} : cmpQ S .NotIn (.ss a) (.ss b) H Q = Q (.bb (!strIn a b)) H := rfl
theorem cmp_in_tt {a : List Nat} {ys : List V} : cmpQ S .In (.ss a) (.tt ys) H Q = (allSs ys = true ∧ ys.length ≤ 1000 ∧ Q (.bb (ys.any (ssEq a))) H) := rfl
theorem cmp_nin_gg {a : List Nat} {k : Nat} : cmpQ S .NotIn (.ss a) (.gg k) H Q = ∃ es, S.gd k = some es ∧ Q (.bb (!(es.lookup a).isSome)) H := rfl
theorem idx_ss {s : List Nat} {i : Int} : idxQ S (.ss s) (.ii i) H Q = (Fit i ∧ ∃ c, pyI s i = some c ∧ Q (.ss [c]) H) := rfl
theorem idx_tt {s : List V} {i : Int} : idxQ S (.tt s) (.ii i) H Q = (Fit i ∧ ∃ c, pyI s i = some c ∧ Q c H) := rfl
theorem idx_rr {j : Nat} {i : Int} : idxQ S (.rr j) (.ii i) H Q = (Fit i ∧ ∃ xs v, getL H j = some xs ∧ pyI xs i = some v ∧ Q v H) := rfl
theorem idx_rs {j : Nat} {k : List Nat} : idxQ S (.rr j) (.ss k) H Q = ∃ es v, getD' H j = some es ∧ es.lookup k = some v ∧ Q v H := rfl
theorem idx_gs {j : Nat} {k : List Nat} : idxQ S (.gg j) (.ss k) H Q = ∃ es v, S.gd j = some es ∧ es.lookup k = some v ∧ Q v H := rfl
theorem sl_ss_ii {s : List Nat} {a b : Int} : slQ (.ss s) (.ii a) (.ii b) H Q = (s.length ≤ BIG ∧ Q (.ss (pyS s (some a) (some b))) H) := by simp [slQ, partI]
theorem sl_ss_in {s : List Nat} {a : Int} : slQ (.ss s) (.ii a) .nn H Q = (s.length ≤ BIG ∧ Q (.ss (pyS s (some a) none)) H) := by simp [slQ, partI]
theorem sl_ss_ni {s : List Nat} {b : Int} : slQ (.ss s) .nn (.ii b) H Q = (s.length ≤ BIG ∧ Q (.ss (pyS s none (some b))) H) := by simp [slQ, partI]
theorem sl_rr_ii {j : Nat} {a b : Int} : slQ (.rr j) (.ii a) (.ii b) H Q = ∃ xs, getL H j = some xs ∧ xs.length ≤ BIG ∧ Q (.rr H.length) (H ++ [.list (pyS xs (some a) (some b))]) := by simp [slQ, partI]
theorem sl_rr_in {j : Nat} {a : Int} : slQ (.rr j) (.ii a) .nn H Q = ∃ xs, getL H j = some xs ∧ xs.length ≤ BIG ∧ Q (.rr H.length) (H ++ [.list (pyS xs (some a) none)]) := by simp [slQ, partI]
theorem sl_rr_ni {j : Nat} {b : Int} : slQ (.rr j) .nn (.ii b) H Q = ∃ xs, getL H j = some xs ∧ xs.length ≤ BIG ∧ Q (.rr H.length) (H ++ [.list (pyS xs none (some b))]) := by simp [slQ, partI]
theorem bi_len_ss {s : List Nat} : biQ S .len [.ss s] H Q = (s.length ≤ BIG ∧ Q (.ii s.length) H) := rfl
theorem bi_len_tt {s : List V} : biQ S .len [.tt s] H Q = (s.length ≤ BIG ∧ Q (.ii s.length) H) := rfl
theorem bi_len_rr {i : Nat} : biQ S .len [.rr i] H Q = ∃ ys, getL H i = some ys ∧ ys.length ≤ BIG ∧ Q (.ii ys.length) H := rfl
theorem bi_ord {c : Nat} : biQ S .ord [.ss [c]] H Q = Q (.ii c) H := rfl
theorem bi_chr {i : Int} : biQ S .chr [.ii i] H Q = (0 ≤ i ∧ i ≤ 0x10FFFF ∧ Q (.ss [i.toNat]) H) := rfl
theorem bi_int {s : List Nat} : biQ S .int [.ss s] H Q = (s.length ≤ 640 ∧ ∃ i, PySem.intText? ⟨s.toArray⟩ = some i ∧ Q (.ii i) H) := rfl
theorem bi_str {i : Int} : biQ S .str [.ii i] H Q = (i.natAbs < 2 ^ 1000 ∧ Q (.ss (decI i)) H) := rfl
theorem bi_repr {s : List Nat} : biQ S .repr [.ss s] H Q = ((reprS s).length ≤ BIG ∧ Q (.ss (reprS s)) H) := rfl
theorem bi_range1 {b : Int} : biQ S .range [.ii b] H Q = Q (.rg 0 b) H := rfl
theorem bi_range2 {a b : Int} : biQ S .range [.ii a, .ii b] H Q = Q (.rg a b) H := rfl
theorem aug_add {a b : Int} : augQ .Add (.ii a) (.ii b) H Q = Q (.ii (a + b)) H := rfl
theorem aug_sub {a b : Int} : augQ .Sub (.ii a) (.ii b) H Q = Q (.ii (a - b)) H := rfl

/-! statements -/
variable {q : QS} {e : ES}
theorem exs_nil_ : exs S κ .nil n ρ H q e = q .nrm ρ H := by rw [exs]
theorem exs_cons_ {s : St} {r : SL} : exs S κ (.cons s r) n ρ H q e = ex S κ s n ρ H (seqK (fun ρ H => exs S κ r n ρ H q e) q) e := by
  rw [exs]; congr 1
theorem sq_nrm {next : Lo → AH → Prop} : seqK next q .nrm ρ H = next ρ H := rfl
theorem sq_brk {next : Lo → AH → Prop} : seqK next q .brk ρ H = q .brk ρ H := rfl
theorem sq_cont {next : Lo → AH → Prop} : seqK next q .cont ρ H = q .cont ρ H := rfl
theorem sq_ret {next : Lo → AH → Prop} {v : V} : seqK next q (.ret v) ρ H = q (.ret v) ρ H := rfl
theorem ex_expr {x : X} : ex S κ (.expr x) n ρ H q e = ev S n ρ κ (e ρ) x false H fun _ H => q .nrm ρ H := by rw [ex]
theorem ex_asg {g : Tg} {x : X} : ex S κ (.asg g x) n ρ H q e = ev S n ρ κ (e ρ) x false H fun v H => setTg n κ g v ρ H fun ρ H => q .nrm ρ H := by rw [ex]
theorem ex_aug {i : Nat} {op : Operator} {x : X} : ex S κ (.aug i op x) n ρ H q e = ∃ old, ρ[i]? = some (some old) ∧ ev S n ρ κ (e ρ) x false H fun v H => augQ op old v H fun w H => q .nrm (ρ.set i (some w)) H := by rw [ex]
theorem ex_ifs {c : X} {a b : SL} : ex S κ (.ifs c a b) n ρ H q e = tst S n ρ κ (e ρ) c H fun t H => if t then exs S κ a n ρ H q e else exs S κ b n ρ H q e := by rw [ex]
theorem ex_ret {x : X} : ex S κ (.ret x) n ρ H q e = ev S n ρ κ (e ρ) x false H fun v H => q (.ret v) ρ H := by rw [ex]
theorem ex_brk : ex S κ .brk n ρ H q e = q .brk ρ H := by rw [ex]
theorem ex_cont : ex S κ .cont n ρ H q e = q .cont ρ H := by rw [ex]
theorem ex_raise {x : X} : ex S κ (.raise x) n ρ H q e = (n ≠ 0 ∧ ev S n ρ κ (e ρ) x false H fun v H => ∃ i c args d, v = .rr i ∧ H[i]? = some (.exc c args d true) ∧ S.isE c = true ∧ e ρ i (H.set i (.exc c args d false))) := by rw [ex]
theorem ex_whl {c : X} {b : SL} : ex S κ (.whl c b) n ρ H q e = ∃ Inv : Nat → Lo → AH → Prop, (∃ m, Inv m ρ H) ∧ ∀ m ρ H, Inv m ρ H → tst S n ρ κ (e ρ) c H fun t H => if t then exs S κ b n ρ H (loopK (fun ρ H => ∃ m' < m, Inv m' ρ H) q) e else q .nrm ρ H := by rw [ex]
theorem ex_for {g : Tg} {it : X} {b : SL} : ex S κ (.for_ g it b) n ρ H q e = ev S n ρ κ (e ρ) it false H fun src H => ∃ xs ep, snap H src = some (xs, ep) ∧ n ≠ 0 ∧ xs.length ≤ 1000000 ∧
      forGo (fun v ρ H K => setTg n κ g v ρ H fun ρ H => exs S κ b n ρ H K e) (fun H => snap H src = some (xs, ep)) xs ρ H q := by rw [ex]
theorem ex_put {o i x : X} : ex S κ (.put o i x) n ρ H q e = ev S n ρ κ (e ρ) x false H fun v H => ev S n ρ κ (e ρ) o false H fun ov H => ev S n ρ κ (e ρ) i false H fun iv H => putQ ov iv v H fun H => q .nrm ρ H := by rw [ex]
theorem ex_seta {o : X} {a : Nm} {x : X} : ex S κ (.seta o a x) n ρ H q e = ev S n ρ κ (e ρ) x false H fun v H => ev S n ρ κ (e ρ) o false H fun ov H => setaQ S ov a v H fun H => q .nrm ρ H := by rw [ex]
theorem lk_nrm {next : Lo → AH → Prop} : loopK next q .nrm ρ H = next ρ H := rfl
theorem lk_cont {next : Lo → AH → Prop} : loopK next q .cont ρ H = next ρ H := rfl
theorem lk_brk {next : Lo → AH → Prop} : loopK next q .brk ρ H = q .nrm ρ H := rfl
theorem lk_ret {next : Lo → AH → Prop} {v : V} : loopK next q (.ret v) ρ H = q (.ret v) ρ H := rfl
variable {K : Lo → AH → Prop}
theorem set_loc {i : Nat} {v : V} : setTg n κ (.loc i) v ρ H K = K (ρ.set i (some v)) H := rfl
theorem set_cel {i : Nat} {v : V} : setTg n κ (.cel i) v ρ H K = ∃ j w, κ[i]? = some j ∧ H[j]? = some (.cell w) ∧ K ρ (H.set j (.cell (some v))) := rfl
theorem set_two {a b : Tg} {v : V} : setTg n κ (.two a b) v ρ H K = (n ≠ 0 ∧ ∃ x y, unp H v = some [x, y] ∧ setTg n κ a x ρ H fun ρ H => setTg n κ b y ρ H K) := by rw [setTg]
theorem set_three {a b c : Tg} {v : V} : setTg n κ (.three a b c) v ρ H K = (n ≠ 0 ∧ ∃ x y z, unp H v = some [x, y, z] ∧ setTg n κ a x ρ H fun ρ H => setTg n κ b y ρ H fun ρ H => setTg n κ c z ρ H K) := by rw [setTg]
theorem set_four {i j l m : Nat} {v : V} : setTg n κ (.four i j l m) v ρ H K = (n ≠ 0 ∧ ∃ x y z u, unp H v = some [x, y, z, u] ∧ K ((((ρ.set i (some x)).set j (some y)).set l (some z)).set m (some u)) H) := by rw [setTg]
theorem unp_tt {xs : List V} : unp H (.tt xs) = some xs := rfl
end

/-! entry of a function -/
def endK (Q : PV) : QS := fun f _ H => match f with
  | .ret v => Q v H
  | _ => Q .nn H
section
variable {S : Sx} {n k : Nat} {cs : List Nat} {vs : List V} {H : AH} {Q : PV} {E : PE} {m : MF} {b : SL} {pts : List (Option Nat × Option Nat)} {ρ : Lo}
theorem end_ret {v : V} : endK Q (.ret v) ρ H = Q v H := rfl
theorem end_nrm : endK Q .nrm ρ H = Q .nn H := rfl
theorem callW_stm (hm : S.fns k = m) (hb : m.body = .inl b) (hp : ptOf m = pts)
    (q : exs S (kap m H.length cs) b n (bindP H.length pts vs (m.vars.map fun _ => none) (H ++ m.own.map fun _ => .cell none)).1 (bindP H.length pts vs (m.vars.map fun _ => none) (H ++ m.own.map fun _ => .cell none)).2 (endK Q) (fun _ i H => E i H)) : callW S n k cs vs H Q E := by
  subst hm hp
  unfold callW bodyW
  rw [hb]
  exact q
theorem callW_stm0 (hm : S.fns k = m) (ho : m.own = []) (hb : m.body = .inl b) (hp : ptOf m = pts)
    (q : exs S cs b n (bindP H.length pts vs (m.vars.map fun _ => none) H).1 (bindP H.length pts vs (m.vars.map fun _ => none) H).2 (endK Q) (fun _ i H => E i H)) : callW S n k cs vs H Q E := by
  refine callW_stm hm hb hp ?_
  have e : kap m H.length cs = cs := by unfold kap; rw [ho]; rfl
  rw [e, ho, List.map_nil, List.append_nil]
  exact q
theorem callW_exp (hm : S.fns k = m) (ho : m.own = []) {x : X} (hb : m.body = .inr x) (hp : ptOf m = pts)
    (q : ev S n (bindP H.length pts vs (m.vars.map fun _ => none) H).1 cs E x false (bindP H.length pts vs (m.vars.map fun _ => none) H).2 Q) : callW S n k cs vs H Q E := by
  subst hm hp
  have e : kap (S.fns k) H.length cs = cs := by unfold kap; rw [ho]; rfl
  unfold callW bodyW
  rw [e, ho, List.map_nil, List.append_nil, hb]
  exact q
end
end Mine
set_option maxRecDepth 100000
open PySem PySem.W
namespace Mine
def b0 : SL := (.cons (.asg (.loc 2) (.sl (.loc 0) .none (.some (.loc 1))))
  (.cons (.asg (.loc 3) (.bin .Add (.meth (.loc 2) [99, 111, 117, 110, 116] (.cons (.ss [10]) .nil)) (.ii 1)))
  (.cons (.ifs (.cmp .Eq (.loc 3) (.ii 1))
  (.cons (.asg (.loc 4) (.bin .Add (.loc 1) (.ii 1)))
  .nil)
  (.cons (.asg (.loc 4) (.bin .Sub (.loc 1) (.meth (.loc 2) [114, 105, 110, 100, 101, 120] (.cons (.ss [10]) .nil))))
  .nil))
  (.cons (.ret (.tup (.cons (.loc 3) (.cons (.loc 4) .nil))))
  .nil))))
def f0 : MF := ⟨["doc", "pos"], ["doc", "pos", "before", "lineno", "colno"], [], [], [], .inl b0⟩
theorem cw0 {S : Sx} {n : Nat} {cs : List Nat} {v0 v1 : V} {H : AH} {Q : PV} {E : PE} (h : S.fns 0 = f0) (q : exs S cs b0 n [some v0, some v1, none, none, none] H (endK Q) (fun _ i H => E i H)) : callW S n 0 cs [v0, v1] H Q E := callW_stm0 h rfl rfl (pts := [(some 0, none), (some 1, none)]) (by decide +kernel) q
def b1 : SL := (.cons (.asg (.two (.loc 4) (.loc 5)) (.call (.glob 0) (.cons (.loc 1) (.cons (.loc 2) .nil))))
  (.cons (.asg (.loc 0) (.rpl (.loc 0) 37 114 (.sl (.loc 1) (.some (.loc 2)) (.some (.bin .Add (.loc 2) (.ii 1))))))
  (.cons (.ifs (.cmp .Is (.loc 3) .nn)
  (.cons (.ret (.bin .Mod (.ss [37, 115, 58, 32, 108, 105, 110, 101, 32, 37, 100, 32, 99, 111, 108, 117, 109, 110, 32, 37, 100, 32, 40, 99, 104, 97, 114, 32, 37, 100, 41]) (.tup (.cons (.loc 0) (.cons (.loc 4) (.cons (.loc 5) (.cons (.loc 2) .nil)))))))
  .nil)
  .nil)
  (.cons (.asg (.two (.loc 6) (.loc 7)) (.call (.glob 0) (.cons (.loc 1) (.cons (.loc 3) .nil))))
  (.cons (.ret (.bin .Mod (.ss [37, 115, 58, 32, 108, 105, 110, 101, 32, 37, 100, 32, 99, 111, 108, 117, 109, 110, 32, 37, 100, 32, 45, 32, 108, 105, 110, 101, 32, 37, 100, 32, 99, 111, 108, 117, 109, 110, 32, 37, 100, 32, 40, 99, 104, 97, 114, 32, 37, 100, 32, 45, 32, 37, 100, 41]) (.tup (.cons (.loc 0) (.cons (.loc 4) (.cons (.loc 5) (.cons (.loc 6) (.cons (.loc 7) (.cons (.loc 2) (.cons (.loc 3) .nil))))))))))
  .nil)))))
def f1 : MF := ⟨["msg", "doc", "pos", "end"], ["msg", "doc", "pos", "end", "lineno", "colno", "endlineno", "endcolno"], [], [], [], .inl b1⟩
theorem cw1 {S : Sx} {n : Nat} {cs : List Nat} {v0 v1 v2 v3 : V} {H : AH} {Q : PV} {E : PE} (h : S.fns 1 = f1) (q : exs S cs b1 n [some v0, some v1, some v2, some v3, none, none, none, none] H (endK Q) (fun _ i H => E i H)) : callW S n 1 cs [v0, v1, v2, v3] H Q E := callW_stm0 h rfl rfl (pts := [(some 0, none), (some 1, none), (some 2, none), (some 3, none)]) (by decide +kernel) q
def b2 : SL := (.cons (.sup 0 (.call (.glob 1) (.cons (.loc 1) (.cons (.loc 2) (.cons (.loc 3) (.cons (.loc 4) .nil))))))
  (.cons (.seta (.loc 0) [109, 115, 103] (.loc 1))
  (.cons (.seta (.loc 0) [100, 111, 99] (.loc 2))
  (.cons (.seta (.loc 0) [112, 111, 115] (.loc 3))
  (.cons (.seta (.loc 0) [101, 110, 100] (.loc 4))
  (.cons (.seta2 (.loc 0) [108, 105, 110, 101, 110, 111] (.loc 0) [99, 111, 108, 110, 111] (.call (.glob 0) (.cons (.loc 2) (.cons (.loc 3) .nil))))
  (.cons (.ifs (.cmp .IsNot (.loc 4) .nn)
  (.cons (.seta2 (.loc 0) [101, 110, 100, 108, 105, 110, 101, 110, 111] (.loc 0) [101, 110, 100, 99, 111, 108, 110, 111] (.call (.glob 0) (.cons (.loc 2) (.cons (.loc 4) .nil))))
  .nil)
  (.cons (.seta2 (.loc 0) [101, 110, 100, 108, 105, 110, 101, 110, 111] (.loc 0) [101, 110, 100, 99, 111, 108, 110, 111] (.tup (.cons .nn (.cons .nn .nil))))
  .nil))
  .nil)))))))
def f2 : MF := ⟨["self", "msg", "doc", "pos", "end"], ["self", "msg", "doc", "pos", "end"], [], [], [], .inl b2⟩
theorem cw2 {S : Sx} {n : Nat} {cs : List Nat} {v0 v1 v2 v3 v4 : V} {H : AH} {Q : PV} {E : PE} (h : S.fns 2 = f2) (q : exs S cs b2 n [some v0, some v1, some v2, some v3, some v4] H (endK Q) (fun _ i H => E i H)) : callW S n 2 cs [v0, v1, v2, v3, v4] H Q E := callW_stm0 h rfl rfl (pts := [(some 0, none), (some 1, none), (some 2, none), (some 3, none), (some 4, none)]) (by decide +kernel) q
def b3 : SL := (.cons (.whl (.and (.cons (.cmp .NotEq (.sl (.loc 0) (.some (.loc 1)) (.some (.bin .Add (.loc 1) (.ii 1)))) (.ss [])) (.cons (.cmp .In (.sl (.loc 0) (.some (.loc 1)) (.some (.bin .Add (.loc 1) (.ii 1)))) (.ss [48, 49, 50, 51, 52, 53, 54, 55, 56, 57])) .nil)))
  (.cons (.aug 1 .Add (.ii 1))
  .nil))
  (.cons (.ret (.loc 1))
  .nil))
def f3 : MF := ⟨["s", "end"], ["s", "end"], [], [], [], .inl b3⟩
theorem cw3 {S : Sx} {n : Nat} {cs : List Nat} {v0 v1 : V} {H : AH} {Q : PV} {E : PE} (h : S.fns 3 = f3) (q : exs S cs b3 n [some v0, some v1] H (endK Q) (fun _ i H => E i H)) : callW S n 3 cs [v0, v1] H Q E := callW_stm0 h rfl rfl (pts := [(some 0, none), (some 1, none)]) (by decide +kernel) q
def b4 : SL := (.cons (.asg (.loc 2) (.loc 1))
  (.cons (.ifs (.cmp .Eq (.sl (.loc 0) (.some (.loc 2)) (.some (.bin .Add (.loc 2) (.ii 1)))) (.ss [45]))
  (.cons (.aug 2 .Add (.ii 1))
  .nil)
  .nil)
  (.cons (.asg (.loc 3) (.loc 2))
  (.cons (.asg (.loc 2) (.call (.glob 2) (.cons (.loc 0) (.cons (.loc 2) .nil))))
  (.cons (.ifs (.cmp .Eq (.loc 2) (.loc 3))
  (.cons (.ret .nn)
  .nil)
  .nil)
  (.cons (.ifs (.cmp .Eq (.idx (.loc 0) (.loc 3)) (.ss [48]))
  (.cons (.asg (.loc 2) (.bin .Add (.loc 3) (.ii 1)))
  .nil)
  .nil)
  (.cons (.asg (.loc 4) (.sl (.loc 0) (.some (.loc 1)) (.some (.loc 2))))
  (.cons (.asg (.loc 5) (.ss []))
  (.cons (.ifs (.cmp .Eq (.sl (.loc 0) (.some (.loc 2)) (.some (.bin .Add (.loc 2) (.ii 1)))) (.ss [46]))
  (.cons (.asg (.loc 6) (.call (.glob 2) (.cons (.loc 0) (.cons (.bin .Add (.loc 2) (.ii 1)) .nil))))
  (.cons (.ifs (.cmp .Gt (.loc 6) (.bin .Add (.loc 2) (.ii 1)))
  (.cons (.asg (.loc 5) (.sl (.loc 0) (.some (.loc 2)) (.some (.loc 6))))
  (.cons (.asg (.loc 2) (.loc 6))
  .nil))
  .nil)
  .nil))
  .nil)
  (.cons (.asg (.loc 7) (.ss []))
  (.cons (.ifs (.or (.cons (.cmp .Eq (.sl (.loc 0) (.some (.loc 2)) (.some (.bin .Add (.loc 2) (.ii 1)))) (.ss [101])) (.cons (.cmp .Eq (.sl (.loc 0) (.some (.loc 2)) (.some (.bin .Add (.loc 2) (.ii 1)))) (.ss [69])) .nil)))
  (.cons (.asg (.loc 6) (.bin .Add (.loc 2) (.ii 1)))
  (.cons (.ifs (.or (.cons (.cmp .Eq (.sl (.loc 0) (.some (.loc 6)) (.some (.bin .Add (.loc 6) (.ii 1)))) (.ss [45])) (.cons (.cmp .Eq (.sl (.loc 0) (.some (.loc 6)) (.some (.bin .Add (.loc 6) (.ii 1)))) (.ss [43])) .nil)))
  (.cons (.aug 6 .Add (.ii 1))
  .nil)
  .nil)
  (.cons (.asg (.loc 8) (.call (.glob 2) (.cons (.loc 0) (.cons (.loc 6) .nil))))
  (.cons (.ifs (.cmp .Gt (.loc 8) (.loc 6))
  (.cons (.asg (.loc 7) (.sl (.loc 0) (.some (.loc 2)) (.some (.loc 8))))
  (.cons (.asg (.loc 2) (.loc 8))
  .nil))
  .nil)
  .nil))))
  .nil)
  (.cons (.ret (.tup (.cons (.loc 4) (.cons (.loc 5) (.cons (.loc 7) (.cons (.loc 2) .nil))))))
  .nil))))))))))))
def f4 : MF := ⟨["s", "idx"], ["s", "idx", "end", "start", "integer", "frac", "stop", "exp", "last"], [], [], [], .inl b4⟩
theorem cw4 {S : Sx} {n : Nat} {cs : List Nat} {v0 v1 : V} {H : AH} {Q : PV} {E : PE} (h : S.fns 4 = f4) (q : exs S cs b4 n [some v0, some v1, none, none, none, none, none, none, none] H (endK Q) (fun _ i H => E i H)) : callW S n 4 cs [v0, v1] H Q E := callW_stm0 h rfl rfl (pts := [(some 0, none), (some 1, none)]) (by decide +kernel) q
def b5 : SL := (.cons (.asg (.cel 7) (.attr (.loc 0) [112, 97, 114, 115, 101, 95, 111, 98, 106, 101, 99, 116]))
  (.cons (.asg (.cel 4) (.attr (.loc 0) [112, 97, 114, 115, 101, 95, 97, 114, 114, 97, 121]))
  (.cons (.asg (.cel 8) (.attr (.loc 0) [112, 97, 114, 115, 101, 95, 115, 116, 114, 105, 110, 103]))
  (.cons (.asg (.cel 9) (.attr (.loc 0) [115, 116, 114, 105, 99, 116]))
  (.cons (.asg (.cel 5) (.attr (.loc 0) [112, 97, 114, 115, 101, 95, 102, 108, 111, 97, 116]))
  (.cons (.asg (.cel 6) (.attr (.loc 0) [112, 97, 114, 115, 101, 95, 105, 110, 116]))
  (.cons (.asg (.cel 2) (.attr (.loc 0) [111, 98, 106, 101, 99, 116, 95, 104, 111, 111, 107]))
  (.cons (.asg (.cel 3) (.attr (.loc 0) [111, 98, 106, 101, 99, 116, 95, 112, 97, 105, 114, 115, 95, 104, 111, 111, 107]))
  (.cons (.asg (.cel 1) (.attr (.loc 0) [97, 114, 114, 97, 121, 95, 104, 111, 111, 107]))
  (.cons (.def_ (.cel 0) 6)
  (.cons (.def_ (.loc 1) 7)
  (.cons (.ret (.loc 1))
  .nil))))))))))))
def f5 : MF := ⟨["context"], ["context", "scan_once"], ["_scan_once", "array_hook", "object_hook", "object_pairs_hook", "parse_array", "parse_float", "parse_int", "parse_object", "parse_string", "strict"], [], [], .inl b5⟩
theorem cw5 {S : Sx} {n : Nat} {cs : List Nat} {v0 : V} {H : AH} {Q : PV} {E : PE} (h : S.fns 5 = f5) (q : exs S ([H.length + 0, H.length + 1, H.length + 2, H.length + 3, H.length + 4, H.length + 5, H.length + 6, H.length + 7, H.length + 8, H.length + 9] ++ cs) b5 n [some v0, none] (H ++ [O.cell none, O.cell none, O.cell none, O.cell none, O.cell none, O.cell none, O.cell none, O.cell none, O.cell none, O.cell none]) (endK Q) (fun _ i H => E i H)) : callW S n 5 cs [v0] H Q E := callW_stm h rfl (pts := [(some 0, none)]) (by decide +kernel) q
def b6 : SL := (.cons (.asg (.loc 2) (.ss [69, 120, 112, 101, 99, 116, 105, 110, 103, 32, 118, 97, 108, 117, 101]))
  (.cons (.ifs (.cmp .GtE (.loc 1) (.bi .len (.cons (.loc 0) .nil)))
  (.cons (.raise (.call (.glob 3) (.cons (.loc 2) (.cons (.loc 0) (.cons (.loc 1) .nil)))))
  .nil)
  .nil)
  (.cons (.asg (.loc 3) (.idx (.loc 0) (.loc 1)))
  (.cons (.ifs (.cmp .Eq (.loc 3) (.ss [34]))
  (.cons (.ret (.call (.cel 8) (.cons (.loc 0) (.cons (.bin .Add (.loc 1) (.ii 1)) (.cons (.cel 9) .nil)))))
  .nil)
  (.cons (.ifs (.cmp .Eq (.loc 3) (.ss [123]))
  (.cons (.ret (.call (.cel 7) (.cons (.tup (.cons (.loc 0) (.cons (.bin .Add (.loc 1) (.ii 1)) .nil))) (.cons (.cel 9) (.cons (.cel 0) (.cons (.cel 2) (.cons (.cel 3) .nil)))))))
  .nil)
  (.cons (.ifs (.cmp .Eq (.loc 3) (.ss [91]))
  (.cons (.ret (.call (.cel 4) (.cons (.tup (.cons (.loc 0) (.cons (.bin .Add (.loc 1) (.ii 1)) .nil))) (.cons (.cel 0) (.cons (.cel 1) .nil)))))
  .nil)
  (.cons (.ifs (.and (.cons (.cmp .Eq (.loc 3) (.ss [110])) (.cons (.cmp .Eq (.sl (.loc 0) (.some (.loc 1)) (.some (.bin .Add (.loc 1) (.ii 4)))) (.ss [110, 117, 108, 108])) .nil)))
  (.cons (.ret (.tup (.cons .nn (.cons (.bin .Add (.loc 1) (.ii 4)) .nil))))
  .nil)
  (.cons (.ifs (.and (.cons (.cmp .Eq (.loc 3) (.ss [116])) (.cons (.cmp .Eq (.sl (.loc 0) (.some (.loc 1)) (.some (.bin .Add (.loc 1) (.ii 4)))) (.ss [116, 114, 117, 101])) .nil)))
  (.cons (.ret (.tup (.cons (.bb true) (.cons (.bin .Add (.loc 1) (.ii 4)) .nil))))
  .nil)
  (.cons (.ifs (.and (.cons (.cmp .Eq (.loc 3) (.ss [102])) (.cons (.cmp .Eq (.sl (.loc 0) (.some (.loc 1)) (.some (.bin .Add (.loc 1) (.ii 5)))) (.ss [102, 97, 108, 115, 101])) .nil)))
  (.cons (.ret (.tup (.cons (.bb false) (.cons (.bin .Add (.loc 1) (.ii 5)) .nil))))
  .nil)
  .nil)
  .nil))
  .nil))
  .nil))
  .nil))
  .nil))
  (.cons (.asg (.loc 4) (.call (.glob 4) (.cons (.loc 0) (.cons (.loc 1) .nil))))
  (.cons (.ifs (.cmp .IsNot (.loc 4) .nn)
  (.cons (.asg (.four 5 6 7 8) (.loc 4))
  (.cons (.ifs (.or (.cons (.loc 6) (.cons (.loc 7) .nil)))
  (.cons (.ifs (.cmp .Is (.cel 5) .nn)
  (.cons (.asg (.loc 9) (.call (.glob 5) (.cons (.bin .Add (.bin .Add (.loc 5) (.loc 6)) (.loc 7)) .nil)))
  .nil)
  (.cons (.asg (.loc 9) (.call (.cel 5) (.cons (.bin .Add (.bin .Add (.loc 5) (.loc 6)) (.loc 7)) .nil)))
  .nil))
  .nil)
  (.cons (.ifs (.cmp .Is (.cel 6) .nn)
  (.cons (.asg (.loc 9) (.bi .int (.cons (.loc 5) .nil)))
  .nil)
  (.cons (.asg (.loc 9) (.call (.cel 6) (.cons (.loc 5) .nil)))
  .nil))
  .nil))
  (.cons (.ret (.tup (.cons (.loc 9) (.cons (.loc 8) .nil))))
  .nil)))
  (.cons (.raise (.call (.glob 3) (.cons (.loc 2) (.cons (.loc 0) (.cons (.loc 1) .nil)))))
  .nil))
  .nil))))))
def f6 : MF := ⟨["string", "idx"], ["string", "idx", "errmsg", "nextchar", "m", "integer", "frac", "exp", "end", "res"], [], ["_scan_once", "array_hook", "object_hook", "object_pairs_hook", "parse_array", "parse_float", "parse_int", "parse_object", "parse_string", "strict"], [0, 1, 2, 3, 4, 5, 6, 7, 8, 9], .inl b6⟩
theorem cw6 {S : Sx} {n : Nat} {cs : List Nat} {v0 v1 : V} {H : AH} {Q : PV} {E : PE} (h : S.fns 6 = f6) (q : exs S cs b6 n [some v0, some v1, none, none, none, none, none, none, none, none] H (endK Q) (fun _ i H => E i H)) : callW S n 6 cs [v0, v1] H Q E := callW_stm0 h rfl rfl (pts := [(some 0, none), (some 1, none)]) (by decide +kernel) q
def b7 : SL := (.cons (.ifs (.cmp .Lt (.loc 1) (.ii 0))
  (.cons (.raise (.call (.glob 3) (.cons (.ss [69, 120, 112, 101, 99, 116, 105, 110, 103, 32, 118, 97, 108, 117, 101]) (.cons (.loc 0) (.cons (.loc 1) .nil)))))
  .nil)
  .nil)
  (.cons (.ret (.call (.cel 0) (.cons (.loc 0) (.cons (.loc 1) .nil))))
  .nil))
def f7 : MF := ⟨["string", "idx"], ["string", "idx"], [], ["_scan_once"], [0], .inl b7⟩
theorem cw7 {S : Sx} {n : Nat} {cs : List Nat} {v0 v1 : V} {H : AH} {Q : PV} {E : PE} (h : S.fns 7 = f7) (q : exs S cs b7 n [some v0, some v1] H (endK Q) (fun _ i H => E i H)) : callW S n 7 cs [v0, v1] H Q E := callW_stm0 h rfl rfl (pts := [(some 0, none), (some 1, none)]) (by decide +kernel) q
def b8 : SL := (.cons (.ifs (.cmp .Gt (.loc 1) (.bi .len (.cons (.loc 0) .nil)))
  (.cons (.asg (.loc 1) (.bi .len (.cons (.loc 0) .nil)))
  .nil)
  .nil)
  (.cons (.whl (.and (.cons (.cmp .NotEq (.sl (.loc 0) (.some (.loc 1)) (.some (.bin .Add (.loc 1) (.ii 1)))) (.ss [])) (.cons (.cmp .In (.sl (.loc 0) (.some (.loc 1)) (.some (.bin .Add (.loc 1) (.ii 1)))) (.glob 6)) .nil)))
  (.cons (.aug 1 .Add (.ii 1))
  .nil))
  (.cons (.ret (.loc 1))
  .nil)))
def f8 : MF := ⟨["s", "end"], ["s", "end"], [], [], [], .inl b8⟩
theorem cw8 {S : Sx} {n : Nat} {cs : List Nat} {v0 v1 : V} {H : AH} {Q : PV} {E : PE} (h : S.fns 8 = f8) (q : exs S cs b8 n [some v0, some v1] H (endK Q) (fun _ i H => E i H)) : callW S n 8 cs [v0, v1] H Q E := callW_stm0 h rfl rfl (pts := [(some 0, none), (some 1, none)]) (by decide +kernel) q
def b9 : SL := (.cons (.asg (.loc 2) (.loc 1))
  (.cons (.whl (.cmp .Lt (.loc 1) (.bi .len (.cons (.loc 0) .nil)))
  (.cons (.asg (.loc 3) (.idx (.loc 0) (.loc 1)))
  (.cons (.ifs (.or (.cons (.cmp .Eq (.loc 3) (.ss [34])) (.cons (.cmp .Eq (.loc 3) (.ss [92])) (.cons (.cmp .Lt (.bi .ord (.cons (.loc 3) .nil)) (.ii 32)) .nil))))
  (.cons (.ret (.tup (.cons (.sl (.loc 0) (.some (.loc 2)) (.some (.loc 1))) (.cons (.loc 3) (.cons (.bin .Add (.loc 1) (.ii 1)) .nil)))))
  .nil)
  .nil)
  (.cons (.aug 1 .Add (.ii 1))
  .nil))))
  (.cons (.ret .nn)
  .nil)))
def f9 : MF := ⟨["s", "end"], ["s", "end", "start", "char"], [], [], [], .inl b9⟩
theorem cw9 {S : Sx} {n : Nat} {cs : List Nat} {v0 v1 : V} {H : AH} {Q : PV} {E : PE} (h : S.fns 9 = f9) (q : exs S cs b9 n [some v0, some v1, none, none] H (endK Q) (fun _ i H => E i H)) : callW S n 9 cs [v0, v1] H Q E := callW_stm0 h rfl rfl (pts := [(some 0, none), (some 1, none)]) (by decide +kernel) q
def b10 : SL := (.cons (.asg (.loc 2) (.ss [73, 110, 118, 97, 108, 105, 100, 32, 92, 117, 88, 88, 88, 88, 32, 101, 115, 99, 97, 112, 101, 32, 115, 101, 113, 117, 101, 110, 99, 101]))
  (.cons (.asg (.loc 3) (.sl (.loc 0) (.some (.loc 1)) (.some (.bin .Add (.loc 1) (.ii 4)))))
  (.cons (.ifs (.cmp .NotEq (.bi .len (.cons (.loc 3) .nil)) (.ii 4))
  (.cons (.raise (.call (.glob 3) (.cons (.loc 2) (.cons (.loc 0) (.cons (.bin .Sub (.loc 1) (.ii 2)) .nil)))))
  .nil)
  .nil)
  (.cons (.asg (.loc 4) (.ii 0))
  (.cons (.for_ (.loc 5) (.loc 3)
  (.cons (.ifs (.cmp .NotIn (.loc 5) (.ss [48, 49, 50, 51, 52, 53, 54, 55, 56, 57, 97, 98, 99, 100, 101, 102, 65, 66, 67, 68, 69, 70]))
  (.cons (.raise (.call (.glob 3) (.cons (.loc 2) (.cons (.loc 0) (.cons (.bin .Sub (.loc 1) (.ii 2)) .nil)))))
  .nil)
  .nil)
  (.cons (.asg (.loc 4) (.bin .Add (.bin .Mult (.loc 4) (.ii 16)) (.meth (.glob 7) [105, 110, 100, 101, 120] (.cons (.meth (.loc 5) [108, 111, 119, 101, 114] .nil) .nil))))
  .nil)))
  (.cons (.ret (.tup (.cons (.loc 4) (.cons (.bin .Add (.loc 1) (.ii 4)) .nil))))
  .nil))))))
def f10 : MF := ⟨["s", "end"], ["s", "end", "msg", "esc", "uni", "char"], [], [], [], .inl b10⟩
theorem cw10 {S : Sx} {n : Nat} {cs : List Nat} {v0 v1 : V} {H : AH} {Q : PV} {E : PE} (h : S.fns 10 = f10) (q : exs S cs b10 n [some v0, some v1, none, none, none, none] H (endK Q) (fun _ i H => E i H)) : callW S n 10 cs [v0, v1] H Q E := callW_stm0 h rfl rfl (pts := [(some 0, none), (some 1, none)]) (by decide +kernel) q
def b11 : SL := (.cons (.asg (.loc 3) (.lst .nil))
  (.cons (.asg (.loc 4) (.bin .Sub (.loc 1) (.ii 1)))
  (.cons (.whl (.ii 1)
  (.cons (.asg (.loc 5) (.call (.glob 8) (.cons (.loc 0) (.cons (.loc 1) .nil))))
  (.cons (.ifs (.cmp .Is (.loc 5) .nn)
  (.cons (.raise (.call (.glob 3) (.cons (.ss [85, 110, 116, 101, 114, 109, 105, 110, 97, 116, 101, 100, 32, 115, 116, 114, 105, 110, 103, 32, 115, 116, 97, 114, 116, 105, 110, 103, 32, 97, 116]) (.cons (.loc 0) (.cons (.loc 4) .nil)))))
  .nil)
  .nil)
  (.cons (.asg (.three (.loc 6) (.loc 7) (.loc 1)) (.loc 5))
  (.cons (.ifs (.loc 6)
  (.cons (.expr (.meth (.loc 3) [97, 112, 112, 101, 110, 100] (.cons (.loc 6) .nil)))
  .nil)
  .nil)
  (.cons (.ifs (.cmp .Eq (.loc 7) (.ss [34]))
  (.cons .brk
  .nil)
  (.cons (.ifs (.cmp .NotEq (.loc 7) (.ss [92]))
  (.cons (.ifs (.loc 2)
  (.cons (.asg (.loc 8) (.ss [73, 110, 118, 97, 108, 105, 100, 32, 99, 111, 110, 116, 114, 111, 108, 32, 99, 104, 97, 114, 97, 99, 116, 101, 114, 32, 37, 114, 32, 97, 116]))
  (.cons (.raise (.call (.glob 3) (.cons (.loc 8) (.cons (.loc 0) (.cons (.bin .Sub (.loc 1) (.ii 1)) .nil)))))
  .nil))
  (.cons (.expr (.meth (.loc 3) [97, 112, 112, 101, 110, 100] (.cons (.loc 7) .nil)))
  (.cons .cont
  .nil)))
  .nil)
  .nil)
  .nil))
  (.cons (.ifs (.cmp .GtE (.loc 1) (.bi .len (.cons (.loc 0) .nil)))
  (.cons (.raise (.call (.glob 3) (.cons (.ss [85, 110, 116, 101, 114, 109, 105, 110, 97, 116, 101, 100, 32, 115, 116, 114, 105, 110, 103, 32, 115, 116, 97, 114, 116, 105, 110, 103, 32, 97, 116]) (.cons (.loc 0) (.cons (.loc 4) .nil)))))
  .nil)
  .nil)
  (.cons (.asg (.loc 9) (.idx (.loc 0) (.loc 1)))
  (.cons (.ifs (.cmp .NotEq (.loc 9) (.ss [117]))
  (.cons (.ifs (.cmp .NotIn (.loc 9) (.glob 9))
  (.cons (.asg (.loc 8) (.ss [73, 110, 118, 97, 108, 105, 100, 32, 92, 88, 32, 101, 115, 99, 97, 112, 101, 32, 115, 101, 113, 117, 101, 110, 99, 101, 32, 37, 114]))
  (.cons (.raise (.call (.glob 3) (.cons (.loc 8) (.cons (.loc 0) (.cons (.loc 1) .nil)))))
  .nil))
  .nil)
  (.cons (.asg (.loc 10) (.idx (.glob 9) (.loc 9)))
  (.cons (.aug 1 .Add (.ii 1))
  .nil)))
  (.cons (.asg (.two (.loc 11) (.loc 1)) (.call (.glob 10) (.cons (.loc 0) (.cons (.bin .Add (.loc 1) (.ii 1)) .nil))))
  (.cons (.ifs (.and (.cons (.cmp .Eq (.bin .BitAnd (.loc 11) (.ii 64512)) (.ii 55296)) (.cons (.cmp .Eq (.sl (.loc 0) (.some (.loc 1)) (.some (.bin .Add (.loc 1) (.ii 2)))) (.ss [92, 117])) .nil)))
  (.cons (.asg (.two (.loc 12) (.loc 13)) (.call (.glob 10) (.cons (.loc 0) (.cons (.bin .Add (.loc 1) (.ii 2)) .nil))))
  (.cons (.ifs (.cmp .Eq (.bin .BitAnd (.loc 12) (.ii 64512)) (.ii 56320))
  (.cons (.asg (.loc 11) (.bin .Add (.ii 65536) (.bin .BitOr (.bin .LShift (.bin .Sub (.loc 11) (.ii 55296)) (.ii 10)) (.bin .Sub (.loc 12) (.ii 56320)))))
  (.cons (.asg (.loc 1) (.loc 13))
  .nil))
  .nil)
  .nil))
  .nil)
  (.cons (.asg (.loc 10) (.bi .chr (.cons (.loc 11) .nil)))
  .nil))))
  (.cons (.expr (.meth (.loc 3) [97, 112, 112, 101, 110, 100] (.cons (.loc 10) .nil)))
  .nil))))))))))
  (.cons (.ret (.tup (.cons (.meth (.ss []) [106, 111, 105, 110] (.cons (.loc 3) .nil)) (.cons (.loc 1) .nil))))
  .nil))))
def f11 : MF := ⟨["s", "end", "strict"], ["s", "end", "strict", "chunks", "begin", "chunk", "content", "terminator", "msg", "esc", "char", "uni", "uni2", "end2"], [], [], [], .inl b11⟩
theorem cw11 {S : Sx} {n : Nat} {cs : List Nat} {v0 v1 v2 : V} {H : AH} {Q : PV} {E : PE} (h : S.fns 11 = f11) (q : exs S cs b11 n [some v0, some v1, some v2, none, none, none, none, none, none, none, none, none, none, none] H (endK Q) (fun _ i H => E i H)) : callW S n 11 cs [v0, v1, v2] H Q E := callW_stm0 h rfl rfl (pts := [(some 0, none), (some 1, none), (some 2, none)]) (by decide +kernel) q
def b12 : SL := (.cons (.asg (.two (.loc 5) (.loc 6)) (.loc 0))
  (.cons (.asg (.loc 7) (.glob 6))
  (.cons (.asg (.loc 8) (.lst .nil))
  (.cons (.asg (.loc 9) (.sl (.loc 5) (.some (.loc 6)) (.some (.bin .Add (.loc 6) (.ii 1)))))
  (.cons (.ifs (.cmp .NotEq (.loc 9) (.ss [34]))
  (.cons (.ifs (.cmp .In (.loc 9) (.loc 7))
  (.cons (.asg (.loc 6) (.call (.glob 11) (.cons (.loc 5) (.cons (.loc 6) .nil))))
  (.cons (.asg (.loc 9) (.sl (.loc 5) (.some (.loc 6)) (.some (.bin .Add (.loc 6) (.ii 1)))))
  .nil))
  .nil)
  (.cons (.ifs (.cmp .Eq (.loc 9) (.ss [125]))
  (.cons (.ifs (.cmp .IsNot (.loc 4) .nn)
  (.cons (.asg (.loc 10) (.call (.loc 4) (.cons (.loc 8) .nil)))
  (.cons (.ret (.tup (.cons (.loc 10) (.cons (.bin .Add (.loc 6) (.ii 1)) .nil))))
  .nil))
  .nil)
  (.cons (.asg (.loc 8) (.dct []))
  (.cons (.ifs (.cmp .IsNot (.loc 3) .nn)
  (.cons (.asg (.loc 8) (.call (.loc 3) (.cons (.loc 8) .nil)))
  .nil)
  .nil)
  (.cons (.ret (.tup (.cons (.loc 8) (.cons (.bin .Add (.loc 6) (.ii 1)) .nil))))
  .nil))))
  (.cons (.ifs (.cmp .NotEq (.loc 9) (.ss [34]))
  (.cons (.raise (.call (.glob 3) (.cons (.ss [69, 120, 112, 101, 99, 116, 105, 110, 103, 32, 112, 114, 111, 112, 101, 114, 116, 121, 32, 110, 97, 109, 101, 32, 101, 110, 99, 108, 111, 115, 101, 100, 32, 105, 110, 32, 100, 111, 117, 98, 108, 101, 32, 113, 117, 111, 116, 101, 115, 32, 111, 114, 32, 39, 125, 39]) (.cons (.loc 5) (.cons (.loc 6) .nil)))))
  .nil)
  .nil)
  .nil))
  .nil))
  .nil)
  (.cons (.aug 6 .Add (.ii 1))
  (.cons (.whl (.bb true)
  (.cons (.asg (.two (.loc 11) (.loc 6)) (.call (.glob 12) (.cons (.loc 5) (.cons (.loc 6) (.cons (.loc 1) .nil)))))
  (.cons (.ifs (.cmp .NotEq (.sl (.loc 5) (.some (.loc 6)) (.some (.bin .Add (.loc 6) (.ii 1)))) (.ss [58]))
  (.cons (.asg (.loc 6) (.call (.glob 11) (.cons (.loc 5) (.cons (.loc 6) .nil))))
  (.cons (.ifs (.cmp .NotEq (.sl (.loc 5) (.some (.loc 6)) (.some (.bin .Add (.loc 6) (.ii 1)))) (.ss [58]))
  (.cons (.raise (.call (.glob 3) (.cons (.ss [69, 120, 112, 101, 99, 116, 105, 110, 103, 32, 39, 58, 39, 32, 100, 101, 108, 105, 109, 105, 116, 101, 114]) (.cons (.loc 5) (.cons (.loc 6) .nil)))))
  .nil)
  .nil)
  .nil))
  .nil)
  (.cons (.aug 6 .Add (.ii 1))
  (.cons (.asg (.loc 6) (.call (.glob 11) (.cons (.loc 5) (.cons (.loc 6) .nil))))
  (.cons (.asg (.two (.loc 12) (.loc 6)) (.call (.loc 2) (.cons (.loc 5) (.cons (.loc 6) .nil))))
  (.cons (.expr (.meth (.loc 8) [97, 112, 112, 101, 110, 100] (.cons (.tup (.cons (.loc 11) (.cons (.loc 12) .nil))) .nil)))
  (.cons (.asg (.loc 6) (.call (.glob 11) (.cons (.loc 5) (.cons (.loc 6) .nil))))
  (.cons (.asg (.loc 9) (.sl (.loc 5) (.some (.loc 6)) (.some (.bin .Add (.loc 6) (.ii 1)))))
  (.cons (.aug 6 .Add (.ii 1))
  (.cons (.ifs (.cmp .Eq (.loc 9) (.ss [125]))
  (.cons .brk
  .nil)
  (.cons (.ifs (.cmp .NotEq (.loc 9) (.ss [44]))
  (.cons (.raise (.call (.glob 3) (.cons (.ss [69, 120, 112, 101, 99, 116, 105, 110, 103, 32, 39, 44, 39, 32, 100, 101, 108, 105, 109, 105, 116, 101, 114, 32, 111, 114, 32, 39, 125, 39]) (.cons (.loc 5) (.cons (.bin .Sub (.loc 6) (.ii 1)) .nil)))))
  .nil)
  .nil)
  .nil))
  (.cons (.asg (.loc 13) (.bin .Sub (.loc 6) (.ii 1)))
  (.cons (.asg (.loc 6) (.call (.glob 11) (.cons (.loc 5) (.cons (.loc 6) .nil))))
  (.cons (.asg (.loc 9) (.sl (.loc 5) (.some (.loc 6)) (.some (.bin .Add (.loc 6) (.ii 1)))))
  (.cons (.aug 6 .Add (.ii 1))
  (.cons (.ifs (.cmp .NotEq (.loc 9) (.ss [34]))
  (.cons (.ifs (.cmp .Eq (.loc 9) (.ss [125]))
  (.cons (.raise (.call (.glob 3) (.cons (.ss [73, 108, 108, 101, 103, 97, 108, 32, 116, 114, 97, 105, 108, 105, 110, 103, 32, 99, 111, 109, 109, 97, 32, 98, 101, 102, 111, 114, 101, 32, 101, 110, 100, 32, 111, 102, 32, 111, 98, 106, 101, 99, 116]) (.cons (.loc 5) (.cons (.loc 13) .nil)))))
  .nil)
  .nil)
  (.cons (.raise (.call (.glob 3) (.cons (.ss [69, 120, 112, 101, 99, 116, 105, 110, 103, 32, 112, 114, 111, 112, 101, 114, 116, 121, 32, 110, 97, 109, 101, 32, 101, 110, 99, 108, 111, 115, 101, 100, 32, 105, 110, 32, 100, 111, 117, 98, 108, 101, 32, 113, 117, 111, 116, 101, 115]) (.cons (.loc 5) (.cons (.bin .Sub (.loc 6) (.ii 1)) .nil)))))
  .nil))
  .nil)
  .nil))))))))))))))))
  (.cons (.ifs (.cmp .IsNot (.loc 4) .nn)
  (.cons (.asg (.loc 10) (.call (.loc 4) (.cons (.loc 8) .nil)))
  (.cons (.ret (.tup (.cons (.loc 10) (.cons (.loc 6) .nil))))
  .nil))
  .nil)
  (.cons (.asg (.loc 8) (.mkd (.loc 8)))
  (.cons (.ifs (.cmp .IsNot (.loc 3) .nn)
  (.cons (.asg (.loc 8) (.call (.loc 3) (.cons (.loc 8) .nil)))
  .nil)
  .nil)
  (.cons (.ret (.tup (.cons (.loc 8) (.cons (.loc 6) .nil))))
  .nil)))))))))))
def f12 : MF := ⟨["state", "strict", "scan_once", "object_hook", "object_pairs_hook"], ["state", "strict", "scan_once", "object_hook", "object_pairs_hook", "s", "end", "_ws", "pairs", "nextchar", "result", "key", "value", "comma_idx"], [], [], [], .inl b12⟩
theorem cw12 {S : Sx} {n : Nat} {cs : List Nat} {v0 v1 v2 v3 v4 : V} {H : AH} {Q : PV} {E : PE} (h : S.fns 12 = f12) (q : exs S cs b12 n [some v0, some v1, some v2, some v3, some v4, none, none, none, none, none, none, none, none, none] H (endK Q) (fun _ i H => E i H)) : callW S n 12 cs [v0, v1, v2, v3, v4] H Q E := callW_stm0 h rfl rfl (pts := [(some 0, none), (some 1, none), (some 2, none), (some 3, none), (some 4, none)]) (by decide +kernel) q
def b13 : SL := (.cons (.asg (.two (.loc 3) (.loc 4)) (.loc 0))
  (.cons (.asg (.loc 5) (.glob 6))
  (.cons (.asg (.loc 6) (.lst .nil))
  (.cons (.asg (.loc 7) (.sl (.loc 3) (.some (.loc 4)) (.some (.bin .Add (.loc 4) (.ii 1)))))
  (.cons (.ifs (.cmp .In (.loc 7) (.loc 5))
  (.cons (.asg (.loc 4) (.call (.glob 11) (.cons (.loc 3) (.cons (.bin .Add (.loc 4) (.ii 1)) .nil))))
  (.cons (.asg (.loc 7) (.sl (.loc 3) (.some (.loc 4)) (.some (.bin .Add (.loc 4) (.ii 1)))))
  .nil))
  .nil)
  (.cons (.ifs (.cmp .Eq (.loc 7) (.ss [93]))
  (.cons (.ifs (.cmp .IsNot (.loc 2) .nn)
  (.cons (.asg (.loc 6) (.call (.loc 2) (.cons (.loc 6) .nil)))
  .nil)
  .nil)
  (.cons (.ret (.tup (.cons (.loc 6) (.cons (.bin .Add (.loc 4) (.ii 1)) .nil))))
  .nil))
  (.cons (.ifs (.cmp .Eq (.loc 7) (.ss []))
  (.cons (.raise (.call (.glob 3) (.cons (.ss [69, 120, 112, 101, 99, 116, 105, 110, 103, 32, 118, 97, 108, 117, 101, 32, 111, 114, 32, 39, 93, 39]) (.cons (.loc 3) (.cons (.loc 4) .nil)))))
  .nil)
  .nil)
  .nil))
  (.cons (.whl (.bb true)
  (.cons (.asg (.two (.loc 8) (.loc 4)) (.call (.loc 1) (.cons (.loc 3) (.cons (.loc 4) .nil))))
  (.cons (.expr (.meth (.loc 6) [97, 112, 112, 101, 110, 100] (.cons (.loc 8) .nil)))
  (.cons (.asg (.loc 7) (.sl (.loc 3) (.some (.loc 4)) (.some (.bin .Add (.loc 4) (.ii 1)))))
  (.cons (.ifs (.cmp .In (.loc 7) (.loc 5))
  (.cons (.asg (.loc 4) (.call (.glob 11) (.cons (.loc 3) (.cons (.bin .Add (.loc 4) (.ii 1)) .nil))))
  (.cons (.asg (.loc 7) (.sl (.loc 3) (.some (.loc 4)) (.some (.bin .Add (.loc 4) (.ii 1)))))
  .nil))
  .nil)
  (.cons (.aug 4 .Add (.ii 1))
  (.cons (.ifs (.cmp .Eq (.loc 7) (.ss [93]))
  (.cons .brk
  .nil)
  (.cons (.ifs (.cmp .NotEq (.loc 7) (.ss [44]))
  (.cons (.raise (.call (.glob 3) (.cons (.ss [69, 120, 112, 101, 99, 116, 105, 110, 103, 32, 39, 44, 39, 32, 100, 101, 108, 105, 109, 105, 116, 101, 114, 32, 111, 114, 32, 39, 93, 39]) (.cons (.loc 3) (.cons (.bin .Sub (.loc 4) (.ii 1)) .nil)))))
  .nil)
  .nil)
  .nil))
  (.cons (.asg (.loc 9) (.bin .Sub (.loc 4) (.ii 1)))
  (.cons (.asg (.loc 4) (.call (.glob 11) (.cons (.loc 3) (.cons (.loc 4) .nil))))
  (.cons (.ifs (.cmp .Eq (.sl (.loc 3) (.some (.loc 4)) (.some (.bin .Add (.loc 4) (.ii 1)))) (.ss [93]))
  (.cons (.raise (.call (.glob 3) (.cons (.ss [73, 108, 108, 101, 103, 97, 108, 32, 116, 114, 97, 105, 108, 105, 110, 103, 32, 99, 111, 109, 109, 97, 32, 98, 101, 102, 111, 114, 101, 32, 101, 110, 100, 32, 111, 102, 32, 97, 114, 114, 97, 121]) (.cons (.loc 3) (.cons (.loc 9) .nil)))))
  .nil)
  .nil)
  .nil))))))))))
  (.cons (.ifs (.cmp .IsNot (.loc 2) .nn)
  (.cons (.asg (.loc 6) (.call (.loc 2) (.cons (.loc 6) .nil)))
  .nil)
  .nil)
  (.cons (.ret (.tup (.cons (.loc 6) (.cons (.loc 4) .nil))))
  .nil)))))))))
def f13 : MF := ⟨["state", "scan_once", "array_hook"], ["state", "scan_once", "array_hook", "s", "end", "_ws", "values", "nextchar", "value", "comma_idx"], [], [], [], .inl b13⟩
theorem cw13 {S : Sx} {n : Nat} {cs : List Nat} {v0 v1 v2 : V} {H : AH} {Q : PV} {E : PE} (h : S.fns 13 = f13) (q : exs S cs b13 n [some v0, some v1, some v2, none, none, none, none, none, none, none] H (endK Q) (fun _ i H => E i H)) : callW S n 13 cs [v0, v1, v2] H Q E := callW_stm0 h rfl rfl (pts := [(some 0, none), (some 1, none), (some 2, none)]) (by decide +kernel) q
def b14 : SL := (.cons (.seta (.loc 0) [111, 98, 106, 101, 99, 116, 95, 104, 111, 111, 107] (.loc 1))
  (.cons (.seta (.loc 0) [111, 98, 106, 101, 99, 116, 95, 112, 97, 105, 114, 115, 95, 104, 111, 111, 107] (.loc 5))
  (.cons (.seta (.loc 0) [112, 97, 114, 115, 101, 95, 102, 108, 111, 97, 116] (.loc 2))
  (.cons (.seta (.loc 0) [112, 97, 114, 115, 101, 95, 105, 110, 116] (.loc 3))
  (.cons (.seta (.loc 0) [115, 116, 114, 105, 99, 116] (.loc 4))
  (.cons (.seta (.loc 0) [97, 114, 114, 97, 121, 95, 104, 111, 111, 107] (.loc 6))
  (.cons (.seta (.loc 0) [112, 97, 114, 115, 101, 95, 111, 98, 106, 101, 99, 116] (.glob 13))
  (.cons (.seta (.loc 0) [112, 97, 114, 115, 101, 95, 97, 114, 114, 97, 121] (.glob 14))
  (.cons (.seta (.loc 0) [112, 97, 114, 115, 101, 95, 115, 116, 114, 105, 110, 103] (.glob 12))
  (.cons (.seta (.loc 0) [115, 99, 97, 110, 95, 111, 110, 99, 101] (.call (.glob 15) (.cons (.loc 0) .nil)))
  .nil))))))))))
def f14 : MF := ⟨["self", "object_hook", "parse_float", "parse_int", "strict", "object_pairs_hook", "array_hook"], ["self", "object_hook", "parse_float", "parse_int", "strict", "object_pairs_hook", "array_hook"], [], [], [], .inl b14⟩
theorem cw14 {S : Sx} {n : Nat} {cs : List Nat} {v0 v1 v2 v3 v4 v5 v6 : V} {H : AH} {Q : PV} {E : PE} (h : S.fns 14 = f14) (q : exs S cs b14 n [some v0, some v1, some v2, some v3, some v4, some v5, some v6] H (endK Q) (fun _ i H => E i H)) : callW S n 14 cs [v0, v1, v2, v3, v4, v5, v6] H Q E := callW_stm0 h rfl rfl (pts := [(some 0, none), (some 1, none), (some 2, none), (some 3, none), (some 4, none), (some 5, none), (some 6, none)]) (by decide +kernel) q
def b15 : SL := (.cons (.asg (.two (.loc 2) (.loc 3)) (.meth (.loc 0) [114, 97, 119, 95, 102, 114, 111, 109, 95, 116, 101, 120, 116] (.cons (.loc 1) .nil)))
  (.cons (.asg (.loc 3) (.call (.glob 11) (.cons (.loc 1) (.cons (.loc 3) .nil))))
  (.cons (.ifs (.cmp .NotEq (.loc 3) (.bi .len (.cons (.loc 1) .nil)))
  (.cons (.raise (.call (.glob 3) (.cons (.ss [69, 120, 116, 114, 97, 32, 100, 97, 116, 97]) (.cons (.loc 1) (.cons (.loc 3) (.cons (.bi .len (.cons (.loc 1) .nil)) .nil))))))
  .nil)
  .nil)
  (.cons (.ret (.loc 2))
  .nil))))
def f15 : MF := ⟨["self", "s"], ["self", "s", "obj", "end"], [], [], [], .inl b15⟩
theorem cw15 {S : Sx} {n : Nat} {cs : List Nat} {v0 v1 : V} {H : AH} {Q : PV} {E : PE} (h : S.fns 15 = f15) (q : exs S cs b15 n [some v0, some v1, none, none] H (endK Q) (fun _ i H => E i H)) : callW S n 15 cs [v0, v1] H Q E := callW_stm0 h rfl rfl (pts := [(some 0, none), (some 1, none)]) (by decide +kernel) q
def b16 : SL := (.cons (.ifs (.cmp .Lt (.loc 2) (.ii 0))
  (.cons (.raise (.call (.glob 3) (.cons (.ss [69, 120, 112, 101, 99, 116, 105, 110, 103, 32, 118, 97, 108, 117, 101]) (.cons (.loc 1) (.cons (.loc 2) .nil)))))
  .nil)
  .nil)
  (.cons (.ifs (.cmp .Gt (.bi .len (.cons (.loc 1) .nil)) (.loc 2))
  (.cons (.asg (.loc 3) (.bi .ord (.cons (.idx (.loc 1) (.loc 2)) .nil)))
  (.cons (.ifs (.cmp .Eq (.loc 3) (.ii 65279))
  (.cons (.aug 2 .Add (.ii 1))
  .nil)
  (.cons (.ifs (.and (.cons (.cmp .Eq (.loc 3) (.ii 239)) (.cons (.cmp .Eq (.sl (.loc 1) (.some (.loc 2)) (.some (.bin .Add (.loc 2) (.ii 3)))) (.ss [239, 187, 191])) .nil)))
  (.cons (.aug 2 .Add (.ii 3))
  .nil)
  .nil)
  .nil))
  .nil))
  .nil)
  (.cons (.ret (.meth (.loc 0) [115, 99, 97, 110, 95, 111, 110, 99, 101] (.cons (.loc 1) (.cons (.call (.glob 11) (.cons (.loc 1) (.cons (.loc 2) .nil))) .nil))))
  .nil)))
def f16 : MF := ⟨["self", "s", "idx"], ["self", "s", "idx", "ord0"], [], [], [], .inl b16⟩
theorem cw16 {S : Sx} {n : Nat} {cs : List Nat} {v0 v1 v2 : V} {H : AH} {Q : PV} {E : PE} (h : S.fns 16 = f16) (q : exs S cs b16 n [some v0, some v1, some v2, none] H (endK Q) (fun _ i H => E i H)) : callW S n 16 cs [v0, v1, v2] H Q E := callW_stm0 h rfl rfl (pts := [(some 0, none), (some 1, none), (some 2, none)]) (by decide +kernel) q
def b20 : SL := (.cons (.asg (.two (.loc 2) (.loc 3)) (.loc 0))
  (.cons (.put (.loc 0) (.ii 1) (.bin .Add (.loc 3) (.ii 1)))
  (.cons (.ret (.ite (.loc 2) (.bin .Mod (.bin .FloorDiv (.idx (.loc 2) (.bin .Mod (.loc 3) (.bi .len (.cons (.loc 2) .nil)))) (.bin .Add (.ii 1) (.bin .FloorDiv (.loc 3) (.bi .len (.cons (.loc 2) .nil))))) (.loc 1)) (.ii 0)))
  .nil)))
def f20 : MF := ⟨["drawn", "many"], ["drawn", "many", "rows", "at"], [], [], [], .inl b20⟩
theorem cw20 {S : Sx} {n : Nat} {cs : List Nat} {v0 v1 : V} {H : AH} {Q : PV} {E : PE} (h : S.fns 20 = f20) (q : exs S cs b20 n [some v0, some v1, none, none] H (endK Q) (fun _ i H => E i H)) : callW S n 20 cs [v0, v1] H Q E := callW_stm0 h rfl rfl (pts := [(some 0, none), (some 1, none)]) (by decide +kernel) q
def b21 : SL := (.cons (.asg (.loc 2) (.sl (.loc 0) (.some (.loc 1)) (.some (.bin .Add (.loc 1) (.ii 4)))))
  (.cons (.ifs (.cmp .Lt (.bi .len (.cons (.loc 2) .nil)) (.ii 4))
  (.cons (.ret (.neg (.ii 1)))
  .nil)
  .nil)
  (.cons (.asg (.loc 3) (.ii 0))
  (.cons (.for_ (.loc 4) (.loc 2)
  (.cons (.asg (.loc 5) (.meth (.ss [48, 49, 50, 51, 52, 53, 54, 55, 56, 57, 97, 98, 99, 100, 101, 102, 65, 66, 67, 68, 69, 70]) [102, 105, 110, 100] (.cons (.loc 4) .nil)))
  (.cons (.ifs (.cmp .Lt (.loc 5) (.ii 0))
  (.cons (.ret (.neg (.ii 1)))
  .nil)
  .nil)
  (.cons (.asg (.loc 3) (.bin .Add (.bin .Mult (.ii 16) (.loc 3)) (.ite (.cmp .Lt (.loc 5) (.ii 16)) (.loc 5) (.bin .Sub (.loc 5) (.ii 6)))))
  .nil))))
  (.cons (.ret (.loc 3))
  .nil)))))
def f21 : MF := ⟨["s", "at"], ["s", "at", "piece", "number", "sign", "place"], [], [], [], .inl b21⟩
theorem cw21 {S : Sx} {n : Nat} {cs : List Nat} {v0 v1 : V} {H : AH} {Q : PV} {E : PE} (h : S.fns 21 = f21) (q : exs S cs b21 n [some v0, some v1, none, none, none, none] H (endK Q) (fun _ i H => E i H)) : callW S n 21 cs [v0, v1] H Q E := callW_stm0 h rfl rfl (pts := [(some 0, none), (some 1, none)]) (by decide +kernel) q
def b22 : SL := (.cons (.asg (.three (.loc 3) (.loc 4) (.loc 5)) (.tup (.cons (.lst .nil) (.cons (.loc 1) (.cons (.bb false) .nil)))))
  (.cons (.whl (.and (.cons (.cmp .Lt (.loc 4) (.bi .len (.cons (.loc 0) .nil))) (.cons (.cmp .NotEq (.idx (.loc 0) (.loc 4)) (.ss [34])) .nil)))
  (.cons (.ifs (.cmp .Eq (.idx (.loc 0) (.loc 4)) (.ss [92]))
  (.cons (.asg (.loc 6) (.sl (.loc 0) (.some (.bin .Add (.loc 4) (.ii 1))) (.some (.bin .Add (.loc 4) (.ii 2)))))
  (.cons (.ifs (.cmp .Eq (.loc 6) (.ss []))
  (.cons (.ret (.tup (.cons (.ss [110, 111]) (.cons (.ss [85, 110, 116, 101, 114, 109, 105, 110, 97, 116, 101, 100, 32, 115, 116, 114, 105, 110, 103, 32, 115, 116, 97, 114, 116, 105, 110, 103, 32, 97, 116]) (.cons (.bin .Sub (.loc 1) (.ii 1)) .nil)))))
  .nil)
  .nil)
  (.cons (.ifs (.cmp .NotEq (.loc 6) (.ss [117]))
  (.cons (.asg (.loc 7) (.meth (.ss [34, 92, 47, 98, 102, 110, 114, 116]) [102, 105, 110, 100] (.cons (.loc 6) .nil)))
  (.cons (.ifs (.cmp .Lt (.loc 7) (.ii 0))
  (.cons (.ret (.tup (.cons (.ss [110, 111]) (.cons (.ss [73, 110, 118, 97, 108, 105, 100, 32, 92, 88, 32, 101, 115, 99, 97, 112, 101, 32, 115, 101, 113, 117, 101, 110, 99, 101, 32, 37, 114]) (.cons (.bin .Add (.loc 4) (.ii 1)) .nil)))))
  .nil)
  .nil)
  (.cons (.expr (.meth (.loc 3) [97, 112, 112, 101, 110, 100] (.cons (.idx (.ss [34, 92, 47, 8, 12, 10, 13, 9]) (.loc 7)) .nil)))
  (.cons (.asg (.loc 4) (.bin .Add (.loc 4) (.ii 2)))
  .nil))))
  (.cons (.asg (.loc 8) (.call (.glob 18) (.cons (.loc 0) (.cons (.bin .Add (.loc 4) (.ii 2)) .nil))))
  (.cons (.ifs (.cmp .Lt (.loc 8) (.ii 0))
  (.cons (.ret (.tup (.cons (.ss [110, 111]) (.cons (.ss [73, 110, 118, 97, 108, 105, 100, 32, 92, 117, 88, 88, 88, 88, 32, 101, 115, 99, 97, 112, 101, 32, 115, 101, 113, 117, 101, 110, 99, 101]) (.cons (.loc 4) .nil)))))
  .nil)
  .nil)
  (.cons (.asg (.loc 4) (.bin .Add (.loc 4) (.ii 6)))
  (.cons (.ifs (.and (.cons (.cmp .Eq (.bin .FloorDiv (.loc 8) (.ii 1024)) (.ii 54)) (.cons (.cmp .Eq (.sl (.loc 0) (.some (.loc 4)) (.some (.bin .Add (.loc 4) (.ii 2)))) (.ss [92, 117])) .nil)))
  (.cons (.asg (.loc 9) (.call (.glob 18) (.cons (.loc 0) (.cons (.bin .Add (.loc 4) (.ii 2)) .nil))))
  (.cons (.ifs (.cmp .Lt (.loc 9) (.ii 0))
  (.cons (.ret (.tup (.cons (.ss [110, 111]) (.cons (.ss [73, 110, 118, 97, 108, 105, 100, 32, 92, 117, 88, 88, 88, 88, 32, 101, 115, 99, 97, 112, 101, 32, 115, 101, 113, 117, 101, 110, 99, 101]) (.cons (.loc 4) .nil)))))
  .nil)
  .nil)
  (.cons (.ifs (.cmp .Eq (.bin .FloorDiv (.loc 9) (.ii 1024)) (.ii 55))
  (.cons (.asg (.loc 8) (.bin .Add (.bin .Add (.ii 65536) (.bin .Mult (.bin .Mod (.loc 8) (.ii 1024)) (.ii 1024))) (.bin .Mod (.loc 9) (.ii 1024))))
  (.cons (.asg (.loc 4) (.bin .Add (.loc 4) (.ii 6)))
  .nil))
  .nil)
  .nil)))
  .nil)
  (.cons (.asg (.loc 5) (.or (.cons (.loc 5) (.cons (.cmp .Eq (.bin .FloorDiv (.loc 8) (.ii 2048)) (.ii 27)) .nil))))
  (.cons (.expr (.meth (.loc 3) [97, 112, 112, 101, 110, 100] (.cons (.ite (.cmp .NotEq (.bin .FloorDiv (.loc 8) (.ii 2048)) (.ii 27)) (.bi .chr (.cons (.loc 8) .nil)) (.ss [])) .nil)))
  .nil)))))))
  .nil)))
  (.cons (.ifs (.and (.cons (.cmp .Lt (.bi .ord (.cons (.idx (.loc 0) (.loc 4)) .nil)) (.ii 32)) (.cons (.loc 2) .nil)))
  (.cons (.ret (.tup (.cons (.ss [110, 111]) (.cons (.ss [73, 110, 118, 97, 108, 105, 100, 32, 99, 111, 110, 116, 114, 111, 108, 32, 99, 104, 97, 114, 97, 99, 116, 101, 114, 32, 37, 114, 32, 97, 116]) (.cons (.loc 4) .nil)))))
  .nil)
  (.cons (.expr (.meth (.loc 3) [97, 112, 112, 101, 110, 100] (.cons (.idx (.loc 0) (.loc 4)) .nil)))
  (.cons (.asg (.loc 4) (.bin .Add (.loc 4) (.ii 1)))
  .nil)))
  .nil))
  .nil))
  (.cons (.ifs (.cmp .GtE (.loc 4) (.bi .len (.cons (.loc 0) .nil)))
  (.cons (.ret (.tup (.cons (.ss [110, 111]) (.cons (.ss [85, 110, 116, 101, 114, 109, 105, 110, 97, 116, 101, 100, 32, 115, 116, 114, 105, 110, 103, 32, 115, 116, 97, 114, 116, 105, 110, 103, 32, 97, 116]) (.cons (.bin .Sub (.loc 1) (.ii 1)) .nil)))))
  .nil)
  .nil)
  (.cons (.ret (.ite (.loc 5) (.tup (.cons (.ss [108, 111, 110, 101]) (.cons (.bin .Add (.loc 4) (.ii 1)) (.cons (.bin .Add (.loc 4) (.ii 1)) .nil)))) (.tup (.cons (.ss [105, 115]) (.cons (.meth (.ss []) [106, 111, 105, 110] (.cons (.loc 3) .nil)) (.cons (.bin .Add (.loc 4) (.ii 1)) .nil))))))
  .nil))))
def f22 : MF := ⟨["s", "at", "strict"], ["s", "at", "strict", "signs", "k", "lone", "one", "place", "number", "second"], [], [], [], .inl b22⟩
theorem cw22 {S : Sx} {n : Nat} {cs : List Nat} {v0 v1 v2 : V} {H : AH} {Q : PV} {E : PE} (h : S.fns 22 = f22) (q : exs S cs b22 n [some v0, some v1, some v2, none, none, none, none, none, none, none] H (endK Q) (fun _ i H => E i H)) : callW S n 22 cs [v0, v1, v2] H Q E := callW_stm0 h rfl rfl (pts := [(some 0, none), (some 1, none), (some 2, none)]) (by decide +kernel) q
def b23 : SL := (.cons (.whl (.and (.cons (.cmp .Lt (.loc 1) (.bi .len (.cons (.loc 0) .nil))) (.cons (.cmp .In (.idx (.loc 0) (.loc 1)) (.ss [32, 9, 10, 13])) .nil)))
  (.cons (.asg (.loc 1) (.bin .Add (.loc 1) (.ii 1)))
  .nil))
  (.cons (.ret (.loc 1))
  .nil))
def f23 : MF := ⟨["s", "at"], ["s", "at"], [], [], [], .inl b23⟩
theorem cw23 {S : Sx} {n : Nat} {cs : List Nat} {v0 v1 : V} {H : AH} {Q : PV} {E : PE} (h : S.fns 23 = f23) (q : exs S cs b23 n [some v0, some v1] H (endK Q) (fun _ i H => E i H)) : callW S n 23 cs [v0, v1] H Q E := callW_stm0 h rfl rfl (pts := [(some 0, none), (some 1, none)]) (by decide +kernel) q
def b24 : SL := (.cons (.whl (.and (.cons (.cmp .Lt (.loc 1) (.bi .len (.cons (.loc 0) .nil))) (.cons (.cmp .In (.idx (.loc 0) (.loc 1)) (.ss [48, 49, 50, 51, 52, 53, 54, 55, 56, 57])) .nil)))
  (.cons (.asg (.loc 1) (.bin .Add (.loc 1) (.ii 1)))
  .nil))
  (.cons (.ret (.loc 1))
  .nil))
def f24 : MF := ⟨["s", "at"], ["s", "at"], [], [], [], .inl b24⟩
theorem cw24 {S : Sx} {n : Nat} {cs : List Nat} {v0 v1 : V} {H : AH} {Q : PV} {E : PE} (h : S.fns 24 = f24) (q : exs S cs b24 n [some v0, some v1] H (endK Q) (fun _ i H => E i H)) : callW S n 24 cs [v0, v1] H Q E := callW_stm0 h rfl rfl (pts := [(some 0, none), (some 1, none)]) (by decide +kernel) q
def b25 : SL := (.cons (.asg (.loc 2) (.ite (.cmp .Eq (.sl (.loc 0) (.some (.loc 1)) (.some (.bin .Add (.loc 1) (.ii 1)))) (.ss [45])) (.bin .Add (.loc 1) (.ii 1)) (.loc 1)))
  (.cons (.asg (.loc 3) (.call (.glob 21) (.cons (.loc 0) (.cons (.loc 2) .nil))))
  (.cons (.ifs (.cmp .Eq (.loc 3) (.loc 2))
  (.cons (.ret .nn)
  .nil)
  .nil)
  (.cons (.ifs (.cmp .Eq (.idx (.loc 0) (.loc 2)) (.ss [48]))
  (.cons (.asg (.loc 3) (.bin .Add (.loc 2) (.ii 1)))
  .nil)
  .nil)
  (.cons (.asg (.loc 4) (.bb true))
  (.cons (.ifs (.and (.cons (.cmp .Eq (.sl (.loc 0) (.some (.loc 3)) (.some (.bin .Add (.loc 3) (.ii 1)))) (.ss [46])) (.cons (.cmp .Gt (.call (.glob 21) (.cons (.loc 0) (.cons (.bin .Add (.loc 3) (.ii 1)) .nil))) (.bin .Add (.loc 3) (.ii 1))) .nil)))
  (.cons (.asg (.two (.loc 4) (.loc 3)) (.tup (.cons (.bb false) (.cons (.call (.glob 21) (.cons (.loc 0) (.cons (.bin .Add (.loc 3) (.ii 1)) .nil))) .nil))))
  .nil)
  .nil)
  (.cons (.ifs (.cmp .In (.sl (.loc 0) (.some (.loc 3)) (.some (.bin .Add (.loc 3) (.ii 1)))) (.tup (.cons (.ss [101]) (.cons (.ss [69]) .nil))))
  (.cons (.asg (.loc 5) (.ite (.cmp .In (.sl (.loc 0) (.some (.bin .Add (.loc 3) (.ii 1))) (.some (.bin .Add (.loc 3) (.ii 2)))) (.tup (.cons (.ss [45]) (.cons (.ss [43]) .nil)))) (.bin .Add (.loc 3) (.ii 2)) (.bin .Add (.loc 3) (.ii 1))))
  (.cons (.ifs (.cmp .Gt (.call (.glob 21) (.cons (.loc 0) (.cons (.loc 5) .nil))) (.loc 5))
  (.cons (.asg (.two (.loc 4) (.loc 3)) (.tup (.cons (.bb false) (.cons (.call (.glob 21) (.cons (.loc 0) (.cons (.loc 5) .nil))) .nil))))
  .nil)
  .nil)
  .nil))
  .nil)
  (.cons (.ret (.tup (.cons (.loc 3) (.cons (.loc 4) .nil))))
  .nil))))))))
def f25 : MF := ⟨["s", "at"], ["s", "at", "start", "end", "plain", "sign"], [], [], [], .inl b25⟩
theorem cw25 {S : Sx} {n : Nat} {cs : List Nat} {v0 v1 : V} {H : AH} {Q : PV} {E : PE} (h : S.fns 25 = f25) (q : exs S cs b25 n [some v0, some v1, none, none, none, none] H (endK Q) (fun _ i H => E i H)) : callW S n 25 cs [v0, v1] H Q E := callW_stm0 h rfl rfl (pts := [(some 0, none), (some 1, none)]) (by decide +kernel) q
def b26 : SL := (.cons (.ifs (.cmp .Eq (.sl (.loc 0) (.some (.loc 1)) (.some (.bin .Add (.loc 1) (.ii 1)))) (.ss [34]))
  (.cons (.ret (.call (.glob 19) (.cons (.loc 0) (.cons (.bin .Add (.loc 1) (.ii 1)) (.cons (.loc 2) .nil)))))
  .nil)
  .nil)
  (.cons (.ifs (.cmp .Eq (.sl (.loc 0) (.some (.loc 1)) (.some (.bin .Add (.loc 1) (.ii 1)))) (.ss [123]))
  (.cons (.ret (.call (.glob 25) (.cons (.loc 0) (.cons (.bin .Add (.loc 1) (.ii 1)) (.cons (.loc 2) .nil)))))
  .nil)
  .nil)
  (.cons (.ifs (.cmp .Eq (.sl (.loc 0) (.some (.loc 1)) (.some (.bin .Add (.loc 1) (.ii 1)))) (.ss [91]))
  (.cons (.ret (.call (.glob 24) (.cons (.loc 0) (.cons (.bin .Add (.loc 1) (.ii 1)) (.cons (.loc 2) .nil)))))
  .nil)
  .nil)
  (.cons (.for_ (.two (.loc 3) (.loc 4)) (.lst (.cons (.tup (.cons (.ss [110, 117, 108, 108]) (.cons .nn .nil))) (.cons (.tup (.cons (.ss [116, 114, 117, 101]) (.cons (.bb true) .nil))) (.cons (.tup (.cons (.ss [102, 97, 108, 115, 101]) (.cons (.bb false) .nil))) .nil))))
  (.cons (.ifs (.cmp .Eq (.sl (.loc 0) (.some (.loc 1)) (.some (.bin .Add (.loc 1) (.bi .len (.cons (.loc 3) .nil))))) (.loc 3))
  (.cons (.ret (.tup (.cons (.ss [105, 115]) (.cons (.loc 4) (.cons (.bin .Add (.loc 1) (.bi .len (.cons (.loc 3) .nil))) .nil)))))
  .nil)
  .nil)
  .nil))
  (.cons (.asg (.loc 5) (.call (.glob 22) (.cons (.loc 0) (.cons (.loc 1) .nil))))
  (.cons (.ifs (.cmp .Is (.loc 5) .nn)
  (.cons (.ret (.tup (.cons (.ss [110, 111]) (.cons (.ss [69, 120, 112, 101, 99, 116, 105, 110, 103, 32, 118, 97, 108, 117, 101]) (.cons (.loc 1) .nil)))))
  .nil)
  .nil)
  (.cons (.ret (.tup (.cons (.ss [105, 115]) (.cons (.ite (.idx (.loc 5) (.ii 1)) (.bi .int (.cons (.sl (.loc 0) (.some (.loc 1)) (.some (.idx (.loc 5) (.ii 0)))) .nil)) (.bin .Add (.ss [102]) (.sl (.loc 0) (.some (.loc 1)) (.some (.idx (.loc 5) (.ii 0)))))) (.cons (.idx (.loc 5) (.ii 0)) .nil)))))
  .nil)))))))
def f26 : MF := ⟨["s", "at", "strict"], ["s", "at", "strict", "word", "value", "told"], [], [], [], .inl b26⟩
theorem cw26 {S : Sx} {n : Nat} {cs : List Nat} {v0 v1 v2 : V} {H : AH} {Q : PV} {E : PE} (h : S.fns 26 = f26) (q : exs S cs b26 n [some v0, some v1, some v2, none, none, none] H (endK Q) (fun _ i H => E i H)) : callW S n 26 cs [v0, v1, v2] H Q E := callW_stm0 h rfl rfl (pts := [(some 0, none), (some 1, none), (some 2, none)]) (by decide +kernel) q
def b27 : SL := (.cons (.asg (.two (.loc 3) (.loc 4)) (.tup (.cons (.lst .nil) (.cons (.call (.glob 20) (.cons (.loc 0) (.cons (.loc 1) .nil))) .nil))))
  (.cons (.ifs (.cmp .Eq (.sl (.loc 0) (.some (.loc 4)) (.some (.bin .Add (.loc 4) (.ii 1)))) (.ss [93]))
  (.cons (.ret (.tup (.cons (.ss [105, 115]) (.cons (.loc 3) (.cons (.bin .Add (.loc 4) (.ii 1)) .nil)))))
  .nil)
  .nil)
  (.cons (.ifs (.cmp .GtE (.loc 4) (.bi .len (.cons (.loc 0) .nil)))
  (.cons (.ret (.tup (.cons (.ss [110, 111]) (.cons (.ss [69, 120, 112, 101, 99, 116, 105, 110, 103, 32, 118, 97, 108, 117, 101, 32, 111, 114, 32, 39, 93, 39]) (.cons (.loc 4) .nil)))))
  .nil)
  .nil)
  (.cons (.whl (.bb true)
  (.cons (.asg (.loc 5) (.call (.glob 23) (.cons (.loc 0) (.cons (.loc 4) (.cons (.loc 2) .nil)))))
  (.cons (.ifs (.cmp .NotEq (.idx (.loc 5) (.ii 0)) (.ss [105, 115]))
  (.cons (.ret (.loc 5))
  .nil)
  .nil)
  (.cons (.expr (.meth (.loc 3) [97, 112, 112, 101, 110, 100] (.cons (.idx (.loc 5) (.ii 1)) .nil)))
  (.cons (.asg (.loc 6) (.call (.glob 20) (.cons (.loc 0) (.cons (.idx (.loc 5) (.ii 2)) .nil))))
  (.cons (.ifs (.cmp .Eq (.sl (.loc 0) (.some (.loc 6)) (.some (.bin .Add (.loc 6) (.ii 1)))) (.ss [93]))
  (.cons (.ret (.tup (.cons (.ss [105, 115]) (.cons (.loc 3) (.cons (.bin .Add (.loc 6) (.ii 1)) .nil)))))
  .nil)
  .nil)
  (.cons (.ifs (.cmp .NotEq (.sl (.loc 0) (.some (.loc 6)) (.some (.bin .Add (.loc 6) (.ii 1)))) (.ss [44]))
  (.cons (.ret (.tup (.cons (.ss [110, 111]) (.cons (.ss [69, 120, 112, 101, 99, 116, 105, 110, 103, 32, 39, 44, 39, 32, 100, 101, 108, 105, 109, 105, 116, 101, 114, 32, 111, 114, 32, 39, 93, 39]) (.cons (.loc 6) .nil)))))
  .nil)
  .nil)
  (.cons (.asg (.loc 4) (.call (.glob 20) (.cons (.loc 0) (.cons (.bin .Add (.loc 6) (.ii 1)) .nil))))
  (.cons (.ifs (.cmp .Eq (.sl (.loc 0) (.some (.loc 4)) (.some (.bin .Add (.loc 4) (.ii 1)))) (.ss [93]))
  (.cons (.ret (.tup (.cons (.ss [110, 111]) (.cons (.ss [73, 108, 108, 101, 103, 97, 108, 32, 116, 114, 97, 105, 108, 105, 110, 103, 32, 99, 111, 109, 109, 97, 32, 98, 101, 102, 111, 114, 101, 32, 101, 110, 100, 32, 111, 102, 32, 97, 114, 114, 97, 121]) (.cons (.loc 6) .nil)))))
  .nil)
  .nil)
  .nil)))))))))
  .nil))))
def f27 : MF := ⟨["s", "at", "strict"], ["s", "at", "strict", "values", "k", "told", "comma"], [], [], [], .inl b27⟩
theorem cw27 {S : Sx} {n : Nat} {cs : List Nat} {v0 v1 v2 : V} {H : AH} {Q : PV} {E : PE} (h : S.fns 27 = f27) (q : exs S cs b27 n [some v0, some v1, some v2, none, none, none, none] H (endK Q) (fun _ i H => E i H)) : callW S n 27 cs [v0, v1, v2] H Q E := callW_stm0 h rfl rfl (pts := [(some 0, none), (some 1, none), (some 2, none)]) (by decide +kernel) q
def b28 : SL := (.cons (.asg (.three (.loc 3) (.loc 4) (.loc 5)) (.tup (.cons (.dct []) (.cons (.call (.glob 20) (.cons (.loc 0) (.cons (.loc 1) .nil))) (.cons (.neg (.ii 1)) .nil)))))
  (.cons (.ifs (.cmp .Eq (.sl (.loc 0) (.some (.loc 4)) (.some (.bin .Add (.loc 4) (.ii 1)))) (.ss [125]))
  (.cons (.ret (.tup (.cons (.ss [105, 115]) (.cons (.loc 3) (.cons (.bin .Add (.loc 4) (.ii 1)) .nil)))))
  .nil)
  .nil)
  (.cons (.whl (.bb true)
  (.cons (.ifs (.cmp .NotEq (.sl (.loc 0) (.some (.loc 4)) (.some (.bin .Add (.loc 4) (.ii 1)))) (.ss [34]))
  (.cons (.ifs (.and (.cons (.cmp .GtE (.loc 5) (.ii 0)) (.cons (.cmp .Eq (.sl (.loc 0) (.some (.loc 4)) (.some (.bin .Add (.loc 4) (.ii 1)))) (.ss [125])) .nil)))
  (.cons (.ret (.tup (.cons (.ss [110, 111]) (.cons (.ss [73, 108, 108, 101, 103, 97, 108, 32, 116, 114, 97, 105, 108, 105, 110, 103, 32, 99, 111, 109, 109, 97, 32, 98, 101, 102, 111, 114, 101, 32, 101, 110, 100, 32, 111, 102, 32, 111, 98, 106, 101, 99, 116]) (.cons (.loc 5) .nil)))))
  .nil)
  .nil)
  (.cons (.ret (.tup (.cons (.ss [110, 111]) (.cons (.bin .Add (.ss [69, 120, 112, 101, 99, 116, 105, 110, 103, 32, 112, 114, 111, 112, 101, 114, 116, 121, 32, 110, 97, 109, 101, 32, 101, 110, 99, 108, 111, 115, 101, 100, 32, 105, 110, 32, 100, 111, 117, 98, 108, 101, 32, 113, 117, 111, 116, 101, 115]) (.ite (.cmp .GtE (.loc 5) (.ii 0)) (.ss []) (.ss [32, 111, 114, 32, 39, 125, 39]))) (.cons (.loc 4) .nil)))))
  .nil))
  .nil)
  (.cons (.asg (.loc 6) (.call (.glob 19) (.cons (.loc 0) (.cons (.bin .Add (.loc 4) (.ii 1)) (.cons (.loc 2) .nil)))))
  (.cons (.ifs (.cmp .NotEq (.idx (.loc 6) (.ii 0)) (.ss [105, 115]))
  (.cons (.ret (.loc 6))
  .nil)
  .nil)
  (.cons (.asg (.loc 4) (.call (.glob 20) (.cons (.loc 0) (.cons (.idx (.loc 6) (.ii 2)) .nil))))
  (.cons (.ifs (.cmp .NotEq (.sl (.loc 0) (.some (.loc 4)) (.some (.bin .Add (.loc 4) (.ii 1)))) (.ss [58]))
  (.cons (.ret (.tup (.cons (.ss [110, 111]) (.cons (.ss [69, 120, 112, 101, 99, 116, 105, 110, 103, 32, 39, 58, 39, 32, 100, 101, 108, 105, 109, 105, 116, 101, 114]) (.cons (.loc 4) .nil)))))
  .nil)
  .nil)
  (.cons (.asg (.loc 7) (.call (.glob 23) (.cons (.loc 0) (.cons (.call (.glob 20) (.cons (.loc 0) (.cons (.bin .Add (.loc 4) (.ii 1)) .nil))) (.cons (.loc 2) .nil)))))
  (.cons (.ifs (.cmp .NotEq (.idx (.loc 7) (.ii 0)) (.ss [105, 115]))
  (.cons (.ret (.loc 7))
  .nil)
  .nil)
  (.cons (.put (.loc 3) (.idx (.loc 6) (.ii 1)) (.idx (.loc 7) (.ii 1)))
  (.cons (.asg (.loc 5) (.call (.glob 20) (.cons (.loc 0) (.cons (.idx (.loc 7) (.ii 2)) .nil))))
  (.cons (.ifs (.cmp .Eq (.sl (.loc 0) (.some (.loc 5)) (.some (.bin .Add (.loc 5) (.ii 1)))) (.ss [125]))
  (.cons (.ret (.tup (.cons (.ss [105, 115]) (.cons (.loc 3) (.cons (.bin .Add (.loc 5) (.ii 1)) .nil)))))
  .nil)
  .nil)
  (.cons (.ifs (.cmp .NotEq (.sl (.loc 0) (.some (.loc 5)) (.some (.bin .Add (.loc 5) (.ii 1)))) (.ss [44]))
  (.cons (.ret (.tup (.cons (.ss [110, 111]) (.cons (.ss [69, 120, 112, 101, 99, 116, 105, 110, 103, 32, 39, 44, 39, 32, 100, 101, 108, 105, 109, 105, 116, 101, 114, 32, 111, 114, 32, 39, 125, 39]) (.cons (.loc 5) .nil)))))
  .nil)
  .nil)
  (.cons (.asg (.loc 4) (.call (.glob 20) (.cons (.loc 0) (.cons (.bin .Add (.loc 5) (.ii 1)) .nil))))
  .nil)))))))))))))
  .nil)))
def f28 : MF := ⟨["s", "at", "strict"], ["s", "at", "strict", "values", "k", "comma", "name", "told"], [], [], [], .inl b28⟩
theorem cw28 {S : Sx} {n : Nat} {cs : List Nat} {v0 v1 v2 : V} {H : AH} {Q : PV} {E : PE} (h : S.fns 28 = f28) (q : exs S cs b28 n [some v0, some v1, some v2, none, none, none, none, none] H (endK Q) (fun _ i H => E i H)) : callW S n 28 cs [v0, v1, v2] H Q E := callW_stm0 h rfl rfl (pts := [(some 0, none), (some 1, none), (some 2, none)]) (by decide +kernel) q
def b29 : SL := (.cons (.ifs (.or (.cons (.isi (.cel 0) .bool) (.cons (.isi (.cel 1) .bool) (.cons (.cmp .Is (.cel 0) .nn) (.cons (.cmp .Is (.cel 1) .nn) .nil)))))
  (.cons (.ret (.and (.cons (.cmp .Eq (.isi (.cel 0) .bool) (.isi (.cel 1) .bool)) (.cons (.cmp .Eq (.cel 0) (.cel 1)) .nil))))
  .nil)
  .nil)
  (.cons (.ifs (.and (.cons (.isi (.cel 0) .list) (.cons (.isi (.cel 1) .list) .nil)))
  (.cons (.ret (.and (.cons (.cmp .Eq (.bi .len (.cons (.cel 0) .nil)) (.bi .len (.cons (.cel 1) .nil))) (.cons (.cmp .Eq (.comp (.loc 0) (.loc 0) (.bi .range (.cons (.bi .len (.cons (.cel 0) .nil)) .nil)) (.cons (.not (.call (.glob 26) (.cons (.idx (.cel 0) (.loc 0)) (.cons (.idx (.cel 1) (.loc 0)) .nil)))) .nil) 30) (.lst .nil)) .nil))))
  .nil)
  .nil)
  (.cons (.ifs (.and (.cons (.isi (.cel 0) .dict) (.cons (.isi (.cel 1) .dict) .nil)))
  (.cons (.ret (.and (.cons (.cmp .Eq (.mkl (.cel 0)) (.mkl (.cel 1))) (.cons (.cmp .Eq (.comp (.loc 0) (.loc 0) (.cel 0) (.cons (.not (.call (.glob 26) (.cons (.idx (.cel 0) (.loc 0)) (.cons (.idx (.cel 1) (.loc 0)) .nil)))) .nil) 31) (.lst .nil)) .nil))))
  .nil)
  .nil)
  (.cons (.ret (.and (.cons (.cmp .Eq (.isi (.cel 0) .str) (.isi (.cel 1) .str)) (.cons (.cmp .Eq (.isi (.cel 0) .int) (.isi (.cel 1) .int)) (.cons (.cmp .Eq (.cel 0) (.cel 1)) .nil)))))
  .nil))))
def f29 : MF := ⟨["one", "other"], [], ["one", "other"], [], [], .inl b29⟩
theorem cw29 {S : Sx} {n : Nat} {cs : List Nat} {v0 v1 : V} {H : AH} {Q : PV} {E : PE} (h : S.fns 29 = f29) (q : exs S ([H.length + 0, H.length + 1] ++ cs) b29 n [] (((H ++ [O.cell none, O.cell none]).set (H.length + 0) (O.cell (some v0))).set (H.length + 1) (O.cell (some v1))) (endK Q) (fun _ i H => E i H)) : callW S n 29 cs [v0, v1] H Q E := callW_stm h rfl (pts := [(none, some 0), (none, some 1)]) (by decide +kernel) q
def b30 : SL := .nil
def f30 : MF := ⟨[], ["k"], [], ["one", "other"], [0, 1], .inl b30⟩
def b31 : SL := .nil
def f31 : MF := ⟨[], ["name"], [], ["one", "other"], [0, 1], .inl b31⟩
def b32 : SL := (.cons (.ret (.idx (.lst (.cons (.ss []) (.cons (.ss []) (.cons (.ss [32]) (.cons (.ss [10]) (.cons (.ss [9, 13, 32]) (.cons (.ss [32, 32]) .nil))))))) (.call (.glob 17) (.cons (.loc 0) (.cons (.ii 6) .nil)))))
  .nil)
def f32 : MF := ⟨["drawn"], ["drawn"], [], [], [], .inl b32⟩
theorem cw32 {S : Sx} {n : Nat} {cs : List Nat} {v0 : V} {H : AH} {Q : PV} {E : PE} (h : S.fns 32 = f32) (q : exs S cs b32 n [some v0] H (endK Q) (fun _ i H => E i H)) : callW S n 32 cs [v0] H Q E := callW_stm0 h rfl rfl (pts := [(some 0, none)]) (by decide +kernel) q
end Mine
set_option maxRecDepth 10000
namespace Mine
open PySem PySem.Calls PyProof.Rows PySem.W

/-! ## A function of the top, looked over by a reckoning -/
def vOk : V → Value → Bool
  | .nn, .none => true
  | .bb b, .bool c => b == c
  | .ii i, .int j _ => i == j
  | _, _ => false
def vsOk : List V → List Value → Bool
  | [], [] => true
  | v :: vs, c :: cs => vOk v c && vsOk vs cs
  | _, _ => false
theorem vOk_VR {S : Sx} {μ : List Addr} {h : Heap} {v : V} {c : Value} (e : vOk v c = true) : VR S μ h v c := by
  unfold vOk at e
  split at e
  · exact .nn
  · rw [eq_of_beq e]; exact .bb
  · rw [eq_of_beq e]; exact .ii
  · cases e
theorem vsOk_VRs {S : Sx} {μ : List Addr} {h : Heap} : ∀ {vs : List V} {cs : List Value}, vsOk vs cs = true → VRs S μ h vs cs
  | [], [], _ => .nil S
  | v :: vs, c :: cs, e => by
    unfold vsOk at e
    rw [Bool.and_eq_true] at e
    exact .cons S (vOk_VR e.1) (vsOk_VRs e.2)
  | [], _ :: _, e => by cases e
  | _ :: _, [], e => by cases e

def codeOk (K : Frag) (cd : Value) : Bool := match cd with
  | .ref c => match K.lookup c with
    | some ⟨cl, _, .fields vs, _⟩ => cl == .type "code" && (match (vs[1]? : Option Value) with
      | some (Value.str _ _) => true
      | _ => false)
    | _ => false
  | _ => false
def dvOf (K : Frag) (fd : FuncData) (k : Nat) : Option (List Value) := match fd.defaults with
  | .none => if k = 0 then some [] else none
  | .ref t => match K.lookup t with
    | some ⟨_, _, .seq items _, _⟩ => if k ≤ items.size ∧ items.size ≤ fd.params.args.length then some (items.toList.drop (items.size - k)) else none
    | _ => none
  | _ => none
def fnChk (K : Frag) (gname : Nat → Str) (fns : Nat → MF) (tabs : List (Addr × Addr)) (f m : Nat) (ds : List V) (nest : Bool) (a : Addr) : Bool := match K.lookup a with
  | some ⟨_, _, .func fd, _⟩ => fd.globals == mainGlobals && fd.builtins == builtinsNs && codeOk K fd.code && (!nest || tabs.any fun q => fd.code == .ref q.1) &&
      fd.params.posonlyargs.isEmpty && fd.params.vararg.isNone && fd.params.kwonlyargs.isEmpty && fd.params.kwarg.isNone && (fd.params.args.map (·.arg)) == (fns f).params && m + ds.length == fd.params.args.length &&
      (match dvOf K fd ds.length with
        | some dv => vsOk ds dv
        | none => false) && (fns f).free.isEmpty && agFc fns f fd.scope && agBody gname fns (if nest then ob1 gname fns else ob0) nest f fd.scope fd.body
  | _ => false

theorem gfn_of {S : Sx} (X : S.K.In S.base) {k f m : Nat} {ds : List V} {nest : Bool} {a : Addr} (hv : S.gv k = .ref a) (h : fnChk S.K S.gname S.fns S.tabs f m ds nest a = true)
    (hs : ∀ fd oc od sl, S.base.get? a = some ⟨oc, od, .func fd, sl⟩ → (startsSup (S.fns f).body).isSome = true → SupF S fd) : GFn S k f m ds nest := by
  unfold fnChk at h
  split at h
  case h_2 => cases h
  rename_i oc od fd sl hl
  simp only [Bool.and_eq_true, Bool.or_eq_true, Bool.not_eq_true', beq_iff_eq, List.isEmpty_iff, Option.isNone_iff_eq_none] at h
  obtain ⟨⟨⟨⟨⟨⟨⟨⟨⟨⟨⟨⟨⟨h1, h2⟩, h3⟩, h4⟩, h5⟩, h6⟩, h7⟩, h8⟩, h9⟩, h10⟩, h11⟩, h12⟩, h13⟩, h14⟩ := h
  have hb := X _ _ hl
  have hcode : ∃ q, CodeR S.base fd.code q := by
    unfold codeOk at h3
    split at h3
    · rename_i c hc
      split at h3
      · rename_i cl d vs sl2 hlc
        rw [Bool.and_eq_true, beq_iff_eq] at h3
        split at h3
        · rename_i q t hq
          exact ⟨q, c, _, vs, t, hc, X _ _ hlc, h3.1, rfl, hq⟩
        · cases h3.2
      · cases h3
    · cases h3
  have nd : (S.fns f).params.Nodup := (fc_ok h13).pnd
  have hpl : (S.fns f).params.length = fd.params.args.length := by rw [← h9, List.length_map]
  cases hdv : dvOf S.K fd ds.length with
  | none => rw [hdv] at h11; cases h11
  | some dv =>
    rw [hdv] at h11
    refine ⟨⟨a, oc, od, fd, sl, dv, hv, hb, h1, h2, hcode, fun hn => ?_, h13, h14, vsOk_VRs h11, fun args B s Q E hm hst q => ?_⟩, h12, fun fd' a' oc' od' sl' e1 e2 e3 => ?_⟩
    · rcases h4 with h4 | h4
      · rw [hn] at h4; cases h4
      · obtain ⟨q, hq, e⟩ := List.any_eq_true.mp h4
        exact ⟨q, hq, beq_iff_eq.mp e⟩
    · unfold dvOf at hdv
      split at hdv
      · rename_i hd
        split at hdv
        · rename_i h0
          cases hdv
          rw [List.append_nil] at q
          rw [bind_exact h5 h9 h6 h7 h8 hd nd (by omega)]
          exact wpAny_pure q
        · cases hdv
      · rename_i t hd
        split at hdv
        · rename_i c d items nn sl2 ht
          split at hdv
          · rename_i hle
            have hdv' := Option.some.inj hdv
            exact bind_dfl h5 h9 h6 h7 h8 hd (hst _ _ (X _ _ ht)) ⟨nn, rfl⟩ nd hle.1 (by omega) (by omega) hdv' q
          · cases hdv
        · cases hdv
      · cases hdv
    · rw [hv] at e1; cases e1
      exact hs _ _ _ _ e2 e3
end Mine
set_option maxRecDepth 10000
local macro_rules
  | `(tactic| simp_arith [$xs,*]) => `(tactic| simp only [Mine.ex_expr, Mine.ex_asg, Mine.ex_aug, Mine.ex_ifs, Mine.ex_ret, Mine.ex_brk, Mine.ex_cont, Mine.ex_raise, Mine.ex_put, Mine.ex_seta, Mine.sq_nrm, Mine.sq_brk, Mine.sq_cont, Mine.sq_ret, Mine.lk_nrm, Mine.lk_cont, Mine.lk_brk, Mine.lk_ret, Mine.end_ret, Mine.end_nrm, Mine.set_loc, Mine.set_two, Mine.set_three, Mine.set_four, Mine.unp_tt, Mine.tst_eq, Mine.ev_nn, Mine.ev_bb, Mine.ev_ii, Mine.ev_ss, Mine.ev_loc, Mine.ev_bin, Mine.ev_neg, Mine.ev_cmp, Mine.ev_not_f, Mine.ev_not_t, Mine.ev_and, Mine.ev_or, Mine.ev_ite, Mine.ev_bi, Mine.ev_isi, Mine.ev_call, Mine.ev_meth, Mine.ev_attr, Mine.ev_idx, Mine.ev_sl, Mine.ev_tup, Mine.evL_nil, Mine.evL_cons, Mine.evO_none, Mine.evO_some, Mine.evA_t, Mine.evA_tn, Mine.evA_f1, Mine.evA_f, Mine.fin_f, Mine.fin_t, Mine.tru_bb, Mine.tru_ii, Mine.tru_ss, Mine.tru_nn, Mine.onB_b, Mine.bin_add_ii, Mine.bin_sub_ii, Mine.bin_mul_ii, Mine.bin_div_ii, Mine.bin_mod_ii, Mine.bin_pow_ii, Mine.bin_shl_ii, Mine.bin_or_ii, Mine.bin_and_ii, Mine.bin_add_ss, Mine.bin_mod_ss, Mine.cmp_eq_ii, Mine.cmp_eq_ss, Mine.cmp_ne_ii, Mine.cmp_ne_ss, Mine.cmp_lt, Mine.cmp_le, Mine.cmp_gt, Mine.cmp_ge, Mine.cmp_is, Mine.cmp_isn, Mine.cmp_in, Mine.cmp_nin, Mine.cmp_in_tt, Mine.cmp_nin_gg, Mine.idx_ss, Mine.idx_tt, Mine.idx_rr, Mine.idx_rs, Mine.idx_gs, Mine.sl_ss_ii, Mine.sl_ss_in, Mine.sl_ss_ni, Mine.sl_rr_ii, Mine.sl_rr_in, Mine.sl_rr_ni, Mine.bi_len_ss, Mine.bi_len_tt, Mine.bi_len_rr, Mine.bi_ord, Mine.bi_chr, Mine.bi_int, Mine.bi_str, Mine.bi_repr, Mine.bi_range1, Mine.bi_range2, Mine.aug_add, Mine.aug_sub, Bool.not_true, Bool.not_false, Mine.V.ss.injEq, Mine.V.rr.injEq, Mine.V.ii.injEq, Mine.V.bb.injEq, List.getElem?_cons_zero, List.getElem?_cons_succ, List.set_cons_zero, List.set_cons_succ, Option.some.injEq, exists_eq_left', exists_eq_left, true_and, and_true, if_true, if_false, Bool.false_eq_true, $xs,*])
  | `(tactic| simp_arith) => `(tactic| simp only [Mine.ex_expr, Mine.ex_asg, Mine.ex_aug, Mine.ex_ifs, Mine.ex_ret, Mine.ex_brk, Mine.ex_cont, Mine.ex_raise, Mine.ex_put, Mine.ex_seta, Mine.sq_nrm, Mine.sq_brk, Mine.sq_cont, Mine.sq_ret, Mine.lk_nrm, Mine.lk_cont, Mine.lk_brk, Mine.lk_ret, Mine.end_ret, Mine.end_nrm, Mine.set_loc, Mine.set_two, Mine.set_three, Mine.set_four, Mine.unp_tt, Mine.tst_eq, Mine.ev_nn, Mine.ev_bb, Mine.ev_ii, Mine.ev_ss, Mine.ev_loc, Mine.ev_bin, Mine.ev_neg, Mine.ev_cmp, Mine.ev_not_f, Mine.ev_not_t, Mine.ev_and, Mine.ev_or, Mine.ev_ite, Mine.ev_bi, Mine.ev_isi, Mine.ev_call, Mine.ev_meth, Mine.ev_attr, Mine.ev_idx, Mine.ev_sl, Mine.ev_tup, Mine.evL_nil, Mine.evL_cons, Mine.evO_none, Mine.evO_some, Mine.evA_t, Mine.evA_tn, Mine.evA_f1, Mine.evA_f, Mine.fin_f, Mine.fin_t, Mine.tru_bb, Mine.tru_ii, Mine.tru_ss, Mine.tru_nn, Mine.onB_b, Mine.bin_add_ii, Mine.bin_sub_ii, Mine.bin_mul_ii, Mine.bin_div_ii, Mine.bin_mod_ii, Mine.bin_pow_ii, Mine.bin_shl_ii, Mine.bin_or_ii, Mine.bin_and_ii, Mine.bin_add_ss, Mine.bin_mod_ss, Mine.cmp_eq_ii, Mine.cmp_eq_ss, Mine.cmp_ne_ii, Mine.cmp_ne_ss, Mine.cmp_lt, Mine.cmp_le, Mine.cmp_gt, Mine.cmp_ge, Mine.cmp_is, Mine.cmp_isn, Mine.cmp_in, Mine.cmp_nin, Mine.cmp_in_tt, Mine.cmp_nin_gg, Mine.idx_ss, Mine.idx_tt, Mine.idx_rr, Mine.idx_rs, Mine.idx_gs, Mine.sl_ss_ii, Mine.sl_ss_in, Mine.sl_ss_ni, Mine.sl_rr_ii, Mine.sl_rr_in, Mine.sl_rr_ni, Mine.bi_len_ss, Mine.bi_len_tt, Mine.bi_len_rr, Mine.bi_ord, Mine.bi_chr, Mine.bi_int, Mine.bi_str, Mine.bi_repr, Mine.bi_range1, Mine.bi_range2, Mine.aug_add, Mine.aug_sub, Bool.not_true, Bool.not_false, Mine.V.ss.injEq, Mine.V.rr.injEq, Mine.V.ii.injEq, Mine.V.bb.injEq, List.getElem?_cons_zero, List.getElem?_cons_succ, List.set_cons_zero, List.set_cons_succ, Option.some.injEq, exists_eq_left', exists_eq_left, true_and, and_true, if_true, if_false, Bool.false_eq_true])
namespace Mine
open PySem PySem.Calls PyProof.Rows PySem.W

def bsTab : List (Nm × V) := [([34], .ss [34]), ([92], .ss [92]), ([47], .ss [47]), ([98], .ss [8]), ([102], .ss [12]), ([110], .ss [10]), ([114], .ss [13]), ([116], .ss [9])]
def n_msg : Nm := [109, 115, 103]
def n_doc : Nm := [100, 111, 99]
def n_pos : Nm := [112, 111, 115]
def n_end : Nm := [101, 110, 100]
def n_lineno : Nm := [108, 105, 110, 101, 110, 111]
def n_colno : Nm := [99, 111, 108, 110, 111]
def n_endlineno : Nm := [101, 110, 100, 108, 105, 110, 101, 110, 111]
def n_endcolno : Nm := [101, 110, 100, 99, 111, 108, 110, 111]
def n_object_hook : Nm := [111, 98, 106, 101, 99, 116, 95, 104, 111, 111, 107]
def n_object_pairs_hook : Nm := [111, 98, 106, 101, 99, 116, 95, 112, 97, 105, 114, 115, 95, 104, 111, 111, 107]
def n_parse_float : Nm := [112, 97, 114, 115, 101, 95, 102, 108, 111, 97, 116]
def n_parse_int : Nm := [112, 97, 114, 115, 101, 95, 105, 110, 116]
def n_strict : Nm := [115, 116, 114, 105, 99, 116]
def n_array_hook : Nm := [97, 114, 114, 97, 121, 95, 104, 111, 111, 107]
def n_parse_object : Nm := [112, 97, 114, 115, 101, 95, 111, 98, 106, 101, 99, 116]
def n_parse_array : Nm := [112, 97, 114, 115, 101, 95, 97, 114, 114, 97, 121]
def n_parse_string : Nm := [112, 97, 114, 115, 101, 95, 115, 116, 114, 105, 110, 103]
def n_scan_once : Nm := [115, 99, 97, 110, 95, 111, 110, 99, 101]
def n_from_text : Nm := [102, 114, 111, 109, 95, 116, 101, 120, 116]
def n_raw_from_text : Nm := [114, 97, 119, 95, 102, 114, 111, 109, 95, 116, 101, 120, 116]
def excAttrs : List Nm := [n_msg, n_doc, n_pos, n_end, n_lineno, n_colno, n_endlineno, n_endcolno]
def objAttrs : List Nm := [n_object_hook, n_object_pairs_hook, n_parse_float, n_parse_int, n_strict, n_array_hook, n_parse_object, n_parse_array, n_parse_string, n_scan_once]

/-- what a law's surroundings give: the texts and where they lie -/
structure Rd (S : Sx) : Prop where
  sv : SV S
  fns : ∀ k, k ≤ 16 → S.fns k = [f0, f1, f2, f3, f4, f5, f6, f7, f8, f9, f10, f11, f12, f13, f14, f15, f16].getD k default
  gs : ∀ k, k ≤ 16 → S.gs k = (if k = 6 then some [32, 9, 10, 13] else if k = 7 then some [48, 49, 50, 51, 52, 53, 54, 55, 56, 57, 97, 98, 99, 100, 101, 102] else none)
  gd : S.gd 9 = some bsTab
  isE : ∀ c, S.isE c = true ↔ c = 3
  ao3 : ∀ a ∈ excAttrs, S.ao 3 a = true
  ao16 : ∀ a ∈ objAttrs, S.ao 16 a = true
  cm1 : S.cm 16 n_from_text = some 101
  cm2 : S.cm 16 n_raw_from_text = some 102
  g_linecol : GFn S 0 0 2 [] false
  g_errmsg : GFn S 1 1 4 [] false
  g_exc3 : GExc S 3 100 2 3 [.nn] false
  g_exc4 : GExc S 3 100 2 4 [] false
  g_digits : GFn S 2 3 2 [] false
  g_number : GFn S 4 4 2 [] false
  g_mk : GFn S 15 5 1 [] true
  g_ws : GFn S 11 8 2 [] false
  g_chunk : GFn S 8 9 2 [] false
  g_hex : GFn S 10 10 2 [] false
  g_str : GFn S 12 11 3 [] false
  g_obj : GFn S 13 12 5 [] false
  g_arr : GFn S 14 13 3 [] false
  g_from : GFn S 101 15 2 [] false
  g_raw1 : GFn S 102 16 2 [.ii 0] false
  g_raw2 : GFn S 102 16 3 [] false

def isDig (c : Nat) : Bool := decide (48 ≤ c ∧ c ≤ 57)
def isWs (c : Nat) : Bool := c == 32 || c == 9 || c == 10 || c == 13
theorem BIG_le {n : Nat} (h : n ≤ 1000000) : n ≤ BIG := by unfold BIG; omega
theorem Calls.le {S : Sx} {n m : Nat} {f : V} {args : List V} {H : AH} {Q : PV} {E : PE} (x : Calls S n f args H Q E) (h : n ≤ m) (h0 : n ≠ 0) : Calls S m f args H Q E := by
  intro A s μ cf cargs ac g rf ra
  refine x A s μ cf cargs ⟨ac.frames, ?_, ?_, fun _ => ac.hand (by omega)⟩ g rf ra
  · exact Nat.le_trans (by omega) ac.depth
  · have := ac.units; omega

/-! slices at places -/
theorem clip_nat (i n : Nat) : clip (i : Int) n = min i n := by unfold clip; rw [if_neg (by omega)]; rfl
theorem pyS_nat {α : Type} (s : List α) (a b : Nat) : pyS s (some (a : Int)) (some (b : Int)) = (s.drop a).take (b - a) := by
  unfold pyS loC hiC
  simp only [clip_nat]
  rcases Nat.le_total a s.length with ha | ha
  · rw [Nat.min_eq_left ha]
    rcases Nat.le_total b s.length with hb | hb
    · rw [Nat.min_eq_left hb]
    · rw [Nat.min_eq_right hb, List.take_of_length_le (by simp), List.take_of_length_le (by simp; omega)]
  · rw [Nat.min_eq_right ha, List.drop_of_length_le (Nat.le_refl _), List.drop_of_length_le ha]; simp
theorem pyS_nat' {α : Type} (s : List α) (a : Nat) : pyS s (some (a : Int)) none = s.drop a := by
  unfold pyS loC hiC
  simp only [clip_nat]
  rcases Nat.le_total a s.length with ha | ha
  · rw [Nat.min_eq_left ha, List.take_of_length_le (by simp)]
  · rw [Nat.min_eq_right ha, List.drop_of_length_le (Nat.le_refl _), List.drop_of_length_le ha]; simp
theorem pyS_nat0 {α : Type} (s : List α) (b : Nat) : pyS s none (some (b : Int)) = s.take b := by
  unfold pyS loC hiC
  simp only [clip_nat, List.drop_zero, Nat.sub_zero]
  rcases Nat.le_total b s.length with hb | hb
  · rw [Nat.min_eq_left hb]
  · rw [Nat.min_eq_right hb, List.take_of_length_le (Nat.le_refl _), List.take_of_length_le hb]
theorem pySk (s : List Nat) (e k : Nat) : pyS s (some (e : Int)) (some ((e : Int) + (k : Int))) = (s.drop e).take k := by
  have := pyS_nat s e (e + k)
  rw [show ((e + k : Nat) : Int) = (e : Int) + (k : Int) by omega] at this
  rw [this, show e + k - e = k by omega]
theorem pyS1 (s : List Nat) (e : Nat) : pyS s (some (e : Int)) (some ((e : Int) + 1)) = (s[e]?).toList := by
  have := pySk s e 1
  rw [show ((e : Int) + (1 : Nat)) = (e : Int) + 1 by omega] at this
  rw [this, List.take_one]
  simp
theorem ot_none : (none : Option Nat).toList = [] := rfl
theorem ot_some {c : Nat} : (some c).toList = [c] := rfl
theorem ne_nn : (([] : List Nat) != []) = false := rfl
theorem ne_cn {c : Nat} {l : List Nat} : ((c :: l) != []) = true := rfl
theorem eq_nn : (([] : List Nat) == []) = true := rfl
theorem eq_cn {c : Nat} {l : List Nat} : ((c :: l) == []) = false := rfl
theorem eq_nc {c : Nat} {l : List Nat} : ([] == (c :: l)) = false := rfl
theorem ne_nc {c : Nat} {l : List Nat} : ([] != (c :: l)) = true := rfl
theorem eq_11 {c d : Nat} : ([c] == [d]) = (c == d) := by simp
theorem ne_11 {c d : Nat} : ([c] != [d]) = (c != d) := by simp [bne]
theorem strIn_one {c : Nat} {y : List Nat} : strIn [c] y = y.contains c := rfl
theorem strIn_nil {y : List Nat} : strIn [] y = true := rfl
theorem isDig_in {c : Nat} : [48, 49, 50, 51, 52, 53, 54, 55, 56, 57].contains c = isDig c := by
  unfold isDig
  rw [Bool.eq_iff_iff]
  simp
  omega
theorem isWs_in {c : Nat} : [32, 9, 10, 13].contains c = isWs c := by
  unfold isWs
  rw [Bool.eq_iff_iff]
  simp [Bool.or_assoc]
theorem drop_cons {s : List Nat} {e c : Nat} (h : s[e]? = some c) : s.drop e = c :: s.drop (e + 1) := by
  obtain ⟨hl, h⟩ := List.getElem?_eq_some_iff.mp h
  rw [List.drop_eq_getElem_cons hl, h]
theorem get_drop {s : List Nat} {e c : Nat} {r : List Nat} (h : s.drop e = c :: r) : s[e]? = some c := by
  have := List.head?_drop (l := s) (i := e)
  rw [h] at this; exact this.symm
theorem pyI_nat {α : Type} (l : List α) (e : Nat) : pyI l (e : Int) = l[e]? := by
  unfold pyI; rw [if_pos (by omega)]; rfl
theorem fit_nat {e : Nat} (h : e ≤ 1000000000) : Fit (e : Int) := by unfold Fit; omega
theorem lt_of_get {s : List Nat} {e c : Nat} (h : s[e]? = some c) : e < s.length := (List.getElem?_eq_some_iff.mp h).1
theorem ge_of_get {s : List Nat} {e : Nat} (h : s[e]? = none) : s.length ≤ e := List.getElem?_eq_none_iff.mp h
section
variable {S : Sx} {n : Nat} {H : AH} {Q : PV} {E : PE}
theorem digits_end_ok (R : Rd S) {s : List Nat} {e : Nat} (hs : s.length ≤ 1000000) (q : Q (.ii ((e + ((s.drop e).takeWhile isDig).length : Nat) : Int)) H) : Calls S (n + 1) (.gg 2) [.ss s, .ii e] H Q E := by
  refine calls_gg R.sv R.g_digits rfl (cw3 (R.fns 3 (by decide)) ?_)
  have hB := BIG_le hs
  unfold b3
  rw [exs_cons_, ex_whl]
  refine ⟨fun m ρ' H' => ∃ e' : Nat, ρ' = [some (.ss s), some (.ii e')] ∧ H' = H ∧ m = s.length - e' ∧ e' + ((s.drop e').takeWhile isDig).length = e + ((s.drop e).takeWhile isDig).length, ⟨_, e, rfl, rfl, rfl, rfl⟩, ?_⟩
  rintro m ρ' H' ⟨e', rfl, rfl, rfl, he⟩
  simp_arith [hB, pyS1]
  cases hc : s[e']? with
  | none =>
    have h0 : (s.drop e').takeWhile isDig = [] := by
      rw [List.drop_of_length_le (List.getElem?_eq_none_iff.mp hc)]; rfl
    rw [h0] at he
    simp_arith [ot_none, ne_nn]
    rw [exs_cons_]
    simp_arith
    rw [← he] at q
    exact q
  | some c =>
    simp_arith [ot_some, ne_cn, strIn_one, isDig_in]
    cases hd : isDig c
    · have h0 : (s.drop e').takeWhile isDig = [] := by
        rw [drop_cons hc, List.takeWhile_cons_of_neg (by simp [hd])]
      rw [h0] at he
      simp_arith
      rw [exs_cons_]
      simp_arith
      rw [← he] at q
      exact q
    · have h0 : (s.drop e').takeWhile isDig = c :: (s.drop (e' + 1)).takeWhile isDig := by
        rw [drop_cons hc, List.takeWhile_cons_of_pos hd]
      rw [h0] at he
      have hl := (List.getElem?_eq_some_iff.mp hc).1
      simp_arith
      rw [exs_cons_]
      simp_arith [exs_nil_]
      refine ⟨s.length - (e' + 1), by omega, e' + 1, by simp, rfl, ?_⟩
      rw [← he, List.length_cons]; omega
end
end Mine
set_option maxRecDepth 10000
namespace Mine
open PySem PySem.Calls PyProof.Rows PySem.W

/-! ## The surroundings of a law -/
structure Cfg where
  gnames : List Str
  gvs : List Value
  xs : List Addr
  fns : Nat → MF
  tabs : List (Addr × Addr)
  table : Addr
  clsE : Addr
  clsD : Addr
  ws : Tok
  hx : Tok
def wsL : List Nat := [32, 9, 10, 13]
def hxL : List Nat := [48, 49, 50, 51, 52, 53, 54, 55, 56, 57, 97, 98, 99, 100, 101, 102]
def Cfg.gname (c : Cfg) (k : Nat) : Str := c.gnames.getD k ⟨#[]⟩
def Cfg.gv (c : Cfg) (k : Nat) : Value := if k < 100 then c.gvs.getD k .none else match c.xs[k - 100]? with
  | some a => .ref a
  | none => .none
def mkS (c : Cfg) (prog : Program) (w : World) (base : Heap) (mg mb : Str → Option Value) (K : Frag) : Sx where
  prog := prog
  w := w
  base := base
  mg := mg
  mb := mb
  tabs := c.tabs
  gname := c.gname
  gv := c.gv
  gs := fun k => if k = 6 then some wsL else if k = 7 then some hxL else none
  fns := c.fns
  gd := fun k => if k = 9 then some bsTab else none
  cm := fun k m => if k = 16 then (if m = n_from_text then some 101 else if m = n_raw_from_text then some 102 else none) else none
  K := K
  ao := fun k a => if k = 3 then excAttrs.contains a else if k = 16 then objAttrs.contains a else false
  isE := fun k => k == 3
def vEq : Value → Value → Bool
  | .ref a, .ref b => a == b
  | .str x t, .str y u => x == y && t == u
  | .type a, .type b => a == b
  | .builtin a, .builtin b => a == b
  | .none, .none => true
  | _, _ => false
theorem vEq_eq {a b : Value} (h : vEq a b = true) : a = b := by
  unfold vEq at h
  split at h
  · rw [beq_iff_eq] at h; rw [h]
  · rw [Bool.and_eq_true, beq_iff_eq, beq_iff_eq] at h; rw [h.1, h.2]
  · rw [beq_iff_eq] at h; rw [h]
  · rw [beq_iff_eq] at h; rw [h]
  · rfl
  · cases h
/-- a name of the top or of the built-in names -/
def nmOk (K : Frag) (n : Str) (v : Value) : Bool := match nsIn K mainGlobals n with
  | some (some u) => vEq u v
  | some none => !(n == ("__name__" : Str)) && (match bootBuiltins n with
    | some u => vEq u v
    | none => false)
  | none => false
def biOk (K : Frag) (n : Str) (v : Value) : Bool := match nsIn K mainGlobals n with
  | some none => !(n == ("__name__" : Str)) && (match bootBuiltins n with
    | some u => vEq u v
    | none => false)
  | _ => false
section
variable {p : Program} {loose : List Str} {mean : ExcName → Option Value} {mg mb : Str → Option Value} {h : Heap} {K : Frag}
theorem nmOk_of (X : K.In h) (T : Top p loose mean mg mb h) {n : Str} {v : Value} (e : nmOk K n v = true) : mg n = some v ∨ (mg n = none ∧ mb n = some v) := by
  unfold nmOk at e
  split at e
  · rename_i u hu
    left
    rw [mg_of X T.g hu, vEq_eq e]
  · rename_i hu
    right
    rw [Bool.and_eq_true] at e
    split at e
    · rename_i u hb
      refine ⟨mg_none_of X T.g hu, ?_⟩
      rw [T.builtins n (by simpa using e.1), hb, vEq_eq e.2]
    · cases e.2
  · cases e
theorem biOk_of (X : K.In h) (T : Top p loose mean mg mb h) {n : Str} {v : Value} (e : biOk K n v = true) : mg n = none ∧ mb n = some v := by
  unfold biOk at e
  split at e
  · rename_i hu
    rw [Bool.and_eq_true] at e
    split at e
    · rename_i u hb
      refine ⟨mg_none_of X T.g hu, ?_⟩
      rw [T.builtins n (by simpa using e.1), hb, vEq_eq e.2]
    · cases e.2
  · cases e
end
def fNone (K : Frag) (C : Addr) (a : Str) : Bool := match findIn K (.ref C) a with | some none => true | _ => false
def fBi (K : Frag) (C : Addr) (a : Str) (id : String) : Bool := match findIn K (.ref C) a with | some (some (.builtin b)) => b == id | _ => false
def fRef (K : Frag) (C : Addr) (a : Str) (f : Addr) : Bool := match findIn K (.ref C) a with | some (some (.ref g)) => g == f | _ => false
theorem fNone_of {K : Frag} {C : Addr} {a : Str} (h : fNone K C a = true) : findIn K (.ref C) a = some none := by
  unfold fNone at h; split at h
  · assumption
  · cases h
theorem fBi_of {K : Frag} {C : Addr} {a : Str} {id : String} (h : fBi K C a id = true) : findIn K (.ref C) a = some (some (.builtin id)) := by
  unfold fBi at h; split at h
  · rename_i b e; rw [beq_iff_eq] at h; rw [e, h]
  · cases h
theorem fRef_of {K : Frag} {C : Addr} {a : Str} {f : Addr} (h : fRef K C a f = true) : findIn K (.ref C) a = some (some (.ref f)) := by
  unfold fRef at h; split at h
  · rename_i b e; rw [beq_iff_eq] at h; rw [e, h]
  · cases h
def aoChk (K : Frag) (C : Addr) (a : Nm) : Bool := hasDictIn K C && fNone K C ⟨a.toArray⟩ && fBi K C "__setattr__" "object.__setattr__"
def isRef (v : Value) (a : Addr) : Bool := match v with | .ref b => b == a | _ => false
def mroChk (K : Frag) (C : Addr) : Bool := match clsIn K C with
  | some cd => (match cd.mro with
    | [.ref D, .type a, .type b, .type c, .type d] => D == C && a == "ValueError" && b == "Exception" && c == "BaseException" && d == "object"
    | _ => false)
  | none => false
theorem mroChk_of {K : Frag} {C : Addr} (h : mroChk K C = true) : ∃ cd, clsIn K C = some cd ∧ cd.mro = .ref C :: bmVE := by
  unfold mroChk at h
  split at h
  · rename_i cd e
    split at h
    · rename_i D a b c d e2
      simp only [Bool.and_eq_true, beq_iff_eq] at h
      obtain ⟨⟨⟨⟨h1, h2⟩, h3⟩, h4⟩, h5⟩ := h
      exact ⟨cd, e, by rw [e2, h1, h2, h3, h4, h5]⟩
    · cases h
  · cases h
def someT : Option Bool → Bool | some b => b | none => false
def someF : Option Bool → Bool | some b => !b | none => false
def typeOk (v : Option Value) (t : String) : Bool := match v with | some (.type n) => n == t | _ => false
theorem typeOk_of {v : Option Value} {t : String} (h : typeOk v t = true) : v = some (.type t) := by
  unfold typeOk at h; split at h
  · rw [beq_iff_eq] at h; rw [h]
  · cases h
/-- everything that is looked over -/
def Cfg.chk (c : Cfg) (K : Frag) : Bool :=
  (List.range c.gnames.length).all (fun k => (c.gname k).cps.isEmpty || nmOk K (c.gname k) (c.gv k)) && decide (c.gnames.length ≤ 100) && c.gvs.all handedIn &&
  [Bi.len, .ord, .chr, .int, .str, .repr, .list, .dict, .range].all (fun f => biOk K f.name f.val) &&
  [Ty.bool, .int, .str, .list, .dict].all (fun f => biOk K f.name f.val) &&
  biOk K "isinstance" (.builtin "isinstance") && biOk K "super" (.type "super") &&
  vEq (c.gv 6) (.str ⟨wsL.toArray⟩ c.ws) && vEq (c.gv 7) (.str ⟨hxL.toArray⟩ c.hx) && isRef (c.gv 9) c.table && isRef (c.gv 3) c.clsE && isRef (c.gv 16) c.clsD &&
  excAttrs.all (aoChk K c.clsE) && objAttrs.all (aoChk K c.clsD) && plainOver K c.clsD && plainGet K c.clsD ⟨#[]⟩ && fBi K c.clsE "__getattribute__" "BaseException.__getattribute__" && (fNone K c.clsE "__getattr__" && fBi K c.clsE "__str__" "BaseException.__str__") &&
  someT (mroIn K c.clsE (.type "BaseException")) && someF (mroIn K c.clsE (.type "tuple")) && ktsIn K c.clsE "BaseException" && typeOk (typeIn K (.ref c.clsE)) "type" && mroChk K c.clsE &&
  plainGet K c.clsD ⟨n_from_text.toArray⟩ && fRef K c.clsD ⟨n_from_text.toArray⟩ (c.xs.getD 1 0) && isFn K (.ref (c.xs.getD 1 0)) &&
  plainGet K c.clsD ⟨n_raw_from_text.toArray⟩ && fRef K c.clsD ⟨n_raw_from_text.toArray⟩ (c.xs.getD 2 0) && isFn K (.ref (c.xs.getD 2 0)) &&
  (K.lookup c.clsE).isSome && decide (sysModules < c.clsE) && decide (4 ≤ c.xs.length)
theorem isRef_of {v : Value} {a : Addr} (h : isRef v a = true) : v = .ref a := by
  unfold isRef at h; split at h
  · rw [beq_iff_eq] at h; rw [h]
  · cases h
theorem someT_of {b : Option Bool} (h : someT b = true) : b = some true := by cases b with | none => cases h | some b => cases b; cases h; rfl
theorem someF_of {b : Option Bool} (h : someF b = true) : b = some false := by cases b with | none => cases h | some b => cases b; rfl; cases h
theorem entR_of {S : Sx} {h : Heap} : ∀ {es : List (Nm × List Nat)} {kvs : List (Str × Value)}, PyProof.V.FlatPairs PyData.str kvs (es.map fun p => (PyData.str ⟨p.1.toArray⟩, PyData.str ⟨p.2.toArray⟩)) → EntR S [] h (es.map fun p => (p.1, .ss p.2)) kvs
  | [], kvs, f => by cases f; rw [List.map_nil, EntR]
  | (k, v) :: es, kvs, f => by
    rw [List.map_cons] at f
    generalize hz : es.map (fun p => (PyData.str ⟨p.1.toArray⟩, PyData.str ⟨p.2.toArray⟩)) = D at f
    generalize hy : (PyData.str ⟨k.toArray⟩, PyData.str ⟨v.toArray⟩) = y at f
    cases f with
    | cons hf fr =>
      injection hy with h1 h2
      injection h1 with h1
      subst h1 h2 hz
      obtain ⟨t, rfl⟩ := hf.str_inv
      rw [List.map_cons, EntR]
      exact ⟨_, _, rfl, .ss, entR_of fr⟩

theorem sv_of {c : Cfg} {prog : Program} {w : World} {p : Program} {loose : List Str} {mean : ExcName → Option Value} {mg mb : Str → Option Value} {base : Heap} {K : Frag} (X : K.In base) (T : Top p loose mean mg mb base) (hc : c.chk K = true)
    (htabs : ∀ q ∈ c.tabs, CodeHd base q.1 q.2 ∧ base.get? q.2 = none) (hgd : StrTab prog w base c.table ([([34], [34]), ([92], [92]), ([47], [47]), ([98], [8]), ([102], [12]), ([110], [10]), ([114], [13]), ([116], [9])].map fun (p : List Nat × List Nat) => (PyData.str ⟨p.1.toArray⟩, PyData.str ⟨p.2.toArray⟩))) :
    SV (mkS c prog w base mg mb K) := by
  unfold Cfg.chk at hc
  simp only [Bool.and_eq_true, decide_eq_true_eq] at hc
  obtain ⟨⟨⟨⟨⟨⟨⟨⟨⟨⟨⟨⟨⟨⟨⟨⟨⟨⟨⟨⟨⟨⟨⟨⟨⟨⟨⟨⟨⟨⟨⟨h1, h2⟩, h3⟩, h4⟩, h5⟩, h6⟩, h7⟩, h8⟩, h9⟩, h10⟩, h11⟩, h12⟩, h13⟩, h14⟩, h15⟩, h15a⟩, h15b⟩, h15c⟩, h16⟩, h17⟩, h18⟩, h19⟩, h20⟩, h21⟩, h22⟩, h23⟩, h24⟩, h25⟩, h26⟩, h27⟩, h28⟩, h29⟩ := hc
  have aoOf : ∀ (C : Addr) (l : List Nm) (a : Nm), l.all (aoChk K C) = true → l.contains a = true → hasDictIn K C = true ∧ findIn K (.ref C) ⟨a.toArray⟩ = some none ∧ findIn K (.ref C) "__setattr__" = some (some (.builtin "object.__setattr__")) := by
    intro C l a hl ha
    have := List.all_eq_true.mp hl a (by simpa using ha)
    unfold aoChk at this
    simp only [Bool.and_eq_true] at this
    exact ⟨this.1.1, fNone_of this.1.2, fBi_of this.2⟩
  refine { g := T.g, b := T.b, lim := T.nolimit, glob := ?_, bi := ?_, tabs := htabs, gd := ?_, sysm := ?_, ty := ?_, isi := biOk_of X T h6, kin := X, gs := ?_, hand := ?_, ao := ?_, exc := ?_, exs := ?_, exg := ?_, cm := ?_, bmain := T.bmain }
  · intro k hk
    have hlt : k < c.gnames.length := by
      rcases Nat.lt_or_ge k c.gnames.length with h | h
      · exact h
      · exfalso
        have e : (mkS c prog w base mg mb K).gname k = ⟨#[]⟩ := by
          show c.gname k = _
          unfold Cfg.gname
          rw [List.getD_eq_getElem?_getD, List.getElem?_eq_none_iff.mpr h]; rfl
        rw [e] at hk; cases hk
    have := List.all_eq_true.mp h1 k (List.mem_range.mpr hlt)
    rw [Bool.or_eq_true] at this
    rcases this with z | z
    · rw [show (mkS c prog w base mg mb K).gname k = c.gname k from rfl, z] at hk; cases hk
    · exact nmOk_of X T z
  · intro f
    exact biOk_of X T (List.all_eq_true.mp h4 f (by cases f <;> simp))
  · intro k es hk
    dsimp only [mkS] at hk
    split at hk
    · rename_i e
      subst e
      cases hk
      obtain ⟨hs, kvs, hd, hf⟩ := hgd
      refine ⟨c.table, kvs, isRef_of h10, by simpa using hs, hd, ?_⟩
      exact entR_of hf
    · cases hk
  · refine ⟨c.clsE, h28, ?_⟩
    obtain ⟨o, ho⟩ := Option.isSome_iff_exists.mp h27
    rw [show (mkS c prog w base mg mb K).base = base from rfl, X _ _ ho]; simp
  · intro t
    exact biOk_of X T (List.all_eq_true.mp h5 t (by cases t <;> simp))
  · intro k x hk
    dsimp only [mkS] at hk
    split at hk
    · rename_i e; subst e; cases hk; exact ⟨c.ws, vEq_eq h8⟩
    · split at hk
      · rename_i e; subst e; cases hk; exact ⟨c.hx, vEq_eq h9⟩
      · cases hk
  · intro k
    show handedIn (c.gv k) = true
    unfold Cfg.gv
    split
    · rw [List.getD_eq_getElem?_getD]
      cases he : c.gvs[k]? with
      | none => rfl
      | some v => exact List.all_eq_true.mp h3 v (List.mem_of_getElem? he)
    · split <;> rfl
  · intro k C a e1 e2
    dsimp only [mkS] at e2
    split at e2
    · rename_i e; subst e
      have : (Value.ref c.clsE) = .ref C := (isRef_of h11).symm.trans e1
      cases this
      obtain ⟨a2, a3, a4⟩ := aoOf _ _ _ h13 e2
      exact ⟨fun z => (by cases z), a2, a3, a4, fun z => by cases z⟩
    · split at e2
      · rename_i e; subst e
        have : (Value.ref c.clsD) = .ref C := (isRef_of h12).symm.trans e1
        cases this
        obtain ⟨a2, a3, a4⟩ := aoOf _ _ _ h14 e2
        exact ⟨fun _ => h15a, a2, a3, a4, fun _ => h15⟩
      · cases e2
  · intro k C e1 e2
    have hk : k = 3 := by simpa [mkS] using e2
    subst hk
    have : (Value.ref c.clsE) = .ref C := (isRef_of h11).symm.trans e1
    cases this
    exact ⟨someT_of h16, someF_of h17, h18, typeOk_of h19, mroChk_of h20⟩
  · intro k C e1 e2
    have hk : k = 3 := by simpa [mkS] using e2
    subst hk
    have : (Value.ref c.clsE) = .ref C := (isRef_of h11).symm.trans e1
    cases this
    exact fBi_of h15c.2
  · intro k C e1 e2
    have hk : k = 3 := by simpa [mkS] using e2
    subst hk
    have : (Value.ref c.clsE) = .ref C := (isRef_of h11).symm.trans e1
    cases this
    exact ⟨fBi_of h15b, fNone_of h15c.1⟩
  · intro k C m f e1 e2
    dsimp only [mkS] at e2
    split at e2
    · rename_i e; subst e
      have : (Value.ref c.clsD) = .ref C := (isRef_of h12).symm.trans e1
      cases this
      have hx : ∀ i, i < 4 → c.gv (100 + i) = .ref (c.xs.getD i 0) := by
        intro i hi
        unfold Cfg.gv
        rw [if_neg (by omega), Nat.add_sub_cancel_left, List.getElem?_eq_getElem (by omega), List.getD_eq_getElem?_getD, List.getElem?_eq_getElem (by omega)]; rfl
      split at e2
      · rename_i e; subst e; cases e2
        exact ⟨h21, _, hx 1 (by decide), fRef_of h22, h23⟩
      · split at e2
        · rename_i e; subst e; cases e2
          exact ⟨h24, _, hx 2 (by decide), fRef_of h25, h26⟩
        · cases e2
    · cases e2
end Mine
set_option maxRecDepth 10000
namespace Mine
open PySem PySem.Calls PyProof.Rows PySem.W

def nsStr (K : Frag) (N : Addr) : Bool := match K.lookup N with
  | some ⟨_, _, .dict es _, _⟩ => es.toList.all fun e => match e.key with
    | .str _ _ => true
    | _ => false
  | _ => false
theorem ns_of {K : Frag} {h : Heap} {N : Addr} (X : K.In h) (e : nsStr K N = true) : ∃ m, h.Ns N m ∧ ∀ name v, nsIn K N name = some (some v) → m name = some v := by
  unfold nsStr at e
  split at e
  · rename_i cl d es n sl q
    refine ⟨fun name => nsFind es name, ⟨_, es, n, X _ _ q, rfl, fun x hx => ?_, fun _ => rfl⟩, fun name v hv => ?_⟩
    · have := List.all_eq_true.mp e x (by simpa using hx)
      split at this
      · rename_i a b hk; exact ⟨a, b, hk⟩
      · cases this
    · unfold nsIn at hv
      rw [q] at hv
      simp only at hv
      split at hv
      · rename_i en he
        cases hv
        have e1 : es.find? (·.key.isStr name) = some en := by rw [← Array.find?_toList]; exact he
        show (es.find? (·.key.isStr name)).map (·.val) = some en.val
        rw [e1]; rfl
      · split at hv <;> cases hv
  · cases e
def refIs (v : Option (Option Value)) (f : Addr) : Bool := match v with | some (some (.ref g)) => g == f | _ => false
theorem refIs_of {v : Option (Option Value)} {f : Addr} (h : refIs v f = true) : v = some (some (.ref f)) := by
  unfold refIs at h; split at h
  · rw [beq_iff_eq] at h; rw [h]
  · cases h
def isVE (l : List Value) : Bool := match l with
  | [.type a, .type b, .type c, .type d] => a == "ValueError" && b == "Exception" && c == "BaseException" && d == "object"
  | _ => false
theorem isVE_of {l : List Value} (h : isVE l = true) : l = bmVE := by
  unfold isVE at h; split at h
  · simp only [Bool.and_eq_true, beq_iff_eq] at h; obtain ⟨⟨⟨h1, h2⟩, h3⟩, h4⟩ := h; rw [h1, h2, h3, h4]
  · cases h
def excChk (K : Frag) (C fI : Addr) : Bool := (match K.lookup C with
  | some ⟨.type t, _, .cls cd, sl⟩ => (match cd.mro, sl.toList with
    | .ref C' :: bm, [_, _, _, _, some (.builtin n), _] => t == "type" && C' == C && n == "ValueError.__new__" && !cd.hasDel && isVE bm && nsStr K cd.ns && refIs (nsIn K cd.ns "__init__") fI
    | _, _ => false)
  | _ => false) && (match K.lookup fI with
  | some ⟨.type t, _, _, _⟩ => t == "function"
  | _ => false) && keepIn K (.ref C)
theorem exc_at {K : Frag} {h : Heap} {C fI : Addr} (X : K.In h) (e : excChk K C fI = true) :
    (∃ (N : Addr) (mN : Str → Option Value) (nm q : Str) (bs : List Value) (hdct : Bool) (sn : List Str) (sub : List Value) (ab : Bool) (col : Option Bool) (dd : Option Addr) (k0 k1 k2 k3 k5 : Option Value),
      h.get? C = some (excClassObj nm q C N bs bmVE hdct sn sub ab col dd k0 k1 k2 k3 k5 "ValueError.__new__") ∧ h.Ns N mN ∧ mN "__init__" = some (.ref fI)) ∧ (∃ oI, h.get? fI = some oI ∧ oI.cls = .type "function") ∧ keepIn K (.ref C) = true := by
  unfold excChk at e
  simp only [Bool.and_eq_true] at e
  obtain ⟨⟨e1, e2⟩, e3⟩ := e
  refine ⟨?_, ?_, e3⟩
  · split at e1
    · rename_i t dd cd sl ho
      split at e1
      · rename_i C' bm k0 k1 k2 k3 n k5 hm hs
        simp only [Bool.and_eq_true, beq_iff_eq, Bool.not_eq_true'] at e1
        obtain ⟨⟨⟨⟨⟨⟨ht, rfl⟩, rfl⟩, hdel⟩, hve⟩, hns⟩, hi⟩ := e1
        subst ht
        obtain ⟨nm, bs, mro, ns, qn, hd, sn, sub, ab, col, del⟩ := cd
        dsimp only at hm hdel hns hi
        subst hm hdel
        have := isVE_of hve
        subst this
        have hsl : sl = #[k0, k1, k2, k3, some (.builtin "ValueError.__new__"), k5] := by
          obtain ⟨l⟩ := sl
          simp only at hs
          rw [hs]
        subst hsl
        obtain ⟨m, h1, h2⟩ := ns_of X hns
        exact ⟨ns, m, nm, qn, bs, hd, sn, sub, ab, col, dd, k0, k1, k2, k3, k5, X _ _ ho, h1, h2 _ _ (refIs_of hi)⟩
      · cases e1
    · cases e1
  · split at e2
    · rename_i t a b d ho
      rw [beq_iff_eq] at e2
      subst e2
      exact ⟨_, X _ _ ho, rfl⟩
    · cases e2
theorem gexc_of {S : Sx} (X : S.K.In S.base) {c kI f m : Nat} {ds : List V} {nest : Bool} {C fI : Addr} (hc : S.gv c = .ref C) (hI : S.gv kI = .ref fI) (h : excChk S.K C fI = true) (init : GFn S kI f (m + 1) ds nest) (few : m ≤ 1000) : GExc S c kI f m ds nest := by
  obtain ⟨⟨N, mN, nm, q, bs, hdct, sn, sub, ab, col, dd, k0, k1, k2, k3, k5, e1, e2, e3⟩, ⟨oI, o1, o2⟩, e4⟩ := exc_at X h
  exact ⟨⟨C, fI, N, mN, oI, nm, q, bs, bmVE, hdct, sn, sub, ab, col, dd, k0, k1, k2, k3, k5, "ValueError", "ValueError.__new__", "ValueError.__init__", hc, hI, e1, e2, e3, o1, o2, PySem.F.excBase_ValueError, e4⟩, init, by rw [sizeLine_eq]; omega⟩
/-- a class whose making runs its own __init__ -/
theorem gcls_of {S : Sx} {c kI f m : Nat} {ds : List V} {nest : Bool} {C fI : Addr} (hc : S.gv c = .ref C) (hI : S.gv kI = .ref fI) (h1 : makesIn S.K C = true) (h2 : fRef S.K C "__init__" fI = true) (h3 : typeOk (typeIn S.K (.ref fI)) "function" = true) (h4 : keepIn S.K (.ref C) = true) (init : GFn S kI f (m + 1) ds nest) : GCls S c kI f m ds nest :=
  ⟨⟨C, fI, hc, hI, h1, fRef_of h2, typeOk_of h3, h4⟩, init⟩
/-- super().__init__ of the reader's error -/
def supChk (K : Frag) (C fI : Addr) (file : Str) : Bool := (match K.lookup fI with
  | some ⟨_, _, .func fd, _⟩ => (match fd.params.posonlyargs ++ fd.params.args with
      | ar :: _ => ar.arg == ("self" : Str)
      | [] => false) && (match fd.code with
      | .ref cda => (match K.lookup cda with
        | some ⟨_, _, .fields vs, _⟩ => (match (vs[2]? : Option Value) with
          | some (.str fl _) => file == fl
          | _ => false)
        | _ => false)
      | _ => false) && (match fd.closure.lookup ("__class__" : Str) with
      | some cc => (match K.lookup cc with
        | some ⟨_, _, .cell (some (.ref D)), _⟩ => D == C
        | _ => false)
      | none => false)
  | _ => false) && someT (mroIn K C (.ref C)) && (match alongIn K "__init__" bmVE with
    | some (some (.builtin b)) => b == "ValueError.__init__"
    | _ => false) && (match nsIn K cStatics "thirdparty.any" with
    | some none => true
    | _ => false)
theorem supF_of {S : Sx} (X : S.K.In S.base) {C fI : Addr} (h1 : supChk S.K C fI (S.prog.main.file : Str) = true) (h2 : excChk S.K C fI = true) (hE : ∀ c, S.isE c = true → S.gv c = .ref C) (hn : S.mg "super" = none ∧ S.mb "super" = some (.type "super"))
    (ht : (S.prog.main.scope.names.lookup ("super" : Str)).isSome = false) {fd : FuncData} {oc : Value} {od : Option Addr} {sl : Array (Option Value)} (hf : S.base.get? fI = some ⟨oc, od, .func fd, sl⟩) : SupF S fd := by
  obtain ⟨⟨N, mN, nm, q, bs, hdct, sn, sub, ab, col, dd, k0, k1, k2, k3, k5, e1, e2, e3⟩, _, _⟩ := exc_at X h2
  unfold supChk at h1
  simp only [Bool.and_eq_true] at h1
  obtain ⟨⟨⟨a1, a2⟩, a3⟩, a4⟩ := h1
  split at a1
  case h_2 => cases a1
  rename_i oc' od' fd' sl' hl
  have := X _ _ hl
  rw [hf] at this
  cases this
  simp only [Bool.and_eq_true] at a1
  obtain ⟨⟨b1, b2⟩, b3⟩ := a1
  refine ⟨?_, ?_, ?_, ?_, hn, ht⟩
  · split at b1
    · rename_i ar r he
      rw [he]
      exact ⟨ar, rfl, by simpa using b1⟩
    · cases b1
  · split at b2
    · rename_i cda hcd
      split at b2
      · rename_i c1 c2 vs c3 hlc
        split at b2
        · rename_i fl tf hv
          exact ⟨cda, _, vs, fl, tf, hcd, X _ _ hlc, rfl, hv, b2⟩
        · cases b2
      · cases b2
    · cases b2
  · split at b3
    · rename_i cc hcc
      split at b3
      · rename_i c1 c2 D c3 hlc
        rw [beq_iff_eq] at b3
        subst b3
        refine ⟨cc, _, D, N, nm, q, bs, bmVE, hdct, sn, sub, ab, col, dd, k0, k1, k2, k3, k5, "ValueError.__new__", "ValueError.__new__", hcc, X _ _ hlc, rfl, e1, PySem.F.excBase_ValueError, fun c C h1 h2 => ?_, someT_of a2, ?_⟩
        · have := hE c h2
          rw [h1] at this; injection this
        · split at a3
          · rename_i b he; rw [beq_iff_eq] at a3; rw [he, a3]
          · cases a3
      · cases b3
    · cases b3
  · split at a4
    · assumption
    · cases a4
end Mine
set_option maxRecDepth 10000
namespace Mine
open PySem PySem.Calls PyProof.Rows PySem.W

end Mine
set_option maxRecDepth 10000
namespace Mine
open PySem PySem.Calls PyProof.Rows PySem.W
/-- a law's call: it ends and gives True -/
theorem entry_of {S : Sx} (SVS : SV S) {kv k : Nat} {nest : Bool} {fa la : Addr} {cs : Array Value} {vs : List V} {s : Shared} (G : GFn S kv k 1 [] nest) (hgv : S.gv kv = .ref fa) (hst : S.base.StaysIn s.heap) (hg : s.gens = #[]) (htabs : ∀ q ∈ S.tabs, s.heap.get? q.2 = some (tabObj #[]))
    (hl : S.base.IsList la cs) (hv : VRs S [la] s.heap vs cs.toList)
    (q : callW S 60 k [] [.rr 0] [.ilist vs] (fun v _ => v = .bb true) (fun _ _ => False)) :
    codeAny (model S.prog S.w) callerA (.call (.ref fa) ⟨[.ref la], []⟩) (fun r s' => r = .ok (.ret (.bool true)) ∧ S.base.StaysIn s'.heap ∧ s'.os = s.os ∧ AllBare s'.gens ∧ ∀ q ∈ S.tabs, ∃ ps, s'.heap.get? q.2 = some (tabObj ps)) s := by
  have ac : AC S callerA (60 + 1) s.heap := ⟨⟨[], rfl, trivial⟩, by show 1 + claimMargin + 61 ≤ recursionLimit; decide +kernel, by show 4 + 9 * 61 + 400 < cLine; decide +kernel, fun _ => rfl⟩
  have hlh : s.heap.IsList la cs := by
    obtain ⟨o, e, c⟩ := hl
    exact ⟨o, hst _ _ e, c⟩
  have hlb : S.base.get? la ≠ none := by
    obtain ⟨o, e, _⟩ := hl
    rw [e]; simp
  have g : Good S [la] [.ilist vs] s := by
    refine ⟨⟨hst, .of_eq hg, fun q hq => ⟨#[], htabs q hq, ?_⟩⟩, ⟨rfl, by simp, fun i o a e1 e2 => ?_⟩⟩
    · refine ⟨?_, ?_⟩
      · first | trivial | exact List.Forall.nil | (unfold TriplesOk; simp)
      · intro pos c hc
        first | cases hc | (simp [codeAmong] at hc)
    · cases i with
      | zero => cases e1; cases e2; exact ⟨hlb, cs, hlh, hv⟩
      | succ i => cases e1
  obtain ⟨_, h⟩ := code_gg SVS G ac g (.one S (show VR S [la] s.heap (.rr 0) (.ref la) by rw [VR]; exact ⟨la, rfl, rfl⟩)) rfl q
  rw [hgv] at h
  refine codeAny_mono h fun r s' z => ?_
  rcases r with e | (v | _ | _ | _)
  · obtain ⟨_, _, _, _, _, _, _, _, _, _, f⟩ := z
    exact f.elim
  all_goals first | exact False.elim z | skip
  obtain ⟨μ', H', b, gr, g', rv, rfl⟩ := z
  rw [VR] at rv
  subst rv
  exact ⟨rfl, g'.inv.stay, gr.os, g'.inv.gens, fun q hq => let ⟨ps, e, _⟩ := g'.inv.tabs q hq; ⟨ps, e⟩⟩
/-- True, and the heap of before but for code's own notes -/
theorem good_true {s₁ s' : Shared} {cw : ClaimW} {cl : Str → Option Addr} {mean : ExcName → Option Value} {args : List WData} {tabs : List (Addr × Addr)} (hT : TabsAt tabs s₁.heap) (hr : ∀ a x, cw.raises a x = false) (hp : cw.post args (.bool true) args = true)
    (st : (ghostOf s₁.heap tabs).StaysIn s'.heap) (hos : s'.os = s₁.os) (hg : AllBare s'.gens) (hgr : ∀ q ∈ tabs, ∃ ps, s'.heap.get? q.2 = some (tabObj ps)) : GoodWG cw cl mean args s₁ (.ok (.ret (.bool true))) s' := by
  have low : ∀ b o, s₁.heap.get? b = some o → b ∉ tabs.map (·.2) → s'.heap.get? b = some o := fun b o e hb => st b o (ghost_ne e hb)
  have tab : ∀ b o, s₁.heap.get? b = some o → b ∈ tabs.map (·.2) → isCodeTable s₁.heap b ∧ o = tabObj #[] ∧ ∃ ps, s'.heap.get? b = some (tabObj ps) := by
    intro b o e hb
    obtain ⟨q, hq, rfl⟩ := List.mem_map.mp hb
    obtain ⟨c1, c2⟩ := hT q hq
    have e2 := c2
    rw [e] at e2
    cases e2
    exact ⟨(c1.tab c2).isCodeTable, rfl, hgr q hq⟩
  refine ⟨.inl ⟨.bool true, .bool true, [], rfl, hr args, .bool true, hp, fun _ => ⟨List.nodup_nil, fun _ h => nomatch h⟩⟩, ⟨fun b o e => ?_, fun b o e => ?_⟩, hos, hg⟩
  · by_cases hb : b ∈ tabs.map (·.2)
    · obtain ⟨t, rfl, ps, e2⟩ := tab b o e hb
      exact .inr (.inl ⟨t, rfl, #[], ps, rfl, by rw [Array.empty_append]; exact e2⟩)
    · exact .inl (low b o e hb)
  · by_cases hb : b ∈ tabs.map (·.2)
    · obtain ⟨_, _, ps, e2⟩ := tab b o e hb
      exact ⟨_, e2⟩
    · exact ⟨o, low b o e hb⟩
end Mine
set_option maxRecDepth 10000
namespace Mine
open PySem PySem.Calls PyProof.Rows PySem.W

/-! ## Errors -/
def before (doc : List Nat) (pos : Int) : List Nat := pyS doc none (some pos)
def lineN (doc : List Nat) (pos : Int) : Int := ((before doc pos).count 10 : Nat) + 1
def colN (doc : List Nat) (pos : Int) : Int := if lineN doc pos = 1 then pos + 1 else pos - (((rindexOf (before doc pos) 10).getD 0 : Nat) : Int)
/-- a message with the sign at the place in it, where it is named -/
def named (msg doc : List Nat) (pos : Int) : List Nat := joinS (reprS (pyS doc (some pos) (some (pos + 1)))) (split2 msg 37 114)
def errText (msg doc : List Nat) (pos : Int) : Option Int → List Nat
  | none => named msg doc pos ++ [58, 32, 108, 105, 110, 101, 32] ++ decI (lineN doc pos) ++ [32, 99, 111, 108, 117, 109, 110, 32] ++ decI (colN doc pos) ++ [32, 40, 99, 104, 97, 114, 32] ++ decI pos ++ [41]
  | some e => named msg doc pos ++ [58, 32, 108, 105, 110, 101, 32] ++ decI (lineN doc pos) ++ [32, 99, 111, 108, 117, 109, 110, 32] ++ decI (colN doc pos) ++ [32, 45, 32, 108, 105, 110, 101, 32] ++ decI (lineN doc e) ++ [32, 99, 111, 108, 117, 109, 110, 32] ++ decI (colN doc e) ++ [32, 40, 99, 104, 97, 114, 32] ++ decI pos ++ [32, 45, 32] ++ decI e ++ [41]
def optI : Option Int → V
  | none => .nn
  | some i => .ii i
def errAttrs (msg doc : List Nat) (pos : Int) (en : Option Int) : List (Nm × V) :=
  [(n_endcolno, optI (en.map (colN doc))), (n_endlineno, optI (en.map (lineN doc))), (n_colno, .ii (colN doc pos)), (n_lineno, .ii (lineN doc pos)), (n_end, optI en), (n_pos, .ii pos), (n_doc, .ss doc), (n_msg, .ss msg)]
def errO (msg doc : List Nat) (pos : Int) (en : Option Int) (k : Nat) (fr : Bool) : AH := [.exc 3 [.ss (errText msg doc pos en)] (some (k + 1)) fr, .ns (errAttrs msg doc pos en)]

theorem count_idx {s : List Nat} {c : Nat} (h : s.count c ≠ 0) : ∃ k, rindexOf s c = some k ∧ k < s.length := by
  have hm : c ∈ s := by
    by_cases hm : c ∈ s
    · exact hm
    · exact absurd (List.count_eq_zero_of_not_mem hm) h
  have hr : c ∈ s.reverse := List.mem_reverse.mpr hm
  have : ∀ (l : List Nat), c ∈ l → (l.takeWhile (· != c)).length < l.length := by
    intro l
    induction l with
    | nil => intro h; simp at h
    | cons a l ih =>
      intro h
      by_cases ha : a = c
      · subst ha; simp
      · rw [List.takeWhile_cons_of_pos (by simp [ha])]
        have := ih (by rcases List.mem_cons.mp h with h | h; exact absurd h.symm ha; exact h)
        simp only [List.length_cons]; omega
  have := this _ hr
  refine ⟨s.length - 1 - (s.reverse.takeWhile (· != c)).length, ?_, ?_⟩
  · unfold rindexOf idxOf?
    simp only
    rw [if_pos this]; rfl
  · rw [List.length_reverse] at this; omega
theorem before_le (doc : List Nat) (pos : Int) : (before doc pos).length ≤ doc.length := by
  unfold before pyS
  simp only [List.length_take, List.length_drop]; omega
theorem colN_le {doc : List Nat} {pos : Int} (hs : doc.length ≤ 1000000) (hp : pos.natAbs ≤ 1000000000) : (colN doc pos).natAbs < 10 ^ 10 := by
  unfold colN
  split
  · omega
  · rename_i h
    have : (before doc pos).count 10 ≠ 0 := by unfold lineN at h; omega
    obtain ⟨k, e, hk⟩ := count_idx this
    rw [e]
    have := before_le doc pos
    simp only [Option.getD_some]; omega
theorem lineN_le {doc : List Nat} {pos : Int} (hs : doc.length ≤ 1000000) : (lineN doc pos).natAbs < 10 ^ 10 := by
  unfold lineN
  have h1 := List.count_le_length (a := 10) (l := before doc pos)
  have := before_le doc pos
  omega


theorem joinS_le (sep : List Nat) : ∀ ps : List (List Nat), (joinS sep ps).length ≤ (ps.map List.length).sum + ps.length * sep.length
  | [] => by simp [joinS]
  | [x] => by simp [joinS]
  | x :: y :: r => by
    have ih := joinS_le sep (y :: r)
    rw [joinS]
    · simp only [List.length_append, List.map_cons, List.sum_cons, List.length_cons] at ih ⊢
      have e : (r.length + 1 + 1) * sep.length = (r.length + 1) * sep.length + sep.length := by rw [Nat.add_mul (r.length + 1) 1, Nat.one_mul]
      omega
    · simp
theorem split2_le (a b : Nat) : ∀ s : List Nat, ((split2 s a b).map List.length).sum ≤ s.length ∧ (split2 s a b).length ≤ s.length + 1
  | [] => by simp [split2]
  | [c] => by simp [split2]
  | c :: d :: r => by
    rw [split2]
    split
    · have ih := split2_le a b r
      simp only [List.map_cons, List.sum_cons, List.length_nil, List.length_cons]; omega
    · have ih := split2_le a b (d :: r)
      split
      · rename_i p ps h
        rw [h] at ih
        simp only [List.map_cons, List.sum_cons, List.length_cons] at ih ⊢; omega
      · simp
def CP (s : List Nat) : Prop := ∀ c ∈ s, c < 1114112
theorem reprS_le {s : List Nat} (h : CP s) : (reprS s).length ≤ 10 * s.length + 2 := by
  have := StrLaws.reprText_len ⟨s.toArray⟩ (fun c hc => Nat.lt_of_lt_of_le (h c (by simpa using hc)) (by decide))
  unfold reprS
  simpa [Str.length] using this
theorem fold_head (q : Nat) : ∀ (l : List Nat) (acc : Array Nat) (h : acc.size ≠ 0), (l.foldl (fun out c => out ++ (Builtin.Str.reprChar q c).toArray) acc)[0]? = acc[0]?
  | [], _, _ => rfl
  | c :: l, acc, h => by
    rw [List.foldl_cons, fold_head q l _ (by rw [Array.size_append]; omega)]
    rw [Array.getElem?_append_left (by omega)]
theorem reprS_ne {s : List Nat} : reprS s ≠ [37, 114] := by
  intro e
  have h2 : (reprText ⟨s.toArray⟩).cps[0]? = some 37 := by
    unfold reprS at e
    rw [← Array.getElem?_toList, e]; rfl
  unfold reprText at h2
  dsimp only at h2
  have hz : ∀ q : Nat, 1 ≤ ((s.toArray.foldl (fun out c => out ++ (Builtin.Str.reprChar q c).toArray) #[q])).size := by
    intro q
    rw [← Array.foldl_toList]
    exact StrLaws.foldl_repr_ge q _ #[q]
  rw [Array.getElem?_push_lt (hz _), ← Array.getElem?_eq_getElem (hz _)] at h2
  rw [← Array.foldl_toList, fold_head _ _ _ (by simp)] at h2
  unfold reprQuote at h2
  split at h2
  · exact absurd h2 (by decide)
  · exact absurd h2 (by decide)
theorem CP.pyS {s : List Nat} (h : CP s) (a b : Option Int) : CP (pyS s a b) := fun c hc => h c (List.mem_of_mem_drop (List.mem_of_mem_take hc))
theorem pyS_one (s : List Nat) (p : Int) : (pyS s (some p) (some (p + 1))).length ≤ 1000 → True := fun _ => trivial
theorem pyS1_le (s : List Nat) (p : Int) (h : p ≠ -1) : (pyS s (some p) (some (p + 1))).length ≤ 1 := by
  rw [pyS_length]
  unfold loC hiC clip
  dsimp only
  by_cases h0 : p < 0
  · rw [if_pos (by omega), if_pos h0]; omega
  · rw [if_neg (by omega), if_neg h0]; omega
theorem pyS1_le' (s : List Nat) (p : Int) : (pyS s (some p) (some (p + 1))).length ≤ 1 := by
  by_cases h : p = -1
  · subst h
    rw [pyS_length]
    unfold loC hiC clip
    simp
  · exact pyS1_le s p h
theorem named_le {msg doc : List Nat} {pos : Int} (hm : msg.length ≤ 1000) (h : CP doc) : (named msg doc pos).length ≤ 1000000 := by
  unfold named
  have h1 := joinS_le (reprS (pyS doc (some pos) (some (pos + 1)))) (split2 msg 37 114)
  have h2 := split2_le 37 114 msg
  have h3 := reprS_le (h.pyS (some pos) (some (pos + 1)))
  have h4 := pyS1_le' doc pos
  have h5 : (split2 msg 37 114).length * (reprS (pyS doc (some pos) (some (pos + 1)))).length ≤ 1001 * 12 := Nat.mul_le_mul (by omega) (by omega)
  omega

section
variable {S : Sx} {n : Nat} {H : AH} {Q : PV} {E : PE}
theorem linecol_ok (R : Rd S) {doc : List Nat} {pos : Int} (hs : doc.length ≤ 1000000) (q : Q (.tt [.ii (lineN doc pos), .ii (colN doc pos)]) H) : Calls S (n + 1) (.gg 0) [.ss doc, .ii pos] H Q E := by
  refine calls_gg R.sv R.g_linecol rfl (cw0 (R.fns 0 (by decide)) ?_)
  have hB := BIG_le hs
  have hb := before_le doc pos
  unfold b0
  rw [exs_cons_]
  simp_arith [hB]
  rw [exs_cons_]
  simp_arith
  refine ⟨.str (before doc pos) .count, rfl, by show _ ≤ 1000000; omega, ?_⟩
  show (_ : Prop)
  simp_arith
  rw [exs_cons_]
  simp_arith
  by_cases h : lineN doc pos = 1
  · have h' : ((((before doc pos).count 10 : Nat) : Int) + 1 == 1) = true := by rw [beq_iff_eq]; exact h
    simp_arith [h']
    rw [exs_cons_]
    simp_arith [exs_nil_]
    rw [exs_cons_]
    simp_arith
    unfold colN at q
    rw [if_pos h] at q
    exact ⟨by show 2 ≤ BIG; unfold BIG; decide, q⟩
  · have h' : ((((before doc pos).count 10 : Nat) : Int) + 1 == 1) = false := by rw [beq_eq_false_iff_ne]; exact h
    have h0 : (before doc pos).count 10 ≠ 0 := by unfold lineN at h; omega
    obtain ⟨k, e, hk⟩ := count_idx h0
    simp_arith [h']
    rw [exs_cons_]
    simp_arith
    refine ⟨.str (before doc pos) .rindex, rfl, by show _ ≤ 1000000; omega, k, e, ?_⟩
    simp_arith [exs_nil_]
    rw [exs_cons_]
    simp_arith
    unfold colN at q
    rw [if_neg h, e] at q
    exact ⟨by show 2 ≤ BIG; unfold BIG; decide, q⟩

theorem errmsg_ok (R : Rd S) {msg doc : List Nat} {pos : Int} {en : Option Int} (hs : doc.length ≤ 1000000) (hcp : CP doc) (hm : msg.length ≤ 1000) (hp : pos.natAbs ≤ 1000000000) (hen : ∀ e ∈ en, e.natAbs ≤ 1000000000)
    (q : Q (.ss (errText msg doc pos en)) H) : Calls S (n + 2) (.gg 1) [.ss msg, .ss doc, .ii pos, optI en] H Q E := by
  refine calls_gg R.sv R.g_errmsg rfl (cw1 (R.fns 1 (by decide)) ?_)
  have hB := BIG_le hs
  have h3 := reprS_le (hcp.pyS (some pos) (some (pos + 1)))
  have h4 := pyS1_le' doc pos
  have l1 := lineN_le (pos := pos) hs
  have c1 := colN_le hs hp
  have nl := named_le (pos := pos) hm hcp
  have gg0 := R.gs 0 (by decide)
  unfold b1
  rw [exs_cons_]
  simp_arith [glob_g gg0]
  refine ⟨by omega, linecol_ok R hs ?_⟩
  simp_arith
  refine ⟨by omega, _, _, rfl, ?_⟩
  rw [exs_cons_]
  simp_arith [ev_rpl, hB]
  refine ⟨hm, by omega, reprS_ne, by omega, ?_⟩
  cases en with
  | none =>
    rw [exs_cons_]
    simp_arith [optI, isGg, isNn]
    rw [exs_cons_]
    simp_arith
    refine ⟨by show 4 ≤ BIG; unfold BIG; decide, errText msg doc pos none, ?_, q⟩
    have : pctOf pct1 [.ss (named msg doc pos), .ii (lineN doc pos), .ii (colN doc pos), .ii pos] = some (errText msg doc pos none) := by
      unfold pctOf
      simp only
      rw [if_pos ⟨trivial, nl, l1, c1, by omega⟩]; rfl
    exact this
  | some e =>
    have he := hen e rfl
    have l2 := lineN_le (pos := e) hs
    have c2 := colN_le hs he
    rw [exs_cons_]
    simp_arith [optI, isGg, isNn, exs_nil_]
    rw [exs_cons_]
    simp_arith [glob_g gg0]
    refine ⟨by omega, linecol_ok R hs ?_⟩
    simp_arith
    refine ⟨by omega, _, _, rfl, ?_⟩
    rw [exs_cons_]
    simp_arith
    refine ⟨by show 7 ≤ BIG; unfold BIG; decide, errText msg doc pos (some e), ?_, q⟩
    have : pctOf pct2 [.ss (named msg doc pos), .ii (lineN doc pos), .ii (colN doc pos), .ii (lineN doc e), .ii (colN doc e), .ii pos, .ii e] = some (errText msg doc pos (some e)) := by
      unfold pctOf
      simp only
      rw [if_pos ⟨trivial, nl, l1, c1, l2, c2, by omega, by omega⟩]; rfl
    exact this
end
end Mine
set_option maxRecDepth 10000
namespace Mine
open PySem PySem.Calls PyProof.Rows PySem.W

section
variable {S : Sx} {n : Nat} {H : AH} {Q : PV} {E : PE} {ρ : Lo} {κ : List Nat} {q : QS} {e : ES}
theorem ex_sup {i : Nat} {x : X} : ex S κ (.sup i x) n ρ H q e = ∃ j c args d fr, ρ[i]? = some (some (.rr j)) ∧ H[j]? = some (.exc c args d fr) ∧ S.isE c = true ∧ ev S n ρ κ (e ρ) x false H fun v H => ∃ x args d fr, v = .ss x ∧ H[j]? = some (.exc c args d fr) ∧ q .nrm ρ (H.set j (.exc c [v] d fr)) := by rw [ex]
theorem ex_seta2 {o o' : X} {a a' : Nm} {x : X} : ex S κ (.seta2 o a o' a' x) n ρ H q e = ev S n ρ κ (e ρ) x false H fun v H => n ≠ 0 ∧ ∃ x y, unp H v = some [x, y] ∧ ev S n ρ κ (e ρ) o false H fun ov H => setaQ S ov a x H fun H => ev S n ρ κ (e ρ) o' false H fun ov' H => setaQ S ov' a' y H fun H => q .nrm ρ H := by rw [ex]
theorem at0 {H : AH} {o : O} {l : AH} : (H ++ o :: l)[H.length]? = some o := by rw [List.getElem?_append_right (Nat.le_refl _), Nat.sub_self]; rfl
theorem at1 {H : AH} {o o' : O} {l : AH} : (H ++ o :: o' :: l)[H.length + 1]? = some o' := by rw [List.getElem?_append_right (by omega), show H.length + 1 - H.length = 1 by omega]; rfl
theorem set0 {H : AH} {o o' : O} {l : AH} : (H ++ o :: l).set H.length o' = H ++ o' :: l := by rw [List.set_append_right _ _ (Nat.le_refl _), Nat.sub_self]; rfl
theorem set1 {H : AH} {o p o' : O} {l : AH} : (H ++ o :: p :: l).set (H.length + 1) o' = H ++ o :: o' :: l := by rw [List.set_append_right _ _ (by omega), show H.length + 1 - H.length = 1 by omega]; rfl
theorem seta_exc0 {a : Nm} {v : V} {args : List V} {fr : Bool} {K : AH → Prop} (R : Rd S) (ha : a ∈ excAttrs) (h : K (H ++ [.exc 3 args (some (H.length + 1)) fr, .ns [(a, v)]])) : setaQ S (.rr H.length) a v (H ++ [.exc 3 args none fr]) K := by
  unfold setaQ
  dsimp only
  rw [at0]
  refine ⟨R.ao3 a ha, (R.isE 3).mpr rfl, ?_⟩
  rw [set0, List.length_append, List.append_assoc]
  exact h
theorem seta_exc1 {a : Nm} {v : V} {args : List V} {fr : Bool} {es : List (Nm × V)} {K : AH → Prop} (R : Rd S) (ha : a ∈ excAttrs) (hz : es.length < 500) (h : K (H ++ [.exc 3 args (some (H.length + 1)) fr, .ns ((a, v) :: es)])) : setaQ S (.rr H.length) a v (H ++ [.exc 3 args (some (H.length + 1)) fr, .ns es]) K := by
  unfold setaQ
  dsimp only
  rw [at0]
  refine ⟨R.ao3 a ha, (R.isE 3).mpr rfl, es, at1, hz, ?_⟩
  rw [set1]
  exact h

theorem jde_body (R : Rd S) {msg doc : List Nat} {pos : Int} {en : Option Int} {vs : List V} (hs : doc.length ≤ 1000000) (hcp : CP doc) (hm : msg.length ≤ 1000) (hp : pos.natAbs ≤ 1000000000) (hen : ∀ e ∈ en, e.natAbs ≤ 1000000000)
    (q : Q .nn (H ++ errO msg doc pos en H.length true)) : callW S (n + 2) 2 [] [.rr H.length, .ss msg, .ss doc, .ii pos, optI en] (H ++ [.exc 3 vs none true]) Q E := by
  refine cw2 (R.fns 2 (by decide)) ?_
  have gg0 := R.gs 0 (by decide)
  have gg1 := R.gs 1 (by decide)
  unfold b2
  rw [exs_cons_, ex_sup]
  refine ⟨H.length, 3, vs, none, true, rfl, at0, (R.isE 3).mpr rfl, ?_⟩
  simp_arith [glob_g gg1]
  refine ⟨by omega, errmsg_ok R hs hcp hm hp hen ?_⟩
  refine ⟨_, vs, none, true, rfl, at0, ?_⟩
  simp_arith [set0]
  rw [exs_cons_]; simp_arith
  refine seta_exc0 R (by decide) ?_
  try simp_arith
  rw [exs_cons_]; simp_arith
  refine seta_exc1 R (by decide) (by simp) ?_
  try simp_arith
  rw [exs_cons_]; simp_arith
  refine seta_exc1 R (by decide) (by simp) ?_
  try simp_arith
  rw [exs_cons_]; simp_arith
  refine seta_exc1 R (by decide) (by simp) ?_
  try simp_arith
  rw [exs_cons_]; simp_arith [ex_seta2, glob_g gg0]
  refine ⟨by omega, linecol_ok R hs ?_⟩
  simp_arith
  refine ⟨by omega, _, _, rfl, ?_⟩
  try simp_arith
  refine seta_exc1 R (by decide) (by simp) ?_
  try simp_arith
  refine seta_exc1 R (by decide) (by simp) ?_
  try simp_arith
  rw [exs_cons_]
  try simp_arith
  cases en with
  | none =>
    simp_arith [optI, isGg, isNn]
    rw [exs_cons_]; simp_arith [ex_seta2]
    refine ⟨by show 2 ≤ BIG; unfold BIG; decide, by omega, _, _, rfl, ?_⟩
    try simp_arith
    refine seta_exc1 R (by decide) (by simp) ?_
    try simp_arith
    refine seta_exc1 R (by decide) (by simp) ?_
    try simp_arith [exs_nil_]
    exact q
  | some e =>
    simp_arith [optI, isGg, isNn, Bool.not_false, Bool.not_true]
    rw [exs_cons_]; simp_arith [ex_seta2, glob_g gg0]
    refine ⟨by omega, linecol_ok R hs ?_⟩
    simp_arith
    refine ⟨by omega, _, _, rfl, ?_⟩
    try simp_arith
    refine seta_exc1 R (by decide) (by simp) ?_
    try simp_arith
    refine seta_exc1 R (by decide) (by simp) ?_
    try simp_arith [exs_nil_]
    exact q
theorem jde3_ok (R : Rd S) {msg doc : List Nat} {pos : Int} (hs : doc.length ≤ 1000000) (hcp : CP doc) (hm : msg.length ≤ 1000) (hp : pos.natAbs ≤ 1000000000)
    (q : Q (.rr H.length) (H ++ errO msg doc pos none H.length true)) : Calls S (n + 4) (.gg 3) [.ss msg, .ss doc, .ii pos] H Q E :=
  calls_exc R.sv R.g_exc3 rfl (jde_body R (en := none) hs hcp hm hp (by simp) ⟨rfl, q⟩)
theorem jde4_ok (R : Rd S) {msg doc : List Nat} {pos en : Int} (hs : doc.length ≤ 1000000) (hcp : CP doc) (hm : msg.length ≤ 1000) (hp : pos.natAbs ≤ 1000000000) (hen : en.natAbs ≤ 1000000000)
    (q : Q (.rr H.length) (H ++ errO msg doc pos (some en) H.length true)) : Calls S (n + 4) (.gg 3) [.ss msg, .ss doc, .ii pos, .ii en] H Q E :=
  calls_exc R.sv R.g_exc4 rfl (jde_body R (en := some en) hs hcp hm hp (fun e h => by cases h; exact hen) ⟨rfl, q⟩)
/-- a raise of the reader's error -/
theorem raise3 (R : Rd S) {msg doc : List Nat} {pos : Int} {e : PE} (hs : doc.length ≤ 1000000) (hcp : CP doc) (hm : msg.length ≤ 1000) (hp : pos.natAbs ≤ 1000000000)
    (q : e H.length (H ++ errO msg doc pos none H.length false)) : Calls S (n + 4) (.gg 3) [.ss msg, .ss doc, .ii pos] H (fun v H => ∃ i c args d, v = .rr i ∧ H[i]? = some (.exc c args d true) ∧ S.isE c = true ∧ e i (H.set i (.exc c args d false))) E := by
  refine jde3_ok R hs hcp hm hp ⟨H.length, 3, _, _, rfl, at0, (R.isE 3).mpr rfl, ?_⟩
  unfold errO
  rw [set0]
  exact q
theorem raise4 (R : Rd S) {msg doc : List Nat} {pos en : Int} {e : PE} (hs : doc.length ≤ 1000000) (hcp : CP doc) (hm : msg.length ≤ 1000) (hp : pos.natAbs ≤ 1000000000) (hen : en.natAbs ≤ 1000000000)
    (q : e H.length (H ++ errO msg doc pos (some en) H.length false)) : Calls S (n + 4) (.gg 3) [.ss msg, .ss doc, .ii pos, .ii en] H (fun v H => ∃ i c args d, v = .rr i ∧ H[i]? = some (.exc c args d true) ∧ S.isE c = true ∧ e i (H.set i (.exc c args d false))) E := by
  refine jde4_ok R hs hcp hm hp hen ⟨H.length, 3, _, _, rfl, at0, (R.isE 3).mpr rfl, ?_⟩
  unfold errO
  rw [set0]
  exact q

/-! ## Gaps -/
theorem ws_ok (R : Rd S) {s : List Nat} {e : Nat} (hs : s.length ≤ 1000000) (q : Q (.ii ((min e s.length + ((s.drop e).takeWhile isWs).length : Nat) : Int)) H) : Calls S (n + 1) (.gg 11) [.ss s, .ii e] H Q E := by
  refine calls_gg R.sv R.g_ws rfl (cw8 (R.fns 8 (by decide)) ?_)
  have hB := BIG_le hs
  have gg6 := R.gs 6 (by decide)
  unfold b8
  suffices h : ∀ e0 : Nat, e0 + ((s.drop e0).takeWhile isWs).length = min e s.length + ((s.drop e).takeWhile isWs).length → exs S [] (.cons (.whl (.and (.cons (.cmp .NotEq (.sl (.loc 0) (.some (.loc 1)) (.some (.bin .Add (.loc 1) (.ii 1)))) (.ss [])) (.cons (.cmp .In (.sl (.loc 0) (.some (.loc 1)) (.some (.bin .Add (.loc 1) (.ii 1)))) (.glob 6)) .nil)))
  (.cons (.aug 1 .Add (.ii 1))
  .nil))
  (.cons (.ret (.loc 1))
  .nil)) n [some (.ss s), some (.ii e0)] H (endK Q) (fun _ i H => E i H) by
    rw [exs_cons_]
    simp_arith [hB]
    by_cases hl : (s.length : Int) < (e : Int)
    · simp_arith [decide_eq_true hl]
      rw [exs_cons_]
      simp_arith [exs_nil_, hB]
      refine h s.length ?_
      rw [Nat.min_eq_right (by omega), List.drop_of_length_le (Nat.le_refl _), List.drop_of_length_le (by omega)]
    · simp_arith [decide_eq_false hl, exs_nil_]
      exact h e (by rw [Nat.min_eq_left (by omega)])
  intro e0 he0
  rw [exs_cons_, ex_whl]
  refine ⟨fun m ρ' H' => ∃ e' : Nat, ρ' = [some (.ss s), some (.ii e')] ∧ H' = H ∧ m = s.length - e' ∧ e' + ((s.drop e').takeWhile isWs).length = min e s.length + ((s.drop e).takeWhile isWs).length, ⟨_, e0, rfl, rfl, rfl, he0⟩, ?_⟩
  rintro m ρ' H' ⟨e', rfl, rfl, rfl, he⟩
  simp_arith [hB, pyS1, glob_s gg6]
  cases hc : s[e']? with
  | none =>
    have h0 : (s.drop e').takeWhile isWs = [] := by
      rw [List.drop_of_length_le (List.getElem?_eq_none_iff.mp hc)]; rfl
    rw [h0] at he
    simp_arith [ot_none, ne_nn]
    rw [exs_cons_]
    simp_arith
    rw [← he] at q
    exact q
  | some c =>
    simp_arith [ot_some, ne_cn, strIn_one, isWs_in]
    cases hd : isWs c
    · have h0 : (s.drop e').takeWhile isWs = [] := by
        rw [drop_cons hc, List.takeWhile_cons_of_neg (by simp [hd])]
      rw [h0] at he
      simp_arith
      rw [exs_cons_]
      simp_arith
      rw [← he] at q
      exact q
    · have h0 : (s.drop e').takeWhile isWs = c :: (s.drop (e' + 1)).takeWhile isWs := by
        rw [drop_cons hc, List.takeWhile_cons_of_pos hd]
      rw [h0] at he
      have hl := (List.getElem?_eq_some_iff.mp hc).1
      simp_arith
      rw [exs_cons_]
      simp_arith [exs_nil_]
      refine ⟨s.length - (e' + 1), by omega, e' + 1, by simp, rfl, ?_⟩
      rw [← he, List.length_cons]; omega
end
end Mine
set_option maxRecDepth 10000
namespace Mine
open PySem PySem.Calls PyProof.Rows PySem.W

def SL.tl : SL → SL
  | .cons _ r => r
  | .nil => .nil
theorem nat1 {e : Nat} : (e : Int) + 1 = ((e + 1 : Nat) : Int) := rfl
theorem nat2 {e : Nat} : (e : Int) + 2 = ((e + 2 : Nat) : Int) := rfl
theorem nat3 {e : Nat} : (e : Int) + 3 = ((e + 3 : Nat) : Int) := rfl
theorem nat4 {e : Nat} : (e : Int) + 4 = ((e + 4 : Nat) : Int) := rfl
theorem nat5 {e : Nat} : (e : Int) + 5 = ((e + 5 : Nat) : Int) := rfl
theorem take1 {s : List Nat} {e : Nat} : (s.drop e).take 1 = (s[e]?).toList := by rw [List.take_one]; simp
theorem tl_eq {o : Option Nat} {c : Nat} : (o.toList == [c]) = (o == some c) := by cases o <;> simp [eq_nc]
theorem tl_ne {o : Option Nat} {c : Nat} : (o.toList != [c]) = (o != some c) := by unfold bne; rw [tl_eq]
theorem tl_en {o : Option Nat} : (o.toList == []) = (o == none) := by cases o <;> rfl
theorem sub1 {e : Nat} : e + 1 - e = 1 := by omega
theorem sub4 {e : Nat} : e + 4 - e = 4 := by omega
theorem sub5 {e : Nat} : e + 5 - e = 5 := by omega
theorem sub2 {e : Nat} : e + 2 - e = 2 := by omega
theorem sub3 {e : Nat} : e + 3 - e = 3 := by omega
theorem natE {a b : Nat} : ((a : Int) == (b : Int)) = (a == b) := by rw [Bool.eq_iff_iff]; simp; omega
theorem natG {a b : Nat} : (decide ((a : Int) < (b : Int))) = decide (a < b) := by rw [Bool.eq_iff_iff]; simp

/-! ## Numbers -/
def digN (r : List Nat) : Nat := (r.takeWhile isDig).length
def sgn (r : List Nat) : Nat := if r[0]? = some 45 then 1 else 0
def numI (r : List Nat) : Nat := if digN (r.drop (sgn r)) = 0 then 0 else if r[sgn r]? = some 48 then sgn r + 1 else sgn r + digN (r.drop (sgn r))
def numF (r : List Nat) : Nat := if r[0]? = some 46 then (if digN (r.drop 1) = 0 then 0 else 1 + digN (r.drop 1)) else 0
def sgE (r : List Nat) : Nat := if r[1]? = some 45 ∨ r[1]? = some 43 then 2 else 1
def numE (r : List Nat) : Nat := if r[0]? = some 101 ∨ r[0]? = some 69 then (if digN (r.drop (sgE r)) = 0 then 0 else sgE r + digN (r.drop (sgE r))) else 0
def numX (r : List Nat) : Option (List Nat × List Nat × List Nat × Nat) := if numI r = 0 then none else
  some (r.take (numI r), (r.drop (numI r)).take (numF (r.drop (numI r))), (r.drop (numI r + numF (r.drop (numI r)))).take (numE (r.drop (numI r + numF (r.drop (numI r))))),
    numI r + numF (r.drop (numI r)) + numE (r.drop (numI r + numF (r.drop (numI r)))))
theorem digN_get {r : List Nat} (h : digN r ≠ 0) : ∃ c, r[0]? = some c := by
  cases r with
  | nil => exact absurd rfl h
  | cons c r => exact ⟨c, rfl⟩
theorem drop0 {s : List Nat} {e k : Nat} : (s.drop e)[k]? = s[e + k]? := by rw [List.getElem?_drop]

section
variable {S : Sx} {n : Nat} {H : AH} {Q : PV} {E : PE}
theorem number_ok (R : Rd S) {s : List Nat} {e : Nat} (hs : s.length ≤ 1000000) (he : e ≤ 1000001) (q1 : numX (s.drop e) = none → Q .nn H)
    (q2 : ∀ a b c k, numX (s.drop e) = some (a, b, c, k) → Q (.tt [.ss a, .ss b, .ss c, .ii ((e + k : Nat) : Int)]) H) : Calls S (n + 2) (.gg 4) [.ss s, .ii e] H Q E := by
  refine calls_gg R.sv R.g_number rfl (cw4 (R.fns 4 (by decide)) ?_)
  have hB := BIG_le hs
  have gg2 := R.gs 2 (by decide)
  -- the exponent
  have kE : ∀ (i f : Nat) (w3 w6 w8 : Option V), numI (s.drop e) = i → i ≠ 0 → numF ((s.drop e).drop i) = f → 
      exs S [] b4.tl.tl.tl.tl.tl.tl.tl.tl.tl.tl (n + 1) [some (.ss s), some (.ii e), some (.ii ((e + i + f : Nat) : Int)), w3, some (.ss ((s.drop e).take i)), some (.ss (((s.drop e).drop i).take f)), w6, some (.ss []), w8] H (endK Q) (fun _ i H => E i H) := by
    intro i f w3 w6 w8 hi hi0 hf
    have hx : numX (s.drop e) = some ((s.drop e).take i, ((s.drop e).drop i).take f, ((s.drop e).drop (i + f)).take (numE ((s.drop e).drop (i + f))), i + f + numE ((s.drop e).drop (i + f))) := by
      unfold numX
      subst hi hf
      rw [if_neg hi0]
    have q := q2 _ _ _ _ hx
    have hd : (s.drop e).drop (i + f) = s.drop (e + i + f) := by rw [List.drop_drop]; congr 1; omega
    rw [hd] at q
    have fin4 : 4 ≤ BIG := by unfold BIG; decide
    unfold b4
    simp only [SL.tl]
    rw [exs_cons_]
    simp_arith [hB, nat1, pyS_nat, sub1, take1, tl_eq]
    by_cases h1 : s[e + i + f]? = some 101 ∨ s[e + i + f]? = some 69
    · have hE : numE (s.drop (e + i + f)) = if digN ((s.drop (e + i + f)).drop (sgE (s.drop (e + i + f)))) = 0 then 0 else sgE (s.drop (e + i + f)) + digN ((s.drop (e + i + f)).drop (sgE (s.drop (e + i + f)))) := by
        unfold numE
        rw [if_pos (by rw [drop0]; exact h1)]
      rw [hE] at q
      have kk : ∀ w : Option V, exs S [] (.cons (.asg (.loc 6) (.bin .Add (.loc 2) (.ii 1)))
  (.cons (.ifs (.or (.cons (.cmp .Eq (.sl (.loc 0) (.some (.loc 6)) (.some (.bin .Add (.loc 6) (.ii 1)))) (.ss [45])) (.cons (.cmp .Eq (.sl (.loc 0) (.some (.loc 6)) (.some (.bin .Add (.loc 6) (.ii 1)))) (.ss [43])) .nil)))
  (.cons (.aug 6 .Add (.ii 1))
  .nil)
  .nil)
  (.cons (.asg (.loc 8) (.call (.glob 2) (.cons (.loc 0) (.cons (.loc 6) .nil))))
  (.cons (.ifs (.cmp .Gt (.loc 8) (.loc 6))
  (.cons (.asg (.loc 7) (.sl (.loc 0) (.some (.loc 2)) (.some (.loc 8))))
  (.cons (.asg (.loc 2) (.loc 8))
  .nil))
  .nil)
  .nil)))) (n + 1) [some (V.ss s), some (V.ii e), some (V.ii ((e + i + f : Nat) : Int)), w3, some (V.ss ((s.drop e).take i)), some (V.ss (((s.drop e).drop i).take f)), w, some (V.ss []), w8] H (seqK (fun ρ H => exs S [] (.cons (.ret (.tup (.cons (.loc 4) (.cons (.loc 5) (.cons (.loc 7) (.cons (.loc 2) .nil)))))) .nil) (n + 1) ρ H (endK Q) (fun _ i H => E i H)) (endK Q)) (fun _ i H => E i H) := by
        intro w
        rw [exs_cons_]
        simp_arith [nat1]
        have k2 : ∀ g : Nat, g = sgE (s.drop (e + i + f)) → exs S [] (.cons (.asg (.loc 8) (.call (.glob 2) (.cons (.loc 0) (.cons (.loc 6) .nil))))
  (.cons (.ifs (.cmp .Gt (.loc 8) (.loc 6))
  (.cons (.asg (.loc 7) (.sl (.loc 0) (.some (.loc 2)) (.some (.loc 8))))
  (.cons (.asg (.loc 2) (.loc 8))
  .nil))
  .nil)
  .nil)) (n + 1) [some (V.ss s), some (V.ii e), some (V.ii ((e + i + f : Nat) : Int)), w3, some (V.ss ((s.drop e).take i)), some (V.ss (((s.drop e).drop i).take f)), some (.ii ((e + i + f + g : Nat) : Int)), some (V.ss []), w8] H (seqK (fun ρ H => exs S [] (.cons (.ret (.tup (.cons (.loc 4) (.cons (.loc 5) (.cons (.loc 7) (.cons (.loc 2) .nil)))))) .nil) (n + 1) ρ H (endK Q) (fun _ i H => E i H)) (endK Q)) (fun _ i H => E i H) := by
          intro g hg
          rw [← hg] at q
          rw [exs_cons_]
          simp_arith [glob_g gg2]
          refine ⟨by omega, digits_end_ok R hs ?_⟩
          simp_arith
          rw [exs_cons_]
          simp_arith [natG]
          rw [show (s.drop (e + i + f)).drop g = s.drop (e + i + f + g) by rw [List.drop_drop]] at q
          by_cases h0 : digN (s.drop (e + i + f + g)) = 0
          · rw [if_pos h0, List.take_zero, Nat.add_zero, ← Nat.add_assoc] at q
            rw [decide_eq_false (by unfold digN at h0; omega)]
            simp_arith [exs_nil_]
            rw [exs_cons_]
            simp_arith
            exact ⟨fin4, q⟩
          · rw [if_neg h0] at q
            rw [decide_eq_true (by unfold digN at h0; omega)]
            simp_arith
            rw [exs_cons_]
            simp_arith [hB, pyS_nat]
            rw [exs_cons_]
            simp_arith [exs_nil_]
            rw [exs_cons_]
            simp_arith
            refine ⟨fin4, ?_⟩
            unfold digN at q
            rw [show e + (i + f + (g + ((s.drop (e + i + f + g)).takeWhile isDig).length)) = e + i + f + g + ((s.drop (e + i + f + g)).takeWhile isDig).length by omega] at q
            rw [show e + i + f + g + ((s.drop (e + i + f + g)).takeWhile isDig).length - (e + i + f) = g + ((s.drop (e + i + f + g)).takeWhile isDig).length by omega]
            exact q
        rw [exs_cons_]
        simp_arith [hB, nat1, pyS_nat, sub1, take1, tl_eq]
        by_cases h2 : s[e + i + f + 1]? = some 45
        · rw [h2]
          simp_arith [beq_self_eq_true]
          rw [exs_cons_]
          simp_arith [exs_nil_, nat1]
          exact k2 2 (by unfold sgE; rw [if_pos (by rw [drop0]; exact .inl h2)])
        · rw [show (s[e + i + f + 1]? == some 45) = false from beq_eq_false_iff_ne.mpr h2]
          simp_arith
          by_cases h3 : s[e + i + f + 1]? = some 43
          · rw [h3]
            simp_arith [beq_self_eq_true]
            rw [exs_cons_]
            simp_arith [exs_nil_, nat1]
            exact k2 2 (by unfold sgE; rw [if_pos (by rw [drop0]; exact .inr h3)])
          · rw [show (s[e + i + f + 1]? == some 43) = false from beq_eq_false_iff_ne.mpr h3]
            simp_arith [exs_nil_]
            exact k2 1 (by unfold sgE; rw [if_neg (by rw [drop0]; rintro (h | h) <;> contradiction)])
      rcases h1 with h1 | h1
      · rw [h1]
        simp_arith [beq_self_eq_true]
        exact kk _
      · rw [h1]
        simp_arith [show ((some 69 : Option Nat) == some 101) = false from rfl, beq_self_eq_true]
        exact kk _
    · have hE : numE (s.drop (e + i + f)) = 0 := by
        unfold numE
        rw [if_neg (by rw [drop0]; exact h1)]
      rw [hE, List.take_zero, Nat.add_zero, ← Nat.add_assoc] at q
      rw [show (s[e + i + f]? == some 101) = false from beq_eq_false_iff_ne.mpr fun h => h1 (.inl h)]
      simp_arith
      rw [show (s[e + i + f]? == some 69) = false from beq_eq_false_iff_ne.mpr fun h => h1 (.inr h)]
      simp_arith [exs_nil_]
      rw [exs_cons_]
      simp_arith
      exact ⟨fin4, q⟩
  -- the fraction
  have kF : ∀ (i : Nat) (w3 w4 w5 w6 w7 w8 : Option V), numI (s.drop e) = i → i ≠ 0 →
      exs S [] b4.tl.tl.tl.tl.tl.tl (n + 1) [some (.ss s), some (.ii e), some (.ii ((e + i : Nat) : Int)), w3, w4, w5, w6, w7, w8] H (endK Q) (fun _ i H => E i H) := by
    intro i w3 w4 w5 w6 w7 w8 hi hi0
    unfold b4
    simp only [SL.tl]
    rw [exs_cons_]
    simp_arith [hB, pyS_nat]
    rw [show e + i - e = i by omega]
    rw [exs_cons_]
    simp_arith
    rw [exs_cons_]
    simp_arith [hB, nat1, pyS_nat, sub1, take1, tl_eq]
    have hd : (s.drop e).drop i = s.drop (e + i) := by rw [List.drop_drop]
    by_cases h1 : s[e + i]? = some 46
    · rw [h1]
      simp_arith [beq_self_eq_true]
      rw [exs_cons_]
      simp_arith [glob_g gg2, nat1]
      refine ⟨by omega, digits_end_ok R hs ?_⟩
      simp_arith
      rw [exs_cons_]
      simp_arith [natG, nat1]
      by_cases h0 : digN (s.drop (e + i + 1)) = 0
      · rw [decide_eq_false (by unfold digN at h0; omega)]
        simp_arith [exs_nil_]
        rw [exs_cons_]
        simp_arith
        have := kE i 0 w3 (some (.ii ((e + i + 1 + ((s.drop (e + i + 1)).takeWhile isDig).length : Nat) : Int))) w8 hi hi0 (by rw [hd]; unfold numF; rw [drop0, if_pos (by exact h1), List.drop_drop, if_pos h0])
        exact this
      · rw [decide_eq_true (by unfold digN at h0; omega)]
        simp_arith
        rw [exs_cons_]
        simp_arith [hB, pyS_nat]
        rw [exs_cons_]
        simp_arith [exs_nil_]
        rw [exs_cons_]
        simp_arith
        have := kE i (1 + digN (s.drop (e + i + 1))) w3 (some (.ii ((e + i + 1 + ((s.drop (e + i + 1)).takeWhile isDig).length : Nat) : Int))) w8 hi hi0 (by rw [hd]; unfold numF; rw [drop0, if_pos (by exact h1), List.drop_drop, if_neg h0])
        rw [hd] at this
        unfold digN at this
        rw [show e + i + 1 + ((s.drop (e + i + 1)).takeWhile isDig).length - (e + i) = 1 + ((s.drop (e + i + 1)).takeWhile isDig).length by omega]
        rw [show e + i + (1 + ((s.drop (e + i + 1)).takeWhile isDig).length) = e + i + 1 + ((s.drop (e + i + 1)).takeWhile isDig).length by omega] at this
        exact this
    · rw [show (s[e + i]? == some 46) = false from beq_eq_false_iff_ne.mpr h1]
      simp_arith [exs_nil_]
      rw [exs_cons_]
      simp_arith
      have := kE i 0 w3 w6 w8 hi hi0 (by rw [hd]; unfold numF; rw [drop0, if_neg (by exact h1)])
      exact this
  -- the whole part
  have kI : ∀ (g : Nat) (w3 w4 w5 w6 w7 w8 : Option V), sgn (s.drop e) = g →
      exs S [] b4.tl.tl (n + 1) [some (.ss s), some (.ii e), some (.ii ((e + g : Nat) : Int)), w3, w4, w5, w6, w7, w8] H (endK Q) (fun _ i H => E i H) := by
    intro g w3 w4 w5 w6 w7 w8 hg
    have hg1 : g ≤ 1 := by rw [← hg]; unfold sgn; split <;> omega
    unfold b4
    simp only [SL.tl]
    rw [exs_cons_]
    simp_arith
    rw [exs_cons_]
    simp_arith [glob_g gg2]
    refine ⟨by omega, digits_end_ok R hs ?_⟩
    simp_arith
    rw [exs_cons_]
    simp_arith [natE]
    have hd : (s.drop e).drop g = s.drop (e + g) := by rw [List.drop_drop]
    have hI : numI (s.drop e) = if digN (s.drop (e + g)) = 0 then 0 else if s[e + g]? = some 48 then g + 1 else g + digN (s.drop (e + g)) := by
      unfold numI
      rw [hg, hd, drop0]
    by_cases h0 : digN (s.drop (e + g)) = 0
    · rw [if_pos h0] at hI
      rw [show (e + g + ((s.drop (e + g)).takeWhile isDig).length == e + g) = true from by rw [beq_iff_eq]; unfold digN at h0; omega]
      simp_arith
      rw [exs_cons_]
      simp_arith
      exact q1 (by unfold numX; rw [if_pos hI])
    · rw [if_neg h0] at hI
      rw [show (e + g + ((s.drop (e + g)).takeWhile isDig).length == e + g) = false from by rw [beq_eq_false_iff_ne]; unfold digN at h0; omega]
      simp_arith [exs_nil_]
      rw [exs_cons_]
      obtain ⟨c, hc⟩ := digN_get h0
      rw [drop0] at hc
      have hl := lt_of_get hc
      rw [Nat.add_zero] at hc
      simp_arith
      refine ⟨fit_nat (by omega), c, by rw [pyI_nat]; exact hc, ?_⟩
      simp_arith [eq_11]
      by_cases h8 : c = 48
      · subst h8
        rw [if_pos hc] at hI
        simp_arith [beq_self_eq_true]
        rw [exs_cons_]
        simp_arith [exs_nil_, nat1]
        exact kF (g + 1) _ _ _ _ _ _ hI (by omega)
      · rw [if_neg (by rw [hc]; intro z; cases z; exact h8 rfl)] at hI
        simp_arith [show (c == 48) = false from beq_eq_false_iff_ne.mpr h8, exs_nil_]
        have := kF (g + digN (s.drop (e + g))) (some (.ii ((e + g : Nat) : Int))) w4 w5 w6 w7 w8 hI (by omega)
        unfold digN at this
        rw [← Nat.add_assoc] at this
        exact this
  unfold b4
  rw [exs_cons_]
  simp_arith
  rw [exs_cons_]
  simp_arith [hB, nat1, pyS_nat, sub1, take1, tl_eq]
  by_cases h1 : s[e]? = some 45
  · rw [h1]
    simp_arith [beq_self_eq_true]
    rw [exs_cons_]
    simp_arith [exs_nil_, nat1]
    exact kI 1 _ _ _ _ _ _ (by unfold sgn; rw [drop0, if_pos (by exact h1)])
  · rw [show (s[e]? == some 45) = false from beq_eq_false_iff_ne.mpr h1]
    simp_arith [exs_nil_]
    exact kI 0 _ _ _ _ _ _ (by unfold sgn; rw [drop0, if_neg (by exact h1)])
end
end Mine
set_option maxRecDepth 10000
namespace Mine
open PySem PySem.Calls PyProof.Rows PySem.W

/-! ## What the reader reads -/
inductive J where
  | nul | boo (b : Bool) | int (t : List Nat) | flt (t : List Nat) | str (s : List Nat) | arr (xs : List J) | obj (es : List (List Nat × J))
/-- what was read and how many signs; or the words of a failure and its place from here -/
inductive Res (α : Type) where
  | ok (a : α) (k : Nat)
  | err (m : List Nat) (k : Nat)
def Res.sh {α β : Type} (f : α → β) (d : Nat) : Res α → Res β
  | .ok a k => .ok (f a) (d + k)
  | .err m k => .err m (d + k)

def mExpValue : List Nat := [69, 120, 112, 101, 99, 116, 105, 110, 103, 32, 118, 97, 108, 117, 101]
def mExpArr : List Nat := [69, 120, 112, 101, 99, 116, 105, 110, 103, 32, 118, 97, 108, 117, 101, 32, 111, 114, 32, 39, 93, 39]
def mCommaArr : List Nat := [69, 120, 112, 101, 99, 116, 105, 110, 103, 32, 39, 44, 39, 32, 100, 101, 108, 105, 109, 105, 116, 101, 114, 32, 111, 114, 32, 39, 93, 39]
def mTrailArr : List Nat := [73, 108, 108, 101, 103, 97, 108, 32, 116, 114, 97, 105, 108, 105, 110, 103, 32, 99, 111, 109, 109, 97, 32, 98, 101, 102, 111, 114, 101, 32, 101, 110, 100, 32, 111, 102, 32, 97, 114, 114, 97, 121]
def mExpNameObj : List Nat := [69, 120, 112, 101, 99, 116, 105, 110, 103, 32, 112, 114, 111, 112, 101, 114, 116, 121, 32, 110, 97, 109, 101, 32, 101, 110, 99, 108, 111, 115, 101, 100, 32, 105, 110, 32, 100, 111, 117, 98, 108, 101, 32, 113, 117, 111, 116, 101, 115, 32, 111, 114, 32, 39, 125, 39]
def mColon : List Nat := [69, 120, 112, 101, 99, 116, 105, 110, 103, 32, 39, 58, 39, 32, 100, 101, 108, 105, 109, 105, 116, 101, 114]
def mCommaObj : List Nat := [69, 120, 112, 101, 99, 116, 105, 110, 103, 32, 39, 44, 39, 32, 100, 101, 108, 105, 109, 105, 116, 101, 114, 32, 111, 114, 32, 39, 125, 39]
def mTrailObj : List Nat := [73, 108, 108, 101, 103, 97, 108, 32, 116, 114, 97, 105, 108, 105, 110, 103, 32, 99, 111, 109, 109, 97, 32, 98, 101, 102, 111, 114, 101, 32, 101, 110, 100, 32, 111, 102, 32, 111, 98, 106, 101, 99, 116]
def mExpName : List Nat := [69, 120, 112, 101, 99, 116, 105, 110, 103, 32, 112, 114, 111, 112, 101, 114, 116, 121, 32, 110, 97, 109, 101, 32, 101, 110, 99, 108, 111, 115, 101, 100, 32, 105, 110, 32, 100, 111, 117, 98, 108, 101, 32, 113, 117, 111, 116, 101, 115]
def mUnterm : List Nat := [85, 110, 116, 101, 114, 109, 105, 110, 97, 116, 101, 100, 32, 115, 116, 114, 105, 110, 103, 32, 115, 116, 97, 114, 116, 105, 110, 103, 32, 97, 116]
def mControl : List Nat := [73, 110, 118, 97, 108, 105, 100, 32, 99, 111, 110, 116, 114, 111, 108, 32, 99, 104, 97, 114, 97, 99, 116, 101, 114, 32, 37, 114, 32, 97, 116]
def mEscape : List Nat := [73, 110, 118, 97, 108, 105, 100, 32, 92, 88, 32, 101, 115, 99, 97, 112, 101, 32, 115, 101, 113, 117, 101, 110, 99, 101, 32, 37, 114]
def mHex : List Nat := [73, 110, 118, 97, 108, 105, 100, 32, 92, 117, 88, 88, 88, 88, 32, 101, 115, 99, 97, 112, 101, 32, 115, 101, 113, 117, 101, 110, 99, 101]
def mExtra : List Nat := [69, 120, 116, 114, 97, 32, 100, 97, 116, 97]

def wsN (r : List Nat) : Nat := (r.takeWhile isWs).length
/-- a sign that stands for itself in a string -/
def isPln (c : Nat) : Bool := !(c == 34 || c == 92 || decide (c < 32))
def hexV (c : Nat) : Option Nat := if 48 ≤ c ∧ c ≤ 57 then some (c - 48) else if 97 ≤ c ∧ c ≤ 102 then some (c - 87) else if 65 ≤ c ∧ c ≤ 70 then some (c - 55) else none
def hexGo : List Nat → Nat → Option Nat
  | [], u => some u
  | c :: r, u => match hexV c with
    | some v => hexGo r (u * 16 + v)
    | none => none
def hex4 (r : List Nat) : Option Nat := if r.length < 4 then none else hexGo (r.take 4) 0
def escV (c : Nat) : Option Nat := if c = 34 then some 34 else if c = 92 then some 92 else if c = 47 then some 47 else if c = 98 then some 8 else if c = 102 then some 12 else if c = 110 then some 10 else if c = 114 then some 13 else if c = 116 then some 9 else none
def isHi (u : Nat) : Bool := decide (55296 ≤ u ∧ u ≤ 56319)
def isLo (u : Nat) : Bool := decide (56320 ≤ u ∧ u ≤ 57343)
/-- r: what is left behind the quote and k signs; places count from the quote -/
def strGo (st : Bool) : Nat → List Nat → Nat → List Nat → Res (List Nat)
  | 0, _, _, _ => .err [] 0
  | f + 1, r, k, acc =>
    let p := r.takeWhile isPln
    let k := k + p.length
    match r.drop p.length with
    | [] => .err mUnterm 0
    | c :: t => if c = 34 then .ok (acc ++ p) (k + 2) else if c ≠ 92 then (if st then .err mControl (k + 1) else strGo st f t (k + 1) (acc ++ p ++ [c])) else
      match t with
      | [] => .err mUnterm 0
      | e :: u => if e ≠ 117 then (match escV e with
          | none => .err mEscape (k + 2)
          | some x => strGo st f u (k + 2) (acc ++ p ++ [x])) else
        match hex4 u with
        | none => .err mHex (k + 1)
        | some a => if isHi a = true ∧ (u.drop 4).take 2 = [92, 117] then
            match hex4 (u.drop 6) with
            | none => .err mHex (k + 7)
            | some b => if isLo b = true then strGo st f (u.drop 10) (k + 12) (acc ++ p ++ [65536 + (a - 55296) * 1024 + (b - 56320)]) else strGo st f (u.drop 4) (k + 6) (acc ++ p ++ [a])
          else strGo st f (u.drop 4) (k + 6) (acc ++ p ++ [a])
/-- a string whose quote is ahead of r -/
def strP (st : Bool) (r : List Nat) : Res (List Nat) := strGo st (r.length + 1) r 0 []
/-- values of an array; r: what is left behind k signs -/
def arrGo (P : List Nat → Res J) : Nat → List Nat → Nat → List J → Res (List J)
  | 0, _, _, _ => .err [] 0
  | f + 1, r, k, acc => match P r with
    | .err m p => .err m (k + p)
    | .ok v n =>
      let w := wsN (r.drop n)
      match r.drop (n + w) with
      | 93 :: _ => .ok (acc ++ [v]) (k + n + w + 1)
      | 44 :: t => match t.drop (wsN t) with
        | 93 :: _ => .err mTrailArr (k + n + w)
        | _ => arrGo P f (t.drop (wsN t)) (k + n + w + 1 + wsN t) (acc ++ [v])
      | _ => .err mCommaArr (k + n + w)
/-- an array; r: what stands behind the bracket; places count from there -/
def arrP (P : List Nat → Res J) (r : List Nat) : Res (List J) := match r.drop (wsN r) with
  | 93 :: _ => .ok [] (wsN r + 1)
  | [] => .err mExpArr (wsN r)
  | _ => arrGo P (r.length + 1) (r.drop (wsN r)) (wsN r) []
/-- pairs of an object; r: what is left, a name's quote ahead, behind k signs -/
def objGo (SP : List Nat → Res (List Nat)) (P : List Nat → Res J) : Nat → List Nat → Nat → List (List Nat × J) → Res (List (List Nat × J))
  | 0, _, _, _ => .err [] 0
  | f + 1, r, k, acc => match SP (r.drop 1) with
    | .err m p => .err m (k + p)
    | .ok key n =>
      let r1 := r.drop n
      let w := wsN r1
      match r1.drop w with
      | 58 :: t =>
        let w2 := wsN t
        match P (t.drop w2) with
        | .err m p => .err m (k + n + w + 1 + w2 + p)
        | .ok v n2 =>
          let r2 := t.drop (w2 + n2)
          let w3 := wsN r2
          let k3 := k + n + w + 1 + w2 + n2 + w3
          match r2.drop w3 with
          | 125 :: _ => .ok (acc ++ [(key, v)]) (k3 + 1)
          | 44 :: u => match u.drop (wsN u) with
            | 34 :: x => objGo SP P f (34 :: x) (k3 + 1 + wsN u) (acc ++ [(key, v)])
            | 125 :: _ => .err mTrailObj k3
            | _ => .err mExpName (k3 + 1 + wsN u)
          | _ => .err mCommaObj k3
      | _ => .err mColon (k + n + w)
/-- an object; r: what stands behind the bracket -/
def objP (SP : List Nat → Res (List Nat)) (P : List Nat → Res J) (r : List Nat) : Res (List (List Nat × J)) := match r.drop (wsN r) with
  | 125 :: _ => .ok [] (wsN r + 1)
  | 34 :: x => objGo SP P (r.length + 1) (34 :: x) (wsN r) []
  | _ => .err mExpNameObj (wsN r)
def numP (r : List Nat) : Res J := match numX r with
  | none => .err mExpValue 0
  | some (a, b, c, k) => .ok (if b = [] ∧ c = [] then .int a else .flt (a ++ b ++ c)) k
/-- a value of at most d storeys of brackets -/
def parse (SP : List Nat → Res (List Nat)) : Nat → List Nat → Res J
  | d, r => match r with
    | [] => .err mExpValue 0
    | c :: t =>
      if c = 34 then (SP t).sh .str 0
      else if c = 123 then (match d with
        | 0 => .err [] 0
        | d + 1 => (objP SP (parse SP d) t).sh .obj 1)
      else if c = 91 then (match d with
        | 0 => .err [] 0
        | d + 1 => (arrP (parse SP d) t).sh .arr 1)
      else if r.take 4 = [110, 117, 108, 108] then .ok .nul 4
      else if r.take 4 = [116, 114, 117, 101] then .ok (.boo true) 4
      else if r.take 5 = [102, 97, 108, 115, 101] then .ok (.boo false) 5
      else numP r
/-- brackets that open -/
def br (r : List Nat) : Nat := (r.filter fun c => c == 91 || c == 123).length
mutual
def post : J → List J
  | .nul => []
  | .boo _ => []
  | .int t => [.int t]
  | .flt t => [.flt t]
  | .str _ => []
  | .arr xs => posts xs ++ [.arr xs]
  | .obj es => postp es ++ [.obj es]
def posts : List J → List J
  | [] => []
  | x :: xs => post x ++ posts xs
def postp : List (List Nat × J) → List J
  | [] => []
  | (_, x) :: xs => post x ++ postp xs
end
theorem br_drop (r : List Nat) (k : Nat) : br (r.drop k) ≤ br r := by
  unfold br
  exact ((List.drop_sublist k r).filter _).length_le
theorem posts_app (a b : List J) : posts (a ++ b) = posts a ++ posts b := by
  induction a with
  | nil => rfl
  | cons x a ih => rw [List.cons_append, posts, posts, ih, List.append_assoc]
theorem postp_app (a b : List (List Nat × J)) : postp (a ++ b) = postp a ++ postp b := by
  induction a with
  | nil => rfl
  | cons x a ih => obtain ⟨n, x⟩ := x; rw [List.cons_append, postp, postp, ih, List.append_assoc]
end Mine
set_option maxRecDepth 10000
namespace Mine
open PySem PySem.Calls PyProof.Rows PySem.W

/-! ## Hooks, and what they make of the values -/
structure HS where
  oh : V
  op : V
  pf : V
  pi : V
  ah : V
  X : Nat → Prop
  R : List Nat → AH → V → List J → J → Prop
  L : List Nat → AH → List J → Prop

/-- nothing changed but Y -/
def Chg (Y : Nat → Prop) (H H' : AH) : Prop := H.length ≤ H'.length ∧ ∀ i o, H[i]? = some o → ¬ Y i → H'[i]? = some o
def Bd (P : List Nat) (H : AH) : Prop := ∀ p ∈ P, p < H.length
def NoX (h : HS) (P : List Nat) : Prop := ∀ p ∈ P, ¬ h.X p
theorem Chg.refl {Y : Nat → Prop} {H : AH} : Chg Y H H := ⟨Nat.le_refl _, fun _ _ h _ => h⟩
theorem Chg.trans {Y : Nat → Prop} {H H' H'' : AH} (a : Chg Y H H') (b : Chg Y H' H'') : Chg Y H H'' := ⟨Nat.le_trans a.1 b.1, fun i o h n => b.2 i o (a.2 i o h n) n⟩
theorem Chg.imp {Y Z : Nat → Prop} {H H' : AH} (a : Chg Y H H') (k : ∀ i, Y i → Z i) : Chg Z H H' := ⟨a.1, fun i o h n => a.2 i o h fun y => n (k i y)⟩
theorem Chg.app {Y : Nat → Prop} {H l : AH} : Chg Y H (H ++ l) := ⟨by simp, fun i o h _ => by rw [List.getElem?_append_left (List.getElem?_eq_some_iff.mp h).1]; exact h⟩
theorem Chg.set {Y : Nat → Prop} {H : AH} {i : Nat} {o : O} (y : Y i) : Chg Y H (H.set i o) := ⟨by simp, fun j o' h n => by
  rw [List.getElem?_set_ne]; exact h
  rintro rfl; exact n y⟩
theorem Bd.chg {Y : Nat → Prop} {P : List Nat} {H H' : AH} (b : Bd P H) (c : Chg Y H H') : Bd P H' := fun p hp => Nat.lt_of_lt_of_le (b p hp) c.1

/-- what is told of a value may hang on what had ended before it -/
def HS.Rs (h : HS) (P : List Nat) (H : AH) : List J → List V → List J → Prop
  | _, [], [] => True
  | log, v :: vs, j :: js => h.R P H v log j ∧ HS.Rs h P H (log ++ post j) vs js
  | _, _, _ => False
def HS.Ps (h : HS) (P : List Nat) (H : AH) : List J → List (Nm × V) → List (List Nat × J) → Prop
  | _, [], [] => True
  | log, (k, v) :: vs, (k', j) :: js => k = k' ∧ h.R P H v log j ∧ HS.Ps h P H (log ++ post j) vs js
  | _, _, _ => False
def prV (ps : List (Nm × V)) : List V := ps.map fun p => .tt [.ss p.1, p.2]
/-- what a hook's call leaves -/
def HS.Told (h : HS) (P : List Nat) (H : AH) (log0 log : List J) (j : J) : PV := fun v H' => Chg h.X H H' ∧ h.R P H' v log0 j ∧ h.L P H' (log ++ [j])

/-- a log, and how much may come yet -/
def LogB (log : List J) (m : Nat) : Prop := log.length + m ≤ 100000
structure HSok (S : Sx) (h : HS) (n0 : Nat) : Prop where
  nz : n0 ≠ 0
  gg : isGg h.oh = false ∧ isGg h.op = false ∧ isGg h.pf = false ∧ isGg h.pi = false ∧ isGg h.ah = false
  R_mono : ∀ {P H H' v log j}, Chg (fun i => h.X i ∨ i ∈ P) H H' → h.R P H v log j → h.R P H' v log j
  R_sub : ∀ {P P' H v log j}, (∀ i ∈ P', i ∈ P) → h.R P H v log j → h.R P' H v log j
  L_mono : ∀ {P H H' log}, Chg (· ∈ P) H H' → h.L P H log → h.L P H' log
  L_new : ∀ {P H i log}, H.length ≤ i → h.L P H log → h.L (i :: P) H log
  L_sub : ∀ {P P' H log}, (∀ i ∈ P', i ∈ P) → h.L P H log → h.L P' H log
  X_lt : ∀ {P H log i}, h.L P H log → h.X i → i < H.length
  nul : ∀ {P H log}, h.R P H .nn log .nul
  boo : ∀ {P H b log}, h.R P H (.bb b) log (.boo b)
  str : ∀ {P H s log}, h.R P H (.ss s) log (.str s)
  int_n : ∀ {P H t i log}, h.pi = .nn → PySem.intText? ⟨t.toArray⟩ = some i → h.L P H log → h.R P H (.ii i) log (.int t) ∧ h.L P H (log ++ [.int t])
  int_h : ∀ {P H t log}, h.pi ≠ .nn → Bd P H → LogB log 0 → h.L P H log → Calls S n0 h.pi [.ss t] H (h.Told P H log log (.int t)) (fun _ _ => False)
  flt_h : ∀ {P H t log}, h.pf ≠ .nn → t.length ≤ 2000 → Bd P H → LogB log 0 → h.L P H log → Calls S n0 h.pf [.ss t] H (h.Told P H log log (.flt t)) (fun _ _ => False)
  arr_n : ∀ {P H l vs js log}, h.ah = .nn → H[l]? = some (.list vs) → l ∉ P → ¬ h.X l → h.Rs P H log vs js → h.L P H (log ++ posts js) → h.R P H (.rr l) log (.arr js) ∧ h.L P H (log ++ posts js ++ [.arr js])
  arr_h : ∀ {P H l vs js log}, h.ah ≠ .nn → H[l]? = some (.list vs) → l ∉ P → ¬ h.X l → Bd P H → h.Rs P H log vs js → LogB (log ++ posts js) 0 → h.L P H (log ++ posts js) → Calls S n0 h.ah [.rr l] H (h.Told P H log (log ++ posts js) (.arr js)) (fun _ _ => False)
  obj_p : ∀ {P H l ps es log}, h.op ≠ .nn → H[l]? = some (.list (prV ps)) → l ∉ P → ¬ h.X l → Bd P H → h.Ps P H log ps es → LogB (log ++ postp es) 0 → h.L P H (log ++ postp es) → Calls S n0 h.op [.rr l] H (h.Told P H log (log ++ postp es) (.obj es)) (fun _ _ => False)
  obj_n : ∀ {P H l ps es log ep}, h.op = .nn → h.oh = .nn → H[l]? = some (.dict (updAll ps []) ep) → l ∉ P → ¬ h.X l → h.Ps P H log ps es → h.L P H (log ++ postp es) → h.R P H (.rr l) log (.obj es) ∧ h.L P H (log ++ postp es ++ [.obj es])
  obj_h : ∀ {P H l ps es log ep}, h.op = .nn → h.oh ≠ .nn → H[l]? = some (.dict (updAll ps []) ep) → l ∉ P → ¬ h.X l → Bd P H → h.Ps P H log ps es → LogB (log ++ postp es) 0 → h.L P H (log ++ postp es) → Calls S n0 h.oh [.rr l] H (h.Told P H log (log ++ postp es) (.obj es)) (fun _ _ => False)

/-- the reader's cells and closures -/
def cellsO (h : HS) (st : Bool) (b : Nat) : AH := [.cell (some (.rr (b + 10))), .cell (some h.ah), .cell (some h.oh), .cell (some h.op), .cell (some (.gg 14)), .cell (some h.pf), .cell (some h.pi), .cell (some (.gg 13)), .cell (some (.gg 12)), .cell (some (.bb st)),
  .fn 6 [b, b + 1, b + 2, b + 3, b + 4, b + 5, b + 6, b + 7, b + 8, b + 9], .fn 7 [b]]
structure RdC (h : HS) (st : Bool) (b : Nat) (H : AH) : Prop where
  at_ : ∀ k o, (cellsO h st b)[k]? = some o → H[b + k]? = some o
  x : ∀ k, k < 12 → ¬ h.X (b + k)
theorem RdC.step {h : HS} {st : Bool} {b : Nat} {H H' : AH} {Y : Nat → Prop} (r : RdC h st b H) (c : Chg Y H H') (y : ∀ k, k < 12 → ¬ Y (b + k)) : RdC h st b H' :=
  ⟨fun k o e => c.2 _ _ (r.at_ k o e) (y k (List.getElem?_eq_some_iff.mp e).1), r.x⟩
theorem RdC.chg {h : HS} {st : Bool} {b : Nat} {H H' : AH} (r : RdC h st b H) (c : Chg h.X H H') : RdC h st b H' := r.step c r.x
theorem RdC.lt {h : HS} {st : Bool} {b : Nat} {H : AH} (r : RdC h st b H) : b + 11 < H.length := (List.getElem?_eq_some_iff.mp (r.at_ 11 (.fn 7 [b]) rfl)).1

def Txt (s : List Nat) : Prop := s.length ≤ 640 ∧ CP s
theorem LogB.nil {s : List Nat} {m : Nat} (h : Txt s) (hm : m ≤ s.length) : LogB [] m := by have := h.1; unfold LogB; simp; omega
theorem LogB.le {log : List J} {m m' : Nat} (h : LogB log m) (hm : m' ≤ m) : LogB log m' := by unfold LogB at *; omega
/-- the reader's error at a place -/
def ErrAt (H : AH) (i : Nat) (m doc : List Nat) (pos : Int) (en : Option Int) : Prop := ∃ d, H[i]? = some (.exc 3 [.ss (errText m doc pos en)] (some d) false) ∧ H[d]? = some (.ns (errAttrs m doc pos en))
theorem ErrAt.new {H : AH} {m doc : List Nat} {pos : Int} {en : Option Int} : ErrAt (H ++ errO m doc pos en H.length false) H.length m doc pos en := ⟨H.length + 1, at0, at1⟩
def OkQ (h : HS) (P : List Nat) (H : AH) (e : Nat) (log : List J) (res : Res J) : PV := fun v H' => ∃ j k w, res = .ok j k ∧ v = .tt [w, .ii ((e + k : Nat) : Int)] ∧ Chg h.X H H' ∧ h.R P H' w log j ∧ h.L P H' (log ++ post j)
def ErQ {α : Type} (h : HS) (s : List Nat) (H : AH) (e : Nat) (res : Res α) : PE := fun i H' => ∃ m p, res = .err m p ∧ Chg h.X H H' ∧ ErrAt H' i m s ((e + p : Nat) : Int) none

theorem ev_cel' {S : Sx} {n : Nat} {ρ : Lo} {κ : List Nat} {E : PE} {H : AH} {Q : PV} {t : Bool} {i j : Nat} {v : V} (h1 : κ[i]? = some j) (h2 : H[j]? = some (.cell (some v))) : ev S n ρ κ E (.cel i) t H Q = fin t Q v H := by
  rw [ev_cel, h1]
  apply propext
  constructor
  · rintro ⟨j', v', e1, e2, q⟩
    cases e1
    rw [h2] at e2; cases e2
    exact q
  · intro q; exact ⟨j, v, rfl, h2, q⟩
theorem take_hd {r : List Nat} {c : Nat} {t w : List Nat} {k : Nat} (h : r = c :: t) (e : r.take k = w) (x : Nat) (hx : w.head? = some x) : c = x := by
  subst h
  cases k with
  | zero => subst e; cases hx
  | succ k => rw [List.take_succ_cons] at e; subst e; cases hx; rfl

section
variable {S : Sx} {h : HS} {n0 N d b e : Nat} {st : Bool} {s : List Nat} {H : AH} {P : List Nat} {log : List J}
theorem ErQ.new {α : Type} {res : Res α} {m : List Nat} {p : Nat} (hres : res = .err m p) : ErQ h s H e res H.length (H ++ errO m s ((e + p : Nat) : Int) none H.length false) := ⟨m, p, hres, .app, .new⟩
theorem isDig_num {t : List Nat} (h1 : t ≠ []) (h2 : t.all isDig = true) : ∀ n, ∃ m, figsGo t n = some m := by
  induction t with
  | nil => exact absurd rfl h1
  | cons c r ih =>
    intro n
    rw [List.all_cons, Bool.and_eq_true] at h2
    unfold figsGo
    have hc : 48 ≤ c ∧ c ≤ 57 := by have := h2.1; unfold isDig at this; exact of_decide_eq_true this
    rw [if_pos hc]
    by_cases hr : r = []
    · subst hr; exact ⟨_, rfl⟩
    · exact ih hr h2.2 _
end
end Mine
set_option maxRecDepth 10000
namespace Mine
open PySem PySem.Calls PyProof.Rows PySem.W

theorem dig_take : ∀ (t : List Nat) (m : Nat), m ≤ digN t → ∀ x ∈ t.take m, 48 ≤ x ∧ x ≤ 57
  | [], m, _, x, hx => by simp at hx
  | c :: t, 0, _, x, hx => by simp at hx
  | c :: t, m + 1, hm, x, hx => by
    unfold digN at hm
    by_cases hc : isDig c = true
    · rw [List.takeWhile_cons_of_pos hc, List.length_cons] at hm
      rw [List.take_succ_cons] at hx
      rcases List.mem_cons.mp hx with e | hx
      · subst e; unfold isDig at hc; exact of_decide_eq_true hc
      · exact dig_take t m (by unfold digN; omega) x hx
    · rw [List.takeWhile_cons_of_neg hc, List.length_nil] at hm; omega
theorem digN_le (r : List Nat) : digN r ≤ r.length := by
  unfold digN
  exact (List.takeWhile_prefix isDig).length_le
/-- the whole part: figures, perhaps a minus ahead -/
theorem numI_shape {r : List Nat} (h : numI r ≠ 0) : ∃ (g m : Nat), sgn r = g ∧ numI r = g + m ∧ m ≠ 0 ∧ m ≤ digN (r.drop g) := by
  unfold numI at h ⊢
  split at h
  · exact absurd rfl h
  · rename_i h0
    rw [if_neg h0]
    split
    · exact ⟨sgn r, 1, rfl, rfl, by omega, by omega⟩
    · exact ⟨sgn r, digN (r.drop (sgn r)), rfl, rfl, h0, Nat.le_refl _⟩
theorem numI_int {r : List Nat} (h : numI r ≠ 0) (hl : r.length ≤ 640) : ∃ i, PySem.intText? ⟨(r.take (numI r)).toArray⟩ = some i := by
  obtain ⟨g, m, hg, hi, hm, hd⟩ := numI_shape h
  have hml : m ≤ (r.drop g).length := Nat.le_trans hd (digN_le _)
  have hall := dig_take _ _ hd
  have hne : (r.drop g).take m ≠ [] := by
    intro e
    have := congrArg List.length e
    rw [List.length_take] at this
    simp only [List.length_nil] at this
    omega
  unfold sgn at hg
  split at hg
  · rename_i h45
    subst hg
    obtain ⟨t, rfl⟩ : ∃ t, r = 45 :: t := by
      cases r with
      | nil => cases h45
      | cons c t => cases h45; exact ⟨t, rfl⟩
    refine ⟨_, PySem.intText_neg (cs := t.take m) (by rw [hi, Nat.add_comm]; simp [List.take_succ_cons]) hall hne ?_⟩
    simp only [Str.length, List.size_toArray, List.length_take]
    simp only [List.length_cons] at hl ⊢; omega
  · subst hg
    rw [Nat.zero_add] at hi
    rw [hi]
    refine ⟨_, PySem.intText_digits (x := ⟨(r.take m).toArray⟩) (fun x hx => hall x (by simpa using hx)) (by simpa using hne) ?_⟩
    simp only [Str.length, List.size_toArray, List.length_take]
    omega

theorem tru_or {x y : List Nat} {H : AH} {q : Bool → Prop} : truQ (.ss x) H q = (x.length ≤ BIG ∧ q (!x.isEmpty)) := rfl
theorem isEmpty_ne {x : List Nat} (h : x ≠ []) : (!x.isEmpty) = true := by cases x; exact absurd rfl h; rfl
theorem ite2 {x : Bool} {A B : Prop} (h : B) : if x = true then B else (if x = true then A else B) := by cases x <;> exact h
theorem isNn_ne {v : V} (h : v ≠ .nn) : isNn v = false := by cases v <;> first | rfl | exact absurd rfl h

/-- no number in the text has a point or an exponent -/
def NoFlt (s : List Nat) : Prop := ∀ e a b c k, numX (s.drop e) = some (a, b, c, k) → b = [] ∧ c = []
/-- where a value may begin: at the start, behind a gap's sign, a bracket, a comma or a colon -/
def vpc (c : Nat) : Bool := isWs c || c == 91 || c == 44 || c == 58 || c == 123
def Vp (s : List Nat) (e : Nat) : Prop := ∀ c, s[e - 1]? = some c → 0 < e → vpc c = true
def NoFltV (s : List Nat) : Prop := ∀ e a b c k, Vp s e → numX (s.drop e) = some (a, b, c, k) → b = [] ∧ c = []
def Fok (h : HS) (s : List Nat) (e : Nat) : Prop := h.pf ≠ .nn ∨ NoFlt s ∨ (NoFltV s ∧ Vp s e)
theorem Vp.zero {s : List Nat} : Vp s 0 := fun _ _ h => absurd h (by omega)
theorem Vp.at {s : List Nat} {e c : Nat} (h : s[e]? = some c) (hc : vpc c = true) : Vp s (e + 1) := fun d hd _ => by
  rw [Nat.add_sub_cancel, h] at hd
  cases hd; exact hc
theorem Vp.ws {s : List Nat} {e : Nat} (h : Vp s e) : Vp s (e + (List.takeWhile isWs (s.drop e)).length) := by
  intro c hc h0
  cases hw : (List.takeWhile isWs (s.drop e)).length with
  | zero => rw [hw] at hc h0; exact h c hc h0
  | succ w =>
    rw [hw, show e + (w + 1) - 1 = e + w by omega] at hc
    have h1 : (s.drop e)[w]? = some c := by rw [List.getElem?_drop]; exact hc
    have h2 : (List.takeWhile isWs (s.drop e))[w]? = some c := by
      have hp := (List.takeWhile_prefix isWs (l := s.drop e))
      have hl : w < (List.takeWhile isWs (s.drop e)).length := by omega
      have := hp.getElem hl
      rw [List.getElem?_eq_getElem hl, this, ← List.getElem?_eq_getElem]; exact h1
    have h3 : isWs c = true := List.all_eq_true.mp (List.all_takeWhile (l := s.drop e) (p := isWs)) c (List.mem_of_getElem? h2)
    unfold vpc; rw [h3]; rfl
theorem Fok.to {h : HS} {s : List Nat} {e e' : Nat} (f : Fok h s e) (v : Vp s e') : Fok h s e' := by
  rcases f with f | f | ⟨f, _⟩
  · exact .inl f
  · exact .inr (.inl f)
  · exact .inr (.inr ⟨f, v⟩)
theorem Fok.ws {h : HS} {s : List Nat} {e : Nat} (f : Fok h s e) : Fok h s (e + (List.takeWhile isWs (s.drop e)).length) := by
  rcases f with f | f | ⟨f, v⟩
  · exact .inl f
  · exact .inr (.inl f)
  · exact .inr (.inr ⟨f, v.ws⟩)
theorem Fok.no {h : HS} {s : List Nat} {e : Nat} {a b c : List Nat} {k : Nat} (f : Fok h s e) (hn : h.pf = .nn) (hx : numX (s.drop e) = some (a, b, c, k)) : b = [] ∧ c = [] := by
  rcases f with f | f | ⟨f, v⟩
  · exact absurd hn f
  · exact f e _ _ _ _ hx
  · exact f e _ _ _ _ v hx
section
variable {S : Sx} {h : HS} {n0 N d b e : Nat} {st : Bool} {s : List Nat} {H : AH} {P : List Nat} {log : List J}
set_option maxHeartbeats 2000000 in
theorem scan_num (R : Rd S) (K : HSok S h n0) (hF : Fok h s e) (hs : Txt s) (hr : RdC h st b H) (hL : h.L P H log) (hP : Bd P H) (he : e ≤ s.length) (hO : LogB log (s.length - e)) {M : Nat} (hN : n0 ≤ M + 4) (w3 : Option V) :
    exs S [b, b + 1, b + 2, b + 3, b + 4, b + 5, b + 6, b + 7, b + 8, b + 9] b6.tl.tl.tl.tl (M + 4) [some (.ss s), some (.ii e), some (.ss mExpValue), w3, none, none, none, none, none, none] H
      (endK (OkQ h P H e log (numP (s.drop e)))) (fun _ i H' => ErQ h s H e (numP (s.drop e)) i H') := by
  have hN0 : M + 4 ≠ 0 := by omega
  have hl : s.length ≤ 1000000 := Nat.le_trans hs.1 (by decide)
  have hB := BIG_le hl
  have gg3 := R.gs 3 (by decide)
  have gg4 := R.gs 4 (by decide)
  have b2 : 2 ≤ BIG := by unfold BIG; decide
  have kap5 : ∀ {ρ E t Q}, ev S (M + 4) ρ [b, b + 1, b + 2, b + 3, b + 4, b + 5, b + 6, b + 7, b + 8, b + 9] E (.cel 5) t H Q = fin t Q h.pf H := fun {ρ E t Q} => ev_cel' rfl (hr.at_ 5 _ rfl)
  have kap6 : ∀ {ρ E t Q}, ev S (M + 4) ρ [b, b + 1, b + 2, b + 3, b + 4, b + 5, b + 6, b + 7, b + 8, b + 9] E (.cel 6) t H Q = fin t Q h.pi H := fun {ρ E t Q} => ev_cel' rfl (hr.at_ 6 _ rfl)
  unfold b6
  simp only [SL.tl]
  rw [exs_cons_]
  simp_arith [glob_g gg4]
  refine ⟨hN0, (number_ok (n := M + 2) R hl (by omega) (fun hx => ?_) fun x y z k hx => ?_)⟩
  · have hn : numP (s.drop e) = .err mExpValue 0 := by unfold numP; rw [hx]
    simp_arith
    rw [exs_cons_]
    simp_arith [isGg, isNn]
    rw [exs_cons_]
    simp_arith [glob_g gg3]
    refine ⟨hN0, hN0, raise3 R hl hs.2 (by decide) (by omega) ?_⟩
    exact ErQ.new (p := 0) hn
  · have hn : numP (s.drop e) = .ok (if y = [] ∧ z = [] then .int x else .flt (x ++ y ++ z)) k := by unfold numP; rw [hx]
    rw [hn]
    have hno : h.pf = .nn → y = [] ∧ z = [] := fun q => hF.no q hx
    unfold numX at hx
    split at hx
    · cases hx
    rename_i hI
    cases hx
    have lx : (List.take (numI (s.drop e)) (s.drop e)).length ≤ 640 := by
      rw [List.length_take, List.length_drop]; have := hs.1; omega
    simp_arith
    rw [exs_cons_]
    simp_arith [isGg, isNn, Bool.not_false]
    rw [exs_cons_]
    simp_arith
    refine ⟨hN0, _, _, _, _, rfl, ?_⟩
    -- f: what stands behind the whole part
    have hint : ∀ (A B C : List Nat) (k : Nat), A.length ≤ 640 → (∃ i, PySem.intText? ⟨A.toArray⟩ = some i) → ∀ (Q : QS) (E : ES),
        (∀ w H', Chg h.X H H' → h.R P H' w log (.int A) → h.L P H' (log ++ [.int A]) →
          Q .nrm [some (.ss s), some (.ii e), some (.ss mExpValue), w3, some (.tt [.ss A, .ss B, .ss C, .ii ((e + k : Nat) : Int)]), some (.ss A), some (.ss B), some (.ss C), some (.ii ((e + k : Nat) : Int)), some w] H') →
        exs S [b, b + 1, b + 2, b + 3, b + 4, b + 5, b + 6, b + 7, b + 8, b + 9] (.cons (.ifs (.cmp .Is (.cel 6) .nn)
(.cons (.asg (.loc 9) (.bi .int (.cons (.loc 5) .nil)))
.nil)
(.cons (.asg (.loc 9) (.call (.cel 6) (.cons (.loc 5) .nil)))
.nil))
.nil) (M + 4) [some (.ss s), some (.ii e), some (.ss mExpValue), w3, some (.tt [.ss A, .ss B, .ss C, .ii ((e + k : Nat) : Int)]), some (.ss A), some (.ss B), some (.ss C), some (.ii ((e + k : Nat) : Int)), none] H
        Q E := by
      intro A B C k lA hA Q E hQ
      rw [exs_cons_]
      simp_arith [kap6]
      refine ⟨K.gg.2.2.2.1, ?_⟩
      by_cases hpi : h.pi = .nn
      · rw [hpi]
        simp_arith [isNn]
        rw [exs_cons_]
        simp_arith [exs_nil_]
        obtain ⟨i, hi⟩ := hA
        refine ⟨lA, i, hi, ?_⟩
        obtain ⟨r1, r2⟩ := K.int_n hpi hi hL (P := P)
        exact hQ _ _ .refl r1 r2
      · rw [isNn_ne hpi]
        simp_arith
        rw [exs_cons_]
        simp_arith [kap6, exs_nil_]
        refine ⟨hN0, ((K.int_h hpi hP (hO.le (Nat.zero_le _)) hL).le hN K.nz).mono ?_ fun _ _ z => z.elim⟩
        rintro v H' ⟨c1, r1, l1⟩
        exact hQ _ _ c1 r1 l1
    have hflt : ∀ (A B C : List Nat) (k : Nat), h.pf ≠ .nn → A.length ≤ 640 → B.length ≤ 640 → C.length ≤ 640 → ∀ (Q : QS) (E : ES),
        (∀ w H', Chg h.X H H' → h.R P H' w log (.flt (A ++ B ++ C)) → h.L P H' (log ++ [.flt (A ++ B ++ C)]) →
          Q .nrm [some (.ss s), some (.ii e), some (.ss mExpValue), w3, some (.tt [.ss A, .ss B, .ss C, .ii ((e + k : Nat) : Int)]), some (.ss A), some (.ss B), some (.ss C), some (.ii ((e + k : Nat) : Int)), some w] H') →
        exs S [b, b + 1, b + 2, b + 3, b + 4, b + 5, b + 6, b + 7, b + 8, b + 9] (.cons (.ifs (.cmp .Is (.cel 5) .nn)
(.cons (.asg (.loc 9) (.call (.glob 5) (.cons (.bin .Add (.bin .Add (.loc 5) (.loc 6)) (.loc 7)) .nil)))
.nil)
(.cons (.asg (.loc 9) (.call (.cel 5) (.cons (.bin .Add (.bin .Add (.loc 5) (.loc 6)) (.loc 7)) .nil)))
.nil))
.nil) (M + 4) [some (.ss s), some (.ii e), some (.ss mExpValue), w3, some (.tt [.ss A, .ss B, .ss C, .ii ((e + k : Nat) : Int)]), some (.ss A), some (.ss B), some (.ss C), some (.ii ((e + k : Nat) : Int)), none] H Q E := by
      intro A B C k hpf lA lB lC Q E hQ
      rw [exs_cons_]
      simp_arith [kap5]
      refine ⟨K.gg.2.2.1, ?_⟩
      rw [isNn_ne hpf]
      simp_arith
      rw [exs_cons_]
      simp_arith [kap5, exs_nil_]
      refine ⟨by unfold BIG; omega, by rw [List.length_append]; unfold BIG; omega, hN0, ((K.flt_h hpf (by simp only [List.length_append]; omega) hP (hO.le (Nat.zero_le _)) hL).le hN K.nz).mono ?_ fun _ _ z => z.elim⟩
      rintro v H' ⟨c1, r1, l1⟩
      exact hQ v H' c1 r1 l1
    have ly : (List.take (numF (List.drop (numI (s.drop e)) (s.drop e))) (List.drop (numI (s.drop e)) (s.drop e))).length ≤ 640 := by
      rw [List.length_take, List.length_drop, List.length_drop]; have := hs.1; omega
    have lz : (List.take (numE (List.drop (numI (s.drop e) + numF (List.drop (numI (s.drop e)) (s.drop e))) (s.drop e))) (List.drop (numI (s.drop e) + numF (List.drop (numI (s.drop e)) (s.drop e))) (s.drop e))).length ≤ 640 := by
      rw [List.length_take, List.length_drop, List.length_drop]; have := hs.1; omega
    have hin := numI_int hI (by rw [List.length_drop]; have := hs.1; omega)
    revert lx ly lz hin hn hno
    generalize List.take (numI (s.drop e)) (s.drop e) = A
    generalize List.take (numF (List.drop (numI (s.drop e)) (s.drop e))) (List.drop (numI (s.drop e)) (s.drop e)) = B
    generalize List.take (numE (List.drop (numI (s.drop e) + numF (List.drop (numI (s.drop e)) (s.drop e))) (s.drop e))) (List.drop (numI (s.drop e) + numF (List.drop (numI (s.drop e)) (s.drop e))) (s.drop e)) = C
    generalize numI (s.drop e) + numF (List.drop (numI (s.drop e)) (s.drop e)) + numE (List.drop (numI (s.drop e) + numF (List.drop (numI (s.drop e)) (s.drop e))) (s.drop e)) = k
    intro hno hn lA lB lC hin
    have bigB : B.length ≤ BIG := by unfold BIG; omega
    have bigC : C.length ≤ BIG := by unfold BIG; omega
    rw [exs_cons_]
    simp_arith
    refine ⟨bigB, ?_⟩
    by_cases hB0 : B = []
    · subst hB0
      simp_arith [List.isEmpty_nil]
      refine ⟨bigC, ?_⟩
      by_cases hC0 : C = []
      · subst hC0
        simp_arith [List.isEmpty_nil]
        refine hint A [] [] k lA hin _ _ fun w H' c1 r1 l1 => ?_
        simp_arith
        rw [exs_cons_]
        simp_arith
        exact ⟨b2, _, k, w, rfl, rfl, c1, r1, l1⟩
      · rw [isEmpty_ne hC0]
        simp_arith
        refine hflt A [] C k (fun q => hC0 (hno q).2) lA lB lC _ _ fun w H' c1 r1 l1 => ?_
        simp_arith
        rw [exs_cons_]
        simp_arith
        exact ⟨b2, _, k, w, by rw [if_neg hC0], rfl, c1, r1, l1⟩
    · rw [isEmpty_ne hB0]
      simp_arith
      refine hflt A B C k (fun q => hB0 (hno q).1) lA lB lC _ _ fun w H' c1 r1 l1 => ?_
      simp_arith
      rw [exs_cons_]
      simp_arith
      exact ⟨b2, _, k, w, by rw [if_neg fun z => hB0 z.1], rfl, c1, r1, l1⟩
set_option maxHeartbeats 2000000 in
theorem scan_step (R : Rd S) (K : HSok S h n0) (hF : Fok h s e) (hs : Txt s) (hr : RdC h st b H) (hL : h.L P H log) (hP : Bd P H) (he : e ≤ s.length) (hO : LogB log (s.length - e)) (hN : n0 ≤ N) (hN4 : 4 ≤ N)
    (hstr : s[e]? = some 34 → Calls S N (.gg 12) [.ss s, .ii ((e + 1 : Nat) : Int), .bb st] H (OkQ h P H e log (parse (strP st) d (s.drop e))) (ErQ h s H e (parse (strP st) d (s.drop e))))
    (hobj : s[e]? = some 123 → Calls S N (.gg 13) [.tt [.ss s, .ii ((e + 1 : Nat) : Int)], .bb st, .rr (b + 10), h.oh, h.op] H (OkQ h P H e log (parse (strP st) d (s.drop e))) (ErQ h s H e (parse (strP st) d (s.drop e))))
    (harr : s[e]? = some 91 → Calls S N (.gg 14) [.tt [.ss s, .ii ((e + 1 : Nat) : Int)], .rr (b + 10), h.ah] H (OkQ h P H e log (parse (strP st) d (s.drop e))) (ErQ h s H e (parse (strP st) d (s.drop e)))) :
    Calls S (N + 1) (.rr (b + 10)) [.ss s, .ii e] H (OkQ h P H e log (parse (strP st) d (s.drop e))) (ErQ h s H e (parse (strP st) d (s.drop e))) := by
  refine calls_fn R.sv (hr.at_ 10 _ rfl) (by rw [R.fns 6 (by decide)]; rfl) (cw6 (R.fns 6 (by decide)) ?_)
  obtain ⟨M, rfl⟩ : ∃ M, N = M + 4 := ⟨N - 4, by omega⟩
  have hN0 : M + 4 ≠ 0 := by omega
  have hl : s.length ≤ 1000000 := Nat.le_trans hs.1 (by decide)
  have hB := BIG_le hl
  have gg3 := R.gs 3 (by decide)
  have gg4 := R.gs 4 (by decide)
  have b2 : 2 ≤ BIG := by unfold BIG; decide
  have c0 := hr.at_ 0 _ rfl
  have c1 := hr.at_ 1 _ rfl
  have c2 := hr.at_ 2 _ rfl
  have c3 := hr.at_ 3 _ rfl
  have c4 := hr.at_ 4 _ rfl
  have c5 := hr.at_ 5 _ rfl
  have c6 := hr.at_ 6 _ rfl
  have c7 := hr.at_ 7 _ rfl
  have c8 := hr.at_ 8 _ rfl
  have c9 := hr.at_ 9 _ rfl
  have g0 : ([b, b + 1, b + 2, b + 3, b + 4, b + 5, b + 6, b + 7, b + 8, b + 9] : List Nat)[0]? = some b := rfl
  have kap0 : ∀ {ρ E t Q}, ev S (M + 4) ρ [b, b + 1, b + 2, b + 3, b + 4, b + 5, b + 6, b + 7, b + 8, b + 9] E (.cel 0) t H Q = fin t Q (.rr (b + 10)) H := fun {ρ E t Q} => ev_cel' rfl c0
  have kap1 : ∀ {ρ E t Q}, ev S (M + 4) ρ [b, b + 1, b + 2, b + 3, b + 4, b + 5, b + 6, b + 7, b + 8, b + 9] E (.cel 1) t H Q = fin t Q h.ah H := fun {ρ E t Q} => ev_cel' rfl c1
  have kap2 : ∀ {ρ E t Q}, ev S (M + 4) ρ [b, b + 1, b + 2, b + 3, b + 4, b + 5, b + 6, b + 7, b + 8, b + 9] E (.cel 2) t H Q = fin t Q h.oh H := fun {ρ E t Q} => ev_cel' rfl c2
  have kap3 : ∀ {ρ E t Q}, ev S (M + 4) ρ [b, b + 1, b + 2, b + 3, b + 4, b + 5, b + 6, b + 7, b + 8, b + 9] E (.cel 3) t H Q = fin t Q h.op H := fun {ρ E t Q} => ev_cel' rfl c3
  have kap4 : ∀ {ρ E t Q}, ev S (M + 4) ρ [b, b + 1, b + 2, b + 3, b + 4, b + 5, b + 6, b + 7, b + 8, b + 9] E (.cel 4) t H Q = fin t Q (.gg 14) H := fun {ρ E t Q} => ev_cel' rfl c4
  have kap5 : ∀ {ρ E t Q}, ev S (M + 4) ρ [b, b + 1, b + 2, b + 3, b + 4, b + 5, b + 6, b + 7, b + 8, b + 9] E (.cel 5) t H Q = fin t Q h.pf H := fun {ρ E t Q} => ev_cel' rfl c5
  have kap6 : ∀ {ρ E t Q}, ev S (M + 4) ρ [b, b + 1, b + 2, b + 3, b + 4, b + 5, b + 6, b + 7, b + 8, b + 9] E (.cel 6) t H Q = fin t Q h.pi H := fun {ρ E t Q} => ev_cel' rfl c6
  have kap7 : ∀ {ρ E t Q}, ev S (M + 4) ρ [b, b + 1, b + 2, b + 3, b + 4, b + 5, b + 6, b + 7, b + 8, b + 9] E (.cel 7) t H Q = fin t Q (.gg 13) H := fun {ρ E t Q} => ev_cel' rfl c7
  have kap8 : ∀ {ρ E t Q}, ev S (M + 4) ρ [b, b + 1, b + 2, b + 3, b + 4, b + 5, b + 6, b + 7, b + 8, b + 9] E (.cel 8) t H Q = fin t Q (.gg 12) H := fun {ρ E t Q} => ev_cel' rfl c8
  have kap9 : ∀ {ρ E t Q}, ev S (M + 4) ρ [b, b + 1, b + 2, b + 3, b + 4, b + 5, b + 6, b + 7, b + 8, b + 9] E (.cel 9) t H Q = fin t Q (.bb st) H := fun {ρ E t Q} => ev_cel' rfl c9
  clear c0 c1 c2 c3 c4 c5 c6 c7 c8 c9
  have key : parse (strP st) d (s.drop e) = numP (s.drop e) → ∀ w3 : Option V, exs S [b, b + 1, b + 2, b + 3, b + 4, b + 5, b + 6, b + 7, b + 8, b + 9] b6.tl.tl.tl.tl (M + 4) [some (.ss s), some (.ii e), some (.ss mExpValue), w3, none, none, none, none, none, none] H
      (endK (OkQ h P H e log (parse (strP st) d (s.drop e)))) (fun _ i H' => ErQ h s H e (parse (strP st) d (s.drop e)) i H') := by
    intro hp w3
    rw [hp]
    exact scan_num R K hF hs hr hL hP he hO hN w3
  unfold b6
  rw [exs_cons_]
  simp_arith
  rw [exs_cons_]
  simp_arith [hB]
  cases hc : s[e]? with
  | none =>
    have hge := ge_of_get hc
    have hd : s.drop e = [] := List.drop_of_length_le hge
    rw [decide_eq_true (by omega)]
    simp_arith
    rw [exs_cons_]
    simp_arith [glob_g gg3]
    refine ⟨hN0, hN0, raise3 R hl hs.2 (by decide) (by omega) ?_⟩
    exact ErQ.new (p := 0) (by rw [hd]; unfold parse; rfl)
  | some c =>
    have hlt := lt_of_get hc
    have hd := drop_cons hc
    rw [decide_eq_false (by omega)]
    simp_arith [exs_nil_]
    rw [exs_cons_]
    simp_arith
    refine ⟨fit_nat (by omega), c, by rw [pyI_nat]; exact hc, ?_⟩
    try simp_arith
    rw [exs_cons_]
    simp_arith [eq_11]
    by_cases h34 : c = 34
    · subst h34
      simp_arith [beq_self_eq_true]
      rw [exs_cons_]
      simp_arith [kap8, kap9, nat1]
      exact ⟨hN0, (hstr hc).mono (fun _ _ z => z) fun _ _ z => z⟩
    rw [show (c == 34) = false from beq_eq_false_iff_ne.mpr h34]
    simp_arith
    rw [exs_cons_]
    simp_arith [eq_11]
    by_cases h123 : c = 123
    · subst h123
      simp_arith [beq_self_eq_true]
      rw [exs_cons_]
      simp_arith [kap7, kap9, kap0, kap2, kap3, nat1]
      exact ⟨b2, hN0, (hobj hc).mono (fun _ _ z => z) fun _ _ z => z⟩
    rw [show (c == 123) = false from beq_eq_false_iff_ne.mpr h123]
    simp_arith
    rw [exs_cons_]
    simp_arith [eq_11]
    by_cases h91 : c = 91
    · subst h91
      simp_arith [beq_self_eq_true]
      rw [exs_cons_]
      simp_arith [kap4, kap0, kap1, nat1]
      exact ⟨b2, hN0, (harr hc).mono (fun _ _ z => z) fun _ _ z => z⟩
    rw [show (c == 91) = false from beq_eq_false_iff_ne.mpr h91]
    simp_arith
    have hpar : parse (strP st) d (s.drop e) = if (s.drop e).take 4 = [110, 117, 108, 108] then .ok .nul 4 else if (s.drop e).take 4 = [116, 114, 117, 101] then .ok (.boo true) 4 else if (s.drop e).take 5 = [102, 97, 108, 115, 101] then .ok (.boo false) 5 else numP (s.drop e) := by
      rw [hd]
      unfold parse
      simp only
      rw [if_neg h34, if_neg h123, if_neg h91]
    rw [exs_cons_]
    simp_arith [eq_11, hB, nat4, nat5, pyS_nat, sub4, sub5]
    by_cases hn : (s.drop e).take 4 = [110, 117, 108, 108]
    · have := take_hd hd hn 110 rfl
      subst this
      rw [hn]
      rw [if_pos hn] at hpar
      rw [hpar]
      simp_arith [beq_self_eq_true]
      rw [exs_cons_]
      simp_arith [nat4]
      exact ⟨b2, .nul, 4, .nn, rfl, rfl, .refl, K.nul, by rw [post, List.append_nil]; exact hL⟩
    rw [if_neg hn] at hpar
    rw [show ((s.drop e).take 4 == [110, 117, 108, 108]) = false from beq_eq_false_iff_ne.mpr hn]
    simp_arith
    refine ite2 ?_
    rw [exs_cons_]
    simp_arith [eq_11, hB, nat4, nat5, pyS_nat, sub4, sub5]
    by_cases ht : (s.drop e).take 4 = [116, 114, 117, 101]
    · have := take_hd hd ht 116 rfl
      subst this
      rw [ht]
      rw [if_pos ht] at hpar
      rw [hpar]
      simp_arith [beq_self_eq_true]
      rw [exs_cons_]
      simp_arith [nat4]
      exact ⟨b2, .boo true, 4, .bb true, rfl, rfl, .refl, K.boo, by rw [post, List.append_nil]; exact hL⟩
    rw [if_neg ht] at hpar
    rw [show ((s.drop e).take 4 == [116, 114, 117, 101]) = false from beq_eq_false_iff_ne.mpr ht]
    simp_arith
    refine ite2 ?_
    rw [exs_cons_]
    simp_arith [eq_11, hB, nat4, nat5, pyS_nat, sub4, sub5]
    by_cases hf : (s.drop e).take 5 = [102, 97, 108, 115, 101]
    · have := take_hd hd hf 102 rfl
      subst this
      rw [hf]
      rw [if_pos hf] at hpar
      rw [hpar]
      simp_arith [beq_self_eq_true]
      rw [exs_cons_]
      simp_arith [nat5]
      exact ⟨b2, .boo false, 5, .bb false, rfl, rfl, .refl, K.boo, by rw [post, List.append_nil]; exact hL⟩
    rw [if_neg hf] at hpar
    rw [show ((s.drop e).take 5 == [102, 97, 108, 115, 101]) = false from beq_eq_false_iff_ne.mpr hf]
    simp_arith [exs_nil_]
    refine ite2 ?_
    exact key hpar _
end
end Mine
set_option maxRecDepth 10000
namespace Mine
open PySem PySem.Calls PyProof.Rows PySem.W

/-! ## Nothing is read behind the end -/
theorem wsN_le (r : List Nat) : wsN r ≤ r.length := (List.takeWhile_prefix isWs).length_le
theorem numX_le {r a b c : List Nat} {k : Nat} (h : numX r = some (a, b, c, k)) : k ≤ r.length ∧ k ≠ 0 := by
  unfold numX at h
  split at h
  · cases h
  rename_i h0
  cases h
  obtain ⟨g, m, hg, hi, hm, hd⟩ := numI_shape h0
  have h1 := digN_le (r.drop g)
  rw [List.length_drop] at h1
  have hF : numF (r.drop (numI r)) ≤ r.length - numI r := by
    unfold numF
    split
    · split
      · omega
      · have := digN_le ((r.drop (numI r)).drop 1)
        rw [List.length_drop, List.length_drop] at this; omega
    · omega
  have hE : ∀ t : List Nat, numE t ≤ t.length := by
    intro t
    unfold numE
    split
    · split
      · omega
      · have := digN_le (t.drop (sgE t))
        rw [List.length_drop] at this
        omega
    · omega
  have := hE (r.drop (numI r + numF (r.drop (numI r))))
  rw [List.length_drop] at this
  omega
theorem cons_drop_len {α : Type} {r : List α} {k : Nat} {c : α} {t : List α} (h : r.drop k = c :: t) : k + 1 + t.length = r.length ∧ t = r.drop (k + 1) := by
  have h1 := congrArg List.length h
  rw [List.length_drop, List.length_cons] at h1
  refine ⟨by omega, ?_⟩
  rw [← List.drop_drop, h]; rfl
theorem hex4_len {r : List Nat} {a : Nat} (h : hex4 r = some a) : 4 ≤ r.length := by
  unfold hex4 at h
  split at h
  · cases h
  · omega
theorem strGo_le (st : Bool) : ∀ (f : Nat) (r : List Nat) (k : Nat) (acc x : List Nat) (n : Nat), strGo st f r k acc = .ok x n → n ≤ k + r.length + 1
  | 0, _, _, _, _, _, h => by cases h
  | f + 1, r, k, acc, x, n, h => by
    unfold strGo at h
    simp only at h
    split at h
    · cases h
    rename_i c t hd
    obtain ⟨hl, ht⟩ := cons_drop_len hd
    split at h
    · cases h; omega
    split at h
    · split at h
      · cases h
      · have := strGo_le st f _ _ _ _ _ h; omega
    split at h
    · cases h
    rename_i e u
    simp only [List.length_cons] at hl
    split at h
    · split at h
      · cases h
      · have := strGo_le st f _ _ _ _ _ h; omega
    split at h
    · cases h
    rename_i a ha
    have l4 := hex4_len ha
    split at h
    · split at h
      · cases h
      rename_i b hb
      have l6 := hex4_len hb
      rw [List.length_drop] at l6
      split at h
      · have := strGo_le st f _ _ _ _ _ h; rw [List.length_drop] at this; omega
      · have := strGo_le st f _ _ _ _ _ h; rw [List.length_drop] at this; omega
    · have := strGo_le st f _ _ _ _ _ h; rw [List.length_drop] at this; omega
theorem strP_le {st : Bool} {r x : List Nat} {n : Nat} (h : strP st r = .ok x n) : n ≤ r.length + 1 := by
  have := strGo_le st _ _ _ _ _ _ h; omega
def PLe (P : List Nat → Res J) : Prop := ∀ r j k, P r = .ok j k → k ≤ r.length
theorem arrGo_le {P : List Nat → Res J} (hP : PLe P) : ∀ (f : Nat) (r : List Nat) (k : Nat) (acc xs : List J) (n : Nat), arrGo P f r k acc = .ok xs n → n ≤ k + r.length
  | 0, _, _, _, _, _, h => by cases h
  | f + 1, r, k, acc, x, n, h => by
    unfold arrGo at h
    split at h
    · cases h
    rename_i v m hv
    have := hP _ _ _ hv
    simp only at h
    split at h
    · rename_i hd
      obtain ⟨hl, ht⟩ := cons_drop_len hd
      cases h; omega
    · rename_i t hd
      obtain ⟨hl, ht⟩ := cons_drop_len hd
      split at h
      · cases h
      · have := arrGo_le hP f _ _ _ _ _ h
        rw [List.length_drop] at this
        have := wsN_le t
        omega
    · cases h
theorem arrP_le {P : List Nat → Res J} (hP : PLe P) {r : List Nat} {xs : List J} {n : Nat} (h : arrP P r = .ok xs n) : n ≤ r.length := by
  unfold arrP at h
  split at h
  · rename_i hd
    obtain ⟨hl, ht⟩ := cons_drop_len hd
    cases h; omega
  · cases h
  · have := arrGo_le hP _ _ _ _ _ _ h
    rw [List.length_drop] at this
    have := wsN_le r
    omega
def SLe (SP : List Nat → Res (List Nat)) : Prop := ∀ r x n, SP r = .ok x n → n ≤ r.length + 1
theorem strP_le' (st : Bool) : SLe (strP st) := fun _ _ _ h => strP_le h
theorem objGo_le {P : List Nat → Res J} (hP : PLe P) {SP : List Nat → Res (List Nat)} (hS : SLe SP) : ∀ (f : Nat) (r : List Nat) (k : Nat) (acc xs : List (List Nat × J)) (n : Nat), r ≠ [] → objGo SP P f r k acc = .ok xs n → n ≤ k + r.length
  | 0, _, _, _, _, _, _, h => by cases h
  | f + 1, r, k, acc, x, n, hne, h => by
    have hr : 1 ≤ r.length := by cases r with | nil => exact absurd rfl hne | cons a b => simp
    unfold objGo at h
    split at h
    · cases h
    rename_i key m hk
    have h1 := hS _ _ _ hk
    rw [List.length_drop] at h1
    simp only at h
    split at h
    · rename_i t hd
      obtain ⟨hl, ht⟩ := cons_drop_len hd
      rw [List.length_drop] at hl
      split at h
      · cases h
      rename_i v m2 hv
      have h2 := hP _ _ _ hv
      rw [List.length_drop] at h2
      have h3 := wsN_le t
      split at h
      · rename_i hd2
        obtain ⟨hl2, _⟩ := cons_drop_len hd2
        rw [List.length_drop] at hl2
        cases h; omega
      · rename_i u hd2
        obtain ⟨hl2, _⟩ := cons_drop_len hd2
        rw [List.length_drop] at hl2
        split at h
        · rename_i x hx
          have := objGo_le hP hS f _ _ _ _ _ (by simp) h
          have h5 := congrArg List.length hx
          rw [List.length_drop] at h5
          have := wsN_le u
          omega
        · cases h
        · cases h
      · cases h
    · cases h
theorem objP_le {P : List Nat → Res J} (hP : PLe P) {SP : List Nat → Res (List Nat)} (hS : SLe SP) {r : List Nat} {xs : List (List Nat × J)} {n : Nat} (h : objP SP P r = .ok xs n) : n ≤ r.length := by
  unfold objP at h
  split at h
  · rename_i hd
    obtain ⟨hl, ht⟩ := cons_drop_len hd
    cases h; omega
  · rename_i x hd
    have h5 := congrArg List.length hd
    rw [List.length_drop] at h5
    have := objGo_le hP hS _ _ _ _ _ _ (by simp) h
    have := wsN_le r
    omega
  · cases h
def PPo (P : List Nat → Res J) : Prop := ∀ r j k, P r = .ok j k → (post j).length ≤ k
theorem posts_app' : ∀ (a b : List J), (posts (a ++ b)).length = (posts a).length + (posts b).length
  | [], b => by rw [List.nil_append, posts]; simp
  | j :: a, b => by rw [List.cons_append, posts, posts, List.length_append, List.length_append, posts_app' a b]; omega
theorem postp_app' : ∀ (a b : List (List Nat × J)), (postp (a ++ b)).length = (postp a).length + (postp b).length
  | [], b => by rw [List.nil_append, postp]; simp
  | (n, j) :: a, b => by rw [List.cons_append, postp, postp, List.length_append, List.length_append, postp_app' a b]; omega
theorem posts_one {j : J} : (posts [j]).length = (post j).length := by rw [posts, posts, List.append_nil]
theorem postp_one {n : List Nat} {j : J} : (postp [(n, j)]).length = (post j).length := by rw [postp, postp, List.append_nil]
theorem arrGo_po {P : List Nat → Res J} (hP : PPo P) : ∀ (f : Nat) (r : List Nat) (k : Nat) (acc xs : List J) (n : Nat), arrGo P f r k acc = .ok xs n → (posts xs).length + k ≤ (posts acc).length + n
  | 0, _, _, _, _, _, h => by cases h
  | f + 1, r, k, acc, x, n, h => by
    unfold arrGo at h
    split at h
    · cases h
    rename_i v m hv
    have h1 := hP _ _ _ hv
    have h2 := posts_app' acc [v]
    rw [posts_one] at h2
    simp only at h
    split at h
    · cases h; omega
    · split at h
      · cases h
      · have := arrGo_po hP f _ _ _ _ _ h
        omega
    · cases h
theorem arrP_po {P : List Nat → Res J} (hP : PPo P) {r : List Nat} {xs : List J} {n : Nat} (h : arrP P r = .ok xs n) : (posts xs).length ≤ n := by
  unfold arrP at h
  split at h
  · cases h; rw [posts]; simp
  · cases h
  · have := arrGo_po hP _ _ _ _ _ _ h
    rw [posts] at this
    simp only [List.length_nil] at this; omega
theorem objGo_po {P : List Nat → Res J} (hP : PPo P) {SP : List Nat → Res (List Nat)} : ∀ (f : Nat) (r : List Nat) (k : Nat) (acc xs : List (List Nat × J)) (n : Nat), objGo SP P f r k acc = .ok xs n → (postp xs).length + k ≤ (postp acc).length + n
  | 0, _, _, _, _, _, h => by cases h
  | f + 1, r, k, acc, x, n, h => by
    unfold objGo at h
    split at h
    · cases h
    rename_i key m hk
    simp only at h
    split at h
    · rename_i t hd
      split at h
      · cases h
      rename_i v m2 hv
      have h1 := hP _ _ _ hv
      have h2 := postp_app' acc [(key, v)]
      rw [postp_one] at h2
      split at h
      · cases h; omega
      · split at h
        · have := objGo_po hP f _ _ _ _ _ h
          omega
        · cases h
        · cases h
      · cases h
    · cases h
theorem objP_po {P : List Nat → Res J} (hP : PPo P) {SP : List Nat → Res (List Nat)} {r : List Nat} {xs : List (List Nat × J)} {n : Nat} (h : objP SP P r = .ok xs n) : (postp xs).length ≤ n := by
  unfold objP at h
  split at h
  · cases h; rw [postp]; simp
  · have := objGo_po hP _ _ _ _ _ _ h
    rw [postp] at this
    simp only [List.length_nil] at this; omega
  · cases h
theorem sh_ok {α β : Type} {f : α → β} {d k : Nat} {b : β} {r : Res α} (h : r.sh f d = .ok b k) : ∃ a m, r = .ok a m ∧ b = f a ∧ k = d + m := by
  cases r with
  | ok a m => cases h; exact ⟨a, m, rfl, rfl, rfl⟩
  | err m p => cases h
theorem parse_le {SP : List Nat → Res (List Nat)} (hS : SLe SP) : ∀ d, PLe (parse SP d) := by
  intro d
  induction d with
  | zero =>
    intro r j k h
    unfold parse at h
    split at h
    · cases h
    rename_i c t
    simp only at h
    repeat' split at h
    all_goals first | cases h | skip
    · obtain ⟨a, m, e1, _, rfl⟩ := sh_ok h
      have := hS _ _ _ e1
      simp only [List.length_cons]; omega
    · rename_i h4
      have := congrArg List.length h4
      simp only [List.length_take, List.length_cons, List.length_nil] at this ⊢; omega
    · rename_i h4
      have := congrArg List.length h4
      simp only [List.length_take, List.length_cons, List.length_nil] at this ⊢; omega
    · rename_i h4
      have := congrArg List.length h4
      simp only [List.length_take, List.length_cons, List.length_nil] at this ⊢; omega
    · unfold numP at h
      split at h
      · cases h
      · rename_i hx
        cases h
        exact (numX_le hx).1
  | succ d ih =>
    intro r j k h
    unfold parse at h
    split at h
    · cases h
    rename_i c t
    simp only at h
    repeat' split at h
    all_goals first | cases h | skip
    · obtain ⟨a, m, e1, _, rfl⟩ := sh_ok h
      have := hS _ _ _ e1
      simp only [List.length_cons]; omega
    · obtain ⟨a, m, e1, _, rfl⟩ := sh_ok h
      have := objP_le ih hS e1
      simp only [List.length_cons]; omega
    · obtain ⟨a, m, e1, _, rfl⟩ := sh_ok h
      have := arrP_le ih e1
      simp only [List.length_cons]; omega
    · rename_i h4
      have := congrArg List.length h4
      simp only [List.length_take, List.length_cons, List.length_nil] at this ⊢; omega
    · rename_i h4
      have := congrArg List.length h4
      simp only [List.length_take, List.length_cons, List.length_nil] at this ⊢; omega
    · rename_i h4
      have := congrArg List.length h4
      simp only [List.length_take, List.length_cons, List.length_nil] at this ⊢; omega
    · unfold numP at h
      split at h
      · cases h
      · rename_i hx
        cases h
        exact (numX_le hx).1
theorem numP_po {r : List Nat} {j : J} {k : Nat} (h : numP r = .ok j k) : (post j).length ≤ k := by
  unfold numP at h
  split at h
  · cases h
  · rename_i hx
    have := (numX_le hx).2
    cases h
    split
    · rw [post]; simp; omega
    · rw [post]; simp; omega
theorem parse_po {SP : List Nat → Res (List Nat)} : ∀ d, PPo (parse SP d) := by
  intro d
  induction d with
  | zero =>
    intro r j k h
    unfold parse at h
    split at h
    · cases h
    rename_i c t
    simp only at h
    repeat' split at h
    all_goals first | (cases h; rw [post]; exact Nat.zero_le _) | cases h | skip
    · obtain ⟨a, m, e1, rfl, rfl⟩ := sh_ok h
      rw [post]; exact Nat.zero_le _
    · exact numP_po h
  | succ d ih =>
    intro r j k h
    unfold parse at h
    split at h
    · cases h
    rename_i c t
    simp only at h
    repeat' split at h
    all_goals first | (cases h; rw [post]; exact Nat.zero_le _) | cases h | skip
    · obtain ⟨a, m, e1, rfl, rfl⟩ := sh_ok h
      rw [post]; exact Nat.zero_le _
    · obtain ⟨a, m, e1, rfl, rfl⟩ := sh_ok h
      have := objP_po ih e1
      rw [post, List.length_append, List.length_singleton]; omega
    · obtain ⟨a, m, e1, rfl, rfl⟩ := sh_ok h
      have := arrP_po ih e1
      rw [post, List.length_append, List.length_singleton]; omega
    · exact numP_po h
theorem parse_post {SP : List Nat → Res (List Nat)} {d k : Nat} {r : List Nat} {j : J} (h : parse SP d r = .ok j k) : (post j).length ≤ k := parse_po d _ _ _ h
end Mine
set_option maxRecDepth 10000
namespace Mine
open PySem PySem.Calls PyProof.Rows PySem.W

def ScOk (S : Sx) (h : HS) (st : Bool) (N d b : Nat) (s : List Nat) : Prop := ∀ (H : AH) (e : Nat) (log : List J) (P : List Nat), RdC h st b H → h.L P H log → Bd P H → e ≤ s.length → br (s.drop e) ≤ d → Fok h s e → LogB log (s.length - e) →
  Calls S N (.rr (b + 10)) [.ss s, .ii e] H (OkQ h P H e log (parse (strP st) d (s.drop e))) (ErQ h s H e (parse (strP st) d (s.drop e)))

def wsV : List Nat := [32, 9, 10, 13]
theorem wsN_none {s : List Nat} {e : Nat} (h : s[e]? = none) : wsN (s.drop e) = 0 := by
  rw [List.drop_of_length_le (ge_of_get h)]; rfl
theorem wsN_no {s : List Nat} {e c : Nat} (h : s[e]? = some c) (hc : isWs c = false) : wsN (s.drop e) = 0 := by
  rw [drop_cons h]; unfold wsN; rw [List.takeWhile_cons_of_neg (by simp [hc])]; rfl
theorem wsN_yes {s : List Nat} {e c : Nat} (h : s[e]? = some c) (hc : isWs c = true) : wsN (s.drop e) = 1 + wsN (s.drop (e + 1)) := by
  rw [drop_cons h]; unfold wsN; rw [List.takeWhile_cons_of_pos hc, List.length_cons]; omega
theorem prV_app (a b : List (Nm × V)) : prV (a ++ b) = prV a ++ prV b := by unfold prV; rw [List.map_append]
theorem calOf_app {S : Sx} {H : AH} {l : Nat} {xs : List V} (h : H[l]? = some (.list xs)) : calOf S (.rr l) [97, 112, 112, 101, 110, 100] H = some (.app l) := by
  unfold calOf
  simp only [h]
  rw [if_pos (by decide)]
theorem HS.Rs_app {h : HS} {P : List Nat} {H : AH} : ∀ {log : List J} {vs : List V} {js : List J} {w : V} {j : J}, h.Rs P H log vs js → h.R P H w (log ++ posts js) j → h.Rs P H log (vs ++ [w]) (js ++ [j])
  | _, [], [], _, _, _, r => ⟨by rw [posts, List.append_nil] at r; exact r, trivial⟩
  | _, _ :: _, _ :: _, _, _, ⟨a, b⟩, r => ⟨a, HS.Rs_app b (by rw [posts, ← List.append_assoc] at r; exact r)⟩
  | _, [], _ :: _, _, _, x, _ => x.elim
  | _, _ :: _, [], _, _, x, _ => x.elim
theorem HS.Rs_imp {h : HS} {P P' : List Nat} {H H' : AH} (k : ∀ v log j, h.R P H v log j → h.R P' H' v log j) : ∀ {log : List J} {vs : List V} {js : List J}, h.Rs P H log vs js → h.Rs P' H' log vs js
  | _, [], [], _ => trivial
  | _, _ :: _, _ :: _, ⟨a, b⟩ => ⟨k _ _ _ a, HS.Rs_imp k b⟩
  | _, [], _ :: _, x => x.elim
  | _, _ :: _, [], x => x.elim
theorem HS.Rs_len {h : HS} {P : List Nat} {H : AH} : ∀ {log : List J} {vs : List V} {js : List J}, h.Rs P H log vs js → vs.length = js.length
  | _, [], [], _ => rfl
  | _, _ :: _, _ :: _, ⟨_, b⟩ => by rw [List.length_cons, List.length_cons, HS.Rs_len b]
  | _, [], _ :: _, x => x.elim
  | _, _ :: _, [], x => x.elim
theorem isWs_in' {c : Nat} : wsV.contains c = isWs c := isWs_in
theorem dec1 {p : Nat} : ((p + 1 : Nat) : Int) - 1 = (p : Int) := by omega

/-- what follows a value of an array -/
def arrTl (P : List Nat → Res J) (f : Nat) (r : List Nat) (k n : Nat) (js : List J) : Res (List J) := match r.drop (n + wsN (r.drop n)) with
  | 93 :: _ => .ok js (k + n + wsN (r.drop n) + 1)
  | 44 :: t => (match t.drop (wsN t) with
    | 93 :: _ => .err mTrailArr (k + n + wsN (r.drop n))
    | _ => arrGo P f (t.drop (wsN t)) (k + n + wsN (r.drop n) + 1 + wsN t) js)
  | _ => .err mCommaArr (k + n + wsN (r.drop n))
theorem arrGo_ok {P : List Nat → Res J} {f k n : Nat} {r : List Nat} {js : List J} {j : J} (h : P r = .ok j n) : arrGo P (f + 1) r k js = arrTl P f r k n (js ++ [j]) := by
  rw [arrGo, h]; rfl
section
variable {S : Sx} {h : HS} {n0 N d b e : Nat} {st : Bool} {s : List Nat} {H : AH} {P : List Nat} {log : List J}
theorem ErQ.new' {α : Type} {res : Res α} {m : List Nat} {p : Nat} {H1 : AH} (c : Chg h.X H H1) (hres : res = .err m p) : ErQ h s H e res H1.length (H1 ++ errO m s ((e + p : Nat) : Int) none H1.length false) := ⟨m, p, hres, c.trans .app, .new⟩
theorem Chg.set' {Y : Nat → Prop} {H H' : AH} {l : Nat} {o : O} (c : Chg Y H H') (hl : H.length ≤ l) : Chg Y H (H'.set l o) := ⟨by rw [List.length_set]; exact c.1, fun i o' h n => by
  rw [List.getElem?_set_ne]
  · exact c.2 i o' h n
  · have := (List.getElem?_eq_some_iff.mp h).1; omega⟩
/-- a gap in an array: the place and the sign there -/
theorem arr_gap (R : Rd S) (hs : Txt s) (he : e ≤ s.length) {M : Nat} {q : QS} {E : ES} {v0 v1 v2 v5 v6 v8 v9 : Option V} (hv5 : v5 = some (.ss wsV))
    (hq : q .nrm [v0, v1, v2, some (.ss s), some (.ii ((e + wsN (s.drop e) : Nat) : Int)), v5, v6, some (.ss (s[e + wsN (s.drop e)]?).toList), v8, v9] H) :
    ex S [] (.ifs (.cmp .In (.loc 7) (.loc 5))
  (.cons (.asg (.loc 4) (.call (.glob 11) (.cons (.loc 3) (.cons (.bin .Add (.loc 4) (.ii 1)) .nil))))
  (.cons (.asg (.loc 7) (.sl (.loc 3) (.some (.loc 4)) (.some (.bin .Add (.loc 4) (.ii 1)))))
  .nil))
  .nil) (M + 1) [v0, v1, v2, some (.ss s), some (.ii e), v5, v6, some (.ss (s[e]?).toList), v8, v9] H q E := by
  subst hv5
  have hl : s.length ≤ 1000000 := Nat.le_trans hs.1 (by decide)
  have hB := BIG_le hl
  have gg11 := R.gs 11 (by decide)
  simp_arith
  have yes : ∀ k : Nat, min (e + 1) s.length + wsN (s.drop (e + 1)) = k → (q .nrm [v0, v1, v2, some (.ss s), some (.ii ((k : Nat) : Int)), some (.ss wsV), v6, some (.ss (s[k]?).toList), v8, v9] H) →
      exs S [] (.cons (.asg (.loc 4) (.call (.glob 11) (.cons (.loc 3) (.cons (.bin .Add (.loc 4) (.ii 1)) .nil))))
  (.cons (.asg (.loc 7) (.sl (.loc 3) (.some (.loc 4)) (.some (.bin .Add (.loc 4) (.ii 1)))))
  .nil)) (M + 1) [v0, v1, v2, some (.ss s), some (.ii e), some (.ss wsV), v6, some (.ss (s[e]?).toList), v8, v9] H q E := by
    intro k hk hq
    rw [exs_cons_]
    simp_arith [glob_g gg11, nat1]
    refine ⟨by omega, ws_ok R hl ?_⟩
    simp_arith
    rw [exs_cons_]
    unfold wsN at hk
    rw [hk]
    simp_arith [hB, nat1, pyS_nat, sub1, take1, exs_nil_]
    exact hq
  cases hc : s[e]? with
  | none =>
    rw [wsN_none hc, Nat.add_zero, hc] at hq
    simp_arith [ot_none, strIn_nil]
    rw [hc] at yes
    have hge := ge_of_get hc
    refine yes e (by rw [List.drop_of_length_le (by omega)]; show min (e + 1) s.length + 0 = e; omega) ?_
    rw [hc]; exact hq
  | some c =>
    have hlt := lt_of_get hc
    simp_arith [ot_some, strIn_one, isWs_in']
    cases hw : isWs c
    · rw [wsN_no hc hw, Nat.add_zero, hc] at hq
      simp_arith [exs_nil_]
      exact hq
    · rw [wsN_yes hc hw, ← Nat.add_assoc] at hq
      simp_arith
      rw [hc] at yes
      exact yes _ (by rw [Nat.min_eq_left (by omega)]) hq

set_option maxHeartbeats 2000000 in
theorem array_ok (R : Rd S) (K : HSok S h n0) (hs : Txt s) (hN : n0 ≤ N) (hN4 : 4 ≤ N) (sc : ScOk S h st N d b s) (hr : RdC h st b H) (hL : h.L P H log) (hP : Bd P H) (he : e ≤ s.length) (hbr : br (s.drop e) ≤ d) (hF : Fok h s e) (hO : LogB log (s.length - e)) :
    Calls S (N + 1) (.gg 14) [.tt [.ss s, .ii e], .rr (b + 10), h.ah] H (OkQ h P H e log ((arrP (parse (strP st) d) (s.drop e)).sh .arr 0)) (ErQ h s H e (arrP (parse (strP st) d) (s.drop e))) := by
  refine calls_gg R.sv R.g_arr rfl (cw13 (R.fns 13 (by decide)) ?_)
  obtain ⟨M, rfl⟩ : ∃ M, N = M + 4 := ⟨N - 4, by omega⟩
  have hN0 : M + 4 ≠ 0 := by omega
  have hl : s.length ≤ 1000000 := Nat.le_trans hs.1 (by decide)
  have hB := BIG_le hl
  have b2 : 2 ≤ BIG := by unfold BIG; decide
  have gg3 := R.gs 3 (by decide)
  have gg6 := R.gs 6 (by decide)
  have gg11 := R.gs 11 (by decide)
  have hXl : ∀ i, h.X i → i < H.length := fun i x => K.X_lt hL x
  have nX : ¬ h.X H.length := fun x => Nat.lt_irrefl _ (hXl _ x)
  have nP : H.length ∉ P := fun x => Nat.lt_irrefl _ (hP _ x)
  -- the end: the hook, and what is told
  have kend : ∀ (H' : AH) (vs : List V) (js : List J) (k : Nat) (w7 w8 w9 : Option V) (Q : QS) (E : ES), H'[H.length]? = some (.list vs) → Chg h.X H H' → h.Rs (H.length :: P) H' log vs js → h.L (H.length :: P) H' (log ++ posts js) → LogB (log ++ posts js) 0 →
      (∀ w H'', Chg h.X H H'' → h.R P H'' w log (.arr js) → h.L P H'' (log ++ post (.arr js)) → Q .nrm [some (.tt [.ss s, .ii e]), some (.rr (b + 10)), some h.ah, some (.ss s), some (.ii k), some (.ss wsV), some w, w7, w8, w9] H'') →
      ex S [] (.ifs (.cmp .IsNot (.loc 2) .nn)
  (.cons (.asg (.loc 6) (.call (.loc 2) (.cons (.loc 6) .nil)))
  .nil)
  .nil) (M + 4) [some (.tt [.ss s, .ii e]), some (.rr (b + 10)), some h.ah, some (.ss s), some (.ii k), some (.ss wsV), some (.rr H.length), w7, w8, w9] H' Q E := by
    intro H' vs js k w7 w8 w9 Q E h1 h2 h3 h4 h5 hQ
    have h3' := HS.Rs_imp (P' := P) (fun v _ j r => K.R_sub (fun i hi => List.mem_cons_of_mem _ hi) r) h3
    have h4' := K.L_sub (P' := P) (fun i hi => List.mem_cons_of_mem _ hi) h4
    simp_arith
    refine ⟨K.gg.2.2.2.2, ?_⟩
    rw [post, ← List.append_assoc] at hQ
    by_cases ha : h.ah = .nn
    · rw [ha]
      simp_arith [isNn, exs_nil_]
      obtain ⟨r1, l1⟩ := K.arr_n ha h1 nP nX h3' h4'
      rw [← ha]
      exact hQ _ _ h2 r1 l1
    · rw [isNn_ne ha]
      simp_arith
      rw [exs_cons_]
      simp_arith [exs_nil_]
      refine ⟨hN0, ((K.arr_h ha h1 nP nX (hP.chg h2) h3' h5 h4').le hN K.nz).mono ?_ fun _ _ z => z.elim⟩
      rintro w H'' ⟨c1, r1, l1⟩
      exact hQ _ _ (h2.trans c1) r1 l1
  unfold b13
  rw [exs_cons_]
  simp_arith
  refine ⟨hN0, _, _, rfl, ?_⟩
  rw [exs_cons_]
  simp_arith [glob_s gg6]
  rw [exs_cons_]
  simp_arith [ev_lst]
  refine ⟨by simp, ?_⟩
  rw [exs_cons_]
  simp_arith [hB, nat1, pyS_nat, sub1, take1]
  rw [exs_cons_]
  refine arr_gap R hs he rfl ?_
  simp_arith
  have hw := wsN_le (s.drop e)
  rw [List.length_drop] at hw
  have hdw : (s.drop e).drop (wsN (s.drop e)) = s.drop (e + wsN (s.drop e)) := by rw [List.drop_drop]
  have hS1 : h.L (H.length :: P) (H ++ [.list []]) log := K.L_mono (H := H) .app (K.L_new (Nat.le_refl _) hL)
  rw [exs_cons_]
  simp_arith [tl_eq, tl_en]
  cases hc : s[e + wsN (s.drop e)]? with
  | none =>
    have hd : s.drop (e + wsN (s.drop e)) = [] := List.drop_of_length_le (ge_of_get hc)
    have hres : arrP (parse (strP st) d) (s.drop e) = .err mExpArr (wsN (s.drop e)) := by
      unfold arrP; rw [hdw, hd]
    rw [hres]
    simp_arith [show ((none : Option Nat) == some 93) = false from rfl]
    rw [exs_cons_]
    simp_arith [ot_none, eq_nn]
    rw [exs_cons_]
    simp_arith [glob_g gg3]
    refine ⟨hN0, hN0, raise3 R hl hs.2 (by decide) (by omega) ?_⟩
    exact ErQ.new' .app rfl
  | some c =>
    have hlt := lt_of_get hc
    have hd := drop_cons hc
    by_cases h93 : c = 93
    · subst h93
      have hres : arrP (parse (strP st) d) (s.drop e) = .ok [] (wsN (s.drop e) + 1) := by
        unfold arrP; rw [hdw, hd]; rfl
      rw [hres]
      simp_arith [beq_self_eq_true]
      rw [exs_cons_]
      refine kend (H ++ [.list []]) [] [] _ _ _ _ _ _ at0 .app trivial (by rw [posts, List.append_nil]; exact hS1) (by rw [posts, List.append_nil]; exact hO.le (Nat.zero_le _)) fun w H'' c1 r1 l1 => ?_
      simp_arith
      rw [exs_cons_]
      simp_arith [nat1]
      exact ⟨b2, _, _, w, rfl, by rw [Nat.zero_add, Nat.add_assoc], c1, r1, l1⟩
    · simp_arith [show ((some c : Option Nat) == some 93) = false by simp [h93]]
      rw [exs_cons_]
      simp_arith [ot_some, eq_cn, exs_nil_]
      -- the loop
      have hres : arrP (parse (strP st) d) (s.drop e) = arrGo (parse (strP st) d) ((s.drop e).length + 1) (s.drop (e + wsN (s.drop e))) (wsN (s.drop e)) [] := by
        unfold arrP
        rw [hdw, hd]
        split
        · rename_i hx; cases hx; exact absurd rfl h93
        · rename_i hx; cases hx
        · rfl
      rw [exs_cons_, ex_whl]
      refine ⟨fun m ρ H' => ∃ (k : Nat) (vs : List V) (js : List J) (w7 w8 w9 : Option V), ρ = [some (.tt [.ss s, .ii e]), some (.rr (b + 10)), some h.ah, some (.ss s), some (.ii ((e + k : Nat) : Int)), some (.ss wsV), some (.rr H.length), w7, w8, w9] ∧ e + k ≤ s.length ∧
        H'[H.length]? = some (.list vs) ∧ Chg h.X H H' ∧ h.Rs (H.length :: P) H' log vs js ∧ h.L (H.length :: P) H' (log ++ posts js) ∧ arrP (parse (strP st) d) (s.drop e) = arrGo (parse (strP st) d) m (s.drop (e + k)) k js ∧ (s.drop (e + k)).length < m ∧ vs.length ≤ k ∧ Fok h s (e + k) ∧ LogB (log ++ posts js) (s.length - (e + k)),
        ⟨(s.drop e).length + 1, wsN (s.drop e), [], [], _, _, _, rfl, by omega, at0, .app, trivial, by rw [posts, List.append_nil]; exact hS1, hres, by rw [List.length_drop, List.length_drop]; omega, Nat.zero_le _, hF.ws, by rw [posts, List.append_nil]; exact hO.le (by omega)⟩, ?_⟩
      clear hres
      rintro m ρ H' ⟨k, vs, js, w7, w8, w9, rfl, hk, hv, hch, hRs, hLs, hres, hm, hvk, hFk, hOk⟩
      simp_arith
      rw [exs_cons_]
      simp_arith
      have hr' := hr.chg hch
      have hP' : Bd (H.length :: P) H' := by
        intro p hp
        rcases List.mem_cons.mp hp with rfl | hp
        · exact (List.getElem?_eq_some_iff.mp hv).1
        · exact Nat.lt_of_lt_of_le (hP p hp) hch.1
      refine ⟨hN0, (sc H' (e + k) (log ++ posts js) (H.length :: P) hr' hLs hP' hk ?_ hFk hOk).mono ?_ ?_⟩
      · rw [← List.drop_drop]; exact Nat.le_trans (br_drop _ _) hbr
      · rintro v H2 ⟨j, n, w, hpv, rfl, hc2, hR2, hL2⟩
        have hn := parse_le (strP_le' st) d _ _ _ hpv
        rw [List.length_drop] at hn
        have hk2 : e + k + n ≤ s.length := by omega
        have hv2 := hc2.2 _ _ hv nX
        have hl2 : H.length < H2.length := (List.getElem?_eq_some_iff.mp hv2).1
        obtain ⟨f, rfl⟩ : ∃ f, m = f + 1 := ⟨m - 1, by omega⟩
        have hwl := wsN_le (s.drop (e + k + n))
        rw [List.length_drop] at hwl
        -- the heap with the value in the list
        have hch3 : Chg h.X H (H2.set H.length (.list (vs ++ [w]))) := (hch.trans hc2).set' (Nat.le_refl _)
        have hv3 : (H2.set H.length (.list (vs ++ [w])))[H.length]? = some (.list (vs ++ [w])) := by
          rw [List.getElem?_set_self hl2]
        have hset : Chg (fun i => h.X i ∨ i ∈ H.length :: P) H2 (H2.set H.length (.list (vs ++ [w]))) := .set (.inr (List.mem_cons_self ..))
        have hRs3 : h.Rs (H.length :: P) (H2.set H.length (.list (vs ++ [w]))) log (vs ++ [w]) (js ++ [j]) :=
          HS.Rs_app (HS.Rs_imp (fun v _ j r => K.R_mono ((hc2.imp fun i x => .inl x).trans hset) r) hRs) (K.R_mono hset hR2)
        have hLs3 : h.L (H.length :: P) (H2.set H.length (.list (vs ++ [w]))) (log ++ posts (js ++ [j])) := by
          rw [posts_app, posts, posts, List.append_nil, ← List.append_assoc]
          exact K.L_mono (.set (List.mem_cons_self ..)) hL2
        have hO3 : LogB (log ++ posts (js ++ [j])) (s.length - (e + k + n)) := by
          have hp := parse_post hpv
          unfold LogB at *
          rw [posts_app, posts, posts, List.append_nil]
          simp only [List.length_append] at *
          omega
        have hr3 : RdC h st b (H2.set H.length (.list (vs ++ [w]))) := hr.chg hch3
        -- what the array is then
        have hgo : arrP (parse (strP st) d) (s.drop e) = (match s.drop (e + k + n + wsN (s.drop (e + k + n))) with
            | 93 :: _ => .ok (js ++ [j]) (k + n + wsN (s.drop (e + k + n)) + 1)
            | 44 :: t => (match t.drop (wsN t) with
              | 93 :: _ => .err mTrailArr (k + n + wsN (s.drop (e + k + n)))
              | _ => arrGo (parse (strP st) d) f (t.drop (wsN t)) (k + n + wsN (s.drop (e + k + n)) + 1 + wsN t) (js ++ [j]))
            | _ => .err mCommaArr (k + n + wsN (s.drop (e + k + n)))) := by
          rw [hres, arrGo_ok hpv]
          unfold arrTl
          rw [List.drop_drop, List.drop_drop, ← Nat.add_assoc]
        revert hgo hwl
        generalize hq : wsN (s.drop (e + k + n)) = q
        intro hwl hgo
        simp_arith
        refine ⟨hN0, _, _, rfl, ?_⟩
        rw [exs_cons_]
        simp_arith
        refine ⟨.app H.length, calOf_app hv2, ?_⟩
        unfold calQ
        refine ⟨w, vs, rfl, hv2, by unfold BIG; have := hs.1; omega, ?_⟩
        try simp_arith
        rw [exs_cons_]
        simp_arith [hB, nat1, pyS_nat, sub1, take1]
        rw [exs_cons_]
        refine arr_gap R hs hk2 rfl ?_
        rw [hq]
        try simp_arith
        rw [exs_cons_]
        simp_arith [nat1]
        rw [exs_cons_]
        simp_arith [tl_eq, tl_ne]
        have hnc : ∀ c : Option Nat, s[e + k + n + q]? = c → c ≠ some 93 → c ≠ some 44 → arrP (parse (strP st) d) (s.drop e) = .err mCommaArr (k + n + q) := by
          intro c hc h9 h4
          rw [hgo]
          cases c with
          | none => rw [List.drop_of_length_le (ge_of_get hc)]
          | some c =>
            rw [drop_cons hc]
            split
            · rename_i hx; cases hx; exact absurd rfl h9
            · rename_i hx; cases hx; exact absurd rfl h4
            · rfl
        have hpos : e + k + n + q = e + (k + n + q) := by omega
        cases hc : s[e + k + n + q]? with
        | none =>
          have hb := hnc none hc (by simp) (by simp)
          simp_arith [show ((none : Option Nat) == some 93) = false from rfl, show ((none : Option Nat) != some 44) = true from rfl]
          rw [exs_cons_]
          simp_arith [tl_ne, ot_none, ne_nc, ne_nn, show (([] : List Nat) != [44]) = true from rfl]
          rw [exs_cons_]
          simp_arith [glob_g gg3, dec1]
          refine ⟨hN0, hN0, raise3 R hl hs.2 (by decide) (by omega) ?_⟩
          rw [hpos]
          exact ErQ.new' hch3 hb
        | some c =>
          have hlt := lt_of_get hc
          have hd := drop_cons hc
          by_cases h9 : c = 93
          · subst h9
            simp_arith [beq_self_eq_true]
            rw [exs_cons_]
            simp_arith
            rw [exs_cons_]
            refine kend _ (vs ++ [w]) (js ++ [j]) _ _ _ _ _ _ hv3 hch3 hRs3 hLs3 (hO3.le (Nat.zero_le _)) fun w' H'' c1 r1 l1 => ?_
            simp_arith
            rw [exs_cons_]
            simp_arith
            refine ⟨b2, _, k + n + q + 1, w', ?_, ?_, c1, r1, l1⟩
            · rw [hgo, hd]
              show Res.ok _ _ = Res.ok _ _
              rw [Nat.zero_add]
            · rw [hpos, Nat.add_assoc]
          by_cases h4 : c = 44
          · subst h4
            simp_arith [show ((some 44 : Option Nat) == some 93) = false from rfl]
            rw [exs_cons_]
            simp_arith [ot_some, ne_11, show ((44 : Nat) != 44) = false from rfl, exs_nil_]
            rw [exs_cons_]
            simp_arith [dec1]
            rw [exs_cons_]
            simp_arith [glob_g gg11]
            refine ⟨hN0, ws_ok R hl ?_⟩
            simp_arith
            rw [exs_cons_]
            have hmin : min (e + k + n + q + 1) s.length = e + k + n + q + 1 := by omega
            rw [hmin]
            have hw2 := wsN_le (s.drop (e + k + n + q + 1))
            rw [List.length_drop] at hw2
            rw [show (List.takeWhile isWs (s.drop (e + k + n + q + 1))).length = wsN (s.drop (e + k + n + q + 1)) from rfl]
            have hgo2 : arrP (parse (strP st) d) (s.drop e) = (match s.drop (e + k + n + q + 1 + wsN (s.drop (e + k + n + q + 1))) with
              | 93 :: _ => .err mTrailArr (k + n + q)
              | _ => arrGo (parse (strP st) d) f (s.drop (e + k + n + q + 1 + wsN (s.drop (e + k + n + q + 1)))) (k + n + q + 1 + wsN (s.drop (e + k + n + q + 1))) (js ++ [j])) := by
              rw [hgo, hd]
              simp only [List.drop_drop]
            have hF2 : Fok h s (e + k + n + q + 1 + wsN (s.drop (e + k + n + q + 1))) := (hFk.to (Vp.at hc (by decide))).ws
            revert hgo2 hw2 hF2
            generalize wsN (s.drop (e + k + n + q + 1)) = q2
            intro hw2 hgo2 hF2
            simp_arith [hB, nat1, pyS_nat, sub1, take1, tl_eq]
            by_cases hx : s[e + k + n + q + 1 + q2]? = some 93
            · rw [drop_cons hx] at hgo2
              simp_arith [hx, beq_self_eq_true]
              rw [exs_cons_]
              simp_arith [glob_g gg3]
              refine ⟨hN0, hN0, raise3 R hl hs.2 (by decide) (by omega) ?_⟩
              rw [hpos]
              exact ErQ.new' hch3 hgo2
            · simp_arith [show (s[e + k + n + q + 1 + q2]? == some 93) = false from beq_eq_false_iff_ne.mpr hx, exs_nil_]
              refine ⟨f, by omega, k + n + q + 1 + q2, vs ++ [w], js ++ [j], some (.ss [44]), some w, some (.ii ((e + k + n + q : Nat) : Int)), ?_, by omega, hv3, hch3, hRs3, hLs3, ?_, ?_, ?_, ?_, hO3.le (by omega)⟩
              · rw [show e + (k + n + q + 1 + q2) = e + k + n + q + 1 + q2 by omega]
              · rw [show e + (k + n + q + 1 + q2) = e + k + n + q + 1 + q2 by omega, hgo2]
                split
                · rename_i hy
                  have := get_drop hy
                  exact absurd this hx
                · rfl
              · rw [List.length_drop] at hm ⊢; omega
              · rw [List.length_append, List.length_singleton]; omega
              · rw [show e + (k + n + q + 1 + q2) = e + k + n + q + 1 + q2 by omega]; exact hF2
          · have hb := hnc (some c) hc (by simp [h9]) (by simp [h4])
            simp_arith [show ((some c : Option Nat) == some 93) = false by simp [h9]]
            rw [exs_cons_]
            simp_arith [ot_some, ne_11, show (c != 44) = true by simp [h4]]
            rw [exs_cons_]
            simp_arith [glob_g gg3, dec1]
            refine ⟨hN0, hN0, raise3 R hl hs.2 (by decide) (by omega) ?_⟩
            rw [hpos]
            exact ErQ.new' hch3 hb
      · rintro i H2 ⟨mm, p, hpv, hc2, he2⟩
        obtain ⟨f, rfl⟩ : ∃ f, m = f + 1 := ⟨m - 1, by omega⟩
        refine ⟨mm, k + p, ?_, hch.trans hc2, by rw [← Nat.add_assoc]; exact he2⟩
        rw [hres, arrGo, hpv]
end
end Mine
set_option maxRecDepth 10000
namespace Mine
open PySem PySem.Calls PyProof.Rows PySem.W

/-- the mark of a text's beginning -/
def bomN (r : List Nat) : Nat := if r[0]? = some 65279 then 1 else if r.take 3 = [239, 187, 191] then 3 else 0
/-- where a reading begins -/
def begN (r : List Nat) : Nat := bomN r + wsN (r.drop (bomN r))
def rawP (st : Bool) (d : Nat) (r : List Nat) : Res J := (parse (strP st) d (r.drop (begN r))).sh id (begN r)
structure RdObj (h : HS) (st : Bool) (b r : Nat) (H : AH) : Prop where
  c : RdC h st b H
  o : ∃ dx es, H[r]? = some (.inst 16 dx) ∧ H[dx]? = some (.ns es) ∧ es.lookup n_scan_once = some (.rr (b + 11)) ∧ es.lookup n_from_text = none ∧ es.lookup n_raw_from_text = none ∧ ¬ h.X r ∧ ¬ h.X dx
theorem RdObj.chg {h : HS} {st : Bool} {b r : Nat} {H H' : AH} (x : RdObj h st b r H) (c : Chg h.X H H') : RdObj h st b r H' :=
  let ⟨dx, es, h1, h2, h3, h4, h5, h6, h7⟩ := x.o
  ⟨x.c.chg c, dx, es, c.2 _ _ h1 h6, c.2 _ _ h2 h7, h3, h4, h5, h6, h7⟩
theorem getk {H l : AH} {k : Nat} : (H ++ l)[H.length + k]? = l[k]? := by rw [List.getElem?_append_right (by omega), Nat.add_sub_cancel_left]
theorem setk {H l : AH} {k : Nat} {o : O} : (H ++ l).set (H.length + k) o = H ++ l.set k o := by rw [List.set_append_right _ _ (by omega), Nat.add_sub_cancel_left]
theorem bomN_le {r : List Nat} : bomN r ≤ r.length := by
  unfold bomN
  split
  · rename_i h
    cases r with
    | nil => cases h
    | cons a t => simp
  · split
    · rename_i h
      have := congrArg List.length h
      simp only [List.length_take, List.length_cons, List.length_nil] at this; omega
    · omega
theorem begN_le {r : List Nat} : begN r ≤ r.length := by
  unfold begN
  have h1 := bomN_le (r := r)
  have h2 := wsN_le (r.drop (bomN r))
  rw [List.length_drop] at h2; omega
theorem intG {a b : Nat} : (decide ((b : Int) < (a : Int))) = decide (b < a) := by rw [Bool.eq_iff_iff]; simp
theorem neE {a b : Nat} : ((a : Int) != (b : Int)) = (a != b) := by unfold bne; rw [natE]
theorem lt0 {a : Nat} : decide ((a : Int) < 0) = false := by simp
theorem OkQ.sh {h : HS} {P : List Nat} {H : AH} {e d : Nat} {log : List J} {r : Res J} {v : V} {H' : AH} (x : OkQ h P H (e + d) log r v H') : OkQ h P H e log (r.sh id d) v H' := by
  obtain ⟨j, k, w, rfl, rfl, c, r1, l1⟩ := x
  exact ⟨j, d + k, w, rfl, by rw [Nat.add_assoc], c, r1, l1⟩
theorem ErQ.sh {α β : Type} {h : HS} {s : List Nat} {H : AH} {e d : Nat} {r : Res α} {f : α → β} {i : Nat} {H' : AH} (x : ErQ h s H (e + d) r i H') : ErQ h s H e (r.sh f d) i H' := by
  obtain ⟨m, p, rfl, c, er⟩ := x
  exact ⟨m, d + p, rfl, c, by rw [← Nat.add_assoc]; exact er⟩

section
variable {S : Sx} {h : HS} {n0 N d b e r : Nat} {st : Bool} {s : List Nat} {H : AH} {P : List Nat} {log : List J} {Q : PV} {E : PE}
theorem scan_once_ok (R : Rd S) (hN4 : 4 ≤ N) (sc : ScOk S h st N d b s) (hr : RdC h st b H) (hL : h.L P H log) (hP : Bd P H) (he : e ≤ s.length) (hbr : br (s.drop e) ≤ d) (hF : Fok h s e) (hO : LogB log (s.length - e)) :
    Calls S (N + 1) (.rr (b + 11)) [.ss s, .ii e] H (OkQ h P H e log (parse (strP st) d (s.drop e))) (ErQ h s H e (parse (strP st) d (s.drop e))) := by
  refine calls_fn R.sv (hr.at_ 11 _ rfl) (by rw [R.fns 7 (by decide)]; rfl) (cw7 (R.fns 7 (by decide)) ?_)
  have k0 : ∀ {ρ E t Q}, ev S N ρ [b] E (.cel 0) t H Q = fin t Q (.rr (b + 10)) H := fun {ρ E t Q} => ev_cel' rfl (hr.at_ 0 _ rfl)
  unfold b7
  rw [exs_cons_]
  simp_arith [lt0, exs_nil_]
  rw [exs_cons_]
  simp_arith [k0]
  exact ⟨by omega, (sc H e log P hr hL hP he hbr hF hO).mono (fun _ _ z => z) fun _ _ z => z⟩

theorem raw_neg (R : Rd S) (hs : Txt s) {i : Int} (hi : i < 0) (hi2 : i.natAbs ≤ 1000000000) (q : E H.length (H ++ errO mExpValue s i none H.length false)) (ro : V) :
    Calls S (N + 5) (.gg 102) [ro, .ss s, .ii i] H Q E := by
  refine calls_gg R.sv R.g_raw2 rfl (cw16 (R.fns 16 (by decide)) ?_)
  have hl : s.length ≤ 1000000 := Nat.le_trans hs.1 (by decide)
  have gg3 := R.gs 3 (by decide)
  unfold b16
  rw [exs_cons_]
  simp_arith [decide_eq_true hi]
  rw [exs_cons_]
  simp_arith [glob_g gg3]
  exact ⟨by omega, by omega, raise3 R hl hs.2 (by decide) hi2 q⟩

theorem raw_body (R : Rd S) (hN4 : 4 ≤ N) (hs : Txt s) (sc : ScOk S h st N d b s) (hr : RdObj h st b r H) (hL : h.L P H log) (hP : Bd P H) (he : e ≤ s.length) (hbr : br (s.drop e) ≤ d) (hF : Fok h s (e + begN (s.drop e))) (hO : LogB log (s.length - e)) :
    callW S (N + 1) 16 [] [.rr r, .ss s, .ii e] H (OkQ h P H e log (rawP st d (s.drop e))) (ErQ h s H e (rawP st d (s.drop e))) := by
  refine cw16 (R.fns 16 (by decide)) ?_
  have hl : s.length ≤ 1000000 := Nat.le_trans hs.1 (by decide)
  have hB := BIG_le hl
  have gg11 := R.gs 11 (by decide)
  obtain ⟨dx, es, o1, o2, o3, o4, o5, o6, o7⟩ := hr.o
  have aosc : S.ao 16 n_scan_once = true := R.ao16 _ (by decide)
  have hcal : calOf S (.rr r) n_scan_once H = some (.val (.rr (b + 11)) []) := by
    unfold calOf
    simp only [o1, o2, o3]
    have he : S.isE 16 = false := by
      cases hx : S.isE 16 with
      | false => rfl
      | true => have := (R.isE 16).mp hx; cases this
    rw [if_pos (by rw [aosc, he]; rfl)]
  have hbl := bomN_le (r := s.drop e)
  rw [List.length_drop] at hbl
  -- behind the mark
  have key : ∀ (k : Nat) (w3 : Option V), k = bomN (s.drop e) → exs S [] b16.tl.tl (N + 1) [some (.rr r), some (.ss s), some (.ii ((e + k : Nat) : Int)), w3] H (endK (OkQ h P H e log (rawP st d (s.drop e)))) (fun _ i H' => ErQ h s H e (rawP st d (s.drop e)) i H') := by
    intro k w3 hk
    unfold b16
    simp only [SL.tl]
    rw [exs_cons_]
    simp_arith [glob_g gg11]
    refine ⟨_, hcal, by omega, ws_ok R hl ?_⟩
    simp_arith
    have hw := wsN_le (s.drop (e + k))
    rw [List.length_drop] at hw
    have hb : begN (s.drop e) = k + wsN (s.drop (e + k)) := by unfold begN; rw [← hk, List.drop_drop]
    have e1 : min (e + k) s.length + (List.takeWhile isWs (s.drop (e + k))).length = e + begN (s.drop e) := by
      rw [hb]; unfold wsN; rw [Nat.min_eq_left (by omega)]; omega
    rw [e1]
    unfold calQ
    have hz : e + begN (s.drop e) ≤ s.length := by omega
    refine ⟨by omega, (scan_once_ok R hN4 sc hr.c hL hP hz (by rw [← List.drop_drop]; exact Nat.le_trans (br_drop _ _) hbr) hF (hO.le (by omega))).mono (fun v H' z => ?_) fun i H' z => ?_⟩
    · rw [← List.drop_drop] at z
      exact z.sh
    · rw [← List.drop_drop] at z
      exact z.sh
  unfold b16
  rw [exs_cons_]
  simp_arith [lt0, exs_nil_]
  rw [exs_cons_]
  simp_arith [hB, intG]
  cases hc : s[e]? with
  | none =>
    have hge := ge_of_get hc
    rw [decide_eq_false (by omega)]
    simp_arith [exs_nil_]
    exact key 0 _ (by unfold bomN; rw [List.drop_of_length_le hge]; rfl)
  | some c =>
    have hlt := lt_of_get hc
    have hd := drop_cons hc
    rw [decide_eq_true (by omega)]
    simp_arith
    rw [exs_cons_]
    simp_arith
    refine ⟨fit_nat (by omega), c, by rw [pyI_nat]; exact hc, ?_⟩
    try simp_arith
    rw [exs_cons_]
    rw [show (65279 : Int) = ((65279 : Nat) : Int) from rfl, show (239 : Int) = ((239 : Nat) : Int) from rfl]
    simp_arith [natE]
    by_cases h1 : c = 65279
    · subst h1
      simp_arith [beq_self_eq_true]
      rw [exs_cons_]
      simp_arith [nat1, exs_nil_]
      exact key 1 _ (by unfold bomN; rw [hd]; rfl)
    · rw [show (c == 65279) = false from beq_eq_false_iff_ne.mpr h1]
      simp_arith
      rw [exs_cons_]
      simp_arith [natE, hB, nat3, pyS_nat, sub3]
      by_cases h3 : (s.drop e).take 3 = [239, 187, 191]
      · have := take_hd hd h3 239 rfl
        subst this
        rw [h3]
        simp_arith [beq_self_eq_true]
        rw [exs_cons_]
        simp_arith [nat3, exs_nil_]
        exact key 3 _ (by unfold bomN; rw [if_neg (by rw [hd]; simp), if_pos h3])
      · rw [show ((s.drop e).take 3 == [239, 187, 191]) = false from beq_eq_false_iff_ne.mpr h3]
        simp_arith [exs_nil_]
        refine ite2 ?_
        exact key 0 _ (by unfold bomN; rw [if_neg (by rw [hd]; simpa using h1), if_neg h3])
theorem raw_ok (R : Rd S) (hN4 : 4 ≤ N) (hs : Txt s) (sc : ScOk S h st N d b s) (hr : RdObj h st b r H) (hL : h.L P H log) (hP : Bd P H) (he : e ≤ s.length) (hbr : br (s.drop e) ≤ d) (hF : Fok h s (e + begN (s.drop e))) (hO : LogB log (s.length - e)) :
    Calls S (N + 2) (.gg 102) [.rr r, .ss s, .ii e] H (OkQ h P H e log (rawP st d (s.drop e))) (ErQ h s H e (rawP st d (s.drop e))) :=
  calls_gg R.sv R.g_raw2 rfl (raw_body R hN4 hs sc hr hL hP he hbr hF hO)

/-- from_text: the value of the whole, or what is wrong -/
def FromQ (h : HS) (P : List Nat) (H : AH) (log : List J) (s : List Nat) (res : Res J) : PV := fun w H' => ∃ j k, res = .ok j k ∧ k + wsN (s.drop k) = s.length ∧ Chg h.X H H' ∧ h.R P H' w log j ∧ h.L P H' (log ++ post j)
def FromE (h : HS) (H : AH) (s : List Nat) (res : Res J) : PE := fun i H' => Chg h.X H H' ∧ ((∃ m p, res = .err m p ∧ ErrAt H' i m s (p : Nat) none) ∨ ∃ j k, res = .ok j k ∧ k + wsN (s.drop k) ≠ s.length ∧ ErrAt H' i mExtra s ((k + wsN (s.drop k) : Nat) : Int) (some (s.length : Nat)))
theorem rawP_le {j : J} {k : Nat} (x : rawP st d s = .ok j k) : k ≤ s.length := by
  unfold rawP at x
  obtain ⟨a, m, e1, _, rfl⟩ := sh_ok x
  have := parse_le (strP_le' st) d _ _ _ e1
  have := begN_le (r := s)
  rw [List.length_drop] at *; omega
theorem from_ok (R : Rd S) (hN4 : 4 ≤ N) (hs : Txt s) (sc : ScOk S h st N d b s) (hr : RdObj h st b r H) (hL : h.L P H log) (hP : Bd P H) (hbr : br s ≤ d) (hF : Fok h s (begN s)) (hO : LogB log s.length) :
    Calls S (N + 3) (.gg 101) [.rr r, .ss s] H (FromQ h P H log s (rawP st d s)) (FromE h H s (rawP st d s)) := by
  refine calls_gg R.sv R.g_from rfl (cw15 (R.fns 15 (by decide)) ?_)
  have hl : s.length ≤ 1000000 := Nat.le_trans hs.1 (by decide)
  have hB := BIG_le hl
  have gg11 := R.gs 11 (by decide)
  have gg3 := R.gs 3 (by decide)
  obtain ⟨M, rfl⟩ : ∃ M, N = M + 4 := ⟨N - 4, by omega⟩
  obtain ⟨dx, es, o1, o2, o3, o4, o5, o6, o7⟩ := hr.o
  have hcal : calOf S (.rr r) n_raw_from_text H = some (.val (.gg 102) [.rr r]) := by
    unfold calOf
    simp only [o1, o2, o5, R.cm2]
  unfold b15
  rw [exs_cons_]
  simp_arith
  refine ⟨_, hcal, ?_⟩
  unfold calQ
  refine ⟨by omega, (calls_gg R.sv R.g_raw1 rfl (raw_body (e := 0) R hN4 hs sc hr hL hP (Nat.zero_le _) hbr (by rw [Nat.zero_add]; exact hF) hO)).mono ?_ ?_⟩
  · rintro v H' ⟨j, k, w, hp, rfl, c1, r1, l1⟩
    rw [List.drop_zero] at hp
    have hk := rawP_le hp
    simp_arith
    refine ⟨by omega, _, _, rfl, ?_⟩
    rw [exs_cons_]
    simp_arith [glob_g gg11]
    refine ⟨by omega, ws_ok R hl ?_⟩
    simp_arith
    have hw := wsN_le (s.drop k)
    rw [List.length_drop] at hw
    have e1 : min (0 + k) s.length + (List.takeWhile isWs (s.drop (0 + k))).length = k + wsN (s.drop k) := by
      unfold wsN; rw [Nat.zero_add, Nat.min_eq_left (by omega)]
    rw [e1]
    rw [exs_cons_]
    simp_arith [hB, neE]
    by_cases hz : k + wsN (s.drop k) = s.length
    · rw [show (k + wsN (s.drop k) != s.length) = false by simp [hz]]
      simp_arith [exs_nil_]
      rw [exs_cons_]
      simp_arith
      exact ⟨j, k, hp, hz, c1, r1, l1⟩
    · rw [show (k + wsN (s.drop k) != s.length) = true by simp [hz]]
      simp_arith
      rw [exs_cons_]
      simp_arith [glob_g gg3, hB]
      refine ⟨by omega, by omega, raise4 (n := M + 2) R hl hs.2 (by decide) (by omega) (by omega) ?_⟩
      exact ⟨c1.trans .app, .inr ⟨j, k, hp, hz, .new⟩⟩
  · rintro i H' ⟨m, p, hp, c1, er⟩
    rw [List.drop_zero] at hp
    rw [Nat.zero_add] at er
    exact ⟨c1, .inl ⟨m, p, hp, er⟩⟩
end
end Mine
set_option maxRecDepth 10000
namespace Mine
open PySem PySem.Calls PyProof.Rows PySem.W

section
variable {S : Sx} {h : HS} {N b e r dx : Nat} {st : Bool} {H : AH} {Q : PV} {E : PE}
theorem attr_inst (R : Rd S) {a : Nm} {v : V} {es : List (Nm × V)} {l : AH} (ha : a ∈ objAttrs) (h1 : H[r]? = some (.inst 16 dx)) (h2 : H[dx]? = some (.ns es)) (h3 : es.lookup a = some v) (q : Q v (H ++ l)) : attrQ S (.rr r) a (H ++ l) Q := by
  have l1 : (H ++ l)[r]? = some (.inst 16 dx) := by rw [List.getElem?_append_left (List.getElem?_eq_some_iff.mp h1).1]; exact h1
  have l2 : (H ++ l)[dx]? = some (.ns es) := by rw [List.getElem?_append_left (List.getElem?_eq_some_iff.mp h2).1]; exact h2
  unfold attrQ
  simp only [l1]
  exact ⟨R.ao16 _ ha, es, v, l2, h3, q⟩
theorem seta_inst (R : Rd S) {a : Nm} {v : V} {es : List (Nm × V)} {l : AH} {K : AH → Prop} (ha : a ∈ objAttrs) (hz : es.length < 500) (q : K (H ++ .ns ((a, v) :: es) :: .inst 16 H.length :: l)) : setaQ S (.rr (H.length + 1)) a v (H ++ .ns es :: .inst 16 H.length :: l) K := by
  unfold setaQ
  simp only [at1]
  refine ⟨R.ao16 _ ha, ?_, es, at0, hz, ?_⟩
  · cases hx : S.isE 16 with
    | false => rfl
    | true => have := (R.isE 16).mp hx; cases this
  · rw [set0]; exact q
theorem own10 (H : AH) : ([H.length + 0, H.length + 1, H.length + 2, H.length + 3, H.length + 4, H.length + 5, H.length + 6, H.length + 7, H.length + 8, H.length + 9] ++ [] : List Nat) = [H.length, H.length + 1, H.length + 2, H.length + 3, H.length + 4, H.length + 5, H.length + 6, H.length + 7, H.length + 8, H.length + 9] := rfl
set_option maxHeartbeats 2000000 in
theorem mk_ok (R : Rd S) {es : List (Nm × V)} (h1 : H[r]? = some (.inst 16 dx)) (h2 : H[dx]? = some (.ns es))
    (a7 : es.lookup n_parse_object = some (V.gg 13))
    (a4 : es.lookup n_parse_array = some (V.gg 14))
    (a8 : es.lookup n_parse_string = some (V.gg 12))
    (a9 : es.lookup n_strict = some (V.bb st))
    (a5 : es.lookup n_parse_float = some (h.pf))
    (a6 : es.lookup n_parse_int = some (h.pi))
    (a2 : es.lookup n_object_hook = some (h.oh))
    (a3 : es.lookup n_object_pairs_hook = some (h.op))
    (a1 : es.lookup n_array_hook = some (h.ah))
    (q : Q (.rr (H.length + 11)) (H ++ cellsO h st H.length)) : Calls S (N + 1) (.gg 15) [.rr r] H Q E := by
  refine calls_gg R.sv R.g_mk rfl (cw5 (R.fns 5 (by decide)) ?_)
  rw [own10]
  unfold b5
  rw [exs_cons_]
  simp_arith
  refine attr_inst R (by decide) h1 h2 a7 ?_
  simp_arith [set_cel]
  refine ⟨H.length + 7, none, rfl, getk, ?_⟩
  try simp_arith
  rw [setk]
  simp only [List.set_cons_succ, List.set_cons_zero]
  rw [exs_cons_]
  simp_arith
  refine attr_inst R (by decide) h1 h2 a4 ?_
  simp_arith [set_cel]
  refine ⟨H.length + 4, none, rfl, getk, ?_⟩
  try simp_arith
  rw [setk]
  simp only [List.set_cons_succ, List.set_cons_zero]
  rw [exs_cons_]
  simp_arith
  refine attr_inst R (by decide) h1 h2 a8 ?_
  simp_arith [set_cel]
  refine ⟨H.length + 8, none, rfl, getk, ?_⟩
  try simp_arith
  rw [setk]
  simp only [List.set_cons_succ, List.set_cons_zero]
  rw [exs_cons_]
  simp_arith
  refine attr_inst R (by decide) h1 h2 a9 ?_
  simp_arith [set_cel]
  refine ⟨H.length + 9, none, rfl, getk, ?_⟩
  try simp_arith
  rw [setk]
  simp only [List.set_cons_succ, List.set_cons_zero]
  rw [exs_cons_]
  simp_arith
  refine attr_inst R (by decide) h1 h2 a5 ?_
  simp_arith [set_cel]
  refine ⟨H.length + 5, none, rfl, getk, ?_⟩
  try simp_arith
  rw [setk]
  simp only [List.set_cons_succ, List.set_cons_zero]
  rw [exs_cons_]
  simp_arith
  refine attr_inst R (by decide) h1 h2 a6 ?_
  simp_arith [set_cel]
  refine ⟨H.length + 6, none, rfl, getk, ?_⟩
  try simp_arith
  rw [setk]
  simp only [List.set_cons_succ, List.set_cons_zero]
  rw [exs_cons_]
  simp_arith
  refine attr_inst R (by decide) h1 h2 a2 ?_
  simp_arith [set_cel]
  refine ⟨H.length + 2, none, rfl, getk, ?_⟩
  try simp_arith
  rw [setk]
  simp only [List.set_cons_succ, List.set_cons_zero]
  rw [exs_cons_]
  simp_arith
  refine attr_inst R (by decide) h1 h2 a3 ?_
  simp_arith [set_cel]
  refine ⟨H.length + 3, none, rfl, getk, ?_⟩
  try simp_arith
  rw [setk]
  simp only [List.set_cons_succ, List.set_cons_zero]
  rw [exs_cons_]
  simp_arith
  refine attr_inst R (by decide) h1 h2 a1 ?_
  simp_arith [set_cel]
  refine ⟨H.length + 1, none, rfl, getk, ?_⟩
  try simp_arith
  rw [setk]
  simp only [List.set_cons_succ, List.set_cons_zero]
  rw [exs_cons_, ex]
  refine ⟨[H.length, H.length + 1, H.length + 2, H.length + 3, H.length + 4, H.length + 5, H.length + 6, H.length + 7, H.length + 8, H.length + 9], by rw [R.fns 6 (by decide)]; rfl, ?_⟩
  rw [set_cel]
  refine ⟨H.length, none, rfl, ?_, ?_⟩
  · rw [List.append_assoc]; exact getk (k := 0)
  try simp_arith
  rw [exs_cons_, ex]
  refine ⟨[H.length], by rw [R.fns 7 (by decide)]; rfl, ?_⟩
  simp_arith
  rw [exs_cons_]
  simp_arith
  have hq : ∀ (i : Nat) (H2 : AH), H2 = H ++ cellsO h st H.length → i = H.length + 11 → Q (.rr i) H2 := by
    rintro i H2 rfl rfl; exact q
  refine hq _ _ ?_ ?_
  · unfold cellsO
    have e1 : ∀ (l : AH) (o : O), (H ++ l ++ [o]).set H.length (.cell (some (.rr (H ++ l).length))) = H ++ ((l ++ [o]).set 0 (.cell (some (.rr (H.length + l.length))))) := by
      intro l o
      rw [List.append_assoc, List.length_append]
      exact setk (k := 0)
    rw [e1]
    rw [List.append_assoc]
    rfl
  · simp
/-- a reader's making -/
theorem init_ok (R : Rd S) (hgg : True)
    (q : Q .nn (H ++ .ns [(n_scan_once, .rr (H.length + 13)), (n_parse_string, .gg 12), (n_parse_array, .gg 14), (n_parse_object, .gg 13), (n_array_hook, h.ah), (n_strict, .bb st), (n_parse_int, h.pi), (n_parse_float, h.pf), (n_object_pairs_hook, h.op), (n_object_hook, h.oh)] :: .inst 16 H.length :: cellsO h st (H.length + 2))) :
    callW S (N + 1) 14 [] [.rr (H.length + 1), h.oh, h.pf, h.pi, .bb st, h.op, h.ah] (H ++ [.ns [], .inst 16 H.length]) Q E := by
  refine cw14 (R.fns 14 (by decide)) ?_
  have gg12 := R.gs 12 (by decide)
  have gg13 := R.gs 13 (by decide)
  have gg14 := R.gs 14 (by decide)
  have gg15 := R.gs 15 (by decide)
  unfold b14
  rw [exs_cons_]
  simp_arith [glob_g gg12, glob_g gg13, glob_g gg14]
  refine seta_inst R (by decide) (by simp) ?_
  try simp_arith
  rw [exs_cons_]
  simp_arith [glob_g gg12, glob_g gg13, glob_g gg14]
  refine seta_inst R (by decide) (by simp) ?_
  try simp_arith
  rw [exs_cons_]
  simp_arith [glob_g gg12, glob_g gg13, glob_g gg14]
  refine seta_inst R (by decide) (by simp) ?_
  try simp_arith
  rw [exs_cons_]
  simp_arith [glob_g gg12, glob_g gg13, glob_g gg14]
  refine seta_inst R (by decide) (by simp) ?_
  try simp_arith
  rw [exs_cons_]
  simp_arith [glob_g gg12, glob_g gg13, glob_g gg14]
  refine seta_inst R (by decide) (by simp) ?_
  try simp_arith
  rw [exs_cons_]
  simp_arith [glob_g gg12, glob_g gg13, glob_g gg14]
  refine seta_inst R (by decide) (by simp) ?_
  try simp_arith
  rw [exs_cons_]
  simp_arith [glob_g gg12, glob_g gg13, glob_g gg14]
  refine seta_inst R (by decide) (by simp) ?_
  try simp_arith
  rw [exs_cons_]
  simp_arith [glob_g gg12, glob_g gg13, glob_g gg14]
  refine seta_inst R (by decide) (by simp) ?_
  try simp_arith
  rw [exs_cons_]
  simp_arith [glob_g gg12, glob_g gg13, glob_g gg14]
  refine seta_inst R (by decide) (by simp) ?_
  try simp_arith
  rw [exs_cons_]
  simp_arith [glob_g gg15]
  refine ⟨by omega, mk_ok (h := h) (st := st) R at1 at0 rfl rfl rfl rfl rfl rfl rfl rfl rfl ?_⟩
  simp_arith
  have e1 : ∀ (x y : O) (l : AH), (H ++ [x, y]) ++ l = H ++ x :: y :: l := fun x y l => by simp
  have e2 : ∀ (x y : O), (H ++ [x, y]).length = H.length + 2 := fun x y => by simp
  rw [e1, e2]
  refine seta_inst R (by decide) (by simp) ?_
  simp_arith [exs_nil_]
  exact q
/-- the new reader -/
theorem RdObj.new (hX : ∀ i, h.X i → i < H.length) {l : AH} {es : List (Nm × V)} (e1 : es.lookup n_scan_once = some (.rr (H.length + 13))) (e2 : es.lookup n_from_text = none) (e3 : es.lookup n_raw_from_text = none) :
    RdObj h st (H.length + 2) (H.length + 1) (H ++ .ns es :: .inst 16 H.length :: cellsO h st (H.length + 2)) := by
  refine ⟨⟨fun k o hk => ?_, fun k _ x => ?_⟩, H.length, es, at1, at0, e1, e2, e3, fun x => ?_, fun x => ?_⟩
  · rw [Nat.add_assoc, getk, Nat.add_comm 2 k]; exact hk
  · have := hX _ x; omega
  · have := hX _ x; omega
  · have := hX _ x; omega
end
end Mine
set_option maxRecDepth 10000
namespace Mine
open PySem PySem.Calls PyProof.Rows PySem.W

/-! ## Readers without hooks for arrays and objects -/
mutual
def RJ (fi ff : List Nat → V) (P : List Nat) (H : AH) : V → J → Prop
  | v, .nul => v = .nn
  | v, .boo b => v = .bb b
  | v, .int t => v = fi t
  | v, .flt t => v = ff t
  | v, .str s => v = .ss s
  | v, .arr js => ∃ l vs, v = .rr l ∧ H[l]? = some (.list vs) ∧ l ∉ P ∧ RJs fi ff P H vs js
  | v, .obj es => ∃ l ps ep, v = .rr l ∧ H[l]? = some (.dict (updAll ps []) ep) ∧ l ∉ P ∧ RJp fi ff P H ps es
def RJs (fi ff : List Nat → V) (P : List Nat) (H : AH) : List V → List J → Prop
  | vs, [] => vs = []
  | vs, j :: js => ∃ v r, vs = v :: r ∧ RJ fi ff P H v j ∧ RJs fi ff P H r js
def RJp (fi ff : List Nat → V) (P : List Nat) (H : AH) : List (Nm × V) → List (List Nat × J) → Prop
  | vs, [] => vs = []
  | vs, (k, j) :: js => ∃ v r, vs = (k, v) :: r ∧ RJ fi ff P H v j ∧ RJp fi ff P H r js
end
mutual
theorem RJ.mono {fi ff : List Nat → V} {P P' : List Nat} {H H' : AH} (c : Chg (· ∈ P) H H') (hP : ∀ i ∈ P', i ∈ P) : ∀ {v : V} (j : J), RJ fi ff P H v j → RJ fi ff P' H' v j
  | v, .nul, h => by rw [RJ] at h ⊢; exact h
  | v, .boo b, h => by rw [RJ] at h ⊢; exact h
  | v, .int t, h => by rw [RJ] at h ⊢; exact h
  | v, .flt t, h => by rw [RJ] at h ⊢; exact h
  | v, .str s, h => by rw [RJ] at h ⊢; exact h
  | v, .arr js, h => by
    rw [RJ] at h ⊢
    obtain ⟨l, vs, e1, e2, e3, e4⟩ := h
    exact ⟨l, vs, e1, c.2 _ _ e2 e3, fun x => e3 (hP _ x), RJs.mono c hP js e4⟩
  | v, .obj es, h => by
    rw [RJ] at h ⊢
    obtain ⟨l, ps, ep, e1, e2, e3, e4⟩ := h
    exact ⟨l, ps, ep, e1, c.2 _ _ e2 e3, fun x => e3 (hP _ x), RJp.mono c hP es e4⟩
theorem RJs.mono {fi ff : List Nat → V} {P P' : List Nat} {H H' : AH} (c : Chg (· ∈ P) H H') (hP : ∀ i ∈ P', i ∈ P) : ∀ {vs : List V} (js : List J), RJs fi ff P H vs js → RJs fi ff P' H' vs js
  | vs, [], h => by rw [RJs] at h ⊢; exact h
  | vs, j :: js, h => by
    rw [RJs] at h ⊢
    obtain ⟨v, r, e, h1, h2⟩ := h
    exact ⟨v, r, e, RJ.mono c hP j h1, RJs.mono c hP js h2⟩
theorem RJp.mono {fi ff : List Nat → V} {P P' : List Nat} {H H' : AH} (c : Chg (· ∈ P) H H') (hP : ∀ i ∈ P', i ∈ P) : ∀ {vs : List (Nm × V)} (js : List (List Nat × J)), RJp fi ff P H vs js → RJp fi ff P' H' vs js
  | vs, [], h => by rw [RJp] at h ⊢; exact h
  | vs, (k, j) :: js, h => by
    rw [RJp] at h ⊢
    obtain ⟨v, r, e, h1, h2⟩ := h
    exact ⟨v, r, e, RJ.mono c hP j h1, RJp.mono c hP js h2⟩
end
theorem Rs_RJs {h : HS} {fi ff : List Nat → V} {P : List Nat} {H : AH} (hR : h.R = fun P H v _ j => RJ fi ff P H v j) : ∀ {log : List J} {vs : List V} {js : List J}, h.Rs P H log vs js → RJs fi ff P H vs js
  | _, [], [], _ => by rw [RJs]
  | _, v :: vs, j :: js, ⟨a, b⟩ => by rw [RJs]; rw [hR] at a; exact ⟨v, vs, rfl, a, Rs_RJs hR b⟩
  | _, [], _ :: _, x => x.elim
  | _, _ :: _, [], x => x.elim
theorem Ps_RJp {h : HS} {fi ff : List Nat → V} {P : List Nat} {H : AH} (hR : h.R = fun P H v _ j => RJ fi ff P H v j) : ∀ {log : List J} {vs : List (Nm × V)} {js : List (List Nat × J)}, h.Ps P H log vs js → RJp fi ff P H vs js
  | _, [], [], _ => by rw [RJp]
  | _, (k, v) :: vs, (k', j) :: js, ⟨e, a, b⟩ => by subst e; rw [RJp]; rw [hR] at a; exact ⟨v, vs, rfl, a, Ps_RJp hR b⟩
  | _, [], _ :: _, x => x.elim
  | _, _ :: _, [], x => x.elim

/-- hooks for numbers alone: closures that lie at places of the heap -/
def plainHS (pf pi : V) (fi ff : List Nat → V) (L : List Nat → AH → List J → Prop) : HS := ⟨.nn, .nn, pf, pi, .nn, fun _ => False, fun P H v _ j => RJ fi ff P H v j, L⟩
theorem plainOk {S : Sx} {n0 : Nat} {pf pi : V} {fi ff : List Nat → V} {L : List Nat → AH → List J → Prop} (h0 : n0 ≠ 0) (hf : isGg pf = false) (hi : isGg pi = false)
    (L_mono : ∀ {P H H' log}, Chg (· ∈ P) H H' → L P H log → L P H' log) (L_new : ∀ {P H i log}, H.length ≤ i → L P H log → L (i :: P) H log) (L_sub : ∀ {P P' H log}, (∀ i ∈ P', i ∈ P) → L P H log → L P' H log)
    (L_log : ∀ {P H log log'}, L P H log → L P H log')
    (in_ : ∀ {t i}, pi = .nn → PySem.intText? ⟨t.toArray⟩ = some i → fi t = .ii i)
    (ih : ∀ {P H t log}, pi ≠ .nn → L P H log → Calls S n0 pi [.ss t] H (fun v H' => v = fi t ∧ Chg (fun _ => False) H H') (fun _ _ => False))
    (fh : ∀ {P H t log}, pf ≠ .nn → t.length ≤ 2000 → L P H log → Calls S n0 pf [.ss t] H (fun v H' => v = ff t ∧ Chg (fun _ => False) H H') (fun _ _ => False)) : HSok S (plainHS pf pi fi ff L) n0 where
  nz := h0
  gg := ⟨rfl, rfl, hf, hi, rfl⟩
  R_mono := fun {P H H' v _ j} c r => RJ.mono (c.imp fun i x => x.elim (fun y => y.elim) id) (fun _ x => x) j r
  R_sub := fun {P P' H v _ j} hs r => RJ.mono .refl hs j r
  L_mono := L_mono
  L_new := L_new
  L_sub := L_sub
  X_lt := fun _ x => x.elim
  nul := by intro P H _; show RJ fi ff P H _ _; rw [RJ]
  boo := by intro P H b _; show RJ fi ff P H _ _; rw [RJ]
  str := by intro P H s _; show RJ fi ff P H _ _; rw [RJ]
  int_n := by
    intro P H t i log h1 h2 l
    refine ⟨?_, L_log l⟩
    show RJ fi ff P H _ _; rw [RJ, in_ h1 h2]
  int_h := by
    intro P H t log h1 hb _ l
    refine (ih h1 l).mono ?_ fun _ _ z => z
    rintro v H' ⟨rfl, c⟩
    refine ⟨c, ?_, L_log (L_mono (c.imp fun _ x => x.elim) l)⟩
    show RJ fi ff P H' _ _; rw [RJ]
  flt_h := by
    intro P H t log hn ht hb _ l
    refine (fh hn ht l).mono ?_ fun _ _ z => z
    rintro v H' ⟨rfl, c⟩
    refine ⟨c, ?_, L_log (L_mono (c.imp fun _ x => x.elim) l)⟩
    show RJ fi ff P H' _ _; rw [RJ]
  arr_n := by
    intro P H l vs js log _ h2 h3 _ h5 h6
    refine ⟨?_, L_log h6⟩
    show RJ fi ff P H _ _
    rw [RJ]
    exact ⟨l, vs, rfl, h2, h3, Rs_RJs rfl h5⟩
  arr_h := by intro P H l vs js log h1; exact absurd rfl h1
  obj_p := by intro P H l ps es log h1; exact absurd rfl h1
  obj_n := by
    intro P H l ps es log ep _ _ h2 h3 _ h5 h6
    refine ⟨?_, L_log h6⟩
    show RJ fi ff P H _ _
    rw [RJ]
    exact ⟨l, ps, ep, rfl, h2, h3, Ps_RJp rfl h5⟩
  obj_h := by intro P H l ps es log ep _ h1; exact absurd rfl h1

/-! ## Walks over a list -/
theorem itGo_inv {σ : Type} {body : V → σ → (σ → Prop) → Prop} (I : List V → σ → Prop) {K : σ → Prop} {xs0 : List V} (step : ∀ d v r st K', d ++ v :: r = xs0 → I d st → (∀ st', I (d ++ [v]) st' → K' st') → body v st K') (k : ∀ st', I xs0 st' → K st') :
    ∀ (xs d : List V) (st : σ), d ++ xs = xs0 → I d st → itGo body xs st K
  | [], d, st, e, h => k st (by rw [List.append_nil] at e; exact e ▸ h)
  | v :: r, d, st, e, h => step d v r st _ e h (fun st' h' => itGo_inv I step k r (d ++ [v]) st' (by rw [List.append_assoc]; exact e) h')
theorem forGo_inv {body : V → Lo → AH → QS → Prop} {ok : AH → Prop} {Q : QS} (I : List V → Lo → AH → Prop) (hok : ∀ d ρ H, I d ρ H → ok H) {xs0 : List V}
    (step : ∀ d v r ρ H K, d ++ v :: r = xs0 → I d ρ H → (∀ ρ' H', I (d ++ [v]) ρ' H' → K .nrm ρ' H' ∧ K .cont ρ' H') → (∀ ρ' H' w, Q (.ret w) ρ' H' → K (.ret w) ρ' H') → (∀ ρ' H', Q .nrm ρ' H' → K .brk ρ' H') → body v ρ H K)
    (k : ∀ ρ H, I xs0 ρ H → Q .nrm ρ H) : ∀ (xs d : List V) (ρ : Lo) (H : AH), d ++ xs = xs0 → I d ρ H → forGo body ok xs ρ H Q
  | [], d, ρ, H, e, h => ⟨hok _ _ _ h, k ρ H (by rw [List.append_nil] at e; exact e ▸ h)⟩
  | v :: r, d, ρ, H, e, h => ⟨hok _ _ _ h, step d v r ρ H _ e h
      (fun ρ' H' h' => by
        have := forGo_inv I hok step k r (d ++ [v]) ρ' H' (by rw [List.append_assoc]; exact e) h'
        exact ⟨this, this⟩) (fun _ _ _ z => z) (fun _ _ z => z)⟩
theorem ev_comp {S : Sx} {n : Nat} {ρ : Lo} {κ : List Nat} {E : PE} {H : AH} {Q : PV} {t : Bool} {x : X} {tg : Tg} {it : X} {ifs : XL} {k : Nat} : ev S n ρ κ E (.comp x tg it ifs k) t H Q = ev S n ρ κ E it false H fun src H => ∃ xs ep κ', snap H src = some (xs, ep) ∧ n ≠ 0 ∧ xs.length ≤ 1000000 ∧ (S.fns k).up.map (fun j => κ[j]?) = κ'.map some ∧
      itGo (fun v (st : Lo × AH) K => snap st.2 src = some (xs, ep) ∧ setTg n κ' tg v st.1 st.2 fun ρ' H' => evT S n ρ' κ' (fun _ _ => False) ifs H' fun b H' =>
          if b then ev S n ρ' κ' (fun _ _ => False) x false H' fun w H'' => ∃ ys, H''[H.length]? = some (.list ys) ∧ ys.length < BIG ∧ K (ρ', H''.set H.length (.list (ys ++ [w]))) else K (ρ', H'))
        xs ((S.fns k).vars.map fun _ => none, H ++ [.list []]) fun st => snap st.2 src = some (xs, ep) ∧ fin t Q (.rr H.length) st.2 := by rw [ev]
theorem evT_nil {S : Sx} {n : Nat} {ρ : Lo} {κ : List Nat} {E : PE} {H : AH} {Q : Bool → AH → Prop} : evT S n ρ κ E .nil H Q = Q true H := by rw [evT]
theorem evT_cons {S : Sx} {n : Nat} {ρ : Lo} {κ : List Nat} {E : PE} {H : AH} {Q : Bool → AH → Prop} {x : X} {xs : XL} : evT S n ρ κ E (.cons x xs) H Q = ev S n ρ κ E x true H fun v H => onB v fun t => if t then evT S n ρ κ E xs H Q else Q false H := by rw [evT]
theorem ex_try {S : Sx} {n : Nat} {ρ : Lo} {κ : List Nat} {H : AH} {q : QS} {e : ES} {b : SL} {k i : Nat} {h : X} : ex S κ (.try_ b k i h) n ρ H q e = (n ≠ 0 ∧ exs S κ b n ρ H q fun ρ e H => (∃ c args d, H[e]? = some (.exc c args d false) ∧ S.isE c = true ∧ S.gv c = S.gv k) ∧ ev S 0 (ρ.set i (some (.rr e))) κ (fun _ _ => False) h false H fun v H => q (.ret v) (ρ.set i none) H) := by rw [ex]
/-- an attribute of the reader's error -/
theorem attr_err {S : Sx} (R : Rd S) {H : AH} {i : Nat} {m doc : List Nat} {pos : Int} {en : Option Int} {a : Nm} {v : V} {Q : PV} (x : ErrAt H i m doc pos en) (ha : a ∈ excAttrs) (h : (errAttrs m doc pos en).lookup a = some v) (q : Q v H) : attrQ S (.rr i) a H Q := by
  obtain ⟨d, h1, h2⟩ := x
  unfold attrQ
  simp only [h1]
  exact ⟨R.ao3 a ha, _, v, h2, h, q⟩
theorem ErrAt.exc {S : Sx} (R : Rd S) {H : AH} {i : Nat} {m doc : List Nat} {pos : Int} {en : Option Int} (x : ErrAt H i m doc pos en) : ∃ c args d, H[i]? = some (.exc c args d false) ∧ S.isE c = true ∧ S.gv c = S.gv 3 := by
  obtain ⟨d, h1, h2⟩ := x
  exact ⟨3, _, _, h1, (R.isE 3).mpr rfl, rfl⟩
end Mine
set_option maxRecDepth 10000
namespace Mine
open PySem PySem.Calls PyProof.Rows PySem.W

/-! ## Comparisons of data -/
theorem cmp_eq_rr {S : Sx} {i j : Nat} {H : AH} {Q : PV} (h : ∃ da db, isD H (.rr i) da ∧ isD H (.rr j) db ∧ da.canLay0 = true ∧ db.canLay0 = true ∧ da.depth ≤ 64 ∧ Q (.bb (PyData.eqv da db)) H) : cmpQ S .Eq (.rr i) (.rr j) H Q := .inl h
theorem cmp_eq_w {S : Sx} {i j : Nat} {H : AH} {Q : PV} (hl : getL H i ≠ none) {d : WD} (h1 : isWd H (.rr i) d) (h2 : isWd H (.rr j) d) (h3 : wdep d ≤ 64) (q : Q (.bb true) H) : cmpQ S .Eq (.rr i) (.rr j) H Q := .inr ⟨hl, d, h1, h2, h3, q⟩
theorem cmp_ne_w {S : Sx} {i j : Nat} {H : AH} {Q : PV} (hl : getL H i ≠ none) {d : WD} (h1 : isWd H (.rr i) d) (h2 : isWd H (.rr j) d) (h3 : wdep d ≤ 64) (q : Q (.bb false) H) : cmpQ S .NotEq (.rr i) (.rr j) H Q := .inr ⟨hl, d, h1, h2, h3, q⟩
theorem cmp_eq_tt {S : Sx} {i j : List V} {H : AH} {Q : PV} : cmpQ S .Eq (.tt i) (.tt j) H Q = ∃ da db, isD H (.tt i) da ∧ isD H (.tt j) db ∧ da.canLay0 = true ∧ db.canLay0 = true ∧ da.depth ≤ 64 ∧ Q (.bb (PyData.eqv da db)) H := rfl
theorem cmp_ne_tt {S : Sx} {i j : List V} {H : AH} {Q : PV} : cmpQ S .NotEq (.tt i) (.tt j) H Q = ∃ da db, isD H (.tt i) da ∧ isD H (.tt j) db ∧ da.canLay0 = true ∧ db.canLay0 = true ∧ da.depth ≤ 64 ∧ Q (.bb (!PyData.eqv da db)) H := rfl
def strD (s : List Nat) : PyData := .str ⟨s.toArray⟩
theorem isD_ss {H : AH} {s : List Nat} : isD H (.ss s) (strD s) := by unfold strD; rw [isD]
theorem lay_str {s : List Nat} (h : CP s) : (strD s).canLay0 = true := by
  unfold strD
  rw [PyData.canLay0]
  unfold PyData.strOk
  rw [Array.all_eq_true]
  intro i hi
  simp only [decide_eq_true_eq]
  exact h _ (by simp)
theorem isDs_strs {H : AH} : ∀ (l : List (List Nat)), isDs H (l.map .ss) (l.map strD)
  | [] => by simp [isDs]
  | s :: l => by
    rw [List.map_cons, List.map_cons, isDs]
    exact ⟨_, _, rfl, isD_ss, isDs_strs l⟩
theorem layAll_strs : ∀ {l : List (List Nat)}, (∀ s ∈ l, CP s) → PyData.canLayAll0 (l.map strD) = true
  | [], _ => by simp [PyData.canLayAll0]
  | s :: l, h => by
    rw [List.map_cons, PyData.canLayAll0, Bool.and_eq_true]
    exact ⟨lay_str (h s (by simp)), layAll_strs fun x hx => h x (by simp [hx])⟩
theorem depthAll_strs : ∀ {l : List (List Nat)}, PyData.depthAll (l.map strD) ≤ 1
  | [] => by simp [PyData.depthAll]
  | s :: l => by
    have h0 : (strD s).depth ≤ 1 := by unfold strD; simp [PyData.depth]
    have := depthAll_strs (l := l)
    rw [List.map_cons, PyData.depthAll]
    omega

abbrev C0 : AH → AH → Prop := Chg fun _ => False
theorem C0.list {H H' : AH} {l : Nat} {o : O} (c : C0 H H') (h : H[l]? = some o) : H'[l]? = some o := c.2 _ _ h id
theorem snap_list {H : AH} {l : Nat} {xs : List V} (h : H[l]? = some (.list xs)) : snap H (.rr l) = some (xs, 0) := by unfold snap; simp only [h]

/-- a comprehension that calls nothing -/
theorem comp_pure {S : Sx} {n : Nat} {H : AH} {x : X} {ifs : XL} {κ' : List Nat} {src : V} {xs : List V} {ep : Nat} {K : Lo × AH → Prop} (p : V → Bool) (g : V → V) (hl : xs.length ≤ 1000000)
    (hs : ∀ l, snap (H ++ [.list l]) src = some (xs, ep))
    (h1 : ∀ v ∈ xs, ∀ (H' : AH) (K : Bool → AH → Prop), K (p v) H' → evT S n [some v] κ' (fun _ _ => False) ifs H' K)
    (h2 : ∀ v ∈ xs, p v = true → ∀ (H' : AH) (K : PV), K (g v) H' → ev S n [some v] κ' (fun _ _ => False) x false H' K)
    (q : ∀ w, K ([w], H ++ [.list ((xs.filter p).map g)])) :
    itGo (fun v (st : Lo × AH) K => snap st.2 src = some (xs, ep) ∧ setTg n κ' (.loc 0) v st.1 st.2 fun ρ' H' => evT S n ρ' κ' (fun _ _ => False) ifs H' fun b H' =>
          if b then ev S n ρ' κ' (fun _ _ => False) x false H' fun w H'' => ∃ ys, H''[H.length]? = some (.list ys) ∧ ys.length < BIG ∧ K (ρ', H''.set H.length (.list (ys ++ [w]))) else K (ρ', H'))
        xs ([none], H ++ [.list []]) K := by
  refine itGo_inv (fun d (st : Lo × AH) => ∃ w, st.1 = [w] ∧ st.2 = H ++ [.list ((d.filter p).map g)]) (xs0 := xs) ?_ ?_ _ [] _ rfl ⟨none, rfl, rfl⟩
  · rintro d v r ⟨ρ', H'⟩ K' hx ⟨w, e1, e2⟩ hK
    dsimp only at e1 e2
    subst e1 e2
    have hmem : v ∈ xs := by rw [← hx]; simp
    refine ⟨hs _, ?_⟩
    rw [set_loc]
    refine h1 v hmem _ _ ?_
    cases hp : p v
    · rw [if_neg (by simp)]
      refine hK _ ⟨_, rfl, ?_⟩
      rw [List.filter_append, List.filter_cons_of_neg (by simp [hp])]; simp
    · rw [if_pos rfl]
      refine h2 v hmem hp _ _ ⟨_, at0, ?_, hK _ ⟨_, rfl, ?_⟩⟩
      · have := List.length_filter_le p d
        have hd : d.length ≤ xs.length := by rw [← hx]; simp
        rw [List.length_map]
        unfold BIG; omega
      · rw [set0, List.filter_append, List.filter_cons_of_pos hp]; simp
  · rintro ⟨ρ', H'⟩ ⟨w, e1, e2⟩
    dsimp only at e1 e2
    subst e1 e2
    exact q w
theorem ev_comp_pure {S : Sx} {n : Nat} {ρ : Lo} {κ : List Nat} {E : PE} {H H1 : AH} {Q : PV} {t : Bool} {x it : X} {ifs : XL} {k : Nat} {κ' : List Nat} {src : V} {xs : List V} {ep : Nat} (p : V → Bool) (g : V → V)
    (hit : ∀ Q' : PV, Q' src H1 → ev S n ρ κ E it false H Q') (hn : n ≠ 0) (hl : xs.length ≤ 1000000) (h0 : snap H1 src = some (xs, ep)) (hs : ∀ l, snap (H1 ++ [O.list l]) src = some (xs, ep))
    (hup : (S.fns k).up.map (fun j => κ[j]?) = κ'.map some) (hv : (S.fns k).vars.map (fun _ => (none : Option V)) = [none])
    (h1 : ∀ v ∈ xs, ∀ (H' : AH) (K : Bool → AH → Prop), K (p v) H' → evT S n [some v] κ' (fun _ _ => False) ifs H' K)
    (h2 : ∀ v ∈ xs, p v = true → ∀ (H' : AH) (K : PV), K (g v) H' → ev S n [some v] κ' (fun _ _ => False) x false H' K)
    (q : fin t Q (.rr H1.length) (H1 ++ [O.list ((xs.filter p).map g)])) : ev S n ρ κ E (.comp x (.loc 0) it ifs k) t H Q := by
  rw [ev_comp]
  refine hit _ ⟨xs, ep, κ', h0, hn, hl, hup, ?_⟩
  rw [hv]
  exact comp_pure p g hl hs h1 h2 fun w => ⟨hs _, q⟩

/-- a comprehension whose tests call functions -/
theorem ev_comp_call {S : Sx} {n : Nat} {ρ : Lo} {κ : List Nat} {E : PE} {H H1 : AH} {Q : PV} {t : Bool} {x it : X} {ifs : XL} {k : Nat} {κ' : List Nat} {src : V} {xs : List V} {ep : Nat} (p : V → Bool) (g : V → V)
    (hit : ∀ Q' : PV, Q' src H1 → ev S n ρ κ E it false H Q') (hn : n ≠ 0) (hl : xs.length ≤ 1000000) (hs : ∀ H', C0 H1 H' → snap H' src = some (xs, ep))
    (hup : (S.fns k).up.map (fun j => κ[j]?) = κ'.map some) (hv : (S.fns k).vars.map (fun _ => (none : Option V)) = [none])
    (h1 : ∀ v ∈ xs, ∀ (H' : AH) (K : Bool → AH → Prop), C0 H1 H' → (∀ H'', C0 H' H'' → K (p v) H'') → evT S n [some v] κ' (fun _ _ => False) ifs H' K)
    (h2 : ∀ v ∈ xs, p v = true → ∀ (H' : AH) (K : PV), C0 H1 H' → (∀ H'', C0 H' H'' → K (g v) H'') → ev S n [some v] κ' (fun _ _ => False) x false H' K)
    (q : ∀ H', C0 H1 H' → H'[H1.length]? = some (O.list ((xs.filter p).map g)) → fin t Q (.rr H1.length) H') : ev S n ρ κ E (.comp x (.loc 0) it ifs k) t H Q := by
  rw [ev_comp]
  refine hit _ ⟨xs, ep, κ', hs _ .refl, hn, hl, hup, ?_⟩
  rw [hv]
  refine itGo_inv (fun d (st : Lo × AH) => ∃ w, st.1 = [w] ∧ C0 H1 st.2 ∧ st.2[H1.length]? = some (O.list ((d.filter p).map g))) (xs0 := xs) ?_ ?_ _ [] _ rfl ⟨none, rfl, .app, at0⟩
  · rintro d v r ⟨ρ', H'⟩ K' hx ⟨w, e1, c1, e2⟩ hK
    dsimp only at e1 c1 e2
    subst e1
    have hmem : v ∈ xs := by rw [← hx]; simp
    refine ⟨hs _ c1, ?_⟩
    rw [set_loc]
    refine h1 v hmem _ _ c1 fun H2 c2 => ?_
    cases hp : p v
    · rw [if_neg (by simp)]
      refine hK _ ⟨_, rfl, c1.trans c2, ?_⟩
      rw [List.filter_append, List.filter_cons_of_neg (by simp [hp])]
      simp only [List.filter_nil, List.append_nil]
      exact c2.list e2
    · rw [if_pos rfl]
      refine h2 v hmem hp _ _ (c1.trans c2) fun H3 c3 => ⟨_, C0.list (c2.trans c3) e2, ?_, hK _ ⟨_, rfl, ?_, ?_⟩⟩
      · have := List.length_filter_le p d
        have hd : d.length ≤ xs.length := by rw [← hx]; simp
        rw [List.length_map]
        unfold BIG; omega
      · exact ((c1.trans c2).trans c3).set' (Nat.le_refl _)
      · have := (List.getElem?_eq_some_iff.mp (C0.list (c2.trans c3) e2)).1
        dsimp only
        rw [List.getElem?_set_self this, List.filter_append, List.filter_cons_of_pos hp]; simp
  · rintro ⟨ρ', H'⟩ ⟨w, e1, c1, e2⟩
    dsimp only at e1 c1 e2
    exact ⟨hs _ c1, q _ c1 e2⟩

def singles (l : List Nat) : List V := l.map fun c => .ss [c]
theorem isDs_singles {H : AH} : ∀ (l : List Nat), isDs H (singles l) (l.map fun c => strD [c])
  | [] => by simp [singles, isDs]
  | s :: l => by
    unfold singles
    rw [List.map_cons, List.map_cons, isDs]
    exact ⟨_, _, rfl, isD_ss, isDs_singles l⟩
theorem layAll_singles : ∀ {l : List Nat}, CP l → PyData.canLayAll0 (l.map fun c => strD [c]) = true
  | [], _ => by simp [PyData.canLayAll0]
  | s :: l, h => by
    rw [List.map_cons, PyData.canLayAll0, Bool.and_eq_true]
    exact ⟨lay_str (fun c hc => by rw [List.mem_singleton] at hc; rw [hc]; exact h _ (by simp)), layAll_singles fun x hx => h x (by simp [hx])⟩
theorem depthAll_singles : ∀ {l : List Nat}, PyData.depthAll (l.map fun c => strD [c]) ≤ 1
  | [] => by simp [PyData.depthAll]
  | s :: l => by
    have h0 : (strD [s]).depth ≤ 1 := by unfold strD; simp [PyData.depth]
    have := depthAll_singles (l := l)
    rw [List.map_cons, PyData.depthAll]
    omega
theorem isD_list {H : AH} {l : Nat} {vs : List V} {ds : List PyData} (h : H[l]? = some (O.list vs)) (d : isDs H vs ds) : isD H (.rr l) (PyData.list ds) := by
  rw [isD]
  exact ⟨l, vs, rfl, by unfold getL; rw [h], d⟩
theorem eqv_nil {α : Type} (l : List α) (f : α → PyData) : PyData.eqv (PyData.list (l.map f)) (PyData.list []) = l.isEmpty := by
  rw [PyData.eqv]
  cases l <;> simp [PyData.eqvAll]
/-- is the list of the signs that pass the test empty: the list lies last, an empty one is made behind it -/
theorem cmp_empty {S : Sx} {H : AH} {l : List Nat} {Q : PV} (h : CP l) (hz : l.length ≤ 1000000) (q : Q (.bb l.isEmpty) (H ++ [.list (singles l)] ++ [.list []])) :
    cmpQ S .Eq (.rr H.length) (.rr (H ++ [O.list (singles l)]).length) (H ++ [O.list (singles l)] ++ [O.list []]) Q := by
  refine cmp_eq_rr ?_
  refine ⟨PyData.list (l.map fun c => strD [c]), PyData.list [], isD_list ?_ (isDs_singles l), isD_list (vs := []) at0 (by simp [isDs]), ?_, by simp [PyData.canLay0, PyData.canLayAll0], ?_, ?_⟩
  · rw [List.append_assoc]; exact at0
  · rw [PyData.canLay0]; exact layAll_singles h
  · rw [PyData.depth]; have := depthAll_singles (l := l); omega
  · rw [eqv_nil]; exact q
theorem filter_singles (T : List Nat) (p : V → Bool) : (T.map fun c => V.ss [c]).filter p = singles (T.filter fun c => p (.ss [c])) := by
  unfold singles
  rw [List.filter_map]; rfl
theorem CP.filter {l : List Nat} (h : CP l) (p : Nat → Bool) : CP (l.filter p) := fun c hc => h c (List.mem_filter.mp hc).1
theorem CP.take {l : List Nat} (h : CP l) (k : Nat) : CP (l.take k) := fun c hc => h c (List.mem_of_mem_take hc)
theorem CP.drop {l : List Nat} (h : CP l) (k : Nat) : CP (l.drop k) := fun c hc => h c (List.mem_of_mem_drop hc)
theorem evT_one {S : Sx} {n : Nat} {ρ : Lo} {κ : List Nat} {E : PE} {H : AH} {Q : Bool → AH → Prop} {x : X} (h : ev S n ρ κ E x true H fun v H => onB v fun t => if t then Q true H else Q false H) : evT S n ρ κ E (.cons x .nil) H Q := by
  rw [evT_cons]; simp only [evT_nil]; exact h

theorem bg2 : 2 ≤ BIG := by unfold BIG; decide
theorem bg3 : 3 ≤ BIG := by unfold BIG; decide
end Mine
set_option maxRecDepth 100000
open PySem PySem.W
namespace Mine.L05
def b40 : SL := (.cons (.ret (.and (.cons (.cmp .NotEq (.loc 0) (.ss [])) (.cons (.cmp .Eq (.comp (.loc 0) (.loc 0) (.loc 0) (.cons (.cmp .NotIn (.loc 0) (.ss [48, 49, 50, 51, 52, 53, 54, 55, 56, 57])) .nil) 41) (.lst .nil)) .nil))))
  .nil)
def f40 : MF := ⟨["text"], ["text"], [], [], [], .inl b40⟩
theorem cw40 {S : Sx} {n : Nat} {cs : List Nat} {v0 : V} {H : AH} {Q : PV} {E : PE} (h : S.fns 40 = f40) (q : exs S cs b40 n [some v0] H (endK Q) (fun _ i H => E i H)) : callW S n 40 cs [v0] H Q E := callW_stm0 h rfl rfl (pts := [(some 0, none)]) (by decide +kernel) q
def b41 : SL := .nil
def f41 : MF := ⟨[], ["sign"], [], [], [], .inl b41⟩
def b60 : SL := (.cons (.asg (.loc 1) (.ite (.cmp .Eq (.sl (.loc 0) .none (.some (.ii 1))) (.ss [45])) (.sl (.loc 0) (.some (.ii 1)) .none) (.loc 0)))
  (.cons (.asg (.loc 2) (.ss []))
  (.cons (.for_ (.loc 3) (.lst (.cons (.ss [101]) (.cons (.ss [69]) .nil)))
  (.cons (.ifs (.and (.cons (.cmp .Eq (.loc 2) (.ss [])) (.cons (.cmp .In (.loc 3) (.loc 1)) .nil)))
  (.cons (.asg (.two (.loc 1) (.loc 2)) (.tup (.cons (.sl (.loc 1) .none (.some (.meth (.loc 1) [105, 110, 100, 101, 120] (.cons (.loc 3) .nil)))) (.cons (.sl (.loc 1) (.some (.bin .Add (.meth (.loc 1) [105, 110, 100, 101, 120] (.cons (.loc 3) .nil)) (.ii 1))) .none) .nil))))
  (.cons (.asg (.loc 2) (.ite (.cmp .In (.sl (.loc 2) .none (.some (.ii 1))) (.tup (.cons (.ss [43]) (.cons (.ss [45]) .nil)))) (.sl (.loc 2) (.some (.ii 1)) .none) (.loc 2)))
  (.cons (.ifs (.not (.call (.glob 30) (.cons (.loc 2) .nil)))
  (.cons (.ret (.bb false))
  .nil)
  .nil)
  .nil)))
  .nil)
  .nil))
  (.cons (.ifs (.cmp .In (.ss [46]) (.loc 1))
  (.cons (.ifs (.not (.call (.glob 30) (.cons (.sl (.loc 1) (.some (.bin .Add (.meth (.loc 1) [105, 110, 100, 101, 120] (.cons (.ss [46]) .nil)) (.ii 1))) .none) .nil)))
  (.cons (.ret (.bb false))
  .nil)
  .nil)
  (.cons (.asg (.loc 1) (.sl (.loc 1) .none (.some (.meth (.loc 1) [105, 110, 100, 101, 120] (.cons (.ss [46]) .nil)))))
  .nil))
  .nil)
  (.cons (.ret (.and (.cons (.call (.glob 30) (.cons (.loc 1) .nil)) (.cons (.or (.cons (.cmp .NotEq (.idx (.loc 1) (.ii 0)) (.ss [48])) (.cons (.cmp .Eq (.bi .len (.cons (.loc 1) .nil)) (.ii 1)) .nil))) .nil))))
  .nil)))))
def f60 : MF := ⟨["text"], ["text", "body", "power", "letter"], [], [], [], .inl b60⟩
theorem cw60 {S : Sx} {n : Nat} {cs : List Nat} {v0 : V} {H : AH} {Q : PV} {E : PE} (h : S.fns 60 = f60) (q : exs S cs b60 n [some v0, none, none, none] H (endK Q) (fun _ i H => E i H)) : callW S n 60 cs [v0] H Q E := callW_stm0 h rfl rfl (pts := [(some 0, none)]) (by decide +kernel) q
def b80 : SL := (.cons (.asg (.loc 0) (.comp (.loc 0) (.loc 0) (.bi .range (.cons (.bin .Add (.cel 1) (.ii 1)) (.cons (.bin .Add (.bi .len (.cons (.cel 0) .nil)) (.ii 1)) .nil))) (.cons (.call (.glob 31) (.cons (.sl (.cel 1) (.some (.cel 0)) (.some (.loc 0))) .nil)) .nil) 81))
  (.cons (.ret (.ite (.loc 0) (.idx (.loc 0) (.neg (.ii 1))) (.cel 1)))
  .nil))
def f80 : MF := ⟨["s", "at"], ["ends"], ["s", "at"], [], [], .inl b80⟩
theorem cw80 {S : Sx} {n : Nat} {cs : List Nat} {v0 v1 : V} {H : AH} {Q : PV} {E : PE} (h : S.fns 80 = f80) (q : exs S ([H.length + 0, H.length + 1] ++ cs) b80 n [none] (((H ++ [O.cell none, O.cell none]).set (H.length + 0) (O.cell (some v0))).set (H.length + 1) (O.cell (some v1))) (endK Q) (fun _ i H => E i H)) : callW S n 80 cs [v0, v1] H Q E := callW_stm h rfl (pts := [(none, some 0), (none, some 1)]) (by decide +kernel) q
def b81 : SL := .nil
def f81 : MF := ⟨[], ["end"], [], ["at", "s"], [1, 0], .inl b81⟩
def b100 : SL := (.cons (.asg (.loc 2) (.call (.glob 32) (.cons (.loc 0) (.cons (.loc 1) .nil))))
  (.cons (.ifs (.cmp .Eq (.loc 2) (.loc 1))
  (.cons (.ret (.tup (.cons (.ss [110, 111]) (.cons (.ss [69, 120, 112, 101, 99, 116, 105, 110, 103, 32, 118, 97, 108, 117, 101]) (.cons (.loc 1) .nil)))))
  .nil)
  .nil)
  (.cons (.asg (.loc 3) (.cmp .Eq (.comp (.loc 0) (.loc 0) (.sl (.loc 0) (.some (.loc 1)) (.some (.loc 2))) (.cons (.cmp .In (.loc 0) (.ss [46, 101, 69])) .nil) 101) (.lst .nil)))
  (.cons (.ret (.tup (.cons (.ss [105, 115]) (.cons (.tup (.cons (.ite (.loc 3) (.ss [119, 104, 111, 108, 101]) (.ss [112, 97, 114, 116])) (.cons (.sl (.loc 0) (.some (.loc 1)) (.some (.loc 2))) .nil))) (.cons (.loc 2) .nil)))))
  .nil))))
def f100 : MF := ⟨["s", "at"], ["s", "at", "end", "plain"], [], [], [], .inl b100⟩
theorem cw100 {S : Sx} {n : Nat} {cs : List Nat} {v0 v1 : V} {H : AH} {Q : PV} {E : PE} (h : S.fns 100 = f100) (q : exs S cs b100 n [some v0, some v1, none, none] H (endK Q) (fun _ i H => E i H)) : callW S n 100 cs [v0, v1] H Q E := callW_stm0 h rfl rfl (pts := [(some 0, none), (some 1, none)]) (by decide +kernel) q
def b101 : SL := .nil
def f101 : MF := ⟨[], ["sign"], [], [], [], .inl b101⟩
def b120 : SL := (.cons (.try_ (.cons (.asg (.two (.loc 3) (.loc 4)) (.meth (.loc 0) [114, 97, 119, 95, 102, 114, 111, 109, 95, 116, 101, 120, 116] (.cons (.loc 1) (.cons (.loc 2) .nil))))
  .nil) 3 5 (.tup (.cons (.ss [110, 111]) (.cons (.attr (.loc 5) [109, 115, 103]) (.cons (.attr (.loc 5) [112, 111, 115]) .nil)))))
  (.cons (.ret (.tup (.cons (.ss [105, 115]) (.cons (.loc 3) (.cons (.loc 4) .nil)))))
  .nil))
def f120 : MF := ⟨["reader", "s", "at"], ["reader", "s", "at", "value", "end", "failed"], [], [], [], .inl b120⟩
theorem cw120 {S : Sx} {n : Nat} {cs : List Nat} {v0 v1 v2 : V} {H : AH} {Q : PV} {E : PE} (h : S.fns 120 = f120) (q : exs S cs b120 n [some v0, some v1, some v2, none, none, none] H (endK Q) (fun _ i H => E i H)) : callW S n 120 cs [v0, v1, v2] H Q E := callW_stm0 h rfl rfl (pts := [(some 0, none), (some 1, none), (some 2, none)]) (by decide +kernel) q
def b140 : SL := (.cons (.try_ (.cons (.ret (.tup (.cons (.ss [105, 115]) (.cons (.meth (.loc 0) [102, 114, 111, 109, 95, 116, 101, 120, 116] (.cons (.loc 1) .nil)) .nil))))
  .nil) 3 2 (.tup (.cons (.ss [110, 111]) (.cons (.attr (.loc 2) [112, 111, 115]) .nil))))
  .nil)
def f140 : MF := ⟨["reader", "s"], ["reader", "s", "failed"], [], [], [], .inl b140⟩
theorem cw140 {S : Sx} {n : Nat} {cs : List Nat} {v0 v1 : V} {H : AH} {Q : PV} {E : PE} (h : S.fns 140 = f140) (q : exs S cs b140 n [some v0, some v1, none] H (endK Q) (fun _ i H => E i H)) : callW S n 140 cs [v0, v1] H Q E := callW_stm0 h rfl rfl (pts := [(some 0, none), (some 1, none)]) (by decide +kernel) q
def b160 : SL := (.cons (.asg (.loc 1) (.ite (.loc 0) (.idx (.loc 0) (.ii 0)) (.ii 0)))
  (.cons (.asg (.loc 2) (.meth (.ss []) [106, 111, 105, 110] (.cons (.comp (.idx (.ss [48, 49, 50, 51, 52, 53, 54, 55, 56, 57, 46, 101, 69, 43, 45, 32]) (.bin .Mod (.loc 0) (.ii 16))) (.loc 0) (.sl (.loc 0) (.some (.ii 1)) (.some (.ii 21))) .nil 161) .nil)))
  (.cons (.asg (.loc 3) (.call (.glob 16) (.cons .nn (.cons (.lam 162) (.cons (.lam 163) .nil)))))
  (.cons (.asg (.loc 4) (.bin .Mod (.bin .FloorDiv (.loc 1) (.ii 2)) (.bin .Add (.bi .len (.cons (.loc 2) .nil)) (.ii 1))))
  (.cons (.for_ (.loc 5) (.lst (.cons (.ii 0) (.cons (.loc 4) (.cons (.bin .Sub (.bi .len (.cons (.loc 2) .nil)) (.bi .len (.cons (.meth (.loc 2) [108, 115, 116, 114, 105, 112] (.cons (.ss [32]) .nil)) .nil))) .nil))))
  (.cons (.asg (.loc 6) (.bin .Sub (.bin .Add (.loc 5) (.bi .len (.cons (.sl (.loc 2) (.some (.loc 5)) .none) .nil))) (.bi .len (.cons (.meth (.sl (.loc 2) (.some (.loc 5)) .none) [108, 115, 116, 114, 105, 112] (.cons (.ss [32]) .nil)) .nil))))
  (.cons (.ifs (.cmp .NotEq (.call (.glob 33) (.cons (.loc 3) (.cons (.loc 2) (.cons (.loc 5) .nil)))) (.call (.glob 34) (.cons (.loc 2) (.cons (.loc 6) .nil))))
  (.cons (.ret (.bb false))
  .nil)
  .nil)
  .nil)))
  (.cons (.asg (.loc 7) (.meth (.loc 2) [115, 116, 114, 105, 112] (.cons (.ss [32]) .nil)))
  (.cons (.asg (.loc 8) (.call (.glob 31) (.cons (.loc 7) .nil)))
  (.cons (.asg (.loc 9) (.call (.glob 34) (.cons (.loc 7) (.cons (.ii 0) .nil))))
  (.cons (.ifs (.loc 8)
  (.cons (.ret (.and (.cons (.cmp .Eq (.call (.glob 35) (.cons (.loc 3) (.cons (.loc 2) .nil))) (.tup (.cons (.ss [105, 115]) (.cons (.idx (.loc 9) (.ii 1)) .nil)))) (.cons (.cmp .Eq (.call (.glob 35) (.cons (.loc 3) (.cons (.bin .Add (.bin .Add (.ss [91]) (.loc 2)) (.ss [93])) .nil))) (.tup (.cons (.ss [105, 115]) (.cons (.lst (.cons (.idx (.loc 9) (.ii 1)) .nil)) .nil)))) .nil))))
  .nil)
  .nil)
  (.cons (.asg (.loc 6) (.bin .Sub (.bi .len (.cons (.loc 2) .nil)) (.bi .len (.cons (.meth (.loc 2) [108, 115, 116, 114, 105, 112] (.cons (.ss [32]) .nil)) .nil))))
  (.cons (.asg (.loc 10) (.bin .Add (.idx (.loc 9) (.ii 2)) (.loc 6)))
  (.cons (.ifs (.cmp .Eq (.idx (.loc 9) (.ii 0)) (.ss [105, 115]))
  (.cons (.asg (.loc 10) (.bin .Sub (.bin .Add (.loc 10) (.bi .len (.cons (.sl (.loc 2) (.some (.loc 10)) .none) .nil))) (.bi .len (.cons (.meth (.sl (.loc 2) (.some (.loc 10)) .none) [108, 115, 116, 114, 105, 112] (.cons (.ss [32]) .nil)) .nil))))
  .nil)
  .nil)
  (.cons (.ifs (.cmp .NotEq (.call (.glob 35) (.cons (.loc 3) (.cons (.loc 2) .nil))) (.tup (.cons (.ss [110, 111]) (.cons (.loc 10) .nil))))
  (.cons (.ret (.bb false))
  .nil)
  .nil)
  (.cons (.ret (.cmp .Eq (.call (.glob 35) (.cons (.loc 3) (.cons (.bin .Add (.bin .Add (.ss [91]) (.loc 2)) (.ss [93])) .nil))) (.ite (.cmp .NotEq (.loc 7) (.ss [])) (.tup (.cons (.ss [110, 111]) (.cons (.bin .Add (.loc 10) (.ii 1)) .nil))) (.tup (.cons (.ss [105, 115]) (.cons (.lst .nil) .nil))))))
  .nil))))))))))))))
def f160 : MF := ⟨["script"], ["script", "head", "signs", "reader", "k", "at", "start", "bare", "whole", "due", "place"], [], [], [], .inl b160⟩
theorem cw160 {S : Sx} {n : Nat} {cs : List Nat} {v0 : V} {H : AH} {Q : PV} {E : PE} (h : S.fns 160 = f160) (q : exs S cs b160 n [some v0, none, none, none, none, none, none, none, none, none, none] H (endK Q) (fun _ i H => E i H)) : callW S n 160 cs [v0] H Q E := callW_stm0 h rfl rfl (pts := [(some 0, none)]) (by decide +kernel) q
def b161 : SL := .nil
def f161 : MF := ⟨[], ["row"], [], [], [], .inl b161⟩
def b162 : X := (.tup (.cons (.ss [112, 97, 114, 116]) (.cons (.loc 0) .nil)))
def f162 : MF := ⟨["text"], ["text"], [], [], [], .inr b162⟩
theorem cw162 {S : Sx} {n : Nat} {cs : List Nat} {v0 : V} {H : AH} {Q : PV} {E : PE} (h : S.fns 162 = f162) (q : ev S n [some v0] cs E b162 false H Q) : callW S n 162 cs [v0] H Q E := callW_exp h rfl rfl (pts := [(some 0, none)]) (by decide +kernel) q
def b163 : X := (.tup (.cons (.ss [119, 104, 111, 108, 101]) (.cons (.loc 0) .nil)))
def f163 : MF := ⟨["text"], ["text"], [], [], [], .inr b163⟩
theorem cw163 {S : Sx} {n : Nat} {cs : List Nat} {v0 : V} {H : AH} {Q : PV} {E : PE} (h : S.fns 163 = f163) (q : ev S n [some v0] cs E b163 false H Q) : callW S n 163 cs [v0] H Q E := callW_exp h rfl rfl (pts := [(some 0, none)]) (by decide +kernel) q
def gnames : List Str := [PySem.Str.ofString "linecol", PySem.Str.ofString "errmsg", PySem.Str.ofString "digits_end", PySem.Str.ofString "JSONDecodeError", PySem.Str.ofString "match_number", PySem.Str.ofString "float", PySem.Str.ofString "WHITESPACE_STR", PySem.Str.ofString "HEX_DIGITS", PySem.Str.ofString "match_chunk", PySem.Str.ofString "BACKSLASH", PySem.Str.ofString "scan_four_digit_hex", PySem.Str.ofString "whitespace_end", PySem.Str.ofString "py_scanstring", PySem.Str.ofString "JSONObject", PySem.Str.ofString "JSONArray", PySem.Str.ofString "make_scanner", PySem.Str.ofString "JSONDecoder", PySem.Str.ofString "", PySem.Str.ofString "", PySem.Str.ofString "", PySem.Str.ofString "", PySem.Str.ofString "", PySem.Str.ofString "", PySem.Str.ofString "", PySem.Str.ofString "", PySem.Str.ofString "", PySem.Str.ofString "", PySem.Str.ofString "", PySem.Str.ofString "", PySem.Str.ofString "", PySem.Str.ofString "_law_figures", PySem.Str.ofString "_law_is_number", PySem.Str.ofString "_law_longest", PySem.Str.ofString "_law_raw", PySem.Str.ofString "_law_due", PySem.Str.ofString "_law_all"]
def gname (k : Nat) : Str := gnames.getD k ⟨#[]⟩
def fns : Nat → MF
  | 0 => f0
  | 1 => f1
  | 2 => f2
  | 3 => f3
  | 4 => f4
  | 5 => f5
  | 6 => f6
  | 7 => f7
  | 8 => f8
  | 9 => f9
  | 10 => f10
  | 11 => f11
  | 12 => f12
  | 13 => f13
  | 14 => f14
  | 15 => f15
  | 16 => f16
  | 40 => f40
  | 41 => f41
  | 60 => f60
  | 80 => f80
  | 81 => f81
  | 100 => f100
  | 101 => f101
  | 120 => f120
  | 140 => f140
  | 160 => f160
  | 161 => f161
  | 162 => f162
  | 163 => f163
  | _ => default
def tops : List (String × Nat) := [("linecol", 0), ("errmsg", 1), ("JSONDecodeError.__init__", 2), ("digits_end", 3), ("match_number", 4), ("make_scanner", 5), ("whitespace_end", 8), ("match_chunk", 9), ("scan_four_digit_hex", 10), ("py_scanstring", 11), ("JSONObject", 12), ("JSONArray", 13), ("JSONDecoder.__init__", 14), ("JSONDecoder.from_text", 15), ("JSONDecoder.raw_from_text", 16), ("_law_figures", 40), ("_law_is_number", 60), ("_law_longest", 80), ("_law_due", 100), ("_law_raw", 120), ("_law_all", 140), ("law", 160)]
def chk (p : Program) : List (String × Bool) := Id.run do
  let mut out := []
  for s in p.main.body do
    match s with
    | .FunctionDef n _ body _ _ _ sc _ _ _ =>
      let k := ((tops.find? (·.1 == n.toString)).map (·.2)).getD 999
      out := out ++ [(n.toString, agBody gname fns (ob1 gname fns) true k sc (.stmts body))]
    | .ClassDef n _ _ body _ _ _ _ _ _ _ =>
      for t in body do
        match t with
        | .FunctionDef m _ body _ _ _ sc _ _ _ =>
          let k := ((tops.find? (·.1 == n.toString ++ "." ++ m.toString)).map (·.2)).getD 999
          out := out ++ [(n.toString ++ "." ++ m.toString, agBody gname fns (ob1 gname fns) true k sc (.stmts body))]
        | _ => pure ()
    | _ => pure ()
  return out
end Mine.L05
set_option maxRecDepth 10000
namespace Mine
open PySem PySem.Calls PyProof.Rows PySem.W
namespace L05
open Mine
/-- figures and nothing else -/
def figB (t : List Nat) : Bool := t != [] && (t.filter fun c => !isDig c).isEmpty
def stripSg (p : List Nat) : List Nat := if p.take 1 = [43] ∨ p.take 1 = [45] then p.drop 1 else p
def ltr (c : Nat) (b p : List Nat) : Option (List Nat × List Nat) := if p = [] ∧ b.contains c = true then
    (let i := (b.takeWhile (· != c)).length
     if figB (stripSg (b.drop (i + 1))) = true then some (b.take i, stripSg (b.drop (i + 1))) else none)
  else some (b, p)
def wholeB (b : List Nat) : Bool := figB b && (b.take 1 != [48] || b.length == 1)
def fracB (b : List Nat) : Bool := if b.contains 46 = true then
    (let i := (b.takeWhile (· != 46)).length
     if figB (b.drop (i + 1)) = true then wholeB (b.take i) else false)
  else wholeB b
def isnB (t : List Nat) : Bool := match ltr 101 (if t.take 1 = [45] then t.drop 1 else t) [] with
  | none => false
  | some (b, p) => match ltr 69 b p with
    | none => false
    | some (b, _) => fracB b

/-- what the law's surroundings give -/
structure L5 (S : Sx) : Prop where
  R : Rd S
  fns : ∀ k, k ∈ [40, 41, 60, 80, 81, 100, 101, 120, 140, 160, 161, 162, 163] → S.fns k = L05.fns k
  gs : ∀ k, 30 ≤ k → k ≤ 35 → S.gs k = none
  g_fig : GFn S 30 40 1 [] false
  g_isn : GFn S 31 60 1 [] false
  g_long : GFn S 32 80 2 [] false
  g_raw : GFn S 33 120 3 [] false
  g_due : GFn S 34 100 2 [] false
  g_all : GFn S 35 140 2 [] false
  c3 : GCls S 16 103 14 3 [.bb true, .nn, .nn] false

section
variable {S : Sx} {n : Nat} {H : AH} {E : PE}
theorem figures_ok (L : L5 S) {t : List Nat} (hs : t.length ≤ 1000000) (hcp : CP t) : Calls S (n + 2) (.gg 30) [.ss t] H (fun v H' => v = .bb (figB t) ∧ C0 H H') E := by
  refine calls_gg L.R.sv L.g_fig rfl (cw40 (L.fns 40 (by decide)) ?_)
  have hB := BIG_le hs
  unfold b40
  rw [exs_cons_]
  simp_arith
  cases t with
  | nil =>
    simp_arith [ne_nn]
    exact ⟨rfl, .refl⟩
  | cons c0 t0 =>
    simp_arith [ne_cn]
    generalize hT : c0 :: t0 = T at *
    refine ev_comp_pure (H1 := H) (src := .ss T) (xs := T.map fun c => .ss [c]) (ep := 0) (κ' := []) (fun v => match v with | .ss s => !strIn s [48, 49, 50, 51, 52, 53, 54, 55, 56, 57] | _ => false) id (fun Q' h => ?_) (by omega) (by rw [List.length_map]; exact hs) rfl (fun _ => rfl) (by rw [L.fns 41 (by decide)]; rfl) (by rw [L.fns 41 (by decide)]; rfl) ?_ ?_ ?_
    · simp_arith; exact h
    · rintro v hv H' K hK
      obtain ⟨c, _, rfl⟩ := List.mem_map.mp hv
      rw [evT_cons]
      simp_arith [evT_nil]
      dsimp only at hK
      cases hb : strIn [c] [48, 49, 50, 51, 52, 53, 54, 55, 56, 57] <;> rw [hb] at hK <;> exact hK
    · rintro v hv _ H' K hK
      simp_arith
      exact hK
    · rw [filter_singles, List.map_id]
      simp_arith [ev_lst]
      refine ⟨by simp, cmp_empty (hcp.filter _) (Nat.le_trans (List.length_filter_le _ _) hs) ?_⟩
      refine ⟨?_, ?_⟩
      · unfold figB
        rw [← hT]
        simp only [strIn_one, isDig_in, ne_cn, Bool.true_and]
      · rw [List.append_assoc]; exact .app
theorem idxOf_some {s : List Nat} {c : Nat} (h : s.contains c = true) : idxOf? s c = some (s.takeWhile (· != c)).length ∧ (s.takeWhile (· != c)).length < s.length := by
  have hm : c ∈ s := by simpa using h
  have : ∀ (l : List Nat), c ∈ l → (l.takeWhile (· != c)).length < l.length := by
    intro l
    induction l with
    | nil => intro h; simp at h
    | cons a l ih =>
      intro h
      by_cases ha : a = c
      · subst ha; simp
      · rw [List.takeWhile_cons_of_pos (by simp [ha])]
        have := ih (by rcases List.mem_cons.mp h with h | h; exact absurd h.symm ha; exact h)
        simp only [List.length_cons]; omega
  have hl := this _ hm
  refine ⟨?_, hl⟩
  unfold idxOf?
  simp only
  rw [if_pos hl]
theorem pyS_01 {s : List Nat} : pyS s none (some 1) = s.take 1 := pyS_nat0 s 1
theorem pyS_1n {s : List Nat} : pyS s (some 1) none = s.drop 1 := pyS_nat' s 1
theorem cp_strip {l : List Nat} (h : CP l) : CP (stripSg l) := by unfold stripSg; split; exact h.drop 1; exact h
theorem strip_le (l : List Nat) : (stripSg l).length ≤ l.length := by unfold stripSg; split <;> simp
theorem cal_index {S : Sx} {s : List Nat} {H : AH} : calOf S (.ss s) [105, 110, 100, 101, 120] H = some (.str s .index) := rfl

theorem ltr_step (L : L5 S) {t b p : List Nat} {c : Nat} (hb : b.length ≤ 1000000) (hcp : CP b) {K : QS} {E : ES} (hp : p.length ≤ 1000000) {w3 : Option V}
    (k1 : ltr c b p = none → ∀ ρ' H', C0 H H' → K (.ret (.bb false)) ρ' H')
    (k2 : ∀ b' p', ltr c b p = some (b', p') → ∀ H', C0 H H' → K .nrm [some (.ss t), some (.ss b'), some (.ss p'), some (.ss [c])] H') :
    setTg (n + 2) [] (.loc 3) (.ss [c]) [some (.ss t), some (.ss b), some (.ss p), w3] H fun ρ H => exs S [] (.cons (.ifs (.and (.cons (.cmp .Eq (.loc 2) (.ss [])) (.cons (.cmp .In (.loc 3) (.loc 1)) .nil)))
  (.cons (.asg (.two (.loc 1) (.loc 2)) (.tup (.cons (.sl (.loc 1) .none (.some (.meth (.loc 1) [105, 110, 100, 101, 120] (.cons (.loc 3) .nil)))) (.cons (.sl (.loc 1) (.some (.bin .Add (.meth (.loc 1) [105, 110, 100, 101, 120] (.cons (.loc 3) .nil)) (.ii 1))) .none) .nil))))
  (.cons (.asg (.loc 2) (.ite (.cmp .In (.sl (.loc 2) .none (.some (.ii 1))) (.tup (.cons (.ss [43]) (.cons (.ss [45]) .nil)))) (.sl (.loc 2) (.some (.ii 1)) .none) (.loc 2)))
  (.cons (.ifs (.not (.call (.glob 30) (.cons (.loc 2) .nil)))
  (.cons (.ret (.bb false))
  .nil)
  .nil)
  .nil)))
  .nil)
  .nil) (n + 2) ρ H K E := by
  have hB := BIG_le hb
  have gg30 := L.gs 30 (by decide) (by decide)
  have b2 : 2 ≤ BIG := by unfold BIG; decide
  simp_arith
  rw [exs_cons_]
  simp_arith [strIn_one]
  by_cases hp0 : p = []
  · subst hp0
    simp_arith [eq_nn]
    by_cases hc : b.contains c = true
    · obtain ⟨hi, hil⟩ := idxOf_some hc
      simp_arith [hc]
      rw [exs_cons_]
      simp_arith
      refine ⟨.str b .index, cal_index, ?_⟩
      refine ⟨hb, _, hi, ?_⟩
      simp_arith [nat1, pyS_nat0, pyS_nat']
      refine ⟨hB, .str b .index, cal_index, ?_⟩
      refine ⟨hb, _, hi, ?_⟩
      simp_arith [nat1, pyS_nat0, pyS_nat']
      refine ⟨hB, b2, by omega, _, _, rfl, ?_⟩
      rw [exs_cons_]
      have hd : (b.drop ((b.takeWhile (· != c)).length + 1)).length ≤ BIG := by rw [List.length_drop]; omega
      have hd2 : (b.drop ((b.takeWhile (· != c)).length + 1)).length ≤ 1000000 := by rw [List.length_drop]; omega
      have hl : ltr c b [] = if figB (stripSg (b.drop ((b.takeWhile (· != c)).length + 1))) = true then some (b.take (b.takeWhile (· != c)).length, stripSg (b.drop ((b.takeWhile (· != c)).length + 1))) else none := by
        unfold ltr
        rw [if_pos ⟨rfl, hc⟩]
      revert hl hd hd2
      generalize b.takeWhile (· != c) = tw
      intro hd hd2 hl
      have hst := strip_le (b.drop (tw.length + 1))
      have hcs := cp_strip (hcp.drop (tw.length + 1))
      have key : exs S [] (.cons (.ifs (.not (.call (.glob 30) (.cons (.loc 2) .nil)))
  (.cons (.ret (.bb false))
  .nil)
  .nil)
  .nil) (n + 2) [some (.ss t), some (.ss (b.take tw.length)), some (.ss (stripSg (b.drop (tw.length + 1)))), some (.ss [c])] H (seqK (fun ρ H => exs S [] .nil (n + 2) ρ H K E) K) E := by
        rw [exs_cons_]
        simp_arith [glob_g gg30]
        refine ⟨by omega, (figures_ok L (by omega) hcs).mono ?_ fun _ _ z => z⟩
        rintro v H' ⟨rfl, c1⟩
        simp_arith
        cases hf : figB (stripSg (b.drop (tw.length + 1)))
        · rw [hf, if_neg (by simp)] at hl
          simp_arith
          rw [exs_cons_]
          simp_arith
          exact k1 hl _ _ c1
        · rw [hf, if_pos rfl] at hl
          simp_arith [exs_nil_]
          exact k2 _ _ hl _ c1
      simp_arith [pyS_01, pyS_1n, allSs, ssEq, List.any_cons, List.any_nil, Bool.or_false, List.length_cons, List.length_nil]
      refine ⟨hd, by decide, ?_⟩
      unfold stripSg at key
      by_cases h43 : (b.drop (tw.length + 1)).take 1 = [43] ∨ (b.drop (tw.length + 1)).take 1 = [45]
      · rw [if_pos h43] at key
        have : ((b.drop (tw.length + 1)).take 1 == [43] || (b.drop (tw.length + 1)).take 1 == [45]) = true := by
          rcases h43 with h | h <;> simp [h]
        rw [this]
        simp_arith [pyS_1n]
        exact ⟨by decide, hd, key⟩
      · rw [if_neg h43] at key
        have : ((b.drop (tw.length + 1)).take 1 == [43] || (b.drop (tw.length + 1)).take 1 == [45]) = false := by
          rw [Bool.or_eq_false_iff]
          exact ⟨beq_eq_false_iff_ne.mpr fun h => h43 (.inl h), beq_eq_false_iff_ne.mpr fun h => h43 (.inr h)⟩
        rw [this]
        simp_arith
        exact ⟨by decide, key⟩
    · have hc' : b.contains c = false := by simpa using hc
      simp_arith [hc', exs_nil_]
      exact k2 _ _ (by unfold ltr; rw [if_neg (fun z => hc z.2)]) _ .refl
  · simp_arith [show (p == []) = false by simp [hp0], exs_nil_]
    exact k2 _ _ (by unfold ltr; rw [if_neg (by simp [hp0])]) _ .refl
theorem ltr_le {c : Nat} {b p b' p' : List Nat} (h : ltr c b p = some (b', p')) (hcp : CP b) : b'.length ≤ b.length ∧ CP b' ∧ (p.length ≤ 1000000 → b.length ≤ 1000000 → p'.length ≤ 1000000) := by
  unfold ltr at h
  split at h
  · simp only at h
    split at h
    · cases h
      refine ⟨by rw [List.length_take]; omega, hcp.take _, fun _ h2 => ?_⟩
      have := strip_le (b.drop ((b.takeWhile (· != c)).length + 1))
      rw [List.length_drop] at this; omega
    · cases h
  · cases h
    exact ⟨Nat.le_refl _, hcp, fun h _ => h⟩
theorem figB_ne {b : List Nat} (h : figB b = true) : ∃ c r, b = c :: r := by
  cases b with
  | nil => cases h
  | cons c r => exact ⟨c, r, rfl⟩
theorem is_number_ok (L : L5 S) {t : List Nat} (hs : t.length ≤ 1000000) (hcp : CP t) : Calls S (n + 3) (.gg 31) [.ss t] H (fun v H' => v = .bb (isnB t) ∧ C0 H H') E := by
  refine calls_gg L.R.sv L.g_isn rfl (cw60 (L.fns 60 (by decide)) ?_)
  have hB := BIG_le hs
  have gg30 := L.gs 30 (by decide) (by decide)
  -- behind the letters
  have kend : ∀ (b : List Nat) (w2 w3 : Option V) (H1 : AH), b.length ≤ 1000000 → CP b → C0 H H1 → isnB t = fracB b → exs S [] b60.tl.tl.tl (n + 2) [some (.ss t), some (.ss b), w2, w3] H1 (endK (fun v H' => v = .bb (isnB t) ∧ C0 H H')) (fun _ i H => E i H) := by
    intro b w2 w3 H1 hb hcb hc1 heq
    have hBb := BIG_le hb
    have key : ∀ (b : List Nat) (H1 : AH), b.length ≤ 1000000 → CP b → C0 H H1 → isnB t = wholeB b → exs S [] b60.tl.tl.tl.tl (n + 2) [some (.ss t), some (.ss b), w2, w3] H1 (endK (fun v H' => v = .bb (isnB t) ∧ C0 H H')) (fun _ i H => E i H) := by
      intro b H1 hb hcb hc1 heq
      have hBb := BIG_le hb
      unfold b60
      simp only [SL.tl]
      rw [exs_cons_]
      simp_arith [glob_g gg30]
      refine ⟨by omega, (figures_ok L hb hcb).mono ?_ fun _ _ z => z⟩
      rintro v H' ⟨rfl, c1⟩
      simp_arith
      unfold wholeB at heq
      cases hf : figB b
      · rw [hf, Bool.false_and] at heq
        simp_arith
        exact ⟨by rw [heq], hc1.trans c1⟩
      · obtain ⟨c, r, rfl⟩ := figB_ne hf
        rw [hf, Bool.true_and] at heq
        simp_arith
        refine ⟨fit_nat (e := 0) (by omega), c, rfl, ?_⟩
        simp_arith [ne_11]
        rw [show (c :: r).take 1 = [c] from rfl, ne_11] at heq
        cases hc : (c != 48)
        · rw [hc, Bool.false_or] at heq
          simp_arith
          refine ⟨hBb, ?_, hc1.trans c1⟩
          rw [heq]
          exact natE (a := (c :: r).length) (b := 1)
        · rw [hc, Bool.true_or] at heq
          try simp_arith
          exact ⟨by rw [heq], hc1.trans c1⟩
    unfold b60
    simp only [SL.tl]
    rw [exs_cons_]
    simp_arith [strIn_one]
    unfold fracB at heq
    by_cases h46 : b.contains 46 = true
    · rw [if_pos h46] at heq
      simp only at heq
      obtain ⟨hi, hil⟩ := idxOf_some h46
      simp_arith [h46]
      rw [exs_cons_]
      simp_arith [glob_g gg30]
      refine ⟨.str b .index, cal_index, ?_⟩
      refine ⟨hb, _, hi, ?_⟩
      simp_arith [nat1, pyS_nat0, pyS_nat']
      refine ⟨hBb, by omega, (figures_ok L (by rw [List.length_drop]; omega) (hcb.drop _)).mono ?_ fun _ _ z => z⟩
      rintro v H' ⟨rfl, c1⟩
      simp_arith
      cases hf : figB (b.drop ((b.takeWhile (· != 46)).length + 1))
      · rw [hf, if_neg (by simp)] at heq
        simp_arith
        rw [exs_cons_]
        simp_arith
        exact ⟨by rw [heq], hc1.trans c1⟩
      · rw [hf, if_pos rfl] at heq
        simp_arith [exs_nil_]
        rw [exs_cons_]
        simp_arith
        refine ⟨.str b .index, cal_index, ?_⟩
        refine ⟨hb, _, hi, ?_⟩
        simp_arith [nat1, pyS_nat0, pyS_nat', exs_nil_]
        exact ⟨hBb, key _ _ (by rw [List.length_take]; omega) (hcb.take _) (hc1.trans c1) heq⟩
    · have h46' : b.contains 46 = false := by simpa using h46
      rw [if_neg h46] at heq
      simp_arith [h46', exs_nil_]
      exact key _ _ hb hcb hc1 heq
  -- the letters
  have klet : ∀ b : List Nat, b.length ≤ 1000000 → CP b → (if t.take 1 = [45] then t.drop 1 else t) = b → exs S [] b60.tl (n + 2) [some (.ss t), some (.ss b), none, none] H (endK (fun v H' => v = .bb (isnB t) ∧ C0 H H')) (fun _ i H => E i H) := by
    intro b hb hcb he
    have hI : isnB t = match ltr 101 b [] with
        | none => false
        | some (b, p) => match ltr 69 b p with
          | none => false
          | some (b, _) => fracB b := by unfold isnB; rw [he]
    unfold b60
    simp only [SL.tl]
    rw [exs_cons_]
    simp_arith
    rw [exs_cons_, ex_for]
    simp_arith [ev_lst]
    refine ⟨by decide, [.ss [101], .ss [69]], 0, snap_list at0, by omega, by decide, ?_⟩
    rw [forGo]
    refine ⟨snap_list at0, ltr_step L hb hcb (Nat.zero_le _) ?_ ?_⟩
    · intro hn ρ' H' c1
      simp_arith
      exact ⟨by simp [hI, hn], Chg.trans .app c1⟩
    · intro b' p' hsm H' c1
      obtain ⟨hbl, hcb', hpl⟩ := ltr_le hsm hcb
      simp_arith
      rw [forGo]
      have hl1 := c1.list (at0 (H := H) (o := .list [.ss [101], .ss [69]]) (l := []))
      refine ⟨snap_list hl1, ltr_step L (by omega) hcb' (hpl (Nat.zero_le _) hb) ?_ ?_⟩
      · intro hn ρ' H'' c2
        simp_arith
        exact ⟨by simp [hI, hsm, hn], Chg.trans .app (c1.trans c2)⟩
      · intro b'' p'' hsm2 H'' c2
        obtain ⟨hbl2, hcb'', _⟩ := ltr_le hsm2 hcb'
        simp_arith
        rw [forGo]
        refine ⟨snap_list (c2.list hl1), ?_⟩
        simp_arith
        exact kend b'' _ _ _ (by omega) hcb'' (Chg.trans .app (c1.trans c2)) (by simp only [hI, hsm, hsm2])
  unfold b60
  rw [exs_cons_]
  simp_arith [pyS_01, pyS_1n]
  refine ⟨hB, ?_⟩
  by_cases h45 : t.take 1 = [45]
  · rw [h45]
    simp_arith [beq_self_eq_true, pyS_1n]
    refine ⟨hB, ?_⟩
    have := klet (t.drop 1) (by rw [List.length_drop]; omega) (hcp.drop _) (by rw [if_pos h45])
    exact this
  · rw [show (t.take 1 == [45]) = false from beq_eq_false_iff_ne.mpr h45]
    simp_arith
    exact klet t hs hcp (by rw [if_neg h45])
/-- ends of numbers that begin at a place -/
def endsV (s : List Nat) (a : Nat) : List V := ((List.range (s.length - a)).filter fun k => isnB ((s.drop a).take (k + 1))).map fun k => .ii ((a + 1 + k : Nat) : Int)
def longN (s : List Nat) (a : Nat) : Nat := match ((List.range (s.length - a)).filter fun k => isnB ((s.drop a).take (k + 1))).getLast? with
  | some k => a + 1 + k
  | none => a
theorem pyI_last {l : List V} (h : l ≠ []) : pyI l (-1) = l.getLast? := by
  have : 1 ≤ l.length := by cases l with | nil => exact absurd rfl h | cons a b => simp
  unfold pyI
  rw [if_neg (by omega), if_pos (by omega), List.getLast?_eq_getElem?]
  congr 1
  omega
theorem longest_ok (L : L5 S) {s : List Nat} {a : Nat} (hs : s.length ≤ 1000) (hcp : CP s) (ha : a ≤ s.length) : Calls S (n + 4) (.gg 32) [.ss s, .ii a] H (fun v H' => v = .ii (longN s a) ∧ C0 H H') E := by
  refine calls_gg L.R.sv L.g_long rfl (cw80 (L.fns 80 (by decide)) ?_)
  have hB := BIG_le (n := s.length) (by omega)
  have gg31 := L.gs 31 (by decide) (by decide)
  have hH : ((H ++ [O.cell none, O.cell none]).set (H.length + 0) (O.cell (some (.ss s)))).set (H.length + 1) (O.cell (some (.ii a))) = H ++ [.cell (some (.ss s)), .cell (some (.ii a))] := by
    rw [setk, setk]; rfl
  rw [hH]
  generalize hG : H ++ [.cell (some (.ss s)), .cell (some (.ii a))] = G
  have hc0 : C0 H G := by rw [← hG]; exact .app
  have g0 : G[H.length]? = some (.cell (some (.ss s))) := by rw [← hG]; exact at0
  have g1 : G[H.length + 1]? = some (.cell (some (.ii a))) := by rw [← hG]; exact at1
  show exs S [H.length, H.length + 1] b80 (n + 3) [none] G _ _
  have hxl : (List.range (s.length - a)).length ≤ 1000000 := by rw [List.length_range]; omega
  unfold b80
  rw [exs_cons_, ex_asg]
  have hlist : ((List.map (fun (k : Nat) => V.ii (((a : Nat) : Int) + 1 + (k : Int))) (List.range (s.length - a))).filter fun v => match v with | .ii i => isnB (pyS s (some (a : Int)) (some i)) | _ => false) = endsV s a := by
    unfold endsV
    rw [List.filter_map]
    have e1 : ∀ k : Nat, (a : Int) + 1 + (k : Int) = ((a + 1 + k : Nat) : Int) := fun k => by omega
    simp only [e1]
    congr 1
    refine List.filter_congr fun k hk => ?_
    show isnB (pyS s (some (a : Int)) (some ((a + 1 + k : Nat) : Int))) = _
    rw [pyS_nat, show a + 1 + k - a = k + 1 by omega]
  refine ev_comp_call (H1 := G) (src := .rg ((a : Int) + 1) ((s.length : Int) + 1)) (xs := (List.range (s.length - a)).map fun (k : Nat) => V.ii (((a : Nat) : Int) + 1 + (k : Int))) (ep := 0) (κ' := [H.length + 1, H.length])
    (fun v => match v with | .ii i => isnB (pyS s (some (a : Int)) (some i)) | _ => false) id (fun Q' h => ?_) (by omega) (by rw [List.length_map]; exact hxl) (fun H' _ => ?_) (by rw [L.fns 81 (by decide)]; rfl) (by rw [L.fns 81 (by decide)]; rfl) ?_ ?_ ?_
  · simp_arith [ev_cel' (κ := [H.length, H.length + 1]) (i := 1) rfl g1, ev_cel' (κ := [H.length, H.length + 1]) (i := 0) rfl g0]
    exact ⟨hB, h⟩
  · unfold snap
    simp only
    rw [if_pos (by omega)]
    rw [show ((s.length : Int) + 1 - ((a : Int) + 1)).toNat = s.length - a by omega]
  · rintro v hv H' K c1 hK
    obtain ⟨k, _, rfl⟩ := List.mem_map.mp hv
    rw [evT_cons]
    simp_arith [glob_g gg31, ev_cel' (κ := [H.length + 1, H.length]) (i := 1) rfl (c1.2 _ _ g0 id), ev_cel' (κ := [H.length + 1, H.length]) (i := 0) rfl (c1.2 _ _ g1 id), evT_nil]
    refine ⟨hB, by omega, (is_number_ok L (Nat.le_trans (pyS_le _ _ _) (by omega)) (hcp.pyS _ _)).mono ?_ fun _ _ z => z⟩
    rintro v H'' ⟨rfl, c2⟩
    simp_arith
    have := hK H'' c2
    dsimp only at this
    cases hb : isnB (pyS s (some (a : Int)) (some ((a : Int) + 1 + (k : Int)))) <;> rw [hb] at this <;> simp_arith <;> exact this
  · rintro v hv _ H' K c1 hK
    simp_arith
    exact hK _ .refl
  · intro H' c1 e1
    rw [hlist, List.map_id] at e1
    simp_arith
    rw [exs_cons_]
    simp_arith [ev_cel' (κ := [H.length, H.length + 1]) (i := 1) rfl (c1.2 _ _ g1 id)]
    refine ⟨endsV s a, by unfold getL; rw [e1], ?_, ?_⟩
    · unfold endsV
      have := List.length_filter_le (fun k => isnB ((s.drop a).take (k + 1))) (List.range (s.length - a))
      rw [List.length_map]
      rw [List.length_range] at this hxl
      unfold BIG; omega
    · have hg : getL H' G.length = some (endsV s a) := by unfold getL; rw [e1]
      cases hf : ((List.range (s.length - a)).filter fun k => isnB ((s.drop a).take (k + 1))) with
      | nil =>
        have he : endsV s a = [] := by unfold endsV; rw [hf]; rfl
        have hn : longN s a = a := by unfold longN; rw [hf]; rfl
        rw [he]
        simp_arith [List.isEmpty_nil, ev_cel' (κ := [H.length, H.length + 1]) (i := 1) rfl (c1.2 _ _ g1 id)]
        exact ⟨by rw [hn], hc0.trans c1⟩
      | cons k0 kr =>
        have he : endsV s a ≠ [] := by unfold endsV; rw [hf]; simp
        have hie : (!(endsV s a).isEmpty) = true := by cases hh : endsV s a; exact absurd hh he; rfl
        rw [hie]
        simp_arith
        refine ⟨by unfold Fit; omega, endsV s a, .ii (longN s a), hg, ?_, ?_⟩
        · rw [pyI_last he]
          unfold endsV longN
          rw [List.getLast?_map]
          cases hz : ((List.range (s.length - a)).filter fun k => isnB ((s.drop a).take (k + 1))).getLast? with
          | none => rw [List.getLast?_eq_none_iff, hf] at hz; cases hz
          | some z => rfl
        · simp_arith
          exact hc0.trans c1
end
end L05
end Mine
set_option maxRecDepth 10000
namespace Mine
open PySem PySem.Calls PyProof.Rows PySem.W
namespace L05
open Mine
def sNo : List Nat := [110, 111]
def sIs : List Nat := [105, 115]
def sWhole : List Nat := [119, 104, 111, 108, 101]
def sPart : List Nat := [112, 97, 114, 116]
def plainB (t : List Nat) : Bool := (t.filter fun c => [46, 101, 69].contains c).isEmpty
/-- what the law is due, at a place -/
def dueV (s : List Nat) (a : Nat) : V := if longN s a = a then .tt [.ss sNo, .ss mExpValue, .ii a] else
  .tt [.ss sIs, .tt [.ss (if plainB ((s.drop a).take (longN s a - a)) = true then sWhole else sPart), .ss ((s.drop a).take (longN s a - a))], .ii (longN s a)]

section
variable {S : Sx} {n : Nat} {H : AH} {E : PE}
theorem due_ok (L : L5 S) {s : List Nat} {a : Nat} (hs : s.length ≤ 1000) (hcp : CP s) (ha : a ≤ s.length) : Calls S (n + 5) (.gg 34) [.ss s, .ii a] H (fun v H' => v = dueV s a ∧ C0 H H') E := by
  refine calls_gg L.R.sv L.g_due rfl (cw100 (L.fns 100 (by decide)) ?_)
  have hB := BIG_le (n := s.length) (by omega)
  have gg32 := L.gs 32 (by decide) (by decide)
  unfold b100
  rw [exs_cons_]
  simp_arith [glob_g gg32]
  refine ⟨by omega, (longest_ok L hs hcp ha).mono ?_ fun _ _ z => z⟩
  rintro v H1 ⟨rfl, c1⟩
  simp_arith
  rw [exs_cons_]
  simp_arith [natE]
  unfold dueV
  generalize longN s a = z
  by_cases hz : z = a
  · subst hz
    rw [if_pos rfl]
    simp_arith [beq_self_eq_true]
    rw [exs_cons_]
    simp_arith
    exact ⟨bg3, rfl, c1⟩
  · rw [if_neg hz]
    simp_arith [show (z == a) = false from beq_eq_false_iff_ne.mpr hz, exs_nil_]
    rw [exs_cons_]
    have ht : pyS s (some (a : Int)) (some (z : Int)) = (s.drop a).take (z - a) := pyS_nat ..
    have hcpt := (hcp.drop a).take (z - a)
    have hlt : ((s.drop a).take (z - a)).length ≤ 1000000 := by rw [List.length_take, List.length_drop]; omega
    revert ht hcpt hlt
    generalize (s.drop a).take (z - a) = t
    intro ht hcpt hlt
    simp_arith
    refine ev_comp_pure (H1 := H1) (src := .ss t) (xs := t.map fun c => .ss [c]) (ep := 0) (κ' := []) (fun v => match v with | .ss s => strIn s [46, 101, 69] | _ => false) id (fun Q' h => ?_) (by omega) (by rw [List.length_map]; exact hlt) rfl (fun _ => rfl) (by rw [L.fns 101 (by decide)]; rfl) (by rw [L.fns 101 (by decide)]; rfl) ?_ ?_ ?_
    · simp_arith [ht]; exact ⟨hB, h⟩
    · rintro v hv H' K hK
      obtain ⟨c, _, rfl⟩ := List.mem_map.mp hv
      rw [evT_cons]
      simp_arith [evT_nil]
      dsimp only at hK
      cases hb : strIn [c] [46, 101, 69] <;> rw [hb] at hK <;> exact hK
    · rintro v hv _ H' K hK
      simp_arith
      exact hK
    · rw [filter_singles, List.map_id]
      simp_arith [ev_lst]
      refine ⟨by simp, cmp_empty (hcpt.filter _) (Nat.le_trans (List.length_filter_le _ _) hlt) ?_⟩
      simp only [strIn_one]
      simp_arith
      rw [exs_cons_]
      have hp : (t.filter fun c => [46, 101, 69].contains c).isEmpty = plainB t := rfl
      rw [hp]
      simp_arith [ht]
      have c2 : C0 H (H1 ++ [O.list (singles (t.filter fun c => [46, 101, 69].contains c))] ++ [O.list []]) := c1.trans (by rw [List.append_assoc]; exact .app)
      cases plainB t
      · simp_arith [ht]
        exact ⟨hB, bg2, bg3, rfl, c2⟩
      · simp_arith [ht]
        exact ⟨hB, bg2, bg3, rfl, c2⟩

/-! ## The reader of this law -/
def fiV (t : List Nat) : V := .tt [.ss sWhole, .ss t]
def ffV (t : List Nat) : V := .tt [.ss sPart, .ss t]
/-- the hooks lie at places that nobody changes -/
def L5L (i : Nat) (P : List Nat) (H : AH) (_ : List J) : Prop := H[i]? = some (.fn 162 []) ∧ H[i + 1]? = some (.fn 163 []) ∧ i ∉ P ∧ i + 1 ∉ P
def hs5 (i : Nat) : HS := plainHS (.rr i) (.rr (i + 1)) fiV ffV (L5L i)
theorem hs5_ok (L : L5 S) (i : Nat) : HSok S (hs5 i) 1 := by
  refine plainOk (by decide) rfl rfl ?_ ?_ ?_ ?_ ?_ ?_ ?_
  · rintro P H H' log c ⟨h1, h2, h3, h4⟩
    exact ⟨c.2 _ _ h1 h3, c.2 _ _ h2 h4, h3, h4⟩
  · rintro P H k log hk ⟨h1, h2, h3, h4⟩
    have l2 := (List.getElem?_eq_some_iff.mp h2).1
    refine ⟨h1, h2, ?_, ?_⟩ <;> rw [List.mem_cons] <;> rintro (h | h)
    · omega
    · exact h3 h
    · omega
    · exact h4 h
  · rintro P P' H log hs ⟨h1, h2, h3, h4⟩
    exact ⟨h1, h2, fun x => h3 (hs _ x), fun x => h4 (hs _ x)⟩
  · rintro P H log log' h; exact h
  · intro t j h; cases h
  · rintro P H t log _ ⟨h1, h2, h3, h4⟩
    refine calls_fn L.R.sv h2 (by rw [L.fns 163 (by decide)]; rfl) (cw163 (L.fns 163 (by decide)) ?_)
    unfold b163
    simp_arith
    exact ⟨bg2, rfl, .refl⟩
  · rintro P H t log _ _ ⟨h1, h2, h3, h4⟩
    refine calls_fn L.R.sv h1 (by rw [L.fns 162 (by decide)]; rfl) (cw162 (L.fns 162 (by decide)) ?_)
    unfold b162
    simp_arith
    exact ⟨bg2, rfl, .refl⟩
/-- texts of numbers' signs and brackets: no strings, no objects -/
theorem sc_plain {h : HS} {st : Bool} {n0 b : Nat} {s : List Nat} (R : Rd S) (K : HSok S h n0) (hs : Txt s) (hn : ∀ c ∈ s, c ≠ 34 ∧ c ≠ 123) : ∀ d, ScOk S h st (n0 + 5 + 2 * d) d b s
  | 0 => by
    intro H e log P hr hL hP he hbr hF hO
    refine scan_step (N := n0 + 4) R K hF hs hr hL hP he hO (by omega) (by omega) ?_ ?_ ?_
    · intro h; exact absurd rfl (hn _ (List.mem_of_getElem? h)).1
    · intro h; exact absurd rfl (hn _ (List.mem_of_getElem? h)).2
    · intro h
      rw [drop_cons h] at hbr
      unfold br at hbr
      rw [List.filter_cons_of_pos (by decide), List.length_cons] at hbr
      omega
  | d + 1 => by
    intro H e log P hr hL hP he hbr hF hO
    refine scan_step (N := n0 + 5 + 2 * d + 1) R K hF hs hr hL hP he hO (by omega) (by omega) ?_ ?_ ?_
    · intro h; exact absurd rfl (hn _ (List.mem_of_getElem? h)).1
    · intro h; exact absurd rfl (hn _ (List.mem_of_getElem? h)).2
    · intro h
      have hd := drop_cons h
      have hlt := lt_of_get h
      rw [hd] at hbr
      unfold br at hbr
      rw [List.filter_cons_of_pos (by decide), List.length_cons] at hbr
      have hp : parse (strP st) (d + 1) (s.drop e) = (arrP (parse (strP st) d) (s.drop (e + 1))).sh .arr 1 := by
        rw [hd]; unfold parse; rfl
      refine (array_ok R K hs (by omega) (by omega) (sc_plain R K hs hn d) hr hL hP (by omega) (by unfold br; omega) (hF.to (Vp.at h (by decide))) (hO.le (by omega))).mono ?_ ?_
      · rintro v H' ⟨j, k, w, h1, h2, h3, h4, h5⟩
        obtain ⟨a, m, e1, e2, e3⟩ := sh_ok h1
        refine ⟨j, 1 + m, w, by rw [hp, e1, e2]; rfl, by rw [h2, e3, show e + 1 + (0 + m) = e + (1 + m) by omega], h3, h4, h5⟩
      · rintro i H' ⟨m, p, h1, h2, h3⟩
        refine ⟨m, 1 + p, by rw [hp, h1]; rfl, h2, by rw [← Nat.add_assoc]; exact h3⟩
end
end L05
end Mine
set_option maxRecDepth 10000
namespace Mine
open PySem PySem.Calls PyProof.Rows PySem.W

/-! ## Numbers: cutting behind them changes nothing -/
theorem digN_take (t : List Nat) (m : Nat) : digN (t.take m) = min m (digN t) := by
  unfold digN
  induction t generalizing m with
  | nil => simp
  | cons c t ih =>
    cases m with
    | zero => simp
    | succ m =>
      rw [List.take_succ_cons]
      by_cases hc : isDig c = true
      · rw [List.takeWhile_cons_of_pos hc, List.takeWhile_cons_of_pos hc, List.length_cons, List.length_cons, ih]; omega
      · rw [List.takeWhile_cons_of_neg hc, List.takeWhile_cons_of_neg hc]; simp
theorem take_get {t : List Nat} {m i : Nat} : (t.take m)[i]? = if i < m then t[i]? else none := List.getElem?_take
theorem tg_lt {t : List Nat} {m i : Nat} (h : i < m) : (t.take m)[i]? = t[i]? := by rw [take_get, if_pos h]
theorem tg_ge {t : List Nat} {m i : Nat} (h : m ≤ i) : (t.take m)[i]? = none := by rw [take_get, if_neg (by omega)]
theorem numF_take {t : List Nat} {m : Nat} (h : numF t ≤ m) : numF (t.take m) = numF t := by
  unfold numF at h ⊢
  rw [take_get, List.drop_take, digN_take]
  by_cases h46 : t[0]? = some 46
  · rw [if_pos h46] at h ⊢
    rcases Nat.eq_zero_or_pos m with rfl | hm
    · rw [if_neg (by simp)]
      split at h
      · rename_i h0; rw [if_pos h0]
      · omega
    · rw [if_pos (by rw [if_pos hm]; exact h46)]
      by_cases h0 : digN (t.drop 1) = 0
      · rw [if_pos h0, if_pos (by omega)]
      · rw [if_neg h0] at h ⊢
        rw [if_neg (by omega)]; omega
  · rw [if_neg h46, if_neg]
    split
    · exact h46
    · simp
theorem numE_take {t : List Nat} {m : Nat} (h : numE t ≤ m) : numE (t.take m) = numE t := by
  have hs : 2 ≤ m → sgE (t.take m) = sgE t := by
    intro hm
    unfold sgE
    rw [tg_lt (by omega)]
  have hs1 : 1 ≤ sgE t ∧ sgE t ≤ 2 := by unfold sgE; split <;> omega
  unfold numE at h ⊢
  rw [take_get, List.drop_take, digN_take]
  by_cases he : t[0]? = some 101 ∨ t[0]? = some 69
  · rw [if_pos he] at h ⊢
    rcases Nat.eq_zero_or_pos m with rfl | hm
    · rw [if_neg (by simp)]
      split at h
      · rename_i h0; rw [if_pos h0]
      · omega
    · rw [if_pos (by rw [if_pos hm]; exact he)]
      by_cases h2 : 2 ≤ m
      · rw [hs h2]
        by_cases h0 : digN (t.drop (sgE t)) = 0
        · rw [if_pos h0, if_pos (by omega)]
        · rw [if_neg h0] at h ⊢
          rw [if_neg (by omega)]; omega
      · have e1 : sgE (t.take m) = 1 := by
          unfold sgE
          rw [tg_ge (by omega)]; simp
        rw [e1, if_pos (by omega)]
        by_cases h0 : digN (t.drop (sgE t)) = 0
        · rw [if_pos h0]
        · rw [if_neg h0] at h; omega
  · rw [if_neg he, if_neg]
    split
    · exact he
    · simp
theorem sgn_take {r : List Nat} {m : Nat} (h : 1 ≤ m) : sgn (r.take m) = sgn r := by
  unfold sgn; rw [tg_lt (by omega)]
theorem sgn_le (r : List Nat) : sgn r ≤ 1 := by unfold sgn; split <;> omega
theorem numI_take {r : List Nat} {m : Nat} (h : numI r ≤ m) : numI (r.take m) = numI r := by
  rcases Nat.eq_zero_or_pos m with rfl | hm
  · rw [List.take_zero]
    have : numI r = 0 := by omega
    rw [this]; rfl
  have hg := sgn_le r
  unfold numI at h ⊢
  rw [sgn_take hm, List.drop_take, digN_take]
  by_cases h0 : digN (r.drop (sgn r)) = 0
  · rw [if_pos h0, if_pos (by omega)]
  · rw [if_neg h0] at h ⊢
    by_cases h8 : r[sgn r]? = some 48
    · rw [if_pos h8] at h ⊢
      rw [tg_lt (by omega), if_neg (by omega), if_pos h8]
    · rw [if_neg h8] at h ⊢
      rw [tg_lt (by omega), if_neg (by omega), if_neg h8]; omega
/-- how many signs a number takes -/
def cnt (r : List Nat) : Nat := if numI r = 0 then 0 else numI r + numF (r.drop (numI r)) + numE (r.drop (numI r + numF (r.drop (numI r))))
theorem numX_cnt {r a b c : List Nat} {k : Nat} (h : numX r = some (a, b, c, k)) : k = cnt r ∧ k ≠ 0 := by
  have := numX_le h
  unfold numX at h
  unfold cnt
  split at h
  · cases h
  · rename_i h0
    rw [if_neg h0]
    cases h
    exact ⟨rfl, this.2⟩
theorem numX_none {r : List Nat} : numX r = none ↔ cnt r = 0 := by
  unfold numX cnt
  by_cases h : numI r = 0
  · rw [if_pos h, if_pos h]; simp
  · rw [if_neg h, if_neg h]; simp; omega
theorem numX_take {r : List Nat} {m : Nat} (h : cnt r ≤ m) : numX (r.take m) = numX r := by
  unfold cnt at h
  by_cases h0 : numI r = 0
  · have := numI_take (r := r) (m := m) (by omega)
    unfold numX
    rw [this, if_pos h0, if_pos h0]
  · rw [if_neg h0] at h
    have h1 := numI_take (r := r) (m := m) (by omega)
    have h2 : numF ((r.take m).drop (numI r)) = numF (r.drop (numI r)) := by
      rw [List.drop_take]; exact numF_take (by omega)
    have h3 : numE ((r.take m).drop (numI r + numF (r.drop (numI r)))) = numE (r.drop (numI r + numF (r.drop (numI r)))) := by
      rw [List.drop_take]; exact numE_take (by omega)
    unfold numX
    rw [h1, h2, h3, if_neg h0, if_neg h0]
    rw [List.take_take, Nat.min_eq_left (by omega), List.drop_take, List.take_take, Nat.min_eq_left (by omega), List.drop_take, List.take_take, Nat.min_eq_left (by omega)]
theorem cnt_take {r : List Nat} {m : Nat} (h : cnt r ≤ m) : cnt (r.take m) = cnt r := by
  have := numX_take h
  cases hx : numX r with
  | none => rw [hx] at this; rw [numX_none.mp hx, numX_none.mp this]
  | some v =>
    obtain ⟨a, b, c, k⟩ := v
    rw [hx] at this
    rw [← (numX_cnt hx).1, ← (numX_cnt this).1]
theorem cnt_le (r : List Nat) : cnt r ≤ r.length := by
  cases hx : numX r with
  | none => rw [numX_none.mp hx]; omega
  | some v =>
    obtain ⟨a, b, c, k⟩ := v
    rw [← (numX_cnt hx).1]
    exact (numX_le hx).1

/-! ## The last of a range that passes -/
theorem last_range (p : Nat → Bool) : ∀ (m K : Nat), K < m → p K = true → (∀ k, K < k → k < m → p k = false) → ((List.range m).filter p).getLast? = some K
  | 0, _, h, _, _ => by omega
  | m + 1, K, h, hp, hn => by
    rw [List.range_succ, List.filter_append]
    by_cases hK : K = m
    · subst hK
      rw [List.filter_cons_of_pos hp, List.filter_nil, List.getLast?_append]; rfl
    · rw [List.filter_cons_of_neg (by rw [hn m (by omega) (by omega)]; simp), List.filter_nil, List.append_nil]
      exact last_range p m K (by omega) hp fun k h1 h2 => hn k h1 (by omega)
theorem last_none (p : Nat → Bool) (m : Nat) (h : ∀ k, k < m → p k = false) : ((List.range m).filter p).getLast? = none := by
  rw [List.getLast?_eq_none_iff, List.filter_eq_nil_iff]
  intro k hk
  rw [h k (List.mem_range.mp hk)]; simp

namespace L05
/-- law's longest beginning is the number that the reader reads -/
theorem longN_cnt (hN : ∀ t : List Nat, isnB t = true ↔ t ≠ [] ∧ cnt t = t.length) {s : List Nat} {a : Nat} (ha : a ≤ s.length) : longN s a = a + cnt (s.drop a) := by
  have hr : (s.drop a).length = s.length - a := by rw [List.length_drop]
  have hc := cnt_le (s.drop a)
  unfold longN
  by_cases h0 : cnt (s.drop a) = 0
  · rw [last_none]
    · rw [h0]; rfl
    · intro k hk
      cases hb : isnB ((s.drop a).take (k + 1)) with
      | false => rfl
      | true =>
        obtain ⟨h1, h2⟩ := (hN _).mp hb
        rw [cnt_take (by omega), h0, List.length_take] at h2
        omega
  · rw [last_range _ _ (cnt (s.drop a) - 1) (by omega)]
    · show a + 1 + (cnt (s.drop a) - 1) = _; omega
    · rw [hN]
      refine ⟨fun h => ?_, ?_⟩
      · have := congrArg List.length h
        rw [List.length_take] at this
        simp only [List.length_nil] at this
        omega
      · rw [cnt_take (by omega), List.length_take]; omega
    · intro k h1 h2
      cases hb : isnB ((s.drop a).take (k + 1)) with
      | false => rfl
      | true =>
        obtain ⟨h3, h4⟩ := (hN _).mp hb
        rw [cnt_take (by omega), List.length_take] at h4
        omega
end L05
end Mine
set_option maxRecDepth 10000
namespace Mine
open PySem PySem.Calls PyProof.Rows PySem.W

/-! ## The shape of a number -/
def okD (D : List Nat) : Prop := D ≠ [] ∧ (∀ x ∈ D, isDig x = true) ∧ (D.head? ≠ some 48 ∨ D.length = 1)
def okF (F : List Nat) : Prop := F = [] ∨ ∃ ds, F = 46 :: ds ∧ ds ≠ [] ∧ ∀ x ∈ ds, isDig x = true
def okX (X : List Nat) : Prop := X = [] ∨ ∃ c sg ds, X = c :: (sg ++ ds) ∧ (c = 101 ∨ c = 69) ∧ (sg = [] ∨ sg = [43] ∨ sg = [45]) ∧ ds ≠ [] ∧ ∀ x ∈ ds, isDig x = true
def body (t : List Nat) : List Nat := if t.take 1 = [45] then t.drop 1 else t
def Shape (b : List Nat) : Prop := ∃ D F X, b = D ++ F ++ X ∧ okD D ∧ okF F ∧ okX X

theorem tw_app {D r : List Nat} {c : Nat} (h : c ∉ D) : (D ++ c :: r).takeWhile (· != c) = D := by
  induction D with
  | nil => simp
  | cons a D ih =>
    rw [List.cons_append, List.takeWhile_cons_of_pos (by
      have : a ≠ c := fun e => h (by rw [e]; simp)
      simp [this]), ih fun x => h (List.mem_cons_of_mem _ x)]
theorem tk_take (c : Nat) (b : List Nat) : b.take (b.takeWhile (· != c)).length = b.takeWhile (· != c) := (List.prefix_iff_eq_take.mp (List.takeWhile_prefix (p := (· != c)) (l := b))).symm
theorem tw_split {b : List Nat} {c : Nat} (h : b.contains c = true) : b = b.takeWhile (· != c) ++ c :: b.drop ((b.takeWhile (· != c)).length + 1) := by
  have hm : c ∈ b := by simpa using h
  clear h
  induction b with
  | nil => simp at hm
  | cons a b ih =>
    by_cases ha : a = c
    · subst ha; simp
    · rw [List.takeWhile_cons_of_pos (by simp [ha]), List.length_cons, List.drop_succ_cons, List.cons_append]
      congr 1
      exact ih (by rcases List.mem_cons.mp hm with h | h; exact absurd h.symm ha; exact h)
theorem not_dig {l : List Nat} (h : ∀ x ∈ l, isDig x = true) {c : Nat} (hc : isDig c = false) : c ∉ l := fun hm => by rw [h c hm] at hc; cases hc
theorem digN_all {D r : List Nat} (h : ∀ x ∈ D, isDig x = true) (hr : ∀ c, r.head? = some c → isDig c = false) : digN (D ++ r) = D.length := by
  unfold digN
  induction D with
  | nil =>
    cases r with
    | nil => rfl
    | cons c r => rw [List.nil_append, List.takeWhile_cons_of_neg (by rw [hr c rfl]; simp)]
  | cons a D ih =>
    rw [List.cons_append, List.takeWhile_cons_of_pos (h a (by simp)), List.length_cons, List.length_cons, ih fun x hx => h x (List.mem_cons_of_mem _ hx)]
theorem okF_head {F X : List Nat} (hF : okF F) (hX : okX X) : ∀ c, (F ++ X).head? = some c → isDig c = false := by
  intro c h
  rcases hF with rfl | ⟨ds, rfl, _⟩
  · rcases hX with rfl | ⟨e, sg, ds, rfl, he, _⟩
    · cases h
    · cases h; rcases he with rfl | rfl <;> rfl
  · cases h; rfl
theorem okX_head {X : List Nat} (hX : okX X) : ∀ c, X.head? = some c → isDig c = false := okF_head (F := []) (.inl rfl) hX

namespace L05
theorem figB_iff {b : List Nat} : figB b = true ↔ b ≠ [] ∧ ∀ x ∈ b, isDig x = true := by
  unfold figB
  rw [Bool.and_eq_true, List.isEmpty_iff, List.filter_eq_nil_iff]
  simp
theorem wholeB_iff {b : List Nat} : wholeB b = true ↔ okD b := by
  unfold wholeB okD
  rw [Bool.and_eq_true, figB_iff, Bool.or_eq_true]
  constructor
  · rintro ⟨⟨h1, h2⟩, h3⟩
    refine ⟨h1, h2, ?_⟩
    rcases h3 with h3 | h3
    · left
      intro h
      cases b with
      | nil => exact h1 rfl
      | cons a b => cases h; simp at h3
    · right; simpa using h3
  · rintro ⟨h1, h2, h3⟩
    refine ⟨⟨h1, h2⟩, ?_⟩
    rcases h3 with h3 | h3
    · left
      cases b with
      | nil => exact absurd rfl h1
      | cons a b =>
        have : a ≠ 48 := fun e => h3 (by rw [e]; rfl)
        simp [this]
    · right; simpa using h3
theorem fracB_iff {b : List Nat} : fracB b = true ↔ ∃ D F, b = D ++ F ∧ okD D ∧ okF F := by
  constructor
  · intro h
    unfold fracB at h
    split at h
    · rename_i hc
      simp only at h
      split at h
      · rename_i hf
        rw [tk_take] at h
        exact ⟨_, _, tw_split hc, wholeB_iff.mp h, .inr ⟨_, rfl, (figB_iff.mp hf).1, (figB_iff.mp hf).2⟩⟩
      · cases h
    · exact ⟨b, [], by simp, wholeB_iff.mp h, .inl rfl⟩
  · rintro ⟨D, F, rfl, hD, hF⟩
    have h46 : 46 ∉ D := not_dig hD.2.1 rfl
    unfold fracB
    rcases hF with rfl | ⟨ds, rfl, h1, h2⟩
    · rw [if_neg (by simpa using h46), List.append_nil]
      exact wholeB_iff.mpr hD
    · rw [if_pos (by simp)]
      simp only
      rw [tw_app h46]
      have e1 : (D ++ 46 :: ds).drop (D.length + 1) = ds := by rw [← List.drop_drop]; simp
      rw [e1, if_pos (figB_iff.mpr ⟨h1, h2⟩)]
      rw [List.take_left']
      · exact wholeB_iff.mpr hD
      · rfl
theorem strip_ds {sg ds : List Nat} (hs : sg = [] ∨ sg = [43] ∨ sg = [45]) (h1 : ds ≠ []) (h2 : ∀ x ∈ ds, isDig x = true) : stripSg (sg ++ ds) = ds := by
  unfold stripSg
  rcases hs with rfl | rfl | rfl
  · rw [List.nil_append, if_neg]
    cases ds with
    | nil => exact absurd rfl h1
    | cons a ds =>
      have := h2 a (by simp)
      rintro (h | h) <;> cases h <;> cases this
  · rw [if_pos (.inl rfl)]; rfl
  · rw [if_pos (.inr rfl)]; rfl
theorem strip_of (r : List Nat) : ∃ sg, r = sg ++ stripSg r ∧ (sg = [] ∨ sg = [43] ∨ sg = [45]) := by
  unfold stripSg
  split
  · rename_i h
    rcases h with h | h
    · exact ⟨[43], by rw [← h, List.take_append_drop], .inr (.inl rfl)⟩
    · exact ⟨[45], by rw [← h, List.take_append_drop], .inr (.inr rfl)⟩
  · exact ⟨[], rfl, .inl rfl⟩
theorem isnB_shape (t : List Nat) : isnB t = true ↔ Shape (body t) := by
  have hI : isnB t = match ltr 101 (body t) [] with
        | none => false
        | some (b, p) => match ltr 69 b p with
          | none => false
          | some (b, _) => fracB b := rfl
  rw [hI]
  generalize body t = b
  have lt : ∀ (c : Nat) (b p : List Nat), p ≠ [] → ltr c b p = some (b, p) := fun c b p h => by unfold ltr; rw [if_neg fun z => h z.1]
  have ln : ∀ (c : Nat) (b : List Nat), b.contains c = false → ltr c b [] = some (b, []) := fun c b h => by unfold ltr; rw [if_neg fun z => by rw [h] at z; cases z.2]
  have ly : ∀ (c : Nat) (b : List Nat), b.contains c = true → ltr c b [] = if figB (stripSg (b.drop ((b.takeWhile (· != c)).length + 1))) = true then some (b.take (b.takeWhile (· != c)).length, stripSg (b.drop ((b.takeWhile (· != c)).length + 1))) else none := fun c b h => by unfold ltr; rw [if_pos ⟨rfl, h⟩]
  have tk := tk_take
  have mk : ∀ (c : Nat) (b : List Nat), (c = 101 ∨ c = 69) → b.contains c = true → figB (stripSg (b.drop ((b.takeWhile (· != c)).length + 1))) = true → fracB (b.takeWhile (· != c)) = true → Shape b := by
    intro c b hc h hf hfr
    obtain ⟨D, F, e, hD, hF⟩ := fracB_iff.mp hfr
    obtain ⟨sg, e2, hs⟩ := strip_of (b.drop ((b.takeWhile (· != c)).length + 1))
    refine ⟨D, F, c :: (sg ++ stripSg (b.drop ((b.takeWhile (· != c)).length + 1))), ?_, hD, hF, .inr ⟨c, sg, _, rfl, hc, hs, (figB_iff.mp hf).1, (figB_iff.mp hf).2⟩⟩
    rw [← e2, ← e]
    exact tw_split h
  constructor
  · intro h
    cases h1 : b.contains 101 with
    | true =>
      rw [ly _ _ h1] at h
      split at h
      · cases h
      · rename_i b' p' he
        split at he
        · rename_i hf
          cases he
          rw [lt _ _ _ (figB_iff.mp hf).1] at h
          simp only at h
          rw [tk] at h
          exact mk 101 b (.inl rfl) h1 hf h
        · cases he
    | false =>
      rw [ln _ _ h1] at h
      simp only at h
      cases h2 : b.contains 69 with
      | true =>
        rw [ly _ _ h2] at h
        split at h
        · cases h
        · rename_i b' p' he
          split at he
          · rename_i hf
            cases he
            rw [tk] at h
            exact mk 69 b (.inr rfl) h2 hf h
          · cases he
      | false =>
        rw [ln _ _ h2] at h
        obtain ⟨D, F, e, hD, hF⟩ := fracB_iff.mp h
        exact ⟨D, F, [], by rw [List.append_nil]; exact e, hD, hF, .inl rfl⟩
  · rintro ⟨D, F, X, rfl, hD, hF, hX⟩
    have hDF : ∀ x ∈ D ++ F, isDig x = true ∨ x = 46 := by
      intro x hx
      rcases List.mem_append.mp hx with h | h
      · exact .inl (hD.2.1 x h)
      · rcases hF with rfl | ⟨ds, rfl, _, h2⟩
        · simp at h
        · rcases List.mem_cons.mp h with h | h
          · exact .inr h
          · exact .inl (h2 x h)
    have n101 : 101 ∉ D ++ F := fun h => by rcases hDF _ h with h | h <;> cases h
    have n69 : 69 ∉ D ++ F := fun h => by rcases hDF _ h with h | h <;> cases h
    have hfr : fracB (D ++ F) = true := fracB_iff.mpr ⟨D, F, rfl, hD, hF⟩
    rcases hX with rfl | ⟨c, sg, ds, rfl, hc, hs, h1, h2⟩
    · rw [List.append_nil, ln _ _ (by simpa using n101)]
      simp only
      rw [ln _ _ (by simpa using n69)]
      exact hfr
    · have hst := strip_ds hs h1 h2
      have hfg : figB ds = true := figB_iff.mpr ⟨h1, h2⟩
      have e1 : ∀ c : Nat, ((D ++ F) ++ c :: (sg ++ ds)).drop ((D ++ F).length + 1) = sg ++ ds := fun c => by rw [← List.drop_drop]; simp
      rcases hc with rfl | rfl
      · rw [ly _ _ (by simp), tw_app n101, e1, hst, if_pos hfg]
        simp only
        rw [lt _ _ _ h1]
        simp only
        rw [List.take_left']
        · exact hfr
        · rfl
      · rw [ln]
        · simp only
          rw [ly _ _ (by simp), tw_app n69, e1, hst, if_pos hfg]
          simp only
          rw [List.take_left']
          · exact hfr
          · rfl
        · have : 101 ∉ D ++ F ++ 69 :: (sg ++ ds) := by
            intro h
            rcases List.mem_append.mp h with h | h
            · exact n101 h
            · rcases List.mem_cons.mp h with h | h
              · cases h
              · rcases List.mem_append.mp h with h | h
                · rcases hs with rfl | rfl | rfl <;> simp at h
                · exact not_dig h2 rfl h
          simpa using this
end L05
end Mine
set_option maxRecDepth 10000
namespace Mine
open PySem PySem.Calls PyProof.Rows PySem.W

theorem take1_iff {t : List Nat} {c : Nat} : t.take 1 = [c] ↔ t[0]? = some c := by
  cases t with
  | nil => simp
  | cons a t => simp
theorem body_eq (t : List Nat) : body t = t.drop (sgn t) := by
  unfold body sgn
  by_cases h : t[0]? = some 45
  · rw [if_pos (take1_iff.mpr h), if_pos h]
  · rw [if_neg fun z => h (take1_iff.mp z), if_neg h]; rfl
theorem numF_app {F X : List Nat} (hF : okF F) (hX : okX X) : numF (F ++ X) = F.length := by
  unfold numF
  rcases hF with rfl | ⟨ds, rfl, h1, h2⟩
  · rw [List.nil_append, if_neg]; · rfl
    rcases hX with rfl | ⟨c, sg, ds, rfl, hc, _⟩
    · simp
    · rcases hc with rfl | rfl <;> simp
  · have e1 : (46 :: ds ++ X).drop 1 = ds ++ X := rfl
    rw [if_pos (by rfl), e1, digN_all h2 (okX_head hX), if_neg]
    · rw [List.length_cons]; omega
    · intro h
      exact h1 (List.length_eq_zero_iff.mp h)
theorem numE_all {X : List Nat} (hX : okX X) : numE X = X.length := by
  rcases hX with rfl | ⟨c, sg, ds, rfl, hc, hs, h1, h2⟩
  · rfl
  · have hg : sgE (c :: (sg ++ ds)) = 1 + sg.length := by
      unfold sgE
      rcases hs with rfl | rfl | rfl
      · rw [if_neg]; · rfl
        cases ds with
        | nil => exact absurd rfl h1
        | cons a ds =>
          have := h2 a (by simp)
          rintro (h | h) <;> cases h <;> cases this
      · rw [if_pos (.inr rfl)]; rfl
      · rw [if_pos (.inl rfl)]; rfl
    have hd : digN ds = ds.length := by
      have := digN_all (r := []) h2 (by simp)
      rwa [List.append_nil] at this
    have e1 : (c :: (sg ++ ds)).drop (1 + sg.length) = ds := by rw [← List.drop_drop]; simp
    unfold numE
    rw [if_pos (by rcases hc with rfl | rfl <;> simp), hg, e1, hd, if_neg]
    · simp only [List.length_cons, List.length_append]; omega
    · intro h
      exact h1 (List.length_eq_zero_iff.mp h)
theorem shape_cnt {t D F X : List Nat} (e : t.drop (sgn t) = D ++ F ++ X) (hD : okD D) (hF : okF F) (hX : okX X) : numI t = sgn t + D.length ∧ t.drop (sgn t + D.length) = F ++ X ∧ numF (t.drop (numI t)) = F.length ∧ numE (t.drop (numI t + F.length)) = X.length ∧ t ≠ [] ∧ cnt t = t.length := by
  have hdig : digN (t.drop (sgn t)) = D.length := by
    rw [e, List.append_assoc]
    exact digN_all hD.2.1 (okF_head hF hX)
  have hD0 : D.length ≠ 0 := fun h => hD.1 (List.length_eq_zero_iff.mp h)
  have hhd : t[sgn t]? = D.head? := by
    have h1 : (t.drop (sgn t))[0]? = t[sgn t]? := by rw [List.getElem?_drop]; rfl
    rw [← h1, e]
    cases D with
    | nil => exact absurd rfl hD.1
    | cons a D => rfl
  have hI : numI t = sgn t + D.length := by
    unfold numI
    rw [hdig, if_neg hD0, hhd]
    split
    · rename_i h
      rcases hD.2.2 with h2 | h2
      · exact absurd h h2
      · rw [h2]
    · rfl
  have e2 : t.drop (sgn t + D.length) = F ++ X := by
    rw [← List.drop_drop, e, List.append_assoc, List.drop_left']; rfl
  have e3 : t.drop (sgn t + D.length + F.length) = X := by
    rw [← List.drop_drop, e2, List.drop_left']; rfl
  have hne : t ≠ [] := by
    rintro rfl
    have := congrArg List.length e
    simp only [List.drop_nil, List.length_nil, List.length_append] at this
    omega
  have hF' : numF (t.drop (numI t)) = F.length := by rw [hI, e2]; exact numF_app hF hX
  have hE' : numE (t.drop (numI t + F.length)) = X.length := by rw [hI, e3]; exact numE_all hX
  refine ⟨hI, e2, hF', hE', hne, ?_⟩
  unfold cnt
  rw [if_neg (by omega), hF', hE', hI]
  have := congrArg List.length e
  simp only [List.length_drop, List.length_append] at this
  have hs := sgn_le t
  have : 1 ≤ t.length := by cases t with | nil => exact absurd rfl hne | cons a b => simp
  omega
/-- the parts of a number read -/
theorem num_parts {r : List Nat} (h : numI r ≠ 0) : okD ((r.drop (sgn r)).take (numI r - sgn r)) ∧ sgn r < numI r ∧ okF ((r.drop (numI r)).take (numF (r.drop (numI r)))) ∧ ∀ t : List Nat, okX (t.take (numE t)) := by
  obtain ⟨g, m, hg, hi, hm, hd⟩ := numI_shape h
  have hml : m ≤ (r.drop g).length := Nat.le_trans hd (digN_le _)
  have hdg : ∀ (t : List Nat) (k : Nat), k ≤ digN t → ∀ x ∈ t.take k, isDig x = true := fun t k hk x hx => by
    have := dig_take t k hk x hx
    unfold isDig; exact decide_eq_true this
  refine ⟨?_, by omega, ?_, ?_⟩
  · rw [hi, hg, Nat.add_sub_cancel_left]
    refine ⟨fun e => ?_, hdg _ _ hd, ?_⟩
    · have := congrArg List.length e
      rw [List.length_take] at this
      simp only [List.length_nil] at this; omega
    · unfold numI at hi h
      split at hi
      · omega
      · rename_i h0
        rw [hg] at hi h0
        split at hi
        · right
          rw [List.length_take]; omega
        · rename_i h8
          left
          intro h
          apply h8
          have : (r.drop g)[0]? = r[g]? := by rw [List.getElem?_drop]; rfl
          rw [← this, ← h, ← List.head?_eq_getElem?]
          cases m with
          | zero => exact absurd rfl hm
          | succ m => cases r.drop g <;> rfl
  · generalize r.drop (numI r) = t
    unfold numF
    split
    · rename_i h46
      split
      · left; rfl
      · rename_i h0
        right
        cases t with
        | nil => cases h46
        | cons a t =>
          cases h46
          rw [Nat.add_comm, List.take_succ_cons]
          refine ⟨_, rfl, fun e => ?_, hdg _ _ (Nat.le_refl _)⟩
          have := congrArg List.length e
          have h2 := digN_le t
          rw [List.length_take] at this
          simp only [List.length_nil, List.drop_succ_cons, List.drop_zero] at this h0; omega
    · left; rfl
  · intro t
    unfold numE
    split
    · rename_i he
      split
      · left; rfl
      · rename_i h0
        right
        cases t with
        | nil => simp at he
        | cons a t =>
          have ha : a = 101 ∨ a = 69 := by simpa using he
          have hl := digN_le ((a :: t).drop (sgE (a :: t)))
          unfold sgE at h0 hl ⊢
          by_cases hs : (a :: t)[1]? = some 45 ∨ (a :: t)[1]? = some 43
          · rw [if_pos hs] at h0 hl ⊢
            cases t with
            | nil => simp at hs
            | cons b t =>
              have hb : b = 45 ∨ b = 43 := by simpa using hs
              refine ⟨a, [b], t.take (digN t), ?_, ha, by rcases hb with rfl | rfl <;> simp, fun e => ?_, hdg _ _ (Nat.le_refl _)⟩
              · show (a :: b :: t).take (2 + digN t) = _
                rw [Nat.add_comm]; rfl
              · have := congrArg List.length e
                have h2 := digN_le t
                rw [List.length_take] at this
                simp only [List.length_nil, List.drop_succ_cons, List.drop_zero] at this h0; omega
          · rw [if_neg hs] at h0 hl ⊢
            refine ⟨a, [], t.take (digN t), ?_, ha, .inl rfl, fun e => ?_, hdg _ _ (Nat.le_refl _)⟩
            · show (a :: t).take (1 + digN t) = _
              rw [Nat.add_comm]; rfl
            · have := congrArg List.length e
              have h2 := digN_le t
              rw [List.length_take] at this
              simp only [List.length_nil, List.drop_succ_cons, List.drop_zero] at this h0; omega
    · left; rfl
theorem cnt_shape (t : List Nat) : Shape (body t) ↔ t ≠ [] ∧ cnt t = t.length := by
  rw [body_eq]
  constructor
  · rintro ⟨D, F, X, e, hD, hF, hX⟩
    exact (shape_cnt e hD hF hX).2.2.2.2
  · rintro ⟨h1, h2⟩
    have h0 : numI t ≠ 0 := by
      intro h
      unfold cnt at h2
      rw [if_pos h] at h2
      exact h1 (List.length_eq_zero_iff.mp h2.symm)
    obtain ⟨hD, hlt, hF, hX⟩ := num_parts h0
    refine ⟨_, _, _, ?_, hD, hF, hX (t.drop (numI t + numF (t.drop (numI t))))⟩
    unfold cnt at h2
    rw [if_neg h0] at h2
    have e1 : t.drop (numI t) = (t.drop (sgn t)).drop (numI t - sgn t) := by rw [List.drop_drop]; congr 1; omega
    have e2 : (t.drop (numI t + numF (t.drop (numI t)))).take (numE (t.drop (numI t + numF (t.drop (numI t))))) = t.drop (numI t + numF (t.drop (numI t))) := by
      rw [List.take_of_length_le]
      rw [List.length_drop]; omega
    rw [e2, ← List.drop_drop, List.append_assoc, List.take_append_drop, e1, List.take_append_drop]
theorem L05.isnB_cnt (t : List Nat) : L05.isnB t = true ↔ t ≠ [] ∧ cnt t = t.length := (L05.isnB_shape t).trans (cnt_shape t)
/-- what was read, and whether it is a whole number -/
theorem numX_parts {r a b c : List Nat} {k : Nat} (h : numX r = some (a, b, c, k)) : r.take k = a ++ b ++ c ∧ (L05.plainB (r.take k) = true ↔ b = [] ∧ c = []) ∧ ∀ x ∈ r.take k, x ≠ 32 ∧ x ≠ 93 := by
  unfold numX at h
  split at h
  · cases h
  rename_i h0
  cases h
  obtain ⟨hD, hlt, hF, hX⟩ := num_parts h0
  have hX := hX (r.drop (numI r + numF (r.drop (numI r))))
  have e0 : r.take (numI r + numF (r.drop (numI r)) + numE (r.drop (numI r + numF (r.drop (numI r))))) = r.take (numI r) ++ (r.drop (numI r)).take (numF (r.drop (numI r))) ++ (r.drop (numI r + numF (r.drop (numI r)))).take (numE (r.drop (numI r + numF (r.drop (numI r))))) := by
    rw [List.take_add, List.take_add]
  have ha : ∀ x ∈ r.take (numI r), x = 45 ∨ isDig x = true := by
    intro x hx
    have e1 : r.take (numI r) = r.take (sgn r) ++ (r.drop (sgn r)).take (numI r - sgn r) := by
      rw [← List.take_add]; congr 1; omega
    rw [e1] at hx
    rcases List.mem_append.mp hx with hx | hx
    · left
      unfold sgn at hx
      split at hx
      · rename_i h45
        rw [take1_iff.mpr h45, List.mem_singleton] at hx
        exact hx
      · simp at hx
    · exact .inr (hD.2.1 x hx)
  refine ⟨e0, ?_, ?_⟩
  · rw [e0]
    generalize (r.drop (numI r)).take (numF (r.drop (numI r))) = F at hF
    generalize (r.drop (numI r + numF (r.drop (numI r)))).take (numE (r.drop (numI r + numF (r.drop (numI r))))) = X at hX
    unfold L05.plainB
    rw [List.isEmpty_iff, List.filter_eq_nil_iff]
    constructor
    · intro hp
      constructor
      · rcases hF with h | ⟨ds, rfl, _⟩
        · exact h
        · exact absurd rfl (hp 46 (by simp))
      · rcases hX with h | ⟨c, sg, ds, rfl, hc, _⟩
        · exact h
        · rcases hc with rfl | rfl
          · exact absurd rfl (hp 101 (by simp))
          · exact absurd rfl (hp 69 (by simp))
    · rintro ⟨rfl, rfl⟩ x hx
      rw [List.append_nil, List.append_nil] at hx
      rcases ha x hx with rfl | h
      · decide
      · intro hc
        have : x = 46 ∨ x = 101 ∨ x = 69 := by simpa using hc
        rcases this with rfl | rfl | rfl <;> cases h
  · rw [e0]
    have key : ∀ y : Nat, (y = 32 ∨ y = 93) → y ∉ r.take (numI r) ++ (r.drop (numI r)).take (numF (r.drop (numI r))) ++ (r.drop (numI r + numF (r.drop (numI r)))).take (numE (r.drop (numI r + numF (r.drop (numI r))))) := by
      intro x hy hx
      have nd : isDig x = false := by rcases hy with rfl | rfl <;> rfl
      have n45 : x ≠ 45 ∧ x ≠ 46 ∧ x ≠ 43 ∧ x ≠ 101 ∧ x ≠ 69 := by rcases hy with rfl | rfl <;> decide
      rcases List.mem_append.mp hx with hx | hx
      · rcases List.mem_append.mp hx with hx | hx
        · rcases ha _ hx with h | h
          · exact n45.1 h
          · rw [nd] at h; cases h
        · rcases hF with h | ⟨ds, h, _, h2⟩
          · rw [h] at hx; simp at hx
          · rw [h] at hx
            rcases List.mem_cons.mp hx with h3 | h3
            · exact n45.2.1 h3
            · rw [h2 _ h3] at nd; cases nd
      · rcases hX with h | ⟨c, sg, ds, h, hc, hs, _, h2⟩
        · rw [h] at hx; simp at hx
        · rw [h] at hx
          rcases List.mem_cons.mp hx with h3 | h3
          · rcases hc with rfl | rfl
            · exact n45.2.2.2.1 h3
            · exact n45.2.2.2.2 h3
          · rcases List.mem_append.mp h3 with h4 | h4
            · rcases hs with rfl | rfl | rfl
              · simp at h4
              · rw [List.mem_singleton] at h4; exact n45.2.2.1 h4
              · rw [List.mem_singleton] at h4; exact n45.1 h4
            · rw [h2 _ h4] at nd; cases nd
    intro x hx
    exact ⟨fun e => key x (.inl e) hx, fun e => key x (.inr e) hx⟩
end Mine
set_option maxRecDepth 10000
namespace Mine
open PySem PySem.Calls PyProof.Rows PySem.W
namespace L05
open Mine
section
variable {S : Sx} {n d b r i : Nat} {H : AH} {E : PE} {s : List Nat}
/-- what raw_from_text tells, as the law has it -/
theorem raw5_ok (L : L5 S) (hs : Txt s) (hn : ∀ c ∈ s, c ≠ 34 ∧ c ≠ 123) (hr : RdObj (hs5 i) true b r H) (hL : L5L i [] H []) {a : Nat} (ha : a ≤ s.length) (hbr : br (s.drop a) ≤ d) {N : Nat} (hN : 1 + 5 + 2 * d + 2 = N) :
    Calls S (N + 1) (.gg 33) [.rr r, .ss s, .ii a] H (fun v H' => C0 H H' ∧ ((∃ j k w, rawP true d (s.drop a) = .ok j k ∧ RJ fiV ffV [] H' w j ∧ v = .tt [.ss sIs, w, .ii ((a + k : Nat) : Int)]) ∨
      ∃ m k, rawP true d (s.drop a) = .err m k ∧ v = .tt [.ss sNo, .ss m, .ii ((a + k : Nat) : Int)])) E := by
  refine calls_gg L.R.sv L.g_raw rfl (cw120 (L.fns 120 (by decide)) ?_)
  obtain ⟨dx, es, o1, o2, o3, o4, o5, o6, o7⟩ := hr.o
  have hcal : calOf S (.rr r) n_raw_from_text H = some (.val (.gg 102) [.rr r]) := by
    unfold calOf
    simp only [o1, o2, o5, L.R.cm2]
  unfold b120
  rw [exs_cons_, ex_try]
  refine ⟨by omega, ?_⟩
  rw [exs_cons_]
  simp_arith
  refine ⟨_, hcal, ?_⟩
  unfold calQ
  subst hN
  refine ⟨by omega, (raw_ok (log := []) L.R (by omega) hs (sc_plain L.R (hs5_ok L i) hs hn d) hr hL (fun _ h => by cases h) ha hbr (.inl (by show V.rr _ ≠ V.nn; simp)) (LogB.nil hs (by omega))).mono ?_ ?_⟩
  · rintro v H' ⟨j, k, w, hp, rfl, c1, r1, l1⟩
    simp_arith
    refine ⟨by omega, _, _, rfl, ?_⟩
    simp_arith [exs_nil_]
    rw [exs_cons_]
    simp_arith
    exact ⟨bg3, c1, .inl ⟨j, k, w, hp, r1, rfl⟩⟩
  · rintro x H' ⟨m, p, hp, c1, er⟩
    refine ⟨er.exc L.R, ?_⟩
    try simp_arith
    refine attr_err L.R er (a := n_msg) (by decide) (v := .ss m) rfl ?_
    try simp_arith
    refine attr_err L.R er (a := n_pos) (by decide) (v := .ii ((a + p : Nat) : Int)) rfl ?_
    try simp_arith
    exact ⟨bg3, c1, .inr ⟨m, p, hp, rfl⟩⟩
theorem all5_ok (L : L5 S) (hs : Txt s) (hn : ∀ c ∈ s, c ≠ 34 ∧ c ≠ 123) (hr : RdObj (hs5 i) true b r H) (hL : L5L i [] H []) (hbr : br s ≤ d) {N : Nat} (hN : 1 + 5 + 2 * d + 3 = N) :
    Calls S (N + 1) (.gg 35) [.rr r, .ss s] H (fun v H' => C0 H H' ∧ ((∃ j k w, rawP true d s = .ok j k ∧ k + wsN (s.drop k) = s.length ∧ RJ fiV ffV [] H' w j ∧ v = .tt [.ss sIs, w]) ∨
      ∃ p : Nat, v = .tt [.ss sNo, .ii p] ∧ ((∃ m, rawP true d s = .err m p) ∨ ∃ j k, rawP true d s = .ok j k ∧ k + wsN (s.drop k) ≠ s.length ∧ p = k + wsN (s.drop k)))) E := by
  refine calls_gg L.R.sv L.g_all rfl (cw140 (L.fns 140 (by decide)) ?_)
  obtain ⟨dx, es, o1, o2, o3, o4, o5, o6, o7⟩ := hr.o
  have hcal : calOf S (.rr r) n_from_text H = some (.val (.gg 101) [.rr r]) := by
    unfold calOf
    simp only [o1, o2, o4, L.R.cm1]
  unfold b140
  rw [exs_cons_, ex_try]
  refine ⟨by omega, ?_⟩
  rw [exs_cons_]
  simp_arith
  refine ⟨_, hcal, ?_⟩
  unfold calQ
  subst hN
  refine ⟨by omega, (from_ok (log := []) L.R (by omega) hs (sc_plain L.R (hs5_ok L i) hs hn d) hr hL (fun _ h => by cases h) hbr (.inl (by show V.rr _ ≠ V.nn; simp)) (LogB.nil hs (by omega))).mono ?_ ?_⟩
  · rintro v H' ⟨j, k, hp, hz, c1, r1, l1⟩
    try simp_arith
    exact ⟨bg2, c1, .inl ⟨j, k, v, hp, hz, r1, rfl⟩⟩
  · rintro x H' ⟨c1, hc⟩
    rcases hc with ⟨m, p, hp, er⟩ | ⟨j, k, hp, hz, er⟩
    · refine ⟨er.exc L.R, ?_⟩
      try simp_arith
      refine attr_err L.R er (a := n_pos) (by decide) (v := .ii ((p : Nat) : Int)) rfl ?_
      try simp_arith
      exact ⟨bg2, c1, .inr ⟨p, rfl, .inl ⟨m, hp⟩⟩⟩
    · refine ⟨er.exc L.R, ?_⟩
      try simp_arith
      refine attr_err L.R er (a := n_pos) (by decide) (v := .ii ((k + wsN (s.drop k) : Nat) : Int)) rfl ?_
      try simp_arith
      exact ⟨bg2, c1, .inr ⟨_, rfl, .inr ⟨j, k, hp, hz, rfl⟩⟩⟩
end
end L05
end Mine
set_option maxRecDepth 10000
namespace Mine
open PySem PySem.Calls PyProof.Rows PySem.W

def Alp (s : List Nat) : Prop := ∀ c ∈ s, c ∈ [48, 49, 50, 51, 52, 53, 54, 55, 56, 57, 46, 101, 69, 43, 45, 32]
def blN (r : List Nat) : Nat := (r.takeWhile (· == 32)).length
theorem alp_facts : ∀ c ∈ [48, 49, 50, 51, 52, 53, 54, 55, 56, 57, 46, 101, 69, 43, 45, 32], c < 1114112 ∧ c ≠ 34 ∧ c ≠ 44 ∧ c ≠ 91 ∧ c ≠ 93 ∧ c ≠ 123 ∧ c ≠ 110 ∧ c ≠ 116 ∧ c ≠ 102 ∧ c ≠ 65279 ∧ c ≠ 239 ∧ isWs c = (c == 32) := by decide
theorem Alp.drop {s : List Nat} (h : Alp s) (k : Nat) : Alp (s.drop k) := fun c hc => h c (List.mem_of_mem_drop hc)
theorem Alp.take {s : List Nat} (h : Alp s) (k : Nat) : Alp (s.take k) := fun c hc => h c (List.mem_of_mem_take hc)
theorem Alp.cp {s : List Nat} (h : Alp s) : CP s := fun c hc => (alp_facts c (h c hc)).1
theorem blN_le (r : List Nat) : blN r ≤ r.length := (List.takeWhile_prefix (· == 32)).length_le
theorem mem_tw {p : Nat → Bool} {c : Nat} : ∀ (l : List Nat), c ∈ l.takeWhile p → p c = true
  | [], h => by simp at h
  | a :: l, h => by
    by_cases ha : p a = true
    · rw [List.takeWhile_cons_of_pos ha] at h
      rcases List.mem_cons.mp h with h | h
      · rw [h]; exact ha
      · exact mem_tw l h
    · rw [List.takeWhile_cons_of_neg ha] at h; simp at h
theorem drop_bl (r : List Nat) : r.dropWhile (· == 32) = r.drop (blN r) := by
  unfold blN
  induction r with
  | nil => rfl
  | cons c r ih =>
    by_cases h : (c == 32) = true
    · rw [List.dropWhile_cons_of_pos (p := (· == 32)) h, List.takeWhile_cons_of_pos (p := (· == 32)) h, List.length_cons, List.drop_succ_cons, ih]
    · rw [List.dropWhile_cons_of_neg (p := (· == 32)) h, List.takeWhile_cons_of_neg (p := (· == 32)) h]; rfl
theorem bl_next (r : List Nat) : ∀ c, (r.drop (blN r)).head? = some c → c ≠ 32 := by
  intro c h
  rw [← drop_bl] at h
  induction r with
  | nil => cases h
  | cons a r ih =>
    by_cases ha : (a == 32) = true
    · rw [List.dropWhile_cons_of_pos (p := (· == 32)) ha] at h; exact ih h
    · rw [List.dropWhile_cons_of_neg (p := (· == 32)) ha] at h
      cases h
      simpa using ha
theorem wsN_alp {r t : List Nat} (h : Alp r) (ht : t = [] ∨ t = [93]) : wsN (r ++ t) = blN r := by
  unfold wsN blN
  induction r with
  | nil => rcases ht with rfl | rfl <;> rfl
  | cons c r ih =>
    have hf := (alp_facts c (h c (by simp))).2.2.2.2.2.2.2.2.2.2.2
    have ih := ih fun x hx => h x (List.mem_cons_of_mem _ hx)
    rw [List.cons_append]
    by_cases hc : (c == 32) = true
    · rw [List.takeWhile_cons_of_pos (by rw [hf]; exact hc), List.takeWhile_cons_of_pos (p := (· == 32)) hc, List.length_cons, List.length_cons, ih]
    · rw [List.takeWhile_cons_of_neg (by rw [hf]; exact hc), List.takeWhile_cons_of_neg (p := (· == 32)) hc]
theorem bl_all {r : List Nat} (h : blN r = r.length) : ∀ c ∈ r, c = 32 := by
  unfold blN at h
  have e : r.takeWhile (· == 32) = r := (List.takeWhile_prefix (· == 32)).eq_of_length h
  intro c hc
  rw [← e] at hc
  clear e h
  induction r with
  | nil => simp at hc
  | cons a r ih =>
    by_cases ha : (a == 32) = true
    · rw [List.takeWhile_cons_of_pos (p := (· == 32)) ha] at hc
      rcases List.mem_cons.mp hc with hc | hc
      · subst hc; simpa using ha
      · exact ih hc
    · rw [List.takeWhile_cons_of_neg (p := (· == 32)) ha] at hc; simp at hc
theorem all_bl {r : List Nat} (h : ∀ c ∈ r, c = 32) : blN r = r.length := by
  unfold blN
  induction r with
  | nil => rfl
  | cons a r ih =>
    have ha := h a (by simp)
    subst ha
    rw [List.takeWhile_cons_of_pos (p := (· == 32)) rfl, List.length_cons, List.length_cons, ih fun c hc => h c (List.mem_cons_of_mem _ hc)]
/-- a number ends at a blank or a bracket -/
theorem cnt_stop {r t : List Nat} {y : Nat} (hy : y = 32 ∨ y = 93) : cnt (r ++ y :: t) = cnt r := by
  by_cases h : cnt (r ++ y :: t) ≤ r.length
  · have := cnt_take h
    rw [List.take_left'] at this
    · exact this.symm
    · rfl
  · cases hx : numX (r ++ y :: t) with
    | none => rw [numX_none.mp hx] at h; omega
    | some v =>
      obtain ⟨a, b, c, k⟩ := v
      have hk := (numX_cnt hx).1
      have h3 := (numX_parts hx).2.2
      have hm : y ∈ (r ++ y :: t).take k := by
        refine List.mem_of_getElem? (i := r.length) ?_
        rw [tg_lt (by omega), List.getElem?_append_right (Nat.le_refl _), Nat.sub_self]; rfl
      have := h3 y hm
      rcases hy with rfl | rfl
      · exact absurd rfl this.1
      · exact absurd rfl this.2
def numJ (t : List Nat) : J := if L05.plainB t = true then .int t else .flt t
theorem numP_val (r : List Nat) : numP r = if cnt r = 0 then .err mExpValue 0 else .ok (numJ (r.take (cnt r))) (cnt r) := by
  unfold numP
  cases hx : numX r with
  | none => rw [if_pos (numX_none.mp hx)]
  | some v =>
    obtain ⟨a, b, c, k⟩ := v
    obtain ⟨hk, hk0⟩ := numX_cnt hx
    obtain ⟨h1, h2, _⟩ := numX_parts hx
    rw [← hk, if_neg hk0]
    simp only
    congr 1
    unfold numJ
    by_cases hbc : b = [] ∧ c = []
    · rw [if_pos hbc, if_pos (h2.mpr hbc), h1, hbc.1, hbc.2]; simp
    · rw [if_neg hbc, if_neg fun z => hbc (h2.mp z), h1]
theorem parse_alp {st : Bool} {d : Nat} {r t : List Nat} (h : Alp r) (ht : t = [] ∨ (t = [93] ∧ r ≠ [])) : parse (strP st) d (r ++ t) = numP (r ++ t) := by
  cases r with
  | nil =>
    rcases ht with rfl | ⟨_, h⟩
    · rw [numP_val, if_pos (by rfl)]; unfold parse; rfl
    · exact absurd rfl h
  | cons c r =>
    obtain ⟨_, f1, f2, f3, f4, f5, f6, f7, f8, _⟩ := alp_facts c (h c (by simp))
    rw [List.cons_append]
    unfold parse
    simp only
    rw [if_neg f1, if_neg f5, if_neg f3, if_neg, if_neg, if_neg]
    · intro e
      rw [List.take_succ_cons] at e
      injection e with e _; exact f8 e
    · intro e
      rw [List.take_succ_cons] at e
      injection e with e _; exact f7 e
    · intro e
      rw [List.take_succ_cons] at e
      injection e with e _; exact f6 e
theorem bom_alp {r : List Nat} (h : Alp r) : bomN r = 0 := by
  unfold bomN
  cases r with
  | nil => rfl
  | cons c r =>
    have hf := alp_facts c (h c (by simp))
    rw [if_neg, if_neg]
    · intro e
      rw [List.take_succ_cons] at e
      injection e with e _; exact hf.2.2.2.2.2.2.2.2.2.2.1 e
    · intro e; cases e; exact hf.2.2.2.2.2.2.2.2.2.1 rfl
theorem raw_alp {st : Bool} {d : Nat} {r : List Nat} (h : Alp r) : rawP st d r = if cnt (r.drop (blN r)) = 0 then .err mExpValue (blN r) else .ok (numJ ((r.drop (blN r)).take (cnt (r.drop (blN r))))) (blN r + cnt (r.drop (blN r))) := by
  have hw : wsN r = blN r := by have := wsN_alp (t := []) h (.inl rfl); rwa [List.append_nil] at this
  have hb : begN r = blN r := by unfold begN; rw [bom_alp h, List.drop_zero, hw, Nat.zero_add]
  have hp := parse_alp (st := st) (d := d) (t := []) (h.drop (blN r)) (.inl rfl)
  rw [List.append_nil] at hp
  unfold rawP
  rw [hb, hp, numP_val]
  split <;> rfl

namespace L05
def numV (t : List Nat) : V := .tt [.ss (if plainB t = true then sWhole else sPart), .ss t]
theorem RJ_num {P : List Nat} {H : AH} {w : V} {t : List Nat} (h : RJ fiV ffV P H w (numJ t)) : w = numV t := by
  unfold numJ at h
  unfold numV
  split at h
  · rename_i hp
    rw [RJ] at h
    rw [h, if_pos hp]; rfl
  · rename_i hp
    rw [RJ] at h
    rw [h, if_neg hp]; rfl
theorem dueV_eq {s : List Nat} {a : Nat} (ha : a ≤ s.length) : dueV s a = if cnt (s.drop a) = 0 then .tt [.ss sNo, .ss mExpValue, .ii a] else .tt [.ss sIs, numV ((s.drop a).take (cnt (s.drop a))), .ii ((a + cnt (s.drop a) : Nat) : Int)] := by
  unfold dueV
  rw [longN_cnt isnB_cnt ha]
  by_cases h : cnt (s.drop a) = 0
  · rw [if_pos h, if_pos (by omega)]
  · rw [if_neg h, if_neg (by omega), Nat.add_sub_cancel_left]; rfl
theorem raw_due {s : List Nat} {a d : Nat} {H' : AH} {v : V} (h : Alp s) (ha : a ≤ s.length) (hv : (∃ j k w, rawP true d (s.drop a) = .ok j k ∧ RJ fiV ffV [] H' w j ∧ v = .tt [.ss sIs, w, .ii ((a + k : Nat) : Int)]) ∨
      ∃ m k, rawP true d (s.drop a) = .err m k ∧ v = .tt [.ss sNo, .ss m, .ii ((a + k : Nat) : Int)]) : v = dueV s (a + blN (s.drop a)) := by
  have hbl := blN_le (s.drop a)
  rw [List.length_drop] at hbl
  rw [dueV_eq (by omega), ← List.drop_drop]
  rw [raw_alp (h.drop a)] at hv
  by_cases h0 : cnt ((s.drop a).drop (blN (s.drop a))) = 0
  · rw [if_pos h0] at hv ⊢
    rcases hv with ⟨j, k, w, e, _⟩ | ⟨m, k, e, rfl⟩
    · cases e
    · cases e; rfl
  · rw [if_neg h0] at hv ⊢
    rcases hv with ⟨j, k, w, e, hw, rfl⟩ | ⟨m, k, e, _⟩
    · cases e
      rw [RJ_num hw, Nat.add_assoc]
    · cases e
/-! ## The whole -/
def bareN (s : List Nat) : List Nat := rdrop (· == 32) (s.dropWhile (· == 32))
theorem rdrop_spec (r : List Nat) : ∃ z, r = rdrop (· == 32) r ++ z ∧ (∀ c ∈ z, c = 32) ∧ ∀ c, (rdrop (· == 32) r).getLast? = some c → c ≠ 32 := by
  refine ⟨(r.reverse.takeWhile (· == 32)).reverse, ?_, ?_, ?_⟩
  · unfold rdrop
    rw [← List.reverse_append, List.takeWhile_append_dropWhile, List.reverse_reverse]
  · intro c hc
    have hc := List.mem_reverse.mp hc
    simpa using mem_tw _ hc
  · intro c h
    unfold rdrop at h
    rw [List.getLast?_reverse, drop_bl] at h
    exact bl_next _ c h
def C5 (s : List Nat) : Nat := cnt (s.drop (blN s))
def P5 (s : List Nat) : Nat := if C5 s = 0 then blN s else blN s + C5 s + blN (s.drop (blN s + C5 s))
theorem cnt_bare (s : List Nat) : cnt (bareN s) = C5 s := by
  unfold bareN C5
  rw [drop_bl]
  obtain ⟨z, e, hz, _⟩ := rdrop_spec (s.drop (blN s))
  cases z with
  | nil => rw [List.append_nil] at e; rw [← e]
  | cons y z =>
    conv => rhs; rw [e]
    exact (cnt_stop (.inl (hz y (by simp)))).symm
theorem take_bare (s : List Nat) : (s.drop (blN s)).take (C5 s) = (bareN s).take (C5 s) := by
  have h := cnt_le (bareN s)
  rw [cnt_bare] at h
  unfold bareN at h ⊢
  rw [drop_bl] at h ⊢
  obtain ⟨z, e, hz, _⟩ := rdrop_spec (s.drop (blN s))
  conv => lhs; rw [e]
  rw [List.take_append_of_le_length h]
theorem whole_iff (s : List Nat) : isnB (bareN s) = true ↔ C5 s ≠ 0 ∧ blN s + C5 s + blN (s.drop (blN s + C5 s)) = s.length := by
  rw [isnB_cnt, cnt_bare]
  have hc := cnt_le (bareN s)
  rw [cnt_bare] at hc
  obtain ⟨z, e, hz, hl⟩ := rdrop_spec (s.drop (blN s))
  have hb : bareN s = rdrop (· == 32) (s.drop (blN s)) := by unfold bareN; rw [drop_bl]
  rw [← hb] at e hl
  have hle := blN_le s
  have hlen : blN s + (bareN s).length + z.length = s.length := by
    have := congrArg List.length e
    rw [List.length_drop, List.length_append] at this; omega
  have hd : s.drop (blN s + C5 s) = (bareN s).drop (C5 s) ++ z := by
    rw [← List.drop_drop, e, List.drop_append_of_le_length hc]
  constructor
  · rintro ⟨h1, h2⟩
    have h0 : (bareN s).length ≠ 0 := fun h => h1 (List.length_eq_zero_iff.mp h)
    refine ⟨by omega, ?_⟩
    rw [hd, h2, List.drop_length, List.nil_append, all_bl hz]
    omega
  · rintro ⟨h1, h2⟩
    have hne : bareN s ≠ [] := fun h => by rw [h] at hc; simp at hc; omega
    refine ⟨hne, ?_⟩
    by_cases hlt : C5 s = (bareN s).length
    · exact hlt
    · exfalso
      have hlen2 : (s.drop (blN s + C5 s)).length = s.length - (blN s + C5 s) := by rw [List.length_drop]
      have hall := bl_all (r := s.drop (blN s + C5 s)) (by omega)
      rw [hd] at hall
      cases hlast : (bareN s).getLast? with
      | none => exact hne (List.getLast?_eq_none_iff.mp hlast)
      | some c =>
        refine hl c hlast (hall c (List.mem_append.mpr (.inl ?_)))
        have hc2 : ((bareN s).drop (C5 s)).getLast? = some c := by
          rw [List.getLast?_drop, if_neg (by omega)]; exact hlast
        exact List.mem_of_getLast? hc2
theorem whole_take {s : List Nat} (h : isnB (bareN s) = true) : (bareN s).take (C5 s) = bareN s := by
  obtain ⟨_, h2⟩ := (isnB_cnt _).mp h
  rw [cnt_bare] at h2
  rw [h2, List.take_length]
/-- what from_text tells of the whole -/
theorem all_plain {s : List Nat} {d : Nat} {H' : AH} {v : V} (h : Alp s) (hv : (∃ j k w, rawP true d s = .ok j k ∧ k + wsN (s.drop k) = s.length ∧ RJ fiV ffV [] H' w j ∧ v = .tt [.ss sIs, w]) ∨
      ∃ p : Nat, v = .tt [.ss sNo, .ii p] ∧ ((∃ m, rawP true d s = .err m p) ∨ ∃ j k, rawP true d s = .ok j k ∧ k + wsN (s.drop k) ≠ s.length ∧ p = k + wsN (s.drop k))) :
    v = if isnB (bareN s) = true then .tt [.ss sIs, numV (bareN s)] else .tt [.ss sNo, .ii ((P5 s : Nat) : Int)] := by
  have hwa : ∀ k, wsN (s.drop k) = blN (s.drop k) := fun k => by have := wsN_alp (t := []) (h.drop k) (.inl rfl); rwa [List.append_nil] at this
  rw [raw_alp h] at hv
  by_cases h0 : C5 s = 0
  · have hc : cnt (s.drop (blN s)) = 0 := h0
    rw [if_neg (fun hw => ((whole_iff s).mp hw).1 h0)]
    unfold P5
    rw [if_pos h0]
    rw [if_pos hc] at hv
    rcases hv with ⟨j, k, w, e, _⟩ | ⟨p, rfl, ⟨m, e⟩ | ⟨j, k, e, _⟩⟩
    · cases e
    · cases e; rfl
    · cases e
  · have hc : ¬ cnt (s.drop (blN s)) = 0 := h0
    rw [if_neg hc] at hv
    rcases hv with ⟨j, k, w, e, hz, hw, rfl⟩ | ⟨p, rfl, ⟨m, e⟩ | ⟨j, k, e, hz, hp⟩⟩
    · cases e
      rw [hwa] at hz
      have hwh : isnB (bareN s) = true := (whole_iff s).mpr ⟨h0, hz⟩
      rw [if_pos hwh, RJ_num hw]
      have := take_bare s
      rw [whole_take hwh] at this
      rw [← this]; rfl
    · cases e
    · cases e
      rw [hwa] at hz hp
      rw [if_neg (fun hw => hz ((whole_iff s).mp hw).2)]
      unfold P5
      rw [if_neg h0, hp]; rfl
end L05
end Mine
set_option maxRecDepth 10000
namespace Mine
open PySem PySem.Calls PyProof.Rows PySem.W
namespace L05
theorem bare_nil (s : List Nat) : bareN s = [] ↔ s.drop (blN s) = [] := by
  unfold bareN
  rw [drop_bl]
  obtain ⟨z, e, hz, _⟩ := rdrop_spec (s.drop (blN s))
  constructor
  · intro h
    rw [h, List.nil_append] at e
    cases hr : s.drop (blN s) with
    | nil => rfl
    | cons c r =>
      have := bl_next s c (by rw [hr]; rfl)
      rw [← e, hr] at hz
      exact absurd (hz c (by simp)) this
  · intro h
    rw [h]; rfl
theorem arrP_go {P : List Nat → Res J} {r t : List Nat} {c : Nat} (h : r.drop (wsN r) = c :: t) (hc : c ≠ 93) : arrP P r = arrGo P (r.length + 1) (c :: t) (wsN r) [] := by
  unfold arrP
  rw [h]
  split
  · rename_i e; injection e with e _; exact absurd e hc
  · rename_i e; cases e
  · rfl
/-- the array of the whole -/
theorem raw_list {s : List Nat} (h : Alp s) : rawP true 1 (91 :: (s ++ [93])) = if s.drop (blN s) = [] then .ok (.arr []) (1 + (blN s + 1)) else if C5 s = 0 then .err mExpValue (1 + blN s) else
    if s.drop (blN s + C5 s + blN (s.drop (blN s + C5 s))) = [] then .ok (.arr [numJ ((s.drop (blN s)).take (C5 s))]) (1 + (blN s + C5 s + blN (s.drop (blN s + C5 s)) + 1))
    else .err mCommaArr (1 + (blN s + C5 s + blN (s.drop (blN s + C5 s)))) := by
  have hb : begN (91 :: (s ++ [93])) = 0 := by
    have h1 : bomN (91 :: (s ++ [93])) = 0 := by
      unfold bomN
      rw [if_neg, if_neg]
      · intro e; rw [List.take_succ_cons] at e; injection e with e _; cases e
      · intro e; cases e
    unfold begN
    rw [h1, List.drop_zero]; rfl
  have hp : parse (strP true) 1 (91 :: (s ++ [93])) = (arrP (parse (strP true) 0) (s ++ [93])).sh .arr 1 := by unfold parse; rfl
  unfold rawP
  rw [hb, List.drop_zero, hp]
  have hw := wsN_alp (t := [93]) h (.inr rfl)
  have hle := blN_le s
  have hd : (s ++ [93]).drop (blN s) = s.drop (blN s) ++ [93] := List.drop_append_of_le_length hle
  by_cases h0 : s.drop (blN s) = []
  · rw [if_pos h0]
    have : arrP (parse (strP true) 0) (s ++ [93]) = .ok [] (blN s + 1) := by
      unfold arrP
      rw [hw, hd, h0]; rfl
    rw [this]
    show Res.ok _ _ = Res.ok _ _
    rw [Nat.zero_add]; rfl
  rw [if_neg h0]
  have hA := h.drop (blN s)
  have hC : cnt (s.drop (blN s)) = C5 s := rfl
  have hCl := cnt_le (s.drop (blN s))
  rw [hC, List.length_drop] at hCl
  have hdd : ∀ k, k ≤ s.length - blN s → (s.drop (blN s) ++ [93]).drop k = s.drop (blN s + k) ++ [93] := fun k hk => by
    rw [List.drop_append_of_le_length (by rw [List.length_drop]; exact hk), List.drop_drop]
  have hP : parse (strP true) 0 (s.drop (blN s) ++ [93]) = if C5 s = 0 then .err mExpValue 0 else .ok (numJ ((s.drop (blN s)).take (C5 s))) (C5 s) := by
    rw [parse_alp hA (.inr ⟨rfl, h0⟩), numP_val, cnt_stop (.inr rfl), hC, List.take_append_of_le_length (by rw [List.length_drop]; exact hCl)]
  have hgo : arrP (parse (strP true) 0) (s ++ [93]) = arrGo (parse (strP true) 0) ((s ++ [93]).length + 1) (s.drop (blN s) ++ [93]) (blN s) [] := by
    cases hr : s.drop (blN s) with
    | nil => exact absurd hr h0
    | cons c r =>
      have hf := alp_facts c (hA c (by rw [hr]; simp))
      have := arrP_go (P := parse (strP true) 0) (r := s ++ [93]) (by rw [hw, hd, hr, List.cons_append]) hf.2.2.2.2.1
      rw [this, hw]; rfl
  rw [hgo]
  by_cases hc0 : C5 s = 0
  · rw [if_pos hc0] at hP ⊢
    rw [arrGo, hP]
    show Res.err _ _ = Res.err _ _
    rw [Nat.add_zero, Nat.zero_add]
  rw [if_neg hc0] at hP ⊢
  rw [arrGo_ok hP]
  unfold arrTl
  have hu := blN_le (s.drop (blN s + C5 s))
  rw [List.length_drop] at hu
  rw [hdd _ hCl, wsN_alp (h.drop _) (.inr rfl), hdd _ (by omega), ← Nat.add_assoc]
  by_cases h1 : s.drop (blN s + C5 s + blN (s.drop (blN s + C5 s))) = []
  · rw [if_pos h1, h1]
    show Res.ok _ _ = Res.ok _ _
    rw [Nat.zero_add, List.nil_append]; rfl
  · rw [if_neg h1]
    cases hr : s.drop (blN s + C5 s + blN (s.drop (blN s + C5 s))) with
    | nil => exact absurd hr h1
    | cons c r =>
      have hf := alp_facts c ((h.drop (blN s + C5 s + blN (s.drop (blN s + C5 s)))) c (by rw [hr]; simp))
      rw [List.cons_append]
      split
      · rename_i e; injection e with e _; exact absurd e hf.2.2.2.2.1
      · rename_i e; injection e with e _; exact absurd e hf.2.2.1
      · show Res.err _ _ = Res.err _ _
        rw [Nat.zero_add]
theorem all_list {s : List Nat} {H' : AH} {v : V} (h : Alp s) (hv : (∃ j k w, rawP true 1 (91 :: (s ++ [93])) = .ok j k ∧ k + wsN ((91 :: (s ++ [93])).drop k) = (91 :: (s ++ [93])).length ∧ RJ fiV ffV [] H' w j ∧ v = .tt [.ss sIs, w]) ∨
      ∃ p : Nat, v = .tt [.ss sNo, .ii p] ∧ ((∃ m, rawP true 1 (91 :: (s ++ [93])) = .err m p) ∨ ∃ j k, rawP true 1 (91 :: (s ++ [93])) = .ok j k ∧ k + wsN ((91 :: (s ++ [93])).drop k) ≠ (91 :: (s ++ [93])).length ∧ p = k + wsN ((91 :: (s ++ [93])).drop k))) :
    if isnB (bareN s) = true then (∃ l, v = .tt [.ss sIs, .rr l] ∧ H'[l]? = some (.list [numV (bareN s)])) else if bareN s = [] then (∃ l, v = .tt [.ss sIs, .rr l] ∧ H'[l]? = some (.list [])) else v = .tt [.ss sNo, .ii ((P5 s + 1 : Nat) : Int)] := by
  rw [raw_list h] at hv
  have hle := blN_le s
  have hlen : (91 :: (s ++ [93])).length = s.length + 2 := by simp
  have hend : ∀ k, k = s.length + 2 → k + wsN ((91 :: (s ++ [93])).drop k) = (91 :: (s ++ [93])).length := by
    rintro k rfl
    rw [List.drop_of_length_le (by rw [hlen]; exact Nat.le_refl _), hlen]; rfl
  by_cases h0 : s.drop (blN s) = []
  · rw [if_pos h0] at hv
    have hb : bareN s = [] := (bare_nil s).mpr h0
    have hn : isnB (bareN s) ≠ true := by
      intro hw
      exact ((isnB_cnt _).mp hw).1 hb
    rw [if_neg hn, if_pos hb]
    have hl := congrArg List.length h0
    rw [List.length_drop] at hl
    simp only [List.length_nil] at hl
    rcases hv with ⟨j, k, w, e, _, hw, rfl⟩ | ⟨p, _, ⟨m, e⟩ | ⟨j, k, e, hz, _⟩⟩
    · cases e
      rw [RJ] at hw
      obtain ⟨l, vs, rfl, hl, _, hr⟩ := hw
      rw [RJs] at hr
      subst hr
      exact ⟨l, rfl, hl⟩
    · cases e
    · cases e
      exact absurd (hend _ (by omega)) hz
  have hbn : bareN s ≠ [] := fun z => h0 ((bare_nil s).mp z)
  rw [if_neg h0] at hv
  by_cases hc0 : C5 s = 0
  · rw [if_pos hc0] at hv
    rw [if_neg (fun hw => ((whole_iff s).mp hw).1 hc0), if_neg hbn]
    unfold P5
    rw [if_pos hc0]
    rcases hv with ⟨j, k, w, e, _⟩ | ⟨p, rfl, ⟨m, e⟩ | ⟨j, k, e, hz, _⟩⟩
    · cases e
    · cases e
      rw [Nat.add_comm 1]
    · cases e
  rw [if_neg hc0] at hv
  have hu := blN_le (s.drop (blN s + C5 s))
  rw [List.length_drop] at hu
  have hCl := cnt_le (s.drop (blN s))
  have hC : cnt (s.drop (blN s)) = C5 s := rfl
  rw [hC, List.length_drop] at hCl
  by_cases h1 : s.drop (blN s + C5 s + blN (s.drop (blN s + C5 s))) = []
  · have hl := congrArg List.length h1
    rw [List.length_drop] at hl
    simp only [List.length_nil] at hl
    have hwh : isnB (bareN s) = true := (whole_iff s).mpr ⟨hc0, by omega⟩
    rw [if_pos h1] at hv
    rw [if_pos hwh]
    rcases hv with ⟨j, k, w, e, _, hw, rfl⟩ | ⟨p, _, ⟨m, e⟩ | ⟨j, k, e, hz, _⟩⟩
    · cases e
      rw [RJ] at hw
      obtain ⟨l, vs, rfl, hl, _, hr⟩ := hw
      rw [RJs] at hr
      obtain ⟨x, r, rfl, hx, hr⟩ := hr
      rw [RJs] at hr
      subst hr
      rw [RJ_num hx, take_bare, whole_take hwh] at hl
      exact ⟨l, rfl, hl⟩
    · cases e
    · cases e
      exact absurd (hend _ (by omega)) hz
  · rw [if_neg h1] at hv
    have hnw : isnB (bareN s) ≠ true := by
      intro hw
      apply h1
      have := ((whole_iff s).mp hw).2
      rw [this, List.drop_length]
    rw [if_neg hnw, if_neg hbn]
    unfold P5
    rw [if_neg hc0]
    rcases hv with ⟨j, k, w, e, _⟩ | ⟨p, rfl, ⟨m, e⟩ | ⟨j, k, e, hz, _⟩⟩
    · cases e
    · cases e
      rw [Nat.add_comm 1]
    · cases e
end L05
end Mine
set_option maxRecDepth 10000
namespace Mine
open PySem PySem.Calls PyProof.Rows PySem.W
namespace L05
open Mine
theorem isD_num {H : AH} {t : List Nat} : isD H (numV t) (PyData.tuple [strD (if plainB t = true then sWhole else sPart), strD t]) := by
  unfold numV
  rw [isD]
  refine ⟨_, rfl, ?_⟩
  rw [isDs]
  refine ⟨_, _, rfl, isD_ss, ?_⟩
  rw [isDs]
  refine ⟨_, _, rfl, isD_ss, ?_⟩
  rw [isDs]
theorem cp_lit {l : List Nat} (h : l.all (fun c => decide (c < 1114112)) = true) : CP l := fun c hc => by
  have := List.all_eq_true.mp h c hc
  exact of_decide_eq_true this
theorem lay_num {t : List Nat} (h : CP t) : (PyData.tuple [strD (if plainB t = true then sWhole else sPart), strD t]).canLay0 = true ∧ (PyData.tuple [strD (if plainB t = true then sWhole else sPart), strD t]).depth ≤ 10 := by
  constructor
  · rw [PyData.canLay0, PyData.canLayAll0, PyData.canLayAll0, PyData.canLayAll0, lay_str h, Bool.and_true, Bool.and_true]
    split
    · exact lay_str (cp_lit rfl)
    · exact lay_str (cp_lit rfl)
  · unfold strD
    simp [PyData.depth, PyData.depthAll]
theorem eq_same {S : Sx} {H : AH} {a b : List V} {d : PyData} {Q : PV} (h1 : isD H (.tt a) d) (h2 : isD H (.tt b) d) (h3 : d.canLay0 = true) (h4 : d.depth ≤ 64) (q : Q (.bb true) H) : cmpQ S .Eq (.tt a) (.tt b) H Q := by
  rw [cmp_eq_tt]
  exact ⟨d, d, h1, h2, h3, h3, h4, by rw [SeqAt.eqv_refl d h3]; exact q⟩
theorem ne_same {S : Sx} {H : AH} {a b : List V} {d : PyData} {Q : PV} (h1 : isD H (.tt a) d) (h2 : isD H (.tt b) d) (h3 : d.canLay0 = true) (h4 : d.depth ≤ 64) (q : Q (.bb false) H) : cmpQ S .NotEq (.tt a) (.tt b) H Q := by
  rw [cmp_ne_tt]
  exact ⟨d, d, h1, h2, h3, h3, h4, by rw [SeqAt.eqv_refl d h3]; exact q⟩
theorem isD_ii {H : AH} {i : Int} : isD H (.ii i) (.int i) := by rw [isD]
theorem isD_two {H : AH} {a b : V} {da db : PyData} (h1 : isD H a da) (h2 : isD H b db) : isD H (.tt [a, b]) (.tuple [da, db]) := by
  rw [isD]
  refine ⟨_, rfl, ?_⟩
  rw [isDs]
  refine ⟨_, _, rfl, h1, ?_⟩
  rw [isDs]
  refine ⟨_, _, rfl, h2, ?_⟩
  rw [isDs]
theorem isD_three {H : AH} {a b c : V} {da db dc : PyData} (h1 : isD H a da) (h2 : isD H b db) (h3 : isD H c dc) : isD H (.tt [a, b, c]) (.tuple [da, db, dc]) := by
  rw [isD]
  refine ⟨_, rfl, ?_⟩
  rw [isDs]
  refine ⟨_, _, rfl, h1, ?_⟩
  rw [isDs]
  refine ⟨_, _, rfl, h2, ?_⟩
  rw [isDs]
  refine ⟨_, _, rfl, h3, ?_⟩
  rw [isDs]
theorem lay_two {a b : PyData} (h1 : a.canLay0 = true ∧ a.depth ≤ 20) (h2 : b.canLay0 = true ∧ b.depth ≤ 20) : (PyData.tuple [a, b]).canLay0 = true ∧ (PyData.tuple [a, b]).depth ≤ 64 := by
  constructor
  · rw [PyData.canLay0, PyData.canLayAll0, PyData.canLayAll0, PyData.canLayAll0, h1.1, h2.1]; rfl
  · simp only [PyData.depth, PyData.depthAll]; omega
theorem lay_three {a b c : PyData} (h1 : a.canLay0 = true ∧ a.depth ≤ 20) (h2 : b.canLay0 = true ∧ b.depth ≤ 20) (h3 : c.canLay0 = true ∧ c.depth ≤ 20) : (PyData.tuple [a, b, c]).canLay0 = true ∧ (PyData.tuple [a, b, c]).depth ≤ 64 := by
  constructor
  · rw [PyData.canLay0, PyData.canLayAll0, PyData.canLayAll0, PyData.canLayAll0, PyData.canLayAll0, h1.1, h2.1, h3.1]; rfl
  · simp only [PyData.depth, PyData.depthAll]; omega
theorem lay_s {s : List Nat} (h : CP s) : (strD s).canLay0 = true ∧ (strD s).depth ≤ 20 := ⟨lay_str h, by unfold strD; simp [PyData.depth]⟩
theorem lay_i {i : Int} : (PyData.int i).canLay0 = true ∧ (PyData.int i).depth ≤ 20 := ⟨by simp [PyData.canLay0], by simp [PyData.depth]⟩
/-- what is due equals itself -/
theorem due_ne {S : Sx} {H : AH} {s : List Nat} {a : Nat} {Q : PV} (ha : a ≤ s.length) (hcp : CP s) (q : Q (.bb false) H) : cmpQ S .NotEq (dueV s a) (dueV s a) H Q := by
  rw [dueV_eq ha]
  split
  · have hl := lay_three (lay_s (s := sNo) (cp_lit rfl)) (lay_s (s := mExpValue) (cp_lit rfl)) (lay_i (i := a))
    have hd := isD_three (H := H) (isD_ss (s := sNo)) (isD_ss (s := mExpValue)) (isD_ii (i := a))
    exact ne_same hd hd hl.1 hl.2 q
  · have hln := lay_num ((hcp.drop a).take (cnt (s.drop a)))
    have hl := lay_three (lay_s (s := sIs) (cp_lit rfl)) ⟨hln.1, Nat.le_trans hln.2 (by decide)⟩ (lay_i (i := ((a + cnt (s.drop a) : Nat) : Int)))
    have hd := isD_three (H := H) (isD_ss (s := sIs)) (isD_num (t := (s.drop a).take (cnt (s.drop a)))) (isD_ii (i := ((a + cnt (s.drop a) : Nat) : Int)))
    exact ne_same hd hd hl.1 hl.2 q
theorem cal_lstrip {S : Sx} {s : List Nat} {H : AH} : calOf S (.ss s) [108, 115, 116, 114, 105, 112] H = some (.str s .lstrip) := rfl
theorem cal_strip {S : Sx} {s : List Nat} {H : AH} : calOf S (.ss s) [115, 116, 114, 105, 112] H = some (.str s .strip) := rfl
theorem cal_join {S : Sx} {s : List Nat} {H : AH} : calOf S (.ss s) [106, 111, 105, 110] H = some (.str s .join) := rfl
theorem lstrip_len (s : List Nat) : (s.length : Int) - ((s.dropWhile (· == 32)).length : Int) = (blN s : Int) := by
  rw [drop_bl, List.length_drop]
  have := blN_le s
  omega
theorem br_alp {s t : List Nat} (h : Alp s) (ht : t = [] ∨ t = [93]) : br (s ++ t) = 0 := by
  unfold br
  rw [List.length_eq_zero_iff, List.filter_eq_nil_iff]
  intro c hc
  rcases List.mem_append.mp hc with hc | hc
  · have hf := alp_facts c (h c hc)
    simp [hf.2.2.2.1, hf.2.2.2.2.2.1]
  · rcases ht with rfl | rfl
    · simp at hc
    · rw [List.mem_singleton] at hc; subst hc; decide
theorem alp_no {s : List Nat} (h : Alp s) : ∀ c ∈ s, c ≠ 34 ∧ c ≠ 123 := fun c hc => ⟨(alp_facts c (h c hc)).2.1, (alp_facts c (h c hc)).2.2.2.2.2.1⟩

section
variable {S : Sx} {n d b r i : Nat} {H : AH} {s : List Nat}
/-- one place -/
theorem at_step (L : L5 S) {rows v4 w5 w6 : Option V} {w7 w8 w9 w10 v1 : Option V} (hz : s.length ≤ 20) (h : Alp s) (hr : RdObj (hs5 i) true b r H) (hL : L5L i [] H []) {a : Nat} (ha : a ≤ s.length) {K : QS} {E : ES}
    (q : ∀ H' w5 w6, C0 H H' → K .nrm [rows, v1, some (.ss s), some (.rr r), v4, w5, w6, w7, w8, w9, w10] H') :
    setTg (n + 20) [] (.loc 5) (.ii a) [rows, v1, some (.ss s), some (.rr r), v4, w5, w6, w7, w8, w9, w10] H fun ρ H => exs S [] (.cons (.asg (.loc 6) (.bin .Sub (.bin .Add (.loc 5) (.bi .len (.cons (.sl (.loc 2) (.some (.loc 5)) .none) .nil))) (.bi .len (.cons (.meth (.sl (.loc 2) (.some (.loc 5)) .none) [108, 115, 116, 114, 105, 112] (.cons (.ss [32]) .nil)) .nil))))
  (.cons (.ifs (.cmp .NotEq (.call (.glob 33) (.cons (.loc 3) (.cons (.loc 2) (.cons (.loc 5) .nil)))) (.call (.glob 34) (.cons (.loc 2) (.cons (.loc 6) .nil))))
  (.cons (.ret (.bb false))
  .nil)
  .nil)
  .nil)) (n + 20) ρ H K E := by
  have hB := BIG_le (n := s.length) (by omega)
  have gg33 := L.gs 33 (by decide) (by decide)
  have gg34 := L.gs 34 (by decide) (by decide)
  have hdl : (s.drop a).length ≤ BIG := by rw [List.length_drop]; omega
  simp_arith
  rw [exs_cons_]
  simp_arith [pyS_nat']
  refine ⟨hB, hdl, hB, .str _ .lstrip, cal_lstrip, ?_⟩
  refine ⟨by rw [List.length_drop]; omega, ?_⟩
  simp_arith
  refine ⟨by rw [drop_bl, List.length_drop]; omega, ?_⟩
  have e1 : (a : Int) + ((s.drop a).length : Int) - (((s.drop a).dropWhile (· == 32)).length : Int) = ((a + blN (s.drop a) : Nat) : Int) := by
    have := lstrip_len (s.drop a); omega
  rw [e1]
  have hbl := blN_le (s.drop a)
  rw [List.length_drop] at hbl
  rw [exs_cons_]
  simp_arith [glob_g gg33, glob_g gg34]
  have hbr : br (s.drop a) ≤ 0 := by have := br_alp (t := []) (h.drop a) (.inl rfl); rw [List.append_nil] at this; omega
  refine ⟨by omega, ((raw5_ok (d := 0) L ⟨by omega, h.cp⟩ (alp_no h) hr hL ha hbr rfl).le (by omega) (by omega)).mono ?_ fun _ _ z => z⟩
  rintro v H1 ⟨c1, hv⟩
  have hv := raw_due h ha hv
  subst hv
  simp_arith [glob_g gg34]
  refine ⟨by omega, ((due_ok (n := 0) L (by omega) h.cp (by omega)).le (by omega) (by omega)).mono ?_ fun _ _ z => z⟩
  rintro v H2 ⟨rfl, c2⟩
  simp_arith
  refine due_ne (by omega) h.cp ?_
  simp_arith [exs_nil_]
  exact q _ _ _ (c1.trans c2)
end
end L05
end Mine
set_option maxRecDepth 10000
namespace Mine
open PySem PySem.Calls PyProof.Rows PySem.W
namespace L05
open Mine
theorem bare_le (s : List Nat) : (bareN s).length ≤ s.length := by
  have h1 := (rdrop_spec (s.dropWhile (· == 32)))
  obtain ⟨z, e, _⟩ := h1
  have := congrArg List.length e
  rw [List.length_append] at this
  unfold bareN
  have h2 : (s.dropWhile (· == 32)).length ≤ s.length := by rw [drop_bl, List.length_drop]; omega
  omega
theorem bare_alp {s : List Nat} (h : Alp s) : Alp (bareN s) := by
  obtain ⟨z, e, _⟩ := rdrop_spec (s.dropWhile (· == 32))
  intro c hc
  have : c ∈ s.dropWhile (· == 32) := by rw [e]; exact List.mem_append.mpr (.inl hc)
  rw [drop_bl] at this
  exact h.drop _ c this
theorem isD_list1 {H : AH} {l : Nat} {v : V} {d : PyData} (h : H[l]? = some (O.list [v])) (hd : isD H v d) : isD H (.rr l) (PyData.list [d]) := by
  refine isD_list h ?_
  rw [isDs]
  refine ⟨_, _, rfl, hd, ?_⟩
  rw [isDs]
theorem lay_list1 {a : PyData} (h1 : a.canLay0 = true ∧ a.depth ≤ 10) : (PyData.list [a]).canLay0 = true ∧ (PyData.list [a]).depth ≤ 20 := by
  constructor
  · rw [PyData.canLay0, PyData.canLayAll0, PyData.canLayAll0, h1.1]; rfl
  · simp only [PyData.depth, PyData.depthAll]; omega
theorem isD_num_mono {H H' : AH} {t : List Nat} (_ : C0 H H') : isD H' (numV t) (PyData.tuple [strD (if plainB t = true then sWhole else sPart), strD t]) := isD_num
section
variable {S : Sx} {n d b r i : Nat} {H : AH} {s : List Nat} {E : ES}
set_option maxHeartbeats 2000000 in
theorem tail_ok (L : L5 S) {rows v1 v4 w5 w6 : Option V} (hz : s.length ≤ 20) (h : Alp s) (hr : RdObj (hs5 i) true b r H) (hL : L5L i [] H []) :
    exs S [] b160.tl.tl.tl.tl.tl (n + 20) [rows, v1, some (.ss s), some (.rr r), v4, w5, w6, none, none, none, none] H (endK fun v _ => v = .bb true) E := by
  have hB := BIG_le (n := s.length) (by omega)
  have gg31 := L.gs 31 (by decide) (by decide)
  have gg34 := L.gs 34 (by decide) (by decide)
  have gg35 := L.gs 35 (by decide) (by decide)
  have hbl := bare_le s
  have hba := bare_alp h
  have hbB : (bareN s).length ≤ BIG := by omega
  have hs1 : Txt s := ⟨by omega, h.cp⟩
  have hal2 : Txt (91 :: (s ++ [93])) := by
    refine ⟨by simp only [List.length_cons, List.length_append, List.length_nil]; omega, fun c hc => ?_⟩
    rcases List.mem_cons.mp hc with rfl | hc
    · decide
    rcases List.mem_append.mp hc with hc | hc
    · exact h.cp c hc
    · rw [List.mem_singleton] at hc; subst hc; decide
  have hno2 : ∀ c ∈ 91 :: (s ++ [93]), c ≠ 34 ∧ c ≠ 123 := by
    intro c hc
    rcases List.mem_cons.mp hc with rfl | hc
    · decide
    rcases List.mem_append.mp hc with hc | hc
    · exact alp_no h c hc
    · rw [List.mem_singleton] at hc; subst hc; decide
  have hbr1 : br s ≤ 0 := by have := br_alp (t := []) h (.inl rfl); rw [List.append_nil] at this; omega
  have hbr2 : br (91 :: (s ++ [93])) ≤ 1 := by
    have h1 := br_alp h (.inr rfl)
    unfold br at h1 ⊢
    rw [List.filter_cons_of_pos (by decide), List.length_cons, h1]
    exact Nat.le_refl _
  have hlen2 : ([91] ++ s).length ≤ 1000 := by simp only [List.length_append, List.length_cons, List.length_nil]; omega
  unfold b160
  simp only [SL.tl]
  rw [exs_cons_]
  simp_arith
  refine ⟨.str s .strip, cal_strip, ?_⟩
  refine ⟨by omega, ?_⟩
  simp_arith
  change exs S [] _ (n + 20) [rows, v1, some (.ss s), some (.rr r), v4, w5, w6, some (.ss (bareN s)), none, none, none] H _ _
  rw [exs_cons_]
  simp_arith [glob_g gg31]
  refine ⟨by omega, ((is_number_ok (n := 0) L (by omega) hba.cp).le (by omega) (by omega)).mono ?_ fun _ _ z => z⟩
  rintro v H1 ⟨rfl, c1⟩
  simp_arith
  rw [exs_cons_]
  simp_arith [glob_g gg34]
  refine ⟨by omega, ((due_ok (n := 0) (a := 0) L (by omega) hba.cp (Nat.zero_le _)).le (by omega) (by omega)).mono ?_ fun _ _ z => z⟩
  rintro v H2 ⟨rfl, c2⟩
  have c12 := c1.trans c2
  have hr2 := hr.chg c12
  have hL2 : L5L i [] H2 [] := ⟨c12.2 _ _ hL.1 id, c12.2 _ _ hL.2.1 id, hL.2.2⟩
  simp_arith
  rw [exs_cons_]
  simp_arith
  have hD := dueV_eq (s := bareN s) (a := 0) (Nat.zero_le _)
  rw [List.drop_zero, cnt_bare, Nat.zero_add] at hD
  cases hw : isnB (bareN s) with
  | true =>
    have hC0 := ((whole_iff s).mp hw).1
    rw [if_neg hC0, whole_take hw] at hD
    rw [hD]
    have hln := lay_num (t := bareN s) hba.cp
    simp_arith
    rw [exs_cons_]
    simp_arith [glob_g gg35]
    refine ⟨by omega, ((all5_ok (d := 0) L hs1 (alp_no h) hr2 hL2 hbr1 rfl).le (by omega) (by omega)).mono ?_ fun _ _ z => z⟩
    rintro v H3 ⟨c3, hv⟩
    have hv := all_plain h hv
    rw [if_pos hw] at hv
    subst hv
    simp_arith
    refine ⟨fit_nat (e := 1) (by omega), numV (bareN s), rfl, ?_⟩
    try simp_arith
    refine ⟨bg2, ?_⟩
    have hl1 := lay_two (lay_s (s := sIs) (cp_lit rfl)) ⟨hln.1, Nat.le_trans hln.2 (by decide)⟩
    refine eq_same (isD_two (isD_ss (s := sIs)) (isD_num (t := bareN s))) (isD_two (isD_ss (s := sIs)) (isD_num (t := bareN s))) hl1.1 hl1.2 ?_
    simp_arith [glob_g gg35]
    refine ⟨by unfold BIG; simp only [List.length_cons, List.length_nil]; omega, by unfold BIG; simp only [List.length_append, List.length_cons, List.length_nil]; omega, by omega, ?_⟩
    have hr3 := hr2.chg c3
    have hL3 : L5L i [] H3 [] := ⟨c3.2 _ _ hL2.1 id, c3.2 _ _ hL2.2.1 id, hL2.2.2⟩
    refine ((all5_ok (d := 1) L hal2 hno2 hr3 hL3 hbr2 rfl).le (by omega) (by omega)).mono ?_ fun _ _ z => z
    rintro v H4 ⟨c4, hv⟩
    have hv := all_list h hv
    rw [if_pos hw] at hv
    obtain ⟨l, rfl, hl⟩ := hv
    simp_arith [ev_lst]
    refine ⟨fit_nat (e := 1) (by omega), numV (bareN s), rfl, by unfold BIG; simp, bg2, ?_⟩
    have hl2 := lay_two (lay_s (s := sIs) (cp_lit rfl)) (lay_list1 hln)
    refine eq_same (isD_two (isD_ss (s := sIs)) (isD_list1 ?_ isD_num)) (isD_two (isD_ss (s := sIs)) (isD_list1 at0 isD_num)) hl2.1 hl2.2 ?_
    · rw [List.getElem?_append_left (List.getElem?_eq_some_iff.mp hl).1]; exact hl
    · simp_arith
  | false =>
    have hnw : isnB (bareN s) ≠ true := by rw [hw]; simp
    simp_arith [exs_nil_]
    -- what is told of the whole, and of the list
    have key : ∀ w6' w8' w9' : Option V, exs S [] b160.tl.tl.tl.tl.tl.tl.tl.tl.tl.tl.tl.tl (n + 20) [rows, v1, some (.ss s), some (.rr r), v4, w5, w6', some (.ss (bareN s)), w8', w9', some (.ii ((P5 s : Nat) : Int))] H2 (endK fun v _ => v = .bb true) E := by
      intro w6' w8' w9'
      unfold b160
      simp only [SL.tl]
      rw [exs_cons_]
      simp_arith [glob_g gg35]
      refine ⟨by omega, ((all5_ok (d := 0) L hs1 (alp_no h) hr2 hL2 hbr1 rfl).le (by omega) (by omega)).mono ?_ fun _ _ z => z⟩
      rintro v H3 ⟨c3, hv⟩
      have hv := all_plain h hv
      rw [if_neg hnw] at hv
      subst hv
      simp_arith
      refine ⟨bg2, ?_⟩
      have hl1 := lay_two (lay_s (s := sNo) (cp_lit rfl)) (lay_i (i := ((P5 s : Nat) : Int)))
      refine ne_same (isD_two (isD_ss (s := sNo)) isD_ii) (isD_two (isD_ss (s := sNo)) isD_ii) hl1.1 hl1.2 ?_
      simp_arith [exs_nil_]
      rw [exs_cons_]
      simp_arith [glob_g gg35]
      refine ⟨by unfold BIG; simp only [List.length_cons, List.length_nil]; omega, by unfold BIG; simp only [List.length_append, List.length_cons, List.length_nil]; omega, by omega, ?_⟩
      have hr3 := hr2.chg c3
      have hL3 : L5L i [] H3 [] := ⟨c3.2 _ _ hL2.1 id, c3.2 _ _ hL2.2.1 id, hL2.2.2⟩
      refine ((all5_ok (d := 1) L hal2 hno2 hr3 hL3 hbr2 rfl).le (by omega) (by omega)).mono ?_ fun _ _ z => z
      rintro v H4 ⟨c4, hv⟩
      have hv := all_list h hv
      rw [if_neg hnw] at hv
      by_cases hb0 : bareN s = []
      · rw [if_pos hb0] at hv
        obtain ⟨l, rfl, hl⟩ := hv
        rw [hb0]
        simp_arith [ev_lst, ne_nn]
        refine ⟨by unfold BIG; simp, bg2, ?_⟩
        have hle : (PyData.list []).canLay0 = true ∧ (PyData.list []).depth ≤ 20 := ⟨by simp [PyData.canLay0, PyData.canLayAll0], by simp [PyData.depth, PyData.depthAll]⟩
        have hl2 := lay_two (lay_s (s := sIs) (cp_lit rfl)) hle
        refine eq_same (isD_two (isD_ss (s := sIs)) (isD_list (vs := []) ?_ (by simp [isDs]))) (isD_two (isD_ss (s := sIs)) (isD_list (vs := []) at0 (by simp [isDs]))) hl2.1 hl2.2 ?_
        · rw [List.getElem?_append_left (List.getElem?_eq_some_iff.mp hl).1]; exact hl
        · simp_arith
      · rw [if_neg hb0] at hv
        subst hv
        have hne : (bareN s != []) = true := by cases hh : bareN s; exact absurd hh hb0; rfl
        simp_arith [hne, nat1]
        refine ⟨bg2, ?_⟩
        have hl2 := lay_two (lay_s (s := sNo) (cp_lit rfl)) (lay_i (i := ((P5 s + 1 : Nat) : Int)))
        refine eq_same (isD_two (isD_ss (s := sNo)) isD_ii) (isD_two (isD_ss (s := sNo)) isD_ii) hl2.1 hl2.2 ?_
        simp_arith
    have hbl2 := blN_le s
    rw [exs_cons_]
    simp_arith
    refine ⟨hB, .str s .lstrip, cal_lstrip, ?_⟩
    refine ⟨by omega, ?_⟩
    simp_arith
    refine ⟨by rw [drop_bl, List.length_drop]; omega, ?_⟩
    rw [lstrip_len]
    rw [exs_cons_]
    simp_arith
    by_cases hC : C5 s = 0
    · rw [if_pos hC] at hD
      rw [hD]
      have hP : P5 s = blN s := by unfold P5; rw [if_pos hC]
      simp_arith
      refine ⟨fit_nat (e := 2) (by omega), .ii ((0 : Nat) : Int), rfl, ?_⟩
      simp_arith
      rw [exs_cons_]
      simp_arith
      refine ⟨fit_nat (e := 0) (by omega), .ss sNo, rfl, ?_⟩
      simp_arith [show (sNo == [105, 115]) = false from rfl, exs_nil_]
      have := key (some (.ii (blN s : Int))) (some (.bb false)) (some (dueV (bareN s) 0))
      rw [hP, hD] at this
      rw [show ((0 : Nat) : Int) + (blN s : Int) = (blN s : Int) by omega]
      exact this
    · rw [if_neg hC] at hD
      have hP : P5 s = blN s + C5 s + blN (s.drop (blN s + C5 s)) := by unfold P5; rw [if_neg hC]
      have hCl := cnt_le (s.drop (blN s))
      rw [List.length_drop] at hCl
      change C5 s ≤ _ at hCl
      rw [hD]
      simp_arith
      refine ⟨fit_nat (e := 2) (by omega), .ii (C5 s : Int), rfl, ?_⟩
      simp_arith
      rw [exs_cons_]
      simp_arith
      refine ⟨fit_nat (e := 0) (by omega), .ss sIs, rfl, ?_⟩
      simp_arith [show (sIs == [105, 115]) = true from rfl]
      rw [exs_cons_]
      rw [show ((C5 s : Nat) : Int) + (blN s : Int) = ((blN s + C5 s : Nat) : Int) by omega]
      simp_arith [pyS_nat']
      refine ⟨hB, by rw [List.length_drop]; omega, hB, .str _ .lstrip, cal_lstrip, ?_⟩
      refine ⟨by rw [List.length_drop]; omega, ?_⟩
      simp_arith
      refine ⟨by rw [drop_bl, List.length_drop, List.length_drop]; omega, ?_⟩
      have e1 : ((blN s + C5 s : Nat) : Int) + ((s.drop (blN s + C5 s)).length : Int) - (((s.drop (blN s + C5 s)).dropWhile (· == 32)).length : Int) = ((P5 s : Nat) : Int) := by
        have := lstrip_len (s.drop (blN s + C5 s)); omega
      rw [e1]
      simp_arith [exs_nil_]
      have := key (some (.ii (blN s : Int))) (some (.bb false)) (some (dueV (bareN s) 0))
      rw [hD] at this
      exact this
end
end L05
end Mine
set_option maxRecDepth 10000
namespace Mine
open PySem PySem.Calls PyProof.Rows PySem.W
namespace L05
open Mine
def alphaL : List Nat := [48, 49, 50, 51, 52, 53, 54, 55, 56, 57, 46, 101, 69, 43, 45, 32]
def signOf (i : Int) : Nat := alphaL.getD (i.fmod 16).toNat 0
def signsOf (rows : List Int) : List Nat := (pyS rows (some 1) (some 21)).map signOf
theorem pyS_map {α β : Type} (f : α → β) (l : List α) (a b : Option Int) : pyS (l.map f) a b = (pyS l a b).map f := by
  unfold pyS
  rw [List.length_map, List.map_take, List.map_drop]
theorem mod16 (i : Int) : 0 ≤ i.fmod 16 ∧ i.fmod 16 < 16 := ⟨Int.fmod_nonneg_of_pos i (by decide), Int.fmod_lt_of_pos i (by decide)⟩
theorem signOf_get (i : Int) : pyI alphaL (i.fmod 16) = some (signOf i) ∧ signOf i ∈ alphaL := by
  obtain ⟨h1, h2⟩ := mod16 i
  obtain ⟨k, hk⟩ : ∃ k : Nat, i.fmod 16 = k := ⟨(i.fmod 16).toNat, by omega⟩
  unfold signOf
  rw [hk, pyI_nat]
  have hk2 : k < alphaL.length := by show k < 16; omega
  rw [Int.toNat_natCast, List.getElem?_eq_getElem hk2, List.getD_eq_getElem?_getD, List.getElem?_eq_getElem hk2]
  exact ⟨rfl, List.getElem_mem hk2⟩
theorem signs_alp (rows : List Int) : Alp (signsOf rows) := by
  intro c hc
  obtain ⟨i, _, rfl⟩ := List.mem_map.mp hc
  exact (signOf_get i).2
theorem signs_len (rows : List Int) : (signsOf rows).length ≤ 20 := by
  unfold signsOf
  rw [List.length_map]
  have : pyS rows (some 1) (some 21) = (rows.drop 1).take 20 := pyS_nat rows 1 21
  rw [this, List.length_take]; omega
theorem allStr_singles : ∀ l : List Nat, allStr (singles l) = some (l.map fun c => [c])
  | [] => rfl
  | c :: l => by
    unfold singles
    rw [List.map_cons, List.map_cons, allStr]
    have := allStr_singles l
    unfold singles at this
    rw [this]; rfl
theorem join_singles : ∀ l : List Nat, joinS [] (l.map fun c => [c]) = l
  | [] => rfl
  | [c] => rfl
  | c :: d :: l => by
    rw [List.map_cons, List.map_cons, joinS]
    · have := join_singles (d :: l)
      rw [List.map_cons] at this
      rw [this]; rfl
    · simp
theorem sum_singles (l : List Nat) : ((l.map fun c => [c]).map List.length).sum = l.length := by
  induction l with
  | nil => rfl
  | cons c l ih => simp only [List.map_cons, List.sum_cons, ih, List.length_cons, List.length_nil]; omega
section
variable {S : Sx} {n : Nat} {E : ES}
set_option maxHeartbeats 2000000 in
theorem law_ok (L : L5 S) (rows : List Int) (hz : rows.length ≤ 63) : exs S [] b160 (n + 20) [some (.rr 0), none, none, none, none, none, none, none, none, none, none] [.ilist (rows.map .ii)] (endK fun v _ => v = .bb true) E := by
  have gg16 := L.R.gs 16 (by decide)
  have hg0 : getL [O.ilist (rows.map .ii)] 0 = some (rows.map .ii) := rfl
  have hrB : (rows.map V.ii).length ≤ BIG := by rw [List.length_map]; unfold BIG; omega
  have hsl := signs_len rows
  have hsa := signs_alp rows
  have key : ∀ head : Int, exs S [] b160.tl (n + 20) [some (.rr 0), some (.ii head), none, none, none, none, none, none, none, none, none] [.ilist (rows.map .ii)] (endK fun v _ => v = .bb true) E := by
    intro head
    unfold b160
    simp only [SL.tl]
    rw [exs_cons_]
    simp_arith
    refine ⟨.str [] .join, cal_join, ?_⟩
    refine ev_comp_pure (H1 := [O.ilist (rows.map .ii)] ++ [O.list (pyS (rows.map .ii) (some 1) (some 21))]) (src := .rr 1) (xs := pyS (rows.map .ii) (some 1) (some 21)) (ep := 0) (κ' := []) (fun _ => true) (fun v => match v with | .ii i => .ss [signOf i] | _ => .nn) (fun Q' h => ?_) (by omega) (Nat.le_trans (pyS_le _ _ _) (by rw [List.length_map]; omega)) rfl (fun _ => rfl) (by rw [L.fns 161 (by decide)]; rfl) (by rw [L.fns 161 (by decide)]; rfl) ?_ ?_ ?_
    · simp_arith
      exact ⟨_, hg0, hrB, h⟩
    · rintro v _ H' K hK
      rw [evT_nil]; exact hK
    · rintro v hv _ H' K hK
      rw [pyS_map] at hv
      obtain ⟨i, _, rfl⟩ := List.mem_map.mp hv
      obtain ⟨m1, m2⟩ := mod16 i
      simp_arith
      exact ⟨by decide, by unfold Fit; omega, signOf i, (signOf_get i).1, hK⟩
    · rw [pyS_map, List.filter_eq_self.mpr (fun _ _ => rfl), List.map_map]
      have hmm : (pyS rows (some 1) (some 21)).map ((fun v => match v with | .ii i => V.ss [signOf i] | _ => .nn) ∘ V.ii) = singles (signsOf rows) := by
        unfold singles signsOf
        rw [List.map_map]; rfl
      rw [hmm]
      simp_arith
      unfold calQ
      refine ⟨by simp, singles (signsOf rows), (signsOf rows).map (fun c => [c]), ?_, allStr_singles _, ?_, ?_⟩
      · rfl
      · rw [sum_singles]; simp only [List.length_nil]; omega
      rw [join_singles]
      simp_arith
      generalize hT : signsOf rows = s at *
      rw [exs_cons_]
      generalize hG : [O.ilist (List.map V.ii rows)] ++ [O.list ((pyS rows (some 1) (some 21)).map V.ii)] ++ [O.list (singles s)] = G
      simp_arith [glob_g gg16, ev_lam]
      refine ⟨[], by rw [L.fns 162 (by decide)]; rfl, [], by rw [L.fns 163 (by decide)]; rfl, by omega, ?_⟩
      have e1 : G ++ [O.fn 162 []] ++ [O.fn 163 []] = G ++ [O.fn 162 [], O.fn 163 []] := by rw [List.append_assoc]; rfl
      have e2 : (G ++ [O.fn 162 []]).length = G.length + 1 := by simp
      rw [e1, e2]
      refine Calls.le (n := 3) (calls_cls L.R.sv L.c3 rfl (init_ok (h := hs5 G.length) (st := true) (N := 0) L.R trivial ⟨rfl, ?_⟩)) (by omega) (by decide)
      have hr := RdObj.new (h := hs5 G.length) (st := true) (H := G ++ [O.fn 162 [], O.fn 163 []]) (l := []) (fun _ x => x.elim) (es := [(n_scan_once, .rr ((G ++ [O.fn 162 [], O.fn 163 []]).length + 13)), (n_parse_string, .gg 12), (n_parse_array, .gg 14), (n_parse_object, .gg 13), (n_array_hook, (hs5 G.length).ah), (n_strict, .bb true), (n_parse_int, (hs5 G.length).pi), (n_parse_float, (hs5 G.length).pf), (n_object_pairs_hook, (hs5 G.length).op), (n_object_hook, (hs5 G.length).oh)]) rfl rfl rfl
      revert hr
      generalize hF : (G ++ [O.fn 162 [], O.fn 163 []]) ++ O.ns [(n_scan_once, V.rr ((G ++ [O.fn 162 [], O.fn 163 []]).length + 13)), (n_parse_string, .gg 12), (n_parse_array, .gg 14), (n_parse_object, .gg 13), (n_array_hook, (hs5 G.length).ah), (n_strict, .bb true), (n_parse_int, (hs5 G.length).pi), (n_parse_float, (hs5 G.length).pf), (n_object_pairs_hook, (hs5 G.length).op), (n_object_hook, (hs5 G.length).oh)] :: O.inst 16 (G ++ [O.fn 162 [], O.fn 163 []]).length :: cellsO (hs5 G.length) true ((G ++ [O.fn 162 [], O.fn 163 []]).length + 2) = H5
      intro hr
      have hL5 : L5L G.length [] H5 [] := by
        refine ⟨?_, ?_, by simp, by simp⟩
        · rw [← hF, List.append_assoc]; exact at0
        · rw [← hF, List.append_assoc]; exact at1
      revert hr
      generalize (G ++ [O.fn 162 [], O.fn 163 []]).length + 1 = r
      generalize (G ++ [O.fn 162 [], O.fn 163 []]).length + 2 = b
      intro hr
      have hB : s.length ≤ BIG := by unfold BIG; omega
      simp_arith
      rw [exs_cons_]
      obtain ⟨k, hk, hkl⟩ : ∃ k : Nat, (head.fdiv 2).fmod ((s.length : Int) + 1) = k ∧ k ≤ s.length := by
        have h1 := Int.fmod_nonneg_of_pos (head.fdiv 2) (b := (s.length : Int) + 1) (by omega)
        have h2 := Int.fmod_lt_of_pos (head.fdiv 2) (b := (s.length : Int) + 1) (by omega)
        exact ⟨((head.fdiv 2).fmod ((s.length : Int) + 1)).toNat, by omega, by omega⟩
      simp_arith
      refine ⟨by decide, by decide, hB, by omega, ?_⟩
      rw [hk]
      rw [exs_cons_, ex_for]
      simp_arith [ev_lst]
      refine ⟨hB, .str s .lstrip, cal_lstrip, ?_⟩
      refine ⟨by omega, ?_⟩
      simp_arith
      refine ⟨by rw [drop_bl, List.length_drop]; omega, by unfold BIG; simp, ?_⟩
      rw [lstrip_len]
      refine ⟨[.ii ((0 : Nat) : Int), .ii (k : Int), .ii (blN s : Int)], 0, snap_list at0, by omega, by simp, ?_⟩
      have c0 : C0 H5 (H5 ++ [O.list [.ii ((0 : Nat) : Int), .ii (k : Int), .ii (blN s : Int)]]) := .app
      have stepL : ∀ {H' H'' : AH}, C0 H' H'' → L5L G.length [] H' [] → L5L G.length [] H'' [] := fun c h => ⟨c.2 _ _ h.1 id, c.2 _ _ h.2.1 id, h.2.2⟩
      have hla : (H5 ++ [O.list [.ii ((0 : Nat) : Int), .ii (k : Int), .ii (blN s : Int)]])[H5.length]? = some (O.list [.ii ((0 : Nat) : Int), .ii (k : Int), .ii (blN s : Int)]) := at0
      rw [forGo]
      refine ⟨snap_list hla, at_step L hsl hsa (hr.chg c0) (stepL c0 hL5) (Nat.zero_le _) fun H6 w5 w6 c1 => ?_⟩
      simp_arith
      rw [forGo]
      have c01 := c0.trans c1
      refine ⟨snap_list (C0.list c1 hla), at_step L hsl hsa (hr.chg c01) (stepL c01 hL5) hkl fun H7 w5 w6 c2 => ?_⟩
      simp_arith
      rw [forGo]
      have c012 := c01.trans c2
      refine ⟨snap_list (C0.list (c1.trans c2) hla), at_step L hsl hsa (hr.chg c012) (stepL c012 hL5) (blN_le s) fun H8 w5 w6 c3 => ?_⟩
      simp_arith
      rw [forGo]
      have c0123 := c012.trans c3
      refine ⟨snap_list (C0.list ((c1.trans c2).trans c3) hla), ?_⟩
      simp_arith
      exact tail_ok L hsl hsa (hr.chg c0123) (stepL c0123 hL5)
  unfold b160
  rw [exs_cons_]
  simp_arith
  refine ⟨rows.map .ii, hg0, hrB, ?_⟩
  cases rows with
  | nil =>
    simp_arith [List.map_nil, List.isEmpty_nil]
    exact key 0
  | cons x rows =>
    simp_arith [List.map_cons, List.isEmpty_cons]
    exact ⟨fit_nat (e := 0) (by omega), _, _, rfl, rfl, key x⟩
end
end L05
end Mine
set_option maxRecDepth 100000
set_option maxHeartbeats 4000000
namespace Mine.L05
open Mine PySem PySem.Calls PyProof.Rows PySem.W
def c5 : Cfg where
  gnames := gnames
  gvs := [.ref 21, .ref 29, .ref 59, .ref 49, .ref 66, .type "float", .str ⟨wsL.toArray⟩ 325, .str ⟨hxL.toArray⟩ 323, .ref 88, .ref 74, .ref 95, .ref 81, .ref 103, .ref 110, .ref 118, .ref 73, .ref 151,
    .none, .none, .none, .none, .none, .none, .none, .none, .none, .none, .none, .none, .none, .ref 160, .ref 167, .ref 172, .ref 184, .ref 177, .ref 191]
  xs := [46, 140, 148, 133, 196]
  fns := fns
  tabs := [(72, 68), (195, 193)]
  table := 74
  clsE := 49
  clsD := 151
  ws := 325
  hx := 323
theorem chk5 (P : Params) : c5.chk (hd05.heap_39 P) = true := by kernel_rfl
section
variable {prog : Program} {w : World} {base : Heap} {mg mb : Str → Option Value}
noncomputable abbrev S5 (prog : Program) (w : World) (base : Heap) (mg mb : Str → Option Value) : Sx := mkS c5 prog w base mg mb (hd05.heap_39 w.params)
theorem g5 (X : (hd05.heap_39 w.params).In base) {k f m : Nat} {ds : List V} {nest : Bool} {a : Addr} (hv : c5.gv k = .ref a) (h : fnChk (hd05.heap_39 w.params) c5.gname fns [(72, 68), (195, 193)] f m ds nest a = true) (hs : (startsSup (fns f).body).isSome = false) : GFn (S5 prog w base mg mb) k f m ds nest :=
  gfn_of (S := S5 prog w base mg mb) X hv h fun _ _ _ _ _ z => by rw [show (S5 prog w base mg mb).fns f = fns f from rfl, hs] at z; cases z
theorem chk_0 (P : Params) : fnChk (hd05.heap_39 P) c5.gname fns [(72, 68), (195, 193)] 0 2 [] false 21 = true := by kernel_rfl
theorem chk_1 (P : Params) : fnChk (hd05.heap_39 P) c5.gname fns [(72, 68), (195, 193)] 1 4 [] false 29 = true := by kernel_rfl
theorem chk_2a (P : Params) : fnChk (hd05.heap_39 P) c5.gname fns [(72, 68), (195, 193)] 2 4 [.nn] false 46 = true := by kernel_rfl
theorem chk_2b (P : Params) : fnChk (hd05.heap_39 P) c5.gname fns [(72, 68), (195, 193)] 2 5 [] false 46 = true := by kernel_rfl
theorem chk_3 (P : Params) : fnChk (hd05.heap_39 P) c5.gname fns [(72, 68), (195, 193)] 3 2 [] false 59 = true := by kernel_rfl
theorem chk_4 (P : Params) : fnChk (hd05.heap_39 P) c5.gname fns [(72, 68), (195, 193)] 4 2 [] false 66 = true := by kernel_rfl
theorem chk_5 (P : Params) : fnChk (hd05.heap_39 P) c5.gname fns [(72, 68), (195, 193)] 5 1 [] true 73 = true := by kernel_rfl
theorem chk_8 (P : Params) : fnChk (hd05.heap_39 P) c5.gname fns [(72, 68), (195, 193)] 8 2 [] false 81 = true := by kernel_rfl
theorem chk_9 (P : Params) : fnChk (hd05.heap_39 P) c5.gname fns [(72, 68), (195, 193)] 9 2 [] false 88 = true := by kernel_rfl
theorem chk_10 (P : Params) : fnChk (hd05.heap_39 P) c5.gname fns [(72, 68), (195, 193)] 10 2 [] false 95 = true := by kernel_rfl
theorem chk_11 (P : Params) : fnChk (hd05.heap_39 P) c5.gname fns [(72, 68), (195, 193)] 11 3 [] false 103 = true := by kernel_rfl
theorem chk_12 (P : Params) : fnChk (hd05.heap_39 P) c5.gname fns [(72, 68), (195, 193)] 12 5 [] false 110 = true := by kernel_rfl
theorem chk_13 (P : Params) : fnChk (hd05.heap_39 P) c5.gname fns [(72, 68), (195, 193)] 13 3 [] false 118 = true := by kernel_rfl
theorem chk_14 (P : Params) : fnChk (hd05.heap_39 P) c5.gname fns [(72, 68), (195, 193)] 14 4 [.bb true, .nn, .nn] false 133 = true := by kernel_rfl
theorem chk_15 (P : Params) : fnChk (hd05.heap_39 P) c5.gname fns [(72, 68), (195, 193)] 15 2 [] false 140 = true := by kernel_rfl
theorem chk_16a (P : Params) : fnChk (hd05.heap_39 P) c5.gname fns [(72, 68), (195, 193)] 16 2 [.ii 0] false 148 = true := by kernel_rfl
theorem chk_16b (P : Params) : fnChk (hd05.heap_39 P) c5.gname fns [(72, 68), (195, 193)] 16 3 [] false 148 = true := by kernel_rfl
theorem chk_40 (P : Params) : fnChk (hd05.heap_39 P) c5.gname fns [(72, 68), (195, 193)] 40 1 [] false 160 = true := by kernel_rfl
theorem chk_60 (P : Params) : fnChk (hd05.heap_39 P) c5.gname fns [(72, 68), (195, 193)] 60 1 [] false 167 = true := by kernel_rfl
theorem chk_80 (P : Params) : fnChk (hd05.heap_39 P) c5.gname fns [(72, 68), (195, 193)] 80 2 [] false 172 = true := by kernel_rfl
theorem chk_100 (P : Params) : fnChk (hd05.heap_39 P) c5.gname fns [(72, 68), (195, 193)] 100 2 [] false 177 = true := by kernel_rfl
theorem chk_120 (P : Params) : fnChk (hd05.heap_39 P) c5.gname fns [(72, 68), (195, 193)] 120 3 [] false 184 = true := by kernel_rfl
theorem chk_140 (P : Params) : fnChk (hd05.heap_39 P) c5.gname fns [(72, 68), (195, 193)] 140 2 [] false 191 = true := by kernel_rfl
theorem chk_E (P : Params) : excChk (hd05.heap_39 P) 49 46 = true := by kernel_rfl
theorem chk_160 (P : Params) : fnChk (hd05.heap_39 P) c5.gname fns [(72, 68), (195, 193)] 160 1 [] true 196 = true := by kernel_rfl
theorem chk_D (P : Params) : (makesIn (hd05.heap_39 P) 151 && fRef (hd05.heap_39 P) 151 "__init__" 133 && typeOk (typeIn (hd05.heap_39 P) (.ref 133)) "function" && keepIn (hd05.heap_39 P) (.ref 151)) = true := by kernel_rfl
abbrev prog5 : Program := PySem.Challenge.rw_ev0025_05.row.prog
theorem chk_S (P : Params) : supChk (hd05.heap_39 P) 49 46 (prog5.main.file : Str) = true := by kernel_rfl
theorem chk_T : (prog5.main.scope.names.lookup ("super" : Str)).isSome = false := by kernel_rfl
def tab5 : List (Str × PyData) := [([34], [34]), ([92], [92]), ([47], [47]), ([98], [8]), ([102], [12]), ([110], [10]), ([114], [13]), ([116], [9])].map fun (p : List Nat × List Nat) => ((⟨p.1.toArray⟩ : Str), PyData.str ⟨p.2.toArray⟩)
theorem chk_tab (P : Params) : KTD.tabLook KTD.flatLooks (fun b => (hd05.heap_39 P).lookup b) 74 tab5 = true := by kernel_rfl
theorem chk_hash (w : World) : KTD.hashesOf (fun b => (hd05.heap_39 w.params).lookup b) 74 = tab5.map fun p => (PySem.strKind prog5 w).hash p.1 := by kernel_rfl
theorem chk_nd : (tab5.map (·.1)).Nodup := by decide +kernel
theorem l5_of {p : Program} {loose : List Str} {mean : ExcName → Option Value} (X : (hd05.heap_39 w.params).In base) (T : Top p loose mean mg mb base) (htabs : ∀ q ∈ c5.tabs, CodeHd base q.1 q.2 ∧ base.get? q.2 = none) : L5 (S5 prog5 w base mg mb) := by
  have sv : SV (S5 prog5 w base mg mb) := sv_of X T (chk5 _) htabs (by
    have := kt_tab_in prog5 w X (chk_tab w.params) chk_nd (chk_hash w)
    exact this)
  have hsup : mg "super" = none ∧ mb "super" = some (.type "super") := biOk_of X T (by
    have h := chk5 w.params
    unfold Cfg.chk at h
    simp only [Bool.and_eq_true] at h
    exact h.1.1.1.1.1.1.1.1.1.1.1.1.1.1.1.1.1.1.1.1.1.1.1.1.2)
  have sup : ∀ fd oc od sl, base.get? 46 = some ⟨oc, od, .func fd, sl⟩ → SupF (S5 prog5 w base mg mb) fd := fun fd oc od sl hf =>
    supF_of (S := S5 prog5 w base mg mb) X (C := 49) (fI := 46) (chk_S _) (chk_E _) (fun c hc => by
      have hk : c = 3 := by simpa [mkS] using hc
      subst hk; rfl) hsup chk_T hf
  have gE : ∀ {m : Nat} {ds : List V}, fnChk (hd05.heap_39 w.params) c5.gname fns [(72, 68), (195, 193)] 2 m ds false 46 = true → GFn (S5 prog5 w base mg mb) 100 2 m ds false := fun h =>
    gfn_of (S := S5 prog5 w base mg mb) X (a := 46) rfl h fun fd oc od sl hf _ => sup fd oc od sl hf
  have hd := chk_D w.params
  simp only [Bool.and_eq_true] at hd
  exact {
    R := {
      sv := sv
      fns := fun k hk => match k, hk with
        | 0, _ => rfl | 1, _ => rfl | 2, _ => rfl | 3, _ => rfl | 4, _ => rfl | 5, _ => rfl | 6, _ => rfl | 7, _ => rfl | 8, _ => rfl | 9, _ => rfl | 10, _ => rfl | 11, _ => rfl | 12, _ => rfl | 13, _ => rfl | 14, _ => rfl | 15, _ => rfl | 16, _ => rfl
        | n + 17, h => absurd h (by omega)
      gs := fun _ _ => rfl
      gd := rfl
      isE := fun c => by show (c == 3) = true ↔ _; simp
      ao3 := fun a h => by show excAttrs.contains a = true; simpa using h
      ao16 := fun a h => by show objAttrs.contains a = true; simpa using h
      cm1 := rfl
      cm2 := by show (if (16 : Nat) = 16 then (if n_raw_from_text = n_from_text then some 101 else if n_raw_from_text = n_raw_from_text then some 102 else none) else none) = some 102; rw [if_pos rfl, if_neg (by decide), if_pos rfl]
      g_linecol := g5 X rfl (chk_0 _) rfl
      g_errmsg := g5 X rfl (chk_1 _) rfl
      g_exc3 := gexc_of (S := S5 prog5 w base mg mb) X (C := 49) (fI := 46) rfl rfl (chk_E _) (gE (chk_2a _)) (by decide)
      g_exc4 := gexc_of (S := S5 prog5 w base mg mb) X (C := 49) (fI := 46) rfl rfl (chk_E _) (gE (chk_2b _)) (by decide)
      g_digits := g5 X rfl (chk_3 _) rfl
      g_number := g5 X rfl (chk_4 _) rfl
      g_mk := g5 X rfl (chk_5 _) rfl
      g_ws := g5 X rfl (chk_8 _) rfl
      g_chunk := g5 X rfl (chk_9 _) rfl
      g_hex := g5 X rfl (chk_10 _) rfl
      g_str := g5 X rfl (chk_11 _) rfl
      g_obj := g5 X rfl (chk_12 _) rfl
      g_arr := g5 X rfl (chk_13 _) rfl
      g_from := g5 X rfl (chk_15 _) rfl
      g_raw1 := g5 X rfl (chk_16a _) rfl
      g_raw2 := g5 X rfl (chk_16b _) rfl }
    fns := fun _ _ => rfl
    gs := fun k h1 h2 => by show (if k = 6 then some wsL else if k = 7 then some hxL else none) = none; rw [if_neg (by omega), if_neg (by omega)]
    g_fig := g5 X rfl (chk_40 _) rfl
    g_isn := g5 X rfl (chk_60 _) rfl
    g_long := g5 X rfl (chk_80 _) rfl
    g_raw := g5 X rfl (chk_120 _) rfl
    g_due := g5 X rfl (chk_100 _) rfl
    g_all := g5 X rfl (chk_140 _) rfl
    c3 := gcls_of (S := S5 prog5 w base mg mb) (C := 151) (fI := 133) rfl rfl hd.1.1.1 hd.1.1.2 hd.1.2 hd.2 (g5 X rfl (chk_14 _) rfl) }
end
end Mine.L05
set_option maxRecDepth 100000
set_option maxHeartbeats 8000000
open PySem PySem.W PyProof.Rows
theorem Mine.ints_vrs {S : Mine.Sx} {μ : List Addr} {h : Heap} : ∀ {vs : List Value} {rows : List Int}, IntsAre vs rows → Mine.VRs S μ h (rows.map .ii) (vs.toArray).toList := by
  intro vs rows hI
  rw [List.toList_toArray]
  induction hI with
  | nil => exact .nil S
  | cons n t _ ih => exact .cons S .ii ih
theorem PySem.Challenge.cw_ev0025_05_holds : PySem.Challenge.rw_ev0025_05.Holds := by
  exact hd05 (by
  k_fill
  intro w s₀ s₁ mg mb G Y fa o pm cd doc dV kV ho hd hcd hD hmg hg args vals as hpre hlay hrd hwl hlo
  have KX := km_in_of Y
  km_tabs Y
  have X := (Ground.X G).1
  have V := (Ground.X G).2
  refine Ground.open G ?_
  intro T B D TE TW
  try (refine guard_noD D (by decide +kernel) ?_; clear D)
  have hmg2 := hmg
  km_lay T hmg ho hd cd
  clear hmg
  wrow_args hpre hlay hrd hwl hlo
  all_goals (
    first | refine callC_kw (enter_call ?_) | refine enter_call ?_
    w_top on
    rename List Int => rows
    rename Heap.IsList _ _ _ => hL
    rename IntsAre _ _ => hI
    have X5 : (hd05.heap_39 w.params).In (ghostOf s₁.heap [(72, 68), (195, 193)]) := ghost_K hT9 KX (by kernel_rfl)
    have T5 := ghost_top hT9 T
    have hfa : fa = 196 := by
      have h := mg_of KX (Top.g T) (n := Str.ofString "law") (v := .ref 196) (by kernel_rfl)
      rw [hmg2] at h
      cases h; rfl
    subst hfa
    have htabs : ∀ q ∈ Mine.L05.c5.tabs, CodeHd (ghostOf s₁.heap [(72, 68), (195, 193)]) q.1 q.2 ∧ (ghostOf s₁.heap [(72, 68), (195, 193)]).get? q.2 = none := by
      intro q hq
      have hc := ghost_code hT9
      refine ⟨?_, hideAll_none _ (List.mem_map.mpr ⟨q, hq, rfl⟩)⟩
      rcases List.mem_cons.mp hq with rfl | hq
      · exact hc.1
      rcases List.mem_cons.mp hq with rfl | hq
      · exact hc.2.1
      · cases hq
    have L := Mine.L05.l5_of (w := w) X5 T5 htabs
    have hz : rows.length ≤ 63 := by omega
    refine codeAny_mono (Mine.entry_of (S := Mine.L05.S5 Mine.L05.prog5 w (ghostOf s₁.heap [(72, 68), (195, 193)]) mg mb) L.R.sv (kv := 104) (k := 160) (vs := rows.map .ii) (Mine.L05.g5 X5 rfl (Mine.L05.chk_160 _) rfl) rfl ?_ hg ?_ (ghost_list hT9 hL) ?_ (Mine.L05.cw160 (L.fns 160 (by decide)) (Mine.L05.law_ok L (n := 40) rows hz))) ?_
    · exact fun b o e => of_hideAll _ e
    · exact fun q hq => (hT9 q hq).2
    · exact Mine.ints_vrs hI
    · rintro r s' ⟨rfl, h1, h2, h3, h4⟩
      exact Mine.good_true hT9 (fun _ _ => rfl) (by kernel_rfl) h1 h2 h3 h4))
