import PyProof.Rows.All
import Wide.All
import OpenK.AllK
import Wide.FinOn
import Lean
import PySem.Challenge.RW_wn0116_02
open PySem PySem.W PySem.Calls PyProof.Rows
set_option Elab.async false
set_option linter.unusedVariables false
set_option linter.unusedSimpArgs false
set_option maxRecDepth 10000
namespace Mine
local macro_rules | `(tactic| walk_at "Z") => `(tactic| (kjx_bare; intros; omega))
-- b1
theorem sub_one {n i : Nat} (h : i < n) : n - i = n - i - 1 + 1 := (Nat.sub_add_cancel (Nat.sub_pos_of_lt h)).symm
theorem sub_next {n i k : Nat} (h : n - i = k + 1) : n - (i + 1) = k := congrArg Nat.pred h
theorem lt_four : ∀ k < 4, k = 0 ∨ k = 1 ∨ k = 2 ∨ k = 3 := by decide
abbrev Loc := Str → Option Value
abbrev Cells := List (Addr × Obj)

structure St where
  prog : Program
  w : World
  K : Frag
  p : Program
  loose : List Str
  mean : ExcName → Option Value
  mg : Str → Option Value
  mb : Str → Option Value

structure Act where
  A : Around
  env : Env
  h₀ : Heap

structure Rest (s₀ s : Shared) : Prop where
  os : s.os = s₀.os
  gens : ∀ (g : Nat) (st : GenState), s₀.gens[g]? = some st → s.gens[g]? = some st
  bare : AllBare s₀.gens → AllBare s.gens

theorem Rest.refl (s : Shared) : Rest s s := ⟨rfl, fun _ _ e => e, id⟩
theorem Rest.trans {a b c : Shared} (x : Rest a b) (y : Rest b c) : Rest a c :=
  ⟨y.os.trans x.os, fun g st e => y.gens g st (x.gens g st e), fun e => y.bare (x.bare e)⟩

structure Pre (c : Act) (m : Loc) (N : Cells) (s₀ s : Shared) : Prop where
  F : Fr c.h₀ c.env.locals s.heap m
  N : News c.h₀ c.env.locals s.heap N
  R : Rest s₀ s

structure Ok (G : St) (n : Nat) (c : Act) : Prop where
  X : G.K.In c.h₀
  T : Top G.p G.loose G.mean G.mg G.mb c.h₀
  depth : c.A.depth + 4 * n < 1000
  units : c.A.units + 20 * n < 9000
  handled : c.A.handled = none
  kind : c.env.scope.kind = .function
  glob : c.env.globals = mainGlobals
  bui : c.env.builtins = builtinsNs

theorem Ok.mono {G : St} {n k : Nat} {c : Act} (o : Ok G n c) (h : k ≤ n) : Ok G k c :=
  ⟨o.X, o.T, by have := o.depth; (first | (revert h this; walk_at "Z") | omega), by have := o.units; (first | (revert h this; walk_at "Z") | omega), o.handled, o.kind, o.glob, o.bui⟩
theorem Ok.room {G : St} {n : Nat} {c : Act} (o : Ok G n c) : c.A.depth < recursionLimit := by
  have := o.depth; show _ < 1000; (first | (revert this; walk_at "Z") | omega)
/-- what stands after a step: the state fits, and Q -/
inductive Aft (c : Act) (s₀ : Shared) {α : Type} (Q : α → Loc → Cells → Prop) (a : α) (s' : Shared) : Prop
  | mk (m' : Loc) (N' : Cells) (p : Pre c m' N' s₀ s') (q : Q a m' N')
inductive AftR (c : Act) (s₀ : Shared) (Q : Flow → Loc → Cells → Prop) (r : Result) (s' : Shared) : Prop
  | mk (f : Flow) (m' : Loc) (N' : Cells) (e : r = .ok f) (p : Pre c m' N' s₀ s') (q : Q f m' N')
/-- the semantic triple: from every state that fits, the tree ends in Q and raises nothing -/
structure TW (G : St) (c : Act) {α : Type} (t : Sem α) (m : Loc) (N : Cells) (Q : α → Loc → Cells → Prop) : Prop where
  out : ∀ (s₀ s : Shared) (E : Value → Shared → Prop), Pre c m N s₀ s →
    wpAny (model G.prog G.w) c.A t (Aft c s₀ Q) E s

section
variable {G : St} {c : Act} {α β : Type} {t : Sem α} {m : Loc} {N : Cells}

theorem Pre.ext {s₀ s : Shared} (P : Pre c m N s₀ s) {h' : Heap} {tk : Nat} {m' : Loc} {N' : Cells} (F : Fr c.h₀ c.env.locals h' m') (N₁ : News c.h₀ c.env.locals h' N') :
    Pre c m' N' s₀ { s with heap := h', toks := tk } := ⟨F, N₁, ⟨P.R.os, P.R.gens, P.R.bare⟩⟩
theorem Pre.tok {s₀ s : Shared} (P : Pre c m N s₀ s) (tk : Nat) : Pre c m N s₀ { s with toks := tk } := ⟨P.F, P.N, ⟨P.R.os, P.R.gens, P.R.bare⟩⟩
theorem Pre.sub {s₀ s : Shared} (P : Pre c m N s₀ s) {N' : Cells} (h : ∀ p ∈ N', p ∈ N) : Pre c m N' s₀ s := ⟨P.F, fun p hp => P.N p (h p hp), P.R⟩
theorem Pre.K {s₀ s : Shared} {n : Nat} (P : Pre c m N s₀ s) (o : Ok G n c) : G.K.In s.heap := o.X.keeps P.F.keep

theorem TW.mono {Q Q' : α → Loc → Cells → Prop} (h : TW G c t m N Q) (hQ : ∀ a m N, Q a m N → Q' a m N) : TW G c t m N Q' :=
  ⟨fun s₀ s E P => wpAny_mono (h.out s₀ s E P) (fun _ _ ⟨m', N', p', q⟩ => ⟨m', N', p', hQ _ _ _ q⟩) fun _ _ e => e⟩
theorem TW.outf {f : α → β} {Q : β → Loc → Cells → Prop} {s₀ s : Shared} {E : Value → Shared → Prop} (h : TW G c t m N fun a m N => Q (f a) m N) (P : Pre c m N s₀ s) :
    wpAny (model G.prog G.w) c.A t (fun a s' => Aft c s₀ Q (f a) s') E s := wpAny_mono (h.out s₀ s E P) (fun _ _ ⟨m', N', p, q⟩ => ⟨m', N', p, q⟩) fun _ _ e => e
theorem TW.pure {a : α} {Q : α → Loc → Cells → Prop} (h : Q a m N) : TW G c (pure a) m N Q := ⟨fun _ _ _ P => wpAny_pure ⟨m, N, P, h⟩⟩
theorem TW.sub {N' : Cells} {Q : α → Loc → Cells → Prop} (h : TW G c t m N' Q) (hs : ∀ p ∈ N', p ∈ N) : TW G c t m N Q := ⟨fun s₀ s E P => h.out s₀ s E (P.sub hs)⟩
theorem TW.drop {Q : α → Loc → Cells → Prop} (h : TW G c t m N (fun a m' N' => ∃ N'', (∀ p ∈ N'', p ∈ N') ∧ Q a m' N'')) : TW G c t m N Q :=
  ⟨fun s₀ s E P => wpAny_mono (h.out s₀ s E P) (fun _ _ ⟨m', _, p', N'', hs, q⟩ => ⟨m', N'', p'.sub hs, q⟩) fun _ _ e => e⟩

/-- lift one step of the library's: the state's heap and tokens alone turn -/
theorem TW.raw {Q : α → Loc → Cells → Prop} (h : ∀ s E (Q' : α → Shared → Prop), Fr c.h₀ c.env.locals s.heap m → News c.h₀ c.env.locals s.heap N →
    (∀ a h' tk m' N', Fr c.h₀ c.env.locals h' m' → News c.h₀ c.env.locals h' N' → Q a m' N' → Q' a { s with heap := h', toks := tk }) → wpAny (model G.prog G.w) c.A t Q' E s) : TW G c t m N Q :=
  ⟨fun s₀ s E P => h s E _ P.F P.N fun a h' tk m' N' F' N₁ q => ⟨m', N', P.ext F' N₁, q⟩⟩
/-- the same where the heap and the locals stay -/
theorem TW.raw0 {Q : α → Loc → Cells → Prop} (h : ∀ s E (Q' : α → Shared → Prop), Fr c.h₀ c.env.locals s.heap m → News c.h₀ c.env.locals s.heap N →
    (∀ a tk, Q a m N → Q' a { s with toks := tk }) → wpAny (model G.prog G.w) c.A t Q' E s) : TW G c t m N Q :=
  ⟨fun s₀ s E P => h s E _ P.F P.N fun a tk q => ⟨m, N, P.tok tk, q⟩⟩
end

-- b2
section
variable {G : St} {c : Act} {n : Nat} {m : Loc} {N : Cells} {pos : Pos}

-- names
theorem t_local {x : Str} {v : Value} {Q : Value → Loc → Cells → Prop} (o : Ok G n c) (hv : m x = some v) (hl : c.env.kindOf x = some .local)
    (h : Q v m N) (hd : (x == ("__debug__" : Str)) = false := by decide) : TW G c (eval (.Name x pos) c.env) m N Q :=
  .raw0 fun s E Q' F N' k => wpAny_Name (wpAny_loadName_local o.kind hl F.ns hv (k _ s.toks h)) hd
theorem t_localn {x : Str} {v : Value} {Q : Value → Loc → Cells → Prop} (o : Ok G n c) (hv : m x = some v) (hl : c.env.kindOf x = some .local)
    (h : Q v m N) : TW G c (loadName c.env x) m N Q :=
  .raw0 fun s E Q' F N' k => wpAny_loadName_local o.kind hl F.ns hv (k _ s.toks h)
theorem t_cell {x : Str} {v : Value} {a : Addr} {ob : Obj} {Q : Value → Loc → Cells → Prop} (o : Ok G n c) (hc : c.env.cells.lookup x = some a) (hm : (a, ob) ∈ N) (hob : ob.data = .cell (some v))
    (hl : c.env.kindOf x = some .cell) (h : Q v m N) (hd : (x == ("__debug__" : Str)) = false := by decide) : TW G c (eval (.Name x pos) c.env) m N Q :=
  .raw0 fun s E Q' F N' k => wpAny_Name (wpAny_loadName_cell o.kind hl hc ⟨ob, N'.get hm, hob⟩ (k _ s.toks h)) hd
theorem t_glob {x : Str} {v : Value} {Q : Value → Loc → Cells → Prop} (o : Ok G n c) (e : nsIn G.K mainGlobals x = some (some v)) (hl : c.env.kindOf x = some .globalImplicit)
    (h : Q v m N) (hd : (x == ("__debug__" : Str)) = false := by decide) : TW G c (eval (.Name x pos) c.env) m N Q :=
  .raw0 fun s E Q' F N' k => Name_function_global o.kind hl (loadGlobal_global (by rw [o.glob]; exact o.T.g.keeps F.keep) (mg_of o.X o.T.g e) (k _ s.toks h)) hd
theorem t_bui {x : Str} {v : Value} {Q : Value → Loc → Cells → Prop} (o : Ok G n c) (e : nsIn G.K mainGlobals x = some none) (hb : bootBuiltins x = some v) (hn : x ≠ "__name__") (hl : c.env.kindOf x = some .globalImplicit)
    (h : Q v m N) (hd : (x == ("__debug__" : Str)) = false := by decide) : TW G c (eval (.Name x pos) c.env) m N Q :=
  .raw0 fun s E Q' F N' k => Name_function_global o.kind hl (loadGlobal_builtin (by rw [o.glob]; exact o.T.g.keeps F.keep) (mg_none_of o.X o.T.g e) (by rw [o.bui]; exact o.T.b.keeps F.keep) ((o.T.builtins x hn).trans hb) (k _ s.toks h)) hd

-- stores
theorem t_store {x : Str} {v : Value} {Q : Unit → Loc → Cells → Prop} (o : Ok G n c) (hl : c.env.kindOf x = some .local)
    (h : Q () (fun y => if y = x then some v else m y) N) : TW G c (storeName c.env x v) m N Q :=
  .raw fun s E Q' F N' k => wpAny_storeName_local hl F.ns (fun h' hn hs => k _ h' _ _ _ (F.set hn hs) (N'.set hs) h) (by rw [o.kind]; rfl)
theorem t_bind {x : Str} {v : Value} {Q : Unit → Loc → Cells → Prop} (h : TW G c (storeName c.env x v) m N Q) : TW G c (bindName c.env x v) m N Q :=
  ⟨fun s₀ s E P => wpAny_bindName (h.out s₀ s E P)⟩

-- constants
theorem t_int {i : Int} {k : Nat} {Q : Value → Loc → Cells → Prop} (h : ∀ t, Q (.int i t) m N) : TW G c (eval (.Constant (.int i) k pos) c.env) m N Q :=
  .raw0 fun s E Q' F N' q => wpAny_Constant_int (q _ _ (h _))
theorem t_str {i : Str} {k : Nat} {Q : Value → Loc → Cells → Prop} (h : ∀ t, Q (.str i t) m N) : TW G c (eval (.Constant (.str i) k pos) c.env) m N Q :=
  .raw0 fun s E Q' F N' q => wpAny_Constant_str (q _ _ (h _))
theorem t_bool {b : Bool} {k : Nat} {Q : Value → Loc → Cells → Prop} (h : Q (.bool b) m N) : TW G c (eval (.Constant (.bool b) k pos) c.env) m N Q :=
  .raw0 fun s E Q' F N' q => wpAny_Constant_bool (q _ s.toks h)
theorem t_none {k : Nat} {Q : Value → Loc → Cells → Prop} (h : Q .none m N) : TW G c (eval (.Constant .none k pos) c.env) m N Q :=
  .raw0 fun s E Q' F N' q => wpAny_Constant_none (q _ s.toks h)

-- composite expressions
theorem t_binop {l r : Expr} {op : Operator} {Q : Value → Loc → Cells → Prop}
    (h : TW G c (eval l c.env) m N fun a m₁ N₁ => TW G c (eval r c.env) m₁ N₁ fun b m₂ N₂ => TW G c (binaryOp op a b) m₂ N₂ Q) : TW G c (eval (.BinOp l op r pos) c.env) m N Q :=
  ⟨fun s₀ s E P => wpAny_BinOp (wpAny_mono (h.out s₀ s E P) (fun _ s₁ ⟨_, _, p₁, q₁⟩ => wpAny_mono (q₁.out s₀ s₁ E p₁) (fun _ s₂ ⟨_, _, p₂, q₂⟩ => q₂.out s₀ s₂ E p₂) fun _ _ e => e) fun _ _ e => e)⟩
theorem t_cmp {l r : Expr} {op : CmpOp} {Q : Value → Loc → Cells → Prop}
    (h : TW G c (eval l c.env) m N fun a m₁ N₁ => TW G c (eval r c.env) m₁ N₁ fun b m₂ N₂ => TW G c (compareOp op a b) m₂ N₂ Q)
    (hm : behindInMarks op r = false := by with_unfolding_all rfl) : TW G c (eval (.Compare l [op] [r] pos) c.env) m N Q :=
  ⟨fun s₀ s E P => wpAny_Compare1 (wpAny_mono (h.out s₀ s E P) (fun _ s₁ ⟨_, _, p₁, q₁⟩ => wpAny_mono (q₁.out s₀ s₁ E p₁) (fun _ s₂ ⟨_, _, p₂, q₂⟩ => q₂.out s₀ s₂ E p₂) fun _ _ e => e) fun _ _ e => e) hm⟩
theorem t_tcmp {l r : Expr} {op : CmpOp} {w : Sem Value} {Q : Bool → Loc → Cells → Prop}
    (h : TW G c (eval l c.env) m N fun a m₁ N₁ => TW G c (eval r c.env) m₁ N₁ fun b m₂ N₂ => TW G c (compareOp op a b) m₂ N₂ fun v m₃ N₃ => TW G c (truthy v) m₃ N₃ Q)
    (hm : behindInMarks op r = false := by with_unfolding_all rfl) : TW G c (isTrue (.Compare l [op] [r] pos) c.env w) m N Q :=
  ⟨fun s₀ s E P => wpAny_isTrue_Compare1 (wpAny_mono (h.out s₀ s E P) (fun _ s₁ ⟨_, _, p₁, q₁⟩ => wpAny_mono (q₁.out s₀ s₁ E p₁) (fun _ s₂ ⟨_, _, p₂, q₂⟩ => wpAny_mono (q₂.out s₀ s₂ E p₂) (fun _ s₃ ⟨_, _, p₃, q₃⟩ => q₃.out s₀ s₃ E p₃) fun _ _ e => e) fun _ _ e => e) fun _ _ e => e) hm⟩
theorem t_unary {x : Expr} {op : UnaryOp} {Q : Value → Loc → Cells → Prop} (h : TW G c (eval x c.env) m N fun a m₁ N₁ => TW G c (unaryOp op a) m₁ N₁ Q) :
    TW G c (eval (.UnaryOp op x pos) c.env) m N Q :=
  ⟨fun s₀ s E P => wpAny_UnaryOp (wpAny_mono (h.out s₀ s E P) (fun _ s₁ ⟨_, _, p₁, q₁⟩ => q₁.out s₀ s₁ E p₁) fun _ _ e => e)⟩
theorem t_ifexp {x y z : Expr} {Q : Value → Loc → Cells → Prop} (h : TW G c (isTrue x c.env (eval x c.env)) m N fun b m₁ N₁ => if b = true then TW G c (eval y c.env) m₁ N₁ Q else TW G c (eval z c.env) m₁ N₁ Q) :
    TW G c (eval (.IfExp x y z pos) c.env) m N Q :=
  ⟨fun s₀ s E P => wpAny_IfExp (wpAny_mono (h.out s₀ s E P) (fun b s₁ ⟨_, _, p₁, q₁⟩ => by
    cases b
    · exact q₁.out s₀ s₁ E p₁
    · exact q₁.out s₀ s₁ E p₁) fun _ _ e => e)⟩
theorem t_or2 {x y : Expr} {Q : Value → Loc → Cells → Prop} (h : TW G c (eval x c.env) m N fun v m₁ N₁ => TW G c (truthy v) m₁ N₁ fun b m₂ N₂ => if b = true then Q v m₂ N₂ else TW G c (eval y c.env) m₂ N₂ Q) :
    TW G c (eval (.BoolOp .Or [x, y] pos) c.env) m N Q :=
  ⟨fun s₀ s E P => wpAny_Or2 (wpAny_mono (h.out s₀ s E P) (fun v s₁ ⟨_, _, p₁, q₁⟩ => wpAny_mono (q₁.out s₀ s₁ E p₁) (fun b s₂ ⟨_, _, p₂, q₂⟩ => by
    cases b
    · exact q₂.out s₀ s₂ E p₂
    · exact ⟨_, _, p₂, q₂⟩) fun _ _ e => e) fun _ _ e => e)⟩

-- tests
theorem t_tval {e : Expr} {w : Sem Value} {Q : Bool → Loc → Cells → Prop} (h : TW G c w m N fun v m₁ N₁ => TW G c (truthy v) m₁ N₁ Q)
    (he : isTrue e c.env w = (do let v ← w; standAt e.pos; holding [v] (truthy v)) := by rfl) : TW G c (isTrue e c.env w) m N Q :=
  ⟨fun s₀ s E P => wpAny_isTrue_value (wpAny_mono (h.out s₀ s E P) (fun _ s₁ ⟨_, _, p₁, q₁⟩ => q₁.out s₀ s₁ E p₁) fun _ _ e => e) he⟩
theorem t_tnot {x : Expr} {w : Sem Value} {Q : Bool → Loc → Cells → Prop} (h : TW G c (isTrue x c.env (eval x c.env)) m N fun b m₁ N₁ => Q (!b) m₁ N₁) :
    TW G c (isTrue (.UnaryOp .Not x pos) c.env w) m N Q :=
  ⟨fun s₀ s E P => wpAny_isTrue_Not (h.outf (f := not) P)⟩
theorem t_tand {vs : List Expr} {op : BoolOp} {w : Sem Value} {Q : Bool → Loc → Cells → Prop} (h : TW G c (allTrue op vs c.env) m N Q) :
    TW G c (isTrue (.BoolOp op vs pos) c.env w) m N Q := ⟨fun s₀ s E P => wpAny_isTrue_BoolOp (h.out s₀ s E P)⟩
theorem t_and_nil {Q : Bool → Loc → Cells → Prop} (h : Q true m N) : TW G c (allTrue .And [] c.env) m N Q := ⟨fun s₀ s E P => wpAny_allTrue_And_nil ⟨_, _, P, h⟩⟩
theorem t_or_nil {Q : Bool → Loc → Cells → Prop} (h : Q false m N) : TW G c (allTrue .Or [] c.env) m N Q := ⟨fun s₀ s E P => wpAny_allTrue_Or_nil ⟨_, _, P, h⟩⟩
theorem t_and_cons {x : Expr} {r : List Expr} {Q : Bool → Loc → Cells → Prop} (h : TW G c (isTrue x c.env (eval x c.env)) m N fun b m₁ N₁ => if b = true then TW G c (allTrue .And r c.env) m₁ N₁ Q else Q false m₁ N₁) :
    TW G c (allTrue .And (x :: r) c.env) m N Q :=
  ⟨fun s₀ s E P => wpAny_allTrue_And_cons (wpAny_mono (h.out s₀ s E P) (fun b s₁ ⟨_, _, p₁, q₁⟩ => by
    cases b
    · exact ⟨_, _, p₁, q₁⟩
    · exact q₁.out s₀ s₁ E p₁) fun _ _ e => e)⟩
theorem t_or_cons {x : Expr} {r : List Expr} {Q : Bool → Loc → Cells → Prop} (h : TW G c (isTrue x c.env (eval x c.env)) m N fun b m₁ N₁ => if b = true then Q true m₁ N₁ else TW G c (allTrue .Or r c.env) m₁ N₁ Q) :
    TW G c (allTrue .Or (x :: r) c.env) m N Q :=
  ⟨fun s₀ s E P => wpAny_allTrue_Or_cons (wpAny_mono (h.out s₀ s E P) (fun b s₁ ⟨_, _, p₁, q₁⟩ => by
    cases b
    · exact q₁.out s₀ s₁ E p₁
    · exact ⟨_, _, p₁, q₁⟩) fun _ _ e => e)⟩
-- statements
theorem t_nil {Q : Flow → Loc → Cells → Prop} (h : Q .next m N) : TW G c (execs [] c.env) m N Q := ⟨fun s₀ s E P => wpAny_execs_nil ⟨_, _, P, h⟩⟩
def Seq (G : St) (c : Act) (r : List Stmt) (Q : Flow → Loc → Cells → Prop) : Flow → Loc → Cells → Prop := fun f m N => match f with
  | .next => TW G c (execs r c.env) m N Q
  | f => Q f m N
theorem t_cons {st : Stmt} {r : List Stmt} {Q : Flow → Loc → Cells → Prop} (h : TW G c (exec st c.env) m N (Seq G c r Q)) : TW G c (execs (st :: r) c.env) m N Q :=
  ⟨fun s₀ s E P => wpAny_execs_cons (wpAny_mono (h.out s₀ s E P) (fun f s₁ ⟨_, _, p₁, q₁⟩ => by
    cases f
    · exact q₁.out s₀ s₁ E p₁
    all_goals exact ⟨_, _, p₁, q₁⟩) fun _ _ e => e)⟩
theorem t_assign {x : Str} {p' : Pos} {v : Expr} {Q : Flow → Loc → Cells → Prop} (h : TW G c (eval v c.env) m N fun a m₁ N₁ => TW G c (storeName c.env x a) m₁ N₁ fun _ m₂ N₂ => Q .next m₂ N₂)
    (hs : swapsWith v (some (.Name x p')) pos.line c.env = pure false := by rfl) : TW G c (exec (.Assign [.Name x p'] v pos) c.env) m N Q :=
  ⟨fun s₀ s E P => wpAny_Assign_Name (wpAny_mono (h.out s₀ s E P) (fun _ s₁ ⟨_, _, p₁, q₁⟩ => q₁.outf (f := fun _ => Flow.next) p₁) fun _ _ e => e) hs⟩
theorem t_aug {x : Str} {p' : Pos} {op : Operator} {v : Expr} {Q : Flow → Loc → Cells → Prop}
    (h : TW G c (loadName c.env x) m N fun a m₁ N₁ => TW G c (eval v c.env) m₁ N₁ fun b m₂ N₂ => TW G c (inplaceOp op a b) m₂ N₂ fun r m₃ N₃ => TW G c (storeName c.env x r) m₃ N₃ fun _ m₄ N₄ => Q .next m₄ N₄) :
    TW G c (exec (.AugAssign (.Name x p') op v pos) c.env) m N Q :=
  ⟨fun s₀ s E P => wpAny_AugAssign_Name (wpAny_mono (h.out s₀ s E P) (fun _ s₁ ⟨_, _, p₁, q₁⟩ => wpAny_mono (q₁.out s₀ s₁ E p₁) (fun _ s₂ ⟨_, _, p₂, q₂⟩ => wpAny_mono (q₂.out s₀ s₂ E p₂) (fun _ s₃ ⟨_, _, p₃, q₃⟩ => q₃.outf (f := fun _ => Flow.next) p₃) fun _ _ e => e) fun _ _ e => e) fun _ _ e => e)⟩
theorem t_if {x : Expr} {y z : List Stmt} {Q : Flow → Loc → Cells → Prop} (h : TW G c (isTrue x c.env (eval x c.env)) m N fun b m₁ N₁ => if b = true then TW G c (execs y c.env) m₁ N₁ Q else TW G c (execs z c.env) m₁ N₁ Q) :
    TW G c (exec (.If x y z pos) c.env) m N Q :=
  ⟨fun s₀ s E P => wpAny_If (wpAny_mono (h.out s₀ s E P) (fun b s₁ ⟨_, _, p₁, q₁⟩ => by
    cases b
    · exact q₁.out s₀ s₁ E p₁
    · exact q₁.out s₀ s₁ E p₁) fun _ _ e => e)⟩
theorem t_ret {x : Expr} {Q : Flow → Loc → Cells → Prop} (h : TW G c (eval x c.env) m N fun a m₁ N₁ => Q (.ret a) m₁ N₁) : TW G c (exec (.Return (some x) pos) c.env) m N Q :=
  ⟨fun s₀ s E P => wpAny_Return_some (h.outf (f := Flow.ret) P)⟩
theorem t_break {Q : Flow → Loc → Cells → Prop} (h : Q .brk m N) : TW G c (exec (.Break pos) c.env) m N Q := ⟨fun s₀ s E P => wpAny_Break ⟨_, _, P, h⟩⟩
def NoRef : Value → Prop
  | .ref _ => False
  | _ => True
theorem t_expr {x : Expr} {Q : Flow → Loc → Cells → Prop} (h : TW G c (eval x c.env) m N fun a m₁ N₁ => NoRef a ∧ Q .next m₁ N₁)
    (hi : interactive c.env = false) (hs : swapsWith x none pos.line c.env = pure false := by rfl) : TW G c (exec (.Expr x pos) c.env) m N Q :=
  ⟨fun s₀ s E P => wpAny_Expr (wpAny_mono (h.out s₀ s E P) (fun v s₁ ⟨_, _, p₁, q₁⟩ => by
    cases v <;> first | exact q₁.1.elim | exact ⟨_, _, p₁, q₁.2⟩) fun _ _ e => e) hi hs⟩
end

-- b3
theorem le_line {k : Nat} (h : k ≤ 16777216) : k ≤ sizeLine := h
/-- a text by its signs -/
def S (l : List Nat) : Str := ⟨l.toArray⟩
theorem S_len (l : List Nat) : (S l).length = l.length := by simp [S, Str.length]
theorem S_app (a b : List Nat) : S a ++ S b = S (a ++ b) := by
  show (Str.append (S a) (S b)) = S (a ++ b)
  simp [S, Str.append]
theorem S_cps (l : List Nat) : (S l).cps = l.toArray := rfl
theorem S_inj {a b : List Nat} : S a = S b ↔ a = b := by
  constructor
  · intro h; have := congrArg (fun x : Str => x.cps.toList) h; simpa [S] using this
  · intro h; rw [h]
theorem S_beq (a b : List Nat) : (S a == S b) = decide (a = b) := by
  by_cases h : a = b
  · subst h; simp
  · rw [decide_eq_false h]
    cases hq : (S a == S b) with
    | false => rfl
    | true => exact absurd (S_inj.mp (eq_of_beq hq)) h
theorem S_bne (a b : List Nat) : (S a != S b) = decide (a ≠ b) := by
  show (!(S a == S b)) = _
  rw [S_beq]; by_cases h : a = b <;> simp [h]

section
variable {G : St} {c : Act} {n : Nat} {m : Loc} {N : Cells} {pos : Pos}

section
variable {a b : Int} {t u : Tok} {Q : Value → Loc → Cells → Prop}
theorem o_add (h : ∀ t, Q (.int (a + b) t) m N) : TW G c (binaryOp .Add (.int a t) (.int b u)) m N Q := .raw0 fun s E Q' F N' k => by with_reducible exact add_int (k _ _ (h _))
theorem o_sub (h : ∀ t, Q (.int (a - b) t) m N) : TW G c (binaryOp .Sub (.int a t) (.int b u)) m N Q := .raw0 fun s E Q' F N' k => by with_reducible exact PyProof.Rows.sub_int (k _ _ (h _))
theorem o_mul (hm : IntMulOk a b) (h : ∀ t, Q (.int (a * b) t) m N) : TW G c (binaryOp .Mult (.int a t) (.int b u)) m N Q := .raw0 fun s E Q' F N' k => by with_reducible exact PyProof.Rows.mul_int (k _ _ (h _)) hm
theorem o_div (hb : b ≠ 0) (hs : b.natAbs < 1073741824) (h : ∀ t, Q (.int (a.fdiv b) t) m N) : TW G c (binaryOp .FloorDiv (.int a t) (.int b u)) m N Q :=
  .raw0 fun s E Q' F N' k => by with_reducible exact PyProof.Rows.floordiv_int hb (k _ _ (h _)) (.inl (PyProof.noPylong_small hs))
theorem o_mod (hb : b ≠ 0) (h : ∀ t, Q (.int (a.fmod b) t) m N) : TW G c (binaryOp .Mod (.int a t) (.int b u)) m N Q := .raw0 fun s E Q' F N' k => by with_reducible exact PyProof.Rows.mod_int' hb (k _ _ (h _))
theorem o_pow (hn : 0 ≤ b) (hsz : (Builtin.Int.intBits a : Int) * b ≤ 2 ^ 27) (h : ∀ t, Q (.int (a ^ b.toNat) t) m N) : TW G c (binaryOp .Pow (.int a t) (.int b u)) m N Q := .raw0 fun s E Q' F N' k => by with_reducible exact PyProof.Rows.pow_int hn hsz (k _ _ (h _))
theorem o_and (h : ∀ t, Q (.int (Builtin.bitAnd a b) t) m N) : TW G c (binaryOp .BitAnd (.int a t) (.int b u)) m N Q := .raw0 fun s E Q' F N' k => by with_reducible exact PyProof.Rows.and_int (k _ _ (h _))
theorem o_neg (h : ∀ t, Q (.int (-a) t) m N) : TW G c (unaryOp .USub (.int a t)) m N Q := .raw0 fun s E Q' F N' k => by with_reducible exact PySem.P.neg_int (k _ _ (h _))
theorem i_add (h : ∀ t, Q (.int (a + b) t) m N) : TW G c (inplaceOp .Add (.int a t) (.int b u)) m N Q := .raw0 fun s E Q' F N' k => by with_reducible exact PyProof.Rows.iadd_int (k _ _ (h _))
theorem i_sub (h : ∀ t, Q (.int (a - b) t) m N) : TW G c (inplaceOp .Sub (.int a t) (.int b u)) m N Q := .raw0 fun s E Q' F N' k => by with_reducible exact PyProof.Rows.isub_int (k _ _ (h _))
theorem i_or (h : ∀ t, Q (.int (Builtin.bitOr a b) t) m N) : TW G c (inplaceOp .BitOr (.int a t) (.int b u)) m N Q := .raw0 fun s E Q' F N' k => by with_reducible exact PyProof.Rows.ior_int (k _ _ (h _))
theorem i_shl (hn : 0 ≤ b) (hsz : (Builtin.Int.intBits a : Int) + b ≤ 2 ^ 27) (h : ∀ t, Q (.int (a * 2 ^ b.toNat) t) m N) : TW G c (inplaceOp .LShift (.int a t) (.int b u)) m N Q := .raw0 fun s E Q' F N' k => by with_reducible exact PyProof.Rows.ilshift_int hn hsz (k _ _ (h _))
theorem o_lt (h : Q (.bool (decide (a < b))) m N) : TW G c (compareOp .Lt (.int a t) (.int b u)) m N Q := .raw0 fun s E Q' F N' k => by with_reducible exact PyProof.Rows.lt_int (k _ s.toks h)
theorem o_le (h : Q (.bool (decide (a ≤ b))) m N) : TW G c (compareOp .LtE (.int a t) (.int b u)) m N Q := .raw0 fun s E Q' F N' k => by with_reducible exact PyProof.Rows.le_int (k _ s.toks h)
theorem o_gt (h : Q (.bool (decide (b < a))) m N) : TW G c (compareOp .Gt (.int a t) (.int b u)) m N Q := .raw0 fun s E Q' F N' k => by with_reducible exact PyProof.Rows.gt_int (k _ s.toks h)
theorem o_ge (h : Q (.bool (decide (b ≤ a))) m N) : TW G c (compareOp .GtE (.int a t) (.int b u)) m N Q := .raw0 fun s E Q' F N' k => by with_reducible exact PyProof.Rows.ge_int (k _ s.toks h)
theorem o_eq (h : Q (.bool (decide (a = b))) m N) : TW G c (compareOp .Eq (.int a t) (.int b u)) m N Q := .raw0 fun s E Q' F N' k => by with_reducible exact PyProof.Rows.eq_int (k _ s.toks (by
  have e : (a == b) = decide (a = b) := by by_cases q : a = b <;> simp [q]
  rw [e]; exact h))
theorem o_ne (h : Q (.bool (decide (a ≠ b))) m N) : TW G c (compareOp .NotEq (.int a t) (.int b u)) m N Q := .raw0 fun s E Q' F N' k => by with_reducible exact PyProof.Rows.ne_int (k _ s.toks (by
  have e : (a != b) = decide (a ≠ b) := by by_cases q : a = b <;> simp [q]
  rw [e]; exact h))
theorem o_isnone {v : Value} (h : Q (.bool (v == .none)) m N) : TW G c (compareOp .Is v .none) m N Q := .raw0 fun s E Q' F N' k => by with_reducible exact is_none (k _ s.toks h)
theorem o_isnotnone {v : Value} (h : Q (.bool (!(v == .none))) m N) : TW G c (compareOp .IsNot v .none) m N Q := .raw0 fun s E Q' F N' k => by with_reducible exact isNot_none (k _ s.toks h)
end
section
variable {x y : List Nat} {t u : Tok} {Q : Value → Loc → Cells → Prop}
theorem o_seq (h : Q (.bool (decide (x = y))) m N) : TW G c (compareOp .Eq (.str (S x) t) (.str (S y) u)) m N Q := .raw0 fun s E Q' F N' k => by with_reducible exact PyProof.Rows.eq_str (k _ s.toks (by rw [S_beq]; exact h))
theorem o_sne (h : Q (.bool (decide (x ≠ y))) m N) : TW G c (compareOp .NotEq (.str (S x) t) (.str (S y) u)) m N Q := .raw0 fun s E Q' F N' k => by with_reducible exact PyProof.Rows.ne_str (k _ s.toks (by rw [S_bne]; exact h))
theorem o_sgt (h : Q (.bool (decide (y < x))) m N) : TW G c (compareOp .Gt (.str (S x) t) (.str (S y) u)) m N Q := .raw0 fun s E Q' F N' k => by with_reducible exact PySem.P.gt_str (k _ s.toks (Eq.mpr (congrArg (fun b => Q (.bool b) m N) (decide_eq_decide.mpr (by simp [S_cps]))) h))
theorem o_sadd (hz : x.length + y.length ≤ 16777216) (h : ∀ t, Q (.str (S (x ++ y)) t) m N) : TW G c (binaryOp .Add (.str (S x) t) (.str (S y) u)) m N Q :=
  .raw0 fun s E Q' F N' k => by with_reducible exact PyProof.Rows.add_str (fun t' tk => by rw [S_app]; exact k _ _ (h _)) (by rw [S_len, S_len]; exact le_line hz)
theorem i_sadd (hz : x.length + y.length ≤ 16777216) (h : ∀ t, Q (.str (S (x ++ y)) t) m N) : TW G c (inplaceOp .Add (.str (S x) t) (.str (S y) u)) m N Q :=
  .raw0 fun s E Q' F N' k => by with_reducible exact PyProof.Rows.iadd_str (fun t' tk => by rw [S_app]; exact k _ _ (h _)) (by rw [S_len, S_len]; exact le_line hz)
theorem o_in1 {d : Nat} (h : Q (.bool (decide (d ∈ x))) m N) : TW G c (compareOp .In (.str (S [d]) t) (.str (S x) u)) m N Q :=
  .raw0 fun s E Q' F N' k => by with_reducible exact PyProof.Rows.in_str (k _ s.toks (by
    rw [show S [d] = ⟨#[d]⟩ from rfl, PySem.StrLaws.found_one]; exact (Eq.mpr (congrArg (fun b => Q (.bool b) m N) (decide_eq_decide.mpr (by simp [S_cps]))) h)))
theorem o_notin1 {d : Nat} (h : Q (.bool (!decide (d ∈ x))) m N) : TW G c (compareOp .NotIn (.str (S [d]) t) (.str (S x) u)) m N Q :=
  .raw0 fun s E Q' F N' k => by with_reducible exact PyProof.Rows.notIn_str (k _ s.toks (by
    rw [show S [d] = ⟨#[d]⟩ from rfl, PySem.StrLaws.found_one]; exact (Eq.mpr (congrArg (fun b => Q (.bool (!b)) m N) (decide_eq_decide.mpr (by simp [S_cps]))) h)))
end
section
variable {Q : Bool → Loc → Cells → Prop}
theorem b_bool {b : Bool} (h : Q b m N) : TW G c (truthy (.bool b)) m N Q := .raw0 fun s E Q' F N' k => by with_reducible exact wpAny_truthy_bool (k _ s.toks h)
theorem b_int {a : Int} {t : Tok} (h : Q (decide (a ≠ 0)) m N) : TW G c (truthy (.int a t)) m N Q := .raw0 fun s E Q' F N' k => by with_reducible exact PySem.P.truthy_int (k _ s.toks (by
  have e : (a != 0) = decide (a ≠ 0) := by by_cases q : a = 0 <;> simp [q]
  rw [e]; exact h))
theorem b_none (h : Q false m N) : TW G c (truthy .none) m N Q := .raw0 fun s E Q' F N' k => by with_reducible exact PyProof.Rows.truthy_none (k _ s.toks h)
theorem b_str {x : List Nat} {t : Tok} (hz : x.length ≤ 16777216) (h : Q (decide (x ≠ [])) m N) : TW G c (truthy (.str (S x) t)) m N Q :=
  .raw0 fun s E Q' F N' k => by with_reducible exact PySem.P.truthy_str (by rw [S_len]; (first | (revert hz; walk_at "Z") | omega)) (k _ _ (by
    have e : (((S x).length : Int) != 0) = decide (x ≠ []) := by
      rw [S_len]; cases x <;> simp <;> (first | walk_at "Z" | omega)
    rw [e]; exact h))
end
end

-- b4
def retOf : Flow → Value
  | .ret v => v
  | _ => .none

theorem ground {c : Act} {m : Loc} {N : Cells} {s₀ s : Shared} (P : Pre c m N s₀ s) :
    (∀ b o, c.h₀.get? b = some o → (hideAll s.heap (N.map (·.1))).get? b = some o) ∧
    (∀ b o, (hideAll s.heap (N.map (·.1))).get? b = some o → s.heap.get? b = some o) ∧
    ∀ {L' : Addr} {m' : Loc} {N' : Cells} {s'' : Shared}, Fr (hideAll s.heap (N.map (·.1))) L' s''.heap m' → News (hideAll s.heap (N.map (·.1))) L' s''.heap N' → Rest s₀ s'' → Pre c m N' s₀ s'' := by
  have nm : ∀ b o, c.h₀.get? b = some o → b ∉ N.map (·.1) := fun b o e q => by
    obtain ⟨p, hp, rfl⟩ := List.mem_map.mp q
    rw [(P.N p hp).2.2] at e; cases e
  have st : ∀ b o, c.h₀.get? b = some o → (hideAll s.heap (N.map (·.1))).get? b = some o := fun b o e => hideAll_get _ (P.F.keep b o e) (nm b o e)
  obtain ⟨oL, es, ep, hL, hLd, hLk, hLf⟩ := P.F.ns
  have nL : c.env.locals ∉ N.map (·.1) := fun q => by
    obtain ⟨p, hp, e⟩ := List.mem_map.mp q
    exact (P.N p hp).2.1 e
  have hLg := hideAll_get (N.map (·.1)) hL nL
  refine ⟨st, fun b o e => of_hideAll _ e, fun {L' m' N' s''} F' N₁ R => ⟨⟨⟨oL, es, ep, F'.keep _ oL hLg, hLd, hLk, hLf⟩, fun b o e => F'.keep b o (st b o e), P.F.above⟩, fun p hp => ⟨(N₁ p hp).1, fun q => ?_, ?_⟩, R⟩⟩
  · have := (N₁ p hp).2.2; rw [q, hLg] at this; cases this
  · cases q : c.h₀.get? p.1 with
    | none => rfl
    | some o => have := (N₁ p hp).2.2; rw [st _ _ q] at this; cases this

section
variable {G : St} {c : Act} {n : Nat} {m : Loc} {N : Cells} {pos : Pos}

theorem okDeeper {env : Env} {h₀ : Heap} (o : Ok G (n + 1) c) (st : ∀ b o, c.h₀.get? b = some o → h₀.get? b = some o) (hk : env.scope.kind = .function) (hg : env.globals = mainGlobals) (hb : env.builtins = builtinsNs) :
    Ok G n ⟨c.A.deeper env, env, h₀⟩ :=
  ⟨o.X.keeps st, o.T.keeps st, by have := o.depth; show c.A.depth + 1 + 4 * n < 1000; (first | (revert this; walk_at "Z") | omega), by have := o.units; show c.A.units + 3 + 20 * n < 9000; (first | (revert this; walk_at "Z") | omega), o.handled, hk, hg, hb⟩

theorem t_call {name qual : Str} {params : Arguments} {body : List Stmt} {scope : Scope} {dV kV doc pm cdv ct oc : Value} {an od : Option Addr} {osl : Array (Option Value)} {f : Addr} {args : List Value} {kw : List (Str × Value)} {binds : List (Str × Value)} {Q : Value → Loc → Cells → Prop}
    (o : Ok G (n + 1) c)
    (ho : G.K.lookup f = some ⟨oc, od, .func (fnOf name qual params body scope dV kV doc pm an cdv ct), osl⟩) (hcd : codeIn G.K cdv qual = true)
    (hbind : ∀ s : Shared, G.K.In s.heap → BindsTo s (fnOf name qual params body scope dV kV doc pm an cdv ct) ⟨args, kw⟩ binds)
    (hloc : ∀ y ∈ binds, scope.names.lookup y.1 = some .local) (hcell : ∀ x ∈ scope.names, x.2 ≠ .cell)
    (hco : scope.isCoroutine = false) (hgen : scope.isGenerator = false) (hk : scope.kind = .function)
    (h : ∀ c' : Act, c'.env.scope = scope → Ok G n c' → TW G c' (execs body c'.env) (fun y => binds.reverse.lookup y) N (fun fl _ N' => Q (retOf fl) m N')) :
    TW G c (call (.ref f) args kw) m N Q := ⟨fun s₀ s E P => by
  obtain ⟨st, sub, back⟩ := ground P
  have X := P.K o
  with_reducible refine wpAny_call ?_
  refine codeAny_call_def (fd := fnOf name qual params body scope dV kV doc pm an cdv ct) (body := body) (binds := binds) o.room (X _ _ ho) rfl (o.T.nolimit.keeps P.F.keep) (codeRec_of X hcd) rfl (hbind s X) hcell hloc (fun h₁ hns hk₁ => ?_) hco hgen hk
  have O := okDeeper (env := callEnv (fnOf name qual params body scope dV kV doc pm an cdv ct) s.heap.objs.size f) o st hk rfl rfl
  have W := h ⟨c.A.deeper _, callEnv (fnOf name qual params body scope dV kV doc pm an cdv ct) s.heap.objs.size f, hideAll s.heap (N.map (·.1))⟩ rfl O
  have P' : Pre ⟨c.A.deeper (callEnv (fnOf name qual params body scope dV kV doc pm an cdv ct) s.heap.objs.size f), callEnv (fnOf name qual params body scope dV kV doc pm an cdv ct) s.heap.objs.size f, hideAll s.heap (N.map (·.1))⟩ (fun y => binds.reverse.lookup y) N s₀ { s with heap := h₁, toks := s.toks + binds.length } :=
    ⟨⟨hns, fun b o e => hk₁ b o (sub b o e), Nat.le_of_eq (hideAll_size _ _)⟩,
     fun p hp => ⟨hk₁ _ _ (P.N p hp).1, Nat.ne_of_lt (Heap.lt_size (P.N p hp).1), hideAll_none _ (List.mem_map_of_mem hp)⟩, ⟨P.R.os, P.R.gens, P.R.bare⟩⟩
  exact wpAny_mono (W.out _ _ _ P') (fun fl s' ⟨m', N', p', q⟩ => ⟨m, N', back p'.F p'.N p'.R, q⟩) fun _ _ e => e⟩

/-- a def some of whose names stand in cells -/
theorem t_callC {name qual : Str} {params : Arguments} {body : List Stmt} {scope : Scope} {dV kV doc pm cdv ct oc : Value} {an od : Option Addr} {osl : Array (Option Value)} {f : Addr} {args : List Value} {kw : List (Str × Value)} {binds : List (Str × Value)} {Q : Value → Loc → Cells → Prop}
    (o : Ok G (n + 1) c)
    (ho : G.K.lookup f = some ⟨oc, od, .func (fnOf name qual params body scope dV kV doc pm an cdv ct), osl⟩) (hcd : codeIn G.K cdv qual = true)
    (hbind : ∀ s : Shared, G.K.In s.heap → BindsTo s (fnOf name qual params body scope dV kV doc pm an cdv ct) ⟨args, kw⟩ binds)
    (hkind : (binds.all fun y => scope.names.lookup y.1 == some .local || scope.names.lookup y.1 == some .cell) = true)
    (hnd : ((cellsFrom 0 scope.names []).map (·.1)).Nodup)
    (hco : scope.isCoroutine = false) (hgen : scope.isGenerator = false) (hk : scope.kind = .function)
    (h : ∀ (c' : Act) (cs : Cells), c'.env.scope = scope → c'.env.cells = cellsFrom (c'.env.locals + 1) scope.names [] → Ok G n c' →
      CellsAre (bindC (fun x => scope.names.lookup x) binds fun _ => none) c'.env.cells cs → (∀ p ∈ cs, ∀ q ∈ N, p.1 ≠ q.1) →
      TW G c' (execs body c'.env) (bindL (fun x => scope.names.lookup x) binds fun _ => none) (cs ++ N) (fun fl _ N' => Q (retOf fl) m N')) :
    TW G c (call (.ref f) args kw) m N Q := ⟨fun s₀ s E P => by
  obtain ⟨st, sub, back⟩ := ground P
  have X := P.K o
  with_reducible refine wpAny_call ?_
  refine codeAny_call_function (fd := fnOf name qual params body scope dV kV doc pm an cdv ct) (body := body) o.room (X _ _ ho) rfl hco hgen rfl (codeRec_of X hcd) (hbind s X _ _ _ _ ?_)
  refine wpAny_newFunctionEnv_cells hk (kindsX hkind _) fun env' he s' x => ?_
  subst he
  refine ⟨(o.T.nolimit.keeps P.F.keep).keeps x.toInCall.keep, codeAny_func ?_⟩
  obtain ⟨h₁, tk, rfl, _⟩ := x.done
  have hk₁ := x.toInCall.keep
  obtain ⟨cells, NC, Y⟩ := Cl.news (h₀ := s.heap) (Nat.le_refl _) fun n c hm => ⟨x.cell n c (lookup_of_mem_nodup (cellsFrom_names scope.names 0 (s.heap.objs.size + 1) [] [] rfl ▸ hnd) hm), x.above n c hm⟩
  have O := okDeeper (env := newEnv scope s.heap.objs.size mainGlobals (cellsFrom (s.heap.objs.size + 1) scope.names []) (qual ++ ".<locals>.") (some f) cdv none builtinsNs) o st hk rfl rfl
  have ap : ∀ p ∈ cells, ∀ q ∈ N, p.1 ≠ q.1 := fun p hp q hq e => by
    have := (NC p hp).2.2; rw [e, (P.N q hq).1] at this; cases this
  have W := h _ cells rfl rfl O Y ap
  refine wpAny_mono (W.out s₀ _ _ ⟨⟨x.toInCall.ns, fun b o e => hk₁ b o (sub b o e), Nat.le_of_eq (hideAll_size _ _)⟩, fun p hp => ?_, ⟨P.R.os, P.R.gens, P.R.bare⟩⟩) (fun fl s' ⟨m', N', p', q⟩ => ⟨m, N', back p'.F p'.N p'.R, q⟩) fun _ _ e => e
  rcases List.mem_append.mp hp with hp | hp
  · refine ⟨(NC p hp).1, (NC p hp).2.1, ?_⟩
    cases q : (hideAll s.heap (N.map (·.1))).get? p.1 with
    | none => rfl
    | some o => have := of_hideAll _ q; rw [(NC p hp).2.2] at this; cases this
  · exact ⟨hk₁ _ _ (P.N p hp).1, Nat.ne_of_lt (Heap.lt_size (P.N p hp).1), hideAll_none _ (List.mem_map_of_mem hp)⟩⟩

-- calls in expressions
theorem t_Call {func : Expr} {args : List Expr} {Q : Value → Loc → Cells → Prop}
    (h : TW G c (eval func c.env) m N fun f m₁ N₁ => TW G c (callWith pos f [] (backTo pos (starEach args c.env)) []) m₁ N₁ Q)
    (he : eval (.Call func args [] pos) c.env = (do callWith pos (← eval func c.env) [] (backTo pos (starEach args c.env)) (backToKw pos (keywordEach [] c.env))) := by rfl) :
    TW G c (eval (.Call func args [] pos) c.env) m N Q :=
  ⟨fun s₀ s E P => by with_reducible exact Call_ (wpAny_mono (h.out s₀ s E P) (fun _ s₁ ⟨_, _, p₁, q₁⟩ => q₁.out s₀ s₁ E p₁) fun _ _ e => e) he⟩
theorem t_items_nil {Q : List Value → Loc → Cells → Prop} (h : Q [] m N) : TW G c (spliced (backTo pos (starEach [] c.env))) m N Q :=
  ⟨fun s₀ s E P => by with_reducible exact wpAny_items_nil ⟨_, _, P, h⟩⟩
theorem t_items {e : Expr} {rest : List Expr} {Q : List Value → Loc → Cells → Prop}
    (h : TW G c (eval e c.env) m N fun v m₁ N₁ => TW G c (spliced (backTo pos (starEach rest c.env))) m₁ N₁ fun vs m₂ N₂ => Q (v :: vs) m₂ N₂)
    (he : starEach (e :: rest) c.env = (false, eval e c.env) :: starEach rest c.env := by rfl) : TW G c (spliced (backTo pos (starEach (e :: rest) c.env))) m N Q :=
  ⟨fun s₀ s E P => by with_reducible exact wpAny_items_cons (wpAny_mono (h.out s₀ s E P) (fun _ s₁ ⟨_, _, p₁, q₁⟩ => q₁.outf (f := fun vs => _ :: vs) p₁) fun _ _ e => e) he⟩
theorem t_cwK {f : Value} {first : List Value} {e : Expr} {rest : List Expr} {Q : Value → Loc → Cells → Prop} (o : Ok G n c) (hk : keepIn G.K f = true)
    (h : TW G c (spliced (backTo pos (starEach (e :: rest) c.env))) m N fun vs m₁ N₁ => TW G c (call f (first ++ vs)) m₁ N₁ Q)
    (he : starEach (e :: rest) c.env = (false, eval e c.env) :: starEach rest c.env := by rfl) (hplain : (backTo pos (starEach rest c.env)).any (·.1) = false := by rfl) :
    TW G c (callWith pos f first (backTo pos (starEach (e :: rest) c.env)) []) m N Q :=
  ⟨fun s₀ s E P => by with_reducible exact callWith_K o.X hk (wpAny_mono (h.out s₀ s E P) (fun _ s₁ ⟨_, _, p₁, q₁⟩ => ⟨p₁.K o, q₁.out s₀ s₁ E p₁⟩) fun _ _ e => e) he hplain⟩
theorem t_cwK0 {f : Value} {first : List Value} {Q : Value → Loc → Cells → Prop} (o : Ok G n c) (hk : keepIn G.K f = true)
    (h : TW G c (call f (first ++ [])) m N Q) : TW G c (callWith pos f first (backTo pos (starEach [] c.env)) []) m N Q :=
  ⟨fun s₀ s E P => by with_reducible exact callWith_K0 (P.K o) hk (h.out s₀ s E P)⟩
theorem t_cwB {id : String} {first : List Value} {e : Expr} {rest : List Expr} {Q : Value → Loc → Cells → Prop}
    (h : TW G c (spliced (backTo pos (starEach (e :: rest) c.env))) m N fun vs m₁ N₁ => TW G c (call (.builtin id) (first ++ vs)) m₁ N₁ Q)
    (he : starEach (e :: rest) c.env = (false, eval e c.env) :: starEach rest c.env := by rfl) (hplain : (backTo pos (starEach rest c.env)).any (·.1) = false := by rfl) :
    TW G c (callWith pos (.builtin id) first (backTo pos (starEach (e :: rest) c.env)) []) m N Q :=
  ⟨fun s₀ s E P => by with_reducible exact callWith_method1 (wpAny_mono (h.out s₀ s E P) (fun _ s₁ ⟨_, _, p₁, q₁⟩ => q₁.out s₀ s₁ E p₁) fun _ _ e => e) he hplain⟩
theorem t_cwB0 {id : String} {first : List Value} {Q : Value → Loc → Cells → Prop}
    (h : TW G c (call (.builtin id) first) m N Q) : TW G c (callWith pos (.builtin id) first (backTo pos (starEach [] c.env)) []) m N Q :=
  ⟨fun s₀ s E P => by with_reducible exact callWith_method0 (h.out s₀ s E P)⟩
theorem t_cwT {T : String} {e : Expr} {rest : List Expr} {Q : Value → Loc → Cells → Prop}
    (h : TW G c (spliced (backTo pos (starEach (e :: rest) c.env))) m N fun vs m₁ N₁ => TW G c (call (.type T) vs) m₁ N₁ Q)
    (he : starEach (e :: rest) c.env = (false, eval e c.env) :: starEach rest c.env := by rfl) (hplain : (backTo pos (starEach rest c.env)).any (·.1) = false := by rfl) :
    TW G c (callWith pos (.type T) [] (backTo pos (starEach (e :: rest) c.env)) []) m N Q :=
  ⟨fun s₀ s E P => by with_reducible exact PySem.Pv.callWith_type1 (wpAny_mono (h.out s₀ s E P) (fun _ s₁ ⟨_, _, p₁, q₁⟩ => q₁.out s₀ s₁ E p₁) fun _ _ e => e) he hplain⟩
theorem t_Meth {ob : Expr} {name : Str} {apos : Pos} {args : List Expr} {pl : Sem Bool} {Q : Value → Loc → Cells → Prop}
    (h : TW G c (eval ob c.env) m N fun ov m₁ N₁ => TW G c (getMethod ov name pl) m₁ N₁ fun fx m₂ N₂ => TW G c (callWith pos fx.1 fx.2 (backTo pos (starEach args c.env)) []) m₂ N₂ Q)
    (he : eval (.Call (.Attribute ob name apos) args [] pos) c.env = (do
      let ov ← eval ob c.env
      standAt apos.atName
      let (f, first) ← holding [ov] (getMethod ov name pl)
      callWith pos f first (backTo pos (starEach args c.env)) []) := by rfl) :
    TW G c (eval (.Call (.Attribute ob name apos) args [] pos) c.env) m N Q :=
  ⟨fun s₀ s E P => by with_reducible exact MethodCall_ (wpAny_mono (h.out s₀ s E P) (fun _ s₁ ⟨_, _, p₁, q₁⟩ => wpAny_mono (q₁.out s₀ s₁ E p₁) (fun _ s₂ ⟨_, _, p₂, q₂⟩ => q₂.out s₀ s₂ E p₂) fun _ _ e => e) fun _ _ e => e) he⟩
end

-- b5
abbrev tupOf (its : Array Value) (n : Nat) : Obj := { cls := .type "tuple", data := .seq its n }
/-- the cell a bears o' -/
def put (a : Addr) (o' : Obj) (N : Cells) : Cells := N.map fun p => if p.1 = a then (a, o') else p
def Fresh (a : Addr) (N : Cells) : Prop := ∀ p ∈ N, p.1 ≠ a
theorem Fresh.sub {a : Addr} {N N' : Cells} (h : Fresh a N) (hs : ∀ p ∈ N', p ∈ N) : Fresh a N' := fun p hp => h p (hs p hp)
theorem put_fresh {a : Addr} {o' : Obj} {N : Cells} (h : Fresh a N) : put a o' N = N := by
  unfold put
  conv => rhs; rw [← List.map_id N]
  refine List.map_congr_left fun p hp => ?_
  rw [if_neg (h p hp)]; rfl
theorem put_head {a : Addr} {o o' : Obj} {N : Cells} (h : Fresh a N) : put a o' ((a, o) :: N) = (a, o') :: N := by
  show (if a = a then (a, o') else (a, o)) :: put a o' N = _
  rw [if_pos rfl, put_fresh h]
theorem put_tail {a b : Addr} {o o' : Obj} {N : Cells} (h : b ≠ a) : put a o' ((b, o) :: N) = (b, o) :: put a o' N := by
  show (if b = a then (a, o') else (b, o)) :: put a o' N = _
  rw [if_neg h]
theorem put_mem {a : Addr} {o o' : Obj} {N : Cells} (h : (a, o) ∈ N) : (a, o') ∈ put a o' N := by
  unfold put
  exact List.mem_map.mpr ⟨(a, o), h, by simp⟩
theorem put_other {a b : Addr} {o o' : Obj} {N : Cells} (h : (b, o) ∈ N) (hn : b ≠ a) : (b, o) ∈ put a o' N := by
  unfold put
  exact List.mem_map.mpr ⟨(b, o), h, by simp [hn]⟩
theorem put_dom {a b : Addr} {o' : Obj} {N : Cells} (h : Fresh b N) : Fresh b (put a o' N) := by
  intro p hp
  obtain ⟨q, hq, rfl⟩ := List.mem_map.mp hp
  by_cases e : q.1 = a
  · rw [if_pos e]; show a ≠ b; rw [← e]; exact h q hq
  · rw [if_neg e]; exact h q hq

theorem news_put {h₀ h h' : Heap} {L a : Addr} {m : Loc} {N : Cells} {o o' : Obj} (F : Fr h₀ L h m) (N₀ : News h₀ L h N) (hm : (a, o) ∈ N) (hs : Heap.SameBut a h h') (ho : h'.get? a = some o') :
    Fr h₀ L h' m ∧ News h₀ L h' (put a o' N) := by
  have z := N₀ _ hm
  refine ⟨F.change hs z.2.1 z.2.2, fun p hp => ?_⟩
  obtain ⟨q, hq, rfl⟩ := List.mem_map.mp hp
  by_cases e : q.1 = a
  · rw [if_pos e]; exact ⟨ho, z.2⟩
  · rw [if_neg e]; exact ⟨(hs.2 _ e).trans (N₀ q hq).1, (N₀ q hq).2⟩
theorem news_fresh {h₀ h : Heap} {L : Addr} {N : Cells} (N₀ : News h₀ L h N) : Fresh h.objs.size N := fun p hp => Nat.ne_of_lt (Heap.lt_size (N₀ p hp).1)

/-- the items between two bounds, as a slice clamps them -/
def cut {α : Type} (x : List α) (lo hi : Option Int) : List α := (x.drop (lo.elim 0 (clipAt x.length))).take (hi.elim x.length (clipAt x.length) - lo.elim 0 (clipAt x.length))
theorem cut_len {α : Type} (x : List α) (lo hi : Option Int) : (cut x lo hi).length ≤ x.length := by
  unfold cut; rw [List.length_take, List.length_drop]; exact Nat.le_trans (Nat.min_le_right _ _) (Nat.sub_le _ _)
theorem clip_nat (n k : Nat) : clipAt n (k : Int) = min k n := by
  have := clipAt_cast n (k : Int)
  revert this; walk_at "Z"
theorem cut_str (x : List Nat) (lo hi : Option Int) : Txt.slice (S x) lo hi = S (cut x lo hi) := by
  have e : Builtin.Str.strSliceIndices lo hi 1 x.length = (List.range (hi.elim x.length (clipAt x.length) - lo.elim 0 (clipAt x.length))).map (lo.elim 0 (clipAt x.length) + ·) := by
    rw [← sliceRange_one]
    have := sliceBounds_plain lo hi x.length
    unfold sliceBounds at this
    simp only [Option.getD_none, show (1 : Int) > 0 by decide, if_true, Prod.mk.injEq] at this
    unfold Builtin.Str.strSliceIndices
    simp only [show (1 : Int) > 0 by decide, if_true]
    rw [← this.1, ← this.2.1]
    cases lo <;> cases hi <;> rfl
  unfold Txt.slice
  rw [S_len, e, S_cps]
  split
  · rename_i h
    have hl : (List.range (hi.elim x.length (clipAt x.length) - lo.elim 0 (clipAt x.length))).length = x.length := by simpa using h
    have : (cut x lo hi).length ≤ x.length := cut_len x lo hi
    have hc : cut x lo hi = x := by
      simp only [List.length_range] at hl
      have h0 : lo.elim 0 (clipAt x.length) = 0 ∨ x.length = 0 := by
        have : hi.elim x.length (clipAt x.length) ≤ x.length := by
          cases hi with
          | none => exact Nat.le_refl _
          | some i => show clipAt _ i ≤ _; have := clipAt_cast x.length i; (first | (revert this; walk_at "Z") | omega)
        (first | (revert hl this; walk_at "Z") | omega)
      unfold cut
      rw [hl]
      rcases h0 with h0 | h0
      · rw [h0]; simp
      · have : x = [] := List.eq_nil_of_length_eq_zero h0
        subst this; simp
    rw [hc]
  · rw [pick_run]; simp [cut, S]

theorem isTup_of {h : Heap} {a : Addr} {its : Array Value} {n : Nat} (e : h.get? a = some (tupOf its n)) : IsTup h a its := ⟨_, e, rfl, n, rfl⟩
theorem isList_of {h : Heap} {a : Addr} {its : Array Value} {n : Nat} (e : h.get? a = some (listOf its n)) : h.IsList a its := ⟨_, e, rfl, n, rfl⟩

section
variable {G : St} {c : Act} {n : Nat} {m : Loc} {N : Cells} {pos : Pos}

-- displays
theorem t_List {es : List Expr} {Q : Value → Loc → Cells → Prop}
    (h : TW G c (spliced (backTo pos (starEach es c.env))) m N fun vs m₁ N₁ => vs.length ≤ 16777216 ∧ ∀ D, Fresh D N₁ → Q (.ref D) m₁ ((D, listOf vs.toArray 0) :: N₁)) :
    TW G c (eval (.List es pos) c.env) m N Q := ⟨fun s₀ s E P => by
  with_reducible refine List_ (wpAny_mono (h.out s₀ s E P) ?_ fun _ _ e => e)
  rintro vs s₁ ⟨m₁, N₁, p₁, hz, q₁⟩
  with_reducible exact newList_N p₁.F p₁.N (fun h' F' N' => ⟨_, _, p₁.ext (tk := s₁.toks) F' N', q₁ _ (news_fresh p₁.N)⟩) (le_line hz)⟩
theorem t_Tuple {es : List Expr} {k : Nat} {Q : Value → Loc → Cells → Prop}
    (h : TW G c (spliced (backTo pos (starEach es c.env))) m N fun vs m₁ N₁ => vs.length ≤ 16777216 ∧ ∀ D, Fresh D N₁ → Q (.ref D) m₁ ((D, tupOf vs.toArray 0) :: N₁)) :
    TW G c (eval (.Tuple es k pos) c.env) m N Q := ⟨fun s₀ s E P => by
  with_reducible refine Tuple_ (wpAny_mono (h.out s₀ s E P) ?_ fun _ _ e => e)
  rintro vs s₁ ⟨m₁, N₁, p₁, hz, q₁⟩
  with_reducible exact newTuple_N p₁.F p₁.N (fun h' F' N' => ⟨_, _, p₁.ext (tk := s₁.toks) F' N', q₁ _ (news_fresh p₁.N)⟩) (le_line hz)⟩

-- items
theorem t_sub {v i : Expr} {Q : Value → Loc → Cells → Prop}
    (h : TW G c (eval v c.env) m N fun a m₁ N₁ => TW G c (eval i c.env) m₁ N₁ fun b m₂ N₂ => TW G c (subscriptTail v i a b) m₂ N₂ Q) :
    TW G c (eval (.Subscript v i pos) c.env) m N Q :=
  ⟨fun s₀ s E P => by with_reducible exact Subscript_ (wpAny_mono (h.out s₀ s E P) (fun _ s₁ ⟨_, _, p₁, q₁⟩ => wpAny_mono (q₁.out s₀ s₁ E p₁) (fun _ s₂ ⟨_, _, p₂, q₂⟩ => q₂.out s₀ s₂ E p₂) fun _ _ e => e) fun _ _ e => e)⟩
theorem s_list {v i : Expr} {l : Addr} {vs : List Value} {k : Int} {t : Tok} {x : Value} {ep : Nat} {Q : Value → Loc → Cells → Prop} (hm : (l, listOf vs.toArray ep) ∈ N) (h0 : 0 ≤ k) (hf : k < 2 ^ 63) (hx : vs[k.toNat]? = some x) (h : Q x m N)
    (hs : subscripted i false (.ref l) (.int k t) = operate [.ref l, .int k t] (getItem (.ref l) (.int k t)) := by with_unfolding_all rfl) : TW G c (subscriptTail v i (.ref l) (.int k t)) m N Q :=
  .raw0 fun s E Q' F N' q => by
    have hl := isList_of (N'.get hm)
    with_reducible exact tail_any hl.typeIs slot_list_getitem.lookup (wpAny_getItem_list hl h0 hf (by simpa using hx) (q _ s.toks h)) hs
theorem s_tup {v i : Expr} {l : Addr} {vs : List Value} {k : Int} {t : Tok} {x : Value} {ep : Nat} {Q : Value → Loc → Cells → Prop} (hm : (l, tupOf vs.toArray ep) ∈ N) (h0 : 0 ≤ k) (hf : k < 2 ^ 63) (hx : vs[k.toNat]? = some x) (h : Q x m N)
    (hs : subscripted i false (.ref l) (.int k t) = operate [.ref l, .int k t] (getItem (.ref l) (.int k t)) := by with_unfolding_all rfl) : TW G c (subscriptTail v i (.ref l) (.int k t)) m N Q :=
  .raw0 fun s E Q' F N' q => by
    have hl := isTup_of (N'.get hm)
    have hj : seqIndex? k vs.length = some k.toNat := by
      have hlt : k.toNat < vs.length := (List.getElem?_eq_some_iff.mp hx).1
      unfold seqIndex?
      simp only [show ¬ k < 0 from Int.not_lt.mpr h0, if_false]
      rw [if_pos]
      simp; (first | (revert h0 hlt; walk_at "Z") | omega)
    with_reducible exact item_tupleT hl (by (first | (revert h0; walk_at "Z") | omega)) hf hj hx (q _ s.toks h) hs
theorem s_str {v i : Expr} {x : List Nat} {t u : Tok} {k : Int} {d : Nat} {Q : Value → Loc → Cells → Prop} (hz : x.length ≤ 16777216) (h0 : -(x.length : Int) ≤ k) (h1 : k < x.length) (hd : x[(if k < 0 then k + x.length else k).toNat]? = some d) (h : ∀ t, Q (.str (S [d]) t) m N)
    (hs : subscripted i false (.str (S x) t) (.int k u) = operate [.str (S x) t, .int k u] (getItem (.str (S x) t) (.int k u)) := by with_unfolding_all rfl)
    (ht : ∀ r, letTemporaryGo v (.str (S x) t) r = pure () := by intro _; with_unfolding_all rfl) : TW G c (subscriptTail v i (.str (S x) t) (.int k u)) m N Q :=
  .raw0 fun s E Q' F N' q => by
    have e : Txt.item (S x) k = S [d] := by
      unfold Txt.item
      have : Txt.charAt (S x) k = some d := by
        unfold Txt.charAt seqIndex?
        have e1 : (0 : Int) ≤ (if k < 0 then k + (x.length : Int) else k) := by split <;> (first | (revert h0; walk_at "Z") | omega)
        have e2 : (if k < 0 then k + (x.length : Int) else k) < x.length := by split <;> (first | (revert h1; walk_at "Z") | omega)
        simp only [S_len]
        rw [if_pos (by simp only [e1, e2, decide_true, Bool.and_self])]
        simpa [S_cps] using hd
      rw [this]; rfl
    with_reducible exact PySem.W.KXi.item (S_len x) h0 h1 hz (fun _ => by rw [e]; exact q _ _ (h _)) hs ht

def PartW (G : St) (c : Act) (e : Option Expr) (m : Loc) (N : Cells) (Q : Value → Loc → Cells → Prop) : Prop := match e with
  | none => Q .none m N
  | some e => TW G c (eval e c.env) m N Q
theorem PartW.out {e : Option Expr} {Q : Value → Loc → Cells → Prop} (h : PartW G c e m N Q) : TW G c (evalPart e c.env) m N Q := by
  cases e with
  | none => exact TW.pure h
  | some e => exact h
structure SliceW (G : St) (c : Act) (v i : Expr) (o l u : Value) (m : Loc) (N : Cells) (Q : Value → Loc → Cells → Prop) : Prop where
  out : ∀ (s₀ s : Shared) (E : Value → Shared → Prop), Pre c m N s₀ s →
    wpAny (model G.prog G.w) c.A (subscriptTail v i o (.ref s.heap.objs.size)) (Aft c s₀ Q) E { s with heap := s.heap.push { cls := .type "slice", data := .fields #[l, u, .none] } }
theorem t_slice {v : Expr} {lo hi : Option Expr} {p : Pos} {Q : Value → Loc → Cells → Prop}
    (h : TW G c (eval v c.env) m N fun o m₁ N₁ => PartW G c lo m₁ N₁ fun l m₂ N₂ => PartW G c hi m₂ N₂ fun u m₃ N₃ => SliceW G c v (.Slice lo hi none p) o l u m₃ N₃ Q) :
    TW G c (eval (.Subscript v (.Slice lo hi none p) pos) c.env) m N Q := ⟨fun s₀ s E P => by
  with_reducible refine Subscript_ (wpAny_mono (h.out s₀ s E P) ?_ fun _ _ e => e)
  rintro o s₁ ⟨m₁, N₁, p₁, q₁⟩
  with_reducible refine wpAny_Slice (wpAny_mono (q₁.out.out s₀ s₁ E p₁) ?_ fun _ _ e => e)
  rintro l s₂ ⟨m₂, N₂, p₂, q₂⟩
  with_reducible refine wpAny_mono (q₂.out.out s₀ s₂ E p₂) ?_ fun _ _ e => e
  rintro u s₃ ⟨m₃, N₃, p₃, q₃⟩
  rw [evalPart_none]
  with_reducible refine wpAny_pure ?_
  exact q₃.out s₀ s₃ E p₃⟩
theorem sl_str {v : Expr} {lo hi : Option Expr} {p : Pos} {x : List Nat} {t : Tok} {l u : Value} {li ui : Option Int} {Q : Value → Loc → Cells → Prop} (hz : x.length ≤ 16777216) (hl : IsPart l li) (hu : IsPart u ui) (h : ∀ t, Q (.str (S (cut x li ui)) t) m N) :
    SliceW G c v (.Slice lo hi none p) (.str (S x) t) l u m N Q := ⟨fun s₀ s E P => by
  have fin : ∀ h' t' k, Fr c.h₀ c.env.locals h' m → News c.h₀ c.env.locals h' N → Aft c s₀ Q (.str (Txt.slice (S x) li ui) t') { s with heap := h', toks := k } := fun h' t' k F' N' => ⟨m, N, P.ext F' N', by rw [cut_str]; exact h _⟩
  have hz' : (S x).length ≤ sizeLine := by rw [S_len]; exact le_line hz
  have ht : ∀ r, letTemporaryGo v (.str (S x) t) r = pure () := by intro _; cases v <;> rfl
  cases hl <;> cases hu
  · with_reducible exact slice_strN_nn P.F P.N fin rfl ht hz'
  · with_reducible exact slice_strN_ns P.F P.N fin rfl ht hz'
  · with_reducible exact slice_strN_sn P.F P.N fin rfl ht hz'
  · with_reducible exact slice_strN_ss P.F P.N fin rfl ht hz'⟩
-- writing
theorem a_append {D : Addr} {vs : List Value} {ep : Nat} {x : Value} {Q : Value → Loc → Cells → Prop} (hm : (D, listOf vs.toArray ep) ∈ N) (hz : vs.length ≤ 16777216)
    (h : ∀ ep', Q .none m (put D (listOf (vs ++ [x]).toArray ep') N)) : TW G c (call (.builtin "list.append") [.ref D, x]) m N Q :=
  .raw fun s E Q' F N' q => by
    with_reducible refine append_at (N'.get hm) (fun h' hs ho => ?_) (by rw [List.size_toArray]; exact le_line hz)
    have e : vs.toArray.push x = (vs ++ [x]).toArray := by simp
    rw [e] at ho
    obtain ⟨F1, N1⟩ := news_put F N' hm hs ho
    exact q _ h' s.toks _ _ F1 N1 (h _)
theorem g_append {D : Addr} {o : Obj} {pl : Sem Bool} {Q : Value × List Value → Loc → Cells → Prop} (hm : (D, o) ∈ N) (h : Q (.builtin "list.append", [.ref D]) m N) (hc : o.cls = .type "list" := by rfl) (hd : o.dict = none := by rfl) :
    TW G c (getMethod (.ref D) "append" pl) m N Q :=
  .raw0 fun s E Q' F N' q => by with_reducible exact getMethod_append_N N' hm (q _ s.toks h) hc hd
theorem set_list {D : Addr} {vs : List Value} {ep : Nat} {k : Int} {t : Tok} {v : Value} {Q : Unit → Loc → Cells → Prop} (hm : (D, listOf vs.toArray ep) ∈ N) (h0 : 0 ≤ k) (hf : k < 2 ^ 63) (hn : k < vs.length)
    (h : ∀ ep', Q () m (put D (listOf (vs.set k.toNat v).toArray ep') N)) : TW G c (setItem (.ref D) (.int k t) v) m N Q :=
  .raw fun s E Q' F N' q => by
    have ho := N'.get hm
    with_reducible refine ki_setAt ho h0 hf (by rw [List.size_toArray]; exact hn) ?_
    have e : (Obj.mapSeq (·.setIfInBounds k.toNat v)) (listOf vs.toArray ep) = listOf (vs.set k.toNat v).toArray ep := by
      simp [Obj.mapSeq]
    have ho' := Heap.get?_update_self (Obj.mapSeq (·.setIfInBounds k.toNat v)) ho (by rw [e]; rfl)
    rw [e] at ho'
    obtain ⟨F1, N1⟩ := news_put F N' hm (Heap.SameBut.update ..) ho'
    exact q _ _ s.toks _ _ F1 N1 (h _)
theorem get_list {D : Addr} {vs : List Value} {ep : Nat} {k : Int} {t : Tok} {x : Value} {Q : Value → Loc → Cells → Prop} (hm : (D, listOf vs.toArray ep) ∈ N) (h0 : 0 ≤ k) (hf : k < 2 ^ 63) (hx : vs[k.toNat]? = some x) (h : Q x m N) :
    TW G c (getItem (.ref D) (.int k t)) m N Q :=
  .raw0 fun s E Q' F N' q => by with_reducible exact wpAny_getItem_list (isList_of (N'.get hm)) h0 hf (by simpa using hx) (q _ s.toks h)
theorem t_asub {ob i : Expr} {p' : Pos} {v : Expr} {Q : Flow → Loc → Cells → Prop}
    (h : TW G c (eval v c.env) m N fun x m₁ N₁ => TW G c (eval ob c.env) m₁ N₁ fun a m₂ N₂ => TW G c (eval i c.env) m₂ N₂ fun b m₃ N₃ => TW G c (setItem a b x) m₃ N₃ fun _ m₄ N₄ => Q .next m₄ N₄)
    (hs : swapsWith v (some (.Subscript ob i p')) pos.line c.env = pure false := by rfl) : TW G c (exec (.Assign [.Subscript ob i p'] v pos) c.env) m N Q :=
  ⟨fun s₀ s E P => by with_reducible exact wpAny_Assign_Subscript (wpAny_mono (h.out s₀ s E P) (fun _ s₁ ⟨_, _, p₁, q₁⟩ => wpAny_mono (q₁.out s₀ s₁ E p₁) (fun _ s₂ ⟨_, _, p₂, q₂⟩ => wpAny_mono (q₂.out s₀ s₂ E p₂) (fun _ s₃ ⟨_, _, p₃, q₃⟩ => q₃.outf (f := fun _ => Flow.next) p₃) fun _ _ e => e) fun _ _ e => e) fun _ _ e => e) hs⟩
end

-- b6
/-- n facts at once, n letters at once: one step to take apart -/
inductive And3 (a1 a2 a3 : Prop) : Prop
  | mk (h1 : a1) (h2 : a2) (h3 : a3)
inductive And4 (a1 a2 a3 a4 : Prop) : Prop
  | mk (h1 : a1) (h2 : a2) (h3 : a3) (h4 : a4)
inductive And5 (a1 a2 a3 a4 a5 : Prop) : Prop
  | mk (h1 : a1) (h2 : a2) (h3 : a3) (h4 : a4) (h5 : a5)
inductive And6 (a1 a2 a3 a4 a5 a6 : Prop) : Prop
  | mk (h1 : a1) (h2 : a2) (h3 : a3) (h4 : a4) (h5 : a5) (h6 : a6)
inductive Ex2 {α1 α2 : Type} (p : α1 → α2 → Prop) : Prop
  | mk (x1 : α1) (x2 : α2) (h : p x1 x2)
inductive Ex3 {α1 α2 α3 : Type} (p : α1 → α2 → α3 → Prop) : Prop
  | mk (x1 : α1) (x2 : α2) (x3 : α3) (h : p x1 x2 x3)
inductive Ex4 {α1 α2 α3 α4 : Type} (p : α1 → α2 → α3 → α4 → Prop) : Prop
  | mk (x1 : α1) (x2 : α2) (x3 : α3) (x4 : α4) (h : p x1 x2 x3 x4)
inductive Ex5 {α1 α2 α3 α4 α5 : Type} (p : α1 → α2 → α3 → α4 → α5 → Prop) : Prop
  | mk (x1 : α1) (x2 : α2) (x3 : α3) (x4 : α4) (x5 : α5) (h : p x1 x2 x3 x4 x5)
inductive Ex6 {α1 α2 α3 α4 α5 α6 : Type} (p : α1 → α2 → α3 → α4 → α5 → α6 → Prop) : Prop
  | mk (x1 : α1) (x2 : α2) (x3 : α3) (x4 : α4) (x5 : α5) (x6 : α6) (h : p x1 x2 x3 x4 x5 x6)
/-- what is asked at the end, behind a letter -/
structure Gen {α : Type} (Q P : α → Loc → Cells → Prop) : Prop where
  h : ∀ a m N, Q a m N → P a m N
theorem Gen.use {α : Type} {Q P : α → Loc → Cells → Prop} {a : α} {m : Loc} {N : Cells} (g : Gen Q P) (h : Q a m N) : P a m N := g.h _ _ _ h
abbrev rngOf (a b c : Int) (t u v : Tok) : Obj := { cls := .type "range", dict := none, data := .fields #[.int a t, .int b u, .int c v], slots := #[] }
theorem news_new {h₀ h h' : Heap} {L : Addr} {m : Loc} {N : Cells} {o : Obj} (F : Fr h₀ L h m) (N' : News h₀ L h' N) (ho : h'.get? h.objs.size = some o) : News h₀ L h' ((h.objs.size, o) :: N) := by
  obtain ⟨oL, _, _, hL, _⟩ := F.ns
  intro p hp
  rcases List.mem_cons.mp hp with rfl | hp
  · refine ⟨ho, Nat.ne_of_gt (Heap.lt_size hL), ?_⟩
    cases hq : h₀.get? h.objs.size with
    | none => rfl
    | some o' => exact absurd (Heap.lt_size (F.keep _ _ hq)) (Nat.lt_irrefl _)
  · exact N' p hp
theorem news_same {h₀ h h' : Heap} {L I : Addr} {m : Loc} {N : Cells} {o : Obj} (F : Fr h₀ L h m) (N₀ : News h₀ L h ((I, o) :: N)) (hf : Fresh I N) (hs : Heap.SameBut I h h') {o' : Obj} (ho : h'.get? I = some o') :
    Fr h₀ L h' m ∧ News h₀ L h' ((I, o') :: N) := by
  have := news_put F N₀ (.head _) hs ho
  rwa [put_head hf] at this
theorem news_ext {h₀ h h' : Heap} {L I : Addr} {m : Loc} {N : Cells} {o : Obj} (F : Fr h₀ L h m) (N₀ : News h₀ L h ((I, o) :: N)) (hf : Fresh I N) (hs : Heap.ExtBut I h h') :
    Fr h₀ L h' m ∧ News h₀ L h' N := by
  have z := N₀ _ (.head _)
  obtain ⟨oL, es, ep, hL, r⟩ := F.ns
  refine ⟨⟨⟨oL, es, ep, hs _ _ (Ne.symm z.2.1) hL, r⟩, fun b o e => hs b o (fun q => ?_) (F.keep b o e), F.above⟩, fun p hp => ⟨hs _ _ (hf p hp) (N₀ p (.tail _ hp)).1, (N₀ p (.tail _ hp)).2⟩⟩
  subst q; rw [z.2.2] at e; cases e

section
variable {G : St} {c : Act} {n : Nat} {m : Loc} {N : Cells} {pos : Pos}

/-- how an iterator is drawn from: k items, the i-th of which is P i; st: its object behind i draws; D: the cells it leans on -/
structure Walk (G : St) (c : Act) (I : Addr) (D : Cells) (k : Nat) (P : Nat → Value → Prop) (st : Nat → Obj → Prop) (target : Expr) : Prop where
  item : ∀ i o m N, i < k → st i o → (∀ d ∈ D, d ∈ N) → Fresh I N → TW G c (pyNext (.ref I)) m ((I, o) :: N) fun r m' N' => ∃ v o', r = some v ∧ m' = m ∧ N' = (I, o') :: N ∧ st (i + 1) o' ∧ P i v
  done : ∀ o m N, st k o → (∀ d ∈ D, d ∈ N) → Fresh I N → TW G c (pyNext (.ref I)) m ((I, o) :: N) fun r m' N' => r = none ∧ m' = m ∧ N' = N
  go : ∀ i o v m N, st i o → TW G c (letOwnedTupleGo target (.ref I) v) m ((I, o) :: N) fun _ m' N' => m' = m ∧ N' = (I, o) :: N

def isLI (l : Addr) (i : Nat) (o : Obj) : Prop := o.cls = .type "list_iterator" ∧ o.data = .fields #[.ref l, .int i 0]
theorem go_plain {I : Addr} {o : Obj} {v : Value} {T : String} {vs : Array Value} {target : Expr} (hc : o.cls = .type T) (hd : o.data = .fields vs)
    (hT : ["enumerate", "zip", "dict_itemiterator", "dict_reverseitemiterator", "odict_iterator", "itertools.zip_longest", "itertools.pairwise"].contains T = false) :
    TW G c (letOwnedTupleGo target (.ref I) v) m ((I, o) :: N) fun _ m' N' => m' = m ∧ N' = (I, o) :: N := ⟨fun s₀ s E P => by
  have fin : ∀ u : Unit, Aft c s₀ (fun _ m' N' => m' = m ∧ N' = (I, o) :: N) u s := fun _ => ⟨m, _, P, rfl, rfl⟩
  unfold letOwnedTupleGo
  split
  all_goals first
    | exact wpAny_pure (fin _)
    | (cases v <;> first
        | exact wpAny_pure (fin _)
        | (refine wpAny_bind (wpAny_load (P.N.get (.head _)) ?_)
           rw [hc, hd]
           dsimp only
           rw [hT, Bool.false_and, if_neg Bool.false_ne_true]
           exact wpAny_pure (fin _)))⟩
theorem walk_list (o : Ok G n c) {I l : Addr} {vs : List Value} {ep : Nat} {target : Expr} : Walk G c I [(l, listOf vs.toArray ep)] vs.length (fun i v => vs[i]? = some v) (isLI l) target where
  item := fun i ob m N hi hst hD hF => .raw fun s E Q' F N' q => by
    have hit : s.heap.IsListIter I l i := ⟨ob, N'.get (.head _), hst.1, hst.2⟩
    have hl := isList_of (N'.get (.tail _ (hD _ (.head _))))
    with_reducible refine wpAny_pyNext_list_item hit hl (x := vs[i]) (by simp [hi]) fun h' hit' hs => ?_
    obtain ⟨ob', ho', hc', hd'⟩ := hit'
    obtain ⟨F1, N1⟩ := news_same F N' hF hs ho'
    exact q _ h' s.toks _ _ F1 N1 ⟨_, _, rfl, rfl, rfl, ⟨hc', hd'⟩, by simp [hi]⟩
  done := fun ob m N hst hD hF => .raw fun s E Q' F N' q => by
    have hit : s.heap.IsListIter I l vs.length := ⟨ob, N'.get (.head _), hst.1, hst.2⟩
    have hl := isList_of (N'.get (.tail _ (hD _ (.head _))))
    with_reducible refine wpAny_pyNext_list_end o.handled hit hl (by simp) fun h' hs => ?_
    obtain ⟨F1, N1⟩ := news_ext F N' hF hs
    exact q _ h' s.toks _ _ F1 N1 ⟨rfl, rfl, rfl⟩
  go := fun i ob v m N hst => go_plain hst.1 hst.2 (by decide)
abbrev riOf (x left step : Int) : Obj := { cls := .type "range_iterator", dict := none, data := .fields #[rawInt x, rawInt left, rawInt step], slots := #[] }
theorem walk_range (o : Ok G n c) {I : Addr} {a d : Int} {k : Nat} {target : Expr} : Walk G c I [] k (fun i v => ∃ t, v = .int (a + i * d) t) (fun i ob => ob = riOf (a + i * d) ((k : Int) - i) d) target where
  item := fun i ob m N hi hst hD hF => .raw fun s E Q' F N' q => by
    subst hst
    have hit : IsRangeIter s.heap I (a + i * d) ((k : Int) - i) d := N'.get (.head _)
    with_reducible refine wpAny_pyNext_range_item hit (by (first | (revert hi; walk_at "Z") | omega)) fun h' hit' hs => ?_
    obtain ⟨F1, N1⟩ := news_same F N' hF hs hit'
    refine q _ h' _ _ _ F1 N1 ⟨_, _, rfl, rfl, rfl, ?_, ⟨_, rfl⟩⟩
    have e1 : a + ((i + 1 : Nat) : Int) * d = a + (i : Int) * d + d := by push_cast; rw [Int.add_mul, Int.one_mul, Int.add_assoc]
    have e2 : (k : Int) - ((i + 1 : Nat) : Int) = (k : Int) - (i : Int) - 1 := by push_cast; (first | walk_at "Z" | omega)
    rw [e1, e2]
  done := fun ob m N hst hD hF => .raw fun s E Q' F N' q => by
    subst hst
    have hit : IsRangeIter s.heap I (a + k * d) ((k : Int) - k) d := N'.get (.head _)
    with_reducible refine wpAny_pyNext_range_end o.handled hit (by (first | walk_at "Z" | omega)) fun h' hs => ?_
    obtain ⟨F1, N1⟩ := news_ext F N' hF hs
    exact q _ h' s.toks _ _ F1 N1 ⟨rfl, rfl, rfl⟩
  go := fun i ob v m N hst => by subst hst; exact go_plain rfl rfl (by decide)
def isSI (x : Str) (t : Tok) (i : Nat) (o : Obj) : Prop := o.cls = .type "str_ascii_iterator" ∧ o.data = .fields #[.str x t, .int i 0]
theorem walk_str (o : Ok G n c) {I : Addr} {x : List Nat} {tk : Tok} {target : Expr} : Walk G c I [] x.length (fun i v => ∃ d t, x[i]? = some d ∧ v = .str (S [d]) t) (isSI (S x) tk) target where
  item := fun i ob m N hi hst hD hF => .raw fun s E Q' F N' q => by
    have hit : s.heap.IsStrIter I "str_ascii_iterator" (S x) tk i := ⟨ob, N'.get (.head _), hst.1, hst.2⟩
    with_reducible refine wpAny_pyNext_ascii_item hit (c := x[i]) (by simp [S_cps, hi]) fun h' hit' hs => ?_
    obtain ⟨ob', ho', hc', hd'⟩ := hit'
    obtain ⟨F1, N1⟩ := news_same F N' hF hs ho'
    exact q _ h' _ _ _ F1 N1 ⟨_, _, rfl, rfl, rfl, ⟨hc', hd'⟩, ⟨_, _, by simp [hi], rfl⟩⟩
  done := fun ob m N hst hD hF => .raw fun s E Q' F N' q => by
    have hit : s.heap.IsStrIter I "str_ascii_iterator" (S x) tk x.length := ⟨ob, N'.get (.head _), hst.1, hst.2⟩
    with_reducible refine wpAny_pyNext_ascii_end o.handled hit (by simp [S_cps]) fun h' hs => ?_
    obtain ⟨F1, N1⟩ := news_ext F N' hF hs
    exact q _ h' s.toks _ _ F1 N1 ⟨rfl, rfl, rfl⟩
  go := fun i ob v m N hst => go_plain hst.1 hst.2 (by decide)

/-- a turn's end: the invariant again, or out -/
def Turn (I : Addr) (o : Obj) (Inv : Loc → Cells → Prop) (Q : Flow → Loc → Cells → Prop) : Flow → Loc → Cells → Prop := fun f m N => match f with
  | .next | .cont => ∃ N', (∀ p ∈ (I, o) :: N', p ∈ N) ∧ Inv m N'
  | .brk => Q .next m N
  | .ret v => Q (.ret v) m N

structure LoopW (G : St) (c : Act) (code : Code) (m : Loc) (N : Cells) (Q : Flow → Loc → Cells → Prop) : Prop where
  out : ∀ (s₀ s : Shared), Pre c m N s₀ s → codeAny (model G.prog G.w) c.A code (AftR c s₀ Q) s

theorem loop_for {I : Addr} {D : Cells} {k : Nat} {P : Nat → Value → Prop} {st : Nat → Obj → Prop} {target : Expr} {body : List Stmt} {ob : Obj} {Q : Flow → Loc → Cells → Prop} (W : Walk G c I D k P st target) (Inv : Nat → Loc → Cells → Prop)
    (hst : st 0 ob) (h0 : Inv 0 m N) (hD : ∀ i m N, Inv i m N → ∀ d ∈ D, d ∈ N) (hF : ∀ i m N, Inv i m N → Fresh I N)
    (hb : ∀ i m N v o', i < k → Inv i m N → P i v → st (i + 1) o' → TW G c (assign target c.env v) m ((I, o') :: N) fun _ m₁ N₁ => TW G c (execs body c.env) m₁ N₁ (Turn I o' (Inv (i + 1)) Q))
    (hQ : ∀ m N, Inv k m N → Q .next m N) : LoopW G c (.forLoop target (.ref I) body [] c.env) m ((I, ob) :: N) Q := ⟨fun s₀ s P₀ => by
  refine codeAny_forLoop_any (fun d s' => ∃ i m N o, i ≤ k ∧ d = k - i ∧ st i o ∧ Inv i m N ∧ Pre c m ((I, o) :: N) s₀ s') ?_ k ⟨0, m, N, ob, Nat.zero_le _, rfl, hst, h0, P₀⟩
  rintro d s' ⟨i, m, N, o, hi, rfl, ho, hI, P'⟩
  by_cases hlt : i < k
  · refine wpAny_mono ((W.item i o m N hlt ho (hD _ _ _ hI) (hF _ _ _ hI)).out s₀ s' _ P') ?_ fun _ _ e => e
    rintro r s₁ ⟨_, _, p₁, v, o', rfl, rfl, rfl, ho', hP⟩
    dsimp only
    refine wpAny_mono ((W.go (i + 1) o' v _ N ho').out s₀ s₁ _ p₁) ?_ fun _ _ e => e
    rintro _ s₂ ⟨_, _, p₂, rfl, rfl⟩
    refine wpAny_mono ((hb i _ N v o' hlt hI hP ho').out s₀ s₂ _ p₂) ?_ fun _ _ e => e
    rintro _ s₃ ⟨m₃, N₃, p₃, q₃⟩
    refine wpAny_mono (q₃.out s₀ s₃ _ p₃) ?_ fun _ _ e => e
    rintro f s₄ ⟨m₄, N₄, p₄, q₄⟩
    cases f with
    | next => obtain ⟨N', hs, hI'⟩ := q₄; exact ⟨k - (i + 1), by (first | (revert hlt; walk_at "Z") | omega), i + 1, m₄, N', o', hlt, rfl, ho', hI', p₄.sub hs⟩
    | cont => obtain ⟨N', hs, hI'⟩ := q₄; exact ⟨k - (i + 1), by (first | (revert hlt; walk_at "Z") | omega), i + 1, m₄, N', o', hlt, rfl, ho', hI', p₄.sub hs⟩
    | brk => exact ⟨_, m₄, N₄, rfl, p₄, q₄⟩
    | ret v => exact ⟨_, m₄, N₄, rfl, p₄, q₄⟩
  · have : i = k := by (first | (revert hi hlt; walk_at "Z") | omega)
    subst this
    refine wpAny_mono ((W.done o m N ho (hD _ _ _ hI) (hF _ _ _ hI)).out s₀ s' _ P') ?_ fun _ _ e => e
    rintro r s₁ ⟨_, _, p₁, rfl, rfl, rfl⟩
    dsimp only
    exact wpAny_execs_nil ⟨_, _, _, rfl, p₁, hQ _ _ hI⟩⟩

/-- the rest of a for, behind the value that is iterated -/
structure ForW (G : St) (c : Act) (target : Expr) (body : List Stmt) (x : Value) (m : Loc) (N : Cells) (Q : Flow → Loc → Cells → Prop) : Prop where
  out : ∀ (s₀ s : Shared) (E : Value → Shared → Prop), Pre c m N s₀ s → wpAny (model G.prog G.w) c.A (pyIter x) (fun it s₂ => codeAny (model G.prog G.w) c.A (.forLoop target it body [] c.env) (AftR c s₀ Q) s₂) E s
theorem t_For {target iter : Expr} {body : List Stmt} {Q : Flow → Loc → Cells → Prop} (h : TW G c (eval iter c.env) m N fun x m₁ N₁ => ForW G c target body x m₁ N₁ Q)
    (hs : ∀ x, foldedSetIterable iter c.env x = pure x := by intro _; rfl) : TW G c (exec (.For target iter body [] pos) c.env) m N Q := ⟨fun s₀ s E P => by
  with_reducible refine wpAny_For (wpAny_mono (h.out s₀ s E P) ?_ fun _ _ e => e) hs
  rintro x s₁ ⟨m₁, N₁, p₁, q₁⟩
  refine wpAny_mono (q₁.out s₀ s₁ E p₁) (fun it s₂ h₂ => codeAny_mono h₂ ?_) fun _ _ e => e
  rintro r s' ⟨f, m', N', rfl, p', q'⟩
  exact ⟨m', N', p', q'⟩⟩
theorem a_range1 {b : Int} {t : Tok} {Q : Value → Loc → Cells → Prop} (h : ∀ R t u v, Fresh R N → Q (.ref R) m ((R, rngOf 0 b 1 t u v) :: N)) : TW G c (call (.type "range") [.int b t]) m N Q :=
  .raw fun s E Q' F N' q => by
    have hf := news_fresh N'
    with_reducible exact range1_rows F N' fun h' tk t₁ u₁ v₁ hr F1 N1 hk => q _ h' tk _ _ F1 (news_new F N1 hr) (h _ _ _ _ hf)
theorem a_range3 {a b d : Int} {t u v : Tok} {Q : Value → Loc → Cells → Prop} (hd : d ≠ 0) (hp : d.natAbs < 1073741824) (h : ∀ R t u v, Fresh R N → Q (.ref R) m ((R, rngOf a b d t u v) :: N)) : TW G c (call (.type "range") [.int a t, .int b u, .int d v]) m N Q :=
  .raw fun s E Q' F N' q => by
    have hf := news_fresh N'
    with_reducible exact range3_rows F N' hd (fun h' tk t₁ u₁ v₁ hr F1 N1 hk => q _ h' tk _ _ F1 (news_new F N1 hr) (h _ _ _ _ hf)) (.inl (PyProof.noPylong_small hp))

theorem t_While {test : Expr} {body : List Stmt} {Q : Flow → Loc → Cells → Prop} (Inv : Nat → Loc → Cells → Prop) (k : Nat) (h0 : Inv k m N)
    (turn : ∀ k m N, Inv k m N → ∀ Pb, Gen (fun f m₂ N₂ => match f with
        | .next | .cont => ∃ k' N', k' < k ∧ (∀ p ∈ N', p ∈ N₂) ∧ Inv k' m₂ N'
        | .brk => Q .next m₂ N₂
        | .ret v => Q (.ret v) m₂ N₂) Pb → TW G c (isTrue test c.env (eval test c.env)) m N fun b m₁ N₁ => if b = true then TW G c (execs body c.env) m₁ N₁ Pb else Q .next m₁ N₁) : TW G c (exec (.While test body [] pos) c.env) m N Q := ⟨fun s₀ s E P => by
  with_reducible refine wpAny_While ?_
  refine codeAny_mono (R := AftR c s₀ Q) ?_ (by
    rintro r s' ⟨f, m', N', rfl, p', q'⟩
    exact ⟨m', N', p', q'⟩)
  refine codeAny_whileLoop (fun d s' => ∃ m N, Inv d m N ∧ Pre c m N s₀ s') ?_ k ⟨m, N, h0, P⟩
  rintro d s' ⟨m, N, hI, P'⟩
  refine wpAny_mono ((turn d m N hI _ ⟨fun _ _ _ q => q⟩).out s₀ s' _ P') ?_ fun _ _ e => e
  rintro b s₁ ⟨m₁, N₁, p₁, q₁⟩
  cases b with
  | false => exact wpAny_execs_nil ⟨_, m₁, N₁, rfl, p₁, q₁⟩
  | true =>
    simp only [if_true] at q₁ ⊢
    refine wpAny_mono (q₁.out s₀ s₁ _ p₁) ?_ fun _ _ e => e
    rintro f s₂ ⟨m₂, N₂, p₂, q₂⟩
    cases f with
    | next => obtain ⟨k', N', hk, hs, hI'⟩ := q₂; exact ⟨k', hk, m₂, N', hI', p₂.sub hs⟩
    | cont => obtain ⟨k', N', hk, hs, hI'⟩ := q₂; exact ⟨k', hk, m₂, N', hI', p₂.sub hs⟩
    | brk => exact ⟨_, m₂, N₂, rfl, p₂, q₂⟩
    | ret v => exact ⟨_, m₂, N₂, rfl, p₂, q₂⟩⟩
end

-- b7
def up1 (c : Nat) : Nat := if 97 ≤ c ∧ c ≤ 122 then c - 32 else c
def lo1 (c : Nat) : Nat := if 65 ≤ c ∧ c ≤ 90 then c + 32 else c
def Ascii (x : List Nat) : Prop := ∀ d ∈ x, d < 128
theorem upS {x : List Nat} (h : Ascii x) : Txt.upper (S x) = S (x.map up1) := by
  rw [upper_ascii (by simpa [S_cps, Ascii] using h)]
  have e : ∀ c, PyProof.Rows.up1 c = up1 c := fun c => rfl
  simp [S, e]
theorem loS {x : List Nat} (h : Ascii x) : Txt.lower (S x) = S (x.map lo1) := by
  rw [lower_ascii (by simpa [S_cps, Ascii] using h)]
  have e : ∀ c, PyProof.Rows.lo1 c = lo1 c := fun c => rfl
  simp [S, e]
/-- texts, whatever their tokens -/
inductive Strs : List Value → List (List Nat) → Prop
  | nil : Strs [] []
  | cons (y : List Nat) (t : Tok) {vs ys} : Strs vs ys → Strs (.str (S y) t :: vs) (y :: ys)
theorem Strs.are : ∀ {vs ys}, Strs vs ys → StrsAre vs (ys.map S) := by
  intro vs ys h
  induction h with
  | nil => exact .nil
  | cons y t _ ih => exact .cons (S y) t ih
theorem Strs.len : ∀ {vs ys}, Strs vs ys → vs.length = ys.length
  | _, _, .nil => rfl
  | _, _, .cons y t h => by simp [h.len]
theorem Strs.get : ∀ {vs ys}, Strs vs ys → ∀ {i : Nat} {y : List Nat}, ys[i]? = some y → ∃ t, vs[i]? = some (.str (S y) t) := by
  intro vs ys h
  induction h with
  | nil => intro i y e; cases e
  | cons y t _ ih =>
    intro i z e
    cases i with
    | zero => cases e; exact ⟨t, rfl⟩
    | succ i => exact ih e
theorem Strs.snoc {vs ys} (h : Strs vs ys) (y : List Nat) (t : Tok) : Strs (vs ++ [.str (S y) t]) (ys ++ [y]) := by
  induction h with
  | nil => exact .cons y t .nil
  | cons z u _ ih => exact .cons z u ih
theorem join_S (ys : List (List Nat)) : Txt.join (S []) (ys.map S) = S ys.flatten := by
  have key : ∀ (l : List (List Nat)) (a : List Nat), (l.map S).foldl (fun (acc : Array Nat) (p : Str) => acc ++ (S []).cps ++ p.cps) a.toArray = (a ++ l.flatten).toArray := by
    intro l
    induction l with
    | nil => intro a; simp
    | cons y r ih =>
      intro a
      have e : (a.toArray ++ (S []).cps ++ (S y).cps) = (a ++ y).toArray := by simp [S]
      rw [List.map_cons, List.foldl_cons, e, ih]; simp
  cases ys with
  | nil => rfl
  | cons y r =>
    show Builtin.Str.glued (S []) (S y :: r.map S) = _
    unfold Builtin.Str.glued
    have := key r y
    simp only [List.drop_succ_cons, List.drop_zero, List.headD_cons]
    rw [show (S y).cps = y.toArray from rfl, this]
    simp [S]

section
variable {G : St} {c : Act} {n : Nat} {m : Loc} {N : Cells} {pos : Pos}

theorem a_len {D : Addr} {vs : List Value} {ep : Nat} {Q : Value → Loc → Cells → Prop} (hm : (D, listOf vs.toArray ep) ∈ N) (hz : vs.length ≤ 16777216) (h : ∀ t, Q (.int vs.length t) m N) : TW G c (call (.builtin "len") [.ref D]) m N Q :=
  .raw0 fun s E Q' F N' q => by
    have hl := isList_of (N'.get hm)
    with_reducible refine PyProof.Rows.len_list hl (by rw [List.size_toArray]; (first | (revert hz; walk_at "Z") | omega)) ?_
    rw [List.size_toArray]; exact q _ _ (h _)
theorem a_lens {x : List Nat} {t : Tok} {Q : Value → Loc → Cells → Prop} (hz : x.length ≤ 16777216) (h : ∀ t, Q (.int x.length t) m N) : TW G c (call (.builtin "len") [.str (S x) t]) m N Q :=
  .raw0 fun s E Q' F N' q => by
    with_reducible refine PySem.P.len_str (by rw [S_len]; (first | (revert hz; walk_at "Z") | omega)) ?_
    rw [S_len]; exact q _ _ (h _)
theorem a_chr {i : Int} {t : Tok} {Q : Value → Loc → Cells → Prop} (h0 : 0 ≤ i) (h1 : i ≤ 1114111) (h : ∀ t, Q (.str (S [i.toNat]) t) m N) : TW G c (call (.builtin "chr") [.int i t]) m N Q :=
  .raw0 fun s E Q' F N' q => by
    with_reducible refine chr_of_range h0 h1 ?_
    exact q _ _ (h _)
theorem a_ord {d : Nat} {t : Tok} {Q : Value → Loc → Cells → Prop} (h : ∀ t, Q (.int d t) m N) : TW G c (call (.builtin "ord") [.str (S [d]) t]) m N Q :=
  .raw0 fun s E Q' F N' q => by
    have e : (S [d]).length = 1 := S_len _
    with_reducible refine ord_of_one e ?_
    exact q _ _ (h _)
theorem a_strint {i : Int} {t : Tok} {Q : Value → Loc → Cells → Prop} (hi : i.natAbs.log2 < 1920) (h : ∀ t, Q (.str (Str.ofString (toString i)) t) m N) : TW G c (call (.type "str") [.int i t]) m N Q :=
  .raw0 fun s E Q' F N' q => by with_reducible exact PySem.P.str_of_int hi (q _ _ (h _))
theorem a_min {a b : Int} {t u : Tok} {Q : Value → Loc → Cells → Prop} (o : Ok G n c) (h : ∀ t, Q (.int (min a b) t) m N) : TW G c (call (.builtin "min") [.int a t, .int b u]) m N Q :=
  .raw fun s E Q' F N' q => by
    with_reducible refine min_two_N o.handled F N' fun h' tk F1 N1 => ?_
    have e : (if b < a then b else a) = min a b := by rw [Int.min_def]; split <;> split <;> (first | walk_at "Z" | omega)
    rw [e]; exact q _ h' tk _ _ F1 N1 (h _)
theorem a_sum {D : Addr} {vs : List Value} {ns : List Int} {ep : Nat} {Q : Value → Loc → Cells → Prop} (o : Ok G n c) (hm : (D, listOf vs.toArray ep) ∈ N) (hi : IntsAre vs ns) (h : ∀ t, Q (.int ns.sum t) m N) : TW G c (call (.builtin "sum") [.ref D]) m N Q :=
  .raw fun s E Q' F N' q => by
    with_reducible exact sumK o.handled F N' (isList_of (N'.get hm)) hi fun h' tk t' F1 N1 => q _ h' tk _ _ F1 N1 (h _)
theorem a_join {D : Addr} {vs : List Value} {ys : List (List Nat)} {ep : Nat} {t : Tok} {Q : Value → Loc → Cells → Prop} (hm : (D, listOf vs.toArray ep) ∈ N) (hi : Strs vs ys) (hz : ys.flatten.length ≤ 16777216) (h : ∀ t, Q (.str (S ys.flatten) t) m N) :
    TW G c (call (.builtin "str.join") [.str (S []) t, .ref D]) m N Q :=
  .raw0 fun s E Q' F N' q => by
    have hl := isList_of (N'.get hm)
    with_reducible refine join_list hl (ys := ys.map S) (by simpa using hi.are) ?_ ?_
    · simp [S_len, Function.comp_def]
      rw [List.length_flatten] at hz; exact hz
    · intro t' k; rw [join_S]; exact q _ _ (h _)
theorem g_join {x : Str} {t : Tok} {pl : Sem Bool} {Q : Value × List Value → Loc → Cells → Prop} (h : Q (.builtin "str.join", [.str x t]) m N) : TW G c (getMethod (.str x t) "join" pl) m N Q :=
  .raw0 fun s E Q' F N' q => by with_reducible exact PySem.GM.join (q _ s.toks h)
theorem g_upper {x : Str} {t : Tok} {pl : Sem Bool} {Q : Value × List Value → Loc → Cells → Prop} (h : Q (.builtin "str.upper", [.str x t]) m N) : TW G c (getMethod (.str x t) "upper" pl) m N Q :=
  .raw0 fun s E Q' F N' q => by with_reducible exact PySem.GM.upper (q _ s.toks h)
theorem g_lower {x : Str} {t : Tok} {pl : Sem Bool} {Q : Value × List Value → Loc → Cells → Prop} (h : Q (.builtin "str.lower", [.str x t]) m N) : TW G c (getMethod (.str x t) "lower" pl) m N Q :=
  .raw0 fun s E Q' F N' q => by with_reducible exact PySem.GM.lower (q _ s.toks h)
theorem fits_S {x : List Nat} (h : x.length ≤ 16777216) : Builtin.Str.tooLong (S x).length = false := by
  unfold Builtin.Str.tooLong; rw [S_len]; exact decide_eq_false (Nat.not_lt.mpr (le_line h))
theorem a_upper {x : List Nat} {t : Tok} {Q : Value → Loc → Cells → Prop} (ha : Ascii x) (hz : x.length ≤ 16777216) (h : ∀ t, Q (.str (S (x.map up1)) t) m N) : TW G c (call (.builtin "str.upper") [.str (S x) t]) m N Q :=
  .raw0 fun s E Q' F N' q => by
    have hf := fits_S (x := x.map up1) (by simpa using hz)
    rw [← upS ha] at hf
    with_reducible refine PySem.SC.upper hf ?_
    rw [upS ha]; exact q _ _ (h _)
theorem a_lower {x : List Nat} {t : Tok} {Q : Value → Loc → Cells → Prop} (ha : Ascii x) (hz : x.length ≤ 16777216) (h : ∀ t, Q (.str (S (x.map lo1)) t) m N) : TW G c (call (.builtin "str.lower") [.str (S x) t]) m N Q :=
  .raw0 fun s E Q' F N' q => by
    have hf := fits_S (x := x.map lo1) (by simpa using hz)
    rw [← loS ha] at hf
    with_reducible refine PySem.SC.lower hf ?_
    rw [loS ha]; exact q _ _ (h _)
end

theorem kind_of {c : Act} {sc : Scope} {x : Str} {k : NameKind} (hs : c.env.scope = sc) (h : sc.names.lookup x = some k) : c.env.kindOf x = some k := by
  unfold Env.kindOf; rw [hs]; exact h

-- b8
-- locals as written lists
section
variable {G : St} {c : Act} {n : Nat} {m : Loc} {N : Cells} {pos : Pos}

theorem t_globL {x : Str} {v : Value} {sc : Scope} {Q : Value → Loc → Cells → Prop} (o : Ok G n c) (hs : c.env.scope = sc) (e : nsIn G.K mainGlobals x = some (some v)) (hl : sc.names.lookup x = some .globalImplicit)
    (h : Q v m N) (hd : (x == ("__debug__" : Str)) = false) : TW G c (eval (.Name x pos) c.env) m N Q := t_glob o e (kind_of hs hl) h hd
theorem t_buiL {x : Str} {v : Value} {sc : Scope} {Q : Value → Loc → Cells → Prop} (o : Ok G n c) (hs : c.env.scope = sc) (e : nsIn G.K mainGlobals x = some none) (hb : bootBuiltins x = some v) (hn : x ≠ "__name__") (hl : sc.names.lookup x = some .globalImplicit)
    (h : Q v m N) (hd : (x == ("__debug__" : Str)) = false) : TW G c (eval (.Name x pos) c.env) m N Q := t_bui o e hb hn (kind_of hs hl) h hd
theorem t_assignN {x : Str} {p : Pos} {v : Value} {Q : Unit → Loc → Cells → Prop} (h : TW G c (storeName c.env x v) m N Q) : TW G c (assign (.Name x p) c.env v) m N Q :=
  ⟨fun s₀ s E P => by with_reducible exact wpAny_assign_Name (h.out s₀ s E P)⟩

-- methods: the getting and the call at one blow
abbrev MethQ (G : St) (c : Act) (pos : Pos) (args : List Expr) (Q : Value → Loc → Cells → Prop) : Value × List Value → Loc → Cells → Prop :=
  fun fx m₂ N₂ => TW G c (callWith pos fx.1 fx.2 (backTo pos (starEach args c.env)) []) m₂ N₂ Q
section
variable {args : List Expr} {pl : Sem Bool} {Q : Value → Loc → Cells → Prop}
theorem t_MethL {ob : Expr} {name : Str} {apos : Pos} 
    (h : TW G c (eval ob c.env) m N fun ov m₁ N₁ => TW G c (getMethod ov name pl) m₁ N₁ (MethQ G c pos args Q))
    (he : eval (.Call (.Attribute ob name apos) args [] pos) c.env = (do
      let ov ← eval ob c.env
      standAt apos.atName
      let (f, first) ← holding [ov] (getMethod ov name pl)
      callWith pos f first (backTo pos (starEach args c.env)) [])) :
    TW G c (eval (.Call (.Attribute ob name apos) args [] pos) c.env) m N Q := t_Meth h he
theorem m_upper {x : Str} {t : Tok} (h : TW G c (callWith pos (.builtin "str.upper") [.str x t] (backTo pos (starEach args c.env)) []) m N Q) : TW G c (getMethod (.str x t) (Str.ofString "upper") pl) m N (MethQ G c pos args Q) := g_upper h
theorem m_lower {x : Str} {t : Tok} (h : TW G c (callWith pos (.builtin "str.lower") [.str x t] (backTo pos (starEach args c.env)) []) m N Q) : TW G c (getMethod (.str x t) (Str.ofString "lower") pl) m N (MethQ G c pos args Q) := g_lower h
theorem m_join {x : Str} {t : Tok} (h : TW G c (callWith pos (.builtin "str.join") [.str x t] (backTo pos (starEach args c.env)) []) m N Q) : TW G c (getMethod (.str x t) (Str.ofString "join") pl) m N (MethQ G c pos args Q) := g_join h
theorem m_append {D : Addr} {ob : Obj} (hm : (D, ob) ∈ N) (hc : ob.cls = .type "list") (hd : ob.dict = none) (h : TW G c (callWith pos (.builtin "list.append") [.ref D] (backTo pos (starEach args c.env)) []) m N Q) :
    TW G c (getMethod (.ref D) (Str.ofString "append") pl) m N (MethQ G c pos args Q) := g_append hm h hc hd
end

-- unpacking a tuple
theorem t_unpack {elts : List Expr} {k : Nat} {p : Pos} {T : Addr} {vs : List Value} {ep : Nat} {Q : Unit → Loc → Cells → Prop} (o : Ok G n c) (hm : (T, tupOf vs.toArray ep) ∈ N) (hn : (assignEach elts c.env).length = vs.length) (hstar : (assignEach elts c.env).findIdx? (·.1) = none)
    (h : TW G c (assignInOrder ((assignEach elts c.env).map (·.2)) vs) m N Q) : TW G c (assign (.Tuple elts k p) c.env (.ref T)) m N Q := ⟨fun s₀ s E P => by
  rw [assign_Tuple]
  with_reducible refine wpAny_bind (wpAny_standAt ?_)
  refine unpack_tuple o.handled (isTup_of (P.N.get hm)) (by rw [List.size_toArray]; exact hn) hstar fun h' hx => ?_
  have hlt : ∀ b o, s.heap.get? b = some o → h'.get? b = some o := fun b o e => hx b o (Nat.ne_of_lt (Heap.lt_size e)) e
  exact h.out s₀ _ E (P.ext (tk := s.toks) (P.F.keeps hlt) (P.N.grown hlt))⟩
theorem t_inorder_nil {xs : List Value} {Q : Unit → Loc → Cells → Prop} (h : Q () m N) : TW G c (assignInOrder [] xs) m N Q := ⟨fun s₀ s E P => by with_reducible exact assignInOrder_nil ⟨_, _, P, h⟩⟩
theorem t_inorder {t : Value → Sem Unit} {ts : List (Value → Sem Unit)} {x : Value} {xs : List Value} {Q : Unit → Loc → Cells → Prop} (h : TW G c (t x) m N fun _ m₁ N₁ => TW G c (assignInOrder ts xs) m₁ N₁ Q) : TW G c (assignInOrder (t :: ts) (x :: xs)) m N Q :=
  ⟨fun s₀ s E P => by with_reducible exact assignInOrder_cons (wpAny_mono (h.out s₀ s E P) (fun _ s₁ ⟨_, _, p₁, q₁⟩ => q₁.out s₀ s₁ E p₁) fun _ _ e => e)⟩
/-- two names from a pair -/
theorem t_pair {x y : Str} {px py p : Pos} {k : Nat} {T : Addr} {v u : Value} {ep : Nat} {Q : Unit → Loc → Cells → Prop} (o : Ok G n c) (hm : (T, tupOf [v, u].toArray ep) ∈ N)
    (h : TW G c (storeName c.env x v) m N fun _ m₁ N₁ => TW G c (storeName c.env y u) m₁ N₁ Q) : TW G c (assign (.Tuple [.Name x px, .Name y py] k p) c.env (.ref T)) m N Q := by
  refine t_unpack o hm rfl rfl ?_
  show TW G c (assignInOrder [assign (.Name x px) c.env, assign (.Name y py) c.env] [v, u]) m N Q
  refine t_inorder (t_assignN (h.mono fun _ _ _ h₁ => ?_))
  exact t_inorder (t_assignN (h₁.mono fun _ _ _ h₂ => t_inorder_nil h₂))
end

-- comprehensions
/-- what is picked from k turns, each of which gives R i -/
def Picks (R : Nat → Option Value → Prop) : Nat → List Value → Prop
  | 0, ys => ys = []
  | i + 1, ys => ∃ ys', Picks R i ys' ∧ ((R i none ∧ ys = ys') ∨ ∃ y, R i (some y) ∧ ys = ys' ++ [y])
theorem Picks.len {R : Nat → Option Value → Prop} : ∀ {k ys}, Picks R k ys → ys.length ≤ k
  | 0, ys, h => by rw [show ys = [] from h]; exact Nat.le_refl _
  | k + 1, ys, ⟨ys', h, e⟩ => by
    have := h.len
    rcases e with ⟨_, rfl⟩ | ⟨y, _, rfl⟩
    · (first | (revert this; walk_at "Z") | omega)
    · simp; (first | (revert this; walk_at "Z") | omega)
theorem Picks.strs {R : Nat → Option Value → Prop} {f : Nat → Option (List Nat)} {k : Nat} (h0 : ∀ i, i < k → R i none → f i = none) (h1 : ∀ i y, i < k → R i (some y) → ∃ s t, f i = some s ∧ y = .str (S s) t) {ys} (h : Picks R k ys) : Strs ys ((List.range k).filterMap f) := by
  induction k generalizing ys with
  | zero => rw [show ys = [] from h]; exact .nil
  | succ k ih =>
    obtain ⟨ys', h', e⟩ := h
    have ih' := ih (fun i hi => h0 i (by (first | (revert hi; walk_at "Z") | omega))) (fun i y hi => h1 i y (by (first | (revert hi; walk_at "Z") | omega))) h'
    rw [List.range_succ, List.filterMap_append]
    rcases e with ⟨hr, rfl⟩ | ⟨y, hr, rfl⟩
    · simp [h0 k (by (first | walk_at "Z" | omega)) hr]; exact ih'
    · obtain ⟨s, t, e1, rfl⟩ := h1 k y (by (first | walk_at "Z" | omega)) hr
      simp [e1]; exact ih'.snoc s t
theorem Picks.ints {R : Nat → Option Value → Prop} {f : Nat → Option Int} {k : Nat} (h0 : ∀ i, i < k → R i none → f i = none) (h1 : ∀ i y, i < k → R i (some y) → ∃ s t, f i = some s ∧ y = .int s t) {ys} (h : Picks R k ys) : IntsAre ys ((List.range k).filterMap f) := by
  have snoc : ∀ {vs : List Value} {ns : List Int} (x : Int) (t : Tok), IntsAre vs ns → IntsAre (vs ++ [.int x t]) (ns ++ [x]) := by
    intro vs ns x t h
    induction h with
    | nil => exact .cons x t .nil
    | cons y u _ ih => exact .cons y u ih
  induction k generalizing ys with
  | zero => rw [show ys = [] from h]; exact .nil
  | succ k ih =>
    obtain ⟨ys', h', e⟩ := h
    have ih' := ih (fun i hi => h0 i (by (first | (revert hi; walk_at "Z") | omega))) (fun i y hi => h1 i y (by (first | (revert hi; walk_at "Z") | omega))) h'
    rw [List.range_succ, List.filterMap_append]
    rcases e with ⟨hr, rfl⟩ | ⟨y, hr, rfl⟩
    · simp [h0 k (by (first | walk_at "Z" | omega)) hr]; exact ih'
    · obtain ⟨s, t, e1, rfl⟩ := h1 k y (by (first | walk_at "Z" | omega)) hr
      simp [e1]; exact snoc s t ih'

section
variable {G : St} {c : Act} {n : Nat} {m : Loc} {N : Cells} {pos : Pos}

theorem okComp {scope : Scope} {cl : List (Str × Addr)} {C : Addr} {h₀ : Heap} (o : Ok G n c) (st : ∀ b o, c.h₀.get? b = some o → h₀.get? b = some o) (hk : scope.kind = .function) : Ok G n ⟨c.A, compEnvC scope cl C c.env, h₀⟩ :=
  ⟨o.X.keeps st, o.T.keeps st, o.depth, o.units, o.handled, hk, o.glob, o.bui⟩

def TestsW (G : St) (c : Act) (ifs : List Expr) (m : Loc) (N : Cells) (Q : Bool → Loc → Cells → Prop) : Prop := match ifs with
  | [] => Q true m N
  | [t] => TW G c (isTrue t c.env (eval t c.env)) m N Q
  | _ => False
theorem TestsW.out {ifs : List Expr} {Q : Bool → Loc → Cells → Prop} (h : TestsW G c ifs m N Q) :
    TW G c (forIn ifs true fun t r => if r = true then do let ok ← isTrue t c.env (eval t c.env); pure (ForInStep.yield ok) else pure (ForInStep.yield r)) m N Q := by
  match ifs, h with
  | [], h => exact ⟨fun s₀ s E P => wpAny_tests_nil ⟨_, _, P, h⟩⟩
  | [t], h => exact ⟨fun s₀ s E P => wpAny_tests_one (TW.out h s₀ s E P)⟩

theorem codeAny_compLoop_go {prog : Program} {w : World} {A : Around} {R : Result → Shared → Prop} {s : Shared} {elt target iter : Expr} {ifs : List Expr} {scope : Scope} {pos : Pos} {it acc : Value} {env : Env} (I : Nat → Shared → Prop)
    (turn : ∀ n s, I n s → wpAny (model prog w) A (pyNext it) (fun r s₁ => match r with
      | none => R (.ok .next) s₁
      | some v => wpAny (model prog w) A (letOwnedTupleGo target it v) (fun _ s₁' => wpAny (model prog w) A (assign target env v) (fun _ s₂ =>
          wpAny (model prog w) A (forIn ifs true fun c r => if r = true then do let ok ← isTrue c env (eval c env); pure (ForInStep.yield ok) else pure (ForInStep.yield r)) (fun ok s₃ =>
            if ok = true then wpAny (model prog w) A (eval elt env) (fun x s₄ =>
              wpAny (model prog w) A (call (.builtin "list.append") [acc, x]) (fun _ s₅ => ∃ m, m < n ∧ I m s₅) (notedBy (model prog w) A env fun e s' => R (.error e) s') s₄) (notedBy (model prog w) A env fun e s' => R (.error e) s') s₃
            else ∃ m, m < n ∧ I m s₃) (notedBy (model prog w) A env fun e s' => R (.error e) s') s₂) (notedBy (model prog w) A env fun e s' => R (.error e) s') s₁') (notedBy (model prog w) A env fun e s' => R (.error e) s') s₁) (notedBy (model prog w) A env fun e s' => R (.error e) s') s)
    (n : Nat) (h : I n s) :
    codeAny (model prog w) A (.compLoop (.ListComp elt [⟨target, iter, ifs, 0⟩] scope pos) 0 it acc env) R s := by
  refine codeAny_loop rfl I (fun n s hI => ?_) n h
  show wpAny _ _ ((compTurn (.ListComp elt [⟨target, iter, ifs, 0⟩] scope pos) 0 it acc env).onRaise (fun x => do noteFrame x env; theTreesLotGoes x)) _ _ s
  refine wpAny_noted ?_
  rw [compTurn_list]
  refine wpAny_bind (wpAny_standAt (wpAny_bind (wpAny_mono (turn n s hI) (fun r s₁ h₁ => ?_) fun _ _ h' => h')))
  cases r with
  | none => exact wpAny_pure h₁
  | some v =>
    refine wpAny_bind (wpAny_mono h₁ (fun _ s₁' h₁' => ?_) fun _ _ h' => h')
    refine wpAny_bind (wpAny_mono h₁' (fun _ s₂ h₂ => wpAny_bind (wpAny_mono h₂ (fun ok s₃ h₃ => ?_) fun _ _ h' => h')) fun _ _ h' => h')
    cases ok with
    | false => exact wpAny_pure ⟨rfl, h₃⟩
    | true =>
      exact wpAny_bind (wpAny_bind (wpAny_mono h₃ (fun x s₄ h₄ => wpAny_bind (wpAny_mono h₄ (fun _ s₅ h₅ => wpAny_pure (wpAny_pure ⟨rfl, h₅⟩)) fun _ _ h' => h')) fun _ _ h' => h'))

/-- the block of a list comprehension behind its iterator -/
theorem comp_core {elt target iter : Expr} {ifs : List Expr} {scope : Scope} {cl : List (Str × Addr)} {I : Addr} {ob : Obj} {D : Cells} {k : Nat} {P : Nat → Value → Prop} {st : Nat → Obj → Prop} {R : Nat → Option Value → Prop}
    (o : Ok G n c) (hcell : ∀ y ∈ scope.names, y.2 ≠ .cell) (hk : scope.kind = .function) (hsz : k ≤ 16777216)
    (W : ∀ c₂, Ok G n c₂ → Walk G c₂ I D k P st target) (hD : ∀ d ∈ D, d ∈ N) (hI : Fresh I N) (hst : st 0 ob) (hself : ∀ c₂ m₂ N₂, Ok G n c₂ → TW G c₂ (pyIter (.ref I)) m₂ ((I, ob) :: N₂) fun r m' N' => r = .ref I ∧ m' = m₂ ∧ N' = (I, ob) :: N₂)
    (hb : ∀ (c₂ : Act) (l : Loc) (X : Cells) (i : Nat) (v : Value), c₂.env.scope = relabel scope c.env → c₂.env.cells = cl → Ok G n c₂ → (∀ p ∈ N, p ∈ X) → i < k → P i v →
      TW G c₂ (assign target c₂.env v) l X fun _ m₁ N₁ => TestsW G c₂ ifs m₁ N₁ fun ok m₂ N₂ => if ok = true then TW G c₂ (eval elt c₂.env) m₂ N₂ (fun y _ N₃ => R i (some y) ∧ ∀ p ∈ X, p ∈ N₃) else R i none ∧ ∀ p ∈ X, p ∈ N₂)
    {s₀ s : Shared} (P₀ : Pre c m ((I, ob) :: N) s₀ s) {E : Value → Shared → Prop} {RR : Value → Addr → Result → Shared → Prop}
    (hR : ∀ A C oC ys ep s', Picks R k ys → Fresh A N → Fresh C ((A, listOf ys.toArray ep) :: N) → Pre c m ((C, oC) :: (A, listOf ys.toArray ep) :: N) s₀ s' → (∃ mC, s'.heap.Ns C mC) → RR (.ref A) C (.ok .next) s') :
    wpAny (model G.prog G.w) c.A (newList []) (fun acc s₃ => wpAny (model G.prog G.w) c.A (newFunctionEnv scope c.env.globals cl [] c.env.qual none .none (some c.env)) (fun cenv s₄ =>
      codeAny (model G.prog G.w) c.A (.compStart (.ListComp elt [⟨target, iter, ifs, 0⟩] scope pos) 0 (.ref I) acc { cenv with scope := relabel scope c.env }) (RR acc cenv.locals) s₄) E s₃) E s := by
  refine newList_N P₀.F P₀.N (fun h₃ F₃ N₃ => ?_) (by simp)
  have hfA : Fresh s.heap.objs.size ((I, ob) :: N) := news_fresh P₀.N
  have P₃ : Pre c m ((s.heap.objs.size, listOf ([] : List Value).toArray 0) :: (I, ob) :: N) s₀ { s with heap := h₃ } := P₀.ext (tk := s.toks) F₃ N₃
  obtain ⟨stt, sub, back⟩ := ground P₃
  generalize hg : hideAll h₃ (((s.heap.objs.size, listOf ([] : List Value).toArray 0) :: (I, ob) :: N).map (·.1)) = g at stt sub back
  refine wpAny_newFunctionEnv hcell (by intro y hy; simp at hy) (fun h₁ hns₁ hsb₁ => ?_) hk
  dsimp only at hns₁ hsb₁ ⊢
  have hk₁ : ∀ b o, h₃.get? b = some o → h₁.get? b = some o := fun b o e => hsb₁.extBut b o (Nat.ne_of_lt (Heap.lt_size e)) (Heap.get?_push_of_some _ e)
  have O := okComp (scope := scope) (cl := cl) (C := h₃.objs.size) o stt hk
  let c₂ : Act := ⟨c.A, compEnvC scope cl h₃.objs.size c.env, g⟩
  have gsz : g.objs.size = h₃.objs.size := by rw [← hg]; exact hideAll_size _ _
  have P₂ : Pre c₂ (fun x => ([] : List (Str × Value)).reverse.lookup x) ((s.heap.objs.size, listOf ([] : List Value).toArray 0) :: (I, ob) :: N) s₀ { s with heap := h₁, toks := s.toks + ([] : List (Str × Value)).length } :=
    ⟨⟨hns₁, fun b o e => hk₁ b o (sub b o e), Nat.le_of_eq gsz⟩,
     fun p hp => ⟨hk₁ _ _ (P₃.N p hp).1, Nat.ne_of_lt (Heap.lt_size (P₃.N p hp).1), by show g.get? p.1 = none; rw [← hg]; exact hideAll_none _ (List.mem_map_of_mem hp)⟩, ⟨P₃.R.os, P₃.R.gens, P₃.R.bare⟩⟩
  have hIA : I ≠ s.heap.objs.size := hfA _ (.head _)
  have hAN : Fresh s.heap.objs.size N := hfA.sub fun p hp => .tail _ hp
  -- the loop
  have loop : ∀ (s₅ : Shared) (l : Loc), Pre c₂ l ((I, ob) :: (s.heap.objs.size, listOf ([] : List Value).toArray 0) :: N) s₀ s₅ → codeAny (model G.prog G.w) c.A (.compLoop (.ListComp elt [⟨target, iter, ifs, 0⟩] scope pos) 0 (.ref I) (.ref s.heap.objs.size) (compEnvC scope cl h₃.objs.size c.env)) (RR (.ref s.heap.objs.size) h₃.objs.size) s₅ := by
    intro s₅ l P₅
    refine codeAny_compLoop_go (fun d s' => ∃ i ys ep l o', i ≤ k ∧ d = k - i ∧ st i o' ∧ Picks R i ys ∧ Pre c₂ l ((I, o') :: (s.heap.objs.size, listOf ys.toArray ep) :: N) s₀ s') ?_ k ⟨0, [], 0, l, ob, Nat.zero_le _, rfl, hst, rfl, P₅⟩
    rintro d s' ⟨i, ys, ep, l, o', hi, rfl, ho', hp, P'⟩
    have hFI : Fresh I ((s.heap.objs.size, listOf ys.toArray ep) :: N) := fun p hp => by
      rcases List.mem_cons.mp hp with rfl | hp
      · exact Ne.symm hIA
      · exact hI p hp
    have hDX : ∀ d ∈ D, d ∈ (s.heap.objs.size, listOf ys.toArray ep) :: N := fun d hd => .tail _ (hD d hd)
    by_cases hlt : i < k
    · refine wpAny_mono (((W c₂ O).item i o' l _ hlt ho' hDX hFI).out s₀ s' _ P') ?_ fun _ _ e => e
      rintro r s₁ ⟨_, _, p₁, v, o'', rfl, rfl, rfl, ho'', hP⟩
      dsimp only
      refine wpAny_mono (((W c₂ O).go (i + 1) o'' v _ _ ho'').out s₀ s₁ _ p₁) ?_ fun _ _ e => e
      rintro _ s₂ ⟨_, _, p₂, rfl, rfl⟩
      refine wpAny_mono ((hb c₂ _ ((I, o'') :: (s.heap.objs.size, listOf ys.toArray ep) :: N) i v rfl rfl O (fun p hp => .tail _ (.tail _ hp)) hlt hP).out s₀ s₂ _ p₂) ?_ fun _ _ e => e
      rintro _ s₃ ⟨m₃, N₃', p₃, q₃⟩
      refine wpAny_mono (q₃.out.out s₀ s₃ _ p₃) ?_ fun _ _ e => e
      rintro ok s₄ ⟨m₄, N₄, p₄, q₄⟩
      cases ok with
      | false =>
        simp only [Bool.false_eq_true, if_false] at q₄ ⊢
        exact ⟨k - (i + 1), by (first | (revert hlt; walk_at "Z") | omega), i + 1, ys, ep, m₄, o'', hlt, rfl, ho'', ⟨ys, hp, .inl ⟨q₄.1, rfl⟩⟩, p₄.sub q₄.2⟩
      | true =>
        simp only [if_true] at q₄ ⊢
        refine wpAny_mono (q₄.out s₀ s₄ _ p₄) ?_ fun _ _ e => e
        rintro y s₅ ⟨m₅, N₅, p₅, hr, hs⟩
        have hz : ys.length ≤ 16777216 := Nat.le_trans hp.len (by (first | (revert hlt hsz; walk_at "Z") | omega))
        refine wpAny_mono ((a_append (c := c₂) (G := G) (Q := fun r m' N' => m' = m₅ ∧ ∃ ep', N' = put s.heap.objs.size (listOf (ys ++ [y]).toArray ep') ((I, o'') :: (s.heap.objs.size, listOf ys.toArray ep) :: N)) (.tail _ (.head _)) hz fun ep' => ⟨rfl, ep', rfl⟩).out s₀ s₅ _ (p₅.sub hs)) ?_ fun _ _ e => e
        rintro _ s₆ ⟨m₆, N₆, p₆, rfl, ep', rfl⟩
        rw [put_tail hIA, put_head hAN] at p₆
        exact ⟨k - (i + 1), by (first | (revert hlt; walk_at "Z") | omega), i + 1, ys ++ [y], ep', m₆, o'', hlt, rfl, ho'', ⟨ys, hp, .inr ⟨y, hr, rfl⟩⟩, p₆⟩
    · have : i = k := by (first | (revert hi hlt; walk_at "Z") | omega)
      subst this
      refine wpAny_mono (((W c₂ O).done o' l _ ho' hDX hFI).out s₀ s' _ P') ?_ fun _ _ e => e
      rintro r s₁ ⟨_, _, p₁, rfl, rfl, rfl⟩
      dsimp only
      obtain ⟨oC, es, ep', hC, r⟩ := p₁.F.ns
      have Pb := back p₁.F p₁.N p₁.R
      have hCg : c.h₀.get? h₃.objs.size = none := by
        cases q : c.h₀.get? h₃.objs.size with
        | none => rfl
        | some o => exact absurd (Heap.lt_size (stt _ _ q)) (by rw [gsz]; exact Nat.lt_irrefl _)
      have hCL : h₃.objs.size ≠ c.env.locals := by
        obtain ⟨oL, _, _, hL, _⟩ := P₃.F.ns
        exact Nat.ne_of_gt (Heap.lt_size hL)
      have hFC : Fresh h₃.objs.size ((s.heap.objs.size, listOf ys.toArray ep) :: N) := fun p hp => (p₁.N p hp).2.1
      refine hR _ _ oC ys ep s₁ hp hAN hFC ⟨Pb.F, fun p hp => ?_, Pb.R⟩ ⟨_, p₁.F.ns⟩
      rcases List.mem_cons.mp hp with rfl | hp
      · exact ⟨hC, hCL, hCg⟩
      · exact Pb.N p hp
  have P₂' : Pre c₂ (fun x => ([] : List (Str × Value)).reverse.lookup x) ((I, ob) :: (s.heap.objs.size, listOf ([] : List Value).toArray 0) :: N) s₀ { s with heap := h₁, toks := s.toks + ([] : List (Str × Value)).length } := P₂.sub fun p hp => by
    rcases List.mem_cons.mp hp with rfl | hp
    · exact .tail _ (.head _)
    · rcases List.mem_cons.mp hp with rfl | hp
      · exact .head _
      · exact .tail _ (.tail _ hp)
  refine codeAny_compStart_list (loop _ _ P₂') ?_
  refine wpAny_mono ((hself c₂ _ ((s.heap.objs.size, listOf ([] : List Value).toArray 0) :: N) O).out s₀ _ _ P₂') ?_ fun _ _ e => e
  rintro it' s₆ ⟨_, _, p₆, rfl, rfl, rfl⟩
  exact loop _ _ p₆
end

-- b9
def relabelS (scope sc : Scope) : Scope :=
  { scope with names := scope.names.map fun (n, k) => if (k == .free && sc.kind == .function && sc.names.lookup n == some .cell) then (n, .cell) else (n, k) }
theorem relabel_eq {scope sc : Scope} {env : Env} (h : env.scope = sc) : relabel scope env = relabelS scope sc := by
  subst h; rfl
def closC (cells : List (Str × Addr)) : List (Str × NameKind) → List (Str × Addr) → Option (List (Str × Addr))
  | [], cs => some cs
  | (x, k) :: r, cs => if (k == .free) = true then (match cells.lookup x with
      | some a => closC cells r ((x, a) :: cs)
      | none => none) else closC cells r cs
theorem closC_eq {scope : Scope} {env : Env} {cl : List (Str × Addr)} (h : closC env.cells scope.names [] = some cl) : closureFor scope env = pure cl := by
  unfold closureFor
  have key : ∀ (ns : List (Str × NameKind)) (cs : List (Str × Addr)), closC env.cells ns cs = some cl →
      (forIn ns cs fun (x : Str × NameKind) r => (if (x.2 == NameKind.free) = true then do let y ← cellOf env x.1; pure (ForInStep.yield ((x.1, y) :: r)) else pure (ForInStep.yield r)) : Sem (List (Str × Addr))) = pure cl := by
    intro ns
    induction ns with
    | nil => intro cs h; simp only [closC, Option.some.injEq] at h; subst h; rfl
    | cons p r ih =>
      intro cs h
      obtain ⟨x, k⟩ := p
      simp only [List.forIn_cons]
      unfold closC at h
      by_cases hk : (k == NameKind.free) = true
      · rw [if_pos hk] at h
        cases e : env.cells.lookup x with
        | none => rw [e] at h; cases h
        | some a =>
          rw [e] at h
          have ec : cellOf env x = pure a := by unfold cellOf; rw [e]
          simp only [hk, if_true, ec]
          exact ih _ h
      · rw [if_neg hk] at h
        simp only [hk, if_false]
        exact ih _ h
  have := key scope.names [] h
  simp only [bind_pure]
  exact this

section
variable {G : St} {c : Act} {n : Nat} {m : Loc} {N : Cells} {pos : Pos}

structure IterW (G : St) (n : Nat) (c : Act) (x : Value) (m : Loc) (N : Cells) (target : Expr) (D : Cells) (k : Nat) (P : Nat → Value → Prop) : Prop where
  out : ∀ (s₀ s : Shared) (E : Value → Shared → Prop) (Q : Value → Shared → Prop), Pre c m N s₀ s →
    (∀ I ob (st : Nat → Obj → Prop) s', Pre c m ((I, ob) :: N) s₀ s' → Fresh I N → st 0 ob → (∀ c₂, Ok G n c₂ → Walk G c₂ I D k P st target) →
      (∀ c₂ m₂ N₂, Ok G n c₂ → TW G c₂ (pyIter (.ref I)) m₂ ((I, ob) :: N₂) fun r m' N' => r = .ref I ∧ m' = m₂ ∧ N' = (I, ob) :: N₂) → Q (.ref I) s') →
    wpAny (model G.prog G.w) c.A (pyIter x) Q E s

theorem it_list {target : Expr} {l : Addr} {vs : List Value} {ep : Nat} (hm : (l, listOf vs.toArray ep) ∈ N) : IterW G n c (.ref l) m N target [(l, listOf vs.toArray ep)] vs.length (fun i v => vs[i]? = some v) := ⟨fun s₀ s E Q P k => by
  with_reducible refine wpAny_pyIter_list (isList_of (P.N.get hm)) ?_
  have hf := news_fresh P.N
  refine k _ _ (isLI l) _ (P.ext (tk := s.toks) (P.F.push _) (P.N.push P.F _)) hf ⟨rfl, rfl⟩ (fun c₂ o => walk_list o) fun c₂ m₂ N₂ o => .raw0 fun s E Q' F N' q => ?_
  have hit : s.heap.IsListIter _ l 0 := ⟨_, N'.get (.head _), rfl, rfl⟩
  with_reducible exact wpAny_pyIter_listiter hit (q _ s.toks ⟨rfl, rfl, rfl⟩)⟩
theorem it_range {target : Expr} {R : Addr} {a b d : Int} {t u v : Tok} {k : Nat} (hm : (R, rngOf a b d t u v) ∈ N) (hs : Builtin.Range.small a b d = true) (hk : Builtin.Range.rangeSize a b d = k) :
    IterW G n c (.ref R) m N target [] k (fun i v => ∃ t, v = .int (a + i * d) t) := ⟨fun s₀ s E Q P k' => by
  with_reducible refine wpAny_pyIter_range (P.N.get hm) hs ?_
  have hf := news_fresh P.N
  rw [hk]
  refine k' _ (riOf a k d) (fun i ob => ob = riOf (a + i * d) ((k : Int) - i) d) _ (P.ext (tk := s.toks) (P.F.push _) (P.N.push P.F _)) hf (by simp) (fun c₂ o => walk_range o) fun c₂ m₂ N₂ o => .raw0 fun s E Q' F N' q => ?_
  have hit : IsRangeIter s.heap _ a k d := N'.get (.head _)
  with_reducible exact wpAny_pyIter_rangeiter hit (q _ s.toks ⟨rfl, rfl, rfl⟩)⟩
theorem it_str {target : Expr} {x : List Nat} {tk : Tok} (ha : ∀ d ∈ x, d < 128) : IterW G n c (.str (S x) tk) m N target [] x.length (fun i v => ∃ d t, x[i]? = some d ∧ v = .str (S [d]) t) := ⟨fun s₀ s E Q P k => by
  with_reducible refine wpAny_pyIter_ascii (by simp [S_cps]; exact ha) ?_
  have hf := news_fresh P.N
  refine k _ _ (isSI (S x) tk) _ (P.ext (tk := s.toks) (P.F.push _) (P.N.push P.F _)) hf ⟨rfl, rfl⟩ (fun c₂ o => walk_str o) fun c₂ m₂ N₂ o => .raw0 fun s E Q' F N' q => ?_
  have hit : s.heap.IsStrIter _ "str_ascii_iterator" (S x) tk 0 := ⟨_, N'.get (.head _), rfl, rfl⟩
  with_reducible exact wpAny_pyIter_striter_ascii hit (q _ s.toks ⟨rfl, rfl, rfl⟩)⟩

/-- what a comprehension does behind the value that is iterated -/
structure CompB (G : St) (n : Nat) (c : Act) (elt target : Expr) (ifs : List Expr) (scope sc : Scope) (cl : List (Str × Addr)) (x : Value) (m : Loc) (N : Cells) (K : Addr → Cells → Prop) : Prop where
  out : ∃ D k P R, IterW G n c x m N target D k P ∧ (∀ d ∈ D, d ∈ N) ∧ k ≤ 16777216 ∧
    (∀ (c₂ : Act) (l : Loc) (X : Cells) (i : Nat) (v : Value), c₂.env.scope = relabelS scope sc → c₂.env.cells = cl → Ok G n c₂ → (∀ p ∈ N, p ∈ X) → i < k → P i v →
      TW G c₂ (assign target c₂.env v) l X fun _ m₁ N₁ => TestsW G c₂ ifs m₁ N₁ fun ok m₂ N₂ => if ok = true then TW G c₂ (eval elt c₂.env) m₂ N₂ (fun y _ N₃ => R i (some y) ∧ ∀ p ∈ X, p ∈ N₃) else R i none ∧ ∀ p ∈ X, p ∈ N₂) ∧
    ∀ A ys ep, Picks R k ys → Fresh A N → K A ((A, listOf ys.toArray ep) :: N)

theorem comp_any {elt target iter : Expr} {ifs : List Expr} {scope sc : Scope} {cl : List (Str × Addr)} {p1 p2 : Pos} {use : Option (Value → Sem Unit)} {K : Addr → Loc → Cells → Prop} {s₀ s : Shared} {E : Value → Shared → Prop} {Q : Value → Shared → Prop}
    (o : Ok G n c) (hs : c.env.scope = sc) (hclos : closC c.env.cells scope.names [] = some cl) (hcell : (scope.names.all fun y => y.2 != .cell) = true) (hk : scope.kind = .function)
    (hnames : (scope.names.all fun y => y.2 != .local || scope.names.lookup y.1 == some .local) = true) (hf : ∀ x, foldedSetIterable iter c.env x = pure x)
    (h : TW G c (eval iter c.env) m N fun x m₁ N₁ => CompB G n c elt target ifs scope sc cl x m₁ N₁ fun A X => K A m₁ X)
    (hQ : ∀ A C oC m₁ X s', K A m₁ X → Fresh C X → Pre c m₁ ((C, oC) :: X) s₀ s' → (∃ mC, s'.heap.Ns C mC) → compPost (model G.prog G.w) c.A E use Q (.ref A) C (.ok .next) s')
    (P₀ : Pre c m N s₀ s) : wpAny (model G.prog G.w) c.A (comprehension (.ListComp elt [⟨target, iter, ifs, 0⟩] scope p1) scope c.env p2 (newList []) false (eval iter c.env) use) Q E s := by
  have hcell' : ∀ y ∈ scope.names, y.2 ≠ .cell := fun y hy => by simpa using List.all_eq_true.mp hcell y hy
  have hnames' : ∀ y ∈ scope.names, y.2 = .local → scope.names.lookup y.1 = some .local := fun y hy e => by
    have := List.all_eq_true.mp hnames y hy
    simpa [e] using this
  have hcl := closC_eq hclos
  refine wpAny_comprehension_free (g := ⟨target, iter, ifs, 0⟩) (gs := []) rfl hf hcl hk hnames' ?_
  refine wpAny_mono (h.out s₀ s E P₀) ?_ fun _ _ e => e
  rintro x s₁ ⟨m₁, N₁, p₁, D, k, P, R, W, hD, hsz, hb, hK⟩
  refine W.out s₀ s₁ E _ p₁ fun I ob st s₂ p₂ hI hst hW hself => ?_
  refine comp_core (c := c) (RR := fun acc C => compPost (model G.prog G.w) c.A E use Q acc C) (R := R) (N := N₁) (ob := ob) o hcell' hk hsz hW hD hI hst (fun c₂ m₂ N₂ o₂ => hself c₂ m₂ N₂ o₂) (fun c₂ l X i v e1 e2 o₂ hX hi hp => hb c₂ l X i v (e1.trans (relabel_eq hs)) e2 o₂ hX hi hp) p₂ ?_
  intro A C oC ys ep s' hp hA hC p' hns
  exact hQ A C oC m₁ _ s' (hK A ys ep hp hA) hC p' hns

theorem t_ListComp {elt target iter : Expr} {ifs : List Expr} {scope sc : Scope} {cl : List (Str × Addr)} {Q : Value → Loc → Cells → Prop}
    (o : Ok G n c) (hs : c.env.scope = sc) (hclos : closC c.env.cells scope.names [] = some cl) (hcell : (scope.names.all fun y => y.2 != .cell) = true) (hk : scope.kind = .function)
    (hnames : (scope.names.all fun y => y.2 != .local || scope.names.lookup y.1 == some .local) = true) (hf : ∀ x, foldedSetIterable iter c.env x = pure x)
    (h : TW G c (eval iter c.env) m N fun x m₁ N₁ => CompB G n c elt target ifs scope sc cl x m₁ N₁ fun A X => Q (.ref A) m₁ X) :
    TW G c (eval (.ListComp elt [⟨target, iter, ifs, 0⟩] scope pos) c.env) m N Q := ⟨fun s₀ s E P₀ => by
  rw [eval_ListComp]
  refine comp_any o hs hclos hcell hk hnames hf h ?_ P₀
  rintro A C oC m₁ X s' hK hC p' ⟨mC, hns⟩
  refine ⟨mC, hns, fun h' hsb => ⟨m₁, X, ?_, hK⟩⟩
  have z := p'.N _ (.head _)
  obtain ⟨oL, es, ep, hL, r⟩ := p'.F.ns
  refine ⟨⟨⟨oL, es, ep, hsb.extBut _ _ (Ne.symm z.2.1) hL, r⟩, fun b ob e => hsb.extBut b ob (fun q => ?_) (p'.F.keep b ob e), p'.F.above⟩, fun p hp => ⟨hsb.extBut _ _ (hC p hp) (p'.N p (.tail _ hp)).1, (p'.N p (.tail _ hp)).2⟩, ⟨p'.R.os, p'.R.gens, p'.R.bare⟩⟩
  subst q; rw [z.2.2] at e; cases e⟩

theorem exec_comp {elt target iter : Expr} {ifs : List Expr} {scope sc : Scope} {cl : List (Str × Addr)} {y : Str} {py : Pos} {spos : Pos} {Q : Flow → Loc → Cells → Prop}
    (o : Ok G n c) (hs : c.env.scope = sc) (hclos : closC c.env.cells scope.names [] = some cl) (hcell : (scope.names.all fun y => y.2 != .cell) = true) (hk : scope.kind = .function)
    (hnames : (scope.names.all fun y => y.2 != .local || scope.names.lookup y.1 == some .local) = true) (hf : ∀ x, foldedSetIterable iter c.env x = pure x)
    (hsw : swapsWith (.ListComp elt [⟨target, iter, ifs, 0⟩] scope pos) (some (.Name y py)) spos.line c.env = pure true)
    (h : TW G c (eval iter c.env) m N fun x m₁ N₁ => CompB G n c elt target ifs scope sc cl x m₁ N₁ fun A X => ∀ C oC, Fresh C X →
      TW G c (storeName c.env y (.ref A)) m₁ ((C, oC) :: X) fun _ m' N' => ∃ X', N' = (C, oC) :: X' ∧ Fresh C X' ∧ Q .next m' X') :
    TW G c (exec (.Assign [.Name y py] (.ListComp elt [⟨target, iter, ifs, 0⟩] scope pos) spos) c.env) m N Q := ⟨fun s₀ s E P₀ => by
  rw [exec_Assign_Name_used _ _ _ _ hsw]
  refine wpAny_bind (wpAny_standAt (wpAny_bind ?_))
  show wpAny _ c.A (do let _ ← comprehension (.ListComp elt [⟨target, iter, ifs, 0⟩] scope pos) scope c.env _ (newList []) false (eval iter c.env) (some (assign (.Name y py) c.env))) _ _ s
  refine wpAny_bind (wpAny_mono (comp_any (use := some (assign (.Name y py) c.env)) (Q := fun _ s' => Aft c s₀ Q .next s') o hs hclos hcell hk hnames hf h ?_ P₀) (fun _ s' hq => wpAny_pure (wpAny_pure hq)) fun _ _ e => e)
  rintro A C oC m₁ X s' hK hC p' ⟨mC, oC', es', ep', hC', rC⟩
  show wpAny _ c.A (assign (.Name y py) c.env (.ref A)) _ _ _
  refine wpAny_mono ((t_assignN (hK C oC hC)).out s₀ s' E p') ?_ fun _ _ e => e
  rintro _ s'' ⟨m', N', p'', X', rfl, hC'', hQ⟩
  have e : oC' = oC := by
    have := (p'.N _ (.head _)).1; rw [hC'] at this; exact Option.some.inj this
  subst e
  have z := p''.N _ (.head _)
  refine ⟨mC, ⟨oC', es', ep', z.1, rC⟩, fun h' hsb => ⟨m', X', ?_, hQ⟩⟩
  obtain ⟨oL, es, ep, hL, r⟩ := p''.F.ns
  refine ⟨⟨⟨oL, es, ep, hsb.extBut _ _ (Ne.symm z.2.1) hL, r⟩, fun b ob e => hsb.extBut b ob (fun q => ?_) (p''.F.keep b ob e), p''.F.above⟩, fun p hp => ⟨hsb.extBut _ _ (hC'' p hp) (p''.N p (.tail _ hp)).1, (p''.N p (.tail _ hp)).2⟩, ⟨p''.R.os, p''.R.gens, p''.R.bare⟩⟩
  subst q; rw [z.2.2] at e; cases e⟩
/-- stores into a cell -/
theorem t_storeC {x : Str} {v : Value} {a : Addr} {ob : Obj} {v₀ : Option Value} {Q : Unit → Loc → Cells → Prop} (o : Ok G n c) (hc : c.env.cells.lookup x = some a) (hm : (a, ob) ∈ N) (hob : ob.data = .cell v₀)
    (hl : c.env.kindOf x = some .cell) (h : ∀ ob', ob'.data = .cell (some v) → Q () m (put a ob' N)) : TW G c (storeName c.env x v) m N Q :=
  .raw fun s E Q' F N' k => by
    have hv : s.heap.IsCell a v₀ := ⟨ob, N'.get hm, hob⟩
    with_reducible refine wpAny_storeName_cell o.kind hl hc hv fun h' hv' hs => ?_
    obtain ⟨ob', ho', hd'⟩ := hv'
    obtain ⟨F1, N1⟩ := news_put F N' hm hs ho'
    exact k _ h' s.toks _ _ F1 N1 (h ob' hd')
end

-- b10
section
variable {prog : Program} {w : World} {A : Around} {E : Value → Shared → Prop} {s : Shared}
theorem lsp_item {it l : Addr} {i : Nat} {items} {x : Value} {Q : Option Value → Shared → Prop} (hit : s.heap.IsListIter it l i)
    (hl : s.heap.IsList l items) (hx : items[i]? = some x)
    (hQ : ∀ h', h'.IsListIter it l (i + 1) → Heap.SameBut it s.heap h' → Q (some x) { s with heap := h' }) :
    wpAny (model prog w) A (callSpecial? (.ref it) (Str.ofString "__next__")) Q E s := by
  obtain ⟨o, ho, hc, hd⟩ := id hit
  obtain ⟨ol, hol, _, nl, hdl⟩ := hl
  refine wpAny_callSpecial?_slot (name := Str.ofString "__next__") hit.typeIs slot_listiter_next
    (wpAny_call_entry slot_listiter_next hit.typeIs entry_listiter_next ?_ (args_listiter_next _))
  show wpAny _ _ (field (.ref it) 0 >>= _) _ _ s
  refine wpAny_bind (wpAny_field ho hd (x := .ref l) rfl ?_)
  show wpAny _ _ (if (Value.ref l == Value.none) = true then _ else _) _ _ s
  rw [if_neg (show ¬ ((Value.ref l == Value.none) = true) from Bool.false_ne_true)]
  show wpAny _ _ (field (.ref it) 1 >>= _) _ _ s
  refine wpAny_bind (wpAny_field ho hd (x := .int i 0) rfl ?_)
  show wpAny _ _ (seqItems? (.ref l) >>= _) _ _ s
  refine wpAny_bind (wpAny_seqItems hol hdl ?_)
  simp only [Int.toNat_natCast, hx]
  refine wpAny_bind (wpAny_setField ho hd (by simp) (wpAny_pure ⟨x, rfl, hQ _ ?_ (Heap.SameBut.update ..)⟩))
  exact ⟨_, Heap.get?_update_self _ ho (Obj.isFreed_of_fields (Obj.data_mapFields hd _)), (Obj.cls_mapFields ..).trans hc, by
    rw [Obj.data_mapFields hd]; simp [rawInt]⟩
end
section
variable {G : St} {c : Act} {n : Nat} {m : Loc} {N : Cells} {pos : Pos}

-- statements
theorem t_assign2 {x y : Str} {p q : Pos} {v : Expr} {Q : Flow → Loc → Cells → Prop}
    (h : TW G c (eval v c.env) m N fun a m₁ N₁ => TW G c (storeName c.env x a) m₁ N₁ fun _ m₂ N₂ => TW G c (storeName c.env y a) m₂ N₂ fun _ m₃ N₃ => Q .next m₃ N₃)
    (he : (assignEach [.Name x p, .Name y q] c.env).map (·.2) = [assign (.Name x p) c.env, assign (.Name y q) c.env]) (hw : swappedStores [.Name x p, .Name y q] v c.env = pure none) :
    TW G c (exec (.Assign [.Name x p, .Name y q] v pos) c.env) m N Q :=
  ⟨fun s₀ s E P => by
    with_reducible refine wpAny_Assign_two (wpAny_mono (h.out s₀ s E P) ?_ fun _ _ e => e) he hw
    rintro a s₁ ⟨m₁, N₁, p₁, q₁⟩
    refine wpAny_mono ((t_assignN q₁).out s₀ s₁ E p₁) ?_ fun _ _ e => e
    rintro _ s₂ ⟨m₂, N₂, p₂, q₂⟩
    exact (t_assignN q₂).outf (f := fun _ => Flow.next) p₂⟩
theorem u_pair {T : Addr} {u w : Value} {ep : Nat} {Q : List Value → Loc → Cells → Prop} (o : Ok G n c) (hm : (T, tupOf [u, w].toArray ep) ∈ N) (h : Q [u, w] m N) : TW G c (unpackItems (.ref T) 2 none) m N Q :=
  .raw fun s E Q' F N' q => by
    have ht := isTup_of (N'.get hm)
    have key := fun h' (hx : Heap.ExtBut s.heap.objs.size s.heap h') =>
      have hlt : ∀ b o, s.heap.get? b = some o → h'.get? b = some o := fun b o e => hx b o (Nat.ne_of_lt (Heap.lt_size e)) e
      q [u, w] h' s.toks m N (F.keeps hlt) (N'.grown hlt) h
    have fin := unpackItems_tuple (prog := G.prog) (w := G.w) (A := c.A) (E := E) (Q := Q') (items := [u, w].toArray) o.handled ht key
    have e2 : ([u, w].toArray).size = 2 := rfl
    rw [e2] at fin
    with_reducible exact fin
/-- a, b = (b, a) and the like: the items of a pair are stored, the last one first -/
theorem t_swap {elts : List Expr} {k : Nat} {tp : Pos} {v : Expr} {x y : Str} {Q : Flow → Loc → Cells → Prop} (o : Ok G n c)
    (h : TW G c (eval v c.env) m N fun a m₁ N₁ => ∃ T u w ep, a = .ref T ∧ (T, tupOf [u, w].toArray ep) ∈ N₁ ∧ TW G c (storeName c.env y w) m₁ N₁ fun _ m₂ N₂ => TW G c (storeName c.env x u) m₂ N₂ fun _ m₃ N₃ => Q .next m₃ N₃)
    (hs : swapsWithSole [.Tuple elts k tp] v pos.line c.env = pure false) (hw : swappedStores [.Tuple elts k tp] v c.env = pure (some [x, y])) :
    TW G c (exec (.Assign [.Tuple elts k tp] v pos) c.env) m N Q := by
  have X : TW G c (eval v c.env) m N fun a m₁ N₁ => TW G c (unpackItems a 2 none) m₁ N₁ fun items m₂ N₂ => TW G c (assignInOrder [fun v => bindName c.env y v, fun v => bindName c.env x v] items.reverse) m₂ N₂ fun _ m₃ N₃ => Q .next m₃ N₃ :=
    h.mono fun a m₁ N₁ ⟨T, u, w, ep, e, hm, q₁⟩ => by
      subst e
      have Y : TW G c (assignInOrder [fun v => bindName c.env y v, fun v => bindName c.env x v] [w, u]) m₁ N₁ (fun _ m N => Q .next m N) :=
        t_inorder (t_bind (q₁.mono fun _ _ _ q₂ => t_inorder (t_bind (q₂.mono fun _ _ _ q₃ => t_inorder_nil q₃))))
      exact u_pair o hm Y
  refine ⟨fun s₀ s E P => ?_⟩
  with_reducible refine Assign_Tuple_swapped (names := [x, y]) (wpAny_mono (X.out s₀ s E P) ?_ fun _ _ e => e) hs hw
  rintro a s₁ ⟨m₁, N₁, p₁, q₁⟩
  show wpAny _ _ (unpackItems a 2 none) _ _ _
  with_reducible refine wpAny_mono (q₁.out s₀ s₁ E p₁) ?_ fun _ _ e => e
  rintro items s₂ ⟨m₂, N₂, p₂, q₂⟩
  show wpAny _ _ (assignInOrder [fun v => bindName c.env y v, fun v => bindName c.env x v] items.reverse) _ _ _
  exact q₂.outf (f := fun _ => Flow.next) p₂
theorem t_augS {ob i v : Expr} {tp : Pos} {op : Operator} {Q : Flow → Loc → Cells → Prop}
    (h : TW G c (eval ob c.env) m N fun a m₁ N₁ => TW G c (eval i c.env) m₁ N₁ fun b m₂ N₂ => TW G c (getItem a b) m₂ N₂ fun old m₃ N₃ => TW G c (eval v c.env) m₃ N₃ fun x m₄ N₄ => TW G c (inplaceOp op old x) m₄ N₄ fun new m₅ N₅ =>
      TW G c (setItem a b new) m₅ N₅ fun _ m₆ N₆ => Q .next m₆ N₆)
    (hi : ∀ ov iv new, augStore i ov iv new = (do holding [new, ov, iv] (setItem ov iv new); release [new, ov, iv] []; pure .next)) : TW G c (exec (.AugAssign (.Subscript ob i tp) op v pos) c.env) m N Q :=
  ⟨fun s₀ s E P => by
    with_reducible refine wpAny_AugAssign_SubscriptAny (wpAny_mono (h.out s₀ s E P) ?_ fun _ _ e => e) hi
    rintro a s₁ ⟨m₁, N₁, p₁, q₁⟩
    refine wpAny_mono (q₁.out s₀ s₁ E p₁) ?_ fun _ _ e => e
    rintro b s₂ ⟨m₂, N₂, p₂, q₂⟩
    refine wpAny_mono (q₂.out s₀ s₂ E p₂) ?_ fun _ _ e => e
    rintro old s₃ ⟨m₃, N₃, p₃, q₃⟩
    refine wpAny_mono (q₃.out s₀ s₃ E p₃) ?_ fun _ _ e => e
    rintro x s₄ ⟨m₄, N₄, p₄, q₄⟩
    refine wpAny_mono (q₄.out s₀ s₄ E p₄) ?_ fun _ _ e => e
    rintro new s₅ ⟨m₅, N₅, p₅, q₅⟩
    exact q₅.outf (f := fun _ => Flow.next) p₅⟩
/-- a < x < b as a test -/
theorem t_chain {l r₁ r₂ : Expr} {op₁ op₂ : CmpOp} {w : Sem Value} {Q : Bool → Loc → Cells → Prop}
    (h : TW G c (eval l c.env) m N fun a m₁ N₁ => TW G c (eval r₁ c.env) m₁ N₁ fun b m₂ N₂ => TW G c (compareOp op₁ a b) m₂ N₂ fun x m₃ N₃ => TW G c (truthy x) m₃ N₃ fun t m₄ N₄ =>
      if t = true then TW G c (eval r₂ c.env) m₄ N₄ fun d m₅ N₅ => TW G c (compareOp op₂ b d) m₅ N₅ fun y m₆ N₆ => TW G c (truthy y) m₆ N₆ Q else Q false m₄ N₄)
    (hm : lastMarks [op₁, op₂] [r₁, r₂] = false) : TW G c (isTrue (.Compare l [op₁, op₂] [r₁, r₂] pos) c.env w) m N Q :=
  ⟨fun s₀ s E P => by
    refine isTrue_chain (ops := []) (rs := []) (wpAny_mono (h.out s₀ s E P) ?_ fun _ _ e => e) hm
    rintro a s₁ ⟨m₁, N₁, p₁, q₁⟩
    refine test_link (wpAny_mono (q₁.out s₀ s₁ E p₁) ?_ fun _ _ e => e)
    rintro b s₂ ⟨m₂, N₂, p₂, q₂⟩
    refine wpAny_mono (q₂.out s₀ s₂ E p₂) ?_ fun _ _ e => e
    rintro x s₃ ⟨m₃, N₃, p₃, q₃⟩
    refine wpAny_mono (q₃.out s₀ s₃ E p₃) ?_ fun _ _ e => e
    rintro t s₄ ⟨m₄, N₄, p₄, q₄⟩
    cases t with
    | false => exact ⟨m₄, N₄, p₄, q₄⟩
    | true =>
      simp only [if_true] at q₄ ⊢
      show wpAny _ _ (testChain pos b [op₂] [eval r₂ c.env]) _ _ _
      refine test_last (wpAny_mono (q₄.out s₀ s₄ E p₄) ?_ fun _ _ e => e)
      rintro d s₅ ⟨m₅, N₅, p₅, q₅⟩
      refine wpAny_mono (q₅.out s₀ s₅ E p₅) ?_ fun _ _ e => e
      rintro y s₆ ⟨m₆, N₆, p₆, q₆⟩
      exact q₆.out s₀ s₆ E p₆⟩

-- calls
theorem a_listrange {R : Addr} {a b d : Int} {t u v : Tok} {k : Nat} {Q : Value → Loc → Cells → Prop} (o : Ok G n c) (hm : (R, rngOf a b d t u v) ∈ N) (hs : Builtin.Range.small a b d = true) (hk : Builtin.Range.rangeSize a b d = k) (hz : k ≤ 16777216)
    (h : ∀ D ys ep, Fresh D N → IntsAre ys ((List.range k).map fun (i : Nat) => a + i * d) → Q (.ref D) m ((D, listOf ys.toArray ep) :: N)) : TW G c (call (.type "list") [.ref R]) m N Q :=
  .raw fun s E Q' F N' q => by
    have hf := news_fresh N'
    refine call_list_range o.handled (N'.get hm) hs hk hz fun h' tk acc c' hkp hS hacc => ?_
    have N1 : News c.h₀ c.env.locals h' N := N'.grown hkp
    refine q _ h' tk _ _ (F.keeps hkp) ?_ (h s.heap.objs.size acc.toList c' hf ?_)
    · obtain ⟨oL, _, _, hL, _⟩ := F.ns
      intro p hp
      rcases List.mem_cons.mp hp with rfl | hp
      · refine ⟨by simpa using hS, Nat.ne_of_gt (Heap.lt_size hL), ?_⟩
        cases hq : c.h₀.get? s.heap.objs.size with
        | none => rfl
        | some o' => exact absurd (Heap.lt_size (F.keep _ _ hq)) (Nat.lt_irrefl _)
      · exact N1 p hp
    · have key : ∀ (l : List Value) (f : Nat → Int) (k : Nat), l.length = k → (∀ i v, l[i]? = some v → ∃ t, v = Value.int (f i) t) → IntsAre l ((List.range k).map f) := by
        intro l
        induction l with
        | nil => intro f k hl _; simp at hl; subst hl; exact .nil
        | cons v r ih =>
          intro f k hl hv
          cases k with
          | zero => simp at hl
          | succ k =>
            obtain ⟨t, rfl⟩ := hv 0 v rfl
            rw [List.range_succ_eq_map, List.map_cons, List.map_map]
            exact .cons _ t (ih (fun i => f (i + 1)) k (by simpa using hl) fun i v hi => hv (i + 1) v (by simpa using hi))
      exact key _ _ _ (by simpa using hacc.1) fun i v hi => hacc.2 i v (by simpa using hi)
theorem a_type {v : Value} {T : String} {Q : Value → Loc → Cells → Prop} (hT : ∀ s : Shared, News c.h₀ c.env.locals s.heap N → s.TypeIs v T) (hb : (Value.type T == Value.type "builtin_function_or_method") = false) (h : Q (.type T) m N) : TW G c (call (.type "type") [v]) m N Q :=
  .raw0 fun s E Q' F N' q => by with_reducible exact call_type_of (hT s N') hb (q _ s.toks h)
theorem o_istype {X Y : String} {Q : Value → Loc → Cells → Prop} (h : Q (.bool (Value.type X == Value.type Y)) m N) : TW G c (compareOp .Is (.type X) (.type Y)) m N Q :=
  .raw0 fun s E Q' F N' q => by with_reducible exact wpAny_is_plain rfl (q _ s.toks h)
theorem o_isnottype {X Y : String} {Q : Value → Loc → Cells → Prop} (h : Q (.bool (!(Value.type X == Value.type Y))) m N) : TW G c (compareOp .IsNot (.type X) (.type Y)) m N Q :=
  .raw0 fun s E Q' F N' q => by with_reducible exact wpAny_isNot_plain rfl (q _ s.toks h)
theorem a_iter {l : Addr} {vs : List Value} {ep : Nat} {Q : Value → Loc → Cells → Prop} (hm : (l, listOf vs.toArray ep) ∈ N) (h : ∀ I ob, Fresh I N → isLI l 0 ob → Q (.ref I) m ((I, ob) :: N)) : TW G c (call (.builtin "iter") [.ref l]) m N Q :=
  .raw fun s E Q' F N' q => by
    have hf := news_fresh N'
    refine call_function_entry (by decide +kernel) (by decide +kernel) kdk_entry_iter (kdk_args_iter _) ?_
    unfold Builtin.«iter»
    refine wpAny_bind (m := someArgs "iter" 1 2 _) (wpAny_of_eq (a := [Value.ref l]) (by first | rfl | kernel_rfl!) ?_)
    show wpAny _ _ (pyIter (.ref l) >>= _) _ _ _
    refine wpAny_bind (wpAny_pyIter_list (isList_of (N'.get hm)) ?_)
    exact wpAny_pure ⟨_, rfl, q _ _ s.toks _ _ (F.push _) (N'.push F _) (h _ _ hf ⟨rfl, rfl⟩)⟩
theorem a_next {I l : Addr} {ob : Obj} {vs : List Value} {ep i : Nat} {x : Value} {Q : Value → Loc → Cells → Prop} (hm : (I, ob) ∈ N) (hi : isLI l i ob) (hl : (l, listOf vs.toArray ep) ∈ N) (hx : vs[i]? = some x)
    (h : ∀ ob', isLI l (i + 1) ob' → Q x m (put I ob' N)) : TW G c (call (.builtin "next") [.ref I]) m N Q :=
  .raw fun s E Q' F N' q => by
    have hit : s.heap.IsListIter I l i := ⟨ob, N'.get hm, hi.1, hi.2⟩
    have hL := isList_of (N'.get hl)
    refine call_function_entry (by decide +kernel) (by decide +kernel) kdk_entry_next (kdk_args_next _) ?_
    unfold Builtin.«next»
    refine wpAny_bind (m := someArgs "next" 1 2 _) (wpAny_of_eq (a := [Value.ref I]) (by first | rfl | kernel_rfl!) ?_)
    dsimp only
    refine wpAny_bind (wpAny_specialOf (name := Str.ofString "__next__") hit.typeIs slot_listiter_next.lookup ?_)
    refine wpAny_ite_split (fun hab => absurd hab (by decide)) (fun _ => ?_)
    refine wpAny_bind (lsp_item hit hL (by simpa using hx) fun h' hit' hs => ?_)
    obtain ⟨ob', ho', hc', hd'⟩ := hit'
    obtain ⟨F1, N1⟩ := news_put F N' hm hs ho'
    exact wpAny_pure ⟨_, rfl, q _ h' s.toks _ _ F1 N1 (h ob' ⟨hc', hd'⟩)⟩
end

-- b11
section
variable {G : St} {c : Act} {n : Nat} {m : Loc} {N : Cells} {pos : Pos}

theorem LoopW.drop {code : Code} {Q : Flow → Loc → Cells → Prop} (h : LoopW G c code m N fun f m' N' => ∃ N'', (∀ p ∈ N'', p ∈ N') ∧ Q f m' N'') : LoopW G c code m N Q :=
  ⟨fun s₀ s P => codeAny_mono (h.out s₀ s P) fun r s' ⟨f, m', _, e, p', N'', hs, q⟩ => ⟨f, m', N'', e, p'.sub hs, q⟩⟩

/-- a turn's end where the cells may be dropped -/
def TurnD (I : Addr) (o : Obj) (Inv : Loc → Cells → Prop) (Q : Flow → Loc → Cells → Prop) : Flow → Loc → Cells → Prop := fun f m N => match f with
  | .next | .cont => ∃ N', (∀ p ∈ (I, o) :: N', p ∈ N) ∧ Inv m N'
  | .brk => ∃ N', (∀ p ∈ N', p ∈ N) ∧ Q .next m N'
  | .ret v => ∃ N', (∀ p ∈ N', p ∈ N) ∧ Q (.ret v) m N'
/-- a turn's end where the cells are N again -/
def TurnP (I : Addr) (o : Obj) (N : Cells) (Inv : Loc → Prop) (Q : Flow → Loc → Cells → Prop) : Flow → Loc → Cells → Prop := fun f m N' => match f with
  | .next | .cont => (∀ p ∈ (I, o) :: N, p ∈ N') ∧ Inv m
  | .brk => (∀ p ∈ N, p ∈ N') ∧ Q .next m N
  | .ret v => (∀ p ∈ N, p ∈ N') ∧ Q (.ret v) m N

theorem for_it {target : Expr} {body : List Stmt} {x : Value} {D : Cells} {k : Nat} {P : Nat → Value → Prop} {Q : Flow → Loc → Cells → Prop} (o : Ok G n c) (W : IterW G n c x m N target D k P)
    (Inv : Addr → Nat → Loc → Cells → Prop) (h0 : ∀ I, Fresh I N → Inv I 0 m N) (hD : ∀ I i m N, Inv I i m N → (∀ d ∈ D, d ∈ N) ∧ Fresh I N)
    (hb : ∀ I o' i m N v, i < k → Inv I i m N → P i v → ∀ Pb, Gen (TurnD I o' (Inv I (i + 1)) Q) Pb → TW G c (assign target c.env v) m ((I, o') :: N) fun _ m₁ N₁ => TW G c (execs body c.env) m₁ N₁ Pb)
    (hQ : ∀ I m N, Inv I k m N → Q .next m N) : ForW G c target body x m N Q := ⟨fun s₀ s E P₀ => by
  refine W.out s₀ s E _ P₀ fun I ob st s' p' hI hst hW _ => ?_
  have key : LoopW G c (.forLoop target (.ref I) body [] c.env) m ((I, ob) :: N) Q := by
    refine LoopW.drop ?_
    refine loop_for (hW c o) (Inv I) hst (h0 I hI) (fun i m N h => (hD I i m N h).1) (fun i m N h => (hD I i m N h).2) (fun i m N v o' hi h hP _ => ?_) (fun m N h => ⟨N, fun _ h => h, hQ I m N h⟩)
    refine (hb I o' i m N v hi h hP _ ⟨fun _ _ _ q => q⟩).mono fun _ m₁ N₁ h₁ => h₁.mono fun f m₂ N₂ h₂ => ?_
    cases f <;> exact h₂
  exact key.out s₀ s' p'⟩
/-- loops that leave the cells as they are -/
theorem for_itP {target : Expr} {body : List Stmt} {x : Value} {D : Cells} {k : Nat} {P : Nat → Value → Prop} {Q : Flow → Loc → Cells → Prop} (o : Ok G n c) (W : IterW G n c x m N target D k P) (hD : ∀ d ∈ D, d ∈ N)
    (Inv : Nat → Loc → Prop) (h0 : Inv 0 m)
    (hb : ∀ I o' i m v, i < k → Fresh I N → Inv i m → P i v → ∀ Pb, Gen (TurnP I o' N (Inv (i + 1)) Q) Pb → TW G c (assign target c.env v) m ((I, o') :: N) fun _ m₁ N₁ => TW G c (execs body c.env) m₁ N₁ Pb)
    (hQ : ∀ m, Inv k m → Q .next m N) : ForW G c target body x m N Q := by
  refine for_it o W (fun I i m' N' => N' = N ∧ Fresh I N ∧ Inv i m') (fun I hI => ⟨rfl, hI, h0⟩) (fun I i m' N' ⟨e, hI, _⟩ => by subst e; exact ⟨hD, hI⟩) (fun I o' i m' N' v hi ⟨e, hI, h⟩ hP Pb hPb => ?_) (fun I m' N' ⟨e, hI, h⟩ => by subst e; exact hQ m' h)
  subst e
  refine (hb I o' i m' v hi hI h hP _ ⟨fun _ _ _ q => q⟩).mono fun _ m₁ N₁ h₁ => h₁.mono fun f m₂ N₂ h₂ => hPb.h _ _ _ ?_
  cases f with
  | next => exact ⟨N', h₂.1, rfl, hI, h₂.2⟩
  | cont => exact ⟨N', h₂.1, rfl, hI, h₂.2⟩
  | brk => exact ⟨N', h₂.1, h₂.2⟩
  | ret v => exact ⟨N', h₂.1, h₂.2⟩

theorem small_of {a b d : Int} {k : Nat} (hk : Builtin.Range.rangeSize a b d = k) (hk1 : k ≤ 1000000000) (ha : -1000000000 ≤ a) (ha' : a ≤ 1000000000) (hb : -1000000000 ≤ b) (hb' : b ≤ 1000000000) (hd : -1000000000 ≤ d) (hd' : d ≤ 1000000000) : Builtin.Range.small a b d = true := by
  unfold Builtin.Range.small
  rw [hk]
  simp only [Builtin.Range.rangeFitsLong, Bool.and_eq_true, Bool.or_eq_true, decide_eq_true_eq, beq_iff_eq]
  refine ⟨⟨⟨⟨?_, ?_⟩, ?_⟩, ?_⟩, .inr ?_⟩
  any_goals omega
  split <;> simp <;> omega
theorem small_up {k : Nat} (h : k ≤ 1000000000) : Builtin.Range.small 0 (k : Int) 1 = true := by
  have hk : Builtin.Range.rangeSize 0 (k : Int) 1 = k := by
    unfold Builtin.Range.rangeSize
    rw [if_pos (by decide), Int.ediv_one]
    split <;> (first | walk_at "Z" | omega)
  exact small_of hk h (by decide) (by decide) (by (first | walk_at "Z" | omega)) (by (first | (revert h; walk_at "Z") | omega)) (by decide) (by decide)
theorem size_up (k : Nat) : Builtin.Range.rangeSize 0 (k : Int) 1 = k := by
  unfold Builtin.Range.rangeSize
  rw [if_pos (by decide), Int.ediv_one]
  split <;> (first | walk_at "Z" | omega)

end

-- b12
/-- some of the locals -/
def Has (m : Loc) (l : List (Str × Value)) : Prop := ∀ p ∈ l, m p.1 = some p.2
def put1 (x : Str) (v : Value) (l : List (Str × Value)) : List (Str × Value) := (x, v) :: l.filter fun p => !(p.1 == x)
theorem Has.nil {m : Loc} : Has m [] := by intro p hp; cases hp
theorem mem_of_lookup {x : Str} {v : Value} : ∀ {l : List (Str × Value)}, l.lookup x = some v → (x, v) ∈ l
  | [], h => by cases h
  | (y, u) :: r, h => by
    rw [List.lookup_cons] at h
    cases e : x == y with
    | true => rw [e] at h; simp only [Option.some.injEq] at h; subst h; rw [eq_of_beq e]; exact .head _
    | false => rw [e] at h; exact .tail _ (mem_of_lookup h)
theorem Has.get {m : Loc} {l : List (Str × Value)} (h : Has m l) {x : Str} {v : Value} (e : l.lookup x = some v) : m x = some v := h _ (mem_of_lookup e)
theorem Has.cons {m : Loc} {l r : List (Str × Value)} {x : Str} {v : Value} (h : Has m l) (e : l.lookup x = some v) (hr : Has m r) : Has m ((x, v) :: r) := by
  intro p hp
  rcases List.mem_cons.mp hp with rfl | hp
  · exact h.get e
  · exact hr p hp
theorem Has.set {m : Loc} {l : List (Str × Value)} (h : Has m l) (x : Str) (v : Value) : Has (fun y => if y = x then some v else m y) (put1 x v l) := by
  intro p hp
  rcases List.mem_cons.mp hp with rfl | hp
  · simp
  · obtain ⟨hp, hx⟩ := List.mem_filter.mp hp
    have : p.1 ≠ x := by simpa using hx
    simp only [if_neg this]; exact h p hp
def ndup : List (Str × Value) → Bool
  | [] => true
  | (x, _) :: r => (r.lookup x).isNone && ndup r
theorem lookup_of_mem : ∀ {l : List (Str × Value)} {x : Str} {v : Value}, (x, v) ∈ l → (l.lookup x).isSome = true
  | (y, u) :: r, x, v, h => by
    rw [List.lookup_cons]
    cases e : x == y with
    | true => rfl
    | false =>
      rcases List.mem_cons.mp h with h | h
      · cases h; simp at e
      · exact lookup_of_mem h
theorem ndup_nodup : ∀ {l : List (Str × Value)}, ndup l = true → (l.map (·.1)).Nodup
  | [], _ => List.nodup_nil
  | (x, v) :: r, h => by
    simp only [ndup, Bool.and_eq_true] at h
    refine List.nodup_cons.mpr ⟨fun hm => ?_, ndup_nodup h.2⟩
    obtain ⟨p, hp, e⟩ := List.mem_map.mp hm
    have := lookup_of_mem (l := r) (x := p.1) (v := p.2) hp
    rw [e] at this
    have h1 := h.1
    rw [Option.isNone_iff_eq_none] at h1
    rw [h1] at this; cases this
theorem Has.binds : ∀ {l : List (Str × Value)}, (l.map (·.1)).Nodup → Has (fun y => l.reverse.lookup y) l := by
  intro l hnd p hp
  have hmem : (p.1, p.2) ∈ l.reverse := List.mem_reverse.mpr hp
  have hnd' : (l.reverse.map (·.1)).Nodup := by rw [List.map_reverse]; exact List.pairwise_reverse.mpr (List.Pairwise.imp (fun h => Ne.symm h) hnd)
  have key : ∀ (r : List (Str × Value)), (r.map (·.1)).Nodup → ∀ x v, (x, v) ∈ r → r.lookup x = some v := by
    intro r
    induction r with
    | nil => intro _ x v h; cases h
    | cons q r ih =>
      intro hn x v h
      obtain ⟨y, u⟩ := q
      simp only [List.map_cons, List.nodup_cons] at hn
      rw [List.lookup_cons]
      rcases List.mem_cons.mp h with h | h
      · cases h; simp
      · have : x ≠ y := fun e => hn.1 (e ▸ List.mem_map_of_mem (f := (·.1)) h)
        have e : (x == y) = false := by simpa using this
        rw [e]; exact ih hn.2 x v h
  exact key _ hnd' _ _ hmem
section
variable {G : St} {c : Act} {n : Nat} {m : Loc} {N : Cells} {pos : Pos}

theorem t_localH {l : List (Str × Value)} {x : Str} {v : Value} {sc : Scope} {Q : Value → Loc → Cells → Prop} (hL : Has m l) (o : Ok G n c) (hs : c.env.scope = sc) (hv : l.lookup x = some v) (hl : sc.names.lookup x = some .local)
    (h : Q v m N) (hd : (x == ("__debug__" : Str)) = false) : TW G c (eval (.Name x pos) c.env) m N Q := t_local o (hL.get hv) (kind_of hs hl) h hd
theorem t_localnH {l : List (Str × Value)} {x : Str} {v : Value} {sc : Scope} {Q : Value → Loc → Cells → Prop} (hL : Has m l) (o : Ok G n c) (hs : c.env.scope = sc) (hv : l.lookup x = some v) (hl : sc.names.lookup x = some .local)
    (h : Q v m N) : TW G c (loadName c.env x) m N Q := t_localn o (hL.get hv) (kind_of hs hl) h
theorem t_storeH {l : List (Str × Value)} {x : Str} {v : Value} {sc : Scope} {Q : Unit → Loc → Cells → Prop} (hL : Has m l) (o : Ok G n c) (hs : c.env.scope = sc) (hl : sc.names.lookup x = some .local)
    (h : ∀ m', Has m' (put1 x v l) → Q () m' N) : TW G c (storeName c.env x v) m N Q := t_store o (kind_of hs hl) (h _ (hL.set x v))
theorem t_store0 {x : Str} {v : Value} {sc : Scope} {Q : Unit → Loc → Cells → Prop} (o : Ok G n c) (hs : c.env.scope = sc) (hl : sc.names.lookup x = some .local)
    (h : ∀ m', Has m' [(x, v)] → Q () m' N) : TW G c (storeName c.env x v) m N Q := t_store o (kind_of hs hl) (h _ (by simpa [put1] using (Has.nil (m := m)).set x v))
theorem t_callH {name qual : Str} {params : Arguments} {body : List Stmt} {scope : Scope} {dV kV doc pm cdv ct oc : Value} {an od : Option Addr} {osl : Array (Option Value)} {f : Addr} {args : List Value} {kw : List (Str × Value)} (binds : List (Str × Value)) {Q : Value → Loc → Cells → Prop}
    (o : Ok G (n + 1) c)
    (ho : G.K.lookup f = some ⟨oc, od, .func (fnOf name qual params body scope dV kV doc pm an cdv ct), osl⟩) (hcd : codeIn G.K cdv qual = true)
    (hbind : ∀ s : Shared, G.K.In s.heap → BindsTo s (fnOf name qual params body scope dV kV doc pm an cdv ct) ⟨args, kw⟩ binds)
    (hloc : ∀ y ∈ binds, scope.names.lookup y.1 = some .local) (hcell : ∀ x ∈ scope.names, x.2 ≠ .cell)
    (hco : scope.isCoroutine = false) (hgen : scope.isGenerator = false) (hk : scope.kind = .function) (hnd : ndup binds = true)
    (h : ∀ (c' : Act) (m' : Loc), c'.env.scope = scope → Ok G n c' → Has m' binds → TW G c' (execs body c'.env) m' N (fun fl _ N' => ∃ N'', (∀ p ∈ N'', p ∈ N') ∧ Q (retOf fl) m N'')) :
    TW G c (call (.ref f) args kw) m N Q := TW.drop (t_call o ho hcd hbind hloc hcell hco hgen hk fun c' hs o' => h c' _ hs o' (Has.binds (ndup_nodup hnd)))

/-- a def with one cell variable -/
theorem t_callC1 {name qual : Str} {params : Arguments} {body : List Stmt} {scope : Scope} {dV kV doc pm cdv ct oc : Value} {an od : Option Addr} {osl : Array (Option Value)} {f : Addr} {args : List Value} {kw : List (Str × Value)} (binds : List (Str × Value)) (x : Str) (lb : List (Str × Value)) {Q : Value → Loc → Cells → Prop}
    (o : Ok G (n + 1) c)
    (ho : G.K.lookup f = some ⟨oc, od, .func (fnOf name qual params body scope dV kV doc pm an cdv ct), osl⟩) (hcd : codeIn G.K cdv qual = true)
    (hbind : ∀ s : Shared, G.K.In s.heap → BindsTo s (fnOf name qual params body scope dV kV doc pm an cdv ct) ⟨args, kw⟩ binds)
    (hkind : (binds.all fun y => scope.names.lookup y.1 == some .local || scope.names.lookup y.1 == some .cell) = true)
    (hcs : ∀ L, cellsFrom L scope.names [] = [(x, L)])
    (hlb : Has (bindL (fun x => scope.names.lookup x) binds fun _ => none) lb)
    (hco : scope.isCoroutine = false) (hgen : scope.isGenerator = false) (hk : scope.kind = .function)
    (h : ∀ (c' : Act) (m' : Loc) (a : Addr) (ob : Obj), c'.env.scope = scope → Ok G n c' → Has m' lb → c'.env.cells = [(x, a)] → Fresh a N → ob.data = .cell (bindC (fun x => scope.names.lookup x) binds (fun _ => none) x) →
      TW G c' (execs body c'.env) m' ((a, ob) :: N) (fun fl _ N' => ∃ N'', (∀ p ∈ N'', p ∈ N') ∧ Q (retOf fl) m N'')) :
    TW G c (call (.ref f) args kw) m N Q := TW.drop (t_callC o ho hcd hbind hkind (by rw [hcs]; simp) hco hgen hk fun c' cs hs hc o' X hap => by
  rw [hc, hcs] at X
  obtain ⟨ob, rfl, hob⟩ := X.one
  exact h c' _ _ ob hs o' hlb (by rw [hc, hcs]) (fun p hp e => hap _ (.head _) p hp e.symm) hob)
theorem t_callC2 {name qual : Str} {params : Arguments} {body : List Stmt} {scope : Scope} {dV kV doc pm cdv ct oc : Value} {an od : Option Addr} {osl : Array (Option Value)} {f : Addr} {args : List Value} {kw : List (Str × Value)} (binds : List (Str × Value)) (x y : Str) (lb : List (Str × Value)) {Q : Value → Loc → Cells → Prop}
    (o : Ok G (n + 1) c)
    (ho : G.K.lookup f = some ⟨oc, od, .func (fnOf name qual params body scope dV kV doc pm an cdv ct), osl⟩) (hcd : codeIn G.K cdv qual = true)
    (hbind : ∀ s : Shared, G.K.In s.heap → BindsTo s (fnOf name qual params body scope dV kV doc pm an cdv ct) ⟨args, kw⟩ binds)
    (hkind : (binds.all fun y => scope.names.lookup y.1 == some .local || scope.names.lookup y.1 == some .cell) = true)
    (hcs : ∀ L, cellsFrom L scope.names [] = [(y, L + 1), (x, L)]) (hxy : y ≠ x)
    (hlb : Has (bindL (fun x => scope.names.lookup x) binds fun _ => none) lb)
    (hco : scope.isCoroutine = false) (hgen : scope.isGenerator = false) (hk : scope.kind = .function)
    (h : ∀ (c' : Act) (m' : Loc) (a b : Addr) (oa ob : Obj), c'.env.scope = scope → Ok G n c' → Has m' lb → c'.env.cells = [(y, b), (x, a)] → Fresh a N → Fresh b N → b ≠ a → oa.data = .cell (bindC (fun x => scope.names.lookup x) binds (fun _ => none) x) →
      ob.data = .cell (bindC (fun x => scope.names.lookup x) binds (fun _ => none) y) →
      TW G c' (execs body c'.env) m' ((b, ob) :: (a, oa) :: N) (fun fl _ N' => ∃ N'', (∀ p ∈ N'', p ∈ N') ∧ Q (retOf fl) m N'')) :
    TW G c (call (.ref f) args kw) m N Q := TW.drop (t_callC o ho hcd hbind hkind (by rw [hcs]; simpa using hxy) hco hgen hk fun c' cs hs hc o' X hap => by
  rw [hc, hcs] at X
  cases X with
  | cons h1 X =>
    cases X with
    | cons h2 X =>
      cases X with
      | nil =>
        exact h c' _ _ _ _ _ hs o' hlb (by rw [hc, hcs]) (fun p hp e => hap _ (.tail _ (.head _)) p hp e.symm) (fun p hp e => hap _ (.head _) p hp e.symm) (Nat.succ_ne_self _) h2 h1)
end

-- b13
/-- the cells of a heap, but for what h₀ holds and for C -/
def restOf (h h₀ : Heap) (C : Addr) : Cells := (List.range h.objs.size).filterMap fun b => match h.get? b with
  | some o => if b ≠ C ∧ (h₀.get? b).isNone = true then some (b, o) else none
  | none => none
theorem restOf_mem {h h₀ : Heap} {C b : Addr} {o : Obj} (e : h.get? b = some o) (hb : b ≠ C) (h0 : h₀.get? b = none) : (b, o) ∈ restOf h h₀ C := by
  unfold restOf
  refine List.mem_filterMap.mpr ⟨b, List.mem_range.mpr (Heap.lt_size e), ?_⟩
  rw [e]; simp [hb, h0]
theorem restOf_news {h h₀ : Heap} {C : Addr} : News h₀ C h (restOf h h₀ C) := by
  intro p hp
  unfold restOf at hp
  obtain ⟨b, _, e⟩ := List.mem_filterMap.mp hp
  cases q : h.get? b with
  | none => rw [q] at e; cases e
  | some o =>
    rw [q] at e
    simp only [] at e
    split at e
    · rename_i hc
      cases e
      exact ⟨q, hc.1, by simpa using hc.2⟩
    · cases e

section
variable {G : St} {A : Around} {env : Env} {hB : Heap} {R : GenEnd} {Y : Protocol} {k : Nat} {s₁ : Shared} {code : Code} {fs : List Frame} {n : Nat}

/-- the act of a generator's stretch -/
abbrev gAct (A : Around) (env : Env) (hB : Heap) (code : Code) (fs : List Frame) : Act := ⟨A.over code fs, env, hB⟩
/-- what a stretch has left as it was, but for the locals -/
structure Kept (hB : Heap) (C : Addr) (s s' : Shared) (m' : Loc) : Prop where
  F : Fr hB C s'.heap m'
  old : ∀ b o, b ≠ C → s.heap.get? b = some o → s'.heap.get? b = some o
  R : Rest s s'

theorem run_tw {α : Type} {t : Sem α} {s : Shared} {m : Loc} {Q : α → Loc → Cells → Prop} {E : Value → Shared → Prop} (F : Fr hB env.locals s.heap m)
    (h : TW G (gAct A env hB code fs) t m (restOf s.heap hB env.locals) fun a m' N' => (∀ p ∈ restOf s.heap hB env.locals, p ∈ N') ∧ Q a m' N') :
    wpAny (model G.prog G.w) (A.over code fs) t (fun a s' => ∃ m' N', Kept hB env.locals s s' m' ∧ News hB env.locals s'.heap N' ∧ Q a m' N') E s := by
  refine wpAny_mono (h.out s s _ ⟨F, restOf_news, Rest.refl s⟩) ?_ fun _ _ e => e
  rintro a s' ⟨m', N', p', hN, q⟩
  refine ⟨m', N', ⟨p'.F, fun b o hb e => ?_, p'.R⟩, p'.N, q⟩
  cases h0 : hB.get? b with
  | some o' =>
    have := F.keep _ _ h0
    rw [e] at this
    cases this
    exact p'.F.keep _ _ h0
  | none => exact (p'.N _ (hN _ (restOf_mem e hb h0))).1
theorem seg_tw {α : Type} {t : Sem α} {K : α → Sem Fin} {H : Value → Sem Fin} {gd lv} {s : Shared} {m : Loc} {Q : α → Loc → Cells → Prop} (F : Fr hB env.locals s.heap m)
    (h : TW G (gAct A env hB code fs) t m (restOf s.heap hB env.locals) fun a m' N' => (∀ p ∈ restOf s.heap hB env.locals, p ∈ N') ∧ Q a m' N')
    (hk : ∀ a m' N' s', Kept hB env.locals s s' m' → News hB env.locals s'.heap N' → Q a m' N' → Seg (model G.prog G.w) A R Y k s₁ code (K a) fs s') : Seg (model G.prog G.w) A R Y k s₁ code (t.wrap K H gd lv) fs s := by
  refine seg_wrap (wpAny_mono (h.out s s _ ⟨F, restOf_news, Rest.refl s⟩) ?_ fun _ _ e => e)
  rintro a s' ⟨m', N', p', hN, q⟩
  refine hk a m' N' s' ⟨p'.F, fun b o hb e => ?_, p'.R⟩ p'.N q
  cases h0 : hB.get? b with
  | some o' =>
    have := F.keep _ _ h0
    rw [e] at this
    cases this
    exact p'.F.keep _ _ h0
  | none => exact (p'.N _ (hN _ (restOf_mem e hb h0))).1

theorem seg_stmts {st : Stmt} {r : List Stmt} {K : Flow → Sem Fin} {H : Value → Sem Fin} {gd lv} {s : Shared} {m : Loc} {Q : Loc → Prop} (F : Fr hB env.locals s.heap m)
    (h : TW G (gAct A env hB code fs) (exec st env) m (restOf s.heap hB env.locals) fun f m' N' => f = .next ∧ (∀ p ∈ restOf s.heap hB env.locals, p ∈ N') ∧ Q m')
    (hk : ∀ m' s', Kept hB env.locals s s' m' → Q m' → Seg (model G.prog G.w) A R Y k s₁ code ((execs r env).wrap K H gd lv) fs s') :
    Seg (model G.prog G.w) A R Y k s₁ code ((execs (st :: r) env).wrap K H gd lv) fs s := by
  refine seg_execs_cons (seg_tw (Q := fun f m' _ => f = .next ∧ Q m') F (h.mono fun f m' N' ⟨e, h1, h2⟩ => ⟨h1, e, h2⟩) ?_)
  rintro f m' _ s' hK _ ⟨rfl, hq⟩
  exact hk m' s' hK hq

theorem seg_If {test : Expr} {y z : List Stmt} {pos : Pos} {K : Flow → Sem Fin} {H : Value → Sem Fin} {gd lv} {s : Shared} {m : Loc} {Q : Bool → Loc → Prop} (F : Fr hB env.locals s.heap m)
    (h : TW G (gAct A env hB code fs) (isTrue test env (eval test env)) m (restOf s.heap hB env.locals) fun b m' N' => (∀ p ∈ restOf s.heap hB env.locals, p ∈ N') ∧ Q b m')
    (hk : ∀ b m' s', Kept hB env.locals s s' m' → Q b m' → Seg (model G.prog G.w) A R Y k s₁ code ((execs (if b = true then y else z) env).wrap K H gd lv) fs s') :
    Seg (model G.prog G.w) A R Y k s₁ code ((exec (.If test y z pos) env).wrap K H gd lv) fs s := by
  rw [exec_If]
  show Seg _ A R Y k s₁ code (.at pos fun _ => (isTrue test env (eval test env) >>= fun b => if b = true then execs y env else execs z env).wrap K H gd lv) fs s
  refine seg_at ?_
  rw [Sem.bind_eq_wrap', Sem.wrap_wrap]
  refine seg_tw (Q := fun b m' _ => Q b m') F h fun b m' _ s' hK _ hq => ?_
  have := hk b m' s' hK hq
  cases b <;> exact this

theorem seg_forTurn {target : Expr} {body : List Stmt} {it : Value} {s : Shared}
    (h : ∀ E, wpAny (model G.prog G.w) (A.over (.forLoop target it body [] env) fs) (pyNext it) (fun r s' => match r with
      | none => Seg (model G.prog G.w) A R Y k s₁ (.forLoop target it body [] env) (.pure (.again (.block [] env))) fs s'
      | some v => ∀ E, wpAny (model G.prog G.w) (A.over (.forLoop target it body [] env) fs) (letOwnedTupleGo target it v) (fun _ s₂ => ∀ E, wpAny (model G.prog G.w) (A.over (.forLoop target it body [] env) fs) (assign target env v) (fun _ s₃ =>
          ∀ H', Seg (model G.prog G.w) A R Y k s₁ (.forLoop target it body [] env) ((execs body env).wrap (fun f => match f with
            | .next | .cont => .pure (.again (.forLoop target it body [] env))
            | .brk => .pure (.done .next)
            | .ret v => .pure (.done (.ret v))) H' id id) fs s₃) E s₂) E s') E s) :
    Seg (model G.prog G.w) A R Y k s₁ (.forLoop target it body [] env) ((model G.prog G.w).den (.forLoop target it body [] env)) fs s := by
  show Seg _ A R Y k s₁ _ ((forTurn target it body [] env).onRaise (fun x => do noteFrame x env; theTreesLotGoes x)) fs s
  unfold forTurn
  rw [Sem.onRaise_eq_wrap]
  refine seg_bind_wrap (wpAny_standAt (seg_bind_wrap (wpAny_onRaise (wpAny_mono (h _) (fun r s' hr => ?_) fun _ _ e => wpAny_standAt e))))
  cases r with
  | none => exact hr
  | some v =>
    refine seg_bind_wrap (wpAny_mono (hr _) (fun _ s₂ h₂ => ?_) fun _ _ e => e)
    refine seg_bind_wrap (wpAny_mono (h₂ _) (fun _ s₃ h₃ => ?_) fun _ _ e => e)
    rw [Sem.bind_eq_wrap', Sem.wrap_wrap]
    have := h₃ (fun e => ((do noteFrame e env; theTreesLotGoes e : Sem Unit).bind fun _ => .raise e))
    refine Eq.mp (congrArg (fun t => Seg (model G.prog G.w) A R Y k s₁ (.forLoop target it body [] env) t fs s₃) ?_) this
    exact Sem.wrap_congr _ _ _ (fun f => by cases f <;> rfl) (fun _ => rfl)

theorem seg_For {target iter : Expr} {body : List Stmt} {pos : Pos} {K : Flow → Sem Fin} {H : Value → Sem Fin} {gd lv} {s : Shared} (hf : ∀ x, foldedSetIterable iter env x = pure x)
    (h : ∀ E, wpAny (model G.prog G.w) (A.over code fs) (eval iter env) (fun x s' => ∀ E, wpAny (model G.prog G.w) (A.over code fs) (pyIter x) (fun it s₂ =>
      ∀ p K', (∀ k' s₁' s₃, Seg (model G.prog G.w) A R Y k' s₁' code (K .next) fs s₃ → Seg (model G.prog G.w) A R Y k' s₁' code (K' (.ok .next)) fs s₃) →
        Seg (model G.prog G.w) A R Y k s₁ (.forLoop target it body [] env) ((model G.prog G.w).den (.forLoop target it body [] env)) (.ret K' none (gd false) (lv []) code p [] :: fs) s₂) E s') E s) :
    Seg (model G.prog G.w) A R Y k s₁ code ((exec (.For target iter body [] pos) env).wrap K H gd lv) fs s := by
  rw [exec_For]
  refine seg_bind_wrap (wpAny_standAt (seg_bind_wrap (wpAny_mono (h _) (fun x s' hx => ?_) fun _ _ e => e)))
  refine seg_bind_wrap (wpAny_of_eq (hf x) (seg_bind_wrap (wpAny_standAt (seg_bind_wrap (wpAny_holding (wpAny_mono (hx _) (fun it s₂ h₂ => ?_) fun _ _ e => e))))))
  unfold runOwn
  refine seg_call fun p => h₂ p _ fun k' s₁' s₃ hs => ?_
  exact hs
end


-- b14
section
variable {prog : Program} {w : World} {A : Around} {E : Value → Shared → Prop} {s : Shared}
theorem next_genQ {a : Addr} {g n : Nat} {gs : GenState} {P : Nat → Shared → Shared → Prop} {Y : Protocol} {Q : Option Value → Shared → Prop} (hh : A.handled = none)
    (hl : s.heap.NoLimit) (hroom : A.depth < recursionLimit) (hg : s.heap.IsGen a g) (hgs : s.gens[g]? = some gs)
    (hgo : gs.Goes (model prog w) A.in1 (fun n s₀ r s₁ => r = .ok (.ret .none) ∧ P n s₀ s₁) Y n (.send .none) (s.setGen g .running))
    (hY : ∀ v s₁ gs', gs'.bare = true → Y (n - 1) (s.setGen g .running) v s₁ (fun r' s'' => match n with
        | 0 => False
        | m + 1 => gs'.Goes (model prog w) A.in1 (fun n s₀ r s₁ => r = .ok (.ret .none) ∧ P n s₀ s₁) Y m r' s'') → Q (some v) (s₁.setGen g gs'))
    (hP : ∀ s₁, P n (s.setGen g .running) s₁ → ∀ h', (∀ b o, s₁.heap.get? b = some o → h'.get? b = some o) → Q none { s₁.setGen g .finished with heap := h' }) :
    wpAny (model prog w) A (pyNext (.ref a)) Q E s := by
  unfold pyNext
  refine wpAny_bind (wpAny_attempt (wpAny_callSpecial?_slot (name := Str.ofString "__next__") hg.typeIs slot_gen_next
    (wpAny_call_entry slot_gen_next hg.typeIs entry_gen_next ?_ (args_gen_next _))))
  show wpAny _ _ (Builtin.Generator.genWake (.ref a) (.send .none)) _ _ s
  unfold Builtin.Generator.genWake
  refine wpAny_bind (wpAny_holding (wpAny_genNumber hg (wpAny_bind (wpAny_genState hgs ?_))))
  cases gs with
  | running => exact hgo.elim
  | finished => exact hgo.elim
  | _ =>
    refine wpAny_bind (wpAny_roomToWake hl hroom ?_)
    show wpAny _ _ (.resume g (.send .none) [] _) _ _ s
    refine wpAny_resumeQ hgs hgo (fun x s₁ hx => ?_) (fun v s₁ gs' hb hv => ?_)
    · obtain ⟨rfl, hp⟩ := hx
      show wpAny _ _ (newExc (.type "StopIteration") [] >>= _) _ _ _
      refine wpAny_bind ?_
      simp only [newExc, newTuple]
      refine wpAny_bind (wpAny_newObj_type ?_ (by size_fits))
      refine wpAny_bind (m := firstArgMember _ _) (wpAny_of_eq (a := Value.none) (by first | rfl | (simp only [firstArgMember]; rfl)) ?_)
      refine wpAny_newObj_type ?_ (by size_fits)
      simp only [raiseNew]
      refine wpAny_bind (wpAny_bind (wpAny_handled ?_))
      rw [show A.in1.handled = none from hh]
      refine wpAny_throw ?_
      refine wpAny_bind (wpAny_isInstance (T := "StopIteration") (b := true) ⟨_, Heap.get?_push_size _ rfl, rfl⟩ isSubtype_stop ?_)
      exact wpAny_pure (hP s₁ hp _ fun b o hb => Heap.get?_push_of_some _ (Heap.get?_push_of_some _ hb))
    · exact wpAny_pure ⟨v, rfl, wpAny_pure (hY v s₁ gs' hb hv)⟩
end

def gSince (C e it : Addr) (s₁ s : Shared) : Prop := Rest s₁ s ∧ ∀ b o, b ≠ C → b ≠ e → b ≠ it → s₁.heap.get? b = some o → s.heap.get? b = some o
theorem gSince.refl {C e it : Addr} {s : Shared} : gSince C e it s s := ⟨Rest.refl s, fun _ _ _ _ _ e => e⟩
def gR (C e it : Addr) : Nat → Shared → Shared → Prop := fun n s₁ s => n = 0 ∧ gSince C e it s₁ s
def gY (hB : Heap) (C e it : Addr) (items : List (Nat × List Nat)) : Protocol := fun k s₁ v s κ =>
  (∃ T p ch t u ep, v = .ref T ∧ s₁.heap.get? T = none ∧ T ≠ e ∧ T ≠ it ∧ T ≠ C ∧ s.heap.get? T = some (tupOf [.int (p : Nat) t, .str (S ch) u].toArray ep) ∧ items[items.length - 1 - k]? = some (p, ch)) ∧ gSince C e it s₁ s ∧
  (∃ oC oe oit, s.heap.get? C = some oC ∧ s.heap.get? e = some oe ∧ s.heap.get? it = some oit) ∧
  ∀ s'' : Shared, (∀ b, b = C ∨ b = e ∨ b = it → ∀ o, s.heap.get? b = some o → s''.heap.get? b = some o) → (∀ b o, hB.get? b = some o → s''.heap.get? b = some o) → κ (.send .none) s''

theorem rest_size {s₀ s : Shared} (R : Rest s₀ s) : s₀.gens.size ≤ s.gens.size := by
  rcases Nat.eq_zero_or_pos s₀.gens.size with h | h
  · (first | (revert h; walk_at "Z") | omega)
  · have := R.gens (s₀.gens.size - 1) (s₀.gens[s₀.gens.size - 1]'(by (first | (revert h; walk_at "Z") | omega))) (by simp)
    have := (Array.getElem?_eq_some_iff.mp this).1
    (first | (revert this; walk_at "Z") | omega)
theorem rest_setGen {s₀ s : Shared} {g : Nat} {gs : GenState} (R : Rest s₀ s) (hg : s₀.gens.size ≤ g) (hb : gs.bare = true) : Rest s₀ (s.setGen g gs) := by
  refine ⟨R.os, fun g' st e => ?_, fun ha y hy => ?_⟩
  · have h1 := R.gens g' st e
    have h2 := (Array.getElem?_eq_some_iff.mp e).1
    show (s.gens.setIfInBounds g gs)[g']? = some st
    rw [Array.getElem?_setIfInBounds_ne (by (first | (revert h2 hg; walk_at "Z") | omega))]; exact h1
  · have ha' := R.bare ha
    have hy' : y ∈ s.gens.setIfInBounds g gs := hy
    rcases Array.mem_or_eq_of_mem_setIfInBounds hy' with h | h
    · exact ha' y h
    · subst h; exact hb

def GenOb (g : Nat) (o : Obj) : Prop := o.cls = .type "generator" ∧ (∃ nm qn, o.data = .fields #[.int g 0, nm, qn]) ∧ o.slots = #[]
theorem GenOb.isGen {h : Heap} {a : Addr} {g : Nat} {o : Obj} (x : GenOb g o) (e : h.get? a = some o) : h.IsGen a g := by
  obtain ⟨hc, ⟨nm, qn, hd⟩, hs⟩ := x
  exact ⟨o, nm, qn, e, hc, hd, hs⟩
/-- what is known of a generator between its stretches -/
inductive GSt (G : St) (c : Act) (code : Code) (items : List (Nat × List Nat)) (ga g C : Addr) : Nat → Cells → Shared → Prop
  | fresh {oga oC : Obj} {s : Shared} : GenOb g oga → s.gens[g]? = some (.fresh code) → s.heap.get? ga = some oga → s.heap.get? C = some oC →
      (∀ s' : Shared, s'.heap.get? C = some oC → (∀ b o, c.h₀.get? b = some o → s'.heap.get? b = some o) →
        Seg (model G.prog G.w) c.A.in1 (fun n s₀ r s₁ => r = .ok (.ret .none) ∧ gR C (s'.heap.objs.size + 1) s'.heap.objs.size n s₀ s₁) (gY c.h₀ C (s'.heap.objs.size + 1) s'.heap.objs.size items) items.length s' code ((model G.prog G.w).den code) [] s') →
      GSt G c code items ga g C 0 [(ga, oga), (C, oC)] s
  | susp {j : Nat} {e it : Addr} {oga oC oe oit : Obj} {gs : GenState} {s : Shared} : GenOb g oga → j < items.length → e ≠ ga → it ≠ ga → s.gens[g]? = some gs → s.heap.get? ga = some oga → s.heap.get? C = some oC → s.heap.get? e = some oe → s.heap.get? it = some oit →
      (∀ s' : Shared, s'.heap.get? C = some oC → s'.heap.get? e = some oe → s'.heap.get? it = some oit → (∀ b o, c.h₀.get? b = some o → s'.heap.get? b = some o) →
        gs.Goes (model G.prog G.w) c.A.in1 (fun n s₀ r s₁ => r = .ok (.ret .none) ∧ gR C e it n s₀ s₁) (gY c.h₀ C e it items) (items.length - (j + 1)) (.send .none) s') →
      GSt G c code items ga g C (j + 1) [(ga, oga), (C, oC), (e, oe), (it, oit)] s

theorem GSt.keeps {G : St} {c : Act} {code : Code} {items : List (Nat × List Nat)} {ga g C : Addr} {j : Nat} {Own : Cells} {s s' : Shared} (x : GSt G c code items ga g C j Own s) (hO : ∀ p ∈ Own, s'.heap.get? p.1 = some p.2) (hg : ∀ st, s.gens[g]? = some st → s'.gens[g]? = some st) :
    GSt G c code items ga g C j Own s' := by
  cases x with
  | fresh h0 h1 h2 h3 h4 => exact .fresh h0 (hg _ h1) (hO _ (.head _)) (hO _ (.tail _ (.head _))) h4
  | susp h0 hj i1 i2 h1 h2 h3 h4 h5 h6 => exact .susp h0 hj i1 i2 (hg _ h1) (hO _ (.head _)) (hO _ (.tail _ (.head _))) (hO _ (.tail _ (.tail _ (.head _)))) (hO _ (.tail _ (.tail _ (.tail _ (.head _))))) h6
theorem GSt.bound {G : St} {c : Act} {code : Code} {items : List (Nat × List Nat)} {ga g C : Addr} {j : Nat} {Own : Cells} {s : Shared} (x : GSt G c code items ga g C j Own s) : j ≤ items.length := by
  cases x with
  | fresh => exact Nat.zero_le _
  | susp _ hj => exact hj

section
variable {G : St} {c : Act} {n : Nat} {m : Loc} {N : Cells} {code : Code} {items : List (Nat × List Nat)} {ga g C e it : Addr} {j : Nat}

/-- what one stretch of a generator leaves -/
def GNext (G : St) (c : Act) (m : Loc) (N : Cells) (code : Code) (items : List (Nat × List Nat)) (ga g C : Addr) (j : Nat) (s₀ : Shared) (r : Option Value) (s' : Shared) : Prop := match r with
  | none => j = items.length ∧ Pre c m N s₀ s'
  | some v => ∃ T p ch t u ep Own', v = .ref T ∧ items[j]? = some (p, ch) ∧ Pre c m ((T, tupOf [.int (p : Nat) t, .str (S ch) u].toArray ep) :: (Own' ++ N)) s₀ s' ∧ Fresh T (Own' ++ N) ∧ (∀ p ∈ Own', Fresh p.1 N) ∧ GSt G c code items ga g C (j + 1) Own' s'

theorem gen_core {s₀ s : Shared} {E : Value → Shared → Prop} {gs : GenState} {oga : Obj} (o : Ok G n c) (P : Pre c m N s₀ s) (hga : s.heap.get? ga = some oga) (hgo : GenOb g oga) (hgaN : c.h₀.get? ga = none ∧ ga ≠ c.env.locals ∧ Fresh ga N) (hgs : s.gens[g]? = some gs) (hg : s₀.gens.size ≤ g) (hj : j ≤ items.length)
    (hown : ∀ x, x = C ∨ x = e ∨ x = it → c.h₀.get? x = none ∧ x ≠ c.env.locals ∧ Fresh x N ∧ x ≠ ga)
    (H : gs.Goes (model G.prog G.w) c.A.in1 (fun n s₀ r s₁ => r = .ok (.ret .none) ∧ gR C e it n s₀ s₁) (gY c.h₀ C e it items) (items.length - j) (.send .none) (s.setGen g .running)) :
    wpAny (model G.prog G.w) c.A (pyNext (.ref ga)) (GNext G c m N code items ga g C j s₀) E s := by
  have hfr : ∀ s₁ : Shared, gSince C e it (s.setGen g .running) s₁ → ∀ gs' : GenState, gs'.bare = true → ∀ h', (∀ b o, s₁.heap.get? b = some o → h'.get? b = some o) → Pre c m ((ga, oga) :: N) s₀ { s₁.setGen g gs' with heap := h' } := by
    rintro s₁ ⟨hR, hold⟩ gs' hb h' hh
    have hk : ∀ b o, (¬ (b = C ∨ b = e ∨ b = it)) → s.heap.get? b = some o → h'.get? b = some o := fun b o hb e' => hh _ _ (hold b o (fun q => hb (.inl q)) (fun q => hb (.inr (.inl q))) (fun q => hb (.inr (.inr q))) e')
    have h0 : ∀ b o, c.h₀.get? b = some o → ¬ (b = C ∨ b = e ∨ b = it) := fun b o e' hx => by rw [(hown b hx).1] at e'; cases e'
    refine ⟨⟨?_, fun b o e' => hk b o (h0 b o e') (P.F.keep b o e'), P.F.above⟩, fun p hp => ?_, ?_⟩
    · obtain ⟨oL, es, ep, hL, r⟩ := P.F.ns
      exact ⟨oL, es, ep, hk _ _ (fun hx => (hown _ hx).2.1 rfl) hL, r⟩
    · rcases List.mem_cons.mp hp with rfl | hp
      · exact ⟨hk _ _ (fun hx => (hown _ hx).2.2.2 rfl) hga, hgaN.2.1, hgaN.1⟩
      · exact ⟨hk _ _ (fun hx => (hown _ hx).2.2.1 p hp rfl) (P.N p hp).1, (P.N p hp).2⟩
    · have R1 : Rest s₀ (s.setGen g .running) := rest_setGen P.R hg rfl
      have R2 := rest_setGen (R1.trans hR) hg hb
      exact ⟨R2.os, R2.gens, R2.bare⟩
  refine next_genQ o.handled (o.T.nolimit.keeps P.F.keep) o.room (hgo.isGen hga) hgs H (fun v s₁ gs' hb hv => ?_) (fun s₁ hp h' hh => ?_)
  · obtain ⟨⟨T, p, ch, t, u, ep, rfl, hT, hTe, hTi, hTC, hget, hitem⟩, hsin, ⟨oC, oe, oit, hC, he, hit⟩, hκ⟩ := hv
    have hlt : j < items.length := by
      rcases Nat.lt_or_ge j items.length with h | h
      · exact h
      · have e0 : items.length - j = 0 := by (first | (revert h; walk_at "Z") | omega)
        rw [e0] at hκ
        exact (hκ s₁ (fun b _ o e => e) (fun b o e' => (hfr s₁ hsin .finished rfl s₁.heap fun _ _ e => e).F.keep b o e')).elim
    have P1 := hfr s₁ hsin gs' hb s₁.heap fun _ _ e => e
    have hTs : s.heap.get? T = none := hT
    have hgsize : g < s₁.gens.size := by
      have h1 : (s.setGen g .running).gens[g]? = some .running := by
        show (s.gens.setIfInBounds g .running)[g]? = _
        have := (Array.getElem?_eq_some_iff.mp hgs).1
        simp [this]
      exact (Array.getElem?_eq_some_iff.mp (hsin.1.gens g _ h1)).1
    have hTN : ∀ b o, s.heap.get? b = some o → b ≠ T := fun b o e' q => by subst q; rw [hTs] at e'; cases e'
    have own3 : ∀ x ox, (x = C ∨ x = e ∨ x = it) → s₁.heap.get? x = some ox → (s₁.heap.get? x = some ox ∧ x ≠ c.env.locals ∧ c.h₀.get? x = none) := fun x ox hx e' => ⟨e', (hown x hx).2.1, (hown x hx).1⟩
    -- T is none of them
    have hsz : items.length - 1 - (items.length - j - 1) = j := by (first | (revert hlt; walk_at "Z") | omega)
    rw [hsz] at hitem
    have hT0 : c.h₀.get? T = none := by
      cases q : c.h₀.get? T with
      | none => rfl
      | some o' => exact absurd rfl (hTN _ _ (P.F.keep _ _ q))
    have hTL : T ≠ c.env.locals := by
      obtain ⟨oL, _, _, hL, _⟩ := P.F.ns
      exact fun q => hTN _ _ hL q.symm
    have hx : ¬ (T = C ∨ T = e ∨ T = it) := by rintro (h | h | h) <;> contradiction
    refine ⟨T, p, ch, t, u, ep, [(ga, oga), (C, oC), (e, oe), (it, oit)], rfl, hitem, ⟨P1.F, fun q hq => ?_, P1.R⟩, ?_, ?_, ?_⟩
    · rcases List.mem_cons.mp hq with rfl | hq
      · exact ⟨hget, hTL, hT0⟩
      · rcases List.mem_append.mp hq with hq | hq
        · simp only [List.mem_cons, List.not_mem_nil, or_false] at hq
          rcases hq with rfl | rfl | rfl | rfl
          · exact P1.N _ (.head _)
          · exact own3 _ _ (.inl rfl) hC
          · exact own3 _ _ (.inr (.inl rfl)) he
          · exact own3 _ _ (.inr (.inr rfl)) hit
        · exact P1.N _ (.tail _ hq)
    · intro q hq e'
      rcases List.mem_append.mp hq with hq | hq
      · simp only [List.mem_cons, List.not_mem_nil, or_false] at hq
        rcases hq with rfl | rfl | rfl | rfl
        · exact hTN _ _ hga e'
        · exact hx (.inl e'.symm)
        · exact hx (.inr (.inl e'.symm))
        · exact hx (.inr (.inr e'.symm))
      · exact hTN _ _ (P.N q hq).1 e'
    · intro q hq
      simp only [List.mem_cons, List.not_mem_nil, or_false] at hq
      rcases hq with rfl | rfl | rfl | rfl
      · exact hgaN.2.2
      · exact (hown _ (.inl rfl)).2.2.1
      · exact (hown _ (.inr (.inl rfl))).2.2.1
      · exact (hown _ (.inr (.inr rfl))).2.2.1
    · refine .susp (gs := gs') hgo hlt (hown _ (.inr (.inl rfl))).2.2.2 (hown _ (.inr (.inr rfl))).2.2.2 ?_ (P1.N _ (.head _)).1 hC he hit fun s' h1 h2 h3 h4 => ?_
      · show (s₁.gens.setIfInBounds g gs')[g]? = some gs'
        simp [hgsize]
      · have hk := hκ s' (fun b hb o e' => by
          rcases hb with rfl | rfl | rfl
          · rw [hC] at e'; cases e'; exact h1
          · rw [he] at e'; cases e'; exact h2
          · rw [hit] at e'; cases e'; exact h3) h4
        obtain ⟨k, hk1⟩ : ∃ k, items.length - j = k + 1 := ⟨items.length - j - 1, sub_one hlt⟩
        rw [hk1] at hk
        have hk2 : items.length - (j + 1) = k := sub_next hk1
        rw [hk2]; exact hk
  · obtain ⟨h0, hsin⟩ := hp
    have P1 := hfr s₁ hsin .finished rfl h' hh
    exact ⟨by (first | (revert h0 hj; walk_at "Z") | omega), P1.sub fun _ h => .tail _ h⟩
end

-- b15
section
variable {G : St} {c : Act} {n : Nat} {m : Loc} {N : Cells} {code : Code} {items : List (Nat × List Nat)} {ga g C : Addr} {j : Nat} {Own : Cells}

theorem Pre.fresh_of {s₀ s : Shared} (P : Pre c m N s₀ s) {x : Addr} (h : s.heap.objs.size ≤ x) : c.h₀.get? x = none ∧ x ≠ c.env.locals ∧ Fresh x N := by
  have hn : ∀ b o, s.heap.get? b = some o → b ≠ x := fun b o e q => by have := Heap.lt_size e; subst q; exact absurd this (Nat.not_lt.mpr h)
  refine ⟨?_, ?_, fun p hp => hn _ _ (P.N p hp).1⟩
  · cases q : c.h₀.get? x with
    | none => rfl
    | some o => exact absurd rfl (hn _ _ (P.F.keep _ _ q))
  · obtain ⟨oL, _, _, hL, _⟩ := P.F.ns
    exact fun q => hn _ _ hL q.symm

theorem gen_next {s₀ s : Shared} {E : Value → Shared → Prop} (o : Ok G n c) (P : Pre c m (Own ++ N) s₀ s) (hd : ∀ p ∈ Own, Fresh p.1 N) (hgC : C ≠ ga) (x : GSt G c code items ga g C j Own s) (hg : s₀.gens.size ≤ g) :
    wpAny (model G.prog G.w) c.A (pyNext (.ref ga)) (GNext G c m N code items ga g C j s₀) E s := by
  have hb := x.bound
  have PN : Pre c m N s₀ s := P.sub fun p hp => List.mem_append.mpr (.inr hp)
  cases x with
  | fresh h0 h1 h2 h3 h4 =>
    rename_i oga oC
    have z1 := P.N (ga, oga) (.head _)
    have z2 := P.N (C, oC) (.tail _ (.head _))
    have f1 := PN.fresh_of (x := s.heap.objs.size) (Nat.le_refl _)
    have f2 := PN.fresh_of (x := s.heap.objs.size + 1) (Nat.le_succ _)
    refine gen_core (e := s.heap.objs.size + 1) (it := s.heap.objs.size) o PN h2 h0 ⟨z1.2.2, z1.2.1, hd _ (.head _)⟩ h1 hg hb ?_ ⟨rfl, ?_⟩
    · rintro x (rfl | rfl | rfl)
      · exact ⟨z2.2.2, z2.2.1, hd _ (.tail _ (.head _)), hgC⟩
      · exact ⟨f2.1, f2.2.1, f2.2.2, fun q => by have := Heap.lt_size h2; rw [← q] at this; exact absurd this (Nat.not_lt.mpr (Nat.le_succ _))⟩
      · exact ⟨f1.1, f1.2.1, f1.2.2, fun q => by have := Heap.lt_size h2; rw [← q] at this; exact absurd this (Nat.lt_irrefl _)⟩
    · exact h4 (s.setGen g .running) h3 (fun b o e => P.F.keep b o e)
  | susp h0 hj i1 i2 h1 h2 h3 h4 h5 h6 =>
    rename_i e it oga oC oe oit gs
    have z1 := P.N (ga, oga) (.head _)
    have z2 := P.N (C, oC) (.tail _ (.head _))
    have z3 := P.N (e, oe) (.tail _ (.tail _ (.head _)))
    have z4 := P.N (it, oit) (.tail _ (.tail _ (.tail _ (.head _))))
    refine gen_core (e := e) (it := it) o PN h2 h0 ⟨z1.2.2, z1.2.1, hd _ (.head _)⟩ h1 hg hb ?_ (h6 (s.setGen g .running) h3 h4 h5 fun b o e => P.F.keep b o e)
    rintro x (rfl | rfl | rfl)
    · exact ⟨z2.2.2, z2.2.1, hd _ (.tail _ (.head _)), hgC⟩
    · exact ⟨z3.2.2, z3.2.1, hd _ (.tail _ (.tail _ (.head _))), i1⟩
    · exact ⟨z4.2.2, z4.2.1, hd _ (.tail _ (.tail _ (.tail _ (.head _)))), i2⟩

theorem GSt.head {s : Shared} (x : GSt G c code items ga g C j Own s) : ∃ oga r, Own = (ga, oga) :: r ∧ GenOb g oga := by
  cases x with
  | fresh h0 => exact ⟨_, _, rfl, h0⟩
  | susp h0 => exact ⟨_, _, rfl, h0⟩

/-- a for over a generator -/
theorem for_gen {target : Expr} {body : List Stmt} {Q : Flow → Loc → Cells → Prop} {s₀ s : Shared} {E : Value → Shared → Prop} (o : Ok G n c) (Inv : Nat → Loc → Cells → Prop) (hN : ∀ j m' N', Inv j m' N' → N'.map (·.1) = N.map (·.1)) (h0 : Inv 0 m N)
    (hb : ∀ j m' N' T p ch t u ep Own', items[j]? = some (p, ch) → Inv j m' N' → Fresh T (Own' ++ N') → (∀ q ∈ Own', Fresh q.1 N') →
      TW G c (assign target c.env (.ref T)) m' ((T, tupOf [.int (p : Nat) t, .str (S ch) u].toArray ep) :: (Own' ++ N')) fun _ m₁ N₁ => TW G c (execs body c.env) m₁ N₁ fun f m₂ N₂ => match f with
        | .next | .cont => ∃ N'', (∀ q ∈ Own' ++ N'', q ∈ N₂) ∧ Inv (j + 1) m₂ N''
        | .brk => ∃ N'', (∀ q ∈ N'', q ∈ N₂) ∧ Q .next m₂ N''
        | .ret v => ∃ N'', (∀ q ∈ N'', q ∈ N₂) ∧ Q (.ret v) m₂ N'')
    (hQ : ∀ m' N', Inv items.length m' N' → Q .next m' N')
    (P : Pre c m (Own ++ N) s₀ s) (hd : ∀ p ∈ Own, Fresh p.1 N) (hgC : C ≠ ga) (x : GSt G c code items ga g C 0 Own s) (hg : s₀.gens.size ≤ g) :
    wpAny (model G.prog G.w) c.A (pyIter (.ref ga)) (fun it s₂ => codeAny (model G.prog G.w) c.A (.forLoop target it body [] c.env) (AftR c s₀ Q) s₂) E s := by
  have hdis : ∀ {X N' : Cells}, (∀ q ∈ X, Fresh q.1 N) → N'.map (·.1) = N.map (·.1) → ∀ q ∈ X, Fresh q.1 N' := fun {X N'} h e q hq p hp => by
    have : p.1 ∈ N'.map (·.1) := List.mem_map_of_mem hp
    rw [e] at this
    obtain ⟨p', hp', e'⟩ := List.mem_map.mp this
    rw [← e']; exact h q hq p' hp'
  obtain ⟨oga, r, rfl, hob⟩ := x.head
  refine wpAny_pyIter_gen (hob.isGen (P.N _ (.head _)).1) ?_
  refine codeAny_forLoop_any (fun d s' => ∃ j m' N' Own', d = items.length - j ∧ Inv j m' N' ∧ Pre c m' (Own' ++ N') s₀ s' ∧ (∀ q ∈ Own', Fresh q.1 N) ∧ GSt G c code items ga g C j Own' s') ?_ _ ⟨0, m, N, _, rfl, h0, P, hd, x⟩
  rintro d s' ⟨j, m', N', Own', rfl, hI, P', hd', x'⟩
  refine wpAny_mono (gen_next o P' (hdis hd' (hN _ _ _ hI)) hgC x' hg) ?_ fun _ _ e => e
  intro r s₁ hr
  cases r with
  | none =>
    obtain ⟨hj, P₁⟩ := hr
    subst hj
    exact wpAny_execs_nil ⟨_, _, _, rfl, P₁, hQ _ _ hI⟩
  | some v =>
    obtain ⟨T, p, ch, t, u, ep, Own₁, rfl, hit, P₁, hT, hd₁, x₁⟩ := hr
    have hlt : j < items.length := (List.getElem?_eq_some_iff.mp hit).1
    obtain ⟨og, r₁, rfl, hob₁⟩ := x₁.head
    have hdN : ∀ q ∈ (ga, og) :: r₁, Fresh q.1 N := fun q hq => by
      intro p hp e'
      have : p.1 ∈ N.map (·.1) := List.mem_map_of_mem hp
      rw [← hN _ _ _ hI] at this
      obtain ⟨p', hp', e''⟩ := List.mem_map.mp this
      exact hd₁ q hq p' hp' (e''.trans e')
    have Ps : Pre c m' ((T, tupOf [.int (p : Nat) t, .str (S ch) u].toArray ep) :: ((ga, og) :: r₁ ++ N')) s₁ s₁ := ⟨P₁.F, P₁.N, Rest.refl _⟩
    have Pg : Pre c m' ((ga, og) :: ((T, tupOf [.int (p : Nat) t, .str (S ch) u].toArray ep) :: ((ga, og) :: r₁ ++ N'))) s₁ s₁ := Ps.sub fun q hq => by
      rcases List.mem_cons.mp hq with rfl | hq
      · exact .tail _ (.head _)
      · exact hq
    obtain ⟨hc1, ⟨nm, qn, hd1⟩, hs1⟩ := hob₁
    refine wpAny_mono ((go_plain (T := "generator") hc1 hd1 (by decide)).out s₁ s₁ _ Pg) ?_ fun _ _ e => e
    rintro _ s₂ ⟨m₂, _, P₂, em, rfl⟩
    rw [em] at P₂
    refine wpAny_mono ((hb j m' N' T p ch t u ep _ hit hI hT hd₁).out s₁ s₂ _ (P₂.sub fun q hq => .tail _ hq)) ?_ fun _ _ e => e
    rintro _ s₃ ⟨m₃, N₃, P₃, h₃⟩
    refine wpAny_mono (h₃.out s₁ s₃ _ P₃) ?_ fun _ _ e => e
    rintro f s₄ ⟨m₄, N₄, P₄, h₄⟩
    have hR : Rest s₀ s₄ := P₁.R.trans P₄.R
    have back : ∀ N'', (∀ q ∈ N'', q ∈ N₄) → Pre c m₄ N'' s₀ s₄ := fun N'' hs => ⟨P₄.F, fun q hq => P₄.N q (hs q hq), hR⟩
    have go : (∃ N'', (∀ q ∈ ((ga, og) :: r₁) ++ N'', q ∈ N₄) ∧ Inv (j + 1) m₄ N'') → ∃ d', d' < items.length - j ∧ ∃ j' m' N' Own', d' = items.length - j' ∧ Inv j' m' N' ∧ Pre c m' (Own' ++ N') s₀ s₄ ∧ (∀ q ∈ Own', Fresh q.1 N) ∧ GSt G c code items ga g C j' Own' s₄ := by
      rintro ⟨N'', hs, hI'⟩
      exact ⟨items.length - (j + 1), by (first | (revert hlt; walk_at "Z") | omega), j + 1, m₄, N'', (ga, og) :: r₁, rfl, hI', back _ hs, hdN, x₁.keeps (fun q hq => (P₄.N q (hs q (List.mem_append.mpr (.inl hq)))).1) (fun st e => P₄.R.gens g st e)⟩
    cases f with
    | next => exact go h₄
    | cont => exact go h₄
    | brk => obtain ⟨N'', hs, q⟩ := h₄; exact ⟨_, m₄, N'', rfl, back _ hs, q⟩
    | ret v => obtain ⟨N'', hs, q⟩ := h₄; exact ⟨_, m₄, N'', rfl, back _ hs, q⟩

/-- the act facts of a stretch -/
structure OkA (G : St) (n : Nat) (A : Around) (hB : Heap) : Prop where
  handled : A.handled = none
  depth : A.depth + 8 + 4 * n < 1000
  units : A.units + 10 + 20 * n < 9000
  X : G.K.In hB
  T : Top G.p G.loose G.mean G.mg G.mb hB
theorem OkA.func {A : Around} {hB : Heap} {env : Env} {body : List Stmt} (o : OkA G n A hB) (hk : env.scope.kind = .function) (hg : env.globals = mainGlobals) (hb : env.builtins = builtinsNs) : Ok G n (gAct A env hB (.func body env) []) :=
  ⟨o.X, o.T, by have := o.depth; show A.depth + 0 + 1 + 4 * n < 1000; (first | (revert this; walk_at "Z") | omega), by have := o.units; show A.units + 0 + 3 + 20 * n < 9000; (first | (revert this; walk_at "Z") | omega), o.handled, hk, hg, hb⟩
theorem OkA.loop {A : Around} {hB : Heap} {env : Env} {body b2 : List Stmt} {target : Expr} {it : Value} {K : Result → Sem Fin} {gd : Bool} {l : List Value} {p : Pos} {k : List Value} (o : OkA G n A hB) (hk : env.scope.kind = .function) (hg : env.globals = mainGlobals) (hb : env.builtins = builtinsNs) :
    Ok G n (gAct A env hB (.forLoop target it b2 [] env) [.ret K none gd l (.func body env) p k]) :=
  ⟨o.X, o.T, by have := o.depth; show A.depth + 1 + 0 + 4 * n < 1000; (first | (revert this; walk_at "Z") | omega), by have := o.units; show A.units + 3 + 0 + 20 * n < 9000; (first | (revert this; walk_at "Z") | omega), o.handled, hk, hg, hb⟩

/-- making the generator -/
theorem call_gen {name qual : Str} {params : Arguments} {body : List Stmt} {scope : Scope} {dV kV doc pm cdv ct oc : Value} {an od : Option Addr} {osl : Array (Option Value)} {f : Addr} {args : List Value} {binds : List (Str × Value)} {s₀ s : Shared} {E : Value → Shared → Prop}
    (o : Ok G (n + 2) c) (P : Pre c m N s₀ s)
    (ho : G.K.lookup f = some ⟨oc, od, .func (fnOf name qual params body scope dV kV doc pm an cdv ct), osl⟩) (hcd : codeIn G.K cdv qual = true)
    (hbind : ∀ s : Shared, G.K.In s.heap → BindsTo s (fnOf name qual params body scope dV kV doc pm an cdv ct) ⟨args, []⟩ binds)
    (hloc : ∀ y ∈ binds, scope.names.lookup y.1 = some .local) (hcell : ∀ x ∈ scope.names, x.2 ≠ .cell)
    (hco : scope.isCoroutine = false) (hgen : scope.isGenerator = true) (hk : scope.kind = .function)
    (hseg : ∀ (A : Around) (hB : Heap) (env : Env) (s' : Shared), env.scope = scope → env.globals = mainGlobals → env.builtins = builtinsNs → OkA G n A hB → Fr hB env.locals s'.heap (fun y => binds.reverse.lookup y) →
      Seg (model G.prog G.w) A (fun n s₀ r s₁ => r = .ok (.ret .none) ∧ gR env.locals (s'.heap.objs.size + 1) s'.heap.objs.size n s₀ s₁) (gY hB env.locals (s'.heap.objs.size + 1) s'.heap.objs.size items) items.length s' (.func body env) ((model G.prog G.w).den (.func body env)) [] s') :
    wpAny (model G.prog G.w) c.A (call (.ref f) args) (fun x s' => ∃ ga g C code Own, x = .ref ga ∧ Pre c m (Own ++ N) s₀ s' ∧ (∀ p ∈ Own, Fresh p.1 N) ∧ C ≠ ga ∧ GSt G c code items ga g C 0 Own s' ∧ s₀.gens.size ≤ g) E s := by
  have X := P.K o
  with_reducible refine wpAny_call ?_
  refine codeAny_call_generator (fd := fnOf name qual params body scope dV kV doc pm an cdv ct) (body := body) o.room (X _ _ ho) rfl hco hgen rfl (codeRec_of X hcd) (hbind s X _ _ _ _ ?_)
  refine wpAny_newFunctionEnv hcell hloc (fun h₁ hns hsb => ?_) hk
  have hlim := (o.T.nolimit.keeps P.F.keep).fresh _ hsb
  refine ⟨hlim, ?_⟩
  obtain ⟨oC, es, epC, hC, rC⟩ := hns
  have kp : ∀ b ob, s.heap.get? b = some ob → h₁.get? b = some ob := fun b ob e => hsb.extBut b ob (Nat.ne_of_lt (Heap.lt_size e)) (Heap.get?_push_of_some _ e)
  have hsz : h₁.objs.size = s.heap.objs.size + 1 := by rw [hsb.1, Heap.size_push]
  have f1 := P.fresh_of (x := s.heap.objs.size) (Nat.le_refl _)
  have f2 := P.fresh_of (x := h₁.objs.size) (by (first | (revert hsz; walk_at "Z") | omega))
  generalize hoga : ({ cls := .type "generator", data := .fields #[.int s.gens.size 0, .str name (s.toks + binds.length), .str qual (s.toks + binds.length + 1)] } : Obj) = oga
  have hga : (h₁.push oga).get? h₁.objs.size = some oga := Heap.get?_push_size _ (by rw [← hoga]; rfl)
  have hCo : (h₁.push oga).get? s.heap.objs.size = some oC := Heap.get?_push_of_some _ hC
  have kp2 : ∀ b ob, s.heap.get? b = some ob → (h₁.push oga).get? b = some ob := fun b ob e => Heap.get?_push_of_some _ (kp b ob e)
  have hne : s.heap.objs.size ≠ h₁.objs.size := by rw [hsz]; exact Nat.ne_of_lt (Nat.lt_succ_self _)
  have hgg : (s.gens.push (.fresh (.func body (callEnv (fnOf name qual params body scope dV kV doc pm an cdv ct) s.heap.objs.size f))))[s.gens.size]? = some (.fresh (.func body (callEnv (fnOf name qual params body scope dV kV doc pm an cdv ct) s.heap.objs.size f))) := by simp
  have fin : ∀ tk : Nat, ∃ ga g C code Own, Value.ref h₁.objs.size = .ref ga ∧ Pre c m (Own ++ N) s₀ { s with heap := h₁.push oga, toks := tk, gens := s.gens.push (.fresh (.func body (callEnv (fnOf name qual params body scope dV kV doc pm an cdv ct) s.heap.objs.size f))) } ∧ (∀ p ∈ Own, Fresh p.1 N) ∧ C ≠ ga ∧
      GSt G c code items ga g C 0 Own { s with heap := h₁.push oga, toks := tk, gens := s.gens.push (.fresh (.func body (callEnv (fnOf name qual params body scope dV kV doc pm an cdv ct) s.heap.objs.size f))) } ∧ s₀.gens.size ≤ g := by
    intro tk
    refine ⟨h₁.objs.size, s.gens.size, s.heap.objs.size, _, [(h₁.objs.size, oga), (s.heap.objs.size, oC)], rfl, ⟨⟨?_, fun b ob e => kp2 _ _ (P.F.keep b ob e), P.F.above⟩, ?_, ?_⟩, ?_, hne, .fresh (oga := oga) (oC := oC) ?_ hgg hga hCo ?_, rest_size P.R⟩
    · obtain ⟨oL, esL, epL, hL, r⟩ := P.F.ns
      exact ⟨oL, esL, epL, kp2 _ _ hL, r⟩
    · intro p hp
      rcases List.mem_append.mp hp with hp | hp
      · simp only [List.mem_cons, List.not_mem_nil, or_false] at hp
        rcases hp with rfl | rfl
        · exact ⟨hga, f2.2.1, f2.1⟩
        · exact ⟨hCo, f1.2.1, f1.1⟩
      · exact ⟨kp2 _ _ (P.N p hp).1, (P.N p hp).2⟩
    · refine ⟨P.R.os, fun g' st e => ?_, fun ha => ?_⟩
      · have h1 := P.R.gens g' st e
        have h2 := (Array.getElem?_eq_some_iff.mp h1).1
        show (s.gens.push _)[g']? = some st
        rw [Array.getElem?_push_lt h2]
        have := h1
        rw [Array.getElem?_eq_getElem h2] at this
        exact this
      · exact (P.R.bare ha).push rfl
    · intro p hp
      simp only [List.mem_cons, List.not_mem_nil, or_false] at hp
      rcases hp with rfl | rfl
      · exact f2.2.2
      · exact f1.2.2
    · rw [← hoga]; exact ⟨rfl, ⟨_, _, rfl⟩, rfl⟩
    · intro s' hC' hk'
      refine hseg c.A.in1 c.h₀ (callEnv (fnOf name qual params body scope dV kV doc pm an cdv ct) s.heap.objs.size f) s' rfl rfl rfl ⟨o.handled, ?_, ?_, o.X, o.T⟩ ⟨⟨oC, es, epC, hC', rC⟩, hk', ?_⟩
      · have := o.depth; show c.A.depth + 8 + 4 * n < 1000; (first | (revert this; walk_at "Z") | omega)
      · have := o.units; show c.A.units + 1 + 10 + 20 * n < 9000; (first | (revert this; walk_at "Z") | omega)
      · show c.h₀.objs.size ≤ s.heap.objs.size
        obtain ⟨oL, _, _, hL, _⟩ := P.F.ns
        exact Nat.le_of_lt (Nat.lt_of_le_of_lt P.F.above (Heap.lt_size hL))
  exact fin (s.toks + binds.length + 1 + 1)

/-- for .. in gen(name) -/
theorem t_ForGen {name qual : Str} {params : Arguments} {gbody : List Stmt} {scope : Scope} {dV kV doc pm cdv ct oc : Value} {an od : Option Addr} {osl : Array (Option Value)} {f : Addr} {a : Value} (binds : List (Str × Value)) {target : Expr} {body : List Stmt} {fx ax : Str} {p1 p2 cpos pos : Pos} {Q : Flow → Loc → Cells → Prop}
    (o : Ok G (n + 2) c) (h1 : TW G c (eval (.Name fx p1) c.env) m N fun v m' N' => v = .ref f ∧ m' = m ∧ N' = N) (h2 : TW G c (eval (.Name ax p2) c.env) m N fun v m' N' => v = a ∧ m' = m ∧ N' = N) (hf : keepIn G.K (.ref f) = true)
    (ho : G.K.lookup f = some ⟨oc, od, .func (fnOf name qual params gbody scope dV kV doc pm an cdv ct), osl⟩) (hcd : codeIn G.K cdv qual = true)
    (hbind : ∀ s : Shared, G.K.In s.heap → BindsTo s (fnOf name qual params gbody scope dV kV doc pm an cdv ct) ⟨[a], []⟩ binds)
    (hloc : ∀ y ∈ binds, scope.names.lookup y.1 = some .local) (hcell : ∀ x ∈ scope.names, x.2 ≠ .cell)
    (hco : scope.isCoroutine = false) (hgen : scope.isGenerator = true) (hk : scope.kind = .function)
    (hseg : ∀ (A : Around) (hB : Heap) (env : Env) (s' : Shared), env.scope = scope → env.globals = mainGlobals → env.builtins = builtinsNs → OkA G n A hB → Fr hB env.locals s'.heap (fun y => binds.reverse.lookup y) →
      Seg (model G.prog G.w) A (fun n s₀ r s₁ => r = .ok (.ret .none) ∧ gR env.locals (s'.heap.objs.size + 1) s'.heap.objs.size n s₀ s₁) (gY hB env.locals (s'.heap.objs.size + 1) s'.heap.objs.size items) items.length s' (.func gbody env) ((model G.prog G.w).den (.func gbody env)) [] s')
    (Inv : Nat → Loc → Cells → Prop) (hN : ∀ j m' N', Inv j m' N' → N'.map (·.1) = N.map (·.1)) (h0 : Inv 0 m N)
    (hb : ∀ j m' N' T p ch t u ep Own', items[j]? = some (p, ch) → Inv j m' N' → Fresh T (Own' ++ N') → (∀ q ∈ Own', Fresh q.1 N') →
      TW G c (assign target c.env (.ref T)) m' ((T, tupOf [.int (p : Nat) t, .str (S ch) u].toArray ep) :: (Own' ++ N')) fun _ m₁ N₁ => TW G c (execs body c.env) m₁ N₁ fun f m₂ N₂ => match f with
        | .next | .cont => ∃ N'', (∀ q ∈ Own' ++ N'', q ∈ N₂) ∧ Inv (j + 1) m₂ N''
        | .brk => ∃ N'', (∀ q ∈ N'', q ∈ N₂) ∧ Q .next m₂ N''
        | .ret v => ∃ N'', (∀ q ∈ N'', q ∈ N₂) ∧ Q (.ret v) m₂ N'')
    (hQ : ∀ m' N', Inv items.length m' N' → Q .next m' N') (hs : ∀ x, foldedSetIterable (.Call (.Name fx p1) [.Name ax p2] [] cpos) c.env x = pure x)
    (he : eval (.Call (.Name fx p1) [.Name ax p2] [] cpos) c.env = (do callWith cpos (← eval (.Name fx p1) c.env) [] (backTo cpos (starEach [.Name ax p2] c.env)) (backToKw cpos (keywordEach [] c.env)))) (he2 : starEach [.Name ax p2] c.env = (false, eval (.Name ax p2) c.env) :: starEach [] c.env) :
    TW G c (exec (.For target (.Call (.Name fx p1) [.Name ax p2] [] cpos) body [] pos) c.env) m N Q := ⟨fun s₀ s E P => by
  with_reducible refine wpAny_For (Call_ (wpAny_mono (h1.out s₀ s E P) ?_ fun _ _ e => e) he) hs
  rintro v s₁ ⟨m1, N1, p₁, ev, em, eN⟩
  rw [em, eN] at p₁
  rw [ev]
  have hsp : TW G c (spliced (backTo cpos (starEach [.Name ax p2] c.env))) m N fun vs m' N' => vs = [a] ∧ m' = m ∧ N' = N :=
    t_items (h2.mono fun v m' N' ⟨e1, e2, e3⟩ => by subst e1 e2 e3; exact t_items_nil ⟨rfl, rfl, rfl⟩) he2
  with_reducible refine callWith_K o.X hf (wpAny_mono (hsp.out s₀ s₁ E p₁) ?_ fun _ _ e => e) he2 rfl
  rintro vs s₂ ⟨m2, N2, p₂, evs, em2, eN2⟩
  rw [em2, eN2] at p₂
  refine ⟨p₂.K o, ?_⟩
  rw [evs]
  show wpAny _ _ (call (.ref f) [a]) _ _ _
  refine wpAny_mono (call_gen (items := items) o p₂ ho hcd hbind hloc hcell hco hgen hk hseg) ?_ fun _ _ e => e
  rintro x s₃ ⟨ga, g, C, code, Own, rfl, p₃, hd, hgC, hx, hg⟩
  refine wpAny_mono (for_gen (Q := Q) (o.mono (k := n) (by (first | walk_at "Z" | omega))) Inv hN h0 hb hQ p₃ hd hgC hx hg) (fun it s₄ h₄ => codeAny_mono h₄ ?_) fun _ _ e => e
  rintro r s' ⟨f', m', N', rfl, p', q'⟩
  exact ⟨m', N', p', q'⟩⟩

-- names, the heap as it was
theorem raw_bui {s : Shared} {E : Value → Shared → Prop} {Q : Value → Shared → Prop} {x : Str} {v : Value} {sc : Scope} {pos : Pos} (o : Ok G n c) (hs : c.env.scope = sc) (F : Fr c.h₀ c.env.locals s.heap m) (e : nsIn G.K mainGlobals x = some none) (hb : bootBuiltins x = some v) (hn : x ≠ "__name__") (hl : sc.names.lookup x = some .globalImplicit)
    (h : Q v s) (hd : (x == ("__debug__" : Str)) = false) : wpAny (model G.prog G.w) c.A (eval (.Name x pos) c.env) Q E s :=
  Name_function_global o.kind (kind_of hs hl) (loadGlobal_builtin (by rw [o.glob]; exact o.T.g.keeps F.keep) (mg_none_of o.X o.T.g e) (by rw [o.bui]; exact o.T.b.keeps F.keep) ((o.T.builtins x hn).trans hb) h) hd
theorem raw_local {s : Shared} {E : Value → Shared → Prop} {Q : Value → Shared → Prop} {x : Str} {v : Value} {sc : Scope} {pos : Pos} (o : Ok G n c) (hs : c.env.scope = sc) (F : Fr c.h₀ c.env.locals s.heap m) (hv : m x = some v) (hl : sc.names.lookup x = some .local)
    (h : Q v s) (hd : (x == ("__debug__" : Str)) = false) : wpAny (model G.prog G.w) c.A (eval (.Name x pos) c.env) Q E s :=
  wpAny_Name (wpAny_loadName_local o.kind (kind_of hs hl) F.ns hv h) hd
theorem raw_store {s : Shared} {E : Value → Shared → Prop} {Q : Unit → Shared → Prop} {x : Str} {v : Value} {sc : Scope} (o : Ok G n c) (hs : c.env.scope = sc) (F : Fr c.h₀ c.env.locals s.heap m) (hl : sc.names.lookup x = some .local)
    (h : ∀ h', Fr c.h₀ c.env.locals h' (fun y => if y = x then some v else m y) → Heap.SameBut c.env.locals s.heap h' → Q () { s with heap := h', toks := s.toks + 1 }) : wpAny (model G.prog G.w) c.A (storeName c.env x v) Q E s :=
  wpAny_storeName_local (kind_of hs hl) F.ns (fun h' hn hs => h h' (F.set hn hs) hs) (by rw [o.kind]; rfl)
end

-- b16
section
variable {G : St} {A : Around} {env : Env} {hB : Heap} {k : Nat} {s₁ : Shared} {code : Code} {fs : List Frame} {n : Nat} {e it : Addr} {x : List Nat} {tk : Tok} {items : List (Nat × List Nat)}

theorem drawsS (prog : Program) (w : World) {A : Around} (hh : A.handled = none) (it : Addr) (x : Str) (t : Tok) :
    Draws prog w A it [it] x.cps.size (fun i v => ∃ c u, x.cps[i]? = some c ∧ v = .str ⟨#[c]⟩ u) (fun i h => h.IsStrIter it (strIterType x) x t i) := by
  cases ha : x.cps.all (· < 128)
  · have : strIterType x = "str_iterator" := by simp [strIterType, ha]
    rw [this]; exact Draws.strWide hh it x t
  · have : strIterType x = "str_ascii_iterator" := by simp [strIterType, ha]
    rw [this]; exact Draws.strAscii hh it x t

/-- where a generator that runs over enumerate(x) stands -/
structure GI (hB : Heap) (C e it : Addr) (x : List Nat) (tk : Tok) (i : Nat) (s₁ s : Shared) (m : Loc) : Prop where
  F : Fr hB C s.heap m
  enum : ∃ old, IsEnum s.heap e it (i : Nat) old
  iter : s.heap.IsStrIter it (strIterType (S x)) (S x) tk i
  since : gSince C e it s₁ s
structure GA (hB : Heap) (C e it : Addr) : Prop where
  ei : e ≠ it
  Ce : C ≠ e
  Ci : C ≠ it
  be : hB.get? e = none
  bi : hB.get? it = none
  bC : hB.get? C = none

theorem gSince.kept {C e it : Addr} {s₁ s s' : Shared} {m : Loc} (h : gSince C e it s₁ s) (K : Kept hB C s s' m) : gSince C e it s₁ s' :=
  ⟨h.1.trans K.R, fun b o h1 h2 h3 e => K.old b o h1 (h.2 b o h1 h2 h3 e)⟩
theorem GI.kept {C : Addr} {i : Nat} {s s' : Shared} {m m' : Loc} (ga : GA hB C e it) (g : GI hB C e it x tk i s₁ s m) (K : Kept hB C s s' m') : GI hB C e it x tk i s₁ s' m' := by
  obtain ⟨old, he⟩ := g.enum
  obtain ⟨o, ho, r⟩ := g.iter
  exact ⟨K.F, ⟨old, K.old _ _ (Ne.symm ga.Ce) he⟩, ⟨o, K.old _ _ (Ne.symm ga.Ci) ho, r⟩, g.since.kept K⟩

/-- a yield of a pair -/
theorem seg_yieldY {ex : Expr} {ypos pos : Pos} {K : Flow → Sem Fin} {H : Value → Sem Fin} {lv} {i : Nat} {s : Shared} {m : Loc} {p : Nat} {ch : List Nat} (hh : A.handled = none) (ga : GA hB env.locals e it) (g : GI hB env.locals e it x tk i s₁ s m)
    (hfs : splitAtGen fs = none) (hfg : fs.any Frame.guarded = false) (hco : env.scope.isCoroutine = false) (hi : interactive env = false)
    (hitem : items[items.length - 1 - k]? = some (p, ch))
    (h : TW G (gAct A env hB code fs) (eval ex env) m (restOf s.heap hB env.locals) fun v m' N' => (∀ p ∈ restOf s.heap hB env.locals, p ∈ N') ∧ m' = m ∧ ∃ T t u ep, v = .ref T ∧ (T, tupOf [.int (p : Nat) t, .str (S ch) u].toArray ep) ∈ N' ∧ Fresh T (restOf s.heap hB env.locals))
    (hk : ∀ s'' : Shared, GI hB env.locals e it x tk i s'' s'' m → Seg (model G.prog G.w) A (fun n s₀ r s₁ => r = .ok (.ret .none) ∧ gR env.locals e it n s₀ s₁) (gY hB env.locals e it items) k s'' code (K .next) fs s'') :
    Seg (model G.prog G.w) A (fun n s₀ r s₁ => r = .ok (.ret .none) ∧ gR env.locals e it n s₀ s₁) (gY hB env.locals e it items) (k + 1) s₁ code ((exec (.Expr (.Yield (some ex) ypos) pos) env).wrap K H id lv) fs s := by
  refine seg_Expr_Yield hfs rfl hfg (wpAny_mono (run_tw g.F h) ?_ fun _ _ e => e) hco hi
  rintro v s' ⟨m', N', K', N₁, hm, T, t, u, ep, rfl, hT, hTf⟩ kap hkap
  subst hm
  have g' := g.kept ga K'
  have zT := N₁ _ hT
  obtain ⟨old, he'⟩ := g'.enum
  obtain ⟨oit, hit', rit⟩ := g'.iter
  obtain ⟨oC, esC, epC, hC', rC⟩ := g'.F.ns
  obtain ⟨old0, he0⟩ := g.enum
  obtain ⟨oit0, hit0, _⟩ := g.iter
  have nT : ∀ b o, b ≠ env.locals → s.heap.get? b = some o → b ≠ T := fun b o hb e' q => by
    subst q
    exact hTf _ (restOf_mem e' hb zT.2.2) rfl
  have hTe : T ≠ e := Ne.symm (nT _ _ (Ne.symm ga.Ce) he0)
  have hTi : T ≠ it := Ne.symm (nT _ _ (Ne.symm ga.Ci) hit0)
  refine ⟨⟨T, p, ch, t, u, ep, rfl, ?_, hTe, hTi, zT.2.1, zT.1, hitem⟩, g'.since, ⟨oC, _, oit, hC', he', hit'⟩, fun s'' hk1 hk2 => hkap _ _ ?_⟩
  · cases q : s₁.heap.get? T with
    | none => rfl
    | some o => exact absurd rfl (nT _ _ zT.2.1 (g.since.2 _ _ zT.2.1 hTe hTi q))
  · have := hk s'' ⟨⟨⟨oC, esC, epC, hk1 _ (.inl rfl) _ hC', rC⟩, hk2, g'.F.above⟩, ⟨old, hk1 _ (.inr (.inl rfl)) _ he'⟩, ⟨oit, hk1 _ (.inr (.inr rfl)) _ hit', rit⟩, gSince.refl⟩
    exact this

theorem seg_enum_loop {elts : List Expr} {kk : Nat} {tp : Pos} {body : List Stmt} (hh : ∀ c : Code, (A.over c fs).handled = none) (ga : GA hB env.locals e it)
    (Inv : Nat → Nat → Loc → Prop)
    (turn : ∀ i d k s₁ s m T t u ep, x[i]? = some d → Inv i k m → GI hB env.locals e it x tk (i + 1) s₁ s m → (∃ oT : Obj, s.heap.get? T = some oT ∧ oT.cls = .type "tuple" ∧ oT.data = .seq [.int (i : Nat) t, .str (S [d]) u].toArray ep) → T ≠ env.locals → hB.get? T = none →
      (∀ k' s₁' s' m', Inv (i + 1) k' m' → GI hB env.locals e it x tk (i + 1) s₁' s' m' →
        Seg (model G.prog G.w) A (fun n s₀ r s₁ => r = .ok (.ret .none) ∧ gR env.locals e it n s₀ s₁) (gY hB env.locals e it items) k' s₁' (.forLoop (.Tuple elts kk tp) (.ref e) body [] env) (.pure (.again (.forLoop (.Tuple elts kk tp) (.ref e) body [] env))) fs s') →
      ∀ E, wpAny (model G.prog G.w) (A.over (.forLoop (.Tuple elts kk tp) (.ref e) body [] env) fs) (assign (.Tuple elts kk tp) env (.ref T)) (fun _ s₃ =>
          ∀ H', Seg (model G.prog G.w) A (fun n s₀ r s₁ => r = .ok (.ret .none) ∧ gR env.locals e it n s₀ s₁) (gY hB env.locals e it items) k s₁ (.forLoop (.Tuple elts kk tp) (.ref e) body [] env) ((execs body env).wrap (fun f => match f with
            | .next | .cont => .pure (.again (.forLoop (.Tuple elts kk tp) (.ref e) body [] env))
            | .brk => .pure (.done .next)
            | .ret v => .pure (.done (.ret v))) H' id id) fs s₃) E s)
    (done : ∀ k s₁ s m, Inv x.length k m → Fr hB env.locals s.heap m → gSince env.locals e it s₁ s → Seg (model G.prog G.w) A (fun n s₀ r s₁ => r = .ok (.ret .none) ∧ gR env.locals e it n s₀ s₁) (gY hB env.locals e it items) k s₁ (.forLoop (.Tuple elts kk tp) (.ref e) body [] env) (.pure (.again (.block [] env))) fs s) :
    ∀ (d i k : Nat) (s₁ s : Shared) (m : Loc), d = x.length - i → i ≤ x.length → Inv i k m → GI hB env.locals e it x tk i s₁ s m →
      Seg (model G.prog G.w) A (fun n s₀ r s₁ => r = .ok (.ret .none) ∧ gR env.locals e it n s₀ s₁) (gY hB env.locals e it items) k s₁ (.forLoop (.Tuple elts kk tp) (.ref e) body [] env) ((model G.prog G.w).den (.forLoop (.Tuple elts kk tp) (.ref e) body [] env)) fs s := by
  have W := WalksT.enumerateD (A := A.over (.forLoop (.Tuple elts kk tp) (.ref e) body [] env) fs) (drawsS G.prog G.w (A := (A.over (.forLoop (.Tuple elts kk tp) (.ref e) body [] env) fs).in1) (hh (.forLoop (.Tuple elts kk tp) (.ref e) body [] env)) it (S x) tk) e ga.ei (by simpa using ga.ei) (by simp)
  have hxs : (S x).cps.size = x.length := by simp [S]
  rw [hxs] at W
  have frK : ∀ {s : Shared} {h' : Heap} {m : Loc}, Fr hB env.locals s.heap m → (∀ b o, b ∉ [e, it] → s.heap.get? b = some o → h'.get? b = some o) → Fr hB env.locals h' m := fun {s h' m} F hk => by
    refine ⟨?_, fun b o eb => hk b o (fun hb => ?_) (F.keep b o eb), F.above⟩
    · obtain ⟨oL, es, ep, hL, r⟩ := F.ns
      refine ⟨oL, es, ep, hk _ _ (fun hb => ?_) hL, r⟩
      simp only [List.mem_cons, List.not_mem_nil, or_false] at hb
      exact hb.elim ga.Ce ga.Ci
    · simp only [List.mem_cons, List.not_mem_nil, or_false] at hb
      rcases hb with rfl | rfl
      · rw [ga.be] at eb; cases eb
      · rw [ga.bi] at eb; cases eb
  have sinceK : ∀ {s₁ s : Shared} {h' : Heap} {tk' : Nat}, gSince env.locals e it s₁ s → (∀ b o, b ∉ [e, it] → s.heap.get? b = some o → h'.get? b = some o) → gSince env.locals e it s₁ { s with heap := h', toks := tk' } := fun {s₁ s h' tk'} hs hk =>
    ⟨⟨hs.1.os, hs.1.gens, hs.1.bare⟩, fun b o h1 h2 h3 eb => hk b o (by simp [h2, h3]) (hs.2 b o h1 h2 h3 eb)⟩
  intro d
  induction d with
  | zero =>
    intro i k s₁ s m hd hi hI g
    have : i = x.length := by (first | (revert hd hi; walk_at "Z") | omega)
    subst this
    refine seg_forTurn fun E => ?_
    refine W.done s _ E ⟨g.enum, g.iter⟩ fun h' tk' hk => ?_
    exact done k s₁ _ m hI (frK g.F hk) (sinceK g.since hk)
  | succ d ih =>
    intro i k s₁ s m hd hi hI g
    have hlt : i < x.length := by (first | (revert hd; walk_at "Z") | omega)
    refine seg_forTurn fun E => ?_
    refine W.item i s _ E hlt ⟨g.enum, g.iter⟩ fun T vals h' tk' hP hTge hT hMid hk => ?_
    intro E'
    refine W.go elts kk tp i T _ _ E' hMid fun h'' hst hk2 => ?_
    intro E''
    obtain ⟨t, v, ⟨dd, u, hdd, rfl⟩, rfl⟩ := hP
    have hdd' : x[i]? = some dd := by simpa [S] using hdd
    have kk2 : ∀ b o, b ∉ [e, it] → s.heap.get? b = some o → h''.get? b = some o := fun b o hb eb => hk2 b o hb (hk b o hb eb)
    obtain ⟨oT, hoT, hcT, nT, hdT⟩ := hT
    have hTw : T ∉ [e, it] := W.apart i T _ hMid
    have hTn : ∀ b o, s.heap.get? b = some o → b ≠ T := fun b o eb q => by
      have := Heap.lt_size eb; subst q; exact absurd this (Nat.not_lt.mpr hTge)
    refine turn i dd k s₁ _ m T t u nT hdd' hI ⟨frK g.F kk2, hst.1, hst.2, sinceK g.since kk2⟩ ⟨oT, hk2 _ _ hTw hoT, hcT, hdT⟩ ?_ ?_ (fun k' s₁' s' m' hI' g' => ?_) E''
    · obtain ⟨oL, _, _, hL, _⟩ := g.F.ns
      exact fun q => hTn _ _ hL q.symm
    · cases q : hB.get? T with
      | none => rfl
      | some o => exact absurd rfl (hTn _ _ (g.F.keep _ _ q))
    · exact seg_again rfl (ih (i + 1) k' s₁' s' m' (by (first | (revert hd; walk_at "Z") | omega)) hlt hI' g')
end
section
variable {G : St} {c : Act} {n : Nat} {m : Loc} {N : Cells} {pos : Pos}
/-- two names from a pair, whatever its object -/
theorem t_pairO {x y : Str} {px py p : Pos} {k : Nat} {T : Addr} {oT : Obj} {v u : Value} {ep : Nat} {Q : Unit → Loc → Cells → Prop} (o : Ok G n c) (hm : (T, oT) ∈ N) (hc : oT.cls = .type "tuple") (hd : oT.data = .seq [v, u].toArray ep)
    (h : TW G c (storeName c.env x v) m N fun _ m₁ N₁ => TW G c (storeName c.env y u) m₁ N₁ Q) : TW G c (assign (.Tuple [.Name x px, .Name y py] k p) c.env (.ref T)) m N Q := by
  have key : TW G c (assignInOrder [assign (.Name x px) c.env, assign (.Name y py) c.env] [v, u]) m N Q := by
    refine t_inorder (t_assignN (h.mono fun _ _ _ h₁ => ?_))
    exact t_inorder (t_assignN (h₁.mono fun _ _ _ h₂ => t_inorder_nil h₂))
  refine ⟨fun s₀ s E P => ?_⟩
  rw [assign_Tuple]
  with_reducible refine wpAny_bind (wpAny_standAt ?_)
  have ht : IsTup s.heap T [v, u].toArray := ⟨_, P.N.get hm, hc, _, hd⟩
  refine unpack_tuple o.handled ht (by rfl) (by rfl) fun h' hx => ?_
  have hlt : ∀ b o, s.heap.get? b = some o → h'.get? b = some o := fun b o e => hx b o (Nat.ne_of_lt (Heap.lt_size e)) e
  exact key.out s₀ _ E (P.ext (tk := s.toks) (P.F.keeps hlt) (P.N.grown hlt))
end

theorem put_app {a : Addr} {o : Obj} : ∀ {X Y : Cells}, (∀ q ∈ X, q.1 ≠ a) → put a o (X ++ Y) = X ++ put a o Y
  | [], _, _ => rfl
  | (b, ob) :: X, Y, h => by
    show put a o ((b, ob) :: (X ++ Y)) = _
    rw [put_tail (h _ (.head _)), put_app fun q hq => h q (.tail _ hq)]; rfl
theorem foldl_take {α β : Type} {f : β → α → β} {b : β} {l : List α} {j : Nat} {y : α} (h : l[j]? = some y) : (l.take (j + 1)).foldl f b = f ((l.take j).foldl f b) y := by
  have hlt := (List.getElem?_eq_some_iff.mp h).1
  rw [List.take_add_one, List.foldl_append, h]; rfl

-- b17
theorem slot_search : Slot "re.Pattern" (Str.ofString "search") "re.Pattern.search" :=
  .of (owner := "re.Pattern") (n := "search") (by rw [typeLookup_type, builtinLookup_eq_fast]; kernel_rfl) (by decide +kernel) (by decide +kernel) (by decide +kernel)
    (by first | exact .inl (by decide +kernel) | exact .inr (by decide +kernel)) (by rw [isSubtype_type]; kernel_rfl)
theorem type_search : typeOf (.builtin "re.Pattern.search") = pure (.type "method_descriptor") := by show builtinType _ = _; rw [builtinType_eq_fast]; kernel_rfl
theorem entry_search : entryFor table "re.Pattern.search" = some Builtin.«re.Pattern.search» := entryFor_of_tree (by kernel_rfl)
theorem plain_pattern : PlainAttrs "re.Pattern" :=
  ⟨⟨"object.__getattribute__", by rw [typeLookup_type, builtinLookup_eq_fast]; kernel_rfl, by decide +kernel⟩, by rw [typeLookup_type, builtinLookup_eq_fast]; kernel_rfl⟩
theorem args_search (a b : Value) : argsOk "re.Pattern.search" ⟨[a, b], []⟩ := by unfold argsOk; kernel_rfl
def codeN : Array Nat := #[14, 10, 4, 1, 1, 22, 0, 31, 16, 127, 0, 13, 7, 22, 0, 31, 16, 127, 0, 1]
def codeV : Array Nat := #[14, 14, 4, 1, 1, 9, 4294966783, 0, 0, 2147483648, 0, 0, 0, 0, 0, 13, 11, 9, 4294966783, 0, 0, 2147483648, 0, 0, 0, 0, 0, 1]
def NoCtl (x : List Nat) : Prop := ∀ d ∈ x, 32 ≤ d ∧ d ≠ 127
open PySem.Sre in
theorem inN (d : Nat) (seen : PySem.Sre.Seen) (h : 32 ≤ d ∧ d ≠ 127) : ∃ seen', inSet codeN d codeN.size 5 true seen = .ok (false, seen') := by
  refine ⟨((seen.add 22).add 16).add 0, ?_⟩
  have e : inSet codeN d codeN.size 5 true seen = (if (decide (0 ≤ d) && decide (d ≤ 31)) = true then .ok (true, seen.add 22) else (if (d == 127) = true then .ok (true, (seen.add 22).add 16) else .ok (!true, ((seen.add 22).add 16).add 0))) := rfl
  rw [e, if_neg (by simp; (first | (revert h; walk_at "Z") | omega)), if_neg (by simp; (first | (revert h; walk_at "Z") | omega))]; rfl
open PySem.Sre in
theorem inV (d : Nat) (seen : PySem.Sre.Seen) (h : 32 ≤ d ∧ d ≠ 127) : ∃ seen', inSet codeV d codeV.size 5 true seen = .ok (false, seen') := by
  refine ⟨(seen.add 9).add 0, ?_⟩
  have e : inSet codeV d codeV.size 5 true seen = (if (decide (d < 256) && (codeV.getD (5 + (1 + d / 32)) 0).testBit (d % 32)) = true then .ok (true, seen.add 9) else .ok (!true, (seen.add 9).add 0)) := rfl
  have key : ∀ d, d < 256 → 32 ≤ d → d ≠ 127 → (codeV.getD (5 + (1 + d / 32)) 0).testBit (d % 32) = false := by decide +kernel
  have hn : ¬ ((decide (d < 256) && (codeV.getD (5 + (1 + d / 32)) 0).testBit (d % 32)) = true) := by
    by_cases hd : d < 256
    · rw [key d hd h.1 h.2]; simp
    · simp [hd]
  rw [e, if_neg hn]; rfl
open PySem.Sre in
theorem no_admit {m : M} {code : Array Nat} (hc : m.code = code) (x : List Nat) (ht : m.text = x.toArray) (hl : m.lim = x.length)
    (hin : ∀ d ∈ x, ∀ seen, ∃ seen', inSet code d code.size 5 true seen = .ok (false, seen')) : ∀ (fuel s : Nat) (seen : PySem.Sre.Seen), ∃ seen', M.admitted m fuel s seen = .ok (none, seen')
  | 0, s, seen => ⟨seen, rfl⟩
  | fuel + 1, s, seen => by
    unfold M.admitted
    by_cases h : s ≥ m.lim
    · rw [if_pos h]; exact ⟨_, rfl⟩
    · rw [if_neg h]
      have hs : s < x.length := by (first | (revert h hl; walk_at "Z") | omega)
      have e : m.text.getD s 0 = x[s] := by rw [ht]; simp [Array.getD, hs]
      obtain ⟨seen', e'⟩ := hin _ (List.getElem_mem hs) seen
      rw [e, hc, e']
      exact no_admit hc x ht hl hin fuel (s + 1) seen'
theorem from_none {m : PySem.Sre.M} (hf : m.hasFirstSet = true) (ha : ∀ fuel s seen, ∃ seen', PySem.Sre.M.admitted m fuel s seen = .ok (none, seen')) (h1 : m.outcome = none) (h2 : m.frames = []) (s : Nat) (b : Bool) :
    (m.attemptFrom s b).outcome = none ∧ (m.attemptFrom s b).answer = some false ∧ (m.attemptFrom s b).frames = [] := by
  unfold PySem.Sre.M.attemptFrom
  rw [hf, if_neg (by simp)]
  obtain ⟨seen', e⟩ := ha (m.lim + 1 - s) s m.seen
  rw [e]
  exact ⟨h1, rfl, h2⟩
open PySem.Sre in
theorem search_none {code : Array Nat} {x : List Nat} {lim : Nat} (hlim : lim = x.length) (h2 : code.getD 2 0 = 4) (h0 : ops[code.getD 0 0]? = some .INFO)
    (hin : ∀ d ∈ x, ∀ seen, ∃ seen', inSet code d code.size 5 true seen = .ok (false, seen')) :
    (forSearch code x.toArray 0 0 lim false).outcome = none ∧ (forSearch code x.toArray 0 0 lim false).answer = some false ∧ (forSearch code x.toArray 0 0 lim false).frames = [] := by
  subst hlim
  unfold forSearch
  dsimp only
  split
  · exact ⟨rfl, rfl, rfl⟩
  · refine from_none ?_ (no_admit (code := code) rfl x rfl rfl hin) rfl rfl 0 true
    unfold M.hasFirstSet
    dsimp only
    show ((match ops[code.getD 0 0]? with | some Op.INFO => true | x => false) && code.getD 2 0 == 4) = true
    rw [h2, h0]; rfl
theorem run_none {m : PySem.Sre.M} (h1 : m.outcome = none) (h2 : m.answer = some false) (h3 : m.frames = []) : (m.runFor 4).outcome = some .failed := by
  have e1 : m.step = { m with outcome := some .failed } := by
    unfold PySem.Sre.M.step
    rw [h1, h2, h3]; rfl
  unfold PySem.Sre.M.runFor
  rw [h1, e1]
  rfl
section
variable {prog : Program} {w : World} {A : Around} {E : Value → Shared → Prop} {s : Shared}
theorem rules_for {f : Nat → Bool} {g : Nat → String} {Q : PUnit → Shared → Prop} (h : Q PUnit.unit s) : ∀ l : List Nat, wpAny (model prog w) A (forIn l PUnit.unit fun i _ => (if f i = true then do
        rule (g i)
        pure (ForInStep.yield PUnit.unit)
      else pure (ForInStep.yield PUnit.unit) : Sem (ForInStep PUnit))) Q E s := by
  intro l
  induction l with
  | nil => exact wpAny_pure h
  | cons i r ih =>
    simp only [List.forIn_cons]
    refine wpAny_bind ?_
    by_cases q : f i = true
    · rw [if_pos q]; exact wpAny_bind (wpAny_rule (wpAny_pure ih))
    · rw [if_neg q]; exact wpAny_pure ih
theorem drive_none {m : PySem.Sre.M} {Q : Option PySem.Sre.M → Shared → Prop} (h1 : m.outcome = none) (h2 : m.answer = some false) (h3 : m.frames = []) (h : Q none s) : wpAny (model prog w) A (PySem.Builtin.Re.reRunToEnd m) Q E s := by
  have hr := run_none h1 h2 h3
  unfold PySem.Builtin.Re.reRunToEnd
  refine wpAny_bind (m := PySem.Builtin.Re.reDrive (2 ^ 64) m) (wpAny_of_eq (a := m.runFor 4) ?_ ?_)
  · show PySem.Builtin.Re.reDrive (18446744073709551615 + 1) m = _
    unfold PySem.Builtin.Re.reDrive
    show (if (m.runFor 4).outcome.isSome = true then pure (m.runFor 4) else _) = _
    rw [hr]; rfl
  · generalize m.runFor 4 = m' at hr
    refine wpAny_bind (rules_for ?_ _)
    rw [hr]
    exact wpAny_pure h
theorem call_search {P C : Addr} {fs its : Array Value} {k : Nat} {code : Array Nat} {oc : Value} {od : Option Addr} {osl sl : Array (Option Value)} {x : List Nat} {t : Tok} {Q : Value → Shared → Prop}
    (hP : s.heap.get? P = some ⟨.type "re.Pattern", none, .fields fs, osl⟩) (hC : s.heap.get? C = some ⟨oc, od, .seq its k, sl⟩) (h5 : fs.getD 5 .none = .ref C) (h6 : PySem.Builtin.Re.reRawNat (fs.getD 6 .none) = 0) (h2 : PySem.Builtin.Re.reRawNat (fs.getD 2 .none) = 0)
    (hcode : (its.map PySem.Builtin.Re.reRawOf).map (·.toNat) = code) (hx : x.length ≤ 16777216) (hn : ∀ lim, lim = x.length → (PySem.Sre.forSearch code x.toArray 0 0 lim false).outcome = none ∧ (PySem.Sre.forSearch code x.toArray 0 0 lim false).answer = some false ∧ (PySem.Sre.forSearch code x.toArray 0 0 lim false).frames = [])
    (h : Q .none s) : wpAny (model prog w) A (call (.builtin "re.Pattern.search") [.ref P, .str (S x) t]) Q E s := by
  refine wpAny_call_entry slot_search ⟨_, hP, rfl⟩ entry_search ?_ (args_search _ _)
  unfold PySem.Builtin.«re.Pattern.search»
  refine wpAny_bind ?_
  unfold PySem.Builtin.Re.reTarget
  refine wpAny_bind (wpAny_of_eq (a := [some (.str (S x) t), none, none]) (by rfl) ?_)
  dsimp only
  refine wpAny_bind (wpAny_pure (wpAny_bind (wpAny_pure (wpAny_bind (wpAny_fieldsOf hP rfl ?_)))))
  refine wpAny_bind (wpAny_of_eq (a := (x.toArray, 0)) (by rfl) ?_)
  dsimp only
  rw [h6]
  refine wpAny_ite_split (fun q => absurd q (by decide)) fun _ => wpAny_ite_split (fun q => absurd q (by decide)) fun _ => ?_
  refine wpAny_bind (m := PySem.Builtin.Re.reNoCollectionInside _ 0) (wpAny_of_eq (a := ()) (by rfl) ?_)
  rw [h5]
  refine wpAny_bind (m := PySem.Builtin.Re.reRawItems (.ref C)) ?_
  unfold PySem.Builtin.Re.reRawItems
  refine wpAny_bind (wpAny_seqItems hC rfl (wpAny_pure (wpAny_pure ?_)))
  have e1 : (some its).getD #[] = its := rfl
  have e2 : min (Int.toNat 0) x.toArray.size = 0 := by simp
  have e3 : min ((2 : Int) ^ 63 - 1).toNat x.toArray.size = x.length := by
    have : ((2 : Int) ^ 63 - 1).toNat = 9223372036854775807 := by decide
    rw [this, List.size_toArray]; (first | (revert hx; walk_at "Z") | omega)
  rw [e1, hcode, h2, e2, e3]
  obtain ⟨a1, a2, a3⟩ := hn _ rfl
  refine wpAny_bind (drive_none a1 a2 a3 ?_)
  exact wpAny_pure ⟨_, rfl, h⟩
end
section
variable {G : St} {c : Act} {n : Nat} {m : Loc} {N : Cells}
/-- a pattern of the heap that stands, asked for a text that has no sign of its own -/
theorem g_search {P : Addr} {fs : Array Value} {osl : Array (Option Value)} {pos : Pos} {args : List Expr} {pl : Sem Bool} {Q : Value → Loc → Cells → Prop} (o : Ok G n c) (hP : G.K.lookup P = some ⟨.type "re.Pattern", none, .fields fs, osl⟩)
    (h : TW G c (callWith pos (.builtin "re.Pattern.search") [.ref P] (backTo pos (starEach args c.env)) []) m N Q) : TW G c (getMethod (.ref P) (Str.ofString "search") pl) m N (MethQ G c pos args Q) :=
  ⟨fun s₀ s E Pr => by
    have X := Pr.K o _ _ hP
    exact getMethod_builtin (T := "re.Pattern") ⟨_, X, rfl⟩ plain_pattern slot_search type_search (fun a e => by cases e; exact ⟨_, X, rfl⟩) ⟨m, N, Pr, h⟩⟩
theorem a_searchN {P C : Addr} {fs its : Array Value} {k : Nat} {oc : Value} {od : Option Addr} {osl sl : Array (Option Value)} {x : List Nat} {t : Tok} {Q : Value → Loc → Cells → Prop} (o : Ok G n c)
    (hP : G.K.lookup P = some ⟨.type "re.Pattern", none, .fields fs, osl⟩) (hC : G.K.lookup C = some ⟨oc, od, .seq its k, sl⟩) (h5 : fs.getD 5 .none = .ref C) (h6 : PySem.Builtin.Re.reRawNat (fs.getD 6 .none) = 0) (h2 : PySem.Builtin.Re.reRawNat (fs.getD 2 .none) = 0)
    (hcode : (its.map PySem.Builtin.Re.reRawOf).map (·.toNat) = codeN ∨ (its.map PySem.Builtin.Re.reRawOf).map (·.toNat) = codeV) (hx : x.length ≤ 16777216) (hn : NoCtl x) (h : Q .none m N) :
    TW G c (call (.builtin "re.Pattern.search") [.ref P, .str (S x) t]) m N Q :=
  ⟨fun s₀ s E Pr => by
    have X := Pr.K o
    rcases hcode with hc | hc
    · exact call_search (X _ _ hP) (X _ _ hC) h5 h6 h2 hc hx (fun lim e => search_none e rfl rfl fun d hd seen => inN d seen (hn d hd)) ⟨m, N, Pr, h⟩
    · exact call_search (X _ _ hP) (X _ _ hC) h5 h6 h2 hc hx (fun lim e => search_none e rfl rfl fun d hd seen => inV d seen (hn d hd)) ⟨m, N, Pr, h⟩⟩
end

-- b18
section
variable {G : St} {c : Act} {n : Nat} {m : Loc} {N : Cells} {pos : Pos}

theorem code_call {name qual : Str} {params : Arguments} {body : List Stmt} {scope : Scope} {dV kV doc pm cdv ct oc : Value} {an od : Option Addr} {osl : Array (Option Value)} {f : Addr} {args : List Value} {kw : List (Str × Value)} (binds : List (Str × Value)) {Q : Value → Loc → Cells → Prop}
    (o : Ok G (n + 1) c)
    (ho : G.K.lookup f = some ⟨oc, od, .func (fnOf name qual params body scope dV kV doc pm an cdv ct), osl⟩) (hcd : codeIn G.K cdv qual = true)
    (hbind : ∀ s : Shared, G.K.In s.heap → BindsTo s (fnOf name qual params body scope dV kV doc pm an cdv ct) ⟨args, kw⟩ binds)
    (hloc : ∀ y ∈ binds, scope.names.lookup y.1 = some .local) (hcell : ∀ x ∈ scope.names, x.2 ≠ .cell)
    (hco : scope.isCoroutine = false) (hgen : scope.isGenerator = false) (hk : scope.kind = .function) (hnd : ndup binds = true)
    (h : ∀ (c' : Act) (m' : Loc), c'.env.scope = scope → Ok G n c' → Has m' binds → TW G c' (execs body c'.env) m' N (fun fl _ N' => ∃ N'', (∀ p ∈ N'', p ∈ N') ∧ Q (retOf fl) m N''))
    {s₀ s : Shared} (P : Pre c m N s₀ s) :
    codeAny (model G.prog G.w) c.A (.call (.ref f) ⟨args, kw⟩) (fun r s' => ∃ v m' N', r = .ok (.ret v) ∧ Pre c m' N' s₀ s' ∧ Q v m' N') s := by
  obtain ⟨st, sub, back⟩ := ground P
  have X := P.K o
  refine codeAny_call_def (fd := fnOf name qual params body scope dV kV doc pm an cdv ct) (body := body) (binds := binds) o.room (X _ _ ho) rfl (o.T.nolimit.keeps P.F.keep) (codeRec_of X hcd) rfl (hbind s X) hcell hloc (fun h₁ hns hk₁ => ?_) hco hgen hk
  have O := okDeeper (env := callEnv (fnOf name qual params body scope dV kV doc pm an cdv ct) s.heap.objs.size f) o st hk rfl rfl
  have W := h ⟨c.A.deeper _, callEnv (fnOf name qual params body scope dV kV doc pm an cdv ct) s.heap.objs.size f, hideAll s.heap (N.map (·.1))⟩ _ rfl O (Has.binds (ndup_nodup hnd))
  have P' : Pre ⟨c.A.deeper (callEnv (fnOf name qual params body scope dV kV doc pm an cdv ct) s.heap.objs.size f), callEnv (fnOf name qual params body scope dV kV doc pm an cdv ct) s.heap.objs.size f, hideAll s.heap (N.map (·.1))⟩ (fun y => binds.reverse.lookup y) N s₀ { s with heap := h₁, toks := s.toks + binds.length } :=
    ⟨⟨hns, fun b o e => hk₁ b o (sub b o e), Nat.le_of_eq (hideAll_size _ _)⟩,
     fun p hp => ⟨hk₁ _ _ (P.N p hp).1, Nat.ne_of_lt (Heap.lt_size (P.N p hp).1), hideAll_none _ (List.mem_map_of_mem hp)⟩, ⟨P.R.os, P.R.gens, P.R.bare⟩⟩
  exact wpAny_mono (W.out _ _ _ P') (fun fl s' ⟨m', N', p', N'', hs, q⟩ => ⟨_, m, N'', rfl, (back p'.F p'.N p'.R).sub hs, q⟩) fun _ _ e => e

/-- a def with ** -/
theorem t_callKW {name qual : Str} {params : Arguments} {body : List Stmt} {scope : Scope} {dV kV doc pm cdv ct oc : Value} {an od : Option Addr} {osl : Array (Option Value)} {f : Addr} {args : List Value} {kw : List (Str × Value)} (binds : Addr → List (Str × Value)) {Q : Value → Loc → Cells → Prop}
    (o : Ok G (n + 1) c)
    (ho : G.K.lookup f = some ⟨oc, od, .func (fnOf name qual params body scope dV kV doc pm an cdv ct), osl⟩) (hcd : codeIn G.K cdv qual = true)
    (hbind : bindArgs (fnOf name qual params body scope dV kV doc pm an cdv ct) ⟨args, kw⟩ = (do let d ← alloc { cls := .type "dict", data := .dict #[] }; pure (binds d)))
    (hloc : ∀ d, ∀ y ∈ binds d, scope.names.lookup y.1 = some .local) (hcell : ∀ x ∈ scope.names, x.2 ≠ .cell)
    (hco : scope.isCoroutine = false) (hgen : scope.isGenerator = false) (hk : scope.kind = .function) (hnd : ∀ d, ndup (binds d) = true)
    (h : ∀ (c' : Act) (m' : Loc) (d : Addr), c'.env.scope = scope → Ok G n c' → Has m' (binds d) → Fresh d N → (d == sysModules) = false → TW G c' (execs body c'.env) m' ((d, W.dictOf [] 0) :: N) (fun fl _ N' => ∃ N'', (∀ p ∈ N'', p ∈ N') ∧ Q (retOf fl) m N'')) :
    TW G c (call (.ref f) args kw) m N Q := TW.drop ⟨fun s₀ s E P => by
  have X := P.K o
  with_reducible refine wpAny_call ?_
  have hf : Fresh s.heap.objs.size N := news_fresh P.N
  have P1 : Pre c m ((s.heap.objs.size, W.dictOf [] 0) :: N) s₀ { s with heap := s.heap.push (W.dictOf [] 0) } := P.ext (tk := s.toks) (P.F.push _) (P.N.push P.F _)
  obtain ⟨st, sub, back⟩ := ground P1
  have X1 := P1.K o
  refine codeAny_call_function (fd := fnOf name qual params body scope dV kV doc pm an cdv ct) (body := body) o.room (X _ _ ho) rfl hco hgen rfl (codeRec_of X hcd) ?_
  rw [hbind]
  refine wpAny_bind (wpAny_alloc (wpAny_pure ?_))
  refine wpAny_newFunctionEnv hcell (hloc _) (fun h₁ hns hsb => ⟨(o.T.nolimit.keeps P1.F.keep).keeps ?_, codeAny_func ?_⟩) hk
  · exact fun b o' e => hsb.extBut b o' (Nat.ne_of_lt (Heap.lt_size e)) (Heap.get?_push_of_some _ e)
  have hk₁ : ∀ b o', (s.heap.push (W.dictOf [] 0)).get? b = some o' → h₁.get? b = some o' := fun b o' e => hsb.extBut b o' (Nat.ne_of_lt (Heap.lt_size e)) (Heap.get?_push_of_some _ e)
  have O := okDeeper (env := callEnv (fnOf name qual params body scope dV kV doc pm an cdv ct) (s.heap.push (W.dictOf [] 0)).objs.size f) o st hk rfl rfl
  have W := h ⟨c.A.deeper _, callEnv (fnOf name qual params body scope dV kV doc pm an cdv ct) (s.heap.push (W.dictOf [] 0)).objs.size f, hideAll (s.heap.push (W.dictOf [] 0)) (((s.heap.objs.size, W.dictOf [] 0) :: N).map (·.1))⟩ _ _ rfl O (Has.binds (ndup_nodup (hnd _))) hf (by
    have := modules_low (o.T.nolimit.keeps P.F.keep)
    exact beq_eq_false_iff_ne.mpr (Nat.ne_of_gt this))
  refine wpAny_mono (W.out s₀ _ _ ⟨⟨hns, fun b o e => hk₁ b o (sub b o e), Nat.le_of_eq (hideAll_size _ _)⟩,
     fun p hp => ⟨hk₁ _ _ (P1.N p hp).1, Nat.ne_of_lt (Heap.lt_size (P1.N p hp).1), hideAll_none _ (List.mem_map_of_mem hp)⟩, ⟨P1.R.os, P1.R.gens, P1.R.bare⟩⟩) (fun fl s' ⟨m', N', p', q⟩ => ⟨m, N', back p'.F p'.N p'.R, q⟩) fun _ _ e => e⟩

theorem okUnder {C : Addr} {args : List Value} {kw : List (Str × Value)} (o : Ok G (n + 1) c) : Ok G n ⟨c.A.under (.builtin "type.__call__" ⟨.ref C :: args, kw⟩), c.env, c.h₀⟩ :=
  ⟨o.X, o.T, by have := o.depth; have e : (c.A.under (.builtin "type.__call__" ⟨.ref C :: args, kw⟩)).depth = c.A.depth + 1 := rfl; show (c.A.under (.builtin "type.__call__" ⟨.ref C :: args, kw⟩)).depth + 4 * n < 1000; (first | (revert e this; walk_at "Z") | omega),
    by have := o.units; have e : (c.A.under (.builtin "type.__call__" ⟨.ref C :: args, kw⟩)).units = c.A.units + 1 := rfl; show (c.A.under (.builtin "type.__call__" ⟨.ref C :: args, kw⟩)).units + 20 * n < 9000; (first | (revert e this; walk_at "Z") | omega), o.handled, o.kind, o.glob, o.bui⟩
/-- a class of the heap that stands, called: its __init__ gives None -/
theorem t_make {C : Addr} {name qual : Str} {params : Arguments} {body : List Stmt} {scope : Scope} {dV kV doc pm cdv ct oc : Value} {an od : Option Addr} {osl : Array (Option Value)} {f : Addr} {args : List Value} {kw : List (Str × Value)} (binds : Addr → List (Str × Value)) {Q : Value → Loc → Cells → Prop}
    (o : Ok G (n + 2) c) (hm : makesIn G.K C = true) (hi : findIn G.K (.ref C) "__init__" = some (some (.ref f))) (hf : isFn G.K (.ref f) = true)
    (ho : G.K.lookup f = some ⟨oc, od, .func (fnOf name qual params body scope dV kV doc pm an cdv ct), osl⟩) (hcd : codeIn G.K cdv qual = true)
    (hbind : ∀ x, ∀ s : Shared, G.K.In s.heap → BindsTo s (fnOf name qual params body scope dV kV doc pm an cdv ct) ⟨.ref x :: args, kw⟩ (binds x))
    (hloc : ∀ x, ∀ y ∈ binds x, scope.names.lookup y.1 = some .local) (hcell : ∀ x ∈ scope.names, x.2 ≠ .cell)
    (hco : scope.isCoroutine = false) (hgen : scope.isGenerator = false) (hk : scope.kind = .function) (hnd : ∀ x, ndup (binds x) = true)
    (h : ∀ (c' : Act) (m' : Loc) (x dx : Addr), c'.env.scope = scope → Ok G n c' → Has m' (binds x) → Fresh x N → Fresh dx N → dx ≠ x →
      TW G c' (execs body c'.env) m' ((x, instObj C dx) :: (dx, W.dictOf [] 0) :: N) (fun fl _ N' => ∃ N'', (∀ p ∈ N'', p ∈ N') ∧ retOf fl = .none ∧ Q (.ref x) m N'')) :
    TW G c (call (.ref C) args kw) m N Q := ⟨fun s₀ s E P => by
  have X := P.K o
  refine call_cls P.F o.X P.N hm hi hf fun x dx h' F1 N1 hd hx => ?_
  have zx := N1 _ (.head _)
  have P1 : Pre ⟨c.A.under (.builtin "type.__call__" ⟨.ref C :: args, kw⟩), c.env, c.h₀⟩ m ((x, instObj C dx) :: (dx, W.dictOf [] 0) :: N) s₀ { s with heap := h' } := ⟨F1, N1, ⟨P.R.os, P.R.gens, P.R.bare⟩⟩
  have hfx : Fresh x N := fun p hp e => Nat.lt_irrefl _ (Nat.lt_of_lt_of_eq (Nat.lt_trans (hd p hp) hx) e.symm)
  have hfd : Fresh dx N := fun p hp e => Nat.lt_irrefl _ (Nat.lt_of_lt_of_eq (hd p hp) e.symm)
  refine codeAny_mono (code_call (c := ⟨c.A.under (.builtin "type.__call__" ⟨.ref C :: args, kw⟩), c.env, c.h₀⟩) (Q := fun v m₁ N₁ => v = .none ∧ Q (.ref x) m₁ N₁) (m := m) (binds x) (okUnder (n := n + 1) o) ho hcd (hbind x) (hloc x) hcell hco hgen hk (hnd x) (fun c' m' hs o' hL => h c' m' x dx hs o' hL hfx hfd (Nat.ne_of_lt hx)) P1) ?_
  rintro r s' ⟨v, m', N', rfl, p', rfl, q⟩
  exact ⟨rfl, m', N', ⟨p'.F, p'.N, p'.R⟩, q⟩⟩

/-- an object of the class C: its object and its dict, whose entries are es -/
structure InsIs (C x dx : Addr) (es : List DictEntry) (k : Nat) (N : Cells) : Prop where
  ob : (x, instObj C dx) ∈ N
  dict : (dx, W.dictOf es k) ∈ N
theorem InsIs.tail {C x dx : Addr} {es : List DictEntry} {k : Nat} {N : Cells} {p : Addr × Obj} (I : InsIs C x dx es k N) : InsIs C x dx es k (p :: N) := ⟨.tail _ I.ob, .tail _ I.dict⟩
theorem InsIs.at {C x dx : Addr} {es : List DictEntry} {k : Nat} {h₀ h : Heap} {L : Addr} (I : InsIs C x dx es k N) (N' : News h₀ L h N) : W.InstAt h x (instObj C dx) C (some (W.dictOf es k)) := InstAt.of_news N' I.ob I.dict

theorem t_attr {e : Expr} {attr : Str} {Q : Value → Loc → Cells → Prop} (h : TW G c (eval e c.env) m N fun a m₁ N₁ => TW G c (getAttr a attr true) m₁ N₁ Q)
    (he : eval (.Attribute e attr pos) c.env = (do
      let o ← eval e c.env
      standAt pos.atName
      let r ← holding [o] (getAttr o attr true)
      letTemporaryGo e o r
      pure r)) (hg : ∀ a r, letTemporaryGo e a r = pure ()) : TW G c (eval (.Attribute e attr pos) c.env) m N Q := ⟨fun s₀ s E P => by
  rw [he]
  refine wpAny_bind (wpAny_mono (h.out s₀ s E P) (fun a s₁ ⟨_, _, p₁, q₁⟩ => wpAny_bind (wpAny_standAt (wpAny_bind (wpAny_holding (wpAny_mono (q₁.out s₀ s₁ E p₁) (fun r s₂ h₂ => ?_) fun _ _ y => y))))) fun _ _ y => y)
  rw [hg]
  exact wpAny_bind (wpAny_pure (wpAny_pure h₂))⟩
theorem a_attr {C x dx : Addr} {es : List DictEntry} {k : Nat} {name : Str} {v : Value} {attr : Option Value} {b : Bool} {Q : Value → Loc → Cells → Prop} (o : Ok G n c) (I : InsIs C x dx es k N) (hg : plainGet G.K C name = true) (hh : hasDictIn G.K C = true)
    (ha : findIn G.K (.ref C) name = some attr) (hn : noGet G.K attr = true) (hl : getL name es = some (some v)) (hv : handedIn v = true) (h : Q v m N) : TW G c (getAttr (.ref x) name b) m N Q :=
  .raw0 fun s E Q' F N' q => by with_reducible exact get_own F o.X (I.at N') hg hh ha hn hl hv (q _ _ h)
theorem g_inst {C x dx f : Addr} {es : List DictEntry} {k : Nat} {name : Str} {pl : Sem Bool} {Q : Value × List Value → Loc → Cells → Prop} (o : Ok G n c) (I : InsIs C x dx es k N) (hg : plainGet G.K C name = true)
    (hf : findIn G.K (.ref C) name = some (some (.ref f))) (ht : isFn G.K (.ref f) = true) (hl : getL name es = some none) (h : Q (.ref f, [.ref x]) m N) : TW G c (getMethod (.ref x) name pl) m N Q :=
  .raw0 fun s E Q' F N' q => by with_reducible exact method_inst F o.X (I.at N') hg hf ht hl (q _ s.toks h)
theorem m_inst {C x dx f : Addr} {es : List DictEntry} {k : Nat} {name : Str} {pl : Sem Bool} {args : List Expr} {Q : Value → Loc → Cells → Prop} (o : Ok G n c) (I : InsIs C x dx es k N) (hg : plainGet G.K C name = true)
    (hf : findIn G.K (.ref C) name = some (some (.ref f))) (ht : isFn G.K (.ref f) = true) (hl : getL name es = some none) (h : TW G c (callWith pos (.ref f) [.ref x] (backTo pos (starEach args c.env)) []) m N Q) : TW G c (getMethod (.ref x) name pl) m N (MethQ G c pos args Q) :=
  g_inst o I hg hf ht hl h
abbrev MethQK (G : St) (c : Act) (pos : Pos) (args : List Expr) (kws : List Keyword) (Q : Value → Loc → Cells → Prop) : Value × List Value → Loc → Cells → Prop :=
  fun fx m₂ N₂ => TW G c (callWith pos fx.1 fx.2 (backTo pos (starEach args c.env)) (backToKw pos (keywordEach kws c.env))) m₂ N₂ Q
theorem mk_inst {C x dx f : Addr} {es : List DictEntry} {k : Nat} {name : Str} {pl : Sem Bool} {args : List Expr} {kws : List Keyword} {Q : Value → Loc → Cells → Prop} (o : Ok G n c) (I : InsIs C x dx es k N) (hg : plainGet G.K C name = true)
    (hf : findIn G.K (.ref C) name = some (some (.ref f))) (ht : isFn G.K (.ref f) = true) (hl : getL name es = some none) (h : TW G c (callWith pos (.ref f) [.ref x] (backTo pos (starEach args c.env)) (backToKw pos (keywordEach kws c.env))) m N Q) : TW G c (getMethod (.ref x) name pl) m N (MethQK G c pos args kws Q) :=
  g_inst o I hg hf ht hl h
theorem t_setattr {e v : Expr} {attr : Str} {p' : Pos} {Q : Flow → Loc → Cells → Prop}
    (h : TW G c (eval v c.env) m N fun x m₁ N₁ => TW G c (eval e c.env) m₁ N₁ fun a m₂ N₂ => TW G c (setAttr a attr x) m₂ N₂ fun _ m₃ N₃ => Q .next m₃ N₃)
    (hs : swapsWith v (some (.Attribute e attr p')) pos.line c.env = pure false) : TW G c (exec (.Assign [.Attribute e attr p'] v pos) c.env) m N Q :=
  ⟨fun s₀ s E P => by
    with_reducible exact plainObj_wpAny_Assign_Attribute (wpAny_mono (h.out s₀ s E P) (fun _ s₁ ⟨_, _, p₁, q₁⟩ => wpAny_mono (q₁.out s₀ s₁ E p₁) (fun _ s₂ ⟨_, _, p₂, q₂⟩ => q₂.outf (f := fun _ => Flow.next) p₂) fun _ _ e => e) fun _ _ e => e) hs⟩
/-- the first attribute of a fresh object -/
theorem a_setattr1 {C x dx : Addr} {name : Str} {v : Value} {Q : Unit → Loc → Cells → Prop} (o : Ok G n c) (hF : Fresh dx N) (hne : dx ≠ x)
    (hs : findIn G.K (.ref C) "__setattr__" = some (some (.builtin "object.__setattr__"))) (hp : plainOver G.K C = true) (ht : takerIn G.K C name = some none) (hh : hasDictIn G.K C = true)
    (h : ∀ hsh t, Q () m ((x, instObj C dx) :: (dx, W.dictOf [⟨hsh, .str name t, v⟩] 1) :: N)) : TW G c (setAttr (.ref x) name v) m ((x, instObj C dx) :: (dx, W.dictOf [] 0) :: N) Q :=
  .raw fun s E Q' F N' q => by
    have I : W.InstAt s.heap x (instObj C dx) C (some (W.dictOf [] 0)) := InstAt.of_news N' (.head _) (.tail _ (.head _))
    refine set_dict (dx := dx) (es' := [⟨_, .str name (s.toks + 1), v⟩]) (n' := 1) (news' := (x, instObj C dx) :: (dx, W.dictOf [⟨_, .str name (s.toks + 1), v⟩] 1) :: N) F o.X N' I rfl hs hp ht hh rfl rfl (.tail (Ne.symm hne) (.head hF)) (by simp) fun h' F1 N1 => ?_
    exact q _ h' _ _ _ F1 N1 (h _ _)
theorem o_inI {C x dx f : Addr} {es : List DictEntry} {k : Nat} {v : Value} {Q : Value → Loc → Cells → Prop} (o : Ok G n c) (I : InsIs C x dx es k N) (hs : findIn G.K (.ref C) "__contains__" = some (some (.ref f))) (hf : isFn G.K (.ref f) = true)
    (h : TW G c (call (.ref f) [.ref x, v]) m N fun r m₁ N₁ => TW G c (truthy r) m₁ N₁ fun b m₂ N₂ => Q (.bool b) m₂ N₂) : TW G c (compareOp .In v (.ref x)) m N Q := ⟨fun s₀ s E P => by
  have J := I.at P.N
  with_reducible exact in_K P.F o.X J hs hf (wpAny_mono (h.out s₀ s E P) (fun _ s₁ ⟨_, _, p₁, q₁⟩ => q₁.outf (f := fun b => Value.bool b) p₁) fun _ _ e => e)⟩

-- calls with names
theorem t_MethKW {ob : Expr} {name : Str} {apos : Pos} {args : List Expr} {kws : List Keyword} {pl : Sem Bool} {Q : Value → Loc → Cells → Prop}
    (h : TW G c (eval ob c.env) m N fun ov m₁ N₁ => TW G c (getMethod ov name pl) m₁ N₁ (MethQK G c pos args kws Q))
    (he : eval (.Call (.Attribute ob name apos) args kws pos) c.env = (do
      let ov ← eval ob c.env
      standAt apos.atName
      let (f, first) ← holding [ov] (getMethod ov name pl)
      callWith pos f first (backTo pos (starEach args c.env)) (backToKw pos (keywordEach kws c.env)))) :
    TW G c (eval (.Call (.Attribute ob name apos) args kws pos) c.env) m N Q :=
  ⟨fun s₀ s E P => by with_reducible exact methodCall_KW (wpAny_mono (h.out s₀ s E P) (fun _ s₁ ⟨_, _, p₁, q₁⟩ => wpAny_mono (q₁.out s₀ s₁ E p₁) (fun _ s₂ ⟨_, _, p₂, q₂⟩ => q₂.out s₀ s₂ E p₂) fun _ _ e => e) fun _ _ e => e) he⟩
/-- one name among the arguments -/
theorem t_cwK1 {f : Value} {first : List Value} {e ke : Expr} {rest : List Expr} {kn : Str} {kp : Pos} {Q : Value → Loc → Cells → Prop} (o : Ok G n c) (hk : keepIn G.K f = true)
    (h : TW G c (spliced (backTo pos (starEach (e :: rest) c.env))) m N fun vs m₁ N₁ => TW G c (eval ke c.env) m₁ N₁ fun kv m₂ N₂ => TW G c (call f (first ++ vs) [(kn, kv)]) m₂ N₂ Q)
    (he : starEach (e :: rest) c.env = (false, eval e c.env) :: starEach rest c.env) (hplain : ((backTo pos (starEach (e :: rest) c.env)).any (·.1)) = false) :
    TW G c (callWith pos f first (backTo pos (starEach (e :: rest) c.env)) (backToKw pos (keywordEach [⟨some kn, ke, kp⟩] c.env))) m N Q :=
  ⟨fun s₀ s E P => by
    refine callWith_KW o.X hk (by rfl) (wpAny_mono (h.out s₀ s E P) ?_ fun _ _ e => e) (by rw [hplain]; rfl) he
    rintro vs s₁ ⟨_, _, p₁, q₁⟩
    refine kws_cons (wpAny_mono (q₁.out s₀ s₁ E p₁) ?_ fun _ _ e => e)
    rintro kv s₂ ⟨_, _, p₂, q₂⟩
    exact kws_nil ⟨p₂.K o, q₂.out s₀ s₂ E p₂⟩⟩
end

-- b19
section
variable {G : St} {c : Act} {n : Nat} {m : Loc} {N : Cells} {pos : Pos}
abbrev viewOf (d : Addr) : Obj := { cls := .type "dict_items", data := .fields #[.ref d] }
theorem dict0 {prog : Program} {w : World} {h₀ h : Heap} {L d : Addr} {k : Nat} {N : Cells} (N' : News h₀ L h N) (hm : (d, W.dictOf [] k) ∈ N) : h.DictAt (strKind prog w) d [] k :=
  ⟨_, _, N'.get hm, ⟨rfl, rfl, rfl⟩, rfl, fun e he => by simp at he, .nil, List.nodup_nil⟩
theorem a_items {d : Addr} {k : Nat} {Q : Value → Loc → Cells → Prop} (hm : (d, W.dictOf [] k) ∈ N) (hd : (d == sysModules) = false) (h : ∀ v, Fresh v N → Q (.ref v) m ((v, viewOf d) :: N)) : TW G c (call (.builtin "dict.items") [.ref d]) m N Q :=
  .raw fun s E Q' F N' q => by
    have D := dict0 (prog := G.prog) (w := G.w) N' hm
    exact call_meetsIn PySem.F.slot_dict_items D.dictOf.typeIs PySem.F.entry_dict_items (PySem.F.args_dict_items_1 _) (meets_dict_items (strKind G.prog G.w) d hd) ⟨⟨_, D.dictOf⟩, q _ _ s.toks _ _ (F.push _) (N'.push F _) (h _ (news_fresh N'))⟩
theorem g_items {d : Addr} {k : Nat} {pl : Sem Bool} {args : List Expr} {Q : Value → Loc → Cells → Prop} (hm : (d, W.dictOf [] k) ∈ N) (h : TW G c (callWith pos (.builtin "dict.items") [.ref d] (backTo pos (starEach args c.env)) []) m N Q) :
    TW G c (getMethod (.ref d) (Str.ofString "items") pl) m N (MethQ G c pos args Q) :=
  ⟨fun s₀ s E P => getMethod_builtin (T := "dict") ⟨_, P.N.get hm, rfl⟩ PySem.F.plainAttrs_dict PySem.F.slot_dict_items PySem.F.type_dict_items (fun a e => by cases e; exact ⟨_, P.N.get hm, rfl⟩) ⟨m, N, P, h⟩⟩
theorem for_items0 {target : Expr} {body : List Stmt} {v d : Addr} {k : Nat} {Q : Flow → Loc → Cells → Prop} (o : Ok G n c) (hv : (v, viewOf d) ∈ N) (hm : (d, W.dictOf [] k) ∈ N) (h : Q .next m N) : ForW G c target body (.ref v) m N Q := ⟨fun s₀ s E P => by
  have D := dict0 (prog := G.prog) (w := G.w) P.N hm
  refine wpAny_pyIter_items (knd := strKind G.prog G.w) ⟨_, P.N.get hv, rfl, rfl⟩ D ?_
  have hf := news_fresh P.N
  refine codeAny_forLoop_any (fun _ s' => Pre c m ((s.heap.objs.size, { cls := .type "dict_itemiterator", data := .fields #[.none, .bool false, .ref d, .int 0 0, .int (([] : List (Str × Value)).length) 0, .int k 0, .none, .none] }) :: N) s₀ s') ?_ 0 (P.ext (tk := s.toks) (P.F.push _) (P.N.push P.F _))
  rintro _ s' P'
  refine wpAny_pyNext_items_end (knd := strKind G.prog G.w) (kvs := []) (i := 0) o.handled (P'.N.get (.head _)) (dict0 P'.N (.tail _ hm)) rfl fun h' hx => ?_
  obtain ⟨F1, N1⟩ := news_ext P'.F P'.N hf hx
  exact wpAny_execs_nil ⟨_, _, _, rfl, P'.ext (tk := s'.toks) F1 N1, h⟩⟩
/-- a list of one text, joined -/
theorem a_join1 {D : Addr} {y : List Nat} {x : Str} {t u : Tok} {ep : Nat} {Q : Value → Loc → Cells → Prop} (hm : (D, listOf [Value.str (S y) u].toArray ep) ∈ N) (hz : y.length + x.length ≤ 16777216) (h : ∀ t, Q (.str (S y) t) m N) :
    TW G c (call (.builtin "str.join") [.str x t, .ref D]) m N Q :=
  .raw0 fun s E Q' F N' q => by
    have hl := isList_of (N'.get hm)
    refine join_list hl (ys := [S y]) (.cons _ _ .nil) (by simp [S_len]; (first | (revert hz; walk_at "Z") | omega)) ?_
    intro t' k
    have e : Txt.join x [S y] = S y := rfl
    rw [e]; exact q _ _ (h _)
theorem put_sub {a : Addr} {o' : Obj} {N N' : Cells} (h : ∀ p ∈ N, p ∈ N') : ∀ p ∈ put a o' N, p ∈ put a o' N' := by
  intro p hp
  obtain ⟨q, hq, rfl⟩ := List.mem_map.mp hp
  exact List.mem_map.mpr ⟨q, h q hq, rfl⟩
/-- texts in pairs, as tuples of a list -/
inductive Prs (N : Cells) : List Value → List (List Nat × List Nat) → Prop
  | nil : Prs N [] []
  | cons {T : Addr} {a b : List Nat} {t u : Tok} {ep : Nat} {vs ps} : (T, tupOf [Value.str (S a) t, .str (S b) u].toArray ep) ∈ N → Prs N vs ps → Prs N (.ref T :: vs) ((a, b) :: ps)
theorem Prs.mono {N N' : Cells} (hs : ∀ p ∈ N, p ∈ N') : ∀ {vs ps}, Prs N vs ps → Prs N' vs ps := by
  intro vs ps h
  induction h with
  | nil => exact .nil
  | cons hm _ ih => exact .cons (hs _ hm) ih
theorem Prs.len {N : Cells} : ∀ {vs ps}, Prs N vs ps → vs.length = ps.length
  | _, _, .nil => rfl
  | _, _, .cons _ h => by simp [h.len]
theorem Prs.get {N : Cells} : ∀ {vs ps}, Prs N vs ps → ∀ {i : Nat} {a b : List Nat}, ps[i]? = some (a, b) → ∃ T t u ep, vs[i]? = some (.ref T) ∧ (T, tupOf [Value.str (S a) t, .str (S b) u].toArray ep) ∈ N := by
  intro vs ps h
  induction h with
  | nil => intro i a b e; cases e
  | cons hm _ ih =>
    intro i a b e
    cases i with
    | zero => cases e; exact ⟨_, _, _, _, rfl, hm⟩
    | succ i => exact ih e
theorem Prs.snoc {N : Cells} {T : Addr} {a b : List Nat} {t u : Tok} {ep : Nat} (hm : (T, tupOf [Value.str (S a) t, .str (S b) u].toArray ep) ∈ N) : ∀ {vs ps}, Prs N vs ps → Prs N (vs ++ [.ref T]) (ps ++ [(a, b)]) := by
  intro vs ps h
  induction h with
  | nil => exact .cons hm .nil
  | cons h1 _ ih => exact .cons h1 ih
theorem Prs.put {N : Cells} {H : Addr} {vs0 : List Value} {ep0 : Nat} {o' : Obj} (hH : ∀ its ep, (H, tupOf its ep) ∉ N) : ∀ {vs ps}, Prs N vs ps → Prs (put H o' N) vs ps := by
  intro vs ps h
  induction h with
  | nil => exact .nil
  | cons hm _ ih => exact .cons (put_other hm fun e => by subst e; exact hH _ _ hm) ih
end

-- b20
theorem bor_add (x y : Int) : Builtin.bitOr x y = x + y - Builtin.bitAnd x y := by
  have := bitXor_and x y
  have e : Builtin.bitXor x y = Builtin.bitOr x y - Builtin.bitAnd x y := rfl
  (first | (revert e this; walk_at "Z") | omega)
theorem band_high (v u : Nat) (hu : u < 64) : Builtin.bitAnd ((v * 64 : Nat) : Int) (u : Int) = 0 := by
  rw [bitAnd_pp (by (first | walk_at "Z" | omega)) (by (first | walk_at "Z" | omega))]
  have : ((v * 64 : Nat) : Int).toNat &&& (u : Int).toNat = 0 := by
    rw [Int.toNat_natCast, Int.toNat_natCast]
    apply Nat.eq_of_testBit_eq
    intro i
    rw [Nat.testBit_and, Nat.zero_testBit]
    by_cases hi : i < 6
    · have : (v * 64).testBit i = false := by
        have e : v * 64 = 2 ^ 6 * v := by (first | walk_at "Z" | omega)
        rw [e, Nat.testBit_two_pow_mul]
        simp; (first | (revert hi; walk_at "Z") | omega)
      rw [this]; rfl
    · have : u.testBit i = false := by
        apply Nat.testBit_lt_two_pow
        calc u < 2 ^ 6 := hu
          _ ≤ 2 ^ i := Nat.pow_le_pow_right (by decide) (by (first | (revert hi; walk_at "Z") | omega))
      rw [this]; simp
  rw [this]; rfl
theorem bor_low (v u : Nat) (hu : u < 64) : Builtin.bitOr ((v * 64 : Nat) : Int) (u : Int) = ((v * 64 + u : Nat) : Int) := by
  rw [bor_add, band_high v u hu]; push_cast; (first | walk_at "Z" | omega)
theorem band_63 (b : Nat) : Builtin.bitAnd (b : Int) 63 = ((b % 64 : Nat) : Int) := by rw [bitAnd_m6]; (first | walk_at "Z" | omega)
theorem band_64 (b : Nat) : Builtin.bitAnd (b : Int) 64 = ((b / 64 % 2 * 64 : Nat) : Int) := by
  have := kbt_bit (b : Int) 6
  have e : ((2 : Int) ^ 6) = 64 := by decide
  rw [e] at this
  rw [this]; push_cast; rfl
theorem put_put (a : Addr) (o o' : Obj) (N : Cells) : put a o' (put a o N) = put a o' N := by
  unfold put
  rw [List.map_map]
  refine List.map_congr_left fun p _ => ?_
  by_cases h : p.1 = a <;> simp [h]
theorem ite_join {G : St} {c : Act} {b : Bool} {y z : List Stmt} {m : Loc} {N : Cells} {Q : Flow → Loc → Cells → Prop} (P : Loc → Cells → Prop) (h1 : b = true → TW G c (execs y c.env) m N (fun f m' N' => f = .next ∧ P m' N'))
    (h2 : b = false → TW G c (execs z c.env) m N (fun f m' N' => f = .next ∧ P m' N')) (h3 : ∀ m' N', P m' N' → Q .next m' N') : if b = true then TW G c (execs y c.env) m N Q else TW G c (execs z c.env) m N Q := by
  cases b with
  | true => rw [if_pos rfl]; exact (h1 rfl).mono fun f m' N' ⟨e, p⟩ => by subst e; exact h3 m' N' p
  | false => rw [if_neg (by simp)]; exact (h2 rfl).mono fun f m' N' ⟨e, p⟩ => by subst e; exact h3 m' N' p
theorem seq_sub {G : St} {c : Act} {r : List Stmt} {Q : Flow → Loc → Cells → Prop} {m : Loc} {N N' : Cells} (hs : ∀ p ∈ N', p ∈ N) (h : TW G c (execs r c.env) m N' Q) : Seq G c r Q .next m N := TW.sub h hs
theorem size_two (k : Nat) : Builtin.Range.rangeSize 2 (2 * ((k : Int) + 1)) 2 = k := by
  unfold Builtin.Range.rangeSize
  rw [if_pos (by decide)]
  split <;> (first | walk_at "Z" | omega)
theorem swapped_of {env : Env} {sc : Scope} {ts : List Expr} {v : Expr} {r : Sem (Option (List Str))} (hs : env.scope = sc) (h : swappedStores ts v { env with scope := sc } = r) : swappedStores ts v env = r := by subst hs; exact h

-- b21
section
variable {G : St} {c : Act} {n : Nat} {m : Loc} {N : Cells} {pos : Pos}
/-- as t_callH, with what stands kept in sight -/
theorem t_callS {name qual : Str} {params : Arguments} {body : List Stmt} {scope : Scope} {dV kV doc pm cdv ct oc : Value} {an od : Option Addr} {osl : Array (Option Value)} {f : Addr} {args : List Value} {kw : List (Str × Value)} (binds : List (Str × Value)) {Q : Value → Loc → Cells → Prop}
    (o : Ok G (n + 1) c)
    (ho : G.K.lookup f = some ⟨oc, od, .func (fnOf name qual params body scope dV kV doc pm an cdv ct), osl⟩) (hcd : codeIn G.K cdv qual = true)
    (hbind : ∀ s : Shared, G.K.In s.heap → BindsTo s (fnOf name qual params body scope dV kV doc pm an cdv ct) ⟨args, kw⟩ binds)
    (hloc : ∀ y ∈ binds, scope.names.lookup y.1 = some .local) (hcell : ∀ x ∈ scope.names, x.2 ≠ .cell)
    (hco : scope.isCoroutine = false) (hgen : scope.isGenerator = false) (hk : scope.kind = .function) (hnd : ndup binds = true)
    (h : ∀ (c' : Act) (m' : Loc), c'.env.scope = scope → Ok G n c' → Has m' binds → (∀ b o, c.h₀.get? b = some o → c'.h₀.get? b = some o) → TW G c' (execs body c'.env) m' N (fun fl _ N' => ∃ N'', (∀ p ∈ N'', p ∈ N') ∧ Q (retOf fl) m N'')) :
    TW G c (call (.ref f) args kw) m N Q := TW.drop ⟨fun s₀ s E P => by
  obtain ⟨st, sub, back⟩ := ground P
  have X := P.K o
  with_reducible refine wpAny_call ?_
  refine codeAny_call_def (fd := fnOf name qual params body scope dV kV doc pm an cdv ct) (body := body) (binds := binds) o.room (X _ _ ho) rfl (o.T.nolimit.keeps P.F.keep) (codeRec_of X hcd) rfl (hbind s X) hcell hloc (fun h₁ hns hk₁ => ?_) hco hgen hk
  have O := okDeeper (env := callEnv (fnOf name qual params body scope dV kV doc pm an cdv ct) s.heap.objs.size f) o st hk rfl rfl
  have W := h ⟨c.A.deeper _, callEnv (fnOf name qual params body scope dV kV doc pm an cdv ct) s.heap.objs.size f, hideAll s.heap (N.map (·.1))⟩ _ rfl O (Has.binds (ndup_nodup hnd)) st
  have P' : Pre ⟨c.A.deeper (callEnv (fnOf name qual params body scope dV kV doc pm an cdv ct) s.heap.objs.size f), callEnv (fnOf name qual params body scope dV kV doc pm an cdv ct) s.heap.objs.size f, hideAll s.heap (N.map (·.1))⟩ (fun y => binds.reverse.lookup y) N s₀ { s with heap := h₁, toks := s.toks + binds.length } :=
    ⟨⟨hns, fun b o e => hk₁ b o (sub b o e), Nat.le_of_eq (hideAll_size _ _)⟩,
     fun p hp => ⟨hk₁ _ _ (P.N p hp).1, Nat.ne_of_lt (Heap.lt_size (P.N p hp).1), hideAll_none _ (List.mem_map_of_mem hp)⟩, ⟨P.R.os, P.R.gens, P.R.bare⟩⟩
  exact wpAny_mono (W.out _ _ _ P') (fun fl s' ⟨m', N', p', q⟩ => ⟨m, N', back p'.F p'.N p'.R, q⟩) fun _ _ e => e⟩
theorem isList_keep {h h' : Heap} {l : Addr} {its : Array Value} (k : ∀ b o, h.get? b = some o → h'.get? b = some o) (x : h.IsList l its) : h'.IsList l its := by
  obtain ⟨o, e, r⟩ := x; exact ⟨o, k _ _ e, r⟩
theorem a_len0 {l : Addr} {vs : List Value} {Q : Value → Loc → Cells → Prop} (hl : c.h₀.IsList l vs.toArray) (hz : vs.length ≤ 16777216) (h : ∀ t, Q (.int vs.length t) m N) : TW G c (call (.builtin "len") [.ref l]) m N Q :=
  .raw0 fun s E Q' F N' q => by
    have hl' := isList_keep F.keep hl
    with_reducible refine PyProof.Rows.len_list hl' (by rw [List.size_toArray]; (first | (revert hz; walk_at "Z") | omega)) ?_
    rw [List.size_toArray]; exact q _ _ (h _)
theorem s_list0 {v i : Expr} {l : Addr} {vs : List Value} {k : Int} {t : Tok} {x : Value} {Q : Value → Loc → Cells → Prop} (hl : c.h₀.IsList l vs.toArray) (h0 : 0 ≤ k) (hf : k < 2 ^ 63) (hx : vs[k.toNat]? = some x) (h : Q x m N)
    (hs : subscripted i false (.ref l) (.int k t) = operate [.ref l, .int k t] (getItem (.ref l) (.int k t)) := by with_unfolding_all rfl) : TW G c (subscriptTail v i (.ref l) (.int k t)) m N Q :=
  .raw0 fun s E Q' F N' q => by
    have hl := isList_keep F.keep hl
    with_reducible exact tail_any hl.typeIs slot_list_getitem.lookup (wpAny_getItem_list hl h0 hf (by simpa using hx) (q _ s.toks h)) hs
end
theorem ints_len {vs : List Value} {ns : List Int} (h : IntsAre vs ns) : vs.length = ns.length := by
  induction h with
  | nil => rfl
  | cons x t h ih => simp [ih]
theorem ints_at {vs : List Value} {ns : List Int} (h : IntsAre vs ns) {i : Nat} (hi : i < ns.length) : ∃ t, vs[i]? = some (.int (ns.getD i 0) t) := by
  induction h generalizing i with
  | nil => simp at hi
  | cons x t h ih =>
    cases i with
    | zero => exact ⟨t, rfl⟩
    | succ i => simpa using ih (by simpa using hi)
theorem ints_set {vs : List Value} {ns : List Int} (h : IntsAre vs ns) (i : Nat) (x : Int) (t : Tok) : IntsAre (vs.set i (.int x t)) (ns.set i x) := by
  induction h generalizing i with
  | nil => exact .nil
  | cons y u h ih =>
    cases i with
    | zero => exact .cons x t h
    | succ i => exact .cons y u (ih i)
theorem t_cellE {G : St} {c : Act} {n : Nat} {m : Loc} {N : Cells} {pos : Pos} {x : Str} {v : Value} {a : Addr} {ob : Obj} {sc : Scope} {cl : List (Str × Addr)} {Q : Value → Loc → Cells → Prop} (o : Ok G n c) (hs : c.env.scope = sc) (hcl : c.env.cells = cl) (hc : cl.lookup x = some a) (hm : (a, ob) ∈ N) (hob : ob.data = .cell (some v))
    (hl : sc.names.lookup x = some .cell) (h : Q v m N) (hd : (x == ("__debug__" : Str)) = false) : TW G c (eval (.Name x pos) c.env) m N Q := t_cell o (by rw [hcl]; exact hc) hm hob (kind_of hs hl) h hd
theorem t_storeCE {G : St} {c : Act} {n : Nat} {m : Loc} {N : Cells} {x : Str} {v : Value} {a : Addr} {ob : Obj} {v₀ : Option Value} {sc : Scope} {cl : List (Str × Addr)} {Q : Unit → Loc → Cells → Prop} (o : Ok G n c) (hs : c.env.scope = sc) (hcl : c.env.cells = cl) (hc : cl.lookup x = some a) (hm : (a, ob) ∈ N) (hob : ob.data = .cell v₀)
    (hl : sc.names.lookup x = some .cell) (h : ∀ ob', ob'.data = .cell (some v) → Q () m (put a ob' N)) : TW G c (storeName c.env x v) m N Q := t_storeC o (by rw [hcl]; exact hc) hm hob (kind_of hs hl) h
section
variable {G : St} {c : Act} {n : Nat} {m : Loc} {N : Cells} {pos : Pos}
theorem t_LC {elt target iter : Expr} {ifs : List Expr} {scope sc : Scope} {cl cl0 : List (Str × Addr)} {Q : Value → Loc → Cells → Prop}
    (o : Ok G n c) (hs : c.env.scope = sc) (hcl : c.env.cells = cl0) (hclos : closC cl0 scope.names [] = some cl) (hcell : (scope.names.all fun y => y.2 != .cell) = true) (hk : scope.kind = .function)
    (hnames : (scope.names.all fun y => y.2 != .local || scope.names.lookup y.1 == some .local) = true) (hf : ∀ x, foldedSetIterable iter c.env x = pure x)
    (h : TW G c (eval iter c.env) m N fun x m₁ N₁ => CompB G n c elt target ifs scope sc cl x m₁ N₁ fun A X => Q (.ref A) m₁ X) :
    TW G c (eval (.ListComp elt [⟨target, iter, ifs, 0⟩] scope pos) c.env) m N Q := t_ListComp o hs (by rw [hcl]; exact hclos) hcell hk hnames hf h
theorem t_LC0 {elt target iter : Expr} {ifs : List Expr} {scope sc : Scope} {Q : Value → Loc → Cells → Prop}
    (o : Ok G n c) (hs : c.env.scope = sc) (hclos : ∀ cl0, closC cl0 scope.names [] = some []) (hcell : (scope.names.all fun y => y.2 != .cell) = true) (hk : scope.kind = .function)
    (hnames : (scope.names.all fun y => y.2 != .local || scope.names.lookup y.1 == some .local) = true) (hf : ∀ x, foldedSetIterable iter c.env x = pure x)
    (h : TW G c (eval iter c.env) m N fun x m₁ N₁ => CompB G n c elt target ifs scope sc [] x m₁ N₁ fun A X => Q (.ref A) m₁ X) :
    TW G c (eval (.ListComp elt [⟨target, iter, ifs, 0⟩] scope pos) c.env) m N Q := t_ListComp o hs (hclos _) hcell hk hnames hf h
theorem comp_it {elt target : Expr} {ifs : List Expr} {scope sc : Scope} {cl : List (Str × Addr)} {x : Value} {K : Addr → Cells → Prop} {D : Cells} {k : Nat} {P : Nat → Value → Prop} (W : IterW G n c x m N target D k P) (hD : ∀ d ∈ D, d ∈ N) (hk : k ≤ 16777216) (R : Nat → Option Value → Prop)
    (hb : ∀ (c₂ : Act) (l : Loc) (X : Cells) (i : Nat) (v : Value), c₂.env.scope = relabelS scope sc → c₂.env.cells = cl → Ok G n c₂ → (∀ p ∈ N, p ∈ X) → i < k → P i v →
      TW G c₂ (assign target c₂.env v) l X fun _ m₁ N₁ => TestsW G c₂ ifs m₁ N₁ fun ok m₂ N₂ => if ok = true then TW G c₂ (eval elt c₂.env) m₂ N₂ (fun y _ N₃ => R i (some y) ∧ ∀ p ∈ X, p ∈ N₃) else R i none ∧ ∀ p ∈ X, p ∈ N₂)
    (hK : ∀ A ys ep, Picks R k ys → Fresh A N → K A ((A, listOf ys.toArray ep) :: N)) : CompB G n c elt target ifs scope sc cl x m N K := ⟨⟨D, k, P, R, W, hD, hk, hb, hK⟩⟩
theorem tests_nil {Q : Bool → Loc → Cells → Prop} (h : Q true m N) : TestsW G c [] m N Q := h
theorem tests_one {t : Expr} {Q : Bool → Loc → Cells → Prop} (h : TW G c (isTrue t c.env (eval t c.env)) m N Q) : TestsW G c [t] m N Q := h
end
section
variable {G : St} {c : Act} {n : Nat} {m : Loc} {N : Cells} {pos : Pos}
/-- x = [.. for ..] where x is a local -/
theorem t_compH {elt target iter : Expr} {ifs : List Expr} {scope sc : Scope} {cl cl0 : List (Str × Addr)} {y : Str} {py : Pos} {spos : Pos} {Q : Flow → Loc → Cells → Prop}
    (o : Ok G n c) (hs : c.env.scope = sc) (hcl : c.env.cells = cl0) (hclos : closC cl0 scope.names [] = some cl) (hcell : (scope.names.all fun y => y.2 != .cell) = true) (hk : scope.kind = .function)
    (hnames : (scope.names.all fun y => y.2 != .local || scope.names.lookup y.1 == some .local) = true) (hf : ∀ x, foldedSetIterable iter c.env x = pure x)
    (hsw : swapsWith (.ListComp elt [⟨target, iter, ifs, 0⟩] scope pos) (some (.Name y py)) spos.line c.env = pure true) (hl : sc.names.lookup y = some .local)
    (h : TW G c (eval iter c.env) m N fun x m₁ N₁ => ∃ l, Has m₁ l ∧ CompB G n c elt target ifs scope sc cl x m₁ N₁ fun A X => ∀ m', Has m' (put1 y (.ref A) l) → Q .next m' X) :
    TW G c (exec (.Assign [.Name y py] (.ListComp elt [⟨target, iter, ifs, 0⟩] scope pos) spos) c.env) m N Q :=
  exec_comp o hs (by rw [hcl]; exact hclos) hcell hk hnames hf hsw (h.mono fun x m₁ N₁ hq => by
    obtain ⟨l, hL, D, k, P, R, W, hD, hsz, hb, hK⟩ := hq
    refine ⟨D, k, P, R, W, hD, hsz, hb, fun A ys ep hp hA C oC hC => ?_⟩
    exact t_storeH hL o hs hl fun m' hm' => ⟨_, rfl, hC, hK A ys ep hp hA m' hm'⟩)
end
theorem swaps_of {env : Env} {sc : Scope} {v : Expr} {t : Option Expr} {line : Nat} {r : Sem Bool} (hs : env.scope = sc) (h : swapsWith v t line { env with scope := sc } = r) : swapsWith v t line env = r := by subst hs; exact h

-- b22
section
variable {prog : Program} {w : World} {A : Around} {E : Value → Shared → Prop} {s : Shared}
theorem lsp_endX {it l : Addr} {i : Nat} {items} {Q : Option Value → Shared → Prop} (hh : A.handled = none)
    (hit : s.heap.IsListIter it l i) (hl : s.heap.IsList l items) (hx : items[i]? = none)
    (hE : ∀ h₁ h' e, Heap.SameBut it s.heap h₁ → Heap.MadeExcOf h₁ h' e (.type "StopIteration") [] → E (.ref e) { s with heap := h' }) :
    wpAny (model prog w) A (callSpecial? (.ref it) (Str.ofString "__next__")) Q E s := by
  obtain ⟨o, ho, hc, hd⟩ := id hit
  obtain ⟨ol, hol, _, nl, hdl⟩ := hl
  refine wpAny_callSpecial?_slot (name := Str.ofString "__next__") hit.typeIs slot_listiter_next
    (wpAny_call_entry slot_listiter_next hit.typeIs entry_listiter_next ?_ (args_listiter_next _))
  show wpAny _ _ (field (.ref it) 0 >>= _) _ _ s
  refine wpAny_bind (wpAny_field ho hd (x := .ref l) rfl ?_)
  show wpAny _ _ (if (Value.ref l == Value.none) = true then _ else _) _ _ s
  rw [if_neg (show ¬ ((Value.ref l == Value.none) = true) from Bool.false_ne_true)]
  show wpAny _ _ (field (.ref it) 1 >>= _) _ _ s
  refine wpAny_bind (wpAny_field ho hd (x := .int i 0) rfl ?_)
  show wpAny _ _ (seqItems? (.ref l) >>= _) _ _ s
  refine wpAny_bind (wpAny_seqItems hol hdl ?_)
  simp only [Int.toNat_natCast, hx]
  refine wpAny_bind (wpAny_rule (wpAny_bind (wpAny_setField ho hd (by simp) ?_)))
  show wpAny _ _ (newExc (.type "StopIteration") [] >>= _) _ _ _
  refine wpAny_bind ?_
  simp only [newExc, newTuple]
  refine wpAny_bind (wpAny_newObj_type ?_ (by size_fits))
  refine wpAny_bind (m := firstArgMember _ _) (wpAny_of_eq (a := Value.none) (by first | rfl | (simp only [firstArgMember]; rfl)) ?_)
  refine wpAny_newObj_type ?_ (by size_fits)
  simp only [raiseNew]
  refine wpAny_bind (wpAny_handled ?_)
  first | rw [show A.in1.handled = none from hh] | rw [hh]
  refine wpAny_bind (wpAny_pure (wpAny_throw ?_))
  refine hE _ _ _ (Heap.SameBut.update ..) ⟨fun b o e => Heap.get?_push_of_some _ (Heap.get?_push_of_some _ e), ?_, ⟨_, Heap.get?_push_size _ rfl, ?_, ?_⟩⟩
  · exact Heap.get?_none_of_le (by rw [Heap.size_push]; exact Nat.le_succ _)
  · exact Heap.get?_none_of_le (Nat.le_refl _)
  · exact Heap.get?_push_of_some _ (Heap.get?_push_size _ rfl)
theorem next_end {it l : Addr} {i : Nat} {items} {Q : Value → Shared → Prop} (hh : A.handled = none)
    (hit : s.heap.IsListIter it l i) (hl : s.heap.IsList l items) (hx : items[i]? = none)
    (hE : ∀ h₁ h' e, Heap.SameBut it s.heap h₁ → Heap.MadeExcOf h₁ h' e (.type "StopIteration") [] → E (.ref e) { s with heap := h' }) :
    wpAny (model prog w) A (call (.builtin "next") [.ref it]) Q E s := by
  refine call_function_entry (by decide +kernel) (by decide +kernel) kdk_entry_next (kdk_args_next _) ?_
  unfold Builtin.«next»
  refine wpAny_bind (m := someArgs "next" 1 2 _) (wpAny_of_eq (a := [Value.ref it]) (by first | rfl | kernel_rfl!) ?_)
  dsimp only
  refine wpAny_bind (wpAny_specialOf (name := Str.ofString "__next__") hit.typeIs slot_listiter_next.lookup ?_)
  refine wpAny_ite_split (fun hab => absurd hab (by decide)) (fun _ => ?_)
  exact wpAny_bind (lsp_endX hh hit hl hx hE)
end
section
variable {G : St} {n : Nat} {m : Loc} {N : Cells} {pos : Pos}
end

-- b23
section
variable {G : St} {c : Act} {n : Nat} {m : Loc} {N : Cells} {pos : Pos}
theorem Strs.dat {N : Cells} : ∀ {vs ys}, Strs vs ys → W.DatAll N vs (ys.map fun y => W.Dat.str (S y))
  | _, _, .nil => .nil
  | _, _, .cons y t h => .cons (.str _ _) h.dat
theorem o_strs_ne {A B : Addr} {xs ys : List Value} {ps : List (List Nat)} {ea eb : Nat} {Q : Value → Loc → Cells → Prop} (o : Ok G n c) (ha : (A, listOf xs.toArray ea) ∈ N) (hb : (B, listOf ys.toArray eb) ∈ N) (hx : Strs xs ps) (hy : Strs ys ps)
    (hok : ∀ p ∈ ps, PyData.strOk (S p) = true) (h : Q (.bool false) m N) : TW G c (compareOp .NotEq (.ref A) (.ref B)) m N Q :=
  .raw0 fun s E Q' F N' q => by
    have hk : ∀ d ∈ ps.map (fun y => W.Dat.str (S y)), W.kqdOk 8 d = true := fun d hd => by
      obtain ⟨p, hp, rfl⟩ := List.mem_map.mp hd
      simp [W.kqdOk, hok p hp]
    refine W.kqd_ne N' ha rfl rfl hx.dat (fun _ h => h) hb rfl rfl hy.dat (fun _ h => h) hk hk (by have := o.units; show _ < 9900; (first | (revert this; walk_at "Z") | omega)) ?_
    refine Eq.mp (congrArg (fun b => Q' (.bool b) s) ?_) (q _ s.toks h)
    simp
end
section
variable {G : St} {n : Nat}
end
theorem TW.uniq {G : St} {c : Act} {α : Type} {t : Sem α} {m : Loc} {N : Cells} {Q : α → Loc → Cells → Prop} (h : (∀ a o o', (a, o) ∈ N → (a, o') ∈ N → o = o') → TW G c t m N Q) : TW G c t m N Q :=
  ⟨fun s₀ s E P => (h fun a o o' h1 h2 => by
    have := (P.N _ h1).1; rw [(P.N _ h2).1] at this; exact (Option.some.inj this).symm).out s₀ s E P⟩

set_option maxRecDepth 100000
set_option maxHeartbeats 8000000
section
local macro_rules | `(tactic| o_head $_) => `(tactic| assumption)
/-- the written part of the heap: what the head lays down as kk.heap_1 -/
theorem kk (h : PySem.Challenge.rw_wn0116_02.row.Holds) : PySem.Challenge.rw_wn0116_02.row.Holds := by k_head
end

set_option maxRecDepth 10000
set_option maxHeartbeats 200000
structure GP where
  p : Program
  loose : List Str
  w : World
  mean : ExcName → Option Value
  mg : Str → Option Value
  mb : Str → Option Value
noncomputable def GS (γ : GP) : St :=
  { prog := PySem.Challenge.pw_wn0116_02, w := γ.w, K := kk.heap_1 γ.w.params, p := γ.p, loose := γ.loose, mean := γ.mean, mg := γ.mg, mb := γ.mb }
section
variable {G : St} {c : Act} {n : Nat} {m : Loc} {N : Cells} {pos : Pos}
theorem t_strS {x : Str} {l : List Nat} {k : Nat} {Q : Value → Loc → Cells → Prop} (e : x = S l) (h : ∀ t, Q (.str (S l) t) m N) : TW G c (eval (.Constant (.str x) k pos) c.env) m N Q := by
  rw [e]; exact t_str h
theorem t_dec {p A B : Prop} [Decidable p] (h1 : p → A) (h2 : ¬ p → B) : if decide p = true then A else B := by
  by_cases q : p
  · simpa [q] using h1 q
  · simpa [q] using h2 q
theorem t_true {A B : Prop} (h1 : A) : if true = true then A else B := by simpa using h1
theorem t_false {A B : Prop} (h1 : B) : if false = true then A else B := by simpa using h1
theorem seq_next {r : List Stmt} {Q : Flow → Loc → Cells → Prop} (h : TW G c (execs r c.env) m N Q) : Seq G c r Q .next m N := h
theorem seq_ret {r : List Stmt} {Q : Flow → Loc → Cells → Prop} {v : Value} (h : Q (.ret v) m N) : Seq G c r Q (.ret v) m N := h
theorem seq_brk {r : List Stmt} {Q : Flow → Loc → Cells → Prop} (h : Q .brk m N) : Seq G c r Q .brk m N := h
/-- an expression statement whose value is none -/
theorem t_exprN {x : Expr} {Q : Flow → Loc → Cells → Prop} (h : TW G c (eval x c.env) m N fun a m₁ N₁ => NoRef a ∧ Q .next m₁ N₁)
    (hi : interactive c.env = false) (hs : swapsWith x none pos.line c.env = pure false) : TW G c (exec (.Expr x pos) c.env) m N Q := t_expr h hi hs
theorem inter_of {sc : Scope} (hs : c.env.scope = sc) (h : sc.kind = .function) : interactive c.env = false := by
  unfold interactive; rw [hs, h]; rfl
end
theorem lit_0 : Str.ofString "cpy313.email.utils" = S [99, 112, 121, 51, 49, 51, 46, 101, 109, 97, 105, 108, 46, 117, 116, 105, 108, 115] := by rfl
theorem lit_1 : Str.ofString "cpy313.dis" = S [99, 112, 121, 51, 49, 51, 46, 100, 105, 115] := by rfl
theorem lit_2 : Str.ofString "cpy313.traceback" = S [99, 112, 121, 51, 49, 51, 46, 116, 114, 97, 99, 101, 98, 97, 99, 107] := by rfl
theorem lit_4 : Str.ofString "law_wn0116_02" = S [108, 97, 119, 95, 119, 110, 48, 49, 49, 54, 95, 48, 50] := by rfl
theorem lit_6 : Str.ofString "[\\x00-\\x1F\\x7F]" = S [91, 92, 120, 48, 48, 45, 92, 120, 49, 70, 92, 120, 55, 70, 93] := by rfl
theorem lit_8 : Str.ofString "" = S [] := by rfl
theorem lit_9 : Str.ofString "\"" = S [34] := by rfl
theorem lit_10 : Str.ofString "abcd" = S [97, 98, 99, 100] := by rfl
theorem lit_11 : Str.ofString "%s(%r)" = S [37, 115, 40, 37, 114, 41] := by rfl
theorem lit_12 : Str.ofString "iso-8859-1" = S [105, 115, 111, 45, 56, 56, 53, 57, 45, 49] := by rfl
theorem lit_13 : Str.ofString "pqr" = S [112, 113, 114] := by rfl
theorem lit_14 : Str.ofString "\\\"" = S [92, 34] := by rfl
theorem lit_15 : Str.ofString "\\\\" = S [92, 92] := by rfl
theorem lit_16 : Str.ofString "\\\\\\\"" = S [92, 92, 92, 34] := by rfl
theorem lit_17 : Str.ofString "\\" = S [92] := by rfl
theorem lit_18 : Str.ofString "%s=\"%s\"" = S [37, 115, 61, 34, 37, 115, 34] := by rfl
theorem lit_19 : Str.ofString "%s=%s" = S [37, 115, 61, 37, 115] := by rfl
theorem lit_21 : Str.ofString "\r\n" = S [13, 10] := by rfl
theorem lit_24 : Str.ofString "%s: %s" = S [37, 115, 58, 32, 37, 115] := by rfl
theorem lit_25 : Str.ofString "_" = S [95] := by rfl
theorem lit_26 : Str.ofString "-" = S [45] := by rfl
theorem lit_27 : Str.ofString "; " = S [59, 32] := by rfl
theorem TW.withOk {G : St} {c : Act} {n : Nat} {α : Type} {t : Sem α} {m : Loc} {N : Cells} {Q : α → Loc → Cells → Prop} (o : Ok G n c) (h : Ok G n c → TW G c t m N Q) : TW G c t m N Q := h o
theorem p_some {G : St} {c : Act} {m : Loc} {N : Cells} {e : Expr} {Q : Value → Loc → Cells → Prop} (h : TW G c (eval e c.env) m N Q) : PartW G c (some e) m N Q := h
theorem p_none {G : St} {c : Act} {m : Loc} {N : Cells} {Q : Value → Loc → Cells → Prop} (h : Q .none m N) : PartW G c none m N Q := h
theorem t_pos {b : Bool} {A B : Prop} (e : b = true) (h1 : A) : if b = true then A else B := by rw [if_pos e]; exact h1
theorem t_neg {b : Bool} {A B : Prop} (e : b = false) (h1 : B) : if b = true then A else B := by rw [e, if_neg (by simp)]; exact h1
def BB (x : Str) (v : Value) : Prop := bootBuiltins x = some v ∧ x ≠ "__name__" ∧ (x == ("__debug__" : Str)) = false
theorem bb_range : BB (Str.ofString "range") (.type "range") := ⟨by rfl, by decide, by rfl⟩
theorem bb_len : BB (Str.ofString "len") (.builtin "len") := ⟨by rfl, by decide, by rfl⟩
theorem bb_min : BB (Str.ofString "min") (.builtin "min") := ⟨by rfl, by decide, by rfl⟩
theorem bb_sum : BB (Str.ofString "sum") (.builtin "sum") := ⟨by rfl, by decide, by rfl⟩
theorem bb_ord : BB (Str.ofString "ord") (.builtin "ord") := ⟨by rfl, by decide, by rfl⟩
theorem bb_chr : BB (Str.ofString "chr") (.builtin "chr") := ⟨by rfl, by decide, by rfl⟩
theorem bb_str : BB (Str.ofString "str") (.type "str") := ⟨by rfl, by decide, by rfl⟩
theorem bb_iter : BB (Str.ofString "iter") (.builtin "iter") := ⟨by rfl, by decide, by rfl⟩
theorem bb_next : BB (Str.ofString "next") (.builtin "next") := ⟨by rfl, by decide, by rfl⟩
theorem bb_list : BB (Str.ofString "list") (.type "list") := ⟨by rfl, by decide, by rfl⟩
theorem bb_type : BB (Str.ofString "type") (.type "type") := ⟨by rfl, by decide, by rfl⟩
theorem t_buiS {G : St} {c : Act} {n : Nat} {m : Loc} {N : Cells} {pos : Pos} {x : Str} {v : Value} {sc : Scope} {Q : Value → Loc → Cells → Prop} (o : Ok G n c) (hs : c.env.scope = sc) (e : nsIn G.K mainGlobals x = some none) (hb : BB x v) (hl : sc.names.lookup x = some .globalImplicit) (h : Q v m N) : TW G c (eval (.Name x pos) c.env) m N Q :=
  t_buiL o hs e hb.1 hb.2.1 hl h hb.2.2

set_option hygiene false in
local macro_rules | `(tactic| walk_at "O") => `(tactic| first | with_reducible assumption | with_reducible exact Int.natCast_nonneg _ | omega)
set_option hygiene false in
local macro_rules | `(tactic| walk_at "F") => `(tactic| ((with_reducible show TW _ _ (exec (.For _ _ _ [] _) _) _ _ _); refine t_For ?_ (by intro _; rfl)))
set_option hygiene false in
local macro_rules | `(tactic| walk_at "M") => `(tactic| first
  | with_reducible assumption
  | with_reducible exact List.mem_cons_self
  | (with_reducible refine List.mem_cons_of_mem _ ?_; walk_at "M"))
set_option hygiene false in
local macro_rules | `(tactic| walk_at "U") => `(tactic| first
  | exact fun _ h => h
  | exact fun _ h => .tail _ h
  | exact fun _ h => .tail _ (.tail _ h)
  | exact fun _ h => .tail _ (.tail _ (.tail _ h))
  | exact fun _ h => .tail _ (.tail _ (.tail _ (.tail _ h)))
  | exact fun _ h => .tail _ (.tail _ (.tail _ (.tail _ (.tail _ h)))))
set_option hygiene false in
local macro_rules | `(tactic| walk_at "H") => `(tactic| first
  | exact Has.nil
  | (refine Has.cons (by with_reducible assumption) (by rfl) ?_; walk_at "H"))
set_option hygiene false in
local macro_rules | `(tactic| walk_at "S") => `(tactic| with_reducible first
  | apply t_cons
  | apply seq_next
  | apply seq_ret
  | apply seq_brk
  | apply t_nil
  | apply p_some
  | apply tests_nil
  | apply tests_one
  | apply p_none
  | apply t_and_cons
  | apply t_or_cons
  | apply t_and_nil
  | apply t_or_nil
  | apply t_assignN
  | apply m_upper
  | apply m_lower
  | apply m_join
  | refine o_neg fun _ => ?_
  | apply o_eq
  | apply o_ne
  | apply o_lt
  | apply o_le
  | apply o_gt
  | apply o_ge
  | apply o_isnone
  | apply o_isnotnone
  | apply o_seq
  | apply o_sne
  | apply b_bool
  | apply b_int
  | apply b_none
  | apply u_not
  | refine i_add fun _ => ?_
  | refine i_sub fun _ => ?_
  | refine i_or fun _ => ?_
  | refine a_ord fun _ => ?_
  | (show TW _ _ (eval (.Name _ _) _) _ _ _; first | refine t_localH (by assumption) (by assumption) (by assumption) (by k_dflt rfl) (by k_dflt rfl) ?_ (by k_dflt rfl) | refine t_cellH (by assumption) (by assumption) (CellIs.look (by assumption)) (by walk_at "M") (by assumption) (by k_dflt rfl) ?_ (by k_dflt rfl) | refine t_cellE (by assumption) (by assumption) (by assumption) (by k_dflt rfl) (by walk_at "M") (by assumption) (by k_dflt rfl) ?_ (by k_dflt rfl) | refine t_globL (by assumption) (by assumption) (by k_dflt rfl) (by k_dflt rfl) ?_ (by k_dflt rfl) | refine t_buiS (by assumption) (by assumption) (by k_dflt rfl) (by first | exact bb_range | exact bb_len | exact bb_min | exact bb_sum | exact bb_ord | exact bb_chr | exact bb_str | exact bb_iter | exact bb_next | exact bb_list | exact bb_enumerate | exact bb_type | exact bb_StopIteration) (by k_dflt rfl) ?_ | refine t_local (by assumption) (by k_dflt rfl) (kind_of (by assumption) (by k_dflt rfl)) ?_ (by k_dflt rfl))
  | (show TW _ _ (isTrue _ _ _) _ _ _; first | apply t_tnot | apply t_tand | refine t_tcmp ?_ (by with_unfolding_all rfl) | refine t_chain ?_ (by with_unfolding_all rfl) | refine t_tval ?_ (by k_dflt rfl))
  | (show TW _ _ (exec _ _) _ _ _; first | apply t_if | apply t_ret | apply t_ret0 | apply t_pass | apply t_break | refine t_assign ?_ (by k_dflt rfl) | refine t_asub ?_ (by k_dflt rfl) | apply t_aug | refine t_augS ?_ (by intros; k_dflt rfl) | refine t_exprN ?_ (inter_of (by assumption) (by k_dflt rfl)) (by k_dflt rfl) | refine t_setattr ?_ (by k_dflt rfl))
  | (show TW _ _ (storeName _ _ _) _ _ _; first | refine t_storeH (by assumption) (by assumption) (by assumption) (by k_dflt rfl) fun _ _ => ?_ | refine t_store0 (by assumption) (by assumption) (by k_dflt rfl) fun _ _ => ?_)
  | (show TW _ _ (loadName _ _) _ _ _; first | refine t_localnH (by assumption) (by assumption) (by assumption) (by k_dflt rfl) (by k_dflt rfl) ?_)
  | (show TW _ _ (eval _ _) _ _ _; first | refine t_LC0 (by assumption) (by assumption) (by intro _; k_dflt rfl) (by k_dflt rfl) (by k_dflt rfl) (by k_dflt rfl) (by intro _; k_dflt rfl) ?_ | refine t_LC (by assumption) (by assumption) (by assumption) (by k_dflt rfl) (by k_dflt rfl) (by k_dflt rfl) (by k_dflt rfl) (by intro _; k_dflt rfl) ?_ | apply t_binop | apply t_unary | apply t_ifexp | refine t_int fun _ => ?_ | apply t_bool | apply t_none | refine t_strS (by first | exact lit_0 | exact lit_1 | exact lit_2 | exact lit_4 | exact lit_6 | exact lit_8 | exact lit_9 | exact lit_10 | exact lit_11 | exact lit_12 | exact lit_13 | exact lit_14 | exact lit_15 | exact lit_16 | exact lit_17 | exact lit_18 | exact lit_19 | exact lit_21 | exact lit_24 | exact lit_25 | exact lit_26 | exact lit_27) fun _ => ?_ | refine t_cmp ?_ (by with_unfolding_all rfl) | refine t_attr ?_ (by with_unfolding_all rfl) (by intro _ _; with_unfolding_all rfl) | refine t_MethL (pl := _) ?_ (by k_dflt rfl) | refine t_MethKW (pl := _) ?_ (by k_dflt rfl) | refine t_Call ?_ (by k_dflt rfl) | apply t_slice | apply t_sub | apply t_List | apply t_Tuple)
  | (show TW _ _ (spliced _) _ _ _; first | apply t_items_nil | refine t_items ?_ (by k_dflt rfl))
  | (show TW _ _ (callWith _ _ _ _ _) _ _ _; first | refine t_cwK (by assumption) (by k_dflt rfl) ?_ (by k_dflt rfl) (by k_dflt rfl) | refine t_cwK1 (by assumption) (by k_dflt rfl) ?_ (by k_dflt rfl) (by k_dflt rfl) | refine t_cwB ?_ (by k_dflt rfl) (by k_dflt rfl) | refine t_cwT ?_ (by k_dflt rfl) (by k_dflt rfl) | apply t_cwB0)
  | (show TW _ _ (binaryOp _ _ _) _ _ _; first | refine o_add fun _ => ?_ | refine o_sub fun _ => ?_ | refine o_pow2 (by walk_at "O") fun _ => ?_ | refine o_div2 (by walk_at "O") fun _ => ?_ | refine o_div (by decide) (by decide) fun _ => ?_ | refine o_mod (by decide) fun _ => ?_ | refine o_xor fun _ => ?_ | refine o_and fun _ => ?_)
  | refine Gen.use (by assumption) ?_)

-- r1
-- law 02: what the calculus lacks
section
variable {prog : Program} {w : World} {A : Around} {E : Value → Shared → Prop} {s : Shared}
/-- all of a list is set -/
theorem setItem_all {l sl b : Addr} {xs ys : List Value} {ep : Nat} {Q : Unit → Shared → Prop} (hl : s.heap.get? l = some (listOf xs.toArray ep))
    (hs : s.heap.IsSliceOf sl .none .none .none) (hb : s.heap.IsList b ys.toArray) (hz : xs.length + ys.length ≤ 1000000)
    (hQ : ∀ f : Array Value → Array Value, f xs.toArray = ys.toArray → Q () { s with heap := s.heap.update l (Obj.mapSeq f) }) :
    wpAny (model prog w) A (setItem (.ref l) (.ref sl) (.ref b)) Q E s := by
  have hL := isList_of hl
  obtain ⟨os, hos, hcs, hds⟩ := id hs
  have hTs : s.TypeIs (.ref sl) "slice" := ⟨os, hos, hcs⟩
  obtain ⟨ob, hob, hcb, eb, hdb⟩ := id hb
  unfold setItem
  try with_reducible refine wpAny_holding ?_
  first | refine wpAny_bind (wpAny_pure ?_) | skip
  refine wpAny_bind (wpAny_sequenceKey hL.typeIs (by decide) ?_)
  refine wpAny_bind (wpAny_callSpecial?_slot (name := Str.ofString "__setitem__") hL.typeIs slot_list_setitem
    (wpAny_call_entry slot_list_setitem hL.typeIs entry_list_setitem ?_ (args_list_setitem _ _ _)))
  show wpAny _ _ (Builtin.List.listSubscript? (.ref sl) >>= _) _ _ s
  refine wpAny_bind ?_
  unfold Builtin.List.listSubscript?
  refine wpAny_bind (wpAny_specialOf hTs slice_no_index ?_)
  simp only [Option.isNone_none, if_true]
  refine wpAny_pure ?_
  show wpAny _ _ (typeOf (.ref sl) >>= _) _ _ s
  refine wpAny_bind (wpAny_typeOf hTs ?_)
  rw [if_neg (by decide)]
  rw [listSliceParts_eq]
  refine wpAny_bind (wpAny_bind (wpAny_field hos hds (x := .none) rfl (wpAny_bind (wpAny_listPart .none ?_))))
  rw [if_neg (by exact Bool.false_ne_true)]
  refine wpAny_bind (wpAny_field hos hds (x := .none) rfl (wpAny_bind (wpAny_listPart .none ?_)))
  refine wpAny_bind (wpAny_field hos hds (x := .none) rfl (wpAny_bind (wpAny_listPart .none (wpAny_pure ?_))))
  have hsb : sliceBounds none none none xs.toArray.size = (0, (xs.toArray.size : Int), 1) := rfl
  have tl : Builtin.List.listTooLong (xs.toArray.size + ys.toArray.size) = false := by
    unfold Builtin.List.listTooLong
    simp only [List.size_toArray, decide_eq_false_iff_not]
    have := le_line (k := xs.length + ys.length) (by omega)
    omega
  split
  · refine wpAny_bind (listItems_at hob hdb ?_)
    refine wpAny_bind (listItems_at hl rfl ?_)
    refine wpAny_bind (wpAny_of_eq (sliceIndices_raw none none none _ (by simp)) ?_)
    rw [hsb, if_pos (show ((1 : Int) == 1) = true from rfl)]
    refine wpAny_bind (wpAny_rule ?_)
    rw [tl, if_neg Bool.false_ne_true]
    refine wpAny_bind (listUpdate_at hl rfl ?_ (by show xs.toArray.size ≤ _; rw [List.size_toArray]; exact le_line (by omega)) (by have := le_line (k := xs.length + ys.length) (by omega); simp; omega))
    refine wpAny_bind (wpAny_letGo ?_)
    exact wpAny_pure ⟨.none, rfl, wpAny_pure (hQ _ (by simp))⟩
  · refine wpAny_bind (m := Builtin.List.listAllItems _ _) ?_
    unfold Builtin.List.listAllItems
    refine wpAny_bind (wpAny_typeOf hb.typeIs ?_)
    rw [if_pos (by rfl)]
    refine wpAny_bind (wpAny_seqItems hob hdb (wpAny_pure ?_))
    refine wpAny_bind (listItems_at hl rfl ?_)
    refine wpAny_bind (wpAny_of_eq (sliceIndices_raw none none none _ (by simp)) ?_)
    rw [hsb, if_pos (show ((1 : Int) == 1) = true from rfl)]
    refine wpAny_bind (wpAny_rule ?_)
    rw [tl, if_neg Bool.false_ne_true]
    refine wpAny_bind (listUpdate_at hl rfl ?_ (by show xs.toArray.size ≤ _; rw [List.size_toArray]; exact le_line (by omega)) (by have := le_line (k := xs.length + ys.length) (by omega); simp; omega))
    refine wpAny_bind (wpAny_letGo ?_)
    exact wpAny_pure ⟨.none, rfl, wpAny_pure (hQ _ (by simp))⟩
end
section
variable {G : St} {c : Act} {n : Nat} {m : Loc} {N : Cells} {pos : Pos}
abbrev sliceOb : Obj := { cls := .type "slice", data := .fields #[.none, .none, .none] }
theorem t_sliceAll {p : Pos} {Q : Value → Loc → Cells → Prop} (h : ∀ D, Fresh D N → Q (.ref D) m ((D, sliceOb) :: N)) : TW G c (eval (.Slice none none none p) c.env) m N Q := ⟨fun s₀ s E P => by
  refine wpAny_Slice ?_
  rw [evalPart_none]
  refine wpAny_pure ?_
  refine wpAny_pure ?_
  refine wpAny_pure ?_
  exact ⟨m, _, P.ext (tk := s.toks) (P.F.push _) (P.N.push P.F _), h _ (news_fresh P.N)⟩⟩
theorem set_all {l sl b : Addr} {xs ys : List Value} {ep ep2 : Nat} {Q : Unit → Loc → Cells → Prop} (hm : (l, listOf xs.toArray ep) ∈ N) (hs : (sl, sliceOb) ∈ N) (hb : (b, listOf ys.toArray ep2) ∈ N) (hz : xs.length + ys.length ≤ 1000000)
    (h : ∀ ep', Q () m (put l (listOf ys.toArray ep') N)) : TW G c (setItem (.ref l) (.ref sl) (.ref b)) m N Q :=
  .raw fun s E Q' F N' q => by
    have ho := N'.get hm
    refine setItem_all ho ⟨_, N'.get hs, rfl, rfl⟩ (isList_of (N'.get hb)) hz fun f hf => ?_
    have e : ∃ ep', (Obj.mapSeq f) (listOf xs.toArray ep) = listOf ys.toArray ep' := by
      unfold Obj.mapSeq
      simp only [hf]
      exact ⟨_, rfl⟩
    obtain ⟨ep', e⟩ := e
    have ho' := Heap.get?_update_self (Obj.mapSeq f) ho (by rw [e]; rfl)
    rw [e] at ho'
    obtain ⟨F1, N1⟩ := news_put F N' hm (Heap.SameBut.update ..) ho'
    exact q _ _ s.toks _ _ F1 N1 (h _)
/-- del at an object whose class has __delitem__ -/
theorem t_del {ob i : Expr} {p' : Pos} {Q : Flow → Loc → Cells → Prop}
    (h : TW G c (eval ob c.env) m N fun a m₁ N₁ => TW G c (eval i c.env) m₁ N₁ fun b m₂ N₂ => TW G c (delItem a b) m₂ N₂ fun _ m₃ N₃ => Q .next m₃ N₃) : TW G c (exec (.Delete [.Subscript ob i p'] pos) c.env) m N Q :=
  ⟨fun s₀ s E P => by
    refine wpAny_Delete (wpAny_deleteEach_cons ?_)
    rw [arm_delete_Subscript]
    refine wpAny_bind (wpAny_mono (h.out s₀ s E P) (fun a s₁ ⟨_, _, p₁, q₁⟩ => ?_) fun _ _ e => e)
    refine wpAny_bind (wpAny_holding (wpAny_mono (q₁.out s₀ s₁ E p₁) (fun b s₂ ⟨_, _, p₂, q₂⟩ => ?_) fun _ _ e => e))
    refine wpAny_bind (wpAny_standAt (wpAny_bind (wpAny_holding (wpAny_mono (q₂.out s₀ s₂ E p₂) (fun _ s₃ ⟨m₃, N₃, p₃, q₃⟩ => ?_) fun _ _ e => e))))
    refine wpAny_mono (Q := fun _ s' => s' = s₃) ?_ (fun _ s' e => ?_) fun _ _ e => e
    · exact wpAny_release rfl
    · subst e
      exact wpAny_deleteEach_nil ⟨m₃, N₃, p₃, q₃⟩⟩
theorem d_inst {C x dx f : Addr} {es : List DictEntry} {k : Nat} {v : Value} {Q : Unit → Loc → Cells → Prop} (o : Ok G n c) (I : InsIs C x dx es k N) (hq : noSeq G.K C = true) (hs : findIn G.K (.ref C) "__delitem__" = some (some (.ref f))) (hf : isFn G.K (.ref f) = true)
    (h : TW G c (call (.ref f) [.ref x, v]) m N fun _ m₁ N₁ => Q () m₁ N₁) : TW G c (delItem (.ref x) v) m N Q := ⟨fun s₀ s E P => by
  have J := I.at P.N
  have X := o.X.keeps P.F.keep
  unfold delItem sequenceKey
  refine wpAny_holding (wpAny_bind (wpAny_bind (J.type.here ?_)))
  refine wpAny_bind ((anyM_none X hq).here ?_)
  rw [if_pos (show (!false) = true from rfl)]
  exact wpAny_pure (wpAny_bind (special_fn X J hs (beq_iff_eq.mp hf) (wpAny_mono (h.out s₀ s E P) (fun _ _ ⟨m₁, N₁, p, q⟩ => wpAny_pure ⟨m₁, N₁, p, q⟩) fun _ _ z => z)))⟩
end
-- texts of any signs
section
variable {G : St} {c : Act} {n : Nat} {m : Loc} {N : Cells} {pos : Pos}
def isSW (x : Str) (t : Tok) (i : Nat) (o : Obj) : Prop := o.cls = .type "str_iterator" ∧ o.data = .fields #[.str x t, .int i 0]
theorem walk_strW (o : Ok G n c) {I : Addr} {x : List Nat} {tk : Tok} {target : Expr} : Walk G c I [] x.length (fun i v => ∃ d t, x[i]? = some d ∧ v = .str (S [d]) t) (isSW (S x) tk) target where
  item := fun i ob m N hi hst hD hF => .raw fun s E Q' F N' q => by
    have hit : s.heap.IsStrIter I "str_iterator" (S x) tk i := ⟨ob, N'.get (.head _), hst.1, hst.2⟩
    with_reducible refine wpAny_pyNext_wide_item hit (c := x[i]) (by simp [S_cps, hi]) fun h' hit' hs => ?_
    obtain ⟨ob', ho', hc', hd'⟩ := hit'
    obtain ⟨F1, N1⟩ := news_same F N' hF hs ho'
    exact q _ h' _ _ _ F1 N1 ⟨_, _, rfl, rfl, rfl, ⟨hc', hd'⟩, ⟨_, _, by simp [hi], rfl⟩⟩
  done := fun ob m N hst hD hF => .raw fun s E Q' F N' q => by
    have hit : s.heap.IsStrIter I "str_iterator" (S x) tk x.length := ⟨ob, N'.get (.head _), hst.1, hst.2⟩
    with_reducible refine wpAny_pyNext_wide_end o.handled hit (by simp [S_cps]) fun h' hs => ?_
    obtain ⟨F1, N1⟩ := news_ext F N' hF hs
    exact q _ h' s.toks _ _ F1 N1 ⟨rfl, rfl, rfl⟩
  go := fun i ob v m N hst => go_plain hst.1 hst.2 (by decide)
theorem it_strA {target : Expr} {x : List Nat} {tk : Tok} : IterW G n c (.str (S x) tk) m N target [] x.length (fun i v => ∃ d t, x[i]? = some d ∧ v = .str (S [d]) t) := by
  by_cases ha : ∀ d ∈ x, d < 128
  · exact it_str ha
  · refine ⟨fun s₀ s E Q P k => ?_⟩
    have hw : (S x).cps.all (· < 128) = false := by
      rw [← Bool.not_eq_true]
      intro e
      apply ha
      intro d hd
      simp [S_cps] at e
      exact e d hd
    with_reducible refine wpAny_pyIter_wide hw ?_
    have hf := news_fresh P.N
    refine k _ _ (isSW (S x) tk) _ (P.ext (tk := s.toks) (P.F.push _) (P.N.push P.F _)) hf ⟨rfl, rfl⟩ (fun c₂ o => walk_strW o) fun c₂ m₂ N₂ o => .raw0 fun s E Q' F N' q => ?_
    have hit : s.heap.IsStrIter _ "str_iterator" (S x) tk 0 := ⟨_, N'.get (.head _), rfl, rfl⟩
    with_reducible exact wpAny_pyIter_striter_wide hit (q _ s.toks ⟨rfl, rfl, rfl⟩)
theorem o_inS {l : Addr} {vs : List Value} {ys : List (List Nat)} {ep : Nat} {x : List Nat} {t : Tok} {Q : Value → Loc → Cells → Prop} (hm : (l, listOf vs.toArray ep) ∈ N) (hv : Strs vs ys)
    (h : Q (.bool (decide (x ∈ ys))) m N) : TW G c (compareOp .In (.str (S x) t) (.ref l)) m N Q := .raw0 fun s E Q' F N' q => by
  have e : ((ys.map S).any (· == S x)) = decide (x ∈ ys) := by
    rw [Bool.eq_iff_iff]
    simp only [List.any_map, List.any_eq_true, Function.comp, S_beq, decide_eq_true_eq]
    exact ⟨fun ⟨y, h1, h2⟩ => h2 ▸ h1, fun h => ⟨x, h, rfl⟩⟩
  with_reducible refine in_list_strs (isList_of (N'.get hm)) hv.are ?_
  rw [e]; exact q _ s.toks h
end

-- r2
-- cells by membership alone
section
variable {G : St} {c : Act} {n : Nat} {m : Loc} {N : Cells} {pos : Pos}
/-- two branches that meet again, or break the loop -/
theorem ite_joinB {b : Bool} {y z r : List Stmt} {Q : Flow → Loc → Cells → Prop} (P : Loc → Cells → Prop) (h1 : b = true → TW G c (execs y c.env) m N (fun f m' N' => (f = .next ∧ P m' N') ∨ (f = .brk ∧ Q .brk m' N')))
    (h2 : b = false → TW G c (execs z c.env) m N (fun f m' N' => (f = .next ∧ P m' N') ∨ (f = .brk ∧ Q .brk m' N'))) (h : ∀ m' N', P m' N' → TW G c (execs r c.env) m' N' Q) :
    if b = true then TW G c (execs y c.env) m N (Seq G c r Q) else TW G c (execs z c.env) m N (Seq G c r Q) := by
  have key : ∀ l, TW G c (execs l c.env) m N (fun f m' N' => (f = .next ∧ P m' N') ∨ (f = .brk ∧ Q .brk m' N')) → TW G c (execs l c.env) m N (Seq G c r Q) := fun l hl =>
    hl.mono fun f m' N' hh => by
      rcases hh with ⟨rfl, hp⟩ | ⟨rfl, hq⟩
      · exact h m' N' hp
      · exact hq
  cases b with
  | true => rw [if_pos rfl]; exact key _ (h1 rfl)
  | false => rw [if_neg Bool.false_ne_true]; exact key _ (h2 rfl)
/-- an if whose test only looks -/
theorem t_ifC {test : Expr} {y z r : List Stmt} {Q : Flow → Loc → Cells → Prop} (B : Bool) (ht : TW G c (isTrue test c.env (eval test c.env)) m N fun b m' N' => b = B ∧ m' = m ∧ N' = N)
    (h : if B = true then TW G c (execs y c.env) m N (Seq G c r Q) else TW G c (execs z c.env) m N (Seq G c r Q)) : TW G c (execs (.If test y z pos :: r) c.env) m N Q :=
  t_cons (t_if (ht.mono fun b m' N' e => by obtain ⟨rfl, rfl, rfl⟩ := e; exact h))
end
def wo (I : Addr) (N : Cells) : Cells := N.filter fun p => !(p.1 == I)
theorem wo_mem {I : Addr} {N : Cells} {p : Addr × Obj} (h : p ∈ N) (hn : p.1 ≠ I) : p ∈ wo I N := by
  unfold wo; rw [List.mem_filter]; exact ⟨h, by simpa using hn⟩
theorem wo_sub {I : Addr} {N : Cells} {p : Addr × Obj} (h : p ∈ wo I N) : p ∈ N := (List.mem_filter.mp h).1
theorem wo_fresh {I : Addr} {N : Cells} : Fresh I (wo I N) := by
  intro p hp
  have := (List.mem_filter.mp hp).2
  simpa using this
theorem wo_all {I : Addr} {o : Obj} {N : Cells} (h : (I, o) ∈ N) : ∀ p ∈ (I, o) :: wo I N, p ∈ N := by
  intro p hp
  rcases List.mem_cons.mp hp with rfl | hp
  · exact h
  · exact wo_sub hp
theorem tup_list {a : Array Value} {b : Array Value} {k j : Nat} : (tupOf a k).cls ≠ (listOf b j).cls := by simp

-- g1
/-- is a text's last sign an open backslash -/
def escEnd : Bool → List Nat → Bool
  | b, [] => b
  | true, _ :: r => escEnd false r
  | false, d :: r => escEnd (decide (d = 92)) r
/-- what _iter_escaped_chars yields -/
def escItems : Nat → Bool → List Nat → List (Nat × List Nat)
  | i, true, [] => [(i - 1, [92])]
  | _, false, [] => []
  | i, true, d :: r => (i, [92, d]) :: escItems (i + 1) false r
  | i, false, d :: r => if d = 92 then escItems (i + 1) true r else (i, [d]) :: escItems (i + 1) false r
theorem esc_t {i : Nat} {d : Nat} {r : List Nat} : escItems i true (d :: r) = (i, [92, d]) :: escItems (i + 1) false r := rfl
theorem esc_f {i : Nat} {d : Nat} {r : List Nat} (h : d ≠ 92) : escItems i false (d :: r) = (i, [d]) :: escItems (i + 1) false r := by simp [escItems, h]
theorem esc_b {i : Nat} {r : List Nat} : escItems i false (92 :: r) = escItems (i + 1) true r := by simp [escItems]
theorem item_at {α : Type} {l pre r : List α} {y : α} (h : l = pre ++ y :: r) : l[l.length - 1 - r.length]? = some y := by
  subst h
  have : (pre ++ y :: r).length - 1 - r.length = pre.length := by simp
  rw [this]; simp
structure SQ where
  start : Nat
  op : Option Nat
  res : List (List Nat)
def sqStep (x : List Nat) (q : SQ) (p : Nat × List Nat) : SQ :=
  if p.2 = [34] then match q.op with
    | none => { q with op := some p.1 }
    | some a => ⟨p.1 + 1, none, if q.start ≠ a then q.res ++ [cut x (some (q.start : Int)) (some (a : Int))] else q.res⟩
  else q
theorem sq_q0 {x : List Nat} {st p : Nat} {res : List (List Nat)} : sqStep x ⟨st, none, res⟩ (p, [34]) = ⟨st, some p, res⟩ := rfl
theorem sq_q1 {x : List Nat} {st a p : Nat} {res : List (List Nat)} : sqStep x ⟨st, some a, res⟩ (p, [34]) = ⟨p + 1, none, if st ≠ a then res ++ [cut x (some (st : Int)) (some (a : Int))] else res⟩ := rfl
theorem sq_o {x : List Nat} {q : SQ} {p : Nat} {ch : List Nat} (h : ch ≠ [34]) : sqStep x q (p, ch) = q := by unfold sqStep; rw [if_neg h]
def sqAll (x : List Nat) : SQ := (escItems 0 false x).foldl (sqStep x) ⟨0, none, []⟩
theorem esc_len : ∀ (r : List Nat) (i : Nat) (b : Bool), (escItems i b r).length ≤ r.length + 1 := by
  intro r
  induction r with
  | nil => intro i b; cases b <;> simp [escItems]
  | cons d r ih =>
    intro i b
    cases b
    · unfold escItems; split
      · have := ih (i + 1) true; simp; (first | (revert this; walk_at "Z") | omega)
      · have := ih (i + 1) false; simp; (first | (revert this; walk_at "Z") | omega)
    · rw [esc_t]; have := ih (i + 1) false; simp; (first | (revert this; walk_at "Z") | omega)
theorem sq_len (x : List Nat) : ∀ (l : List (Nat × List Nat)) (q : SQ), (l.foldl (sqStep x) q).res.length ≤ q.res.length + l.length ∧ ((∀ y ∈ q.res, y.length ≤ x.length) → ∀ y ∈ (l.foldl (sqStep x) q).res, y.length ≤ x.length) := by
  intro l
  induction l with
  | nil => intro q; exact ⟨by simp, fun h => h⟩
  | cons y r ih =>
    intro q
    have h1 : (sqStep x q y).res.length ≤ q.res.length + 1 ∧ ((∀ y ∈ q.res, y.length ≤ x.length) → ∀ z ∈ (sqStep x q y).res, z.length ≤ x.length) := by
      unfold sqStep
      split
      · split
        · exact ⟨by simp, fun h => h⟩
        · simp only []
          split
          · refine ⟨by simp, fun h z hz => ?_⟩
            rcases List.mem_append.mp hz with hz | hz
            · exact h z hz
            · rw [List.mem_singleton.mp hz]; exact cut_len _ _ _
          · exact ⟨by simp, fun h => h⟩
      · exact ⟨by simp, fun h => h⟩
    have h2 := ih (sqStep x q y)
    simp only [List.foldl_cons, List.length_cons]
    exact ⟨by (first | (revert h1 h2; walk_at "Z") | omega), fun h => h2.2 (h1.2 h)⟩
theorem flat_len {x : List Nat} : ∀ {l : List (List Nat)}, (∀ y ∈ l, y.length ≤ x.length) → l.flatten.length ≤ l.length * x.length
  | [], _ => by simp
  | y :: r, h => by
    have h1 := h y (.head _)
    have h2 := flat_len (x := x) (l := r) fun z hz => h z (.tail _ hz)
    simp only [List.flatten_cons, List.length_append, List.length_cons, Nat.succ_mul]; (first | (revert h1 h2; walk_at "Z") | omega)
theorem sqAll_flat {x : List Nat} (hz : x.length ≤ 1000) : (sqAll x).res.length ≤ 1001 ∧ (sqAll x).res.flatten.length ≤ 1001000 := by
  have h1 := sq_len x (escItems 0 false x) ⟨0, none, []⟩
  have h2 := esc_len x 0 false
  have h3 : (sqAll x).res.length ≤ 1001 := by
    have := h1.1; simp only [List.length_nil] at this; unfold sqAll; (first | (revert h2 hz this; walk_at "Z") | omega)
  refine ⟨h3, ?_⟩
  have h4 := flat_len (x := x) (l := (sqAll x).res) (h1.2 (by simp))
  have : (sqAll x).res.length * x.length ≤ 1001 * 1000 := Nat.mul_le_mul h3 hz
  (first | (revert h4 this; walk_at "Z") | omega)
def stripOf (x : List Nat) : List Nat :=
  if 34 ∈ x then (if (sqAll x).start < x.length then (sqAll x).res ++ [cut x (some ((sqAll x).start : Int)) none] else (sqAll x).res).flatten else x
def opVal (v : Value) : Option Nat → Prop
  | none => v = .none
  | some a => ∃ t, v = .int (a : Int) t
section
variable {γ : GP} {c : Act} {n : Nat} {m : Loc} {N : Cells}
theorem f_strip {x : List Nat} {t : Tok} {Q : Value → Loc → Cells → Prop} (o : Ok (GS γ) (n + 3) c) (hz : x.length ≤ 1000) (hend : escEnd false x = false) (h : ∀ t, Q (.str (S (stripOf x)) t) m N) :
    TW (GS γ) c (call (.ref 52) [.str (S x) t]) m N Q := by
  refine t_callH [(Str.ofString "addr", .str (S x) t)] o (by rfl) (by rfl) (fun s X => BindsTo.of_eq (by rfl)) (locs (by rfl)) (by decide) (by rfl) (by rfl) (by rfl) (by rfl) ?_
  intro c' m' hs o' hL
  repeat walk_at "S"
  refine o_notin1 ?_
  repeat walk_at "S"
  by_cases hq : 34 ∈ x
  rotate_left
  · rw [decide_eq_false hq]
    refine t_true ?_
    repeat walk_at "S"
    have := h t
    rw [stripOf, if_neg hq] at this
    exact ⟨N, by walk_at "U", this⟩
  rw [decide_eq_true hq]
  refine t_false ?_
  repeat walk_at "S"
  refine ⟨by simp, fun D hD => ?_⟩
  repeat walk_at "S"
  refine t_ForGen (items := escItems 0 false x) (f := 45) (a := .str (S x) t) [(Str.ofString "addr", .str (S x) t)] o' ?h1 ?h2
    (by rfl) (by rfl) (by rfl) (fun s X => BindsTo.of_eq (by rfl)) (locs (by rfl)) (by decide) (by rfl) (by rfl) (by rfl) ?_ 
    (fun j m' N' => Ex4 fun (vs : List Value) (ep : Nat) (vo : Value) (ts : Tok) => And4 (N' = (D, listOf vs.toArray ep) :: N) (Strs vs (((escItems 0 false x).take j).foldl (sqStep x) ⟨0, none, []⟩).res) (opVal vo (((escItems 0 false x).take j).foldl (sqStep x) ⟨0, none, []⟩).op) (Has m' [(Str.ofString "addr", .str (S x) t), (Str.ofString "start", .int ((((escItems 0 false x).take j).foldl (sqStep x) ⟨0, none, []⟩).start : Nat) ts), (Str.ofString "open_pos", vo), (Str.ofString "result", .ref D)])) ?_ ?_ ?_ ?_ (by intro _; rfl) (by rfl) (by rfl)
  case h1 => walk_at "S"; exact ⟨rfl, rfl, rfl⟩
  case h2 => walk_at "S"; exact ⟨rfl, rfl, rfl⟩
  · intro A hB env s' hse hge hbe oA F
    have okf := fun body => OkA.func (body := body) (env := env) oA (by rw [hse]) hge hbe
    have hdom : s'.heap.objs.size ≠ env.locals ∧ s'.heap.objs.size + 1 ≠ env.locals ∧ hB.get? s'.heap.objs.size = none ∧ hB.get? (s'.heap.objs.size + 1) = none ∧ hB.get? env.locals = none := by
      obtain ⟨oL, _, _, hL, _⟩ := F.ns
      have := Heap.lt_size hL
      refine ⟨Nat.ne_of_gt this, Nat.ne_of_gt (Nat.lt_succ_of_lt this), ?_, ?_, ?_⟩
      · exact Heap.get?_none_of_le (Nat.le_trans F.above (Nat.le_of_lt this))
      · exact Heap.get?_none_of_le (Nat.le_trans F.above (Nat.le_of_lt (Nat.lt_succ_of_lt this)))
      · exact Heap.get?_none_of_le F.above
    refine seg_func ?_
    refine seg_execs_cons (seg_wrap (wpAny_Assign_Name (wpAny_Constant_int ?_) (by rfl)))
    refine raw_store (okf _) hse F (by rfl) fun h1 F1 hs1 => ?_
    refine seg_execs_cons (seg_wrap (wpAny_Assign_Name (wpAny_Constant_bool ?_) (by rfl)))
    refine raw_store (okf _) hse F1 (by rfl) fun h2 F2 hs2 => ?_
    have hz : h2.objs.size = s'.heap.objs.size := hs2.1.trans hs1.1
    have hold : ∀ b o, b ≠ env.locals → s'.heap.get? b = some o → h2.get? b = some o := fun b o hb e => hs2.extBut b o hb (hs1.extBut b o hb e)
    refine seg_execs_cons (seg_For (by intro _; rfl) fun E => ?_)
    with_reducible refine Call_ (raw_bui (v := .type "enumerate") (okf _) hse F2 ?e1 ?e2 ?e3 ?e4 ?_ ?e5) ?e6
    case e1 => rfl
    case e2 => rfl
    case e3 => decide
    case e4 => rfl
    case e5 => rfl
    case e6 => rfl
    with_reducible refine PySem.Pv.callWith_type1 (wpAny_items_cons (raw_local (v := .str (S x) t) (okf _) hse F2 ?e1 ?e4 (wpAny_items_nil ?_) ?e5) ?e6) ?e7 ?e8
    case e1 => rfl
    case e4 => rfl
    case e5 => rfl
    case e6 => rfl
    case e7 => rfl
    case e8 => rfl
    refine call_enumerate_str fun h3 he hit hsz hk => ?_
    replace he : IsEnum h3 (h2.objs.size + 1) h2.objs.size 0 .none := he
    replace hit : h3.IsStrIter h2.objs.size (strIterType (S x)) (S x) t 0 := hit
    replace hk : ∀ b o, h2.get? b = some o → h3.get? b = some o := hk
    rw [hz] at he hit
    intro E'
    show wpAny _ _ (pyIter (.ref (h2.objs.size + 1))) _ _ _
    rw [hz]
    refine wpAny_pyIter_enum he ?_
    intro p K' hK'
    have ga : GA hB env.locals (s'.heap.objs.size + 1) s'.heap.objs.size := ⟨Nat.succ_ne_self _, Ne.symm hdom.2.1, Ne.symm hdom.1, hdom.2.2.2.1, hdom.2.2.1, hdom.2.2.2.2⟩
    have okl := fun body b2 tg itv => OkA.loop (body := body) (b2 := b2) (target := tg) (it := itv) (K := K') (gd := false) (l := []) (p := p) (k := []) (env := env) oA (by rw [hse]) hge hbe
    have hco : env.scope.isCoroutine = false := by rw [hse]
    have hin : interactive env = false := inter_of (c := gAct A env hB (.func [] env) []) hse (by rfl)
    refine seg_enum_loop (x := x) (tk := t) ?hh ga (fun i k m => Ex3 fun esc pv tp => And6 (Has m [(Str.ofString "pos", .int pv tp), (Str.ofString "escape", .bool esc)]) (0 < i → pv = ((i - 1 : Nat) : Int)) (i = 0 → esc = false) (k = (escItems i esc (x.drop i)).length) (escEnd esc (x.drop i) = false) (∃ pre, escItems 0 false x = pre ++ escItems i esc (x.drop i))) ?_ ?_ _ 0 _ _ _ _ rfl (Nat.zero_le _) ⟨false, 0, s'.toks, ?_, by simp, by simp, by simp, by simpa using hend, [], by simp⟩ ⟨F2.keeps (fun b o e => hk _ _ e), ⟨_, he⟩, hit, ?_⟩
    case hh => exact fun c => oA.handled
    rotate_left 2
    · exact Has.cons ((Has.nil.set _ _).set _ _) (by rfl) (Has.cons ((Has.nil.set _ _).set _ _) (by rfl) Has.nil)
    · exact ⟨⟨rfl, fun _ _ e => e, id⟩, fun b o h1 _ _ e => hk _ _ (hold b o h1 e)⟩
    · rintro i d k s₁ s m1 T t1 u1 ep1 hd ⟨esc, pv, tp, hL1, hpv, hesc, rfl, hee, pre, hpre⟩ g ⟨oT, hoT, hcT, hdT⟩ hTn hT0 cont E1
      have hdr : x.drop i = d :: x.drop (i + 1) := by
        have hlt : i < x.length := (List.getElem?_eq_some_iff.mp hd).1
        rw [List.drop_eq_getElem_cons hlt]
        have : x[i] = d := by rw [List.getElem?_eq_getElem hlt] at hd; exact Option.some.inj hd
        rw [this]
      rw [hdr] at hpre hee ⊢
      refine wpAny_mono (run_tw (Q := fun _ m' _ => Has m' [(Str.ofString "ch", .str (S [d]) u1), (Str.ofString "pos", .int (i : Nat) t1), (Str.ofString "escape", .bool esc)]) g.F (t_pairO (okl _ _ _ _) (restOf_mem hoT hTn hT0) hcT hdT ?_)) ?_ fun _ _ e => e
      · have hs' : (gAct A env hB (.func [] env) []).env.scope = _ := hse
        refine t_storeH hL1 (okl _ _ _ _) hse (by rfl) fun m2 h2 => ?_
        refine t_storeH h2 (okl _ _ _ _) hse (by rfl) fun m3 h3 => ?_
        exact ⟨fun _ h => h, Has.cons h3 (by rfl) (Has.cons h3 (by rfl) (Has.cons h3 (by rfl) Has.nil))⟩
      rintro _ s2 ⟨m2, N2, K2, _, hL2⟩ H'
      have g2 := g.kept ga K2
      cases esc with
      | true =>
        rw [esc_t] at hpre ⊢
        rw [List.length_cons]
        refine seg_execs_cons (seg_If (Q := fun b m' => b = true ∧ m' = m2) g2.F ?_ ?_)
        · exact t_tval (t_localH hL2 (okl _ _ _ _) hse (by rfl) (by rfl) (b_bool ⟨fun _ h => h, rfl, rfl⟩) (by rfl)) (by rfl)
        rintro b m3 s3 K3 ⟨rfl, rfl⟩
        have g3 := g2.kept ga K3
        show Seg _ _ _ _ _ _ _ ((execs (_ :: _) env).wrap _ _ _ _) _ _
        refine seg_execs_cons (seg_yieldY (p := i) (ch := [92, d]) oA.handled ga g3 (by rfl) (by rfl) hco hin (item_at hpre) ?_ ?_)
        · refine TW.withOk (okl _ _ _ _) fun okX => ?_
          repeat walk_at "S"
          refine o_sadd (by simp) fun t5 => ?_
          repeat walk_at "S"
          exact ⟨by simp, fun D hD => ⟨fun _ h => .tail _ h, rfl, D, _, _, 0, rfl, .head _, hD⟩⟩
        · intro s4 g4
          show Seg _ _ _ _ _ _ _ ((execs (_ :: _) env).wrap _ _ _ _) _ _
          refine seg_stmts (Q := fun m' => Has m' [(Str.ofString "pos", .int (i : Nat) t1), (Str.ofString "escape", .bool false)]) g4.F ?_ ?_
          · refine TW.withOk (okl _ _ _ _) fun okX => ?_
            repeat walk_at "S"
            exact ⟨rfl, fun _ h => h, by walk_at "H"⟩
          · intro m5 s5 K5 h5
            exact seg_execs_nil (seg_execs_nil (cont _ _ _ m5 ⟨false, _, _, h5, fun _ => by simp, fun _ => rfl, rfl, hee, pre ++ [(i, [92, d])], by simpa using hpre⟩ (g4.kept ga K5)))
      | false =>
        refine seg_execs_cons (seg_If (Q := fun b m' => b = false ∧ m' = m2) g2.F ?_ ?_)
        · exact t_tval (t_localH hL2 (okl _ _ _ _) hse (by rfl) (by rfl) (b_bool ⟨fun _ h => h, rfl, rfl⟩) (by rfl)) (by rfl)
        rintro b m3 s3 K3 ⟨rfl, rfl⟩
        have g3 := g2.kept ga K3
        show Seg _ _ _ _ _ _ _ ((execs (_ :: _) env).wrap _ _ _ _) _ _
        refine seg_execs_cons (seg_If (Q := fun b m' => b = decide (d = 92) ∧ m' = m3) g3.F ?_ ?_)
        · refine TW.withOk (okl _ _ _ _) fun okX => ?_
          repeat walk_at "S"
          exact ⟨fun _ h => h, by simp, rfl⟩
        rintro b m4 s4 K4 ⟨rfl, rfl⟩
        have g4 := g3.kept ga K4
        by_cases h92 : d = 92
        · subst h92
          rw [esc_b] at hpre ⊢
          show Seg _ _ _ _ _ _ _ ((execs (_ :: _) env).wrap _ _ _ _) _ _
          refine seg_stmts (Q := fun m' => Has m' [(Str.ofString "pos", .int (i : Nat) t1), (Str.ofString "escape", .bool true)]) g4.F ?_ ?_
          · refine TW.withOk (okl _ _ _ _) fun okX => ?_
            repeat walk_at "S"
            exact ⟨rfl, fun _ h => h, by walk_at "H"⟩
          · intro m5 s5 K5 h5
            exact seg_execs_nil (seg_execs_nil (seg_execs_nil (cont _ _ _ m5 ⟨true, _, _, h5, fun _ => by simp, fun q => by (first | (revert q; walk_at "Z") | omega), rfl, hee, pre, hpre⟩ (g4.kept ga K5))))
        · rw [esc_f h92] at hpre ⊢
          rw [List.length_cons]
          have hee' : escEnd false (x.drop (i + 1)) = false := by simpa [escEnd, h92] using hee
          rw [show decide (d = 92) = false from decide_eq_false h92]
          show Seg _ _ _ _ _ _ _ ((execs (_ :: _) env).wrap _ _ _ _) _ _
          refine seg_execs_cons (seg_yieldY (p := i) (ch := [d]) oA.handled ga g4 (by rfl) (by rfl) hco hin (item_at hpre) ?_ ?_)
          · refine TW.withOk (okl _ _ _ _) fun okX => ?_
            repeat walk_at "S"
            exact ⟨by simp, fun D hD => ⟨fun _ h => .tail _ h, rfl, D, _, _, 0, rfl, .head _, hD⟩⟩
          · intro s5 g5
            exact seg_execs_nil (seg_execs_nil (seg_execs_nil (cont _ _ _ _ ⟨false, _, _, by walk_at "H", fun _ => by simp, fun _ => rfl, rfl, hee', pre ++ [(i, [d])], by simpa using hpre⟩ g5)))
    · rintro k s₁ s m1 ⟨esc, pv, tp, hL1, hpv, hesc, rfl, hee, pre, hpre⟩ F3 hsin
      have hdl : x.drop x.length = [] := by simp
      rw [hdl] at hee ⊢
      have hesc0 : esc = false := hee
      subst hesc0
      refine seg_again rfl ?_
      show Seg _ _ _ _ _ _ _ (leafOf (.ok .next)) _ _
      refine seg_leaf (.ok .next) (hK' _ _ _ ?_)
      show Seg _ _ _ _ _ _ _ ((execs (_ :: _) env).wrap _ _ _ _) _ _
      refine seg_execs_cons (seg_If (Q := fun b m' => b = false ∧ m' = m1) F3 ?_ ?_)
      · exact t_tval (t_localH hL1 (okf _) hse (by rfl) (by rfl) (b_bool ⟨fun _ h => h, rfl, rfl⟩) (by rfl)) (by rfl)
      rintro b m3 s3 K3 ⟨rfl, rfl⟩
      show Seg _ _ _ _ _ _ _ ((execs [] env).wrap _ _ _ _) _ _
      refine seg_execs_nil (seg_execs_nil ?_)
      show Seg _ _ _ _ _ _ _ (leafOf (.ok (.ret .none))) _ _
      exact seg_end _ ⟨rfl, rfl, hsin.kept K3⟩
  · rintro j m' N' ⟨vs, ep, vo, ts, rfl, _⟩; rfl
  · exact ⟨[], 0, .none, _, rfl, .nil, rfl, by walk_at "H"⟩
  · rintro j m' N' T p ch t1 u1 ep1 Own hit ⟨vs, ep, vo, ts, rfl, hv, ho, hL⟩ hT hO
    rw [foldl_take hit]
    have hTD : T ≠ D := fun e => hT _ (List.mem_append.mpr (.inr (.head _))) e.symm
    have hOD : ∀ q ∈ Own, q.1 ≠ D := fun q hq e => hO q hq _ (.head _) e.symm
    have hmD : (D, listOf vs.toArray ep) ∈ (T, tupOf [.int (p : Nat) t1, .str (S ch) u1].toArray ep1) :: (Own ++ (D, listOf vs.toArray ep) :: N) := .tail _ (List.mem_append.mpr (.inr (.head _)))
    have hres : (((escItems 0 false x).take j).foldl (sqStep x) ⟨0, none, []⟩).res.length ≤ j := by
      have := (sq_len x ((escItems 0 false x).take j) ⟨0, none, []⟩).1
      simp only [List.length_nil, List.length_take] at this
      (first | (revert this; walk_at "Z") | omega)
    have hjl : j ≤ 1001 := by
      have := esc_len x 0 false
      have h2 := (List.getElem?_eq_some_iff.mp hit).1
      (first | (revert h2 hz this; walk_at "Z") | omega)
    generalize ((escItems 0 false x).take j).foldl (sqStep x) ⟨0, none, []⟩ = q at hv ho hL hres ⊢
    obtain ⟨st, op, res⟩ := q
    simp only [] at hv ho hL hres ⊢
    have hvl := hv.len
    refine t_pair (o'.mono (k := n) (by (first | walk_at "Z" | walk_at "O"))) (.head _) ?_
    repeat walk_at "S"
    refine t_dec (fun hch => ?_) (fun hch => ?_)
    · subst hch
      repeat walk_at "S"
      cases op with
      | none =>
        rw [sq_q0]
        have hvo : vo = .none := ho
        subst hvo
        refine t_true ?_
        repeat walk_at "S"
        exact ⟨(D, listOf vs.toArray ep) :: N, fun _ h => .tail _ h, vs, ep, _, _, rfl, hv, ⟨_, rfl⟩, by walk_at "H"⟩
      | some a =>
        rw [sq_q1]
        obtain ⟨ta, hvo⟩ : ∃ t, vo = .int (a : Int) t := ho
        subst hvo
        refine t_false ?_
        repeat walk_at "S"
        refine t_dec (fun hne => ?_) (fun hne => ?_)
        · repeat walk_at "S"
          refine m_append hmD rfl rfl ?_
          repeat walk_at "S"
          refine sl_str (x := x) (by (first | (revert hz; walk_at "Z") | walk_at "O")) (.int _ _) (.int _ _) fun t5 => ?_
          repeat walk_at "S"
          refine a_append (vs := vs) hmD (by (first | (revert hjl hres hvl; walk_at "Z") | walk_at "O")) fun ep' => ?_
          refine ⟨trivial, ?_⟩
          repeat walk_at "S"
          refine ⟨(D, listOf (vs ++ [Value.str (S (cut x (some (st : Int)) (some (a : Int)))) t5]).toArray ep') :: N, ?_, vs ++ [Value.str (S (cut x (some (st : Int)) (some (a : Int)))) t5], ep', .none, _, rfl, ?_, rfl, by walk_at "H"⟩
          · intro q hq
            rw [put_tail hTD, put_app hOD, put_head hD]
            exact .tail _ hq
          · rw [if_pos (show st ≠ a by (first | (revert hne; walk_at "Z") | omega))]
            exact hv.snoc _ _
        · repeat walk_at "S"
          refine ⟨(D, listOf vs.toArray ep) :: N, fun _ h => .tail _ h, vs, ep, .none, _, rfl, ?_, rfl, by walk_at "H"⟩
          rw [if_neg (show ¬ (st ≠ a) by (first | (revert hne; walk_at "Z") | omega))]
          exact hv
    · repeat walk_at "S"
      rw [sq_o hch]
      exact ⟨(D, listOf vs.toArray ep) :: N, fun _ h => .tail _ h, vs, ep, vo, ts, rfl, hv, ho, by walk_at "H"⟩
  · rintro m' N' ⟨vs, ep, vo, ts, rfl, hv, ho, hL⟩
    rw [List.take_length] at hv ho hL
    have hall : (escItems 0 false x).foldl (sqStep x) ⟨0, none, []⟩ = sqAll x := rfl
    rw [hall] at hv ho hL
    have hst : stripOf x = (if (sqAll x).start < x.length then (sqAll x).res ++ [cut x (some ((sqAll x).start : Int)) none] else (sqAll x).res).flatten := by rw [stripOf, if_pos hq]
    have hfl := sqAll_flat hz
    have hvl := hv.len
    generalize sqAll x = qa at hv ho hL hst hfl hvl
    repeat walk_at "S"
    refine a_lens (by (first | (revert hz; walk_at "Z") | walk_at "O")) fun t5 => ?_
    repeat walk_at "S"
    refine t_dec (fun hlt => ?_) (fun hlt => ?_)
    · rw [if_pos (show qa.start < x.length by (first | (revert hlt; walk_at "Z") | omega))] at hst
      repeat walk_at "S"
      refine m_append (.head _) rfl rfl ?_
      repeat walk_at "S"
      refine sl_str (x := x) (by (first | (revert hz; walk_at "Z") | walk_at "O")) (.int _ _) .none fun t5 => ?_
      repeat walk_at "S"
      refine a_append (vs := vs) (.head _) (by (first | (revert hfl hvl; walk_at "Z") | walk_at "O")) fun ep' => ?_
      refine ⟨trivial, ?_⟩
      rw [put_head hD]
      repeat walk_at "S"
      have hcl := cut_len x (some (qa.start : Int)) none
      refine a_join (.head _) (hv.snoc _ _) (by rw [List.flatten_append]; simp only [List.length_append, List.flatten_cons, List.flatten_nil, List.append_nil]; (first | (revert hcl hfl hz; walk_at "Z") | omega)) fun t6 => ?_
      repeat walk_at "S"
      have := h t6
      rw [hst] at this
      exact ⟨N, by walk_at "U", this⟩
    · rw [if_neg (show ¬ qa.start < x.length by (first | (revert hlt; walk_at "Z") | omega))] at hst
      repeat walk_at "S"
      refine a_join (.head _) hv (by (first | (revert hfl; walk_at "Z") | walk_at "O")) fun t6 => ?_
      repeat walk_at "S"
      have := h t6
      rw [hst] at this
      exact ⟨N, by walk_at "U", this⟩
end

-- h1
section
variable {γ : GP} {c : Act} {n : Nat} {m : Loc} {N : Cells}
theorem isStr {s : Shared} {x : Str} {t : Tok} : s.TypeIs (.str x t) "str" := rfl
theorem f_conv {self : Value} {x : List Nat} {t : Tok} {b : Bool} {Q : Value → Loc → Cells → Prop} (o : Ok (GS γ) (n + 1) c) (hn : NoCtl x) (hz : x.length ≤ 16777216) (h : Q (.str (S x) t) m N) :
    TW (GS γ) c (call (.ref 118) [self, .str (S x) t] [(Str.ofString "name", .bool b)]) m N Q := by
  refine t_callH [(Str.ofString "self", self), (Str.ofString "value", .str (S x) t), (Str.ofString "name", .bool b)] o (by rfl) (by rfl) (fun s X => BindsTo.of_eq (by rfl)) (locs (by rfl)) (by decide) (by rfl) (by rfl) (by rfl) (by rfl) ?_
  intro c' m' hs o' hL
  repeat walk_at "S"
  refine a_type (fun s _ => isStr) (by decide) ?_
  repeat walk_at "S"
  refine o_istype ?_
  repeat walk_at "S"
  refine t_pos (by decide) ?_
  repeat walk_at "S"
  cases b with
  | true =>
    refine t_true ?_
    repeat walk_at "S"
    refine g_search o' (by rfl) ?_
    repeat walk_at "S"
    refine a_searchN (C := 82) o' (by rfl) (by rfl) (by rfl) (by rfl) (by rfl) (.inl (by decide +kernel)) hz hn ?_
    repeat walk_at "S"
    refine t_false ?_
    repeat walk_at "S"
    exact ⟨N, by walk_at "U", h⟩
  | false =>
    refine t_false ?_
    repeat walk_at "S"
    refine g_search o' (by rfl) ?_
    repeat walk_at "S"
    refine a_searchN (C := 87) o' (by rfl) (by rfl) (by rfl) (by rfl) (by rfl) (.inr (by decide +kernel)) hz hn ?_
    repeat walk_at "S"
    refine t_false ?_
    repeat walk_at "S"
    exact ⟨N, by walk_at "U", h⟩
/-- what a Headers holds -/
structure HdrIs (x dx H : Addr) (N : Cells) : Prop where
  ins : ∃ hsh t, InsIs 217 x dx [⟨hsh, .str (Str.ofString "_headers") t, .ref H⟩] 1 N
theorem HdrIs.of {x dx H : Addr} {N N' : Cells} (I : HdrIs x dx H N) (h : ∀ o, (x, o) ∈ N → (x, o) ∈ N') (h' : ∀ o, (dx, o) ∈ N → (dx, o) ∈ N') : HdrIs x dx H N' := by
  obtain ⟨hsh, t, J⟩ := I.ins
  exact ⟨hsh, t, ⟨h _ J.ob, h' _ J.dict⟩⟩
theorem f_new {H : Addr} {ep : Nat} {Q : Value → Loc → Cells → Prop} (o : Ok (GS γ) (n + 3) c) (hm : (H, listOf [].toArray ep) ∈ N) (h : ∀ x dx N', Fresh x N → Fresh dx N → (∀ p ∈ N, p ∈ N') → HdrIs x dx H N' → Q (.ref x) m N') :
    TW (GS γ) c (call (.ref 217) [.ref H]) m N Q := by
  refine t_make (f := 111) (fun x => [(Str.ofString "self", .ref x), (Str.ofString "headers", .ref H)]) o (by rfl) (by rfl) (by rfl) (by rfl) (by rfl) (fun x s X => kp_binds X (by intro _; rfl)) (fun x => locs (by rfl)) (by decide) (by rfl) (by rfl) (by rfl) (fun x => by rfl) ?_
  intro c' m' x dx hs o' hL hFx hFd hne
  repeat walk_at "S"
  refine t_pos (by rfl) ?_
  repeat walk_at "S"
  refine a_type (fun s N' => (isList_of (N'.get (.tail _ (.tail _ hm)))).typeIs) (by decide) ?_
  repeat walk_at "S"
  refine o_isnottype ?_
  repeat walk_at "S"
  refine t_neg (by rfl) ?_
  repeat walk_at "S"
  refine a_setattr1 o' hFd hne (by rfl) (by rfl) (by rfl) (by rfl) fun hsh tk => ?_
  repeat walk_at "S"
  refine t_true ?_
  repeat walk_at "S"
  walk_at "F"
  repeat walk_at "S"
  refine for_itP o' (it_list (vs := []) (.tail _ (.tail _ hm))) (by simpa using hm) (fun i m' => True) trivial (fun I o'' i m' v hi => absurd hi (by simp)) (fun m' _ => ?_)
  repeat walk_at "S"
  exact ⟨_, fun _ h => h, rfl, h x dx _ hFx hFd (fun _ h => .tail _ (.tail _ h)) ⟨_, _, .head _, .tail _ (.head _)⟩⟩
def hget (ps : List (List Nat × List Nat)) (a : List Nat) : Option (List Nat) := (ps.find? fun p => p.1.map lo1 = a.map lo1).map (·.2)
def GetR (D : Value) (r : Value) : Option (List Nat) → Prop
  | some y => ∃ t, r = .str (S y) t
  | none => r = D
theorem noctl_lower {a : List Nat} (h : NoCtl a) : NoCtl (a.map lo1) := by
  intro d hd
  obtain ⟨e, he, rfl⟩ := List.mem_map.mp hd
  have := h e he
  unfold lo1; split <;> (first | (revert this; walk_at "Z") | omega)
theorem hget_none {ps : List (List Nat × List Nat)} {a : List Nat} (h : ∀ p ∈ ps, p.1.map lo1 ≠ a.map lo1) : hget ps a = none := by
  unfold hget
  rw [List.find?_eq_none.mpr]; rfl
  intro p hp; simpa using h p hp
theorem hget_at {ps : List (List Nat × List Nat)} {a : List Nat} {i : Nat} {p : List Nat × List Nat} (hi : ps[i]? = some p) (h : ∀ q ∈ ps.take i, q.1.map lo1 ≠ a.map lo1) (he : p.1.map lo1 = a.map lo1) : hget ps a = some p.2 := by
  have hlt := (List.getElem?_eq_some_iff.mp hi).1
  have e := (List.getElem?_eq_some_iff.mp hi).2
  unfold hget
  have : ps = ps.take i ++ p :: ps.drop (i + 1) := by
    rw [← e, List.getElem_cons_drop, List.take_append_drop]
  rw [this, List.find?_append, List.find?_eq_none.mpr (by intro q hq; simpa using h q hq)]
  simp [he]
theorem f_get {x dx H : Addr} {args : List Value} {D : Value} {vs : List Value} {ps : List (List Nat × List Nat)} {ep : Nat} {a : List Nat} {t : Tok} {Q : Value → Loc → Cells → Prop} (o : Ok (GS γ) (n + 2) c)
    (hargs : (args = [.ref x, .str (S a) t] ∧ D = .none) ∨ args = [.ref x, .str (S a) t, D]) (I : HdrIs x dx H N) (hm : (H, listOf vs.toArray ep) ∈ N) (hp : Prs N vs ps) (ha : Ascii a) (hn : NoCtl a) (hz : a.length ≤ 1000000)
    (hps : ∀ p ∈ ps, Ascii p.1 ∧ p.1.length ≤ 1000000) (hl : ps.length ≤ 1000000) (h : ∀ r, GetR D r (hget ps a) → Q r m N) : TW (GS γ) c (call (.ref 164) args) m N Q := by
  refine t_callH [(Str.ofString "self", .ref x), (Str.ofString "name", .str (S a) t), (Str.ofString "default", D)] o (by rfl) (by rfl) (fun s X => ?_) (locs (by rfl)) (by decide) (by rfl) (by rfl) (by rfl) (by rfl) ?_
  · rcases hargs with ⟨rfl, rfl⟩ | rfl
    · exact kp_binds X (by intro _; rfl)
    · exact kp_binds X (by intro _; rfl)
  intro c' m' hs o' hL
  have hlen := hp.len
  obtain ⟨hsh, t0, J⟩ := I.ins
  repeat walk_at "S"
  refine mk_inst o' J (by rfl) (by rfl) (by rfl) (by rfl) ?_
  repeat walk_at "S"
  refine a_lower ha (by (first | (revert hz; walk_at "Z") | walk_at "O")) fun t1 => ?_
  repeat walk_at "S"
  refine f_conv o' (noctl_lower hn) (by simpa using (by (first | (revert hz; walk_at "Z") | omega) : a.length ≤ 16777216)) ?_
  repeat walk_at "S"
  walk_at "F"
  repeat walk_at "S"
  refine a_attr o' J (by rfl) (by rfl) (by rfl) (by rfl) (by rfl) (by rfl) ?_
  refine for_itP o' (it_list hm) (by simpa using hm) (fun i m' => Has m' [(Str.ofString "self", .ref x), (Str.ofString "name", .str (S (a.map lo1)) t1), (Str.ofString "default", D)] ∧ ∀ q ∈ ps.take i, q.1.map lo1 ≠ a.map lo1) ?_ ?_ ?_
  · exact ⟨by walk_at "H", by simp⟩
  · rintro i o'' i m' v hi hI ⟨hL, hq⟩ hv _ _
    have hi' : i < ps.length := by (first | (revert hi hlen; walk_at "Z") | omega)
    obtain ⟨T, t2, u2, ep2, hv2, hT⟩ := hp.get (a := ps[i].1) (b := ps[i].2) (List.getElem?_eq_getElem hi')
    rw [hv2] at hv
    obtain rfl := Option.some.inj hv
    have hpi := hps _ (List.getElem_mem hi')
    refine t_pair o' (.tail _ hT) ?_
    repeat walk_at "S"
    refine a_lower hpi.1 (by (first | (revert hpi; walk_at "Z") | walk_at "O")) fun t3 => ?_
    repeat walk_at "S"
    refine t_dec (fun he => ?_) (fun he => ?_)
    · repeat walk_at "S"
      exact ⟨fun _ h => .tail _ h, ⟨N, fun _ h => h, h _ (by rw [hget_at (List.getElem?_eq_getElem hi') hq he]; exact ⟨_, rfl⟩)⟩⟩
    · repeat walk_at "S"
      refine ⟨fun _ h => h, by walk_at "H", fun q hq' => ?_⟩
      rw [List.take_succ_eq_append_getElem hi'] at hq'
      rcases List.mem_append.mp hq' with hq' | hq'
      · exact hq q hq'
      · simp at hq'; subst hq'; exact he
  · rintro m' ⟨hL, hq⟩
    rw [hlen, List.take_length] at hq
    repeat walk_at "S"
    exact ⟨N, by walk_at "U", h _ (by rw [hget_none hq]; rfl)⟩
theorem f_contains {x dx H : Addr} {vs : List Value} {ps : List (List Nat × List Nat)} {ep : Nat} {a : List Nat} {t : Tok} {Q : Value → Loc → Cells → Prop} (o : Ok (GS γ) (n + 3) c)
    (I : HdrIs x dx H N) (hm : (H, listOf vs.toArray ep) ∈ N) (hp : Prs N vs ps) (ha : Ascii a) (hn : NoCtl a) (hz : a.length ≤ 1000000)
    (hps : ∀ p ∈ ps, Ascii p.1 ∧ p.1.length ≤ 1000000) (hl : ps.length ≤ 1000000) (h : Q (.bool (hget ps a).isSome) m N) : TW (GS γ) c (call (.ref 151) [.ref x, .str (S a) t]) m N Q := by
  refine t_callH [(Str.ofString "self", .ref x), (Str.ofString "name", .str (S a) t)] o (by rfl) (by rfl) (fun s X => BindsTo.of_eq (by rfl)) (locs (by rfl)) (by decide) (by rfl) (by rfl) (by rfl) (by rfl) ?_
  intro c' m' hs o' hL
  obtain ⟨hsh, t0, J⟩ := I.ins
  repeat walk_at "S"
  refine m_inst o' J (by rfl) (by rfl) (by rfl) (by rfl) ?_
  repeat walk_at "S"
  refine f_get o' (.inl ⟨rfl, rfl⟩) I hm hp ha hn hz hps hl fun r hr => ?_
  repeat walk_at "S"
  have e : (!(r == Value.none)) = (hget ps a).isSome := by
    cases q : hget ps a with
    | none => rw [q] at hr; rw [show r = .none from hr]; rfl
    | some y => rw [q] at hr; obtain ⟨t, rfl⟩ := hr; rfl
  rw [e]
  exact ⟨N, by walk_at "U", h⟩
theorem f_add {x dx H : Addr} {vs : List Value} {ep : Nat} {a b : List Nat} {t u : Tok} {Q : Value → Loc → Cells → Prop} (o : Ok (GS γ) (n + 2) c)
    (I : HdrIs x dx H N) (hm : (H, listOf vs.toArray ep) ∈ N) (hna : NoCtl a) (hnb : NoCtl b) (hz : a.length ≤ 1000000) (hzb : b.length ≤ 1000000) (hl : vs.length ≤ 1000000)
    (h : ∀ T t' ep' ep2, Fresh T N → Q .none m (put H (listOf (vs ++ [Value.ref T]).toArray ep') ((T, tupOf [Value.str (S a) t, .str (S b) t'].toArray ep2) :: N))) :
    TW (GS γ) c (call (.ref 214) [.ref x, .str (S a) t, .str (S b) u]) m N Q := by
  refine t_callKW (fun d => [(Str.ofString "self", .ref x), (Str.ofString "_name", .str (S a) t), (Str.ofString "_value", .str (S b) u), (Str.ofString "_params", .ref d)]) o (by rfl) (by rfl) (by rfl) (fun d => locs (by rfl)) (by decide) (by rfl) (by rfl) (by rfl) (fun d => by rfl) ?_
  intro c' m' d hs o' hL hFd hd
  obtain ⟨hsh, t0, J⟩ := I.ins
  repeat walk_at "S"
  refine ⟨by simp, fun D hD => ?_⟩
  repeat walk_at "S"
  refine t_pos (by rfl) ?_
  repeat walk_at "S"
  refine mk_inst o' J.tail.tail (by rfl) (by rfl) (by rfl) (by rfl) ?_
  repeat walk_at "S"
  refine f_conv o' hnb (by (first | (revert hzb; walk_at "Z") | walk_at "O")) ?_
  repeat walk_at "S"
  refine m_append (.head _) rfl rfl ?_
  repeat walk_at "S"
  refine a_append (vs := []) (.head _) (by simp) fun ep1 => ?_
  refine ⟨trivial, ?_⟩
  have hDd : D ≠ d := fun e => hD _ (.head _) e.symm
  rw [put_head hD]
  repeat walk_at "S"
  walk_at "F"
  repeat walk_at "S"
  refine g_items (.tail _ (.head _)) ?_
  repeat walk_at "S"
  refine a_items (.tail _ (.head _)) hd fun v hv => ?_
  refine for_items0 o' (.head _) (.tail _ (.tail _ (.head _))) ?_
  repeat walk_at "S"
  refine a_attr o' J.tail.tail.tail (by rfl) (by rfl) (by rfl) (by rfl) (by rfl) (by rfl) ?_
  refine m_append (.tail _ (.tail _ (.tail _ hm))) rfl rfl ?_
  repeat walk_at "S"
  refine mk_inst o' J.tail.tail.tail (by rfl) (by rfl) (by rfl) (by rfl) ?_
  repeat walk_at "S"
  refine f_conv o' hna (by (first | (revert hz; walk_at "Z") | walk_at "O")) ?_
  repeat walk_at "S"
  refine a_join1 (.tail _ (.head _)) (by show b.length + 2 ≤ 16777216; (first | (revert hzb; walk_at "Z") | omega)) fun t2 => ?_
  repeat walk_at "S"
  refine ⟨by simp, fun T hT => ?_⟩
  repeat walk_at "S"
  refine a_append (vs := vs) (.tail _ (.tail _ (.tail _ (.tail _ hm)))) (by (first | (revert hl; walk_at "Z") | walk_at "O")) fun ep' => ?_
  refine ⟨trivial, ?_⟩
  repeat walk_at "S"
  refine ⟨_, put_sub ?_, h T t2 ep' 0 (hT.sub fun p hp => .tail _ (.tail _ (.tail _ hp)))⟩
  intro p hp
  rcases List.mem_cons.mp hp with rfl | hp
  · exact .head _
  · exact .tail _ (.tail _ (.tail _ (.tail _ hp)))
end

-- v1
/-- a number to the base 64, read from octets: what stands behind val -/
def vmore (val : Nat) : List Nat → Option (Nat × List Nat)
  | [] => none
  | b :: r => if b / 64 % 2 = 1 then vmore (val * 64 + b % 64) r else some (val * 64 + b % 64, r)
theorem vmore_head {b val v : Nat} {r r' : List Nat} (h : vmore val (b :: r) = some (v, r')) : (b / 64 % 2 = 1 ∧ vmore (val * 64 + b % 64) r = some (v, r')) ∨ (b / 64 % 2 ≠ 1 ∧ v = val * 64 + b % 64 ∧ r' = r) := by
  unfold vmore at h
  split at h
  · rename_i q; exact .inl ⟨q, h⟩
  · rename_i q; simp at h; exact .inr ⟨q, h.1.symm, h.2.symm⟩
theorem ints_get {vs : List Value} {bs : List Nat} (h : IntsAre vs (bs.map fun (b : Nat) => (b : Int))) {i : Nat} {b : Nat} {r : List Nat} (e : bs.drop i = b :: r) : ∃ t, vs[i]? = some (.int (b : Int) t) := by
  induction bs generalizing vs i with
  | nil => simp at e
  | cons c bs ih =>
    cases h with
    | cons x t h =>
      cases i with
      | zero => simp at e; obtain ⟨rfl, rfl⟩ := e; exact ⟨t, rfl⟩
      | succ i => simp at e; simpa using ih h e
theorem drop_more {bs : List Nat} {i b : Nat} {r : List Nat} (e : bs.drop i = b :: r) : bs.drop (i + 1) = r := by
  rw [← List.drop_drop, e]; rfl
section
variable {γ : GP} {c : Act} {n : Nat} {m : Loc} {N : Cells}
theorem f_varint {I l : Addr} {ob : Obj} {vs : List Value} {ep i v : Nat} {bs r : List Nat} {Q : Value → Loc → Cells → Prop} (o : Ok (GS γ) (n + 1) c) (hm : (I, ob) ∈ N) (hi : isLI l i ob) (hl : (l, listOf vs.toArray ep) ∈ N) (hne : l ≠ I)
    (hb : IntsAre vs (bs.map fun (b : Nat) => (b : Int))) (hlen : bs.length ≤ 100000) (hread : vmore 0 (bs.drop i) = some (v, r)) (h : ∀ t ob' j, isLI l j ob' → bs.drop j = r → Q (.int v t) m (put I ob' N)) :
    TW (GS γ) c (call (.ref 59) [.ref I]) m N Q := by
  refine t_callH [(Str.ofString "iterator", .ref I)] o (by rfl) (by rfl) (fun s X => BindsTo.of_eq (by rfl)) (locs (by rfl)) (by decide) (by rfl) (by rfl) (by rfl) (by rfl) ?_
  intro c' m' hs o' hL
  obtain ⟨b, r0, e0⟩ : ∃ b r0, bs.drop i = b :: r0 := by
    cases e : bs.drop i with
    | nil => rw [e] at hread; simp [vmore] at hread
    | cons b r0 => exact ⟨b, r0, rfl⟩
  obtain ⟨t0, hx⟩ := ints_get hb e0
  repeat walk_at "S"
  refine a_next hm hi hl hx fun ob1 hi1 => ?_
  repeat walk_at "S"
  rw [e0] at hread
  have ed := drop_more e0
  rw [← ed] at hread
  simp only [band_63] at *
  refine t_While (fun d m' N' => Ex6 fun j b0 val tb tv obj => And6 (N' = put I obj N) (isLI l j obj) (d = (bs.drop j).length) (val < 64 ^ j) (Has m' [(Str.ofString "iterator", .ref I), (Str.ofString "b", .int (b0 : Nat) tb), (Str.ofString "val", .int (val : Nat) tv)]) ((b0 / 64 % 2 = 1 ∧ vmore val (bs.drop j) = some (v, r)) ∨ (b0 / 64 % 2 ≠ 1 ∧ v = val ∧ r = bs.drop j))) _ ⟨i + 1, b, b % 64, _, _, ob1, rfl, hi1, rfl, ?_, by walk_at "H", ?_⟩ ?_
  · have : 64 ^ 1 ≤ 64 ^ (i + 1) := Nat.pow_le_pow_right (by decide) (by (first | walk_at "Z" | walk_at "O"))
    have := Nat.mod_lt b (show 64 > 0 by decide)
    omega
  · rcases vmore_head hread with ⟨h1, h2⟩ | ⟨h1, h2, h3⟩
    · exact .inl ⟨h1, by simpa using h2⟩
    · exact .inr ⟨h1, by (first | (revert h2; walk_at "Z") | omega), h3⟩
  rintro d m1 N1 ⟨j, b0, val, tb, tv, obj, rfl, hj, rfl, hval, hL, hc⟩ _ _
  repeat walk_at "S"
  rw [band_64]
  have hl' : (l, listOf vs.toArray ep) ∈ put I obj N := put_other hl hne
  have hm' : (I, obj) ∈ put I obj N := put_mem hm
  rcases hc with ⟨hc, hv⟩ | ⟨hc, rfl, rfl⟩
  · rw [hc]
    refine t_pos (by decide) ?_
    obtain ⟨b1, r1, e1⟩ : ∃ b1 r1, bs.drop j = b1 :: r1 := by
      cases e : bs.drop j with
      | nil => rw [e] at hv; simp [vmore] at hv
      | cons b r => exact ⟨b, r, rfl⟩
    obtain ⟨t1, hx1⟩ := ints_get hb e1
    have hjl : j < bs.length := by
      rcases Nat.lt_or_ge j bs.length with q | q
      · exact q
      · rw [List.drop_of_length_le q] at e1; cases e1
    have ed1 := drop_more e1
    rw [e1] at hv
    repeat walk_at "S"
    have hbits : PySem.Builtin.Int.intBits ((val : Nat) : Int) ≤ 6 * j := by
      refine intBits_le_iff.mpr ?_
      rw [Nat.pow_mul]; exact hval
    refine i_shl (by decide) (by (first | (revert hbits hjl hlen; walk_at "Z") | walk_at "O")) fun t2 => ?_
    repeat walk_at "S"
    refine a_next hm' hj hl' hx1 fun ob2 hi2 => ?_
    rw [put_put]
    repeat walk_at "S"
    have e6 : ((val : Nat) : Int) * 2 ^ (Int.toNat 6) = ((val * 64 : Nat) : Int) := by push_cast; rfl
    simp only [band_63, e6, bor_low _ _ (Nat.mod_lt b1 (show 64 > 0 by decide))] at *
    refine ⟨(bs.drop (j + 1)).length, put I ob2 N, by simp; (first | (revert hjl; walk_at "Z") | omega), fun _ h => h, j + 1, b1, val * 64 + b1 % 64, _, _, ob2, rfl, hi2, rfl, ?_, by walk_at "H", ?_⟩
    · have := Nat.mod_lt b1 (show 64 > 0 by decide)
      rw [Nat.pow_succ]; (first | (revert hval; walk_at "Z") | omega)
    · rcases vmore_head hv with ⟨h1, h2⟩ | ⟨h1, h2, h3⟩
      · exact .inl ⟨h1, by rw [ed1]; exact h2⟩
      · exact .inr ⟨h1, h2, by rw [ed1]; exact h3⟩
  · have hc0 : b0 / 64 % 2 = 0 := by (first | (revert hc; walk_at "Z") | omega)
    rw [hc0]
    refine t_neg (by decide) ?_
    repeat walk_at "S"
    exact ⟨_, fun _ h => h, h _ _ _ hj rfl⟩
end

-- l1
def subst (a b : Nat) : Int := if a = b then 0 else if lo1 a = lo1 b then 1 else 2
def trimP : List Nat → List Nat → List Nat × List Nat
  | x :: a, y :: b => if x = y then trimP a b else (x :: a, y :: b)
  | a, b => (a, b)
structure LS where
  row : List Int
  d : Int
  res : Int
  mn : Int
def lstep (y : Nat) (a : List Nat) (s : LS) (i : Nat) : LS :=
  let res' := min (min s.res (s.row.getD i 0) + 2) (s.d + subst y (a.getD i 0))
  ⟨s.row.set i res', s.row.getD i 0, res', if res' < s.mn then res' else s.mn⟩
def lrow (y : Nat) (a : List Nat) (bi : Nat) (row : List Int) : Nat → LS
  | 0 => ⟨row, bi * 2, bi * 2, 9223372036854775807⟩
  | i + 1 => lstep y a (lrow y a bi row i) i
def lgo (a b : List Nat) (mc : Int) : Nat → Nat → List Int → Int → Int
  | 0, _, _, res => res
  | k + 1, j, row, _ =>
    let s := lrow (b.getD j 0) a j row a.length
    if mc < s.mn then mc + 1 else lgo a b mc k (j + 1) s.row s.res
def lev3 (a b : List Nat) (mc : Int) : Int :=
  if mc < ((b.length : Int) - a.length) * 2 then mc + 1 else lgo a b mc b.length 0 ((List.range a.length).map fun (i : Nat) => (2 : Int) + i * 2) 0
def lev2 (a b : List Nat) (mc : Int) : Int :=
  if a = [] ∨ b = [] then 2 * ((a.length : Int) + b.length) else if b.length < a.length then lev3 b a mc else lev3 a b mc
def lev1 (a b : List Nat) (mc : Int) : Int :=
  let p := trimP a b
  let q := trimP p.1.reverse p.2.reverse
  lev2 q.1.reverse q.2.reverse mc
def lev (a b : List Nat) (mc : Int) : Int := if a = b then 0 else lev1 a b mc

theorem trimP_end {a b : List Nat} (h : ∀ x a' y b', a = x :: a' → b = y :: b' → x ≠ y) : trimP a b = (a, b) := by
  cases a with
  | nil => unfold trimP; rfl
  | cons x a =>
    cases b with
    | nil => unfold trimP; rfl
    | cons y b => unfold trimP; rw [if_neg (h x a y b rfl rfl)]
theorem trimP_step {x : Nat} {a b : List Nat} : trimP (x :: a) (x :: b) = trimP a b := by conv => lhs; unfold trimP; rw [if_pos rfl]
theorem lrow_len {y : Nat} {a : List Nat} {bi : Nat} {row : List Int} : ∀ i, (lrow y a bi row i).row.length = row.length
  | 0 => rfl
  | i + 1 => by
    show (List.set _ _ _).length = _
    rw [List.length_set, lrow_len i]
theorem drop_more' {bs : List Nat} {i b : Nat} {r : List Nat} (e : bs.drop i = b :: r) : bs.drop (i + 1) = r := by
  rw [← List.drop_drop, e]; rfl
theorem cut_from (x : List Nat) (k : Nat) : cut x (some (k : Int)) none = x.drop k := by
  unfold cut
  simp only [Option.elim, clip_nat]
  rcases Nat.le_total k x.length with h | h
  · rw [Nat.min_eq_left h]; apply List.take_of_length_le; simp
  · rw [Nat.min_eq_right h, List.drop_of_length_le h, List.drop_length]; simp
theorem cut_to (x : List Nat) (k : Nat) (hk : 0 < k) : cut x none (some (-(k : Int))) = x.take (x.length - k) := by
  unfold cut
  have := clipAt_cast x.length (-(k : Int))
  simp only [Option.elim]
  have e : clipAt x.length (-(k : Int)) = x.length - k := by (first | (revert hk this; walk_at "Z") | omega)
  rw [e]; simp
theorem cut_all (x : List Nat) : cut x none none = x := by simp [cut]
theorem rev_take (x : List Nat) (k : Nat) : (x.reverse.drop k).reverse = x.take (x.length - k) := by
  rw [List.drop_reverse, List.reverse_reverse]
theorem rev_get {x : List Nat} {k : Nat} (hk : k < x.length) : x.reverse[k]? = x[x.length - 1 - k]? := by
  rw [List.getElem?_reverse hk]
theorem t_sufP {G : St} {c : Act} {m : Loc} {N : Cells} {p v : Expr} {lo hi : Option Expr} {pp p2 p3 : Pos} {kk : Nat} {x : List Nat} {t tp : Tok} {k : Nat} {Q : Value → Loc → Cells → Prop}
    (hp : TW G c (eval p c.env) m N fun a m' N' => a = .int (-(k : Int)) tp ∧ m' = m ∧ N' = N) (hz : x.length ≤ 16777216) (h : ∀ t, Q (.str (S (x.take (x.length - k))) t) m N) :
    TW G c (eval (.BoolOp .Or [p, .Constant .none kk p2] p3) c.env) m N fun u m₃ N₃ => SliceW G c v (.Slice lo hi none pp) (.str (S x) t) .none u m₃ N₃ Q := by
  refine t_or2 (hp.mono ?_)
  rintro a m' N' ⟨rfl, rfl, rfl⟩
  refine b_int ?_
  by_cases hk : k = 0
  · subst hk
    refine t_neg (by simp) ?_
    refine t_none ?_
    refine sl_str (x := x) hz .none .none fun t' => ?_
    rw [cut_all]
    have := h t'
    simpa using this
  · refine t_pos (by simp; (first | (revert hk; walk_at "Z") | omega)) ?_
    refine sl_str (x := x) hz .none (.int _ _) fun t' => ?_
    rw [cut_to x k (by (first | (revert hk; walk_at "Z") | walk_at "O"))]
    exact h t'
section
variable {γ : GP} {c : Act} {n : Nat} {m : Loc} {N : Cells}
theorem f_subst {a b : Nat} {t u : Tok} {Q : Value → Loc → Cells → Prop} (o : Ok (GS γ) (n + 1) c) (ha : a < 128) (hb : b < 128) (h : ∀ t, Q (.int (subst a b) t) m N) :
    TW (GS γ) c (call (.ref 66) [.str (S [a]) t, .str (S [b]) u]) m N Q := by
  refine t_callH [(Str.ofString "ch_a", .str (S [a]) t), (Str.ofString "ch_b", .str (S [b]) u)] o (by rfl) (by rfl) (fun s X => BindsTo.of_eq (by rfl)) (locs (by rfl)) (by decide) (by rfl) (by rfl) (by rfl) (by rfl) ?_
  intro c' m' hs o' hL
  unfold subst at h
  repeat walk_at "S"
  refine t_dec (fun q => ?_) (fun q => ?_)
  · rw [if_pos (by simpa using q)] at h
    repeat walk_at "S"
    exact ⟨N, by walk_at "U", h _⟩
  rw [if_neg (by simpa using q)] at h
  repeat walk_at "S"
  refine a_lower (fun d hd => by simp at hd; (first | (revert ha hd; walk_at "Z") | omega)) (by simp) fun t1 => ?_
  repeat walk_at "S"
  refine a_lower (fun d hd => by simp at hd; (first | (revert hb hd; walk_at "Z") | omega)) (by simp) fun t2 => ?_
  repeat walk_at "S"
  refine t_dec (fun q => ?_) (fun q => ?_)
  · rw [if_pos (by simpa using q)] at h
    repeat walk_at "S"
    exact ⟨N, by walk_at "U", h _⟩
  · rw [if_neg (by simpa using q)] at h
    repeat walk_at "S"
    exact ⟨N, by walk_at "U", h _⟩
set_option maxHeartbeats 4000000 in
theorem f_lev {a b : List Nat} {mc : Int} {t u t3 : Tok} {Q : Value → Loc → Cells → Prop} (o : Ok (GS γ) (n + 2) c) (ha : Ascii a) (hb : Ascii b) (hla : a.length ≤ 40) (hlb : b.length ≤ 40) (h : ∀ t, Q (.int (lev a b mc) t) m N) :
    TW (GS γ) c (call (.ref 73) [.str (S a) t, .str (S b) u, .int mc t3]) m N Q := by
  refine t_callH [(Str.ofString "a", .str (S a) t), (Str.ofString "b", .str (S b) u), (Str.ofString "max_cost", .int mc t3)] o (by rfl) (by rfl) (fun s X => BindsTo.of_eq (by rfl)) (locs (by rfl)) (by decide) (by rfl) (by rfl) (by rfl) (by rfl) ?_
  intro c' m' hs o' hL
  unfold lev at h
  repeat walk_at "S"
  refine t_dec (fun q => ?_) (fun q => ?_)
  · rw [if_pos q] at h
    repeat walk_at "S"
    exact ⟨N, by walk_at "U", h _⟩
  rw [if_neg q] at h
  repeat walk_at "S"
  refine TW.mono (Q := fun f m' N' => And3 (f = .next) (N' = N) (Ex2 fun pre tp => trimP a b = (a.drop pre, b.drop pre) ∧ Has m' [(Str.ofString "a", .str (S a) t), (Str.ofString "b", .str (S b) u), (Str.ofString "max_cost", .int mc t3), (Str.ofString "pre", .int (pre : Nat) tp)]))
    (t_While (fun d m' N' => Ex2 fun pre tp => And5 (N' = N) (d = a.length - pre) (trimP (a.drop pre) (b.drop pre) = trimP a b) (pre ≤ a.length) (Has m' [(Str.ofString "a", .str (S a) t), (Str.ofString "b", .str (S b) u), (Str.ofString "max_cost", .int mc t3), (Str.ofString "pre", .int (pre : Nat) tp)])) _ ⟨0, _, rfl, rfl, by simp, by (first | walk_at "Z" | omega), by walk_at "H"⟩ ?_) ?_
  · rintro d m1 N1 ⟨pre, tp, rfl, rfl, hT, hpl, hL⟩ _ _
    repeat walk_at "S"
    refine sl_str (x := a) (by (first | (revert hla; walk_at "Z") | walk_at "O")) (.int _ _) .none fun t4 => ?_
    rw [cut_from]
    refine b_str (by simp; (first | (revert hla; walk_at "Z") | omega)) ?_
    refine t_dec (fun h1 => ?_) (fun h1 => ?_)
    rotate_left
    · refine t_false ⟨rfl, rfl, pre, _, ?_, by walk_at "H"⟩
      rw [← hT]; exact trimP_end fun x a' y b' e => absurd (by rw [e]; simp) h1
    repeat walk_at "S"
    refine sl_str (x := b) (by (first | (revert hlb; walk_at "Z") | walk_at "O")) (.int _ _) .none fun t4 => ?_
    rw [cut_from]
    refine b_str (by simp; (first | (revert hlb; walk_at "Z") | omega)) ?_
    refine t_dec (fun h2 => ?_) (fun h2 => ?_)
    rotate_left
    · refine t_false ⟨rfl, rfl, pre, _, ?_, by walk_at "H"⟩
      rw [← hT]; exact trimP_end fun x a' y b' e1 e => absurd (by rw [e]; simp) h2
    obtain ⟨xa, ra, ea⟩ : ∃ x r, a.drop pre = x :: r := by
      cases e : a.drop pre with
      | nil => rw [e] at h1; simp at h1
      | cons x r => exact ⟨x, r, rfl⟩
    obtain ⟨xb, rb, eb⟩ : ∃ x r, b.drop pre = x :: r := by
      cases e : b.drop pre with
      | nil => rw [e] at h2; simp at h2
      | cons x r => exact ⟨x, r, rfl⟩
    have ga : a[pre]? = some xa := by have := congrArg (fun l => l[0]?) ea; simpa using this
    have gb : b[pre]? = some xb := by have := congrArg (fun l => l[0]?) eb; simpa using this
    have la := (List.getElem?_eq_some_iff.mp ga).1
    have lb := (List.getElem?_eq_some_iff.mp gb).1
    repeat walk_at "S"
    refine s_str (by (first | (revert hla; walk_at "Z") | walk_at "O")) (by (first | walk_at "Z" | walk_at "O")) (by (first | (revert la; walk_at "Z") | walk_at "O")) (d := xa) (by rw [if_neg (by (first | walk_at "Z" | walk_at "O"))]; simpa using ga) fun t5 => ?_
    repeat walk_at "S"
    refine s_str (by (first | (revert hlb; walk_at "Z") | walk_at "O")) (by (first | walk_at "Z" | walk_at "O")) (by (first | (revert lb; walk_at "Z") | walk_at "O")) (d := xb) (by rw [if_neg (by (first | walk_at "Z" | walk_at "O"))]; simpa using gb) fun t6 => ?_
    repeat walk_at "S"
    refine t_dec (fun h3 => ?_) (fun h3 => ?_)
    rotate_left
    · repeat walk_at "S"
      refine t_false ⟨rfl, rfl, pre, _, ?_, by walk_at "H"⟩
      rw [← hT]; exact trimP_end fun x a' y b' e1 e2 => by
        rw [ea] at e1; rw [eb] at e2; simp at e1 e2 h3; rw [← e1.1, ← e2.1]; exact h3
    repeat walk_at "S"
    refine t_true ?_
    repeat walk_at "S"
    have e3 : xa = xb := by simpa using h3
    subst e3
    refine ⟨a.length - (pre + 1), N1, by (first | (revert la; walk_at "Z") | omega), fun _ h => h, pre + 1, _, rfl, rfl, ?_, by (first | (revert la; walk_at "Z") | omega), by walk_at "H"⟩
    rw [drop_more' ea, drop_more' eb, ← hT, ea, eb, trimP_step]
  rintro f m1 N1 ⟨rfl, rfl, pre, tp, hT, hL⟩
  repeat walk_at "S"
  obtain ⟨A, hA⟩ : ∃ A, A = a.drop pre := ⟨_, rfl⟩
  obtain ⟨B, hB⟩ : ∃ B, B = b.drop pre := ⟨_, rfl⟩
  refine sl_str (x := a) (by (first | (revert hla; walk_at "Z") | walk_at "O")) (.int _ _) .none fun t4 => ?_
  rw [cut_from, ← hA]
  repeat walk_at "S"
  refine sl_str (x := b) (by (first | (revert hlb; walk_at "Z") | walk_at "O")) (.int _ _) .none fun t5 => ?_
  rw [cut_from, ← hB]
  have hl1 : lev1 a b mc = lev2 (trimP (a.drop pre).reverse (b.drop pre).reverse).1.reverse (trimP (a.drop pre).reverse (b.drop pre).reverse).2.reverse mc := by unfold lev1; rw [hT]
  rw [hl1, ← hA, ← hB] at h
  have ha1 : Ascii A := fun d hd => ha d (List.mem_of_mem_drop (hA ▸ hd))
  have hb1 : Ascii B := fun d hd => hb d (List.mem_of_mem_drop (hB ▸ hd))
  have hla1 : A.length ≤ 40 := by rw [hA]; simp; (first | (revert hla; walk_at "Z") | omega)
  have hlb1 : B.length ≤ 40 := by rw [hB]; simp; (first | (revert hlb; walk_at "Z") | omega)
  repeat walk_at "S"
  refine TW.mono (Q := fun f m' N' => And3 (f = .next) (N' = N1) (Ex2 fun (k : Nat) (tp : Tok) => trimP A.reverse B.reverse = (A.reverse.drop k, B.reverse.drop k) ∧ Has m' [(Str.ofString "a", .str (S A) t4), (Str.ofString "b", .str (S B) t5), (Str.ofString "max_cost", .int mc t3), (Str.ofString "post", .int (-(k : Int)) tp)]))
    (t_While (fun d m' N' => Ex2 fun (k : Nat) (tp : Tok) => And6 (N' = N1) (d = A.length - k) (trimP (A.reverse.drop k) (B.reverse.drop k) = trimP A.reverse B.reverse) (k ≤ A.length) (k ≤ B.length) (Has m' [(Str.ofString "a", .str (S A) t4), (Str.ofString "b", .str (S B) t5), (Str.ofString "max_cost", .int mc t3), (Str.ofString "post", .int (-(k : Int)) tp)])) _ ⟨0, _, rfl, rfl, by simp, by (first | walk_at "Z" | omega), by (first | walk_at "Z" | omega), by walk_at "H"⟩ ?_) ?_
  · rintro d m2 N2 ⟨k, tp, rfl, rfl, hT, hkA, hkB, hL⟩ _ _
    repeat walk_at "S"
    refine t_sufP (k := k) (tp := tp) (by walk_at "S"; exact ⟨rfl, rfl, rfl⟩) (by (first | (revert hla1; walk_at "Z") | walk_at "O")) fun t6 => ?_
    refine b_str (by simp; (first | (revert hla1; walk_at "Z") | omega)) ?_
    refine t_dec (fun h1 => ?_) (fun h1 => ?_)
    rotate_left
    · refine t_false ⟨rfl, rfl, k, _, ?_, by walk_at "H"⟩
      have e0 : A.reverse.drop k = [] := by
        have := congrArg List.length (Classical.not_not.mp h1)
        apply List.drop_of_length_le; simp at this ⊢; (first | (revert this; walk_at "Z") | omega)
      rw [← hT]; exact trimP_end fun x a' y b' e => by rw [e0] at e; cases e
    repeat walk_at "S"
    refine t_sufP (k := k) (tp := tp) (by walk_at "S"; exact ⟨rfl, rfl, rfl⟩) (by (first | (revert hlb1; walk_at "Z") | walk_at "O")) fun t6 => ?_
    refine b_str (by simp; (first | (revert hlb1; walk_at "Z") | omega)) ?_
    refine t_dec (fun h2 => ?_) (fun h2 => ?_)
    rotate_left
    · refine t_false ⟨rfl, rfl, k, _, ?_, by walk_at "H"⟩
      have e0 : B.reverse.drop k = [] := by
        have := congrArg List.length (Classical.not_not.mp h2)
        apply List.drop_of_length_le; simp at this ⊢; (first | (revert this; walk_at "Z") | omega)
      rw [← hT]; exact trimP_end fun x a' y b' e1 e => by rw [e0] at e; cases e
    have la : k < A.length := by
      rcases Nat.lt_or_ge k A.length with q | q
      · exact q
      · exact absurd (by rw [show A.length - k = 0 by (first | (revert q; walk_at "Z") | omega)]; rfl) h1
    have lb : k < B.length := by
      rcases Nat.lt_or_ge k B.length with q | q
      · exact q
      · exact absurd (by rw [show B.length - k = 0 by (first | (revert q; walk_at "Z") | omega)]; rfl) h2
    have ga : A.reverse[k]? = some (A.reverse[k]'(by simpa using la)) := List.getElem?_eq_getElem _
    have gb : B.reverse[k]? = some (B.reverse[k]'(by simpa using lb)) := List.getElem?_eq_getElem _
    have ea : A.reverse.drop k = A.reverse[k]'(by simpa using la) :: A.reverse.drop (k + 1) := List.drop_eq_getElem_cons (by simpa using la)
    have eb : B.reverse.drop k = B.reverse[k]'(by simpa using lb) :: B.reverse.drop (k + 1) := List.drop_eq_getElem_cons (by simpa using lb)
    generalize A.reverse[k]'(by simpa using la) = xa at ga ea
    generalize B.reverse[k]'(by simpa using lb) = xb at gb eb
    rw [rev_get la] at ga
    rw [rev_get lb] at gb
    repeat walk_at "S"
    refine s_str (by (first | (revert hla1; walk_at "Z") | walk_at "O")) (by (first | (revert la; walk_at "Z") | walk_at "O")) (by (first | walk_at "Z" | walk_at "O")) (d := xa) (by rw [if_pos (by (first | walk_at "Z" | walk_at "O"))]; rw [← ga]; congr 1; (first | walk_at "Z" | omega)) fun t7 => ?_
    repeat walk_at "S"
    refine s_str (by (first | (revert hlb1; walk_at "Z") | walk_at "O")) (by (first | (revert lb; walk_at "Z") | walk_at "O")) (by (first | walk_at "Z" | walk_at "O")) (d := xb) (by rw [if_pos (by (first | walk_at "Z" | walk_at "O"))]; rw [← gb]; congr 1; (first | walk_at "Z" | omega)) fun t8 => ?_
    repeat walk_at "S"
    refine t_dec (fun h3 => ?_) (fun h3 => ?_)
    rotate_left
    · repeat walk_at "S"
      refine t_false ⟨rfl, rfl, k, _, ?_, by walk_at "H"⟩
      rw [← hT]; exact trimP_end fun x a' y b' e1 e2 => by
        rw [ea] at e1; rw [eb] at e2; simp at e1 e2 h3; rw [← e1.1, ← e2.1]; exact h3
    repeat walk_at "S"
    refine t_true ?_
    repeat walk_at "S"
    have e3 : xa = xb := by simpa using h3
    subst e3
    have e4 : -(k : Int) - 1 = -((k + 1 : Nat) : Int) := by (first | walk_at "Z" | omega)
    simp only [e4] at *
    refine ⟨A.length - (k + 1), N2, by (first | (revert la; walk_at "Z") | omega), fun _ h => h, k + 1, _, rfl, rfl, ?_, by (first | (revert la; walk_at "Z") | omega), by (first | (revert lb; walk_at "Z") | omega), by walk_at "H"⟩
    rw [← hT, ea, eb, trimP_step]
  rintro f m2 N2 ⟨rfl, rfl, k, tp, hT, hL⟩
  rw [hT] at h
  simp only [rev_take] at h
  repeat walk_at "S"
  obtain ⟨C, hC⟩ : ∃ C, C = A.take (A.length - k) := ⟨_, rfl⟩
  obtain ⟨D, hD⟩ : ∃ D, D = B.take (B.length - k) := ⟨_, rfl⟩
  rw [← hC, ← hD] at h
  refine t_sufP (k := k) (tp := tp) (by walk_at "S"; exact ⟨rfl, rfl, rfl⟩) (by (first | (revert hla1; walk_at "Z") | walk_at "O")) fun t6 => ?_
  rw [← hC]
  repeat walk_at "S"
  refine t_sufP (k := k) (tp := tp) (by walk_at "S"; exact ⟨rfl, rfl, rfl⟩) (by (first | (revert hlb1; walk_at "Z") | walk_at "O")) fun t7 => ?_
  rw [← hD]
  have ha2 : Ascii C := fun d hd => ha1 d (List.mem_of_mem_take (hC ▸ hd))
  have hb2 : Ascii D := fun d hd => hb1 d (List.mem_of_mem_take (hD ▸ hd))
  have hla2 : C.length ≤ 40 := by rw [hC]; simp; (first | (revert hla1; walk_at "Z") | omega)
  have hlb2 : D.length ≤ 40 := by rw [hD]; simp; (first | (revert hlb1; walk_at "Z") | omega)
  repeat walk_at "S"
  refine b_str (by (first | (revert hla2; walk_at "Z") | walk_at "O")) ?_
  have hret : C = [] ∨ D = [] → lev2 C D mc = 2 * ((C.length : Int) + D.length) := fun q => by unfold lev2; rw [if_pos q]
  have hgo : ¬ (C = [] ∨ D = []) → lev2 C D mc = if D.length < C.length then lev3 D C mc else lev3 C D mc := fun q => by unfold lev2; rw [if_neg q]
  by_cases hc0 : C = []
  · refine t_pos (by simp [hc0]) (t_true ?_)
    rw [hret (.inl hc0)] at h
    repeat walk_at "S"
    refine a_lens (x := C) (by (first | (revert hla2; walk_at "Z") | walk_at "O")) fun t8 => ?_
    repeat walk_at "S"
    refine a_lens (x := D) (by (first | (revert hlb2; walk_at "Z") | walk_at "O")) fun t9 => ?_
    repeat walk_at "S"
    refine o_mul (.of_left (by decide)) fun t10 => ?_
    exact ⟨N2, by walk_at "U", h _⟩
  refine t_neg (by simp [hc0]) ?_
  repeat walk_at "S"
  refine b_str (by (first | (revert hlb2; walk_at "Z") | walk_at "O")) ?_
  by_cases hd0 : D = []
  · refine t_pos (by simp [hd0]) (t_true ?_)
    rw [hret (.inr hd0)] at h
    repeat walk_at "S"
    refine a_lens (x := C) (by (first | (revert hla2; walk_at "Z") | walk_at "O")) fun t8 => ?_
    repeat walk_at "S"
    refine a_lens (x := D) (by (first | (revert hlb2; walk_at "Z") | walk_at "O")) fun t9 => ?_
    repeat walk_at "S"
    refine o_mul (.of_left (by decide)) fun t10 => ?_
    exact ⟨N2, by walk_at "U", h _⟩
  refine t_neg (by simp [hd0]) ?_
  rw [hgo (by simp [hc0, hd0])] at h
  repeat walk_at "S"
  refine t_false ?_
  repeat walk_at "S"
  refine a_lens (x := C) (by (first | (revert hla2; walk_at "Z") | walk_at "O")) fun t8 => ?_
  repeat walk_at "S"
  refine t_neg (by simp; (first | (revert hla2; walk_at "Z") | omega)) ?_
  repeat walk_at "S"
  refine a_lens (x := D) (by (first | (revert hlb2; walk_at "Z") | walk_at "O")) fun t9 => ?_
  repeat walk_at "S"
  refine t_neg (by simp; (first | (revert hlb2; walk_at "Z") | omega)) ?_
  repeat walk_at "S"
  refine t_false ?_
  repeat walk_at "S"
  refine a_lens (x := D) (by (first | (revert hlb2; walk_at "Z") | walk_at "O")) fun t10 => ?_
  repeat walk_at "S"
  refine a_lens (x := C) (by (first | (revert hla2; walk_at "Z") | walk_at "O")) fun t11 => ?_
  repeat walk_at "S"
  refine ite_join (fun m' N' => (∀ p ∈ N2, p ∈ N') ∧ Ex4 fun X Y tX tY => And6 (Ascii X) (Ascii Y) (X.length ≤ 40) (Y.length ≤ 40) (∀ t, Q (.int (lev3 X Y mc) t) m N2) (Has m' [(Str.ofString "a", .str (S X) tX), (Str.ofString "b", .str (S Y) tY), (Str.ofString "max_cost", .int mc t3)])) ?_ ?_ ?_
  · intro hd
    rw [if_pos (by simpa using hd)] at h
    repeat walk_at "S"
    refine t_swap o' ?_ (by rfl) (swapped_of hs (by rfl))
    repeat walk_at "S"
    refine ⟨by simp, fun T hT => ⟨T, _, _, _, rfl, .head _, ?_⟩⟩
    repeat walk_at "S"
    exact ⟨rfl, fun _ h => .tail _ h, D, C, _, _, hb2, ha2, hlb2, hla2, h, by walk_at "H"⟩
  · intro hd
    rw [if_neg (by simpa using hd)] at h
    repeat walk_at "S"
    exact ⟨rfl, fun _ h => h, C, D, _, _, ha2, hb2, hla2, hlb2, h, by walk_at "H"⟩
  clear h
  rintro m3 N3 ⟨hs3, X, Y, tX, tY, haX, haY, hlX, hlY, h, hL3⟩
  refine seq_sub hs3 ?_
  unfold lev3 at h
  repeat walk_at "S"
  refine a_lens (x := Y) (by (first | (revert hlY; walk_at "Z") | walk_at "O")) fun t12 => ?_
  repeat walk_at "S"
  refine a_lens (x := X) (by (first | (revert hlX; walk_at "Z") | walk_at "O")) fun t13 => ?_
  repeat walk_at "S"
  refine o_mul (.of_right (by decide)) fun t14 => ?_
  repeat walk_at "S"
  refine t_dec (fun hd => ?_) (fun hd => ?_)
  · rw [if_pos hd] at h
    repeat walk_at "S"
    exact ⟨N2, by walk_at "U", h _⟩
  rw [if_neg hd] at h
  repeat walk_at "S"
  refine a_lens (x := X) (by (first | (revert hlX; walk_at "Z") | walk_at "O")) fun t15 => ?_
  repeat walk_at "S"
  refine o_mul (.of_left (by decide)) fun t16 => ?_
  repeat walk_at "S"
  refine a_range3 (by decide) (by decide) fun R t17 t18 t19 hR => ?_
  repeat walk_at "S"
  have hsz := size_two X.length
  refine a_listrange o' (.head _) (by first | with_reducible exact small_up (by walk_at "O") | with_reducible exact small_dn (by walk_at "O") | exact small_of hsz (by (first | (revert hlX; walk_at "Z") | walk_at "O")) (by (first | walk_at "Z" | walk_at "O")) (by (first | walk_at "Z" | walk_at "O")) (by (first | walk_at "Z" | walk_at "O")) (by (first | (revert hlX; walk_at "Z") | walk_at "O")) (by (first | walk_at "Z" | walk_at "O")) (by (first | walk_at "Z" | walk_at "O"))) hsz (by (first | (revert hlX; walk_at "Z") | walk_at "O")) fun RW ys epR hRW hys => ?_
  repeat walk_at "S"
  walk_at "F"
  repeat walk_at "S"
  refine a_lens (x := Y) (by (first | (revert hlY; walk_at "Z") | walk_at "O")) fun t20 => ?_
  repeat walk_at "S"
  refine a_range1 fun R2 t21 t22 t23 hR2 => ?_
  have hsz2 := size_up Y.length
  have hsz3 := size_up X.length
  obtain ⟨row0, hrow0⟩ : ∃ r, r = (List.range X.length).map fun (i : Nat) => (2 : Int) + i * 2 := ⟨_, rfl⟩
  rw [← hrow0] at hys h
  have hrl : row0.length = X.length := by rw [hrow0]; simp
  have hRW2 : RW ≠ R2 := hR2 _ (.head _)
  obtain ⟨Nb, hNb⟩ : ∃ Nb, Nb = (R, rngOf 2 (2 * ((X.length : Int) + 1)) 2 t17 t18 t19) :: N2 := ⟨_, rfl⟩
  rw [← hNb] at hR2 hRW ⊢
  have hN2 : ∀ p ∈ N2, p ∈ Nb := fun p hp => hNb ▸ .tail _ hp
  refine for_it o' (it_range (.head _) (by first | with_reducible exact small_up (by (first | (revert hlY; walk_at "Z") | walk_at "O")) | with_reducible exact small_dn (by walk_at "O") | exact small_of hsz2 (by walk_at "O") (by walk_at "O") (by walk_at "O") (by walk_at "O") (by walk_at "O") (by walk_at "O") (by walk_at "O")) hsz2)
    (fun I i m' N' => (And3 (I ≠ R2) (I ≠ RW) (Fresh I Nb)) ∧ Ex5 fun vs ep row res tr => And5 (N' = (R2, rngOf 0 (Y.length : Int) 1 t21 t22 t23) :: (RW, listOf vs.toArray ep) :: Nb) (IntsAre vs row) (row.length = X.length) (lgo X Y mc (Y.length - i) i row res = lgo X Y mc Y.length 0 row0 0) (Has m' [(Str.ofString "a", .str (S X) tX), (Str.ofString "b", .str (S Y) tY), (Str.ofString "max_cost", .int mc t3), (Str.ofString "row", .ref RW), (Str.ofString "result", .int res tr)])) ?_ ?_ ?_ ?_
  · intro I hI
    exact ⟨⟨fun e => hI _ (.head _) e.symm, fun e => hI _ (.tail _ (.head _)) e.symm, hI.sub fun p hp => .tail _ (.tail _ hp)⟩, ys, epR, row0, 0, _, rfl, hys, hrl, by rw [Nat.sub_zero], by walk_at "H"⟩
  · rintro I i m' N' ⟨⟨h1, h2, h3⟩, vs, ep, row, res, tr, rfl, _⟩
    refine ⟨by simp, fun p hp => ?_⟩
    rcases List.mem_cons.mp hp with rfl | hp
    · exact Ne.symm h1
    · rcases List.mem_cons.mp hp with rfl | hp
      · exact Ne.symm h2
      · exact h3 p hp
  · rintro I oI i m' N' v hi ⟨⟨hI1, hI2, hI3⟩, vs, ep, row, res, tr, rfl, hvs, hrow, hgo, hL⟩ ⟨tv, rfl⟩ _ _
    have ei : (0 : Int) + (i : Int) * 1 = (i : Int) := by (first | walk_at "Z" | omega)
    rw [ei]
    obtain ⟨y, hy⟩ : ∃ y, Y[i]? = some y := ⟨_, List.getElem?_eq_getElem hi⟩
    have hy0 : Y.getD i 0 = y := by rw [List.getD_eq_getElem?_getD, hy]; rfl
    have hy128 : y < 128 := haY y (List.mem_of_getElem? hy)
    obtain ⟨k, hk⟩ : ∃ k, Y.length - i = k + 1 := ⟨Y.length - i - 1, sub_one hi⟩
    have hk' : Y.length - (i + 1) = k := sub_next hk
    rw [hk] at hgo
    have hgo1 : lgo X Y mc (k + 1) i row res = if mc < (lrow y X i row X.length).mn then mc + 1 else lgo X Y mc k (i + 1) (lrow y X i row X.length).row (lrow y X i row X.length).res := by
      rw [← hy0]; rfl
    repeat walk_at "S"
    refine s_str (by (first | (revert hlY; walk_at "Z") | walk_at "O")) (by (first | walk_at "Z" | walk_at "O")) (by (first | (revert hi; walk_at "Z") | walk_at "O")) (d := y) (by rw [if_neg (by (first | walk_at "Z" | walk_at "O"))]; simpa using hy) fun t24 => ?_
    repeat walk_at "S"
    refine t_assign2 ?_ (by rfl) (by rfl)
    repeat walk_at "S"
    refine o_mul (.of_right (by decide)) fun t25 => ?_
    repeat walk_at "S"
    walk_at "F"
    repeat walk_at "S"
    refine a_lens (x := X) (by (first | (revert hlX; walk_at "Z") | walk_at "O")) fun t26 => ?_
    repeat walk_at "S"
    refine a_range1 fun R3 t27 t28 t29 hR3 => ?_
    have hR3W : R3 ≠ RW := fun e => hR3 _ (.tail _ (.tail _ (.head _))) e.symm
    refine for_it o' (it_range (.head _) (by first | with_reducible exact small_up (by (first | (revert hlX; walk_at "Z") | walk_at "O")) | with_reducible exact small_dn (by walk_at "O") | exact small_of hsz3 (by walk_at "O") (by walk_at "O") (by walk_at "O") (by walk_at "O") (by walk_at "O") (by walk_at "O") (by walk_at "O")) hsz3)
      (fun I2 j m' N' => (And5 (I2 ≠ R3) (I2 ≠ I) (I2 ≠ R2) (I2 ≠ RW) (Fresh I2 Nb)) ∧ Ex5 fun vs ep tr td tm => And3 (N' = (R3, rngOf 0 (X.length : Int) 1 t27 t28 t29) :: (I, oI) :: (R2, rngOf 0 (Y.length : Int) 1 t21 t22 t23) :: (RW, listOf vs.toArray ep) :: Nb) (IntsAre vs (lrow y X i row j).row) (Has m' [(Str.ofString "a", .str (S X) tX), (Str.ofString "b", .str (S Y) tY), (Str.ofString "max_cost", .int mc t3), (Str.ofString "row", .ref RW), (Str.ofString "result", .int (lrow y X i row j).res tr), (Str.ofString "distance", .int (lrow y X i row j).d td), (Str.ofString "minimum", .int (lrow y X i row j).mn tm), (Str.ofString "bchar", .str (S [y]) t24)])) ?_ ?_ ?_ ?_
    · intro I2 hI
      exact ⟨⟨fun e => hI _ (.head _) e.symm, fun e => hI _ (.tail _ (.head _)) e.symm, fun e => hI _ (.tail _ (.tail _ (.head _))) e.symm, fun e => hI _ (.tail _ (.tail _ (.tail _ (.head _)))) e.symm, hI.sub fun p hp => .tail _ (.tail _ (.tail _ (.tail _ hp)))⟩,
        vs, ep, _, _, _, rfl, hvs, by walk_at "H"⟩
    · rintro I2 j m' N' ⟨⟨h1, h2, h3, h4, h5⟩, vs, ep, tr, td, tm, rfl, _⟩
      refine ⟨by simp, fun p hp => ?_⟩
      rcases List.mem_cons.mp hp with rfl | hp
      · exact Ne.symm h1
      rcases List.mem_cons.mp hp with rfl | hp
      · exact Ne.symm h2
      rcases List.mem_cons.mp hp with rfl | hp
      · exact Ne.symm h3
      rcases List.mem_cons.mp hp with rfl | hp
      · exact Ne.symm h4
      · exact h5 p hp
    · rintro I2 o2 j m' N' v hj ⟨⟨h1, h2, h3, h4, h5⟩, vs, ep, tr, td, tm, rfl, hvs, hL⟩ ⟨tv, rfl⟩
      have ej : (0 : Int) + (j : Int) * 1 = (j : Int) := by (first | walk_at "Z" | omega)
      rw [ej]
      obtain ⟨x, hx⟩ : ∃ x, X[j]? = some x := ⟨_, List.getElem?_eq_getElem hj⟩
      have hx0 : X.getD j 0 = x := by rw [List.getD_eq_getElem?_getD, hx]; rfl
      have hx128 : x < 128 := haX x (List.mem_of_getElem? hx)
      have hrl := lrow_len (y := y) (a := X) (bi := i) (row := row) j
      have hst : lrow y X i row (j + 1) = lstep y X (lrow y X i row j) j := rfl
      rw [hst]
      generalize lrow y X i row j = s at hvs hL hrl ⊢
      obtain ⟨row1, d1, res1, mn1⟩ := s
      simp only [] at hvs hL hrl
      obtain ⟨tj, hvj⟩ := ints_at hvs (i := j) (by (first | (revert hj hrl hrow; walk_at "Z") | walk_at "O"))
      have hls : lstep y X ⟨row1, d1, res1, mn1⟩ j = ⟨row1.set j (min (min res1 (row1.getD j 0) + 2) (d1 + subst y x)), row1.getD j 0, min (min res1 (row1.getD j 0) + 2) (d1 + subst y x),
        if min (min res1 (row1.getD j 0) + 2) (d1 + subst y x) < mn1 then min (min res1 (row1.getD j 0) + 2) (d1 + subst y x) else mn1⟩ := by rw [← hx0]; rfl
      rw [hls]
      have hvl := ints_len hvs
      intro _ _
      repeat walk_at "S"
      refine s_str (by (first | (revert hlX; walk_at "Z") | walk_at "O")) (by (first | walk_at "Z" | walk_at "O")) (by (first | (revert hj; walk_at "Z") | walk_at "O")) (d := x) (by rw [if_neg (by (first | walk_at "Z" | walk_at "O"))]; simpa using hx) fun t30 => ?_
      repeat walk_at "S"
      refine f_subst o' hy128 hx128 fun t31 => ?_
      repeat walk_at "S"
      refine s_list (.tail _ (.tail _ (.tail _ (.tail _ (.head _))))) (by walk_at "O") (by (first | (revert hj hlX; walk_at "Z") | walk_at "O")) hvj ?_
      repeat walk_at "S"
      refine a_min o' fun t32 => ?_
      repeat walk_at "S"
      refine a_min o' fun t33 => ?_
      repeat walk_at "S"
      refine set_list (.tail _ (.tail _ (.tail _ (.tail _ (.head _))))) (by walk_at "O") (by (first | (revert hj hlX; walk_at "Z") | walk_at "O")) (by (first | (revert hj hrl hrow hvl; walk_at "Z") | walk_at "O")) fun ep2 => ?_
      rw [put_tail h4, put_tail hR3W, put_tail hI2, put_tail (Ne.symm hRW2), put_head (by rw [hNb] at hRW ⊢; exact hRW)]
      repeat walk_at "S"
      refine t_dec (fun hlt => ?_) (fun hlt => ?_)
      · repeat walk_at "S"
        rw [if_pos hlt]
        exact ⟨_, fun _ h => h, ⟨h1, h2, h3, h4, h5⟩, _, _, _, _, _, rfl, ints_set hvs _ _ _, by walk_at "H"⟩
      · repeat walk_at "S"
        rw [if_neg hlt]
        exact ⟨_, fun _ h => h, ⟨h1, h2, h3, h4, h5⟩, _, _, _, _, _, rfl, ints_set hvs _ _ _, by walk_at "H"⟩
    · rintro I2 m' N' ⟨_, vs, ep, tr, td, tm, rfl, hvs, hL⟩
      have hrl := lrow_len (y := y) (a := X) (bi := i) (row := row) X.length
      generalize lrow y X i row X.length = s at hvs hL hrl hgo1
      obtain ⟨row1, d1, res1, mn1⟩ := s
      simp only [] at hvs hL hrl hgo1
      rw [hgo1] at hgo
      repeat walk_at "S"
      refine t_dec (fun hd => ?_) (fun hd => ?_)
      · rw [if_pos hd] at hgo
        rw [← hgo] at h
        repeat walk_at "S"
        exact ⟨N2, fun p hp => .tail _ (.tail _ (.tail _ (.tail _ (hN2 p hp)))), N2, fun _ h => h, h _⟩
      · rw [if_neg hd] at hgo
        repeat walk_at "S"
        refine ⟨_, ?_, ⟨hI1, hI2, hI3⟩, vs, ep, row1, res1, _, rfl, hvs, by (first | (revert hrl hrow; walk_at "Z") | omega), ?_, by walk_at "H"⟩
        · exact fun p hp => .tail _ hp
        · rw [hk']; exact hgo
  · rintro I m' N' ⟨_, vs, ep, row, res, tr, rfl, hvs, hrow, hgo, hL⟩
    rw [Nat.sub_self] at hgo
    rw [← hgo] at h
    repeat walk_at "S"
    exact ⟨N2, fun p hp => .tail _ (.tail _ (hN2 p hp)), h _⟩
end

-- s1
section
variable {γ : GP} {c : Act} {n : Nat} {m : Loc} {N : Cells}
theorem fmod_nat (a b : Nat) : ((a : Int)).fmod (b : Int) = ((a % b : Nat) : Int) := by rw [Int.fmod_eq_emod_of_nonneg _ (by walk_at "O")]; rfl
theorem fdiv_nat (a b : Nat) : ((a : Int)).fdiv (b : Int) = ((a / b : Nat) : Int) := by rw [Int.fdiv_eq_ediv_of_nonneg _ (by walk_at "O")]; rfl
theorem f_cells {l : Addr} {vs : List Value} {ns : List Int} {Q : Value → Loc → Cells → Prop} (o : Ok (GS γ) (n + 1) c) (hl : c.h₀.IsList l vs.toArray) (hv : IntsAre vs ns) (hn : ns.length ≤ 1000)
    (h : ∀ D vs' cs ep, Fresh D N → cs.length = 10 → IntsAre vs' cs → Q (.ref D) m ((D, listOf vs'.toArray ep) :: N)) :
    TW (GS γ) c (call (.ref 228) [.ref l]) m N Q := by
  refine t_callS [(Str.ofString "script", .ref l)] o (by rfl) (by rfl) (fun s X => BindsTo.of_eq (by rfl)) (locs (by rfl)) (by decide) (by rfl) (by rfl) (by rfl) (by rfl) ?_
  intro c' m' hs o' hL st
  have hl := isList_keep st hl
  have hlen := ints_len hv
  repeat walk_at "S"
  refine ⟨by simp, fun D hD => ?_⟩
  repeat walk_at "S"
  walk_at "F"
  repeat walk_at "S"
  refine a_len0 hl (by rw [hlen]; exact Nat.le_trans hn (by decide)) fun t1 => ?_
  repeat walk_at "S"
  refine a_range1 fun R t2 t3 t4 hR => ?_
  have hsz := size_up vs.length
  have hRD : R ≠ D := fun e => hR _ (.head _) e.symm
  refine for_it o' (it_range (.head _) (small_up (k := vs.length) (by rw [hlen]; exact Nat.le_trans hn (by decide))) hsz)
    (fun I i m' N' => (I ≠ R ∧ I ≠ D ∧ Fresh I N) ∧ ∃ vs' ep cs, N' = (R, rngOf 0 (vs.length : Int) 1 t2 t3 t4) :: (D, listOf vs'.toArray ep) :: N ∧ cs.length = 10 ∧ IntsAre vs' cs ∧ Has m' [(Str.ofString "script", .ref l), (Str.ofString "cells", .ref D)]) ?_ ?_ ?_ ?_
  · intro I hI
    exact ⟨⟨fun e => hI _ (.head _) e.symm, fun e => hI _ (.tail _ (.head _)) e.symm, hI.sub fun p hp => .tail _ (.tail _ hp)⟩, _, _, [0, 0, 1, 2, 3, 3, 1, 2, 5, 4193992], rfl, rfl, .cons _ _ (.cons _ _ (.cons _ _ (.cons _ _ (.cons _ _ (.cons _ _ (.cons _ _ (.cons _ _ (.cons _ _ (.cons _ _ .nil))))))))), by walk_at "H"⟩
  · rintro I i m' N' ⟨⟨h1, h2, h3⟩, cs, ep, a, rfl, _⟩
    refine ⟨by simp, fun p hp => ?_⟩
    rcases List.mem_cons.mp hp with rfl | hp
    · exact Ne.symm h1
    rcases List.mem_cons.mp hp with rfl | hp
    · exact Ne.symm h2
    · exact h3 p hp
  · rintro I oI i m' N' v hi ⟨⟨h1, h2, h3⟩, vs', ep, cs, rfl, hc10, hcs, hL⟩ ⟨tv, rfl⟩ _ _
    have ei : (0 : Int) + (i : Int) * 1 = (i : Int) := by walk_at "Z"
    rw [ei]
    obtain ⟨ti, hvi⟩ := ints_at hv (i := i) (by rw [← hlen]; exact hi)
    have hcl := ints_len hcs
    have e4 : ((i : Int)).fmod 10 = ((i % 10 : Nat) : Int) := fmod_nat i 10
    obtain ⟨tc, hvc⟩ := ints_at hcs (i := i % 10) (by rw [hc10]; exact Nat.mod_lt _ (by decide))
    have hm10 := Nat.mod_lt i (show 10 > 0 by decide)
    repeat walk_at "S"
    rw [e4]
    refine get_list (.tail _ (.tail _ (.head _))) (Int.natCast_nonneg _) (by revert hm10; walk_at "Z") hvc ?_
    repeat walk_at "S"
    refine s_list0 hl (Int.natCast_nonneg _) (by revert hi hlen hn; walk_at "Z") hvi ?_
    repeat walk_at "S"
    refine set_list (.tail _ (.tail _ (.head _))) (Int.natCast_nonneg _) (by first | (revert hm10; walk_at "Z") | (revert hm10 hcl hc10; walk_at "Z")) (by first | (revert hm10; walk_at "Z") | (revert hm10 hcl hc10; walk_at "Z")) fun ep2 => ?_
    rw [put_tail h2, put_tail hRD, put_head hD]
    repeat walk_at "S"
    have hnew := fun t => ints_set hcs (i % 10) (cs.getD (i % 10) 0 + ns.getD i 0) t
    exact ⟨_, fun _ h => h, ⟨h1, h2, h3⟩, _, _, _, rfl, by rw [List.length_set]; exact hc10, hnew _, by walk_at "H"⟩
  · rintro I m' N' ⟨_, vs', ep, cs, rfl, hc10, hcs, hL⟩
    repeat walk_at "S"
    exact ⟨_, by walk_at "U", h D _ _ _ hD hc10 hcs⟩
def sized (x : List Nat) (i : Int) : List Nat := if i.fmod 2 = 0 then x.map up1 else x
theorem f_sized {x : List Nat} {i : Int} {t u : Tok} {Q : Value → Loc → Cells → Prop} (o : Ok (GS γ) (n + 1) c) (ha : Ascii x) (hz : x.length ≤ 16777216) (h : ∀ t, Q (.str (S (sized x i)) t) m N) :
    TW (GS γ) c (call (.ref 249) [.str (S x) t, .int i u]) m N Q := by
  refine t_callH [(Str.ofString "text", .str (S x) t), (Str.ofString "turn", .int i u)] o (by rfl) (by rfl) (fun s X => BindsTo.of_eq (by rfl)) (locs (by rfl)) (by decide) (by rfl) (by rfl) (by rfl) (by rfl) ?_
  intro c' m' hs o' hL
  repeat walk_at "S"
  refine t_dec (fun hd => ?_) (fun hd => ?_)
  · repeat walk_at "S"
    refine a_upper ha hz fun t => ?_
    repeat walk_at "S"
    have := h t
    rw [sized, if_pos hd] at this
    exact ⟨N, by walk_at "U", this⟩
  · repeat walk_at "S"
    have := h t
    rw [sized, if_neg hd] at this
    exact ⟨N, by walk_at "U", this⟩
/-- a number's octets, as signs: to the base 64 -/
def octL : Nat → Nat → List Nat → List Nat
  | 0, _, s => s
  | f + 1, num, s => if 64 ≤ num then octL f (num / 64) ((192 + num / 64 % 64) :: s) else s
def octs (num : Nat) : List Nat := octL 10 num [128 + num % 64]
theorem f_octets {num : Nat} {t : Tok} {Q : Value → Loc → Cells → Prop} (o : Ok (GS γ) (n + 1) c) (hz : num < 64 ^ 10) (h : ∀ t, Q (.str (S (octs num)) t) m N) :
    TW (GS γ) c (call (.ref 270) [.int num t]) m N Q := by
  refine t_callH [(Str.ofString "number", .int num t)] o (by rfl) (by rfl) (fun s X => BindsTo.of_eq (by rfl)) (locs (by rfl)) (by decide) (by rfl) (by rfl) (by rfl) (by rfl) ?_
  intro c' m' hs o' hL
  have e64 : ∀ k : Nat, ((k : Int)).fmod 64 = ((k % 64 : Nat) : Int) := fun k => fmod_nat k 64
  have d64 : ∀ k : Nat, ((k : Int)).fdiv 64 = ((k / 64 : Nat) : Int) := fun k => fdiv_nat k 64
  repeat walk_at "S"
  rw [e64]
  have hm1 := Nat.mod_lt num (show 64 > 0 by decide)
  refine a_chr (by walk_at "Z") (by revert hm1; walk_at "Z") fun t1 => ?_
  have e1 : ((128 : Int) + ((num % 64 : Nat) : Int)).toNat = 128 + num % 64 := by walk_at "Z"
  rw [e1]
  repeat walk_at "S"
  refine t_While (fun d m' N' => ∃ (k : Nat) (s : List Nat) (t1 t2 : Tok), N' = N ∧ k < 64 ^ d ∧ d ≤ 10 ∧ s.length ≤ 11 - d ∧ octL d k s = octs num ∧ Has m' [(Str.ofString "number", .int (k : Nat) t1), (Str.ofString "signs", .str (S s) t2)]) 10 ⟨num, _, _, _, rfl, hz, Nat.le_refl _, by simp, rfl, by walk_at "H"⟩ ?_
  rintro d m1 N1 ⟨k, s, t1, t2, rfl, hk, hd, hsl, hoct, hL⟩ _ _
  repeat walk_at "S"
  refine t_dec (fun hge => ?_) (fun hlt => ?_)
  · have hge' : 64 ≤ k := by revert hge; walk_at "Z"
    cases d with
    | zero => simp at hk; subst hk; exact absurd hge' (by decide)
    | succ d =>
      have hm2 := Nat.mod_lt (k / 64) (show 64 > 0 by decide)
      repeat walk_at "S"
      rw [d64]
      repeat walk_at "S"
      rw [e64]
      refine a_chr (by walk_at "Z") (by revert hm2; walk_at "Z") fun t3 => ?_
      have e2 : ((192 : Int) + ((k / 64 % 64 : Nat) : Int)).toNat = 192 + k / 64 % 64 := by walk_at "Z"
      rw [e2]
      repeat walk_at "S"
      refine o_sadd (by simp only [List.length_cons, List.length_nil]; revert hsl; walk_at "Z") fun t4 => ?_
      repeat walk_at "S"
      refine ⟨d, _, Nat.lt_succ_self _, fun _ h => h, k / 64, _, _, _, rfl, ?_, Nat.le_of_succ_le hd, ?_, ?_, by rw [← d64]; walk_at "H"⟩
      · rw [Nat.div_lt_iff_lt_mul (by decide)]
        rw [Nat.pow_succ] at hk; exact hk
      · simp only [List.length_append, List.length_cons, List.length_nil]; revert hsl hd; walk_at "Z"
      · rw [← hoct]
        show _ = (if 64 ≤ k then octL d (k / 64) ((192 + k / 64 % 64) :: s) else s)
        rw [if_pos hge']; rfl
  · repeat walk_at "S"
    have e : s = octs num := by
      rw [← hoct]
      cases d with
      | zero => rfl
      | succ d => unfold octL; rw [if_neg (by revert hlt; walk_at "Z")]
    rw [e]
    exact ⟨N1, by walk_at "U", h _⟩
/-- a side's name: the lesser end's letter and the level, or the column -/
def sideName (x y dx dy : Int) : List Nat := if dx ≠ 0 then [97 + (min x (x + dx)).toNat, 48 + y.toNat] else [112 + (min y (y + dy)).toNat, 48 + x.toNat]
theorem str_digit {i : Int} (h0 : 0 ≤ i) (h1 : i ≤ 9) : Str.ofString (toString i) = S [48 + i.toNat] := by
  obtain ⟨k, rfl⟩ := Int.eq_ofNat_of_zero_le h0
  exact (show ∀ k : Nat, k < 10 → Str.ofString (toString (k : Int)) = S [48 + (k : Int).toNat] by decide +kernel) k (by revert h1; walk_at "Z")
theorem log_small {i : Int} (h0 : 0 ≤ i) (h1 : i ≤ 9) : i.natAbs.log2 < 1920 := by
  obtain ⟨k, rfl⟩ := Int.eq_ofNat_of_zero_le h0
  exact (show ∀ k : Nat, k < 10 → (k : Int).natAbs.log2 < 1920 by decide +kernel) k (by revert h1; walk_at "Z")
theorem abcd_min {z : Int} (h : 0 ≤ z ∧ z ≤ 3) : -(([97, 98, 99, 100] : List Nat).length : Int) ≤ z ∧ z < (([97, 98, 99, 100] : List Nat).length : Int) ∧ [97, 98, 99, 100][(if z < 0 then z + (([97, 98, 99, 100] : List Nat).length : Int) else z).toNat]? = some (97 + z.toNat) := by
  obtain ⟨k, rfl⟩ := Int.eq_ofNat_of_zero_le h.1
  exact (show ∀ k : Nat, k < 4 → -(([97, 98, 99, 100] : List Nat).length : Int) ≤ (k : Int) ∧ (k : Int) < (([97, 98, 99, 100] : List Nat).length : Int) ∧ [97, 98, 99, 100][(if (k : Int) < 0 then (k : Int) + (([97, 98, 99, 100] : List Nat).length : Int) else (k : Int)).toNat]? = some (97 + (k : Int).toNat) by decide +kernel) k (by have := h.2; revert this; walk_at "Z")
theorem pqr_min {z : Int} (h : 0 ≤ z ∧ z ≤ 2) : -(([112, 113, 114] : List Nat).length : Int) ≤ z ∧ z < (([112, 113, 114] : List Nat).length : Int) ∧ [112, 113, 114][(if z < 0 then z + (([112, 113, 114] : List Nat).length : Int) else z).toNat]? = some (112 + z.toNat) := by
  obtain ⟨k, rfl⟩ := Int.eq_ofNat_of_zero_le h.1
  exact (show ∀ k : Nat, k < 3 → -(([112, 113, 114] : List Nat).length : Int) ≤ (k : Int) ∧ (k : Int) < (([112, 113, 114] : List Nat).length : Int) ∧ [112, 113, 114][(if (k : Int) < 0 then (k : Int) + (([112, 113, 114] : List Nat).length : Int) else (k : Int)).toNat]? = some (112 + (k : Int).toNat) by decide +kernel) k (by have := h.2; revert this; walk_at "Z")
theorem f_side {P T : Addr} {x y dx dy : Int} {t1 t2 t3 t4 : Tok} {e1 e2 : Nat} {Q : Value → Loc → Cells → Prop} (o : Ok (GS γ) (n + 1) c)
    (hP : (P, tupOf [Value.int x t1, .int y t2].toArray e1) ∈ N) (hT : (T, tupOf [Value.int dx t3, .int dy t4].toArray e2) ∈ N) (hx : 0 ≤ x ∧ x ≤ 4) (hy : 0 ≤ y ∧ y ≤ 3)
    (h1 : dx ≠ 0 → 0 ≤ min x (x + dx) ∧ min x (x + dx) ≤ 3) (h2 : dx = 0 → 0 ≤ min y (y + dy) ∧ min y (y + dy) ≤ 2) (h : ∀ t, Q (.str (S (sideName x y dx dy)) t) m N) :
    TW (GS γ) c (call (.ref 235) [.ref P, .ref T]) m N Q := by
  refine t_callH [(Str.ofString "point", .ref P), (Str.ofString "step", .ref T)] o (by rfl) (by rfl) (fun s X => BindsTo.of_eq (by rfl)) (locs (by rfl)) (by decide) (by rfl) (by rfl) (by rfl) (by rfl) ?_
  intro c' m' hs o' hL
  repeat walk_at "S"
  refine s_tup hT (by decide) (by decide) (x := .int dx t3) rfl ?_
  repeat walk_at "S"
  refine t_dec (fun hd => ?_) (fun hd => ?_)
  · have h1 := h1 hd
    repeat walk_at "S"
    refine s_tup hP (by decide) (by decide) (x := .int x t1) rfl ?_
    repeat walk_at "S"
    refine s_tup hP (by decide) (by decide) (x := .int x t1) rfl ?_
    repeat walk_at "S"
    refine s_tup hT (by decide) (by decide) (x := .int dx t3) rfl ?_
    repeat walk_at "S"
    refine a_min o' fun t5 => ?_
    refine s_str (d := 97 + (min x (x + dx)).toNat) (by decide) (abcd_min h1).1 (abcd_min h1).2.1 (abcd_min h1).2.2 fun t6 => ?_
    repeat walk_at "S"
    refine s_tup hP (by decide) (by decide) (x := .int y t2) rfl ?_
    repeat walk_at "S"
    refine a_strint (log_small hy.1 (Int.le_trans hy.2 (by decide))) fun t7 => ?_
    rw [str_digit hy.1 (Int.le_trans hy.2 (by decide))]
    refine o_sadd (by simp) fun t8 => ?_
    repeat walk_at "S"
    have := h t8
    rw [sideName, if_pos hd] at this
    exact ⟨N, by walk_at "U", this⟩
  · have hd : dx = 0 := Classical.not_not.mp hd
    have h2 := h2 hd
    repeat walk_at "S"
    refine s_tup hP (by decide) (by decide) (x := .int y t2) rfl ?_
    repeat walk_at "S"
    refine s_tup hP (by decide) (by decide) (x := .int y t2) rfl ?_
    repeat walk_at "S"
    refine s_tup hT (by decide) (by decide) (x := .int dy t4) rfl ?_
    repeat walk_at "S"
    refine a_min o' fun t5 => ?_
    refine s_str (d := 112 + (min y (y + dy)).toNat) (by decide) (pqr_min h2).1 (pqr_min h2).2.1 (pqr_min h2).2.2 fun t6 => ?_
    repeat walk_at "S"
    refine s_tup hP (by decide) (by decide) (x := .int x t1) rfl ?_
    repeat walk_at "S"
    refine a_strint (log_small hx.1 (Int.le_trans hx.2 (by decide))) fun t7 => ?_
    rw [str_digit hx.1 (Int.le_trans hx.2 (by decide))]
    refine o_sadd (by simp) fun t8 => ?_
    repeat walk_at "S"
    have := h t8
    rw [sideName, if_neg (not_not_intro hd)] at this
    exact ⟨N, by walk_at "U", this⟩
end

-- s2
abbrev Unit4 (dx dy : Int) : Prop := (dx = 1 ∧ dy = 0) ∨ (dx = 0 ∧ dy = 1) ∨ (dx = -1 ∧ dy = 0) ∨ (dx = 0 ∧ dy = -1)
abbrev OnB (x y : Int) : Prop := 0 ≤ x ∧ x ≤ 4 ∧ 0 ≤ y ∧ y ≤ 3
/-- a way along the sides: from h to p, by the named steps -/
inductive Trip (h : Int × Int) : Int × Int → List (List Nat × Int) → Prop
  | nil : OnB h.1 h.2 → Trip h h []
  | snoc {x y dx dy : Int} {sts} : Trip h (x, y) sts → Unit4 dx dy → OnB (x + dx) (y + dy) → Trip h (x + dx, y + dy) (sts ++ [(sideName x y dx dy, dx + dy)])
theorem Trip.on {h p sts} (t : Trip h p sts) : OnB p.1 p.2 := by
  cases t with
  | nil h => exact h
  | snoc _ _ h => exact h
inductive Stp (N : Cells) : List Value → List (List Nat × Int) → Prop
  | nil : Stp N [] []
  | cons {T : Addr} {a : List Nat} {k : Int} {t u : Tok} {ep : Nat} {vs ps} (hm : (T, tupOf [Value.str (S a) t, .int k u].toArray ep) ∈ N) : Stp N vs ps → Stp N (.ref T :: vs) ((a, k) :: ps)
theorem Stp.keep {N N' : Cells} (hk : ∀ a its ep, (a, tupOf its ep) ∈ N → (a, tupOf its ep) ∈ N') {vs ps} (h : Stp N vs ps) : Stp N' vs ps := by
  induction h with
  | nil => exact .nil
  | cons hm _ ih => exact .cons (hk _ _ _ hm) ih
theorem Stp.len {N : Cells} {vs ps} (h : Stp N vs ps) : vs.length = ps.length := by
  induction h with
  | nil => rfl
  | cons _ _ ih => exact congrArg (· + 1) ih
theorem Stp.snoc {N : Cells} {T : Addr} {a : List Nat} {k : Int} {t u : Tok} {ep : Nat} (hm : (T, tupOf [Value.str (S a) t, .int k u].toArray ep) ∈ N)  {vs ps} (h : Stp N vs ps) : Stp N (vs ++ [.ref T]) (ps ++ [(a, k)]) := by
  induction h with
  | nil => exact .cons hm .nil
  | cons h1 _ ih => exact .cons h1 ih
theorem Stp.get {N : Cells} {vs ps} (h : Stp N vs ps) : ∀ {i : Nat} {a : List Nat} {k : Int}, ps[i]? = some (a, k) → ∃ T t u ep, vs[i]? = some (.ref T) ∧ (T, tupOf [Value.str (S a) t, .int k u].toArray ep) ∈ N := by
  induction h with
  | nil => intro i a k e; cases e
  | cons hm _ ih =>
    intro i a k e
    cases i with
    | zero => cases e; exact ⟨_, _, _, _, rfl, hm⟩
    | succ i => exact ih e
section
variable {γ : GP} {c : Act} {n : Nat} {m : Loc} {N : Cells}
/-- the step that is taken from a point -/
def StepAt (x y hx hy : Int) (i : Nat) (dx dy : Int) : Prop := Unit4 dx dy ∧ OnB (x + dx) (y + dy) ∧ (8 ≤ i → (x + dx - hx).natAbs + (y + dy - hy).natAbs + 1 = (x - hx).natAbs + (y - hy).natAbs)
theorem side_ok {x y dx dy : Int} (h : OnB x y) (u : Unit4 dx dy) (h' : OnB (x + dx) (y + dy)) : (dx ≠ 0 → 0 ≤ min x (x + dx) ∧ min x (x + dx) ≤ 3) ∧ (dx = 0 → 0 ≤ min y (y + dy) ∧ min y (y + dy) ≤ 2) := by
  unfold OnB at h h'
  unfold Unit4 at u
  constructor <;> intro _ <;> omega
theorem turn_back {x y hx hy dx dy : Int} {i : Nat} (h : OnB x y) (u : Unit4 dx dy) (hn : ¬ OnB (x + dx) (y + dy)) (hi : i < 8) : StepAt x y hx hy i (-dx) (-dy) := by
  refine ⟨?_, ?_, fun h8 => absurd hi (Nat.not_lt.mpr h8)⟩
  · rcases u with ⟨rfl, rfl⟩ | ⟨rfl, rfl⟩ | ⟨rfl, rfl⟩ | ⟨rfl, rfl⟩ <;> decide
  · rcases u with ⟨rfl, rfl⟩ | ⟨rfl, rfl⟩ | ⟨rfl, rfl⟩ | ⟨rfl, rfl⟩ <;> (revert h hn; walk_at "Z")
theorem home_r {x y hx hy : Int} {i : Nat} (h : OnB x y) (hh : OnB hx hy) (g1 : x ≠ hx) (g : x < hx) : StepAt x y hx hy i 1 0 := by
  refine ⟨.inl ⟨rfl, rfl⟩, ?_, fun _ => ?_⟩ <;> (revert h hh g; walk_at "Z")
theorem home_l {x y hx hy : Int} {i : Nat} (h : OnB x y) (hh : OnB hx hy) (g1 : x ≠ hx) (g : ¬ x < hx) : StepAt x y hx hy i (-1) 0 := by
  refine ⟨.inr (.inr (.inl ⟨rfl, rfl⟩)), ?_, fun _ => ?_⟩ <;> (revert h hh g1 g; walk_at "Z")
theorem home_d {x y hx hy : Int} {i : Nat} (h : OnB x y) (hh : OnB hx hy) (g1 : x = hx) (g2 : y ≠ hy) (g : y < hy) : StepAt x y hx hy i 0 1 := by
  refine ⟨.inr (.inl ⟨rfl, rfl⟩), ?_, fun _ => ?_⟩ <;> (revert h hh g1 g; walk_at "Z")
theorem home_u {x y hx hy : Int} {i : Nat} (h : OnB x y) (hh : OnB hx hy) (g1 : x = hx) (g2 : y ≠ hy) (g : ¬ y < hy) : StepAt x y hx hy i 0 (-1) := by
  refine ⟨.inr (.inr (.inr ⟨rfl, rfl⟩)), ?_, fun _ => ?_⟩ <;> (revert h hh g1 g2 g; walk_at "Z")
theorem far_ok {x y hx hy dx dy : Int} {i : Nat} (u : StepAt x y hx hy i dx dy) (hh : OnB hx hy) (hd : 8 ≤ i → (x - hx).natAbs + (y - hy).natAbs + i ≤ 15) (h8 : 8 ≤ i + 1) : (x + dx - hx).natAbs + (y + dy - hy).natAbs + (i + 1) ≤ 15 := by
  have u2 := u.2.1
  have u3 := u.2.2
  revert u2 u3 hh hd h8; walk_at "Z"
theorem s_pick4 {v i : Expr} {L T1 T2 T3 T4 : Addr} {a1 a2 a3 a4 b1 b2 b3 b4 tk : Tok} {ep : Nat} {k : Int} {Q : Value → Loc → Cells → Prop} (hL : (L, listOf [Value.ref T1, .ref T2, .ref T3, .ref T4].toArray ep) ∈ N)
    (h1 : (T1, tupOf [Value.int 1 a1, .int 0 b1].toArray 0) ∈ N) (h2 : (T2, tupOf [Value.int 0 a2, .int 1 b2].toArray 0) ∈ N) (h3 : (T3, tupOf [Value.int (-1) a3, .int 0 b3].toArray 0) ∈ N) (h4 : (T4, tupOf [Value.int 0 a4, .int (-1) b4].toArray 0) ∈ N)
    (h0 : 0 ≤ k) (hk : k < 4) (h : ∀ T dx dy t t', (T, tupOf [Value.int dx t, .int dy t'].toArray 0) ∈ N → Unit4 dx dy → Q (.ref T) m N) (hs : subscripted i false (.ref L) (.int k tk) = operate [.ref L, .int k tk] (getItem (.ref L) (.int k tk))) :
    TW (GS γ) c (subscriptTail v i (.ref L) (.int k tk)) m N Q := by
  have : k = 0 ∨ k = 1 ∨ k = 2 ∨ k = 3 := by revert h0 hk; walk_at "Z"
  rcases this with rfl | rfl | rfl | rfl
  · exact s_list hL (by decide) (by decide) (x := .ref T1) rfl (h _ _ _ _ _ h1 (by decide)) hs
  · exact s_list hL (by decide) (by decide) (x := .ref T2) rfl (h _ _ _ _ _ h2 (by decide)) hs
  · exact s_list hL (by decide) (by decide) (x := .ref T3) rfl (h _ _ _ _ _ h3 (by decide)) hs
  · exact s_list hL (by decide) (by decide) (x := .ref T4) rfl (h _ _ _ _ _ h4 (by decide)) hs
set_option maxHeartbeats 2000000 in
theorem f_steps {C : Addr} {vs : List Value} {cs : List Int} {epc : Nat} {Q : Value → Loc → Cells → Prop} (o : Ok (GS γ) (n + 2) c) (hC : (C, listOf vs.toArray epc) ∈ N) (hv : IntsAre vs cs) (h10 : cs.length = 10)
    (h : ∀ D ws ep N' sts p, (∀ q ∈ N, q ∈ N') → Fresh D N → (D, listOf ws.toArray ep) ∈ N' → Stp N' ws sts → Trip p p sts → sts.length ≤ 20 → Q (.ref D) m N') :
    TW (GS γ) c (call (.ref 242) [.ref C]) m N Q := by
  refine t_callH [(Str.ofString "cells", .ref C)] o (by rfl) (by rfl) (fun s X => BindsTo.of_eq (by rfl)) (locs (by rfl)) (by decide) (by rfl) (by rfl) (by rfl) (by rfl) ?_
  intro c' m' hs o' hL
  obtain ⟨t8, hv8⟩ := ints_at hv (i := 8) (by rw [h10]; decide)
  repeat walk_at "S"
  refine s_list hC (by decide) (by decide) hv8 ?_
  repeat walk_at "S"
  refine s_list hC (by decide) (by decide) hv8 ?_
  repeat walk_at "S"
  refine ⟨by simp, fun H hH => ?_⟩
  repeat walk_at "S"
  refine ⟨by simp, fun D hD => ?_⟩
  repeat walk_at "S"
  walk_at "F"
  repeat walk_at "S"
  refine a_range1 fun R t2 t3 t4 hR => ?_
  obtain ⟨hx, ehx⟩ : ∃ hx, hx = (cs.getD 8 0).fmod 5 := ⟨_, rfl⟩
  obtain ⟨hy, ehy⟩ : ∃ hy, hy = ((cs.getD 8 0).fdiv 5).fmod 4 := ⟨_, rfl⟩
  rw [← ehx, ← ehy]
  have hh : OnB hx hy := by
    have a1 := Int.fmod_nonneg_of_pos (cs.getD 8 0) (show (0 : Int) < 5 by decide)
    have a2 := Int.fmod_lt_of_pos (cs.getD 8 0) (show (0 : Int) < 5 by decide)
    have b1 := Int.fmod_nonneg_of_pos ((cs.getD 8 0).fdiv 5) (show (0 : Int) < 4 by decide)
    have b2 := Int.fmod_lt_of_pos ((cs.getD 8 0).fdiv 5) (show (0 : Int) < 4 by decide)
    rw [← ehx] at a1 a2; rw [← ehy] at b1 b2; revert a1 a2 b1 b2; walk_at "Z"
  have hsz := size_up 20
  have hRD : R ≠ D := fun e => hR _ (.head _) e.symm
  have hDN : Fresh D N := hD.sub fun p hp => .tail _ hp
  refine for_it o' (it_range (.head _) (small_up (k := 20) (by decide)) hsz)
    (fun I i m' N' => And3 (Fresh I N') (∀ q ∈ N, q ∈ N') (Ex6 fun epD ws sts x y P => Ex5 fun tx ty eP t5 t6 => And4 ((D, listOf ws.toArray epD) ∈ N') (Stp N' ws sts) ((P, tupOf [Value.int x tx, .int y ty].toArray eP) ∈ N') (And5 ((H, tupOf [Value.int hx t5, .int hy t6].toArray 0) ∈ N')
      (Trip (hx, hy) (x, y) sts) (sts.length = i) (8 ≤ i → (x - hx).natAbs + (y - hy).natAbs + i ≤ 15) (Has m' [(Str.ofString "cells", .ref C), (Str.ofString "home", .ref H), (Str.ofString "point", .ref P), (Str.ofString "steps", .ref D)])))) ?_ ?_ ?_ ?_
  · intro I hI
    exact ⟨hI, fun q hq => .tail _ (.tail _ (.tail _ hq)), _, _, [], hx, hy, H, _, _, _, _, _, .tail _ (.head _), .nil, .tail _ (.tail _ (.head _)), .tail _ (.tail _ (.head _)), .nil hh, rfl, fun h => absurd h (by decide), by walk_at "H"⟩
  · rintro I i m' N' ⟨h1, _, _⟩
    exact ⟨by simp, h1⟩
  · rintro I oI i m1 N1 v hi ⟨hFI, hsub, epD, ws, sts, x, y, P, tx, ty, eP, t5, t6, hDm, hStp, hPm, hHm, hTrip, hlen, hdist, hL⟩ ⟨tv, rfl⟩ _ _
    have ei : (0 : Int) + (i : Int) * 1 = (i : Int) := by walk_at "Z"
    rw [ei]
    refine TW.uniq fun hu => ?_
    have hxy : OnB x y := hTrip.on
    have hwl := hStp.len
    obtain ⟨ti, hvi⟩ : ∃ ti, i < 8 → vs[i]? = some (.int (cs.getD i 0) ti) := by
      by_cases q : i < 8
      · obtain ⟨ti, e⟩ := ints_at hv (i := i) (by rw [h10]; exact Nat.lt_trans q (by decide))
        exact ⟨ti, fun _ => e⟩
      · exact ⟨default, fun q' => absurd q' q⟩
    have hC1 : (C, listOf vs.toArray epc) ∈ N1 := hsub _ hC
    repeat walk_at "S"
    refine ite_joinB (fun m' N' => Ex5 fun T dx dy t t' => And4 (∀ p ∈ (I, oI) :: N1, p ∈ N') ((T, tupOf [Value.int dx t, .int dy t'].toArray 0) ∈ N') (StepAt x y hx hy i dx dy)
      (Has m' [(Str.ofString "cells", .ref C), (Str.ofString "home", .ref H), (Str.ofString "point", .ref P), (Str.ofString "steps", .ref D), (Str.ofString "step", .ref T)])) (fun hb => ?_) (fun hb => ?_) ?_
    · have hi8 : i < 8 := Int.ofNat_lt.mp (of_decide_eq_true hb)
      repeat walk_at "S"
      refine ⟨by simp, fun T1 hT1 => ?_⟩
      repeat walk_at "S"
      refine ⟨by simp, fun T2 hT2 => ?_⟩
      repeat walk_at "S"
      refine ⟨by simp, fun T3 hT3 => ?_⟩
      repeat walk_at "S"
      refine ⟨by simp, fun T4 hT4 => ?_⟩
      repeat walk_at "S"
      refine ⟨by simp, fun L4 hL4 => ?_⟩
      repeat walk_at "S"
      refine s_list (.tail _ (.tail _ (.tail _ (.tail _ (.tail _ (.tail _ hC1)))))) (Int.natCast_nonneg _) (by revert hi8; walk_at "Z") (hvi hi8) ?_
      repeat walk_at "S"
      refine s_pick4 (.head _) (by walk_at "M") (by walk_at "M") (by walk_at "M") (by walk_at "M") (Int.fmod_nonneg_of_pos _ (by decide)) (Int.fmod_lt_of_pos _ (by decide)) (fun T dx dy t t' hT hU => ?_) (by with_unfolding_all rfl)
      iterate 2 walk_at "S"
      have hPm4 : ∀ {q4 q3 q2 q1 q0 : Addr × Obj}, (P, tupOf [Value.int x tx, Value.int y ty].toArray eP) ∈ q4 :: q3 :: q2 :: q1 :: q0 :: (I, oI) :: N1 := fun {q4 q3 q2 q1 q0} => .tail _ (.tail _ (.tail _ (.tail _ (.tail _ (.tail _ hPm)))))
      refine t_ifC (!decide (OnB (x + dx) (y + dy))) ?_ ?_
      · repeat walk_at "S"
        refine s_tup hPm4 (by decide) (by decide) (x := .int x tx) rfl ?_
        repeat walk_at "S"
        refine s_tup hT (by decide) (by decide) (x := .int dx t) rfl ?_
        repeat walk_at "S"
        refine t_dec (fun g1 => ?_) (fun g1 => ?_)
        rotate_left
        · exact t_false ⟨by rw [decide_eq_false fun q => g1 q.1], rfl, rfl⟩
        repeat walk_at "S"
        refine t_dec (fun g2 => ?_) (fun g2 => ?_)
        rotate_left
        · exact ⟨by rw [decide_eq_false fun q => g2 q.2.1], rfl, rfl⟩
        repeat walk_at "S"
        refine s_tup hPm4 (by decide) (by decide) (x := .int y ty) rfl ?_
        repeat walk_at "S"
        refine s_tup hT (by decide) (by decide) (x := .int dy t') rfl ?_
        repeat walk_at "S"
        refine t_dec (fun g3 => ?_) (fun g3 => ?_)
        rotate_left
        · exact t_false ⟨by rw [decide_eq_false fun q => g3 q.2.2.1], rfl, rfl⟩
        repeat walk_at "S"
        refine t_dec (fun g4 => ?_) (fun g4 => ?_)
        rotate_left
        · exact ⟨by rw [decide_eq_false fun q => g4 q.2.2.2], rfl, rfl⟩
        repeat walk_at "S"
        exact ⟨by rw [decide_eq_true ⟨g1, g2, g3, g4⟩], rfl, rfl⟩
      by_cases hb2 : OnB (x + dx) (y + dy)
      · rw [decide_eq_true hb2]
        refine t_false ?_
        repeat walk_at "S"
        exact .inl ⟨rfl, T, dx, dy, t, t', fun p hp => .tail _ (.tail _ (.tail _ (.tail _ (.tail _ hp)))), hT, ⟨hU, hb2, fun h8 => absurd hi8 (Nat.not_lt.mpr h8)⟩, by walk_at "H"⟩
      · rw [decide_eq_false hb2]
        refine t_true ?_
        repeat walk_at "S"
        refine s_tup hT (by decide) (by decide) (x := .int dx t) rfl ?_
        repeat walk_at "S"
        refine s_tup hT (by decide) (by decide) (x := .int dy t') rfl ?_
        repeat walk_at "S"
        refine ⟨by simp, fun T5 hT5 => ?_⟩
        repeat walk_at "S"
        exact .inl ⟨rfl, T5, -dx, -dy, _, _, fun p hp => .tail _ (.tail _ (.tail _ (.tail _ (.tail _ (.tail _ hp))))), .head _, turn_back hxy hU hb2 hi8, by walk_at "H"⟩
    · have hi8 : 8 ≤ i := Nat.not_lt.mp fun e => of_decide_eq_false hb (Int.ofNat_lt.mpr e)
      repeat walk_at "S"
      refine s_tup (.tail _ hPm) (by decide) (by decide) (x := .int x tx) rfl ?_
      repeat walk_at "S"
      refine s_tup (.tail _ hHm) (by decide) (by decide) (x := .int hx t5) rfl ?_
      repeat walk_at "S"
      refine t_dec (fun g1 => ?_) (fun g1 => ?_)
      · repeat walk_at "S"
        refine s_tup (.tail _ hPm) (by decide) (by decide) (x := .int x tx) rfl ?_
        repeat walk_at "S"
        refine s_tup (.tail _ hHm) (by decide) (by decide) (x := .int hx t5) rfl ?_
        repeat walk_at "S"
        refine t_dec (fun g3 => ?_) (fun g3 => ?_)
        · repeat walk_at "S"
          refine ⟨by simp, fun T5 hT5 => ?_⟩
          repeat walk_at "S"
          exact .inl ⟨rfl, T5, 1, 0, _, _, fun p hp => .tail _ hp, .head _, home_r hxy hh g1 g3, by walk_at "H"⟩
        · repeat walk_at "S"
          refine ⟨by simp, fun T5 hT5 => ?_⟩
          repeat walk_at "S"
          exact .inl ⟨rfl, T5, -1, 0, _, _, fun p hp => .tail _ hp, .head _, home_l hxy hh g1 g3, by walk_at "H"⟩
      · have g1 : x = hx := Classical.not_not.mp g1
        repeat walk_at "S"
        refine s_tup (.tail _ hPm) (by decide) (by decide) (x := .int y ty) rfl ?_
        repeat walk_at "S"
        refine s_tup (.tail _ hHm) (by decide) (by decide) (x := .int hy t6) rfl ?_
        repeat walk_at "S"
        refine t_dec (fun g2 => ?_) (fun g2 => ?_)
        · repeat walk_at "S"
          refine s_tup (.tail _ hPm) (by decide) (by decide) (x := .int y ty) rfl ?_
          repeat walk_at "S"
          refine s_tup (.tail _ hHm) (by decide) (by decide) (x := .int hy t6) rfl ?_
          repeat walk_at "S"
          refine t_dec (fun g3 => ?_) (fun g3 => ?_)
          · repeat walk_at "S"
            refine ⟨by simp, fun T5 hT5 => ?_⟩
            repeat walk_at "S"
            exact .inl ⟨rfl, T5, 0, 1, _, _, fun p hp => .tail _ hp, .head _, home_d hxy hh g1 g2 g3, by walk_at "H"⟩
          · repeat walk_at "S"
            refine ⟨by simp, fun T5 hT5 => ?_⟩
            repeat walk_at "S"
            exact .inl ⟨rfl, T5, 0, -1, _, _, fun p hp => .tail _ hp, .head _, home_u hxy hh g1 g2 g3, by walk_at "H"⟩
        · have g2 : y = hy := Classical.not_not.mp g2
          subst g1; subst g2
          repeat walk_at "S"
          refine .inr ⟨rfl, Gen.use (by assumption) ?_⟩
          refine ⟨N1, fun p hp => .tail _ hp, ?_⟩
          repeat walk_at "S"
          exact ⟨N1, fun _ h => h, h D ws epD N1 sts _ hsub hDN hDm hStp hTrip (by rw [hlen]; exact Nat.le_of_lt hi)⟩
    · rintro m' N' ⟨T, dx, dy, t, t', hsub2, hT, hStep, hL⟩
      refine TW.uniq fun hun => ?_
      have hu' : ∀ {a : Addr} {its : Array Value} {ep : Nat}, (D, tupOf its ep) ∈ N' → (D, listOf ws.toArray epD) ∈ N' → False := fun {a its ep} h1 h2 => by
        have := hun _ _ _ h1 h2
        exact tup_list (congrArg (·.cls) this)
      have hPm' := hsub2 _ (.tail _ hPm)
      have hDm' := hsub2 _ (.tail _ hDm)
      repeat walk_at "S"
      refine m_append hDm' rfl rfl ?_
      repeat walk_at "S"
      refine f_side (n := n) (o'.mono (Nat.le_refl _)) hPm' hT ⟨hxy.1, hxy.2.1⟩ hxy.2.2 (side_ok hxy hStep.1 hStep.2.1).1 (side_ok hxy hStep.1 hStep.2.1).2 fun t7 => ?_
      repeat walk_at "S"
      refine s_tup hT (by decide) (by decide) (x := .int dx t) rfl ?_
      repeat walk_at "S"
      refine s_tup hT (by decide) (by decide) (x := .int dy t') rfl ?_
      repeat walk_at "S"
      refine ⟨by simp, fun TT hTT => ?_⟩
      repeat walk_at "S"
      refine a_append (.tail _ hDm') (by rw [hwl, hlen]; exact Nat.le_trans (Nat.le_of_lt hi) (by decide)) fun ep2 => ?_
      refine ⟨trivial, ?_⟩
      have hTD : TT ≠ D := fun e => hTT _ hDm' e.symm
      rw [put_tail hTD]
      obtain ⟨N3, hN3⟩ : ∃ N3, N3 = put D (listOf (ws ++ [Value.ref TT]).toArray ep2) N' := ⟨_, rfl⟩
      have hk : ∀ {a : Addr} {its : Array Value} {ep : Nat}, (a, tupOf its ep) ∈ N' → (a, tupOf its ep) ∈ N3 := fun {a its ep} h1 => by
        rw [hN3]; exact put_other h1 fun e => hu' (a := a) (e ▸ h1) hDm'
      have hD3 : (D, listOf (ws ++ [Value.ref TT]).toArray ep2) ∈ N3 := by rw [hN3]; exact put_mem hDm'
      rw [← hN3]
      have hPm3 := hk hPm'
      have hT3 := hk hT
      repeat walk_at "S"
      refine s_tup (.tail _ hPm3) (by decide) (by decide) (x := .int x tx) rfl ?_
      repeat walk_at "S"
      refine s_tup (.tail _ hT3) (by decide) (by decide) (x := .int dx t) rfl ?_
      repeat walk_at "S"
      refine s_tup (.tail _ hPm3) (by decide) (by decide) (x := .int y ty) rfl ?_
      repeat walk_at "S"
      refine s_tup (.tail _ hT3) (by decide) (by decide) (x := .int dy t') rfl ?_
      repeat walk_at "S"
      refine ⟨by simp, fun P2 hP2 => ?_⟩
      repeat walk_at "S"
      have hI3 : (I, oI) ∈ N3 := by rw [hN3]; exact put_other (hsub2 _ (.head _)) fun e => hFI _ hDm e.symm
      have hDI : D ≠ I := hFI _ hDm
      have hTTI : TT ≠ I := fun e => hTT _ (hsub2 _ (.head _)) e.symm
      have hP2I : P2 ≠ I := fun e => hP2 _ (.tail _ hI3) e.symm
      refine ⟨wo I _, wo_all (.tail _ (.tail _ hI3)), wo_fresh, ?_, ep2, ws ++ [.ref TT], sts ++ [(sideName x y dx dy, dx + dy)], x + dx, y + dy, P2, _, _, 0, t5, t6, wo_mem (.tail _ (.tail _ hD3)) hDI, ?_,
        wo_mem (.head _) hP2I, wo_mem (.tail _ (.tail _ (hk (hsub2 _ (.tail _ hHm))))) (hFI _ hHm), .snoc hTrip hStep.1 hStep.2.1, by rw [List.length_append, hlen]; rfl, far_ok hStep hh hdist, by walk_at "H"⟩
      · rintro ⟨b, ob⟩ hq
        exact wo_mem (.tail _ (.tail _ (by rw [hN3]; exact put_other (hsub2 _ (.tail _ (hsub _ hq))) (hDN _ hq)))) (hFI _ (hsub _ hq))
      · exact (hStp.keep fun a its ep h1 => wo_mem (.tail _ (.tail _ (hk (hsub2 _ (.tail _ h1))))) (hFI _ h1)).snoc (wo_mem (.tail _ (.head _)) hTTI)
  · rintro I m' N' ⟨_, _, _, _, sts, x, y, _, _, _, _, _, _, _, _, _, _, _, _, hd, _⟩
    exact absurd (Nat.le_trans (Nat.le_add_left _ _) (hd (by decide))) (by decide)
end

-- s3
theorem Picks.prs {R : Nat → Option Value → Prop} {N : Cells} {vs ps} (hp : Prs N vs ps) (f : List Nat × List Nat → Bool) (h0 : ∀ i p, ps[i]? = some p → R i none → f p = false)
    (h1 : ∀ i p y, ps[i]? = some p → R i (some y) → f p = true ∧ vs[i]? = some y) {k ys} (hk : k ≤ ps.length) (h : Picks R k ys) : Prs N ys ((ps.take k).filter f) := by
  induction k generalizing ys with
  | zero => rw [show ys = [] from h]; exact .nil
  | succ k ih =>
    obtain ⟨ys', h', e⟩ := h
    have ih' := ih (Nat.le_of_succ_le hk) h'
    have hk' : k < ps.length := hk
    rw [List.take_succ_eq_append_getElem hk', List.filter_append]
    have hg := List.getElem?_eq_getElem hk'
    rcases e with ⟨hr, rfl⟩ | ⟨y, hr, rfl⟩
    · rw [List.filter_cons, h0 k _ hg hr, if_neg Bool.false_ne_true, List.filter_nil, List.append_nil]; exact ih'
    · obtain ⟨e1, e2⟩ := h1 k _ y hg hr
      obtain ⟨T, t, u, ep, e3, e4⟩ := hp.get (a := ps[k].1) (b := ps[k].2) hg
      rw [e3] at e2
      obtain rfl := Option.some.inj e2
      rw [List.filter_cons, e1, if_pos rfl, List.filter_nil]
      exact ih'.snoc e4
section
variable {γ : GP} {c : Act} {n : Nat} {m : Loc} {N : Cells}
def hdel (ps : List (List Nat × List Nat)) (a : List Nat) : List (List Nat × List Nat) := ps.filter fun p => !decide (p.1.map lo1 = a.map lo1)
theorem f_del {x dx H : Addr} {vs : List Value} {ps : List (List Nat × List Nat)} {ep : Nat} {a : List Nat} {t : Tok} {Q : Value → Loc → Cells → Prop} (o : Ok (GS γ) (n + 2) c)
    (I : HdrIs x dx H N) (hm : (H, listOf vs.toArray ep) ∈ N) (hp : Prs N vs ps) (ha : Ascii a) (hn : NoCtl a) (hz : a.length ≤ 1000000) (hps : ∀ p ∈ ps, Ascii p.1 ∧ p.1.length ≤ 1000000) (hl : ps.length ≤ 100000)
    (h : ∀ vs' ep', (∀ M, Prs M vs ps → Prs M vs' (hdel ps a)) → Q .none m (put H (listOf vs'.toArray ep') N)) : TW (GS γ) c (call (.ref 137) [.ref x, .str (S a) t]) m N Q := by
  refine t_callC1 [(Str.ofString "self", .ref x), (Str.ofString "name", .str (S a) t)] (Str.ofString "name") [(Str.ofString "self", .ref x)] o (by rfl) (by rfl) (fun s X => BindsTo.of_eq (by rfl)) (by rfl) (by intro _; rfl) ?_ (by rfl) (by rfl) (by rfl) ?_
  · intro p hp
    simp only [List.mem_cons, List.not_mem_nil, or_false] at hp
    rcases hp with rfl; rfl
  intro c' m' A ob hs o' hL hcl hFa hob
  replace hob : ob.data = .cell (some (.str (S a) t)) := hob
  have hlen := hp.len
  obtain ⟨hsh, t0, J⟩ := I.ins
  repeat walk_at "S"
  refine mk_inst o' J.tail (by rfl) (by rfl) (by rfl) (by rfl) ?_
  repeat walk_at "S"
  refine a_lower ha (by revert hz; walk_at "Z") fun t1 => ?_
  repeat walk_at "S"
  refine f_conv o' (noctl_lower hn) (by rw [List.length_map]; revert hz; walk_at "Z") ?_
  repeat walk_at "S"
  refine t_storeCE o' hs hcl (by rfl) (.head _) hob (by rfl) fun ob2 hob2 => ?_
  rw [put_head hFa]
  repeat walk_at "S"
  refine a_attr o' J.tail (by rfl) (by rfl) (by rfl) (by rfl) (by rfl) (by rfl) ?_
  refine comp_it (it_list (.tail _ hm)) (fun d hd => by rw [List.mem_singleton] at hd; subst hd; exact .tail _ hm) (by rw [hlen]; exact Nat.le_trans hl (by decide))
    (fun i r => ∀ p, ps[i]? = some p → r = if p.1.map lo1 = a.map lo1 then none else vs[i]?) ?_ ?_
  · rintro c₂ l X i v hs₂ hcl₂ o₂ hX hi hP
    have hi' : i < ps.length := hlen ▸ hi
    have hg := List.getElem?_eq_getElem hi'
    obtain ⟨T, t2, u2, ep2, hv2, hT⟩ := hp.get (a := ps[i].1) (b := ps[i].2) hg
    have hpi := hps _ (List.getElem_mem hi')
    rw [hv2] at hP
    obtain rfl := Option.some.inj hP
    have hka : (A, ob2) ∈ X := hX _ (.head _)
    repeat walk_at "S"
    refine s_tup (hX _ (.tail _ hT)) (by decide) (by decide) (x := .str (S ps[i].1) t2) rfl ?_
    repeat walk_at "S"
    refine a_lower hpi.1 (Nat.le_trans hpi.2 (by decide)) fun t3 => ?_
    repeat walk_at "S"
    refine t_dec (fun he => ?_) (fun he => ?_)
    · repeat walk_at "S"
      exact ⟨fun p hp' => by rw [hg] at hp'; obtain rfl := Option.some.inj hp'; rw [if_neg he, hv2], fun _ h => h⟩
    · exact ⟨fun p hp' => by rw [hg] at hp'; obtain rfl := Option.some.inj hp'; rw [if_pos (Classical.not_not.mp he)], fun _ h => h⟩
  · intro B ys epB hpk hB
    have hyl := hpk.len
    have hPr : ∀ M, Prs M vs ps → Prs M ys (hdel ps a) := fun M hp => by
      have := hpk.prs hp (fun p => !decide (p.1.map lo1 = a.map lo1)) (fun i p e hr => ?_) (fun i p y e hr => ?_) (Nat.le_of_eq hlen)
      · rwa [hlen, List.take_length] at this
      · have hr := hr p e
        by_cases q : p.1.map lo1 = a.map lo1
        · rw [decide_eq_true q]; rfl
        · rw [if_neg q] at hr
          obtain ⟨T, t2, u2, ep2, hv2, hT⟩ := hp.get (a := p.1) (b := p.2) e
          rw [hv2] at hr; cases hr
      · have hr := hr p e
        by_cases q : p.1.map lo1 = a.map lo1
        · rw [if_pos q] at hr; cases hr
        · rw [if_neg q] at hr
          exact ⟨by rw [decide_eq_false q]; rfl, hr.symm⟩
    repeat walk_at "S"
    refine a_attr o' J.tail.tail (by rfl) (by rfl) (by rfl) (by rfl) (by rfl) (by rfl) ?_
    refine t_sliceAll fun SL hSL => ?_
    have hAH : A ≠ H := fun e => hFa _ hm e.symm
    have hBH : B ≠ H := fun e => hB _ (.tail _ hm) e.symm
    have hSH : SL ≠ H := fun e => hSL _ (.tail _ (.tail _ hm)) e.symm
    refine set_all (.tail _ (.tail _ (.tail _ hm))) (.head _) (.tail _ (.head _)) (by revert hyl hlen hl; walk_at "Z") fun ep' => ?_
    rw [put_tail hSH, put_tail hBH, put_tail hAH]
    repeat walk_at "S"
    exact ⟨_, fun p hp => .tail _ (.tail _ (.tail _ hp)), h ys ep' hPr⟩
theorem f_keys {x dx H : Addr} {vs : List Value} {ps : List (List Nat × List Nat)} {ep : Nat} {Q : Value → Loc → Cells → Prop} (o : Ok (GS γ) (n + 2) c)
    (I : HdrIs x dx H N) (hm : (H, listOf vs.toArray ep) ∈ N) (hp : Prs N vs ps) (hl : ps.length ≤ 100000)
    (h : ∀ D vs' ep', Fresh D N → Strs vs' (ps.map (·.1)) → Q (.ref D) m ((D, listOf vs'.toArray ep') :: N)) : TW (GS γ) c (call (.ref 169) [.ref x]) m N Q := by
  refine t_callH [(Str.ofString "self", .ref x)] o (by rfl) (by rfl) (fun s X => BindsTo.of_eq (by rfl)) (locs (by rfl)) (by decide) (by rfl) (by rfl) (by rfl) (by rfl) ?_
  intro c' m' hs o' hL
  have hlen := hp.len
  obtain ⟨hsh, t0, J⟩ := I.ins
  repeat walk_at "S"
  refine a_attr o' J (by rfl) (by rfl) (by rfl) (by rfl) (by rfl) (by rfl) ?_
  refine comp_it (it_list hm) (fun d hd => by rw [List.mem_singleton] at hd; subst hd; exact hm) (by rw [hlen]; exact Nat.le_trans hl (by decide))
    (fun i r => ∃ t, r = some (.str (S (ps.getD i ([], [])).1) t)) ?_ ?_
  · rintro c₂ l X i v hs₂ hcl₂ o₂ hX hi hP
    have hi' : i < ps.length := hlen ▸ hi
    have hg := List.getElem?_eq_getElem hi'
    obtain ⟨T, t2, u2, ep2, hv2, hT⟩ := hp.get (a := ps[i].1) (b := ps[i].2) hg
    rw [hv2] at hP
    obtain rfl := Option.some.inj hP
    have e : ps.getD i ([], []) = ps[i] := by rw [List.getD_eq_getElem?_getD, hg]; rfl
    rw [e]
    refine t_pair o₂ (hX _ hT) ?_
    repeat walk_at "S"
    refine t_true ?_
    repeat walk_at "S"
    exact ⟨⟨_, rfl⟩, fun _ h => h⟩
  · intro B ys epB hpk hB
    have hst : Strs ys _ := hpk.strs (f := fun i => some (ps.getD i ([], [])).1) (fun i hi ⟨t, e⟩ => by cases e) (fun i y hi ⟨t, e⟩ => ⟨_, t, rfl, by cases e; rfl⟩)
    have e : (List.range vs.length).filterMap (fun i => some (ps.getD i ([], [])).1) = ps.map (·.1) := by
      rw [hlen]
      apply List.ext_getElem?
      intro i
      rw [show (fun i => some (ps.getD i ([], [])).1) = some ∘ (fun i => (ps.getD i ([], [])).1) from rfl, List.filterMap_eq_map, List.getElem?_map, List.getElem?_map]
      by_cases q : i < ps.length
      · rw [List.getElem?_range q, List.getElem?_eq_getElem q, Option.map_some, Option.map_some, List.getD_eq_getElem?_getD, List.getElem?_eq_getElem q]; rfl
      · rw [List.getElem?_eq_none (by simpa using q), List.getElem?_eq_none (Nat.le_of_not_lt q)]; rfl
    rw [e] at hst
    repeat walk_at "S"
    exact ⟨_, fun _ h => h, h B ys epB hB hst⟩
def hall (ps : List (List Nat × List Nat)) (a : List Nat) : List (List Nat) := (ps.filter fun p => decide (p.1.map lo1 = a.map lo1)).map (·.2)
theorem hall_range (ps : List (List Nat × List Nat)) (a : List Nat) : ((List.range ps.length).filterMap fun i => if (ps.getD i ([], [])).1.map lo1 = a.map lo1 then some (ps.getD i ([], [])).2 else none) = hall ps a := by
  have key : ∀ k ≤ ps.length, ((List.range k).filterMap fun i => if (ps.getD i ([], [])).1.map lo1 = a.map lo1 then some (ps.getD i ([], [])).2 else none) = hall (ps.take k) a := by
    intro k
    induction k with
    | zero => intro _; rfl
    | succ k ih =>
      intro hk
      have e : ps.getD k ([], []) = ps[k] := by rw [List.getD_eq_getElem?_getD, List.getElem?_eq_getElem hk]; rfl
      rw [List.range_succ, List.filterMap_append, ih (Nat.le_of_succ_le hk), List.take_succ_eq_append_getElem hk]
      unfold hall
      rw [List.filter_append, List.map_append]
      congr 1
      by_cases q : ps[k].1.map lo1 = a.map lo1
      · rw [List.filter_cons, decide_eq_true q, if_pos rfl, List.filterMap_cons, e, if_pos q]; rfl
      · rw [List.filter_cons, decide_eq_false q, if_neg Bool.false_ne_true, List.filterMap_cons, e, if_neg q]; rfl
  have := key ps.length (Nat.le_refl _)
  rwa [List.take_length] at this
theorem f_all {x dx H : Addr} {vs : List Value} {ps : List (List Nat × List Nat)} {ep : Nat} {a : List Nat} {t : Tok} {Q : Value → Loc → Cells → Prop} (o : Ok (GS γ) (n + 2) c)
    (I : HdrIs x dx H N) (hm : (H, listOf vs.toArray ep) ∈ N) (hp : Prs N vs ps) (ha : Ascii a) (hn : NoCtl a) (hz : a.length ≤ 1000000) (hps : ∀ p ∈ ps, Ascii p.1 ∧ p.1.length ≤ 1000000) (hl : ps.length ≤ 100000)
    (h : ∀ D vs' ep' N', (∀ p ∈ (D, listOf vs'.toArray ep') :: N, p ∈ N') → Strs vs' (hall ps a) → Q (.ref D) m N') : TW (GS γ) c (call (.ref 156) [.ref x, .str (S a) t]) m N Q := by
  refine t_callC1 [(Str.ofString "self", .ref x), (Str.ofString "name", .str (S a) t)] (Str.ofString "name") [(Str.ofString "self", .ref x)] o (by rfl) (by rfl) (fun s X => BindsTo.of_eq (by rfl)) (by rfl) (by intro _; rfl) ?_ (by rfl) (by rfl) (by rfl) ?_
  · intro p hp
    simp only [List.mem_cons, List.not_mem_nil, or_false] at hp
    rcases hp with rfl; rfl
  intro c' m' A ob hs o' hL hcl hFa hob
  replace hob : ob.data = .cell (some (.str (S a) t)) := hob
  have hlen := hp.len
  obtain ⟨hsh, t0, J⟩ := I.ins
  repeat walk_at "S"
  refine mk_inst o' J.tail (by rfl) (by rfl) (by rfl) (by rfl) ?_
  repeat walk_at "S"
  refine a_lower ha (by revert hz; walk_at "Z") fun t1 => ?_
  repeat walk_at "S"
  refine f_conv o' (noctl_lower hn) (by rw [List.length_map]; revert hz; walk_at "Z") ?_
  repeat walk_at "S"
  refine t_storeCE o' hs hcl (by rfl) (.head _) hob (by rfl) fun ob2 hob2 => ?_
  rw [put_head hFa]
  repeat walk_at "S"
  refine a_attr o' J.tail (by rfl) (by rfl) (by rfl) (by rfl) (by rfl) (by rfl) ?_
  refine comp_it (it_list (.tail _ hm)) (fun d hd => by rw [List.mem_singleton] at hd; subst hd; exact .tail _ hm) (by rw [hlen]; exact Nat.le_trans hl (by decide))
    (fun i r => if (ps.getD i ([], [])).1.map lo1 = a.map lo1 then ∃ t, r = some (.str (S (ps.getD i ([], [])).2) t) else r = none) ?_ ?_
  · rintro c₂ l X i v hs₂ hcl₂ o₂ hX hi hP
    have hi' : i < ps.length := hlen ▸ hi
    have hg := List.getElem?_eq_getElem hi'
    obtain ⟨T, t2, u2, ep2, hv2, hT⟩ := hp.get (a := ps[i].1) (b := ps[i].2) hg
    have hpi := hps _ (List.getElem_mem hi')
    rw [hv2] at hP
    obtain rfl := Option.some.inj hP
    have hka : (A, ob2) ∈ X := hX _ (.head _)
    have e : ps.getD i ([], []) = ps[i] := by rw [List.getD_eq_getElem?_getD, hg]; rfl
    rw [e]
    repeat walk_at "S"
    refine s_tup (hX _ (.tail _ hT)) (by decide) (by decide) (x := .str (S ps[i].1) t2) rfl ?_
    repeat walk_at "S"
    refine a_lower hpi.1 (Nat.le_trans hpi.2 (by decide)) fun t3 => ?_
    repeat walk_at "S"
    refine t_dec (fun he => ?_) (fun he => ?_)
    · repeat walk_at "S"
      refine s_tup (hX _ (.tail _ hT)) (by decide) (by decide) (x := .str (S ps[i].2) u2) rfl ?_
      exact ⟨by rw [if_pos he]; exact ⟨_, rfl⟩, fun _ h => h⟩
    · exact ⟨by rw [if_neg he], fun _ h => h⟩
  · intro B ys epB hpk hB
    have hst : Strs ys _ := hpk.strs (f := fun i => if (ps.getD i ([], [])).1.map lo1 = a.map lo1 then some (ps.getD i ([], [])).2 else none) (fun i hi hr => by
      by_cases q : (ps.getD i ([], [])).1.map lo1 = a.map lo1
      · rw [if_pos q] at hr; obtain ⟨t, e⟩ := hr; cases e
      · rw [if_neg q]) (fun i y hi hr => by
      by_cases q : (ps.getD i ([], [])).1.map lo1 = a.map lo1
      · rw [if_pos q] at hr ⊢; obtain ⟨t, e⟩ := hr; cases e; exact ⟨_, t, rfl, rfl⟩
      · rw [if_neg q] at hr; cases hr)
    rw [hlen, hall_range] at hst
    repeat walk_at "S"
    exact ⟨_, fun _ h => h, h B ys epB _ (fun p hp => (List.mem_cons.mp hp).elim (fun e => e ▸ .head _) fun hp => .tail _ (.tail _ hp)) hst⟩
end

-- s4
def sideStep (ps : List (List Nat × List Nat)) (i : Nat) (a : List Nat) : List (List Nat × List Nat) :=
  if (hget ps (sized a ((i : Int).fdiv 2))).isSome then hdel ps (sized a i) else hdel ps (sized a i) ++ [(sized a i, []), (sized a ((i : Int) + 1), [])]
def sidesN (sts : List (List Nat × Int)) : Nat → List (List Nat × List Nat)
  | 0 => []
  | k + 1 => sideStep (sidesN sts k) k (sts.getD k ([], 0)).1
def NameOk (a : List Nat) : Prop := Ascii a ∧ NoCtl a ∧ a.length ≤ 2
theorem sized_ok {a : List Nat} {i : Int} (h : NameOk a) : NameOk (sized a i) := by
  unfold sized
  split
  · refine ⟨fun d hd => ?_, fun d hd => ?_, by rw [List.length_map]; exact h.2.2⟩
    · obtain ⟨e, he, rfl⟩ := List.mem_map.mp hd
      have := h.1 e he; unfold up1; split
      · exact Nat.lt_of_le_of_lt (Nat.sub_le _ _) this
      · exact this
    · obtain ⟨e, he, rfl⟩ := List.mem_map.mp hd
      have := h.2.1 e he; unfold up1; split
      · rename_i g; revert g; walk_at "Z"
      · exact this
  · exact h
theorem hdel_sub {ps : List (List Nat × List Nat)} {a : List Nat} {p : List Nat × List Nat} (h : p ∈ hdel ps a) : p ∈ ps := (List.mem_filter.mp h).1
theorem hdel_len {ps : List (List Nat × List Nat)} {a : List Nat} : (hdel ps a).length ≤ ps.length := List.length_filter_le _ _
theorem sidesN_ok {sts : List (List Nat × Int)} (hs : ∀ p ∈ sts, NameOk p.1) : ∀ k ≤ sts.length, (∀ p ∈ sidesN sts k, NameOk p.1) ∧ (sidesN sts k).length ≤ 2 * k := by
  intro k
  induction k with
  | zero => intro _; exact ⟨fun p hp => (List.not_mem_nil hp).elim, Nat.le_refl _⟩
  | succ k ih =>
    intro hk
    obtain ⟨h1, h2⟩ := ih (Nat.le_of_succ_le hk)
    have hn : NameOk (sts.getD k ([], 0)).1 := by
      rw [List.getD_eq_getElem?_getD, List.getElem?_eq_getElem hk]; exact hs _ (List.getElem_mem hk)
    have hl := hdel_len (ps := sidesN sts k) (a := sized (sts.getD k ([], 0)).1 k)
    show (∀ p ∈ sideStep _ _ _, _) ∧ (sideStep _ _ _).length ≤ _
    unfold sideStep
    split
    · exact ⟨fun p hp => h1 p (hdel_sub hp), by revert h2 hl; walk_at "Z"⟩
    · refine ⟨fun p hp => ?_, by rw [List.length_append]; show _ + 2 ≤ _; revert h2 hl; walk_at "Z"⟩
      rcases List.mem_append.mp hp with hp | hp
      · exact h1 p (hdel_sub hp)
      · rcases List.mem_cons.mp hp with rfl | hp
        · exact sized_ok hn
        · rw [List.mem_singleton] at hp; subst hp; exact sized_ok hn
theorem put_only {a : Addr} {o o' : Obj} {N : Cells} (h : (a, o) ∈ put a o' N) : o = o' := by
  obtain ⟨q, hq, e⟩ := List.mem_map.mp h
  by_cases g : q.1 = a
  · rw [if_pos g] at e; exact (Prod.mk.inj e).2.symm
  · rw [if_neg g] at e; rw [e] at g; exact absurd rfl g
theorem put_noT {a : Addr} {N : Cells} {vs : List Value} {ep : Nat} (its : Array Value) (e : Nat) : (a, tupOf its e) ∉ put a (listOf vs.toArray ep) N := fun h => tup_list (congrArg (·.cls) (put_only h))
theorem noctl_nil : NoCtl [] := fun d hd => (List.not_mem_nil hd).elim
section
variable {γ : GP} {c : Act} {n : Nat} {m : Loc} {N : Cells}
set_option maxHeartbeats 2000000 in
theorem f_sides {D H : Addr} {vs : List Value} {sts : List (List Nat × Int)} {ep ep0 : Nat} {Q : Value → Loc → Cells → Prop} (o : Ok (GS γ) (n + 5) c)
    (hD : (D, listOf vs.toArray ep) ∈ N) (hst : Stp N vs sts) (hl : sts.length ≤ 20) (hna : ∀ p ∈ sts, NameOk p.1) (hH : (H, listOf [].toArray ep0) ∈ N) (hDH : D ≠ H)
    (h : ∀ K ws epK hvs epH N', (∀ q ∈ N, q.1 ≠ H → q ∈ N') → (H, listOf hvs.toArray epH) ∈ N' → Prs N' hvs (sidesN sts sts.length) → (K, listOf ws.toArray epK) ∈ N' → Strs ws ((sidesN sts sts.length).map (·.1)) → Q (.ref K) m N') :
    TW (GS γ) c (call (.ref 256) [.ref D, .ref H]) m N Q := by
  refine TW.uniq fun hu0 => ?_
  refine t_callH [(Str.ofString "steps", .ref D), (Str.ofString "given", .ref H)] o (by rfl) (by rfl) (fun s X => BindsTo.of_eq (by rfl)) (locs (by rfl)) (by decide) (by rfl) (by rfl) (by rfl) (by rfl) ?_
  intro c' m' hs o' hL
  have hvl := hst.len
  repeat walk_at "S"
  refine f_new (n := n + 1) o' hH fun x dx N0 hx hdx hsub hI => ?_
  have hxH : x ≠ H := fun e => hx _ hH e.symm
  have hdH : dx ≠ H := fun e => hdx _ hH e.symm
  repeat walk_at "S"
  walk_at "F"
  repeat walk_at "S"
  refine a_len (hsub _ hD) (by rw [hvl]; revert hl; walk_at "Z") fun t1 => ?_
  repeat walk_at "S"
  refine a_range1 fun R t2 t3 t4 hR => ?_
  have hsz := size_up vs.length
  refine for_it o' (it_range (.head _) (small_up (by rw [hvl]; exact Nat.le_trans hl (by decide))) hsz)
    (fun I i m' N' => And6 (Fresh I N') (∀ q ∈ N, q.1 ≠ H → q ∈ N') (HdrIs x dx H N') (i ≤ sts.length) ((R, rngOf 0 (vs.length : Int) 1 t2 t3 t4) ∈ N') (Ex2 fun hvs epH => And3 ((H, listOf hvs.toArray epH) ∈ N') (Prs N' hvs (sidesN sts i))
      (Has m' [(Str.ofString "steps", .ref D), (Str.ofString "given", .ref H), (Str.ofString "sides", .ref x)]))) ?_ ?_ ?_ ?_
  · intro I hI'
    exact ⟨hI', fun q hq _ => .tail _ (hsub _ hq), hI.of (fun _ h => .tail _ h) (fun _ h => .tail _ h), Nat.zero_le _, .head _, _, _, .tail _ (hsub _ hH), .nil, by walk_at "H"⟩
  · rintro I i m' N' ⟨h1, _, _, _, h5, _⟩
    exact ⟨by simp, h1⟩
  · rintro I oI i m1 N1 v hi ⟨hFI, hN1, hI1, hil, hR1, hvs, epH, hH1, hPr, hL⟩ ⟨tv, rfl⟩ _ _
    have ei : (0 : Int) + (i : Int) * 1 = (i : Int) := by walk_at "Z"
    rw [ei]
    have hi' : i < sts.length := hvl ▸ hi
    have hg := List.getElem?_eq_getElem hi'
    obtain ⟨T, t5, u5, ep5, hvi, hT⟩ := hst.get (a := sts[i].1) (k := sts[i].2) hg
    have ea : (sts.getD i ([], 0)).1 = sts[i].1 := by rw [List.getD_eq_getElem?_getD, hg]; rfl
    have hni := hna _ (List.getElem_mem hi')
    obtain ⟨a, ha⟩ : ∃ a, a = sts[i].1 := ⟨_, rfl⟩
    rw [← ha] at hT hni ea
    have hDm : (D, listOf vs.toArray ep) ∈ N1 := hN1 _ hD hDH
    refine TW.uniq fun hu => ?_
    have hTm : (T, tupOf [Value.str (S a) t5, .int sts[i].2 u5].toArray ep5) ∈ N1 := hN1 _ hT fun e => by
      have e : T = H := e
      rw [e] at hT
      exact tup_list (congrArg (·.cls) (hu0 _ _ _ hT hH))
    repeat walk_at "S"
    refine s_list (.tail _ hDm) (Int.natCast_nonneg _) (by revert hi' hl; walk_at "Z") hvi ?_
    repeat walk_at "S"
    refine s_tup (.tail _ hTm) (by decide) (by decide) (x := .str (S a) t5) rfl ?_
    have hI2 : HdrIs x dx H ((I, oI) :: N1) := hI1.of (fun _ h => .tail _ h) (fun _ h => .tail _ h)
    have hPr2 : Prs ((I, oI) :: N1) hvs (sidesN sts i) := hPr.mono fun _ h => .tail _ h
    obtain ⟨hok, hlen⟩ := sidesN_ok hna i hil
    have hok2 : ∀ p ∈ sidesN sts i, Ascii p.1 ∧ p.1.length ≤ 1000000 := fun p hp => ⟨(hok p hp).1, Nat.le_trans (hok p hp).2.2 (by decide)⟩
    have hln : (sidesN sts i).length ≤ 100000 := by revert hlen hil hl; walk_at "Z"
    obtain ⟨hsh, t0, J⟩ := hI2.ins
    repeat walk_at "S"
    refine f_sized (n := n + 3) (o'.mono (by walk_at "O")) hni.1 (Nat.le_trans hni.2.2 (by decide)) fun t6 => ?_
    have hb := sized_ok (i := (i : Int).fdiv 2) hni
    repeat walk_at "S"
    refine o_inI o' J (by rfl) (by rfl) ?_
    refine f_contains (n := n + 1) o' hI2 (.tail _ hH1) hPr2 hb.1 hb.2.1 (Nat.le_trans hb.2.2 (by decide)) hok2 (Nat.le_trans hln (by decide)) ?_
    repeat walk_at "S"
    refine t_del ?_
    repeat walk_at "S"
    refine f_sized (n := n + 3) (o'.mono (by walk_at "O")) hni.1 (Nat.le_trans hni.2.2 (by decide)) fun t7 => ?_
    have hb2 := sized_ok (i := (i : Int)) hni
    repeat walk_at "S"
    refine d_inst o' J (by rfl) (by rfl) (by rfl) ?_
    refine f_del (n := n + 2) o' hI2 (.tail _ hH1) hPr2 hb2.1 hb2.2.1 (Nat.le_trans hb2.2.2 (by decide)) hok2 hln fun vs2 ep2 hPr3 => ?_
    have hIH : I ≠ H := fun e => hFI _ hH1 e.symm
    have hnoT : ∀ its ep, (H, tupOf its ep) ∉ N1 := fun its ep hh => tup_list (congrArg (·.cls) (hu _ _ _ (.tail _ hh) (.tail _ hH1)))
    obtain ⟨J1h, J1t, J1⟩ := hI1.ins
    have hxI : x ≠ I := hFI _ J1.ob
    have hdI : dx ≠ I := hFI _ J1.dict
    have hRH : R ≠ H := fun e => hR _ (hsub _ hH) e.symm
    rw [put_tail hIH]
    obtain ⟨M, hM⟩ : ∃ M, M = put H (listOf vs2.toArray ep2) N1 := ⟨_, rfl⟩
    rw [← hM]
    have hMk : ∀ {b : Addr} {ob : Obj}, (b, ob) ∈ N1 → b ≠ H → (b, ob) ∈ M := fun h1 h2 => by rw [hM]; exact put_other h1 h2
    have hMH : (H, listOf vs2.toArray ep2) ∈ M := by rw [hM]; exact put_mem hH1
    have hMF : Fresh I M := by rw [hM]; exact put_dom hFI
    have hMP : Prs M vs2 (hdel (sidesN sts i) (sized a i)) := by rw [hM]; exact (hPr3 _ hPr).put (vs0 := []) (ep0 := 0) hnoT
    have hMI : HdrIs x dx H M := hI1.of (fun _ h => hMk h hxH) (fun _ h => hMk h hdH)
    have hMN : ∀ q ∈ N, q.1 ≠ H → q ∈ M := fun q hq hn => hMk (hN1 q hq hn) hn
    have hMR := hMk hR1 hRH
    have hMT : ∀ its ep, (H, tupOf its ep) ∉ M := by rw [hM]; exact put_noT
    clear hM hPr3
    repeat walk_at "S"
    cases q : (hget (sidesN sts i) (sized a ((i : Int).fdiv 2))).isSome
    · refine t_pos (by rfl) ?_
      obtain ⟨J2h, J2t, J2⟩ := hMI.ins
      repeat walk_at "S"
      refine m_inst o' J2.tail (by rfl) (by rfl) (by rfl) (by rfl) ?_
      repeat walk_at "S"
      refine f_sized (n := n + 3) (o'.mono (by walk_at "O")) hni.1 (Nat.le_trans hni.2.2 (by decide)) fun t8 => ?_
      repeat walk_at "S"
      have hv2 : vs2.length ≤ 40 := by
        have h1 := hMP.len
        have h2 := hdel_len (ps := sidesN sts i) (a := sized a i)
        revert h1 h2 hlen hil hl; walk_at "Z"
      refine f_add (n := n + 2) o' (hMI.of (fun _ h => .tail _ h) (fun _ h => .tail _ h)) (.tail _ hMH) hb2.2.1 noctl_nil (Nat.le_trans hb2.2.2 (by decide)) (by decide) (Nat.le_trans hv2 (by decide)) fun T1 t9 ep3 ep4 hT1 => ?_
      have hT1H : T1 ≠ H := fun e => hT1 _ (.tail _ hMH) e.symm
      have hT1I : T1 ≠ I := fun e => hT1 _ (.head _) e.symm
      rw [put_tail hT1H, put_tail hIH]
      obtain ⟨M2, hM2⟩ : ∃ M2, M2 = put H (listOf (vs2 ++ [Value.ref T1]).toArray ep3) M := ⟨_, rfl⟩
      rw [← hM2]
      have hk2 : ∀ {b : Addr} {ob : Obj}, (b, ob) ∈ M → b ≠ H → (b, ob) ∈ M2 := fun h1 h2 => by rw [hM2]; exact put_other h1 h2
      have hH2 : (H, listOf (vs2 ++ [Value.ref T1]).toArray ep3) ∈ M2 := by rw [hM2]; exact put_mem hMH
      have hF2 : Fresh I M2 := by rw [hM2]; exact put_dom hMF
      have hP2 : Prs M2 vs2 (hdel (sidesN sts i) (sized a i)) := by rw [hM2]; exact hMP.put (vs0 := []) (ep0 := 0) hMT
      have hI4 : HdrIs x dx H M2 := hMI.of (fun _ h => hk2 h hxH) (fun _ h => hk2 h hdH)
      have hT2' : ∀ its ep, (H, tupOf its ep) ∉ M2 := by rw [hM2]; exact put_noT
      clear hM2
      refine ⟨trivial, ?_⟩
      obtain ⟨J3h, J3t, J3⟩ := hI4.ins
      have hb3 := sized_ok (i := (i : Int) + 1) hni
      repeat walk_at "S"
      refine m_inst o' J3.tail.tail (by rfl) (by rfl) (by rfl) (by rfl) ?_
      repeat walk_at "S"
      refine f_sized (n := n + 3) (o'.mono (by walk_at "O")) hni.1 (Nat.le_trans hni.2.2 (by decide)) fun t10 => ?_
      repeat walk_at "S"
      refine f_add (n := n + 2) o' (hI4.of (fun _ h => .tail _ (.tail _ h)) (fun _ h => .tail _ (.tail _ h))) (.tail _ (.tail _ hH2)) hb3.2.1 noctl_nil (Nat.le_trans hb3.2.2 (by decide)) (by decide) (by rw [List.length_append]; show _ + 1 ≤ _; exact Nat.le_trans (Nat.succ_le_succ hv2) (by decide)) fun T2 t11 ep5 ep6 hT2 => ?_
      have hT2H : T2 ≠ H := fun e => hT2 _ (.tail _ (.tail _ hH2)) e.symm
      have hT2I : T2 ≠ I := fun e => hT2 _ (.tail _ (.head _)) e.symm
      rw [put_tail hT2H, put_tail hT1H, put_tail hIH]
      obtain ⟨M3, hM3⟩ : ∃ M3, M3 = put H (listOf (vs2 ++ [Value.ref T1] ++ [Value.ref T2]).toArray ep5) M2 := ⟨_, rfl⟩
      rw [← hM3]
      have hk3 : ∀ {b : Addr} {ob : Obj}, (b, ob) ∈ M2 → b ≠ H → (b, ob) ∈ M3 := fun h1 h2 => by rw [hM3]; exact put_other h1 h2
      have hH3 : (H, listOf (vs2 ++ [Value.ref T1] ++ [Value.ref T2]).toArray ep5) ∈ M3 := by rw [hM3]; exact put_mem hH2
      have hF3 : Fresh I M3 := by rw [hM3]; exact put_dom hF2
      have hP3 : Prs M3 vs2 (hdel (sidesN sts i) (sized a i)) := by rw [hM3]; exact hP2.put (vs0 := []) (ep0 := 0) hT2'
      clear hM3
      refine ⟨trivial, ?_⟩
      repeat walk_at "S"
      refine ⟨(T2, tupOf [Value.str (S (sized a ((i : Int) + 1))) t10, .str (S []) t11].toArray ep6) :: (T1, tupOf [Value.str (S (sized a (i : Int))) t8, .str (S []) t9].toArray ep4) :: M3, fun p hp => ?_, ?_, fun q hq hn => .tail _ (.tail _ (hk3 (hk2 (hMN q hq hn) hn) hn)), (hI4.of (fun _ h => .tail _ (.tail _ (hk3 h hxH))) (fun _ h => .tail _ (.tail _ (hk3 h hdH)))), hi', .tail _ (.tail _ (hk3 (hk2 hMR hRH) hRH)), vs2 ++ [Value.ref T1] ++ [Value.ref T2], ep5, .tail _ (.tail _ hH3), ?_, by walk_at "H"⟩
      · rcases List.mem_cons.mp hp with rfl | hp
        · exact .tail _ (.tail _ (.head _))
        · rcases List.mem_cons.mp hp with rfl | hp
          · exact .head _
          · rcases List.mem_cons.mp hp with rfl | hp
            · exact .tail _ (.head _)
            · exact .tail _ (.tail _ (.tail _ hp))
      · intro p hp
        rcases List.mem_cons.mp hp with rfl | hp
        · exact hT2I
        · rcases List.mem_cons.mp hp with rfl | hp
          · exact hT1I
          · exact hF3 p hp
      · show Prs _ _ (sideStep _ _ _)
        rw [ea]; unfold sideStep; rw [if_neg (by rw [q]; exact Bool.false_ne_true)]
        rw [show ∀ (l : List (List Nat × List Nat)) (u v : List Nat × List Nat), l ++ [u, v] = (l ++ [u]) ++ [v] from fun l u v => by rw [List.append_assoc]; rfl]
        exact ((hP3.mono fun _ h => .tail _ (.tail _ h)).snoc (.tail _ (.head _))).snoc (.head _)
    · refine t_neg (by rfl) ?_
      repeat walk_at "S"
      refine ⟨M, fun _ h => h, hMF, hMN, hMI, hi', hMR, vs2, ep2, hMH, ?_, by walk_at "H"⟩
      show Prs _ _ (sideStep _ _ _)
      rw [ea]; unfold sideStep; rw [if_pos q]; exact hMP
  · rintro I m' N' ⟨h1, h2, h3, h4, h5, hvs, epH, hH1, hPr, hL⟩
    rw [hvl] at hPr
    have hk := (sidesN_ok hna sts.length (Nat.le_refl _)).2
    obtain ⟨hsh, t0, J⟩ := h3.ins
    repeat walk_at "S"
    refine m_inst o' J (by rfl) (by rfl) (by rfl) (by rfl) ?_
    repeat walk_at "S"
    refine t_cwK0 o' (by rfl) ?_
    refine f_keys (n := n + 2) o' h3 hH1 hPr (by revert hk hl; walk_at "Z") fun K ws epK hK hws => ?_
    repeat walk_at "S"
    exact ⟨_, fun _ h => h, h K ws epK hvs epH _ (fun q hq hn => .tail _ (h2 q hq hn)) (.tail _ hH1) (hPr.mono fun _ h => .tail _ h) (.head _) hws⟩
end

-- s5
def markT (ys ns os : List (List Nat)) : Nat → List Nat
  | 0 => []
  | k + 1 => (markT ys ns os k ++ if ns.getD k [] ∈ os then [34] else []) ++ if k < ys.length then ys.getD k [] else []
theorem markT_len {ys ns os : List (List Nat)} {b : Nat} (hy : ∀ y ∈ ys, y.length ≤ b) : ∀ k, (markT ys ns os k).length ≤ (b + 1) * k
  | 0 => Nat.le_refl _
  | k + 1 => by
    have ih := markT_len (ns := ns) (os := os) hy k
    unfold markT
    rw [List.length_append, List.length_append, Nat.mul_succ, Nat.add_assoc]
    refine Nat.add_le_add ih ?_
    rw [Nat.add_comm b 1]
    refine Nat.add_le_add ?_ ?_
    · split
      · exact Nat.le_refl _
      · exact Nat.zero_le _
    · split
      · rename_i g
        rw [List.getD_eq_getElem?_getD, List.getElem?_eq_getElem g]
        exact hy _ (List.getElem_mem g)
      · exact Nat.zero_le _
theorem range_fm {α β : Type} (l : List α) (d : α) (f : α → Option β) : (List.range l.length).filterMap (fun i => f (l.getD i d)) = l.filterMap f := by
  have e : (List.range l.length).map (fun i => l.getD i d) = l := by
    apply List.ext_getElem?
    intro i
    rw [List.getElem?_map]
    by_cases h : i < l.length
    · rw [List.getElem?_range h, List.getElem?_eq_getElem h, Option.map_some, List.getD_eq_getElem?_getD, List.getElem?_eq_getElem h]; rfl
    · rw [List.getElem?_eq_none (by simpa using h), List.getElem?_eq_none (Nat.le_of_not_lt h)]; rfl
  conv => rhs; rw [← e, List.filterMap_map]
  rfl
section
variable {γ : GP} {c : Act} {n : Nat} {m : Loc} {N : Cells}
theorem f_marked {sg nm od : Addr} {svs nvs ovs : List Value} {ys ns os : List (List Nat)} {e1 e2 e3 : Nat} {Q : Value → Loc → Cells → Prop} (o : Ok (GS γ) (n + 1) c) (h1 : (sg, listOf svs.toArray e1) ∈ N) (s1 : Strs svs ys)
    (h2 : (nm, listOf nvs.toArray e2) ∈ N) (s2 : Strs nvs ns) (h3 : (od, listOf ovs.toArray e3) ∈ N) (s3 : Strs ovs os) (hy : ys.length ≤ 10) (hn : ns.length ≤ 10) (hyl : ∀ y ∈ ys, y.length ≤ 100)
    (h : ∀ t, Q (.str (S (markT ys ns os ns.length)) t) m N) : TW (GS γ) c (call (.ref 263) [.ref sg, .ref nm, .ref od]) m N Q := by
  refine t_callH [(Str.ofString "signs", .ref sg), (Str.ofString "names", .ref nm), (Str.ofString "odd", .ref od)] o (by rfl) (by rfl) (fun s X => BindsTo.of_eq (by rfl)) (locs (by rfl)) (by decide) (by rfl) (by rfl) (by rfl) (by rfl) ?_
  intro c' m' hs o' hL
  have l1 := s1.len
  have l2 := s2.len
  repeat walk_at "S"
  walk_at "F"
  repeat walk_at "S"
  refine a_len h2 (by rw [← l2] at hn; exact Nat.le_trans hn (by decide)) fun t1 => ?_
  repeat walk_at "S"
  refine a_range1 fun R t2 t3 t4 hR => ?_
  have hsz := size_up nvs.length
  refine for_itP o' (it_range (.head _) (small_up (by rw [← l2] at hn; exact Nat.le_trans hn (by decide))) hsz) (by simp)
    (fun i m' => ∃ t, Has m' [(Str.ofString "signs", .ref sg), (Str.ofString "names", .ref nm), (Str.ofString "odd", .ref od), (Str.ofString "text", .str (S (markT ys ns os i)) t)]) ?_ ?_ ?_
  · exact ⟨_, by walk_at "H"⟩
  · rintro I oI i m1 v hi hFI ⟨tt, hL⟩ ⟨tv, rfl⟩ _ _
    have ei : (0 : Int) + (i : Int) * 1 = (i : Int) := by walk_at "Z"
    rw [ei]
    have hi' : i < ns.length := l2 ▸ hi
    obtain ⟨t5, hv5⟩ := s2.get (y := ns.getD i []) (i := i) (by rw [List.getD_eq_getElem?_getD, List.getElem?_eq_getElem hi']; rfl)
    have hml := markT_len (ns := ns) (os := os) hyl i
    repeat walk_at "S"
    refine s_list (.tail _ (.tail _ h2)) (Int.natCast_nonneg _) (by revert hi' hn; walk_at "Z") hv5 ?_
    repeat walk_at "S"
    refine o_inS (.tail _ (.tail _ h3)) s3 ?_
    repeat walk_at "S"
    obtain ⟨X, hX⟩ : ∃ X, X = if ns.getD i [] ∈ os then [34] else [] := ⟨_, rfl⟩
    have hXl : X.length ≤ 1 := by rw [hX]; split <;> decide
    refine ite_join (fun m' N' => N' = (I, oI) :: (R, rngOf 0 (nvs.length : Int) 1 t2 t3 t4) :: N ∧ ∃ t, Has m' [(Str.ofString "signs", .ref sg), (Str.ofString "names", .ref nm), (Str.ofString "odd", .ref od), (Str.ofString "k", .int (i : Int) tv), (Str.ofString "text", .str (S (markT ys ns os i ++ X)) t)]) ?_ ?_ ?_
    · intro hx
      have e : X = [34] := by rw [hX, if_pos (of_decide_eq_true hx)]
      rw [e]
      repeat walk_at "S"
      refine i_sadd (by show _ + 1 ≤ _; revert hml hi' hn; walk_at "Z") fun t6 => ?_
      repeat walk_at "S"
      exact ⟨rfl, rfl, _, by walk_at "H"⟩
    · intro hx
      have e : X = [] := by rw [hX, if_neg (of_decide_eq_false hx)]
      rw [e, List.append_nil]
      repeat walk_at "S"
      exact ⟨rfl, rfl, _, by walk_at "H"⟩
    rintro m2 N2 ⟨rfl, t7, hL2⟩
    have em : markT ys ns os (i + 1) = (markT ys ns os i ++ X) ++ if i < ys.length then ys.getD i [] else [] := by rw [hX]; rfl
    repeat walk_at "S"
    refine a_len (.tail _ (.tail _ h1)) (by rw [l1]; exact Nat.le_trans hy (by decide)) fun t8 => ?_
    repeat walk_at "S"
    refine t_dec (fun g => ?_) (fun g => ?_)
    · have g' : i < ys.length := by revert g l1; walk_at "Z"
      rw [if_pos g'] at em
      obtain ⟨t9, hv9⟩ := s1.get (y := ys.getD i []) (i := i) (by rw [List.getD_eq_getElem?_getD, List.getElem?_eq_getElem g']; rfl)
      have hyi := hyl (ys.getD i []) (by rw [List.getD_eq_getElem?_getD, List.getElem?_eq_getElem g']; exact List.getElem_mem g')
      repeat walk_at "S"
      refine s_list (.tail _ (.tail _ h1)) (Int.natCast_nonneg _) (by revert hi' hn; walk_at "Z") hv9 ?_
      refine i_sadd (by rw [List.length_append]; revert hml hi' hn hXl hyi; walk_at "Z") fun t10 => ?_
      repeat walk_at "S"
      exact ⟨fun _ h => h, _, by rw [em]; walk_at "H"⟩
    · have g' : ¬ i < ys.length := by revert g l1; walk_at "Z"
      rw [if_neg g', List.append_nil] at em
      repeat walk_at "S"
      exact ⟨fun _ h => h, _, by rw [em]; walk_at "H"⟩
  · rintro m1 ⟨tt, hL⟩
    rw [l2] at hL
    repeat walk_at "S"
    exact ⟨N, by walk_at "U", h _⟩
theorem getD_some {x : List Nat} {i : Nat} (h : i < x.length) : x[i]? = some (x.getD i 0) := by rw [List.getD_eq_getElem?_getD, List.getElem?_eq_getElem h]; rfl
theorem abcd_get : ∀ k < 4, [97, 98, 99, 100][k]? = some (97 + k) := by decide
def isAbove (col row : Nat) (p : List Nat × Int) : Bool := decide ([p.1.getD 0 0] = [97 + col]) && decide ([48 + row] < [p.1.getD 1 0])
def aboveSum (sts : List (List Nat × Int)) (col row : Nat) : Int := (sts.filterMap fun p => if isAbove col row p then some p.2 else none).sum
set_option maxHeartbeats 1000000 in
theorem f_outside {D : Addr} {vs : List Value} {sts : List (List Nat × Int)} {ep : Nat} {col row : Nat} {t u : Tok} {Q : Value → Loc → Cells → Prop} (o : Ok (GS γ) (n + 2) c)
    (hD : (D, listOf vs.toArray ep) ∈ N) (hst : Stp N vs sts) (hl : sts.length ≤ 20) (hna : ∀ p ∈ sts, p.1.length = 2) (hc : col < 4) (hr : row < 3)
    (h : Q (.bool (decide ((aboveSum sts col row).fmod 2 = 0))) m N) : TW (GS γ) c (call (.ref 275) [.ref D, .int col t, .int row u]) m N Q := by
  refine t_callC2 [(Str.ofString "steps", .ref D), (Str.ofString "column", .int col t), (Str.ofString "row", .int row u)] (Str.ofString "column") (Str.ofString "row") [(Str.ofString "steps", .ref D)] o (by rfl) (by rfl) (fun s X => BindsTo.of_eq (by rfl)) (by rfl) (fun L => by rfl) (by decide) ?_ (by rfl) (by rfl) (by rfl) ?_
  · intro p hp
    simp only [List.mem_cons, List.not_mem_nil, or_false] at hp
    rcases hp with rfl; rfl
  intro c' m' A B oA oB hs o' hL hcl hFA hFB hBA hoA hoB
  replace hoA : oA.data = .cell (some (.int col t)) := hoA
  replace hoB : oB.data = .cell (some (.int row u)) := hoB
  have hvl := hst.len
  repeat walk_at "S"
  have hDm : (D, listOf vs.toArray ep) ∈ (B, oB) :: (A, oA) :: N := .tail _ (.tail _ hD)
  refine comp_it (it_list hDm) (fun d hd => by rw [List.mem_singleton] at hd; subst hd; exact hDm) (by rw [hvl]; exact Nat.le_trans hl (by decide))
    (fun i r => if isAbove col row (sts.getD i ([], 0)) then ∃ t, r = some (.int (sts.getD i ([], 0)).2 t) else r = none) ?_ ?_
  · rintro c₂ l X i v hs₂ hcl₂ o₂ hX hi hP
    have hi' : i < sts.length := hvl ▸ hi
    have hg := List.getElem?_eq_getElem hi'
    obtain ⟨T, t2, u2, ep2, hv2, hT⟩ := hst.get (a := sts[i].1) (k := sts[i].2) hg
    rw [hv2] at hP
    obtain rfl := Option.some.inj hP
    have e : sts.getD i ([], 0) = sts[i] := by rw [List.getD_eq_getElem?_getD, hg]; rfl
    rw [e]
    have hn2 := hna _ (List.getElem_mem hi')
    have hkA : (A, oA) ∈ X := hX _ (.tail _ (.head _))
    have hkB : (B, oB) ∈ X := hX _ (.head _)
    generalize sts[i] = p at hT hn2 ⊢
    refine t_pair o₂ (hX _ (.tail _ (.tail _ hT))) ?_
    repeat walk_at "S"
    refine s_str (by rw [hn2]; decide) (by rw [hn2]; decide) (by rw [hn2]; decide) (d := p.1.getD 0 0) (by rw [if_neg (by decide)]; exact getD_some (by rw [hn2]; decide)) fun t5 => ?_
    repeat walk_at "S"
    refine s_str (by decide) (by simp only [List.length_cons, List.length_nil]; revert hc; walk_at "Z") (by simp only [List.length_cons, List.length_nil]; revert hc; walk_at "Z") (d := 97 + col) (by rw [if_neg (Int.not_lt.mpr (Int.natCast_nonneg _)), Int.toNat_natCast]; exact abcd_get col hc) fun t6 => ?_
    repeat walk_at "S"
    refine t_dec (fun g1 => ?_) (fun g1 => ?_)
    · repeat walk_at "S"
      refine s_str (by rw [hn2]; decide) (by rw [hn2]; decide) (by rw [hn2]; decide) (d := p.1.getD 1 0) (by rw [if_neg (by decide)]; exact getD_some (by rw [hn2]; decide)) fun t7 => ?_
      repeat walk_at "S"
      refine a_strint (log_small (Int.natCast_nonneg _) (by revert hr; walk_at "Z")) fun t8 => ?_
      rw [str_digit (Int.natCast_nonneg _) (by revert hr; walk_at "Z"), Int.toNat_natCast]
      repeat walk_at "S"
      refine o_sgt ?_
      repeat walk_at "S"
      refine t_dec (fun g2 => ?_) (fun g2 => ?_)
      · have ea : isAbove col row p = true := by unfold isAbove; rw [decide_eq_true g1, decide_eq_true g2]; rfl
        repeat walk_at "S"
        refine t_true ?_
        repeat walk_at "S"
        exact ⟨by rw [if_pos ea]; exact ⟨_, rfl⟩, fun _ h => h⟩
      · have ea : isAbove col row p = false := by unfold isAbove; rw [decide_eq_true g1, decide_eq_false g2]; rfl
        exact ⟨by rw [if_neg (by rw [ea]; exact Bool.false_ne_true)], fun _ h => h⟩
    · have ea : isAbove col row p = false := by unfold isAbove; rw [decide_eq_false g1]; rfl
      exact t_false ⟨by rw [if_neg (by rw [ea]; exact Bool.false_ne_true)], fun _ h => h⟩
  · intro K ys epK hpk hK
    have hin : IntsAre ys _ := hpk.ints (f := fun i => if isAbove col row (sts.getD i ([], 0)) then some (sts.getD i ([], 0)).2 else none) (fun i hi hr => by
      by_cases q : isAbove col row (sts.getD i ([], 0)) = true
      · rw [if_pos q] at hr; obtain ⟨t, e⟩ := hr; cases e
      · rw [if_neg q]) (fun i y hi hr => by
      by_cases q : isAbove col row (sts.getD i ([], 0)) = true
      · rw [if_pos q] at hr ⊢; obtain ⟨t, e⟩ := hr; cases e; exact ⟨_, t, rfl, rfl⟩
      · rw [if_neg q] at hr; cases hr)
    rw [hvl, range_fm sts ([], 0) (fun p => if isAbove col row p then some p.2 else none)] at hin
    repeat walk_at "S"
    refine a_sum o' (.head _) hin fun t19 => ?_
    repeat walk_at "S"
    exact ⟨_, fun p hp => .tail _ (.tail _ (.tail _ hp)), h⟩
end

-- c1
-- many cell variables: like Has, by membership
def plainOb (o : Obj) : Bool := match o.data with
  | .cell _ => false
  | _ => true
theorem plain_not {o : Obj} {v : Option Value} (h : plainOb o = true) (e : o.data = .cell v) : False := by
  unfold plainOb at h; rw [e] at h; exact Bool.false_ne_true h
/-- every object that is no cell stays -/
structure KeepN (cl : List (Str × Addr)) (N N' : Cells) : Prop where
  k : ∀ b o, (b, o) ∈ N → plainOb o = true → (b, o) ∈ N'
  k2 : ∀ b o, (b, o) ∈ N → (∀ y a, cl.lookup y = some a → a ≠ b) → (b, o) ∈ N'
theorem KeepN.mem {cl : List (Str × Addr)} {N N' : Cells} {b : Addr} {o : Obj} (K : KeepN cl N N') (h : (b, o) ∈ N) (hp : plainOb o = true) : (b, o) ∈ N' := K.k b o h hp
theorem KeepN.mem2 {cl : List (Str × Addr)} {N N' : Cells} {b : Addr} {o : Obj} (K : KeepN cl N N') (h : (b, o) ∈ N) (hp : ∀ y a, cl.lookup y = some a → a ≠ b) : (b, o) ∈ N' := K.k2 b o h hp
theorem KeepN.of {cl : List (Str × Addr)} {N N' : Cells} (h : ∀ p ∈ N, p ∈ N') : KeepN cl N N' := ⟨fun b o hb _ => h _ hb, fun b o hb _ => h _ hb⟩
structure CHas (cl : List (Str × Addr)) (N : Cells) (l : List (Str × Value)) : Prop where
  get : ∀ p ∈ l, ∃ a ob, cl.lookup p.1 = some a ∧ (a, ob) ∈ N ∧ ob.data = .cell (some p.2)
  all : ∀ x a, cl.lookup x = some a → ∃ ob v, (a, ob) ∈ N ∧ ob.data = .cell v
  inj : ∀ x y a, cl.lookup x = some a → cl.lookup y = some a → x = y
theorem CHas.mono {cl : List (Str × Addr)} {N N' : Cells} {l : List (Str × Value)} (C : CHas cl N l) (h : ∀ p ∈ N, p ∈ N') : CHas cl N' l :=
  ⟨fun p hp => by obtain ⟨a, ob, h1, h2, h3⟩ := C.get p hp; exact ⟨a, ob, h1, h _ h2, h3⟩, fun x a e => by obtain ⟨ob, v, h1, h2⟩ := C.all x a e; exact ⟨ob, v, h _ h1, h2⟩, C.inj⟩
theorem CHas.tail {cl : List (Str × Addr)} {N : Cells} {l : List (Str × Value)} {p : Addr × Obj} (C : CHas cl N l) : CHas cl (p :: N) l := C.mono fun _ h => .tail _ h
/-- where one object that is no cell may have turned -/
theorem CHas.but {cl : List (Str × Addr)} {N N' : Cells} {l : List (Str × Value)} {H : Addr} {oH : Obj} (C : CHas cl N l) (hH : (H, oH) ∈ N) (hp : plainOb oH = true) (hu : ∀ a o o', (a, o) ∈ N → (a, o') ∈ N → o = o') (h : ∀ q ∈ N, q.1 ≠ H → q ∈ N') : CHas cl N' l := by
  have ne : ∀ {a ob v}, (a, ob) ∈ N → ob.data = .cell v → a ≠ H := fun {a ob v} h1 h2 e => by subst e; rw [hu _ _ _ h1 hH] at h2; exact plain_not hp h2
  exact ⟨fun p hp => by obtain ⟨a, ob, h1, h2, h3⟩ := C.get p hp; exact ⟨a, ob, h1, h _ h2 (ne h2 h3), h3⟩, fun x a e => by obtain ⟨ob, v, h1, h2⟩ := C.all x a e; exact ⟨ob, v, h _ h1 (ne h1 h2), h2⟩, C.inj⟩
theorem lookup_mem2 {x : Str} {a : Addr} : ∀ {l : List (Str × Addr)}, l.lookup x = some a → (x, a) ∈ l := by
  intro l
  induction l with
  | nil => intro h; cases h
  | cons p r ih =>
    intro h
    rw [List.lookup_cons] at h
    cases e : x == p.1 with
    | true => rw [e] at h; have e := eq_of_beq e; cases h; subst e; exact .head _
    | false => rw [e] at h; exact .tail _ (ih h)
theorem CHas.start {cm : Str → Option Value} {cl : List (Str × Addr)} {cs : Cells} (h : CellsAre cm cl cs) (hn : (cl.map (·.2)).Nodup) : CHas cl cs [] := by
  refine ⟨fun p hp => (List.not_mem_nil hp).elim, fun x a e => ?_, fun x y a e1 e2 => ?_⟩
  · have hm := lookup_mem2 e
    clear e hn
    induction h with
    | nil => exact (List.not_mem_nil hm).elim
    | cons h1 _ ih =>
      rcases List.mem_cons.mp hm with e | hm
      · cases e; exact ⟨_, _, .head _, h1⟩
      · obtain ⟨ob, v, h2, h3⟩ := ih hm
        exact ⟨ob, v, .tail _ h2, h3⟩
  · have h1 := lookup_mem2 e1
    have h2 := lookup_mem2 e2
    clear e1 e2 h
    induction cl with
    | nil => exact (List.not_mem_nil h1).elim
    | cons p r ih =>
      have hn' := List.nodup_cons.mp hn
      rcases List.mem_cons.mp h1 with e1 | h1
      · rcases List.mem_cons.mp h2 with e2 | h2
        · rw [← e1] at e2; exact (Prod.mk.inj e2).1.symm
        · rw [← e1] at hn'; exact absurd (List.mem_map_of_mem (f := (·.2)) h2) hn'.1
      · rcases List.mem_cons.mp h2 with e2 | h2
        · rw [← e2] at hn'; exact absurd (List.mem_map_of_mem (f := (·.2)) h1) hn'.1
        · exact ih hn'.2 h1 h2
section
variable {G : St} {c : Act} {n : Nat} {m : Loc} {N : Cells} {pos : Pos}
theorem t_cellM {x : Str} {v : Value} {sc : Scope} {cl₂ cl : List (Str × Addr)} {l : List (Str × Value)} {Q : Value → Loc → Cells → Prop} (o : Ok G n c) (hs : c.env.scope = sc) (hcl : c.env.cells = cl₂) (C : CHas cl N l) (hx : cl₂.lookup x = cl.lookup x) (hv : l.lookup x = some v)
    (hl : sc.names.lookup x = some .cell) (h : Q v m N) (hd : (x == ("__debug__" : Str)) = false) : TW G c (eval (.Name x pos) c.env) m N Q := by
  obtain ⟨a, ob, h1, h2, h3⟩ := C.get _ (mem_of_lookup hv)
  exact t_cell o (by rw [hcl, hx]; exact h1) h2 h3 (kind_of hs hl) h hd
theorem CHas.put {cl : List (Str × Addr)} {l : List (Str × Value)} {x : Str} {v : Value} {a : Addr} {ob ob' : Obj} {v₀ : Option Value} (C : CHas cl N l) (hu : ∀ a o o', (a, o) ∈ N → (a, o') ∈ N → o = o') (ha : cl.lookup x = some a) (hm : (a, ob) ∈ N) (hob : ob.data = .cell v₀)
    (hob' : ob'.data = .cell (some v)) : KeepN cl N (put a ob' N) ∧ CHas cl (put a ob' N) (put1 x v l) := by
  refine ⟨⟨fun b o' hb hp => put_other hb fun e => ?_, fun b o' hb hn => put_other hb fun e => hn _ _ ha e.symm⟩, ⟨fun p hp => ?_, fun y b e => ?_, C.inj⟩⟩
  · subst e; rw [hu _ _ _ hb hm] at hp; exact plain_not hp hob
  · rcases List.mem_cons.mp hp with rfl | hp
    · exact ⟨a, ob', ha, put_mem hm, hob'⟩
    · obtain ⟨h1, h2⟩ := List.mem_filter.mp hp
      obtain ⟨b, o2, h3, h4, h5⟩ := C.get p h1
      refine ⟨b, o2, h3, put_other h4 fun e => ?_, h5⟩
      subst e
      rw [C.inj _ _ _ h3 ha] at h2
      simp at h2
  · obtain ⟨o2, v2, h1, h2⟩ := C.all y b e
    by_cases q : b = a
    · subst q; exact ⟨ob', _, put_mem hm, hob'⟩
    · exact ⟨o2, v2, put_other h1 q, h2⟩
theorem t_storeM {x : Str} {v : Value} {sc : Scope} {cl : List (Str × Addr)} {l : List (Str × Value)} {Q : Unit → Loc → Cells → Prop} (o : Ok G n c) (hs : c.env.scope = sc) (hcl : c.env.cells = cl) (C : CHas cl N l) (ha : (cl.lookup x).isSome = true) (hl : sc.names.lookup x = some .cell)
    (h : ∀ N', KeepN cl N N' → CHas cl N' (put1 x v l) → Q () m N') : TW G c (storeName c.env x v) m N Q := by
  obtain ⟨a, ha⟩ := Option.isSome_iff_exists.mp ha
  obtain ⟨ob, v₀, hm, hob⟩ := C.all x a ha
  refine TW.uniq fun hu => ?_
  refine t_storeCE o hs hcl ha hm hob hl fun ob' hob' => ?_
  obtain ⟨h1, h2⟩ := C.put hu ha hm hob hob'
  exact h _ h1 h2
theorem Stp.mono0 {N N' : Cells} {vs ps} (h : Stp N vs ps) (hs : ∀ p ∈ N, p ∈ N') : Stp N' vs ps := h.keep fun _ _ _ h => hs _ h
theorem Stp.keepN {cl : List (Str × Addr)} {N N' : Cells} {vs ps} (K : KeepN cl N N') (h : Stp N vs ps) : Stp N' vs ps := h.keep fun _ _ _ h => K.mem h rfl
end
theorem CHas.nil0 {cl : List (Str × Addr)} {N : Cells} {l : List (Str × Value)} (C : CHas cl N l) : CHas cl N [] := ⟨fun p hp => (List.not_mem_nil hp).elim, C.all, C.inj⟩
theorem CHas.cons {cl : List (Str × Addr)} {N : Cells} {l r : List (Str × Value)} {x : Str} {v : Value} (C : CHas cl N l) (e : l.lookup x = some v) (hr : CHas cl N r) : CHas cl N ((x, v) :: r) := by
  refine ⟨fun p hp => ?_, C.all, C.inj⟩
  rcases List.mem_cons.mp hp with rfl | hp
  · exact C.get _ (mem_of_lookup e)
  · exact hr.get p hp
/-- the objects that stay as they are -/
structure FXs (FX N : Cells) : Prop where
  k : ∀ p ∈ FX, p ∈ N ∧ plainOb p.2 = true
theorem FXs.mem {FX N : Cells} {p : Addr × Obj} (F : FXs FX N) (h : p ∈ FX) : p ∈ N := (F.k p h).1
theorem FXs.tail {FX N : Cells} {p : Addr × Obj} (F : FXs FX N) : FXs FX (p :: N) := ⟨fun q hq => ⟨.tail _ (F.k q hq).1, (F.k q hq).2⟩⟩
theorem FXs.mono {FX N N' : Cells} (F : FXs FX N) (h : ∀ p ∈ N, p ∈ N') : FXs FX N' := ⟨fun q hq => ⟨h _ (F.k q hq).1, (F.k q hq).2⟩⟩
theorem FXs.keepN {cl : List (Str × Addr)} {FX N N' : Cells} (K : KeepN cl N N') (F : FXs FX N) : FXs FX N' := ⟨fun q hq => ⟨K.k q.1 q.2 (F.k q hq).1 (F.k q hq).2, (F.k q hq).2⟩⟩
theorem FXs.put {FX N : Cells} {a : Addr} {o : Obj} (F : FXs FX N) (h : Fresh a FX) : FXs FX (put a o N) := ⟨fun q hq => ⟨put_other (F.k q hq).1 (h q hq), (F.k q hq).2⟩⟩
theorem FXs.wo {FX N : Cells} {a : Addr} (F : FXs FX N) (h : Fresh a FX) : FXs FX (wo a N) := ⟨fun q hq => ⟨wo_mem (F.k q hq).1 (h q hq), (F.k q hq).2⟩⟩
/-- what stays, taken from a state where the list a is left out -/
def fixed (a : Addr) (N : Cells) : Cells := wo a (N.filter fun p => plainOb p.2)
theorem fixed_mem {a b : Addr} {o : Obj} {N : Cells} (h : (b, o) ∈ N) (hp : plainOb o = true) (hn : b ≠ a) : (b, o) ∈ fixed a N := wo_mem (List.mem_filter.mpr ⟨h, hp⟩) hn
theorem fixed_fx {a : Addr} {N : Cells} : FXs (fixed a N) N := ⟨fun q hq => List.mem_filter.mp (wo_sub hq)⟩
theorem CHas.putO {cl : List (Str × Addr)} {N : Cells} {l : List (Str × Value)} {H : Addr} {oH o' : Obj} (C : CHas cl N l) (hH : (H, oH) ∈ N) (hp : plainOb oH = true) (hu : ∀ a o o', (a, o) ∈ N → (a, o') ∈ N → o = o') : CHas cl (Mine.put H o' N) l :=
  C.but hH hp hu fun q hq hn => put_other hq hn
theorem Prs.keepT {N N' : Cells} (hk : ∀ a its ep, (a, tupOf its ep) ∈ N → (a, tupOf its ep) ∈ N') {vs ps} (h : Prs N vs ps) : Prs N' vs ps := by
  induction h with
  | nil => exact .nil
  | cons hm _ ih => exact .cons (hk _ _ _ hm) ih
theorem CHas.wo2 {cl : List (Str × Addr)} {N : Cells} {l : List (Str × Value)} {I : Addr} (C : CHas cl N l) (hn : ∀ y a, cl.lookup y = some a → a ≠ I) : CHas cl (Mine.wo I N) l :=
  ⟨fun p hp => by obtain ⟨a, ob, h1, h2, h3⟩ := C.get p hp; exact ⟨a, ob, h1, wo_mem h2 (hn _ _ h1), h3⟩, fun x a e => by obtain ⟨ob, v, h1, h2⟩ := C.all x a e; exact ⟨ob, v, wo_mem h1 (hn _ _ e), h2⟩, C.inj⟩
theorem bb_int : BB (Str.ofString "int") (.type "int") := ⟨by rfl, by decide, by rfl⟩

-- c2
-- a def with cells catches StopIteration: the kit's lemmas for any catcher
section
variable {A₀ : Around} {base g G B h₅ : Heap} {outer : List Env} {L : Addr} {m : Str → Option Value} {env : Env}
theorem ktx_mem {b : Addr} (hf : env.frame = some L) (hm : b ∈ (env :: outer).filterMap (·.frame)) : b = L ∨ b ∈ outer.filterMap (·.frame) := by
  obtain ⟨env', he, hf'⟩ := List.mem_filterMap.mp hm
  rcases List.mem_cons.mp he with rfl | he
  · exact .inl (Option.some.inj (hf'.symm.trans hf))
  · exact .inr (List.mem_filterMap.mpr ⟨env', he, hf'⟩)
theorem ktx_ground (hf : env.frame = some L) (K : Below A₀ base [] g) (F : Fr g L G m) (hBG : ∀ b o, G.get? b = some o → b ∉ [env].filterMap (·.frame) → B.get? b = some o) (hBh : B.StaysIn h₅) (hsm : G.UpToSlots h₅) :
    Fr g L h₅ m := by
  refine ⟨hsm.ns F.ns, fun b o e => hBh b o (hBG b o (F.keep b o e) fun hm => ?_), F.above⟩
  rcases ktx_mem hf hm with z | z
  · rw [z, kts_self F] at e; cases e
  · exact List.not_mem_nil z
end
section
variable {prog : Program} {w : World} {A₀ A : Around} {E : Value → Shared → Prop} {s s' : Shared} {base g G h₀ : Heap} {L a e t : Addr} {m : Str → Option Value} {cn : Str} {cs : Scope} {ccd : Value} {cl : List (Str × Addr)}
  {vs : List Value} {b₀ : Stmt} {suite : List Stmt} {pos np : Pos} {rest : List ExceptHandler} {Q : Flow → Shared → Prop} {news : List (Addr × Obj)} {K : Frag}
  {p : Program} {loose : List Str} {mean : ExcName → Option Value} {mg mb : Str → Option Value} {x : Str} {X T' : String}
theorem caught_X (R : RaisedS base G [envX cn cs L a ccd cl] e (.type X) t vs news s'.heap) (F : Fr g L G m) (B₀ : Below A₀ base [] g) (hsm : G.UpToSlots s'.heap) (XB : K.In base) (TB : Top p loose mean mg mb base)
    (ex : nsIn K mainGlobals x = some none) (hv : bootBuiltins x = some (.type T')) (hn' : x ≠ "__name__")
    (hexc : isSubtype (.type T') (.type "BaseException") = pure true) (hnt : isSubtype (.type ((Manifest.find? T').elim "type" fun y => y.metatype)) (.type "tuple") = pure false) (hsub : isSubtype (.type X) (.type T') = pure true)
    (k : ∀ h', Fr g L h' m → News g L h' news → wpAny (model prog w) ((A₀.deeper (envX cn cs L a ccd cl)).mark (some (.ref e))) (execs (b₀ :: suite) (envX cn cs L a ccd cl)) Q E { s' with heap := h' })
    (hk : cs.kind = .function) (hx : (envX cn cs L a ccd cl).kindOf x = some .globalImplicit) (hd : (x == ("__debug__" : Str)) = false)
    (hE : PassesOwnAt (model prog w) ((A₀.deeper (envX cn cs L a ccd cl)).mark (some (.ref e))) (A₀.deeper (envX cn cs L a ccd cl)) (envX cn cs L a ccd cl) E) :
    wpAny (model prog w) (A₀.deeper (envX cn cs L a ccd cl)) (noteFrame (.ref e) (envX cn cs L a ccd cl))
      (fun _ s₂ => wpAny (model prog w) (A₀.deeper (envX cn cs L a ccd cl)) (setFlight (.ref e) none) (fun _ s₃ =>
        wpAny (model prog w) (A₀.deeper (envX cn cs L a ccd cl)) (handleBy (.ref e) (envX cn cs L a ccd cl) (.ExceptHandler (some (.Name x np)) none (b₀ :: suite) pos :: rest)) Q E s₃) E s₂) E s' := by
  have hf : (envX cn cs L a ccd cl).frame = some L := rfl
  obtain ⟨⟨B, hB, hBG, hl, hfl, hnew⟩, htup⟩ := R
  have hL : B.get? L = none := by
    obtain ⟨_, ⟨L', _, hf, hn', _⟩, _⟩ := hfl.2.2.1
    obtain rfl : L = L' := Option.some.inj hf
    exact hn'
  refine wpAny_looks_onW (Around.frames_deeper B₀.stack) rfl hfl fun h₄ hheld₄ hsm₄ => ?_
  refine wpAny_landsW hheld₄ fun h₅ hheld hsm₅' => ?_
  have hsm₅ := hsm₄.trans hsm₅'
  have F₅ := ktx_ground hf B₀ F hBG hheld.1 (hsm.trans hsm₅)
  have X₅ : K.In g := XB.keeps B₀.stays
  have P₅ : TopRead p loose mg mb g := topRead_of (TB.keeps B₀.stays)
  obtain ⟨ob, hob, hobc⟩ := hheld.there
  refine wpAny_handleBy_builtin (X := X) (T := T') (b := true) hexc hnt hsub (nameX_B F₅ X₅ P₅ ex hv hn' ⟨rfl, ⟨ob, hob, hobc⟩, ?_⟩ hk hx hd)
  refine lands_againW hheld fun h₆ hfl₆ hsm₆ => ?_
  have F₆ := ktx_ground hf B₀ F hBG hfl₆.1 ((hsm.trans hsm₅).trans hsm₆)
  have Nl : News g L h₆ news := fun q hq => ⟨hfl₆.1 _ _ (hl q hq).1, (fun z => by have := (hl q hq).1; rw [z, hL] at this; cases this), kts_none F.keep (hl q hq).2.1⟩
  exact wpAny_passesOwnAt hE (k h₆ F₆ Nl)
theorem ktx_enter (B : Below A₀ base [] h₀) (F : Fr h₀ L s.heap m) (N : News h₀ L s.heap news) (hA : A.frames = some [envX cn cs L a ccd cl]) (hck : cs.kind = .function) :
    ∃ oL es ep, (hideAll s.heap (news.map (·.1))).get? L = some oL ∧ oL.data = .dict es ep ∧ (∀ h', h'.get? L = some oL → Heap.Ns h' L m) ∧ (∀ (sl : Array (Option Value)) h', h'.get? L = some { oL with slots := sl } → Heap.Ns h' L m) ∧
      h₀.StaysIn (hideAll s.heap (news.map (·.1))) ∧ Below A base [envX cn cs L a ccd cl] (hideAll s.heap (news.map (·.1))) := by
  have nm : ∀ b o, h₀.get? b = some o → b ∉ news.map (·.1) := fun b o e q => by
    obtain ⟨p, hp, rfl⟩ := List.mem_map.mp q
    rw [(N p hp).2.2] at e; cases e
  have st : h₀.StaysIn (hideAll s.heap (news.map (·.1))) := fun b o e => hideAll_get _ (F.keep b o e) (nm b o e)
  obtain ⟨oL, es, ep, hL, hLd, hLk, hLf⟩ := F.ns
  have nL : L ∉ news.map (·.1) := fun q => by
    obtain ⟨p, hp, e⟩ := List.mem_map.mp q
    exact (N p hp).2.1 e
  have hLg := hideAll_get (news.map (·.1)) hL nL
  have B₁ := pushX (env := envX cn cs L a ccd cl) B F rfl hck
  exact ⟨oL, es, ep, hLg, hLd, fun h' e => ⟨oL, es, ep, e, hLd, hLk, hLf⟩, fun sl h' e => ⟨_, es, ep, e, hLd, hLk, hLf⟩, st, ⟨hA, fun b o e => st b o (B.stays b o e), funFrames_hideAll B₁.frames fun env he b hb hf => by
    cases he with
    | head => exact nL ((Option.some.inj hf : L = b) ▸ hb)
    | tail _ he => exact List.not_mem_nil he⟩⟩
theorem code_defX {R : Result → Shared → Prop} {name qual : Str} {params : Arguments} {body : List Stmt} {scope : Scope} {dV kV doc pm cdv ct oc : Value} {an od : Option Addr} {osl : Array (Option Value)} {f : Addr} {args : Args} {binds : List (Str × Value)}
    (B : Below A₀ base [] h₀) (F : Fr h₀ L s.heap m) (X₀ : K.In h₀) (N : News h₀ L s.heap news) (T : Top p loose mean mg mb h₀) (hA : A.frames = some [envX cn cs L a ccd cl])
    (ho : K.lookup f = some ⟨oc, od, .func (fnOf name qual params body scope dV kV doc pm an cdv ct), osl⟩) (hcd : codeIn K cdv qual = true) (hroom : A.depth < recursionLimit)
    (hbind : BindsTo s (fnOf name qual params body scope dV kV doc pm an cdv ct) args binds) (hloc : ∀ y ∈ binds, scope.names.lookup y.1 = some .local)
    (h : ∀ g L' h₁, Fr h₀ L g m → Fr g L' h₁ (fun y => binds.reverse.lookup y) → News g L' h₁ news → Below A base [envX cn cs L a ccd cl] g → K.In g → Top p loose mean mg mb g →
      wpAny (model prog w) (A.deeper (envOf qual scope L' f cdv)) (execs body (envOf qual scope L' f cdv))
        (fun fl s' => LeaveS0 ([envX cn cs L a ccd cl].filterMap (·.frame)) h₀ L m g R (match fl with | .ret v => v | _ => .none) s')
        (fun e s' => wpAny (model prog w) (A.deeper (envOf qual scope L' f cdv)) (leaving (envOf qual scope L' f cdv) e) (fun _ s'' => R (.error e) s'') (fun e' s'' => R (.error e') s'') s')
        { s with heap := h₁, toks := s.toks + binds.length })
    (hck : cs.kind = .function) (hco : scope.isCoroutine = false) (hgen : scope.isGenerator = false) (hk : scope.kind = .function)
    (hcell : ∀ x ∈ scope.names, x.2 ≠ .cell) : codeAny (model prog w) A (.call (.ref f) args) R s := by
  have X := X₀.keeps F.keep
  refine codeAny_call_def (fd := fnOf name qual params body scope dV kV doc pm an cdv ct) (body := body) (binds := binds) hroom (X _ _ ho) rfl (T.nolimit.keeps F.keep) (codeRec_of X hcd) rfl hbind hcell hloc (fun h₁ hns hk₁ => ?_) hco hgen hk
  obtain ⟨oL, es, ep, hLg, hLd, hN, hNs, st, B₂⟩ := ktx_enter B F N hA hck
  refine wpAny_mono (h _ s.heap.objs.size h₁ ⟨hN _ hLg, st, F.above⟩ ⟨hns, fun b o e => hk₁ b o (of_hideAll _ e), Nat.le_of_eq (hideAll_size _ _)⟩
    (fun p hp => ⟨hk₁ _ _ (N p hp).1, Nat.ne_of_lt (Heap.lt_size (N p hp).1), hideAll_none _ (List.mem_map_of_mem hp)⟩) B₂ (X₀.keeps st) (T.keeps st)) (fun fl s' hl => ?_) fun _ _ y => y
  obtain ⟨g', L', m', news', T', F', N', k⟩ := hl
  have nL₀ : h₀.get? L = none := kts_self F
  obtain ⟨sl, hs⟩ := T'.up hLg
  refine k ⟨hNs sl _ (F'.keep _ _ hs), fun b o e => F'.keep b o (T'.other b o (st b o e) (fun q => by
    rcases ktx_mem (L := L) rfl q with z | z
    · rw [z, nL₀] at e
      cases e
    · simp at z)), F.above⟩ fun p hp => ⟨(N' p hp).1, fun q => ?_, ?_⟩
  · have := (N' p hp).2.2; rw [q, hs] at this; cases this
  · cases q : h₀.get? p.1 with
    | none => rfl
    | some o =>
      obtain ⟨sl', hs'⟩ := T'.up (st _ _ q)
      have := (N' p hp).2.2
      rw [hs'] at this
      cases this
end
/-- the first-level def, with its cells -/
def TopC (c : Act) : Prop := ∃ cn cs L a ccd cl h₀, c = ⟨callerA.deeper (envX cn cs L a ccd cl), envX cn cs L a ccd cl, h₀⟩
theorem CHas.put2 {cl : List (Str × Addr)} {N : Cells} {l : List (Str × Value)} {I : Addr} {o : Obj} (C : CHas cl N l) (hn : ∀ y a, cl.lookup y = some a → a ≠ I) : CHas cl (Mine.put I o N) l :=
  ⟨fun p hp => by obtain ⟨a, ob, h1, h2, h3⟩ := C.get p hp; exact ⟨a, ob, h1, put_other h2 (hn _ _ h1), h3⟩, fun x a e => by obtain ⟨ob, v, h1, h2⟩ := C.all x a e; exact ⟨ob, v, put_other h1 (hn _ _ e), h2⟩, C.inj⟩
theorem drop_nilN {α : Type} {x : List α} {j : Nat} (h : x.drop j = []) : x.length ≤ j := by
  have := congrArg List.length h
  rw [List.length_drop] at this
  revert this; simp only [List.length_nil]; walk_at "Z"
section
variable {G : St} {n : Nat} {m : Loc} {N : Cells} {pos : Pos}
/-- a first-level def with cells tries a call that ends in StopIteration -/
theorem t_try_stopX {c : Act} {cs : Scope}
    {name qual : Str} {params : Arguments} {rest : List Stmt} {scope : Scope} {dV kV doc pm cdv ct oc : Value} {an od : Option Addr} {osl : Array (Option Value)} {f I l : Addr} {ob : Obj} {vs : List Value} {ep i : Nat} {x y arg fname : Str} {py p1 p2 p3 p4 fp ap cp xp sp pp hp tp : Pos} {st2 : Stmt} {lm : List (Str × Value)} (N₂ : Cells)
    (hc : TopC c) (hcsc : c.env.scope = cs) {Q : Flow → Loc → Cells → Prop}
    (o : Ok G (n + 2) c) (hI : (I, ob) ∈ N) (hi : isLI l i ob) (hl : (l, listOf vs.toArray ep) ∈ N) (hlI : l ≠ I) (hx : vs[i]? = none)
    (ho : G.K.lookup f = some ⟨oc, od, .func (fnOf name qual params (.Assign [.Name y py] (.Call (.Name (Str.ofString "next") p1) [.Name x p2] [] p3) p4 :: rest) scope dV kV doc pm an cdv ct), osl⟩) (hcd : codeIn G.K cdv qual = true)
    (hbind : ∀ s : Shared, G.K.In s.heap → BindsTo s (fnOf name qual params (.Assign [.Name y py] (.Call (.Name (Str.ofString "next") p1) [.Name x p2] [] p3) p4 :: rest) scope dV kV doc pm an cdv ct) ⟨[.ref I], []⟩ [(x, .ref I)])
    (hloc : scope.names.lookup x = some .local) (hnext : scope.names.lookup (Str.ofString "next") = some .globalImplicit) (hcell : ∀ x ∈ scope.names, x.2 ≠ .cell)
    (hco : scope.isCoroutine = false) (hgen : scope.isGenerator = false) (hk : scope.kind = .function) (hxd : (x == ("__debug__" : Str)) = false)
    (en : nsIn G.K mainGlobals (Str.ofString "next") = some none) (hkeep : keepIn G.K (.ref f) = true)
    (hL : Has m lm) (harg : lm.lookup arg = some (.ref I)) (hargl : cs.names.lookup arg = some .local) (hargd : (arg == ("__debug__" : Str)) = false)
    (ef : nsIn G.K mainGlobals fname = some (some (.ref f))) (hfl : cs.names.lookup fname = some .globalImplicit) (hfd : (fname == ("__debug__" : Str)) = false)
    (es : nsIn G.K mainGlobals (Str.ofString "StopIteration") = some none) (hsl : cs.names.lookup (Str.ofString "StopIteration") = some .globalImplicit) (hcs : cs.kind = .function)
    (hN₂ : ∀ p ∈ N₂, p ∈ N ∧ p.1 ≠ I) (h : Q .next m N₂) :
    TW G c (exec (.Try [.Expr (.Call (.Name fname fp) [.Name arg ap] [] cp) xp, st2] [.ExceptHandler (some (.Name (Str.ofString "StopIteration") sp)) none [.Pass pp] hp] [] [] tp) c.env) m N Q := by
  obtain ⟨cn, cs', L, a, ccd, cl, h₀, hc⟩ := hc
  subst hc
  have e0 : cs = cs' := hcsc.symm
  subst e0
  refine ⟨fun s₀ s E P => ?_⟩
  refine wpAny_Try_except ?_
  refine wpAny_execs_cons (wpAny_Expr ?_ (by unfold interactive; rw [show (envX cn cs L a ccd cl).scope.kind = .function from hcs]; rfl) (by rfl))
  refine Call_ (wpAny_mono ((t_glob (Q := fun v m' N' => v = .ref f ∧ m' = m ∧ N' = N) o ef hfl ⟨rfl, rfl, rfl⟩ hfd).out s₀ s _ P) ?_ fun _ _ e => e) (by rfl)
  rintro _ s₁ ⟨m1, N1, P₁, rfl, e1, e2⟩
  rw [e1, e2] at P₁
  refine callWith_K o.X hkeep (wpAny_mono ((t_items (Q := fun vs m' N' => vs = [.ref I] ∧ m' = m ∧ N' = N) (t_local o (hL.get harg) hargl (t_items_nil ⟨rfl, rfl, rfl⟩) hargd) (by rfl)).out s₀ s₁ _ P₁) ?_ fun _ _ e => e) (by rfl) (by rfl)
  rintro _ s₂ ⟨m2, N2, P₂, rfl, e3, e4⟩
  rw [e3, e4] at P₂
  refine ⟨P₂.K o, ?_⟩
  show wpAny _ _ (call (.ref f) [.ref I]) _ _ _
  refine wpAny_call (code_defX (base := h₀) (A₀ := callerA) (below_caller h₀) P₂.F o.X P₂.N o.T (Around.frames_deeper (below_caller h₀).stack) ho hcd o.room (hbind _ (P₂.K o)) (fun z hz => by
    simp only [List.mem_singleton] at hz; subst hz; exact hloc) (fun g L' h₁ F0 F1 N1' B1 X1 T1 => ?_) hcs hco hgen hk hcell)
  have hR2 : Rest s₀ { s₂ with heap := h₁, toks := s₂.toks + 1 } := ⟨P₂.R.os, P₂.R.gens, P₂.R.bare⟩
  have o' : Ok G n ⟨(callerA.deeper (envX cn cs L a ccd cl)).deeper (envOf qual scope L' f cdv), envOf qual scope L' f cdv, g⟩ :=
    ⟨X1, T1, by have h0 : (callerA.deeper (envX cn cs L a ccd cl)).depth + 4 * (n + 2) < 1000 := o.depth; show (callerA.deeper (envX cn cs L a ccd cl)).depth + 1 + 4 * n < 1000; revert h0; walk_at "Z", by have h0 : (callerA.deeper (envX cn cs L a ccd cl)).units + 20 * (n + 2) < 9000 := o.units; show (callerA.deeper (envX cn cs L a ccd cl)).units + 3 + 20 * n < 9000; revert h0; walk_at "Z", o.handled, hk, rfl, rfl⟩
  have P3 : Pre ⟨(callerA.deeper (envX cn cs L a ccd cl)).deeper (envOf qual scope L' f cdv), envOf qual scope L' f cdv, g⟩ (fun z => [(x, Value.ref I)].reverse.lookup z) N s₀ { s₂ with heap := h₁, toks := s₂.toks + 1 } := ⟨F1, N1', hR2⟩
  refine wpAny_execs_cons (wpAny_Assign_Name ?_ (by rfl))
  refine Call_ (wpAny_mono ((t_bui (Q := fun v m' N' => v = .builtin "next" ∧ m' = (fun z => [(x, Value.ref I)].reverse.lookup z) ∧ N' = N) o' en (by rfl) (by decide) hnext ⟨rfl, rfl, rfl⟩ (by rfl)).out s₀ _ _ P3) ?_ fun _ _ e => e) (by rfl)
  rintro _ s₃ ⟨m3, N3, P₃, rfl, e5, e6⟩
  rw [e5, e6] at P₃
  refine callWith_method1 (wpAny_mono ((t_items (Q := fun vs m' N' => vs = [.ref I] ∧ m' = (fun z => [(x, Value.ref I)].reverse.lookup z) ∧ N' = N) (t_local o' (by simp [List.lookup]) hloc (t_items_nil ⟨rfl, rfl, rfl⟩) hxd) (by rfl)).out s₀ s₃ _ P₃) ?_ fun _ _ e => e) (by rfl) (by rfl)
  rintro _ s₄ ⟨m4, N4, P₄, rfl, e7, e8⟩
  rw [e7, e8] at P₄
  show wpAny _ _ (call (.builtin "next") [.ref I]) _ _ _
  have zI := P₄.N _ hI
  refine next_end (l := l) (i := i) o.handled ⟨ob, P₄.N.get hI, hi.1, hi.2⟩ (isList_of (P₄.N.get hl)) (by simpa using hx) fun h₂ h' e hsb hmade => ?_
  have F2 : Fr g L' h₂ (fun z => [(x, Value.ref I)].reverse.lookup z) := P₄.F.change hsb zI.2.1 zI.2.2
  have N2' : News g L' h₂ N₂ := fun p hp => ⟨(hsb.2 _ (hN₂ p hp).2).trans (P₄.N p (hN₂ p hp).1).1, (P₄.N p (hN₂ p hp).1).2⟩
  refine leave_raiseS B1 hmade F2 N2' (fun h'' t R1 R2 hup => ?_) hk
  refine wpAny_mono (caught_X (E := fun _ _ => False) R1 F0 (below_caller h₀) hup o.X o.T es (by rfl) (by decide) (by rw [isSubtype_type]; kernel_rfl) (by rw [isSubtype_type]; kernel_rfl) (by rw [isSubtype_type]; kernel_rfl) (fun h3 F' Nl => ?_) hcs hsl (by rfl) PassesOwnAt.never) (fun _ s₂ h₂ => wpAny_mono h₂ (fun _ s₃ h₃ => wpAny_noRaise h₃) (fun _ _ x => x.elim)) (fun _ _ x => x.elim)
  exact wpAny_execs_cons (wpAny_Pass (wpAny_execs_nil ⟨m, N₂, ⟨⟨F'.ns, F'.keep, F'.above⟩, Nl, ⟨P₄.R.os, P₄.R.gens, P₄.R.bare⟩⟩, h⟩))
end

-- s6
section
variable {G : St} {n : Nat}
/-- the whole run of a def some of whose names stand in cells -/
theorem code_topC {name qual : Str} {params : Arguments} {body : List Stmt} {scope : Scope} {dV kV doc pm cdv ct oc : Value} {an od : Option Addr} {osl : Array (Option Value)} {f : Addr} {args : List Value} (binds : List (Str × Value)) {s : Shared} {v : Value}
    (X : G.K.In s.heap) (T : Top G.p G.loose G.mean G.mg G.mb s.heap) (hn : n ≤ 100)
    (ho : G.K.lookup f = some ⟨oc, od, .func (fnOf name qual params body scope dV kV doc pm an cdv ct), osl⟩) (hcd : codeIn G.K cdv qual = true)
    (hbind : BindsTo s (fnOf name qual params body scope dV kV doc pm an cdv ct) ⟨args, []⟩ binds)
    (hkind : (binds.all fun y => scope.names.lookup y.1 == some .local || scope.names.lookup y.1 == some .cell) = true)
    (hnd : ((cellsFrom 0 scope.names []).map (·.1)).Nodup)
    (hco : scope.isCoroutine = false) (hgen : scope.isGenerator = false) (hk : scope.kind = .function)
    (h : ∀ (c' : Act) (cs : Cells) (L : Addr), TopC c' → c'.h₀ = s.heap → c'.env.scope = scope → c'.env.cells = cellsFrom (L + 1) scope.names [] → Ok G n c' →
      CellsAre (bindC (fun x => scope.names.lookup x) binds fun _ => none) c'.env.cells cs →
      TW G c' (execs body c'.env) (bindL (fun x => scope.names.lookup x) binds fun _ => none) cs (fun fl _ _ => retOf fl = v)) :
    codeAny (model G.prog G.w) callerA (.call (.ref f) ⟨args, []⟩) (fun r s' => r = .ok (.ret v) ∧ Rest s s' ∧ ∀ b o, s.heap.get? b = some o → s'.heap.get? b = some o) s := by
  refine codeAny_call_function (fd := fnOf name qual params body scope dV kV doc pm an cdv ct) (body := body) (by decide) (X _ _ ho) rfl hco hgen rfl (codeRec_of X hcd) (hbind _ _ _ _ ?_)
  refine wpAny_newFunctionEnv_cells hk (kindsX hkind _) fun env' he s' x => ?_
  subst he
  refine ⟨T.nolimit.keeps x.toInCall.keep, codeAny_func ?_⟩
  obtain ⟨h₁, tk, rfl, _⟩ := x.done
  have hk₁ := x.toInCall.keep
  obtain ⟨cells, NC, Y⟩ := Cl.news (h₀ := s.heap) (Nat.le_refl _) fun n c hm => ⟨x.cell n c (lookup_of_mem_nodup (cellsFrom_names scope.names 0 (s.heap.objs.size + 1) [] [] rfl ▸ hnd) hm), x.above n c hm⟩
  have O : Ok G n ⟨callerA.deeper (newEnv scope s.heap.objs.size mainGlobals (cellsFrom (s.heap.objs.size + 1) scope.names []) (qual ++ ".<locals>.") (some f) cdv none builtinsNs), newEnv scope s.heap.objs.size mainGlobals (cellsFrom (s.heap.objs.size + 1) scope.names []) (qual ++ ".<locals>.") (some f) cdv none builtinsNs, s.heap⟩ :=
    ⟨X, T, by show callerA.depth + 1 + 4 * n < 1000; have : callerA.depth = 301 := rfl; revert hn this; walk_at "Z", by show callerA.units + 3 + 20 * n < 9000; have : callerA.units = 4 := rfl; revert hn this; walk_at "Z", rfl, hk, rfl, rfl⟩
  have W := h _ cells _ ⟨_, _, _, _, _, _, _, rfl⟩ rfl rfl rfl O Y
  exact wpAny_mono (W.out s _ _ ⟨⟨x.toInCall.ns, hk₁, Nat.le_refl _⟩, fun p hp => NC p hp, ⟨rfl, (fun _ _ e => e), id⟩⟩) (fun fl s' ⟨m', N', p', e⟩ => ⟨congrArg (fun v => Except.ok (Flow.ret v)) e, p'.R, p'.F.keep⟩) fun _ _ e => e
end

-- p1
-- what the law's text speaks of, with no program in sight
def rowNames (r : Nat) : List (List Nat) := (List.range 5).map fun g => [112 + r, 48 + g]
def outB (sts : List (List Nat × Int)) (c r : Nat) : Bool := decide ((aboveSum sts c r).fmod 2 = 0)
def leftR (sts : List (List Nat × Int)) (sg : List (List Nat)) (r : Nat) : List Nat := (((List.range 4).filter fun c => outB sts c r).map fun c => sg.getD c []).flatten
def textR (sg os : List (List Nat)) (r : Nat) : List Nat := markT sg (rowNames r) os 5
def wordR (left : List Nat) : List Nat := (List.range 4).map fun c => if 97 + c ∈ left then 97 + c else 65 + c
def tabPart (left : List Nat) (r : Nat) (oc : List (List Nat)) (j : Nat) : List (List Nat × List Nat) := ((List.range j).filter fun c => decide (97 + c ∈ left)).map fun c => (sized [97 + c] r, oc.getD r [])
def tabRow (left : List Nat) (r : Nat) (oc : List (List Nat)) : List (List Nat × List Nat) := tabPart left r oc 4
theorem tabPart_in {left : List Nat} {r : Nat} {oc : List (List Nat)} {j : Nat} (h : 97 + j ∈ left) : tabPart left r oc (j + 1) = tabPart left r oc j ++ [(sized [97 + j] r, oc.getD r [])] := by
  unfold tabPart
  rw [List.range_succ, List.filter_append, List.map_append, List.filter_cons, if_pos (decide_eq_true h)]; rfl
theorem tabPart_out {left : List Nat} {r : Nat} {oc : List (List Nat)} {j : Nat} (h : ¬ 97 + j ∈ left) : tabPart left r oc (j + 1) = tabPart left r oc j := by
  unfold tabPart
  rw [List.range_succ, List.filter_append, List.map_append, List.filter_cons, if_neg (by rw [decide_eq_false h]; exact Bool.false_ne_true)]; simp
def tabOf (sts : List (List Nat × Int)) (sg oc : List (List Nat)) : Nat → List (List Nat × List Nat)
  | 0 => []
  | r + 1 => tabOf sts sg oc r ++ tabRow (leftR sts sg r) r oc
def wordsOf (sts : List (List Nat × Int)) (sg : List (List Nat)) : Nat → List (List Nat)
  | 0 => [[97, 98, 99, 100]]
  | r + 1 => wordsOf sts sg r ++ [wordR (leftR sts sg r)]
theorem octL_mem : ∀ (f num : Nat) (s : List Nat), (∀ d ∈ s, 128 ≤ d ∧ d < 256) → (∀ d ∈ octL f num s, 128 ≤ d ∧ d < 256) ∧ (octL f num s).length ≤ s.length + f := by
  intro f
  induction f with
  | zero => intro num s h; exact ⟨h, Nat.le_refl _⟩
  | succ f ih =>
    intro num s h
    unfold octL
    split
    · have := ih (num / 64) ((192 + num / 64 % 64) :: s) (fun d hd => by
        rcases List.mem_cons.mp hd with rfl | hd
        · have := Nat.mod_lt (num / 64) (show 0 < 64 by decide); revert this; walk_at "Z"
        · exact h d hd)
      exact ⟨this.1, by have h2 := this.2; rw [List.length_cons] at h2; revert h2; walk_at "Z"⟩
    · exact ⟨h, Nat.le_add_right _ _⟩
theorem octs_ok (n : Nat) : (∀ d ∈ octs n, 128 ≤ d ∧ d < 256) ∧ (octs n).length ≤ 11 := by
  have := octL_mem 10 n [128 + n % 64] (fun d hd => by
    rw [List.mem_singleton] at hd; subst hd
    have := Nat.mod_lt n (show 0 < 64 by decide); revert this; walk_at "Z")
  exact ⟨this.1, this.2⟩
theorem octs_ctl (n : Nat) : NoCtl (octs n) := fun d hd => by have := (octs_ok n).1 d hd; revert this; walk_at "Z"
def dueL (os : List (List Nat)) (l : Nat) : Nat := ((List.range 4).filter fun c => decide ([97 + c, 48 + l] ∈ os)).length
def wordsAll (sts : List (List Nat × Int)) (sg : List (List Nat)) : List (List Nat) := wordsOf sts sg 3 ++ [[97, 98, 99, 100]]
/-- what the law asks of its rows -/
structure RowsOk (sts : List (List Nat × Int)) (sg os : List (List Nat)) : Prop where
  words : ∀ l < 4, ∀ b < dueL os l + 2, lev ((wordsAll sts sg).getD l []) ((wordsAll sts sg).getD (l + 1) []) (b : Nat) = min (dueL os l : Int) ((b : Int) + 1)
  worda : ∀ w ∈ wordsAll sts sg, Ascii w ∧ w.length ≤ 40
  closed : ∀ r < 3, escEnd false (textR sg os r) = false
  len : ∀ r < 3, (textR sg os r).length ≤ 40 ∧ Ascii (textR sg os r) ∧ (leftR sts sg r).length ≤ 40 ∧ Ascii (leftR sts sg r)
  strip : ∀ r < 3, stripOf (textR sg os r) = leftR sts sg r
  lev : ∀ r < 3, ∀ d < 3, lev (textR sg os r) (leftR sts sg r) (2 * ((textR sg os r).length - (leftR sts sg r).length : Int) - 1 + (d : Nat)) = 2 * ((textR sg os r).length - (leftR sts sg r).length : Int)
/-- the law's cell variables -/
def lawCl (L : Nat) : List (Str × Addr) := [(Str.ofString "level", L + 11), (Str.ofString "column", L + 10), (Str.ofString "left", L + 9), (Str.ofString "octets", L + 8), (Str.ofString "row", L + 7), (Str.ofString "first", L + 6), (Str.ofString "signs", L + 5), (Str.ofString "tail", L + 4), (Str.ofString "odd", L + 3), (Str.ofString "steps", L + 2), (Str.ofString "cells", L + 1)]
theorem tabPart_len (left : List Nat) (r : Nat) (oc : List (List Nat)) (j : Nat) : (tabPart left r oc j).length ≤ j := by
  unfold tabPart; rw [List.length_map]
  exact Nat.le_trans (List.length_filter_le _ _) (Nat.le_of_eq List.length_range)
theorem tabOf_len (sts : List (List Nat × Int)) (sg oc : List (List Nat)) : ∀ r, (tabOf sts sg oc r).length ≤ 4 * r
  | 0 => Nat.le_refl _
  | r + 1 => by
    have h1 := tabOf_len sts sg oc r
    have h2 := tabPart_len (leftR sts sg r) r oc 4
    show (tabOf sts sg oc r ++ tabPart (leftR sts sg r) r oc 4).length ≤ _
    rw [List.length_append]; revert h1 h2; walk_at "Z"
theorem wordR_join (left : List Nat) : ((List.range 4).map fun c => [if 97 + c ∈ left then 97 + c else 65 + c]).flatten = wordR left := rfl
theorem wordsOf_len (sts : List (List Nat × Int)) (sg : List (List Nat)) : ∀ r, (wordsOf sts sg r).length = r + 1
  | 0 => rfl
  | r + 1 => by
    show (wordsOf sts sg r ++ [_]).length = _
    rw [List.length_append, wordsOf_len sts sg r]; rfl
def colNames (c : Nat) : List (List Nat) := (List.range 4).map fun l => [97 + c, 48 + l]
def colText (oc os : List (List Nat)) (c : Nat) : List Nat := markT oc (colNames c) os 4
def toldC (sts : List (List Nat × Int)) (oc : List (List Nat)) (c : Nat) : List (List Nat) := ((List.range 3).filter fun r => outB sts c r).map fun r => oc.getD r []
def tapeC (x : List Nat) : List Nat := x.map fun d => d - 128 * (d % 2)
/-- the tape of the rows from r on -/
def restC (sts : List (List Nat × Int)) (oc : List (List Nat)) (c r : Nat) : List Nat := tapeC (((List.range 3).filter fun q => decide (r ≤ q) && outB sts c q).map fun q => oc.getD q []).flatten
/-- what the law asks of its columns -/
structure ColsOk (fi : Nat) (sts : List (List Nat × Int)) (sg os oc : List (List Nat)) : Prop where
  read : ∀ c < 4, ∀ r < 3, outB sts c r = true → vmore 0 (restC sts oc c r) = some (fi + 21 * r, restC sts oc c (r + 1))
  closed : ∀ c < 4, escEnd false (colText oc os c) = false
  len : ∀ c < 4, (colText oc os c).length ≤ 100
  strip : ∀ c < 4, stripOf (colText oc os c) = (toldC sts oc c).flatten
  skip : ∀ c < 4, ∀ r < 3, outB sts c r = false → restC sts oc c r = restC sts oc c (r + 1)
  all : ∀ c < 4, hall (tabOf sts sg oc 3) (sized [97 + c] c) = toldC sts oc c
theorem tabOf_ok (sts : List (List Nat × Int)) (sg oc : List (List Nat)) : ∀ r, ∀ p ∈ tabOf sts sg oc r, Ascii p.1 ∧ p.1.length ≤ 1000000 := by
  intro r
  induction r with
  | zero => intro p hp; exact (List.not_mem_nil hp).elim
  | succ r ih =>
    intro p hp
    rcases List.mem_append.mp hp with hp | hp
    · exact ih p hp
    · unfold tabRow tabPart at hp
      obtain ⟨c, hc, rfl⟩ := List.mem_map.mp hp
      have hc4 := List.mem_range.mp (List.mem_filter.mp hc).1
      have hn : NameOk [97 + c] := ⟨fun d hd => by rw [List.mem_singleton] at hd; subst hd; revert hc4; walk_at "Z", fun d hd => by rw [List.mem_singleton] at hd; subst hd; revert hc4; walk_at "Z", by show 1 ≤ 2; decide⟩
      have := sized_ok (i := (r : Int)) hn
      exact ⟨this.1, Nat.le_trans this.2.2 (by decide)⟩
def octsOf (fi : Nat) : List (List Nat) := (List.range 3).map fun r => octs (fi + 21 * r)
theorem octs_len (fi : Nat) : ∀ y ∈ octsOf fi, y.length ≤ 100 := by
  intro y hy
  obtain ⟨r, _, rfl⟩ := List.mem_map.mp hy
  exact Nat.le_trans (octs_ok _).2 (by decide)
theorem strOk_low {x : List Nat} (h : ∀ d ∈ x, d < 256) : PyData.strOk (S x) = true := by
  unfold PyData.strOk
  rw [S_cps, List.all_toArray, List.all_eq_true]
  intro d hd
  have := h d hd
  simp; revert this; walk_at "Z"
theorem told_ok {sts : List (List Nat × Int)} {fi c : Nat} (p : List Nat) (hp : p ∈ toldC sts (octsOf fi) c) : PyData.strOk (S p) = true := by
  obtain ⟨r, hr, rfl⟩ := List.mem_map.mp hp
  have hr3 := List.mem_range.mp (List.mem_filter.mp hr).1
  have e : (octsOf fi).getD r [] = octs (fi + 21 * r) := by
    rw [List.getD_eq_getElem?_getD]; unfold octsOf; rw [List.getElem?_map, List.getElem?_range hr3]; rfl
  rw [e]
  exact strOk_low fun d hd => ((octs_ok _).1 d hd).2
theorem flat_len11 {l : List (List Nat)} (h : ∀ x ∈ l, x.length ≤ 11) : l.flatten.length ≤ 11 * l.length := by
  induction l with
  | nil => exact Nat.le_refl _
  | cons a l ih =>
    have h1 := h a (.head _)
    have h2 := ih fun x hx => h x (.tail _ hx)
    rw [List.flatten_cons, List.length_append, List.length_cons]; revert h1 h2; walk_at "Z"
theorem told_mem {sts : List (List Nat × Int)} {fi c : Nat} {p : List Nat} (hp : p ∈ toldC sts (octsOf fi) c) : ∃ r, r < 3 ∧ p = octs (fi + 21 * r) := by
  obtain ⟨r, hr, rfl⟩ := List.mem_map.mp hp
  have hr3 := List.mem_range.mp (List.mem_filter.mp hr).1
  exact ⟨r, hr3, by rw [List.getD_eq_getElem?_getD]; unfold octsOf; rw [List.getElem?_map, List.getElem?_range hr3]; rfl⟩
theorem told_len {sts : List (List Nat × Int)} {fi c : Nat} : (toldC sts (octsOf fi) c).flatten.length ≤ 33 ∧ ∀ d ∈ (toldC sts (octsOf fi) c).flatten, 128 ≤ d ∧ d < 256 := by
  refine ⟨?_, fun d hd => ?_⟩
  · have h1 := flat_len11 (l := toldC sts (octsOf fi) c) (fun x hx => by obtain ⟨r, _, rfl⟩ := told_mem hx; exact (octs_ok _).2)
    have h2 : (toldC sts (octsOf fi) c).length ≤ 3 := by
      unfold toldC; rw [List.length_map]; exact Nat.le_trans (List.length_filter_le _ _) (Nat.le_of_eq List.length_range)
    revert h1 h2; walk_at "Z"
  · obtain ⟨x, hx, hd⟩ := List.mem_flatten.mp hd
    obtain ⟨r, _, rfl⟩ := told_mem hx
    exact (octs_ok _).1 d hd
theorem tape_val {d : Nat} (h : 128 ≤ d) : (d : Int) - 128 * ((d : Int).fmod 2) = ((d - 128 * (d % 2) : Nat) : Int) := by
  have e := fmod_nat d 2
  rw [show ((2 : Nat) : Int) = 2 from rfl] at e
  rw [e]
  have := Nat.mod_lt d (show 0 < 2 by decide)
  revert this h; walk_at "Z"
theorem restC_0 (sts : List (List Nat × Int)) (oc : List (List Nat)) (c : Nat) : restC sts oc c 0 = tapeC (toldC sts oc c).flatten := by
  unfold restC toldC
  rw [List.filter_congr (q := fun r => outB sts c r) fun q _ => by rw [decide_eq_true (Nat.zero_le q)]; rfl]
theorem restC_3 (sts : List (List Nat × Int)) (oc : List (List Nat)) (c : Nat) : restC sts oc c 3 = [] := by
  unfold restC
  rw [List.filter_eq_nil_iff.mpr fun q hq => by rw [decide_eq_false (Nat.not_le.mpr (List.mem_range.mp hq))]; exact Bool.false_ne_true]
  rfl
theorem first_row {fi g : Nat} : (fi : Int) + 21 * (g : Int) = ((fi + 21 * g : Nat) : Int) := by push_cast; rfl

-- w2m
set_option hygiene false in
local macro_rules | `(tactic| walk_at "C") => `(tactic| with_reducible first
  | assumption
  | (apply CHas.tail; walk_at "C"))
set_option hygiene false in
local macro_rules | `(tactic| walk_at "K") => `(tactic| with_reducible first
  | (apply CHas.nil0; walk_at "C")
  | (refine CHas.cons (by walk_at "C") (by k_dflt rfl) ?_; walk_at "K"))
set_option hygiene false in
local macro_rules | `(tactic| walk_at "X") => `(tactic| with_reducible first
  | assumption
  | (apply FXs.tail; walk_at "X")
  | (refine FXs.keepN (by assumption) ?_; walk_at "X"))
set_option hygiene false in
local macro_rules | `(tactic| walk_at "M") => `(tactic| with_reducible first
  | assumption
  | exact List.mem_cons_self
  | (refine List.mem_cons_of_mem _ ?_; walk_at "M")
  | (refine FXs.mem (FX := FX) (by walk_at "X") (by assumption))
  | (refine KeepN.mem (by assumption) ?_ (by k_dflt rfl); walk_at "M")
  | (refine KeepN.mem2 (by assumption) ?_ (by assumption); walk_at "M"))
set_option hygiene false in
local macro_rules | `(tactic| walk_at "S") => `(tactic| with_reducible first
  | (show TW _ _ (eval (.Name _ _) _) _ _ _; refine t_cellM (by assumption) (by assumption) (by assumption) (by walk_at "C") (by k_dflt rfl) (by k_dflt rfl) (by k_dflt rfl) ?_ (by k_dflt rfl))
  | (show TW _ _ (eval (.Name _ _) _) _ _ _; refine t_buiS (by assumption) (by assumption) (by k_dflt rfl) (by exact bb_int) (by k_dflt rfl) ?_)
  | (show TW _ _ (storeName _ _ _) _ _ _; refine t_storeM (by assumption) (by assumption) (by assumption) (by walk_at "C") (by k_dflt rfl) (by k_dflt rfl) fun _ _ _ => ?_))

-- s7
/-- a side's name: a letter and a figure -/
def SideD (a : List Nat) : Prop := ∃ d e, a = [d, e] ∧ ((97 ≤ d ∧ d ≤ 100) ∨ (112 ≤ d ∧ d ≤ 114)) ∧ 48 ≤ e ∧ e ≤ 52
theorem side_name {x y dx dy : Int} (h : OnB x y) (h' : OnB (x + dx) (y + dy)) (u : Unit4 dx dy) : SideD (sideName x y dx dy) := by
  unfold sideName
  by_cases q : dx = 0
  · rw [if_neg (not_not_intro q)]
    exact ⟨_, _, rfl, .inr (by revert h h' u q; walk_at "Z"), by revert h; walk_at "Z"⟩
  · rw [if_pos q]
    exact ⟨_, _, rfl, .inl (by revert h h' u q; walk_at "Z"), by revert h; walk_at "Z"⟩
theorem Trip.names {h p : Int × Int} {sts : List (List Nat × Int)} (t : Trip h p sts) : ∀ q ∈ sts, SideD q.1 := by
  induction t with
  | nil _ => intro q hq; exact (List.not_mem_nil hq).elim
  | snoc t u hb ih =>
    intro q hq
    rcases List.mem_append.mp hq with hq | hq
    · exact ih q hq
    · rw [List.mem_singleton] at hq; subst hq
      exact side_name t.on hb u
theorem SideD.ok {a : List Nat} (h : SideD a) : NameOk a := by
  obtain ⟨d, e, rfl, h1, h2⟩ := h
  refine ⟨fun x hx => ?_, fun x hx => ?_, Nat.le_refl _⟩
  · rcases List.mem_cons.mp hx with rfl | hx
    · revert h1; walk_at "Z"
    · rw [List.mem_singleton] at hx; subst hx; revert h2; walk_at "Z"
  · rcases List.mem_cons.mp hx with rfl | hx
    · revert h1; walk_at "Z"
    · rw [List.mem_singleton] at hx; subst hx; revert h2; walk_at "Z"
theorem SideD.len {a : List Nat} (h : SideD a) : a.length = 2 := by obtain ⟨d, e, rfl, _⟩ := h; rfl
theorem strOk_asc {x : List Nat} (h : Ascii x) : PyData.strOk (S x) = true := by
  unfold PyData.strOk
  rw [S_cps, List.all_toArray, List.all_eq_true]
  intro d hd
  have := h d hd
  simp; revert this; walk_at "Z"
theorem fm_filter {α β : Type} (p : α → Bool) (f : α → β) (l : List α) : l.filterMap (fun c => if p c = true then some (f c) else none) = (l.filter p).map f := by
  induction l with
  | nil => rfl
  | cons a l ih =>
    rw [List.filterMap_cons, List.filter_cons]
    cases h : p a
    · simpa using ih
    · simpa using ih
theorem up_letter : ∀ g < 4, [97 + g].map up1 = [65 + g] := by decide
theorem pqr_get : ∀ k < 3, [112, 113, 114][k]? = some (112 + k) := by decide
theorem fmod_ltN (a : Int) (b : Nat) (hb : 0 < b) : ∃ k : Nat, a.fmod (b : Int) = (k : Int) ∧ k < b := by
  have hb' : (0 : Int) < (b : Int) := Int.natCast_pos.mpr hb
  have h1 := Int.fmod_nonneg_of_pos a hb'
  have h2 := Int.fmod_lt_of_pos a hb'
  exact ⟨(a.fmod b).toNat, by revert h1; walk_at "Z", by revert h1 h2; walk_at "Z"⟩
def tails : List (List Nat) := [[], [92, 34], [92, 92], [92, 92, 92, 34]]
theorem signs_len {kc : Nat} {tl : List Nat} (h : tl.length ≤ 4) : ∀ y ∈ (List.range 4).map (fun i => if i = kc then (97 + i) :: tl else [97 + i]), y.length ≤ 100 := by
  intro y hy
  obtain ⟨i, _, rfl⟩ := List.mem_map.mp hy
  split
  · show tl.length + 1 ≤ 100; revert h; walk_at "Z"
  · exact (by decide : 1 ≤ 100)
def signsOf (kc : Nat) (tl : List Nat) : List (List Nat) := (List.range 4).map fun i => if i = kc then (97 + i) :: tl else [97 + i]
theorem abcd_nodup : ∀ i < 4, ∀ j < 4, (decide ([97 + i] = [97 + j]) = true ↔ i = j) := by decide
section
variable {γ : GP}
theorem s_tails {c : Act} {m : Loc} {N : Cells} {v i : Expr} {L : Addr} {t1 t2 t3 t4 tk : Tok} {ep k : Nat} {Q : Value → Loc → Cells → Prop} (hL : (L, listOf [Value.str (S []) t1, .str (S [92, 34]) t2, .str (S [92, 92]) t3, .str (S [92, 92, 92, 34]) t4].toArray ep) ∈ N) (hk : k < 4)
    (h : ∀ t, Q (.str (S (tails.getD k [])) t) m N) (hs : subscripted i false (.ref L) (.int (k : Int) tk) = operate [.ref L, .int (k : Int) tk] (getItem (.ref L) (.int (k : Int) tk))) : TW (GS γ) c (subscriptTail v i (.ref L) (.int (k : Int) tk)) m N Q := by
  have : ∃ t, [Value.str (S []) t1, .str (S [92, 34]) t2, .str (S [92, 92]) t3, .str (S [92, 92, 92, 34]) t4][k]? = some (.str (S (tails.getD k [])) t) := by
    rcases lt_four k hk with rfl | rfl | rfl | rfl <;> exact ⟨_, rfl⟩
  obtain ⟨t, e⟩ := this
  exact s_list hL (Int.natCast_nonneg _) (by revert hk; walk_at "Z") (by rw [Int.toNat_natCast]; exact e) (h t) hs
set_option maxHeartbeats 4000000 in
theorem f_law02 (hplain : ∀ sts p kc tl, Trip p p sts → sts.length ≤ 20 → kc < 4 → tl ∈ tails → RowsOk sts (signsOf kc tl) ((sidesN sts sts.length).map fun p => p.1.map lo1) ∧ ∀ fi < 1073741824, ColsOk fi sts (signsOf kc tl) ((sidesN sts sts.length).map fun p => p.1.map lo1) (octsOf fi)) {l : Addr} {vs : List Value} {ns : List Int} {s : Shared} (X : (GS γ).K.In s.heap) (T : Top (GS γ).p (GS γ).loose (GS γ).mean (GS γ).mg (GS γ).mb s.heap) (hl : s.heap.IsList l vs.toArray) (hv : IntsAre vs ns) (hn : ns.length ≤ 1000) :
    codeAny (model (GS γ).prog (GS γ).w) callerA (.call (.ref 280) ⟨[.ref l], []⟩) (fun r s' => r = .ok (.ret (.bool true)) ∧ Rest s s' ∧ ∀ b o, s.heap.get? b = some o → s'.heap.get? b = some o) s := by
  refine code_topC (G := GS γ) (n := 50) [(Str.ofString "script", .ref l)] X T (by walk_at "O") (by rfl) (by rfl) (BindsTo.of_eq (by rfl)) (by rfl) (by decide) (by rfl) (by rfl) (by rfl) ?_
  intro c' cs L htop h0 hs hc o' hcs
  have hcl : c'.env.cells = lawCl L := hc
  rw [hcl] at hcs
  have CH := CHas.start hcs (by simp [lawCl])
  clear hcs hc
  have hl' : c'.h₀.IsList l vs.toArray := by rw [h0]; exact hl
  clear h0 hl
  have hL : Has (bindL (fun x => c'.env.scope.names.lookup x) [(Str.ofString "script", .ref l)] fun _ => none) [(Str.ofString "script", .ref l)] := by
    rw [hs]; intro p hp; rw [List.mem_singleton] at hp; subst hp; rfl
  rw [hs] at hL
  generalize bindL (fun x => List.lookup x _) [(Str.ofString "script", Value.ref l)] (fun _ => none) = m0 at hL ⊢
  repeat walk_at "S"
  refine f_cells (n := 10) (o'.mono (by decide)) hl' hv hn fun C vsC cs epC hC hc10 hcs => ?_
  repeat walk_at "S"
  refine f_steps (n := 10) (o'.mono (by decide)) (by walk_at "M") hcs hc10 fun D wsD epD N1 sts p hsub1 hDf hDm hSt hTrip hlen => ?_
  have CH1 := CHas.mono (by assumption) hsub1
  have K1 : KeepN (lawCl L) _ N1 := .of hsub1
  have hnm := hTrip.names
  repeat walk_at "S"
  refine ⟨by simp, fun H hH => ?_⟩
  repeat walk_at "S"
  have hSt2 := Stp.keepN (by assumption) hSt
  refine f_sides (n := 10) (o'.mono (by decide)) (by walk_at "M") (hSt2.mono0 fun _ h => .tail _ h) hlen (fun q hq => (hnm q hq).ok) (.head _) (fun e => hH _ (KeepN.mem (by assumption) hDm rfl) e) fun K ws epK hvs epH N3 hsub3 hH3 hPr hK hws => ?_
  have hs3 := fun p hp => hsub3 p (.tail _ hp) (hH p hp)
  have CH3 := CHas.mono (by assumption) hs3
  have K3 : KeepN (lawCl L) _ N3 := .of hs3
  obtain ⟨hok, hplen⟩ := sidesN_ok (fun q hq => (hnm q hq).ok) sts.length (Nat.le_refl _)
  obtain ⟨ps, hps⟩ : ∃ ps, ps = sidesN sts sts.length := ⟨_, rfl⟩
  rw [← hps] at hPr hws hok hplen
  have hpl : ps.length ≤ 40 := Nat.le_trans hplen (by revert hlen; walk_at "Z")
  have hvl := hPr.len
  clear hs3 hsub3
  repeat walk_at "S"
  refine comp_it (it_list hH3) (fun d hd => by rw [List.mem_singleton] at hd; subst hd; exact hH3) (by rw [hvl]; exact Nat.le_trans hpl (by decide))
    (fun i r => ∃ t, r = some (.str (S (ps.getD i ([], [])).1) t)) ?_ ?_
  · rintro c₂ l X i v hs₂ hcl₂ o₂ hX hi hP
    have hi' : i < ps.length := hvl ▸ hi
    have hg := List.getElem?_eq_getElem hi'
    obtain ⟨T, t2, u2, ep2, hv2, hT⟩ := hPr.get (a := ps[i].1) (b := ps[i].2) hg
    rw [hv2] at hP
    obtain rfl := Option.some.inj hP
    have e : ps.getD i ([], []) = ps[i] := by rw [List.getD_eq_getElem?_getD, hg]; rfl
    rw [e]
    refine t_pair o₂ (hX _ hT) ?_
    repeat walk_at "S"
    refine t_true ?_
    repeat walk_at "S"
    exact ⟨⟨_, rfl⟩, fun _ h => h⟩
  intro A ys epA hpk hA
  have hst : Strs ys _ := hpk.strs (f := fun i => some (ps.getD i ([], [])).1) (fun i hi ⟨t, e⟩ => by cases e) (fun i y hi ⟨t, e⟩ => ⟨_, t, rfl, by cases e; rfl⟩)
  rw [hvl, range_fm ps ([], []) (fun p => some p.1), List.filterMap_eq_map'] at hst
  clear hpk
  refine o_strs_ne o' (.tail _ hK) (.head _) hws hst (fun p hp => by obtain ⟨q, hq, rfl⟩ := List.mem_map.mp hp; exact strOk_asc (hok q hq).1) ?_
  repeat walk_at "S"
  refine t_neg (by rfl) ?_
  repeat walk_at "S"
  have hwl := hws.len
  rw [List.length_map] at hwl
  refine t_assign ?_ (swaps_of hs (by rfl))
  repeat walk_at "S"
  refine comp_it (it_list (.tail _ hK)) (fun d hd => by rw [List.mem_singleton] at hd; subst hd; exact .tail _ hK) (by rw [hwl]; exact Nat.le_trans hpl (by decide))
    (fun i r => ∃ t, r = some (.str (S ((ps.getD i ([], [])).1.map lo1)) t)) ?_ ?_
  · rintro c₂ l X i v hs₂ hcl₂ o₂ hX hi hP
    have hi' : i < ps.length := hwl ▸ hi
    have e : ps.getD i ([], []) = ps[i] := by rw [List.getD_eq_getElem?_getD, List.getElem?_eq_getElem hi']; rfl
    obtain ⟨t2, hv2⟩ := hws.get (y := ps[i].1) (i := i) (by rw [List.getElem?_map, List.getElem?_eq_getElem hi']; rfl)
    rw [hv2] at hP
    obtain rfl := Option.some.inj hP
    rw [e]
    have hoi := hok _ (List.getElem_mem hi')
    repeat walk_at "S"
    refine t_true ?_
    repeat walk_at "S"
    refine a_lower hoi.1 (Nat.le_trans hoi.2.2 (by decide)) fun t3 => ?_
    exact ⟨⟨_, rfl⟩, fun _ h => h⟩
  intro O os0 epO hpk hO
  have hos : Strs os0 _ := hpk.strs (f := fun i => some ((ps.getD i ([], [])).1.map lo1)) (fun i hi ⟨t, e⟩ => by cases e) (fun i y hi ⟨t, e⟩ => ⟨_, t, rfl, by cases e; rfl⟩)
  rw [hwl, range_fm ps ([], []) (fun p => some (p.1.map lo1)), List.filterMap_eq_map'] at hos
  obtain ⟨os, hosd⟩ : ∃ os, os = ps.map fun p => p.1.map lo1 := ⟨_, rfl⟩
  rw [← hosd] at hos
  clear hpk
  obtain ⟨t9, hv9⟩ := ints_at hcs (i := 9) (by rw [hc10]; decide)
  repeat walk_at "S"
  refine ⟨by simp, fun LT hLT => ?_⟩
  repeat walk_at "S"
  refine s_list (by walk_at "M") (by decide) (by decide) hv9 ?_
  obtain ⟨z, hz⟩ : ∃ z, z = cs.getD 9 0 := ⟨_, rfl⟩
  rw [← hz] at hv9
  rw [← hz]
  repeat walk_at "S"
  obtain ⟨kt, hkt, hkt4⟩ := fmod_ltN (z.fdiv 4) 4 (by decide)
  have hkt : (z.fdiv 4).fmod 4 = (kt : Int) := hkt
  rw [hkt]
  obtain ⟨tl, htl⟩ : ∃ tl, tl = tails.getD kt [] := ⟨_, rfl⟩
  have htl5 : tl.length ≤ 4 ∧ Ascii tl := by
    have key : ∀ k < 4, (tails.getD k []).length ≤ 4 ∧ Ascii (tails.getD k []) := by unfold Ascii; decide
    rw [htl]; exact key kt hkt4
  refine s_tails (.head _) hkt4 (fun tt => ?_) (by with_unfolding_all rfl)
  rw [← htl]
  repeat walk_at "S"
  refine t_assign ?_ (swaps_of hs (by rfl))
  repeat walk_at "S"
  obtain ⟨kc, hkc, hkc4⟩ := fmod_ltN z 4 (by decide)
  obtain ⟨RO, CO0⟩ := hplain sts p kc tl hTrip hlen hkc4 (by rw [htl, List.getD_eq_getElem?_getD, List.getElem?_eq_getElem (show kt < tails.length from hkt4)]; exact List.getElem_mem _)
  rw [← hps, ← hosd] at RO CO0
  have hkc : z.fmod 4 = (kc : Int) := hkc
  refine comp_it it_strA (by simp) (by decide) (fun i r => ∃ t, r = some (.str (S ((signsOf kc tl).getD i [])) t)) ?_ ?_
  · rintro c₂ lc X i v hs₂ hcl₂ o₂ hX hi ⟨d, td, hd, rfl⟩
    have hi4 : i < 4 := hi
    rw [abcd_get i hi4] at hd
    obtain rfl := Option.some.inj hd
    have C₂ := CHas.mono (by assumption) hX
    have mC := hX (C, listOf vsC.toArray epC) (by walk_at "M")
    have esg : (signsOf kc tl).getD i [] = if i = kc then (97 + i) :: tl else [97 + i] := by
      rw [List.getD_eq_getElem?_getD]; unfold signsOf; rw [List.getElem?_map, List.getElem?_range hi4]; rfl
    repeat walk_at "S"
    refine t_true ?_
    repeat walk_at "S"
    refine s_list mC (by decide) (by decide) hv9 ?_
    repeat walk_at "S"
    rw [hkc]
    refine s_str (by decide) (by simp only [List.length_cons, List.length_nil]; revert hkc4; walk_at "Z") (by simp only [List.length_cons, List.length_nil]; revert hkc4; walk_at "Z") (d := 97 + kc) (by rw [if_neg (Int.not_lt.mpr (Int.natCast_nonneg _)), Int.toNat_natCast]; exact abcd_get kc hkc4) fun t6 => ?_
    repeat walk_at "S"
    refine t_dec (fun g => ?_) (fun g => ?_)
    · have ek : i = kc := (abcd_nodup i hi4 kc hkc4).mp (decide_eq_true g)
      repeat walk_at "S"
      refine o_sadd (by have := htl5.1; show 1 + tl.length ≤ _; revert this; walk_at "Z") fun t7 => ?_
      exact ⟨by rw [esg, if_pos ek]; exact ⟨_, rfl⟩, fun _ h => h⟩
    · have ek : ¬ i = kc := fun e => g (by rw [e])
      repeat walk_at "S"
      exact ⟨by rw [esg, if_neg ek]; exact ⟨_, rfl⟩, fun _ h => h⟩
  intro SG sgv epS hpk hSG
  have hsg : Strs sgv (signsOf kc tl) := by
    have := hpk.strs (f := fun i => some ((signsOf kc tl).getD i [])) (fun i hi ⟨t, e⟩ => by cases e) (fun i y hi ⟨t, e⟩ => ⟨_, t, rfl, by cases e; rfl⟩)
    rw [show [97, 98, 99, 100].length = (signsOf kc tl).length from rfl, range_fm (signsOf kc tl) [] some] at this
    rwa [List.filterMap_some] at this
  clear hpk
  repeat walk_at "S"
  refine s_list (by walk_at "M") (by decide) (by decide) hv9 ?_
  repeat walk_at "S"
  refine o_pow (by decide) (by decide) fun t8 => ?_
  refine o_mod (by decide) fun t9' => ?_
  obtain ⟨fi, hfi, hfi2⟩ := fmod_ltN (z.fdiv 16) 1073741824 (by decide)
  have hfi : (z.fdiv 16).fmod (2 ^ (30 : Int).toNat) = (fi : Int) := hfi
  rw [hfi]
  have CO := CO0 fi hfi2
  repeat walk_at "S"
  refine t_assign ?_ (swaps_of hs (by rfl))
  repeat walk_at "S"
  refine a_range1 fun R0 t10 t11 t12 hR0 => ?_
  have hsz3 := size_up 3
  refine comp_it (it_range (.head _) (small_up (k := 3) (by decide)) hsz3) (by simp) (by decide) (fun i r => ∃ t, r = some (.str (S ((octsOf fi).getD i [])) t)) ?_ ?_
  · rintro c₂ lc X i v hs₂ hcl₂ o₂ hX hi ⟨td, rfl⟩
    have C₂ := CHas.mono (CHas.tail (by assumption)) hX
    have eog : (octsOf fi).getD i [] = octs (fi + 21 * i) := by
      rw [List.getD_eq_getElem?_getD]; unfold octsOf; rw [List.getElem?_map, List.getElem?_range hi]; rfl
    repeat walk_at "S"
    refine t_true ?_
    repeat walk_at "S"
    refine o_mul (.of_left (by decide)) fun t13 => ?_
    repeat walk_at "S"
    rw [show (fi : Int) + 21 * (0 + (i : Int) * 1) = ((fi + 21 * i : Nat) : Int) from by push_cast; rw [Int.zero_add, Int.mul_one]]
    refine f_octets (n := 10) (o₂.mono (by decide)) (by revert hfi2 hi; walk_at "Z") fun t14 => ?_
    exact ⟨by rw [eog]; exact ⟨_, rfl⟩, fun _ h => h⟩
  intro OC ocv epO2 hpk hOC
  have hoc : Strs ocv (octsOf fi) := by
    have := hpk.strs (f := fun i => some ((octsOf fi).getD i [])) (fun i hi ⟨t, e⟩ => by cases e) (fun i y hi ⟨t, e⟩ => ⟨_, t, rfl, by cases e; rfl⟩)
    rw [show 3 = (octsOf fi).length from rfl, range_fm (octsOf fi) [] some] at this
    rwa [List.filterMap_some] at this
  clear hpk
  repeat walk_at "S"
  refine ⟨by simp, fun TL hTL => ?_⟩
  repeat walk_at "S"
  refine f_new (n := 10) (o'.mono (by decide)) (ep := 0) (.head _) fun x dx N5 hx hdx hsub5 hI => ?_
  have hxTL : x ≠ TL := fun e => hx _ (.head _) e.symm
  have hdTL : dx ≠ TL := fun e => hdx _ (.head _) e.symm
  have mTL := hsub5 _ (.head _)
  have hsub5' := fun p hp => hsub5 p (.tail _ hp)
  have CH5 := CHas.mono (by assumption) hsub5'
  have K5 : KeepN (lawCl L) _ N5 := .of hsub5'
  clear hsub5 hsub5'
  have hSt5 : Stp (fixed TL N5) wsD sts := hSt.keep fun a its ep h => fixed_mem (by walk_at "M") rfl fun e => hTL _ (by walk_at "M" : (a, tupOf its ep) ∈ _) e
  obtain ⟨hsh, t19, J5⟩ := hI.ins
  have hI5 : HdrIs x dx TL (fixed TL N5) := ⟨hsh, t19, ⟨fixed_mem J5.ob rfl hxTL, fixed_mem J5.dict rfl hdTL⟩⟩
  have mC : (C, listOf vsC.toArray epC) ∈ fixed TL N5 := fixed_mem (by walk_at "M") rfl fun e => hTL _ (by walk_at "M" : (C, listOf vsC.toArray epC) ∈ _) e
  have mD : (D, listOf wsD.toArray epD) ∈ fixed TL N5 := fixed_mem (by walk_at "M") rfl fun e => hTL _ (by walk_at "M" : (D, listOf wsD.toArray epD) ∈ _) e
  have mO : (O, listOf os0.toArray epO) ∈ fixed TL N5 := fixed_mem (by walk_at "M") rfl fun e => hTL _ (by walk_at "M" : (O, listOf os0.toArray epO) ∈ _) e
  have mSG : (SG, listOf sgv.toArray epS) ∈ fixed TL N5 := fixed_mem (by walk_at "M") rfl fun e => hTL _ (by walk_at "M" : (SG, listOf sgv.toArray epS) ∈ _) e
  have mOC : (OC, listOf ocv.toArray epO2) ∈ fixed TL N5 := fixed_mem (by walk_at "M") rfl fun e => hTL _ (by walk_at "M" : (OC, listOf ocv.toArray epO2) ∈ _) e
  have hF5 := fixed_fx (a := TL) (N := N5)
  have hFT : Fresh TL (fixed TL N5) := wo_fresh
  generalize fixed TL N5 = FX at hSt5 hI5 mC mD mO mSG mOC hF5 hFT
  repeat walk_at "S"
  refine ⟨by simp, fun WL hWL => ?_⟩
  repeat walk_at "S"
  walk_at "F"
  repeat walk_at "S"
  refine a_range1 fun R1 t20 t21 t22 hR1 => ?_
  have hFW : Fresh WL FX := fun q hq e => hWL q (FXs.mem (by walk_at "X") hq) e
  have hTW : TL ≠ WL := fun e => hWL _ mTL e
  refine for_it o' (it_range (.head _) (small_up (k := 3) (by decide)) hsz3)
    (fun I i m' N' => And4 (Fresh I N') (FXs FX N') (CHas (lawCl L) N'
        [(Str.ofString "cells", .ref C), (Str.ofString "steps", .ref D), (Str.ofString "odd", .ref O), (Str.ofString "signs", .ref SG), (Str.ofString "first", .int fi t9'), (Str.ofString "octets", .ref OC)])
      (Ex4 fun hvs epT wvs epW => And5 ((TL, listOf hvs.toArray epT) ∈ N') (Prs N' hvs (tabOf sts (signsOf kc tl) (octsOf fi) i)) ((WL, listOf wvs.toArray epW) ∈ N') (Strs wvs (wordsOf sts (signsOf kc tl) i)) (Has m' [(Str.ofString "table", .ref x), (Str.ofString "words", .ref WL)]))) ?_ ?_ ?_ ?_
  · intro I hI'
    exact ⟨hI', by walk_at "X", by walk_at "K", [], _, _, _, .tail _ (.tail _ mTL), .nil, .tail _ (.head _), .cons _ _ .nil, by walk_at "H"⟩
  · rintro I i m' N' ⟨h1, _, _, _⟩
    exact ⟨by simp, h1⟩
  · rintro I oI i m1 N6 v hi ⟨hFI, hFX, hCH, hvs, epT, wvs, epW, hTm, hTP, hWm, hWS, hL⟩ ⟨tv, rfl⟩ _ _
    have nI : ∀ y a, (lawCl L).lookup y = some a → a ≠ I := fun y a e => by obtain ⟨ob, v, h1, _⟩ := hCH.all y a e; exact hFI _ h1
    have hTI : TL ≠ I := hFI _ hTm
    have hWI : WL ≠ I := hFI _ hWm
    have hFXI : Fresh I FX := fun q hq => hFI _ (hFX.mem hq)
    have ei : (0 : Int) + (i : Int) * 1 = (i : Int) := by walk_at "Z"
    rw [ei]
    have hi3 : i < 3 := hi
    repeat walk_at "S"
    refine a_range1 fun R2 t23 t24 t25 hR2 => ?_
    have hsz5 := size_up 5
    refine comp_it (it_range (.head _) (small_up (k := 5) (by decide)) hsz5) (by simp) (by decide) (fun g r => ∃ t, r = some (.str (S ((rowNames i).getD g [])) t)) ?_ ?_
    · rintro c₂ lc X g v hs₂ hcl₂ o₂ hX hg ⟨td, rfl⟩
      have C₂ := CHas.mono (CHas.tail (by assumption)) hX
      have hg5 : g < 5 := hg
      have eng : (rowNames i).getD g [] = [112 + i, 48 + g] := by
        rw [List.getD_eq_getElem?_getD]; unfold rowNames; rw [List.getElem?_map, List.getElem?_range hg5]; rfl
      repeat walk_at "S"
      refine t_true ?_
      repeat walk_at "S"
      refine s_str (by decide) (by simp only [List.length_cons, List.length_nil]; revert hi3; walk_at "Z") (by simp only [List.length_cons, List.length_nil]; revert hi3; walk_at "Z") (d := 112 + i) (by rw [if_neg (Int.not_lt.mpr (Int.natCast_nonneg _)), Int.toNat_natCast]; exact pqr_get i hi3) fun t26 => ?_
      repeat walk_at "S"
      rw [show (0 : Int) + (g : Int) * 1 = (g : Int) from by walk_at "Z"]
      refine a_strint (log_small (Int.natCast_nonneg _) (by revert hg5; walk_at "Z")) fun t27 => ?_
      rw [str_digit (Int.natCast_nonneg _) (by revert hg5; walk_at "Z"), Int.toNat_natCast]
      refine o_sadd (by show 2 ≤ 16777216; decide) fun t28 => ?_
      exact ⟨by rw [eng]; exact ⟨_, rfl⟩, fun _ h => h⟩
    intro NM nmv epN hpk hNM
    have hnm5 : Strs nmv (rowNames i) := by
      have := hpk.strs (f := fun g => some ((rowNames i).getD g [])) (fun i hi ⟨t, e⟩ => by cases e) (fun i y hi ⟨t, e⟩ => ⟨_, t, rfl, by cases e; rfl⟩)
      rw [show 5 = (rowNames i).length from rfl, range_fm (rowNames i) [] some] at this
      rwa [List.filterMap_some] at this
    clear hpk
    repeat walk_at "S"
    refine f_marked (n := 10) (o'.mono (by decide)) (by walk_at "M") hsg (.head _) hnm5 (by walk_at "M") hos (by show 4 ≤ 10; decide) (by show 5 ≤ 10; decide) (signs_len htl5.1) fun t29 => ?_
    have hRlen := RO.len i hi3
    have hRcl := RO.closed i hi3
    have hRst := RO.strip i hi3
    have hRlev := RO.lev i hi3
    rw [show (rowNames i).length = 5 from rfl]
    obtain ⟨tx, htx⟩ : ∃ tx, tx = textR (signsOf kc tl) os i := ⟨_, rfl⟩
    rw [← htx] at hRlen hRcl hRst hRlev
    rw [show markT (signsOf kc tl) (rowNames i) os 5 = tx from htx.symm]
    repeat walk_at "S"
    refine f_strip (n := 10) (o'.mono (by decide)) (Nat.le_trans hRlen.1 (by decide)) hRcl fun t30 => ?_
    obtain ⟨lf, hlf⟩ : ∃ lf, lf = leftR sts (signsOf kc tl) i := ⟨_, rfl⟩
    rw [hRst, ← hlf]
    rw [← hlf] at hRlen hRlev
    repeat walk_at "S"
    refine a_range1 fun R3 t31 t32 t33 hR3 => ?_
    have hsz4 := size_up 4
    refine comp_it (it_range (.head _) (small_up (k := 4) (by decide)) hsz4) (by simp) (by decide) (fun g r => if outB sts g i = true then ∃ t, r = some (.str (S ((signsOf kc tl).getD g [])) t) else r = none) ?_ ?_
    · rintro c₂ lc X g v hs₂ hcl₂ o₂ hX hg ⟨td, rfl⟩
      have C₂ := CHas.mono (CHas.tail (by assumption)) hX
      have hg4 : g < 4 := hg
      have F₂ : FXs FX X := FXs.mono (by walk_at "X") hX
      rw [show (0 : Int) + (g : Int) * 1 = (g : Int) from by walk_at "Z"]
      repeat walk_at "S"
      refine f_outside (n := 10) (o₂.mono (by decide)) (by walk_at "M") (hSt5.mono0 fun _ hp => F₂.mem hp) hlen (fun q hq => (hnm q hq).len) hg4 hi3 ?_
      repeat walk_at "S"
      refine t_dec (fun g1 => ?_) (fun g1 => ?_)
      · have eo : outB sts g i = true := decide_eq_true g1
        obtain ⟨t34, hv34⟩ := hsg.get (y := (signsOf kc tl).getD g []) (i := g) (by rw [List.getD_eq_getElem?_getD, List.getElem?_eq_getElem (show g < (signsOf kc tl).length from hg4)]; rfl)
        repeat walk_at "S"
        refine s_list (by walk_at "M") (Int.natCast_nonneg _) (by revert hg4; walk_at "Z") hv34 ?_
        exact ⟨by rw [if_pos eo]; exact ⟨_, rfl⟩, fun _ h => h⟩
      · have eo : ¬ outB sts g i = true := fun e => g1 (of_decide_eq_true e)
        exact ⟨by rw [if_neg eo], fun _ h => h⟩
    intro JL jlv epJ hpk hJL
    have hjl : Strs jlv (((List.range 4).filter fun c => outB sts c i).map fun c => (signsOf kc tl).getD c []) := by
      have := hpk.strs (f := fun g => if outB sts g i = true then some ((signsOf kc tl).getD g []) else none) (fun g hg hr => by
        by_cases q : outB sts g i = true
        · rw [if_pos q] at hr; obtain ⟨t, e⟩ := hr; cases e
        · rw [if_neg q]) (fun g y hg hr => by
        by_cases q : outB sts g i = true
        · rw [if_pos q] at hr ⊢; obtain ⟨t, e⟩ := hr; cases e; exact ⟨_, t, rfl, rfl⟩
        · rw [if_neg q] at hr; cases hr)
      rwa [fm_filter] at this
    clear hpk
    repeat walk_at "S"
    refine a_join (.head _) hjl (by show (leftR sts (signsOf kc tl) i).length ≤ _; rw [← hlf]; exact Nat.le_trans hRlen.2.2.1 (by decide)) fun t35 => ?_
    rw [show (((List.range 4).filter fun c => outB sts c i).map fun c => (signsOf kc tl).getD c []).flatten = lf from hlf.symm]
    repeat walk_at "S"
    refine t_dec (fun g => absurd rfl g) (fun _ => ?_)
    repeat walk_at "S"
    refine a_lens (x := tx) (Nat.le_trans hRlen.1 (by decide)) fun t36 => ?_
    repeat walk_at "S"
    refine a_lens (x := lf) (Nat.le_trans hRlen.2.2.1 (by decide)) fun t37 => ?_
    repeat walk_at "S"
    refine o_mul (.of_left (by decide)) fun t38 => ?_
    obtain ⟨gone, hgone⟩ : ∃ gone : Int, gone = 2 * ((tx.length : Int) - (lf.length : Int)) := ⟨_, rfl⟩
    rw [← hgone] at hRlev ⊢
    repeat walk_at "S"
    refine s_list (by walk_at "M") (by decide) (by decide) hv9 ?_
    repeat walk_at "S"
    obtain ⟨kd, hkd, hkd3⟩ := fmod_ltN z 3 (by decide)
    have hkd : z.fmod 3 = (kd : Int) := hkd
    rw [hkd]
    refine f_lev (n := 10) (o'.mono (by decide)) hRlen.2.1 hRlen.2.2.2 hRlen.1 hRlen.2.2.1 fun t39 => ?_
    rw [hRlev kd hkd3]
    repeat walk_at "S"
    refine t_dec (fun g => absurd rfl g) (fun _ => ?_)
    repeat walk_at "S"
    walk_at "F"
    repeat walk_at "S"
    refine for_it o' it_strA (fun I2 j m' N' => And6 (Fresh I2 N') (FXs FX N') (CHas (lawCl L) N' [(Str.ofString "cells", .ref C), (Str.ofString "steps", .ref D), (Str.ofString "odd", .ref O), (Str.ofString "signs", .ref SG), (Str.ofString "first", .int fi t9'), (Str.ofString "octets", .ref OC), (Str.ofString "row", .int (i : Int) tv), (Str.ofString "left", .str (S lf) t30)])
      ((I, oI) ∈ N') ((WL, listOf wvs.toArray epW) ∈ N') (Ex2 fun hv2 epT2 => And3 ((TL, listOf hv2.toArray epT2) ∈ N') (Prs (wo I N') hv2 (tabOf sts (signsOf kc tl) (octsOf fi) i ++ tabPart lf i (octsOf fi) j)) (Has m' [(Str.ofString "table", .ref x), (Str.ofString "words", .ref WL)]))) ?_ ?_ ?_ ?_
    · intro I2 hI2
      refine ⟨hI2, by walk_at "X", by walk_at "K", by walk_at "M", by walk_at "M", hvs, epT, by walk_at "M", ?_, by walk_at "H"⟩
      rw [show tabPart lf i (octsOf fi) 0 = [] from rfl, List.append_nil]
      exact hTP.keepT fun a its ep h => wo_mem (by walk_at "M") (hFI _ h)
    · rintro I2 j m' N' ⟨h1, _, _, _, _, _⟩
      exact ⟨by simp, h1⟩
    · rintro I2 oI2 j m2 N7 v hj ⟨hF2, hFX2, hCH2, hIm, hWm2, hv2, epT2, hTm2, hTP2, hL2⟩ ⟨d, td, hd, rfl⟩ _ _
      have hj4 : j < 4 := hj
      rw [abcd_get j hj4] at hd
      obtain rfl := Option.some.inj hd
      refine TW.uniq fun hu => ?_
      have hv2len : hv2.length ≤ 1000000 := by
        have h1 := hTP2.len
        have h2 := tabOf_len sts (signsOf kc tl) (octsOf fi) i
        have h3 := tabPart_len lf i (octsOf fi) j
        rw [List.length_append] at h1
        revert h1 h2 h3 hi3 hj4; walk_at "Z"
      have hF2c : HdrIs x dx TL N7 := hI5.of (fun _ h => hFX2.mem h) (fun _ h => hFX2.mem h)
      obtain ⟨hsh7, t40, J7⟩ := hF2c.ins
      have hnm1 : NameOk [97 + j] := ⟨fun d hd => by rw [List.mem_singleton] at hd; subst hd; revert hj4; walk_at "Z", fun d hd => by rw [List.mem_singleton] at hd; subst hd; revert hj4; walk_at "Z", by show 1 ≤ 2; decide⟩
      have hnm2 := sized_ok (i := (i : Int)) hnm1
      have hoct : (octsOf fi).getD i [] = octs (fi + 21 * i) := by
        rw [List.getD_eq_getElem?_getD]; unfold octsOf; rw [List.getElem?_map, List.getElem?_range hi3]; rfl
      obtain ⟨t41, hv41⟩ := hoc.get (y := (octsOf fi).getD i []) (i := i) (by rw [List.getD_eq_getElem?_getD, List.getElem?_eq_getElem (show i < (octsOf fi).length from hi3)]; rfl)
      repeat walk_at "S"
      refine o_in1 ?_
      repeat walk_at "S"
      refine t_dec (fun g => ?_) (fun g => ?_)
      · repeat walk_at "S"
        refine m_inst o' J7.tail (by rfl) (by rfl) (by rfl) (by rfl) ?_
        repeat walk_at "S"
        refine f_sized (n := 10) (o'.mono (by decide)) hnm1.1 (by show 1 ≤ 16777216; decide) fun t42 => ?_
        repeat walk_at "S"
        refine s_list (by walk_at "M") (Int.natCast_nonneg _) (by revert hi3; walk_at "Z") hv41 ?_
        repeat walk_at "S"
        rw [hoct]
        refine f_add (n := 10) (o'.mono (by decide)) (hF2c.of (fun _ h => .tail _ h) (fun _ h => .tail _ h)) (.tail _ hTm2) hnm2.2.1 (octs_ctl _) (Nat.le_trans hnm2.2.2 (by decide)) (Nat.le_trans (octs_ok _).2 (by decide)) hv2len fun T3 t43 ep7 ep8 hT3 => ?_
        have hT3TL : T3 ≠ TL := fun e => hT3 _ (.tail _ hTm2) e.symm
        have hT3I2 : T3 ≠ I2 := fun e => hT3 _ (.head _) e.symm
        have hT3I : T3 ≠ I := fun e => hT3 _ (.tail _ hIm) e.symm
        have hI2TL : I2 ≠ TL := fun e => hF2 _ hTm2 e.symm
        have hu7 := fun a o o' h1 h2 => hu a o o' (.tail _ h1) (.tail _ h2)
        rw [put_tail hT3TL, put_tail hI2TL]
        repeat walk_at "S"
        refine t_neg (by rfl) ?_
        refine t_false ?_
        repeat walk_at "S"
        refine ⟨(T3, tupOf [Value.str (S (sized [97 + j] (i : Int))) t42, .str (S (octs (fi + 21 * i))) t43].toArray ep8) :: put TL (listOf (hv2 ++ [Value.ref T3]).toArray ep7) N7, fun p hp => ?_, ?_, (hFX2.put hFT).tail, CHas.tail ?_, .tail _ (put_other hIm (Ne.symm hTI)), .tail _ (put_other hWm2 (Ne.symm hTW)), hv2 ++ [.ref T3], ep7, .tail _ (put_mem hTm2), ?_, by walk_at "H"⟩
        · rcases List.mem_cons.mp hp with rfl | hp
          · exact .tail _ (.head _)
          · rcases List.mem_cons.mp hp with rfl | hp
            · exact .head _
            · exact .tail _ (.tail _ hp)
        · intro p hp
          rcases List.mem_cons.mp hp with rfl | hp
          · exact hT3I2
          · exact put_dom hF2 p hp
        · exact CHas.putO (by walk_at "K") hTm2 rfl hu7
        · rw [tabPart_in g, ← List.append_assoc, hoct]
          exact (hTP2.keepT fun a its ep h => wo_mem (.tail _ (put_other (wo_sub h) fun e => by
            have e : a = TL := e
            subst e
            exact tup_list (congrArg (·.cls) (hu7 _ _ _ (wo_sub h) hTm2)))) (wo_fresh _ h)).snoc (wo_mem (.head _) hT3I)
      · repeat walk_at "S"
        refine t_false ?_
        repeat walk_at "S"
        refine ⟨N7, fun _ h => h, hF2, hFX2, by walk_at "K", hIm, hWm2, hv2, epT2, hTm2, ?_, by walk_at "H"⟩
        rw [tabPart_out g]; exact hTP2
    · rintro I2 m2 N8 ⟨hF2, hFX2, hCH2, hIm, hWm2, hv2, epT2, hTm2, hTP2, hL2⟩
      refine TW.uniq fun hu8 => ?_
      have hwvl := hWS.len
      have hwol := wordsOf_len sts (signsOf kc tl) i
      repeat walk_at "S"
      refine m_append hWm2 rfl rfl ?_
      repeat walk_at "S"
      refine comp_it it_strA (by simp) (by decide) (fun g r => ∃ t, r = some (.str (S (((List.range 4).map fun c => [if 97 + c ∈ lf then 97 + c else 65 + c]).getD g [])) t)) ?_ ?_
      · rintro c₂ lc X g v hs₂ hcl₂ o₂ hX hg ⟨d, td, hd, rfl⟩
        have hg4 : g < 4 := hg
        rw [abcd_get g hg4] at hd
        obtain rfl := Option.some.inj hd
        have C₂ := CHas.mono (by assumption) hX
        have eg : ((List.range 4).map fun c => [if 97 + c ∈ lf then 97 + c else 65 + c]).getD g [] = [if 97 + g ∈ lf then 97 + g else 65 + g] := by
          rw [List.getD_eq_getElem?_getD, List.getElem?_map, List.getElem?_range hg4]; rfl
        repeat walk_at "S"
        refine t_true ?_
        repeat walk_at "S"
        refine o_in1 ?_
        repeat walk_at "S"
        refine t_dec (fun g1 => ?_) (fun g1 => ?_)
        · repeat walk_at "S"
          exact ⟨by rw [eg, if_pos g1]; exact ⟨_, rfl⟩, fun _ h => h⟩
        · repeat walk_at "S"
          refine a_upper (fun d hd => by rw [List.mem_singleton] at hd; subst hd; revert hg4; walk_at "Z") (by show 1 ≤ 16777216; decide) fun t44 => ?_
          exact ⟨by rw [eg, if_neg g1, show [97 + g].map up1 = [65 + g] from up_letter g hg4]; exact ⟨_, rfl⟩, fun _ h => h⟩
      intro JW jwv epW2 hpk hJW
      have hjw : Strs jwv ((List.range 4).map fun c => [if 97 + c ∈ lf then 97 + c else 65 + c]) := by
        have := hpk.strs (f := fun g => some (((List.range 4).map fun c => [if 97 + c ∈ lf then 97 + c else 65 + c]).getD g [])) (fun i hi ⟨t, e⟩ => by cases e) (fun i y hi ⟨t, e⟩ => ⟨_, t, rfl, by cases e; rfl⟩)
        rw [show [97, 98, 99, 100].length = ((List.range 4).map fun c => [if 97 + c ∈ lf then 97 + c else 65 + c]).length from rfl, range_fm _ [] some] at this
        rwa [List.filterMap_some] at this
      clear hpk
      repeat walk_at "S"
      refine a_join (.head _) hjw (by rw [wordR_join]; show 4 ≤ 16777216; decide) fun t45 => ?_
      rw [wordR_join]
      repeat walk_at "S"
      refine a_append (.tail _ hWm2) (by revert hwvl hwol hi3; walk_at "Z") fun ep9 => ?_
      have hJWW : JW ≠ WL := fun e => hJW _ hWm2 e.symm
      rw [put_tail hJWW]
      refine ⟨trivial, ?_⟩
      repeat walk_at "S"
      have hIW : I ≠ WL := Ne.symm hWI
      refine ⟨wo I (put WL (listOf (wvs ++ [Value.str (S (wordR lf)) t45]).toArray ep9) N8), fun p hp => .tail _ (wo_all (put_other hIm hIW) p hp), wo_fresh, (hFX2.put hFW).wo hFXI, CHas.wo2 (CHas.putO (by walk_at "K") hWm2 rfl hu8) nI, hv2, epT2, wvs ++ [.str (S (wordR lf)) t45], ep9, wo_mem (put_other hTm2 hTW) hTI, ?_, wo_mem (put_mem hWm2) hWI, ?_, by walk_at "H"⟩
      · show Prs _ hv2 (tabOf sts (signsOf kc tl) (octsOf fi) i ++ tabRow (leftR sts (signsOf kc tl) i) i (octsOf fi))
        rw [← hlf]
        exact hTP2.keepT fun a its ep h => wo_mem (put_other (wo_sub h) fun e => by
          have e : a = WL := e
          subst e
          exact tup_list (congrArg (·.cls) (hu8 _ _ _ (wo_sub h) hWm2))) (wo_fresh _ h)
      · show Strs _ (wordsOf sts (signsOf kc tl) i ++ [wordR (leftR sts (signsOf kc tl) i)])
        rw [← hlf]
        exact hWS.snoc _ _
  · rintro I m' N' ⟨hFI, hFX, hCH, hvs, epT, wvs, epW, hTm, hTP, hWm, hWS, hL⟩
    have hwvl := hWS.len
    have hwol := wordsOf_len sts (signsOf kc tl) 3
    have hTIa : TL ≠ I := hFI _ hTm
    refine TW.uniq fun hu9 => ?_
    repeat walk_at "S"
    refine m_append hWm rfl rfl ?_
    repeat walk_at "S"
    refine a_append hWm (by rw [hwvl, hwol]; decide) fun ep10 => ?_
    refine ⟨trivial, ?_⟩
    have hWS2 : ∀ t, Strs (wvs ++ [Value.str (S [97, 98, 99, 100]) t]) (wordsAll sts (signsOf kc tl)) := fun t => hWS.snoc _ t
    generalize hwv2 : wvs ++ [Value.str (S [97, 98, 99, 100]) _] = wv2
    have hWS3 : Strs wv2 (wordsAll sts (signsOf kc tl)) := by rw [← hwv2]; exact hWS2 _
    clear hwv2 hWS2 hWS hwvl hwol
    obtain ⟨N9, hN9⟩ : ∃ N9, N9 = put WL (listOf wv2.toArray ep10) N' := ⟨_, rfl⟩
    rw [← hN9]
    have hFX9 : FXs FX N9 := by rw [hN9]; exact hFX.put hFW
    have hCH9 := CHas.putO (o' := listOf wv2.toArray ep10) hCH hWm rfl hu9
    rw [← hN9] at hCH9
    have hW9 : (WL, listOf wv2.toArray ep10) ∈ N9 := by rw [hN9]; exact put_mem hWm
    have hT9 : (TL, listOf hvs.toArray epT) ∈ N9 := by rw [hN9]; exact put_other hTm hTW
    have hP9 : Prs N9 hvs (tabOf sts (signsOf kc tl) (octsOf fi) 3) := by
      rw [hN9]
      exact hTP.keepT fun a its ep h => put_other h fun e => by
        have e : a = WL := e
        subst e
        exact tup_list (congrArg (·.cls) (hu9 _ _ _ h hWm))
    clear hN9 hCH hFX hTP hTm hu9 hFI hWm
    repeat walk_at "S"
    walk_at "F"
    repeat walk_at "S"
    refine a_range1 fun R5 t50 t51 t52 hR5 => ?_
    have hsz4 := size_up 4
    have hd4 : 4 = (wordsAll sts (signsOf kc tl)).length - 1 := by unfold wordsAll; rw [List.length_append, wordsOf_len]; rfl
    refine for_it o' (it_range (.head _) (small_up (k := 4) (by decide)) hsz4)
      (fun I i m' N' => And6 (Fresh I N') (FXs FX N') (CHas (lawCl L) N' [(Str.ofString "cells", .ref C), (Str.ofString "steps", .ref D), (Str.ofString "odd", .ref O), (Str.ofString "first", .int fi t9'), (Str.ofString "octets", .ref OC)])
        ((WL, listOf wv2.toArray ep10) ∈ N') ((TL, listOf hvs.toArray epT) ∈ N') (Prs N' hvs (tabOf sts (signsOf kc tl) (octsOf fi) 3) ∧ Has m' [(Str.ofString "table", .ref x), (Str.ofString "words", .ref WL)])) ?_ ?_ ?_ ?_
    · intro I2 hI2
      exact ⟨hI2, by walk_at "X", by walk_at "K", .tail _ hW9, .tail _ hT9, hP9.mono fun _ h => .tail _ h, by walk_at "H"⟩
    · rintro I2 i m' N' ⟨h1, _, _, _, _, _⟩
      exact ⟨by simp, h1⟩
    · rintro I2 oI2 lv m2 N10 v hlv ⟨hF2, hFX2, hCH2, hW2, hT2, hP2, hL2⟩ ⟨tlv, rfl⟩ _ _
      have nI2 : ∀ y a, (lawCl L).lookup y = some a → a ≠ I2 := fun y a e => by obtain ⟨ob, v, h1, _⟩ := hCH2.all y a e; exact hF2 _ h1
      have hlv4 : lv < 4 := hlv
      rw [show (0 : Int) + (lv : Int) * 1 = (lv : Int) from by walk_at "Z"]
      repeat walk_at "S"
      refine comp_it it_strA (by simp) (by decide) (fun g r => if decide ([97 + g, 48 + lv] ∈ os) = true then ∃ t, r = some (.str (S [97 + g]) t) else r = none) ?_ ?_
      · rintro c₂ lc X g v hs₂ hcl₂ o₂ hX hg ⟨d, td, hd, rfl⟩
        have hg4 : g < 4 := hg
        rw [abcd_get g hg4] at hd
        obtain rfl := Option.some.inj hd
        have C₂ := CHas.mono (by assumption) hX
        have F₂ : FXs FX X := FXs.mono (by walk_at "X") hX
        repeat walk_at "S"
        refine a_strint (log_small (Int.natCast_nonneg _) (by revert hlv4; walk_at "Z")) fun t53 => ?_
        rw [str_digit (Int.natCast_nonneg _) (by revert hlv4; walk_at "Z"), Int.toNat_natCast]
        refine o_sadd (by show 2 ≤ 16777216; decide) fun t54 => ?_
        repeat walk_at "S"
        refine o_inS (by walk_at "M") hos ?_
        repeat walk_at "S"
        refine t_dec (fun g1 => ?_) (fun g1 => ?_)
        · have g1' : [97 + g, 48 + lv] ∈ os := g1
          repeat walk_at "S"
          exact ⟨by rw [if_pos (decide_eq_true g1')]; exact ⟨_, rfl⟩, fun _ h => h⟩
        · have g1' : ¬ [97 + g, 48 + lv] ∈ os := g1
          exact ⟨by rw [if_neg (by rw [decide_eq_false g1']; exact Bool.false_ne_true)], fun _ h => h⟩
      intro DL dlv epD2 hpk hDL
      have hdl : Strs dlv (((List.range 4).filter fun g => decide ([97 + g, 48 + lv] ∈ os)).map fun g => [97 + g]) := by
        have := hpk.strs (f := fun g => if decide ([97 + g, 48 + lv] ∈ os) = true then some [97 + g] else none) (fun g hg hr => by
          by_cases q : decide ([97 + g, 48 + lv] ∈ os) = true
          · rw [if_pos q] at hr; obtain ⟨t, e⟩ := hr; cases e
          · rw [if_neg q]) (fun g y hg hr => by
          by_cases q : decide ([97 + g, 48 + lv] ∈ os) = true
          · rw [if_pos q] at hr ⊢; obtain ⟨t, e⟩ := hr; cases e; exact ⟨_, t, rfl, rfl⟩
          · rw [if_neg q] at hr; cases hr)
        rwa [fm_filter] at this
      have hdll := hdl.len
      rw [List.length_map] at hdll
      clear hpk
      have hdue : dueL os lv ≤ 4 := Nat.le_trans (List.length_filter_le _ _) (Nat.le_of_eq List.length_range)
      repeat walk_at "S"
      refine a_len (.head _) (by rw [hdll]; exact Nat.le_trans hdue (by decide)) fun t55 => ?_
      rw [show dlv.length = dueL os lv from hdll]
      repeat walk_at "S"
      refine s_list (by walk_at "M") (by decide) (by decide) hv9 ?_
      repeat walk_at "S"
      refine o_mod (by revert hdue; walk_at "Z") fun t56 => ?_
      obtain ⟨bk, hbk, hbk2⟩ := fmod_ltN z (dueL os lv + 2) (Nat.succ_pos _)
      rw [show z.fmod ((dueL os lv : Int) + 2) = (bk : Int) from hbk]
      have hwa := RO.words lv hlv4 bk hbk2
      obtain ⟨t57, hv57⟩ := hWS3.get (y := (wordsAll sts (signsOf kc tl)).getD lv []) (i := lv) (by rw [List.getD_eq_getElem?_getD, List.getElem?_eq_getElem (show lv < (wordsAll sts (signsOf kc tl)).length by revert hd4 hlv4; walk_at "Z")]; rfl)
      obtain ⟨t58, hv58⟩ := hWS3.get (y := (wordsAll sts (signsOf kc tl)).getD (lv + 1) []) (i := lv + 1) (by rw [List.getD_eq_getElem?_getD, List.getElem?_eq_getElem (show lv + 1 < (wordsAll sts (signsOf kc tl)).length by revert hd4 hlv4; walk_at "Z")]; rfl)
      have hw1 := RO.worda ((wordsAll sts (signsOf kc tl)).getD lv []) (by rw [List.getD_eq_getElem?_getD, List.getElem?_eq_getElem (show lv < (wordsAll sts (signsOf kc tl)).length by revert hd4 hlv4; walk_at "Z")]; exact List.getElem_mem _)
      have hw2 := RO.worda ((wordsAll sts (signsOf kc tl)).getD (lv + 1) []) (by rw [List.getD_eq_getElem?_getD, List.getElem?_eq_getElem (show lv + 1 < (wordsAll sts (signsOf kc tl)).length by revert hd4 hlv4; walk_at "Z")]; exact List.getElem_mem _)
      repeat walk_at "S"
      refine s_list (by walk_at "M") (Int.natCast_nonneg _) (by revert hlv4; walk_at "Z") hv57 ?_
      repeat walk_at "S"
      refine s_list (by walk_at "M") (by walk_at "Z") (by revert hlv4; walk_at "Z") (by rw [show ((lv : Int) + 1).toNat = lv + 1 from rfl]; exact hv58) ?_
      repeat walk_at "S"
      refine f_lev (n := 10) (o'.mono (by decide)) hw1.1 hw2.1 hw1.2 hw2.2 fun t59 => ?_
      rw [hwa]
      repeat walk_at "S"
      refine a_type (T := "int") (fun s N' => rfl) (by decide) ?_
      repeat walk_at "S"
      refine o_isnottype ?_
      repeat walk_at "S"
      refine t_neg (by rfl) ?_
      repeat walk_at "S"
      refine a_min o' fun t60 => ?_
      repeat walk_at "S"
      refine t_dec (fun g => absurd rfl g) (fun _ => ?_)
      repeat walk_at "S"
      refine t_false ?_
      repeat walk_at "S"
      refine ⟨wo I2 _, fun p hp => .tail _ (wo_all (by walk_at "M") p hp), wo_fresh, FXs.wo (by walk_at "X") (fun q hq => hF2 _ (hFX2.mem hq)), CHas.wo2 (by walk_at "K") nI2, wo_mem (by walk_at "M") (hF2 _ hW2), wo_mem (by walk_at "M") (hF2 _ hT2), hP2.keepT (fun a its ep h => wo_mem (by walk_at "M") (hF2 _ h)), by walk_at "H"⟩
    · rintro I2 m2 N10 ⟨hF2, hFX2, hCH2, hW2, hT2, hP2⟩
      have hL2 := hP2.2
      repeat walk_at "S"
      walk_at "F"
      repeat walk_at "S"
      refine a_range1 fun R6 t61 t62 t63 hR6 => ?_
      refine for_it o' (it_range (.head _) (small_up (k := 4) (by decide)) hsz4)
        (fun I i m' N' => And5 (Fresh I N') (FXs FX N') (CHas (lawCl L) N' [(Str.ofString "steps", .ref D), (Str.ofString "odd", .ref O), (Str.ofString "first", .int fi t9'), (Str.ofString "octets", .ref OC)])
          ((TL, listOf hvs.toArray epT) ∈ N') (Prs N' hvs (tabOf sts (signsOf kc tl) (octsOf fi) 3) ∧ Has m' [(Str.ofString "table", .ref x)])) ?_ ?_ ?_ ?_
      · intro I3 hI3
        exact ⟨hI3, by walk_at "X", by walk_at "K", .tail _ hT2, hP2.1.mono fun _ h => .tail _ h, by walk_at "H"⟩
      · rintro I3 i m' N' ⟨h1, _, _, _, _⟩
        exact ⟨by simp, h1⟩
      · rintro I3 oI3 k m3 N11 v hk ⟨hF3, hFX3, hCH3, hT3, hP3, hL3⟩ ⟨tk, rfl⟩ _ _
        have nI3 : ∀ y a, (lawCl L).lookup y = some a → a ≠ I3 := fun y a e => by obtain ⟨ob, v, h1, _⟩ := hCH3.all y a e; exact hF3 _ h1
        have hk4 : k < 4 := hk
        rw [show (0 : Int) + (k : Int) * 1 = (k : Int) from by walk_at "Z"]
        repeat walk_at "S"
        refine t_compH o' hs hcl (by rfl) (by rfl) (by rfl) (by rfl) (by intro _; rfl) (swaps_of hs (by rfl)) (by rfl) ?_
        repeat walk_at "S"
        refine a_range1 fun R7 t64 t65 t66 hR7 => ⟨_, by with_reducible assumption, ?_⟩
        refine comp_it (it_range (.head _) (small_up (k := 4) (by decide)) hsz4) (by simp) (by decide) (fun g r => ∃ t, r = some (.str (S ((colNames k).getD g [])) t)) ?_ ?_
        · rintro c₂ lc X g v hs₂ hcl₂ o₂ hX hg ⟨td, rfl⟩
          have C₂ := CHas.mono (CHas.tail (by assumption)) hX
          have hg4 : g < 4 := hg
          have eng : (colNames k).getD g [] = [97 + k, 48 + g] := by
            rw [List.getD_eq_getElem?_getD]; unfold colNames; rw [List.getElem?_map, List.getElem?_range hg4]; rfl
          repeat walk_at "S"
          refine t_true ?_
          repeat walk_at "S"
          refine s_str (by decide) (by simp only [List.length_cons, List.length_nil]; revert hk4; walk_at "Z") (by simp only [List.length_cons, List.length_nil]; revert hk4; walk_at "Z") (d := 97 + k) (by rw [if_neg (Int.not_lt.mpr (Int.natCast_nonneg _)), Int.toNat_natCast]; exact abcd_get k hk4) fun t67 => ?_
          repeat walk_at "S"
          rw [show (0 : Int) + (g : Int) * 1 = (g : Int) from by walk_at "Z"]
          refine a_strint (log_small (Int.natCast_nonneg _) (by revert hg4; walk_at "Z")) fun t68 => ?_
          rw [str_digit (Int.natCast_nonneg _) (by revert hg4; walk_at "Z"), Int.toNat_natCast]
          refine o_sadd (by show 2 ≤ 16777216; decide) fun t69 => ?_
          exact ⟨by rw [eng]; exact ⟨_, rfl⟩, fun _ h => h⟩
        intro NC ncv epN2 hpk hNC m4 hL4
        have hnc : Strs ncv (colNames k) := by
          have := hpk.strs (f := fun g => some ((colNames k).getD g [])) (fun i hi ⟨t, e⟩ => by cases e) (fun i y hi ⟨t, e⟩ => ⟨_, t, rfl, by cases e; rfl⟩)
          rw [show 4 = (colNames k).length from rfl, range_fm (colNames k) [] some] at this
          rwa [List.filterMap_some] at this
        clear hpk
        repeat walk_at "S"
        refine f_marked (n := 10) (o'.mono (by decide)) (by walk_at "M") hoc (.head _) hnc (by walk_at "M") hos (by show 3 ≤ 10; decide) (by show 4 ≤ 10; decide) (octs_len fi) fun t70 => ?_
        have hCcl := CO.closed k hk4
        have hCln := CO.len k hk4
        have hCst := CO.strip k hk4
        have hCall := CO.all k hk4
        obtain ⟨cx, hcx⟩ : ∃ cx, cx = colText (octsOf fi) os k := ⟨_, rfl⟩
        rw [← hcx] at hCcl hCln hCst
        rw [show markT (octsOf fi) (colNames k) os (colNames k).length = cx from hcx.symm]
        repeat walk_at "S"
        refine f_strip (n := 10) (o'.mono (by decide)) (Nat.le_trans hCln (by decide)) hCcl fun t71 => ?_
        obtain ⟨to, hto⟩ : ∃ to, to = toldC sts (octsOf fi) k := ⟨_, rfl⟩
        rw [hCst, ← hto]
        rw [← hto] at hCall
        repeat walk_at "S"
        obtain ⟨hshF, tF, JF⟩ := hI5.ins
        have hnk : NameOk [97 + k] := ⟨fun d hd => by rw [List.mem_singleton] at hd; subst hd; revert hk4; walk_at "Z", fun d hd => by rw [List.mem_singleton] at hd; subst hd; revert hk4; walk_at "Z", by show 1 ≤ 2; decide⟩
        have hnk2 := sized_ok (i := (k : Int)) hnk
        have hplen3 := tabOf_len sts (signsOf kc tl) (octsOf fi) 3
        refine m_inst o' ⟨FXs.mem (by walk_at "X") JF.ob, FXs.mem (by walk_at "X") JF.dict⟩ (by rfl) (by rfl) (by rfl) (by rfl) ?_
        repeat walk_at "S"
        refine s_str (by decide) (by simp only [List.length_cons, List.length_nil]; revert hk4; walk_at "Z") (by simp only [List.length_cons, List.length_nil]; revert hk4; walk_at "Z") (d := 97 + k) (by rw [if_neg (Int.not_lt.mpr (Int.natCast_nonneg _)), Int.toNat_natCast]; exact abcd_get k hk4) fun t72 => ?_
        repeat walk_at "S"
        refine f_sized (n := 10) (o'.mono (by decide)) hnk.1 (by show 1 ≤ 16777216; decide) fun t73 => ?_
        repeat walk_at "S"
        refine f_all (n := 10) (o'.mono (by decide)) (hI5.of (fun _ h => FXs.mem (by walk_at "X") h) (fun _ h => FXs.mem (by walk_at "X") h)) (by walk_at "M") (hP3.keepT fun a its ep h => by walk_at "M") hnk2.1 hnk2.2.1 (Nat.le_trans hnk2.2.2 (by decide)) (tabOf_ok _ _ _ 3) (Nat.le_trans hplen3 (by decide)) fun TD tdv epT3 N12 hsub12 htd => ?_
        rw [hCall] at htd
        have mTD := hsub12 _ (.head _)
        have hs12 := fun p hp => hsub12 p (.tail _ hp)
        have CH12 := CHas.mono (by assumption) hs12
        have K12 : KeepN (lawCl L) _ N12 := .of hs12
        clear hsub12 hs12
        repeat walk_at "S"
        refine a_range1 fun R8 t74 t75 t76 hR8 => ?_
        refine comp_it (it_range (.head _) (small_up (k := 3) (by decide)) hsz3) (by simp) (by decide) (fun g r => if outB sts k g = true then ∃ t, r = some (.str (S ((octsOf fi).getD g [])) t) else r = none) ?_ ?_
        · rintro c₂ lc X g v hs₂ hcl₂ o₂ hX hg ⟨td, rfl⟩
          have C₂ := CHas.mono (CHas.tail (by assumption)) hX
          have hg3 : g < 3 := hg
          have F₂ : FXs FX X := FXs.mono (by walk_at "X") hX
          rw [show (0 : Int) + (g : Int) * 1 = (g : Int) from by walk_at "Z"]
          repeat walk_at "S"
          refine f_outside (n := 10) (o₂.mono (by decide)) (by walk_at "M") (hSt5.mono0 fun _ hp => F₂.mem hp) hlen (fun q hq => (hnm q hq).len) hk4 hg3 ?_
          repeat walk_at "S"
          refine t_dec (fun g1 => ?_) (fun g1 => ?_)
          · have eo : outB sts k g = true := decide_eq_true g1
            obtain ⟨t77, hv77⟩ := hoc.get (y := (octsOf fi).getD g []) (i := g) (by rw [List.getD_eq_getElem?_getD, List.getElem?_eq_getElem (show g < (octsOf fi).length from hg3)]; rfl)
            repeat walk_at "S"
            refine s_list (by walk_at "M") (Int.natCast_nonneg _) (by revert hg3; walk_at "Z") hv77 ?_
            exact ⟨by rw [if_pos eo]; exact ⟨_, rfl⟩, fun _ h => h⟩
          · have eo : ¬ outB sts k g = true := fun e => g1 (of_decide_eq_true e)
            exact ⟨by rw [if_neg eo], fun _ h => h⟩
        intro QL qlv epQ hpk hQL
        have hql : Strs qlv to := by
          have := hpk.strs (f := fun g => if outB sts k g = true then some ((octsOf fi).getD g []) else none) (fun g hg hr => by
            by_cases q : outB sts k g = true
            · rw [if_pos q] at hr; obtain ⟨t, e⟩ := hr; cases e
            · rw [if_neg q]) (fun g y hg hr => by
            by_cases q : outB sts k g = true
            · rw [if_pos q] at hr ⊢; obtain ⟨t, e⟩ := hr; cases e; exact ⟨_, t, rfl, rfl⟩
            · rw [if_neg q] at hr; cases hr)
          rw [fm_filter] at this
          rw [hto]; exact this
        clear hpk
        refine o_strs_ne o' (.tail _ (.tail _ mTD)) (.head _) htd hql (fun p hp => told_ok p (hto ▸ hp)) ?_
        repeat walk_at "S"
        refine t_neg (by rfl) ?_
        repeat walk_at "S"
        have htol := told_len (sts := sts) (fi := fi) (c := k)
        rw [← hto] at htol
        refine a_join (by walk_at "M") htd (Nat.le_trans htol.1 (by decide)) fun t78 => ?_
        repeat walk_at "S"
        refine t_dec (fun g => absurd rfl g) (fun _ => ?_)
        repeat walk_at "S"
        refine t_false ?_
        repeat walk_at "S"
        refine comp_it it_strA (by simp) (Nat.le_trans htol.1 (by decide)) (fun g r => ∃ t, r = some (.int ((to.flatten.getD g 0 - 128 * (to.flatten.getD g 0 % 2) : Nat) : Int) t)) ?_ ?_
        · rintro c₂ lc X g v hs₂ hcl₂ o₂ hX hg ⟨d, td, hd, rfl⟩
          have hgd : to.flatten.getD g 0 = d := by rw [List.getD_eq_getElem?_getD, hd]; rfl
          have hd128 := htol.2 d (List.mem_of_getElem? hd)
          rw [hgd]
          repeat walk_at "S"
          refine t_true ?_
          repeat walk_at "S"
          refine a_ord fun t80 => ?_
          repeat walk_at "S"
          refine a_ord fun t81 => ?_
          repeat walk_at "S"
          refine o_mul (.of_left (by decide)) fun t79 => ?_
          repeat walk_at "S"
          exact ⟨⟨_, by rw [tape_val hd128.1]⟩, fun _ h => h⟩
        intro ZL zlv epZ hpk hZL
        have hzl : IntsAre zlv ((tapeC to.flatten).map fun (b : Nat) => (b : Int)) := by
          have hints : IntsAre zlv _ := hpk.ints (f := fun g => some ((to.flatten.getD g 0 - 128 * (to.flatten.getD g 0 % 2) : Nat) : Int)) (fun i hi ⟨t, e⟩ => by cases e) (fun i y hi ⟨t, e⟩ => ⟨_, t, rfl, by cases e; rfl⟩)
          rw [range_fm to.flatten 0 (fun d => some ((d - 128 * (d % 2) : Nat) : Int)), List.filterMap_eq_map'] at hints
          unfold tapeC; rw [List.map_map]; exact hints
        clear hpk
        repeat walk_at "S"
        refine a_iter (.head _) fun IT obT hIT hobT => ?_
        have nIT : ∀ y a, (lawCl L).lookup y = some a → a ≠ IT := fun y a e => by obtain ⟨ob, v, h1, _⟩ := CH12.all y a e; exact hIT _ (.tail _ (.tail _ (.tail _ h1)))
        repeat walk_at "S"
        walk_at "F"
        repeat walk_at "S"
        have nI12 : (I3, oI3) ∈ N12 := by walk_at "M"
        refine a_range1 fun R9 t82 t83 t84 hR9 => ?_
        have hZI : ZL ≠ IT := hIT _ (.head _)
        have hFIT : Fresh IT FX := fun q hq => hIT _ (FXs.mem (by walk_at "X") hq)
        have hI3IT : I3 ≠ IT := hIT _ (.tail _ (.tail _ (.tail _ nI12)))
        have hTLIT : TL ≠ IT := hIT _ (by walk_at "M" : (TL, listOf hvs.toArray epT) ∈ _)
        have htpl : (tapeC to.flatten).length ≤ 100000 := by unfold tapeC; rw [List.length_map]; exact Nat.le_trans htol.1 (by decide)
        refine for_it o' (it_range (.head _) (small_up (k := 3) (by decide)) hsz3)
          (fun I4 i m' N' => And6 (Fresh I4 N') (FXs FX N') (CHas (lawCl L) N' [(Str.ofString "steps", .ref D), (Str.ofString "odd", .ref O), (Str.ofString "first", .int fi t9'), (Str.ofString "octets", .ref OC), (Str.ofString "column", .int (k : Int) tk)])
            ((I3, oI3) ∈ N') ((TL, listOf hvs.toArray epT) ∈ N') (And4 (Prs (wo IT (wo I3 N')) hvs (tabOf sts (signsOf kc tl) (octsOf fi) 3)) ((ZL, listOf zlv.toArray epZ) ∈ N') (Ex2 fun ob j => And3 ((IT, ob) ∈ N') (isLI ZL j ob) ((tapeC to.flatten).drop j = restC sts (octsOf fi) k i)) (Has m' [(Str.ofString "table", .ref x), (Str.ofString "tape", .ref IT)]))) ?_ ?_ ?_ ?_
        · intro I4 hI4
          exact ⟨hI4, by walk_at "X", by walk_at "K", by walk_at "M", by walk_at "M", hP3.keepT fun a its ep h => wo_mem (wo_mem (by walk_at "M") (hF3 _ h)) (hIT _ (by walk_at "M" : (a, tupOf its ep) ∈ _)), by walk_at "M", ⟨obT, 0, by walk_at "M", hobT, by rw [hto, restC_0]; rfl⟩, by walk_at "H"⟩
        · rintro I4 i m' N' ⟨h1, _, _, _, _, _⟩
          exact ⟨by simp, h1⟩
        · rintro I4 oI4 g m5 N13 v hg ⟨hF4, hFX4, hCH4, hI34, hT4, hP4, hZ4, ⟨obj, j, hIT4, hob4, hdr4⟩, hL4⟩ ⟨tg, rfl⟩ _ _
          have hg3 : g < 3 := hg
          have nI4 : ∀ y a, (lawCl L).lookup y = some a → a ≠ I4 := fun y a e => by obtain ⟨ob, v, h1, _⟩ := hCH4.all y a e; exact hF4 _ h1
          rw [show (0 : Int) + (g : Int) * 1 = (g : Int) from by walk_at "Z"]
          walk_at "S"
          refine t_storeM o' hs hcl (by walk_at "C") (by k_dflt rfl) (by k_dflt rfl) fun N14 K14 CH14 => ?_
          repeat walk_at "S"
          refine f_outside (n := 10) (o'.mono (by decide)) (by walk_at "M") (hSt5.mono0 fun _ hp => FXs.mem (by walk_at "X") hp) hlen (fun q hq => (hnm q hq).len) hk4 hg3 ?_
          repeat walk_at "S"
          refine t_dec (fun g1 => ?_) (fun g1 => ?_)
          · have eo : outB sts k g = true := decide_eq_true g1
            repeat walk_at "S"
            refine f_varint (n := 10) (o'.mono (by decide)) (by walk_at "M" : (IT, obj) ∈ _) hob4 (by walk_at "M" : (ZL, listOf zlv.toArray epZ) ∈ _) hZI hzl htpl (hdr4 ▸ CO.read k hk4 g hg3 eo) fun t85 ob2 j2 hob2 hj2 => ?_
            have CH15 := CHas.put2 (o := ob2) CH14 nIT
            repeat walk_at "S"
            refine o_mul (.of_left (by decide)) fun t86 => ?_
            repeat walk_at "S"
            rw [first_row]
            repeat walk_at "S"
            refine t_dec (fun g => absurd rfl g) (fun _ => ?_)
            repeat walk_at "S"
            refine t_false ?_
            repeat walk_at "S"
            refine ⟨wo I4 (put IT ob2 N14), wo_all (put_other (by walk_at "M" : (I4, oI4) ∈ N14) (Ne.symm (hF4 _ hIT4))), wo_fresh, FXs.wo (FXs.put (by walk_at "X") hFIT) (fun q hq => hF4 _ (hFX4.mem hq)), CHas.wo2 (by walk_at "K") nI4, wo_mem (put_other (by walk_at "M") hI3IT) (hF4 _ hI34), wo_mem (put_other (by walk_at "M") hTLIT) (hF4 _ hT4), hP4.keepT fun a its ep h => ?_, wo_mem (put_other (by walk_at "M") hZI) (hF4 _ hZ4), ⟨ob2, j2, wo_mem (put_mem (by walk_at "M" : (IT, obj) ∈ N14)) (fun e => hF4 _ hIT4 e), hob2, hj2⟩, by walk_at "H"⟩
            have hw := wo_sub (wo_sub h)
            exact wo_mem (wo_mem (wo_mem (put_other (by walk_at "M") (wo_fresh _ h)) (hF4 _ hw)) (wo_fresh _ (wo_sub h))) (wo_fresh _ h)
          · have eo : outB sts k g = false := decide_eq_false g1
            repeat walk_at "S"
            refine t_false ?_
            repeat walk_at "S"
            refine ⟨wo I4 N14, wo_all (by walk_at "M"), wo_fresh, FXs.wo (by walk_at "X") (fun q hq => hF4 _ (hFX4.mem hq)), CHas.wo2 (by walk_at "K") nI4, wo_mem (by walk_at "M") (hF4 _ hI34), wo_mem (by walk_at "M") (hF4 _ hT4), hP4.keepT fun a its ep h => ?_, wo_mem (by walk_at "M") (hF4 _ hZ4), ⟨obj, j, wo_mem (by walk_at "M") (hF4 _ hIT4), hob4, by rw [hdr4, CO.skip k hk4 g hg3 eo]⟩, by walk_at "H"⟩
            have hw := wo_sub (wo_sub h)
            exact wo_mem (wo_mem (wo_mem (by walk_at "M") (hF4 _ hw)) (wo_fresh _ (wo_sub h))) (wo_fresh _ h)
        · rintro I4 m5 N13 ⟨hF4, hFX4, hCH4, hI34, hT4, hP4, hZ4, ⟨obj, j, hIT4, hob4, hdr4⟩, hL4⟩
          rw [restC_3] at hdr4
          have hjn : zlv[j]? = none := by
            have h1 := drop_nilN hdr4
            have h2 := ints_len hzl
            rw [List.length_map] at h2
            exact List.getElem?_eq_none (by rw [h2]; exact h1)
          repeat walk_at "S"
          refine t_try_stopX (wo IT N13) htop hs (n := 10) (o'.mono (by decide)) hIT4 hob4 hZ4 hZI hjn (f := 59) (by rfl) (by rfl) (fun s X => BindsTo.of_eq (by rfl)) (by rfl) (by rfl) (by decide) (by rfl) (by rfl) (by rfl) (by rfl) (by rfl) (by rfl) hL4 (by rfl) (by rfl) (by rfl) (by rfl) (by rfl) (by rfl) (by rfl) (by rfl) (by rfl) (fun p hp => ⟨wo_sub hp, wo_fresh p hp⟩) ?_
          repeat walk_at "S"
          have CH16 := CHas.wo2 hCH4 nIT
          exact ⟨wo I3 (wo IT N13), wo_all (wo_mem hI34 hI3IT), wo_fresh, FXs.wo (FXs.wo hFX4 hFIT) (fun q hq => hF3 _ (hFX3.mem hq)), CHas.wo2 (by walk_at "K") nI3, wo_mem (wo_mem hT4 hTLIT) (hF3 _ hT3), hP4.keepT fun a its ep h => wo_mem (wo_mem (wo_sub (wo_sub h)) (wo_fresh _ h)) (wo_fresh _ (wo_sub h)), by walk_at "H"⟩
      · rintro I3 m3 N11 ⟨hF3, hFX3, hCH3, hT3, hP3, hL3⟩
        repeat walk_at "S"
        rfl
end

-- q0
theorem cut_tail {α : Type} (x : List α) (k : Nat) : cut x (some (k : Int)) none = x.drop k := by
  unfold cut
  simp only [Option.elim, clip_nat]
  rcases Nat.le_total k x.length with h | h
  · rw [Nat.min_eq_left h]; apply List.take_of_length_le; simp
  · rw [Nat.min_eq_right h, List.drop_of_length_le h, List.drop_length]; simp

-- q1
-- the plain law of wn0116-01, part 1: what strip leaves
theorem escItems_append : ∀ (a b : List Nat) (i : Nat) (e : Bool), escEnd e a = false → escItems i e (a ++ b) = escItems i e a ++ escItems (i + a.length) false b
  | [], b, i, e, he => by
    have h : e = false := he
    subst h
    rfl
  | d :: a, b, i, true, he => by
    rw [List.cons_append, esc_t, esc_t, escItems_append a b (i + 1) false he]
    simp; congr 1; (first | walk_at "Z" | omega)
  | d :: a, b, i, false, he => by
    by_cases h : d = 92
    · subst h
      rw [List.cons_append, esc_b, esc_b, escItems_append a b (i + 1) true he]
      simp; congr 1; (first | walk_at "Z" | omega)
    · rw [List.cons_append, esc_f h, esc_f h, escItems_append a b (i + 1) false (by simpa [escEnd, h] using he)]
      simp; congr 1; (first | walk_at "Z" | omega)
theorem escEnd_append : ∀ (a b : List Nat) (e : Bool), escEnd e (a ++ b) = escEnd (escEnd e a) b
  | [], b, e => by simp [escEnd]
  | d :: a, b, true => by simp [escEnd, escEnd_append a b]
  | d :: a, b, false => by
    by_cases h : d = 92 <;> simp [escEnd, h, escEnd_append a b]
/-- a sign: no open backslash, no quotation mark that counts -/
structure Closed (y : List Nat) : Prop where
  fin : escEnd false y = false
  noq : ∀ i, ∀ p ∈ escItems i false y, p.2 ≠ [34]
abbrev Tk := Option (List Nat)
def render : List Tk → List Nat
  | [] => []
  | none :: r => 34 :: render r
  | some y :: r => y ++ render r
def AllC (tk : List Tk) : Prop := ∀ y, some y ∈ tk → Closed y
def stripT : List Nat → Option (List Nat) → List Tk → List Nat
  | acc, o, [] => acc ++ o.getD []
  | acc, none, some y :: r => stripT (acc ++ y) none r
  | acc, some p, some y :: r => stripT acc (some (p ++ y)) r
  | acc, none, none :: r => stripT acc (some [34]) r
  | acc, some _, none :: r => stripT acc none r
theorem render_end : ∀ {tk : List Tk}, AllC tk → escEnd false (render tk) = false
  | [], _ => rfl
  | none :: r, h => by
    have := render_end (tk := r) fun y hy => h y (.tail _ hy)
    simp [render, escEnd, this]
  | some y :: r, h => by
    have := render_end (tk := r) fun y hy => h y (.tail _ hy)
    simp [render, escEnd_append, (h y (.head _)).fin, this]
theorem foldl_noq {x : List Nat} {q : SQ} : ∀ {l : List (Nat × List Nat)}, (∀ p ∈ l, p.2 ≠ [34]) → l.foldl (sqStep x) q = q
  | [], _ => rfl
  | (i, c) :: l, h => by
    rw [List.foldl_cons, sq_o (h _ (.head _))]
    exact foldl_noq fun p hp => h p (.tail _ hp)
/-- how far strip is behind the text u -/
def StR (u : List Nat) (q : SQ) (acc : List Nat) : Option (List Nat) → Prop
  | none => q.op = none ∧ q.start ≤ u.length ∧ q.res.flatten ++ u.drop q.start = acc
  | some p => ∃ a, q.op = some a ∧ q.start ≤ a ∧ a ≤ u.length ∧ q.res.flatten ++ (u.take a).drop q.start = acc ∧ u.drop a = p
theorem cut_mid (x : List Nat) {s a : Nat} (hs : s ≤ a) (ha : a ≤ x.length) : cut x (some (s : Int)) (some (a : Int)) = (x.take a).drop s := by
  unfold cut
  simp only [Option.elim, clip_nat]
  rw [Nat.min_eq_left ha, Nat.min_eq_left (Nat.le_trans hs ha), List.drop_take]
def sqOut (x : List Nat) (q : SQ) : List Nat := (if q.start < x.length then q.res ++ [cut x (some (q.start : Int)) none] else q.res).flatten
theorem strip_go {x : List Nat} : ∀ {tk : List Tk} {u : List Nat} {q : SQ} {acc : List Nat} {o : Option (List Nat)}, AllC tk → x = u ++ render tk → StR u q acc o →
    sqOut x ((escItems u.length false (render tk)).foldl (sqStep x) q) = stripT acc o tk
  | [], u, q, acc, o, _, hx, hR => by
    have hx' : x = u := by simpa [render] using hx
    subst hx'
    show sqOut x ((escItems x.length false []).foldl (sqStep x) q) = acc ++ o.getD []
    have : (escItems x.length false []).foldl (sqStep x) q = q := rfl
    rw [this]
    have hout : sqOut x q = q.res.flatten ++ x.drop q.start := by
      unfold sqOut
      split
      · rw [List.flatten_append, cut_tail]; simp
      · rename_i h; rw [List.drop_of_length_le (by (first | (revert h; walk_at "Z") | omega))]; simp
    rw [hout]
    cases o with
    | none => simpa using hR.2.2
    | some p =>
      obtain ⟨a, _, h1, h2, h3, h4⟩ := hR
      rw [← h3, ← h4]
      show _ = _ ++ x.drop a
      rw [List.append_assoc]
      congr 1
      have : x.drop q.start = (x.take a ++ x.drop a).drop q.start := by rw [List.take_append_drop]
      rw [this, List.drop_append_of_le_length (by simp; (first | (revert h1 h2; walk_at "Z") | omega))]
  | some y :: r, u, q, acc, o, hc, hx, hR => by
    have hy := hc y (.head _)
    show sqOut x ((escItems u.length false (y ++ render r)).foldl (sqStep x) q) = _
    rw [escItems_append _ _ _ _ hy.fin, List.foldl_append, foldl_noq (hy.noq _)]
    have hx' : x = (u ++ y) ++ render r := by rw [hx]; simp [render]
    rw [show u.length + y.length = (u ++ y).length from by simp]
    cases o with
    | none =>
      refine strip_go (fun z hz => hc z (.tail _ hz)) hx' ⟨hR.1, by have := hR.2.1; simp; (first | (revert this; walk_at "Z") | omega), ?_⟩
      rw [List.drop_append_of_le_length hR.2.1, ← List.append_assoc, hR.2.2]
    | some p =>
      obtain ⟨a, h0, h1, h2, h3, h4⟩ := hR
      refine strip_go (fun z hz => hc z (.tail _ hz)) hx' ⟨a, h0, h1, by simp; (first | (revert h2; walk_at "Z") | omega), ?_, ?_⟩
      · rw [List.take_append_of_le_length h2]; exact h3
      · rw [List.drop_append_of_le_length h2, h4]
  | none :: r, u, q, acc, o, hc, hx, hR => by
    show sqOut x ((escItems u.length false (34 :: render r)).foldl (sqStep x) q) = _
    rw [esc_f (by decide), List.foldl_cons]
    have hx' : x = (u ++ [34]) ++ render r := by rw [hx]; simp [render]
    have hxl : u.length < x.length := by rw [hx']; simp
    rw [show u.length + 1 = (u ++ [34]).length from by simp]
    obtain ⟨st, op, res⟩ := q
    cases o with
    | none =>
      obtain ⟨h1, h2, h3⟩ := hR
      simp only [] at h1 h2 h3
      subst h1
      rw [sq_q0]
      refine strip_go (fun z hz => hc z (.tail _ hz)) hx' ⟨u.length, rfl, h2, by simp, ?_, ?_⟩
      · show res.flatten ++ ((u ++ [34]).take u.length).drop st = acc
        rw [List.take_append_of_le_length (Nat.le_refl _), List.take_length]; exact h3
      · simp
    | some p =>
      obtain ⟨a, h0, h1, h2, h3, h4⟩ := hR
      simp only [] at h0 h1 h3
      subst h0
      rw [sq_q1]
      refine strip_go (fun z hz => hc z (.tail _ hz)) hx' ⟨rfl, by simp, ?_⟩
      show (if st ≠ a then res ++ [cut x (some (st : Int)) (some (a : Int))] else res).flatten ++ (u ++ [34]).drop (u.length + 1) = acc
      have e1 : (u ++ [34]).drop (u.length + 1) = [] := List.drop_of_length_le (by simp)
      have e2 : x.take a = u.take a := by rw [hx', List.append_assoc, List.take_append_of_le_length h2]
      rw [e1, List.append_nil]
      by_cases h : st = a
      · rw [if_neg (by simpa using h)]
        subst h
        rw [← h3, List.drop_of_length_le (by simp; (first | walk_at "Z" | omega))]; simp
      · rw [if_pos h, List.flatten_append, cut_mid x h1 (by (first | (revert h2 hxl; walk_at "Z") | omega)), e2, ← h3]; simp
theorem stripT_nq : ∀ {tk : List Tk} {acc : List Nat}, none ∉ tk → stripT acc none tk = acc ++ render tk
  | [], acc, _ => by simp [stripT, render]
  | some y :: r, acc, h => by
    have := stripT_nq (tk := r) (acc := acc ++ y) fun q => h (.tail _ q)
    simp [stripT, render, this]
  | none :: r, acc, h => absurd (.head _) h
theorem mem_render : ∀ {tk : List Tk}, none ∈ tk → 34 ∈ render tk
  | none :: r, _ => .head _
  | some y :: r, h => by
    have : none ∈ r := by simpa using h
    exact List.mem_append.mpr (.inr (mem_render this))
theorem strip_render {tk : List Tk} (hc : AllC tk) : stripOf (render tk) = stripT [] none tk := by
  have key := strip_go (x := render tk) (tk := tk) (u := []) (q := ⟨0, none, []⟩) (acc := []) (o := none) hc rfl ⟨rfl, Nat.le_refl _, rfl⟩
  unfold stripOf
  by_cases h : 34 ∈ render tk
  · rw [if_pos h]; exact key
  · rw [if_neg h]
    rw [stripT_nq fun q => h (mem_render q)]; rfl
-- u1
-- the plain law of wn0116-02, part 1: the sides and what lies outside
def cnt (sts : List (List Nat × Int)) (a : List Nat) : Nat := (sts.filter fun p => decide (p.1 = a)).length
theorem cnt_snoc (sts : List (List Nat × Int)) (b : List Nat) (k : Int) (a : List Nat) : cnt (sts ++ [(b, k)]) a = cnt sts a + if b = a then 1 else 0 := by
  unfold cnt
  rw [List.filter_append, List.length_append, List.filter_cons]
  by_cases h : b = a
  · rw [if_pos h, decide_eq_true h]; rfl
  · rw [if_neg h, decide_eq_false h]; rfl
theorem lo1_up1 (d : Nat) : lo1 (up1 d) = lo1 d := by
  unfold up1 lo1
  split
  · rename_i h; rw [if_pos (by revert h; walk_at "Z"), if_neg (by revert h; walk_at "Z")]; revert h; walk_at "Z"
  · rfl
theorem lo_sized (x : List Nat) (i : Int) : (sized x i).map lo1 = x.map lo1 := by
  unfold sized
  split
  · rw [List.map_map]; exact List.map_congr_left fun d _ => lo1_up1 d
  · rfl
theorem SideD.low {a : List Nat} (h : SideD a) : a.map lo1 = a := by
  obtain ⟨d, e, rfl, h1, h2⟩ := h
  have e1 : lo1 d = d := by unfold lo1; rw [if_neg (by revert h1; walk_at "Z")]
  have e2 : lo1 e = e := by unfold lo1; rw [if_neg (by revert h2; walk_at "Z")]
  show [lo1 d, lo1 e] = _
  rw [e1, e2]
def Named (ps : List (List Nat × List Nat)) (a : List Nat) : Prop := ∃ p ∈ ps, p.1.map lo1 = a
theorem named_del {ps : List (List Nat × List Nat)} {b a : List Nat} : Named (hdel ps b) a ↔ Named ps a ∧ a ≠ b.map lo1 := by
  constructor
  · rintro ⟨p, hp, e⟩
    obtain ⟨h1, h2⟩ := List.mem_filter.mp hp
    refine ⟨⟨p, h1, e⟩, fun q => ?_⟩
    rw [decide_eq_true (e.trans q)] at h2
    exact Bool.false_ne_true h2
  · rintro ⟨⟨p, hp, e⟩, q⟩
    exact ⟨p, List.mem_filter.mpr ⟨hp, by rw [decide_eq_false (fun h => q (e.symm.trans h))]; rfl⟩, e⟩
theorem named_app {ps qs : List (List Nat × List Nat)} {a : List Nat} : Named (ps ++ qs) a ↔ Named ps a ∨ Named qs a := by
  constructor
  · rintro ⟨p, hp, e⟩
    rcases List.mem_append.mp hp with h | h
    · exact .inl ⟨p, h, e⟩
    · exact .inr ⟨p, h, e⟩
  · rintro (⟨p, hp, e⟩ | ⟨p, hp, e⟩)
    · exact ⟨p, List.mem_append.mpr (.inl hp), e⟩
    · exact ⟨p, List.mem_append.mpr (.inr hp), e⟩
theorem named_two {b : List Nat} {i j : Int} {a : List Nat} : Named [(sized b i, []), (sized b j, [])] a ↔ b.map lo1 = a := by
  constructor
  · rintro ⟨p, hp, e⟩
    rcases List.mem_cons.mp hp with rfl | hp
    · rw [← e, lo_sized]
    · rw [List.mem_singleton] at hp; subst hp; rw [← e, lo_sized]
  · intro e
    exact ⟨_, .head _, by rw [lo_sized, e]⟩
theorem named_get {ps : List (List Nat × List Nat)} {b : List Nat} : (hget ps b).isSome = true ↔ Named ps (b.map lo1) := by
  induction ps with
  | nil => exact ⟨fun h => (by cases h), fun ⟨p, hp, _⟩ => (List.not_mem_nil hp).elim⟩
  | cons p r ih =>
    unfold hget at ih ⊢
    rw [List.find?_cons]
    by_cases h : p.1.map lo1 = b.map lo1
    · rw [decide_eq_true h]; exact ⟨fun _ => ⟨p, .head _, h⟩, fun _ => rfl⟩
    · rw [decide_eq_false h]
      refine ih.trans ⟨fun ⟨q, hq, e⟩ => ⟨q, .tail _ hq, e⟩, fun ⟨q, hq, e⟩ => ?_⟩
      rcases List.mem_cons.mp hq with rfl | hq
      · exact absurd e h
      · exact ⟨q, hq, e⟩
theorem take_snoc {α : Type} {l : List α} {k : Nat} {d : α} (h : k < l.length) : l.take (k + 1) = l.take k ++ [l.getD k d] := by
  rw [List.take_succ_eq_append_getElem h, List.getD_eq_getElem?_getD, List.getElem?_eq_getElem h]; rfl
/-- the names that the sides hold: those met an odd number of times -/
theorem named_odd {sts : List (List Nat × Int)} (hs : ∀ p ∈ sts, SideD p.1) {a : List Nat} (ha : a.map lo1 = a) : ∀ k ≤ sts.length, (Named (sidesN sts k) a ↔ cnt (sts.take k) a % 2 = 1) := by
  intro k
  induction k with
  | zero => intro _; exact ⟨fun ⟨p, hp, _⟩ => (List.not_mem_nil hp).elim, fun h => by cases h⟩
  | succ k ih =>
    intro hk
    have ih := ih (Nat.le_of_succ_le hk)
    rw [take_snoc (d := ([], 0)) hk]
    obtain ⟨q, hq⟩ : ∃ q, q = sts.getD k ([], 0) := ⟨_, rfl⟩
    have hqs : SideD q.1 := by
      rw [hq, List.getD_eq_getElem?_getD, List.getElem?_eq_getElem hk]; exact hs _ (List.getElem_mem hk)
    rw [← hq, show q = (q.1, q.2) from rfl, cnt_snoc]
    show Named (sideStep (sidesN sts k) k (sts.getD k ([], 0)).1) a ↔ _
    rw [← hq]
    have hl : ∀ i, (sized q.1 i).map lo1 = q.1 := fun i => (lo_sized _ _).trans hqs.low
    unfold sideStep
    by_cases hg : (hget (sidesN sts k) (sized q.1 ((k : Int).fdiv 2))).isSome = true
    · rw [if_pos hg, named_del, hl, ih]
      have hg := named_get.mp hg
      rw [hl] at hg
      by_cases e : q.1 = a
      · subst e
        have := ih.mp hg
        rw [if_pos rfl]
        exact ⟨fun h => absurd rfl h.2, fun h => by revert this h; walk_at "Z"⟩
      · rw [if_neg e]
        exact ⟨fun h => h.1, fun h => ⟨h, fun h => e h.symm⟩⟩
    · rw [if_neg hg, named_app, named_del, named_two, hl, hqs.low, ih]
      have hg : ¬ Named (sidesN sts k) q.1 := fun h => hg (named_get.mpr (by rw [hl]; exact h))
      by_cases e : q.1 = a
      · subst e
        have h0 : ¬ cnt (sts.take k) q.1 % 2 = 1 := fun h => hg (ih.mpr h)
        rw [if_pos rfl]
        exact ⟨fun _ => by revert h0; walk_at "Z", fun _ => .inr rfl⟩
      · rw [if_neg e]
        exact ⟨fun h => h.elim (fun h => h.1) fun h => absurd h e, fun h => .inl ⟨h, fun h => e h.symm⟩⟩
theorem mem_odd {sts : List (List Nat × Int)} (hs : ∀ p ∈ sts, SideD p.1) {a : List Nat} (ha : a.map lo1 = a) : a ∈ (sidesN sts sts.length).map (fun p => p.1.map lo1) ↔ cnt sts a % 2 = 1 := by
  have := named_odd hs ha sts.length (Nat.le_refl _)
  rw [List.take_length] at this
  rw [← this]
  exact ⟨fun h => by obtain ⟨p, hp, e⟩ := List.mem_map.mp h; exact ⟨p, hp, e⟩, fun ⟨p, hp, e⟩ => List.mem_map.mpr ⟨p, hp, e⟩⟩
/-- how many steps are above -/
def above (sts : List (List Nat × Int)) (c r : Nat) : Nat := (sts.filter (isAbove c r)).length
theorem above_snoc (sts : List (List Nat × Int)) (p : List Nat × Int) (c r : Nat) : above (sts ++ [p]) c r = above sts c r + if isAbove c r p then 1 else 0 := by
  unfold above
  rw [List.filter_append, List.length_append, List.filter_cons]
  cases isAbove c r p <;> rfl
theorem sum_above (sts : List (List Nat × Int)) (c r : Nat) (h : ∀ p ∈ sts, p.2 = 1 ∨ p.2 = -1) : (aboveSum sts c r).fmod 2 = ((above sts c r % 2 : Nat) : Int) := by
  have key : (aboveSum sts c r - (above sts c r : Int)) % 2 = 0 := by
    unfold aboveSum above
    induction sts with
    | nil => rfl
    | cons p l ih =>
      have ih := ih fun q hq => h q (.tail _ hq)
      have hp := h p (.head _)
      rw [List.filterMap_cons, List.filter_cons]
      cases e : isAbove c r p
      · simpa using ih
      · simp only [if_true, List.sum_cons, List.length_cons]
        revert ih hp; push_cast; walk_at "Z"
  rw [Int.fmod_eq_emod_of_nonneg _ (by decide)]
  revert key; push_cast; walk_at "Z"
theorem outB_iff {sts : List (List Nat × Int)} (h : ∀ p ∈ sts, p.2 = 1 ∨ p.2 = -1) (c r : Nat) : outB sts c r = true ↔ above sts c r % 2 = 0 := by
  unfold outB
  rw [decide_eq_true_iff, sum_above sts c r h]
  constructor
  · intro h; exact Int.ofNat.inj h
  · intro h; rw [h]; rfl
theorem Trip.ones {h p : Int × Int} {sts : List (List Nat × Int)} (t : Trip h p sts) : ∀ q ∈ sts, q.2 = 1 ∨ q.2 = -1 := by
  induction t with
  | nil _ => intro q hq; exact (List.not_mem_nil hq).elim
  | snoc t u hb ih =>
    intro q hq
    rcases List.mem_append.mp hq with hq | hq
    · exact ih q hq
    · rw [List.mem_singleton] at hq; subst hq
      revert u; walk_at "Z"

-- u2
-- part 2: what a closed way crosses
inductive Mv : Nat × Nat → Nat × Nat → List Nat → Prop
  | r {a b : Nat} : a < 4 → b < 4 → Mv (a, b) (a + 1, b) [97 + a, 48 + b]
  | l {a b : Nat} : a < 4 → b < 4 → Mv (a + 1, b) (a, b) [97 + a, 48 + b]
  | d {a b : Nat} : a < 5 → b < 3 → Mv (a, b) (a, b + 1) [112 + b, 48 + a]
  | u {a b : Nat} : a < 5 → b < 3 → Mv (a, b + 1) (a, b) [112 + b, 48 + a]
theorem mv_side {x y dx dy : Int} (h : OnB x y) (h' : OnB (x + dx) (y + dy)) (u : Unit4 dx dy) : Mv (x.toNat, y.toNat) ((x + dx).toNat, (y + dy).toNat) (sideName x y dx dy) := by
  obtain ⟨h1, h2, h3, h4⟩ := h
  obtain ⟨g1, g2, g3, g4⟩ := h'
  obtain ⟨a, rfl⟩ := Int.eq_ofNat_of_zero_le h1
  obtain ⟨b, rfl⟩ := Int.eq_ofNat_of_zero_le h3
  have a5 := Int.ofNat_le.mp h2
  have b5 := Int.ofNat_le.mp h4
  rcases u with ⟨rfl, rfl⟩ | ⟨rfl, rfl⟩ | ⟨rfl, rfl⟩ | ⟨rfl, rfl⟩
  · have := Int.ofNat_le.mp (show ((a + 1 : Nat) : Int) ≤ (4 : Nat) from g2)
    unfold sideName
    rw [if_pos (by decide), Int.min_eq_left (Int.le_add_of_nonneg_right (by decide)), Int.add_zero]
    exact .r this (Nat.lt_succ_of_le b5)
  · have := Int.ofNat_le.mp (show ((b + 1 : Nat) : Int) ≤ (3 : Nat) from g4)
    unfold sideName
    rw [if_neg (by decide), Int.min_eq_left (Int.le_add_of_nonneg_right (by decide)), Int.add_zero]
    exact .d (Nat.lt_succ_of_le a5) this
  · cases a with
    | zero => exact absurd g1 (by decide)
    | succ a =>
      unfold sideName
      rw [show ((a + 1 : Nat) : Int) + -1 = (a : Int) from Int.add_sub_cancel (a : Int) 1, if_pos (by decide), Int.min_eq_right (Int.ofNat_le.mpr (Nat.le_succ a)), Int.add_zero]
      exact .l a5 (Nat.lt_succ_of_le b5)
  · cases b with
    | zero => exact absurd g3 (by decide)
    | succ b =>
      unfold sideName
      rw [show ((b + 1 : Nat) : Int) + -1 = (b : Int) from Int.add_sub_cancel (b : Int) 1, if_neg (by decide), Int.min_eq_right (Int.ofNat_le.mpr (Nat.le_succ b)), Int.add_zero]
      exact .u (Nat.lt_succ_of_le a5) b5
theorem Trip.ind {h p : Int × Int} {sts : List (List Nat × Int)} (t : Trip h p sts) (M : Nat × Nat → List (List Nat × Int) → Prop) (h0 : M (h.1.toNat, h.2.toNat) [])
    (hs : ∀ q q' nm k sts, M q sts → Mv q q' nm → M q' (sts ++ [(nm, k)])) : M (p.1.toNat, p.2.toNat) sts := by
  induction t with
  | nil _ => exact h0
  | snoc t u hb ih => exact hs _ _ _ _ _ ih (mv_side t.on hb u)
theorem isAbove_pair (c r d e : Nat) (k : Int) : isAbove c r ([d, e], k) = true ↔ d = 97 + c ∧ 48 + r < e := by
  unfold isAbove
  rw [Bool.and_eq_true, decide_eq_true_iff, decide_eq_true_iff]
  show [d] = [97 + c] ∧ [48 + r] < [e] ↔ _
  rw [List.cons_lt_cons_iff]
  simp
theorem above_pair (sts : List (List Nat × Int)) (d e : Nat) (k : Int) (c r : Nat) : above (sts ++ [([d, e], k)]) c r = above sts c r + if d = 97 + c ∧ 48 + r < e then 1 else 0 := by
  rw [above_snoc]
  congr 1
  by_cases h : d = 97 + c ∧ 48 + r < e
  · rw [if_pos h, if_pos ((isAbove_pair ..).mpr h)]
  · rw [if_neg h, if_neg fun q => h ((isAbove_pair ..).mp q)]
theorem cnt_pair (sts : List (List Nat × Int)) (d e : Nat) (k : Int) (u v : Nat) : cnt (sts ++ [([d, e], k)]) [u, v] = cnt sts [u, v] + if d = u ∧ e = v then 1 else 0 := by
  rw [cnt_snoc]
  congr 1
  by_cases h : d = u ∧ e = v
  · rw [if_pos h, h.1, h.2, if_pos rfl]
  · rw [if_neg h, if_neg fun q => h (by injection q with q1 q2; injection q2 with q2 _; exact ⟨q1, q2⟩)]
theorem ite_iff {p q : Prop} [Decidable p] [Decidable q] (h : p ↔ q) : (if p then 1 else 0 : Nat) = if q then 1 else 0 := by
  by_cases g : p
  · rw [if_pos g, if_pos (h.mp g)]
  · rw [if_neg g, if_neg fun r => g (h.mpr r)]
def above1 (sts : List (List Nat × Int)) : Nat → Nat → Nat
  | 0, _ => 0
  | g + 1, r => above sts g r
theorem above1_pair (sts : List (List Nat × Int)) (d e : Nat) (k : Int) (g r : Nat) : above1 (sts ++ [([d, e], k)]) g r = above1 sts g r + if d + 1 = 97 + g ∧ 97 ≤ d ∧ 48 + r < e then 1 else 0 := by
  cases g with
  | zero => rw [if_neg (by walk_at "Z")]; rfl
  | succ g =>
    show above _ g r = above _ g r + _
    rw [above_pair]
    congr 1
    exact ite_iff (by walk_at "Z")
def ind (g r : Nat) (q : Nat × Nat) : Nat := if q.1 = g ∧ r < q.2 then 1 else 0
theorem ind_up (g r a b : Nat) : ind g r (a, b + 1) = ind g r (a, b) + (if 112 + b = 112 + r ∧ 48 + a = 48 + g then 1 else 0) := by
  show (if a = g ∧ r < b + 1 then 1 else 0) = (if a = g ∧ r < b then 1 else 0) + _
  by_cases q1 : 112 + b = 112 + r ∧ 48 + a = 48 + g
  · rw [if_pos q1, if_pos (by revert q1; walk_at "Z"), if_neg (by revert q1; walk_at "Z")]
  · rw [if_neg q1]; exact ite_iff (by revert q1; walk_at "Z")
theorem row_par {h p : Int × Int} {sts : List (List Nat × Int)} (t : Trip h p sts) (g r : Nat) (hg : g ≤ 4) :
    (cnt sts [112 + r, 48 + g] + above1 sts g r + above sts g r) % 2 = (ind g r (h.1.toNat, h.2.toNat) + ind g r (p.1.toNat, p.2.toNat)) % 2 := by
  refine t.ind (fun q sts => (cnt sts [112 + r, 48 + g] + above1 sts g r + above sts g r) % 2 = (ind g r (h.1.toNat, h.2.toNat) + ind g r q) % 2) ?_ ?_
  · have : cnt [] [112 + r, 48 + g] = 0 := rfl
    have h2 : above1 [] g r = 0 := by cases g <;> rfl
    have h3 : above [] g r = 0 := rfl
    rw [this, h2, h3]; walk_at "Z"
  · intro q q' nm k sts ih mv
    obtain ⟨H, hH⟩ : ∃ H, H = ind g r (h.1.toNat, h.2.toNat) := ⟨_, rfl⟩
    rw [← hH] at ih ⊢
    cases mv with
    | r ha hb =>
      rename_i a b
      rw [cnt_pair, above1_pair, above_pair]
      rw [if_neg (by revert ha; walk_at "Z"), show (if 97 + a + 1 = 97 + g ∧ 97 ≤ 97 + a ∧ 48 + r < 48 + b then 1 else 0) = ind g r (a + 1, b) from ite_iff (by show _ ↔ a + 1 = g ∧ r < b; walk_at "Z"), show (if 97 + a = 97 + g ∧ 48 + r < 48 + b then 1 else 0) = ind g r (a, b) from ite_iff (by show _ ↔ a = g ∧ r < b; walk_at "Z")]
      revert ih; walk_at "Z"
    | l ha hb =>
      rename_i a b
      rw [cnt_pair, above1_pair, above_pair]
      rw [if_neg (by revert ha; walk_at "Z"), show (if 97 + a + 1 = 97 + g ∧ 97 ≤ 97 + a ∧ 48 + r < 48 + b then 1 else 0) = ind g r (a + 1, b) from ite_iff (by show _ ↔ a + 1 = g ∧ r < b; walk_at "Z"), show (if 97 + a = 97 + g ∧ 48 + r < 48 + b then 1 else 0) = ind g r (a, b) from ite_iff (by show _ ↔ a = g ∧ r < b; walk_at "Z")]
      revert ih; walk_at "Z"
    | d ha hb =>
      rename_i a b
      rw [cnt_pair, above1_pair, above_pair, ind_up]
      rw [if_neg (show ¬ (112 + b + 1 = 97 + g ∧ 97 ≤ 112 + b ∧ 48 + r < 48 + a) by revert hg; walk_at "Z"), if_neg (show ¬ (112 + b = 97 + g ∧ 48 + r < 48 + a) by revert hg; walk_at "Z")]
      revert ih; walk_at "Z"
    | u ha hb =>
      rename_i a b
      rw [ind_up] at ih
      rw [cnt_pair, above1_pair, above_pair]
      rw [if_neg (show ¬ (112 + b + 1 = 97 + g ∧ 97 ≤ 112 + b ∧ 48 + r < 48 + a) by revert hg; walk_at "Z"), if_neg (show ¬ (112 + b = 97 + g ∧ 48 + r < 48 + a) by revert hg; walk_at "Z")]
      revert ih; walk_at "Z"
theorem row_even {p : Int × Int} {sts : List (List Nat × Int)} (t : Trip p p sts) (g r : Nat) (hg : g ≤ 4) : cnt sts [112 + r, 48 + g] % 2 = (above1 sts g r + above sts g r) % 2 := by
  have := row_par t g r hg
  revert this; walk_at "Z"
/-- nothing is above the third row, nor right of the last column -/
theorem above_top {h p : Int × Int} {sts : List (List Nat × Int)} (t : Trip h p sts) (c r : Nat) (hc : c ≤ 4) (hr : c = 4 ∨ r = 3) : above sts c r = 0 := by
  refine t.ind (fun _ sts => above sts c r = 0) rfl fun q q' nm k sts ih mv => ?_
  cases mv <;> (rw [above_pair, ih, if_neg]; rename_i h1 h2; revert h1 h2 hr hc; walk_at "Z")
theorem above_next (sts : List (List Nat × Int)) (c r : Nat) (h : ∀ p ∈ sts, SideD p.1) : above sts c r = cnt sts [97 + c, 48 + (r + 1)] + above sts c (r + 1) := by
  have key : ∀ l : List (List Nat × Int), (∀ p ∈ l, SideD p.1) → above l.reverse c r = cnt l.reverse [97 + c, 48 + (r + 1)] + above l.reverse c (r + 1) := by
    intro l
    induction l with
    | nil => intro _; rfl
    | cons p l ih =>
      intro h
      have ih := ih fun q hq => h q (.tail _ hq)
      obtain ⟨nm, k⟩ := p
      obtain ⟨d, e, e1, _⟩ := h _ (.head _)
      have e1 : nm = [d, e] := e1
      subst e1
      rw [List.reverse_cons, above_pair, above_pair, cnt_pair, ih]
      by_cases q1 : d = 97 + c ∧ e = 48 + (r + 1)
      · rw [if_pos q1, if_pos (show d = 97 + c ∧ 48 + r < e by revert q1; walk_at "Z"), if_neg (show ¬ (d = 97 + c ∧ 48 + (r + 1) < e) by revert q1; walk_at "Z")]; walk_at "Z"
      · rw [if_neg q1, ite_iff (show (d = 97 + c ∧ 48 + r < e) ↔ (d = 97 + c ∧ 48 + (r + 1) < e) by revert q1; walk_at "Z")]; walk_at "Z"
  have := key sts.reverse fun p hp => h p (List.mem_reverse.mp hp)
  rwa [List.reverse_reverse] at this
def lft (c : Nat) (q : Nat × Nat) : Nat := if q.1 ≤ c then 1 else 0
theorem lft_up (c a b b' : Nat) : lft c (a, b) = lft c (a + 1, b') + if 97 + a = 97 + c then 1 else 0 := by
  show (if a ≤ c then 1 else 0) = (if a + 1 ≤ c then 1 else 0) + _
  by_cases q : 97 + a = 97 + c
  · rw [if_pos q, if_pos (by revert q; walk_at "Z"), if_neg (by revert q; walk_at "Z")]
  · rw [if_neg q]; exact ite_iff (by revert q; walk_at "Z")
theorem col_add (a b c : Nat) : (if 97 + a = 97 + c ∧ 48 + b = 48 + 0 then 1 else 0) + (if 97 + a = 97 + c ∧ 48 + 0 < 48 + b then 1 else 0) = if 97 + a = 97 + c then 1 else 0 := by
  by_cases q : 97 + a = 97 + c
  · rw [if_pos q]
    by_cases q2 : b = 0
    · rw [if_pos (by revert q q2; walk_at "Z"), if_neg (by revert q q2; walk_at "Z")]
    · rw [if_neg (by revert q q2; walk_at "Z"), if_pos (by revert q q2; walk_at "Z")]
  · rw [if_neg q, if_neg fun h => q h.1, if_neg fun h => q h.1]
theorem col_par {h p : Int × Int} {sts : List (List Nat × Int)} (t : Trip h p sts) (c : Nat) (hc : c < 4) :
    (cnt sts [97 + c, 48 + 0] + above sts c 0) % 2 = (lft c (h.1.toNat, h.2.toNat) + lft c (p.1.toNat, p.2.toNat)) % 2 := by
  refine t.ind (fun q sts => (cnt sts [97 + c, 48 + 0] + above sts c 0) % 2 = (lft c (h.1.toNat, h.2.toNat) + lft c q) % 2) ?_ ?_
  · have : cnt [] [97 + c, 48 + 0] = 0 := rfl
    have h3 : above [] c 0 = 0 := rfl
    rw [this, h3]; walk_at "Z"
  · intro q q' nm k sts ih mv
    obtain ⟨H, hH⟩ : ∃ H, H = lft c (h.1.toNat, h.2.toNat) := ⟨_, rfl⟩
    rw [← hH] at ih ⊢
    cases mv with
    | r ha hb =>
      rename_i a b
      have e := col_add a b c
      rw [lft_up c a b b] at ih
      rw [cnt_pair, above_pair]
      revert ih e; walk_at "Z"
    | l ha hb =>
      rename_i a b
      have e := col_add a b c
      rw [lft_up c a b b]
      rw [cnt_pair, above_pair]
      revert ih e; walk_at "Z"
    | d ha hb =>
      rename_i a b
      rw [cnt_pair, above_pair, if_neg (show ¬ (112 + b = 97 + c ∧ 48 + a = 48 + 0) by revert hc; walk_at "Z"), if_neg (show ¬ (112 + b = 97 + c ∧ 48 + 0 < 48 + a) by revert hc; walk_at "Z")]
      exact ih
    | u ha hb =>
      rename_i a b
      rw [cnt_pair, above_pair, if_neg (show ¬ (112 + b = 97 + c ∧ 48 + a = 48 + 0) by revert hc; walk_at "Z"), if_neg (show ¬ (112 + b = 97 + c ∧ 48 + 0 < 48 + a) by revert hc; walk_at "Z")]
      exact ih
theorem col_even {p : Int × Int} {sts : List (List Nat × Int)} (t : Trip p p sts) (c : Nat) (hc : c < 4) : cnt sts [97 + c, 48 + 0] % 2 = above sts c 0 % 2 := by
  have := col_par t c hc
  revert this; walk_at "Z"

-- u3
-- part 3: a text with marks, and what strip leaves
/-- the marked text of a sequence of states -/
def MO (ys : List (List Nat)) (o : Nat → Bool) : Nat → List Nat
  | 0 => []
  | k + 1 => (MO ys o k ++ if (o k != o (k + 1)) = true then [34] else []) ++ if k < ys.length then ys.getD k [] else []
def LO (ys : List (List Nat)) (o : Nat → Bool) (n : Nat) : List Nat := (((List.range n).filter fun c => o (c + 1)).map fun c => ys.getD c []).flatten
theorem mark_MO {ys ns os : List (List Nat)} {o : Nat → Bool} : ∀ m, (∀ k < m, (ns.getD k [] ∈ os ↔ (o k != o (k + 1)) = true)) → markT ys ns os m = MO ys o m
  | 0, _ => rfl
  | k + 1, h => by
    have ih := mark_MO (ys := ys) k fun j hj => h j (Nat.lt_succ_of_lt hj)
    have hk := h k (Nat.lt_succ_self k)
    unfold markT MO
    rw [ih]
    by_cases q : ns.getD k [] ∈ os
    · rw [if_pos q, if_pos (hk.mp q)]
    · rw [if_neg q, if_neg fun e => q (hk.mpr e)]
/-- the text's tokens -/
def TO (ys : List (List Nat)) (o : Nat → Bool) : Nat → List Tk
  | 0 => []
  | k + 1 => (TO ys o k ++ if (o k != o (k + 1)) = true then [none] else []) ++ if k < ys.length then [some (ys.getD k [])] else []
theorem render_app : ∀ (a b : List Tk), render (a ++ b) = render a ++ render b
  | [], b => rfl
  | none :: r, b => by rw [List.cons_append]; show 34 :: render (r ++ b) = _; rw [render_app r b]; rfl
  | some y :: r, b => by rw [List.cons_append]; show y ++ render (r ++ b) = _; rw [render_app r b]; show _ = (y ++ render r) ++ render b; rw [List.append_assoc]
theorem TO_render (ys : List (List Nat)) (o : Nat → Bool) : ∀ m, render (TO ys o m) = MO ys o m
  | 0 => rfl
  | k + 1 => by
    unfold TO MO
    rw [render_app, render_app, TO_render ys o k]
    congr 1
    · congr 1; split <;> rfl
    · split
      · show _ ++ [] = _; rw [List.append_nil]
      · rfl
theorem TO_closed {ys : List (List Nat)} (o : Nat → Bool) (h : ∀ y ∈ ys, Closed y) : ∀ m, AllC (TO ys o m)
  | 0 => fun y hy => (List.not_mem_nil hy).elim
  | k + 1 => fun y hy => by
    unfold TO at hy
    rcases List.mem_append.mp hy with hy | hy
    · rcases List.mem_append.mp hy with hy | hy
      · exact TO_closed o h k y hy
      · split at hy
        · rw [List.mem_singleton] at hy; cases hy
        · exact (List.not_mem_nil hy).elim
    · split at hy
      · rename_i q
        rw [List.mem_singleton] at hy
        rw [Option.some.inj hy, List.getD_eq_getElem?_getD, List.getElem?_eq_getElem q]
        exact h _ (List.getElem_mem q)
      · exact (List.not_mem_nil hy).elim
theorem LO_succ (ys : List (List Nat)) (o : Nat → Bool) (k : Nat) : LO ys o (k + 1) = LO ys o k ++ if o (k + 1) = true then ys.getD k [] else [] := by
  unfold LO
  rw [List.range_succ, List.filter_append, List.map_append, List.flatten_append, List.filter_cons]
  congr 1
  split
  · show _ ++ [] = _; rw [List.append_nil]
  · rfl
theorem strip_TO (ys : List (List Nat)) (o : Nat → Bool) (h0 : o 0 = true) : ∀ k ≤ ys.length, ∃ pend, (o k = true → pend = none) ∧ (o k = false → ∃ p, pend = some p) ∧ ∀ rest, stripT [] none (TO ys o k ++ rest) = stripT (LO ys o k) pend rest := by
  intro k
  induction k with
  | zero => intro _; exact ⟨none, fun _ => rfl, fun h => (by rw [h0] at h; cases h), fun rest => rfl⟩
  | succ k ih =>
    intro hk
    obtain ⟨pend, h1, h2, h3⟩ := ih (Nat.le_of_succ_le hk)
    have hk' : k < ys.length := hk
    have e : ∀ rest, TO ys o (k + 1) ++ rest = TO ys o k ++ ((if (o k != o (k + 1)) = true then [none] else []) ++ (some (ys.getD k []) :: rest)) := fun rest => by
      show ((TO ys o k ++ _) ++ _) ++ rest = _
      rw [if_pos hk', List.append_assoc, List.append_assoc]; rfl
    cases q1 : o k
    · obtain ⟨p, rfl⟩ := h2 q1
      cases q2 : o (k + 1)
      · refine ⟨some (p ++ ys.getD k []), fun h => (by cases h), fun _ => ⟨_, rfl⟩, fun rest => ?_⟩
        rw [e, h3, LO_succ, q1, q2, if_neg (by decide), if_neg (by decide), List.append_nil]; rfl
      · refine ⟨none, fun _ => rfl, fun h => (by cases h), fun rest => ?_⟩
        rw [e, h3, LO_succ, q1, q2, if_pos (by decide), if_pos rfl]; rfl
    · obtain rfl := h1 q1
      cases q2 : o (k + 1)
      · refine ⟨some ([34] ++ ys.getD k []), fun h => (by cases h), fun _ => ⟨_, rfl⟩, fun rest => ?_⟩
        rw [e, h3, LO_succ, q1, q2, if_pos (by decide), if_neg (by decide), List.append_nil]; rfl
      · refine ⟨none, fun _ => rfl, fun h => (by cases h), fun rest => ?_⟩
        rw [e, h3, LO_succ, q1, q2, if_neg (by decide), if_pos rfl]; rfl
/-- what strip leaves of the marked text: the signs that lie outside -/
theorem strip_MO {ys : List (List Nat)} {o : Nat → Bool} {n : Nat} (hn : ys.length = n) (h0 : o 0 = true) (h1 : o (n + 1) = true) (h : ∀ y ∈ ys, Closed y) : stripOf (MO ys o (n + 1)) = LO ys o n ∧ escEnd false (MO ys o (n + 1)) = false := by
  subst hn
  have hc := TO_closed o h (ys.length + 1)
  rw [← TO_render]
  refine ⟨?_, render_end hc⟩
  rw [strip_render hc]
  obtain ⟨pend, q1, q2, q3⟩ := strip_TO ys o h0 ys.length (Nat.le_refl _)
  show stripT [] none ((TO ys o ys.length ++ _) ++ _) = _
  rw [if_neg (Nat.lt_irrefl _), List.append_nil, q3, h1]
  cases e : o ys.length
  · obtain ⟨p, rfl⟩ := q2 e
    rw [if_pos (by decide)]
    show LO ys o ys.length ++ [] = _
    exact List.append_nil _
  · obtain rfl := q1 e
    rw [if_neg (by decide)]
    show LO ys o ys.length ++ [] = _
    exact List.append_nil _
theorem items_plain {i : Nat} {y : List Nat} (h : ∀ d ∈ y, d ≠ 92) (h2 : ∀ d ∈ y, d ≠ 34) : ∀ p ∈ escItems i false y, p.2 ≠ [34] := by
  induction y generalizing i with
  | nil => intro p hp; exact (List.not_mem_nil hp).elim
  | cons d r ih =>
    intro p hp
    rw [esc_f (h d (.head _))] at hp
    rcases List.mem_cons.mp hp with rfl | hp
    · intro e; exact h2 d (.head _) (List.head_eq_of_cons_eq e)
    · exact ih (fun e he => h e (.tail _ he)) (fun e he => h2 e (.tail _ he)) p hp
theorem closed_plain {y : List Nat} (h : ∀ d ∈ y, d ≠ 92) (h2 : ∀ d ∈ y, d ≠ 34) : Closed y := by
  refine ⟨?_, fun i => items_plain h h2⟩
  induction y with
  | nil => rfl
  | cons d r ih =>
    show escEnd (decide (d = 92)) r = false
    rw [decide_eq_false (h d (.head _))]
    exact ih (fun e he => h e (.tail _ he)) (fun e he => h2 e (.tail _ he))
theorem octs_closed (n : Nat) : Closed (octs n) := closed_plain (fun d hd => by have := (octs_ok n).1 d hd; revert this; walk_at "Z") fun d hd => by have := (octs_ok n).1 d hd; revert this; walk_at "Z"
theorem noq_ok {y : List Nat} : ∀ {i : Nat} {b : Bool} {j : Nat}, (∀ p ∈ escItems i b y, p.2 ≠ [34]) → ∀ p ∈ escItems j b y, p.2 ≠ [34] := by
  induction y with
  | nil =>
    intro i b j h p hp
    cases b
    · exact (List.not_mem_nil hp).elim
    · exact (show p.2 = [92] from (List.mem_singleton.mp hp) ▸ rfl) ▸ by decide
  | cons d r ih =>
    intro i b j h p hp
    cases b
    · by_cases q : d = 92
      · subst q
        rw [esc_b] at hp h
        exact ih h p hp
      · rw [esc_f q] at hp h
        rcases List.mem_cons.mp hp with rfl | hp
        · exact h (i, [d]) (.head _)
        · exact ih (fun p hp => h p (.tail _ hp)) p hp
    · rw [esc_t] at hp h
      rcases List.mem_cons.mp hp with rfl | hp
      · exact h (i, [92, d]) (.head _)
      · exact ih (fun p hp => h p (.tail _ hp)) p hp
theorem signs_closed {kc : Nat} {tl : List Nat} (hk : kc < 4) (ht : tl ∈ tails) : ∀ y ∈ signsOf kc tl, Closed y := by
  have key : ∀ kc < 4, ∀ tl ∈ tails, ∀ y ∈ signsOf kc tl, escEnd false y = false ∧ ∀ p ∈ escItems 0 false y, p.2 ≠ [34] := by decide +kernel
  intro y hy
  have := key kc hk tl ht y hy
  exact ⟨this.1, fun i => noq_ok this.2⟩

-- u4
-- part 4: the rows
theorem outB_eq {sts : List (List Nat × Int)} (h : ∀ p ∈ sts, p.2 = 1 ∨ p.2 = -1) (c r : Nat) : outB sts c r = decide (above sts c r % 2 = 0) := by
  by_cases q : above sts c r % 2 = 0
  · rw [decide_eq_true q]; exact (outB_iff h c r).mpr q
  · rw [decide_eq_false q]
    cases e : outB sts c r
    · rfl
    · exact absurd ((outB_iff h c r).mp e) q
def rowO (sts : List (List Nat × Int)) (r k : Nat) : Bool := decide (above1 sts k r % 2 = 0)
def colO (sts : List (List Nat × Int)) (c : Nat) : Nat → Bool
  | 0 => true
  | k + 1 => decide (above sts c k % 2 = 0)
theorem bne_par {a b n : Nat} (h : n % 2 = (a + b) % 2) : n % 2 = 1 ↔ (decide (a % 2 = 0) != decide (b % 2 = 0)) = true := by
  by_cases q1 : a % 2 = 0
  · by_cases q2 : b % 2 = 0
    · rw [decide_eq_true q1, decide_eq_true q2]
      exact ⟨fun e => (by revert h q1 q2 e; walk_at "Z"), fun e => (by cases e)⟩
    · rw [decide_eq_true q1, decide_eq_false q2]
      exact ⟨fun _ => rfl, fun _ => (by revert h q1 q2; walk_at "Z")⟩
  · by_cases q2 : b % 2 = 0
    · rw [decide_eq_false q1, decide_eq_true q2]
      exact ⟨fun _ => rfl, fun _ => (by revert h q1 q2; walk_at "Z")⟩
    · rw [decide_eq_false q1, decide_eq_false q2]
      exact ⟨fun e => (by revert h q1 q2 e; walk_at "Z"), fun e => (by cases e)⟩
theorem sideD_row {r g : Nat} (hr : r < 3) (hg : g ≤ 4) : SideD [112 + r, 48 + g] := ⟨_, _, rfl, .inr (by revert hr; walk_at "Z"), by revert hg; walk_at "Z"⟩
theorem sideD_col {c l : Nat} (hc : c < 4) (hl : l ≤ 4) : SideD [97 + c, 48 + l] := ⟨_, _, rfl, .inl (by revert hc; walk_at "Z"), by revert hl; walk_at "Z"⟩
section
variable {sts : List (List Nat × Int)} {p : Int × Int} {os : List (List Nat)}
theorem row_mark (t : Trip p p sts) (hos : os = (sidesN sts sts.length).map fun p => p.1.map lo1) {r k : Nat} (hr : r < 3) (hk : k < 5) : (rowNames r).getD k [] ∈ os ↔ (rowO sts r k != rowO sts r (k + 1)) = true := by
  have e : (rowNames r).getD k [] = [112 + r, 48 + k] := by
    rw [List.getD_eq_getElem?_getD]; unfold rowNames; rw [List.getElem?_map, List.getElem?_range hk]; rfl
  rw [e, hos, mem_odd t.names (sideD_row hr (Nat.le_of_lt_succ hk)).low]
  exact bne_par (row_even t k r (Nat.le_of_lt_succ hk))
theorem col_markN (t : Trip p p sts) (hos : os = (sidesN sts sts.length).map fun p => p.1.map lo1) {c k : Nat} (hc : c < 4) (hk : k < 4) : [97 + c, 48 + k] ∈ os ↔ (colO sts c k != colO sts c (k + 1)) = true := by
  rw [hos, mem_odd t.names (sideD_col hc (Nat.le_of_lt hk)).low]
  cases k with
  | zero =>
    refine (bne_par (a := 0) (b := above sts c 0) ?_)
    rw [Nat.zero_add]; exact col_even t c hc
  | succ k =>
    refine bne_par ?_
    have := above_next sts c k t.names
    revert this; walk_at "Z"
theorem row_end (t : Trip p p sts) (r : Nat) : rowO sts r 5 = true := by
  show decide (above sts 4 r % 2 = 0) = true
  rw [above_top t 4 r (by decide) (.inl rfl)]; rfl
theorem col_end (t : Trip p p sts) (c : Nat) (hc : c < 4) : colO sts c 4 = true := by
  show decide (above sts c 3 % 2 = 0) = true
  rw [above_top t c 3 (Nat.le_of_lt hc) (.inr rfl)]; rfl
end
theorem MO_congr {ys : List (List Nat)} {o o' : Nat → Bool} : ∀ m, (∀ k ≤ m, o k = o' k) → MO ys o m = MO ys o' m
  | 0, _ => rfl
  | k + 1, h => by
    unfold MO
    rw [MO_congr k fun j hj => h j (Nat.le_succ_of_le hj), h k (Nat.le_succ k), h (k + 1) (Nat.le_refl _)]
theorem LO_congr {ys : List (List Nat)} {o o' : Nat → Bool} {n : Nat} (h : ∀ k ≤ n, o k = o' k) : LO ys o n = LO ys o' n := by
  unfold LO
  rw [List.filter_congr fun c hc => h (c + 1) (List.mem_range.mp hc)]
def oF (a b c d : Bool) (k : Nat) : Bool := [true, a, b, c, d, true].getD k true
def W4 (a b c d : Bool) : List Nat := [if a then 97 else 65, if b then 98 else 66, if c then 99 else 67, if d then 100 else 68]
/-- one letter's and one tail's rows: small steps for the kernel -/
def LevRow (kc j : Nat) : Prop := ∀ a b c d : Bool, ∀ e < 3, lev (MO (signsOf kc (tails.getD j [])) (oF a b c d) 5) (LO (signsOf kc (tails.getD j [])) (oF a b c d) 4) (2 * (((MO (signsOf kc (tails.getD j [])) (oF a b c d) 5).length : Int) - ((LO (signsOf kc (tails.getD j [])) (oF a b c d) 4).length : Int)) - 1 + (e : Nat)) = 2 * (((MO (signsOf kc (tails.getD j [])) (oF a b c d) 5).length : Int) - ((LO (signsOf kc (tails.getD j [])) (oF a b c d) 4).length : Int))
theorem lev_row_00 : LevRow 0 0 := by unfold LevRow; decide +kernel
theorem lev_row_01 : LevRow 0 1 := by unfold LevRow; decide +kernel
theorem lev_row_02 : LevRow 0 2 := by unfold LevRow; decide +kernel
theorem lev_row_03 : LevRow 0 3 := by unfold LevRow; decide +kernel
theorem lev_row_10 : LevRow 1 0 := by unfold LevRow; decide +kernel
theorem lev_row_11 : LevRow 1 1 := by unfold LevRow; decide +kernel
theorem lev_row_12 : LevRow 1 2 := by unfold LevRow; decide +kernel
theorem lev_row_13 : LevRow 1 3 := by unfold LevRow; decide +kernel
theorem lev_row_20 : LevRow 2 0 := by unfold LevRow; decide +kernel
theorem lev_row_21 : LevRow 2 1 := by unfold LevRow; decide +kernel
theorem lev_row_22 : LevRow 2 2 := by unfold LevRow; decide +kernel
theorem lev_row_23 : LevRow 2 3 := by unfold LevRow; decide +kernel
theorem lev_row_30 : LevRow 3 0 := by unfold LevRow; decide +kernel
theorem lev_row_31 : LevRow 3 1 := by unfold LevRow; decide +kernel
theorem lev_row_32 : LevRow 3 2 := by unfold LevRow; decide +kernel
theorem lev_row_33 : LevRow 3 3 := by unfold LevRow; decide +kernel
theorem tails_at {tl : List Nat} (h : tl ∈ tails) : ∃ j, (j = 0 ∨ j = 1 ∨ j = 2 ∨ j = 3) ∧ tl = tails.getD j [] := by
  simp only [tails, List.mem_cons, List.not_mem_nil, or_false] at h
  rcases h with rfl | rfl | rfl | rfl
  · exact ⟨0, Or.inl rfl, rfl⟩
  · exact ⟨1, Or.inr (Or.inl rfl), rfl⟩
  · exact ⟨2, Or.inr (Or.inr (Or.inl rfl)), rfl⟩
  · exact ⟨3, Or.inr (Or.inr (Or.inr rfl)), rfl⟩
theorem lev_rows : ∀ a b c d : Bool, ∀ kc < 4, ∀ tl ∈ tails, ∀ e < 3, lev (MO (signsOf kc tl) (oF a b c d) 5) (LO (signsOf kc tl) (oF a b c d) 4) (2 * (((MO (signsOf kc tl) (oF a b c d) 5).length : Int) - ((LO (signsOf kc tl) (oF a b c d) 4).length : Int)) - 1 + (e : Nat)) = 2 * (((MO (signsOf kc tl) (oF a b c d) 5).length : Int) - ((LO (signsOf kc tl) (oF a b c d) 4).length : Int)) := by
  intro a b c d kc hk tl ht e he
  obtain ⟨j, hj, rfl⟩ := tails_at ht
  have key : LevRow kc j := by
    rcases lt_four kc hk with rfl | rfl | rfl | rfl <;> rcases hj with rfl | rfl | rfl | rfl
    · exact lev_row_00
    · exact lev_row_01
    · exact lev_row_02
    · exact lev_row_03
    · exact lev_row_10
    · exact lev_row_11
    · exact lev_row_12
    · exact lev_row_13
    · exact lev_row_20
    · exact lev_row_21
    · exact lev_row_22
    · exact lev_row_23
    · exact lev_row_30
    · exact lev_row_31
    · exact lev_row_32
    · exact lev_row_33
  exact key a b c d e he
theorem let_rows : ∀ a b c d : Bool, ∀ kc < 4, ∀ tl ∈ tails, ∀ j < 4, (97 + j ∈ LO (signsOf kc tl) (oF a b c d) 4 ↔ oF a b c d (j + 1) = true) := by decide +kernel
theorem low_rows : ∀ a b c d : Bool, ∀ kc < 4, ∀ tl ∈ tails, (∀ x ∈ MO (signsOf kc tl) (oF a b c d) 5, x < 128) ∧ (MO (signsOf kc tl) (oF a b c d) 5).length ≤ 40 ∧ (∀ x ∈ LO (signsOf kc tl) (oF a b c d) 4, x < 128) ∧ (LO (signsOf kc tl) (oF a b c d) 4).length ≤ 40 := by decide +kernel
theorem word_rows : ∀ a b c d : Bool, ∀ kc < 4, ∀ tl ∈ tails, wordR (LO (signsOf kc tl) (oF a b c d) 4) = W4 a b c d := by decide +kernel
def due4 (a b c d a' b' c' d' : Bool) : Nat := ((List.range 4).filter fun k => oF a b c d (k + 1) != oF a' b' c' d' (k + 1)).length
def LevWord (a b : Bool) : Prop := ∀ c d a' b' c' d' : Bool, ∀ e < due4 a b c d a' b' c' d' + 2, lev (W4 a b c d) (W4 a' b' c' d') (e : Nat) = min (due4 a b c d a' b' c' d' : Int) ((e : Int) + 1)
theorem lev_word_tt : LevWord true true := by unfold LevWord; decide +kernel
theorem lev_word_tf : LevWord true false := by unfold LevWord; decide +kernel
theorem lev_word_ft : LevWord false true := by unfold LevWord; decide +kernel
theorem lev_word_ff : LevWord false false := by unfold LevWord; decide +kernel
theorem lev_words : ∀ a b c d a' b' c' d' : Bool, ∀ e < due4 a b c d a' b' c' d' + 2, lev (W4 a b c d) (W4 a' b' c' d') (e : Nat) = min (due4 a b c d a' b' c' d' : Int) ((e : Int) + 1) := by
  intro a b
  cases a <;> cases b
  · exact lev_word_ff
  · exact lev_word_ft
  · exact lev_word_tf
  · exact lev_word_tt
theorem W4_ok : ∀ a b c d : Bool, (∀ x ∈ W4 a b c d, x < 128) ∧ (W4 a b c d).length ≤ 40 := by decide

-- u5
-- part 5: the law's rows
section
variable {sts : List (List Nat × Int)} {p : Int × Int} {os : List (List Nat)} {kc : Nat} {tl : List Nat}
theorem rowO_F (t : Trip p p sts) (r : Nat) : ∀ k ≤ 5, rowO sts r k = oF (rowO sts r 1) (rowO sts r 2) (rowO sts r 3) (rowO sts r 4) k := by
  intro k hk
  match k with
  | 0 => rfl
  | 1 => rfl
  | 2 => rfl
  | 3 => rfl
  | 4 => rfl
  | 5 => exact row_end t r
  | k + 6 => exact absurd hk (by walk_at "Z")
theorem textR_MO (t : Trip p p sts) (hos : os = (sidesN sts sts.length).map fun p => p.1.map lo1) {r : Nat} (hr : r < 3) (sg : List (List Nat)) : textR sg os r = MO sg (rowO sts r) 5 :=
  mark_MO 5 fun _ hk => row_mark t hos hr hk
theorem leftR_LO (t : Trip p p sts) (r : Nat) (sg : List (List Nat)) : leftR sts sg r = LO sg (rowO sts r) 4 := by
  unfold leftR LO
  rw [List.filter_congr fun c _ => outB_eq t.ones c r]; rfl
theorem words_4 (t : Trip p p sts) (hk : kc < 4) (ht : tl ∈ tails) (r : Nat) : wordR (leftR sts (signsOf kc tl) r) = W4 (colO sts 0 (r + 1)) (colO sts 1 (r + 1)) (colO sts 2 (r + 1)) (colO sts 3 (r + 1)) := by
  rw [leftR_LO t, LO_congr fun k h => rowO_F t r k (Nat.le_succ_of_le h), word_rows _ _ _ _ kc hk tl ht]; rfl
theorem wordsAll_4 (t : Trip p p sts) (hk : kc < 4) (ht : tl ∈ tails) : ∀ l ≤ 4, (wordsAll sts (signsOf kc tl)).getD l [] = W4 (colO sts 0 l) (colO sts 1 l) (colO sts 2 l) (colO sts 3 l) := by
  intro l hl
  match l with
  | 0 => rfl
  | 1 => exact words_4 t hk ht 0
  | 2 => exact words_4 t hk ht 1
  | 3 => exact words_4 t hk ht 2
  | 4 => rw [col_end t 0 (by decide), col_end t 1 (by decide), col_end t 2 (by decide), col_end t 3 (by decide)]; rfl
  | l + 5 => exact absurd hl (by walk_at "Z")
theorem colF (sts : List (List Nat × Int)) (l : Nat) : ∀ k < 4, oF (colO sts 0 l) (colO sts 1 l) (colO sts 2 l) (colO sts 3 l) (k + 1) = colO sts k l := by
  intro k hk
  match k with
  | 0 => rfl
  | 1 => rfl
  | 2 => rfl
  | 3 => rfl
  | k + 4 => exact absurd hk (by walk_at "Z")
theorem dueL_4 (t : Trip p p sts) (hos : os = (sidesN sts sts.length).map fun p => p.1.map lo1) {l : Nat} (hl : l < 4) :
    dueL os l = due4 (colO sts 0 l) (colO sts 1 l) (colO sts 2 l) (colO sts 3 l) (colO sts 0 (l + 1)) (colO sts 1 (l + 1)) (colO sts 2 (l + 1)) (colO sts 3 (l + 1)) := by
  unfold dueL due4
  congr 1
  refine List.filter_congr fun c hc => ?_
  have hc := List.mem_range.mp hc
  rw [colF sts l c hc, colF sts (l + 1) c hc]
  by_cases q : [97 + c, 48 + l] ∈ os
  · rw [decide_eq_true q]; exact ((col_markN t hos hc hl).mp q).symm
  · rw [decide_eq_false q]
    cases e : colO sts c l != colO sts c (l + 1)
    · rfl
    · exact absurd ((col_markN t hos hc hl).mpr e) q
theorem rows_ok (t : Trip p p sts) (hk : kc < 4) (ht : tl ∈ tails) (hos : os = (sidesN sts sts.length).map fun p => p.1.map lo1) : RowsOk sts (signsOf kc tl) os := by
  have hT : ∀ r < 3, textR (signsOf kc tl) os r = MO (signsOf kc tl) (oF (rowO sts r 1) (rowO sts r 2) (rowO sts r 3) (rowO sts r 4)) 5 := fun r hr => (textR_MO t hos hr _).trans (MO_congr 5 (rowO_F t r))
  have hL : ∀ r, leftR sts (signsOf kc tl) r = LO (signsOf kc tl) (oF (rowO sts r 1) (rowO sts r 2) (rowO sts r 3) (rowO sts r 4)) 4 := fun r => (leftR_LO t r _).trans (LO_congr fun k h => rowO_F t r k (Nat.le_succ_of_le h))
  have hS : ∀ r, _ := fun r => strip_MO (n := 4) (o := rowO sts r) (show (signsOf kc tl).length = 4 from rfl) rfl (row_end t r) (signs_closed hk ht)
  refine ⟨fun l hl b hb => ?_, fun w hw => ?_, fun r hr => ?_, fun r hr => ?_, fun r hr => ?_, fun r hr d hd => ?_⟩
  · rw [wordsAll_4 t hk ht l (Nat.le_of_lt hl), wordsAll_4 t hk ht (l + 1) hl, dueL_4 t hos hl]
    rw [dueL_4 t hos hl] at hb
    exact lev_words _ _ _ _ _ _ _ _ b hb
  · obtain ⟨l, hl, rfl⟩ := List.getElem_of_mem hw
    have hlen : (wordsAll sts (signsOf kc tl)).length = 5 := rfl
    have e := wordsAll_4 t hk ht l (by rw [hlen] at hl; exact Nat.le_of_lt_succ hl)
    rw [List.getD_eq_getElem?_getD, List.getElem?_eq_getElem hl] at e
    have e : (wordsAll sts (signsOf kc tl))[l] = _ := e
    rw [e]
    exact W4_ok _ _ _ _
  · rw [textR_MO t hos hr]; exact (hS r).2
  · rw [hT r hr, hL r]
    have := low_rows (rowO sts r 1) (rowO sts r 2) (rowO sts r 3) (rowO sts r 4) kc hk tl ht
    exact ⟨this.2.1, this.1, this.2.2.2, this.2.2.1⟩
  · rw [textR_MO t hos hr, leftR_LO t]; exact (hS r).1
  · rw [hT r hr, hL r]
    exact lev_rows _ _ _ _ kc hk tl ht d hd
theorem left_out (t : Trip p p sts) (hk : kc < 4) (ht : tl ∈ tails) {j r : Nat} (hj : j < 4) : 97 + j ∈ leftR sts (signsOf kc tl) r ↔ outB sts j r = true := by
  rw [leftR_LO t, LO_congr fun k h => rowO_F t r k (Nat.le_succ_of_le h), let_rows _ _ _ _ kc hk tl ht j hj, outB_eq t.ones, ← rowO_F t r (j + 1) (by revert hj; walk_at "Z")]; rfl
end
theorem hall_app (a b : List (List Nat × List Nat)) (x : List Nat) : hall (a ++ b) x = hall a x ++ hall b x := by
  unfold hall; rw [List.filter_append, List.map_append]
theorem lo_letter : ∀ j < 4, [97 + j].map lo1 = [97 + j] := by decide
theorem hall_one {j c : Nat} (hj : j < 4) (hc : c < 4) (i k : Int) (y : List Nat) : hall [(sized [97 + j] i, y)] (sized [97 + c] k) = if j = c then [y] else [] := by
  unfold hall
  rw [List.filter_cons, lo_sized, lo_sized, lo_letter j hj, lo_letter c hc]
  by_cases q : j = c
  · rw [if_pos q, decide_eq_true (by rw [q])]; rfl
  · rw [if_neg q, decide_eq_false fun e => q ((abcd_nodup j hj c hc).mp (decide_eq_true e))]; rfl
theorem hall_part {left : List Nat} {r c : Nat} {oc : List (List Nat)} (hc : c < 4) (k : Int) : ∀ j ≤ 4, hall (tabPart left r oc j) (sized [97 + c] k) = if c < j ∧ 97 + c ∈ left then [oc.getD r []] else [] := by
  intro j
  induction j with
  | zero => intro _; rw [if_neg fun h => Nat.not_lt_zero _ h.1]; rfl
  | succ j ih =>
    intro hj
    have ih := ih (Nat.le_of_succ_le hj)
    by_cases q : 97 + j ∈ left
    · rw [tabPart_in q, hall_app, ih, hall_one hj hc]
      by_cases e : j = c
      · subst e
        rw [if_neg fun h => Nat.lt_irrefl _ h.1, if_pos rfl, if_pos ⟨Nat.lt_succ_self _, q⟩]; rfl
      · rw [if_neg e, List.append_nil]
        by_cases g : c < j ∧ 97 + c ∈ left
        · rw [if_pos g, if_pos ⟨Nat.lt_succ_of_lt g.1, g.2⟩]
        · rw [if_neg g, if_neg fun h => g ⟨by have := h.1; revert this e; walk_at "Z", h.2⟩]
    · rw [tabPart_out q, ih]
      by_cases g : c < j ∧ 97 + c ∈ left
      · rw [if_pos g, if_pos ⟨Nat.lt_succ_of_lt g.1, g.2⟩]
      · rw [if_neg g, if_neg fun h => g ⟨?_, h.2⟩]
        have e : j ≠ c := fun e => q (e ▸ h.2)
        have := h.1; revert this e; walk_at "Z"

-- u6
-- part 6: the columns, and the law's plain half
theorem tapeC_app (a b : List Nat) : tapeC (a ++ b) = tapeC a ++ tapeC b := List.map_append
theorem sign_128 (k : Nat) : ((128 + k % 64) - 128 * ((128 + k % 64) % 2)) / 64 % 2 ≠ 1 ∧ ((128 + k % 64) - 128 * ((128 + k % 64) % 2)) % 64 = k % 64 :=
  (show ∀ x < 64, ((128 + x) - 128 * ((128 + x) % 2)) / 64 % 2 ≠ 1 ∧ ((128 + x) - 128 * ((128 + x) % 2)) % 64 = x by decide +kernel) _ (Nat.mod_lt _ (by decide))
theorem sign_192 (k : Nat) : ((192 + k % 64) - 128 * ((192 + k % 64) % 2)) / 64 % 2 = 1 ∧ ((192 + k % 64) - 128 * ((192 + k % 64) % 2)) % 64 = k % 64 :=
  (show ∀ x < 64, ((192 + x) - 128 * ((192 + x) % 2)) / 64 % 2 = 1 ∧ ((192 + x) - 128 * ((192 + x) % 2)) % 64 = x by decide +kernel) _ (Nat.mod_lt _ (by decide))
theorem octL_reads {n : Nat} {rest : List Nat} : ∀ (f num : Nat) (s : List Nat), num < 64 ^ (f + 1) → vmore (num / 64) (tapeC s ++ rest) = some (n, rest) → vmore 0 (tapeC (octL f num s) ++ rest) = some (n, rest)
  | 0, num, s, h, hv => by
    rw [Nat.div_eq_of_lt (by simpa using h)] at hv
    exact hv
  | f + 1, num, s, h, hv => by
    unfold octL
    by_cases q : 64 ≤ num
    · rw [if_pos q]
      refine octL_reads f (num / 64) _ ?_ ?_
      · rw [Nat.pow_succ] at h
        exact Nat.div_lt_of_lt_mul (by rw [Nat.mul_comm]; exact h)
      · obtain ⟨h1, h2⟩ := sign_192 (num / 64)
        show vmore (num / 64 / 64) (((192 + num / 64 % 64) - 128 * ((192 + num / 64 % 64) % 2)) :: (tapeC s ++ rest)) = _
        unfold vmore
        rw [if_pos h1, h2, Nat.mul_comm, Nat.div_add_mod]
        exact hv
    · rw [if_neg q]
      rw [Nat.div_eq_of_lt (Nat.lt_of_not_le q)] at hv
      exact hv
theorem octs_reads {n : Nat} {rest : List Nat} (h : n < 64 ^ 11) : vmore 0 (tapeC (octs n) ++ rest) = some (n, rest) := by
  refine octL_reads 10 n _ h ?_
  obtain ⟨h1, h2⟩ := sign_128 n
  show vmore (n / 64) (((128 + n % 64) - 128 * ((128 + n % 64) % 2)) :: rest) = _
  unfold vmore
  rw [if_neg h1, h2, Nat.mul_comm, Nat.div_add_mod]
theorem range_at {q r n : Nat} (h : r < n) (f : Nat → Bool) : (List.range n).filter (fun q => decide (r ≤ q) && f q) = (if f r = true then [r] else []) ++ (List.range n).filter (fun q => decide (r + 1 ≤ q) && f q) := by
  induction n with
  | zero => exact absurd h (Nat.not_lt_zero _)
  | succ n ih =>
    rw [List.range_succ, List.filter_append, List.filter_append]
    by_cases e : r < n
    · rw [ih e, List.append_assoc]
      congr 2
      rw [List.filter_cons, List.filter_cons, decide_eq_true (Nat.le_of_lt e), decide_eq_true (show r + 1 ≤ n from e)]; rfl
    · have e : r = n := by revert h e; walk_at "Z"
      subst e
      have h0 : ∀ k, r ≤ k → (List.range r).filter (fun q => decide (k ≤ q) && f q) = [] := fun k hk => List.filter_eq_nil_iff.mpr fun q hq => by
        rw [decide_eq_false (Nat.not_le.mpr (Nat.lt_of_lt_of_le (List.mem_range.mp hq) hk))]; exact Bool.false_ne_true
      rw [h0 r (Nat.le_refl _), h0 (r + 1) (Nat.le_succ _), List.filter_cons, List.filter_cons, decide_eq_true (Nat.le_refl r), decide_eq_false (Nat.not_succ_le_self r)]
      show (if f r = true then [r] else []) = (if f r = true then [r] else []) ++ []
      rw [List.append_nil]
theorem rest_out {sts : List (List Nat × Int)} {oc : List (List Nat)} {c r : Nat} (hr : r < 3) (h : outB sts c r = true) : restC sts oc c r = tapeC (oc.getD r []) ++ restC sts oc c (r + 1) := by
  unfold restC
  rw [range_at (q := 0) hr, if_pos h, List.map_append, List.flatten_append, tapeC_app]
  show tapeC (oc.getD r [] ++ []) ++ _ = _
  rw [List.append_nil]
theorem rest_in {sts : List (List Nat × Int)} {oc : List (List Nat)} {c r : Nat} (hr : r < 3) (h : outB sts c r = false) : restC sts oc c r = restC sts oc c (r + 1) := by
  unfold restC
  rw [range_at (q := 0) hr, if_neg (by rw [h]; exact Bool.false_ne_true)]; rfl
theorem octsOf_get {fi r : Nat} (hr : r < 3) : (octsOf fi).getD r [] = octs (fi + 21 * r) := by
  rw [List.getD_eq_getElem?_getD]; unfold octsOf; rw [List.getElem?_map, List.getElem?_range hr]; rfl
section
variable {sts : List (List Nat × Int)} {p : Int × Int} {os : List (List Nat)} {kc : Nat} {tl : List Nat}
theorem colText_MO (t : Trip p p sts) (hos : os = (sidesN sts sts.length).map fun p => p.1.map lo1) {c : Nat} (hc : c < 4) (oc : List (List Nat)) : colText oc os c = MO oc (colO sts c) 4 :=
  mark_MO 4 fun k hk => by
    have e : (colNames c).getD k [] = [97 + c, 48 + k] := by
      rw [List.getD_eq_getElem?_getD]; unfold colNames; rw [List.getElem?_map, List.getElem?_range hk]; rfl
    rw [e]; exact col_markN t hos hc hk
theorem told_LO (t : Trip p p sts) (c : Nat) (oc : List (List Nat)) : (toldC sts oc c).flatten = LO oc (colO sts c) 3 := by
  unfold toldC LO
  rw [List.filter_congr fun r _ => outB_eq t.ones c r]; rfl
theorem hall_row (t : Trip p p sts) (hk : kc < 4) (ht : tl ∈ tails) (oc : List (List Nat)) {c : Nat} (hc : c < 4) (k : Int) : ∀ r, hall (tabOf sts (signsOf kc tl) oc r) (sized [97 + c] k) = ((List.range r).filter fun r => outB sts c r).map fun r => oc.getD r [] := by
  intro r
  induction r with
  | zero => rfl
  | succ r ih =>
    show hall (tabOf sts (signsOf kc tl) oc r ++ tabPart (leftR sts (signsOf kc tl) r) r oc 4) _ = _
    rw [hall_app, ih, hall_part hc k 4 (Nat.le_refl _), List.range_succ, List.filter_append, List.map_append, List.filter_cons]
    congr 1
    by_cases q : outB sts c r = true
    · rw [if_pos ⟨hc, (left_out t hk ht hc).mpr q⟩, if_pos q]; rfl
    · rw [if_neg fun h => q ((left_out t hk ht hc).mp h.2), if_neg q]; rfl
theorem cols_ok (t : Trip p p sts) (hk : kc < 4) (ht : tl ∈ tails) (hos : os = (sidesN sts sts.length).map fun p => p.1.map lo1) {fi : Nat} (hfi : fi < 1073741824) : ColsOk fi sts (signsOf kc tl) os (octsOf fi) := by
  have hS : ∀ c < 4, _ := fun c hc => strip_MO (n := 3) (o := colO sts c) (show (octsOf fi).length = 3 from rfl) rfl (col_end t c hc) (fun y hy => by
    obtain ⟨r, _, rfl⟩ := List.mem_map.mp hy; exact octs_closed _)
  refine ⟨fun c hc r hr h => ?_, fun c hc => ?_, fun c hc => ?_, fun c hc => ?_, fun c hc r hr h => rest_in hr h, fun c hc => hall_row t hk ht _ hc _ 3⟩
  · rw [rest_out hr h, octsOf_get hr]
    refine octs_reads (Nat.lt_trans (show fi + 21 * r < 2000000000 by revert hfi hr; walk_at "Z") (by decide))
  · rw [colText_MO t hos hc]; exact (hS c hc).2
  · have := markT_len (ys := octsOf fi) (ns := colNames c) (os := os) (b := 11) (fun y hy => by
      obtain ⟨r, _, rfl⟩ := List.mem_map.mp hy; exact (octs_ok _).2) 4
    exact Nat.le_trans this (by decide)
  · rw [colText_MO t hos hc, told_LO t]; exact (hS c hc).1
end
theorem law_plain2 : ∀ sts p kc tl, Trip p p sts → sts.length ≤ 20 → kc < 4 → tl ∈ tails → RowsOk sts (signsOf kc tl) ((sidesN sts sts.length).map fun p => p.1.map lo1) ∧ ∀ fi < 1073741824, ColsOk fi sts (signsOf kc tl) ((sidesN sts sts.length).map fun p => p.1.map lo1) (octsOf fi) :=
  fun _ _ _ _ t _ hk ht => ⟨rows_ok t hk ht rfl, fun _ hfi => cols_ok t hk ht rfl hfi⟩

-- t2
def top.tw1139600151236580504 : Unit := ()
def top.tw16104615914030681952 : Unit := ()
def top.tw18085771088847121727 : Unit := ()
def top.tw18186074749648716422 : Unit := ()
def top.tw10936122117785486979 : Unit := ()
def top.tw5868845118606482295 : Unit := ()
def top.tw14371913498598963198 : Unit := ()
def top.tw9962302188120564619 : Unit := ()
def top.tw14823308797102314842 : Unit := ()
def top.tw10407176745677716521 : Unit := ()
def top.tw16359887908644392378 : Unit := ()
def top.tw17355269125676882429 : Unit := ()
def top.tw5766051744304087583 : Unit := ()
def top.tw1516213087968936877 : Unit := ()
def top.tw987869383939708018 : Unit := ()
def top.tw17620759639134147866 : Unit := ()
def top.tw7740461459972228597 : Unit := ()
def top.tw17882459095617709211 : Unit := ()
def top.tw339143206060000330 : Unit := ()
def top.tw1212798325632107971 : Unit := ()
def top.tw17046948494117081484 : Unit := ()
def top.tw17219337458794519322 : Unit := ()
def top.tw2617719716777270872 : Unit := ()
def top.tw14724332232928298890 : Unit := ()
def top.tw13896958669275611876 : Unit := ()
def top.tw4498253355057717688 : Unit := ()
def top.tw16541100652227675460 : Unit := ()
def top.tw6749217079512962374 : Unit := ()
def top.tw5915399644114372684 : Unit := ()
def top.tw12012865196380796599 : Unit := ()
def top.tw15361541807878343388 : Unit := ()
def top.tw16597617366809209970 : Unit := ()
def top.tw7743179893348639699 : Unit := ()
def top.tw4828031223510198475 : Unit := ()
def top.tw15878805988109762761 : Unit := ()
def top.tw3712731000106771831 : Unit := ()
def top.tw956942650209027819 : Unit := ()
def top.tw5058314954733539658 : Unit := ()
def top.tw9919435345466941130 : Unit := ()
def top.tw8443935842833279946 : Unit := ()
def top.tw6930518751129746686 : Unit := ()
def top.tw13272337422414781067 : Unit := ()
def top.tw2087681917405566656 : Unit := ()
def top.tw8813761850579938390 : Unit := ()
def top.tw2271630213753847771 : Unit := ()
def top.tw7715697345341360870 : Unit := ()
def top.tw2007660962349395123 : Unit := ()
def top.tw5105846836358774362 : Unit := ()
def top.tw12622177474791663080 : Unit := ()
def top.tw2514443458684651071 : Unit := ()
def top.tw6761616313442571491 : Unit := ()
def top.tw8679839319945467846 : Unit := ()
def top.tw16623803187960699014 : Unit := ()
def top.tw4873603975901500873 : Unit := ()
def top.tw16885616592811714743 : Unit := ()
def top.tw12425085872883035938 : Unit := ()
def top.tw14286098252468757816 : Unit := ()
def top.tw11348917583287024722 : Unit := ()
def top.tw6885214360128481674 : Unit := ()
def top.tw18064794426631996164 : Unit := ()
def top.tw7429413206186439793 : Unit := ()
def top.tw2835187731363253809 : Unit := ()
def top.tw14689303997561334279 : Unit := ()
def top.tw17177869089781658578 : Unit := ()
def top.tw16415559393655328363 : Unit := ()
def top.tw6187478851450931391 : Unit := ()
def top.tw14436450140739016385 : Unit := ()
def top.tw1275901062530889299 : Unit := ()
def top.tw2741389259953327712 : Unit := ()
def top.tw6491118196486620199 : Unit := ()
def top.tw4047667213573674445 : Unit := ()
def top.tw2464713573024523455 : Unit := ()
def top.tw7458633546980236471 : Unit := ()
def top.tw11423202765487971197 : Unit := ()
def top.tw12772138429114895339 : Unit := ()
def top.tw14826035006057030972 : Unit := ()
def top.tw6899488460726452626 : Unit := ()
def top.tw7527032243904285869 : Unit := ()
def top.tw11071450960392396080 : Unit := ()
def top.tw1869187583165140508 : Unit := ()
def top.tw9059832203979395877 : Unit := ()
def top.tw4755264550707404760 : Unit := ()
def top.tw620129878449983639 : Unit := ()
def top.tw5581607755468803823 : Unit := ()
def top.tw4205137553216949640 : Unit := ()
def top.tw7250933059871147345 : Unit := ()
def top.tw9614876229902214918 : Unit := ()
def top.tw3567177698169325468 : Unit := ()
def top.tw5889316905344633881 : Unit := ()
def top.tw8139039716903228087 : Unit := ()
def top.tw15092371282622821202 : Unit := ()
def top.tw15058813355848621054 : Unit := ()
def top.tw7855079511596107753 : Unit := ()
def top.tw12166907935582030026 : Unit := ()
def top.tw13307591127769906961 : Unit := ()
def top.tw2541056938265868773 : Unit := ()
def top.tw15299407806266782574 : Unit := ()
def top.tw6505410396798821541 : Unit := ()
def top.tw7673058066778466091 : Unit := ()
def top.tw5244899138074338376 : Unit := ()
def top.tw860223938195835975 : Unit := ()
def top.tw6664487174759623829 : Unit := ()
def top.tw9759319705405543751 : Unit := ()
def top.tw16840627104734473223 : Unit := ()
def top.tw6898770573198911631 : Unit := ()
def top.tw1142415686869020238 : Unit := ()
def top.tw13345470168829271861 : Unit := ()
def top.tw1676862907878916244 : Unit := ()
def top.tw16821654228018055803 : Unit := ()
def top.tw6520327441239513222 : Unit := ()
def top.tw9059672392935016618 : Unit := ()
def top.tw196536941598035525 : Unit := ()
def top.tw12392516345856041104 : Unit := ()
def top.tw11762496359356365647 : Unit := ()
def top.tw12787338502077490372 : Unit := ()
def top.tw13359135706311490777 : Unit := ()
def top.tw2443449257678562572 : Unit := ()
def top.tw16800595933775061595 : Unit := ()
def top.tw13928562000808390012 : Unit := ()
def top.tw13290321428070320777 : Unit := ()
def top.tw72247145696351765 : Unit := ()
def top.tw15985961358823992270 : Unit := ()
def top.tw877433047237710547 : Unit := ()
def top.tw14390669486469195807 : Unit := ()
def top.tw370947364307004932 : Unit := ()
def top.tw3776753064480771068 : Unit := ()
def top.tw9165953624949470791 : Unit := ()
def top.tw8622502720953521162 : Unit := ()
def top.tw1040915598704419856 : Unit := ()
def top.tw9442318146202087700 : Unit := ()
def top.tw4076138812419527698 : Unit := ()
def top.tw9335426496214029073 : Unit := ()
def top.tw13120753694373217308 : Unit := ()
def top.tw3844969445664438809 : Unit := ()
def top.tw17150878257433057509 : Unit := ()
def top.tw5523086135645875356 : Unit := ()
def top.tw1088946173253831356 : Unit := ()
def top.tw12427389293880184781 : Unit := ()
def top.tw15169761463676818070 : Unit := ()
def top.tw775762912060472103 : Unit := ()
def top.tw105208000716104510 : Unit := ()
def top.tw17953984050398360512 : Unit := ()
def top.tw4299629679881509495 : Unit := ()
def top.tw5604026686304666287 : Unit := ()
def top.tw4671429814451907529 : Unit := ()
def top.tw12318557346453588183 : Unit := ()
def top.tw14347721165454393637 : Unit := ()
def top.tw8507776931139520737 : Unit := ()
def top.tw14796646475526232899 : Unit := ()
def top.tw15254643099363442306 : Unit := ()
def top.tw13044034144603486326 : Unit := ()
def top.tw18063644159110109576 : Unit := ()
def top.tw2503927678263735284 : Unit := ()
def top.tw6973244055703517429 : Unit := ()
def top.tw14987219478266130788 : Unit := ()
def top.tw10548783162686979305 : Unit := ()
def top.tw575894324575664597 : Unit := ()
def top.tw17323899518341599180 : Unit := ()
def top.tw13090165191389475591 : Unit := ()
def top.tw2731995056826638727 : Unit := ()
def top.tw11203750815551599093 : Unit := ()
def top.tw17886615442053742456 : Unit := ()
def top.tw8363718466572441477 : Unit := ()
def top.tw1585457916280141200 : Unit := ()
def top.tw9259421805112917234 : Unit := ()
def top.tw3730354652608582461 : Unit := ()
def top.tw10187264123177260123 : Unit := ()
def top.tw16352630495959832749 : Unit := ()
def top.tw13001836021917841797 : Unit := ()
def top.tw2782073688633401757 : Unit := ()
def top.tw17428532607074087071 : Unit := ()
def top.tw17795014544551873601 : Unit := ()
def top.tw342308947776675178 : Unit := ()
def top.tw9382581127745807760 : Unit := ()
def top.tw12342655685612074800 : Unit := ()
def top.tw11443710868159068359 : Unit := ()
def top.tw9800703332001039478 : Unit := ()
def top.tw6883741973766446791 : Unit := ()
def top.tw13365172418744591121 : Unit := ()
def top.tw6438537300738474071 : Unit := ()
def top.tw1245559373397905713 : Unit := ()
def top.tw16058212318047004132 : Unit := ()
def top.tw4713442408853163898 : Unit := ()
def top.tw18008055252877512497 : Unit := ()
def top.tw1617357707322924660 : Unit := ()
def top.tw8143265674769528471 : Unit := ()
def top.tw18245740138792012028 : Unit := ()
def top.tw2218668502564051296 : Unit := ()
def top.tw4166218997396506358 : Unit := ()
def top.tw3261557481417251176 : Unit := ()
set_option maxRecDepth 100000 in
set_option maxHeartbeats 8000000 in
set_option Elab.async true in
theorem top : PySem.Challenge.rw_wn0116_02.Holds := by
  w_on
  o_law
  k_head
  (case hw => w_witness2)
  intro w s0 s1 mg mb G Y fa o pm cd doc dV kV ho hd' hcd hD hmg hg args vals as hpre hlay hrd hwl hlo
  have KX : (kk.heap_1 w.params).In s1.heap := kIn_of Y
  refine Ground.open G ?_
  intro T B D TE TW
  have e1 : mg (Str.ofString "law") = some (.ref 280) := mg_of (K := kk.heap_1 w.params) KX T.g (by rfl)
  have e2 : fa = 280 := Value.ref.inj (Option.some.inj (hmg.symm.trans e1))
  clear e1 hmg hd' hcd hD ho
  subst e2
  wrow_args hpre hlay hrd hwl hlo
  rename_i ns _ _ _ _ _ _ _ l vs _ hL ra _ _ hI _ hc _
  refine enter_call (codeAny_mono (f_law02 (γ := ⟨_, _, w, ExcName.means s0.heap, mg, mb⟩) law_plain2 KX T hL hI (by omega)) ?_)
  rintro r s' ⟨rfl, hR, hk⟩
  exact ⟨.inl ⟨.bool true, .bool true, [], rfl, fun _ => rfl, .bool _, postW_of (by wrow_shape) (by wtm_val) (by w_fin), fun _ => ⟨.nil, fun a ha => nomatch ha⟩⟩, .of_keep hk, hR.os, hR.bare (.of_eq hg)⟩

end Mine
theorem PySem.Challenge.cw_wn0116_02_holds : PySem.Challenge.rw_wn0116_02.Holds := by
  exact Mine.top
