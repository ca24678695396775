import PyProof.Rows.All
import Wide.All
import OpenK.AllK
import Wide.FinOn
import Lean
import PySem.Challenge.RW_wn0116_01
open PySem PySem.W PySem.Calls PyProof.Rows
set_option Elab.async false
set_option linter.unusedVariables false
set_option linter.unusedSimpArgs false
set_option maxRecDepth 10000
namespace Mine
local macro_rules | `(tactic| walk_at "Z") => `(tactic| (kjx_bare; intros; omega))
-- b1
theorem sub_one {n i : Nat} (h : i < n) : n - i = n - i - 1 + 1 := (Nat.sub_add_cancel (Nat.sub_pos_of_lt h)).symm
theorem sub_next {n i k : Nat} (h : n - i = k + 1) : n - (i + 1) = k := congrArg Nat.pred h
theorem succ_sub2 (k i : Nat) : k + 1 - 1 - i.succ = k - 1 - i := by rw [Nat.add_sub_cancel, Nat.sub_succ, Nat.pred_eq_sub_one, Nat.sub_right_comm]
theorem lt_four : ∀ k < 4, k = 0 ∨ k = 1 ∨ k = 2 ∨ k = 3 := by decide
abbrev Loc := Str → Option Value
abbrev Cells := List (Addr × Obj)

structure St where
  prog : Program
  w : World
  K : Frag
  p : Program
  loose : List Str
  mean : ExcName → Option Value
  mg : Str → Option Value
  mb : Str → Option Value

structure Act where
  A : Around
  env : Env
  h₀ : Heap

structure Rest (s₀ s : Shared) : Prop where
  os : s.os = s₀.os
  gens : ∀ (g : Nat) (st : GenState), s₀.gens[g]? = some st → s.gens[g]? = some st
  bare : AllBare s₀.gens → AllBare s.gens

theorem Rest.refl (s : Shared) : Rest s s := ⟨rfl, fun _ _ e => e, id⟩
theorem Rest.trans {a b c : Shared} (x : Rest a b) (y : Rest b c) : Rest a c :=
  ⟨y.os.trans x.os, fun g st e => y.gens g st (x.gens g st e), fun e => y.bare (x.bare e)⟩

structure Pre (c : Act) (m : Loc) (N : Cells) (s₀ s : Shared) : Prop where
  F : Fr c.h₀ c.env.locals s.heap m
  N : News c.h₀ c.env.locals s.heap N
  R : Rest s₀ s

structure Ok (G : St) (n : Nat) (c : Act) : Prop where
  X : G.K.In c.h₀
  T : Top G.p G.loose G.mean G.mg G.mb c.h₀
  depth : c.A.depth + 4 * n < 1000
  units : c.A.units + 20 * n < 9000
  handled : c.A.handled = none
  kind : c.env.scope.kind = .function
  glob : c.env.globals = mainGlobals
  bui : c.env.builtins = builtinsNs

theorem Ok.mono {G : St} {n k : Nat} {c : Act} (o : Ok G n c) (h : k ≤ n) : Ok G k c :=
  ⟨o.X, o.T, by have := o.depth; (first | (revert h this; walk_at "Z") | omega), by have := o.units; (first | (revert h this; walk_at "Z") | omega), o.handled, o.kind, o.glob, o.bui⟩
theorem Ok.room {G : St} {n : Nat} {c : Act} (o : Ok G n c) : c.A.depth < recursionLimit := by
  have := o.depth; show _ < 1000; (first | (revert this; walk_at "Z") | omega)
/-- what stands after a step: the state fits, and Q -/
inductive Aft (c : Act) (s₀ : Shared) {α : Type} (Q : α → Loc → Cells → Prop) (a : α) (s' : Shared) : Prop
  | mk (m' : Loc) (N' : Cells) (p : Pre c m' N' s₀ s') (q : Q a m' N')
inductive AftR (c : Act) (s₀ : Shared) (Q : Flow → Loc → Cells → Prop) (r : Result) (s' : Shared) : Prop
  | mk (f : Flow) (m' : Loc) (N' : Cells) (e : r = .ok f) (p : Pre c m' N' s₀ s') (q : Q f m' N')
/-- the semantic triple: from every state that fits, the tree ends in Q and raises nothing -/
structure TW (G : St) (c : Act) {α : Type} (t : Sem α) (m : Loc) (N : Cells) (Q : α → Loc → Cells → Prop) : Prop where
  out : ∀ (s₀ s : Shared) (E : Value → Shared → Prop), Pre c m N s₀ s →
    wpAny (model G.prog G.w) c.A t (Aft c s₀ Q) E s

section
variable {G : St} {c : Act} {α β : Type} {t : Sem α} {m : Loc} {N : Cells}

theorem Pre.ext {s₀ s : Shared} (P : Pre c m N s₀ s) {h' : Heap} {tk : Nat} {m' : Loc} {N' : Cells} (F : Fr c.h₀ c.env.locals h' m') (N₁ : News c.h₀ c.env.locals h' N') :
    Pre c m' N' s₀ { s with heap := h', toks := tk } := ⟨F, N₁, ⟨P.R.os, P.R.gens, P.R.bare⟩⟩
theorem Pre.tok {s₀ s : Shared} (P : Pre c m N s₀ s) (tk : Nat) : Pre c m N s₀ { s with toks := tk } := ⟨P.F, P.N, ⟨P.R.os, P.R.gens, P.R.bare⟩⟩
theorem Pre.sub {s₀ s : Shared} (P : Pre c m N s₀ s) {N' : Cells} (h : ∀ p ∈ N', p ∈ N) : Pre c m N' s₀ s := ⟨P.F, fun p hp => P.N p (h p hp), P.R⟩
theorem Pre.K {s₀ s : Shared} {n : Nat} (P : Pre c m N s₀ s) (o : Ok G n c) : G.K.In s.heap := o.X.keeps P.F.keep

theorem TW.mono {Q Q' : α → Loc → Cells → Prop} (h : TW G c t m N Q) (hQ : ∀ a m N, Q a m N → Q' a m N) : TW G c t m N Q' :=
  ⟨fun s₀ s E P => wpAny_mono (h.out s₀ s E P) (fun _ _ ⟨m', N', p', q⟩ => ⟨m', N', p', hQ _ _ _ q⟩) fun _ _ e => e⟩
theorem TW.outf {f : α → β} {Q : β → Loc → Cells → Prop} {s₀ s : Shared} {E : Value → Shared → Prop} (h : TW G c t m N fun a m N => Q (f a) m N) (P : Pre c m N s₀ s) :
    wpAny (model G.prog G.w) c.A t (fun a s' => Aft c s₀ Q (f a) s') E s := wpAny_mono (h.out s₀ s E P) (fun _ _ ⟨m', N', p, q⟩ => ⟨m', N', p, q⟩) fun _ _ e => e
theorem TW.pure {a : α} {Q : α → Loc → Cells → Prop} (h : Q a m N) : TW G c (pure a) m N Q := ⟨fun _ _ _ P => wpAny_pure ⟨m, N, P, h⟩⟩
theorem TW.sub {N' : Cells} {Q : α → Loc → Cells → Prop} (h : TW G c t m N' Q) (hs : ∀ p ∈ N', p ∈ N) : TW G c t m N Q := ⟨fun s₀ s E P => h.out s₀ s E (P.sub hs)⟩
theorem TW.drop {Q : α → Loc → Cells → Prop} (h : TW G c t m N (fun a m' N' => ∃ N'', (∀ p ∈ N'', p ∈ N') ∧ Q a m' N'')) : TW G c t m N Q :=
  ⟨fun s₀ s E P => wpAny_mono (h.out s₀ s E P) (fun _ _ ⟨m', _, p', N'', hs, q⟩ => ⟨m', N'', p'.sub hs, q⟩) fun _ _ e => e⟩

/-- lift one step of the library's: the state's heap and tokens alone turn -/
theorem TW.raw {Q : α → Loc → Cells → Prop} (h : ∀ s E (Q' : α → Shared → Prop), Fr c.h₀ c.env.locals s.heap m → News c.h₀ c.env.locals s.heap N →
    (∀ a h' tk m' N', Fr c.h₀ c.env.locals h' m' → News c.h₀ c.env.locals h' N' → Q a m' N' → Q' a { s with heap := h', toks := tk }) → wpAny (model G.prog G.w) c.A t Q' E s) : TW G c t m N Q :=
  ⟨fun s₀ s E P => h s E _ P.F P.N fun a h' tk m' N' F' N₁ q => ⟨m', N', P.ext F' N₁, q⟩⟩
/-- the same where the heap and the locals stay -/
theorem TW.raw0 {Q : α → Loc → Cells → Prop} (h : ∀ s E (Q' : α → Shared → Prop), Fr c.h₀ c.env.locals s.heap m → News c.h₀ c.env.locals s.heap N →
    (∀ a tk, Q a m N → Q' a { s with toks := tk }) → wpAny (model G.prog G.w) c.A t Q' E s) : TW G c t m N Q :=
  ⟨fun s₀ s E P => h s E _ P.F P.N fun a tk q => ⟨m, N, P.tok tk, q⟩⟩
end

-- b2
section
variable {G : St} {c : Act} {n : Nat} {m : Loc} {N : Cells} {pos : Pos}

-- names
theorem t_local {x : Str} {v : Value} {Q : Value → Loc → Cells → Prop} (o : Ok G n c) (hv : m x = some v) (hl : c.env.kindOf x = some .local)
    (h : Q v m N) (hd : (x == ("__debug__" : Str)) = false := by decide) : TW G c (eval (.Name x pos) c.env) m N Q :=
  .raw0 fun s E Q' F N' k => wpAny_Name (wpAny_loadName_local o.kind hl F.ns hv (k _ s.toks h)) hd
theorem t_localn {x : Str} {v : Value} {Q : Value → Loc → Cells → Prop} (o : Ok G n c) (hv : m x = some v) (hl : c.env.kindOf x = some .local)
    (h : Q v m N) : TW G c (loadName c.env x) m N Q :=
  .raw0 fun s E Q' F N' k => wpAny_loadName_local o.kind hl F.ns hv (k _ s.toks h)
theorem t_cell {x : Str} {v : Value} {a : Addr} {ob : Obj} {Q : Value → Loc → Cells → Prop} (o : Ok G n c) (hc : c.env.cells.lookup x = some a) (hm : (a, ob) ∈ N) (hob : ob.data = .cell (some v))
    (hl : c.env.kindOf x = some .cell) (h : Q v m N) (hd : (x == ("__debug__" : Str)) = false := by decide) : TW G c (eval (.Name x pos) c.env) m N Q :=
  .raw0 fun s E Q' F N' k => wpAny_Name (wpAny_loadName_cell o.kind hl hc ⟨ob, N'.get hm, hob⟩ (k _ s.toks h)) hd
theorem t_glob {x : Str} {v : Value} {Q : Value → Loc → Cells → Prop} (o : Ok G n c) (e : nsIn G.K mainGlobals x = some (some v)) (hl : c.env.kindOf x = some .globalImplicit)
    (h : Q v m N) (hd : (x == ("__debug__" : Str)) = false := by decide) : TW G c (eval (.Name x pos) c.env) m N Q :=
  .raw0 fun s E Q' F N' k => Name_function_global o.kind hl (loadGlobal_global (by rw [o.glob]; exact o.T.g.keeps F.keep) (mg_of o.X o.T.g e) (k _ s.toks h)) hd
theorem t_bui {x : Str} {v : Value} {Q : Value → Loc → Cells → Prop} (o : Ok G n c) (e : nsIn G.K mainGlobals x = some none) (hb : bootBuiltins x = some v) (hn : x ≠ "__name__") (hl : c.env.kindOf x = some .globalImplicit)
    (h : Q v m N) (hd : (x == ("__debug__" : Str)) = false := by decide) : TW G c (eval (.Name x pos) c.env) m N Q :=
  .raw0 fun s E Q' F N' k => Name_function_global o.kind hl (loadGlobal_builtin (by rw [o.glob]; exact o.T.g.keeps F.keep) (mg_none_of o.X o.T.g e) (by rw [o.bui]; exact o.T.b.keeps F.keep) ((o.T.builtins x hn).trans hb) (k _ s.toks h)) hd

-- stores
theorem t_store {x : Str} {v : Value} {Q : Unit → Loc → Cells → Prop} (o : Ok G n c) (hl : c.env.kindOf x = some .local)
    (h : Q () (fun y => if y = x then some v else m y) N) : TW G c (storeName c.env x v) m N Q :=
  .raw fun s E Q' F N' k => wpAny_storeName_local hl F.ns (fun h' hn hs => k _ h' _ _ _ (F.set hn hs) (N'.set hs) h) (by rw [o.kind]; rfl)
theorem t_bind {x : Str} {v : Value} {Q : Unit → Loc → Cells → Prop} (h : TW G c (storeName c.env x v) m N Q) : TW G c (bindName c.env x v) m N Q :=
  ⟨fun s₀ s E P => wpAny_bindName (h.out s₀ s E P)⟩

-- constants
theorem t_int {i : Int} {k : Nat} {Q : Value → Loc → Cells → Prop} (h : ∀ t, Q (.int i t) m N) : TW G c (eval (.Constant (.int i) k pos) c.env) m N Q :=
  .raw0 fun s E Q' F N' q => wpAny_Constant_int (q _ _ (h _))
theorem t_str {i : Str} {k : Nat} {Q : Value → Loc → Cells → Prop} (h : ∀ t, Q (.str i t) m N) : TW G c (eval (.Constant (.str i) k pos) c.env) m N Q :=
  .raw0 fun s E Q' F N' q => wpAny_Constant_str (q _ _ (h _))
theorem t_bool {b : Bool} {k : Nat} {Q : Value → Loc → Cells → Prop} (h : Q (.bool b) m N) : TW G c (eval (.Constant (.bool b) k pos) c.env) m N Q :=
  .raw0 fun s E Q' F N' q => wpAny_Constant_bool (q _ s.toks h)
theorem t_none {k : Nat} {Q : Value → Loc → Cells → Prop} (h : Q .none m N) : TW G c (eval (.Constant .none k pos) c.env) m N Q :=
  .raw0 fun s E Q' F N' q => wpAny_Constant_none (q _ s.toks h)

-- composite expressions
theorem t_binop {l r : Expr} {op : Operator} {Q : Value → Loc → Cells → Prop}
    (h : TW G c (eval l c.env) m N fun a m₁ N₁ => TW G c (eval r c.env) m₁ N₁ fun b m₂ N₂ => TW G c (binaryOp op a b) m₂ N₂ Q) : TW G c (eval (.BinOp l op r pos) c.env) m N Q :=
  ⟨fun s₀ s E P => wpAny_BinOp (wpAny_mono (h.out s₀ s E P) (fun _ s₁ ⟨_, _, p₁, q₁⟩ => wpAny_mono (q₁.out s₀ s₁ E p₁) (fun _ s₂ ⟨_, _, p₂, q₂⟩ => q₂.out s₀ s₂ E p₂) fun _ _ e => e) fun _ _ e => e)⟩
theorem t_cmp {l r : Expr} {op : CmpOp} {Q : Value → Loc → Cells → Prop}
    (h : TW G c (eval l c.env) m N fun a m₁ N₁ => TW G c (eval r c.env) m₁ N₁ fun b m₂ N₂ => TW G c (compareOp op a b) m₂ N₂ Q)
    (hm : behindInMarks op r = false := by with_unfolding_all rfl) : TW G c (eval (.Compare l [op] [r] pos) c.env) m N Q :=
  ⟨fun s₀ s E P => wpAny_Compare1 (wpAny_mono (h.out s₀ s E P) (fun _ s₁ ⟨_, _, p₁, q₁⟩ => wpAny_mono (q₁.out s₀ s₁ E p₁) (fun _ s₂ ⟨_, _, p₂, q₂⟩ => q₂.out s₀ s₂ E p₂) fun _ _ e => e) fun _ _ e => e) hm⟩
theorem t_tcmp {l r : Expr} {op : CmpOp} {w : Sem Value} {Q : Bool → Loc → Cells → Prop}
    (h : TW G c (eval l c.env) m N fun a m₁ N₁ => TW G c (eval r c.env) m₁ N₁ fun b m₂ N₂ => TW G c (compareOp op a b) m₂ N₂ fun v m₃ N₃ => TW G c (truthy v) m₃ N₃ Q)
    (hm : behindInMarks op r = false := by with_unfolding_all rfl) : TW G c (isTrue (.Compare l [op] [r] pos) c.env w) m N Q :=
  ⟨fun s₀ s E P => wpAny_isTrue_Compare1 (wpAny_mono (h.out s₀ s E P) (fun _ s₁ ⟨_, _, p₁, q₁⟩ => wpAny_mono (q₁.out s₀ s₁ E p₁) (fun _ s₂ ⟨_, _, p₂, q₂⟩ => wpAny_mono (q₂.out s₀ s₂ E p₂) (fun _ s₃ ⟨_, _, p₃, q₃⟩ => q₃.out s₀ s₃ E p₃) fun _ _ e => e) fun _ _ e => e) fun _ _ e => e) hm⟩
theorem t_unary {x : Expr} {op : UnaryOp} {Q : Value → Loc → Cells → Prop} (h : TW G c (eval x c.env) m N fun a m₁ N₁ => TW G c (unaryOp op a) m₁ N₁ Q) :
    TW G c (eval (.UnaryOp op x pos) c.env) m N Q :=
  ⟨fun s₀ s E P => wpAny_UnaryOp (wpAny_mono (h.out s₀ s E P) (fun _ s₁ ⟨_, _, p₁, q₁⟩ => q₁.out s₀ s₁ E p₁) fun _ _ e => e)⟩
theorem t_ifexp {x y z : Expr} {Q : Value → Loc → Cells → Prop} (h : TW G c (isTrue x c.env (eval x c.env)) m N fun b m₁ N₁ => if b = true then TW G c (eval y c.env) m₁ N₁ Q else TW G c (eval z c.env) m₁ N₁ Q) :
    TW G c (eval (.IfExp x y z pos) c.env) m N Q :=
  ⟨fun s₀ s E P => wpAny_IfExp (wpAny_mono (h.out s₀ s E P) (fun b s₁ ⟨_, _, p₁, q₁⟩ => by
    cases b
    · exact q₁.out s₀ s₁ E p₁
    · exact q₁.out s₀ s₁ E p₁) fun _ _ e => e)⟩
theorem t_or2 {x y : Expr} {Q : Value → Loc → Cells → Prop} (h : TW G c (eval x c.env) m N fun v m₁ N₁ => TW G c (truthy v) m₁ N₁ fun b m₂ N₂ => if b = true then Q v m₂ N₂ else TW G c (eval y c.env) m₂ N₂ Q) :
    TW G c (eval (.BoolOp .Or [x, y] pos) c.env) m N Q :=
  ⟨fun s₀ s E P => wpAny_Or2 (wpAny_mono (h.out s₀ s E P) (fun v s₁ ⟨_, _, p₁, q₁⟩ => wpAny_mono (q₁.out s₀ s₁ E p₁) (fun b s₂ ⟨_, _, p₂, q₂⟩ => by
    cases b
    · exact q₂.out s₀ s₂ E p₂
    · exact ⟨_, _, p₂, q₂⟩) fun _ _ e => e) fun _ _ e => e)⟩

-- tests
theorem t_tval {e : Expr} {w : Sem Value} {Q : Bool → Loc → Cells → Prop} (h : TW G c w m N fun v m₁ N₁ => TW G c (truthy v) m₁ N₁ Q)
    (he : isTrue e c.env w = (do let v ← w; standAt e.pos; holding [v] (truthy v)) := by rfl) : TW G c (isTrue e c.env w) m N Q :=
  ⟨fun s₀ s E P => wpAny_isTrue_value (wpAny_mono (h.out s₀ s E P) (fun _ s₁ ⟨_, _, p₁, q₁⟩ => q₁.out s₀ s₁ E p₁) fun _ _ e => e) he⟩
theorem t_tnot {x : Expr} {w : Sem Value} {Q : Bool → Loc → Cells → Prop} (h : TW G c (isTrue x c.env (eval x c.env)) m N fun b m₁ N₁ => Q (!b) m₁ N₁) :
    TW G c (isTrue (.UnaryOp .Not x pos) c.env w) m N Q :=
  ⟨fun s₀ s E P => wpAny_isTrue_Not (h.outf (f := not) P)⟩
theorem t_tand {vs : List Expr} {op : BoolOp} {w : Sem Value} {Q : Bool → Loc → Cells → Prop} (h : TW G c (allTrue op vs c.env) m N Q) :
    TW G c (isTrue (.BoolOp op vs pos) c.env w) m N Q := ⟨fun s₀ s E P => wpAny_isTrue_BoolOp (h.out s₀ s E P)⟩
theorem t_and_nil {Q : Bool → Loc → Cells → Prop} (h : Q true m N) : TW G c (allTrue .And [] c.env) m N Q := ⟨fun s₀ s E P => wpAny_allTrue_And_nil ⟨_, _, P, h⟩⟩
theorem t_or_nil {Q : Bool → Loc → Cells → Prop} (h : Q false m N) : TW G c (allTrue .Or [] c.env) m N Q := ⟨fun s₀ s E P => wpAny_allTrue_Or_nil ⟨_, _, P, h⟩⟩
theorem t_and_cons {x : Expr} {r : List Expr} {Q : Bool → Loc → Cells → Prop} (h : TW G c (isTrue x c.env (eval x c.env)) m N fun b m₁ N₁ => if b = true then TW G c (allTrue .And r c.env) m₁ N₁ Q else Q false m₁ N₁) :
    TW G c (allTrue .And (x :: r) c.env) m N Q :=
  ⟨fun s₀ s E P => wpAny_allTrue_And_cons (wpAny_mono (h.out s₀ s E P) (fun b s₁ ⟨_, _, p₁, q₁⟩ => by
    cases b
    · exact ⟨_, _, p₁, q₁⟩
    · exact q₁.out s₀ s₁ E p₁) fun _ _ e => e)⟩
theorem t_or_cons {x : Expr} {r : List Expr} {Q : Bool → Loc → Cells → Prop} (h : TW G c (isTrue x c.env (eval x c.env)) m N fun b m₁ N₁ => if b = true then Q true m₁ N₁ else TW G c (allTrue .Or r c.env) m₁ N₁ Q) :
    TW G c (allTrue .Or (x :: r) c.env) m N Q :=
  ⟨fun s₀ s E P => wpAny_allTrue_Or_cons (wpAny_mono (h.out s₀ s E P) (fun b s₁ ⟨_, _, p₁, q₁⟩ => by
    cases b
    · exact q₁.out s₀ s₁ E p₁
    · exact ⟨_, _, p₁, q₁⟩) fun _ _ e => e)⟩
-- statements
theorem t_nil {Q : Flow → Loc → Cells → Prop} (h : Q .next m N) : TW G c (execs [] c.env) m N Q := ⟨fun s₀ s E P => wpAny_execs_nil ⟨_, _, P, h⟩⟩
def Seq (G : St) (c : Act) (r : List Stmt) (Q : Flow → Loc → Cells → Prop) : Flow → Loc → Cells → Prop := fun f m N => match f with
  | .next => TW G c (execs r c.env) m N Q
  | f => Q f m N
theorem t_cons {st : Stmt} {r : List Stmt} {Q : Flow → Loc → Cells → Prop} (h : TW G c (exec st c.env) m N (Seq G c r Q)) : TW G c (execs (st :: r) c.env) m N Q :=
  ⟨fun s₀ s E P => wpAny_execs_cons (wpAny_mono (h.out s₀ s E P) (fun f s₁ ⟨_, _, p₁, q₁⟩ => by
    cases f
    · exact q₁.out s₀ s₁ E p₁
    all_goals exact ⟨_, _, p₁, q₁⟩) fun _ _ e => e)⟩
theorem t_assign {x : Str} {p' : Pos} {v : Expr} {Q : Flow → Loc → Cells → Prop} (h : TW G c (eval v c.env) m N fun a m₁ N₁ => TW G c (storeName c.env x a) m₁ N₁ fun _ m₂ N₂ => Q .next m₂ N₂)
    (hs : swapsWith v (some (.Name x p')) pos.line c.env = pure false := by rfl) : TW G c (exec (.Assign [.Name x p'] v pos) c.env) m N Q :=
  ⟨fun s₀ s E P => wpAny_Assign_Name (wpAny_mono (h.out s₀ s E P) (fun _ s₁ ⟨_, _, p₁, q₁⟩ => q₁.outf (f := fun _ => Flow.next) p₁) fun _ _ e => e) hs⟩
theorem t_aug {x : Str} {p' : Pos} {op : Operator} {v : Expr} {Q : Flow → Loc → Cells → Prop}
    (h : TW G c (loadName c.env x) m N fun a m₁ N₁ => TW G c (eval v c.env) m₁ N₁ fun b m₂ N₂ => TW G c (inplaceOp op a b) m₂ N₂ fun r m₃ N₃ => TW G c (storeName c.env x r) m₃ N₃ fun _ m₄ N₄ => Q .next m₄ N₄) :
    TW G c (exec (.AugAssign (.Name x p') op v pos) c.env) m N Q :=
  ⟨fun s₀ s E P => wpAny_AugAssign_Name (wpAny_mono (h.out s₀ s E P) (fun _ s₁ ⟨_, _, p₁, q₁⟩ => wpAny_mono (q₁.out s₀ s₁ E p₁) (fun _ s₂ ⟨_, _, p₂, q₂⟩ => wpAny_mono (q₂.out s₀ s₂ E p₂) (fun _ s₃ ⟨_, _, p₃, q₃⟩ => q₃.outf (f := fun _ => Flow.next) p₃) fun _ _ e => e) fun _ _ e => e) fun _ _ e => e)⟩
theorem t_if {x : Expr} {y z : List Stmt} {Q : Flow → Loc → Cells → Prop} (h : TW G c (isTrue x c.env (eval x c.env)) m N fun b m₁ N₁ => if b = true then TW G c (execs y c.env) m₁ N₁ Q else TW G c (execs z c.env) m₁ N₁ Q) :
    TW G c (exec (.If x y z pos) c.env) m N Q :=
  ⟨fun s₀ s E P => wpAny_If (wpAny_mono (h.out s₀ s E P) (fun b s₁ ⟨_, _, p₁, q₁⟩ => by
    cases b
    · exact q₁.out s₀ s₁ E p₁
    · exact q₁.out s₀ s₁ E p₁) fun _ _ e => e)⟩
theorem t_ret {x : Expr} {Q : Flow → Loc → Cells → Prop} (h : TW G c (eval x c.env) m N fun a m₁ N₁ => Q (.ret a) m₁ N₁) : TW G c (exec (.Return (some x) pos) c.env) m N Q :=
  ⟨fun s₀ s E P => wpAny_Return_some (h.outf (f := Flow.ret) P)⟩
theorem t_break {Q : Flow → Loc → Cells → Prop} (h : Q .brk m N) : TW G c (exec (.Break pos) c.env) m N Q := ⟨fun s₀ s E P => wpAny_Break ⟨_, _, P, h⟩⟩
def NoRef : Value → Prop
  | .ref _ => False
  | _ => True
theorem t_expr {x : Expr} {Q : Flow → Loc → Cells → Prop} (h : TW G c (eval x c.env) m N fun a m₁ N₁ => NoRef a ∧ Q .next m₁ N₁)
    (hi : interactive c.env = false) (hs : swapsWith x none pos.line c.env = pure false := by rfl) : TW G c (exec (.Expr x pos) c.env) m N Q :=
  ⟨fun s₀ s E P => wpAny_Expr (wpAny_mono (h.out s₀ s E P) (fun v s₁ ⟨_, _, p₁, q₁⟩ => by
    cases v <;> first | exact q₁.1.elim | exact ⟨_, _, p₁, q₁.2⟩) fun _ _ e => e) hi hs⟩
end

-- b3
theorem le_line {k : Nat} (h : k ≤ 16777216) : k ≤ sizeLine := h
/-- a text by its signs -/
def S (l : List Nat) : Str := ⟨l.toArray⟩
theorem S_len (l : List Nat) : (S l).length = l.length := by simp [S, Str.length]
theorem S_app (a b : List Nat) : S a ++ S b = S (a ++ b) := by
  show (Str.append (S a) (S b)) = S (a ++ b)
  simp [S, Str.append]
theorem S_cps (l : List Nat) : (S l).cps = l.toArray := rfl
theorem S_inj {a b : List Nat} : S a = S b ↔ a = b := by
  constructor
  · intro h; have := congrArg (fun x : Str => x.cps.toList) h; simpa [S] using this
  · intro h; rw [h]
theorem S_beq (a b : List Nat) : (S a == S b) = decide (a = b) := by
  by_cases h : a = b
  · subst h; simp
  · rw [decide_eq_false h]
    cases hq : (S a == S b) with
    | false => rfl
    | true => exact absurd (S_inj.mp (eq_of_beq hq)) h
theorem S_bne (a b : List Nat) : (S a != S b) = decide (a ≠ b) := by
  show (!(S a == S b)) = _
  rw [S_beq]; by_cases h : a = b <;> simp [h]

section
variable {G : St} {c : Act} {n : Nat} {m : Loc} {N : Cells} {pos : Pos}

section
variable {a b : Int} {t u : Tok} {Q : Value → Loc → Cells → Prop}
theorem o_add (h : ∀ t, Q (.int (a + b) t) m N) : TW G c (binaryOp .Add (.int a t) (.int b u)) m N Q := .raw0 fun s E Q' F N' k => by with_reducible exact add_int (k _ _ (h _))
theorem o_sub (h : ∀ t, Q (.int (a - b) t) m N) : TW G c (binaryOp .Sub (.int a t) (.int b u)) m N Q := .raw0 fun s E Q' F N' k => by with_reducible exact PyProof.Rows.sub_int (k _ _ (h _))
theorem o_mul (hm : IntMulOk a b) (h : ∀ t, Q (.int (a * b) t) m N) : TW G c (binaryOp .Mult (.int a t) (.int b u)) m N Q := .raw0 fun s E Q' F N' k => by with_reducible exact PyProof.Rows.mul_int (k _ _ (h _)) hm
theorem o_div (hb : b ≠ 0) (hs : b.natAbs < 1073741824) (h : ∀ t, Q (.int (a.fdiv b) t) m N) : TW G c (binaryOp .FloorDiv (.int a t) (.int b u)) m N Q :=
  .raw0 fun s E Q' F N' k => by with_reducible exact PyProof.Rows.floordiv_int hb (k _ _ (h _)) (.inl (PyProof.noPylong_small hs))
theorem o_mod (hb : b ≠ 0) (h : ∀ t, Q (.int (a.fmod b) t) m N) : TW G c (binaryOp .Mod (.int a t) (.int b u)) m N Q := .raw0 fun s E Q' F N' k => by with_reducible exact PyProof.Rows.mod_int' hb (k _ _ (h _))
theorem o_pow (hn : 0 ≤ b) (hsz : (Builtin.Int.intBits a : Int) * b ≤ 2 ^ 27) (h : ∀ t, Q (.int (a ^ b.toNat) t) m N) : TW G c (binaryOp .Pow (.int a t) (.int b u)) m N Q := .raw0 fun s E Q' F N' k => by with_reducible exact PyProof.Rows.pow_int hn hsz (k _ _ (h _))
theorem o_xor (h : ∀ t, Q (.int (Builtin.bitXor a b) t) m N) : TW G c (binaryOp .BitXor (.int a t) (.int b u)) m N Q := .raw0 fun s E Q' F N' k => by with_reducible exact PyProof.Rows.xor_int (k _ _ (h _))
theorem o_and (h : ∀ t, Q (.int (Builtin.bitAnd a b) t) m N) : TW G c (binaryOp .BitAnd (.int a t) (.int b u)) m N Q := .raw0 fun s E Q' F N' k => by with_reducible exact PyProof.Rows.and_int (k _ _ (h _))
theorem o_neg (h : ∀ t, Q (.int (-a) t) m N) : TW G c (unaryOp .USub (.int a t)) m N Q := .raw0 fun s E Q' F N' k => by with_reducible exact PySem.P.neg_int (k _ _ (h _))
theorem i_add (h : ∀ t, Q (.int (a + b) t) m N) : TW G c (inplaceOp .Add (.int a t) (.int b u)) m N Q := .raw0 fun s E Q' F N' k => by with_reducible exact PyProof.Rows.iadd_int (k _ _ (h _))
theorem i_sub (h : ∀ t, Q (.int (a - b) t) m N) : TW G c (inplaceOp .Sub (.int a t) (.int b u)) m N Q := .raw0 fun s E Q' F N' k => by with_reducible exact PyProof.Rows.isub_int (k _ _ (h _))
theorem i_or (h : ∀ t, Q (.int (Builtin.bitOr a b) t) m N) : TW G c (inplaceOp .BitOr (.int a t) (.int b u)) m N Q := .raw0 fun s E Q' F N' k => by with_reducible exact PyProof.Rows.ior_int (k _ _ (h _))
theorem i_shl (hn : 0 ≤ b) (hsz : (Builtin.Int.intBits a : Int) + b ≤ 2 ^ 27) (h : ∀ t, Q (.int (a * 2 ^ b.toNat) t) m N) : TW G c (inplaceOp .LShift (.int a t) (.int b u)) m N Q := .raw0 fun s E Q' F N' k => by with_reducible exact PyProof.Rows.ilshift_int hn hsz (k _ _ (h _))
theorem o_lt (h : Q (.bool (decide (a < b))) m N) : TW G c (compareOp .Lt (.int a t) (.int b u)) m N Q := .raw0 fun s E Q' F N' k => by with_reducible exact PyProof.Rows.lt_int (k _ s.toks h)
theorem o_le (h : Q (.bool (decide (a ≤ b))) m N) : TW G c (compareOp .LtE (.int a t) (.int b u)) m N Q := .raw0 fun s E Q' F N' k => by with_reducible exact PyProof.Rows.le_int (k _ s.toks h)
theorem o_gt (h : Q (.bool (decide (b < a))) m N) : TW G c (compareOp .Gt (.int a t) (.int b u)) m N Q := .raw0 fun s E Q' F N' k => by with_reducible exact PyProof.Rows.gt_int (k _ s.toks h)
theorem o_eq (h : Q (.bool (decide (a = b))) m N) : TW G c (compareOp .Eq (.int a t) (.int b u)) m N Q := .raw0 fun s E Q' F N' k => by with_reducible exact PyProof.Rows.eq_int (k _ s.toks (by
  have e : (a == b) = decide (a = b) := by by_cases q : a = b <;> simp [q]
  rw [e]; exact h))
theorem o_ne (h : Q (.bool (decide (a ≠ b))) m N) : TW G c (compareOp .NotEq (.int a t) (.int b u)) m N Q := .raw0 fun s E Q' F N' k => by with_reducible exact PyProof.Rows.ne_int (k _ s.toks (by
  have e : (a != b) = decide (a ≠ b) := by by_cases q : a = b <;> simp [q]
  rw [e]; exact h))
theorem o_isnone {v : Value} (h : Q (.bool (v == .none)) m N) : TW G c (compareOp .Is v .none) m N Q := .raw0 fun s E Q' F N' k => by with_reducible exact is_none (k _ s.toks h)
theorem o_isnotnone {v : Value} (h : Q (.bool (!(v == .none))) m N) : TW G c (compareOp .IsNot v .none) m N Q := .raw0 fun s E Q' F N' k => by with_reducible exact isNot_none (k _ s.toks h)
end
section
variable {x y : List Nat} {t u : Tok} {Q : Value → Loc → Cells → Prop}
theorem o_seq (h : Q (.bool (decide (x = y))) m N) : TW G c (compareOp .Eq (.str (S x) t) (.str (S y) u)) m N Q := .raw0 fun s E Q' F N' k => by with_reducible exact PyProof.Rows.eq_str (k _ s.toks (by rw [S_beq]; exact h))
theorem o_sne (h : Q (.bool (decide (x ≠ y))) m N) : TW G c (compareOp .NotEq (.str (S x) t) (.str (S y) u)) m N Q := .raw0 fun s E Q' F N' k => by with_reducible exact PyProof.Rows.ne_str (k _ s.toks (by rw [S_bne]; exact h))
theorem o_sadd (hz : x.length + y.length ≤ 16777216) (h : ∀ t, Q (.str (S (x ++ y)) t) m N) : TW G c (binaryOp .Add (.str (S x) t) (.str (S y) u)) m N Q :=
  .raw0 fun s E Q' F N' k => by with_reducible exact PyProof.Rows.add_str (fun t' tk => by rw [S_app]; exact k _ _ (h _)) (by rw [S_len, S_len]; exact le_line hz)
theorem i_sadd (hz : x.length + y.length ≤ 16777216) (h : ∀ t, Q (.str (S (x ++ y)) t) m N) : TW G c (inplaceOp .Add (.str (S x) t) (.str (S y) u)) m N Q :=
  .raw0 fun s E Q' F N' k => by with_reducible exact PyProof.Rows.iadd_str (fun t' tk => by rw [S_app]; exact k _ _ (h _)) (by rw [S_len, S_len]; exact le_line hz)
theorem o_notin1 {d : Nat} (h : Q (.bool (!decide (d ∈ x))) m N) : TW G c (compareOp .NotIn (.str (S [d]) t) (.str (S x) u)) m N Q :=
  .raw0 fun s E Q' F N' k => by with_reducible exact PyProof.Rows.notIn_str (k _ s.toks (by
    rw [show S [d] = ⟨#[d]⟩ from rfl, PySem.StrLaws.found_one]; exact (Eq.mpr (congrArg (fun b => Q (.bool (!b)) m N) (decide_eq_decide.mpr (by simp [S_cps]))) h)))
end
section
variable {Q : Bool → Loc → Cells → Prop}
theorem b_bool {b : Bool} (h : Q b m N) : TW G c (truthy (.bool b)) m N Q := .raw0 fun s E Q' F N' k => by with_reducible exact wpAny_truthy_bool (k _ s.toks h)
theorem b_int {a : Int} {t : Tok} (h : Q (decide (a ≠ 0)) m N) : TW G c (truthy (.int a t)) m N Q := .raw0 fun s E Q' F N' k => by with_reducible exact PySem.P.truthy_int (k _ s.toks (by
  have e : (a != 0) = decide (a ≠ 0) := by by_cases q : a = 0 <;> simp [q]
  rw [e]; exact h))
theorem b_none (h : Q false m N) : TW G c (truthy .none) m N Q := .raw0 fun s E Q' F N' k => by with_reducible exact PyProof.Rows.truthy_none (k _ s.toks h)
theorem b_str {x : List Nat} {t : Tok} (hz : x.length ≤ 16777216) (h : Q (decide (x ≠ [])) m N) : TW G c (truthy (.str (S x) t)) m N Q :=
  .raw0 fun s E Q' F N' k => by with_reducible exact PySem.P.truthy_str (by rw [S_len]; (first | (revert hz; walk_at "Z") | omega)) (k _ _ (by
    have e : (((S x).length : Int) != 0) = decide (x ≠ []) := by
      rw [S_len]; cases x <;> simp <;> (first | walk_at "Z" | omega)
    rw [e]; exact h))
end
theorem u_not {v : Value} {Q : Value → Loc → Cells → Prop} (h : TW G c (truthy v) m N fun b m' N' => Q (.bool (!b)) m' N') : TW G c (unaryOp .Not v) m N Q :=
  ⟨fun s₀ s E P => not_value (h.outf (f := fun b => Value.bool (!b)) P)⟩
end

-- b4
def retOf : Flow → Value
  | .ret v => v
  | _ => .none

theorem ground {c : Act} {m : Loc} {N : Cells} {s₀ s : Shared} (P : Pre c m N s₀ s) :
    (∀ b o, c.h₀.get? b = some o → (hideAll s.heap (N.map (·.1))).get? b = some o) ∧
    (∀ b o, (hideAll s.heap (N.map (·.1))).get? b = some o → s.heap.get? b = some o) ∧
    ∀ {L' : Addr} {m' : Loc} {N' : Cells} {s'' : Shared}, Fr (hideAll s.heap (N.map (·.1))) L' s''.heap m' → News (hideAll s.heap (N.map (·.1))) L' s''.heap N' → Rest s₀ s'' → Pre c m N' s₀ s'' := by
  have nm : ∀ b o, c.h₀.get? b = some o → b ∉ N.map (·.1) := fun b o e q => by
    obtain ⟨p, hp, rfl⟩ := List.mem_map.mp q
    rw [(P.N p hp).2.2] at e; cases e
  have st : ∀ b o, c.h₀.get? b = some o → (hideAll s.heap (N.map (·.1))).get? b = some o := fun b o e => hideAll_get _ (P.F.keep b o e) (nm b o e)
  obtain ⟨oL, es, ep, hL, hLd, hLk, hLf⟩ := P.F.ns
  have nL : c.env.locals ∉ N.map (·.1) := fun q => by
    obtain ⟨p, hp, e⟩ := List.mem_map.mp q
    exact (P.N p hp).2.1 e
  have hLg := hideAll_get (N.map (·.1)) hL nL
  refine ⟨st, fun b o e => of_hideAll _ e, fun {L' m' N' s''} F' N₁ R => ⟨⟨⟨oL, es, ep, F'.keep _ oL hLg, hLd, hLk, hLf⟩, fun b o e => F'.keep b o (st b o e), P.F.above⟩, fun p hp => ⟨(N₁ p hp).1, fun q => ?_, ?_⟩, R⟩⟩
  · have := (N₁ p hp).2.2; rw [q, hLg] at this; cases this
  · cases q : c.h₀.get? p.1 with
    | none => rfl
    | some o => have := (N₁ p hp).2.2; rw [st _ _ q] at this; cases this

section
variable {G : St} {c : Act} {n : Nat} {m : Loc} {N : Cells} {pos : Pos}

theorem okDeeper {env : Env} {h₀ : Heap} (o : Ok G (n + 1) c) (st : ∀ b o, c.h₀.get? b = some o → h₀.get? b = some o) (hk : env.scope.kind = .function) (hg : env.globals = mainGlobals) (hb : env.builtins = builtinsNs) :
    Ok G n ⟨c.A.deeper env, env, h₀⟩ :=
  ⟨o.X.keeps st, o.T.keeps st, by have := o.depth; show c.A.depth + 1 + 4 * n < 1000; (first | (revert this; walk_at "Z") | omega), by have := o.units; show c.A.units + 3 + 20 * n < 9000; (first | (revert this; walk_at "Z") | omega), o.handled, hk, hg, hb⟩

theorem t_call {name qual : Str} {params : Arguments} {body : List Stmt} {scope : Scope} {dV kV doc pm cdv ct oc : Value} {an od : Option Addr} {osl : Array (Option Value)} {f : Addr} {args : List Value} {kw : List (Str × Value)} {binds : List (Str × Value)} {Q : Value → Loc → Cells → Prop}
    (o : Ok G (n + 1) c)
    (ho : G.K.lookup f = some ⟨oc, od, .func (fnOf name qual params body scope dV kV doc pm an cdv ct), osl⟩) (hcd : codeIn G.K cdv qual = true)
    (hbind : ∀ s : Shared, G.K.In s.heap → BindsTo s (fnOf name qual params body scope dV kV doc pm an cdv ct) ⟨args, kw⟩ binds)
    (hloc : ∀ y ∈ binds, scope.names.lookup y.1 = some .local) (hcell : ∀ x ∈ scope.names, x.2 ≠ .cell)
    (hco : scope.isCoroutine = false) (hgen : scope.isGenerator = false) (hk : scope.kind = .function)
    (h : ∀ c' : Act, c'.env.scope = scope → Ok G n c' → TW G c' (execs body c'.env) (fun y => binds.reverse.lookup y) N (fun fl _ N' => Q (retOf fl) m N')) :
    TW G c (call (.ref f) args kw) m N Q := ⟨fun s₀ s E P => by
  obtain ⟨st, sub, back⟩ := ground P
  have X := P.K o
  with_reducible refine wpAny_call ?_
  refine codeAny_call_def (fd := fnOf name qual params body scope dV kV doc pm an cdv ct) (body := body) (binds := binds) o.room (X _ _ ho) rfl (o.T.nolimit.keeps P.F.keep) (codeRec_of X hcd) rfl (hbind s X) hcell hloc (fun h₁ hns hk₁ => ?_) hco hgen hk
  have O := okDeeper (env := callEnv (fnOf name qual params body scope dV kV doc pm an cdv ct) s.heap.objs.size f) o st hk rfl rfl
  have W := h ⟨c.A.deeper _, callEnv (fnOf name qual params body scope dV kV doc pm an cdv ct) s.heap.objs.size f, hideAll s.heap (N.map (·.1))⟩ rfl O
  have P' : Pre ⟨c.A.deeper (callEnv (fnOf name qual params body scope dV kV doc pm an cdv ct) s.heap.objs.size f), callEnv (fnOf name qual params body scope dV kV doc pm an cdv ct) s.heap.objs.size f, hideAll s.heap (N.map (·.1))⟩ (fun y => binds.reverse.lookup y) N s₀ { s with heap := h₁, toks := s.toks + binds.length } :=
    ⟨⟨hns, fun b o e => hk₁ b o (sub b o e), Nat.le_of_eq (hideAll_size _ _)⟩,
     fun p hp => ⟨hk₁ _ _ (P.N p hp).1, Nat.ne_of_lt (Heap.lt_size (P.N p hp).1), hideAll_none _ (List.mem_map_of_mem hp)⟩, ⟨P.R.os, P.R.gens, P.R.bare⟩⟩
  exact wpAny_mono (W.out _ _ _ P') (fun fl s' ⟨m', N', p', q⟩ => ⟨m, N', back p'.F p'.N p'.R, q⟩) fun _ _ e => e⟩

/-- a def some of whose names stand in cells -/
theorem t_callC {name qual : Str} {params : Arguments} {body : List Stmt} {scope : Scope} {dV kV doc pm cdv ct oc : Value} {an od : Option Addr} {osl : Array (Option Value)} {f : Addr} {args : List Value} {kw : List (Str × Value)} {binds : List (Str × Value)} {Q : Value → Loc → Cells → Prop}
    (o : Ok G (n + 1) c)
    (ho : G.K.lookup f = some ⟨oc, od, .func (fnOf name qual params body scope dV kV doc pm an cdv ct), osl⟩) (hcd : codeIn G.K cdv qual = true)
    (hbind : ∀ s : Shared, G.K.In s.heap → BindsTo s (fnOf name qual params body scope dV kV doc pm an cdv ct) ⟨args, kw⟩ binds)
    (hkind : (binds.all fun y => scope.names.lookup y.1 == some .local || scope.names.lookup y.1 == some .cell) = true)
    (hnd : ((cellsFrom 0 scope.names []).map (·.1)).Nodup)
    (hco : scope.isCoroutine = false) (hgen : scope.isGenerator = false) (hk : scope.kind = .function)
    (h : ∀ (c' : Act) (cs : Cells), c'.env.scope = scope → c'.env.cells = cellsFrom (c'.env.locals + 1) scope.names [] → Ok G n c' →
      CellsAre (bindC (fun x => scope.names.lookup x) binds fun _ => none) c'.env.cells cs → (∀ p ∈ cs, ∀ q ∈ N, p.1 ≠ q.1) →
      TW G c' (execs body c'.env) (bindL (fun x => scope.names.lookup x) binds fun _ => none) (cs ++ N) (fun fl _ N' => Q (retOf fl) m N')) :
    TW G c (call (.ref f) args kw) m N Q := ⟨fun s₀ s E P => by
  obtain ⟨st, sub, back⟩ := ground P
  have X := P.K o
  with_reducible refine wpAny_call ?_
  refine codeAny_call_function (fd := fnOf name qual params body scope dV kV doc pm an cdv ct) (body := body) o.room (X _ _ ho) rfl hco hgen rfl (codeRec_of X hcd) (hbind s X _ _ _ _ ?_)
  refine wpAny_newFunctionEnv_cells hk (kindsX hkind _) fun env' he s' x => ?_
  subst he
  refine ⟨(o.T.nolimit.keeps P.F.keep).keeps x.toInCall.keep, codeAny_func ?_⟩
  obtain ⟨h₁, tk, rfl, _⟩ := x.done
  have hk₁ := x.toInCall.keep
  obtain ⟨cells, NC, Y⟩ := Cl.news (h₀ := s.heap) (Nat.le_refl _) fun n c hm => ⟨x.cell n c (lookup_of_mem_nodup (cellsFrom_names scope.names 0 (s.heap.objs.size + 1) [] [] rfl ▸ hnd) hm), x.above n c hm⟩
  have O := okDeeper (env := newEnv scope s.heap.objs.size mainGlobals (cellsFrom (s.heap.objs.size + 1) scope.names []) (qual ++ ".<locals>.") (some f) cdv none builtinsNs) o st hk rfl rfl
  have ap : ∀ p ∈ cells, ∀ q ∈ N, p.1 ≠ q.1 := fun p hp q hq e => by
    have := (NC p hp).2.2; rw [e, (P.N q hq).1] at this; cases this
  have W := h _ cells rfl rfl O Y ap
  refine wpAny_mono (W.out s₀ _ _ ⟨⟨x.toInCall.ns, fun b o e => hk₁ b o (sub b o e), Nat.le_of_eq (hideAll_size _ _)⟩, fun p hp => ?_, ⟨P.R.os, P.R.gens, P.R.bare⟩⟩) (fun fl s' ⟨m', N', p', q⟩ => ⟨m, N', back p'.F p'.N p'.R, q⟩) fun _ _ e => e
  rcases List.mem_append.mp hp with hp | hp
  · refine ⟨(NC p hp).1, (NC p hp).2.1, ?_⟩
    cases q : (hideAll s.heap (N.map (·.1))).get? p.1 with
    | none => rfl
    | some o => have := of_hideAll _ q; rw [(NC p hp).2.2] at this; cases this
  · exact ⟨hk₁ _ _ (P.N p hp).1, Nat.ne_of_lt (Heap.lt_size (P.N p hp).1), hideAll_none _ (List.mem_map_of_mem hp)⟩⟩

-- calls in expressions
theorem t_Call {func : Expr} {args : List Expr} {Q : Value → Loc → Cells → Prop}
    (h : TW G c (eval func c.env) m N fun f m₁ N₁ => TW G c (callWith pos f [] (backTo pos (starEach args c.env)) []) m₁ N₁ Q)
    (he : eval (.Call func args [] pos) c.env = (do callWith pos (← eval func c.env) [] (backTo pos (starEach args c.env)) (backToKw pos (keywordEach [] c.env))) := by rfl) :
    TW G c (eval (.Call func args [] pos) c.env) m N Q :=
  ⟨fun s₀ s E P => by with_reducible exact Call_ (wpAny_mono (h.out s₀ s E P) (fun _ s₁ ⟨_, _, p₁, q₁⟩ => q₁.out s₀ s₁ E p₁) fun _ _ e => e) he⟩
theorem t_items_nil {Q : List Value → Loc → Cells → Prop} (h : Q [] m N) : TW G c (spliced (backTo pos (starEach [] c.env))) m N Q :=
  ⟨fun s₀ s E P => by with_reducible exact wpAny_items_nil ⟨_, _, P, h⟩⟩
theorem t_items {e : Expr} {rest : List Expr} {Q : List Value → Loc → Cells → Prop}
    (h : TW G c (eval e c.env) m N fun v m₁ N₁ => TW G c (spliced (backTo pos (starEach rest c.env))) m₁ N₁ fun vs m₂ N₂ => Q (v :: vs) m₂ N₂)
    (he : starEach (e :: rest) c.env = (false, eval e c.env) :: starEach rest c.env := by rfl) : TW G c (spliced (backTo pos (starEach (e :: rest) c.env))) m N Q :=
  ⟨fun s₀ s E P => by with_reducible exact wpAny_items_cons (wpAny_mono (h.out s₀ s E P) (fun _ s₁ ⟨_, _, p₁, q₁⟩ => q₁.outf (f := fun vs => _ :: vs) p₁) fun _ _ e => e) he⟩
theorem t_cwK {f : Value} {first : List Value} {e : Expr} {rest : List Expr} {Q : Value → Loc → Cells → Prop} (o : Ok G n c) (hk : keepIn G.K f = true)
    (h : TW G c (spliced (backTo pos (starEach (e :: rest) c.env))) m N fun vs m₁ N₁ => TW G c (call f (first ++ vs)) m₁ N₁ Q)
    (he : starEach (e :: rest) c.env = (false, eval e c.env) :: starEach rest c.env := by rfl) (hplain : (backTo pos (starEach rest c.env)).any (·.1) = false := by rfl) :
    TW G c (callWith pos f first (backTo pos (starEach (e :: rest) c.env)) []) m N Q :=
  ⟨fun s₀ s E P => by with_reducible exact callWith_K o.X hk (wpAny_mono (h.out s₀ s E P) (fun _ s₁ ⟨_, _, p₁, q₁⟩ => ⟨p₁.K o, q₁.out s₀ s₁ E p₁⟩) fun _ _ e => e) he hplain⟩
theorem t_cwK0 {f : Value} {first : List Value} {Q : Value → Loc → Cells → Prop} (o : Ok G n c) (hk : keepIn G.K f = true)
    (h : TW G c (call f (first ++ [])) m N Q) : TW G c (callWith pos f first (backTo pos (starEach [] c.env)) []) m N Q :=
  ⟨fun s₀ s E P => by with_reducible exact callWith_K0 (P.K o) hk (h.out s₀ s E P)⟩
theorem t_cwB {id : String} {first : List Value} {e : Expr} {rest : List Expr} {Q : Value → Loc → Cells → Prop}
    (h : TW G c (spliced (backTo pos (starEach (e :: rest) c.env))) m N fun vs m₁ N₁ => TW G c (call (.builtin id) (first ++ vs)) m₁ N₁ Q)
    (he : starEach (e :: rest) c.env = (false, eval e c.env) :: starEach rest c.env := by rfl) (hplain : (backTo pos (starEach rest c.env)).any (·.1) = false := by rfl) :
    TW G c (callWith pos (.builtin id) first (backTo pos (starEach (e :: rest) c.env)) []) m N Q :=
  ⟨fun s₀ s E P => by with_reducible exact callWith_method1 (wpAny_mono (h.out s₀ s E P) (fun _ s₁ ⟨_, _, p₁, q₁⟩ => q₁.out s₀ s₁ E p₁) fun _ _ e => e) he hplain⟩
theorem t_cwB0 {id : String} {first : List Value} {Q : Value → Loc → Cells → Prop}
    (h : TW G c (call (.builtin id) first) m N Q) : TW G c (callWith pos (.builtin id) first (backTo pos (starEach [] c.env)) []) m N Q :=
  ⟨fun s₀ s E P => by with_reducible exact callWith_method0 (h.out s₀ s E P)⟩
theorem t_cwT {T : String} {e : Expr} {rest : List Expr} {Q : Value → Loc → Cells → Prop}
    (h : TW G c (spliced (backTo pos (starEach (e :: rest) c.env))) m N fun vs m₁ N₁ => TW G c (call (.type T) vs) m₁ N₁ Q)
    (he : starEach (e :: rest) c.env = (false, eval e c.env) :: starEach rest c.env := by rfl) (hplain : (backTo pos (starEach rest c.env)).any (·.1) = false := by rfl) :
    TW G c (callWith pos (.type T) [] (backTo pos (starEach (e :: rest) c.env)) []) m N Q :=
  ⟨fun s₀ s E P => by with_reducible exact PySem.Pv.callWith_type1 (wpAny_mono (h.out s₀ s E P) (fun _ s₁ ⟨_, _, p₁, q₁⟩ => q₁.out s₀ s₁ E p₁) fun _ _ e => e) he hplain⟩
theorem t_Meth {ob : Expr} {name : Str} {apos : Pos} {args : List Expr} {pl : Sem Bool} {Q : Value → Loc → Cells → Prop}
    (h : TW G c (eval ob c.env) m N fun ov m₁ N₁ => TW G c (getMethod ov name pl) m₁ N₁ fun fx m₂ N₂ => TW G c (callWith pos fx.1 fx.2 (backTo pos (starEach args c.env)) []) m₂ N₂ Q)
    (he : eval (.Call (.Attribute ob name apos) args [] pos) c.env = (do
      let ov ← eval ob c.env
      standAt apos.atName
      let (f, first) ← holding [ov] (getMethod ov name pl)
      callWith pos f first (backTo pos (starEach args c.env)) []) := by rfl) :
    TW G c (eval (.Call (.Attribute ob name apos) args [] pos) c.env) m N Q :=
  ⟨fun s₀ s E P => by with_reducible exact MethodCall_ (wpAny_mono (h.out s₀ s E P) (fun _ s₁ ⟨_, _, p₁, q₁⟩ => wpAny_mono (q₁.out s₀ s₁ E p₁) (fun _ s₂ ⟨_, _, p₂, q₂⟩ => q₂.out s₀ s₂ E p₂) fun _ _ e => e) fun _ _ e => e) he⟩
end

-- b5
abbrev tupOf (its : Array Value) (n : Nat) : Obj := { cls := .type "tuple", data := .seq its n }
/-- the cell a bears o' -/
def put (a : Addr) (o' : Obj) (N : Cells) : Cells := N.map fun p => if p.1 = a then (a, o') else p
def Fresh (a : Addr) (N : Cells) : Prop := ∀ p ∈ N, p.1 ≠ a
theorem Fresh.sub {a : Addr} {N N' : Cells} (h : Fresh a N) (hs : ∀ p ∈ N', p ∈ N) : Fresh a N' := fun p hp => h p (hs p hp)
theorem put_fresh {a : Addr} {o' : Obj} {N : Cells} (h : Fresh a N) : put a o' N = N := by
  unfold put
  conv => rhs; rw [← List.map_id N]
  refine List.map_congr_left fun p hp => ?_
  rw [if_neg (h p hp)]; rfl
theorem put_head {a : Addr} {o o' : Obj} {N : Cells} (h : Fresh a N) : put a o' ((a, o) :: N) = (a, o') :: N := by
  show (if a = a then (a, o') else (a, o)) :: put a o' N = _
  rw [if_pos rfl, put_fresh h]
theorem put_tail {a b : Addr} {o o' : Obj} {N : Cells} (h : b ≠ a) : put a o' ((b, o) :: N) = (b, o) :: put a o' N := by
  show (if b = a then (a, o') else (b, o)) :: put a o' N = _
  rw [if_neg h]
theorem put_mem {a : Addr} {o o' : Obj} {N : Cells} (h : (a, o) ∈ N) : (a, o') ∈ put a o' N := by
  unfold put
  exact List.mem_map.mpr ⟨(a, o), h, by simp⟩
theorem put_other {a b : Addr} {o o' : Obj} {N : Cells} (h : (b, o) ∈ N) (hn : b ≠ a) : (b, o) ∈ put a o' N := by
  unfold put
  exact List.mem_map.mpr ⟨(b, o), h, by simp [hn]⟩
theorem put_dom {a b : Addr} {o' : Obj} {N : Cells} (h : Fresh b N) : Fresh b (put a o' N) := by
  intro p hp
  obtain ⟨q, hq, rfl⟩ := List.mem_map.mp hp
  by_cases e : q.1 = a
  · rw [if_pos e]; show a ≠ b; rw [← e]; exact h q hq
  · rw [if_neg e]; exact h q hq

theorem news_put {h₀ h h' : Heap} {L a : Addr} {m : Loc} {N : Cells} {o o' : Obj} (F : Fr h₀ L h m) (N₀ : News h₀ L h N) (hm : (a, o) ∈ N) (hs : Heap.SameBut a h h') (ho : h'.get? a = some o') :
    Fr h₀ L h' m ∧ News h₀ L h' (put a o' N) := by
  have z := N₀ _ hm
  refine ⟨F.change hs z.2.1 z.2.2, fun p hp => ?_⟩
  obtain ⟨q, hq, rfl⟩ := List.mem_map.mp hp
  by_cases e : q.1 = a
  · rw [if_pos e]; exact ⟨ho, z.2⟩
  · rw [if_neg e]; exact ⟨(hs.2 _ e).trans (N₀ q hq).1, (N₀ q hq).2⟩
theorem news_fresh {h₀ h : Heap} {L : Addr} {N : Cells} (N₀ : News h₀ L h N) : Fresh h.objs.size N := fun p hp => Nat.ne_of_lt (Heap.lt_size (N₀ p hp).1)

/-- the items between two bounds, as a slice clamps them -/
def cut {α : Type} (x : List α) (lo hi : Option Int) : List α := (x.drop (lo.elim 0 (clipAt x.length))).take (hi.elim x.length (clipAt x.length) - lo.elim 0 (clipAt x.length))
theorem cut_len {α : Type} (x : List α) (lo hi : Option Int) : (cut x lo hi).length ≤ x.length := by
  unfold cut; rw [List.length_take, List.length_drop]; exact Nat.le_trans (Nat.min_le_right _ _) (Nat.sub_le _ _)
theorem clip_nat (n k : Nat) : clipAt n (k : Int) = min k n := by
  have := clipAt_cast n (k : Int)
  revert this; walk_at "Z"
theorem cut_pick (vs : List Value) (lo hi : Option Int) : slicePick vs.toArray lo hi none = (cut vs lo hi).toArray := by
  rw [slicePick_plain]; simp [cut]
theorem cut_str (x : List Nat) (lo hi : Option Int) : Txt.slice (S x) lo hi = S (cut x lo hi) := by
  have e : Builtin.Str.strSliceIndices lo hi 1 x.length = (List.range (hi.elim x.length (clipAt x.length) - lo.elim 0 (clipAt x.length))).map (lo.elim 0 (clipAt x.length) + ·) := by
    rw [← sliceRange_one]
    have := sliceBounds_plain lo hi x.length
    unfold sliceBounds at this
    simp only [Option.getD_none, show (1 : Int) > 0 by decide, if_true, Prod.mk.injEq] at this
    unfold Builtin.Str.strSliceIndices
    simp only [show (1 : Int) > 0 by decide, if_true]
    rw [← this.1, ← this.2.1]
    cases lo <;> cases hi <;> rfl
  unfold Txt.slice
  rw [S_len, e, S_cps]
  split
  · rename_i h
    have hl : (List.range (hi.elim x.length (clipAt x.length) - lo.elim 0 (clipAt x.length))).length = x.length := by simpa using h
    have : (cut x lo hi).length ≤ x.length := cut_len x lo hi
    have hc : cut x lo hi = x := by
      simp only [List.length_range] at hl
      have h0 : lo.elim 0 (clipAt x.length) = 0 ∨ x.length = 0 := by
        have : hi.elim x.length (clipAt x.length) ≤ x.length := by
          cases hi with
          | none => exact Nat.le_refl _
          | some i => show clipAt _ i ≤ _; have := clipAt_cast x.length i; (first | (revert this; walk_at "Z") | omega)
        (first | (revert hl this; walk_at "Z") | omega)
      unfold cut
      rw [hl]
      rcases h0 with h0 | h0
      · rw [h0]; simp
      · have : x = [] := List.eq_nil_of_length_eq_zero h0
        subst this; simp
    rw [hc]
  · rw [pick_run]; simp [cut, S]

theorem isTup_of {h : Heap} {a : Addr} {its : Array Value} {n : Nat} (e : h.get? a = some (tupOf its n)) : IsTup h a its := ⟨_, e, rfl, n, rfl⟩
theorem isList_of {h : Heap} {a : Addr} {its : Array Value} {n : Nat} (e : h.get? a = some (listOf its n)) : h.IsList a its := ⟨_, e, rfl, n, rfl⟩

section
variable {G : St} {c : Act} {n : Nat} {m : Loc} {N : Cells} {pos : Pos}

-- displays
theorem t_List {es : List Expr} {Q : Value → Loc → Cells → Prop}
    (h : TW G c (spliced (backTo pos (starEach es c.env))) m N fun vs m₁ N₁ => vs.length ≤ 16777216 ∧ ∀ D, Fresh D N₁ → Q (.ref D) m₁ ((D, listOf vs.toArray 0) :: N₁)) :
    TW G c (eval (.List es pos) c.env) m N Q := ⟨fun s₀ s E P => by
  with_reducible refine List_ (wpAny_mono (h.out s₀ s E P) ?_ fun _ _ e => e)
  rintro vs s₁ ⟨m₁, N₁, p₁, hz, q₁⟩
  with_reducible exact newList_N p₁.F p₁.N (fun h' F' N' => ⟨_, _, p₁.ext (tk := s₁.toks) F' N', q₁ _ (news_fresh p₁.N)⟩) (le_line hz)⟩
theorem t_Tuple {es : List Expr} {k : Nat} {Q : Value → Loc → Cells → Prop}
    (h : TW G c (spliced (backTo pos (starEach es c.env))) m N fun vs m₁ N₁ => vs.length ≤ 16777216 ∧ ∀ D, Fresh D N₁ → Q (.ref D) m₁ ((D, tupOf vs.toArray 0) :: N₁)) :
    TW G c (eval (.Tuple es k pos) c.env) m N Q := ⟨fun s₀ s E P => by
  with_reducible refine Tuple_ (wpAny_mono (h.out s₀ s E P) ?_ fun _ _ e => e)
  rintro vs s₁ ⟨m₁, N₁, p₁, hz, q₁⟩
  with_reducible exact newTuple_N p₁.F p₁.N (fun h' F' N' => ⟨_, _, p₁.ext (tk := s₁.toks) F' N', q₁ _ (news_fresh p₁.N)⟩) (le_line hz)⟩

-- items
theorem t_sub {v i : Expr} {Q : Value → Loc → Cells → Prop}
    (h : TW G c (eval v c.env) m N fun a m₁ N₁ => TW G c (eval i c.env) m₁ N₁ fun b m₂ N₂ => TW G c (subscriptTail v i a b) m₂ N₂ Q) :
    TW G c (eval (.Subscript v i pos) c.env) m N Q :=
  ⟨fun s₀ s E P => by with_reducible exact Subscript_ (wpAny_mono (h.out s₀ s E P) (fun _ s₁ ⟨_, _, p₁, q₁⟩ => wpAny_mono (q₁.out s₀ s₁ E p₁) (fun _ s₂ ⟨_, _, p₂, q₂⟩ => q₂.out s₀ s₂ E p₂) fun _ _ e => e) fun _ _ e => e)⟩
theorem s_list {v i : Expr} {l : Addr} {vs : List Value} {k : Int} {t : Tok} {x : Value} {ep : Nat} {Q : Value → Loc → Cells → Prop} (hm : (l, listOf vs.toArray ep) ∈ N) (h0 : 0 ≤ k) (hf : k < 2 ^ 63) (hx : vs[k.toNat]? = some x) (h : Q x m N)
    (hs : subscripted i false (.ref l) (.int k t) = operate [.ref l, .int k t] (getItem (.ref l) (.int k t)) := by with_unfolding_all rfl) : TW G c (subscriptTail v i (.ref l) (.int k t)) m N Q :=
  .raw0 fun s E Q' F N' q => by
    have hl := isList_of (N'.get hm)
    with_reducible exact tail_any hl.typeIs slot_list_getitem.lookup (wpAny_getItem_list hl h0 hf (by simpa using hx) (q _ s.toks h)) hs
theorem s_str {v i : Expr} {x : List Nat} {t u : Tok} {k : Int} {d : Nat} {Q : Value → Loc → Cells → Prop} (hz : x.length ≤ 16777216) (h0 : -(x.length : Int) ≤ k) (h1 : k < x.length) (hd : x[(if k < 0 then k + x.length else k).toNat]? = some d) (h : ∀ t, Q (.str (S [d]) t) m N)
    (hs : subscripted i false (.str (S x) t) (.int k u) = operate [.str (S x) t, .int k u] (getItem (.str (S x) t) (.int k u)) := by with_unfolding_all rfl)
    (ht : ∀ r, letTemporaryGo v (.str (S x) t) r = pure () := by intro _; with_unfolding_all rfl) : TW G c (subscriptTail v i (.str (S x) t) (.int k u)) m N Q :=
  .raw0 fun s E Q' F N' q => by
    have e : Txt.item (S x) k = S [d] := by
      unfold Txt.item
      have : Txt.charAt (S x) k = some d := by
        unfold Txt.charAt seqIndex?
        have e1 : (0 : Int) ≤ (if k < 0 then k + (x.length : Int) else k) := by split <;> (first | (revert h0; walk_at "Z") | omega)
        have e2 : (if k < 0 then k + (x.length : Int) else k) < x.length := by split <;> (first | (revert h1; walk_at "Z") | omega)
        simp only [S_len]
        rw [if_pos (by simp only [e1, e2, decide_true, Bool.and_self])]
        simpa [S_cps] using hd
      rw [this]; rfl
    with_reducible exact PySem.W.KXi.item (S_len x) h0 h1 hz (fun _ => by rw [e]; exact q _ _ (h _)) hs ht

def PartW (G : St) (c : Act) (e : Option Expr) (m : Loc) (N : Cells) (Q : Value → Loc → Cells → Prop) : Prop := match e with
  | none => Q .none m N
  | some e => TW G c (eval e c.env) m N Q
theorem PartW.out {e : Option Expr} {Q : Value → Loc → Cells → Prop} (h : PartW G c e m N Q) : TW G c (evalPart e c.env) m N Q := by
  cases e with
  | none => exact TW.pure h
  | some e => exact h
structure SliceW (G : St) (c : Act) (v i : Expr) (o l u : Value) (m : Loc) (N : Cells) (Q : Value → Loc → Cells → Prop) : Prop where
  out : ∀ (s₀ s : Shared) (E : Value → Shared → Prop), Pre c m N s₀ s →
    wpAny (model G.prog G.w) c.A (subscriptTail v i o (.ref s.heap.objs.size)) (Aft c s₀ Q) E { s with heap := s.heap.push { cls := .type "slice", data := .fields #[l, u, .none] } }
theorem t_slice {v : Expr} {lo hi : Option Expr} {p : Pos} {Q : Value → Loc → Cells → Prop}
    (h : TW G c (eval v c.env) m N fun o m₁ N₁ => PartW G c lo m₁ N₁ fun l m₂ N₂ => PartW G c hi m₂ N₂ fun u m₃ N₃ => SliceW G c v (.Slice lo hi none p) o l u m₃ N₃ Q) :
    TW G c (eval (.Subscript v (.Slice lo hi none p) pos) c.env) m N Q := ⟨fun s₀ s E P => by
  with_reducible refine Subscript_ (wpAny_mono (h.out s₀ s E P) ?_ fun _ _ e => e)
  rintro o s₁ ⟨m₁, N₁, p₁, q₁⟩
  with_reducible refine wpAny_Slice (wpAny_mono (q₁.out.out s₀ s₁ E p₁) ?_ fun _ _ e => e)
  rintro l s₂ ⟨m₂, N₂, p₂, q₂⟩
  with_reducible refine wpAny_mono (q₂.out.out s₀ s₂ E p₂) ?_ fun _ _ e => e
  rintro u s₃ ⟨m₃, N₃, p₃, q₃⟩
  rw [evalPart_none]
  with_reducible refine wpAny_pure ?_
  exact q₃.out s₀ s₃ E p₃⟩
theorem sl_str {v : Expr} {lo hi : Option Expr} {p : Pos} {x : List Nat} {t : Tok} {l u : Value} {li ui : Option Int} {Q : Value → Loc → Cells → Prop} (hz : x.length ≤ 16777216) (hl : IsPart l li) (hu : IsPart u ui) (h : ∀ t, Q (.str (S (cut x li ui)) t) m N) :
    SliceW G c v (.Slice lo hi none p) (.str (S x) t) l u m N Q := ⟨fun s₀ s E P => by
  have fin : ∀ h' t' k, Fr c.h₀ c.env.locals h' m → News c.h₀ c.env.locals h' N → Aft c s₀ Q (.str (Txt.slice (S x) li ui) t') { s with heap := h', toks := k } := fun h' t' k F' N' => ⟨m, N, P.ext F' N', by rw [cut_str]; exact h _⟩
  have hz' : (S x).length ≤ sizeLine := by rw [S_len]; exact le_line hz
  have ht : ∀ r, letTemporaryGo v (.str (S x) t) r = pure () := by intro _; cases v <;> rfl
  cases hl <;> cases hu
  · with_reducible exact slice_strN_nn P.F P.N fin rfl ht hz'
  · with_reducible exact slice_strN_ns P.F P.N fin rfl ht hz'
  · with_reducible exact slice_strN_sn P.F P.N fin rfl ht hz'
  · with_reducible exact slice_strN_ss P.F P.N fin rfl ht hz'⟩
theorem sl_list {v : Expr} {lo hi : Option Expr} {p : Pos} {a : Addr} {vs : List Value} {ep : Nat} {l u : Value} {li ui : Option Int} {Q : Value → Loc → Cells → Prop} (hm : (a, listOf vs.toArray ep) ∈ N) (hz : vs.length ≤ 16777216) (hl : IsPart l li) (hu : IsPart u ui)
    (h : ∀ D, Fresh D N → Q (.ref D) m ((D, listOf (cut vs li ui).toArray 0) :: N)) :
    SliceW G c v (.Slice lo hi none p) (.ref a) l u m N Q := ⟨fun s₀ s E P => by
  have hls := isList_of (P.N.get hm)
  have hpush : ({ s with heap := s.heap.push { cls := .type "slice", data := .fields #[l, u, .none] } } : Shared).heap.IsList a vs.toArray := hls.push _
  with_reducible refine tail_any (Heap.IsList.typeIs hpush) list_getitem_lookup ?_ rfl
  with_reducible refine wpAny_getItem_list_slice hpush (Heap.IsSliceOf.new ..) hl hu .none (by simp) ?_ (by rw [List.size_toArray]; exact le_line hz)
  have N1 := News.push (P.F.push { cls := .type "slice", data := .fields #[l, u, .none] }) (P.N.grown fun _ _ e => Heap.get?_push_of_some _ e) { cls := .type "list", data := .seq (slicePick vs.toArray li ui none) }
  have hf : Fresh (s.heap.push { cls := .type "slice", data := .fields #[l, u, .none] }).objs.size N := news_fresh (P.N.grown fun _ _ e => Heap.get?_push_of_some _ e)
  rw [cut_pick] at N1 ⊢
  exact ⟨m, _, P.ext (tk := s.toks) ((P.F.push _).push _) N1, h _ hf⟩⟩

-- writing
theorem a_append {D : Addr} {vs : List Value} {ep : Nat} {x : Value} {Q : Value → Loc → Cells → Prop} (hm : (D, listOf vs.toArray ep) ∈ N) (hz : vs.length ≤ 16777216)
    (h : ∀ ep', Q .none m (put D (listOf (vs ++ [x]).toArray ep') N)) : TW G c (call (.builtin "list.append") [.ref D, x]) m N Q :=
  .raw fun s E Q' F N' q => by
    with_reducible refine append_at (N'.get hm) (fun h' hs ho => ?_) (by rw [List.size_toArray]; exact le_line hz)
    have e : vs.toArray.push x = (vs ++ [x]).toArray := by simp
    rw [e] at ho
    obtain ⟨F1, N1⟩ := news_put F N' hm hs ho
    exact q _ h' s.toks _ _ F1 N1 (h _)
theorem g_append {D : Addr} {o : Obj} {pl : Sem Bool} {Q : Value × List Value → Loc → Cells → Prop} (hm : (D, o) ∈ N) (h : Q (.builtin "list.append", [.ref D]) m N) (hc : o.cls = .type "list" := by rfl) (hd : o.dict = none := by rfl) :
    TW G c (getMethod (.ref D) "append" pl) m N Q :=
  .raw0 fun s E Q' F N' q => by with_reducible exact getMethod_append_N N' hm (q _ s.toks h) hc hd
theorem set_list {D : Addr} {vs : List Value} {ep : Nat} {k : Int} {t : Tok} {v : Value} {Q : Unit → Loc → Cells → Prop} (hm : (D, listOf vs.toArray ep) ∈ N) (h0 : 0 ≤ k) (hf : k < 2 ^ 63) (hn : k < vs.length)
    (h : ∀ ep', Q () m (put D (listOf (vs.set k.toNat v).toArray ep') N)) : TW G c (setItem (.ref D) (.int k t) v) m N Q :=
  .raw fun s E Q' F N' q => by
    have ho := N'.get hm
    with_reducible refine ki_setAt ho h0 hf (by rw [List.size_toArray]; exact hn) ?_
    have e : (Obj.mapSeq (·.setIfInBounds k.toNat v)) (listOf vs.toArray ep) = listOf (vs.set k.toNat v).toArray ep := by
      simp [Obj.mapSeq]
    have ho' := Heap.get?_update_self (Obj.mapSeq (·.setIfInBounds k.toNat v)) ho (by rw [e]; rfl)
    rw [e] at ho'
    obtain ⟨F1, N1⟩ := news_put F N' hm (Heap.SameBut.update ..) ho'
    exact q _ _ s.toks _ _ F1 N1 (h _)
theorem get_list {D : Addr} {vs : List Value} {ep : Nat} {k : Int} {t : Tok} {x : Value} {Q : Value → Loc → Cells → Prop} (hm : (D, listOf vs.toArray ep) ∈ N) (h0 : 0 ≤ k) (hf : k < 2 ^ 63) (hx : vs[k.toNat]? = some x) (h : Q x m N) :
    TW G c (getItem (.ref D) (.int k t)) m N Q :=
  .raw0 fun s E Q' F N' q => by with_reducible exact wpAny_getItem_list (isList_of (N'.get hm)) h0 hf (by simpa using hx) (q _ s.toks h)
theorem t_asub {ob i : Expr} {p' : Pos} {v : Expr} {Q : Flow → Loc → Cells → Prop}
    (h : TW G c (eval v c.env) m N fun x m₁ N₁ => TW G c (eval ob c.env) m₁ N₁ fun a m₂ N₂ => TW G c (eval i c.env) m₂ N₂ fun b m₃ N₃ => TW G c (setItem a b x) m₃ N₃ fun _ m₄ N₄ => Q .next m₄ N₄)
    (hs : swapsWith v (some (.Subscript ob i p')) pos.line c.env = pure false := by rfl) : TW G c (exec (.Assign [.Subscript ob i p'] v pos) c.env) m N Q :=
  ⟨fun s₀ s E P => by with_reducible exact wpAny_Assign_Subscript (wpAny_mono (h.out s₀ s E P) (fun _ s₁ ⟨_, _, p₁, q₁⟩ => wpAny_mono (q₁.out s₀ s₁ E p₁) (fun _ s₂ ⟨_, _, p₂, q₂⟩ => wpAny_mono (q₂.out s₀ s₂ E p₂) (fun _ s₃ ⟨_, _, p₃, q₃⟩ => q₃.outf (f := fun _ => Flow.next) p₃) fun _ _ e => e) fun _ _ e => e) fun _ _ e => e) hs⟩
end

-- b6
/-- n facts at once, n letters at once: one step to take apart -/
inductive And3 (a1 a2 a3 : Prop) : Prop
  | mk (h1 : a1) (h2 : a2) (h3 : a3)
inductive And4 (a1 a2 a3 a4 : Prop) : Prop
  | mk (h1 : a1) (h2 : a2) (h3 : a3) (h4 : a4)
inductive And5 (a1 a2 a3 a4 a5 : Prop) : Prop
  | mk (h1 : a1) (h2 : a2) (h3 : a3) (h4 : a4) (h5 : a5)
inductive And6 (a1 a2 a3 a4 a5 a6 : Prop) : Prop
  | mk (h1 : a1) (h2 : a2) (h3 : a3) (h4 : a4) (h5 : a5) (h6 : a6)
inductive And10 (a1 a2 a3 a4 a5 a6 a7 a8 a9 a10 : Prop) : Prop
  | mk (h1 : a1) (h2 : a2) (h3 : a3) (h4 : a4) (h5 : a5) (h6 : a6) (h7 : a7) (h8 : a8) (h9 : a9) (h10 : a10)
inductive And12 (a1 a2 a3 a4 a5 a6 a7 a8 a9 a10 a11 a12 : Prop) : Prop
  | mk (h1 : a1) (h2 : a2) (h3 : a3) (h4 : a4) (h5 : a5) (h6 : a6) (h7 : a7) (h8 : a8) (h9 : a9) (h10 : a10) (h11 : a11) (h12 : a12)
inductive Ex2 {α1 α2 : Type} (p : α1 → α2 → Prop) : Prop
  | mk (x1 : α1) (x2 : α2) (h : p x1 x2)
inductive Ex3 {α1 α2 α3 : Type} (p : α1 → α2 → α3 → Prop) : Prop
  | mk (x1 : α1) (x2 : α2) (x3 : α3) (h : p x1 x2 x3)
inductive Ex4 {α1 α2 α3 α4 : Type} (p : α1 → α2 → α3 → α4 → Prop) : Prop
  | mk (x1 : α1) (x2 : α2) (x3 : α3) (x4 : α4) (h : p x1 x2 x3 x4)
inductive Ex5 {α1 α2 α3 α4 α5 : Type} (p : α1 → α2 → α3 → α4 → α5 → Prop) : Prop
  | mk (x1 : α1) (x2 : α2) (x3 : α3) (x4 : α4) (x5 : α5) (h : p x1 x2 x3 x4 x5)
inductive Ex6 {α1 α2 α3 α4 α5 α6 : Type} (p : α1 → α2 → α3 → α4 → α5 → α6 → Prop) : Prop
  | mk (x1 : α1) (x2 : α2) (x3 : α3) (x4 : α4) (x5 : α5) (x6 : α6) (h : p x1 x2 x3 x4 x5 x6)
inductive Ex10 {α1 α2 α3 α4 α5 α6 α7 α8 α9 α10 : Type} (p : α1 → α2 → α3 → α4 → α5 → α6 → α7 → α8 → α9 → α10 → Prop) : Prop
  | mk (x1 : α1) (x2 : α2) (x3 : α3) (x4 : α4) (x5 : α5) (x6 : α6) (x7 : α7) (x8 : α8) (x9 : α9) (x10 : α10) (h : p x1 x2 x3 x4 x5 x6 x7 x8 x9 x10)
/-- what is asked at the end, behind a letter -/
structure Gen {α : Type} (Q P : α → Loc → Cells → Prop) : Prop where
  h : ∀ a m N, Q a m N → P a m N
theorem TW.gen {G : St} {c : Act} {α : Type} {t : Sem α} {m : Loc} {N : Cells} {Q : α → Loc → Cells → Prop} (h : ∀ P, Gen Q P → TW G c t m N P) : TW G c t m N Q := h Q ⟨fun _ _ _ q => q⟩
theorem Gen.use {α : Type} {Q P : α → Loc → Cells → Prop} {a : α} {m : Loc} {N : Cells} (g : Gen Q P) (h : Q a m N) : P a m N := g.h _ _ _ h
abbrev rngOf (a b c : Int) (t u v : Tok) : Obj := { cls := .type "range", dict := none, data := .fields #[.int a t, .int b u, .int c v], slots := #[] }
theorem news_new {h₀ h h' : Heap} {L : Addr} {m : Loc} {N : Cells} {o : Obj} (F : Fr h₀ L h m) (N' : News h₀ L h' N) (ho : h'.get? h.objs.size = some o) : News h₀ L h' ((h.objs.size, o) :: N) := by
  obtain ⟨oL, _, _, hL, _⟩ := F.ns
  intro p hp
  rcases List.mem_cons.mp hp with rfl | hp
  · refine ⟨ho, Nat.ne_of_gt (Heap.lt_size hL), ?_⟩
    cases hq : h₀.get? h.objs.size with
    | none => rfl
    | some o' => exact absurd (Heap.lt_size (F.keep _ _ hq)) (Nat.lt_irrefl _)
  · exact N' p hp
theorem news_same {h₀ h h' : Heap} {L I : Addr} {m : Loc} {N : Cells} {o : Obj} (F : Fr h₀ L h m) (N₀ : News h₀ L h ((I, o) :: N)) (hf : Fresh I N) (hs : Heap.SameBut I h h') {o' : Obj} (ho : h'.get? I = some o') :
    Fr h₀ L h' m ∧ News h₀ L h' ((I, o') :: N) := by
  have := news_put F N₀ (.head _) hs ho
  rwa [put_head hf] at this
theorem news_ext {h₀ h h' : Heap} {L I : Addr} {m : Loc} {N : Cells} {o : Obj} (F : Fr h₀ L h m) (N₀ : News h₀ L h ((I, o) :: N)) (hf : Fresh I N) (hs : Heap.ExtBut I h h') :
    Fr h₀ L h' m ∧ News h₀ L h' N := by
  have z := N₀ _ (.head _)
  obtain ⟨oL, es, ep, hL, r⟩ := F.ns
  refine ⟨⟨⟨oL, es, ep, hs _ _ (Ne.symm z.2.1) hL, r⟩, fun b o e => hs b o (fun q => ?_) (F.keep b o e), F.above⟩, fun p hp => ⟨hs _ _ (hf p hp) (N₀ p (.tail _ hp)).1, (N₀ p (.tail _ hp)).2⟩⟩
  subst q; rw [z.2.2] at e; cases e

section
variable {G : St} {c : Act} {n : Nat} {m : Loc} {N : Cells} {pos : Pos}

/-- how an iterator is drawn from: k items, the i-th of which is P i; st: its object behind i draws; D: the cells it leans on -/
structure Walk (G : St) (c : Act) (I : Addr) (D : Cells) (k : Nat) (P : Nat → Value → Prop) (st : Nat → Obj → Prop) (target : Expr) : Prop where
  item : ∀ i o m N, i < k → st i o → (∀ d ∈ D, d ∈ N) → Fresh I N → TW G c (pyNext (.ref I)) m ((I, o) :: N) fun r m' N' => ∃ v o', r = some v ∧ m' = m ∧ N' = (I, o') :: N ∧ st (i + 1) o' ∧ P i v
  done : ∀ o m N, st k o → (∀ d ∈ D, d ∈ N) → Fresh I N → TW G c (pyNext (.ref I)) m ((I, o) :: N) fun r m' N' => r = none ∧ m' = m ∧ N' = N
  go : ∀ i o v m N, st i o → TW G c (letOwnedTupleGo target (.ref I) v) m ((I, o) :: N) fun _ m' N' => m' = m ∧ N' = (I, o) :: N

def isLI (l : Addr) (i : Nat) (o : Obj) : Prop := o.cls = .type "list_iterator" ∧ o.data = .fields #[.ref l, .int i 0]
theorem go_plain {I : Addr} {o : Obj} {v : Value} {T : String} {vs : Array Value} {target : Expr} (hc : o.cls = .type T) (hd : o.data = .fields vs)
    (hT : ["enumerate", "zip", "dict_itemiterator", "dict_reverseitemiterator", "odict_iterator", "itertools.zip_longest", "itertools.pairwise"].contains T = false) :
    TW G c (letOwnedTupleGo target (.ref I) v) m ((I, o) :: N) fun _ m' N' => m' = m ∧ N' = (I, o) :: N := ⟨fun s₀ s E P => by
  have fin : ∀ u : Unit, Aft c s₀ (fun _ m' N' => m' = m ∧ N' = (I, o) :: N) u s := fun _ => ⟨m, _, P, rfl, rfl⟩
  unfold letOwnedTupleGo
  split
  all_goals first
    | exact wpAny_pure (fin _)
    | (cases v <;> first
        | exact wpAny_pure (fin _)
        | (refine wpAny_bind (wpAny_load (P.N.get (.head _)) ?_)
           rw [hc, hd]
           dsimp only
           rw [hT, Bool.false_and, if_neg Bool.false_ne_true]
           exact wpAny_pure (fin _)))⟩
theorem walk_list (o : Ok G n c) {I l : Addr} {vs : List Value} {ep : Nat} {target : Expr} : Walk G c I [(l, listOf vs.toArray ep)] vs.length (fun i v => vs[i]? = some v) (isLI l) target where
  item := fun i ob m N hi hst hD hF => .raw fun s E Q' F N' q => by
    have hit : s.heap.IsListIter I l i := ⟨ob, N'.get (.head _), hst.1, hst.2⟩
    have hl := isList_of (N'.get (.tail _ (hD _ (.head _))))
    with_reducible refine wpAny_pyNext_list_item hit hl (x := vs[i]) (by simp [hi]) fun h' hit' hs => ?_
    obtain ⟨ob', ho', hc', hd'⟩ := hit'
    obtain ⟨F1, N1⟩ := news_same F N' hF hs ho'
    exact q _ h' s.toks _ _ F1 N1 ⟨_, _, rfl, rfl, rfl, ⟨hc', hd'⟩, by simp [hi]⟩
  done := fun ob m N hst hD hF => .raw fun s E Q' F N' q => by
    have hit : s.heap.IsListIter I l vs.length := ⟨ob, N'.get (.head _), hst.1, hst.2⟩
    have hl := isList_of (N'.get (.tail _ (hD _ (.head _))))
    with_reducible refine wpAny_pyNext_list_end o.handled hit hl (by simp) fun h' hs => ?_
    obtain ⟨F1, N1⟩ := news_ext F N' hF hs
    exact q _ h' s.toks _ _ F1 N1 ⟨rfl, rfl, rfl⟩
  go := fun i ob v m N hst => go_plain hst.1 hst.2 (by decide)
abbrev riOf (x left step : Int) : Obj := { cls := .type "range_iterator", dict := none, data := .fields #[rawInt x, rawInt left, rawInt step], slots := #[] }
theorem walk_range (o : Ok G n c) {I : Addr} {a d : Int} {k : Nat} {target : Expr} : Walk G c I [] k (fun i v => ∃ t, v = .int (a + i * d) t) (fun i ob => ob = riOf (a + i * d) ((k : Int) - i) d) target where
  item := fun i ob m N hi hst hD hF => .raw fun s E Q' F N' q => by
    subst hst
    have hit : IsRangeIter s.heap I (a + i * d) ((k : Int) - i) d := N'.get (.head _)
    with_reducible refine wpAny_pyNext_range_item hit (by (first | (revert hi; walk_at "Z") | omega)) fun h' hit' hs => ?_
    obtain ⟨F1, N1⟩ := news_same F N' hF hs hit'
    refine q _ h' _ _ _ F1 N1 ⟨_, _, rfl, rfl, rfl, ?_, ⟨_, rfl⟩⟩
    have e1 : a + ((i + 1 : Nat) : Int) * d = a + (i : Int) * d + d := by push_cast; rw [Int.add_mul, Int.one_mul, Int.add_assoc]
    have e2 : (k : Int) - ((i + 1 : Nat) : Int) = (k : Int) - (i : Int) - 1 := by push_cast; (first | walk_at "Z" | omega)
    rw [e1, e2]
  done := fun ob m N hst hD hF => .raw fun s E Q' F N' q => by
    subst hst
    have hit : IsRangeIter s.heap I (a + k * d) ((k : Int) - k) d := N'.get (.head _)
    with_reducible refine wpAny_pyNext_range_end o.handled hit (by (first | walk_at "Z" | omega)) fun h' hs => ?_
    obtain ⟨F1, N1⟩ := news_ext F N' hF hs
    exact q _ h' s.toks _ _ F1 N1 ⟨rfl, rfl, rfl⟩
  go := fun i ob v m N hst => by subst hst; exact go_plain rfl rfl (by decide)
def isSI (x : Str) (t : Tok) (i : Nat) (o : Obj) : Prop := o.cls = .type "str_ascii_iterator" ∧ o.data = .fields #[.str x t, .int i 0]
theorem walk_str (o : Ok G n c) {I : Addr} {x : List Nat} {tk : Tok} {target : Expr} : Walk G c I [] x.length (fun i v => ∃ d t, x[i]? = some d ∧ v = .str (S [d]) t) (isSI (S x) tk) target where
  item := fun i ob m N hi hst hD hF => .raw fun s E Q' F N' q => by
    have hit : s.heap.IsStrIter I "str_ascii_iterator" (S x) tk i := ⟨ob, N'.get (.head _), hst.1, hst.2⟩
    with_reducible refine wpAny_pyNext_ascii_item hit (c := x[i]) (by simp [S_cps, hi]) fun h' hit' hs => ?_
    obtain ⟨ob', ho', hc', hd'⟩ := hit'
    obtain ⟨F1, N1⟩ := news_same F N' hF hs ho'
    exact q _ h' _ _ _ F1 N1 ⟨_, _, rfl, rfl, rfl, ⟨hc', hd'⟩, ⟨_, _, by simp [hi], rfl⟩⟩
  done := fun ob m N hst hD hF => .raw fun s E Q' F N' q => by
    have hit : s.heap.IsStrIter I "str_ascii_iterator" (S x) tk x.length := ⟨ob, N'.get (.head _), hst.1, hst.2⟩
    with_reducible refine wpAny_pyNext_ascii_end o.handled hit (by simp [S_cps]) fun h' hs => ?_
    obtain ⟨F1, N1⟩ := news_ext F N' hF hs
    exact q _ h' s.toks _ _ F1 N1 ⟨rfl, rfl, rfl⟩
  go := fun i ob v m N hst => go_plain hst.1 hst.2 (by decide)

/-- a turn's end: the invariant again, or out -/
def Turn (I : Addr) (o : Obj) (Inv : Loc → Cells → Prop) (Q : Flow → Loc → Cells → Prop) : Flow → Loc → Cells → Prop := fun f m N => match f with
  | .next | .cont => ∃ N', (∀ p ∈ (I, o) :: N', p ∈ N) ∧ Inv m N'
  | .brk => Q .next m N
  | .ret v => Q (.ret v) m N

structure LoopW (G : St) (c : Act) (code : Code) (m : Loc) (N : Cells) (Q : Flow → Loc → Cells → Prop) : Prop where
  out : ∀ (s₀ s : Shared), Pre c m N s₀ s → codeAny (model G.prog G.w) c.A code (AftR c s₀ Q) s

theorem loop_for {I : Addr} {D : Cells} {k : Nat} {P : Nat → Value → Prop} {st : Nat → Obj → Prop} {target : Expr} {body : List Stmt} {ob : Obj} {Q : Flow → Loc → Cells → Prop} (W : Walk G c I D k P st target) (Inv : Nat → Loc → Cells → Prop)
    (hst : st 0 ob) (h0 : Inv 0 m N) (hD : ∀ i m N, Inv i m N → ∀ d ∈ D, d ∈ N) (hF : ∀ i m N, Inv i m N → Fresh I N)
    (hb : ∀ i m N v o', i < k → Inv i m N → P i v → st (i + 1) o' → TW G c (assign target c.env v) m ((I, o') :: N) fun _ m₁ N₁ => TW G c (execs body c.env) m₁ N₁ (Turn I o' (Inv (i + 1)) Q))
    (hQ : ∀ m N, Inv k m N → Q .next m N) : LoopW G c (.forLoop target (.ref I) body [] c.env) m ((I, ob) :: N) Q := ⟨fun s₀ s P₀ => by
  refine codeAny_forLoop_any (fun d s' => ∃ i m N o, i ≤ k ∧ d = k - i ∧ st i o ∧ Inv i m N ∧ Pre c m ((I, o) :: N) s₀ s') ?_ k ⟨0, m, N, ob, Nat.zero_le _, rfl, hst, h0, P₀⟩
  rintro d s' ⟨i, m, N, o, hi, rfl, ho, hI, P'⟩
  by_cases hlt : i < k
  · refine wpAny_mono ((W.item i o m N hlt ho (hD _ _ _ hI) (hF _ _ _ hI)).out s₀ s' _ P') ?_ fun _ _ e => e
    rintro r s₁ ⟨_, _, p₁, v, o', rfl, rfl, rfl, ho', hP⟩
    dsimp only
    refine wpAny_mono ((W.go (i + 1) o' v _ N ho').out s₀ s₁ _ p₁) ?_ fun _ _ e => e
    rintro _ s₂ ⟨_, _, p₂, rfl, rfl⟩
    refine wpAny_mono ((hb i _ N v o' hlt hI hP ho').out s₀ s₂ _ p₂) ?_ fun _ _ e => e
    rintro _ s₃ ⟨m₃, N₃, p₃, q₃⟩
    refine wpAny_mono (q₃.out s₀ s₃ _ p₃) ?_ fun _ _ e => e
    rintro f s₄ ⟨m₄, N₄, p₄, q₄⟩
    cases f with
    | next => obtain ⟨N', hs, hI'⟩ := q₄; exact ⟨k - (i + 1), by (first | (revert hlt; walk_at "Z") | omega), i + 1, m₄, N', o', hlt, rfl, ho', hI', p₄.sub hs⟩
    | cont => obtain ⟨N', hs, hI'⟩ := q₄; exact ⟨k - (i + 1), by (first | (revert hlt; walk_at "Z") | omega), i + 1, m₄, N', o', hlt, rfl, ho', hI', p₄.sub hs⟩
    | brk => exact ⟨_, m₄, N₄, rfl, p₄, q₄⟩
    | ret v => exact ⟨_, m₄, N₄, rfl, p₄, q₄⟩
  · have : i = k := by (first | (revert hi hlt; walk_at "Z") | omega)
    subst this
    refine wpAny_mono ((W.done o m N ho (hD _ _ _ hI) (hF _ _ _ hI)).out s₀ s' _ P') ?_ fun _ _ e => e
    rintro r s₁ ⟨_, _, p₁, rfl, rfl, rfl⟩
    dsimp only
    exact wpAny_execs_nil ⟨_, _, _, rfl, p₁, hQ _ _ hI⟩⟩

/-- the rest of a for, behind the value that is iterated -/
structure ForW (G : St) (c : Act) (target : Expr) (body : List Stmt) (x : Value) (m : Loc) (N : Cells) (Q : Flow → Loc → Cells → Prop) : Prop where
  out : ∀ (s₀ s : Shared) (E : Value → Shared → Prop), Pre c m N s₀ s → wpAny (model G.prog G.w) c.A (pyIter x) (fun it s₂ => codeAny (model G.prog G.w) c.A (.forLoop target it body [] c.env) (AftR c s₀ Q) s₂) E s
theorem t_For {target iter : Expr} {body : List Stmt} {Q : Flow → Loc → Cells → Prop} (h : TW G c (eval iter c.env) m N fun x m₁ N₁ => ForW G c target body x m₁ N₁ Q)
    (hs : ∀ x, foldedSetIterable iter c.env x = pure x := by intro _; rfl) : TW G c (exec (.For target iter body [] pos) c.env) m N Q := ⟨fun s₀ s E P => by
  with_reducible refine wpAny_For (wpAny_mono (h.out s₀ s E P) ?_ fun _ _ e => e) hs
  rintro x s₁ ⟨m₁, N₁, p₁, q₁⟩
  refine wpAny_mono (q₁.out s₀ s₁ E p₁) (fun it s₂ h₂ => codeAny_mono h₂ ?_) fun _ _ e => e
  rintro r s' ⟨f, m', N', rfl, p', q'⟩
  exact ⟨m', N', p', q'⟩⟩
theorem a_range1 {b : Int} {t : Tok} {Q : Value → Loc → Cells → Prop} (h : ∀ R t u v, Fresh R N → Q (.ref R) m ((R, rngOf 0 b 1 t u v) :: N)) : TW G c (call (.type "range") [.int b t]) m N Q :=
  .raw fun s E Q' F N' q => by
    have hf := news_fresh N'
    with_reducible exact range1_rows F N' fun h' tk t₁ u₁ v₁ hr F1 N1 hk => q _ h' tk _ _ F1 (news_new F N1 hr) (h _ _ _ _ hf)
theorem a_range3 {a b d : Int} {t u v : Tok} {Q : Value → Loc → Cells → Prop} (hd : d ≠ 0) (hp : d.natAbs < 1073741824) (h : ∀ R t u v, Fresh R N → Q (.ref R) m ((R, rngOf a b d t u v) :: N)) : TW G c (call (.type "range") [.int a t, .int b u, .int d v]) m N Q :=
  .raw fun s E Q' F N' q => by
    have hf := news_fresh N'
    with_reducible exact range3_rows F N' hd (fun h' tk t₁ u₁ v₁ hr F1 N1 hk => q _ h' tk _ _ F1 (news_new F N1 hr) (h _ _ _ _ hf)) (.inl (PyProof.noPylong_small hp))

theorem t_While {test : Expr} {body : List Stmt} {Q : Flow → Loc → Cells → Prop} (Inv : Nat → Loc → Cells → Prop) (k : Nat) (h0 : Inv k m N)
    (turn : ∀ k m N, Inv k m N → ∀ Pb, Gen (fun f m₂ N₂ => match f with
        | .next | .cont => ∃ k' N', k' < k ∧ (∀ p ∈ N', p ∈ N₂) ∧ Inv k' m₂ N'
        | .brk => Q .next m₂ N₂
        | .ret v => Q (.ret v) m₂ N₂) Pb → TW G c (isTrue test c.env (eval test c.env)) m N fun b m₁ N₁ => if b = true then TW G c (execs body c.env) m₁ N₁ Pb else Q .next m₁ N₁) : TW G c (exec (.While test body [] pos) c.env) m N Q := ⟨fun s₀ s E P => by
  with_reducible refine wpAny_While ?_
  refine codeAny_mono (R := AftR c s₀ Q) ?_ (by
    rintro r s' ⟨f, m', N', rfl, p', q'⟩
    exact ⟨m', N', p', q'⟩)
  refine codeAny_whileLoop (fun d s' => ∃ m N, Inv d m N ∧ Pre c m N s₀ s') ?_ k ⟨m, N, h0, P⟩
  rintro d s' ⟨m, N, hI, P'⟩
  refine wpAny_mono ((turn d m N hI _ ⟨fun _ _ _ q => q⟩).out s₀ s' _ P') ?_ fun _ _ e => e
  rintro b s₁ ⟨m₁, N₁, p₁, q₁⟩
  cases b with
  | false => exact wpAny_execs_nil ⟨_, m₁, N₁, rfl, p₁, q₁⟩
  | true =>
    simp only [if_true] at q₁ ⊢
    refine wpAny_mono (q₁.out s₀ s₁ _ p₁) ?_ fun _ _ e => e
    rintro f s₂ ⟨m₂, N₂, p₂, q₂⟩
    cases f with
    | next => obtain ⟨k', N', hk, hs, hI'⟩ := q₂; exact ⟨k', hk, m₂, N', hI', p₂.sub hs⟩
    | cont => obtain ⟨k', N', hk, hs, hI'⟩ := q₂; exact ⟨k', hk, m₂, N', hI', p₂.sub hs⟩
    | brk => exact ⟨_, m₂, N₂, rfl, p₂, q₂⟩
    | ret v => exact ⟨_, m₂, N₂, rfl, p₂, q₂⟩⟩
end

-- b7
def up1 (c : Nat) : Nat := if 97 ≤ c ∧ c ≤ 122 then c - 32 else c
def lo1 (c : Nat) : Nat := if 65 ≤ c ∧ c ≤ 90 then c + 32 else c
def Ascii (x : List Nat) : Prop := ∀ d ∈ x, d < 128
theorem upS {x : List Nat} (h : Ascii x) : Txt.upper (S x) = S (x.map up1) := by
  rw [upper_ascii (by simpa [S_cps, Ascii] using h)]
  have e : ∀ c, PyProof.Rows.up1 c = up1 c := fun c => rfl
  simp [S, e]
theorem loS {x : List Nat} (h : Ascii x) : Txt.lower (S x) = S (x.map lo1) := by
  rw [lower_ascii (by simpa [S_cps, Ascii] using h)]
  have e : ∀ c, PyProof.Rows.lo1 c = lo1 c := fun c => rfl
  simp [S, e]
/-- texts, whatever their tokens -/
inductive Strs : List Value → List (List Nat) → Prop
  | nil : Strs [] []
  | cons (y : List Nat) (t : Tok) {vs ys} : Strs vs ys → Strs (.str (S y) t :: vs) (y :: ys)
theorem Strs.are : ∀ {vs ys}, Strs vs ys → StrsAre vs (ys.map S) := by
  intro vs ys h
  induction h with
  | nil => exact .nil
  | cons y t _ ih => exact .cons (S y) t ih
theorem Strs.len : ∀ {vs ys}, Strs vs ys → vs.length = ys.length
  | _, _, .nil => rfl
  | _, _, .cons y t h => by simp [h.len]
theorem Strs.get : ∀ {vs ys}, Strs vs ys → ∀ {i : Nat} {y : List Nat}, ys[i]? = some y → ∃ t, vs[i]? = some (.str (S y) t) := by
  intro vs ys h
  induction h with
  | nil => intro i y e; cases e
  | cons y t _ ih =>
    intro i z e
    cases i with
    | zero => cases e; exact ⟨t, rfl⟩
    | succ i => exact ih e
theorem Strs.snoc {vs ys} (h : Strs vs ys) (y : List Nat) (t : Tok) : Strs (vs ++ [.str (S y) t]) (ys ++ [y]) := by
  induction h with
  | nil => exact .cons y t .nil
  | cons z u _ ih => exact .cons z u ih
theorem join_S (ys : List (List Nat)) : Txt.join (S []) (ys.map S) = S ys.flatten := by
  have key : ∀ (l : List (List Nat)) (a : List Nat), (l.map S).foldl (fun (acc : Array Nat) (p : Str) => acc ++ (S []).cps ++ p.cps) a.toArray = (a ++ l.flatten).toArray := by
    intro l
    induction l with
    | nil => intro a; simp
    | cons y r ih =>
      intro a
      have e : (a.toArray ++ (S []).cps ++ (S y).cps) = (a ++ y).toArray := by simp [S]
      rw [List.map_cons, List.foldl_cons, e, ih]; simp
  cases ys with
  | nil => rfl
  | cons y r =>
    show Builtin.Str.glued (S []) (S y :: r.map S) = _
    unfold Builtin.Str.glued
    have := key r y
    simp only [List.drop_succ_cons, List.drop_zero, List.headD_cons]
    rw [show (S y).cps = y.toArray from rfl, this]
    simp [S]

section
variable {G : St} {c : Act} {n : Nat} {m : Loc} {N : Cells} {pos : Pos}

theorem a_len {D : Addr} {vs : List Value} {ep : Nat} {Q : Value → Loc → Cells → Prop} (hm : (D, listOf vs.toArray ep) ∈ N) (hz : vs.length ≤ 16777216) (h : ∀ t, Q (.int vs.length t) m N) : TW G c (call (.builtin "len") [.ref D]) m N Q :=
  .raw0 fun s E Q' F N' q => by
    have hl := isList_of (N'.get hm)
    with_reducible refine PyProof.Rows.len_list hl (by rw [List.size_toArray]; (first | (revert hz; walk_at "Z") | omega)) ?_
    rw [List.size_toArray]; exact q _ _ (h _)
theorem a_lens {x : List Nat} {t : Tok} {Q : Value → Loc → Cells → Prop} (hz : x.length ≤ 16777216) (h : ∀ t, Q (.int x.length t) m N) : TW G c (call (.builtin "len") [.str (S x) t]) m N Q :=
  .raw0 fun s E Q' F N' q => by
    with_reducible refine PySem.P.len_str (by rw [S_len]; (first | (revert hz; walk_at "Z") | omega)) ?_
    rw [S_len]; exact q _ _ (h _)
theorem a_chr {i : Int} {t : Tok} {Q : Value → Loc → Cells → Prop} (h0 : 0 ≤ i) (h1 : i ≤ 1114111) (h : ∀ t, Q (.str (S [i.toNat]) t) m N) : TW G c (call (.builtin "chr") [.int i t]) m N Q :=
  .raw0 fun s E Q' F N' q => by
    with_reducible refine chr_of_range h0 h1 ?_
    exact q _ _ (h _)
theorem a_ord {d : Nat} {t : Tok} {Q : Value → Loc → Cells → Prop} (h : ∀ t, Q (.int d t) m N) : TW G c (call (.builtin "ord") [.str (S [d]) t]) m N Q :=
  .raw0 fun s E Q' F N' q => by
    have e : (S [d]).length = 1 := S_len _
    with_reducible refine ord_of_one e ?_
    exact q _ _ (h _)
theorem a_strint {i : Int} {t : Tok} {Q : Value → Loc → Cells → Prop} (hi : i.natAbs.log2 < 1920) (h : ∀ t, Q (.str (Str.ofString (toString i)) t) m N) : TW G c (call (.type "str") [.int i t]) m N Q :=
  .raw0 fun s E Q' F N' q => by with_reducible exact PySem.P.str_of_int hi (q _ _ (h _))
theorem a_min {a b : Int} {t u : Tok} {Q : Value → Loc → Cells → Prop} (o : Ok G n c) (h : ∀ t, Q (.int (min a b) t) m N) : TW G c (call (.builtin "min") [.int a t, .int b u]) m N Q :=
  .raw fun s E Q' F N' q => by
    with_reducible refine min_two_N o.handled F N' fun h' tk F1 N1 => ?_
    have e : (if b < a then b else a) = min a b := by rw [Int.min_def]; split <;> split <;> (first | walk_at "Z" | omega)
    rw [e]; exact q _ h' tk _ _ F1 N1 (h _)
theorem a_sum {D : Addr} {vs : List Value} {ns : List Int} {ep : Nat} {Q : Value → Loc → Cells → Prop} (o : Ok G n c) (hm : (D, listOf vs.toArray ep) ∈ N) (hi : IntsAre vs ns) (h : ∀ t, Q (.int ns.sum t) m N) : TW G c (call (.builtin "sum") [.ref D]) m N Q :=
  .raw fun s E Q' F N' q => by
    with_reducible exact sumK o.handled F N' (isList_of (N'.get hm)) hi fun h' tk t' F1 N1 => q _ h' tk _ _ F1 N1 (h _)
theorem a_join {D : Addr} {vs : List Value} {ys : List (List Nat)} {ep : Nat} {t : Tok} {Q : Value → Loc → Cells → Prop} (hm : (D, listOf vs.toArray ep) ∈ N) (hi : Strs vs ys) (hz : ys.flatten.length ≤ 16777216) (h : ∀ t, Q (.str (S ys.flatten) t) m N) :
    TW G c (call (.builtin "str.join") [.str (S []) t, .ref D]) m N Q :=
  .raw0 fun s E Q' F N' q => by
    have hl := isList_of (N'.get hm)
    with_reducible refine join_list hl (ys := ys.map S) (by simpa using hi.are) ?_ ?_
    · simp [S_len, Function.comp_def]
      rw [List.length_flatten] at hz; exact hz
    · intro t' k; rw [join_S]; exact q _ _ (h _)
theorem g_join {x : Str} {t : Tok} {pl : Sem Bool} {Q : Value × List Value → Loc → Cells → Prop} (h : Q (.builtin "str.join", [.str x t]) m N) : TW G c (getMethod (.str x t) "join" pl) m N Q :=
  .raw0 fun s E Q' F N' q => by with_reducible exact PySem.GM.join (q _ s.toks h)
theorem g_upper {x : Str} {t : Tok} {pl : Sem Bool} {Q : Value × List Value → Loc → Cells → Prop} (h : Q (.builtin "str.upper", [.str x t]) m N) : TW G c (getMethod (.str x t) "upper" pl) m N Q :=
  .raw0 fun s E Q' F N' q => by with_reducible exact PySem.GM.upper (q _ s.toks h)
theorem g_lower {x : Str} {t : Tok} {pl : Sem Bool} {Q : Value × List Value → Loc → Cells → Prop} (h : Q (.builtin "str.lower", [.str x t]) m N) : TW G c (getMethod (.str x t) "lower" pl) m N Q :=
  .raw0 fun s E Q' F N' q => by with_reducible exact PySem.GM.lower (q _ s.toks h)
theorem fits_S {x : List Nat} (h : x.length ≤ 16777216) : Builtin.Str.tooLong (S x).length = false := by
  unfold Builtin.Str.tooLong; rw [S_len]; exact decide_eq_false (Nat.not_lt.mpr (le_line h))
theorem a_upper {x : List Nat} {t : Tok} {Q : Value → Loc → Cells → Prop} (ha : Ascii x) (hz : x.length ≤ 16777216) (h : ∀ t, Q (.str (S (x.map up1)) t) m N) : TW G c (call (.builtin "str.upper") [.str (S x) t]) m N Q :=
  .raw0 fun s E Q' F N' q => by
    have hf := fits_S (x := x.map up1) (by simpa using hz)
    rw [← upS ha] at hf
    with_reducible refine PySem.SC.upper hf ?_
    rw [upS ha]; exact q _ _ (h _)
theorem a_lower {x : List Nat} {t : Tok} {Q : Value → Loc → Cells → Prop} (ha : Ascii x) (hz : x.length ≤ 16777216) (h : ∀ t, Q (.str (S (x.map lo1)) t) m N) : TW G c (call (.builtin "str.lower") [.str (S x) t]) m N Q :=
  .raw0 fun s E Q' F N' q => by
    have hf := fits_S (x := x.map lo1) (by simpa using hz)
    rw [← loS ha] at hf
    with_reducible refine PySem.SC.lower hf ?_
    rw [loS ha]; exact q _ _ (h _)
end

theorem kind_of {c : Act} {sc : Scope} {x : Str} {k : NameKind} (hs : c.env.scope = sc) (h : sc.names.lookup x = some k) : c.env.kindOf x = some k := by
  unfold Env.kindOf; rw [hs]; exact h

-- b8
-- locals as written lists
def setl (x : Str) (v : Value) : List (Str × Value) → List (Str × Value)
  | [] => [(x, v)]
  | (y, u) :: r => if x = y then (y, v) :: r else (y, u) :: setl x v r
section
variable {G : St} {c : Act} {n : Nat} {m : Loc} {N : Cells} {pos : Pos}

theorem t_globL {x : Str} {v : Value} {sc : Scope} {Q : Value → Loc → Cells → Prop} (o : Ok G n c) (hs : c.env.scope = sc) (e : nsIn G.K mainGlobals x = some (some v)) (hl : sc.names.lookup x = some .globalImplicit)
    (h : Q v m N) (hd : (x == ("__debug__" : Str)) = false) : TW G c (eval (.Name x pos) c.env) m N Q := t_glob o e (kind_of hs hl) h hd
theorem t_buiL {x : Str} {v : Value} {sc : Scope} {Q : Value → Loc → Cells → Prop} (o : Ok G n c) (hs : c.env.scope = sc) (e : nsIn G.K mainGlobals x = some none) (hb : bootBuiltins x = some v) (hn : x ≠ "__name__") (hl : sc.names.lookup x = some .globalImplicit)
    (h : Q v m N) (hd : (x == ("__debug__" : Str)) = false) : TW G c (eval (.Name x pos) c.env) m N Q := t_bui o e hb hn (kind_of hs hl) h hd
theorem t_assignN {x : Str} {p : Pos} {v : Value} {Q : Unit → Loc → Cells → Prop} (h : TW G c (storeName c.env x v) m N Q) : TW G c (assign (.Name x p) c.env v) m N Q :=
  ⟨fun s₀ s E P => by with_reducible exact wpAny_assign_Name (h.out s₀ s E P)⟩

-- methods: the getting and the call at one blow
abbrev MethQ (G : St) (c : Act) (pos : Pos) (args : List Expr) (Q : Value → Loc → Cells → Prop) : Value × List Value → Loc → Cells → Prop :=
  fun fx m₂ N₂ => TW G c (callWith pos fx.1 fx.2 (backTo pos (starEach args c.env)) []) m₂ N₂ Q
section
variable {args : List Expr} {pl : Sem Bool} {Q : Value → Loc → Cells → Prop}
theorem t_MethL {ob : Expr} {name : Str} {apos : Pos} 
    (h : TW G c (eval ob c.env) m N fun ov m₁ N₁ => TW G c (getMethod ov name pl) m₁ N₁ (MethQ G c pos args Q))
    (he : eval (.Call (.Attribute ob name apos) args [] pos) c.env = (do
      let ov ← eval ob c.env
      standAt apos.atName
      let (f, first) ← holding [ov] (getMethod ov name pl)
      callWith pos f first (backTo pos (starEach args c.env)) [])) :
    TW G c (eval (.Call (.Attribute ob name apos) args [] pos) c.env) m N Q := t_Meth h he
theorem m_upper {x : Str} {t : Tok} (h : TW G c (callWith pos (.builtin "str.upper") [.str x t] (backTo pos (starEach args c.env)) []) m N Q) : TW G c (getMethod (.str x t) (Str.ofString "upper") pl) m N (MethQ G c pos args Q) := g_upper h
theorem m_lower {x : Str} {t : Tok} (h : TW G c (callWith pos (.builtin "str.lower") [.str x t] (backTo pos (starEach args c.env)) []) m N Q) : TW G c (getMethod (.str x t) (Str.ofString "lower") pl) m N (MethQ G c pos args Q) := g_lower h
theorem m_join {x : Str} {t : Tok} (h : TW G c (callWith pos (.builtin "str.join") [.str x t] (backTo pos (starEach args c.env)) []) m N Q) : TW G c (getMethod (.str x t) (Str.ofString "join") pl) m N (MethQ G c pos args Q) := g_join h
theorem m_append {D : Addr} {ob : Obj} (hm : (D, ob) ∈ N) (hc : ob.cls = .type "list") (hd : ob.dict = none) (h : TW G c (callWith pos (.builtin "list.append") [.ref D] (backTo pos (starEach args c.env)) []) m N Q) :
    TW G c (getMethod (.ref D) (Str.ofString "append") pl) m N (MethQ G c pos args Q) := g_append hm h hc hd
end

-- unpacking a tuple
theorem t_unpack {elts : List Expr} {k : Nat} {p : Pos} {T : Addr} {vs : List Value} {ep : Nat} {Q : Unit → Loc → Cells → Prop} (o : Ok G n c) (hm : (T, tupOf vs.toArray ep) ∈ N) (hn : (assignEach elts c.env).length = vs.length) (hstar : (assignEach elts c.env).findIdx? (·.1) = none)
    (h : TW G c (assignInOrder ((assignEach elts c.env).map (·.2)) vs) m N Q) : TW G c (assign (.Tuple elts k p) c.env (.ref T)) m N Q := ⟨fun s₀ s E P => by
  rw [assign_Tuple]
  with_reducible refine wpAny_bind (wpAny_standAt ?_)
  refine unpack_tuple o.handled (isTup_of (P.N.get hm)) (by rw [List.size_toArray]; exact hn) hstar fun h' hx => ?_
  have hlt : ∀ b o, s.heap.get? b = some o → h'.get? b = some o := fun b o e => hx b o (Nat.ne_of_lt (Heap.lt_size e)) e
  exact h.out s₀ _ E (P.ext (tk := s.toks) (P.F.keeps hlt) (P.N.grown hlt))⟩
theorem t_inorder_nil {xs : List Value} {Q : Unit → Loc → Cells → Prop} (h : Q () m N) : TW G c (assignInOrder [] xs) m N Q := ⟨fun s₀ s E P => by with_reducible exact assignInOrder_nil ⟨_, _, P, h⟩⟩
theorem t_inorder {t : Value → Sem Unit} {ts : List (Value → Sem Unit)} {x : Value} {xs : List Value} {Q : Unit → Loc → Cells → Prop} (h : TW G c (t x) m N fun _ m₁ N₁ => TW G c (assignInOrder ts xs) m₁ N₁ Q) : TW G c (assignInOrder (t :: ts) (x :: xs)) m N Q :=
  ⟨fun s₀ s E P => by with_reducible exact assignInOrder_cons (wpAny_mono (h.out s₀ s E P) (fun _ s₁ ⟨_, _, p₁, q₁⟩ => q₁.out s₀ s₁ E p₁) fun _ _ e => e)⟩
/-- two names from a pair -/
theorem t_pair {x y : Str} {px py p : Pos} {k : Nat} {T : Addr} {v u : Value} {ep : Nat} {Q : Unit → Loc → Cells → Prop} (o : Ok G n c) (hm : (T, tupOf [v, u].toArray ep) ∈ N)
    (h : TW G c (storeName c.env x v) m N fun _ m₁ N₁ => TW G c (storeName c.env y u) m₁ N₁ Q) : TW G c (assign (.Tuple [.Name x px, .Name y py] k p) c.env (.ref T)) m N Q := by
  refine t_unpack o hm rfl rfl ?_
  show TW G c (assignInOrder [assign (.Name x px) c.env, assign (.Name y py) c.env] [v, u]) m N Q
  refine t_inorder (t_assignN (h.mono fun _ _ _ h₁ => ?_))
  exact t_inorder (t_assignN (h₁.mono fun _ _ _ h₂ => t_inorder_nil h₂))
end

-- comprehensions
/-- what is picked from k turns, each of which gives R i -/
def Picks (R : Nat → Option Value → Prop) : Nat → List Value → Prop
  | 0, ys => ys = []
  | i + 1, ys => ∃ ys', Picks R i ys' ∧ ((R i none ∧ ys = ys') ∨ ∃ y, R i (some y) ∧ ys = ys' ++ [y])
theorem Picks.len {R : Nat → Option Value → Prop} : ∀ {k ys}, Picks R k ys → ys.length ≤ k
  | 0, ys, h => by rw [show ys = [] from h]; exact Nat.le_refl _
  | k + 1, ys, ⟨ys', h, e⟩ => by
    have := h.len
    rcases e with ⟨_, rfl⟩ | ⟨y, _, rfl⟩
    · (first | (revert this; walk_at "Z") | omega)
    · simp; (first | (revert this; walk_at "Z") | omega)
theorem Picks.strs {R : Nat → Option Value → Prop} {f : Nat → Option (List Nat)} {k : Nat} (h0 : ∀ i, i < k → R i none → f i = none) (h1 : ∀ i y, i < k → R i (some y) → ∃ s t, f i = some s ∧ y = .str (S s) t) {ys} (h : Picks R k ys) : Strs ys ((List.range k).filterMap f) := by
  induction k generalizing ys with
  | zero => rw [show ys = [] from h]; exact .nil
  | succ k ih =>
    obtain ⟨ys', h', e⟩ := h
    have ih' := ih (fun i hi => h0 i (by (first | (revert hi; walk_at "Z") | omega))) (fun i y hi => h1 i y (by (first | (revert hi; walk_at "Z") | omega))) h'
    rw [List.range_succ, List.filterMap_append]
    rcases e with ⟨hr, rfl⟩ | ⟨y, hr, rfl⟩
    · simp [h0 k (by (first | walk_at "Z" | omega)) hr]; exact ih'
    · obtain ⟨s, t, e1, rfl⟩ := h1 k y (by (first | walk_at "Z" | omega)) hr
      simp [e1]; exact ih'.snoc s t
theorem Picks.ints {R : Nat → Option Value → Prop} {f : Nat → Option Int} {k : Nat} (h0 : ∀ i, i < k → R i none → f i = none) (h1 : ∀ i y, i < k → R i (some y) → ∃ s t, f i = some s ∧ y = .int s t) {ys} (h : Picks R k ys) : IntsAre ys ((List.range k).filterMap f) := by
  have snoc : ∀ {vs : List Value} {ns : List Int} (x : Int) (t : Tok), IntsAre vs ns → IntsAre (vs ++ [.int x t]) (ns ++ [x]) := by
    intro vs ns x t h
    induction h with
    | nil => exact .cons x t .nil
    | cons y u _ ih => exact .cons y u ih
  induction k generalizing ys with
  | zero => rw [show ys = [] from h]; exact .nil
  | succ k ih =>
    obtain ⟨ys', h', e⟩ := h
    have ih' := ih (fun i hi => h0 i (by (first | (revert hi; walk_at "Z") | omega))) (fun i y hi => h1 i y (by (first | (revert hi; walk_at "Z") | omega))) h'
    rw [List.range_succ, List.filterMap_append]
    rcases e with ⟨hr, rfl⟩ | ⟨y, hr, rfl⟩
    · simp [h0 k (by (first | walk_at "Z" | omega)) hr]; exact ih'
    · obtain ⟨s, t, e1, rfl⟩ := h1 k y (by (first | walk_at "Z" | omega)) hr
      simp [e1]; exact snoc s t ih'

section
variable {G : St} {c : Act} {n : Nat} {m : Loc} {N : Cells} {pos : Pos}

theorem okComp {scope : Scope} {cl : List (Str × Addr)} {C : Addr} {h₀ : Heap} (o : Ok G n c) (st : ∀ b o, c.h₀.get? b = some o → h₀.get? b = some o) (hk : scope.kind = .function) : Ok G n ⟨c.A, compEnvC scope cl C c.env, h₀⟩ :=
  ⟨o.X.keeps st, o.T.keeps st, o.depth, o.units, o.handled, hk, o.glob, o.bui⟩

def TestsW (G : St) (c : Act) (ifs : List Expr) (m : Loc) (N : Cells) (Q : Bool → Loc → Cells → Prop) : Prop := match ifs with
  | [] => Q true m N
  | [t] => TW G c (isTrue t c.env (eval t c.env)) m N Q
  | _ => False
theorem TestsW.out {ifs : List Expr} {Q : Bool → Loc → Cells → Prop} (h : TestsW G c ifs m N Q) :
    TW G c (forIn ifs true fun t r => if r = true then do let ok ← isTrue t c.env (eval t c.env); pure (ForInStep.yield ok) else pure (ForInStep.yield r)) m N Q := by
  match ifs, h with
  | [], h => exact ⟨fun s₀ s E P => wpAny_tests_nil ⟨_, _, P, h⟩⟩
  | [t], h => exact ⟨fun s₀ s E P => wpAny_tests_one (TW.out h s₀ s E P)⟩

theorem codeAny_compLoop_go {prog : Program} {w : World} {A : Around} {R : Result → Shared → Prop} {s : Shared} {elt target iter : Expr} {ifs : List Expr} {scope : Scope} {pos : Pos} {it acc : Value} {env : Env} (I : Nat → Shared → Prop)
    (turn : ∀ n s, I n s → wpAny (model prog w) A (pyNext it) (fun r s₁ => match r with
      | none => R (.ok .next) s₁
      | some v => wpAny (model prog w) A (letOwnedTupleGo target it v) (fun _ s₁' => wpAny (model prog w) A (assign target env v) (fun _ s₂ =>
          wpAny (model prog w) A (forIn ifs true fun c r => if r = true then do let ok ← isTrue c env (eval c env); pure (ForInStep.yield ok) else pure (ForInStep.yield r)) (fun ok s₃ =>
            if ok = true then wpAny (model prog w) A (eval elt env) (fun x s₄ =>
              wpAny (model prog w) A (call (.builtin "list.append") [acc, x]) (fun _ s₅ => ∃ m, m < n ∧ I m s₅) (notedBy (model prog w) A env fun e s' => R (.error e) s') s₄) (notedBy (model prog w) A env fun e s' => R (.error e) s') s₃
            else ∃ m, m < n ∧ I m s₃) (notedBy (model prog w) A env fun e s' => R (.error e) s') s₂) (notedBy (model prog w) A env fun e s' => R (.error e) s') s₁') (notedBy (model prog w) A env fun e s' => R (.error e) s') s₁) (notedBy (model prog w) A env fun e s' => R (.error e) s') s)
    (n : Nat) (h : I n s) :
    codeAny (model prog w) A (.compLoop (.ListComp elt [⟨target, iter, ifs, 0⟩] scope pos) 0 it acc env) R s := by
  refine codeAny_loop rfl I (fun n s hI => ?_) n h
  show wpAny _ _ ((compTurn (.ListComp elt [⟨target, iter, ifs, 0⟩] scope pos) 0 it acc env).onRaise (fun x => do noteFrame x env; theTreesLotGoes x)) _ _ s
  refine wpAny_noted ?_
  rw [compTurn_list]
  refine wpAny_bind (wpAny_standAt (wpAny_bind (wpAny_mono (turn n s hI) (fun r s₁ h₁ => ?_) fun _ _ h' => h')))
  cases r with
  | none => exact wpAny_pure h₁
  | some v =>
    refine wpAny_bind (wpAny_mono h₁ (fun _ s₁' h₁' => ?_) fun _ _ h' => h')
    refine wpAny_bind (wpAny_mono h₁' (fun _ s₂ h₂ => wpAny_bind (wpAny_mono h₂ (fun ok s₃ h₃ => ?_) fun _ _ h' => h')) fun _ _ h' => h')
    cases ok with
    | false => exact wpAny_pure ⟨rfl, h₃⟩
    | true =>
      exact wpAny_bind (wpAny_bind (wpAny_mono h₃ (fun x s₄ h₄ => wpAny_bind (wpAny_mono h₄ (fun _ s₅ h₅ => wpAny_pure (wpAny_pure ⟨rfl, h₅⟩)) fun _ _ h' => h')) fun _ _ h' => h'))

/-- the block of a list comprehension behind its iterator -/
theorem comp_core {elt target iter : Expr} {ifs : List Expr} {scope : Scope} {cl : List (Str × Addr)} {I : Addr} {ob : Obj} {D : Cells} {k : Nat} {P : Nat → Value → Prop} {st : Nat → Obj → Prop} {R : Nat → Option Value → Prop}
    (o : Ok G n c) (hcell : ∀ y ∈ scope.names, y.2 ≠ .cell) (hk : scope.kind = .function) (hsz : k ≤ 16777216)
    (W : ∀ c₂, Ok G n c₂ → Walk G c₂ I D k P st target) (hD : ∀ d ∈ D, d ∈ N) (hI : Fresh I N) (hst : st 0 ob) (hself : ∀ c₂ m₂ N₂, Ok G n c₂ → TW G c₂ (pyIter (.ref I)) m₂ ((I, ob) :: N₂) fun r m' N' => r = .ref I ∧ m' = m₂ ∧ N' = (I, ob) :: N₂)
    (hb : ∀ (c₂ : Act) (l : Loc) (X : Cells) (i : Nat) (v : Value), c₂.env.scope = relabel scope c.env → c₂.env.cells = cl → Ok G n c₂ → (∀ p ∈ N, p ∈ X) → i < k → P i v →
      TW G c₂ (assign target c₂.env v) l X fun _ m₁ N₁ => TestsW G c₂ ifs m₁ N₁ fun ok m₂ N₂ => if ok = true then TW G c₂ (eval elt c₂.env) m₂ N₂ (fun y _ N₃ => R i (some y) ∧ ∀ p ∈ X, p ∈ N₃) else R i none ∧ ∀ p ∈ X, p ∈ N₂)
    {s₀ s : Shared} (P₀ : Pre c m ((I, ob) :: N) s₀ s) {E : Value → Shared → Prop} {RR : Value → Addr → Result → Shared → Prop}
    (hR : ∀ A C oC ys ep s', Picks R k ys → Fresh A N → Fresh C ((A, listOf ys.toArray ep) :: N) → Pre c m ((C, oC) :: (A, listOf ys.toArray ep) :: N) s₀ s' → (∃ mC, s'.heap.Ns C mC) → RR (.ref A) C (.ok .next) s') :
    wpAny (model G.prog G.w) c.A (newList []) (fun acc s₃ => wpAny (model G.prog G.w) c.A (newFunctionEnv scope c.env.globals cl [] c.env.qual none .none (some c.env)) (fun cenv s₄ =>
      codeAny (model G.prog G.w) c.A (.compStart (.ListComp elt [⟨target, iter, ifs, 0⟩] scope pos) 0 (.ref I) acc { cenv with scope := relabel scope c.env }) (RR acc cenv.locals) s₄) E s₃) E s := by
  refine newList_N P₀.F P₀.N (fun h₃ F₃ N₃ => ?_) (by simp)
  have hfA : Fresh s.heap.objs.size ((I, ob) :: N) := news_fresh P₀.N
  have P₃ : Pre c m ((s.heap.objs.size, listOf ([] : List Value).toArray 0) :: (I, ob) :: N) s₀ { s with heap := h₃ } := P₀.ext (tk := s.toks) F₃ N₃
  obtain ⟨stt, sub, back⟩ := ground P₃
  generalize hg : hideAll h₃ (((s.heap.objs.size, listOf ([] : List Value).toArray 0) :: (I, ob) :: N).map (·.1)) = g at stt sub back
  refine wpAny_newFunctionEnv hcell (by intro y hy; simp at hy) (fun h₁ hns₁ hsb₁ => ?_) hk
  dsimp only at hns₁ hsb₁ ⊢
  have hk₁ : ∀ b o, h₃.get? b = some o → h₁.get? b = some o := fun b o e => hsb₁.extBut b o (Nat.ne_of_lt (Heap.lt_size e)) (Heap.get?_push_of_some _ e)
  have O := okComp (scope := scope) (cl := cl) (C := h₃.objs.size) o stt hk
  let c₂ : Act := ⟨c.A, compEnvC scope cl h₃.objs.size c.env, g⟩
  have gsz : g.objs.size = h₃.objs.size := by rw [← hg]; exact hideAll_size _ _
  have P₂ : Pre c₂ (fun x => ([] : List (Str × Value)).reverse.lookup x) ((s.heap.objs.size, listOf ([] : List Value).toArray 0) :: (I, ob) :: N) s₀ { s with heap := h₁, toks := s.toks + ([] : List (Str × Value)).length } :=
    ⟨⟨hns₁, fun b o e => hk₁ b o (sub b o e), Nat.le_of_eq gsz⟩,
     fun p hp => ⟨hk₁ _ _ (P₃.N p hp).1, Nat.ne_of_lt (Heap.lt_size (P₃.N p hp).1), by show g.get? p.1 = none; rw [← hg]; exact hideAll_none _ (List.mem_map_of_mem hp)⟩, ⟨P₃.R.os, P₃.R.gens, P₃.R.bare⟩⟩
  have hIA : I ≠ s.heap.objs.size := hfA _ (.head _)
  have hAN : Fresh s.heap.objs.size N := hfA.sub fun p hp => .tail _ hp
  -- the loop
  have loop : ∀ (s₅ : Shared) (l : Loc), Pre c₂ l ((I, ob) :: (s.heap.objs.size, listOf ([] : List Value).toArray 0) :: N) s₀ s₅ → codeAny (model G.prog G.w) c.A (.compLoop (.ListComp elt [⟨target, iter, ifs, 0⟩] scope pos) 0 (.ref I) (.ref s.heap.objs.size) (compEnvC scope cl h₃.objs.size c.env)) (RR (.ref s.heap.objs.size) h₃.objs.size) s₅ := by
    intro s₅ l P₅
    refine codeAny_compLoop_go (fun d s' => ∃ i ys ep l o', i ≤ k ∧ d = k - i ∧ st i o' ∧ Picks R i ys ∧ Pre c₂ l ((I, o') :: (s.heap.objs.size, listOf ys.toArray ep) :: N) s₀ s') ?_ k ⟨0, [], 0, l, ob, Nat.zero_le _, rfl, hst, rfl, P₅⟩
    rintro d s' ⟨i, ys, ep, l, o', hi, rfl, ho', hp, P'⟩
    have hFI : Fresh I ((s.heap.objs.size, listOf ys.toArray ep) :: N) := fun p hp => by
      rcases List.mem_cons.mp hp with rfl | hp
      · exact Ne.symm hIA
      · exact hI p hp
    have hDX : ∀ d ∈ D, d ∈ (s.heap.objs.size, listOf ys.toArray ep) :: N := fun d hd => .tail _ (hD d hd)
    by_cases hlt : i < k
    · refine wpAny_mono (((W c₂ O).item i o' l _ hlt ho' hDX hFI).out s₀ s' _ P') ?_ fun _ _ e => e
      rintro r s₁ ⟨_, _, p₁, v, o'', rfl, rfl, rfl, ho'', hP⟩
      dsimp only
      refine wpAny_mono (((W c₂ O).go (i + 1) o'' v _ _ ho'').out s₀ s₁ _ p₁) ?_ fun _ _ e => e
      rintro _ s₂ ⟨_, _, p₂, rfl, rfl⟩
      refine wpAny_mono ((hb c₂ _ ((I, o'') :: (s.heap.objs.size, listOf ys.toArray ep) :: N) i v rfl rfl O (fun p hp => .tail _ (.tail _ hp)) hlt hP).out s₀ s₂ _ p₂) ?_ fun _ _ e => e
      rintro _ s₃ ⟨m₃, N₃', p₃, q₃⟩
      refine wpAny_mono (q₃.out.out s₀ s₃ _ p₃) ?_ fun _ _ e => e
      rintro ok s₄ ⟨m₄, N₄, p₄, q₄⟩
      cases ok with
      | false =>
        simp only [Bool.false_eq_true, if_false] at q₄ ⊢
        exact ⟨k - (i + 1), by (first | (revert hlt; walk_at "Z") | omega), i + 1, ys, ep, m₄, o'', hlt, rfl, ho'', ⟨ys, hp, .inl ⟨q₄.1, rfl⟩⟩, p₄.sub q₄.2⟩
      | true =>
        simp only [if_true] at q₄ ⊢
        refine wpAny_mono (q₄.out s₀ s₄ _ p₄) ?_ fun _ _ e => e
        rintro y s₅ ⟨m₅, N₅, p₅, hr, hs⟩
        have hz : ys.length ≤ 16777216 := Nat.le_trans hp.len (by (first | (revert hlt hsz; walk_at "Z") | omega))
        refine wpAny_mono ((a_append (c := c₂) (G := G) (Q := fun r m' N' => m' = m₅ ∧ ∃ ep', N' = put s.heap.objs.size (listOf (ys ++ [y]).toArray ep') ((I, o'') :: (s.heap.objs.size, listOf ys.toArray ep) :: N)) (.tail _ (.head _)) hz fun ep' => ⟨rfl, ep', rfl⟩).out s₀ s₅ _ (p₅.sub hs)) ?_ fun _ _ e => e
        rintro _ s₆ ⟨m₆, N₆, p₆, rfl, ep', rfl⟩
        rw [put_tail hIA, put_head hAN] at p₆
        exact ⟨k - (i + 1), by (first | (revert hlt; walk_at "Z") | omega), i + 1, ys ++ [y], ep', m₆, o'', hlt, rfl, ho'', ⟨ys, hp, .inr ⟨y, hr, rfl⟩⟩, p₆⟩
    · have : i = k := by (first | (revert hi hlt; walk_at "Z") | omega)
      subst this
      refine wpAny_mono (((W c₂ O).done o' l _ ho' hDX hFI).out s₀ s' _ P') ?_ fun _ _ e => e
      rintro r s₁ ⟨_, _, p₁, rfl, rfl, rfl⟩
      dsimp only
      obtain ⟨oC, es, ep', hC, r⟩ := p₁.F.ns
      have Pb := back p₁.F p₁.N p₁.R
      have hCg : c.h₀.get? h₃.objs.size = none := by
        cases q : c.h₀.get? h₃.objs.size with
        | none => rfl
        | some o => exact absurd (Heap.lt_size (stt _ _ q)) (by rw [gsz]; exact Nat.lt_irrefl _)
      have hCL : h₃.objs.size ≠ c.env.locals := by
        obtain ⟨oL, _, _, hL, _⟩ := P₃.F.ns
        exact Nat.ne_of_gt (Heap.lt_size hL)
      have hFC : Fresh h₃.objs.size ((s.heap.objs.size, listOf ys.toArray ep) :: N) := fun p hp => (p₁.N p hp).2.1
      refine hR _ _ oC ys ep s₁ hp hAN hFC ⟨Pb.F, fun p hp => ?_, Pb.R⟩ ⟨_, p₁.F.ns⟩
      rcases List.mem_cons.mp hp with rfl | hp
      · exact ⟨hC, hCL, hCg⟩
      · exact Pb.N p hp
  have P₂' : Pre c₂ (fun x => ([] : List (Str × Value)).reverse.lookup x) ((I, ob) :: (s.heap.objs.size, listOf ([] : List Value).toArray 0) :: N) s₀ { s with heap := h₁, toks := s.toks + ([] : List (Str × Value)).length } := P₂.sub fun p hp => by
    rcases List.mem_cons.mp hp with rfl | hp
    · exact .tail _ (.head _)
    · rcases List.mem_cons.mp hp with rfl | hp
      · exact .head _
      · exact .tail _ (.tail _ hp)
  refine codeAny_compStart_list (loop _ _ P₂') ?_
  refine wpAny_mono ((hself c₂ _ ((s.heap.objs.size, listOf ([] : List Value).toArray 0) :: N) O).out s₀ _ _ P₂') ?_ fun _ _ e => e
  rintro it' s₆ ⟨_, _, p₆, rfl, rfl, rfl⟩
  exact loop _ _ p₆
end

-- b9
def relabelS (scope sc : Scope) : Scope :=
  { scope with names := scope.names.map fun (n, k) => if (k == .free && sc.kind == .function && sc.names.lookup n == some .cell) then (n, .cell) else (n, k) }
theorem relabel_eq {scope sc : Scope} {env : Env} (h : env.scope = sc) : relabel scope env = relabelS scope sc := by
  subst h; rfl
def closC (cells : List (Str × Addr)) : List (Str × NameKind) → List (Str × Addr) → Option (List (Str × Addr))
  | [], cs => some cs
  | (x, k) :: r, cs => if (k == .free) = true then (match cells.lookup x with
      | some a => closC cells r ((x, a) :: cs)
      | none => none) else closC cells r cs
theorem closC_eq {scope : Scope} {env : Env} {cl : List (Str × Addr)} (h : closC env.cells scope.names [] = some cl) : closureFor scope env = pure cl := by
  unfold closureFor
  have key : ∀ (ns : List (Str × NameKind)) (cs : List (Str × Addr)), closC env.cells ns cs = some cl →
      (forIn ns cs fun (x : Str × NameKind) r => (if (x.2 == NameKind.free) = true then do let y ← cellOf env x.1; pure (ForInStep.yield ((x.1, y) :: r)) else pure (ForInStep.yield r)) : Sem (List (Str × Addr))) = pure cl := by
    intro ns
    induction ns with
    | nil => intro cs h; simp only [closC, Option.some.injEq] at h; subst h; rfl
    | cons p r ih =>
      intro cs h
      obtain ⟨x, k⟩ := p
      simp only [List.forIn_cons]
      unfold closC at h
      by_cases hk : (k == NameKind.free) = true
      · rw [if_pos hk] at h
        cases e : env.cells.lookup x with
        | none => rw [e] at h; cases h
        | some a =>
          rw [e] at h
          have ec : cellOf env x = pure a := by unfold cellOf; rw [e]
          simp only [hk, if_true, ec]
          exact ih _ h
      · rw [if_neg hk] at h
        simp only [hk, if_false]
        exact ih _ h
  have := key scope.names [] h
  simp only [bind_pure]
  exact this

section
variable {G : St} {c : Act} {n : Nat} {m : Loc} {N : Cells} {pos : Pos}

structure IterW (G : St) (n : Nat) (c : Act) (x : Value) (m : Loc) (N : Cells) (target : Expr) (D : Cells) (k : Nat) (P : Nat → Value → Prop) : Prop where
  out : ∀ (s₀ s : Shared) (E : Value → Shared → Prop) (Q : Value → Shared → Prop), Pre c m N s₀ s →
    (∀ I ob (st : Nat → Obj → Prop) s', Pre c m ((I, ob) :: N) s₀ s' → Fresh I N → st 0 ob → (∀ c₂, Ok G n c₂ → Walk G c₂ I D k P st target) →
      (∀ c₂ m₂ N₂, Ok G n c₂ → TW G c₂ (pyIter (.ref I)) m₂ ((I, ob) :: N₂) fun r m' N' => r = .ref I ∧ m' = m₂ ∧ N' = (I, ob) :: N₂) → Q (.ref I) s') →
    wpAny (model G.prog G.w) c.A (pyIter x) Q E s

theorem it_list {target : Expr} {l : Addr} {vs : List Value} {ep : Nat} (hm : (l, listOf vs.toArray ep) ∈ N) : IterW G n c (.ref l) m N target [(l, listOf vs.toArray ep)] vs.length (fun i v => vs[i]? = some v) := ⟨fun s₀ s E Q P k => by
  with_reducible refine wpAny_pyIter_list (isList_of (P.N.get hm)) ?_
  have hf := news_fresh P.N
  refine k _ _ (isLI l) _ (P.ext (tk := s.toks) (P.F.push _) (P.N.push P.F _)) hf ⟨rfl, rfl⟩ (fun c₂ o => walk_list o) fun c₂ m₂ N₂ o => .raw0 fun s E Q' F N' q => ?_
  have hit : s.heap.IsListIter _ l 0 := ⟨_, N'.get (.head _), rfl, rfl⟩
  with_reducible exact wpAny_pyIter_listiter hit (q _ s.toks ⟨rfl, rfl, rfl⟩)⟩
theorem it_range {target : Expr} {R : Addr} {a b d : Int} {t u v : Tok} {k : Nat} (hm : (R, rngOf a b d t u v) ∈ N) (hs : Builtin.Range.small a b d = true) (hk : Builtin.Range.rangeSize a b d = k) :
    IterW G n c (.ref R) m N target [] k (fun i v => ∃ t, v = .int (a + i * d) t) := ⟨fun s₀ s E Q P k' => by
  with_reducible refine wpAny_pyIter_range (P.N.get hm) hs ?_
  have hf := news_fresh P.N
  rw [hk]
  refine k' _ (riOf a k d) (fun i ob => ob = riOf (a + i * d) ((k : Int) - i) d) _ (P.ext (tk := s.toks) (P.F.push _) (P.N.push P.F _)) hf (by simp) (fun c₂ o => walk_range o) fun c₂ m₂ N₂ o => .raw0 fun s E Q' F N' q => ?_
  have hit : IsRangeIter s.heap _ a k d := N'.get (.head _)
  with_reducible exact wpAny_pyIter_rangeiter hit (q _ s.toks ⟨rfl, rfl, rfl⟩)⟩
theorem it_str {target : Expr} {x : List Nat} {tk : Tok} (ha : ∀ d ∈ x, d < 128) : IterW G n c (.str (S x) tk) m N target [] x.length (fun i v => ∃ d t, x[i]? = some d ∧ v = .str (S [d]) t) := ⟨fun s₀ s E Q P k => by
  with_reducible refine wpAny_pyIter_ascii (by simp [S_cps]; exact ha) ?_
  have hf := news_fresh P.N
  refine k _ _ (isSI (S x) tk) _ (P.ext (tk := s.toks) (P.F.push _) (P.N.push P.F _)) hf ⟨rfl, rfl⟩ (fun c₂ o => walk_str o) fun c₂ m₂ N₂ o => .raw0 fun s E Q' F N' q => ?_
  have hit : s.heap.IsStrIter _ "str_ascii_iterator" (S x) tk 0 := ⟨_, N'.get (.head _), rfl, rfl⟩
  with_reducible exact wpAny_pyIter_striter_ascii hit (q _ s.toks ⟨rfl, rfl, rfl⟩)⟩

/-- what a comprehension does behind the value that is iterated -/
structure CompB (G : St) (n : Nat) (c : Act) (elt target : Expr) (ifs : List Expr) (scope sc : Scope) (cl : List (Str × Addr)) (x : Value) (m : Loc) (N : Cells) (K : Addr → Cells → Prop) : Prop where
  out : ∃ D k P R, IterW G n c x m N target D k P ∧ (∀ d ∈ D, d ∈ N) ∧ k ≤ 16777216 ∧
    (∀ (c₂ : Act) (l : Loc) (X : Cells) (i : Nat) (v : Value), c₂.env.scope = relabelS scope sc → c₂.env.cells = cl → Ok G n c₂ → (∀ p ∈ N, p ∈ X) → i < k → P i v →
      TW G c₂ (assign target c₂.env v) l X fun _ m₁ N₁ => TestsW G c₂ ifs m₁ N₁ fun ok m₂ N₂ => if ok = true then TW G c₂ (eval elt c₂.env) m₂ N₂ (fun y _ N₃ => R i (some y) ∧ ∀ p ∈ X, p ∈ N₃) else R i none ∧ ∀ p ∈ X, p ∈ N₂) ∧
    ∀ A ys ep, Picks R k ys → Fresh A N → K A ((A, listOf ys.toArray ep) :: N)

theorem comp_any {elt target iter : Expr} {ifs : List Expr} {scope sc : Scope} {cl : List (Str × Addr)} {p1 p2 : Pos} {use : Option (Value → Sem Unit)} {K : Addr → Loc → Cells → Prop} {s₀ s : Shared} {E : Value → Shared → Prop} {Q : Value → Shared → Prop}
    (o : Ok G n c) (hs : c.env.scope = sc) (hclos : closC c.env.cells scope.names [] = some cl) (hcell : (scope.names.all fun y => y.2 != .cell) = true) (hk : scope.kind = .function)
    (hnames : (scope.names.all fun y => y.2 != .local || scope.names.lookup y.1 == some .local) = true) (hf : ∀ x, foldedSetIterable iter c.env x = pure x)
    (h : TW G c (eval iter c.env) m N fun x m₁ N₁ => CompB G n c elt target ifs scope sc cl x m₁ N₁ fun A X => K A m₁ X)
    (hQ : ∀ A C oC m₁ X s', K A m₁ X → Fresh C X → Pre c m₁ ((C, oC) :: X) s₀ s' → (∃ mC, s'.heap.Ns C mC) → compPost (model G.prog G.w) c.A E use Q (.ref A) C (.ok .next) s')
    (P₀ : Pre c m N s₀ s) : wpAny (model G.prog G.w) c.A (comprehension (.ListComp elt [⟨target, iter, ifs, 0⟩] scope p1) scope c.env p2 (newList []) false (eval iter c.env) use) Q E s := by
  have hcell' : ∀ y ∈ scope.names, y.2 ≠ .cell := fun y hy => by simpa using List.all_eq_true.mp hcell y hy
  have hnames' : ∀ y ∈ scope.names, y.2 = .local → scope.names.lookup y.1 = some .local := fun y hy e => by
    have := List.all_eq_true.mp hnames y hy
    simpa [e] using this
  have hcl := closC_eq hclos
  refine wpAny_comprehension_free (g := ⟨target, iter, ifs, 0⟩) (gs := []) rfl hf hcl hk hnames' ?_
  refine wpAny_mono (h.out s₀ s E P₀) ?_ fun _ _ e => e
  rintro x s₁ ⟨m₁, N₁, p₁, D, k, P, R, W, hD, hsz, hb, hK⟩
  refine W.out s₀ s₁ E _ p₁ fun I ob st s₂ p₂ hI hst hW hself => ?_
  refine comp_core (c := c) (RR := fun acc C => compPost (model G.prog G.w) c.A E use Q acc C) (R := R) (N := N₁) (ob := ob) o hcell' hk hsz hW hD hI hst (fun c₂ m₂ N₂ o₂ => hself c₂ m₂ N₂ o₂) (fun c₂ l X i v e1 e2 o₂ hX hi hp => hb c₂ l X i v (e1.trans (relabel_eq hs)) e2 o₂ hX hi hp) p₂ ?_
  intro A C oC ys ep s' hp hA hC p' hns
  exact hQ A C oC m₁ _ s' (hK A ys ep hp hA) hC p' hns

theorem t_ListComp {elt target iter : Expr} {ifs : List Expr} {scope sc : Scope} {cl : List (Str × Addr)} {Q : Value → Loc → Cells → Prop}
    (o : Ok G n c) (hs : c.env.scope = sc) (hclos : closC c.env.cells scope.names [] = some cl) (hcell : (scope.names.all fun y => y.2 != .cell) = true) (hk : scope.kind = .function)
    (hnames : (scope.names.all fun y => y.2 != .local || scope.names.lookup y.1 == some .local) = true) (hf : ∀ x, foldedSetIterable iter c.env x = pure x)
    (h : TW G c (eval iter c.env) m N fun x m₁ N₁ => CompB G n c elt target ifs scope sc cl x m₁ N₁ fun A X => Q (.ref A) m₁ X) :
    TW G c (eval (.ListComp elt [⟨target, iter, ifs, 0⟩] scope pos) c.env) m N Q := ⟨fun s₀ s E P₀ => by
  rw [eval_ListComp]
  refine comp_any o hs hclos hcell hk hnames hf h ?_ P₀
  rintro A C oC m₁ X s' hK hC p' ⟨mC, hns⟩
  refine ⟨mC, hns, fun h' hsb => ⟨m₁, X, ?_, hK⟩⟩
  have z := p'.N _ (.head _)
  obtain ⟨oL, es, ep, hL, r⟩ := p'.F.ns
  refine ⟨⟨⟨oL, es, ep, hsb.extBut _ _ (Ne.symm z.2.1) hL, r⟩, fun b ob e => hsb.extBut b ob (fun q => ?_) (p'.F.keep b ob e), p'.F.above⟩, fun p hp => ⟨hsb.extBut _ _ (hC p hp) (p'.N p (.tail _ hp)).1, (p'.N p (.tail _ hp)).2⟩, ⟨p'.R.os, p'.R.gens, p'.R.bare⟩⟩
  subst q; rw [z.2.2] at e; cases e⟩

theorem exec_comp {elt target iter : Expr} {ifs : List Expr} {scope sc : Scope} {cl : List (Str × Addr)} {y : Str} {py : Pos} {spos : Pos} {Q : Flow → Loc → Cells → Prop}
    (o : Ok G n c) (hs : c.env.scope = sc) (hclos : closC c.env.cells scope.names [] = some cl) (hcell : (scope.names.all fun y => y.2 != .cell) = true) (hk : scope.kind = .function)
    (hnames : (scope.names.all fun y => y.2 != .local || scope.names.lookup y.1 == some .local) = true) (hf : ∀ x, foldedSetIterable iter c.env x = pure x)
    (hsw : swapsWith (.ListComp elt [⟨target, iter, ifs, 0⟩] scope pos) (some (.Name y py)) spos.line c.env = pure true)
    (h : TW G c (eval iter c.env) m N fun x m₁ N₁ => CompB G n c elt target ifs scope sc cl x m₁ N₁ fun A X => ∀ C oC, Fresh C X →
      TW G c (storeName c.env y (.ref A)) m₁ ((C, oC) :: X) fun _ m' N' => ∃ X', N' = (C, oC) :: X' ∧ Fresh C X' ∧ Q .next m' X') :
    TW G c (exec (.Assign [.Name y py] (.ListComp elt [⟨target, iter, ifs, 0⟩] scope pos) spos) c.env) m N Q := ⟨fun s₀ s E P₀ => by
  rw [exec_Assign_Name_used _ _ _ _ hsw]
  refine wpAny_bind (wpAny_standAt (wpAny_bind ?_))
  show wpAny _ c.A (do let _ ← comprehension (.ListComp elt [⟨target, iter, ifs, 0⟩] scope pos) scope c.env _ (newList []) false (eval iter c.env) (some (assign (.Name y py) c.env))) _ _ s
  refine wpAny_bind (wpAny_mono (comp_any (use := some (assign (.Name y py) c.env)) (Q := fun _ s' => Aft c s₀ Q .next s') o hs hclos hcell hk hnames hf h ?_ P₀) (fun _ s' hq => wpAny_pure (wpAny_pure hq)) fun _ _ e => e)
  rintro A C oC m₁ X s' hK hC p' ⟨mC, oC', es', ep', hC', rC⟩
  show wpAny _ c.A (assign (.Name y py) c.env (.ref A)) _ _ _
  refine wpAny_mono ((t_assignN (hK C oC hC)).out s₀ s' E p') ?_ fun _ _ e => e
  rintro _ s'' ⟨m', N', p'', X', rfl, hC'', hQ⟩
  have e : oC' = oC := by
    have := (p'.N _ (.head _)).1; rw [hC'] at this; exact Option.some.inj this
  subst e
  have z := p''.N _ (.head _)
  refine ⟨mC, ⟨oC', es', ep', z.1, rC⟩, fun h' hsb => ⟨m', X', ?_, hQ⟩⟩
  obtain ⟨oL, es, ep, hL, r⟩ := p''.F.ns
  refine ⟨⟨⟨oL, es, ep, hsb.extBut _ _ (Ne.symm z.2.1) hL, r⟩, fun b ob e => hsb.extBut b ob (fun q => ?_) (p''.F.keep b ob e), p''.F.above⟩, fun p hp => ⟨hsb.extBut _ _ (hC'' p hp) (p''.N p (.tail _ hp)).1, (p''.N p (.tail _ hp)).2⟩, ⟨p''.R.os, p''.R.gens, p''.R.bare⟩⟩
  subst q; rw [z.2.2] at e; cases e⟩
/-- stores into a cell -/
theorem t_storeC {x : Str} {v : Value} {a : Addr} {ob : Obj} {v₀ : Option Value} {Q : Unit → Loc → Cells → Prop} (o : Ok G n c) (hc : c.env.cells.lookup x = some a) (hm : (a, ob) ∈ N) (hob : ob.data = .cell v₀)
    (hl : c.env.kindOf x = some .cell) (h : ∀ ob', ob'.data = .cell (some v) → Q () m (put a ob' N)) : TW G c (storeName c.env x v) m N Q :=
  .raw fun s E Q' F N' k => by
    have hv : s.heap.IsCell a v₀ := ⟨ob, N'.get hm, hob⟩
    with_reducible refine wpAny_storeName_cell o.kind hl hc hv fun h' hv' hs => ?_
    obtain ⟨ob', ho', hd'⟩ := hv'
    obtain ⟨F1, N1⟩ := news_put F N' hm hs ho'
    exact k _ h' s.toks _ _ F1 N1 (h ob' hd')
end

-- b10
section
variable {prog : Program} {w : World} {A : Around} {E : Value → Shared → Prop} {s : Shared}
theorem lsp_item {it l : Addr} {i : Nat} {items} {x : Value} {Q : Option Value → Shared → Prop} (hit : s.heap.IsListIter it l i)
    (hl : s.heap.IsList l items) (hx : items[i]? = some x)
    (hQ : ∀ h', h'.IsListIter it l (i + 1) → Heap.SameBut it s.heap h' → Q (some x) { s with heap := h' }) :
    wpAny (model prog w) A (callSpecial? (.ref it) (Str.ofString "__next__")) Q E s := by
  obtain ⟨o, ho, hc, hd⟩ := id hit
  obtain ⟨ol, hol, _, nl, hdl⟩ := hl
  refine wpAny_callSpecial?_slot (name := Str.ofString "__next__") hit.typeIs slot_listiter_next
    (wpAny_call_entry slot_listiter_next hit.typeIs entry_listiter_next ?_ (args_listiter_next _))
  show wpAny _ _ (field (.ref it) 0 >>= _) _ _ s
  refine wpAny_bind (wpAny_field ho hd (x := .ref l) rfl ?_)
  show wpAny _ _ (if (Value.ref l == Value.none) = true then _ else _) _ _ s
  rw [if_neg (show ¬ ((Value.ref l == Value.none) = true) from Bool.false_ne_true)]
  show wpAny _ _ (field (.ref it) 1 >>= _) _ _ s
  refine wpAny_bind (wpAny_field ho hd (x := .int i 0) rfl ?_)
  show wpAny _ _ (seqItems? (.ref l) >>= _) _ _ s
  refine wpAny_bind (wpAny_seqItems hol hdl ?_)
  simp only [Int.toNat_natCast, hx]
  refine wpAny_bind (wpAny_setField ho hd (by simp) (wpAny_pure ⟨x, rfl, hQ _ ?_ (Heap.SameBut.update ..)⟩))
  exact ⟨_, Heap.get?_update_self _ ho (Obj.isFreed_of_fields (Obj.data_mapFields hd _)), (Obj.cls_mapFields ..).trans hc, by
    rw [Obj.data_mapFields hd]; simp [rawInt]⟩
theorem lsp_end {it l : Addr} {i : Nat} {items} {Q : Option Value → Shared → Prop} (hh : A.handled = none)
    (hit : s.heap.IsListIter it l i) (hl : s.heap.IsList l items) (hx : items[i]? = none)
    (hE : ∀ h' e, Heap.ExtBut it s.heap h' → (∃ o, h'.get? e = some o ∧ o.cls = .type "StopIteration") → E (.ref e) { s with heap := h' }) :
    wpAny (model prog w) A (callSpecial? (.ref it) (Str.ofString "__next__")) Q E s := by
  obtain ⟨o, ho, hc, hd⟩ := id hit
  obtain ⟨ol, hol, _, nl, hdl⟩ := hl
  refine wpAny_callSpecial?_slot (name := Str.ofString "__next__") hit.typeIs slot_listiter_next
    (wpAny_call_entry slot_listiter_next hit.typeIs entry_listiter_next ?_ (args_listiter_next _))
  show wpAny _ _ (field (.ref it) 0 >>= _) _ _ s
  refine wpAny_bind (wpAny_field ho hd (x := .ref l) rfl ?_)
  show wpAny _ _ (if (Value.ref l == Value.none) = true then _ else _) _ _ s
  rw [if_neg (show ¬ ((Value.ref l == Value.none) = true) from Bool.false_ne_true)]
  show wpAny _ _ (field (.ref it) 1 >>= _) _ _ s
  refine wpAny_bind (wpAny_field ho hd (x := .int i 0) rfl ?_)
  show wpAny _ _ (seqItems? (.ref l) >>= _) _ _ s
  refine wpAny_bind (wpAny_seqItems hol hdl ?_)
  simp only [Int.toNat_natCast, hx]
  refine wpAny_bind (wpAny_rule (wpAny_bind (wpAny_setField ho hd (by simp) ?_)))
  show wpAny _ _ (newExc (.type "StopIteration") [] >>= _) _ _ _
  refine wpAny_bind ?_
  simp only [newExc, newTuple]
  refine wpAny_bind (wpAny_newObj_type ?_ (by size_fits))
  refine wpAny_bind (m := firstArgMember _ _) (wpAny_of_eq (a := Value.none) (by first | rfl | (simp only [firstArgMember]; rfl)) ?_)
  refine wpAny_newObj_type ?_ (by size_fits)
  simp only [raiseNew]
  refine wpAny_bind (wpAny_handled ?_)
  first | rw [show A.in1.handled = none from hh] | rw [hh]
  refine wpAny_bind (wpAny_pure (wpAny_throw ?_))
  exact hE _ _ (((Heap.SameBut.update ..).extBut.push _).push _) ⟨_, Heap.get?_push_size _ rfl, rfl⟩
end
section
variable {G : St} {c : Act} {n : Nat} {m : Loc} {N : Cells} {pos : Pos}

-- statements
theorem t_assign2 {x y : Str} {p q : Pos} {v : Expr} {Q : Flow → Loc → Cells → Prop}
    (h : TW G c (eval v c.env) m N fun a m₁ N₁ => TW G c (storeName c.env x a) m₁ N₁ fun _ m₂ N₂ => TW G c (storeName c.env y a) m₂ N₂ fun _ m₃ N₃ => Q .next m₃ N₃)
    (he : (assignEach [.Name x p, .Name y q] c.env).map (·.2) = [assign (.Name x p) c.env, assign (.Name y q) c.env]) (hw : swappedStores [.Name x p, .Name y q] v c.env = pure none) :
    TW G c (exec (.Assign [.Name x p, .Name y q] v pos) c.env) m N Q :=
  ⟨fun s₀ s E P => by
    with_reducible refine wpAny_Assign_two (wpAny_mono (h.out s₀ s E P) ?_ fun _ _ e => e) he hw
    rintro a s₁ ⟨m₁, N₁, p₁, q₁⟩
    refine wpAny_mono ((t_assignN q₁).out s₀ s₁ E p₁) ?_ fun _ _ e => e
    rintro _ s₂ ⟨m₂, N₂, p₂, q₂⟩
    exact (t_assignN q₂).outf (f := fun _ => Flow.next) p₂⟩
theorem u_pair {T : Addr} {u w : Value} {ep : Nat} {Q : List Value → Loc → Cells → Prop} (o : Ok G n c) (hm : (T, tupOf [u, w].toArray ep) ∈ N) (h : Q [u, w] m N) : TW G c (unpackItems (.ref T) 2 none) m N Q :=
  .raw fun s E Q' F N' q => by
    have ht := isTup_of (N'.get hm)
    have key := fun h' (hx : Heap.ExtBut s.heap.objs.size s.heap h') =>
      have hlt : ∀ b o, s.heap.get? b = some o → h'.get? b = some o := fun b o e => hx b o (Nat.ne_of_lt (Heap.lt_size e)) e
      q [u, w] h' s.toks m N (F.keeps hlt) (N'.grown hlt) h
    have fin := unpackItems_tuple (prog := G.prog) (w := G.w) (A := c.A) (E := E) (Q := Q') (items := [u, w].toArray) o.handled ht key
    have e2 : ([u, w].toArray).size = 2 := rfl
    rw [e2] at fin
    with_reducible exact fin
/-- a, b = (b, a) and the like: the items of a pair are stored, the last one first -/
theorem t_swap {elts : List Expr} {k : Nat} {tp : Pos} {v : Expr} {x y : Str} {Q : Flow → Loc → Cells → Prop} (o : Ok G n c)
    (h : TW G c (eval v c.env) m N fun a m₁ N₁ => ∃ T u w ep, a = .ref T ∧ (T, tupOf [u, w].toArray ep) ∈ N₁ ∧ TW G c (storeName c.env y w) m₁ N₁ fun _ m₂ N₂ => TW G c (storeName c.env x u) m₂ N₂ fun _ m₃ N₃ => Q .next m₃ N₃)
    (hs : swapsWithSole [.Tuple elts k tp] v pos.line c.env = pure false) (hw : swappedStores [.Tuple elts k tp] v c.env = pure (some [x, y])) :
    TW G c (exec (.Assign [.Tuple elts k tp] v pos) c.env) m N Q := by
  have X : TW G c (eval v c.env) m N fun a m₁ N₁ => TW G c (unpackItems a 2 none) m₁ N₁ fun items m₂ N₂ => TW G c (assignInOrder [fun v => bindName c.env y v, fun v => bindName c.env x v] items.reverse) m₂ N₂ fun _ m₃ N₃ => Q .next m₃ N₃ :=
    h.mono fun a m₁ N₁ ⟨T, u, w, ep, e, hm, q₁⟩ => by
      subst e
      have Y : TW G c (assignInOrder [fun v => bindName c.env y v, fun v => bindName c.env x v] [w, u]) m₁ N₁ (fun _ m N => Q .next m N) :=
        t_inorder (t_bind (q₁.mono fun _ _ _ q₂ => t_inorder (t_bind (q₂.mono fun _ _ _ q₃ => t_inorder_nil q₃))))
      exact u_pair o hm Y
  refine ⟨fun s₀ s E P => ?_⟩
  with_reducible refine Assign_Tuple_swapped (names := [x, y]) (wpAny_mono (X.out s₀ s E P) ?_ fun _ _ e => e) hs hw
  rintro a s₁ ⟨m₁, N₁, p₁, q₁⟩
  show wpAny _ _ (unpackItems a 2 none) _ _ _
  with_reducible refine wpAny_mono (q₁.out s₀ s₁ E p₁) ?_ fun _ _ e => e
  rintro items s₂ ⟨m₂, N₂, p₂, q₂⟩
  show wpAny _ _ (assignInOrder [fun v => bindName c.env y v, fun v => bindName c.env x v] items.reverse) _ _ _
  exact q₂.outf (f := fun _ => Flow.next) p₂
theorem t_augS {ob i v : Expr} {tp : Pos} {op : Operator} {Q : Flow → Loc → Cells → Prop}
    (h : TW G c (eval ob c.env) m N fun a m₁ N₁ => TW G c (eval i c.env) m₁ N₁ fun b m₂ N₂ => TW G c (getItem a b) m₂ N₂ fun old m₃ N₃ => TW G c (eval v c.env) m₃ N₃ fun x m₄ N₄ => TW G c (inplaceOp op old x) m₄ N₄ fun new m₅ N₅ =>
      TW G c (setItem a b new) m₅ N₅ fun _ m₆ N₆ => Q .next m₆ N₆)
    (hi : ∀ ov iv new, augStore i ov iv new = (do holding [new, ov, iv] (setItem ov iv new); release [new, ov, iv] []; pure .next)) : TW G c (exec (.AugAssign (.Subscript ob i tp) op v pos) c.env) m N Q :=
  ⟨fun s₀ s E P => by
    with_reducible refine wpAny_AugAssign_SubscriptAny (wpAny_mono (h.out s₀ s E P) ?_ fun _ _ e => e) hi
    rintro a s₁ ⟨m₁, N₁, p₁, q₁⟩
    refine wpAny_mono (q₁.out s₀ s₁ E p₁) ?_ fun _ _ e => e
    rintro b s₂ ⟨m₂, N₂, p₂, q₂⟩
    refine wpAny_mono (q₂.out s₀ s₂ E p₂) ?_ fun _ _ e => e
    rintro old s₃ ⟨m₃, N₃, p₃, q₃⟩
    refine wpAny_mono (q₃.out s₀ s₃ E p₃) ?_ fun _ _ e => e
    rintro x s₄ ⟨m₄, N₄, p₄, q₄⟩
    refine wpAny_mono (q₄.out s₀ s₄ E p₄) ?_ fun _ _ e => e
    rintro new s₅ ⟨m₅, N₅, p₅, q₅⟩
    exact q₅.outf (f := fun _ => Flow.next) p₅⟩
-- calls
theorem a_listrange {R : Addr} {a b d : Int} {t u v : Tok} {k : Nat} {Q : Value → Loc → Cells → Prop} (o : Ok G n c) (hm : (R, rngOf a b d t u v) ∈ N) (hs : Builtin.Range.small a b d = true) (hk : Builtin.Range.rangeSize a b d = k) (hz : k ≤ 16777216)
    (h : ∀ D ys ep, Fresh D N → IntsAre ys ((List.range k).map fun (i : Nat) => a + i * d) → Q (.ref D) m ((D, listOf ys.toArray ep) :: N)) : TW G c (call (.type "list") [.ref R]) m N Q :=
  .raw fun s E Q' F N' q => by
    have hf := news_fresh N'
    refine call_list_range o.handled (N'.get hm) hs hk hz fun h' tk acc c' hkp hS hacc => ?_
    have N1 : News c.h₀ c.env.locals h' N := N'.grown hkp
    refine q _ h' tk _ _ (F.keeps hkp) ?_ (h s.heap.objs.size acc.toList c' hf ?_)
    · obtain ⟨oL, _, _, hL, _⟩ := F.ns
      intro p hp
      rcases List.mem_cons.mp hp with rfl | hp
      · refine ⟨by simpa using hS, Nat.ne_of_gt (Heap.lt_size hL), ?_⟩
        cases hq : c.h₀.get? s.heap.objs.size with
        | none => rfl
        | some o' => exact absurd (Heap.lt_size (F.keep _ _ hq)) (Nat.lt_irrefl _)
      · exact N1 p hp
    · have key : ∀ (l : List Value) (f : Nat → Int) (k : Nat), l.length = k → (∀ i v, l[i]? = some v → ∃ t, v = Value.int (f i) t) → IntsAre l ((List.range k).map f) := by
        intro l
        induction l with
        | nil => intro f k hl _; simp at hl; subst hl; exact .nil
        | cons v r ih =>
          intro f k hl hv
          cases k with
          | zero => simp at hl
          | succ k =>
            obtain ⟨t, rfl⟩ := hv 0 v rfl
            rw [List.range_succ_eq_map, List.map_cons, List.map_map]
            exact .cons _ t (ih (fun i => f (i + 1)) k (by simpa using hl) fun i v hi => hv (i + 1) v (by simpa using hi))
      exact key _ _ _ (by simpa using hacc.1) fun i v hi => hacc.2 i v (by simpa using hi)
theorem a_ladd {A B : Addr} {xs ys : List Value} {ea eb : Nat} {Q : Value → Loc → Cells → Prop} (ha : (A, listOf xs.toArray ea) ∈ N) (hb : (B, listOf ys.toArray eb) ∈ N) (hz : xs.length + ys.length ≤ 16777216)
    (h : ∀ D, Fresh D N → Q (.ref D) m ((D, listOf (xs ++ ys).toArray 0) :: N)) : TW G c (binaryOp .Add (.ref A) (.ref B)) m N Q :=
  .raw fun s E Q' F N' q => by
    have hf := news_fresh N'
    refine add_arrays F N' (isList_of (N'.get ha)) (isList_of (N'.get hb)) (fun h' F1 N1 => ?_) (by simp only [List.size_toArray]; exact le_line hz)
    have := q (.ref s.heap.objs.size) h' s.toks m ((s.heap.objs.size, listOf (xs ++ ys).toArray 0) :: N) F1 N1 (h _ hf)
    exact this
theorem mul_S (x : List Nat) (k : Nat) : Txt.mul (S x) (k : Int) = S (List.replicate k x).flatten := by
  unfold Txt.mul
  have key : ∀ (k : Nat) (a : Array Nat), (List.replicate k x.toArray).foldl (· ++ ·) a = a ++ (List.replicate k x).flatten.toArray := by
    intro k
    induction k with
    | zero => intro a; simp
    | succ k ih => intro a; simp [List.replicate_succ, ih]
  by_cases h1 : (k : Int) < 1
  · have : k = 0 := by (first | (revert h1; walk_at "Z") | omega)
    subst this; rfl
  · rw [if_neg h1]
    by_cases h2 : (((k : Int) == 1) || (S x).length == 0) = true
    · rw [if_pos h2]
      simp [S_len] at h2
      rcases h2 with h2 | h2
      · have : k = 1 := by (first | (revert h2; walk_at "Z") | omega)
        subst this; simp
      · subst h2; simp [S]
    · rw [if_neg h2, S_cps, Int.toNat_natCast, key]; simp [S]
theorem a_smul {x : List Nat} {k : Nat} {t u : Tok} {Q : Value → Loc → Cells → Prop} (hx : x.length ≤ 16) (hk : k ≤ 1048576) (h : ∀ t, Q (.str (S (List.replicate k x).flatten) t) m N) : TW G c (binaryOp .Mult (.str (S x) t) (.int k u)) m N Q :=
  .raw0 fun s E Q' F N' q => by
    have hok : MulOk (S x) (k : Int) := mulOk_of 16 1048576 (by rw [S_len]; exact hx) (by (first | (revert hk; walk_at "Z") | omega)) (by (first | walk_at "Z" | omega)) (by decide) (by decide)
    refine SB.mul hok fun t' tk => ?_
    rw [mul_S]
    exact q _ _ (h _)
theorem a_type {v : Value} {T : String} {Q : Value → Loc → Cells → Prop} (hT : ∀ s : Shared, News c.h₀ c.env.locals s.heap N → s.TypeIs v T) (hb : (Value.type T == Value.type "builtin_function_or_method") = false) (h : Q (.type T) m N) : TW G c (call (.type "type") [v]) m N Q :=
  .raw0 fun s E Q' F N' q => by with_reducible exact call_type_of (hT s N') hb (q _ s.toks h)
theorem o_istype {X Y : String} {Q : Value → Loc → Cells → Prop} (h : Q (.bool (Value.type X == Value.type Y)) m N) : TW G c (compareOp .Is (.type X) (.type Y)) m N Q :=
  .raw0 fun s E Q' F N' q => by with_reducible exact wpAny_is_plain rfl (q _ s.toks h)
theorem o_isnottype {X Y : String} {Q : Value → Loc → Cells → Prop} (h : Q (.bool (!(Value.type X == Value.type Y))) m N) : TW G c (compareOp .IsNot (.type X) (.type Y)) m N Q :=
  .raw0 fun s E Q' F N' q => by with_reducible exact wpAny_isNot_plain rfl (q _ s.toks h)
theorem a_iter {l : Addr} {vs : List Value} {ep : Nat} {Q : Value → Loc → Cells → Prop} (hm : (l, listOf vs.toArray ep) ∈ N) (h : ∀ I ob, Fresh I N → isLI l 0 ob → Q (.ref I) m ((I, ob) :: N)) : TW G c (call (.builtin "iter") [.ref l]) m N Q :=
  .raw fun s E Q' F N' q => by
    have hf := news_fresh N'
    refine call_function_entry (by decide +kernel) (by decide +kernel) kdk_entry_iter (kdk_args_iter _) ?_
    unfold Builtin.«iter»
    refine wpAny_bind (m := someArgs "iter" 1 2 _) (wpAny_of_eq (a := [Value.ref l]) (by first | rfl | kernel_rfl!) ?_)
    show wpAny _ _ (pyIter (.ref l) >>= _) _ _ _
    refine wpAny_bind (wpAny_pyIter_list (isList_of (N'.get hm)) ?_)
    exact wpAny_pure ⟨_, rfl, q _ _ s.toks _ _ (F.push _) (N'.push F _) (h _ _ hf ⟨rfl, rfl⟩)⟩
theorem a_next {I l : Addr} {ob : Obj} {vs : List Value} {ep i : Nat} {x : Value} {Q : Value → Loc → Cells → Prop} (hm : (I, ob) ∈ N) (hi : isLI l i ob) (hl : (l, listOf vs.toArray ep) ∈ N) (hx : vs[i]? = some x)
    (h : ∀ ob', isLI l (i + 1) ob' → Q x m (put I ob' N)) : TW G c (call (.builtin "next") [.ref I]) m N Q :=
  .raw fun s E Q' F N' q => by
    have hit : s.heap.IsListIter I l i := ⟨ob, N'.get hm, hi.1, hi.2⟩
    have hL := isList_of (N'.get hl)
    refine call_function_entry (by decide +kernel) (by decide +kernel) kdk_entry_next (kdk_args_next _) ?_
    unfold Builtin.«next»
    refine wpAny_bind (m := someArgs "next" 1 2 _) (wpAny_of_eq (a := [Value.ref I]) (by first | rfl | kernel_rfl!) ?_)
    dsimp only
    refine wpAny_bind (wpAny_specialOf (name := Str.ofString "__next__") hit.typeIs slot_listiter_next.lookup ?_)
    refine wpAny_ite_split (fun hab => absurd hab (by decide)) (fun _ => ?_)
    refine wpAny_bind (lsp_item hit hL (by simpa using hx) fun h' hit' hs => ?_)
    obtain ⟨ob', ho', hc', hd'⟩ := hit'
    obtain ⟨F1, N1⟩ := news_put F N' hm hs ho'
    exact wpAny_pure ⟨_, rfl, q _ h' s.toks _ _ F1 N1 (h ob' ⟨hc', hd'⟩)⟩
end

-- b11
section
variable {G : St} {c : Act} {n : Nat} {m : Loc} {N : Cells} {pos : Pos}

theorem LoopW.drop {code : Code} {Q : Flow → Loc → Cells → Prop} (h : LoopW G c code m N fun f m' N' => ∃ N'', (∀ p ∈ N'', p ∈ N') ∧ Q f m' N'') : LoopW G c code m N Q :=
  ⟨fun s₀ s P => codeAny_mono (h.out s₀ s P) fun r s' ⟨f, m', _, e, p', N'', hs, q⟩ => ⟨f, m', N'', e, p'.sub hs, q⟩⟩

/-- a turn's end where the cells may be dropped -/
def TurnD (I : Addr) (o : Obj) (Inv : Loc → Cells → Prop) (Q : Flow → Loc → Cells → Prop) : Flow → Loc → Cells → Prop := fun f m N => match f with
  | .next | .cont => ∃ N', (∀ p ∈ (I, o) :: N', p ∈ N) ∧ Inv m N'
  | .brk => ∃ N', (∀ p ∈ N', p ∈ N) ∧ Q .next m N'
  | .ret v => ∃ N', (∀ p ∈ N', p ∈ N) ∧ Q (.ret v) m N'
/-- a turn's end where the cells are N again -/
def TurnP (I : Addr) (o : Obj) (N : Cells) (Inv : Loc → Prop) (Q : Flow → Loc → Cells → Prop) : Flow → Loc → Cells → Prop := fun f m N' => match f with
  | .next | .cont => (∀ p ∈ (I, o) :: N, p ∈ N') ∧ Inv m
  | .brk => (∀ p ∈ N, p ∈ N') ∧ Q .next m N
  | .ret v => (∀ p ∈ N, p ∈ N') ∧ Q (.ret v) m N

theorem for_it {target : Expr} {body : List Stmt} {x : Value} {D : Cells} {k : Nat} {P : Nat → Value → Prop} {Q : Flow → Loc → Cells → Prop} (o : Ok G n c) (W : IterW G n c x m N target D k P)
    (Inv : Addr → Nat → Loc → Cells → Prop) (h0 : ∀ I, Fresh I N → Inv I 0 m N) (hD : ∀ I i m N, Inv I i m N → (∀ d ∈ D, d ∈ N) ∧ Fresh I N)
    (hb : ∀ I o' i m N v, i < k → Inv I i m N → P i v → ∀ Pb, Gen (TurnD I o' (Inv I (i + 1)) Q) Pb → TW G c (assign target c.env v) m ((I, o') :: N) fun _ m₁ N₁ => TW G c (execs body c.env) m₁ N₁ Pb)
    (hQ : ∀ I m N, Inv I k m N → Q .next m N) : ForW G c target body x m N Q := ⟨fun s₀ s E P₀ => by
  refine W.out s₀ s E _ P₀ fun I ob st s' p' hI hst hW _ => ?_
  have key : LoopW G c (.forLoop target (.ref I) body [] c.env) m ((I, ob) :: N) Q := by
    refine LoopW.drop ?_
    refine loop_for (hW c o) (Inv I) hst (h0 I hI) (fun i m N h => (hD I i m N h).1) (fun i m N h => (hD I i m N h).2) (fun i m N v o' hi h hP _ => ?_) (fun m N h => ⟨N, fun _ h => h, hQ I m N h⟩)
    refine (hb I o' i m N v hi h hP _ ⟨fun _ _ _ q => q⟩).mono fun _ m₁ N₁ h₁ => h₁.mono fun f m₂ N₂ h₂ => ?_
    cases f <;> exact h₂
  exact key.out s₀ s' p'⟩
/-- loops that leave the cells as they are -/
theorem for_itP {target : Expr} {body : List Stmt} {x : Value} {D : Cells} {k : Nat} {P : Nat → Value → Prop} {Q : Flow → Loc → Cells → Prop} (o : Ok G n c) (W : IterW G n c x m N target D k P) (hD : ∀ d ∈ D, d ∈ N)
    (Inv : Nat → Loc → Prop) (h0 : Inv 0 m)
    (hb : ∀ I o' i m v, i < k → Fresh I N → Inv i m → P i v → ∀ Pb, Gen (TurnP I o' N (Inv (i + 1)) Q) Pb → TW G c (assign target c.env v) m ((I, o') :: N) fun _ m₁ N₁ => TW G c (execs body c.env) m₁ N₁ Pb)
    (hQ : ∀ m, Inv k m → Q .next m N) : ForW G c target body x m N Q := by
  refine for_it o W (fun I i m' N' => N' = N ∧ Fresh I N ∧ Inv i m') (fun I hI => ⟨rfl, hI, h0⟩) (fun I i m' N' ⟨e, hI, _⟩ => by subst e; exact ⟨hD, hI⟩) (fun I o' i m' N' v hi ⟨e, hI, h⟩ hP Pb hPb => ?_) (fun I m' N' ⟨e, hI, h⟩ => by subst e; exact hQ m' h)
  subst e
  refine (hb I o' i m' v hi hI h hP _ ⟨fun _ _ _ q => q⟩).mono fun _ m₁ N₁ h₁ => h₁.mono fun f m₂ N₂ h₂ => hPb.h _ _ _ ?_
  cases f with
  | next => exact ⟨N', h₂.1, rfl, hI, h₂.2⟩
  | cont => exact ⟨N', h₂.1, rfl, hI, h₂.2⟩
  | brk => exact ⟨N', h₂.1, h₂.2⟩
  | ret v => exact ⟨N', h₂.1, h₂.2⟩

theorem small_of {a b d : Int} {k : Nat} (hk : Builtin.Range.rangeSize a b d = k) (hk1 : k ≤ 1000000000) (ha : -1000000000 ≤ a) (ha' : a ≤ 1000000000) (hb : -1000000000 ≤ b) (hb' : b ≤ 1000000000) (hd : -1000000000 ≤ d) (hd' : d ≤ 1000000000) : Builtin.Range.small a b d = true := by
  unfold Builtin.Range.small
  rw [hk]
  simp only [Builtin.Range.rangeFitsLong, Bool.and_eq_true, Bool.or_eq_true, decide_eq_true_eq, beq_iff_eq]
  refine ⟨⟨⟨⟨?_, ?_⟩, ?_⟩, ?_⟩, .inr ?_⟩
  any_goals omega
  split <;> simp <;> omega
theorem small_up {k : Nat} (h : k ≤ 1000000000) : Builtin.Range.small 0 (k : Int) 1 = true := by
  have hk : Builtin.Range.rangeSize 0 (k : Int) 1 = k := by
    unfold Builtin.Range.rangeSize
    rw [if_pos (by decide), Int.ediv_one]
    split <;> (first | walk_at "Z" | omega)
  exact small_of hk h (by decide) (by decide) (by (first | walk_at "Z" | omega)) (by (first | (revert h; walk_at "Z") | omega)) (by decide) (by decide)
theorem small_dn {k : Nat} (h : k ≤ 1000000000) : Builtin.Range.small ((k : Int) - 1) (-1) (-1) = true := by
  have hk : Builtin.Range.rangeSize ((k : Int) - 1) (-1) (-1) = k := by
    unfold Builtin.Range.rangeSize
    rw [if_neg (by decide)]
    have e : (-(-1) : Int) = 1 := rfl
    rw [e, Int.ediv_one]
    split <;> (first | walk_at "Z" | omega)
  exact small_of hk h (by (first | walk_at "Z" | omega)) (by (first | (revert h; walk_at "Z") | omega)) (by decide) (by decide) (by decide) (by decide)
theorem size_down (k : Nat) : Builtin.Range.rangeSize ((k : Int) - 1) (-1) (-1) = k := by
  unfold Builtin.Range.rangeSize
  rw [if_neg (by decide)]
  have e : (-(-1) : Int) = 1 := rfl
  rw [e, Int.ediv_one]
  split <;> (first | walk_at "Z" | omega)
theorem size_up (k : Nat) : Builtin.Range.rangeSize 0 (k : Int) 1 = k := by
  unfold Builtin.Range.rangeSize
  rw [if_pos (by decide), Int.ediv_one]
  split <;> (first | walk_at "Z" | omega)

end

-- b12
/-- some of the locals -/
def Has (m : Loc) (l : List (Str × Value)) : Prop := ∀ p ∈ l, m p.1 = some p.2
def put1 (x : Str) (v : Value) (l : List (Str × Value)) : List (Str × Value) := (x, v) :: l.filter fun p => !(p.1 == x)
theorem Has.nil {m : Loc} : Has m [] := by intro p hp; cases hp
theorem mem_of_lookup {x : Str} {v : Value} : ∀ {l : List (Str × Value)}, l.lookup x = some v → (x, v) ∈ l
  | [], h => by cases h
  | (y, u) :: r, h => by
    rw [List.lookup_cons] at h
    cases e : x == y with
    | true => rw [e] at h; simp only [Option.some.injEq] at h; subst h; rw [eq_of_beq e]; exact .head _
    | false => rw [e] at h; exact .tail _ (mem_of_lookup h)
theorem Has.get {m : Loc} {l : List (Str × Value)} (h : Has m l) {x : Str} {v : Value} (e : l.lookup x = some v) : m x = some v := h _ (mem_of_lookup e)
theorem Has.cons {m : Loc} {l r : List (Str × Value)} {x : Str} {v : Value} (h : Has m l) (e : l.lookup x = some v) (hr : Has m r) : Has m ((x, v) :: r) := by
  intro p hp
  rcases List.mem_cons.mp hp with rfl | hp
  · exact h.get e
  · exact hr p hp
theorem Has.set {m : Loc} {l : List (Str × Value)} (h : Has m l) (x : Str) (v : Value) : Has (fun y => if y = x then some v else m y) (put1 x v l) := by
  intro p hp
  rcases List.mem_cons.mp hp with rfl | hp
  · simp
  · obtain ⟨hp, hx⟩ := List.mem_filter.mp hp
    have : p.1 ≠ x := by simpa using hx
    simp only [if_neg this]; exact h p hp
def ndup : List (Str × Value) → Bool
  | [] => true
  | (x, _) :: r => (r.lookup x).isNone && ndup r
theorem lookup_of_mem : ∀ {l : List (Str × Value)} {x : Str} {v : Value}, (x, v) ∈ l → (l.lookup x).isSome = true
  | (y, u) :: r, x, v, h => by
    rw [List.lookup_cons]
    cases e : x == y with
    | true => rfl
    | false =>
      rcases List.mem_cons.mp h with h | h
      · cases h; simp at e
      · exact lookup_of_mem h
theorem ndup_nodup : ∀ {l : List (Str × Value)}, ndup l = true → (l.map (·.1)).Nodup
  | [], _ => List.nodup_nil
  | (x, v) :: r, h => by
    simp only [ndup, Bool.and_eq_true] at h
    refine List.nodup_cons.mpr ⟨fun hm => ?_, ndup_nodup h.2⟩
    obtain ⟨p, hp, e⟩ := List.mem_map.mp hm
    have := lookup_of_mem (l := r) (x := p.1) (v := p.2) hp
    rw [e] at this
    have h1 := h.1
    rw [Option.isNone_iff_eq_none] at h1
    rw [h1] at this; cases this
theorem Has.binds : ∀ {l : List (Str × Value)}, (l.map (·.1)).Nodup → Has (fun y => l.reverse.lookup y) l := by
  intro l hnd p hp
  have hmem : (p.1, p.2) ∈ l.reverse := List.mem_reverse.mpr hp
  have hnd' : (l.reverse.map (·.1)).Nodup := by rw [List.map_reverse]; exact List.pairwise_reverse.mpr (List.Pairwise.imp (fun h => Ne.symm h) hnd)
  have key : ∀ (r : List (Str × Value)), (r.map (·.1)).Nodup → ∀ x v, (x, v) ∈ r → r.lookup x = some v := by
    intro r
    induction r with
    | nil => intro _ x v h; cases h
    | cons q r ih =>
      intro hn x v h
      obtain ⟨y, u⟩ := q
      simp only [List.map_cons, List.nodup_cons] at hn
      rw [List.lookup_cons]
      rcases List.mem_cons.mp h with h | h
      · cases h; simp
      · have : x ≠ y := fun e => hn.1 (e ▸ List.mem_map_of_mem (f := (·.1)) h)
        have e : (x == y) = false := by simpa using this
        rw [e]; exact ih hn.2 x v h
  exact key _ hnd' _ _ hmem
section
variable {G : St} {c : Act} {n : Nat} {m : Loc} {N : Cells} {pos : Pos}

theorem t_localH {l : List (Str × Value)} {x : Str} {v : Value} {sc : Scope} {Q : Value → Loc → Cells → Prop} (hL : Has m l) (o : Ok G n c) (hs : c.env.scope = sc) (hv : l.lookup x = some v) (hl : sc.names.lookup x = some .local)
    (h : Q v m N) (hd : (x == ("__debug__" : Str)) = false) : TW G c (eval (.Name x pos) c.env) m N Q := t_local o (hL.get hv) (kind_of hs hl) h hd
theorem t_localnH {l : List (Str × Value)} {x : Str} {v : Value} {sc : Scope} {Q : Value → Loc → Cells → Prop} (hL : Has m l) (o : Ok G n c) (hs : c.env.scope = sc) (hv : l.lookup x = some v) (hl : sc.names.lookup x = some .local)
    (h : Q v m N) : TW G c (loadName c.env x) m N Q := t_localn o (hL.get hv) (kind_of hs hl) h
theorem t_storeH {l : List (Str × Value)} {x : Str} {v : Value} {sc : Scope} {Q : Unit → Loc → Cells → Prop} (hL : Has m l) (o : Ok G n c) (hs : c.env.scope = sc) (hl : sc.names.lookup x = some .local)
    (h : ∀ m', Has m' (put1 x v l) → Q () m' N) : TW G c (storeName c.env x v) m N Q := t_store o (kind_of hs hl) (h _ (hL.set x v))
theorem t_store0 {x : Str} {v : Value} {sc : Scope} {Q : Unit → Loc → Cells → Prop} (o : Ok G n c) (hs : c.env.scope = sc) (hl : sc.names.lookup x = some .local)
    (h : ∀ m', Has m' [(x, v)] → Q () m' N) : TW G c (storeName c.env x v) m N Q := t_store o (kind_of hs hl) (h _ (by simpa [put1] using (Has.nil (m := m)).set x v))
theorem t_callH {name qual : Str} {params : Arguments} {body : List Stmt} {scope : Scope} {dV kV doc pm cdv ct oc : Value} {an od : Option Addr} {osl : Array (Option Value)} {f : Addr} {args : List Value} {kw : List (Str × Value)} (binds : List (Str × Value)) {Q : Value → Loc → Cells → Prop}
    (o : Ok G (n + 1) c)
    (ho : G.K.lookup f = some ⟨oc, od, .func (fnOf name qual params body scope dV kV doc pm an cdv ct), osl⟩) (hcd : codeIn G.K cdv qual = true)
    (hbind : ∀ s : Shared, G.K.In s.heap → BindsTo s (fnOf name qual params body scope dV kV doc pm an cdv ct) ⟨args, kw⟩ binds)
    (hloc : ∀ y ∈ binds, scope.names.lookup y.1 = some .local) (hcell : ∀ x ∈ scope.names, x.2 ≠ .cell)
    (hco : scope.isCoroutine = false) (hgen : scope.isGenerator = false) (hk : scope.kind = .function) (hnd : ndup binds = true)
    (h : ∀ (c' : Act) (m' : Loc), c'.env.scope = scope → Ok G n c' → Has m' binds → TW G c' (execs body c'.env) m' N (fun fl _ N' => ∃ N'', (∀ p ∈ N'', p ∈ N') ∧ Q (retOf fl) m N'')) :
    TW G c (call (.ref f) args kw) m N Q := TW.drop (t_call o ho hcd hbind hloc hcell hco hgen hk fun c' hs o' => h c' _ hs o' (Has.binds (ndup_nodup hnd)))

/-- a def with one cell variable -/
theorem t_callC1 {name qual : Str} {params : Arguments} {body : List Stmt} {scope : Scope} {dV kV doc pm cdv ct oc : Value} {an od : Option Addr} {osl : Array (Option Value)} {f : Addr} {args : List Value} {kw : List (Str × Value)} (binds : List (Str × Value)) (x : Str) (lb : List (Str × Value)) {Q : Value → Loc → Cells → Prop}
    (o : Ok G (n + 1) c)
    (ho : G.K.lookup f = some ⟨oc, od, .func (fnOf name qual params body scope dV kV doc pm an cdv ct), osl⟩) (hcd : codeIn G.K cdv qual = true)
    (hbind : ∀ s : Shared, G.K.In s.heap → BindsTo s (fnOf name qual params body scope dV kV doc pm an cdv ct) ⟨args, kw⟩ binds)
    (hkind : (binds.all fun y => scope.names.lookup y.1 == some .local || scope.names.lookup y.1 == some .cell) = true)
    (hcs : ∀ L, cellsFrom L scope.names [] = [(x, L)])
    (hlb : Has (bindL (fun x => scope.names.lookup x) binds fun _ => none) lb)
    (hco : scope.isCoroutine = false) (hgen : scope.isGenerator = false) (hk : scope.kind = .function)
    (h : ∀ (c' : Act) (m' : Loc) (a : Addr) (ob : Obj), c'.env.scope = scope → Ok G n c' → Has m' lb → c'.env.cells = [(x, a)] → Fresh a N → ob.data = .cell (bindC (fun x => scope.names.lookup x) binds (fun _ => none) x) →
      TW G c' (execs body c'.env) m' ((a, ob) :: N) (fun fl _ N' => ∃ N'', (∀ p ∈ N'', p ∈ N') ∧ Q (retOf fl) m N'')) :
    TW G c (call (.ref f) args kw) m N Q := TW.drop (t_callC o ho hcd hbind hkind (by rw [hcs]; simp) hco hgen hk fun c' cs hs hc o' X hap => by
  rw [hc, hcs] at X
  obtain ⟨ob, rfl, hob⟩ := X.one
  exact h c' _ _ ob hs o' hlb (by rw [hc, hcs]) (fun p hp e => hap _ (.head _) p hp e.symm) hob)
theorem t_callC2 {name qual : Str} {params : Arguments} {body : List Stmt} {scope : Scope} {dV kV doc pm cdv ct oc : Value} {an od : Option Addr} {osl : Array (Option Value)} {f : Addr} {args : List Value} {kw : List (Str × Value)} (binds : List (Str × Value)) (x y : Str) (lb : List (Str × Value)) {Q : Value → Loc → Cells → Prop}
    (o : Ok G (n + 1) c)
    (ho : G.K.lookup f = some ⟨oc, od, .func (fnOf name qual params body scope dV kV doc pm an cdv ct), osl⟩) (hcd : codeIn G.K cdv qual = true)
    (hbind : ∀ s : Shared, G.K.In s.heap → BindsTo s (fnOf name qual params body scope dV kV doc pm an cdv ct) ⟨args, kw⟩ binds)
    (hkind : (binds.all fun y => scope.names.lookup y.1 == some .local || scope.names.lookup y.1 == some .cell) = true)
    (hcs : ∀ L, cellsFrom L scope.names [] = [(y, L + 1), (x, L)]) (hxy : y ≠ x)
    (hlb : Has (bindL (fun x => scope.names.lookup x) binds fun _ => none) lb)
    (hco : scope.isCoroutine = false) (hgen : scope.isGenerator = false) (hk : scope.kind = .function)
    (h : ∀ (c' : Act) (m' : Loc) (a b : Addr) (oa ob : Obj), c'.env.scope = scope → Ok G n c' → Has m' lb → c'.env.cells = [(y, b), (x, a)] → Fresh a N → Fresh b N → b ≠ a → oa.data = .cell (bindC (fun x => scope.names.lookup x) binds (fun _ => none) x) →
      ob.data = .cell (bindC (fun x => scope.names.lookup x) binds (fun _ => none) y) →
      TW G c' (execs body c'.env) m' ((b, ob) :: (a, oa) :: N) (fun fl _ N' => ∃ N'', (∀ p ∈ N'', p ∈ N') ∧ Q (retOf fl) m N'')) :
    TW G c (call (.ref f) args kw) m N Q := TW.drop (t_callC o ho hcd hbind hkind (by rw [hcs]; simpa using hxy) hco hgen hk fun c' cs hs hc o' X hap => by
  rw [hc, hcs] at X
  cases X with
  | cons h1 X =>
    cases X with
    | cons h2 X =>
      cases X with
      | nil =>
        exact h c' _ _ _ _ _ hs o' hlb (by rw [hc, hcs]) (fun p hp e => hap _ (.tail _ (.head _)) p hp e.symm) (fun p hp e => hap _ (.head _) p hp e.symm) (Nat.succ_ne_self _) h2 h1)
end

-- b13
/-- the cells of a heap, but for what h₀ holds and for C -/
def restOf (h h₀ : Heap) (C : Addr) : Cells := (List.range h.objs.size).filterMap fun b => match h.get? b with
  | some o => if b ≠ C ∧ (h₀.get? b).isNone = true then some (b, o) else none
  | none => none
theorem restOf_mem {h h₀ : Heap} {C b : Addr} {o : Obj} (e : h.get? b = some o) (hb : b ≠ C) (h0 : h₀.get? b = none) : (b, o) ∈ restOf h h₀ C := by
  unfold restOf
  refine List.mem_filterMap.mpr ⟨b, List.mem_range.mpr (Heap.lt_size e), ?_⟩
  rw [e]; simp [hb, h0]
theorem restOf_news {h h₀ : Heap} {C : Addr} : News h₀ C h (restOf h h₀ C) := by
  intro p hp
  unfold restOf at hp
  obtain ⟨b, _, e⟩ := List.mem_filterMap.mp hp
  cases q : h.get? b with
  | none => rw [q] at e; cases e
  | some o =>
    rw [q] at e
    simp only [] at e
    split at e
    · rename_i hc
      cases e
      exact ⟨q, hc.1, by simpa using hc.2⟩
    · cases e

section
variable {G : St} {A : Around} {env : Env} {hB : Heap} {R : GenEnd} {Y : Protocol} {k : Nat} {s₁ : Shared} {code : Code} {fs : List Frame} {n : Nat}

/-- the act of a generator's stretch -/
abbrev gAct (A : Around) (env : Env) (hB : Heap) (code : Code) (fs : List Frame) : Act := ⟨A.over code fs, env, hB⟩
/-- what a stretch has left as it was, but for the locals -/
structure Kept (hB : Heap) (C : Addr) (s s' : Shared) (m' : Loc) : Prop where
  F : Fr hB C s'.heap m'
  old : ∀ b o, b ≠ C → s.heap.get? b = some o → s'.heap.get? b = some o
  R : Rest s s'

theorem run_tw {α : Type} {t : Sem α} {s : Shared} {m : Loc} {Q : α → Loc → Cells → Prop} {E : Value → Shared → Prop} (F : Fr hB env.locals s.heap m)
    (h : TW G (gAct A env hB code fs) t m (restOf s.heap hB env.locals) fun a m' N' => (∀ p ∈ restOf s.heap hB env.locals, p ∈ N') ∧ Q a m' N') :
    wpAny (model G.prog G.w) (A.over code fs) t (fun a s' => ∃ m' N', Kept hB env.locals s s' m' ∧ News hB env.locals s'.heap N' ∧ Q a m' N') E s := by
  refine wpAny_mono (h.out s s _ ⟨F, restOf_news, Rest.refl s⟩) ?_ fun _ _ e => e
  rintro a s' ⟨m', N', p', hN, q⟩
  refine ⟨m', N', ⟨p'.F, fun b o hb e => ?_, p'.R⟩, p'.N, q⟩
  cases h0 : hB.get? b with
  | some o' =>
    have := F.keep _ _ h0
    rw [e] at this
    cases this
    exact p'.F.keep _ _ h0
  | none => exact (p'.N _ (hN _ (restOf_mem e hb h0))).1
theorem seg_tw {α : Type} {t : Sem α} {K : α → Sem Fin} {H : Value → Sem Fin} {gd lv} {s : Shared} {m : Loc} {Q : α → Loc → Cells → Prop} (F : Fr hB env.locals s.heap m)
    (h : TW G (gAct A env hB code fs) t m (restOf s.heap hB env.locals) fun a m' N' => (∀ p ∈ restOf s.heap hB env.locals, p ∈ N') ∧ Q a m' N')
    (hk : ∀ a m' N' s', Kept hB env.locals s s' m' → News hB env.locals s'.heap N' → Q a m' N' → Seg (model G.prog G.w) A R Y k s₁ code (K a) fs s') : Seg (model G.prog G.w) A R Y k s₁ code (t.wrap K H gd lv) fs s := by
  refine seg_wrap (wpAny_mono (h.out s s _ ⟨F, restOf_news, Rest.refl s⟩) ?_ fun _ _ e => e)
  rintro a s' ⟨m', N', p', hN, q⟩
  refine hk a m' N' s' ⟨p'.F, fun b o hb e => ?_, p'.R⟩ p'.N q
  cases h0 : hB.get? b with
  | some o' =>
    have := F.keep _ _ h0
    rw [e] at this
    cases this
    exact p'.F.keep _ _ h0
  | none => exact (p'.N _ (hN _ (restOf_mem e hb h0))).1

theorem seg_stmts {st : Stmt} {r : List Stmt} {K : Flow → Sem Fin} {H : Value → Sem Fin} {gd lv} {s : Shared} {m : Loc} {Q : Loc → Prop} (F : Fr hB env.locals s.heap m)
    (h : TW G (gAct A env hB code fs) (exec st env) m (restOf s.heap hB env.locals) fun f m' N' => f = .next ∧ (∀ p ∈ restOf s.heap hB env.locals, p ∈ N') ∧ Q m')
    (hk : ∀ m' s', Kept hB env.locals s s' m' → Q m' → Seg (model G.prog G.w) A R Y k s₁ code ((execs r env).wrap K H gd lv) fs s') :
    Seg (model G.prog G.w) A R Y k s₁ code ((execs (st :: r) env).wrap K H gd lv) fs s := by
  refine seg_execs_cons (seg_tw (Q := fun f m' _ => f = .next ∧ Q m') F (h.mono fun f m' N' ⟨e, h1, h2⟩ => ⟨h1, e, h2⟩) ?_)
  rintro f m' _ s' hK _ ⟨rfl, hq⟩
  exact hk m' s' hK hq

theorem seg_If {test : Expr} {y z : List Stmt} {pos : Pos} {K : Flow → Sem Fin} {H : Value → Sem Fin} {gd lv} {s : Shared} {m : Loc} {Q : Bool → Loc → Prop} (F : Fr hB env.locals s.heap m)
    (h : TW G (gAct A env hB code fs) (isTrue test env (eval test env)) m (restOf s.heap hB env.locals) fun b m' N' => (∀ p ∈ restOf s.heap hB env.locals, p ∈ N') ∧ Q b m')
    (hk : ∀ b m' s', Kept hB env.locals s s' m' → Q b m' → Seg (model G.prog G.w) A R Y k s₁ code ((execs (if b = true then y else z) env).wrap K H gd lv) fs s') :
    Seg (model G.prog G.w) A R Y k s₁ code ((exec (.If test y z pos) env).wrap K H gd lv) fs s := by
  rw [exec_If]
  show Seg _ A R Y k s₁ code (.at pos fun _ => (isTrue test env (eval test env) >>= fun b => if b = true then execs y env else execs z env).wrap K H gd lv) fs s
  refine seg_at ?_
  rw [Sem.bind_eq_wrap', Sem.wrap_wrap]
  refine seg_tw (Q := fun b m' _ => Q b m') F h fun b m' _ s' hK _ hq => ?_
  have := hk b m' s' hK hq
  cases b <;> exact this

theorem seg_forTurn {target : Expr} {body : List Stmt} {it : Value} {s : Shared}
    (h : ∀ E, wpAny (model G.prog G.w) (A.over (.forLoop target it body [] env) fs) (pyNext it) (fun r s' => match r with
      | none => Seg (model G.prog G.w) A R Y k s₁ (.forLoop target it body [] env) (.pure (.again (.block [] env))) fs s'
      | some v => ∀ E, wpAny (model G.prog G.w) (A.over (.forLoop target it body [] env) fs) (letOwnedTupleGo target it v) (fun _ s₂ => ∀ E, wpAny (model G.prog G.w) (A.over (.forLoop target it body [] env) fs) (assign target env v) (fun _ s₃ =>
          ∀ H', Seg (model G.prog G.w) A R Y k s₁ (.forLoop target it body [] env) ((execs body env).wrap (fun f => match f with
            | .next | .cont => .pure (.again (.forLoop target it body [] env))
            | .brk => .pure (.done .next)
            | .ret v => .pure (.done (.ret v))) H' id id) fs s₃) E s₂) E s') E s) :
    Seg (model G.prog G.w) A R Y k s₁ (.forLoop target it body [] env) ((model G.prog G.w).den (.forLoop target it body [] env)) fs s := by
  show Seg _ A R Y k s₁ _ ((forTurn target it body [] env).onRaise (fun x => do noteFrame x env; theTreesLotGoes x)) fs s
  unfold forTurn
  rw [Sem.onRaise_eq_wrap]
  refine seg_bind_wrap (wpAny_standAt (seg_bind_wrap (wpAny_onRaise (wpAny_mono (h _) (fun r s' hr => ?_) fun _ _ e => wpAny_standAt e))))
  cases r with
  | none => exact hr
  | some v =>
    refine seg_bind_wrap (wpAny_mono (hr _) (fun _ s₂ h₂ => ?_) fun _ _ e => e)
    refine seg_bind_wrap (wpAny_mono (h₂ _) (fun _ s₃ h₃ => ?_) fun _ _ e => e)
    rw [Sem.bind_eq_wrap', Sem.wrap_wrap]
    have := h₃ (fun e => ((do noteFrame e env; theTreesLotGoes e : Sem Unit).bind fun _ => .raise e))
    refine Eq.mp (congrArg (fun t => Seg (model G.prog G.w) A R Y k s₁ (.forLoop target it body [] env) t fs s₃) ?_) this
    exact Sem.wrap_congr _ _ _ (fun f => by cases f <;> rfl) (fun _ => rfl)

theorem seg_For {target iter : Expr} {body : List Stmt} {pos : Pos} {K : Flow → Sem Fin} {H : Value → Sem Fin} {gd lv} {s : Shared} (hf : ∀ x, foldedSetIterable iter env x = pure x)
    (h : ∀ E, wpAny (model G.prog G.w) (A.over code fs) (eval iter env) (fun x s' => ∀ E, wpAny (model G.prog G.w) (A.over code fs) (pyIter x) (fun it s₂ =>
      ∀ p K', (∀ k' s₁' s₃, Seg (model G.prog G.w) A R Y k' s₁' code (K .next) fs s₃ → Seg (model G.prog G.w) A R Y k' s₁' code (K' (.ok .next)) fs s₃) →
        Seg (model G.prog G.w) A R Y k s₁ (.forLoop target it body [] env) ((model G.prog G.w).den (.forLoop target it body [] env)) (.ret K' none (gd false) (lv []) code p [] :: fs) s₂) E s') E s) :
    Seg (model G.prog G.w) A R Y k s₁ code ((exec (.For target iter body [] pos) env).wrap K H gd lv) fs s := by
  rw [exec_For]
  refine seg_bind_wrap (wpAny_standAt (seg_bind_wrap (wpAny_mono (h _) (fun x s' hx => ?_) fun _ _ e => e)))
  refine seg_bind_wrap (wpAny_of_eq (hf x) (seg_bind_wrap (wpAny_standAt (seg_bind_wrap (wpAny_holding (wpAny_mono (hx _) (fun it s₂ h₂ => ?_) fun _ _ e => e))))))
  unfold runOwn
  refine seg_call fun p => h₂ p _ fun k' s₁' s₃ hs => ?_
  exact hs
end


-- b14
section
variable {prog : Program} {w : World} {A : Around} {E : Value → Shared → Prop} {s : Shared}
theorem next_genQ {a : Addr} {g n : Nat} {gs : GenState} {P : Nat → Shared → Shared → Prop} {Y : Protocol} {Q : Option Value → Shared → Prop} (hh : A.handled = none)
    (hl : s.heap.NoLimit) (hroom : A.depth < recursionLimit) (hg : s.heap.IsGen a g) (hgs : s.gens[g]? = some gs)
    (hgo : gs.Goes (model prog w) A.in1 (fun n s₀ r s₁ => r = .ok (.ret .none) ∧ P n s₀ s₁) Y n (.send .none) (s.setGen g .running))
    (hY : ∀ v s₁ gs', gs'.bare = true → Y (n - 1) (s.setGen g .running) v s₁ (fun r' s'' => match n with
        | 0 => False
        | m + 1 => gs'.Goes (model prog w) A.in1 (fun n s₀ r s₁ => r = .ok (.ret .none) ∧ P n s₀ s₁) Y m r' s'') → Q (some v) (s₁.setGen g gs'))
    (hP : ∀ s₁, P n (s.setGen g .running) s₁ → ∀ h', (∀ b o, s₁.heap.get? b = some o → h'.get? b = some o) → Q none { s₁.setGen g .finished with heap := h' }) :
    wpAny (model prog w) A (pyNext (.ref a)) Q E s := by
  unfold pyNext
  refine wpAny_bind (wpAny_attempt (wpAny_callSpecial?_slot (name := Str.ofString "__next__") hg.typeIs slot_gen_next
    (wpAny_call_entry slot_gen_next hg.typeIs entry_gen_next ?_ (args_gen_next _))))
  show wpAny _ _ (Builtin.Generator.genWake (.ref a) (.send .none)) _ _ s
  unfold Builtin.Generator.genWake
  refine wpAny_bind (wpAny_holding (wpAny_genNumber hg (wpAny_bind (wpAny_genState hgs ?_))))
  cases gs with
  | running => exact hgo.elim
  | finished => exact hgo.elim
  | _ =>
    refine wpAny_bind (wpAny_roomToWake hl hroom ?_)
    show wpAny _ _ (.resume g (.send .none) [] _) _ _ s
    refine wpAny_resumeQ hgs hgo (fun x s₁ hx => ?_) (fun v s₁ gs' hb hv => ?_)
    · obtain ⟨rfl, hp⟩ := hx
      show wpAny _ _ (newExc (.type "StopIteration") [] >>= _) _ _ _
      refine wpAny_bind ?_
      simp only [newExc, newTuple]
      refine wpAny_bind (wpAny_newObj_type ?_ (by size_fits))
      refine wpAny_bind (m := firstArgMember _ _) (wpAny_of_eq (a := Value.none) (by first | rfl | (simp only [firstArgMember]; rfl)) ?_)
      refine wpAny_newObj_type ?_ (by size_fits)
      simp only [raiseNew]
      refine wpAny_bind (wpAny_bind (wpAny_handled ?_))
      rw [show A.in1.handled = none from hh]
      refine wpAny_throw ?_
      refine wpAny_bind (wpAny_isInstance (T := "StopIteration") (b := true) ⟨_, Heap.get?_push_size _ rfl, rfl⟩ isSubtype_stop ?_)
      exact wpAny_pure (hP s₁ hp _ fun b o hb => Heap.get?_push_of_some _ (Heap.get?_push_of_some _ hb))
    · exact wpAny_pure ⟨v, rfl, wpAny_pure (hY v s₁ gs' hb hv)⟩
end

def gSince (C e it : Addr) (s₁ s : Shared) : Prop := Rest s₁ s ∧ ∀ b o, b ≠ C → b ≠ e → b ≠ it → s₁.heap.get? b = some o → s.heap.get? b = some o
theorem gSince.refl {C e it : Addr} {s : Shared} : gSince C e it s s := ⟨Rest.refl s, fun _ _ _ _ _ e => e⟩
def gR (C e it : Addr) : Nat → Shared → Shared → Prop := fun n s₁ s => n = 0 ∧ gSince C e it s₁ s
def gY (hB : Heap) (C e it : Addr) (items : List (Nat × List Nat)) : Protocol := fun k s₁ v s κ =>
  (∃ T p ch t u ep, v = .ref T ∧ s₁.heap.get? T = none ∧ T ≠ e ∧ T ≠ it ∧ T ≠ C ∧ s.heap.get? T = some (tupOf [.int (p : Nat) t, .str (S ch) u].toArray ep) ∧ items[items.length - 1 - k]? = some (p, ch)) ∧ gSince C e it s₁ s ∧
  (∃ oC oe oit, s.heap.get? C = some oC ∧ s.heap.get? e = some oe ∧ s.heap.get? it = some oit) ∧
  ∀ s'' : Shared, (∀ b, b = C ∨ b = e ∨ b = it → ∀ o, s.heap.get? b = some o → s''.heap.get? b = some o) → (∀ b o, hB.get? b = some o → s''.heap.get? b = some o) → κ (.send .none) s''

theorem rest_size {s₀ s : Shared} (R : Rest s₀ s) : s₀.gens.size ≤ s.gens.size := by
  rcases Nat.eq_zero_or_pos s₀.gens.size with h | h
  · (first | (revert h; walk_at "Z") | omega)
  · have := R.gens (s₀.gens.size - 1) (s₀.gens[s₀.gens.size - 1]'(by (first | (revert h; walk_at "Z") | omega))) (by simp)
    have := (Array.getElem?_eq_some_iff.mp this).1
    (first | (revert this; walk_at "Z") | omega)
theorem rest_setGen {s₀ s : Shared} {g : Nat} {gs : GenState} (R : Rest s₀ s) (hg : s₀.gens.size ≤ g) (hb : gs.bare = true) : Rest s₀ (s.setGen g gs) := by
  refine ⟨R.os, fun g' st e => ?_, fun ha y hy => ?_⟩
  · have h1 := R.gens g' st e
    have h2 := (Array.getElem?_eq_some_iff.mp e).1
    show (s.gens.setIfInBounds g gs)[g']? = some st
    rw [Array.getElem?_setIfInBounds_ne (by (first | (revert h2 hg; walk_at "Z") | omega))]; exact h1
  · have ha' := R.bare ha
    have hy' : y ∈ s.gens.setIfInBounds g gs := hy
    rcases Array.mem_or_eq_of_mem_setIfInBounds hy' with h | h
    · exact ha' y h
    · subst h; exact hb

def GenOb (g : Nat) (o : Obj) : Prop := o.cls = .type "generator" ∧ (∃ nm qn, o.data = .fields #[.int g 0, nm, qn]) ∧ o.slots = #[]
theorem GenOb.isGen {h : Heap} {a : Addr} {g : Nat} {o : Obj} (x : GenOb g o) (e : h.get? a = some o) : h.IsGen a g := by
  obtain ⟨hc, ⟨nm, qn, hd⟩, hs⟩ := x
  exact ⟨o, nm, qn, e, hc, hd, hs⟩
/-- what is known of a generator between its stretches -/
inductive GSt (G : St) (c : Act) (code : Code) (items : List (Nat × List Nat)) (ga g C : Addr) : Nat → Cells → Shared → Prop
  | fresh {oga oC : Obj} {s : Shared} : GenOb g oga → s.gens[g]? = some (.fresh code) → s.heap.get? ga = some oga → s.heap.get? C = some oC →
      (∀ s' : Shared, s'.heap.get? C = some oC → (∀ b o, c.h₀.get? b = some o → s'.heap.get? b = some o) →
        Seg (model G.prog G.w) c.A.in1 (fun n s₀ r s₁ => r = .ok (.ret .none) ∧ gR C (s'.heap.objs.size + 1) s'.heap.objs.size n s₀ s₁) (gY c.h₀ C (s'.heap.objs.size + 1) s'.heap.objs.size items) items.length s' code ((model G.prog G.w).den code) [] s') →
      GSt G c code items ga g C 0 [(ga, oga), (C, oC)] s
  | susp {j : Nat} {e it : Addr} {oga oC oe oit : Obj} {gs : GenState} {s : Shared} : GenOb g oga → j < items.length → e ≠ ga → it ≠ ga → s.gens[g]? = some gs → s.heap.get? ga = some oga → s.heap.get? C = some oC → s.heap.get? e = some oe → s.heap.get? it = some oit →
      (∀ s' : Shared, s'.heap.get? C = some oC → s'.heap.get? e = some oe → s'.heap.get? it = some oit → (∀ b o, c.h₀.get? b = some o → s'.heap.get? b = some o) →
        gs.Goes (model G.prog G.w) c.A.in1 (fun n s₀ r s₁ => r = .ok (.ret .none) ∧ gR C e it n s₀ s₁) (gY c.h₀ C e it items) (items.length - (j + 1)) (.send .none) s') →
      GSt G c code items ga g C (j + 1) [(ga, oga), (C, oC), (e, oe), (it, oit)] s

theorem GSt.keeps {G : St} {c : Act} {code : Code} {items : List (Nat × List Nat)} {ga g C : Addr} {j : Nat} {Own : Cells} {s s' : Shared} (x : GSt G c code items ga g C j Own s) (hO : ∀ p ∈ Own, s'.heap.get? p.1 = some p.2) (hg : ∀ st, s.gens[g]? = some st → s'.gens[g]? = some st) :
    GSt G c code items ga g C j Own s' := by
  cases x with
  | fresh h0 h1 h2 h3 h4 => exact .fresh h0 (hg _ h1) (hO _ (.head _)) (hO _ (.tail _ (.head _))) h4
  | susp h0 hj i1 i2 h1 h2 h3 h4 h5 h6 => exact .susp h0 hj i1 i2 (hg _ h1) (hO _ (.head _)) (hO _ (.tail _ (.head _))) (hO _ (.tail _ (.tail _ (.head _)))) (hO _ (.tail _ (.tail _ (.tail _ (.head _))))) h6
theorem GSt.bound {G : St} {c : Act} {code : Code} {items : List (Nat × List Nat)} {ga g C : Addr} {j : Nat} {Own : Cells} {s : Shared} (x : GSt G c code items ga g C j Own s) : j ≤ items.length := by
  cases x with
  | fresh => exact Nat.zero_le _
  | susp _ hj => exact hj

section
variable {G : St} {c : Act} {n : Nat} {m : Loc} {N : Cells} {code : Code} {items : List (Nat × List Nat)} {ga g C e it : Addr} {j : Nat}

/-- what one stretch of a generator leaves -/
def GNext (G : St) (c : Act) (m : Loc) (N : Cells) (code : Code) (items : List (Nat × List Nat)) (ga g C : Addr) (j : Nat) (s₀ : Shared) (r : Option Value) (s' : Shared) : Prop := match r with
  | none => j = items.length ∧ Pre c m N s₀ s'
  | some v => ∃ T p ch t u ep Own', v = .ref T ∧ items[j]? = some (p, ch) ∧ Pre c m ((T, tupOf [.int (p : Nat) t, .str (S ch) u].toArray ep) :: (Own' ++ N)) s₀ s' ∧ Fresh T (Own' ++ N) ∧ (∀ p ∈ Own', Fresh p.1 N) ∧ GSt G c code items ga g C (j + 1) Own' s'

theorem gen_core {s₀ s : Shared} {E : Value → Shared → Prop} {gs : GenState} {oga : Obj} (o : Ok G n c) (P : Pre c m N s₀ s) (hga : s.heap.get? ga = some oga) (hgo : GenOb g oga) (hgaN : c.h₀.get? ga = none ∧ ga ≠ c.env.locals ∧ Fresh ga N) (hgs : s.gens[g]? = some gs) (hg : s₀.gens.size ≤ g) (hj : j ≤ items.length)
    (hown : ∀ x, x = C ∨ x = e ∨ x = it → c.h₀.get? x = none ∧ x ≠ c.env.locals ∧ Fresh x N ∧ x ≠ ga)
    (H : gs.Goes (model G.prog G.w) c.A.in1 (fun n s₀ r s₁ => r = .ok (.ret .none) ∧ gR C e it n s₀ s₁) (gY c.h₀ C e it items) (items.length - j) (.send .none) (s.setGen g .running)) :
    wpAny (model G.prog G.w) c.A (pyNext (.ref ga)) (GNext G c m N code items ga g C j s₀) E s := by
  have hfr : ∀ s₁ : Shared, gSince C e it (s.setGen g .running) s₁ → ∀ gs' : GenState, gs'.bare = true → ∀ h', (∀ b o, s₁.heap.get? b = some o → h'.get? b = some o) → Pre c m ((ga, oga) :: N) s₀ { s₁.setGen g gs' with heap := h' } := by
    rintro s₁ ⟨hR, hold⟩ gs' hb h' hh
    have hk : ∀ b o, (¬ (b = C ∨ b = e ∨ b = it)) → s.heap.get? b = some o → h'.get? b = some o := fun b o hb e' => hh _ _ (hold b o (fun q => hb (.inl q)) (fun q => hb (.inr (.inl q))) (fun q => hb (.inr (.inr q))) e')
    have h0 : ∀ b o, c.h₀.get? b = some o → ¬ (b = C ∨ b = e ∨ b = it) := fun b o e' hx => by rw [(hown b hx).1] at e'; cases e'
    refine ⟨⟨?_, fun b o e' => hk b o (h0 b o e') (P.F.keep b o e'), P.F.above⟩, fun p hp => ?_, ?_⟩
    · obtain ⟨oL, es, ep, hL, r⟩ := P.F.ns
      exact ⟨oL, es, ep, hk _ _ (fun hx => (hown _ hx).2.1 rfl) hL, r⟩
    · rcases List.mem_cons.mp hp with rfl | hp
      · exact ⟨hk _ _ (fun hx => (hown _ hx).2.2.2 rfl) hga, hgaN.2.1, hgaN.1⟩
      · exact ⟨hk _ _ (fun hx => (hown _ hx).2.2.1 p hp rfl) (P.N p hp).1, (P.N p hp).2⟩
    · have R1 : Rest s₀ (s.setGen g .running) := rest_setGen P.R hg rfl
      have R2 := rest_setGen (R1.trans hR) hg hb
      exact ⟨R2.os, R2.gens, R2.bare⟩
  refine next_genQ o.handled (o.T.nolimit.keeps P.F.keep) o.room (hgo.isGen hga) hgs H (fun v s₁ gs' hb hv => ?_) (fun s₁ hp h' hh => ?_)
  · obtain ⟨⟨T, p, ch, t, u, ep, rfl, hT, hTe, hTi, hTC, hget, hitem⟩, hsin, ⟨oC, oe, oit, hC, he, hit⟩, hκ⟩ := hv
    have hlt : j < items.length := by
      rcases Nat.lt_or_ge j items.length with h | h
      · exact h
      · have e0 : items.length - j = 0 := by (first | (revert h; walk_at "Z") | omega)
        rw [e0] at hκ
        exact (hκ s₁ (fun b _ o e => e) (fun b o e' => (hfr s₁ hsin .finished rfl s₁.heap fun _ _ e => e).F.keep b o e')).elim
    have P1 := hfr s₁ hsin gs' hb s₁.heap fun _ _ e => e
    have hTs : s.heap.get? T = none := hT
    have hgsize : g < s₁.gens.size := by
      have h1 : (s.setGen g .running).gens[g]? = some .running := by
        show (s.gens.setIfInBounds g .running)[g]? = _
        have := (Array.getElem?_eq_some_iff.mp hgs).1
        simp [this]
      exact (Array.getElem?_eq_some_iff.mp (hsin.1.gens g _ h1)).1
    have hTN : ∀ b o, s.heap.get? b = some o → b ≠ T := fun b o e' q => by subst q; rw [hTs] at e'; cases e'
    have own3 : ∀ x ox, (x = C ∨ x = e ∨ x = it) → s₁.heap.get? x = some ox → (s₁.heap.get? x = some ox ∧ x ≠ c.env.locals ∧ c.h₀.get? x = none) := fun x ox hx e' => ⟨e', (hown x hx).2.1, (hown x hx).1⟩
    -- T is none of them
    have hsz : items.length - 1 - (items.length - j - 1) = j := by (first | (revert hlt; walk_at "Z") | omega)
    rw [hsz] at hitem
    have hT0 : c.h₀.get? T = none := by
      cases q : c.h₀.get? T with
      | none => rfl
      | some o' => exact absurd rfl (hTN _ _ (P.F.keep _ _ q))
    have hTL : T ≠ c.env.locals := by
      obtain ⟨oL, _, _, hL, _⟩ := P.F.ns
      exact fun q => hTN _ _ hL q.symm
    have hx : ¬ (T = C ∨ T = e ∨ T = it) := by rintro (h | h | h) <;> contradiction
    refine ⟨T, p, ch, t, u, ep, [(ga, oga), (C, oC), (e, oe), (it, oit)], rfl, hitem, ⟨P1.F, fun q hq => ?_, P1.R⟩, ?_, ?_, ?_⟩
    · rcases List.mem_cons.mp hq with rfl | hq
      · exact ⟨hget, hTL, hT0⟩
      · rcases List.mem_append.mp hq with hq | hq
        · simp only [List.mem_cons, List.not_mem_nil, or_false] at hq
          rcases hq with rfl | rfl | rfl | rfl
          · exact P1.N _ (.head _)
          · exact own3 _ _ (.inl rfl) hC
          · exact own3 _ _ (.inr (.inl rfl)) he
          · exact own3 _ _ (.inr (.inr rfl)) hit
        · exact P1.N _ (.tail _ hq)
    · intro q hq e'
      rcases List.mem_append.mp hq with hq | hq
      · simp only [List.mem_cons, List.not_mem_nil, or_false] at hq
        rcases hq with rfl | rfl | rfl | rfl
        · exact hTN _ _ hga e'
        · exact hx (.inl e'.symm)
        · exact hx (.inr (.inl e'.symm))
        · exact hx (.inr (.inr e'.symm))
      · exact hTN _ _ (P.N q hq).1 e'
    · intro q hq
      simp only [List.mem_cons, List.not_mem_nil, or_false] at hq
      rcases hq with rfl | rfl | rfl | rfl
      · exact hgaN.2.2
      · exact (hown _ (.inl rfl)).2.2.1
      · exact (hown _ (.inr (.inl rfl))).2.2.1
      · exact (hown _ (.inr (.inr rfl))).2.2.1
    · refine .susp (gs := gs') hgo hlt (hown _ (.inr (.inl rfl))).2.2.2 (hown _ (.inr (.inr rfl))).2.2.2 ?_ (P1.N _ (.head _)).1 hC he hit fun s' h1 h2 h3 h4 => ?_
      · show (s₁.gens.setIfInBounds g gs')[g]? = some gs'
        simp [hgsize]
      · have hk := hκ s' (fun b hb o e' => by
          rcases hb with rfl | rfl | rfl
          · rw [hC] at e'; cases e'; exact h1
          · rw [he] at e'; cases e'; exact h2
          · rw [hit] at e'; cases e'; exact h3) h4
        obtain ⟨k, hk1⟩ : ∃ k, items.length - j = k + 1 := ⟨items.length - j - 1, sub_one hlt⟩
        rw [hk1] at hk
        have hk2 : items.length - (j + 1) = k := sub_next hk1
        rw [hk2]; exact hk
  · obtain ⟨h0, hsin⟩ := hp
    have P1 := hfr s₁ hsin .finished rfl h' hh
    exact ⟨by (first | (revert h0 hj; walk_at "Z") | omega), P1.sub fun _ h => .tail _ h⟩
end

-- b15
section
variable {G : St} {c : Act} {n : Nat} {m : Loc} {N : Cells} {code : Code} {items : List (Nat × List Nat)} {ga g C : Addr} {j : Nat} {Own : Cells}

theorem Pre.fresh_of {s₀ s : Shared} (P : Pre c m N s₀ s) {x : Addr} (h : s.heap.objs.size ≤ x) : c.h₀.get? x = none ∧ x ≠ c.env.locals ∧ Fresh x N := by
  have hn : ∀ b o, s.heap.get? b = some o → b ≠ x := fun b o e q => by have := Heap.lt_size e; subst q; exact absurd this (Nat.not_lt.mpr h)
  refine ⟨?_, ?_, fun p hp => hn _ _ (P.N p hp).1⟩
  · cases q : c.h₀.get? x with
    | none => rfl
    | some o => exact absurd rfl (hn _ _ (P.F.keep _ _ q))
  · obtain ⟨oL, _, _, hL, _⟩ := P.F.ns
    exact fun q => hn _ _ hL q.symm

theorem gen_next {s₀ s : Shared} {E : Value → Shared → Prop} (o : Ok G n c) (P : Pre c m (Own ++ N) s₀ s) (hd : ∀ p ∈ Own, Fresh p.1 N) (hgC : C ≠ ga) (x : GSt G c code items ga g C j Own s) (hg : s₀.gens.size ≤ g) :
    wpAny (model G.prog G.w) c.A (pyNext (.ref ga)) (GNext G c m N code items ga g C j s₀) E s := by
  have hb := x.bound
  have PN : Pre c m N s₀ s := P.sub fun p hp => List.mem_append.mpr (.inr hp)
  cases x with
  | fresh h0 h1 h2 h3 h4 =>
    rename_i oga oC
    have z1 := P.N (ga, oga) (.head _)
    have z2 := P.N (C, oC) (.tail _ (.head _))
    have f1 := PN.fresh_of (x := s.heap.objs.size) (Nat.le_refl _)
    have f2 := PN.fresh_of (x := s.heap.objs.size + 1) (Nat.le_succ _)
    refine gen_core (e := s.heap.objs.size + 1) (it := s.heap.objs.size) o PN h2 h0 ⟨z1.2.2, z1.2.1, hd _ (.head _)⟩ h1 hg hb ?_ ⟨rfl, ?_⟩
    · rintro x (rfl | rfl | rfl)
      · exact ⟨z2.2.2, z2.2.1, hd _ (.tail _ (.head _)), hgC⟩
      · exact ⟨f2.1, f2.2.1, f2.2.2, fun q => by have := Heap.lt_size h2; rw [← q] at this; exact absurd this (Nat.not_lt.mpr (Nat.le_succ _))⟩
      · exact ⟨f1.1, f1.2.1, f1.2.2, fun q => by have := Heap.lt_size h2; rw [← q] at this; exact absurd this (Nat.lt_irrefl _)⟩
    · exact h4 (s.setGen g .running) h3 (fun b o e => P.F.keep b o e)
  | susp h0 hj i1 i2 h1 h2 h3 h4 h5 h6 =>
    rename_i e it oga oC oe oit gs
    have z1 := P.N (ga, oga) (.head _)
    have z2 := P.N (C, oC) (.tail _ (.head _))
    have z3 := P.N (e, oe) (.tail _ (.tail _ (.head _)))
    have z4 := P.N (it, oit) (.tail _ (.tail _ (.tail _ (.head _))))
    refine gen_core (e := e) (it := it) o PN h2 h0 ⟨z1.2.2, z1.2.1, hd _ (.head _)⟩ h1 hg hb ?_ (h6 (s.setGen g .running) h3 h4 h5 fun b o e => P.F.keep b o e)
    rintro x (rfl | rfl | rfl)
    · exact ⟨z2.2.2, z2.2.1, hd _ (.tail _ (.head _)), hgC⟩
    · exact ⟨z3.2.2, z3.2.1, hd _ (.tail _ (.tail _ (.head _))), i1⟩
    · exact ⟨z4.2.2, z4.2.1, hd _ (.tail _ (.tail _ (.tail _ (.head _)))), i2⟩

theorem GSt.head {s : Shared} (x : GSt G c code items ga g C j Own s) : ∃ oga r, Own = (ga, oga) :: r ∧ GenOb g oga := by
  cases x with
  | fresh h0 => exact ⟨_, _, rfl, h0⟩
  | susp h0 => exact ⟨_, _, rfl, h0⟩

/-- a for over a generator -/
theorem for_gen {target : Expr} {body : List Stmt} {Q : Flow → Loc → Cells → Prop} {s₀ s : Shared} {E : Value → Shared → Prop} (o : Ok G n c) (Inv : Nat → Loc → Cells → Prop) (hN : ∀ j m' N', Inv j m' N' → N'.map (·.1) = N.map (·.1)) (h0 : Inv 0 m N)
    (hb : ∀ j m' N' T p ch t u ep Own', items[j]? = some (p, ch) → Inv j m' N' → Fresh T (Own' ++ N') → (∀ q ∈ Own', Fresh q.1 N') →
      TW G c (assign target c.env (.ref T)) m' ((T, tupOf [.int (p : Nat) t, .str (S ch) u].toArray ep) :: (Own' ++ N')) fun _ m₁ N₁ => TW G c (execs body c.env) m₁ N₁ fun f m₂ N₂ => match f with
        | .next | .cont => ∃ N'', (∀ q ∈ Own' ++ N'', q ∈ N₂) ∧ Inv (j + 1) m₂ N''
        | .brk => ∃ N'', (∀ q ∈ N'', q ∈ N₂) ∧ Q .next m₂ N''
        | .ret v => ∃ N'', (∀ q ∈ N'', q ∈ N₂) ∧ Q (.ret v) m₂ N'')
    (hQ : ∀ m' N', Inv items.length m' N' → Q .next m' N')
    (P : Pre c m (Own ++ N) s₀ s) (hd : ∀ p ∈ Own, Fresh p.1 N) (hgC : C ≠ ga) (x : GSt G c code items ga g C 0 Own s) (hg : s₀.gens.size ≤ g) :
    wpAny (model G.prog G.w) c.A (pyIter (.ref ga)) (fun it s₂ => codeAny (model G.prog G.w) c.A (.forLoop target it body [] c.env) (AftR c s₀ Q) s₂) E s := by
  have hdis : ∀ {X N' : Cells}, (∀ q ∈ X, Fresh q.1 N) → N'.map (·.1) = N.map (·.1) → ∀ q ∈ X, Fresh q.1 N' := fun {X N'} h e q hq p hp => by
    have : p.1 ∈ N'.map (·.1) := List.mem_map_of_mem hp
    rw [e] at this
    obtain ⟨p', hp', e'⟩ := List.mem_map.mp this
    rw [← e']; exact h q hq p' hp'
  obtain ⟨oga, r, rfl, hob⟩ := x.head
  refine wpAny_pyIter_gen (hob.isGen (P.N _ (.head _)).1) ?_
  refine codeAny_forLoop_any (fun d s' => ∃ j m' N' Own', d = items.length - j ∧ Inv j m' N' ∧ Pre c m' (Own' ++ N') s₀ s' ∧ (∀ q ∈ Own', Fresh q.1 N) ∧ GSt G c code items ga g C j Own' s') ?_ _ ⟨0, m, N, _, rfl, h0, P, hd, x⟩
  rintro d s' ⟨j, m', N', Own', rfl, hI, P', hd', x'⟩
  refine wpAny_mono (gen_next o P' (hdis hd' (hN _ _ _ hI)) hgC x' hg) ?_ fun _ _ e => e
  intro r s₁ hr
  cases r with
  | none =>
    obtain ⟨hj, P₁⟩ := hr
    subst hj
    exact wpAny_execs_nil ⟨_, _, _, rfl, P₁, hQ _ _ hI⟩
  | some v =>
    obtain ⟨T, p, ch, t, u, ep, Own₁, rfl, hit, P₁, hT, hd₁, x₁⟩ := hr
    have hlt : j < items.length := (List.getElem?_eq_some_iff.mp hit).1
    obtain ⟨og, r₁, rfl, hob₁⟩ := x₁.head
    have hdN : ∀ q ∈ (ga, og) :: r₁, Fresh q.1 N := fun q hq => by
      intro p hp e'
      have : p.1 ∈ N.map (·.1) := List.mem_map_of_mem hp
      rw [← hN _ _ _ hI] at this
      obtain ⟨p', hp', e''⟩ := List.mem_map.mp this
      exact hd₁ q hq p' hp' (e''.trans e')
    have Ps : Pre c m' ((T, tupOf [.int (p : Nat) t, .str (S ch) u].toArray ep) :: ((ga, og) :: r₁ ++ N')) s₁ s₁ := ⟨P₁.F, P₁.N, Rest.refl _⟩
    have Pg : Pre c m' ((ga, og) :: ((T, tupOf [.int (p : Nat) t, .str (S ch) u].toArray ep) :: ((ga, og) :: r₁ ++ N'))) s₁ s₁ := Ps.sub fun q hq => by
      rcases List.mem_cons.mp hq with rfl | hq
      · exact .tail _ (.head _)
      · exact hq
    obtain ⟨hc1, ⟨nm, qn, hd1⟩, hs1⟩ := hob₁
    refine wpAny_mono ((go_plain (T := "generator") hc1 hd1 (by decide)).out s₁ s₁ _ Pg) ?_ fun _ _ e => e
    rintro _ s₂ ⟨m₂, _, P₂, em, rfl⟩
    rw [em] at P₂
    refine wpAny_mono ((hb j m' N' T p ch t u ep _ hit hI hT hd₁).out s₁ s₂ _ (P₂.sub fun q hq => .tail _ hq)) ?_ fun _ _ e => e
    rintro _ s₃ ⟨m₃, N₃, P₃, h₃⟩
    refine wpAny_mono (h₃.out s₁ s₃ _ P₃) ?_ fun _ _ e => e
    rintro f s₄ ⟨m₄, N₄, P₄, h₄⟩
    have hR : Rest s₀ s₄ := P₁.R.trans P₄.R
    have back : ∀ N'', (∀ q ∈ N'', q ∈ N₄) → Pre c m₄ N'' s₀ s₄ := fun N'' hs => ⟨P₄.F, fun q hq => P₄.N q (hs q hq), hR⟩
    have go : (∃ N'', (∀ q ∈ ((ga, og) :: r₁) ++ N'', q ∈ N₄) ∧ Inv (j + 1) m₄ N'') → ∃ d', d' < items.length - j ∧ ∃ j' m' N' Own', d' = items.length - j' ∧ Inv j' m' N' ∧ Pre c m' (Own' ++ N') s₀ s₄ ∧ (∀ q ∈ Own', Fresh q.1 N) ∧ GSt G c code items ga g C j' Own' s₄ := by
      rintro ⟨N'', hs, hI'⟩
      exact ⟨items.length - (j + 1), by (first | (revert hlt; walk_at "Z") | omega), j + 1, m₄, N'', (ga, og) :: r₁, rfl, hI', back _ hs, hdN, x₁.keeps (fun q hq => (P₄.N q (hs q (List.mem_append.mpr (.inl hq)))).1) (fun st e => P₄.R.gens g st e)⟩
    cases f with
    | next => exact go h₄
    | cont => exact go h₄
    | brk => obtain ⟨N'', hs, q⟩ := h₄; exact ⟨_, m₄, N'', rfl, back _ hs, q⟩
    | ret v => obtain ⟨N'', hs, q⟩ := h₄; exact ⟨_, m₄, N'', rfl, back _ hs, q⟩

/-- the act facts of a stretch -/
structure OkA (G : St) (n : Nat) (A : Around) (hB : Heap) : Prop where
  handled : A.handled = none
  depth : A.depth + 8 + 4 * n < 1000
  units : A.units + 10 + 20 * n < 9000
  X : G.K.In hB
  T : Top G.p G.loose G.mean G.mg G.mb hB
theorem OkA.func {A : Around} {hB : Heap} {env : Env} {body : List Stmt} (o : OkA G n A hB) (hk : env.scope.kind = .function) (hg : env.globals = mainGlobals) (hb : env.builtins = builtinsNs) : Ok G n (gAct A env hB (.func body env) []) :=
  ⟨o.X, o.T, by have := o.depth; show A.depth + 0 + 1 + 4 * n < 1000; (first | (revert this; walk_at "Z") | omega), by have := o.units; show A.units + 0 + 3 + 20 * n < 9000; (first | (revert this; walk_at "Z") | omega), o.handled, hk, hg, hb⟩
theorem OkA.loop {A : Around} {hB : Heap} {env : Env} {body b2 : List Stmt} {target : Expr} {it : Value} {K : Result → Sem Fin} {gd : Bool} {l : List Value} {p : Pos} {k : List Value} (o : OkA G n A hB) (hk : env.scope.kind = .function) (hg : env.globals = mainGlobals) (hb : env.builtins = builtinsNs) :
    Ok G n (gAct A env hB (.forLoop target it b2 [] env) [.ret K none gd l (.func body env) p k]) :=
  ⟨o.X, o.T, by have := o.depth; show A.depth + 1 + 0 + 4 * n < 1000; (first | (revert this; walk_at "Z") | omega), by have := o.units; show A.units + 3 + 0 + 20 * n < 9000; (first | (revert this; walk_at "Z") | omega), o.handled, hk, hg, hb⟩

/-- making the generator -/
theorem call_gen {name qual : Str} {params : Arguments} {body : List Stmt} {scope : Scope} {dV kV doc pm cdv ct oc : Value} {an od : Option Addr} {osl : Array (Option Value)} {f : Addr} {args : List Value} {binds : List (Str × Value)} {s₀ s : Shared} {E : Value → Shared → Prop}
    (o : Ok G (n + 2) c) (P : Pre c m N s₀ s)
    (ho : G.K.lookup f = some ⟨oc, od, .func (fnOf name qual params body scope dV kV doc pm an cdv ct), osl⟩) (hcd : codeIn G.K cdv qual = true)
    (hbind : ∀ s : Shared, G.K.In s.heap → BindsTo s (fnOf name qual params body scope dV kV doc pm an cdv ct) ⟨args, []⟩ binds)
    (hloc : ∀ y ∈ binds, scope.names.lookup y.1 = some .local) (hcell : ∀ x ∈ scope.names, x.2 ≠ .cell)
    (hco : scope.isCoroutine = false) (hgen : scope.isGenerator = true) (hk : scope.kind = .function)
    (hseg : ∀ (A : Around) (hB : Heap) (env : Env) (s' : Shared), env.scope = scope → env.globals = mainGlobals → env.builtins = builtinsNs → OkA G n A hB → Fr hB env.locals s'.heap (fun y => binds.reverse.lookup y) →
      Seg (model G.prog G.w) A (fun n s₀ r s₁ => r = .ok (.ret .none) ∧ gR env.locals (s'.heap.objs.size + 1) s'.heap.objs.size n s₀ s₁) (gY hB env.locals (s'.heap.objs.size + 1) s'.heap.objs.size items) items.length s' (.func body env) ((model G.prog G.w).den (.func body env)) [] s') :
    wpAny (model G.prog G.w) c.A (call (.ref f) args) (fun x s' => ∃ ga g C code Own, x = .ref ga ∧ Pre c m (Own ++ N) s₀ s' ∧ (∀ p ∈ Own, Fresh p.1 N) ∧ C ≠ ga ∧ GSt G c code items ga g C 0 Own s' ∧ s₀.gens.size ≤ g) E s := by
  have X := P.K o
  with_reducible refine wpAny_call ?_
  refine codeAny_call_generator (fd := fnOf name qual params body scope dV kV doc pm an cdv ct) (body := body) o.room (X _ _ ho) rfl hco hgen rfl (codeRec_of X hcd) (hbind s X _ _ _ _ ?_)
  refine wpAny_newFunctionEnv hcell hloc (fun h₁ hns hsb => ?_) hk
  have hlim := (o.T.nolimit.keeps P.F.keep).fresh _ hsb
  refine ⟨hlim, ?_⟩
  obtain ⟨oC, es, epC, hC, rC⟩ := hns
  have kp : ∀ b ob, s.heap.get? b = some ob → h₁.get? b = some ob := fun b ob e => hsb.extBut b ob (Nat.ne_of_lt (Heap.lt_size e)) (Heap.get?_push_of_some _ e)
  have hsz : h₁.objs.size = s.heap.objs.size + 1 := by rw [hsb.1, Heap.size_push]
  have f1 := P.fresh_of (x := s.heap.objs.size) (Nat.le_refl _)
  have f2 := P.fresh_of (x := h₁.objs.size) (by (first | (revert hsz; walk_at "Z") | omega))
  generalize hoga : ({ cls := .type "generator", data := .fields #[.int s.gens.size 0, .str name (s.toks + binds.length), .str qual (s.toks + binds.length + 1)] } : Obj) = oga
  have hga : (h₁.push oga).get? h₁.objs.size = some oga := Heap.get?_push_size _ (by rw [← hoga]; rfl)
  have hCo : (h₁.push oga).get? s.heap.objs.size = some oC := Heap.get?_push_of_some _ hC
  have kp2 : ∀ b ob, s.heap.get? b = some ob → (h₁.push oga).get? b = some ob := fun b ob e => Heap.get?_push_of_some _ (kp b ob e)
  have hne : s.heap.objs.size ≠ h₁.objs.size := by rw [hsz]; exact Nat.ne_of_lt (Nat.lt_succ_self _)
  have hgg : (s.gens.push (.fresh (.func body (callEnv (fnOf name qual params body scope dV kV doc pm an cdv ct) s.heap.objs.size f))))[s.gens.size]? = some (.fresh (.func body (callEnv (fnOf name qual params body scope dV kV doc pm an cdv ct) s.heap.objs.size f))) := by simp
  have fin : ∀ tk : Nat, ∃ ga g C code Own, Value.ref h₁.objs.size = .ref ga ∧ Pre c m (Own ++ N) s₀ { s with heap := h₁.push oga, toks := tk, gens := s.gens.push (.fresh (.func body (callEnv (fnOf name qual params body scope dV kV doc pm an cdv ct) s.heap.objs.size f))) } ∧ (∀ p ∈ Own, Fresh p.1 N) ∧ C ≠ ga ∧
      GSt G c code items ga g C 0 Own { s with heap := h₁.push oga, toks := tk, gens := s.gens.push (.fresh (.func body (callEnv (fnOf name qual params body scope dV kV doc pm an cdv ct) s.heap.objs.size f))) } ∧ s₀.gens.size ≤ g := by
    intro tk
    refine ⟨h₁.objs.size, s.gens.size, s.heap.objs.size, _, [(h₁.objs.size, oga), (s.heap.objs.size, oC)], rfl, ⟨⟨?_, fun b ob e => kp2 _ _ (P.F.keep b ob e), P.F.above⟩, ?_, ?_⟩, ?_, hne, .fresh (oga := oga) (oC := oC) ?_ hgg hga hCo ?_, rest_size P.R⟩
    · obtain ⟨oL, esL, epL, hL, r⟩ := P.F.ns
      exact ⟨oL, esL, epL, kp2 _ _ hL, r⟩
    · intro p hp
      rcases List.mem_append.mp hp with hp | hp
      · simp only [List.mem_cons, List.not_mem_nil, or_false] at hp
        rcases hp with rfl | rfl
        · exact ⟨hga, f2.2.1, f2.1⟩
        · exact ⟨hCo, f1.2.1, f1.1⟩
      · exact ⟨kp2 _ _ (P.N p hp).1, (P.N p hp).2⟩
    · refine ⟨P.R.os, fun g' st e => ?_, fun ha => ?_⟩
      · have h1 := P.R.gens g' st e
        have h2 := (Array.getElem?_eq_some_iff.mp h1).1
        show (s.gens.push _)[g']? = some st
        rw [Array.getElem?_push_lt h2]
        have := h1
        rw [Array.getElem?_eq_getElem h2] at this
        exact this
      · exact (P.R.bare ha).push rfl
    · intro p hp
      simp only [List.mem_cons, List.not_mem_nil, or_false] at hp
      rcases hp with rfl | rfl
      · exact f2.2.2
      · exact f1.2.2
    · rw [← hoga]; exact ⟨rfl, ⟨_, _, rfl⟩, rfl⟩
    · intro s' hC' hk'
      refine hseg c.A.in1 c.h₀ (callEnv (fnOf name qual params body scope dV kV doc pm an cdv ct) s.heap.objs.size f) s' rfl rfl rfl ⟨o.handled, ?_, ?_, o.X, o.T⟩ ⟨⟨oC, es, epC, hC', rC⟩, hk', ?_⟩
      · have := o.depth; show c.A.depth + 8 + 4 * n < 1000; (first | (revert this; walk_at "Z") | omega)
      · have := o.units; show c.A.units + 1 + 10 + 20 * n < 9000; (first | (revert this; walk_at "Z") | omega)
      · show c.h₀.objs.size ≤ s.heap.objs.size
        obtain ⟨oL, _, _, hL, _⟩ := P.F.ns
        exact Nat.le_of_lt (Nat.lt_of_le_of_lt P.F.above (Heap.lt_size hL))
  exact fin (s.toks + binds.length + 1 + 1)

/-- for .. in gen(name) -/
theorem t_ForGen {name qual : Str} {params : Arguments} {gbody : List Stmt} {scope : Scope} {dV kV doc pm cdv ct oc : Value} {an od : Option Addr} {osl : Array (Option Value)} {f : Addr} {a : Value} (binds : List (Str × Value)) {target : Expr} {body : List Stmt} {fx ax : Str} {p1 p2 cpos pos : Pos} {Q : Flow → Loc → Cells → Prop}
    (o : Ok G (n + 2) c) (h1 : TW G c (eval (.Name fx p1) c.env) m N fun v m' N' => v = .ref f ∧ m' = m ∧ N' = N) (h2 : TW G c (eval (.Name ax p2) c.env) m N fun v m' N' => v = a ∧ m' = m ∧ N' = N) (hf : keepIn G.K (.ref f) = true)
    (ho : G.K.lookup f = some ⟨oc, od, .func (fnOf name qual params gbody scope dV kV doc pm an cdv ct), osl⟩) (hcd : codeIn G.K cdv qual = true)
    (hbind : ∀ s : Shared, G.K.In s.heap → BindsTo s (fnOf name qual params gbody scope dV kV doc pm an cdv ct) ⟨[a], []⟩ binds)
    (hloc : ∀ y ∈ binds, scope.names.lookup y.1 = some .local) (hcell : ∀ x ∈ scope.names, x.2 ≠ .cell)
    (hco : scope.isCoroutine = false) (hgen : scope.isGenerator = true) (hk : scope.kind = .function)
    (hseg : ∀ (A : Around) (hB : Heap) (env : Env) (s' : Shared), env.scope = scope → env.globals = mainGlobals → env.builtins = builtinsNs → OkA G n A hB → Fr hB env.locals s'.heap (fun y => binds.reverse.lookup y) →
      Seg (model G.prog G.w) A (fun n s₀ r s₁ => r = .ok (.ret .none) ∧ gR env.locals (s'.heap.objs.size + 1) s'.heap.objs.size n s₀ s₁) (gY hB env.locals (s'.heap.objs.size + 1) s'.heap.objs.size items) items.length s' (.func gbody env) ((model G.prog G.w).den (.func gbody env)) [] s')
    (Inv : Nat → Loc → Cells → Prop) (hN : ∀ j m' N', Inv j m' N' → N'.map (·.1) = N.map (·.1)) (h0 : Inv 0 m N)
    (hb : ∀ j m' N' T p ch t u ep Own', items[j]? = some (p, ch) → Inv j m' N' → Fresh T (Own' ++ N') → (∀ q ∈ Own', Fresh q.1 N') →
      TW G c (assign target c.env (.ref T)) m' ((T, tupOf [.int (p : Nat) t, .str (S ch) u].toArray ep) :: (Own' ++ N')) fun _ m₁ N₁ => TW G c (execs body c.env) m₁ N₁ fun f m₂ N₂ => match f with
        | .next | .cont => ∃ N'', (∀ q ∈ Own' ++ N'', q ∈ N₂) ∧ Inv (j + 1) m₂ N''
        | .brk => ∃ N'', (∀ q ∈ N'', q ∈ N₂) ∧ Q .next m₂ N''
        | .ret v => ∃ N'', (∀ q ∈ N'', q ∈ N₂) ∧ Q (.ret v) m₂ N'')
    (hQ : ∀ m' N', Inv items.length m' N' → Q .next m' N') (hs : ∀ x, foldedSetIterable (.Call (.Name fx p1) [.Name ax p2] [] cpos) c.env x = pure x)
    (he : eval (.Call (.Name fx p1) [.Name ax p2] [] cpos) c.env = (do callWith cpos (← eval (.Name fx p1) c.env) [] (backTo cpos (starEach [.Name ax p2] c.env)) (backToKw cpos (keywordEach [] c.env)))) (he2 : starEach [.Name ax p2] c.env = (false, eval (.Name ax p2) c.env) :: starEach [] c.env) :
    TW G c (exec (.For target (.Call (.Name fx p1) [.Name ax p2] [] cpos) body [] pos) c.env) m N Q := ⟨fun s₀ s E P => by
  with_reducible refine wpAny_For (Call_ (wpAny_mono (h1.out s₀ s E P) ?_ fun _ _ e => e) he) hs
  rintro v s₁ ⟨m1, N1, p₁, ev, em, eN⟩
  rw [em, eN] at p₁
  rw [ev]
  have hsp : TW G c (spliced (backTo cpos (starEach [.Name ax p2] c.env))) m N fun vs m' N' => vs = [a] ∧ m' = m ∧ N' = N :=
    t_items (h2.mono fun v m' N' ⟨e1, e2, e3⟩ => by subst e1 e2 e3; exact t_items_nil ⟨rfl, rfl, rfl⟩) he2
  with_reducible refine callWith_K o.X hf (wpAny_mono (hsp.out s₀ s₁ E p₁) ?_ fun _ _ e => e) he2 rfl
  rintro vs s₂ ⟨m2, N2, p₂, evs, em2, eN2⟩
  rw [em2, eN2] at p₂
  refine ⟨p₂.K o, ?_⟩
  rw [evs]
  show wpAny _ _ (call (.ref f) [a]) _ _ _
  refine wpAny_mono (call_gen (items := items) o p₂ ho hcd hbind hloc hcell hco hgen hk hseg) ?_ fun _ _ e => e
  rintro x s₃ ⟨ga, g, C, code, Own, rfl, p₃, hd, hgC, hx, hg⟩
  refine wpAny_mono (for_gen (Q := Q) (o.mono (k := n) (by (first | walk_at "Z" | omega))) Inv hN h0 hb hQ p₃ hd hgC hx hg) (fun it s₄ h₄ => codeAny_mono h₄ ?_) fun _ _ e => e
  rintro r s' ⟨f', m', N', rfl, p', q'⟩
  exact ⟨m', N', p', q'⟩⟩

-- names, the heap as it was
theorem raw_bui {s : Shared} {E : Value → Shared → Prop} {Q : Value → Shared → Prop} {x : Str} {v : Value} {sc : Scope} {pos : Pos} (o : Ok G n c) (hs : c.env.scope = sc) (F : Fr c.h₀ c.env.locals s.heap m) (e : nsIn G.K mainGlobals x = some none) (hb : bootBuiltins x = some v) (hn : x ≠ "__name__") (hl : sc.names.lookup x = some .globalImplicit)
    (h : Q v s) (hd : (x == ("__debug__" : Str)) = false) : wpAny (model G.prog G.w) c.A (eval (.Name x pos) c.env) Q E s :=
  Name_function_global o.kind (kind_of hs hl) (loadGlobal_builtin (by rw [o.glob]; exact o.T.g.keeps F.keep) (mg_none_of o.X o.T.g e) (by rw [o.bui]; exact o.T.b.keeps F.keep) ((o.T.builtins x hn).trans hb) h) hd
theorem raw_local {s : Shared} {E : Value → Shared → Prop} {Q : Value → Shared → Prop} {x : Str} {v : Value} {sc : Scope} {pos : Pos} (o : Ok G n c) (hs : c.env.scope = sc) (F : Fr c.h₀ c.env.locals s.heap m) (hv : m x = some v) (hl : sc.names.lookup x = some .local)
    (h : Q v s) (hd : (x == ("__debug__" : Str)) = false) : wpAny (model G.prog G.w) c.A (eval (.Name x pos) c.env) Q E s :=
  wpAny_Name (wpAny_loadName_local o.kind (kind_of hs hl) F.ns hv h) hd
theorem raw_store {s : Shared} {E : Value → Shared → Prop} {Q : Unit → Shared → Prop} {x : Str} {v : Value} {sc : Scope} (o : Ok G n c) (hs : c.env.scope = sc) (F : Fr c.h₀ c.env.locals s.heap m) (hl : sc.names.lookup x = some .local)
    (h : ∀ h', Fr c.h₀ c.env.locals h' (fun y => if y = x then some v else m y) → Heap.SameBut c.env.locals s.heap h' → Q () { s with heap := h', toks := s.toks + 1 }) : wpAny (model G.prog G.w) c.A (storeName c.env x v) Q E s :=
  wpAny_storeName_local (kind_of hs hl) F.ns (fun h' hn hs => h h' (F.set hn hs) hs) (by rw [o.kind]; rfl)
end

-- b16
section
variable {G : St} {A : Around} {env : Env} {hB : Heap} {k : Nat} {s₁ : Shared} {code : Code} {fs : List Frame} {n : Nat} {e it : Addr} {x : List Nat} {tk : Tok} {items : List (Nat × List Nat)}

theorem drawsS (prog : Program) (w : World) {A : Around} (hh : A.handled = none) (it : Addr) (x : Str) (t : Tok) :
    Draws prog w A it [it] x.cps.size (fun i v => ∃ c u, x.cps[i]? = some c ∧ v = .str ⟨#[c]⟩ u) (fun i h => h.IsStrIter it (strIterType x) x t i) := by
  cases ha : x.cps.all (· < 128)
  · have : strIterType x = "str_iterator" := by simp [strIterType, ha]
    rw [this]; exact Draws.strWide hh it x t
  · have : strIterType x = "str_ascii_iterator" := by simp [strIterType, ha]
    rw [this]; exact Draws.strAscii hh it x t

/-- where a generator that runs over enumerate(x) stands -/
structure GI (hB : Heap) (C e it : Addr) (x : List Nat) (tk : Tok) (i : Nat) (s₁ s : Shared) (m : Loc) : Prop where
  F : Fr hB C s.heap m
  enum : ∃ old, IsEnum s.heap e it (i : Nat) old
  iter : s.heap.IsStrIter it (strIterType (S x)) (S x) tk i
  since : gSince C e it s₁ s
structure GA (hB : Heap) (C e it : Addr) : Prop where
  ei : e ≠ it
  Ce : C ≠ e
  Ci : C ≠ it
  be : hB.get? e = none
  bi : hB.get? it = none
  bC : hB.get? C = none

theorem gSince.kept {C e it : Addr} {s₁ s s' : Shared} {m : Loc} (h : gSince C e it s₁ s) (K : Kept hB C s s' m) : gSince C e it s₁ s' :=
  ⟨h.1.trans K.R, fun b o h1 h2 h3 e => K.old b o h1 (h.2 b o h1 h2 h3 e)⟩
theorem GI.kept {C : Addr} {i : Nat} {s s' : Shared} {m m' : Loc} (ga : GA hB C e it) (g : GI hB C e it x tk i s₁ s m) (K : Kept hB C s s' m') : GI hB C e it x tk i s₁ s' m' := by
  obtain ⟨old, he⟩ := g.enum
  obtain ⟨o, ho, r⟩ := g.iter
  exact ⟨K.F, ⟨old, K.old _ _ (Ne.symm ga.Ce) he⟩, ⟨o, K.old _ _ (Ne.symm ga.Ci) ho, r⟩, g.since.kept K⟩

/-- a yield of a pair -/
theorem seg_yieldY {ex : Expr} {ypos pos : Pos} {K : Flow → Sem Fin} {H : Value → Sem Fin} {lv} {i : Nat} {s : Shared} {m : Loc} {p : Nat} {ch : List Nat} (hh : A.handled = none) (ga : GA hB env.locals e it) (g : GI hB env.locals e it x tk i s₁ s m)
    (hfs : splitAtGen fs = none) (hfg : fs.any Frame.guarded = false) (hco : env.scope.isCoroutine = false) (hi : interactive env = false)
    (hitem : items[items.length - 1 - k]? = some (p, ch))
    (h : TW G (gAct A env hB code fs) (eval ex env) m (restOf s.heap hB env.locals) fun v m' N' => (∀ p ∈ restOf s.heap hB env.locals, p ∈ N') ∧ m' = m ∧ ∃ T t u ep, v = .ref T ∧ (T, tupOf [.int (p : Nat) t, .str (S ch) u].toArray ep) ∈ N' ∧ Fresh T (restOf s.heap hB env.locals))
    (hk : ∀ s'' : Shared, GI hB env.locals e it x tk i s'' s'' m → Seg (model G.prog G.w) A (fun n s₀ r s₁ => r = .ok (.ret .none) ∧ gR env.locals e it n s₀ s₁) (gY hB env.locals e it items) k s'' code (K .next) fs s'') :
    Seg (model G.prog G.w) A (fun n s₀ r s₁ => r = .ok (.ret .none) ∧ gR env.locals e it n s₀ s₁) (gY hB env.locals e it items) (k + 1) s₁ code ((exec (.Expr (.Yield (some ex) ypos) pos) env).wrap K H id lv) fs s := by
  refine seg_Expr_Yield hfs rfl hfg (wpAny_mono (run_tw g.F h) ?_ fun _ _ e => e) hco hi
  rintro v s' ⟨m', N', K', N₁, hm, T, t, u, ep, rfl, hT, hTf⟩ kap hkap
  subst hm
  have g' := g.kept ga K'
  have zT := N₁ _ hT
  obtain ⟨old, he'⟩ := g'.enum
  obtain ⟨oit, hit', rit⟩ := g'.iter
  obtain ⟨oC, esC, epC, hC', rC⟩ := g'.F.ns
  obtain ⟨old0, he0⟩ := g.enum
  obtain ⟨oit0, hit0, _⟩ := g.iter
  have nT : ∀ b o, b ≠ env.locals → s.heap.get? b = some o → b ≠ T := fun b o hb e' q => by
    subst q
    exact hTf _ (restOf_mem e' hb zT.2.2) rfl
  have hTe : T ≠ e := Ne.symm (nT _ _ (Ne.symm ga.Ce) he0)
  have hTi : T ≠ it := Ne.symm (nT _ _ (Ne.symm ga.Ci) hit0)
  refine ⟨⟨T, p, ch, t, u, ep, rfl, ?_, hTe, hTi, zT.2.1, zT.1, hitem⟩, g'.since, ⟨oC, _, oit, hC', he', hit'⟩, fun s'' hk1 hk2 => hkap _ _ ?_⟩
  · cases q : s₁.heap.get? T with
    | none => rfl
    | some o => exact absurd rfl (nT _ _ zT.2.1 (g.since.2 _ _ zT.2.1 hTe hTi q))
  · have := hk s'' ⟨⟨⟨oC, esC, epC, hk1 _ (.inl rfl) _ hC', rC⟩, hk2, g'.F.above⟩, ⟨old, hk1 _ (.inr (.inl rfl)) _ he'⟩, ⟨oit, hk1 _ (.inr (.inr rfl)) _ hit', rit⟩, gSince.refl⟩
    exact this

theorem seg_enum_loop {elts : List Expr} {kk : Nat} {tp : Pos} {body : List Stmt} (hh : ∀ c : Code, (A.over c fs).handled = none) (ga : GA hB env.locals e it)
    (Inv : Nat → Nat → Loc → Prop)
    (turn : ∀ i d k s₁ s m T t u ep, x[i]? = some d → Inv i k m → GI hB env.locals e it x tk (i + 1) s₁ s m → (∃ oT : Obj, s.heap.get? T = some oT ∧ oT.cls = .type "tuple" ∧ oT.data = .seq [.int (i : Nat) t, .str (S [d]) u].toArray ep) → T ≠ env.locals → hB.get? T = none →
      (∀ k' s₁' s' m', Inv (i + 1) k' m' → GI hB env.locals e it x tk (i + 1) s₁' s' m' →
        Seg (model G.prog G.w) A (fun n s₀ r s₁ => r = .ok (.ret .none) ∧ gR env.locals e it n s₀ s₁) (gY hB env.locals e it items) k' s₁' (.forLoop (.Tuple elts kk tp) (.ref e) body [] env) (.pure (.again (.forLoop (.Tuple elts kk tp) (.ref e) body [] env))) fs s') →
      ∀ E, wpAny (model G.prog G.w) (A.over (.forLoop (.Tuple elts kk tp) (.ref e) body [] env) fs) (assign (.Tuple elts kk tp) env (.ref T)) (fun _ s₃ =>
          ∀ H', Seg (model G.prog G.w) A (fun n s₀ r s₁ => r = .ok (.ret .none) ∧ gR env.locals e it n s₀ s₁) (gY hB env.locals e it items) k s₁ (.forLoop (.Tuple elts kk tp) (.ref e) body [] env) ((execs body env).wrap (fun f => match f with
            | .next | .cont => .pure (.again (.forLoop (.Tuple elts kk tp) (.ref e) body [] env))
            | .brk => .pure (.done .next)
            | .ret v => .pure (.done (.ret v))) H' id id) fs s₃) E s)
    (done : ∀ k s₁ s m, Inv x.length k m → Fr hB env.locals s.heap m → gSince env.locals e it s₁ s → Seg (model G.prog G.w) A (fun n s₀ r s₁ => r = .ok (.ret .none) ∧ gR env.locals e it n s₀ s₁) (gY hB env.locals e it items) k s₁ (.forLoop (.Tuple elts kk tp) (.ref e) body [] env) (.pure (.again (.block [] env))) fs s) :
    ∀ (d i k : Nat) (s₁ s : Shared) (m : Loc), d = x.length - i → i ≤ x.length → Inv i k m → GI hB env.locals e it x tk i s₁ s m →
      Seg (model G.prog G.w) A (fun n s₀ r s₁ => r = .ok (.ret .none) ∧ gR env.locals e it n s₀ s₁) (gY hB env.locals e it items) k s₁ (.forLoop (.Tuple elts kk tp) (.ref e) body [] env) ((model G.prog G.w).den (.forLoop (.Tuple elts kk tp) (.ref e) body [] env)) fs s := by
  have W := WalksT.enumerateD (A := A.over (.forLoop (.Tuple elts kk tp) (.ref e) body [] env) fs) (drawsS G.prog G.w (A := (A.over (.forLoop (.Tuple elts kk tp) (.ref e) body [] env) fs).in1) (hh (.forLoop (.Tuple elts kk tp) (.ref e) body [] env)) it (S x) tk) e ga.ei (by simpa using ga.ei) (by simp)
  have hxs : (S x).cps.size = x.length := by simp [S]
  rw [hxs] at W
  have frK : ∀ {s : Shared} {h' : Heap} {m : Loc}, Fr hB env.locals s.heap m → (∀ b o, b ∉ [e, it] → s.heap.get? b = some o → h'.get? b = some o) → Fr hB env.locals h' m := fun {s h' m} F hk => by
    refine ⟨?_, fun b o eb => hk b o (fun hb => ?_) (F.keep b o eb), F.above⟩
    · obtain ⟨oL, es, ep, hL, r⟩ := F.ns
      refine ⟨oL, es, ep, hk _ _ (fun hb => ?_) hL, r⟩
      simp only [List.mem_cons, List.not_mem_nil, or_false] at hb
      exact hb.elim ga.Ce ga.Ci
    · simp only [List.mem_cons, List.not_mem_nil, or_false] at hb
      rcases hb with rfl | rfl
      · rw [ga.be] at eb; cases eb
      · rw [ga.bi] at eb; cases eb
  have sinceK : ∀ {s₁ s : Shared} {h' : Heap} {tk' : Nat}, gSince env.locals e it s₁ s → (∀ b o, b ∉ [e, it] → s.heap.get? b = some o → h'.get? b = some o) → gSince env.locals e it s₁ { s with heap := h', toks := tk' } := fun {s₁ s h' tk'} hs hk =>
    ⟨⟨hs.1.os, hs.1.gens, hs.1.bare⟩, fun b o h1 h2 h3 eb => hk b o (by simp [h2, h3]) (hs.2 b o h1 h2 h3 eb)⟩
  intro d
  induction d with
  | zero =>
    intro i k s₁ s m hd hi hI g
    have : i = x.length := by (first | (revert hd hi; walk_at "Z") | omega)
    subst this
    refine seg_forTurn fun E => ?_
    refine W.done s _ E ⟨g.enum, g.iter⟩ fun h' tk' hk => ?_
    exact done k s₁ _ m hI (frK g.F hk) (sinceK g.since hk)
  | succ d ih =>
    intro i k s₁ s m hd hi hI g
    have hlt : i < x.length := by (first | (revert hd; walk_at "Z") | omega)
    refine seg_forTurn fun E => ?_
    refine W.item i s _ E hlt ⟨g.enum, g.iter⟩ fun T vals h' tk' hP hTge hT hMid hk => ?_
    intro E'
    refine W.go elts kk tp i T _ _ E' hMid fun h'' hst hk2 => ?_
    intro E''
    obtain ⟨t, v, ⟨dd, u, hdd, rfl⟩, rfl⟩ := hP
    have hdd' : x[i]? = some dd := by simpa [S] using hdd
    have kk2 : ∀ b o, b ∉ [e, it] → s.heap.get? b = some o → h''.get? b = some o := fun b o hb eb => hk2 b o hb (hk b o hb eb)
    obtain ⟨oT, hoT, hcT, nT, hdT⟩ := hT
    have hTw : T ∉ [e, it] := W.apart i T _ hMid
    have hTn : ∀ b o, s.heap.get? b = some o → b ≠ T := fun b o eb q => by
      have := Heap.lt_size eb; subst q; exact absurd this (Nat.not_lt.mpr hTge)
    refine turn i dd k s₁ _ m T t u nT hdd' hI ⟨frK g.F kk2, hst.1, hst.2, sinceK g.since kk2⟩ ⟨oT, hk2 _ _ hTw hoT, hcT, hdT⟩ ?_ ?_ (fun k' s₁' s' m' hI' g' => ?_) E''
    · obtain ⟨oL, _, _, hL, _⟩ := g.F.ns
      exact fun q => hTn _ _ hL q.symm
    · cases q : hB.get? T with
      | none => rfl
      | some o => exact absurd rfl (hTn _ _ (g.F.keep _ _ q))
    · exact seg_again rfl (ih (i + 1) k' s₁' s' m' (by (first | (revert hd; walk_at "Z") | omega)) hlt hI' g')
end
section
variable {G : St} {c : Act} {n : Nat} {m : Loc} {N : Cells} {pos : Pos}
/-- two names from a pair, whatever its object -/
theorem t_pairO {x y : Str} {px py p : Pos} {k : Nat} {T : Addr} {oT : Obj} {v u : Value} {ep : Nat} {Q : Unit → Loc → Cells → Prop} (o : Ok G n c) (hm : (T, oT) ∈ N) (hc : oT.cls = .type "tuple") (hd : oT.data = .seq [v, u].toArray ep)
    (h : TW G c (storeName c.env x v) m N fun _ m₁ N₁ => TW G c (storeName c.env y u) m₁ N₁ Q) : TW G c (assign (.Tuple [.Name x px, .Name y py] k p) c.env (.ref T)) m N Q := by
  have key : TW G c (assignInOrder [assign (.Name x px) c.env, assign (.Name y py) c.env] [v, u]) m N Q := by
    refine t_inorder (t_assignN (h.mono fun _ _ _ h₁ => ?_))
    exact t_inorder (t_assignN (h₁.mono fun _ _ _ h₂ => t_inorder_nil h₂))
  refine ⟨fun s₀ s E P => ?_⟩
  rw [assign_Tuple]
  with_reducible refine wpAny_bind (wpAny_standAt ?_)
  have ht : IsTup s.heap T [v, u].toArray := ⟨_, P.N.get hm, hc, _, hd⟩
  refine unpack_tuple o.handled ht (by rfl) (by rfl) fun h' hx => ?_
  have hlt : ∀ b o, s.heap.get? b = some o → h'.get? b = some o := fun b o e => hx b o (Nat.ne_of_lt (Heap.lt_size e)) e
  exact key.out s₀ _ E (P.ext (tk := s.toks) (P.F.keeps hlt) (P.N.grown hlt))
end

theorem put_app {a : Addr} {o : Obj} : ∀ {X Y : Cells}, (∀ q ∈ X, q.1 ≠ a) → put a o (X ++ Y) = X ++ put a o Y
  | [], _, _ => rfl
  | (b, ob) :: X, Y, h => by
    show put a o ((b, ob) :: (X ++ Y)) = _
    rw [put_tail (h _ (.head _)), put_app fun q hq => h q (.tail _ hq)]; rfl
theorem foldl_take {α β : Type} {f : β → α → β} {b : β} {l : List α} {j : Nat} {y : α} (h : l[j]? = some y) : (l.take (j + 1)).foldl f b = f ((l.take j).foldl f b) y := by
  have hlt := (List.getElem?_eq_some_iff.mp h).1
  rw [List.take_add_one, List.foldl_append, h]; rfl

-- b17
theorem slot_search : Slot "re.Pattern" (Str.ofString "search") "re.Pattern.search" :=
  .of (owner := "re.Pattern") (n := "search") (by rw [typeLookup_type, builtinLookup_eq_fast]; kernel_rfl) (by decide +kernel) (by decide +kernel) (by decide +kernel)
    (by first | exact .inl (by decide +kernel) | exact .inr (by decide +kernel)) (by rw [isSubtype_type]; kernel_rfl)
theorem type_search : typeOf (.builtin "re.Pattern.search") = pure (.type "method_descriptor") := by show builtinType _ = _; rw [builtinType_eq_fast]; kernel_rfl
theorem entry_search : entryFor table "re.Pattern.search" = some Builtin.«re.Pattern.search» := entryFor_of_tree (by kernel_rfl)
theorem plain_pattern : PlainAttrs "re.Pattern" :=
  ⟨⟨"object.__getattribute__", by rw [typeLookup_type, builtinLookup_eq_fast]; kernel_rfl, by decide +kernel⟩, by rw [typeLookup_type, builtinLookup_eq_fast]; kernel_rfl⟩
theorem args_search (a b : Value) : argsOk "re.Pattern.search" ⟨[a, b], []⟩ := by unfold argsOk; kernel_rfl
def codeN : Array Nat := #[14, 10, 4, 1, 1, 22, 0, 31, 16, 127, 0, 13, 7, 22, 0, 31, 16, 127, 0, 1]
def codeV : Array Nat := #[14, 14, 4, 1, 1, 9, 4294966783, 0, 0, 2147483648, 0, 0, 0, 0, 0, 13, 11, 9, 4294966783, 0, 0, 2147483648, 0, 0, 0, 0, 0, 1]
def NoCtl (x : List Nat) : Prop := ∀ d ∈ x, 32 ≤ d ∧ d ≠ 127
open PySem.Sre in
theorem inN (d : Nat) (seen : PySem.Sre.Seen) (h : 32 ≤ d ∧ d ≠ 127) : ∃ seen', inSet codeN d codeN.size 5 true seen = .ok (false, seen') := by
  refine ⟨((seen.add 22).add 16).add 0, ?_⟩
  have e : inSet codeN d codeN.size 5 true seen = (if (decide (0 ≤ d) && decide (d ≤ 31)) = true then .ok (true, seen.add 22) else (if (d == 127) = true then .ok (true, (seen.add 22).add 16) else .ok (!true, ((seen.add 22).add 16).add 0))) := rfl
  rw [e, if_neg (by simp; (first | (revert h; walk_at "Z") | omega)), if_neg (by simp; (first | (revert h; walk_at "Z") | omega))]; rfl
open PySem.Sre in
theorem inV (d : Nat) (seen : PySem.Sre.Seen) (h : 32 ≤ d ∧ d ≠ 127) : ∃ seen', inSet codeV d codeV.size 5 true seen = .ok (false, seen') := by
  refine ⟨(seen.add 9).add 0, ?_⟩
  have e : inSet codeV d codeV.size 5 true seen = (if (decide (d < 256) && (codeV.getD (5 + (1 + d / 32)) 0).testBit (d % 32)) = true then .ok (true, seen.add 9) else .ok (!true, (seen.add 9).add 0)) := rfl
  have key : ∀ d, d < 256 → 32 ≤ d → d ≠ 127 → (codeV.getD (5 + (1 + d / 32)) 0).testBit (d % 32) = false := by decide +kernel
  have hn : ¬ ((decide (d < 256) && (codeV.getD (5 + (1 + d / 32)) 0).testBit (d % 32)) = true) := by
    by_cases hd : d < 256
    · rw [key d hd h.1 h.2]; simp
    · simp [hd]
  rw [e, if_neg hn]; rfl
open PySem.Sre in
theorem no_admit {m : M} {code : Array Nat} (hc : m.code = code) (x : List Nat) (ht : m.text = x.toArray) (hl : m.lim = x.length)
    (hin : ∀ d ∈ x, ∀ seen, ∃ seen', inSet code d code.size 5 true seen = .ok (false, seen')) : ∀ (fuel s : Nat) (seen : PySem.Sre.Seen), ∃ seen', M.admitted m fuel s seen = .ok (none, seen')
  | 0, s, seen => ⟨seen, rfl⟩
  | fuel + 1, s, seen => by
    unfold M.admitted
    by_cases h : s ≥ m.lim
    · rw [if_pos h]; exact ⟨_, rfl⟩
    · rw [if_neg h]
      have hs : s < x.length := by (first | (revert h hl; walk_at "Z") | omega)
      have e : m.text.getD s 0 = x[s] := by rw [ht]; simp [Array.getD, hs]
      obtain ⟨seen', e'⟩ := hin _ (List.getElem_mem hs) seen
      rw [e, hc, e']
      exact no_admit hc x ht hl hin fuel (s + 1) seen'
theorem from_none {m : PySem.Sre.M} (hf : m.hasFirstSet = true) (ha : ∀ fuel s seen, ∃ seen', PySem.Sre.M.admitted m fuel s seen = .ok (none, seen')) (h1 : m.outcome = none) (h2 : m.frames = []) (s : Nat) (b : Bool) :
    (m.attemptFrom s b).outcome = none ∧ (m.attemptFrom s b).answer = some false ∧ (m.attemptFrom s b).frames = [] := by
  unfold PySem.Sre.M.attemptFrom
  rw [hf, if_neg (by simp)]
  obtain ⟨seen', e⟩ := ha (m.lim + 1 - s) s m.seen
  rw [e]
  exact ⟨h1, rfl, h2⟩
open PySem.Sre in
theorem search_none {code : Array Nat} {x : List Nat} {lim : Nat} (hlim : lim = x.length) (h2 : code.getD 2 0 = 4) (h0 : ops[code.getD 0 0]? = some .INFO)
    (hin : ∀ d ∈ x, ∀ seen, ∃ seen', inSet code d code.size 5 true seen = .ok (false, seen')) :
    (forSearch code x.toArray 0 0 lim false).outcome = none ∧ (forSearch code x.toArray 0 0 lim false).answer = some false ∧ (forSearch code x.toArray 0 0 lim false).frames = [] := by
  subst hlim
  unfold forSearch
  dsimp only
  split
  · exact ⟨rfl, rfl, rfl⟩
  · refine from_none ?_ (no_admit (code := code) rfl x rfl rfl hin) rfl rfl 0 true
    unfold M.hasFirstSet
    dsimp only
    show ((match ops[code.getD 0 0]? with | some Op.INFO => true | x => false) && code.getD 2 0 == 4) = true
    rw [h2, h0]; rfl
theorem run_none {m : PySem.Sre.M} (h1 : m.outcome = none) (h2 : m.answer = some false) (h3 : m.frames = []) : (m.runFor 4).outcome = some .failed := by
  have e1 : m.step = { m with outcome := some .failed } := by
    unfold PySem.Sre.M.step
    rw [h1, h2, h3]; rfl
  unfold PySem.Sre.M.runFor
  rw [h1, e1]
  rfl
section
variable {prog : Program} {w : World} {A : Around} {E : Value → Shared → Prop} {s : Shared}
theorem rules_for {f : Nat → Bool} {g : Nat → String} {Q : PUnit → Shared → Prop} (h : Q PUnit.unit s) : ∀ l : List Nat, wpAny (model prog w) A (forIn l PUnit.unit fun i _ => (if f i = true then do
        rule (g i)
        pure (ForInStep.yield PUnit.unit)
      else pure (ForInStep.yield PUnit.unit) : Sem (ForInStep PUnit))) Q E s := by
  intro l
  induction l with
  | nil => exact wpAny_pure h
  | cons i r ih =>
    simp only [List.forIn_cons]
    refine wpAny_bind ?_
    by_cases q : f i = true
    · rw [if_pos q]; exact wpAny_bind (wpAny_rule (wpAny_pure ih))
    · rw [if_neg q]; exact wpAny_pure ih
theorem drive_none {m : PySem.Sre.M} {Q : Option PySem.Sre.M → Shared → Prop} (h1 : m.outcome = none) (h2 : m.answer = some false) (h3 : m.frames = []) (h : Q none s) : wpAny (model prog w) A (PySem.Builtin.Re.reRunToEnd m) Q E s := by
  have hr := run_none h1 h2 h3
  unfold PySem.Builtin.Re.reRunToEnd
  refine wpAny_bind (m := PySem.Builtin.Re.reDrive (2 ^ 64) m) (wpAny_of_eq (a := m.runFor 4) ?_ ?_)
  · show PySem.Builtin.Re.reDrive (18446744073709551615 + 1) m = _
    unfold PySem.Builtin.Re.reDrive
    show (if (m.runFor 4).outcome.isSome = true then pure (m.runFor 4) else _) = _
    rw [hr]; rfl
  · generalize m.runFor 4 = m' at hr
    refine wpAny_bind (rules_for ?_ _)
    rw [hr]
    exact wpAny_pure h
theorem call_search {P C : Addr} {fs its : Array Value} {k : Nat} {code : Array Nat} {oc : Value} {od : Option Addr} {osl sl : Array (Option Value)} {x : List Nat} {t : Tok} {Q : Value → Shared → Prop}
    (hP : s.heap.get? P = some ⟨.type "re.Pattern", none, .fields fs, osl⟩) (hC : s.heap.get? C = some ⟨oc, od, .seq its k, sl⟩) (h5 : fs.getD 5 .none = .ref C) (h6 : PySem.Builtin.Re.reRawNat (fs.getD 6 .none) = 0) (h2 : PySem.Builtin.Re.reRawNat (fs.getD 2 .none) = 0)
    (hcode : (its.map PySem.Builtin.Re.reRawOf).map (·.toNat) = code) (hx : x.length ≤ 16777216) (hn : ∀ lim, lim = x.length → (PySem.Sre.forSearch code x.toArray 0 0 lim false).outcome = none ∧ (PySem.Sre.forSearch code x.toArray 0 0 lim false).answer = some false ∧ (PySem.Sre.forSearch code x.toArray 0 0 lim false).frames = [])
    (h : Q .none s) : wpAny (model prog w) A (call (.builtin "re.Pattern.search") [.ref P, .str (S x) t]) Q E s := by
  refine wpAny_call_entry slot_search ⟨_, hP, rfl⟩ entry_search ?_ (args_search _ _)
  unfold PySem.Builtin.«re.Pattern.search»
  refine wpAny_bind ?_
  unfold PySem.Builtin.Re.reTarget
  refine wpAny_bind (wpAny_of_eq (a := [some (.str (S x) t), none, none]) (by rfl) ?_)
  dsimp only
  refine wpAny_bind (wpAny_pure (wpAny_bind (wpAny_pure (wpAny_bind (wpAny_fieldsOf hP rfl ?_)))))
  refine wpAny_bind (wpAny_of_eq (a := (x.toArray, 0)) (by rfl) ?_)
  dsimp only
  rw [h6]
  refine wpAny_ite_split (fun q => absurd q (by decide)) fun _ => wpAny_ite_split (fun q => absurd q (by decide)) fun _ => ?_
  refine wpAny_bind (m := PySem.Builtin.Re.reNoCollectionInside _ 0) (wpAny_of_eq (a := ()) (by rfl) ?_)
  rw [h5]
  refine wpAny_bind (m := PySem.Builtin.Re.reRawItems (.ref C)) ?_
  unfold PySem.Builtin.Re.reRawItems
  refine wpAny_bind (wpAny_seqItems hC rfl (wpAny_pure (wpAny_pure ?_)))
  have e1 : (some its).getD #[] = its := rfl
  have e2 : min (Int.toNat 0) x.toArray.size = 0 := by simp
  have e3 : min ((2 : Int) ^ 63 - 1).toNat x.toArray.size = x.length := by
    have : ((2 : Int) ^ 63 - 1).toNat = 9223372036854775807 := by decide
    rw [this, List.size_toArray]; (first | (revert hx; walk_at "Z") | omega)
  rw [e1, hcode, h2, e2, e3]
  obtain ⟨a1, a2, a3⟩ := hn _ rfl
  refine wpAny_bind (drive_none a1 a2 a3 ?_)
  exact wpAny_pure ⟨_, rfl, h⟩
end
section
variable {G : St} {c : Act} {n : Nat} {m : Loc} {N : Cells}
/-- a pattern of the heap that stands, asked for a text that has no sign of its own -/
theorem g_search {P : Addr} {fs : Array Value} {osl : Array (Option Value)} {pos : Pos} {args : List Expr} {pl : Sem Bool} {Q : Value → Loc → Cells → Prop} (o : Ok G n c) (hP : G.K.lookup P = some ⟨.type "re.Pattern", none, .fields fs, osl⟩)
    (h : TW G c (callWith pos (.builtin "re.Pattern.search") [.ref P] (backTo pos (starEach args c.env)) []) m N Q) : TW G c (getMethod (.ref P) (Str.ofString "search") pl) m N (MethQ G c pos args Q) :=
  ⟨fun s₀ s E Pr => by
    have X := Pr.K o _ _ hP
    exact getMethod_builtin (T := "re.Pattern") ⟨_, X, rfl⟩ plain_pattern slot_search type_search (fun a e => by cases e; exact ⟨_, X, rfl⟩) ⟨m, N, Pr, h⟩⟩
theorem a_searchN {P C : Addr} {fs its : Array Value} {k : Nat} {oc : Value} {od : Option Addr} {osl sl : Array (Option Value)} {x : List Nat} {t : Tok} {Q : Value → Loc → Cells → Prop} (o : Ok G n c)
    (hP : G.K.lookup P = some ⟨.type "re.Pattern", none, .fields fs, osl⟩) (hC : G.K.lookup C = some ⟨oc, od, .seq its k, sl⟩) (h5 : fs.getD 5 .none = .ref C) (h6 : PySem.Builtin.Re.reRawNat (fs.getD 6 .none) = 0) (h2 : PySem.Builtin.Re.reRawNat (fs.getD 2 .none) = 0)
    (hcode : (its.map PySem.Builtin.Re.reRawOf).map (·.toNat) = codeN ∨ (its.map PySem.Builtin.Re.reRawOf).map (·.toNat) = codeV) (hx : x.length ≤ 16777216) (hn : NoCtl x) (h : Q .none m N) :
    TW G c (call (.builtin "re.Pattern.search") [.ref P, .str (S x) t]) m N Q :=
  ⟨fun s₀ s E Pr => by
    have X := Pr.K o
    rcases hcode with hc | hc
    · exact call_search (X _ _ hP) (X _ _ hC) h5 h6 h2 hc hx (fun lim e => search_none e rfl rfl fun d hd seen => inN d seen (hn d hd)) ⟨m, N, Pr, h⟩
    · exact call_search (X _ _ hP) (X _ _ hC) h5 h6 h2 hc hx (fun lim e => search_none e rfl rfl fun d hd seen => inV d seen (hn d hd)) ⟨m, N, Pr, h⟩⟩
end

-- b18
section
variable {G : St} {c : Act} {n : Nat} {m : Loc} {N : Cells} {pos : Pos}

theorem code_call {name qual : Str} {params : Arguments} {body : List Stmt} {scope : Scope} {dV kV doc pm cdv ct oc : Value} {an od : Option Addr} {osl : Array (Option Value)} {f : Addr} {args : List Value} {kw : List (Str × Value)} (binds : List (Str × Value)) {Q : Value → Loc → Cells → Prop}
    (o : Ok G (n + 1) c)
    (ho : G.K.lookup f = some ⟨oc, od, .func (fnOf name qual params body scope dV kV doc pm an cdv ct), osl⟩) (hcd : codeIn G.K cdv qual = true)
    (hbind : ∀ s : Shared, G.K.In s.heap → BindsTo s (fnOf name qual params body scope dV kV doc pm an cdv ct) ⟨args, kw⟩ binds)
    (hloc : ∀ y ∈ binds, scope.names.lookup y.1 = some .local) (hcell : ∀ x ∈ scope.names, x.2 ≠ .cell)
    (hco : scope.isCoroutine = false) (hgen : scope.isGenerator = false) (hk : scope.kind = .function) (hnd : ndup binds = true)
    (h : ∀ (c' : Act) (m' : Loc), c'.env.scope = scope → Ok G n c' → Has m' binds → TW G c' (execs body c'.env) m' N (fun fl _ N' => ∃ N'', (∀ p ∈ N'', p ∈ N') ∧ Q (retOf fl) m N''))
    {s₀ s : Shared} (P : Pre c m N s₀ s) :
    codeAny (model G.prog G.w) c.A (.call (.ref f) ⟨args, kw⟩) (fun r s' => ∃ v m' N', r = .ok (.ret v) ∧ Pre c m' N' s₀ s' ∧ Q v m' N') s := by
  obtain ⟨st, sub, back⟩ := ground P
  have X := P.K o
  refine codeAny_call_def (fd := fnOf name qual params body scope dV kV doc pm an cdv ct) (body := body) (binds := binds) o.room (X _ _ ho) rfl (o.T.nolimit.keeps P.F.keep) (codeRec_of X hcd) rfl (hbind s X) hcell hloc (fun h₁ hns hk₁ => ?_) hco hgen hk
  have O := okDeeper (env := callEnv (fnOf name qual params body scope dV kV doc pm an cdv ct) s.heap.objs.size f) o st hk rfl rfl
  have W := h ⟨c.A.deeper _, callEnv (fnOf name qual params body scope dV kV doc pm an cdv ct) s.heap.objs.size f, hideAll s.heap (N.map (·.1))⟩ _ rfl O (Has.binds (ndup_nodup hnd))
  have P' : Pre ⟨c.A.deeper (callEnv (fnOf name qual params body scope dV kV doc pm an cdv ct) s.heap.objs.size f), callEnv (fnOf name qual params body scope dV kV doc pm an cdv ct) s.heap.objs.size f, hideAll s.heap (N.map (·.1))⟩ (fun y => binds.reverse.lookup y) N s₀ { s with heap := h₁, toks := s.toks + binds.length } :=
    ⟨⟨hns, fun b o e => hk₁ b o (sub b o e), Nat.le_of_eq (hideAll_size _ _)⟩,
     fun p hp => ⟨hk₁ _ _ (P.N p hp).1, Nat.ne_of_lt (Heap.lt_size (P.N p hp).1), hideAll_none _ (List.mem_map_of_mem hp)⟩, ⟨P.R.os, P.R.gens, P.R.bare⟩⟩
  exact wpAny_mono (W.out _ _ _ P') (fun fl s' ⟨m', N', p', N'', hs, q⟩ => ⟨_, m, N'', rfl, (back p'.F p'.N p'.R).sub hs, q⟩) fun _ _ e => e

/-- a def with ** -/
theorem t_callKW {name qual : Str} {params : Arguments} {body : List Stmt} {scope : Scope} {dV kV doc pm cdv ct oc : Value} {an od : Option Addr} {osl : Array (Option Value)} {f : Addr} {args : List Value} {kw : List (Str × Value)} (binds : Addr → List (Str × Value)) {Q : Value → Loc → Cells → Prop}
    (o : Ok G (n + 1) c)
    (ho : G.K.lookup f = some ⟨oc, od, .func (fnOf name qual params body scope dV kV doc pm an cdv ct), osl⟩) (hcd : codeIn G.K cdv qual = true)
    (hbind : bindArgs (fnOf name qual params body scope dV kV doc pm an cdv ct) ⟨args, kw⟩ = (do let d ← alloc { cls := .type "dict", data := .dict #[] }; pure (binds d)))
    (hloc : ∀ d, ∀ y ∈ binds d, scope.names.lookup y.1 = some .local) (hcell : ∀ x ∈ scope.names, x.2 ≠ .cell)
    (hco : scope.isCoroutine = false) (hgen : scope.isGenerator = false) (hk : scope.kind = .function) (hnd : ∀ d, ndup (binds d) = true)
    (h : ∀ (c' : Act) (m' : Loc) (d : Addr), c'.env.scope = scope → Ok G n c' → Has m' (binds d) → Fresh d N → (d == sysModules) = false → TW G c' (execs body c'.env) m' ((d, W.dictOf [] 0) :: N) (fun fl _ N' => ∃ N'', (∀ p ∈ N'', p ∈ N') ∧ Q (retOf fl) m N'')) :
    TW G c (call (.ref f) args kw) m N Q := TW.drop ⟨fun s₀ s E P => by
  have X := P.K o
  with_reducible refine wpAny_call ?_
  have hf : Fresh s.heap.objs.size N := news_fresh P.N
  have P1 : Pre c m ((s.heap.objs.size, W.dictOf [] 0) :: N) s₀ { s with heap := s.heap.push (W.dictOf [] 0) } := P.ext (tk := s.toks) (P.F.push _) (P.N.push P.F _)
  obtain ⟨st, sub, back⟩ := ground P1
  have X1 := P1.K o
  refine codeAny_call_function (fd := fnOf name qual params body scope dV kV doc pm an cdv ct) (body := body) o.room (X _ _ ho) rfl hco hgen rfl (codeRec_of X hcd) ?_
  rw [hbind]
  refine wpAny_bind (wpAny_alloc (wpAny_pure ?_))
  refine wpAny_newFunctionEnv hcell (hloc _) (fun h₁ hns hsb => ⟨(o.T.nolimit.keeps P1.F.keep).keeps ?_, codeAny_func ?_⟩) hk
  · exact fun b o' e => hsb.extBut b o' (Nat.ne_of_lt (Heap.lt_size e)) (Heap.get?_push_of_some _ e)
  have hk₁ : ∀ b o', (s.heap.push (W.dictOf [] 0)).get? b = some o' → h₁.get? b = some o' := fun b o' e => hsb.extBut b o' (Nat.ne_of_lt (Heap.lt_size e)) (Heap.get?_push_of_some _ e)
  have O := okDeeper (env := callEnv (fnOf name qual params body scope dV kV doc pm an cdv ct) (s.heap.push (W.dictOf [] 0)).objs.size f) o st hk rfl rfl
  have W := h ⟨c.A.deeper _, callEnv (fnOf name qual params body scope dV kV doc pm an cdv ct) (s.heap.push (W.dictOf [] 0)).objs.size f, hideAll (s.heap.push (W.dictOf [] 0)) (((s.heap.objs.size, W.dictOf [] 0) :: N).map (·.1))⟩ _ _ rfl O (Has.binds (ndup_nodup (hnd _))) hf (by
    have := modules_low (o.T.nolimit.keeps P.F.keep)
    exact beq_eq_false_iff_ne.mpr (Nat.ne_of_gt this))
  refine wpAny_mono (W.out s₀ _ _ ⟨⟨hns, fun b o e => hk₁ b o (sub b o e), Nat.le_of_eq (hideAll_size _ _)⟩,
     fun p hp => ⟨hk₁ _ _ (P1.N p hp).1, Nat.ne_of_lt (Heap.lt_size (P1.N p hp).1), hideAll_none _ (List.mem_map_of_mem hp)⟩, ⟨P1.R.os, P1.R.gens, P1.R.bare⟩⟩) (fun fl s' ⟨m', N', p', q⟩ => ⟨m, N', back p'.F p'.N p'.R, q⟩) fun _ _ e => e⟩

theorem okUnder {C : Addr} {args : List Value} {kw : List (Str × Value)} (o : Ok G (n + 1) c) : Ok G n ⟨c.A.under (.builtin "type.__call__" ⟨.ref C :: args, kw⟩), c.env, c.h₀⟩ :=
  ⟨o.X, o.T, by have := o.depth; have e : (c.A.under (.builtin "type.__call__" ⟨.ref C :: args, kw⟩)).depth = c.A.depth + 1 := rfl; show (c.A.under (.builtin "type.__call__" ⟨.ref C :: args, kw⟩)).depth + 4 * n < 1000; (first | (revert e this; walk_at "Z") | omega),
    by have := o.units; have e : (c.A.under (.builtin "type.__call__" ⟨.ref C :: args, kw⟩)).units = c.A.units + 1 := rfl; show (c.A.under (.builtin "type.__call__" ⟨.ref C :: args, kw⟩)).units + 20 * n < 9000; (first | (revert e this; walk_at "Z") | omega), o.handled, o.kind, o.glob, o.bui⟩
/-- a class of the heap that stands, called: its __init__ gives None -/
theorem t_make {C : Addr} {name qual : Str} {params : Arguments} {body : List Stmt} {scope : Scope} {dV kV doc pm cdv ct oc : Value} {an od : Option Addr} {osl : Array (Option Value)} {f : Addr} {args : List Value} {kw : List (Str × Value)} (binds : Addr → List (Str × Value)) {Q : Value → Loc → Cells → Prop}
    (o : Ok G (n + 2) c) (hm : makesIn G.K C = true) (hi : findIn G.K (.ref C) "__init__" = some (some (.ref f))) (hf : isFn G.K (.ref f) = true)
    (ho : G.K.lookup f = some ⟨oc, od, .func (fnOf name qual params body scope dV kV doc pm an cdv ct), osl⟩) (hcd : codeIn G.K cdv qual = true)
    (hbind : ∀ x, ∀ s : Shared, G.K.In s.heap → BindsTo s (fnOf name qual params body scope dV kV doc pm an cdv ct) ⟨.ref x :: args, kw⟩ (binds x))
    (hloc : ∀ x, ∀ y ∈ binds x, scope.names.lookup y.1 = some .local) (hcell : ∀ x ∈ scope.names, x.2 ≠ .cell)
    (hco : scope.isCoroutine = false) (hgen : scope.isGenerator = false) (hk : scope.kind = .function) (hnd : ∀ x, ndup (binds x) = true)
    (h : ∀ (c' : Act) (m' : Loc) (x dx : Addr), c'.env.scope = scope → Ok G n c' → Has m' (binds x) → Fresh x N → Fresh dx N → dx ≠ x →
      TW G c' (execs body c'.env) m' ((x, instObj C dx) :: (dx, W.dictOf [] 0) :: N) (fun fl _ N' => ∃ N'', (∀ p ∈ N'', p ∈ N') ∧ retOf fl = .none ∧ Q (.ref x) m N'')) :
    TW G c (call (.ref C) args kw) m N Q := ⟨fun s₀ s E P => by
  have X := P.K o
  refine call_cls P.F o.X P.N hm hi hf fun x dx h' F1 N1 hd hx => ?_
  have zx := N1 _ (.head _)
  have P1 : Pre ⟨c.A.under (.builtin "type.__call__" ⟨.ref C :: args, kw⟩), c.env, c.h₀⟩ m ((x, instObj C dx) :: (dx, W.dictOf [] 0) :: N) s₀ { s with heap := h' } := ⟨F1, N1, ⟨P.R.os, P.R.gens, P.R.bare⟩⟩
  have hfx : Fresh x N := fun p hp e => Nat.lt_irrefl _ (Nat.lt_of_lt_of_eq (Nat.lt_trans (hd p hp) hx) e.symm)
  have hfd : Fresh dx N := fun p hp e => Nat.lt_irrefl _ (Nat.lt_of_lt_of_eq (hd p hp) e.symm)
  refine codeAny_mono (code_call (c := ⟨c.A.under (.builtin "type.__call__" ⟨.ref C :: args, kw⟩), c.env, c.h₀⟩) (Q := fun v m₁ N₁ => v = .none ∧ Q (.ref x) m₁ N₁) (m := m) (binds x) (okUnder (n := n + 1) o) ho hcd (hbind x) (hloc x) hcell hco hgen hk (hnd x) (fun c' m' hs o' hL => h c' m' x dx hs o' hL hfx hfd (Nat.ne_of_lt hx)) P1) ?_
  rintro r s' ⟨v, m', N', rfl, p', rfl, q⟩
  exact ⟨rfl, m', N', ⟨p'.F, p'.N, p'.R⟩, q⟩⟩

/-- an instance of the class C: its object and its dict, whose entries are es -/
structure InsIs (C x dx : Addr) (es : List DictEntry) (k : Nat) (N : Cells) : Prop where
  ob : (x, instObj C dx) ∈ N
  dict : (dx, W.dictOf es k) ∈ N
theorem InsIs.tail {C x dx : Addr} {es : List DictEntry} {k : Nat} {N : Cells} {p : Addr × Obj} (I : InsIs C x dx es k N) : InsIs C x dx es k (p :: N) := ⟨.tail _ I.ob, .tail _ I.dict⟩
theorem InsIs.at {C x dx : Addr} {es : List DictEntry} {k : Nat} {h₀ h : Heap} {L : Addr} (I : InsIs C x dx es k N) (N' : News h₀ L h N) : W.InstAt h x (instObj C dx) C (some (W.dictOf es k)) := InstAt.of_news N' I.ob I.dict

theorem t_attr {e : Expr} {attr : Str} {Q : Value → Loc → Cells → Prop} (h : TW G c (eval e c.env) m N fun a m₁ N₁ => TW G c (getAttr a attr true) m₁ N₁ Q)
    (he : eval (.Attribute e attr pos) c.env = (do
      let o ← eval e c.env
      standAt pos.atName
      let r ← holding [o] (getAttr o attr true)
      letTemporaryGo e o r
      pure r)) (hg : ∀ a r, letTemporaryGo e a r = pure ()) : TW G c (eval (.Attribute e attr pos) c.env) m N Q := ⟨fun s₀ s E P => by
  rw [he]
  refine wpAny_bind (wpAny_mono (h.out s₀ s E P) (fun a s₁ ⟨_, _, p₁, q₁⟩ => wpAny_bind (wpAny_standAt (wpAny_bind (wpAny_holding (wpAny_mono (q₁.out s₀ s₁ E p₁) (fun r s₂ h₂ => ?_) fun _ _ y => y))))) fun _ _ y => y)
  rw [hg]
  exact wpAny_bind (wpAny_pure (wpAny_pure h₂))⟩
theorem a_attr {C x dx : Addr} {es : List DictEntry} {k : Nat} {name : Str} {v : Value} {attr : Option Value} {b : Bool} {Q : Value → Loc → Cells → Prop} (o : Ok G n c) (I : InsIs C x dx es k N) (hg : plainGet G.K C name = true) (hh : hasDictIn G.K C = true)
    (ha : findIn G.K (.ref C) name = some attr) (hn : noGet G.K attr = true) (hl : getL name es = some (some v)) (hv : handedIn v = true) (h : Q v m N) : TW G c (getAttr (.ref x) name b) m N Q :=
  .raw0 fun s E Q' F N' q => by with_reducible exact get_own F o.X (I.at N') hg hh ha hn hl hv (q _ _ h)
theorem g_inst {C x dx f : Addr} {es : List DictEntry} {k : Nat} {name : Str} {pl : Sem Bool} {Q : Value × List Value → Loc → Cells → Prop} (o : Ok G n c) (I : InsIs C x dx es k N) (hg : plainGet G.K C name = true)
    (hf : findIn G.K (.ref C) name = some (some (.ref f))) (ht : isFn G.K (.ref f) = true) (hl : getL name es = some none) (h : Q (.ref f, [.ref x]) m N) : TW G c (getMethod (.ref x) name pl) m N Q :=
  .raw0 fun s E Q' F N' q => by with_reducible exact method_inst F o.X (I.at N') hg hf ht hl (q _ s.toks h)
theorem m_inst {C x dx f : Addr} {es : List DictEntry} {k : Nat} {name : Str} {pl : Sem Bool} {args : List Expr} {Q : Value → Loc → Cells → Prop} (o : Ok G n c) (I : InsIs C x dx es k N) (hg : plainGet G.K C name = true)
    (hf : findIn G.K (.ref C) name = some (some (.ref f))) (ht : isFn G.K (.ref f) = true) (hl : getL name es = some none) (h : TW G c (callWith pos (.ref f) [.ref x] (backTo pos (starEach args c.env)) []) m N Q) : TW G c (getMethod (.ref x) name pl) m N (MethQ G c pos args Q) :=
  g_inst o I hg hf ht hl h
abbrev MethQK (G : St) (c : Act) (pos : Pos) (args : List Expr) (kws : List Keyword) (Q : Value → Loc → Cells → Prop) : Value × List Value → Loc → Cells → Prop :=
  fun fx m₂ N₂ => TW G c (callWith pos fx.1 fx.2 (backTo pos (starEach args c.env)) (backToKw pos (keywordEach kws c.env))) m₂ N₂ Q
theorem mk_inst {C x dx f : Addr} {es : List DictEntry} {k : Nat} {name : Str} {pl : Sem Bool} {args : List Expr} {kws : List Keyword} {Q : Value → Loc → Cells → Prop} (o : Ok G n c) (I : InsIs C x dx es k N) (hg : plainGet G.K C name = true)
    (hf : findIn G.K (.ref C) name = some (some (.ref f))) (ht : isFn G.K (.ref f) = true) (hl : getL name es = some none) (h : TW G c (callWith pos (.ref f) [.ref x] (backTo pos (starEach args c.env)) (backToKw pos (keywordEach kws c.env))) m N Q) : TW G c (getMethod (.ref x) name pl) m N (MethQK G c pos args kws Q) :=
  g_inst o I hg hf ht hl h
theorem t_setattr {e v : Expr} {attr : Str} {p' : Pos} {Q : Flow → Loc → Cells → Prop}
    (h : TW G c (eval v c.env) m N fun x m₁ N₁ => TW G c (eval e c.env) m₁ N₁ fun a m₂ N₂ => TW G c (setAttr a attr x) m₂ N₂ fun _ m₃ N₃ => Q .next m₃ N₃)
    (hs : swapsWith v (some (.Attribute e attr p')) pos.line c.env = pure false) : TW G c (exec (.Assign [.Attribute e attr p'] v pos) c.env) m N Q :=
  ⟨fun s₀ s E P => by
    with_reducible exact plainObj_wpAny_Assign_Attribute (wpAny_mono (h.out s₀ s E P) (fun _ s₁ ⟨_, _, p₁, q₁⟩ => wpAny_mono (q₁.out s₀ s₁ E p₁) (fun _ s₂ ⟨_, _, p₂, q₂⟩ => q₂.outf (f := fun _ => Flow.next) p₂) fun _ _ e => e) fun _ _ e => e) hs⟩
/-- the first attribute of a fresh instance -/
theorem a_setattr1 {C x dx : Addr} {name : Str} {v : Value} {Q : Unit → Loc → Cells → Prop} (o : Ok G n c) (hF : Fresh dx N) (hne : dx ≠ x)
    (hs : findIn G.K (.ref C) "__setattr__" = some (some (.builtin "object.__setattr__"))) (hp : plainOver G.K C = true) (ht : takerIn G.K C name = some none) (hh : hasDictIn G.K C = true)
    (h : ∀ hsh t, Q () m ((x, instObj C dx) :: (dx, W.dictOf [⟨hsh, .str name t, v⟩] 1) :: N)) : TW G c (setAttr (.ref x) name v) m ((x, instObj C dx) :: (dx, W.dictOf [] 0) :: N) Q :=
  .raw fun s E Q' F N' q => by
    have I : W.InstAt s.heap x (instObj C dx) C (some (W.dictOf [] 0)) := InstAt.of_news N' (.head _) (.tail _ (.head _))
    refine set_dict (dx := dx) (es' := [⟨_, .str name (s.toks + 1), v⟩]) (n' := 1) (news' := (x, instObj C dx) :: (dx, W.dictOf [⟨_, .str name (s.toks + 1), v⟩] 1) :: N) F o.X N' I rfl hs hp ht hh rfl rfl (.tail (Ne.symm hne) (.head hF)) (by simp) fun h' F1 N1 => ?_
    exact q _ h' _ _ _ F1 N1 (h _ _)
theorem o_notinI {C x dx f : Addr} {es : List DictEntry} {k : Nat} {v : Value} {Q : Value → Loc → Cells → Prop} (o : Ok G n c) (I : InsIs C x dx es k N) (hs : findIn G.K (.ref C) "__contains__" = some (some (.ref f))) (hf : isFn G.K (.ref f) = true)
    (h : TW G c (call (.ref f) [.ref x, v]) m N fun r m₁ N₁ => TW G c (truthy r) m₁ N₁ fun b m₂ N₂ => Q (.bool (!b)) m₂ N₂) : TW G c (compareOp .NotIn v (.ref x)) m N Q := ⟨fun s₀ s E P => by
  have J := I.at P.N
  with_reducible exact notIn_K P.F o.X J hs hf (wpAny_mono (h.out s₀ s E P) (fun _ s₁ ⟨_, _, p₁, q₁⟩ => q₁.outf (f := fun b => Value.bool (!b)) p₁) fun _ _ e => e)⟩
-- calls with names
theorem t_MethKW {ob : Expr} {name : Str} {apos : Pos} {args : List Expr} {kws : List Keyword} {pl : Sem Bool} {Q : Value → Loc → Cells → Prop}
    (h : TW G c (eval ob c.env) m N fun ov m₁ N₁ => TW G c (getMethod ov name pl) m₁ N₁ (MethQK G c pos args kws Q))
    (he : eval (.Call (.Attribute ob name apos) args kws pos) c.env = (do
      let ov ← eval ob c.env
      standAt apos.atName
      let (f, first) ← holding [ov] (getMethod ov name pl)
      callWith pos f first (backTo pos (starEach args c.env)) (backToKw pos (keywordEach kws c.env)))) :
    TW G c (eval (.Call (.Attribute ob name apos) args kws pos) c.env) m N Q :=
  ⟨fun s₀ s E P => by with_reducible exact methodCall_KW (wpAny_mono (h.out s₀ s E P) (fun _ s₁ ⟨_, _, p₁, q₁⟩ => wpAny_mono (q₁.out s₀ s₁ E p₁) (fun _ s₂ ⟨_, _, p₂, q₂⟩ => q₂.out s₀ s₂ E p₂) fun _ _ e => e) fun _ _ e => e) he⟩
/-- one name among the arguments -/
theorem t_cwK1 {f : Value} {first : List Value} {e ke : Expr} {rest : List Expr} {kn : Str} {kp : Pos} {Q : Value → Loc → Cells → Prop} (o : Ok G n c) (hk : keepIn G.K f = true)
    (h : TW G c (spliced (backTo pos (starEach (e :: rest) c.env))) m N fun vs m₁ N₁ => TW G c (eval ke c.env) m₁ N₁ fun kv m₂ N₂ => TW G c (call f (first ++ vs) [(kn, kv)]) m₂ N₂ Q)
    (he : starEach (e :: rest) c.env = (false, eval e c.env) :: starEach rest c.env) (hplain : ((backTo pos (starEach (e :: rest) c.env)).any (·.1)) = false) :
    TW G c (callWith pos f first (backTo pos (starEach (e :: rest) c.env)) (backToKw pos (keywordEach [⟨some kn, ke, kp⟩] c.env))) m N Q :=
  ⟨fun s₀ s E P => by
    refine callWith_KW o.X hk (by rfl) (wpAny_mono (h.out s₀ s E P) ?_ fun _ _ e => e) (by rw [hplain]; rfl) he
    rintro vs s₁ ⟨_, _, p₁, q₁⟩
    refine kws_cons (wpAny_mono (q₁.out s₀ s₁ E p₁) ?_ fun _ _ e => e)
    rintro kv s₂ ⟨_, _, p₂, q₂⟩
    exact kws_nil ⟨p₂.K o, q₂.out s₀ s₂ E p₂⟩⟩
end

-- b19
section
variable {G : St} {c : Act} {n : Nat} {m : Loc} {N : Cells} {pos : Pos}
abbrev viewOf (d : Addr) : Obj := { cls := .type "dict_items", data := .fields #[.ref d] }
theorem dict0 {prog : Program} {w : World} {h₀ h : Heap} {L d : Addr} {k : Nat} {N : Cells} (N' : News h₀ L h N) (hm : (d, W.dictOf [] k) ∈ N) : h.DictAt (strKind prog w) d [] k :=
  ⟨_, _, N'.get hm, ⟨rfl, rfl, rfl⟩, rfl, fun e he => by simp at he, .nil, List.nodup_nil⟩
theorem a_items {d : Addr} {k : Nat} {Q : Value → Loc → Cells → Prop} (hm : (d, W.dictOf [] k) ∈ N) (hd : (d == sysModules) = false) (h : ∀ v, Fresh v N → Q (.ref v) m ((v, viewOf d) :: N)) : TW G c (call (.builtin "dict.items") [.ref d]) m N Q :=
  .raw fun s E Q' F N' q => by
    have D := dict0 (prog := G.prog) (w := G.w) N' hm
    exact call_meetsIn PySem.F.slot_dict_items D.dictOf.typeIs PySem.F.entry_dict_items (PySem.F.args_dict_items_1 _) (meets_dict_items (strKind G.prog G.w) d hd) ⟨⟨_, D.dictOf⟩, q _ _ s.toks _ _ (F.push _) (N'.push F _) (h _ (news_fresh N'))⟩
theorem g_items {d : Addr} {k : Nat} {pl : Sem Bool} {args : List Expr} {Q : Value → Loc → Cells → Prop} (hm : (d, W.dictOf [] k) ∈ N) (h : TW G c (callWith pos (.builtin "dict.items") [.ref d] (backTo pos (starEach args c.env)) []) m N Q) :
    TW G c (getMethod (.ref d) (Str.ofString "items") pl) m N (MethQ G c pos args Q) :=
  ⟨fun s₀ s E P => getMethod_builtin (T := "dict") ⟨_, P.N.get hm, rfl⟩ PySem.F.plainAttrs_dict PySem.F.slot_dict_items PySem.F.type_dict_items (fun a e => by cases e; exact ⟨_, P.N.get hm, rfl⟩) ⟨m, N, P, h⟩⟩
theorem for_items0 {target : Expr} {body : List Stmt} {v d : Addr} {k : Nat} {Q : Flow → Loc → Cells → Prop} (o : Ok G n c) (hv : (v, viewOf d) ∈ N) (hm : (d, W.dictOf [] k) ∈ N) (h : Q .next m N) : ForW G c target body (.ref v) m N Q := ⟨fun s₀ s E P => by
  have D := dict0 (prog := G.prog) (w := G.w) P.N hm
  refine wpAny_pyIter_items (knd := strKind G.prog G.w) ⟨_, P.N.get hv, rfl, rfl⟩ D ?_
  have hf := news_fresh P.N
  refine codeAny_forLoop_any (fun _ s' => Pre c m ((s.heap.objs.size, { cls := .type "dict_itemiterator", data := .fields #[.none, .bool false, .ref d, .int 0 0, .int (([] : List (Str × Value)).length) 0, .int k 0, .none, .none] }) :: N) s₀ s') ?_ 0 (P.ext (tk := s.toks) (P.F.push _) (P.N.push P.F _))
  rintro _ s' P'
  refine wpAny_pyNext_items_end (knd := strKind G.prog G.w) (kvs := []) (i := 0) o.handled (P'.N.get (.head _)) (dict0 P'.N (.tail _ hm)) rfl fun h' hx => ?_
  obtain ⟨F1, N1⟩ := news_ext P'.F P'.N hf hx
  exact wpAny_execs_nil ⟨_, _, _, rfl, P'.ext (tk := s'.toks) F1 N1, h⟩⟩
/-- a list of one text, joined -/
theorem a_join1 {D : Addr} {y : List Nat} {x : Str} {t u : Tok} {ep : Nat} {Q : Value → Loc → Cells → Prop} (hm : (D, listOf [Value.str (S y) u].toArray ep) ∈ N) (hz : y.length + x.length ≤ 16777216) (h : ∀ t, Q (.str (S y) t) m N) :
    TW G c (call (.builtin "str.join") [.str x t, .ref D]) m N Q :=
  .raw0 fun s E Q' F N' q => by
    have hl := isList_of (N'.get hm)
    refine join_list hl (ys := [S y]) (.cons _ _ .nil) (by simp [S_len]; (first | (revert hz; walk_at "Z") | omega)) ?_
    intro t' k
    have e : Txt.join x [S y] = S y := rfl
    rw [e]; exact q _ _ (h _)
theorem put_sub {a : Addr} {o' : Obj} {N N' : Cells} (h : ∀ p ∈ N, p ∈ N') : ∀ p ∈ put a o' N, p ∈ put a o' N' := by
  intro p hp
  obtain ⟨q, hq, rfl⟩ := List.mem_map.mp hp
  exact List.mem_map.mpr ⟨q, h q hq, rfl⟩
/-- texts in pairs, as tuples of a list -/
inductive Prs (N : Cells) : List Value → List (List Nat × List Nat) → Prop
  | nil : Prs N [] []
  | cons {T : Addr} {a b : List Nat} {t u : Tok} {ep : Nat} {vs ps} : (T, tupOf [Value.str (S a) t, .str (S b) u].toArray ep) ∈ N → Prs N vs ps → Prs N (.ref T :: vs) ((a, b) :: ps)
theorem Prs.mono {N N' : Cells} (hs : ∀ p ∈ N, p ∈ N') : ∀ {vs ps}, Prs N vs ps → Prs N' vs ps := by
  intro vs ps h
  induction h with
  | nil => exact .nil
  | cons hm _ ih => exact .cons (hs _ hm) ih
theorem Prs.len {N : Cells} : ∀ {vs ps}, Prs N vs ps → vs.length = ps.length
  | _, _, .nil => rfl
  | _, _, .cons _ h => by simp [h.len]
theorem Prs.get {N : Cells} : ∀ {vs ps}, Prs N vs ps → ∀ {i : Nat} {a b : List Nat}, ps[i]? = some (a, b) → ∃ T t u ep, vs[i]? = some (.ref T) ∧ (T, tupOf [Value.str (S a) t, .str (S b) u].toArray ep) ∈ N := by
  intro vs ps h
  induction h with
  | nil => intro i a b e; cases e
  | cons hm _ ih =>
    intro i a b e
    cases i with
    | zero => cases e; exact ⟨_, _, _, _, rfl, hm⟩
    | succ i => exact ih e
theorem Prs.snoc {N : Cells} {T : Addr} {a b : List Nat} {t u : Tok} {ep : Nat} (hm : (T, tupOf [Value.str (S a) t, .str (S b) u].toArray ep) ∈ N) : ∀ {vs ps}, Prs N vs ps → Prs N (vs ++ [.ref T]) (ps ++ [(a, b)]) := by
  intro vs ps h
  induction h with
  | nil => exact .cons hm .nil
  | cons h1 _ ih => exact .cons h1 ih
theorem Prs.put {N : Cells} {H : Addr} {vs0 : List Value} {ep0 : Nat} {o' : Obj} (hH : ∀ its ep, (H, tupOf its ep) ∉ N) : ∀ {vs ps}, Prs N vs ps → Prs (put H o' N) vs ps := by
  intro vs ps h
  induction h with
  | nil => exact .nil
  | cons hm _ ih => exact .cons (put_other hm fun e => by subst e; exact hH _ _ hm) ih
end

-- b20
theorem bor_add (x y : Int) : Builtin.bitOr x y = x + y - Builtin.bitAnd x y := by
  have := bitXor_and x y
  have e : Builtin.bitXor x y = Builtin.bitOr x y - Builtin.bitAnd x y := rfl
  (first | (revert e this; walk_at "Z") | omega)
theorem band_high (v u : Nat) (hu : u < 64) : Builtin.bitAnd ((v * 64 : Nat) : Int) (u : Int) = 0 := by
  rw [bitAnd_pp (by (first | walk_at "Z" | omega)) (by (first | walk_at "Z" | omega))]
  have : ((v * 64 : Nat) : Int).toNat &&& (u : Int).toNat = 0 := by
    rw [Int.toNat_natCast, Int.toNat_natCast]
    apply Nat.eq_of_testBit_eq
    intro i
    rw [Nat.testBit_and, Nat.zero_testBit]
    by_cases hi : i < 6
    · have : (v * 64).testBit i = false := by
        have e : v * 64 = 2 ^ 6 * v := by (first | walk_at "Z" | omega)
        rw [e, Nat.testBit_two_pow_mul]
        simp; (first | (revert hi; walk_at "Z") | omega)
      rw [this]; rfl
    · have : u.testBit i = false := by
        apply Nat.testBit_lt_two_pow
        calc u < 2 ^ 6 := hu
          _ ≤ 2 ^ i := Nat.pow_le_pow_right (by decide) (by (first | (revert hi; walk_at "Z") | omega))
      rw [this]; simp
  rw [this]; rfl
theorem bor_low (v u : Nat) (hu : u < 64) : Builtin.bitOr ((v * 64 : Nat) : Int) (u : Int) = ((v * 64 + u : Nat) : Int) := by
  rw [bor_add, band_high v u hu]; push_cast; (first | walk_at "Z" | omega)
theorem band_63 (b : Nat) : Builtin.bitAnd (b : Int) 63 = ((b % 64 : Nat) : Int) := by rw [bitAnd_m6]; (first | walk_at "Z" | omega)
theorem band_64 (b : Nat) : Builtin.bitAnd (b : Int) 64 = ((b / 64 % 2 * 64 : Nat) : Int) := by
  have := kbt_bit (b : Int) 6
  have e : ((2 : Int) ^ 6) = 64 := by decide
  rw [e] at this
  rw [this]; push_cast; rfl
theorem bxor_16 : ∀ x < 16, ∀ y < 16, Builtin.bitXor ((x : Nat) : Int) ((y : Nat) : Int) = ((x ^^^ y : Nat) : Int) := by decide +kernel
theorem put_put (a : Addr) (o o' : Obj) (N : Cells) : put a o' (put a o N) = put a o' N := by
  unfold put
  rw [List.map_map]
  refine List.map_congr_left fun p _ => ?_
  by_cases h : p.1 = a <;> simp [h]
theorem ite_join {G : St} {c : Act} {b : Bool} {y z : List Stmt} {m : Loc} {N : Cells} {Q : Flow → Loc → Cells → Prop} (P : Loc → Cells → Prop) (h1 : b = true → TW G c (execs y c.env) m N (fun f m' N' => f = .next ∧ P m' N'))
    (h2 : b = false → TW G c (execs z c.env) m N (fun f m' N' => f = .next ∧ P m' N')) (h3 : ∀ m' N', P m' N' → Q .next m' N') : if b = true then TW G c (execs y c.env) m N Q else TW G c (execs z c.env) m N Q := by
  cases b with
  | true => rw [if_pos rfl]; exact (h1 rfl).mono fun f m' N' ⟨e, p⟩ => by subst e; exact h3 m' N' p
  | false => rw [if_neg (by simp)]; exact (h2 rfl).mono fun f m' N' ⟨e, p⟩ => by subst e; exact h3 m' N' p
theorem seq_sub {G : St} {c : Act} {r : List Stmt} {Q : Flow → Loc → Cells → Prop} {m : Loc} {N N' : Cells} (hs : ∀ p ∈ N', p ∈ N) (h : TW G c (execs r c.env) m N' Q) : Seq G c r Q .next m N := TW.sub h hs
theorem size_two (k : Nat) : Builtin.Range.rangeSize 2 (2 * ((k : Int) + 1)) 2 = k := by
  unfold Builtin.Range.rangeSize
  rw [if_pos (by decide)]
  split <;> (first | walk_at "Z" | omega)
theorem swapped_of {env : Env} {sc : Scope} {ts : List Expr} {v : Expr} {r : Sem (Option (List Str))} (hs : env.scope = sc) (h : swappedStores ts v { env with scope := sc } = r) : swappedStores ts v env = r := by subst hs; exact h

-- b21
section
variable {G : St} {c : Act} {n : Nat} {m : Loc} {N : Cells} {pos : Pos}
/-- as t_callH, with what stands kept in sight -/
theorem t_callS {name qual : Str} {params : Arguments} {body : List Stmt} {scope : Scope} {dV kV doc pm cdv ct oc : Value} {an od : Option Addr} {osl : Array (Option Value)} {f : Addr} {args : List Value} {kw : List (Str × Value)} (binds : List (Str × Value)) {Q : Value → Loc → Cells → Prop}
    (o : Ok G (n + 1) c)
    (ho : G.K.lookup f = some ⟨oc, od, .func (fnOf name qual params body scope dV kV doc pm an cdv ct), osl⟩) (hcd : codeIn G.K cdv qual = true)
    (hbind : ∀ s : Shared, G.K.In s.heap → BindsTo s (fnOf name qual params body scope dV kV doc pm an cdv ct) ⟨args, kw⟩ binds)
    (hloc : ∀ y ∈ binds, scope.names.lookup y.1 = some .local) (hcell : ∀ x ∈ scope.names, x.2 ≠ .cell)
    (hco : scope.isCoroutine = false) (hgen : scope.isGenerator = false) (hk : scope.kind = .function) (hnd : ndup binds = true)
    (h : ∀ (c' : Act) (m' : Loc), c'.env.scope = scope → Ok G n c' → Has m' binds → (∀ b o, c.h₀.get? b = some o → c'.h₀.get? b = some o) → TW G c' (execs body c'.env) m' N (fun fl _ N' => ∃ N'', (∀ p ∈ N'', p ∈ N') ∧ Q (retOf fl) m N'')) :
    TW G c (call (.ref f) args kw) m N Q := TW.drop ⟨fun s₀ s E P => by
  obtain ⟨st, sub, back⟩ := ground P
  have X := P.K o
  with_reducible refine wpAny_call ?_
  refine codeAny_call_def (fd := fnOf name qual params body scope dV kV doc pm an cdv ct) (body := body) (binds := binds) o.room (X _ _ ho) rfl (o.T.nolimit.keeps P.F.keep) (codeRec_of X hcd) rfl (hbind s X) hcell hloc (fun h₁ hns hk₁ => ?_) hco hgen hk
  have O := okDeeper (env := callEnv (fnOf name qual params body scope dV kV doc pm an cdv ct) s.heap.objs.size f) o st hk rfl rfl
  have W := h ⟨c.A.deeper _, callEnv (fnOf name qual params body scope dV kV doc pm an cdv ct) s.heap.objs.size f, hideAll s.heap (N.map (·.1))⟩ _ rfl O (Has.binds (ndup_nodup hnd)) st
  have P' : Pre ⟨c.A.deeper (callEnv (fnOf name qual params body scope dV kV doc pm an cdv ct) s.heap.objs.size f), callEnv (fnOf name qual params body scope dV kV doc pm an cdv ct) s.heap.objs.size f, hideAll s.heap (N.map (·.1))⟩ (fun y => binds.reverse.lookup y) N s₀ { s with heap := h₁, toks := s.toks + binds.length } :=
    ⟨⟨hns, fun b o e => hk₁ b o (sub b o e), Nat.le_of_eq (hideAll_size _ _)⟩,
     fun p hp => ⟨hk₁ _ _ (P.N p hp).1, Nat.ne_of_lt (Heap.lt_size (P.N p hp).1), hideAll_none _ (List.mem_map_of_mem hp)⟩, ⟨P.R.os, P.R.gens, P.R.bare⟩⟩
  exact wpAny_mono (W.out _ _ _ P') (fun fl s' ⟨m', N', p', q⟩ => ⟨m, N', back p'.F p'.N p'.R, q⟩) fun _ _ e => e⟩
theorem isList_keep {h h' : Heap} {l : Addr} {its : Array Value} (k : ∀ b o, h.get? b = some o → h'.get? b = some o) (x : h.IsList l its) : h'.IsList l its := by
  obtain ⟨o, e, r⟩ := x; exact ⟨o, k _ _ e, r⟩
theorem a_len0 {l : Addr} {vs : List Value} {Q : Value → Loc → Cells → Prop} (hl : c.h₀.IsList l vs.toArray) (hz : vs.length ≤ 16777216) (h : ∀ t, Q (.int vs.length t) m N) : TW G c (call (.builtin "len") [.ref l]) m N Q :=
  .raw0 fun s E Q' F N' q => by
    have hl' := isList_keep F.keep hl
    with_reducible refine PyProof.Rows.len_list hl' (by rw [List.size_toArray]; (first | (revert hz; walk_at "Z") | omega)) ?_
    rw [List.size_toArray]; exact q _ _ (h _)
theorem s_list0 {v i : Expr} {l : Addr} {vs : List Value} {k : Int} {t : Tok} {x : Value} {Q : Value → Loc → Cells → Prop} (hl : c.h₀.IsList l vs.toArray) (h0 : 0 ≤ k) (hf : k < 2 ^ 63) (hx : vs[k.toNat]? = some x) (h : Q x m N)
    (hs : subscripted i false (.ref l) (.int k t) = operate [.ref l, .int k t] (getItem (.ref l) (.int k t)) := by with_unfolding_all rfl) : TW G c (subscriptTail v i (.ref l) (.int k t)) m N Q :=
  .raw0 fun s E Q' F N' q => by
    have hl := isList_keep F.keep hl
    with_reducible exact tail_any hl.typeIs slot_list_getitem.lookup (wpAny_getItem_list hl h0 hf (by simpa using hx) (q _ s.toks h)) hs
end
theorem ints_len {vs : List Value} {ns : List Int} (h : IntsAre vs ns) : vs.length = ns.length := by
  induction h with
  | nil => rfl
  | cons x t h ih => simp [ih]
theorem ints_at {vs : List Value} {ns : List Int} (h : IntsAre vs ns) {i : Nat} (hi : i < ns.length) : ∃ t, vs[i]? = some (.int (ns.getD i 0) t) := by
  induction h generalizing i with
  | nil => simp at hi
  | cons x t h ih =>
    cases i with
    | zero => exact ⟨t, rfl⟩
    | succ i => simpa using ih (by simpa using hi)
theorem ints_set {vs : List Value} {ns : List Int} (h : IntsAre vs ns) (i : Nat) (x : Int) (t : Tok) : IntsAre (vs.set i (.int x t)) (ns.set i x) := by
  induction h generalizing i with
  | nil => exact .nil
  | cons y u h ih =>
    cases i with
    | zero => exact .cons x t h
    | succ i => exact .cons y u (ih i)
theorem t_cellE {G : St} {c : Act} {n : Nat} {m : Loc} {N : Cells} {pos : Pos} {x : Str} {v : Value} {a : Addr} {ob : Obj} {sc : Scope} {cl : List (Str × Addr)} {Q : Value → Loc → Cells → Prop} (o : Ok G n c) (hs : c.env.scope = sc) (hcl : c.env.cells = cl) (hc : cl.lookup x = some a) (hm : (a, ob) ∈ N) (hob : ob.data = .cell (some v))
    (hl : sc.names.lookup x = some .cell) (h : Q v m N) (hd : (x == ("__debug__" : Str)) = false) : TW G c (eval (.Name x pos) c.env) m N Q := t_cell o (by rw [hcl]; exact hc) hm hob (kind_of hs hl) h hd
theorem t_storeCE {G : St} {c : Act} {n : Nat} {m : Loc} {N : Cells} {x : Str} {v : Value} {a : Addr} {ob : Obj} {v₀ : Option Value} {sc : Scope} {cl : List (Str × Addr)} {Q : Unit → Loc → Cells → Prop} (o : Ok G n c) (hs : c.env.scope = sc) (hcl : c.env.cells = cl) (hc : cl.lookup x = some a) (hm : (a, ob) ∈ N) (hob : ob.data = .cell v₀)
    (hl : sc.names.lookup x = some .cell) (h : ∀ ob', ob'.data = .cell (some v) → Q () m (put a ob' N)) : TW G c (storeName c.env x v) m N Q := t_storeC o (by rw [hcl]; exact hc) hm hob (kind_of hs hl) h
section
variable {G : St} {c : Act} {n : Nat} {m : Loc} {N : Cells} {pos : Pos}
theorem t_LC {elt target iter : Expr} {ifs : List Expr} {scope sc : Scope} {cl cl0 : List (Str × Addr)} {Q : Value → Loc → Cells → Prop}
    (o : Ok G n c) (hs : c.env.scope = sc) (hcl : c.env.cells = cl0) (hclos : closC cl0 scope.names [] = some cl) (hcell : (scope.names.all fun y => y.2 != .cell) = true) (hk : scope.kind = .function)
    (hnames : (scope.names.all fun y => y.2 != .local || scope.names.lookup y.1 == some .local) = true) (hf : ∀ x, foldedSetIterable iter c.env x = pure x)
    (h : TW G c (eval iter c.env) m N fun x m₁ N₁ => CompB G n c elt target ifs scope sc cl x m₁ N₁ fun A X => Q (.ref A) m₁ X) :
    TW G c (eval (.ListComp elt [⟨target, iter, ifs, 0⟩] scope pos) c.env) m N Q := t_ListComp o hs (by rw [hcl]; exact hclos) hcell hk hnames hf h
theorem t_LC0 {elt target iter : Expr} {ifs : List Expr} {scope sc : Scope} {Q : Value → Loc → Cells → Prop}
    (o : Ok G n c) (hs : c.env.scope = sc) (hclos : ∀ cl0, closC cl0 scope.names [] = some []) (hcell : (scope.names.all fun y => y.2 != .cell) = true) (hk : scope.kind = .function)
    (hnames : (scope.names.all fun y => y.2 != .local || scope.names.lookup y.1 == some .local) = true) (hf : ∀ x, foldedSetIterable iter c.env x = pure x)
    (h : TW G c (eval iter c.env) m N fun x m₁ N₁ => CompB G n c elt target ifs scope sc [] x m₁ N₁ fun A X => Q (.ref A) m₁ X) :
    TW G c (eval (.ListComp elt [⟨target, iter, ifs, 0⟩] scope pos) c.env) m N Q := t_ListComp o hs (hclos _) hcell hk hnames hf h
theorem comp_it {elt target : Expr} {ifs : List Expr} {scope sc : Scope} {cl : List (Str × Addr)} {x : Value} {K : Addr → Cells → Prop} {D : Cells} {k : Nat} {P : Nat → Value → Prop} (W : IterW G n c x m N target D k P) (hD : ∀ d ∈ D, d ∈ N) (hk : k ≤ 16777216) (R : Nat → Option Value → Prop)
    (hb : ∀ (c₂ : Act) (l : Loc) (X : Cells) (i : Nat) (v : Value), c₂.env.scope = relabelS scope sc → c₂.env.cells = cl → Ok G n c₂ → (∀ p ∈ N, p ∈ X) → i < k → P i v →
      TW G c₂ (assign target c₂.env v) l X fun _ m₁ N₁ => TestsW G c₂ ifs m₁ N₁ fun ok m₂ N₂ => if ok = true then TW G c₂ (eval elt c₂.env) m₂ N₂ (fun y _ N₃ => R i (some y) ∧ ∀ p ∈ X, p ∈ N₃) else R i none ∧ ∀ p ∈ X, p ∈ N₂)
    (hK : ∀ A ys ep, Picks R k ys → Fresh A N → K A ((A, listOf ys.toArray ep) :: N)) : CompB G n c elt target ifs scope sc cl x m N K := ⟨⟨D, k, P, R, W, hD, hk, hb, hK⟩⟩
theorem tests_nil {Q : Bool → Loc → Cells → Prop} (h : Q true m N) : TestsW G c [] m N Q := h
theorem tests_one {t : Expr} {Q : Bool → Loc → Cells → Prop} (h : TW G c (isTrue t c.env (eval t c.env)) m N Q) : TestsW G c [t] m N Q := h
end
section
variable {G : St} {c : Act} {n : Nat} {m : Loc} {N : Cells} {pos : Pos}
/-- x = [.. for ..] where x is a local -/
theorem t_compH {elt target iter : Expr} {ifs : List Expr} {scope sc : Scope} {cl cl0 : List (Str × Addr)} {y : Str} {py : Pos} {spos : Pos} {Q : Flow → Loc → Cells → Prop}
    (o : Ok G n c) (hs : c.env.scope = sc) (hcl : c.env.cells = cl0) (hclos : closC cl0 scope.names [] = some cl) (hcell : (scope.names.all fun y => y.2 != .cell) = true) (hk : scope.kind = .function)
    (hnames : (scope.names.all fun y => y.2 != .local || scope.names.lookup y.1 == some .local) = true) (hf : ∀ x, foldedSetIterable iter c.env x = pure x)
    (hsw : swapsWith (.ListComp elt [⟨target, iter, ifs, 0⟩] scope pos) (some (.Name y py)) spos.line c.env = pure true) (hl : sc.names.lookup y = some .local)
    (h : TW G c (eval iter c.env) m N fun x m₁ N₁ => ∃ l, Has m₁ l ∧ CompB G n c elt target ifs scope sc cl x m₁ N₁ fun A X => ∀ m', Has m' (put1 y (.ref A) l) → Q .next m' X) :
    TW G c (exec (.Assign [.Name y py] (.ListComp elt [⟨target, iter, ifs, 0⟩] scope pos) spos) c.env) m N Q :=
  exec_comp o hs (by rw [hcl]; exact hclos) hcell hk hnames hf hsw (h.mono fun x m₁ N₁ hq => by
    obtain ⟨l, hL, D, k, P, R, W, hD, hsz, hb, hK⟩ := hq
    refine ⟨D, k, P, R, W, hD, hsz, hb, fun A ys ep hp hA C oC hC => ?_⟩
    exact t_storeH hL o hs hl fun m' hm' => ⟨_, rfl, hC, hK A ys ep hp hA m' hm'⟩)
end
theorem swaps_of {env : Env} {sc : Scope} {v : Expr} {t : Option Expr} {line : Nat} {r : Sem Bool} (hs : env.scope = sc) (h : swapsWith v t line { env with scope := sc } = r) : swapsWith v t line env = r := by subst hs; exact h

-- b22
section
variable {prog : Program} {w : World} {A : Around} {E : Value → Shared → Prop} {s : Shared}
theorem lsp_endX {it l : Addr} {i : Nat} {items} {Q : Option Value → Shared → Prop} (hh : A.handled = none)
    (hit : s.heap.IsListIter it l i) (hl : s.heap.IsList l items) (hx : items[i]? = none)
    (hE : ∀ h₁ h' e, Heap.SameBut it s.heap h₁ → Heap.MadeExcOf h₁ h' e (.type "StopIteration") [] → E (.ref e) { s with heap := h' }) :
    wpAny (model prog w) A (callSpecial? (.ref it) (Str.ofString "__next__")) Q E s := by
  obtain ⟨o, ho, hc, hd⟩ := id hit
  obtain ⟨ol, hol, _, nl, hdl⟩ := hl
  refine wpAny_callSpecial?_slot (name := Str.ofString "__next__") hit.typeIs slot_listiter_next
    (wpAny_call_entry slot_listiter_next hit.typeIs entry_listiter_next ?_ (args_listiter_next _))
  show wpAny _ _ (field (.ref it) 0 >>= _) _ _ s
  refine wpAny_bind (wpAny_field ho hd (x := .ref l) rfl ?_)
  show wpAny _ _ (if (Value.ref l == Value.none) = true then _ else _) _ _ s
  rw [if_neg (show ¬ ((Value.ref l == Value.none) = true) from Bool.false_ne_true)]
  show wpAny _ _ (field (.ref it) 1 >>= _) _ _ s
  refine wpAny_bind (wpAny_field ho hd (x := .int i 0) rfl ?_)
  show wpAny _ _ (seqItems? (.ref l) >>= _) _ _ s
  refine wpAny_bind (wpAny_seqItems hol hdl ?_)
  simp only [Int.toNat_natCast, hx]
  refine wpAny_bind (wpAny_rule (wpAny_bind (wpAny_setField ho hd (by simp) ?_)))
  show wpAny _ _ (newExc (.type "StopIteration") [] >>= _) _ _ _
  refine wpAny_bind ?_
  simp only [newExc, newTuple]
  refine wpAny_bind (wpAny_newObj_type ?_ (by size_fits))
  refine wpAny_bind (m := firstArgMember _ _) (wpAny_of_eq (a := Value.none) (by first | rfl | (simp only [firstArgMember]; rfl)) ?_)
  refine wpAny_newObj_type ?_ (by size_fits)
  simp only [raiseNew]
  refine wpAny_bind (wpAny_handled ?_)
  first | rw [show A.in1.handled = none from hh] | rw [hh]
  refine wpAny_bind (wpAny_pure (wpAny_throw ?_))
  refine hE _ _ _ (Heap.SameBut.update ..) ⟨fun b o e => Heap.get?_push_of_some _ (Heap.get?_push_of_some _ e), ?_, ⟨_, Heap.get?_push_size _ rfl, ?_, ?_⟩⟩
  · exact Heap.get?_none_of_le (by rw [Heap.size_push]; exact Nat.le_succ _)
  · exact Heap.get?_none_of_le (Nat.le_refl _)
  · exact Heap.get?_push_of_some _ (Heap.get?_push_size _ rfl)
theorem next_end {it l : Addr} {i : Nat} {items} {Q : Value → Shared → Prop} (hh : A.handled = none)
    (hit : s.heap.IsListIter it l i) (hl : s.heap.IsList l items) (hx : items[i]? = none)
    (hE : ∀ h₁ h' e, Heap.SameBut it s.heap h₁ → Heap.MadeExcOf h₁ h' e (.type "StopIteration") [] → E (.ref e) { s with heap := h' }) :
    wpAny (model prog w) A (call (.builtin "next") [.ref it]) Q E s := by
  refine call_function_entry (by decide +kernel) (by decide +kernel) kdk_entry_next (kdk_args_next _) ?_
  unfold Builtin.«next»
  refine wpAny_bind (m := someArgs "next" 1 2 _) (wpAny_of_eq (a := [Value.ref it]) (by first | rfl | kernel_rfl!) ?_)
  dsimp only
  refine wpAny_bind (wpAny_specialOf (name := Str.ofString "__next__") hit.typeIs slot_listiter_next.lookup ?_)
  refine wpAny_ite_split (fun hab => absurd hab (by decide)) (fun _ => ?_)
  exact wpAny_bind (lsp_endX hh hit hl hx hE)
end
section
variable {G : St} {n : Nat} {m : Loc} {N : Cells} {pos : Pos}
/-- a first-level def tries a call that ends in StopIteration -/
theorem t_try_stop {cn : Str} {cs : Scope} {L a : Addr} {ccd : Value} {h₀ : Heap}
    {name qual : Str} {params : Arguments} {rest : List Stmt} {scope : Scope} {dV kV doc pm cdv ct oc : Value} {an od : Option Addr} {osl : Array (Option Value)} {f I l : Addr} {ob : Obj} {vs : List Value} {ep i : Nat} {x y arg fname : Str} {py p1 p2 p3 p4 fp ap cp xp sp pp hp tp : Pos} {st2 : Stmt} {lm : List (Str × Value)} (N₂ : Cells) {Q : Flow → Loc → Cells → Prop}
    (o : Ok G (n + 2) ⟨callerA.deeper (envOf cn cs L a ccd), envOf cn cs L a ccd, h₀⟩) (hI : (I, ob) ∈ N) (hi : isLI l i ob) (hl : (l, listOf vs.toArray ep) ∈ N) (hlI : l ≠ I) (hx : vs[i]? = none)
    (ho : G.K.lookup f = some ⟨oc, od, .func (fnOf name qual params (.Assign [.Name y py] (.Call (.Name (Str.ofString "next") p1) [.Name x p2] [] p3) p4 :: rest) scope dV kV doc pm an cdv ct), osl⟩) (hcd : codeIn G.K cdv qual = true)
    (hbind : ∀ s : Shared, G.K.In s.heap → BindsTo s (fnOf name qual params (.Assign [.Name y py] (.Call (.Name (Str.ofString "next") p1) [.Name x p2] [] p3) p4 :: rest) scope dV kV doc pm an cdv ct) ⟨[.ref I], []⟩ [(x, .ref I)])
    (hloc : scope.names.lookup x = some .local) (hnext : scope.names.lookup (Str.ofString "next") = some .globalImplicit) (hcell : ∀ x ∈ scope.names, x.2 ≠ .cell)
    (hco : scope.isCoroutine = false) (hgen : scope.isGenerator = false) (hk : scope.kind = .function) (hxd : (x == ("__debug__" : Str)) = false)
    (en : nsIn G.K mainGlobals (Str.ofString "next") = some none) (hkeep : keepIn G.K (.ref f) = true)
    (hL : Has m lm) (harg : lm.lookup arg = some (.ref I)) (hargl : cs.names.lookup arg = some .local) (hargd : (arg == ("__debug__" : Str)) = false)
    (ef : nsIn G.K mainGlobals fname = some (some (.ref f))) (hfl : cs.names.lookup fname = some .globalImplicit) (hfd : (fname == ("__debug__" : Str)) = false)
    (es : nsIn G.K mainGlobals (Str.ofString "StopIteration") = some none) (hsl : cs.names.lookup (Str.ofString "StopIteration") = some .globalImplicit) (hcs : cs.kind = .function)
    (hN₂ : ∀ p ∈ N₂, p ∈ N ∧ p.1 ≠ I) (h : Q .next m N₂) :
    TW G ⟨callerA.deeper (envOf cn cs L a ccd), envOf cn cs L a ccd, h₀⟩ (exec (.Try [.Expr (.Call (.Name fname fp) [.Name arg ap] [] cp) xp, st2] [.ExceptHandler (some (.Name (Str.ofString "StopIteration") sp)) none [.Pass pp] hp] [] [] tp) (envOf cn cs L a ccd)) m N Q := ⟨fun s₀ s E P => by
  refine wpAny_Try_except ?_
  refine wpAny_execs_cons (wpAny_Expr ?_ (by unfold interactive; rw [show (envOf cn cs L a ccd).scope.kind = .function from hcs]; rfl) (by rfl))
  refine Call_ (wpAny_mono ((t_glob (Q := fun v m' N' => v = .ref f ∧ m' = m ∧ N' = N) o ef hfl ⟨rfl, rfl, rfl⟩ hfd).out s₀ s _ P) ?_ fun _ _ e => e) (by rfl)
  rintro _ s₁ ⟨m1, N1, P₁, rfl, e1, e2⟩
  rw [e1, e2] at P₁
  refine callWith_K o.X hkeep (wpAny_mono ((t_items (Q := fun vs m' N' => vs = [.ref I] ∧ m' = m ∧ N' = N) (t_local o (hL.get harg) hargl (t_items_nil ⟨rfl, rfl, rfl⟩) hargd) (by rfl)).out s₀ s₁ _ P₁) ?_ fun _ _ e => e) (by rfl) (by rfl)
  rintro _ s₂ ⟨m2, N2, P₂, rfl, e3, e4⟩
  rw [e3, e4] at P₂
  refine ⟨P₂.K o, ?_⟩
  show wpAny _ _ (call (.ref f) [.ref I]) _ _ _
  refine wpAny_call (code_defS0 (base := h₀) (A₀ := callerA) (below_caller h₀) P₂.F o.X P₂.N o.T (Around.frames_deeper (below_caller h₀).stack) ho hcd o.room (hbind _ (P₂.K o)) (fun z hz => by
    simp only [List.mem_singleton] at hz; subst hz; exact hloc) (fun g L' h₁ F0 F1 N1' B1 X1 T1 D1 => ?_) hcs hco hgen hk hcell)
  have hR2 : Rest s₀ { s₂ with heap := h₁, toks := s₂.toks + 1 } := ⟨P₂.R.os, P₂.R.gens, P₂.R.bare⟩
  have o' : Ok G n ⟨(callerA.deeper (envOf cn cs L a ccd)).deeper (envOf qual scope L' f cdv), envOf qual scope L' f cdv, g⟩ :=
    ⟨X1, T1, by have h0 : (callerA.deeper (envOf cn cs L a ccd)).depth + 4 * (n + 2) < 1000 := o.depth; show (callerA.deeper (envOf cn cs L a ccd)).depth + 1 + 4 * n < 1000; (first | (revert h0; walk_at "Z") | omega), by have h0 : (callerA.deeper (envOf cn cs L a ccd)).units + 20 * (n + 2) < 9000 := o.units; show (callerA.deeper (envOf cn cs L a ccd)).units + 3 + 20 * n < 9000; (first | (revert h0; walk_at "Z") | omega), o.handled, hk, rfl, rfl⟩
  have P3 : Pre ⟨(callerA.deeper (envOf cn cs L a ccd)).deeper (envOf qual scope L' f cdv), envOf qual scope L' f cdv, g⟩ (fun z => [(x, Value.ref I)].reverse.lookup z) N s₀ { s₂ with heap := h₁, toks := s₂.toks + 1 } := ⟨F1, N1', hR2⟩
  refine wpAny_execs_cons (wpAny_Assign_Name ?_ (by rfl))
  refine Call_ (wpAny_mono ((t_bui (Q := fun v m' N' => v = .builtin "next" ∧ m' = (fun z => [(x, Value.ref I)].reverse.lookup z) ∧ N' = N) o' en (by rfl) (by decide) hnext ⟨rfl, rfl, rfl⟩ (by rfl)).out s₀ _ _ P3) ?_ fun _ _ e => e) (by rfl)
  rintro _ s₃ ⟨m3, N3, P₃, rfl, e5, e6⟩
  rw [e5, e6] at P₃
  refine callWith_method1 (wpAny_mono ((t_items (Q := fun vs m' N' => vs = [.ref I] ∧ m' = (fun z => [(x, Value.ref I)].reverse.lookup z) ∧ N' = N) (t_local o' (by simp [List.lookup]) hloc (t_items_nil ⟨rfl, rfl, rfl⟩) hxd) (by rfl)).out s₀ s₃ _ P₃) ?_ fun _ _ e => e) (by rfl) (by rfl)
  rintro _ s₄ ⟨m4, N4, P₄, rfl, e7, e8⟩
  rw [e7, e8] at P₄
  show wpAny _ _ (call (.builtin "next") [.ref I]) _ _ _
  have zI := P₄.N _ hI
  refine next_end (l := l) (i := i) o.handled ⟨ob, P₄.N.get hI, hi.1, hi.2⟩ (isList_of (P₄.N.get hl)) (by simpa using hx) fun h₂ h' e hsb hmade => ?_
  have F2 : Fr g L' h₂ (fun z => [(x, Value.ref I)].reverse.lookup z) := P₄.F.change hsb zI.2.1 zI.2.2
  have N2' : News g L' h₂ N₂ := fun p hp => ⟨(hsb.2 _ (hN₂ p hp).2).trans (P₄.N p (hN₂ p hp).1).1, (P₄.N p (hN₂ p hp).1).2⟩
  refine leave_raiseS B1 hmade F2 N2' (fun h'' t R1 R2 hup => ?_) hk
  refine wpAny_mono (caught_S0 (E := fun _ _ => False) R1 F0 (below_caller h₀) hup o.X o.T ktsDicts_nil KtsTurn.refl es (by rfl) (by decide) (by rw [isSubtype_type]; kernel_rfl) (by rw [isSubtype_type]; kernel_rfl) (by rw [isSubtype_type]; kernel_rfl) (fun h3 g' news₂ T' F' N' got Nl K' X' T'' D' => ?_) hcs hsl (by rfl) PassesOwnAt.never) (fun _ s₂ h₂ => wpAny_mono h₂ (fun _ s₃ h₃ => wpAny_noRaise h₃) (fun _ _ x => x.elim)) (fun _ _ x => x.elim)
  refine wpAny_execs_cons (wpAny_Pass (wpAny_execs_nil ⟨m, N₂, ⟨⟨F'.ns, fun b o' e => F'.keep b o' (T'.other b o' e (by simp)), ?_⟩, fun p hp => ⟨(Nl p hp).1, (Nl p hp).2.1, ?_⟩, ⟨P₄.R.os, P₄.R.gens, P₄.R.bare⟩⟩, h⟩))
  · have := F'.above; rw [T'.size] at this; exact this
  · cases q : h₀.get? p.1 with
    | none => rfl
    | some o' => have := T'.other _ _ q (by simp); rw [(Nl p hp).2.2] at this; cases this⟩
end

-- b23
section
variable {G : St} {c : Act} {n : Nat} {m : Loc} {N : Cells} {pos : Pos}
def datP (p : List Nat × List Nat) : W.Dat := .tuple [.str (S p.1), .str (S p.2)]
theorem Prs.dat {N : Cells} : ∀ {vs ps}, Prs N vs ps → W.DatAll N vs (ps.map datP)
  | _, _, .nil => .nil
  | _, _, .cons hm h => .cons (.tuple hm (.cons (.str _ _) (.cons (.str _ _) .nil))) h.dat
theorem o_prs_ne {A B : Addr} {xs ys : List Value} {ps : List (List Nat × List Nat)} {ea eb : Nat} {Q : Value → Loc → Cells → Prop} (o : Ok G n c) (ha : (A, listOf xs.toArray ea) ∈ N) (hb : (B, listOf ys.toArray eb) ∈ N) (hx : Prs N xs ps) (hy : Prs N ys ps)
    (hok : ∀ p ∈ ps, PyData.strOk (S p.1) = true ∧ PyData.strOk (S p.2) = true) (h : Q (.bool false) m N) : TW G c (compareOp .NotEq (.ref A) (.ref B)) m N Q :=
  .raw0 fun s E Q' F N' q => by
    have hk : ∀ d ∈ ps.map datP, W.kqdOk 8 d = true := fun d hd => by
      obtain ⟨p, hp, rfl⟩ := List.mem_map.mp hd
      have := hok p hp
      simp [datP, W.kqdOk, this.1, this.2]
    refine W.kqd_ne N' ha rfl rfl hx.dat (fun _ h => h) hb rfl rfl hy.dat (fun _ h => h) hk hk (by have := o.units; show _ < 9900; (first | (revert this; walk_at "Z") | omega)) ?_
    refine Eq.mp (congrArg (fun b => Q' (.bool b) s) ?_) (q _ s.toks h)
    simp
end
section
variable {G : St} {n : Nat}
theorem code_top {name qual : Str} {params : Arguments} {body : List Stmt} {scope : Scope} {dV kV doc pm cdv ct oc : Value} {an od : Option Addr} {osl : Array (Option Value)} {f : Addr} {args : List Value} (binds : List (Str × Value)) {s : Shared} {v : Value}
    (X : G.K.In s.heap) (T : Top G.p G.loose G.mean G.mg G.mb s.heap) (hn : n ≤ 100)
    (ho : G.K.lookup f = some ⟨oc, od, .func (fnOf name qual params body scope dV kV doc pm an cdv ct), osl⟩) (hcd : codeIn G.K cdv qual = true)
    (hbind : BindsTo s (fnOf name qual params body scope dV kV doc pm an cdv ct) ⟨args, []⟩ binds)
    (hloc : ∀ y ∈ binds, scope.names.lookup y.1 = some .local) (hcell : ∀ x ∈ scope.names, x.2 ≠ .cell)
    (hco : scope.isCoroutine = false) (hgen : scope.isGenerator = false) (hk : scope.kind = .function) (hnd : ndup binds = true)
    (h : ∀ (c' : Act) (m' : Loc) (L : Addr), c' = ⟨callerA.deeper (envOf qual scope L f cdv), envOf qual scope L f cdv, s.heap⟩ → c'.env.scope = scope → Ok G n c' → Has m' binds → TW G c' (execs body c'.env) m' [] (fun fl _ _ => retOf fl = v)) :
    codeAny (model G.prog G.w) callerA (.call (.ref f) ⟨args, []⟩) (fun r s' => r = .ok (.ret v) ∧ Rest s s' ∧ ∀ b o, s.heap.get? b = some o → s'.heap.get? b = some o) s := by
  refine codeAny_call_def (fd := fnOf name qual params body scope dV kV doc pm an cdv ct) (body := body) (binds := binds) (by decide) (X _ _ ho) rfl T.nolimit (codeRec_of X hcd) rfl hbind hcell hloc (fun h₁ hns hk₁ => ?_) hco hgen hk
  have O : Ok G n ⟨callerA.deeper (envOf qual scope s.heap.objs.size f cdv), envOf qual scope s.heap.objs.size f cdv, s.heap⟩ :=
    ⟨X, T, by show callerA.depth + 1 + 4 * n < 1000; have : callerA.depth = 301 := rfl; (first | (revert hn this; walk_at "Z") | omega), by show callerA.units + 3 + 20 * n < 9000; have : callerA.units = 4 := rfl; (first | (revert hn this; walk_at "Z") | omega), rfl, hk, rfl, rfl⟩
  have W := h _ _ s.heap.objs.size rfl rfl O (Has.binds (ndup_nodup hnd))
  refine wpAny_mono (W.out s { s with heap := h₁, toks := s.toks + binds.length } _ ⟨⟨hns, hk₁, Nat.le_refl _⟩, (fun p hp => nomatch hp), ⟨rfl, (fun _ _ e => e), id⟩⟩) (fun fl s' ⟨m', N', p', e⟩ => ⟨congrArg (fun v => Except.ok (Flow.ret v)) e, p'.R, p'.F.keep⟩) fun _ _ e => e
end

set_option maxRecDepth 100000
set_option maxHeartbeats 8000000
section
local macro_rules | `(tactic| o_head $_) => `(tactic| assumption)
/-- the written part of the heap: what the head lays down as kk.heap_1 -/
theorem kk (h : PySem.Challenge.rw_wn0116_01.row.Holds) : PySem.Challenge.rw_wn0116_01.row.Holds := by k_head
end

set_option maxRecDepth 10000
set_option maxHeartbeats 200000
structure GP where
  p : Program
  loose : List Str
  w : World
  mean : ExcName → Option Value
  mg : Str → Option Value
  mb : Str → Option Value
noncomputable def GS (γ : GP) : St :=
  { prog := PySem.Challenge.pw_wn0116_01, w := γ.w, K := kk.heap_1 γ.w.params, p := γ.p, loose := γ.loose, mean := γ.mean, mg := γ.mg, mb := γ.mb }
section
variable {G : St} {c : Act} {n : Nat} {m : Loc} {N : Cells} {pos : Pos}
theorem t_strS {x : Str} {l : List Nat} {k : Nat} {Q : Value → Loc → Cells → Prop} (e : x = S l) (h : ∀ t, Q (.str (S l) t) m N) : TW G c (eval (.Constant (.str x) k pos) c.env) m N Q := by
  rw [e]; exact t_str h
theorem t_dec {p A B : Prop} [Decidable p] (h1 : p → A) (h2 : ¬ p → B) : if decide p = true then A else B := by
  by_cases q : p
  · simpa [q] using h1 q
  · simpa [q] using h2 q
theorem t_true {A B : Prop} (h1 : A) : if true = true then A else B := by simpa using h1
theorem t_false {A B : Prop} (h1 : B) : if false = true then A else B := by simpa using h1
theorem seq_next {r : List Stmt} {Q : Flow → Loc → Cells → Prop} (h : TW G c (execs r c.env) m N Q) : Seq G c r Q .next m N := h
theorem seq_ret {r : List Stmt} {Q : Flow → Loc → Cells → Prop} {v : Value} (h : Q (.ret v) m N) : Seq G c r Q (.ret v) m N := h
theorem seq_brk {r : List Stmt} {Q : Flow → Loc → Cells → Prop} (h : Q .brk m N) : Seq G c r Q .brk m N := h
theorem pow2_small {k : Nat} (h : k ≤ 20) : ((2 : Int) ^ k ≠ 0) ∧ ((2 : Int) ^ k).natAbs < 1073741824 := by
  have e : ((2 : Int) ^ k).natAbs = 2 ^ k := by rw [Int.natAbs_pow]; rfl
  have : (2 : Nat) ^ k ≤ 2 ^ 20 := Nat.pow_le_pow_right (by decide) h
  constructor
  · intro q; have := congrArg Int.natAbs q; rw [e] at this; simp at this
  · rw [e]; exact Nat.lt_of_le_of_lt this (by decide)
theorem o_pow2 {k : Nat} {t u : Tok} {Q : Value → Loc → Cells → Prop} (hk : k ≤ 20) (h : ∀ t, Q (.int ((2 : Int) ^ k) t) m N) : TW G c (binaryOp .Pow (.int 2 t) (.int k u)) m N Q := by
  refine o_pow (by omega) ?_ h
  have : (Builtin.Int.intBits 2 : Int) = 2 := rfl
  rw [this]; omega
theorem o_div2 {a : Int} {k : Nat} {t u : Tok} {Q : Value → Loc → Cells → Prop} (hk : k ≤ 20) (h : ∀ t, Q (.int (a.fdiv (2 ^ k)) t) m N) : TW G c (binaryOp .FloorDiv (.int a t) (.int ((2 : Int) ^ k) u)) m N Q :=
  o_div (pow2_small hk).1 (pow2_small hk).2 h
/-- an expression statement whose value is none -/
theorem t_exprN {x : Expr} {Q : Flow → Loc → Cells → Prop} (h : TW G c (eval x c.env) m N fun a m₁ N₁ => NoRef a ∧ Q .next m₁ N₁)
    (hi : interactive c.env = false) (hs : swapsWith x none pos.line c.env = pure false) : TW G c (exec (.Expr x pos) c.env) m N Q := t_expr h hi hs
theorem inter_of {sc : Scope} (hs : c.env.scope = sc) (h : sc.kind = .function) : interactive c.env = false := by
  unfold interactive; rw [hs, h]; rfl
end
theorem lit_0 : Str.ofString "cpy313.email.utils" = S [99, 112, 121, 51, 49, 51, 46, 101, 109, 97, 105, 108, 46, 117, 116, 105, 108, 115] := by rfl
theorem lit_1 : Str.ofString "cpy313.dis" = S [99, 112, 121, 51, 49, 51, 46, 100, 105, 115] := by rfl
theorem lit_2 : Str.ofString "cpy313.traceback" = S [99, 112, 121, 51, 49, 51, 46, 116, 114, 97, 99, 101, 98, 97, 99, 107] := by rfl
theorem lit_4 : Str.ofString "law_wn0116_01" = S [108, 97, 119, 95, 119, 110, 48, 49, 49, 54, 95, 48, 49] := by rfl
theorem lit_6 : Str.ofString "[\\x00-\\x1F\\x7F]" = S [91, 92, 120, 48, 48, 45, 92, 120, 49, 70, 92, 120, 55, 70, 93] := by rfl
theorem lit_8 : Str.ofString "" = S [] := by rfl
theorem lit_9 : Str.ofString "\"" = S [34] := by rfl
theorem lit_10 : Str.ofString "%s(%r)" = S [37, 115, 40, 37, 114, 41] := by rfl
theorem lit_11 : Str.ofString "iso-8859-1" = S [105, 115, 111, 45, 56, 56, 53, 57, 45, 49] := by rfl
theorem lit_12 : Str.ofString "\x40[]^_`{|}~" = S [64, 91, 93, 94, 95, 96, 123, 124, 125, 126] := by rfl
theorem lit_13 : Str.ofString "\\\"" = S [92, 34] := by rfl
theorem lit_14 : Str.ofString "\\\\" = S [92, 92] := by rfl
theorem lit_15 : Str.ofString "\\\\\\\"" = S [92, 92, 92, 34] := by rfl
theorem lit_16 : Str.ofString "?" = S [63] := by rfl
theorem lit_17 : Str.ofString "\\" = S [92] := by rfl
theorem lit_18 : Str.ofString "%s=\"%s\"" = S [37, 115, 61, 34, 37, 115, 34] := by rfl
theorem lit_19 : Str.ofString "%s=%s" = S [37, 115, 61, 37, 115] := by rfl
theorem lit_21 : Str.ofString "\r\n" = S [13, 10] := by rfl
theorem lit_24 : Str.ofString "\"\"" = S [34, 34] := by rfl
theorem lit_25 : Str.ofString "\"\\" = S [34, 92] := by rfl
theorem lit_26 : Str.ofString "%s: %s" = S [37, 115, 58, 32, 37, 115] := by rfl
theorem lit_27 : Str.ofString "_" = S [95] := by rfl
theorem lit_28 : Str.ofString "-" = S [45] := by rfl
theorem lit_29 : Str.ofString "; " = S [59, 32] := by rfl
theorem TW.withOk {G : St} {c : Act} {n : Nat} {α : Type} {t : Sem α} {m : Loc} {N : Cells} {Q : α → Loc → Cells → Prop} (o : Ok G n c) (h : Ok G n c → TW G c t m N Q) : TW G c t m N Q := h o
theorem p_some {G : St} {c : Act} {m : Loc} {N : Cells} {e : Expr} {Q : Value → Loc → Cells → Prop} (h : TW G c (eval e c.env) m N Q) : PartW G c (some e) m N Q := h
theorem p_none {G : St} {c : Act} {m : Loc} {N : Cells} {Q : Value → Loc → Cells → Prop} (h : Q .none m N) : PartW G c none m N Q := h
theorem t_pos {b : Bool} {A B : Prop} (e : b = true) (h1 : A) : if b = true then A else B := by rw [if_pos e]; exact h1
theorem t_neg {b : Bool} {A B : Prop} (e : b = false) (h1 : B) : if b = true then A else B := by rw [e, if_neg (by simp)]; exact h1
def BB (x : Str) (v : Value) : Prop := bootBuiltins x = some v ∧ x ≠ "__name__" ∧ (x == ("__debug__" : Str)) = false
theorem bb_range : BB (Str.ofString "range") (.type "range") := ⟨by rfl, by decide, by rfl⟩
theorem bb_len : BB (Str.ofString "len") (.builtin "len") := ⟨by rfl, by decide, by rfl⟩
theorem bb_min : BB (Str.ofString "min") (.builtin "min") := ⟨by rfl, by decide, by rfl⟩
theorem bb_sum : BB (Str.ofString "sum") (.builtin "sum") := ⟨by rfl, by decide, by rfl⟩
theorem bb_ord : BB (Str.ofString "ord") (.builtin "ord") := ⟨by rfl, by decide, by rfl⟩
theorem bb_chr : BB (Str.ofString "chr") (.builtin "chr") := ⟨by rfl, by decide, by rfl⟩
theorem bb_str : BB (Str.ofString "str") (.type "str") := ⟨by rfl, by decide, by rfl⟩
theorem bb_iter : BB (Str.ofString "iter") (.builtin "iter") := ⟨by rfl, by decide, by rfl⟩
theorem bb_next : BB (Str.ofString "next") (.builtin "next") := ⟨by rfl, by decide, by rfl⟩
theorem bb_list : BB (Str.ofString "list") (.type "list") := ⟨by rfl, by decide, by rfl⟩
theorem bb_type : BB (Str.ofString "type") (.type "type") := ⟨by rfl, by decide, by rfl⟩
theorem t_buiS {G : St} {c : Act} {n : Nat} {m : Loc} {N : Cells} {pos : Pos} {x : Str} {v : Value} {sc : Scope} {Q : Value → Loc → Cells → Prop} (o : Ok G n c) (hs : c.env.scope = sc) (e : nsIn G.K mainGlobals x = some none) (hb : BB x v) (hl : sc.names.lookup x = some .globalImplicit) (h : Q v m N) : TW G c (eval (.Name x pos) c.env) m N Q :=
  t_buiL o hs e hb.1 hb.2.1 hl h hb.2.2

set_option hygiene false in
local macro_rules | `(tactic| walk_at "O") => `(tactic| first | with_reducible assumption | with_reducible exact Int.natCast_nonneg _ | omega)
set_option hygiene false in
local macro_rules | `(tactic| walk_at "F") => `(tactic| ((with_reducible show TW _ _ (exec (.For _ _ _ [] _) _) _ _ _); refine t_For ?_ (by intro _; rfl)))
set_option hygiene false in
local macro_rules | `(tactic| walk_at "M") => `(tactic| first
  | with_reducible assumption
  | with_reducible exact List.mem_cons_self
  | (with_reducible refine List.mem_cons_of_mem _ ?_; walk_at "M"))
set_option hygiene false in
local macro_rules | `(tactic| walk_at "U") => `(tactic| first
  | exact fun _ h => h
  | exact fun _ h => .tail _ h
  | exact fun _ h => .tail _ (.tail _ h)
  | exact fun _ h => .tail _ (.tail _ (.tail _ h))
  | exact fun _ h => .tail _ (.tail _ (.tail _ (.tail _ h)))
  | exact fun _ h => .tail _ (.tail _ (.tail _ (.tail _ (.tail _ h)))))
set_option hygiene false in
local macro_rules | `(tactic| walk_at "H") => `(tactic| first
  | exact Has.nil
  | (refine Has.cons (by with_reducible assumption) (by rfl) ?_; walk_at "H"))
set_option hygiene false in
local macro_rules | `(tactic| walk_at "S") => `(tactic| with_reducible first
  | apply t_cons
  | apply seq_next
  | apply seq_ret
  | apply seq_brk
  | apply t_nil
  | apply p_some
  | apply tests_nil
  | apply tests_one
  | apply p_none
  | apply t_and_cons
  | apply t_or_cons
  | apply t_and_nil
  | apply t_or_nil
  | apply t_assignN
  | apply m_upper
  | apply m_lower
  | apply m_join
  | refine o_neg fun _ => ?_
  | apply o_eq
  | apply o_ne
  | apply o_lt
  | apply o_le
  | apply o_gt
  | apply o_ge
  | apply o_isnone
  | apply o_isnotnone
  | apply o_seq
  | apply o_sne
  | apply b_bool
  | apply b_int
  | apply b_none
  | apply u_not
  | refine i_add fun _ => ?_
  | refine i_sub fun _ => ?_
  | refine i_or fun _ => ?_
  | refine a_ord fun _ => ?_
  | (show TW _ _ (eval (.Name _ _) _) _ _ _; first | refine t_localH (by assumption) (by assumption) (by assumption) (by k_dflt rfl) (by k_dflt rfl) ?_ (by k_dflt rfl) | refine t_cellH (by assumption) (by assumption) (CellIs.look (by assumption)) (by walk_at "M") (by assumption) (by k_dflt rfl) ?_ (by k_dflt rfl) | refine t_cellE (by assumption) (by assumption) (by assumption) (by k_dflt rfl) (by walk_at "M") (by assumption) (by k_dflt rfl) ?_ (by k_dflt rfl) | refine t_globL (by assumption) (by assumption) (by k_dflt rfl) (by k_dflt rfl) ?_ (by k_dflt rfl) | refine t_buiS (by assumption) (by assumption) (by k_dflt rfl) (by first | exact bb_range | exact bb_len | exact bb_min | exact bb_sum | exact bb_ord | exact bb_chr | exact bb_str | exact bb_iter | exact bb_next | exact bb_list | exact bb_enumerate | exact bb_type | exact bb_StopIteration) (by k_dflt rfl) ?_ | refine t_local (by assumption) (by k_dflt rfl) (kind_of (by assumption) (by k_dflt rfl)) ?_ (by k_dflt rfl))
  | (show TW _ _ (isTrue _ _ _) _ _ _; first | apply t_tnot | apply t_tand | refine t_tcmp ?_ (by with_unfolding_all rfl) | refine t_chain ?_ (by with_unfolding_all rfl) | refine t_tval ?_ (by k_dflt rfl))
  | (show TW _ _ (exec _ _) _ _ _; first | apply t_if | apply t_ret | apply t_ret0 | apply t_pass | apply t_break | refine t_assign ?_ (by k_dflt rfl) | refine t_asub ?_ (by k_dflt rfl) | apply t_aug | refine t_augS ?_ (by intros; k_dflt rfl) | refine t_exprN ?_ (inter_of (by assumption) (by k_dflt rfl)) (by k_dflt rfl) | refine t_setattr ?_ (by k_dflt rfl))
  | (show TW _ _ (storeName _ _ _) _ _ _; first | refine t_storeH (by assumption) (by assumption) (by assumption) (by k_dflt rfl) fun _ _ => ?_ | refine t_store0 (by assumption) (by assumption) (by k_dflt rfl) fun _ _ => ?_)
  | (show TW _ _ (loadName _ _) _ _ _; first | refine t_localnH (by assumption) (by assumption) (by assumption) (by k_dflt rfl) (by k_dflt rfl) ?_)
  | (show TW _ _ (eval _ _) _ _ _; first | refine t_LC0 (by assumption) (by assumption) (by intro _; k_dflt rfl) (by k_dflt rfl) (by k_dflt rfl) (by k_dflt rfl) (by intro _; k_dflt rfl) ?_ | refine t_LC (by assumption) (by assumption) (by assumption) (by k_dflt rfl) (by k_dflt rfl) (by k_dflt rfl) (by k_dflt rfl) (by intro _; k_dflt rfl) ?_ | apply t_binop | apply t_unary | apply t_ifexp | refine t_int fun _ => ?_ | apply t_bool | apply t_none | refine t_strS (by first | exact lit_0 | exact lit_1 | exact lit_2 | exact lit_4 | exact lit_6 | exact lit_8 | exact lit_9 | exact lit_10 | exact lit_11 | exact lit_12 | exact lit_13 | exact lit_14 | exact lit_15 | exact lit_16 | exact lit_17 | exact lit_18 | exact lit_19 | exact lit_21 | exact lit_24 | exact lit_25 | exact lit_26 | exact lit_27 | exact lit_28 | exact lit_29) fun _ => ?_ | refine t_cmp ?_ (by with_unfolding_all rfl) | refine t_attr ?_ (by with_unfolding_all rfl) (by intro _ _; with_unfolding_all rfl) | refine t_MethL (pl := _) ?_ (by k_dflt rfl) | refine t_MethKW (pl := _) ?_ (by k_dflt rfl) | refine t_Call ?_ (by k_dflt rfl) | apply t_slice | apply t_sub | apply t_List | apply t_Tuple)
  | (show TW _ _ (spliced _) _ _ _; first | apply t_items_nil | refine t_items ?_ (by k_dflt rfl))
  | (show TW _ _ (callWith _ _ _ _ _) _ _ _; first | refine t_cwK (by assumption) (by k_dflt rfl) ?_ (by k_dflt rfl) (by k_dflt rfl) | refine t_cwK1 (by assumption) (by k_dflt rfl) ?_ (by k_dflt rfl) (by k_dflt rfl) | refine t_cwB ?_ (by k_dflt rfl) (by k_dflt rfl) | refine t_cwT ?_ (by k_dflt rfl) (by k_dflt rfl) | apply t_cwB0)
  | (show TW _ _ (binaryOp _ _ _) _ _ _; first | refine o_add fun _ => ?_ | refine o_sub fun _ => ?_ | refine o_pow2 (by walk_at "O") fun _ => ?_ | refine o_div2 (by walk_at "O") fun _ => ?_ | refine o_div (by decide) (by decide) fun _ => ?_ | refine o_mod (by decide) fun _ => ?_ | refine o_xor fun _ => ?_ | refine o_and fun _ => ?_)
  | refine Gen.use (by assumption) ?_)

-- f1
section
variable {γ : GP} {c : Act} {n : Nat} {m : Loc} {N : Cells}
def spelled (x : List Nat) (i : Int) : List Nat := if (i.fdiv 2).fmod 2 = 1 then x.map up1 else x
theorem f_spelled {x : List Nat} {i : Int} {t u : Tok} {Q : Value → Loc → Cells → Prop} (o : Ok (GS γ) (n + 1) c) (ha : Ascii x) (hz : x.length ≤ 16777216) (h : ∀ t, Q (.str (S (spelled x i)) t) m N) :
    TW (GS γ) c (call (.ref 254) [.str (S x) t, .int i u]) m N Q := by
  refine t_callH [(Str.ofString "text", .str (S x) t), (Str.ofString "turn", .int i u)] o (by rfl) (by rfl) (fun s X => BindsTo.of_eq (by rfl)) (locs (by rfl)) (by decide) (by rfl) (by rfl) (by rfl) (by rfl) ?_
  intro c' m' hs o' hL
  repeat walk_at "S"
  refine t_dec (fun hd => ?_) (fun hd => ?_)
  · repeat walk_at "S"
    refine a_upper ha hz fun t => ?_
    repeat walk_at "S"
    have := h t
    rw [spelled, if_pos hd] at this
    exact ⟨N, by walk_at "U", this⟩
  · repeat walk_at "S"
    have := h t
    rw [spelled, if_neg hd] at this
    exact ⟨N, by walk_at "U", this⟩
end

-- f2
/-- the k-th binary figure, as the law asks for it -/
def bit (state : Int) (k : Nat) : Prop := (state.fdiv (2 ^ k)).fmod 2 = 1
instance (state : Int) (k : Nat) : Decidable (bit state k) := inferInstanceAs (Decidable (_ = _))
def lawT (ys : List (List Nat)) (state : Int) : Nat → List Nat × Bool → List Nat × Bool
  | 0, acc => acc
  | k + 1, (t, odd) => lawT ys state k (if bit state k then (t ++ [34] ++ ys.getD k [], !odd) else (t ++ ys.getD k [], odd))
def textOf (ys : List (List Nat)) (state : Int) : List Nat :=
  if (lawT ys state ys.length ([], false)).2 = true then (lawT ys state ys.length ([], false)).1 ++ [34] else (lawT ys state ys.length ([], false)).1
theorem strs_get {vs ys} (h : Strs vs ys) {k : Nat} (hk : k < ys.length) : ∃ t, vs[k]? = some (.str (S (ys.getD k [])) t) := by
  have e : ys[k]? = some (ys.getD k []) := by simp [List.getD, hk]
  exact h.get e
theorem getD_mem {ys : List (List Nat)} {k : Nat} (hk : k < ys.length) : ys.getD k [] ∈ ys := by
  rw [List.getD_eq_getElem?_getD, List.getElem?_eq_getElem hk]; exact List.getElem_mem hk
section
variable {γ : GP} {c : Act} {n : Nat} {m : Loc} {N : Cells}
theorem lawT_len {ys : List (List Nat)} {state : Int} (hy : ∀ y ∈ ys, y.length ≤ 100) : ∀ (k : Nat) (acc : List Nat × Bool), k ≤ ys.length → (lawT ys state k acc).1.length ≤ acc.1.length + 101 * k
  | 0, acc, _ => by simp [lawT]
  | k + 1, (t, odd), hk => by
    have := hy _ (getD_mem (k := k) hk)
    unfold lawT
    split
    · have ih := lawT_len (state := state) hy k (t ++ [34] ++ ys.getD k [], !odd) (by (first | (revert hk; walk_at "Z") | walk_at "O"))
      simp only [List.length_append, List.length_cons, List.length_nil] at ih ⊢; (first | (revert ih this; walk_at "Z") | omega)
    · have ih := lawT_len (state := state) hy k (t ++ ys.getD k [], odd) (by (first | (revert hk; walk_at "Z") | walk_at "O"))
      simp only [List.length_append, List.length_cons, List.length_nil] at ih ⊢; (first | (revert ih this; walk_at "Z") | omega)
theorem textOf_len {ys : List (List Nat)} {state : Int} (hy : ∀ y ∈ ys, y.length ≤ 100) : (textOf ys state).length ≤ 101 * ys.length + 1 := by
  have := lawT_len (state := state) hy ys.length ([], false) (Nat.le_refl _)
  unfold textOf
  split <;> simp at this ⊢ <;> (first | (revert this; walk_at "Z") | omega)
theorem lawT_succ {ys : List (List Nat)} {state : Int} {k : Nat} {t : List Nat} {od : Bool} : lawT ys state (k + 1) (t, od) = lawT ys state k (if bit state k then (t ++ [34] ++ ys.getD k [], !od) else (t ++ ys.getD k [], od)) := rfl
theorem f_text {sg : Addr} {vs : List Value} {ys : List (List Nat)} {ep : Nat} {state : Int} {u : Tok} {Q : Value → Loc → Cells → Prop} (o : Ok (GS γ) (n + 1) c) (hm : (sg, listOf vs.toArray ep) ∈ N) (hv : Strs vs ys)
    (hl : ys.length ≤ 20) (hy : ∀ y ∈ ys, y.length ≤ 100) (h : ∀ t, Q (.str (S (textOf ys state)) t) m N) :
    TW (GS γ) c (call (.ref 242) [.ref sg, .int state u]) m N Q := by
  refine t_callH [(Str.ofString "signs", .ref sg), (Str.ofString "state", .int state u)] o (by rfl) (by rfl) (fun s X => BindsTo.of_eq (by rfl)) (locs (by rfl)) (by decide) (by rfl) (by rfl) (by rfl) (by rfl) ?_
  intro c' m' hs o' hL
  have hlen := hv.len
  repeat walk_at "S"
  walk_at "F"
  repeat walk_at "S"
  refine a_len hm (by (first | (revert hl hlen; walk_at "Z") | walk_at "O")) fun t1 => ?_
  repeat walk_at "S"
  refine a_range3 (by decide) (by decide) fun R t2 t3 t4 hR => ?_
  have hsz : Builtin.Range.rangeSize ((vs.length : Int) - 1) (-1) (-1) = (vs.length : Nat) := size_down _
  refine for_itP o' (it_range (.head _) (by first | with_reducible exact small_up (by walk_at "O") | with_reducible exact small_dn (by (first | (revert hl hlen; walk_at "Z") | walk_at "O")) | exact small_of hsz (by walk_at "O") (by walk_at "O") (by walk_at "O") (by walk_at "O") (by walk_at "O") (by walk_at "O") (by walk_at "O")) hsz) (by simp)
    (fun i m' => Ex3 fun tx od t' => And3 (Has m' [(Str.ofString "state", .int state u), (Str.ofString "signs", .ref sg), (Str.ofString "text", .str (S tx) t'), (Str.ofString "odd", .bool od)]) (tx.length ≤ 101 * i) (lawT ys state (ys.length - i) (tx, od) = lawT ys state ys.length ([], false))) ?_ ?_ ?_
  · exact ⟨[], false, _, by walk_at "H", by simp, by simp⟩
  · rintro I o'' i m' v hi hI ⟨tx, od, t', hL, hz, hT⟩ ⟨t5, rfl⟩ _ _
    obtain ⟨k, hk⟩ : ∃ k : Nat, k = ys.length - i - 1 := ⟨_, rfl⟩
    have e1 : (vs.length : Int) - 1 + i * -1 = (k : Int) := by (first | (revert hi hk hlen; walk_at "Z") | omega)
    have hkl : k < ys.length := by (first | (revert e1 hlen; walk_at "Z") | omega)
    have e2 : ys.length - i = k + 1 := by (first | (revert e1 hlen; walk_at "Z") | omega)
    have e3 : ys.length - (i + 1) = k := by (first | (revert hk; walk_at "Z") | omega)
    rw [e1]
    rw [e2, lawT_succ] at hT
    obtain ⟨t6, hv6⟩ := strs_get hv hkl
    have hyk := hy _ (getD_mem (ys := ys) hkl)
    repeat walk_at "S"
    refine t_dec (fun hd => ?_) (fun hd => ?_)
    · rw [if_pos (show bit state k from hd)] at hT
      repeat walk_at "S"
      refine i_sadd (by simp only [List.length_append, List.length_cons, List.length_nil]; (first | (revert e2 hl hz; walk_at "Z") | omega)) fun t7 => ?_
      repeat walk_at "S"
      refine s_list (.tail _ (.tail _ hm)) (by walk_at "O") (by (first | (revert e2 hl; walk_at "Z") | walk_at "O")) hv6 ?_
      refine i_sadd (by simp only [List.length_append, List.length_cons, List.length_nil]; (first | (revert e2 hl hyk hz; walk_at "Z") | omega)) fun t7 => ?_
      repeat walk_at "S"
      exact ⟨fun _ h => h, _, _, _, by walk_at "H", by simp only [List.length_append, List.length_cons, List.length_nil]; (first | (revert hyk hz; walk_at "Z") | omega), by rw [e3]; exact hT⟩
    · rw [if_neg (show ¬ bit state k from hd)] at hT
      repeat walk_at "S"
      refine s_list (.tail _ (.tail _ hm)) (by walk_at "O") (by (first | (revert e2 hl; walk_at "Z") | walk_at "O")) hv6 ?_
      refine i_sadd (by (first | (revert e2 hl hyk hz; walk_at "Z") | walk_at "O")) fun t7 => ?_
      repeat walk_at "S"
      exact ⟨fun _ h => h, _, _, _, by walk_at "H", by simp only [List.length_append, List.length_cons, List.length_nil]; (first | (revert hyk hz; walk_at "Z") | omega), by rw [e3]; exact hT⟩
  · rintro m' ⟨tx, od, t', hL, hz, hT⟩
    have hT' : lawT ys state ys.length ([], false) = (tx, od) := by rw [← hT, hlen, Nat.sub_self]; rfl
    repeat walk_at "S"
    cases od with
    | true =>
      refine t_true ?_
      repeat walk_at "S"
      refine i_sadd (by simp only [List.length_append, List.length_cons, List.length_nil]; (first | (revert hl hlen hz; walk_at "Z") | omega)) fun t7 => ?_
      repeat walk_at "S"
      have := h t7
      rw [textOf, hT', if_pos rfl] at this
      exact ⟨N, by walk_at "U", this⟩
    | false =>
      refine t_false ?_
      repeat walk_at "S"
      have := h t'
      rw [textOf, hT', if_neg (by simp)] at this
      exact ⟨N, by walk_at "U", this⟩
end

-- g1
/-- is a text's last sign an open backslash -/
def escEnd : Bool → List Nat → Bool
  | b, [] => b
  | true, _ :: r => escEnd false r
  | false, d :: r => escEnd (decide (d = 92)) r
/-- what _iter_escaped_chars yields -/
def escItems : Nat → Bool → List Nat → List (Nat × List Nat)
  | i, true, [] => [(i - 1, [92])]
  | _, false, [] => []
  | i, true, d :: r => (i, [92, d]) :: escItems (i + 1) false r
  | i, false, d :: r => if d = 92 then escItems (i + 1) true r else (i, [d]) :: escItems (i + 1) false r
theorem esc_t {i : Nat} {d : Nat} {r : List Nat} : escItems i true (d :: r) = (i, [92, d]) :: escItems (i + 1) false r := rfl
theorem esc_f {i : Nat} {d : Nat} {r : List Nat} (h : d ≠ 92) : escItems i false (d :: r) = (i, [d]) :: escItems (i + 1) false r := by simp [escItems, h]
theorem esc_b {i : Nat} {r : List Nat} : escItems i false (92 :: r) = escItems (i + 1) true r := by simp [escItems]
theorem item_at {α : Type} {l pre r : List α} {y : α} (h : l = pre ++ y :: r) : l[l.length - 1 - r.length]? = some y := by
  subst h
  have : (pre ++ y :: r).length - 1 - r.length = pre.length := by simp
  rw [this]; simp
structure SQ where
  start : Nat
  op : Option Nat
  res : List (List Nat)
def sqStep (x : List Nat) (q : SQ) (p : Nat × List Nat) : SQ :=
  if p.2 = [34] then match q.op with
    | none => { q with op := some p.1 }
    | some a => ⟨p.1 + 1, none, if q.start ≠ a then q.res ++ [cut x (some (q.start : Int)) (some (a : Int))] else q.res⟩
  else q
theorem sq_q0 {x : List Nat} {st p : Nat} {res : List (List Nat)} : sqStep x ⟨st, none, res⟩ (p, [34]) = ⟨st, some p, res⟩ := rfl
theorem sq_q1 {x : List Nat} {st a p : Nat} {res : List (List Nat)} : sqStep x ⟨st, some a, res⟩ (p, [34]) = ⟨p + 1, none, if st ≠ a then res ++ [cut x (some (st : Int)) (some (a : Int))] else res⟩ := rfl
theorem sq_o {x : List Nat} {q : SQ} {p : Nat} {ch : List Nat} (h : ch ≠ [34]) : sqStep x q (p, ch) = q := by unfold sqStep; rw [if_neg h]
def sqAll (x : List Nat) : SQ := (escItems 0 false x).foldl (sqStep x) ⟨0, none, []⟩
theorem esc_len : ∀ (r : List Nat) (i : Nat) (b : Bool), (escItems i b r).length ≤ r.length + 1 := by
  intro r
  induction r with
  | nil => intro i b; cases b <;> simp [escItems]
  | cons d r ih =>
    intro i b
    cases b
    · unfold escItems; split
      · have := ih (i + 1) true; simp; (first | (revert this; walk_at "Z") | omega)
      · have := ih (i + 1) false; simp; (first | (revert this; walk_at "Z") | omega)
    · rw [esc_t]; have := ih (i + 1) false; simp; (first | (revert this; walk_at "Z") | omega)
theorem sq_len (x : List Nat) : ∀ (l : List (Nat × List Nat)) (q : SQ), (l.foldl (sqStep x) q).res.length ≤ q.res.length + l.length ∧ ((∀ y ∈ q.res, y.length ≤ x.length) → ∀ y ∈ (l.foldl (sqStep x) q).res, y.length ≤ x.length) := by
  intro l
  induction l with
  | nil => intro q; exact ⟨by simp, fun h => h⟩
  | cons y r ih =>
    intro q
    have h1 : (sqStep x q y).res.length ≤ q.res.length + 1 ∧ ((∀ y ∈ q.res, y.length ≤ x.length) → ∀ z ∈ (sqStep x q y).res, z.length ≤ x.length) := by
      unfold sqStep
      split
      · split
        · exact ⟨by simp, fun h => h⟩
        · simp only []
          split
          · refine ⟨by simp, fun h z hz => ?_⟩
            rcases List.mem_append.mp hz with hz | hz
            · exact h z hz
            · rw [List.mem_singleton.mp hz]; exact cut_len _ _ _
          · exact ⟨by simp, fun h => h⟩
      · exact ⟨by simp, fun h => h⟩
    have h2 := ih (sqStep x q y)
    simp only [List.foldl_cons, List.length_cons]
    exact ⟨by (first | (revert h1 h2; walk_at "Z") | omega), fun h => h2.2 (h1.2 h)⟩
theorem flat_len {x : List Nat} : ∀ {l : List (List Nat)}, (∀ y ∈ l, y.length ≤ x.length) → l.flatten.length ≤ l.length * x.length
  | [], _ => by simp
  | y :: r, h => by
    have h1 := h y (.head _)
    have h2 := flat_len (x := x) (l := r) fun z hz => h z (.tail _ hz)
    simp only [List.flatten_cons, List.length_append, List.length_cons, Nat.succ_mul]; (first | (revert h1 h2; walk_at "Z") | omega)
theorem sqAll_flat {x : List Nat} (hz : x.length ≤ 1000) : (sqAll x).res.length ≤ 1001 ∧ (sqAll x).res.flatten.length ≤ 1001000 := by
  have h1 := sq_len x (escItems 0 false x) ⟨0, none, []⟩
  have h2 := esc_len x 0 false
  have h3 : (sqAll x).res.length ≤ 1001 := by
    have := h1.1; simp only [List.length_nil] at this; unfold sqAll; (first | (revert h2 hz this; walk_at "Z") | omega)
  refine ⟨h3, ?_⟩
  have h4 := flat_len (x := x) (l := (sqAll x).res) (h1.2 (by simp))
  have : (sqAll x).res.length * x.length ≤ 1001 * 1000 := Nat.mul_le_mul h3 hz
  (first | (revert h4 this; walk_at "Z") | omega)
def stripOf (x : List Nat) : List Nat :=
  if 34 ∈ x then (if (sqAll x).start < x.length then (sqAll x).res ++ [cut x (some ((sqAll x).start : Int)) none] else (sqAll x).res).flatten else x
def opVal (v : Value) : Option Nat → Prop
  | none => v = .none
  | some a => ∃ t, v = .int (a : Int) t
section
variable {γ : GP} {c : Act} {n : Nat} {m : Loc} {N : Cells}
theorem f_strip {x : List Nat} {t : Tok} {Q : Value → Loc → Cells → Prop} (o : Ok (GS γ) (n + 3) c) (hz : x.length ≤ 1000) (hend : escEnd false x = false) (h : ∀ t, Q (.str (S (stripOf x)) t) m N) :
    TW (GS γ) c (call (.ref 52) [.str (S x) t]) m N Q := by
  refine t_callH [(Str.ofString "addr", .str (S x) t)] o (by rfl) (by rfl) (fun s X => BindsTo.of_eq (by rfl)) (locs (by rfl)) (by decide) (by rfl) (by rfl) (by rfl) (by rfl) ?_
  intro c' m' hs o' hL
  repeat walk_at "S"
  refine o_notin1 ?_
  repeat walk_at "S"
  by_cases hq : 34 ∈ x
  rotate_left
  · rw [decide_eq_false hq]
    refine t_true ?_
    repeat walk_at "S"
    have := h t
    rw [stripOf, if_neg hq] at this
    exact ⟨N, by walk_at "U", this⟩
  rw [decide_eq_true hq]
  refine t_false ?_
  repeat walk_at "S"
  refine ⟨by simp, fun D hD => ?_⟩
  repeat walk_at "S"
  refine t_ForGen (items := escItems 0 false x) (f := 45) (a := .str (S x) t) [(Str.ofString "addr", .str (S x) t)] o' ?h1 ?h2
    (by rfl) (by rfl) (by rfl) (fun s X => BindsTo.of_eq (by rfl)) (locs (by rfl)) (by decide) (by rfl) (by rfl) (by rfl) ?_ 
    (fun j m' N' => Ex4 fun (vs : List Value) (ep : Nat) (vo : Value) (ts : Tok) => And4 (N' = (D, listOf vs.toArray ep) :: N) (Strs vs (((escItems 0 false x).take j).foldl (sqStep x) ⟨0, none, []⟩).res) (opVal vo (((escItems 0 false x).take j).foldl (sqStep x) ⟨0, none, []⟩).op) (Has m' [(Str.ofString "addr", .str (S x) t), (Str.ofString "start", .int ((((escItems 0 false x).take j).foldl (sqStep x) ⟨0, none, []⟩).start : Nat) ts), (Str.ofString "open_pos", vo), (Str.ofString "result", .ref D)])) ?_ ?_ ?_ ?_ (by intro _; rfl) (by rfl) (by rfl)
  case h1 => walk_at "S"; exact ⟨rfl, rfl, rfl⟩
  case h2 => walk_at "S"; exact ⟨rfl, rfl, rfl⟩
  · intro A hB env s' hse hge hbe oA F
    have okf := fun body => OkA.func (body := body) (env := env) oA (by rw [hse]) hge hbe
    have hdom : s'.heap.objs.size ≠ env.locals ∧ s'.heap.objs.size + 1 ≠ env.locals ∧ hB.get? s'.heap.objs.size = none ∧ hB.get? (s'.heap.objs.size + 1) = none ∧ hB.get? env.locals = none := by
      obtain ⟨oL, _, _, hL, _⟩ := F.ns
      have := Heap.lt_size hL
      refine ⟨Nat.ne_of_gt this, Nat.ne_of_gt (Nat.lt_succ_of_lt this), ?_, ?_, ?_⟩
      · exact Heap.get?_none_of_le (Nat.le_trans F.above (Nat.le_of_lt this))
      · exact Heap.get?_none_of_le (Nat.le_trans F.above (Nat.le_of_lt (Nat.lt_succ_of_lt this)))
      · exact Heap.get?_none_of_le F.above
    refine seg_func ?_
    refine seg_execs_cons (seg_wrap (wpAny_Assign_Name (wpAny_Constant_int ?_) (by rfl)))
    refine raw_store (okf _) hse F (by rfl) fun h1 F1 hs1 => ?_
    refine seg_execs_cons (seg_wrap (wpAny_Assign_Name (wpAny_Constant_bool ?_) (by rfl)))
    refine raw_store (okf _) hse F1 (by rfl) fun h2 F2 hs2 => ?_
    have hz : h2.objs.size = s'.heap.objs.size := hs2.1.trans hs1.1
    have hold : ∀ b o, b ≠ env.locals → s'.heap.get? b = some o → h2.get? b = some o := fun b o hb e => hs2.extBut b o hb (hs1.extBut b o hb e)
    refine seg_execs_cons (seg_For (by intro _; rfl) fun E => ?_)
    with_reducible refine Call_ (raw_bui (v := .type "enumerate") (okf _) hse F2 ?e1 ?e2 ?e3 ?e4 ?_ ?e5) ?e6
    case e1 => rfl
    case e2 => rfl
    case e3 => decide
    case e4 => rfl
    case e5 => rfl
    case e6 => rfl
    with_reducible refine PySem.Pv.callWith_type1 (wpAny_items_cons (raw_local (v := .str (S x) t) (okf _) hse F2 ?e1 ?e4 (wpAny_items_nil ?_) ?e5) ?e6) ?e7 ?e8
    case e1 => rfl
    case e4 => rfl
    case e5 => rfl
    case e6 => rfl
    case e7 => rfl
    case e8 => rfl
    refine call_enumerate_str fun h3 he hit hsz hk => ?_
    replace he : IsEnum h3 (h2.objs.size + 1) h2.objs.size 0 .none := he
    replace hit : h3.IsStrIter h2.objs.size (strIterType (S x)) (S x) t 0 := hit
    replace hk : ∀ b o, h2.get? b = some o → h3.get? b = some o := hk
    rw [hz] at he hit
    intro E'
    show wpAny _ _ (pyIter (.ref (h2.objs.size + 1))) _ _ _
    rw [hz]
    refine wpAny_pyIter_enum he ?_
    intro p K' hK'
    have ga : GA hB env.locals (s'.heap.objs.size + 1) s'.heap.objs.size := ⟨Nat.succ_ne_self _, Ne.symm hdom.2.1, Ne.symm hdom.1, hdom.2.2.2.1, hdom.2.2.1, hdom.2.2.2.2⟩
    have okl := fun body b2 tg itv => OkA.loop (body := body) (b2 := b2) (target := tg) (it := itv) (K := K') (gd := false) (l := []) (p := p) (k := []) (env := env) oA (by rw [hse]) hge hbe
    have hco : env.scope.isCoroutine = false := by rw [hse]
    have hin : interactive env = false := inter_of (c := gAct A env hB (.func [] env) []) hse (by rfl)
    refine seg_enum_loop (x := x) (tk := t) ?hh ga (fun i k m => Ex3 fun esc pv tp => And6 (Has m [(Str.ofString "pos", .int pv tp), (Str.ofString "escape", .bool esc)]) (0 < i → pv = ((i - 1 : Nat) : Int)) (i = 0 → esc = false) (k = (escItems i esc (x.drop i)).length) (escEnd esc (x.drop i) = false) (∃ pre, escItems 0 false x = pre ++ escItems i esc (x.drop i))) ?_ ?_ _ 0 _ _ _ _ rfl (Nat.zero_le _) ⟨false, 0, s'.toks, ?_, by simp, by simp, by simp, by simpa using hend, [], by simp⟩ ⟨F2.keeps (fun b o e => hk _ _ e), ⟨_, he⟩, hit, ?_⟩
    case hh => exact fun c => oA.handled
    rotate_left 2
    · exact Has.cons ((Has.nil.set _ _).set _ _) (by rfl) (Has.cons ((Has.nil.set _ _).set _ _) (by rfl) Has.nil)
    · exact ⟨⟨rfl, fun _ _ e => e, id⟩, fun b o h1 _ _ e => hk _ _ (hold b o h1 e)⟩
    · rintro i d k s₁ s m1 T t1 u1 ep1 hd ⟨esc, pv, tp, hL1, hpv, hesc, rfl, hee, pre, hpre⟩ g ⟨oT, hoT, hcT, hdT⟩ hTn hT0 cont E1
      have hdr : x.drop i = d :: x.drop (i + 1) := by
        have hlt : i < x.length := (List.getElem?_eq_some_iff.mp hd).1
        rw [List.drop_eq_getElem_cons hlt]
        have : x[i] = d := by rw [List.getElem?_eq_getElem hlt] at hd; exact Option.some.inj hd
        rw [this]
      rw [hdr] at hpre hee ⊢
      refine wpAny_mono (run_tw (Q := fun _ m' _ => Has m' [(Str.ofString "ch", .str (S [d]) u1), (Str.ofString "pos", .int (i : Nat) t1), (Str.ofString "escape", .bool esc)]) g.F (t_pairO (okl _ _ _ _) (restOf_mem hoT hTn hT0) hcT hdT ?_)) ?_ fun _ _ e => e
      · have hs' : (gAct A env hB (.func [] env) []).env.scope = _ := hse
        refine t_storeH hL1 (okl _ _ _ _) hse (by rfl) fun m2 h2 => ?_
        refine t_storeH h2 (okl _ _ _ _) hse (by rfl) fun m3 h3 => ?_
        exact ⟨fun _ h => h, Has.cons h3 (by rfl) (Has.cons h3 (by rfl) (Has.cons h3 (by rfl) Has.nil))⟩
      rintro _ s2 ⟨m2, N2, K2, _, hL2⟩ H'
      have g2 := g.kept ga K2
      cases esc with
      | true =>
        rw [esc_t] at hpre ⊢
        rw [List.length_cons]
        refine seg_execs_cons (seg_If (Q := fun b m' => b = true ∧ m' = m2) g2.F ?_ ?_)
        · exact t_tval (t_localH hL2 (okl _ _ _ _) hse (by rfl) (by rfl) (b_bool ⟨fun _ h => h, rfl, rfl⟩) (by rfl)) (by rfl)
        rintro b m3 s3 K3 ⟨rfl, rfl⟩
        have g3 := g2.kept ga K3
        show Seg _ _ _ _ _ _ _ ((execs (_ :: _) env).wrap _ _ _ _) _ _
        refine seg_execs_cons (seg_yieldY (p := i) (ch := [92, d]) oA.handled ga g3 (by rfl) (by rfl) hco hin (item_at hpre) ?_ ?_)
        · refine TW.withOk (okl _ _ _ _) fun okX => ?_
          repeat walk_at "S"
          refine o_sadd (by simp) fun t5 => ?_
          repeat walk_at "S"
          exact ⟨by simp, fun D hD => ⟨fun _ h => .tail _ h, rfl, D, _, _, 0, rfl, .head _, hD⟩⟩
        · intro s4 g4
          show Seg _ _ _ _ _ _ _ ((execs (_ :: _) env).wrap _ _ _ _) _ _
          refine seg_stmts (Q := fun m' => Has m' [(Str.ofString "pos", .int (i : Nat) t1), (Str.ofString "escape", .bool false)]) g4.F ?_ ?_
          · refine TW.withOk (okl _ _ _ _) fun okX => ?_
            repeat walk_at "S"
            exact ⟨rfl, fun _ h => h, by walk_at "H"⟩
          · intro m5 s5 K5 h5
            exact seg_execs_nil (seg_execs_nil (cont _ _ _ m5 ⟨false, _, _, h5, fun _ => by simp, fun _ => rfl, rfl, hee, pre ++ [(i, [92, d])], by simpa using hpre⟩ (g4.kept ga K5)))
      | false =>
        refine seg_execs_cons (seg_If (Q := fun b m' => b = false ∧ m' = m2) g2.F ?_ ?_)
        · exact t_tval (t_localH hL2 (okl _ _ _ _) hse (by rfl) (by rfl) (b_bool ⟨fun _ h => h, rfl, rfl⟩) (by rfl)) (by rfl)
        rintro b m3 s3 K3 ⟨rfl, rfl⟩
        have g3 := g2.kept ga K3
        show Seg _ _ _ _ _ _ _ ((execs (_ :: _) env).wrap _ _ _ _) _ _
        refine seg_execs_cons (seg_If (Q := fun b m' => b = decide (d = 92) ∧ m' = m3) g3.F ?_ ?_)
        · refine TW.withOk (okl _ _ _ _) fun okX => ?_
          repeat walk_at "S"
          exact ⟨fun _ h => h, by simp, rfl⟩
        rintro b m4 s4 K4 ⟨rfl, rfl⟩
        have g4 := g3.kept ga K4
        by_cases h92 : d = 92
        · subst h92
          rw [esc_b] at hpre ⊢
          show Seg _ _ _ _ _ _ _ ((execs (_ :: _) env).wrap _ _ _ _) _ _
          refine seg_stmts (Q := fun m' => Has m' [(Str.ofString "pos", .int (i : Nat) t1), (Str.ofString "escape", .bool true)]) g4.F ?_ ?_
          · refine TW.withOk (okl _ _ _ _) fun okX => ?_
            repeat walk_at "S"
            exact ⟨rfl, fun _ h => h, by walk_at "H"⟩
          · intro m5 s5 K5 h5
            exact seg_execs_nil (seg_execs_nil (seg_execs_nil (cont _ _ _ m5 ⟨true, _, _, h5, fun _ => by simp, fun q => by (first | (revert q; walk_at "Z") | omega), rfl, hee, pre, hpre⟩ (g4.kept ga K5))))
        · rw [esc_f h92] at hpre ⊢
          rw [List.length_cons]
          have hee' : escEnd false (x.drop (i + 1)) = false := by simpa [escEnd, h92] using hee
          rw [show decide (d = 92) = false from decide_eq_false h92]
          show Seg _ _ _ _ _ _ _ ((execs (_ :: _) env).wrap _ _ _ _) _ _
          refine seg_execs_cons (seg_yieldY (p := i) (ch := [d]) oA.handled ga g4 (by rfl) (by rfl) hco hin (item_at hpre) ?_ ?_)
          · refine TW.withOk (okl _ _ _ _) fun okX => ?_
            repeat walk_at "S"
            exact ⟨by simp, fun D hD => ⟨fun _ h => .tail _ h, rfl, D, _, _, 0, rfl, .head _, hD⟩⟩
          · intro s5 g5
            exact seg_execs_nil (seg_execs_nil (seg_execs_nil (cont _ _ _ _ ⟨false, _, _, by walk_at "H", fun _ => by simp, fun _ => rfl, rfl, hee', pre ++ [(i, [d])], by simpa using hpre⟩ g5)))
    · rintro k s₁ s m1 ⟨esc, pv, tp, hL1, hpv, hesc, rfl, hee, pre, hpre⟩ F3 hsin
      have hdl : x.drop x.length = [] := by simp
      rw [hdl] at hee ⊢
      have hesc0 : esc = false := hee
      subst hesc0
      refine seg_again rfl ?_
      show Seg _ _ _ _ _ _ _ (leafOf (.ok .next)) _ _
      refine seg_leaf (.ok .next) (hK' _ _ _ ?_)
      show Seg _ _ _ _ _ _ _ ((execs (_ :: _) env).wrap _ _ _ _) _ _
      refine seg_execs_cons (seg_If (Q := fun b m' => b = false ∧ m' = m1) F3 ?_ ?_)
      · exact t_tval (t_localH hL1 (okf _) hse (by rfl) (by rfl) (b_bool ⟨fun _ h => h, rfl, rfl⟩) (by rfl)) (by rfl)
      rintro b m3 s3 K3 ⟨rfl, rfl⟩
      show Seg _ _ _ _ _ _ _ ((execs [] env).wrap _ _ _ _) _ _
      refine seg_execs_nil (seg_execs_nil ?_)
      show Seg _ _ _ _ _ _ _ (leafOf (.ok (.ret .none))) _ _
      exact seg_end _ ⟨rfl, rfl, hsin.kept K3⟩
  · rintro j m' N' ⟨vs, ep, vo, ts, rfl, _⟩; rfl
  · exact ⟨[], 0, .none, _, rfl, .nil, rfl, by walk_at "H"⟩
  · rintro j m' N' T p ch t1 u1 ep1 Own hit ⟨vs, ep, vo, ts, rfl, hv, ho, hL⟩ hT hO
    rw [foldl_take hit]
    have hTD : T ≠ D := fun e => hT _ (List.mem_append.mpr (.inr (.head _))) e.symm
    have hOD : ∀ q ∈ Own, q.1 ≠ D := fun q hq e => hO q hq _ (.head _) e.symm
    have hmD : (D, listOf vs.toArray ep) ∈ (T, tupOf [.int (p : Nat) t1, .str (S ch) u1].toArray ep1) :: (Own ++ (D, listOf vs.toArray ep) :: N) := .tail _ (List.mem_append.mpr (.inr (.head _)))
    have hres : (((escItems 0 false x).take j).foldl (sqStep x) ⟨0, none, []⟩).res.length ≤ j := by
      have := (sq_len x ((escItems 0 false x).take j) ⟨0, none, []⟩).1
      simp only [List.length_nil, List.length_take] at this
      (first | (revert this; walk_at "Z") | omega)
    have hjl : j ≤ 1001 := by
      have := esc_len x 0 false
      have h2 := (List.getElem?_eq_some_iff.mp hit).1
      (first | (revert h2 hz this; walk_at "Z") | omega)
    generalize ((escItems 0 false x).take j).foldl (sqStep x) ⟨0, none, []⟩ = q at hv ho hL hres ⊢
    obtain ⟨st, op, res⟩ := q
    simp only [] at hv ho hL hres ⊢
    have hvl := hv.len
    refine t_pair (o'.mono (k := n) (by (first | walk_at "Z" | walk_at "O"))) (.head _) ?_
    repeat walk_at "S"
    refine t_dec (fun hch => ?_) (fun hch => ?_)
    · subst hch
      repeat walk_at "S"
      cases op with
      | none =>
        rw [sq_q0]
        have hvo : vo = .none := ho
        subst hvo
        refine t_true ?_
        repeat walk_at "S"
        exact ⟨(D, listOf vs.toArray ep) :: N, fun _ h => .tail _ h, vs, ep, _, _, rfl, hv, ⟨_, rfl⟩, by walk_at "H"⟩
      | some a =>
        rw [sq_q1]
        obtain ⟨ta, hvo⟩ : ∃ t, vo = .int (a : Int) t := ho
        subst hvo
        refine t_false ?_
        repeat walk_at "S"
        refine t_dec (fun hne => ?_) (fun hne => ?_)
        · repeat walk_at "S"
          refine m_append hmD rfl rfl ?_
          repeat walk_at "S"
          refine sl_str (x := x) (by (first | (revert hz; walk_at "Z") | walk_at "O")) (.int _ _) (.int _ _) fun t5 => ?_
          repeat walk_at "S"
          refine a_append (vs := vs) hmD (by (first | (revert hjl hres hvl; walk_at "Z") | walk_at "O")) fun ep' => ?_
          refine ⟨trivial, ?_⟩
          repeat walk_at "S"
          refine ⟨(D, listOf (vs ++ [Value.str (S (cut x (some (st : Int)) (some (a : Int)))) t5]).toArray ep') :: N, ?_, vs ++ [Value.str (S (cut x (some (st : Int)) (some (a : Int)))) t5], ep', .none, _, rfl, ?_, rfl, by walk_at "H"⟩
          · intro q hq
            rw [put_tail hTD, put_app hOD, put_head hD]
            exact .tail _ hq
          · rw [if_pos (show st ≠ a by (first | (revert hne; walk_at "Z") | omega))]
            exact hv.snoc _ _
        · repeat walk_at "S"
          refine ⟨(D, listOf vs.toArray ep) :: N, fun _ h => .tail _ h, vs, ep, .none, _, rfl, ?_, rfl, by walk_at "H"⟩
          rw [if_neg (show ¬ (st ≠ a) by (first | (revert hne; walk_at "Z") | omega))]
          exact hv
    · repeat walk_at "S"
      rw [sq_o hch]
      exact ⟨(D, listOf vs.toArray ep) :: N, fun _ h => .tail _ h, vs, ep, vo, ts, rfl, hv, ho, by walk_at "H"⟩
  · rintro m' N' ⟨vs, ep, vo, ts, rfl, hv, ho, hL⟩
    rw [List.take_length] at hv ho hL
    have hall : (escItems 0 false x).foldl (sqStep x) ⟨0, none, []⟩ = sqAll x := rfl
    rw [hall] at hv ho hL
    have hst : stripOf x = (if (sqAll x).start < x.length then (sqAll x).res ++ [cut x (some ((sqAll x).start : Int)) none] else (sqAll x).res).flatten := by rw [stripOf, if_pos hq]
    have hfl := sqAll_flat hz
    have hvl := hv.len
    generalize sqAll x = qa at hv ho hL hst hfl hvl
    repeat walk_at "S"
    refine a_lens (by (first | (revert hz; walk_at "Z") | walk_at "O")) fun t5 => ?_
    repeat walk_at "S"
    refine t_dec (fun hlt => ?_) (fun hlt => ?_)
    · rw [if_pos (show qa.start < x.length by (first | (revert hlt; walk_at "Z") | omega))] at hst
      repeat walk_at "S"
      refine m_append (.head _) rfl rfl ?_
      repeat walk_at "S"
      refine sl_str (x := x) (by (first | (revert hz; walk_at "Z") | walk_at "O")) (.int _ _) .none fun t5 => ?_
      repeat walk_at "S"
      refine a_append (vs := vs) (.head _) (by (first | (revert hfl hvl; walk_at "Z") | walk_at "O")) fun ep' => ?_
      refine ⟨trivial, ?_⟩
      rw [put_head hD]
      repeat walk_at "S"
      have hcl := cut_len x (some (qa.start : Int)) none
      refine a_join (.head _) (hv.snoc _ _) (by rw [List.flatten_append]; simp only [List.length_append, List.flatten_cons, List.flatten_nil, List.append_nil]; (first | (revert hcl hfl hz; walk_at "Z") | omega)) fun t6 => ?_
      repeat walk_at "S"
      have := h t6
      rw [hst] at this
      exact ⟨N, by walk_at "U", this⟩
    · rw [if_neg (show ¬ qa.start < x.length by (first | (revert hlt; walk_at "Z") | omega))] at hst
      repeat walk_at "S"
      refine a_join (.head _) hv (by (first | (revert hfl; walk_at "Z") | walk_at "O")) fun t6 => ?_
      repeat walk_at "S"
      have := h t6
      rw [hst] at this
      exact ⟨N, by walk_at "U", this⟩
end

-- h1
section
variable {γ : GP} {c : Act} {n : Nat} {m : Loc} {N : Cells}
theorem isStr {s : Shared} {x : Str} {t : Tok} : s.TypeIs (.str x t) "str" := rfl
theorem f_conv {self : Value} {x : List Nat} {t : Tok} {b : Bool} {Q : Value → Loc → Cells → Prop} (o : Ok (GS γ) (n + 1) c) (hn : NoCtl x) (hz : x.length ≤ 16777216) (h : Q (.str (S x) t) m N) :
    TW (GS γ) c (call (.ref 118) [self, .str (S x) t] [(Str.ofString "name", .bool b)]) m N Q := by
  refine t_callH [(Str.ofString "self", self), (Str.ofString "value", .str (S x) t), (Str.ofString "name", .bool b)] o (by rfl) (by rfl) (fun s X => BindsTo.of_eq (by rfl)) (locs (by rfl)) (by decide) (by rfl) (by rfl) (by rfl) (by rfl) ?_
  intro c' m' hs o' hL
  repeat walk_at "S"
  refine a_type (fun s _ => isStr) (by decide) ?_
  repeat walk_at "S"
  refine o_istype ?_
  repeat walk_at "S"
  refine t_pos (by decide) ?_
  repeat walk_at "S"
  cases b with
  | true =>
    refine t_true ?_
    repeat walk_at "S"
    refine g_search o' (by rfl) ?_
    repeat walk_at "S"
    refine a_searchN (C := 82) o' (by rfl) (by rfl) (by rfl) (by rfl) (by rfl) (.inl (by decide +kernel)) hz hn ?_
    repeat walk_at "S"
    refine t_false ?_
    repeat walk_at "S"
    exact ⟨N, by walk_at "U", h⟩
  | false =>
    refine t_false ?_
    repeat walk_at "S"
    refine g_search o' (by rfl) ?_
    repeat walk_at "S"
    refine a_searchN (C := 87) o' (by rfl) (by rfl) (by rfl) (by rfl) (by rfl) (.inr (by decide +kernel)) hz hn ?_
    repeat walk_at "S"
    refine t_false ?_
    repeat walk_at "S"
    exact ⟨N, by walk_at "U", h⟩
/-- what a Headers holds -/
structure HdrIs (x dx H : Addr) (N : Cells) : Prop where
  ins : ∃ hsh t, InsIs 219 x dx [⟨hsh, .str (Str.ofString "_headers") t, .ref H⟩] 1 N
theorem f_new {H : Addr} {ep : Nat} {Q : Value → Loc → Cells → Prop} (o : Ok (GS γ) (n + 3) c) (hm : (H, listOf [].toArray ep) ∈ N) (h : ∀ x dx N', Fresh x N → Fresh dx N → (∀ p ∈ N, p ∈ N') → HdrIs x dx H N' → Q (.ref x) m N') :
    TW (GS γ) c (call (.ref 219) [.ref H]) m N Q := by
  refine t_make (f := 111) (fun x => [(Str.ofString "self", .ref x), (Str.ofString "headers", .ref H)]) o (by rfl) (by rfl) (by rfl) (by rfl) (by rfl) (fun x s X => kp_binds X (by intro _; rfl)) (fun x => locs (by rfl)) (by decide) (by rfl) (by rfl) (by rfl) (fun x => by rfl) ?_
  intro c' m' x dx hs o' hL hFx hFd hne
  repeat walk_at "S"
  refine t_pos (by rfl) ?_
  repeat walk_at "S"
  refine a_type (fun s N' => (isList_of (N'.get (.tail _ (.tail _ hm)))).typeIs) (by decide) ?_
  repeat walk_at "S"
  refine o_isnottype ?_
  repeat walk_at "S"
  refine t_neg (by rfl) ?_
  repeat walk_at "S"
  refine a_setattr1 o' hFd hne (by rfl) (by rfl) (by rfl) (by rfl) fun hsh tk => ?_
  repeat walk_at "S"
  refine t_true ?_
  repeat walk_at "S"
  walk_at "F"
  repeat walk_at "S"
  refine for_itP o' (it_list (vs := []) (.tail _ (.tail _ hm))) (by simpa using hm) (fun i m' => True) trivial (fun I o'' i m' v hi => absurd hi (by simp)) (fun m' _ => ?_)
  repeat walk_at "S"
  exact ⟨_, fun _ h => h, rfl, h x dx _ hFx hFd (fun _ h => .tail _ (.tail _ h)) ⟨_, _, .head _, .tail _ (.head _)⟩⟩
def hget (ps : List (List Nat × List Nat)) (a : List Nat) : Option (List Nat) := (ps.find? fun p => p.1.map lo1 = a.map lo1).map (·.2)
def GetR (D : Value) (r : Value) : Option (List Nat) → Prop
  | some y => ∃ t, r = .str (S y) t
  | none => r = D
theorem noctl_lower {a : List Nat} (h : NoCtl a) : NoCtl (a.map lo1) := by
  intro d hd
  obtain ⟨e, he, rfl⟩ := List.mem_map.mp hd
  have := h e he
  unfold lo1; split <;> (first | (revert this; walk_at "Z") | omega)
theorem hget_none {ps : List (List Nat × List Nat)} {a : List Nat} (h : ∀ p ∈ ps, p.1.map lo1 ≠ a.map lo1) : hget ps a = none := by
  unfold hget
  rw [List.find?_eq_none.mpr]; rfl
  intro p hp; simpa using h p hp
theorem hget_at {ps : List (List Nat × List Nat)} {a : List Nat} {i : Nat} {p : List Nat × List Nat} (hi : ps[i]? = some p) (h : ∀ q ∈ ps.take i, q.1.map lo1 ≠ a.map lo1) (he : p.1.map lo1 = a.map lo1) : hget ps a = some p.2 := by
  have hlt := (List.getElem?_eq_some_iff.mp hi).1
  have e := (List.getElem?_eq_some_iff.mp hi).2
  unfold hget
  have : ps = ps.take i ++ p :: ps.drop (i + 1) := by
    rw [← e, List.getElem_cons_drop, List.take_append_drop]
  rw [this, List.find?_append, List.find?_eq_none.mpr (by intro q hq; simpa using h q hq)]
  simp [he]
theorem f_get {x dx H : Addr} {args : List Value} {D : Value} {vs : List Value} {ps : List (List Nat × List Nat)} {ep : Nat} {a : List Nat} {t : Tok} {Q : Value → Loc → Cells → Prop} (o : Ok (GS γ) (n + 2) c)
    (hargs : (args = [.ref x, .str (S a) t] ∧ D = .none) ∨ args = [.ref x, .str (S a) t, D]) (I : HdrIs x dx H N) (hm : (H, listOf vs.toArray ep) ∈ N) (hp : Prs N vs ps) (ha : Ascii a) (hn : NoCtl a) (hz : a.length ≤ 1000000)
    (hps : ∀ p ∈ ps, Ascii p.1 ∧ p.1.length ≤ 1000000) (hl : ps.length ≤ 1000000) (h : ∀ r, GetR D r (hget ps a) → Q r m N) : TW (GS γ) c (call (.ref 166) args) m N Q := by
  refine t_callH [(Str.ofString "self", .ref x), (Str.ofString "name", .str (S a) t), (Str.ofString "default", D)] o (by rfl) (by rfl) (fun s X => ?_) (locs (by rfl)) (by decide) (by rfl) (by rfl) (by rfl) (by rfl) ?_
  · rcases hargs with ⟨rfl, rfl⟩ | rfl
    · exact kp_binds X (by intro _; rfl)
    · exact kp_binds X (by intro _; rfl)
  intro c' m' hs o' hL
  have hlen := hp.len
  obtain ⟨hsh, t0, J⟩ := I.ins
  repeat walk_at "S"
  refine mk_inst o' J (by rfl) (by rfl) (by rfl) (by rfl) ?_
  repeat walk_at "S"
  refine a_lower ha (by (first | (revert hz; walk_at "Z") | walk_at "O")) fun t1 => ?_
  repeat walk_at "S"
  refine f_conv o' (noctl_lower hn) (by simpa using (by (first | (revert hz; walk_at "Z") | omega) : a.length ≤ 16777216)) ?_
  repeat walk_at "S"
  walk_at "F"
  repeat walk_at "S"
  refine a_attr o' J (by rfl) (by rfl) (by rfl) (by rfl) (by rfl) (by rfl) ?_
  refine for_itP o' (it_list hm) (by simpa using hm) (fun i m' => Has m' [(Str.ofString "self", .ref x), (Str.ofString "name", .str (S (a.map lo1)) t1), (Str.ofString "default", D)] ∧ ∀ q ∈ ps.take i, q.1.map lo1 ≠ a.map lo1) ?_ ?_ ?_
  · exact ⟨by walk_at "H", by simp⟩
  · rintro i o'' i m' v hi hI ⟨hL, hq⟩ hv _ _
    have hi' : i < ps.length := by (first | (revert hi hlen; walk_at "Z") | omega)
    obtain ⟨T, t2, u2, ep2, hv2, hT⟩ := hp.get (a := ps[i].1) (b := ps[i].2) (List.getElem?_eq_getElem hi')
    rw [hv2] at hv
    obtain rfl := Option.some.inj hv
    have hpi := hps _ (List.getElem_mem hi')
    refine t_pair o' (.tail _ hT) ?_
    repeat walk_at "S"
    refine a_lower hpi.1 (by (first | (revert hpi; walk_at "Z") | walk_at "O")) fun t3 => ?_
    repeat walk_at "S"
    refine t_dec (fun he => ?_) (fun he => ?_)
    · repeat walk_at "S"
      exact ⟨fun _ h => .tail _ h, ⟨N, fun _ h => h, h _ (by rw [hget_at (List.getElem?_eq_getElem hi') hq he]; exact ⟨_, rfl⟩)⟩⟩
    · repeat walk_at "S"
      refine ⟨fun _ h => h, by walk_at "H", fun q hq' => ?_⟩
      rw [List.take_succ_eq_append_getElem hi'] at hq'
      rcases List.mem_append.mp hq' with hq' | hq'
      · exact hq q hq'
      · simp at hq'; subst hq'; exact he
  · rintro m' ⟨hL, hq⟩
    rw [hlen, List.take_length] at hq
    repeat walk_at "S"
    exact ⟨N, by walk_at "U", h _ (by rw [hget_none hq]; rfl)⟩
theorem f_contains {x dx H : Addr} {vs : List Value} {ps : List (List Nat × List Nat)} {ep : Nat} {a : List Nat} {t : Tok} {Q : Value → Loc → Cells → Prop} (o : Ok (GS γ) (n + 3) c)
    (I : HdrIs x dx H N) (hm : (H, listOf vs.toArray ep) ∈ N) (hp : Prs N vs ps) (ha : Ascii a) (hn : NoCtl a) (hz : a.length ≤ 1000000)
    (hps : ∀ p ∈ ps, Ascii p.1 ∧ p.1.length ≤ 1000000) (hl : ps.length ≤ 1000000) (h : Q (.bool (hget ps a).isSome) m N) : TW (GS γ) c (call (.ref 151) [.ref x, .str (S a) t]) m N Q := by
  refine t_callH [(Str.ofString "self", .ref x), (Str.ofString "name", .str (S a) t)] o (by rfl) (by rfl) (fun s X => BindsTo.of_eq (by rfl)) (locs (by rfl)) (by decide) (by rfl) (by rfl) (by rfl) (by rfl) ?_
  intro c' m' hs o' hL
  obtain ⟨hsh, t0, J⟩ := I.ins
  repeat walk_at "S"
  refine m_inst o' J (by rfl) (by rfl) (by rfl) (by rfl) ?_
  repeat walk_at "S"
  refine f_get o' (.inl ⟨rfl, rfl⟩) I hm hp ha hn hz hps hl fun r hr => ?_
  repeat walk_at "S"
  have e : (!(r == Value.none)) = (hget ps a).isSome := by
    cases q : hget ps a with
    | none => rw [q] at hr; rw [show r = .none from hr]; rfl
    | some y => rw [q] at hr; obtain ⟨t, rfl⟩ := hr; rfl
  rw [e]
  exact ⟨N, by walk_at "U", h⟩
theorem f_items {x dx H : Addr} {vs : List Value} {ep : Nat} {Q : Value → Loc → Cells → Prop} (o : Ok (GS γ) (n + 1) c)
    (I : HdrIs x dx H N) (hm : (H, listOf vs.toArray ep) ∈ N) (hl : vs.length ≤ 1000000) (h : ∀ D, Fresh D N → Q (.ref D) m ((D, listOf vs.toArray 0) :: N)) : TW (GS γ) c (call (.ref 183) [.ref x]) m N Q := by
  refine t_callH [(Str.ofString "self", .ref x)] o (by rfl) (by rfl) (fun s X => BindsTo.of_eq (by rfl)) (locs (by rfl)) (by decide) (by rfl) (by rfl) (by rfl) (by rfl) ?_
  intro c' m' hs o' hL
  obtain ⟨hsh, t0, J⟩ := I.ins
  repeat walk_at "S"
  refine a_attr o' J (by rfl) (by rfl) (by rfl) (by rfl) (by rfl) (by rfl) ?_
  repeat walk_at "S"
  refine sl_list hm (by (first | (revert hl; walk_at "Z") | walk_at "O")) .none .none fun D hD => ?_
  have e : cut vs none none = vs := by simp [cut]
  rw [e]
  exact ⟨_, by walk_at "U", h D hD⟩
theorem f_add {x dx H : Addr} {vs : List Value} {ep : Nat} {a b : List Nat} {t u : Tok} {Q : Value → Loc → Cells → Prop} (o : Ok (GS γ) (n + 2) c)
    (I : HdrIs x dx H N) (hm : (H, listOf vs.toArray ep) ∈ N) (hna : NoCtl a) (hnb : NoCtl b) (hz : a.length ≤ 1000000) (hzb : b.length ≤ 1000000) (hl : vs.length ≤ 1000000)
    (h : ∀ T t' ep' ep2, Fresh T N → Q .none m (put H (listOf (vs ++ [Value.ref T]).toArray ep') ((T, tupOf [Value.str (S a) t, .str (S b) t'].toArray ep2) :: N))) :
    TW (GS γ) c (call (.ref 216) [.ref x, .str (S a) t, .str (S b) u]) m N Q := by
  refine t_callKW (fun d => [(Str.ofString "self", .ref x), (Str.ofString "_name", .str (S a) t), (Str.ofString "_value", .str (S b) u), (Str.ofString "_params", .ref d)]) o (by rfl) (by rfl) (by rfl) (fun d => locs (by rfl)) (by decide) (by rfl) (by rfl) (by rfl) (fun d => by rfl) ?_
  intro c' m' d hs o' hL hFd hd
  obtain ⟨hsh, t0, J⟩ := I.ins
  repeat walk_at "S"
  refine ⟨by simp, fun D hD => ?_⟩
  repeat walk_at "S"
  refine t_pos (by rfl) ?_
  repeat walk_at "S"
  refine mk_inst o' J.tail.tail (by rfl) (by rfl) (by rfl) (by rfl) ?_
  repeat walk_at "S"
  refine f_conv o' hnb (by (first | (revert hzb; walk_at "Z") | walk_at "O")) ?_
  repeat walk_at "S"
  refine m_append (.head _) rfl rfl ?_
  repeat walk_at "S"
  refine a_append (vs := []) (.head _) (by simp) fun ep1 => ?_
  refine ⟨trivial, ?_⟩
  have hDd : D ≠ d := fun e => hD _ (.head _) e.symm
  rw [put_head hD]
  repeat walk_at "S"
  walk_at "F"
  repeat walk_at "S"
  refine g_items (.tail _ (.head _)) ?_
  repeat walk_at "S"
  refine a_items (.tail _ (.head _)) hd fun v hv => ?_
  refine for_items0 o' (.head _) (.tail _ (.tail _ (.head _))) ?_
  repeat walk_at "S"
  refine a_attr o' J.tail.tail.tail (by rfl) (by rfl) (by rfl) (by rfl) (by rfl) (by rfl) ?_
  refine m_append (.tail _ (.tail _ (.tail _ hm))) rfl rfl ?_
  repeat walk_at "S"
  refine mk_inst o' J.tail.tail.tail (by rfl) (by rfl) (by rfl) (by rfl) ?_
  repeat walk_at "S"
  refine f_conv o' hna (by (first | (revert hz; walk_at "Z") | walk_at "O")) ?_
  repeat walk_at "S"
  refine a_join1 (.tail _ (.head _)) (by show b.length + 2 ≤ 16777216; (first | (revert hzb; walk_at "Z") | omega)) fun t2 => ?_
  repeat walk_at "S"
  refine ⟨by simp, fun T hT => ?_⟩
  repeat walk_at "S"
  refine a_append (vs := vs) (.tail _ (.tail _ (.tail _ (.tail _ hm)))) (by (first | (revert hl; walk_at "Z") | walk_at "O")) fun ep' => ?_
  refine ⟨trivial, ?_⟩
  repeat walk_at "S"
  refine ⟨_, put_sub ?_, h T t2 ep' 0 (hT.sub fun p hp => .tail _ (.tail _ (.tail _ hp)))⟩
  intro p hp
  rcases List.mem_cons.mp hp with rfl | hp
  · exact .head _
  · exact .tail _ (.tail _ (.tail _ (.tail _ hp)))
end

-- v1
/-- a number to the base 64, read from octets: what stands behind val -/
def vmore (val : Nat) : List Nat → Option (Nat × List Nat)
  | [] => none
  | b :: r => if b / 64 % 2 = 1 then vmore (val * 64 + b % 64) r else some (val * 64 + b % 64, r)
theorem vmore_head {b val v : Nat} {r r' : List Nat} (h : vmore val (b :: r) = some (v, r')) : (b / 64 % 2 = 1 ∧ vmore (val * 64 + b % 64) r = some (v, r')) ∨ (b / 64 % 2 ≠ 1 ∧ v = val * 64 + b % 64 ∧ r' = r) := by
  unfold vmore at h
  split at h
  · rename_i q; exact .inl ⟨q, h⟩
  · rename_i q; simp at h; exact .inr ⟨q, h.1.symm, h.2.symm⟩
theorem ints_get {vs : List Value} {bs : List Nat} (h : IntsAre vs (bs.map fun (b : Nat) => (b : Int))) {i : Nat} {b : Nat} {r : List Nat} (e : bs.drop i = b :: r) : ∃ t, vs[i]? = some (.int (b : Int) t) := by
  induction bs generalizing vs i with
  | nil => simp at e
  | cons c bs ih =>
    cases h with
    | cons x t h =>
      cases i with
      | zero => simp at e; obtain ⟨rfl, rfl⟩ := e; exact ⟨t, rfl⟩
      | succ i => simp at e; simpa using ih h e
theorem drop_more {bs : List Nat} {i b : Nat} {r : List Nat} (e : bs.drop i = b :: r) : bs.drop (i + 1) = r := by
  rw [← List.drop_drop, e]; rfl
section
variable {γ : GP} {c : Act} {n : Nat} {m : Loc} {N : Cells}
theorem f_varint {I l : Addr} {ob : Obj} {vs : List Value} {ep i v : Nat} {bs r : List Nat} {Q : Value → Loc → Cells → Prop} (o : Ok (GS γ) (n + 1) c) (hm : (I, ob) ∈ N) (hi : isLI l i ob) (hl : (l, listOf vs.toArray ep) ∈ N) (hne : l ≠ I)
    (hb : IntsAre vs (bs.map fun (b : Nat) => (b : Int))) (hlen : bs.length ≤ 100000) (hread : vmore 0 (bs.drop i) = some (v, r)) (h : ∀ t ob' j, isLI l j ob' → bs.drop j = r → Q (.int v t) m (put I ob' N)) :
    TW (GS γ) c (call (.ref 59) [.ref I]) m N Q := by
  refine t_callH [(Str.ofString "iterator", .ref I)] o (by rfl) (by rfl) (fun s X => BindsTo.of_eq (by rfl)) (locs (by rfl)) (by decide) (by rfl) (by rfl) (by rfl) (by rfl) ?_
  intro c' m' hs o' hL
  obtain ⟨b, r0, e0⟩ : ∃ b r0, bs.drop i = b :: r0 := by
    cases e : bs.drop i with
    | nil => rw [e] at hread; simp [vmore] at hread
    | cons b r0 => exact ⟨b, r0, rfl⟩
  obtain ⟨t0, hx⟩ := ints_get hb e0
  repeat walk_at "S"
  refine a_next hm hi hl hx fun ob1 hi1 => ?_
  repeat walk_at "S"
  rw [e0] at hread
  have ed := drop_more e0
  rw [← ed] at hread
  simp only [band_63] at *
  refine t_While (fun d m' N' => Ex6 fun j b0 val tb tv obj => And6 (N' = put I obj N) (isLI l j obj) (d = (bs.drop j).length) (val < 64 ^ j) (Has m' [(Str.ofString "iterator", .ref I), (Str.ofString "b", .int (b0 : Nat) tb), (Str.ofString "val", .int (val : Nat) tv)]) ((b0 / 64 % 2 = 1 ∧ vmore val (bs.drop j) = some (v, r)) ∨ (b0 / 64 % 2 ≠ 1 ∧ v = val ∧ r = bs.drop j))) _ ⟨i + 1, b, b % 64, _, _, ob1, rfl, hi1, rfl, ?_, by walk_at "H", ?_⟩ ?_
  · have : 64 ^ 1 ≤ 64 ^ (i + 1) := Nat.pow_le_pow_right (by decide) (by (first | walk_at "Z" | walk_at "O"))
    have := Nat.mod_lt b (show 64 > 0 by decide)
    omega
  · rcases vmore_head hread with ⟨h1, h2⟩ | ⟨h1, h2, h3⟩
    · exact .inl ⟨h1, by simpa using h2⟩
    · exact .inr ⟨h1, by (first | (revert h2; walk_at "Z") | omega), h3⟩
  rintro d m1 N1 ⟨j, b0, val, tb, tv, obj, rfl, hj, rfl, hval, hL, hc⟩ _ _
  repeat walk_at "S"
  rw [band_64]
  have hl' : (l, listOf vs.toArray ep) ∈ put I obj N := put_other hl hne
  have hm' : (I, obj) ∈ put I obj N := put_mem hm
  rcases hc with ⟨hc, hv⟩ | ⟨hc, rfl, rfl⟩
  · rw [hc]
    refine t_pos (by decide) ?_
    obtain ⟨b1, r1, e1⟩ : ∃ b1 r1, bs.drop j = b1 :: r1 := by
      cases e : bs.drop j with
      | nil => rw [e] at hv; simp [vmore] at hv
      | cons b r => exact ⟨b, r, rfl⟩
    obtain ⟨t1, hx1⟩ := ints_get hb e1
    have hjl : j < bs.length := by
      rcases Nat.lt_or_ge j bs.length with q | q
      · exact q
      · rw [List.drop_of_length_le q] at e1; cases e1
    have ed1 := drop_more e1
    rw [e1] at hv
    repeat walk_at "S"
    have hbits : PySem.Builtin.Int.intBits ((val : Nat) : Int) ≤ 6 * j := by
      refine intBits_le_iff.mpr ?_
      rw [Nat.pow_mul]; exact hval
    refine i_shl (by decide) (by (first | (revert hbits hjl hlen; walk_at "Z") | walk_at "O")) fun t2 => ?_
    repeat walk_at "S"
    refine a_next hm' hj hl' hx1 fun ob2 hi2 => ?_
    rw [put_put]
    repeat walk_at "S"
    have e6 : ((val : Nat) : Int) * 2 ^ (Int.toNat 6) = ((val * 64 : Nat) : Int) := by push_cast; rfl
    simp only [band_63, e6, bor_low _ _ (Nat.mod_lt b1 (show 64 > 0 by decide))] at *
    refine ⟨(bs.drop (j + 1)).length, put I ob2 N, by simp; (first | (revert hjl; walk_at "Z") | omega), fun _ h => h, j + 1, b1, val * 64 + b1 % 64, _, _, ob2, rfl, hi2, rfl, ?_, by walk_at "H", ?_⟩
    · have := Nat.mod_lt b1 (show 64 > 0 by decide)
      rw [Nat.pow_succ]; (first | (revert hval; walk_at "Z") | omega)
    · rcases vmore_head hv with ⟨h1, h2⟩ | ⟨h1, h2, h3⟩
      · exact .inl ⟨h1, by rw [ed1]; exact h2⟩
      · exact .inr ⟨h1, h2, by rw [ed1]; exact h3⟩
  · have hc0 : b0 / 64 % 2 = 0 := by (first | (revert hc; walk_at "Z") | omega)
    rw [hc0]
    refine t_neg (by decide) ?_
    repeat walk_at "S"
    exact ⟨_, fun _ h => h, h _ _ _ hj rfl⟩
end

-- l1
def subst (a b : Nat) : Int := if a = b then 0 else if lo1 a = lo1 b then 1 else 2
def trimP : List Nat → List Nat → List Nat × List Nat
  | x :: a, y :: b => if x = y then trimP a b else (x :: a, y :: b)
  | a, b => (a, b)
structure LS where
  row : List Int
  d : Int
  res : Int
  mn : Int
def lstep (y : Nat) (a : List Nat) (s : LS) (i : Nat) : LS :=
  let res' := min (min s.res (s.row.getD i 0) + 2) (s.d + subst y (a.getD i 0))
  ⟨s.row.set i res', s.row.getD i 0, res', if res' < s.mn then res' else s.mn⟩
def lrow (y : Nat) (a : List Nat) (bi : Nat) (row : List Int) : Nat → LS
  | 0 => ⟨row, bi * 2, bi * 2, 9223372036854775807⟩
  | i + 1 => lstep y a (lrow y a bi row i) i
def lgo (a b : List Nat) (mc : Int) : Nat → Nat → List Int → Int → Int
  | 0, _, _, res => res
  | k + 1, j, row, _ =>
    let s := lrow (b.getD j 0) a j row a.length
    if mc < s.mn then mc + 1 else lgo a b mc k (j + 1) s.row s.res
def lev3 (a b : List Nat) (mc : Int) : Int :=
  if mc < ((b.length : Int) - a.length) * 2 then mc + 1 else lgo a b mc b.length 0 ((List.range a.length).map fun (i : Nat) => (2 : Int) + i * 2) 0
def lev2 (a b : List Nat) (mc : Int) : Int :=
  if a = [] ∨ b = [] then 2 * ((a.length : Int) + b.length) else if b.length < a.length then lev3 b a mc else lev3 a b mc
def lev1 (a b : List Nat) (mc : Int) : Int :=
  let p := trimP a b
  let q := trimP p.1.reverse p.2.reverse
  lev2 q.1.reverse q.2.reverse mc
def lev (a b : List Nat) (mc : Int) : Int := if a = b then 0 else lev1 a b mc

theorem trimP_len : ∀ a b : List Nat, (trimP a b).1.length ≤ a.length ∧ (trimP a b).2.length ≤ b.length
  | [], b => by unfold trimP; simp
  | x :: a, [] => by unfold trimP; simp
  | x :: a, y :: b => by
    unfold trimP
    split
    · have := trimP_len a b; simp; (first | (revert this; walk_at "Z") | omega)
    · simp
theorem trimP_end {a b : List Nat} (h : ∀ x a' y b', a = x :: a' → b = y :: b' → x ≠ y) : trimP a b = (a, b) := by
  cases a with
  | nil => unfold trimP; rfl
  | cons x a =>
    cases b with
    | nil => unfold trimP; rfl
    | cons y b => unfold trimP; rw [if_neg (h x a y b rfl rfl)]
theorem trimP_step {x : Nat} {a b : List Nat} : trimP (x :: a) (x :: b) = trimP a b := by conv => lhs; unfold trimP; rw [if_pos rfl]
theorem trimP_sub : ∀ a b : List Nat, (∀ d ∈ (trimP a b).1, d ∈ a) ∧ ∀ d ∈ (trimP a b).2, d ∈ b
  | [], b => by unfold trimP; simp
  | x :: a, [] => by unfold trimP; simp
  | x :: a, y :: b => by
    unfold trimP
    split
    · have := trimP_sub a b
      exact ⟨fun d h => .tail _ (this.1 d h), fun d h => .tail _ (this.2 d h)⟩
    · exact ⟨fun d h => h, fun d h => h⟩
theorem lrow_len {y : Nat} {a : List Nat} {bi : Nat} {row : List Int} : ∀ i, (lrow y a bi row i).row.length = row.length
  | 0 => rfl
  | i + 1 => by
    show (List.set _ _ _).length = _
    rw [List.length_set, lrow_len i]
theorem drop_more' {bs : List Nat} {i b : Nat} {r : List Nat} (e : bs.drop i = b :: r) : bs.drop (i + 1) = r := by
  rw [← List.drop_drop, e]; rfl
theorem cut_from (x : List Nat) (k : Nat) : cut x (some (k : Int)) none = x.drop k := by
  unfold cut
  simp only [Option.elim, clip_nat]
  rcases Nat.le_total k x.length with h | h
  · rw [Nat.min_eq_left h]; apply List.take_of_length_le; simp
  · rw [Nat.min_eq_right h, List.drop_of_length_le h, List.drop_length]; simp
theorem cut_to (x : List Nat) (k : Nat) (hk : 0 < k) : cut x none (some (-(k : Int))) = x.take (x.length - k) := by
  unfold cut
  have := clipAt_cast x.length (-(k : Int))
  simp only [Option.elim]
  have e : clipAt x.length (-(k : Int)) = x.length - k := by (first | (revert hk this; walk_at "Z") | omega)
  rw [e]; simp
theorem cut_all (x : List Nat) : cut x none none = x := by simp [cut]
theorem rev_take (x : List Nat) (k : Nat) : (x.reverse.drop k).reverse = x.take (x.length - k) := by
  rw [List.drop_reverse, List.reverse_reverse]
theorem rev_get {x : List Nat} {k : Nat} (hk : k < x.length) : x.reverse[k]? = x[x.length - 1 - k]? := by
  rw [List.getElem?_reverse hk]
theorem t_sufP {G : St} {c : Act} {m : Loc} {N : Cells} {p v : Expr} {lo hi : Option Expr} {pp p2 p3 : Pos} {kk : Nat} {x : List Nat} {t tp : Tok} {k : Nat} {Q : Value → Loc → Cells → Prop}
    (hp : TW G c (eval p c.env) m N fun a m' N' => a = .int (-(k : Int)) tp ∧ m' = m ∧ N' = N) (hz : x.length ≤ 16777216) (h : ∀ t, Q (.str (S (x.take (x.length - k))) t) m N) :
    TW G c (eval (.BoolOp .Or [p, .Constant .none kk p2] p3) c.env) m N fun u m₃ N₃ => SliceW G c v (.Slice lo hi none pp) (.str (S x) t) .none u m₃ N₃ Q := by
  refine t_or2 (hp.mono ?_)
  rintro a m' N' ⟨rfl, rfl, rfl⟩
  refine b_int ?_
  by_cases hk : k = 0
  · subst hk
    refine t_neg (by simp) ?_
    refine t_none ?_
    refine sl_str (x := x) hz .none .none fun t' => ?_
    rw [cut_all]
    have := h t'
    simpa using this
  · refine t_pos (by simp; (first | (revert hk; walk_at "Z") | omega)) ?_
    refine sl_str (x := x) hz .none (.int _ _) fun t' => ?_
    rw [cut_to x k (by (first | (revert hk; walk_at "Z") | walk_at "O"))]
    exact h t'
section
variable {γ : GP} {c : Act} {n : Nat} {m : Loc} {N : Cells}
theorem f_subst {a b : Nat} {t u : Tok} {Q : Value → Loc → Cells → Prop} (o : Ok (GS γ) (n + 1) c) (ha : a < 128) (hb : b < 128) (h : ∀ t, Q (.int (subst a b) t) m N) :
    TW (GS γ) c (call (.ref 66) [.str (S [a]) t, .str (S [b]) u]) m N Q := by
  refine t_callH [(Str.ofString "ch_a", .str (S [a]) t), (Str.ofString "ch_b", .str (S [b]) u)] o (by rfl) (by rfl) (fun s X => BindsTo.of_eq (by rfl)) (locs (by rfl)) (by decide) (by rfl) (by rfl) (by rfl) (by rfl) ?_
  intro c' m' hs o' hL
  unfold subst at h
  repeat walk_at "S"
  refine t_dec (fun q => ?_) (fun q => ?_)
  · rw [if_pos (by simpa using q)] at h
    repeat walk_at "S"
    exact ⟨N, by walk_at "U", h _⟩
  rw [if_neg (by simpa using q)] at h
  repeat walk_at "S"
  refine a_lower (fun d hd => by simp at hd; (first | (revert ha hd; walk_at "Z") | omega)) (by simp) fun t1 => ?_
  repeat walk_at "S"
  refine a_lower (fun d hd => by simp at hd; (first | (revert hb hd; walk_at "Z") | omega)) (by simp) fun t2 => ?_
  repeat walk_at "S"
  refine t_dec (fun q => ?_) (fun q => ?_)
  · rw [if_pos (by simpa using q)] at h
    repeat walk_at "S"
    exact ⟨N, by walk_at "U", h _⟩
  · rw [if_neg (by simpa using q)] at h
    repeat walk_at "S"
    exact ⟨N, by walk_at "U", h _⟩
set_option maxHeartbeats 4000000 in
theorem f_lev {a b : List Nat} {mc : Int} {t u t3 : Tok} {Q : Value → Loc → Cells → Prop} (o : Ok (GS γ) (n + 2) c) (ha : Ascii a) (hb : Ascii b) (hla : a.length ≤ 40) (hlb : b.length ≤ 40) (h : ∀ t, Q (.int (lev a b mc) t) m N) :
    TW (GS γ) c (call (.ref 73) [.str (S a) t, .str (S b) u, .int mc t3]) m N Q := by
  refine t_callH [(Str.ofString "a", .str (S a) t), (Str.ofString "b", .str (S b) u), (Str.ofString "max_cost", .int mc t3)] o (by rfl) (by rfl) (fun s X => BindsTo.of_eq (by rfl)) (locs (by rfl)) (by decide) (by rfl) (by rfl) (by rfl) (by rfl) ?_
  intro c' m' hs o' hL
  unfold lev at h
  repeat walk_at "S"
  refine t_dec (fun q => ?_) (fun q => ?_)
  · rw [if_pos q] at h
    repeat walk_at "S"
    exact ⟨N, by walk_at "U", h _⟩
  rw [if_neg q] at h
  repeat walk_at "S"
  refine TW.mono (Q := fun f m' N' => And3 (f = .next) (N' = N) (Ex2 fun pre tp => trimP a b = (a.drop pre, b.drop pre) ∧ Has m' [(Str.ofString "a", .str (S a) t), (Str.ofString "b", .str (S b) u), (Str.ofString "max_cost", .int mc t3), (Str.ofString "pre", .int (pre : Nat) tp)]))
    (t_While (fun d m' N' => Ex2 fun pre tp => And5 (N' = N) (d = a.length - pre) (trimP (a.drop pre) (b.drop pre) = trimP a b) (pre ≤ a.length) (Has m' [(Str.ofString "a", .str (S a) t), (Str.ofString "b", .str (S b) u), (Str.ofString "max_cost", .int mc t3), (Str.ofString "pre", .int (pre : Nat) tp)])) _ ⟨0, _, rfl, rfl, by simp, by (first | walk_at "Z" | omega), by walk_at "H"⟩ ?_) ?_
  · rintro d m1 N1 ⟨pre, tp, rfl, rfl, hT, hpl, hL⟩ _ _
    repeat walk_at "S"
    refine sl_str (x := a) (by (first | (revert hla; walk_at "Z") | walk_at "O")) (.int _ _) .none fun t4 => ?_
    rw [cut_from]
    refine b_str (by simp; (first | (revert hla; walk_at "Z") | omega)) ?_
    refine t_dec (fun h1 => ?_) (fun h1 => ?_)
    rotate_left
    · refine t_false ⟨rfl, rfl, pre, _, ?_, by walk_at "H"⟩
      rw [← hT]; exact trimP_end fun x a' y b' e => absurd (by rw [e]; simp) h1
    repeat walk_at "S"
    refine sl_str (x := b) (by (first | (revert hlb; walk_at "Z") | walk_at "O")) (.int _ _) .none fun t4 => ?_
    rw [cut_from]
    refine b_str (by simp; (first | (revert hlb; walk_at "Z") | omega)) ?_
    refine t_dec (fun h2 => ?_) (fun h2 => ?_)
    rotate_left
    · refine t_false ⟨rfl, rfl, pre, _, ?_, by walk_at "H"⟩
      rw [← hT]; exact trimP_end fun x a' y b' e1 e => absurd (by rw [e]; simp) h2
    obtain ⟨xa, ra, ea⟩ : ∃ x r, a.drop pre = x :: r := by
      cases e : a.drop pre with
      | nil => rw [e] at h1; simp at h1
      | cons x r => exact ⟨x, r, rfl⟩
    obtain ⟨xb, rb, eb⟩ : ∃ x r, b.drop pre = x :: r := by
      cases e : b.drop pre with
      | nil => rw [e] at h2; simp at h2
      | cons x r => exact ⟨x, r, rfl⟩
    have ga : a[pre]? = some xa := by have := congrArg (fun l => l[0]?) ea; simpa using this
    have gb : b[pre]? = some xb := by have := congrArg (fun l => l[0]?) eb; simpa using this
    have la := (List.getElem?_eq_some_iff.mp ga).1
    have lb := (List.getElem?_eq_some_iff.mp gb).1
    repeat walk_at "S"
    refine s_str (by (first | (revert hla; walk_at "Z") | walk_at "O")) (by (first | walk_at "Z" | walk_at "O")) (by (first | (revert la; walk_at "Z") | walk_at "O")) (d := xa) (by rw [if_neg (by (first | walk_at "Z" | walk_at "O"))]; simpa using ga) fun t5 => ?_
    repeat walk_at "S"
    refine s_str (by (first | (revert hlb; walk_at "Z") | walk_at "O")) (by (first | walk_at "Z" | walk_at "O")) (by (first | (revert lb; walk_at "Z") | walk_at "O")) (d := xb) (by rw [if_neg (by (first | walk_at "Z" | walk_at "O"))]; simpa using gb) fun t6 => ?_
    repeat walk_at "S"
    refine t_dec (fun h3 => ?_) (fun h3 => ?_)
    rotate_left
    · repeat walk_at "S"
      refine t_false ⟨rfl, rfl, pre, _, ?_, by walk_at "H"⟩
      rw [← hT]; exact trimP_end fun x a' y b' e1 e2 => by
        rw [ea] at e1; rw [eb] at e2; simp at e1 e2 h3; rw [← e1.1, ← e2.1]; exact h3
    repeat walk_at "S"
    refine t_true ?_
    repeat walk_at "S"
    have e3 : xa = xb := by simpa using h3
    subst e3
    refine ⟨a.length - (pre + 1), N1, by (first | (revert la; walk_at "Z") | omega), fun _ h => h, pre + 1, _, rfl, rfl, ?_, by (first | (revert la; walk_at "Z") | omega), by walk_at "H"⟩
    rw [drop_more' ea, drop_more' eb, ← hT, ea, eb, trimP_step]
  rintro f m1 N1 ⟨rfl, rfl, pre, tp, hT, hL⟩
  repeat walk_at "S"
  obtain ⟨A, hA⟩ : ∃ A, A = a.drop pre := ⟨_, rfl⟩
  obtain ⟨B, hB⟩ : ∃ B, B = b.drop pre := ⟨_, rfl⟩
  refine sl_str (x := a) (by (first | (revert hla; walk_at "Z") | walk_at "O")) (.int _ _) .none fun t4 => ?_
  rw [cut_from, ← hA]
  repeat walk_at "S"
  refine sl_str (x := b) (by (first | (revert hlb; walk_at "Z") | walk_at "O")) (.int _ _) .none fun t5 => ?_
  rw [cut_from, ← hB]
  have hl1 : lev1 a b mc = lev2 (trimP (a.drop pre).reverse (b.drop pre).reverse).1.reverse (trimP (a.drop pre).reverse (b.drop pre).reverse).2.reverse mc := by unfold lev1; rw [hT]
  rw [hl1, ← hA, ← hB] at h
  have ha1 : Ascii A := fun d hd => ha d (List.mem_of_mem_drop (hA ▸ hd))
  have hb1 : Ascii B := fun d hd => hb d (List.mem_of_mem_drop (hB ▸ hd))
  have hla1 : A.length ≤ 40 := by rw [hA]; simp; (first | (revert hla; walk_at "Z") | omega)
  have hlb1 : B.length ≤ 40 := by rw [hB]; simp; (first | (revert hlb; walk_at "Z") | omega)
  repeat walk_at "S"
  refine TW.mono (Q := fun f m' N' => And3 (f = .next) (N' = N1) (Ex2 fun (k : Nat) (tp : Tok) => trimP A.reverse B.reverse = (A.reverse.drop k, B.reverse.drop k) ∧ Has m' [(Str.ofString "a", .str (S A) t4), (Str.ofString "b", .str (S B) t5), (Str.ofString "max_cost", .int mc t3), (Str.ofString "post", .int (-(k : Int)) tp)]))
    (t_While (fun d m' N' => Ex2 fun (k : Nat) (tp : Tok) => And6 (N' = N1) (d = A.length - k) (trimP (A.reverse.drop k) (B.reverse.drop k) = trimP A.reverse B.reverse) (k ≤ A.length) (k ≤ B.length) (Has m' [(Str.ofString "a", .str (S A) t4), (Str.ofString "b", .str (S B) t5), (Str.ofString "max_cost", .int mc t3), (Str.ofString "post", .int (-(k : Int)) tp)])) _ ⟨0, _, rfl, rfl, by simp, by (first | walk_at "Z" | omega), by (first | walk_at "Z" | omega), by walk_at "H"⟩ ?_) ?_
  · rintro d m2 N2 ⟨k, tp, rfl, rfl, hT, hkA, hkB, hL⟩ _ _
    repeat walk_at "S"
    refine t_sufP (k := k) (tp := tp) (by walk_at "S"; exact ⟨rfl, rfl, rfl⟩) (by (first | (revert hla1; walk_at "Z") | walk_at "O")) fun t6 => ?_
    refine b_str (by simp; (first | (revert hla1; walk_at "Z") | omega)) ?_
    refine t_dec (fun h1 => ?_) (fun h1 => ?_)
    rotate_left
    · refine t_false ⟨rfl, rfl, k, _, ?_, by walk_at "H"⟩
      have e0 : A.reverse.drop k = [] := by
        have := congrArg List.length (Classical.not_not.mp h1)
        apply List.drop_of_length_le; simp at this ⊢; (first | (revert this; walk_at "Z") | omega)
      rw [← hT]; exact trimP_end fun x a' y b' e => by rw [e0] at e; cases e
    repeat walk_at "S"
    refine t_sufP (k := k) (tp := tp) (by walk_at "S"; exact ⟨rfl, rfl, rfl⟩) (by (first | (revert hlb1; walk_at "Z") | walk_at "O")) fun t6 => ?_
    refine b_str (by simp; (first | (revert hlb1; walk_at "Z") | omega)) ?_
    refine t_dec (fun h2 => ?_) (fun h2 => ?_)
    rotate_left
    · refine t_false ⟨rfl, rfl, k, _, ?_, by walk_at "H"⟩
      have e0 : B.reverse.drop k = [] := by
        have := congrArg List.length (Classical.not_not.mp h2)
        apply List.drop_of_length_le; simp at this ⊢; (first | (revert this; walk_at "Z") | omega)
      rw [← hT]; exact trimP_end fun x a' y b' e1 e => by rw [e0] at e; cases e
    have la : k < A.length := by
      rcases Nat.lt_or_ge k A.length with q | q
      · exact q
      · exact absurd (by rw [show A.length - k = 0 by (first | (revert q; walk_at "Z") | omega)]; rfl) h1
    have lb : k < B.length := by
      rcases Nat.lt_or_ge k B.length with q | q
      · exact q
      · exact absurd (by rw [show B.length - k = 0 by (first | (revert q; walk_at "Z") | omega)]; rfl) h2
    have ga : A.reverse[k]? = some (A.reverse[k]'(by simpa using la)) := List.getElem?_eq_getElem _
    have gb : B.reverse[k]? = some (B.reverse[k]'(by simpa using lb)) := List.getElem?_eq_getElem _
    have ea : A.reverse.drop k = A.reverse[k]'(by simpa using la) :: A.reverse.drop (k + 1) := List.drop_eq_getElem_cons (by simpa using la)
    have eb : B.reverse.drop k = B.reverse[k]'(by simpa using lb) :: B.reverse.drop (k + 1) := List.drop_eq_getElem_cons (by simpa using lb)
    generalize A.reverse[k]'(by simpa using la) = xa at ga ea
    generalize B.reverse[k]'(by simpa using lb) = xb at gb eb
    rw [rev_get la] at ga
    rw [rev_get lb] at gb
    repeat walk_at "S"
    refine s_str (by (first | (revert hla1; walk_at "Z") | walk_at "O")) (by (first | (revert la; walk_at "Z") | walk_at "O")) (by (first | walk_at "Z" | walk_at "O")) (d := xa) (by rw [if_pos (by (first | walk_at "Z" | walk_at "O"))]; rw [← ga]; congr 1; (first | walk_at "Z" | omega)) fun t7 => ?_
    repeat walk_at "S"
    refine s_str (by (first | (revert hlb1; walk_at "Z") | walk_at "O")) (by (first | (revert lb; walk_at "Z") | walk_at "O")) (by (first | walk_at "Z" | walk_at "O")) (d := xb) (by rw [if_pos (by (first | walk_at "Z" | walk_at "O"))]; rw [← gb]; congr 1; (first | walk_at "Z" | omega)) fun t8 => ?_
    repeat walk_at "S"
    refine t_dec (fun h3 => ?_) (fun h3 => ?_)
    rotate_left
    · repeat walk_at "S"
      refine t_false ⟨rfl, rfl, k, _, ?_, by walk_at "H"⟩
      rw [← hT]; exact trimP_end fun x a' y b' e1 e2 => by
        rw [ea] at e1; rw [eb] at e2; simp at e1 e2 h3; rw [← e1.1, ← e2.1]; exact h3
    repeat walk_at "S"
    refine t_true ?_
    repeat walk_at "S"
    have e3 : xa = xb := by simpa using h3
    subst e3
    have e4 : -(k : Int) - 1 = -((k + 1 : Nat) : Int) := by (first | walk_at "Z" | omega)
    simp only [e4] at *
    refine ⟨A.length - (k + 1), N2, by (first | (revert la; walk_at "Z") | omega), fun _ h => h, k + 1, _, rfl, rfl, ?_, by (first | (revert la; walk_at "Z") | omega), by (first | (revert lb; walk_at "Z") | omega), by walk_at "H"⟩
    rw [← hT, ea, eb, trimP_step]
  rintro f m2 N2 ⟨rfl, rfl, k, tp, hT, hL⟩
  rw [hT] at h
  simp only [rev_take] at h
  repeat walk_at "S"
  obtain ⟨C, hC⟩ : ∃ C, C = A.take (A.length - k) := ⟨_, rfl⟩
  obtain ⟨D, hD⟩ : ∃ D, D = B.take (B.length - k) := ⟨_, rfl⟩
  rw [← hC, ← hD] at h
  refine t_sufP (k := k) (tp := tp) (by walk_at "S"; exact ⟨rfl, rfl, rfl⟩) (by (first | (revert hla1; walk_at "Z") | walk_at "O")) fun t6 => ?_
  rw [← hC]
  repeat walk_at "S"
  refine t_sufP (k := k) (tp := tp) (by walk_at "S"; exact ⟨rfl, rfl, rfl⟩) (by (first | (revert hlb1; walk_at "Z") | walk_at "O")) fun t7 => ?_
  rw [← hD]
  have ha2 : Ascii C := fun d hd => ha1 d (List.mem_of_mem_take (hC ▸ hd))
  have hb2 : Ascii D := fun d hd => hb1 d (List.mem_of_mem_take (hD ▸ hd))
  have hla2 : C.length ≤ 40 := by rw [hC]; simp; (first | (revert hla1; walk_at "Z") | omega)
  have hlb2 : D.length ≤ 40 := by rw [hD]; simp; (first | (revert hlb1; walk_at "Z") | omega)
  repeat walk_at "S"
  refine b_str (by (first | (revert hla2; walk_at "Z") | walk_at "O")) ?_
  have hret : C = [] ∨ D = [] → lev2 C D mc = 2 * ((C.length : Int) + D.length) := fun q => by unfold lev2; rw [if_pos q]
  have hgo : ¬ (C = [] ∨ D = []) → lev2 C D mc = if D.length < C.length then lev3 D C mc else lev3 C D mc := fun q => by unfold lev2; rw [if_neg q]
  by_cases hc0 : C = []
  · refine t_pos (by simp [hc0]) (t_true ?_)
    rw [hret (.inl hc0)] at h
    repeat walk_at "S"
    refine a_lens (x := C) (by (first | (revert hla2; walk_at "Z") | walk_at "O")) fun t8 => ?_
    repeat walk_at "S"
    refine a_lens (x := D) (by (first | (revert hlb2; walk_at "Z") | walk_at "O")) fun t9 => ?_
    repeat walk_at "S"
    refine o_mul (.of_left (by decide)) fun t10 => ?_
    exact ⟨N2, by walk_at "U", h _⟩
  refine t_neg (by simp [hc0]) ?_
  repeat walk_at "S"
  refine b_str (by (first | (revert hlb2; walk_at "Z") | walk_at "O")) ?_
  by_cases hd0 : D = []
  · refine t_pos (by simp [hd0]) (t_true ?_)
    rw [hret (.inr hd0)] at h
    repeat walk_at "S"
    refine a_lens (x := C) (by (first | (revert hla2; walk_at "Z") | walk_at "O")) fun t8 => ?_
    repeat walk_at "S"
    refine a_lens (x := D) (by (first | (revert hlb2; walk_at "Z") | walk_at "O")) fun t9 => ?_
    repeat walk_at "S"
    refine o_mul (.of_left (by decide)) fun t10 => ?_
    exact ⟨N2, by walk_at "U", h _⟩
  refine t_neg (by simp [hd0]) ?_
  rw [hgo (by simp [hc0, hd0])] at h
  repeat walk_at "S"
  refine t_false ?_
  repeat walk_at "S"
  refine a_lens (x := C) (by (first | (revert hla2; walk_at "Z") | walk_at "O")) fun t8 => ?_
  repeat walk_at "S"
  refine t_neg (by simp; (first | (revert hla2; walk_at "Z") | omega)) ?_
  repeat walk_at "S"
  refine a_lens (x := D) (by (first | (revert hlb2; walk_at "Z") | walk_at "O")) fun t9 => ?_
  repeat walk_at "S"
  refine t_neg (by simp; (first | (revert hlb2; walk_at "Z") | omega)) ?_
  repeat walk_at "S"
  refine t_false ?_
  repeat walk_at "S"
  refine a_lens (x := D) (by (first | (revert hlb2; walk_at "Z") | walk_at "O")) fun t10 => ?_
  repeat walk_at "S"
  refine a_lens (x := C) (by (first | (revert hla2; walk_at "Z") | walk_at "O")) fun t11 => ?_
  repeat walk_at "S"
  refine ite_join (fun m' N' => (∀ p ∈ N2, p ∈ N') ∧ Ex4 fun X Y tX tY => And6 (Ascii X) (Ascii Y) (X.length ≤ 40) (Y.length ≤ 40) (∀ t, Q (.int (lev3 X Y mc) t) m N2) (Has m' [(Str.ofString "a", .str (S X) tX), (Str.ofString "b", .str (S Y) tY), (Str.ofString "max_cost", .int mc t3)])) ?_ ?_ ?_
  · intro hd
    rw [if_pos (by simpa using hd)] at h
    repeat walk_at "S"
    refine t_swap o' ?_ (by rfl) (swapped_of hs (by rfl))
    repeat walk_at "S"
    refine ⟨by simp, fun T hT => ⟨T, _, _, _, rfl, .head _, ?_⟩⟩
    repeat walk_at "S"
    exact ⟨rfl, fun _ h => .tail _ h, D, C, _, _, hb2, ha2, hlb2, hla2, h, by walk_at "H"⟩
  · intro hd
    rw [if_neg (by simpa using hd)] at h
    repeat walk_at "S"
    exact ⟨rfl, fun _ h => h, C, D, _, _, ha2, hb2, hla2, hlb2, h, by walk_at "H"⟩
  clear h
  rintro m3 N3 ⟨hs3, X, Y, tX, tY, haX, haY, hlX, hlY, h, hL3⟩
  refine seq_sub hs3 ?_
  unfold lev3 at h
  repeat walk_at "S"
  refine a_lens (x := Y) (by (first | (revert hlY; walk_at "Z") | walk_at "O")) fun t12 => ?_
  repeat walk_at "S"
  refine a_lens (x := X) (by (first | (revert hlX; walk_at "Z") | walk_at "O")) fun t13 => ?_
  repeat walk_at "S"
  refine o_mul (.of_right (by decide)) fun t14 => ?_
  repeat walk_at "S"
  refine t_dec (fun hd => ?_) (fun hd => ?_)
  · rw [if_pos hd] at h
    repeat walk_at "S"
    exact ⟨N2, by walk_at "U", h _⟩
  rw [if_neg hd] at h
  repeat walk_at "S"
  refine a_lens (x := X) (by (first | (revert hlX; walk_at "Z") | walk_at "O")) fun t15 => ?_
  repeat walk_at "S"
  refine o_mul (.of_left (by decide)) fun t16 => ?_
  repeat walk_at "S"
  refine a_range3 (by decide) (by decide) fun R t17 t18 t19 hR => ?_
  repeat walk_at "S"
  have hsz := size_two X.length
  refine a_listrange o' (.head _) (by first | with_reducible exact small_up (by walk_at "O") | with_reducible exact small_dn (by walk_at "O") | exact small_of hsz (by (first | (revert hlX; walk_at "Z") | walk_at "O")) (by (first | walk_at "Z" | walk_at "O")) (by (first | walk_at "Z" | walk_at "O")) (by (first | walk_at "Z" | walk_at "O")) (by (first | (revert hlX; walk_at "Z") | walk_at "O")) (by (first | walk_at "Z" | walk_at "O")) (by (first | walk_at "Z" | walk_at "O"))) hsz (by (first | (revert hlX; walk_at "Z") | walk_at "O")) fun RW ys epR hRW hys => ?_
  repeat walk_at "S"
  walk_at "F"
  repeat walk_at "S"
  refine a_lens (x := Y) (by (first | (revert hlY; walk_at "Z") | walk_at "O")) fun t20 => ?_
  repeat walk_at "S"
  refine a_range1 fun R2 t21 t22 t23 hR2 => ?_
  have hsz2 := size_up Y.length
  have hsz3 := size_up X.length
  obtain ⟨row0, hrow0⟩ : ∃ r, r = (List.range X.length).map fun (i : Nat) => (2 : Int) + i * 2 := ⟨_, rfl⟩
  rw [← hrow0] at hys h
  have hrl : row0.length = X.length := by rw [hrow0]; simp
  have hRW2 : RW ≠ R2 := hR2 _ (.head _)
  obtain ⟨Nb, hNb⟩ : ∃ Nb, Nb = (R, rngOf 2 (2 * ((X.length : Int) + 1)) 2 t17 t18 t19) :: N2 := ⟨_, rfl⟩
  rw [← hNb] at hR2 hRW ⊢
  have hN2 : ∀ p ∈ N2, p ∈ Nb := fun p hp => hNb ▸ .tail _ hp
  refine for_it o' (it_range (.head _) (by first | with_reducible exact small_up (by (first | (revert hlY; walk_at "Z") | walk_at "O")) | with_reducible exact small_dn (by walk_at "O") | exact small_of hsz2 (by walk_at "O") (by walk_at "O") (by walk_at "O") (by walk_at "O") (by walk_at "O") (by walk_at "O") (by walk_at "O")) hsz2)
    (fun I i m' N' => (And3 (I ≠ R2) (I ≠ RW) (Fresh I Nb)) ∧ Ex5 fun vs ep row res tr => And5 (N' = (R2, rngOf 0 (Y.length : Int) 1 t21 t22 t23) :: (RW, listOf vs.toArray ep) :: Nb) (IntsAre vs row) (row.length = X.length) (lgo X Y mc (Y.length - i) i row res = lgo X Y mc Y.length 0 row0 0) (Has m' [(Str.ofString "a", .str (S X) tX), (Str.ofString "b", .str (S Y) tY), (Str.ofString "max_cost", .int mc t3), (Str.ofString "row", .ref RW), (Str.ofString "result", .int res tr)])) ?_ ?_ ?_ ?_
  · intro I hI
    exact ⟨⟨fun e => hI _ (.head _) e.symm, fun e => hI _ (.tail _ (.head _)) e.symm, hI.sub fun p hp => .tail _ (.tail _ hp)⟩, ys, epR, row0, 0, _, rfl, hys, hrl, by rw [Nat.sub_zero], by walk_at "H"⟩
  · rintro I i m' N' ⟨⟨h1, h2, h3⟩, vs, ep, row, res, tr, rfl, _⟩
    refine ⟨by simp, fun p hp => ?_⟩
    rcases List.mem_cons.mp hp with rfl | hp
    · exact Ne.symm h1
    · rcases List.mem_cons.mp hp with rfl | hp
      · exact Ne.symm h2
      · exact h3 p hp
  · rintro I oI i m' N' v hi ⟨⟨hI1, hI2, hI3⟩, vs, ep, row, res, tr, rfl, hvs, hrow, hgo, hL⟩ ⟨tv, rfl⟩ _ _
    have ei : (0 : Int) + (i : Int) * 1 = (i : Int) := by (first | walk_at "Z" | omega)
    rw [ei]
    obtain ⟨y, hy⟩ : ∃ y, Y[i]? = some y := ⟨_, List.getElem?_eq_getElem hi⟩
    have hy0 : Y.getD i 0 = y := by rw [List.getD_eq_getElem?_getD, hy]; rfl
    have hy128 : y < 128 := haY y (List.mem_of_getElem? hy)
    obtain ⟨k, hk⟩ : ∃ k, Y.length - i = k + 1 := ⟨Y.length - i - 1, sub_one hi⟩
    have hk' : Y.length - (i + 1) = k := sub_next hk
    rw [hk] at hgo
    have hgo1 : lgo X Y mc (k + 1) i row res = if mc < (lrow y X i row X.length).mn then mc + 1 else lgo X Y mc k (i + 1) (lrow y X i row X.length).row (lrow y X i row X.length).res := by
      rw [← hy0]; rfl
    repeat walk_at "S"
    refine s_str (by (first | (revert hlY; walk_at "Z") | walk_at "O")) (by (first | walk_at "Z" | walk_at "O")) (by (first | (revert hi; walk_at "Z") | walk_at "O")) (d := y) (by rw [if_neg (by (first | walk_at "Z" | walk_at "O"))]; simpa using hy) fun t24 => ?_
    repeat walk_at "S"
    refine t_assign2 ?_ (by rfl) (by rfl)
    repeat walk_at "S"
    refine o_mul (.of_right (by decide)) fun t25 => ?_
    repeat walk_at "S"
    walk_at "F"
    repeat walk_at "S"
    refine a_lens (x := X) (by (first | (revert hlX; walk_at "Z") | walk_at "O")) fun t26 => ?_
    repeat walk_at "S"
    refine a_range1 fun R3 t27 t28 t29 hR3 => ?_
    have hR3W : R3 ≠ RW := fun e => hR3 _ (.tail _ (.tail _ (.head _))) e.symm
    refine for_it o' (it_range (.head _) (by first | with_reducible exact small_up (by (first | (revert hlX; walk_at "Z") | walk_at "O")) | with_reducible exact small_dn (by walk_at "O") | exact small_of hsz3 (by walk_at "O") (by walk_at "O") (by walk_at "O") (by walk_at "O") (by walk_at "O") (by walk_at "O") (by walk_at "O")) hsz3)
      (fun I2 j m' N' => (And5 (I2 ≠ R3) (I2 ≠ I) (I2 ≠ R2) (I2 ≠ RW) (Fresh I2 Nb)) ∧ Ex5 fun vs ep tr td tm => And3 (N' = (R3, rngOf 0 (X.length : Int) 1 t27 t28 t29) :: (I, oI) :: (R2, rngOf 0 (Y.length : Int) 1 t21 t22 t23) :: (RW, listOf vs.toArray ep) :: Nb) (IntsAre vs (lrow y X i row j).row) (Has m' [(Str.ofString "a", .str (S X) tX), (Str.ofString "b", .str (S Y) tY), (Str.ofString "max_cost", .int mc t3), (Str.ofString "row", .ref RW), (Str.ofString "result", .int (lrow y X i row j).res tr), (Str.ofString "distance", .int (lrow y X i row j).d td), (Str.ofString "minimum", .int (lrow y X i row j).mn tm), (Str.ofString "bchar", .str (S [y]) t24)])) ?_ ?_ ?_ ?_
    · intro I2 hI
      exact ⟨⟨fun e => hI _ (.head _) e.symm, fun e => hI _ (.tail _ (.head _)) e.symm, fun e => hI _ (.tail _ (.tail _ (.head _))) e.symm, fun e => hI _ (.tail _ (.tail _ (.tail _ (.head _)))) e.symm, hI.sub fun p hp => .tail _ (.tail _ (.tail _ (.tail _ hp)))⟩,
        vs, ep, _, _, _, rfl, hvs, by walk_at "H"⟩
    · rintro I2 j m' N' ⟨⟨h1, h2, h3, h4, h5⟩, vs, ep, tr, td, tm, rfl, _⟩
      refine ⟨by simp, fun p hp => ?_⟩
      rcases List.mem_cons.mp hp with rfl | hp
      · exact Ne.symm h1
      rcases List.mem_cons.mp hp with rfl | hp
      · exact Ne.symm h2
      rcases List.mem_cons.mp hp with rfl | hp
      · exact Ne.symm h3
      rcases List.mem_cons.mp hp with rfl | hp
      · exact Ne.symm h4
      · exact h5 p hp
    · rintro I2 o2 j m' N' v hj ⟨⟨h1, h2, h3, h4, h5⟩, vs, ep, tr, td, tm, rfl, hvs, hL⟩ ⟨tv, rfl⟩
      have ej : (0 : Int) + (j : Int) * 1 = (j : Int) := by (first | walk_at "Z" | omega)
      rw [ej]
      obtain ⟨x, hx⟩ : ∃ x, X[j]? = some x := ⟨_, List.getElem?_eq_getElem hj⟩
      have hx0 : X.getD j 0 = x := by rw [List.getD_eq_getElem?_getD, hx]; rfl
      have hx128 : x < 128 := haX x (List.mem_of_getElem? hx)
      have hrl := lrow_len (y := y) (a := X) (bi := i) (row := row) j
      have hst : lrow y X i row (j + 1) = lstep y X (lrow y X i row j) j := rfl
      rw [hst]
      generalize lrow y X i row j = s at hvs hL hrl ⊢
      obtain ⟨row1, d1, res1, mn1⟩ := s
      simp only [] at hvs hL hrl
      obtain ⟨tj, hvj⟩ := ints_at hvs (i := j) (by (first | (revert hj hrl hrow; walk_at "Z") | walk_at "O"))
      have hls : lstep y X ⟨row1, d1, res1, mn1⟩ j = ⟨row1.set j (min (min res1 (row1.getD j 0) + 2) (d1 + subst y x)), row1.getD j 0, min (min res1 (row1.getD j 0) + 2) (d1 + subst y x),
        if min (min res1 (row1.getD j 0) + 2) (d1 + subst y x) < mn1 then min (min res1 (row1.getD j 0) + 2) (d1 + subst y x) else mn1⟩ := by rw [← hx0]; rfl
      rw [hls]
      have hvl := ints_len hvs
      intro _ _
      repeat walk_at "S"
      refine s_str (by (first | (revert hlX; walk_at "Z") | walk_at "O")) (by (first | walk_at "Z" | walk_at "O")) (by (first | (revert hj; walk_at "Z") | walk_at "O")) (d := x) (by rw [if_neg (by (first | walk_at "Z" | walk_at "O"))]; simpa using hx) fun t30 => ?_
      repeat walk_at "S"
      refine f_subst o' hy128 hx128 fun t31 => ?_
      repeat walk_at "S"
      refine s_list (.tail _ (.tail _ (.tail _ (.tail _ (.head _))))) (by walk_at "O") (by (first | (revert hj hlX; walk_at "Z") | walk_at "O")) hvj ?_
      repeat walk_at "S"
      refine a_min o' fun t32 => ?_
      repeat walk_at "S"
      refine a_min o' fun t33 => ?_
      repeat walk_at "S"
      refine set_list (.tail _ (.tail _ (.tail _ (.tail _ (.head _))))) (by walk_at "O") (by (first | (revert hj hlX; walk_at "Z") | walk_at "O")) (by (first | (revert hj hrl hrow hvl; walk_at "Z") | walk_at "O")) fun ep2 => ?_
      rw [put_tail h4, put_tail hR3W, put_tail hI2, put_tail (Ne.symm hRW2), put_head (by rw [hNb] at hRW ⊢; exact hRW)]
      repeat walk_at "S"
      refine t_dec (fun hlt => ?_) (fun hlt => ?_)
      · repeat walk_at "S"
        rw [if_pos hlt]
        exact ⟨_, fun _ h => h, ⟨h1, h2, h3, h4, h5⟩, _, _, _, _, _, rfl, ints_set hvs _ _ _, by walk_at "H"⟩
      · repeat walk_at "S"
        rw [if_neg hlt]
        exact ⟨_, fun _ h => h, ⟨h1, h2, h3, h4, h5⟩, _, _, _, _, _, rfl, ints_set hvs _ _ _, by walk_at "H"⟩
    · rintro I2 m' N' ⟨_, vs, ep, tr, td, tm, rfl, hvs, hL⟩
      have hrl := lrow_len (y := y) (a := X) (bi := i) (row := row) X.length
      generalize lrow y X i row X.length = s at hvs hL hrl hgo1
      obtain ⟨row1, d1, res1, mn1⟩ := s
      simp only [] at hvs hL hrl hgo1
      rw [hgo1] at hgo
      repeat walk_at "S"
      refine t_dec (fun hd => ?_) (fun hd => ?_)
      · rw [if_pos hd] at hgo
        rw [← hgo] at h
        repeat walk_at "S"
        exact ⟨N2, fun p hp => .tail _ (.tail _ (.tail _ (.tail _ (hN2 p hp)))), N2, fun _ h => h, h _⟩
      · rw [if_neg hd] at hgo
        repeat walk_at "S"
        refine ⟨_, ?_, ⟨hI1, hI2, hI3⟩, vs, ep, row1, res1, _, rfl, hvs, by (first | (revert hrl hrow; walk_at "Z") | omega), ?_, by walk_at "H"⟩
        · exact fun p hp => .tail _ hp
        · rw [hk']; exact hgo
  · rintro I m' N' ⟨_, vs, ep, row, res, tr, rfl, hvs, hrow, hgo, hL⟩
    rw [Nat.sub_self] at hgo
    rw [← hgo] at h
    repeat walk_at "S"
    exact ⟨N2, fun p hp => .tail _ (.tail _ (hN2 p hp)), h _⟩
end

-- n1
section
variable {γ : GP} {c : Act} {n : Nat} {m : Loc} {N : Cells}
theorem fmod_nat (a b : Nat) : ((a : Int)).fmod (b : Int) = ((a % b : Nat) : Int) := by rw [Int.fmod_eq_emod_of_nonneg _ (by walk_at "O")]; rfl
theorem f_cells {l : Addr} {vs : List Value} {ns : List Int} {Q : Value → Loc → Cells → Prop} (o : Ok (GS γ) (n + 1) c) (hl : c.h₀.IsList l vs.toArray) (hv : IntsAre vs ns) (hn : ns.length ≤ 1000)
    (h : ∀ D vs' a b d e ep, Fresh D N → IntsAre vs' [a, b, d, e] → Q (.ref D) m ((D, listOf vs'.toArray ep) :: N)) :
    TW (GS γ) c (call (.ref 230) [.ref l]) m N Q := by
  refine t_callS [(Str.ofString "script", .ref l)] o (by rfl) (by rfl) (fun s X => BindsTo.of_eq (by rfl)) (locs (by rfl)) (by decide) (by rfl) (by rfl) (by rfl) (by rfl) ?_
  intro c' m' hs o' hL st
  have hl := isList_keep st hl
  have hlen := ints_len hv
  repeat walk_at "S"
  refine ⟨by simp, fun D hD => ?_⟩
  repeat walk_at "S"
  walk_at "F"
  repeat walk_at "S"
  refine a_len0 hl (by (first | (revert hlen hn; walk_at "Z") | walk_at "O")) fun t1 => ?_
  repeat walk_at "S"
  refine a_range1 fun R t2 t3 t4 hR => ?_
  have hsz := size_up vs.length
  have hRD : R ≠ D := fun e => hR _ (.head _) e.symm
  refine for_it o' (it_range (.head _) (by first | with_reducible exact small_up (by (first | (revert hlen hn; walk_at "Z") | walk_at "O")) | with_reducible exact small_dn (by walk_at "O") | exact small_of hsz (by walk_at "O") (by walk_at "O") (by walk_at "O") (by walk_at "O") (by walk_at "O") (by walk_at "O") (by walk_at "O")) hsz)
    (fun I i m' N' => (And3 (I ≠ R) (I ≠ D) (Fresh I N)) ∧ Ex6 fun cs ep a b d e => And3 (N' = (R, rngOf 0 (vs.length : Int) 1 t2 t3 t4) :: (D, listOf cs.toArray ep) :: N) (IntsAre cs [a, b, d, e]) (Has m' [(Str.ofString "script", .ref l), (Str.ofString "cells", .ref D)])) ?_ ?_ ?_ ?_
  · intro I hI
    exact ⟨⟨fun e => hI _ (.head _) e.symm, fun e => hI _ (.tail _ (.head _)) e.symm, hI.sub fun p hp => .tail _ (.tail _ hp)⟩, _, _, 22, 92, 151, 10, rfl, .cons _ _ (.cons _ _ (.cons _ _ (.cons _ _ .nil))), by walk_at "H"⟩
  · rintro I i m' N' ⟨⟨h1, h2, h3⟩, cs, ep, a, b, d, e, rfl, _⟩
    refine ⟨by simp, fun p hp => ?_⟩
    rcases List.mem_cons.mp hp with rfl | hp
    · exact Ne.symm h1
    rcases List.mem_cons.mp hp with rfl | hp
    · exact Ne.symm h2
    · exact h3 p hp
  · rintro I oI i m' N' v hi ⟨⟨h1, h2, h3⟩, cs, ep, a, b, d, e, rfl, hcs, hL⟩ ⟨tv, rfl⟩ _ _
    have ei : (0 : Int) + (i : Int) * 1 = (i : Int) := by (first | walk_at "Z" | omega)
    rw [ei]
    obtain ⟨ti, hvi⟩ := ints_at hv (i := i) (by (first | (revert hi hlen; walk_at "Z") | walk_at "O"))
    have hcl := ints_len hcs
    have hcl : cs.length = 4 := by simpa using hcl
    have e4 : ((i : Int)).fmod 4 = ((i % 4 : Nat) : Int) := fmod_nat i 4
    obtain ⟨tc, hvc⟩ := ints_at hcs (i := i % 4) (by simp; (first | walk_at "Z" | omega))
    repeat walk_at "S"
    rw [e4]
    refine get_list (.tail _ (.tail _ (.head _))) (by walk_at "O") (by (first | walk_at "Z" | walk_at "O")) hvc ?_
    repeat walk_at "S"
    refine s_list0 hl (by walk_at "O") (by (first | (revert hi hlen hn; walk_at "Z") | walk_at "O")) hvi ?_
    repeat walk_at "S"
    refine set_list (.tail _ (.tail _ (.head _))) (by walk_at "O") (by (first | walk_at "Z" | walk_at "O")) (by (first | (revert hcl; walk_at "Z") | walk_at "O")) fun ep2 => ?_
    rw [put_tail h2, put_tail hRD, put_head hD]
    repeat walk_at "S"
    have hnew := fun t => ints_set hcs (i % 4) ([a, b, d, e].getD (i % 4) 0 + ns.getD i 0) t
    obtain ⟨a', b', d', e', he⟩ : ∃ a' b' d' e', [a, b, d, e].set (i % 4) ([a, b, d, e].getD (i % 4) 0 + ns.getD i 0) = [a', b', d', e'] := by
      have : i % 4 = 0 ∨ i % 4 = 1 ∨ i % 4 = 2 ∨ i % 4 = 3 := lt_four _ (Nat.mod_lt _ (by decide))
      rcases this with q | q | q | q <;> rw [q] <;> exact ⟨_, _, _, _, rfl⟩
    rw [he] at hnew
    exact ⟨_, fun _ h => h, ⟨h1, h2, h3⟩, _, _, a', b', d', e', rfl, hnew _, by walk_at "H"⟩
  · rintro I m' N' ⟨_, cs, ep, a, b, d, e, rfl, hcs, hL⟩
    repeat walk_at "S"
    exact ⟨_, by walk_at "U", h D cs a b d e ep hD hcs⟩
def leftOf (ys : List (List Nat)) (number : Int) : List Nat :=
  ((List.range ys.length).filterMap fun i => if (number.fdiv (2 ^ (ys.length - 1 - i))).fmod 2 = 0 then some (ys.getD (ys.length - 1 - i) []) else none).flatten
theorem leftOf_len {ys : List (List Nat)} {number : Int} (hy : ∀ y ∈ ys, y.length ≤ 100) : (leftOf ys number).length ≤ 100 * ys.length := by
  unfold leftOf
  have key : ∀ (l : List Nat), (∀ i ∈ l, i < ys.length) → ((l.filterMap fun i => if (number.fdiv (2 ^ (ys.length - 1 - i))).fmod 2 = 0 then some (ys.getD (ys.length - 1 - i) []) else none).flatten).length ≤ 100 * l.length := by
    intro l
    induction l with
    | nil => intro _; simp
    | cons i l ih =>
      intro hi
      have := ih fun j hj => hi j (.tail _ hj)
      have hil := hi i (.head _)
      have hyi := hy _ (getD_mem (ys := ys) (k := ys.length - 1 - i) (by (first | (revert hil; walk_at "Z") | walk_at "O")))
      rw [List.filterMap_cons]
      split
      · rename_i e; split at e
        · cases e
        · simp only [List.length_cons] at this ⊢; (first | (revert this; walk_at "Z") | omega)
      · rename_i b e; split at e
        · simp only [Option.some.injEq] at e; subst e
          rw [List.flatten_cons, List.length_append, List.length_cons]; (first | (revert hyi this; walk_at "Z") | omega)
        · cases e
  have := key (List.range ys.length) (fun i hi => List.mem_range.mp hi)
  simpa using this
theorem f_left {sg : Addr} {vs : List Value} {ys : List (List Nat)} {ep : Nat} {number : Int} {u : Tok} {Q : Value → Loc → Cells → Prop} (o : Ok (GS γ) (n + 1) c) (hm : (sg, listOf vs.toArray ep) ∈ N) (hv : Strs vs ys)
    (hl : ys.length ≤ 20) (hy : ∀ y ∈ ys, y.length ≤ 100) (h : ∀ t, Q (.str (S (leftOf ys number)) t) m N) :
    TW (GS γ) c (call (.ref 247) [.ref sg, .int number u]) m N Q := by
  refine t_callC2 [(Str.ofString "signs", .ref sg), (Str.ofString "number", .int number u)] (Str.ofString "signs") (Str.ofString "number") [] o (by rfl) (by rfl) (fun s X => BindsTo.of_eq (by rfl)) (by rfl) (fun L => by rfl) (by decide) Has.nil (by rfl) (by rfl) (by rfl) ?_
  intro c' m' a b oa ob hs o' hL hcl hFa hFb hba hoa hob
  have hlen := hv.len
  replace hoa : oa.data = .cell (some (.ref sg)) := hoa
  replace hob : ob.data = .cell (some (.int number u)) := hob
  repeat walk_at "S"
  refine a_len (.tail _ (.tail _ hm)) (by (first | (revert hl hlen; walk_at "Z") | walk_at "O")) fun t1 => ?_
  repeat walk_at "S"
  refine a_range3 (by decide) (by decide) fun R t2 t3 t4 hR => ?_
  have hsz : Builtin.Range.rangeSize ((vs.length : Int) - 1) (-1) (-1) = (vs.length : Nat) := size_down _
  refine comp_it (it_range (.head _) (by first | with_reducible exact small_up (by walk_at "O") | with_reducible exact small_dn (by (first | (revert hl hlen; walk_at "Z") | walk_at "O")) | exact small_of hsz (by walk_at "O") (by walk_at "O") (by walk_at "O") (by walk_at "O") (by walk_at "O") (by walk_at "O") (by walk_at "O")) hsz) (by simp) (by (first | (revert hl hlen; walk_at "Z") | walk_at "O"))
    (fun i r => match r with
      | none => ¬ (number.fdiv (2 ^ (ys.length - 1 - i))).fmod 2 = 0
      | some y => (number.fdiv (2 ^ (ys.length - 1 - i))).fmod 2 = 0 ∧ ∃ t, y = .str (S (ys.getD (ys.length - 1 - i) [])) t) ?_ ?_
  · rintro c₂ l X i v hs₂ hcl₂ o₂ hX hi ⟨t5, rfl⟩
    have e1 : (vs.length : Int) - 1 + i * -1 = ((ys.length - 1 - i : Nat) : Int) := by (first | (revert hi hlen; walk_at "Z") | omega)
    rw [e1]
    have hka : (a, oa) ∈ X := hX _ (.tail _ (.tail _ (.head _)))
    have hkb : (b, ob) ∈ X := hX _ (.tail _ (.head _))
    have hks : (sg, listOf vs.toArray ep) ∈ X := hX _ (.tail _ (.tail _ (.tail _ hm)))
    obtain ⟨t6, hv6⟩ := strs_get hv (k := ys.length - 1 - i) (by (first | (revert e1 hlen; walk_at "Z") | walk_at "O"))
    generalize hk : ys.length - 1 - i = k at *
    repeat walk_at "S"
    refine t_dec (fun hd => ?_) (fun hd => ?_)
    · repeat walk_at "S"
      refine s_list hks (by walk_at "O") (by (first | (revert e1 hl hlen; walk_at "Z") | walk_at "O")) hv6 ?_
      exact ⟨⟨hd, _, rfl⟩, fun _ h => h⟩
    · exact ⟨hd, fun _ h => h⟩
  · intro A zs epA hp hA
    have hstr : Strs zs _ := hp.strs (f := fun i => if (number.fdiv (2 ^ (ys.length - 1 - i))).fmod 2 = 0 then some (ys.getD (ys.length - 1 - i) []) else none)
      (fun i hi h => by simpa using h) (fun i y hi ⟨h1, t, h2⟩ => ⟨_, t, by rw [if_pos h1], h2⟩)
    rw [hlen] at hstr
    have hll := leftOf_len (number := number) hy
    repeat walk_at "S"
    refine a_join (.head _) hstr (by show (leftOf ys number).length ≤ _; (first | (revert hl hll; walk_at "Z") | omega)) fun t7 => ?_
    exact ⟨N, by walk_at "U", h _⟩
end

-- n2
theorem ascii_app {a b : List Nat} (ha : Ascii a) (hb : Ascii b) : Ascii (a ++ b) := fun d hd => (List.mem_append.mp hd).elim (ha d) (hb d)
theorem lawT_ascii {ys : List (List Nat)} {state : Int} (hy : ∀ y ∈ ys, Ascii y) : ∀ (k : Nat) (acc : List Nat × Bool), k ≤ ys.length → Ascii acc.1 → Ascii (lawT ys state k acc).1
  | 0, acc, _, ha => ha
  | k + 1, (t, odd), hk, ha => by
    have hyk := hy _ (getD_mem (ys := ys) (k := k) (by (first | (revert hk; walk_at "Z") | walk_at "O")))
    unfold lawT
    split
    · exact lawT_ascii hy k _ (by (first | (revert hk; walk_at "Z") | walk_at "O")) (ascii_app (ascii_app ha (fun d hd => by simp at hd; (first | (revert hd; walk_at "Z") | omega))) hyk)
    · exact lawT_ascii hy k _ (by (first | (revert hk; walk_at "Z") | walk_at "O")) (ascii_app ha hyk)
theorem textOf_ascii {ys : List (List Nat)} {state : Int} (hy : ∀ y ∈ ys, Ascii y) : Ascii (textOf ys state) := by
  have := lawT_ascii (state := state) hy ys.length ([], false) (Nat.le_refl _) (fun d hd => by cases hd)
  unfold textOf
  split
  · exact ascii_app this (fun d hd => by simp at hd; (first | (revert hd; walk_at "Z") | omega))
  · exact this
theorem leftOf_mem {ys : List (List Nat)} {number : Int} {d : Nat} (hd : d ∈ leftOf ys number) : ∃ y ∈ ys, d ∈ y := by
  unfold leftOf at hd
  obtain ⟨l, hl, hd⟩ := List.mem_flatten.mp hd
  obtain ⟨i, hi, e⟩ := List.mem_filterMap.mp hl
  have := List.mem_range.mp hi
  split at e
  · cases e; exact ⟨_, getD_mem (by (first | (revert this; walk_at "Z") | walk_at "O")), hd⟩
  · cases e
theorem leftOf_ascii {ys : List (List Nat)} {number : Int} (hy : ∀ y ∈ ys, Ascii y) : Ascii (leftOf ys number) := fun d hd => by
  obtain ⟨y, h1, h2⟩ := leftOf_mem hd
  exact hy y h1 d h2
theorem spelled_len {x : List Nat} {i : Int} : (spelled x i).length = x.length := by unfold spelled; split <;> simp
theorem up1_lt {d : Nat} (h : d < 128) : up1 d < 128 := by unfold up1; split <;> (first | (revert h; walk_at "Z") | omega)
theorem spelled_ascii {x : List Nat} {i : Int} (h : Ascii x) : Ascii (spelled x i) := by
  unfold spelled
  split
  · intro d hd
    obtain ⟨e, he, rfl⟩ := List.mem_map.mp hd
    exact up1_lt (h e he)
  · exact h
def gray (x : Int) : Int := Builtin.bitXor x (x.fdiv 2)
def dueOf (ys : List (List Nat)) (begun : Int) (k : Nat) : List (List Nat × List Nat) := (List.range k).map fun (t : Nat) => (spelled (textOf ys (gray (Builtin.bitXor begun (t : Int)))) t, spelled (leftOf ys (Builtin.bitXor begun (t : Int))) t)
theorem dueOf_succ {ys : List (List Nat)} {begun : Int} {k : Nat} : dueOf ys begun (k + 1) = dueOf ys begun k ++ [(spelled (textOf ys (gray (Builtin.bitXor begun (k : Int)))) k, spelled (leftOf ys (Builtin.bitXor begun (k : Int))) k)] := by
  unfold dueOf; rw [List.range_succ, List.map_append]; rfl
theorem pow2_cast {k : Nat} : (2 : Int) ^ k = ((2 ^ k : Nat) : Int) := by push_cast; rfl
section
variable {γ : GP} {c : Act} {n : Nat} {m : Loc} {N : Cells}
theorem f_due {sg : Addr} {vs : List Value} {ys : List (List Nat)} {ep : Nat} {begun : Int} {u : Tok} {Q : Value → Loc → Cells → Prop} (o : Ok (GS γ) (n + 2) c) (hm : (sg, listOf vs.toArray ep) ∈ N) (hv : Strs vs ys)
    (hl : ys.length ≤ 10) (hy : ∀ y ∈ ys, y.length ≤ 100) (hya : ∀ y ∈ ys, Ascii y)
    (h : ∀ D ds ep' T, Fresh D (T ++ N) → Prs T ds (dueOf ys begun (2 ^ ys.length)) → Q (.ref D) m ((D, listOf ds.toArray ep') :: (T ++ N))) :
    TW (GS γ) c (call (.ref 268) [.ref sg, .int begun u]) m N Q := by
  refine t_callH [(Str.ofString "signs", .ref sg), (Str.ofString "begun", .int begun u)] o (by rfl) (by rfl) (fun s X => BindsTo.of_eq (by rfl)) (locs (by rfl)) (by decide) (by rfl) (by rfl) (by rfl) (by rfl) ?_
  intro c' m' hs o' hL
  have hlen := hv.len
  repeat walk_at "S"
  refine ⟨by simp, fun D hD => ?_⟩
  repeat walk_at "S"
  walk_at "F"
  repeat walk_at "S"
  refine a_len (.tail _ hm) (by (first | (revert hl hlen; walk_at "Z") | walk_at "O")) fun t1 => ?_
  repeat walk_at "S"
  rw [hlen, pow2_cast]
  refine a_range1 fun R t3 t4 t5 hR => ?_
  have hp2 : 2 ^ ys.length ≤ 1024 := Nat.le_trans (Nat.pow_le_pow_right (by decide) hl) (by decide)
  obtain ⟨K, hK⟩ : ∃ K, K = 2 ^ ys.length := ⟨_, rfl⟩
  rw [← hK] at hp2 h ⊢
  have hsz := size_up K
  have hRD : R ≠ D := fun e => hR _ (.head _) e.symm
  refine for_it o' (it_range (.head _) (by first | with_reducible exact small_up (by (first | (revert hp2; walk_at "Z") | walk_at "O")) | with_reducible exact small_dn (by walk_at "O") | exact small_of hsz (by walk_at "O") (by walk_at "O") (by walk_at "O") (by walk_at "O") (by walk_at "O") (by walk_at "O") (by walk_at "O")) hsz)
    (fun I i m' N' => Ex3 fun T ds ep => And5 (And3 (I ≠ R) (I ≠ D) (Fresh I (T ++ N))) (Fresh D (T ++ N)) (N' = (R, rngOf 0 (K : Int) 1 t3 t4 t5) :: (D, listOf ds.toArray ep) :: (T ++ N)) (Prs T ds (dueOf ys begun i)) (Has m' [(Str.ofString "signs", .ref sg), (Str.ofString "begun", .int begun u), (Str.ofString "due", .ref D)])) ?_ ?_ ?_ ?_
  · intro I hI
    exact ⟨[], [], _, ⟨fun e => hI _ (.head _) e.symm, fun e => hI _ (.tail _ (.head _)) e.symm, hI.sub fun p hp => .tail _ (.tail _ hp)⟩, hD, rfl, .nil, by walk_at "H"⟩
  · rintro I i m' N' ⟨T, ds, ep, ⟨h1, h2, h3⟩, _, rfl, _⟩
    refine ⟨by simp, fun p hp => ?_⟩
    rcases List.mem_cons.mp hp with rfl | hp
    · exact Ne.symm h1
    rcases List.mem_cons.mp hp with rfl | hp
    · exact Ne.symm h2
    · exact h3 p hp
  · rintro I oI i m' N' v hi ⟨T, ds, ep, ⟨h1, h2, h3⟩, hDT, rfl, hp, hL⟩ ⟨tv, rfl⟩ _ _
    have ei : (0 : Int) + (i : Int) * 1 = (i : Int) := by (first | walk_at "Z" | omega)
    rw [ei]
    have hsg : ∀ {a b d : Addr × Obj}, (sg, listOf vs.toArray _) ∈ a :: b :: d :: (T ++ N) := fun {a b d} => .tail _ (.tail _ (.tail _ (List.mem_append.mpr (.inr hm))))
    have htl := textOf_len (state := gray (Builtin.bitXor begun (i : Int))) hy
    have hll := leftOf_len (number := Builtin.bitXor begun (i : Int)) hy
    have hdl := hp.len
    repeat walk_at "S"
    refine f_text o' hsg hv (by (first | (revert hl; walk_at "Z") | walk_at "O")) hy fun t6 => ?_
    repeat walk_at "S"
    refine m_append (.tail _ (.tail _ (.head _))) rfl rfl ?_
    repeat walk_at "S"
    refine f_spelled o' (textOf_ascii hya) (by show (textOf ys (gray _)).length ≤ _; (first | (revert hl htl; walk_at "Z") | omega)) fun t7 => ?_
    repeat walk_at "S"
    refine f_left o' hsg hv (by (first | (revert hl; walk_at "Z") | walk_at "O")) hy fun t8 => ?_
    repeat walk_at "S"
    refine f_spelled o' (leftOf_ascii hya) (by (first | (revert hl hll; walk_at "Z") | walk_at "O")) fun t9 => ?_
    repeat walk_at "S"
    refine ⟨by simp, fun Tn hTn => ?_⟩
    repeat walk_at "S"
    have hdl2 : ds.length ≤ 1024 := by rw [hdl]; unfold dueOf; simp; (first | (revert hi hp2; walk_at "Z") | omega)
    refine a_append (vs := ds) (.tail _ (.tail _ (.tail _ (.head _)))) (by (first | (revert hdl2; walk_at "Z") | walk_at "O")) fun ep2 => ?_
    have hTD : Tn ≠ D := fun e => hTn _ (.tail _ (.tail _ (.head _))) e.symm
    rw [put_tail hTD, put_tail h2, put_tail hRD, put_head hDT]
    refine ⟨trivial, ?_⟩
    repeat walk_at "S"
    refine ⟨_, ?_, (Tn, tupOf [Value.str (S (spelled (textOf ys (gray (Builtin.bitXor begun (i : Int)))) i)) t7, .str (S (spelled (leftOf ys (Builtin.bitXor begun (i : Int))) i)) t9].toArray 0) :: T, ds ++ [Value.ref Tn], ep2, ⟨h1, h2, ?_⟩, ?_, rfl, ?_, by walk_at "H"⟩
    · intro p hp
      rcases List.mem_cons.mp hp with rfl | hp
      · exact .tail _ (.head _)
      rcases List.mem_cons.mp hp with rfl | hp
      · exact .tail _ (.tail _ (.head _))
      rcases List.mem_cons.mp hp with rfl | hp
      · exact .tail _ (.tail _ (.tail _ (.head _)))
      rcases List.mem_cons.mp hp with rfl | hp
      · exact .head _
      · exact .tail _ (.tail _ (.tail _ (.tail _ hp)))
    · intro p hp
      rcases List.mem_cons.mp hp with rfl | hp
      · exact fun e => hTn _ (.head _) e.symm
      · exact h3 p hp
    · intro p hp
      rcases List.mem_cons.mp hp with rfl | hp
      · exact hTD
      · exact hDT p hp
    · rw [dueOf_succ]
      exact (hp.mono fun p hp => .tail _ hp).snoc (.head _)
  · rintro I m' N' ⟨T, ds, ep, _, hDT, rfl, hp, hL⟩
    repeat walk_at "S"
    exact ⟨_, fun p hp => .tail _ hp, h D ds ep T hDT hp⟩
end

-- n3
/-- lists of texts, as lists of a list -/
inductive Pcs (N : Cells) : List Value → List (List (List Nat)) → Prop
  | nil : Pcs N [] []
  | cons {L : Addr} {lvs : List Value} {ps : List (List Nat)} {ep : Nat} {vs pss} : (L, listOf lvs.toArray ep) ∈ N → Strs lvs ps → Pcs N vs pss → Pcs N (.ref L :: vs) (ps :: pss)
theorem Pcs.mono {N N' : Cells} (hs : ∀ p ∈ N, p ∈ N') : ∀ {vs ps}, Pcs N vs ps → Pcs N' vs ps := by
  intro vs ps h
  induction h with
  | nil => exact .nil
  | cons hm h1 _ ih => exact .cons (hs _ hm) h1 ih
theorem Pcs.len {N : Cells} : ∀ {vs ps}, Pcs N vs ps → vs.length = ps.length
  | _, _, .nil => rfl
  | _, _, .cons _ _ h => by simp [h.len]
theorem Pcs.get {N : Cells} : ∀ {vs pss}, Pcs N vs pss → ∀ {i : Nat}, i < pss.length → ∃ L lvs ep, vs[i]? = some (.ref L) ∧ (L, listOf lvs.toArray ep) ∈ N ∧ Strs lvs (pss.getD i []) := by
  intro vs pss h
  induction h with
  | nil => intro i e; exact absurd e (Nat.not_lt_zero _)
  | cons hm hs _ ih =>
    intro i e
    cases i with
    | zero => exact ⟨_, _, _, rfl, hm, hs⟩
    | succ i => exact ih (Nat.lt_of_succ_lt_succ e)
theorem Strs.take : ∀ {vs ys} (h : Strs vs ys) (k : Nat), Strs (vs.take k) (ys.take k) := by
  intro vs ys h
  induction h with
  | nil => intro k; cases k <;> exact .nil
  | cons y t _ ih =>
    intro k
    cases k with
    | zero => exact .nil
    | succ k => exact .cons y t (ih k)
theorem cut_upto {α : Type} (x : List α) (k : Nat) : cut x none (some (k : Int)) = x.take k := by
  unfold cut
  simp only [Option.elim, List.drop_zero, Nat.sub_zero, clip_nat]
  rcases Nat.le_total k x.length with h | h
  · rw [Nat.min_eq_left h]
  · rw [Nat.min_eq_right h, List.take_length, List.take_of_length_le h]
/-- a piece's number: its signs, the last one first, to the base 64 -/
def numV (p : List Nat) : Int := ((List.range p.length).map fun j => (((p.getD (p.length - 1 - j) 0 : Nat) : Int).fmod 64) * 64 ^ j).sum
def numRow (pss : List (List (List Nat))) (begun : Int) (t k : Nat) : List Int := (List.range k).filterMap fun i =>
  if ((Builtin.bitXor begun (t : Int)).fdiv (2 ^ (pss.length - 1 - i))).fmod 2 = 0 then some (numV (spelled ((pss.getD (pss.length - 1 - i) []).take 3).flatten t)) else none
def numsOf (pss : List (List (List Nat))) (begun : Int) (k : Nat) : List Int := (List.range k).flatMap fun t => numRow pss begun t pss.length
theorem numsOf_succ {pss : List (List (List Nat))} {begun : Int} {k : Nat} : numsOf pss begun (k + 1) = numsOf pss begun k ++ numRow pss begun k pss.length := by
  unfold numsOf; rw [List.range_succ, List.flatMap_append]; simp
theorem numRow_succ {pss : List (List (List Nat))} {begun : Int} {t k : Nat} : numRow pss begun t (k + 1) = numRow pss begun t k ++
    (if ((Builtin.bitXor begun (t : Int)).fdiv (2 ^ (pss.length - 1 - k))).fmod 2 = 0 then [numV (spelled ((pss.getD (pss.length - 1 - k) []).take 3).flatten t)] else []) := by
  unfold numRow
  rw [List.range_succ, List.filterMap_append]
  congr 1
  simp only [List.filterMap_cons, List.filterMap_nil]
  split <;> rename_i e <;> split at e <;> simp_all
theorem ints_snoc {vs : List Value} {ns : List Int} (h : IntsAre vs ns) (x : Int) (t : Tok) : IntsAre (vs ++ [.int x t]) (ns ++ [x]) := by
  induction h with
  | nil => exact .cons x t .nil
  | cons y u h ih => exact .cons y u ih
section
variable {γ : GP} {c : Act} {n : Nat} {m : Loc} {N : Cells}
theorem f_numbers {pc : Addr} {vs : List Value} {pss : List (List (List Nat))} {ep : Nat} {begun : Int} {u : Tok} {Q : Value → Loc → Cells → Prop} (o : Ok (GS γ) (n + 2) c) (hm : (pc, listOf vs.toArray ep) ∈ N) (hv : Pcs N vs pss)
    (hl : pss.length ≤ 10) (hy : ∀ ps ∈ pss, ps.length ≤ 10 ∧ ∀ p ∈ ps, Ascii p ∧ p.length ≤ 10)
    (h : ∀ D ds ep', Fresh D N → IntsAre ds (numsOf pss begun (2 ^ pss.length)) → Q (.ref D) m ((D, listOf ds.toArray ep') :: N)) :
    TW (GS γ) c (call (.ref 273) [.ref pc, .int begun u]) m N Q := by
  refine t_callC1 [(Str.ofString "pieces", .ref pc), (Str.ofString "begun", .int begun u)] (Str.ofString "piece") [(Str.ofString "pieces", .ref pc), (Str.ofString "begun", .int begun u)] o (by rfl) (by rfl) (fun s X => BindsTo.of_eq (by rfl)) (by rfl) (fun L => by rfl) ?_ (by rfl) (by rfl) (by rfl) ?_
  · intro p hp
    simp only [List.mem_cons, List.not_mem_nil, or_false] at hp
    rcases hp with rfl | rfl <;> rfl
  intro c' m' a ob hs o' hL hcl hFa hob
  have hlen := hv.len
  repeat walk_at "S"
  refine ⟨by simp, fun D hD => ?_⟩
  repeat walk_at "S"
  walk_at "F"
  repeat walk_at "S"
  refine a_len (.tail _ (.tail _ hm)) (by (first | (revert hl hlen; walk_at "Z") | walk_at "O")) fun t1 => ?_
  repeat walk_at "S"
  rw [hlen, pow2_cast]
  refine a_range1 fun R t3 t4 t5 hR => ?_
  have hp2 : 2 ^ pss.length ≤ 1024 := Nat.le_trans (Nat.pow_le_pow_right (by decide) hl) (by decide)
  obtain ⟨K, hK⟩ : ∃ K, K = 2 ^ pss.length := ⟨_, rfl⟩
  rw [← hK] at hp2 h ⊢
  have hsz := size_up K
  have hRD : R ≠ D := fun e => hR _ (.head _) e.symm
  have hRa : R ≠ a := fun e => hR _ (.tail _ (.head _)) e.symm
  have hDa : D ≠ a := fun e => hD _ (.head _) e.symm
  have hDN : Fresh D N := hD.sub fun p hp => .tail _ hp
  refine for_it o' (it_range (.head _) (by first | with_reducible exact small_up (by (first | (revert hp2; walk_at "Z") | walk_at "O")) | with_reducible exact small_dn (by walk_at "O") | exact small_of hsz (by walk_at "O") (by walk_at "O") (by walk_at "O") (by walk_at "O") (by walk_at "O") (by walk_at "O") (by walk_at "O")) hsz)
    (fun I i m' N' => Ex4 fun ds ep obj v₀ => And6 (And4 (I ≠ R) (I ≠ D) (I ≠ a) (Fresh I N)) (obj.data = .cell v₀) (N' = (R, rngOf 0 (K : Int) 1 t3 t4 t5) :: (D, listOf ds.toArray ep) :: (a, obj) :: N) (IntsAre ds (numsOf pss begun i)) (ds.length ≤ 10 * i) (Has m' [(Str.ofString "pieces", .ref pc), (Str.ofString "begun", .int begun u), (Str.ofString "numbers", .ref D)])) ?_ ?_ ?_ ?_
  · intro I hI
    exact ⟨[], _, ob, _, ⟨fun e => hI _ (.head _) e.symm, fun e => hI _ (.tail _ (.head _)) e.symm, fun e => hI _ (.tail _ (.tail _ (.head _))) e.symm, hI.sub fun p hp => .tail _ (.tail _ (.tail _ hp))⟩, hob, rfl, .nil, by simp, by walk_at "H"⟩
  · rintro I i m' N' ⟨ds, ep, obj, v₀, ⟨h1, h2, h3, h4⟩, _, rfl, _⟩
    refine ⟨by simp, fun p hp => ?_⟩
    rcases List.mem_cons.mp hp with rfl | hp
    · exact Ne.symm h1
    rcases List.mem_cons.mp hp with rfl | hp
    · exact Ne.symm h2
    rcases List.mem_cons.mp hp with rfl | hp
    · exact Ne.symm h3
    · exact h4 p hp
  · rintro I oI i m' N' v hi ⟨ds, ep, obj, v₀, ⟨h1, h2, h3, h4⟩, hobj, rfl, hds, hdl, hL⟩ ⟨tv, rfl⟩ _ _
    have ei : (0 : Int) + (i : Int) * 1 = (i : Int) := by (first | walk_at "Z" | omega)
    rw [ei]
    repeat walk_at "S"
    walk_at "F"
    repeat walk_at "S"
    refine a_len (.tail _ (.tail _ (.tail _ (.tail _ hm)))) (by (first | (revert hl hlen; walk_at "Z") | walk_at "O")) fun t6 => ?_
    repeat walk_at "S"
    refine a_range3 (by decide) (by decide) fun R2 t7 t8 t9 hR2 => ?_
    have hsz2 : Builtin.Range.rangeSize ((vs.length : Int) - 1) (-1) (-1) = (vs.length : Nat) := size_down _
    have hR2D : R2 ≠ D := fun e => hR2 _ (.tail _ (.tail _ (.head _))) e.symm
    have hR2a : R2 ≠ a := fun e => hR2 _ (.tail _ (.tail _ (.tail _ (.head _)))) e.symm
    refine for_it o' (it_range (.head _) (by first | with_reducible exact small_up (by walk_at "O") | with_reducible exact small_dn (by (first | (revert hl hlen; walk_at "Z") | walk_at "O")) | exact small_of hsz2 (by walk_at "O") (by walk_at "O") (by walk_at "O") (by walk_at "O") (by walk_at "O") (by walk_at "O") (by walk_at "O")) hsz2)
      (fun I2 j m' N' => Ex4 fun ds ep obj v₀ => And6 (And6 (I2 ≠ R2) (I2 ≠ I) (I2 ≠ R) (I2 ≠ D) (I2 ≠ a) (Fresh I2 N)) (obj.data = .cell v₀) (N' = (R2, rngOf ((vs.length : Int) - 1) (-1) (-1) t7 t8 t9) :: (I, oI) :: (R, rngOf 0 (K : Int) 1 t3 t4 t5) :: (D, listOf ds.toArray ep) :: (a, obj) :: N) (IntsAre ds (numsOf pss begun i ++ numRow pss begun i j)) (ds.length ≤ 10 * i + j) (Has m' [(Str.ofString "pieces", .ref pc), (Str.ofString "begun", .int begun u), (Str.ofString "numbers", .ref D), (Str.ofString "turn", .int (i : Int) tv)])) ?_ ?_ ?_ ?_
    · intro I2 hI
      exact ⟨ds, ep, obj, v₀, ⟨fun e => hI _ (.head _) e.symm, fun e => hI _ (.tail _ (.head _)) e.symm, fun e => hI _ (.tail _ (.tail _ (.head _))) e.symm, fun e => hI _ (.tail _ (.tail _ (.tail _ (.head _)))) e.symm, fun e => hI _ (.tail _ (.tail _ (.tail _ (.tail _ (.head _))))) e.symm,
        hI.sub fun p hp => .tail _ (.tail _ (.tail _ (.tail _ (.tail _ hp))))⟩, hobj, rfl, by simpa [numRow] using hds, by (first | (revert hdl; walk_at "Z") | omega), by walk_at "H"⟩
    · rintro I2 j m' N' ⟨ds, ep, obj, v₀, ⟨g1, g2, g3, g4, g5, g6⟩, _, rfl, _⟩
      refine ⟨by simp, fun p hp => ?_⟩
      rcases List.mem_cons.mp hp with rfl | hp
      · exact Ne.symm g1
      rcases List.mem_cons.mp hp with rfl | hp
      · exact Ne.symm g2
      rcases List.mem_cons.mp hp with rfl | hp
      · exact Ne.symm g3
      rcases List.mem_cons.mp hp with rfl | hp
      · exact Ne.symm g4
      rcases List.mem_cons.mp hp with rfl | hp
      · exact Ne.symm g5
      · exact g6 p hp
    · clear hds hdl hobj ds ep obj v₀ hR2
      rintro I2 o2 j m' N' v hj ⟨ds, ep, obj, v₀, ⟨g1, g2, g3, g4, g5, g6⟩, hobj, rfl, hds, hdl, hL⟩ ⟨tw, rfl⟩
      have ej : (vs.length : Int) - 1 + (j : Int) * -1 = ((pss.length - 1 - j : Nat) : Int) := by (first | (revert hj hlen; walk_at "Z") | omega)
      rw [ej]
      obtain ⟨L, lvs, epL, hL1, hL2, hL3⟩ := hv.get (i := pss.length - 1 - j) (by (first | (revert ej hlen; walk_at "Z") | walk_at "O"))
      obtain ⟨k, hk⟩ : ∃ k, k = pss.length - 1 - j := ⟨_, rfl⟩
      rw [numRow_succ]
      have hyk := hy _ (show pss.getD (pss.length - 1 - j) [] ∈ pss by
        rw [List.getD_eq_getElem?_getD, List.getElem?_eq_getElem (by (first | (revert ej hlen; walk_at "Z") | walk_at "O"))]; exact List.getElem_mem _)
      have hkl : k ≤ 10 := by (first | (revert hk hl; walk_at "Z") | omega)
      rw [← hk] at hL1 hL3 hyk ⊢
      generalize pss.getD k [] = ps at hyk hL3 ⊢
      intro Pb hPb
      repeat walk_at "S"
      refine t_dec (fun hd => ?_) (fun hd => ?_)
      rotate_left
      · rw [if_neg hd, List.append_nil] at hPb
        repeat walk_at "S"
        exact ⟨_, fun _ h => h, ds, ep, obj, v₀, ⟨g1, g2, g3, g4, g5, g6⟩, hobj, rfl, hds, by (first | (revert hdl; walk_at "Z") | omega), by walk_at "H"⟩
      rw [if_pos hd] at hPb
      repeat walk_at "S"
      refine s_list (.tail _ (.tail _ (.tail _ (.tail _ (.tail _ (.tail _ hm)))))) (by walk_at "O") (by (first | (revert hkl; walk_at "Z") | walk_at "O")) hL1 ?_
      repeat walk_at "S"
      have hll := hL3.len
      refine sl_list (.tail _ (.tail _ (.tail _ (.tail _ (.tail _ (.tail _ hL2)))))) (by (first | (revert hll hyk; walk_at "Z") | walk_at "O")) .none (.int _ _) fun Dn hDn => ?_
      rw [show (3 : Int) = ((3 : Nat) : Int) from rfl, cut_upto]
      have hfl : (ps.take 3).flatten.length ≤ 30 := by
        have : ∀ q ∈ ps.take 3, q.length ≤ 10 := fun q hq => (hyk.2 q (List.mem_of_mem_take hq)).2
        have h3 : (ps.take 3).length ≤ 3 := by simp; (first | walk_at "Z" | omega)
        generalize ps.take 3 = qs at this h3
        match qs, h3 with
        | [], _ => simp
        | [a], _ => have := this a (.head _); simp; (first | (revert this; walk_at "Z") | omega)
        | [a, b], _ => have h1 := this a (.head _); have h2 := this b (.tail _ (.head _)); simp; (first | (revert h1 h2; walk_at "Z") | omega)
        | [a, b, d], _ => have h1 := this a (.head _); have h2 := this b (.tail _ (.head _)); have h3 := this d (.tail _ (.tail _ (.head _))); simp; (first | (revert h1 h2 h3; walk_at "Z") | omega)
      have hfa : Ascii (ps.take 3).flatten := fun d hd => by
        obtain ⟨q, hq, hd⟩ := List.mem_flatten.mp hd
        exact (hyk.2 q (List.mem_of_mem_take hq)).1 d hd
      generalize hq3 : (ps.take 3).flatten = q3 at hfl hfa hPb ⊢
      repeat walk_at "S"
      refine a_join (.head _) (hL3.take 3) (by rw [hq3]; (first | (revert hfl; walk_at "Z") | omega)) fun t10 => ?_
      rw [hq3]
      repeat walk_at "S"
      refine f_spelled o' hfa (by (first | (revert hfl; walk_at "Z") | walk_at "O")) fun t11 => ?_
      have hsl := spelled_len (x := q3) (i := (i : Int))
      obtain ⟨pp, hpp⟩ : ∃ pp, pp = spelled q3 (i : Int) := ⟨_, rfl⟩
      rw [← hpp] at hsl hPb ⊢
      have hDna : Dn ≠ a := fun e => hDn _ (.tail _ (.tail _ (.tail _ (.tail _ (.tail _ (.head _)))))) e.symm
      repeat walk_at "S"
      refine t_storeCE o' hs hcl (by rfl) (.tail _ (.tail _ (.tail _ (.tail _ (.tail _ (.tail _ (.head _))))))) hobj (by rfl) fun ob2 hob2 => ?_
      rw [put_tail hDna, put_tail g5, put_tail hR2a, put_tail h3, put_tail hRa, put_tail hDa, put_head hFa]
      refine seq_sub (N' := (I2, o2) :: (R2, rngOf ((vs.length : Int) - 1) (-1) (-1) t7 t8 t9) :: (I, oI) :: (R, rngOf 0 (K : Int) 1 t3 t4 t5) :: (D, listOf ds.toArray ep) :: (a, ob2) :: N) (fun p hp => .tail _ hp) ?_
      repeat walk_at "S"
      refine m_append (.tail _ (.tail _ (.tail _ (.tail _ (.head _))))) rfl rfl ?_
      repeat walk_at "S"
      refine a_lens (x := pp) (by (first | (revert hfl hsl; walk_at "Z") | walk_at "O")) fun t12 => ?_
      repeat walk_at "S"
      refine a_range1 fun R4 t13 t14 t15 hR4 => ?_
      have hsz4 := size_up pp.length
      refine comp_it (it_range (.head _) (by first | with_reducible exact small_up (by (first | (revert hfl hsl; walk_at "Z") | walk_at "O")) | with_reducible exact small_dn (by walk_at "O") | exact small_of hsz4 (by walk_at "O") (by walk_at "O") (by walk_at "O") (by walk_at "O") (by walk_at "O") (by walk_at "O") (by walk_at "O")) hsz4) (by simp) (by (first | (revert hfl hsl; walk_at "Z") | walk_at "O"))
        (fun x r => ∃ t, r = some (.int ((((pp.getD (pp.length - 1 - x) 0 : Nat) : Int).fmod 64) * 64 ^ x) t)) ?_ ?_
      · rintro c₂ l X x v hs₂ hcl₂ o₂ hX hx ⟨tx, rfl⟩
        have ex : (0 : Int) + (x : Int) * 1 = (x : Int) := by (first | walk_at "Z" | omega)
        rw [ex]
        have hka : (a, ob2) ∈ X := hX _ (.tail _ (.tail _ (.tail _ (.tail _ (.tail _ (.tail _ (.head _)))))))
        have hpx : pp[pp.length - 1 - x]? = some (pp.getD (pp.length - 1 - x) 0) := by
          rw [List.getD_eq_getElem?_getD, List.getElem?_eq_getElem (by (first | (revert hx; walk_at "Z") | walk_at "O"))]; rfl
        generalize pp.getD (pp.length - 1 - x) 0 = y at hpx ⊢
        repeat walk_at "S"
        refine t_true ?_
        repeat walk_at "S"
        refine s_str (by (first | (revert hfl hsl; walk_at "Z") | walk_at "O")) (by (first | (revert hx; walk_at "Z") | walk_at "O")) (by (first | walk_at "Z" | walk_at "O")) (d := y) (by rw [if_pos (by (first | walk_at "Z" | walk_at "O"))]; rw [← hpx]; congr 1; (first | walk_at "Z" | omega)) fun t16 => ?_
        repeat walk_at "S"
        refine a_ord fun t20 => ?_
        repeat walk_at "S"
        refine o_pow (by walk_at "O") ?_ fun t17 => ?_
        · have : (Builtin.Int.intBits 64 : Int) = 7 := rfl
          rw [this]; (first | (revert hfl hsl hx; walk_at "Z") | omega)
        refine o_mul (.of_left ?_) fun t18 => ?_
        · refine intBits_le_iff.mpr ?_
          refine Nat.lt_of_lt_of_le ?_ (show 64 ≤ 2 ^ 64 by decide)
          have := fmod_nat y 64
          rw [show ((64 : Nat) : Int) = 64 from rfl] at this
          rw [this]
          have := Nat.mod_lt y (show 64 > 0 by decide)
          rw [Int.natAbs_natCast]; (first | walk_at "Z" | omega)
        exact ⟨⟨_, by rw [Int.toNat_natCast]⟩, fun _ h => h⟩
      · intro A zs epA hp hA
        have hints : IntsAre zs _ := hp.ints (f := fun x => some ((((pp.getD (pp.length - 1 - x) 0 : Nat) : Int).fmod 64) * 64 ^ x)) (fun x hx ⟨t, e⟩ => by cases e) (fun x y hx ⟨t, e⟩ => ⟨_, t, rfl, by cases e; rfl⟩)
        rw [show (List.range pp.length).filterMap (fun x => some ((((pp.getD (pp.length - 1 - x) 0 : Nat) : Int).fmod 64) * 64 ^ x)) = (List.range pp.length).map (fun x => (((pp.getD (pp.length - 1 - x) 0 : Nat) : Int).fmod 64) * 64 ^ x) from by rw [← List.filterMap_eq_map]; rfl] at hints
        repeat walk_at "S"
        refine a_sum o' (.head _) hints fun t19 => ?_
        repeat walk_at "S"
        have hR4D : R4 ≠ D := fun e => hR4 _ (.tail _ (.tail _ (.tail _ (.tail _ (.head _))))) e.symm
        have hAD : A ≠ D := fun e => hA _ (.tail _ (.tail _ (.tail _ (.tail _ (.tail _ (.head _)))))) e.symm
        refine a_append (vs := ds) (.tail _ (.tail _ (.tail _ (.tail _ (.tail _ (.tail _ (.head _))))))) (by (first | (revert ej hdl hi hl hlen hp2; walk_at "Z") | walk_at "O")) fun ep2 => ?_
        rw [put_tail hAD, put_tail hR4D, put_tail g4, put_tail hR2D, put_tail h2, put_tail hRD, put_head (fun p hp => (List.mem_cons.mp hp).elim (fun e => e ▸ Ne.symm hDa) fun hp => hDN p hp)]
        refine ⟨trivial, ?_⟩
        repeat walk_at "S"
        refine ⟨_, fun p hp => .tail _ (.tail _ hp), _, ep2, ob2, _, ⟨g1, g2, g3, g4, g5, g6⟩, hob2, rfl, ?_, by simp; (first | (revert hdl; walk_at "Z") | omega), by walk_at "H"⟩
        rw [← List.append_assoc]
        exact ints_snoc hds _ _
    · rintro I2 m' N' ⟨ds, ep, obj, v₀, _, hobj, rfl, hp, hdl, hL⟩
      repeat walk_at "S"
      rw [hlen] at hp hdl
      refine ⟨_, fun p hp => ?_, ds, ep, obj, v₀, ⟨h1, h2, h3, h4⟩, hobj, rfl, by rw [numsOf_succ]; exact hp, by (first | (revert hdl hl; walk_at "Z") | omega), by walk_at "H"⟩
      exact .tail _ hp
  · rintro I m' N' ⟨ds, ep, obj, v₀, _, _, rfl, hp, _, hL⟩
    repeat walk_at "S"
    exact ⟨(D, listOf ds.toArray ep) :: N, fun p hp => (List.mem_cons.mp hp).elim (fun e => e ▸ .tail _ (.head _)) fun hp => .tail _ (.tail _ (.tail _ hp)), h D ds ep hDN hp⟩
end

-- n4
theorem put_append (a : Addr) (o : Obj) (A B : Cells) : put a o (A ++ B) = put a o A ++ put a o B := by unfold put; rw [List.map_append]
theorem Pcs.keep {N : Cells} {L : Addr} {o : Obj} : ∀ {vs pss}, Pcs N vs pss → (∀ v ∈ vs, v ≠ .ref L) → Pcs (put L o N) vs pss := by
  intro vs pss h
  induction h with
  | nil => intro _; exact .nil
  | cons hm hs _ ih => intro hn; exact .cons (put_other hm fun e => hn _ (.head _) (by rw [e])) hs (ih fun v hv => hn v (.tail _ hv))
theorem Pcs.set {N : Cells} {L : Addr} {lvs lvs' : List Value} {ps' : List (List Nat)} {ep ep' : Nat} (hm : (L, listOf lvs.toArray ep) ∈ N) (hs' : Strs lvs' ps') : ∀ {vs pss} (f : Nat), Pcs N vs pss → vs.Nodup → vs[f]? = some (.ref L) → Pcs (put L (listOf lvs'.toArray ep') N) vs (pss.set f ps') := by
  intro vs pss f h
  induction h generalizing f with
  | nil => intro _ e; cases e
  | cons hm0 hs h ih =>
    intro hn e
    have hn' := List.nodup_cons.mp hn
    cases f with
    | zero => cases e; exact .cons (put_mem hm) hs' (h.keep fun v hv e => hn'.1 (e ▸ hv))
    | succ f =>
      refine .cons (put_other hm0 fun q => hn'.1 ?_) hs (ih f hn'.2 e)
      rw [q]; exact List.mem_of_getElem? e
theorem Pcs.mem {N : Cells} : ∀ {vs pss}, Pcs N vs pss → ∀ v ∈ vs, ∃ L o, v = .ref L ∧ (L, o) ∈ N := by
  intro vs pss h
  induction h with
  | nil => intro v hv; cases hv
  | cons hm _ _ ih =>
    intro v hv
    cases hv with
    | head => exact ⟨_, _, rfl, hm⟩
    | tail _ hv => exact ih v hv
theorem Pcs.snoc {N : Cells} {L : Addr} {lvs : List Value} {ps : List (List Nat)} {ep : Nat} (hm : (L, listOf lvs.toArray ep) ∈ N) (hs : Strs lvs ps) : ∀ {vs pss}, Pcs N vs pss → Pcs N (vs ++ [.ref L]) (pss ++ [ps])
  | _, _, .nil => .cons hm hs .nil
  | _, _, .cons h1 h2 h => .cons h1 h2 (h.snoc hm hs)
def figD (k : Nat) : Nat := [49, 50, 52, 56].getD k 0
theorem fig_str : ∀ k, k < 4 → Str.ofString (toString ((2 : Int) ^ k)) = S [figD k] := by
  intro k hk
  have : k = 0 ∨ k = 1 ∨ k = 2 ∨ k = 3 := lt_four k hk
  rcases this with rfl | rfl | rfl | rfl <;> decide +kernel
def pcs0 (ls : List Nat) : List (List (List Nat)) := (List.range ls.length).map fun k => [[ls.getD k 0], [], [figD k], []]
theorem pcs0_len (ls : List Nat) : (pcs0 ls).length = ls.length := by simp [pcs0]
theorem pcs0_snoc (ls : List Nat) (x : Nat) : pcs0 (ls ++ [x]) = pcs0 ls ++ [[[x], [], [figD ls.length], []]] := by
  unfold pcs0
  rw [List.length_append, List.length_singleton, List.range_succ, List.map_append]
  congr 1
  · refine List.map_congr_left fun k hk => ?_
    have := List.mem_range.mp hk
    rw [List.getD_eq_getElem?_getD, List.getD_eq_getElem?_getD, List.getElem?_append_left this]
  · simp
def midOk (x : List Nat) : Prop := ∃ d k, d ∈ [64, 91, 93, 94, 95, 96, 123, 124, 125, 126] ∧ k ≤ 3 ∧ x = List.replicate k d
def tailOk (x : List Nat) : Prop := x ∈ [[], [92, 34], [92, 92], [92, 92, 92, 34]]
/-- what _law_pieces gives -/
structure PieceOk (size : Nat) (pss : List (List (List Nat))) : Prop where
  out : ∃ (ls : List Nat) (f : Nat) (mid tail : List Nat), ls.length = size ∧ ls.Nodup ∧ (∀ d ∈ ls, 97 ≤ d ∧ d ≤ 122) ∧ f < size ∧ midOk mid ∧ tailOk tail ∧ pss = (pcs0 ls).set f [[ls.getD f 0], mid, [figD f], tail]
theorem cut_tail {α : Type} (x : List α) (k : Nat) : cut x (some (k : Int)) none = x.drop k := by
  unfold cut
  simp only [Option.elim, clip_nat]
  rcases Nat.le_total k x.length with h | h
  · rw [Nat.min_eq_left h]; apply List.take_of_length_le; simp
  · rw [Nat.min_eq_right h, List.drop_of_length_le h, List.drop_length]; simp
theorem Strs.drop : ∀ {vs ys} (h : Strs vs ys) (k : Nat), Strs (vs.drop k) (ys.drop k)
  | _, _, h, 0 => by simpa using h
  | _, _, .nil, k + 1 => .nil
  | _, _, .cons y t h, k + 1 => h.drop k
theorem Strs.append : ∀ {vs ys vs' ys'}, Strs vs ys → Strs vs' ys' → Strs (vs ++ vs') (ys ++ ys') := by
  intro vs ys vs' ys' h h'
  induction h with
  | nil => exact h'
  | cons y t _ ih => exact .cons y t ih
theorem perm_sub7 {i r q x3 x2 x1 l : Addr × Obj} {M : Cells} : ∀ p ∈ i :: r :: q :: x3 :: x2 :: x1 :: l :: M, p ∈ x3 :: x2 :: x1 :: l :: i :: r :: q :: M := by
  intro p hp
  simp only [List.mem_cons] at hp ⊢
  rcases hp with h | h | h | h | h | h | h | h <;> simp [h]
theorem s_strs {G : St} {c : Act} {m : Loc} {N : Cells} {v i : Expr} {Z : Addr} {vs : List Value} {ys : List (List Nat)} {ep k : Nat} {t : Tok} {Q : Value → Loc → Cells → Prop} (hm : (Z, listOf vs.toArray ep) ∈ N) (hv : Strs vs ys) (hk : k < ys.length) (hz : k < 1000000) (h : ∀ t, Q (.str (S (ys.getD k [])) t) m N)
    (hs : subscripted i false (.ref Z) (.int (k : Int) t) = operate [.ref Z, .int (k : Int) t] (getItem (.ref Z) (.int (k : Int) t)) := by with_unfolding_all rfl) : TW G c (subscriptTail v i (.ref Z) (.int (k : Int) t)) m N Q := by
  obtain ⟨t', e⟩ := strs_get hv hk
  exact s_list hm (by walk_at "O") (by (first | (revert hz; walk_at "Z") | walk_at "O")) e (h t') hs
theorem Strs.set : ∀ {vs ys} (h : Strs vs ys) (k : Nat) (x : List Nat) (t : Tok), Strs (vs.set k (.str (S x) t)) (ys.set k x) := by
  intro vs ys h
  induction h with
  | nil => intro k x t; exact .nil
  | cons y u h ih =>
    intro k x t
    cases k with
    | zero => exact .cons x t h
    | succ k => exact .cons y u (ih k x t)
theorem fmod_lt (a : Int) (b : Nat) (hb : 0 < b) : ∃ r : Nat, a.fmod (b : Int) = (r : Int) ∧ r < b := by
  have h1 := Int.fmod_nonneg_of_pos a (show (0 : Int) < (b : Int) by (first | (revert hb; walk_at "Z") | omega))
  have h2 := Int.fmod_lt_of_pos a (show (0 : Int) < (b : Int) by (first | (revert hb; walk_at "Z") | omega))
  exact ⟨(a.fmod b).toNat, by (first | (revert h1; walk_at "Z") | omega), by (first | (revert h1 h2; walk_at "Z") | omega)⟩
theorem cut_one {p n : Nat} (h : p < n) : p + (n - (p + 1)) = n.pred := by
  obtain ⟨k, rfl⟩ := Nat.exists_eq_add_of_lt h
  show p + (p + k + 1 - (p + 1)) = p + k
  rw [Nat.add_right_comm p k 1, Nat.add_sub_cancel_left]
section
variable {γ : GP} {c : Act} {n : Nat} {m : Loc} {N : Cells}
theorem f_pieces {size : Nat} {draw frill : Int} {t1 t2 t3 : Tok} {Q : Value → Loc → Cells → Prop} (o : Ok (GS γ) (n + 2) c) (hs1 : 1 ≤ size) (hs4 : size ≤ 4)
    (h : ∀ P pvs ep T pss, Fresh P (T ++ N) → Pcs T pvs pss → PieceOk size pss → Q (.ref P) m ((P, listOf pvs.toArray ep) :: (T ++ N))) :
    TW (GS γ) c (call (.ref 235) [.int size t1, .int draw t2, .int frill t3]) m N Q := by
  refine t_callC1 [(Str.ofString "size", .int size t1), (Str.ofString "draw", .int draw t2), (Str.ofString "frill", .int frill t3)] (Str.ofString "draw") [(Str.ofString "size", .int size t1), (Str.ofString "frill", .int frill t3)] o (by rfl) (by rfl) (fun s X => BindsTo.of_eq (by rfl)) (by rfl) (fun L => by rfl) ?_ (by rfl) (by rfl) (by rfl) ?_
  · intro p hp
    simp only [List.mem_cons, List.not_mem_nil, or_false] at hp
    rcases hp with rfl | rfl <;> rfl
  intro c' m' a ob hs o' hL hcl hFa hob
  replace hob : ob.data = .cell (some (.int draw t2)) := hob
  repeat walk_at "S"
  refine t_compH o' hs hcl (by rfl) (by rfl) (by rfl) (by rfl) (by intro _; rfl) (swaps_of hs (by rfl)) (by rfl) ?_
  repeat walk_at "S"
  refine a_range1 fun R0 t4 t5 t6 hR0 => ⟨_, hL, ?_⟩
  have hsz := size_up size
  obtain ⟨dr, hdr, hdr2⟩ : ∃ dr : Nat, draw.fmod 23 = (dr : Int) ∧ dr < 23 := by
    have h1 := Int.fmod_nonneg_of_pos draw (show (0 : Int) < 23 by decide)
    have h2 := Int.fmod_lt_of_pos draw (show (0 : Int) < 23 by decide)
    exact ⟨(draw.fmod 23).toNat, by (first | (revert h1; walk_at "Z") | omega), by (first | (revert h2; walk_at "Z") | omega)⟩
  refine comp_it (it_range (.head _) (by first | with_reducible exact small_up (by (first | (revert hs4; walk_at "Z") | walk_at "O")) | with_reducible exact small_dn (by walk_at "O") | exact small_of hsz (by walk_at "O") (by walk_at "O") (by walk_at "O") (by walk_at "O") (by walk_at "O") (by walk_at "O") (by walk_at "O")) hsz) (by simp) (by (first | (revert hs4; walk_at "Z") | walk_at "O"))
    (fun i r => ∃ t, r = some (.str (S [97 + dr + i]) t)) ?_ ?_
  · rintro c₂ l X i v hs₂ hcl₂ o₂ hX hi ⟨tx, rfl⟩
    have ex : (0 : Int) + (i : Int) * 1 = (i : Int) := by (first | walk_at "Z" | omega)
    rw [ex]
    have hka : (a, ob) ∈ X := hX _ (.tail _ (.head _))
    repeat walk_at "S"
    refine t_true ?_
    repeat walk_at "S"
    rw [hdr]
    refine a_chr (by (first | walk_at "Z" | walk_at "O")) (by (first | (revert hdr2 hi hs4; walk_at "Z") | walk_at "O")) fun t7 => ?_
    have e7 : ((97 : Int) + (dr : Int) + (i : Int)).toNat = 97 + dr + i := by (first | walk_at "Z" | omega)
    rw [e7]
    exact ⟨⟨_, rfl⟩, fun _ h => h⟩
  intro Rw0 rvs0 epR hp hRw0
  have hstr : Strs rvs0 _ := hp.strs (f := fun i => some [97 + dr + i]) (fun x hx ⟨t, e⟩ => by cases e) (fun x y hx ⟨t, e⟩ => ⟨_, t, rfl, by cases e; rfl⟩)
  rw [show (List.range size).filterMap (fun i => some [97 + dr + i]) = ((List.range size).map fun i => 97 + dr + i).map fun d => [d] from by rw [List.map_map, ← List.filterMap_eq_map]; rfl] at hstr
  have hnd : ((List.range size).map fun i => 97 + dr + i).Nodup := by
    refine List.Pairwise.map _ (fun a b hab => ?_) List.nodup_range
    (first | (revert hab; walk_at "Z") | omega)
  have hrg : ∀ d ∈ (List.range size).map (fun i => 97 + dr + i), 97 ≤ d ∧ d ≤ 122 := by
    intro d hd
    obtain ⟨i, hi, rfl⟩ := List.mem_map.mp hd
    have := List.mem_range.mp hi
    (first | (revert hdr2 hs4 this; walk_at "Z") | omega)
  have hrl : ((List.range size).map fun i => 97 + dr + i).length = size := by simp
  generalize (List.range size).map (fun i => 97 + dr + i) = row0 at hstr hnd hrg hrl
  intro m0 hL0
  repeat walk_at "S"
  refine ⟨by simp, fun P hP => ?_⟩
  repeat walk_at "S"
  walk_at "F"
  repeat walk_at "S"
  refine a_range1 fun R t8 t9 t10 hR => ?_
  obtain ⟨N1, hN1⟩ : ∃ N1, N1 = (a, ob) :: N := ⟨_, rfl⟩
  have hRP : R ≠ P := fun e => hR _ (.head _) e.symm
  refine for_it o' (it_range (.head _) (by first | with_reducible exact small_up (by (first | (revert hs4; walk_at "Z") | walk_at "O")) | with_reducible exact small_dn (by walk_at "O") | exact small_of hsz (by walk_at "O") (by walk_at "O") (by walk_at "O") (by walk_at "O") (by walk_at "O") (by walk_at "O") (by walk_at "O")) hsz)
    (fun I i m' N' => Ex10 fun T pvs ep Rw rvs ep2 ls row rest tr => And12 (And3 (I ≠ R) (I ≠ P) (Fresh I (T ++ N1))) (And3 (Fresh R (T ++ N1)) (Fresh P (T ++ N1)) (∀ p ∈ T, Fresh p.1 N1)) (N' = (R, rngOf 0 (size : Int) 1 t8 t9 t10) :: (P, listOf pvs.toArray ep) :: (T ++ N1)) ((Rw, listOf rvs.toArray ep2) ∈ T) (Strs rvs (row.map fun d => [d])) (Pcs T pvs (pcs0 ls)) (pvs.Nodup) (ls.length = i) (row.length = size - i) ((ls ++ row).Nodup) (∀ d ∈ ls ++ row, 97 ≤ d ∧ d ≤ 122) (Has m' [(Str.ofString "size", .int size t1), (Str.ofString "frill", .int frill t3), (Str.ofString "row", .ref Rw), (Str.ofString "rest", .int rest tr), (Str.ofString "pieces", .ref P)])) ?_ ?_ ?_ ?_
  · intro I hI
    refine ⟨[(Rw0, listOf rvs0.toArray epR), (R0, rngOf 0 (size : Int) 1 t4 t5 t6)], [], 0, Rw0, rvs0, epR, [], row0, draw.fdiv 23, _, ⟨fun e => hI _ (.head _) e.symm, fun e => hI _ (.tail _ (.head _)) e.symm, ?_⟩, ⟨?_, ?_, ?_⟩, by rw [hN1]; rfl, .head _, hstr, .nil, List.nodup_nil, rfl, by (first | (revert hrl; walk_at "Z") | omega), by simpa using hnd, by simpa using hrg, by walk_at "H"⟩
    · rw [hN1]; exact hI.sub fun p hp => .tail _ (.tail _ hp)
    · rw [hN1]; exact hR.sub fun p hp => .tail _ hp
    · rw [hN1]; exact hP
    · intro p hp
      rw [hN1]
      simp only [List.mem_cons, List.not_mem_nil, or_false] at hp
      rcases hp with rfl | rfl
      · exact hRw0.sub fun p hp => .tail _ hp
      · exact hR0
  · rintro I i m' N' ⟨T, pvs, ep, Rw, rvs, ep2, ls, row, rest, tr, ⟨h1, h2, h3⟩, _, rfl, _⟩
    refine ⟨by simp, fun p hp => ?_⟩
    rcases List.mem_cons.mp hp with rfl | hp
    · exact Ne.symm h1
    rcases List.mem_cons.mp hp with rfl | hp
    · exact Ne.symm h2
    · exact h3 p hp
  · rintro I oI i m' N' v hi ⟨T, pvs, ep, Rw, rvs, ep2, ls, row, rest, tr, ⟨h1, h2, h3⟩, ⟨hFR, hFP, hTN⟩, rfl, hRw, hrow, hpc, hnp, hls, hrowl, hnd2, hrg2, hL⟩ ⟨tv, rfl⟩ _ _
    have ei : (0 : Int) + (i : Int) * 1 = (i : Int) := by (first | walk_at "Z" | omega)
    rw [ei]
    have hrl2 := hrow.len
    rw [List.length_map] at hrl2
    have hpl0 := hpc.len
    rw [pcs0_len] at hpl0
    obtain ⟨pl, hpl, hpl2⟩ : ∃ pl : Nat, rest.fmod (rvs.length : Int) = (pl : Int) ∧ pl < row.length := by
      have h1 := Int.fmod_nonneg_of_pos rest (show (0 : Int) < (rvs.length : Int) by (first | (revert hi hrl2 hrowl; walk_at "Z") | omega))
      have h2 := Int.fmod_lt_of_pos rest (show (0 : Int) < (rvs.length : Int) by (first | (revert hi hrl2 hrowl; walk_at "Z") | omega))
      exact ⟨(rest.fmod rvs.length).toNat, by (first | (revert h1; walk_at "Z") | omega), by (first | (revert h1 h2 hrl2; walk_at "Z") | omega)⟩
    obtain ⟨d, hd⟩ : ∃ d, row[pl]? = some d := ⟨_, List.getElem?_eq_getElem hpl2⟩
    obtain ⟨td, hvd⟩ := hrow.get (i := pl) (y := [d]) (by rw [List.getElem?_map, hd]; rfl)
    have hRwN : (Rw, listOf rvs.toArray ep2) ∈ T ++ N1 := List.mem_append.mpr (.inl hRw)
    repeat walk_at "S"
    refine a_len (.tail _ (.tail _ (.tail _ hRwN))) (by (first | (revert hrl2 hrowl hs4; walk_at "Z") | walk_at "O")) fun t11 => ?_
    refine o_mod (by (first | (revert hpl2 hrl2; walk_at "Z") | walk_at "O")) fun t12 => ?_
    rw [hpl]
    repeat walk_at "S"
    refine a_len (.tail _ (.tail _ (.tail _ hRwN))) (by (first | (revert hrl2 hrowl hs4; walk_at "Z") | walk_at "O")) fun t13 => ?_
    refine o_div (by (first | (revert hpl2 hrl2; walk_at "Z") | walk_at "O")) (by (first | (revert hrl2 hrowl hs4; walk_at "Z") | walk_at "O")) fun t14 => ?_
    repeat walk_at "S"
    refine m_append (.tail _ (.tail _ (.head _))) rfl rfl ?_
    repeat walk_at "S"
    refine s_list (.tail _ (.tail _ (.tail _ hRwN))) (by walk_at "O") (by (first | (revert hpl2 hrowl hs4; walk_at "Z") | walk_at "O")) hvd ?_
    repeat walk_at "S"
    refine a_strint ?_ fun t15 => ?_
    · have : i = 0 ∨ i = 1 ∨ i = 2 ∨ i = 3 := lt_four i (Nat.lt_of_lt_of_le hi hs4)
      rcases this with rfl | rfl | rfl | rfl <;> decide +kernel
    rw [fig_str i (by (first | (revert hi hs4; walk_at "Z") | walk_at "O"))]
    repeat walk_at "S"
    refine ⟨by simp, fun Ln hLn => ?_⟩
    repeat walk_at "S"
    have hLnP : Ln ≠ P := fun e => hLn _ (.tail _ (.tail _ (.head _))) e.symm
    refine a_append (vs := pvs) (.tail _ (.tail _ (.tail _ (.head _)))) (by (first | (revert hi hls hpl0 hs4; walk_at "Z") | walk_at "O")) fun ep3 => ?_
    rw [put_tail hLnP, put_tail h2, put_tail hRP, put_head hFP]
    refine ⟨trivial, ?_⟩
    repeat walk_at "S"
    refine sl_list (.tail _ (.tail _ (.tail _ (.tail _ hRwN)))) (by (first | (revert hrl2 hrowl hs4; walk_at "Z") | walk_at "O")) .none (.int _ _) fun X1 hX1 => ?_
    rw [cut_upto]
    repeat walk_at "S"
    refine sl_list (.tail _ (.tail _ (.tail _ (.tail _ (.tail _ hRwN))))) (by (first | (revert hrl2 hrowl hs4; walk_at "Z") | walk_at "O")) (.int _ _) .none fun X2 hX2 => ?_
    rw [show ((pl : Int) + 1) = ((pl + 1 : Nat) : Int) from by push_cast; rfl, cut_tail]
    refine a_ladd (.tail _ (.head _)) (.head _) (by simp; (first | (revert hrl2 hrowl hs4; walk_at "Z") | omega)) fun X3 hX3 => ?_
    repeat walk_at "S"
    have hsplit : row = row.take pl ++ d :: row.drop (pl + 1) := by
      have := (List.getElem?_eq_some_iff.mp hd).2
      rw [← this, List.getElem_cons_drop, List.take_append_drop]
    have hperm : (ls ++ [d]) ++ (row.take pl ++ row.drop (pl + 1)) |>.Perm (ls ++ row) := by
      rw [List.append_assoc]
      refine List.Perm.append_left ls ?_
      conv => rhs; rw [hsplit]
      show (d :: (row.take pl ++ row.drop (pl + 1))).Perm _
      exact List.perm_middle.symm
    have mX : ∀ {X : Addr} {ol : Obj}, Fresh X ((Ln, ol) :: (I, oI) :: (R, rngOf 0 (size : Int) 1 t8 t9 t10) :: (P, listOf (pvs ++ [Value.ref Ln]).toArray ep3) :: (T ++ N1)) → X ≠ I ∧ X ≠ R ∧ X ≠ P ∧ Fresh X (T ++ N1) := fun {X ol} hX =>
      ⟨fun e => hX _ (.tail _ (.head _)) e.symm, fun e => hX _ (.tail _ (.tail _ (.head _))) e.symm, fun e => hX _ (.tail _ (.tail _ (.tail _ (.head _)))) e.symm, hX.sub fun p hp => .tail _ (.tail _ (.tail _ (.tail _ hp)))⟩
    have m1 := mX hX1
    have m2 := mX (hX2.sub fun p hp => .tail _ hp)
    have m3 := mX (hX3.sub fun p hp => .tail _ (.tail _ hp))
    have m4 : Ln ≠ I ∧ Ln ≠ R ∧ Ln ≠ P ∧ Fresh Ln (T ++ N1) := ⟨fun e => hLn _ (.head _) e.symm, fun e => hLn _ (.tail _ (.head _)) e.symm, hLnP, hLn.sub fun p hp => .tail _ (.tail _ (.tail _ hp))⟩
    have hcons : ∀ {A : Addr} {q : Addr × Obj} {M : Cells}, q.1 ≠ A → Fresh A M → Fresh A (q :: M) := fun {A q M} h1 h2 p hp => (List.mem_cons.mp hp).elim (fun e => e ▸ h1) (h2 p)
    have hN1T : ∀ {X : Addr}, Fresh X (T ++ N1) → Fresh X N1 := fun {X} h => h.sub fun p hp => List.mem_append.mpr (.inr hp)
    refine ⟨_, perm_sub7, (X3, _) :: (X2, _) :: (X1, _) :: (Ln, _) :: T, pvs ++ [Value.ref Ln], ep3, X3, _, 0, ls ++ [d], row.take pl ++ row.drop (pl + 1), _, _, ⟨h1, h2, ?_⟩, ⟨?_, ?_, ?_⟩, rfl, .head _, ?_, ?_, ?_, by simp; (first | (revert hls; walk_at "Z") | omega), ?_, hperm.nodup_iff.mpr hnd2, fun x hx => hrg2 x (hperm.mem_iff.mp hx), by walk_at "H"⟩
    · exact hcons m3.1 (hcons m2.1 (hcons m1.1 (hcons m4.1 h3)))
    · exact hcons m3.2.1 (hcons m2.2.1 (hcons m1.2.1 (hcons m4.2.1 hFR)))
    · exact hcons m3.2.2.1 (hcons m2.2.2.1 (hcons m1.2.2.1 (hcons m4.2.2.1 hFP)))
    · intro p hp
      simp only [List.mem_cons] at hp
      rcases hp with rfl | rfl | rfl | rfl | hp
      · exact hN1T m3.2.2.2
      · exact hN1T m2.2.2.2
      · exact hN1T m1.2.2.2
      · exact hN1T m4.2.2.2
      · exact hTN p hp
    · rw [List.map_append, List.map_take, List.map_drop]
      exact (hrow.take pl).append (hrow.drop (pl + 1))
    · rw [pcs0_snoc]
      refine (hpc.mono fun p hp => .tail _ (.tail _ (.tail _ (.tail _ hp)))).snoc (.tail _ (.tail _ (.tail _ (.head _)))) ?_
      rw [hls]
      exact .cons _ _ (.cons _ _ (.cons _ _ (.cons _ _ .nil)))
    · refine List.nodup_append.mpr ⟨hnp, by simp, fun v hv u hu e => ?_⟩
      simp only [List.mem_singleton] at hu
      subst hu; subst e
      obtain ⟨L, o, e, hLo⟩ := hpc.mem _ hv
      cases e
      exact m4.2.2.2 _ (List.mem_append.mpr (.inl hLo)) rfl
    · rw [List.length_append, List.length_take, List.length_drop, Nat.min_eq_left (Nat.le_of_lt hpl2)]
      exact (cut_one hpl2).trans (congrArg Nat.pred hrowl)
  · rintro I m' N' ⟨T, pvs, ep, Rw, rvs, ep2, ls, row, rest, tr, _, ⟨hFR, hFP, hTN⟩, rfl, _, _, hpc, hnp, hls, _, hnd2, hrg2, hL⟩
    repeat walk_at "S"
    refine o_div (by (first | (revert hs1; walk_at "Z") | walk_at "O")) (by (first | (revert hs4; walk_at "Z") | walk_at "O")) fun t20 => ?_
    generalize frill.fdiv (size : Int) = tl
    repeat walk_at "S"
    obtain ⟨f, hf, hf2⟩ := fmod_lt frill size (by (first | (revert hs1; walk_at "Z") | walk_at "O"))
    obtain ⟨d10, hd10, hd10'⟩ := fmod_lt tl 10 (by (first | walk_at "Z" | walk_at "O"))
    obtain ⟨d3, hd3, hd3'⟩ := fmod_lt (tl.fdiv 40) 3 (by (first | walk_at "Z" | walk_at "O"))
    obtain ⟨d4, hd4, hd4'⟩ := fmod_lt (tl.fdiv 10) 4 (by (first | walk_at "Z" | walk_at "O"))
    rw [show ((10 : Nat) : Int) = 10 from rfl] at hd10
    rw [show ((3 : Nat) : Int) = 3 from rfl] at hd3
    rw [show ((4 : Nat) : Int) = 4 from rfl] at hd4
    have hpl0 := hpc.len
    rw [pcs0_len] at hpl0
    obtain ⟨L, lvs, epL, hL1, hL2, hL3⟩ := hpc.get (i := f) (by rw [pcs0_len]; (first | (revert hf2 hls; walk_at "Z") | omega))
    have hpf : (pcs0 ls).getD f [] = [[ls.getD f 0], [], [figD f], []] := by
      unfold pcs0
      rw [List.getD_eq_getElem?_getD, List.getElem?_map, List.getElem?_range (by (first | (revert hf2 hls; walk_at "Z") | walk_at "O"))]; rfl
    rw [hpf] at hL3
    have hll := hL3.len
    have hLR : R ≠ L := fun e => hFR _ (List.mem_append.mpr (.inl hL2)) e.symm
    have hLP : P ≠ L := fun e => hFP _ (List.mem_append.mpr (.inl hL2)) e.symm
    have hLN : Fresh L N1 := hTN _ hL2
    rw [hd10]
    refine s_str (by simp) (by (first | walk_at "Z" | walk_at "O")) (by simp; (first | (revert hd10'; walk_at "Z") | omega)) (d := [64, 91, 93, 94, 95, 96, 123, 124, 125, 126].getD d10 0) (by
      rw [if_neg (by (first | walk_at "Z" | walk_at "O"))]
      have key : ∀ d < 10, [64, 91, 93, 94, 95, 96, 123, 124, 125, 126][((d : Nat) : Int).toNat]? = some ([64, 91, 93, 94, 95, 96, 123, 124, 125, 126].getD d 0) := by decide +kernel
      exact key d10 hd10') fun t21 => ?_
    repeat walk_at "S"
    rw [hd3, show ((1 : Int) + (d3 : Int)) = ((1 + d3 : Nat) : Int) from by push_cast; rfl]
    refine a_smul (by simp) (by (first | (revert hd3'; walk_at "Z") | walk_at "O")) fun t22 => ?_
    obtain ⟨mid, hmid⟩ : ∃ mid, mid = (List.replicate (1 + d3) [[64, 91, 93, 94, 95, 96, 123, 124, 125, 126].getD d10 0]).flatten := ⟨_, rfl⟩
    have hmidok : midOk mid := by
      refine ⟨[64, 91, 93, 94, 95, 96, 123, 124, 125, 126].getD d10 0, 1 + d3, ?_, by (first | (revert hd3'; walk_at "Z") | omega), ?_⟩
      · have key : ∀ d < 10, [64, 91, 93, 94, 95, 96, 123, 124, 125, 126].getD d 0 ∈ [64, 91, 93, 94, 95, 96, 123, 124, 125, 126] := by decide +kernel
        exact key d10 hd10'
      · rw [hmid, List.flatten_replicate_singleton]
    rw [← hmid]
    repeat walk_at "S"
    refine o_mod (by (first | (revert hs1; walk_at "Z") | walk_at "O")) fun t23 => ?_
    rw [hf]
    refine s_list (.tail _ (.head _)) (by walk_at "O") (by (first | (revert hf2 hs4; walk_at "Z") | walk_at "O")) hL1 ?_
    repeat walk_at "S"
    refine set_list (.tail _ (.tail _ (List.mem_append.mpr (.inl hL2)))) (by decide) (by decide) (by rw [hll]; simp) fun ep5 => ?_
    rw [put_tail hLR, put_tail hLP, put_append, put_fresh hLN]
    repeat walk_at "S"
    refine ⟨by simp, fun Z hZ => ?_⟩
    repeat walk_at "S"
    rw [hd4]
    refine s_strs (.head _) (.cons _ _ (.cons _ _ (.cons _ _ (.cons _ _ .nil)))) (by simp; (first | (revert hd4'; walk_at "Z") | omega)) (by (first | (revert hd4'; walk_at "Z") | walk_at "O")) fun t24 => ?_
    obtain ⟨tail, htail⟩ : ∃ tail, tail = ([[], [92, 34], [92, 92], [92, 92, 92, 34]] : List (List Nat)).getD d4 [] := ⟨_, rfl⟩
    have htailok : tailOk tail := by
      have : d4 = 0 ∨ d4 = 1 ∨ d4 = 2 ∨ d4 = 3 := lt_four d4 hd4'
      unfold tailOk
      rcases this with rfl | rfl | rfl | rfl <;> rw [htail] <;> simp
    rw [← htail]
    repeat walk_at "S"
    refine o_mod (by (first | (revert hs1; walk_at "Z") | walk_at "O")) fun t25 => ?_
    rw [hf]
    refine s_list (.tail _ (.tail _ (.head _))) (by walk_at "O") (by (first | (revert hf2 hs4; walk_at "Z") | walk_at "O")) hL1 ?_
    repeat walk_at "S"
    have hZL : Z ≠ L := fun e => hZ _ (.tail _ (.tail _ (List.mem_append.mpr (.inl (put_mem (o' := listOf (lvs.set 1 (.str (S mid) t22)).toArray ep5) hL2))))) e.symm
    refine set_list (.tail _ (.tail _ (.tail _ (List.mem_append.mpr (.inl (put_mem hL2)))))) (by decide) (by decide) (by rw [List.length_set, hll]; simp) fun ep6 => ?_
    rw [put_tail hZL, put_tail hLR, put_tail hLP, put_append, put_fresh hLN, put_put]
    repeat walk_at "S"
    have hs1 := (hL3.set 1 mid t22).set 3 tail t24
    have hpc2 := hpc.set (ep' := ep6) hL2 hs1 f hnp hL1
    refine ⟨(P, listOf pvs.toArray ep) :: ((put L (listOf ((lvs.set 1 (.str (S mid) t22)).set 3 (.str (S tail) t24)).toArray ep6) T ++ [(a, ob)]) ++ N), ?_, h P pvs ep _ _ ?_ (hpc2.mono fun p hp => List.mem_append.mpr (.inl hp)) ⟨ls, f, mid, tail, hls, (List.nodup_append.mp hnd2).1, fun d hd => hrg2 d (List.mem_append.mpr (.inl hd)), hf2, hmidok, htailok, rfl⟩⟩
    · intro p hp
      rcases List.mem_cons.mp hp with rfl | hp
      · exact .tail _ (.tail _ (.head _))
      · rw [List.append_assoc] at hp
        rw [hN1]
        exact .tail _ (.tail _ (.tail _ hp))
    · intro p hp
      rw [List.append_assoc] at hp
      have hFP' : Fresh P (put L (listOf ((lvs.set 1 (.str (S mid) t22)).set 3 (.str (S tail) t24)).toArray ep6) (T ++ N1)) := put_dom hFP
      rw [put_append, put_fresh hLN, hN1] at hFP'
      exact hFP' p hp
end

-- n5
theorem put_self {a : Addr} {o : Obj} {N : Cells} (h : (a, o) ∈ N) : ∀ p ∈ put a o N, p ∈ N := by
  intro p hp
  obtain ⟨q, hq, rfl⟩ := List.mem_map.mp hp
  by_cases e : q.1 = a
  · rw [if_pos e]; exact h
  · rw [if_neg e]; exact hq
theorem spelled_zero (x : List Nat) : spelled x ((0 : Nat) : Int) = x := rfl
structure Good (x : List Nat) : Prop where
  asc : Ascii x
  ctl : NoCtl x
  len : x.length ≤ 1000
  closed : escEnd false x = false
  sctl : NoCtl (stripOf x)
  slen : (stripOf x).length ≤ 1000
def pick (ys : List (List Nat)) (ps : List (List Nat × List Nat)) (state : Int) (turn : Nat) : Nat → Nat → Option (List Nat × Int)
  | 0, _ => none
  | r + 1, k => if hget ps (spelled (textOf ys (Builtin.bitXor state (2 ^ k))) turn) = none then some (spelled (textOf ys (Builtin.bitXor state (2 ^ k))) turn, Builtin.bitXor state (2 ^ k)) else pick ys ps state turn r (k + 1)
def way (ys : List (List Nat)) : Nat → List (List Nat × List Nat) → Int → Nat → List Nat → List (List Nat × List Nat)
  | 0, ps, _, _, _ => ps
  | f + 1, ps, st, turn, name => if name ≠ [] ∧ turn ≤ 2 ^ ys.length then
      match pick ys (ps ++ [(name, stripOf name)]) st (turn + 1) ys.length 0 with
      | some (tx, st') => way ys f (ps ++ [(name, stripOf name)]) st' (turn + 1) tx
      | none => way ys f (ps ++ [(name, stripOf name)]) st (turn + 1) []
    else ps
theorem HdrIs.of {x dx H : Addr} {N N' : Cells} (I : HdrIs x dx H N) (h : ∀ o, (x, o) ∈ N → (x, o) ∈ N') (h' : ∀ o, (dx, o) ∈ N → (dx, o) ∈ N') : HdrIs x dx H N' := by
  obtain ⟨hsh, t, J⟩ := I.ins
  exact ⟨hsh, t, ⟨h _ J.ob, h' _ J.dict⟩⟩
section
variable {γ : GP} {c : Act} {n : Nat} {m : Loc} {N : Cells}
set_option maxHeartbeats 1000000 in
theorem f_way {sg x dx H : Addr} {vs : List Value} {ys : List (List Nat)} {ep ep0 : Nat} {state : Int} {u : Tok} {Q : Value → Loc → Cells → Prop} (o : Ok (GS γ) (n + 5) c) (hm : (sg, listOf vs.toArray ep) ∈ N) (hv : Strs vs ys)
    (hl : ys.length ≤ 10) (hy : ∀ y ∈ ys, y.length ≤ 100) (hya : ∀ y ∈ ys, Ascii y) (hgood : ∀ s (i : Nat), Good (spelled (textOf ys s) i)) (I : HdrIs x dx H N) (hH : (H, listOf ([] : List Value).toArray ep0) ∈ N) (hxH : x ≠ H) (hdH : dx ≠ H) (hsH : sg ≠ H)
    (h : ∀ T hvs ep', (∀ p ∈ T, p.1 ≠ H) → Prs T hvs (way ys (2 ^ ys.length + 2) [] state 0 (textOf ys state)) → Q .none m (T ++ put H (listOf hvs.toArray ep') N)) :
    TW (GS γ) c (call (.ref 261) [.ref sg, .int state u, .ref x]) m N Q := by
  refine t_callH [(Str.ofString "signs", .ref sg), (Str.ofString "state", .int state u), (Str.ofString "table", .ref x)] o (by rfl) (by rfl) (fun s X => BindsTo.of_eq (by rfl)) (locs (by rfl)) (by decide) (by rfl) (by rfl) (by rfl) (by rfl) ?_
  intro c' m' hs o' hL
  have hlen := hv.len
  have hp2 : 2 ^ ys.length ≤ 1024 := Nat.le_trans (Nat.pow_le_pow_right (by decide) hl) (by decide)
  obtain ⟨K, hK⟩ : ∃ K, K = 2 ^ ys.length := ⟨_, rfl⟩
  rw [← hK] at hp2 h
  repeat walk_at "S"
  refine f_text o' hm hv (by (first | (revert hl; walk_at "Z") | walk_at "O")) hy fun t1 => ?_
  repeat walk_at "S"
  refine TW.mono (Q := fun f m' N' => f = .next ∧ Ex3 fun T hvs ep' => And3 (∀ p ∈ T, p.1 ≠ H) (Prs T hvs (way ys (K + 2) [] state 0 (textOf ys state))) (∀ p ∈ T ++ put H (listOf hvs.toArray ep') N, p ∈ N'))
    (t_While (fun d m' N' => Ex10 fun T hvs ep ps st ts turn tt name tn => And10 (∀ p ∈ T ++ put H (listOf hvs.toArray ep) N, p ∈ N') (∀ p ∈ T, p.1 ≠ H) (Prs T hvs ps) (∀ p ∈ ps, Ascii p.1 ∧ p.1.length ≤ 1000000) (name = [] ∨ Good name) (d = K + 2 - turn) (turn ≤ K + 1) (ps.length = turn) (way ys d ps st turn name = way ys (K + 2) [] state 0 (textOf ys state)) (Has m' [(Str.ofString "signs", .ref sg), (Str.ofString "state", .int st ts), (Str.ofString "table", .ref x), (Str.ofString "turn", .int (turn : Nat) tt), (Str.ofString "name", .str (S name) tn)])) (K + 2) ?_ ?_) ?_
  · exact ⟨[], [], ep0, [], state, _, 0, _, textOf ys state, _, put_self hH, by simp, .nil, by simp, .inr (by have := hgood state 0; rwa [spelled_zero] at this), rfl, by (first | walk_at "Z" | omega), rfl, rfl, by walk_at "H"⟩
  · rintro d m1 N1 ⟨T, hvs, ep', ps, st, ts, turn, tt, name, tn, hsub, hTH, hps, hpg, hng, rfl, htn, hpl, hway, hL⟩ Pb hPb
    refine TW.sub (N' := T ++ put H (listOf hvs.toArray ep') N) ?_ hsub
    clear hsub
    have hsg : ∀ {T : Cells} {o : Obj}, (sg, listOf vs.toArray ep) ∈ T ++ put H o N := fun {T o} => List.mem_append.mpr (.inr (put_other hm hsH))
    obtain ⟨f, hf⟩ : ∃ f, K + 2 - turn = f + 1 := ⟨K + 1 - turn, Nat.succ_sub htn⟩
    rw [hf] at hway hPb
    have hunf : way ys (f + 1) ps st turn name = if name ≠ [] ∧ turn ≤ 2 ^ ys.length then
      match pick ys (ps ++ [(name, stripOf name)]) st (turn + 1) ys.length 0 with
      | some (tx, st') => way ys f (ps ++ [(name, stripOf name)]) st' (turn + 1) tx
      | none => way ys f (ps ++ [(name, stripOf name)]) st (turn + 1) []
      else ps := rfl
    rw [hunf, ← hK] at hway
    repeat walk_at "S"
    refine t_dec (fun h1 => ?_) (fun h1 => ?_)
    rotate_left
    · refine t_false ⟨rfl, T, hvs, ep', hTH, ?_, fun _ h => h⟩
      rw [if_neg (fun q => h1 q.1)] at hway
      rw [← hway]; exact hps
    repeat walk_at "S"
    refine a_len hsg (by (first | (revert hl hlen; walk_at "Z") | walk_at "O")) fun t2 => ?_
    repeat walk_at "S"
    rw [hlen, pow2_cast, ← hK]
    refine t_dec (fun h2 => ?_) (fun h2 => ?_)
    rotate_left
    · repeat walk_at "S"
      refine t_false ⟨rfl, T, hvs, ep', hTH, ?_, fun _ h => h⟩
      rw [if_neg (fun q => h2 (by (first | (revert q; walk_at "Z") | walk_at "O")))] at hway
      rw [← hway]; exact hps
    rw [if_pos ⟨h1, by (first | (revert h2; walk_at "Z") | omega)⟩] at hway
    have hg : Good name := hng.resolve_left h1
    have hHI : HdrIs x dx H (T ++ put H (listOf hvs.toArray ep') N) := I.of (fun o ho => List.mem_append.mpr (.inr (put_other ho hxH))) (fun o ho => List.mem_append.mpr (.inr (put_other ho hdH)))
    have hHm : (H, listOf hvs.toArray ep') ∈ T ++ put H (listOf hvs.toArray ep') N := List.mem_append.mpr (.inr (put_mem hH))
    have hpvl := hps.len
    obtain ⟨hsh, t0, J⟩ := hHI.ins
    repeat walk_at "S"
    refine t_true ?_
    repeat walk_at "S"
    refine m_inst o' J (by rfl) (by rfl) (by rfl) (by rfl) ?_
    repeat walk_at "S"
    refine f_strip (n := n) (o'.mono (by (first | walk_at "Z" | walk_at "O"))) hg.len hg.closed fun t3 => ?_
    repeat walk_at "S"
    refine f_add (n := n) (o'.mono (by (first | walk_at "Z" | walk_at "O"))) hHI hHm hg.ctl hg.sctl (by have := hg.len; (first | (revert this; walk_at "Z") | omega)) (by have := hg.slen; (first | (revert this; walk_at "Z") | omega)) (by (first | (revert h2 hp2 hpl hpvl; walk_at "Z") | walk_at "O")) fun Tn t4 ep1 ep2 hTn => ?_
    have hTnH : Tn ≠ H := fun e => hTn _ hHm e.symm
    have hTfr : Fresh H T := hTH
    rw [put_tail hTnH, put_append, put_fresh hTfr, put_put]
    repeat walk_at "S"
    refine t_neg (by rfl) ?_
    obtain ⟨T2, hT2⟩ : ∃ T2, T2 = (Tn, tupOf [Value.str (S name) tn, Value.str (S (stripOf name)) t4].toArray ep2) :: T := ⟨_, rfl⟩
    have hps2 : Prs T2 (hvs ++ [Value.ref Tn]) (ps ++ [(name, stripOf name)]) := by
      rw [hT2]; exact (hps.mono fun p hp => .tail _ hp).snoc (.head _)
    have hT2H : ∀ p ∈ T2, p.1 ≠ H := by
      rw [hT2]
      intro p hp
      rcases List.mem_cons.mp hp with rfl | hp
      · exact hTnH
      · exact hTH p hp
    obtain ⟨N3, hN3⟩ : ∃ N3, N3 = T2 ++ put H (listOf (hvs ++ [Value.ref Tn]).toArray ep1) N := ⟨_, rfl⟩
    have hN3' : (Tn, tupOf [Value.str (S name) tn, Value.str (S (stripOf name)) t4].toArray ep2) :: (T ++ put H (listOf (hvs ++ [Value.ref Tn]).toArray ep1) N) = N3 := by rw [hN3, hT2]; rfl
    have hpg2 : ∀ p ∈ ps ++ [(name, stripOf name)], Ascii p.1 ∧ p.1.length ≤ 1000000 := by
      intro p hp
      rcases List.mem_append.mp hp with hp | hp
      · exact hpg p hp
      · simp only [List.mem_singleton] at hp; subst hp; exact ⟨hg.asc, by have := hg.len; show name.length ≤ _; (first | (revert this; walk_at "Z") | omega)⟩
    have hsg3 : (sg, listOf vs.toArray ep) ∈ N3 := by rw [hN3]; exact hsg
    have hHI3 : HdrIs x dx H N3 := by
      rw [hN3]; exact I.of (fun o ho => List.mem_append.mpr (.inr (put_other ho hxH))) (fun o ho => List.mem_append.mpr (.inr (put_other ho hdH)))
    have hHm3 : (H, listOf (hvs ++ [Value.ref Tn]).toArray ep1) ∈ N3 := by rw [hN3]; exact List.mem_append.mpr (.inr (put_mem hH))
    have hps3 : Prs N3 (hvs ++ [Value.ref Tn]) (ps ++ [(name, stripOf name)]) := by rw [hN3]; exact hps2.mono fun p hp => List.mem_append.mpr (.inl hp)
    have hpl2 : (ps ++ [(name, stripOf name)]).length = turn + 1 := by rw [List.length_append, hpl]; rfl
    have hend : ∀ p ∈ T2 ++ put H (listOf (hvs ++ [Value.ref Tn]).toArray ep1) N, p ∈ N3 := fun p hp => by rw [hN3]; exact hp
    try simp only [List.cons_append] at hN3' ⊢
    rw [hN3']
    clear hsg hTfr hN3' hN3 hT2 hTn hps hpg J hHI hHm
    generalize ps ++ [(name, stripOf name)] = ps2 at *
    generalize hvs ++ [Value.ref Tn] = hvs2 at *
    repeat walk_at "S"
    walk_at "F"
    repeat walk_at "S"
    refine a_len hsg3 (by (first | (revert hl hlen; walk_at "Z") | walk_at "O")) fun t5 => ?_
    repeat walk_at "S"
    refine a_range1 fun R t6 t7 t8 hR => ?_
    have hsz := size_up vs.length
    have eturn : ((turn : Int) + 1) = ((turn + 1 : Nat) : Int) := by push_cast; rfl
    rw [eturn] at *
    refine for_itP o' (it_range (.head _) (by first | with_reducible exact small_up (by (first | (revert hl hlen; walk_at "Z") | walk_at "O")) | with_reducible exact small_dn (by walk_at "O") | exact small_of hsz (by walk_at "O") (by walk_at "O") (by walk_at "O") (by walk_at "O") (by walk_at "O") (by walk_at "O") (by walk_at "O")) hsz) (by simp)
      (fun i m' => Ex2 fun tt tn => pick ys ps2 st (turn + 1) (ys.length - i) i = pick ys ps2 st (turn + 1) ys.length 0 ∧ Has m' [(Str.ofString "signs", .ref sg), (Str.ofString "state", .int st ts), (Str.ofString "table", .ref x), (Str.ofString "turn", .int (turn + 1 : Nat) tt), (Str.ofString "name", .str (S []) tn)]) ?_ ?_ ?_
    · exact ⟨_, _, rfl, by walk_at "H"⟩
    · rintro I2 o2 i m' v hi hI2 ⟨tt2, tn2, hpk, hL⟩ ⟨tv, rfl⟩ _ _
      have ei : (0 : Int) + (i : Int) * 1 = (i : Int) := by (first | walk_at "Z" | omega)
      rw [ei]
      obtain ⟨r, hr⟩ : ∃ r, ys.length - i = r + 1 := ⟨ys.length - i - 1, sub_one (hlen ▸ hi)⟩
      have hr' : ys.length - (i + 1) = r := sub_next hr
      rw [hr] at hpk
      have hpk1 : pick ys ps2 st (turn + 1) (r + 1) i = if hget ps2 (spelled (textOf ys (Builtin.bitXor st (2 ^ i))) (turn + 1 : Nat)) = none then some (spelled (textOf ys (Builtin.bitXor st (2 ^ i))) (turn + 1 : Nat), Builtin.bitXor st (2 ^ i)) else pick ys ps2 st (turn + 1) r (i + 1) := rfl
      rw [hpk1] at hpk
      have hgd := hgood (Builtin.bitXor st (2 ^ i)) (turn + 1)
      have htl := textOf_len (state := Builtin.bitXor st (2 ^ i)) hy
      repeat walk_at "S"
      refine f_text (n := n) (o'.mono (by (first | walk_at "Z" | walk_at "O"))) (.tail _ (.tail _ hsg3)) hv (by (first | (revert hl; walk_at "Z") | walk_at "O")) hy fun t9 => ?_
      repeat walk_at "S"
      refine f_spelled (n := n) (o'.mono (by (first | walk_at "Z" | walk_at "O"))) (textOf_ascii hya) (by (first | (revert hl htl; walk_at "Z") | walk_at "O")) fun t10 => ?_
      obtain ⟨tx, htx⟩ : ∃ tx, tx = spelled (textOf ys (Builtin.bitXor st (2 ^ i))) ((turn + 1 : Nat) : Int) := ⟨_, rfl⟩
      rw [← htx] at hpk hgd ⊢
      obtain ⟨hsh, t0, J⟩ := hHI3.ins
      repeat walk_at "S"
      refine o_notinI o' J.tail.tail (by rfl) (by rfl) ?_
      refine f_contains (n := n) (o'.mono (by (first | walk_at "Z" | walk_at "O"))) (hHI3.of (fun o ho => .tail _ (.tail _ ho)) (fun o ho => .tail _ (.tail _ ho))) (.tail _ (.tail _ hHm3)) (hps3.mono fun p hp => .tail _ (.tail _ hp)) hgd.asc hgd.ctl (by have := hgd.len; (first | (revert this; walk_at "Z") | omega)) hpg2 (by (first | (revert h2 hp2 hpl2; walk_at "Z") | walk_at "O")) ?_
      repeat walk_at "S"
      cases hq : hget ps2 tx with
      | none =>
        rw [if_pos hq] at hpk
        refine t_pos (by rfl) ?_
        repeat walk_at "S"
        refine ⟨fun p hp => .tail _ hp, ?_⟩
        rw [← hpk] at hway
        repeat walk_at "S"
        exact ⟨f, N3, by (first | walk_at "Z" | omega), fun p hp => .tail _ hp, T2, hvs2, ep1, ps2, _, _, turn + 1, _, tx, _, hend, hT2H, hps2, hpg2, .inr hgd, by (first | (revert hf; walk_at "Z") | omega), by (first | (revert h2; walk_at "Z") | omega), hpl2, hway, by walk_at "H"⟩
      | some z =>
        rw [if_neg (by rw [hq]; simp)] at hpk
        refine t_neg (by rfl) ?_
        repeat walk_at "S"
        exact ⟨fun _ h => h, tt2, tn2, by rw [hr']; exact hpk, by walk_at "H"⟩
    · rintro m' ⟨tt2, tn2, hpk, hL⟩
      rw [hlen, Nat.sub_self] at hpk
      have hpk0 : pick ys ps2 st (turn + 1) 0 ys.length = none := rfl
      rw [hpk0] at hpk
      rw [← hpk] at hway
      repeat walk_at "S"
      refine ⟨f, N3, by (first | walk_at "Z" | omega), fun p hp => .tail _ hp, T2, hvs2, ep1, ps2, st, ts, turn + 1, tt2, [], tn2, hend, hT2H, hps2, hpg2, .inl rfl, by (first | (revert hf; walk_at "Z") | omega), by (first | (revert h2; walk_at "Z") | omega), hpl2, hway, hL⟩
  · rintro f m1 N1 ⟨rfl, T, hvs, ep', hTH, hps, hsub⟩
    repeat walk_at "S"
    exact ⟨_, hsub, h T hvs ep' hTH hps⟩
end

-- n6
def downTo (ys : List (List Nat)) (low : Nat) : List Nat := ((List.range (low + 1)).map fun i => ys.getD (low - i) []).flatten
structure LoneOk (ys : List (List Nat)) (ps : List (List Nat × List Nat)) (number turn : Int) (low : Nat) : Prop where
  low1 : ∀ k < low, ((gray number).fdiv (2 ^ k)).fmod 2 = 0
  low2 : ¬ ((gray number).fdiv (2 ^ low)).fmod 2 = 0
  low3 : low < ys.length
  ctl : NoCtl (textOf ys (gray number))
  ctl2 : NoCtl (spelled (textOf ys (gray number)) (turn + 2))
  len : (textOf ys (gray number)).length ≤ 40
  llen : (leftOf ys (gray number)).length ≤ 1000
  g1 : hget (ps ++ [(spelled (textOf ys (gray number)) (turn + 2), [34])]) (spelled (textOf ys (gray number)) (turn + 2)) = some (spelled (leftOf ys number) turn)
  g2 : hget (ps ++ [(spelled (textOf ys (gray number)) (turn + 2), [34])]) ((textOf ys (gray number)).take ((textOf ys (gray number)).length - 1)) = none
  l1 : lev (textOf ys (gray number)) ((textOf ys (gray number)).take ((textOf ys (gray number)).length - 1)) 2 = 2
  e1 : escEnd false (textOf ys (gray number) ++ [34, 34]) = false
  s1 : stripOf (textOf ys (gray number) ++ [34, 34]) = leftOf ys number
  e2 : escEnd false ((textOf ys (gray number)).take ((textOf ys (gray number)).length - 1)) = false
  s2 : stripOf ((textOf ys (gray number)).take ((textOf ys (gray number)).length - 1)) = leftOf ys number ++ [34] ++ downTo ys low
section
variable {γ : GP} {c : Act} {n : Nat} {m : Loc} {N : Cells}
set_option maxHeartbeats 1000000 in
theorem f_lone {sg x dx H : Addr} {vs hvs : List Value} {ys : List (List Nat)} {ps : List (List Nat × List Nat)} {ep eph low : Nat} {number turn : Int} {t1 t2 : Tok} {Q : Value → Loc → Cells → Prop} (o : Ok (GS γ) (n + 6) c) (hm : (sg, listOf vs.toArray ep) ∈ N) (hv : Strs vs ys)
    (hl : ys.length ≤ 10) (hy : ∀ y ∈ ys, y.length ≤ 100) (hya : ∀ y ∈ ys, Ascii y) (I : HdrIs x dx H N) (hH : (H, listOf hvs.toArray eph) ∈ N) (hps : Prs N hvs ps) (hpg : ∀ p ∈ ps, Ascii p.1 ∧ p.1.length ≤ 1000000) (hpl : ps.length ≤ 100000)
    (hxH : x ≠ H) (hdH : dx ≠ H) (hsH : sg ≠ H) (hHT : ∀ its ep, (H, tupOf its ep) ∉ N) (L : LoneOk ys ps number turn low)
    (h : ∀ N', Q (.bool true) m N') :
    TW (GS γ) c (call (.ref 278) [.ref sg, .int number t1, .int turn t2, .ref x]) m N Q := by
  refine t_callC1 [(Str.ofString "signs", .ref sg), (Str.ofString "number", .int number t1), (Str.ofString "turn", .int turn t2), (Str.ofString "table", .ref x)] (Str.ofString "signs") [(Str.ofString "number", .int number t1), (Str.ofString "turn", .int turn t2), (Str.ofString "table", .ref x)] o (by rfl) (by rfl) (fun s X => BindsTo.of_eq (by rfl)) (by rfl) (fun L => by rfl) ?_ (by rfl) (by rfl) (by rfl) ?_
  · intro p hp
    simp only [List.mem_cons, List.not_mem_nil, or_false] at hp
    rcases hp with rfl | rfl | rfl <;> rfl
  intro c' m' a ob hs o' hL hcl hFa hob
  replace hob : ob.data = .cell (some (.ref sg)) := hob
  have hlen := hv.len
  obtain ⟨st, hst⟩ : ∃ st, st = gray number := ⟨_, rfl⟩
  obtain ⟨L1, L2, L3, L4, L5, L6, L7, L8, L9, L10, L11, L12, L13, L14⟩ := L
  rw [← hst] at L1 L2 L4 L5 L6 L7 L8 L9 L10 L11 L12 L13 L14
  repeat walk_at "S"
  refine TW.mono (Q := fun f m' N' => And3 (f = .next) (N' = (a, ob) :: N) (Ex2 fun ts tl => Has m' [(Str.ofString "number", .int number t1), (Str.ofString "turn", .int turn t2), (Str.ofString "table", .ref x), (Str.ofString "state", .int st ts), (Str.ofString "low", .int (low : Nat) tl)]))
    (t_While (fun d m' N' => Ex3 fun (k : Nat) (ts tl : Tok) => And4 (N' = (a, ob) :: N) (d = low - k) (k ≤ low) (Has m' [(Str.ofString "number", .int number t1), (Str.ofString "turn", .int turn t2), (Str.ofString "table", .ref x), (Str.ofString "state", .int st ts), (Str.ofString "low", .int (k : Nat) tl)])) low ?_ ?_) ?_
  · rw [show Builtin.bitXor number (number.fdiv 2) = st from hst.symm] at *
    exact ⟨0, _, _, rfl, rfl, by (first | walk_at "Z" | omega), by walk_at "H"⟩
  · rintro d m1 N1 ⟨k, ts, tl, rfl, rfl, hk, hL⟩ _ _
    repeat walk_at "S"
    refine t_dec (fun h1 => ?_) (fun h1 => ?_)
    · have hkl : k < low := by
        rcases Nat.lt_or_ge k low with q | q
        · exact q
        · exact absurd (by rw [show k = low by (first | (revert hk q; walk_at "Z") | omega)] at h1; exact h1) L2
      repeat walk_at "S"
      exact ⟨low - (k + 1), _, by (first | (revert hkl; walk_at "Z") | omega), fun _ h => h, k + 1, _, _, rfl, rfl, by (first | (revert hkl; walk_at "Z") | omega), by walk_at "H"⟩
    · have hkl : k = low := by
        rcases Nat.lt_or_ge k low with q | q
        · exact absurd (L1 k q) h1
        · (first | (revert hk q; walk_at "Z") | omega)
      subst hkl
      exact ⟨rfl, rfl, _, _, hL⟩
  rintro f m1 N1 ⟨rfl, rfl, ts, tl, hL⟩
  have htl := textOf_len (state := st) hy
  have hll := leftOf_len (number := number) hy
  have htA : Ascii (textOf ys st) := textOf_ascii hya
  have hlA : Ascii (leftOf ys number) := leftOf_ascii hya
  obtain ⟨tx, htx⟩ : ∃ tx, tx = textOf ys st := ⟨_, rfl⟩
  obtain ⟨lf, hlf⟩ : ∃ lf, lf = leftOf ys number := ⟨_, rfl⟩
  rw [← htx] at htl htA L4 L5 L6 L8 L9 L10 L11 L12 L13 L14
  rw [← hlf] at hll hlA L8 L12 L14
  repeat walk_at "S"
  refine f_text (n := n) (o'.mono (by (first | walk_at "Z" | walk_at "O"))) (.tail _ hm) hv (by (first | (revert hl; walk_at "Z") | walk_at "O")) hy fun t3 => ?_
  rw [← htx]
  repeat walk_at "S"
  refine f_left (n := n) (o'.mono (by (first | walk_at "Z" | walk_at "O"))) (.tail _ hm) hv (by (first | (revert hl; walk_at "Z") | walk_at "O")) hy fun t4 => ?_
  rw [← hlf]
  have hI1 : HdrIs x dx H ((a, ob) :: N) := I.of (fun o ho => .tail _ ho) (fun o ho => .tail _ ho)
  have haH : a ≠ H := fun e => hFa _ hH e.symm
  obtain ⟨hsh, t0, J⟩ := hI1.ins
  have hvl := hps.len
  repeat walk_at "S"
  refine m_inst o' J (by rfl) (by rfl) (by rfl) (by rfl) ?_
  repeat walk_at "S"
  refine f_spelled (n := n) (o'.mono (by (first | walk_at "Z" | walk_at "O"))) htA (by (first | (revert L6; walk_at "Z") | walk_at "O")) fun t5 => ?_
  obtain ⟨sx, hsx⟩ : ∃ sx, sx = spelled tx (turn + 2) := ⟨_, rfl⟩
  have hsxA : Ascii sx := hsx ▸ spelled_ascii htA
  have hsxl : sx.length = tx.length := hsx ▸ spelled_len
  rw [← hsx] at L5 L8 L9 ⊢
  repeat walk_at "S"
  refine f_add (n := n) (o'.mono (by (first | walk_at "Z" | walk_at "O"))) hI1 (.tail _ hH) L5 (fun d hd => by simp at hd; (first | (revert hd; walk_at "Z") | omega)) (by (first | (revert L6 hsxl; walk_at "Z") | walk_at "O")) (by simp) (by (first | (revert hpl hvl; walk_at "Z") | walk_at "O")) fun Tn t6 ep1 ep2 hTn => ?_
  have hTnH : Tn ≠ H := fun e => hTn _ (.tail _ hH) e.symm
  rw [put_tail hTnH, put_tail haH]
  obtain ⟨N2, hN2⟩ : ∃ N2, N2 = (Tn, tupOf [Value.str (S sx) t5, .str (S [34]) t6].toArray ep2) :: (a, ob) :: put H (listOf (hvs ++ [Value.ref Tn]).toArray ep1) N := ⟨_, rfl⟩
  have hps2 : Prs N2 (hvs ++ [Value.ref Tn]) (ps ++ [(sx, [34])]) := by
    rw [hN2]
    exact ((Prs.put (vs0 := []) (ep0 := 0) (o' := listOf (hvs ++ [Value.ref Tn]).toArray ep1) hHT hps).mono fun p hp => .tail _ (.tail _ hp)).snoc (.head _)
  have hHm2 : (H, listOf (hvs ++ [Value.ref Tn]).toArray ep1) ∈ N2 := by rw [hN2]; exact .tail _ (.tail _ (put_mem hH))
  have hI2 : HdrIs x dx H N2 := by
    rw [hN2]; exact I.of (fun o ho => .tail _ (.tail _ (put_other ho hxH))) (fun o ho => .tail _ (.tail _ (put_other ho hdH)))
  have hm2 : (sg, listOf vs.toArray ep) ∈ N2 := by rw [hN2]; exact .tail _ (.tail _ (put_other hm hsH))
  have hob2 : (a, ob) ∈ N2 := by rw [hN2]; exact .tail _ (.head _)
  have hpg2 : ∀ p ∈ ps ++ [(sx, [34])], Ascii p.1 ∧ p.1.length ≤ 1000000 := by
    intro p hp
    rcases List.mem_append.mp hp with hp | hp
    · exact hpg p hp
    · simp only [List.mem_singleton] at hp; subst hp; exact ⟨hsxA, by show sx.length ≤ _; (first | (revert L6 hsxl; walk_at "Z") | omega)⟩
  have hpl2 : (ps ++ [(sx, [34])]).length ≤ 1000000 := by simp; (first | (revert hpl; walk_at "Z") | omega)
  rw [← hN2]
  clear hN2 hTn J hI1
  generalize hvs ++ [Value.ref Tn] = hvs2 at *
  obtain ⟨hsh, t7, J⟩ := hI2.ins
  refine ⟨trivial, ?_⟩
  repeat walk_at "S"
  refine m_inst o' J (by rfl) (by rfl) (by rfl) (by rfl) ?_
  repeat walk_at "S"
  refine f_spelled (n := n) (o'.mono (by (first | walk_at "Z" | walk_at "O"))) htA (by (first | (revert L6; walk_at "Z") | walk_at "O")) fun t8 => ?_
  rw [← hsx]
  repeat walk_at "S"
  refine f_get (n := n) (o'.mono (by (first | walk_at "Z" | walk_at "O"))) (.inl ⟨rfl, rfl⟩) hI2 hHm2 hps2 hsxA L5 (by (first | (revert L6 hsxl; walk_at "Z") | walk_at "O")) hpg2 hpl2 fun r hr => ?_
  rw [L8] at hr
  obtain ⟨t9, rfl⟩ := hr
  repeat walk_at "S"
  refine f_spelled (n := n) (o'.mono (by (first | walk_at "Z" | walk_at "O"))) hlA (by (first | (revert hl hll; walk_at "Z") | walk_at "O")) fun t10 => ?_
  repeat walk_at "S"
  refine t_neg (by simp) ?_
  repeat walk_at "S"
  refine m_inst o' J (by rfl) (by rfl) (by rfl) (by rfl) ?_
  repeat walk_at "S"
  refine sl_str (x := tx) (by (first | (revert L6; walk_at "Z") | walk_at "O")) .none (.int _ _) fun t11 => ?_
  have hcut : cut tx none (some (-1 : Int)) = tx.take (tx.length - 1) := cut_to tx 1 (by decide)
  rw [hcut]
  obtain ⟨dx1, hdx1⟩ : ∃ d, d = tx.take (tx.length - 1) := ⟨_, rfl⟩
  have hdA : Ascii dx1 := fun d hd => htA d (List.mem_of_mem_take (hdx1 ▸ hd))
  have hdC : NoCtl dx1 := fun d hd => L4 d (List.mem_of_mem_take (hdx1 ▸ hd))
  have hdl : dx1.length ≤ 40 := by rw [hdx1]; simp; (first | (revert L6; walk_at "Z") | omega)
  rw [← hdx1] at L9 L10 L13 L14 ⊢
  repeat walk_at "S"
  refine f_get (n := n) (o'.mono (by (first | walk_at "Z" | walk_at "O"))) (.inr rfl) hI2 hHm2 hps2 hdA hdC (by (first | (revert hdl; walk_at "Z") | walk_at "O")) hpg2 hpl2 fun r hr => ?_
  rw [L9] at hr
  obtain rfl : r = _ := hr
  repeat walk_at "S"
  refine t_neg (by simp) ?_
  repeat walk_at "S"
  refine t_false ?_
  repeat walk_at "S"
  refine sl_str (x := tx) (by (first | (revert L6; walk_at "Z") | walk_at "O")) .none (.int _ _) fun t12 => ?_
  rw [hcut, ← hdx1]
  repeat walk_at "S"
  refine f_lev (n := n) (o'.mono (by (first | walk_at "Z" | walk_at "O"))) htA hdA (by walk_at "O") hdl fun t13 => ?_
  rw [L10]
  repeat walk_at "S"
  refine t_neg (by simp) ?_
  repeat walk_at "S"
  refine o_sadd (by simp; (first | (revert L6; walk_at "Z") | omega)) fun t14 => ?_
  repeat walk_at "S"
  refine f_strip (n := n) (o'.mono (by (first | walk_at "Z" | walk_at "O"))) (by simp; (first | (revert L6; walk_at "Z") | omega)) L11 fun t15 => ?_
  rw [L12]
  repeat walk_at "S"
  refine t_neg (by simp) ?_
  repeat walk_at "S"
  refine t_false ?_
  repeat walk_at "S"
  refine sl_str (x := tx) (by (first | (revert L6; walk_at "Z") | walk_at "O")) .none (.int _ _) fun t16 => ?_
  rw [hcut, ← hdx1]
  repeat walk_at "S"
  refine f_strip (n := n) (o'.mono (by (first | walk_at "Z" | walk_at "O"))) (by (first | (revert hdl; walk_at "Z") | walk_at "O")) L13 fun t17 => ?_
  rw [L14]
  repeat walk_at "S"
  refine o_sadd (by simp; (first | (revert hl hll; walk_at "Z") | omega)) fun t18 => ?_
  have hd34 : (downTo ys low).length ≤ 100 * (low + 1) := by
    unfold downTo
    have key : ∀ (l : List Nat), (∀ i ∈ l, low - i < ys.length) → ((l.map fun i => ys.getD (low - i) []).flatten).length ≤ 100 * l.length := by
      intro l
      induction l with
      | nil => intro _; simp
      | cons i l ih =>
        intro hi
        have := ih fun j hj => hi j (.tail _ hj)
        have hyi := hy _ (getD_mem (ys := ys) (k := low - i) (hi i (.head _)))
        simp only [List.map_cons, List.flatten_cons, List.length_append, List.length_cons]; (first | (revert hyi this; walk_at "Z") | omega)
    have := key (List.range (low + 1)) (fun i hi => by (first | (revert L3; walk_at "Z") | omega))
    simpa using this
  repeat walk_at "S"
  refine a_range3 (by decide) (by decide) fun R t19 t20 t21 hR => ?_
  have hsz : Builtin.Range.rangeSize ((low : Nat) : Int) (-1) (-1) = ((low + 1 : Nat) : Int) := by
    have := size_down (low + 1)
    rwa [show (((low + 1 : Nat) : Int) - 1) = (low : Int) from by push_cast; (first | walk_at "Z" | omega)] at this
  refine comp_it (it_range (.head _) (by first | with_reducible exact small_up (by walk_at "O") | with_reducible exact small_dn (by walk_at "O") | exact small_of hsz (by (first | (revert L3 hl; walk_at "Z") | walk_at "O")) (by (first | walk_at "Z" | walk_at "O")) (by (first | (revert L3 hl; walk_at "Z") | walk_at "O")) (by (first | walk_at "Z" | walk_at "O")) (by (first | walk_at "Z" | walk_at "O")) (by (first | walk_at "Z" | walk_at "O")) (by (first | walk_at "Z" | walk_at "O"))) hsz) (by simp) (by (first | (revert L3 hl; walk_at "Z") | walk_at "O"))
    (fun i r => ∃ t, r = some (.str (S (ys.getD (low - i) [])) t)) ?_ ?_
  · rintro c₂ l X i v hs₂ hcl₂ o₂ hX hi ⟨tv, rfl⟩
    have e1 : ((low : Nat) : Int) + i * -1 = ((low - i : Nat) : Int) := by (first | (revert hi; walk_at "Z") | omega)
    rw [e1]
    have hka : (a, ob) ∈ X := hX _ (.tail _ hob2)
    have hks : (sg, listOf vs.toArray ep) ∈ X := hX _ (.tail _ hm2)
    obtain ⟨t6, hv6⟩ := strs_get hv (k := low - i) (by (first | (revert L3; walk_at "Z") | walk_at "O"))
    repeat walk_at "S"
    refine t_true ?_
    repeat walk_at "S"
    refine s_list hks (by walk_at "O") (by (first | (revert L3 hl; walk_at "Z") | walk_at "O")) hv6 ?_
    exact ⟨⟨_, rfl⟩, fun _ h => h⟩
  · intro A zs epA hp hA
    have hstr : Strs zs _ := hp.strs (f := fun i => some (ys.getD (low - i) [])) (fun i hi ⟨t, e⟩ => by cases e) (fun i y hi ⟨t, e⟩ => ⟨_, t, rfl, by cases e; rfl⟩)
    rw [show (List.range (low + 1)).filterMap (fun i => some (ys.getD (low - i) [])) = (List.range (low + 1)).map (fun i => ys.getD (low - i) []) from by rw [← List.filterMap_eq_map]; rfl] at hstr
    repeat walk_at "S"
    refine a_join (.head _) hstr (by show (downTo ys low).length ≤ _; (first | (revert L3 hd34 hl; walk_at "Z") | omega)) fun t22 => ?_
    repeat walk_at "S"
    refine o_sadd (by show (lf ++ [34]).length + (downTo ys low).length ≤ _; simp; (first | (revert L3 hd34 hl hll; walk_at "Z") | omega)) fun t23 => ?_
    repeat walk_at "S"
    have e : decide (lf ++ [34] ++ downTo ys low = lf ++ [34] ++ ((List.range (low + 1)).map fun i => ys.getD (low - i) []).flatten) = true := decide_eq_true rfl
    rw [e]
    exact ⟨_, fun _ h => h, h _⟩
end

-- n7
theorem ite_joinV {G : St} {c : Act} {b : Bool} {α : Type} {y z : Sem α} {m : Loc} {N : Cells} {Q : α → Loc → Cells → Prop} (P : α → Loc → Cells → Prop) (h1 : b = true → TW G c y m N P)
    (h2 : b = false → TW G c z m N P) (h3 : ∀ v m' N', P v m' N' → Q v m' N') : if b = true then TW G c y m N Q else TW G c z m N Q := by
  cases b with
  | true => rw [if_pos rfl]; exact (h1 rfl).mono h3
  | false => rw [if_neg (by simp)]; exact (h2 rfl).mono h3
theorem range_getD {α : Type} (x : List α) (d : α) : (List.range x.length).map (fun i => x.getD i d) = x := by
  apply List.ext_getElem?
  intro i
  rw [List.getElem?_map]
  by_cases h : i < x.length
  · rw [List.getElem?_range h]; simp [h]
  · rw [List.getElem?_eq_none (by simpa using h), List.getElem?_eq_none (by (first | (revert h; walk_at "Z") | walk_at "O"))]; rfl
theorem range_getD' {α : Type} (x : List α) (d : α) {n : Nat} (h : x.length = n) : (List.range n).map (fun i => x.getD i d) = x := by subst h; exact range_getD x d
theorem t_try_stopE {G : St} {n : Nat} {m : Loc} {N : Cells} {c : Act} {cn : Str} {cs : Scope} {L a : Addr} {ccd : Value} {h₀ : Heap}
    {name qual : Str} {params : Arguments} {rest : List Stmt} {scope : Scope} {dV kV doc pm cdv ct oc : Value} {an od : Option Addr} {osl : Array (Option Value)} {f I l : Addr} {ob : Obj} {vs : List Value} {ep i : Nat} {x y arg fname : Str} {py p1 p2 p3 p4 fp ap cp xp sp pp hp tp : Pos} {st2 : Stmt} {lm : List (Str × Value)} (N₂ : Cells) (hc : c = ⟨callerA.deeper (envOf cn cs L a ccd), envOf cn cs L a ccd, h₀⟩) {Q : Flow → Loc → Cells → Prop}
    (o : Ok G (n + 2) c) (hI : (I, ob) ∈ N) (hi : isLI l i ob) (hl : (l, listOf vs.toArray ep) ∈ N) (hlI : l ≠ I) (hx : vs[i]? = none)
    (ho : G.K.lookup f = some ⟨oc, od, .func (fnOf name qual params (.Assign [.Name y py] (.Call (.Name (Str.ofString "next") p1) [.Name x p2] [] p3) p4 :: rest) scope dV kV doc pm an cdv ct), osl⟩) (hcd : codeIn G.K cdv qual = true)
    (hbind : ∀ s : Shared, G.K.In s.heap → BindsTo s (fnOf name qual params (.Assign [.Name y py] (.Call (.Name (Str.ofString "next") p1) [.Name x p2] [] p3) p4 :: rest) scope dV kV doc pm an cdv ct) ⟨[.ref I], []⟩ [(x, .ref I)])
    (hloc : scope.names.lookup x = some .local) (hnext : scope.names.lookup (Str.ofString "next") = some .globalImplicit) (hcell : ∀ x ∈ scope.names, x.2 ≠ .cell)
    (hco : scope.isCoroutine = false) (hgen : scope.isGenerator = false) (hk : scope.kind = .function) (hxd : (x == ("__debug__" : Str)) = false)
    (en : nsIn G.K mainGlobals (Str.ofString "next") = some none) (hkeep : keepIn G.K (.ref f) = true)
    (hL : Has m lm) (harg : lm.lookup arg = some (.ref I)) (hargl : cs.names.lookup arg = some .local) (hargd : (arg == ("__debug__" : Str)) = false)
    (ef : nsIn G.K mainGlobals fname = some (some (.ref f))) (hfl : cs.names.lookup fname = some .globalImplicit) (hfd : (fname == ("__debug__" : Str)) = false)
    (es : nsIn G.K mainGlobals (Str.ofString "StopIteration") = some none) (hsl : cs.names.lookup (Str.ofString "StopIteration") = some .globalImplicit) (hcs : cs.kind = .function)
    (hN₂ : ∀ p ∈ N₂, p ∈ N ∧ p.1 ≠ I) (h : Q .next m N₂) :
    TW G c (exec (.Try [.Expr (.Call (.Name fname fp) [.Name arg ap] [] cp) xp, st2] [.ExceptHandler (some (.Name (Str.ofString "StopIteration") sp)) none [.Pass pp] hp] [] [] tp) c.env) m N Q := by
  subst hc
  exact t_try_stop N₂ o hI hi hl hlI hx ho hcd hbind hloc hnext hcell hco hgen hk hxd en hkeep hL harg hargl hargd ef hfl hfd es hsl hcs hN₂ h
theorem TW.uniq {G : St} {c : Act} {α : Type} {t : Sem α} {m : Loc} {N : Cells} {Q : α → Loc → Cells → Prop} (h : (∀ a o o', (a, o) ∈ N → (a, o') ∈ N → o = o') → TW G c t m N Q) : TW G c t m N Q :=
  ⟨fun s₀ s E P => (h fun a o o' h1 h2 => by
    have := (P.N _ h1).1; rw [(P.N _ h2).1] at this; exact (Option.some.inj this).symm).out s₀ s E P⟩
theorem strOk_ascii {x : List Nat} (h : Ascii x) : PyData.strOk (S x) = true := by
  unfold PyData.strOk
  rw [S_cps, List.all_toArray, List.all_eq_true]
  intro d hd
  have := h d hd
  simp; (first | (revert this; walk_at "Z") | omega)
theorem due_ok {ys : List (List Nat)} {begun : Int} {k : Nat} (hy : ∀ y ∈ ys, y.length ≤ 100 ∧ Ascii y) (hl : ys.length ≤ 10) : ∀ p ∈ dueOf ys begun k, (Ascii p.1 ∧ p.1.length ≤ 2000) ∧ Ascii p.2 ∧ p.2.length ≤ 2000 := by
  intro p hp
  unfold dueOf at hp
  obtain ⟨t, _, rfl⟩ := List.mem_map.mp hp
  have h1 := fun y hyy => (hy y hyy).1
  have h2 := fun y hyy => (hy y hyy).2
  have h3 := textOf_len (state := gray (Builtin.bitXor begun (t : Int))) h1
  have h4 := leftOf_len (number := Builtin.bitXor begun (t : Int)) h1
  refine ⟨⟨spelled_ascii (textOf_ascii h2), ?_⟩, spelled_ascii (leftOf_ascii h2), ?_⟩
  · show (spelled _ _).length ≤ _; rw [spelled_len]; (first | (revert h3 hl; walk_at "Z") | omega)
  · show (spelled _ _).length ≤ _; rw [spelled_len]; (first | (revert h4 hl; walk_at "Z") | omega)
theorem dueOf_len {ys : List (List Nat)} {begun : Int} {k : Nat} : (dueOf ys begun k).length = k := by simp [dueOf]
theorem flatten_len {l : List (List Nat)} {b : Nat} (h : ∀ x ∈ l, x.length ≤ b) : l.flatten.length ≤ b * l.length := by
  induction l with
  | nil => simp
  | cons x l ih =>
    have h1 := h x (.head _)
    have h2 := ih fun y hy => h y (.tail _ hy)
    simp only [List.flatten_cons, List.length_append, List.length_cons]
    rw [Nat.mul_succ]; (first | (revert h1 h2; walk_at "Z") | omega)
theorem drop_nil_get {α : Type} {x : List α} {j : Nat} (h : x.drop j = []) : x[j]? = none := by
  have := congrArg List.length h
  simp at this
  exact List.getElem?_eq_none (by (first | (revert this; walk_at "Z") | walk_at "O"))
theorem lawT_lenB {ys : List (List Nat)} {state : Int} {b : Nat} (hy : ∀ y ∈ ys, y.length ≤ b) : ∀ (k : Nat) (acc : List Nat × Bool), k ≤ ys.length → (lawT ys state k acc).1.length ≤ acc.1.length + (b + 1) * k
  | 0, acc, _ => by simp [lawT]
  | k + 1, (t, odd), hk => by
    have := hy _ (getD_mem (k := k) hk)
    unfold lawT
    rw [Nat.mul_succ]
    split
    · have ih := lawT_lenB (state := state) hy k (t ++ [34] ++ ys.getD k [], !odd) (by (first | (revert hk; walk_at "Z") | walk_at "O"))
      simp only [List.length_append, List.length_cons, List.length_nil] at ih ⊢; (first | (revert ih this; walk_at "Z") | omega)
    · have ih := lawT_lenB (state := state) hy k (t ++ ys.getD k [], odd) (by (first | (revert hk; walk_at "Z") | walk_at "O"))
      simp only [List.length_append, List.length_cons, List.length_nil] at ih ⊢; (first | (revert ih this; walk_at "Z") | omega)
theorem textOf_lenB {ys : List (List Nat)} {state : Int} {b : Nat} (hy : ∀ y ∈ ys, y.length ≤ b) : (textOf ys state).length ≤ (b + 1) * ys.length + 1 := by
  have := lawT_lenB (state := state) hy ys.length ([], false) (Nat.le_refl _)
  unfold textOf
  split <;> simp at this ⊢ <;> (first | (revert this; walk_at "Z") | omega)
theorem size_step {a b d : Int} (hd : 0 < d) (hab : b - a ≤ 1000) : ∃ k : Nat, Builtin.Range.rangeSize a b d = (k : Int) ∧ (∀ i : Nat, i < k → a + i * d < b) ∧ k ≤ 1001 := by
  unfold Builtin.Range.rangeSize
  rw [if_pos hd]
  split
  · rename_i h
    have h0 : 0 ≤ (b - a - 1) / d := Int.ediv_nonneg (by (first | (revert h; walk_at "Z") | walk_at "O")) (by (first | (revert hd; walk_at "Z") | walk_at "O"))
    have h1 := Int.ediv_mul_le (b - a - 1) (show d ≠ 0 by (first | (revert hd; walk_at "Z") | omega))
    have h2 : (b - a - 1) / d ≤ b - a - 1 := Int.ediv_le_self _ (by (first | (revert h; walk_at "Z") | walk_at "O"))
    refine ⟨((b - a - 1) / d + 1).toNat, by (first | (revert h0; walk_at "Z") | omega), fun i hi => ?_, by (first | (revert h2 hab; walk_at "Z") | omega)⟩
    have h3 : (i : Int) ≤ (b - a - 1) / d := by (first | (revert hi; walk_at "Z") | omega)
    have h4 := Int.mul_le_mul_of_nonneg_right h3 (show 0 ≤ d by (first | (revert hd; walk_at "Z") | omega))
    (first | (revert h1 h4; walk_at "Z") | omega)
  · exact ⟨0, rfl, fun i hi => absurd hi (by (first | walk_at "Z" | walk_at "O")), by (first | walk_at "Z" | omega)⟩
theorem flatten_ones (ls : List Nat) : (ls.map fun d => [d]).flatten = ls := by
  induction ls with
  | nil => rfl
  | cons d ls ih => simp only [List.map_cons, List.flatten_cons, ih]; rfl
def tapeOf (x : List Nat) : List Nat := x.filterMap fun d => if d ∈ [34, 92] then none else some (d + 128 * (d / 2 % 2))
def Reads : List Nat → List Int → Prop
  | bs, [] => bs = []
  | bs, v :: r => ∃ (k : Nat) (bs' : List Nat), vmore 0 bs = some (k, bs') ∧ v = (k : Int) ∧ Reads bs' r
/-- what the law asks of its pieces: plain facts, with no program in sight -/
structure LawOk (size : Nat) (pss : List (List (List Nat))) (ls : List Nat) (begun : Nat) (c3 : Int) : Prop where
  ys : ∀ y ∈ pss.map List.flatten, y.length ≤ 100 ∧ Ascii y
  good : ∀ s (i : Nat), Good (spelled (textOf (pss.map List.flatten) s) i)
  way : way (pss.map List.flatten) (2 ^ size + 2) [] (gray begun) 0 (textOf (pss.map List.flatten) (gray begun)) = dueOf (pss.map List.flatten) begun (2 ^ size)
  reads : Reads (tapeOf ((dueOf (pss.map List.flatten) begun (2 ^ size)).map (·.2)).flatten) (numsOf pss begun (2 ^ size))
  small : ∀ p ∈ pss, p.length ≤ 10 ∧ ∀ q ∈ p, Ascii q ∧ q.length ≤ 10
  letters : ∀ k < size, (pss.getD k []).getD 0 [] = [ls.getD k 0] ∧ 4 = (pss.getD k []).length ∧ (pss.getD k []).getD 2 [] = [figD k]
  lsok : ls.length = size ∧ ∀ d ∈ ls, 97 ≤ d ∧ d ≤ 122
  turns : ∀ j < size, ∀ d < 2 ^ j, ∀ i : Nat, d + 2 ^ j + i * 2 ^ j < 2 ^ size → ∀ r < 3, lev (textOf (ls.map fun d => [d]) (gray (Builtin.bitXor begun ((d + i * 2 ^ j : Nat) : Int)))) (textOf (ls.map fun d => [d]) (gray (Builtin.bitXor begun ((d + 2 ^ j + i * 2 ^ j : Nat) : Int)))) (3 + (r : Nat) : Int) = 4
  plain : ∀ b : Nat, b < size + 2 → lev ls (ls.map up1) (b : Int) = min (size : Int) ((b : Int) + 1)
  figs : ∀ r < 3, lev ls ((List.range size).map figD) (2 * (size : Int) - 1 + (r : Nat)) = 2 * (size : Int)
  lone : ∀ odd : Nat, odd < 2 ^ size → odd % 2 = 1 → ∃ low, LoneOk (pss.map List.flatten) (dueOf (pss.map List.flatten) begun (2 ^ size)) odd (Builtin.bitXor begun (odd : Int)) low
section
variable {γ : GP}
set_option maxHeartbeats 4000000 in
theorem f_law (hlaw : ∀ (size : Nat) pss, (size = 3 ∨ size = 4) → PieceOk size pss → ∀ begun < 2 ^ size, ∀ c3 : Int, ∃ ls, LawOk size pss ls begun c3)
    {l : Addr} {vs : List Value} {ns : List Int} {s : Shared} (X : (GS γ).K.In s.heap) (T : Top (GS γ).p (GS γ).loose (GS γ).mean (GS γ).mg (GS γ).mb s.heap) (hl : s.heap.IsList l vs.toArray) (hv : IntsAre vs ns) (hn : ns.length ≤ 1000) :
    codeAny (model (GS γ).prog (GS γ).w) callerA (.call (.ref 283) ⟨[.ref l], []⟩) (fun r s' => r = .ok (.ret (.bool true)) ∧ Rest s s' ∧ ∀ b o, s.heap.get? b = some o → s'.heap.get? b = some o) s := by
  refine code_top (G := GS γ) (n := 50) [(Str.ofString "script", .ref l)] X T (by (first | walk_at "Z" | walk_at "O")) (by rfl) (by rfl) (BindsTo.of_eq (by rfl)) (locs (by rfl)) (by decide) (by rfl) (by rfl) (by rfl) (by rfl) ?_
  intro c' m' LL hc hs o' hL
  have hl' : c'.h₀.IsList l vs.toArray := by rw [hc]; exact hl
  repeat walk_at "S"
  refine f_cells (n := 1) (o'.mono (by (first | walk_at "Z" | walk_at "O"))) hl' hv hn fun C cs a b d e epC hC hcs => ?_
  have hcl : cs.length = 4 := by simpa using ints_len hcs
  obtain ⟨ta, ha⟩ := ints_at hcs (i := 0) (by simp)
  obtain ⟨tb, hb⟩ := ints_at hcs (i := 1) (by simp)
  obtain ⟨td, hd⟩ := ints_at hcs (i := 2) (by simp)
  obtain ⟨te, he⟩ := ints_at hcs (i := 3) (by simp)
  repeat walk_at "S"
  refine s_list (.head _) (by decide) (by decide) ha ?_
  repeat walk_at "S"
  refine ite_joinV (fun v m' N' => And3 (N' = [(C, listOf cs.toArray epC)]) (∃ (size : Nat) (ts : Tok), (size = 3 ∨ size = 4) ∧ v = .int (size : Nat) ts) (Has m' [(Str.ofString "script", .ref l), (Str.ofString "cells", .ref C)])) ?_ ?_ ?_
  · intro _
    repeat walk_at "S"
    exact ⟨rfl, ⟨4, _, .inr rfl, rfl⟩, by walk_at "H"⟩
  · intro _
    repeat walk_at "S"
    exact ⟨rfl, ⟨3, _, .inl rfl, rfl⟩, by walk_at "H"⟩
  rintro v m1 N1 ⟨rfl, ⟨size, ts, hsz, rfl⟩, hL⟩
  have hsz1 : 1 ≤ size ∧ size ≤ 4 := by (first | (revert hsz; walk_at "Z") | omega)
  repeat walk_at "S"
  refine s_list (.head _) (by decide) (by decide) ha ?_
  repeat walk_at "S"
  refine o_mod (pow2_small (by (first | (revert hsz1; walk_at "Z") | walk_at "O"))).1 fun t1 => ?_
  obtain ⟨begun, hbg, hbg2⟩ := fmod_lt (a.fdiv 4) (2 ^ size) (Nat.two_pow_pos size)
  rw [show ([a, b, d, e].getD 0 0) = a from rfl, show ((2 : Int) ^ size) = ((2 ^ size : Nat) : Int) from by push_cast; rfl, hbg]
  repeat walk_at "S"
  refine s_list (.head _) (by decide) (by decide) hb ?_
  repeat walk_at "S"
  refine s_list (.head _) (by decide) (by decide) hd ?_
  repeat walk_at "S"
  refine f_pieces (n := 1) (o'.mono (by (first | walk_at "Z" | walk_at "O"))) hsz1.1 hsz1.2 fun P pvs epP TP pss hPf hpcs hpok => ?_
  obtain ⟨ls, LW⟩ := hlaw size pss hsz hpok begun hbg2 e
  obtain ⟨hys, hgood, hway, hreads, hsmall, hlet, hlsok, hturns, hplain, hfigs, hlone⟩ := LW
  have hplen : pss.length = size := by
    obtain ⟨ls, f, mid, tail, h1, _, _, _, _, _, h2⟩ := hpok.out
    rw [h2, List.length_set, pcs0_len, h1]
  repeat walk_at "S"
  have hcl0 : c'.env.cells = [] := by rw [hc]; rfl
  have hpvl := hpcs.len
  refine t_compH o' hs hcl0 (by rfl) (by rfl) (by rfl) (by rfl) (by intro _; rfl) (swaps_of hs (by rfl)) (by rfl) ?_
  repeat walk_at "S"
  refine ⟨_, by with_reducible assumption, comp_it (it_list (.head _)) (by simp) (by (first | (revert hplen hpvl hsz1; walk_at "Z") | walk_at "O")) (fun i r => ∃ t, r = some (.str (S (pss.getD i []).flatten) t)) ?_ ?_⟩
  · rintro c₂ lc X i v hs₂ hcl₂ o₂ hX hi hP
    obtain ⟨L, lvs, epL, e1, e2, e3⟩ := hpcs.get (i := i) (by (first | (revert hi hpvl; walk_at "Z") | walk_at "O"))
    rw [e1] at hP
    obtain rfl := Option.some.inj hP
    have hLX : (L, listOf lvs.toArray epL) ∈ X := hX _ (.tail _ (List.mem_append.mpr (.inl e2)))
    have hfl := (hys _ (List.mem_map.mpr ⟨pss.getD i [], (by rw [List.getD_eq_getElem?_getD, List.getElem?_eq_getElem (by (first | (revert hi hpvl; walk_at "Z") | walk_at "O"))]; exact List.getElem_mem _), rfl⟩)).1
    repeat walk_at "S"
    refine t_true ?_
    repeat walk_at "S"
    refine a_join hLX e3 (by (first | (revert hfl; walk_at "Z") | walk_at "O")) fun t2 => ?_
    exact ⟨⟨_, rfl⟩, fun _ h => h⟩
  intro SG zs epS hp hSG m2 hL2
  have hys2 : Strs zs (pss.map List.flatten) := by
    have hstr : Strs zs _ := hp.strs (f := fun i => some (pss.getD i []).flatten) (fun i hi ⟨t, e⟩ => by cases e) (fun i y hi ⟨t, e⟩ => ⟨_, t, rfl, by cases e; rfl⟩)
    rw [show (List.range pvs.length).filterMap (fun i => some (pss.getD i []).flatten) = (List.range pvs.length).map (fun i => (pss.getD i []).flatten) from by rw [← List.filterMap_eq_map]; rfl,
      show (List.range pvs.length).map (fun i => (pss.getD i []).flatten) = ((List.range pvs.length).map (fun i => pss.getD i [])).map List.flatten from by rw [List.map_map]; rfl, range_getD' pss [] hpvl.symm] at hstr
    exact hstr
  clear hp
  have hyl : (pss.map List.flatten).length = size := by rw [List.length_map, hplen]
  obtain ⟨ys, hysd⟩ : ∃ ys, ys = pss.map List.flatten := ⟨_, rfl⟩
  rw [← hysd] at hys hgood hway hreads hlone hys2 hyl
  repeat walk_at "S"
  refine ⟨by simp, fun H hH => ?_⟩
  repeat walk_at "S"
  refine f_new (n := 1) (o'.mono (by (first | walk_at "Z" | walk_at "O"))) (ep := 0) (.head _) fun x dx N' hx hdx hsub hdr => ?_
  have hxH : x ≠ H := fun e => hx _ (.head _) e.symm
  have hdH : dx ≠ H := fun e => hdx _ (.head _) e.symm
  have hSH : SG ≠ H := fun e => hH _ (.head _) e
  have hPH : P ≠ H := fun e => hH _ (.tail _ (.head _)) e
  have hCH : C ≠ H := fun e => hH _ (.tail _ (.tail _ (List.mem_append.mpr (.inr (.head _))))) e
  have hTPH : ∀ p ∈ TP, p.1 ≠ H := fun p hp e => hH _ (.tail _ (.tail _ (List.mem_append.mpr (.inl hp)))) e
  have hpcN : Pcs N' pvs pss := hpcs.mono fun p hp => hsub _ (.tail _ (.tail _ (.tail _ (List.mem_append.mpr (.inl hp)))))
  have hpcH : ∀ v ∈ pvs, v ≠ .ref H := fun v hv e => by
    obtain ⟨L, o, e1, e2⟩ := hpcs.mem v hv
    rw [e] at e1; cases e1
    exact hTPH _ e2 rfl
  have mS := hsub _ (.tail _ (.head _))
  have mP := hsub _ (.tail _ (.tail _ (.head _)))
  have mC := hsub _ (.tail _ (.tail _ (.tail _ (List.mem_append.mpr (.inr (.head _))))))
  have mH := hsub _ (.head _)
  clear hsub hH hSG
  repeat walk_at "S"
  have hgr : gray (begun : Int) = Builtin.bitXor (begun : Int) ((begun : Int).fdiv 2) := rfl
  rw [hgr] at hway
  refine f_way (n := 1) (o'.mono (by (first | walk_at "Z" | walk_at "O"))) mS hys2 (by (first | (revert hsz1 hyl; walk_at "Z") | walk_at "O")) (fun y hy => (hys y hy).1) (fun y hy => (hys y hy).2) hgood hdr mH hxH hdH hSH fun T hvs epH hTH hps => ?_
  rw [hyl, hway] at hps
  obtain ⟨N1, hN1⟩ : ∃ N1, N1 = T ++ put H (listOf hvs.toArray epH) N' := ⟨_, rfl⟩
  have mS1 : (SG, listOf zs.toArray epS) ∈ N1 := by rw [hN1]; exact List.mem_append.mpr (.inr (put_other mS hSH))
  have mP1 : (P, listOf pvs.toArray epP) ∈ N1 := by rw [hN1]; exact List.mem_append.mpr (.inr (put_other mP hPH))
  have mC1 : (C, listOf cs.toArray epC) ∈ N1 := by rw [hN1]; exact List.mem_append.mpr (.inr (put_other mC hCH))
  have mH1 : (H, listOf hvs.toArray epH) ∈ N1 := by rw [hN1]; exact List.mem_append.mpr (.inr (put_mem mH))
  have hdr1 : HdrIs x dx H N1 := by rw [hN1]; exact hdr.of (fun o ho => List.mem_append.mpr (.inr (put_other ho hxH))) (fun o ho => List.mem_append.mpr (.inr (put_other ho hdH)))
  have hps1 : Prs N1 hvs (dueOf ys begun (2 ^ size)) := by rw [hN1]; exact hps.mono fun p hp => List.mem_append.mpr (.inl hp)
  have hpc1 : Pcs N1 pvs pss := by rw [hN1]; exact (hpcN.keep hpcH).mono fun p hp => List.mem_append.mpr (.inr hp)
  rw [← hN1]
  have hp2 : 2 ^ size ≤ 16 := by rcases hsz with rfl | rfl <;> decide
  have hdl := dueOf_len (ys := ys) (begun := (begun : Int)) (k := 2 ^ size)
  have hdok := due_ok (begun := (begun : Int)) (k := 2 ^ size) hys (by (first | (revert hsz1 hyl; walk_at "Z") | walk_at "O"))
  have hhl := hps1.len
  clear hN1 hps hTH mS mP mC mH hpcN hdr hx hdx
  refine ⟨trivial, ?_⟩
  obtain ⟨hsh, t0, J⟩ := hdr1.ins
  repeat walk_at "S"
  refine m_inst o' J (by rfl) (by rfl) (by rfl) (by rfl) ?_
  repeat walk_at "S"
  refine t_cwK0 o' (by rfl) ?_
  refine f_items (n := 1) (o'.mono (by (first | walk_at "Z" | walk_at "O"))) hdr1 mH1 (by (first | (revert hdl hhl hp2; walk_at "Z") | walk_at "O")) fun D hD => ?_
  refine m_append (.head _) rfl rfl ?_
  repeat walk_at "S"
  refine ⟨by simp, fun T2 hT2 => ?_⟩
  repeat walk_at "S"
  refine a_append (vs := hvs) (.tail _ (.head _)) (by (first | (revert hdl hhl hp2; walk_at "Z") | walk_at "O")) fun ep2 => ?_
  have hT2D : T2 ≠ D := fun e => hT2 _ (.head _) e.symm
  rw [put_tail hT2D, put_head hD]
  refine ⟨trivial, ?_⟩
  refine seq_sub (N' := N1) (fun p hp => .tail _ (.tail _ hp)) ?_
  clear hD hT2
  repeat walk_at "S"
  refine m_inst o' J (by rfl) (by rfl) (by rfl) (by rfl) ?_
  repeat walk_at "S"
  refine t_cwK0 o' (by rfl) ?_
  refine f_items (n := 1) (o'.mono (by (first | walk_at "Z" | walk_at "O"))) hdr1 mH1 (by (first | (revert hdl hhl hp2; walk_at "Z") | walk_at "O")) fun D hD => ?_
  repeat walk_at "S"
  refine f_due (n := 1) (o'.mono (by (first | walk_at "Z" | walk_at "O"))) (.tail _ mS1) hys2 (by (first | (revert hsz1 hyl; walk_at "Z") | walk_at "O")) (fun y hy => (hys y hy).1) (fun y hy => (hys y hy).2) fun D3 ds ep3 T3 hD3 hds => ?_
  rw [hyl] at hds
  refine o_prs_ne o' (.tail _ (List.mem_append.mpr (.inr (.head _)))) (.head _) (hps1.mono fun p hp => .tail _ (List.mem_append.mpr (.inr (.tail _ hp)))) (hds.mono fun p hp => .tail _ (List.mem_append.mpr (.inl hp))) (fun p hp => ⟨strOk_ascii (hdok p hp).1.1, strOk_ascii (hdok p hp).2.1⟩) ?_
  repeat walk_at "S"
  refine t_false (t_nil ?_)
  refine seq_sub (N' := N1) (fun p hp => .tail _ (List.mem_append.mpr (.inr (.tail _ hp)))) ?_
  clear hds hD3 T3 D3 ds hD
  repeat walk_at "S"
  refine m_inst o' J (by rfl) (by rfl) (by rfl) (by rfl) ?_
  refine t_cwK0 o' (by rfl) ?_
  refine f_items (n := 1) (o'.mono (by (first | walk_at "Z" | walk_at "O"))) hdr1 mH1 (by (first | (revert hdl hhl hp2; walk_at "Z") | walk_at "O")) fun D hD => ?_
  obtain ⟨due, hdue⟩ : ∃ due, due = dueOf ys (begun : Int) (2 ^ size) := ⟨_, rfl⟩
  rw [← hdue] at hps1 hdl hdok hhl hreads hlone
  obtain ⟨told, htold⟩ : ∃ told, told = (due.map (·.2)).flatten := ⟨_, rfl⟩
  have htA : Ascii told := by
    rw [htold]
    intro d hd
    obtain ⟨y, hy, hd⟩ := List.mem_flatten.mp hd
    obtain ⟨p, hp, rfl⟩ := List.mem_map.mp hy
    exact (hdok p hp).2.1 d hd
  have htl : told.length ≤ 32000 := by
    have := flatten_len (l := due.map (·.2)) (b := 2000) (fun y hy => by
      obtain ⟨p, hp, rfl⟩ := List.mem_map.mp hy
      exact (hdok p hp).2.2)
    rw [htold]
    rw [List.length_map] at this
    (first | (revert hdl hp2 this; walk_at "Z") | omega)
  refine comp_it (it_list (.head _)) (by simp) (by (first | (revert hdl hhl hp2; walk_at "Z") | walk_at "O")) (fun i r => ∃ t, r = some (.str (S (due.getD i ([], [])).2) t)) ?_ ?_
  · rintro c₂ lc X i v hs₂ hcl₂ o₂ hX hi hP
    have hi' : i < due.length := by (first | (revert hhl hi; walk_at "Z") | omega)
    obtain ⟨Tt, t2, u2, epT, e1, e2⟩ := hps1.get (i := i) (a := (due.getD i ([], [])).1) (b := (due.getD i ([], [])).2) (by rw [List.getD_eq_getElem?_getD, List.getElem?_eq_getElem hi']; rfl)
    rw [e1] at hP
    obtain rfl := Option.some.inj hP
    refine t_pair o₂ (hX _ (.tail _ e2)) ?_
    repeat walk_at "S"
    refine t_true ?_
    repeat walk_at "S"
    exact ⟨⟨_, rfl⟩, fun _ h => h⟩
  intro LL2 ws epW hp hLL2
  have hws : Strs ws (due.map (·.2)) := by
    have hstr : Strs ws _ := hp.strs (f := fun i => some (due.getD i ([], [])).2) (fun i hi ⟨t, e⟩ => by cases e) (fun i y hi ⟨t, e⟩ => ⟨_, t, rfl, by cases e; rfl⟩)
    rw [show (List.range hvs.length).filterMap (fun i => some (due.getD i ([], [])).2) = (List.range hvs.length).map (fun i => (due.getD i ([], [])).2) from by rw [← List.filterMap_eq_map]; rfl,
      show (List.range hvs.length).map (fun i => (due.getD i ([], [])).2) = ((List.range hvs.length).map (fun i => due.getD i ([], []))).map (·.2) from by rw [List.map_map]; rfl, range_getD' due ([], []) hhl.symm] at hstr
    exact hstr
  clear hp
  repeat walk_at "S"
  refine a_join (.head _) hws (by rw [← htold]; (first | (revert htl; walk_at "Z") | omega)) fun t3 => ?_
  rw [← htold]
  walk_at "S"
  refine seq_sub (N' := N1) (fun p hp => .tail _ (.tail _ hp)) ?_
  clear hLL2 hD hws
  repeat walk_at "S"
  refine comp_it (it_str htA) (by simp) (by (first | (revert htl; walk_at "Z") | walk_at "O")) (fun i r => match r with
      | none => told.getD i 0 ∈ [34, 92]
      | some y => told.getD i 0 ∉ [34, 92] ∧ ∃ t, y = .int ((told.getD i 0 + 128 * (told.getD i 0 / 2 % 2) : Nat) : Int) t) ?_ ?_
  · rintro c₂ lc X i v hs₂ hcl₂ o₂ hX hi ⟨d, t4, hd1, rfl⟩
    have hgd : told.getD i 0 = d := by rw [List.getD_eq_getElem?_getD, hd1]; rfl
    rw [hgd]
    repeat walk_at "S"
    refine o_notin1 ?_
    repeat walk_at "S"
    by_cases hq : d ∈ [34, 92]
    · refine t_neg (by rw [decide_eq_true hq]; rfl) ⟨hq, fun _ h => h⟩
    · refine t_pos (by rw [decide_eq_false hq]; rfl) ?_
      repeat walk_at "S"
      refine a_ord fun t5 => ?_
      repeat walk_at "S"
      refine a_ord fun t6 => ?_
      repeat walk_at "S"
      refine o_mul (.of_left (by decide)) fun t7 => ?_
      repeat walk_at "S"
      have e1 : ((d : Int)).fdiv 2 = ((d / 2 : Nat) : Int) := by rw [Int.fdiv_eq_ediv_of_nonneg _ (by decide)]; rfl
      have e2 := fmod_nat (d / 2) 2
      rw [show ((2 : Nat) : Int) = 2 from rfl] at e2
      rw [e1, e2]
      exact ⟨⟨hq, _, by push_cast; rfl⟩, fun _ h => h⟩
  intro TL tvs epT hp hTL
  have htv : IntsAre tvs ((tapeOf told).map fun (b : Nat) => (b : Int)) := by
    have hints : IntsAre tvs _ := hp.ints (f := fun i => if told.getD i 0 ∈ [34, 92] then none else some ((told.getD i 0 + 128 * (told.getD i 0 / 2 % 2) : Nat) : Int))
      (fun i hi h => by rw [if_pos h]) (fun i y hi ⟨h1, t, h2⟩ => ⟨_, t, by rw [if_neg h1], h2⟩)
    have e : (List.range told.length).filterMap (fun i => if told.getD i 0 ∈ [34, 92] then none else some ((told.getD i 0 + 128 * (told.getD i 0 / 2 % 2) : Nat) : Int)) = (tapeOf told).map fun (b : Nat) => (b : Int) := by
      have hg : (fun i => if told.getD i 0 ∈ [34, 92] then none else some ((told.getD i 0 + 128 * (told.getD i 0 / 2 % 2) : Nat) : Int)) = (fun d => (if d ∈ [34, 92] then none else some (d + 128 * (d / 2 % 2))).map (fun (b : Nat) => (b : Int))) ∘ (fun i => told.getD i 0) := by
        funext i; simp only [Function.comp]; split <;> rfl
      rw [hg, ← List.filterMap_map, range_getD]; unfold tapeOf; rw [List.map_filterMap]
    rw [e] at hints; exact hints
  clear hp
  have htpl : (tapeOf told).length ≤ 100000 := by
    have : (tapeOf told).length ≤ told.length := by unfold tapeOf; exact List.length_filterMap_le ..
    (first | (revert htl this; walk_at "Z") | omega)
  repeat walk_at "S"
  refine a_iter (.head _) fun I ob hI hob => ?_
  repeat walk_at "S"
  have hTI : TL ≠ I := hI _ (.head _)
  walk_at "F"
  repeat walk_at "S"
  refine f_numbers (n := 1) (o'.mono (by (first | walk_at "Z" | walk_at "O"))) (.tail _ (.tail _ mP1)) (hpc1.mono fun p hp => .tail _ (.tail _ hp)) (by (first | (revert hplen hsz1; walk_at "Z") | walk_at "O")) hsmall fun DN nds epN hDN hnds => ?_
  rw [hplen] at hnds
  have hIN : Fresh I N1 := hI.sub fun p hp => .tail _ hp
  have hnl := ints_len hnds
  have hDI : DN ≠ I := fun e => hDN _ (.head _) e.symm
  refine for_it o' (it_list (.head _))
    (fun I2 i m' N' => (And4 (I2 ≠ DN) (I2 ≠ I) (I2 ≠ TL) (Fresh I2 N1)) ∧ Ex2 fun ob j => And4 (N' = (DN, listOf nds.toArray epN) :: (I, ob) :: (TL, listOf tvs.toArray epT) :: N1) (isLI TL j ob) (Reads ((tapeOf told).drop j) ((numsOf pss (begun : Int) (2 ^ size)).drop i)) (Has m' [(Str.ofString "cells", .ref C), (Str.ofString "size", .int (size : Nat) ts), (Str.ofString "begun", .int (begun : Nat) t1), (Str.ofString "pieces", .ref P), (Str.ofString "signs", .ref SG), (Str.ofString "table", .ref x), (Str.ofString "tape", .ref I)])) ?_ ?_ ?_ ?_
  · intro I2 hI2
    refine ⟨⟨fun e => hI2 _ (.head _) e.symm, fun e => hI2 _ (.tail _ (.head _)) e.symm, fun e => hI2 _ (.tail _ (.tail _ (.head _))) e.symm, hI2.sub fun p hp => .tail _ (.tail _ (.tail _ hp))⟩, ob, 0, rfl, hob, ?_, by walk_at "H"⟩
    rw [htold]; exact hreads
  · rintro I2 i m' N' ⟨⟨h1, h2, h3, h4⟩, ob, j, rfl, _⟩
    refine ⟨by simp, fun p hp => ?_⟩
    rcases List.mem_cons.mp hp with rfl | hp
    · exact Ne.symm h1
    rcases List.mem_cons.mp hp with rfl | hp
    · exact Ne.symm h2
    rcases List.mem_cons.mp hp with rfl | hp
    · exact Ne.symm h3
    · exact h4 p hp
  · clear hob
    rintro I2 oI2 i m' N' v hi ⟨⟨h1, h2, h3, h4⟩, ob, j, rfl, hob, hrd, hL⟩ hvi _ _
    have hi' : i < (numsOf pss (begun : Int) (2 ^ size)).length := by (first | (revert hi hnl; walk_at "Z") | omega)
    obtain ⟨tv, hv2⟩ := ints_at hnds hi'
    rw [hv2] at hvi
    obtain rfl := Option.some.inj hvi
    have hdr2 : (numsOf pss (begun : Int) (2 ^ size)).drop i = (numsOf pss (begun : Int) (2 ^ size)).getD i 0 :: (numsOf pss (begun : Int) (2 ^ size)).drop (i + 1) := by
      rw [List.drop_eq_getElem_cons hi', List.getD_eq_getElem?_getD, List.getElem?_eq_getElem hi']; rfl
    rw [hdr2] at hrd
    obtain ⟨k, bs', hk1, hk2, hk3⟩ := hrd
    rw [hk2]
    repeat walk_at "S"
    refine f_varint (n := 1) (o'.mono (by (first | walk_at "Z" | walk_at "O"))) (.tail _ (.tail _ (.head _))) hob (.tail _ (.tail _ (.tail _ (.head _)))) hTI htv htpl hk1 fun t4 ob2 j2 hob2 hj2 => ?_
    rw [put_tail h2, put_tail hDI, put_head (fun p hp => (List.mem_cons.mp hp).elim (fun e => e ▸ hTI) fun hp => hIN p hp)]
    repeat walk_at "S"
    refine t_neg (by simp) ?_
    repeat walk_at "S"
    exact ⟨_, fun _ h => h, ⟨h1, h2, h3, h4⟩, ob2, j2, rfl, hob2, by rw [hj2]; exact hk3, by walk_at "H"⟩
  clear hob hreads
  rintro I2 m' N' ⟨_, ob, j, rfl, hob, hrd, hL⟩
  rw [hnl, List.drop_length] at hrd
  have hjn : (tapeOf told)[j]? = none := drop_nil_get hrd
  have hjt : tvs[j]? = none := by
    have := ints_len htv
    rw [List.length_map] at this
    rw [List.getElem?_eq_none_iff] at hjn ⊢
    (first | (revert hjn this; walk_at "Z") | omega)
  repeat walk_at "S"
  refine t_try_stopE N1 hc (n := 1) (o'.mono (by (first | walk_at "Z" | walk_at "O"))) (.tail _ (.head _)) hob (.tail _ (.tail _ (.head _))) hTI hjt (f := 59) (by rfl) (by rfl) (fun s X => BindsTo.of_eq (by rfl)) (by rfl) (by rfl) (by decide) (by rfl) (by rfl) (by rfl) (by rfl) (by rfl) (by rfl) hL (by rfl) (by rfl) (by rfl) (by rfl) (by rfl) (by rfl) (by rfl) (by rfl) (by rfl) (fun p hp => ⟨.tail _ (.tail _ (.tail _ hp)), hIN p hp⟩) ?_
  clear hDI hnl hIN hDN hTI hTL hI hjt hjn hrd hob hnds htv htpl
  repeat walk_at "S"
  refine t_compH o' hs hcl0 (by rfl) (by rfl) (by rfl) (by rfl) (by intro _; rfl) (swaps_of hs (by rfl)) (by rfl) ?_
  repeat walk_at "S"
  refine ⟨_, hL, comp_it (it_list mP1) (by simpa using mP1) (by (first | (revert hplen hpvl hsz1; walk_at "Z") | walk_at "O")) (fun i r => ∃ t, r = some (.str (S [ls.getD i 0]) t)) ?_ ?_⟩
  · rintro c₂ lc X i v hs₂ hcl₂ o₂ hX hi hP
    obtain ⟨L, lvs, epL, e1, e2, e3⟩ := hpc1.get (i := i) (by (first | (revert hi hpvl; walk_at "Z") | walk_at "O"))
    rw [e1] at hP
    obtain rfl := Option.some.inj hP
    obtain ⟨q1, q2, q3⟩ := hlet i (by (first | (revert hi hplen hpvl; walk_at "Z") | walk_at "O"))
    obtain ⟨t4, e4⟩ := strs_get e3 (k := 0) (by (first | (revert q2; walk_at "Z") | walk_at "O"))
    rw [q1] at e4
    repeat walk_at "S"
    refine t_true ?_
    repeat walk_at "S"
    refine s_list (hX _ e2) (by decide) (by decide) e4 ?_
    exact ⟨⟨_, rfl⟩, fun _ h => h⟩
  intro LT lts epL hp hLT m3 hL3
  obtain ⟨hlsl, hlsr⟩ := hlsok
  have hlts : Strs lts (ls.map fun d => [d]) := by
    have hstr : Strs lts _ := hp.strs (f := fun i => some [ls.getD i 0]) (fun i hi ⟨t, e⟩ => by cases e) (fun i y hi ⟨t, e⟩ => ⟨_, t, rfl, by cases e; rfl⟩)
    rw [show (List.range pvs.length).filterMap (fun i => some [ls.getD i 0]) = (List.range pvs.length).map (fun i => [ls.getD i 0]) from by rw [← List.filterMap_eq_map]; rfl,
      show (List.range pvs.length).map (fun i => [ls.getD i 0]) = ((List.range pvs.length).map (fun i => ls.getD i 0)).map (fun d => [d]) from by rw [List.map_map]; rfl, range_getD' ls 0 (by (first | (revert hlsl hplen hpvl; walk_at "Z") | walk_at "O"))] at hstr
    exact hstr
  clear hp
  have hlA : Ascii ls := fun d hd => by have := hlsr d hd; (first | (revert this; walk_at "Z") | omega)
  repeat walk_at "S"
  refine s_list (.tail _ mC1) (by decide) (by decide) he ?_
  rw [show ([a, b, d, e].getD 3 0) = e from rfl]
  repeat walk_at "S"
  obtain ⟨j, hj, hj2⟩ := fmod_lt e size (by (first | (revert hsz1; walk_at "Z") | walk_at "O"))
  refine o_mod (by (first | (revert hsz1; walk_at "Z") | walk_at "O")) fun t4 => ?_
  rw [hj]
  repeat walk_at "S"
  walk_at "F"
  repeat walk_at "S"
  refine s_list (.tail _ mC1) (by decide) (by decide) he ?_
  rw [show ([a, b, d, e].getD 3 0) = e from rfl]
  repeat walk_at "S"
  refine o_div (by (first | (revert hsz1; walk_at "Z") | walk_at "O")) (by (first | (revert hsz1; walk_at "Z") | walk_at "O")) fun t5 => ?_
  repeat walk_at "S"
  refine o_mod (pow2_small (by (first | (revert hj2 hsz1; walk_at "Z") | walk_at "O"))).1 fun t6 => ?_
  obtain ⟨dd, hdd, hdd2⟩ := fmod_lt (e.fdiv (size : Int)) (2 ^ j) (Nat.two_pow_pos j)
  have hpj : 2 ^ j ≤ 16 := Nat.le_trans (Nat.pow_le_pow_right (by decide) (by (first | (revert hj2 hsz1; walk_at "Z") | walk_at "O"))) (show 2 ^ 4 ≤ 16 by decide)
  have hpj0 := Nat.two_pow_pos j
  have ejc : (2 : Int) ^ j = ((2 ^ j : Nat) : Int) := pow2_cast
  have esc : (2 : Int) ^ size = ((2 ^ size : Nat) : Int) := pow2_cast
  rw [← ejc] at hdd
  rw [hdd]
  repeat walk_at "S"
  rw [esc, ejc] at *
  rw [show ((dd : Int) + ((2 ^ j : Nat) : Int)) = ((dd + 2 ^ j : Nat) : Int) from by push_cast; rfl]
  refine a_range3 (by (first | (revert hpj0; walk_at "Z") | walk_at "O")) (by (first | (revert hpj hpj0; walk_at "Z") | walk_at "O")) fun R t7 t8 t9 hR => ?_
  obtain ⟨kk, hkk, hkk2, hkk3⟩ := size_step (a := ((dd + 2 ^ j : Nat) : Int)) (b := ((2 ^ size : Nat) : Int)) (d := ((2 ^ j : Nat) : Int)) (by (first | (revert hpj0; walk_at "Z") | walk_at "O")) (by (first | (revert hp2 hpj0; walk_at "Z") | walk_at "O"))
  have hly : ∀ y ∈ ls.map (fun d => [d]), y.length ≤ 100 := fun y hy => by
    obtain ⟨d, _, rfl⟩ := List.mem_map.mp hy; simp
  have hly1 : ∀ y ∈ ls.map (fun d => [d]), y.length ≤ 1 := fun y hy => by
    obtain ⟨d, _, rfl⟩ := List.mem_map.mp hy; simp
  have hlyA : ∀ y ∈ ls.map (fun d => [d]), Ascii y := fun y hy => by
    obtain ⟨d, hd, rfl⟩ := List.mem_map.mp hy
    intro e he; simp only [List.mem_singleton] at he; subst he; exact hlA _ hd
  have hlml : (ls.map fun d => [d]).length = size := by rw [List.length_map, hlsl]
  have hstepv : ∀ i : Nat, ((dd + i * 2 ^ j : Nat) : Int) = ((dd + 2 ^ j + i * 2 ^ j : Nat) : Int) - (2 : Int) ^ j := fun i => by rw [show ((2 : Int) ^ j) = ((2 ^ j : Nat) : Int) from pow2_cast]; push_cast; (first | walk_at "Z" | omega)
  refine for_itP o' (it_range (.head _) (by first | with_reducible exact small_up (by walk_at "O") | with_reducible exact small_dn (by walk_at "O") | exact small_of hkk (by (first | (revert hkk3; walk_at "Z") | walk_at "O")) (by (first | (revert hpj0; walk_at "Z") | walk_at "O")) (by (first | (revert hdd2 hpj; walk_at "Z") | walk_at "O")) (by (first | (revert hdl; walk_at "Z") | walk_at "O")) (by (first | (revert hp2; walk_at "Z") | walk_at "O")) (by (first | (revert hpj0; walk_at "Z") | walk_at "O")) (by (first | (revert hpj; walk_at "Z") | walk_at "O"))) hkk) (by simp)
    (fun i m' => ∃ tk, Has m' [(Str.ofString "cells", .ref C), (Str.ofString "size", .int (size : Nat) ts), (Str.ofString "begun", .int (begun : Nat) t1), (Str.ofString "pieces", .ref P), (Str.ofString "signs", .ref SG), (Str.ofString "table", .ref x), (Str.ofString "letters", .ref LT), (Str.ofString "step", .int ((2 : Int) ^ j) tk)]) ?_ ?_ ?_
  · exact ⟨_, by walk_at "H"⟩
  · rintro I2 oI2 i m' v hi hI2 ⟨tk, hL⟩ ⟨tv, rfl⟩ _ _
    have ht1 : ((dd + 2 ^ j : Nat) : Int) + (i : Int) * ((2 ^ j : Nat) : Int) = ((dd + 2 ^ j + i * 2 ^ j : Nat) : Int) := by push_cast; rfl
    have hcond := hkk2 i hi
    rw [ht1] at hcond
    rw [ht1]
    obtain ⟨r, hr, hr2⟩ := fmod_lt (e + ((dd + 2 ^ j + i * 2 ^ j : Nat) : Int)) 3 (by (first | walk_at "Z" | walk_at "O"))
    rw [show ((3 : Nat) : Int) = 3 from rfl] at hr
    have hlev := hturns j (by walk_at "O") dd hdd2 i (by (first | (revert hcond; walk_at "Z") | walk_at "O")) r hr2
    rw [hstepv, ← hr] at hlev
    unfold gray at hlev
    generalize ((dd + 2 ^ j + i * 2 ^ j : Nat) : Int) = tn at hlev ⊢
    repeat walk_at "S"
    refine s_list (.tail _ (.tail _ (.tail _ mC1))) (by decide) (by decide) he ?_
    rw [show ([a, b, d, e].getD 3 0) = e from rfl]
    repeat walk_at "S"
    refine f_text (n := 1) (o'.mono (by (first | walk_at "Z" | walk_at "O"))) (.tail _ (.tail _ (.head _))) hlts (by (first | (revert hlml hsz1; walk_at "Z") | walk_at "O")) hly fun t10 => ?_
    repeat walk_at "S"
    refine f_text (n := 1) (o'.mono (by (first | walk_at "Z" | walk_at "O"))) (.tail _ (.tail _ (.head _))) hlts (by (first | (revert hlml hsz1; walk_at "Z") | walk_at "O")) hly fun t11 => ?_
    repeat walk_at "S"
    refine f_lev (n := 1) (o'.mono (by (first | walk_at "Z" | walk_at "O"))) (textOf_ascii hlyA) (textOf_ascii hlyA) (Nat.le_trans (textOf_lenB hly1) (by (first | (revert hlml hsz1; walk_at "Z") | walk_at "O"))) (Nat.le_trans (textOf_lenB hly1) (by (first | (revert hlml hsz1; walk_at "Z") | walk_at "O"))) fun t12 => ?_
    rw [hlev]
    repeat walk_at "S"
    refine t_neg (by simp) ?_
    repeat walk_at "S"
    exact ⟨fun _ h => h, tk, by walk_at "H"⟩
  clear hstepv hkk hkk2 hkk3 hR
  rintro m' ⟨tk, hL⟩
  repeat walk_at "S"
  refine a_join (.tail _ (.head _)) hlts (by rw [flatten_ones]; (first | (revert hlsl hsz1; walk_at "Z") | omega)) fun t10 => ?_
  rw [flatten_ones]
  walk_at "S"
  refine seq_sub (N' := N1) (fun p hp => .tail _ (.tail _ hp)) ?_
  clear hlts hLT hly hly1 hlyA
  repeat walk_at "S"
  refine s_list mC1 (by decide) (by decide) he ?_
  rw [show ([a, b, d, e].getD 3 0) = e from rfl]
  repeat walk_at "S"
  refine o_mod (by (first | walk_at "Z" | walk_at "O")) fun t11 => ?_
  obtain ⟨bb, hbb, hbb2⟩ := fmod_lt e (size + 2) (by (first | walk_at "Z" | walk_at "O"))
  rw [show ((size : Int) + 2) = ((size + 2 : Nat) : Int) from by push_cast; rfl, hbb]
  repeat walk_at "S"
  refine a_upper hlA (by (first | (revert hlsl hsz1; walk_at "Z") | walk_at "O")) fun t12 => ?_
  repeat walk_at "S"
  refine f_lev (n := 1) (o'.mono (by (first | walk_at "Z" | walk_at "O"))) hlA (fun d hd => by
    obtain ⟨q, hq, rfl⟩ := List.mem_map.mp hd
    exact up1_lt (hlA q hq)) (by (first | (revert hlsl hsz1; walk_at "Z") | walk_at "O")) (by rw [List.length_map]; (first | (revert hlsl hsz1; walk_at "Z") | omega)) fun t13 => ?_
  rw [hplain bb hbb2]
  repeat walk_at "S"
  refine a_min o' fun t14 => ?_
  repeat walk_at "S"
  refine t_neg (by simp) ?_
  repeat walk_at "S"
  refine comp_it (it_list mP1) (by simpa using mP1) (by (first | (revert hplen hpvl hsz1; walk_at "Z") | walk_at "O")) (fun i r => ∃ t, r = some (.str (S [figD i]) t)) ?_ ?_
  · rintro c₂ lc X i v hs₂ hcl₂ o₂ hX hi hP
    obtain ⟨L, lvs, epL, e1, e2, e3⟩ := hpc1.get (i := i) (by (first | (revert hi hpvl; walk_at "Z") | walk_at "O"))
    rw [e1] at hP
    obtain rfl := Option.some.inj hP
    obtain ⟨q1, q2, q3⟩ := hlet i (by (first | (revert hi hplen hpvl; walk_at "Z") | walk_at "O"))
    obtain ⟨t4, e4⟩ := strs_get e3 (k := 2) (by (first | (revert q2; walk_at "Z") | walk_at "O"))
    rw [q3] at e4
    repeat walk_at "S"
    refine t_true ?_
    repeat walk_at "S"
    refine s_list (hX _ e2) (by decide) (by decide) e4 ?_
    exact ⟨⟨_, rfl⟩, fun _ h => h⟩
  intro LF fvs epF hp hLF
  obtain ⟨figs, hfg⟩ : ∃ figs, figs = (List.range size).map figD := ⟨_, rfl⟩
  have hfl : figs.length = size := by rw [hfg]; simp
  have hfA : Ascii figs := fun d hd => by
    rw [hfg] at hd
    obtain ⟨k, hk, rfl⟩ := List.mem_map.mp hd
    have := List.mem_range.mp hk
    have hk4 : k = 0 ∨ k = 1 ∨ k = 2 ∨ k = 3 := by (first | (revert hsz1 this; walk_at "Z") | omega)
    rcases hk4 with rfl | rfl | rfl | rfl <;> decide
  have hfvs : Strs fvs (figs.map fun d => [d]) := by
    have hstr : Strs fvs _ := hp.strs (f := fun i => some [figD i]) (fun i hi ⟨t, e⟩ => by cases e) (fun i y hi ⟨t, e⟩ => ⟨_, t, rfl, by cases e; rfl⟩)
    rw [show (List.range pvs.length).filterMap (fun i => some [figD i]) = figs.map fun d => [d] from by rw [hfg, hpvl, hplen, List.map_map, ← List.filterMap_eq_map]; rfl] at hstr
    exact hstr
  clear hp
  rw [← hfg] at hfigs
  repeat walk_at "S"
  refine a_join (.head _) hfvs (by rw [flatten_ones]; (first | (revert hfl hsz1; walk_at "Z") | omega)) fun t15 => ?_
  rw [flatten_ones]
  walk_at "S"
  refine seq_sub (N' := N1) (fun p hp => .tail _ hp) ?_
  clear hfvs hLF
  obtain ⟨r3, hr3, hr32⟩ := fmod_lt e 3 (by (first | walk_at "Z" | walk_at "O"))
  rw [show ((3 : Nat) : Int) = 3 from rfl] at hr3
  have hfr := hfigs r3 hr32
  rw [← hr3] at hfr
  repeat walk_at "S"
  refine o_mul (.of_left (by decide)) fun t16 => ?_
  repeat walk_at "S"
  refine s_list mC1 (by decide) (by decide) he ?_
  rw [show ([a, b, d, e].getD 3 0) = e from rfl]
  repeat walk_at "S"
  refine f_lev (n := 1) (o'.mono (by (first | walk_at "Z" | walk_at "O"))) hlA hfA (by (first | (revert hlsl hsz1; walk_at "Z") | walk_at "O")) (by (first | (revert hfl hsz1; walk_at "Z") | walk_at "O")) fun t17 => ?_
  rw [hfr]
  repeat walk_at "S"
  refine o_mul (.of_left (by decide)) fun t18 => ?_
  repeat walk_at "S"
  refine t_neg (by simp) ?_
  repeat walk_at "S"
  refine s_list mC1 (by decide) (by decide) he ?_
  rw [show ([a, b, d, e].getD 3 0) = e from rfl]
  repeat walk_at "S"
  rw [show ((size : Int) - 1) = ((size - 1 : Nat) : Int) from by (first | (revert hsz1; walk_at "Z") | omega)]
  refine o_pow2 (by (first | (revert hsz1; walk_at "Z") | walk_at "O")) fun t19 => ?_
  refine o_mod (pow2_small (by (first | (revert hsz1; walk_at "Z") | walk_at "O"))).1 fun t20 => ?_
  obtain ⟨rr, hrr, hrr2⟩ := fmod_lt e (2 ^ (size - 1)) (Nat.two_pow_pos _)
  rw [pow2_cast, hrr]
  refine o_mul (.of_left (by decide)) fun t21 => ?_
  have hrr3 : 2 * rr + 1 < 2 ^ size := by
    have : 2 ^ size = 2 * 2 ^ (size - 1) := by rw [show size = (size - 1) + 1 from by (first | (revert hsz1; walk_at "Z") | omega), Nat.pow_succ]; simp; (first | walk_at "Z" | omega)
    (first | (revert hrr2 this; walk_at "Z") | omega)
  obtain ⟨low, hlow⟩ := hlone (2 * rr + 1) hrr3 (by (first | walk_at "Z" | walk_at "O"))
  rw [show ((2 * rr + 1 : Nat) : Int) = 2 * (rr : Int) + 1 from by push_cast; rfl] at hlow
  repeat walk_at "S"
  refine TW.uniq fun hu => ?_
  refine f_lone (n := 1) (o'.mono (by (first | walk_at "Z" | walk_at "O"))) mS1 hys2 (by (first | (revert hsz1 hyl; walk_at "Z") | walk_at "O")) (fun y hy => (hys y hy).1) (fun y hy => (hys y hy).2) hdr1 mH1 hps1 (fun p hp => ⟨(hdok p hp).1.1, by have := (hdok p hp).1.2; (first | (revert this; walk_at "Z") | omega)⟩) (by (first | (revert hdl hp2; walk_at "Z") | walk_at "O")) hxH hdH hSH (fun its ep hm => by
    have this : Value.type "tuple" = Value.type "list" := congrArg Obj.cls (hu _ _ _ hm mH1)
    exact absurd this (by decide)) hlow fun N' => ?_
  rfl
end

-- q1
-- the plain law of wn0116-01, part 1: what strip leaves
theorem escItems_append : ∀ (a b : List Nat) (i : Nat) (e : Bool), escEnd e a = false → escItems i e (a ++ b) = escItems i e a ++ escItems (i + a.length) false b
  | [], b, i, e, he => by
    have h : e = false := he
    subst h
    rfl
  | d :: a, b, i, true, he => by
    rw [List.cons_append, esc_t, esc_t, escItems_append a b (i + 1) false he]
    simp; congr 1; (first | walk_at "Z" | omega)
  | d :: a, b, i, false, he => by
    by_cases h : d = 92
    · subst h
      rw [List.cons_append, esc_b, esc_b, escItems_append a b (i + 1) true he]
      simp; congr 1; (first | walk_at "Z" | omega)
    · rw [List.cons_append, esc_f h, esc_f h, escItems_append a b (i + 1) false (by simpa [escEnd, h] using he)]
      simp; congr 1; (first | walk_at "Z" | omega)
theorem escEnd_append : ∀ (a b : List Nat) (e : Bool), escEnd e (a ++ b) = escEnd (escEnd e a) b
  | [], b, e => by simp [escEnd]
  | d :: a, b, true => by simp [escEnd, escEnd_append a b]
  | d :: a, b, false => by
    by_cases h : d = 92 <;> simp [escEnd, h, escEnd_append a b]
/-- a sign: no open backslash, no quotation mark that counts -/
structure Closed (y : List Nat) : Prop where
  fin : escEnd false y = false
  noq : ∀ i, ∀ p ∈ escItems i false y, p.2 ≠ [34]
abbrev Tk := Option (List Nat)
def render : List Tk → List Nat
  | [] => []
  | none :: r => 34 :: render r
  | some y :: r => y ++ render r
def AllC (tk : List Tk) : Prop := ∀ y, some y ∈ tk → Closed y
def stripT : List Nat → Option (List Nat) → List Tk → List Nat
  | acc, o, [] => acc ++ o.getD []
  | acc, none, some y :: r => stripT (acc ++ y) none r
  | acc, some p, some y :: r => stripT acc (some (p ++ y)) r
  | acc, none, none :: r => stripT acc (some [34]) r
  | acc, some _, none :: r => stripT acc none r
theorem render_end : ∀ {tk : List Tk}, AllC tk → escEnd false (render tk) = false
  | [], _ => rfl
  | none :: r, h => by
    have := render_end (tk := r) fun y hy => h y (.tail _ hy)
    simp [render, escEnd, this]
  | some y :: r, h => by
    have := render_end (tk := r) fun y hy => h y (.tail _ hy)
    simp [render, escEnd_append, (h y (.head _)).fin, this]
theorem foldl_noq {x : List Nat} {q : SQ} : ∀ {l : List (Nat × List Nat)}, (∀ p ∈ l, p.2 ≠ [34]) → l.foldl (sqStep x) q = q
  | [], _ => rfl
  | (i, c) :: l, h => by
    rw [List.foldl_cons, sq_o (h _ (.head _))]
    exact foldl_noq fun p hp => h p (.tail _ hp)
/-- how far strip is behind the text u -/
def StR (u : List Nat) (q : SQ) (acc : List Nat) : Option (List Nat) → Prop
  | none => q.op = none ∧ q.start ≤ u.length ∧ q.res.flatten ++ u.drop q.start = acc
  | some p => ∃ a, q.op = some a ∧ q.start ≤ a ∧ a ≤ u.length ∧ q.res.flatten ++ (u.take a).drop q.start = acc ∧ u.drop a = p
theorem cut_mid (x : List Nat) {s a : Nat} (hs : s ≤ a) (ha : a ≤ x.length) : cut x (some (s : Int)) (some (a : Int)) = (x.take a).drop s := by
  unfold cut
  simp only [Option.elim, clip_nat]
  rw [Nat.min_eq_left ha, Nat.min_eq_left (Nat.le_trans hs ha), List.drop_take]
def sqOut (x : List Nat) (q : SQ) : List Nat := (if q.start < x.length then q.res ++ [cut x (some (q.start : Int)) none] else q.res).flatten
theorem strip_go {x : List Nat} : ∀ {tk : List Tk} {u : List Nat} {q : SQ} {acc : List Nat} {o : Option (List Nat)}, AllC tk → x = u ++ render tk → StR u q acc o →
    sqOut x ((escItems u.length false (render tk)).foldl (sqStep x) q) = stripT acc o tk
  | [], u, q, acc, o, _, hx, hR => by
    have hx' : x = u := by simpa [render] using hx
    subst hx'
    show sqOut x ((escItems x.length false []).foldl (sqStep x) q) = acc ++ o.getD []
    have : (escItems x.length false []).foldl (sqStep x) q = q := rfl
    rw [this]
    have hout : sqOut x q = q.res.flatten ++ x.drop q.start := by
      unfold sqOut
      split
      · rw [List.flatten_append, cut_tail]; simp
      · rename_i h; rw [List.drop_of_length_le (by (first | (revert h; walk_at "Z") | omega))]; simp
    rw [hout]
    cases o with
    | none => simpa using hR.2.2
    | some p =>
      obtain ⟨a, _, h1, h2, h3, h4⟩ := hR
      rw [← h3, ← h4]
      show _ = _ ++ x.drop a
      rw [List.append_assoc]
      congr 1
      have : x.drop q.start = (x.take a ++ x.drop a).drop q.start := by rw [List.take_append_drop]
      rw [this, List.drop_append_of_le_length (by simp; (first | (revert h1 h2; walk_at "Z") | omega))]
  | some y :: r, u, q, acc, o, hc, hx, hR => by
    have hy := hc y (.head _)
    show sqOut x ((escItems u.length false (y ++ render r)).foldl (sqStep x) q) = _
    rw [escItems_append _ _ _ _ hy.fin, List.foldl_append, foldl_noq (hy.noq _)]
    have hx' : x = (u ++ y) ++ render r := by rw [hx]; simp [render]
    rw [show u.length + y.length = (u ++ y).length from by simp]
    cases o with
    | none =>
      refine strip_go (fun z hz => hc z (.tail _ hz)) hx' ⟨hR.1, by have := hR.2.1; simp; (first | (revert this; walk_at "Z") | omega), ?_⟩
      rw [List.drop_append_of_le_length hR.2.1, ← List.append_assoc, hR.2.2]
    | some p =>
      obtain ⟨a, h0, h1, h2, h3, h4⟩ := hR
      refine strip_go (fun z hz => hc z (.tail _ hz)) hx' ⟨a, h0, h1, by simp; (first | (revert h2; walk_at "Z") | omega), ?_, ?_⟩
      · rw [List.take_append_of_le_length h2]; exact h3
      · rw [List.drop_append_of_le_length h2, h4]
  | none :: r, u, q, acc, o, hc, hx, hR => by
    show sqOut x ((escItems u.length false (34 :: render r)).foldl (sqStep x) q) = _
    rw [esc_f (by decide), List.foldl_cons]
    have hx' : x = (u ++ [34]) ++ render r := by rw [hx]; simp [render]
    have hxl : u.length < x.length := by rw [hx']; simp
    rw [show u.length + 1 = (u ++ [34]).length from by simp]
    obtain ⟨st, op, res⟩ := q
    cases o with
    | none =>
      obtain ⟨h1, h2, h3⟩ := hR
      simp only [] at h1 h2 h3
      subst h1
      rw [sq_q0]
      refine strip_go (fun z hz => hc z (.tail _ hz)) hx' ⟨u.length, rfl, h2, by simp, ?_, ?_⟩
      · show res.flatten ++ ((u ++ [34]).take u.length).drop st = acc
        rw [List.take_append_of_le_length (Nat.le_refl _), List.take_length]; exact h3
      · simp
    | some p =>
      obtain ⟨a, h0, h1, h2, h3, h4⟩ := hR
      simp only [] at h0 h1 h3
      subst h0
      rw [sq_q1]
      refine strip_go (fun z hz => hc z (.tail _ hz)) hx' ⟨rfl, by simp, ?_⟩
      show (if st ≠ a then res ++ [cut x (some (st : Int)) (some (a : Int))] else res).flatten ++ (u ++ [34]).drop (u.length + 1) = acc
      have e1 : (u ++ [34]).drop (u.length + 1) = [] := List.drop_of_length_le (by simp)
      have e2 : x.take a = u.take a := by rw [hx', List.append_assoc, List.take_append_of_le_length h2]
      rw [e1, List.append_nil]
      by_cases h : st = a
      · rw [if_neg (by simpa using h)]
        subst h
        rw [← h3, List.drop_of_length_le (by simp; (first | walk_at "Z" | omega))]; simp
      · rw [if_pos h, List.flatten_append, cut_mid x h1 (by (first | (revert h2 hxl; walk_at "Z") | omega)), e2, ← h3]; simp
theorem stripT_nq : ∀ {tk : List Tk} {acc : List Nat}, none ∉ tk → stripT acc none tk = acc ++ render tk
  | [], acc, _ => by simp [stripT, render]
  | some y :: r, acc, h => by
    have := stripT_nq (tk := r) (acc := acc ++ y) fun q => h (.tail _ q)
    simp [stripT, render, this]
  | none :: r, acc, h => absurd (.head _) h
theorem mem_render : ∀ {tk : List Tk}, none ∈ tk → 34 ∈ render tk
  | none :: r, _ => .head _
  | some y :: r, h => by
    have : none ∈ r := by simpa using h
    exact List.mem_append.mpr (.inr (mem_render this))
theorem strip_render {tk : List Tk} (hc : AllC tk) : stripOf (render tk) = stripT [] none tk := by
  have key := strip_go (x := render tk) (tk := tk) (u := []) (q := ⟨0, none, []⟩) (acc := []) (o := none) hc rfl ⟨rfl, Nat.le_refl _, rfl⟩
  unfold stripOf
  by_cases h : 34 ∈ render tk
  · rw [if_pos h]; exact key
  · rw [if_neg h]
    rw [stripT_nq fun q => h (mem_render q)]; rfl
theorem stripT_mem : ∀ {tk : List Tk} {acc : List Nat} {o : Option (List Nat)} {d : Nat}, d ∈ stripT acc o tk → d ∈ acc ∨ d ∈ o.getD [] ∨ d = 34 ∨ ∃ y, some y ∈ tk ∧ d ∈ y
  | [], acc, o, d, h => by
    rcases List.mem_append.mp h with h | h
    · exact .inl h
    · exact .inr (.inl h)
  | some y :: r, acc, none, d, h => by
    rcases stripT_mem (tk := r) h with h | h | h | ⟨z, h1, h2⟩
    · rcases List.mem_append.mp h with h | h
      · exact .inl h
      · exact .inr (.inr (.inr ⟨y, .head _, h⟩))
    · exact .inr (.inl h)
    · exact .inr (.inr (.inl h))
    · exact .inr (.inr (.inr ⟨z, .tail _ h1, h2⟩))
  | some y :: r, acc, some p, d, h => by
    rcases stripT_mem (tk := r) h with h | h | h | ⟨z, h1, h2⟩
    · exact .inl h
    · rcases List.mem_append.mp (show d ∈ p ++ y from h) with h | h
      · exact .inr (.inl h)
      · exact .inr (.inr (.inr ⟨y, .head _, h⟩))
    · exact .inr (.inr (.inl h))
    · exact .inr (.inr (.inr ⟨z, .tail _ h1, h2⟩))
  | none :: r, acc, none, d, h => by
    rcases stripT_mem (tk := r) h with h | h | h | ⟨z, h1, h2⟩
    · exact .inl h
    · exact .inr (.inr (.inl (by simpa using h)))
    · exact .inr (.inr (.inl h))
    · exact .inr (.inr (.inr ⟨z, .tail _ h1, h2⟩))
  | none :: r, acc, some p, d, h => by
    rcases stripT_mem (tk := r) h with h | h | h | ⟨z, h1, h2⟩
    · exact .inl h
    · simp at h
    · exact .inr (.inr (.inl h))
    · exact .inr (.inr (.inr ⟨z, .tail _ h1, h2⟩))
theorem stripT_len : ∀ {tk : List Tk} {acc : List Nat} {o : Option (List Nat)}, (stripT acc o tk).length ≤ acc.length + (o.getD []).length + (render tk).length
  | [], acc, o => by simp [stripT, render]
  | some y :: r, acc, none => by
    have := stripT_len (tk := r) (acc := acc ++ y) (o := none)
    simp [stripT, render] at this ⊢; (first | (revert this; walk_at "Z") | omega)
  | some y :: r, acc, some p => by
    have := stripT_len (tk := r) (acc := acc) (o := some (p ++ y))
    simp [stripT, render] at this ⊢; (first | (revert this; walk_at "Z") | omega)
  | none :: r, acc, none => by
    have := stripT_len (tk := r) (acc := acc) (o := some [34])
    simp [stripT, render] at this ⊢; (first | (revert this; walk_at "Z") | omega)
  | none :: r, acc, some p => by
    have := stripT_len (tk := r) (acc := acc) (o := none)
    simp [stripT, render] at this ⊢; (first | (revert this; walk_at "Z") | omega)

-- q2
-- part 2: the texts by tokens, and Gray's code
/-- the tokens of a text, from the place k - 1 down -/
def toks (ys : List (List Nat)) (s : Int) : Nat → List Tk
  | 0 => []
  | k + 1 => (if bit s k then [none] else []) ++ some (ys.getD k []) :: toks ys s k
def par (s : Int) : Nat → Bool → Bool
  | 0, o => o
  | k + 1, o => par s k (if bit s k then !o else o)
def tkEnd (o : Bool) : List Tk := if o = true then [none] else []
theorem render_append : ∀ (a b : List Tk), render (a ++ b) = render a ++ render b
  | [], b => rfl
  | none :: a, b => by simp [render, render_append a b]
  | some y :: a, b => by simp [render, render_append a b]
theorem lawT_toks {ys : List (List Nat)} {s : Int} : ∀ (k : Nat) (t : List Nat) (o : Bool), lawT ys s k (t, o) = (t ++ render (toks ys s k), par s k o)
  | 0, t, o => by simp [lawT, toks, par, render]
  | k + 1, t, o => by
    rw [lawT_succ]
    by_cases h : bit s k
    · rw [if_pos h, lawT_toks k]
      simp [toks, par, h, render]
    · rw [if_neg h, lawT_toks k]
      simp [toks, par, h, render]
theorem textOf_toks {ys : List (List Nat)} {s : Int} : textOf ys s = render (toks ys s ys.length ++ tkEnd (par s ys.length false)) := by
  unfold textOf
  rw [lawT_toks, render_append]
  cases par s ys.length false <;> simp [tkEnd, render]
theorem toks_mem {ys : List (List Nat)} {s : Int} : ∀ {k : Nat} {y : List Nat}, k ≤ ys.length → some y ∈ toks ys s k → y ∈ ys
  | 0, y, _, h => by cases h
  | k + 1, y, hk, h => by
    rcases List.mem_append.mp (show some y ∈ (if bit s k then [none] else []) ++ some (ys.getD k []) :: toks ys s k from h) with h | h
    · split at h <;> simp at h
    · rcases List.mem_cons.mp h with h | h
      · cases h; exact getD_mem (by (first | (revert hk; walk_at "Z") | omega))
      · exact toks_mem (by (first | (revert hk; walk_at "Z") | omega)) h
theorem toks_all {ys : List (List Nat)} {s : Int} {o : Bool} (hy : ∀ y ∈ ys, Closed y) : AllC (toks ys s ys.length ++ tkEnd o) := by
  intro y h
  rcases List.mem_append.mp h with h | h
  · exact hy y (toks_mem (Nat.le_refl _) h)
  · unfold tkEnd at h; split at h <;> simp at h
/-- the signs from k - 1 down at whose places the number has a 0 -/
def leftDown (ys : List (List Nat)) (num : Int) : Nat → List Nat
  | 0 => []
  | k + 1 => (if bit num k then [] else ys.getD k []) ++ leftDown ys num k
theorem bit_zero {num : Int} {k : Nat} : ((num.fdiv (2 ^ k)).fmod 2 = 0) ↔ ¬ bit num k := by
  unfold bit
  have h1 := Int.fmod_nonneg_of_pos (num.fdiv (2 ^ k)) (show (0 : Int) < 2 by decide)
  have h2 := Int.fmod_lt_of_pos (num.fdiv (2 ^ k)) (show (0 : Int) < 2 by decide)
  (first | (revert h1 h2; walk_at "Z") | omega)
theorem leftOf_down {ys : List (List Nat)} {num : Int} : leftOf ys num = leftDown ys num ys.length := by
  unfold leftOf
  have key : ∀ k, k ≤ ys.length → ((List.range k).filterMap fun i => if (num.fdiv (2 ^ (k - 1 - i))).fmod 2 = 0 then some (ys.getD (k - 1 - i) []) else none).flatten = leftDown ys num k := by
    intro k
    induction k with
    | zero => intro _; rfl
    | succ k ih =>
      intro hk
      rw [List.range_succ_eq_map, List.filterMap_cons, List.filterMap_map]
      have e : ((fun i => if (num.fdiv (2 ^ (k + 1 - 1 - i))).fmod 2 = 0 then some (ys.getD (k + 1 - 1 - i) []) else none) ∘ Nat.succ) = fun i => if (num.fdiv (2 ^ (k - 1 - i))).fmod 2 = 0 then some (ys.getD (k - 1 - i) []) else none := by
        funext i
        simp only [Function.comp]
        rw [succ_sub2]
      rw [e]
      simp only [Nat.add_sub_cancel, Nat.sub_zero]
      unfold leftDown
      by_cases h : bit num k
      · rw [if_neg (fun q => bit_zero.mp q h), if_pos h]; simpa using ih (by (first | (revert hk; walk_at "Z") | omega))
      · rw [if_pos (bit_zero.mpr h), if_neg h]; simpa using ih (by (first | (revert hk; walk_at "Z") | omega))
  exact key _ (Nat.le_refl _)
/-- g is num in Gray's code, as far as n figures go -/
def IsGray (g num : Int) (n : Nat) : Prop := (∀ k < n, (bit g k ↔ ¬ (bit num k ↔ bit num (k + 1)))) ∧ ¬ bit num n
theorem par_gray {g num : Int} {n : Nat} (hg : IsGray g num n) : ∀ (k : Nat), k ≤ n → par g k (decide (bit num k)) = decide (bit num 0)
  | 0, _ => rfl
  | k + 1, hk => by
    have h := hg.1 k (by (first | (revert hk; walk_at "Z") | omega))
    show par g k (if bit g k then !decide (bit num (k + 1)) else decide (bit num (k + 1))) = _
    have e : (if bit g k then !decide (bit num (k + 1)) else decide (bit num (k + 1))) = decide (bit num k) := by
      by_cases h1 : bit num k <;> by_cases h2 : bit num (k + 1) <;> by_cases h3 : bit g k <;> simp_all
    rw [e]; exact par_gray hg k (by (first | (revert hk; walk_at "Z") | omega))
/-- what strip leaves, from the place k - 1 down, when the sign above stood in quotation marks (p) or did not -/
theorem strip_gray {ys : List (List Nat)} {g num : Int} {n : Nat} (hg : IsGray g num n) : ∀ (k : Nat) (acc : List Nat) (o : Option (List Nat)), k ≤ n → (o.isSome = true ↔ bit num k) →
    stripT acc o (toks ys g k ++ tkEnd (decide (bit num 0))) = acc ++ leftDown ys num k
  | 0, acc, o, _, ho => by
    cases o with
    | none =>
      have : ¬ bit num 0 := fun q => by simpa using ho.mpr q
      simp [toks, tkEnd, this, leftDown, stripT]
    | some p =>
      have : bit num 0 := ho.mp rfl
      simp [toks, tkEnd, this, leftDown, stripT]
  | k + 1, acc, o, hk, ho => by
    have h := hg.1 k (by (first | (revert hk; walk_at "Z") | omega))
    have hk' : k ≤ n := by (first | (revert hk; walk_at "Z") | omega)
    cases o with
    | none =>
      have h1 : ¬ bit num (k + 1) := fun q => by simpa using ho.mpr q
      by_cases h2 : bit num k
      · have h3 : bit g k := h.mpr (by simp [h1, h2])
        have ih := strip_gray (ys := ys) hg k acc (some ([34] ++ ys.getD k [])) hk' (by simp [h2])
        simp [toks, h3, stripT, leftDown, h2] at ih ⊢
        exact ih
      · have h3 : ¬ bit g k := fun q => absurd (h.mp q) (by simp [h1, h2])
        have ih := strip_gray (ys := ys) hg k (acc ++ ys.getD k []) none hk' (by simp [h2])
        simp [toks, h3, stripT, leftDown, h2] at ih ⊢
        exact ih
    | some p =>
      have h1 : bit num (k + 1) := ho.mp rfl
      by_cases h2 : bit num k
      · have h3 : ¬ bit g k := fun q => absurd (h.mp q) (by simp [h1, h2])
        have ih := strip_gray (ys := ys) hg k acc (some (p ++ ys.getD k [])) hk' (by simp [h2])
        simp [toks, h3, stripT, leftDown, h2] at ih ⊢
        exact ih
      · have h3 : bit g k := h.mpr (by simp [h1, h2])
        have ih := strip_gray (ys := ys) hg k (acc ++ ys.getD k []) none hk' (by simp [h2])
        simp [toks, h3, stripT, leftDown, h2] at ih ⊢
        exact ih
theorem strip_text {ys : List (List Nat)} {g num : Int} (hg : IsGray g num ys.length) (hy : ∀ y ∈ ys, Closed y) : stripOf (textOf ys g) = leftOf ys num := by
  have hp : par g ys.length false = decide (bit num 0) := by
    have := par_gray hg ys.length (Nat.le_refl _)
    rwa [decide_eq_false hg.2] at this
  rw [textOf_toks, strip_render (toks_all hy), hp, strip_gray hg ys.length [] none (Nat.le_refl _) (by simpa using hg.2), leftOf_down]; rfl
-- spelled texts are texts of spelled signs
theorem render_map : ∀ (tk : List Tk), (render tk).map up1 = render (tk.map (Option.map (List.map up1)))
  | [] => rfl
  | none :: r => by simp [render, render_map r]; decide
  | some y :: r => by simp [render, render_map r]
theorem toks_map {ys : List (List Nat)} {s : Int} : ∀ (k : Nat), k ≤ ys.length → (toks ys s k).map (Option.map (List.map up1)) = toks (ys.map (List.map up1)) s k
  | 0, _ => rfl
  | k + 1, hk => by
    have e : (ys.map (List.map up1)).getD k [] = (ys.getD k []).map up1 := by
      rw [List.getD_eq_getElem?_getD, List.getElem?_map, List.getElem?_eq_getElem (by (first | (revert hk; walk_at "Z") | omega)), List.getD_eq_getElem?_getD, List.getElem?_eq_getElem (by (first | (revert hk; walk_at "Z") | omega))]; rfl
    have ih := toks_map (ys := ys) (s := s) k (by (first | (revert hk; walk_at "Z") | omega))
    by_cases h : bit s k <;> simp [toks, h, ih] <;> simpa using e.symm
theorem textOf_map {ys : List (List Nat)} {s : Int} : (textOf ys s).map up1 = textOf (ys.map (List.map up1)) s := by
  rw [textOf_toks, textOf_toks, render_map, List.map_append, toks_map _ (Nat.le_refl _), List.length_map]
  congr 2
  unfold tkEnd; split <;> rfl
theorem leftDown_map {ys : List (List Nat)} {num : Int} : ∀ (k : Nat), k ≤ ys.length → (leftDown ys num k).map up1 = leftDown (ys.map (List.map up1)) num k
  | 0, _ => rfl
  | k + 1, hk => by
    have e : (ys.map (List.map up1)).getD k [] = (ys.getD k []).map up1 := by
      rw [List.getD_eq_getElem?_getD, List.getElem?_map, List.getElem?_eq_getElem (by (first | (revert hk; walk_at "Z") | omega)), List.getD_eq_getElem?_getD, List.getElem?_eq_getElem (by (first | (revert hk; walk_at "Z") | omega))]; rfl
    have ih := leftDown_map (ys := ys) (num := num) k (by (first | (revert hk; walk_at "Z") | omega))
    unfold leftDown
    rw [List.map_append, ih]
    congr 1
    split
    · rfl
    · rw [e]
theorem leftOf_map {ys : List (List Nat)} {num : Int} : (leftOf ys num).map up1 = leftOf (ys.map (List.map up1)) num := by
  rw [leftOf_down, leftOf_down, leftDown_map _ (Nat.le_refl _), List.length_map]
theorem up1_92 {d : Nat} : (up1 d = 92) ↔ d = 92 := by unfold up1; split <;> (first | walk_at "Z" | omega)
theorem up1_34 {d : Nat} : (up1 d = 34) ↔ d = 34 := by unfold up1; split <;> (first | walk_at "Z" | omega)
theorem escEnd_map : ∀ (y : List Nat) (e : Bool), escEnd e (y.map up1) = escEnd e y
  | [], e => rfl
  | d :: y, true => by simp [escEnd, escEnd_map y]
  | d :: y, false => by simp [escEnd, escEnd_map y, up1_92]
theorem escItems_map : ∀ (y : List Nat) (e : Bool) (i : Nat), (∀ p ∈ escItems i e y, p.2 ≠ [34]) → ∀ p ∈ escItems i e (y.map up1), p.2 ≠ [34]
  | [], e, i, h => h
  | d :: y, true, i, h => by
    rw [esc_t] at h
    rw [List.map_cons, esc_t]
    intro p hp
    rcases List.mem_cons.mp hp with rfl | hp
    · simp
    · exact escItems_map y false (i + 1) (fun q hq => h q (.tail _ hq)) p hp
  | d :: y, false, i, h => by
    by_cases hd : d = 92
    · subst hd
      rw [esc_b] at h
      rw [List.map_cons, show up1 92 = 92 from rfl, esc_b]
      exact escItems_map y true (i + 1) h
    · rw [esc_f hd] at h
      rw [List.map_cons, esc_f (fun q => hd (up1_92.mp q))]
      intro p hp
      rcases List.mem_cons.mp hp with rfl | hp
      · intro q
        have q' : up1 d = 34 := by simpa using q
        exact h _ (.head _) (by show [d] = [34]; rw [up1_34.mp q'])
      · exact escItems_map y false (i + 1) (fun q hq => h q (.tail _ hq)) p hp
theorem Closed.map {y : List Nat} (h : Closed y) : Closed (y.map up1) := ⟨by rw [escEnd_map]; exact h.fin, fun i => escItems_map y false i (h.noq i)⟩
theorem strip_spelled {ys : List (List Nat)} {g num : Int} (hg : IsGray g num ys.length) (hy : ∀ y ∈ ys, Closed y) (i : Int) : stripOf (spelled (textOf ys g) i) = spelled (leftOf ys num) i := by
  unfold spelled
  split
  · rw [textOf_map, leftOf_map]
    refine strip_text (by rw [List.length_map]; exact hg) fun y hyy => ?_
    obtain ⟨z, hz, rfl⟩ := List.mem_map.mp hyy
    exact (hy z hz).map
  · exact strip_text hg hy

-- q3
-- part 3: the signs
theorem closed_plain {y : List Nat} (h : ∀ d ∈ y, d ≠ 92 ∧ d ≠ 34) : Closed y := by
  constructor
  · induction y with
    | nil => rfl
    | cons d y ih =>
      have := h d (.head _)
      simp [escEnd, this.1]; exact ih fun e he => h e (.tail _ he)
  · induction y with
    | nil => intro i p hp; cases hp
    | cons d y ih =>
      intro i p hp
      have hd := h d (.head _)
      rw [esc_f hd.1] at hp
      rcases List.mem_cons.mp hp with rfl | hp
      · simpa using hd.2
      · exact ih (fun e he => h e (.tail _ he)) _ p hp
theorem Closed.append {a b : List Nat} (ha : Closed a) (hb : Closed b) : Closed (a ++ b) := by
  constructor
  · rw [escEnd_append, ha.fin, hb.fin]
  · intro i p hp
    rw [escItems_append _ _ _ _ ha.fin] at hp
    rcases List.mem_append.mp hp with hp | hp
    · exact ha.noq _ p hp
    · exact hb.noq _ p hp
theorem closed_tail {t : List Nat} (h : tailOk t) : Closed t := by
  unfold tailOk at h
  simp only [List.mem_cons, List.not_mem_nil, or_false] at h
  rcases h with rfl | rfl | rfl | rfl
  · exact ⟨rfl, fun i p hp => by cases hp⟩
  · refine ⟨by decide, fun i p hp => ?_⟩
    rw [esc_b, esc_t] at hp; simp [escItems] at hp; subst hp; simp
  · refine ⟨by decide, fun i p hp => ?_⟩
    rw [esc_b, esc_t] at hp; simp [escItems] at hp; subst hp; simp
  · refine ⟨by decide, fun i p hp => ?_⟩
    rw [esc_b, esc_t, esc_b, esc_t] at hp; simp [escItems] at hp
    rcases hp with rfl | rfl <;> simp
structure SignsOk (ys : List (List Nat)) (n : Nat) : Prop where
  len : ys.length = n
  closed : ∀ y ∈ ys, Closed y
  low : ∀ y ∈ ys, ∀ d ∈ y, lo1 d = d
  ctl : ∀ y ∈ ys, NoCtl y
  asc : ∀ y ∈ ys, Ascii y
  len1 : ∀ y ∈ ys, y.length ≤ 9
  tot : ys.flatten.length ≤ 15
  head : ∀ y ∈ ys, ∃ c r, y = c :: r ∧ c ≠ 34
/-- a piece -/
def pc (ls : List Nat) (f : Nat) (mid tl : List Nat) (k : Nat) : List (List Nat) := [[ls.getD k 0], if k = f then mid else [], [figD k], if k = f then tl else []]
theorem pss_pc {ls : List Nat} {f : Nat} {mid tl : List Nat} : (pcs0 ls).set f [[ls.getD f 0], mid, [figD f], tl] = (List.range ls.length).map (pc ls f mid tl) := by
  apply List.ext_getElem?
  intro i
  rw [List.getElem?_set]
  unfold pcs0
  by_cases h : f = i
  · subst h
    rw [if_pos rfl]
    by_cases h2 : f < ls.length
    · rw [if_pos (by simpa using h2), List.getElem?_map, List.getElem?_range h2]; simp [pc]
    · rw [if_neg (by simpa using h2), List.getElem?_eq_none (by simp; (first | (revert h2; walk_at "Z") | omega))]
  · rw [if_neg h, List.getElem?_map, List.getElem?_map]
    by_cases h2 : i < ls.length
    · rw [List.getElem?_range h2]
      simp [pc, Ne.symm h]
    · rw [List.getElem?_eq_none (by simp; (first | (revert h2; walk_at "Z") | omega))]; rfl
theorem figD_mem {k : Nat} (h : k < 4) : figD k = 49 ∨ figD k = 50 ∨ figD k = 52 ∨ figD k = 56 := by
  have : k = 0 ∨ k = 1 ∨ k = 2 ∨ k = 3 := lt_four k h
  rcases this with rfl | rfl | rfl | rfl <;> decide
theorem mid_mem {mid : List Nat} (h : midOk mid) {d : Nat} (hd : d ∈ mid) : d = 64 ∨ d = 91 ∨ d = 93 ∨ d = 94 ∨ d = 95 ∨ d = 96 ∨ d = 123 ∨ d = 124 ∨ d = 125 ∨ d = 126 := by
  obtain ⟨e, k, he, _, rfl⟩ := h
  have := List.eq_of_mem_replicate hd
  subst this
  simpa using he
theorem mid_len {mid : List Nat} (h : midOk mid) : mid.length ≤ 3 := by
  obtain ⟨e, k, he, hk, rfl⟩ := h; simpa using hk
theorem tail_mem {t : List Nat} (h : tailOk t) {d : Nat} (hd : d ∈ t) : d = 92 ∨ d = 34 := by
  unfold tailOk at h
  simp only [List.mem_cons, List.not_mem_nil, or_false] at h
  rcases h with rfl | rfl | rfl | rfl <;> simp at hd <;> (first | (revert hd; walk_at "Z") | omega)
theorem tail_len {t : List Nat} (h : tailOk t) : t.length ≤ 4 := by
  unfold tailOk at h
  simp only [List.mem_cons, List.not_mem_nil, or_false] at h
  rcases h with rfl | rfl | rfl | rfl <;> decide
theorem ls_get {ls : List Nat} {k : Nat} (hk : k < ls.length) : ls.getD k 0 ∈ ls := by
  rw [List.getD_eq_getElem?_getD, List.getElem?_eq_getElem hk]; exact List.getElem_mem hk
section
variable {ls : List Nat} {f n : Nat} {mid tl : List Nat}
theorem pc_flat (k : Nat) : (pc ls f mid tl k).flatten = ls.getD k 0 :: ((if k = f then mid else []) ++ figD k :: (if k = f then tl else [])) := by simp [pc]
theorem chars_ok (d : Nat) (h : (97 ≤ d ∧ d ≤ 122) ∨ (d = 64 ∨ d = 91 ∨ d = 93 ∨ d = 94 ∨ d = 95 ∨ d = 96 ∨ d = 123 ∨ d = 124 ∨ d = 125 ∨ d = 126) ∨ (d = 49 ∨ d = 50 ∨ d = 52 ∨ d = 56) ∨ d = 92 ∨ d = 34) : lo1 d = d ∧ (32 ≤ d ∧ d ≠ 127) ∧ d < 128 := by
  have key : ∀ d < 128, ((97 ≤ d ∧ d ≤ 122) ∨ (d = 64 ∨ d = 91 ∨ d = 93 ∨ d = 94 ∨ d = 95 ∨ d = 96 ∨ d = 123 ∨ d = 124 ∨ d = 125 ∨ d = 126) ∨ (d = 49 ∨ d = 50 ∨ d = 52 ∨ d = 56) ∨ d = 92 ∨ d = 34) → lo1 d = d ∧ (32 ≤ d ∧ d ≠ 127) ∧ d < 128 := by decide +kernel
  exact key d (by revert h; walk_at "Z") h
theorem signs_ok (hn : ls.length = n) (hn4 : n ≤ 4) (hr : ∀ d ∈ ls, 97 ≤ d ∧ d ≤ 122) (hm : midOk mid) (ht : tailOk tl) : SignsOk (((List.range n).map (pc ls f mid tl)).map List.flatten) n := by
  have mem : ∀ y ∈ ((List.range n).map (pc ls f mid tl)).map List.flatten, ∃ k, k < n ∧ y = ls.getD k 0 :: ((if k = f then mid else []) ++ figD k :: (if k = f then tl else [])) := by
    intro y hy
    obtain ⟨p, hp, rfl⟩ := List.mem_map.mp hy
    obtain ⟨k, hk, rfl⟩ := List.mem_map.mp hp
    exact ⟨k, List.mem_range.mp hk, pc_flat k⟩
  have hlk : ∀ k < n, 97 ≤ ls.getD k 0 ∧ ls.getD k 0 ≤ 122 := fun k hk => hr _ (ls_get (by (first | (revert hk hn; walk_at "Z") | omega)))
  have chars : ∀ y ∈ ((List.range n).map (pc ls f mid tl)).map List.flatten, ∀ d ∈ y, (97 ≤ d ∧ d ≤ 122) ∨ (d = 64 ∨ d = 91 ∨ d = 93 ∨ d = 94 ∨ d = 95 ∨ d = 96 ∨ d = 123 ∨ d = 124 ∨ d = 125 ∨ d = 126) ∨ (d = 49 ∨ d = 50 ∨ d = 52 ∨ d = 56) ∨ d = 92 ∨ d = 34 := by
    intro y hy d hd
    obtain ⟨k, hk, rfl⟩ := mem y hy
    rcases List.mem_cons.mp hd with rfl | hd
    · exact .inl (hlk k hk)
    rcases List.mem_append.mp hd with hd | hd
    · split at hd
      · exact .inr (.inl (mid_mem hm hd))
      · cases hd
    rcases List.mem_cons.mp hd with rfl | hd
    · exact .inr (.inr (.inl (figD_mem (by (first | (revert hk hn4; walk_at "Z") | omega)))))
    · split at hd
      · exact .inr (.inr (.inr (tail_mem ht hd)))
      · cases hd
  refine ⟨by simp, ?_, ?_, ?_, ?_, ?_, ?_, ?_⟩
  · intro y hy
    obtain ⟨k, hk, rfl⟩ := mem y hy
    have hl := hlk k hk
    have hf := figD_mem (k := k) (by (first | (revert hk hn4; walk_at "Z") | omega))
    have e : ls.getD k 0 :: ((if k = f then mid else []) ++ figD k :: (if k = f then tl else [])) = (ls.getD k 0 :: ((if k = f then mid else []) ++ [figD k])) ++ (if k = f then tl else []) := by simp
    rw [e]
    refine Closed.append (closed_plain fun d hd => ?_) ?_
    · rcases List.mem_cons.mp hd with rfl | hd
      · (first | (revert hl; walk_at "Z") | omega)
      rcases List.mem_append.mp hd with hd | hd
      · split at hd
        · have := mid_mem hm hd; (first | (revert this; walk_at "Z") | omega)
        · cases hd
      · simp only [List.mem_singleton] at hd; (first | (revert hd hf; walk_at "Z") | omega)
    · split
      · exact closed_tail ht
      · exact closed_tail (by unfold tailOk; simp)
  · intro y hy d hd
    exact (chars_ok d (chars y hy d hd)).1
  · intro y hy d hd
    exact (chars_ok d (chars y hy d hd)).2.1
  · intro y hy d hd
    exact (chars_ok d (chars y hy d hd)).2.2
  · intro y hy
    obtain ⟨k, hk, rfl⟩ := mem y hy
    have h1 := mid_len hm
    have h2 := tail_len ht
    by_cases h : k = f <;> simp [h] <;> (first | (revert h1 h2; walk_at "Z") | omega)
  · have key : ∀ (l : List Nat), l.Nodup → (((l.map (pc ls f mid tl)).map List.flatten).flatten).length ≤ 2 * l.length + if f ∈ l then 7 else 0 := by
      intro l
      induction l with
      | nil => intro _; simp
      | cons k l ih =>
        intro hnd
        have hnd' := List.nodup_cons.mp hnd
        have := ih hnd'.2
        have h1 := mid_len hm
        have h2 := tail_len ht
        rw [List.map_cons, List.map_cons, List.flatten_cons, List.length_append, pc_flat]
        by_cases h : k = f
        · subst h
          rw [if_neg hnd'.1] at this
          simp at this ⊢; (first | (revert h1 h2 this; walk_at "Z") | omega)
        · have hf : (f ∈ k :: l) ↔ f ∈ l := by simp [Ne.symm h]
          simp only [hf, if_neg h, List.length_cons] at this ⊢
          simp at this ⊢; (first | (revert this; walk_at "Z") | omega)
    have := key (List.range n) List.nodup_range
    rw [List.length_range] at this
    split at this <;> (first | (revert hn4 this; walk_at "Z") | omega)
  · intro y hy
    obtain ⟨k, hk, rfl⟩ := mem y hy
    have := hlk k hk
    exact ⟨_, _, rfl, by (first | (revert this; walk_at "Z") | omega)⟩
end

-- q4
-- part 4: Gray's code, and which texts are alike
def gN (x : Nat) : Nat := x ^^^ (x / 2)
theorem gray_16 : ∀ x < 16, gray ((x : Nat) : Int) = ((gN x : Nat) : Int) := by decide +kernel
theorem gN_lt : ∀ x < 16, gN x < 16 ∧ (x < 8 → gN x < 8) := by decide +kernel
theorem xor_lt : ∀ x < 16, ∀ y < 16, x ^^^ y < 16 ∧ (x < 8 → y < 8 → x ^^^ y < 8) := by decide +kernel
theorem gray_bits : ∀ x < 16, ∀ k < 4, (bit ((gN x : Nat) : Int) k ↔ ¬ (bit ((x : Nat) : Int) k ↔ bit ((x : Nat) : Int) (k + 1))) := by decide +kernel
theorem bit_hi : ∀ x < 16, ¬ bit ((x : Nat) : Int) 4 ∧ (x < 8 → ¬ bit ((x : Nat) : Int) 3) := by decide +kernel
theorem same_16 : ∀ a < 16, ∀ b < 16, (∀ k < 4, (bit ((a : Nat) : Int) k ↔ bit ((b : Nat) : Int) k)) → a = b := by decide +kernel
theorem same_8 : ∀ a < 8, ∀ b < 8, (∀ k < 3, (bit ((a : Nat) : Int) k ↔ bit ((b : Nat) : Int) k)) → a = b := by decide +kernel
def Sz (n : Nat) : Prop := n = 3 ∨ n = 4
theorem Sz.le {n : Nat} (h : Sz n) : 2 ^ n ≤ 16 := by rcases h with rfl | rfl <;> decide
theorem gN_sz {n x : Nat} (h : Sz n) (hx : x < 2 ^ n) : gN x < 2 ^ n := by
  rcases h with rfl | rfl
  · exact (gN_lt x (by (first | (revert hx; walk_at "Z") | omega))).2 hx
  · exact (gN_lt x hx).1
theorem xor_sz {n x y : Nat} (h : Sz n) (hx : x < 2 ^ n) (hy : y < 2 ^ n) : x ^^^ y < 2 ^ n := by
  rcases h with rfl | rfl
  · exact (xor_lt x (by (first | (revert hx; walk_at "Z") | omega)) y (by (first | (revert hy; walk_at "Z") | omega))).2 hx hy
  · exact (xor_lt x hx y hy).1
theorem isGray {n x : Nat} (h : Sz n) (hx : x < 2 ^ n) : IsGray ((gN x : Nat) : Int) ((x : Nat) : Int) n := by
  rcases h with rfl | rfl
  · exact ⟨fun k hk => gray_bits x (by (first | (revert hx; walk_at "Z") | omega)) k (by (first | (revert hk; walk_at "Z") | omega)), (bit_hi x (by (first | (revert hx; walk_at "Z") | omega))).2 hx⟩
  · exact ⟨fun k hk => gray_bits x hx k hk, (bit_hi x hx).1⟩
theorem same_sz {n a b : Nat} (h : Sz n) (ha : a < 2 ^ n) (hb : b < 2 ^ n) (hs : ∀ k < n, (bit ((a : Nat) : Int) k ↔ bit ((b : Nat) : Int) k)) : a = b := by
  rcases h with rfl | rfl
  · exact same_8 a ha b hb hs
  · exact same_16 a ha b hb hs
section
variable {ys : List (List Nat)} {n : Nat}
theorem toks_inj (A : SignsOk ys n) {s s' : Int} : ∀ (k : Nat) {e e' : List Nat}, k ≤ n → render (toks ys s k) ++ e = render (toks ys s' k) ++ e' → (∀ j < k, (bit s j ↔ bit s' j)) ∧ e = e'
  | 0, e, e', _, h => ⟨fun j hj => absurd hj (by (first | walk_at "Z" | omega)), h⟩
  | k + 1, e, e', hk, h => by
    have hlen := A.len
    obtain ⟨c, r, hy, hc⟩ := A.head _ (getD_mem (ys := ys) (k := k) (by (first | (revert hk hlen; walk_at "Z") | omega)))
    by_cases h1 : bit s k <;> by_cases h2 : bit s' k
    · simp [toks, h1, h2, render, List.append_assoc] at h
      have := toks_inj A k (by (first | (revert hk; walk_at "Z") | omega)) h
      exact ⟨fun j hj => by by_cases q : j = k; { subst q; simp [h1, h2] }; exact this.1 j (by (first | (revert hj q; walk_at "Z") | omega)), this.2⟩
    · simp only [toks, h1, h2, render, if_true, if_false, List.singleton_append, List.nil_append, hy, List.cons_append, List.cons.injEq] at h
      exact absurd h.1.symm hc
    · simp only [toks, h1, h2, render, if_true, if_false, List.singleton_append, List.nil_append, hy, List.cons_append, List.cons.injEq] at h
      exact absurd h.1 hc
    · simp [toks, h1, h2, render, List.append_assoc] at h
      have := toks_inj A k (by (first | (revert hk; walk_at "Z") | omega)) h
      exact ⟨fun j hj => by by_cases q : j = k; { subst q; simp [h1, h2] }; exact this.1 j (by (first | (revert hj q; walk_at "Z") | omega)), this.2⟩
theorem text_body {s : Int} : textOf ys s = render (toks ys s ys.length) ++ (if par s ys.length false = true then [34] else []) := by
  rw [textOf_toks, render_append]
  congr 1
  unfold tkEnd; split <;> rfl
theorem text_inj (A : SignsOk ys n) {s s' : Int} (h : textOf ys s = textOf ys s') : ∀ j < n, (bit s j ↔ bit s' j) := by
  rw [text_body, text_body, A.len] at h
  exact (toks_inj A n (Nat.le_refl _) h).1
theorem lo_up (d : Nat) : lo1 (up1 d) = lo1 d := by unfold lo1 up1; split <;> split <;> (try split) <;> (first | walk_at "Z" | omega)
theorem spelled_lo (x : List Nat) (i : Int) : (spelled x i).map lo1 = x.map lo1 := by
  unfold spelled
  split
  · rw [List.map_map]; exact List.map_congr_left fun d _ => lo_up d
  · rfl
theorem render_mem : ∀ {tk : List Tk} {d : Nat}, d ∈ render tk → d = 34 ∨ ∃ y, some y ∈ tk ∧ d ∈ y
  | none :: r, d, h => by
    rcases List.mem_cons.mp (show d ∈ 34 :: render r from h) with h | h
    · exact .inl h
    · rcases render_mem h with h | ⟨y, h1, h2⟩
      · exact .inl h
      · exact .inr ⟨y, .tail _ h1, h2⟩
  | some y :: r, d, h => by
    rcases List.mem_append.mp (show d ∈ y ++ render r from h) with h | h
    · exact .inr ⟨y, .head _, h⟩
    · rcases render_mem h with h | ⟨z, h1, h2⟩
      · exact .inl h
      · exact .inr ⟨z, .tail _ h1, h2⟩
theorem toks_signs {s : Int} {o : Bool} {y : List Nat} (h : some y ∈ toks ys s ys.length ++ tkEnd o) : y ∈ ys := by
  rcases List.mem_append.mp h with h | h
  · exact toks_mem (Nat.le_refl _) h
  · unfold tkEnd at h; split at h <;> simp at h
theorem text_mem {s : Int} {d : Nat} (h : d ∈ textOf ys s) : d = 34 ∨ ∃ y ∈ ys, d ∈ y := by
  rw [textOf_toks] at h
  rcases render_mem h with h | ⟨y, h1, h2⟩
  · exact .inl h
  · exact .inr ⟨y, toks_signs h1, h2⟩
theorem text_lo (A : SignsOk ys n) {s : Int} : (textOf ys s).map lo1 = textOf ys s := by
  have : ∀ d ∈ textOf ys s, lo1 d = id d := by
    intro d hd
    rcases text_mem hd with rfl | ⟨y, h1, h2⟩
    · rfl
    · exact A.low y h1 d h2
  rw [List.map_congr_left this, List.map_id]
theorem toks_len (A : SignsOk ys n) {s : Int} : ∀ k, k ≤ n → (render (toks ys s k)).length ≤ k + (ys.take k).flatten.length
  | 0, _ => by simp [toks, render]
  | k + 1, hk => by
    have ih := toks_len A (s := s) k (by (first | (revert hk; walk_at "Z") | omega))
    have hl := A.len
    have e : ys.take (k + 1) = ys.take k ++ [ys.getD k []] := by
      rw [List.take_add_one, List.getElem?_eq_getElem (by (first | (revert hk hl; walk_at "Z") | omega)), List.getD_eq_getElem?_getD, List.getElem?_eq_getElem (by (first | (revert hk hl; walk_at "Z") | omega))]; rfl
    rw [e, List.flatten_append, List.length_append]
    by_cases h : bit s k <;> simp [toks, h, render] <;> simp at ih <;> (first | (revert ih; walk_at "Z") | omega)
theorem text_len (A : SignsOk ys n) {s : Int} : (textOf ys s).length ≤ n + 16 := by
  rw [text_body, List.length_append, A.len]
  have := toks_len A (s := s) n (Nat.le_refl _)
  have ht := A.tot
  rw [← A.len, List.take_length, A.len] at this
  have : (if par s n false = true then [34] else ([] : List Nat)).length ≤ 1 := by split <;> simp
  omega
theorem up_low {d : Nat} (h : d < 128) : up1 d < 128 := by unfold up1; split <;> (first | (revert h; walk_at "Z") | omega)
theorem up_ctl {d : Nat} (h : 32 ≤ d ∧ d ≠ 127) : 32 ≤ up1 d ∧ up1 d ≠ 127 := by unfold up1; split <;> (first | (revert h; walk_at "Z") | omega)
/-- a text that is good, of signs that need only be clean -/
theorem good_of {zs : List (List Nat)} (hc : ∀ y ∈ zs, Closed y) (ha : ∀ y ∈ zs, Ascii y) (hn : ∀ y ∈ zs, NoCtl y) {s : Int} (hl : (textOf zs s).length ≤ 500) : Good (textOf zs s) := by
  have hall := toks_all (s := s) (o := par s zs.length false) hc
  have hstr : ∀ d ∈ stripOf (textOf zs s), d = 34 ∨ ∃ y ∈ zs, d ∈ y := by
    intro d hd
    rw [textOf_toks, strip_render hall] at hd
    rcases stripT_mem hd with h | h | h | ⟨y, h1, h2⟩
    · cases h
    · cases h
    · exact .inl h
    · exact .inr ⟨y, toks_signs h1, h2⟩
  refine ⟨?_, ?_, by (first | (revert hl; walk_at "Z") | omega), ?_, ?_, ?_⟩
  · intro d hd
    rcases text_mem hd with rfl | ⟨y, h1, h2⟩
    · decide
    · exact ha y h1 d h2
  · intro d hd
    rcases text_mem hd with rfl | ⟨y, h1, h2⟩
    · decide
    · exact hn y h1 d h2
  · rw [textOf_toks]; exact render_end hall
  · intro d hd
    rcases hstr d hd with rfl | ⟨y, h1, h2⟩
    · decide
    · exact hn y h1 d h2
  · rw [textOf_toks] at hl
    rw [textOf_toks, strip_render hall]
    have := stripT_len (tk := toks zs s zs.length ++ tkEnd (par s zs.length false)) (acc := []) (o := none)
    simp at this; (first | (revert hl this; walk_at "Z") | omega)
theorem good_spelled (A : SignsOk ys n) (hn : n ≤ 100) (s : Int) (i : Int) : Good (spelled (textOf ys s) i) := by
  have hl := text_len A (s := s)
  unfold spelled
  split
  · have : (textOf (ys.map (List.map up1)) s).length ≤ 500 := by
      rw [← textOf_map, List.length_map]; (first | (revert hl hn; walk_at "Z") | omega)
    rw [textOf_map]
    refine good_of (fun y hy => ?_) (fun y hy => ?_) (fun y hy => ?_) this
    all_goals obtain ⟨z, hz, rfl⟩ := List.mem_map.mp hy
    · exact (A.closed z hz).map
    · intro d hd
      obtain ⟨e, he, rfl⟩ := List.mem_map.mp hd
      exact up_low (A.asc z hz e he)
    · intro d hd
      obtain ⟨e, he, rfl⟩ := List.mem_map.mp hd
      exact up_ctl (A.ctl z hz e he)
  · exact good_of A.closed A.asc A.ctl (by (first | (revert hl hn; walk_at "Z") | omega))
end

-- q5
-- part 5: the first that makes something new makes Gray's way
def stN (begun t : Nat) : Nat := gN (begun ^^^ t)
def pickN (K : List Nat) (st : Nat) : Nat → Nat → Option Nat
  | 0, _ => none
  | r + 1, k => if (st ^^^ 2 ^ k) ∈ K then pickN K st r (k + 1) else some (st ^^^ 2 ^ k)
theorem pick_3 : ∀ begun < 2 ^ 3, ∀ m < 2 ^ 3, pickN ((List.range (m + 1)).map (stN begun)) (stN begun m) 3 0 = if m + 1 < 2 ^ 3 then some (stN begun (m + 1)) else none := by decide +kernel
theorem pick_4 : ∀ begun < 2 ^ 4, ∀ m < 2 ^ 4, pickN ((List.range (m + 1)).map (stN begun)) (stN begun m) 4 0 = if m + 1 < 2 ^ 4 then some (stN begun (m + 1)) else none := by decide +kernel
theorem pick_sz {n begun m : Nat} (h : Sz n) (hb : begun < 2 ^ n) (hm : m < 2 ^ n) : pickN ((List.range (m + 1)).map (stN begun)) (stN begun m) n 0 = if m + 1 < 2 ^ n then some (stN begun (m + 1)) else none := by
  rcases h with rfl | rfl
  · exact pick_3 begun hb m hm
  · exact pick_4 begun hb m hm
section
variable {ys : List (List Nat)} {n begun : Nat}
theorem st_eq (h : Sz n) (hb : begun < 2 ^ n) {t : Nat} (ht : t < 2 ^ n) : gray (Builtin.bitXor (begun : Int) (t : Int)) = ((stN begun t : Nat) : Int) := by
  have := h.le
  rw [bxor_16 begun (by (first | (revert hb this; walk_at "Z") | omega)) t (by (first | (revert ht this; walk_at "Z") | omega)), gray_16 _ (Nat.lt_of_lt_of_le (xor_sz h hb ht) this)]; rfl
theorem num_eq (h : Sz n) (hb : begun < 2 ^ n) {t : Nat} (ht : t < 2 ^ n) : Builtin.bitXor (begun : Int) (t : Int) = ((begun ^^^ t : Nat) : Int) := by
  have := h.le
  exact bxor_16 begun (by (first | (revert hb this; walk_at "Z") | omega)) t (by (first | (revert ht this; walk_at "Z") | omega))
theorem st_lt (h : Sz n) (hb : begun < 2 ^ n) {t : Nat} (ht : t < 2 ^ n) : stN begun t < 2 ^ n := gN_sz h (xor_sz h hb ht)
theorem due_eq (h : Sz n) (hb : begun < 2 ^ n) {k : Nat} (hk : k ≤ 2 ^ n) : dueOf ys begun k = (List.range k).map fun (t : Nat) => (spelled (textOf ys ((stN begun t : Nat) : Int)) t, spelled (leftOf ys ((begun ^^^ t : Nat) : Int)) t) := by
  unfold dueOf
  refine List.map_congr_left fun t ht => ?_
  have := List.mem_range.mp ht
  rw [st_eq h hb (by (first | (revert hk this; walk_at "Z") | omega)), num_eq h hb (by (first | (revert hk this; walk_at "Z") | omega))]
theorem low_iff (h : Sz n) (A : SignsOk ys n) {a b : Nat} (ha : a < 2 ^ n) (hb : b < 2 ^ n) {i j : Int} : (spelled (textOf ys ((a : Nat) : Int)) i).map lo1 = (spelled (textOf ys ((b : Nat) : Int)) j).map lo1 ↔ a = b := by
  rw [spelled_lo, spelled_lo, text_lo A, text_lo A]
  constructor
  · intro e
    exact same_sz h ha hb (text_inj A e)
  · rintro rfl; rfl
theorem hget_due (h : Sz n) (A : SignsOk ys n) (hb : begun < 2 ^ n) {k : Nat} (hk : k ≤ 2 ^ n) {s : Nat} (hs : s < 2 ^ n) {i : Int} :
    hget (dueOf ys begun k) (spelled (textOf ys ((s : Nat) : Int)) i) = none ↔ s ∉ (List.range k).map (stN begun) := by
  unfold hget
  rw [Option.map_eq_none_iff, List.find?_eq_none, due_eq h hb hk]
  constructor
  · intro q hmem
    obtain ⟨t, ht, rfl⟩ := List.mem_map.mp hmem
    refine q _ (List.mem_map.mpr ⟨t, ht, rfl⟩) ?_
    simp only [decide_eq_true_eq]
    exact (low_iff h A hs hs).mpr rfl
  · intro q p hp e
    obtain ⟨t, ht, rfl⟩ := List.mem_map.mp hp
    have htk := List.mem_range.mp ht
    simp only [decide_eq_true_eq] at e
    have := (low_iff h A (st_lt h hb (by (first | (revert hk htk; walk_at "Z") | omega))) hs).mp e
    exact q (List.mem_map.mpr ⟨t, ht, this⟩)
theorem pick_eq (h : Sz n) (A : SignsOk ys n) (hb : begun < 2 ^ n) {m : Nat} (hm : m < 2 ^ n) {st : Nat} (hst : st < 2 ^ n) {turn : Nat} : ∀ (r k : Nat), k + r ≤ n →
    pick ys (dueOf ys begun (m + 1)) ((st : Nat) : Int) turn r k = (pickN ((List.range (m + 1)).map (stN begun)) st r k).map fun (s : Nat) => (spelled (textOf ys ((s : Nat) : Int)) turn, ((s : Nat) : Int))
  | 0, k, _ => rfl
  | r + 1, k, hk => by
    have h16 := h.le
    have hkn : 2 ^ k < 2 ^ n := Nat.pow_lt_pow_right (by decide) (by (first | (revert hk; walk_at "Z") | omega))
    have ih := pick_eq h A hb hm hst (turn := turn) r (k + 1) (by (first | (revert hk; walk_at "Z") | omega))
    have e : Builtin.bitXor ((st : Nat) : Int) (2 ^ k) = ((st ^^^ 2 ^ k : Nat) : Int) := by
      have := bxor_16 st (by (first | (revert h16 hst; walk_at "Z") | omega)) (2 ^ k) (by (first | (revert h16 hkn; walk_at "Z") | omega))
      rw [← this]; rfl
    unfold pick pickN
    rw [e]
    have hx := xor_sz h hst hkn
    by_cases q : (st ^^^ 2 ^ k) ∈ (List.range (m + 1)).map (stN begun)
    · rw [if_neg fun q' => (hget_due h A hb (k := m + 1) (by (first | (revert hm; walk_at "Z") | omega)) hx).mp q' q, if_pos q]; exact ih
    · rw [if_pos ((hget_due h A hb (k := m + 1) (by (first | (revert hm; walk_at "Z") | omega)) hx).mpr q), if_neg q]; rfl
theorem due_succ {b : Int} {k : Nat} : dueOf ys b (k + 1) = dueOf ys b k ++ [(spelled (textOf ys (gray (Builtin.bitXor b (k : Int)))) k, spelled (leftOf ys (Builtin.bitXor b (k : Int))) k)] := by
  unfold dueOf; rw [List.range_succ, List.map_append]; rfl
theorem text_ne (h : Sz n) (A : SignsOk ys n) {s : Int} : textOf ys s ≠ [] := by
  intro e
  rw [text_body, A.len] at e
  have hn : n = (n - 1) + 1 := by rcases h with rfl | rfl <;> rfl
  obtain ⟨c, r, hy, hc⟩ := A.head _ (getD_mem (ys := ys) (k := n - 1) (by rw [A.len]; (first | (revert hn; walk_at "Z") | omega)))
  have e1 := (List.append_eq_nil_iff.mp e).1
  rw [hn] at e1
  by_cases hb : bit s (n - 1)
  · simp [toks, hb, render] at e1
  · simp [toks, hb, render] at e1
    rw [List.getD_eq_getElem?_getD] at hy
    rw [hy] at e1; simp at e1
theorem way_done {f : Nat} {ps : List (List Nat × List Nat)} {st : Int} {turn : Nat} : way ys f ps st turn [] = ps := by
  cases f with
  | zero => rfl
  | succ f => unfold way; rw [if_neg (by simp)]
theorem way_due (h : Sz n) (A : SignsOk ys n) (hb : begun < 2 ^ n) : ∀ (f m : Nat), m < 2 ^ n → 2 ^ n + 2 = f + m → way ys f (dueOf ys begun m) ((stN begun m : Nat) : Int) m (spelled (textOf ys ((stN begun m : Nat) : Int)) m) = dueOf ys begun (2 ^ n)
  | 0, m, hm, e => absurd hm (by (first | (revert e; walk_at "Z") | omega))
  | f + 1, m, hm, e => by
    have h16 := h.le
    have hne : spelled (textOf ys ((stN begun m : Nat) : Int)) m ≠ [] := by
      intro q
      have := congrArg List.length q
      rw [spelled_len] at this
      exact text_ne h A (List.length_eq_zero_iff.mp this)
    have hstr : stripOf (spelled (textOf ys ((stN begun m : Nat) : Int)) (m : Int)) = spelled (leftOf ys ((begun ^^^ m : Nat) : Int)) (m : Int) :=
      strip_spelled (num := ((begun ^^^ m : Nat) : Int)) (by rw [A.len]; exact isGray h (xor_sz h hb hm)) A.closed _
    have hdue : dueOf ys begun m ++ [(spelled (textOf ys ((stN begun m : Nat) : Int)) (m : Int), stripOf (spelled (textOf ys ((stN begun m : Nat) : Int)) (m : Int)))] = dueOf ys begun (m + 1) := by
      rw [due_succ, st_eq h hb hm, num_eq h hb hm, hstr]
    unfold way
    rw [if_pos ⟨hne, by rw [A.len]; (first | (revert hm; walk_at "Z") | omega)⟩, hdue, A.len, pick_eq h A hb hm (st_lt h hb hm) n 0 (by (first | walk_at "Z" | omega)), pick_sz h hb hm]
    by_cases q : m + 1 < 2 ^ n
    · rw [if_pos q]
      exact way_due h A hb f (m + 1) q (by (first | (revert e; walk_at "Z") | omega))
    · rw [if_neg q]
      show way ys f (dueOf ys begun (m + 1)) ((stN begun m : Nat) : Int) (m + 1) [] = _
      rw [way_done, show m + 1 = 2 ^ n from by (first | (revert hm q; walk_at "Z") | omega)]
theorem way_all (h : Sz n) (A : SignsOk ys n) (hb : begun < 2 ^ n) : way ys (2 ^ n + 2) [] (gray begun) 0 (textOf ys (gray begun)) = dueOf ys begun (2 ^ n) := by
  have h16 := h.le
  have hp : 0 < 2 ^ n := Nat.two_pow_pos n
  have key := way_due h A hb (2 ^ n + 2) 0 hp (by (first | walk_at "Z" | omega))
  have e : gray (begun : Int) = ((stN begun 0 : Nat) : Int) := by
    rw [gray_16 begun (by (first | (revert h16 hb; walk_at "Z") | omega))]; simp [stN]
  rw [e]
  have e2 : dueOf ys begun 0 = [] := rfl
  rw [e2] at key
  have e3 : spelled (textOf ys ((stN begun 0 : Nat) : Int)) ((0 : Nat) : Int) = textOf ys ((stN begun 0 : Nat) : Int) := spelled_zero _
  rw [e3] at key
  exact key
end

-- q6
-- part 6: the numbers of the pieces, read from the tape
def fold64 (v : Nat) (x : List Nat) : Nat := x.foldl (fun v d => v * 64 + d % 64) v
def g128 (d : Nat) : Nat := d + 128 * (d / 2 % 2)
theorem vmore_run {z : Nat} {rest : List Nat} (hz : z / 64 % 2 = 0) : ∀ (x : List Nat) (v : Nat), (∀ d ∈ x, d / 64 % 2 = 1) → vmore v (x.map g128 ++ g128 z :: rest) = some (fold64 v (x ++ [z]), rest)
  | [], v, _ => by
    have h1 : ¬ (g128 z / 64 % 2 = 1) := by unfold g128; (first | (revert hz; walk_at "Z") | omega)
    have h2 : g128 z % 64 = z % 64 := by unfold g128; (first | walk_at "Z" | omega)
    show vmore v (g128 z :: rest) = _
    unfold vmore
    rw [if_neg h1, h2]; rfl
  | d :: x, v, h => by
    have hd := h d (.head _)
    have h1 : g128 d / 64 % 2 = 1 := by unfold g128; (first | (revert hd; walk_at "Z") | omega)
    have h2 : g128 d % 64 = d % 64 := by unfold g128; (first | walk_at "Z" | omega)
    show vmore v (g128 d :: (x.map g128 ++ g128 z :: rest)) = _
    unfold vmore
    rw [if_pos h1, h2, vmore_run hz x _ fun e he => h e (.tail _ he)]; rfl
theorem sum_mul (f : Nat → Int) (k : Int) : ∀ l : List Nat, (l.map fun j => f j * k).sum = (l.map f).sum * k
  | [] => by simp
  | j :: l => by simp [sum_mul f k l, Int.add_mul]
theorem numV_snoc (p : List Nat) (z : Nat) : numV (p ++ [z]) = numV p * 64 + ((z % 64 : Nat) : Int) := by
  unfold numV
  rw [List.length_append, List.length_singleton, List.range_succ_eq_map, List.map_cons, List.sum_cons, List.map_map, ← sum_mul]
  have e0 : (p ++ [z]).getD (p.length + 1 - 1 - 0) 0 = z := by simp
  have e1 : (List.range p.length).map ((fun j => (((p ++ [z]).getD (p.length + 1 - 1 - j) 0 : Nat) : Int).fmod 64 * 64 ^ j) ∘ Nat.succ) = (List.range p.length).map fun j => ((p.getD (p.length - 1 - j) 0 : Nat) : Int).fmod 64 * 64 ^ j * 64 := by
    refine List.map_congr_left fun j hj => ?_
    have hj := List.mem_range.mp hj
    simp only [Function.comp]
    have e : (p ++ [z]).getD (p.length + 1 - 1 - j.succ) 0 = p.getD (p.length - 1 - j) 0 := by
      rw [succ_sub2, List.getD_eq_getElem?_getD, List.getD_eq_getElem?_getD, List.getElem?_append_left (by (first | (revert hj; walk_at "Z") | omega))]
    rw [e, Int.pow_succ, Int.mul_assoc]
  rw [e0, e1]
  have e2 : ((z : Int)).fmod 64 = ((z % 64 : Nat) : Int) := by
    rw [Int.fmod_eq_emod_of_nonneg _ (by decide)]; rfl
  rw [e2]; simp; (first | walk_at "Z" | omega)
theorem numV_rev : ∀ (r : List Nat), numV r.reverse = ((fold64 0 r.reverse : Nat) : Int)
  | [] => rfl
  | z :: r => by
    rw [List.reverse_cons, numV_snoc, numV_rev r]
    unfold fold64
    rw [List.foldl_append]
    simp
theorem numV_fold (p : List Nat) : numV p = ((fold64 0 p : Nat) : Int) := by
  have := numV_rev p.reverse
  rwa [List.reverse_reverse] at this
theorem tape_append (a b : List Nat) : tapeOf (a ++ b) = tapeOf a ++ tapeOf b := by unfold tapeOf; exact List.filterMap_append
theorem tape_plain {x : List Nat} (h : ∀ d ∈ x, d ≠ 34 ∧ d ≠ 92) : tapeOf x = x.map g128 := by
  induction x with
  | nil => rfl
  | cons d x ih =>
    have hd := h d (.head _)
    have : tapeOf (d :: x) = g128 d :: tapeOf x := by
      unfold tapeOf; rw [List.filterMap_cons, if_neg (by simp [hd])]; rfl
    rw [this, ih fun e he => h e (.tail _ he)]; rfl
theorem tape_quot {x : List Nat} (h : ∀ d ∈ x, d = 34 ∨ d = 92) : tapeOf x = [] := by
  induction x with
  | nil => rfl
  | cons d x ih =>
    have hd := h d (.head _)
    have : tapeOf (d :: x) = tapeOf x := by
      unfold tapeOf; rw [List.filterMap_cons, if_pos (by simp; (first | (revert hd; walk_at "Z") | omega))]
    rw [this, ih fun e he => h e (.tail _ he)]
theorem spelled_append (a b : List Nat) (i : Int) : spelled (a ++ b) i = spelled a i ++ spelled b i := by
  unfold spelled; split
  · exact List.map_append
  · rfl
theorem spelled_mem {x : List Nat} {i : Int} {d : Nat} (h : d ∈ spelled x i) : d ∈ x ∨ ∃ e ∈ x, d = up1 e := by
  unfold spelled at h
  split at h
  · obtain ⟨e, he, rfl⟩ := List.mem_map.mp h; exact .inr ⟨e, he, rfl⟩
  · exact .inl h
section
variable {ls : List Nat} {f n : Nat} {mid tl : List Nat}
theorem piece_reads (hn : ls.length = n) (hn4 : n ≤ 4) (hr : ∀ d ∈ ls, 97 ≤ d ∧ d ≤ 122) (hm : midOk mid) (ht : tailOk tl) {k : Nat} (hk : k < n) {t : Int} {rest : List Nat} :
    ∃ v : Nat, vmore 0 (tapeOf (spelled (pc ls f mid tl k).flatten t) ++ rest) = some (v, rest) ∧ numV (spelled ((pc ls f mid tl k).take 3).flatten t) = (v : Int) := by
  obtain ⟨x, hx⟩ : ∃ x, x = ls.getD k 0 :: (if k = f then mid else []) := ⟨_, rfl⟩
  obtain ⟨u, hu⟩ : ∃ u, u = (if k = f then tl else ([] : List Nat)) := ⟨_, rfl⟩
  have e1 : (pc ls f mid tl k).flatten = x ++ ([figD k] ++ u) := by rw [pc_flat, hx, hu]; simp
  have e2 : ((pc ls f mid tl k).take 3).flatten = x ++ [figD k] := by rw [hx]; simp [pc]
  have hxm : ∀ d ∈ x, (97 ≤ d ∧ d ≤ 122) ∨ (d = 64 ∨ d = 91 ∨ d = 93 ∨ d = 94 ∨ d = 95 ∨ d = 96 ∨ d = 123 ∨ d = 124 ∨ d = 125 ∨ d = 126) := by
    intro d hd
    rw [hx] at hd
    rcases List.mem_cons.mp hd with rfl | hd
    · exact .inl (hr _ (ls_get (by (first | (revert hk hn; walk_at "Z") | omega))))
    · split at hd
      · exact .inr (mid_mem hm hd)
      · cases hd
  have hum : ∀ d ∈ u, d = 92 ∨ d = 34 := by
    intro d hd
    rw [hu] at hd
    split at hd
    · exact tail_mem ht hd
    · cases hd
  have hf := figD_mem (k := k) (by (first | (revert hk hn4; walk_at "Z") | omega))
  have hz : spelled [figD k] t = [figD k] := by
    unfold spelled; split
    · rcases hf with h | h | h | h <;> rw [h] <;> rfl
    · rfl
  have hup : ∀ d, ((97 ≤ d ∧ d ≤ 122) ∨ (d = 64 ∨ d = 91 ∨ d = 93 ∨ d = 94 ∨ d = 95 ∨ d = 96 ∨ d = 123 ∨ d = 124 ∨ d = 125 ∨ d = 126)) → (d / 64 % 2 = 1 ∧ d ≠ 34 ∧ d ≠ 92) ∧ (up1 d / 64 % 2 = 1 ∧ up1 d ≠ 34 ∧ up1 d ≠ 92) := by
    have key : ∀ d < 128, ((97 ≤ d ∧ d ≤ 122) ∨ (d = 64 ∨ d = 91 ∨ d = 93 ∨ d = 94 ∨ d = 95 ∨ d = 96 ∨ d = 123 ∨ d = 124 ∨ d = 125 ∨ d = 126)) → (d / 64 % 2 = 1 ∧ d ≠ 34 ∧ d ≠ 92) ∧ (up1 d / 64 % 2 = 1 ∧ up1 d ≠ 34 ∧ up1 d ≠ 92) := by decide +kernel
    intro d hd
    exact key d (by revert hd; walk_at "Z") hd
  have hx' : ∀ d ∈ spelled x t, d / 64 % 2 = 1 ∧ d ≠ 34 ∧ d ≠ 92 := by
    intro d hd
    rcases spelled_mem hd with h | ⟨e, he, rfl⟩
    · exact (hup d (hxm d h)).1
    · exact (hup e (hxm e he)).2
  have hu' : ∀ d ∈ spelled u t, d = 34 ∨ d = 92 := by
    intro d hd
    rcases spelled_mem hd with h | ⟨e, he, rfl⟩
    · rcases hum d h with rfl | rfl <;> simp
    · rcases hum e he with rfl | rfl <;> decide
  refine ⟨fold64 0 (spelled x t ++ [figD k]), ?_, ?_⟩
  · rw [e1, spelled_append, spelled_append, hz, tape_append, tape_append, tape_plain fun d hd => (hx' d hd).2, tape_quot hu', tape_plain (x := [figD k]) (by intro d hd; simp at hd; (first | (revert hd hf; walk_at "Z") | omega))]
    have := vmore_run (z := figD k) (rest := rest) (by (first | (revert hf; walk_at "Z") | omega)) (spelled x t) 0 fun d hd => (hx' d hd).1
    rw [← this]; simp
  · rw [e2, spelled_append, hz, numV_fold]
theorem reads_row {A : Nat → Option (List Nat)} {B : Nat → Option Int} {t : Int} {rest : List Nat} {more : List Int} (hr : Reads rest more) : ∀ (l : List Nat), (∀ i ∈ l, (A i = none ∧ B i = none) ∨ ∃ y b, A i = some y ∧ B i = some b ∧ ∀ rest, ∃ v : Nat, vmore 0 (tapeOf (spelled y t) ++ rest) = some (v, rest) ∧ b = (v : Int)) →
    Reads (tapeOf (spelled ((l.filterMap A).flatten) t) ++ rest) (l.filterMap B ++ more)
  | [], _ => by
    have : spelled [] t = [] := by unfold spelled; split <;> rfl
    simpa [this, tapeOf] using hr
  | i :: l, h => by
    have ih := reads_row hr l fun j hj => h j (.tail _ hj)
    rcases h i (.head _) with ⟨h1, h2⟩ | ⟨y, b, h1, h2, h3⟩
    · rw [List.filterMap_cons_none h1, List.filterMap_cons_none h2]; exact ih
    · rw [List.filterMap_cons_some h1, List.filterMap_cons_some h2, List.flatten_cons, spelled_append, tape_append, List.append_assoc]
      obtain ⟨v, h4, h5⟩ := h3 (tapeOf (spelled ((l.filterMap A).flatten) t) ++ rest)
      exact ⟨v, _, h4, h5, ih⟩
theorem reads_all (hn : ls.length = n) (hn4 : n ≤ 4) (hr : ∀ d ∈ ls, 97 ≤ d ∧ d ≤ 122) (hm : midOk mid) (ht : tailOk tl) {begun : Int} {pss : List (List (List Nat))} (hp : pss = (List.range n).map (pc ls f mid tl)) : ∀ (l : List Nat),
    Reads (tapeOf ((l.map fun (t : Nat) => spelled (leftOf (pss.map List.flatten) (Builtin.bitXor begun (t : Int))) t).flatten)) (l.flatMap fun t => numRow pss begun t pss.length)
  | [] => rfl
  | t :: l => by
    have ih := reads_all hn hn4 hr hm ht (begun := begun) hp l
    rw [List.map_cons, List.flatten_cons, tape_append, List.flatMap_cons]
    have hl : pss.length = n := by rw [hp]; simp
    have hget : ∀ k, k < n → pss.getD k [] = pc ls f mid tl k := by
      intro k hk
      rw [hp, List.getD_eq_getElem?_getD, List.getElem?_map, List.getElem?_range hk]; rfl
    have hget2 : ∀ k, k < n → (pss.map List.flatten).getD k [] = (pc ls f mid tl k).flatten := by
      intro k hk
      rw [hp, List.getD_eq_getElem?_getD, List.getElem?_map, List.getElem?_map, List.getElem?_range hk]; rfl
    generalize tapeOf ((l.map fun (t : Nat) => spelled (leftOf (pss.map List.flatten) (Builtin.bitXor begun (t : Int))) t).flatten) = R at ih ⊢
    generalize (l.flatMap fun t => numRow pss begun t pss.length) = M at ih ⊢
    unfold leftOf numRow
    rw [List.length_map]
    refine reads_row ih _ fun i hi => ?_
    have hi := List.mem_range.mp hi
    by_cases q : ((Builtin.bitXor begun (t : Int)).fdiv (2 ^ (pss.length - 1 - i))).fmod 2 = 0
    · refine .inr ⟨_, _, if_pos q, if_pos q, fun rest => ?_⟩
      rw [hget _ (by (first | (revert hi hl; walk_at "Z") | omega)), hget2 _ (by (first | (revert hi hl; walk_at "Z") | omega))]
      exact piece_reads hn hn4 hr hm ht (by (first | (revert hi hl; walk_at "Z") | omega))
    · exact .inl ⟨if_neg q, if_neg q⟩
end

-- q7
-- part 7: the texts' distances
section
variable {ψ : Nat → Nat} {U : Nat → Prop}
theorem getD_map {a : List Nat} {i : Nat} (h : i < a.length) : (a.map ψ).getD i 0 = ψ (a.getD i 0) := by
  rw [List.getD_eq_getElem?_getD, List.getD_eq_getElem?_getD, List.getElem?_map, List.getElem?_eq_getElem h]; rfl
theorem getD_in {a : List Nat} {i : Nat} (ha : ∀ d ∈ a, U d) (h : i < a.length) : U (a.getD i 0) := by
  rw [List.getD_eq_getElem?_getD, List.getElem?_eq_getElem h]; exact ha _ (List.getElem_mem h)
theorem lrow_map (hs : ∀ x y, U x → U y → subst (ψ x) (ψ y) = subst x y) {y : Nat} {a : List Nat} (hy : U y) (ha : ∀ d ∈ a, U d) {bi : Nat} {row : List Int} : ∀ i, i ≤ a.length → lrow (ψ y) (a.map ψ) bi row i = lrow y a bi row i
  | 0, _ => rfl
  | i + 1, h => by
    unfold lrow lstep
    rw [lrow_map hs hy ha i (by (first | (revert h; walk_at "Z") | omega)), getD_map (by (first | (revert h; walk_at "Z") | omega)), hs _ _ hy (getD_in ha (by (first | (revert h; walk_at "Z") | omega)))]
theorem lgo_map (hs : ∀ x y, U x → U y → subst (ψ x) (ψ y) = subst x y) {a b : List Nat} (ha : ∀ d ∈ a, U d) (hb : ∀ d ∈ b, U d) {mc : Int} : ∀ (k j : Nat) (row : List Int) (res : Int), j + k ≤ b.length → lgo (a.map ψ) (b.map ψ) mc k j row res = lgo a b mc k j row res
  | 0, _, _, _, _ => rfl
  | k + 1, j, row, res, h => by
    unfold lgo
    rw [getD_map (by (first | (revert h; walk_at "Z") | omega)), List.length_map, lrow_map hs (getD_in hb (by (first | (revert h; walk_at "Z") | omega))) ha _ (Nat.le_refl _)]
    simp only [lgo_map hs ha hb k (j + 1) _ _ (by (first | (revert h; walk_at "Z") | omega))]
theorem lev3_map (hs : ∀ x y, U x → U y → subst (ψ x) (ψ y) = subst x y) {a b : List Nat} (ha : ∀ d ∈ a, U d) (hb : ∀ d ∈ b, U d) {mc : Int} : lev3 (a.map ψ) (b.map ψ) mc = lev3 a b mc := by
  unfold lev3
  rw [List.length_map, List.length_map, lgo_map hs ha hb _ _ _ _ (by (first | walk_at "Z" | omega))]
theorem lev2_map (hs : ∀ x y, U x → U y → subst (ψ x) (ψ y) = subst x y) {a b : List Nat} (ha : ∀ d ∈ a, U d) (hb : ∀ d ∈ b, U d) {mc : Int} : lev2 (a.map ψ) (b.map ψ) mc = lev2 a b mc := by
  unfold lev2
  rw [List.length_map, List.length_map, lev3_map hs ha hb, lev3_map hs hb ha]
  simp only [List.map_eq_nil_iff]
theorem trimP_map (hi : ∀ x y, U x → U y → ψ x = ψ y → x = y) : ∀ {a b : List Nat}, (∀ d ∈ a, U d) → (∀ d ∈ b, U d) → trimP (a.map ψ) (b.map ψ) = ((trimP a b).1.map ψ, (trimP a b).2.map ψ)
  | [], b, _, _ => by unfold trimP; rfl
  | x :: a, [], _, _ => by unfold trimP; rfl
  | x :: a, y :: b, ha, hb => by
    unfold trimP
    by_cases h : x = y
    · subst h
      simp only [List.map_cons, if_true]
      exact trimP_map hi (fun d hd => ha d (.tail _ hd)) fun d hd => hb d (.tail _ hd)
    · have h' : ¬ ψ x = ψ y := fun q => h (hi _ _ (ha _ (.head _)) (hb _ (.head _)) q)
      simp only [List.map_cons, if_neg h, if_neg h']
theorem lev_map (hs : ∀ x y, U x → U y → subst (ψ x) (ψ y) = subst x y) (hi : ∀ x y, U x → U y → ψ x = ψ y → x = y) {a b : List Nat} (ha : ∀ d ∈ a, U d) (hb : ∀ d ∈ b, U d) {mc : Int} : lev (a.map ψ) (b.map ψ) mc = lev a b mc := by
  have heq : a.map ψ = b.map ψ ↔ a = b := by
    constructor
    · intro h
      clear hs mc
      induction a generalizing b with
      | nil => cases b with
        | nil => rfl
        | cons y b => simp at h
      | cons x a ih => cases b with
        | nil => simp at h
        | cons y b =>
          simp only [List.map_cons, List.cons.injEq] at h
          rw [hi _ _ (ha _ (.head _)) (hb _ (.head _)) h.1, ih (fun d hd => ha d (.tail _ hd)) (fun d hd => hb d (.tail _ hd)) h.2]
    · rintro rfl; rfl
  unfold lev
  by_cases h : a = b
  · rw [if_pos h, if_pos (heq.mpr h)]
  rw [if_neg h, if_neg fun q => h (heq.mp q)]
  unfold lev1
  have t1 := trimP_sub a b
  have t2 := trimP_sub (trimP a b).1.reverse (trimP a b).2.reverse
  have u1 : ∀ d ∈ (trimP a b).1.reverse, U d := fun d hd => ha d (t1.1 d (List.mem_reverse.mp hd))
  have u2 : ∀ d ∈ (trimP a b).2.reverse, U d := fun d hd => hb d (t1.2 d (List.mem_reverse.mp hd))
  simp only [trimP_map hi ha hb, ← List.map_reverse, trimP_map hi u1 u2]
  exact lev2_map hs (fun d hd => u1 d (t2.1 d (List.mem_reverse.mp hd))) fun d hd => u2 d (t2.2 d (List.mem_reverse.mp hd))
end
/-- the letters in the first place -/
def canon (n : Nat) : List Nat := (List.range n).map fun k => 97 + k
theorem plainC : ∀ n ∈ [3, 4], ∀ b < n + 2, lev (canon n) ((canon n).map up1) ((b : Nat) : Int) = min (n : Int) (((b : Nat) : Int) + 1) := by decide +kernel
theorem figsC : ∀ n ∈ [3, 4], ∀ r < 3, lev (canon n) ((List.range n).map figD) (2 * ((n : Nat) : Int) - 1 + ((r : Nat) : Int)) = 2 * ((n : Nat) : Int) := by decide +kernel
def masks (n : Nat) : List Nat := if n = 3 then [1, 2, 3, 4, 5, 6] else [1, 2, 3, 4, 5, 6, 8, 9, 10, 12]
theorem masks_3 : ∀ begun < 8, ∀ j < 3, ∀ a < 8 - 2 ^ j, (stN begun a ^^^ stN begun (a + 2 ^ j)) ∈ masks 3 := by decide +kernel
theorem masks_4 : ∀ begun < 16, ∀ j < 4, ∀ a < 16 - 2 ^ j, (stN begun a ^^^ stN begun (a + 2 ^ j)) ∈ masks 4 := by decide +kernel
theorem xor_xor : ∀ u < 16, ∀ v < 16, u ^^^ (u ^^^ v) = v := by decide +kernel
theorem turns_3 : ∀ u < 8, ∀ m ∈ masks 3, ∀ r < 3, lev (textOf ((canon 3).map fun d => [d]) ((u : Nat) : Int)) (textOf ((canon 3).map fun d => [d]) ((u ^^^ m : Nat) : Int)) (3 + ((r : Nat) : Int)) = 4 := by decide +kernel
theorem turns_4 : ∀ u < 16, ∀ m ∈ masks 4, ∀ r < 3, lev (textOf ((canon 4).map fun d => [d]) ((u : Nat) : Int)) (textOf ((canon 4).map fun d => [d]) ((u ^^^ m : Nat) : Int)) (3 + ((r : Nat) : Int)) = 4 := by decide +kernel
section
variable {ls : List Nat} {n : Nat}
/-- the letters' other names -/
def nameD (ls : List Nat) (n d : Nat) : Nat := if 97 ≤ d ∧ d < 97 + n then ls.getD (d - 97) 0 else if 65 ≤ d ∧ d < 65 + n then up1 (ls.getD (d - 65) 0) else d
def UsedD (n d : Nat) : Prop := (∃ i < n, d = 97 + i) ∨ (∃ i < n, d = 65 + i) ∨ d = 34 ∨ d = 49 ∨ d = 50 ∨ d = 52 ∨ d = 56
theorem name_lo {i : Nat} (h : i < n) : nameD ls n (97 + i) = ls.getD i 0 := by
  unfold nameD; rw [if_pos ⟨by (first | walk_at "Z" | omega), by (first | (revert h; walk_at "Z") | omega)⟩, show 97 + i - 97 = i from by (first | walk_at "Z" | omega)]
theorem name_up {i : Nat} (h : i < n) (h4 : n ≤ 4) : nameD ls n (65 + i) = up1 (ls.getD i 0) := by
  unfold nameD; rw [if_neg (by (first | (revert h h4; walk_at "Z") | omega)), if_pos ⟨by (first | walk_at "Z" | omega), by (first | (revert h; walk_at "Z") | omega)⟩, show 65 + i - 65 = i from by (first | walk_at "Z" | omega)]
theorem name_id {d : Nat} (h : d < 65) : nameD ls n d = d := by
  unfold nameD; rw [if_neg (by (first | (revert h; walk_at "Z") | omega)), if_neg (by (first | (revert h; walk_at "Z") | omega))]
theorem nodup_get : ∀ {ls : List Nat}, ls.Nodup → ∀ {i j : Nat}, i < ls.length → j < ls.length → ls.getD i 0 = ls.getD j 0 → i = j := by
  intro ls hnd i j hi hj h
  rw [List.getD_eq_getElem?_getD, List.getD_eq_getElem?_getD, List.getElem?_eq_getElem hi, List.getElem?_eq_getElem hj] at h
  have h' : ls[i] = ls[j] := h
  have key := List.pairwise_iff_getElem.mp hnd
  rcases Nat.lt_trichotomy i j with q | q | q
  · exact absurd h' (key i j hi hj q)
  · exact q
  · exact absurd h'.symm (key j i hj hi q)
theorem lo_ge {d : Nat} (h : 97 ≤ d) : lo1 d = d := by unfold lo1; rw [if_neg (by revert h; walk_at "Z")]
theorem lo_lt {d : Nat} (h : d < 65) : lo1 d = d := by unfold lo1; rw [if_neg (by revert h; walk_at "Z")]
theorem lo_mid {d : Nat} (h1 : 65 ≤ d) (h2 : d ≤ 90) : lo1 d = d + 32 := by unfold lo1; rw [if_pos ⟨h1, h2⟩]
theorem lo_inj {x y : Nat} (h : lo1 x = lo1 y) (k : lo1 x = x ↔ lo1 y = y) : x = y := by
  by_cases q : lo1 x = x
  · rw [← q, h, k.mp q]
  · have q' := fun e => q (k.mpr e)
    have u : ∀ {d : Nat}, lo1 d ≠ d → lo1 d = d + 32 := fun {d} hd => by
      unfold lo1 at hd ⊢
      split
      · rfl
      · rename_i g; rw [if_neg g] at hd; exact absurd rfl hd
    rw [u q, u q'] at h
    exact Nat.add_right_cancel h
def LowD (n z : Nat) : Prop := (∃ i < n, z = 97 + i) ∨ z < 65
theorem name_low (hn : ls.length = n) (hnd : ls.Nodup) (hr : ∀ d ∈ ls, 97 ≤ d ∧ d ≤ 122) {z w : Nat} (hz : LowD n z) (hw : LowD n w) (h : nameD ls n z = nameD ls n w) : z = w := by
  have hg : ∀ i < n, 97 ≤ ls.getD i 0 := fun i hi => (hr _ (ls_get (by rw [hn]; exact hi))).1
  rcases hz with ⟨i, hi, rfl⟩ | hz <;> rcases hw with ⟨j, hj, rfl⟩ | hw
  · rw [name_lo hi, name_lo hj] at h
    rw [nodup_get hnd (by rw [hn]; exact hi) (by rw [hn]; exact hj) h]
  · rw [name_lo hi, name_id hw] at h
    have := hg i hi
    revert this h hw; walk_at "Z"
  · rw [name_lo hj, name_id hz] at h
    have := hg j hj
    revert this h hz; walk_at "Z"
  · rwa [name_id hz, name_id hw] at h
theorem name_kind (hn : ls.length = n) (h4 : n ≤ 4) (hr : ∀ d ∈ ls, 97 ≤ d ∧ d ≤ 122) {x : Nat} (hx : UsedD n x) :
    lo1 (nameD ls n x) = nameD ls n (lo1 x) ∧ (lo1 (nameD ls n x) = nameD ls n x ↔ lo1 x = x) ∧ LowD n (lo1 x) := by
  have hg : ∀ i < n, 97 ≤ ls.getD i 0 ∧ ls.getD i 0 ≤ 122 := fun i hi => hr _ (ls_get (by rw [hn]; exact hi))
  rcases hx with ⟨i, hi, rfl⟩ | ⟨i, hi, rfl⟩ | hx
  · have e : lo1 (97 + i) = 97 + i := lo_ge (Nat.le_add_right _ _)
    rw [e, name_lo hi, lo_ge (hg i hi).1]
    exact ⟨rfl, ⟨fun _ => rfl, fun _ => rfl⟩, .inl ⟨i, hi, rfl⟩⟩
  · have e : lo1 (65 + i) = 97 + i := by rw [lo_mid (Nat.le_add_right _ _) (by revert hi h4; walk_at "Z")]; walk_at "Z"
    obtain ⟨v, hv⟩ : ∃ v, ls.getD i 0 = v + 32 := ⟨ls.getD i 0 - 32, by have := (hg i hi).1; revert this; walk_at "Z"⟩
    have g := hg i hi
    have eu : up1 (ls.getD i 0) = v := by unfold up1; rw [if_pos g, hv]; rfl
    rw [hv] at g
    have el : lo1 v = v + 32 := lo_mid (by have := g.1; revert this; walk_at "Z") (by have := g.2; revert this; walk_at "Z")
    rw [e, name_up hi h4, eu, el, name_lo hi, hv]
    exact ⟨rfl, ⟨fun q => absurd q (by walk_at "Z"), fun q => absurd q (by walk_at "Z")⟩, .inl ⟨i, hi, rfl⟩⟩
  · have hx' : x < 65 := by rcases hx with rfl | rfl | rfl | rfl | rfl <;> decide
    rw [lo_lt hx', name_id hx', lo_lt hx']
    exact ⟨rfl, Iff.rfl, .inr hx'⟩
theorem name_facts (hn : ls.length = n) (h4 : n ≤ 4) (hnd : ls.Nodup) (hr : ∀ d ∈ ls, 97 ≤ d ∧ d ≤ 122) {x y : Nat} (hx : UsedD n x) (hy : UsedD n y) :
    (nameD ls n x = nameD ls n y ↔ x = y) ∧ (lo1 (nameD ls n x) = lo1 (nameD ls n y) ↔ lo1 x = lo1 y) := by
  obtain ⟨a1, a2, a3⟩ := name_kind hn h4 hr hx
  obtain ⟨b1, b2, b3⟩ := name_kind hn h4 hr hy
  have low : lo1 (nameD ls n x) = lo1 (nameD ls n y) → lo1 x = lo1 y := fun h => name_low hn hnd hr a3 b3 (by rw [← a1, ← b1]; exact h)
  exact ⟨⟨fun h => lo_inj (low (by rw [h])) (a2.symm.trans (h ▸ b2)), fun h => by rw [h]⟩, low, fun h => by rw [a1, b1, h]⟩
theorem lev_name (hn : ls.length = n) (h4 : n ≤ 4) (hnd : ls.Nodup) (hr : ∀ d ∈ ls, 97 ≤ d ∧ d ≤ 122) {a b : List Nat} {mc : Int} (ha : ∀ d ∈ a, UsedD n d) (hb : ∀ d ∈ b, UsedD n d) : lev (a.map (nameD ls n)) (b.map (nameD ls n)) mc = lev a b mc := by
  refine lev_map (U := UsedD n) (fun x y hx hy => ?_) (fun x y hx hy => (name_facts hn h4 hnd hr hx hy).1.mp) ha hb
  have := name_facts hn h4 hnd hr hx hy
  unfold subst
  simp only [this.1, this.2]
theorem canon_name (hn : ls.length = n) : (canon n).map (nameD ls n) = ls := by
  apply List.ext_getElem?
  intro i
  unfold canon
  by_cases h : i < n
  · rw [List.getElem?_map, List.getElem?_map, List.getElem?_range h, List.getElem?_eq_getElem (by (first | (revert h hn; walk_at "Z") | omega))]
    show some (nameD ls n (97 + i)) = _
    rw [name_lo h, List.getD_eq_getElem?_getD, List.getElem?_eq_getElem (by (first | (revert h hn; walk_at "Z") | omega))]; rfl
  · rw [List.getElem?_eq_none (by simp; (first | (revert h; walk_at "Z") | omega)), List.getElem?_eq_none (by (first | (revert h hn; walk_at "Z") | omega))]
theorem canon_up (hn : ls.length = n) (h4 : n ≤ 4) : ((canon n).map up1).map (nameD ls n) = ls.map up1 := by
  apply List.ext_getElem?
  intro i
  unfold canon
  by_cases h : i < n
  · rw [List.getElem?_map, List.getElem?_map, List.getElem?_map, List.getElem?_map, List.getElem?_range h, List.getElem?_eq_getElem (by (first | (revert h hn; walk_at "Z") | omega))]
    have : up1 (97 + i) = 65 + i := by unfold up1; rw [if_pos ⟨by (first | walk_at "Z" | omega), by (first | (revert h h4; walk_at "Z") | omega)⟩]; (first | walk_at "Z" | omega)
    show some (nameD ls n (up1 (97 + i))) = _
    rw [this, name_up h h4, List.getD_eq_getElem?_getD, List.getElem?_eq_getElem (by (first | (revert h hn; walk_at "Z") | omega))]; rfl
  · rw [List.getElem?_eq_none (by simp; (first | (revert h; walk_at "Z") | omega)), List.getElem?_eq_none (by simp; (first | (revert h hn; walk_at "Z") | omega))]
theorem canon_used {d : Nat} (h : d ∈ canon n) : UsedD n d := by
  obtain ⟨k, hk, rfl⟩ := List.mem_map.mp h
  exact .inl ⟨k, List.mem_range.mp hk, rfl⟩
theorem canon_used_up (h4 : n ≤ 4) {d : Nat} (h : d ∈ (canon n).map up1) : UsedD n d := by
  obtain ⟨e, he, rfl⟩ := List.mem_map.mp h
  obtain ⟨k, hk, rfl⟩ := List.mem_map.mp he
  have hk := List.mem_range.mp hk
  have : up1 (97 + k) = 65 + k := by unfold up1; rw [if_pos ⟨by (first | walk_at "Z" | omega), by (first | (revert h4 hk; walk_at "Z") | omega)⟩]; (first | walk_at "Z" | omega)
  rw [this]; exact .inr (.inl ⟨k, hk, rfl⟩)
theorem figs_used (h4 : n ≤ 4) {d : Nat} (h : d ∈ (List.range n).map figD) : UsedD n d := by
  obtain ⟨k, hk, rfl⟩ := List.mem_map.mp h
  have := figD_mem (k := k) (by have := List.mem_range.mp hk; (first | (revert h4 this; walk_at "Z") | omega))
  exact .inr (.inr (.inr this))
theorem figs_name (h4 : n ≤ 4) : ((List.range n).map figD).map (nameD ls n) = (List.range n).map figD := by
  rw [List.map_map]
  refine List.map_congr_left fun k hk => ?_
  have := figD_mem (k := k) (by have := List.mem_range.mp hk; (first | (revert h4 this; walk_at "Z") | omega))
  exact name_id (by (first | (revert this; walk_at "Z") | omega))
-- texts of single letters
theorem render_mapD {ψ : Nat → Nat} (h : ψ 34 = 34) : ∀ (tk : List Tk), (render tk).map ψ = render (tk.map (Option.map (List.map ψ)))
  | [] => rfl
  | none :: r => by simp [render, render_mapD h r, h]
  | some y :: r => by simp [render, render_mapD h r]
theorem toks_mapD {ψ : Nat → Nat} {ys : List (List Nat)} {s : Int} : ∀ (k : Nat), k ≤ ys.length → (toks ys s k).map (Option.map (List.map ψ)) = toks (ys.map (List.map ψ)) s k
  | 0, _ => rfl
  | k + 1, hk => by
    have e : (ys.map (List.map ψ)).getD k [] = (ys.getD k []).map ψ := by
      rw [List.getD_eq_getElem?_getD, List.getElem?_map, List.getElem?_eq_getElem (by (first | (revert hk; walk_at "Z") | omega)), List.getD_eq_getElem?_getD, List.getElem?_eq_getElem (by (first | (revert hk; walk_at "Z") | omega))]; rfl
    have ih := toks_mapD (ψ := ψ) (ys := ys) (s := s) k (by (first | (revert hk; walk_at "Z") | omega))
    by_cases h : bit s k <;> simp [toks, h, ih] <;> simpa using e.symm
theorem textOf_mapD {ψ : Nat → Nat} (h : ψ 34 = 34) {ys : List (List Nat)} {s : Int} : (textOf ys s).map ψ = textOf (ys.map (List.map ψ)) s := by
  rw [textOf_toks, textOf_toks, render_mapD h, List.map_append, toks_mapD _ (Nat.le_refl _), List.length_map]
  congr 2
  unfold tkEnd; split <;> rfl
theorem text_name (hn : ls.length = n) {s : Int} : textOf (ls.map fun d => [d]) s = (textOf ((canon n).map fun d => [d]) s).map (nameD ls n) := by
  rw [textOf_mapD (name_id (by decide)), List.map_map]
  congr 1
  conv => lhs; rw [← canon_name hn]
  rw [List.map_map]; rfl
theorem text_used {s : Int} {d : Nat} (h : d ∈ textOf ((canon n).map fun d => [d]) s) : UsedD n d := by
  rcases text_mem h with rfl | ⟨y, h1, h2⟩
  · exact .inr (.inr (.inl rfl))
  · obtain ⟨e, he, rfl⟩ := List.mem_map.mp h1
    simp only [List.mem_singleton] at h2
    subst h2
    exact canon_used he
theorem plain_ok (hz : Sz n) (hn : ls.length = n) (hnd : ls.Nodup) (hr : ∀ d ∈ ls, 97 ≤ d ∧ d ≤ 122) : ∀ b : Nat, b < n + 2 → lev ls (ls.map up1) (b : Int) = min (n : Int) ((b : Int) + 1) := by
  intro b hb
  have h4 : n ≤ 4 := by rcases hz with rfl | rfl <;> decide
  have key := plainC n (by rcases hz with rfl | rfl <;> simp) b hb
  rw [← key, ← lev_name hn h4 hnd hr (fun d => canon_used) (fun d => canon_used_up h4), canon_name hn, canon_up hn h4]
theorem figs_ok (hz : Sz n) (hn : ls.length = n) (hnd : ls.Nodup) (hr : ∀ d ∈ ls, 97 ≤ d ∧ d ≤ 122) : ∀ r < 3, lev ls ((List.range n).map figD) (2 * (n : Int) - 1 + ((r : Nat) : Int)) = 2 * (n : Int) := by
  intro r hb
  have h4 : n ≤ 4 := by rcases hz with rfl | rfl <;> decide
  have key := figsC n (by rcases hz with rfl | rfl <;> simp) r hb
  refine Eq.trans ?_ key
  rw [← lev_name hn h4 hnd hr (fun d => canon_used) (fun d => figs_used h4), canon_name hn, figs_name h4]
theorem turns_ok (hz : Sz n) (hn : ls.length = n) (hnd : ls.Nodup) (hr : ∀ d ∈ ls, 97 ≤ d ∧ d ≤ 122) {begun : Nat} (hb : begun < 2 ^ n) {j a : Nat} (hj : j < n) (ha : a + 2 ^ j < 2 ^ n) {r : Nat} (hr3 : r < 3) :
    lev (textOf (ls.map fun d => [d]) (gray (Builtin.bitXor begun ((a : Nat) : Int)))) (textOf (ls.map fun d => [d]) (gray (Builtin.bitXor begun ((a + 2 ^ j : Nat) : Int)))) (3 + ((r : Nat) : Int)) = 4 := by
  have h4 : n ≤ 4 := by rcases hz with rfl | rfl <;> decide
  have h16 := hz.le
  have hp := Nat.two_pow_pos j
  have ha' : a < 2 ^ n := by (first | (revert ha hp; walk_at "Z") | omega)
  rw [st_eq hz hb ha', st_eq hz hb ha, text_name hn, text_name hn, lev_name hn h4 hnd hr (fun d => text_used) (fun d => text_used)]
  have e := xor_xor (stN begun a) (Nat.lt_of_lt_of_le (st_lt hz hb ha') h16) (stN begun (a + 2 ^ j)) (Nat.lt_of_lt_of_le (st_lt hz hb ha) h16)
  have hlt := st_lt hz hb ha'
  rcases hz with rfl | rfl
  · have := turns_3 _ hlt _ (masks_3 begun hb j hj a (by (first | (revert ha; walk_at "Z") | omega))) r hr3
    rw [e] at this; exact this
  · have := turns_4 _ hlt _ (masks_4 begun hb j hj a (by (first | (revert ha; walk_at "Z") | omega))) r hr3
    rw [e] at this; exact this
end

-- q8
-- part 8: an odd number's text alone
def stripS : List Nat → Option (List Nat) → List Tk → List Nat × Option (List Nat)
  | acc, o, [] => (acc, o)
  | acc, none, some y :: r => stripS (acc ++ y) none r
  | acc, some p, some y :: r => stripS acc (some (p ++ y)) r
  | acc, none, none :: r => stripS acc (some [34]) r
  | acc, some _, none :: r => stripS acc none r
theorem stripT_append : ∀ (a : List Tk) (b : List Tk) (acc : List Nat) (o : Option (List Nat)), stripT acc o (a ++ b) = stripT (stripS acc o a).1 (stripS acc o a).2 b
  | [], b, acc, o => rfl
  | some y :: r, b, acc, none => by simp [stripT, stripS, stripT_append r b]
  | some y :: r, b, acc, some p => by simp [stripT, stripS, stripT_append r b]
  | none :: r, b, acc, none => by simp [stripT, stripS, stripT_append r b]
  | none :: r, b, acc, some p => by simp [stripT, stripS, stripT_append r b]
theorem down_succ (ys : List (List Nat)) (k : Nat) : downTo ys (k + 1) = ys.getD (k + 1) [] ++ downTo ys k := by
  unfold downTo
  rw [List.range_succ_eq_map, List.map_cons, List.flatten_cons, List.map_map]
  congr 2
  refine List.map_congr_left fun i _ => ?_
  simp only [Function.comp]
  rw [Nat.add_sub_add_right k 1 i]
theorem down_zero (ys : List (List Nat)) : downTo ys 0 = ys.getD 0 [] := by simp [downTo]
/-- with no mark left, the open part takes all -/
theorem strip_down {ys : List (List Nat)} {g : Int} : ∀ (k : Nat) (acc p : List Nat), (∀ j < k + 1, ¬ bit g j) → stripS acc (some p) (toks ys g (k + 1)) = (acc, some (p ++ downTo ys k))
  | 0, acc, p, h => by
    simp [toks, h 0 (by decide), stripS, down_zero]
  | k + 1, acc, p, h => by
    have ih := strip_down (ys := ys) k acc (p ++ ys.getD (k + 1) []) fun j hj => h j (by (first | (revert hj; walk_at "Z") | omega))
    have e : toks ys g (k + 1 + 1) = some (ys.getD (k + 1) []) :: toks ys g (k + 1) := by
      show (if bit g (k + 1) then [none] else []) ++ _ = _
      rw [if_neg (h (k + 1) (by (first | walk_at "Z" | omega)))]; rfl
    rw [e, down_succ, ← List.append_assoc, ← ih]; rfl
theorem stripS_gray {ys : List (List Nat)} {g num : Int} {n : Nat} (hg : IsGray g num n) : ∀ (k : Nat) (acc : List Nat) (o : Option (List Nat)), k ≤ n → (o.isSome = true ↔ bit num k) →
    (stripS acc o (toks ys g k)).1 = acc ++ leftDown ys num k ∧ ((stripS acc o (toks ys g k)).2.isSome = true ↔ bit num 0)
  | 0, acc, o, _, ho => ⟨by simp [toks, stripS, leftDown], by simpa [toks, stripS] using ho⟩
  | k + 1, acc, o, hk, ho => by
    have h := hg.1 k (by (first | (revert hk; walk_at "Z") | omega))
    have hk' : k ≤ n := by (first | (revert hk; walk_at "Z") | omega)
    cases o with
    | none =>
      have h1 : ¬ bit num (k + 1) := fun q => by simpa using ho.mpr q
      by_cases h2 : bit num k
      · have h3 : bit g k := h.mpr (by simp [h1, h2])
        have ih := stripS_gray (ys := ys) hg k acc (some ([34] ++ ys.getD k [])) hk' (by simp [h2])
        simp [toks, h3, stripS, leftDown, h2] at ih ⊢
        exact ih
      · have h3 : ¬ bit g k := fun q => absurd (h.mp q) (by simp [h1, h2])
        have ih := stripS_gray (ys := ys) hg k (acc ++ ys.getD k []) none hk' (by simp [h2])
        simp [toks, h3, stripS, leftDown, h2] at ih ⊢
        exact ih
    | some p =>
      have h1 : bit num (k + 1) := ho.mp rfl
      by_cases h2 : bit num k
      · have h3 : ¬ bit g k := fun q => absurd (h.mp q) (by simp [h1, h2])
        have ih := stripS_gray (ys := ys) hg k acc (some (p ++ ys.getD k [])) hk' (by simp [h2])
        simp [toks, h3, stripS, leftDown, h2] at ih ⊢
        exact ih
      · have h3 : bit g k := h.mpr (by simp [h1, h2])
        have ih := stripS_gray (ys := ys) hg k (acc ++ ys.getD k []) none hk' (by simp [h2])
        simp [toks, h3, stripS, leftDown, h2] at ih ⊢
        exact ih
/-- the part that is open at the end: from the last mark on -/
theorem strip_open {ys : List (List Nat)} {g num : Int} {n low : Nat} (hg : IsGray g num n) (hl : low < n) (h1 : ∀ k < low, ¬ bit g k) (h2 : bit g low) (h0 : bit num 0) : ∀ (k : Nat) (acc : List Nat) (o : Option (List Nat)), low < k → k ≤ n → (o.isSome = true ↔ bit num k) →
    (stripS acc o (toks ys g k)).2 = some (34 :: downTo ys low)
  | 0, _, _, h, _, _ => absurd h (by (first | walk_at "Z" | omega))
  | k + 1, acc, o, hlk, hk, ho => by
    have h := hg.1 k (by (first | (revert hk; walk_at "Z") | omega))
    have hk' : k ≤ n := by (first | (revert hk; walk_at "Z") | omega)
    by_cases e : low = k
    · subst e
      have hb : ∀ k ≤ low, bit num k := by
        intro k
        induction k with
        | zero => intro _; exact h0
        | succ k ih =>
          intro hkl
          have a := ih (by (first | (revert hkl; walk_at "Z") | omega))
          have b := hg.1 k (by (first | (revert hkl hl; walk_at "Z") | omega))
          have c := h1 k (by (first | (revert hkl; walk_at "Z") | omega))
          by_cases q : bit num (k + 1)
          · exact q
          · exact absurd (b.mpr (by simp [a, q])) c
      have hlb := hb low (Nat.le_refl _)
      have hlb1 : ¬ bit num (low + 1) := fun q => (h.mp h2) (by simp [hlb, q])
      cases o with
      | some p => exact absurd (ho.mp rfl) hlb1
      | none =>
        have e : toks ys g (low + 1) = none :: some (ys.getD low []) :: toks ys g low := by
          show (if bit g low then [none] else []) ++ _ = _
          rw [if_pos h2]; rfl
        rw [e]
        cases low with
        | zero => simp [stripS, toks, down_zero]
        | succ l =>
          have := strip_down (ys := ys) (g := g) l acc ([34] ++ ys.getD (l + 1) []) fun j hj => h1 j (by (first | (revert hj; walk_at "Z") | omega))
          show (stripS acc (some ([34] ++ ys.getD (l + 1) [])) (toks ys g (l + 1))).2 = _
          rw [this, down_succ]; simp
    · have hlk' : low < k := by (first | (revert e hlk; walk_at "Z") | omega)
      cases o with
      | none =>
        have g1 : ¬ bit num (k + 1) := fun q => by simpa using ho.mpr q
        by_cases g2 : bit num k
        · have g3 : bit g k := h.mpr (by simp [g1, g2])
          have ih := strip_open (ys := ys) hg hl h1 h2 h0 k acc (some ([34] ++ ys.getD k [])) hlk' hk' (by simp [g2])
          simp [toks, g3, stripS] at ih ⊢
          exact ih
        · have g3 : ¬ bit g k := fun q => absurd (h.mp q) (by simp [g1, g2])
          have ih := strip_open (ys := ys) hg hl h1 h2 h0 k (acc ++ ys.getD k []) none hlk' hk' (by simp [g2])
          simp [toks, g3, stripS] at ih ⊢
          exact ih
      | some p =>
        have g1 : bit num (k + 1) := ho.mp rfl
        by_cases g2 : bit num k
        · have g3 : ¬ bit g k := fun q => absurd (h.mp q) (by simp [g1, g2])
          have ih := strip_open (ys := ys) hg hl h1 h2 h0 k acc (some (p ++ ys.getD k [])) hlk' hk' (by simp [g2])
          simp [toks, g3, stripS] at ih ⊢
          exact ih
        · have g3 : bit g k := h.mpr (by simp [g1, g2])
          have ih := strip_open (ys := ys) hg hl h1 h2 h0 k (acc ++ ys.getD k []) none hlk' hk' (by simp [g2])
          simp [toks, g3, stripS] at ih ⊢
          exact ih
theorem low_3 : ∀ x < 8, x % 2 = 1 → ∃ low, low < 3 ∧ bit ((gN x : Nat) : Int) low ∧ ∀ k < low, ¬ bit ((gN x : Nat) : Int) k := by
  have : ∀ x < 8, x % 2 = 1 → ∃ low ∈ List.range 3, bit ((gN x : Nat) : Int) low ∧ ∀ k < low, ¬ bit ((gN x : Nat) : Int) k := by decide +kernel
  intro x hx h
  obtain ⟨l, h1, h2⟩ := this x hx h
  exact ⟨l, List.mem_range.mp h1, h2⟩
theorem low_4 : ∀ x < 16, x % 2 = 1 → ∃ low, low < 4 ∧ bit ((gN x : Nat) : Int) low ∧ ∀ k < low, ¬ bit ((gN x : Nat) : Int) k := by
  have : ∀ x < 16, x % 2 = 1 → ∃ low ∈ List.range 4, bit ((gN x : Nat) : Int) low ∧ ∀ k < low, ¬ bit ((gN x : Nat) : Int) k := by decide +kernel
  intro x hx h
  obtain ⟨l, h1, h2⟩ := this x hx h
  exact ⟨l, List.mem_range.mp h1, h2⟩
theorem odd_bit : ∀ x < 16, x % 2 = 1 → bit ((x : Nat) : Int) 0 := by decide +kernel
theorem xor_back : ∀ x < 16, ∀ y < 16, x ^^^ (x ^^^ y) = y := by decide +kernel
theorem trimP_pre : ∀ (u v : List Nat), trimP (u ++ v) u = (v, [])
  | [], v => by cases v <;> simp [trimP]
  | d :: u, v => by
    rw [List.cons_append, trimP_step, trimP_pre u v]
theorem lev_last (u : List Nat) (d : Nat) (mc : Int) : lev (u ++ [d]) u mc = 2 := by
  unfold lev
  rw [if_neg (by intro q; simpa using congrArg List.length q)]
  unfold lev1
  rw [trimP_pre]
  simp [trimP, lev2]
section
variable {ys : List (List Nat)} {n begun : Nat}
theorem lone_ok (h : Sz n) (A : SignsOk ys n) (hb : begun < 2 ^ n) {odd : Nat} (ho : odd < 2 ^ n) (ho2 : odd % 2 = 1) : ∃ low, LoneOk ys (dueOf ys begun (2 ^ n)) odd (Builtin.bitXor begun (odd : Int)) low := by
  have h16 := h.le
  have hod : odd < 16 := by (first | (revert h16 ho; walk_at "Z") | omega)
  have h4 : n ≤ 4 := by rcases h with rfl | rfl <;> decide
  have hbod := odd_bit odd hod ho2
  obtain ⟨low, hl, hl2, hl1⟩ : ∃ low, low < n ∧ bit ((gN odd : Nat) : Int) low ∧ ∀ k < low, ¬ bit ((gN odd : Nat) : Int) k := by
    rcases h with rfl | rfl
    · exact low_3 odd ho ho2
    · exact low_4 odd ho ho2
  have hgr : gray ((odd : Nat) : Int) = ((gN odd : Nat) : Int) := gray_16 odd hod
  have hG := isGray h ho
  have hturn : Builtin.bitXor (begun : Int) (odd : Int) = ((begun ^^^ odd : Nat) : Int) := bxor_16 begun (by (first | (revert h16 hb; walk_at "Z") | omega)) odd hod
  have hu : begun ^^^ odd < 2 ^ n := xor_sz h hb ho
  have hst : stN begun (begun ^^^ odd) = gN odd := by
    unfold stN; rw [xor_back begun (by (first | (revert h16 hb; walk_at "Z") | omega)) odd hod]
  have hgl : gN odd < 2 ^ n := gN_sz h ho
  have hp : par ((gN odd : Nat) : Int) ys.length false = true := by
    have := par_gray (n := n) hG n (Nat.le_refl _)
    rw [decide_eq_false hG.2, decide_eq_true hbod] at this
    rw [A.len]; exact this
  obtain ⟨B, hB⟩ : ∃ B, B = render (toks ys ((gN odd : Nat) : Int) ys.length) := ⟨_, rfl⟩
  have hT : textOf ys ((gN odd : Nat) : Int) = B ++ [34] := by rw [text_body, hp, hB]; rfl
  have htake : (textOf ys ((gN odd : Nat) : Int)).take ((textOf ys ((gN odd : Nat) : Int)).length - 1) = B := by rw [hT]; simp
  have hS := stripS_gray (ys := ys) hG n [] none (Nat.le_refl _) (by simpa using hG.2)
  have hO := strip_open (ys := ys) hG hl hl1 hl2 hbod n [] none hl (Nat.le_refl _) (by simpa using hG.2)
  have hleft : leftDown ys ((odd : Nat) : Int) n = leftOf ys ((odd : Nat) : Int) := by rw [leftOf_down, A.len]
  have allc : ∀ r : List Tk, (∀ y, some y ∉ r) → AllC (toks ys ((gN odd : Nat) : Int) ys.length ++ r) := by
    intro r hr y hy
    rcases List.mem_append.mp hy with hy | hy
    · exact A.closed y (toks_mem (Nat.le_refl _) hy)
    · exact absurd hy (hr y)
  have e1 : B ++ [34] ++ [34, 34] = render (toks ys ((gN odd : Nat) : Int) ys.length ++ [none, none, none]) := by
    rw [render_append, hB]; simp [render]
  have e2 : B = render (toks ys ((gN odd : Nat) : Int) ys.length ++ []) := by rw [hB]; simp
  have ac1 := allc [none, none, none] (by simp)
  have ac2 := allc [] (by simp)
  have gd := good_spelled A (by (first | (revert h4; walk_at "Z") | omega)) ((gN odd : Nat) : Int)
  have hfind : ∀ x, hget (dueOf ys begun (2 ^ n) ++ [(x, [34])]) x = if hget (dueOf ys begun (2 ^ n)) x = none then some [34] else hget (dueOf ys begun (2 ^ n)) x := by
    intro x
    unfold hget
    rw [List.find?_append]
    cases (dueOf ys begun (2 ^ n)).find? fun p => p.1.map lo1 = x.map lo1 with
    | none => simp
    | some p => simp
  refine ⟨low, ?_, ?_, ?_, ?_, ?_, ?_, ?_, ?_, ?_, ?_, ?_, ?_, ?_, ?_⟩
  · intro k hk; rw [hgr]; exact bit_zero.mpr (hl1 k hk)
  · rw [hgr]; exact fun q => bit_zero.mp q hl2
  · rw [A.len]; exact hl
  · rw [hgr]; exact (good_spelled A (by (first | (revert h4; walk_at "Z") | omega)) _ 0).ctl
  · rw [hgr]; exact (gd _).ctl
  · rw [hgr]; have := text_len A (s := ((gN odd : Nat) : Int)); rcases h with rfl | rfl <;> (first | (revert this; walk_at "Z") | omega)
  · have := leftOf_len (ys := ys) (number := gray (odd : Int)) fun y hy => by have := A.len1 y hy; (first | (revert this; walk_at "Z") | omega)
    have hl4 := A.len
    rcases h with rfl | rfl <;> (first | (revert hl4 this; walk_at "Z") | omega)
  · rw [hgr, hturn, hfind]
    have key : hget (dueOf ys begun (2 ^ n)) (spelled (textOf ys ((gN odd : Nat) : Int)) (((begun ^^^ odd : Nat) : Int) + 2)) = some (spelled (leftOf ys ((odd : Nat) : Int)) ((begun ^^^ odd : Nat) : Int)) := by
      unfold hget
      rw [due_eq h hb (Nat.le_refl _)]
      cases hf : ((List.range (2 ^ n)).map fun (t : Nat) => (spelled (textOf ys ((stN begun t : Nat) : Int)) t, spelled (leftOf ys ((begun ^^^ t : Nat) : Int)) t)).find? fun p => p.1.map lo1 = (spelled (textOf ys ((gN odd : Nat) : Int)) (((begun ^^^ odd : Nat) : Int) + 2)).map lo1 with
      | none =>
        have := List.find?_eq_none.mp hf _ (List.mem_map.mpr ⟨begun ^^^ odd, List.mem_range.mpr hu, rfl⟩)
        simp only [decide_eq_true_eq] at this
        exact absurd ((low_iff h A (by rw [hst]; exact hgl) hgl).mpr hst) this
      | some p =>
        have h1 := List.find?_some hf
        obtain ⟨t, ht, rfl⟩ := List.mem_map.mp (List.mem_of_find?_eq_some hf)
        have ht := List.mem_range.mp ht
        simp only [decide_eq_true_eq] at h1
        have h2 := (low_iff h A (st_lt h hb ht) hgl).mp h1
        have h3 : t = begun ^^^ odd := by
          have hx := xor_sz h hb ht
          have inj : ∀ a < 16, ∀ b < 16, gN a = gN b → a = b := by decide +kernel
          have := inj _ (Nat.lt_of_lt_of_le hx h16) odd hod h2
          rw [← this, xor_back begun (by (first | (revert h16 hb; walk_at "Z") | omega)) t (by (first | (revert h16 ht; walk_at "Z") | omega))]
        subst h3
        simp only [Option.map_some]
        rw [xor_back begun (by (first | (revert h16 hb; walk_at "Z") | omega)) odd hod]
    rw [key]; rfl
  · rw [hgr, htake, hturn]
    unfold hget
    rw [Option.map_eq_none_iff, List.find?_eq_none]
    have hBlo : B.map lo1 = B := by
      have := text_lo A (s := ((gN odd : Nat) : Int))
      rw [hT, List.map_append] at this
      exact List.append_inj_left this (by simp)
    have hno : ∀ (s : Nat) (i : Int), s < 2 ^ n → ¬ (spelled (textOf ys ((s : Nat) : Int)) i).map lo1 = B.map lo1 := by
      intro s i hs q
      rw [spelled_lo, text_lo A, hBlo, text_body, hB, A.len] at q
      have := toks_inj A n (Nat.le_refl _) (q.trans (List.append_nil _).symm)
      have e := same_sz h hs hgl this.1
      subst e
      rw [A.len] at hp
      rw [hp] at this
      simp at this
    intro p hp
    simp only [decide_eq_true_eq]
    rcases List.mem_append.mp hp with hp | hp
    · rw [due_eq h hb (Nat.le_refl _)] at hp
      obtain ⟨t, ht, rfl⟩ := List.mem_map.mp hp
      exact hno _ _ (st_lt h hb (List.mem_range.mp ht))
    · simp only [List.mem_singleton] at hp
      subst hp
      exact hno _ _ hgl
  · rw [hgr, htake, hT]; exact lev_last _ _ _
  · rw [hgr, hT, e1]; exact render_end ac1
  · rw [hgr, hT, e1, strip_render ac1, stripT_append, A.len]
    obtain ⟨p, hp⟩ := Option.isSome_iff_exists.mp (hS.2.mpr hbod)
    rw [hp, hS.1]
    simp [stripT, hleft]
  · rw [hgr, htake]; have := render_end ac2; rw [← e2] at this; exact this
  · rw [hgr, htake]
    have hstr := strip_render ac2
    rw [← e2, stripT_append, A.len, hS.1, hO] at hstr
    rw [hstr]
    simp [stripT, hleft]
end

-- q9
-- part 9: the plain law
theorem law_plain : ∀ (size : Nat) pss, (size = 3 ∨ size = 4) → PieceOk size pss → ∀ begun < 2 ^ size, ∀ c3 : Int, ∃ ls, LawOk size pss ls begun c3 := by
  intro n pss hz P begun hb c3
  obtain ⟨ls, f, mid, tl, hn, hnd, hr, hf, hm, ht, hpss⟩ := P.out
  have h4 : n ≤ 4 := by (first | (revert hz; walk_at "Z") | omega)
  have hS : Sz n := hz
  have hp : pss = (List.range n).map (pc ls f mid tl) := by rw [hpss, pss_pc, hn]
  have A : SignsOk (pss.map List.flatten) n := by rw [hp]; exact signs_ok hn h4 hr hm ht
  have hget : ∀ k, k < n → pss.getD k [] = pc ls f mid tl k := by
    intro k hk
    rw [hp, List.getD_eq_getElem?_getD, List.getElem?_map, List.getElem?_range hk]; rfl
  refine ⟨ls, ?_, ?_, ?_, ?_, ?_, ?_, ?_, ?_, ?_, ?_, ?_⟩
  · intro y hy
    exact ⟨by have := A.len1 y hy; (first | (revert this; walk_at "Z") | omega), A.asc y hy⟩
  · intro s i; exact good_spelled A (by (first | (revert h4; walk_at "Z") | omega)) s i
  · exact way_all hS A hb
  · have := reads_all hn h4 hr hm ht (begun := (begun : Int)) hp (List.range (2 ^ n))
    have e : (dueOf (pss.map List.flatten) begun (2 ^ n)).map (·.2) = (List.range (2 ^ n)).map fun (t : Nat) => spelled (leftOf (pss.map List.flatten) (Builtin.bitXor (begun : Int) (t : Int))) t := by
      unfold dueOf; rw [List.map_map]; rfl
    rw [e]; exact this
  · intro p hpm
    rw [hp] at hpm
    obtain ⟨k, hk, rfl⟩ := List.mem_map.mp hpm
    have hk := List.mem_range.mp hk
    refine ⟨by simp [pc], fun q hq => ?_⟩
    have h1 := hr _ (ls_get (ls := ls) (k := k) (by (first | (revert hk hn; walk_at "Z") | omega)))
    have h2 := figD_mem (k := k) (by (first | (revert h4 hk; walk_at "Z") | omega))
    have h3 := mid_len hm
    have h5 := tail_len ht
    simp only [pc, List.mem_cons, List.not_mem_nil, or_false] at hq
    rcases hq with rfl | rfl | rfl | rfl
    · exact ⟨fun d hd => by simp only [List.mem_singleton] at hd; (first | (revert h1 hd; walk_at "Z") | omega), by simp⟩
    · split
      · exact ⟨fun d hd => by have := mid_mem hm hd; (first | (revert this; walk_at "Z") | omega), by (first | (revert h3; walk_at "Z") | omega)⟩
      · exact ⟨fun d hd => (by cases hd), by simp⟩
    · exact ⟨fun d hd => by simp only [List.mem_singleton] at hd; (first | (revert h2 hd; walk_at "Z") | omega), by simp⟩
    · split
      · exact ⟨fun d hd => by have := tail_mem ht hd; (first | (revert this; walk_at "Z") | omega), by (first | (revert h5; walk_at "Z") | omega)⟩
      · exact ⟨fun d hd => (by cases hd), by simp⟩
  · intro k hk
    rw [hget k hk]
    exact ⟨rfl, rfl, rfl⟩
  · exact ⟨hn, hr⟩
  · intro j hj d hd i hi r hr3
    have e1 : d + 2 ^ j + i * 2 ^ j = (d + i * 2 ^ j) + 2 ^ j := by (first | walk_at "Z" | omega)
    rw [e1] at hi ⊢
    exact turns_ok hS hn hnd hr hb hj hi hr3
  · exact plain_ok hS hn hnd hr
  · exact figs_ok hS hn hnd hr
  · intro odd ho ho2
    exact lone_ok hS A hb ho ho2

-- t1
def top.tw16541100652227675460 : Unit := ()
def top.tw7740461459972228597 : Unit := ()
def top.tw13134186033006778460 : Unit := ()
def top.tw1395022009800014599 : Unit := ()
def top.tw5566148730861357759 : Unit := ()
def top.tw18064794426631996164 : Unit := ()
def top.tw6156568016551699631 : Unit := ()
def top.tw5187335452993679001 : Unit := ()
def top.tw15894591892691063009 : Unit := ()
def top.tw13590904457321055897 : Unit := ()
def top.tw11071450960392396080 : Unit := ()
def top.tw14436450140739016385 : Unit := ()
def top.tw14399976873020721970 : Unit := ()
def top.tw15918733279669447828 : Unit := ()
def top.tw4755264550707404760 : Unit := ()
def top.tw14347721165454393637 : Unit := ()
def top.tw17177869089781658578 : Unit := ()
def top.tw13120753694373217308 : Unit := ()
def top.tw7444641836354208208 : Unit := ()
def top.tw1638113669730673903 : Unit := ()
def top.tw146815374380898660 : Unit := ()
def top.tw8237333600419904120 : Unit := ()
def top.tw649594095290182367 : Unit := ()
def top.tw18371284783138465269 : Unit := ()
def top.tw9059832203979395877 : Unit := ()
def top.tw1139600151236580504 : Unit := ()
def top.tw4299629679881509495 : Unit := ()
def top.tw11199532085631943738 : Unit := ()
def top.tw8140125068956082859 : Unit := ()
def top.tw5868845118606482295 : Unit := ()
def top.tw9166809390415177425 : Unit := ()
def top.tw4498253355057717688 : Unit := ()
def top.tw12772138429114895339 : Unit := ()
def top.tw9951221954081769418 : Unit := ()
def top.tw6187478851450931391 : Unit := ()
def top.tw2731995056826638727 : Unit := ()
def top.tw13365172418744591121 : Unit := ()
def top.tw2782073688633401757 : Unit := ()
def top.tw4940147422707163885 : Unit := ()
def top.tw3844969445664438809 : Unit := ()
def top.tw3584897518013459382 : Unit := ()
def top.tw8813761850579938390 : Unit := ()
def top.tw6127594578889010139 : Unit := ()
def top.tw15878805988109762761 : Unit := ()
def top.tw6898770573198911631 : Unit := ()
def top.tw16325430554902658873 : Unit := ()
def top.tw1869187583165140508 : Unit := ()
def top.tw1068965626710143233 : Unit := ()
def top.tw15985961358823992270 : Unit := ()
def top.tw5604026686304666287 : Unit := ()
def top.tw10187264123177260123 : Unit := ()
def top.tw15269079648320921891 : Unit := ()
def top.tw14168018189251442112 : Unit := ()
def top.tw8107780213005350392 : Unit := ()
def top.tw16623803187960699014 : Unit := ()
def top.tw2847958352784047137 : Unit := ()
def top.tw381845443943030031 : Unit := ()
def top.tw18237780215024852062 : Unit := ()
def top.tw10008474027749305400 : Unit := ()
def top.tw8265191368974092141 : Unit := ()
def top.tw6491118196486620199 : Unit := ()
def top.tw8139039716903228087 : Unit := ()
def top.tw1601500998369573665 : Unit := ()
def top.tw12091386354396535429 : Unit := ()
def top.tw956942650209027819 : Unit := ()
def top.tw821533727693411082 : Unit := ()
def top.tw8025738503920905074 : Unit := ()
def top.tw6885214360128481674 : Unit := ()
def top.tw9366391650621772374 : Unit := ()
def top.tw1275901062530889299 : Unit := ()
def top.tw15031138425609360761 : Unit := ()
def top.tw6859976401760118174 : Unit := ()
def top.tw12392516345856041104 : Unit := ()
def top.tw728428047077509346 : Unit := ()
def top.tw18177719399980262173 : Unit := ()
def top.tw9059672392935016618 : Unit := ()
def top.tw139804737962012590 : Unit := ()
def top.tw16697727666111924624 : Unit := ()
def top.tw2835187731363253809 : Unit := ()
def top.tw3776753064480771068 : Unit := ()
def top.tw14987219478266130788 : Unit := ()
def top.tw7940733183261202717 : Unit := ()
def top.tw2464713573024523455 : Unit := ()
def top.tw8679839319945467846 : Unit := ()
def top.tw12622177474791663080 : Unit := ()
def top.tw2617719716777270872 : Unit := ()
def top.tw12535971307161669396 : Unit := ()
def top.tw11582926029173025856 : Unit := ()
def top.tw8694864300669457046 : Unit := ()
def top.tw6883741973766446791 : Unit := ()
def top.tw15169761463676818070 : Unit := ()
def top.tw8143265674769528471 : Unit := ()
def top.tw10915162052029792233 : Unit := ()
def top.tw2220570432770164149 : Unit := ()
def top.tw15095372191486117680 : Unit := ()
def top.tw8410488445778877200 : Unit := ()
def top.tw17886615442053742456 : Unit := ()
def top.tw5766051744304087583 : Unit := ()
def top.tw17315540178315561739 : Unit := ()
def top.tw16795567611416646642 : Unit := ()
def top.tw5581607755468803823 : Unit := ()
def top.tw17277593502163590643 : Unit := ()
def top.tw7673058066778466091 : Unit := ()
def top.tw14826035006057030972 : Unit := ()
def top.tw501154541418245514 : Unit := ()
def top.tw12643491718579748851 : Unit := ()
def top.tw2741389259953327712 : Unit := ()
def top.tw16800595933775061595 : Unit := ()
def top.tw6749217079512962374 : Unit := ()
def top.tw8148004212497801138 : Unit := ()
def top.tw18186074749648716422 : Unit := ()
def top.tw9503340733035011235 : Unit := ()
def top.tw11762496359356365647 : Unit := ()
def top.tw5523086135645875356 : Unit := ()
def top.tw4671429814451907529 : Unit := ()
def top.tw12385144161495827662 : Unit := ()
def top.tw7855079511596107753 : Unit := ()
def top.tw9759319705405543751 : Unit := ()
def top.tw16058212318047004132 : Unit := ()
def top.tw14372152842798730730 : Unit := ()
def top.tw3855276242980373810 : Unit := ()
def top.tw9233335307524088747 : Unit := ()
def top.tw11922380849998532372 : Unit := ()
def top.tw9589608677651300831 : Unit := ()
def top.tw16840627104734473223 : Unit := ()
def top.tw4166218997396506358 : Unit := ()
def top.tw1421504965699865390 : Unit := ()
def top.tw6438537300738474071 : Unit := ()
def top.tw9800703332001039478 : Unit := ()
def top.tw1124271682379634556 : Unit := ()
def top.tw16174758807025615021 : Unit := ()
def top.tw17469865338272021226 : Unit := ()
def top.tw8523463495250067690 : Unit := ()
def top.tw9843447840031818808 : Unit := ()
def top.tw775762912060472103 : Unit := ()
def top.tw12342655685612074800 : Unit := ()
def top.tw13889484949932952446 : Unit := ()
def top.tw1088946173253831356 : Unit := ()
def top.tw8472579005086612782 : Unit := ()
def top.tw8507776931139520737 : Unit := ()
def top.tw12787338502077490372 : Unit := ()
def top.tw8729362747519067210 : Unit := ()
def top.tw5889316905344633881 : Unit := ()
set_option maxRecDepth 100000 in
set_option maxHeartbeats 8000000 in
set_option Elab.async true in
theorem top : PySem.Challenge.rw_wn0116_01.Holds := by
  w_on
  o_law
  k_head
  (case hw => w_witness2)
  intro w s0 s1 mg mb G Y fa o pm cd doc dV kV ho hd' hcd hD hmg hg args vals as hpre hlay hrd hwl hlo
  have KX : (kk.heap_1 w.params).In s1.heap := kIn_of Y
  refine Ground.open G ?_
  intro T B D TE TW
  have e1 : mg (Str.ofString "law") = some (.ref 283) := mg_of (K := kk.heap_1 w.params) KX T.g (by rfl)
  have e2 : fa = 283 := Value.ref.inj (Option.some.inj (hmg.symm.trans e1))
  clear e1 hmg hd' hcd hD ho
  subst e2
  wrow_args hpre hlay hrd hwl hlo
  rename_i ns _ _ _ _ _ _ _ l vs _ hL ra _ _ hI _ hc _
  refine enter_call (codeAny_mono (f_law (γ := ⟨_, _, w, ExcName.means s0.heap, mg, mb⟩) law_plain KX T hL hI (by omega)) ?_)
  rintro r s' ⟨rfl, hR, hk⟩
  exact ⟨.inl ⟨.bool true, .bool true, [], rfl, fun _ => rfl, .bool _, postW_of (by wrow_shape) (by wtm_val) (by w_fin), fun _ => ⟨.nil, fun a ha => nomatch ha⟩⟩, .of_keep hk, hR.os, hR.bare (.of_eq hg)⟩

end Mine
theorem PySem.Challenge.cw_wn0116_01_holds : PySem.Challenge.rw_wn0116_01.Holds := by
  exact Mine.top
