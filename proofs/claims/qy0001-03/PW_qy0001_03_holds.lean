import PyProof.Rows.All
import Wide.All
import OpenK.AllK
import Wide.FinOn
import Lean
import PySem.Challenge.RW_qy0001_03
-- text A1
section
open PySem PySem.W PyProof.Rows
set_option Elab.async false
set_option linter.unusedVariables false
set_option maxRecDepth 100000
namespace Mine

abbrev NoE : Value → Shared → Prop := fun _ _ => False

/-- every object that stood stands as it was -/
def Kp (h h' : Heap) : Prop := ∀ b o, h.get? b = some o → h'.get? b = some o
theorem Kp.refl (h : Heap) : Kp h h := fun _ _ e => e
theorem Kp.trans {a b c : Heap} (x : Kp a b) (y : Kp b c) : Kp a c := fun p o e => y p o (x p o e)
theorem keeps_refl (s : Shared) : Keeps s s := ⟨s.heap, s.toks, rfl, fun _ _ e => e⟩
theorem keeps_trans {a b c : Shared} (x : Keeps a b) (y : Keeps b c) : Keeps a c := by
  obtain ⟨h, t, rfl, k⟩ := x
  obtain ⟨h', t', rfl, k'⟩ := y
  exact ⟨h', t', rfl, fun p o e => k' p o (k p o e)⟩
theorem Keeps.kp {a b : Shared} (x : Keeps a b) : Kp a.heap b.heap := by
  obtain ⟨h, t, rfl, k⟩ := x; exact k
theorem keeps_toks (s : Shared) (k : Nat) : Keeps s { s with toks := k } := ⟨s.heap, k, rfl, fun _ _ e => e⟩
theorem keeps_push (s : Shared) (o : Obj) (k : Nat) : Keeps s { s with heap := s.heap.push o, toks := k } := ⟨_, k, rfl, fun _ _ e => Heap.get?_push_of_some _ e⟩
theorem keeps_kp {s : Shared} {h : Heap} {k : Nat} (x : Kp s.heap h) : Keeps s { s with heap := h, toks := k } := ⟨h, k, rfl, x⟩

/-- one name of a namespace -/
def Var (h : Heap) (L : Addr) (x : Str) (v : Value) : Prop := ∃ m, h.Ns L m ∧ m x = some v
theorem Var.at {h h' : Heap} {L : Addr} {x : Str} {v : Value} (a : Var h L x v) (k : ∀ o, h.get? L = some o → h'.get? L = some o) : Var h' L x v := by
  obtain ⟨m, n, e⟩ := a; exact ⟨m, n.at' k, e⟩
theorem Var.kp {h h' : Heap} {L : Addr} {x : Str} {v : Value} (a : Var h L x v) (k : Kp h h') : Var h' L x v := a.at fun o e => k L o e
theorem ns_fun {h : Heap} {L : Addr} {m m' : Str → Option Value} (a : h.Ns L m) (b : h.Ns L m') : m = m' := by
  obtain ⟨o, es, ep, ho, hd, _, hf⟩ := a
  obtain ⟨o', es', ep', ho', hd', _, hf'⟩ := b
  rw [ho] at ho'; cases ho'; rw [hd] at hd'; cases hd'
  funext x; rw [← hf, ← hf']
theorem Var.eq {h : Heap} {L : Addr} {x : Str} {v : Value} {m : Str → Option Value} (a : Var h L x v) (n : h.Ns L m) : m x = some v := by
  obtain ⟨m', n', e⟩ := a; rw [ns_fun n n']; exact e

section
variable {prog : Program} {w : World} {A : Around} {env : Env} {s₀ : Shared}

/-- from any state that keeps s₀, e gives a value with P, and keeps the heap -/
def Ev (prog : Program) (w : World) (A : Around) (env : Env) (s₀ : Shared) (e : Expr) (P : Value → Heap → Prop) : Prop :=
  ∀ s, Keeps s₀ s → wpAny (model prog w) A (eval e env) (fun v s' => P v s'.heap ∧ Keeps s s') NoE s
/-- a tree likewise -/
def Tr {α : Type} (prog : Program) (w : World) (A : Around) (s₀ : Shared) (t : Sem α) (P : α → Heap → Prop) : Prop :=
  ∀ s, Keeps s₀ s → wpAny (model prog w) A t (fun v s' => P v s'.heap ∧ Keeps s s') NoE s
/-- a test -/
def Ts (prog : Program) (w : World) (A : Around) (env : Env) (s₀ : Shared) (e : Expr) (b : Bool) : Prop :=
  ∀ s, Keeps s₀ s → wpAny (model prog w) A (isTrue e env (eval e env)) (fun v s' => v = b ∧ Keeps s s') NoE s

abbrev isI (n : Int) : Value → Heap → Prop := fun v _ => ∃ t, v = .int n t
abbrev isS (x : Str) : Value → Heap → Prop := fun v _ => ∃ t, v = .str x t
abbrev isB (b : Bool) : Value → Heap → Prop := fun v _ => v = .bool b
abbrev isV (u : Value) : Value → Heap → Prop := fun v _ => v = u

theorem Ev.mono {e : Expr} {P P' : Value → Heap → Prop} (h : Ev prog w A env s₀ e P) (k : ∀ v h, Kp s₀.heap h → P v h → P' v h) : Ev prog w A env s₀ e P' :=
  fun s hs => wpAny_mono (h s hs) (fun v s' hv => ⟨k v _ (Keeps.kp (keeps_trans hs hv.2)) hv.1, hv.2⟩) fun _ _ x => x
theorem Ev.at {e : Expr} {P : Value → Heap → Prop} {s₁ : Shared} (h : Ev prog w A env s₀ e P) (k : Keeps s₀ s₁) : Ev prog w A env s₁ e P := fun s hs => h s (keeps_trans k hs)
/-- use -/
theorem Ev.use {e : Expr} {P : Value → Heap → Prop} {Q : Value → Shared → Prop} {E : Value → Shared → Prop} {s : Shared} (h : Ev prog w A env s e P)
    (k : ∀ v h' tk, P v h' → Kp s.heap h' → Q v { s with heap := h', toks := tk }) : wpAny (model prog w) A (eval e env) Q E s :=
  wpAny_mono (h s (keeps_refl s)) (fun v s' hv => by obtain ⟨hp, h', tk, rfl, hk⟩ := hv; exact k v h' tk hp hk) fun _ _ x => x.elim
theorem Ts.use {e : Expr} {b : Bool} {Q : Bool → Shared → Prop} {E : Value → Shared → Prop} {s : Shared} (h : Ts prog w A env s e b)
    (k : ∀ h' tk, Kp s.heap h' → Q b { s with heap := h', toks := tk }) : wpAny (model prog w) A (isTrue e env (eval e env)) Q E s :=
  wpAny_mono (h s (keeps_refl s)) (fun v s' hv => by obtain ⟨rfl, h', tk, rfl, hk⟩ := hv; exact k h' tk hk) fun _ _ x => x.elim

theorem kp_ns {s s₀ : Shared} (hs : Keeps s₀ s) {L : Addr} {x : Str} {v : Value} (a : Var s₀.heap L x v) : ∃ m, s.heap.Ns L m ∧ m x = some v := Var.kp a (Keeps.kp hs)

theorem ev_local {x : Str} {pos : Pos} {v : Value} (hv : Var s₀.heap env.locals x v) (hk : env.scope.kind = .function := by rfl) (hl : env.kindOf x = some .local := by rfl)
    (hd : (x == ("__debug__" : Str)) = false := by decide) : Ev prog w A env s₀ (.Name x pos) (isV v) := fun s hs => by
  obtain ⟨m, hn, e⟩ := kp_ns hs hv
  exact wpAny_Name (wpAny_loadName_local hk hl hn e ⟨rfl, keeps_refl s⟩) hd
theorem ev_cell {x : Str} {pos : Pos} {c : Addr} {v : Value} (hc : env.cells.lookup x = some c) (hv : s₀.heap.IsCell c (some v)) (hk : env.scope.kind = .function := by rfl) (hl : env.kindOf x = some .cell := by rfl)
    (hd : (x == ("__debug__" : Str)) = false := by decide) : Ev prog w A env s₀ (.Name x pos) (isV v) := fun s hs =>
  wpAny_Name (wpAny_loadName_cell hk hl hc (hv.keeps (Keeps.kp hs)) ⟨rfl, keeps_refl s⟩) hd
theorem ev_free {x : Str} {pos : Pos} {c : Addr} {v : Value} (hc : env.cells.lookup x = some c) (hv : s₀.heap.IsCell c (some v)) (hk : env.scope.kind = .function := by rfl) (hl : env.kindOf x = some .free := by rfl)
    (hd : (x == ("__debug__" : Str)) = false := by decide) (hn : (x == ("__classdict__" : Str)) = false := by decide) : Ev prog w A env s₀ (.Name x pos) (isV v) := fun s hs =>
  wpAny_Name (wpAny_loadName_free hk hl hc (hv.keeps (Keeps.kp hs)) ⟨rfl, keeps_refl s⟩ hn) hd
theorem ev_global {x : Str} {pos : Pos} {v : Value} (hv : Var s₀.heap env.globals x v) (hk : env.scope.kind = .function := by rfl) (hl : env.kindOf x = some .globalImplicit := by rfl)
    (hd : (x == ("__debug__" : Str)) = false := by decide) : Ev prog w A env s₀ (.Name x pos) (isV v) := fun s hs => by
  obtain ⟨m, hn, e⟩ := kp_ns hs hv
  exact Calls.Name_function_global hk hl (Calls.loadGlobal_global hn e ⟨rfl, keeps_refl s⟩) hd
/-- a name that the globals do not bind and the built-ins do -/
structure Bi (h : Heap) (env : Env) (x : Str) (v : Value) : Prop where
  g : ∃ m, h.Ns env.globals m ∧ m x = none
  b : Var h env.builtins x v
theorem ev_builtin {x : Str} {pos : Pos} {v : Value} (hv : Bi s₀.heap env x v) (hk : env.scope.kind = .function := by rfl) (hl : env.kindOf x = some .globalImplicit := by rfl)
    (hd : (x == ("__debug__" : Str)) = false := by decide) : Ev prog w A env s₀ (.Name x pos) (isV v) := fun s hs => by
  obtain ⟨m, hn, e⟩ := hv.g
  obtain ⟨m', hn', e'⟩ := kp_ns hs hv.b
  exact Calls.Name_function_global hk hl (Calls.loadGlobal_builtin (hn.keeps (Keeps.kp hs)) e hn' e' ⟨rfl, keeps_refl s⟩) hd

theorem ev_int {i : Int} {k : Nat} {pos : Pos} : Ev prog w A env s₀ (.Constant (.int i) k pos) (isI i) := fun s _ => wpAny_Constant_int ⟨⟨_, rfl⟩, keeps_toks s _⟩
theorem ev_str {x : Str} {k : Nat} {pos : Pos} : Ev prog w A env s₀ (.Constant (.str x) k pos) (isS x) := fun s _ => wpAny_Constant_str ⟨⟨_, rfl⟩, keeps_toks s _⟩
theorem ev_bool {b : Bool} {k : Nat} {pos : Pos} : Ev prog w A env s₀ (.Constant (.bool b) k pos) (isV (.bool b)) := fun s _ => wpAny_Constant_bool ⟨rfl, keeps_refl s⟩
theorem ev_none {k : Nat} {pos : Pos} : Ev prog w A env s₀ (.Constant .none k pos) (isV .none) := fun s _ => wpAny_Constant_none ⟨rfl, keeps_refl s⟩

theorem ev_i {e : Expr} {n : Int} {t : Tok} (h : Ev prog w A env s₀ e (isV (.int n t))) : Ev prog w A env s₀ e (isI n) := h.mono fun _ _ _ q => ⟨t, q⟩
theorem ev_s {e : Expr} {x : Str} {t : Tok} (h : Ev prog w A env s₀ e (isV (.str x t))) : Ev prog w A env s₀ e (isS x) := h.mono fun _ _ _ q => ⟨t, q⟩

theorem ev_bin {l r : Expr} {op : Operator} {pos : Pos} {P R S : Value → Heap → Prop} (hl : Ev prog w A env s₀ l P) (hr : Ev prog w A env s₀ r R)
    (k : ∀ a b h₁ h₂, P a h₁ → Kp s₀.heap h₁ → Kp h₁ h₂ → R b h₂ → ∀ s, s.heap = h₂ → Keeps s₀ s → wpAny (model prog w) A (binaryOp op a b) (fun v s' => S v s'.heap ∧ Keeps s s') NoE s) :
    Ev prog w A env s₀ (.BinOp l op r pos) S := fun s hs => by
  refine wpAny_BinOp (wpAny_mono (hl s hs) (fun a s₁ h₁ => wpAny_mono (hr s₁ (keeps_trans hs h₁.2)) (fun b s₂ h₂ => ?_) fun _ _ x => x) fun _ _ x => x)
  exact wpAny_mono (k a b _ _ h₁.1 (Keeps.kp (keeps_trans hs h₁.2)) (Keeps.kp h₂.2) h₂.1 s₂ rfl (keeps_trans (keeps_trans hs h₁.2) h₂.2)) (fun v s₃ h₃ => ⟨h₃.1, keeps_trans (keeps_trans h₁.2 h₂.2) h₃.2⟩) fun _ _ x => x

theorem ev_add {l r : Expr} {pos : Pos} {a b : Int} (hl : Ev prog w A env s₀ l (isI a)) (hr : Ev prog w A env s₀ r (isI b)) : Ev prog w A env s₀ (.BinOp l .Add r pos) (isI (a + b)) :=
  ev_bin hl hr fun _ _ _ _ ⟨_, h1⟩ _ _ ⟨_, h2⟩ s _ _ => by subst h1 h2; exact add_int ⟨⟨_, rfl⟩, keeps_toks s _⟩
theorem ev_sub {l r : Expr} {pos : Pos} {a b : Int} (hl : Ev prog w A env s₀ l (isI a)) (hr : Ev prog w A env s₀ r (isI b)) : Ev prog w A env s₀ (.BinOp l .Sub r pos) (isI (a - b)) :=
  ev_bin hl hr fun _ _ _ _ ⟨_, h1⟩ _ _ ⟨_, h2⟩ s _ _ => by subst h1 h2; exact sub_int ⟨⟨_, rfl⟩, keeps_toks s _⟩
theorem ev_mod {l r : Expr} {pos : Pos} {a b : Int} (hl : Ev prog w A env s₀ l (isI a)) (hr : Ev prog w A env s₀ r (isI b)) (hb : b ≠ 0) : Ev prog w A env s₀ (.BinOp l .Mod r pos) (isI (a.fmod b)) :=
  ev_bin hl hr fun _ _ _ _ ⟨_, h1⟩ _ _ ⟨_, h2⟩ s _ _ => by subst h1 h2; exact mod_int hb ⟨⟨_, rfl⟩, keeps_toks s _⟩
theorem ev_div {l r : Expr} {pos : Pos} {a b : Int} (hl : Ev prog w A env s₀ l (isI a)) (hr : Ev prog w A env s₀ r (isI b)) (hb : b ≠ 0) (hp : Builtin.divisionGoesByPylong a b = false) : Ev prog w A env s₀ (.BinOp l .FloorDiv r pos) (isI (a.fdiv b)) :=
  ev_bin hl hr fun _ _ _ _ ⟨_, h1⟩ _ _ ⟨_, h2⟩ s _ _ => by subst h1 h2; exact floordiv_int hb ⟨⟨_, rfl⟩, keeps_toks s _⟩ (.inl hp)
theorem ev_cat {l r : Expr} {pos : Pos} {a b : Str} (hl : Ev prog w A env s₀ l (isS a)) (hr : Ev prog w A env s₀ r (isS b)) (hz : a.length + b.length ≤ sizeLine) : Ev prog w A env s₀ (.BinOp l .Add r pos) (isS (a ++ b)) :=
  ev_bin hl hr fun _ _ _ _ ⟨_, h1⟩ _ _ ⟨_, h2⟩ s _ _ => by subst h1 h2; exact add_str (fun _ _ => ⟨⟨_, rfl⟩, keeps_toks s _⟩) hz

theorem ev_cmp {l r : Expr} {op : CmpOp} {pos : Pos} {P R S : Value → Heap → Prop} (hl : Ev prog w A env s₀ l P) (hr : Ev prog w A env s₀ r R)
    (k : ∀ a b h₁ h₂, P a h₁ → Kp s₀.heap h₁ → Kp h₁ h₂ → R b h₂ → ∀ s, s.heap = h₂ → Keeps s₀ s → wpAny (model prog w) A (compareOp op a b) (fun v s' => S v s'.heap ∧ Keeps s s') NoE s)
    (hm : behindInMarks op r = false := by with_unfolding_all rfl) :
    Ev prog w A env s₀ (.Compare l [op] [r] pos) S := fun s hs => by
  refine wpAny_Compare1 (wpAny_mono (hl s hs) (fun a s₁ h₁ => wpAny_mono (hr s₁ (keeps_trans hs h₁.2)) (fun b s₂ h₂ => ?_) fun _ _ x => x) fun _ _ x => x) hm
  exact wpAny_mono (k a b _ _ h₁.1 (Keeps.kp (keeps_trans hs h₁.2)) (Keeps.kp h₂.2) h₂.1 s₂ rfl (keeps_trans (keeps_trans hs h₁.2) h₂.2)) (fun v s₃ h₃ => ⟨h₃.1, keeps_trans (keeps_trans h₁.2 h₂.2) h₃.2⟩) fun _ _ x => x
theorem ts_cmp {l r : Expr} {op : CmpOp} {pos : Pos} {P R : Value → Heap → Prop} {c : Bool} (hl : Ev prog w A env s₀ l P) (hr : Ev prog w A env s₀ r R)
    (k : ∀ a b h₁ h₂, P a h₁ → Kp s₀.heap h₁ → Kp h₁ h₂ → R b h₂ → ∀ s, s.heap = h₂ → Keeps s₀ s → wpAny (model prog w) A (compareOp op a b) (fun v s' => isB c v s'.heap ∧ Keeps s s') NoE s)
    (hm : behindInMarks op r = false := by with_unfolding_all rfl) :
    Ts prog w A env s₀ (.Compare l [op] [r] pos) c := fun s hs => by
  refine wpAny_isTrue_Compare1 (wpAny_mono (hl s hs) (fun a s₁ h₁ => wpAny_mono (hr s₁ (keeps_trans hs h₁.2)) (fun b s₂ h₂ => ?_) fun _ _ x => x) fun _ _ x => x) hm
  refine wpAny_mono (k a b _ _ h₁.1 (Keeps.kp (keeps_trans hs h₁.2)) (Keeps.kp h₂.2) h₂.1 s₂ rfl (keeps_trans (keeps_trans hs h₁.2) h₂.2)) (fun v s₃ h₃ => ?_) fun _ _ x => x
  obtain ⟨h3, h3'⟩ := h₃
  subst h3
  exact wpAny_truthy_bool ⟨rfl, keeps_trans (keeps_trans h₁.2 h₂.2) h3'⟩

/-- what a comparison of two values says, whatever their tokens -/
def CmpIs (prog : Program) (w : World) (A : Around) (op : CmpOp) (P R : Value → Heap → Prop) (c : Bool) (s₀ : Shared) : Prop :=
  ∀ a b h₁ h₂, P a h₁ → Kp s₀.heap h₁ → Kp h₁ h₂ → R b h₂ → ∀ s, s.heap = h₂ → Keeps s₀ s → wpAny (model prog w) A (compareOp op a b) (fun v s' => isB c v s'.heap ∧ Keeps s s') NoE s
theorem ci_lt {a b : Int} : CmpIs prog w A .Lt (isI a) (isI b) (decide (a < b)) s₀ := fun _ _ _ _ ⟨_, h1⟩ _ _ ⟨_, h2⟩ s _ _ => by subst h1 h2; exact lt_int ⟨rfl, keeps_refl s⟩
theorem ci_le {a b : Int} : CmpIs prog w A .LtE (isI a) (isI b) (decide (a ≤ b)) s₀ := fun _ _ _ _ ⟨_, h1⟩ _ _ ⟨_, h2⟩ s _ _ => by subst h1 h2; exact le_int ⟨rfl, keeps_refl s⟩
theorem ci_gt {a b : Int} : CmpIs prog w A .Gt (isI a) (isI b) (decide (b < a)) s₀ := fun _ _ _ _ ⟨_, h1⟩ _ _ ⟨_, h2⟩ s _ _ => by subst h1 h2; exact gt_int ⟨rfl, keeps_refl s⟩
theorem ci_eq {a b : Int} : CmpIs prog w A .Eq (isI a) (isI b) (a == b) s₀ := fun _ _ _ _ ⟨_, h1⟩ _ _ ⟨_, h2⟩ s _ _ => by subst h1 h2; exact eq_int ⟨rfl, keeps_refl s⟩
theorem ci_ne {a b : Int} : CmpIs prog w A .NotEq (isI a) (isI b) (a != b) s₀ := fun _ _ _ _ ⟨_, h1⟩ _ _ ⟨_, h2⟩ s _ _ => by subst h1 h2; exact ne_int ⟨rfl, keeps_refl s⟩
theorem ci_eqs {a b : Str} : CmpIs prog w A .Eq (isS a) (isS b) (a == b) s₀ := fun _ _ _ _ ⟨_, h1⟩ _ _ ⟨_, h2⟩ s _ _ => by subst h1 h2; exact eq_str ⟨rfl, keeps_refl s⟩
theorem ci_lts {a b : Str} : CmpIs prog w A .Lt (isS a) (isS b) (decide (a.cps.toList < b.cps.toList)) s₀ := fun _ _ _ _ ⟨_, h1⟩ _ _ ⟨_, h2⟩ s _ _ => by subst h1 h2; exact lt_str ⟨rfl, keeps_refl s⟩
theorem ci_isnone {v : Value} : CmpIs prog w A .Is (isV v) (isV .none) (v == .none) s₀ := fun _ _ _ _ h1 _ _ h2 s _ _ => by subst h1 h2; exact is_none_gen ⟨rfl, keeps_refl s⟩
theorem ci_isnotnone {v : Value} : CmpIs prog w A .IsNot (isV v) (isV .none) (!(v == .none)) s₀ := fun _ _ _ _ h1 _ _ h2 s _ _ => by subst h1 h2; exact isnot_none_gen ⟨rfl, keeps_refl s⟩
end
end Mine
end
-- text A2
section
open PySem PySem.W PyProof.Rows
set_option Elab.async false
set_option linter.unusedVariables false
set_option maxRecDepth 100000
namespace Mine
section
variable {prog : Program} {w : World} {A : Around} {env : Env} {s₀ : Shared}

def EvPart (prog : Program) (w : World) (A : Around) (env : Env) (s₀ : Shared) : Option Expr → Option Int → Prop
  | none, none => True
  | some e, some n => Ev prog w A env s₀ e (isI n)
  | _, _ => False
abbrev isSl (l u : Option Int) : Value → Heap → Prop := fun v h => ∃ a lt ut, v = .ref a ∧ h.IsSlice a lt ut none ∧ lt.map (·.1) = l ∧ ut.map (·.1) = u

theorem evPart {e : Option Expr} {r : Option Int} (h : EvPart prog w A env s₀ e r) (s : Shared) (hs : Keeps s₀ s) :
    wpAny (model prog w) A (evalPart e env) (fun v s' => (∃ p : Option (Int × Tok), v = partValue p ∧ p.map (·.1) = r) ∧ Keeps s s') NoE s := by
  cases e with
  | none =>
    cases r with
    | none => exact evalPart_none_step ⟨⟨none, rfl, rfl⟩, keeps_refl s⟩
    | some n => exact h.elim
  | some e =>
    cases r with
    | none => exact h.elim
    | some n =>
      refine evalPart_some_step (wpAny_mono (h s hs) (fun v s' hv => ⟨?_, hv.2⟩) fun _ _ x => x)
      obtain ⟨⟨t, rfl⟩, _⟩ := hv
      exact ⟨some (n, t), rfl, rfl⟩

theorem ev_slice {lo up : Option Expr} {p : Pos} {l u : Option Int} (hl : EvPart prog w A env s₀ lo l) (hu : EvPart prog w A env s₀ up u) :
    Ev prog w A env s₀ (.Slice lo up none p) (isSl l u) := fun s hs => by
  refine wpAny_Slice (wpAny_mono (evPart hl s hs) (fun vl s₁ h₁ => wpAny_mono (evPart hu s₁ (keeps_trans hs h₁.2)) (fun vu s₂ h₂ => evalPart_none_step ?_) fun _ _ x => x) fun _ _ x => x)
  obtain ⟨⟨pl, rfl, el⟩, k1⟩ := h₁
  obtain ⟨⟨pu, rfl, eu⟩, k2⟩ := h₂
  exact ⟨⟨_, pl, pu, rfl, ⟨_, Heap.get?_push_size _ rfl, rfl, rfl⟩, el, eu⟩, keeps_trans (keeps_trans k1 k2) (keeps_push s₂ _ _)⟩

theorem ev_subscript {value slice : Expr} {pos : Pos} {P R S : Value → Heap → Prop} (ops : Value → Value → List Value) (hv : Ev prog w A env s₀ value P) (hi : Ev prog w A env s₀ slice R)
    (hs : ∀ o i, subscripted slice false o i = operate (ops o i) (getItem o i))
    (k : ∀ o i h₁ h₂, P o h₁ → Kp s₀.heap h₁ → Kp h₁ h₂ → R i h₂ → ∀ s, s.heap = h₂ → Keeps s₀ s → ItemOn (model prog w) A NoE o i (fun v s' => S v s'.heap ∧ Keeps s s') s) :
    Ev prog w A env s₀ (.Subscript value slice pos) S := fun s hss => by
  refine Subscript_ (wpAny_mono (hv s hss) (fun o s₁ h₁ => wpAny_mono (hi s₁ (keeps_trans hss h₁.2)) (fun i s₂ h₂ => ?_) fun _ _ x => x) fun _ _ x => x)
  obtain ⟨T, id, hl, hT, hg⟩ := k o i _ _ h₁.1 (Keeps.kp (keeps_trans hss h₁.2)) (Keeps.kp h₂.2) h₂.1 s₂ rfl (keeps_trans (keeps_trans hss h₁.2) h₂.2)
  exact tail_any hT hl (wpAny_mono hg (fun v s₃ h₃ => ⟨h₃.1, keeps_trans (keeps_trans h₁.2 h₂.2) h₃.2⟩) fun _ _ x => x) (hs o i)

theorem ev_slice_str {value : Expr} {lo up : Option Expr} {p pos : Pos} {x : Str} {l u : Option Int} (hv : Ev prog w A env s₀ value (isS x)) (hl : EvPart prog w A env s₀ lo l) (hu : EvPart prog w A env s₀ up u) (hz : x.length ≤ sizeLine) :
    Ev prog w A env s₀ (.Subscript value (.Slice lo up none p) pos) (isS (Txt.slice x l u)) := by
  refine ev_subscript (fun o i => [i, o]) hv (ev_slice hl hu) (fun _ _ => rfl) ?_
  rintro o i h₁ h₂ ⟨t, rfl⟩ _ _ ⟨a, lt, ut, rfl, hsl, rfl, rfl⟩ s rfl _
  refine ⟨"str", _, F.slot_str_getitem.lookup, typeIs_str _ _ _, wpAny_getItem_str_slice hsl rfl ?_⟩
  exact post_val_or_str ⟨Nat.le_trans (Txt.slice_le x _ _) hz, fun t' k => ⟨⟨t', rfl⟩, keeps_toks s k⟩⟩

theorem ev_slice_list {value : Expr} {lo up : Option Expr} {p pos : Pos} {a : Addr} {items : Array Value} {l u : Option Int} (hv : Ev prog w A env s₀ value (isV (.ref a))) (ha : s₀.heap.IsList a items)
    (hl : EvPart prog w A env s₀ lo l) (hu : EvPart prog w A env s₀ up u) (hz : items.size ≤ sizeLine) :
    Ev prog w A env s₀ (.Subscript value (.Slice lo up none p) pos) (fun v h => ∃ b, v = .ref b ∧ h.PlainList b (slicePick items l u none) ∧ s₀.heap.get? b = none) := by
  refine ev_subscript (fun o i => [i, o]) hv (ev_slice hl hu) (fun _ _ => rfl) ?_
  rintro o i h₁ h₂ rfl _ _ ⟨b, lt, ut, rfl, hsl, rfl, rfl⟩ s rfl hs
  have ha' : s.heap.IsList a items := ha.at fun o e => Keeps.kp hs a o e
  refine ⟨"list", _, slot_list_getitem.lookup, ha'.typeIs, ?_⟩
  obtain ⟨ob, ho, hc, hd⟩ := hsl
  have part : ∀ q : Option (Int × Tok), IsPart (partValue q) (q.map (·.1)) := fun q => by
    cases q with
    | none => first | exact .inl ⟨rfl, rfl⟩ | exact IsPart.none | constructor
    | some q => first | exact .inr ⟨_, _, rfl, rfl⟩ | exact IsPart.int | constructor
  refine wpAny_getItem_list_slice (vl := partValue lt) (vu := partValue ut) (vs := .none) (st := none) ha' ⟨ob, ho, hc, hd⟩ (part lt) (part ut) (part none) (by intro q; cases q) ?_ hz
  refine ⟨⟨_, rfl, ⟨_, Heap.get?_push_size _ rfl⟩, ?_⟩, keeps_push s _ _⟩
  cases e : s₀.heap.get? s.heap.objs.size with
  | none => rfl
  | some o' => exact absurd (Heap.lt_size (Keeps.kp hs _ _ e)) (Nat.lt_irrefl _)

/-- an item of a list, at a place from the front -/
theorem ev_item_list {value idx : Expr} {pos : Pos} {a : Addr} {items : Array Value} {k : Int} {v : Value} (hv : Ev prog w A env s₀ value (isV (.ref a))) (hi : Ev prog w A env s₀ idx (isI k)) (ha : s₀.heap.IsList a items)
    (h0 : 0 ≤ k) (hfit : k < 2 ^ 63) (hx : items[k.toNat]? = some v) (hs : ∀ o i, subscripted idx false o i = operate [o, i] (getItem o i) := by intro _ _; rfl) :
    Ev prog w A env s₀ (.Subscript value idx pos) (isV v) := by
  refine ev_subscript (fun o i => [o, i]) hv hi hs ?_
  rintro o i h₁ h₂ rfl _ _ ⟨t, rfl⟩ s rfl hs
  have ha' : s.heap.IsList a items := ha.at fun o e => Keeps.kp hs a o e
  exact ⟨"list", _, slot_list_getitem.lookup, ha'.typeIs, wpAny_getItem_list ha' h0 hfit hx ⟨rfl, keeps_refl s⟩⟩
/-- and from behind -/
theorem ev_item_list_neg {value idx : Expr} {pos : Pos} {a : Addr} {items : Array Value} {k : Int} {v : Value} (hv : Ev prog w A env s₀ value (isV (.ref a))) (hi : Ev prog w A env s₀ idx (isI k)) (ha : s₀.heap.IsList a items)
    (h0 : k < 0) (h1 : -(items.size : Int) ≤ k) (hfit : -(2 ^ 63) ≤ k) (hx : items[(k + items.size).toNat]? = some v) (hs : ∀ o i, subscripted idx false o i = operate [o, i] (getItem o i) := by intro _ _; rfl) :
    Ev prog w A env s₀ (.Subscript value idx pos) (isV v) := by
  refine ev_subscript (fun o i => [o, i]) hv hi hs ?_
  rintro o i h₁ h₂ rfl _ _ ⟨t, rfl⟩ s rfl hs
  have ha' : s.heap.IsList a items := ha.at fun o e => Keeps.kp hs a o e
  exact ⟨"list", _, slot_list_getitem.lookup, ha'.typeIs, wpAny_getItem_list_neg ha' h0 h1 hfit hx ⟨rfl, keeps_refl s⟩⟩
/-- a sign of a text -/
theorem ev_item_str {value idx : Expr} {pos : Pos} {x : Str} {k : Int} {c : Nat} (hv : Ev prog w A env s₀ value (isS x)) (hi : Ev prog w A env s₀ idx (isI k)) (h0 : 0 ≤ k) (hfit : k < 2 ^ 63) (hx : x.cps[k.toNat]? = some c)
    (hs : ∀ o i, subscripted idx false o i = operate [o, i] (getItem o i) := by intro _ _; rfl) :
    Ev prog w A env s₀ (.Subscript value idx pos) (isS ⟨#[c]⟩) := by
  refine ev_subscript (fun o i => [o, i]) hv hi hs ?_
  rintro o i h₁ h₂ ⟨t, rfl⟩ _ _ ⟨u, rfl⟩ s rfl hs
  refine ⟨"str", _, F.slot_str_getitem.lookup, typeIs_str _ _ _, getItem_str (c := c) (by simp; omega) ?_ ⟨⟨_, rfl⟩, keeps_toks s _⟩⟩
  have hlt : k.toNat < x.cps.size := by
    rcases Nat.lt_or_ge k.toNat x.cps.size with h | h
    · exact h
    · rw [Array.getElem?_eq_none h] at hx; cases hx
  have : seqIndex? k x.length = some k.toNat := by
    unfold seqIndex?
    simp only [Str.length]
    split <;> first | rfl | (simp; omega) | omega | skip
  rw [this]; exact hx

theorem ev_neg {e : Expr} {pos : Pos} {a : Int} (he : Ev prog w A env s₀ e (isI a)) : Ev prog w A env s₀ (.UnaryOp .USub e pos) (isI (-a)) := fun s hs => by
  refine wpAny_UnaryOp (wpAny_mono (he s hs) (fun v s₁ h₁ => ?_) fun _ _ x => x)
  obtain ⟨⟨t, rfl⟩, k⟩ := h₁
  exact neg_int ⟨⟨_, rfl⟩, keeps_trans k (keeps_toks _ _)⟩
theorem ev_ifexp {t b o : Expr} {pos : Pos} {c : Bool} {P : Value → Heap → Prop} (ht : Ts prog w A env s₀ t c) (hb : c = true → Ev prog w A env s₀ b P) (ho : c = false → Ev prog w A env s₀ o P) :
    Ev prog w A env s₀ (.IfExp t b o pos) P := fun s hs => by
  refine wpAny_IfExp (wpAny_mono (ht s hs) (fun v s₁ h₁ => ?_) fun _ _ x => x)
  obtain ⟨rfl, k⟩ := h₁
  cases v with
  | true => exact wpAny_mono (hb rfl s₁ (keeps_trans hs k)) (fun _ _ h => ⟨h.1, keeps_trans k h.2⟩) fun _ _ x => x
  | false => exact wpAny_mono (ho rfl s₁ (keeps_trans hs k)) (fun _ _ h => ⟨h.1, keeps_trans k h.2⟩) fun _ _ x => x
theorem ts_of_ev {e : Expr} {c : Bool} (h : Ev prog w A env s₀ e (isB c)) (he : ∀ whole, isTrue e env whole = (do let v ← whole; standAt e.pos; holding [v] (truthy v)) := by intro _; rfl) : Ts prog w A env s₀ e c := fun s hs => by
  refine isTrue_plain (wpAny_mono (h s hs) (fun v s₁ h₁ => ?_) fun _ _ x => x) (he _)
  obtain ⟨h3, h3'⟩ := h₁
  subst h3
  exact wpAny_truthy_bool ⟨rfl, h3'⟩
theorem ts_and2 {a b : Expr} {pos : Pos} {c d : Bool} (ha : Ts prog w A env s₀ a c) (hb : c = true → Ts prog w A env s₀ b d) : Ts prog w A env s₀ (.BoolOp .And [a, b] pos) (c && d) := fun s hs => by
  refine isTrue_and (wpAny_mono (ha s hs) (fun v s₁ h₁ => ?_) fun _ _ x => x)
  obtain ⟨rfl, k⟩ := h₁
  cases v with
  | false => exact ⟨rfl, k⟩
  | true =>
    refine isTrue_and (wpAny_mono (hb rfl s₁ (keeps_trans hs k)) (fun v s₂ h₂ => ?_) fun _ _ x => x)
    obtain ⟨rfl, k'⟩ := h₂
    cases v with
    | false => exact ⟨rfl, keeps_trans k k'⟩
    | true => exact isTrue_and_nil ⟨rfl, keeps_trans k k'⟩
theorem ts_or2 {a b : Expr} {pos : Pos} {c d : Bool} (ha : Ts prog w A env s₀ a c) (hb : c = false → Ts prog w A env s₀ b d) : Ts prog w A env s₀ (.BoolOp .Or [a, b] pos) (c || d) := fun s hs => by
  refine isTrue_or (wpAny_mono (ha s hs) (fun v s₁ h₁ => ?_) fun _ _ x => x)
  obtain ⟨rfl, k⟩ := h₁
  cases v with
  | true => exact ⟨rfl, k⟩
  | false =>
    refine isTrue_or (wpAny_mono (hb rfl s₁ (keeps_trans hs k)) (fun v s₂ h₂ => ?_) fun _ _ x => x)
    obtain ⟨rfl, k'⟩ := h₂
    cases v with
    | true => exact ⟨rfl, keeps_trans k k'⟩
    | false => exact isTrue_or_nil ⟨rfl, keeps_trans k k'⟩
theorem ev_and1 {a b : Expr} {rest : List Expr} {pos : Pos} {d : Bool} (ha : Ev prog w A env s₀ a (isB true)) (hb : Ev prog w A env s₀ (.BoolOp .And (b :: rest) pos) (isB d)) : Ev prog w A env s₀ (.BoolOp .And (a :: b :: rest) pos) (isB d) := fun s hs => by
  refine BoolOp_and (wpAny_mono (ha s hs) (fun v s₁ h₁ => ?_) fun _ _ x => x)
  obtain ⟨h1, k⟩ := h₁
  subst h1
  refine wpAny_truthy_bool ?_
  exact wpAny_mono (hb s₁ (keeps_trans hs k)) (fun _ _ h => ⟨h.1, keeps_trans k h.2⟩) fun _ _ x => x
theorem ev_and0 {a : Expr} {pos : Pos} {P : Value → Heap → Prop} (ha : Ev prog w A env s₀ a P) : Ev prog w A env s₀ (.BoolOp .And [a] pos) P := fun s hs => BoolOp_one (ha s hs)

/-- text in text -/
theorem ci_in_str {x y : Str} : CmpIs prog w A .In (isS y) (isS x) (Txt.contains x y) s₀ := fun _ _ _ _ ⟨_, h1⟩ _ _ ⟨_, h2⟩ s _ _ => by subst h1 h2; exact SB.contains ⟨rfl, keeps_refl s⟩
/-- text in a list of texts -/
theorem ci_in_list {y : Str} {a : Addr} {vs : List Value} {ys : List Str} (ha : s₀.heap.IsList a vs.toArray) (hi : StrsAre vs ys) : CmpIs prog w A .In (isS y) (isV (.ref a)) (ys.any (· == y)) s₀ :=
  fun _ _ _ _ ⟨_, h1⟩ _ _ h2 s _ hs => by subst h1 h2; exact in_list_strs (ha.at fun o e => Keeps.kp hs a o e) hi ⟨rfl, keeps_refl s⟩
theorem ci_notin_list {y : Str} {a : Addr} {vs : List Value} {ys : List Str} (ha : s₀.heap.IsList a vs.toArray) (hi : StrsAre vs ys) : CmpIs prog w A .NotIn (isS y) (isV (.ref a)) (!(ys.any (· == y))) s₀ :=
  fun _ _ _ _ ⟨_, h1⟩ _ _ h2 s _ hs => by subst h1 h2; exact notin_list_strs (ha.at fun o e => Keeps.kp hs a o e) hi ⟨rfl, keeps_refl s⟩
/-- text in a dict keyed by texts -/
theorem ci_in_dict {y : Str} {d : Addr} {f : Str → Option Value} (hd : (d == sysModules) = false) (hm : s₀.heap.MapOf (strKind prog w) d f) : CmpIs prog w A .In (isS y) (isV (.ref d)) (f y).isSome s₀ :=
  fun _ _ _ _ ⟨t, h1⟩ _ _ h2 s _ hs => by
    subst h1 h2
    have hm' : s.heap.MapOf (strKind prog w) d f := let ⟨o, es, ep, ho, r⟩ := hm; ⟨o, es, ep, Keeps.kp hs _ _ ho, r⟩
    exact wpAny_in_of (strKind_is prog w y t) hd hm' ⟨rfl, keeps_toks s _⟩
/-- an item of such a dict -/
theorem ev_item_dict {value idx : Expr} {pos : Pos} {d : Addr} {f : Str → Option Value} {y : Str} {v : Value} (hv : Ev prog w A env s₀ value (isV (.ref d))) (hi : Ev prog w A env s₀ idx (isS y)) (hm : s₀.heap.MapOf (strKind prog w) d f)
    (hx : f y = some v) (hs : ∀ o i, subscripted idx false o i = operate [o, i] (getItem o i) := by intro _ _; rfl) :
    Ev prog w A env s₀ (.Subscript value idx pos) (isV v) := by
  refine ev_subscript (fun o i => [o, i]) hv hi hs ?_
  rintro o i h₁ h₂ rfl _ _ ⟨t, rfl⟩ s rfl hs
  have hm' : s.heap.MapOf (strKind prog w) d f := let ⟨o, es, ep, ho, r⟩ := hm; ⟨o, es, ep, Keeps.kp hs _ _ ho, r⟩
  exact ⟨"dict", _, slot_dict_getitem.lookup, hm'.typeIs, wpAny_getItem_of (strKind_is prog w y t) hm' hx ⟨rfl, keeps_toks s _⟩⟩
end
end Mine
end
-- text A3
section
open PySem PySem.W PyProof.Rows
set_option Elab.async false
set_option linter.unusedVariables false
set_option maxRecDepth 100000
namespace Mine

/-- h' is h but for the names xs of the frame at L, and the objects W; new objects may stand -/
structure Ch (L : Addr) (xs : List Str) (W : List Addr) (h h' : Heap) : Prop where
  kb : ∀ b o, b ≠ L → b ∉ W → h.get? b = some o → h'.get? b = some o
  ns : ∃ m, h'.Ns L m
  lk : ∀ x v, x ∉ xs → Var h L x v → Var h' L x v

def HasNs (h : Heap) (L : Addr) : Prop := ∃ m, h.Ns L m
theorem HasNs.kp {h h' : Heap} {L : Addr} (a : HasNs h L) (k : Kp h h') : HasNs h' L := let ⟨m, n⟩ := a; ⟨m, n.keeps k⟩
theorem Ch.refl {L : Addr} {xs : List Str} {W : List Addr} {h : Heap} (n : HasNs h L) : Ch L xs W h h := ⟨fun _ _ _ _ e => e, n, fun _ _ _ e => e⟩
theorem Ch.trans {L : Addr} {xs : List Str} {W : List Addr} {a b c : Heap} (x : Ch L xs W a b) (y : Ch L xs W b c) : Ch L xs W a c :=
  ⟨fun p o h1 h2 e => y.kb p o h1 h2 (x.kb p o h1 h2 e), y.ns, fun z v hz e => y.lk z v hz (x.lk z v hz e)⟩
theorem Ch.mono {L : Addr} {xs xs' : List Str} {W W' : List Addr} {h h' : Heap} (x : Ch L xs W h h') (hx : ∀ a ∈ xs, a ∈ xs') (hW : ∀ a ∈ W, a ∈ W') : Ch L xs' W' h h' :=
  ⟨fun p o h1 h2 e => x.kb p o h1 (fun q => h2 (hW p q)) e, x.ns, fun z v hz e => x.lk z v (fun q => hz (hx z q)) e⟩
theorem Ch.kp {L : Addr} {xs : List Str} {W : List Addr} {h h' : Heap} (n : HasNs h L) (k : Kp h h') : Ch L xs W h h' := ⟨fun p o _ _ e => k p o e, n.kp k, fun _ _ _ e => e.kp k⟩
theorem Ch.after {L : Addr} {xs : List Str} {W : List Addr} {a b c : Heap} (x : Ch L xs W a b) (k : Kp b c) : Ch L xs W a c := x.trans (Ch.kp x.ns k)
theorem Ch.before {L : Addr} {xs : List Str} {W : List Addr} {a b c : Heap} (k : Kp a b) (x : Ch L xs W b c) : Ch L xs W a c :=
  ⟨fun p o h1 h2 e => x.kb p o h1 h2 (k p o e), x.ns, fun z v hz e => x.lk z v hz (e.kp k)⟩
theorem Ch.hasNs {L : Addr} {xs : List Str} {W : List Addr} {a b : Heap} (x : Ch L xs W a b) : HasNs b L := x.ns
theorem Ch.store {L : Addr} {h h' : Heap} {m : Str → Option Value} {x : Str} {v : Value} (n : h.Ns L m) (n' : h'.Ns L (fun y => if y = x then some v else m y)) (hs : Heap.SameBut L h h') : Ch L [x] [] h h' ∧ Var h' L x v := by
  refine ⟨⟨fun p o h1 _ e => (hs.2 p h1).trans e, ⟨_, n'⟩, fun y u hy e => ⟨_, n', ?_⟩⟩, ⟨_, n', by simp⟩⟩
  have hne : y ≠ x := fun q => hy (by simp [q])
  simp only [if_neg hne]
  exact e.eq n
theorem Ch.obj {L a : Addr} {h h' : Heap} (n : HasNs h L) (hs : Heap.SameBut a h h') (ha : a ≠ L) : Ch L [] [a] h h' := by
  obtain ⟨m, n⟩ := n
  have n' : h'.Ns L m := n.sameBut hs (Ne.symm ha)
  refine ⟨fun p o _ h2 e => (hs.2 p (by simpa using h2)).trans e, ⟨m, n'⟩, fun y u _ e => ⟨m, n', e.eq n⟩⟩

section
variable {prog : Program} {w : World} {A : Around} {env : Env} {s s₀ : Shared}

/-- storing a local -/
theorem store_local {x : Str} {v : Value} {E : Value → Shared → Prop} {Q : Unit → Shared → Prop} (hn : HasNs s.heap env.locals) (k : ∀ h' tk, Ch env.locals [x] [] s.heap h' → Var h' env.locals x v → Q () { s with heap := h', toks := tk })
    (hk : env.scope.kind = .function := by rfl) (hl : env.kindOf x = some .local := by rfl) : wpAny (model prog w) A (storeName env x v) Q E s := by
  obtain ⟨m, n⟩ := hn
  exact wpAny_storeName_local hl n (fun h' n' hs => by obtain ⟨a, b⟩ := Ch.store n n' hs; exact k h' _ a b) (by simp [hk])
theorem assign_local {x : Str} {p : Pos} {v : Value} {E : Value → Shared → Prop} {Q : Unit → Shared → Prop} (hn : HasNs s.heap env.locals) (k : ∀ h' tk, Ch env.locals [x] [] s.heap h' → Var h' env.locals x v → Q () { s with heap := h', toks := tk })
    (hk : env.scope.kind = .function := by rfl) (hl : env.kindOf x = some .local := by rfl) : wpAny (model prog w) A (assign (.Name x p) env v) Q E s :=
  wpAny_assign_Name (store_local hn k hk hl)
/-- storing a cell -/
theorem store_cell {x : Str} {c : Addr} {v : Value} {v₀ : Option Value} {E : Value → Shared → Prop} {Q : Unit → Shared → Prop} (hn : HasNs s.heap env.locals) (hc : env.cells.lookup x = some c) (h0 : s.heap.IsCell c v₀) (hne : c ≠ env.locals)
    (k : ∀ h' tk, Ch env.locals [] [c] s.heap h' → h'.IsCell c (some v) → Q () { s with heap := h', toks := tk })
    (hk : env.scope.kind = .function := by rfl) (hl : env.kindOf x = some .cell := by rfl) : wpAny (model prog w) A (storeName env x v) Q E s :=
  wpAny_storeName_cell hk hl hc h0 fun h' hv hs => k h' s.toks (Ch.obj hn hs hne) hv

theorem st_assign {x : Str} {p pos : Pos} {e : Expr} {P : Value → Heap → Prop} {E : Value → Shared → Prop} {Q : Flow → Shared → Prop} (hn : HasNs s.heap env.locals) (he : Ev prog w A env s e P)
    (k : ∀ v h₁ h₂ tk, P v h₁ → Kp s.heap h₁ → Ch env.locals [x] [] h₁ h₂ → Var h₂ env.locals x v → Q .next { s with heap := h₂, toks := tk })
    (hs : swapsWith e (some (.Name x p)) pos.line env = pure false := by rfl) (hk : env.scope.kind = .function := by rfl) (hl : env.kindOf x = some .local := by rfl) :
    wpAny (model prog w) A (exec (.Assign [.Name x p] e pos) env) Q E s :=
  wpAny_Assign_Name (he.use fun v h₁ tk hv kp => store_local (s := { s with heap := h₁, toks := tk }) (hn.kp kp) (fun h₂ tk₂ c hx => k v h₁ h₂ tk₂ hv kp c hx) hk hl) hs
theorem st_assign_cell {x : Str} {c : Addr} {p pos : Pos} {e : Expr} {P : Value → Heap → Prop} {v₀ : Option Value} {E : Value → Shared → Prop} {Q : Flow → Shared → Prop} (hn : HasNs s.heap env.locals) (he : Ev prog w A env s e P)
    (hc : env.cells.lookup x = some c) (h0 : s.heap.IsCell c v₀) (hne : c ≠ env.locals)
    (k : ∀ v h₁ h₂ tk, P v h₁ → Kp s.heap h₁ → Ch env.locals [] [c] h₁ h₂ → h₂.IsCell c (some v) → Q .next { s with heap := h₂, toks := tk })
    (hs : swapsWith e (some (.Name x p)) pos.line env = pure false := by rfl) (hk : env.scope.kind = .function := by rfl) (hl : env.kindOf x = some .cell := by rfl) :
    wpAny (model prog w) A (exec (.Assign [.Name x p] e pos) env) Q E s :=
  wpAny_Assign_Name (he.use fun v h₁ tk hv kp => store_cell (s := { s with heap := h₁, toks := tk }) (hn.kp kp) hc (h0.keeps kp) hne (fun h₂ tk₂ c hx => k v h₁ h₂ tk₂ hv kp c hx) hk hl) hs
theorem st_if {t : Expr} {b o : List Stmt} {pos : Pos} {c : Bool} {E : Value → Shared → Prop} {Q : Flow → Shared → Prop} (ht : Ts prog w A env s t c)
    (hb : c = true → ∀ h' tk, Kp s.heap h' → wpAny (model prog w) A (execs b env) Q E { s with heap := h', toks := tk })
    (ho : c = false → ∀ h' tk, Kp s.heap h' → wpAny (model prog w) A (execs o env) Q E { s with heap := h', toks := tk }) :
    wpAny (model prog w) A (exec (.If t b o pos) env) Q E s :=
  wpAny_If (ht.use fun h' tk kp => by
    cases c with
    | true => exact hb rfl h' tk kp
    | false => exact ho rfl h' tk kp)
theorem st_return {e : Expr} {pos : Pos} {P : Value → Heap → Prop} {E : Value → Shared → Prop} {Q : Flow → Shared → Prop} (he : Ev prog w A env s e P)
    (k : ∀ v h' tk, P v h' → Kp s.heap h' → Q (.ret v) { s with heap := h', toks := tk }) : wpAny (model prog w) A (exec (.Return (some e) pos) env) Q E s :=
  wpAny_Return_some (he.use k)

/-- an iterator that walks n items, the i-th with P i; src: the objects that it reads and that stood before -/
def SrcAt (prog : Program) (w : World) (A : Around) (s s₂ : Shared) (it : Value) (src : List Addr) (n : Nat) (P : Nat → Value → Prop) : Prop :=
  ∃ I fp wr St, it = .ref I ∧ Walks prog w A I fp wr n P St ∧ St 0 s₂.heap ∧ (∀ b ∈ fp, b ∈ src ∨ s.heap.get? b = none) ∧ (∀ b ∈ wr, s.heap.get? b = none) ∧ (∀ b ∈ fp, b < s₂.heap.objs.size) ∧ Keeps s s₂
def Src (prog : Program) (w : World) (A : Around) (env : Env) (s₀ : Shared) (iter : Expr) (src : List Addr) (n : Nat) (P : Nat → Value → Prop) : Prop :=
  ∀ s, Keeps s₀ s → wpAny (model prog w) A (eval iter env) (fun xv s₁ => wpAny (model prog w) A (pyIter xv) (fun it s₂ => SrcAt prog w A s s₂ it src n P) NoE s₁) NoE s

theorem none_of_keeps {a b : Shared} (k : Keeps a b) {p : Addr} (h : b.heap.get? p = none) : a.heap.get? p = none := by
  cases e : a.heap.get? p with
  | none => rfl
  | some o => rw [Keeps.kp k _ _ e] at h; cases h
theorem get_size_none (h : Heap) : h.get? h.objs.size = none := by
  cases e : h.get? h.objs.size with
  | none => rfl
  | some o => exact absurd (Heap.lt_size e) (Nat.lt_irrefl _)
theorem get_none_ge {h : Heap} {a : Addr} (ha : h.objs.size ≤ a) : h.get? a = none := by
  cases e : h.get? a with
  | none => rfl
  | some o => exact absurd (Heap.lt_size e) (Nat.not_lt.mpr ha)

theorem src_list {iter : Expr} {l : Addr} {items : Array Value} (hh : A.handled = none) (he : Ev prog w A env s₀ iter (isV (.ref l))) (hl : s₀.heap.IsList l items) :
    Src prog w A env s₀ iter [l] items.size (fun i v => items[i]? = some v) := fun s hs => by
  refine wpAny_mono (he s hs) (fun v s₁ h₁ => ?_) fun _ _ x => x
  obtain ⟨rfl, k⟩ := h₁
  have hl₁ : s₁.heap.IsList l items := hl.at fun o e => Keeps.kp (keeps_trans hs k) l o e
  have hlt : l < s₁.heap.objs.size := let ⟨_, e, _⟩ := hl₁; Heap.lt_size e
  refine wpAny_pyIter_list hl₁ ⟨_, _, _, _, rfl, Walks.list hh s₁.heap.objs.size l (Nat.ne_of_lt hlt) items, ⟨⟨_, Heap.get?_push_size _ rfl, rfl, rfl⟩, hl₁.push _⟩, ?_, ?_, ?_, keeps_trans k (keeps_push s₁ _ _)⟩
  · intro b hb
    rcases List.mem_cons.mp hb with rfl | hb
    · exact .inr (none_of_keeps k (get_size_none _))
    · exact .inl hb
  · intro b hb
    rw [List.mem_singleton.mp hb]
    exact none_of_keeps k (get_size_none _)
  · intro b hb
    show b < (s₁.heap.push _).objs.size
    rw [Heap.size_push]
    rcases List.mem_cons.mp hb with rfl | hb
    · exact Nat.lt_succ_self _
    · rw [List.mem_singleton.mp hb]; exact Nat.lt_succ_of_lt hlt

theorem fresh_iter {it₁ : Addr} (k : Keeps s₀ s) (h : s.heap.objs.size ≤ it₁) : s₀.heap.get? it₁ = none := none_of_keeps k (get_none_ge h)

/-- range(a, b) by its iterator -/
theorem src_range_of {s₁ : Shared} {lo hi : Int} {r : Addr} {t u v : Tok} (hh : A.handled = none) (h1 : -(2 ^ 62) ≤ lo) (h2 : lo < 2 ^ 62) (h3 : -(2 ^ 62) ≤ hi) (h4 : hi < 2 ^ 62) (k : Keeps s s₁) (hr : IsRange s₁.heap r lo hi 1 t u v) :
    wpAny (model prog w) A (pyIter (.ref r)) (fun it s₂ => SrcAt prog w A s s₂ it [] (hi - lo).toNat (fun i v => ∃ t, v = .int (lo + (i : Int)) t)) NoE s₁ := by
  refine wpAny_pyIter_range hr (small_one h1 h2 h3 h4) ?_
  have count : Builtin.Range.rangeSize lo hi 1 = ((hi - lo).toNat : Int) := by
    rw [rangeSize_one]
    by_cases q : lo < hi <;> simp [q] <;> omega
  have W := Walks.range (prog := prog) (w := w) hh s₁.heap.objs.size lo 1 (hi - lo).toNat
  have W' : Walks prog w A s₁.heap.objs.size [s₁.heap.objs.size] [s₁.heap.objs.size] (hi - lo).toNat (fun i v => ∃ t, v = .int (lo + (i : Int)) t) (fun i h => IsRangeIter h s₁.heap.objs.size (lo + (i : Nat) * 1) (((hi - lo).toNat : Int) - (i : Nat)) 1) := by
    simpa using W
  refine ⟨_, _, _, _, rfl, W', ?_, ?_, ?_, ?_, keeps_trans k (keeps_push s₁ _ _)⟩
  · have start : ∀ h, IsRangeIter h s₁.heap.objs.size lo (Builtin.Range.rangeSize lo hi 1) 1 → IsRangeIter h s₁.heap.objs.size (lo + ((0 : Nat) : Int) * 1) (((hi - lo).toNat : Int) - ((0 : Nat) : Int)) 1 := fun h q => by simpa [count] using q
    exact start _ (Heap.get?_push_size _ rfl)
  · intro b hb; rw [List.mem_singleton.mp hb]; exact .inr (none_of_keeps k (get_size_none _))
  · intro b hb; rw [List.mem_singleton.mp hb]; exact none_of_keeps k (get_size_none _)
  · intro b hb
    rw [List.mem_singleton.mp hb]
    show _ < (s₁.heap.push _).objs.size
    rw [Heap.size_push]; exact Nat.lt_succ_self _

theorem src_range1 {e : Expr} {rp pos : Pos} {n : Int} (hh : A.handled = none) (hf : Ev prog w A env s₀ (.Name "range" rp) (isV (.type "range"))) (he : Ev prog w A env s₀ e (isI n)) (h3 : -(2 ^ 62) ≤ n) (h4 : n < 2 ^ 62)
    (hs : backTo pos (starEach [e] env) = [(false, eval e env)] := by rfl) :
    Src prog w A env s₀ (.Call (.Name "range" rp) [e] [] pos) [] n.toNat (fun i v => ∃ t, v = .int (i : Int) t) := fun s hk => by
  refine wpAny_Call_NameR (wpAny_mono (hf s hk) (fun f s₁ h₁ => ?_) fun _ _ x => x)
  obtain ⟨rfl, k₁⟩ := h₁
  rw [hs]
  refine PySem.callWith_type rfl (Calls.evalArgs_plain (Calls.spliced_cons (wpAny_mono (he s₁ (keeps_trans hk k₁)) (fun v₁ s₂ h₂ => Calls.spliced_nil ?_) fun _ _ e => e)))
  obtain ⟨⟨t, rfl⟩, k₂⟩ := h₂
  refine call_range_1 ?_
  refine wpAny_mono (src_range_of (s := s) (lo := 0) (hi := n) hh (by omega) (by omega) h3 h4 (keeps_trans (keeps_trans k₁ k₂) (keeps_push s₂ _ _)) (IsRange.new ..)) (fun it s' q => ?_) fun _ _ x => x
  simpa using q

theorem src_range2 {e₁ e₂ : Expr} {rp pos : Pos} {lo hi : Int} (hh : A.handled = none) (hf : Ev prog w A env s₀ (.Name "range" rp) (isV (.type "range"))) (he₁ : Ev prog w A env s₀ e₁ (isI lo)) (he₂ : Ev prog w A env s₀ e₂ (isI hi))
    (h1 : -(2 ^ 62) ≤ lo) (h2 : lo < 2 ^ 62) (h3 : -(2 ^ 62) ≤ hi) (h4 : hi < 2 ^ 62)
    (hs : backTo pos (starEach [e₁, e₂] env) = [(false, eval e₁ env), (false, eval e₂ env)] := by rfl) :
    Src prog w A env s₀ (.Call (.Name "range" rp) [e₁, e₂] [] pos) [] (hi - lo).toNat (fun i v => ∃ t, v = .int (lo + (i : Int)) t) := fun s hk => by
  refine wpAny_Call_NameR (wpAny_mono (hf s hk) (fun f s₁ h₁ => ?_) fun _ _ x => x)
  obtain ⟨rfl, k₁⟩ := h₁
  rw [hs]
  refine PySem.callWith_type rfl (Calls.evalArgs_plain (Calls.spliced_cons (wpAny_mono (he₁ s₁ (keeps_trans hk k₁)) (fun v₁ s₂ h₂ => Calls.spliced_cons (wpAny_mono (he₂ s₂ (keeps_trans hk (keeps_trans k₁ h₂.2))) (fun v₂ s₃ h₃ => Calls.spliced_nil ?_) fun _ _ e => e)) fun _ _ e => e)))
  obtain ⟨⟨t, rfl⟩, k₂⟩ := h₂
  obtain ⟨⟨t', rfl⟩, k₃⟩ := h₃
  refine call_range_2 ?_
  exact src_range_of (s := s) (lo := lo) (hi := hi) hh h1 h2 h3 h4 (keeps_trans (keeps_trans (keeps_trans k₁ k₂) k₃) (keeps_push s₃ _ _)) (IsRange.new ..)

/-- the for loop over such a source -/
theorem for_rule {target iter : Expr} {body : List Stmt} {pos : Pos} {xs : List Str} {W src : List Addr} {n : Nat} {P : Nat → Value → Prop} {E : Value → Shared → Prop} {Q : Flow → Shared → Prop} (Inv : Nat → Heap → Prop)
    (hn : HasNs s.heap env.locals) (hsrc : Src prog w A env s iter src n P) (hW : ∀ b ∈ src, b ∉ W ∧ b ≠ env.locals)
    (hWold : ∀ b ∈ W, ∃ o, s.heap.get? b = some o)
    (h0 : ∀ h, Kp s.heap h → Inv 0 h)
    (hInv : ∀ i h h', Inv i h → (∀ b o, (∃ o', s.heap.get? b = some o') → h.get? b = some o → h'.get? b = some o) → Inv i h')
    (turn : ∀ i v h tk, i < n → P i v → Ch env.locals xs W s.heap h → Inv i h →
      wpAny (model prog w) A (assign target env v) (fun _ s₂ => wpAny (model prog w) A (execs body env) (fun f s₃ => match f with
        | .next | .cont => ∃ h' tk', s₃ = { s with heap := h', toks := tk' } ∧ Ch env.locals xs W h h' ∧ Inv (i + 1) h'
        | .brk => Q .next s₃
        | .ret v => Q (.ret v) s₃) NoE s₂) NoE { s with heap := h, toks := tk })
    (done : ∀ h tk, Ch env.locals xs W s.heap h → Inv n h → Q .next { s with heap := h, toks := tk })
    (ht : ∀ I v, letOwnedTupleGo target (.ref I) v = pure () := by intro _ _; rfl)
    (hs : ∀ x, foldedSetIterable iter env x = pure x := by intro _; rfl) :
    wpAny (model prog w) A (exec (.For target iter body [] pos) env) Q E s := by
  refine wpAny_For (wpAny_mono (hsrc s (keeps_refl s)) (fun xv s₁ h₁ => wpAny_mono h₁ (fun it s₂ h₂ => ?_) fun _ _ x => x.elim) fun _ _ x => x.elim) hs
  obtain ⟨I, fp, wr, St, rfl, Wk, hst, hfp, hwr, _, h₂', tk₂, rfl, kp₂⟩ := h₂
  have hLold : ∃ o, s.heap.get? env.locals = some o := let ⟨m, o, _, _, ho, _⟩ := hn; ⟨o, ho⟩
  have hfpL : ∀ b ∈ fp, b ≠ env.locals ∧ b ∉ W := fun b hb => by
    rcases hfp b hb with h | h
    · exact ⟨(hW b h).2, (hW b h).1⟩
    · refine ⟨fun e => ?_, fun e => ?_⟩
      · obtain ⟨o, ho⟩ := hLold; rw [← e, h] at ho; cases ho
      · obtain ⟨o, ho⟩ := hWold b e; rw [h] at ho; cases ho
  have hwrO : ∀ b ∈ wr, ∀ o, s.heap.get? b = some o → False := fun b hb o e => by rw [hwr b hb] at e; cases e
  refine codeAny_forLoop (fun k s' => ∃ i h tk, s' = { s with heap := h, toks := tk } ∧ i ≤ n ∧ k = n + 1 - i ∧ Ch env.locals xs W s.heap h ∧ Inv i h ∧ St i h) ?_ (n + 1)
    ⟨0, h₂', tk₂, rfl, Nat.zero_le _, rfl, Ch.kp hn kp₂, h0 _ kp₂, hst⟩ (ht I)
  rintro k s' ⟨i, h, tk, rfl, hi, rfl, hch, hinv, hsti⟩
  have move : ∀ h', (∀ b o, b ∉ wr → h.get? b = some o → h'.get? b = some o) → Ch env.locals xs W s.heap h' ∧ Inv i h' ∧ HasNs h' env.locals := fun h' hk => by
    have hk' : ∀ b o, (∃ o', s.heap.get? b = some o') → h.get? b = some o → h'.get? b = some o := fun b o ⟨o', e'⟩ e => hk b o (fun hb => hwrO b hb o' e') e
    have hL : ∀ o, h.get? env.locals = some o → h'.get? env.locals = some o := fun o e => hk' _ o hLold e
    have hnn : HasNs h' env.locals := let ⟨m, nn⟩ := hch.ns; ⟨m, nn.at' hL⟩
    exact ⟨⟨fun b o h1 h2 e => hk' b o ⟨o, e⟩ (hch.kb b o h1 h2 e), hnn, fun x v hx e => (hch.lk x v hx e).at hL⟩, hInv i h h' hinv hk', hnn⟩
  by_cases hlt : i < n
  · refine Wk.item i _ _ _ hlt hsti fun v h₁ tk₁ hP hst₁ hk₁ => ?_
    obtain ⟨c1, i1, n1⟩ := move h₁ hk₁
    refine wpAny_mono (turn i v h₁ tk₁ hlt hP c1 i1) (fun _ s₂ h₂ => wpAny_mono h₂ (fun f s₃ h₃ => ?_) fun _ _ x => x.elim) fun _ _ x => x.elim
    have fin : (∃ h' tk', s₃ = { s with heap := h', toks := tk' } ∧ Ch env.locals xs W h₁ h' ∧ Inv (i + 1) h') →
        ∃ m, m < n + 1 - i ∧ ∃ i h tk, s₃ = { s with heap := h, toks := tk } ∧ i ≤ n ∧ m = n + 1 - i ∧ Ch env.locals xs W s.heap h ∧ Inv i h ∧ St i h := by
      rintro ⟨h', tk', rfl, c2, i2⟩
      refine ⟨n + 1 - (i + 1), by omega, i + 1, h', tk', rfl, hlt, rfl, c1.trans c2, i2, ?_⟩
      exact Wk.frame _ _ _ hst₁ fun b hb o e => c2.kb b o (hfpL b hb).1 (hfpL b hb).2 e
    cases f with
    | next => exact fin h₃
    | cont => exact fin h₃
    | brk => exact h₃
    | ret v => exact h₃
  · have hin : i = n := by omega
    subst hin
    refine Wk.done _ _ _ hsti fun h₁ tk₁ hk₁ => wpAny_execs_nil ?_
    obtain ⟨c1, i1, _⟩ := move h₁ hk₁
    exact done h₁ tk₁ c1 i1

/-- the while loop -/
theorem while_rule {test : Expr} {body : List Stmt} {pos : Pos} {xs : List Str} {W : List Addr} {E : Value → Shared → Prop} {Q : Flow → Shared → Prop} (Inv : Nat → Heap → Prop) (n : Nat)
    (hn : HasNs s.heap env.locals) (h0 : Inv n s.heap)
    (turn : ∀ n h tk, Ch env.locals xs W s.heap h → Inv n h → ∃ c, Ts prog w A env { s with heap := h, toks := tk } test c ∧
      (c = true → ∀ h₁ tk₁, Kp h h₁ → wpAny (model prog w) A (execs body env) (fun f s₃ => match f with
        | .next | .cont => ∃ h' tk' m, s₃ = { s with heap := h', toks := tk' } ∧ Ch env.locals xs W h₁ h' ∧ m < n ∧ Inv m h'
        | .brk => Q .next s₃
        | .ret v => Q (.ret v) s₃) NoE { s with heap := h₁, toks := tk₁ }) ∧
      (c = false → ∀ h₁ tk₁, Kp h h₁ → Q .next { s with heap := h₁, toks := tk₁ })) :
    wpAny (model prog w) A (exec (.While test body [] pos) env) Q E s := by
  refine wpAny_While (codeAny_whileLoop (fun k s' => ∃ h tk, s' = { s with heap := h, toks := tk } ∧ Ch env.locals xs W s.heap h ∧ Inv k h) ?_ n ⟨s.heap, s.toks, rfl, Ch.refl hn, h0⟩)
  rintro k s' ⟨h, tk, rfl, hch, hinv⟩
  obtain ⟨c, ht, hb, hf⟩ := turn k h tk hch hinv
  refine ht.use (E := _) fun h₁ tk₁ kp => ?_
  cases c with
  | true =>
    refine wpAny_mono (hb rfl h₁ tk₁ kp) (fun f s₃ h₃ => ?_) fun _ _ x => x.elim
    have fin : (∃ h' tk' m, s₃ = { s with heap := h', toks := tk' } ∧ Ch env.locals xs W h₁ h' ∧ m < k ∧ Inv m h') → ∃ m, m < k ∧ ∃ h tk, s₃ = { s with heap := h, toks := tk } ∧ Ch env.locals xs W s.heap h ∧ Inv m h := by
      rintro ⟨h', tk', m, rfl, c2, hm, i2⟩
      exact ⟨m, hm, h', tk', rfl, (hch.after kp).trans c2, i2⟩
    cases f with
    | next => exact fin h₃
    | cont => exact fin h₃
    | brk => exact h₃
    | ret v => exact h₃
  | false => exact wpAny_execs_nil (hf rfl h₁ tk₁ kp)
end
end Mine
end
-- text A4
section
open PySem PySem.W PyProof.Rows
set_option Elab.async false
set_option linter.unusedVariables false
set_option maxRecDepth 100000
namespace Mine
section
variable {prog : Program} {w : World} {A : Around} {env : Env} {s s₀ : Shared}

/-- what a comprehension leaves: a new list D of ys, the picks of the items vs -/
def CompOut (h₀ : Heap) (n : Nat) (P : Nat → Value → Prop) (p : Value → Bool) (F : Value → Value → Prop) (v : Value) (h : Heap) : Prop :=
  ∃ D ys, ∃ vs : List Value, v = .ref D ∧ h.PlainList D ys ∧ h₀.get? D = none ∧ vs.length = n ∧ (∀ j u, vs[j]? = some u → P j u) ∧ Paired F (vs.filter p) ys.toList

theorem quiet_of {s₂ : Shared} {scope : Scope} {cl : List (Str × Addr)} {x : Str} {ifs : List Expr} {elt : Expr} {wr : List Addr} {P : Nat → Value → Prop} {p : Value → Bool} {F : Value → Value → Prop}
    (hwr : ∀ b ∈ wr, s₀.heap.get? b = none) (k : Kp s₀.heap s₂.heap)
    (htests : ∀ C i v s₃, P i v → Var s₃.heap C x v → Kp s₀.heap s₃.heap →
      wpAny (model prog w) A (forIn ifs true fun c r => if r = true then do let ok ← isTrue c (compEnvC scope cl C env) (eval c (compEnvC scope cl C env)); pure (ForInStep.yield ok) else pure (ForInStep.yield r)) (fun ok s₄ => ok = p v ∧ Keeps s₃ s₄) NoE s₃)
    (helt : ∀ C i v s₃, P i v → p v = true → Var s₃.heap C x v → Kp s₀.heap s₃.heap → Ev prog w A (compEnvC scope cl C env) s₃ elt (fun y _ => F v y)) :
    QuietOnC prog w A env scope cl x ifs elt wr P p F s₂ where
  tests := fun C i v s₃ m₃ E' _ hv hn hm hk _ =>
    wpAny_mono (htests C i v s₃ hv ⟨m₃, hn, hm⟩ fun b o e => hk b o (fun hb => by rw [hwr b hb] at e; cases e) (k b o e)) (fun _ _ h => h) fun _ _ x => x.elim
  elt := fun C i v s₃ m₃ E' _ hv hp hn hm hk _ =>
    wpAny_mono (helt C i v s₃ hv hp ⟨m₃, hn, hm⟩ (fun b o e => hk b o (fun hb => by rw [hwr b hb] at e; cases e) (k b o e)) s₃ (keeps_refl s₃)) (fun _ _ h => h) fun _ _ x => x.elim

theorem tests_nil (s₃ : Shared) {env : Env} : wpAny (model prog w) A (forIn ([] : List Expr) true fun c r => if r = true then do let ok ← isTrue c env (eval c env); pure (ForInStep.yield ok) else pure (ForInStep.yield r)) (fun ok s₄ => ok = true ∧ Keeps s₃ s₄) NoE s₃ :=
  wpAny_tests_nil ⟨rfl, keeps_refl s₃⟩
theorem tests_one {s₃ : Shared} {env : Env} {c : Expr} {b : Bool} (h : Ts prog w A env s₃ c b) : wpAny (model prog w) A (forIn [c] true fun c r => if r = true then do let ok ← isTrue c env (eval c env); pure (ForInStep.yield ok) else pure (ForInStep.yield r)) (fun ok s₄ => ok = b ∧ Keeps s₃ s₄) NoE s₃ :=
  wpAny_tests_one (h s₃ (keeps_refl s₃))

theorem ev_comp {elt iter : Expr} {x : Str} {px pos : Pos} {ifs : List Expr} {scope : Scope} {cl : List (Str × Addr)} {src : List Addr} {n : Nat} {P : Nat → Value → Prop} (p : Value → Bool) (F : Value → Value → Prop)
    (hclos : closureFor scope env = pure cl) (hcell : ∀ y ∈ scope.names, y.2 ≠ .cell) (hkind : scope.kind = .function)
    (hnames : ∀ y ∈ scope.names, y.2 = .local → scope.names.lookup y.1 = some .local) (hx : scope.names.lookup x = some .local)
    (hsrc : Src prog w A env s₀ iter src n P) (hz : n ≤ sizeLine)
    (htests : ∀ C i v s₃, P i v → Var s₃.heap C x v → Kp s₀.heap s₃.heap →
      wpAny (model prog w) A (forIn ifs true fun c r => if r = true then do let ok ← isTrue c (compEnvC scope cl C env) (eval c (compEnvC scope cl C env)); pure (ForInStep.yield ok) else pure (ForInStep.yield r)) (fun ok s₄ => ok = p v ∧ Keeps s₃ s₄) NoE s₃)
    (helt : ∀ C i v s₃, P i v → p v = true → Var s₃.heap C x v → Kp s₀.heap s₃.heap → Ev prog w A (compEnvC scope cl C env) s₃ elt (fun y _ => F v y))
    (hs : ∀ x, foldedSetIterable iter env x = pure x := by intro _; rfl) :
    Ev prog w A env s₀ (.ListComp elt [⟨.Name x px, iter, ifs, 0⟩] scope pos) (CompOut s₀.heap n P p F) := fun s hk => by
  refine wpAny_ListComp_free p F hclos hcell hkind hnames hx (wpAny_mono (hsrc s hk) (fun xv s₁ h₁ => wpAny_mono h₁ (fun it s₂ h₂ => ?_) fun _ _ x => x) fun _ _ x => x) hs
  obtain ⟨I, fp, wr, St, rfl, Wk, hst, _, hwr, hfpz, k₂⟩ := h₂
  refine ⟨I, fp, wr, n, P, St, rfl, Wk, hz, hst, hfpz, quiet_of (s₀ := s) hwr (Keeps.kp k₂) (fun C i v s₃ a b c => htests C i v s₃ a b ((Keeps.kp hk).trans c)) (fun C i v s₃ a b c d => helt C i v s₃ a b c ((Keeps.kp hk).trans d)), ?_⟩
  intro D h' tk ys vs hD _ hpl hlen hP hF hkk
  have kp : Kp s.heap h' := fun b o e => hkk b o (fun hb => by rw [hwr b hb] at e; cases e) (Keeps.kp k₂ b o e)
  obtain ⟨h₂', tk₂, rfl, kp₂⟩ := k₂
  exact ⟨⟨D, ys, vs, rfl, hpl, none_of_keeps hk (none_of_keeps (keeps_kp (k := tk₂) kp₂) hD), hlen, hP, hF⟩, h', tk, rfl, kp⟩

theorem st_assign_comp {elt iter : Expr} {x y : Str} {px py pos spos : Pos} {ifs : List Expr} {scope : Scope} {cl : List (Str × Addr)} {src : List Addr} {n : Nat} {P : Nat → Value → Prop} {E : Value → Shared → Prop} {Q : Flow → Shared → Prop}
    (p : Value → Bool) (F : Value → Value → Prop) (hn : HasNs s.heap env.locals)
    (hclos : closureFor scope env = pure cl) (hcell : ∀ y ∈ scope.names, y.2 ≠ .cell) (hkind : scope.kind = .function)
    (hnames : ∀ y ∈ scope.names, y.2 = .local → scope.names.lookup y.1 = some .local) (hx : scope.names.lookup x = some .local)
    (hsrc : Src prog w A env s iter src n P) (hz : n ≤ sizeLine)
    (htests : ∀ C i v s₃, P i v → Var s₃.heap C x v → Kp s.heap s₃.heap →
      wpAny (model prog w) A (forIn ifs true fun c r => if r = true then do let ok ← isTrue c (compEnvC scope cl C env) (eval c (compEnvC scope cl C env)); pure (ForInStep.yield ok) else pure (ForInStep.yield r)) (fun ok s₄ => ok = p v ∧ Keeps s₃ s₄) NoE s₃)
    (helt : ∀ C i v s₃, P i v → p v = true → Var s₃.heap C x v → Kp s.heap s₃.heap → Ev prog w A (compEnvC scope cl C env) s₃ elt (fun y _ => F v y))
    (k : ∀ v h' tk, CompOut s.heap n P p F v h' → Ch env.locals [y] [] s.heap h' → Var h' env.locals y v → Q .next { s with heap := h', toks := tk })
    (hsw : swapsWith (.ListComp elt [⟨.Name x px, iter, ifs, 0⟩] scope pos) (some (.Name y py)) spos.line env = pure true := by rfl)
    (hk : env.scope.kind = .function := by rfl) (hy : env.kindOf y = some .local := by rfl)
    (hs : ∀ x, foldedSetIterable iter env x = pure x := by intro _; rfl) :
    wpAny (model prog w) A (exec (.Assign [.Name y py] (.ListComp elt [⟨.Name x px, iter, ifs, 0⟩] scope pos) spos) env) Q E s := by
  refine wpAny_mono (E := NoE) (wpAny_Assign_ListComp_free (Q := Q) p F hsw hclos hcell hkind hnames hx hy (by simp [hk]) (wpAny_mono (hsrc s (keeps_refl s)) (fun xv s₁ h₁ => wpAny_mono h₁ (fun it s₂ h₂ => ?_) fun _ _ x => x) fun _ _ x => x) hs) (fun _ _ h => h) fun _ _ x => x.elim
  obtain ⟨I, fp, wr, St, rfl, Wk, hst, hfp, hwr, hfpz, k₂⟩ := h₂
  obtain ⟨m, hm⟩ := hn
  have hLw : env.locals ∉ wr := fun hb => by
    obtain ⟨o, _, _, ho, _⟩ := hm
    rw [hwr _ hb] at ho; cases ho
  refine ⟨I, fp, wr, n, P, St, m, rfl, Wk, hz, hst, hfpz, hLw, hm.keeps (Keeps.kp k₂), quiet_of (s₀ := s) hwr (Keeps.kp k₂) htests helt, ?_⟩
  intro D h' tk ys vs hD _ hpl hlen hP hF hns hkk
  have hD0 : s.heap.get? D = none := none_of_keeps k₂ hD
  have kb : ∀ b o, b ≠ env.locals → s.heap.get? b = some o → h'.get? b = some o := fun b o hb e => hkk b o hb (fun hw => by rw [hwr b hw] at e; cases e) (Keeps.kp k₂ b o e)
  obtain ⟨h₂', tk₂, rfl, kp₂⟩ := k₂
  refine k (.ref D) h' tk ⟨D, ys, vs, rfl, hpl, hD0, hlen, hP, hF⟩ ⟨fun b o hb _ e => kb b o hb e, ⟨_, hns⟩, fun z v hz e => ⟨_, hns, ?_⟩⟩ ⟨_, hns, by simp⟩
  have hne : z ≠ y := fun q => hz (by simp [q])
  simp only [if_neg hne]
  exact e.eq hm

/-- for a, b in enumerate(list) -/
theorem for_enum {e₁ e₂ le : Expr} {ep tp cp pos : Pos} {tk0 : Nat} {body : List Stmt} {xs : List Str} {W : List Addr} {l : Addr} {items : Array Value} {E : Value → Shared → Prop} {Q : Flow → Shared → Prop} (Inv : Nat → Heap → Prop)
    (hh : A.handled = none) (hn : HasNs s.heap env.locals)
    (hf : Ev prog w A env s (.Name "enumerate" ep) (isV (.type "enumerate"))) (hle : Ev prog w A env s le (isV (.ref l))) (hl : s.heap.IsList l items) (hW : l ∉ W ∧ l ≠ env.locals)
    (hWold : ∀ b ∈ W, ∃ o, s.heap.get? b = some o)
    (h0 : ∀ h, Kp s.heap h → Inv 0 h)
    (hInv : ∀ i h h', Inv i h → (∀ b o, (∃ o', s.heap.get? b = some o') → h.get? b = some o → h'.get? b = some o) → Inv i h')
    (turn : ∀ i v t h tk, items[i]? = some v → Ch env.locals xs W s.heap h → Inv i h →
      wpAny (model prog w) A (assign e₁ env (.int i t)) (fun _ s₁ => wpAny (model prog w) A (assign e₂ env v) (fun _ s₂ => wpAny (model prog w) A (execs body env) (fun f s₃ => match f with
        | .next | .cont => ∃ h' tk', s₃ = { s with heap := h', toks := tk' } ∧ Ch env.locals xs W h h' ∧ Inv (i + 1) h'
        | .brk => Q .next s₃
        | .ret v => Q (.ret v) s₃) NoE s₂) NoE s₁) NoE { s with heap := h, toks := tk })
    (done : ∀ h tk, Ch env.locals xs W s.heap h → Inv items.size h → Q .next { s with heap := h, toks := tk })
    (hae : assignEach [e₁, e₂] env = [(false, assign e₁ env), (false, assign e₂ env)] := by rfl)
    (hb : backTo cp (starEach [le] env) = [(false, eval le env)] := by rfl)
    (hs : ∀ x, foldedSetIterable (.Call (.Name "enumerate" ep) [le] [] cp) env x = pure x := by intro _; rfl) :
    wpAny (model prog w) A (exec (.For (.Tuple [e₁, e₂] tk0 tp) (.Call (.Name "enumerate" ep) [le] [] cp) body [] pos) env) Q E s := by
  refine wpAny_For (wpAny_Call_NameR (wpAny_mono (hf s (keeps_refl s)) (fun f s₁ h₁ => ?_) fun _ _ x => x.elim)) hs
  obtain ⟨rfl, k₁⟩ := h₁
  rw [hb]
  refine PySem.callWith_type rfl (Calls.evalArgs_plain (Calls.spliced_cons (wpAny_mono (hle s₁ k₁) (fun v₁ s₂ h₂ => Calls.spliced_nil ?_) fun _ _ e => e.elim)))
  obtain ⟨rfl, k₂⟩ := h₂
  have k12 := keeps_trans k₁ k₂
  have hl₂ : s₂.heap.IsList l items := hl.at fun o e => Keeps.kp k12 l o e
  have hlt : l < s₂.heap.objs.size := let ⟨_, e, _⟩ := hl₂; Heap.lt_size e
  refine call_enumerate_list hl₂ fun h₃ he hit hsz kp₃ => ?_
  have hl₃ : h₃.IsList l items := hl₂.at fun o e => kp₃ l o e
  refine wpAny_pyIter_enum he ?_
  have kk : Keeps s { s₂ with heap := h₃ } := keeps_trans k12 ⟨h₃, s₂.toks, rfl, kp₃⟩
  have fr1 : s.heap.get? s₂.heap.objs.size = none := none_of_keeps k12 (get_size_none _)
  have fr2 : s.heap.get? (s₂.heap.objs.size + 1) = none := none_of_keeps k12 (get_none_ge (Nat.le_succ _))
  have Wk := WalksT.enumerate (prog := prog) (w := w) hh (s₂.heap.objs.size + 1) s₂.heap.objs.size l (Nat.succ_ne_self _) (Nat.ne_of_lt (Nat.lt_succ_of_lt hlt)) (Nat.ne_of_lt hlt) items
  have hLold : ∃ o, s.heap.get? env.locals = some o := let ⟨m, o, _, _, ho, _⟩ := hn; ⟨o, ho⟩
  have hwr : ∀ b ∈ [s₂.heap.objs.size + 1, s₂.heap.objs.size], s.heap.get? b = none := fun b hb => by
    rcases List.mem_cons.mp hb with rfl | hb
    · exact fr2
    · rw [List.mem_singleton.mp hb]; exact fr1
  have hwrO : ∀ b ∈ [s₂.heap.objs.size + 1, s₂.heap.objs.size], ∀ o, s.heap.get? b = some o → False := fun b hb o e => by rw [hwr b hb] at e; cases e
  have hfpL : ∀ b ∈ [s₂.heap.objs.size + 1, s₂.heap.objs.size, l], b ≠ env.locals ∧ b ∉ W := fun b hb => by
    have new : s.heap.get? b = none → b ≠ env.locals ∧ b ∉ W := fun h => by
      refine ⟨fun e => ?_, fun e => ?_⟩
      · obtain ⟨o, ho⟩ := hLold; rw [← e, h] at ho; cases ho
      · obtain ⟨o, ho⟩ := hWold b e; rw [h] at ho; cases ho
    rcases List.mem_cons.mp hb with rfl | hb
    · exact new fr2
    · rcases List.mem_cons.mp hb with rfl | hb
      · exact new fr1
      · rw [List.mem_singleton.mp hb]; exact ⟨hW.2, hW.1⟩
  obtain ⟨H, tkH, eH, kpH⟩ := kk
  rw [eH]
  have eH' : h₃ = H := congrArg Shared.heap eH
  subst eH'
  refine codeAny_forLoop_any (fun k s' => ∃ i h tk, s' = { s with heap := h, toks := tk } ∧ i ≤ items.size ∧ k = items.size + 1 - i ∧ Ch env.locals xs W s.heap h ∧ Inv i h ∧
      ((∃ old, IsEnum h (s₂.heap.objs.size + 1) s₂.heap.objs.size i old) ∧ h.IsListIter s₂.heap.objs.size l i ∧ h.IsList l items)) ?_ (items.size + 1)
    ⟨0, _, _, rfl, Nat.zero_le _, rfl, Ch.kp hn kpH, h0 _ kpH, ⟨⟨_, he⟩, hit, hl₃⟩⟩
  rintro k s' ⟨i, h, tk, rfl, hi, rfl, hch, hinv, hsti⟩
  have move : ∀ h', (∀ b o, b ∉ [s₂.heap.objs.size + 1, s₂.heap.objs.size] → h.get? b = some o → h'.get? b = some o) → Ch env.locals xs W s.heap h' ∧ Inv i h' := fun h' hk => by
    have hk' : ∀ b o, (∃ o', s.heap.get? b = some o') → h.get? b = some o → h'.get? b = some o := fun b o ⟨o', e'⟩ e => hk b o (fun hb => hwrO b hb o' e') e
    have hL : ∀ o, h.get? env.locals = some o → h'.get? env.locals = some o := fun o e => hk' _ o hLold e
    have hnn : HasNs h' env.locals := let ⟨m, nn⟩ := hch.ns; ⟨m, nn.at' hL⟩
    exact ⟨⟨fun b o h1 h2 e => hk' b o ⟨o, e⟩ (hch.kb b o h1 h2 e), hnn, fun x v hx e => (hch.lk x v hx e).at hL⟩, hInv i h h' hinv hk'⟩
  by_cases hlt : i < items.size
  · refine Wk.item i _ _ _ hlt hsti fun T vals h₁ tk₁ hP hT hTt hMid hk₁ => ?_
    obtain ⟨t, v, hv, rfl⟩ := hP
    refine Wk.go _ _ _ i T _ _ _ hMid fun h₂ hst₂ hk₂ => ?_
    have hTt₂ : h₂.IsTuple T #[.int i t, v] := hTt.at fun o e => hk₂ T o (Wk.apart i T h₁ hMid) e
    refine wpAny_assign_Tuple hh hTt₂ (by rw [hae]; rfl) (by rw [hae]; rfl) fun h₄ hx₄ => ?_
    rw [hae]
    have hk12 : ∀ b o, b ∉ [s₂.heap.objs.size + 1, s₂.heap.objs.size] → h.get? b = some o → h₄.get? b = some o := fun b o hb e => by
      have e2 : h₂.get? b = some o := hk₂ b o hb (hk₁ b o hb e)
      exact hx₄ b o (Nat.ne_of_lt (Heap.lt_size e2)) e2
    obtain ⟨c1, i1⟩ := move h₄ hk12
    have st₄ : (∃ old, IsEnum h₄ (s₂.heap.objs.size + 1) s₂.heap.objs.size ((i + 1 : Nat) : Int) old) ∧ h₄.IsListIter s₂.heap.objs.size l (i + 1) ∧ h₄.IsList l items :=
      Wk.frame (i + 1) h₂ h₄ hst₂ fun b _ o e => hx₄ b o (Nat.ne_of_lt (Heap.lt_size e)) e
    show wpAny _ A (do holding [v] (assign e₁ env (.int i t)); do holding [] (assign e₂ env v); pure ()) _ _ _
    refine wpAny_bind (wpAny_holding (wpAny_mono (turn i v t h₄ tk₁ hv c1 i1) (fun _ s₅ h₅ => wpAny_bind (wpAny_holding (wpAny_mono h₅ (fun _ s₆ h₆ => wpAny_pure (wpAny_mono h₆ (fun f s₃ h₃ => ?_) fun _ _ x => x.elim)) fun _ _ x => x.elim))) fun _ _ x => x.elim))
    have fin : (∃ h' tk', s₃ = { s with heap := h', toks := tk' } ∧ Ch env.locals xs W h₄ h' ∧ Inv (i + 1) h') →
        ∃ m, m < items.size + 1 - i ∧ ∃ i h tk, s₃ = { s with heap := h, toks := tk } ∧ i ≤ items.size ∧ m = items.size + 1 - i ∧ Ch env.locals xs W s.heap h ∧ Inv i h ∧
          ((∃ old, IsEnum h (s₂.heap.objs.size + 1) s₂.heap.objs.size i old) ∧ h.IsListIter s₂.heap.objs.size l i ∧ h.IsList l items) := by
      rintro ⟨h', tk', rfl, c2, i2⟩
      refine ⟨items.size + 1 - (i + 1), by omega, i + 1, h', tk', rfl, hlt, rfl, c1.trans c2, i2, ?_⟩
      exact Wk.frame (i + 1) _ _ st₄ fun b hb o e => c2.kb b o (hfpL b hb).1 (hfpL b hb).2 e
    cases f with
    | next => exact fin h₃
    | cont => exact fin h₃
    | brk => exact h₃
    | ret v => exact h₃
  · have hin : i = items.size := by omega
    subst hin
    refine Wk.done _ _ _ hsti fun h₁ tk₁ hk₁ => wpAny_execs_nil ?_
    obtain ⟨c1, i1⟩ := move h₁ hk₁
    exact done h₁ tk₁ c1 i1
end
end Mine
end
-- text A5
section
open PySem PySem.W PyProof.Rows
set_option Elab.async false
set_option linter.unusedVariables false
set_option maxRecDepth 100000
namespace Mine
section
variable {prog : Program} {w : World} {A : Around} {env : Env} {s s₀ : Shared}

/-- a built-in function called by its name, one argument -/
theorem ev_call1 {f : Str} {p pos : Pos} {e : Expr} {id : String} {P S : Value → Heap → Prop} (hf : Ev prog w A env s₀ (.Name f p) (isV (.builtin id))) (he : Ev prog w A env s₀ e P)
    (k : ∀ v h, P v h → ∀ s, s.heap = h → Keeps s₀ s → wpAny (model prog w) A (call (.builtin id) [v]) (fun r s' => S r s'.heap ∧ Keeps s s') NoE s)
    (hs : backTo pos (starEach [e] env) = [(false, eval e env)] := by rfl) :
    Ev prog w A env s₀ (.Call (.Name f p) [e] [] pos) S := fun s hk => by
  refine wpAny_Call_NameR (wpAny_mono (hf s hk) (fun f s₁ h₁ => ?_) fun _ _ x => x)
  obtain ⟨rfl, k₁⟩ := h₁
  rw [hs]
  refine Calls.callWith_builtin rfl (Calls.evalArgs_plain (Calls.spliced_cons (wpAny_mono (he s₁ (keeps_trans hk k₁)) (fun v₁ s₂ h₂ => Calls.spliced_nil ?_) fun _ _ e => e)))
  exact wpAny_mono (k v₁ _ h₂.1 s₂ rfl (keeps_trans (keeps_trans hk k₁) h₂.2)) (fun r s₃ h₃ => ⟨h₃.1, keeps_trans (keeps_trans k₁ h₂.2) h₃.2⟩) fun _ _ x => x
/-- two arguments -/
theorem ev_call2 {f : Str} {p pos : Pos} {e₁ e₂ : Expr} {id : String} {P R S : Value → Heap → Prop} (hf : Ev prog w A env s₀ (.Name f p) (isV (.builtin id))) (he₁ : Ev prog w A env s₀ e₁ P) (he₂ : Ev prog w A env s₀ e₂ R)
    (k : ∀ v u h₁ h₂, P v h₁ → Kp h₁ h₂ → R u h₂ → ∀ s, s.heap = h₂ → Keeps s₀ s → wpAny (model prog w) A (call (.builtin id) [v, u]) (fun r s' => S r s'.heap ∧ Keeps s s') NoE s)
    (hs : backTo pos (starEach [e₁, e₂] env) = [(false, eval e₁ env), (false, eval e₂ env)] := by rfl) :
    Ev prog w A env s₀ (.Call (.Name f p) [e₁, e₂] [] pos) S := fun s hk => by
  refine wpAny_Call_NameR (wpAny_mono (hf s hk) (fun f s₁ h₁ => ?_) fun _ _ x => x)
  obtain ⟨rfl, k₁⟩ := h₁
  rw [hs]
  refine Calls.callWith_builtin rfl (Calls.evalArgs_plain (Calls.spliced_cons (wpAny_mono (he₁ s₁ (keeps_trans hk k₁)) (fun v₁ s₂ h₂ => Calls.spliced_cons (wpAny_mono (he₂ s₂ (keeps_trans (keeps_trans hk k₁) h₂.2)) (fun v₂ s₃ h₃ => Calls.spliced_nil ?_) fun _ _ e => e)) fun _ _ e => e)))
  exact wpAny_mono (k v₁ v₂ _ _ h₂.1 (Keeps.kp h₃.2) h₃.1 s₃ rfl (keeps_trans (keeps_trans (keeps_trans hk k₁) h₂.2) h₃.2)) (fun r s₄ h₄ => ⟨h₄.1, keeps_trans (keeps_trans (keeps_trans k₁ h₂.2) h₃.2) h₄.2⟩) fun _ _ x => x

theorem ev_len_str {p pos : Pos} {e : Expr} {x : Str} (hf : Ev prog w A env s₀ (.Name "len" p) (isV (.builtin "len"))) (he : Ev prog w A env s₀ e (isS x)) (hz : x.length < 2 ^ 63)
    (hs : backTo pos (starEach [e] env) = [(false, eval e env)] := by rfl) : Ev prog w A env s₀ (.Call (.Name "len" p) [e] [] pos) (isI x.length) :=
  ev_call1 hf he (fun v h ⟨t, hv⟩ s _ _ => by subst hv; exact P.len_str (by omega) ⟨⟨_, rfl⟩, keeps_toks s _⟩) hs
theorem ev_len_list {p pos : Pos} {e : Expr} {a : Addr} {items : Array Value} (hf : Ev prog w A env s₀ (.Name "len" p) (isV (.builtin "len"))) (he : Ev prog w A env s₀ e (isV (.ref a))) (ha : s₀.heap.IsList a items) (hz : items.size < 2 ^ 63)
    (hs : backTo pos (starEach [e] env) = [(false, eval e env)] := by rfl) : Ev prog w A env s₀ (.Call (.Name "len" p) [e] [] pos) (isI items.size) :=
  ev_call1 hf he (fun v h hv s _ hk => by subst hv; exact len_list (ha.at fun o e => Keeps.kp hk a o e) (by omega) ⟨⟨_, rfl⟩, keeps_toks s _⟩) hs
theorem ev_len_dict {p pos : Pos} {e : Expr} {d : Addr} {kvs : List (Str × Value)} (hf : Ev prog w A env s₀ (.Name "len" p) (isV (.builtin "len"))) (he : Ev prog w A env s₀ e (isV (.ref d))) (hd : s₀.heap.DictOf (strKind prog w) d kvs)
    (hsm : (d == sysModules) = false) (hz : kvs.length < 2 ^ 63)
    (hs : backTo pos (starEach [e] env) = [(false, eval e env)] := by rfl) : Ev prog w A env s₀ (.Call (.Name "len" p) [e] [] pos) (isI kvs.length) :=
  ev_call1 hf he (fun v h hv s _ hk => by subst hv; exact call_len_dict hsm (hd.keep (Keeps.kp hk)) (by omega) ⟨⟨_, rfl⟩, keeps_toks s _⟩) hs
theorem ev_min2 {p pos : Pos} {e₁ e₂ : Expr} {a b : Int} (hh : A.handled = none) (hf : Ev prog w A env s₀ (.Name "min" p) (isV (.builtin "min"))) (he₁ : Ev prog w A env s₀ e₁ (isI a)) (he₂ : Ev prog w A env s₀ e₂ (isI b))
    (hs : backTo pos (starEach [e₁, e₂] env) = [(false, eval e₁ env), (false, eval e₂ env)] := by rfl) : Ev prog w A env s₀ (.Call (.Name "min" p) [e₁, e₂] [] pos) (isI (min a b)) :=
  ev_call2 hf he₁ he₂ (fun v u h₁ h₂ ⟨t, h1⟩ _ ⟨t', h2⟩ s _ _ => by
    subst h1 h2
    refine min_two_ints hh fun h' tk hk => ⟨?_, keeps_kp hk⟩
    split
    · exact ⟨t', by congr 1; omega⟩
    · exact ⟨t, by congr 1; omega⟩) hs

/-- a method of a built-in, called -/
theorem ev_join {pl : Sem Bool} {p apos pos : Pos} {k : Nat} {e : Expr} {sep : Str} {ys : List Str} {P : Value → Heap → Prop} (he : Ev prog w A env s₀ e P)
    (hP : ∀ v h, P v h → Kp s₀.heap h → ∃ D items, v = .ref D ∧ h.IsList D items ∧ StrsAre items.toList ys)
    (hz : (ys.map (·.length)).sum + ys.length * sep.length ≤ 16777216)
    (hs : backTo pos (starEach [e] env) = [(false, eval e env)] := by rfl)
    (hev : eval (.Call (.Attribute (.Constant (.str sep) k p) "join" apos) [e] [] pos) env = (do
      let ov ← eval (.Constant (.str sep) k p) env
      standAt apos.atName
      let (f, first) ← holding [ov] (getMethod ov "join" pl)
      callWith pos f first (backTo pos (starEach [e] env)) []) := by rfl) :
    Ev prog w A env s₀ (.Call (.Attribute (.Constant (.str sep) k p) "join" apos) [e] [] pos) (isS (Txt.join sep ys)) := fun s hk => by
  refine MethodCall_ (pl := pl) (wpAny_Constant_str ?_) hev
  refine GM.join ?_
  rw [hs]
  refine Calls.callWith_builtin rfl (Calls.evalArgs_plain (Calls.spliced_cons (wpAny_mono (he _ (keeps_trans hk (keeps_toks s _))) (fun v₁ s₂ h₂ => Calls.spliced_nil ?_) fun _ _ e => e)))
  obtain ⟨D, items, rfl, hl, hS⟩ := hP _ _ h₂.1 (Keeps.kp (keeps_trans (keeps_trans hk (keeps_toks s _)) h₂.2))
  exact join_list hl hS hz fun t' k => ⟨⟨t', rfl⟩, keeps_trans (keeps_trans (keeps_toks s _) h₂.2) (keeps_toks s₂ k)⟩

/-- xs.append(e) as a statement -/
theorem st_append {o e : Expr} {apos cpos pos : Pos} {D : Addr} {items : Array Value} {P : Value → Heap → Prop} {E : Value → Shared → Prop} {Q : Flow → Shared → Prop} (hn : HasNs s.heap env.locals)
    (ho : Ev prog w A env s o (isV (.ref D))) (hl : s.heap.PlainList D items) (hD : D ≠ env.locals) (he : Ev prog w A env s e P) (hz : items.size ≤ sizeLine)
    (k : ∀ v h₁ h₂ tk, P v h₁ → Kp s.heap h₁ → Ch env.locals [] [D] h₁ h₂ → h₂.PlainList D (items.push v) → Q .next { s with heap := h₂, toks := tk })
    (hbase : attributeBase o "append" env (eval o env) = eval o env := by rfl)
    (hfew : ((backTo cpos (starEach [e] env)).all (fun x => !x.1) && (backToKw cpos (keywordEach [] env)).all (fun x => x.1.isSome)
      && decide (([e] : List Expr).length + ([] : List Keyword).length + (if ([] : List Keyword).isEmpty then 0 else 1) < 30)) = true := by rfl)
    (hline : (apos.endLine == cpos.line) = true := by rfl)
    (htrees : backTo cpos (starEach [e] env) = [(false, eval e env)] := by rfl)
    (hi : interactive env = false := by rfl) (hs : swapsWith (.Call (.Attribute o "append" apos) [e] [] cpos) none pos.line env = pure false := by rfl) :
    wpAny (model prog w) A (exec (.Expr (.Call (.Attribute o "append" apos) [e] [] cpos) pos) env) Q E s := by
  refine wpAny_Expr (wpAny_Call_append hbase hfew hline htrees (ho.use fun v h₁ tk₁ hv kp₁ => ?_)) hi hs
  subst hv
  have hl₁ : h₁.PlainList D items := hl.at fun o e => kp₁ D o e
  obtain ⟨n₁, e₁⟩ := id hl₁
  refine ⟨D, items, rfl, ⟨_, n₁, e₁, rfl, rfl, rfl⟩, ?_⟩
  refine (he.at (keeps_kp kp₁)).use (s := { s with heap := h₁, toks := tk₁ }) fun v h₂ tk₂ hP kp₂ => ?_
  refine wpAny_list_append_plain (hsz := hz) (hl₁.at fun o e => kp₂ D o e) fun h₃ hl₃ hs₃ => ?_
  exact k v h₂ h₃ tk₂ hP (kp₁.trans kp₂) (Ch.obj (hn.kp (kp₁.trans kp₂)) hs₃ hD) hl₃

/-- xs[i] = e -/
theorem st_setitem {o i e : Expr} {ppos pos : Pos} {D : Addr} {items : Array Value} {kx : Int} {P : Value → Heap → Prop} {E : Value → Shared → Prop} {Q : Flow → Shared → Prop} (hn : HasNs s.heap env.locals)
    (he : Ev prog w A env s e P) (ho : Ev prog w A env s o (isV (.ref D))) (hi : Ev prog w A env s i (isI kx)) (hl : s.heap.IsList D items) (hD : D ≠ env.locals) (h0 : 0 ≤ kx) (hfit : kx < 2 ^ 63) (hlt : kx < items.size)
    (k : ∀ v h₁ h₂ tk, P v h₁ → Kp s.heap h₁ → Ch env.locals [] [D] h₁ h₂ → h₂.IsList D (items.setIfInBounds kx.toNat v) → Q .next { s with heap := h₂, toks := tk })
    (hs : swapsWith e (some (.Subscript o i ppos)) pos.line env = pure false := by rfl) :
    wpAny (model prog w) A (exec (.Assign [.Subscript o i ppos] e pos) env) Q E s := by
  refine wpAny_Assign_Subscript (he.use fun v h₁ tk₁ hP kp₁ => ?_) hs
  refine (ho.at (keeps_kp kp₁)).use (s := { s with heap := h₁, toks := tk₁ }) fun ov h₂ tk₂ hov kp₂ => ?_
  refine (hi.at (keeps_kp (kp₁.trans kp₂))).use (s := { s with heap := h₂, toks := tk₂ }) fun iv h₃ tk₃ hiv kp₃ => ?_
  subst hov
  obtain ⟨t, rfl⟩ := hiv
  refine wpAny_setItem_list (hl.at fun o e => kp₃ D o (kp₂ D o (kp₁ D o e))) h0 hfit hlt fun h₄ hl₄ hs₄ => ?_
  exact k v h₁ h₄ tk₃ hP kp₁ (Ch.before (kp₂.trans kp₃) (Ch.obj (hn.kp ((kp₁.trans kp₂).trans kp₃)) hs₄ hD)) hl₄

/-- d[key] = e, the dict keyed by texts -/
theorem st_dictset {o i e : Expr} {ppos pos : Pos} {d : Addr} {kvs : List (Str × Value)} {x : Str} {P : Value → Heap → Prop} {E : Value → Shared → Prop} {Q : Flow → Shared → Prop} (hn : HasNs s.heap env.locals)
    (he : Ev prog w A env s e P) (ho : Ev prog w A env s o (isV (.ref d))) (hi : Ev prog w A env s i (isS x)) (hd : s.heap.DictOf (strKind prog w) d kvs) (hD : d ≠ env.locals) (hz : kvs.length ≤ sizeLine)
    (k : ∀ v h₁ h₂ tk, P v h₁ → Kp s.heap h₁ → Ch env.locals [] [d] h₁ h₂ → h₂.DictOf (strKind prog w) d (stored kvs x v) → Q .next { s with heap := h₂, toks := tk })
    (hs : swapsWith e (some (.Subscript o i ppos)) pos.line env = pure false := by rfl) :
    wpAny (model prog w) A (exec (.Assign [.Subscript o i ppos] e pos) env) Q E s := by
  refine wpAny_Assign_Subscript (he.use fun v h₁ tk₁ hP kp₁ => ?_) hs
  refine (ho.at (keeps_kp kp₁)).use (s := { s with heap := h₁, toks := tk₁ }) fun ov h₂ tk₂ hov kp₂ => ?_
  refine (hi.at (keeps_kp (kp₁.trans kp₂))).use (s := { s with heap := h₂, toks := tk₂ }) fun iv h₃ tk₃ hiv kp₃ => ?_
  subst hov
  obtain ⟨t, rfl⟩ := hiv
  refine wpAny_setItem_pairs (strKind_is prog w x t) (hd.keep ((kp₁.trans kp₂).trans kp₃)) (fun h₄ hd₄ hs₄ => ?_) hz
  exact k v h₁ h₄ _ hP kp₁ (Ch.before (kp₂.trans kp₃) (Ch.obj (hn.kp ((kp₁.trans kp₂).trans kp₃)) hs₄ hD)) hd₄

/-- an empty dict; an empty list; displays of a list -/
theorem ev_dict0 {pos : Pos} (hm : ∃ o, s₀.heap.get? mainGlobals = some o) : Ev prog w A env s₀ (.Dict [] [] pos) (fun v h => ∃ d, v = .ref d ∧ h.DictOf (strKind prog w) d [] ∧ s₀.heap.get? d = none ∧ (d == sysModules) = false) := fun s hk => by
  refine wpAny_Dict_empty ⟨⟨_, rfl, Heap.DictOf.new s.heap, none_of_keeps hk (get_size_none _), ?_⟩, keeps_push s _ _⟩
  obtain ⟨o, ho⟩ := hm
  have h3 : mainGlobals < s.heap.objs.size := Heap.lt_size (Keeps.kp hk _ _ ho)
  have h1 : sysModules < mainGlobals := by decide
  exact beq_eq_false_iff_ne.mpr (Nat.ne_of_gt (Nat.lt_trans h1 h3))
theorem ev_list0 {pos : Pos} (hs : backTo pos (starEach [] env) = [] := by rfl) : Ev prog w A env s₀ (.List [] pos) (fun v h => ∃ d, v = .ref d ∧ h.PlainList d #[] ∧ s₀.heap.get? d = none) := fun s hk => by
  refine wpAny_List_spliced ?_
  rw [hs]
  exact Calls.spliced_nil ⟨Nat.zero_le _, ⟨_, rfl, ⟨_, Heap.get?_push_size _ rfl⟩, none_of_keeps hk (get_size_none _)⟩, keeps_push s _ _⟩
theorem ev_list1 {e : Expr} {pos : Pos} {P : Value → Heap → Prop} (he : Ev prog w A env s₀ e P) (hs : backTo pos (starEach [e] env) = [(false, eval e env)] := by rfl) :
    Ev prog w A env s₀ (.List [e] pos) (fun v h => ∃ d u h₁, v = .ref d ∧ h.PlainList d #[u] ∧ s₀.heap.get? d = none ∧ P u h₁ ∧ Kp h₁ h) := fun s hk => by
  refine wpAny_List_spliced ?_
  rw [hs]
  refine Calls.spliced_cons (wpAny_mono (he s hk) (fun v₁ s₂ h₂ => Calls.spliced_nil ⟨by show 1 ≤ sizeLine; decide, ?_⟩) fun _ _ x => x)
  exact ⟨⟨_, v₁, s₂.heap, rfl, ⟨_, Heap.get?_push_size _ rfl⟩, none_of_keeps (keeps_trans hk h₂.2) (get_size_none _), h₂.1, fun b o e => Heap.get?_push_of_some _ e⟩, keeps_trans h₂.2 (keeps_push s₂ _ _)⟩
end
end Mine
end
-- text A6
section
open PySem PySem.W PyProof.Rows
set_option Elab.async false
set_option linter.unusedVariables false
set_option maxRecDepth 100000
namespace Mine

/-- a def of the text stands at f -/
def FnAt (h : Heap) (f : Addr) (qual : Str) (params : Arguments) (body : List Stmt) (scope : Scope) (dV : Value) (cdv : Value) : Prop :=
  ∃ o name kV doc pm an ct, h.get? f = some o ∧ o.data = .func (fnOf name qual params body scope dV kV doc pm an cdv ct) ∧ h.CodeRec cdv qual
theorem FnAt.kp {h h' : Heap} {f : Addr} {qual : Str} {params : Arguments} {body : List Stmt} {scope : Scope} {dV cdv : Value} (x : FnAt h f qual params body scope dV cdv) (k : Kp h h') : FnAt h' f qual params body scope dV cdv := by
  obtain ⟨o, name, kV, doc, pm, an, ct, ho, hd, hc⟩ := x
  exact ⟨o, name, kV, doc, pm, an, ct, k _ _ ho, hd, hc.keeps k⟩

section
variable {prog : Program} {w : World} {A : Around} {env : Env} {s s₀ : Shared}

/-- calling it: the frame is new, all that stood stands -/
theorem code_fn {R : Result → Shared → Prop} {f : Addr} {qual : Str} {params : Arguments} {body : List Stmt} {scope : Scope} {dV cdv : Value} {args : Args} {binds : List (Str × Value)}
    (hroom : A.depth < recursionLimit) (hlim : s.heap.NoLimit) (hf : FnAt s.heap f qual params body scope dV cdv)
    (hbind : ∀ name kV doc pm an ct, BindsTo s (fnOf name qual params body scope dV kV doc pm an cdv ct) args binds) (hloc : ∀ y ∈ binds, scope.names.lookup y.1 = some .local)
    (h : ∀ h₁ tk, Kp s.heap h₁ → h₁.Ns s.heap.objs.size (fun y => binds.reverse.lookup y) → s.heap.get? s.heap.objs.size = none →
      wpAny (model prog w) (A.deeper (envOf qual scope s.heap.objs.size f cdv)) (execs body (envOf qual scope s.heap.objs.size f cdv))
        (fun fl s' => R (.ok (.ret (match fl with | .ret v => v | _ => .none))) s')
        (fun e s' => wpAny (model prog w) (A.deeper (envOf qual scope s.heap.objs.size f cdv)) (leaving (envOf qual scope s.heap.objs.size f cdv) e) (fun _ s'' => R (.error e) s'') (fun e' s'' => R (.error e') s'') s')
        { s with heap := h₁, toks := tk })
    (hcell : ∀ x ∈ scope.names, x.2 ≠ .cell) (hco : scope.isCoroutine = false) (hgen : scope.isGenerator = false) (hk : scope.kind = .function) :
    codeAny (model prog w) A (.call (.ref f) args) R s := by
  obtain ⟨o, name, kV, doc, pm, an, ct, ho, hd, hc⟩ := hf
  exact codeAny_call_def (fd := fnOf name qual params body scope dV kV doc pm an cdv ct) (body := body) (binds := binds) hroom ho hd hlim hc rfl (hbind name kV doc pm an ct) hcell hloc (fun h₁ hns hk₁ => h h₁ _ hk₁ hns (get_size_none _)) hco hgen hk

/-- the contract of a def's call: a value with P, all kept -/
theorem call_fn {f : Addr} {qual : Str} {params : Arguments} {body : List Stmt} {scope : Scope} {dV cdv : Value} {args : List Value} {binds : List (Str × Value)} {P : Value → Heap → Prop}
    (hroom : A.depth < recursionLimit) (hlim : s.heap.NoLimit) (hf : FnAt s.heap f qual params body scope dV cdv)
    (hbind : ∀ name kV doc pm an ct, BindsTo s (fnOf name qual params body scope dV kV doc pm an cdv ct) ⟨args, []⟩ binds) (hloc : ∀ y ∈ binds, scope.names.lookup y.1 = some .local)
    (h : ∀ L h₁ tk, Kp s.heap h₁ → h₁.Ns L (fun y => binds.reverse.lookup y) → s.heap.get? L = none →
      wpAny (model prog w) (A.deeper (envOf qual scope L f cdv)) (execs body (envOf qual scope L f cdv)) (fun fl s' => P (match fl with | .ret v => v | _ => .none) s'.heap ∧ Keeps s s') NoE { s with heap := h₁, toks := tk })
    (hcell : ∀ x ∈ scope.names, x.2 ≠ .cell) (hco : scope.isCoroutine = false) (hgen : scope.isGenerator = false) (hk : scope.kind = .function) :
    wpAny (model prog w) A (call (.ref f) args) (fun v s' => P v s'.heap ∧ Keeps s s') NoE s :=
  wpAny_call (code_fn hroom hlim hf hbind hloc (fun h₁ tk kp ns fr => wpAny_mono (h _ h₁ tk kp ns fr) (fun fl s' q => q) fun _ _ x => x.elim) hcell hco hgen hk)

/-- f(e), f a def of the text -/
theorem ev_callfn1 {x : Str} {p pos : Pos} {e : Expr} {f : Addr} {qual : Str} {params : Arguments} {body : List Stmt} {scope : Scope} {dV cdv : Value} {P S : Value → Heap → Prop}
    (hf : Ev prog w A env s₀ (.Name x p) (isV (.ref f))) (hfn : FnAt s₀.heap f qual params body scope dV cdv) (he : Ev prog w A env s₀ e P)
    (k : ∀ v h, P v h → ∀ s, s.heap = h → Keeps s₀ s → wpAny (model prog w) A (call (.ref f) [v]) (fun r s' => S r s'.heap ∧ Keeps s s') NoE s)
    (hs : backTo pos (starEach [e] env) = [(false, eval e env)] := by rfl) :
    Ev prog w A env s₀ (.Call (.Name x p) [e] [] pos) S := fun s hk => by
  refine wpAny_Call_NameR (wpAny_mono (hf s hk) (fun f' s₁ h₁ => ?_) fun _ _ x => x)
  obtain ⟨rfl, k₁⟩ := h₁
  rw [hs]
  obtain ⟨o, name, kV, doc, pm, an, ct, ho, hd, hc⟩ := hfn
  refine Calls.callWith_function (o := o) (Calls.evalArgs_plain (Calls.spliced_cons (wpAny_mono (he s₁ (keeps_trans hk k₁)) (fun v₁ s₂ h₂ => Calls.spliced_nil ⟨⟨Keeps.kp (keeps_trans (keeps_trans hk k₁) h₂.2) _ _ ho, hd⟩, ?_⟩) fun _ _ e => e)))
  exact wpAny_mono (k v₁ _ h₂.1 s₂ rfl (keeps_trans (keeps_trans hk k₁) h₂.2)) (fun r s₃ h₃ => ⟨h₃.1, keeps_trans (keeps_trans k₁ h₂.2) h₃.2⟩) fun _ _ x => x

/-- o.m(e), m a def of the class of the object o -/
theorem ev_meth1 {pl : Sem Bool} {oe e : Expr} {m : Str} {apos pos : Pos} {K : Frag} {x C f : Addr} {ox : Obj} {od : Obj} {qual : Str} {params : Arguments} {body : List Stmt} {scope : Scope} {dV cdv : Value} {P S : Value → Heap → Prop}
    (ho : Ev prog w A env s₀ oe (isV (.ref x))) (X : K.In s₀.heap) (hI : ∀ h, Kp s₀.heap h → InstAt h x ox C (some od))
    (hg : plainGet K C m = true) (hm : findIn K (.ref C) m = some (some (.ref f))) (hmf : isFn K (.ref f) = true) (hl : lookIn m od = some none)
    (hfn : FnAt s₀.heap f qual params body scope dV cdv) (he : Ev prog w A env s₀ e P)
    (k : ∀ v h, P v h → ∀ s, s.heap = h → Keeps s₀ s → wpAny (model prog w) A (call (.ref f) [.ref x, v]) (fun r s' => S r s'.heap ∧ Keeps s s') NoE s)
    (hs : backTo pos (starEach [e] env) = [(false, eval e env)] := by rfl)
    (hev : eval (.Call (.Attribute oe m apos) [e] [] pos) env = (do
      let ov ← eval oe env
      standAt apos.atName
      let (f, first) ← holding [ov] (getMethod ov m pl)
      callWith pos f first (backTo pos (starEach [e] env)) []) := by rfl) :
    Ev prog w A env s₀ (.Call (.Attribute oe m apos) [e] [] pos) S := fun s hk => by
  refine MethodCall_ (pl := pl) (wpAny_mono (ho s hk) (fun v s₁ h₁ => ?_) fun _ _ x => x) hev
  obtain ⟨rfl, k₁⟩ := h₁
  have kk := keeps_trans hk k₁
  refine method_fn (X.keeps (Keeps.kp kk)) (hI _ (Keeps.kp kk)) (plainGet_of hg).1 (plainGet_of hg).2 hm (beq_iff_eq.mp hmf) (by show (lookIn m od).map _ = _; rw [hl]; rfl) ?_
  rw [hs]
  obtain ⟨o, name, kV, doc, pm, an, ct, ho', hd, hc⟩ := hfn
  refine Calls.callWith_function (o := o) (Calls.evalArgs_plain (Calls.spliced_cons (wpAny_mono (he s₁ kk) (fun v₁ s₂ h₂ => Calls.spliced_nil ⟨⟨Keeps.kp (keeps_trans kk h₂.2) _ _ ho', hd⟩, ?_⟩) fun _ _ e => e)))
  exact wpAny_mono (k v₁ _ h₂.1 s₂ rfl (keeps_trans kk h₂.2)) (fun r s₃ h₃ => ⟨h₃.1, keeps_trans (keeps_trans k₁ h₂.2) h₃.2⟩) fun _ _ x => x

/-- the frame L over a base that lies below it -/
theorem fr_of {s s₀ : Shared} {base : Heap} {L : Addr} (n : HasNs s₀.heap L) (kb : Kp base s₀.heap) (hb : base.objs.size ≤ L) (hk : Keeps s₀ s) : ∃ m, Fr base L s.heap m :=
  let ⟨m, nm⟩ := n; ⟨m, nm.keeps (Keeps.kp hk), kb.trans (Keeps.kp hk), hb⟩

/-- e in o, by the class's __contains__ -/
theorem ci_in_inst {K : Frag} {base : Heap} {x C f L : Addr} {ox od : Obj} {P : Value → Heap → Prop} {c : Bool} (n : HasNs s₀.heap L) (kb : Kp base s₀.heap) (hb : base.objs.size ≤ L) (X : K.In base) (hI : ∀ h, Kp s₀.heap h → InstAt h x ox C (some od))
    (hm : findIn K (.ref C) "__contains__" = some (some (.ref f))) (hmf : isFn K (.ref f) = true)
    (k : ∀ v h, P v h → ∀ s, Kp h s.heap → Keeps s₀ s → wpAny (model prog w) A (call (.ref f) [.ref x, v]) (fun r s' => isB c r s'.heap ∧ Keeps s s') NoE s) :
    CmpIs prog w A .In P (isV (.ref x)) c s₀ := fun a b h₁ h₂ hp _ kp he s hs hk => by
  subst he hs
  obtain ⟨m, F⟩ := fr_of n kb hb hk
  refine in_K F X (hI _ (Keeps.kp hk)) hm hmf (wpAny_mono (k a _ hp s kp hk) (fun r s' q => ?_) fun _ _ x => x)
  obtain ⟨rfl, q2⟩ := q
  exact wpAny_truthy_bool ⟨rfl, q2⟩
theorem ci_notin_inst {K : Frag} {base : Heap} {x C f L : Addr} {ox od : Obj} {P : Value → Heap → Prop} {c : Bool} (n : HasNs s₀.heap L) (kb : Kp base s₀.heap) (hb : base.objs.size ≤ L) (X : K.In base) (hI : ∀ h, Kp s₀.heap h → InstAt h x ox C (some od))
    (hm : findIn K (.ref C) "__contains__" = some (some (.ref f))) (hmf : isFn K (.ref f) = true)
    (k : ∀ v h, P v h → ∀ s, Kp h s.heap → Keeps s₀ s → wpAny (model prog w) A (call (.ref f) [.ref x, v]) (fun r s' => isB c r s'.heap ∧ Keeps s s') NoE s) :
    CmpIs prog w A .NotIn P (isV (.ref x)) (!c) s₀ := fun a b h₁ h₂ hp _ kp he s hs hk => by
  subst he hs
  obtain ⟨m, F⟩ := fr_of n kb hb hk
  refine notIn_K F X (hI _ (Keeps.kp hk)) hm hmf (wpAny_mono (k a _ hp s kp hk) (fun r s' q => ?_) fun _ _ x => x)
  obtain ⟨rfl, q2⟩ := q
  exact wpAny_truthy_bool ⟨rfl, q2⟩

/-- o[e], by the class's __getitem__ -/
theorem ev_item_inst {oe e : Expr} {pos : Pos} {K : Frag} {base : Heap} {x C f L : Addr} {ox od : Obj} {P S : Value → Heap → Prop}
    (ho : Ev prog w A env s₀ oe (isV (.ref x))) (he : Ev prog w A env s₀ e P) (n : HasNs s₀.heap L) (kb : Kp base s₀.heap) (hb : base.objs.size ≤ L) (X : K.In base) (hI : ∀ h, Kp s₀.heap h → InstAt h x ox C (some od))
    (hm : findIn K (.ref C) "__getitem__" = some (some (.ref f))) (hf : fnIn K f = true) (hmf : isFn K (.ref f) = true)
    (k : ∀ v h, P v h → ∀ s, s.heap = h → Keeps s₀ s → wpAny (model prog w) A.in1 (call (.ref f) [.ref x, v]) (fun r s' => S r s'.heap ∧ Keeps s s') NoE s)
    (hsl : ∀ i, subscripted e true (.ref x) i = runValue (.builtin "lifetime.subscript" ⟨[.ref x, i], []⟩) := by intro _; rfl) :
    Ev prog w A env s₀ (.Subscript oe e pos) S := fun s hk => by
  refine Subscript_ (wpAny_mono (ho s hk) (fun o s₁ h₁ => wpAny_mono (he s₁ (keeps_trans hk h₁.2)) (fun i s₂ h₂ => ?_) fun _ _ x => x) fun _ _ x => x)
  obtain ⟨rfl, k₁⟩ := h₁
  have kk := keeps_trans (keeps_trans hk k₁) h₂.2
  obtain ⟨m, F⟩ := fr_of n kb hb kk
  exact sub_K F X (hI _ (Keeps.kp kk)) hm hf hmf (wpAny_mono (k i _ h₂.1 s₂ rfl kk) (fun v s' z => ⟨z.1, keeps_trans (keeps_trans k₁ h₂.2) z.2⟩) fun _ _ z => z) (hsl i)

/-- o.a, a value of the object's own dict -/
theorem ev_attr {oe : Expr} {a : Str} {pos : Pos} {K : Frag} {x C : Addr} {ox : Obj} {es : List DictEntry} {n : Nat} {v : Value}
    (ho : Ev prog w A env s₀ oe (isV (.ref x))) (X : K.In s₀.heap) (hI : ∀ h, Kp s₀.heap h → InstAt h x ox C (some (dictOf es n)))
    (hg : plainGet K C a = true) (hh : hasDictIn K C = true) (ha : findIn K (.ref C) a = some none) (hl : getL a es = some (some v)) (hv : handedIn v = true)
    (he : eval (.Attribute oe a pos) env = (do
      let o ← eval oe env
      standAt pos.atName
      let r ← holding [o] (getAttr o a true)
      letTemporaryGo oe o r
      pure r) := by with_unfolding_all rfl) :
    Ev prog w A env s₀ (.Attribute oe a pos) (isV v) := fun s hk => by
  refine Attribute_any_ (wpAny_mono (ho s hk) (fun o s₁ h₁ => ?_) fun _ _ x => x) he
  obtain ⟨rfl, k₁⟩ := h₁
  have kk := keeps_trans hk k₁
  exact get_value (X.keeps (Keeps.kp kk)) (hI _ (Keeps.kp kk)) (plainGet_of hg).1 (findObj_own hh ha (by rfl) hl) hv ⟨rfl, keeps_trans k₁ (keeps_toks s₁ _)⟩
end
end Mine
end
-- text A7
section
open PySem PySem.W PyProof.Rows PySem.Builtin PySem.Builtin.Str
set_option Elab.async false
set_option linter.unusedVariables false
set_option maxRecDepth 100000
namespace Mine

/-- a text by its signs -/
abbrev S (l : List Nat) : PySem.Str := ⟨l.toArray⟩
theorem S_eta (x : PySem.Str) : S x.cps.toList = x := rfl
theorem S_inj {a b : List Nat} (h : S a = S b) : a = b := by simpa using congrArg (fun x : PySem.Str => x.cps.toList) h
theorem S_append (a b : List Nat) : S a ++ S b = S (a ++ b) := by
  show (⟨a.toArray ++ b.toArray⟩ : PySem.Str) = _
  simp
theorem S_length (a : List Nat) : (S a).length = a.length := rfl
theorem S_beq (a b : List Nat) : (S a == S b) = decide (a = b) := by
  by_cases h : a = b
  · subst h; simp
  · rw [decide_eq_false h, beq_eq_false_iff_ne]; exact fun q => h (S_inj q)

theorem filterMap_congr' {α β : Type} {f g : α → Option β} : ∀ {l : List α}, (∀ x ∈ l, f x = g x) → l.filterMap f = l.filterMap g
  | [], _ => rfl
  | a :: r, h => by
    rw [List.filterMap_cons, List.filterMap_cons, h a (by simp), filterMap_congr' fun x hx => h x (by simp [hx])]
theorem range_pick (l : List Nat) (a b : Int) (ha : 0 ≤ a) (hb : b ≤ l.length) : (sliceRange a b 1).filterMap (l[·]?) = (l.drop a.toNat).take (b - a).toNat := by
  unfold sliceRange
  simp only [show (1 : Int) > 0 from by decide, if_true]
  by_cases h : a < b
  · rw [if_pos h]
    have e : ((b - a + 1 - 1) / 1).toNat = (b - a).toNat := by simp
    rw [e, List.filterMap_map]
    apply List.ext_getElem?
    intro i
    rw [List.getElem?_take]
    by_cases hi : i < (b - a).toNat
    · rw [if_pos hi]
      have hf : ∀ k ∈ List.range (b - a).toNat, ((fun x => l[x]?) ∘ fun (k : Nat) => (a + 1 * (k : Int)).toNat) k = some (l.getD (a.toNat + k) 0) := by
        intro k hk
        have hk' := List.mem_range.mp hk
        have e1 : (a + 1 * (k : Int)).toNat = a.toNat + k := by omega
        simp only [Function.comp, e1]
        rw [List.getD_eq_getElem?_getD]
        have : a.toNat + k < l.length := by omega
        simp [this]
      have hmap : (List.range (b - a).toNat).filterMap ((fun x => l[x]?) ∘ fun (k : Nat) => (a + 1 * (k : Int)).toNat) = (List.range (b - a).toNat).map fun k => l.getD (a.toNat + k) 0 := by
        rw [← List.filterMap_eq_map]
        exact filterMap_congr' hf
      rw [hmap, List.getElem?_map, List.getElem?_range hi, List.getElem?_drop]
      have : a.toNat + i < l.length := by omega
      simp [this]
    · rw [if_neg hi]
      apply List.getElem?_eq_none
      refine Nat.le_trans (List.length_filterMap_le _ _) ?_
      simp; omega
  · rw [if_neg h]
    have : (b - a).toNat = 0 := by omega
    simp [this]

/-- where a bound of a slice falls -/
def clip (n : Nat) (d : Int) : Option Int → Int
  | none => d
  | some i => max 0 (min (if i < 0 then i + n else i) n)
theorem slice_S (l : List Nat) (lo hi : Option Int) : Txt.slice (S l) lo hi = S ((l.drop (clip l.length 0 lo).toNat).take (clip l.length l.length hi - clip l.length 0 lo).toNat) := by
  have hidx : strSliceIndices lo hi 1 (S l).length = sliceRange (clip l.length 0 lo) (clip l.length l.length hi) 1 := by
    unfold strSliceIndices clip
    simp only [show (1 : Int) > 0 from by decide, if_true, S_length]
    cases lo <;> cases hi <;> rfl
  have h0 : 0 ≤ clip l.length 0 lo := by unfold clip; cases lo <;> simp; omega
  have h1 : clip l.length l.length hi ≤ l.length := by unfold clip; cases hi <;> simp; omega
  have hp := range_pick l _ _ h0 h1
  unfold Txt.slice
  rw [hidx]
  have hget : (sliceRange (clip l.length 0 lo) (clip l.length l.length hi) 1).filterMap ((S l).cps[·]?) = (sliceRange (clip l.length 0 lo) (clip l.length l.length hi) 1).filterMap (l[·]?) := by simp
  split
  · rename_i h
    simp only [S_length, Bool.and_eq_true, beq_iff_eq] at h
    congr 1
    congr 1
    have hl : ((sliceRange (clip l.length 0 lo) (clip l.length l.length hi) 1)).length = l.length := h.2
    have hlen : (sliceRange (clip l.length 0 lo) (clip l.length l.length hi) 1).length = (clip l.length l.length hi - clip l.length 0 lo).toNat := by
      unfold sliceRange
      simp only [show (1 : Int) > 0 from by decide, if_true, List.length_map, List.length_range]
      split <;> simp <;> omega
    rw [hlen] at hl
    by_cases hz : l.length = 0
    · have : l = [] := List.length_eq_zero_iff.mp hz
      subst this; simp
    · have ha : (clip l.length 0 lo).toNat = 0 := by omega
      rw [ha, List.drop_zero, List.take_of_length_le (by omega)]
  · rw [hget, hp]

theorem slice_from (l : List Nat) (i : Nat) : Txt.slice (S l) (some (i : Int)) none = S (l.drop i) := by
  rw [slice_S]
  refine congrArg S ?_
  unfold clip
  have : ¬ ((i : Int) < 0) := by omega
  simp only [this, if_false]
  by_cases h : i ≤ l.length
  · have e1 : (max 0 (min (i : Int) (l.length : Int))) = i := by omega
    rw [e1]
    simp
    rw [List.take_of_length_le]; simp
  · have e1 : (max 0 (min (i : Int) (l.length : Int))) = l.length := by omega
    rw [e1]
    simp
    omega
theorem slice_to (l : List Nat) (j : Nat) : Txt.slice (S l) none (some (j : Int)) = S (l.take j) := by
  rw [slice_S]
  refine congrArg S ?_
  unfold clip
  have : ¬ ((j : Int) < 0) := by omega
  simp only [this, if_false]
  by_cases h : j ≤ l.length
  · have e1 : (max 0 (min (j : Int) (l.length : Int))) = j := by omega
    rw [e1]; simp
  · have e1 : (max 0 (min (j : Int) (l.length : Int))) = l.length := by omega
    rw [e1]; simp
    rw [List.take_of_length_le (by omega)]
theorem slice_between (l : List Nat) (i j : Nat) : Txt.slice (S l) (some (i : Int)) (some (j : Int)) = S ((l.drop i).take (j - i)) := by
  rw [slice_S]
  refine congrArg S ?_
  unfold clip
  have h1 : ¬ ((j : Int) < 0) := by omega
  have h2 : ¬ ((i : Int) < 0) := by omega
  simp only [h1, h2, if_false]
  by_cases hi : i ≤ l.length
  · have e1 : (max 0 (min (i : Int) (l.length : Int))) = i := by omega
    rw [e1]
    by_cases h : j ≤ l.length
    · have e2 : (max 0 (min (j : Int) (l.length : Int))) = j := by omega
      rw [e2]
      have : ((j : Int) - (i : Int)).toNat = j - i := by omega
      simp [this]
    · have e2 : (max 0 (min (j : Int) (l.length : Int))) = l.length := by omega
      rw [e2]
      have : ((l.length : Int) - (i : Int)).toNat = l.length - i := by omega
      simp only [Int.toNat_natCast, this]
      rw [List.take_of_length_le (by simp), List.take_of_length_le (by simp; omega)]
  · have e1 : (max 0 (min (i : Int) (l.length : Int))) = l.length := by omega
    rw [e1]
    simp
    omega
/-- x[:-i], i from 1 -/
theorem slice_but (l : List Nat) (i : Nat) (hi : 1 ≤ i) : Txt.slice (S l) none (some (-(i : Int))) = S (l.take (l.length - i)) := by
  rw [slice_S]
  refine congrArg S ?_
  unfold clip
  have h1 : (-(i : Int)) < 0 := by omega
  simp only [h1, if_true]
  by_cases h : i ≤ l.length
  · have e1 : (max 0 (min (-(i : Int) + (l.length : Int)) (l.length : Int))) = ((l.length - i : Nat) : Int) := by omega
    rw [e1]; simp
  · have e1 : (max 0 (min (-(i : Int) + (l.length : Int)) (l.length : Int))) = 0 := by omega
    have e2 : l.length - i = 0 := by omega
    rw [e1, e2]; simp

/-- x in y -/
theorem contains_S (x y : List Nat) : Txt.contains (S x) (S y) = decide (y <:+: x) := by
  have h := StrLaws.found_iff (S x) (S y)
  show (!(occurrences (S x) (S y) 0 (S x).length 1).isEmpty) = _
  by_cases hy : y <:+: x
  · rw [decide_eq_true hy, h]
    obtain ⟨a, b, e⟩ := hy
    refine ⟨a.length, ?_, ?_⟩
    · simp only [S_length]; rw [← e]; simp
    · rw [StrLaws.subAt_eq]
      simp only [S_length]
      rw [← e]
      simp
  · rw [decide_eq_false hy, Bool.eq_false_iff, ne_eq, h]
    rintro ⟨i, h1, h2⟩
    rw [StrLaws.subAt_eq] at h2
    simp only [S_length] at h1 h2
    have h3 : (x.drop i).take y.length = y := by simpa using h2
    apply hy
    refine ⟨x.take i, x.drop (i + y.length), ?_⟩
    rw [← h3]
    conv => rhs; rw [← List.take_append_drop i x]
    rw [List.append_assoc]
    congr 1
    rw [← List.drop_drop]
    have h4 : ((x.drop i).take y.length).length = y.length := by rw [h3]
    rw [h4]
    exact List.take_append_drop _ _
end Mine
end
-- text A8
section
open PySem PySem.W PyProof.Rows PySem.Builtin PySem.Builtin.Str
set_option Elab.async false
set_option linter.unusedVariables false
set_option maxRecDepth 100000
namespace Mine
theorem range_getl {α : Type} (l : List α) : ∀ n : Nat, (List.range n).filterMap (fun k => l[k]?) = l.take n
  | 0 => by simp
  | n + 1 => by
    rw [List.range_succ, List.filterMap_append, range_getl l n, List.take_add_one]
    congr 1
theorem range_pickA {α : Type} (l : List α) (a b : Int) (ha : 0 ≤ a) : (sliceRange a b 1).filterMap (l[·]?) = (l.drop a.toNat).take (b - a).toNat := by
  unfold sliceRange
  simp only [show (1 : Int) > 0 from by decide, if_true]
  have e : (if a < b then (b - a + 1 - 1) / 1 else 0).toNat = (b - a).toNat := by split <;> simp <;> omega
  rw [e, List.filterMap_map, ← range_getl]
  refine filterMap_congr' fun k _ => ?_
  simp only [Function.comp, List.getElem?_drop]
  congr 1
  omega
theorem slicePick_to (items : Array Value) (j : Nat) : slicePick items none (some (j : Int)) none = (items.toList.take j).toArray := by
  unfold slicePick
  congr 1
  have hb : sliceBounds none (some (j : Int)) none items.size = (0, min (j : Int) items.size, 1) := by
    unfold sliceBounds
    have h1 : ¬ ((j : Int) < 0) := by omega
    simp only [Option.getD, show (1 : Int) > 0 from by decide, if_true, h1, if_false]
    congr 2
    omega
  rw [hb]
  have := range_pickA items.toList 0 (min (j : Int) items.size) (by decide)
  simp at this ⊢
  rw [this]
  by_cases h : j ≤ items.size
  · congr 1; omega
  · rw [List.take_of_length_le (by simp; omega), List.take_of_length_le (by simp; omega)]

/-- what stands: the base, the frame, some objects, some names -/
structure Live (base : Heap) (L : Addr) (os : List (Addr × Obj)) (vs : List (PySem.Str × Value)) (h : Heap) : Prop where
  kb : Kp base h
  ns : HasNs h L
  ob : ∀ p ∈ os, h.get? p.1 = some p.2
  va : ∀ q ∈ vs, Var h L q.1 q.2
  nl : ∀ p ∈ os, p.1 ≠ L
  lf : base.get? L = none

namespace Live
variable {base h h' : Heap} {L : Addr} {os os' : List (Addr × Obj)} {vs vs' : List (PySem.Str × Value)}
theorem step {xs : List PySem.Str} {W : List Addr} (x : Live base L os vs h) (ch : Ch L xs W h h') (hW : ∀ b ∈ W, base.get? b = none) (hWo : ∀ b ∈ W, ∀ p ∈ os, p.1 ≠ b) (hx : ∀ q ∈ vs, q.1 ∉ xs) : Live base L os vs h' where
  kb := fun b o e => ch.kb b o (fun q => by rw [q, x.lf] at e; cases e) (fun q => by rw [hW b q] at e; cases e) (x.kb b o e)
  ns := ch.ns
  ob := fun p hp => ch.kb _ _ (x.nl p hp) (fun q => hWo _ q p hp rfl) (x.ob p hp)
  va := fun q hq => ch.lk _ _ (hx q hq) (x.va q hq)
  nl := x.nl
  lf := x.lf
theorem kp (x : Live base L os vs h) (k : Kp h h') : Live base L os vs h' where
  kb := x.kb.trans k
  ns := x.ns.kp k
  ob := fun p hp => k _ _ (x.ob p hp)
  va := fun q hq => (x.va q hq).kp k
  nl := x.nl
  lf := x.lf
theorem addVar {y : PySem.Str} {v : Value} (x : Live base L os vs h) (hv : Var h L y v) : Live base L os ((y, v) :: vs) h where
  kb := x.kb
  ns := x.ns
  ob := x.ob
  va := fun q hq => by
    rcases List.mem_cons.mp hq with rfl | hq
    · exact hv
    · exact x.va q hq
  nl := x.nl
  lf := x.lf
theorem addObj {a : Addr} {o : Obj} (x : Live base L os vs h) (ha : h.get? a = some o) (hn : a ≠ L) : Live base L ((a, o) :: os) vs h where
  kb := x.kb
  ns := x.ns
  ob := fun q hq => by
    rcases List.mem_cons.mp hq with rfl | hq
    · exact ha
    · exact x.ob q hq
  va := x.va
  nl := fun q hq => by
    rcases List.mem_cons.mp hq with rfl | hq
    · exact hn
    · exact x.nl q hq
  lf := x.lf
theorem sub (x : Live base L os vs h) (h1 : ∀ p ∈ os', p ∈ os) (h2 : ∀ q ∈ vs', q ∈ vs) : Live base L os' vs' h where
  kb := x.kb
  ns := x.ns
  ob := fun p hp => x.ob p (h1 p hp)
  va := fun q hq => x.va q (h2 q hq)
  nl := fun p hp => x.nl p (h1 p hp)
  lf := x.lf
/-- a new address is none of the old -/
theorem fresh (x : Live base L os vs h) {b : Addr} (hb : h.get? b = none) : (∀ p ∈ os, p.1 ≠ b) ∧ b ≠ L ∧ base.get? b = none := by
  refine ⟨fun p hp q => ?_, fun q => ?_, ?_⟩
  · have := x.ob p hp; rw [q, hb] at this; cases this
  · obtain ⟨m, o, _, _, ho, _⟩ := x.ns
    rw [← q, hb] at ho; cases ho
  · cases e : base.get? b with
    | none => rfl
    | some o => have := x.kb b o e; rw [hb] at this; cases this
end Live

theorem ns_dict {h : Heap} {L : Addr} (n : HasNs h L) : ∃ o es ep, h.get? L = some o ∧ o.data = .dict es ep := let ⟨_, o, es, ep, ho, hd, _⟩ := n; ⟨o, es, ep, ho, hd⟩
theorem plain_ne_ns {h : Heap} {a L : Addr} {items : Array Value} (x : h.PlainList a items) (n : HasNs h L) : a ≠ L := by
  rintro rfl
  obtain ⟨o, es, ep, ho, hd⟩ := ns_dict n
  obtain ⟨k, e⟩ := x
  rw [ho] at e; cases e; cases hd
theorem list_ne_ns {h : Heap} {a L : Addr} {items : Array Value} (x : h.IsList a items) (n : HasNs h L) : a ≠ L := by
  rintro rfl
  obtain ⟨o, es, ep, ho, hd⟩ := ns_dict n
  obtain ⟨o', e, _, k, hd'⟩ := x
  rw [ho] at e; cases e; rw [hd] at hd'; cases hd'
theorem cell_ne_ns {h : Heap} {c L : Addr} {v : Option Value} (x : h.IsCell c v) (n : HasNs h L) : c ≠ L := by
  rintro rfl
  obtain ⟨o, es, ep, ho, hd⟩ := ns_dict n
  obtain ⟨o', e, hd'⟩ := x
  rw [ho] at e; cases e; rw [hd] at hd'; cases hd'
theorem list_ne_cell {h : Heap} {a c : Addr} {items : Array Value} {v : Option Value} (x : h.IsList a items) (y : h.IsCell c v) : a ≠ c := by
  rintro rfl
  obtain ⟨o, e, _, k, hd⟩ := x
  obtain ⟨o', e', hd'⟩ := y
  rw [e] at e'; cases e'; rw [hd] at hd'; cases hd'
theorem dict_ne_list {prog : Program} {w : World} {h : Heap} {a d : Addr} {items : Array Value} {kvs : List (PySem.Str × Value)} (x : h.DictOf (strKind prog w) d kvs) (y : h.IsList a items) : d ≠ a := by
  rintro rfl
  obtain ⟨o, es, ep, ho, _, hd, _⟩ := x
  obtain ⟨o', e', _, k, hd'⟩ := y
  rw [ho] at e'; cases e'; rw [hd] at hd'; cases hd'
theorem dict_ne_cell {prog : Program} {w : World} {h : Heap} {c d : Addr} {v : Option Value} {kvs : List (PySem.Str × Value)} (x : h.DictOf (strKind prog w) d kvs) (y : h.IsCell c v) : d ≠ c := by
  rintro rfl
  obtain ⟨o, es, ep, ho, _, hd, _⟩ := x
  obtain ⟨o', e', hd'⟩ := y
  rw [ho] at e'; cases e'; rw [hd] at hd'; cases hd'

/-- built-in names -/
structure BiG (h : Heap) (x : PySem.Str) (v : Value) : Prop where
  g : ∃ m, h.Ns mainGlobals m ∧ m x = none
  b : Var h builtinsNs x v
theorem BiG.kp {h h' : Heap} {x : PySem.Str} {v : Value} (a : BiG h x v) (k : Kp h h') : BiG h' x v := ⟨let ⟨m, n, e⟩ := a.g; ⟨m, n.keeps k, e⟩, a.b.kp k⟩

theorem ints_of {vs : List Value} {ns : List Int} (h : IntsAre vs ns) {i : Nat} {v : Value} (e : vs[i]? = some v) : ∃ n t, ns[i]? = some n ∧ v = .int n t := by
  induction h generalizing i with
  | nil => simp at e
  | cons n t h ih =>
    cases i with
    | zero => simp at e; exact ⟨n, t, by simp, e.symm⟩
    | succ i => simp at e; obtain ⟨n', t', h1, h2⟩ := ih e; exact ⟨n', t', by simpa using h1, h2⟩
theorem strs_of {vs : List Value} {ys : List PySem.Str} (h : StrsAre vs ys) {i : Nat} {v : Value} (e : vs[i]? = some v) : ∃ y t, ys[i]? = some y ∧ v = .str y t := by
  induction h generalizing i with
  | nil => simp at e
  | cons n t h ih =>
    cases i with
    | zero => simp at e; exact ⟨n, t, by simp, e.symm⟩
    | succ i => simp at e; obtain ⟨n', t', h1, h2⟩ := ih e; exact ⟨n', t', by simpa using h1, h2⟩
theorem strs_len {vs : List Value} {ys : List PySem.Str} (h : StrsAre vs ys) : vs.length = ys.length := by
  induction h with
  | nil => rfl
  | cons n t h ih => simp [ih]
theorem ints_len {vs : List Value} {ys : List Int} (h : IntsAre vs ys) : vs.length = ys.length := by
  induction h with
  | nil => rfl
  | cons n t h ih => simp [ih]
theorem ints_take {vs : List Value} {ns : List Int} (h : IntsAre vs ns) : ∀ k : Nat, IntsAre (vs.take k) (ns.take k) := by
  induction h with
  | nil => intro k; simp; exact .nil
  | cons n t h ih =>
    intro k
    cases k with
    | zero => simp; exact .nil
    | succ k => simp; exact .cons n t (ih k)
theorem strs_snoc {vs : List Value} {ys : List PySem.Str} (h : StrsAre vs ys) (x : PySem.Str) (t : Tok) : StrsAre (vs ++ [.str x t]) (ys ++ [x]) := by
  induction h with
  | nil => exact .cons x t .nil
  | cons n u h ih => exact .cons n u ih
theorem ints_snoc {vs : List Value} {ys : List Int} (h : IntsAre vs ys) (x : Int) (t : Tok) : IntsAre (vs ++ [.int x t]) (ys ++ [x]) := by
  induction h with
  | nil => exact .cons x t .nil
  | cons n u h ih => exact .cons n u ih

/-- the list of texts at a -/
def StrList (h : Heap) (a : Addr) (ys : List PySem.Str) : Prop := ∃ vs : List Value, h.PlainList a vs.toArray ∧ StrsAre vs ys
def IntList (h : Heap) (a : Addr) (ns : List Int) : Prop := ∃ vs : List Value, h.PlainList a vs.toArray ∧ IntsAre vs ns
theorem StrList.at {h h' : Heap} {a : Addr} {ys : List PySem.Str} (x : StrList h a ys) (k : ∀ o, h.get? a = some o → h'.get? a = some o) : StrList h' a ys := let ⟨vs, p, q⟩ := x; ⟨vs, p.at k, q⟩
theorem IntList.at {h h' : Heap} {a : Addr} {ys : List Int} (x : IntList h a ys) (k : ∀ o, h.get? a = some o → h'.get? a = some o) : IntList h' a ys := let ⟨vs, p, q⟩ := x; ⟨vs, p.at k, q⟩
theorem StrList.kp {h h' : Heap} {a : Addr} {ys : List PySem.Str} (x : StrList h a ys) (k : Kp h h') : StrList h' a ys := x.at fun o e => k a o e
theorem IntList.kp {h h' : Heap} {a : Addr} {ys : List Int} (x : IntList h a ys) (k : Kp h h') : IntList h' a ys := x.at fun o e => k a o e
theorem StrList.ne_ns {h : Heap} {a L : Addr} {ys : List PySem.Str} (x : StrList h a ys) (n : HasNs h L) : a ≠ L := let ⟨_, p, _⟩ := x; plain_ne_ns p n
theorem IntList.ne_ns {h : Heap} {a L : Addr} {ys : List Int} (x : IntList h a ys) (n : HasNs h L) : a ≠ L := let ⟨_, p, _⟩ := x; plain_ne_ns p n
end Mine
end
-- text A9
section
open PySem PySem.W PyProof.Rows
set_option Elab.async false
set_option linter.unusedVariables false
set_option maxRecDepth 100000
namespace Mine

/-- ss is ss' in rising order -/
def SortedOf (ss' ss : List PySem.Str) : Prop := ss'.Perm ss ∧ sortedS ss' = true

section
variable {prog : Program} {w : World} {A : Around} {env : Env} {s s₀ : Shared} {L : Addr}

/-- max of a list of ints -/
theorem call_max_list {l : Addr} {vs : List Value} {ns : List Int} {M : Int} (hh : A.handled = none) (hl : s.heap.IsList l vs.toArray) (hi : IntsAre vs ns) (hM : M ∈ ns) (hmax : ∀ a ∈ ns, a ≤ M) :
    wpAny (model prog w) A (call (.builtin "max") [.ref l]) (fun r s' => isI M r s'.heap ∧ Keeps s s') NoE s := by
  obtain ⟨ps, ep⟩ := hi.allInts.items
  have hvl := ints_len hi
  have hpl : ps.size = vs.length := by
    have := congrArg Array.size ep
    simpa [intItems] using this.symm
  have same : ∀ j, j < vs.length → ∃ n, ns[j]? = some n ∧ numAt ps j = n := fun j hj => by
    obtain ⟨n, t, h1, h2⟩ := ints_of hi (List.getElem?_eq_getElem hj)
    have h3 : (intItems ps)[j]? = some (.int n t) := by rw [← ep, ← h2]; simp
    obtain ⟨u, h4⟩ := intItems_at h3
    cases h4
    exact ⟨_, h1, rfl⟩
  obtain ⟨j, hj⟩ := List.mem_iff_getElem?.mp hM
  have hjl := (List.getElem?_eq_some_iff.mp hj).1
  refine max_intList hh (ep ▸ hl) (by omega) fun v h' tk hv hk => ?_
  obtain ⟨t, rfl⟩ := intItems_at hv
  have best := argBest_gt (numAt ps) (ps.size - 1)
  generalize argBest (fun i j => decide (numAt ps i > numAt ps j)) (ps.size - 1) = b at best
  obtain ⟨a, ha, ea⟩ := same b (by omega)
  obtain ⟨c, hc, ec⟩ := same j (by omega)
  have hcM : c = M := by rw [hj] at hc; exact (Option.some.inj hc).symm
  have up := hmax a (List.mem_of_getElem? ha)
  have down := best.2 j (by omega)
  have : numAt ps b = M := by omega
  exact ⟨⟨t, by rw [this]⟩, keeps_kp hk⟩

/-- sort of a new list of texts -/
theorem sort_new {D : Addr} {vs : List Value} {ss : List PySem.Str} {n : Nat} {Q : Value → Shared → Prop} {E : Value → Shared → Prop} (ho : s.heap.get? D = some (seqObj "list" vs.toArray n)) (hS : StrsAre vs ss) (h64 : vs.length < 64)
    (k : ∀ h' ss', (∀ b o, b ≠ D → s.heap.get? b = some o → h'.get? b = some o) → StrList h' D ss' → SortedOf ss' ss → Q .none { s with heap := h' }) :
    wpAny (model prog w) A (call (.builtin "list.sort") [.ref D]) Q E s := by
  refine wpAny_call_entry slot_list_sort ⟨_, ho, rfl⟩ entry_list_sort (list_sort_treeK strKind_oneLt ho hS.keysOf (fun v₁ v₂ rest e => keyKind_strs (by rw [← e]; exact hS)) h64 fun st' hp hs => ⟨_, rfl, ?_⟩) (args_list_sort _)
  obtain ⟨ss', h1, h2, h3⟩ := sorted_out_str hS hp hs
  refine k _ ss' (fun b o hb e => by rw [sortedHeap_old hb (Heap.lt_size e)]; exact e) ?_ ⟨h2, h3⟩
  obtain ⟨e, he⟩ := sortedHeap_at (out := (arrOf st').map (·.2)) ho
  exact ⟨((arrOf st').map (·.2)).toList, ⟨e, he⟩, h1⟩

/-- sorted(xs), xs a list of texts -/
theorem ev_sorted_list {p pos : Pos} {e : Expr} {P : Value → Heap → Prop} {ss : List PySem.Str} (hf : Ev prog w A env s₀ (.Name "sorted" p) (isV (.builtin "sorted"))) (he : Ev prog w A env s₀ e P) (hP : ∀ v h, P v h → ∃ a, v = .ref a ∧ StrList h a ss) (h64 : ss.length < 64)
    (hs : backTo pos (starEach [e] env) = [(false, eval e env)] := by rfl) :
    Ev prog w A env s₀ (.Call (.Name "sorted" p) [e] [] pos) (fun v h => ∃ D ss', v = .ref D ∧ StrList h D ss' ∧ SortedOf ss' ss ∧ s₀.heap.get? D = none) :=
  ev_call1 hf he (fun v h hv s hh hk => by
    subst hh
    obtain ⟨a, rfl, vs, hp, hS⟩ := hP v _ hv
    refine sorted_strs hp.isList hS (by rw [strs_len hS]; exact h64) fun out ss' h1 h2 h3 => ⟨⟨_, ss', rfl, ?_, ⟨h2, h3⟩, none_of_keeps hk (get_none_ge (Nat.le_succ _))⟩, _, _, rfl, fun b o e => sortedAll_old e⟩
    obtain ⟨e, he⟩ := sortedAll_at s.heap vs out
    exact ⟨out.toList, ⟨e, he⟩, h1⟩) hs

/-- d.keys() -/
theorem ev_keys {pl : Sem Bool} {oe : Expr} {apos pos : Pos} {d : Addr} {kvs : List (PySem.Str × Value)} (ho : Ev prog w A env s₀ oe (isV (.ref d))) (hd : s₀.heap.DictOf (strKind prog w) d kvs) (hsm : (d == sysModules) = false)
    (hs : backTo pos (starEach [] env) = [] := by rfl)
    (hev : eval (.Call (.Attribute oe "keys" apos) [] [] pos) env = (do
      let ov ← eval oe env
      standAt apos.atName
      let (f, first) ← holding [ov] (getMethod ov "keys" pl)
      callWith pos f first (backTo pos (starEach [] env)) []) := by rfl) :
    Ev prog w A env s₀ (.Call (.Attribute oe "keys" apos) [] [] pos) (fun v h => ∃ r, v = .ref r ∧ KdlKeysView h r d) := fun s hk => by
  refine MethodCall_ (pl := pl) (wpAny_mono (ho s hk) (fun v s₁ h₁ => ?_) fun _ _ x => x) hev
  obtain ⟨rfl, k₁⟩ := h₁
  have hD : s₁.heap.DictOf (strKind prog w) d kvs := hd.keep (Keeps.kp (keeps_trans hk k₁))
  refine getMethod_builtin hD.typeIs PySem.F.plainAttrs_dict PySem.F.slot_dict_keys PySem.F.type_dict_keys hD.mapOf.noDict ?_
  rw [hs]
  refine Calls.callWith_builtin rfl (evalArgs_nil3 ?_)
  refine call_meetsIn PySem.F.slot_dict_keys hD.typeIs PySem.F.entry_dict_keys (PySem.F.args_dict_keys_1 _) (kdl_meets_keys (strKind prog w) d hsm) ⟨⟨kvs, hD⟩, ?_⟩
  exact ⟨⟨_, rfl, ⟨_, Heap.get?_push_size _ rfl, rfl, rfl⟩⟩, keeps_trans k₁ (keeps_push s₁ _ _)⟩

theorem strsOfKeys {kvs : List (PySem.Str × Value)} : ∀ {vs : List Value}, vs.length = kvs.length → (∀ (j : Nat) (v : Value), vs[j]? = some v → ∃ k x, kvs[j]? = some (k, x) ∧ (strKind prog w).is k v = true) → StrsAre vs (kvs.map (·.1)) := by
  induction kvs with
  | nil => intro vs h _; have : vs = [] := List.length_eq_zero_iff.mp h; subst this; exact .nil
  | cons kv r ih =>
    intro vs h hv
    cases vs with
    | nil => simp at h
    | cons v vs =>
      obtain ⟨k, x, hk, hi⟩ := hv 0 v rfl
      simp at hk
      obtain ⟨t, rfl⟩ := Value.isStrOf_shape hi
      rw [List.map_cons, hk]
      exact .cons k t (ih (by simpa using h) fun j u hj => by simpa using hv (j + 1) u (by simpa using hj))

/-- sorted(d.keys()) -/
theorem ev_sorted_keys {p pos : Pos} {e : Expr} {d : Addr} {kvs : List (PySem.Str × Value)} (hh : A.handled = none) (hf : Ev prog w A env s₀ (.Name "sorted" p) (isV (.builtin "sorted"))) (hd : s₀.heap.DictOf (strKind prog w) d kvs) (h64 : kvs.length < 64)
    (he : Ev prog w A env s₀ e (fun v h => ∃ r, v = .ref r ∧ KdlKeysView h r d))
    (hs : backTo pos (starEach [e] env) = [(false, eval e env)] := by rfl) :
    Ev prog w A env s₀ (.Call (.Name "sorted" p) [e] [] pos) (fun v h => ∃ D ss', v = .ref D ∧ StrList h D ss' ∧ SortedOf ss' (kvs.map (·.1)) ∧ s₀.heap.get? D = none) :=
  ev_call1 hf he (fun v h hv s hheap hk => by
    subst hheap
    obtain ⟨r, rfl, hview⟩ := hv
    obtain ⟨ep, hat⟩ := (hd.keep (Keeps.kp hk)).dictAt
    refine Calls.call_function_entry kind_sorted plain_sorted entry_sorted (args_sorted1 _) ?_
    unfold Builtin.«sorted»
    refine wpAny_bind (m := checkCount "sorted" 1 1 _) (wpAny_pure ?_)
    refine wpAny_bind (kdu_collect (A := A.in1) (kdl_keys (knd := strKind prog w) (kvs := kvs) (ep := ep)) hh ⟨hview, hat⟩ (by rw [sizeLine_eq]; omega) fun h' tk acc hkk hacc => ?_)
    have hl : acc.toList.length = kvs.length := by rw [Array.length_toList]; exact hacc.1
    refine wpAny_bind (wpAny_newList ?_ (by rw [hl, sizeLine_eq]; omega))
    have hS : StrsAre acc.toList (kvs.map (·.1)) := strsOfKeys (prog := prog) (w := w) hl fun j v e => hacc.2 j v (by rw [← Array.getElem?_toList]; exact e)
    refine wpAny_bind (wpAny_holding (sort_new (s := { s with heap := h'.push { cls := .type "list", data := .seq acc.toList.toArray }, toks := tk }) (ss := kvs.map (·.1)) (D := h'.objs.size) (Heap.get?_push_size _ rfl) hS (by omega) fun h₂ ss' hold hl₂ hso => ?_))
    refine wpAny_pure ⟨_, rfl, ⟨h'.objs.size, ss', rfl, hl₂, hso, ?_⟩, h₂, tk, rfl, fun b o e => hold b o (Nat.ne_of_lt (Heap.lt_size (hkk b o e))) (Heap.get?_push_of_some _ (hkk b o e))⟩
    exact none_of_keeps (keeps_trans hk ⟨h', tk, rfl, hkk⟩) (get_size_none _)) hs

/-- (e₁, e₂) -/
theorem ev_tuple2 {e₁ e₂ : Expr} {k : Nat} {pos : Pos} {P R : Value → Heap → Prop} (h₁ : Ev prog w A env s₀ e₁ P) (h₂ : Ev prog w A env s₀ e₂ R)
    (hs : backTo pos (starEach [e₁, e₂] env) = [(false, eval e₁ env), (false, eval e₂ env)] := by rfl) :
    Ev prog w A env s₀ (.Tuple [e₁, e₂] k pos) (fun v h => ∃ t a b ha hb, v = .ref t ∧ h.get? t = some { cls := .type "tuple", data := .seq #[a, b] } ∧ P a ha ∧ R b hb ∧ Kp ha h ∧ Kp hb h ∧ s₀.heap.get? t = none) := fun s hk => by
  refine wpAny_Tuple_spliced ?_
  rw [hs]
  refine Calls.spliced_cons (wpAny_mono (h₁ s hk) (fun v₁ s₁ q₁ => Calls.spliced_cons (wpAny_mono (h₂ s₁ (keeps_trans hk q₁.2)) (fun v₂ s₂ q₂ => Calls.spliced_nil ⟨by show 2 ≤ sizeLine; decide, ?_⟩) fun _ _ x => x)) fun _ _ x => x)
  have kk := keeps_trans q₁.2 q₂.2
  have pu : Kp s₂.heap (s₂.heap.push { cls := .type "tuple", data := .seq [v₁, v₂].toArray }) := fun b o e => Heap.get?_push_of_some _ e
  exact ⟨⟨_, v₁, v₂, s₁.heap, s₂.heap, rfl, Heap.get?_push_size _ rfl, q₁.1, q₂.1, (Keeps.kp q₂.2).trans pu, pu, none_of_keeps (keeps_trans hk kk) (get_size_none _)⟩, keeps_trans kk (keeps_push s₂ _ _)⟩

def emptyHeap : Heap := {}
theorem empty_get (b : Addr) : emptyHeap.get? b = none := get_none_ge (Nat.zero_le _)
/-- all that stands but for L and d -/
def restOf (h : Heap) (L d : Addr) : List (Addr × Obj) := (List.range h.objs.size).filterMap fun b => if b = L ∨ b = d then none else (h.get? b).map fun o => (b, o)
theorem mem_restOf {h : Heap} {L d b : Addr} {o : Obj} (e : h.get? b = some o) (h1 : b ≠ L) (h2 : b ≠ d) : (b, o) ∈ restOf h L d := by
  unfold restOf
  rw [List.mem_filterMap]
  refine ⟨b, List.mem_range.mpr (Heap.lt_size e), ?_⟩
  rw [if_neg (by intro q; rcases q with q | q; exact h1 q; exact h2 q), e]; rfl
theorem of_restOf {h : Heap} {L d : Addr} {p : Addr × Obj} (m : p ∈ restOf h L d) : h.get? p.1 = some p.2 ∧ p.1 ≠ L ∧ p.1 ≠ d := by
  unfold restOf at m
  rw [List.mem_filterMap] at m
  obtain ⟨b, _, e⟩ := m
  split at e
  · cases e
  · rename_i hn
    rw [Option.map_eq_some_iff] at e
    obtain ⟨o, ho, rfl⟩ := e
    exact ⟨ho, fun q => hn (.inl q), fun q => hn (.inr q)⟩

/-- o.name = v, by the object's own dict -/
theorem set_attr0 {K : Frag} {x dx C : Addr} {es es' : List DictEntry} {n n' : Nat} {name : PySem.Str} {v : Value} {Q : Unit → Shared → Prop} {E : Value → Shared → Prop} (X : K.In s.heap) (hn : HasNs s.heap L) (hx : s.heap.get? x = some (instObj C dx)) (hd : s.heap.get? dx = some (dictOf es n)) (hdL : dx ≠ L)
    (hs : findIn K (.ref C) "__setattr__" = some (some (.builtin "object.__setattr__"))) (hp : plainOver K C = true) (ht : takerIn K C name = some none) (hh : hasDictIn K C = true) (hl : (getL name es).isSome = true)
    (e : (putL name (PyData.keyHash w.params name) (.str name (s.toks + 1)) v es, putN name es n) = (es', n')) (hz : es'.length ≤ 1000)
    (k : ∀ h' tk, Ch L [] [dx] s.heap h' → h'.get? dx = some (dictOf es' n') → Q () { s with heap := h', toks := tk }) :
    wpAny (model prog w) A (setAttr (.ref x) name v) Q E s := by
  obtain ⟨m, nm⟩ := hn
  have I : InstAt s.heap x (instObj C dx) C (some (dictOf es n)) := ⟨hx, rfl, rfl, hd⟩
  obtain ⟨e1, e2⟩ := Prod.mk.inj e
  have F : Fr emptyHeap L s.heap m := ⟨nm, (fun b o q => by rw [empty_get] at q; exact nomatch q), Nat.zero_le _⟩
  have N : News emptyHeap L s.heap ([] ++ (dx, dictOf es n) :: restOf s.heap L dx) := fun p hp => by
    rcases List.mem_cons.mp hp with rfl | hp
    · exact ⟨hd, hdL, empty_get _⟩
    · obtain ⟨a, b, c⟩ := of_restOf hp
      exact ⟨a, b, empty_get _⟩
  refine set_plain X I hs (osa_dict (s := { s with toks := s.toks + 1 }) F N X I rfl hp ht hh hl (by simp) (fun p hp => (of_restOf hp).2.2) (by rw [putName_dict, e1, e2]) rfl hz fun h' F' N' => ?_)
  refine k h' _ ⟨fun b o h1 h2 q => ?_, ⟨m, F'.ns⟩, fun y u _ q => ⟨m, F'.ns, q.eq nm⟩⟩ (N' _ (List.mem_cons_self ..)).1
  exact (N' (b, o) (List.mem_cons_of_mem _ (mem_restOf q h1 (by simpa using h2)))).1

/-- self.name = e -/
theorem st_setattr {K : Frag} {x dx C : Addr} {es : List DictEntry} {n : Nat} {name nm : PySem.Str} {np ap pos : Pos} {e : Expr} {P : Value → Heap → Prop} {Q : Flow → Shared → Prop} {E : Value → Shared → Prop} (X : K.In s.heap) (hn : HasNs s.heap env.locals) (hself : Ev prog w A env s (.Name nm np) (isV (.ref x)))
    (he : Ev prog w A env s e P) (hx : s.heap.get? x = some (instObj C dx)) (hd : s.heap.get? dx = some (dictOf es n)) (hdL : dx ≠ env.locals)
    (hs : findIn K (.ref C) "__setattr__" = some (some (.builtin "object.__setattr__"))) (hp : plainOver K C = true) (ht : takerIn K C name = some none) (hh : hasDictIn K C = true) (hl : (getL name es).isSome = true)
    (ee : ∀ v tk, ∃ es' n', (putL name (PyData.keyHash w.params name) (.str name tk) v es, putN name es n) = (es', n') ∧ es'.length ≤ 1000)
    (k : ∀ v h₁ h₂ tk tk', P v h₁ → Kp s.heap h₁ → Ch env.locals [] [dx] h₁ h₂ → h₂.get? dx = some (dictOf (putL name (PyData.keyHash w.params name) (.str name tk) v es) (putN name es n)) → Q .next { s with heap := h₂, toks := tk' })
    (hsw : swapsWith e (some (.Attribute (.Name nm np) name ap)) pos.line env = pure false := by rfl) :
    wpAny (model prog w) A (exec (.Assign [.Attribute (.Name nm np) name ap] e pos) env) Q E s := by
  refine plainObj_wpAny_Assign_Attribute (he.use fun v h₁ tk₁ hP kp₁ => ?_) hsw
  refine (hself.at (keeps_kp kp₁)).use (s := { s with heap := h₁, toks := tk₁ }) fun ov h₂ tk₂ hov kp₂ => ?_
  subst hov
  obtain ⟨es', n', e1, e2⟩ := ee v (tk₂ + 1)
  have kp := kp₁.trans kp₂
  refine set_attr0 (s := { s with heap := h₂, toks := tk₂ }) (X.keeps kp) (hn.kp kp) (kp _ _ hx) (kp _ _ hd) hdL hs hp ht hh hl e1 e2 fun h₃ tk₃ ch₃ hd₃ => ?_
  obtain ⟨e3, e4⟩ := Prod.mk.inj e1
  exact k v h₁ h₃ (tk₂ + 1) tk₃ hP kp₁ (Ch.before kp₂ ch₃) (by rw [e3, e4]; exact hd₃)
end
end Mine
end
-- text A10
section
open PySem PySem.W PyProof.Rows
set_option Elab.async false
set_option linter.unusedVariables false
set_option maxRecDepth 100000
namespace Mine

/-- an exception made in a def's call has come out into the frame of env -/
def Thrown (env : Env) (L : Addr) (h : Heap) (e : Addr) (cls : String) (h' : Heap) : Prop :=
  ∃ h₁ a0, Kp h h₁ ∧ Heap.FlyingW (hideAll h₁ [L]) [env] e (.type cls) a0 h' ∧ h₁.UpToSlots h'

theorem Thrown.before {env : Env} {L e : Addr} {h h₁ h' : Heap} {cls : String} (k : Kp h h₁) (x : Thrown env L h₁ e cls h') : Thrown env L h e cls h' :=
  let ⟨h₂, a0, k₂, y⟩ := x; ⟨h₂, a0, k.trans k₂, y⟩

theorem ch_of_slots {L : Addr} {h h₁ h' : Heap} (n : HasNs h L) (k : Kp h h₁) (st : (hideAll h₁ [L]).StaysIn h') (up : h₁.UpToSlots h') : Ch L [] [] h h' := by
  refine ⟨fun p o hp _ e => st p o (hideAll_get _ (k p o e) (by simpa using hp)), ?_, ?_⟩
  · obtain ⟨m, hm⟩ := n; exact ⟨m, up.ns (hm.keeps k)⟩
  · rintro y v _ ⟨m, hm, e⟩; exact ⟨m, up.ns (hm.keeps k), e⟩

section
variable {prog : Program} {w : World} {A : Around} {env : Env} {s s₀ : Shared}

/-- raise X(e) -/
theorem st_raise1 {X N I : String} {x : Str} {np cpos pos : Pos} {e : Expr} {P : Value → Heap → Prop} {E : Value → Shared → Prop} {Q : Flow → Shared → Prop} (hh : A.handled = none) (hc : ExcClass X N I)
    (hx : Ev prog w A env s (.Name x np) (isV (.type X))) (he : Ev prog w A env s e P)
    (k : ∀ h h' tk a, Kp s.heap h → Heap.NewExc h h' a X → E (.ref a) { s with heap := h', toks := tk })
    (hs : backTo cpos (starEach [e] env) = [(false, eval e env)] := by rfl) :
    wpAny (model prog w) A (exec (.Raise (some (.Call (.Name x np) [e] [] cpos)) none pos) env) Q E s := by
  refine Raise_new hh (wpAny_Call_ofName (wpAny_mono (hx s (keeps_refl s)) (fun f s₁ h₁ => ?_) fun _ _ x => x.elim))
  obtain ⟨rfl, k₁⟩ := h₁
  rw [hs]
  refine callWith_excType rfl (Calls.evalArgs_plain (Calls.spliced_cons (wpAny_mono (he s₁ k₁) (fun v s₂ h₂ => Calls.spliced_nil ?_) fun _ _ x => x.elim)))
  have kk := keeps_trans k₁ h₂.2
  obtain ⟨hp, tk, rfl, kp⟩ := kk
  refine call_exc_raise (rest := [v]) hc (fun h' a hx => ?_) 
  exact k _ h' tk a kp hx

/-- a raise leaves a def that was called from env's frame -/
theorem leave_thrown {X : String} {h h₁ : Heap} {L L' f a : Addr} {m m' : Str → Option Value} {qual : Str} {scope : Scope} {cdv : Value} {Q : Unit → Shared → Prop} {E : Value → Shared → Prop}
    (hfr : A.frames = some [env]) (hfL : env.frame = some L) (hkd : env.scope.kind ≠ .module) (hns : h.Ns L m) (hL' : h.get? L' = none) (kp : Kp h h₁) (hns' : h₁.Ns L' m') (hx : Heap.NewExc h₁ s.heap a X)
    (hQ : ∀ h', Thrown env L h a X h' → Q () { s with heap := h' }) (hk : scope.kind = .function := by rfl) :
    wpAny (model prog w) (A.deeper (envOf qual scope L' f cdv)) (leaving (envOf qual scope L' f cdv) (.ref a)) Q E s := by
  obtain ⟨ob, t, he, hcls, hd⟩ := hx.there
  obtain ⟨o, es, n, ho, hod, _⟩ := hns'
  obtain ⟨o', es', n', ho', hod', _⟩ := hns
  have hen : (hideAll h [L]).get? a = none := by
    cases q : (hideAll h [L]).get? a with
    | none => rfl
    | some o => have := kp _ _ (of_hideAll _ q); rw [hx.new] at this; cases this
  refine wpAny_leaving_firstW (base := hideAll h [L]) (env := envOf qual scope L' f cdv) (outer := [env]) (L := L') (a0 := t) (Around.frames_deeper hfr) ?_ rfl he (fun b o hb => hx.keeps _ _ (kp _ _ (of_hideAll _ hb))) hen hd rfl rfl fun h' hL => ?_
  · refine ⟨by show scope.kind ≠ .module; rw [hk]; decide, ⟨L', o, rfl, ?_, hx.keeps _ _ ho, fun vs q => by rw [hod] at q; cases q⟩, hkd, ⟨L, o', hfL, hideAll_none _ (by simp), hx.keeps _ _ (kp _ _ ho'), fun vs q => by rw [hod'] at q; cases q⟩, trivial⟩
    cases q : (hideAll h [L]).get? L' with
    | none => rfl
    | some o => have := of_hideAll _ q; rw [hL'] at this; cases this
  · obtain ⟨k1, ⟨_, _, k2⟩, k3, k4⟩ := hL
    refine hQ h' ⟨h, t, Kp.refl h, ⟨k1, hen, k2, by rw [← hcls]; exact k3⟩, ((Heap.UpToSlots.of_keeps kp).trans (Heap.UpToSlots.of_keeps hx.keeps)).trans k4⟩

/-- try: body except X: suite -/
theorem st_try {N : Prop} {X T : String} {L : Addr} {x : Str} {np hp pos : Pos} {body : List Stmt} {b₀ : Stmt} {suite : List Stmt} {Q : Flow → Shared → Prop} 
    (hfr : A.frames = some [env]) (hfL : env.frame = some L) (hn : HasNs s.heap L)
    (hexc : isSubtype (.type T) (.type "BaseException") = pure true) (hnt : isSubtype (.type ((Manifest.find? T).elim "type" fun x => x.metatype)) (.type "tuple") = pure false)
    (hsub : isSubtype (.type X) (.type T) = pure true)
    (hname : ∀ a h tk, Ch L [] [] s.heap h → Ev prog w (A.mark (some (.ref a))) env { s with heap := h, toks := tk } (.Name x np) (isV (.type T)))
    (hb : wpAny (model prog w) A (execs body env) Q (fun e s₁ => N ∧ ∃ a h' tk, e = .ref a ∧ s₁ = { s with heap := h', toks := tk } ∧ Thrown env L s.heap a X h') s)
    (hc : N → ∀ a h tk, Ch L [] [] s.heap h → wpAny (model prog w) (A.mark (some (.ref a))) (execs (b₀ :: suite) env) Q NoE { s with heap := h, toks := tk }) :
    wpAny (model prog w) A (exec (.Try body [.ExceptHandler (some (.Name x np)) none (b₀ :: suite) hp] [] [] pos) env) Q NoE s := by
  refine wpAny_Try_except (wpAny_mono hb (fun f s₁ q => ?_) fun e s₁ q => ?_)
  · cases f <;> first | exact q | exact wpAny_execs_nil q
  · obtain ⟨hN, a, h', tk, rfl, rfl, h₁, a0, k₁, fl, up⟩ := q
    refine wpAny_looks_onW hfr hfL fl fun h₂ held₂ up₂ => ?_
    refine wpAny_landsW held₂ fun h₃ fl₃ up₃ => ?_
    have up₃' := (up.trans up₂).trans up₃
    have ch₃ := ch_of_slots hn k₁ fl₃.1 up₃'
    obtain ⟨ob, hob, hobc⟩ := fl₃.there
    refine wpAny_handleBy_builtin (X := X) (T := T) (b := true) hexc hnt hsub (wpAny_mono (hname a h₃ tk ch₃ _ (keeps_refl _)) (fun c s₄ q => ?_) fun _ _ x => x.elim)
    obtain ⟨rfl, k₄⟩ := q
    obtain ⟨h₄, tk₄, rfl, kp₄⟩ := k₄
    refine ⟨rfl, ⟨ob, kp₄ _ _ hob, hobc⟩, ?_⟩
    rw [if_pos rfl]
    have fl₄ : Heap.FlyingW (hideAll h₁ [L]) [env] a (.type X) a0 h₄ := by
      obtain ⟨f1, f2, f3, oe, vs, T, oT, ts, g1, g2, g3, g4, g5, g6, g7, g8⟩ := fl₃
      exact ⟨fun b o q => kp₄ _ _ (f1 b o q), f2, f3.of_keeps fun b o hb _ => ⟨o, kp₄ _ _ hb, rfl⟩, oe, vs, T, oT, ts, kp₄ _ _ g1, g2, g3, g4, g5, g6, kp₄ _ _ g7, g8⟩
    refine lands_againW fl₄ fun h₅ fl₅ up₅ => ?_
    exact wpAny_mono (hc hN a h₅ tk₄ (ch_of_slots hn k₁ fl₅.1 ((up₃'.trans (Heap.UpToSlots.of_keeps kp₄)).trans up₅))) (fun _ _ q => q) fun _ _ x => x.elim
end
end Mine
end
-- text A11
section
open PySem PySem.W PyProof.Rows
set_option Elab.async false
set_option linter.unusedVariables false
set_option maxRecDepth 100000
namespace Mine

theorem Ch.base {base h h' : Heap} {L : Addr} {xs : List PySem.Str} {W : List Addr} (ch : Ch L xs W h h') (kb : Kp base h) (lf : base.get? L = none) (wf : ∀ b ∈ W, base.get? b = none) : Kp base h' :=
  fun b o e => ch.kb b o (fun q => by rw [q, lf] at e; cases e) (fun q => by rw [wf b q] at e; cases e) (kb b o e)
theorem cell_at {h h' : Heap} {c : Addr} {v : Option Value} (x : h.IsCell c v) (k : ∀ o, h.get? c = some o → h'.get? c = some o) : h'.IsCell c v := let ⟨o, e, d⟩ := x; ⟨o, k o e, d⟩
theorem ne_of_fresh {h : Heap} {L x : Addr} (hn : HasNs h L) (f : h.get? x = none) : x ≠ L := by
  rintro rfl
  obtain ⟨m, o, _, _, ho, _⟩ := hn
  rw [f] at ho; cases ho
theorem ne_of_fresh_cell {h : Heap} {c x : Addr} {v : Option Value} (hc : h.IsCell c v) (f : h.get? x = none) : x ≠ c := by
  rintro rfl
  obtain ⟨o, ho, _⟩ := hc
  rw [f] at ho; cases ho
theorem none_of_kp {h h' : Heap} {b : Addr} (k : Kp h h') (f : h'.get? b = none) : h.get? b = none := by
  cases e : h.get? b with
  | none => rfl
  | some o => have := k _ _ e; rw [f] at this; cases this
theorem paired_eq : ∀ {l₁ l₂ : List Value}, Paired (fun v y => y = v) l₁ l₂ → l₂ = l₁
  | _, _, .nil => rfl
  | _, _, .cons h r => by rw [h, paired_eq r]

section
variable {prog : Program} {w : World} {A : Around} {env : Env} {s s₀ : Shared}

/-- C(e), C a class of the text -/
theorem ev_make1 {K : Frag} {x : PySem.Str} {p pos : Pos} {e : Expr} {C : Addr} {P R : Value → Heap → Prop} (X : K.In s₀.heap) (hk : keepIn K (.ref C) = true)
    (hf : Ev prog w A env s₀ (.Name x p) (isV (.ref C))) (he : Ev prog w A env s₀ e P)
    (k : ∀ v h, P v h → ∀ s, s.heap = h → Keeps s₀ s → wpAny (model prog w) A (call (.ref C) [v]) (fun r s' => R r s'.heap ∧ Keeps s s') NoE s)
    (hs : backTo pos (starEach [e] env) = [(false, eval e env)] := by rfl)
    (hes : starEach [e] env = [(false, eval e env)] := by rfl) :
    Ev prog w A env s₀ (.Call (.Name x p) [e] [] pos) R := fun s hk' => by
  refine wpAny_Call_NameR (wpAny_mono (hf s hk') (fun f' s₁ h₁ => ?_) fun _ _ x => x)
  obtain ⟨rfl, k₁⟩ := h₁
  refine callWith_K (first := []) (X.keeps (Keeps.kp (keeps_trans hk' k₁))) hk ?_ hes rfl
  rw [hs]
  refine Calls.spliced_cons (wpAny_mono (he s₁ (keeps_trans hk' k₁)) (fun v₁ s₂ h₂ => Calls.spliced_nil ⟨X.keeps (Keeps.kp (keeps_trans (keeps_trans hk' k₁) h₂.2)), ?_⟩) fun _ _ e => e)
  exact wpAny_mono (k v₁ _ h₂.1 s₂ rfl (keeps_trans (keeps_trans hk' k₁) h₂.2)) (fun r s₃ h₃ => ⟨h₃.1, keeps_trans (keeps_trans k₁ h₂.2) h₃.2⟩) fun _ _ x => x

/-- o.startswith(e) -/
theorem ev_starts {pl : Sem Bool} {oe e : Expr} {apos pos : Pos} {x y : PySem.Str} (ho : Ev prog w A env s₀ oe (isS x)) (he : Ev prog w A env s₀ e (isS y))
    (hs : backTo pos (starEach [e] env) = [(false, eval e env)] := by rfl)
    (hev : eval (.Call (.Attribute oe "startswith" apos) [e] [] pos) env = (do
      let ov ← eval oe env
      standAt apos.atName
      let (f, first) ← holding [ov] (getMethod ov "startswith" pl)
      callWith pos f first (backTo pos (starEach [e] env)) []) := by rfl) :
    Ev prog w A env s₀ (.Call (.Attribute oe "startswith" apos) [e] [] pos) (isB (Txt.startswith x y)) := fun s hk => by
  refine MethodCall_ (pl := pl) (wpAny_mono (ho s hk) (fun v s₁ h₁ => ?_) fun _ _ x => x) hev
  obtain ⟨⟨t, rfl⟩, k₁⟩ := h₁
  refine GM.startswith ?_
  rw [hs]
  refine Calls.callWith_builtin rfl (Calls.evalArgs_plain (Calls.spliced_cons (wpAny_mono (he _ (keeps_trans hk k₁)) (fun v₁ s₂ h₂ => Calls.spliced_nil ?_) fun _ _ e => e)))
  obtain ⟨⟨u, rfl⟩, k₂⟩ := h₂
  exact SC.startswith ⟨rfl, keeps_trans k₁ k₂⟩

/-- chr(e) -/
theorem ev_chr {p pos : Pos} {e : Expr} {i : Int} (hf : Ev prog w A env s₀ (.Name "chr" p) (isV (.builtin "chr"))) (he : Ev prog w A env s₀ e (isI i)) (h0 : 0 ≤ i) (h1 : i ≤ 1114111)
    (hs : backTo pos (starEach [e] env) = [(false, eval e env)] := by rfl) : Ev prog w A env s₀ (.Call (.Name "chr" p) [e] [] pos) (isS ⟨#[i.toNat]⟩) :=
  ev_call1 hf he (fun v h ⟨t, hv⟩ s _ _ => by subst hv; exact chr_of_range h0 h1 ⟨⟨_, rfl⟩, keeps_toks s _⟩) hs

/-- the signs of a text -/
theorem src_str {iter : Expr} {x : PySem.Str} (hh : A.handled = none) (he : Ev prog w A env s₀ iter (isS x)) :
    Src prog w A env s₀ iter [] x.cps.size (fun i v => ∃ c t, x.cps[i]? = some c ∧ v = .str ⟨#[c]⟩ t) := fun s hs => by
  refine wpAny_mono (he s hs) (fun v s₁ h₁ => ?_) fun _ _ x => x
  obtain ⟨⟨t, rfl⟩, k⟩ := h₁
  refine wpAny_pyIter_str fun o St Wk hst => ⟨_, _, _, St, rfl, Wk A hh, hst, ?_, ?_, ?_, keeps_trans k (keeps_push s₁ _ _)⟩
  · intro b hb; rw [List.mem_singleton.mp hb]; exact .inr (none_of_keeps k (get_size_none _))
  · intro b hb; rw [List.mem_singleton.mp hb]; exact none_of_keeps k (get_size_none _)
  · intro b hb
    rw [List.mem_singleton.mp hb]
    show _ < (s₁.heap.push _).objs.size
    rw [Heap.size_push]; exact Nat.lt_succ_self _

/-- a list of texts, new -/
theorem src_strs {iter : Expr} {X : List PySem.Str → Prop} (hh : A.handled = none) (he : Ev prog w A env s₀ iter (fun v h => ∃ D ys, v = .ref D ∧ StrList h D ys ∧ X ys ∧ s₀.heap.get? D = none)) :
    ∀ s, Keeps s₀ s → wpAny (model prog w) A (eval iter env) (fun xv s₁ => wpAny (model prog w) A (pyIter xv) (fun it s₂ => ∃ ys, X ys ∧ SrcAt prog w A s₀ s₂ it [] ys.length (fun i v => ∃ y t, ys[i]? = some y ∧ v = .str y t)) NoE s₁) NoE s := fun s hs => by
  refine wpAny_mono (he s hs) (fun v s₁ h₁ => ?_) fun _ _ x => x
  obtain ⟨⟨D, ys, rfl, ⟨vs, hp, hS⟩, hX, hf⟩, k⟩ := h₁
  have hlt : D < s₁.heap.objs.size := let ⟨_, e⟩ := hp; Heap.lt_size e
  have hlen := strs_len hS
  have W0 := Walks.list (prog := prog) (w := w) hh s₁.heap.objs.size D (Nat.ne_of_lt hlt) vs.toArray
  have ks : Keeps s₀ s₁ := keeps_trans hs k
  refine wpAny_pyIter_list hp.isList ⟨ys, hX, _, _, _, _, rfl, ⟨W0.sub, W0.frame, fun i s Q E hi hst hQ => W0.item i s Q E (by simp; omega) hst fun v h' tk hP => hQ v h' tk ?_, ?_, W0.self⟩, ⟨⟨_, Heap.get?_push_size _ rfl, rfl, rfl⟩, hp.isList.push _⟩, ?_, ?_, ?_, keeps_trans ks (keeps_push s₁ _ _)⟩
  · obtain ⟨y, t, h1, h2⟩ := strs_of hS (by simpa using hP)
    exact ⟨y, t, h1, h2⟩
  · have e : vs.toArray.size = ys.length := by simpa using hlen
    rw [← e]; exact W0.done
  · intro b hb
    rcases List.mem_cons.mp hb with rfl | hb
    · exact .inr (none_of_keeps ks (get_size_none _))
    · rw [List.mem_singleton.mp hb]; exact .inr hf
  · intro b hb
    rw [List.mem_singleton.mp hb]
    exact none_of_keeps ks (get_size_none _)
  · intro b hb
    show b < (s₁.heap.push _).objs.size
    rw [Heap.size_push]
    rcases List.mem_cons.mp hb with rfl | hb
    · exact Nat.lt_succ_self _
    · rw [List.mem_singleton.mp hb]; exact Nat.lt_succ_of_lt hlt

/-- the for loop over a source that is known when it is made -/
theorem for_rule_some {target iter : Expr} {body : List Stmt} {pos : Pos} {xs : List PySem.Str} {W src : List Addr} {α : Type} {G : α → Prop} {n : α → Nat} {P : α → Nat → Value → Prop} {E : Value → Shared → Prop} {Q : Flow → Shared → Prop} (Inv : α → Nat → Heap → Prop)
    (hn : HasNs s.heap env.locals) (hsrc : wpAny (model prog w) A (eval iter env) (fun xv s₁ => wpAny (model prog w) A (pyIter xv) (fun it s₂ => ∃ a, G a ∧ SrcAt prog w A s s₂ it src (n a) (P a)) NoE s₁) NoE s) (hW : ∀ b ∈ src, b ∉ W ∧ b ≠ env.locals)
    (hWold : ∀ b ∈ W, ∃ o, s.heap.get? b = some o)
    (h0 : ∀ a h, G a → Kp s.heap h → Inv a 0 h)
    (hInv : ∀ a i h h', Inv a i h → (∀ b o, (∃ o', s.heap.get? b = some o') → h.get? b = some o → h'.get? b = some o) → Inv a i h')
    (turn : ∀ a i v h tk, G a → i < n a → P a i v → Ch env.locals xs W s.heap h → Inv a i h →
      wpAny (model prog w) A (assign target env v) (fun _ s₂ => wpAny (model prog w) A (execs body env) (fun f s₃ => match f with
        | .next | .cont => ∃ h' tk', s₃ = { s with heap := h', toks := tk' } ∧ Ch env.locals xs W h h' ∧ Inv a (i + 1) h'
        | .brk => Q .next s₃
        | .ret v => Q (.ret v) s₃) NoE s₂) NoE { s with heap := h, toks := tk })
    (done : ∀ a h tk, G a → Ch env.locals xs W s.heap h → Inv a (n a) h → Q .next { s with heap := h, toks := tk })
    (ht : ∀ I v, letOwnedTupleGo target (.ref I) v = pure () := by intro _ _; rfl)
    (hs : ∀ x, foldedSetIterable iter env x = pure x := by intro _; rfl) :
    wpAny (model prog w) A (exec (.For target iter body [] pos) env) Q E s := by
  refine wpAny_For (wpAny_mono hsrc (fun xv s₁ h₁ => wpAny_mono h₁ (fun it s₂ h₂ => ?_) fun _ _ x => x.elim) fun _ _ x => x.elim) hs
  obtain ⟨a, hG, I, fp, wr, St, rfl, Wk, hst, hfp, hwr, _, h₂', tk₂, rfl, kp₂⟩ := h₂
  have hLold : ∃ o, s.heap.get? env.locals = some o := let ⟨m, o, _, _, ho, _⟩ := hn; ⟨o, ho⟩
  have hfpL : ∀ b ∈ fp, b ≠ env.locals ∧ b ∉ W := fun b hb => by
    rcases hfp b hb with h | h
    · exact ⟨(hW b h).2, (hW b h).1⟩
    · refine ⟨fun e => ?_, fun e => ?_⟩
      · obtain ⟨o, ho⟩ := hLold; rw [← e, h] at ho; cases ho
      · obtain ⟨o, ho⟩ := hWold b e; rw [h] at ho; cases ho
  have hwrO : ∀ b ∈ wr, ∀ o, s.heap.get? b = some o → False := fun b hb o e => by rw [hwr b hb] at e; cases e
  refine codeAny_forLoop (fun k s' => ∃ i h tk, s' = { s with heap := h, toks := tk } ∧ i ≤ n a ∧ k = n a + 1 - i ∧ Ch env.locals xs W s.heap h ∧ Inv a i h ∧ St i h) ?_ (n a + 1)
    ⟨0, h₂', tk₂, rfl, Nat.zero_le _, rfl, Ch.kp hn kp₂, h0 a _ hG kp₂, hst⟩ (ht I)
  rintro k s' ⟨i, h, tk, rfl, hi, rfl, hch, hinv, hsti⟩
  have move : ∀ h', (∀ b o, b ∉ wr → h.get? b = some o → h'.get? b = some o) → Ch env.locals xs W s.heap h' ∧ Inv a i h' ∧ HasNs h' env.locals := fun h' hk => by
    have hk' : ∀ b o, (∃ o', s.heap.get? b = some o') → h.get? b = some o → h'.get? b = some o := fun b o ⟨o', e'⟩ e => hk b o (fun hb => hwrO b hb o' e') e
    have hL : ∀ o, h.get? env.locals = some o → h'.get? env.locals = some o := fun o e => hk' _ o hLold e
    have hnn : HasNs h' env.locals := let ⟨m, nn⟩ := hch.ns; ⟨m, nn.at' hL⟩
    exact ⟨⟨fun b o h1 h2 e => hk' b o ⟨o, e⟩ (hch.kb b o h1 h2 e), hnn, fun x v hx e => (hch.lk x v hx e).at hL⟩, hInv a i h h' hinv hk', hnn⟩
  by_cases hlt : i < n a
  · refine Wk.item i _ _ _ hlt hsti fun v h₁ tk₁ hP hst₁ hk₁ => ?_
    obtain ⟨c1, i1, n1⟩ := move h₁ hk₁
    refine wpAny_mono (turn a i v h₁ tk₁ hG hlt hP c1 i1) (fun _ s₂ h₂ => wpAny_mono h₂ (fun f s₃ h₃ => ?_) fun _ _ x => x.elim) fun _ _ x => x.elim
    have fin : (∃ h' tk', s₃ = { s with heap := h', toks := tk' } ∧ Ch env.locals xs W h₁ h' ∧ Inv a (i + 1) h') →
        ∃ m, m < n a + 1 - i ∧ ∃ i h tk, s₃ = { s with heap := h, toks := tk } ∧ i ≤ n a ∧ m = n a + 1 - i ∧ Ch env.locals xs W s.heap h ∧ Inv a i h ∧ St i h := by
      rintro ⟨h', tk', rfl, c2, i2⟩
      refine ⟨n a + 1 - (i + 1), by omega, i + 1, h', tk', rfl, hlt, rfl, c1.trans c2, i2, ?_⟩
      exact Wk.frame _ _ _ hst₁ fun b hb o e => c2.kb b o (hfpL b hb).1 (hfpL b hb).2 e
    cases f with
    | next => exact fin h₃
    | cont => exact fin h₃
    | brk => exact h₃
    | ret v => exact h₃
  · have hin : i = n a := by omega
    subst hin
    refine Wk.done _ _ _ hsti fun h₁ tk₁ hk₁ => wpAny_execs_nil ?_
    obtain ⟨c1, i1, _⟩ := move h₁ hk₁
    exact done a h₁ tk₁ hG c1 i1

/-- two lists of texts, compared -/
theorem ci_ne_strs {P R : Value → Heap → Prop} {xs ys : List PySem.Str} (hu : A.units < cLine) (hP : ∀ v h, P v h → ∃ a, v = .ref a ∧ StrList h a xs) (hR : ∀ v h, R v h → ∃ a, v = .ref a ∧ StrList h a ys) (e : xs = ys) :
    CmpIs prog w A .NotEq P R false s₀ := fun a b h₁ h₂ hp _ kp hr s hs hk => by
  subst e hs
  obtain ⟨a, rfl, vs, pa, ia⟩ := hP _ _ hp
  obtain ⟨b, rfl, us, pb, ib⟩ := hR _ _ hr
  have la := strs_len ia
  have lb := strs_len ib
  have key := SeqAt.RcNeAt.lists (A := A) (s := s) (e := fun _ => true) (pa.isList.at fun o e => kp _ o e) pb.isList (by simp; omega) hu (fun j h1 h2 => ?_) prog w NoE (fun v s' => isB false v s'.heap ∧ Keeps s s') ?_
  · exact key
  · obtain ⟨x, t, h3, h4⟩ := strs_of ia (i := j) (List.getElem?_eq_getElem (by simpa using h1))
    obtain ⟨y, u, h5, h6⟩ := strs_of ib (i := j) (List.getElem?_eq_getElem (by simpa using h2))
    have exy : x = y := by rw [h3] at h5; exact Option.some.inj h5
    subst exy
    have h4' : vs.toArray[j] = .str x t := by simpa using h4
    have h6' : us.toArray[j] = .str x u := by simpa using h6
    rw [h4', h6']
    have := SeqAt.EqAt.str_str (A := A.in1) (s := s) x t x u
    rwa [beq_self_eq_true] at this
  · refine ⟨?_, keeps_refl s⟩
    show Value.bool _ = Value.bool false
    congr 1
    simp

/-- (e₁, e₂, e₃) -/
theorem ev_tuple3 {e₁ e₂ e₃ : Expr} {k : Nat} {pos : Pos} {P R T : Value → Heap → Prop} (h₁ : Ev prog w A env s₀ e₁ P) (h₂ : Ev prog w A env s₀ e₂ R) (h₃ : Ev prog w A env s₀ e₃ T)
    (hs : backTo pos (starEach [e₁, e₂, e₃] env) = [(false, eval e₁ env), (false, eval e₂ env), (false, eval e₃ env)] := by rfl) :
    Ev prog w A env s₀ (.Tuple [e₁, e₂, e₃] k pos) (fun v h => ∃ t a b c ha hb hc, v = .ref t ∧ h.IsTuple t #[a, b, c] ∧ P a ha ∧ R b hb ∧ T c hc ∧ s₀.heap.get? t = none) := fun s hk => by
  refine wpAny_Tuple_spliced ?_
  rw [hs]
  refine Calls.spliced_cons (wpAny_mono (h₁ s hk) (fun v₁ s₁ q₁ => Calls.spliced_cons (wpAny_mono (h₂ s₁ (keeps_trans hk q₁.2)) (fun v₂ s₂ q₂ => Calls.spliced_cons (wpAny_mono (h₃ s₂ (keeps_trans (keeps_trans hk q₁.2) q₂.2)) (fun v₃ s₃ q₃ => Calls.spliced_nil ⟨by show 3 ≤ sizeLine; decide, ?_⟩) fun _ _ x => x)) fun _ _ x => x)) fun _ _ x => x)
  have kk := keeps_trans (keeps_trans q₁.2 q₂.2) q₃.2
  exact ⟨⟨_, v₁, v₂, v₃, s₁.heap, s₂.heap, s₃.heap, rfl, ⟨_, Heap.get?_push_size _ rfl, rfl, _, rfl⟩, q₁.1, q₂.1, q₃.1, none_of_keeps (keeps_trans hk kk) (get_size_none _)⟩, keeps_trans kk (keeps_push s₃ _ _)⟩

/-- f(e₁, e₂, e₃, e₄), f a def of the text -/
theorem ev_callfn4 {x : PySem.Str} {p pos : Pos} {e₁ e₂ e₃ e₄ : Expr} {f : Addr} {qual : PySem.Str} {params : Arguments} {body : List Stmt} {scope : Scope} {dV cdv : Value} {P₁ P₂ P₃ P₄ R : Value → Heap → Prop}
    (hf : Ev prog w A env s₀ (.Name x p) (isV (.ref f))) (hfn : FnAt s₀.heap f qual params body scope dV cdv) (h₁ : Ev prog w A env s₀ e₁ P₁) (h₂ : Ev prog w A env s₀ e₂ P₂) (h₃ : Ev prog w A env s₀ e₃ P₃) (h₄ : Ev prog w A env s₀ e₄ P₄)
    (k : ∀ v₁ v₂ v₃ v₄ h₁ h₂ h₃ h₄, P₁ v₁ h₁ → P₂ v₂ h₂ → P₃ v₃ h₃ → P₄ v₄ h₄ → ∀ s, Keeps s₀ s → wpAny (model prog w) A (call (.ref f) [v₁, v₂, v₃, v₄]) (fun r s' => R r s'.heap ∧ Keeps s s') NoE s)
    (hs : backTo pos (starEach [e₁, e₂, e₃, e₄] env) = [(false, eval e₁ env), (false, eval e₂ env), (false, eval e₃ env), (false, eval e₄ env)] := by rfl) :
    Ev prog w A env s₀ (.Call (.Name x p) [e₁, e₂, e₃, e₄] [] pos) R := fun s hk => by
  refine wpAny_Call_NameR (wpAny_mono (hf s hk) (fun f' s₁ q => ?_) fun _ _ x => x)
  obtain ⟨rfl, k₁⟩ := q
  rw [hs]
  obtain ⟨o, name, kV, doc, pm, an, ct, ho, hd, hc⟩ := hfn
  have K1 := keeps_trans hk k₁
  refine Calls.callWith_function (o := o) (Calls.evalArgs_plain (Calls.spliced_cons (wpAny_mono (h₁ s₁ K1) (fun v₁ s₂ q₁ => Calls.spliced_cons (wpAny_mono (h₂ s₂ (keeps_trans K1 q₁.2)) (fun v₂ s₃ q₂ => Calls.spliced_cons (wpAny_mono (h₃ s₃ (keeps_trans (keeps_trans K1 q₁.2) q₂.2)) (fun v₃ s₄ q₃ => Calls.spliced_cons (wpAny_mono (h₄ s₄ (keeps_trans (keeps_trans (keeps_trans K1 q₁.2) q₂.2) q₃.2)) (fun v₄ s₅ q₄ => Calls.spliced_nil ⟨⟨Keeps.kp (keeps_trans K1 (keeps_trans (keeps_trans (keeps_trans q₁.2 q₂.2) q₃.2) q₄.2)) _ _ ho, hd⟩, ?_⟩) fun _ _ e => e)) fun _ _ e => e)) fun _ _ e => e)) fun _ _ e => e)))
  have K5 := keeps_trans (keeps_trans (keeps_trans q₁.2 q₂.2) q₃.2) q₄.2
  exact wpAny_mono (k v₁ v₂ v₃ v₄ _ _ _ _ q₁.1 q₂.1 q₃.1 q₄.1 s₅ (keeps_trans K1 K5)) (fun r s₃ h₃ => ⟨h₃.1, keeps_trans (keeps_trans k₁ K5) h₃.2⟩) fun _ _ x => x

/-- a, b = e -/
theorem st_unpack2 {e₁ e₂ e : Expr} {tp pos : Pos} {tk0 : Nat} {T : Addr} {a b : Value} {Q : Flow → Shared → Prop} (hh : A.handled = none) (he : Ev prog w A env s e (isV (.ref T))) (hT : s.heap.IsTuple T #[a, b])
    (k : ∀ h tk, Kp s.heap h → wpAny (model prog w) A (assign e₁ env a) (fun _ s₁ => wpAny (model prog w) A (assign e₂ env b) (fun _ s₂ => Q .next s₂) NoE s₁) NoE { s with heap := h, toks := tk })
    (hae : assignEach [e₁, e₂] env = [(false, assign e₁ env), (false, assign e₂ env)] := by rfl)
    (hs : swapsWithSole [.Tuple [e₁, e₂] tk0 tp] e pos.line env = pure false := by rfl)
    (hw : swappedStores [.Tuple [e₁, e₂] tk0 tp] e env = pure none := by rfl) :
    wpAny (model prog w) A (exec (.Assign [.Tuple [e₁, e₂] tk0 tp] e pos) env) Q NoE s := by
  refine Assign_Tuple (he.use fun v h tk hv kp => ?_) hs hw
  subst hv
  refine wpAny_assign_Tuple hh (hT.at fun o e => kp _ _ e) (by rw [hae]; rfl) (by rw [hae]; rfl) fun h₄ hx₄ => ?_
  rw [hae]
  have kp₄ : Kp s.heap h₄ := fun b o e => hx₄ b o (Nat.ne_of_lt (Heap.lt_size (kp b o e))) (kp b o e)
  show wpAny _ A (do holding [b] (assign e₁ env a); do holding [] (assign e₂ env b); pure ()) _ _ _
  exact wpAny_bind (wpAny_holding (wpAny_mono (k h₄ tk kp₄) (fun _ s₅ h₅ => wpAny_bind (wpAny_holding (wpAny_mono h₅ (fun _ s₆ h₆ => wpAny_pure h₆) fun _ _ x => x))) fun _ _ x => x))

/-- for a, b, c in list of tuples -/
theorem for_row {e₁ e₂ e₃ le : Expr} {tp pos : Pos} {tk0 : Nat} {body : List Stmt} {xs : List PySem.Str} {W : List Addr} {l : Addr} {items : Array Value} {Q : Flow → Shared → Prop} (Inv : Nat → Heap → Prop)
    (hh : A.handled = none) (hn : HasNs s.heap env.locals) (hle : Ev prog w A env s le (isV (.ref l))) (hl : s.heap.IsList l items) (hW : l ∉ W ∧ l ≠ env.locals)
    (hWold : ∀ b ∈ W, ∃ o, s.heap.get? b = some o)
    (hT : ∀ (i : Nat) (v : Value), items[i]? = some v → ∃ T a b c, v = Value.ref T ∧ s.heap.IsTuple T #[a, b, c] ∧ T ∉ W ∧ T ≠ env.locals)
    (h0 : ∀ h, Kp s.heap h → Inv 0 h)
    (hInv : ∀ i h h', Inv i h → (∀ b o, (∃ o', s.heap.get? b = some o') → h.get? b = some o → h'.get? b = some o) → Inv i h')
    (turn : ∀ (i : Nat) T a b c h tk, items[i]? = some (Value.ref T) → s.heap.IsTuple T #[a, b, c] → Ch env.locals xs W s.heap h → Inv i h →
      wpAny (model prog w) A (assign e₁ env a) (fun _ s₁ => wpAny (model prog w) A (assign e₂ env b) (fun _ s₂ => wpAny (model prog w) A (assign e₃ env c) (fun _ s₂' => wpAny (model prog w) A (execs body env) (fun f s₃ => match f with
        | .next | .cont => ∃ h' tk', s₃ = { s with heap := h', toks := tk' } ∧ Ch env.locals xs W h h' ∧ Inv (i + 1) h'
        | .brk => Q .next s₃
        | .ret v => Q (.ret v) s₃) NoE s₂') NoE s₂) NoE s₁) NoE { s with heap := h, toks := tk })
    (done : ∀ h tk, Ch env.locals xs W s.heap h → Inv items.size h → Q .next { s with heap := h, toks := tk })
    (hae : assignEach [e₁, e₂, e₃] env = [(false, assign e₁ env), (false, assign e₂ env), (false, assign e₃ env)] := by rfl)
    (hs : ∀ x, foldedSetIterable le env x = pure x := by intro _; rfl) :
    wpAny (model prog w) A (exec (.For (.Tuple [e₁, e₂, e₃] tk0 tp) le body [] pos) env) Q NoE s := by
  refine wpAny_For (wpAny_mono (hle s (keeps_refl s)) (fun xv s₁ h₁ => ?_) fun _ _ x => x.elim) hs
  obtain ⟨rfl, k₁⟩ := h₁
  have hl₁ : s₁.heap.IsList l items := hl.at fun o e => Keeps.kp k₁ l o e
  have hlt : l < s₁.heap.objs.size := let ⟨_, e, _⟩ := hl₁; Heap.lt_size e
  refine wpAny_pyIter_list hl₁ ?_
  have Wk := Walks.list (prog := prog) (w := w) hh s₁.heap.objs.size l (Nat.ne_of_lt hlt) items
  have fr1 : s.heap.get? s₁.heap.objs.size = none := none_of_keeps k₁ (get_size_none _)
  have hLold : ∃ o, s.heap.get? env.locals = some o := let ⟨m, o, _, _, ho, _⟩ := hn; ⟨o, ho⟩
  have hwrO : ∀ b ∈ [s₁.heap.objs.size], ∀ o, s.heap.get? b = some o → False := fun b hb o e => by rw [List.mem_singleton.mp hb, fr1] at e; cases e
  have hfpL : ∀ b ∈ [s₁.heap.objs.size, l], b ≠ env.locals ∧ b ∉ W := fun b hb => by
    rcases List.mem_cons.mp hb with rfl | hb
    · refine ⟨fun e => ?_, fun e => ?_⟩
      · obtain ⟨o, ho⟩ := hLold; rw [← e, fr1] at ho; cases ho
      · obtain ⟨o, ho⟩ := hWold _ e; rw [fr1] at ho; cases ho
    · rw [List.mem_singleton.mp hb]; exact ⟨hW.2, hW.1⟩
  have kk : Keeps s { s₁ with heap := s₁.heap.push _ } := keeps_trans k₁ (keeps_push s₁ { cls := .type "list_iterator", data := .fields #[.ref l, .int 0 0] } s₁.toks)
  obtain ⟨H, tkH, eH, kpH⟩ := kk
  have st0 : (s₁.heap.push { cls := .type "list_iterator", data := .fields #[.ref l, .int 0 0] }).IsListIter s₁.heap.objs.size l 0 ∧ (s₁.heap.push { cls := .type "list_iterator", data := .fields #[.ref l, .int 0 0] }).IsList l items := ⟨⟨_, Heap.get?_push_size _ rfl, rfl, rfl⟩, hl₁.push _⟩
  rw [eH]
  have eH' : s₁.heap.push _ = H := congrArg Shared.heap eH
  rw [eH'] at st0
  refine codeAny_forLoop_any (fun k s' => ∃ i h tk, s' = { s with heap := h, toks := tk } ∧ i ≤ items.size ∧ k = items.size + 1 - i ∧ Ch env.locals xs W s.heap h ∧ Inv i h ∧
      (h.IsListIter s₁.heap.objs.size l i ∧ h.IsList l items)) ?_ (items.size + 1)
    ⟨0, _, _, rfl, Nat.zero_le _, rfl, Ch.kp hn kpH, h0 _ kpH, st0⟩
  rintro k s' ⟨i, h, tk, rfl, hi, rfl, hch, hinv, hsti⟩
  have move : ∀ h', (∀ b o, b ∉ [s₁.heap.objs.size] → h.get? b = some o → h'.get? b = some o) → Ch env.locals xs W s.heap h' ∧ Inv i h' := fun h' hk => by
    have hk' : ∀ b o, (∃ o', s.heap.get? b = some o') → h.get? b = some o → h'.get? b = some o := fun b o ⟨o', e'⟩ e => hk b o (fun hb => hwrO b hb o' e') e
    have hL : ∀ o, h.get? env.locals = some o → h'.get? env.locals = some o := fun o e => hk' _ o hLold e
    have hnn : HasNs h' env.locals := let ⟨m, nn⟩ := hch.ns; ⟨m, nn.at' hL⟩
    exact ⟨⟨fun b o h1 h2 e => hk' b o ⟨o, e⟩ (hch.kb b o h1 h2 e), hnn, fun x v hx e => (hch.lk x v hx e).at hL⟩, hInv i h h' hinv hk'⟩
  by_cases hlt : i < items.size
  · refine Wk.item i _ _ _ hlt hsti fun v h₁ tk₁ hP hst₁ hk₁ => ?_
    obtain ⟨T, a, b, c, rfl, hTt, hTW, hTL⟩ := hT i v hP
    refine wpAny_letOwnedTupleGo_listiter hst₁.1 ?_
    have kT : ∀ h', Ch env.locals xs W s.heap h' → h'.IsTuple T #[a, b, c] := fun h' ch => hTt.at fun o e => ch.kb _ _ hTL hTW e
    have C1 := (move h₁ hk₁).1
    refine wpAny_assign_Tuple hh (kT _ C1) (by rw [hae]; rfl) (by rw [hae]; rfl) fun h₄ hx₄ => ?_
    rw [hae]
    have hk12 : ∀ b o, b ∉ [s₁.heap.objs.size] → h.get? b = some o → h₄.get? b = some o := fun b o hb e => by
      have e2 := hk₁ b o hb e
      exact hx₄ b o (Nat.ne_of_lt (Heap.lt_size e2)) e2
    obtain ⟨c1, i1⟩ := move h₄ hk12
    have st₄ : h₄.IsListIter s₁.heap.objs.size l (i + 1) ∧ h₄.IsList l items := Wk.frame (i + 1) h₁ h₄ hst₁ fun b _ o e => hx₄ b o (Nat.ne_of_lt (Heap.lt_size e)) e
    show wpAny _ A (do holding [b, c] (assign e₁ env a); do holding [c] (assign e₂ env b); do holding [] (assign e₃ env c); pure ()) _ _ _
    refine wpAny_bind (wpAny_holding (wpAny_mono (turn i T a b c h₄ tk₁ hP hTt c1 i1) (fun _ s₅ h₅ => wpAny_bind (wpAny_holding (wpAny_mono h₅ (fun _ s₆ h₆ => wpAny_bind (wpAny_holding (wpAny_mono h₆ (fun _ s₇ h₇ => wpAny_pure (wpAny_mono h₇ (fun f s₃ h₃ => ?_) fun _ _ x => x.elim)) fun _ _ x => x.elim))) fun _ _ x => x.elim))) fun _ _ x => x.elim))
    have fin : (∃ h' tk', s₃ = { s with heap := h', toks := tk' } ∧ Ch env.locals xs W h₄ h' ∧ Inv (i + 1) h') →
        ∃ m, m < items.size + 1 - i ∧ ∃ i h tk, s₃ = { s with heap := h, toks := tk } ∧ i ≤ items.size ∧ m = items.size + 1 - i ∧ Ch env.locals xs W s.heap h ∧ Inv i h ∧ (h.IsListIter s₁.heap.objs.size l i ∧ h.IsList l items) := by
      rintro ⟨h', tk', rfl, c2, i2⟩
      refine ⟨items.size + 1 - (i + 1), by omega, i + 1, h', tk', rfl, hlt, rfl, c1.trans c2, i2, ?_⟩
      exact Wk.frame (i + 1) _ _ st₄ fun b hb o e => c2.kb b o (hfpL b hb).1 (hfpL b hb).2 e
    cases f with
    | next => exact fin h₃
    | cont => exact fin h₃
    | brk => exact h₃
    | ret v => exact h₃
  · have hin : i = items.size := by omega
    subst hin
    refine Wk.done _ _ _ hsti fun h₁ tk₁ hk₁ => wpAny_execs_nil ?_
    obtain ⟨c1, i1⟩ := move h₁ hk₁
    exact done h₁ tk₁ c1 i1
end
end Mine
end
-- text C1
section
open PySem PySem.W PyProof.Rows
set_option Elab.async false
set_option linter.unusedVariables false
set_option maxRecDepth 100000
namespace Mine

def bodyOf : Stmt → List Stmt
  | .FunctionDef _ _ b _ _ _ _ _ _ _ => b
  | _ => []
def parsOf : Stmt → Arguments
  | .FunctionDef _ a _ _ _ _ _ _ _ _ => a
  | _ => ⟨[], [], none, [], [], none, []⟩
def scopOf : Stmt → Scope
  | .FunctionDef _ _ _ _ _ _ s _ _ _ => s
  | _ => ⟨.function, [], false, false, []⟩
def clsOf : Stmt → List Stmt
  | .ClassDef _ _ _ b _ _ _ _ _ _ _ => b
  | _ => []
def noStmt : Stmt := .Pass ⟨0, 0, 0, 0⟩
abbrev P3 : Program := PySem.Challenge.pw_qy0001_03
def top3 (i : Nat) : Stmt := P3.main.body.getD i noStmt
def meth3 (i : Nat) : Stmt := (clsOf (top3 3)).getD i noStmt
def bisF : Stmt := top3 2
def signF : Stmt := top3 5
def mkF : Stmt := top3 6
def lawF : Stmt := top3 7

/-- the keys rs, each with its place -/
def KvOk (kvs : List (PySem.Str × Value)) (rs : List (List Nat)) : Prop := kvs.length = rs.length ∧ ∀ (j : Nat) (r : List Nat), rs[j]? = some r → ∃ t : Tok, kvs[j]? = some (S r, Value.int (j : Int) t)
theorem KvOk.nil : KvOk [] [] := ⟨rfl, by simp⟩
theorem KvOk.snoc {kvs : List (PySem.Str × Value)} {rs : List (List Nat)} (h : KvOk kvs rs) (r : List Nat) (t : Tok) : KvOk (kvs ++ [(S r, Value.int (rs.length : Int) t)]) (rs ++ [r]) := by
  refine ⟨by simp [h.1], fun j x hj => ?_⟩
  by_cases hlt : j < rs.length
  · rw [List.getElem?_append_left hlt] at hj
    obtain ⟨u, hu⟩ := h.2 j x hj
    exact ⟨u, by rw [List.getElem?_append_left (by rw [h.1]; exact hlt)]; exact hu⟩
  · rw [List.getElem?_append_right (by omega)] at hj
    have : j - rs.length = 0 := by
      cases e : j - rs.length with
      | zero => rfl
      | succ m => rw [e] at hj; simp at hj
    have hj0 : j = rs.length := by omega
    subst hj0
    simp at hj; subst hj
    refine ⟨t, ?_⟩
    rw [List.getElem?_append_right (by rw [h.1]; exact Nat.le_refl _), h.1]
    simp
theorem KvOk.mem {kvs : List (PySem.Str × Value)} {rs : List (List Nat)} (h : KvOk kvs rs) {p : PySem.Str × Value} (hp : p ∈ kvs) : ∃ (j : Nat) (r : List Nat) (t : Tok), rs[j]? = some r ∧ p = (S r, Value.int (j : Int) t) := by
  obtain ⟨j, hj, e⟩ := List.mem_iff_getElem.mp hp
  have hjr : j < rs.length := by rw [← h.1]; exact hj
  obtain ⟨t, ht⟩ := h.2 j rs[j] (by simp [hjr])
  rw [List.getElem?_eq_getElem hj] at ht
  exact ⟨j, rs[j], t, by simp [hjr], by rw [← e]; exact Option.some.inj ht⟩
theorem KvOk.none {kvs : List (PySem.Str × Value)} {rs : List (List Nat)} (h : KvOk kvs rs) {x : List Nat} (hx : x ∉ rs) : valueAt kvs (S x) = none := by
  unfold valueAt
  rw [Option.map_eq_none_iff, List.find?_eq_none]
  intro p hp
  obtain ⟨j, r, t, hr, rfl⟩ := h.mem hp
  simp only [decide_eq_true_eq]
  intro q
  exact hx (S_inj q ▸ List.mem_of_getElem? hr)
theorem KvOk.some {kvs : List (PySem.Str × Value)} {rs : List (List Nat)} (h : KvOk kvs rs) {x : List Nat} (hx : x ∈ rs) : ∃ (j : Nat) (t : Tok), rs[j]? = some x ∧ valueAt kvs (S x) = some (Value.int (j : Int) t) := by
  obtain ⟨i, hi, e⟩ := List.mem_iff_getElem.mp hx
  obtain ⟨t, ht⟩ := h.2 i x (by simp [hi, e])
  unfold valueAt
  cases hf : kvs.find? (fun kv => decide (kv.1 = S x)) with
  | none =>
    rw [List.find?_eq_none] at hf
    have := hf _ (List.mem_of_getElem? ht)
    simp at this
  | some p =>
    obtain ⟨j, r, t', hr, rfl⟩ := h.mem (List.mem_of_find?_eq_some hf)
    have := List.find?_some hf
    simp only [decide_eq_true_eq] at this
    have hrx := S_inj this
    subst hrx
    exact ⟨j, t', hr, rfl⟩
theorem KvOk.isSome {kvs : List (PySem.Str × Value)} {rs : List (List Nat)} (h : KvOk kvs rs) (x : List Nat) : (valueAt kvs (S x)).isSome = decide (x ∈ rs) := by
  by_cases hx : x ∈ rs
  · obtain ⟨j, t, _, e⟩ := h.some hx; rw [e, decide_eq_true hx]; rfl
  · rw [h.none hx, decide_eq_false hx]; rfl

end Mine
end
-- text C2
section
open PySem PySem.W PyProof.Rows
set_option Elab.async false
set_option linter.unusedVariables false
set_option maxRecDepth 100000
namespace Mine

/-- what the written part says of the class -/
structure TrieK (K : Frag) (C fI fC fG : Addr) : Prop where
  keep : keepIn K (.ref C) = true
  makes : makesIn K C = true
  init : findIn K (.ref C) "__init__" = some (some (.ref fI))
  initFn : isFn K (.ref fI) = true
  seta : findIn K (.ref C) "__setattr__" = some (some (.builtin "object.__setattr__"))
  plain : plainOver K C = true
  hasD : hasDictIn K C = true
  pget : plainGet K C "" = true
  t1 : takerIn K C "_data" = some none
  t2 : takerIn K C "_keys" = some none
  t3 : takerIn K C "_cachestr" = some none
  t4 : takerIn K C "_cachepoints" = some none
  f1 : findIn K (.ref C) "_data" = some none
  f2 : findIn K (.ref C) "_keys" = some none
  f3 : findIn K (.ref C) "_cachestr" = some none
  f4 : findIn K (.ref C) "_cachepoints" = some none
  cont : findIn K (.ref C) "__contains__" = some (some (.ref fC))
  contFn : isFn K (.ref fC) = true
  getm : findIn K (.ref C) "__getitem__" = some (some (.ref fG))
  getFn : isFn K (.ref fG) = true
  getIn : fnIn K fG = true

def trieEs (p : Params) (d l tp : Addr) (t1 t2 t3 t4 tc : Tok) : List DictEntry :=
  [⟨PyData.keyHash p "_data", .str "_data" t1, .ref d⟩, ⟨PyData.keyHash p "_keys", .str "_keys" t2, .ref l⟩, ⟨PyData.keyHash p "_cachestr", .str "_cachestr" t3, .str "" tc⟩, ⟨PyData.keyHash p "_cachepoints", .str "_cachepoints" t4, .ref tp⟩]

structure TrieAt (p : Params) (h : Heap) (x C d dx l tp : Addr) (t1 t2 t3 t4 tc ta tb : Tok) (n : Nat) (ss : List PySem.Str) : Prop where
  inst : h.get? x = some (instObj C dx)
  dict : h.get? dx = some (dictOf (trieEs p d l tp t1 t2 t3 t4 tc) 4)
  keys : StrList h l ss
  tup : h.get? tp = some { cls := .type "tuple", data := .seq #[.int 0 ta, .int (n : Int) tb] }

section
variable {prog : Program} {w : World} {A : Around} {s : Shared} {K : Frag} {C fI fC fG : Addr} {cdv : Value}

theorem trie_make {base : Heap} {d : Addr} {kvs : List (PySem.Str × Value)} (hh : A.handled = none) (hroom : A.depth + 10 < recursionLimit) (TK : TrieK K C fI fC fG) (kb : Kp base s.heap) (X : K.In base) (hlim : base.NoLimit)
    (gs : BiG base "sorted" (.builtin "sorted")) (gl : BiG base "len" (.builtin "len")) (hfn : FnAt base fI "Trie.__init__" (parsOf (meth3 0)) (bodyOf (meth3 0)) (scopOf (meth3 0)) .none cdv)
    (hd : s.heap.DictOf (strKind prog w) d kvs) (hsm : (d == sysModules) = false) (h64 : kvs.length < 64) :
    wpAny (model prog w) A (call (.ref C) [.ref d]) (fun v s' => (∃ x dx l tp t1 t2 t3 t4 tc ta tb ss, v = .ref x ∧ TrieAt w.params s'.heap x C d dx l tp t1 t2 t3 t4 tc ta tb kvs.length ss ∧ SortedOf ss (kvs.map (·.1)) ∧ s.heap.get? x = none ∧ s.heap.get? dx = none ∧ s.heap.get? l = none ∧ s.heap.get? tp = none) ∧ Keeps s s') NoE s := by
  obtain ⟨H, g, dr, t, os⟩ := s
  have XH : K.In H := X.keeps kb
  refine wpAny_call (make_core (makes_of XH TK.makes) (looks_findIn XH TK.init) (fun self => bind_fn XH self (beq_iff_eq.mp TK.initFn)) (.inl rfl) ?_)
  have k1 : Kp H ((H.push emptyDict).push (instObj C H.objs.size)) := fun b o e => Heap.get?_push_of_some _ (Heap.get?_push_of_some _ e)
  have hx1 : ((H.push emptyDict).push (instObj C H.objs.size)).get? (H.objs.size + 1) = some (instObj C H.objs.size) := by
    have := Heap.get?_push_size (H.push emptyDict) (o := instObj C H.objs.size) rfl
    rwa [Heap.size_push] at this
  have hd1 : ((H.push emptyDict).push (instObj C H.objs.size)).get? H.objs.size = some (dictOf [] 0) := Heap.get?_push_of_some _ (Heap.get?_push_size _ rfl)
  refine code_fn (binds := [("self", .ref (H.objs.size + 1)), ("data", .ref d)]) (by rw [depth_under_make]; omega) (hlim.keeps (kb.trans k1)) (hfn.kp (kb.trans k1)) (fun _ _ _ _ _ _ => BindsTo.of_eq (by rfl))
    (by intro y hy; rcases List.mem_cons.mp hy with rfl | hy; rfl; rw [List.mem_singleton.mp hy]; rfl) (fun h₁ tk₁ kp₁ ns₁ fr₁ => ?_) (by decide) rfl rfl rfl
  generalize hL : ((H.push emptyDict).push (instObj C H.objs.size)).objs.size = L at *
  generalize hA : (A.under (.builtin "type.__call__" ⟨[.ref C, .ref d], []⟩)) = A1 at *
  have hh1 : (A1.deeper (envOf "Trie.__init__" (scopOf (meth3 0)) L fI cdv)).handled = none := by subst hA; exact hh
  have hLx : H.objs.size ≠ L := by rw [← hL, Heap.size_push, Heap.size_push]; exact Nat.ne_of_lt (Nat.lt_succ_of_lt (Nat.lt_succ_self _))
  have hLx' : H.objs.size + 1 ≠ L := by rw [← hL, Heap.size_push, Heap.size_push]; exact Nat.ne_of_lt (Nat.lt_succ_self _)
  have hxd : H.objs.size + 1 ∉ [H.objs.size] := by rw [List.mem_singleton]; exact Nat.succ_ne_self _
  have fx : H.get? (H.objs.size + 1) = none := get_none_ge (Nat.le_succ _)
  have fd : H.get? H.objs.size = none := get_size_none _
  have fL : H.get? L = none := get_none_ge (by rw [← hL, Heap.size_push, Heap.size_push]; exact Nat.le_succ_of_le (Nat.le_succ _))
  have bL : base.get? L = none := by
    cases e : base.get? L with
    | none => rfl
    | some o => have := kb _ _ e; rw [fL] at this; cases this
  have bd : base.get? H.objs.size = none := by
    cases e : base.get? H.objs.size with
    | none => rfl
    | some o => have := kb _ _ e; rw [fd] at this; cases this
  have kH : Kp H h₁ := k1.trans kp₁
  have hn₁ : HasNs h₁ L := ⟨_, ns₁⟩
  have vs₁ : Var h₁ L "self" (.ref (H.objs.size + 1)) := ⟨_, ns₁, rfl⟩
  have vd₁ : Var h₁ L "data" (.ref d) := ⟨_, ns₁, rfl⟩
  have hdL : d ≠ L := by
    rintro rfl
    obtain ⟨o, _, _, ho, _⟩ := hd
    rw [fL] at ho; cases ho
  have hdd : d ∉ [H.objs.size] := by
    rw [List.mem_singleton]
    rintro rfl
    obtain ⟨o, _, _, ho, _⟩ := hd
    rw [fd] at ho; cases ho
  -- self._data = data
  refine wpAny_execs_cons (st_setattr (K := K) (C := C) (x := H.objs.size + 1) (dx := H.objs.size) (es := []) (n := 0) ((XH.keeps kH)) hn₁ (ev_local vs₁) (ev_local vd₁) (kp₁ _ _ hx1) (kp₁ _ _ hd1) hLx TK.seta TK.plain TK.t1 TK.hasD (by rfl)
    (fun v tk => ⟨_, _, rfl, by show 1 ≤ 1000; decide⟩) fun v h₂ h₃ t1 tk₃ hv kp₂ ch₃ hd₃ => ?_)
  subst hv
  have C3 : Ch L [] [H.objs.size] h₁ h₃ := Ch.before kp₂ ch₃
  have hd₃' : h₃.get? H.objs.size = some (dictOf [⟨PyData.keyHash w.params "_data", .str "_data" t1, .ref d⟩] 1) := hd₃
  have K3 : Kp H h₃ := C3.base kH fL (by intro b hb; rw [List.mem_singleton.mp hb]; exact fd)
  have hx₃ := C3.kb _ _ hLx' hxd (kp₁ _ _ hx1)
  -- self._keys = sorted(data.keys())
  have gs₃ := gs.kp (kb.trans K3)
  have gl₃ := gl.kp (kb.trans K3)
  refine wpAny_execs_cons (st_setattr (K := K) (C := C) (x := H.objs.size + 1) (dx := H.objs.size) (es := [⟨PyData.keyHash w.params "_data", .str "_data" t1, .ref d⟩]) (n := 1) (XH.keeps K3) C3.ns (ev_local (C3.lk _ _ (by simp) vs₁))
    (ev_sorted_keys hh1 (ev_builtin ⟨gs₃.g, gs₃.b⟩) (hd.keep K3) h64 (ev_keys (ev_local (C3.lk _ _ (by simp) vd₁)) (hd.keep K3) hsm)) hx₃ hd₃' hLx TK.seta TK.plain TK.t2 TK.hasD (by rfl)
    (fun v tk => ⟨_, _, rfl, by show 2 ≤ 1000; decide⟩) fun v h₄ h₅ t2 tk₅ hv kp₄ ch₅ hd₅ => ?_)
  obtain ⟨l, ss, rfl, hl₄, hso, fl₄⟩ := hv
  have C5 : Ch L [] [H.objs.size] h₃ h₅ := Ch.before kp₄ ch₅
  have hd₅' : h₅.get? H.objs.size = some (dictOf [⟨PyData.keyHash w.params "_data", .str "_data" t1, .ref d⟩, ⟨PyData.keyHash w.params "_keys", .str "_keys" t2, .ref l⟩] 2) := hd₅
  have K5 : Kp H h₅ := C5.base K3 fL (by intro b hb; rw [List.mem_singleton.mp hb]; exact fd)
  have hx₅ := C5.kb _ _ hLx' hxd hx₃
  have fl : H.get? l = none := by
    cases e : H.get? l with
    | none => rfl
    | some o => have := K3 _ _ e; rw [fl₄] at this; cases this
  have hlL : l ≠ L := hl₄.ne_ns (C3.hasNs.kp kp₄)
  have hld : l ∉ [H.objs.size] := by
    rw [List.mem_singleton]
    rintro rfl
    rw [hd₃'] at fl₄; cases fl₄
  have hl₅ : StrList h₅ l ss := hl₄.at fun o e => ch₅.kb _ o hlL hld e
  -- self._cachestr = ''
  refine wpAny_execs_cons (st_setattr (K := K) (C := C) (x := H.objs.size + 1) (dx := H.objs.size) (es := [⟨PyData.keyHash w.params "_data", .str "_data" t1, .ref d⟩, ⟨PyData.keyHash w.params "_keys", .str "_keys" t2, .ref l⟩]) (n := 2) (XH.keeps K5) C5.ns (ev_local (C5.lk _ _ (by simp) (C3.lk _ _ (by simp) vs₁)))
    ev_str hx₅ hd₅' hLx TK.seta TK.plain TK.t3 TK.hasD (by rfl)
    (fun v tk => ⟨_, _, rfl, by show 3 ≤ 1000; decide⟩) fun v h₆ h₇ t3 tk₇ hv kp₆ ch₇ hd₇ => ?_)
  obtain ⟨tc, rfl⟩ := hv
  have C7 : Ch L [] [H.objs.size] h₅ h₇ := Ch.before kp₆ ch₇
  have hd₇' : h₇.get? H.objs.size = some (dictOf [⟨PyData.keyHash w.params "_data", .str "_data" t1, .ref d⟩, ⟨PyData.keyHash w.params "_keys", .str "_keys" t2, .ref l⟩, ⟨PyData.keyHash w.params "_cachestr", .str "_cachestr" t3, .str "" tc⟩] 3) := hd₇
  have K7 : Kp H h₇ := C7.base K5 fL (by intro b hb; rw [List.mem_singleton.mp hb]; exact fd)
  have hx₇ := C7.kb _ _ hLx' hxd hx₅
  have hl₇ : StrList h₇ l ss := hl₅.at fun o e => C7.kb _ o hlL hld e
  have gl₇ := gl.kp (kb.trans K7)
  -- self._cachepoints = (0, len(data))
  refine wpAny_execs_cons (st_setattr (K := K) (C := C) (x := H.objs.size + 1) (dx := H.objs.size) (es := [⟨PyData.keyHash w.params "_data", .str "_data" t1, .ref d⟩, ⟨PyData.keyHash w.params "_keys", .str "_keys" t2, .ref l⟩, ⟨PyData.keyHash w.params "_cachestr", .str "_cachestr" t3, .str "" tc⟩]) (n := 3) (XH.keeps K7) C7.ns (ev_local (C7.lk _ _ (by simp) (C5.lk _ _ (by simp) (C3.lk _ _ (by simp) vs₁))))
    (ev_tuple2 ev_int (ev_len_dict (ev_builtin ⟨gl₇.g, gl₇.b⟩) (ev_local (C7.lk _ _ (by simp) (C5.lk _ _ (by simp) (C3.lk _ _ (by simp) vd₁)))) (hd.keep K7) hsm (by omega))) hx₇ hd₇' hLx TK.seta TK.plain TK.t4 TK.hasD (by rfl)
    (fun v tk => ⟨_, _, rfl, by show 4 ≤ 1000; decide⟩) fun v h₈ h₉ t4 tk₉ hv kp₈ ch₉ hd₉ => ?_)
  obtain ⟨tp, a, b, ha, hb, rfl, htp, ⟨ta, rfl⟩, ⟨tb, rfl⟩, _, _, ft⟩ := hv
  have C9 : Ch L [] [H.objs.size] h₇ h₉ := Ch.before kp₈ ch₉
  have K9 : Kp H h₉ := C9.base K7 fL (by intro b hb; rw [List.mem_singleton.mp hb]; exact fd)
  have htL : tp ≠ L := by
    rintro rfl
    obtain ⟨o, es, ep, ho, _⟩ := ns_dict C7.hasNs
    rw [ft] at ho; cases ho
  have htd : tp ∉ [H.objs.size] := by
    rw [List.mem_singleton]
    rintro rfl
    rw [hd₇'] at ft; cases ft
  have fT : H.get? tp = none := by
    cases e : H.get? tp with
    | none => rfl
    | some o => have := K7 _ _ e; rw [ft] at this; cases this
  refine wpAny_execs_nil ⟨rfl, ⟨_, _, l, tp, t1, t2, t3, t4, tc, ta, tb, ss, rfl, ⟨C9.kb _ _ hLx' hxd hx₇, hd₉, hl₇.at fun o e => C9.kb _ o hlL hld e, ch₉.kb _ _ htL htd htp⟩, hso, fx, fd, fl, fT⟩, h₉, tk₉, rfl, K9⟩
end
end Mine
end
-- text C3
section
open PySem PySem.W PyProof.Rows
set_option Elab.async false
set_option linter.unusedVariables false
set_option maxRecDepth 100000
namespace Mine

/-- the trie at x over the dict d, whose keys are rs -/
structure TrieOk (prog : Program) (w : World) (K : Frag) (base h : Heap) (x C d : Addr) (kvs : List (PySem.Str × Value)) (rs : List (List Nat)) : Prop where
  kb : Kp base h
  X : K.In base
  lim : base.NoLimit
  tr : ∃ dx l tp t1 t2 t3 t4 tc ta tb ss, TrieAt w.params h x C d dx l tp t1 t2 t3 t4 tc ta tb kvs.length ss ∧ SortedOf ss (kvs.map (·.1))
  dict : h.DictOf (strKind prog w) d kvs
  sm : (d == sysModules) = false
  ok : KvOk kvs rs
theorem TrieAt.kp {p : Params} {h h' : Heap} {x C d dx l tp : Addr} {t1 t2 t3 t4 tc ta tb : Tok} {n : Nat} {ss : List PySem.Str} (a : TrieAt p h x C d dx l tp t1 t2 t3 t4 tc ta tb n ss) (k : Kp h h') : TrieAt p h' x C d dx l tp t1 t2 t3 t4 tc ta tb n ss :=
  ⟨k _ _ a.inst, k _ _ a.dict, a.keys.kp k, k _ _ a.tup⟩
theorem TrieOk.kp {prog : Program} {w : World} {K : Frag} {base h h' : Heap} {x C d : Addr} {kvs : List (PySem.Str × Value)} {rs : List (List Nat)} (a : TrieOk prog w K base h x C d kvs rs) (k : Kp h h') : TrieOk prog w K base h' x C d kvs rs :=
  ⟨a.kb.trans k, a.X, a.lim, let ⟨dx, l, tp, t1, t2, t3, t4, tc, ta, tb, ss, q, r⟩ := a.tr; ⟨dx, l, tp, t1, t2, t3, t4, tc, ta, tb, ss, q.kp k, r⟩, a.dict.keep k, a.sm, a.ok⟩

section
variable {prog : Program} {w : World} {A : Around} {env : Env} {s s₀ : Shared} {K : Frag} {C fI fC fG : Addr} {cdv : Value} {base : Heap} {x d : Addr} {kvs : List (PySem.Str × Value)} {rs : List (List Nat)}

/-- self._data -/
theorem ev_data {n : PySem.Str} {np pos : Pos} (TK : TrieK K C fI fC fG) (TO : TrieOk prog w K base s₀.heap x C d kvs rs) (hself : Ev prog w A env s₀ (.Name n np) (isV (.ref x)))
    (he : eval (.Attribute (.Name n np) "_data" pos) env = (do
      let o ← eval (.Name n np) env
      standAt pos.atName
      let r ← holding [o] (getAttr o "_data" true)
      letTemporaryGo (.Name n np) o r
      pure r) := by with_unfolding_all rfl) : Ev prog w A env s₀ (.Attribute (.Name n np) "_data" pos) (isV (.ref d)) := by
  obtain ⟨dx, l, tp, t1, t2, t3, t4, tc, ta, tb, ss, T, _⟩ := TO.tr
  exact ev_attr (ox := instObj C dx) (es := trieEs w.params d l tp t1 t2 t3 t4 tc) (n := 4) hself (TO.X.keeps TO.kb) (fun h k => ⟨k _ _ T.inst, rfl, rfl, k _ _ T.dict⟩) TK.pget TK.hasD TK.f1 (by rfl) (by rfl) he

theorem contains_call {y : List Nat} {t : Tok} (hroom : A.depth < recursionLimit) (TK : TrieK K C fI fC fG) (hfn : FnAt base fC "Trie.__contains__" (parsOf (meth3 1)) (bodyOf (meth3 1)) (scopOf (meth3 1)) .none cdv) (TO : TrieOk prog w K base s.heap x C d kvs rs) :
    wpAny (model prog w) A (call (.ref fC) [.ref x, .str (S y) t]) (fun v s' => isB (decide (y ∈ rs)) v s'.heap ∧ Keeps s s') NoE s := by
  refine call_fn (binds := [("self", .ref x), ("key", .str (S y) t)]) hroom (TO.lim.keeps TO.kb) (hfn.kp TO.kb) (fun _ _ _ _ _ _ => BindsTo.of_eq (by rfl)) (by intro z hz; rcases List.mem_cons.mp hz with rfl | hz; rfl; rw [List.mem_singleton.mp hz]; rfl) (fun L h₁ tk kp ns fr => ?_) (by decide) rfl rfl rfl
  have TO₁ := TO.kp kp
  refine wpAny_execs_cons (st_return (P := isB (decide (y ∈ rs))) ?_ fun v h' tk' hv kp' => ⟨hv, h', tk', rfl, kp.trans kp'⟩)
  rw [← TO.ok.isSome]
  exact ev_cmp (ev_s (ev_local ⟨_, ns, rfl⟩)) (ev_data (s₀ := { s with heap := h₁, toks := tk }) TK TO₁ (ev_local ⟨_, ns, rfl⟩)) (ci_in_dict TO.sm TO₁.dict.mapOf)

theorem getitem_call {y : List Nat} {t : Tok} (hroom : A.depth < recursionLimit) (TK : TrieK K C fI fC fG) (hfn : FnAt base fG "Trie.__getitem__" (parsOf (meth3 3)) (bodyOf (meth3 3)) (scopOf (meth3 3)) .none cdv) (TO : TrieOk prog w K base s.heap x C d kvs rs) (hy : y ∈ rs) :
    wpAny (model prog w) A (call (.ref fG) [.ref x, .str (S y) t]) (fun v s' => (∃ j : Nat, rs[j]? = some y ∧ ∃ t, v = .int (j : Int) t) ∧ Keeps s s') NoE s := by
  obtain ⟨j, tj, hj, hval⟩ := TO.ok.some hy
  refine wpAny_mono (call_fn (P := isV (.int (j : Int) tj)) (binds := [("self", .ref x), ("key", .str (S y) t)]) hroom (TO.lim.keeps TO.kb) (hfn.kp TO.kb) (fun _ _ _ _ _ _ => BindsTo.of_eq (by rfl)) (by intro z hz; rcases List.mem_cons.mp hz with rfl | hz; rfl; rw [List.mem_singleton.mp hz]; rfl) (fun L h₁ tk kp ns fr => ?_) (by decide) rfl rfl rfl) (fun v s' q => ⟨⟨j, hj, tj, q.1⟩, q.2⟩) fun _ _ x => x
  have TO₁ := TO.kp kp
  refine wpAny_execs_cons (st_return (P := isV (.int (j : Int) tj)) ?_ fun v h' tk' hv kp' => ⟨hv, h', tk', rfl, kp.trans kp'⟩)
  exact ev_item_dict (ev_data (s₀ := { s with heap := h₁, toks := tk }) TK TO₁ (ev_local ⟨_, ns, rfl⟩)) (ev_s (ev_local ⟨_, ns, rfl⟩)) TO₁.dict.mapOf hval
end
end Mine
end
-- text C4
section
open PySem PySem.W PyProof.Rows PySem.Builtin PySem.Builtin.Str
set_option Elab.async false
set_option linter.unusedVariables false
set_option maxRecDepth 100000
namespace Mine

theorem lt_split : ∀ {c a : List Nat} (b : List Nat), c < a → c < b ∨ b < a
  | [], [], b, h => absurd h (by simp)
  | [], a :: a', [], h => .inr (by simp)
  | [], a :: a', b :: b', h => .inl (by simp)
  | c :: c', [], b, h => absurd h (by simp)
  | c :: c', a :: a', [], h => .inr (by simp)
  | c :: c', a :: a', b :: b', h => by
    rw [List.cons_lt_cons_iff] at h ⊢
    rw [List.cons_lt_cons_iff]
    rcases h with h | ⟨h1, h2⟩
    · by_cases q : c < b
      · exact .inl (.inl q)
      · exact .inr (.inl (by omega))
    · subst h1
      by_cases q : c < b
      · exact .inl (.inl q)
      · by_cases q2 : b < c
        · exact .inr (.inl q2)
        · have : c = b := by omega
          subst this
          rcases lt_split b' h2 with h3 | h3
          · exact .inl (.inr ⟨rfl, h3⟩)
          · exact .inr (.inr ⟨rfl, h3⟩)
theorem not_lt_of_prefix : ∀ {y u : List Nat}, y <+: u → ¬ u < y
  | [], u, _ => by simp
  | a :: y, [], h => by simp at h
  | a :: y, b :: u, h => by
    rw [List.cons_prefix_cons] at h
    obtain ⟨rfl, h⟩ := h
    rw [List.cons_lt_cons_iff]
    rintro (q | ⟨_, q⟩)
    · omega
    · exact not_lt_of_prefix h q
theorem prefix_between : ∀ {y u : List Nat} {z : List Nat}, ¬ u < y → ¬ (y ++ z) < u → y <+: u
  | [], u, z, _, _ => by simp
  | a :: y, [], z, h, _ => absurd (by simp) h
  | a :: y, b :: u, z, h, g => by
    rw [List.cons_lt_cons_iff] at h
    rw [List.cons_append, List.cons_lt_cons_iff] at g
    have e : a = b := by
      have h1 : ¬ b < a := fun q => h (.inl q)
      have h2 : ¬ a < b := fun q => g (.inl q)
      omega
    subst e
    rw [List.cons_prefix_cons]
    exact ⟨rfl, prefix_between (fun q => h (.inr ⟨rfl, q⟩)) (fun q => g (.inr ⟨rfl, q⟩))⟩

theorem rising_le : ∀ {r : List PySem.Str} {p : PySem.Str}, risingS p r = true → ∀ x ∈ r, ¬ x.cps.toList < p.cps.toList
  | [], p, _, x, hx => by simp at hx
  | a :: r, p, h, x, hx => by
    have h' : (!Spec.ltCps a.cps.toList p.cps.toList && risingS a r) = true := h
    rw [ltCps_eq, Bool.and_eq_true] at h'
    have h1 : ¬ a.cps.toList < p.cps.toList := by simpa using h'.1
    rcases List.mem_cons.mp hx with rfl | hx
    · exact h1
    · intro q
      rcases lt_split a.cps.toList q with q | q
      · exact rising_le h'.2 x hx q
      · exact h1 q
theorem rising_tail {p x : PySem.Str} {r : List PySem.Str} (h : risingS p (x :: r) = true) : risingS x r = true := by
  have h' : (!Spec.ltCps x.cps.toList p.cps.toList && risingS x r) = true := h
  rw [Bool.and_eq_true] at h'
  exact h'.2
theorem sorted_tail {x : PySem.Str} : ∀ {r : List PySem.Str}, sortedS (x :: r) = true → sortedS r = true
  | [], _ => rfl
  | y :: r, h => rising_tail h
theorem sorted_le : ∀ {ss : List PySem.Str}, sortedS ss = true → ∀ {i j : Nat} {a b : PySem.Str}, i ≤ j → ss[i]? = some a → ss[j]? = some b → ¬ b.cps.toList < a.cps.toList
  | [], _, i, j, a, b, _, ha, _ => by simp at ha
  | x :: r, h, 0, 0, a, b, _, ha, hb => by
    simp at ha hb; subst ha hb
    exact not_lt_of_prefix (List.prefix_refl _)
  | x :: r, h, 0, j + 1, a, b, _, ha, hb => by
    simp at ha hb; subst ha
    exact rising_le h b (List.mem_of_getElem? hb)
  | x :: r, h, i + 1, 0, a, b, hij, ha, hb => by omega
  | x :: r, h, i + 1, j + 1, a, b, hij, ha, hb => by
    simp at ha hb
    exact sorted_le (sorted_tail h) (by omega) ha hb

theorem KvOk.keys {kvs : List (PySem.Str × Value)} {rs : List (List Nat)} (h : KvOk kvs rs) : kvs.map (·.1) = rs.map S := by
  refine List.ext_getElem? fun j => ?_
  rw [List.getElem?_map, List.getElem?_map]
  by_cases hj : j < rs.length
  · have e := List.getElem?_eq_getElem hj
    obtain ⟨t, ht⟩ := h.2 j _ e
    rw [ht, e]; rfl
  · rw [List.getElem?_eq_none (by rw [h.1]; omega), List.getElem?_eq_none (by omega)]; rfl

/-- y begins one of rs -/
def begins (y : List Nat) (rs : List (List Nat)) : Bool := rs.any fun r => decide (y <+: r)
theorem begins_iff {y : List Nat} {rs : List (List Nat)} : begins y rs = true ↔ ∃ r ∈ rs, y <+: r := by
  unfold begins; simp

/-- i is the first place of ss that is not less than y -/
structure Lower (ss : List PySem.Str) (y : List Nat) (i : Nat) : Prop where
  le : i ≤ ss.length
  lo : ∀ j x, j < i → ss[j]? = some x → x.cps.toList < y
  hi : ∀ j x, i ≤ j → ss[j]? = some x → ¬ x.cps.toList < y

theorem lower_begins {ss : List PySem.Str} {rs : List (List Nat)} {y : List Nat} {i : Nat} (hp : ss.Perm (rs.map S)) (hs : sortedS ss = true) (h : Lower ss y i) :
    begins y rs = true ↔ ∃ x, ss[i]? = some x ∧ y <+: x.cps.toList := by
  rw [begins_iff]
  constructor
  · rintro ⟨r, hr, hy⟩
    have hm : S r ∈ ss := hp.mem_iff.mpr (List.mem_map.mpr ⟨r, hr, rfl⟩)
    obtain ⟨j, hj, e⟩ := List.mem_iff_getElem.mp hm
    have ej : ss[j]? = some (S r) := by rw [List.getElem?_eq_getElem hj, e]
    have hij : i ≤ j := by
      rcases Nat.lt_or_ge j i with q | q
      · exact absurd (h.lo j _ q ej) (not_lt_of_prefix (by simpa using hy))
      · exact q
    have hi : i < ss.length := by omega
    have ei := List.getElem?_eq_getElem hi
    refine ⟨ss[i], ei, ?_⟩
    obtain ⟨z, hz⟩ := hy
    refine prefix_between (z := z) (h.hi i _ (Nat.le_refl _) ei) ?_
    rw [hz]
    have := sorted_le hs hij ei ej
    simpa using this
  · rintro ⟨x, hx, hy⟩
    have hm := hp.mem_iff.mp (List.mem_of_getElem? hx)
    obtain ⟨r, hr, rfl⟩ := List.mem_map.mp hm
    exact ⟨r, hr, by simpa using hy⟩

theorem starts_S (x y : List Nat) : Txt.startswith (S x) (S y) = decide (y <+: x) := by
  show (decide (0 + (S y).length ≤ (S x).length) && subAt (S x) (S y) 0) = _
  rw [StrLaws.subAt_eq]
  simp only [S_length, Nat.zero_add, List.drop_zero]
  by_cases h : y <+: x
  · rw [decide_eq_true h]
    have h1 := h.length_le
    have h2 := List.prefix_iff_eq_take.mp h
    simp only [Bool.and_eq_true, decide_eq_true_eq, beq_iff_eq]
    exact ⟨h1, by simpa using h2.symm⟩
  · rw [decide_eq_false h, Bool.and_eq_false_iff]
    refine .inr ?_
    rw [beq_eq_false_iff_ne]
    intro q
    exact h (List.prefix_iff_eq_take.mpr (by simpa using q.symm))

section
variable {prog : Program} {w : World} {A : Around} {s : Shared} {f : Addr} {dV cdv : Value}

theorem bisect_call {l TD : Addr} {oD : Obj} {da db : Value} {nD : Nat} {ss : List PySem.Str} {y : List Nat} {t ta tb : Tok} (hD : s.heap.get? TD = some oD) (hDs : oD.data = .seq #[da, db] nD) (hroom : A.depth < recursionLimit) (hlim : s.heap.NoLimit) (hf : FnAt s.heap f "bisect_left" (parsOf bisF) (bodyOf bisF) (scopOf bisF) (.ref TD) cdv)
    (hl : StrList s.heap l ss) (hs : sortedS ss = true) (hn : ss.length ≤ 1000) :
    wpAny (model prog w) A (call (.ref f) [.ref l, .str (S y) t, .int 0 ta, .int (ss.length : Int) tb]) (fun v s' => (∃ i : Nat, Lower ss y i ∧ isI i v s'.heap) ∧ Keeps s s') NoE s := by
  refine call_fn (P := fun v h => ∃ i : Nat, Lower ss y i ∧ isI i v h) (binds := [("rows", .ref l), ("key", .str (S y) t), ("low", .int 0 ta), ("high", .int (ss.length : Int) tb)]) hroom hlim hf (fun _ _ _ _ _ _ => BindsTo.of_defaults rfl hD hDs rfl rfl)
    (by intro z hz; simp only [List.mem_cons, List.not_mem_nil, or_false] at hz; rcases hz with rfl | rfl | rfl | rfl <;> rfl) (fun L h₁ tk kp ns fr => ?_) (by decide) rfl rfl rfl
  have vR : Var h₁ L "rows" (.ref l) := ⟨_, ns, rfl⟩
  have vK : Var h₁ L "key" (.str (S y) t) := ⟨_, ns, rfl⟩
  have vLo : Var h₁ L "low" (.int 0 ta) := ⟨_, ns, rfl⟩
  have vHi : Var h₁ L "high" (.int (ss.length : Int) tb) := ⟨_, ns, rfl⟩
  have hn₁ : HasNs h₁ L := ⟨_, ns⟩
  obtain ⟨vs, hp, hS⟩ := hl
  have hlL : l ≠ L := by
    rintro rfl
    obtain ⟨_, e⟩ := hp
    rw [fr] at e; cases e
  refine wpAny_execs_cons (st_if (c := (Value.int (ss.length : Int) tb == Value.none)) (ts_cmp (ev_local vHi) ev_none ci_isnone) (fun hc => ?_) (fun hc h₂ tk₂ kp₂ => ?_))
  · exact absurd hc (by simp)
  refine wpAny_execs_nil (wpAny_execs_cons (while_rule (xs := ["middle", "low", "high"]) (W := []) (fun k h => ∃ (lo hi : Nat) (t1 t2 : Tok), Var h L "low" (.int lo t1) ∧ Var h L "high" (.int hi t2) ∧ lo ≤ hi ∧ hi ≤ ss.length ∧
      (∀ j x, j < lo → ss[j]? = some x → x.cps.toList < y) ∧ (∀ j x, hi ≤ j → ss[j]? = some x → ¬ x.cps.toList < y) ∧ k = hi - lo) ss.length (hn₁.kp kp₂)
    ⟨0, ss.length, ta, tb, vLo.kp kp₂, vHi.kp kp₂, Nat.zero_le _, Nat.le_refl _, fun j x h => by omega, fun j x h e => ?_, rfl⟩ ?_))
  · have := (List.getElem?_eq_some_iff.mp e).1; omega
  rintro k h tk' ch ⟨lo, hi, t1, t2, vl, vh, hle, hhl, hlo, hhi, rfl⟩
  have CH : Ch L ["middle", "low", "high"] [] h₁ h := Ch.before kp₂ ch
  refine ⟨decide ((lo : Int) < (hi : Int)), ts_cmp (ev_i (ev_local vl)) (ev_i (ev_local vh)) ci_lt, fun hc h₄ tk₄ kp₄ => ?_, fun hc h₄ tk₄ kp₄ => ?_⟩
  · have hlt : lo < hi := by simpa using hc
    have CH₄ : Ch L ["middle", "low", "high"] [] h₁ h₄ := CH.after kp₄
    have hd : (((lo : Int) + (hi : Int)).fdiv 2) = (((lo + hi) / 2 : Nat) : Int) := by rw [Int.fdiv_eq_ediv_of_nonneg _ (by decide)]; omega
    have vl₄ := vl.kp kp₄
    have vh₄ := vh.kp kp₄
    refine wpAny_execs_cons (st_assign CH₄.ns (ev_div (ev_add (ev_i (ev_local vl₄)) (ev_i (ev_local vh₄))) ev_int (by decide) (PyProof.noPylong_small (by omega))) fun v h₅ h₆ tk₆ hv₆ kp₅ ch₆ var₆ => ?_)
    obtain ⟨t₆, rfl⟩ := hv₆
    rw [hd] at var₆
    have C6 : Ch L ["middle", "low", "high"] [] h₄ h₆ := Ch.before kp₅ (ch₆.mono (by simp) (by simp))
    have vR₆ : Var h₆ L "rows" (.ref l) := C6.lk _ _ (by decide) (CH₄.lk _ _ (by decide) vR)
    have vK₆ : Var h₆ L "key" (.str (S y) t) := C6.lk _ _ (by decide) (CH₄.lk _ _ (by decide) vK)
    have vl₆ : Var h₆ L "low" (.int lo t1) := ch₆.lk _ _ (by decide) (vl₄.kp kp₅)
    have vh₆ : Var h₆ L "high" (.int hi t2) := ch₆.lk _ _ (by decide) (vh₄.kp kp₅)
    have hl₆ : h₆.IsList l vs.toArray := hp.isList.at fun o e => C6.kb _ o hlL (by simp) (CH₄.kb _ o hlL (by simp) (kp _ _ e))
    have hmid : (lo + hi) / 2 < ss.length := by omega
    have hvl := strs_len hS
    obtain ⟨x, tx, hx, hvx⟩ := strs_of hS (i := (lo + hi) / 2) (List.getElem?_eq_getElem (by omega))
    have hvx' : vs.toArray[(((lo + hi) / 2 : Nat) : Int).toNat]? = some (.str x tx) := by
      rw [Int.toNat_natCast, ← hvx]; simp
    refine wpAny_execs_cons (st_if (c := decide (x.cps.toList < (S y).cps.toList)) (ts_cmp (ev_s (ev_item_list (ev_local vR₆) (ev_i (ev_local var₆)) hl₆ (by omega) (by omega) hvx')) (ev_s (ev_local vK₆)) ci_lts) (fun hc h₇ tk₇ kp₇ => ?_) (fun hc h₇ tk₇ kp₇ => ?_))
    · have hxy : x.cps.toList < y := by simpa using hc
      refine wpAny_execs_cons (st_assign (HasNs.kp C6.ns kp₇) (ev_add (ev_i (ev_local (var₆.kp kp₇))) ev_int) fun v h₈ h₉ tk₉ hv₉ kp₈ ch₉ var₉ => ?_)
      obtain ⟨t₉, rfl⟩ := hv₉
      refine wpAny_execs_nil (wpAny_execs_nil ⟨h₉, tk₉, hi - ((lo + hi) / 2 + 1), rfl, ?_, by omega, (lo + hi) / 2 + 1, hi, t₉, t2, ?_, ?_, by omega, hhl, ?_, hhi, rfl⟩)
      · exact C6.trans (Ch.before (kp₇.trans kp₈) (ch₉.mono (by simp) (by simp)))
      · have e : ((((lo + hi) / 2 : Nat) : Int) + 1) = (((lo + hi) / 2 + 1 : Nat) : Int) := by omega
        rw [e] at var₉; exact var₉
      · exact ch₉.lk _ _ (by decide) ((vh₆.kp kp₇).kp kp₈)
      · intro j z hj hz
        exact Classical.byContradiction fun q => by
          rcases lt_split z.cps.toList hxy with q' | q'
          · exact sorted_le hs (by omega) hz hx q'
          · exact q q'
    · have hxy : ¬ x.cps.toList < y := by simpa using hc
      refine wpAny_execs_cons (st_assign (HasNs.kp C6.ns kp₇) (ev_local (var₆.kp kp₇)) fun v h₈ h₉ tk₉ hv₉ kp₈ ch₉ var₉ => ?_)
      subst hv₉
      refine wpAny_execs_nil (wpAny_execs_nil ⟨h₉, tk₉, (lo + hi) / 2 - lo, rfl, ?_, by omega, lo, (lo + hi) / 2, t1, t₆, ?_, var₉, by omega, by omega, hlo, ?_, rfl⟩)
      · exact C6.trans (Ch.before (kp₇.trans kp₈) (ch₉.mono (by simp) (by simp)))
      · exact ch₉.lk _ _ (by decide) ((vl₆.kp kp₇).kp kp₈)
      · intro j z hj hz q
        rcases lt_split x.cps.toList q with q' | q'
        · exact sorted_le hs (by omega) hx hz q'
        · exact hxy q'
  · have heq : lo = hi := by
      have : ¬ (lo : Int) < (hi : Int) := by simpa using hc
      omega
    subst heq
    refine wpAny_execs_cons (st_return (ev_i (ev_local (vl.kp kp₄))) fun v h₅ tk₅ hv₅ kp₅ => ⟨⟨lo, ⟨hhl, hlo, hhi⟩, hv₅⟩, h₅, tk₅, rfl, fun b o e => ?_⟩)
    refine kp₅ _ _ (kp₄ _ _ (CH.kb b o ?_ (by simp) (kp _ _ e)))
    rintro rfl
    rw [fr] at e; cases e
end
end Mine
end
-- text C5
section
open PySem PySem.W PyProof.Rows
set_option Elab.async false
set_option linter.unusedVariables false
set_option maxRecDepth 100000
namespace Mine

section
variable {prog : Program} {w : World} {A : Around} {env : Env} {s s₀ : Shared} {K : Frag} {C fI fC fG fH fB : Addr} {cdv cdB : Value} {base : Heap} {x d dx l tp : Addr} {kvs : List (PySem.Str × Value)} {rs : List (List Nat)} {t1 t2 t3 t4 tc ta tb : Tok} {nn : Nat} {ss : List PySem.Str}

theorem ev_keysA {n : PySem.Str} {np pos : Pos} (TK : TrieK K C fI fC fG) (X : K.In s₀.heap) (T : TrieAt w.params s₀.heap x C d dx l tp t1 t2 t3 t4 tc ta tb nn ss) (hself : Ev prog w A env s₀ (.Name n np) (isV (.ref x)))
    (he : eval (.Attribute (.Name n np) "_keys" pos) env = (do
      let o ← eval (.Name n np) env
      standAt pos.atName
      let r ← holding [o] (getAttr o "_keys" true)
      letTemporaryGo (.Name n np) o r
      pure r) := by with_unfolding_all rfl) : Ev prog w A env s₀ (.Attribute (.Name n np) "_keys" pos) (isV (.ref l)) :=
  ev_attr (ox := instObj C dx) (es := trieEs w.params d l tp t1 t2 t3 t4 tc) (n := 4) hself X (fun h k => ⟨k _ _ T.inst, rfl, rfl, k _ _ T.dict⟩) TK.pget TK.hasD TK.f2 (by rfl) (by rfl) he
theorem ev_cachestrA {n : PySem.Str} {np pos : Pos} (TK : TrieK K C fI fC fG) (X : K.In s₀.heap) (T : TrieAt w.params s₀.heap x C d dx l tp t1 t2 t3 t4 tc ta tb nn ss) (hself : Ev prog w A env s₀ (.Name n np) (isV (.ref x)))
    (he : eval (.Attribute (.Name n np) "_cachestr" pos) env = (do
      let o ← eval (.Name n np) env
      standAt pos.atName
      let r ← holding [o] (getAttr o "_cachestr" true)
      letTemporaryGo (.Name n np) o r
      pure r) := by with_unfolding_all rfl) : Ev prog w A env s₀ (.Attribute (.Name n np) "_cachestr" pos) (isV (.str "" tc)) :=
  ev_attr (ox := instObj C dx) (es := trieEs w.params d l tp t1 t2 t3 t4 tc) (n := 4) hself X (fun h k => ⟨k _ _ T.inst, rfl, rfl, k _ _ T.dict⟩) TK.pget TK.hasD TK.f3 (by rfl) (by rfl) he
theorem ev_pointsA {n : PySem.Str} {np pos : Pos} (TK : TrieK K C fI fC fG) (X : K.In s₀.heap) (T : TrieAt w.params s₀.heap x C d dx l tp t1 t2 t3 t4 tc ta tb nn ss) (hself : Ev prog w A env s₀ (.Name n np) (isV (.ref x)))
    (he : eval (.Attribute (.Name n np) "_cachepoints" pos) env = (do
      let o ← eval (.Name n np) env
      standAt pos.atName
      let r ← holding [o] (getAttr o "_cachepoints" true)
      letTemporaryGo (.Name n np) o r
      pure r) := by with_unfolding_all rfl) : Ev prog w A env s₀ (.Attribute (.Name n np) "_cachepoints" pos) (isV (.ref tp)) :=
  ev_attr (ox := instObj C dx) (es := trieEs w.params d l tp t1 t2 t3 t4 tc) (n := 4) hself X (fun h k => ⟨k _ _ T.inst, rfl, rfl, k _ _ T.dict⟩) TK.pget TK.hasD TK.f4 (by rfl) (by rfl) he

theorem has_keys_call {TD : Addr} {oD : Obj} {da db : Value} {nD : Nat} {y : List Nat} {t : Tok} (hh : A.handled = none) (hroom : A.depth + 1 < recursionLimit) (TK : TrieK K C fI fC fG) (gl : BiG base "len" (.builtin "len"))
    (hgB : Var base mainGlobals "bisect_left" (.ref fB)) (hfnB : FnAt base fB "bisect_left" (parsOf bisF) (bodyOf bisF) (scopOf bisF) (.ref TD) cdB) (hD : base.get? TD = some oD) (hDs : oD.data = .seq #[da, db] nD)
    (hfn : FnAt base fH "Trie.has_keys_with_prefix" (parsOf (meth3 4)) (bodyOf (meth3 4)) (scopOf (meth3 4)) .none cdv) (TO : TrieOk prog w K base s.heap x C d kvs rs) (hrl : rs.length ≤ 1000) :
    wpAny (model prog w) A (call (.ref fH) [.ref x, .str (S y) t]) (fun v s' => isB (begins y rs) v s'.heap ∧ Keeps s s') NoE s := by
  refine call_fn (P := isB (begins y rs)) (binds := [("self", .ref x), ("prefix", .str (S y) t)]) (by omega) (TO.lim.keeps TO.kb) (hfn.kp TO.kb) (fun _ _ _ _ _ _ => BindsTo.of_eq (by rfl)) (by intro z hz; rcases List.mem_cons.mp hz with rfl | hz; rfl; rw [List.mem_singleton.mp hz]; rfl) (fun L h₁ tk kp ns fr => ?_) (by decide) rfl rfl rfl
  obtain ⟨dx, l, tp, t1, t2, t3, t4, tc, ta, tb, ss, T, hperm, hsorted⟩ := TO.tr
  have hssl : ss.length = kvs.length := by have := hperm.length_eq; simpa using this
  have hkl := TO.ok.1
  have vS : Var h₁ L "self" (.ref x) := ⟨_, ns, rfl⟩
  have vP : Var h₁ L "prefix" (.str (S y) t) := ⟨_, ns, rfl⟩
  have kb₁ := TO.kb.trans kp
  have TO₁ := TO.kp kp
  have hn₁ : HasNs h₁ L := ⟨_, ns⟩
  refine wpAny_execs_cons (st_if (c := decide (y ∈ rs)) ?_ (fun hc h₂ tk₂ kp₂ => ?_) (fun hc h₂ tk₂ kp₂ => ?_))
  · rw [← TO.ok.isSome]
    exact ts_cmp (ev_s (ev_local vP)) (ev_data (s₀ := { s with heap := h₁, toks := tk }) TK TO₁ (ev_local vS)) (ci_in_dict TO.sm TO₁.dict.mapOf)
  · have hy : y ∈ rs := of_decide_eq_true hc
    have hb : begins y rs = true := begins_iff.mpr ⟨y, hy, List.prefix_refl _⟩
    refine wpAny_execs_cons (st_return (P := isV (.bool true)) ev_bool fun v h₃ tk₃ hv kp₃ => ⟨?_, h₃, tk₃, rfl, (kp.trans kp₂).trans kp₃⟩)
    show v = .bool (begins y rs)
    rw [hb]; exact hv
  refine wpAny_execs_nil (wpAny_execs_cons ?_)
  have T₂ := (T.kp kp).kp kp₂
  have X₂ := TO.X.keeps (kb₁.trans kp₂)
  have hst : Txt.startswith (S y) (S []) = true := by rw [starts_S]; simp
  have hnil : (Str.ofString "") = S [] := rfl
  refine st_if (c := true) (ts_of_ev ?_) (fun _ h₃ tk₃ kp₃ => ?_) (fun hc => ?_)
  · rw [← hst]
    exact ev_starts (ev_s (ev_local (vP.kp kp₂))) (ev_s (ev_cachestrA (s₀ := { s with heap := h₂, toks := tk₂ }) TK X₂ T₂ (ev_local (vS.kp kp₂))))
  · have T₃ := T₂.kp kp₃
    have X₃ := X₂.keeps kp₃
    have k13 := kp₂.trans kp₃
    refine wpAny_execs_cons (st_unpack2 (T := tp) (a := .int 0 ta) (b := .int (kvs.length : Int) tb) hh (ev_pointsA (s₀ := { s with heap := h₃, toks := tk₃ }) TK X₃ T₃ (ev_local (vS.kp k13))) ⟨_, T₃.tup, rfl, _, rfl⟩ fun h₄ tk₄ kp₄ => ?_)
    refine assign_local (hn₁.kp (k13.trans kp₄)) fun h₅ tk₅ ch₅ var₅ => ?_
    refine assign_local ch₅.ns fun h₆ tk₆ ch₆ var₆ => ?_
    have C6 : Ch L ["lo", "hi"] [] h₁ h₆ := Ch.before (k13.trans kp₄) ((ch₅.mono (by simp) (by simp)).trans (ch₆.mono (by simp) (by simp)))
    have K6 : Kp s.heap h₆ := C6.base kp fr (by simp)
    have T₆ := T.kp K6
    have X₆ := TO.X.keeps (TO.kb.trans K6)
    have vS₆ := C6.lk _ _ (by decide) vS
    have vP₆ := C6.lk _ _ (by decide) vP
    have vlo₆ : Var h₆ L "lo" (.int 0 ta) := ch₆.lk _ _ (by decide) var₅
    have kb₆ := TO.kb.trans K6
    refine wpAny_execs_cons (st_assign (P := fun v h => ∃ i : Nat, Lower ss y i ∧ isI i v h) ch₆.ns (ev_callfn4 (P₁ := isV (.ref l)) (P₂ := isV (.str (S y) t)) (P₃ := isV (.int 0 ta)) (P₄ := isV (.int (kvs.length : Int) tb)) (ev_global (hgB.kp kb₆)) (hfnB.kp kb₆)
      (ev_keysA (s₀ := { s with heap := h₆, toks := tk₆ }) TK X₆ T₆ (ev_local vS₆)) (ev_local vP₆) (ev_local vlo₆) (ev_local var₆) ?_) fun v h₇ h₈ tk₈ hv kp₇ ch₈ var₈ => ?_)
    · rintro v₁ v₂ v₃ v₄ _ _ _ _ rfl rfl rfl rfl s₇ k₇
      have K7 := Keeps.kp k₇
      rw [← hssl]
      exact bisect_call (hD := (kb₆.trans K7) _ _ hD) (hDs := hDs) (by show A.depth + 1 < recursionLimit; exact hroom) ((TO.lim.keeps kb₆).keeps K7) ((hfnB.kp kb₆).kp K7) (T₆.keys.kp K7) hsorted (by omega)
    obtain ⟨i, hlow, ti, rfl⟩ := hv
    have C8 : Ch L ["lo", "hi", "i"] [] h₁ h₈ := (C6.mono (by simp) (by simp)).trans (Ch.before kp₇ (ch₈.mono (by simp) (by simp)))
    have K8 : Kp s.heap h₈ := C8.base kp fr (by simp)
    have T₈ := T.kp K8
    have X₈ := TO.X.keeps (TO.kb.trans K8)
    have vS₈ := C8.lk _ _ (by decide) vS
    have vP₈ := C8.lk _ _ (by decide) vP
    have g8 := gl.kp (TO.kb.trans K8)
    obtain ⟨vs, hp, hSA⟩ := T₈.keys
    have hvl := strs_len hSA
    refine wpAny_execs_nil (wpAny_execs_cons (st_if (c := ((i : Int) == (vs.toArray.size : Int))) (ts_cmp (ev_i (ev_local var₈)) (ev_len_list (ev_builtin ⟨g8.g, g8.b⟩) (ev_keysA (s₀ := { s with heap := h₈, toks := tk₈ }) TK X₈ T₈ (ev_local vS₈)) hp.isList (by simp; omega)) ci_eq) (fun hc h₉ tk₉ kp₉ => ?_) (fun hc h₉ tk₉ kp₉ => ?_)))
    · have hi : i = ss.length := by
        have : (i : Int) = (vs.toArray.size : Int) := by simpa using hc
        simp at this; omega
      have hb : begins y rs = false := by
        rw [Bool.eq_false_iff]
        intro q
        rw [lower_begins (by rw [show rs.map S = kvs.map (·.1) from TO.ok.keys.symm]; exact hperm) hsorted hlow] at q
        obtain ⟨z, hz, _⟩ := q
        rw [List.getElem?_eq_none (by omega)] at hz; cases hz
      refine wpAny_execs_cons (st_return (P := isV (.bool false)) ev_bool fun v h₃ tk₃ hv kp₃ => ⟨?_, h₃, tk₃, rfl, (K8.trans kp₉).trans kp₃⟩)
      show v = .bool (begins y rs)
      rw [hb]; exact hv
    · have hi : i < ss.length := by
        have h1 : ¬ (i : Int) = (vs.toArray.size : Int) := by simpa using hc
        have := hlow.le
        simp at h1; omega
      obtain ⟨z, tz, hz, hvz⟩ := strs_of hSA (i := i) (List.getElem?_eq_getElem (by omega))
      have hvz' : vs.toArray[((i : Nat) : Int).toNat]? = some (.str z tz) := by
        rw [Int.toNat_natCast, ← hvz]; simp
      have hb : Txt.startswith z (S y) = begins y rs := by
        have e := starts_S z.cps.toList y
        rw [S_eta] at e
        rw [e]
        have q := lower_begins (rs := rs) (by rw [show rs.map S = kvs.map (·.1) from TO.ok.keys.symm]; exact hperm) hsorted hlow
        by_cases hb : begins y rs = true
        · rw [hb]
          obtain ⟨z', hz', hy⟩ := q.mp hb
          rw [hz] at hz'; cases hz'
          exact decide_eq_true hy
        · rw [Bool.not_eq_true] at hb
          rw [hb]
          refine decide_eq_false fun hy => ?_
          rw [q.mpr ⟨z, hz, hy⟩] at hb; cases hb
      refine wpAny_execs_nil (wpAny_execs_cons (st_return (P := isB (begins y rs)) ?_ fun v h₃ tk₃ hv kp₃ => ⟨hv, h₃, tk₃, rfl, (K8.trans kp₉).trans kp₃⟩))
      rw [← hb]
      have T₉ := T₈.kp kp₉
      exact ev_starts (ev_s (ev_item_list (ev_keysA (s₀ := { s with heap := h₉, toks := tk₉ }) TK (X₈.keeps kp₉) T₉ (ev_local (vS₈.kp kp₉))) (ev_i (ev_local (var₈.kp kp₉))) (hp.isList.at fun o e => kp₉ _ _ e) (by omega) (by omega) hvz')) (ev_s (ev_local (vP₈.kp kp₉)))
  · cases hc
end
end Mine
end
-- text C6
section
open PySem PySem.W PyProof.Rows
set_option Elab.async false
set_option linter.unusedVariables false
set_option maxRecDepth 100000
namespace Mine

/-- all endings of H -/
def sufs (H : List Nat) : List (List Nat) := (List.range H.length).map fun i => H.drop i
theorem sufs_len (H : List Nat) : (sufs H).length = H.length := by simp [sufs]
theorem sufs_at {H : List Nat} {i : Nat} (h : i < H.length) : (sufs H)[i]? = some (H.drop i) := by
  unfold sufs
  rw [List.getElem?_map, List.getElem?_range h]; rfl
theorem mem_sufs {H x : List Nat} : x ∈ sufs H ↔ ∃ i, i < H.length ∧ x = H.drop i := by
  unfold sufs
  simp only [List.mem_map, List.mem_range]
  constructor
  · rintro ⟨i, h, rfl⟩; exact ⟨i, h, rfl⟩
  · rintro ⟨i, h, rfl⟩; exact ⟨i, h, rfl⟩
theorem sufs_new {H : List Nat} {i : Nat} (h : i < H.length) : H.drop i ∉ (sufs H).take i := by
  intro hm
  obtain ⟨j, hj, e⟩ := List.mem_iff_getElem.mp hm
  rw [List.length_take, sufs_len] at hj
  rw [List.getElem_take] at e
  have h1 := sufs_at (H := H) (i := j) (by omega)
  rw [List.getElem?_eq_getElem (by rw [sufs_len]; omega), e] at h1
  have h2 : (H.drop i).length = (H.drop j).length := by rw [Option.some.inj h1]
  rw [List.length_drop, List.length_drop] at h2
  omega

section
variable {prog : Program} {w : World} {A : Around} {s : Shared} {f : Addr} {cdv : Value}

theorem sign_call {n : Int} {t : Tok} (hroom : A.depth < recursionLimit) (hlim : s.heap.NoLimit) (gc : BiG s.heap "chr" (.builtin "chr")) (hf : FnAt s.heap f "_law_sign" (parsOf signF) (bodyOf signF) (scopOf signF) .none cdv) :
    wpAny (model prog w) A (call (.ref f) [.int n t]) (fun v s' => (∃ c : Nat, isS (S [c]) v s'.heap) ∧ Keeps s s') NoE s := by
  refine call_fn (P := fun v h => ∃ c : Nat, isS (S [c]) v h) (binds := [("n", .int n t)]) hroom hlim hf (fun _ _ _ _ _ _ => BindsTo.of_eq (by rfl)) (by intro y hy; rw [List.mem_singleton.mp hy]; rfl) (fun L h₁ tk kp ns fr => ?_) (by decide) rfl rfl rfl
  have hv : Var h₁ L "n" (.int n t) := ⟨_, ns, rfl⟩
  have hn₁ : HasNs h₁ L := ⟨_, ns⟩
  have m0 := Int.fmod_nonneg_of_pos n (b := 4) (by decide)
  have m1 := Int.fmod_lt_of_pos n (b := 4) (by decide)
  refine wpAny_execs_cons (st_if (c := decide (n.fmod 4 < 3)) (ts_cmp (ev_mod (ev_i (ev_local hv)) ev_int (by decide)) ev_int ci_lt) (fun hc h₂ tk₂ kp₂ => ?_) (fun hc h₂ tk₂ kp₂ => ?_))
  · have h3 : n.fmod 4 < 3 := of_decide_eq_true hc
    have hx : (Str.ofString "abc").cps[(n.fmod 4).toNat]? = some (97 + (n.fmod 4).toNat) := by
      have : (n.fmod 4).toNat = 0 ∨ (n.fmod 4).toNat = 1 ∨ (n.fmod 4).toNat = 2 := by omega
      rcases this with e | e | e <;> rw [e] <;> rfl
    refine wpAny_execs_cons (st_return (P := isS (S [97 + (n.fmod 4).toNat])) (ev_item_str ev_str (ev_mod (ev_i (ev_local (hv.kp kp₂))) ev_int (by decide)) m0 (by omega) hx) fun v h₃ tk₃ hv kp₃ => ⟨⟨_, hv⟩, h₃, tk₃, rfl, (kp.trans kp₂).trans kp₃⟩)
  refine wpAny_execs_nil (wpAny_execs_cons (st_assign (hn₁.kp kp₂) (ev_mod (ev_div (ev_i (ev_local (hv.kp kp₂))) ev_int (by decide) (PyProof.noPylong_small (by omega))) ev_int (by decide)) fun v h₃ h₄ tk₄ hv₄ kp₃ ch₄ var₄ => ?_))
  obtain ⟨tp, rfl⟩ := hv₄
  have p0 := Int.fmod_nonneg_of_pos (n.fdiv 4) (b := 1112064) (by decide)
  have p1 := Int.fmod_lt_of_pos (n.fdiv 4) (b := 1112064) (by decide)
  generalize (n.fdiv 4).fmod 1112064 = p at *
  have K4 : Kp s.heap h₄ := ch₄.base (kp.trans (kp₂.trans kp₃)) fr (by simp)
  have g4 := gc.kp K4
  refine wpAny_execs_cons (st_return (P := isS ⟨#[(if p < 55296 then p else p + 2048).toNat]⟩) (ev_chr (i := if p < 55296 then p else p + 2048) (ev_builtin ⟨g4.g, g4.b⟩) (ev_ifexp (c := decide (p < 55296)) (ts_cmp (ev_i (ev_local var₄)) ev_int ci_lt) (fun hc => ?_) (fun hc => ?_)) ?_ ?_) fun v h₅ tk₅ hv kp₅ => ⟨⟨_, hv⟩, h₅, tk₅, rfl, K4.trans kp₅⟩)
  · rw [if_pos (of_decide_eq_true hc)]
    exact ev_i (ev_local var₄)
  · rw [if_neg (of_decide_eq_false hc)]
    exact ev_add (ev_i (ev_local var₄)) ev_int
  · split <;> omega
  · split <;> omega

/-- a trie that was made -/
structure Made (prog : Program) (w : World) (h₀ h : Heap) (x C d : Addr) (kvs : List (PySem.Str × Value)) (rs : List (List Nat)) : Prop where
  tr : ∃ dx l tp t1 t2 t3 t4 tc ta tb ss, TrieAt w.params h x C d dx l tp t1 t2 t3 t4 tc ta tb kvs.length ss ∧ SortedOf ss (kvs.map (·.1)) ∧ h₀.get? x = none ∧ h₀.get? dx = none ∧ h₀.get? l = none ∧ h₀.get? tp = none
  dict : h.DictOf (strKind prog w) d kvs
  fd : h₀.get? d = none
  sm : (d == sysModules) = false
  ok : KvOk kvs rs

theorem mk_call {K : Frag} {C fI fC fG : Addr} {cdI : Value} {base : Heap} {H : List Nat} {t : Tok} (hh : A.handled = none) (hroom : A.depth + 12 < recursionLimit) (TK : TrieK K C fI fC fG) (kb : Kp base s.heap) (X : K.In base) (hlim : base.NoLimit) (hm : ∃ o, base.get? mainGlobals = some o)
    (gs : BiG base "sorted" (.builtin "sorted")) (gl : BiG base "len" (.builtin "len")) (gr : BiG base "range" (.type "range")) (hgT : Var base mainGlobals "Trie" (.ref C))
    (hfnI : FnAt base fI "Trie.__init__" (parsOf (meth3 0)) (bodyOf (meth3 0)) (scopOf (meth3 0)) .none cdI) (hf : FnAt base f "_law_trie" (parsOf mkF) (bodyOf mkF) (scopOf mkF) .none cdv) (hH : H.length < 64) :
    wpAny (model prog w) A (call (.ref f) [.str (S H) t]) (fun v s' => (∃ x d kvs, v = .ref x ∧ Made prog w s.heap s'.heap x C d kvs (sufs H)) ∧ Keeps s s') NoE s := by
  refine call_fn (P := fun v h => ∃ x d kvs, v = .ref x ∧ Made prog w s.heap h x C d kvs (sufs H)) (binds := [("head", .str (S H) t)]) (by omega) (hlim.keeps kb) (hf.kp kb) (fun _ _ _ _ _ _ => BindsTo.of_eq (by rfl)) (by intro y hy; rw [List.mem_singleton.mp hy]; rfl) (fun L h₁ tk kp ns fr => ?_) (by decide) rfl rfl rfl
  have vH : Var h₁ L "head" (.str (S H) t) := ⟨_, ns, rfl⟩
  have hn₁ : HasNs h₁ L := ⟨_, ns⟩
  have kb₁ := kb.trans kp
  have bL : base.get? L = none := none_of_kp kb fr
  refine wpAny_execs_cons (st_assign hn₁ (ev_dict0 (let ⟨o, e⟩ := hm; ⟨o, kb₁ _ _ e⟩)) fun v h₂ h₃ tk₃ hv kp₂ ch₃ var₃ => ?_)
  obtain ⟨d, rfl, hd₂, hdf, hsm⟩ := hv
  have hdL : d ≠ L := ne_of_fresh hn₁ hdf
  have hd₃ := hd₂.at fun o e => ch₃.kb _ o hdL (by simp) e
  have C3 : Ch L ["data"] [] h₁ h₃ := Ch.before kp₂ ch₃
  have K3 : Kp s.heap h₃ := C3.base kp fr (by simp)
  have sd : s.heap.get? d = none := none_of_kp kp hdf
  have hdold : ∃ o, h₃.get? d = some o := let ⟨o, _, _, ho, _⟩ := hd₃; ⟨o, ho⟩
  have g3l := gl.kp (kb.trans K3)
  have g3r := gr.kp (kb.trans K3)
  refine wpAny_execs_cons (for_rule (xs := ["spot"]) (W := [d]) (fun i h => ∃ kvs, h.DictOf (strKind prog w) d kvs ∧ KvOk kvs ((sufs H).take i)) ch₃.ns
    (src_range1 hh (ev_builtin ⟨g3r.g, g3r.b⟩) (ev_len_str (ev_builtin ⟨g3l.g, g3l.b⟩) (ev_s (ev_local (C3.lk _ _ (by decide) vH))) (by rw [S_length]; omega)) (by omega) (by rw [S_length]; omega))
    (by simp) (by intro b hb; rw [List.mem_singleton.mp hb]; exact hdold) (fun h kp => ⟨[], hd₃.keep kp, by simpa using KvOk.nil⟩) (fun i h h' ⟨kvs, a, b⟩ hk => ⟨kvs, a.at fun o e => hk d o hdold e, b⟩) ?_ ?_)
  · rintro i v h tk₄ hi ⟨ti, rfl⟩ ch ⟨kvs, hdk, hok⟩
    have hi' : i < H.length := by simpa [S_length] using hi
    refine assign_local ch.ns fun h₅ tk₅ ch₅ var₅ => ?_
    have hdk₅ := hdk.at fun o e => ch₅.kb _ o hdL (by simp) e
    have vH₅ := ch₅.lk _ _ (by decide) (ch.lk _ _ (by decide) (C3.lk _ _ (by decide) vH))
    have vD₅ := ch₅.lk _ _ (by decide) (ch.lk _ _ (by decide) var₃)
    have htl : ((sufs H).take i).length = i := by rw [List.length_take, sufs_len]; omega
    have hkl : kvs.length = i := by rw [hok.1, htl]
    refine wpAny_execs_cons (st_dictset (d := d) (kvs := kvs) (x := S (H.drop i)) ch₅.ns (ev_local var₅) (ev_local vD₅) ?_ hdk₅ hdL (by rw [hkl, sizeLine_eq]; omega) fun v h₆ h₇ tk₇ hv₇ kp₆ ch₇ hd₇ => ?_)
    · rw [← slice_from]
      exact ev_slice_str (l := some (i : Int)) (u := none) (ev_s (ev_local vH₅)) (ev_i (ev_local var₅)) trivial (by rw [S_length, sizeLine_eq]; omega)
    · subst hv₇
      refine wpAny_execs_nil ⟨h₇, tk₇, rfl, (ch₅.mono (by simp) (by simp)).trans (Ch.before kp₆ (ch₇.mono (by simp) (by simp))), _, hd₇, ?_⟩
      rw [stored_absent (hok.none (sufs_new hi'))]
      have e1 : (sufs H).take (i + 1) = (sufs H).take i ++ [H.drop i] := by rw [List.take_add_one, sufs_at hi']; rfl
      have := hok.snoc (H.drop i) ti
      rw [htl] at this
      rw [e1]; exact this
  · rintro h tk₄ ch ⟨kvs, hdk, hok⟩
    have e : (((S H).length : Int)).toNat = (sufs H).length := by rw [S_length, sufs_len]; simp
    rw [e, List.take_length] at hok
    have K4 : Kp s.heap h := ch.base K3 fr (by intro b hb; rw [List.mem_singleton.mp hb]; exact sd)
    have vD := ch.lk _ _ (by decide) var₃
    have hkl : kvs.length < 64 := by rw [hok.1, sufs_len]; exact hH
    refine wpAny_execs_cons (st_return (P := fun v h => ∃ x d kvs, v = .ref x ∧ Made prog w s.heap h x C d kvs (sufs H)) (ev_make1 (P := isV (.ref d)) (X.keeps (kb.trans K4)) TK.keep (ev_global (hgT.kp (kb.trans K4))) (ev_local vD) ?_) fun v h₅ tk₅ hv kp₅ => ⟨hv, h₅, tk₅, rfl, K4.trans kp₅⟩)
    rintro v h' rfl s₁ rfl k₁
    have K5 := K4.trans (Keeps.kp k₁)
    refine wpAny_mono (trie_make hh (by show A.depth + 1 + 10 < recursionLimit; omega) TK (kb.trans K5) X hlim gs gl hfnI (hdk.keep (Keeps.kp k₁)) hsm hkl) (fun v s₂ q => ?_) fun _ _ x => x
    obtain ⟨⟨x, dx, l, tp, t1, t2, t3, t4, tc, ta, tb, ss, e, TA, hso, fx, fdx, fl, ftp⟩, kk⟩ := q
    exact ⟨⟨x, d, kvs, e, ⟨dx, l, tp, t1, t2, t3, t4, tc, ta, tb, ss, TA, hso, none_of_kp K5 fx, none_of_kp K5 fdx, none_of_kp K5 fl, none_of_kp K5 ftp⟩, (hdk.keep (Keeps.kp k₁)).keep (Keeps.kp kk), sd, hsm, hok⟩, kk⟩
end
end Mine
end
-- text C7
section
open PySem PySem.W PyProof.Rows
set_option Elab.async false
set_option linter.unusedVariables false
set_option maxRecDepth 100000
namespace Mine
abbrev lenv (L fa : Addr) (cd : Value) : Env := envOfC "law" (scopOf lawF) L fa cd
def st3 (i : Nat) : Stmt := (bodyOf lawF).getD i noStmt
/-- the text of one sign each -/
def ones (T : List Nat) : List PySem.Str := T.map fun c => S [c]
/-- the signs of T, each once or more -/
structure Signs (T : List Nat) (sg : List (List Nat)) : Prop where
  all : ∀ c ∈ T, [c] ∈ sg
  one : ∀ x ∈ sg, ∃ c, x = [c]
  len : sg.length ≤ T.length

theorem strs_ones : ∀ {T : List Nat} {us : List Value}, us.length = T.length → (∀ (j : Nat) (u : Value), us[j]? = some u → ∃ c t, T[j]? = some c ∧ u = .str (S [c]) t) → StrsAre us (ones T)
  | [], [], _, _ => .nil
  | [], _ :: _, h, _ => by simp at h
  | _ :: _, [], h, _ => by simp at h
  | c :: T, u :: us, h, hu => by
    obtain ⟨c', t, e, rfl⟩ := hu 0 u rfl
    simp at e; subst e
    exact .cons _ _ (strs_ones (by simpa using h) fun j u hj => by simpa using hu (j + 1) u (by simpa using hj))

theorem join_S (zs : List (List Nat)) : Txt.join "" (zs.map S) = S zs.flatten := by
  show Builtin.Str.glued _ _ = _
  rw [StrLaws.glued_eq_join]
  have e0 : (Str.ofString "") = S [] := by rfl
  rw [e0]
  induction zs with
  | nil => rfl
  | cons z r ih =>
    cases r with
    | nil => simp [Str.join]
    | cons y r =>
      show S z ++ S [] ++ Str.join (S []) ((y :: r).map S) = _
      rw [ih, S_append, S_append]; simp

section
variable {prog : Program} {w : World} {A : Around} {env : Env} {s s₀ : Shared}
/-- a list of known items, new -/
theorem src_new {iter : Expr} {items : Array Value} (hh : A.handled = none) (he : ∀ s, Keeps s₀ s → Ev prog w A env s iter (fun v h => ∃ b, v = .ref b ∧ h.PlainList b items ∧ s.heap.get? b = none)) :
    Src prog w A env s₀ iter [] items.size (fun i v => items[i]? = some v) := fun s hs => by
  refine wpAny_mono (he s hs s (keeps_refl s)) (fun v s₁ h₁ => ?_) fun _ _ x => x
  obtain ⟨⟨l, rfl, hp, hx⟩, k⟩ := h₁
  have hl₁ := hp.isList
  have hlt : l < s₁.heap.objs.size := let ⟨_, e, _⟩ := hl₁; Heap.lt_size e
  refine wpAny_pyIter_list hl₁ ?_
  have W0 := Walks.list (prog := prog) (w := w) hh s₁.heap.objs.size l (Nat.ne_of_lt hlt) items
  refine ⟨_, _, _, _, rfl, W0, ⟨⟨_, Heap.get?_push_size _ rfl, rfl, rfl⟩, hl₁.push _⟩, ?_, ?_, ?_, keeps_trans k (keeps_push s₁ _ _)⟩
  · intro b hb
    rcases List.mem_cons.mp hb with rfl | hb
    · exact .inr (none_of_keeps k (get_size_none _))
    · rw [List.mem_singleton.mp hb]; exact .inr hx
  · intro b hb
    rw [List.mem_singleton.mp hb]
    exact none_of_keeps k (get_size_none _)
  · intro b hb
    show b < (s₁.heap.push _).objs.size
    rw [Heap.size_push]
    rcases List.mem_cons.mp hb with rfl | hb
    · exact Nat.lt_succ_self _
    · rw [List.mem_singleton.mp hb]; exact Nat.lt_succ_of_lt hlt
/-- sep.join(e), the texts known when they are made -/
theorem ev_join_some {pl : Sem Bool} {p apos pos : Pos} {k : Nat} {e : Expr} {sep : PySem.Str} {X : List PySem.Str → Prop} {P : Value → Heap → Prop} (he : Ev prog w A env s₀ e P)
    (hP : ∀ v h, P v h → Kp s₀.heap h → ∃ D items ys, v = .ref D ∧ h.IsList D items ∧ StrsAre items.toList ys ∧ X ys ∧ (ys.map (·.length)).sum + ys.length * sep.length ≤ 16777216)
    (hs : backTo pos (starEach [e] env) = [(false, eval e env)] := by rfl)
    (hev : eval (.Call (.Attribute (.Constant (.str sep) k p) "join" apos) [e] [] pos) env = (do
      let ov ← eval (.Constant (.str sep) k p) env
      standAt apos.atName
      let (f, first) ← holding [ov] (getMethod ov "join" pl)
      callWith pos f first (backTo pos (starEach [e] env)) []) := by rfl) :
    Ev prog w A env s₀ (.Call (.Attribute (.Constant (.str sep) k p) "join" apos) [e] [] pos) (fun v h => ∃ ys, X ys ∧ isS (Txt.join sep ys) v h) := fun s hk => by
  refine MethodCall_ (pl := pl) (wpAny_Constant_str ?_) hev
  refine GM.join ?_
  rw [hs]
  refine Calls.callWith_builtin rfl (Calls.evalArgs_plain (Calls.spliced_cons (wpAny_mono (he _ (keeps_trans hk (keeps_toks s _))) (fun v₁ s₂ h₂ => Calls.spliced_nil ?_) fun _ _ e => e)))
  obtain ⟨D, items, ys, rfl, hl, hS, hX, hz⟩ := hP _ _ h₂.1 (Keeps.kp (keeps_trans (keeps_trans hk (keeps_toks s _)) h₂.2))
  exact join_list hl hS hz fun t' k => ⟨⟨ys, hX, t', rfl⟩, keeps_trans (keeps_trans (keeps_toks s _) h₂.2) (keeps_toks s₂ k)⟩
end

section
variable {prog : Program} {w : World} {A : Around} {s : Shared} {L fa : Addr} {cd : Value} {E : Value → Shared → Prop} {Q : Flow → Shared → Prop}

/-- text = ''.join([_law_sign(n) for n in script[:14]]) -/
theorem law_s0 {aS fW : Addr} {cdv : Value} {vs : List Value} {ns : List Int} (hh : A.handled = none) (hroom : A.depth < recursionLimit) (hlim : s.heap.NoLimit) (hn : HasNs s.heap L) (hS : Var s.heap L "script" (.ref aS)) (hl : s.heap.IsList aS vs.toArray) (hi : IntsAre vs ns) (hz : vs.length ≤ sizeLine)
    (gc : BiG s.heap "chr" (.builtin "chr")) (hg : Var s.heap mainGlobals "_law_sign" (.ref fW)) (hfn : FnAt s.heap fW "_law_sign" (parsOf signF) (bodyOf signF) (scopOf signF) .none cdv)
    (k : ∀ h' tk (T : List Nat) t, Ch L ["text"] [] s.heap h' → T.length ≤ 14 → Var h' L "text" (.str (S T) t) → Q .next { s with heap := h', toks := tk }) :
    wpAny (model prog w) A (exec (st3 0) (lenv L fa cd)) Q E s := by
  have hit : ∀ {i : Nat} {v : Value}, (slicePick vs.toArray none (some ((14 : Nat) : Int)) none)[i]? = some v → ∃ n t, v = .int n t := fun {i v} e => by
    rw [slicePick_to] at e
    obtain ⟨n, t, _, h⟩ := ints_of (ints_take hi 14) (by simpa using e)
    exact ⟨n, t, h⟩
  have hsz : (slicePick vs.toArray none (some ((14 : Nat) : Int)) none).size ≤ 14 := by rw [slicePick_to]; simp; omega
  refine st_assign hn (ev_join_some (X := fun ys => ∃ T : List Nat, T.length ≤ 14 ∧ ys = (T.map fun c => [c]).map S) (ev_comp (n := (slicePick vs.toArray none (some ((14 : Nat) : Int)) none).size) (P := fun i v => (slicePick vs.toArray none (some ((14 : Nat) : Int)) none)[i]? = some v) (src := []) (fun _ => true) (fun v y => ∃ c : Nat, ∃ t, y = .str (S [c]) t) (by rfl) (by decide) rfl (by decide) (by rfl)
    (src_new hh fun s' k' => ev_slice_list (l := none) (u := some ((14 : Nat) : Int)) (ev_local (hS.kp (Keeps.kp k'))) (hl.at fun o e => Keeps.kp k' _ _ e) trivial ev_int (by simpa using hz)) (by rw [sizeLine_eq]; omega) (fun C i v s₃ hP hV hK => tests_nil s₃) (fun C i v s₃ hP _ hV hK => ?_)) ?_) fun v h₁ h₂ tk hv kp ch var => ?_
  · obtain ⟨n, t, rfl⟩ := hit hP
    refine ev_callfn1 (P := isI n) (ev_global (hg.kp hK)) (hfn.kp hK) (ev_i (ev_local hV)) ?_
    rintro v h ⟨t', rfl⟩ s₄ rfl hk₄
    have kk := hK.trans (Keeps.kp hk₄)
    refine wpAny_mono (sign_call hroom (hlim.keeps kk) (gc.kp kk) (hfn.kp kk)) (fun v s₅ h₅ => ⟨let ⟨c, t, e⟩ := h₅.1; ⟨c, t, e⟩, h₅.2⟩) fun _ _ x => x
  · rintro v h ⟨D, ys, us, rfl, hpl, hD, hlen, hP, hF⟩ _
    have key : ∀ {l₁ l₂ : List Value}, Paired (fun v y => ∃ c : Nat, ∃ t, y = Value.str (S [c]) t) l₁ l₂ → ∃ T : List Nat, StrsAre l₂ ((T.map fun c => [c]).map S) ∧ T.length = l₁.length := by
      intro l₁ l₂ h
      induction h with
      | nil => exact ⟨[], .nil, rfl⟩
      | cons hab _ ih =>
        obtain ⟨c, t, rfl⟩ := hab
        obtain ⟨T, h1, h2⟩ := ih
        exact ⟨c :: T, .cons _ _ h1, by simp [h2]⟩
    obtain ⟨T, h1, h2⟩ := key hF
    rw [List.filter_eq_self.mpr (by simp), hlen] at h2
    refine ⟨D, ys, _, rfl, hpl.isList, h1, ⟨T, by omega, rfl⟩, ?_⟩
    have e : (((T.map fun c => [c]).map S).map (·.length)).sum = T.length := by
      clear h1 h2 hF
      induction T with
      | nil => rfl
      | cons c T ih => rw [List.map_cons, List.map_cons, List.map_cons, List.sum_cons, ih]; show 1 + T.length = T.length + 1; omega
    rw [e]
    have : (Str.ofString "").length = 0 := rfl
    rw [this]; omega
  · obtain ⟨ys, ⟨T, hT, rfl⟩, t, rfl⟩ := hv
    rw [join_S] at var
    have e : (T.map fun c => [c]).flatten = T := by
      clear hT var
      induction T with
      | nil => rfl
      | cons c T ih => rw [List.map_cons, List.flatten_cons, ih]; rfl
    rw [e] at var
    exact k h₂ tk T t (Ch.before kp ch) hT var

/-- signs = [] -/
theorem law_s1 (hn : HasNs s.heap L)
    (k : ∀ a h' tk, Ch L ["signs"] [] s.heap h' → Var h' L "signs" (.ref a) → StrList h' a [] → s.heap.get? a = none → Q .next { s with heap := h', toks := tk }) :
    wpAny (model prog w) A (exec (st3 1) (lenv L fa cd)) Q E s := by
  refine st_assign hn ev_list0 fun v h₁ h₂ tk hv kp ch var => ?_
  obtain ⟨a, rfl, hp, fa⟩ := hv
  exact k a h₂ tk (Ch.before kp ch) var ⟨[], hp.at fun o e => ch.kb _ o (ne_of_fresh hn fa) (by simp) e, .nil⟩ fa

/-- for sign in sorted([c for c in text]): if sign not in signs: signs.append(sign) -/
theorem law_s2 {base : Heap} {aG : Addr} {T : List Nat} {tT : Tok} (hh : A.handled = none) (kb : Kp base s.heap) (lf : base.get? L = none) (rf : base.get? aG = none) (gs : BiG base "sorted" (.builtin "sorted"))
    (hn : HasNs s.heap L) (hT : Var s.heap L "text" (.str (S T) tT)) (hTl : T.length ≤ 14) (hG : Var s.heap L "signs" (.ref aG)) (hr : StrList s.heap aG [])
    (k : ∀ h' tk sg, Ch L ["sign"] [aG] s.heap h' → StrList h' aG (sg.map S) → Signs T sg → Q .next { s with heap := h', toks := tk }) :
    wpAny (model prog w) A (exec (st3 2) (lenv L fa cd)) Q E s := by
  have hGL : aG ≠ L := hr.ne_ns hn
  have hGold : ∃ o, s.heap.get? aG = some o := let ⟨_, ⟨_, e⟩, _⟩ := hr; ⟨_, e⟩
  have g := gs.kp kb
  refine for_rule_some (α := List PySem.Str) (G := fun ys => SortedOf ys (ones T)) (n := fun ys => ys.length) (P := fun ys i v => ∃ y t, ys[i]? = some y ∧ v = .str y t) (src := []) (xs := ["sign"]) (W := [aG])
    (fun ys i h => ∃ sg : List (List Nat), StrList h aG (sg.map S) ∧ (∀ x ∈ sg, ∃ c, x = [c]) ∧ sg.length ≤ i ∧ ∀ (j : Nat) (y : PySem.Str), j < i → ys[j]? = some y → y ∈ sg.map S)
    hn (src_strs (X := fun ys => SortedOf ys (ones T)) hh (ev_sorted_list (ss := ones T) (ev_builtin ⟨g.g, g.b⟩) (ev_comp (n := (S T).cps.size) (P := fun i v => ∃ c t, (S T).cps[i]? = some c ∧ v = .str ⟨#[c]⟩ t) (src := []) (fun _ => true) (fun v y => y = v) (by rfl) (by decide) rfl (by decide) (by rfl)
      (src_str hh (ev_s (ev_local hT))) (by rw [sizeLine_eq]; simp; omega) (fun C i v s₃ hP hV hK => tests_nil s₃) (fun C i v s₃ hP _ hV hK => ev_local hV)) ?_ (by simp [ones]; omega)) s (keeps_refl s))
    (by simp) (by intro b hb; rw [List.mem_singleton.mp hb]; exact hGold) (fun ys h _ kp => ⟨[], hr.kp kp, by simp, Nat.zero_le _, fun j y h => by omega⟩)
    (fun ys i h h' hi hk => by obtain ⟨sg, a, b⟩ := hi; exact ⟨sg, a.at fun o e => hk aG o hGold e, b⟩) ?_ ?_
  · rintro v h ⟨D, ys, us, rfl, hpl, hD, hlen, hP, hF⟩
    have e := paired_eq hF
    rw [List.filter_eq_self.mpr (by simp)] at e
    refine ⟨D, rfl, ys.toList, by simpa using hpl, ?_⟩
    rw [e]
    refine strs_ones (by rw [hlen]; simp) fun j u hj => ?_
    obtain ⟨c, t, h1, h2⟩ := hP j u hj
    exact ⟨c, t, by simpa using h1, h2⟩
  · rintro ys i v h tk hso hi ⟨y, t, hy, rfl⟩ ch ⟨sg, hsg, hone, hlen, hin⟩
    have hym : y ∈ ones T := hso.1.mem_iff.mp (List.mem_of_getElem? hy)
    obtain ⟨c, hc, rfl⟩ := List.mem_map.mp hym
    have hysl : ys.length = T.length := by have := hso.1.length_eq; simpa [ones] using this
    refine assign_local ch.ns fun h₁ tk₁ ch₁ var₁ => ?_
    have hsg₁ := hsg.at fun o e => ch₁.kb _ o hGL (by simp) e
    have vG₁ := ch₁.lk _ _ (by decide) (ch.lk _ _ (by decide) hG)
    obtain ⟨us, hp, hS⟩ := id hsg₁
    have hul := strs_len hS
    have hstep : ∀ sg' : List (List Nat), (∀ x ∈ sg, x ∈ sg') → [c] ∈ sg' → ∀ (j : Nat) (y : PySem.Str), j < i + 1 → ys[j]? = some y → y ∈ sg'.map S := fun sg' hsub hc' j y hj e => by
      by_cases q : j < i
      · obtain ⟨x, hx, rfl⟩ := List.mem_map.mp (hin j y q e)
        exact List.mem_map.mpr ⟨x, hsub x hx, rfl⟩
      · have : j = i := by omega
        subst this
        rw [hy] at e; cases e
        exact List.mem_map.mpr ⟨[c], hc', rfl⟩
    have hany : ((sg.map S).any (· == S [c])) = decide ([c] ∈ sg) := by
      clear hstep hul hS hsg₁ hsg hone hlen hin hp
      induction sg with
      | nil => simp
      | cons a t ih =>
        rw [List.map_cons, List.any_cons, ih, S_beq]
        by_cases h : a = [c]
        · subst h; simp
        · have : [c] ≠ a := fun q => h q.symm
          simp [h, this]
    refine wpAny_execs_cons (st_if (c := !(decide ([c] ∈ sg))) ?_ (fun hcond h₂ tk₂ kp₂ => ?_) (fun hcond h₂ tk₂ kp₂ => ?_))
    · rw [← hany]
      exact ts_cmp (ev_s (ev_local var₁)) (ev_local vG₁) (ci_notin_list (s₀ := { s with heap := h₁, toks := tk₁ }) hp.isList hS)
    · refine wpAny_execs_cons (st_append (D := aG) (P := isS (S [c])) (HasNs.kp ch₁.ns kp₂) (ev_local (vG₁.kp kp₂)) (hp.at fun o e => kp₂ _ o e) hGL (ev_s (ev_local (var₁.kp kp₂))) ?_ fun v h₃ h₄ tk₄ hv₄ kp₃ ch₄ hp₄ => ?_)
      · rw [sizeLine_eq]
        simp at hul ⊢; omega
      obtain ⟨t₄, rfl⟩ := hv₄
      refine wpAny_execs_nil (wpAny_execs_nil ⟨h₄, tk₄, rfl, (ch₁.mono (by simp) (by simp)).trans (Ch.before (kp₂.trans kp₃) (ch₄.mono (by simp) (by simp))), sg ++ [[c]], ⟨us ++ [.str (S [c]) t₄], by simpa using hp₄, ?_⟩, ?_, by simp; omega, hstep _ (fun x hx => by simp [hx]) (by simp)⟩)
      · rw [List.map_append]
        exact strs_snoc hS _ _
      · intro x hx
        rcases List.mem_append.mp hx with hx | hx
        · exact hone x hx
        · rw [List.mem_singleton.mp hx]; exact ⟨c, rfl⟩
    · have hm : [c] ∈ sg := by simpa using hcond
      exact wpAny_execs_nil (wpAny_execs_nil ⟨h₂, tk₂, rfl, (ch₁.mono (by simp) (by simp)).after kp₂, sg, hsg₁.kp kp₂, hone, by omega, hstep sg (fun x hx => hx) hm⟩)
  · rintro ys h tk hso ch ⟨sg, hsg, hone, hlen, hin⟩
    have hysl : ys.length = T.length := by have := hso.1.length_eq; simpa [ones] using this
    refine k h tk sg ch hsg ⟨fun c hc => ?_, hone, by omega⟩
    have hm : S [c] ∈ ys := hso.1.mem_iff.mpr (List.mem_map.mpr ⟨c, hc, rfl⟩)
    obtain ⟨j, hj, e⟩ := List.mem_iff_getElem.mp hm
    have := hin j (S [c]) hj (by rw [List.getElem?_eq_getElem hj, e])
    obtain ⟨x, hx, q⟩ := List.mem_map.mp this
    rw [← S_inj q]; exact hx


/-- row = [] -/
theorem law_s3 (hn : HasNs s.heap L)
    (k : ∀ a h' tk, Ch L ["row"] [] s.heap h' → Var h' L "row" (.ref a) → h'.PlainList a #[] → s.heap.get? a = none → Q .next { s with heap := h', toks := tk }) :
    wpAny (model prog w) A (exec (st3 3) (lenv L fa cd)) Q E s := by
  refine st_assign hn ev_list0 fun v h₁ h₂ tk hv kp ch var => ?_
  obtain ⟨a, rfl, hp, fa⟩ := hv
  exact k a h₂ tk (Ch.before kp ch) var (hp.at fun o e => ch.kb _ o (ne_of_fresh hn fa) (by simp) e) fa
/-- place = 0 -/
theorem law_s4 (hn : HasNs s.heap L)
    (k : ∀ h' tk t, Ch L ["place"] [] s.heap h' → Var h' L "place" (.int ((0 : Nat) : Int) t) → Q .next { s with heap := h', toks := tk }) :
    wpAny (model prog w) A (exec (st3 4) (lenv L fa cd)) Q E s := by
  refine st_assign hn ev_int fun v h₁ h₂ tk hv kp ch var => ?_
  obtain ⟨t, rfl⟩ := hv
  exact k h₂ tk t (Ch.before kp ch) var
end
end Mine
end
-- text C8
section
open PySem PySem.W PyProof.Rows
set_option Elab.async false
set_option linter.unusedVariables false
set_option maxRecDepth 100000
namespace Mine

/- the plain part -/
theorem begins_sufs {y H : List Nat} (hy : y ≠ []) : begins y (sufs H) = decide (y <:+: H) := by
  rw [Bool.eq_iff_iff, begins_iff, decide_eq_true_iff]
  constructor
  · rintro ⟨r, hr, hp⟩
    obtain ⟨i, hi, rfl⟩ := mem_sufs.mp hr
    exact hp.isInfix.trans (List.drop_suffix i H).isInfix
  · rintro ⟨a, b, e⟩
    have hpos : 0 < y.length := List.length_pos_iff.mpr hy
    refine ⟨H.drop a.length, mem_sufs.mpr ⟨a.length, ?_, rfl⟩, ?_⟩
    · rw [← e]; simp; omega
    · rw [← e, List.append_assoc, List.drop_left]
      exact List.prefix_append _ _

theorem onward_some {W H : List Nat} (h : W <:+: H) (hn : W ≠ []) (hs : W ∉ sufs H) : ∃ c ∈ H, W ++ [c] <:+: H := by
  obtain ⟨a, b, e⟩ := h
  have hpos : 0 < W.length := List.length_pos_iff.mpr hn
  cases b with
  | nil =>
    refine absurd (mem_sufs.mpr ⟨a.length, ?_, ?_⟩) hs
    · rw [← e]; simp; omega
    · rw [← e, List.append_nil, List.drop_left]
  | cons c b =>
    refine ⟨c, by rw [← e]; simp, a, b, ?_⟩
    rw [← e]; simp

/-- b is the greatest length of a beginning of the rest that lies in the text before p -/
structure IsMax (T : List Nat) (p b : Nat) : Prop where
  le : b ≤ T.length - p
  inn : (T.drop p).take b <:+: T.take p
  max : ∀ k, k ≤ T.length - p → (T.drop p).take k <:+: T.take p → k ≤ b

theorem isMax_of {T : List Nat} {p m : Nat} (hp : p ≤ T.length) (h1 : p + m ≤ T.length) (h2 : (T.drop p).take m <:+: T.take p) (h3 : p + m < T.length → ¬ (T.drop p).take (m + 1) <:+: T.take p) : IsMax T p m := by
  refine ⟨by omega, h2, fun k hk hin => ?_⟩
  rcases Nat.lt_or_ge m k with q | q
  · refine absurd ?_ (h3 (by omega))
    refine List.IsInfix.trans ?_ hin
    have : (T.drop p).take (m + 1) <+: (T.drop p).take k := by
      have e : (T.drop p).take (m + 1) = ((T.drop p).take k).take (m + 1) := by rw [List.take_take]; congr 1; omega
      rw [e]; exact List.take_prefix _ _
    exact this.isInfix
  · exact q

abbrev Row := Nat × Nat × List Nat
structure StepOk (T : List Nat) (p : Nat) (r : Row) (p' : Nat) : Prop where
  max : IsMax T p r.2.1
  lt : p < p'
  le : p' ≤ T.length
  eq : T.take p ++ ((T.take p).drop r.1).take r.2.1 ++ r.2.2 = T.take p'
def RowsOk (T : List Nat) (R : List Row) (p : Nat) : Prop := ∃ pl : Nat → Nat, pl 0 = 0 ∧ pl R.length = p ∧ ∀ i r, R[i]? = some r → StepOk T (pl i) r (pl (i + 1))
theorem RowsOk.nil (T : List Nat) : RowsOk T [] 0 := ⟨fun _ => 0, rfl, rfl, by simp⟩
theorem RowsOk.snoc {T : List Nat} {R : List Row} {p p' : Nat} {r : Row} (h : RowsOk T R p) (s : StepOk T p r p') : RowsOk T (R ++ [r]) p' := by
  obtain ⟨pl, h0, hp, hs⟩ := h
  refine ⟨fun i => if i ≤ R.length then pl i else p', by simp [h0], by simp only [List.length_append, List.length_singleton]; rw [if_neg (by omega)], fun i x hi => ?_⟩
  by_cases hlt : i < R.length
  · rw [List.getElem?_append_left hlt] at hi
    have := hs i x hi
    simp only [show i ≤ R.length from by omega, show i + 1 ≤ R.length from hlt, if_true]
    exact this
  · have hil : i = R.length := by
      have := (List.getElem?_eq_some_iff.mp hi).1
      simp at this; omega
    subst hil
    simp at hi; subst hi
    simp only [Nat.le_refl, if_true, show ¬ R.length + 1 ≤ R.length from by omega, if_false]
    rw [hp]; exact s
theorem RowsOk.len {T : List Nat} {R : List Row} {p : Nat} (h : RowsOk T R p) : R.length ≤ p := by
  obtain ⟨pl, h0, hp, hs⟩ := h
  have : ∀ i, i ≤ R.length → i ≤ pl i := by
    intro i
    induction i with
    | zero => intro _; exact Nat.zero_le _
    | succ i ih =>
      intro hi
      have h1 := ih (by omega)
      have := (hs i R[i] (List.getElem?_eq_getElem (by omega))).lt
      omega
  have := this R.length (Nat.le_refl _)
  omega
theorem step_sign {T : List Nat} {p c : Nat} (hc : T[p]? = some c) (h : IsMax T p 0) : StepOk T p (0, 0, [c]) (p + 1) := by
  have hlt := (List.getElem?_eq_some_iff.mp hc).1
  refine ⟨h, by omega, by omega, ?_⟩
  rw [List.take_zero, List.append_nil, List.take_add_one, hc]; rfl
theorem step_copy {T : List Nat} {p m j : Nat} (hp : p ≤ T.length) (h : IsMax T p m) (hm : 0 < m) (hj : (T.drop p).take m <+: (T.take p).drop j) : StepOk T p (j, m, []) (p + m) := by
  have hle := h.le
  refine ⟨h, by omega, by omega, ?_⟩
  have hl : ((T.drop p).take m).length = m := by rw [List.length_take, List.length_drop]; omega
  have e := List.prefix_iff_eq_take.mp hj
  rw [hl] at e
  show T.take p ++ ((T.take p).drop j).take m ++ [] = _
  rw [← e, List.append_nil, List.take_add]

/-- what stands before the law is called -/
structure Kit3 (K : Frag) (C fI fC fG fH fB fS fM : Addr) (base : Heap) : Prop where
  TK : TrieK K C fI fC fG
  X : K.In base
  lim : base.NoLimit
  len : BiG base "len" (.builtin "len")
  range : BiG base "range" (.type "range")
  max : BiG base "max" (.builtin "max")
  sorted : BiG base "sorted" (.builtin "sorted")
  chr : BiG base "chr" (.builtin "chr")
  gT : Var base mainGlobals "Trie" (.ref C)
  gB : Var base mainGlobals "bisect_left" (.ref fB)
  gS : Var base mainGlobals "_law_sign" (.ref fS)
  gM : Var base mainGlobals "_law_trie" (.ref fM)
  mg : ∃ o, base.get? mainGlobals = some o
  gH : plainGet K C "has_keys_with_prefix" = true
  mH : findIn K (.ref C) "has_keys_with_prefix" = some (some (.ref fH))
  iH : isFn K (.ref fH) = true
  nI : ∃ cd, FnAt base fI "Trie.__init__" (parsOf (meth3 0)) (bodyOf (meth3 0)) (scopOf (meth3 0)) .none cd
  nC : ∃ cd, FnAt base fC "Trie.__contains__" (parsOf (meth3 1)) (bodyOf (meth3 1)) (scopOf (meth3 1)) .none cd
  nG : ∃ cd, FnAt base fG "Trie.__getitem__" (parsOf (meth3 3)) (bodyOf (meth3 3)) (scopOf (meth3 3)) .none cd
  nH : ∃ cd, FnAt base fH "Trie.has_keys_with_prefix" (parsOf (meth3 4)) (bodyOf (meth3 4)) (scopOf (meth3 4)) .none cd
  nS : ∃ cd, FnAt base fS "_law_sign" (parsOf signF) (bodyOf signF) (scopOf signF) .none cd
  nM : ∃ cd, FnAt base fM "_law_trie" (parsOf mkF) (bodyOf mkF) (scopOf mkF) .none cd
  nB : ∃ TD cd oD da db nD, FnAt base fB "bisect_left" (parsOf bisF) (bodyOf bisF) (scopOf bisF) (.ref TD) cd ∧ base.get? TD = some oD ∧ oD.data = .seq #[da, db] nD

section
variable {prog : Program} {w : World} {A : Around} {env : Env} {s s₀ : Shared} {K : Frag} {C fI fC fG fH fB fS fM : Addr} {base : Heap} {x d : Addr} {kvs : List (PySem.Str × Value)} {rs : List (List Nat)}

/-- o.has_keys_with_prefix(e) -/
theorem ev_has {pl : Sem Bool} {oe e : Expr} {apos pos : Pos} {y : List Nat} (hh : A.handled = none) (hroom : A.depth + 2 < recursionLimit) (B : Kit3 K C fI fC fG fH fB fS fM base) (TO : TrieOk prog w K base s₀.heap x C d kvs rs) (hrl : rs.length ≤ 1000)
    (ho : Ev prog w A env s₀ oe (isV (.ref x))) (he : Ev prog w A env s₀ e (isS (S y)))
    (hs : backTo pos (starEach [e] env) = [(false, eval e env)] := by rfl)
    (hev : eval (.Call (.Attribute oe "has_keys_with_prefix" apos) [e] [] pos) env = (do
      let ov ← eval oe env
      standAt apos.atName
      let (f, first) ← holding [ov] (getMethod ov "has_keys_with_prefix" pl)
      callWith pos f first (backTo pos (starEach [e] env)) []) := by rfl) :
    Ev prog w A env s₀ (.Call (.Attribute oe "has_keys_with_prefix" apos) [e] [] pos) (isB (begins y rs)) := by
  obtain ⟨dx, l, tp, t1, t2, t3, t4, tc, ta, tb, ss, T, _⟩ := TO.tr
  obtain ⟨cd, nH⟩ := B.nH
  obtain ⟨TD, cdB, oD, da, db, nD, nB, hD, hDs⟩ := B.nB
  refine ev_meth1 (pl := pl) (ox := instObj C dx) (od := dictOf (trieEs w.params d l tp t1 t2 t3 t4 tc) 4) (P := isS (S y)) ho (TO.X.keeps TO.kb) (fun h k => ⟨k _ _ T.inst, rfl, rfl, k _ _ T.dict⟩) B.gH B.mH B.iH (by rfl) (nH.kp TO.kb) he ?_ hs hev
  rintro v h ⟨t, rfl⟩ s rfl k
  exact has_keys_call hh (by omega) B.TK B.len B.gB nB hD hDs nH (TO.kp (Keeps.kp k)) hrl

/-- e not in o -/
theorem ci_notin_trie {L : Addr} {y : List Nat} (hn : HasNs s₀.heap L) (hb : base.objs.size ≤ L) (hroom : A.depth + 2 < recursionLimit) (B : Kit3 K C fI fC fG fH fB fS fM base) (TO : TrieOk prog w K base s₀.heap x C d kvs rs) :
    CmpIs prog w A .NotIn (isS (S y)) (isV (.ref x)) (!(decide (y ∈ rs))) s₀ := by
  obtain ⟨dx, l, tp, t1, t2, t3, t4, tc, ta, tb, ss, T, _⟩ := TO.tr
  obtain ⟨cd, nC⟩ := B.nC
  refine ci_notin_inst (ox := instObj C dx) hn TO.kb hb TO.X (fun h k => ⟨k _ _ T.inst, rfl, rfl, k _ _ T.dict⟩) B.TK.cont B.TK.contFn ?_
  rintro v h ⟨t, rfl⟩ s kp kk
  exact contains_call (by omega) B.TK nC (TO.kp (Keeps.kp kk))

/-- o[e] -/
theorem ev_get {L : Addr} {oe e : Expr} {pos : Pos} {y : List Nat} (hn : HasNs s₀.heap L) (hb : base.objs.size ≤ L) (hroom : A.depth + 2 < recursionLimit) (B : Kit3 K C fI fC fG fH fB fS fM base) (TO : TrieOk prog w K base s₀.heap x C d kvs rs) (hy : y ∈ rs)
    (ho : Ev prog w A env s₀ oe (isV (.ref x))) (he : Ev prog w A env s₀ e (isS (S y)))
    (hsl : ∀ i, subscripted e true (.ref x) i = runValue (.builtin "lifetime.subscript" ⟨[.ref x, i], []⟩) := by intro _; rfl) :
    Ev prog w A env s₀ (.Subscript oe e pos) (fun v _ => ∃ j : Nat, rs[j]? = some y ∧ ∃ t, v = .int (j : Int) t) := by
  obtain ⟨dx, l, tp, t1, t2, t3, t4, tc, ta, tb, ss, T, _⟩ := TO.tr
  obtain ⟨cd, nG⟩ := B.nG
  refine ev_item_inst (P := isS (S y)) (ox := instObj C dx) (od := dictOf (trieEs w.params d l tp t1 t2 t3 t4 tc) 4) ho he hn TO.kb hb TO.X (fun h k => ⟨k _ _ T.inst, rfl, rfl, k _ _ T.dict⟩) B.TK.getm B.TK.getIn B.TK.getFn ?_ hsl
  rintro v h ⟨t, rfl⟩ s rfl k
  exact getitem_call (by show A.depth < recursionLimit; omega) B.TK nG (TO.kp (Keeps.kp k)) hy
end

/- rows -/
def RowAt (h : Heap) (a : Addr) (R : List Row) : Prop := ∃ vs : List Value, h.PlainList a vs.toArray ∧ vs.length = R.length ∧ ∀ (i : Nat) (r : Row), R[i]? = some r → ∃ T ta tb tc, vs[i]? = some (Value.ref T) ∧ h.IsTuple T #[.int (r.1 : Int) ta, .int (r.2.1 : Int) tb, .str (S r.2.2) tc]
theorem RowAt.mv {h h' : Heap} {a : Addr} {R : List Row} (x : RowAt h a R) (k : ∀ o, h.get? a = some o → h'.get? a = some o) (kt : ∀ T items, h.IsTuple T items → h'.IsTuple T items) : RowAt h' a R := by
  obtain ⟨vs, hp, hl, hr⟩ := x
  refine ⟨vs, hp.at k, hl, fun i r hi => ?_⟩
  obtain ⟨T, ta, tb, tc, h1, h2⟩ := hr i r hi
  exact ⟨T, ta, tb, tc, h1, kt _ _ h2⟩
theorem tup_kp {h h' : Heap} (k : Kp h h') : ∀ T items, h.IsTuple T items → h'.IsTuple T items := fun T items x => x.at fun o e => k _ _ e
theorem RowAt.kp {h h' : Heap} {a : Addr} {R : List Row} (x : RowAt h a R) (k : Kp h h') : RowAt h' a R := x.mv (fun o e => k _ _ e) (tup_kp k)
def NoTup (h : Heap) (b : Addr) : Prop := ∀ items, ¬ h.IsTuple b items
theorem noTup_cell {h : Heap} {c : Addr} {v : Option Value} (x : h.IsCell c v) : NoTup h c := by
  rintro items ⟨o, ho, hc, n, hd⟩
  obtain ⟨o', ho', hd'⟩ := x
  rw [ho] at ho'; cases ho'; rw [hd] at hd'; cases hd'
theorem noTup_list {h : Heap} {a : Addr} {vs : Array Value} (x : h.PlainList a vs) : NoTup h a := by
  rintro items ⟨o, ho, hc, n, hd⟩
  obtain ⟨k, e⟩ := x
  rw [e] at ho; cases ho
  exact absurd hc (by simp)
theorem noTup_ns {h : Heap} {L : Addr} (x : HasNs h L) : NoTup h L := by
  rintro items ⟨o, ho, hc, n, hd⟩
  obtain ⟨o', es, ep, ho', hd'⟩ := ns_dict x
  rw [ho] at ho'; cases ho'; rw [hd] at hd'; cases hd'
theorem Ch.tup {L : Addr} {xs : List PySem.Str} {W : List Addr} {h h' : Heap} (ch : Ch L xs W h h') (n : HasNs h L) (nw : ∀ b ∈ W, NoTup h b) : ∀ T items, h.IsTuple T items → h'.IsTuple T items := fun T items x =>
  x.at fun o e => ch.kb _ _ (fun q => noTup_ns n items (q ▸ x)) (fun q => nw _ q items x) e
theorem RowAt.snoc {h h' : Heap} {a T : Addr} {R : List Row} {r : Row} {vs : List Value} {ta tb tc : Tok} (hl : vs.length = R.length) (hr : ∀ (i : Nat) (r : Row), R[i]? = some r → ∃ T ta tb tc, vs[i]? = some (Value.ref T) ∧ h.IsTuple T #[.int (r.1 : Int) ta, .int (r.2.1 : Int) tb, .str (S r.2.2) tc])
    (kt : ∀ T items, h.IsTuple T items → h'.IsTuple T items) (hp : h'.PlainList a (vs.toArray.push (.ref T))) (ht : h'.IsTuple T #[.int (r.1 : Int) ta, .int (r.2.1 : Int) tb, .str (S r.2.2) tc]) : RowAt h' a (R ++ [r]) := by
  refine ⟨vs ++ [.ref T], by simpa using hp, by simp [hl], fun i x hi => ?_⟩
  by_cases hlt : i < R.length
  · rw [List.getElem?_append_left hlt] at hi
    obtain ⟨T', ta', tb', tc', h1, h2⟩ := hr i x hi
    exact ⟨T', ta', tb', tc', by rw [List.getElem?_append_left (by omega)]; exact h1, kt _ _ h2⟩
  · have hil : i = R.length := by
      have := (List.getElem?_eq_some_iff.mp hi).1
      simp at this; omega
    subst hil
    simp at hi; subst hi
    exact ⟨T, ta, tb, tc, by rw [← hl]; simp, ht⟩
end Mine
end
-- text C9
section
open PySem PySem.W PyProof.Rows
set_option Elab.async false
set_option linter.unusedVariables false
set_option maxRecDepth 100000
namespace Mine
def wh : List Stmt := match st3 5 with | .While _ b _ _ => b | _ => []
def wb (i : Nat) : Stmt := wh.getD i noStmt

section
variable {prog : Program} {w : World} {A : Around} {s : Shared} {L fa : Addr} {cd : Value} {Q : Flow → Shared → Prop} {K : Frag} {C fI fC fG fH fB fS fM : Addr} {base : Heap}

/-- head = text[:place] -/
theorem w_head {T : List Nat} {tT tp : Tok} {p : Nat} {v₀ : Option Value} (hn : HasNs s.heap L) (vT : Var s.heap L "text" (.str (S T) tT)) (hTl : T.length ≤ 14) (vP : Var s.heap L "place" (.int (p : Int) tp)) (c1 : s.heap.IsCell (L + 1) v₀)
    (k : ∀ h' tk t, Ch L [] [L + 1] s.heap h' → h'.IsCell (L + 1) (some (.str (S (T.take p)) t)) → Q .next { s with heap := h', toks := tk }) :
    wpAny (model prog w) A (exec (wb 0) (lenv L fa cd)) Q NoE s := by
  refine st_assign_cell (c := L + 1) (P := isS (S (T.take p))) hn ?_ (by rfl) c1 (Nat.succ_ne_self _) fun v h₁ h₂ tk hv kp ch hc => ?_
  · rw [← slice_to]
    exact ev_slice_str (l := none) (u := some (p : Int)) (ev_s (ev_local vT)) trivial (ev_i (ev_local vP)) (by rw [S_length, sizeLine_eq]; omega)
  · obtain ⟨t, rfl⟩ := hv
    exact k h₂ tk t (Ch.before kp ch) hc

/-- trie = _law_trie(head) -/
theorem w_trie {H : List Nat} {tH : Tok} {v₀ : Option Value} (hh : A.handled = none) (hroom : A.depth + 12 < recursionLimit) (B : Kit3 K C fI fC fG fH fB fS fM base) (kb : Kp base s.heap) (hn : HasNs s.heap L) (c1 : s.heap.IsCell (L + 1) (some (.str (S H) tH))) (c2 : s.heap.IsCell (L + 1 + 1) v₀) (hH : H.length < 64)
    (k : ∀ x d kvs h' tk, Ch L [] [L + 1 + 1] s.heap h' → h'.IsCell (L + 1 + 1) (some (.ref x)) → Made prog w s.heap h' x C d kvs (sufs H) → Q .next { s with heap := h', toks := tk }) :
    wpAny (model prog w) A (exec (wb 1) (lenv L fa cd)) Q NoE s := by
  obtain ⟨cdM, nM⟩ := B.nM
  obtain ⟨cdI, nI⟩ := B.nI
  refine st_assign_cell (c := L + 1 + 1) (P := fun v h => ∃ x d kvs, v = .ref x ∧ Made prog w s.heap h x C d kvs (sufs H)) hn (ev_callfn1 (P := isV (.str (S H) tH)) (ev_global (B.gM.kp kb)) (nM.kp kb) (ev_cell (c := L + 1) (by rfl) c1) ?_) (by rfl) c2 (cell_ne_ns c2 hn) fun v h₁ h₂ tk hv kp ch hc => ?_
  · rintro v h rfl s₁ rfl k₁
    refine wpAny_mono (mk_call hh hroom B.TK (kb.trans (Keeps.kp k₁)) B.X B.lim B.mg B.sorted B.len B.range B.gT nI nM hH) (fun v s₂ q => ?_) fun _ _ x => x
    obtain ⟨⟨x, d, kvs, e, ⟨dx, l, tp, t1, t2, t3, t4, tc, ta, tb, ss, TA, hso, fx, fdx, fl, ftp⟩, hd, fd, hsm, hok⟩, kk⟩ := q
    exact ⟨⟨x, d, kvs, e, ⟨dx, l, tp, t1, t2, t3, t4, tc, ta, tb, ss, TA, hso, none_of_keeps k₁ fx, none_of_keeps k₁ fdx, none_of_keeps k₁ fl, none_of_keeps k₁ ftp⟩, hd, none_of_keeps k₁ fd, hsm, hok⟩, kk⟩
  · obtain ⟨x, d, kvs, rfl, ⟨dx, l, tp, t1, t2, t3, t4, tc, ta, tb, ss, TA, hso, fx, fdx, fl, ftp⟩, hd, fd, hsm, hok⟩ := hv
    have mv : ∀ b o, s.heap.get? b = none → h₁.get? b = some o → h₂.get? b = some o := fun b o f e =>
      ch.kb _ o (ne_of_fresh hn f) (by rw [List.mem_singleton]; exact ne_of_fresh_cell c2 f) e
    refine k x d kvs h₂ tk (Ch.before kp ch) hc ⟨⟨dx, l, tp, t1, t2, t3, t4, tc, ta, tb, ss, ⟨mv _ _ fx TA.inst, mv _ _ fdx TA.dict, TA.keys.at fun o e => mv _ o fl e, mv _ _ ftp TA.tup⟩, hso, fx, fdx, fl, ftp⟩, hd.at fun o e => mv _ o fd e, fd, hsm, hok⟩

/-- end = place -/
theorem w_end {tp : Tok} {p : Nat} (hn : HasNs s.heap L) (vP : Var s.heap L "place" (.int (p : Int) tp))
    (k : ∀ h' tk, Ch L ["end"] [] s.heap h' → Var h' L "end" (.int (p : Int) tp) → Q .next { s with heap := h', toks := tk }) :
    wpAny (model prog w) A (exec (wb 2) (lenv L fa cd)) Q NoE s := by
  refine st_assign hn (ev_local vP) fun v h₁ h₂ tk hv kp ch var => ?_
  subst hv
  exact k h₂ tk (Ch.before kp ch) var

/-- the trie that stands, the frame and the cells hidden -/
theorem trieOk_of {h₀ h b2 : Heap} {x d : Addr} {kvs : List (PySem.Str × Value)} {rs : List (List Nat)} (B : Kit3 K C fI fC fG fH fB fS fM base) (m : Made prog w h₀ h x C d kvs rs) (kb : Kp base b2) (mv : ∀ b o, h₀.get? b = none → h.get? b = some o → b2.get? b = some o) : TrieOk prog w K base b2 x C d kvs rs := by
  obtain ⟨⟨dx, l, tp, t1, t2, t3, t4, tc, ta, tb, ss, TA, hso, fx, fdx, fl, ftp⟩, hd, fd, hsm, hok⟩ := m
  exact ⟨kb, B.X, B.lim, ⟨dx, l, tp, t1, t2, t3, t4, tc, ta, tb, ss, ⟨mv _ _ fx TA.inst, mv _ _ fdx TA.dict, TA.keys.at fun o e => mv _ o fl e, mv _ _ ftp TA.tup⟩, hso⟩, hd.at fun o e => mv _ o fd e, hsm, hok⟩

/-- while end < len(text) and trie.has_keys_with_prefix(text[place:end + 1]): end = end + 1 -/
theorem w_far {b2 : Heap} {x d : Addr} {kvs : List (PySem.Str × Value)} {T : List Nat} {tT tp te : Tok} {p : Nat} (hh : A.handled = none) (hroom : A.depth + 12 < recursionLimit) (B : Kit3 K C fI fC fG fH fB fS fM base) (TO : TrieOk prog w K base b2 x C d kvs (sufs (T.take p))) (kb : Kp b2 s.heap) (lf : b2.get? L = none)
    (hn : HasNs s.heap L) (vT : Var s.heap L "text" (.str (S T) tT)) (hTl : T.length ≤ 14) (vP : Var s.heap L "place" (.int (p : Int) tp)) (hp : p < T.length) (vE : Var s.heap L "end" (.int (p : Int) te)) (c2 : s.heap.IsCell (L + 1 + 1) (some (.ref x)))
    (k : ∀ h' tk m t, Ch L ["end"] [] s.heap h' → IsMax T p m → Var h' L "end" (.int ((p + m : Nat) : Int) t) → Q .next { s with heap := h', toks := tk }) :
    wpAny (model prog w) A (exec (wb 3) (lenv L fa cd)) Q NoE s := by
  have c2L : L + 1 + 1 ≠ L := cell_ne_ns c2 hn
  refine while_rule (xs := ["end"]) (W := []) (fun k h => ∃ (m : Nat) (t : Tok), Var h L "end" (.int ((p + m : Nat) : Int) t) ∧ p + m ≤ T.length ∧ (T.drop p).take m <:+: T.take p ∧ k = T.length - (p + m)) (T.length - p) hn ⟨0, te, by simpa using vE, by omega, by simp, by simp⟩ ?_
  rintro n h tk ch ⟨m, t, vm, hm, hin, rfl⟩
  have kbh : Kp b2 h := ch.base kb lf (by simp)
  have g := (B.len.kp TO.kb).kp kbh
  have vTh := ch.lk _ _ (by decide) vT
  have vPh := ch.lk _ _ (by decide) vP
  have c2h := cell_at c2 fun o e => ch.kb _ o c2L (by simp) e
  have TOh := TO.kp kbh
  have hrl : (sufs (T.take p)).length ≤ 1000 := by rw [sufs_len, List.length_take]; omega
  have hlen : (((S T).length : Nat) : Int) = (T.length : Int) := by rw [S_length]
  refine ⟨decide (((p + m : Nat) : Int) < (((S T).length : Nat) : Int)) && begins ((T.drop p).take (m + 1)) (sufs (T.take p)), ts_and2 (ts_cmp (ev_i (ev_local vm)) (ev_len_str (ev_builtin ⟨g.g, g.b⟩) (ev_s (ev_local vTh)) (by rw [S_length]; omega)) ci_lt) (fun hc => ts_of_ev (ev_has (s₀ := { s with heap := h, toks := tk }) hh (by omega) B TOh hrl (ev_cell (c := L + 1 + 1) (by rfl) c2h) ?_)), fun hc h₁ tk₁ kp₁ => ?_, fun hc h₁ tk₁ kp₁ => ?_⟩
  · have e1 : ((p + m : Nat) : Int) + 1 = ((p + m + 1 : Nat) : Int) := by omega
    have e2 : m + 1 = p + m + 1 - p := by omega
    rw [e2, ← slice_between]
    refine ev_slice_str (l := some (p : Int)) (u := some ((p + m + 1 : Nat) : Int)) (ev_s (ev_local vTh)) (ev_i (ev_local vPh)) ?_ (by rw [S_length, sizeLine_eq]; omega)
    rw [← e1]
    exact ev_add (ev_i (ev_local vm)) ev_int
  · rw [Bool.and_eq_true, decide_eq_true_iff] at hc
    obtain ⟨h1, h2⟩ := hc
    rw [hlen] at h1
    have hlt : p + m < T.length := by omega
    have hne : (T.drop p).take (m + 1) ≠ [] := by
      intro q
      have := congrArg List.length q
      rw [List.length_take, List.length_drop] at this
      simp at this; omega
    rw [begins_sufs hne, decide_eq_true_iff] at h2
    refine wpAny_execs_cons (st_assign (ch.ns.elim fun m n => ⟨m, n.keeps kp₁⟩) (ev_add (ev_i (ev_local (vm.kp kp₁))) ev_int) fun v h₂ h₃ tk₃ hv kp₂ ch₃ var₃ => ?_)
    obtain ⟨t₃, rfl⟩ := hv
    refine wpAny_execs_nil ⟨h₃, tk₃, _, rfl, Ch.before kp₂ ch₃, ?_, m + 1, t₃, ?_, by omega, h2, rfl⟩
    · omega
    · have e1 : ((p + m : Nat) : Int) + 1 = ((p + (m + 1) : Nat) : Int) := by omega
      rw [← e1]; exact var₃
  · refine k h₁ tk₁ m t (ch.after kp₁) (isMax_of (by omega) hm hin fun hlt hinf => ?_) (vm.kp kp₁)
    have hne : (T.drop p).take (m + 1) ≠ [] := by
      intro q
      have := congrArg List.length q
      rw [List.length_take, List.length_drop] at this
      simp at this; omega
    rw [begins_sufs hne, decide_eq_true hinf, Bool.and_true, decide_eq_false_iff_not, hlen] at hc
    omega
end
end Mine
end
-- text C10
section
open PySem PySem.W PyProof.Rows
set_option Elab.async false
set_option linter.unusedVariables false
set_option maxRecDepth 100000
namespace Mine
def brA : List Stmt := match wb 4 with | .If _ b _ _ => b | _ => []
def brB : List Stmt := match wb 4 with | .If _ _ o _ => o | _ => []
def bb (i : Nat) : Stmt := brB.getD i noStmt

theorem strs_filter {vs : List Value} {sg : List (List Nat)} {p : Value → Bool} {g : List Nat → Bool} (hp : ∀ x t, p (.str (S x) t) = g x) (h : StrsAre vs (sg.map S)) : StrsAre (vs.filter p) ((sg.filter g).map S) := by
  induction sg generalizing vs with
  | nil => cases h; exact .nil
  | cons x r ih =>
    cases h with
    | cons _ t h =>
      rw [List.filter_cons, List.filter_cons, hp]
      cases g x with
      | true => exact .cons _ _ (ih h)
      | false => exact ih h
theorem vs_eq {vs us : List Value} (hlen : us.length = vs.length) (hP : ∀ (j : Nat) (u : Value), us[j]? = some u → vs.toArray[j]? = some u) : us = vs := by
  refine List.ext_getElem? fun j => ?_
  by_cases hj : j < us.length
  · have e := List.getElem?_eq_getElem hj
    have := hP j _ e
    rw [e]; simpa using this.symm
  · rw [List.getElem?_eq_none (by omega), List.getElem?_eq_none (by omega)]
theorem comp_strs {h₀ h : Heap} {vs : List Value} {sg : List (List Nat)} {p : Value → Bool} {g : List Nat → Bool} {v : Value} (hi : StrsAre vs (sg.map S)) (hp : ∀ x t, p (.str (S x) t) = g x)
    (x : CompOut h₀ vs.toArray.size (fun i v => vs.toArray[i]? = some v) p (fun v y => y = v) v h) : ∃ D, v = .ref D ∧ StrList h D ((sg.filter g).map S) ∧ h₀.get? D = none := by
  obtain ⟨D, ys, us, rfl, hpl, hD, hlen, hP, hF⟩ := x
  refine ⟨D, rfl, ⟨ys.toList, by simpa using hpl, ?_⟩, hD⟩
  rw [paired_eq hF, vs_eq (by simpa using hlen) hP]
  exact strs_filter hp hi

section
variable {prog : Program} {w : World} {A : Around} {s : Shared} {L fa : Addr} {cd : Value} {Q : Flow → Shared → Prop} {K : Frag} {C fI fC fG fH fB fS fM : Addr} {base : Heap}

/-- row.append((0, 0, text[place])); place = place + 1 -/
theorem br_sign {T : List Nat} {tT tp : Tok} {p : Nat} {aR : Addr} {R : List Row} (hn : HasNs s.heap L) (vT : Var s.heap L "text" (.str (S T) tT)) (hTl : T.length ≤ 14) (vP : Var s.heap L "place" (.int (p : Int) tp)) (hp : p < T.length)
    (vR : Var s.heap L "row" (.ref aR)) (hR : RowAt s.heap aR R) (hrl : R.length ≤ 14)
    (k : ∀ h' tk c t, Ch L ["place"] [aR] s.heap h' → T[p]? = some c → Var h' L "place" (.int ((p + 1 : Nat) : Int) t) → RowAt h' aR (R ++ [(0, 0, [c])]) → Q .next { s with heap := h', toks := tk }) :
    wpAny (model prog w) A (execs brA (lenv L fa cd)) Q NoE s := by
  obtain ⟨vs, hpl, hvl, hrow⟩ := id hR
  have hRL : aR ≠ L := plain_ne_ns hpl hn
  have hc : T[p]? = some T[p] := List.getElem?_eq_getElem hp
  have hx : (S T).cps[((p : Nat) : Int).toNat]? = some T[p] := by rw [Int.toNat_natCast]; simp [hp]
  refine wpAny_execs_cons (st_append hn (ev_local vR) hpl hRL (ev_tuple3 (P := isI 0) (R := isI 0) (T := isS (S [T[p]])) ev_int ev_int (ev_item_str (ev_s (ev_local vT)) (ev_i (ev_local vP)) (by omega) (by omega) hx)) (by rw [sizeLine_eq]; simp; omega) fun v h₁ h₂ tk hv kp ch hp₂ => ?_)
  obtain ⟨T', a, b, c, ha, hb, hc', rfl, hT', ⟨t1, rfl⟩, ⟨t2, rfl⟩, ⟨t3, rfl⟩, _⟩ := hv
  have n₁ : HasNs h₁ L := hn.kp kp
  have nt : ∀ b ∈ [aR], NoTup h₁ b := by intro b hb; rw [List.mem_singleton.mp hb]; exact noTup_list (hpl.at fun o e => kp _ _ e)
  have kt := ch.tup n₁ nt
  have row₂ : RowAt h₂ aR (R ++ [(0, 0, [T[p]])]) := RowAt.snoc (h := s.heap) hvl hrow (fun T items x => kt _ _ (tup_kp kp _ _ x)) hp₂ (kt _ _ hT')
  have vP₂ := ch.lk _ _ (by decide) (vP.kp kp)
  refine wpAny_execs_cons (st_assign ch.ns (ev_add (ev_i (ev_local vP₂)) ev_int) fun v h₃ h₄ tk₄ hv₄ kp₃ ch₄ var₄ => ?_)
  obtain ⟨t₄, rfl⟩ := hv₄
  have e1 : ((p : Nat) : Int) + 1 = ((p + 1 : Nat) : Int) := by omega
  rw [e1] at var₄
  refine wpAny_execs_nil (k h₄ tk₄ _ t₄ ((Ch.before kp (ch.mono (by simp) (by simp))).trans (Ch.before kp₃ (ch₄.mono (by simp) (by simp)))) hc var₄ ?_)
  exact (row₂.kp kp₃).mv (fun o e => ch₄.kb _ o hRL (by simp) e) (ch₄.tup (ch.ns.elim fun m n => ⟨m, n.keeps kp₃⟩) (by simp))

/-- word = text[place:end] -/
theorem br_word {T : List Nat} {tT tp te : Tok} {p m : Nat} {v₀ : Option Value} (hn : HasNs s.heap L) (vT : Var s.heap L "text" (.str (S T) tT)) (hTl : T.length ≤ 14) (vP : Var s.heap L "place" (.int (p : Int) tp)) (vE : Var s.heap L "end" (.int ((p + m : Nat) : Int) te)) (c3 : s.heap.IsCell (L + 1 + 1 + 1) v₀)
    (k : ∀ h' tk t, Ch L [] [L + 1 + 1 + 1] s.heap h' → h'.IsCell (L + 1 + 1 + 1) (some (.str (S ((T.drop p).take m)) t)) → Q .next { s with heap := h', toks := tk }) :
    wpAny (model prog w) A (exec (bb 0) (lenv L fa cd)) Q NoE s := by
  refine st_assign_cell (c := L + 1 + 1 + 1) (P := isS (S ((T.drop p).take m))) hn ?_ (by rfl) c3 (cell_ne_ns c3 hn) fun v h₁ h₂ tk hv kp ch hc => ?_
  · have hs : S ((T.drop p).take m) = Txt.slice (S T) (some (p : Int)) (some ((p + m : Nat) : Int)) := by
      rw [slice_between]
      congr 3
      omega
    rw [hs]
    exact ev_slice_str (l := some (p : Int)) (u := some ((p + m : Nat) : Int)) (ev_s (ev_local vT)) (ev_i (ev_local vP)) (ev_i (ev_local vE)) (by rw [S_length, sizeLine_eq]; omega)
  · obtain ⟨t, rfl⟩ := hv
    exact k h₂ tk t (Ch.before kp ch) hc

/-- while word not in trie: .. -/
theorem br_on (hbL : base.objs.size ≤ L) {b2 : Heap} {x d aG : Addr} {kvs : List (PySem.Str × Value)} {T H q : List Nat} {tH tq : Tok} {sg : List (List Nat)} (hh : A.handled = none) (hroom : A.depth + 12 < recursionLimit) (hu : A.units < cLine) (B : Kit3 K C fI fC fG fH fB fS fM base) (TO : TrieOk prog w K base b2 x C d kvs (sufs H)) (kb : Kp b2 s.heap) (lf : b2.get? L = none) (wf : b2.get? (L + 1 + 1 + 1) = none)
    (hn : HasNs s.heap L) (c1 : s.heap.IsCell (L + 1) (some (.str (S H) tH))) (c2 : s.heap.IsCell (L + 1 + 1) (some (.ref x))) (c3 : s.heap.IsCell (L + 1 + 1 + 1) (some (.str (S q) tq))) (vG : Var s.heap L "signs" (.ref aG)) (hG : StrList s.heap aG (sg.map S)) (hsg : Signs T sg) (hTl : T.length ≤ 14)
    (hHl : H.length ≤ 14) (hHT : ∀ c ∈ H, c ∈ T) (hq : q ≠ []) (hqH : q <:+: H)
    (k : ∀ h' tk W t, Ch L ["onward"] [L + 1 + 1 + 1] s.heap h' → q <+: W → W ∈ sufs H → h'.IsCell (L + 1 + 1 + 1) (some (.str (S W) t)) → Q .next { s with heap := h', toks := tk }) :
    wpAny (model prog w) A (exec (bb 1) (lenv L fa cd)) Q NoE s := by
  have c1L := cell_ne_ns c1 hn
  have c2L := cell_ne_ns c2 hn
  have c3L := cell_ne_ns c3 hn
  have hGL := hG.ne_ns hn
  have hGc : aG ≠ L + 1 + 1 + 1 := let ⟨_, p, _⟩ := hG; list_ne_cell p.isList c3
  have c1c : L + 1 ∉ [L + 1 + 1 + 1] := by rw [List.mem_singleton]; show (_ : Nat) ≠ _; omega
  have c2c : L + 1 + 1 ∉ [L + 1 + 1 + 1] := by rw [List.mem_singleton]; show (_ : Nat) ≠ _; omega
  have hrl : (sufs H).length ≤ 1000 := by rw [sufs_len]; omega
  have hsgl := hsg.len
  refine while_rule (xs := ["onward"]) (W := [L + 1 + 1 + 1]) (fun k h => ∃ (W : List Nat) (t : Tok), h.IsCell (L + 1 + 1 + 1) (some (.str (S W) t)) ∧ q <+: W ∧ W <:+: H ∧ k = H.length - W.length) (H.length - q.length) hn ⟨q, tq, c3, List.prefix_refl _, hqH, rfl⟩ ?_
  rintro n h tk ch ⟨W, t, c3h, hqW, hWH, rfl⟩
  have kbh : Kp b2 h := ch.base kb lf (by intro b hb; rw [List.mem_singleton.mp hb]; exact wf)
  have TOh := TO.kp kbh
  have c1h := cell_at c1 fun o e => ch.kb _ o c1L c1c e
  have c2h := cell_at c2 fun o e => ch.kb _ o c2L c2c e
  have hGh := hG.at fun o e => ch.kb _ o hGL (by rw [List.mem_singleton]; exact hGc) e
  have vGh := ch.lk _ _ (by decide) vG
  have hWl : W.length ≤ H.length := hWH.length_le
  have hWn : W ≠ [] := fun e => hq (by rw [e] at hqW; exact List.prefix_nil.mp hqW)
  refine ⟨!(decide (W ∈ sufs H)), ts_cmp (ev_s (ev_cell (c := L + 1 + 1 + 1) (by rfl) c3h)) (ev_cell (c := L + 1 + 1) (by rfl) c2h) (ci_notin_trie (s₀ := { s with heap := h, toks := tk }) ch.ns hbL (by omega) B TOh), fun hc h₁ tk₁ kp₁ => ?_, fun hc h₁ tk₁ kp₁ => ?_⟩
  · have hWs : W ∉ sufs H := by simpa using hc
    obtain ⟨us, hpG, hSG⟩ := hGh.kp kp₁
    have hul := strs_len hSG
    have n₁ : HasNs h₁ L := HasNs.kp ch.ns kp₁
    have item : ∀ {i : Nat} {v : Value}, us.toArray[i]? = some v → ∃ y t, y ∈ sg ∧ v = .str (S y) t := fun {i v} e => by
      obtain ⟨z, t, h1, h2⟩ := strs_of hSG (by simpa using e)
      rw [List.getElem?_map, Option.map_eq_some_iff] at h1
      obtain ⟨y, hy, rfl⟩ := h1
      exact ⟨y, t, List.mem_of_getElem? hy, h2⟩
    have hsz : us.toArray.size ≤ sizeLine := by rw [sizeLine_eq]; simp at hul ⊢; omega
    have hcat : ∀ y ∈ sg, (S W).length + (S y).length ≤ sizeLine := fun y hy => by
      obtain ⟨c, rfl⟩ := hsg.one y hy
      rw [S_length, S_length, sizeLine_eq]; simp; omega
    -- onward = [..]
    refine wpAny_execs_cons (st_assign_comp (cl := [("word", L + 1 + 1 + 1), ("trie", L + 1 + 1)]) (n := us.toArray.size) (P := fun i v => us.toArray[i]? = some v) (src := [aG]) (fun v => match v with | .str z _ => decide (W ++ z.cps.toList <:+: H) | _ => false) (fun v y => y = v) n₁ (by rfl) (by decide) rfl (by decide) (by rfl)
      (src_list hh (ev_local (vGh.kp kp₁)) hpG.isList) hsz (fun C i v s₃ hP hV hK => ?_) (fun C i v s₃ hP hpv hV hK => ev_local hV) fun v h₂ tk₂ hv ch₂ var₂ => ?_)
    · obtain ⟨y, ty, hy, rfl⟩ := item hP
      refine tests_one ?_
      show Ts prog w A _ s₃ _ (decide (W ++ y <:+: H))
      have hne : W ++ y ≠ [] := fun e => hWn (List.append_eq_nil_iff.mp e).1
      rw [← begins_sufs hne]
      refine ts_of_ev (ev_has hh (by omega) B ((TOh.kp kp₁).kp hK) hrl (ev_cell (c := L + 1 + 1) (by rfl) ((c2h.keeps kp₁).keeps hK)) ?_)
      rw [← S_append]
      exact ev_cat (ev_s (ev_cell (c := L + 1 + 1 + 1) (by rfl) ((c3h.keeps kp₁).keeps hK))) (ev_s (ev_local hV)) (hcat y hy)
    obtain ⟨D, rfl, hD₀, hDf⟩ := comp_strs hSG (g := fun y => decide (W ++ y <:+: H)) (fun x t => rfl) hv
    have hDL : D ≠ L := ne_of_fresh n₁ hDf
    have c1₂ := cell_at (c1h.keeps kp₁) fun o e => ch₂.kb _ o c1L (by simp) e
    have c3₂ := cell_at (c3h.keeps kp₁) fun o e => ch₂.kb _ o c3L (by simp) e
    have vG₂ := ch₂.lk _ _ (by decide) (vGh.kp kp₁)
    have hpG₂ := hpG.at fun o e => ch₂.kb _ o hGL (by simp) e
    have hD₂ := hD₀
    -- if onward != [..]: return False
    refine wpAny_execs_cons (st_if (s := { s with heap := h₂, toks := tk₂ }) (c := false) (ts_cmp ((ev_local var₂).mono (P' := fun v h => v = .ref D ∧ StrList h D ((sg.filter fun y => decide (W ++ y <:+: H)).map S)) fun v h kp e => ⟨e, hD₂.kp kp⟩) (ev_comp (cl := [("word", L + 1 + 1 + 1), ("head", L + 1)]) (n := us.toArray.size) (P := fun i v => us.toArray[i]? = some v) (src := [aG]) (fun v => match v with | .str z _ => decide (W ++ z.cps.toList <:+: H) | _ => false) (fun v y => y = v) (by rfl) (by decide) rfl (by decide) (by rfl)
      (src_list hh (ev_local vG₂) hpG₂.isList) hsz (fun C i v s₃ hP hV hK => ?_) (fun C i v s₃ hP hpv hV hK => ev_local hV)) ?_) (fun hc => by cases hc) (fun hc h₃ tk₃ kp₃ => ?_))
    · obtain ⟨y, ty, hy, rfl⟩ := item hP
      refine tests_one ?_
      show Ts prog w A _ s₃ _ (decide (W ++ y <:+: H))
      rw [← contains_S, ← S_append]
      exact ts_cmp (ev_cat (ev_s (ev_cell (c := L + 1 + 1 + 1) (by rfl) (c3₂.keeps hK))) (ev_s (ev_local hV)) (hcat y hy)) (ev_s (ev_cell (c := L + 1) (by rfl) (c1₂.keeps hK))) ci_in_str
    · refine ci_ne_strs hu (fun v h q => ⟨D, q.1, q.2⟩) (fun v h q => ?_) rfl
      obtain ⟨D', e, hD', _⟩ := comp_strs hSG (g := fun y => decide (W ++ y <:+: H)) (fun x t => rfl) q
      exact ⟨D', e, hD'⟩
    -- word = word + onward[0]
    refine wpAny_execs_nil ?_
    obtain ⟨ds, hpD, hSD⟩ := hD₂.kp kp₃
    obtain ⟨c, hcH, hcW⟩ := onward_some hWH hWn hWs
    have hmem : [c] ∈ sg.filter fun y => decide (W ++ y <:+: H) := List.mem_filter.mpr ⟨hsg.all c (hHT c hcH), by simpa using hcW⟩
    obtain ⟨x0, r0, hx0⟩ : ∃ x0 r0, (sg.filter fun y => decide (W ++ y <:+: H)) = x0 :: r0 := by
      cases e : (sg.filter fun y => decide (W ++ y <:+: H)) with
      | nil => rw [e] at hmem; cases hmem
      | cons a r => exact ⟨a, r, rfl⟩
    have hx0m : x0 ∈ sg.filter fun y => decide (W ++ y <:+: H) := by rw [hx0]; exact List.mem_cons_self
    obtain ⟨hx0s, hx0W⟩ := List.mem_filter.mp hx0m
    have hx0W' : W ++ x0 <:+: H := by simpa using hx0W
    obtain ⟨c0, rfl⟩ := hsg.one x0 hx0s
    have hd0 : ∃ t0, ds.toArray[(0 : Int).toNat]? = some (.str (S [c0]) t0) := by
      rw [hx0] at hSD
      cases hSD with
      | cons _ t0 _ => exact ⟨t0, rfl⟩
    obtain ⟨t0, hd0⟩ := hd0
    refine wpAny_execs_cons (st_assign_cell (c := L + 1 + 1 + 1) (P := isS (S (W ++ [c0]))) (HasNs.kp ch₂.ns kp₃) ?_ (by rfl) (c3₂.keeps kp₃) c3L fun v h₄ h₅ tk₅ hv₅ kp₄ ch₅ hc₅ => ?_)
    · rw [← S_append]
      exact ev_cat (ev_s (ev_cell (c := L + 1 + 1 + 1) (by rfl) (c3₂.keeps kp₃))) (ev_s (ev_item_list (ev_local (var₂.kp kp₃)) ev_int hpD.isList (by omega) (by omega) hd0)) (hcat [c0] hx0s)
    obtain ⟨t₅, rfl⟩ := hv₅
    have hl2 := hx0W'.length_le
    rw [List.length_append, List.length_singleton] at hl2
    refine wpAny_execs_nil ⟨h₅, tk₅, H.length - (W ++ [c0]).length, rfl, ?_, ?_, W ++ [c0], t₅, hc₅, hqW.trans (List.prefix_append _ _), hx0W', rfl⟩
    · exact (ch₂.mono (by simp) (by simp)).trans (Ch.before (kp₃.trans kp₄) (ch₅.mono (by simp) (by simp)))
    · rw [List.length_append, List.length_singleton]; omega
  · have hWs : W ∈ sufs H := by simpa using hc
    exact k h₁ tk₁ W t (ch.after kp₁) hqW hWs (c3h.keeps kp₁)
end
end Mine
end
-- text C11
section
open PySem PySem.W PyProof.Rows
set_option Elab.async false
set_option linter.unusedVariables false
set_option maxRecDepth 100000
namespace Mine

/-- what stands in the frame while the text is written as copies -/
structure Fr3 (L aG aR : Addr) (T : List Nat) (sg : List (List Nat)) (p : Nat) (R : List Row) (h : Heap) : Prop where
  n : HasNs h L
  vT : ∃ t, Var h L "text" (.str (S T) t)
  vG : Var h L "signs" (.ref aG)
  vR : Var h L "row" (.ref aR)
  vP : ∃ t, Var h L "place" (.int (p : Int) t)
  hG : StrList h aG (sg.map S)
  hR : RowAt h aR R
theorem Fr3.kp {L aG aR : Addr} {T : List Nat} {sg : List (List Nat)} {p : Nat} {R : List Row} {h h' : Heap} (f : Fr3 L aG aR T sg p R h) (k : Kp h h') : Fr3 L aG aR T sg p R h' :=
  ⟨f.n.kp k, let ⟨t, x⟩ := f.vT; ⟨t, x.kp k⟩, f.vG.kp k, f.vR.kp k, let ⟨t, x⟩ := f.vP; ⟨t, x.kp k⟩, f.hG.kp k, f.hR.kp k⟩
theorem Fr3.step {L aG aR : Addr} {T : List Nat} {sg : List (List Nat)} {p : Nat} {R : List Row} {h h' : Heap} {xs : List PySem.Str} {W : List Addr} (f : Fr3 L aG aR T sg p R h) (ch : Ch L xs W h h')
    (hx : ∀ q ∈ ([Str.ofString "text", Str.ofString "signs", Str.ofString "row", Str.ofString "place"] : List PySem.Str), q ∉ xs) (hW : ∀ b ∈ W, ∃ v, h.IsCell b v) : Fr3 L aG aR T sg p R h' := by
  have nW : ∀ a, (∃ items, h.IsList a items) → a ∉ W := fun a ⟨items, x⟩ m => let ⟨v, c⟩ := hW a m; list_ne_cell x c rfl
  obtain ⟨vs, hp, hvl, hrow⟩ := f.hR
  obtain ⟨us, hq, hS⟩ := f.hG
  refine ⟨ch.ns, let ⟨t, x⟩ := f.vT; ⟨t, ch.lk _ _ (hx _ (by simp)) x⟩, ch.lk _ _ (hx _ (by simp)) f.vG, ch.lk _ _ (hx _ (by simp)) f.vR, let ⟨t, x⟩ := f.vP; ⟨t, ch.lk _ _ (hx _ (by simp)) x⟩, ?_, ?_⟩
  · exact f.hG.at fun o e => ch.kb _ o (plain_ne_ns hq f.n) (nW _ ⟨_, hq.isList⟩) e
  · exact f.hR.mv (fun o e => ch.kb _ o (plain_ne_ns hp f.n) (nW _ ⟨_, hp.isList⟩) e) (ch.tup f.n fun b hb => let ⟨v, c⟩ := hW b hb; noTup_cell c)

section
variable {prog : Program} {w : World} {A : Around} {s : Shared} {L fa : Addr} {cd : Value} {Q : Flow → Shared → Prop} {K : Frag} {C fI fC fG fH fB fS fM : Addr} {base : Heap}

/-- row.append((trie[word], end - place, '')); place = end -/
theorem br_copy (hbL : base.objs.size ≤ L) {b2 : Heap} {x d : Addr} {kvs : List (PySem.Str × Value)} {H W : List Nat} {tW tp te : Tok} {p m : Nat} {aR : Addr} {R : List Row} {stmts : List Stmt} (hst : stmts = [bb 2, bb 3]) (hroom : A.depth + 12 < recursionLimit) (B : Kit3 K C fI fC fG fH fB fS fM base) (TO : TrieOk prog w K base b2 x C d kvs (sufs H)) (kb : Kp b2 s.heap)
    (hn : HasNs s.heap L) (c2 : s.heap.IsCell (L + 1 + 1) (some (.ref x))) (c3 : s.heap.IsCell (L + 1 + 1 + 1) (some (.str (S W) tW))) (hW : W ∈ sufs H) (vP : Var s.heap L "place" (.int (p : Int) tp)) (vE : Var s.heap L "end" (.int ((p + m : Nat) : Int) te))
    (vR : Var s.heap L "row" (.ref aR)) (hR : RowAt s.heap aR R) (hrl : R.length ≤ 14)
    (k : ∀ h' tk j t, Ch L ["place"] [aR] s.heap h' → (sufs H)[j]? = some W → Var h' L "place" (.int ((p + m : Nat) : Int) t) → RowAt h' aR (R ++ [(j, m, [])]) → Q .next { s with heap := h', toks := tk }) :
    wpAny (model prog w) A (execs stmts (lenv L fa cd)) Q NoE s := by
  subst hst
  obtain ⟨vs, hpl, hvl, hrow⟩ := id hR
  have hRL : aR ≠ L := plain_ne_ns hpl hn
  refine wpAny_execs_cons (st_append (s := s) hn (ev_local vR) hpl hRL (ev_tuple3 (R := isI (((p + m : Nat) : Int) - (p : Int))) (T := isS (S [])) (ev_get hn hbL (by omega) B (TO.kp kb) hW (ev_cell (c := L + 1 + 1) (by rfl) c2) (ev_s (ev_cell (c := L + 1 + 1 + 1) (by rfl) c3))) (ev_sub (ev_i (ev_local vE)) (ev_i (ev_local vP))) ev_str) (by rw [sizeLine_eq]; simp; omega) fun v h₁ h₂ tk hv kp ch hp₂ => ?_)
  obtain ⟨T', a, b, c, ha, hb, hc', rfl, hT', ⟨j, hj, t1, rfl⟩, ⟨t2, rfl⟩, ⟨t3, rfl⟩, _⟩ := hv
  have e1 : ((p + m : Nat) : Int) - (p : Int) = (m : Int) := by omega
  rw [e1] at hT'
  have n₁ : HasNs h₁ L := hn.kp kp
  have nt : ∀ b ∈ [aR], NoTup h₁ b := by intro b hb; rw [List.mem_singleton.mp hb]; exact noTup_list (hpl.at fun o e => kp _ _ e)
  have kt := ch.tup n₁ nt
  have row₂ : RowAt h₂ aR (R ++ [(j, m, [])]) := RowAt.snoc (h := s.heap) hvl hrow (fun T items x => kt _ _ (tup_kp kp _ _ x)) hp₂ (kt _ _ hT')
  have vE₂ := ch.lk _ _ (by simp) (vE.kp kp)
  refine wpAny_execs_cons (st_assign ch.ns (ev_local vE₂) fun v h₃ h₄ tk₄ hv₄ kp₃ ch₄ var₄ => ?_)
  subst hv₄
  refine wpAny_execs_nil (k h₄ tk₄ j te ((Ch.before kp (ch.mono (by simp) (by simp))).trans (Ch.before kp₃ (ch₄.mono (by simp) (by simp)))) hj var₄ ?_)
  exact (row₂.kp kp₃).mv (fun o e => ch₄.kb _ o hRL (by simp) e) (ch₄.tup (ch.ns.elim fun m n => ⟨m, n.keeps kp₃⟩) (by simp))

theorem ne_self_add {a b : Nat} (h : 0 < b) : a + b ≠ a := by omega

/-- one turn of the outer loop -/
theorem w_turn (hbL : base.objs.size ≤ L) {aG aR : Addr} {T : List Nat} {sg : List (List Nat)} {p : Nat} {R : List Row} {v1 v2 v3 : Option Value} {stmts : List Stmt} (hst : stmts = wh) (hh : A.handled = none) (hroom : A.depth + 12 < recursionLimit) (hu : A.units < cLine) (B : Kit3 K C fI fC fG fH fB fS fM base)
    (kb : Kp base s.heap) (lf : base.get? L = none) (f1 : base.get? (L + 1) = none) (f2 : base.get? (L + 1 + 1) = none) (f3 : base.get? (L + 1 + 1 + 1) = none) (fR : base.get? aR = none)
    (f : Fr3 L aG aR T sg p R s.heap) (c1 : s.heap.IsCell (L + 1) v1) (c2 : s.heap.IsCell (L + 1 + 1) v2) (c3 : s.heap.IsCell (L + 1 + 1 + 1) v3) (hGR : aG ≠ aR)
    (hTl : T.length ≤ 14) (hsg : Signs T sg) (hp : p < T.length) (hok : RowsOk T R p)
    (k : ∀ h' tk p' R', Ch L ["place", "end", "onward"] [L + 1, L + 1 + 1, L + 1 + 1 + 1, aR] s.heap h' → p < p' → p' ≤ T.length → Fr3 L aG aR T sg p' R' h' → RowsOk T R' p' → (∃ v, h'.IsCell (L + 1) v) → (∃ v, h'.IsCell (L + 1 + 1) v) → (∃ v, h'.IsCell (L + 1 + 1 + 1) v) → Q .next { s with heap := h', toks := tk }) :
    wpAny (model prog w) A (execs stmts (lenv L fa cd)) Q NoE s := by
  have ew : stmts = [wb 0, wb 1, wb 2, wb 3, wb 4] := hst
  rw [ew]
  have d12 : L + 1 ≠ L + 1 + 1 := by show (_ : Nat) ≠ _; omega
  have d13 : L + 1 ≠ L + 1 + 1 + 1 := by show (_ : Nat) ≠ _; omega
  have d23 : L + 1 + 1 ≠ L + 1 + 1 + 1 := by show (_ : Nat) ≠ _; omega
  have l1 := cell_ne_ns c1 f.n
  have l2 := cell_ne_ns c2 f.n
  have l3 := cell_ne_ns c3 f.n
  have hrl := hok.len
  -- head
  obtain ⟨tT, vT⟩ := f.vT
  obtain ⟨tp, vP⟩ := f.vP
  refine wpAny_execs_cons (w_head f.n vT hTl vP c1 fun h1 tk1 tH ch1 c1' => ?_)
  have fr1 := f.step ch1 (by decide) (by intro b hb; rw [List.mem_singleton.mp hb]; exact ⟨_, c1⟩)
  have c2₁ := cell_at c2 fun o e => ch1.kb _ o l2 (by rw [List.mem_singleton]; exact Ne.symm d12) e
  have c3₁ := cell_at c3 fun o e => ch1.kb _ o l3 (by rw [List.mem_singleton]; exact Ne.symm d13) e
  have kb1 : Kp base h1 := ch1.base kb lf (by simpa using f1)
  have hHl : (T.take p).length ≤ 14 := by rw [List.length_take]; omega
  -- trie
  refine wpAny_execs_cons (w_trie (s := { s with heap := h1, toks := tk1 }) hh hroom B kb1 fr1.n c1' c2₁ (by omega) fun x d kvs h2 tk2 ch2 c2' made => ?_)
  have fr2 := fr1.step ch2 (by decide) (by intro b hb; rw [List.mem_singleton.mp hb]; exact ⟨_, c2₁⟩)
  have c1₂ := cell_at c1' fun o e => ch2.kb _ o l1 (by rw [List.mem_singleton]; exact d12) e
  have c3₂ := cell_at c3₁ fun o e => ch2.kb _ o l3 (by rw [List.mem_singleton]; exact Ne.symm d23) e
  have kb2 : Kp base h2 := ch2.base kb1 lf (by simpa using f2)
  obtain ⟨vsR, hplR, hvlR, hrowR⟩ := id fr1.hR
  -- what stands beside the frame, the cells and the row
  have TO : TrieOk prog w K base (hideAll h2 [L, L + 1, L + 1 + 1, L + 1 + 1 + 1, aR]) x C d kvs (sufs (T.take p)) := by
    refine trieOk_of B made (fun b o e => hideAll_get _ (kb2 b o e) ?_) (fun b o e e' => hideAll_get _ e' ?_)
    · intro hb
      simp only [List.mem_cons, List.not_mem_nil, or_false] at hb
      rcases hb with rfl | rfl | rfl | rfl | rfl
      · rw [lf] at e; cases e
      · rw [f1] at e; cases e
      · rw [f2] at e; cases e
      · rw [f3] at e; cases e
      · rw [fR] at e; cases e
    · intro hb
      simp only [List.mem_cons, List.not_mem_nil, or_false] at hb
      rcases hb with rfl | rfl | rfl | rfl | rfl
      · exact ne_of_fresh fr1.n e rfl
      · exact ne_of_fresh_cell c1' e rfl
      · exact ne_of_fresh_cell c2₁ e rfl
      · exact ne_of_fresh_cell c3₁ e rfl
      · obtain ⟨_, e2⟩ := hplR; rw [e] at e2; cases e2
  have hk2 : Kp (hideAll h2 [L, L + 1, L + 1 + 1, L + 1 + 1 + 1, aR]) h2 := fun b o e => of_hideAll _ e
  have hz : ∀ b ∈ [L, L + 1, L + 1 + 1, L + 1 + 1 + 1, aR], (hideAll h2 [L, L + 1, L + 1 + 1, L + 1 + 1 + 1, aR]).get? b = none := fun b hb => hideAll_none _ hb
  generalize hideAll h2 [L, L + 1, L + 1 + 1, L + 1 + 1 + 1, aR] = b2 at TO hk2 hz
  have zL := hz L (by simp)
  have z3 := hz (L + 1 + 1 + 1) (by simp)
  -- end
  obtain ⟨tp2, vP2⟩ := fr2.vP
  refine wpAny_execs_cons (w_end (s := { s with heap := h2, toks := tk2 }) fr2.n vP2 fun h3 tk3 ch3 vE3 => ?_)
  have fr3 := fr2.step ch3 (by decide) (by simp)
  have c1₃ := cell_at c1₂ fun o e => ch3.kb _ o l1 (by simp) e
  have c2₃ := cell_at c2' fun o e => ch3.kb _ o l2 (by simp) e
  have c3₃ := cell_at c3₂ fun o e => ch3.kb _ o l3 (by simp) e
  have hk3 : Kp b2 h3 := ch3.base hk2 zL (by simp)
  obtain ⟨tT3, vT3⟩ := fr3.vT
  obtain ⟨tp3, vP3⟩ := fr3.vP
  -- the reading
  refine wpAny_execs_cons (w_far (s := { s with heap := h3, toks := tk3 }) hh hroom B TO hk3 zL fr3.n vT3 hTl vP3 hp vE3 c2₃ fun h4 tk4 m te ch4 hmax vE4 => ?_)
  have fr4 := fr3.step ch4 (by decide) (by simp)
  have c1₄ := cell_at c1₃ fun o e => ch4.kb _ o l1 (by simp) e
  have c2₄ := cell_at c2₃ fun o e => ch4.kb _ o l2 (by simp) e
  have c3₄ := cell_at c3₃ fun o e => ch4.kb _ o l3 (by simp) e
  have hk4 : Kp b2 h4 := ch4.base hk3 zL (by simp)
  obtain ⟨tT4, vT4⟩ := fr4.vT
  obtain ⟨tp4, vP4⟩ := fr4.vP
  have CH4 : Ch L ["place", "end", "onward"] [L + 1, L + 1 + 1, L + 1 + 1 + 1, aR] s.heap h4 :=
    (((ch1.mono (by simp) (by simp)).trans (ch2.mono (by simp) (by simp))).trans (ch3.mono (by simp) (by simp))).trans (ch4.mono (by simp) (by simp))
  refine wpAny_execs_cons ?_
  refine st_if (s := { s with heap := h4, toks := tk4 }) (c := (((p + m : Nat) : Int) == (p : Int))) (ts_cmp (ev_i (ev_local vE4)) (ev_i (ev_local vP4)) ci_eq) (fun hc h5 tk5 kp5 => ?_) (fun hc h5 tk5 kp5 => ?_)
  · -- a sign
    have hm0 : m = 0 := by have : ((p + m : Nat) : Int) = (p : Int) := by simpa using hc
                           omega
    subst hm0
    have fr5 := fr4.kp kp5
    obtain ⟨vs5, hpl5, _, _⟩ := id fr5.hR
    have cR : ∀ b ∈ [aR], ∀ c v, h5.IsCell c v → c ∉ [aR] := fun b _ c v hc => by rw [List.mem_singleton]; exact fun q => list_ne_cell hpl5.isList hc q.symm
    refine br_sign (s := { s with heap := h5, toks := tk5 }) fr5.n (vT4.kp kp5) hTl (vP4.kp kp5) hp fr5.vR fr5.hR (by omega) fun h6 tk6 c t6 ch6 hc6 vP6 row6 => ?_
    refine wpAny_execs_nil (k h6 tk6 (p + 1) _ (CH4.trans (Ch.before kp5 (ch6.mono (by simp) (by simp)))) (by omega) (by omega) ⟨ch6.ns, ⟨_, ch6.lk _ _ (by decide) (vT4.kp kp5)⟩, ch6.lk _ _ (by decide) fr5.vG, ch6.lk _ _ (by decide) fr5.vR, ⟨t6, vP6⟩, fr5.hG.at fun o e => ch6.kb _ o (fr5.hG.ne_ns fr5.n) (by rw [List.mem_singleton]; exact hGR) e, row6⟩ (hok.snoc (step_sign hc6 hmax)) ?_ ?_ ?_)
    · exact ⟨_, cell_at (c1₄.keeps kp5) fun o e => ch6.kb _ o l1 (cR aR (by simp) _ _ (c1₄.keeps kp5)) e⟩
    · exact ⟨_, cell_at (c2₄.keeps kp5) fun o e => ch6.kb _ o l2 (cR aR (by simp) _ _ (c2₄.keeps kp5)) e⟩
    · exact ⟨_, cell_at (c3₄.keeps kp5) fun o e => ch6.kb _ o l3 (cR aR (by simp) _ _ (c3₄.keeps kp5)) e⟩
  · -- a copy
    have hm0 : 0 < m := by have : ¬ ((p + m : Nat) : Int) = (p : Int) := by simpa using hc
                           omega
    have fr5 := fr4.kp kp5
    have eB : brB = [bb 0, bb 1, bb 2, bb 3] := rfl
    show wpAny _ A (execs brB (lenv L fa cd)) _ _ _
    rw [eB]
    have hle := hmax.le
    refine wpAny_execs_cons (br_word (s := { s with heap := h5, toks := tk5 }) (m := m) fr5.n (vT4.kp kp5) hTl (vP4.kp kp5) (vE4.kp kp5) (c3₄.keeps kp5) fun h6 tk6 t6 ch6 c3₆ => ?_)
    have fr6 := fr5.step ch6 (by decide) (by intro b hb; rw [List.mem_singleton.mp hb]; exact ⟨_, c3₄.keeps kp5⟩)
    have c1₆ := cell_at (c1₄.keeps kp5) fun o e => ch6.kb _ o l1 (by rw [List.mem_singleton]; exact d13) e
    have c2₆ := cell_at (c2₄.keeps kp5) fun o e => ch6.kb _ o l2 (by rw [List.mem_singleton]; exact d23) e
    have hk6 : Kp b2 h6 := ch6.base (hk4.trans kp5) zL (by simpa using z3)
    have hql : ((T.drop p).take m).length = m := by rw [List.length_take, List.length_drop]; omega
    have hqn : (T.drop p).take m ≠ [] := fun q => by rw [q] at hql; simp at hql; omega
    refine wpAny_execs_cons (br_on hbL (s := { s with heap := h6, toks := tk6 }) hh hroom hu B TO hk6 zL z3 fr6.n c1₆ c2₆ c3₆ fr6.vG fr6.hG hsg hTl hHl (fun c hc => List.mem_of_mem_take hc) hqn hmax.inn fun h7 tk7 W t7 ch7 hqW hWs c3₇ => ?_)
    have fr7 := fr6.step ch7 (by decide) (by intro b hb; rw [List.mem_singleton.mp hb]; exact ⟨_, c3₆⟩)
    have c1₇ := cell_at c1₆ fun o e => ch7.kb _ o l1 (by rw [List.mem_singleton]; exact d13) e
    have c2₇ := cell_at c2₆ fun o e => ch7.kb _ o l2 (by rw [List.mem_singleton]; exact d23) e
    have hk7 : Kp b2 h7 := ch7.base hk6 zL (by simpa using z3)
    obtain ⟨tp7, vP7⟩ := fr7.vP
    obtain ⟨tT7, vT7⟩ := fr7.vT
    have vE7 : Var h7 L "end" (.int ((p + m : Nat) : Int) te) := ch7.lk _ _ (by decide) (ch6.lk _ _ (by simp) (vE4.kp kp5))
    obtain ⟨vs7, hpl7, _, _⟩ := id fr7.hR
    have cR : ∀ c v, h7.IsCell c v → c ∉ [aR] := fun c v hc => by rw [List.mem_singleton]; exact fun q => list_ne_cell hpl7.isList hc q.symm
    refine br_copy hbL (s := { s with heap := h7, toks := tk7 }) rfl hroom B TO hk7 fr7.n c2₇ c3₇ hWs vP7 vE7 fr7.vR fr7.hR (by omega) fun h8 tk8 j t8 ch8 hj vP8 row8 => ?_
    have hjW : W = (T.take p).drop j := by
      have hlt := (List.getElem?_eq_some_iff.mp hj).1
      rw [sufs_len] at hlt
      rw [sufs_at hlt] at hj
      exact (Option.some.inj hj).symm
    have st : StepOk T p (j, m, []) (p + m) := step_copy (by omega) hmax hm0 (hjW ▸ hqW)
    refine wpAny_execs_nil (k h8 tk8 (p + m) _ (CH4.trans (Ch.before kp5 (((ch6.mono (by simp) (by simp)).trans (ch7.mono (by simp) (by simp))).trans (ch8.mono (by simp) (by simp))))) (by omega) (by omega) ⟨ch8.ns, ⟨_, ch8.lk _ _ (by decide) vT7⟩, ch8.lk _ _ (by decide) fr7.vG, ch8.lk _ _ (by decide) fr7.vR, ⟨t8, vP8⟩, fr7.hG.at fun o e => ch8.kb _ o (fr7.hG.ne_ns fr7.n) (by rw [List.mem_singleton]; exact hGR) e, row8⟩ (hok.snoc st) ?_ ?_ ?_)
    · exact ⟨_, cell_at c1₇ fun o e => ch8.kb _ o l1 (cR _ _ c1₇) e⟩
    · exact ⟨_, cell_at c2₇ fun o e => ch8.kb _ o l2 (cR _ _ c2₇) e⟩
    · exact ⟨_, cell_at c3₇ fun o e => ch8.kb _ o l3 (cR _ _ c3₇) e⟩
end
end Mine
end
-- text C12
section
open PySem PySem.W PyProof.Rows
set_option Elab.async false
set_option linter.unusedVariables false
set_option maxRecDepth 100000
namespace Mine

theorem filter_range {p : Value → Bool} {g : Nat → Bool} (hp : ∀ (i : Nat) (t : Tok), p (.int (i : Int) t) = g i) : ∀ (vs : List Value) (k : Nat), (∀ (j : Nat) (u : Value), vs[j]? = some u → ∃ t, u = .int ((k + j : Nat) : Int) t) →
    IntsAre (vs.filter p) (((List.range' k vs.length).filter g).map fun x : Nat => (x : Int))
  | [], k, _ => .nil
  | v :: r, k, h => by
    obtain ⟨t, rfl⟩ := h 0 v rfl
    have ih := filter_range hp r (k + 1) fun j u hj => by
      obtain ⟨t', e⟩ := h (j + 1) u (by simpa using hj)
      exact ⟨t', by rw [e]; congr 2; omega⟩
    rw [List.length_cons, List.range'_succ]
    have e0 : ((k + 0 : Nat) : Int) = (k : Int) := by simp
    rw [e0]
    by_cases hg : g k = true
    · rw [List.filter_cons_of_pos (by rw [hp, hg]), List.filter_cons_of_pos hg, List.map_cons]
      exact .cons _ _ ih
    · rw [List.filter_cons_of_neg (by rw [hp]; exact hg), List.filter_cons_of_neg hg]
      exact ih
theorem comp_range {h₀ h : Heap} {n : Nat} {p : Value → Bool} {g : Nat → Bool} {v : Value} (hp : ∀ (i : Nat) (t : Tok), p (.int (i : Int) t) = g i)
    (x : CompOut h₀ n (fun i v => ∃ t, v = .int (i : Int) t) p (fun v y => y = v) v h) : ∃ D, v = .ref D ∧ IntList h D (((List.range n).filter g).map fun x : Nat => (x : Int)) ∧ h₀.get? D = none := by
  obtain ⟨D, ys, us, rfl, hpl, hD, hlen, hP, hF⟩ := x
  refine ⟨D, rfl, ⟨ys.toList, by simpa using hpl, ?_⟩, hD⟩
  rw [paired_eq hF]
  have := filter_range hp us 0 fun j u hj => by
    obtain ⟨t, e⟩ := hP j u hj
    exact ⟨t, by rw [e]; simp⟩
  rw [hlen] at this
  rw [List.range_eq_range']
  exact this

section
variable {prog : Program} {w : World} {A : Around} {s : Shared} {L fa : Addr} {cd : Value} {Q : Flow → Shared → Prop} {K : Frag} {C fI fC fG fH fB fS fM : Addr} {base : Heap}

/-- while place < len(text): .. -/
theorem law_s5 (hbL : base.objs.size ≤ L) {aG aR : Addr} {T : List Nat} {sg : List (List Nat)} {v1 v2 v3 : Option Value} (hh : A.handled = none) (hroom : A.depth + 12 < recursionLimit) (hu : A.units < cLine) (B : Kit3 K C fI fC fG fH fB fS fM base)
    (kb : Kp base s.heap) (lf : base.get? L = none) (f1 : base.get? (L + 1) = none) (f2 : base.get? (L + 1 + 1) = none) (f3 : base.get? (L + 1 + 1 + 1) = none) (fR : base.get? aR = none)
    (f : Fr3 L aG aR T sg 0 [] s.heap) (c1 : s.heap.IsCell (L + 1) v1) (c2 : s.heap.IsCell (L + 1 + 1) v2) (c3 : s.heap.IsCell (L + 1 + 1 + 1) v3) (hGR : aG ≠ aR)
    (hTl : T.length ≤ 14) (hsg : Signs T sg)
    (k : ∀ h' tk R, Ch L ["place", "end", "onward"] [L + 1, L + 1 + 1, L + 1 + 1 + 1, aR] s.heap h' → Fr3 L aG aR T sg T.length R h' → RowsOk T R T.length → Q .next { s with heap := h', toks := tk }) :
    wpAny (model prog w) A (exec (st3 5) (lenv L fa cd)) Q NoE s := by
  refine while_rule (xs := ["place", "end", "onward"]) (W := [L + 1, L + 1 + 1, L + 1 + 1 + 1, aR]) (fun k h => ∃ p R, Fr3 L aG aR T sg p R h ∧ p ≤ T.length ∧ RowsOk T R p ∧ (∃ v, h.IsCell (L + 1) v) ∧ (∃ v, h.IsCell (L + 1 + 1) v) ∧ (∃ v, h.IsCell (L + 1 + 1 + 1) v) ∧ k = T.length - p) T.length f.n
    ⟨0, [], f, Nat.zero_le _, .nil T, ⟨_, c1⟩, ⟨_, c2⟩, ⟨_, c3⟩, rfl⟩ ?_
  rintro n h tk ch ⟨p, R, fr, hp, hok, ⟨u1, d1⟩, ⟨u2, d2⟩, ⟨u3, d3⟩, rfl⟩
  have kbh : Kp base h := ch.base kb lf (by
    intro b hb
    simp only [List.mem_cons, List.not_mem_nil, or_false] at hb
    rcases hb with rfl | rfl | rfl | rfl <;> assumption)
  have g := B.len.kp kbh
  obtain ⟨tT, vT⟩ := fr.vT
  obtain ⟨tp, vP⟩ := fr.vP
  have hlen : (((S T).length : Nat) : Int) = (T.length : Int) := by rw [S_length]
  refine ⟨decide ((p : Int) < (((S T).length : Nat) : Int)), ts_cmp (ev_i (ev_local vP)) (ev_len_str (ev_builtin ⟨g.g, g.b⟩) (ev_s (ev_local vT)) (by rw [S_length]; omega)) ci_lt, fun hc h₁ tk₁ kp₁ => ?_, fun hc h₁ tk₁ kp₁ => ?_⟩
  · rw [decide_eq_true_iff, hlen] at hc
    refine w_turn hbL (s := { s with heap := h₁, toks := tk₁ }) (by rfl) hh hroom hu B (kbh.trans kp₁) lf f1 f2 f3 fR (fr.kp kp₁) (d1.keeps kp₁) (d2.keeps kp₁) (d3.keeps kp₁) hGR hTl hsg (by omega) hok fun h₂ tk₂ p' R' ch₂ h1 h2 fr₂ ok₂ e1 e2 e3 => ?_
    exact ⟨h₂, tk₂, T.length - p', rfl, ch₂, by omega, p', R', fr₂, h2, ok₂, e1, e2, e3, rfl⟩
  · rw [decide_eq_false_iff_not, hlen] at hc
    have hpe : p = T.length := by omega
    subst hpe
    exact k h₁ tk₁ R (ch.after kp₁) (fr.kp kp₁) hok

/-- came = '' -/
theorem law_s6 {v₀ : Option Value} (hn : HasNs s.heap L) (c4 : s.heap.IsCell (L + 1 + 1 + 1 + 1) v₀)
    (k : ∀ h' tk t, Ch L [] [L + 1 + 1 + 1 + 1] s.heap h' → h'.IsCell (L + 1 + 1 + 1 + 1) (some (.str (S []) t)) → Q .next { s with heap := h', toks := tk }) :
    wpAny (model prog w) A (exec (st3 6) (lenv L fa cd)) Q NoE s := by
  refine st_assign_cell (c := L + 1 + 1 + 1 + 1) (P := isS (S [])) hn ev_str (by rfl) c4 (cell_ne_ns c4 hn) fun v h₁ h₂ tk hv kp ch hc => ?_
  obtain ⟨t, rfl⟩ := hv
  exact k h₂ tk t (Ch.before kp ch) hc

/-- for spot, size, sign in row: .. -/
theorem law_s7 {aG aR : Addr} {T : List Nat} {sg : List (List Nat)} {R : List Row} {t4 : Tok} {v5 : Option Value} (hh : A.handled = none) (B : Kit3 K C fI fC fG fH fB fS fM base)
    (kb : Kp base s.heap) (lf : base.get? L = none) (f4 : base.get? (L + 1 + 1 + 1 + 1) = none) (f5 : base.get? (L + 1 + 1 + 1 + 1 + 1) = none)
    (f : Fr3 L aG aR T sg T.length R s.heap) (hok : RowsOk T R T.length) (c4 : s.heap.IsCell (L + 1 + 1 + 1 + 1) (some (.str (S []) t4))) (c5 : s.heap.IsCell (L + 1 + 1 + 1 + 1 + 1) v5) (hTl : T.length ≤ 14)
    (k : ∀ h' tk t, Ch L ["spot", "size", "sign"] [L + 1 + 1 + 1 + 1, L + 1 + 1 + 1 + 1 + 1] s.heap h' → h'.IsCell (L + 1 + 1 + 1 + 1) (some (.str (S T) t)) → Q .next { s with heap := h', toks := tk }) :
    wpAny (model prog w) A (exec (st3 7) (lenv L fa cd)) Q NoE s := by
  obtain ⟨vs, hpl, hvl, hrow⟩ := id f.hR
  obtain ⟨pl, hpl0, hplR, hstep⟩ := hok
  obtain ⟨tT, vT⟩ := f.vT
  have l4 := cell_ne_ns c4 f.n
  have l5 := cell_ne_ns c5 f.n
  have d45 : L + 1 + 1 + 1 + 1 ≠ L + 1 + 1 + 1 + 1 + 1 := by show (_ : Nat) ≠ _; omega
  have hold : ∀ b ∈ [L + 1 + 1 + 1 + 1, L + 1 + 1 + 1 + 1 + 1], ∃ o, s.heap.get? b = some o := by
    intro b hb
    rcases List.mem_cons.mp hb with rfl | hb
    · obtain ⟨o, e, _⟩ := c4; exact ⟨o, e⟩
    · rw [List.mem_singleton.mp hb]; obtain ⟨o, e, _⟩ := c5; exact ⟨o, e⟩
  have wf : ∀ b ∈ [L + 1 + 1 + 1 + 1, L + 1 + 1 + 1 + 1 + 1], base.get? b = none := by
    intro b hb
    rcases List.mem_cons.mp hb with rfl | hb
    · exact f4
    · rw [List.mem_singleton.mp hb]; exact f5
  refine for_row (xs := ["spot", "size", "sign"]) (W := [L + 1 + 1 + 1 + 1, L + 1 + 1 + 1 + 1 + 1]) (fun i h => (∃ t, h.IsCell (L + 1 + 1 + 1 + 1) (some (.str (S (T.take (pl i))) t))) ∧ ∃ v, h.IsCell (L + 1 + 1 + 1 + 1 + 1) v) hh f.n (ev_local f.vR) hpl.isList
    ⟨?_, plain_ne_ns hpl f.n⟩ hold ?_ (fun h kp => ⟨⟨t4, ?_⟩, _, c5.keeps kp⟩) (fun i h h' ⟨⟨t, a⟩, v, b⟩ hk => ⟨⟨t, cell_at a fun o e => hk _ o (hold _ (by simp)) e⟩, v, cell_at b fun o e => hk _ o (hold _ (by simp)) e⟩) ?_ ?_
  · intro hb
    rcases List.mem_cons.mp hb with q | hb
    · exact list_ne_cell hpl.isList c4 q
    · exact list_ne_cell hpl.isList c5 (List.mem_singleton.mp hb)
  · intro i v hi
    have hlt : i < R.length := by have := (Array.getElem?_eq_some_iff.mp hi).1; simp at this; omega
    obtain ⟨T', ta, tb, tc, h1, h2⟩ := hrow i R[i] (List.getElem?_eq_getElem hlt)
    have hv : v = .ref T' := by
      have hi' : vs[i]? = some v := by simpa using hi
      rw [h1] at hi'; exact (Option.some.inj hi').symm
    refine ⟨T', _, _, _, hv, h2, ?_, fun q => noTup_ns f.n _ (q ▸ h2)⟩
    intro hb
    rcases List.mem_cons.mp hb with q | hb
    · exact noTup_cell c4 _ (q ▸ h2)
    · exact noTup_cell c5 _ (List.mem_singleton.mp hb ▸ h2)
  · rw [hpl0]; simpa using c4.keeps kp
  · rintro i T' a b c h tk hi hTt ch ⟨⟨t, hc4⟩, v, hc5⟩
    have hlt : i < R.length := by have := (Array.getElem?_eq_some_iff.mp hi).1; simp at this; omega
    obtain ⟨T2, ta, tb, tc, h1, h2⟩ := hrow i R[i] (List.getElem?_eq_getElem hlt)
    have hst := hstep i R[i] (List.getElem?_eq_getElem hlt)
    have heq : T2 = T' := by
      have hi' : vs[i]? = some (.ref T') := by simpa using hi
      rw [h1] at hi'; cases hi'; rfl
    subst heq
    generalize R[i] = r at *
    obtain ⟨spot, size, sign⟩ := r
    have habc : a = .int (spot : Int) ta ∧ b = .int (size : Int) tb ∧ c = .str (S sign) tc := by
      obtain ⟨o, ho, _, n, hd⟩ := hTt
      obtain ⟨o', ho', _, n', hd'⟩ := h2
      rw [ho] at ho'; cases ho'; rw [hd] at hd'
      have e := congrArg (fun d => match d with | Data.seq items _ => items.toList | _ => []) hd'
      simp at e
      exact ⟨e.1, e.2.1, e.2.2⟩
    obtain ⟨rfl, rfl, rfl⟩ := habc
    have hP : pl i ≤ T.length := by have := hst.lt; have := hst.le; omega
    refine assign_local ch.ns fun h3 tk3 ch3 var3 => ?_
    refine assign_local ch3.ns fun h4 tk4 ch4 var4 => ?_
    refine assign_local ch4.ns fun h5 tk5 ch5 var5 => ?_
    have C5 : Ch L ["spot", "size", "sign"] [] h h5 := ((ch3.mono (by simp) (by simp)).trans (ch4.mono (by simp) (by simp))).trans (ch5.mono (by simp) (by simp))
    have C5' : Ch L ["spot", "size", "sign"] [L + 1 + 1 + 1 + 1, L + 1 + 1 + 1 + 1 + 1] s.heap h5 := ch.trans (C5.mono (by simp) (by simp))
    have vspot : Var h5 L "spot" (.int (spot : Int) ta) := ch5.lk _ _ (by decide) (ch4.lk _ _ (by decide) var3)
    have vsize : Var h5 L "size" (.int (size : Int) tb) := ch5.lk _ _ (by decide) var4
    have c4₅ := cell_at hc4 fun o e => C5.kb _ o l4 (by simp) e
    have c5₅ := cell_at hc5 fun o e => C5.kb _ o l5 (by simp) e
    have kb5 : Kp base h5 := C5'.base kb lf wf
    have vT5 := C5'.lk _ _ (by decide) vT
    have g5 := B.len.kp kb5
    have htl : ((S (T.take (pl i))).length : Int) = (pl i : Int) := by rw [S_length, List.length_take]; omega
    -- rest = text[len(came):]
    refine wpAny_execs_cons (st_assign_cell (s := { s with heap := h5, toks := tk5 }) (c := L + 1 + 1 + 1 + 1 + 1) (P := isS (S (T.drop (pl i)))) C5.ns ?_ (by rfl) c5₅ l5 fun v h6 h7 tk7 hv kp6 ch7 c5₇ => ?_)
    · rw [← slice_from]
      refine ev_slice_str (l := some (pl i : Int)) (u := none) (ev_s (ev_local vT5)) ?_ trivial (by rw [S_length, sizeLine_eq]; omega)
      rw [← htl]
      exact ev_len_str (ev_builtin ⟨g5.g, g5.b⟩) (ev_s (ev_cell (c := L + 1 + 1 + 1 + 1) (by rfl) c4₅)) (by rw [S_length, List.length_take]; omega)
    obtain ⟨t7, rfl⟩ := hv
    have C7 : Ch L ["spot", "size", "sign"] [L + 1 + 1 + 1 + 1, L + 1 + 1 + 1 + 1 + 1] h h7 := (C5.mono (by simp) (by simp)).trans (Ch.before kp6 (ch7.mono (by simp) (by simp)))
    have C7' := ch.trans C7
    have c4₇ := cell_at (c4₅.keeps kp6) fun o e => ch7.kb _ o l4 (by rw [List.mem_singleton]; exact d45) e
    have kb7 : Kp base h7 := C7'.base kb lf wf
    have gl7 := B.len.kp kb7
    have gm7 := B.max.kp kb7
    have gr7 := B.range.kp kb7
    have vsize7 : Var h7 L "size" (.int (size : Int) tb) := ch7.lk _ _ (by simp) (vsize.kp kp6)
    have vspot7 : Var h7 L "spot" (.int (spot : Int) ta) := ch7.lk _ _ (by simp) (vspot.kp kp6)
    have vsign7 : Var h7 L "sign" (.str (S sign) tc) := ch7.lk _ _ (by simp) (var5.kp kp6)
    have hcount : (((S (T.drop (pl i))).length : Int) + 1).toNat = T.length - pl i + 1 := by rw [S_length, List.length_drop]; omega
    have hmax := hst.max
    -- if size != max([..]): return False
    refine wpAny_execs_cons ?_
    refine st_if (s := { s with heap := h7, toks := tk7 }) (c := ((size : Int) != (size : Int))) (ts_cmp (ev_i (ev_local vsize7)) (ev_call1 (S := isI (size : Int)) (ev_builtin ⟨gm7.g, gm7.b⟩)
      (ev_comp (cl := [("rest", L + 1 + 1 + 1 + 1 + 1), ("came", L + 1 + 1 + 1 + 1)]) (n := T.length - pl i + 1) (P := fun i v => ∃ t, v = .int (i : Int) t) (src := []) (fun v => match v with | .int n _ => decide ((T.drop (pl i)).take n.toNat <:+: T.take (pl i)) | _ => false) (fun v y => y = v) (by rfl) (by decide) rfl (by decide) (by rfl)
        ?_ (by rw [sizeLine_eq]; omega) (fun C j v s₃ hP hV hK => ?_) (fun C j v s₃ hP hpv hV hK => ev_local hV)) ?_) ci_ne) (fun hc => ?_) (fun hc h8 tk8 kp8 => ?_)
    · rw [← hcount]
      exact src_range1 hh (ev_builtin ⟨gr7.g, gr7.b⟩) (ev_add (ev_len_str (ev_builtin ⟨gl7.g, gl7.b⟩) (ev_s (ev_cell (c := L + 1 + 1 + 1 + 1 + 1) (by rfl) c5₇)) (by rw [S_length, List.length_drop]; omega)) ev_int) (by rw [S_length]; omega) (by rw [S_length, List.length_drop]; omega)
    · obtain ⟨tj, rfl⟩ := hP
      refine tests_one ?_
      show Ts prog w A _ s₃ _ (decide ((T.drop (pl i)).take ((j : Int)).toNat <:+: T.take (pl i)))
      rw [Int.toNat_natCast, ← contains_S, ← slice_to (T.drop (pl i)) j]
      exact ts_cmp (ev_slice_str (l := none) (u := some (j : Int)) (ev_s (ev_cell (c := L + 1 + 1 + 1 + 1 + 1) (by rfl) (c5₇.keeps hK))) trivial (ev_i (ev_local hV)) (by rw [S_length, List.length_drop, sizeLine_eq]; omega)) (ev_s (ev_cell (c := L + 1 + 1 + 1 + 1) (by rfl) (c4₇.keeps hK))) ci_in_str
    · rintro v h8 hv s₃ rfl k₃
      obtain ⟨D, rfl, ⟨vD, pD, iD⟩, _⟩ := comp_range (g := fun n => decide ((T.drop (pl i)).take n <:+: T.take (pl i))) (fun i t => by simp) hv
      refine call_max_list hh pD.isList iD ?_ ?_
      · refine List.mem_map.mpr ⟨size, List.mem_filter.mpr ⟨List.mem_range.mpr ?_, ?_⟩, rfl⟩
        · have := hmax.le; simp only at this; omega
        · exact decide_eq_true hmax.inn
      · intro b hb
        obtain ⟨n, hn, rfl⟩ := List.mem_map.mp hb
        obtain ⟨h1, h2⟩ := List.mem_filter.mp hn
        have h1' := List.mem_range.mp h1
        have := hmax.max n (by omega) (of_decide_eq_true h2)
        simp only at this; omega
    · simp at hc
    -- came = came + came[spot:spot + size] + sign
    refine wpAny_execs_nil ?_
    have hsl : ((T.take (pl i)).drop spot).take size = ((T.take (pl i)).drop spot).take (spot + size - spot) := by congr 1; omega
    have hl1 : ((((T.take (pl i)).drop spot).take size).length) ≤ 14 := by rw [List.length_take, List.length_drop, List.length_take]; omega
    have hl0 : (T.take (pl i)).length ≤ 14 := by rw [List.length_take]; omega
    have heq := hst.eq
    have hl2 : sign.length ≤ 14 := by
      have := congrArg List.length heq
      simp only [List.length_append] at this
      rw [List.length_take (i := pl (i + 1))] at this
      omega
    refine wpAny_execs_cons (st_assign_cell (s := { s with heap := h8, toks := tk8 }) (c := L + 1 + 1 + 1 + 1) (P := isS (S (T.take (pl (i + 1))))) (HasNs.kp C7.ns kp8) ?_ (by rfl) (c4₇.keeps kp8) l4 fun v h9 h10 tk10 hv kp9 ch10 c4₁₀ => ?_)
    · rw [← heq, ← S_append, ← S_append]
      refine ev_cat (ev_cat (ev_s (ev_cell (c := L + 1 + 1 + 1 + 1) (by rfl) (c4₇.keeps kp8))) ?_ ?_) (ev_s (ev_local (vsign7.kp kp8))) ?_
      · show Ev _ _ _ _ _ _ (isS (S (((T.take (pl i)).drop spot).take size)))
        rw [hsl, ← slice_between]
        refine ev_slice_str (l := some (spot : Int)) (u := some ((spot + size : Nat) : Int)) (ev_s (ev_cell (c := L + 1 + 1 + 1 + 1) (by rfl) (c4₇.keeps kp8))) (ev_i (ev_local (vspot7.kp kp8))) ?_ (by rw [S_length, sizeLine_eq]; omega)
        have e1 : ((spot + size : Nat) : Int) = (spot : Int) + (size : Int) := by omega
        rw [e1]
        exact ev_add (ev_i (ev_local (vspot7.kp kp8))) (ev_i (ev_local (vsize7.kp kp8)))
      · rw [S_length, S_length, sizeLine_eq]; simp only; omega
      · rw [S_append, S_length, S_length, List.length_append, sizeLine_eq]; simp only; omega
    obtain ⟨t10, rfl⟩ := hv
    have c5₁₀ := cell_at ((c5₇.keeps kp8).keeps kp9) fun o e => ch10.kb _ o l5 (by rw [List.mem_singleton]; exact Ne.symm d45) e
    exact wpAny_execs_nil ⟨h10, tk10, rfl, C7.trans (Ch.before (kp8.trans kp9) (ch10.mono (by simp) (by simp))), ⟨t10, c4₁₀⟩, _, c5₁₀⟩
  · rintro h tk ch ⟨⟨t, hc4⟩, v, hc5⟩
    have e : vs.toArray.size = R.length := by simpa using hvl
    rw [e, hplR, List.take_length] at hc4
    exact k h tk t ch hc4

/-- return came == text -/
theorem law_s8 {T : List Nat} {tT t4 : Tok} (vT : Var s.heap L "text" (.str (S T) tT)) (c4 : s.heap.IsCell (L + 1 + 1 + 1 + 1) (some (.str (S T) t4)))
    (k : ∀ h' tk, Kp s.heap h' → Q (.ret (.bool true)) { s with heap := h', toks := tk }) :
    wpAny (model prog w) A (exec (st3 8) (lenv L fa cd)) Q NoE s := by
  refine st_return (P := isB (S T == S T)) (ev_cmp (ev_s (ev_cell (c := L + 1 + 1 + 1 + 1) (by rfl) c4)) (ev_s (ev_local vT)) ci_eqs) fun v h' tk hv kp => ?_
  have : v = .bool true := by rw [hv]; simp
  rw [this]
  exact k h' tk kp
end
end Mine
end
-- text C13
section
open PySem PySem.W PyProof.Rows
set_option Elab.async false
set_option linter.unusedVariables false
set_option maxRecDepth 100000
namespace Mine

/-- the five cells of the frame -/
def Cells (L : Addr) (h : Heap) : Prop := (∃ v, h.IsCell (L + 1) v) ∧ (∃ v, h.IsCell (L + 1 + 1) v) ∧ (∃ v, h.IsCell (L + 1 + 1 + 1) v) ∧ (∃ v, h.IsCell (L + 1 + 1 + 1 + 1) v) ∧ ∃ v, h.IsCell (L + 1 + 1 + 1 + 1 + 1) v
theorem Cells.step {L : Addr} {h h' : Heap} {xs : List PySem.Str} {W : List Addr} (c : Cells L h) (n : HasNs h L) (ch : Ch L xs W h h') (hW : ∀ b ∈ W, ∃ items, h.IsList b items) : Cells L h' := by
  have mv : ∀ a, (∃ v, h.IsCell a v) → ∃ v, h'.IsCell a v := fun a ⟨v, x⟩ => ⟨v, cell_at x fun o e => ch.kb _ o (cell_ne_ns x n) (fun q => let ⟨items, y⟩ := hW _ q; list_ne_cell y x rfl) e⟩
  obtain ⟨c1, c2, c3, c4, c5⟩ := c
  exact ⟨mv _ c1, mv _ c2, mv _ c3, mv _ c4, mv _ c5⟩

theorem law_main {prog : Program} {w : World} {A : Around} {s : Shared} {base : Heap} {L fa aS : Addr} {cd : Value} {Q : Flow → Shared → Prop} {E : Value → Shared → Prop} {K : Frag} {C fI fC fG fH fB fS fM : Addr} {vs : List Value} {ns : List Int} (hbL : base.objs.size ≤ L)
    (hh : A.handled = none) (hroom : A.depth + 12 < recursionLimit) (hu : A.units < cLine) (B : Kit3 K C fI fC fG fH fB fS fM base)
    (kb : Kp base s.heap) (lf : base.get? L = none) (f1 : base.get? (L + 1) = none) (f2 : base.get? (L + 1 + 1) = none) (f3 : base.get? (L + 1 + 1 + 1) = none) (f4 : base.get? (L + 1 + 1 + 1 + 1) = none) (f5 : base.get? (L + 1 + 1 + 1 + 1 + 1) = none)
    (n : HasNs s.heap L) (cs : Cells L s.heap)
    (vS : Var s.heap L "script" (.ref aS)) (hl : s.heap.IsList aS vs.toArray) (hi : IntsAre vs ns) (hz : vs.length ≤ sizeLine)
    (k : ∀ h' tk, Kp base h' → Q (.ret (.bool true)) { s with heap := h', toks := tk }) :
    wpAny (model prog w) A (execs (bodyOf lawF) (lenv L fa cd)) Q E s := by
  refine wpAny_mono (E := NoE) (Q := Q) ?_ (fun _ _ h => h) fun _ _ x => x.elim
  have eb : bodyOf lawF = [st3 0, st3 1, st3 2, st3 3, st3 4, st3 5, st3 6, st3 7, st3 8] := rfl
  rw [eb]
  clear eb
  obtain ⟨cdS, nS⟩ := B.nS
  -- text
  refine wpAny_execs_cons (law_s0 hh (by omega) (B.lim.keeps kb) n vS hl hi hz (B.chr.kp kb) (B.gS.kp kb) (nS.kp kb) fun h0 tk0 T t0 ch0 hTl vT => ?_)
  have kb0 : Kp base h0 := ch0.base kb lf (by simp)
  have cs0 := cs.step n ch0 (by simp)
  -- signs
  refine wpAny_execs_cons (law_s1 (s := { s with heap := h0, toks := tk0 }) ch0.ns fun aG h1 tk1 ch1 vG lG f_aG => ?_)
  have kb1 : Kp base h1 := ch1.base kb0 lf (by simp)
  have cs1 := cs0.step ch0.ns ch1 (by simp)
  have vT1 := ch1.lk _ _ (by decide) vT
  have b_aG : base.get? aG = none := none_of_kp kb0 f_aG
  refine wpAny_execs_cons (law_s2 (s := { s with heap := h1, toks := tk1 }) hh kb1 lf b_aG B.sorted ch1.ns vT1 hTl vG lG fun h2 tk2 sg ch2 lG2 hsg => ?_)
  have kb2 : Kp base h2 := ch2.base kb1 lf (by simpa using b_aG)
  have cs2 := cs1.step ch1.ns ch2 (by intro b hb; rw [List.mem_singleton.mp hb]; obtain ⟨_, p, _⟩ := lG; exact ⟨_, p.isList⟩)
  have vT2 := ch2.lk _ _ (by decide) vT1
  have vG2 := ch2.lk _ _ (by decide) vG
  -- row
  refine wpAny_execs_cons (law_s3 (s := { s with heap := h2, toks := tk2 }) ch2.ns fun aR h3 tk3 ch3 vR lR f_aR => ?_)
  have kb3 : Kp base h3 := ch3.base kb2 lf (by simp)
  have cs3 := cs2.step ch2.ns ch3 (by simp)
  have vT3 := ch3.lk _ _ (by decide) vT2
  have vG3 := ch3.lk _ _ (by decide) vG2
  have lG3 := lG2.at fun o e => ch3.kb _ o (lG2.ne_ns ch2.ns) (by simp) e
  have b_aR : base.get? aR = none := none_of_kp kb2 f_aR
  have hGR : aG ≠ aR := by
    rintro rfl
    obtain ⟨_, ⟨_, e⟩, _⟩ := lG2
    rw [f_aR] at e; cases e
  -- place
  refine wpAny_execs_cons (law_s4 (s := { s with heap := h3, toks := tk3 }) ch3.ns fun h4 tk4 tp ch4 vP => ?_)
  have kb4 : Kp base h4 := ch4.base kb3 lf (by simp)
  have cs4 := cs3.step ch3.ns ch4 (by simp)
  have lR4 := lR.at fun o e => ch4.kb _ o (plain_ne_ns lR ch3.ns) (by simp) e
  have f : Fr3 L aG aR T sg 0 [] h4 := ⟨ch4.ns, ⟨_, ch4.lk _ _ (by decide) vT3⟩, ch4.lk _ _ (by decide) vG3, ch4.lk _ _ (by decide) vR, ⟨tp, vP⟩, lG3.at fun o e => ch4.kb _ o (lG3.ne_ns ch3.ns) (by simp) e, [], lR4, rfl, by simp⟩
  obtain ⟨⟨v1, c1⟩, ⟨v2, c2⟩, ⟨v3, c3⟩, ⟨v4, c4⟩, ⟨v5, c5⟩⟩ := cs4
  -- the copies
  refine wpAny_execs_cons (law_s5 hbL (s := { s with heap := h4, toks := tk4 }) hh hroom hu B kb4 lf f1 f2 f3 b_aR f c1 c2 c3 hGR hTl hsg fun h5 tk5 R ch5 fr5 hok => ?_)
  have wf5 : ∀ b ∈ [L + 1, L + 1 + 1, L + 1 + 1 + 1, aR], base.get? b = none := by
    intro b hb
    simp only [List.mem_cons, List.not_mem_nil, or_false] at hb
    rcases hb with rfl | rfl | rfl | rfl <;> assumption
  have kb5 : Kp base h5 := ch5.base kb4 lf wf5
  have n4 : L + 1 + 1 + 1 + 1 ∉ [L + 1, L + 1 + 1, L + 1 + 1 + 1, aR] := by
    intro hb
    simp only [List.mem_cons, List.not_mem_nil, or_false] at hb
    rcases hb with q | q | q | q
    · revert q; show (_ : Nat) = _ → False; omega
    · revert q; show (_ : Nat) = _ → False; omega
    · revert q; show (_ : Nat) = _ → False; omega
    · exact list_ne_cell lR4.isList c4 q.symm
  have n5 : L + 1 + 1 + 1 + 1 + 1 ∉ [L + 1, L + 1 + 1, L + 1 + 1 + 1, aR] := by
    intro hb
    simp only [List.mem_cons, List.not_mem_nil, or_false] at hb
    rcases hb with q | q | q | q
    · revert q; show (_ : Nat) = _ → False; omega
    · revert q; show (_ : Nat) = _ → False; omega
    · revert q; show (_ : Nat) = _ → False; omega
    · exact list_ne_cell lR4.isList c5 q.symm
  have c4₅ := cell_at c4 fun o e => ch5.kb _ o (cell_ne_ns c4 ch4.ns) n4 e
  have c5₅ := cell_at c5 fun o e => ch5.kb _ o (cell_ne_ns c5 ch4.ns) n5 e
  -- came
  refine wpAny_execs_cons (law_s6 (s := { s with heap := h5, toks := tk5 }) fr5.n c4₅ fun h6 tk6 t6 ch6 c4₆ => ?_)
  have fr6 := fr5.step ch6 (by decide) (by intro b hb; rw [List.mem_singleton.mp hb]; exact ⟨_, c4₅⟩)
  have kb6 : Kp base h6 := ch6.base kb5 lf (by simpa using f4)
  have c5₆ := cell_at c5₅ fun o e => ch6.kb _ o (cell_ne_ns c5₅ fr5.n) (by rw [List.mem_singleton]; show (_ : Nat) ≠ _; omega) e
  -- the copies read
  refine wpAny_execs_cons (law_s7 (s := { s with heap := h6, toks := tk6 }) hh B kb6 lf f4 f5 fr6 hok c4₆ c5₆ hTl fun h7 tk7 t7 ch7 c4₇ => ?_)
  obtain ⟨tT, vT6⟩ := fr6.vT
  have kb7 : Kp base h7 := ch7.base kb6 lf (by
    intro b hb
    rcases List.mem_cons.mp hb with rfl | hb
    · exact f4
    · rw [List.mem_singleton.mp hb]; exact f5)
  refine wpAny_execs_cons (law_s8 (s := { s with heap := h7, toks := tk7 }) (ch7.lk _ _ (by decide) vT6) c4₇ fun h8 tk8 kp8 => ?_)
  exact k h8 tk8 (kb7.trans kp8)
end Mine
end
-- text Top_03
section
open PySem PySem.W PyProof.Rows
set_option Elab.async false
set_option maxRecDepth 100000
set_option maxHeartbeats 8000000
namespace Mine
open_top hd for PySem.Challenge.rw_qy0001_03
end Mine
end
-- text N0
section
open PySem PySem.W PyProof.Rows
set_option Elab.async false
set_option linter.unusedVariables false
set_option maxRecDepth 100000
set_option maxHeartbeats 8000000
namespace Mine
theorem fill : Challenge.rw_qy0001_03 = Challenge.rw_qy0001_03 ∧ hd.heap_39 = hd.heap_39 := by k_fill; exact ⟨rfl, rfl⟩
theorem fnAt_K {K : Frag} {h : Heap} {f : Addr} {name qual : PySem.Str} {params : Arguments} {body : List Stmt} {scope : Scope} {dV kV doc pm cdv ct oc : Value} {an od : Option Addr} {osl : Array (Option Value)} (X : K.In h)
    (ho : K.lookup f = some ⟨oc, od, .func (fnOf name qual params body scope dV kV doc pm an cdv ct), osl⟩) (hcd : codeIn K cdv qual = true) : FnAt h f qual params body scope dV cdv := ⟨_, name, kV, doc, pm, an, ct, X _ _ ho, rfl, codeRec_of X hcd⟩
theorem trieK (p : Params) : TrieK (hd.heap_39 p) 81 43 50 64 := by
  constructor <;> k_is
theorem fnI {p : Params} {h : Heap} (X : (hd.heap_39 p).In h) : ∃ cd, FnAt h 43 "Trie.__init__" (parsOf (meth3 0)) (bodyOf (meth3 0)) (scopOf (meth3 0)) .none cd := ⟨_, fnAt_K X (by with_unfolding_all rfl) (by k_is)⟩
theorem fnC {p : Params} {h : Heap} (X : (hd.heap_39 p).In h) : ∃ cd, FnAt h 50 "Trie.__contains__" (parsOf (meth3 1)) (bodyOf (meth3 1)) (scopOf (meth3 1)) .none cd := ⟨_, fnAt_K X (by with_unfolding_all rfl) (by k_is)⟩
theorem fnG {p : Params} {h : Heap} (X : (hd.heap_39 p).In h) : ∃ cd, FnAt h 64 "Trie.__getitem__" (parsOf (meth3 3)) (bodyOf (meth3 3)) (scopOf (meth3 3)) .none cd := ⟨_, fnAt_K X (by with_unfolding_all rfl) (by k_is)⟩
theorem fnH {p : Params} {h : Heap} (X : (hd.heap_39 p).In h) : ∃ cd, FnAt h 71 "Trie.has_keys_with_prefix" (parsOf (meth3 4)) (bodyOf (meth3 4)) (scopOf (meth3 4)) .none cd := ⟨_, fnAt_K X (by with_unfolding_all rfl) (by k_is)⟩
theorem fnS {p : Params} {h : Heap} (X : (hd.heap_39 p).In h) : ∃ cd, FnAt h 92 "_law_sign" (parsOf signF) (bodyOf signF) (scopOf signF) .none cd := ⟨_, fnAt_K X (by with_unfolding_all rfl) (by k_is)⟩
theorem fnM {p : Params} {h : Heap} (X : (hd.heap_39 p).In h) : ∃ cd, FnAt h 99 "_law_trie" (parsOf mkF) (bodyOf mkF) (scopOf mkF) .none cd := ⟨_, fnAt_K X (by with_unfolding_all rfl) (by k_is)⟩
theorem fnB {p : Params} {h : Heap} (X : (hd.heap_39 p).In h) : ∃ TD cd oD da db nD, FnAt h 29 "bisect_left" (parsOf bisF) (bodyOf bisF) (scopOf bisF) (.ref TD) cd ∧ h.get? TD = some oD ∧ oD.data = .seq #[da, db] nD := by
  have e : (hd.heap_39 p).lookup 22 = some { cls := .type "tuple", data := .seq #[.int 0 196, .none] } := by with_unfolding_all rfl
  exact ⟨22, _, _, _, _, _, fnAt_K X (by with_unfolding_all rfl) (by k_is), X _ _ e, rfl⟩
theorem biG_of {K : Frag} {h : Heap} {p : Program} {loose : List PySem.Str} {mean : ExcName → Option Value} {mg mb : PySem.Str → Option Value} {x : PySem.Str} {v : Value} (X : K.In h) (T : Top p loose mean mg mb h) (e : nsIn K mainGlobals x = some none) (hv : bootBuiltins x = some v) (hn : x ≠ "__name__") : BiG h x v :=
  ⟨⟨mg, T.g, mg_none_of X T.g e⟩, ⟨mb, T.b, (T.builtins x hn).trans hv⟩⟩
theorem var_of {K : Frag} {h : Heap} {p : Program} {loose : List PySem.Str} {mean : ExcName → Option Value} {mg mb : PySem.Str → Option Value} {x : PySem.Str} {v : Value} (X : K.In h) (T : Top p loose mean mg mb h) (e : nsIn K mainGlobals x = some (some v)) : Var h mainGlobals x v := ⟨mg, T.g, mg_of X T.g e⟩
theorem b_range : bootBuiltins "range" = some (.type "range") := by decide +kernel
theorem b_max : bootBuiltins "max" = some (.builtin "max") := by decide +kernel
theorem b_chr : bootBuiltins "chr" = some (.builtin "chr") := by decide +kernel
theorem kit3 {p : Params} {h : Heap} {pr : Program} {loose : List PySem.Str} {mean : ExcName → Option Value} {mg mb : PySem.Str → Option Value} (KX : (hd.heap_39 p).In h) (T : Top pr loose mean mg mb h) : Kit3 (hd.heap_39 p) 81 43 50 64 71 29 92 99 h where
  TK := trieK p
  X := KX
  lim := T.nolimit
  len := biG_of KX T (by k_is) bootS_len (by decide)
  range := biG_of KX T (by k_is) b_range (by decide)
  max := biG_of KX T (by k_is) b_max (by decide)
  sorted := biG_of KX T (by k_is) boot_sorted (by decide)
  chr := biG_of KX T (by k_is) b_chr (by decide)
  gT := var_of KX T (by k_is)
  gB := var_of KX T (by k_is)
  gS := var_of KX T (by k_is)
  gM := var_of KX T (by k_is)
  mg := by obtain ⟨o, _, _, ho, _⟩ := T.g; exact ⟨o, ho⟩
  gH := by k_is
  mH := by k_is
  iH := by k_is
  nI := fnI KX
  nC := fnC KX
  nG := fnG KX
  nH := fnH KX
  nS := fnS KX
  nM := fnM KX
  nB := fnB KX
end Mine
end
-- text N1
section
open PySem PySem.W PyProof.Rows
set_option Elab.async false
set_option linter.unusedVariables false
set_option maxRecDepth 100000
set_option maxHeartbeats 8000000
namespace Mine
theorem good_true {c : ClaimW} {cl : PySem.Str → Option Addr} {mean : ExcName → Option Value} {args : List WData} {s₁ : Shared} {h : Heap} {g : Array GenState} {d : Drawn} {t : Nat} (kb : Kp s₁.heap h) (hg : g = #[]) (hr : ∀ cls, c.raises args cls = false) (hp : c.post args (.bool true) args = true) :
    GoodW c cl mean args s₁ (.ok (.ret (.bool true))) ⟨h, g, d, t, s₁.os⟩ :=
  ⟨.inl ⟨_, _, [], rfl, hr, ReadsW.bool true, hp, fun _ => ⟨List.nodup_nil, fun _ hm => (nomatch hm)⟩⟩, kb, rfl, hg⟩
theorem cell_of {h : Heap} {c : Addr} {o : Obj} {v : Option Value} (e : h.get? c = some o) (hd : o.data = .cell v) : h.IsCell c v := ⟨o, e, hd⟩

theorem depth_ok (env : Env) : (callerA.deeper env).depth + 12 < recursionLimit := by
  show callerA.depth + 1 + 12 < recursionLimit
  decide
theorem units_ok (env : Env) : (callerA.deeper env).units < cLine := by
  rw [units_deeper, units_caller, cLine_is]
  omega
theorem holds : PySem.Challenge.rw_qy0001_03.Holds := hd (by
  k_go0
  rename_i w s₀ s₁ mg mb G Y fa o pm doc ho hg KX X V GL T B TE TW w12 w11 M w10 w9 hcd ns hs hlay0 hL1 hr1 hl2 w7 w6 aS vs w3 hL ra w1 r0 hI hr hcond' hcond K0 hD h₁ tk₁ F wc1 wc2 wc3 wc4 wc5 e1 e2 e3 e4 e5 N0 X0
  have q5 : h₁.get? (s₁.heap.objs.size + 1 + 1 + 1 + 1 + 1) = some wc1 := (N0 _ (.head _)).1
  have q4 : h₁.get? (s₁.heap.objs.size + 1 + 1 + 1 + 1) = some wc2 := (N0 _ (.tail _ (.head _))).1
  have q3 : h₁.get? (s₁.heap.objs.size + 1 + 1 + 1) = some wc3 := (N0 _ (.tail _ (.tail _ (.head _)))).1
  have q2 : h₁.get? (s₁.heap.objs.size + 1 + 1) = some wc4 := (N0 _ (.tail _ (.tail _ (.tail _ (.head _))))).1
  have q1 : h₁.get? (s₁.heap.objs.size + 1) = some wc5 := (N0 _ (.tail _ (.tail _ (.tail _ (.tail _ (.head _)))))).1
  have g1 : s₁.heap.objs.size ≤ s₁.heap.objs.size + 1 := Nat.le_succ _
  have g2 := Nat.le_succ_of_le g1
  have g3 := Nat.le_succ_of_le g2
  have g4 := Nat.le_succ_of_le g3
  have g5 := Nat.le_succ_of_le g4
  refine law_main (base := s₁.heap) (K := hd.heap_39 w.params) (C := 81) (vs := vs) (ns := ns) (Nat.le_refl _) rfl (depth_ok _) (units_ok _) (kit3 KX T) F.keep (get_size_none _) (get_none_ge g1) (get_none_ge g2) (get_none_ge g3) (get_none_ge g4) (get_none_ge g5)
    ⟨_, F.ns⟩ ⟨⟨_, cell_of q1 e5⟩, ⟨_, cell_of q2 e4⟩, ⟨_, cell_of q3 e3⟩, ⟨_, cell_of q4 e2⟩, ⟨_, cell_of q5 e1⟩⟩ ⟨_, F.ns, ?zhv⟩ (hL.at fun o e => F.keep _ _ e) hI ?zhz ?zk
  case zhv => rfl
  case zhz => rw [ints_len hI, sizeLine_eq]; omega
  case zk =>
    intro h' tk kb
    exact good_true kb hg (fun _ => rfl) (by first | (with_unfolding_all rfl) | wrow_post))
end Mine
end
set_option Elab.async false
theorem PySem.Challenge.cw_qy0001_03_holds : PySem.Challenge.rw_qy0001_03.Holds :=
  Mine.holds
