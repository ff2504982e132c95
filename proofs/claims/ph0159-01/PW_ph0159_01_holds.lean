import PyProof.Rows.All
import Wide.All
import OpenK.AllK
import Wide.FinOn
import PySem.Challenge.RW_ph0159_01
set_option maxRecDepth 100000
set_option maxHeartbeats 8000000
set_option Elab.async false
set_option linter.unusedVariables false
set_option linter.unusedSimpArgs false
open PySem PySem.W PyProof.Rows PySem.Calls PySem.Spec
namespace Mine
/-- nothing that stood is changed -/
abbrev Ext (h h' : Heap) : Prop := ∀ b o, h.get? b = some o → h'.get? b = some o
theorem Ext.refl (h : Heap) : Ext h h := fun _ _ e => e
theorem Ext.trans {a b c : Heap} (x : Ext a b) (y : Ext b c) : Ext a c := fun b o e => y b o (x b o e)
theorem Ext.push (h : Heap) (o : Obj) : Ext h (h.push o) := fun _ _ e => Heap.get?_push_of_some _ e
theorem Ext.size {h h' : Heap} (x : Ext h h') : h'.get? h'.objs.size = none ∧ h.get? h'.objs.size = none := by
  have e1 : h'.get? h'.objs.size = none := by
    cases e : h'.get? h'.objs.size with
    | none => rfl
    | some o => exact absurd (Heap.lt_size e) (Nat.lt_irrefl _)
  refine ⟨e1, ?_⟩
  cases e : h.get? h'.objs.size with
  | none => rfl
  | some o => rw [x _ _ e] at e1; cases e1
theorem ne_of_get {h : Heap} {a b : Addr} {o : Obj} (ha : h.get? a = none) (hb : h.get? b = some o) : b ≠ a := fun e => by rw [e, ha] at hb; cases hb

structure Sx (s s' : Shared) : Prop where
  ext : Ext s.heap s'.heap
  os : s'.os = s.os
  gens : ∀ (i : Nat) (x : GenState), s.gens[i]? = some x → s'.gens[i]? = some x
  bare : AllBare s.gens → AllBare s'.gens
theorem Sx.refl (s : Shared) : Sx s s := ⟨Ext.refl _, rfl, fun _ _ e => e, id⟩
theorem Sx.trans {a b c : Shared} (x : Sx a b) (y : Sx b c) : Sx a c := ⟨x.ext.trans y.ext, y.os.trans x.os, fun i g e => y.gens i g (x.gens i g e), fun h => y.bare (x.bare h)⟩
theorem Sx.heap {s : Shared} {h : Heap} {t : Nat} (x : Ext s.heap h) : Sx s { s with heap := h, toks := t } := ⟨x, rfl, fun _ _ e => e, id⟩
theorem Sx.toks {s : Shared} {t : Nat} : Sx s { s with toks := t } := ⟨Ext.refl _, rfl, fun _ _ e => e, id⟩
theorem Sx.keeps {s s' : Shared} (x : Keeps s s') : Sx s s' := by obtain ⟨h, t, rfl, k⟩ := x; exact .heap k

structure RoomA (n : Nat) (A : Around) : Prop where
  hh : A.handled = none
  dp : A.depth + 2 * n < recursionLimit
  un : A.units + 20 * n + 20 < cLine
theorem RoomA.deeper {n : Nat} {A : Around} {env : Env} (x : RoomA (n + 1) A) : RoomA n (A.deeper env) :=
  ⟨x.hh, by have := x.dp; show A.depth + 1 + 2 * n < _; omega, by have := x.un; show A.units + 3 + 20 * n + 20 < _; omega⟩
theorem RoomA.in1 {n : Nat} {A : Around} (x : RoomA (n + 1) A) : RoomA n A.in1 :=
  ⟨x.hh, by have := x.dp; show A.depth + 2 * n < _; omega, by have := x.un; show A.units + 1 + 20 * n + 20 < _; omega⟩
theorem RoomA.less {n m : Nat} {A : Around} (x : RoomA n A) (h : m ≤ n) : RoomA m A :=
  ⟨x.hh, by have := x.dp; omega, by have := x.un; omega⟩
theorem RoomA.depth {n : Nat} {A : Around} (x : RoomA n A) : A.depth < recursionLimit := by have := x.dp; omega
theorem RoomA.units {n : Nat} {A : Around} (x : RoomA n A) : A.units < cLine := by have := x.un; omega

abbrev NoE : Value → Shared → Prop := fun _ _ => False

section
variable {prog : Program} {w : World} {A : Around} {α β : Type}
def T (prog : Program) (w : World) (A : Around) (t : Sem α) (P : α → Shared → Prop) (s : Shared) : Prop :=
  wpAny (model prog w) A t (fun v s' => Sx s s' ∧ P v s') NoE s
theorem T.wp {t : Sem α} {P : α → Shared → Prop} {s : Shared} {Q : α → Shared → Prop} {E : Value → Shared → Prop} (h : T prog w A t P s)
    (hq : ∀ v s', Sx s s' → P v s' → Q v s') : wpAny (model prog w) A t Q E s := wpAny_mono h (fun v s' x => hq v s' x.1 x.2) fun _ _ f => f.elim
theorem T.mono {t : Sem α} {P R : α → Shared → Prop} {s : Shared} (h : T prog w A t P s) (hq : ∀ v s', Sx s s' → P v s' → R v s') : T prog w A t R s :=
  h.wp fun v s' x p => ⟨x, hq v s' x p⟩
theorem T.bind {m : Sem α} {f : α → Sem β} {P : α → Shared → Prop} {R : β → Shared → Prop} {s : Shared} (h : T prog w A m P s)
    (hf : ∀ a s₁, Sx s s₁ → P a s₁ → T prog w A (f a) R s₁) : T prog w A (m >>= f) R s :=
  wpAny_bind (h.wp fun a s₁ x p => (hf a s₁ x p).wp fun b s₂ y q => ⟨x.trans y, q⟩)
theorem T.pure {a : α} {P : α → Shared → Prop} {s : Shared} (h : P a s) : T prog w A (Pure.pure a) P s := wpAny_pure ⟨.refl _, h⟩
/-- what is shown behind a step, seen from the start -/
theorem T.from {t : Sem α} {P : α → Shared → Prop} {s₀ s : Shared} (x : Sx s₀ s) (h : T prog w A t P s) : wpAny (model prog w) A t (fun v s' => Sx s₀ s' ∧ P v s') NoE s :=
  h.wp fun _ _ y p => ⟨x.trans y, p⟩
theorem T.of_in1 {t : Sem α} {P : α → Shared → Prop} {s : Shared} (h : T prog w A.in1 t P s) : T prog w A t P s := wpAny_of_in1 h
end

/-- evaluated anywhere behind s₀ -/
def Ev (prog : Program) (w : World) (A : Around) (s₀ : Shared) (env : Env) (e : PySem.Expr) (P : Value → Shared → Prop) : Prop :=
  ∀ s, Sx s₀ s → T prog w A (eval e env) P s
def EvB (prog : Program) (w : World) (A : Around) (s₀ : Shared) (env : Env) (e : PySem.Expr) (b : Bool) : Prop :=
  ∀ s, Sx s₀ s → T prog w A (isTrue e env (eval e env)) (fun r _ => r = b) s
/-- what a name means, from this heap on -/
def Bnd (prog : Program) (w : World) (A : Around) (env : Env) (h : Heap) (x : Str) (v : Value) : Prop :=
  ∀ (s : Shared) (Q : Value → Shared → Prop) (E : Value → Shared → Prop), Ext h s.heap → Q v s → wpAny (model prog w) A (loadName env x) Q E s
section
variable {prog : Program} {w : World} {A : Around} {s₀ : Shared} {env : Env}
theorem Bnd.mono {h h' : Heap} {x : Str} {v : Value} (b : Bnd prog w A env h x v) (e : Ext h h') : Bnd prog w A env h' x v := fun s Q E y => b s Q E (e.trans y)
theorem Ev.mono {e : PySem.Expr} {P R : Value → Shared → Prop} (h : Ev prog w A s₀ env e P) (hr : ∀ v s, Sx s₀ s → P v s → R v s) : Ev prog w A s₀ env e R :=
  fun s x => (h s x).mono fun v s' y p => hr v s' (x.trans y) p
theorem Ev.at {s₁ : Shared} {e : PySem.Expr} {P : Value → Shared → Prop} (h : Ev prog w A s₀ env e P) (x : Sx s₀ s₁) : Ev prog w A s₁ env e P := fun s y => h s (x.trans y)
theorem EvB.at {s₁ : Shared} {e : PySem.Expr} {b : Bool} (h : EvB prog w A s₀ env e b) (x : Sx s₀ s₁) : EvB prog w A s₁ env e b := fun s y => h s (x.trans y)

/-! ### names -/
theorem Bnd.local {h : Heap} {m : Str → Option Value} {x : Str} {v : Value} (hn : h.Ns env.locals m) (hv : m x = some v) (hk : env.scope.kind = .function) (hl : env.kindOf x = some .local) : Bnd prog w A env h x v :=
  fun _ _ _ e q => wpAny_loadName_local hk hl (hn.keeps e) hv q
/-- a cell that holds v -/
def CellHas (h : Heap) (c : Addr) (v : Value) : Prop := ∃ o, h.get? c = some o ∧ o.data = .cell (some v)
theorem CellHas.mono {h h' : Heap} {c : Addr} {v : Value} (x : CellHas h c v) (e : Ext h h') : CellHas h' c v := let ⟨o, a, b⟩ := x; ⟨o, e _ _ a, b⟩
theorem ev_name {x : Str} {pos : Pos} {v : Value} (h : Bnd prog w A env s₀.heap x v) (hd : (x == ("__debug__" : Str)) = false := by decide) : Ev prog w A s₀ env (.Name x pos) (fun u _ => u = v) :=
  fun s e => wpAny_Name (h s _ _ e.ext ⟨.refl _, rfl⟩) hd
theorem ev_nameP {x : Str} {pos : Pos} {v : Value} {P : Value → Shared → Prop} (h : Bnd prog w A env s₀.heap x v) (hp : ∀ s, Sx s₀ s → P v s) (hd : (x == ("__debug__" : Str)) = false := by decide) : Ev prog w A s₀ env (.Name x pos) P :=
  fun s e => wpAny_Name (h s _ _ e.ext ⟨.refl _, hp s e⟩) hd
end
end Mine
namespace Mine
def IntV (v : Value) (i : Int) : Prop := ∃ t, v = .int i t
def StrV (v : Value) (x : Str) : Prop := ∃ t, v = .str x t
theorem IntV.mk (i : Int) (t : Tok) : IntV (.int i t) i := ⟨t, rfl⟩
theorem StrV.mk (x : Str) (t : Tok) : StrV (.str x t) x := ⟨t, rfl⟩
/-- a list of ints -/
def LI (h : Heap) (v : Value) (ns : List Int) : Prop := ∃ a vs, v = .ref a ∧ h.IsList a vs.toArray ∧ IntsAre vs ns
def LS (h : Heap) (v : Value) (ns : List Str) : Prop := ∃ a vs, v = .ref a ∧ h.IsList a vs.toArray ∧ StrsAre vs ns
theorem isList_ext {h h' : Heap} {a : Addr} {vs : Array Value} (x : h.IsList a vs) (e : Ext h h') : h'.IsList a vs := let ⟨o, a, b⟩ := x; ⟨o, e _ _ a, b⟩
theorem LI.mono {h h' : Heap} {v : Value} {ns : List Int} (x : LI h v ns) (e : Ext h h') : LI h' v ns := let ⟨a, vs, p, q, r⟩ := x; ⟨a, vs, p, isList_ext q e, r⟩
theorem LS.mono {h h' : Heap} {v : Value} {ns : List Str} (x : LS h v ns) (e : Ext h h') : LS h' v ns := let ⟨a, vs, p, q, r⟩ := x; ⟨a, vs, p, isList_ext q e, r⟩

section
variable {prog : Program} {w : World} {A : Around} {s₀ : Shared} {env : Env} {pos : Pos}
theorem ev_int {i : Int} {k : Nat} : Ev prog w A s₀ env (.Constant (.int i) k pos) (fun v _ => IntV v i) := fun s x => wpAny_Constant_int ⟨.toks, .mk ..⟩
theorem ev_str {x : Str} {k : Nat} : Ev prog w A s₀ env (.Constant (.str x) k pos) (fun v _ => StrV v x) := fun s _ => wpAny_Constant_str ⟨.toks, .mk ..⟩
theorem ev_none {k : Nat} : Ev prog w A s₀ env (.Constant .none k pos) (fun v _ => v = .none) := fun s _ => wpAny_Constant_none ⟨.refl _, rfl⟩
theorem ev_bool {b : Bool} {k : Nat} : Ev prog w A s₀ env (.Constant (.bool b) k pos) (fun v _ => v = .bool b) := fun s _ => wpAny_Constant_bool ⟨.refl _, rfl⟩

theorem ev_bin {l r : PySem.Expr} {op : Operator} {P R Z : Value → Shared → Prop} (hl : Ev prog w A s₀ env l P) (hr : Ev prog w A s₀ env r R)
    (hop : ∀ a b s₁ s₂, Sx s₀ s₁ → P a s₁ → Sx s₁ s₂ → R b s₂ → T prog w A (binaryOp op a b) Z s₂) : Ev prog w A s₀ env (.BinOp l op r pos) Z := fun s x =>
  wpAny_BinOp ((hl s x).wp fun a s₁ y p => (hr s₁ (x.trans y)).wp fun b s₂ z q => T.from (y.trans z) (hop a b s₁ s₂ (x.trans y) p z q))
theorem ev_add {l r : PySem.Expr} {a b : Int} (hl : Ev prog w A s₀ env l (fun v _ => IntV v a)) (hr : Ev prog w A s₀ env r (fun v _ => IntV v b)) : Ev prog w A s₀ env (.BinOp l .Add r pos) (fun v _ => IntV v (a + b)) :=
  ev_bin hl hr fun _ _ _ _ _ ⟨_, e⟩ _ ⟨_, e'⟩ => by subst e e'; exact PyProof.Rows.add_int ⟨.toks, .mk ..⟩
theorem ev_sub {l r : PySem.Expr} {a b : Int} (hl : Ev prog w A s₀ env l (fun v _ => IntV v a)) (hr : Ev prog w A s₀ env r (fun v _ => IntV v b)) : Ev prog w A s₀ env (.BinOp l .Sub r pos) (fun v _ => IntV v (a - b)) :=
  ev_bin hl hr fun _ _ _ _ _ ⟨_, e⟩ _ ⟨_, e'⟩ => by subst e e'; exact PyProof.Rows.sub_int ⟨.toks, .mk ..⟩
theorem ev_mod {l r : PySem.Expr} {a b : Int} (hl : Ev prog w A s₀ env l (fun v _ => IntV v a)) (hr : Ev prog w A s₀ env r (fun v _ => IntV v b)) (hb : b ≠ 0) : Ev prog w A s₀ env (.BinOp l .Mod r pos) (fun v _ => IntV v (a.fmod b)) :=
  ev_bin hl hr fun _ _ _ _ _ ⟨_, e⟩ _ ⟨_, e'⟩ => by subst e e'; exact PyProof.Rows.mod_int' hb ⟨.toks, .mk ..⟩
theorem ev_floordiv {l r : PySem.Expr} {a b : Int} (hl : Ev prog w A s₀ env l (fun v _ => IntV v a)) (hr : Ev prog w A s₀ env r (fun v _ => IntV v b)) (hb : b ≠ 0) (hs : b.natAbs < 1073741824) :
    Ev prog w A s₀ env (.BinOp l .FloorDiv r pos) (fun v _ => IntV v (a.fdiv b)) :=
  ev_bin hl hr fun _ _ _ _ _ ⟨_, e⟩ _ ⟨_, e'⟩ => by subst e e'; exact PyProof.Rows.floordiv_int hb ⟨.toks, .mk ..⟩ (Or.inl (PyProof.noPylong_small hs))

/-! comparisons -/
theorem t_truthy {b : Bool} {s : Shared} : T prog w A (truthy (.bool b)) (fun r _ => r = b) s := wpAny_truthy_bool ⟨.refl _, rfl⟩
theorem evb_cmp {l r : PySem.Expr} {op : CmpOp} {P R : Value → Shared → Prop} {b : Bool} (hl : Ev prog w A s₀ env l P) (hr : Ev prog w A s₀ env r R)
    (hop : ∀ a c s₁ s₂, Sx s₀ s₁ → P a s₁ → Sx s₁ s₂ → R c s₂ → T prog w A (compareOp op a c) (fun v _ => v = .bool b) s₂) (hm : behindInMarks op r = false := by with_unfolding_all rfl) :
    EvB prog w A s₀ env (.Compare l [op] [r] pos) b := fun s x =>
  wpAny_isTrue_Compare1 (hm := hm) ((hl s x).wp fun a s₁ y p => (hr s₁ (x.trans y)).wp fun c s₂ z q => (hop a c s₁ s₂ (x.trans y) p z q).wp fun v s₃ u e => by
    subst e; exact T.from ((y.trans z).trans u) t_truthy)
theorem ev_cmp {l r : PySem.Expr} {op : CmpOp} {P R : Value → Shared → Prop} {b : Bool} (hl : Ev prog w A s₀ env l P) (hr : Ev prog w A s₀ env r R)
    (hop : ∀ a c s₁ s₂, Sx s₀ s₁ → P a s₁ → Sx s₁ s₂ → R c s₂ → T prog w A (compareOp op a c) (fun v _ => v = .bool b) s₂) (hm : behindInMarks op r = false := by with_unfolding_all rfl) :
    Ev prog w A s₀ env (.Compare l [op] [r] pos) (fun v _ => v = .bool b) := fun s x =>
  wpAny_Compare1 (hm := hm) ((hl s x).wp fun a s₁ y p => (hr s₁ (x.trans y)).wp fun c s₂ z q => T.from (y.trans z) (hop a c s₁ s₂ (x.trans y) p z q))
theorem t_eq_int {a b : Int} {u v : Value} {s : Shared} (hu : IntV u a) (hv : IntV v b) : T prog w A (compareOp .Eq u v) (fun r _ => r = .bool (a == b)) s := by
  obtain ⟨_, rfl⟩ := hu; obtain ⟨_, rfl⟩ := hv; exact PyProof.Rows.eq_int ⟨.refl _, rfl⟩
theorem t_lt_int {a b : Int} {u v : Value} {s : Shared} (hu : IntV u a) (hv : IntV v b) : T prog w A (compareOp .Lt u v) (fun r _ => r = .bool (decide (a < b))) s := by
  obtain ⟨_, rfl⟩ := hu; obtain ⟨_, rfl⟩ := hv; exact PyProof.Rows.lt_int ⟨.refl _, rfl⟩
theorem t_le_int {a b : Int} {u v : Value} {s : Shared} (hu : IntV u a) (hv : IntV v b) : T prog w A (compareOp .LtE u v) (fun r _ => r = .bool (decide (a ≤ b))) s := by
  obtain ⟨_, rfl⟩ := hu; obtain ⟨_, rfl⟩ := hv; exact PyProof.Rows.le_int ⟨.refl _, rfl⟩
theorem t_eq_str {a b : Str} {u v : Value} {s : Shared} (hu : StrV u a) (hv : StrV v b) : T prog w A (compareOp .Eq u v) (fun r _ => r = .bool (a == b)) s := by
  obtain ⟨_, rfl⟩ := hu; obtain ⟨_, rfl⟩ := hv; exact PyProof.Rows.eq_str ⟨.refl _, rfl⟩
theorem evb_eq_int {l r : PySem.Expr} {a b : Int} (hl : Ev prog w A s₀ env l (fun v _ => IntV v a)) (hr : Ev prog w A s₀ env r (fun v _ => IntV v b)) (hm : behindInMarks .Eq r = false := by with_unfolding_all rfl) :
    EvB prog w A s₀ env (.Compare l [.Eq] [r] pos) (a == b) := evb_cmp hl hr (fun _ _ _ _ _ p _ q => t_eq_int p q) hm
theorem ev_eq_int {l r : PySem.Expr} {a b : Int} (hl : Ev prog w A s₀ env l (fun v _ => IntV v a)) (hr : Ev prog w A s₀ env r (fun v _ => IntV v b)) (hm : behindInMarks .Eq r = false := by with_unfolding_all rfl) :
    Ev prog w A s₀ env (.Compare l [.Eq] [r] pos) (fun v _ => v = .bool (a == b)) := ev_cmp hl hr (fun _ _ _ _ _ p _ q => t_eq_int p q) hm
theorem evb_lt_int {l r : PySem.Expr} {a b : Int} (hl : Ev prog w A s₀ env l (fun v _ => IntV v a)) (hr : Ev prog w A s₀ env r (fun v _ => IntV v b)) (hm : behindInMarks .Lt r = false := by with_unfolding_all rfl) :
    EvB prog w A s₀ env (.Compare l [.Lt] [r] pos) (decide (a < b)) := evb_cmp hl hr (fun _ _ _ _ _ p _ q => t_lt_int p q) hm
theorem evb_eq_str {l r : PySem.Expr} {a b : Str} (hl : Ev prog w A s₀ env l (fun v _ => StrV v a)) (hr : Ev prog w A s₀ env r (fun v _ => StrV v b)) (hm : behindInMarks .Eq r = false := by with_unfolding_all rfl) :
    EvB prog w A s₀ env (.Compare l [.Eq] [r] pos) (a == b) := evb_cmp hl hr (fun _ _ _ _ _ p _ q => t_eq_str p q) hm
/-- is, of things that are told apart by their make -/
theorem evb_is {l r : PySem.Expr} {a b : Value} (hl : Ev prog w A s₀ env l (fun v _ => v = a)) (hr : Ev prog w A s₀ env r (fun v _ => v = b)) (hp : plainIs a b = true) (hm : behindInMarks .Is r = false := by with_unfolding_all rfl) :
    EvB prog w A s₀ env (.Compare l [.Is] [r] pos) (a == b) := evb_cmp hl hr (fun _ _ _ _ _ p _ q => by subst p q; exact wpAny_is_plain hp ⟨.refl _, rfl⟩) hm
theorem evb_isnot {l r : PySem.Expr} {a b : Value} (hl : Ev prog w A s₀ env l (fun v _ => v = a)) (hr : Ev prog w A s₀ env r (fun v _ => v = b)) (hp : plainIs a b = true) (hm : behindInMarks .IsNot r = false := by with_unfolding_all rfl) :
    EvB prog w A s₀ env (.Compare l [.IsNot] [r] pos) (!(a == b)) := evb_cmp hl hr (fun _ _ _ _ _ p _ q => by subst p q; exact wpAny_isNot_plain hp ⟨.refl _, rfl⟩) hm

/-- a test that is a value -/
theorem evb_val {e : PySem.Expr} {b : Bool} {P : Value → Shared → Prop} (h : Ev prog w A s₀ env e P) (hq : ∀ v s, Sx s₀ s → P v s → T prog w A (truthy v) (fun r _ => r = b) s)
    (hs : ∀ whole, isTrue e env whole = (do let v ← whole; standAt e.pos; holding [v] (truthy v))) : EvB prog w A s₀ env e b := fun s x => by
  show wpAny _ _ (isTrue e env (eval e env)) _ _ s
  rw [hs]
  exact wpAny_bind ((h s x).wp fun v s₁ y p => wpAny_bind (wpAny_standAt (wpAny_holding (T.from y (hq v s₁ (x.trans y) p)))))

theorem ev_ifexp {t b o : PySem.Expr} {c : Bool} {P : Value → Shared → Prop} (ht : EvB prog w A s₀ env t c) (hb : c = true → Ev prog w A s₀ env b P) (ho : c = false → Ev prog w A s₀ env o P) : Ev prog w A s₀ env (.IfExp t b o pos) P := fun s x => by
  refine wpAny_IfExp ((ht s x).wp fun r s₁ y e => ?_)
  subst e
  cases r with
  | true => exact T.from y (hb rfl s₁ (x.trans y))
  | false => exact T.from y (ho rfl s₁ (x.trans y))
end
end Mine
namespace Mine
/-- neither the frame nor a cell of it -/
def Off (env : Env) (b : Addr) : Prop := b ≠ env.locals ∧ ∀ n c, env.cells.lookup n = some c → b ≠ c
/-- all but the frame's own stands -/
structure Bx (env : Env) (s s' : Shared) : Prop where
  off : ∀ b o, Off env b → s.heap.get? b = some o → s'.heap.get? b = some o
  os : s'.os = s.os
  gens : ∀ (i : Nat) (x : GenState), s.gens[i]? = some x → s'.gens[i]? = some x
  bare : AllBare s.gens → AllBare s'.gens
theorem Bx.refl (env : Env) (s : Shared) : Bx env s s := ⟨fun _ _ _ e => e, rfl, fun _ _ e => e, id⟩
theorem Bx.trans {env : Env} {a b c : Shared} (x : Bx env a b) (y : Bx env b c) : Bx env a c := ⟨fun d o h e => y.off d o h (x.off d o h e), y.os.trans x.os, fun i g e => y.gens i g (x.gens i g e), fun h => y.bare (x.bare h)⟩
theorem Sx.bx {env : Env} {s s' : Shared} (x : Sx s s') : Bx env s s' := ⟨fun b o _ e => x.ext b o e, x.os, x.gens, x.bare⟩

structure FrC (h₀ : Heap) (env : Env) (m cm : Str → Option Value) (h : Heap) : Prop where
  ns : h.Ns env.locals m
  keep : Ext h₀ h
  newL : h₀.get? env.locals = none
  cell : ∀ n c, env.cells.lookup n = some c → h.IsCell c (cm n)
  apart : env.cells.Pairwise fun x y => x.2 ≠ y.2
  newC : ∀ n c, env.cells.lookup n = some c → h₀.get? c = none
theorem FrC.ext {h₀ h h' : Heap} {env : Env} {m cm : Str → Option Value} (F : FrC h₀ env m cm h) (e : Ext h h') : FrC h₀ env m cm h' :=
  ⟨F.ns.keeps e, F.keep.trans e, F.newL, fun n c h => (F.cell n c h).keeps e, F.apart, F.newC⟩
theorem FrC.old {h₀ h : Heap} {env : Env} {m cm : Str → Option Value} (F : FrC h₀ env m cm h) {b : Addr} {o : Obj} (e : h₀.get? b = some o) : Off env b :=
  ⟨fun q => (by rw [q, F.newL] at e; cases e), fun n c hc q => (by rw [q, F.newC n c hc] at e; cases e)⟩
theorem FrC.seq {h₀ h : Heap} {env : Env} {m cm : Str → Option Value} (F : FrC h₀ env m cm h) {b : Addr} {o : Obj} (e : h.get? b = some o) (hd : ∀ es n, o.data ≠ .dict es n) (hc : ∀ v, o.data ≠ .cell v) : Off env b :=
  ⟨fun q => (by obtain ⟨o', es, n, h1, h2, _⟩ := F.ns; rw [q, h1] at e; cases e; exact hd _ _ h2), fun n c hm q => (by obtain ⟨o', h1, h2⟩ := F.cell n c hm; rw [q, h1] at e; cases e; exact hc _ h2)⟩
theorem FrC.new {h₀ h : Heap} {env : Env} {m cm : Str → Option Value} (F : FrC h₀ env m cm h) {b : Addr} (e : h.get? b = none) : Off env b :=
  ⟨fun q => (by obtain ⟨o', es, n, h1, h2, _⟩ := F.ns; rw [q, h1] at e; cases e), fun n c hm q => (by obtain ⟨o', h1, h2⟩ := F.cell n c hm; rw [q, h1] at e; cases e)⟩
theorem FrC.list {h₀ h h' : Heap} {env : Env} {m cm : Str → Option Value} (F : FrC h₀ env m cm h) {a : Addr} {vs : Array Value} (x : h.IsList a vs) (hk : ∀ b o, Off env b → h.get? b = some o → h'.get? b = some o) : h'.IsList a vs := by
  obtain ⟨o, ho, hc, n, hd⟩ := x
  exact ⟨o, hk _ _ (F.seq ho (fun es n e => by rw [hd] at e; cases e) fun v e => by rw [hd] at e; cases e) ho, hc, n, hd⟩
theorem FrC.listI {h₀ h h' : Heap} {env : Env} {m cm : Str → Option Value} (F : FrC h₀ env m cm h) {v : Value} {ns : List Int} (x : LI h v ns) (hk : ∀ b o, Off env b → h.get? b = some o → h'.get? b = some o) : LI h' v ns := by
  obtain ⟨a, vs, e, l, i⟩ := x; exact ⟨a, vs, e, F.list l hk, i⟩

def upd (m : Str → Option Value) (x : Str) (v : Value) : Str → Option Value := fun y => if y = x then some v else m y

section
variable {prog : Program} {w : World} {A : Around} {s : Shared} {env : Env} {h₀ : Heap} {m cm : Str → Option Value}
theorem FrC.bndL {x : Str} {v : Value} (F : FrC h₀ env m cm s.heap) (hv : m x = some v) (hk : env.scope.kind = .function) (hl : env.kindOf x = some .local) : Bnd prog w A env s.heap x v := Bnd.local F.ns hv hk hl
theorem Bnd.cell {h : Heap} {x : Str} {c : Addr} {v : Value} (hk : env.scope.kind = .function) (hl : env.kindOf x = some .cell) (hc : env.cells.lookup x = some c) (hv : h.IsCell c (some v)) : Bnd prog w A env h x v :=
  fun _ _ _ e q => wpAny_loadName_cell hk hl hc (hv.keeps e) q
theorem Bnd.free {h : Heap} {x : Str} {c : Addr} {v : Value} (hk : env.scope.kind = .function) (hl : env.kindOf x = some .free) (hc : env.cells.lookup x = some c) (hv : h.IsCell c (some v)) (hn : (x == ("__classdict__" : Str)) = false := by decide) : Bnd prog w A env h x v :=
  fun _ _ _ e q => wpAny_loadName_free hk hl hc (hv.keeps e) q hn
theorem FrC.bndC {x : Str} {c : Addr} {v : Value} (F : FrC h₀ env m cm s.heap) (hv : cm x = some v) (hk : env.scope.kind = .function) (hl : env.kindOf x = some .cell) (hc : env.cells.lookup x = some c) : Bnd prog w A env s.heap x v :=
  Bnd.cell hk hl hc (hv ▸ F.cell x c hc)

theorem FrC.storeL {x : Str} {v : Value} {Q : Unit → Shared → Prop} {E : Value → Shared → Prop} (F : FrC h₀ env m cm s.heap) (hk : env.scope.kind = .function) (hl : env.kindOf x = some .local)
    (h : ∀ s', FrC h₀ env (upd m x v) cm s'.heap → Bx env s s' → Q () s') : wpAny (model prog w) A (storeName env x v) Q E s := by
  have other : ∀ {h' : Heap}, Heap.SameBut env.locals s.heap h' → ∀ c u, s.heap.IsCell c u → h'.IsCell c u := fun hs c u ⟨o, ho, hd⟩ => by
    refine ⟨o, hs.extBut c o (fun q => ?_) ho, hd⟩
    obtain ⟨o', es, k, h1, h2, _⟩ := F.ns
    rw [q, h1] at ho; cases ho; rw [h2] at hd; cases hd
  exact wpAny_storeName_local hl F.ns (fun h' hn hs => h _ ⟨hn, fun b o e => hs.extBut b o (F.old e).1 (F.keep b o e), F.newL, fun n c hc => other hs _ _ (F.cell n c hc), F.apart, F.newC⟩ ⟨fun b o f e => hs.extBut b o f.1 e, rfl, fun _ _ e => e, id⟩) (by rw [hk]; rfl)
theorem FrC.storeC {x : Str} {c : Addr} {v : Value} {Q : Unit → Shared → Prop} {E : Value → Shared → Prop} (F : FrC h₀ env m cm s.heap) (hk : env.scope.kind = .function) (hl : env.kindOf x = some .cell)
    (hc : env.cells.lookup x = some c) (h : ∀ s', FrC h₀ env m (upd cm x v) s'.heap → Bx env s s' → Q () s') : wpAny (model prog w) A (storeName env x v) Q E s := by
  have hm := mem_of_lookup hc
  refine wpAny_storeName_cell hk hl hc (F.cell x c hc) fun h' hc' hs => h _ ⟨?_, fun b o e => ?_, F.newL, fun n c' hn => ?_, F.apart, F.newC⟩ ⟨fun b o f e => hs.extBut b o (f.2 x c hc) e, rfl, fun _ _ e => e, id⟩
  · refine F.ns.sameBut hs fun q => ?_
    obtain ⟨o', es, k, h1, h2, _⟩ := F.ns
    obtain ⟨o, ho, hd⟩ := F.cell x c hc
    rw [← q, h1] at ho; cases ho; rw [h2] at hd; cases hd
  · exact hs.extBut b o ((F.old e).2 x c hc) (F.keep b o e)
  · by_cases hx : n = x
    · subst hx
      rw [hc] at hn; cases hn
      simpa [upd] using hc'
    · simp only [upd, if_neg hx]
      exact (F.cell n c' hn).sameBut hs fun e => hx (name_of_addr F.apart (mem_of_lookup hn) (e ▸ hm))
end
end Mine
namespace Mine
/-- what pyIter hands on: an iterator that walks n items -/
structure Itr (prog : Program) (w : World) (A : Around) (h₀ h : Heap) (it : Value) (n : Nat) (P : Nat → Value → Prop) (ext : List Addr) : Prop where
  ex : ∃ I fp wr St, it = .ref I ∧ Walks prog w A I fp wr n P St ∧ St 0 h ∧ (∀ b ∈ wr, h₀.get? b = none) ∧ (∀ b ∈ fp, ∃ o, h.get? b = some o) ∧ (∀ i h, St i h → ∀ b ∈ wr, ∃ o vs, h.get? b = some o ∧ o.data = .fields vs) ∧ (∀ b ∈ fp, b ∈ wr ∨ b ∈ ext) ∧
    ∀ i h, St i h → ∃ o, h.get? I = some o ∧ ∃ n, o.cls = .type n ∧ ["enumerate", "zip", "dict_itemiterator", "dict_reverseitemiterator", "odict_iterator", "itertools.zip_longest", "itertools.pairwise"].contains n = false
def EvI (prog : Program) (w : World) (A : Around) (s₀ : Shared) (env : Env) (e : PySem.Expr) (n : Nat) (P : Nat → Value → Prop) (ext : List Addr) : Prop :=
  ∀ s, Sx s₀ s → T prog w A (eval e env) (fun v s₁ => T prog w A (pyIter v) (fun it s₂ => Itr prog w A s₁.heap s₂.heap it n P ext) s₁) s
def EvIx (prog : Program) (w : World) (A : Around) (s₀ : Shared) (env : Env) (e : PySem.Expr) (n : Nat) (P : Nat → Value → Prop) : Prop :=
  ∀ s, Sx s₀ s → T prog w A (eval e env) (fun v s₁ => T prog w A (pyIter v) (fun it s₂ => ∃ ext, Itr prog w A s₁.heap s₂.heap it n P ext) s₁) s
theorem EvI.x {prog : Program} {w : World} {A : Around} {s₀ : Shared} {env : Env} {e : PySem.Expr} {n : Nat} {P : Nat → Value → Prop} {ext : List Addr} (h : EvI prog w A s₀ env e n P ext) : EvIx prog w A s₀ env e n P :=
  fun s x => (h s x).mono fun v s₁ _ h => h.mono fun it s₂ _ i => ⟨ext, i⟩
theorem Paired.mono' {α β : Type} {F F' : α → β → Prop} (hm : ∀ a b, F a b → F' a b) : ∀ {l₁ : List α} {l₂ : List β}, PySem.Paired F l₁ l₂ → PySem.Paired F' l₁ l₂
  | _, _, .nil => .nil
  | _, _, .cons h t => .cons (hm _ _ h) (Paired.mono' hm t)

/-- a relation of an item to a place, told in a heap, whose footprint is new since h₁ -/
def FreshF (F : Nat → Value → Heap → Heap → Prop) : Prop := ∀ i y h₁ h' h'', F i y h₁ h' → (∀ b o, h₁.get? b = none → h'.get? b = some o → h''.get? b = some o) → F i y h₁ h''

structure Tgt (prog : Program) (w : World) (A : Around) (cenv : Env) (t : PySem.Expr) (x : Str) (own : List Addr) (Fs : Heap → Prop) : Prop where
  frame : ∀ h h', Fs h → (∀ b ∈ own, ∀ o, h.get? b = some o → h'.get? b = some o) → Fs h'
  alive : ∀ h, Fs h → ∀ b ∈ own, ∃ o, h.get? b = some o
  store : ∀ (s : Shared) (v : Value) (Q : Unit → Shared → Prop) (E : Value → Shared → Prop), Fs s.heap →
    (∀ s', Fs s'.heap → Bnd prog w A cenv s'.heap x v → (∀ b o, b ∉ own → s.heap.get? b = some o → s'.heap.get? b = some o) → s'.os = s.os → s'.gens = s.gens → Q () s') →
    wpAny (model prog w) A (assign t cenv v) Q E s

structure Turned (wr : List Addr) (s s' : Shared) : Prop where
  keep : ∀ b o, b ∉ wr → s.heap.get? b = some o → s'.heap.get? b = some o
  os : s'.os = s.os
  gens : ∀ (i : Nat) (x : GenState), s.gens[i]? = some x → s'.gens[i]? = some x
  bare : AllBare s.gens → AllBare s'.gens
theorem Turned.refl (wr : List Addr) (s : Shared) : Turned wr s s := ⟨fun _ _ _ e => e, rfl, fun _ _ e => e, id⟩
theorem Turned.trans {wr : List Addr} {a b c : Shared} (x : Turned wr a b) (y : Turned wr b c) : Turned wr a c := ⟨fun d o h e => y.keep d o h (x.keep d o h e), y.os.trans x.os, fun i g e => y.gens i g (x.gens i g e), fun h => y.bare (x.bare h)⟩
theorem Sx.turned {wr : List Addr} {s s' : Shared} (x : Sx s s') : Turned wr s s' := ⟨fun b o _ e => x.ext b o e, x.os, x.gens, x.bare⟩
theorem Turned.sx {wr : List Addr} {s₀ s s' : Shared} (x : Sx s₀ s) (h : ∀ b ∈ wr, s₀.heap.get? b = none) (t : Turned wr s s') : Sx s₀ s' :=
  ⟨fun b o e => t.keep b o (fun hb => by rw [h b hb] at e; cases e) (x.ext b o e), t.os.trans x.os, fun i g e => t.gens i g (x.gens i g e), fun q => t.bare (x.bare q)⟩

def tests (ifs : List PySem.Expr) (env : Env) : Sem Bool := forIn ifs true fun c r => if r = true then do let ok ← isTrue c env (eval c env); Pure.pure (ForInStep.yield ok) else Pure.pure (ForInStep.yield r)

section
variable {prog : Program} {w : World} {A : Around}

theorem range_filter_succ (p : Nat → Bool) (i : Nat) : (List.range (i + 1)).filter p = (List.range i).filter p ++ (if p i then [i] else []) := by
  rw [List.range_succ, List.filter_append]
  simp only [List.filter_cons, List.filter_nil]

/-- the loop of a comprehension of one clause -/
theorem comp_loop {elt iter t : PySem.Expr} {x : Str} {ifs : List PySem.Expr} {scope : Scope} {pos : Pos} {cenv : Env} {I D : Addr} {fp wr own : List Addr} {n : Nat} {P : Nat → Value → Prop} {St : Nat → Heap → Prop} {Fs : Heap → Prop}
    {R : Result → Shared → Prop} {s₀ s : Shared} (p : Nat → Bool) (F : Nat → Value → Heap → Heap → Prop) (hF : FreshF F)
    (W : Walks prog w A I fp wr n P St) (hw : ∀ b ∈ wr, s₀.heap.get? b = none) (hal : ∀ i h, St i h → ∀ b ∈ wr, ∃ o vs, h.get? b = some o ∧ o.data = .fields vs) (Tg : Tgt prog w A cenv t x own Fs)
    (hDo : D ∉ own) (hDf : D ∉ fp) (hof : ∀ b ∈ own, b ∉ fp) (hD0 : s₀.heap.get? D = none) (ho0 : ∀ b ∈ own, s₀.heap.get? b = none)
    (hst : St 0 s.heap) (hacc : s.heap.IsList D #[]) (hfs : Fs s.heap) (hx : Sx s₀ s) (hn : n ≤ sizeLine)
    (turn : ∀ i v s₁, i < n → P i v → Sx s₀ s₁ → Bnd prog w A cenv s₁.heap x v → (∀ s₂, Sx s₁ s₂ → T prog w A (tests ifs cenv) (fun ok _ => ok = p i) s₂) ∧
      (p i = true → Ev prog w A s₁ cenv elt (fun y s' => F i y s₁.heap s'.heap)))
    (done : ∀ s' ys, Sx s₀ s' → s'.heap.IsList D ys.toArray → Fs s'.heap → PySem.Paired (fun i y => ∃ h₁, Ext s₀.heap h₁ ∧ F i y h₁ s'.heap ∧ ∀ b ∈ own, ∃ o, h₁.get? b = some o) ((List.range n).filter p) ys → R (.ok .next) s')
    (ht : ∀ v, letOwnedTupleGo t (.ref I) v = Pure.pure () := by intro _; rfl) :
    codeAny (model prog w) A (.compLoop (.ListComp elt [⟨t, iter, ifs, 0⟩] scope pos) 0 (.ref I) (.ref D) cenv) R s := by
  have hwo : ∀ b ∈ wr, b ∈ fp := W.sub
  refine codeAny_compLoop_tests (ht := ht)
    (fun k s' => ∃ i ys, i ≤ n ∧ k = n + 1 - i ∧ St i s'.heap ∧ s'.heap.IsList D (List.toArray ys) ∧ Fs s'.heap ∧ Sx s₀ s' ∧
      PySem.Paired (fun i y => ∃ h₁, Ext s₀.heap h₁ ∧ F i y h₁ s'.heap ∧ ∀ b, (b = D ∨ b ∈ own ∨ b ∈ wr) → ∃ o, h₁.get? b = some o) ((List.range i).filter p) ys)
    ?_ (n + 1) ⟨0, [], Nat.zero_le _, rfl, hst, hacc, hfs, hx, .nil⟩
  rintro k s' ⟨i, ys, hi, rfl, st, acc, fs, sx, pr⟩
  by_cases hlt : i < n
  · refine W.item i _ _ _ hlt st fun v h₁ tk₁ hP st₁ hk₁ => ?_
    have sx₁ : Sx s₀ { s' with heap := h₁, toks := tk₁ } := ⟨fun b o e => hk₁ b o (fun hb => by rw [hw b hb] at e; cases e) (sx.ext b o e), sx.os, sx.gens, sx.bare⟩
    have fs₁ : Fs h₁ := Tg.frame _ _ fs fun b hb o e => hk₁ b o (fun hb' => hof b hb (hwo _ hb')) e
    refine Tg.store _ _ _ _ fs₁ fun s₂ fs₂ bnd k₂ os₂ g₂ => ?_
    have up : ∀ b o, b ∉ wr → b ∉ own → s'.heap.get? b = some o → s₂.heap.get? b = some o := fun b o h1 h2 e => k₂ b o h2 (hk₁ b o h1 e)
    have sx₂ : Sx s₀ s₂ := ⟨fun b o e => k₂ b o (fun hb => by rw [ho0 b hb] at e; cases e) (sx₁.ext b o e), os₂.trans sx₁.os, fun j g e => by rw [g₂]; exact sx₁.gens j g e, fun q => by rw [g₂]; exact sx₁.bare q⟩
    have st₂ : St (i + 1) s₂.heap := W.frame _ _ _ st₁ fun b hb o e => k₂ b o (fun h => hof b h hb) e
    have acc₂ : s₂.heap.IsList D ys.toArray := by
      obtain ⟨o, a1, a2⟩ := acc
      exact ⟨o, up D o (fun h => hDf (hwo _ h)) hDo a1, a2⟩
    have alive : ∀ b, (b = D ∨ b ∈ own ∨ b ∈ wr) → ∃ o, s₂.heap.get? b = some o := fun b hb => by
      rcases hb with rfl | hb | hb
      · exact let ⟨o, a, _⟩ := acc₂; ⟨o, a⟩
      · exact Tg.alive _ fs₂ b hb
      · exact let ⟨o, _, e, _⟩ := hal _ _ st₂ b hb; ⟨o, e⟩
    have lift : ∀ {h' : Heap}, Ext s₂.heap h' → PySem.Paired (fun i y => ∃ h₁, Ext s₀.heap h₁ ∧ F i y h₁ h' ∧ ∀ b, (b = D ∨ b ∈ own ∨ b ∈ wr) → ∃ o, h₁.get? b = some o) ((List.range i).filter p) ys := fun e =>
      Paired.mono' (fun j y ⟨hh, a, b, c⟩ => ⟨hh, a, hF _ _ _ _ _ b fun d o q r => e d o (up d o (fun hd => by obtain ⟨o', q'⟩ := c d (.inr (.inr hd)); rw [q'] at q; cases q) (fun hd => by obtain ⟨o', q'⟩ := c d (.inr (.inl hd)); rw [q'] at q; cases q) r), c⟩) pr
    obtain ⟨hte, hel⟩ := turn i v s₂ hlt hP sx₂ bnd
    refine (hte s₂ (.refl _)).wp fun ok s₃ x₃ e => ?_
    subst e
    cases hpi : p i with
    | false =>
      simp only [Bool.false_eq_true, if_false]
      refine ⟨n + 1 - (i + 1), by omega, i + 1, ys, hlt, rfl, W.frame _ _ _ st₂ fun b _ o e => x₃.ext b o e, isList_ext acc₂ x₃.ext, Tg.frame _ _ fs₂ fun b _ o e => x₃.ext b o e, sx₂.trans x₃, ?_⟩
      rw [range_filter_succ, hpi]
      simp only [Bool.false_eq_true, if_false, List.append_nil]
      exact lift x₃.ext
    | true =>
      simp only [if_true]
      refine (hel hpi s₃ x₃).wp fun y s₄ x₄ fy => ?_
      have x₂₄ := x₃.trans x₄
      have acc₄ := isList_ext acc₂ x₂₄.ext
      have hlen : ys.length ≤ i := by
        rw [← pr.length]
        exact Nat.le_trans (List.length_filter_le _ _) (by simp)
      refine wpAny_list_append (hsz := by rw [List.size_toArray]; omega) acc₄ fun h₅ l₅ k₅ => ?_
      have l₅' : h₅.IsList D (ys ++ [y]).toArray := by simpa using l₅
      refine ⟨n + 1 - (i + 1), by omega, i + 1, ys ++ [y], hlt, rfl, W.frame _ _ _ st₂ fun b hb o e => k₅.extBut b o (fun q => hDf (q ▸ hb)) (x₂₄.ext b o e), l₅', Tg.frame _ _ fs₂ fun b hb o e => k₅.extBut b o (fun q => hDo (q ▸ hb)) (x₂₄.ext b o e), ?_, ?_⟩
      · have q := sx₂.trans x₂₄
        exact ⟨fun b o e => k₅.extBut b o (fun r => by rw [r, hD0] at e; cases e) (q.ext b o e), q.os, q.gens, q.bare⟩
      · rw [range_filter_succ, hpi]
        simp only [if_true]
        refine PySem.Paired.snoc ?_ ⟨s₂.heap, sx₂.ext, hF _ _ _ _ _ fy fun d o q r => k₅.extBut d o (fun r' => by obtain ⟨o', q'⟩ := alive d (.inl r'); rw [q'] at q; cases q) r, alive⟩
        exact Paired.mono' (fun j y ⟨hh, a, b, c⟩ => ⟨hh, a, hF _ _ _ _ _ b fun d o q r => k₅.extBut d o (fun r' => by obtain ⟨o', q'⟩ := c d (.inl r'); rw [q'] at q; cases q) r, c⟩) (lift x₂₄.ext)
  · have hin : i = n := by omega
    subst hin
    refine W.done _ _ _ st fun h₁ tk₁ hk₁ => ?_
    refine done _ ys ⟨fun b o e => hk₁ b o (fun hb => by rw [hw b hb] at e; cases e) (sx.ext b o e), sx.os, sx.gens, sx.bare⟩ ?_ (Tg.frame _ _ fs fun b hb o e => hk₁ b o (fun hb' => hof b hb (hwo _ hb')) e) ?_
    · obtain ⟨o, a1, a2⟩ := acc
      exact ⟨o, hk₁ D o (fun h => hDf (hwo _ h)) a1, a2⟩
    · exact Paired.mono' (fun j y ⟨hh, a, b, c⟩ => ⟨hh, a, hF _ _ _ _ _ b fun d o q r => hk₁ d o (fun hd => by obtain ⟨o', q'⟩ := c d (.inr (.inr hd)); rw [q'] at q; cases q) r, fun b hb => c b (.inr (.inl hb))⟩) pr
end
end Mine
namespace Mine
section
variable {prog : Program} {w : World} {A : Around} {s₀ : Shared} {env : Env}
/-- the value of a comprehension -/
def CompV (s₀ : Shared) (n : Nat) (p : Nat → Bool) (F : Nat → Value → Heap → Heap → Prop) (v : Value) (s : Shared) : Prop :=
  ∃ a ys, v = .ref a ∧ s.heap.IsList a (List.toArray ys) ∧ s₀.heap.get? a = none ∧ PySem.Paired (fun i y => ∃ h₁, Ext s₀.heap h₁ ∧ F i y h₁ s.heap) ((List.range n).filter p) ys

theorem tgt_local {cenv : Env} {x : Str} {px : Pos} (hk : cenv.scope.kind = .function) (hx : cenv.kindOf x = some .local) : Tgt prog w A cenv (.Name x px) x [cenv.locals] (fun h => ∃ m, h.Ns cenv.locals m) where
  frame := fun h h' ⟨m, q⟩ k => ⟨m, q.at' fun o e => k _ (by simp) o e⟩
  alive := fun h ⟨m, o, es, n, e, _⟩ b hb => by simp at hb; subst hb; exact ⟨o, e⟩
  store := fun s v Q E ⟨m, q⟩ h => by
    refine wpAny_assign_Name (wpAny_storeName_local hx q (fun h' hn hs => h _ ⟨_, hn⟩ (Bnd.local hn (by simp) hk hx) (fun b o hb e => hs.extBut b o (by simpa using hb) e) rfl rfl) (by rw [hk]; rfl))
theorem tgt_cell {cenv : Env} {x : Str} {px : Pos} {c : Addr} (hk : cenv.scope.kind = .function) (hx : cenv.kindOf x = some .cell) (hc : cenv.cells.lookup x = some c) :
    Tgt prog w A cenv (.Name x px) x [c, cenv.locals] (fun h => (∃ v, h.IsCell c v) ∧ ∃ m, h.Ns cenv.locals m) where
  frame := fun h h' ⟨⟨v, o, q, d⟩, m, q'⟩ k => ⟨⟨v, o, k _ (by simp) o q, d⟩, m, q'.at' fun o e => k _ (by simp) o e⟩
  alive := fun h ⟨⟨v, o, q, d⟩, m, o', es, n, e, _⟩ b hb => by
    simp at hb; rcases hb with rfl | rfl
    · exact ⟨o, q⟩
    · exact ⟨o', e⟩
  store := fun s v Q E ⟨⟨v₀, q⟩, m, q'⟩ h => by
    refine wpAny_assign_Name (wpAny_storeName_cell hk hx hc q fun h' hn hs => h _ ⟨⟨_, hn⟩, m, q'.sameBut hs fun e => ?_⟩ (Bnd.cell hk hx hc hn) (fun b o hb e => hs.extBut b o (fun e => hb (by simp [e])) e) rfl rfl)
    obtain ⟨o, a, d⟩ := q
    obtain ⟨o', es, n, a', d', _⟩ := q'
    rw [← e, a'] at a; cases a; rw [d] at d'; cases d'

theorem ev_comp_core {elt iter t : PySem.Expr} {x : Str} {ifs : List PySem.Expr} {scope : Scope} {cl : List (Str × Addr)} {pos : Pos} {n : Nat} {P : Nat → Value → Prop} (p : Nat → Bool) (F : Nat → Value → Heap → Heap → Prop) (hF : FreshF F)
    (mk : Addr → List (Str × Addr)) (hmk : (∀ a, mk a = cl) ∧ (∀ h, pushCells h scope.names = h) ∧ (∀ a, cellsFrom a scope.names cl = cl) ∧ scope.names.lookup x = some .local ∨
      (∀ a, mk a = (x, a) :: cl) ∧ (∀ h, pushCells h scope.names = h.push { cls := .type "cell", data := .cell none }) ∧ (∀ a, cellsFrom a scope.names cl = (x, a) :: cl) ∧ (relabel scope env).names.lookup x = some .cell)
    (htx : ∃ px, t = .Name x px)
    (hclos : closureFor scope env = Pure.pure cl) (hkind : scope.kind = .function) (hnames : ∀ y ∈ scope.names, y.2 = .local → scope.names.lookup y.1 = some .local)
    (hit : EvIx prog w A s₀ env iter n P) (hn : n ≤ sizeLine) (hs : ∀ x, foldedSetIterable iter env x = Pure.pure x)
    (turn : ∀ C c i v s₁, i < n → P i v → Sx s₀ s₁ → Bnd prog w A (compEnvC scope (mk c) C env) s₁.heap x v → (∀ s₂, Sx s₁ s₂ → T prog w A (tests ifs (compEnvC scope (mk c) C env)) (fun ok _ => ok = p i) s₂) ∧
      (p i = true → Ev prog w A s₁ (compEnvC scope (mk c) C env) elt (fun y s' => F i y s₁.heap s'.heap))) :
    Ev prog w A s₀ env (.ListComp elt [⟨t, iter, ifs, 0⟩] scope pos) (CompV s₀ n p F) := by
  intro s hx0
  show wpAny _ _ (eval (.ListComp elt [⟨t, iter, ifs, 0⟩] scope pos) env) _ _ s
  rw [eval_ListComp]
  refine wpAny_comprehension_free (use := none) rfl hs hclos hkind hnames ((hit s hx0).wp fun xv s₁ x₁ h₁ => h₁.wp fun it s₂ x₂ ⟨_, I, fp, wr, St, e, W, hst, hw, hfp, hal, _, _⟩ => ?_)
  subst e
  have y₂ : Sx s₀ s₂ := hx0.trans (x₁.trans x₂)
  refine wpAny_newObj_type ?_
  generalize hH : s₂.heap.push { cls := .type "list", data := .seq ([] : List Value).toArray } = H
  have eH : Ext s₂.heap H := hH ▸ Ext.push _ _
  have hHs : H.objs.size = s₂.heap.objs.size + 1 := by rw [← hH, Heap.size_push]
  have lD : H.IsList s₂.heap.objs.size #[] := ⟨_, hH ▸ Heap.get?_push_size _ rfl, rfl, 0, rfl⟩
  simp only [newFunctionEnv, Option.isSome_some, if_true]
  refine wpAny_bind (wpAny_alloc ?_)
  refine wpAny_bind (wpAny_layCells _ (fun name kind cells => by cases hkc : kind == NameKind.cell <;> simp [hkc]) _ _ _ _ ?_)
  dsimp only
  simp only [List.forIn_nil]
  refine wpAny_bind (wpAny_pure (wpAny_pure ?_))
  generalize hH' : H.push { cls := .type "dict", data := .dict #[] } = H'
  have eH' : Ext H H' := hH' ▸ Ext.push _ _
  have hHs' : H'.objs.size = s₂.heap.objs.size + 2 := by rw [← hH', Heap.size_push, hHs]
  have nC : H'.Ns H.objs.size (fun _ => none) := hH' ▸ Heap.Ns.new H (.type "dict")
  have fresh₂ : ∀ a, s₂.heap.objs.size ≤ a → s₂.heap.get? a = none := fun a ha => by
    cases e : s₂.heap.get? a with
    | none => rfl
    | some o' => exact absurd (Heap.lt_size e) (Nat.not_lt.mpr ha)
  have fresh₀ : ∀ a, s₂.heap.objs.size ≤ a → s₀.heap.get? a = none := fun a ha => by
    cases e : s₀.heap.get? a with
    | none => rfl
    | some o' => have := y₂.ext _ _ e; rw [fresh₂ a ha] at this; cases this
  have hw₀ : ∀ b ∈ wr, s₀.heap.get? b = none := fun b hb => by
    cases e : s₀.heap.get? b with
    | none => rfl
    | some o' => have := x₁.ext _ _ (hx0.ext _ _ e); rw [hw b hb] at this; cases this
  have notfp : ∀ a, s₂.heap.objs.size ≤ a → a ∉ fp := fun a ha hm => by obtain ⟨o, e⟩ := hfp a hm; rw [fresh₂ a ha] at e; cases e
  -- the loop, whatever the make of the target
  have body : ∀ (cells' : List (Str × Addr)) (H'' : Heap) (own : List Addr) (Fs : Heap → Prop), Ext H' H'' → (∃ c, cells' = mk c) →
      Tgt prog w A (compEnvC scope cells' H.objs.size env) t x own Fs → Fs H'' → (∀ b ∈ own, s₂.heap.objs.size ≤ b) → s₂.heap.objs.size ∉ own → H.objs.size ∈ own → (∀ h, Fs h → ∃ m, h.Ns H.objs.size m) →
      codeAny (model prog w) A (.compStart (.ListComp elt [⟨t, iter, ifs, 0⟩] scope pos) 0 (.ref I) (.ref s₂.heap.objs.size) (compEnvC scope cells' H.objs.size env))
        (compPost (model prog w) A NoE none (fun v s' => Sx s s' ∧ CompV s₀ n p F v s') (.ref s₂.heap.objs.size) H.objs.size) { s₂ with heap := H'' } := by
    rintro cells' H'' own Fs eH'' ⟨c, rfl⟩ tg fs hge hDo hCo hns
    have st'' : St 0 H'' := W.frame _ _ _ hst fun b _ o e => eH'' b o (eH' b o (eH b o e))
    have hout : codeAny (model prog w) A (.compLoop (.ListComp elt [⟨t, iter, ifs, 0⟩] scope pos) 0 (.ref I) (.ref s₂.heap.objs.size) (compEnvC scope (mk c) H.objs.size env))
        (compPost (model prog w) A NoE none (fun v s' => Sx s s' ∧ CompV s₀ n p F v s') (.ref s₂.heap.objs.size) H.objs.size) { s₂ with heap := H'' } := by
      obtain ⟨px, rfl⟩ := htx
      refine comp_loop (s₀ := s) (own := own) (Fs := Fs) p F hF W (fun b hb => ?_) hal tg hDo (notfp _ (Nat.le_refl _)) (fun b hb => notfp b (hge b hb)) ?_ (fun b hb => ?_) st'' (isList_ext lD (eH'.trans eH'')) fs ?_ hn ?_ ?_
      · cases e : s.heap.get? b with
        | none => rfl
        | some o' => have := x₁.ext _ _ e; rw [hw b hb] at this; cases this
      · cases e : s.heap.get? s₂.heap.objs.size with
        | none => rfl
        | some o' => have := (x₁.trans x₂).ext _ _ e; rw [fresh₂ _ (Nat.le_refl _)] at this; cases this
      · cases e : s.heap.get? b with
        | none => rfl
        | some o' => have := (x₁.trans x₂).ext _ _ e; rw [fresh₂ _ (hge b hb)] at this; cases this
      · have q := x₁.trans x₂
        exact ⟨q.ext.trans (eH.trans (eH'.trans eH'')), q.os, q.gens, q.bare⟩
      · intro i v s₁ hi hP hs₁ hb
        exact turn _ c i v s₁ hi hP (hx0.trans hs₁) hb
      · intro s' ys sx l fs' pr
        obtain ⟨m, hm⟩ := hns _ fs'
        refine ⟨m, hm, fun h' hs' => ?_⟩
        have hDC : s₂.heap.objs.size ≠ H.objs.size := by rw [hHs]; exact Nat.ne_of_lt (Nat.lt_succ_self _)
        refine ⟨⟨fun b o e => hs'.extBut b o (fun q => ?_) (sx.ext b o e), sx.os, sx.gens, sx.bare⟩, _, ys, rfl, l.extBut hs'.extBut hDC, fresh₀ _ (Nat.le_refl _), ?_⟩
        · have := (x₁.trans x₂).ext _ _ e
          rw [q, fresh₂ _ (by rw [hHs]; exact Nat.le_succ _)] at this; cases this
        · exact Paired.mono' (fun j y ⟨hh, a, b, k⟩ => ⟨hh, hx0.ext.trans a, hF _ _ _ _ _ b fun d o q r => hs'.extBut d o (fun r' => by obtain ⟨o', q'⟩ := k _ hCo; rw [← r', q] at q'; cases q') r⟩) pr
    refine codeAny_compStart_list hout ?_
    exact W.self 0 _ _ _ st'' hout
  rcases hmk with ⟨hm, hp, hcf, hxl⟩ | ⟨hm, hp, hcf, hxc⟩
  · simp only [hp, hcf]
    refine body cl H' [H.objs.size] _ (Ext.refl _) ⟨0, (hm 0).symm⟩ (by
      obtain ⟨px, rfl⟩ := htx
      exact tgt_local (cenv := compEnvC scope cl H.objs.size env) (by simp [compEnvC, relabel, hkind]) (lookup_relabel_local hxl)) ⟨_, nC⟩ (fun b hb => by simp at hb; subst hb; rw [hHs]; exact Nat.le_succ _) (by simp; rw [hHs]; exact Nat.ne_of_lt (Nat.lt_succ_self _)) (by simp) (fun h q => q)
  · simp only [hp, hcf]
    have hc' : (H'.push { cls := .type "cell", data := .cell none }).IsCell H'.objs.size none := ⟨_, Heap.get?_push_size _ rfl, rfl⟩
    refine body ((x, H'.objs.size) :: cl) _ [H'.objs.size, H.objs.size] (fun h => (∃ v, h.IsCell H'.objs.size v) ∧ ∃ m, h.Ns H.objs.size m) (Ext.push _ _) ⟨H'.objs.size, (hm _).symm⟩ (by
      obtain ⟨px, rfl⟩ := htx
      exact tgt_cell (cenv := compEnvC scope ((x, H'.objs.size) :: cl) H.objs.size env) (c := H'.objs.size) (by simp [compEnvC, relabel, hkind]) hxc (by simp [compEnvC])) ⟨⟨_, hc'⟩, _, nC.push _⟩ (fun b hb => ?_) ?_ (by simp) (fun h q => q.2)
    · simp at hb; rcases hb with rfl | rfl
      · rw [hHs']; omega
      · rw [hHs]; omega
    · simp only [List.mem_cons, List.mem_nil_iff, or_false, hHs, hHs']; omega
end
end Mine
namespace Mine
def EvS (prog : Program) (w : World) (A : Around) (s₀ : Shared) (env : Env) (es : List PySem.Expr) (R : List Value → Shared → Prop) : Prop :=
  ∀ pos s, Sx s₀ s → T prog w A (spliced (backTo pos (starEach es env))) R s
def Mono (P : Value → Shared → Prop) : Prop := ∀ v s s', Sx s s' → P v s → P v s'
section
variable {prog : Program} {w : World} {A : Around} {s₀ : Shared} {env : Env} {pos : Pos}
theorem evs_nil : EvS prog w A s₀ env [] (fun vs _ => vs = []) := fun pos s x => args_nil ⟨.refl _, rfl⟩
theorem evs_cons {e : PySem.Expr} {rest : List PySem.Expr} {P : Value → Shared → Prop} {R : List Value → Shared → Prop} (he : Ev prog w A s₀ env e P) (hm : Mono P) (hr : EvS prog w A s₀ env rest R)
    (hs : starEach (e :: rest) env = (false, eval e env) :: starEach rest env := by rfl) : EvS prog w A s₀ env (e :: rest) (fun vs s => ∃ v r, vs = v :: r ∧ P v s ∧ R r s) := fun pos s x =>
  args_cons ((he s x).wp fun v s₁ y p => (hr pos s₁ (x.trans y)).wp fun r s₂ z q => ⟨y.trans z, v, r, rfl, hm _ _ _ z p, q⟩) hs
theorem evs_one {e : PySem.Expr} {P : Value → Shared → Prop} (he : Ev prog w A s₀ env e P) (hs : starEach [e] env = [(false, eval e env)] := by rfl) : EvS prog w A s₀ env [e] (fun vs s => ∃ v, vs = [v] ∧ P v s) := fun pos s x =>
  args_cons ((he s x).wp fun v s₁ y p => args_nil ⟨y, v, rfl, p⟩) hs
theorem mono_int {i : Int} : Mono (fun v _ => IntV v i) := fun _ _ _ _ h => h
theorem mono_str {i : Str} : Mono (fun v _ => StrV v i) := fun _ _ _ _ h => h
theorem mono_eq {u : Value} : Mono (fun v _ => v = u) := fun _ _ _ _ h => h

/-! displays -/
def NewL (s₀ : Shared) (R : List Value → Shared → Prop) (v : Value) (s : Shared) : Prop := ∃ a vs, v = .ref a ∧ s.heap.PlainList a (List.toArray vs) ∧ s₀.heap.get? a = none ∧ R vs s
def MonoS (R : List Value → Shared → Prop) : Prop := ∀ v s s', Sx s s' → R v s → R v s'
theorem sx_push {s : Shared} (o : Obj) : Sx s { s with heap := s.heap.push o } := ⟨Ext.push _ _, rfl, fun _ _ e => e, id⟩
theorem sx_pushT {s : Shared} (o : Obj) (t : Nat) : Sx s { s with heap := s.heap.push o, toks := t } := ⟨Ext.push _ _, rfl, fun _ _ e => e, id⟩
theorem fresh_of {s₀ s : Shared} (x : Sx s₀ s) : s₀.heap.get? s.heap.objs.size = none := x.ext.size.2
theorem ev_list {es : List PySem.Expr} {R : List Value → Shared → Prop} (hs : EvS prog w A s₀ env es R) (hm : MonoS R) (hz : es.length ≤ sizeLine) (hl : ∀ vs s, R vs s → vs.length ≤ sizeLine) : Ev prog w A s₀ env (.List es pos) (NewL s₀ R) := fun s x =>
  List_ ((hs pos s x).wp fun vs s₁ y r => wpAny_newObj_type ⟨y.trans (sx_push _), _, vs, rfl, ⟨0, Heap.get?_push_size _ rfl⟩, fresh_of (x.trans y), hm _ _ _ (sx_push _) r⟩ (by show vs.toArray.size ≤ sizeLine; rw [List.size_toArray]; exact hl _ _ r))
theorem ev_list0 : Ev prog w A s₀ env (.List [] pos) (NewL s₀ (fun vs _ => vs = [])) := ev_list evs_nil (fun _ _ _ _ h => h) (by decide) (fun vs s e => by subst e; decide)
/-- a list display of ints -/
inductive IntsEv (prog : Program) (w : World) (A : Around) (s₀ : Shared) (env : Env) : List PySem.Expr → List Int → Prop
  | nil : IntsEv prog w A s₀ env [] []
  | cons {e es i is} : Ev prog w A s₀ env e (fun v _ => IntV v i) → starEach (e :: es) env = (false, eval e env) :: starEach es env → IntsEv prog w A s₀ env es is → IntsEv prog w A s₀ env (e :: es) (i :: is)
theorem IntsEv.evs {es : List PySem.Expr} {is : List Int} (h : IntsEv prog w A s₀ env es is) : EvS prog w A s₀ env es (fun vs _ => IntsAre vs is) := by
  induction h with
  | nil => exact fun pos s x => (evs_nil pos s x).mono fun v s' _ e => e ▸ .nil
  | cons he hs _ ih => exact fun pos s x => (evs_cons he mono_int ih hs pos s x).mono fun vs s' _ ⟨v, r, e, ⟨t, e'⟩, q⟩ => by subst e e'; exact .cons _ _ q
theorem IntsEv.len {es : List PySem.Expr} {is : List Int} (h : IntsEv prog w A s₀ env es is) : es.length = is.length := by
  induction h with
  | nil => rfl
  | cons _ _ _ ih => simp [ih]
theorem ev_list_ints {es : List PySem.Expr} {is : List Int} (h : IntsEv prog w A s₀ env es is) (hz : es.length ≤ 1000) : Ev prog w A s₀ env (.List es pos) (NewL s₀ (fun vs _ => IntsAre vs is)) :=
  have k : 1000 ≤ sizeLine := by decide
  ev_list h.evs (fun _ _ _ _ h => h) (Nat.le_trans hz k) fun vs s r => Nat.le_trans (by rw [r.length, ← h.len]; exact hz) k
theorem NewL.li {is : List Int} {v : Value} {s : Shared} (h : NewL s₀ (fun vs _ => IntsAre vs is) v s) : LI s.heap v is := let ⟨a, vs, e, l, _, r⟩ := h; ⟨a, vs, e, l.isList, r⟩

/-! calls -/
inductive Fn (h : Heap) : Value → Prop
  | type (T : String) : Fn h (.type T)
  | builtin (id : String) : Fn h (.builtin id)
  | func (a : Addr) (o : Obj) (fd : FuncData) : h.get? a = some o → o.data = .func fd → Fn h (.ref a)
theorem evalArgs_gen {M : Model} {A : Around} {E : Value → Shared → Prop} {s : Shared} {f : Value} {args : List (Bool × Sem Value)} {Q : PySem.Args → Shared → Prop} (hp : args.any (·.1) = false)
    (h : wpAny M A (spliced args) (fun vs s' => Q ⟨vs, []⟩ s') E s) : wpAny M A (evalArgs f true args []) Q E s := by
  cases args with
  | nil =>
    unfold evalArgs
    show wpAny M A (spliced [] >>= _) Q E s
    refine wpAny_bind (wpAny_mono h (fun vs s' h' => wpAny_bind (wpAny_pure (wpAny_holding ?_))) fun _ _ x => x)
    exact wpAny_bind (wpAny_pure (wpAny_bind (wpAny_pure (wpAny_pure h'))))
  | cons x r =>
    obtain ⟨b, t⟩ := x
    cases b with
    | true => simp at hp
    | false => exact Calls.evalArgs_plain h
theorem t_callWith {f : Value} {first : List Value} {es : List PySem.Expr} {R : List Value → Shared → Prop} {P : Value → Shared → Prop} {s : Shared} (hf : Fn s₀.heap f) (hx : Sx s₀ s) (hs : EvS prog w A s₀ env es R)
    (hes : (backTo pos (starEach es env)).any (·.1) = false) (hc : ∀ vs s', Sx s₀ s' → R vs s' → T prog w A (call f (first ++ vs)) P s') : T prog w A (callWith pos f first (backTo pos (starEach es env)) []) P s := by
  cases hf with
  | type Ty => exact PyProof.Rows.callWith_type hes (evalArgs_gen hes ((hs pos s hx).wp fun vs s₁ y r => T.from y (hc vs s₁ (hx.trans y) r)))
  | builtin id => exact Calls.callWith_builtin hes (evalArgs_gen hes ((hs pos s hx).wp fun vs s₁ y r => T.from y (hc vs s₁ (hx.trans y) r)))
  | func a o fd ho hd => exact Calls.callWith_function (o := o) (fd := fd) (evalArgs_gen hes ((hs pos s hx).wp fun vs s₁ y r => ⟨⟨(hx.trans y).ext _ _ ho, hd⟩, T.from y (hc vs s₁ (hx.trans y) r)⟩))
/-- a call by a name -/
theorem ev_call {x : Str} {np : Pos} {f : Value} {es : List PySem.Expr} {R : List Value → Shared → Prop} {P : Value → Shared → Prop} (hb : Bnd prog w A env s₀.heap x f) (hf : Fn s₀.heap f) (hs : EvS prog w A s₀ env es R)
    (hc : ∀ vs s', Sx s₀ s' → R vs s' → T prog w A (call f vs) P s') (hes : ∀ pos, (backTo pos (starEach es env)).any (·.1) = false := by intro _; rfl) (hd : (x == ("__debug__" : Str)) = false := by decide) :
    Ev prog w A s₀ env (.Call (.Name x np) es [] pos) P := fun s hx =>
  Call_ (wpAny_Name (hb s _ _ hx.ext (t_callWith hf hx hs (hes pos) (first := []) fun vs s' y r => hc vs s' y r)) hd)
/-- a call of a method of a builtin -/
theorem ev_meth {o : PySem.Expr} {name : Str} {apos : Pos} {pl : Sem Bool} {f : Value} {es : List PySem.Expr} {Po : Value → Shared → Prop} {R : List Value → Shared → Prop} {P : Value → Shared → Prop} (ho : Ev prog w A s₀ env o Po)
    (hm : ∀ ov s, Sx s₀ s → Po ov s → T prog w A (getMethod ov name pl) (fun fx _ => fx = (f, [ov])) s) (hf : Fn s₀.heap f) (hs : EvS prog w A s₀ env es R)
    (hc : ∀ ov vs s s', Sx s₀ s → Po ov s → Sx s s' → R vs s' → T prog w A (call f (ov :: vs)) P s') (hes : ∀ pos, (backTo pos (starEach es env)).any (·.1) = false := by intro _; rfl)
    (he : eval (.Call (.Attribute o name apos) es [] pos) env = (do
      let ov ← eval o env
      standAt apos.atName
      let (f, first) ← holding [ov] (getMethod ov name pl)
      callWith pos f first (backTo pos (starEach es env)) []) := by rfl) : Ev prog w A s₀ env (.Call (.Attribute o name apos) es [] pos) P := fun s hx => by
  refine MethodCall_ (pl := pl) ((ho s hx).wp fun ov s₁ x₁ po => (hm ov s₁ (hx.trans x₁) po).wp fun fx s₂ x₂ e => ?_) he
  subst e
  have y₂ := x₁.trans x₂
  exact T.from y₂ (t_callWith (s₀ := s₂) (s := s₂) (first := [ov]) (by cases hf with
    | type Ty => exact .type Ty
    | builtin id => exact .builtin id
    | func a o fd h1 h2 => exact .func a o fd ((hx.trans y₂).ext _ _ h1) h2) (.refl _) (fun pos s' z => hs pos s' ((hx.trans y₂).trans z)) (hes pos) fun vs s' z r => hc ov vs s₁ s' (hx.trans x₁) po (x₂.trans z) r)

/-! iterators -/
theorem Itr.range {h₀ : Heap} {h : Heap} {I : Addr} {a c : Int} {n : Nat} (hh : A.handled = none) (hi : IsRangeIter h I a (n : Int) c) (hf : h₀.get? I = none) : Itr prog w A h₀ h (.ref I) n (fun i v => IntV v (a + i * c)) [] :=
  ⟨I, [I], [I], _, rfl, Walks.range hh I a c n, by simpa using hi, fun b hb => by simp at hb; subst hb; exact hf, fun b hb => by simp at hb; subst hb; exact ⟨_, hi⟩, fun i h st b hb => by simp at hb; subst hb; exact ⟨_, _, st, rfl⟩,
    fun b hb => .inl hb, fun i h st => ⟨_, st, "range_iterator", rfl, by decide⟩⟩
theorem Itr.list {h₀ : Heap} {h : Heap} {I l : Addr} {items : Array Value} (hh : A.handled = none) (hne : l ≠ I) (hi : h.IsListIter I l 0) (hl : h.IsList l items) (hf : h₀.get? I = none) : Itr prog w A h₀ h (.ref I) items.size (fun i v => items[i]? = some v) [l] :=
  ⟨I, [I, l], [I], _, rfl, Walks.list hh I l hne items, ⟨hi, hl⟩, fun b hb => by simp at hb; subst hb; exact hf,
    fun b hb => by
      simp at hb
      obtain ⟨o, ho, _⟩ := hi
      obtain ⟨o', ho', _⟩ := hl
      rcases hb with rfl | rfl
      · exact ⟨_, ho⟩
      · exact ⟨_, ho'⟩,
    fun i h st b hb => by simp at hb; subst hb; obtain ⟨⟨o, ho, _, hd⟩, _⟩ := st; exact ⟨_, _, ho, hd⟩,
    fun b hb => by
      simp at hb
      rcases hb with rfl | rfl
      · exact .inl (by simp)
      · exact .inr (by simp),
    fun i h st => by obtain ⟨⟨o, ho, hc, hd⟩, _⟩ := st; exact ⟨_, ho, "list_iterator", hc, by decide⟩⟩
/-- range(n) -/
theorem evi_range1 {np : Pos} {e : PySem.Expr} {n : Nat} (hh : A.handled = none) (hb : Bnd prog w A env s₀.heap "range" (.type "range")) (he : Ev prog w A s₀ env e (fun v _ => IntV v n)) (hn : n < 2 ^ 62)
    (hs : starEach [e] env = [(false, eval e env)] := by rfl) : EvI prog w A s₀ env (.Call (.Name "range" np) [e] [] pos) n (fun i v => IntV v (i : Int)) [] := fun s hx => by
  refine ev_call (s₀ := s) (P := fun v s₁ => T prog w A (pyIter v) (fun it s₂ => Itr prog w A s₁.heap s₂.heap it n (fun i v => IntV v (i : Int)) []) s₁) (hb.mono hx.ext) (.type _) (evs_one (he.at hx) hs) (fun vs s' y ⟨v, e, t, e'⟩ => ?_) (by intro p; rw [hs]; rfl) (by decide) s (.refl _)
  subst e e'
  refine call_range_1 ⟨sx_pushT _ _, ?_⟩
  refine wpAny_pyIter_range (IsRange.new ..) (small_one (by decide) (by decide) (by omega) (by exact_mod_cast hn)) ⟨sx_push _, ?_⟩
  have hsz : Builtin.Range.rangeSize 0 (n : Int) 1 = (n : Int) := by rw [rangeSize_one]; split <;> omega
  rw [hsz]
  generalize hH : s'.heap.push _ = H
  have q := Itr.range (prog := prog) (w := w) (A := A) (h₀ := H) (h := H.push { cls := .type "range_iterator", data := .fields #[rawInt 0, rawInt n, rawInt 1] }) (a := 0) (c := 1) (n := n) hh (Heap.get?_push_size _ rfl) (Ext.refl _).size.1
  simpa using q
/-- range(1, n + 1) and the like -/
theorem evi_range2 {np : Pos} {e e2 : PySem.Expr} {a : Int} {n : Nat} (hh : A.handled = none) (hb : Bnd prog w A env s₀.heap "range" (.type "range")) (he : Ev prog w A s₀ env e (fun v _ => IntV v a)) (he2 : Ev prog w A s₀ env e2 (fun v _ => IntV v (a + n)))
    (ha : 0 ≤ a) (ha' : a < 2 ^ 60) (hn : n < 2 ^ 60) (hs : starEach [e, e2] env = [(false, eval e env), (false, eval e2 env)] := by rfl) (hs2 : starEach [e2] env = [(false, eval e2 env)] := by rfl) :
    EvI prog w A s₀ env (.Call (.Name "range" np) [e, e2] [] pos) n (fun i v => IntV v (a + i)) [] := fun s hx => by
  refine ev_call (s₀ := s) (P := fun v s₁ => T prog w A (pyIter v) (fun it s₂ => Itr prog w A s₁.heap s₂.heap it n (fun i v => IntV v (a + i)) []) s₁) (hb.mono hx.ext) (.type _) (evs_cons (he.at hx) mono_int (evs_one (he2.at hx) hs2) (by rw [hs, hs2])) (fun vs s' y ⟨v, r, e, ⟨t, e1⟩, v2, e3, t2, e4⟩ => ?_) (by intro p; rw [hs]; rfl) (by decide) s (.refl _)
  subst e e1 e3 e4
  refine call_range_2 ⟨sx_pushT _ _, ?_⟩
  refine wpAny_pyIter_range (IsRange.new ..) (small_one (by omega) (by omega) (by omega) (by omega)) ⟨sx_push _, ?_⟩
  have hsz : Builtin.Range.rangeSize a (a + n : Int) 1 = (n : Int) := by rw [rangeSize_one]; split <;> omega
  rw [hsz]
  generalize hH : s'.heap.push _ = H
  have q := Itr.range (prog := prog) (w := w) (A := A) (h₀ := H) (h := H.push { cls := .type "range_iterator", data := .fields #[rawInt a, rawInt n, rawInt 1] }) (a := a) (c := 1) (n := n) hh (Heap.get?_push_size _ rfl) (Ext.refl _).size.1
  simpa using q
/-- a list that is new -/
theorem evix_list {e : PySem.Expr} {n : Nat} {P : Nat → Value → Prop} (hh : A.handled = none) (he : Ev prog w A s₀ env e (fun v s => ∃ a vs, v = .ref a ∧ s.heap.IsList a (List.toArray vs) ∧ vs.length = n ∧ ∀ i y, vs[i]? = some y → P i y)) : EvIx prog w A s₀ env e n P := fun s hx => by
  refine (he s hx).mono fun v s₁ x₁ ⟨a, vs, e, l, hn, hP⟩ => ?_
  subst e hn
  refine wpAny_pyIter_list l ⟨sx_push _, [a], ?_⟩
  have l' := isList_ext l (Ext.push _ { cls := .type "list_iterator", data := .fields #[.ref a, .int 0 0] })
  obtain ⟨o, ho, _⟩ := id l
  have q := Itr.list (prog := prog) (w := w) (A := A) (h₀ := s₁.heap) (I := s₁.heap.objs.size) (l := a) hh (Nat.ne_of_lt (Heap.lt_size ho)) ⟨_, Heap.get?_push_size _ rfl, rfl, rfl⟩ l' (Ext.refl _).size.1
  obtain ⟨I, fp, wr, St, e1, W, r⟩ := q.ex
  exact ⟨I, fp, wr, St, e1, by
    have W' : Walks prog w A I fp wr vs.length (fun i v => vs[i]? = some v) St := by simpa using W
    exact { W' with item := fun i s Q E hi st h => W'.item i s Q E hi st fun x h' tk hp => h x h' tk (hP _ _ hp) }, r⟩
/-- a list -/
theorem evi_list {e : PySem.Expr} {a : Addr} {vs : List Value} (hh : A.handled = none) (he : Ev prog w A s₀ env e (fun v s => v = .ref a ∧ s.heap.IsList a vs.toArray)) : EvI prog w A s₀ env e vs.length (fun i v => vs[i]? = some v) [a] := fun s hx => by
  refine (he s hx).mono fun v s₁ x₁ ⟨e, l⟩ => ?_
  subst e
  refine wpAny_pyIter_list l ⟨sx_push _, ?_⟩
  have l' := isList_ext l (Ext.push _ { cls := .type "list_iterator", data := .fields #[.ref a, .int 0 0] })
  obtain ⟨o, ho, _⟩ := id l
  have q := Itr.list (prog := prog) (w := w) (A := A) (h₀ := s₁.heap) (I := s₁.heap.objs.size) (l := a) hh (Nat.ne_of_lt (Heap.lt_size ho)) ⟨_, Heap.get?_push_size _ rfl, rfl, rfl⟩ l' (Ext.refl _).size.1
  simpa using q
end
end Mine
namespace Mine
section
variable {prog : Program} {w : World} {A : Around} {s₀ : Shared} {env : Env} {pos : Pos}
/-! items -/
theorem ev_subs {value slice : PySem.Expr} {Pv Pi P : Value → Shared → Prop} (hv : Ev prog w A s₀ env value Pv) (hi : Ev prog w A s₀ env slice Pi)
    (hop : ∀ o i s₁ s₂, Sx s₀ s₁ → Pv o s₁ → Sx s₁ s₂ → Pi i s₂ → T prog w A (subscriptTail value slice o i) P s₂) : Ev prog w A s₀ env (.Subscript value slice pos) P := fun s x =>
  Subscript_ ((hv s x).wp fun o s₁ y p => (hi s₁ (x.trans y)).wp fun i s₂ z q => T.from (y.trans z) (hop o i s₁ s₂ (x.trans y) p z q))
theorem t_item_list {value slice : PySem.Expr} {l : Addr} {vs : List Value} {i x : Value} {k : Int} {s : Shared} {P : Value → Shared → Prop} (hl : s.heap.IsList l vs.toArray) (hi : IntV i k) (h0 : 0 ≤ k) (hk : k < 2 ^ 62) (hx : vs[k.toNat]? = some x) (hp : P x s)
    (hs : ∀ u, subscripted slice false (.ref l) (.int k u) = operate [.ref l, .int k u] (getItem (.ref l) (.int k u))) : T prog w A (subscriptTail value slice (.ref l) i) P s := by
  obtain ⟨t, rfl⟩ := hi
  exact tail_any hl.typeIs slot_list_getitem.lookup (wpAny_getItem_list hl h0 (by omega) (by simpa using hx) ⟨.refl _, hp⟩) (hs t)
theorem t_item_listneg {value slice : PySem.Expr} {l : Addr} {vs : List Value} {i x : Value} {k : Int} {s : Shared} {P : Value → Shared → Prop} (hl : s.heap.IsList l vs.toArray) (hi : IntV i k) (h0 : k < 0) (h1 : -(vs.length : Int) ≤ k) (hk : -(2 ^ 62) < k) (hx : vs[(k + vs.length).toNat]? = some x) (hp : P x s)
    (hs : ∀ u, subscripted slice false (.ref l) (.int k u) = operate [.ref l, .int k u] (getItem (.ref l) (.int k u))) : T prog w A (subscriptTail value slice (.ref l) i) P s := by
  obtain ⟨t, rfl⟩ := hi
  exact tail_any hl.typeIs slot_list_getitem.lookup (wpAny_getItem_list_neg hl h0 (by simpa using h1) (by omega) (by simpa using hx) ⟨.refl _, hp⟩) (hs t)
/-- an item of a list that is told by its values -/
theorem ev_item {value slice : PySem.Expr} {vs : List Value} {x : Value} {k : Int} {R : Value → Shared → Prop} (hv : Ev prog w A s₀ env value (fun v s => ∃ l, v = .ref l ∧ s.heap.IsList l vs.toArray)) (hi : Ev prog w A s₀ env slice (fun v _ => IntV v k))
    (h0 : 0 ≤ k) (hk : k < 2 ^ 62) (hx : vs[k.toNat]? = some x) (hs : ∀ l u, subscripted slice false (.ref l) (.int k u) = operate [.ref l, .int k u] (getItem (.ref l) (.int k u)) := by intro _ _; with_unfolding_all rfl) :
    Ev prog w A s₀ env (.Subscript value slice pos) (fun v _ => v = x) :=
  ev_subs hv hi fun o i s₁ s₂ x₁ ⟨l, e, hl⟩ x₂ hi => by subst e; exact t_item_list (isList_ext hl x₂.ext) hi h0 hk hx rfl (hs l)
theorem intsAre_get {vs : List Value} {ns : List Int} (h : IntsAre vs ns) {k : Nat} {n : Int} (hk : ns[k]? = some n) : ∃ t, vs[k]? = some (.int n t) := h.get k n hk
/-- an item of a list of ints -/
theorem ev_itemI {value slice : PySem.Expr} {ns : List Int} {k n : Int} (hv : Ev prog w A s₀ env value (fun v s => LI s.heap v ns)) (hi : Ev prog w A s₀ env slice (fun v _ => IntV v k))
    (h0 : 0 ≤ k) (hx : ns[k.toNat]? = some n) (hk : ns.length < 2 ^ 62) (hs : ∀ l u, subscripted slice false (.ref l) (.int k u) = operate [.ref l, .int k u] (getItem (.ref l) (.int k u)) := by intro _ _; with_unfolding_all rfl) :
    Ev prog w A s₀ env (.Subscript value slice pos) (fun v _ => IntV v n) :=
  ev_subs hv hi fun o i s₁ s₂ x₁ ⟨l, vs, e, hl, h⟩ x₂ hi => by
    subst e
    obtain ⟨t, e⟩ := intsAre_get h hx
    have : k.toNat < ns.length := (List.getElem?_eq_some_iff.mp hx).1
    exact t_item_list (isList_ext hl x₂.ext) hi h0 (by omega) e ⟨t, rfl⟩ (hs l)
theorem ev_itemS {value slice : PySem.Expr} {ns : List Str} {k : Int} {n : Str} (hv : Ev prog w A s₀ env value (fun v s => LS s.heap v ns)) (hi : Ev prog w A s₀ env slice (fun v _ => IntV v k))
    (h0 : 0 ≤ k) (hx : ns[k.toNat]? = some n) (hk : ns.length < 2 ^ 62) (hs : ∀ l u, subscripted slice false (.ref l) (.int k u) = operate [.ref l, .int k u] (getItem (.ref l) (.int k u)) := by intro _ _; with_unfolding_all rfl) :
    Ev prog w A s₀ env (.Subscript value slice pos) (fun v _ => StrV v n) :=
  ev_subs hv hi fun o i s₁ s₂ x₁ ⟨l, vs, e, hl, h⟩ x₂ hi => by
    subst e
    have : ∀ {vs : List Value} {ns : List Str}, StrsAre vs ns → ∀ {k : Nat} {n : Str}, ns[k]? = some n → ∃ t, vs[k]? = some (.str n t) := fun h => by
      induction h with
      | nil => intro k n e; simp at e
      | cons y t h ih => intro k n e; cases k with
        | zero => simp at e; subst e; exact ⟨t, rfl⟩
        | succ k => simpa using ih (by simpa using e)
    obtain ⟨t, e⟩ := this h hx
    have : k.toNat < ns.length := (List.getElem?_eq_some_iff.mp hx).1
    exact t_item_list (isList_ext hl x₂.ext) hi h0 (by omega) e ⟨t, rfl⟩ (hs l)
/-- a sign of a text -/
theorem ev_sign {value slice : PySem.Expr} {x : Str} {k : Int} {c : Nat} (hv : Ev prog w A s₀ env value (fun v _ => StrV v x)) (hi : Ev prog w A s₀ env slice (fun v _ => IntV v k)) (h0 : 0 ≤ k) (hk : k < 2 ^ 62) (hc : x.cps[k.toNat]? = some c)
    (hs : ∀ t u, subscripted slice false (.str x t) (.int k u) = operate [.str x t, .int k u] (getItem (.str x t) (.int k u)) := by intro _ _; with_unfolding_all rfl) :
    Ev prog w A s₀ env (.Subscript value slice pos) (fun v _ => StrV v ⟨#[c]⟩) :=
  ev_subs hv hi fun o i s₁ s₂ x₁ ⟨t, e⟩ x₂ ⟨u, e'⟩ => by
    subst e e'
    have hlt : k.toNat < x.length := by
      obtain ⟨h, _⟩ := Array.getElem?_eq_some_iff.mp hc; exact h
    refine tail_any (typeIs_str _ _ _) PySem.F.slot_str_getitem.lookup (P.getItem_str (c := c) ?_ ?_ ⟨.toks, .mk ..⟩) (hs t u)
    · simp; omega
    · have : seqIndex? k x.length = some k.toNat := by
        unfold seqIndex?
        have h1 : ¬ k < 0 := by omega
        have h2 : (0 ≤ k ∧ k < (x.length : Int)) := ⟨h0, by omega⟩
        simp [h1, h2]
      rw [this]; exact hc
/-! slices -/
theorem ev_slice {value : PySem.Expr} {lower upper : Option PySem.Expr} {p : Pos} {vs : List Value} {lo hi : Option Int} {P : Value → Shared → Prop} (hv : Ev prog w A s₀ env value (fun v s => ∃ l, v = .ref l ∧ s.heap.IsList l vs.toArray))
    (hl : ∀ s, Sx s₀ s → T prog w A (valueOrNone (evalOpt lower env)) (fun v _ => IsPart v lo) s) (hu : ∀ s, Sx s₀ s → T prog w A (valueOrNone (evalOpt upper env)) (fun v _ => IsPart v hi) s) (hz : vs.length ≤ sizeLine)
    (hp : ∀ a s, Sx s₀ s → s₀.heap.get? a = none → s.heap.PlainList a (slicePick vs.toArray lo hi none) → P (.ref a) s) (ht : ∀ o r, letTemporaryGo value o r = Pure.pure () := by intro _ _; rfl) :
    Ev prog w A s₀ env (.Subscript value (.Slice lower upper none p) pos) P := fun s x =>
  wpAny_Subscript_list_slice ((hv s x).wp fun o s₁ y ⟨l, e, hl'⟩ => (hl s₁ (x.trans y)).wp fun vl s₂ z pl => (hu s₂ (x.trans (y.trans z))).wp fun vu s₃ u pu => by
    subst e
    refine ⟨l, vs.toArray, lo, hi, rfl, isList_ext hl' (z.trans u).ext, by simpa using hz, pl, pu, ?_⟩
    have k : Sx s₃ { s₃ with heap := (s₃.heap.push { cls := .type "slice", data := .fields #[vl, vu, .none] }).push { cls := .type "list", data := .seq (slicePick vs.toArray lo hi none) } } := ⟨(Ext.push _ _).trans (Ext.push _ _), rfl, fun _ _ e => e, id⟩
    refine ⟨(y.trans (z.trans u)).trans k, hp _ _ ((x.trans (y.trans (z.trans u))).trans k) ?_ ?_⟩
    · have q := (x.trans (y.trans (z.trans u))).ext.trans (Ext.push _ { cls := .type "slice", data := .fields #[vl, vu, .none] })
      have := q.size.2
      rwa [Heap.size_push] at this
    · have := Heap.get?_push_size (s₃.heap.push { cls := .type "slice", data := .fields #[vl, vu, .none] }) (o := { cls := .type "list", data := .seq (slicePick vs.toArray lo hi none) }) rfl
      rw [Heap.size_push] at this
      exact ⟨0, this⟩) ht
theorem part_none {s : Shared} : T prog w A (valueOrNone (evalOpt none env)) (fun v _ => IsPart v none) s := wpAny_pure ⟨.refl _, .none⟩
theorem part_some {e : PySem.Expr} {k : Int} {s : Shared} (h : Ev prog w A s₀ env e (fun v _ => IntV v k)) (hx : Sx s₀ s) : T prog w A (valueOrNone (evalOpt (some e) env)) (fun v _ => IsPart v (some k)) s :=
  (h s hx).mono fun v s' _ ⟨t, e⟩ => e ▸ .int k t

/-! lists joined, compared, looked in -/
theorem t_add_list {l b : Addr} {vs ws : List Value} {s : Shared} {P : Value → Shared → Prop} (hl : s.heap.IsList l vs.toArray) (hb : s.heap.IsList b ws.toArray) (hz : vs.length + ws.length ≤ sizeLine)
    (hp : ∀ a s', Sx s s' → s.heap.get? a = none → s'.heap.IsList a (vs ++ ws).toArray → P (.ref a) s') : T prog w A (binaryOp .Add (.ref l) (.ref b)) P s := by
  obtain ⟨⟨cls, dd, data, sl⟩, ho, hc, n, hd⟩ := id hl
  obtain ⟨⟨cls2, dd2, data2, sl2⟩, ho2, hc2, n2, hd2⟩ := id hb
  simp only at hc hd hc2 hd2
  subst hc hd hc2 hd2
  have e : vs.toArray ++ ws.toArray = (vs ++ ws).toArray := by simp
  refine concat_meets ⟨_, ho, rfl⟩ ⟨_, ho2, rfl⟩ noFill_list_add seq_list_add PySem.F.slot_list_add PySem.F.entry_list_add (PySem.F.args_list_add_2 _ _) (list_addW l b vs.toArray ws.toArray n n2 dd dd2 sl sl2 (by simpa using hz)) ⟨ho, ho2, ?_⟩
  rw [e]
  exact ⟨sx_push _, hp _ _ (sx_push _) (Ext.refl _).size.1 ⟨_, Heap.get?_push_size _ rfl, rfl, 0, rfl⟩⟩
theorem ev_addI {l r : PySem.Expr} {ns ms : List Int} (hl : Ev prog w A s₀ env l (fun v s => LI s.heap v ns)) (hr : Ev prog w A s₀ env r (fun v s => LI s.heap v ms)) (hz : ns.length + ms.length ≤ sizeLine) :
    Ev prog w A s₀ env (.BinOp l .Add r pos) (fun v s => LI s.heap v (ns ++ ms)) :=
  ev_bin hl hr fun a b s₁ s₂ x₁ ⟨la, vs, e, h1, h2⟩ x₂ ⟨lb, ws, e', h1', h2'⟩ => by
    subst e e'
    exact t_add_list (isList_ext h1 x₂.ext) h1' (by rw [h2.length, h2'.length]; exact hz) fun a s' _ _ h => ⟨a, _, rfl, h, h2.append h2'⟩
def Rds (v : Value) (d : PyData) (s : Shared) : Prop := ∃ as, Reads s.heap v d as
theorem evb_ne_same {l r : PySem.Expr} {d : PyData} (hh : A.units + d.depth < cLine) (hl : Ev prog w A s₀ env l (fun v s => Rds v d s)) (hm : ∀ v s s', Sx s s' → Rds v d s → Rds v d s') (hr : Ev prog w A s₀ env r (fun v s => Rds v d s)) (hc : d.canLay0 = true)
    (hb : behindInMarks .NotEq r = false := by with_unfolding_all rfl) : EvB prog w A s₀ env (.Compare l [.NotEq] [r] pos) false :=
  evb_cmp hl hr (fun a b s₁ s₂ x₁ p x₂ q => by
    obtain ⟨as, ra⟩ := hm _ _ _ x₂ p
    obtain ⟨bs, rb⟩ := q
    exact PySem.SeqAt.compareNe_reads ra rb hc hc (by rw [Nat.min_self]; exact hh) ⟨.refl _, by rw [PySem.SeqAt.eqv_refl _ hc]; rfl⟩) hb
theorem evb_eq_reads {l r : PySem.Expr} {d d' : PyData} (hh : A.units + d.depth < cLine) (hl : Ev prog w A s₀ env l (fun v s => Rds v d s)) (hm : ∀ v s s', Sx s s' → Rds v d s → Rds v d s') (hr : Ev prog w A s₀ env r (fun v s => Rds v d' s)) (hc : d.canLay0 = true) (hc' : d'.canLay0 = true)
    (hb : behindInMarks .Eq r = false := by with_unfolding_all rfl) : EvB prog w A s₀ env (.Compare l [.Eq] [r] pos) (PyData.eqv d d') :=
  evb_cmp hl hr (fun a b s₁ s₂ x₁ p x₂ q => by
    obtain ⟨as, ra⟩ := hm _ _ _ x₂ p
    obtain ⟨bs, rb⟩ := q
    exact PySem.SeqAt.compareEq_reads ra rb hc hc' (Nat.lt_of_le_of_lt (Nat.add_le_add_left (Nat.min_le_left _ _) _) hh) ⟨.refl _, rfl⟩) hb
theorem evb_ne_reads {l r : PySem.Expr} {d d' : PyData} (hh : A.units + d.depth < cLine) (hl : Ev prog w A s₀ env l (fun v s => Rds v d s)) (hm : ∀ v s s', Sx s s' → Rds v d s → Rds v d s') (hr : Ev prog w A s₀ env r (fun v s => Rds v d' s)) (hc : d.canLay0 = true) (hc' : d'.canLay0 = true)
    (hb : behindInMarks .NotEq r = false := by with_unfolding_all rfl) : EvB prog w A s₀ env (.Compare l [.NotEq] [r] pos) (!PyData.eqv d d') :=
  evb_cmp hl hr (fun a b s₁ s₂ x₁ p x₂ q => by
    obtain ⟨as, ra⟩ := hm _ _ _ x₂ p
    obtain ⟨bs, rb⟩ := q
    exact PySem.SeqAt.compareNe_reads ra rb hc hc' (Nat.lt_of_le_of_lt (Nat.add_le_add_left (Nat.min_le_left _ _) _) hh) ⟨.refl _, rfl⟩) hb
theorem evb_inI {l r : PySem.Expr} {k : Int} {ns : List Int} (hl : Ev prog w A s₀ env l (fun v _ => IntV v k)) (hr : Ev prog w A s₀ env r (fun v s => LI s.heap v ns)) (hb : behindInMarks .In r = false := by with_unfolding_all rfl) :
    EvB prog w A s₀ env (.Compare l [.In] [r] pos) (ns.any (· == k)) :=
  evb_cmp hl hr (fun a b s₁ s₂ x₁ ⟨t, e⟩ x₂ ⟨la, vs, e', h1, h2⟩ => by subst e e'; exact in_list_ints h1 h2 ⟨.refl _, rfl⟩) hb

/-! builtins -/
theorem ev_lenI {np : Pos} {e : PySem.Expr} {ns : List Int} (hb : Bnd prog w A env s₀.heap "len" (.builtin "len")) (he : Ev prog w A s₀ env e (fun v s => LI s.heap v ns)) (hz : ns.length < 2 ^ 62) (hs : starEach [e] env = [(false, eval e env)] := by rfl) :
    Ev prog w A s₀ env (.Call (.Name "len" np) [e] [] pos) (fun v _ => IntV v ns.length) :=
  ev_call hb (.builtin _) (evs_one he hs) (fun vs s' x ⟨v, e, a, ws, e', h1, h2⟩ => by
    subst e e'
    refine call_len_list h1 (by simp only [List.size_toArray]; rw [h2.length]; omega) ⟨.toks, ?_⟩
    simp only [List.size_toArray]; rw [h2.length]; exact .mk ..) (by intro p; rw [hs]; rfl) (by decide)
theorem ev_strI {np : Pos} {e : PySem.Expr} {k : Int} (hb : Bnd prog w A env s₀.heap "str" (.type "str")) (he : Ev prog w A s₀ env e (fun v _ => IntV v k)) (hz : k.natAbs.log2 < 1920) (hs : starEach [e] env = [(false, eval e env)] := by rfl) :
    Ev prog w A s₀ env (.Call (.Name "str" np) [e] [] pos) (fun v _ => StrV v (Str.ofString (toString k))) :=
  ev_call hb (.type _) (evs_one he hs) (fun vs s' x ⟨v, e, t, e'⟩ => by subst e e'; exact P.str_of_int hz ⟨.toks, .mk ..⟩) (by intro p; rw [hs]; rfl) (by decide)
theorem ev_type {np : Pos} {e : PySem.Expr} {Tx : String} {Pv : Value → Shared → Prop} (hb : Bnd prog w A env s₀.heap "type" (.type "type")) (he : Ev prog w A s₀ env e Pv) (ht : ∀ v s, Sx s₀ s → Pv v s → s.TypeIs v Tx) (hn : (Value.type Tx == Value.type "builtin_function_or_method") = false) (hs : starEach [e] env = [(false, eval e env)] := by rfl) :
    Ev prog w A s₀ env (.Call (.Name "type" np) [e] [] pos) (fun v _ => v = .type Tx) :=
  ev_call hb (.type _) (evs_one he hs) (fun vs s' x ⟨v, e, p⟩ => by subst e; exact call_type_of (ht _ _ x p) hn ⟨.refl _, rfl⟩) (by intro p; rw [hs]; rfl) (by decide)
theorem ev_lower {o : PySem.Expr} {apos : Pos} {x : Str} (ho : Ev prog w A s₀ env o (fun v _ => StrV v x)) (hf : x.length ≤ 5592405) (pl : Sem Bool)
    (he : eval (.Call (.Attribute o "lower" apos) [] [] pos) env = (do
      let ov ← eval o env
      standAt apos.atName
      let (f, first) ← holding [ov] (getMethod ov "lower" pl)
      callWith pos f first (backTo pos (starEach [] env)) []) := by rfl) : Ev prog w A s₀ env (.Call (.Attribute o "lower" apos) [] [] pos) (fun v _ => StrV v (Txt.lower x)) :=
  ev_meth (f := .builtin "str.lower") (pl := pl) ho (fun ov s hx ⟨t, e⟩ => by
      subst e
      show wpAny (model prog w) A (getMethod (.str x t) (Str.ofString "lower") pl) (fun fx s' => Sx s s' ∧ fx = (.builtin "str.lower", [.str x t])) NoE s
      exact GM.lower ⟨.refl _, rfl⟩) (.builtin _) evs_nil (fun ov vs s s' hx ⟨t, e⟩ y e' => by
      subst e e'
      show wpAny (model prog w) A (call (.builtin "str.lower") [.str x t]) _ _ s'
      exact SCL.lower hf fun _ => ⟨.toks, .mk ..⟩) (by intro _; rfl) he
end
end Mine
namespace Mine
open_top hd for PySem.Challenge.rw_ph0159_01
end Mine
namespace Mine
structure Wd (w : World) (h : Heap) : Prop where
  K : (hd.heap_39 w.params).In h
  top : ∃ mg mb, h.Ns mainGlobals mg ∧ h.Ns builtinsNs mb ∧ ∀ x : Str, x ≠ "__name__" → mb x = bootBuiltins x
  lim : h.NoLimit
theorem Wd.mono {w : World} {h h' : Heap} (W : Wd w h) (e : Ext h h') : Wd w h' :=
  ⟨W.K.keeps e, let ⟨mg, mb, a, b, c⟩ := W.top; ⟨mg, mb, a.keeps e, b.keeps e, c⟩, W.lim.keeps e⟩
structure GEnv (env : Env) : Prop where
  g : env.globals = mainGlobals
  b : env.builtins = builtinsNs
  k : env.scope.kind = .function
section
variable {prog : Program} {w : World} {A : Around} {env : Env} {h : Heap}
theorem Wd.glob (W : Wd w h) (G : GEnv env) {x : Str} {v : Value} (hk : env.kindOf x = some .globalImplicit) (e : nsIn (hd.heap_39 w.params) mainGlobals x = some (some v)) : Bnd prog w A env h x v := by
  intro s Q E ext q
  obtain ⟨mg, mb, a, b, c⟩ := (W.mono ext).top
  have hm := mg_of (W.mono ext).K a e
  unfold loadName
  simp only [Env.blockKind, G.k, hk, ScopeKind.isAnnotationScope, Bool.false_and, Bool.false_eq_true, if_false]
  unfold loadGlobal
  rw [G.g]
  refine wpAny_bind (wpAny_nsGet a ?_)
  rw [hm]
  exact wpAny_pure q
theorem Wd.blt (W : Wd w h) (G : GEnv env) {x : Str} {v : Value} (hk : env.kindOf x = some .globalImplicit) (e : nsIn (hd.heap_39 w.params) mainGlobals x = some none) (hb : bootBuiltins x = some v) (hx : x ≠ "__name__") : Bnd prog w A env h x v := by
  intro s Q E ext q
  obtain ⟨mg, mb, a, b, c⟩ := (W.mono ext).top
  have hm := mg_none_of (W.mono ext).K a e
  unfold loadName
  simp only [Env.blockKind, G.k, hk, ScopeKind.isAnnotationScope, Bool.false_and, Bool.false_eq_true, if_false]
  unfold loadGlobal
  rw [G.g, G.b]
  refine wpAny_bind (wpAny_nsGet a ?_)
  rw [hm]
  refine wpAny_bind (wpAny_nsGet b ?_)
  rw [c x hx, hb]
  exact wpAny_pure q
end
theorem g_Headers (w : World) : nsIn (hd.heap_39 w.params) mainGlobals "Headers" = some (some (.ref 203)) := by kernel_rfl
theorem g_groups (w : World) : nsIn (hd.heap_39 w.params) mainGlobals "_law_groups" = some (some (.ref 214)) := by kernel_rfl
theorem g_alike (w : World) : nsIn (hd.heap_39 w.params) mainGlobals "_law_alike" = some (some (.ref 219)) := by kernel_rfl
theorem g_check (w : World) : nsIn (hd.heap_39 w.params) mainGlobals "_check_parenthesis" = some (some (.ref 59)) := by kernel_rfl
theorem g_strip (w : World) : nsIn (hd.heap_39 w.params) mainGlobals "_strip_quoted_realnames" = some (some (.ref 52)) := by kernel_rfl
theorem g_iter (w : World) : nsIn (hd.heap_39 w.params) mainGlobals "_iter_escaped_chars" = some (some (.ref 45)) := by kernel_rfl
theorem g_nameRe (w : World) : nsIn (hd.heap_39 w.params) mainGlobals "_name_disallowed_re" = some (some (.ref 69)) := by kernel_rfl
theorem g_valRe (w : World) : nsIn (hd.heap_39 w.params) mainGlobals "_value_disallowed_re" = some (some (.ref 74)) := by kernel_rfl
theorem n_range (w : World) : nsIn (hd.heap_39 w.params) mainGlobals "range" = some none := by kernel_rfl
theorem n_len (w : World) : nsIn (hd.heap_39 w.params) mainGlobals "len" = some none := by kernel_rfl
theorem n_str (w : World) : nsIn (hd.heap_39 w.params) mainGlobals "str" = some none := by kernel_rfl
theorem n_min (w : World) : nsIn (hd.heap_39 w.params) mainGlobals "min" = some none := by kernel_rfl
theorem n_type (w : World) : nsIn (hd.heap_39 w.params) mainGlobals "type" = some none := by kernel_rfl
theorem n_bool (w : World) : nsIn (hd.heap_39 w.params) mainGlobals "bool" = some none := by kernel_rfl
theorem n_list (w : World) : nsIn (hd.heap_39 w.params) mainGlobals "list" = some none := by kernel_rfl
theorem n_enumerate (w : World) : nsIn (hd.heap_39 w.params) mainGlobals "enumerate" = some none := by kernel_rfl
theorem b_range : bootBuiltins "range" = some (.type "range") := by decide +kernel
theorem b_len : bootBuiltins "len" = some (.builtin "len") := by decide +kernel
theorem b_str : bootBuiltins "str" = some (.type "str") := by decide +kernel
theorem b_min : bootBuiltins "min" = some (.builtin "min") := by decide +kernel
theorem b_type : bootBuiltins "type" = some (.type "type") := by decide +kernel
theorem b_bool : bootBuiltins "bool" = some (.type "bool") := by decide +kernel
theorem b_list : bootBuiltins "list" = some (.type "list") := by decide +kernel
theorem b_enumerate : bootBuiltins "enumerate" = some (.type "enumerate") := by decide +kernel
/-- the objects of the top -/
noncomputable def objAt (w : World) (a : Addr) : Obj := ((hd.heap_39 w.params).lookup a).getD default
theorem at_203 (w : World) : (hd.heap_39 w.params).lookup 203 = some (objAt w 203) := by kernel_rfl
end Mine
namespace Mine
theorem pa_pat : PlainAttrs "re.Pattern" :=
  ⟨⟨"object.__getattribute__", by rw [typeLookup_type, builtinLookup_eq_fast]; kernel_rfl, by decide +kernel⟩, by rw [typeLookup_type, builtinLookup_eq_fast]; kernel_rfl⟩
theorem slot_search : Slot "re.Pattern" "search" "re.Pattern.search" :=
  .of (owner := "re.Pattern") (n := "search") (by rw [typeLookup_type, builtinLookup_eq_fast]; kernel_rfl) (by decide +kernel) (by decide +kernel) (by decide +kernel)
    (by first | exact .inl (by decide +kernel) | exact .inr (by decide +kernel)) (by rw [isSubtype_type]; kernel_rfl)
theorem type_search : typeOf (.builtin "re.Pattern.search") = pure (.type "method_descriptor") := by show builtinType _ = _; rw [builtinType_eq_fast]; kernel_rfl
theorem entry_search : entryFor table "re.Pattern.search" = some Builtin.«re.Pattern.search» := entryFor_of_tree (by kernel_rfl)
theorem owner_pat : Manifest.owners.lookup (String.ofList ['n', 'r', 'e', 't', 't', 'a', 'P', '.', 'e', 'r'].reverse) = some Manifest.sig_re_Pattern := by kernel_rfl
theorem args_search (a b : Value) : argsOk "re.Pattern.search" ⟨[a, b], []⟩ := by
  unfold argsOk; rw [signature?_of (id := "re.Pattern.search") (n := ['h', 'c', 'r', 'a', 'e', 's']) (o := ['n', 'r', 'e', 't', 't', 'a', 'P', '.', 'e', 'r']) (by kernel_rfl) owner_pat]; kernel_rfl

/-- a tree of rules alone -/
def quietOf {α : Type} : Nat → Sem α → Option α
  | 0, _ => none
  | n + 1, .rule _ k => quietOf n (k ())
  | _ + 1, .pure a => some a
  | _ + 1, _ => none
theorem quietOf_wp {M : Model} {A : Around} {E : Value → Shared → Prop} {α : Type} {Q : α → Shared → Prop} {s : Shared} : ∀ {n : Nat} {t : Sem α} {a : α}, quietOf n t = some a → Q a s → wpAny M A t Q E s
  | 0, _, _, h, _ => by cases h
  | n + 1, t, a, h, q => by
    cases t with
    | pure b => simp only [quietOf, Option.some.injEq] at h; subst h; exact wpAny_pure q
    | rule tag k =>
      have h' : quietOf n (k ()) = some a := h
      have := quietOf_wp (M := M) (A := A) (E := E) h' q
      exact wpAny_bind (m := rule tag) (f := k) (wpAny_rule this)
    | _ => cases h
def isNoneNone {α : Type} : Option (Option α) → Bool
  | some none => true
  | _ => false
theorem isNoneNone_eq {α : Type} {x : Option (Option α)} (h : isNoneNone x = true) : x = some none := by
  cases x with
  | none => cases h
  | some y => cases y with
    | none => rfl
    | some _ => cases h
/-- the signs of the headers here -/
def signsHere : List Nat := [65, 66, 67, 68, 69, 70, 97, 98, 99, 100, 101, 102, 48, 49, 50, 51, 52, 53, 40, 41]
def nameCode : Array Nat := #[14, 10, 4, 1, 1, 22, 0, 31, 16, 127, 0, 13, 7, 22, 0, 31, 16, 127, 0, 1]
def valCode : Array Nat := #[14, 14, 4, 1, 1, 9, 4294966783, 0, 0, 2147483648, 0, 0, 0, 0, 0, 13, 11, 9, 4294966783, 0, 0, 2147483648, 0, 0, 0, 0, 0, 1]
def misses (code : Array Nat) (c : Nat) : Bool := isNoneNone (quietOf 200 (Builtin.Re.reRunToEnd (Sre.forSearch code #[c] 0 0 1 false)))
theorem nameCode_misses : signsHere.all (misses nameCode) = true := by decide +kernel
theorem valCode_misses : signsHere.all (misses valCode) = true := by decide +kernel
end Mine
namespace Mine
theorem reNamed_one (v : Value) : Builtin.Re.reNamed "re.Pattern.search" "search" ["string", "pos", "endpos"] 1 [v] [] = (pure [some v, none, none] : Sem _) := by kernel_rfl
/-- a pattern of the top, with its code -/
structure PatAt (h : Heap) (a : Addr) (code : Array Nat) : Prop where
  ex : ∃ op fs c oc items n, h.get? a = some op ∧ op.cls = .type "re.Pattern" ∧ op.dict = none ∧ op.data = .fields fs ∧ fs.getD 5 .none = .ref c ∧ Builtin.Re.reRawNat (fs.getD 6 .none) = 0 ∧ Builtin.Re.reRawNat (fs.getD 2 .none) = 0 ∧
    h.get? c = some oc ∧ oc.data = .seq items n ∧ (items.map Builtin.Re.reRawOf).map (·.toNat) = code
theorem PatAt.mono {h h' : Heap} {a : Addr} {code : Array Nat} (p : PatAt h a code) (e : Ext h h') : PatAt h' a code :=
  let ⟨op, fs, c, oc, items, n, h1, h2, h3, h4, h5, h6, h7, h8, h9⟩ := p.ex; ⟨op, fs, c, oc, items, n, e _ _ h1, h2, h3, h4, h5, h6, h7, e _ _ h8, h9⟩
theorem pat_name {w : World} {h : Heap} (W : Wd w h) : PatAt h 69 nameCode :=
  ⟨{ cls := .type "re.Pattern", data := .fields #[.str (Str.ofString "[\\x00-\\x1F\\x7F]") 360, .int 32 383, .int 0 0, .none, .none, .ref 68, .int 0 0] }, _, 68, { cls := .type "tuple", data := .seq #[.int 14 0, .int 10 0, .int 4 0, .int 1 0, .int 1 0, .int 22 0, .int 0 0, .int 31 0, .int 16 0, .int 127 0, .int 0 0, .int 13 0, .int 7 0, .int 22 0, .int 0 0, .int 31 0, .int 16 0, .int 127 0, .int 0 0, .int 1 0] }, _, _, W.K 69 _ (by kernel_rfl), rfl, rfl, rfl, rfl, rfl, rfl, W.K 68 _ (by kernel_rfl), rfl, by decide +kernel⟩
theorem pat_val {w : World} {h : Heap} (W : Wd w h) : PatAt h 74 valCode :=
  ⟨{ cls := .type "re.Pattern", data := .fields #[.str (Str.ofString "[\\x00-\\x08\\x0A-\\x1F\\x7F]") 386, .int 32 417, .int 0 0, .none, .none, .ref 73, .int 0 0] }, _, 73, { cls := .type "tuple", data := .seq #[.int 14 0, .int 14 0, .int 4 0, .int 1 0, .int 1 0, .int 9 0, .int 4294966783 0, .int 0 0, .int 0 0, .int 2147483648 0, .int 0 0, .int 0 0, .int 0 0, .int 0 0, .int 0 0, .int 13 0, .int 11 0, .int 9 0, .int 4294966783 0, .int 0 0, .int 0 0, .int 2147483648 0, .int 0 0, .int 0 0, .int 0 0, .int 0 0, .int 0 0, .int 1 0] }, _, _, W.K 74 _ (by kernel_rfl), rfl, rfl, rfl, rfl, rfl, rfl, W.K 73 _ (by kernel_rfl), rfl, by decide +kernel⟩
section
variable {prog : Program} {w : World} {A : Around} {s : Shared}
theorem t_search {a : Addr} {code : Array Nat} {ch : Nat} {t : Tok} (p : PatAt s.heap a code) (hm : misses code ch = true) : T prog w A (call (.builtin "re.Pattern.search") [.ref a, .str ⟨#[ch]⟩ t]) (fun v _ => v = .none) s := by
  obtain ⟨op, fs, c, oc, items, n, h1, h2, h3, h4, h5, h6, h7, h8, h9, h10⟩ := p.ex
  refine wpAny_call_entry slot_search ⟨op, h1, h2⟩ entry_search ?_ (args_search _ _)
  unfold Builtin.«re.Pattern.search»
  refine wpAny_bind ?_
  unfold Builtin.Re.reTarget
  dsimp only
  rw [reNamed_one]
  refine wpAny_bind (wpAny_pure ?_)
  dsimp only
  refine wpAny_bind (wpAny_pure (wpAny_bind (wpAny_pure ?_)))
  refine wpAny_bind (wpAny_fieldsOf h1 h4 ?_)
  refine wpAny_bind (wpAny_pure ?_)
  dsimp only
  rw [h6]
  simp only [beq_self_eq_true, Bool.true_and, Bool.false_and, Bool.and_false, Bool.false_eq_true, if_false, show ((0 : Nat) == 1) = false from rfl]
  refine wpAny_bind (wpAny_pure ?_)
  rw [h5, h7]
  refine wpAny_bind ?_
  unfold Builtin.Re.reRawItems
  refine wpAny_bind (wpAny_seqItems h8 h9 (wpAny_pure (wpAny_pure ?_)))
  dsimp only [Option.getD]
  rw [h10]
  unfold Builtin.Re.reAnswer
  refine wpAny_bind ?_
  have hq := isNoneNone_eq hm
  refine quietOf_wp (n := 200) (a := none) ?_ (wpAny_pure ⟨_, rfl, .refl _, rfl⟩)
  exact hq
end
end Mine
namespace Mine
def retOf : Flow → Value
  | .ret v => v
  | _ => .none
section
variable {prog : Program} {w : World} {A : Around}
theorem FrC.sx {env : Env} {m cm : Str → Option Value} {s₁ s₂ s' : Shared} (F : FrC s₁.heap env m cm s'.heap) (x : Sx s₁ s₂) (b : Bx env s₂ s') : Sx s₁ s' :=
  ⟨F.keep, b.os.trans x.os, fun i g e => b.gens i g (x.gens i g e), fun q => b.bare (x.bare q)⟩
theorem FrC.less {h₀ h₁ h : Heap} {env : Env} {m cm : Str → Option Value} (F : FrC h₁ env m cm h) (e : Ext h₀ h₁) : FrC h₀ env m cm h := by
  refine ⟨F.ns, e.trans F.keep, ?_, F.cell, F.apart, fun n c hc => ?_⟩
  · cases q : h₀.get? env.locals with
    | none => rfl
    | some o => have := e _ _ q; rw [F.newL] at this; cases this
  · cases q : h₀.get? c with
    | none => rfl
    | some o => have := e _ _ q; rw [F.newC n c hc] at this; cases this
/-- a call of a def of the text -/
theorem fn_code {f : Addr} {o : Obj} {fd : FuncData} {body : List Stmt} {pos : List Value} {kw : List (Str × Value)} {bs : List (Str × Value)} {s s₁ : Shared} {R : Result → Shared → Prop}
    (hroom : A.depth < recursionLimit) (ho : s.heap.get? f = some o) (hd : o.data = .func fd) (hbody : fd.body = .stmts body) (hcd : s.heap.CodeRec fd.code fd.qualname) (hlim : s.heap.NoLimit)
    (hco : fd.scope.isCoroutine = false) (hgen : fd.scope.isGenerator = false) (hk : fd.scope.kind = .function) (hclo : fd.closure = [])
    (hb : wpAny (model prog w) A.in1 (bindArgs fd ⟨pos, kw⟩) (fun binds s' => binds = bs ∧ s' = s₁) NoE s) (hx : Sx s s₁)
    (hkind : ∀ n, ∀ x ∈ bs, fd.scope.names.lookup x.1 = some .local ∨ (fd.scope.names.lookup x.1 = some .cell ∧ ((cellsFrom n fd.scope.names []).lookup x.1).isSome = true))
    (h : ∀ s₂, FrC s₁.heap (callEnvC fd s₁.heap.objs.size f) (bindL (callEnvC fd s₁.heap.objs.size f).kindOf bs fun _ => none) (bindC (callEnvC fd s₁.heap.objs.size f).kindOf bs fun _ => none) s₂.heap → Sx s₁ s₂ →
      wpAny (model prog w) (A.deeper (callEnvC fd s₁.heap.objs.size f)) (execs body (callEnvC fd s₁.heap.objs.size f)) (fun fl s' => R (.ok (.ret (retOf fl))) s') NoE s₂) :
    codeAny (model prog w) A (.call (.ref f) ⟨pos, kw⟩) R s := by
  refine codeAny_call_function hroom ho hd hco hgen hbody hcd (wpAny_mono hb (fun binds s' e => ?_) fun _ _ f => f.elim)
  obtain ⟨rfl, rfl⟩ := e
  rw [hclo]
  refine wpAny_newFunctionEnv_cells hk (hkind _) fun env he s₂ x => ?_
  subst he
  have hs : ∃ h t, s₂ = { s' with heap := h, toks := t } := x.toInCall.same
  have sx₂ : Sx s' s₂ := by obtain ⟨h, t, rfl⟩ := hs; exact ⟨x.toInCall.keep, rfl, fun _ _ e => e, id⟩
  have nf : ∀ a, s'.heap.objs.size ≤ a → s'.heap.get? a = none := fun a ha => by
    cases e : s'.heap.get? a with
    | none => rfl
    | some o' => exact absurd (Heap.lt_size e) (Nat.not_lt.mpr ha)
  have F : FrC s'.heap (callEnvC fd s'.heap.objs.size f) (bindL (callEnvC fd s'.heap.objs.size f).kindOf binds fun _ => none) (bindC (callEnvC fd s'.heap.objs.size f).kindOf binds fun _ => none) s₂.heap := by
    have hlow : s'.heap.objs.size ≤ (callEnvC fd s'.heap.objs.size f).locals := x.toInCall.fresh
    exact ⟨x.toInCall.ns, x.toInCall.keep, nf _ hlow, x.cell, x.apart, fun n c hc => nf c (Nat.le_of_lt (Nat.lt_of_le_of_lt hlow (x.above n c (mem_of_lookup hc))))⟩
  refine ⟨(hlim.keeps hx.ext).keeps sx₂.ext, codeAny_func (wpAny_mono (h s₂ F sx₂) (fun fl s₃ r => ?_) fun _ _ f => f.elim)⟩
  cases fl <;> exact r
theorem fn_enter {f : Addr} {o : Obj} {fd : FuncData} {body : List Stmt} {pos : List Value} {kw : List (Str × Value)} {bs : List (Str × Value)} {s s₁ : Shared} {P : Value → Shared → Prop}
    (hroom : A.depth < recursionLimit) (ho : s.heap.get? f = some o) (hd : o.data = .func fd) (hbody : fd.body = .stmts body) (hcd : s.heap.CodeRec fd.code fd.qualname) (hlim : s.heap.NoLimit)
    (hco : fd.scope.isCoroutine = false) (hgen : fd.scope.isGenerator = false) (hk : fd.scope.kind = .function) (hclo : fd.closure = [])
    (hb : wpAny (model prog w) A.in1 (bindArgs fd ⟨pos, kw⟩) (fun binds s' => binds = bs ∧ s' = s₁) NoE s) (hx : Sx s s₁)
    (hkind : ∀ n, ∀ x ∈ bs, fd.scope.names.lookup x.1 = some .local ∨ (fd.scope.names.lookup x.1 = some .cell ∧ ((cellsFrom n fd.scope.names []).lookup x.1).isSome = true))
    (h : ∀ s₂, FrC s₁.heap (callEnvC fd s₁.heap.objs.size f) (bindL (callEnvC fd s₁.heap.objs.size f).kindOf bs fun _ => none) (bindC (callEnvC fd s₁.heap.objs.size f).kindOf bs fun _ => none) s₂.heap → Sx s₁ s₂ →
      wpAny (model prog w) (A.deeper (callEnvC fd s₁.heap.objs.size f)) (execs body (callEnvC fd s₁.heap.objs.size f))
        (fun fl s' => (∃ m cm, FrC s₁.heap (callEnvC fd s₁.heap.objs.size f) m cm s'.heap) ∧ Bx (callEnvC fd s₁.heap.objs.size f) s₂ s' ∧ P (retOf fl) s') NoE s₂) :
    T prog w A (call (.ref f) pos kw) P s :=
  wpAny_call (fn_code hroom ho hd hbody hcd hlim hco hgen hk hclo hb hx hkind fun s₂ F sx => wpAny_mono (h s₂ F sx) (fun fl s' ⟨⟨m, cm, F'⟩, b, p⟩ => ⟨hx.trans (F'.sx sx b), p⟩) fun _ _ f => f.elim)
end
end Mine
namespace Mine
section
variable {prog : Program} {w : World} {A : Around} {s : Shared} {env : Env} {h₀ : Heap} {m cm : Str → Option Value} {pos : Pos} {Q : Flow → Shared → Prop}
theorem x_assignL {x : Str} {p : Pos} {e : PySem.Expr} {P : Value → Shared → Prop} (F : FrC h₀ env m cm s.heap) (he : Ev prog w A s env e P) (hk : env.scope.kind = .function) (hl : env.kindOf x = some .local)
    (k : ∀ v s₁ s₂, Sx s s₁ → P v s₁ → FrC h₀ env (upd m x v) cm s₂.heap → Bx env s₁ s₂ → Q .next s₂) (hs : swapsWith e (some (.Name x p)) pos.line env = Pure.pure false := by rfl) :
    wpAny (model prog w) A (exec (.Assign [.Name x p] e pos) env) Q NoE s :=
  wpAny_Assign_Name ((he s (.refl _)).wp fun v s₁ y pv => (F.ext y.ext).storeL hk hl fun s₂ F₂ b => k v s₁ s₂ y pv F₂ b) hs
theorem x_assignC {x : Str} {p : Pos} {e : PySem.Expr} {c : Addr} {P : Value → Shared → Prop} (F : FrC h₀ env m cm s.heap) (he : Ev prog w A s env e P) (hk : env.scope.kind = .function) (hl : env.kindOf x = some .cell) (hc : env.cells.lookup x = some c)
    (k : ∀ v s₁ s₂, Sx s s₁ → P v s₁ → FrC h₀ env m (upd cm x v) s₂.heap → Bx env s₁ s₂ → Q .next s₂) (hs : swapsWith e (some (.Name x p)) pos.line env = Pure.pure false := by rfl) :
    wpAny (model prog w) A (exec (.Assign [.Name x p] e pos) env) Q NoE s :=
  wpAny_Assign_Name ((he s (.refl _)).wp fun v s₁ y pv => (F.ext y.ext).storeC hk hl hc fun s₂ F₂ b => k v s₁ s₂ y pv F₂ b) hs
theorem x_if {test : PySem.Expr} {body orelse : List Stmt} {b : Bool} (ht : EvB prog w A s env test b) (k1 : b = true → ∀ s₁, Sx s s₁ → wpAny (model prog w) A (execs body env) Q NoE s₁) (k2 : b = false → ∀ s₁, Sx s s₁ → wpAny (model prog w) A (execs orelse env) Q NoE s₁) :
    wpAny (model prog w) A (exec (.If test body orelse pos) env) Q NoE s :=
  wpAny_If ((ht s (.refl _)).wp fun r s₁ y e => by
    subst e
    cases r with
    | true => exact k1 rfl s₁ y
    | false => exact k2 rfl s₁ y)
theorem x_ret {e : PySem.Expr} {P : Value → Shared → Prop} (he : Ev prog w A s env e P) (k : ∀ v s₁, Sx s s₁ → P v s₁ → Q (.ret v) s₁) : wpAny (model prog w) A (exec (.Return (some e) pos) env) Q NoE s :=
  wpAny_Return_some ((he s (.refl _)).wp k)
theorem x_expr {e : PySem.Expr} (he : Ev prog w A s env e (fun v _ => v = .none)) (k : ∀ s₁, Sx s s₁ → Q .next s₁) (hi : interactive env = false := by rfl) (hs : swapsWith e none pos.line env = Pure.pure false := by rfl) : wpAny (model prog w) A (exec (.Expr e pos) env) Q NoE s :=
  wpAny_Expr ((he s (.refl _)).wp fun v s₁ y e => by subst e; exact k s₁ y) hi hs
end
noncomputable def fdOf (w : World) (a : Addr) : FuncData := match (hd.heap_39 w.params).lookup a with
  | some ⟨_, _, .func fd, _⟩ => fd
  | _ => default
def bodyOf (fd : FuncData) : List Stmt := match fd.body with
  | .stmts b => b
  | _ => []
theorem codeRec_of' {w : World} {h : Heap} (W : Wd w h) {cd : Value} {q : Str} (e : codeIn (hd.heap_39 w.params) cd q = true) : h.CodeRec cd q := codeRec_of W.K e
theorem at_conv (w : World) : (hd.heap_39 w.params).lookup 104 = some ⟨.type "function", none, .func (fdOf w 104), #[]⟩ := by kernel_rfl
theorem bind_conv (w : World) (a b c : Value) : bindArgs (fdOf w 104) ⟨[a, b], [("name", c)]⟩ = (pure [("self", a), ("value", b), ("name", c)] : Sem (List (Str × Value))) := by kernel_rfl
section
variable {prog : Program} {w : World} {A : Around} {s : Shared}
theorem conv_ok (W : Wd w s.heap) (R : RoomA 3 A) {self : Value} {ch : Nat} {t : Tok} {b : Bool} (hc : ch ∈ signsHere) :
    T prog w A (call (.ref 104) [self, .str ⟨#[ch]⟩ t] [("name", .bool b)]) (fun v _ => v = .str ⟨#[ch]⟩ t) s := by
  refine fn_enter (s₁ := s) (body := bodyOf (fdOf w 104)) R.depth (W.K _ _ (at_conv w)) rfl (by kernel_rfl) (codeRec_of' W (by kernel_rfl)) W.lim (by kernel_rfl) (by kernel_rfl) (by kernel_rfl) (by kernel_rfl)
    (by rw [bind_conv]; exact wpAny_pure ⟨rfl, rfl⟩) (.refl _) (fun n x hx => .inl ?_) fun s₂ F sx => ?_
  · simp only [List.mem_cons, List.mem_nil_iff, or_false] at hx
    rcases hx with rfl | rfl | rfl <;> kernel_rfl
  have W₂ := W.mono sx.ext
  generalize hL : s.heap.objs.size = L at F ⊢
  have G : GEnv (callEnvC (fdOf w 104) L 104) := ⟨by kernel_rfl, by kernel_rfl, by kernel_rfl⟩
  have hself : Bnd prog w (A.deeper (callEnvC (fdOf w 104) L 104)) (callEnvC (fdOf w 104) L 104) s₂.heap "value" (.str ⟨#[ch]⟩ t) := F.bndL (by kernel_rfl) G.k (by kernel_rfl)
  have hname : Bnd prog w (A.deeper (callEnvC (fdOf w 104) L 104)) (callEnvC (fdOf w 104) L 104) s₂.heap "name" (.bool b) := F.bndL (by kernel_rfl) G.k (by kernel_rfl)
  generalize henv : callEnvC (fdOf w 104) L 104 = env at F G hself hname ⊢
  have kt : env.kindOf "type" = some .globalImplicit := henv ▸ by kernel_rfl
  have ks : env.kindOf "str" = some .globalImplicit := henv ▸ by kernel_rfl
  have kn : env.kindOf "_name_disallowed_re" = some .globalImplicit := henv ▸ by kernel_rfl
  have kv : env.kindOf "_value_disallowed_re" = some .globalImplicit := henv ▸ by kernel_rfl
  have kr : env.kindOf "regex" = some .local := henv ▸ by kernel_rfl
  have kva : env.kindOf "value" = some .local := henv ▸ by kernel_rfl
  refine wpAny_execs_cons (x_if (b := true) ?_ (fun _ s₃ x₃ => ?_) (fun e => by cases e))
  · exact evb_is (a := .type "str") (b := .type "str") (ev_type (Tx := "str") (W₂.blt G kt (n_type w) b_type (by decide)) (ev_name hself) (fun v s' _ e => by subst e; exact typeIs_str _ _ _) (by decide))
      (ev_name (W₂.blt G ks (n_str w) b_str (by decide))) (by decide)
  · have W₃ := W₂.mono x₃.ext
    have F₃ := F.ext x₃.ext
    refine wpAny_execs_cons (x_assignL (P := fun v _ => v = .ref (if b then 69 else 74)) F₃ ?_ G.k kr fun v s₄ s₅ x₄ e F₅ b₅ => ?_)
    · refine ev_ifexp (c := b) (evb_val (ev_name (hname.mono x₃.ext)) (fun v s' _ e => by subst e; exact t_truthy) (by intro _; rfl)) (fun e => ?_) (fun e => ?_)
      · subst e; exact ev_name (W₃.glob G kn (g_nameRe w))
      · subst e; exact ev_name (W₃.glob G kv (g_valRe w))
    · subst e
      have W₅ : Wd w s₅.heap := W.mono F₅.keep
      have hre : Bnd prog w (A.deeper env) env s₅.heap "regex" (.ref (if b then 69 else 74)) := F₅.bndL (by simp [upd]) G.k kr
      have hva : Bnd prog w (A.deeper env) env s₅.heap "value" (.str ⟨#[ch]⟩ t) := F₅.bndL (by subst henv; kernel_rfl) G.k kva
      refine wpAny_execs_cons (x_if (b := false) ?_ (fun e => by cases e) (fun _ s₆ x₆ => ?_))
      · refine evb_val (P := fun v _ => v = .none) ?_ (fun v s' _ e => by subst e; exact truthy_none ⟨.refl _, rfl⟩) (by intro _; rfl)
        have pat : PatAt s₅.heap (if b then 69 else 74) (if b then nameCode else valCode) := by cases b; exact pat_val W₅; exact pat_name W₅
        have mis : misses (if b then nameCode else valCode) ch = true := by
          cases b
          · exact List.all_eq_true.mp valCode_misses _ hc
          · exact List.all_eq_true.mp nameCode_misses _ hc
        refine ev_meth (pl := _) (f := .builtin "re.Pattern.search") (ev_name hre) (fun ov s' x e => ?_) (.builtin _) (evs_one (ev_name hva)) (fun ov vs s' s'' x e y e' => ?_)
        · subst e
          obtain ⟨op, fs, c, oc, items, n, h1, h2, h3, h4, _⟩ := (pat.mono x.ext).ex
          exact getMethod_builtin ⟨op, h1, h2⟩ pa_pat slot_search type_search (fun a e => by cases e; exact ⟨op, h1, h3⟩) ⟨.refl _, rfl⟩
        · subst e
          obtain ⟨u, rfl, rfl⟩ := e'
          exact t_search (pat.mono (x.trans y).ext) mis
      · refine wpAny_execs_nil ?_
        refine wpAny_execs_cons (x_ret (P := fun v _ => v = .str ⟨#[ch]⟩ t) (ev_name (hva.mono x₆.ext)) fun v s₇ x₇ e => ?_)
        subst e
        refine ⟨⟨_, _, F₅.ext (x₆.trans x₇).ext⟩, ?_, rfl⟩
        exact x₃.bx.trans (x₄.bx.trans (b₅.trans (x₆.trans x₇).bx))
end
end Mine
namespace Mine
noncomputable abbrev KK (w : World) : Frag := hd.heap_39 w.params
theorem k_ga (w : World) : findIn (KK w) (.ref 203) "__getattribute__" = some (some (.builtin "object.__getattribute__")) := by kernel_rfl
theorem k_gt (w : World) : findIn (KK w) (.ref 203) "__getattr__" = some none := by kernel_rfl
theorem k_hd (w : World) : findIn (KK w) (.ref 203) "_headers" = some none := by kernel_rfl
theorem k_hasD (w : World) : hasDictIn (KK w) 203 = true := by kernel_rfl
theorem k_add (w : World) : findIn (KK w) (.ref 203) "add_header" = some (some (.ref 200)) := by kernel_rfl
theorem k_getall (w : World) : findIn (KK w) (.ref 203) "get_all" = some (some (.ref 142)) := by kernel_rfl
theorem k_conv (w : World) : findIn (KK w) (.ref 203) "_convert_string_type" = some (some (.ref 104)) := by kernel_rfl
theorem k_init (w : World) : findIn (KK w) (.ref 203) "__init__" = some (some (.ref 97)) := by kernel_rfl
theorem k_str (w : World) : findIn (KK w) (.ref 203) "__str__" = some (some (.ref 179)) := by kernel_rfl
theorem k_set (w : World) : findIn (KK w) (.ref 203) "__setattr__" = some (some (.builtin "object.__setattr__")) := by kernel_rfl
theorem k_over (w : World) : plainOver (KK w) 203 = true := by kernel_rfl
theorem k_taker (w : World) : takerIn (KK w) 203 "_headers" = some none := by kernel_rfl
theorem k_makes (w : World) : makesIn (KK w) 203 = true := by kernel_rfl
theorem k_fn200 (w : World) : typeIn (KK w) (.ref 200) = some (.type "function") := by kernel_rfl
theorem k_fn142 (w : World) : typeIn (KK w) (.ref 142) = some (.type "function") := by kernel_rfl
theorem k_fn104 (w : World) : typeIn (KK w) (.ref 104) = some (.type "function") := by kernel_rfl
theorem k_fn97 (w : World) : typeIn (KK w) (.ref 97) = some (.type "function") := by kernel_rfl
theorem k_fn179 (w : World) : typeIn (KK w) (.ref 179) = some (.type "function") := by kernel_rfl

/-- the dict of a Headers that has its list -/
def hdrDict (w : World) (tk : Tok) (l : Addr) (n : Nat) : Obj := { cls := .type "dict", data := .dict #[⟨PyData.keyHash w.params "_headers", .str "_headers" tk, .ref l⟩] n }
structure HdrAt (w : World) (h : Heap) (x dx l : Addr) : Prop where
  at_ : h.get? x = some (instObj 203 dx)
  dict : ∃ tk n, h.get? dx = some (hdrDict w tk l n)
theorem HdrAt.mono {w : World} {h h' : Heap} {x dx l : Addr} (p : HdrAt w h x dx l) (e : Ext h h') : HdrAt w h' x dx l := ⟨e _ _ p.at_, let ⟨tk, n, q⟩ := p.dict; ⟨tk, n, e _ _ q⟩⟩
section
variable {prog : Program} {w : World} {A : Around} {s : Shared} {x dx l : Addr}
theorem HdrAt.inst {h : Heap} (p : HdrAt w h x dx l) : ∃ tk n, InstAt h x (instObj 203 dx) 203 (some (hdrDict w tk l n)) := let ⟨tk, n, q⟩ := p.dict; ⟨tk, n, p.at_, rfl, rfl, q⟩
theorem lookIn_hdr (tk : Tok) (n : Nat) : lookIn "_headers" (hdrDict w tk l n) = some (some (.ref l)) := by
  unfold lookIn hdrDict
  simp [Value.isStr]
theorem t_getHdr {expr : Bool} (W : Wd w s.heap) (p : HdrAt w s.heap x dx l) : T prog w A (getAttr (.ref x) "_headers" expr) (fun v _ => v = .ref l) s := by
  obtain ⟨tk, n, I⟩ := p.inst
  exact get_value W.K I (k_ga w) (findObj_own (k_hasD w) (k_hd w) rfl (lookIn_hdr tk n)) rfl ⟨.toks, rfl⟩
theorem t_methHdr {name : Str} {f : Addr} {pl : Sem Bool} (W : Wd w s.heap) (p : HdrAt w s.heap x dx l) (hf : findIn (KK w) (.ref 203) name = some (some (.ref f))) (ht : typeIn (KK w) (.ref f) = some (.type "function")) (hn : (name == ("_headers" : Str)) = false) :
    T prog w A (getMethod (.ref x) name pl) (fun v _ => v = (.ref f, [.ref x])) s := by
  obtain ⟨tk, n, I⟩ := p.inst
  refine method_fn W.K I (k_ga w) (k_gt w) hf ht ?_ ⟨.refl _, rfl⟩
  have hn' : (("_headers" : Str) == name) = false := by
    cases e : (("_headers" : Str) == name) with
    | false => rfl
    | true => rw [beq_iff_eq.mp e] at hn; simp at hn
  unfold shadowIn lookIn hdrDict
  simp [Value.isStr, hn', DictEntry.refKey]
theorem t_setHdr {Q : Unit → Shared → Prop} (W : Wd w s.heap) {n₀ : Nat} (hx : s.heap.get? x = some (instObj 203 dx)) (hdx : s.heap.get? dx = some { cls := .type "dict", data := .dict #[] n₀ })
    (h : ∀ h' tk tk' n, h'.get? dx = some (hdrDict w tk' l n) → Heap.SameBut dx s.heap h' → Q () { s with heap := h', toks := tk }) : wpAny (model prog w) A (setAttr (.ref x) "_headers" (.ref l)) Q NoE s := by
  have I : InstAt s.heap x (instObj 203 dx) 203 (some { cls := .type "dict", data := .dict #[] n₀ }) := ⟨hx, rfl, rfl, hdx⟩
  refine set_plain W.K I (k_set w) (osa_open (s := { s with toks := s.toks + 1 }) W.K I (k_over w) (k_taker w) fun b => ?_)
  obtain ⟨cd, hc, hd'⟩ := any_some (k_hasD w)
  have hup : Obj.putName "_headers" (PyData.keyHash w.params "_headers") (.str "_headers" (s.toks + 1)) (.ref l) { cls := .type "dict", data := .dict #[] n₀ } = hdrDict w (s.toks + 1) l (n₀ + 1) := by
    rw [Obj.putName_eq]; simp [Obj.putNameByArray, hdrDict]
  have D' := Heap.get?_update_self (Obj.putName "_headers" (PyData.keyHash w.params "_headers") (.str "_headers" (s.toks + 1)) (.ref l)) hdx (by rw [hup]; rfl)
  rw [hup] at D'
  refine wpAny_bind (wpAny_pure (wpAny_bind (wpAny_bind (wpAny_loadPart hx (wpAny_bind (Looks.here (s := { s with toks := s.toks + 1 }) (looks_clsIn W.K hc) ?_))))))
  rw [hd']
  refine wpAny_pure (a := some dx) (wpAny_bind (wpAny_pure (wpAny_bind ?_)))
  unfold nsSet
  refine wpAny_bind (wpAny_bind (wpAny_askSetting (wpAny_pure (wpAny_bind (wpAny_mkText (wpAny_bind (wpAny_loadPart hdx ?_)))))))
  dsimp only
  have c : (!(#[] : Array DictEntry).any (·.key.isStr "_headers") && (#[] : Array DictEntry).any (·.refKey)) = false := by simp
  rw [aRefKeyMayBeTheName_at, c]
  refine wpAny_updatePart hdx ?_
  refine wpAny_bind (wpAny_lookBehind D' rfl ?_)
  exact wpAny_pure (h _ _ _ _ D' (Heap.SameBut.update ..))
end
end Mine
namespace Mine
/-- what an iterator's step may do: it turns objects of fields that are newer than s₀ -/
structure KeepNF (s₀ a b : Shared) : Prop where
  nf : ∀ d o, a.heap.get? d = some o → (∀ vs, o.data ≠ .fields vs) → b.heap.get? d = some o
  old : ∀ d o o', s₀.heap.get? d = some o' → a.heap.get? d = some o → b.heap.get? d = some o
  os : b.os = a.os
  gens : b.gens = a.gens
theorem FrC.nf {h₀ : Heap} {env : Env} {m cm : Str → Option Value} {s₀ a b : Shared} (F : FrC h₀ env m cm a.heap) (e : Ext h₀ s₀.heap) (k : KeepNF s₀ a b) : FrC h₀ env m cm b.heap :=
  ⟨let ⟨o, es, n, h1, h2, r⟩ := F.ns; ⟨o, es, n, k.nf _ _ h1 (fun vs q => by rw [h2] at q; cases q), h2, r⟩, fun d o q => k.old _ _ _ (e _ _ q) (F.keep _ _ q), F.newL,
    fun n c h => let ⟨o, h1, h2⟩ := F.cell n c h; ⟨o, k.nf _ _ h1 (fun vs q => by rw [h2] at q; cases q), h2⟩, F.apart, F.newC⟩
theorem KeepNF.list {s₀ a b : Shared} (k : KeepNF s₀ a b) {l : Addr} {vs : Array Value} (h : a.heap.IsList l vs) : b.heap.IsList l vs :=
  let ⟨o, h1, h2, n, h3⟩ := h; ⟨o, k.nf _ _ h1 (fun vs q => by rw [h3] at q; cases q), h2, n, h3⟩
section
variable {prog : Program} {w : World} {A : Around} {s : Shared} {env : Env}
theorem t_letOwned {t : PySem.Expr} {I : Addr} {v : Value} {Q : Unit → Shared → Prop} {E : Value → Shared → Prop} (h : ∃ o, s.heap.get? I = some o ∧ ∃ n, o.cls = .type n ∧ ["enumerate", "zip", "dict_itemiterator", "dict_reverseitemiterator", "odict_iterator", "itertools.zip_longest", "itertools.pairwise"].contains n = false)
    (q : Q () s) : wpAny (model prog w) A (letOwnedTupleGo t (.ref I) v) Q E s := by
  obtain ⟨o, ho, n, hc, hn⟩ := h
  unfold letOwnedTupleGo
  split <;> try exact wpAny_pure q
  all_goals
    cases v <;> try exact wpAny_pure q
    refine wpAny_bind (wpAny_load ho ?_)
    rw [hc]
    cases o.data <;> try exact wpAny_pure q
    simp only [hn, Bool.false_and, Bool.false_eq_true, if_false]
    exact wpAny_pure q

/-- a for over an iterator that walks -/
theorem x_for {target iter : PySem.Expr} {body : List Stmt} {pos : Pos} {n : Nat} {P : Nat → Value → Prop} {ext : List Addr} {Q : Flow → Shared → Prop} (X : List Addr) (Inv : Nat → Shared → Prop)
    (hit : EvI prog w A s env iter n P ext) (hX : ∀ b ∈ X, (∃ o, s.heap.get? b = some o) ∧ b ∉ ext)
    (h0 : ∀ s₁, Sx s s₁ → Inv 0 s₁) (hst : ∀ i a b, Inv i a → KeepNF s a b → Inv i b)
    (turn : ∀ i v s₁, i < n → P i v → Inv i s₁ → wpAny (model prog w) A (assign target env v) (fun _ s₂ => wpAny (model prog w) A (execs body env) (fun f s₃ => match f with
        | .next | .cont => Inv (i + 1) s₃ ∧ ∀ b o, b ∉ X → s₁.heap.get? b = some o → s₃.heap.get? b = some o
        | .brk => Q .next s₃
        | .ret v => Q (.ret v) s₃) NoE s₂) NoE s₁)
    (done : ∀ s', Inv n s' → Q .next s') (hs : ∀ x, foldedSetIterable iter env x = Pure.pure x := by intro _; rfl) : wpAny (model prog w) A (exec (.For target iter body [] pos) env) Q NoE s := by
  refine wpAny_For ((hit s (.refl _)).wp fun xv s₁ x₁ h₁ => h₁.wp fun it s₂ x₂ ⟨I, fp, wr, St, e, W, hst0, hw, hfp, hal, hfe, hcl⟩ => ?_) hs
  subst e
  have x₁₂ := x₁.trans x₂
  have hfX : ∀ b ∈ fp, b ∉ X := fun b hb hx => by
    rcases hfe b hb with q | q
    · obtain ⟨⟨o, ho⟩, _⟩ := hX b hx
      have := hw b q
      rw [x₁.ext _ _ ho] at this; cases this
    · exact (hX b hx).2 q
  have hwX : ∀ b ∈ wr, s.heap.get? b = none := fun b hb => by
    cases q : s.heap.get? b with
    | none => rfl
    | some o => have := x₁.ext _ _ q; rw [hw b hb] at this; cases this
  have nfk : ∀ i (a : Shared) h' tk, St i a.heap → (∀ b o, b ∉ wr → a.heap.get? b = some o → h'.get? b = some o) → KeepNF s a { a with heap := h', toks := tk } := fun i a h' tk st k =>
    ⟨fun d o q nf => k d o (fun hd => by obtain ⟨o', vs, q', e⟩ := hal _ _ st d hd; rw [q] at q'; cases q'; exact nf _ e) q, fun d o o' q' q => k d o (fun hd => by rw [hwX d hd] at q'; cases q') q, rfl, rfl⟩
  refine codeAny_loop' rfl (fun k s' => ∃ i, i ≤ n ∧ k = n - i ∧ St i s'.heap ∧ Inv i s') ?_ n ⟨0, Nat.zero_le _, rfl, hst0, h0 _ x₁₂⟩
  rintro k s' ⟨i, hi, rfl, st, inv⟩
  show wpAny _ A ((forTurn target (.ref I) body [] env).onRaise (fun x => do noteFrame x env; theTreesLotGoes x)) _ _ s'
  refine wpAny_noted ?_
  simp only [forTurn]
  by_cases hlt : i < n
  · refine wpAny_bind (wpAny_standAt (wpAny_bind (wpAny_onRaise (W.item i _ _ _ hlt st fun v h₁ tk₁ hP st₁ hk₁ => ?_))))
    refine wpAny_bind (t_letOwned (hcl _ _ st₁) ?_)
    refine wpAny_bind (wpAny_mono (turn i v _ hlt hP (hst i _ _ inv (nfk i s' h₁ tk₁ st hk₁))) (fun _ s₃ h₃ => wpAny_bind (wpAny_mono h₃ (fun f s₄ h₄ => ?_) fun _ _ f => f.elim)) fun _ _ f => f.elim)
    have fin : (Inv (i + 1) s₄ ∧ ∀ b o, b ∉ X → h₁.get? b = some o → s₄.heap.get? b = some o) → ∃ m, m < n - i ∧ ∃ i, i ≤ n ∧ m = n - i ∧ St i s₄.heap ∧ Inv i s₄ := fun ⟨a, b⟩ =>
      ⟨n - (i + 1), by omega, i + 1, hlt, rfl, W.frame _ _ _ st₁ fun c hc o q => b c o (hfX c hc) q, a⟩
    cases f with
    | next => exact wpAny_pure (.inl ⟨rfl, fin h₄⟩)
    | cont => exact wpAny_pure (.inl ⟨rfl, fin h₄⟩)
    | brk => exact wpAny_pure h₄
    | ret v => exact wpAny_pure h₄
  · have : i = n := by omega
    subst this
    refine wpAny_bind (wpAny_standAt (wpAny_bind (wpAny_onRaise (W.done _ _ _ st fun h₁ tk₁ hk₁ => ?_))))
    exact wpAny_pure (.inr ⟨rfl, codeAny_block (wpAny_execs_nil (done _ (hst i _ _ inv (nfk i s' h₁ tk₁ st hk₁))))⟩)
end
end Mine
namespace Mine
section
variable {prog : Program} {w : World} {A : Around} {s₀ s : Shared} {env : Env} {pos : Pos} {Q : Flow → Shared → Prop} {h₀ : Heap} {m cm : Str → Option Value}
theorem x_exprV {e : PySem.Expr} {P : Value → Shared → Prop} (he : Ev prog w A s env e P) (hp : ∀ v s, P v s → ∀ a, v ≠ .ref a) (k : ∀ v s₁, Sx s s₁ → P v s₁ → Q .next s₁) (hi : interactive env = false := by rfl) (hs : swapsWith e none pos.line env = Pure.pure false := by rfl) : wpAny (model prog w) A (exec (.Expr e pos) env) Q NoE s :=
  wpAny_Expr ((he s (.refl _)).wp fun v s₁ y e => by
    have := hp v s₁ e
    cases v <;> first | exact k _ s₁ y e | exact absurd rfl (this _)) hi hs
/-- self._convert_string_type(e, name=b) -/
theorem ev_conv {o e : PySem.Expr} {apos p kp : Pos} {k : Nat} {x dx l : Addr} {ch : Nat} {b : Bool} (W : Wd w s₀.heap) (R : RoomA 3 A) (p₀ : HdrAt w s₀.heap x dx l) (ho : Ev prog w A s₀ env o (fun v _ => v = .ref x)) (he : Ev prog w A s₀ env e (fun v _ => StrV v ⟨#[ch]⟩)) (hc : ch ∈ signsHere)
    (hs : starEach [e] env = [(false, eval e env)] := by rfl)
    (hh : ∃ pl, eval (.Call (.Attribute o "_convert_string_type" apos) [e] [⟨some "name", .Constant (.bool b) k p, kp⟩] pos) env = (do
      let ov ← eval o env
      standAt apos.atName
      let (f, first) ← holding [ov] (getMethod ov "_convert_string_type" pl)
      callWith pos f first (backTo pos (starEach [e] env)) (backToKw pos (keywordEach [⟨some "name", .Constant (.bool b) k p, kp⟩] env))) := by exact ⟨_, rfl⟩) :
    Ev prog w A s₀ env (.Call (.Attribute o "_convert_string_type" apos) [e] [⟨some "name", .Constant (.bool b) k p, kp⟩] pos) (fun v _ => StrV v ⟨#[ch]⟩) := fun s hx => by
  obtain ⟨pl, hh⟩ := hh
  refine methodCall_KW (pl := pl) ((ho s hx).wp fun ov s₁ x₁ e => ?_) hh
  subst e
  have W₁ := W.mono (hx.trans x₁).ext
  refine (t_methHdr (pl := pl) W₁ (p₀.mono (hx.trans x₁).ext) (k_conv w) (k_fn104 w) (by decide)).wp fun fx s₂ x₂ e => ?_
  subst e
  refine callWith_function_kw (o := ⟨.type "function", none, .func (fdOf w 104), #[]⟩) (fd := fdOf w 104) (evalArgs_kw2 (by rfl) ((evs_one he hs pos s₂ (hx.trans (x₁.trans x₂))).wp fun vs s₃ x₃ ⟨v, e, t, e'⟩ => ?_) (by rw [hs]; rfl))
  subst e e'
  refine kwAll_cons (wpAny_Constant_bool (kwAll_nil ?_))
  have y := x₁.trans (x₂.trans x₃)
  have W₃ := W.mono (hx.trans y).ext
  exact ⟨⟨W₃.K _ _ (at_conv w), rfl⟩, T.from y ((conv_ok W₃ R hc).mono fun v s' _ e => e ▸ .mk ..)⟩
end
end Mine
namespace Mine
def own (env : Env) : List Addr := env.locals :: env.cells.filterMap fun p => env.cells.lookup p.1
theorem mem_own {env : Env} {b : Addr} : b ∈ own env ↔ b = env.locals ∨ ∃ n, env.cells.lookup n = some b := by
  unfold own
  rw [List.mem_cons, List.mem_filterMap]
  constructor
  · rintro (h | ⟨p, _, h⟩)
    · exact .inl h
    · exact .inr ⟨p.1, h⟩
  · rintro (h | ⟨n, h⟩)
    · exact .inl h
    · exact .inr ⟨(n, b), mem_of_lookup h, h⟩
theorem off_of_own {env : Env} {b : Addr} (h : b ∉ own env) : Off env b :=
  ⟨fun e => h (mem_own.mpr (.inl e)), fun n c hc e => h (mem_own.mpr (.inr ⟨n, e ▸ hc⟩))⟩
theorem Off.own {env : Env} {b : Addr} (h : Off env b) : b ∉ own env := fun q => by
  rcases mem_own.mp q with q | ⟨n, q⟩
  · exact h.1 q
  · exact h.2 n b q rfl
theorem Bx.turned {env : Env} {s s' : Shared} (b : Bx env s s') : Turned (own env) s s' := ⟨fun d o h e => b.off d o (off_of_own h) e, b.os, b.gens, b.bare⟩
theorem Turned.more {X Y : List Addr} {s s' : Shared} (t : Turned X s s') (h : ∀ b ∈ X, b ∈ Y) : Turned Y s s' := ⟨fun d o q e => t.keep d o (fun r => q (h d r)) e, t.os, t.gens, t.bare⟩
/-- an object out of the frame is changed -/
theorem FrC.by {h₀ h h' : Heap} {env : Env} {m cm : Str → Option Value} {X : List Addr} (F : FrC h₀ env m cm h) (hX : ∀ d ∈ X, d ∉ own env ∧ h₀.get? d = none) (k : ∀ b o, b ∉ X → h.get? b = some o → h'.get? b = some o) : FrC h₀ env m cm h' :=
  ⟨let ⟨o, es, n, h1, h2, r⟩ := F.ns; ⟨o, es, n, k _ _ (fun q => (hX _ q).1 (mem_own.mpr (.inl rfl))) h1, h2, r⟩, fun d o q => k _ _ (fun r => by rw [(hX _ r).2] at q; cases q) (F.keep _ _ q), F.newL,
    fun n c h => let ⟨o, h1, h2⟩ := F.cell n c h; ⟨o, k _ _ (fun q => (hX _ q).1 (mem_own.mpr (.inr ⟨n, h⟩))) h1, h2⟩, F.apart, F.newC⟩
theorem FrC.own_alive {h₀ h : Heap} {env : Env} {m cm : Str → Option Value} (F : FrC h₀ env m cm h) : ∀ b ∈ own env, ∃ o, h.get? b = some o := fun b hb => by
  rcases mem_own.mp hb with rfl | ⟨n, hn⟩
  · obtain ⟨o, es, n, h1, _⟩ := F.ns; exact ⟨o, h1⟩
  · obtain ⟨o, h1, _⟩ := F.cell n b hn; exact ⟨o, h1⟩
theorem FrC.own_seq {h₀ h : Heap} {env : Env} {m cm : Str → Option Value} (F : FrC h₀ env m cm h) : ∀ b ∈ own env, ∀ o, h.get? b = some o → ∀ vs n, o.data = .seq vs n → False := fun b hb o e vs k q => by
  rcases mem_own.mp hb with rfl | ⟨n, hn⟩
  · obtain ⟨o', es, n, h1, h2, _⟩ := F.ns; rw [h1] at e; cases e; rw [q] at h2; cases h2
  · obtain ⟨o', h1, h2⟩ := F.cell n b hn; rw [h1] at e; cases e; rw [q] at h2; cases h2
theorem FrC.own_new {h₀ h : Heap} {env : Env} {m cm : Str → Option Value} (F : FrC h₀ env m cm h) : ∀ b ∈ own env, h₀.get? b = none := fun b hb => by
  rcases mem_own.mp hb with rfl | ⟨n, hn⟩
  · exact F.newL
  · exact F.newC n b hn
section
variable {prog : Program} {w : World} {A : Around} {s : Shared} {env : Env} {h₀ : Heap} {m cm : Str → Option Value}
theorem KeepNF.turned {X : List Addr} {s₀ a b : Shared} (k : KeepNF s₀ a b) (t : Turned X s₀ a) : Turned X s₀ b :=
  ⟨fun d o q e => k.old d o o e (t.keep d o q e), k.os.trans t.os, fun i g e => by rw [k.gens]; exact t.gens i g e, fun q => by rw [k.gens]; exact t.bare q⟩
theorem x_forF {target iter : PySem.Expr} {body : List Stmt} {pos : Pos} {n : Nat} {P : Nat → Value → Prop} {ext : List Addr} {Q : Flow → Shared → Prop} (F : FrC h₀ env m cm s.heap) (X : List Addr) (Inv : Nat → (Str → Option Value) → (Str → Option Value) → Shared → Prop)
    (hit : EvI prog w A s env iter n P ext) (hX : ∀ b ∈ own env ++ X, (∃ o, s.heap.get? b = some o) ∧ b ∉ ext)
    (hst : ∀ i m cm a b, Inv i m cm a → KeepNF s a b → Inv i m cm b) (h0 : ∀ s₁, Sx s s₁ → Inv 0 m cm s₁)
    (turn : ∀ i v s₁ m₁ cm₁, i < n → P i v → FrC h₀ env m₁ cm₁ s₁.heap → Inv i m₁ cm₁ s₁ → Turned (own env ++ X) s s₁ → wpAny (model prog w) A (assign target env v) (fun _ s₂ => wpAny (model prog w) A (execs body env) (fun f s₃ => match f with
        | .next | .cont => ∃ m₃ cm₃, FrC h₀ env m₃ cm₃ s₃.heap ∧ Inv (i + 1) m₃ cm₃ s₃ ∧ Turned (own env ++ X) s₁ s₃
        | .brk => False
        | .ret v => Q (.ret v) s₃) NoE s₂) NoE s₁)
    (done : ∀ s' m' cm', FrC h₀ env m' cm' s'.heap → Inv n m' cm' s' → Turned (own env ++ X) s s' → Q .next s') (hs : ∀ x, foldedSetIterable iter env x = Pure.pure x := by intro _; rfl) : wpAny (model prog w) A (exec (.For target iter body [] pos) env) Q NoE s := by
  refine x_for (own env ++ X) (fun i s' => ∃ m' cm', FrC h₀ env m' cm' s'.heap ∧ Inv i m' cm' s' ∧ Turned (own env ++ X) s s') hit hX (fun s₁ x => ⟨m, cm, F.ext x.ext, h0 s₁ x, x.turned⟩)
    (fun i a b ⟨m', cm', F', I, t⟩ k => ⟨m', cm', F'.nf F.keep k, hst _ _ _ _ _ I k, k.turned t⟩) (fun i v s₁ hi hp ⟨m', cm', F', I, t⟩ => ?_) (fun s' ⟨m', cm', F', I, t⟩ => done s' m' cm' F' I t) hs
  refine wpAny_mono (turn i v s₁ m' cm' hi hp F' I t) (fun _ s₂ h => wpAny_mono h (fun f s₃ r => ?_) fun _ _ f => f) fun _ _ f => f
  cases f with
  | next => obtain ⟨m₃, cm₃, a, b, c⟩ := r; exact ⟨⟨m₃, cm₃, a, b, t.trans c⟩, c.keep⟩
  | cont => obtain ⟨m₃, cm₃, a, b, c⟩ := r; exact ⟨⟨m₃, cm₃, a, b, t.trans c⟩, c.keep⟩
  | brk => exact r.elim
  | ret v => exact r
/-- a target of two local names -/
theorem a_pair {k v : Str} {pk pv pos : Pos} {kk : Nat} {t : Addr} {x y : Value} {Q : Unit → Shared → Prop} (hh : A.handled = none) (F : FrC h₀ env m cm s.heap) (ht : IsTup s.heap t #[x, y]) (hf : env.scope.kind = .function) (hk : env.kindOf k = some .local) (hv : env.kindOf v = some .local)
    (h : ∀ s', FrC h₀ env (upd (upd m k x) v y) cm s'.heap → Turned (own env) s s' → Q () s') : wpAny (model prog w) A (assign (.Tuple [.Name k pk, .Name v pv] kk pos) env (.ref t)) Q NoE s := by
  refine assign_Tuple_tuple hh ht (by rfl) (by rfl) fun h' hx => ?_
  have sx : Sx s { s with heap := h' } := ⟨fun b o e => hx b o (Nat.ne_of_lt (Heap.lt_size e)) e, rfl, fun _ _ e => e, id⟩
  show wpAny _ A (assignInOrder [assign (.Name k pk) env, assign (.Name v pv) env] [x, y]) Q NoE _
  refine assignInOrder_cons (wpAny_assign_Name ((F.ext sx.ext).storeL hf hk fun s₁ F₁ b₁ => ?_))
  refine assignInOrder_cons (wpAny_assign_Name (F₁.storeL hf hv fun s₂ F₂ b₂ => ?_))
  exact assignInOrder_nil (h s₂ F₂ (sx.turned.trans (b₁.turned.trans b₂.turned)))
/-- a target that is a local name -/
theorem a_name {k : Str} {pk : Pos} {x : Value} {Q : Unit → Shared → Prop} (F : FrC h₀ env m cm s.heap) (hf : env.scope.kind = .function) (hk : env.kindOf k = some .local)
    (h : ∀ s', FrC h₀ env (upd m k x) cm s'.heap → Turned (own env) s s' → Q () s') : wpAny (model prog w) A (assign (.Name k pk) env x) Q NoE s :=
  wpAny_assign_Name (F.storeL hf hk fun s₂ F₂ b₂ => h s₂ F₂ b₂.turned)
theorem a_nameC {k : Str} {pk : Pos} {c : Addr} {x : Value} {Q : Unit → Shared → Prop} (F : FrC h₀ env m cm s.heap) (hf : env.scope.kind = .function) (hk : env.kindOf k = some .cell) (hc : env.cells.lookup k = some c)
    (h : ∀ s', FrC h₀ env m (upd cm k x) s'.heap → Turned (own env) s s' → Q () s') : wpAny (model prog w) A (assign (.Name k pk) env x) Q NoE s :=
  wpAny_assign_Name (F.storeC hf hk hc fun s₂ F₂ b₂ => h s₂ F₂ b₂.turned)
end
end Mine
namespace Mine
def PairAt (h : Heap) (c : Nat × Nat) (v : Value) : Prop := ∃ a t u, v = .ref a ∧ IsTup h a #[.str ⟨#[c.1]⟩ t, .str ⟨#[c.2]⟩ u]
def HL (h : Heap) (l : Addr) (ps : List (Nat × Nat)) : Prop := ∃ vs, h.PlainList l (List.toArray vs) ∧ PySem.Paired (PairAt h) ps vs
def Fine (ps : List (Nat × Nat)) : Prop := ∀ p ∈ ps, p.1 ∈ signsHere ∧ p.2 ∈ signsHere
theorem PairAt.by {h h' : Heap} {X : List Addr} (k : ∀ b o, b ∉ X → h.get? b = some o → h'.get? b = some o) {c : Nat × Nat} {v : Value} (p : PairAt h c v) (hX : ∀ b ∈ X, ∀ o, h.get? b = some o → ∀ vs n, o.data = .seq vs n → o.cls = .type "tuple" → False) : PairAt h' c v := by
  obtain ⟨a, t, u, e, o, h1, h2, n, h3⟩ := p
  exact ⟨a, t, u, e, o, k _ _ (fun q => hX _ q _ h1 _ _ h3 h2) h1, h2, n, h3⟩
theorem PairAt.mono {h h' : Heap} (k : Ext h h') {c : Nat × Nat} {v : Value} (p : PairAt h c v) : PairAt h' c v := let ⟨a, t, u, e, q⟩ := p; ⟨a, t, u, e, q.keeps k⟩
theorem HL.by {h h' : Heap} {X : List Addr} (k : ∀ b o, b ∉ X → h.get? b = some o → h'.get? b = some o) {l : Addr} {ps : List (Nat × Nat)} (p : HL h l ps) (hl : l ∉ X) (hX : ∀ b ∈ X, ∀ o, h.get? b = some o → ∀ vs n, o.data = .seq vs n → o.cls = .type "tuple" → False) : HL h' l ps := by
  obtain ⟨vs, ⟨n, h1⟩, q⟩ := p
  exact ⟨vs, ⟨n, k _ _ hl h1⟩, Paired.mono' (fun c v p => p.by k hX) q⟩
theorem HL.mono {h h' : Heap} (k : Ext h h') {l : Addr} {ps : List (Nat × Nat)} (p : HL h l ps) : HL h' l ps := let ⟨vs, a, q⟩ := p; ⟨vs, a.at (fun o e => k _ _ e), Paired.mono' (fun c v p => p.mono k) q⟩
theorem HL.own {h₀ h h' : Heap} {env : Env} {m cm : Str → Option Value} (F : FrC h₀ env m cm h) (k : ∀ b o, b ∉ Mine.own env → h.get? b = some o → h'.get? b = some o) {l : Addr} {ps : List (Nat × Nat)} (p : HL h l ps) : HL h' l ps :=
  p.by k (fun q => by obtain ⟨vs, ⟨n, h1⟩, _⟩ := p; exact F.own_seq _ q _ h1 _ _ rfl) fun b hb o e vs n q _ => F.own_seq b hb o e vs n q
theorem Paired.get' {α β : Type} {F : α → β → Prop} : ∀ {l₁ : List α} {l₂ : List β}, PySem.Paired F l₁ l₂ → ∀ {i : Nat} {v : β}, l₂[i]? = some v → ∃ c, l₁[i]? = some c ∧ F c v
  | _, _, .nil, i, v, h => by simp at h
  | _, _, .cons h t, 0, v, e => by simp at e; subst e; exact ⟨_, rfl, h⟩
  | _, _, .cons h t, i + 1, v, e => by simpa using Paired.get' t (by simpa using e)
theorem Paired.get {α β : Type} {F : α → β → Prop} : ∀ {l₁ : List α} {l₂ : List β}, PySem.Paired F l₁ l₂ → ∀ {i : Nat} {c : α}, l₁[i]? = some c → ∃ v, l₂[i]? = some v ∧ F c v
  | _, _, .nil, i, v, h => by simp at h
  | _, _, .cons h t, 0, v, e => by simp at e; subst e; exact ⟨_, rfl, h⟩
  | _, _, .cons h t, i + 1, v, e => by simpa using Paired.get t (by simpa using e)
theorem at_init (w : World) : (hd.heap_39 w.params).lookup 97 = some ⟨.type "function", none, .func (fdOf w 97), #[]⟩ := by kernel_rfl
def loadK {α : Type} : Sem α → Obj → Sem α
  | .load _ _ k, o => k o
  | _, _ => .unsupported "x"
def isLoadAt {α : Type} (a : Addr) : Sem α → Bool
  | .load b none _ => a == b
  | _ => false
theorem wp_loadK {M : Model} {A : Around} {E : Value → Shared → Prop} {α : Type} {t : Sem α} {a : Addr} {o : Obj} {Q : α → Shared → Prop} {s : Shared} (h1 : isLoadAt a t = true) (ho : s.heap.get? a = some o) (h : wpAny M A (loadK t o) Q E s) : wpAny M A t Q E s := by
  unfold isLoadAt at h1
  split at h1
  · rename_i b k
    have e := beq_iff_eq.mp h1
    subst e
    exact wpAny_bind (m := load a) (f := k) (wpAny_load ho h)
  · cases h1
theorem at_90 (w : World) : (hd.heap_39 w.params).lookup 90 = some { cls := .type "tuple", data := .seq #[.none] } := by kernel_rfl
theorem bind_init1 (w : World) (a b : Value) : isLoadAt 90 (bindArgs (fdOf w 97) ⟨[a, b], []⟩) = true := by kernel_rfl
theorem bind_init1' (w : World) (a b : Value) : loadK (bindArgs (fdOf w 97) ⟨[a, b], []⟩) { cls := .type "tuple", data := .seq #[.none] } = (pure [("self", a), ("headers", b)] : Sem (List (Str × Value))) := by kernel_rfl
theorem bind_init0 (w : World) (a : Value) : isLoadAt 90 (bindArgs (fdOf w 97) ⟨[a], []⟩) = true := by kernel_rfl
theorem bind_init0' (w : World) (a : Value) : loadK (bindArgs (fdOf w 97) ⟨[a], []⟩) { cls := .type "tuple", data := .seq #[.none] } = (pure [("self", a), ("headers", .none)] : Sem (List (Str × Value))) := by kernel_rfl
end Mine
namespace Mine
def argV : Option Addr → Value
  | some l => .ref l
  | none => .none
/-- a Headers is made: x, of the pairs ps, its list l -/
structure Made (w : World) (s₀ s' : Shared) (arg : Option Addr) (ps : List (Nat × Nat)) (x : Addr) : Prop where
  ex : ∃ dx l, HdrAt w s'.heap x dx l ∧ HL s'.heap l ps ∧ (arg = some l ∨ arg = none ∧ s₀.heap.get? l = none) ∧ s₀.heap.get? x = none ∧ s₀.heap.get? dx = none ∧ dx ≠ l ∧ x ≠ l
theorem upd_ne {m : Str → Option Value} {x y : Str} {v : Value} (h : y ≠ x) : upd m x v y = m y := by unfold upd; rw [if_neg h]
theorem upd_eq {m : Str → Option Value} {x : Str} {v : Value} : upd m x v x = some v := by unfold upd; rw [if_pos rfl]
section
variable {prog : Program} {w : World} {A : Around} {s₀ s : Shared}
theorem init_ok (W₀ : Wd w s₀.heap) (R : RoomA 6 A) {x dx : Addr} {arg : Option Addr} {ps : List (Nat × Nat)} (hfine : Fine ps) (hz : ps.length ≤ 1000) (hx : s.heap.get? x = some (instObj 203 dx)) {n₀ : Nat} (hdx : s.heap.get? dx = some { cls := .type "dict", data := .dict #[] n₀ })
    (sx₀ : Sx s₀ s) (hx0 : s₀.heap.get? x = none) (hdx0 : s₀.heap.get? dx = none) (ha : match arg with | some l => HL s₀.heap l ps | none => ps = []) {args : List Value} (hargs : args = match arg with | some l => [.ref l] | none => []) {P : Shared → Prop}
    (hP : ∀ s', Sx s₀ s' → Made w s₀ s' arg ps x → P s') :
    codeAny (model prog w) A (.call (.ref 97) ⟨.ref x :: args, []⟩) (InitBack x fun r s' => r = .ok (.ret (.ref x)) ∧ P s') s := by
  have W := W₀.mono sx₀.ext
  refine fn_code (s₁ := s) (body := bodyOf (fdOf w 97)) (bs := [("self", .ref x), ("headers", argV arg)]) R.depth (W.K _ _ (at_init w)) rfl (by kernel_rfl) (codeRec_of' W (by kernel_rfl)) W.lim (by kernel_rfl) (by kernel_rfl) (by kernel_rfl) (by kernel_rfl)
    ?_ (.refl _) (fun n x hx => .inl ?_) fun s₂ F sx => ?_
  · subst hargs
    cases arg with
    | some l => exact wp_loadK (bind_init1 w _ _) (W.K _ _ (at_90 w)) (by rw [bind_init1']; exact wpAny_pure ⟨rfl, rfl⟩)
    | none => exact wp_loadK (bind_init0 w _) (W.K _ _ (at_90 w)) (by rw [bind_init0']; exact wpAny_pure ⟨rfl, rfl⟩)
  · simp only [List.mem_cons, List.mem_nil_iff, or_false] at hx
    rcases hx with rfl | rfl <;> kernel_rfl
  have W₂ := W.mono sx.ext
  generalize hL : s.heap.objs.size = L at F ⊢
  have G : GEnv (callEnvC (fdOf w 97) L 97) := ⟨by kernel_rfl, by kernel_rfl, by kernel_rfl⟩
  have hself : bindL (callEnvC (fdOf w 97) L 97).kindOf [("self", .ref x), ("headers", argV arg)] (fun _ => none) "self" = some (.ref x) := by kernel_rfl
  have hhead : bindL (callEnvC (fdOf w 97) L 97).kindOf [("self", .ref x), ("headers", argV arg)] (fun _ => none) "headers" = some (argV arg) := by kernel_rfl
  generalize bindL (callEnvC (fdOf w 97) L 97).kindOf [("self", .ref x), ("headers", argV arg)] (fun _ => none) = m₀ at F hself hhead
  generalize bindC (callEnvC (fdOf w 97) L 97).kindOf [("self", .ref x), ("headers", argV arg)] (fun _ => none) = cm₀ at F
  have hown : Mine.own (callEnvC (fdOf w 97) L 97) = [(callEnvC (fdOf w 97) L 97).locals] := by kernel_rfl
  have kt : (callEnvC (fdOf w 97) L 97).kindOf "type" = some .globalImplicit := by kernel_rfl
  have kl : (callEnvC (fdOf w 97) L 97).kindOf "list" = some .globalImplicit := by kernel_rfl
  have kh : (callEnvC (fdOf w 97) L 97).kindOf "headers" = some .local := by kernel_rfl
  have ks : (callEnvC (fdOf w 97) L 97).kindOf "self" = some .local := by kernel_rfl
  have kk : (callEnvC (fdOf w 97) L 97).kindOf "k" = some .local := by kernel_rfl
  have kv : (callEnvC (fdOf w 97) L 97).kindOf "v" = some .local := by kernel_rfl
  generalize henv : callEnvC (fdOf w 97) L 97 = env at *
  have RD : RoomA 5 (A.deeper env) := R.deeper
  have odx : Off env dx := F.old hdx
  have F₀ := F.less sx₀.ext
  -- headers = headers if headers is not None else []
  refine wpAny_execs_cons (x_assignL (P := fun v s' => ∃ l, v = .ref l ∧ HL s'.heap l ps ∧ (arg = some l ∨ arg = none ∧ s₀.heap.get? l = none ∧ s₂.heap.get? l = none)) F₀ (ev_ifexp (c := arg.isSome) ?_ (fun e => ?_) (fun e => ?_)) G.k kh fun v s₃ s₄ x₃ ⟨l, e, hl, hal⟩ F₄ b₄ => ?_)
  · have := evb_isnot (prog := prog) (w := w) (A := A.deeper env) (s₀ := s₂) (env := env) (pos := ⟨64, 29, 64, 48⟩) (a := argV arg) (b := .none) (ev_name (x := "headers") (pos := ⟨64, 29, 64, 36⟩) (F.bndL hhead G.k kh)) (ev_none (k := 0) (pos := ⟨64, 44, 64, 48⟩)) (by cases arg <;> rfl)
    have e : (!(argV arg == Value.none)) = arg.isSome := by cases arg <;> rfl
    rw [e] at this
    exact this
  · cases arg with
    | none => cases e
    | some l => exact ev_nameP (F.bndL hhead G.k kh) fun s' y => ⟨l, rfl, HL.mono (sx₀.trans (sx.trans y)).ext ha, .inl rfl⟩
  · cases arg with
    | some l => cases e
    | none =>
      subst ha
      exact ev_list0.mono fun v s' y ⟨a, vs, e, l, f, e'⟩ => ⟨a, e, ⟨vs, l, by subst e'; exact .nil⟩, .inr ⟨rfl, (by
        cases q : s₀.heap.get? a with
        | none => rfl
        | some o => have := (sx₀.trans sx).ext _ _ q; rw [f] at this; cases this), f⟩⟩
  subst e
  have F₃ := F₀.ext x₃.ext
  have hl₄ := HL.own F₃ b₄.turned.keep hl
  have W₄ := W₀.mono F₄.keep
  have keep₄ : ∀ b o, Off env b → s.heap.get? b = some o → s₄.heap.get? b = some o := fun b o f e => b₄.off b o f (x₃.ext _ _ (sx.ext _ _ e))
  have hx₄ := keep₄ _ _ (F.old hx) hx
  have hdx₄ := keep₄ _ _ odx hdx
  have t₄ : Turned (Mine.own env) s s₄ := sx.turned.trans (x₃.turned.trans b₄.turned)
  have bh₄ : Bnd prog w (A.deeper env) env s₄.heap "headers" (.ref l) := F₄.bndL (by simp [upd]) G.k kh
  -- if type(headers) is not list
  refine wpAny_execs_cons (x_if (b := false) ?_ (fun e => by cases e) fun _ s₅ x₅ => ?_)
  · have := evb_isnot (prog := prog) (w := w) (A := A.deeper env) (s₀ := s₄) (env := env) (pos := ⟨65, 11, 65, 36⟩) (a := .type "list") (b := .type "list") (ev_type (Tx := "list") (np := ⟨65, 11, 65, 15⟩) (pos := ⟨65, 11, 65, 24⟩) (W₄.blt G kt (n_type w) b_type (by decide)) (ev_name (pos := ⟨65, 16, 65, 23⟩) bh₄) (fun v s' y e => by
      subst e
      obtain ⟨vs, l, _⟩ := hl₄.mono y.ext
      exact l.isList.typeIs) (by decide)) (ev_name (pos := ⟨65, 32, 65, 36⟩) (W₄.blt G kl (n_list w) b_list (by decide))) (by decide)
    exact this
  refine wpAny_execs_nil ?_
  -- self._headers = headers
  have F₅ := F₄.ext x₅.ext
  refine wpAny_execs_cons (plainObj_wpAny_Assign_Attribute (((ev_name (bh₄.mono x₅.ext)) s₅ (.refl _)).wp fun v s₆ x₆ e => ?_))
  subst e
  have F₆ := F₅.ext x₆.ext
  refine ((ev_name (F₆.bndL (x := "self") (v := .ref x) (by rw [upd_ne (by decide +kernel)]; exact hself) G.k ks)) s₆ (.refl _)).wp fun v s₇ x₇ e => ?_
  subst e
  have x₄₇ := x₅.trans (x₆.trans x₇)
  have W₇ := W₄.mono x₄₇.ext
  refine t_setHdr W₇ (x₄₇.ext _ _ hx₄) (x₄₇.ext _ _ hdx₄) fun h₈ tk tk' n hd₈ same => ?_
  have hx₇ := x₄₇.ext _ _ hx₄
  have hdx₇ := x₄₇.ext _ _ hdx₄
  have hxd : x ≠ dx := fun e => by rw [e, hdx₇] at hx₇; cases hx₇
  have hl₇ := hl₄.mono x₄₇.ext
  have hld : l ≠ dx := fun e => by obtain ⟨vs, ⟨n', h1⟩, _⟩ := hl₇; rw [e, hdx₇] at h1; have := congrArg (fun o => o.map Obj.data) h1; cases this
  have hlx : x ≠ l := fun e => by obtain ⟨vs, ⟨n', h1⟩, _⟩ := hl₇; rw [← e, hx₇] at h1; have := congrArg (fun o => o.map Obj.data) h1; cases this
  have k₈ : ∀ b o, b ∉ [dx] → s₇.heap.get? b = some o → h₈.get? b = some o := fun b o h e => same.extBut b o (fun q => h (by simp [q])) e
  have hl₈ : HL h₈ l ps := hl₇.by k₈ (by simpa using hld) (fun b hb o e vs n q _ => by simp at hb; subst hb; rw [hdx₇] at e; cases e; cases q)
  have p₈ : HdrAt w h₈ x dx l := ⟨k₈ _ _ (by simpa using hxd) hx₇, tk', n, hd₈⟩
  have F₈ : FrC s₀.heap env (upd m₀ "headers" (.ref l)) cm₀ h₈ := (F₆.ext x₇.ext).by (X := [dx]) (fun d hd => by simp at hd; subst hd; exact ⟨odx.own, hdx0⟩) k₈
  have t₈ : Turned (Mine.own env ++ [dx]) s { s₇ with heap := h₈, toks := tk } :=
    ((t₄.trans x₄₇.turned).more fun b hb => by simp [hb]).trans ⟨fun b o h e => k₈ b o (fun q => h (by simp at q; simp [q])) e, rfl, fun _ _ e => e, id⟩
  generalize hs₈ : ({ s₇ with heap := h₈, toks := tk } : Shared) = s₈ at t₈ ⊢
  have eh₈ : h₈ = s₈.heap := by subst hs₈; rfl
  subst eh₈
  have done : ∀ s' m' cm', FrC s₀.heap env m' cm' s'.heap → Turned (Mine.own env) s₈ s' → P s' := fun s' m' cm' F' t' => by
    refine hP s' ⟨F'.keep, ?_, ?_, ?_⟩ ⟨dx, l, ⟨?_, tk', n, ?_⟩, HL.own F₈ t'.keep hl₈, ?_, hx0, hdx0, hld.symm, hlx⟩
    · exact t'.os.trans (t₈.os.trans sx₀.os)
    · exact fun i g e => t'.gens i g (t₈.gens i g (sx₀.gens i g e))
    · exact fun q => t'.bare (t₈.bare (sx₀.bare q))
    · exact t'.keep _ _ (F.old hx).own p₈.at_
    · exact t'.keep _ _ odx.own hd₈
    · exact hal.imp id fun ⟨a, b, _⟩ => ⟨a, b⟩
  refine wpAny_execs_cons (x_if (b := true) (evb_val ev_bool (fun v s' _ e => by subst e; exact t_truthy) (by intro _; rfl)) (fun _ s₉ x₉ => ?_) (fun e => by cases e))
  have F₉ := F₈.ext x₉.ext
  have hl₉ := hl₈.mono x₉.ext
  have p₉ := p₈.mono x₉.ext
  obtain ⟨vs, hvs, hpr⟩ := hl₉
  refine wpAny_execs_cons (x_forF F₉ [] (fun i m' cm' s' => m' "self" = some (.ref x)) (evi_list R.hh (ev_nameP (F₉.bndL (x := "headers") upd_eq G.k kh) fun s' y => ⟨rfl, isList_ext hvs.isList y.ext⟩)) (fun b hb => ?_) (fun i m' cm' a b q _ => q) (fun s' _ => by rw [upd_ne (by decide +kernel)]; exact hself) (fun i v s₁ m₁ cm₁ hi hv F₁ I t => ?_) fun s' m' cm' F' I t => ?_)
  · rw [List.append_nil] at hb
    refine ⟨F₉.own_alive b hb, fun q => ?_⟩
    simp at q
    obtain ⟨n', h1⟩ := hvs
    exact F₉.own_seq b hb _ (q ▸ h1) _ _ rfl
  · rw [List.append_nil] at t ⊢
    obtain ⟨c, hc, pa⟩ := Paired.get' hpr hv
    obtain ⟨hc1, hc2⟩ := hfine c (List.mem_of_getElem? hc)
    obtain ⟨a, u1, u2, rfl, tup⟩ := pa.by t.keep (fun b hb o e vs n q _ => F₉.own_seq b hb o e vs n q)
    refine a_pair R.hh F₁ tup G.k kk kv fun s₂' F₂ t₂ => ?_
    have pt := t.trans t₂
    have p₂ : HdrAt w s₂'.heap x dx l := ⟨pt.keep _ _ (x₉.ext _ _ p₈.at_ |> fun e => (F.old hx).own) p₉.at_, tk', n, pt.keep _ _ odx.own (x₉.ext _ _ hd₈)⟩
    have W₂' := W₀.mono F₂.keep
    have bself : Bnd prog w (A.deeper env) env s₂'.heap "self" (.ref x) := F₂.bndL (by rw [upd_ne (by decide +kernel), upd_ne (by decide +kernel)]; exact I) G.k ks
    have bk : Bnd prog w (A.deeper env) env s₂'.heap "k" (.str ⟨#[c.1]⟩ u1) := F₂.bndL (by rw [upd_ne (by decide +kernel), upd_eq]) G.k kk
    have bv : Bnd prog w (A.deeper env) env s₂'.heap "v" (.str ⟨#[c.2]⟩ u2) := F₂.bndL upd_eq G.k kv
    refine wpAny_execs_cons (x_exprV (ev_conv W₂' (RD.less (by decide)) p₂ (ev_name bself) (ev_nameP bk fun _ _ => .mk ..) hc1) (fun v s' e a q => by obtain ⟨t, e⟩ := e; rw [e] at q; cases q) (fun _ s₃' x₃' _ => ?_) (by subst henv; rfl) (by subst henv; rfl))
    refine wpAny_execs_cons (x_exprV (ev_conv (W₂'.mono x₃'.ext) (RD.less (by decide)) (p₂.mono x₃'.ext) (ev_name (bself.mono x₃'.ext)) (ev_nameP (bv.mono x₃'.ext) fun _ _ => .mk ..) hc2) (fun v s' e a q => by obtain ⟨t, e⟩ := e; rw [e] at q; cases q) (fun _ s₄' x₄' _ => ?_) (by subst henv; rfl) (by subst henv; rfl))
    refine wpAny_execs_nil ⟨_, _, F₂.ext (x₃'.trans x₄').ext, ?_, t₂.trans (x₃'.trans x₄').turned⟩
    rw [upd_ne (by decide +kernel), upd_ne (by decide +kernel)]; exact I
  · rw [List.append_nil] at t
    refine wpAny_execs_nil (wpAny_execs_nil ⟨rfl, rfl, done s' m' cm' F' (x₉.turned.trans t)⟩)
end
end Mine
namespace Mine
theorem k_keep (w : World) : keepIn (KK w) (.ref 203) = true := by kernel_rfl
theorem RoomA.made {n : Nat} {A : Around} {C : Addr} {vals : List Value} (x : RoomA (n + 1) A) : RoomA n (A.under (.builtin "type.__call__" ⟨.ref C :: vals, []⟩)) :=
  ⟨x.hh, by have := x.dp; show A.depth + 1 + 2 * n < _; omega, by have := x.un; show A.units + 1 + 20 * n + 20 < _; omega⟩
section
variable {prog : Program} {w : World} {A : Around} {s₀ s : Shared} {env : Env} {pos : Pos}
theorem make_ok (W : Wd w s.heap) (R : RoomA 7 A) {arg : Option Addr} {ps : List (Nat × Nat)} (hfine : Fine ps) (hz : ps.length ≤ 1000) (ha : match arg with | some l => HL s.heap l ps | none => ps = []) {args : List Value} (hargs : args = match arg with | some l => [.ref l] | none => []) :
    T prog w A (call (.ref 203) args) (fun v s' => ∃ x, v = .ref x ∧ Made w s s' arg ps x) s := by
  obtain ⟨hh, g, d, t, os⟩ := s
  refine wpAny_call (make_core (makes_of W.K (k_makes w)) (looks_findIn W.K (k_init w)) (fun self => bind_fn W.K self (k_fn97 w)) (.inl rfl) ?_)
  have e1 : Ext hh ((hh.push emptyDict).push (instObj 203 hh.objs.size)) := (Ext.push _ _).trans (Ext.push _ _)
  have g1 : ((hh.push emptyDict).push (instObj 203 hh.objs.size)).get? (hh.objs.size + 1) = some (instObj 203 hh.objs.size) := by
    have := Heap.get?_push_size (hh.push emptyDict) (o := instObj 203 hh.objs.size) rfl
    rwa [Heap.size_push] at this
  have g2 : ((hh.push emptyDict).push (instObj 203 hh.objs.size)).get? hh.objs.size = some { cls := .type "dict", data := .dict #[] } := Heap.get?_push_of_some _ (Heap.get?_push_size _ rfl)
  refine codeAny_mono (init_ok (s₀ := ⟨hh, g, d, t, os⟩) (s := ⟨(hh.push emptyDict).push (instObj 203 hh.objs.size), g, d, t, os⟩) (P := fun s' => Sx ⟨hh, g, d, t, os⟩ s' ∧ Made w ⟨hh, g, d, t, os⟩ s' arg ps (hh.objs.size + 1)) W R.made hfine hz g1 g2 ⟨e1, rfl, fun _ _ e => e, id⟩ ?_ (Ext.refl _).size.1 ha hargs (fun s' x m => ⟨x, m⟩)) ?_
  · have := (Ext.push hh emptyDict).size.2
    rwa [Heap.size_push] at this
  · intro r s' h
    rcases r with e | fl
    · obtain ⟨h, _⟩ := h; cases h
    · cases fl with
      | ret v =>
        obtain ⟨rfl, h1, h2⟩ := h
        exact ⟨rfl, h2.1, _, rfl, h2.2⟩
      | _ => exact h.elim
/-- Headers() -/
theorem ev_make0 {np : Pos} (W : Wd w s₀.heap) (R : RoomA 7 A) (hb : Bnd prog w A env s₀.heap "Headers" (.ref 203)) :
    Ev prog w A s₀ env (.Call (.Name "Headers" np) [] [] pos) (fun v s' => ∃ x s, v = .ref x ∧ Sx s₀ s ∧ Made w s s' none [] x) := fun s hx =>
  Call_ (wpAny_Name (hb s _ _ hx.ext (callWith_of (P := (KK w).In) (by rfl) (keeps_K (k_keep w)) (evalArgs_gen (by rfl) ((evs_nil pos s hx).wp fun vs s₁ y e => by
    subst e
    have W₁ := W.mono (hx.trans y).ext
    exact ⟨W₁.K, T.from y ((make_ok W₁ R (arg := none) (ps := []) (fun p h => by cases h) (by decide) rfl rfl).mono fun v s' z ⟨x, e, m⟩ => ⟨x, s₁, e, hx.trans y, m⟩)⟩)))) (by decide))
/-- Headers(e) -/
theorem ev_make1 {np : Pos} {e : PySem.Expr} {ps : List (Nat × Nat)} (W : Wd w s₀.heap) (R : RoomA 7 A) (hb : Bnd prog w A env s₀.heap "Headers" (.ref 203)) (hfine : Fine ps) (hz : ps.length ≤ 1000)
    (he : Ev prog w A s₀ env e (fun v s => ∃ l, v = .ref l ∧ HL s.heap l ps)) (hs : starEach [e] env = [(false, eval e env)] := by rfl) :
    Ev prog w A s₀ env (.Call (.Name "Headers" np) [e] [] pos) (fun v s' => ∃ x l s, v = .ref x ∧ Sx s₀ s ∧ Made w s s' (some l) ps x) := fun s hx =>
  Call_ (wpAny_Name (hb s _ _ hx.ext (callWith_of (P := (KK w).In) (by rw [hs]; rfl) (keeps_K (k_keep w)) (evalArgs_gen (by rw [hs]; rfl) ((evs_one he hs pos s hx).wp fun vs s₁ y ⟨v, e, l, e', hl⟩ => by
    subst e e'
    have W₁ := W.mono (hx.trans y).ext
    exact ⟨W₁.K, T.from y ((make_ok W₁ R (arg := some l) (ps := ps) hfine hz hl rfl).mono fun v s' z ⟨x, e, m⟩ => ⟨x, l, s₁, e, hx.trans y, m⟩)⟩)))) (by decide))
end
end Mine
namespace Mine
section
variable {prog : Program} {w : World} {A : Around} {s₀ s : Shared} {env : Env} {pos : Pos} {Q : Flow → Shared → Prop} {h₀ : Heap} {m cm : Str → Option Value}
/-- o.append(e) -/
theorem x_append {o e : PySem.Expr} {apos p : Pos} {l : Addr} {vs : List Value} {P : Value → Shared → Prop} (ho : Ev prog w A s env o (fun v _ => v = .ref l)) (hl : s.heap.PlainList l vs.toArray) (he : Ev prog w A s env e P) (hz : vs.length ≤ 1000)
    (k : ∀ v s₁ h', Sx s s₁ → P v s₁ → h'.PlainList l (vs ++ [v]).toArray → Heap.SameBut l s₁.heap h' → Q .next { s₁ with heap := h' })
    (hs : starEach [e] env = [(false, eval e env)] := by rfl) (hi : interactive env = false := by rfl) (hsw : swapsWith (.Call (.Attribute o "append" apos) [e] [] p) none pos.line env = Pure.pure false := by rfl)
    (hh : ∃ pl, eval (.Call (.Attribute o "append" apos) [e] [] p) env = (do
      let ov ← eval o env
      standAt apos.atName
      let (f, first) ← holding [ov] (getMethod ov "append" pl)
      callWith p f first (backTo p (starEach [e] env)) []) := by exact ⟨_, rfl⟩) :
    wpAny (model prog w) A (exec (.Expr (.Call (.Attribute o "append" apos) [e] [] p) pos) env) Q NoE s := by
  obtain ⟨pl, hh⟩ := hh
  refine wpAny_Expr (MethodCall_ (pl := pl) ((ho s (.refl _)).wp fun ov s₁ x₁ e => ?_) hh) hi hsw
  subst e
  obtain ⟨n, hl₁⟩ := hl.at fun o e => x₁.ext _ _ e
  refine Calls.getMethod_list_append hl₁ rfl rfl ?_
  refine Calls.callWith_builtin (by rw [hs]; rfl) (evalArgs_gen (by rw [hs]; rfl) ((evs_one he hs p s₁ x₁).wp fun ws s₂ x₂ ⟨v, e, pv⟩ => ?_))
  subst e
  have hl₂ : s₂.heap.PlainList l vs.toArray := ⟨n, x₂.ext _ _ hl₁⟩
  refine wpAny_list_append_plain hl₂ (fun h' h1 h2 => ?_) (by rw [List.size_toArray]; have k : 1000 ≤ sizeLine := by decide
                                                              omega)
  exact k v s₂ h' (x₁.trans x₂) pv (by simpa using h1) h2

/-- items of an empty dict -/
theorem ev_items {o : PySem.Expr} {apos : Pos} {d : Addr} {n : Nat} (ho : Ev prog w A s₀ env o (fun v _ => v = .ref d)) (hd : s₀.heap.get? d = some { cls := .type "dict", data := .dict #[] n }) (hsys : (d == sysModules) = false)
    (hh : ∃ pl, eval (.Call (.Attribute o "items" apos) [] [] pos) env = (do
      let ov ← eval o env
      standAt apos.atName
      let (f, first) ← holding [ov] (getMethod ov "items" pl)
      callWith pos f first (backTo pos (starEach [] env)) []) := by exact ⟨_, rfl⟩) : Ev prog w A s₀ env (.Call (.Attribute o "items" apos) [] [] pos) (fun v s' => ∃ a, v = .ref a ∧ s'.heap.IsItemsView a d) := by
  obtain ⟨pl, hh⟩ := hh
  refine ev_meth (pl := pl) (f := .builtin "dict.items") ho (fun ov s x e => ?_) (.builtin _) evs_nil (fun ov vs s s' x e y e' => ?_) (by intro _; rfl) hh
  · subst e
    exact getMethod_builtin ⟨_, x.ext _ _ hd, rfl⟩ PySem.F.plainAttrs_dict PySem.F.slot_dict_items PySem.F.type_dict_items (fun a e => by cases e; exact ⟨_, x.ext _ _ hd, rfl⟩) ⟨.refl _, rfl⟩
  · subst e e'
    have hd' := (x.trans y).ext _ _ hd
    have D : s'.heap.DictOf (strKind prog w) d [] := ⟨_, #[], n, hd', ⟨rfl, rfl, rfl⟩, rfl, fun e he => absurd he (by simp), .nil, by simp⟩
    exact call_meetsIn PySem.F.slot_dict_items ⟨_, hd', rfl⟩ PySem.F.entry_dict_items (PySem.F.args_dict_items_1 _) (meets_dict_items (strKind prog w) d hsys) ⟨⟨[], D⟩, sx_push _, _, rfl, ⟨_, Heap.get?_push_size _ rfl, rfl, rfl⟩⟩
/-- a loop over the items of an empty dict -/
theorem x_for_items0 {o : PySem.Expr} {body : List Stmt} {apos p pk pv pt : Pos} {xk xv : Str} {x1 : Nat} {d : Addr} {n : Nat} (F : FrC h₀ env m cm s.heap) (hcl : env.cells = []) (hh : A.handled = none) (hf : env.scope.kind = .function) (hxk : env.kindOf xk = some .local) (hxv : env.kindOf xv = some .local)
    (hit : Ev prog w A s env (.Call (.Attribute o "items" apos) [] [] p) (fun v s' => ∃ a, v = .ref a ∧ s'.heap.IsItemsView a d)) (hd : s.heap.get? d = some { cls := .type "dict", data := .dict #[] n }) (hdL : d ≠ env.locals)
    (done : ∀ s', FrC h₀ env m cm s'.heap → Turned (own env) s s' → Q .next s') (hs : ∀ x, foldedSetIterable (.Call (.Attribute o "items" apos) [] [] p) env x = Pure.pure x := by intro _; rfl) :
    wpAny (model prog w) A (exec (.For (.Tuple [.Name xk pk, .Name xv pv] x1 pt) (.Call (.Attribute o "items" apos) [] [] p) body [] pos) env) Q NoE s := by
  refine wpAny_For ((hit s (.refl _)).wp fun xv s₁ x₁ ⟨a, e, iv⟩ => ?_) hs
  subst e
  have hd₁ := x₁.ext _ _ hd
  have D : s₁.heap.DictAt (strKind prog w) d [] n := ⟨_, #[], hd₁, ⟨rfl, rfl, rfl⟩, rfl, fun e he => absurd he (by simp), .nil, by simp⟩
  refine wpAny_pyIter_items iv D ?_
  have F₁ := F.ext x₁.ext
  have lt : ∀ {b o}, s₁.heap.get? b = some o → b ≠ s₁.heap.objs.size := fun e => Nat.ne_of_lt (Heap.lt_size e)
  obtain ⟨oL, esL, nL, hL, _⟩ := id F₁.ns
  refine codeAny_forLoop_items_locals (knd := strKind prog w) (d := d) (kvs := []) (ep := n) (m := m) hh hxk hxv (by rw [hf]; rfl) (fun e => lt hL e.symm) hdL (lt hd₁)
    (Heap.get?_push_size _ rfl) (by obtain ⟨o, es, h1, h2, h3, h4⟩ := D; exact ⟨o, es, Heap.get?_push_of_some _ h1, h2, h3, h4⟩) (F₁.ns.push _) (fun _ m' => m' = m) rfl (fun i k v key m₁ s₁ h => by simp at h) fun h' tk m' hn e k => ?_
  subst e
  refine done _ ⟨hn, fun b o e => k b o (fun q => ?_) (lt (F₁.keep _ _ e)) (Heap.get?_push_of_some _ (F₁.keep _ _ e)), F₁.newL, fun n c h => ?_, F₁.apart, F₁.newC⟩ ⟨fun b o hb e => k b o (fun q => hb (mem_own.mpr (.inl q))) (lt (x₁.ext _ _ e)) (Heap.get?_push_of_some _ (x₁.ext _ _ e)), x₁.os, x₁.gens, x₁.bare⟩
  · rw [q, F₁.newL] at e; cases e
  · rw [hcl] at h; cases h
/-- a tuple of two -/
theorem ev_pair {e₁ e₂ : PySem.Expr} {kk : Nat} {P R : Value → Shared → Prop} (h1 : Ev prog w A s₀ env e₁ P) (hm : Mono P) (h2 : Ev prog w A s₀ env e₂ R) (hm2 : Mono R) (hs : starEach [e₁, e₂] env = [(false, eval e₁ env), (false, eval e₂ env)] := by rfl) (hs2 : starEach [e₂] env = [(false, eval e₂ env)] := by rfl) :
    Ev prog w A s₀ env (.Tuple [e₁, e₂] kk pos) (fun v s => ∃ a x y, v = .ref a ∧ IsTup s.heap a #[x, y] ∧ P x s ∧ R y s ∧ s₀.heap.get? a = none) := fun s hx =>
  Tuple_ ((evs_cons h1 hm (evs_one h2 hs2) (by rw [hs, hs2]) pos s hx).wp fun vs s₁ y ⟨v, r, e, p, u, e2, q⟩ => by
    subst e e2
    exact wpAny_newObj_type ⟨y.trans (sx_push _), _, _, _, rfl, IsTup.new _ _, hm _ _ _ (sx_push _) p, hm2 _ _ _ (sx_push _) q, fresh_of (hx.trans y)⟩ (by show 2 ≤ sizeLine; decide))
/-- x.join(e) -/
theorem ev_join {x : Str} {k : Nat} {apos p : Pos} {e : PySem.Expr} {ys : List Str} (he : Ev prog w A s₀ env e (fun v s => LS s.heap v ys)) (hok : (ys.map (·.length)).sum + ys.length * x.length ≤ 16777216) (hs : starEach [e] env = [(false, eval e env)] := by rfl)
    (hh : ∃ pl, eval (.Call (.Attribute (.Constant (.str x) k p) "join" apos) [e] [] pos) env = (do
      let ov ← eval (.Constant (.str x) k p) env
      standAt apos.atName
      let (f, first) ← holding [ov] (getMethod ov "join" pl)
      callWith pos f first (backTo pos (starEach [e] env)) []) := by exact ⟨_, rfl⟩) : Ev prog w A s₀ env (.Call (.Attribute (.Constant (.str x) k p) "join" apos) [e] [] pos) (fun v _ => StrV v (Txt.join x ys)) := by
  obtain ⟨pl, hh⟩ := hh
  refine ev_meth (pl := pl) (f := .builtin "str.join") ev_str (fun ov s y e => ?_) (.builtin _) (evs_one he hs) (fun ov vs s s' y e z e' => ?_) (by intro _; rw [hs]; rfl) hh
  · obtain ⟨t, rfl⟩ := e
    exact getMethod_builtin (typeIs_str _ _ _) PySem.F.plainAttrs_str PySem.F.slot_str_join PySem.F.type_str_join (fun a e => by cases e) ⟨.refl _, rfl⟩
  · obtain ⟨t, rfl⟩ := e
    obtain ⟨v, rfl, a, ws, rfl, h1, h2⟩ := e'
    exact join_list h1 (by simpa using h2) hok fun t' k => ⟨.toks, .mk ..⟩
end
end Mine
namespace Mine
def allocO {α : Type} : Sem α → Option Obj
  | .alloc o _ => some o
  | _ => none
def allocK {α : Type} : Sem α → Addr → Sem α
  | .alloc _ k, a => k a
  | _, _ => .unsupported "x"
theorem wp_allocK {M : Model} {A : Around} {E : Value → Shared → Prop} {α : Type} {t : Sem α} {o : Obj} {Q : α → Shared → Prop} {s : Shared} (h1 : allocO t = some o) (h : wpAny M A (allocK t s.heap.objs.size) Q E { s with heap := s.heap.push o }) : wpAny M A t Q E s := by
  unfold allocO at h1
  split at h1
  · rename_i o' k
    cases h1
    exact wpAny_bind (m := alloc o) (f := k) (wpAny_alloc h)
  · cases h1
theorem at_add (w : World) : (hd.heap_39 w.params).lookup 200 = some ⟨.type "function", none, .func (fdOf w 200), #[]⟩ := by kernel_rfl
theorem bind_add (w : World) (a b c : Value) : allocO (bindArgs (fdOf w 200) ⟨[a, b, c], []⟩) = some { cls := .type "dict", data := .dict #[] } := by kernel_rfl
theorem bind_add' (w : World) (a b c : Value) (n : Addr) : allocK (bindArgs (fdOf w 200) ⟨[a, b, c], []⟩) n = (pure [("self", a), ("_name", b), ("_value", c), ("_params", .ref n)] : Sem (List (Str × Value))) := by kernel_rfl
theorem bindwp_add {w : World} {a b c : Value} {M : Model} {A : Around} {s : Shared} : wpAny M A (bindArgs (fdOf w 200) ⟨[a, b, c], []⟩) (fun binds s' => binds = ([("self", a), ("_name", b), ("_value", c), ("_params", .ref s.heap.objs.size)] : List (Str × Value)) ∧ s' = { s with heap := s.heap.push { cls := .type "dict", data := .dict #[] } }) NoE s := by
  have h := bind_add w a b c
  have h' := bind_add' w a b c s.heap.objs.size
  generalize bindArgs (fdOf w 200) ⟨[a, b, c], []⟩ = t at h h' ⊢
  refine wp_allocK h ?_
  rw [h']
  exact wpAny_pure ⟨rfl, rfl⟩
theorem join1 (d : Nat) : Txt.join "; " [⟨#[d]⟩] = ⟨#[d]⟩ := rfl
theorem Turned.os' {X : List Addr} {a b : Shared} (t : Turned X a b) : b.os = a.os := t.os
section
variable {prog : Program} {w : World} {A : Around} {s : Shared}
/-- self._headers -/
theorem ev_hdrs {env : Env} {np apos : Pos} {x dx l : Addr} (W : Wd w s.heap) (p : HdrAt w s.heap x dx l) (hb : Bnd prog w A env s.heap "self" (.ref x)) : Ev prog w A s env (.Attribute (.Name "self" np) "_headers" apos) (fun v _ => v = .ref l) := fun s₁ y =>
  Attribute_any_ (((ev_name (pos := np) hb) s₁ y).wp fun o s₂ z e => by
    subst e
    exact T.from z (t_getHdr (W.mono (y.trans z).ext) (p.mono (y.trans z).ext)))
theorem add_ok (W : Wd w s.heap) (R : RoomA 6 A) {x dx l : Addr} {ps : List (Nat × Nat)} {c d : Nat} {t u : Tok} (p : HdrAt w s.heap x dx l) (hl : HL s.heap l ps) (hc : c ∈ signsHere) (hd : d ∈ signsHere) (hz : ps.length ≤ 1000) :
    wpAny (model prog w) A (call (.ref 200) [.ref x, .str ⟨#[c]⟩ t, .str ⟨#[d]⟩ u]) (fun v s' => v = .none ∧ Turned [l] s s' ∧ HL s'.heap l (ps ++ [(c, d)])) NoE s := by
  generalize hs₁ : ({ s with heap := s.heap.push { cls := .type "dict", data := .dict #[] } } : Shared) = s₁
  have x₁ : Sx s s₁ := hs₁ ▸ sx_push _
  have hpar : s₁.heap.get? s.heap.objs.size = some { cls := .type "dict", data := .dict #[] } := by subst hs₁; exact Heap.get?_push_size _ rfl
  generalize hD : s.heap.objs.size = D at hpar
  have hDsys : (D == sysModules) = false := by
    cases e : (D == sysModules) with
    | false => rfl
    | true =>
      have := beq_iff_eq.mp e
      have hlt : (203 : Nat) < s.heap.objs.size := Heap.lt_size (W.K 203 _ (at_203 w))
      rw [hD, this] at hlt
      exact absurd hlt (by decide)
  refine wpAny_call (fn_code (s₁ := s₁) (body := bodyOf (fdOf w 200)) (bs := [("self", .ref x), ("_name", .str ⟨#[c]⟩ t), ("_value", .str ⟨#[d]⟩ u), ("_params", .ref D)]) R.depth (W.K _ _ (at_add w)) rfl (by kernel_rfl) (codeRec_of' W (by kernel_rfl)) W.lim (by kernel_rfl) (by kernel_rfl) (by kernel_rfl) (by kernel_rfl)
    ?_ x₁ (fun n x hx => .inl ?_) fun s₂ F sx => ?_)
  · subst hs₁ hD; exact @bindwp_add w (.ref x) (.str ⟨#[c]⟩ t) (.str ⟨#[d]⟩ u) (model prog w) A.in1 s
  · simp only [List.mem_cons, List.mem_nil_iff, or_false] at hx
    rcases hx with rfl | rfl | rfl | rfl <;> kernel_rfl
  have W₁ := W.mono x₁.ext
  generalize hL : s₁.heap.objs.size = L at F ⊢
  have G : GEnv (callEnvC (fdOf w 200) L 200) := ⟨by kernel_rfl, by kernel_rfl, by kernel_rfl⟩
  have mself : bindL (callEnvC (fdOf w 200) L 200).kindOf [("self", .ref x), ("_name", .str ⟨#[c]⟩ t), ("_value", .str ⟨#[d]⟩ u), ("_params", .ref D)] (fun _ => none) "self" = some (.ref x) := by kernel_rfl
  have mname : bindL (callEnvC (fdOf w 200) L 200).kindOf [("self", .ref x), ("_name", .str ⟨#[c]⟩ t), ("_value", .str ⟨#[d]⟩ u), ("_params", .ref D)] (fun _ => none) "_name" = some (.str ⟨#[c]⟩ t) := by kernel_rfl
  have mval : bindL (callEnvC (fdOf w 200) L 200).kindOf [("self", .ref x), ("_name", .str ⟨#[c]⟩ t), ("_value", .str ⟨#[d]⟩ u), ("_params", .ref D)] (fun _ => none) "_value" = some (.str ⟨#[d]⟩ u) := by kernel_rfl
  have mpar : bindL (callEnvC (fdOf w 200) L 200).kindOf [("self", .ref x), ("_name", .str ⟨#[c]⟩ t), ("_value", .str ⟨#[d]⟩ u), ("_params", .ref D)] (fun _ => none) "_params" = some (.ref D) := by kernel_rfl
  generalize bindL (callEnvC (fdOf w 200) L 200).kindOf [("self", .ref x), ("_name", .str ⟨#[c]⟩ t), ("_value", .str ⟨#[d]⟩ u), ("_params", .ref D)] (fun _ => none) = m₀ at F mself mname mval mpar
  generalize bindC (callEnvC (fdOf w 200) L 200).kindOf [("self", .ref x), ("_name", .str ⟨#[c]⟩ t), ("_value", .str ⟨#[d]⟩ u), ("_params", .ref D)] (fun _ => none) = cm₀ at F
  have hcl : (callEnvC (fdOf w 200) L 200).cells = [] := by kernel_rfl
  have ks : (callEnvC (fdOf w 200) L 200).kindOf "self" = some .local := by kernel_rfl
  have kn : (callEnvC (fdOf w 200) L 200).kindOf "_name" = some .local := by kernel_rfl
  have kva : (callEnvC (fdOf w 200) L 200).kindOf "_value" = some .local := by kernel_rfl
  have kpa : (callEnvC (fdOf w 200) L 200).kindOf "_params" = some .local := by kernel_rfl
  have kpt : (callEnvC (fdOf w 200) L 200).kindOf "parts" = some .local := by kernel_rfl
  have kk : (callEnvC (fdOf w 200) L 200).kindOf "k" = some .local := by kernel_rfl
  have kv : (callEnvC (fdOf w 200) L 200).kindOf "v" = some .local := by kernel_rfl
  generalize henv : callEnvC (fdOf w 200) L 200 = env at *
  have RD : RoomA 5 (A.deeper env) := R.deeper
  have p₁ := p.mono x₁.ext
  have n1 : ∀ {a b : Str}, a ≠ b → ∀ {m : Str → Option Value} {v r : Value}, m a = some r → upd m b v a = some r := fun h _ _ _ e => by rw [upd_ne h]; exact e
  -- parts = []
  refine wpAny_execs_cons (x_assignL F ev_list0 G.k kpt fun v s₃ s₄ x₃ ⟨pa, vs, e, hpl, hpn, e'⟩ F₄ b₄ => ?_)
  subst e e'
  have hpl₄ : s₄.heap.PlainList pa ([] : List Value).toArray := hpl.at fun o e => b₄.off _ _ ((F.ext x₃.ext).seq e (fun es n q => by obtain ⟨n', h⟩ := hpl; rw [h] at e; cases e; cases q) (fun v q => by obtain ⟨n', h⟩ := hpl; rw [h] at e; cases e; cases q)) e
  have hpn₁ : s₁.heap.get? pa = none := by
    cases q : s₁.heap.get? pa with
    | none => rfl
    | some o => have := sx.ext _ _ q; rw [hpn] at this; cases this
  have t₄ : Turned (own env) s₂ s₄ := x₃.turned.trans b₄.turned
  -- if _value is not None
  refine wpAny_execs_cons (x_if (b := true) ?_ (fun _ s₅ x₅ => ?_) (fun e => by cases e))
  · have := evb_isnot (prog := prog) (w := w) (A := A.deeper env) (s₀ := s₄) (env := env) (pos := ⟨132, 11, 132, 29⟩) (a := .str ⟨#[d]⟩ u) (b := .none) (ev_name (x := "_value") (pos := ⟨132, 11, 132, 17⟩) (F₄.bndL (n1 (by decide +kernel) mval) G.k kva)) (ev_none (k := 0) (pos := ⟨132, 25, 132, 29⟩)) (by kernel_rfl)
    have e : (!(Value.str ⟨#[d]⟩ u == Value.none)) = true := by kernel_rfl
    rw [e] at this
    exact this
  have F₅ := F₄.ext x₅.ext
  refine wpAny_execs_cons (x_assignL F₅ (ev_conv (W₁.mono F₅.keep) (RD.less (by decide)) (p₁.mono F₅.keep) (ev_name (F₅.bndL (n1 (by decide +kernel) mself) G.k ks)) (ev_nameP (F₅.bndL (n1 (by decide +kernel) mval) G.k kva) fun _ _ => .mk ..) hd) G.k kva (fun v s₆ s₇ x₆ ⟨u', e⟩ F₇ b₇ => ?_) (by subst henv; rfl))
  subst e
  have hpl₆ : s₆.heap.PlainList pa ([] : List Value).toArray := hpl₄.at fun o e => (x₅.trans x₆).ext _ _ e
  have hpl₇ : s₇.heap.PlainList pa ([] : List Value).toArray := hpl₆.at fun o e => b₇.off _ _ ((F₅.ext x₆.ext).seq e (fun es n q => by obtain ⟨n', h⟩ := hpl₆; rw [h] at e; cases e; cases q) (fun v q => by obtain ⟨n', h⟩ := hpl₆; rw [h] at e; cases e; cases q)) e
  have t₇ : Turned (own env) s₂ s₇ := t₄.trans ((x₅.trans x₆).turned.trans b₇.turned)
  refine wpAny_execs_cons (x_append (vs := []) (P := fun v _ => v = .str ⟨#[d]⟩ u') (ev_name (F₇.bndL (n1 (by decide +kernel) upd_eq) G.k kpt)) hpl₇ (ev_name (F₇.bndL upd_eq G.k kva)) (by decide) (fun v s₈ h₉ x₈ e l₉ sb => ?_) (by rfl) (by subst henv; rfl) (by subst henv; rfl))
  subst e
  have F₈ := F₇.ext x₈.ext
  have hpo : pa ∉ own env := fun q => by obtain ⟨n, h⟩ := hpl₇; exact F₇.own_seq _ q _ h _ _ rfl
  have F₉ : FrC s₁.heap env _ cm₀ h₉ := F₈.by (X := [pa]) (fun d hd => by simp at hd; subst hd; exact ⟨hpo, hpn₁⟩) fun b o hb e => sb.extBut b o (by simpa using hb) e
  have t₉ : Turned (own env ++ [pa]) s₂ { s₈ with heap := h₉ } := ((t₇.trans x₈.turned).more fun b hb => by simp [hb]).trans ⟨fun b o hb e => sb.extBut b o (fun q => hb (by simp [q])) e, rfl, fun _ _ e => e, id⟩
  generalize hs₉ : ({ s₈ with heap := h₉ } : Shared) = s₉ at t₉ ⊢
  have eh₉ : h₉ = s₉.heap := by subst hs₉; rfl
  subst eh₉
  refine wpAny_execs_nil ?_
  -- for k, v in _params.items()
  have hpar₉ := F₉.keep _ _ hpar
  refine wpAny_execs_cons (x_for_items0 F₉ hcl R.hh G.k kk kv (ev_items (ev_name (F₉.bndL (n1 (by decide +kernel) (n1 (by decide +kernel) mpar)) G.k kpa)) hpar₉ hDsys) hpar₉ (fun q => by rw [q, F₉.newL] at hpar; cases hpar) fun s₁₀ F₁₀ t₁₀ => ?_)
  have l₁₀ : s₁₀.heap.PlainList pa ([] ++ [Value.str ⟨#[d]⟩ u']).toArray := l₉.at fun o e => t₁₀.keep _ _ hpo e
  have t' : Turned (own env ++ [pa]) s₂ s₁₀ := t₉.trans (t₁₀.more fun b hb => by simp [hb])
  obtain ⟨vs, hlv, hpr⟩ := hl.mono (x₁.ext.trans F₁₀.keep)
  have W₁₀ := W₁.mono F₁₀.keep
  have p₁₀ := p₁.mono F₁₀.keep
  have bself : Bnd prog w (A.deeper env) env s₁₀.heap "self" (.ref x) := F₁₀.bndL (n1 (by decide +kernel) (n1 (by decide +kernel) mself)) G.k ks
  have bname : Bnd prog w (A.deeper env) env s₁₀.heap "_name" (.str ⟨#[c]⟩ t) := F₁₀.bndL (n1 (by decide +kernel) (n1 (by decide +kernel) mname)) G.k kn
  have bparts : Bnd prog w (A.deeper env) env s₁₀.heap "parts" (.ref pa) := F₁₀.bndL (n1 (by decide +kernel) upd_eq) G.k kpt
  refine wpAny_execs_cons (x_append (l := l) (vs := vs) ?_ hlv (ev_pair (ev_conv W₁₀ (RD.less (by decide)) p₁₀ (ev_name bself) (ev_nameP bname fun _ _ => .mk ..) hc) mono_str
    (ev_join (ys := [⟨#[d]⟩]) (ev_nameP bparts fun s' y => ⟨pa, _, rfl, isList_ext l₁₀.isList y.ext, .cons _ _ .nil⟩) (Nat.le_of_ble_eq_true (by kernel_rfl))) mono_str) (by rw [← hpr.length]; exact hz) (fun v s₁₁ h₁₂ x₁₁ ⟨a, y, z, e, tup, ⟨t1, ey⟩, ⟨t2, ez⟩, fr⟩ l₁₂ sb₂ => ?_) (by rfl) (by subst henv; rfl) (by subst henv; rfl))
  · exact ev_hdrs W₁₀ p₁₀ bself
  subst e ey ez
  refine wpAny_execs_nil ⟨rfl, ?_, ?_⟩
  · have tt : Turned (own env ++ [pa] ++ [l]) s₂ { s₁₁ with heap := h₁₂ } := ((t'.trans x₁₁.turned).more fun b hb => List.mem_append.mpr (.inl hb)).trans ⟨fun b o hb e => sb₂.extBut b o (fun q => hb (by simp [q])) e, rfl, fun _ _ e => e, id⟩
    exact ⟨fun b o hb e => sb₂.extBut b o (by simpa using hb) (x₁₁.ext _ _ (F₁₀.keep _ _ (x₁.ext _ _ e))), tt.os.trans (sx.os.trans x₁.os), fun i g e => tt.gens i g (sx.gens i g (x₁.gens i g e)), fun q => tt.bare (sx.bare (x₁.bare q))⟩
  · have hlv₁ := hlv.at fun o e => x₁₁.ext _ _ e
    have kp : ∀ b o, b ∉ [l] → s₁₁.heap.get? b = some o → h₁₂.get? b = some o := fun b o hb e => sb₂.extBut b o (by simpa using hb) e
    have tuples : ∀ b ∈ [l], ∀ o, s₁₁.heap.get? b = some o → ∀ vs n, o.data = .seq vs n → o.cls = .type "tuple" → False := fun b hb o e vs n q q' => by
      simp at hb
      obtain ⟨n', h⟩ := hlv₁
      rw [hb, h] at e
      injection e with e
      rw [← e] at q'
      exact absurd (show Value.type "list" = .type "tuple" from q') (by decide)
    refine ⟨_, l₁₂, PySem.Paired.snoc ?_ ?_⟩
    · exact Paired.mono' (fun cc v pp => (pp.mono x₁₁.ext).by kp tuples) hpr
    · exact PairAt.by (c := (c, d)) kp ⟨a, t1, t2, rfl, tup⟩ tuples
end
end Mine
namespace Mine
def lowC (c : Nat) : Nat := if 65 ≤ c ∧ c ≤ 70 then c + 32 else c
theorem lowC_here : ∀ c ∈ signsHere, lowC c ∈ signsHere := by decide +kernel
theorem lower_here : ∀ c ∈ signsHere, Txt.lower ⟨#[c]⟩ = ⟨#[lowC c]⟩ := by decide +kernel
section
variable {prog : Program} {w : World} {A : Around} {s₀ s : Shared} {env : Env} {pos : Pos}
/-- an item of a tuple -/
theorem ev_itemT {value : PySem.Expr} {ip : Pos} {ik : Nat} {xs : List Value} {x : Value} {k : Nat} (hv : Ev prog w A s₀ env value (fun v s => ∃ l, v = .ref l ∧ IsTup s.heap l xs.toArray))
    (hk : k < 100) (hx : xs[k]? = some x) (hs : ∀ l u, subscripted (.Constant (.int k) ik ip) false (.ref l) (.int k u) = operate [.ref l, .int k u] (getItem (.ref l) (.int k u)) := by intro _ _; with_unfolding_all rfl) :
    Ev prog w A s₀ env (.Subscript value (.Constant (.int k) ik ip) pos) (fun v _ => v = x) :=
  ev_subs hv ev_int fun o i s₁ s₂ x₁ ⟨l, e, hl⟩ x₂ ⟨u, hi⟩ => by
    subst e hi
    have hlt : k < xs.length := (List.getElem?_eq_some_iff.mp hx).1
    have hj : seqIndex? (k : Int) xs.toArray.size = some k := by
      unfold seqIndex?
      have h1 : ¬ (k : Int) < 0 := by omega
      have h2 : (0 ≤ (k : Int) ∧ (k : Int) < (xs.length : Int)) := ⟨by omega, by omega⟩
      simp [h1, h2]
    exact tail_any (hl.keeps x₂.ext).typeIs PyProof.Rows.slot_tuple_getitem.lookup (PyProof.Rows.getItem_tuple (j := k) (hl.keeps x₂.ext) (by omega) (by omega) hj (by simpa using hx) ⟨.refl _, rfl⟩) (hs l u)
end
section
variable {prog : Program} {w : World} {A : Around} {s₀ s : Shared} {env : Env}
theorem tests_nil : T prog w A (tests [] env) (fun ok _ => ok = true) s := by
  unfold tests
  rw [List.forIn_nil]
  exact T.pure rfl
theorem tests_one {c : PySem.Expr} {b : Bool} (h : EvB prog w A s₀ env c b) (hx : Sx s₀ s) : T prog w A (tests [c] env) (fun ok _ => ok = b) s := by
  unfold tests
  rw [List.forIn_cons]
  simp only [if_true]
  refine wpAny_bind (wpAny_bind ((h s hx).wp fun r s₁ x e => wpAny_pure ?_))
  subst e
  dsimp only
  rw [List.forIn_nil]
  exact wpAny_pure ⟨x, rfl⟩
end
theorem sign_eq (a b : Nat) : ((⟨#[a]⟩ : Str) == ⟨#[b]⟩) = (a == b) := by
  cases h : (a == b) with
  | true => have := beq_iff_eq.mp h; subst this; exact beq_self_eq_true _
  | false =>
    cases h' : ((⟨#[a]⟩ : Str) == ⟨#[b]⟩) with
    | false => rfl
    | true =>
      have := beq_iff_eq.mp h'
      simp at this
      rw [this] at h
      simp at h
theorem strsAre_of_paired {g : Nat → Str} : ∀ {l : List Nat} {ys : List Value}, PySem.Paired (fun i y => StrV y (g i)) l ys → StrsAre ys (l.map g)
  | _, _, .nil => .nil
  | _, _, .cons ⟨t, e⟩ r => e ▸ .cons _ _ (strsAre_of_paired r)
theorem intsAre_of_paired {g : Nat → Int} : ∀ {l : List Nat} {ys : List Value}, PySem.Paired (fun i y => IntV y (g i)) l ys → IntsAre ys (l.map g)
  | _, _, .nil => .nil
  | _, _, .cons ⟨t, e⟩ r => e ▸ .cons _ _ (intsAre_of_paired r)
theorem at_getall (w : World) : (hd.heap_39 w.params).lookup 142 = some ⟨.type "function", none, .func (fdOf w 142), #[]⟩ := by kernel_rfl
theorem bind_getall (w : World) (a b : Value) : bindArgs (fdOf w 142) ⟨[a, b], []⟩ = (pure [("self", a), ("name", b)] : Sem (List (Str × Value))) := by kernel_rfl
def told (ps : List (Nat × Nat)) (c : Nat) : List Str := (ps.filter fun q => lowC q.1 == lowC c).map fun q => ⟨#[q.2]⟩
theorem filter_range {α β : Type} (ps : List α) (d : α) (f : α → Bool) (g : α → β) : ((List.range ps.length).filter fun i => f (ps.getD i d)).map (fun i => g (ps.getD i d)) = (ps.filter f).map g := by
  have e : ps = (List.range ps.length).map fun i => ps.getD i d := by
    apply List.ext_getElem?
    intro i
    by_cases h : i < ps.length
    · simp [h, List.getD]
    · simp [h]
  generalize hd' : (fun i => ps.getD i d) = get at e
  have e1 : ∀ i, ps.getD i d = get i := fun i => by rw [← hd']
  simp only [e1]
  conv => rhs; rw [e]
  rw [List.filter_map, List.map_map]
  rfl
section
variable {prog : Program} {w : World} {A : Around} {s : Shared}
theorem getall_ok (W : Wd w s.heap) (R : RoomA 6 A) {x dx l : Addr} {ps : List (Nat × Nat)} {c : Nat} {t : Tok} (p : HdrAt w s.heap x dx l) (hl : HL s.heap l ps) (hfine : Fine ps) (hc : c ∈ signsHere) (hz : ps.length ≤ 1000) :
    T prog w A (call (.ref 142) [.ref x, .str ⟨#[c]⟩ t]) (fun v s' => LS s'.heap v (told ps c)) s := by
  refine fn_enter (s₁ := s) (body := bodyOf (fdOf w 142)) (bs := [("self", .ref x), ("name", .str ⟨#[c]⟩ t)]) R.depth (W.K _ _ (at_getall w)) rfl (by kernel_rfl) (codeRec_of' W (by kernel_rfl)) W.lim (by kernel_rfl) (by kernel_rfl) (by kernel_rfl) (by kernel_rfl)
    (by rw [bind_getall]; exact wpAny_pure ⟨rfl, rfl⟩) (.refl _) (fun n x hx => ?_) fun s₂ F sx => ?_
  · simp only [List.mem_cons, List.mem_nil_iff, or_false] at hx
    rcases hx with rfl | rfl
    · exact .inl (by kernel_rfl)
    · exact .inr ⟨by kernel_rfl, by kernel_rfl⟩
  have W₂ := W.mono sx.ext
  generalize hL : s.heap.objs.size = L at F ⊢
  have mself : bindL (callEnvC (fdOf w 142) L 142).kindOf [("self", .ref x), ("name", .str ⟨#[c]⟩ t)] (fun _ => none) "self" = some (.ref x) := by kernel_rfl
  have mname : bindC (callEnvC (fdOf w 142) L 142).kindOf [("self", .ref x), ("name", .str ⟨#[c]⟩ t)] (fun _ => none) "name" = some (.str ⟨#[c]⟩ t) := by kernel_rfl
  generalize bindL (callEnvC (fdOf w 142) L 142).kindOf [("self", .ref x), ("name", .str ⟨#[c]⟩ t)] (fun _ => none) = m₀ at F mself
  generalize bindC (callEnvC (fdOf w 142) L 142).kindOf [("self", .ref x), ("name", .str ⟨#[c]⟩ t)] (fun _ => none) = cm₀ at F mname
  generalize henv : callEnvC (fdOf w 142) L 142 = env at F ⊢
  have G : GEnv env := by subst henv; exact ⟨by kernel_rfl, by kernel_rfl, by kernel_rfl⟩
  have ks : env.kindOf "self" = some .local := by subst henv; kernel_rfl
  have kn : env.kindOf "name" = some .cell := by subst henv; kernel_rfl
  have hcl : env.cells = [(("name" : Str), L + 1)] := by subst henv; kernel_rfl
  have hcn : env.cells.lookup ("name" : Str) = some (L + 1) := by subst henv; kernel_rfl
  have RD : RoomA 5 (A.deeper env) := R.deeper
  refine wpAny_execs_cons (x_assignC F (ev_conv W₂ (RD.less (by decide)) (p.mono sx.ext) (ev_name (F.bndL mself G.k ks)) ((ev_lower (x := ⟨#[c]⟩) (ev_nameP (F.bndC mname G.k kn hcn) fun _ _ => .mk ..) (Nat.le_of_ble_eq_true (by kernel_rfl)) _).mono fun v s' _ e => by rw [lower_here c hc] at e; exact e) (lowC_here c hc)) G.k kn hcn (fun v s₃ s₄ x₃ ⟨u, e⟩ F₄ b₄ => ?_) (by subst henv; rfl))
  subst e
  have W₄ := W.mono F₄.keep
  have p₄ := p.mono F₄.keep
  obtain ⟨vs, hlv, hpr⟩ := hl.mono F₄.keep
  refine wpAny_execs_cons (x_ret (P := fun v s' => LS s'.heap v (told ps c)) (Ev.mono (ev_comp_core (n := vs.length) (P := fun i v => vs[i]? = some v) (cl := [("name", L + 1)]) (x := "kv") (fun i => lowC (ps.getD i (0, 0)).1 == lowC c) (fun i y _ _ => StrV y ⟨#[(ps.getD i (0, 0)).2]⟩) (fun i y h₁ h' h'' q _ => q) (fun _ => [("name", L + 1)])
    (.inl ⟨fun _ => rfl, fun _ => rfl, fun _ => rfl, by decide +kernel⟩) ⟨_, rfl⟩ (by subst henv; kernel_rfl) rfl (by decide +kernel) (EvI.x (evi_list RD.hh (Ev.mono (ev_hdrs W₄ p₄ (F₄.bndL mself G.k ks)) fun v s' y e => ⟨e, isList_ext hlv.isList y.ext⟩))) (by rw [← hpr.length]; exact Nat.le_trans hz (by decide)) (by intro _; rfl) ?_) fun v s' y cv => ?_) fun v s₅ x₅ e => ?_)
  · intro C c' i v s₁ hi hv x₁ hb
    generalize hce : compEnvC { kind := ScopeKind.function, names := [(".0", NameKind.local), ("kv", NameKind.local), ("name", NameKind.free)], isGenerator := false, isCoroutine := false } [("name", L + 1)] C env = ce at hb ⊢
    obtain ⟨q, hq, pa⟩ := Paired.get' hpr hv
    obtain ⟨hq1, hq2⟩ := hfine q (List.mem_of_getElem? hq)
    have hD : ps.getD i (0, 0) = q := by simp [List.getD, hq]
    obtain ⟨a, t1, t2, rfl, tup⟩ := pa.mono x₁.ext
    have bn : Bnd prog w (A.deeper env) ce s₁.heap "name" (.str ⟨#[lowC c]⟩ u) := Bnd.cell (by subst hce; kernel_rfl) (by subst hce henv; kernel_rfl) (by subst hce; kernel_rfl) (by have := (F₄.cell "name" (L + 1) hcn).keeps x₁.ext; rwa [upd_eq] at this)
    have ekv : ∀ pkv, Ev prog w (A.deeper env) s₁ ce (.Name "kv" pkv) (fun v s => ∃ l, v = .ref l ∧ IsTup s.heap l [.str ⟨#[q.1]⟩ t1, .str ⟨#[q.2]⟩ t2].toArray) := fun pkv => ev_nameP hb fun s y => ⟨a, rfl, tup.keeps y.ext⟩
    rw [hD]
    refine ⟨fun s₂ x₂ => tests_one ?_ x₂, fun _ => ?_⟩
    · have := evb_eq_str (pos := ⟨100, 49, 100, 70⟩) (ev_lower (x := ⟨#[q.1]⟩) (apos := ⟨100, 49, 100, 60⟩) (pos := ⟨100, 49, 100, 62⟩) (Ev.mono (ev_itemT (k := 0) (ik := 0) (ip := ⟨100, 52, 100, 53⟩) (pos := ⟨100, 49, 100, 54⟩) (ekv ⟨100, 49, 100, 51⟩) (by decide) rfl) fun v s y e => ⟨t1, e⟩) (Nat.le_of_ble_eq_true (by kernel_rfl)) _) (ev_nameP (pos := ⟨100, 66, 100, 70⟩) bn fun _ _ => .mk ..)
      rw [lower_here q.1 hq1, sign_eq] at this
      exact this
    · exact Ev.mono (ev_itemT (k := 1) (ekv _) (by decide) rfl) fun v s y e => ⟨t2, e⟩
  · obtain ⟨a, ys, e, hl', hn, pr⟩ := cv
    subst e
    refine ⟨a, ys, rfl, hl', ?_⟩
    have q := strsAre_of_paired (Paired.mono' (fun i y ⟨_, _, h⟩ => h) pr)
    rw [← hpr.length, filter_range ps (0, 0) (fun q => lowC q.1 == lowC c) (fun q => (⟨#[q.2]⟩ : Str))] at q
    exact q
  · exact ⟨⟨_, _, F₄.ext x₅.ext⟩, x₃.bx.trans (b₄.trans x₅.bx), e⟩
end
end Mine
namespace Mine
section
variable {prog : Program} {w : World} {A : Around} {s : Shared}
theorem mod_tup {X X' T' T'' : Str} {t : Tok} {b : Addr} {its : Array Value} (ht : IsTup s.heap b its) (hX : X = X')
    (hm : Meets (Builtin.«str.__mod__» ⟨[.str X' t, .ref b], []⟩) (fun _ R s => IsTup s.heap b its ∧ ∀ t' k, R (.ok (.ret (.str T' t'))) { s with toks := k })) (hT : T' = T'') :
    T prog w A (binaryOp .Mod (.str X t) (.ref b)) (fun v _ => StrV v T'') s := by
  subst hX hT
  have hT : s.TypeIs (.ref b) "tuple" := by
    obtain ⟨o, ho, hc, _⟩ := ht
    exact ⟨o, ho, hc⟩
  exact KPt.bin_left (T := "str") (U := "tuple") (op := .Mod) (by decide) (typeIs_str s X t) hT F.fills_str_mod KPt.fills_tuple F.slot_str_mod
    (call_meets F.slot_str_mod (typeIs_str s X t) F.entry_str_mod (F.args_str_mod_2 _ _) hm ⟨ht, fun t' k => ⟨(fun e => nomatch e), .toks, .mk ..⟩⟩)
theorem mod_pair {c d : Nat} {t t1 t2 : Tok} {b : Addr} (ht : IsTup s.heap b #[.str ⟨#[c]⟩ t1, .str ⟨#[d]⟩ t2]) : T prog w A (binaryOp .Mod (.str "%s: %s" t) (.ref b)) (fun v _ => StrV v ⟨#[c, 58, 32, d]⟩) s := by
  have h1 : (⟨#[c]⟩ : Str).length ≤ 10 := Nat.le_of_ble_eq_true (by kernel_rfl)
  have h2 : (⟨#[d]⟩ : Str).length ≤ 10 := Nat.le_of_ble_eq_true (by kernel_rfl)
  have e1 : (⟨#[c]⟩ : Str) = ⟨#[c]⟩ := rfl
  refine' mod_tup ht ?hX ?hm ?hT
  case hX => kpt_eq
  case hm => kpt_run
  case hT => rfl
end
end Mine
namespace Mine
theorem strsAre_append {ns ms : List Str} : ∀ {vs ws : List Value}, StrsAre vs ns → StrsAre ws ms → StrsAre (vs ++ ws) (ns ++ ms) := fun h h' => by
  induction h with
  | nil => exact h'
  | cons y t h ih => exact .cons _ _ ih
section
variable {prog : Program} {w : World} {A : Around} {s₀ s : Shared} {env : Env} {pos : Pos}
theorem ev_addS {l r : PySem.Expr} {ns ms : List Str} (hl : Ev prog w A s₀ env l (fun v s => LS s.heap v ns)) (hr : Ev prog w A s₀ env r (fun v s => LS s.heap v ms)) (hz : ns.length + ms.length ≤ sizeLine) :
    Ev prog w A s₀ env (.BinOp l .Add r pos) (fun v s => LS s.heap v (ns ++ ms)) :=
  ev_bin hl hr fun a b s₁ s₂ x₁ ⟨la, vs, e, h1, h2⟩ x₂ ⟨lb, ws, e', h1', h2'⟩ => by
    subst e e'
    exact t_add_list (isList_ext h1 x₂.ext) h1' (by rw [h2.length, h2'.length]; exact hz) fun a s' _ _ h => ⟨a, _, rfl, h, strsAre_append h2 h2'⟩
theorem at_str (w : World) : (hd.heap_39 w.params).lookup 179 = some ⟨.type "function", none, .func (fdOf w 179), #[]⟩ := by kernel_rfl
theorem bind_str (w : World) (a : Value) : bindArgs (fdOf w 179) ⟨[a], []⟩ = (pure [("self", a)] : Sem (List (Str × Value))) := by kernel_rfl
def blanks : List Str := ["", ""]
def lineOf (q : Nat × Nat) : Str := ⟨#[q.1, 58, 32, q.2]⟩
theorem lines_len : ∀ ps : List (Nat × Nat), ((ps.map lineOf).map (·.length)).sum = 4 * ps.length
  | [] => rfl
  | q :: r => by
    rw [List.map_cons, List.map_cons, List.sum_cons, lines_len r, List.length_cons, show (lineOf q).length = 4 from rfl]
    omega
def headOf (ps : List (Nat × Nat)) : Str := Txt.join "\r\n" (ps.map lineOf ++ blanks)
theorem str_ok (W : Wd w s.heap) (R : RoomA 6 A) {x dx l : Addr} {ps : List (Nat × Nat)} (p : HdrAt w s.heap x dx l) (hl : HL s.heap l ps) (hz : ps.length ≤ 100) :
    T prog w A (call (.ref 179) [.ref x]) (fun v s' => StrV v (headOf ps)) s := by
  refine fn_enter (s₁ := s) (body := bodyOf (fdOf w 179)) (bs := [("self", .ref x)]) R.depth (W.K _ _ (at_str w)) rfl (by kernel_rfl) (codeRec_of' W (by kernel_rfl)) W.lim (by kernel_rfl) (by kernel_rfl) (by kernel_rfl) (by kernel_rfl)
    (by rw [bind_str]; exact wpAny_pure ⟨rfl, rfl⟩) (.refl _) (fun n x hx => .inl ?_) fun s₂ F sx => ?_
  · simp only [List.mem_cons, List.mem_nil_iff, or_false] at hx
    subst hx
    kernel_rfl
  have W₂ := W.mono sx.ext
  generalize hL : s.heap.objs.size = L at F ⊢
  have mself : bindL (callEnvC (fdOf w 179) L 179).kindOf [("self", .ref x)] (fun _ => none) "self" = some (.ref x) := by kernel_rfl
  generalize bindL (callEnvC (fdOf w 179) L 179).kindOf [("self", .ref x)] (fun _ => none) = m₀ at F mself
  generalize bindC (callEnvC (fdOf w 179) L 179).kindOf [("self", .ref x)] (fun _ => none) = cm₀ at F
  generalize henv : callEnvC (fdOf w 179) L 179 = env at F ⊢
  have G : GEnv env := by subst henv; exact ⟨by kernel_rfl, by kernel_rfl, by kernel_rfl⟩
  have ks : env.kindOf "self" = some .local := by subst henv; kernel_rfl
  have RD : RoomA 5 (A.deeper env) := R.deeper
  have p₂ := p.mono sx.ext
  obtain ⟨vs, hlv, hpr⟩ := hl.mono sx.ext
  have big : 1000 ≤ sizeLine := by decide
  refine wpAny_execs_cons (x_ret (P := fun v s' => StrV v (headOf ps)) (ev_join (ys := ps.map lineOf ++ blanks) (ev_addS (ns := ps.map lineOf) (ms := blanks) (Ev.mono (ev_comp_core (n := vs.length) (P := fun i v => vs[i]? = some v) (cl := []) (x := "kv") (fun i => true) (fun i y _ _ => StrV y (lineOf (ps.getD i (0, 0)))) (fun i y h₁ h' h'' q _ => q) (fun _ => [])
    (.inl ⟨fun _ => rfl, fun _ => rfl, fun _ => rfl, by decide +kernel⟩) ⟨_, rfl⟩ (by subst henv; kernel_rfl) rfl (by decide +kernel) (EvI.x (evi_list RD.hh (Ev.mono (ev_hdrs W₂ p₂ (F.bndL mself G.k ks)) fun v s' y e => ⟨e, isList_ext hlv.isList y.ext⟩))) (by rw [← hpr.length]; omega) (by intro _; rfl) ?_) fun v s' y cv => ?_)
      (Ev.mono (ev_list (R := fun vs s => StrsAre vs blanks) (fun pos s y => (evs_cons ev_str mono_str (evs_one ev_str) (by rfl) pos s y).mono fun vs s' y ⟨v, r, e, ⟨t, e1⟩, v2, e3, t2, e4⟩ => ?_) (fun _ _ _ _ h => h) (by decide) (fun vs s h => by rw [h.length]; decide)) fun v s' y ⟨a, vs, e, l, _, h⟩ => ⟨a, vs, e, l.isList, h⟩) ?_) ?_) fun v s₅ x₅ e => ?_)
  · intro C c' i v s₁ hi hv x₁ hb
    generalize hce : compEnvC _ [] C env = ce at hb ⊢
    obtain ⟨q, hq, pa⟩ := Paired.get' hpr hv
    have hD : ps.getD i (0, 0) = q := by simp [List.getD, hq]
    obtain ⟨a, t1, t2, rfl, tup⟩ := pa.mono x₁.ext
    rw [hD]
    refine ⟨fun s₂ x₂ => tests_nil, fun _ => ev_bin ev_str (ev_name hb) fun a' b' s₃ s₄ x₃ ⟨t, e⟩ x₄ e' => ?_⟩
    subst e e'
    exact mod_pair (tup.keeps (x₃.trans x₄).ext)
  · obtain ⟨a, ys, e, hl', hn, pr⟩ := cv
    subst e
    refine ⟨a, ys, rfl, hl', ?_⟩
    have q := strsAre_of_paired (Paired.mono' (fun i y ⟨_, _, h⟩ => h) pr)
    rw [← hpr.length, filter_range ps (0, 0) (fun q => true) lineOf, List.filter_eq_self.mpr (fun _ _ => rfl)] at q
    exact q
  · subst e e1 e3 e4
    exact .cons _ _ (.cons _ _ .nil)
  · have : blanks.length = 2 := rfl
    simp only [List.length_map]; omega
  · have h2 : (blanks.map (·.length)).sum = 0 := by kernel_rfl
    have h3 : blanks.length = 2 := rfl
    have h4 : (Str.ofString "\r\n").length = 2 := by kernel_rfl
    rw [List.map_append, List.sum_append, lines_len, h2, List.length_append, h3, h4, List.length_map]
    omega
  · exact ⟨⟨_, _, F.ext x₅.ext⟩, x₅.bx, e⟩
theorem k_isFn179 (w : World) : isFn (KK w) (.ref 179) = true := by kernel_rfl
theorem t_strH (W : Wd w s.heap) (R : RoomA 8 A) {x dx l : Addr} {ps : List (Nat × Nat)} (p : HdrAt w s.heap x dx l) (hl : HL s.heap l ps) (hz : ps.length ≤ 100) : T prog w A (call (.type "str") [.ref x]) (fun v s' => StrV v (headOf ps)) s := by
  obtain ⟨tk, n, I⟩ := p.inst
  refine kso_call R.in1.in1.units W.K I (k_str w) (k_isFn179 w) ((str_ok W R.in1.in1 p hl hz).wp fun v s' y ⟨t, e⟩ => ?_)
  subst e
  exact ⟨y, .mk ..⟩
/-- str(Headers(e)) -/
theorem ev_strHeaders {np np2 p2 : Pos} {e : PySem.Expr} {ps : List (Nat × Nat)} (W : Wd w s₀.heap) (R : RoomA 8 A) (hs : Bnd prog w A env s₀.heap "str" (.type "str")) (hb : Bnd prog w A env s₀.heap "Headers" (.ref 203)) (hfine : Fine ps) (hz : ps.length ≤ 100)
    (he : Ev prog w A s₀ env e (fun v s => ∃ l, v = .ref l ∧ HL s.heap l ps)) (hse : starEach [e] env = [(false, eval e env)] := by rfl) :
    Ev prog w A s₀ env (.Call (.Name "str" np) [.Call (.Name "Headers" np2) [e] [] p2] [] pos) (fun v _ => StrV v (headOf ps)) :=
  ev_call hs (.type _) (evs_one (ev_make1 W (R.less (by decide)) hb hfine (Nat.le_trans hz (by decide)) he hse) (by rfl)) (fun vs s' y ⟨v, e, x, l, s₁, e', z, m⟩ => by
    subst e e'
    obtain ⟨dx, l', p, hl, _⟩ := m.ex
    exact t_strH (W.mono y.ext) R p hl hz)
end
end Mine
namespace Mine
def noHeap : Heap := { objs := #[] }
theorem noHeap_get (b : Addr) : noHeap.get? b = none := by
  cases e : noHeap.get? b with
  | none => rfl
  | some o => exact absurd (Heap.lt_size e) (by simp [noHeap])
def genY (C e it : Addr) (x : Str) : Protocol := fun m s₀ v s kap =>
  (∃ i t c u a, i + m + 1 = x.cps.size ∧ x.cps[i]? = some c ∧ v = .ref a ∧ IsTup s.heap a #[.int i t, .str ⟨#[c]⟩ u] ∧ a ∉ [C, e, it]) ∧ Turned [C, e, it] s₀ s ∧
    ∀ s'' : Shared, (∀ b ∈ [C, e, it], ∀ o, s.heap.get? b = some o → s''.heap.get? b = some o) → kap (.send .none) s''
def genR (C e it : Addr) : GenEnd := fun n s₀ r s₁ => r = .ok (.ret .none) ∧ (n = 0 ∧ Turned [C, e, it] s₀ s₁)
def Plain (x : Str) : Prop := ∀ c ∈ x.cps, c < 128 ∧ c ≠ 92 ∧ c ≠ 34
section
variable {prog : Program} {w : World} {A : Around} {env : Env}
theorem FrC.nsKept {m cm : Str → Option Value} {h h' : Heap} (F : FrC noHeap env m cm h) (hcl : env.cells = []) (k : ∀ o, h.get? env.locals = some o → h'.get? env.locals = some o) : FrC noHeap env m cm h' :=
  ⟨F.ns.at' k, fun b o e => (by rw [noHeap_get] at e; cases e), F.newL, fun n c h => (by rw [hcl] at h; cases h), F.apart, F.newC⟩
theorem seg_loop {x : Str} {t : Tok} {e it : Addr} {fs : List Frame} {cm : Str → Option Value} {a1 a2 a3 a4 a5 a6 a7 a8 a9 a10 a11 a12 a13 a14 : Pos} {kk k1 k2 : Nat} {b1 b2 : List Stmt} (hx : Plain x)
    (hfs : splitAtGen fs = none) (hfg : fs.any Frame.guarded = false) (hhd : ∀ c, (A.over c fs).handled = none) (hcl : env.cells = []) (hco : env.scope.isCoroutine = false) (hi : interactive env = false)
    (hf : env.scope.kind = .function) (kp : env.kindOf "pos" = some .local) (kc : env.kindOf "ch" = some .local) (ke : env.kindOf "escape" = some .local) (hei : e ≠ it) (heC : env.locals ≠ e) (hiC : env.locals ≠ it)
    (fin : ∀ s₀ s m, FrC noHeap env m cm s.heap → m "escape" = some (.bool false) → Turned [env.locals, e, it] s₀ s → Seg (model prog w) A (genR env.locals e it) (genY env.locals e it x) 0 s₀ (.block [] env) (leafOf (.ok .next)) fs s) :
    ∀ (k i : Nat) (s₀ s : Shared) (m : Str → Option Value), x.cps.size - i = k → i ≤ x.cps.size → (∃ old, IsEnum s.heap e it i old) → s.heap.IsStrIter it "str_ascii_iterator" x t i → FrC noHeap env m cm s.heap → m "escape" = some (.bool false) → Turned [env.locals, e, it] s₀ s →
      Seg (model prog w) A (genR env.locals e it) (genY env.locals e it x) k s₀
        (.forLoop (.Tuple [.Name "pos" a1, .Name "ch" a2] kk a3) (.ref e) [.If (.Name "escape" a4) b1 [.If (.Compare (.Name "ch" a5) [.Eq] [.Constant (.str "\\") k1 a6] a7) b2 [.Expr (.Yield (some (.Tuple [.Name "pos" a8, .Name "ch" a9] k2 a10)) a11) a12] a13] a14] [] env)
        ((model prog w).den (.forLoop (.Tuple [.Name "pos" a1, .Name "ch" a2] kk a3) (.ref e) [.If (.Name "escape" a4) b1 [.If (.Compare (.Name "ch" a5) [.Eq] [.Constant (.str "\\") k1 a6] a7) b2 [.Expr (.Yield (some (.Tuple [.Name "pos" a8, .Name "ch" a9] k2 a10)) a11) a12] a13] a14] [] env)) fs s := by
  have W : ∀ A' : Around, A'.handled = none → WalksT prog w A' e (e :: [it]) [e, it] x.cps.size _ _ _ := fun A' hh => WalksT.enumerateD (Draws.strAscii (A := A'.in1) hh it x t) e hei (by simpa using hei) (by simp)
  intro k
  induction k with
  | zero =>
    intro i s₀ s m hk hle he hit F hm ht
    have hin : i = x.cps.size := by omega
    subst hin
    show Seg _ A _ _ _ s₀ _ ((forTurn _ _ _ _ env).onRaise (fun x => do noteFrame x env; theTreesLotGoes x)) fs s
    unfold forTurn
    rw [Sem.onRaise_eq_wrap]
    refine seg_bind_wrap (wpAny_standAt ?_)
    refine seg_bind_wrap (wpAny_onRaise ((W _ (hhd _)).done s _ _ ⟨he, hit⟩ fun h' tk hk' => ?_))
    refine seg_again rfl ?_
    show Seg _ A _ _ _ s₀ _ (leafOf (.ok .next)) fs _
    refine fin _ _ m (F.nsKept hcl fun o q => hk' _ _ (by simp [heC, hiC]) q) hm (ht.trans ⟨fun b o hb q => hk' b o (fun h => hb (List.mem_cons_of_mem _ h)) q, rfl, fun _ _ e => e, id⟩)
  | succ k ih =>
    intro i s₀ s m hk hle he hit F hm ht
    have hlt : i < x.cps.size := by omega
    show Seg _ A _ _ _ s₀ _ ((forTurn _ _ _ _ env).onRaise (fun x => do noteFrame x env; theTreesLotGoes x)) fs s
    unfold forTurn
    rw [Sem.onRaise_eq_wrap]
    refine seg_bind_wrap (wpAny_standAt ?_)
    refine seg_bind_wrap (wpAny_onRaise ((W _ (hhd _)).item i s _ _ hlt ⟨he, hit⟩ fun T vals h₁ tk₁ hP hTs hTup mid hk₁ => ?_))
    refine seg_bind_wrap ((W _ (hhd _)).go _ _ _ i T _ _ _ mid fun h₂ st₂ hk₂ => ?_)
    obtain ⟨ti, xv, ⟨c, u, hc, rfl⟩, rfl⟩ := hP
    have hTw : T ∉ [e, it] := by simp [mid.2.2.1, mid.2.2.2]
    have hlow : ∀ b o, b ∉ [e, it] → s.heap.get? b = some o → h₂.get? b = some o := fun b o hb q => hk₂ b o hb (hk₁ b o hb q)
    have hTup₂ : IsTup h₂ T #[.int i ti, .str ⟨#[c]⟩ u] := let ⟨o, p, r⟩ := hTup; ⟨o, hk₂ T o hTw p, r⟩
    have F₂ : FrC noHeap env m cm h₂ := F.nsKept hcl fun o q => hlow _ _ (by simp [heC, hiC]) q
    have ho : own env = [env.locals] := by unfold own; rw [hcl]; rfl
    refine seg_bind_wrap (wpAny_mono (a_pair (s := { s with heap := h₂, toks := tk₁ }) (hhd _) F₂ hTup₂ hf kp kc fun s₃ F₃ t₃ => ?_) (fun _ _ h => h) fun _ _ f => f.elim)
    rw [ho] at t₃
    have he₃ : ∃ old, IsEnum s₃.heap e it ((i + 1 : Nat) : Int) old := let ⟨old, q⟩ := st₂.1; ⟨old, t₃.keep _ _ (by simp [Ne.symm heC]) q⟩
    have hit₃ : s₃.heap.IsStrIter it "str_ascii_iterator" x t (i + 1) := let ⟨o, q, r⟩ := st₂.2; ⟨o, t₃.keep _ _ (by simp [Ne.symm hiC]) q, r⟩
    have ht₃ : Turned [env.locals, e, it] s₀ s₃ := (ht.trans (show Turned [env.locals, e, it] s { s with heap := h₂, toks := tk₁ } from ⟨fun b o hb q => hlow b o (fun h => hb (List.mem_cons_of_mem _ h)) q, rfl, fun _ _ e => e, id⟩)).trans (Turned.more (Y := [env.locals, e, it]) t₃ fun b hb => by rw [List.mem_singleton] at hb; rw [hb]; exact List.mem_cons_self ..)
    obtain ⟨hc1, hc2, hc3⟩ := hx c (Array.mem_of_getElem? hc)
    rw [Sem.bind_eq_wrap', Sem.wrap_wrap]
    refine seg_execs_cons ?_
    rw [exec_If]
    refine seg_bind_wrap (wpAny_standAt (seg_bind_wrap ?_))
    have hesc : upd (upd m "pos" (.int i ti)) "ch" (.str ⟨#[c]⟩ u) "escape" = some (.bool false) := by rw [upd_ne (by decide +kernel), upd_ne (by decide +kernel)]; exact hm
    have ev1 := evb_val (prog := prog) (w := w) (b := false) (A := A.over (.forLoop (.Tuple [.Name "pos" a1, .Name "ch" a2] kk a3) (.ref e) [.If (.Name "escape" a4) b1 [.If (.Compare (.Name "ch" a5) [.Eq] [.Constant (.str "\\") k1 a6] a7) b2 [.Expr (.Yield (some (.Tuple [.Name "pos" a8, .Name "ch" a9] k2 a10)) a11) a12] a13] a14] [] env) fs) (s₀ := s₃) (ev_name (x := "escape") (pos := a4) (F₃.bndL hesc hf ke)) (fun v s' _ e => by subst e; exact t_truthy) (by intro _; rfl)
    refine (ev1 s₃ (.refl _)).wp fun r s₄ x₄ e => ?_
    subst e
    simp only [Bool.false_eq_true, if_false]
    refine seg_execs_cons ?_
    rw [exec_If]
    refine seg_bind_wrap (wpAny_standAt (seg_bind_wrap ?_))
    have F₄ := F₃.ext x₄.ext
    have hbs : (Str.ofString "\\") = ⟨#[92]⟩ := by decide +kernel
    have hch : upd (upd m "pos" (.int i ti)) "ch" (.str ⟨#[c]⟩ u) "ch" = some (.str ⟨#[c]⟩ u) := upd_eq
    have hpo : upd (upd m "pos" (.int i ti)) "ch" (.str ⟨#[c]⟩ u) "pos" = some (.int i ti) := by rw [upd_ne (by decide +kernel), upd_eq]
    have ev2 := evb_eq_str (prog := prog) (w := w) (pos := a7) (b := Str.ofString "\\") (A := A.over (.forLoop (.Tuple [.Name "pos" a1, .Name "ch" a2] kk a3) (.ref e) [.If (.Name "escape" a4) b1 [.If (.Compare (.Name "ch" a5) [.Eq] [.Constant (.str "\\") k1 a6] a7) b2 [.Expr (.Yield (some (.Tuple [.Name "pos" a8, .Name "ch" a9] k2 a10)) a11) a12] a13] a14] [] env) fs) (s₀ := s₄) (ev_nameP (x := "ch") (pos := a5) (F₄.bndL hch hf kc) fun _ _ => .mk ..) (ev_str (pos := a6) (k := k1))
    rw [hbs, sign_eq, show (c == 92) = false by simpa using hc2] at ev2
    rw [← hbs] at ev2
    refine (ev2 s₄ (.refl _)).wp fun r s₅ x₅ e => ?_
    subst e
    simp only [Bool.false_eq_true, if_false]
    refine seg_execs_cons ?_
    have F₅ := F₄.ext x₅.ext
    have evp := ev_pair (prog := prog) (w := w) (pos := a10) (kk := k2) (A := A.over (.forLoop (.Tuple [.Name "pos" a1, .Name "ch" a2] kk a3) (.ref e) [.If (.Name "escape" a4) b1 [.If (.Compare (.Name "ch" a5) [.Eq] [.Constant (.str "\\") k1 a6] a7) b2 [.Expr (.Yield (some (.Tuple [.Name "pos" a8, .Name "ch" a9] k2 a10)) a11) a12] a13] a14] [] env) fs) (s₀ := s₅) (ev_name (x := "pos") (pos := a8) (F₅.bndL hpo hf kp)) mono_eq (ev_name (x := "ch") (pos := a9) (F₅.bndL hch hf kc)) mono_eq
    refine seg_Expr_Yield hfs rfl hfg ((evp s₅ (.refl _)).wp fun v s₆ x₆ ⟨a, y, z, e1, tup, e2, e3, hn⟩ => ?_) hco hi
    subst e1 e2 e3
    intro kap hkap
    have up : Sx s₃ s₆ := x₄.trans (x₅.trans x₆)
    refine ⟨⟨i, ti, c, u, a, by omega, hc, rfl, tup, ?_⟩, ht₃.trans up.turned, fun s'' hal => ?_⟩
    · have hne : ∀ b o, s₃.heap.get? b = some o → a ≠ b := fun b o q r => by
        have := (x₄.trans x₅).ext _ _ q
        rw [← r, hn] at this; cases this
      obtain ⟨oC, esC, nC, hC, _⟩ := F₃.ns
      obtain ⟨oi, hi1, _⟩ := hit₃
      obtain ⟨old, hE⟩ := he₃
      simp only [List.mem_cons, List.mem_nil_iff, or_false, not_or]
      exact ⟨hne _ _ hC, hne _ _ hE, hne _ _ hi1⟩
    · refine hkap .none s'' ?_
      dsimp only
      refine seg_again rfl ?_
      have kp : ∀ b ∈ [env.locals, e, it], ∀ o, s₃.heap.get? b = some o → s''.heap.get? b = some o := fun b hb o q => hal b hb o (up.ext _ _ q)
      exact ih (i + 1) s'' s'' _ (by omega) hlt (let ⟨old, q⟩ := he₃; ⟨old, kp _ (by simp) _ q⟩) (let ⟨o, q, r⟩ := hit₃; ⟨o, kp _ (by simp) _ q, r⟩) (F₃.nsKept hcl fun o q => kp _ (by simp) _ q) hesc (.refl _ _)
end
end Mine
namespace Mine
theorem at_iter (w : World) : (hd.heap_39 w.params).lookup 45 = some ⟨.type "function", none, .func (fdOf w 45), #[]⟩ := by kernel_rfl
theorem bind_iter (w : World) (a : Value) : bindArgs (fdOf w 45) ⟨[a], []⟩ = (pure [("addr", a)] : Sem (List (Str × Value))) := by kernel_rfl
section
variable {prog : Program} {w : World} {A : Around}
theorem x_storeG {env : Env} {m cm : Str → Option Value} {s : Shared} {x : Str} {v : Value} {Q : Unit → Shared → Prop} (F : FrC noHeap env m cm s.heap) (hcl : env.cells = []) (hf : env.scope.kind = .function) (hl : env.kindOf x = some .local)
    (k : ∀ h' tk, FrC noHeap env (upd m x v) cm h' → Heap.SameBut env.locals s.heap h' → Q () { s with heap := h', toks := tk }) : wpAny (model prog w) A (storeName env x v) Q NoE s :=
  wpAny_storeName_local hl F.ns (fun h' hn hs => k h' _ ⟨hn, fun b o e => (by rw [noHeap_get] at e; cases e), F.newL, fun n c h => (by rw [hcl] at h; cases h), F.apart, F.newC⟩ hs) (by rw [hf]; rfl)
theorem seg_gen {x : Str} {t : Tok} {L : Addr} {s : Shared} {m cm : Str → Option Value} {hb : Heap} (W : Wd w hb) (hbk : Ext hb s.heap) (hbC : hb.get? (callEnvC (fdOf w 45) L 45).locals = none) (hx : Plain x) (hh : A.handled = none) (F : FrC noHeap (callEnvC (fdOf w 45) L 45) m cm s.heap) (hm : m "addr" = some (.str x t)) :
    Seg (model prog w) A (genR (callEnvC (fdOf w 45) L 45).locals (s.heap.objs.size + 1) s.heap.objs.size) (genY (callEnvC (fdOf w 45) L 45).locals (s.heap.objs.size + 1) s.heap.objs.size x) x.cps.size s
      (.func (bodyOf (fdOf w 45)) (callEnvC (fdOf w 45) L 45)) ((model prog w).den (.func (bodyOf (fdOf w 45)) (callEnvC (fdOf w 45) L 45))) [] s := by
  generalize henv : callEnvC (fdOf w 45) L 45 = env at F hbC ⊢
  have G : GEnv env := by subst henv; exact ⟨by kernel_rfl, by kernel_rfl, by kernel_rfl⟩
  have hcl : env.cells = [] := by subst henv; kernel_rfl
  have hco : env.scope.isCoroutine = false := by subst henv; kernel_rfl
  have ka : env.kindOf "addr" = some .local := by subst henv; kernel_rfl
  have kp : env.kindOf "pos" = some .local := by subst henv; kernel_rfl
  have kc : env.kindOf "ch" = some .local := by subst henv; kernel_rfl
  have ke : env.kindOf "escape" = some .local := by subst henv; kernel_rfl
  have kn : env.kindOf "enumerate" = some .globalImplicit := by subst henv; kernel_rfl
  have ho : own env = [env.locals] := by unfold own; rw [hcl]; rfl
  refine seg_func ?_
  have hA : ∀ c, (A.over c []).handled = none := fun c => hh
  refine seg_execs_cons (seg_wrap (wpAny_mono (wpAny_Assign_Name (wpAny_Constant_int (x_storeG F hcl G.k kp fun h₁ t₁ F₁ sb₁ => ?_))) (fun _ _ h => h) fun _ _ f => f.elim))
  refine seg_execs_cons (seg_wrap (wpAny_mono (wpAny_Assign_Name (wpAny_Constant_bool (x_storeG (s := { s with heap := h₁, toks := t₁ }) F₁ hcl G.k ke fun h₂ t₂ F₂ sb₂ => ?_))) (fun _ _ h => h) fun _ _ f => f.elim))
  have hsz : h₂.objs.size = s.heap.objs.size := by rw [sb₂.1]; exact sb₁.1
  have lt₂ : env.locals < s.heap.objs.size := F.ns.lt
  have k₂ : ∀ b o, b ∉ [env.locals] → s.heap.get? b = some o → h₂.get? b = some o := fun b o hb q => sb₂.extBut b o (by simpa using hb) (sb₁.extBut b o (by simpa using hb) q)
  have W₂ : Wd w h₂ := W.mono fun b o q => k₂ b o (fun h => by rw [List.mem_singleton] at h; rw [h, hbC] at q; cases q) (hbk b o q)
  generalize hs₂ : ({ s with heap := h₂, toks := t₂ } : Shared) = s₂
  have eh : h₂ = s₂.heap := by subst hs₂; rfl
  have t₂' : Turned [env.locals] s s₂ := by subst hs₂; exact ⟨k₂, rfl, fun _ _ e => e, id⟩
  subst eh
  refine seg_execs_cons ?_
  rw [exec_For]
  refine seg_bind_wrap (wpAny_standAt (seg_bind_wrap ?_))
  have hm₂ : upd (upd m "pos" (.int 0 s.toks)) "escape" (.bool false) "addr" = some (.str x t) := by rw [upd_ne (by decide +kernel), upd_ne (by decide +kernel)]; exact hm
  have hesc : upd (upd m "pos" (.int 0 s.toks)) "escape" (.bool false) "escape" = some (.bool false) := upd_eq
  refine Call_ (wpAny_Name (W₂.blt G kn (n_enumerate w) b_enumerate (by decide) s₂ _ _ (Ext.refl _) ?_) (by decide))
  refine PyProof.Rows.callWith_type (by rfl) (evalArgs_gen (by rfl) (args_cons (wpAny_Name (F₂.bndL hm₂ G.k ka s₂ _ _ (Ext.refl _) (args_nil ?_)) (by decide)) (by rfl)))
  refine call_enumerate_str fun h₃ he hit hsz₃ hk₃ => ?_
  rw [hsz] at he hit
  have hasc : strIterType x = "str_ascii_iterator" := by
    unfold strIterType
    rw [if_pos]
    rw [Array.all_eq_true']
    intro c hc
    simpa using (hx c hc).1
  rw [hasc] at hit
  rw [hsz]
  refine seg_bind_wrap (wpAny_of_eq (a := Value.ref (s.heap.objs.size + 1)) (by rfl) ?_)
  refine seg_bind_wrap (wpAny_standAt (seg_bind_wrap (wpAny_holding (wpAny_pyIter_enum he ?_))))
  have hi : interactive env = false := by subst henv; rfl
  have F₃ : FrC noHeap env (upd (upd m "pos" (.int 0 s.toks)) "escape" (.bool false)) cm h₃ := F₂.nsKept hcl fun o q => hk₃ _ _ q
  refine seg_call (fun p => ?_)
  refine seg_loop (t := t) (cm := cm) hx ?_ ?_ ?_ hcl hco hi G.k kp kc ke (Nat.succ_ne_self _) (Nat.ne_of_lt (Nat.lt_succ_of_lt lt₂)) (Nat.ne_of_lt lt₂) (fun s₀ s' m' F' hm' t' => ?_) x.cps.size 0 s { s₂ with heap := h₃ } _ (by omega) (Nat.zero_le _) ⟨.none, he⟩ hit F₃ hesc ?_
  · rfl
  · rfl
  · exact fun c => hh
  · refine seg_leaf (.ok .next) ?_
    refine seg_execs_cons ?_
    rw [exec_If]
    refine seg_bind_wrap (wpAny_standAt (seg_bind_wrap ?_))
    have ev1 := evb_val (prog := prog) (w := w) (b := false) (A := A.over (.func (bodyOf (fdOf w 45)) env) []) (s₀ := s') (ev_name (x := "escape") (pos := ⟨17, 7, 17, 13⟩) (F'.bndL hm' G.k ke)) (fun v s' _ e => by subst e; exact t_truthy) (by intro _; rfl)
    refine (ev1 s' (.refl _)).wp fun r s₄ x₄ e => ?_
    subst e
    simp only [Bool.false_eq_true, if_false]
    refine seg_execs_nil (seg_execs_nil ?_)
    exact seg_end (.ok (.ret .none)) ⟨rfl, rfl, t'.trans x₄.turned⟩
  · exact (Turned.more (Y := [env.locals, s.heap.objs.size + 1, s.heap.objs.size]) t₂' fun b hb => by rw [List.mem_singleton] at hb; rw [hb]; exact List.mem_cons_self ..).trans ⟨fun b o hb q => hk₃ b o q, rfl, fun _ _ e => e, id⟩
end
end Mine
namespace Mine
section
variable {prog : Program} {w : World} {A : Around} {E : Value → Shared → Prop} {s : Shared}
/-- a StopIteration is made: what the heap held stays -/
theorem stop_made {Q : Value → Shared → Prop} (h : ∀ h' e, Ext s.heap h' → (∃ o, h'.get? e = some o ∧ o.cls = .type "StopIteration") → Q (.ref e) { s with heap := h' }) :
    wpAny (model prog w) A (newExc (.type "StopIteration") []) Q E s := by
  have none1 : firstArgMember (.type "StopIteration") [] = Pure.pure Value.none := by rfl
  unfold newExc newTuple
  rw [none1]
  refine wpAny_bind (wpAny_newObj_type (wpAny_bind (wpAny_pure (wpAny_newObj_type (h _ _ ?_ ?_) (by size_fits)))) (by size_fits))
  · exact (Ext.push _ _).trans (Ext.push _ _)
  · exact ⟨_, Heap.get?_push_size _ rfl, rfl⟩
/-- the next thing of a generator of a def -/
theorem next_gen {a : Addr} {g n : Nat} {gs : GenState} {C e it : Addr} {x : Str} {Q : Option Value → Shared → Prop} (hh : A.handled = none) (hl : s.heap.NoLimit) (hroom : A.depth < recursionLimit) (hg : s.heap.IsGen a g) (hgs : s.gens[g]? = some gs)
    (hgo : gs.Goes (model prog w) A.in1 (genR C e it) (genY C e it x) n (.send .none) (s.setGen g .running))
    (hY : ∀ v s₁ gs', gs'.bare = true → genY C e it x (n - 1) (s.setGen g .running) v s₁ (fun r' s'' => match n with
        | 0 => False
        | m + 1 => gs'.Goes (model prog w) A.in1 (genR C e it) (genY C e it x) m r' s'') → Q (some v) (s₁.setGen g gs'))
    (hP : ∀ s₁, n = 0 → Turned [C, e, it] (s.setGen g .running) s₁ → ∀ h', Ext s₁.heap h' → Q none { s₁.setGen g .finished with heap := h' }) :
    wpAny (model prog w) A (pyNext (.ref a)) Q E s := by
  unfold pyNext
  refine wpAny_bind (wpAny_attempt (wpAny_callSpecial?_slot (name := Str.ofString "__next__") hg.typeIs slot_gen_next (wpAny_call_entry slot_gen_next hg.typeIs entry_gen_next ?_ (args_gen_next _))))
  show wpAny _ A.in1 (Builtin.Generator.genWake (.ref a) (.send .none)) _ _ s
  unfold Builtin.Generator.genWake
  refine wpAny_bind (wpAny_holding (wpAny_genNumber hg (wpAny_bind (wpAny_genState hgs ?_))))
  have wake : gs ≠ .running ∧ gs ≠ .finished := by constructor <;> (rintro rfl; exact hgo)
  cases gs <;> first | exact absurd rfl wake.1 | exact absurd rfl wake.2 | skip
  all_goals
    refine wpAny_bind (wpAny_roomToWake hl hroom (wpAny_resumeQ (A := A.in1) hgs hgo ?_ fun v s₁ gs' hb hv => wpAny_pure ⟨v, rfl, wpAny_pure (hY v s₁ gs' hb hv)⟩))
    rintro r s₁ ⟨rfl, hn, ht⟩
    show wpAny _ A.in1 (newExc (.type "StopIteration") [] >>= _) _ _ _
    refine wpAny_bind (stop_made fun h' e k ⟨o, ho, hc⟩ => wpAny_bind (wpAny_raiseNew_none hh ?_))
    refine wpAny_bind (wpAny_isInstance (T := "StopIteration") (b := true) ⟨o, ho, hc⟩ isSubtype_stop ?_)
    exact wpAny_pure (hP s₁ hn ht h' k)
end
end Mine
namespace Mine
structure GenInv (prog : Program) (w : World) (A : Around) (a : Addr) (g : Nat) (C e it : Addr) (x : Str) (j : Nat) (s : Shared) : Prop where
  obj : s.heap.IsGen a g
  go : ∃ gs, s.gens[g]? = some gs ∧ ∀ s'' : Shared, (j = 0 → s''.heap = s.heap) → (∀ b ∈ [C, e, it], ∀ o, s.heap.get? b = some o → s''.heap.get? b = some o) →
    gs.Goes (model prog w) A.in1 (genR C e it) (genY C e it x) (x.cps.size - j) (.send .none) s''
theorem bare_set {s : Shared} {g : Nat} {gs y : GenState} (h : s.gens[g]? = some gs) (hb : y.bare = true) (ha : AllBare s.gens) : AllBare (s.setGen g y).gens :=
  (GenOnlyQ.of (GenOnly.setGen s g y) (setGen_self h) hb).bare ha
theorem gens_set {s : Shared} {g i : Nat} {x y : GenState} (h : i ≠ g) (e : s.gens[i]? = some x) : (s.setGen g y).gens[i]? = some x := by rw [(GenOnly.setGen s g y).2 i h]; exact e
/-- changed by a generator alone -/
structure Genned (g : Nat) (X : List Addr) (s s' : Shared) : Prop where
  keep : ∀ b o, b ∉ X → s.heap.get? b = some o → s'.heap.get? b = some o
  os : s'.os = s.os
  gens : ∀ (i : Nat) (x : GenState), i ≠ g → s.gens[i]? = some x → s'.gens[i]? = some x
  bare : AllBare s.gens → AllBare s'.gens
theorem Genned.refl (g : Nat) (X : List Addr) (s : Shared) : Genned g X s s := ⟨fun _ _ _ e => e, rfl, fun _ _ _ e => e, id⟩
theorem Genned.trans {g : Nat} {X : List Addr} {a b c : Shared} (x : Genned g X a b) (y : Genned g X b c) : Genned g X a c := ⟨fun d o h e => y.keep d o h (x.keep d o h e), y.os.trans x.os, fun i z h e => y.gens i z h (x.gens i z h e), fun h => y.bare (x.bare h)⟩
theorem Turned.genned {g : Nat} {X Y : List Addr} {a b : Shared} (t : Turned X a b) (h : ∀ d ∈ X, d ∈ Y) : Genned g Y a b := ⟨fun d o q e => t.keep d o (fun r => q (h d r)) e, t.os, fun i z _ e => t.gens i z e, t.bare⟩
section
variable {prog : Program} {w : World} {A : Around} {s : Shared} {env : Env} {h₀ : Heap} {m cm : Str → Option Value}
theorem gen_item {a g C e it : Nat} {x : Str} {j : Nat} {Q : Option Value → Shared → Prop} {E : Value → Shared → Prop} (hh : A.handled = none) (hl : s.heap.NoLimit) (hroom : A.depth < recursionLimit) (G : GenInv prog w A a g C e it x j s) (hj : j < x.cps.size) (ha : a ∉ [C, e, it])
    (h : ∀ v s', (∃ t c u T, x.cps[j]? = some c ∧ v = .ref T ∧ IsTup s'.heap T #[.int j t, .str ⟨#[c]⟩ u] ∧ T ∉ [C, e, it]) → GenInv prog w A a g C e it x (j + 1) s' → Genned g [C, e, it] s s' → Q (some v) s') :
    wpAny (model prog w) A (pyNext (.ref a)) Q E s := by
  obtain ⟨hg, gs, hgs, hgo⟩ := G
  refine next_gen hh hl hroom hg hgs (hgo (s.setGen g .running) (fun _ => rfl) (fun b _ o q => q)) (fun v s₁ gs' hb hv => ?_) (fun s₁ hn _ => by omega)
  obtain ⟨⟨i, t, c, u, T, hi, hc, e1, tup, hT⟩, ht, hk⟩ := hv
  have hij : i = j := by omega
  subst hij
  have hrun : s₁.gens[g]? = some .running := ht.gens _ _ (setGen_self hgs)
  refine h v _ ⟨t, c, u, T, hc, e1, tup, hT⟩ ⟨let ⟨o, nm, qn, h1, h2⟩ := hg; ⟨o, nm, qn, ht.keep _ _ ha h1, h2⟩, gs', setGen_self hrun, fun s'' _ hz => ?_⟩
    ⟨fun b o hb q => ht.keep b o hb q, ht.os, fun i z hi q => gens_set hi (ht.gens i z (gens_set hi q)), fun q => bare_set hrun hb (ht.bare (bare_set hgs rfl q))⟩
  have := hk s'' hz
  obtain ⟨n, hn⟩ : ∃ n, x.cps.size - i = n + 1 := ⟨x.cps.size - i - 1, by omega⟩
  rw [hn] at this
  rw [show x.cps.size - (i + 1) = n by omega]
  exact this
theorem gen_done {a g C e it : Nat} {x : Str} {Q : Option Value → Shared → Prop} {E : Value → Shared → Prop} (hh : A.handled = none) (hl : s.heap.NoLimit) (hroom : A.depth < recursionLimit) (G : GenInv prog w A a g C e it x x.cps.size s)
    (h : ∀ s', Genned g [C, e, it] s s' → Q none s') : wpAny (model prog w) A (pyNext (.ref a)) Q E s := by
  obtain ⟨hg, gs, hgs, hgo⟩ := G
  rw [Nat.sub_self] at hgo
  refine next_gen hh hl hroom hg hgs (hgo (s.setGen g .running) (fun _ => rfl) (fun b _ o q => q)) (fun v s₁ gs' hb hv => ?_) (fun s₁ hn ht h' hx => ?_)
  · obtain ⟨⟨i, t, c, u, T, hi, hc, e1, tup, hT⟩, ht, hk⟩ := hv
    exact (hk s₁ fun b _ o q => q).elim
  · have hrun : s₁.gens[g]? = some .running := ht.gens _ _ (setGen_self hgs)
    exact h _ ⟨fun b o hb q => hx b o (ht.keep b o hb q), ht.os, fun i z hi q => gens_set hi (ht.gens i z (gens_set hi q)), fun q => bare_set hrun rfl (ht.bare (bare_set hgs rfl q))⟩
/-- what a call of the generator's def gives -/
structure GenNew (prog : Program) (w : World) (A : Around) (s₀ s : Shared) (x : Str) (v : Value) : Prop where
  ex : ∃ a g C e it, v = .ref a ∧ GenInv prog w A a g C e it x 0 s ∧ a ∉ [C, e, it] ∧ (∀ b ∈ [a, C, e, it], s₀.heap.get? b = none) ∧ s₀.gens[g]? = none
theorem x_forGen {target iter : PySem.Expr} {body : List Stmt} {pos : Pos} {x : Str} {Q : Flow → Shared → Prop} (hh : A.handled = none) (hroom : A.depth < recursionLimit) (hb : Heap) (W : Wd w hb) (F : FrC hb env m cm s.heap) (Inv : Nat → (Str → Option Value) → (Str → Option Value) → Prop)
    (hit : wpAny (model prog w) A (eval iter env) (fun v s₁ => Sx s s₁ ∧ GenNew prog w A s s₁ x v) NoE s) (h0 : Inv 0 m cm)
    (turn : ∀ (i c T : Nat) (ti u : Tok) (s₁ : Shared) (m₁ cm₁ : Str → Option Value), x.cps[i]? = some c → IsTup s₁.heap T #[.int i ti, .str ⟨#[c]⟩ u] → FrC hb env m₁ cm₁ s₁.heap → Inv i m₁ cm₁ → wpAny (model prog w) A (assign target env (.ref T)) (fun _ s₂ => wpAny (model prog w) A (execs body env) (fun f s₃ => match f with
        | .next | .cont => ∃ m₃ cm₃, FrC hb env m₃ cm₃ s₃.heap ∧ Inv (i + 1) m₃ cm₃ ∧ Turned (own env) s₁ s₃
        | .brk => False
        | .ret v => (∃ m₃ cm₃, FrC hb env m₃ cm₃ s₃.heap) ∧ Turned (own env) s₁ s₃ ∧ (Turned (own env) s s₃ → Q (.ret v) s₃)) NoE s₂) NoE s₁)
    (done : ∀ s' m' cm', FrC hb env m' cm' s'.heap → Inv x.cps.size m' cm' → Turned (own env) s s' → Q .next s') (hs : ∀ x, foldedSetIterable iter env x = Pure.pure x := by intro _; rfl) :
    wpAny (model prog w) A (exec (.For target iter body [] pos) env) Q NoE s := by
  refine wpAny_For (wpAny_mono hit (fun v s₁ ⟨x₁, hN⟩ => ?_) fun _ _ f => f) hs
  obtain ⟨a, g, C, e, it, rfl, G₁, ha, hfr, hg⟩ := hN.ex
  refine wpAny_pyIter_gen G₁.obj ?_
  have hZo : ∀ b ∈ [a, C, e, it], b ∉ own env := fun b hb q => by
    obtain ⟨o, h⟩ := F.own_alive b q
    rw [hfr b hb] at h; cases h
  have toT : ∀ s', Genned g (own env ++ [C, e, it]) s s' → Turned (own env) s s' := fun s' t =>
    ⟨fun b o hb q => t.keep b o (fun h => by
      rcases List.mem_append.mp h with h | h
      · exact hb h
      · rw [hfr b (List.mem_cons_of_mem _ h)] at q; cases q) q, t.os, fun i z q => t.gens i z (fun h => by rw [h, hg] at q; cases q) q, t.bare⟩
  refine codeAny_loop' rfl (fun k s' => ∃ i m' cm', i ≤ x.cps.size ∧ k = x.cps.size - i ∧ FrC hb env m' cm' s'.heap ∧ Inv i m' cm' ∧ GenInv prog w A a g C e it x i s' ∧ Genned g (own env ++ [C, e, it]) s s') ?_ x.cps.size
    ⟨0, m, cm, Nat.zero_le _, rfl, F.ext x₁.ext, h0, G₁, (x₁.turned (wr := [])).genned fun _ h => by cases h⟩
  rintro k s' ⟨i, m', cm', hi, rfl, F', I, G, t⟩
  have hl : s'.heap.NoLimit := (W.mono F'.keep).lim
  show wpAny _ A ((forTurn target (.ref a) body [] env).onRaise (fun x => do noteFrame x env; theTreesLotGoes x)) _ _ s'
  refine wpAny_noted ?_
  simp only [forTurn]
  have byZ : ∀ s₂, Genned g [C, e, it] s' s₂ → FrC hb env m' cm' s₂.heap := fun s₂ t₂ => F'.by (X := [C, e, it]) (fun d hd => ⟨hZo d (List.mem_cons_of_mem _ hd), (by
    cases q : hb.get? d with
    | none => rfl
    | some o => have := F.keep _ _ q; rw [hfr d (List.mem_cons_of_mem _ hd)] at this; cases this)⟩) t₂.keep
  by_cases hlt : i < x.cps.size
  · refine wpAny_bind (wpAny_standAt (wpAny_bind (wpAny_onRaise (gen_item hh hl hroom G hlt ha fun v s₂ ⟨ti, c, u, T, hc, e1, tup, hT⟩ G₂ t₂ => ?_))))
    subst e1
    obtain ⟨og, nm, qn, hg1, hg2, hg3, _⟩ := G₂.obj
    refine wpAny_bind (t_letOwned ⟨og, hg1, "generator", hg2, by decide⟩ ?_)
    refine wpAny_bind (wpAny_mono (turn i c T ti u s₂ m' cm' hc tup (byZ s₂ t₂) I) (fun _ s₃ h₃ => wpAny_bind (wpAny_mono h₃ (fun f s₄ h₄ => ?_) fun _ _ f => f.elim)) fun _ _ f => f.elim)
    have keepG : Turned (own env) s₂ s₄ → GenInv prog w A a g C e it x (i + 1) s₄ := fun t₄ => by
      obtain ⟨ho, gs, hgs, hgo⟩ := G₂
      have kz : ∀ b ∈ [C, e, it], ∀ o, s₂.heap.get? b = some o → s₄.heap.get? b = some o := fun b hb o q => t₄.keep b o (hZo b (List.mem_cons_of_mem _ hb)) q
      exact ⟨let ⟨o, nm, qn, h1, h2⟩ := ho; ⟨o, nm, qn, t₄.keep _ _ (hZo a (List.mem_cons_self ..)) h1, h2⟩, gs, t₄.gens _ _ hgs, fun s'' _ hz => hgo s'' (fun h => absurd h (Nat.succ_ne_zero _)) fun b hb o q => hz b hb o (kz b hb o q)⟩
    have all : Turned (own env) s₂ s₄ → Genned g (own env ++ [C, e, it]) s s₄ := fun t₄ => (t.trans ⟨fun b o hb q => t₂.keep b o (fun h => hb (List.mem_append.mpr (.inr h))) q, t₂.os, t₂.gens, t₂.bare⟩).trans (t₄.genned fun d hd => List.mem_append.mpr (.inl hd))
    have fin : (∃ m₃ cm₃, FrC hb env m₃ cm₃ s₄.heap ∧ Inv (i + 1) m₃ cm₃ ∧ Turned (own env) s₂ s₄) → ∃ k', k' < x.cps.size - i ∧ ∃ i m' cm', i ≤ x.cps.size ∧ k' = x.cps.size - i ∧ FrC hb env m' cm' s₄.heap ∧ Inv i m' cm' ∧ GenInv prog w A a g C e it x i s₄ ∧ Genned g (own env ++ [C, e, it]) s s₄ := fun ⟨m₃, cm₃, F₃, I₃, t₃⟩ =>
      ⟨x.cps.size - (i + 1), by omega, i + 1, m₃, cm₃, hlt, rfl, F₃, I₃, keepG t₃, all t₃⟩
    cases f with
    | next => exact wpAny_pure (.inl ⟨rfl, fin h₄⟩)
    | cont => exact wpAny_pure (.inl ⟨rfl, fin h₄⟩)
    | brk => exact h₄.elim
    | ret v => exact wpAny_pure (h₄.2.2 (toT _ (all h₄.2.1)))
  · have : i = x.cps.size := by omega
    subst this
    refine wpAny_bind (wpAny_standAt (wpAny_bind (wpAny_onRaise (gen_done hh hl hroom G fun s₂ t₂ => ?_))))
    refine wpAny_pure (.inr ⟨rfl, codeAny_block (wpAny_execs_nil (done _ m' cm' (byZ s₂ t₂) I (toT _ ?_)))⟩)
    exact t.trans ⟨fun b o hb q => t₂.keep b o (fun h => hb (List.mem_append.mpr (.inr h))) q, t₂.os, t₂.gens, t₂.bare⟩
end
end Mine
namespace Mine
theorem get_none_of_le {h : Heap} {a : Addr} (ha : h.objs.size ≤ a) : h.get? a = none := by
  cases e : h.get? a with
  | none => rfl
  | some o' => exact absurd (Heap.lt_size e) (Nat.not_lt.mpr ha)
section
variable {prog : Program} {w : World} {A : Around} {s₀ s : Shared}
theorem t_iter (W : Wd w s.heap) (R : RoomA 3 A) {x : Str} {t : Tok} (hx : Plain x) : wpAny (model prog w) A (call (.ref 45) [.str x t]) (fun v s' => Sx s s' ∧ GenNew prog w A s s' x v) NoE s := by
  have hclo : (fdOf w 45).closure = [] := by kernel_rfl
  refine wpAny_call (codeAny_call_generator (body := bodyOf (fdOf w 45)) R.depth (W.K _ _ (at_iter w)) rfl (by kernel_rfl) (by kernel_rfl) (by kernel_rfl) (codeRec_of' W (by kernel_rfl)) ?_)
  rw [bind_iter]
  refine wpAny_pure ?_
  rw [hclo]
  refine wpAny_newFunctionEnv_cells (by kernel_rfl) (fun y hy => .inl ?_) fun env he s₂ iv => ?_
  · simp only [List.mem_cons, List.mem_nil_iff, or_false] at hy
    subst hy; kernel_rfl
  have he' : env = callEnvC (fdOf w 45) s.heap.objs.size 45 := he
  obtain ⟨h₂, tk, hs₂⟩ := iv.toInCall.same
  have keep : Ext s.heap s₂.heap := iv.toInCall.keep
  have W₂ := W.mono keep
  have hC : env.locals = s.heap.objs.size := by rw [he']; kernel_rfl
  have hcl : env.cells = [] := by rw [he']; kernel_rfl
  have hm : bindL env.kindOf [("addr", .str x t)] (fun _ => none) "addr" = some (.str x t) := by rw [he']; kernel_rfl
  have F : FrC noHeap env (bindL env.kindOf [("addr", .str x t)] fun _ => none) (bindC env.kindOf [("addr", .str x t)] fun _ => none) s₂.heap :=
    ⟨iv.toInCall.ns, fun b o e => (by rw [noHeap_get] at e; cases e), noHeap_get _, fun n c h => (by rw [hcl] at h; cases h), iv.apart, fun n c h => noHeap_get _⟩
  have lt : s.heap.objs.size < s₂.heap.objs.size := hC ▸ F.ns.lt
  refine ⟨W₂.lim, ?_, ?_⟩
  · refine ⟨keep.trans (Ext.push _ _), by rw [hs₂], fun i z q => ?_, fun q => ?_⟩
    · have : s₂.gens = s.gens := by rw [hs₂]
      show (s₂.gens.push _)[i]? = some z
      rw [this, Array.getElem?_push]
      rw [if_neg (fun h => by rw [h] at q; simp at q)]
      exact q
    · have : s₂.gens = s.gens := by rw [hs₂]
      show AllBare (s₂.gens.push _)
      rw [this]
      exact q.push rfl
  · have hg : s₂.gens.size = s.gens.size := by rw [hs₂]
    refine ⟨s₂.heap.objs.size, s₂.gens.size, env.locals, s₂.heap.objs.size + 1 + 1, s₂.heap.objs.size + 1, rfl, ⟨⟨_, _, _, Heap.get?_push_size _ rfl, rfl, rfl, rfl⟩, _, Array.getElem?_push_size .., fun s'' h0 _ => ?_⟩, ?_, ?_, ?_⟩
    · refine ⟨rfl, ?_⟩
      have hh := h0 rfl
      have hsz : s''.heap.objs.size = s₂.heap.objs.size + 1 := by rw [hh]; exact Heap.size_push ..
      have e1 : Ext s.heap s''.heap := by rw [hh]; exact keep.trans (Ext.push _ _)
      have F' : FrC noHeap (callEnvC (fdOf w 45) s.heap.objs.size 45) (bindL env.kindOf [("addr", .str x t)] fun _ => none) (bindC env.kindOf [("addr", .str x t)] fun _ => none) s''.heap := by rw [← he', hh]; exact F.ext (Ext.push _ _)
      have := seg_gen (prog := prog) (A := A.in1) (s := s'') (hb := s.heap) W e1 (by rw [← he', hC]; exact get_none_of_le (Nat.le_refl _)) hx R.hh F' hm
      rw [hsz, ← he'] at this
      exact this
    · simp only [List.mem_cons, List.mem_nil_iff, or_false, not_or]
      rw [hC]
      exact ⟨Nat.ne_of_gt lt, Nat.ne_of_lt (by omega), Nat.ne_of_lt (by omega)⟩
    · intro b hb
      simp only [List.mem_cons, List.mem_nil_iff, or_false] at hb
      refine get_none_of_le ?_
      rcases hb with rfl | rfl | rfl | rfl
      · omega
      · rw [hC]; exact Nat.le_refl _
      · omega
      · omega
    · rw [hg]; simp
end
end Mine
namespace Mine
theorem at_strip (w : World) : (hd.heap_39 w.params).lookup 52 = some ⟨.type "function", none, .func (fdOf w 52), #[]⟩ := by kernel_rfl
theorem bind_strip (w : World) (a : Value) : bindArgs (fdOf w 52) ⟨[a], []⟩ = (pure [("addr", a)] : Sem (List (Str × Value))) := by kernel_rfl
theorem at_check (w : World) : (hd.heap_39 w.params).lookup 59 = some ⟨.type "function", none, .func (fdOf w 59), #[]⟩ := by kernel_rfl
theorem bind_check (w : World) (a : Value) : bindArgs (fdOf w 59) ⟨[a], []⟩ = (pure [("addr", a)] : Sem (List (Str × Value))) := by kernel_rfl
def bal : List Nat → Int → Option Int
  | [], o => some o
  | c :: r, o => if c = 40 then bal r (o + 1) else if c = 41 then (if o - 1 < 0 then none else bal r (o - 1)) else bal r o
def checks (x : Str) : Bool := match bal x.cps.toList 0 with
  | none => false
  | some o => o == 0
section
variable {prog : Program} {w : World} {A : Around} {s : Shared}
theorem strip_ok (W : Wd w s.heap) (R : RoomA 3 A) {x : Str} {t : Tok} (hx : Plain x) : T prog w A (call (.ref 52) [.str x t]) (fun v _ => v = .str x t) s := by
  refine fn_enter (s₁ := s) (body := bodyOf (fdOf w 52)) (bs := [("addr", .str x t)]) R.depth (W.K _ _ (at_strip w)) rfl (by kernel_rfl) (codeRec_of' W (by kernel_rfl)) W.lim (by kernel_rfl) (by kernel_rfl) (by kernel_rfl) (by kernel_rfl)
    (by rw [bind_strip]; exact wpAny_pure ⟨rfl, rfl⟩) (.refl _) (fun n x hx => .inl ?_) fun s₂ F sx => ?_
  · simp only [List.mem_cons, List.mem_nil_iff, or_false] at hx
    subst hx
    kernel_rfl
  generalize hL : s.heap.objs.size = L at F ⊢
  have ma : bindL (callEnvC (fdOf w 52) L 52).kindOf [("addr", .str x t)] (fun _ => none) "addr" = some (.str x t) := by kernel_rfl
  generalize bindL (callEnvC (fdOf w 52) L 52).kindOf [("addr", .str x t)] (fun _ => none) = m₀ at F ma
  generalize bindC (callEnvC (fdOf w 52) L 52).kindOf [("addr", .str x t)] (fun _ => none) = cm₀ at F
  generalize henv : callEnvC (fdOf w 52) L 52 = env at F ⊢
  have hf : env.scope.kind = .function := by subst henv; kernel_rfl
  have ka : env.kindOf "addr" = some .local := by subst henv; kernel_rfl
  have hq : (!(!(Builtin.Str.occurrences x (Str.ofString "\"") 0 x.length 1).isEmpty)) = true := by
    rw [show Str.ofString "\"" = ⟨#[34]⟩ by decide +kernel, StrLaws.found_one]
    simp only [Bool.not_eq_true', decide_eq_false_iff_not]
    intro h
    exact (hx 34 (by simpa using h)).2.2 rfl
  refine wpAny_execs_cons (x_if (b := true) ?_ (fun _ s₃ x₃ => ?_) (fun e => by cases e))
  · refine evb_cmp ev_str (ev_name (F.bndL ma hf ka)) fun a c s₁ s₂ _ ⟨u, e⟩ _ e' => ?_
    subst e e'
    exact PyProof.Rows.notIn_str ⟨.refl _, by rw [hq]⟩
  · refine wpAny_execs_cons (x_ret (ev_name ((F.ext x₃.ext).bndL ma hf ka)) fun v s₄ x₄ e => ?_)
    exact ⟨⟨_, _, F.ext (x₃.trans x₄).ext⟩, (x₃.trans x₄).bx, e⟩
theorem ev_iterCall {env : Env} {np pos : Pos} {e : PySem.Expr} {x : Str} {t : Tok} (W : Wd w s.heap) (R : RoomA 3 A) (hb : Bnd prog w A env s.heap "_iter_escaped_chars" (.ref 45)) (hx : Plain x) (he : Bnd prog w A env s.heap "addr" (.str x t)) {ap : Pos} (hea : e = .Name "addr" ap) (hs : starEach [e] env = [(false, eval e env)] := by rfl) :
    wpAny (model prog w) A (eval (.Call (.Name "_iter_escaped_chars" np) [e] [] pos) env) (fun v s₁ => Sx s s₁ ∧ GenNew prog w A s s₁ x v) NoE s := by
  subst hea
  refine Call_ (wpAny_Name (hb s _ _ (Ext.refl _) ?_) (by decide))
  refine Calls.callWith_function (o := ⟨.type "function", none, .func (fdOf w 45), #[]⟩) (fd := fdOf w 45) (evalArgs_gen (by rw [hs]; rfl) (args_cons (wpAny_Name (he s _ _ (Ext.refl _) (args_nil ?_)) (by decide)) (by rfl)))
  exact ⟨⟨W.K _ _ (at_iter w), rfl⟩, t_iter W R hx⟩
theorem x_augAdd {env : Env} {h₀ : Heap} {m cm : Str → Option Value} {y : Str} {p cp pos : Pos} {k : Nat} {o i : Int} {t : Tok} {Q : Flow → Shared → Prop} (F : FrC h₀ env m cm s.heap) (ho : m y = some (.int o t)) (hf : env.scope.kind = .function) (hl : env.kindOf y = some .local)
    (h : ∀ t' s₂, FrC h₀ env (upd m y (.int (o + i) t')) cm s₂.heap → Turned (own env) s s₂ → Q .next s₂) : wpAny (model prog w) A (exec (.AugAssign (.Name y p) .Add (.Constant (.int i) k cp) pos) env) Q NoE s :=
  wpAny_AugAssign_Name (F.bndL ho hf hl s _ _ (Ext.refl _) (wpAny_Constant_int (P.iadd_int (FrC.storeL (s := { s with toks := s.toks + 1 + 1 }) F hf hl fun s₂ F₂ b₂ => h _ _ F₂ ⟨b₂.turned.keep, b₂.os, b₂.gens, b₂.bare⟩))))
theorem x_augSub {env : Env} {h₀ : Heap} {m cm : Str → Option Value} {y : Str} {p cp pos : Pos} {k : Nat} {o i : Int} {t : Tok} {Q : Flow → Shared → Prop} (F : FrC h₀ env m cm s.heap) (ho : m y = some (.int o t)) (hf : env.scope.kind = .function) (hl : env.kindOf y = some .local)
    (h : ∀ t' s₂, FrC h₀ env (upd m y (.int (o - i) t')) cm s₂.heap → Turned (own env) s s₂ → Q .next s₂) : wpAny (model prog w) A (exec (.AugAssign (.Name y p) .Sub (.Constant (.int i) k cp) pos) env) Q NoE s :=
  wpAny_AugAssign_Name (F.bndL ho hf hl s _ _ (Ext.refl _) (wpAny_Constant_int (P.isub_int (FrC.storeL (s := { s with toks := s.toks + 1 + 1 }) F hf hl fun s₂ F₂ b₂ => h _ _ F₂ ⟨b₂.turned.keep, b₂.os, b₂.gens, b₂.bare⟩))))
theorem check_ok (W : Wd w s.heap) (R : RoomA 8 A) {x : Str} {t : Tok} (hx : Plain x) : T prog w A (call (.ref 59) [.str x t]) (fun v _ => v = .bool (checks x)) s := by
  refine fn_enter (s₁ := s) (body := bodyOf (fdOf w 59)) (bs := [("addr", .str x t)]) R.depth (W.K _ _ (at_check w)) rfl (by kernel_rfl) (codeRec_of' W (by kernel_rfl)) W.lim (by kernel_rfl) (by kernel_rfl) (by kernel_rfl) (by kernel_rfl)
    (by rw [bind_check]; exact wpAny_pure ⟨rfl, rfl⟩) (.refl _) (fun n x hx => .inl ?_) fun s₂ F sx => ?_
  · simp only [List.mem_cons, List.mem_nil_iff, or_false] at hx
    subst hx
    kernel_rfl
  generalize hL : s.heap.objs.size = L at F ⊢
  have ma : bindL (callEnvC (fdOf w 59) L 59).kindOf [("addr", .str x t)] (fun _ => none) "addr" = some (.str x t) := by kernel_rfl
  generalize bindL (callEnvC (fdOf w 59) L 59).kindOf [("addr", .str x t)] (fun _ => none) = m₀ at F ma
  generalize bindC (callEnvC (fdOf w 59) L 59).kindOf [("addr", .str x t)] (fun _ => none) = cm₀ at F
  generalize henv : callEnvC (fdOf w 59) L 59 = env at F ⊢
  have G : GEnv env := by subst henv; exact ⟨by kernel_rfl, by kernel_rfl, by kernel_rfl⟩
  have hf := G.k
  have ka : env.kindOf "addr" = some .local := by subst henv; kernel_rfl
  have ko : env.kindOf "opens" = some .local := by subst henv; kernel_rfl
  have kp : env.kindOf "pos" = some .local := by subst henv; kernel_rfl
  have kc : env.kindOf "ch" = some .local := by subst henv; kernel_rfl
  have kst : env.kindOf "_strip_quoted_realnames" = some .globalImplicit := by subst henv; kernel_rfl
  have kit : env.kindOf "_iter_escaped_chars" = some .globalImplicit := by subst henv; kernel_rfl
  have RD : RoomA 7 (A.deeper env) := R.deeper
  have W₂ := W.mono sx.ext
  refine wpAny_execs_cons (x_assignL F (ev_call (W₂.glob G kst (g_strip w)) (.func _ _ _ (W₂.K _ _ (at_strip w)) rfl) (evs_one (ev_name (F.bndL ma hf ka))) fun vs s' y ⟨v, e, e'⟩ => by subst e e'; exact strip_ok (W₂.mono y.ext) (RD.less (by decide)) hx) hf ka fun v s₃ s₄ x₃ e F₄ b₄ => ?_)
  subst e
  refine wpAny_execs_cons (x_assignL F₄ ev_int hf ko fun v s₅ s₆ x₅ ⟨to, e⟩ F₆ b₆ => ?_)
  subst e
  have W₆ : Wd w s₆.heap := W.mono F₆.keep
  have t₆ : Turned (own env) s₂ s₆ := x₃.turned.trans (b₄.turned.trans (x₅.turned.trans b₆.turned))
  have ma₆ : upd (upd m₀ "addr" (.str x t)) "opens" (.int 0 to) "addr" = some (.str x t) := by rw [upd_ne (by decide +kernel), upd_eq]
  have toBx : ∀ s', Turned (own env) s₂ s' → Bx env s₂ s' := fun s' t => ⟨fun b o h e => t.keep b o h.own e, t.os, t.gens, t.bare⟩
  refine wpAny_execs_cons (x_forGen R.hh RD.depth s.heap W F₆ (fun i m cm => ∃ o tt, m "opens" = some (.int o tt) ∧ bal (x.cps.toList.drop i) o = bal x.cps.toList 0) (ev_iterCall W₆ (RD.less (by decide)) (W₆.glob G kit (g_iter w)) hx (F₆.bndL ma₆ hf ka) rfl) ⟨0, to, upd_eq, rfl⟩ (fun i c T ti u s₁ m₁ cm₁ hc tup F₁ ⟨o, tt, ho, hbal⟩ => ?_) fun s' m' cm' F' ⟨o, tt, ho, hbal⟩ t' => ?_)
  · have hdrop : x.cps.toList.drop i = c :: x.cps.toList.drop (i + 1) := by
      obtain ⟨hi, e⟩ := Array.getElem?_eq_some_iff.mp hc
      rw [List.drop_eq_getElem_cons (by simpa using hi)]
      rw [← e]; simp
    rw [hdrop] at hbal
    refine a_pair RD.hh F₁ tup hf kp kc fun s₂' F₂ t₂ => ?_
    have hch : upd (upd m₁ "pos" (.int i ti)) "ch" (.str ⟨#[c]⟩ u) "ch" = some (.str ⟨#[c]⟩ u) := upd_eq
    have hop : upd (upd m₁ "pos" (.int i ti)) "ch" (.str ⟨#[c]⟩ u) "opens" = some (.int o tt) := by rw [upd_ne (by decide +kernel), upd_ne (by decide +kernel)]; exact ho
    have e40 : (Str.ofString "(") = ⟨#[40]⟩ := by decide +kernel
    have e41 : (Str.ofString ")") = ⟨#[41]⟩ := by decide +kernel
    refine wpAny_execs_cons (x_if (b := c == 40) ?_ (fun hc40 s₃' x₃' => ?_) (fun hc40 s₃' x₃' => ?_))
    · have := evb_eq_str (prog := prog) (w := w) (A := A.deeper env) (s₀ := s₂') (pos := ⟨41, 11, 41, 20⟩) (b := Str.ofString "(") (ev_nameP (x := "ch") (pos := ⟨41, 11, 41, 13⟩) (F₂.bndL hch hf kc) fun _ _ => .mk ..) (ev_str (k := 0) (pos := ⟨41, 17, 41, 20⟩))
      rw [e40, sign_eq] at this
      rw [← e40] at this
      exact this
    · have hc' : c = 40 := by simpa using hc40
      refine wpAny_execs_cons (x_augAdd (F₂.ext x₃'.ext) hop hf ko fun t' s₄' F₄' t₄' => ?_)
      refine wpAny_execs_nil (wpAny_execs_nil ⟨_, _, F₄', ⟨o + 1, t', upd_eq, ?_⟩, t₂.trans (x₃'.turned.trans t₄')⟩)
      rw [← hbal, bal, if_pos hc']
    · have hc' : c ≠ 40 := by simpa using hc40
      have F₃' := F₂.ext x₃'.ext
      refine wpAny_execs_cons (x_if (b := c == 41) ?_ (fun hc41 s₄' x₄' => ?_) (fun hc41 s₄' x₄' => ?_))
      · have := evb_eq_str (prog := prog) (w := w) (A := A.deeper env) (s₀ := s₃') (pos := ⟨43, 13, 43, 22⟩) (b := Str.ofString ")") (ev_nameP (x := "ch") (pos := ⟨43, 13, 43, 15⟩) (F₃'.bndL hch hf kc) fun _ _ => .mk ..) (ev_str (k := 0) (pos := ⟨43, 19, 43, 22⟩))
        rw [e41, sign_eq] at this
        rw [← e41] at this
        exact this
      · have hc1 : c = 41 := by simpa using hc41
        refine wpAny_execs_cons (x_augSub (F₃'.ext x₄'.ext) hop hf ko fun t' s₅' F₅' t₅' => ?_)
        refine wpAny_execs_cons (x_if (b := decide (o - 1 < 0)) ?_ (fun hneg s₆' x₆' => ?_) (fun hneg s₆' x₆' => ?_))
        · exact evb_lt_int (ev_nameP (F₅'.bndL upd_eq hf ko) fun _ _ => .mk ..) ev_int
        · refine wpAny_execs_cons (x_ret ev_bool fun v s₇' x₇' e => ?_)
          have tt' := t₂.trans (x₃'.turned.trans (x₄'.turned.trans (t₅'.trans (x₆'.trans x₇').turned)))
          refine ⟨⟨_, _, F₅'.ext (x₆'.trans x₇').ext⟩, tt', fun tall => ⟨⟨_, _, F₅'.ext (x₆'.trans x₇').ext⟩, toBx _ (t₆.trans tall), ?_⟩⟩
          show v = _
          rw [e]
          unfold checks
          rw [← hbal, bal, if_neg hc', if_pos hc1, if_pos (by simpa using hneg)]
        · refine wpAny_execs_nil (wpAny_execs_nil (wpAny_execs_nil (wpAny_execs_nil ⟨_, _, F₅'.ext x₆'.ext, ⟨o - 1, t', upd_eq, ?_⟩, t₂.trans (x₃'.turned.trans (x₄'.turned.trans (t₅'.trans x₆'.turned)))⟩)))
          rw [← hbal, bal, if_neg hc', if_pos hc1, if_neg (by simpa using hneg)]
      · have hc1 : c ≠ 41 := by simpa using hc41
        refine wpAny_execs_nil (wpAny_execs_nil (wpAny_execs_nil ⟨_, _, F₃'.ext x₄'.ext, ⟨o, tt, hop, ?_⟩, t₂.trans (x₃'.trans x₄').turned⟩))
        rw [← hbal, bal, if_neg hc', if_neg hc1]
  · rw [List.drop_of_length_le (by simp)] at hbal
    refine wpAny_execs_cons (x_ret (ev_eq_int (ev_nameP (F'.bndL ho hf ko) fun _ _ => .mk ..) ev_int) fun v s₇ x₇ e => ?_)
    refine ⟨⟨_, _, F'.ext x₇.ext⟩, toBx _ (t₆.trans (t'.trans x₇.turned)), ?_⟩
    show v = _
    rw [e]
    unfold checks
    rw [← hbal]
    rfl
end
end Mine
namespace Mine
def dInts (ns : List Int) : PyData := .list (ns.map .int)
def dRows (rows : List (List Int)) : PyData := .list (rows.map dInts)
theorem rds_ints {s : Shared} {v : Value} {ns : List Int} (h : LI s.heap v ns) : Rds v (dInts ns) s := by
  obtain ⟨a, vs, rfl, ⟨o, h1, h2, n, h3⟩, hi⟩ := h
  exact ⟨_, .list h1 h2 h3 (by simpa using IntsAre.reads s.heap hi)⟩
theorem readsAll_strs (h : Heap) : ∀ {vs : List Value} {ns : List Str}, StrsAre vs ns → ReadsAll h vs (ns.map .str) []
  | _, _, .nil => .nil
  | _, _, .cons y t r => .cons (.str y t) (readsAll_strs h r)
theorem rds_strs {s : Shared} {v : Value} {ns : List Str} (h : LS s.heap v ns) : Rds v (.list (ns.map .str)) s := by
  obtain ⟨a, vs, rfl, ⟨o, h1, h2, n, h3⟩, hi⟩ := h
  exact ⟨_, .list h1 h2 h3 (by simpa using readsAll_strs s.heap hi)⟩
theorem canLay_ints (ns : List Int) : (dInts ns).canLay0 = true := by
  unfold dInts
  simp only [PyData.canLay0, PyProof.Rows.canLayAll_ints]
theorem canLay_rows : ∀ rows : List (List Int), PyData.canLayAll0 (rows.map dInts) = true
  | [] => rfl
  | r :: rs => by simp only [List.map, PyData.canLayAll0, canLay_ints, canLay_rows rs, Bool.and_self]
theorem depth_ints (ns : List Int) : (dInts ns).depth = 1 := by
  unfold dInts
  simp only [PyData.depth, PyProof.Rows.depthAll_ints]
theorem depth_rows : ∀ rows : List (List Int), PyData.depthAll (rows.map dInts) ≤ 1
  | [] => Nat.zero_le _
  | r :: rs => by simp only [List.map, PyData.depthAll, depth_ints]; exact Nat.max_le.mpr ⟨Nat.le_refl _, depth_rows rs⟩
theorem eqv_nil (ns : List Int) : PyData.eqv (dInts ns) (dInts []) = ns.isEmpty := by
  cases ns <;> rfl
end Mine
namespace Mine
/-- as Turned, of the objects that stood at s₀, and of all that are made of fields -/
structure TF (s₀ : Shared) (X : List Addr) (s s' : Shared) : Prop where
  keep : ∀ b o, b ∉ X → ((∃ o', s₀.heap.get? b = some o') ∨ ∃ vs, o.data = .fields vs) → s.heap.get? b = some o → s'.heap.get? b = some o
  os : s'.os = s.os
  gens : ∀ (i : Nat) (x : GenState), s.gens[i]? = some x → s'.gens[i]? = some x
  bare : AllBare s.gens → AllBare s'.gens
theorem TF.refl (s₀ : Shared) (X : List Addr) (s : Shared) : TF s₀ X s s := ⟨fun _ _ _ _ e => e, rfl, fun _ _ e => e, id⟩
theorem TF.trans {s₀ : Shared} {X : List Addr} {a b c : Shared} (x : TF s₀ X a b) (y : TF s₀ X b c) : TF s₀ X a c := ⟨fun d o h k e => y.keep d o h k (x.keep d o h k e), y.os.trans x.os, fun i g e => y.gens i g (x.gens i g e), fun h => y.bare (x.bare h)⟩
theorem Turned.tf {s₀ : Shared} {X Y : List Addr} {s s' : Shared} (t : Turned X s s') (h : ∀ b ∈ X, b ∈ Y ∨ s₀.heap.get? b = none ∧ ∀ o vs, s.heap.get? b = some o → o.data ≠ .fields vs) : TF s₀ Y s s' :=
  ⟨fun d o q k e => t.keep d o (fun r => by
    rcases h d r with h | ⟨h, h'⟩
    · exact q h
    · rcases k with ⟨o', k⟩ | ⟨vs, k⟩
      · rw [h] at k; cases k
      · exact h' o vs e k) e, t.os, t.gens, t.bare⟩
theorem TF.turned {s s' : Shared} {X : List Addr} (t : TF s X s s') : Turned X s s' := ⟨fun d o q e => t.keep d o q (.inl ⟨o, e⟩) e, t.os, t.gens, t.bare⟩
theorem Turned.then {s a b : Shared} {X : List Addr} (t : Turned X s a) (c : TF s X a b) : Turned X s b :=
  ⟨fun d o q e => c.keep d o q (.inl ⟨o, e⟩) (t.keep d o q e), c.os.trans t.os, fun i g e => c.gens i g (t.gens i g e), fun q => c.bare (t.bare q)⟩
section
variable {prog : Program} {w : World} {A : Around} {s : Shared} {env : Env} {h₀ : Heap} {m cm : Str → Option Value}
theorem x_for2 {target iter : PySem.Expr} {body : List Stmt} {pos : Pos} {n : Nat} {P : Nat → Value → Prop} {ext : List Addr} {Q : Flow → Shared → Prop} (X : List Addr) (Inv : Nat → Shared → Prop)
    (hit : EvI prog w A s env iter n P ext) (hX : ∀ b ∈ X, (∃ o, s.heap.get? b = some o) ∧ b ∉ ext) (hE : ∀ b ∈ ext, ∃ o, s.heap.get? b = some o)
    (h0 : ∀ s₁, Sx s s₁ → Inv 0 s₁) (hst : ∀ i a b, Inv i a → KeepNF s a b → Inv i b)
    (turn : ∀ i v s₁, i < n → P i v → Inv i s₁ → wpAny (model prog w) A (assign target env v) (fun _ s₂ => wpAny (model prog w) A (execs body env) (fun f s₃ => match f with
        | .next | .cont => Inv (i + 1) s₃ ∧ TF s X s₁ s₃
        | .brk => Q .next s₃
        | .ret v => Q (.ret v) s₃) NoE s₂) NoE s₁)
    (done : ∀ s', Inv n s' → Q .next s') (hs : ∀ x, foldedSetIterable iter env x = Pure.pure x := by intro _; rfl) : wpAny (model prog w) A (exec (.For target iter body [] pos) env) Q NoE s := by
  refine wpAny_For ((hit s (.refl _)).wp fun xv s₁ x₁ h₁ => h₁.wp fun it s₂ x₂ ⟨I, fp, wr, St, e, W, hst0, hw, hfp, hal, hfe, hcl⟩ => ?_) hs
  subst e
  have x₁₂ := x₁.trans x₂
  have hfX : ∀ b ∈ fp, b ∉ X := fun b hb hx => by
    rcases hfe b hb with q | q
    · obtain ⟨⟨o, ho⟩, _⟩ := hX b hx
      have := hw b q
      rw [x₁.ext _ _ ho] at this; cases this
    · exact (hX b hx).2 q
  have hwX : ∀ b ∈ wr, s.heap.get? b = none := fun b hb => by
    cases q : s.heap.get? b with
    | none => rfl
    | some o => have := x₁.ext _ _ q; rw [hw b hb] at this; cases this
  have nfk : ∀ i (a : Shared) h' tk, St i a.heap → (∀ b o, b ∉ wr → a.heap.get? b = some o → h'.get? b = some o) → KeepNF s a { a with heap := h', toks := tk } := fun i a h' tk st k =>
    ⟨fun d o q nf => k d o (fun hd => by obtain ⟨o', vs, q', e⟩ := hal _ _ st d hd; rw [q] at q'; cases q'; exact nf _ e) q, fun d o o' q' q => k d o (fun hd => by rw [hwX d hd] at q'; cases q') q, rfl, rfl⟩
  refine codeAny_loop' rfl (fun k s' => ∃ i, i ≤ n ∧ k = n - i ∧ St i s'.heap ∧ Inv i s') ?_ n ⟨0, Nat.zero_le _, rfl, hst0, h0 _ x₁₂⟩
  rintro k s' ⟨i, hi, rfl, st, inv⟩
  show wpAny _ A ((forTurn target (.ref I) body [] env).onRaise (fun x => do noteFrame x env; theTreesLotGoes x)) _ _ s'
  refine wpAny_noted ?_
  simp only [forTurn]
  by_cases hlt : i < n
  · refine wpAny_bind (wpAny_standAt (wpAny_bind (wpAny_onRaise (W.item i _ _ _ hlt st fun v h₁ tk₁ hP st₁ hk₁ => ?_))))
    refine wpAny_bind (t_letOwned (hcl _ _ st₁) ?_)
    refine wpAny_bind (wpAny_mono (turn i v _ hlt hP (hst i _ _ inv (nfk i s' h₁ tk₁ st hk₁))) (fun _ s₃ h₃ => wpAny_bind (wpAny_mono h₃ (fun f s₄ h₄ => ?_) fun _ _ f => f.elim)) fun _ _ f => f.elim)
    have fin : (Inv (i + 1) s₄ ∧ TF s X { s' with heap := h₁, toks := tk₁ } s₄) → ∃ m, m < n - i ∧ ∃ i, i ≤ n ∧ m = n - i ∧ St i s₄.heap ∧ Inv i s₄ := fun ⟨a, b⟩ =>
      ⟨n - (i + 1), by omega, i + 1, hlt, rfl, W.frame _ _ _ st₁ fun c hc o q => b.keep c o (hfX c hc) (by
        rcases hfe c hc with k | k
        · obtain ⟨o', vs, q', e⟩ := hal _ _ st₁ c k
          rw [q] at q'; cases q'
          exact .inr ⟨vs, e⟩
        · exact .inl (hE c k)) q, a⟩
    cases f with
    | next => exact wpAny_pure (.inl ⟨rfl, fin h₄⟩)
    | cont => exact wpAny_pure (.inl ⟨rfl, fin h₄⟩)
    | brk => exact wpAny_pure h₄
    | ret v => exact wpAny_pure h₄
  · have : i = n := by omega
    subst this
    refine wpAny_bind (wpAny_standAt (wpAny_bind (wpAny_onRaise (W.done _ _ _ st fun h₁ tk₁ hk₁ => ?_))))
    exact wpAny_pure (.inr ⟨rfl, codeAny_block (wpAny_execs_nil (done _ (hst _ _ _ inv (nfk i s' h₁ tk₁ st hk₁))))⟩)
theorem x_forF2 {target iter : PySem.Expr} {body : List Stmt} {pos : Pos} {n : Nat} {P : Nat → Value → Prop} {ext : List Addr} {Q : Flow → Shared → Prop} (F : FrC h₀ env m cm s.heap) (X : List Addr) (Inv : Nat → (Str → Option Value) → (Str → Option Value) → Shared → Prop)
    (hit : EvI prog w A s env iter n P ext) (hX : ∀ b ∈ own env ++ X, (∃ o, s.heap.get? b = some o) ∧ b ∉ ext) (hE : ∀ b ∈ ext, ∃ o, s.heap.get? b = some o)
    (hst : ∀ i m cm a b, Inv i m cm a → KeepNF s a b → Inv i m cm b) (h0 : ∀ s₁, Sx s s₁ → Inv 0 m cm s₁)
    (turn : ∀ i v s₁ m₁ cm₁, i < n → P i v → FrC h₀ env m₁ cm₁ s₁.heap → Inv i m₁ cm₁ s₁ → Turned (own env ++ X) s s₁ → wpAny (model prog w) A (assign target env v) (fun _ s₂ => wpAny (model prog w) A (execs body env) (fun f s₃ => match f with
        | .next | .cont => ∃ m₃ cm₃, FrC h₀ env m₃ cm₃ s₃.heap ∧ Inv (i + 1) m₃ cm₃ s₃ ∧ TF s (own env ++ X) s₁ s₃
        | .brk => False
        | .ret v => Q (.ret v) s₃) NoE s₂) NoE s₁)
    (done : ∀ s' m' cm', FrC h₀ env m' cm' s'.heap → Inv n m' cm' s' → Turned (own env ++ X) s s' → Q .next s') (hs : ∀ x, foldedSetIterable iter env x = Pure.pure x := by intro _; rfl) : wpAny (model prog w) A (exec (.For target iter body [] pos) env) Q NoE s := by
  refine x_for2 (own env ++ X) (fun i s' => ∃ m' cm', FrC h₀ env m' cm' s'.heap ∧ Inv i m' cm' s' ∧ Turned (own env ++ X) s s') hit hX hE (fun s₁ x => ⟨m, cm, F.ext x.ext, h0 s₁ x, x.turned⟩)
    (fun i a b ⟨m', cm', F', I, t⟩ k => ⟨m', cm', F'.nf F.keep k, hst _ _ _ _ _ I k, k.turned t⟩) (fun i v s₁ hi hp ⟨m', cm', F', I, t⟩ => ?_) (fun s' ⟨m', cm', F', I, t⟩ => done s' m' cm' F' I t) hs
  refine wpAny_mono (turn i v s₁ m' cm' hi hp F' I t) (fun _ s₂ h => wpAny_mono h (fun f s₃ r => ?_) fun _ _ f => f) fun _ _ f => f
  cases f with
  | next => obtain ⟨m₃, cm₃, a, b, c⟩ := r; exact ⟨⟨m₃, cm₃, a, b, t.then c⟩, c⟩
  | cont => obtain ⟨m₃, cm₃, a, b, c⟩ := r; exact ⟨⟨m₃, cm₃, a, b, t.then c⟩, c⟩
  | brk => exact r.elim
  | ret v => exact r
end
end Mine
namespace Mine
section
variable {prog : Program} {w : World} {A : Around} {s₀ s : Shared} {env : Env} {pos : Pos}
theorem evb_chain {l r₁ r₂ : PySem.Expr} {a b c : Int} (hl : Ev prog w A s₀ env l (fun v _ => IntV v a)) (h1 : Ev prog w A s₀ env r₁ (fun v _ => IntV v b)) (h2 : Ev prog w A s₀ env r₂ (fun v _ => IntV v c))
    (hm : lastMarks [.Lt, .LtE] [r₁, r₂] = false := by with_unfolding_all rfl) : EvB prog w A s₀ env (.Compare l [.Lt, .LtE] [r₁, r₂] pos) (decide (a < b) && decide (b ≤ c)) := fun s x =>
  isTrue_chain (hm := hm) ((hl s x).wp fun u s₁ y p => test_link ((h1 s₁ (x.trans y)).wp fun v s₂ z q => (t_lt_int p q).wp fun r s₃ z' e => by
    subst e
    refine t_truthy.wp fun b' s₄ z'' e' => ?_
    subst e'
    have y₄ := (y.trans z).trans (z'.trans z'')
    cases hd : decide (a < b) with
    | false => exact ⟨y₄, rfl⟩
    | true =>
      simp only [if_true]
      refine test_last ((h2 s₄ (x.trans y₄)).wp fun t s₅ z₅ q' => (t_le_int q q').wp fun r s₆ z₆ e => ?_)
      subst e
      exact T.from (y₄.trans (z₅.trans z₆)) t_truthy))
theorem ev_neg {e : PySem.Expr} {a : Int} (h : Ev prog w A s₀ env e (fun v _ => IntV v a)) : Ev prog w A s₀ env (.UnaryOp .USub e pos) (fun v _ => IntV v (-a)) := fun s x =>
  UnaryOp_ ((h s x).wp fun v s₁ y ⟨t, e⟩ => by subst e; exact P.neg_int ⟨y.trans .toks, .mk ..⟩)
/-- the last of a list of ints -/
theorem ev_lastI {value slice : PySem.Expr} {ns : List Int} (hv : Ev prog w A s₀ env value (fun v s => LI s.heap v ns)) (hi : Ev prog w A s₀ env slice (fun v _ => IntV v (-1))) (hn : ns ≠ []) (hz : ns.length < 2 ^ 60)
    (hs : ∀ l u, subscripted slice false (.ref l) (.int (-1) u) = operate [.ref l, .int (-1) u] (getItem (.ref l) (.int (-1) u)) := by intro _ _; with_unfolding_all rfl) :
    Ev prog w A s₀ env (.Subscript value slice pos) (fun v _ => IntV v (ns.getLastD 0)) :=
  ev_subs hv hi fun o i s₁ s₂ x₁ ⟨l, vs, e, hl, h⟩ x₂ hi => by
    subst e
    have hlen : vs.length = ns.length := h.length
    have hpos : 0 < ns.length := List.length_pos_iff.mpr hn
    have hx : ns[ns.length - 1]? = some (ns.getLastD 0) := by
      rw [List.getLastD_eq_getLast?, List.getLast?_eq_getElem?]
      rw [List.getElem?_eq_getElem (by omega)]
      rfl
    obtain ⟨t, e⟩ := intsAre_get h hx
    refine t_item_listneg (isList_ext hl x₂.ext) hi (by decide) (by omega) (by decide) (x := .int (ns.getLastD 0) t) ?_ ⟨t, rfl⟩ (hs l)
    rw [show ((-1 : Int) + (vs.length : Int)).toNat = ns.length - 1 by omega]
    exact e
end
/-! the first groups -/
def rawAt (script : List Int) (k : Nat) : Int := if 0 < k ∧ k ≤ script.length then script.getD (k - 1) 0 else [0, 1, 1, 0, 2, 1].getD k 0
def grpX (script : List Int) (still : List Int) (k : Nat) : Int := (rawAt script k).fmod ((still.length : Int) + 1)
def grpStill (script : List Int) (still : List Int) (k : Nat) : List Int :=
  if grpX script still k = 0 then still ++ [(k : Int)] else still.take ((still.length : Int) - grpX script still k + 1).toNat
def grpStep (script : List Int) (st : List Int × List Int) (k : Nat) : List Int × List Int := (st.1 ++ [(grpStill script st.2 k).getLastD 0], grpStill script st.2 k)
def grpRun (script : List Int) (n : Nat) : List Int × List Int := (List.range n).foldl (grpStep script) ([], [])
theorem grpRun_succ (script : List Int) (n : Nat) : grpRun script (n + 1) = grpStep script (grpRun script n) n := by
  unfold grpRun
  rw [List.range_succ, List.foldl_append]
  rfl
theorem grpX_bound (script still : List Int) (k : Nat) : 0 ≤ grpX script still k ∧ grpX script still k < (still.length : Int) + 1 := by
  unfold grpX
  have h : (0 : Int) < (still.length : Int) + 1 := by omega
  exact ⟨Int.fmod_nonneg_of_pos _ h, Int.fmod_lt_of_pos _ h⟩
theorem grpStill_ne (script still : List Int) (k : Nat) : grpStill script still k ≠ [] := by
  unfold grpStill
  split
  · simp
  · rename_i h
    have := grpX_bound script still k
    intro e
    have := congrArg List.length e
    simp only [List.length_take, List.length_nil] at this
    omega
theorem grpStill_len (script still : List Int) (k : Nat) : (grpStill script still k).length ≤ still.length + 1 := by
  unfold grpStill
  split
  · simp
  · simp only [List.length_take]; omega
theorem grpRun_len (script : List Int) : ∀ n, (grpRun script n).1.length = n ∧ (grpRun script n).2.length ≤ n
  | 0 => ⟨rfl, Nat.le_refl _⟩
  | n + 1 => by
    obtain ⟨a, b⟩ := grpRun_len script n
    rw [grpRun_succ]
    refine ⟨by simp [grpStep, a], ?_⟩
    exact Nat.le_trans (grpStill_len ..) (by omega)
end Mine
namespace Mine
theorem at_groups (w : World) : (hd.heap_39 w.params).lookup 214 = some ⟨.type "function", none, .func (fdOf w 214), #[]⟩ := by kernel_rfl
theorem bind_groups (w : World) (a b : Value) : bindArgs (fdOf w 214) ⟨[a, b], []⟩ = (pure [("script", a), ("count", b)] : Sem (List (Str × Value))) := by kernel_rfl
/-- a plain list of ints -/
def LP (h : Heap) (a : Addr) (ns : List Int) : Prop := ∃ vs, h.PlainList a (List.toArray vs) ∧ IntsAre vs ns
theorem LP.li {h : Heap} {a : Addr} {ns : List Int} (x : LP h a ns) : LI h (.ref a) ns := let ⟨vs, p, q⟩ := x; ⟨a, vs, rfl, p.isList, q⟩
theorem LP.by {h h' : Heap} {a : Addr} {ns : List Int} (x : LP h a ns) (k : ∀ o, h.get? a = some o → (∀ es n, o.data ≠ .dict es n) → (∀ v, o.data ≠ .cell v) → h'.get? a = some o) : LP h' a ns :=
  let ⟨vs, ⟨n, p⟩, q⟩ := x; ⟨vs, ⟨n, k _ p (fun es n e => by cases e) (fun v e => by cases e)⟩, q⟩
theorem LP.mono {h h' : Heap} {a : Addr} {ns : List Int} (x : LP h a ns) (k : Ext h h') : LP h' a ns := x.by fun o e _ _ => k _ _ e
theorem LP.own {h₀ h h' : Heap} {env : Env} {m cm : Str → Option Value} (F : FrC h₀ env m cm h) (k : ∀ b o, b ∉ Mine.own env → h.get? b = some o → h'.get? b = some o) {a : Addr} {ns : List Int} (x : LP h a ns) : LP h' a ns :=
  x.by fun o e hd hc => k _ _ (F.seq e hd hc).own e
theorem LP.off {h₀ h : Heap} {env : Env} {m cm : Str → Option Value} (F : FrC h₀ env m cm h) {a : Addr} {ns : List Int} (x : LP h a ns) : a ∉ Mine.own env := by
  obtain ⟨vs, ⟨n, p⟩, q⟩ := x
  exact (F.seq p (fun es n e => by cases e) (fun v e => by cases e)).own
theorem intsAre_take : ∀ {vs : List Value} {ns : List Int} (k : Nat), IntsAre vs ns → IntsAre (vs.take k) (ns.take k)
  | _, _, 0, _ => by simp; exact .nil
  | _, _, k + 1, .nil => .nil
  | _, _, k + 1, .cons i t h => .cons i t (intsAre_take k h)
theorem intsAre_drop : ∀ {vs : List Value} {ns : List Int} (k : Nat), IntsAre vs ns → IntsAre (vs.drop k) (ns.drop k)
  | _, _, 0, h => h
  | _, _, k + 1, .nil => .nil
  | _, _, k + 1, .cons i t h => intsAre_drop k h
theorem LP.get {h : Heap} {a : Addr} {ns : List Int} (x : LP h a ns) : ∃ o, h.get? a = some o := let ⟨vs, ⟨n, p⟩, _⟩ := x; ⟨_, p⟩
section
variable {prog : Program} {w : World} {A : Around} {s : Shared}
theorem t_two_lists {env : Env} {p1 p2 pos : Pos} {kk : Nat} : T prog w A (eval (.Tuple [.List [] p1, .List [] p2] kk pos) env) (fun v s' => ∃ a g l, v = .ref a ∧ IsTup s'.heap a #[.ref g, .ref l] ∧ LP s'.heap g [] ∧ LP s'.heap l [] ∧ g ≠ l ∧ s.heap.get? g = none ∧ s.heap.get? l = none) s :=
  Tuple_ (args_cons (((ev_list0 (prog := prog) (w := w) (A := A) (s₀ := s) (env := env) (pos := p1)) s (.refl _)).wp fun v s₁ y ⟨g, vs, e, h1, h2, h3⟩ => args_cons (((ev_list0 (prog := prog) (w := w) (A := A) (s₀ := s₁) (env := env) (pos := p2)) s₁ (.refl _)).wp fun v' s₂ y' ⟨l, vs', e', h1', h2', h3'⟩ => args_nil (by
    subst e e' h3 h3'
    have hgl : g ≠ l := fun q => by obtain ⟨n, h⟩ := h1; rw [q, h2'] at h; cases h
    have hl : s.heap.get? l = none := by
      cases q : s.heap.get? l with
      | none => rfl
      | some o => have := y.ext _ _ q; rw [h2'] at this; cases this
    refine wpAny_newObj_type ⟨(y.trans y').trans (sx_push _), _, g, l, rfl, IsTup.new _ _, ⟨[], (h1.at fun o e => Ext.push _ _ _ _ (y'.ext _ _ e)), .nil⟩, ⟨[], h1'.at fun o e => Ext.push _ _ _ _ e, .nil⟩, hgl, h2, hl⟩ (by show 2 ≤ sizeLine; decide))) (by rfl)) (by rfl))
theorem unpack2 {t : Addr} {x y : Value} {Q : List Value → Shared → Prop} (hh : A.handled = none) (tup : IsTup s.heap t #[x, y]) (h : ∀ s', Sx s s' → Q [x, y] s') : wpAny (model prog w) A (unpackItems (.ref t) 2 none) Q NoE s := by
  have := unpackItems_tuple (prog := prog) (w := w) (A := A) (E := NoE) (s := s) (Q := Q) hh tup fun h' hx => h _ ⟨fun b o e => hx b o (Nat.ne_of_lt (Heap.lt_size e)) e, rfl, fun _ _ e => e, id⟩
  exact this
theorem x_twoLists {env : Env} {h₀ : Heap} {m cm : Str → Option Value} {x y : Str} {p1 p2 p3 p4 p5 p6 pos : Pos} {k1 k2 : Nat} {Q : Flow → Shared → Prop} (F : FrC h₀ env m cm s.heap) (hh : A.handled = none) (hf : env.scope.kind = .function) (hx : env.kindOf x = some .local) (hy : env.kindOf y = some .local)
    (hs : swapsWithSole [.Tuple [.Name x p1, .Name y p2] k1 p3] (.Tuple [.List [] p4, .List [] p5] k2 p6) pos.line env = pure false) (hw : swappedStores [.Tuple [.Name x p1, .Name y p2] k1 p3] (.Tuple [.List [] p4, .List [] p5] k2 p6) env = pure (some [x, y]))
    (h : ∀ g l s', FrC h₀ env (upd (upd m y (.ref l)) x (.ref g)) cm s'.heap → LP s'.heap g [] → LP s'.heap l [] → g ≠ l → s.heap.get? g = none → s.heap.get? l = none → Turned (own env) s s' → Q .next s') :
    wpAny (model prog w) A (exec (.Assign [.Tuple [.Name x p1, .Name y p2] k1 p3] (.Tuple [.List [] p4, .List [] p5] k2 p6) pos) env) Q NoE s := by
  refine Assign_Tuple_swapped (names := [x, y]) (t_two_lists.wp fun v s₃ x₃ ⟨a, ga, sa, e, tup, hg, hsa, hgs, hgn, hsn⟩ => ?_) hs hw
  subst e
  refine unpack2 hh tup fun s₄ x₄ => ?_
  have F₄ := (F.ext x₃.ext).ext x₄.ext
  refine assignInOrder_cons (bindName_ (F₄.storeL hf hy fun s₅ F₅ b₅ => assignInOrder_cons (bindName_ (F₅.storeL hf hx fun s₆ F₆ b₆ => assignInOrder_nil ?_))))
  exact h ga sa s₆ F₆ (LP.own F₅ b₆.turned.keep (LP.own F₄ b₅.turned.keep (hg.mono x₄.ext))) (LP.own F₅ b₆.turned.keep (LP.own F₄ b₅.turned.keep (hsa.mono x₄.ext))) hgs hgn hsn (((x₃.trans x₄).turned.trans b₅.turned).trans b₆.turned)
theorem groups_ok (W : Wd w s.heap) (R : RoomA 3 A) {sv : Value} {script : List Int} {n : Nat} {tn : Tok} (hs : LI s.heap sv script) (hlen : script.length ≤ 1000) (hn : n ≤ 6) :
    T prog w A (call (.ref 214) [sv, .int n tn]) (fun v s' => LI s'.heap v (grpRun script n).1) s := by
  refine fn_enter (s₁ := s) (body := bodyOf (fdOf w 214)) (bs := [("script", sv), ("count", .int n tn)]) R.depth (W.K _ _ (at_groups w)) rfl (by kernel_rfl) (codeRec_of' W (by kernel_rfl)) W.lim (by kernel_rfl) (by kernel_rfl) (by kernel_rfl) (by kernel_rfl)
    (by rw [bind_groups]; exact wpAny_pure ⟨rfl, rfl⟩) (.refl _) (fun n x hx => .inl ?_) fun s₂ F sx => ?_
  · simp only [List.mem_cons, List.mem_nil_iff, or_false] at hx
    rcases hx with rfl | rfl <;> kernel_rfl
  have W₂ := W.mono sx.ext
  generalize hL : s.heap.objs.size = L at F ⊢
  have ms : bindL (callEnvC (fdOf w 214) L 214).kindOf [("script", sv), ("count", .int n tn)] (fun _ => none) "script" = some sv := by kernel_rfl
  have mc : bindL (callEnvC (fdOf w 214) L 214).kindOf [("script", sv), ("count", .int n tn)] (fun _ => none) "count" = some (.int n tn) := by kernel_rfl
  generalize bindL (callEnvC (fdOf w 214) L 214).kindOf [("script", sv), ("count", .int n tn)] (fun _ => none) = m₀ at F ms mc
  generalize bindC (callEnvC (fdOf w 214) L 214).kindOf [("script", sv), ("count", .int n tn)] (fun _ => none) = cm₀ at F
  generalize henv : callEnvC (fdOf w 214) L 214 = env at F ⊢
  have G : GEnv env := by subst henv; exact ⟨by kernel_rfl, by kernel_rfl, by kernel_rfl⟩
  have hf := G.k
  have hown : Mine.own env = [env.locals] := by subst henv; kernel_rfl
  have ksc : env.kindOf "script" = some .local := by subst henv; kernel_rfl
  have kco : env.kindOf "count" = some .local := by subst henv; kernel_rfl
  have kg : env.kindOf "groups" = some .local := by subst henv; kernel_rfl
  have kst : env.kindOf "still" = some .local := by subst henv; kernel_rfl
  have kk : env.kindOf "k" = some .local := by subst henv; kernel_rfl
  have kx : env.kindOf "x" = some .local := by subst henv; kernel_rfl
  have kr : env.kindOf "range" = some .globalImplicit := by subst henv; kernel_rfl
  have kle : env.kindOf "len" = some .globalImplicit := by subst henv; kernel_rfl
  have RD : RoomA 2 (A.deeper env) := R.deeper
  have n1 : ∀ {a b : Str}, a ≠ b → ∀ {m : Str → Option Value} {v r : Value}, m a = some r → upd m b v a = some r := fun h _ _ _ e => by rw [upd_ne h]; exact e
  refine wpAny_execs_cons (x_twoLists F R.hh hf kg kst (by subst henv; kernel_rfl) (by subst henv; kernel_rfl) fun ga sa s₆ F₆ hg₆ hsa₆ hgs hgn hsn t₆ => ?_)
  have W₆ := W.mono F₆.keep
  have old : ∀ b, s₂.heap.get? b = none → s.heap.get? b = none := fun b hb => by
    cases q : s.heap.get? b with
    | none => rfl
    | some o => have := sx.ext _ _ q; rw [hb] at this; cases this
  have old : ∀ b, s₂.heap.get? b = none → s.heap.get? b = none := fun b hb => by
    cases q : s.heap.get? b with
    | none => rfl
    | some o => have := sx.ext _ _ q; rw [hb] at this; cases this
  have ext0 : ∀ b ∈ own env ++ [ga, sa], (∃ o, s₆.heap.get? b = some o) ∧ b ∉ ([] : List Addr) := fun b hb => ⟨by
    rcases List.mem_append.mp hb with hb | hb
    · exact F₆.own_alive b hb
    · simp at hb
      rcases hb with rfl | rfl
      · obtain ⟨vs, ⟨n, h⟩, _⟩ := hg₆; exact ⟨_, h⟩
      · obtain ⟨vs, ⟨n, h⟩, _⟩ := hsa₆; exact ⟨_, h⟩, by simp⟩
  have toBx : ∀ s', Turned (own env ++ [ga, sa]) s₆ s' → Bx env s₂ s' := fun s' t =>
    ⟨fun b o hb e => t.keep b o (fun q => by
      rcases List.mem_append.mp q with q | q
      · exact hb.own q
      · simp at q
        rcases q with q | q
        · rw [q, hgn] at e; cases e
        · rw [q, hsn] at e; cases e) (t₆.keep b o hb.own e), t.os.trans t₆.os, fun i g e => t.gens i g (t₆.gens i g e), fun q => t.bare (t₆.bare q)⟩
  refine wpAny_execs_cons (x_forF2 F₆ [ga, sa] (fun i m cm s' => ∃ l, m "script" = some sv ∧ m "count" = some (.int n tn) ∧ m "groups" = some (.ref ga) ∧ m "still" = some (.ref l) ∧ LP s'.heap ga (grpRun script i).1 ∧ LP s'.heap l (grpRun script i).2 ∧ l ≠ ga ∧ (l = sa ∨ s₆.heap.get? l = none) ∧ s.heap.get? l = none)
    (n := n) (ext := []) (evi_range1 R.hh (W₆.blt G kr (n_range w) b_range (by decide)) (ev_nameP (F₆.bndL (n1 (by decide +kernel) (n1 (by decide +kernel) mc)) hf kco) fun _ _ => .mk ..) (by omega)) ext0 (fun b hb => by cases hb) ?_ ?_ ?_ ?_)
  · intro i m cm a b ⟨l, h1, h2, h3, h4, h5, h6, h7, h8, h9⟩ k
    have byk : ∀ {l ns}, LP a.heap l ns → LP b.heap l ns := fun x => by
      obtain ⟨vs, ⟨n, p⟩, q⟩ := x
      exact ⟨vs, ⟨n, k.nf _ _ p (fun vs e => by cases e)⟩, q⟩
    exact ⟨l, h1, h2, h3, h4, byk h5, byk h6, h7, h8, h9⟩
  · intro s' x'
    exact ⟨sa, n1 (by decide +kernel) (n1 (by decide +kernel) ms), n1 (by decide +kernel) (n1 (by decide +kernel) mc), upd_eq, n1 (by decide +kernel) upd_eq, hg₆.mono x'.ext, hsa₆.mono x'.ext, hgs.symm, .inl rfl, old _ hsn⟩
  · intro i v s₁ m₁ cm₁ hi ⟨tk, hv⟩ F₁ ⟨l, h1, h2, h3, h4, h5, h6, h7, h8, h9⟩ t₁
    subst hv
    have i6 : i < 6 := by omega
    obtain ⟨hlen1, hlen2⟩ := grpRun_len script i
    have hsucc := grpRun_succ script i
    generalize hgr : grpRun script i = st at h5 h6 hlen1 hlen2 hsucc
    obtain ⟨gr, stl⟩ := st
    have hst2 : stl.length ≤ i := hlen2
    have hst1 : gr.length = i := hlen1
    rw [hsucc]
    refine a_name F₁ hf kk fun s₂' F₂ t₂ => ?_
    have g2 := LP.own F₁ t₂.keep h5
    have l2 := LP.own F₁ t₂.keep h6
    have W₂' := W.mono F₂.keep
    have bk : Bnd prog w (A.deeper env) env s₂'.heap "k" (.int i tk) := F₂.bndL upd_eq hf kk
    have bs : Bnd prog w (A.deeper env) env s₂'.heap "script" sv := F₂.bndL (n1 (by decide +kernel) h1) hf ksc
    have bst : Bnd prog w (A.deeper env) env s₂'.heap "still" (.ref l) := F₂.bndL (n1 (by decide +kernel) h4) hf kst
    have blen : Bnd prog w (A.deeper env) env s₂'.heap "len" (.builtin "len") := W₂'.blt G kle (n_len w) b_len (by decide)
    have scr : ∀ {p}, Ev prog w (A.deeper env) s₂' env (.Name "script" p) (fun v s => LI s.heap v script) := fun {p} => ev_nameP bs fun s y => hs.mono (F₂.keep.trans y.ext)
    have ek : ∀ {p}, Ev prog w (A.deeper env) s₂' env (.Name "k" p) (fun v _ => IntV v i) := fun {p} => ev_nameP bk fun _ _ => .mk ..
    have est : ∀ {p}, Ev prog w (A.deeper env) s₂' env (.Name "still" p) (fun v s => LI s.heap v stl) := fun {p} => ev_nameP bst fun s y => (l2.mono y.ext).li
    have big : (1000 : Nat) < 2 ^ 60 := by decide
    refine wpAny_execs_cons (x_assignL F₂ (ev_mod (a := rawAt script i) (b := (stl.length : Int) + 1) (ev_ifexp (c := decide ((0 : Int) < (i : Int)) && decide ((i : Int) ≤ (script.length : Int))) (evb_chain ev_int ek (ev_lenI blen scr (by omega))) (fun hc => ?_) (fun hc => ?_)) (ev_add (ev_lenI blen est (by omega)) ev_int) (by omega)) hf kx (fun v s₃ s₄ x₃ ⟨tx, e⟩ F₄ b₄ => ?_) (by subst henv; rfl))
    · have hc' : 0 < i ∧ i ≤ script.length := by simpa using hc
      refine ev_itemI (k := (i : Int) - 1) scr (ev_sub ek ev_int) (by omega) ?_ (by omega)
      rw [show ((i : Int) - 1).toNat = i - 1 by omega]
      unfold rawAt
      rw [if_pos hc', List.getD_eq_getElem?_getD, List.getElem?_eq_getElem (by omega)]
      rfl
    · have hc' : ¬(0 < i ∧ i ≤ script.length) := by simpa using hc
      refine ev_itemI (ns := [0, 1, 1, 0, 2, 1]) (k := (i : Int)) (Ev.mono (ev_list_ints (.cons ev_int (by rfl) (.cons ev_int (by rfl) (.cons ev_int (by rfl) (.cons ev_int (by rfl) (.cons ev_int (by rfl) (.cons ev_int (by rfl) .nil)))))) (by decide)) fun v s y h => h.li) ek (by omega) ?_ (by decide)
      rw [show ((i : Int)).toNat = i by omega]
      unfold rawAt
      rw [if_neg hc', List.getD_eq_getElem?_getD, List.getElem?_eq_getElem (by simp; omega)]
      rfl
    subst e
    have g4 : LP s₄.heap ga gr := LP.own (F₂.ext x₃.ext) b₄.turned.keep (g2.mono x₃.ext)
    have l4 : LP s₄.heap l stl := LP.own (F₂.ext x₃.ext) b₄.turned.keep (l2.mono x₃.ext)
    have t₄ : TF s₆ (own env ++ [ga, sa]) s₁ s₄ := (t₂.trans (x₃.turned.trans b₄.turned)).tf fun b hb => .inl (List.mem_append.mpr (.inl hb))
    have hX : (rawAt script i).fmod ((stl.length : Int) + 1) = grpX script stl i := rfl
    rw [hX] at F₄
    have hXb := grpX_bound script stl i
    have mx : upd (upd m₁ "k" (.int i tk)) "x" (.int (grpX script stl i) tx) "x" = some (.int (grpX script stl i) tx) := upd_eq
    have keepN : ∀ {y : Str} {r : Value}, y ≠ "k" → y ≠ "x" → m₁ y = some r → upd (upd m₁ "k" (.int i tk)) "x" (.int (grpX script stl i) tx) y = some r := fun a b e => n1 b (n1 a e)
    have bst4 : Bnd prog w (A.deeper env) env s₄.heap "still" (.ref l) := F₄.bndL (keepN (by decide +kernel) (by decide +kernel) h4) hf kst
    have W₄ := W.mono F₄.keep
    refine wpAny_execs_cons (wpAny_mono (Q := fun f s₅ => f = .next ∧ ∃ l' m₅, FrC s.heap env m₅ cm₁ s₅.heap ∧ m₅ "script" = some sv ∧ m₅ "count" = some (.int n tn) ∧ m₅ "groups" = some (.ref ga) ∧ m₅ "still" = some (.ref l') ∧ LP s₅.heap ga gr ∧ LP s₅.heap l' (grpStill script stl i) ∧ l' ≠ ga ∧ (l' = sa ∨ s₆.heap.get? l' = none) ∧ s.heap.get? l' = none ∧ TF s₆ (own env ++ [ga, sa]) s₁ s₅) (x_if (b := grpX script stl i == 0) ?_ (fun hx0 s₅ x₅ => ?_) (fun hx0 s₅ x₅ => ?_)) (fun f s₅ hmid => ?_) fun _ _ f => f)
    · exact evb_eq_int (ev_nameP (F₄.bndL mx hf kx) fun _ _ => .mk ..) ev_int
    · have hx0' : grpX script stl i = 0 := by simpa using hx0
      have F₅ := F₄.ext x₅.ext
      obtain ⟨lvs, lp, li⟩ := l4.mono x₅.ext
      refine wpAny_execs_cons (x_append (P := fun v _ => v = .int i tk) (ev_name (bst4.mono x₅.ext)) lp (ev_name (F₅.bndL (n1 (by decide +kernel) upd_eq) hf kk)) (by rw [li.length]; omega) (fun v s₆' h₇ x₆ e pl sbut => ?_) (by rfl) (by subst henv; rfl) (by subst henv; rfl))
      subst e
      have F₆' := F₅.ext x₆.ext
      have hlo : l ∉ own env := LP.off F₄ l4
      refine wpAny_execs_nil ⟨rfl, l, _, F₆'.by (X := [l]) (fun d hd => by rw [List.mem_singleton] at hd; rw [hd]; exact ⟨hlo, h9⟩) (fun b o hb e => sbut.extBut b o (by simpa using hb) e), keepN (by decide +kernel) (by decide +kernel) h1, keepN (by decide +kernel) (by decide +kernel) h2, keepN (by decide +kernel) (by decide +kernel) h3, keepN (by decide +kernel) (by decide +kernel) h4, ?_, ?_, h7, h8, h9, ?_⟩
      · exact (g4.mono (x₅.trans x₆).ext).by fun o e _ _ => sbut.extBut _ _ (Ne.symm h7) e
      · refine ⟨_, pl, ?_⟩
        unfold grpStill
        rw [if_pos hx0']
        exact li.append (.cons _ _ .nil)
      · refine t₄.trans (((x₅.trans x₆).turned (wr := [])).tf (fun b hb => by cases hb) |>.trans (Turned.tf (X := [l]) ⟨fun b o hb e => sbut.extBut b o (by simpa using hb) e, rfl, fun _ _ e => e, id⟩ fun b hb => ?_))
        rw [List.mem_singleton] at hb
        rw [hb]
        exact h8.imp (fun q => by rw [q]; simp) fun q => ⟨q, fun o vs e => by obtain ⟨n', p⟩ := lp.at fun o e => x₆.ext _ _ e; rw [p] at e; cases e; exact fun e => by cases e⟩
    · have hx0' : grpX script stl i ≠ 0 := by simpa using hx0
      have F₅ := F₄.ext x₅.ext
      have l5 := l4.mono x₅.ext
      obtain ⟨lvs, lp, li⟩ := id l5
      have blen5 : Bnd prog w (A.deeper env) env s₅.heap "len" (.builtin "len") := (W₄.mono x₅.ext).blt G kle (n_len w) b_len (by decide)
      have hu : ((stl.length : Int) - grpX script stl i + 1) = ((((stl.length : Int) - grpX script stl i + 1).toNat : Nat) : Int) := by omega
      have k1000 : 1000 ≤ sizeLine := by decide
      have hsz : lvs.length ≤ sizeLine := by rw [li.length]; omega
      refine wpAny_execs_cons (x_assignL (P := fun v s => ∃ l', v = .ref l' ∧ LP s.heap l' (grpStill script stl i) ∧ s₅.heap.get? l' = none) F₅ (ev_slice (vs := lvs) (lo := none) (hi := some ((((stl.length : Int) - grpX script stl i + 1).toNat : Nat) : Int)) (ev_nameP (bst4.mono x₅.ext) fun s y => ⟨l, rfl, isList_ext lp.isList y.ext⟩) (fun s _ => part_none)
        (fun s y => part_some (k := ((((stl.length : Int) - grpX script stl i + 1).toNat : Nat) : Int)) ?_ y) hsz (fun a' s y hn' pl => ⟨a', rfl, ?_, hn'⟩)) hf kst (fun v s₆' s₇ x₆ ⟨l', e, lp', hln⟩ F₇ b₇ => ?_) (by subst henv; rfl))
      · rw [← hu]
        exact ev_add (ev_sub (ev_lenI blen5 (ev_nameP (bst4.mono x₅.ext) fun s y => (l5.mono y.ext).li) (by omega)) (ev_nameP (F₅.bndL mx hf kx) fun _ _ => .mk ..)) ev_int
      · refine ⟨_, by rw [slicePick_upto _ _ (by rw [List.size_toArray, li.length]; omega)] at pl; exact pl, ?_⟩
        unfold grpStill
        rw [if_neg hx0']
        exact intsAre_take _ li
      subst e
      have F₆' := F₅.ext x₆.ext
      have hnew : ∀ b o, s₅.heap.get? b = some o → b ≠ l' := fun b o q e => by rw [e, hln] at q; cases q
      refine wpAny_execs_nil ⟨rfl, l', _, F₇, n1 (by decide +kernel) (keepN (by decide +kernel) (by decide +kernel) h1), n1 (by decide +kernel) (keepN (by decide +kernel) (by decide +kernel) h2), n1 (by decide +kernel) (keepN (by decide +kernel) (by decide +kernel) h3), upd_eq,
        LP.own F₆' b₇.turned.keep (g4.mono (x₅.trans x₆).ext), LP.own F₆' b₇.turned.keep lp', ?_, ?_, ?_, t₄.trans ((((x₅.trans x₆).turned (wr := own env)).trans b₇.turned).tf fun b hb => .inl (List.mem_append.mpr (.inl hb)))⟩
      · intro q
        obtain ⟨o, h⟩ := (g4.mono x₅.ext).get
        exact hnew _ _ h q.symm
      · cases q : s₆.heap.get? l' with
        | none => exact .inr rfl
        | some o =>
          refine .inl ?_
          by_cases hm : l' ∈ own env ++ [ga, sa]
          · rcases List.mem_append.mp hm with hm | hm
            · obtain ⟨o', h⟩ := F₅.own_alive _ hm
              exact absurd rfl (hnew _ _ h)
            · simp only [List.mem_cons, List.mem_nil_iff, or_false] at hm
              rcases hm with hm | hm
              · obtain ⟨o', h⟩ := (g4.mono x₅.ext).get
                exact absurd hm.symm (hnew _ _ h)
              · exact hm
          · have := x₅.ext _ _ ((t₁.then t₄).keep _ _ hm q)
            exact absurd rfl (hnew _ _ this)
      · cases q : s.heap.get? l' with
        | none => rfl
        | some o => have := F₅.keep _ _ q; rw [hln] at this; cases this
    · obtain ⟨rfl, l', m₅, F₅, e1, e2, e3, e4, g5, l5, e7, e8, e9, t₅⟩ := hmid
      obtain ⟨gvs, gp, gi⟩ := id g5
      refine wpAny_execs_cons (x_append (P := fun v _ => IntV v ((grpStill script stl i).getLastD 0)) (ev_name (F₅.bndL e3 hf kg)) gp (ev_lastI (ev_nameP (F₅.bndL e4 hf kst) fun s y => (l5.mono y.ext).li) (ev_neg ev_int) (grpStill_ne script stl i) (by have := grpStill_len script stl i; omega)) (by rw [gi.length]; omega) (fun v s₆' h₇ x₆ e pl sbut => ?_) (by rfl) (by subst henv; rfl) (by subst henv; rfl))
      obtain ⟨tv, rfl⟩ := e
      have F₆' := F₅.ext x₆.ext
      have hgo : ga ∉ own env := LP.off F₅ g5
      have hg0 : s.heap.get? ga = none := old _ hgn
      refine wpAny_execs_nil ⟨_, _, F₆'.by (X := [ga]) (fun d hd => by rw [List.mem_singleton] at hd; rw [hd]; exact ⟨hgo, hg0⟩) (fun b o hb e => sbut.extBut b o (by simpa using hb) e), ⟨l', e1, e2, e3, e4, ?_, ?_, e7, e8, e9⟩, ?_⟩
      · exact ⟨_, pl, gi.append (.cons _ _ .nil)⟩
      · exact (l5.mono x₆.ext).by fun o e _ _ => sbut.extBut _ _ e7 e
      · refine t₅.trans ((x₆.turned (wr := [])).tf (fun b hb => by cases hb) |>.trans (Turned.tf (X := [ga]) ⟨fun b o hb e => sbut.extBut b o (by simpa using hb) e, rfl, fun _ _ e => e, id⟩ fun b hb => ?_))
        rw [List.mem_singleton] at hb
        rw [hb]
        exact .inl (by simp)
  · intro s' m' cm' F' ⟨l, h1, h2, h3, h4, h5, _⟩ t'
    refine wpAny_execs_cons (x_ret (ev_name (F'.bndL h3 hf kg)) fun v s₇ x₇ e => ?_)
    subst e
    exact ⟨⟨_, _, F'.ext x₇.ext⟩, toBx _ (t'.trans x₇.turned), (h5.mono x₇.ext).li⟩
end
end Mine
namespace Mine
def turnedOf (first : List Int) (r : Nat) : List Int := (List.range first.length).map fun k => first.getD ((k + r / 2) % first.length) 0
def rowsBy (n : Nat) (p : Nat → Nat → Bool) : List (List Int) := (List.range n).map fun j => ((List.range j).filter fun i => p i j).map fun (i : Nat) => (i : Int)
def innerL (t : List Int) (i j : Nat) : List Int := ((t.drop (i + 1)).take (j + 1 - (i + 1))).filter fun x => (t.take (i + 1) ++ t.drop (j + 1)).any (· == x)
def alikeRows (first : List Int) (r : Nat) : List (List Int) :=
  if r % 2 = 0 then rowsBy first.length fun i j => (turnedOf first r).getD i 0 == (turnedOf first r).getD j 0
  else rowsBy first.length fun i j => (innerL (turnedOf first r) i j).isEmpty
/-- a list of lists of ints -/
def LLI (h : Heap) (v : Value) (rows : List (List Int)) : Prop := ∃ a vs, v = .ref a ∧ h.IsList a (List.toArray vs) ∧ PySem.Paired (fun row y => LI h y row) rows vs
theorem LLI.mono {h h' : Heap} {v : Value} {rows : List (List Int)} (x : LLI h v rows) (e : Ext h h') : LLI h' v rows := let ⟨a, vs, p, q, r⟩ := x; ⟨a, vs, p, isList_ext q e, Paired.mono' (fun _ _ h => h.mono e) r⟩
theorem paired_map {α β γ : Type} {F : β → γ → Prop} {g : α → β} : ∀ {l : List α} {ys : List γ}, PySem.Paired (fun i y => F (g i) y) l ys → PySem.Paired F (l.map g) ys
  | _, _, .nil => .nil
  | _, _, .cons h t => .cons h (paired_map t)
theorem compV_ints {s₀ s : Shared} {n : Nat} {p : Nat → Bool} {g : Nat → Int} {v : Value} (h : CompV s₀ n p (fun i y _ _ => IntV y (g i)) v s) : LI s.heap v (((List.range n).filter p).map g) := by
  obtain ⟨a, ys, e, l, _, pr⟩ := h
  exact ⟨a, ys, e, l, intsAre_of_paired (Paired.mono' (fun i y ⟨_, _, h⟩ => h) pr)⟩
/-- a row that is new -/
def RowF (g : Nat → List Int) (i : Nat) (y : Value) (h₁ h' : Heap) : Prop := ∃ a vs, y = .ref a ∧ h'.IsList a (List.toArray vs) ∧ h₁.get? a = none ∧ IntsAre vs (g i)
theorem rowF_fresh (g : Nat → List Int) : FreshF (RowF g) := fun i y h₁ h' h'' ⟨a, vs, e, ⟨o, l1, l2⟩, hn, q⟩ k => ⟨a, vs, e, ⟨o, k a o hn l1, l2⟩, hn, q⟩
theorem compV_rows {s₀ s : Shared} {n : Nat} {g : Nat → List Int} {v : Value} (h : CompV s₀ n (fun _ => true) (RowF g) v s) : LLI s.heap v ((List.range n).map g) := by
  obtain ⟨a, ys, e, l, _, pr⟩ := h
  rw [List.filter_eq_self.mpr (fun _ _ => rfl)] at pr
  exact ⟨a, ys, e, l, paired_map (Paired.mono' (fun i y ⟨_, _, b, vs, e, l, _, q⟩ => ⟨b, vs, e, l, q⟩) pr)⟩
theorem compV_row {s₀ s : Shared} {n i : Nat} {p : Nat → Bool} {g : Nat → Int} {G : Nat → List Int} {v : Value} (h : CompV s₀ n p (fun i y _ _ => IntV y (g i)) v s) (hG : G i = ((List.range n).filter p).map g) : RowF G i v s₀.heap s.heap := by
  obtain ⟨a, ys, e, l, hn, pr⟩ := h
  exact ⟨a, ys, e, l, hn, by rw [hG]; exact intsAre_of_paired (Paired.mono' (fun i y ⟨_, _, h⟩ => h) pr)⟩
theorem rds_rows {s : Shared} {v : Value} {rows : List (List Int)} (h : LLI s.heap v rows) : Rds v (dRows rows) s := by
  obtain ⟨a, vs, rfl, ⟨o, h1, h2, n, h3⟩, hp⟩ := h
  have : ∀ {rows : List (List Int)} {vs : List Value}, PySem.Paired (fun row y => LI s.heap y row) rows vs → ∃ as, ReadsAll s.heap vs (rows.map dInts) as := by
    intro rows vs h
    induction h with
    | nil => exact ⟨_, .nil⟩
    | cons h _ ih =>
      obtain ⟨as, q⟩ := rds_ints h
      obtain ⟨bs, r⟩ := ih
      exact ⟨_, .cons q r⟩
  obtain ⟨as, q⟩ := this hp
  exact ⟨_, .list h1 h2 h3 (by simpa using q)⟩
theorem at_alike (w : World) : (hd.heap_39 w.params).lookup 219 = some ⟨.type "function", none, .func (fdOf w 219), #[]⟩ := by kernel_rfl
theorem bind_alike (w : World) (a b : Value) : bindArgs (fdOf w 219) ⟨[a, b], []⟩ = (pure [("first", a), ("rounds", b)] : Sem (List (Str × Value))) := by kernel_rfl
theorem idx_mod (k r n : Nat) : ((k : Int) + (r : Int).fdiv 2).fmod (n : Int) = (((k + r / 2) % n : Nat) : Int) := by
  rw [Int.fdiv_eq_ediv_of_nonneg _ (by decide), Int.fmod_eq_emod_of_nonneg _ (by omega)]
  norm_cast
section
variable {prog : Program} {w : World} {A : Around} {s₀ s : Shared} {env : Env} {pos p : Pos}
theorem fitL {vs : List Value} {ns : List Int} (hi : IntsAre vs ns) (hz : ns.length ≤ 1000) : vs.length ≤ sizeLine := by
  rw [hi.length]
  exact Nat.le_trans hz (by decide)
theorem ev_slice_run {value lower upper : PySem.Expr} {la : Addr} {vs : List Value} {ns : List Int} {a b : Nat} (hv : Ev prog w A s₀ env value (fun v s => v = .ref la ∧ s.heap.IsList la vs.toArray)) (hi : IntsAre vs ns) (hl : Ev prog w A s₀ env lower (fun v _ => IntV v (a : Int))) (hu : Ev prog w A s₀ env upper (fun v _ => IntV v (b : Int)))
    (hab : a ≤ b) (hb : b ≤ ns.length) (hz : ns.length ≤ 1000) (ht : ∀ o r, letTemporaryGo value o r = Pure.pure () := by intro _ _; rfl) : Ev prog w A s₀ env (.Subscript value (.Slice (some lower) (some upper) none p) pos) (fun v s => LI s.heap v ((ns.drop a).take (b - a))) :=
  ev_slice (vs := vs) (lo := some (a : Int)) (hi := some (b : Int)) (Ev.mono hv fun v s y ⟨e, l⟩ => ⟨la, e, l⟩) (fun s y => part_some hl y) (fun s y => part_some hu y) (fitL hi hz)
    (fun a' s y hn pl => by
      rw [slicePick_run _ _ _ (by rw [List.size_toArray, hi.length]; exact hb) hab] at pl
      exact ⟨a', _, rfl, pl.isList, intsAre_take _ (intsAre_drop _ hi)⟩) ht
theorem ev_slice_upto {value upper : PySem.Expr} {la : Addr} {vs : List Value} {ns : List Int} {b : Nat} (hv : Ev prog w A s₀ env value (fun v s => v = .ref la ∧ s.heap.IsList la vs.toArray)) (hi : IntsAre vs ns) (hu : Ev prog w A s₀ env upper (fun v _ => IntV v (b : Int)))
    (hb : b ≤ ns.length) (hz : ns.length ≤ 1000) (ht : ∀ o r, letTemporaryGo value o r = Pure.pure () := by intro _ _; rfl) : Ev prog w A s₀ env (.Subscript value (.Slice none (some upper) none p) pos) (fun v s => LI s.heap v (ns.take b)) :=
  ev_slice (vs := vs) (lo := none) (hi := some (b : Int)) (Ev.mono hv fun v s y ⟨e, l⟩ => ⟨la, e, l⟩) (fun s y => part_none) (fun s y => part_some hu y) (fitL hi hz)
    (fun a' s y hn pl => by
      rw [slicePick_upto _ _ (by rw [List.size_toArray, hi.length]; exact hb)] at pl
      exact ⟨a', _, rfl, pl.isList, intsAre_take _ hi⟩) ht
theorem ev_slice_from {value lower : PySem.Expr} {la : Addr} {vs : List Value} {ns : List Int} {a : Nat} (hv : Ev prog w A s₀ env value (fun v s => v = .ref la ∧ s.heap.IsList la vs.toArray)) (hi : IntsAre vs ns) (hl : Ev prog w A s₀ env lower (fun v _ => IntV v (a : Int)))
    (ha : a ≤ ns.length) (hz : ns.length ≤ 1000) (ht : ∀ o r, letTemporaryGo value o r = Pure.pure () := by intro _ _; rfl) : Ev prog w A s₀ env (.Subscript value (.Slice (some lower) none none p) pos) (fun v s => LI s.heap v (ns.drop a)) :=
  ev_slice (vs := vs) (lo := some (a : Int)) (hi := none) (Ev.mono hv fun v s y ⟨e, l⟩ => ⟨la, e, l⟩) (fun s y => part_some hl y) (fun s y => part_none) (fitL hi hz)
    (fun a' s y hn pl => by
      rw [slicePick_from _ _ (by rw [List.size_toArray, hi.length]; exact ha)] at pl
      exact ⟨a', _, rfl, pl.isList, intsAre_drop _ hi⟩) ht
theorem rds_mono {d : PyData} (v : Value) (s s' : Shared) (x : Sx s s') (h : Rds v d s) : Rds v d s' := let ⟨as, r⟩ := h; ⟨as, Reads.keeps x.ext r⟩
end
section
variable {prog : Program} {w : World} {A : Around} {s : Shared}
theorem alike_ok (W : Wd w s.heap) (R : RoomA 3 A) {fv : Value} {first : List Int} {r : Nat} {tr : Tok} (hfi : LI s.heap fv first) (hlen : first.length ≤ 6) (hpos : 0 < first.length) (hr : r ≤ 10) :
    T prog w A (call (.ref 219) [fv, .int r tr]) (fun v s' => LLI s'.heap v (alikeRows first r)) s := by
  refine fn_enter (s₁ := s) (body := bodyOf (fdOf w 219)) (bs := [("first", fv), ("rounds", .int r tr)]) R.depth (W.K _ _ (at_alike w)) rfl (by kernel_rfl) (codeRec_of' W (by kernel_rfl)) W.lim (by kernel_rfl) (by kernel_rfl) (by kernel_rfl) (by kernel_rfl)
    (by rw [bind_alike]; exact wpAny_pure ⟨rfl, rfl⟩) (.refl _) (fun n x hx => .inr ?_) fun s₂ F sx => ?_
  · simp only [List.mem_cons, List.mem_nil_iff, or_false] at hx
    rcases hx with rfl | rfl <;> exact ⟨by kernel_rfl, by kernel_rfl⟩
  have W₂ := W.mono sx.ext
  generalize hL : s.heap.objs.size = L at F ⊢
  have mf : bindC (callEnvC (fdOf w 219) L 219).kindOf [("first", fv), ("rounds", .int r tr)] (fun _ => none) "first" = some fv := by kernel_rfl
  have mr : bindC (callEnvC (fdOf w 219) L 219).kindOf [("first", fv), ("rounds", .int r tr)] (fun _ => none) "rounds" = some (.int r tr) := by kernel_rfl
  generalize bindL (callEnvC (fdOf w 219) L 219).kindOf [("first", fv), ("rounds", .int r tr)] (fun _ => none) = m₀ at F
  generalize bindC (callEnvC (fdOf w 219) L 219).kindOf [("first", fv), ("rounds", .int r tr)] (fun _ => none) = cm₀ at F mf mr
  generalize henv : callEnvC (fdOf w 219) L 219 = env at F ⊢
  have G : GEnv env := by subst henv; exact ⟨by kernel_rfl, by kernel_rfl, by kernel_rfl⟩
  have hf := G.k
  have kfi : env.kindOf "first" = some .cell := by subst henv; kernel_rfl
  have kro : env.kindOf "rounds" = some .cell := by subst henv; kernel_rfl
  have kco : env.kindOf "count" = some .cell := by subst henv; kernel_rfl
  have ktu : env.kindOf "turned" = some .cell := by subst henv; kernel_rfl
  have kr : env.kindOf "range" = some .globalImplicit := by subst henv; kernel_rfl
  have kle : env.kindOf "len" = some .globalImplicit := by subst henv; kernel_rfl
  have cfi : env.cells.lookup ("first" : Str) = some (L + 1) := by subst henv; kernel_rfl
  have cro : env.cells.lookup ("rounds" : Str) = some (L + 2) := by subst henv; kernel_rfl
  have cco : env.cells.lookup ("count" : Str) = some (L + 3) := by subst henv; kernel_rfl
  have ctu : env.cells.lookup ("turned" : Str) = some (L + 4) := by subst henv; kernel_rfl
  have RD : RoomA 2 (A.deeper env) := R.deeper
  have n1 : ∀ {a b : Str}, a ≠ b → ∀ {m : Str → Option Value} {v r : Value}, m a = some r → upd m b v a = some r := fun h _ _ _ e => by rw [upd_ne h]; exact e
  have efi : ∀ {s' : Shared} {cm : Str → Option Value} {m : Str → Option Value} {p}, FrC s.heap env m cm s'.heap → cm "first" = some fv → Ev prog w (A.deeper env) s' env (.Name "first" p) (fun v s => LI s.heap v first) := fun F' e => ev_nameP (F'.bndC e hf kfi cfi) fun s y => hfi.mono (F'.keep.trans y.ext)
  refine wpAny_execs_cons (x_assignC F (ev_lenI (W₂.blt G kle (n_len w) b_len (by decide)) (efi F mf) (by omega)) hf kco cco (fun v s₃ s₄ x₃ ⟨tc, e⟩ F₄ b₄ => ?_) (by subst henv; rfl))
  subst e
  have W₄ := W.mono F₄.keep
  have mf₄ : upd cm₀ "count" (.int first.length tc) "first" = some fv := n1 (by decide +kernel) mf
  have mr₄ : upd cm₀ "count" (.int first.length tc) "rounds" = some (.int r tr) := n1 (by decide +kernel) mr
  have mc₄ : upd cm₀ "count" (.int first.length tc) "count" = some (.int first.length tc) := upd_eq
  generalize upd cm₀ "count" (.int first.length tc) = cm₁ at F₄ mf₄ mr₄ mc₄
  have big : 1000 ≤ sizeLine := by decide
  refine wpAny_execs_cons (x_assignC (P := fun v s => LI s.heap v (turnedOf first r)) F₄ (Ev.mono (ev_comp_core (n := first.length) (P := fun i v => IntV v (i : Int)) (cl := [("rounds", L + 2), ("first", L + 1), ("count", L + 3)]) (x := "k") (fun _ => true) (fun i y _ _ => IntV y (first.getD ((i + r / 2) % first.length) 0)) (fun i y h₁ h' h'' q _ => q) (fun _ => [("rounds", L + 2), ("first", L + 1), ("count", L + 3)])
    (.inl ⟨fun _ => rfl, fun _ => rfl, fun _ => rfl, by decide +kernel⟩) ⟨_, rfl⟩ (by subst henv; kernel_rfl) rfl (by decide +kernel) (EvI.x (evi_range1 RD.hh (W₄.blt G kr (n_range w) b_range (by decide)) (ev_nameP (F₄.bndC mc₄ hf kco cco) fun _ _ => .mk ..) (by omega))) (by omega) (by intro _; rfl) ?_) fun v s' y cv => ?_) hf ktu ctu (fun v s₅ s₆ x₅ htu F₆ b₆ => ?_) (by subst henv; kernel_rfl))
  · intro C c' i v s₁ hi hv x₁ hb
    generalize hce : compEnvC { kind := ScopeKind.function, names := [(".0", NameKind.local), ("k", NameKind.local), ("count", NameKind.free), ("first", NameKind.free), ("rounds", NameKind.free)], isGenerator := false, isCoroutine := false } [("rounds", L + 2), ("first", L + 1), ("count", L + 3)] C env = ce at hb ⊢
    have hcf : ce.scope.kind = .function := by subst hce; kernel_rfl
    have cell : ∀ {x : Str} {c : Addr} {u : Value}, env.cells.lookup x = some c → cm₁ x = some u → s₁.heap.IsCell c (some u) := fun h e => by have := (F₄.cell _ _ h).keeps x₁.ext; rwa [e] at this
    have b1 : Bnd prog w (A.deeper env) ce s₁.heap "first" fv := Bnd.cell hcf (by subst hce henv; kernel_rfl) (by subst hce; kernel_rfl) (cell cfi mf₄)
    have b2 : Bnd prog w (A.deeper env) ce s₁.heap "rounds" (.int r tr) := Bnd.cell hcf (by subst hce henv; kernel_rfl) (by subst hce; kernel_rfl) (cell cro mr₄)
    have b3 : Bnd prog w (A.deeper env) ce s₁.heap "count" (.int first.length tc) := Bnd.cell hcf (by subst hce henv; kernel_rfl) (by subst hce; kernel_rfl) (cell cco mc₄)
    refine ⟨fun s₂ x₂ => tests_nil, fun _ => ?_⟩
    refine ev_itemI (k := (((i + r / 2) % first.length : Nat) : Int)) (ev_nameP b1 fun s y => hfi.mono (F₄.keep.trans (x₁.trans y).ext)) (Ev.mono (ev_mod (ev_add (ev_nameP hb fun _ _ => hv) (ev_floordiv (ev_nameP b2 fun _ _ => .mk ..) ev_int (by decide) (by decide))) (ev_nameP b3 fun _ _ => .mk ..) (by omega)) fun v s y e => by rw [idx_mod] at e; exact e) (by omega) ?_ (by omega)
    have hlt := Nat.mod_lt (i + r / 2) hpos
    rw [Int.toNat_natCast, List.getD_eq_getElem?_getD, List.getElem?_eq_getElem hlt]
    rfl
  · have := compV_ints cv
    rw [List.filter_eq_self.mpr (fun _ _ => rfl)] at this
    exact this
  have htu₆ : LI s₆.heap v (turnedOf first r) := (F₄.ext x₅.ext).listI htu b₆.off
  have W₆ := W.mono F₆.keep
  have mf₆ : upd cm₁ "turned" v "first" = some fv := n1 (by decide +kernel) mf₄
  have mr₆ : upd cm₁ "turned" v "rounds" = some (.int r tr) := n1 (by decide +kernel) mr₄
  have mc₆ : upd cm₁ "turned" v "count" = some (.int first.length tc) := n1 (by decide +kernel) mc₄
  have mt₆ : upd cm₁ "turned" v "turned" = some v := upd_eq
  generalize upd cm₁ "turned" v = cm₂ at F₆ mf₆ mr₆ mc₆ mt₆
  have htl : (turnedOf first r).length = first.length := by simp [turnedOf]
  generalize hT : turnedOf first r = t at htu₆ htl
  have getT : ∀ i, i < first.length → t[i]? = some (t.getD i 0) := fun i h => by rw [List.getD_eq_getElem?_getD, List.getElem?_eq_getElem (by omega)]; rfl
  have hb₂ : Bx env s₂ s₆ := (x₃.bx.trans b₄).trans (x₅.bx.trans b₆)
  refine wpAny_execs_cons (x_if (b := r % 2 == 0) ?_ (fun hev s₇ x₇ => ?_) (fun hod s₇ x₇ => ?_))
  · have := evb_eq_int (pos := ⟨157, 7, 157, 22⟩) (ev_mod (pos := ⟨157, 7, 157, 17⟩) (ev_nameP (x := "rounds") (pos := ⟨157, 7, 157, 13⟩) (P := fun v _ => IntV v r) (F₆.bndC (prog := prog) (w := w) (A := A.deeper env) mr₆ hf kro cro) fun _ _ => .mk ..) (ev_int (i := 2) (k := 0) (pos := ⟨157, 16, 157, 17⟩)) (by decide)) (ev_int (i := 0) (k := 0) (pos := ⟨157, 21, 157, 22⟩))
    have e : ((r : Int).fmod 2 == 0) = (r % 2 == 0) := by
      rw [Int.fmod_eq_emod_of_nonneg _ (by decide), Bool.eq_iff_iff]
      simp only [beq_iff_eq]
      omega
    rw [e] at this
    exact this
  · have hev' : r % 2 = 0 := by simpa using hev
    have F₇ := F₆.ext x₇.ext
    refine wpAny_execs_cons (x_ret (P := fun v s => LLI s.heap v (alikeRows first r)) (Ev.mono (ev_comp_core (n := first.length) (P := fun i v => IntV v (i : Int)) (cl := [("turned", L + 4)]) (x := "j") (fun _ => true) (RowF fun j => ((List.range j).filter fun i => t.getD i 0 == t.getD j 0).map fun (i : Nat) => (i : Int)) (rowF_fresh _) (fun a => [("j", a), ("turned", L + 4)])
      (.inr ⟨fun _ => rfl, fun _ => rfl, fun _ => rfl, by subst henv; kernel_rfl⟩) ⟨_, rfl⟩ (by subst henv; kernel_rfl) rfl (by decide +kernel) (EvI.x (evi_range1 RD.hh ((W₆.mono x₇.ext).blt G kr (n_range w) b_range (by decide)) (ev_nameP (F₇.bndC mc₆ hf kco cco) fun _ _ => .mk ..) (by omega))) (by omega) (by intro _; rfl) ?_) fun v s' y cv => ?_) fun v s₈ x₈ e => ?_)
    · intro C c j vj s₁ hj hvj x₁ hb
      generalize hce : compEnvC { kind := ScopeKind.function, names := [(".0", NameKind.local), ("j", NameKind.cell), ("range", NameKind.globalImplicit), ("turned", NameKind.free)], isGenerator := false, isCoroutine := false } [("j", c), ("turned", L + 4)] C env = ce at hb ⊢
      obtain ⟨tj, rfl⟩ := hvj
      have GC : GEnv ce := by subst hce henv; exact ⟨by kernel_rfl, by kernel_rfl, by kernel_rfl⟩
      have W₁ := W₆.mono (x₇.trans x₁).ext
      refine ⟨fun s₂ x₂ => tests_nil, fun _ => Ev.mono (ev_comp_core (n := j) (P := fun i v => IntV v (i : Int)) (cl := [("turned", L + 4), ("j", c)]) (x := "i") (fun i => t.getD i 0 == t.getD j 0) (fun i y _ _ => IntV y (i : Int)) (fun i y h₁ h' h'' q _ => q) (fun _ => [("turned", L + 4), ("j", c)])
        (.inl ⟨fun _ => rfl, fun _ => rfl, fun _ => rfl, by decide +kernel⟩) ⟨_, rfl⟩ (by subst hce henv; kernel_rfl) rfl (by decide +kernel) (EvI.x (evi_range1 RD.hh (W₁.blt GC (by subst hce henv; kernel_rfl) (n_range w) b_range (by decide)) (ev_nameP hb fun _ _ => .mk ..) (by omega))) (by omega) (by intro _; rfl) ?_) fun v s y cv => compV_row cv rfl⟩
      intro C2 c2 i vi s₃' hi hvi x₃' hb2
      generalize hce2 : compEnvC { kind := ScopeKind.function, names := [(".0", NameKind.local), ("i", NameKind.local), ("j", NameKind.free), ("turned", NameKind.free)], isGenerator := false, isCoroutine := false } [("turned", L + 4), ("j", c)] C2 ce = ce2 at hb2 ⊢
      have bj : Bnd prog w (A.deeper env) ce2 s₃'.heap "j" (.int j tj) := fun s Q E e q => by
        rw [show loadName ce2 "j" = loadName ce "j" by subst hce2 hce henv; kernel_rfl]
        exact hb s Q E (x₃'.ext.trans e) q
      have bt : Bnd prog w (A.deeper env) ce2 s₃'.heap "turned" v := Bnd.cell (by subst hce2 hce henv; kernel_rfl) (by subst hce2 hce henv; kernel_rfl) (by subst hce2 hce henv; kernel_rfl) (by have := (F₇.cell _ _ ctu).keeps (x₁.trans x₃').ext; rwa [mt₆] at this)
      have et : ∀ {p}, Ev prog w (A.deeper env) s₃' ce2 (.Name "turned" p) (fun v s => LI s.heap v t) := fun {p} => ev_nameP bt fun s y => htu₆.mono (x₇.trans (x₁.trans (x₃'.trans y))).ext
      have hif : i < first.length := by omega
      refine ⟨fun s₂ x₂ => tests_one ?_ x₂, fun _ => ev_nameP hb2 fun _ _ => hvi⟩
      exact evb_eq_int (ev_itemI (k := (i : Int)) et (ev_nameP hb2 fun _ _ => hvi) (by omega) (getT i hif) (by omega)) (ev_itemI (k := (j : Int)) et (ev_nameP bj fun _ _ => .mk ..) (by omega) (getT j hj) (by omega))
    · have := compV_rows cv
      unfold alikeRows
      rw [if_pos hev', hT]
      exact this
    · exact ⟨⟨_, _, F₇.ext x₈.ext⟩, hb₂.trans (x₇.bx.trans x₈.bx), e⟩
  · have hod' : ¬ r % 2 = 0 := by simpa using hod
    have F₇ := F₆.ext x₇.ext
    refine wpAny_execs_nil ?_
    refine wpAny_execs_cons (x_ret (P := fun v s => LLI s.heap v (alikeRows first r)) (Ev.mono (ev_comp_core (n := first.length) (P := fun i v => IntV v (i : Int)) (cl := [("turned", L + 4)]) (x := "j") (fun _ => true) (RowF fun j => ((List.range j).filter fun i => (innerL t i j).isEmpty).map fun (i : Nat) => (i : Int)) (rowF_fresh _) (fun a => [("j", a), ("turned", L + 4)])
      (.inr ⟨fun _ => rfl, fun _ => rfl, fun _ => rfl, by subst henv; kernel_rfl⟩) ⟨_, rfl⟩ (by subst henv; kernel_rfl) rfl (by decide +kernel) (EvI.x (evi_range1 RD.hh ((W₆.mono x₇.ext).blt G kr (n_range w) b_range (by decide)) (ev_nameP (F₇.bndC mc₆ hf kco cco) fun _ _ => .mk ..) (by omega))) (by omega) (by intro _; rfl) ?_) fun v s' y cv => ?_) fun v s₈ x₈ e => ?_)
    · intro C c j vj s₁ hj hvj x₁ hb
      generalize hce : compEnvC { kind := ScopeKind.function, names := [(".0", NameKind.local), ("j", NameKind.cell), ("range", NameKind.globalImplicit), ("turned", NameKind.free)], isGenerator := false, isCoroutine := false } [("j", c), ("turned", L + 4)] C env = ce at hb ⊢
      obtain ⟨tj, rfl⟩ := hvj
      have GC : GEnv ce := by subst hce henv; exact ⟨by kernel_rfl, by kernel_rfl, by kernel_rfl⟩
      have W₁ := W₆.mono (x₇.trans x₁).ext
      refine ⟨fun s₂ x₂ => tests_nil, fun _ => Ev.mono (ev_comp_core (n := j) (P := fun i v => IntV v (i : Int)) (cl := [("turned", L + 4), ("j", c)]) (x := "i") (fun i => (innerL t i j).isEmpty) (fun i y _ _ => IntV y (i : Int)) (fun i y h₁ h' h'' q _ => q) (fun a => [("i", a), ("turned", L + 4), ("j", c)])
        (.inr ⟨fun _ => rfl, fun _ => rfl, fun _ => rfl, by subst hce henv; kernel_rfl⟩) ⟨_, rfl⟩ (by subst hce henv; kernel_rfl) rfl (by decide +kernel) (EvI.x (evi_range1 RD.hh (W₁.blt GC (by subst hce henv; kernel_rfl) (n_range w) b_range (by decide)) (ev_nameP hb fun _ _ => .mk ..) (by omega))) (by omega) (by intro _; rfl) ?_) fun v s y cv => compV_row cv rfl⟩
      intro C2 c2 i vi s₃' hi hvi x₃' hb2
      generalize hce2 : compEnvC { kind := ScopeKind.function, names := [(".0", NameKind.local), ("i", NameKind.cell), ("j", NameKind.free), ("turned", NameKind.free)], isGenerator := false, isCoroutine := false } [("i", c2), ("turned", L + 4), ("j", c)] C2 ce = ce2 at hb2 ⊢
      obtain ⟨ti, rfl⟩ := hvi
      have hif : i < first.length := by omega
      have IT : s₃'.heap.IsCell (L + 4) (some v) := by have := (F₇.cell _ _ ctu).keeps (x₁.trans x₃').ext; rwa [mt₆] at this
      have bj : Bnd prog w (A.deeper env) ce2 s₃'.heap "j" (.int j tj) := fun s Q E e q => by
        rw [show loadName ce2 "j" = loadName ce "j" by subst hce2 hce henv; kernel_rfl]
        exact hb s Q E (x₃'.ext.trans e) q
      refine ⟨fun s₂ x₂ => tests_one ?_ x₂, fun _ => ev_nameP hb2 fun _ _ => .mk ..⟩
      obtain ⟨la, tvs, rfl, hla, hti⟩ := id htu₆
      have y₀ : Sx s₆ s₃' := x₇.trans (x₁.trans x₃')
      have bt : Bnd prog w (A.deeper env) ce2 s₃'.heap "turned" (.ref la) := Bnd.cell (by subst hce2 hce henv; kernel_rfl) (by subst hce2 hce henv; kernel_rfl) (by subst hce2 hce henv; kernel_rfl) IT
      generalize hsl : (t.drop (i + 1)).take (j + 1 - (i + 1)) = sl
      have hsl_len : sl.length ≤ 1000 := by rw [← hsl, List.length_take, List.length_drop]; omega
      have hcore := evb_eq_reads (prog := prog) (w := w) (A := A.deeper env) (s₀ := s₃') (env := ce2) (pos := ⟨159, 36, 159, 114⟩) (d := dInts (innerL t i j)) (d' := dInts []) (l := .ListComp (.Name "x" ⟨159, 37, 159, 38⟩) [⟨.Name "x" ⟨159, 43, 159, 44⟩, .Subscript (.Name "turned" ⟨159, 48, 159, 54⟩) (.Slice (some (.BinOp (.Name "i" ⟨159, 55, 159, 56⟩) .Add (.Constant (.int 1) 0 ⟨159, 59, 159, 60⟩) ⟨159, 55, 159, 60⟩)) (some (.BinOp (.Name "j" ⟨159, 61, 159, 62⟩) .Add (.Constant (.int 1) 0 ⟨159, 65, 159, 66⟩) ⟨159, 61, 159, 66⟩)) none ⟨159, 55, 159, 66⟩) ⟨159, 48, 159, 67⟩,
        [.Compare (.Name "x" ⟨159, 71, 159, 72⟩) [.In] [.BinOp (.Subscript (.Name "turned" ⟨159, 76, 159, 82⟩) (.Slice none (some (.BinOp (.Name "i" ⟨159, 84, 159, 85⟩) .Add (.Constant (.int 1) 0 ⟨159, 88, 159, 89⟩) ⟨159, 84, 159, 89⟩)) none ⟨159, 83, 159, 89⟩) ⟨159, 76, 159, 90⟩) .Add (.Subscript (.Name "turned" ⟨159, 93, 159, 99⟩) (.Slice (some (.BinOp (.Name "j" ⟨159, 100, 159, 101⟩) .Add (.Constant (.int 1) 0 ⟨159, 104, 159, 105⟩) ⟨159, 100, 159, 105⟩)) none none ⟨159, 100, 159, 106⟩) ⟨159, 93, 159, 107⟩) ⟨159, 76, 159, 107⟩] ⟨159, 71, 159, 107⟩], 0⟩] { kind := ScopeKind.function, names := [(".0", NameKind.local), ("x", NameKind.local), ("i", NameKind.free), ("j", NameKind.free), ("turned", NameKind.free)], isGenerator := false, isCoroutine := false } ⟨159, 36, 159, 108⟩) (r := .List [] ⟨159, 112, 159, 114⟩)
        (by rw [depth_ints]; have := RD.un; omega)
        (Ev.mono (ev_comp_core (n := sl.length) (P := fun q v => IntV v (sl.getD q 0)) (cl := [("turned", L + 4), ("j", c), ("i", c2)]) (x := "x") (fun q => (t.take (i + 1) ++ t.drop (j + 1)).any (· == sl.getD q 0)) (fun q y _ _ => IntV y (sl.getD q 0)) (fun i y h₁ h' h'' q _ => q) (fun _ => [("turned", L + 4), ("j", c), ("i", c2)])
          (.inl ⟨fun _ => rfl, fun _ => rfl, fun _ => rfl, by decide +kernel⟩) ⟨_, rfl⟩ (by subst hce2 hce henv; kernel_rfl) rfl (by decide +kernel) (evix_list RD.hh (Ev.mono (ev_slice_run (a := i + 1) (b := j + 1) (vs := tvs) (ev_nameP bt fun s y => ⟨rfl, isList_ext hla (y₀.trans y).ext⟩) hti (ev_add (ev_nameP hb2 fun _ _ => .mk ..) ev_int) (ev_add (ev_nameP bj fun _ _ => .mk ..) ev_int) (by omega) (by omega) (by omega)) fun v s y h => ?_)) (by omega) (by intro _; rfl) ?_) fun v s y cv => rds_ints ?_)
        rds_mono (Ev.mono ev_list0 fun v s y h => ?_) (canLay_ints _) (canLay_ints _)
      · rw [eqv_nil] at hcore
        exact hcore
      · obtain ⟨a', ws, e, l', hi'⟩ := h
        rw [hsl] at hi'
        refine ⟨a', ws, e, l', hi'.length, fun q y hq => ?_⟩
        have hlt : q < sl.length := by rw [← hi'.length]; exact (List.getElem?_eq_some_iff.mp hq).1
        obtain ⟨tz, ez⟩ := intsAre_get hi' (k := q) (n := sl.getD q 0) (by rw [List.getD_eq_getElem?_getD, List.getElem?_eq_getElem hlt]; rfl)
        rw [ez] at hq
        cases hq
        exact .mk ..
      · intro C3 c3 q vx s₄' hq hvx x₄' hb3
        generalize hce3 : compEnvC { kind := ScopeKind.function, names := [(".0", NameKind.local), ("x", NameKind.local), ("i", NameKind.free), ("j", NameKind.free), ("turned", NameKind.free)], isGenerator := false, isCoroutine := false } [("turned", L + 4), ("j", c), ("i", c2)] C3 ce2 = ce3 at hb3 ⊢
        have bj3 : Bnd prog w (A.deeper env) ce3 s₄'.heap "j" (.int j tj) := fun s Q E e q => by
          rw [show loadName ce3 "j" = loadName ce "j" by subst hce3 hce2 hce henv; kernel_rfl]
          exact hb s Q E ((x₃'.trans x₄').ext.trans e) q
        have bi3 : Bnd prog w (A.deeper env) ce3 s₄'.heap "i" (.int i ti) := fun s Q E e q => by
          rw [show loadName ce3 "i" = loadName ce2 "i" by subst hce3 hce2 hce henv; kernel_rfl]
          exact hb2 s Q E (x₄'.ext.trans e) q
        have bt3 : Bnd prog w (A.deeper env) ce3 s₄'.heap "turned" (.ref la) := Bnd.cell (by subst hce3 hce2 hce henv; kernel_rfl) (by subst hce3 hce2 hce henv; kernel_rfl) (by subst hce3 hce2 hce henv; kernel_rfl) (IT.keeps x₄'.ext)
        have et : ∀ {p}, Ev prog w (A.deeper env) s₄' ce3 (.Name "turned" p) (fun v s => v = .ref la ∧ s.heap.IsList la tvs.toArray) := fun {p} => ev_nameP bt3 fun s y => ⟨rfl, isList_ext hla (y₀.trans (x₄'.trans y)).ext⟩
        refine ⟨fun s₂ x₂ => tests_one ?_ x₂, fun _ => ev_nameP hb3 fun _ _ => hvx⟩
        refine evb_inI (ns := t.take (i + 1) ++ t.drop (j + 1)) (ev_nameP hb3 fun _ _ => hvx) (ev_addI (ev_slice_upto (b := i + 1) et hti (ev_add (ev_nameP bi3 fun _ _ => .mk ..) ev_int) (by omega) (by omega)) (ev_slice_from (a := j + 1) et hti (ev_add (ev_nameP bj3 fun _ _ => .mk ..) ev_int) (by omega) (by omega)) ?_)
        rw [List.length_take, List.length_drop]
        omega
      · have := compV_ints cv
        have e : List.map (fun q => sl.getD q 0) ((List.range sl.length).filter fun q => (t.take (i + 1) ++ t.drop (j + 1)).any (· == sl.getD q 0)) = sl.filter fun z => (t.take (i + 1) ++ t.drop (j + 1)).any (· == z) := by
          have := filter_range sl 0 (fun z => (t.take (i + 1) ++ t.drop (j + 1)).any (· == z)) (fun z => z)
          rw [List.map_id'] at this
          exact this
        rw [e] at this
        rw [← hsl] at this
        exact this
      · obtain ⟨a', ws, e, l', _, e'⟩ := h
        subst e'
        exact rds_ints ⟨a', [], e, l'.isList, .nil⟩
    · have := compV_rows cv
      unfold alikeRows
      rw [if_neg hod', hT]
      exact this
    · exact ⟨⟨_, _, F₇.ext x₈.ext⟩, hb₂.trans (x₇.bx.trans x₈.bx), e⟩
end
end Mine
namespace Mine
/-! what a round computes -/
def nameC (gs : List Int) (k : Nat) : Nat := (if k % 2 = 0 then 65 else 97) + (gs.getD k 0).toNat
def askC (gs : List Int) (k : Nat) : Nat := (if (gs.getD k 0).toNat % 2 = 0 then 97 else 65) + (gs.getD k 0).toNat
def tableOf (gs : List Int) (n : Nat) : List (Nat × Nat) := (List.range n).map fun k => (nameC gs k, 48 + k)
def toldI (gs : List Int) (n k : Nat) : List Nat := (List.range n).filter fun i => gs.getD i 0 == gs.getD k 0
def pairC (gs : List Int) (n k : Nat) : Nat × Nat := (if (toldI gs n k).headD 0 == k then 40 else 41, if (toldI gs n k).getLastD 0 == k then 41 else 40)
def pairsOf (gs : List Int) (n i : Nat) : List (Nat × Nat) := (List.range i).map (pairC gs n)
def ansOf (gs : List Int) (n i j : Nat) : Bool := checks (headOf (((pairsOf gs n n).drop (i + 1)).take (j + 1 - (i + 1))))
def alikeOf (gs : List Int) (n : Nat) : List (List Int) := rowsBy n fun i j => ansOf gs n i j
def nextOf (gs : List Int) (n : Nat) : List Int := (List.range n).map fun j => ((alikeOf gs n).getD j [] ++ [(j : Int)]).headD 0
def Good6 (gs : List Int) (n : Nat) : Prop := gs.length = n ∧ ∀ g ∈ gs, 0 ≤ g ∧ g < 6
theorem digit : ∀ k : Nat, k < 6 → Str.ofString (toString (k : Int)) = ⟨#[48 + k]⟩ := by decide +kernel
theorem digit_here : ∀ k : Nat, k < 6 → 48 + k ∈ signsHere := by decide +kernel
theorem letter_here : ∀ g : Nat, g < 6 → 65 + g ∈ signsHere ∧ 97 + g ∈ signsHere := by decide +kernel
theorem upper_at : ∀ g : Nat, g < 6 → (Str.ofString "ABCDEF").cps[g]? = some (65 + g) := by decide +kernel
theorem lower_at : ∀ g : Nat, g < 6 → (Str.ofString "abcdef").cps[g]? = some (97 + g) := by decide +kernel
theorem mixed_at : ∀ g : Nat, g < 6 → (Str.ofString "aBcDeF").cps[g]? = some ((if g % 2 = 0 then 97 else 65) + g) := by decide +kernel
theorem lowC_letter : ∀ g : Nat, g < 6 → lowC (65 + g) = 97 + g ∧ lowC (97 + g) = 97 + g := by decide +kernel
theorem Good6.at {gs : List Int} {n k : Nat} (h : Good6 gs n) (hk : k < n) : gs[k]? = some (gs.getD k 0) ∧ gs.getD k 0 = ((gs.getD k 0).toNat : Int) ∧ (gs.getD k 0).toNat < 6 := by
  have hl : k < gs.length := by rw [h.1]; exact hk
  have e : gs[k]? = some (gs.getD k 0) := by rw [List.getD_eq_getElem?_getD, List.getElem?_eq_getElem hl]; rfl
  have hm : gs.getD k 0 ∈ gs := List.mem_of_getElem? e
  obtain ⟨a, b⟩ := h.2 _ hm
  exact ⟨e, by omega, by omega⟩
def nthS (b : List Stmt) (i : Nat) : Stmt := b.getD i (.Pass ⟨0, 0, 0, 0⟩)
def forBody : Stmt → List Stmt
  | .For _ _ b _ _ => b
  | _ => []
noncomputable def roundBody (w : World) : List Stmt := forBody (nthS (bodyOf (fdOf w 224)) 3)
theorem Turned.thenX {s a b : Shared} {X Y : List Addr} (t : Turned X s a) (u : Turned (X ++ Y) a b) (hY : ∀ y ∈ Y, s.heap.get? y = none) : Turned X s b :=
  ⟨fun d o q e => u.keep d o (fun h => by
    rcases List.mem_append.mp h with h | h
    · exact q h
    · rw [hY d h] at e; cases e) (t.keep d o q e), u.os.trans t.os, fun i g e => u.gens i g (t.gens i g e), fun q => u.bare (t.bare q)⟩
section
variable {prog : Program} {w : World} {A : Around} {s : Shared} {env : Env} {h₀ : Heap}
/-- the names of law's frame -/
structure LawEnv (w : World) (L : Addr) (env : Env) : Prop where
  G : GEnv env
  count : env.kindOf "count" = some .local
  first : env.kindOf "first" = some .local
  rounds : env.kindOf "rounds" = some .local
  table : env.kindOf "table" = some .local
  told : env.kindOf "told" = some .local
  groups : env.kindOf "groups" = some .cell
  k : env.kindOf "k" = some .cell
  pairs : env.kindOf "pairs" = some .cell
  answers : env.kindOf "answers" = some .cell
  alike : env.kindOf "alike" = some .cell
  range : env.kindOf "range" = some .globalImplicit
  headers : env.kindOf "Headers" = some .globalImplicit
  str : env.kindOf "str" = some .globalImplicit
  lawAlike : env.kindOf "_law_alike" = some .globalImplicit
  cgroups : env.cells.lookup ("groups" : Str) = some (L + 1)
  ck : env.cells.lookup ("k" : Str) = some (L + 2)
  cpairs : env.cells.lookup ("pairs" : Str) = some (L + 3)
  canswers : env.cells.lookup ("answers" : Str) = some (L + 4)
  calike : env.cells.lookup ("alike" : Str) = some (L + 5)
  inter : interactive env = false
  eq : env = callEnvC (fdOf w 224) L 224
theorem swaps_cell {elt : PySem.Expr} {gens : List Comprehension} {sc : Scope} {pos px : Pos} {x : Str} {line : Nat} (h : env.kindOf x = some .cell) : swapsWith (.ListComp elt gens sc pos) (some (.Name x px)) line env = Pure.pure false := by
  unfold swapsWith
  have e : (NameKind.cell == NameKind.local) = false := by decide
  simp [h, e]
theorem lawEnv (w : World) (L : Addr) : LawEnv w L (callEnvC (fdOf w 224) L 224) :=
  ⟨⟨by kernel_rfl, by kernel_rfl, by kernel_rfl⟩, by kernel_rfl, by kernel_rfl, by kernel_rfl, by kernel_rfl, by kernel_rfl, by kernel_rfl, by kernel_rfl, by kernel_rfl, by kernel_rfl, by kernel_rfl, by kernel_rfl, by kernel_rfl, by kernel_rfl, by kernel_rfl, by kernel_rfl, by kernel_rfl, by kernel_rfl, by kernel_rfl, by kernel_rfl, by kernel_rfl, rfl⟩
end
end Mine
namespace Mine
theorem HL.nf {s₀ a b : Shared} (k : KeepNF s₀ a b) {l : Addr} {ps : List (Nat × Nat)} (p : HL a.heap l ps) : HL b.heap l ps := by
  obtain ⟨vs, ⟨n, h⟩, q⟩ := p
  refine ⟨vs, ⟨n, k.nf _ _ h (fun vs e => by cases e)⟩, Paired.mono' (fun c v ⟨a, t, u, e, o, h1, h2, n, h3⟩ => ⟨a, t, u, e, o, k.nf _ _ h1 (fun vs e => by rw [h3] at e; cases e), h2, n, h3⟩) q⟩
theorem digit_log : ∀ i : Nat, i < 6 → i.log2 < 1920 := by decide +kernel
theorem tableOf_succ (gs : List Int) (i : Nat) : tableOf gs (i + 1) = tableOf gs i ++ [(nameC gs i, 48 + i)] := by
  unfold tableOf
  rw [List.range_succ, List.map_append]
  rfl
section
variable {prog : Program} {w : World} {A : Around} {s : Shared} {env : Env} {h₀ : Heap} {m cm : Str → Option Value} {L : Addr} {Q : Flow → Shared → Prop}
theorem name_here {gs : List Int} {n k : Nat} (G6 : Good6 gs n) (hk : k < n) : nameC gs k ∈ signsHere := by
  obtain ⟨_, _, h⟩ := G6.at hk
  obtain ⟨a, b⟩ := letter_here _ h
  unfold nameC
  split
  · exact a
  · exact b
theorem x_addAll (LE : LawEnv w L env) (W : Wd w h₀) (R : RoomA 8 A) {n : Nat} {tc : Tok} {x dx l : Addr} {gv : Value} {gs : List Int} (F : FrC h₀ env m cm s.heap) (hcount : m "count" = some (.int n tc)) (htab : m "table" = some (.ref x)) (hgr : cm "groups" = some gv) (hgs : LI s.heap gv gs) (G6 : Good6 gs n) (hn : n ≤ 6)
    (p : HdrAt w s.heap x dx l) (hl : HL s.heap l []) (hnew : h₀.get? l = none) (hxo : x ∉ own env) (hdo : dx ∉ own env) (hxl : x ≠ l) (hdl : dx ≠ l)
    (hgl : ∀ a, gv = .ref a → a ≠ l)
    (k : ∀ s' cm', FrC h₀ env m cm' s'.heap → (∀ y : Str, y ≠ "k" → cm' y = cm y) → HL s'.heap l (tableOf gs n) → Turned (own env ++ [l]) s s' → Q .next s') :
    wpAny (model prog w) A (exec (nthS (roundBody w) 1) env) Q NoE s := by
  have hlo : l ∉ own env := fun q => by obtain ⟨vs, ⟨n, h⟩, _⟩ := hl; exact F.own_seq _ q _ h _ _ rfl
  have hX : ∀ b ∈ own env ++ [l], (∃ o, s.heap.get? b = some o) ∧ b ∉ ([] : List Addr) := fun b hb => ⟨by
    rcases List.mem_append.mp hb with hb | hb
    · exact F.own_alive b hb
    · rw [List.mem_singleton] at hb
      rw [hb]
      obtain ⟨vs, ⟨n, h⟩, _⟩ := hl
      exact ⟨_, h⟩, by simp⟩
  have hf := LE.G.k
  refine x_forF F [l] (fun i m' cm' s' => m' = m ∧ (∀ y : Str, y ≠ "k" → cm' y = cm y) ∧ HL s'.heap l (tableOf gs i)) (n := n) (ext := []) (evi_range1 R.hh ((W.mono F.keep).blt LE.G LE.range (n_range w) b_range (by decide)) (ev_nameP (F.bndL hcount hf LE.count) fun _ _ => .mk ..) (by omega)) hX
    (fun i m' cm' a b ⟨h1, h2, h3⟩ kn => ⟨h1, h2, h3.nf kn⟩) (fun s' y => ⟨rfl, fun _ _ => rfl, hl.mono y.ext⟩) (fun i v s₁ m₁ cm₁ hi ⟨tk, hv⟩ F₁ ⟨h1, h2, h3⟩ t₁ => ?_) (fun s' m' cm' F' ⟨h1, h2, h3⟩ t' => k s' cm' (h1 ▸ F') h2 h3 t')
  subst hv h1
  refine a_nameC F₁ hf LE.k LE.ck fun s₂ F₂ t₂ => ?_
  have W₂ := W.mono F₂.keep
  have tt : Turned (own env ++ [l]) s s₂ := t₁.trans (t₂.more fun b hb => List.mem_append.mpr (.inl hb))
  have hl₂ : HL s₂.heap l (tableOf gs i) := HL.own F₁ t₂.keep h3
  have outer : ∀ {b}, b ∉ own env → b ≠ l → b ∉ own env ++ [l] := fun a b q => by
    rcases List.mem_append.mp q with q | q
    · exact a q
    · exact b (List.mem_singleton.mp q)
  have p₂ : HdrAt w s₂.heap x dx l := ⟨tt.keep _ _ (outer hxo hxl) p.at_, let ⟨tk, nn, q⟩ := p.dict; ⟨tk, nn, tt.keep _ _ (outer hdo hdl) q⟩⟩
  have hgs₂ : LI s₂.heap gv gs := by
    obtain ⟨a, vs, e, ⟨o, q1, q2, n', q3⟩, q⟩ := hgs
    exact ⟨a, vs, e, ⟨o, tt.keep _ _ (outer (fun hb => F.own_seq _ hb _ q1 _ _ q3) (hgl a e)) q1, q2, n', q3⟩, q⟩
  have btab : Bnd prog w A env s₂.heap "table" (.ref x) := F₂.bndL htab hf LE.table
  have bk : Bnd prog w A env s₂.heap "k" (.int i tk) := F₂.bndC upd_eq hf LE.k LE.ck
  have bg : Bnd prog w A env s₂.heap "groups" gv := F₂.bndC (by rw [upd_ne (by decide +kernel), h2 _ (by decide +kernel)]; exact hgr) hf LE.groups LE.cgroups
  obtain ⟨e1, e2, e3⟩ := G6.at hi
  have hin : i < 6 := by omega
  have ek : ∀ {p}, Ev prog w A s₂ env (.Name "k" p) (fun v _ => IntV v i) := fun {p} => ev_nameP bk fun _ _ => .mk ..
  have hz : (tableOf gs i).length ≤ 1000 := by simp [tableOf]; omega
  refine wpAny_execs_cons (wpAny_Expr (MethodCall_ (((ev_name (pos := ⟨167, 12, 167, 17⟩) btab) s₂ (.refl _)).wp fun ov s₃ x₃ e => ?_)) LE.inter (by rfl))
  subst e
  refine (t_methHdr (W₂.mono x₃.ext) (p₂.mono x₃.ext) (k_add w) (k_fn200 w) (by decide)).wp fun fx s₄ x₄ e => ?_
  subst e
  have x₂₄ := x₃.trans x₄
  refine Calls.callWith_function (o := ⟨.type "function", none, .func (fdOf w 200), #[]⟩) (fd := fdOf w 200) (evalArgs_gen (by rfl) (T.wp (P := fun vs _ => ∃ t u, vs = [.str ⟨#[nameC gs i]⟩ t, .str ⟨#[48 + i]⟩ u]) (T.mono (evs_cons (P := fun v _ => StrV v ⟨#[nameC gs i]⟩) ?_ mono_str (evs_one (P := fun v _ => StrV v ⟨#[48 + i]⟩) ?_) (by rfl) _ s₄ x₂₄) fun vs s' y ⟨v, r, e, ⟨t, e1⟩, v2, e3, u, e4⟩ => ⟨t, u, by subst e e1 e3 e4; rfl⟩) fun vs s₅ x₅ ⟨t, u, e⟩ => ?_))
  · -- ['ABCDEF', 'abcdef'][k % 2][groups[k]]
    refine ev_sign (x := if i % 2 = 0 then Str.ofString "ABCDEF" else Str.ofString "abcdef") (k := gs.getD i 0) (ev_itemS (ns := ["ABCDEF", "abcdef"]) (k := ((i % 2 : Nat) : Int)) (Ev.mono (ev_list (R := fun vs s => StrsAre vs ["ABCDEF", "abcdef"]) (fun pos s y => (evs_cons ev_str mono_str (evs_one ev_str) (by rfl) pos s y).mono fun vs s' y ⟨v, r, e, ⟨t, e1⟩, v2, e3, t2, e4⟩ => by subst e e1 e3 e4; exact .cons _ _ (.cons _ _ .nil)) (fun _ _ _ _ h => h) (by decide) (fun vs s h => by rw [h.length]; decide)) fun v s' y ⟨a, vs, e, l, _, h⟩ => ⟨a, vs, e, l.isList, h⟩)
      (Ev.mono (ev_mod ek ev_int (by decide)) fun v s y e => ?_) (by omega) ?_ (by decide)) (ev_itemI (k := (i : Int)) (ev_nameP bg fun s y => hgs₂.mono y.ext) ek (by omega) (by simpa using e1) (by rw [G6.1]; omega)) (by omega) (by omega) ?_
    · rw [Int.fmod_eq_emod_of_nonneg _ (by decide)] at e
      exact_mod_cast e
    · rw [Int.toNat_natCast]
      rcases Nat.mod_two_eq_zero_or_one i with h | h <;> rw [h] <;> rfl
    · unfold nameC
      split
      · exact upper_at _ e3
      · exact lower_at _ e3
  · have := ev_strI (prog := prog) (w := w) (A := A) (s₀ := s₂) (env := env) (np := ⟨167, 69, 167, 72⟩) (pos := ⟨167, 69, 167, 75⟩) (k := (i : Int)) (W₂.blt LE.G LE.str (n_str w) b_str (by decide)) (ek (p := ⟨167, 73, 167, 74⟩)) (by rw [show (i : Int).natAbs = i by omega]; exact digit_log i hin)
    rw [digit i hin] at this
    exact this
  · subst e
    have y₅ := x₂₄.trans x₅
    refine ⟨⟨(W₂.mono y₅.ext).K _ _ (at_add w), rfl⟩, wpAny_mono (add_ok (W₂.mono y₅.ext) (R.less (by decide)) (p₂.mono y₅.ext) (hl₂.mono y₅.ext) (name_here G6 hi) (digit_here i hin) hz) (fun v s₆ ⟨e, t₆, h₆⟩ => ?_) fun _ _ f => f⟩
    subst e
    refine wpAny_execs_nil ⟨m₁, _, (F₂.ext y₅.ext).by (X := [l]) (fun d hd => by rw [List.mem_singleton] at hd; rw [hd]; exact ⟨hlo, hnew⟩) t₆.keep, ⟨rfl, fun y hy => by rw [upd_ne hy]; exact h2 y hy, by rw [tableOf_succ]; exact h₆⟩, ?_⟩
    exact (t₂.more fun b hb => List.mem_append.mpr (.inl hb)).trans ((y₅.turned).trans (t₆.more fun b hb => List.mem_append.mpr (.inr hb)))
end
end Mine
namespace Mine
def digits (is : List Nat) : List Str := is.map fun i => ⟨#[48 + i]⟩
theorem lowC_name {gs : List Int} {n k : Nat} (G6 : Good6 gs n) (hk : k < n) : lowC (nameC gs k) = 97 + (gs.getD k 0).toNat := by
  obtain ⟨_, _, h⟩ := G6.at hk
  obtain ⟨a, b⟩ := lowC_letter _ h
  unfold nameC
  split
  · exact a
  · exact b
theorem lowC_ask {gs : List Int} {n k : Nat} (G6 : Good6 gs n) (hk : k < n) : lowC (askC gs k) = 97 + (gs.getD k 0).toNat := by
  obtain ⟨_, _, h⟩ := G6.at hk
  obtain ⟨a, b⟩ := lowC_letter _ h
  unfold askC
  split
  · exact b
  · exact a
theorem ask_here {gs : List Int} {n k : Nat} (G6 : Good6 gs n) (hk : k < n) : askC gs k ∈ signsHere := by
  obtain ⟨_, _, h⟩ := G6.at hk
  obtain ⟨a, b⟩ := letter_here _ h
  unfold askC
  split
  · exact b
  · exact a
theorem told_eq {gs : List Int} {n k : Nat} (G6 : Good6 gs n) (hk : k < n) : told (tableOf gs n) (askC gs k) = digits (toldI gs n k) := by
  unfold told tableOf toldI digits
  rw [List.filter_map, List.map_map]
  have e : (List.range n).filter ((fun q : Nat × Nat => lowC q.1 == lowC (askC gs k)) ∘ fun k => (nameC gs k, 48 + k)) = (List.range n).filter fun i => gs.getD i 0 == gs.getD k 0 := by
    apply List.filter_congr
    intro i hi
    have hi' : i < n := List.mem_range.mp hi
    show (lowC (nameC gs i) == lowC (askC gs k)) = _
    rw [lowC_name G6 hi', lowC_ask G6 hk]
    obtain ⟨_, e1, _⟩ := G6.at hi'
    obtain ⟨_, e2, _⟩ := G6.at hk
    rw [Bool.eq_iff_iff, beq_iff_eq, beq_iff_eq]
    omega
  rw [e]
  rfl
theorem toldI_self {gs : List Int} {n k : Nat} (hk : k < n) : k ∈ toldI gs n k := List.mem_filter.mpr ⟨List.mem_range.mpr hk, by simp⟩
theorem toldI_lt {gs : List Int} {n k i : Nat} (h : i ∈ toldI gs n k) : i < n := List.mem_range.mp (List.mem_filter.mp h).1
theorem canLay_digits : ∀ is : List Nat, (∀ i ∈ is, i < 6) → PyData.canLayAll0 ((digits is).map .str) = true
  | [], _ => rfl
  | i :: r, h => by
    have h1 : ∀ k : Nat, k < 6 → PyData.canLay0 (.str ⟨#[48 + k]⟩) = true := by decide +kernel
    have := canLay_digits r fun j hj => h j (List.mem_cons_of_mem _ hj)
    unfold digits at this ⊢
    simp only [List.map, PyData.canLayAll0, this, h1 i (h i (List.mem_cons_self ..)), Bool.and_self]
theorem depth_strs : ∀ ss : List Str, PyData.depthAll (ss.map .str) = 0
  | [] => rfl
  | n :: r => by simp only [List.map, PyData.depthAll, PyData.depth, depth_strs r, Nat.max_self]
theorem strsAre_get : ∀ {vs : List Value} {ns : List Str}, StrsAre vs ns → ∀ {k : Nat} {n : Str}, ns[k]? = some n → ∃ t, vs[k]? = some (.str n t) := fun h => by
  induction h with
  | nil => intro k n e; simp at e
  | cons y t h ih => intro k n e; cases k with
    | zero => simp at e; subst e; exact ⟨t, rfl⟩
    | succ k => simpa using ih (by simpa using e)
section
variable {prog : Program} {w : World} {A : Around} {s₀ s : Shared} {env : Env} {pos : Pos}
/-- the last of a list of texts -/
theorem ev_lastS {value slice : PySem.Expr} {ns : List Str} {y : Str} (hv : Ev prog w A s₀ env value (fun v s => LS s.heap v ns)) (hi : Ev prog w A s₀ env slice (fun v _ => IntV v (-1))) (hx : ns[ns.length - 1]? = some y) (hz : ns.length < 2 ^ 60)
    (hs : ∀ l u, subscripted slice false (.ref l) (.int (-1) u) = operate [.ref l, .int (-1) u] (getItem (.ref l) (.int (-1) u)) := by intro _ _; with_unfolding_all rfl) :
    Ev prog w A s₀ env (.Subscript value slice pos) (fun v _ => StrV v y) :=
  ev_subs hv hi fun o i s₁ s₂ x₁ ⟨l, vs, e, hl, h⟩ x₂ hi => by
    subst e
    have hlen : vs.length = ns.length := h.length
    have hlt : ns.length - 1 < ns.length := (List.getElem?_eq_some_iff.mp hx).1
    obtain ⟨t, e⟩ := strsAre_get h hx
    refine t_item_listneg (isList_ext hl x₂.ext) hi (by decide) (by omega) (by decide) (x := .str y t) ?_ ⟨t, rfl⟩ (hs l)
    rw [show ((-1 : Int) + (vs.length : Int)).toNat = ns.length - 1 by omega]
    exact e
/-- o.get_all(e) -/
theorem ev_getAll {o e : PySem.Expr} {apos : Pos} {x dx l : Addr} {ps : List (Nat × Nat)} {c : Nat} (W : Wd w s₀.heap) (R : RoomA 6 A) (p : HdrAt w s₀.heap x dx l) (hl : HL s₀.heap l ps) (hfine : Fine ps) (hz : ps.length ≤ 1000) (hc : c ∈ signsHere)
    (ho : Ev prog w A s₀ env o (fun v _ => v = .ref x)) (he : Ev prog w A s₀ env e (fun v _ => StrV v ⟨#[c]⟩)) (hs : starEach [e] env = [(false, eval e env)] := by rfl)
    (hh : ∃ pl, eval (.Call (.Attribute o "get_all" apos) [e] [] pos) env = (do
      let ov ← eval o env
      standAt apos.atName
      let (f, first) ← holding [ov] (getMethod ov "get_all" pl)
      callWith pos f first (backTo pos (starEach [e] env)) []) := by exact ⟨_, rfl⟩) :
    Ev prog w A s₀ env (.Call (.Attribute o "get_all" apos) [e] [] pos) (fun v s => LS s.heap v (told ps c)) := by
  obtain ⟨pl, hh⟩ := hh
  intro s hx
  refine MethodCall_ (pl := pl) ((ho s hx).wp fun ov s₁ x₁ e => ?_) hh
  subst e
  have y₁ := hx.trans x₁
  refine (t_methHdr (W.mono y₁.ext) (p.mono y₁.ext) (k_getall w) (k_fn142 w) (by decide)).wp fun fx s₂ x₂ e => ?_
  subst e
  have y₂ := y₁.trans x₂
  refine Calls.callWith_function (o := ⟨.type "function", none, .func (fdOf w 142), #[]⟩) (fd := fdOf w 142) (evalArgs_gen (by rw [hs]; rfl) ((evs_one he hs pos s₂ y₂).wp fun vs s₃ x₃ ⟨v, e, t, e'⟩ => ?_))
  subst e e'
  have y₃ := y₂.trans x₃
  exact ⟨⟨(W.mono y₃.ext).K _ _ (at_getall w), rfl⟩, T.from (x₁.trans (x₂.trans x₃)) (getall_ok (W.mono y₃.ext) R (p.mono y₃.ext) (hl.mono y₃.ext) hfine hc hz)⟩
end
end Mine
namespace Mine
theorem fine_table {gs : List Int} {n : Nat} (G6 : Good6 gs n) (hn : n ≤ 6) : Fine (tableOf gs n) := fun p hp => by
  obtain ⟨k, hk, e⟩ := List.mem_map.mp hp
  have hk' := List.mem_range.mp hk
  rw [← e]
  exact ⟨name_here G6 hk', digit_here k (by omega)⟩
theorem pairsOf_succ (gs : List Int) (n i : Nat) : pairsOf gs n (i + 1) = pairsOf gs n i ++ [pairC gs n i] := by
  unfold pairsOf
  rw [List.range_succ, List.map_append]
  rfl
section
variable {prog : Program} {w : World} {A : Around} {s : Shared} {env : Env} {h₀ : Heap} {m cm : Str → Option Value} {L : Addr} {Q : Flow → Shared → Prop}
theorem x_pairs (LE : LawEnv w L env) (W : Wd w h₀) (R : RoomA 8 A) {n : Nat} {tc : Tok} {x dx l pl : Addr} {gv : Value} {gs : List Int} (F : FrC h₀ env m cm s.heap) (hcount : m "count" = some (.int n tc)) (htab : m "table" = some (.ref x)) (hgr : cm "groups" = some gv) (hpr : cm "pairs" = some (.ref pl)) (hgs : LI s.heap gv gs) (G6 : Good6 gs n) (hn : n ≤ 6)
    (p : HdrAt w s.heap x dx l) (hl : HL s.heap l (tableOf gs n)) (hp : HL s.heap pl []) (hnew : h₀.get? pl = none) (hxo : x ∉ own env) (hdo : dx ∉ own env) (hxl : x ≠ pl) (hdl : dx ≠ pl) (hll : l ≠ pl)
    (hgl : ∀ a, gv = .ref a → a ≠ pl)
    (k : ∀ s' m' cm', FrC h₀ env m' cm' s'.heap → (∀ y : Str, y ≠ "told" → m' y = m y) → (∀ y : Str, y ≠ "k" → cm' y = cm y) → HL s'.heap pl (pairsOf gs n n) → Turned (own env ++ [pl]) s s' → Q .next s') :
    wpAny (model prog w) A (exec (nthS (roundBody w) 3) env) Q NoE s := by
  have hlo : pl ∉ own env := fun q => by obtain ⟨vs, ⟨n, h⟩, _⟩ := hp; exact F.own_seq _ q _ h _ _ rfl
  have hloL : l ∉ own env := fun q => by obtain ⟨vs, ⟨n, h⟩, _⟩ := hl; exact F.own_seq _ q _ h _ _ rfl
  have hX : ∀ b ∈ own env ++ [pl], (∃ o, s.heap.get? b = some o) ∧ b ∉ ([] : List Addr) := fun b hb => ⟨by
    rcases List.mem_append.mp hb with hb | hb
    · exact F.own_alive b hb
    · rw [List.mem_singleton] at hb
      rw [hb]
      obtain ⟨vs, ⟨n, h⟩, _⟩ := hp
      exact ⟨_, h⟩, by simp⟩
  have hf := LE.G.k
  refine x_forF F [pl] (fun i m' cm' s' => (∀ y : Str, y ≠ "told" → m' y = m y) ∧ (∀ y : Str, y ≠ "k" → cm' y = cm y) ∧ HL s'.heap pl (pairsOf gs n i)) (n := n) (ext := []) (evi_range1 R.hh ((W.mono F.keep).blt LE.G LE.range (n_range w) b_range (by decide)) (ev_nameP (F.bndL hcount hf LE.count) fun _ _ => .mk ..) (by omega)) hX
    (fun i m' cm' a b ⟨h1, h2, h3⟩ kn => ⟨h1, h2, h3.nf kn⟩) (fun s' y => ⟨fun _ _ => rfl, fun _ _ => rfl, hp.mono y.ext⟩) (fun i v s₁ m₁ cm₁ hi ⟨tk, hv⟩ F₁ ⟨h1, h2, h3⟩ t₁ => ?_) (fun s' m' cm' F' ⟨h1, h2, h3⟩ t' => k s' m' cm' F' h1 h2 h3 t')
  subst hv
  refine a_nameC F₁ hf LE.k LE.ck fun s₂ F₂ t₂ => ?_
  have W₂ := W.mono F₂.keep
  have tt : Turned (own env ++ [pl]) s s₂ := t₁.trans (t₂.more fun b hb => List.mem_append.mpr (.inl hb))
  have hp₂ : HL s₂.heap pl (pairsOf gs n i) := HL.own F₁ t₂.keep h3
  have outer : ∀ {b}, b ∉ own env → b ≠ pl → b ∉ own env ++ [pl] := fun a b q => by
    rcases List.mem_append.mp q with q | q
    · exact a q
    · exact b (List.mem_singleton.mp q)
  have p₂ : HdrAt w s₂.heap x dx l := ⟨tt.keep _ _ (outer hxo hxl) p.at_, let ⟨tk, nn, q⟩ := p.dict; ⟨tk, nn, tt.keep _ _ (outer hdo hdl) q⟩⟩
  have hgs₂ : LI s₂.heap gv gs := by
    obtain ⟨a, vs, e, ⟨o, q1, q2, n', q3⟩, q⟩ := hgs
    exact ⟨a, vs, e, ⟨o, tt.keep _ _ (outer (fun hb => F.own_seq _ hb _ q1 _ _ q3) (hgl a e)) q1, q2, n', q3⟩, q⟩
  have hl₂ : HL s₂.heap l (tableOf gs n) := by
    refine hl.by tt.keep (outer hloL hll) fun b hb o e vs n' q q' => ?_
    rcases List.mem_append.mp hb with hb | hb
    · exact F.own_seq b hb o e _ _ q
    · rw [List.mem_singleton] at hb
      obtain ⟨vs', ⟨n'', h⟩, _⟩ := hp
      rw [hb, h] at e
      injection e with e
      rw [← e] at q'
      exact absurd (show Value.type "list" = .type "tuple" from q') (by decide)
  have btab : Bnd prog w A env s₂.heap "table" (.ref x) := F₂.bndL (by rw [h1 _ (by decide +kernel)]; exact htab) hf LE.table
  have bk : Bnd prog w A env s₂.heap "k" (.int i tk) := F₂.bndC upd_eq hf LE.k LE.ck
  have cgr : upd cm₁ "k" (.int i tk) "groups" = some gv := by rw [upd_ne (by decide +kernel), h2 _ (by decide +kernel)]; exact hgr
  have bg : Bnd prog w A env s₂.heap "groups" gv := F₂.bndC cgr hf LE.groups LE.cgroups
  obtain ⟨e1, e2, e3⟩ := G6.at hi
  have hin : i < 6 := by omega
  have ek : ∀ {p}, Ev prog w A s₂ env (.Name "k" p) (fun v _ => IntV v i) := fun {p} => ev_nameP bk fun _ _ => .mk ..
  have hzt : (tableOf gs n).length ≤ 1000 := by simp [tableOf]; omega
  -- told
  refine wpAny_execs_cons (x_assignL F₂ (ev_getAll W₂ (R.less (by decide)) p₂ hl₂ (fine_table G6 hn) hzt (ask_here G6 hi) (ev_name btab) (ev_sign (k := gs.getD i 0) (x := Str.ofString "aBcDeF") ev_str (ev_itemI (k := (i : Int)) (ev_nameP bg fun s y => hgs₂.mono y.ext) ek (by omega) (by simpa using e1) (by rw [G6.1]; omega)) (by omega) (by omega) (mixed_at _ e3))) hf LE.told (fun v s₃ s₄ x₃ hto F₄ b₄ => ?_) (by rfl))
  rw [told_eq G6 hi] at hto
  have hto₄ : LS s₄.heap v (digits (toldI gs n i)) := by
    obtain ⟨a, vs, e, ⟨o, q1, q2, n', q3⟩, q⟩ := hto
    exact ⟨a, vs, e, ⟨o, b₄.off _ _ ((F₂.ext x₃.ext).seq q1 (fun es n e => by rw [q3] at e; cases e) (fun v e => by rw [q3] at e; cases e)) q1, q2, n', q3⟩, q⟩
  have W₄ := W.mono F₄.keep
  have hgs₄ : LI s₄.heap gv gs := (F₂.ext x₃.ext).listI (hgs₂.mono x₃.ext) b₄.off
  have bk₄ : Bnd prog w A env s₄.heap "k" (.int i tk) := F₄.bndC upd_eq hf LE.k LE.ck
  have btold : Bnd prog w A env s₄.heap "told" v := F₄.bndL upd_eq hf LE.told
  have ek₄ : ∀ {p}, Ev prog w A s₄ env (.Name "k" p) (fun v _ => IntV v i) := fun {p} => ev_nameP bk₄ fun _ _ => .mk ..
  have big : 1000 ≤ sizeLine := by decide
  have htl : (toldI gs n i).length ≤ n := by unfold toldI; exact Nat.le_trans (List.length_filter_le _ _) (by simp)
  have hd6 : ∀ j ∈ toldI gs n i, j < 6 := fun j hj => Nat.lt_of_lt_of_le (toldI_lt hj) hn
  refine wpAny_execs_cons (x_if (b := false) (evb_ne_same (d := .list ((digits (toldI gs n i)).map .str)) (by simp only [PyData.depth, depth_strs]; have := R.un; omega) (ev_nameP btold fun s y => rds_strs (hto₄.mono y.ext)) rds_mono
    (Ev.mono (ev_comp_core (n := n) (P := fun i v => IntV v (i : Int)) (cl := [("k", L + 2), ("groups", L + 1)]) (x := "i") (fun q => gs.getD q 0 == gs.getD i 0) (fun q y _ _ => StrV y ⟨#[48 + q]⟩) (fun i y h₁ h' h'' q _ => q) (fun _ => [("k", L + 2), ("groups", L + 1)])
      (.inl ⟨fun _ => rfl, fun _ => rfl, fun _ => rfl, by decide +kernel⟩) ⟨_, rfl⟩ (by rw [LE.eq]; kernel_rfl) rfl (by decide +kernel) (EvI.x (evi_range1 R.hh (W₄.blt LE.G LE.range (n_range w) b_range (by decide)) (ev_nameP (F₄.bndL (by rw [upd_ne (by decide +kernel), h1 _ (by decide +kernel)]; exact hcount) hf LE.count) fun _ _ => .mk ..) (by omega))) (by omega) (by intro _; rfl) ?_) fun v s' y cv => ?_) (canLay_digits _ hd6)) (fun e => by cases e) fun _ s₅ x₅ => ?_)
  · intro C c q vq s₁' hq ⟨tq, hvq⟩ x₁ hb
    subst hvq
    generalize hce : compEnvC { kind := ScopeKind.function, names := [(".0", NameKind.local), ("i", NameKind.local), ("str", NameKind.globalImplicit), ("groups", NameKind.free), ("k", NameKind.free)], isGenerator := false, isCoroutine := false } [("k", L + 2), ("groups", L + 1)] C env = ce at hb ⊢
    have GC : GEnv ce := by subst hce; rw [LE.eq]; exact ⟨by kernel_rfl, by kernel_rfl, by kernel_rfl⟩
    have bk' : Bnd prog w A ce s₁'.heap "k" (.int i tk) := Bnd.cell GC.k (by subst hce; rw [LE.eq]; kernel_rfl) (by subst hce; kernel_rfl) (by have := (F₄.cell _ _ LE.ck).keeps x₁.ext; rwa [upd_eq] at this)
    have bg' : Bnd prog w A ce s₁'.heap "groups" gv := Bnd.cell GC.k (by subst hce; rw [LE.eq]; kernel_rfl) (by subst hce; kernel_rfl) (by have := (F₄.cell _ _ LE.cgroups).keeps x₁.ext; rwa [cgr] at this)
    obtain ⟨f1, f2, f3⟩ := G6.at hq
    have eg : ∀ {p}, Ev prog w A s₁' ce (.Name "groups" p) (fun v s => LI s.heap v gs) := fun {p} => ev_nameP bg' fun s y => hgs₄.mono (x₁.trans y).ext
    have hq6 : q < 6 := by omega
    refine ⟨fun s₂ x₂ => tests_one (evb_eq_int (ev_itemI (k := (q : Int)) eg (ev_nameP hb fun _ _ => .mk ..) (by omega) (by simpa using f1) (by rw [G6.1]; omega)) (ev_itemI (k := (i : Int)) eg (ev_nameP bk' fun _ _ => .mk ..) (by omega) (by simpa using e1) (by rw [G6.1]; omega))) x₂, fun _ => ?_⟩
    have := ev_strI (prog := prog) (w := w) (A := A) (s₀ := s₁') (env := ce) (np := ⟨171, 24, 171, 27⟩) (pos := ⟨171, 24, 171, 30⟩) (e := .Name "i" ⟨171, 28, 171, 29⟩) (k := (q : Int)) ((W₄.mono x₁.ext).blt GC (by subst hce; rw [LE.eq]; kernel_rfl) (n_str w) b_str (by decide)) (ev_nameP hb fun _ _ => .mk ..) (by rw [show (q : Int).natAbs = q by omega]; exact digit_log q hq6)
    rw [digit q hq6] at this
    exact this
  · obtain ⟨a, ys, e, hl', hn', pr⟩ := cv
    exact rds_strs ⟨a, ys, e, hl', strsAre_of_paired (g := fun q => ⟨#[48 + q]⟩) (Paired.mono' (fun i y ⟨_, _, h⟩ => h) pr)⟩
  refine wpAny_execs_nil ?_
  have F₅ := F₄.ext x₅.ext
  have hp₄ : HL s₅.heap pl (pairsOf gs n i) := (HL.own (F₂.ext x₃.ext) b₄.turned.keep (hp₂.mono x₃.ext)).mono x₅.ext
  have hne : toldI gs n i ≠ [] := fun e => by have := toldI_self (gs := gs) hi; rw [e] at this; cases this
  have btold₅ := btold.mono x₅.ext
  have etold : ∀ {p}, Ev prog w A s₅ env (.Name "told" p) (fun v s => LS s.heap v (digits (toldI gs n i))) := fun {p} => ev_nameP btold₅ fun s y => hto₄.mono (x₅.trans y).ext
  have estr : ∀ {p1 p2 p3}, Ev prog w A s₅ env (.Call (.Name "str" p1) [.Name "k" p2] [] p3) (fun v _ => StrV v ⟨#[48 + i]⟩) := fun {p1 p2 p3} => by
    have := ev_strI (prog := prog) (w := w) (A := A) (s₀ := s₅) (env := env) (np := p1) (pos := p3) (e := .Name "k" p2) (k := (i : Int)) ((W₄.mono x₅.ext).blt LE.G LE.str (n_str w) b_str (by decide)) (ek₄.at x₅) (by rw [show (i : Int).natAbs = i by omega]; exact digit_log i hin)
    rw [digit i hin] at this
    exact this
  have hhd : (digits (toldI gs n i))[0]? = some ⟨#[48 + (toldI gs n i).headD 0]⟩ := by
    unfold digits
    cases h : toldI gs n i with
    | nil => exact absurd h hne
    | cons a r => rfl
  have hlast : (digits (toldI gs n i))[(digits (toldI gs n i)).length - 1]? = some ⟨#[48 + (toldI gs n i).getLastD 0]⟩ := by
    have hpos : 0 < (toldI gs n i).length := List.length_pos_iff.mpr hne
    unfold digits
    rw [List.length_map, List.getElem?_map, List.getLastD_eq_getLast?, List.getLast?_eq_getElem?, List.getElem?_eq_getElem (by omega)]
    rfl
  have e40 : (Str.ofString "(") = ⟨#[40]⟩ := by decide +kernel
  have e41 : (Str.ofString ")") = ⟨#[41]⟩ := by decide +kernel
  have hdl : (digits (toldI gs n i)).length < 2 ^ 60 := by unfold digits; rw [List.length_map]; omega
  have beq48 : ∀ a b : Nat, ((⟨#[48 + a]⟩ : Str) == ⟨#[48 + b]⟩) = (a == b) := fun a b => by
    rw [sign_eq, Bool.eq_iff_iff, beq_iff_eq, beq_iff_eq]
    omega
  have c1 : ∀ {p1 p2 p3 p4 p5 p6 p7}, EvB prog w A s₅ env (.Compare (.Subscript (.Name "told" p1) (.Constant (.int 0) 0 p2) p3) [.Eq] [.Call (.Name "str" p4) [.Name "k" p5] [] p6] p7) ((toldI gs n i).headD 0 == i) := fun {p1 p2 p3 p4 p5 p6 p7} => by
    have := evb_eq_str (pos := p7) (ev_itemS (pos := p3) (k := 0) (etold (p := p1)) (ev_int (pos := p2) (k := 0)) (by decide) hhd (by omega)) (estr (p1 := p4) (p2 := p5) (p3 := p6))
    rw [beq48] at this
    exact this
  have c2 : ∀ {p1 p2 p2' p3 p4 p5 p6 p7}, EvB prog w A s₅ env (.Compare (.Subscript (.Name "told" p1) (.UnaryOp .USub (.Constant (.int 1) 0 p2) p2') p3) [.Eq] [.Call (.Name "str" p4) [.Name "k" p5] [] p6] p7) ((toldI gs n i).getLastD 0 == i) := fun {p1 p2 p2' p3 p4 p5 p6 p7} => by
    have := evb_eq_str (pos := p7) (ev_lastS (pos := p3) (etold (p := p1)) (ev_neg (pos := p2') (ev_int (pos := p2) (k := 0))) hlast hdl) (estr (p1 := p4) (p2 := p5) (p3 := p6))
    rw [beq48] at this
    exact this
  have bpairs : Bnd prog w A env s₅.heap "pairs" (.ref pl) := F₅.bndC (by rw [upd_ne (by decide +kernel), h2 _ (by decide +kernel)]; exact hpr) hf LE.pairs LE.cpairs
  obtain ⟨pvs, hpv, hpq⟩ := id hp₄
  have ifb : ∀ (b : Bool) (x y : Nat), (if b = true then x else y) = (if b then x else y) := fun _ _ _ => rfl
  refine wpAny_execs_cons (x_append (l := pl) (vs := pvs) (P := fun v s => PairAt s.heap (pairC gs n i) v) (ev_name bpairs) hpv (Ev.mono (ev_pair (P := fun v _ => StrV v ⟨#[(pairC gs n i).1]⟩) (R := fun v _ => StrV v ⟨#[(pairC gs n i).2]⟩) (ev_ifexp c1 (fun hc => ?_) (fun hc => ?_)) mono_str (ev_ifexp c2 (fun hc => ?_) (fun hc => ?_)) mono_str) fun v s y ⟨a, y1, z1, e, tup, ⟨t1, ey⟩, ⟨t2, ez⟩, fr⟩ => ⟨a, t1, t2, e, by subst ey ez; exact tup⟩) (by rw [← hpq.length]; simp [pairsOf]; omega) (fun v s₆ h₇ x₆ pa pl₇ sbut => ?_) (by rfl) LE.inter (by rfl))
  · rw [show (pairC gs n i).1 = 40 by unfold pairC; rw [if_pos hc], ← e40]; exact ev_str
  · rw [show (pairC gs n i).1 = 41 by unfold pairC; rw [if_neg (by rw [hc]; decide)], ← e41]; exact ev_str
  · rw [show (pairC gs n i).2 = 41 by simp only [pairC]; rw [if_pos hc], ← e41]; exact ev_str
  · rw [show (pairC gs n i).2 = 40 by simp only [pairC]; rw [if_neg (by rw [hc]; decide)], ← e40]; exact ev_str
  have kp : ∀ b o, b ∉ [pl] → s₆.heap.get? b = some o → h₇.get? b = some o := fun b o hb e => sbut.extBut b o (by simpa using hb) e
  have hpv₆ := hpv.at fun o e => x₆.ext _ _ e
  have tuples : ∀ b ∈ [pl], ∀ o, s₆.heap.get? b = some o → ∀ vs n, o.data = .seq vs n → o.cls = .type "tuple" → False := fun b hb o e vs n' q q' => by
    rw [List.mem_singleton] at hb
    obtain ⟨n'', h⟩ := hpv₆
    rw [hb, h] at e
    injection e with e
    rw [← e] at q'
    exact absurd (show Value.type "list" = .type "tuple" from q') (by decide)
  refine wpAny_execs_nil ⟨_, _, (F₅.ext x₆.ext).by (X := [pl]) (fun d hd => by rw [List.mem_singleton] at hd; rw [hd]; exact ⟨hlo, hnew⟩) kp, ⟨fun y hy => by rw [upd_ne hy]; exact h1 y hy, fun y hy => by rw [upd_ne hy]; exact h2 y hy, ?_⟩, ?_⟩
  · rw [pairsOf_succ]
    exact ⟨_, pl₇, PySem.Paired.snoc (Paired.mono' (fun c v pp => (pp.mono x₆.ext).by kp tuples) hpq) (pa.by kp tuples)⟩
  · exact ((t₂.trans (x₃.turned.trans (b₄.turned.trans (x₅.trans x₆).turned))).more fun b hb => List.mem_append.mpr (.inl hb)).trans ⟨fun b o hb e => kp b o (fun h => hb (List.mem_append.mpr (.inr h))) e, rfl, fun _ _ e => e, id⟩
end
end Mine
namespace Mine
def boolRows (n : Nat) (p : Nat → Nat → Bool) : List (List Bool) := (List.range n).map fun j => (List.range j).map fun i => p i j
def LB (h : Heap) (v : Value) (bs : List Bool) : Prop := ∃ a, v = .ref a ∧ h.IsList a (List.toArray (bs.map .bool))
def LLB (h : Heap) (v : Value) (rows : List (List Bool)) : Prop := ∃ a vs, v = .ref a ∧ h.IsList a (List.toArray vs) ∧ PySem.Paired (fun row y => LB h y row) rows vs
theorem LB.mono {h h' : Heap} {v : Value} {bs : List Bool} (x : LB h v bs) (e : Ext h h') : LB h' v bs := let ⟨a, p, q⟩ := x; ⟨a, p, isList_ext q e⟩
theorem LLB.mono {h h' : Heap} {v : Value} {rows : List (List Bool)} (x : LLB h v rows) (e : Ext h h') : LLB h' v rows := let ⟨a, vs, p, q, r⟩ := x; ⟨a, vs, p, isList_ext q e, Paired.mono' (fun _ _ h => h.mono e) r⟩
theorem FrC.lb {h₀ h h' : Heap} {env : Env} {m cm : Str → Option Value} (F : FrC h₀ env m cm h) {v : Value} {bs : List Bool} (x : LB h v bs) (hk : ∀ b o, Off env b → h.get? b = some o → h'.get? b = some o) : LB h' v bs := let ⟨a, p, q⟩ := x; ⟨a, p, F.list q hk⟩
theorem FrC.llb {h₀ h h' : Heap} {env : Env} {m cm : Str → Option Value} (F : FrC h₀ env m cm h) {v : Value} {rows : List (List Bool)} (x : LLB h v rows) (hk : ∀ b o, Off env b → h.get? b = some o → h'.get? b = some o) : LLB h' v rows :=
  let ⟨a, vs, p, q, r⟩ := x; ⟨a, vs, p, F.list q hk, Paired.mono' (fun _ _ h => F.lb h hk) r⟩
theorem FrC.lli {h₀ h h' : Heap} {env : Env} {m cm : Str → Option Value} (F : FrC h₀ env m cm h) {v : Value} {rows : List (List Int)} (x : LLI h v rows) (hk : ∀ b o, Off env b → h.get? b = some o → h'.get? b = some o) : LLI h' v rows :=
  let ⟨a, vs, p, q, r⟩ := x; ⟨a, vs, p, F.list q hk, Paired.mono' (fun _ _ h => F.listI h hk) r⟩
def RowB (g : Nat → List Bool) (i : Nat) (y : Value) (h₁ h' : Heap) : Prop := ∃ a, y = .ref a ∧ h'.IsList a (List.toArray ((g i).map .bool)) ∧ h₁.get? a = none
theorem rowB_fresh (g : Nat → List Bool) : FreshF (RowB g) := fun i y h₁ h' h'' ⟨a, e, ⟨o, l1, l2⟩, hn⟩ k => ⟨a, e, ⟨o, k a o hn l1, l2⟩, hn⟩
theorem bools_of_paired {g : Nat → Bool} : ∀ {l : List Nat} {ys : List Value}, PySem.Paired (fun i y => y = .bool (g i)) l ys → ys = (l.map g).map .bool
  | _, _, .nil => rfl
  | _, _, .cons h t => by rw [h, bools_of_paired t]; rfl
theorem compV_rowB {s₀ s : Shared} {n i : Nat} {g : Nat → Bool} {G : Nat → List Bool} {v : Value} (h : CompV s₀ n (fun _ => true) (fun i y _ _ => y = .bool (g i)) v s) (hG : G i = (List.range n).map g) : RowB G i v s₀.heap s.heap := by
  obtain ⟨a, ys, e, l, hn, pr⟩ := h
  rw [List.filter_eq_self.mpr (fun _ _ => rfl)] at pr
  have := bools_of_paired (Paired.mono' (fun i y ⟨_, _, h⟩ => h) pr)
  subst this
  exact ⟨a, e, by rw [hG]; exact l, hn⟩
theorem compV_rowsB {s₀ s : Shared} {n : Nat} {g : Nat → List Bool} {v : Value} (h : CompV s₀ n (fun _ => true) (RowB g) v s) : LLB s.heap v ((List.range n).map g) := by
  obtain ⟨a, ys, e, l, _, pr⟩ := h
  rw [List.filter_eq_self.mpr (fun _ _ => rfl)] at pr
  exact ⟨a, ys, e, l, paired_map (Paired.mono' (fun i y ⟨_, _, b, e, l, _⟩ => ⟨b, e, l⟩) pr)⟩
theorem paired_take {α β : Type} {F : α → β → Prop} : ∀ {l₁ : List α} {l₂ : List β} (k : Nat), PySem.Paired F l₁ l₂ → PySem.Paired F (l₁.take k) (l₂.take k)
  | _, _, 0, _ => by simp; exact .nil
  | _, _, k + 1, .nil => .nil
  | _, _, k + 1, .cons h t => .cons h (paired_take k t)
theorem paired_drop {α β : Type} {F : α → β → Prop} : ∀ {l₁ : List α} {l₂ : List β} (k : Nat), PySem.Paired F l₁ l₂ → PySem.Paired F (l₁.drop k) (l₂.drop k)
  | _, _, 0, h => h
  | _, _, k + 1, .nil => .nil
  | _, _, k + 1, .cons h t => paired_drop k t
theorem plain_append {a b : Str} (ha : Plain a) (hb : Plain b) : Plain (a ++ b) := fun c hc => by
  rcases Array.mem_append.mp (show c ∈ a.cps ++ b.cps from hc) with h | h
  · exact ha c h
  · exact hb c h
theorem plain_join {sep : Str} (hs : Plain sep) : ∀ {ss : List Str}, (∀ x ∈ ss, Plain x) → Plain (Txt.join sep ss) := by
  intro ss h
  have key : ∀ (rest : List Str) (acc : Array Nat), (∀ c ∈ acc, c < 128 ∧ c ≠ 92 ∧ c ≠ 34) → (∀ x ∈ rest, Plain x) → ∀ c ∈ rest.foldl (fun acc p => acc ++ sep.cps ++ p.cps) acc, c < 128 ∧ c ≠ 92 ∧ c ≠ 34 := by
    intro rest
    induction rest with
    | nil => intro acc ha _ c hc; exact ha c hc
    | cons x r ih =>
      intro acc ha hr c hc
      refine ih _ (fun c hc => ?_) (fun y hy => hr y (List.mem_cons_of_mem _ hy)) c hc
      rcases Array.mem_append.mp hc with hc | hc
      · rcases Array.mem_append.mp hc with hc | hc
        · exact ha c hc
        · exact hs c hc
      · exact hr x (List.mem_cons_self ..) c hc
  show Plain ⟨(ss.drop 1).foldl (fun acc p => acc ++ sep.cps ++ p.cps) (ss.headD Str.empty).cps⟩
  refine fun c hc => key _ _ ?_ (fun x hx => h x (List.mem_of_mem_drop hx)) c hc
  cases ss with
  | nil => intro c hc; simp [Str.empty] at hc
  | cons x r => exact h x (List.mem_cons_self ..)
def Brackets (ps : List (Nat × Nat)) : Prop := ∀ p ∈ ps, (p.1 = 40 ∨ p.1 = 41) ∧ (p.2 = 40 ∨ p.2 = 41)
theorem brackets_pairs (gs : List Int) (n i : Nat) : Brackets (pairsOf gs n i) := fun p hp => by
  obtain ⟨k, hk, e⟩ := List.mem_map.mp hp
  rw [← e]
  unfold pairC
  constructor
  · dsimp only; split <;> simp
  · dsimp only; split <;> simp
theorem Brackets.fine {ps : List (Nat × Nat)} (h : Brackets ps) : Fine ps := fun p hp => by
  have a : 40 ∈ signsHere := by decide
  have b : 41 ∈ signsHere := by decide
  obtain ⟨h1, h2⟩ := h p hp
  exact ⟨by rcases h1 with h1 | h1 <;> rw [h1] <;> assumption, by rcases h2 with h2 | h2 <;> rw [h2] <;> assumption⟩
theorem Brackets.plain {ps : List (Nat × Nat)} (h : Brackets ps) : Plain (headOf ps) := by
  unfold headOf
  refine plain_join (by unfold Plain; decide +kernel) fun x hx => ?_
  rcases List.mem_append.mp hx with hx | hx
  · obtain ⟨q, hq, e⟩ := List.mem_map.mp hx
    obtain ⟨h1, h2⟩ := h q hq
    rw [← e]
    intro c hc
    simp only [lineOf, List.mem_toArray, List.mem_cons, List.mem_nil_iff, or_false] at hc
    rcases hc with rfl | rfl | rfl | rfl
    · rcases h1 with h1 | h1 <;> rw [h1] <;> decide
    · decide
    · decide
    · rcases h2 with h2 | h2 <;> rw [h2] <;> decide
  · have : ∀ x ∈ blanks, Plain x := by unfold Plain; decide +kernel
    exact this x hx
end Mine
namespace Mine
section
variable {prog : Program} {w : World} {A : Around} {s : Shared} {env : Env} {h₀ : Heap} {m cm : Str → Option Value} {L : Addr} {Q : Flow → Shared → Prop}
theorem x_answers (LE : LawEnv w L env) (W : Wd w h₀) (R : RoomA 9 A) {n : Nat} {tc : Tok} {pl : Addr} {gs : List Int} (F : FrC h₀ env m cm s.heap) (hcount : m "count" = some (.int n tc)) (hpr : cm "pairs" = some (.ref pl)) (hn : n ≤ 6) (hp : HL s.heap pl (pairsOf gs n n))
    (k : ∀ v s', FrC h₀ env m (upd cm "answers" v) s'.heap → LLB s'.heap v (boolRows n (ansOf gs n)) → Turned (own env) s s' → Q .next s') :
    wpAny (model prog w) A (exec (nthS (roundBody w) 4) env) Q NoE s := by
  have hf := LE.G.k
  have W₀ := W.mono F.keep
  have big : 1000 ≤ sizeLine := by decide
  refine x_assignC (P := fun v s => LLB s.heap v (boolRows n (ansOf gs n))) F (Ev.mono (ev_comp_core (n := n) (P := fun i v => IntV v (i : Int)) (cl := [("pairs", L + 3)]) (x := "j") (fun _ => true) (RowB fun j => (List.range j).map fun i => ansOf gs n i j) (rowB_fresh _) (fun a => [("j", a), ("pairs", L + 3)])
      (.inr ⟨fun _ => rfl, fun _ => rfl, fun _ => rfl, by rw [LE.eq]; kernel_rfl⟩) ⟨_, rfl⟩ (by rw [LE.eq]; kernel_rfl) rfl (by decide +kernel) (EvI.x (evi_range1 R.hh (W₀.blt LE.G LE.range (n_range w) b_range (by decide)) (ev_nameP (F.bndL hcount hf LE.count) fun _ _ => .mk ..) (by omega))) (by omega) (by intro _; rfl) ?_) fun v s' y cv => compV_rowsB cv) hf LE.answers LE.canswers (fun v s₁ s₂ x₁ hv F₂ b₂ => k v s₂ F₂ ((F.ext x₁.ext).llb hv b₂.off) (x₁.turned.trans b₂.turned)) (swaps_cell LE.answers)
  intro C c j vj s₁ hj ⟨tj, hvj⟩ x₁ hb
  subst hvj
  generalize hce : compEnvC { kind := ScopeKind.function, names := [(".0", NameKind.local), ("j", NameKind.cell), ("range", NameKind.globalImplicit), ("pairs", NameKind.free)], isGenerator := false, isCoroutine := false } [("j", c), ("pairs", L + 3)] C env = ce at hb ⊢
  have GC : GEnv ce := by subst hce; rw [LE.eq]; exact ⟨by kernel_rfl, by kernel_rfl, by kernel_rfl⟩
  refine ⟨fun s₂ x₂ => tests_nil, fun _ => Ev.mono (ev_comp_core (n := j) (P := fun i v => IntV v (i : Int)) (cl := [("pairs", L + 3), ("j", c)]) (x := "i") (fun _ => true) (fun i y _ _ => y = .bool (ansOf gs n i j)) (fun i y h₁ h' h'' q _ => q) (fun _ => [("pairs", L + 3), ("j", c)])
    (.inl ⟨fun _ => rfl, fun _ => rfl, fun _ => rfl, by decide +kernel⟩) ⟨_, rfl⟩ (by subst hce; rw [LE.eq]; kernel_rfl) rfl (by decide +kernel) (EvI.x (evi_range1 R.hh ((W₀.mono x₁.ext).blt GC (by subst hce; rw [LE.eq]; kernel_rfl) (n_range w) b_range (by decide)) (ev_nameP hb fun _ _ => .mk ..) (by omega))) (by omega) (by intro _; rfl) ?_) fun v s y cv => compV_rowB cv rfl⟩
  intro C2 c2 i vi s₂ hi ⟨ti, hvi⟩ x₂ hb2
  subst hvi
  generalize hce2 : compEnvC { kind := ScopeKind.function, names := [(".0", NameKind.local), ("i", NameKind.local), ("_check_parenthesis", NameKind.globalImplicit), ("str", NameKind.globalImplicit), ("Headers", NameKind.globalImplicit), ("j", NameKind.free), ("pairs", NameKind.free)], isGenerator := false, isCoroutine := false } [("pairs", L + 3), ("j", c)] C2 ce = ce2 at hb2 ⊢
  have GC2 : GEnv ce2 := by subst hce2 hce; rw [LE.eq]; exact ⟨by kernel_rfl, by kernel_rfl, by kernel_rfl⟩
  have y₂ := x₁.trans x₂
  have W₂ := W₀.mono y₂.ext
  have bj : Bnd prog w A ce2 s₂.heap "j" (.int j tj) := fun s Q E e q => by
    rw [show loadName ce2 "j" = loadName ce "j" by subst hce2 hce; rw [LE.eq]; kernel_rfl]
    exact hb s Q E (x₂.ext.trans e) q
  have bp : Bnd prog w A ce2 s₂.heap "pairs" (.ref pl) := Bnd.cell GC2.k (by subst hce2 hce; rw [LE.eq]; kernel_rfl) (by subst hce2; kernel_rfl) (by have := (F.cell _ _ LE.cpairs).keeps y₂.ext; rwa [hpr] at this)
  obtain ⟨pvs, hpv, hpq⟩ := hp.mono y₂.ext
  have hlen : pvs.length = n := by rw [← hpq.length]; simp [pairsOf]
  generalize hsl : ((pairsOf gs n n).drop (i + 1)).take (j + 1 - (i + 1)) = sl
  have hBr : Brackets sl := fun q hq => brackets_pairs gs n n q (List.mem_of_mem_drop (List.mem_of_mem_take (hsl ▸ hq)))
  have hslz : sl.length ≤ 100 := by rw [← hsl, List.length_take, List.length_drop]; simp [pairsOf]; omega
  have hans : ansOf gs n i j = checks (headOf sl) := by unfold ansOf; rw [hsl]
  refine ⟨fun s₂ x₂ => tests_nil, fun _ => ?_⟩
  rw [hans]
  refine ev_call (W₂.glob GC2 (by subst hce2 hce; rw [LE.eq]; kernel_rfl) (g_check w)) (.func _ _ _ (W₂.K _ _ (at_check w)) rfl) (evs_one (ev_strHeaders (ps := sl) W₂ (R.less (by decide)) (W₂.blt GC2 (by subst hce2 hce; rw [LE.eq]; kernel_rfl) (n_str w) b_str (by decide)) (W₂.glob GC2 (by subst hce2 hce; rw [LE.eq]; kernel_rfl) (g_Headers w)) hBr.fine hslz ?_)) fun vs s' y ⟨v, e, t, e'⟩ => by subst e e'; exact check_ok (W₂.mono y.ext) (R.less (by decide)) hBr.plain
  refine ev_slice (vs := pvs) (lo := some ((i + 1 : Nat) : Int)) (hi := some ((j + 1 : Nat) : Int)) (ev_nameP bp fun s y => ⟨pl, rfl, isList_ext hpv.isList y.ext⟩) (fun s y => part_some (ev_add (ev_nameP hb2 fun _ _ => .mk ..) ev_int) y) (fun s y => part_some (ev_add (ev_nameP bj fun _ _ => .mk ..) ev_int) y) (by omega) fun a s y hnew pll => ⟨a, rfl, ?_⟩
  rw [slicePick_run _ _ _ (by rw [List.size_toArray]; omega) (by omega)] at pll
  refine ⟨_, pll, ?_⟩
  rw [← hsl]
  exact Paired.mono' (fun c v p => p.mono y.ext) (paired_take _ (paired_drop _ hpq))
end
end Mine
namespace Mine
section
variable {prog : Program} {w : World} {A : Around} {s₀ s : Shared} {env : Env} {h₀ : Heap} {m cm : Str → Option Value} {L : Addr} {Q : Flow → Shared → Prop} {pos : Pos}
/-- a row of a list of lists of truths -/
theorem ev_rowB {value slice : PySem.Expr} {rows : List (List Bool)} {k : Nat} {r : List Bool} (hv : Ev prog w A s₀ env value (fun v s => LLB s.heap v rows)) (hi : Ev prog w A s₀ env slice (fun v _ => IntV v (k : Int))) (hx : rows[k]? = some r) (hk : k < 1000)
    (hs : ∀ l u, subscripted slice false (.ref l) (.int k u) = operate [.ref l, .int k u] (getItem (.ref l) (.int k u)) := by intro _ _; with_unfolding_all rfl) :
    Ev prog w A s₀ env (.Subscript value slice pos) (fun v s => LB s.heap v r) :=
  ev_subs hv hi fun o i s₁ s₂ x₁ ⟨l, vs, e, hl, h⟩ x₂ hi => by
    subst e
    obtain ⟨y, e, q⟩ := Paired.get h hx
    exact t_item_list (isList_ext hl x₂.ext) hi (by omega) (by omega) (by simpa using e) (q.mono x₂.ext) (hs l)
theorem ev_rowI {value slice : PySem.Expr} {rows : List (List Int)} {k : Nat} {r : List Int} (hv : Ev prog w A s₀ env value (fun v s => LLI s.heap v rows)) (hi : Ev prog w A s₀ env slice (fun v _ => IntV v (k : Int))) (hx : rows[k]? = some r) (hk : k < 1000)
    (hs : ∀ l u, subscripted slice false (.ref l) (.int k u) = operate [.ref l, .int k u] (getItem (.ref l) (.int k u)) := by intro _ _; with_unfolding_all rfl) :
    Ev prog w A s₀ env (.Subscript value slice pos) (fun v s => LI s.heap v r) :=
  ev_subs hv hi fun o i s₁ s₂ x₁ ⟨l, vs, e, hl, h⟩ x₂ hi => by
    subst e
    obtain ⟨y, e, q⟩ := Paired.get h hx
    exact t_item_list (isList_ext hl x₂.ext) hi (by omega) (by omega) (by simpa using e) (q.mono x₂.ext) (hs l)
theorem ev_itemB {value slice : PySem.Expr} {bs : List Bool} {k : Nat} {b : Bool} (hv : Ev prog w A s₀ env value (fun v s => LB s.heap v bs)) (hi : Ev prog w A s₀ env slice (fun v _ => IntV v (k : Int))) (hx : bs[k]? = some b) (hk : k < 1000)
    (hs : ∀ l u, subscripted slice false (.ref l) (.int k u) = operate [.ref l, .int k u] (getItem (.ref l) (.int k u)) := by intro _ _; with_unfolding_all rfl) :
    Ev prog w A s₀ env (.Subscript value slice pos) (fun v _ => v = .bool b) :=
  ev_subs hv hi fun o i s₁ s₂ x₁ ⟨l, e, hl⟩ x₂ hi => by
    subst e
    exact t_item_list (isList_ext hl x₂.ext) hi (by omega) (by omega) (by simp [hx]) rfl (hs l)
theorem rowsBy_get (n : Nat) (p : Nat → Nat → Bool) (j : Nat) (hj : j < n) : (rowsBy n p)[j]? = some (((List.range j).filter fun i => p i j).map fun (i : Nat) => (i : Int)) := by
  unfold rowsBy
  rw [List.getElem?_map, List.getElem?_range hj]
  rfl
theorem boolRows_get (n : Nat) (p : Nat → Nat → Bool) (j : Nat) (hj : j < n) : (boolRows n p)[j]? = some ((List.range j).map fun i => p i j) := by
  unfold boolRows
  rw [List.getElem?_map, List.getElem?_range hj]
  rfl
theorem x_alike (LE : LawEnv w L env) (W : Wd w h₀) (R : RoomA 9 A) {n : Nat} {tc : Tok} {p : Nat → Nat → Bool} {av : Value} (F : FrC h₀ env m cm s.heap) (hcount : m "count" = some (.int n tc)) (han : cm "answers" = some av) (hn : n ≤ 6) (ha : LLB s.heap av (boolRows n p))
    (k : ∀ v s', FrC h₀ env m (upd cm "alike" v) s'.heap → LLI s'.heap v (rowsBy n p) → Turned (own env) s s' → Q .next s') :
    wpAny (model prog w) A (exec (nthS (roundBody w) 5) env) Q NoE s := by
  have hf := LE.G.k
  have W₀ := W.mono F.keep
  have big : 1000 ≤ sizeLine := by decide
  refine x_assignC (P := fun v s => LLI s.heap v (rowsBy n p)) F (Ev.mono (ev_comp_core (n := n) (P := fun i v => IntV v (i : Int)) (cl := [("answers", L + 4)]) (x := "j") (fun _ => true) (RowF fun j => ((List.range j).filter fun i => p i j).map fun (i : Nat) => (i : Int)) (rowF_fresh _) (fun a => [("j", a), ("answers", L + 4)])
      (.inr ⟨fun _ => rfl, fun _ => rfl, fun _ => rfl, by rw [LE.eq]; kernel_rfl⟩) ⟨_, rfl⟩ (by rw [LE.eq]; kernel_rfl) rfl (by decide +kernel) (EvI.x (evi_range1 R.hh (W₀.blt LE.G LE.range (n_range w) b_range (by decide)) (ev_nameP (F.bndL hcount hf LE.count) fun _ _ => .mk ..) (by omega))) (by omega) (by intro _; rfl) ?_) fun v s' y cv => compV_rows cv) hf LE.alike LE.calike (fun v s₁ s₂ x₁ hv F₂ b₂ => k v s₂ F₂ ((F.ext x₁.ext).lli hv b₂.off) (x₁.turned.trans b₂.turned)) (swaps_cell LE.alike)
  intro C c j vj s₁ hj ⟨tj, hvj⟩ x₁ hb
  subst hvj
  generalize hce : compEnvC { kind := ScopeKind.function, names := [(".0", NameKind.local), ("j", NameKind.cell), ("range", NameKind.globalImplicit), ("answers", NameKind.free)], isGenerator := false, isCoroutine := false } [("j", c), ("answers", L + 4)] C env = ce at hb ⊢
  have GC : GEnv ce := by subst hce; rw [LE.eq]; exact ⟨by kernel_rfl, by kernel_rfl, by kernel_rfl⟩
  refine ⟨fun s₂ x₂ => tests_nil, fun _ => Ev.mono (ev_comp_core (n := j) (P := fun i v => IntV v (i : Int)) (cl := [("j", c), ("answers", L + 4)]) (x := "i") (fun i => p i j) (fun i y _ _ => IntV y (i : Int)) (fun i y h₁ h' h'' q _ => q) (fun _ => [("j", c), ("answers", L + 4)])
    (.inl ⟨fun _ => rfl, fun _ => rfl, fun _ => rfl, by decide +kernel⟩) ⟨_, rfl⟩ (by subst hce; rw [LE.eq]; kernel_rfl) rfl (by decide +kernel) (EvI.x (evi_range1 R.hh ((W₀.mono x₁.ext).blt GC (by subst hce; rw [LE.eq]; kernel_rfl) (n_range w) b_range (by decide)) (ev_nameP hb fun _ _ => .mk ..) (by omega))) (by omega) (by intro _; rfl) ?_) fun v s y cv => compV_row cv rfl⟩
  intro C2 c2 i vi s₂ hi hvi x₂ hb2
  generalize hce2 : compEnvC { kind := ScopeKind.function, names := [(".0", NameKind.local), ("i", NameKind.local), ("answers", NameKind.free), ("j", NameKind.free)], isGenerator := false, isCoroutine := false } [("j", c), ("answers", L + 4)] C2 ce = ce2 at hb2 ⊢
  have GC2 : GEnv ce2 := by subst hce2 hce; rw [LE.eq]; exact ⟨by kernel_rfl, by kernel_rfl, by kernel_rfl⟩
  have y₂ := x₁.trans x₂
  have bj : Bnd prog w A ce2 s₂.heap "j" (.int j tj) := fun s Q E e q => by
    rw [show loadName ce2 "j" = loadName ce "j" by subst hce2 hce; rw [LE.eq]; kernel_rfl]
    exact hb s Q E (x₂.ext.trans e) q
  have ba : Bnd prog w A ce2 s₂.heap "answers" av := Bnd.cell GC2.k (by subst hce2 hce; rw [LE.eq]; kernel_rfl) (by subst hce2; kernel_rfl) (by have := (F.cell _ _ LE.canswers).keeps y₂.ext; rwa [han] at this)
  refine ⟨fun s₃ x₃ => tests_one ?_ x₃, fun _ => ev_nameP hb2 fun _ _ => hvi⟩
  have := evb_is (prog := prog) (w := w) (A := A) (s₀ := s₂) (env := ce2) (pos := ⟨175, 41, 175, 62⟩) (a := .bool (p i j)) (b := .bool true) (ev_itemB (pos := ⟨175, 41, 175, 54⟩) (k := i) (bs := (List.range j).map fun i => p i j) (ev_rowB (pos := ⟨175, 41, 175, 51⟩) (k := j) (ev_nameP (x := "answers") (pos := ⟨175, 41, 175, 48⟩) ba fun s y => ha.mono (y₂.trans y).ext) (ev_nameP (x := "j") (pos := ⟨175, 49, 175, 50⟩) bj fun _ _ => .mk ..) (boolRows_get n p j hj) (by omega)) (ev_nameP (x := "i") (pos := ⟨175, 52, 175, 53⟩) hb2 fun _ _ => hvi) (by rw [List.getElem?_map, List.getElem?_range hi]; rfl) (by omega)) (ev_bool (b := true) (k := 0) (pos := ⟨175, 58, 175, 62⟩)) (by cases p i j <;> rfl)
  have e : (Value.bool (p i j) == Value.bool true) = p i j := by cases p i j <;> rfl
  rw [e] at this
  exact this
theorem x_groups (LE : LawEnv w L env) (W : Wd w h₀) (R : RoomA 9 A) {n : Nat} {tc : Tok} {gs : List Int} {av : Value} (F : FrC h₀ env m cm s.heap) (hcount : m "count" = some (.int n tc)) (hal : cm "alike" = some av) (hn : n ≤ 6) (ha : LLI s.heap av (alikeOf gs n))
    (k : ∀ v s', FrC h₀ env m (upd cm "groups" v) s'.heap → LI s'.heap v (nextOf gs n) → Turned (own env) s s' → Q .next s') :
    wpAny (model prog w) A (exec (nthS (roundBody w) 7) env) Q NoE s := by
  have hf := LE.G.k
  have W₀ := W.mono F.keep
  have big : 1000 ≤ sizeLine := by decide
  refine x_assignC (P := fun v s => LI s.heap v (nextOf gs n)) F (Ev.mono (ev_comp_core (n := n) (P := fun i v => IntV v (i : Int)) (cl := [("alike", L + 5)]) (x := "j") (fun _ => true) (fun j y _ _ => IntV y (((alikeOf gs n).getD j [] ++ [(j : Int)]).headD 0)) (fun i y h₁ h' h'' q _ => q) (fun _ => [("alike", L + 5)])
      (.inl ⟨fun _ => rfl, fun _ => rfl, fun _ => rfl, by decide +kernel⟩) ⟨_, rfl⟩ (by rw [LE.eq]; kernel_rfl) rfl (by decide +kernel) (EvI.x (evi_range1 R.hh (W₀.blt LE.G LE.range (n_range w) b_range (by decide)) (ev_nameP (F.bndL hcount hf LE.count) fun _ _ => .mk ..) (by omega))) (by omega) (by intro _; rfl) ?_) fun v s' y cv => ?_) hf LE.groups LE.cgroups (fun v s₁ s₂ x₁ hv F₂ b₂ => k v s₂ F₂ ((F.ext x₁.ext).listI hv b₂.off) (x₁.turned.trans b₂.turned)) (swaps_cell LE.groups)
  · intro C c j vj s₁ hj hvj x₁ hb
    generalize hce : compEnvC { kind := ScopeKind.function, names := [(".0", NameKind.local), ("j", NameKind.local), ("alike", NameKind.free)], isGenerator := false, isCoroutine := false } [("alike", L + 5)] C env = ce at hb ⊢
    have GC : GEnv ce := by subst hce; rw [LE.eq]; exact ⟨by kernel_rfl, by kernel_rfl, by kernel_rfl⟩
    have ba : Bnd prog w A ce s₁.heap "alike" av := Bnd.cell GC.k (by subst hce; rw [LE.eq]; kernel_rfl) (by subst hce; kernel_rfl) (by have := (F.cell _ _ LE.calike).keeps x₁.ext; rwa [hal] at this)
    have hget := rowsBy_get n (fun i j => ansOf gs n i j) j hj
    have hD : (alikeOf gs n).getD j [] = ((List.range j).filter fun i => ansOf gs n i j).map fun (i : Nat) => (i : Int) := by
      unfold alikeOf
      rw [List.getD_eq_getElem?_getD, hget]
      rfl
    have hlen : (((List.range j).filter fun i => ansOf gs n i j).map fun (i : Nat) => (i : Int)).length ≤ j := by
      rw [List.length_map]
      exact Nat.le_trans (List.length_filter_le _ _) (by simp)
    rw [hD]
    generalize ((List.range j).filter fun i => ansOf gs n i j).map (fun (i : Nat) => (i : Int)) = row at hget hlen
    refine ⟨fun s₂ x₂ => tests_nil, fun _ => ev_itemI (k := 0) (ns := row ++ [(j : Int)]) (ev_addI (ev_rowI (k := j) (ev_nameP ba fun s y => ha.mono (x₁.trans y).ext) (ev_nameP hb fun _ _ => hvj) hget (by omega)) (Ev.mono (ev_list_ints (.cons (ev_nameP hb fun _ _ => hvj) (by rfl) .nil) (by decide)) fun v s y h => h.li) (by simp; omega)) ev_int (by decide) ?_ (by simp; omega)⟩
    cases row <;> rfl
  · have := compV_ints cv
    rw [List.filter_eq_self.mpr (fun _ _ => rfl)] at this
    exact this
end
end Mine
namespace Mine
section
variable {prog : Program} {w : World} {A : Around}
theorem flat_inner {elt iter1 test : PySem.Expr} {xr x : Str} {pr pr2 px : Pos} {scope : Scope} {pos : Pos} {acc : Value} {cenv : Env} {J ra : Addr} {bs : List Value} {R : Result → Shared → Prop} {s : Shared} (hh : A.handled = none) (hf : cenv.scope.kind = .function) (hx : cenv.kindOf x = some .local)
    (hne : ra ≠ J) (hCJ : cenv.locals ≠ J) (hCr : cenv.locals ≠ ra) (hit : s.heap.IsListIter J ra 0) (hl : s.heap.IsList ra bs.toArray) (hC : ∃ m, s.heap.Ns cenv.locals m)
    (htest : ∀ s₁ v, Turned [cenv.locals, J] s s₁ → v ∈ bs → Bnd prog w A cenv s₁.heap x v → EvB prog w A s₁ cenv test false)
    (done : ∀ s', Turned [cenv.locals, J] s s' → (∃ m, s'.heap.Ns cenv.locals m) → R (.ok .next) s') :
    codeAny (model prog w) A (.compLoop (.ListComp elt [⟨.Name xr pr, iter1, [], 0⟩, ⟨.Name x px, .Name xr pr2, [test], 0⟩] scope pos) 1 (.ref J) acc cenv) R s := by
  have Wk := Walks.list (prog := prog) (w := w) (A := A) hh J ra hne bs.toArray
  refine codeAny_loop rfl (fun k s' => ∃ i, i ≤ bs.length ∧ k = bs.length - i ∧ (s'.heap.IsListIter J ra i ∧ s'.heap.IsList ra bs.toArray) ∧ (∃ m, s'.heap.Ns cenv.locals m) ∧ Turned [cenv.locals, J] s s') ?_ bs.length ⟨0, Nat.zero_le _, rfl, ⟨hit, hl⟩, hC, .refl _ _⟩
  rintro k s' ⟨i, hi, rfl, st, ⟨m, hm⟩, t⟩
  show wpAny _ A ((compTurn _ 1 (.ref J) acc cenv).onRaise (fun x => do noteFrame x cenv; theTreesLotGoes x)) _ _ s'
  refine wpAny_noted ?_
  unfold compTurn
  show wpAny _ A (standAt pr2 >>= _) _ _ s'
  by_cases hlt : i < bs.length
  · refine wpAny_bind (wpAny_standAt (wpAny_bind (Wk.item i _ _ _ (by simpa using hlt) st fun v h₁ tk₁ hP st₁ hk₁ => ?_)))
    have kC : ∀ o, s'.heap.get? cenv.locals = some o → h₁.get? cenv.locals = some o := fun o e => hk₁ _ _ (by simpa using hCJ) e
    have t₁ : Turned [cenv.locals, J] s { s' with heap := h₁, toks := tk₁ } := t.trans ⟨fun b o hb e => hk₁ b o (fun h => hb (List.mem_cons_of_mem _ h)) e, rfl, fun _ _ e => e, id⟩
    refine wpAny_bind (wpAny_of_eq (rfl : letOwnedTupleGo (.Name x px) (.ref J) v = Pure.pure ()) ?_)
    refine wpAny_bind (wpAny_assign_Name (wpAny_storeName_local hx (hm.at' kC) (fun h₂ hn hs => ?_) (by rw [hf]; rfl)))
    have t₂ : Turned [cenv.locals, J] s { s' with heap := h₂, toks := tk₁ + 1 } := t₁.trans ⟨fun b o hb e => hs.extBut b o (fun q => hb (by simp [q])) e, rfl, fun _ _ e => e, id⟩
    have hv : v ∈ bs := List.mem_of_getElem? (by simpa using hP)
    have st₂ := Wk.frame _ _ _ st₁ fun b hb o e => hs.extBut b o (fun q => by
      simp only [List.mem_cons, List.mem_nil_iff, or_false] at hb
      rcases hb with hb | hb
      · exact hCJ (q ▸ hb)
      · exact hCr (q ▸ hb)) e
    have ht := htest _ v t₂ hv (Bnd.local hn (by simp) hf hx)
    refine wpAny_bind (T.wp (P := fun ok _ => ok = false) (tests_one ht (.refl _)) fun ok s₃ x₃ e => ?_)
    subst e
    refine wpAny_pure ⟨rfl, bs.length - (i + 1), by omega, i + 1, hlt, rfl, Wk.frame _ _ _ st₂ fun b _ o e => x₃.ext b o e, ⟨_, hn.keeps x₃.ext⟩, t₂.trans x₃.turned⟩
  · have : i = bs.length := by omega
    subst this
    refine wpAny_bind (wpAny_standAt (wpAny_bind (Wk.done _ _ _ (by simpa using st) fun h₁ tk₁ hk₁ => ?_)))
    have kC : ∀ o, s'.heap.get? cenv.locals = some o → h₁.get? cenv.locals = some o := fun o e => hk₁ _ _ (by simpa using hCJ) e
    exact wpAny_pure (done _ (t.trans ⟨fun b o hb e => hk₁ b o (fun h => hb (List.mem_cons_of_mem _ h)) e, rfl, fun _ _ e => e, id⟩) ⟨m, hm.at' kC⟩)
theorem start_inner {elt iter1 test : PySem.Expr} {xr x : Str} {pr pr2 px : Pos} {scope : Scope} {pos : Pos} {acc : Value} {cenv : Env} {J : Addr} {R : Result → Shared → Prop} {s : Shared}
    (h0 : codeAny (model prog w) A (.compLoop (.ListComp elt [⟨.Name xr pr, iter1, [], 0⟩, ⟨.Name x px, .Name xr pr2, [test], 0⟩] scope pos) 1 (.ref J) acc cenv) R s)
    (h1 : ∀ Q E, Q (.ref J) s → wpAny (model prog w) A (pyIter (.ref J)) Q E s) :
    codeAny (model prog w) A (.compStart (.ListComp elt [⟨.Name xr pr, iter1, [], 0⟩, ⟨.Name x px, .Name xr pr2, [test], 0⟩] scope pos) 1 (.ref J) acc cenv) R s := by
  refine codeAny_of_tree (wpAny_notedAt ?_)
  unfold compStart
  refine wpAny_bind (wpAny_askSetting ?_)
  split
  · exact wpAny_bind (wpAny_pure (wpAny_pure ⟨rfl, h0⟩))
  · exact wpAny_bind (wpAny_rule (wpAny_bind (wpAny_standAt (wpAny_bind (h1 _ _ (wpAny_pure ⟨rfl, h0⟩))))))
theorem flat_outer {elt iter1 test : PySem.Expr} {xr x : Str} {pr pr2 px : Pos} {scope : Scope} {pos : Pos} {acc : Value} {cenv : Env} {I oa : Addr} {rows : List Value} {Good : Value → Prop} {R : Result → Shared → Prop} {s : Shared} (hh : A.handled = none) (hf : cenv.scope.kind = .function) (hxr : cenv.kindOf xr = some .local) (hx : cenv.kindOf x = some .local) (hdb : (xr == ("__debug__" : Str)) = false)
    (hne : oa ≠ I) (hCI : cenv.locals ≠ I) (hCo : cenv.locals ≠ oa) (hit : s.heap.IsListIter I oa 0) (hl : s.heap.IsList oa rows.toArray) (hC : ∃ m, s.heap.Ns cenv.locals m)
    (hrows : ∀ v ∈ rows, ∃ ra bs, v = .ref ra ∧ s.heap.IsList ra (List.toArray bs) ∧ ra ≠ I ∧ ra ≠ cenv.locals ∧ ∀ y ∈ bs, Good y)
    (htest : ∀ s₁ v, Turned [cenv.locals, I] s s₁ → Good v → Bnd prog w A cenv s₁.heap x v → EvB prog w A s₁ cenv test false)
    (done : ∀ s', Turned [cenv.locals, I] s s' → (∃ m, s'.heap.Ns cenv.locals m) → R (.ok .next) s') :
    codeAny (model prog w) A (.compLoop (.ListComp elt [⟨.Name xr pr, iter1, [], 0⟩, ⟨.Name x px, .Name xr pr2, [test], 0⟩] scope pos) 0 (.ref I) acc cenv) R s := by
  have Wk := Walks.list (prog := prog) (w := w) (A := A) hh I oa hne rows.toArray
  refine codeAny_loop rfl (fun k s' => ∃ i, i ≤ rows.length ∧ k = rows.length - i ∧ (s'.heap.IsListIter I oa i ∧ s'.heap.IsList oa rows.toArray) ∧ (∃ m, s'.heap.Ns cenv.locals m) ∧ Turned [cenv.locals, I] s s') ?_ rows.length ⟨0, Nat.zero_le _, rfl, ⟨hit, hl⟩, hC, .refl _ _⟩
  rintro k s' ⟨i, hi, rfl, st, ⟨m, hm⟩, t⟩
  show wpAny _ A ((compTurn _ 0 (.ref I) acc cenv).onRaise (fun x => do noteFrame x cenv; theTreesLotGoes x)) _ _ s'
  refine wpAny_noted ?_
  unfold compTurn
  show wpAny _ A (standAt iter1.pos >>= _) _ _ s'
  by_cases hlt : i < rows.length
  · refine wpAny_bind (wpAny_standAt (wpAny_bind (Wk.item i _ _ _ (by simpa using hlt) st fun v h₁ tk₁ hP st₁ hk₁ => ?_)))
    have kC : ∀ o, s'.heap.get? cenv.locals = some o → h₁.get? cenv.locals = some o := fun o e => hk₁ _ _ (by simpa using hCI) e
    have t₁ : Turned [cenv.locals, I] s { s' with heap := h₁, toks := tk₁ } := t.trans ⟨fun b o hb e => hk₁ b o (fun h => hb (List.mem_cons_of_mem _ h)) e, rfl, fun _ _ e => e, id⟩
    refine wpAny_bind (wpAny_of_eq (rfl : letOwnedTupleGo (.Name xr pr) (.ref I) v = Pure.pure ()) ?_)
    refine wpAny_bind (wpAny_assign_Name (wpAny_storeName_local hxr (hm.at' kC) (fun h₂ hn hs => ?_) (by rw [hf]; rfl)))
    have t₂ : Turned [cenv.locals, I] s { s' with heap := h₂, toks := tk₁ + 1 } := t₁.trans ⟨fun b o hb e => hs.extBut b o (fun q => hb (by simp [q])) e, rfl, fun _ _ e => e, id⟩
    have hv : v ∈ rows := List.mem_of_getElem? (by simpa using hP)
    obtain ⟨ra, bs, rfl, hra, hrI, hrC, hgood⟩ := hrows v hv
    have st₂ := Wk.frame _ _ _ st₁ fun b hb o e => hs.extBut b o (fun q => by
      simp only [List.mem_cons, List.mem_nil_iff, or_false] at hb
      rcases hb with hb | hb
      · exact hCI (q ▸ hb)
      · exact hCo (q ▸ hb)) e
    have hra₂ : h₂.IsList ra bs.toArray := let ⟨o, q1, q2⟩ := hra; ⟨o, t₂.keep _ _ (by simp [hrI, hrC]) q1, q2⟩
    show wpAny _ A (eval (.Name xr pr2) cenv >>= _) _ _ _
    refine wpAny_bind (wpAny_Name (Bnd.local (prog := prog) (w := w) (A := A) (v := .ref ra) hn (by simp) hf hxr { s' with heap := h₂, toks := tk₁ + 1 } _ _ (Ext.refl _) ?_) hdb)
    refine wpAny_bind (wpAny_standAt (wpAny_bind (wpAny_of_eq (rfl : foldedSetIterable (.Name xr pr2) cenv (.ref ra) = Pure.pure (.ref ra)) (wpAny_bind (wpAny_holding (wpAny_pyIter_list hra₂ (wpAny_bind (wpAny_runOwn ?_))))))))
    generalize hH : h₂.push { cls := .type "list_iterator", data := .fields #[.ref ra, .int 0 0] } = H
    have eH : Ext h₂ H := hH ▸ Ext.push _ _
    have lt : ∀ {b o}, h₂.get? b = some o → b ≠ h₂.objs.size := fun e => Nat.ne_of_lt (Heap.lt_size e)
    have hJit : H.IsListIter h₂.objs.size ra 0 := hH ▸ ⟨_, Heap.get?_push_size _ rfl, rfl, rfl⟩
    obtain ⟨oC, esC, nC, hgC, _⟩ := id hn
    obtain ⟨ora, hgra, _⟩ := id hra₂
    have tH : Turned [cenv.locals, I] s { s' with heap := H, toks := tk₁ + 1 } := t₂.trans ⟨fun b o _ e => eH b o e, rfl, fun _ _ e => e, id⟩
    have WJ := Walks.list (prog := prog) (w := w) (A := A) hh h₂.objs.size ra (lt hgra) bs.toArray
    have hnew : s.heap.get? h₂.objs.size = none := by
      cases q : s.heap.get? h₂.objs.size with
      | none => rfl
      | some o =>
        by_cases hm : h₂.objs.size ∈ [cenv.locals, I]
        · simp only [List.mem_cons, List.mem_nil_iff, or_false] at hm
          rcases hm with hm | hm
          · exact absurd hm.symm (lt hgC)
          · obtain ⟨⟨oI, hI, _⟩, _⟩ := st₂
            exact absurd hm.symm (lt hI)
        · exact absurd rfl (lt (t₂.keep _ _ hm q))
    have lift : ∀ s₁, Turned [cenv.locals, h₂.objs.size] { s' with heap := H, toks := tk₁ + 1 } s₁ → Turned [cenv.locals, I] s s₁ := fun s₁ u =>
      ⟨fun b o hb e => u.keep b o (fun h => by
        simp only [List.mem_cons, List.mem_nil_iff, or_false] at h
        rcases h with h | h
        · exact hb (by simp [h])
        · rw [h, hnew] at e; cases e) (tH.keep b o hb e), u.os.trans tH.os, fun i g e => u.gens i g (tH.gens i g e), fun q => u.bare (tH.bare q)⟩
    refine start_inner (flat_inner hh hf hx (lt hgra) (lt hgC) (Ne.symm hrC) hJit (isList_ext hra₂ eH) ⟨_, hn.keeps eH⟩ (fun s₁ v u hv hb => htest s₁ v (lift s₁ u) (hgood v hv) hb) fun s₁ u hC₁ => ?_) (fun Q E q => WJ.self 0 _ _ _ ⟨hJit, isList_ext hra₂ eH⟩ q)
    refine wpAny_pure ⟨rfl, rows.length - (i + 1), by omega, i + 1, hlt, rfl, ?_, hC₁, lift s₁ u⟩
    refine Wk.frame _ _ _ st₂ fun b hb o e => u.keep b o (fun h => ?_) (eH _ _ e)
    simp only [List.mem_cons, List.mem_nil_iff, or_false] at hb h
    rcases h with h | h
    · rcases hb with hb | hb
      · exact hCI (h ▸ hb)
      · exact hCo (h ▸ hb)
    · exact lt e h
  · have : i = rows.length := by omega
    subst this
    refine wpAny_bind (wpAny_standAt (wpAny_bind (Wk.done _ _ _ (by simpa using st) fun h₁ tk₁ hk₁ => ?_)))
    have kC : ∀ o, s'.heap.get? cenv.locals = some o → h₁.get? cenv.locals = some o := fun o e => hk₁ _ _ (by simpa using hCI) e
    exact wpAny_pure (done _ (t.trans ⟨fun b o hb e => hk₁ b o (fun h => hb (List.mem_cons_of_mem _ h)) e, rfl, fun _ _ e => e, id⟩) ⟨m, hm.at' kC⟩)
end
end Mine
namespace Mine
section
variable {prog : Program} {w : World} {A : Around} {s₀ : Shared} {env : Env}
theorem ev_flat {elt iter1 test : PySem.Expr} {xr x : Str} {pr pr2 px : Pos} {scope : Scope} {pos : Pos} {oa : Addr} {rows : List Value} {Good : Value → Prop} (hh : A.handled = none) (hdb : (xr == ("__debug__" : Str)) = false)
    (hp : ∀ h, pushCells h scope.names = h) (hcf : ∀ a, cellsFrom a scope.names [] = []) (hclos : closureFor scope env = Pure.pure []) (hkind : scope.kind = .function) (hnames : ∀ y ∈ scope.names, y.2 = .local → scope.names.lookup y.1 = some .local)
    (hxr : scope.names.lookup xr = some .local) (hx : scope.names.lookup x = some .local)
    (hit : Ev prog w A s₀ env iter1 (fun v s => v = .ref oa ∧ s.heap.IsList oa rows.toArray ∧ ∀ v ∈ rows, ∃ ra bs, v = .ref ra ∧ s.heap.IsList ra (List.toArray bs) ∧ ∀ y ∈ bs, Good y)) (hs : ∀ x, foldedSetIterable iter1 env x = Pure.pure x)
    (htest : ∀ C s₁ v, Sx s₀ s₁ → Good v → Bnd prog w A (compEnvC scope [] C env) s₁.heap x v → EvB prog w A s₁ (compEnvC scope [] C env) test false) :
    Ev prog w A s₀ env (.ListComp elt [⟨.Name xr pr, iter1, [], 0⟩, ⟨.Name x px, .Name xr pr2, [test], 0⟩] scope pos) (fun v s' => ∃ a, v = .ref a ∧ s'.heap.IsList a #[]) := by
  intro s hx0
  show wpAny _ _ (eval (.ListComp elt [⟨.Name xr pr, iter1, [], 0⟩, ⟨.Name x px, .Name xr pr2, [test], 0⟩] scope pos) env) _ _ s
  rw [eval_ListComp]
  refine wpAny_comprehension_free (use := none) rfl hs hclos hkind hnames ((hit s hx0).wp fun xv s₁ x₁ ⟨e, hl, hr⟩ => ?_)
  subst e
  refine wpAny_pyIter_list hl ?_
  generalize hs₂ : ({ s₁ with heap := s₁.heap.push { cls := .type "list_iterator", data := .fields #[.ref oa, .int 0 0] } } : Shared) = s₂
  have x₂ : Sx s₁ s₂ := hs₂ ▸ sx_push _
  have hIt : s₂.heap.IsListIter s₁.heap.objs.size oa 0 := hs₂ ▸ ⟨_, Heap.get?_push_size _ rfl, rfl, rfl⟩
  have hl₂ := isList_ext hl x₂.ext
  have hsz₂ : s₂.heap.objs.size = s₁.heap.objs.size + 1 := by subst hs₂; exact Heap.size_push ..
  generalize s₁.heap.objs.size = I at hIt hsz₂
  have y₂ : Sx s₀ s₂ := hx0.trans (x₁.trans x₂)
  refine wpAny_newObj_type ?_
  generalize hH : s₂.heap.push { cls := .type "list", data := .seq ([] : List Value).toArray } = H
  have eH : Ext s₂.heap H := hH ▸ Ext.push _ _
  have hHs : H.objs.size = s₂.heap.objs.size + 1 := by rw [← hH, Heap.size_push]
  have lD : H.IsList s₂.heap.objs.size #[] := ⟨_, hH ▸ Heap.get?_push_size _ rfl, rfl, 0, rfl⟩
  simp only [newFunctionEnv, Option.isSome_some, if_true]
  refine wpAny_bind (wpAny_alloc ?_)
  refine wpAny_bind (wpAny_layCells _ (fun name kind cells => by cases hkc : kind == NameKind.cell <;> simp [hkc]) _ _ _ _ ?_)
  dsimp only
  simp only [List.forIn_nil]
  refine wpAny_bind (wpAny_pure (wpAny_pure ?_))
  generalize hH' : H.push { cls := .type "dict", data := .dict #[] } = H'
  have eH' : Ext H H' := hH' ▸ Ext.push _ _
  have nC : H'.Ns H.objs.size (fun _ => none) := hH' ▸ Heap.Ns.new H (.type "dict")
  simp only [hp, hcf]
  have up : Ext s₂.heap H' := eH.trans eH'
  have lt2 : ∀ {b o}, s₂.heap.get? b = some o → b < s₂.heap.objs.size := fun e => Heap.lt_size e
  obtain ⟨oI, hI, _⟩ := id hIt
  obtain ⟨oo, hoo, _⟩ := id hl₂
  have hCI : H.objs.size ≠ I := by rw [hHs]; have := lt2 hI; omega
  have hCo : H.objs.size ≠ oa := by rw [hHs]; exact (Nat.ne_of_lt (Nat.lt_succ_of_lt (lt2 hoo))).symm
  have hne : oa ≠ I := fun q => by
    obtain ⟨o, h1, h2, _⟩ := hl₂
    obtain ⟨o', h1', h2', _⟩ := hIt
    rw [q, h1'] at h1; cases h1
    injection h2.symm.trans h2' with h
    exact absurd h (by decide)
  have key : codeAny (model prog w) A (.compLoop (.ListComp elt [⟨.Name xr pr, iter1, [], 0⟩, ⟨.Name x px, .Name xr pr2, [test], 0⟩] scope pos) 0 (.ref I) (.ref s₂.heap.objs.size) (compEnvC scope [] H.objs.size env))
      (compPost (model prog w) A NoE none (fun v s' => Sx s s' ∧ ∃ a, v = .ref a ∧ s'.heap.IsList a #[]) (.ref s₂.heap.objs.size) H.objs.size) { s₂ with heap := H' } := by
    have fresh : ∀ b ∈ [H.objs.size, I], s.heap.get? b = none := fun b hb => by
      cases q : s.heap.get? b with
      | none => rfl
      | some o =>
        have e1 := x₁.ext _ _ q
        have e2 := x₂.ext _ _ e1
        simp only [List.mem_cons, List.mem_nil_iff, or_false] at hb
        rcases hb with hb | hb
        · have := lt2 e2; rw [hb, hHs] at this; exact absurd this (Nat.not_lt.mpr (Nat.le_succ _))
        · have : I < s₁.heap.objs.size := hb ▸ Heap.lt_size e1
          have h1 : s₂.heap.objs.size = s₁.heap.objs.size + 1 := by subst hs₂; exact Heap.size_push ..
          omega
    refine flat_outer (Good := Good) (rows := rows) hh (by simp [compEnvC, relabel, hkind]) (lookup_relabel_local hxr) (lookup_relabel_local hx) hdb hne hCI hCo (let ⟨o, h1, h2⟩ := hIt; ⟨o, up _ _ h1, h2⟩) (isList_ext hl₂ up) ⟨_, nC⟩ (fun v hv => ?_) (fun s₁' v t hg hb => htest _ s₁' v ?_ hg hb) (fun s' t hC => ?_)
    · obtain ⟨ra, bs, e, hra, hg⟩ := hr v hv
      have hra₂ := isList_ext hra x₂.ext
      obtain ⟨o, h1, h2, n', h3⟩ := id hra₂
      refine ⟨ra, bs, e, isList_ext hra₂ up, fun q => ?_, fun q => ?_, hg⟩
      · rw [q, hI] at h1
        cases h1
        obtain ⟨o', h1', h2', _⟩ := hIt
        rw [hI] at h1'; cases h1'
        injection h2.symm.trans h2' with h
        exact absurd h (by decide)
      · have := lt2 h1
        have q' : ra = H.objs.size := q
        rw [q', hHs] at this; exact absurd this (Nat.not_lt.mpr (Nat.le_succ _))
    · have tt : Turned [H.objs.size, I] s s₁' := (show Turned [H.objs.size, I] s { s₂ with heap := H' } from ⟨fun b o _ e => up _ _ ((x₁.trans x₂).ext _ _ e), (x₁.trans x₂).os, (x₁.trans x₂).gens, (x₁.trans x₂).bare⟩).trans t
      exact hx0.trans (Turned.sx (.refl s) fresh tt)
    · obtain ⟨m, hm⟩ := hC
      refine ⟨m, hm, fun h' hs' => ?_⟩
      have tt : Turned [H.objs.size, I] s s' := (show Turned [H.objs.size, I] s { s₂ with heap := H' } from ⟨fun b o _ e => up _ _ ((x₁.trans x₂).ext _ _ e), (x₁.trans x₂).os, (x₁.trans x₂).gens, (x₁.trans x₂).bare⟩).trans t
      have tt' : Turned [H.objs.size, I] s { s' with heap := h' } := tt.trans ⟨fun b o hb e => hs'.extBut b o (fun q => hb (by simp [q])) e, rfl, fun _ _ e => e, id⟩
      have hDC : s₂.heap.objs.size ≠ H.objs.size := by rw [hHs]; omega
      have hDI : s₂.heap.objs.size ≠ I := by have := lt2 hI; omega
      refine ⟨Turned.sx (.refl s) fresh tt', _, rfl, ?_⟩
      obtain ⟨o, h1, h2⟩ := isList_ext lD eH'
      exact ⟨o, hs'.extBut _ _ hDC (t.keep _ _ (by
        simp only [List.mem_cons, List.mem_nil_iff, or_false, not_or]
        exact ⟨hDC, hDI⟩) h1), h2⟩
  refine codeAny_compStart_list key ?_
  exact (Walks.list (prog := prog) (w := w) (A := A) hh I oa hne rows.toArray).self 0 _ _ _ ⟨let ⟨o, h1, h2⟩ := hIt; ⟨o, up _ _ h1, h2⟩, isList_ext hl₂ up⟩ key
end
end Mine
namespace Mine
section
variable {prog : Program} {w : World} {A : Around} {s₀ s : Shared} {env : Env} {h₀ : Heap} {m cm : Str → Option Value} {L : Addr} {Q : Flow → Shared → Prop} {pos : Pos}
theorem evb_or2 {e₁ e₂ : PySem.Expr} (h1 : EvB prog w A s₀ env e₁ false) (h2 : EvB prog w A s₀ env e₂ false) : EvB prog w A s₀ env (.BoolOp .Or [e₁, e₂] pos) false := fun s x =>
  isTrue_or ((h1 s x).wp fun r s₁ y e => by
    subst e
    simp only [Bool.false_eq_true, if_false]
    exact isTrue_or ((h2 s₁ (x.trans y)).wp fun r s₂ z e => by
      subst e
      simp only [Bool.false_eq_true, if_false]
      exact isTrue_or_nil ⟨y.trans z, rfl⟩))
theorem x_judge (LE : LawEnv w L env) (W : Wd w h₀) (R : RoomA 9 A) {n r : Nat} {tr : Tok} {first : List Int} {fv av lv : Value} {p : Nat → Nat → Bool} (F : FrC h₀ env m cm s.heap) (hfi : m "first" = some fv) (hro : m "rounds" = some (.int r tr)) (hal : cm "alike" = some lv) (han : cm "answers" = some av) (hn : n ≤ 6)
    (hlen : first.length = n) (hpos : 0 < n) (hr : r ≤ 10) (hf : LI s.heap fv first) (hl : LLI s.heap lv (rowsBy n p)) (ha : LLB s.heap av (boolRows n p)) (heq : rowsBy n p = alikeRows first r)
    (k : ∀ s', Sx s s' → Q .next s') :
    wpAny (model prog w) A (exec (nthS (roundBody w) 6) env) Q NoE s := by
  have hk := LE.G.k
  have W₀ := W.mono F.keep
  refine x_if (b := false) (evb_or2 (evb_ne_same (d := dRows (rowsBy n p)) ?_ (ev_nameP (F.bndC hal hk LE.alike LE.calike) fun s y => rds_rows (hl.mono y.ext)) rds_mono ?_ ?_) ?_) (fun e => by cases e) fun _ s₁ x₁ => wpAny_execs_nil (k s₁ x₁)
  · unfold dRows
    simp only [PyData.depth]
    have := depth_rows (rowsBy n p)
    have := R.un
    omega
  · refine ev_call (W₀.glob LE.G LE.lawAlike (g_alike w)) (.func _ _ _ (W₀.K _ _ (at_alike w)) rfl) (evs_cons (P := fun v s => v = fv) (ev_name (F.bndL hfi hk LE.first)) mono_eq (evs_one (ev_name (F.bndL hro hk LE.rounds))) (by rfl)) fun vs s' y ⟨v, q, e, e1, v2, e3, e4⟩ => ?_
    subst e e1 e3 e4
    rw [heq]
    exact (alike_ok (W₀.mono y.ext) (R.less (by decide)) (hf.mono y.ext) (by omega) (by omega) hr).mono fun v s'' z h => rds_rows h
  · unfold dRows
    simp only [PyData.canLay0]
    exact canLay_rows _
  · obtain ⟨aa, rvs, rfl, hla, hpa⟩ := id ha
    refine evb_ne_same (d := dInts []) (by rw [depth_ints]; have := R.un; omega) (Ev.mono (ev_flat (Good := fun y => ∃ b, y = .bool b) (rows := rvs) (oa := aa) R.hh (by decide +kernel) (fun _ => rfl) (fun _ => rfl) (by rw [LE.eq]; kernel_rfl) rfl (by decide +kernel) (by decide +kernel) (by decide +kernel) (ev_nameP (F.bndC han hk LE.answers LE.canswers) fun s y => ⟨rfl, isList_ext hla y.ext, fun v hv => ?_⟩) (by intro _; rfl) (fun C s₁ v x₁ hg hb => ?_)) fun v s y ⟨a, e, l⟩ => rds_ints ⟨a, [], e, l, .nil⟩) rds_mono (Ev.mono ev_list0 fun v s y ⟨a, vs, e, l, _, e'⟩ => by subst e'; exact rds_ints ⟨a, [], e, l.isList, .nil⟩) (canLay_ints _)
    · obtain ⟨i, hi⟩ := List.mem_iff_getElem?.mp hv
      obtain ⟨row, _, ⟨ra, e, l⟩⟩ := Paired.get' hpa hi
      exact ⟨ra, _, e, isList_ext l y.ext, fun z hz => by
        obtain ⟨b, _, e⟩ := List.mem_map.mp hz
        exact ⟨b, e.symm⟩⟩
    · obtain ⟨b, rfl⟩ := hg
      generalize hce : compEnvC _ [] C env = ce at hb ⊢
      have GC : GEnv ce := by subst hce; rw [LE.eq]; exact ⟨by kernel_rfl, by kernel_rfl, by kernel_rfl⟩
      have W₁ := W₀.mono x₁.ext
      have := evb_isnot (prog := prog) (w := w) (A := A) (s₀ := s₁) (env := ce) (pos := ⟨176, 87, 176, 106⟩) (a := .type "bool") (b := .type "bool") (ev_type (Tx := "bool") (np := ⟨176, 87, 176, 91⟩) (pos := ⟨176, 87, 176, 94⟩) (W₁.blt GC (by subst hce; rw [LE.eq]; kernel_rfl) (n_type w) b_type (by decide)) (ev_name (pos := ⟨176, 92, 176, 93⟩) hb) (fun v s' y e => by subst e; exact rfl) (by decide)) (ev_name (pos := ⟨176, 102, 176, 106⟩) (W₁.blt GC (by subst hce; rw [LE.eq]; kernel_rfl) (n_bool w) b_bool (by decide))) (by decide)
      exact this
end
end Mine
namespace Mine
theorem roundBody_eq (w : World) : roundBody w = [nthS (roundBody w) 0, nthS (roundBody w) 1, nthS (roundBody w) 2, nthS (roundBody w) 3, nthS (roundBody w) 4, nthS (roundBody w) 5, nthS (roundBody w) 6, nthS (roundBody w) 7] := by kernel_rfl
section
variable {prog : Program} {w : World} {A : Around} {s₀ s : Shared} {env : Env} {h₀ : Heap} {m cm : Str → Option Value} {L : Addr}
theorem round_ok (LE : LawEnv w L env) (W : Wd w h₀) (R : RoomA 9 A) {n r : Nat} {tc tr : Tok} {first gs : List Int} {fv gv : Value} (F : FrC h₀ env m cm s.heap) (hcount : m "count" = some (.int n tc)) (hfirst : m "first" = some fv) (hro : m "rounds" = some (.int r tr)) (hgr : cm "groups" = some gv)
    (hfi : LI s.heap fv first) (hgs : LI s.heap gv gs) (G6 : Good6 gs n) (hn : n ≤ 6) (hpos : 0 < n) (hlen : first.length = n) (hr : r ≤ 10) (heq : alikeOf gs n = alikeRows first r) :
    wpAny (model prog w) A (execs (roundBody w) env) (fun f s' => f = .next ∧ ∃ m' cm' gv', FrC h₀ env m' cm' s'.heap ∧ m' "count" = some (.int n tc) ∧ m' "first" = some fv ∧ cm' "groups" = some gv' ∧ LI s'.heap gv' (nextOf gs n) ∧ LI s'.heap fv first ∧ Turned (own env) s s') NoE s := by
  rw [roundBody_eq]
  have hf := LE.G.k
  have W₀ := W.mono F.keep
  have n1 : ∀ {a b : Str}, a ≠ b → ∀ {m : Str → Option Value} {v r : Value}, m a = some r → upd m b v a = some r := fun h _ _ _ e => by rw [upd_ne h]; exact e
  -- table = Headers()
  refine wpAny_execs_cons (x_assignL F (ev_make0 W₀ (R.less (by decide)) (W₀.glob LE.G LE.headers (g_Headers w))) hf LE.table (fun v s₁ s₂ x₁ ⟨x, sm, e, xm, md⟩ F₂ b₂ => ?_) (by rfl))
  subst e
  obtain ⟨dx, l, p₁, hl₁, hal, hnx, hndx, hdl, hxl⟩ := md.ex
  have hnl : sm.heap.get? l = none := by
    rcases hal with q | ⟨_, q⟩
    · cases q
    · exact q
  have new : ∀ {a}, sm.heap.get? a = none → s.heap.get? a = none := fun {a} h => by
    cases q : s.heap.get? a with
    | none => rfl
    | some o => have := xm.ext _ _ q; rw [h] at this; cases this
  have notOwn : ∀ {a}, s.heap.get? a = none → a ∉ own env := fun {a} h q => by
    obtain ⟨o, e⟩ := F.own_alive a q
    rw [h] at e; cases e
  have hxo := notOwn (new hnx)
  have hdo := notOwn (new hndx)
  have hlo := notOwn (new hnl)
  have t₂ : Turned (own env) s s₂ := x₁.turned.trans b₂.turned
  have F₁ := F.ext x₁.ext
  have p₂ : HdrAt w s₂.heap x dx l := ⟨b₂.off _ _ (off_of_own hxo) p₁.at_, let ⟨tk, nn, q⟩ := p₁.dict; ⟨tk, nn, b₂.off _ _ (off_of_own hdo) q⟩⟩
  have hl₂ : HL s₂.heap l [] := HL.own F₁ b₂.turned.keep hl₁
  have lift : ∀ {s' v ns}, Turned (own env) s s' → LI s.heap v ns → LI s'.heap v ns := fun t ⟨a, vs, e, ⟨o, q1, q2, n', q3⟩, q⟩ => ⟨a, vs, e, ⟨o, t.keep _ _ (fun hb => F.own_seq _ hb _ q1 _ _ q3) q1, q2, n', q3⟩, q⟩
  have oldList : ∀ {a c ns}, LI s.heap (.ref a) ns → s.heap.get? c = none → a ≠ c := fun ⟨a', vs, e, ⟨o, q1, _⟩, _⟩ h q => by cases e; rw [q, h] at q1; cases q1
  have h0none : ∀ {a}, s.heap.get? a = none → h₀.get? a = none := fun {a} h => by
    cases q : h₀.get? a with
    | none => rfl
    | some o => have := F.keep _ _ q; rw [h] at this; cases this
  -- the table is filled
  refine wpAny_execs_cons (x_addAll LE W (R.less (by decide)) F₂ (n1 (by decide +kernel) hcount) upd_eq hgr (lift t₂ hgs) G6 hn p₂ hl₂ (h0none (new hnl)) hxo hdo hxl hdl (fun a e => oldList (e ▸ hgs) (new hnl)) fun s₃ cm₃ F₃ hcm₃ hl₃ t₃ => ?_)
  have T₃ : Turned (own env) s s₃ := t₂.thenX t₃ (fun y hy => by rw [List.mem_singleton] at hy; rw [hy]; exact new hnl)
  have outer : ∀ {b}, b ∉ own env → b ≠ l → b ∉ own env ++ [l] := fun a b q => by
    rcases List.mem_append.mp q with q | q
    · exact a q
    · exact b (List.mem_singleton.mp q)
  have p₃ : HdrAt w s₃.heap x dx l := ⟨t₃.keep _ _ (outer hxo hxl) p₂.at_, let ⟨tk, nn, q⟩ := p₂.dict; ⟨tk, nn, t₃.keep _ _ (outer hdo hdl) q⟩⟩
  -- pairs = []
  refine wpAny_execs_cons (x_assignC F₃ ev_list0 hf LE.pairs LE.cpairs (fun v s₄ s₅ x₄ ⟨pl, vs, e, hpl, hpn, e'⟩ F₅ b₅ => ?_) (by rfl))
  subst e e'
  have F₄ := F₃.ext x₄.ext
  have hp₄ : HL s₄.heap pl [] := ⟨[], hpl, .nil⟩
  have hp₅ : HL s₅.heap pl [] := HL.own F₄ b₅.turned.keep hp₄
  have hl₅ : HL s₅.heap l (tableOf gs n) := HL.own F₄ b₅.turned.keep (hl₃.mono x₄.ext)
  have T₅ : Turned (own env) s s₅ := T₃.trans (x₄.turned.trans b₅.turned)
  have p₅ : HdrAt w s₅.heap x dx l := ⟨b₅.off _ _ (off_of_own hxo) (x₄.ext _ _ p₃.at_), let ⟨tk, nn, q⟩ := p₃.dict; ⟨tk, nn, b₅.off _ _ (off_of_own hdo) (x₄.ext _ _ q)⟩⟩
  have ne3 : ∀ {a o}, s₃.heap.get? a = some o → a ≠ pl := fun e q => by rw [q, hpn] at e; cases e
  have hnpl : s.heap.get? pl = none := by
    cases q : s.heap.get? pl with
    | none => rfl
    | some o =>
      by_cases hm : pl ∈ own env
      · obtain ⟨o', h⟩ := F₃.own_alive _ hm
        rw [hpn] at h; cases h
      · have := T₃.keep _ _ hm q
        rw [hpn] at this; cases this
  have hll : l ≠ pl := by obtain ⟨vs, ⟨n', h⟩, _⟩ := hl₃; exact ne3 h
  have hcm₃g : cm₃ "groups" = some gv := by rw [hcm₃ _ (by decide +kernel)]; exact hgr
  -- the pairs
  refine wpAny_execs_cons (x_pairs LE W (R.less (by decide)) F₅ (n1 (by decide +kernel) hcount) upd_eq (n1 (by decide +kernel) hcm₃g) upd_eq (lift T₅ hgs) G6 hn p₅ hl₅ hp₅ (h0none hnpl) hxo hdo (ne3 p₃.at_) (let ⟨tk, nn, q⟩ := p₃.dict; ne3 q) hll (fun a e => oldList (e ▸ hgs) hnpl) fun s₆ m₆ cm₆ F₆ hm₆ hcm₆ hp₆ t₆ => ?_)
  have T₆ : Turned (own env) s s₆ := T₅.thenX t₆ (fun y hy => by rw [List.mem_singleton] at hy; rw [hy]; exact hnpl)
  have mc₆ : m₆ "count" = some (.int n tc) := by rw [hm₆ _ (by decide +kernel), upd_ne (by decide +kernel)]; exact hcount
  have mf₆ : m₆ "first" = some fv := by rw [hm₆ _ (by decide +kernel), upd_ne (by decide +kernel)]; exact hfirst
  have mr₆ : m₆ "rounds" = some (.int r tr) := by rw [hm₆ _ (by decide +kernel), upd_ne (by decide +kernel)]; exact hro
  have cp₆ : cm₆ "pairs" = some (.ref pl) := by rw [hcm₆ _ (by decide +kernel)]; exact upd_eq
  refine wpAny_execs_cons (x_answers LE W R F₆ mc₆ cp₆ hn hp₆ fun av s₇ F₇ ha₇ t₇ => ?_)
  refine wpAny_execs_cons (x_alike LE W R F₇ mc₆ upd_eq hn ha₇ fun lv s₈ F₈ hl₈ t₈ => ?_)
  have T₈ : Turned (own env) s s₈ := T₆.trans (t₇.trans t₈)
  have ha₈ : LLB s₈.heap av (boolRows n (ansOf gs n)) := F₇.llb ha₇ fun b o h e => t₈.keep _ _ h.own e
  refine wpAny_execs_cons (x_judge (p := ansOf gs n) LE W R F₈ mf₆ mr₆ upd_eq (n1 (by decide +kernel) upd_eq) hn hlen hpos hr (lift T₈ hfi) hl₈ ha₈ heq fun s₉ x₉ => ?_)
  have F₉ := F₈.ext x₉.ext
  refine wpAny_execs_cons (x_groups (gs := gs) LE W R F₉ mc₆ upd_eq hn (hl₈.mono x₉.ext) fun gv' s₁₀ F₁₀ hg₁₀ t₁₀ => ?_)
  have T₁₀ : Turned (own env) s s₁₀ := T₈.trans (x₉.turned.trans t₁₀)
  exact wpAny_execs_nil ⟨rfl, _, _, gv', F₁₀, mc₆, mf₆, upd_eq, hg₁₀, lift T₁₀ hfi, T₁₀⟩
end
end Mine
namespace Mine
theorem at_law (w : World) : (hd.heap_39 w.params).lookup 224 = some ⟨.type "function", none, .func (fdOf w 224), #[]⟩ := by kernel_rfl
theorem bind_law (w : World) (a : Value) : bindArgs (fdOf w 224) ⟨[a], []⟩ = (pure [("script", a)] : Sem (List (Str × Value))) := by kernel_rfl
/-- the groups of the things of each round -/
def gAt (first : List Int) (n : Nat) : Nat → List Int
  | 0 => first
  | i + 1 => nextOf (gAt first n i) n
def countOf (k : Nat) : Nat := 3 + min 3 (k / 2)
theorem count_int (k : Nat) : ((if (k : Int).fdiv 2 < 3 then (k : Int).fdiv 2 else 3) : Int) = ((min 3 (k / 2) : Nat) : Int) := by
  rw [Int.fdiv_eq_ediv_of_nonneg _ (by decide)]
  split <;> omega
section
variable {prog : Program} {w : World} {A : Around} {s : Shared}
theorem t_min {a b : Value} {i j : Int} (hh : A.handled = none) (ha : IntV a i) (hb : IntV b j) : T prog w A (call (.builtin "min") [a, b]) (fun v _ => IntV v (if j < i then j else i)) s := by
  obtain ⟨_, rfl⟩ := ha
  obtain ⟨_, rfl⟩ := hb
  refine min_two_ints hh fun h' tk k => ⟨⟨k, rfl, fun _ _ e => e, id⟩, ?_⟩
  split <;> exact .mk ..
theorem n_min' (w : World) : nsIn (hd.heap_39 w.params) mainGlobals "min" = some none := n_min w
theorem law_ok (W : Wd w s.heap) (R : RoomA 10 A) {sv : Value} {script : List Int} (hs : LI s.heap sv script) (hlen : script.length ≤ 1000)
    (plain : ∀ i, i < countOf script.length → Good6 (gAt (grpRun script (countOf script.length)).1 (countOf script.length) i) (countOf script.length) ∧
      alikeOf (gAt (grpRun script (countOf script.length)).1 (countOf script.length) i) (countOf script.length) = alikeRows (grpRun script (countOf script.length)).1 (i + 1)) :
    T prog w A (call (.ref 224) [sv]) (fun v _ => v = .bool true) s := by
  generalize hn : countOf script.length = n at plain
  generalize hfst : (grpRun script n).1 = first at plain
  have hfl : first.length = n := by rw [← hfst]; exact (grpRun_len script n).1
  have hn6 : n ≤ 6 := by rw [← hn]; unfold countOf; omega
  have hn3 : 3 ≤ n := by rw [← hn]; unfold countOf; omega
  refine fn_enter (s₁ := s) (body := bodyOf (fdOf w 224)) (bs := [("script", sv)]) R.depth (W.K _ _ (at_law w)) rfl (by kernel_rfl) (codeRec_of' W (by kernel_rfl)) W.lim (by kernel_rfl) (by kernel_rfl) (by kernel_rfl) (by kernel_rfl)
    (by rw [bind_law]; exact wpAny_pure ⟨rfl, rfl⟩) (.refl _) (fun n x hx => .inl ?_) fun s₂ F sx => ?_
  · simp only [List.mem_cons, List.mem_nil_iff, or_false] at hx
    subst hx
    kernel_rfl
  generalize hL : s.heap.objs.size = L at F ⊢
  have ms : bindL (callEnvC (fdOf w 224) L 224).kindOf [("script", sv)] (fun _ => none) "script" = some sv := by kernel_rfl
  generalize bindL (callEnvC (fdOf w 224) L 224).kindOf [("script", sv)] (fun _ => none) = m₀ at F ms
  generalize bindC (callEnvC (fdOf w 224) L 224).kindOf [("script", sv)] (fun _ => none) = cm₀ at F
  have LE := lawEnv w L
  have ksc : (callEnvC (fdOf w 224) L 224).kindOf "script" = some .local := by kernel_rfl
  have kmin : (callEnvC (fdOf w 224) L 224).kindOf "min" = some .globalImplicit := by kernel_rfl
  have klen : (callEnvC (fdOf w 224) L 224).kindOf "len" = some .globalImplicit := by kernel_rfl
  have kgr : (callEnvC (fdOf w 224) L 224).kindOf "_law_groups" = some .globalImplicit := by kernel_rfl
  generalize henv : callEnvC (fdOf w 224) L 224 = env at F LE ksc kmin klen kgr ⊢
  have hf := LE.G.k
  have RD : RoomA 9 (A.deeper env) := R.deeper
  have W₂ := W.mono sx.ext
  have n1 : ∀ {a b : Str}, a ≠ b → ∀ {m : Str → Option Value} {v r : Value}, m a = some r → upd m b v a = some r := fun h _ _ _ e => by rw [upd_ne h]; exact e
  have esc : ∀ {s' : Shared} {m cm : Str → Option Value} {p}, FrC s.heap env m cm s'.heap → m "script" = some sv → Ev prog w (A.deeper env) s' env (.Name "script" p) (fun v s => LI s.heap v script) := fun F' e => ev_nameP (F'.bndL e hf ksc) fun s y => hs.mono (F'.keep.trans y.ext)
  refine wpAny_execs_cons (x_assignL (P := fun v _ => IntV v (n : Int)) F (Ev.mono (ev_add (a := 3) (b := ((min 3 (script.length / 2) : Nat) : Int)) ev_int (ev_call (W₂.blt LE.G kmin (n_min w) b_min (by decide)) (.builtin _) (evs_cons (P := fun v _ => IntV v 3) ev_int mono_int (evs_one (P := fun v _ => IntV v ((script.length : Int).fdiv 2)) (ev_floordiv (ev_lenI (W₂.blt LE.G klen (n_len w) b_len (by decide)) (esc F ms) (by omega)) ev_int (by decide) (by decide))) (by rfl)) fun vs s' y ⟨v, q, e, h1, v2, e3, h4⟩ => ?_)) fun v s y h => ?_) hf LE.count (fun v s₃ s₄ x₃ ⟨tc, e⟩ F₄ b₄ => ?_) (by rfl))
  · subst e e3
    have := t_min (prog := prog) (w := w) (s := s') RD.hh h1 h4
    rw [count_int] at this
    exact this
  · have e : (3 : Int) + ((min 3 (script.length / 2) : Nat) : Int) = (n : Int) := by rw [← hn]; unfold countOf; omega
    rw [e] at h
    exact h
  subst e
  have W₄ := W.mono F₄.keep
  refine wpAny_execs_cons (x_assignL (P := fun v s => LI s.heap v first) F₄ (ev_call (W₄.glob LE.G kgr (g_groups w)) (.func _ _ _ (W₄.K _ _ (at_groups w)) rfl) (evs_cons (P := fun v s => LI s.heap v script ∧ v = sv) (ev_nameP (F₄.bndL (n1 (by decide +kernel) ms) hf ksc) fun s y => ⟨hs.mono (F₄.keep.trans y.ext), rfl⟩) (fun v s s' x h => ⟨h.1.mono x.ext, h.2⟩) (evs_one (ev_name (F₄.bndL upd_eq hf LE.count))) (by rfl)) fun vs s' y ⟨v, q, e, h1, v2, e3, h4⟩ => ?_) hf LE.first (fun v s₅ s₆ x₅ hfi F₆ b₆ => ?_) (by rfl))
  · subst e e3 h4
    rw [← hfst]
    exact groups_ok (W₄.mono y.ext) (RD.less (by decide)) h1.1 hlen hn6
  have hfi₆ : LI s₆.heap v first := (F₄.ext x₅.ext).listI hfi b₆.off
  refine wpAny_execs_cons (x_assignC F₆ (ev_name (F₆.bndL upd_eq hf LE.first)) hf LE.groups LE.cgroups (fun u s₇ s₈ x₇ e F₈ b₈ => ?_) (by rfl))
  subst e
  have hfi₈ : LI s₈.heap u first := (F₆.ext x₇.ext).listI (hfi₆.mono x₇.ext) b₈.off
  have t₈ : Turned (own env) s₂ s₈ := (((x₃.turned.trans b₄.turned).trans (x₅.turned.trans b₆.turned))).trans (x₇.turned.trans b₈.turned)
  have W₈ := W.mono F₈.keep
  have toBx : ∀ s', Turned (own env ++ []) s₈ s' → Bx env s₂ s' := fun s' t => ⟨fun b o hb e => t.keep b o (by rw [List.append_nil]; exact hb.own) (t₈.keep b o hb.own e), t.os.trans t₈.os, fun i g e => t.gens i g (t₈.gens i g e), fun q => t.bare (t₈.bare q)⟩
  refine wpAny_execs_cons (x_forF2 F₈ [] (fun i m cm s' => m "count" = some (.int n tc) ∧ m "first" = some u ∧ ∃ gv, cm "groups" = some gv ∧ LI s'.heap gv (gAt first n i) ∧ LI s'.heap u first) (n := n) (ext := [])
    (evi_range2 (a := 1) RD.hh (W₈.blt LE.G LE.range (n_range w) b_range (by decide)) ev_int (Ev.mono (ev_add (ev_nameP (F₈.bndL (n1 (by decide +kernel) upd_eq) hf LE.count) fun _ _ => .mk ..) ev_int) fun v s y h => by rw [Int.add_comm] at h; exact h) (by decide) (by decide) (by omega)) (fun b hb => ?_) (fun b hb => by cases hb) ?_ ?_ ?_ ?_)
  · rw [List.append_nil] at hb
    exact ⟨F₈.own_alive b hb, by simp⟩
  · intro i m' cm' a b ⟨h1, h2, gv, h3, h4, h5⟩ kn
    have byk : ∀ {v ns}, LI a.heap v ns → LI b.heap v ns := fun ⟨la, vs, e, l, q⟩ => ⟨la, vs, e, kn.list l, q⟩
    exact ⟨h1, h2, gv, h3, byk h4, byk h5⟩
  · intro s' y
    exact ⟨n1 (by decide +kernel) upd_eq, upd_eq, u, upd_eq, hfi₈.mono y.ext, hfi₈.mono y.ext⟩
  · intro i v s₁ m₁ cm₁ hi ⟨tr, hv⟩ F₁ ⟨h1, h2, gv, h3, h4, h5⟩ t₁
    subst hv
    refine a_name F₁ hf LE.rounds fun s₂' F₂ t₂ => ?_
    obtain ⟨G6, heq⟩ := plain i hi
    have l4 : LI s₂'.heap gv (gAt first n i) := F₁.listI h4 fun b o h e => t₂.keep _ _ h.own e
    have l5 : LI s₂'.heap u first := F₁.listI h5 fun b o h e => t₂.keep _ _ h.own e
    have e1 : ((1 : Int) + (i : Int)) = ((i + 1 : Nat) : Int) := by omega
    rw [e1] at F₂
    refine wpAny_mono (round_ok (r := i + 1) LE W RD F₂ (n1 (by decide +kernel) h1) (n1 (by decide +kernel) h2) upd_eq h3 l5 l4 G6 hn6 (by omega) hfl (by omega) heq) (fun f s₃ ⟨e, m₃, cm₃, gv', F₃, q1, q2, q3, q4, q5, t₃⟩ => ?_) fun _ _ f => f
    subst e
    exact ⟨m₃, cm₃, F₃, ⟨q1, q2, gv', q3, q4, q5⟩, (t₂.trans t₃).tf fun b hb => .inl (List.mem_append.mpr (.inl hb))⟩
  · intro s' m' cm' F' _ t'
    refine wpAny_execs_cons (x_ret ev_bool fun v s₉ x₉ e => ?_)
    subst e
    exact ⟨⟨_, _, F'.ext x₉.ext⟩, toBx _ (t'.trans x₉.turned), rfl⟩
end
end Mine
namespace Mine
def strip : List Nat → List Nat
  | [] => []
  | c :: r => if c = 40 ∨ c = 41 then c :: strip r else strip r
theorem bal_strip : ∀ (l : List Nat) (o : Int), bal l o = bal (strip l) o
  | [], _ => rfl
  | c :: r, o => by
    have ih := bal_strip r
    unfold strip
    by_cases h : c = 40 ∨ c = 41
    · rw [if_pos h]
      simp only [bal]
      rw [← ih, ← ih, ← ih]
    · rw [if_neg h, ← ih]
      rw [not_or] at h
      simp only [bal, if_neg h.1, if_neg h.2]
theorem strip_append : ∀ a b : List Nat, strip (a ++ b) = strip a ++ strip b
  | [], _ => rfl
  | c :: r, b => by
    rw [List.cons_append]
    simp only [strip]
    rw [strip_append r b]
    split <;> rfl
theorem strip_fold (sep : Str) (hs : strip sep.cps.toList = []) : ∀ (rest : List Str) (acc : Array Nat), strip (rest.foldl (fun acc p => acc ++ sep.cps ++ p.cps) acc).toList = strip acc.toList ++ rest.flatMap fun p => strip p.cps.toList
  | [], acc => by simp
  | x :: r, acc => by
    rw [List.foldl_cons, strip_fold sep hs r]
    simp only [Array.toList_append, strip_append, hs, List.nil_append, List.flatMap_cons, List.append_assoc]
theorem strip_join (sep : Str) (hs : strip sep.cps.toList = []) (ss : List Str) : strip (Txt.join sep ss).cps.toList = ss.flatMap fun p => strip p.cps.toList := by
  show strip ((ss.drop 1).foldl (fun acc p => acc ++ sep.cps ++ p.cps) (ss.headD Str.empty).cps).toList = _
  rw [strip_fold sep hs]
  cases ss with
  | nil => rfl
  | cons x r => rfl
def flatC (ps : List (Nat × Nat)) : List Nat := ps.flatMap fun q => [q.1, q.2]
def okP (ps : List (Nat × Nat)) : Bool := match bal (flatC ps) 0 with
  | none => false
  | some o => o == 0
theorem strip_head (ps : List (Nat × Nat)) : strip (headOf ps).cps.toList = strip (flatC ps) := by
  unfold headOf
  rw [strip_join _ (by decide +kernel), List.flatMap_append]
  have e1 : (blanks.flatMap fun p => strip p.cps.toList) = [] := by decide +kernel
  rw [e1, List.append_nil]
  unfold flatC
  induction ps with
  | nil => rfl
  | cons q r ih =>
    rw [List.map_cons, List.flatMap_cons, List.flatMap_cons, strip_append, ih]
    congr 1
theorem checks_head (ps : List (Nat × Nat)) : checks (headOf ps) = okP ps := by
  have e : bal (headOf ps).cps.toList 0 = bal (flatC ps) 0 := by rw [bal_strip, strip_head, ← bal_strip]
  show (match bal (headOf ps).cps.toList 0 with | none => false | some o => o == 0) = (match bal (flatC ps) 0 with | none => false | some o => o == 0)
  rw [e]
/-! every start -/
def stepX (st : List Int × List Int) (k x : Nat) : List Int × List Int :=
  let still' := if x = 0 then st.2 ++ [(k : Int)] else st.2.take (st.2.length - x + 1)
  (st.1 ++ [still'.getLastD 0], still')
def runs : Nat → List (List Int × List Int)
  | 0 => [([], [])]
  | k + 1 => (runs k).flatMap fun st => (List.range (st.2.length + 1)).map fun x => stepX st k x
theorem run_mem (script : List Int) : ∀ n, grpRun script n ∈ runs n
  | 0 => by simp [grpRun, runs]
  | n + 1 => by
    rw [grpRun_succ]
    have ih := run_mem script n
    generalize grpRun script n = st at ih
    have hb := grpX_bound script st.2 n
    refine List.mem_flatMap.mpr ⟨st, ih, List.mem_map.mpr ⟨(grpX script st.2 n).toNat, List.mem_range.mpr (by omega), ?_⟩⟩
    unfold stepX grpStep grpStill
    by_cases h : grpX script st.2 n = 0
    · rw [if_pos h, if_pos (by omega)]
    · have e : st.2.length - (grpX script st.2 n).toNat + 1 = ((st.2.length : Int) - grpX script st.2 n + 1).toNat := by omega
      rw [if_neg h, if_neg (by omega), e]
def good6 (gs : List Int) (n : Nat) : Bool := gs.length == n && gs.all fun g => decide (0 ≤ g) && decide (g < 6)
/-! the check, told so that the kernel shares what it has worked out -/
def balN : List Bool → Nat → Bool
  | [], o => o == 0
  | true :: r, o => balN r (o + 1)
  | false :: _, 0 => false
  | false :: r, o + 1 => balN r o
def codeB (b : Bool) : Nat := if b then 40 else 41
def flatB (bs : List (Bool × Bool)) : List Bool := bs.flatMap fun q => [q.1, q.2]
theorem balN_eq : ∀ (l : List Bool) (o : Nat), (match bal (l.map codeB) (o : Int) with | none => false | some i => i == 0) = balN l o
  | [], o => by
    simp only [List.map_nil, bal, balN]
    rw [Bool.eq_iff_iff, beq_iff_eq, beq_iff_eq]
    omega
  | true :: r, o => by
    have := balN_eq r (o + 1)
    simp only [List.map_cons, codeB, if_true, bal, balN]
    exact_mod_cast this
  | false :: r, 0 => by
    simp [codeB, bal, balN]
  | false :: r, o + 1 => by
    have := balN_eq r o
    have e : ((o + 1 : Nat) : Int) - 1 = (o : Int) := by omega
    have h : ¬ ((o : Int) < 0) := by omega
    simp only [List.map_cons, codeB, Bool.false_eq_true, if_false, bal, balN, e]
    rw [if_pos trivial, if_neg h]
    exact this
def toC (q : Bool × Bool) : Nat × Nat := (codeB q.1, codeB q.2)
theorem flat_toC : ∀ bs : List (Bool × Bool), flatC (bs.map toC) = (flatB bs).map codeB
  | [] => rfl
  | q :: r => by
    have := flat_toC r
    unfold flatC flatB at this ⊢
    rw [List.map_cons, List.flatMap_cons, List.flatMap_cons, List.map_append, this]
    rfl
theorem okP_toC (bs : List (Bool × Bool)) : okP (bs.map toC) = balN (flatB bs) 0 := by
  unfold okP
  rw [flat_toC]
  exact balN_eq (flatB bs) 0
def pairB (gs : List Int) (n k : Nat) : Bool × Bool := ((toldI gs n k).headD 0 == k, !((toldI gs n k).getLastD 0 == k))
theorem pairC_eq (gs : List Int) (n k : Nat) : pairC gs n k = toC (pairB gs n k) := by
  unfold pairC toC pairB codeB
  congr 1
  cases ((toldI gs n k).getLastD 0 == k) <;> rfl
def ansP (ps : List (Nat × Nat)) (i j : Nat) : Bool := okP ((ps.drop (i + 1)).take (j + 1 - (i + 1)))
def ansB (bs : List (Bool × Bool)) (i j : Nat) : Bool := balN (flatB ((bs.drop (i + 1)).take (j + 1 - (i + 1)))) 0
theorem ansB_eq (gs : List Int) (n : Nat) : ansP (pairsOf gs n n) = ansB ((List.range n).map (pairB gs n)) := by
  have e : pairsOf gs n n = ((List.range n).map (pairB gs n)).map toC := by
    unfold pairsOf
    rw [List.map_map]
    apply List.map_congr_left
    intro k _
    exact pairC_eq gs n k
  funext i j
  unfold ansP ansB
  rw [e, ← List.map_drop, ← List.map_take, okP_toC]
def rowsT (n r : Nat) (t : List Int) : List (List Int) :=
  if r % 2 = 0 then rowsBy n fun i j => t.getD i 0 == t.getD j 0 else rowsBy n fun i j => (innerL t i j).isEmpty
theorem rowsT_eq (first : List Int) (r : Nat) : alikeRows first r = rowsT first.length r (turnedOf first r) := rfl
def forceG : List Int → (List Int → Bool) → Bool
  | [], k => k []
  | x :: r, k => if x = 0 then forceG r fun t => k (0 :: t) else if x = 1 then forceG r fun t => k (1 :: t) else if x = 2 then forceG r fun t => k (2 :: t)
      else if x = 3 then forceG r fun t => k (3 :: t) else if x = 4 then forceG r fun t => k (4 :: t) else if x = 5 then forceG r fun t => k (5 :: t) else false
theorem forceG_of {l : List Int} : ∀ {k : List Int → Bool}, forceG l k = true → k l = true := by
  induction l with
  | nil => intro k h; exact h
  | cons x r ih =>
    intro k h
    unfold forceG at h
    split at h
    · rename_i e; rw [e]; exact ih h
    split at h
    · rename_i e; rw [e]; exact ih h
    split at h
    · rename_i e; rw [e]; exact ih h
    split at h
    · rename_i e; rw [e]; exact ih h
    split at h
    · rename_i e; rw [e]; exact ih h
    split at h
    · rename_i e; rw [e]; exact ih h
    cases h
def forceB : List (Bool × Bool) → (List (Bool × Bool) → Bool) → Bool
  | [], k => k []
  | (true, true) :: r, k => forceB r fun t => k ((true, true) :: t)
  | (true, false) :: r, k => forceB r fun t => k ((true, false) :: t)
  | (false, true) :: r, k => forceB r fun t => k ((false, true) :: t)
  | (false, false) :: r, k => forceB r fun t => k ((false, false) :: t)
theorem forceB_eq : ∀ (l : List (Bool × Bool)) (k : List (Bool × Bool) → Bool), forceB l k = k l
  | [], _ => rfl
  | (true, true) :: r, k => forceB_eq r _
  | (true, false) :: r, k => forceB_eq r _
  | (false, true) :: r, k => forceB_eq r _
  | (false, false) :: r, k => forceB_eq r _
def nextFrom (al : List (List Int)) (n : Nat) : List Int := (List.range n).map fun j => (al.getD j [] ++ [(j : Int)]).headD 0
def chk (first : List Int) (n : Nat) : Nat → Nat → List Int → Bool
  | 0, _, _ => true
  | k + 1, r, gs => forceG gs fun gs => good6 gs n && forceG (turnedOf first r) fun t => forceB ((List.range n).map (pairB gs n)) fun bs =>
      (rowsBy n (ansB bs) == rowsT n r t) && chk first n k (r + 1) (nextFrom (rowsT n r t) n)
def startOk (n : Nat) (st : List Int × List Int) : Bool := forceG st.1 fun first => chk first n n 1 first
end Mine
namespace Mine
theorem ok3 : (runs 3).all (startOk 3) = true := by decide +kernel
theorem ok4 : (runs 4).all (startOk 4) = true := by decide +kernel
theorem ok5a : ((runs 5).take 21).all (startOk 5) = true := by decide +kernel
theorem ok5b : ((runs 5).drop 21).all (startOk 5) = true := by decide +kernel
theorem ok6a : ((runs 6).take 22).all (startOk 6) = true := by decide +kernel
theorem ok6b : (((runs 6).drop 22).take 22).all (startOk 6) = true := by decide +kernel
theorem ok6c : ((((runs 6).drop 22).drop 22).take 22).all (startOk 6) = true := by decide +kernel
theorem ok6d : (((((runs 6).drop 22).drop 22).drop 22).take 22).all (startOk 6) = true := by decide +kernel
theorem ok6e : ((((((runs 6).drop 22).drop 22).drop 22).drop 22).take 22).all (startOk 6) = true := by decide +kernel
theorem ok6f : ((((((runs 6).drop 22).drop 22).drop 22).drop 22).drop 22).all (startOk 6) = true := by decide +kernel
theorem all_split {α : Type} (f : α → Bool) (l : List α) (k : Nat) (h1 : (l.take k).all f = true) (h2 : (l.drop k).all f = true) : l.all f = true := by
  rw [← List.take_append_drop k l, List.all_append, h1, h2]
  rfl
theorem ok5 : (runs 5).all (startOk 5) = true := all_split _ _ 21 ok5a ok5b
theorem ok6 : (runs 6).all (startOk 6) = true := all_split _ _ 22 ok6a (all_split _ _ 22 ok6b (all_split _ _ 22 ok6c (all_split _ _ 22 ok6d (all_split _ _ 22 ok6e ok6f))))
end Mine
namespace Mine
theorem alikeOf_eq (gs : List Int) (n : Nat) : alikeOf gs n = rowsBy n (ansB ((List.range n).map (pairB gs n))) := by
  have e : (fun i j => ansOf gs n i j) = ansB ((List.range n).map (pairB gs n)) := by
    rw [← ansB_eq]
    funext i j
    unfold ansOf ansP
    exact checks_head _
  unfold alikeOf
  rw [e]
theorem nextOf_eq (gs : List Int) (n : Nat) : nextOf gs n = nextFrom (alikeOf gs n) n := rfl
theorem good6_of {gs : List Int} {n : Nat} (h : good6 gs n = true) : Good6 gs n := by
  unfold good6 at h
  rw [Bool.and_eq_true, beq_iff_eq, List.all_eq_true] at h
  refine ⟨h.1, fun g hg => ?_⟩
  have := h.2 g hg
  rw [Bool.and_eq_true, decide_eq_true_iff, decide_eq_true_iff] at this
  exact this
theorem chk_all (first : List Int) (n : Nat) (hl : first.length = n) : ∀ k i₀, chk first n k (i₀ + 1) (gAt first n i₀) = true → ∀ i, i₀ ≤ i → i < i₀ + k → Good6 (gAt first n i) n ∧ alikeOf (gAt first n i) n = alikeRows first (i + 1)
  | 0, i₀, _, i, h1, h2 => by omega
  | k + 1, i₀, h, i, h1, h2 => by
    unfold chk at h
    have h := forceG_of h
    rw [Bool.and_eq_true] at h
    obtain ⟨hg, h⟩ := h
    have h := forceG_of h
    rw [forceB_eq, Bool.and_eq_true, beq_iff_eq, ← alikeOf_eq, ← hl, ← rowsT_eq, hl] at h
    obtain ⟨ha, hr⟩ := h
    by_cases e : i = i₀
    · subst e
      exact ⟨good6_of hg, ha⟩
    · rw [← ha, ← nextOf_eq] at hr
      exact chk_all first n hl k (i₀ + 1) hr i (by omega) (by omega)
theorem ok_n {n : Nat} (hn : n ∈ [3, 4, 5, 6]) : (runs n).all (startOk n) = true := by
  simp only [List.mem_cons, List.mem_nil_iff, or_false] at hn
  rcases hn with rfl | rfl | rfl | rfl
  · exact ok3
  · exact ok4
  · exact ok5
  · exact ok6
theorem plain_law (script : List Int) {n : Nat} (hn : n ∈ [3, 4, 5, 6]) : ∀ i, i < n → Good6 (gAt (grpRun script n).1 n i) n ∧ alikeOf (gAt (grpRun script n).1 n i) n = alikeRows (grpRun script n).1 (i + 1) := fun i hi => by
  have h2 := List.all_eq_true.mp (ok_n hn) _ (run_mem script n)
  have h3 : chk (grpRun script n).1 n n 1 (grpRun script n).1 = true := forceG_of (l := (grpRun script n).1) (k := fun first => chk first n n 1 first) h2
  exact chk_all (grpRun script n).1 n (grpRun_len script n).1 n 0 h3 i (Nat.zero_le _) (by omega)
theorem count_mem (k : Nat) : countOf k ∈ [3, 4, 5, 6] := by
  unfold countOf
  have : min 3 (k / 2) ≤ 3 := Nat.min_le_left ..
  generalize min 3 (k / 2) = m at this
  match m, this with
  | 0, _ => decide
  | 1, _ => decide
  | 2, _ => decide
  | 3, _ => decide
section
variable {prog : Program} {w : World} {A : Around} {s : Shared}
theorem law_true (W : Wd w s.heap) (R : RoomA 10 A) {sv : Value} {script : List Int} (hs : LI s.heap sv script) (hlen : script.length ≤ 1000) : T prog w A (call (.ref 224) [sv]) (fun v _ => v = .bool true) s :=
  law_ok W R hs hlen (plain_law script (count_mem _))
end
end Mine
namespace Mine
theorem g_law (w : World) : nsIn (hd.heap_39 w.params) mainGlobals "law" = some (some (.ref 224)) := by kernel_rfl
theorem room10 : RoomA 10 callerA := ⟨rfl, by decide, by decide⟩
theorem joinT : PySem.Challenge.rw_ph0159_01.Holds := by
  refine Mine.hd ?_
  intro w s₀ s₁ mg mb G Y fa o pm cd doc dV kV ho hd' hcd hD hmg hg args vals as hpre hlay hrd hwl hlo
  have KX := kIn_of Y
  refine Ground.open G ?_
  intro T B D TE TW
  have hfa := mg_of KX T.g (g_law w)
  have e : fa = 224 := by
    have h := hmg.symm.trans hfa
    injection h with h
    injection h
  subst e
  have Wd0 : Wd w s₁.heap := ⟨KX, ⟨mg, mb, T.g, T.b, T.builtins⟩, T.nolimit⟩
  clear hd' hcd hD B D TE TW T Y KX hfa hmg ho
  wrow_args hpre hlay hrd hwl hlo
  rename_i hL' ra' w1' r0' hI' hr' hc1 hc2
  refine T.wp (law_true Wd0 room10 ⟨_, _, rfl, hL', hI'⟩ (by omega)) fun v s' x e => ?_
  subst e
  exact ⟨.inl ⟨_, _, [], rfl, fun _ => rfl, ReadsW.bool true, by first | rfl | wrow_post, fun _ => ⟨List.nodup_nil, fun _ hm => (nomatch hm)⟩⟩, OldK.of_keep x.ext, x.os, x.bare (.of_eq hg)⟩
end Mine
theorem PySem.Challenge.cw_ph0159_01_holds : PySem.Challenge.rw_ph0159_01.Holds := by
  exact Mine.joinT
