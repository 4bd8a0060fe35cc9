import PyProof.Rows.All
import Wide.All
import OpenK.AllK
import Wide.FinOn
import PySem.Challenge.RW_mr0387_03
open PySem PySem.W PyProof.Rows PySem.Calls
set_option Elab.async false
set_option linter.unusedVariables false

namespace Mine

/-! heaps that grow -/
def Le (h h' : Heap) : Prop := ∀ b o, h.get? b = some o → h'.get? b = some o
theorem Le.refl (h : Heap) : Le h h := fun _ _ e => e
theorem Le.trans {a b c : Heap} (x : Le a b) (y : Le b c) : Le a c := fun q o e => y q o (x q o e)
theorem Le.push (h : Heap) (o : Obj) : Le h (h.push o) := fun _ _ e => Heap.get?_push_of_some o e
theorem none_size (h : Heap) : h.get? h.objs.size = none := by
  cases e : h.get? h.objs.size with
  | none => rfl
  | some o => exact absurd (Heap.lt_size e) (Nat.lt_irrefl _)
theorem Le.none {h h' : Heap} (x : Le h h') {a : Addr} (e : h'.get? a = none) : h.get? a = none := by
  cases q : h.get? a with
  | none => rfl
  | some o => rw [x _ _ q] at e; cases e
theorem keeps_refl (s : Shared) : Keeps s s := ⟨s.heap, s.toks, rfl, fun _ _ e => e⟩
theorem keeps_trans {a b c : Shared} (x : Keeps a b) (y : Keeps b c) : Keeps a c := by
  obtain ⟨h, t, rfl, k⟩ := x
  obtain ⟨h', t', rfl, k'⟩ := y
  exact ⟨h', t', rfl, fun q o e => k' q o (k q o e)⟩
theorem keeps_le {a b : Shared} (x : Keeps a b) : Le a.heap b.heap := by
  obtain ⟨h, t, rfl, k⟩ := x
  exact k
theorem keeps_tok (s : Shared) (n : Nat) : Keeps s { s with toks := n } := ⟨s.heap, n, rfl, fun _ _ e => e⟩

/-! values and lists -/
inductive D where
  | int (k : Int)
  | ref (a : Addr)
def D.is : D → Value → Prop
  | .int k, v => ∃ t, v = .int k t
  | .ref a, v => v = .ref a

def LI (h : Heap) (a : Addr) (ns : List Int) : Prop := ∃ vs, h.IsList a vs.toArray ∧ IntsAre vs ns
def LP (h : Heap) (a : Addr) (ns : List Int) : Prop := ∃ vs, h.PlainList a vs.toArray ∧ IntsAre vs ns
def LR (h : Heap) (a : Addr) (as : List Addr) : Prop := h.PlainList a (as.map Value.ref).toArray
theorem LP.li {h a ns} (x : LP h a ns) : LI h a ns := let ⟨vs, p, i⟩ := x; ⟨vs, p.isList, i⟩
theorem LI.le {h h' a ns} (x : LI h a ns) (k : Le h h') : LI h' a ns := let ⟨vs, p, i⟩ := x; ⟨vs, p.at fun o e => k _ o e, i⟩
theorem LP.le {h h' a ns} (x : LP h a ns) (k : Le h h') : LP h' a ns := let ⟨vs, p, i⟩ := x; ⟨vs, p.at fun o e => k _ o e, i⟩
theorem LR.le {h h' a as} (x : LR h a as) (k : Le h h') : LR h' a as := Heap.PlainList.at x fun o e => k _ o e
theorem LI.some {h a ns} (x : LI h a ns) : ∃ o, h.get? a = some o := let ⟨_, ⟨o, e, _⟩, _⟩ := x; ⟨o, e⟩
theorem LR.some {h a as} (x : LR h a as) : ∃ o, h.get? a = some o := let ⟨_, e⟩ := x; ⟨_, e⟩

/-! the judgement for expressions: nothing that stands is changed -/
section
variable (prog : Program) (w : World) (A : Around) (env : Env) (h₁ : Heap)
def Ev (e : Expr) (Φ : Heap → Value → Heap → Prop) : Prop :=
  ∀ (s : Shared) (E : Value → Shared → Prop), Le h₁ s.heap → wpAny (model prog w) A (eval e env) (fun v s' => Keeps s s' ∧ Φ s.heap v s'.heap) E s
def EvI (e : Expr) (k : Int) : Prop := Ev prog w A env h₁ e fun _ v _ => ∃ t, v = .int k t
def EvL (e : Expr) (ns : List Int) : Prop := Ev prog w A env h₁ e fun _ v h' => ∃ a, v = .ref a ∧ LI h' a ns
def EvN (e : Expr) (ns : List Int) : Prop := Ev prog w A env h₁ e fun h v h' => ∃ a, v = .ref a ∧ h.get? a = none ∧ LP h' a ns
def EvA (e : Expr) (a : Addr) : Prop := Ev prog w A env h₁ e fun _ v _ => v = .ref a
def Tst (e : Expr) (b : Bool) : Prop :=
  ∀ (s : Shared) (E : Value → Shared → Prop), Le h₁ s.heap → wpAny (model prog w) A (isTrue e env (eval e env)) (fun r s' => Keeps s s' ∧ r = b) E s
end

section
variable {prog : Program} {w : World} {A : Around} {env : Env} {h₁ : Heap}
theorem EvN.l {e ns} (x : EvN prog w A env h₁ e ns) : EvL prog w A env h₁ e ns := fun s E k =>
  wpAny_mono (x s E k) (fun v s' ⟨k', a, e, _, l⟩ => ⟨k', a, e, l.li⟩) fun _ _ e => e
theorem EvA.l {e a ns} (x : EvA prog w A env h₁ e a) (l : LI h₁ a ns) : EvL prog w A env h₁ e ns := fun s E k =>
  wpAny_mono (x s E k) (fun v s' ⟨k', e⟩ => ⟨k', a, e, l.le (k.trans (keeps_le k'))⟩) fun _ _ e => e

/-- two expressions one behind the other, then a step -/
theorem Ev.two {e₁ e₂ : Expr} {Φ₁ Φ₂ : Heap → Value → Heap → Prop} (x : Ev prog w A env h₁ e₁ Φ₁) (y : Ev prog w A env h₁ e₂ Φ₂) {s : Shared} {E : Value → Shared → Prop} (k : Le h₁ s.heap)
    {R : Value → Value → Shared → Prop}
    (h : ∀ a b s₁ s₂, Keeps s s₁ → Φ₁ s.heap a s₁.heap → Keeps s₁ s₂ → Φ₂ s₁.heap b s₂.heap → R a b s₂) :
    wpAny (model prog w) A (eval e₁ env) (fun a s₁ => wpAny (model prog w) A (eval e₂ env) (fun b s₂ => R a b s₂) E s₁) E s :=
  wpAny_mono (x s E k) (fun a s₁ ⟨k₁, p⟩ => wpAny_mono (y s₁ E (k.trans (keeps_le k₁))) (fun b s₂ ⟨k₂, q⟩ => h a b s₁ s₂ k₁ p k₂ q) fun _ _ e => e) fun _ _ e => e

theorem ev_const {i : Int} {kk : Nat} {pos : Pos} : EvI prog w A env h₁ (.Constant (.int i) kk pos) i := fun s E _ =>
  wpAny_Constant_int ⟨keeps_tok s _, _, rfl⟩

theorem ev_add {l r : Expr} {pos : Pos} {a b : Int} (x : EvI prog w A env h₁ l a) (y : EvI prog w A env h₁ r b) : EvI prog w A env h₁ (.BinOp l .Add r pos) (a + b) := fun s E k =>
  wpAny_BinOp (Ev.two x y k fun u v s₁ s₂ k₁ ⟨t, e⟩ k₂ ⟨t', e'⟩ => by
    subst e e'; exact PyProof.Rows.add_int ⟨keeps_trans (keeps_trans k₁ k₂) (keeps_tok _ _), _, rfl⟩)
theorem ev_sub {l r : Expr} {pos : Pos} {a b : Int} (x : EvI prog w A env h₁ l a) (y : EvI prog w A env h₁ r b) : EvI prog w A env h₁ (.BinOp l .Sub r pos) (a - b) := fun s E k =>
  wpAny_BinOp (Ev.two x y k fun u v s₁ s₂ k₁ ⟨t, e⟩ k₂ ⟨t', e'⟩ => by
    subst e e'; exact PyProof.Rows.sub_int ⟨keeps_trans (keeps_trans k₁ k₂) (keeps_tok _ _), _, rfl⟩)
theorem ev_mul {l r : Expr} {pos : Pos} {a b : Int} (x : EvI prog w A env h₁ l a) (y : EvI prog w A env h₁ r b) (hm : IntMulOk a b) : EvI prog w A env h₁ (.BinOp l .Mult r pos) (a * b) := fun s E k =>
  wpAny_BinOp (Ev.two x y k fun u v s₁ s₂ k₁ ⟨t, e⟩ k₂ ⟨t', e'⟩ => by
    subst e e'; exact PyProof.Rows.mul_int ⟨keeps_trans (keeps_trans k₁ k₂) (keeps_tok _ _), _, rfl⟩ hm)
theorem ev_mod {l r : Expr} {pos : Pos} {a b : Int} (x : EvI prog w A env h₁ l a) (y : EvI prog w A env h₁ r b) (hb : b ≠ 0) : EvI prog w A env h₁ (.BinOp l .Mod r pos) (a.fmod b) := fun s E k =>
  wpAny_BinOp (Ev.two x y k fun u v s₁ s₂ k₁ ⟨t, e⟩ k₂ ⟨t', e'⟩ => by
    subst e e'; exact PyProof.Rows.mod_int' hb ⟨keeps_trans (keeps_trans k₁ k₂) (keeps_tok _ _), _, rfl⟩)
theorem ev_fdiv {l r : Expr} {pos : Pos} {a b : Int} (x : EvI prog w A env h₁ l a) (y : EvI prog w A env h₁ r b) (hb : b ≠ 0) (hp : Builtin.divisionGoesByPylong a b = false) : EvI prog w A env h₁ (.BinOp l .FloorDiv r pos) (a.fdiv b) := fun s E k =>
  wpAny_BinOp (Ev.two x y k fun u v s₁ s₂ k₁ ⟨t, e⟩ k₂ ⟨t', e'⟩ => by
    subst e e'; exact PyProof.Rows.floordiv_int hb ⟨keeps_trans (keeps_trans k₁ k₂) (keeps_tok _ _), _, rfl⟩ (.inl hp))
theorem ev_pow {l r : Expr} {pos : Pos} {a b : Int} (x : EvI prog w A env h₁ l a) (y : EvI prog w A env h₁ r b) (hb : 0 ≤ b) (hs : (Builtin.Int.intBits a : Int) * b ≤ 2 ^ 27) : EvI prog w A env h₁ (.BinOp l .Pow r pos) (a ^ b.toNat) := fun s E k =>
  wpAny_BinOp (Ev.two x y k fun u v s₁ s₂ k₁ ⟨t, e⟩ k₂ ⟨t', e'⟩ => by
    subst e e'; exact PyProof.Rows.pow_int hb hs ⟨keeps_trans (keeps_trans k₁ k₂) (keeps_tok _ _), _, rfl⟩)

/-! tests -/
theorem marks_ne {op : CmpOp} {r : Expr} (h : (op == .In || op == .NotIn) = false) : behindInMarks op r = false := by
  cases r <;> simp [behindInMarks, h]
theorem tst_lt {l r : Expr} {pos : Pos} {a b : Int} (x : EvI prog w A env h₁ l a) (y : EvI prog w A env h₁ r b) : Tst prog w A env h₁ (.Compare l [.Lt] [r] pos) (decide (a < b)) := fun s E k =>
  wpAny_isTrue_Compare1 (Ev.two x y k fun u v s₁ s₂ k₁ ⟨t, e⟩ k₂ ⟨t', e'⟩ => by
    subst e e'; exact PyProof.Rows.lt_int (wpAny_truthy_bool ⟨keeps_trans k₁ k₂, rfl⟩)) (marks_ne rfl)
theorem tst_gt {l r : Expr} {pos : Pos} {a b : Int} (x : EvI prog w A env h₁ l a) (y : EvI prog w A env h₁ r b) : Tst prog w A env h₁ (.Compare l [.Gt] [r] pos) (decide (b < a)) := fun s E k =>
  wpAny_isTrue_Compare1 (Ev.two x y k fun u v s₁ s₂ k₁ ⟨t, e⟩ k₂ ⟨t', e'⟩ => by
    subst e e'; exact PyProof.Rows.gt_int (wpAny_truthy_bool ⟨keeps_trans k₁ k₂, rfl⟩)) (marks_ne rfl)
theorem tst_ge {l r : Expr} {pos : Pos} {a b : Int} (x : EvI prog w A env h₁ l a) (y : EvI prog w A env h₁ r b) : Tst prog w A env h₁ (.Compare l [.GtE] [r] pos) (decide (b ≤ a)) := fun s E k =>
  wpAny_isTrue_Compare1 (Ev.two x y k fun u v s₁ s₂ k₁ ⟨t, e⟩ k₂ ⟨t', e'⟩ => by
    subst e e'; exact PyProof.Rows.ge_int (wpAny_truthy_bool ⟨keeps_trans k₁ k₂, rfl⟩)) (marks_ne rfl)
theorem tst_eq {l r : Expr} {pos : Pos} {a b : Int} (x : EvI prog w A env h₁ l a) (y : EvI prog w A env h₁ r b) : Tst prog w A env h₁ (.Compare l [.Eq] [r] pos) (a == b) := fun s E k =>
  wpAny_isTrue_Compare1 (Ev.two x y k fun u v s₁ s₂ k₁ ⟨t, e⟩ k₂ ⟨t', e'⟩ => by
    subst e e'; exact PyProof.Rows.eq_int (wpAny_truthy_bool ⟨keeps_trans k₁ k₂, rfl⟩)) (marks_ne rfl)
theorem tst_ne {l r : Expr} {pos : Pos} {a b : Int} (x : EvI prog w A env h₁ l a) (y : EvI prog w A env h₁ r b) : Tst prog w A env h₁ (.Compare l [.NotEq] [r] pos) (a != b) := fun s E k =>
  wpAny_isTrue_Compare1 (Ev.two x y k fun u v s₁ s₂ k₁ ⟨t, e⟩ k₂ ⟨t', e'⟩ => by
    subst e e'; exact PyProof.Rows.ne_int (wpAny_truthy_bool ⟨keeps_trans k₁ k₂, rfl⟩)) (marks_ne rfl)
theorem tst_in {l r : Expr} {pos : Pos} {a : Int} {ns : List Int} (x : EvI prog w A env h₁ l a) (y : EvL prog w A env h₁ r ns) (hm : behindInMarks .In r = false := by with_unfolding_all rfl) :
    Tst prog w A env h₁ (.Compare l [.In] [r] pos) (ns.any (· == a)) := fun s E k =>
  wpAny_isTrue_Compare1 (Ev.two x y k fun u v s₁ s₂ k₁ ⟨t, e⟩ k₂ ⟨b, e', vs, hl, hi⟩ => by
    subst e e'; exact PyProof.Rows.in_list_ints hl hi (wpAny_truthy_bool ⟨keeps_trans k₁ k₂, rfl⟩)) hm
theorem tst_eqL {l r : Expr} {pos : Pos} {ns ms : List Int} (x : EvL prog w A env h₁ l ns) (y : EvL prog w A env h₁ r ms) (hu : A.units + 64 < cLine) :
    Tst prog w A env h₁ (.Compare l [.Eq] [r] pos) (decide (ns = ms)) := fun s E k =>
  wpAny_isTrue_Compare1 (Ev.two x y k fun u v s₁ s₂ k₁ ⟨a, e, L⟩ k₂ ⟨b, e', vs, hl, hi⟩ => by
    obtain ⟨us, hl', hi'⟩ := L.le (keeps_le k₂)
    subst e e'; exact eq_intsK hl' hi' hl hi hu (wpAny_truthy_bool ⟨keeps_trans k₁ k₂, rfl⟩)) (marks_ne rfl)
theorem ev_ife {t b o : Expr} {pos : Pos} {c : Bool} {m n : Int} (x : Tst prog w A env h₁ t c) (y : c = true → EvI prog w A env h₁ b m) (z : c = false → EvI prog w A env h₁ o n) :
    EvI prog w A env h₁ (.IfExp t b o pos) (if c then m else n) := fun s E k => by
  refine wpAny_bind (wpAny_mono (x s E k) (fun r s₁ hr => ?_) fun _ _ e => e)
  obtain ⟨k₁, e⟩ := hr
  subst e
  cases r with
  | true => exact wpAny_mono (y rfl s₁ E (k.trans (keeps_le k₁))) (fun v s₂ ⟨k₂, q⟩ => ⟨keeps_trans k₁ k₂, q⟩) fun _ _ e => e
  | false => exact wpAny_mono (z rfl s₁ E (k.trans (keeps_le k₁))) (fun v s₂ ⟨k₂, q⟩ => ⟨keeps_trans k₁ k₂, q⟩) fun _ _ e => e
end
end Mine

namespace Mine

/-! a list of expressions none of which is starred -/
theorem star_bin {l r : Expr} {op pos rest env} : starEach (.BinOp l op r pos :: rest) env = (false, eval (.BinOp l op r pos) env) :: starEach rest env := rfl
theorem star_name {x pos rest env} : starEach (.Name x pos :: rest) env = (false, eval (.Name x pos) env) :: starEach rest env := rfl
theorem star_call {f a k pos rest env} : starEach (.Call f a k pos :: rest) env = (false, eval (.Call f a k pos) env) :: starEach rest env := rfl
theorem star_comp {f a k pos rest env} : starEach (.ListComp f a k pos :: rest) env = (false, eval (.ListComp f a k pos) env) :: starEach rest env := rfl
theorem star_const {c k pos rest env} : starEach (.Constant c k pos :: rest) env = (false, eval (.Constant c k pos) env) :: starEach rest env := rfl
theorem star_sub {v s pos rest env} : starEach (.Subscript v s pos :: rest) env = (false, eval (.Subscript v s pos) env) :: starEach rest env := rfl
theorem star_ife {t b o pos rest env} : starEach (.IfExp t b o pos :: rest) env = (false, eval (.IfExp t b o pos) env) :: starEach rest env := rfl
theorem star_list {t pos rest env} : starEach (.List t pos :: rest) env = (false, eval (.List t pos) env) :: starEach rest env := rfl
theorem star_nil {env} : starEach [] env = [] := rfl

/-! names -/
structure EnvOk (env : Env) : Prop where
  kind : env.scope.kind = .function
  globals : env.globals = mainGlobals
  builtins : env.builtins = builtinsNs

def Has (env : Env) (h : Heap) (x : Str) (d : D) : Prop := ∃ v, d.is v ∧
  ((env.kindOf x = some .local ∧ ∃ m, h.Ns env.locals m ∧ m x = some v) ∨ (env.kindOf x = some .cell ∧ ∃ c, env.cells.lookup x = some c ∧ h.IsCell c (some v)))
theorem Has.le {env h h' x d} (H : Has env h x d) (k : Le h h') : Has env h' x d := by
  obtain ⟨v, hv, ⟨a, m, n, e⟩ | ⟨a, c, l, i⟩⟩ := H
  · exact ⟨v, hv, .inl ⟨a, m, n.keeps k, e⟩⟩
  · exact ⟨v, hv, .inr ⟨a, c, l, i.keeps k⟩⟩
/-- a name that the comprehension takes from around it -/
theorem Has.into {env cenv : Env} {h x d} (H : Has env h x d) (hk : env.kindOf x = some .cell) (hk' : cenv.kindOf x = some .cell) (hl : cenv.cells.lookup x = env.cells.lookup x) : Has cenv h x d := by
  obtain ⟨v, hv, ⟨a, _⟩ | ⟨a, c, l, i⟩⟩ := H
  · rw [hk] at a; cases a
  · exact ⟨v, hv, .inr ⟨hk', c, hl.trans l, i⟩⟩

def Bi (h : Heap) (x : Str) (v : Value) : Prop := ∃ mg mb, h.Ns mainGlobals mg ∧ mg x = none ∧ h.Ns builtinsNs mb ∧ mb x = some v
def Gf (h : Heap) (x : Str) (v : Value) : Prop := ∃ mg, h.Ns mainGlobals mg ∧ mg x = some v
theorem Bi.le {h h' x v} (H : Bi h x v) (k : Le h h') : Bi h' x v := let ⟨mg, mb, a, b, c, d⟩ := H; ⟨mg, mb, a.keeps k, b, c.keeps k, d⟩
theorem Gf.le {h h' x v} (H : Gf h x v) (k : Le h h') : Gf h' x v := let ⟨mg, a, b⟩ := H; ⟨mg, a.keeps k, b⟩
structure Glb (h : Heap) : Prop where
  len : Bi h "len" (.builtin "len")
  sum : Bi h "sum" (.builtin "sum")
  min : Bi h "min" (.builtin "min")
  max : Bi h "max" (.builtin "max")
  range : Bi h "range" (.type "range")
  list : Bi h "list" (.type "list")
theorem Glb.le {h h'} (G : Glb h) (k : Le h h') : Glb h' := ⟨G.len.le k, G.sum.le k, G.min.le k, G.max.le k, G.range.le k, G.list.le k⟩

section
variable {prog : Program} {w : World} {A : Around} {env : Env} {h₁ : Heap}
theorem ev_name' {x : Str} {pos : Pos} {d : D} (ok : EnvOk env) (H : Has env h₁ x d) (hd : (x == ("__debug__" : Str)) = false) : Ev prog w A env h₁ (.Name x pos) fun _ v _ => d.is v := fun s E k => by
  obtain ⟨v, hv, ⟨a, m, n, e⟩ | ⟨a, c, l, i⟩⟩ := H.le k
  · exact wpAny_Name (wpAny_loadName_local ok.kind a n e ⟨keeps_refl s, hv⟩) hd
  · exact wpAny_Name (wpAny_loadName_cell ok.kind a l i ⟨keeps_refl s, hv⟩) hd
theorem ev_name {x : Str} {pos : Pos} {k : Int} (ok : EnvOk env) (H : Has env h₁ x (.int k)) (hd : (x == ("__debug__" : Str)) = false := by decide) : EvI prog w A env h₁ (.Name x pos) k := ev_name' ok H hd
theorem ev_nameA {x : Str} {pos : Pos} {a : Addr} (ok : EnvOk env) (H : Has env h₁ x (.ref a)) (hd : (x == ("__debug__" : Str)) = false := by decide) : EvA prog w A env h₁ (.Name x pos) a := ev_name' ok H hd
theorem ev_nameL {x : Str} {pos : Pos} {a : Addr} {ns : List Int} (ok : EnvOk env) (H : Has env h₁ x (.ref a)) (L : LI h₁ a ns) (hd : (x == ("__debug__" : Str)) = false := by decide) : EvL prog w A env h₁ (.Name x pos) ns :=
  EvA.l (ev_nameA ok H hd) L

theorem bi_name {x : Str} {pos : Pos} {v : Value} {s : Shared} {E : Value → Shared → Prop} {Q : Value → Shared → Prop} (ok : EnvOk env) (hk : env.kindOf x = some .globalImplicit) (H : Bi s.heap x v) (h : Q v s) (hd : (x == ("__debug__" : Str)) = false) :
    wpAny (model prog w) A (eval (.Name x pos) env) Q E s := by
  obtain ⟨mg, mb, a, b, c, d⟩ := H
  exact Name_function_global ok.kind hk (loadGlobal_builtin (ok.globals ▸ a) b (ok.builtins ▸ c) d h) hd
theorem gf_name {x : Str} {pos : Pos} {v : Value} {s : Shared} {E : Value → Shared → Prop} {Q : Value → Shared → Prop} (ok : EnvOk env) (hk : env.kindOf x = some .globalImplicit) (H : Gf s.heap x v) (h : Q v s) (hd : (x == ("__debug__" : Str)) = false) :
    wpAny (model prog w) A (eval (.Name x pos) env) Q E s := by
  obtain ⟨mg, a, b⟩ := H
  exact Name_function_global ok.kind hk (loadGlobal_global (ok.globals ▸ a) b h) hd

/-! calls of built-in functions -/
theorem ev_call1 {x : Str} {np pos : Pos} {e : Expr} {id : String} {Φ₁ Φ : Heap → Value → Heap → Prop} (ok : EnvOk env) (H : Bi h₁ x (.builtin id)) (y : Ev prog w A env h₁ e Φ₁)
    (step : ∀ v s s₁ E, Keeps s s₁ → Le h₁ s.heap → Φ₁ s.heap v s₁.heap → wpAny (model prog w) A (call (.builtin id) [v]) (fun r s' => Keeps s s' ∧ Φ s.heap r s'.heap) E s₁)
    (hk : env.kindOf x = some .globalImplicit) (he : starEach [e] env = [(false, eval e env)]) (hd : (x == ("__debug__" : Str)) = false) :
    Ev prog w A env h₁ (.Call (.Name x np) [e] [] pos) Φ := fun s E k => by
  refine Call_ (bi_name ok hk (H.le k) (callWith_builtin1 (args_cons (wpAny_mono (y s E k) (fun v s₁ hv => args_nil ?_) fun _ _ e => e) he) he) hd)
  exact step v s s₁ E hv.1 k hv.2
theorem ev_call2 {x : Str} {np pos : Pos} {e f : Expr} {id : String} {Φ₁ Φ₂ Φ : Heap → Value → Heap → Prop} (ok : EnvOk env) (H : Bi h₁ x (.builtin id)) (y : Ev prog w A env h₁ e Φ₁) (z : Ev prog w A env h₁ f Φ₂)
    (step : ∀ u v s s₁ s₂ E, Keeps s s₁ → Keeps s₁ s₂ → Φ₁ s.heap u s₁.heap → Φ₂ s₁.heap v s₂.heap → wpAny (model prog w) A (call (.builtin id) [u, v]) (fun r s' => Keeps s s' ∧ Φ s.heap r s'.heap) E s₂)
    (hk : env.kindOf x = some .globalImplicit) (he : starEach [e, f] env = (false, eval e env) :: starEach [f] env) (hf : starEach [f] env = [(false, eval f env)]) (hd : (x == ("__debug__" : Str)) = false) :
    Ev prog w A env h₁ (.Call (.Name x np) [e, f] [] pos) Φ := fun s E k => by
  refine Call_ (bi_name ok hk (H.le k) (callWith_builtin1 (args_cons (wpAny_mono (y s E k) (fun u s₁ hu => args_cons (wpAny_mono (z s₁ E (k.trans (keeps_le hu.1))) (fun v s₂ hv => args_nil ?_) fun _ _ e => e) hf) fun _ _ e => e) he) he (by rw [hf]; rfl)) hd)
  exact step u v s s₁ s₂ E hu.1 hv.1 hu.2 hv.2
theorem ev_len {np pos : Pos} {e : Expr} {ns : List Int} (ok : EnvOk env) (G : Glb h₁) (y : EvL prog w A env h₁ e ns) (hl : ns.length < 2 ^ 62)
    (hk : env.kindOf "len" = some .globalImplicit := by rfl) (he : starEach [e] env = [(false, eval e env)] := by first | exact star_name | exact star_bin | exact star_call | exact star_comp | exact star_const | exact star_sub | exact star_ife | exact star_list) : EvI prog w A env h₁ (.Call (.Name "len" np) [e] [] pos) ns.length :=
  ev_call1 ok G.len y (fun v s s₁ E k _ hv => by
    obtain ⟨a, rfl, vs, l, i⟩ := hv
    have e := i.length
    refine len_list l (by simp only [List.size_toArray, e]; omega) ⟨keeps_trans k (keeps_tok _ _), s₁.toks + 1, ?_⟩
    simp only [List.size_toArray, e]) hk he (by decide)
theorem ev_sum {np pos : Pos} {e : Expr} {ns : List Int} (ok : EnvOk env) (G : Glb h₁) (hh : A.handled = none) (y : EvL prog w A env h₁ e ns)
    (hk : env.kindOf "sum" = some .globalImplicit := by rfl) (he : starEach [e] env = [(false, eval e env)] := by first | exact star_name | exact star_bin | exact star_call | exact star_comp | exact star_const | exact star_sub | exact star_ife | exact star_list) : EvI prog w A env h₁ (.Call (.Name "sum" np) [e] [] pos) ns.sum :=
  ev_call1 ok G.sum y (fun v s s₁ E k _ hv => by
    obtain ⟨a, rfl, vs, l, i⟩ := hv
    obtain ⟨xs, e⟩ := i.allInts.items
    have hns : ns = xs.toList.map (·.1) := by rw [← i.numsOf, ← nums_intItems, ← e]
    rw [e] at l
    refine sum_intListG hh l fun h' tk t' hk => ⟨keeps_trans k ⟨h', tk, rfl, hk⟩, t', ?_⟩
    rw [preSum_eq, List.take_of_length_le (by simp), hns]) hk he (by decide)
theorem ev_max {np pos : Pos} {e : Expr} {ns : List Int} {m : Int} (ok : EnvOk env) (G : Glb h₁) (hh : A.handled = none) (y : EvL prog w A env h₁ e ns) (hm : m ∈ ns) (hM : ∀ a ∈ ns, a ≤ m)
    (hk : env.kindOf "max" = some .globalImplicit := by rfl) (he : starEach [e] env = [(false, eval e env)] := by first | exact star_name | exact star_bin | exact star_call | exact star_comp | exact star_const | exact star_sub | exact star_ife | exact star_list) : EvI prog w A env h₁ (.Call (.Name "max" np) [e] [] pos) m :=
  ev_call1 ok G.max y (fun v s s₁ E k _ hv => by
    obtain ⟨a, rfl, vs, l, i⟩ := hv
    obtain ⟨xs, e⟩ := i.allInts.items
    have hns : ns = xs.toList.map (·.1) := by rw [← i.numsOf, ← nums_intItems, ← e]
    have hsz : 0 < xs.size := by
      have h3 := List.length_pos_of_mem hm; rw [hns, List.length_map, Array.length_toList] at h3; exact h3
    rw [e] at l
    refine max_intList hh l hsz fun v h' tk hv hk => ?_
    obtain ⟨t, rfl⟩ := intItems_at hv
    obtain ⟨h1, h2⟩ := argBest_gt (numAt xs) (xs.size - 1)
    refine ⟨keeps_trans k ⟨h', tk, rfl, hk⟩, t, ?_⟩
    congr 1
    apply Int.le_antisymm
    · apply hM
      rw [hns, numAt_eq]; exact getD_mem (by rw [List.length_map, Array.length_toList]; omega)
    · rw [hns] at hm
      obtain ⟨j, hj, rfl⟩ := mem_getD hm
      rw [List.length_map, Array.length_toList] at hj
      rw [← numAt_eq]; exact h2 j (by omega)) hk he (by decide)
theorem ev_min2 {np pos : Pos} {e f : Expr} {a b : Int} (ok : EnvOk env) (G : Glb h₁) (hh : A.handled = none) (y : EvI prog w A env h₁ e a) (z : EvI prog w A env h₁ f b)
    (hk : env.kindOf "min" = some .globalImplicit := by rfl) (he : starEach [e, f] env = (false, eval e env) :: starEach [f] env := by first | exact star_name | exact star_bin | exact star_call | exact star_comp | exact star_const | exact star_sub | exact star_ife | exact star_list) (hf : starEach [f] env = [(false, eval f env)] := by first | exact star_name | exact star_bin | exact star_call | exact star_comp | exact star_const | exact star_sub | exact star_ife | exact star_list) :
    EvI prog w A env h₁ (.Call (.Name "min" np) [e, f] [] pos) (min a b) :=
  ev_call2 ok G.min y z (fun u v s s₁ s₂ E k₁ k₂ hu hv => by
    obtain ⟨t, rfl⟩ := hu
    obtain ⟨t', rfl⟩ := hv
    refine min_two_ints hh fun h' tk hk => ⟨keeps_trans (keeps_trans k₁ k₂) ⟨h', tk, rfl, hk⟩, ?_⟩
    by_cases c : b < a
    · rw [if_pos c]; exact ⟨t', by rw [Int.min_eq_right (Int.le_of_lt c)]⟩
    · rw [if_neg c]; exact ⟨t, by rw [Int.min_eq_left (Int.not_lt.mp c)]⟩) hk he hf (by decide)

/-! new lists -/
theorem lp_new {h : Heap} {vs : List Value} {ns : List Int} (i : IntsAre vs ns) : LP (h.push { cls := .type "list", data := .seq vs.toArray }) h.objs.size ns := ⟨vs, ⟨_, Heap.get?_push_size _ rfl⟩, i⟩
theorem ev_list0 {pos : Pos} : EvN prog w A env h₁ (.List [] pos) [] := fun s E k =>
  List_ (args_nil (wpAny_newObj_type ⟨⟨_, s.toks, rfl, Le.push _ _⟩, _, rfl, none_size _, lp_new .nil⟩ (by show ([] : List Value).toArray.size ≤ sizeLine; decide)))
theorem ev_list1 {pos : Pos} {e : Expr} {k : Int} (y : EvI prog w A env h₁ e k) (he : starEach [e] env = [(false, eval e env)] := by first | exact star_name | exact star_bin | exact star_call | exact star_comp | exact star_const | exact star_sub | exact star_ife | exact star_list) : EvN prog w A env h₁ (.List [e] pos) [k] := fun s E hk =>
  List_ (args_cons (wpAny_mono (y s E hk) (fun v s₁ hv => args_nil (by
    obtain ⟨k₁, t, rfl⟩ := hv
    exact wpAny_newObj_type ⟨keeps_trans k₁ ⟨_, s₁.toks, rfl, Le.push _ _⟩, _, rfl, (keeps_le k₁).none (none_size _), lp_new (.cons _ _ .nil)⟩ (by show [Value.int k t].toArray.size ≤ sizeLine; simp [sizeLine]))) fun _ _ e => e) he)
theorem ev_listcopy {np pos : Pos} {e : Expr} {ns : List Int} (ok : EnvOk env) (G : Glb h₁) (y : EvL prog w A env h₁ e ns) (hz : ns.length ≤ sizeLine)
    (hk : env.kindOf "list" = some .globalImplicit := by rfl) (he : starEach [e] env = [(false, eval e env)] := by first | exact star_name | exact star_bin | exact star_call | exact star_comp | exact star_const | exact star_sub | exact star_ife | exact star_list) : EvN prog w A env h₁ (.Call (.Name "list" np) [e] [] pos) ns := fun s E k => by
  refine Call_ (bi_name ok hk (G.list.le k) (callWith_type1 (args_cons (wpAny_mono (y s E k) (fun v s₁ hv => args_nil ?_) fun _ _ e => e) he) he) (by decide))
  obtain ⟨k₁, a, rfl, vs, l, i⟩ := hv
  obtain ⟨o, ho, hc, n, hd⟩ := l
  refine call_list_seq (hsz := by simp only [List.size_toArray, i.length]; exact hz) a (.inl rfl) ho hc hd fun h' c' hk hD => ⟨keeps_trans k₁ ⟨h', s₁.toks, rfl, hk⟩, _, rfl, (keeps_le k₁).none (none_size _), vs, ⟨_, hD⟩, i⟩
/-- two lists one behind the other: the road is the library's, the end is the very heap -/
theorem cat_step {l b : Addr} {vs ws : List Value} {s : Shared} {E : Value → Shared → Prop} {Q : Value → Shared → Prop} (hl : s.heap.IsList l vs.toArray) (hb : s.heap.IsList b ws.toArray) (hsz : vs.length + ws.length ≤ sizeLine)
    (h : Q (.ref s.heap.objs.size) { s with heap := s.heap.push { cls := .type "list", data := .seq (vs ++ ws).toArray } }) : wpAny (model prog w) A (binaryOp .Add (.ref l) (.ref b)) Q E s := by
  obtain ⟨⟨c₁, d₁, x₁, s₁⟩, ho, rfl, n, rfl⟩ := hl
  obtain ⟨⟨c₂, d₂, x₂, s₂⟩, ho2, rfl, n2, rfl⟩ := hb
  have e : vs.toArray ++ ws.toArray = (vs ++ ws).toArray := by simp
  refine concat_meets ⟨_, ho, rfl⟩ ⟨_, ho2, rfl⟩ noFill_list_add seq_list_add PySem.F.slot_list_add PySem.F.entry_list_add (PySem.F.args_list_add_2 _ _) (list_addW l b vs.toArray ws.toArray n n2 d₁ d₂ s₁ s₂ (by simpa using hsz)) ⟨ho, ho2, ?_⟩
  rw [e]; exact h
/-- [x] * n -/
theorem rep_step {l : Addr} {v : Value} {k : Nat} {x : Int} {u : Tok} {s : Shared} {E : Value → Shared → Prop} {Q : Value → Shared → Prop}
    (hl : s.heap.get? l = some { cls := .type "list", dict := none, data := .seq [v].toArray k, slots := #[] }) (hlo : 0 ≤ x) (hhi : x ≤ 2 ^ 24)
    (h : Q (.ref s.heap.objs.size) { s with heap := s.heap.push { cls := .type "list", data := .seq (List.replicate x.toNat v).toArray } }) : wpAny (model prog w) A (binaryOp .Mult (.ref l) (.int x u)) Q E s := by
  have e : ∀ n : Nat, List.foldl (fun x1 x2 => x1 ++ x2) #[] (List.replicate n [v].toArray) = (List.replicate n v).toArray := by
    intro n
    induction n with
    | zero => rfl
    | succ n ih =>
      rw [List.replicate_succ', List.foldl_append, ih, List.replicate_succ']
      show (List.replicate n v).toArray ++ [v].toArray = _
      simp only [List.append_toArray]
  refine wpAny_binaryOp_repeat_ref (T := "list") (U := "int") (by decide) ⟨_, hl, rfl⟩ (fun s' => typeIs_int s' x u) noFill_list_mul F.fills_int_mul F.slot_int_rmul repeat_list F.slot_int_index.lookup
    (call_meets F.slot_int_rmul (typeIs_int s x u) F.entry_int_rmul (F.args_int_rmul_2 _ _) (int___rmul___int_list x u l [v].toArray k)
      ⟨hl, rfl, ⟨_, hl, rfl⟩, call_meets F.slot_list_mul ⟨_, hl, rfl⟩ F.entry_list_mul (F.args_list_mul_2 _ _)
        (AutoListH.list___mul___list_int_3 l [v].toArray k x u (by simp [Builtin.List.listFitsIndex]; omega) (by have : [v].toArray.size = 1 := rfl; rw [this]; omega) (by simp [Builtin.List.listTooLong, sizeLine]; omega))
        ⟨hl, ?_⟩⟩)
  have := e x.toNat
  simp only [List.isEmpty_toArray, List.isEmpty_cons, Bool.false_eq_true, if_false]
  rw [this]; exact h
theorem ints_rep (k : Int) (t : Tok) : ∀ n : Nat, IntsAre (List.replicate n (.int k t)) (List.replicate n k)
  | 0 => .nil
  | n + 1 => .cons _ _ (ints_rep k t n)
theorem ev_rep {e r : Expr} {pos pos' : Pos} {k n : Int} (x : EvI prog w A env h₁ e k) (y : EvI prog w A env h₁ r n) (h0 : 0 ≤ n) (hz : n ≤ 2 ^ 24) (he : starEach [e] env = [(false, eval e env)] := by first | exact star_name | exact star_bin | exact star_call | exact star_comp | exact star_const | exact star_sub | exact star_ife | exact star_list) :
    EvN prog w A env h₁ (.BinOp (.List [e] pos') .Mult r pos) (List.replicate n.toNat k) := fun s E hk => by
  refine wpAny_BinOp (List_ (args_cons (wpAny_mono (x s E hk) (fun v s₁ hv => args_nil ?_) fun _ _ e => e) he))
  obtain ⟨k₁, t, rfl⟩ := hv
  refine wpAny_newObj_type ?_ (by show [Value.int k t].toArray.size ≤ sizeLine; simp [sizeLine])
  have k₂ : Keeps s { s₁ with heap := s₁.heap.push { cls := .type "list", data := .seq [Value.int k t].toArray } } := keeps_trans k₁ ⟨_, s₁.toks, rfl, Le.push _ _⟩
  refine wpAny_mono (y _ E (hk.trans (keeps_le k₂))) (fun v s₂ hv => ?_) fun _ _ e => e
  obtain ⟨k₃, t', rfl⟩ := hv
  exact rep_step (keeps_le k₃ _ _ (Heap.get?_push_size _ rfl)) h0 hz ⟨keeps_trans (keeps_trans k₂ k₃) ⟨_, s₂.toks, rfl, Le.push _ _⟩, _, rfl, (keeps_le (keeps_trans k₂ k₃)).none (none_size _), lp_new (ints_rep _ _ _)⟩
theorem ev_cat {l r : Expr} {pos : Pos} {ns ms : List Int} (x : EvL prog w A env h₁ l ns) (y : EvL prog w A env h₁ r ms) (hz : ns.length + ms.length ≤ sizeLine) : EvN prog w A env h₁ (.BinOp l .Add r pos) (ns ++ ms) := fun s E k =>
  wpAny_BinOp (Ev.two x y k fun u v s₁ s₂ k₁ ⟨a, e, L⟩ k₂ ⟨b, e', us, hl, hi⟩ => by
    obtain ⟨vs, hl', hi'⟩ := L.le (keeps_le k₂)
    subst e e'
    exact cat_step hl' hl (by rw [hi.length, hi'.length]; exact hz) ⟨keeps_trans (keeps_trans k₁ k₂) ⟨_, s₂.toks, rfl, Le.push _ _⟩, _, rfl, (keeps_le (keeps_trans k₁ k₂)).none (none_size _), _, ⟨_, Heap.get?_push_size _ rfl⟩, hi'.append hi⟩)

/-! places and slices -/
def EvR (prog : Program) (w : World) (A : Around) (env : Env) (h₁ : Heap) (e : Expr) (as : List Addr) : Prop := Ev prog w A env h₁ e fun _ v h' => ∃ a, v = .ref a ∧ LR h' a as
theorem EvA.r {e a as} (x : EvA prog w A env h₁ e a) (l : LR h₁ a as) : EvR prog w A env h₁ e as := fun s E k =>
  wpAny_mono (x s E k) (fun v s' ⟨k', e⟩ => ⟨k', a, e, l.le (k.trans (keeps_le k'))⟩) fun _ _ e => e
theorem ev_idx {e i : Expr} {pos : Pos} {ns : List Int} {k n : Int} (x : EvL prog w A env h₁ e ns) (y : EvI prog w A env h₁ i k) (h0 : 0 ≤ k) (hx : ns[k.toNat]? = some n) (hb : k < 2 ^ 63 := by omega)
    (hs : ∀ o v, subscripted i false o v = operate [o, v] (getItem o v) := by intro _ _; rfl) : EvI prog w A env h₁ (.Subscript e i pos) n := fun s E hk =>
  Subscript_ (Ev.two x y hk fun u v s₁ s₂ k₁ ⟨a, e, L⟩ k₂ ⟨t, e'⟩ => by
    obtain ⟨vs, l, j⟩ := L.le (keeps_le k₂)
    subst e e'
    obtain ⟨t', hv⟩ := j.get _ _ hx
    exact tail_any l.typeIs slot_list_getitem.lookup (wpAny_getItem_list l h0 hb (by simpa using hv) ⟨keeps_trans k₁ k₂, _, rfl⟩) (hs _ _))
theorem ev_idxR {e i : Expr} {pos : Pos} {as : List Addr} {k : Int} {b : Addr} (x : EvR prog w A env h₁ e as) (y : EvI prog w A env h₁ i k) (h0 : 0 ≤ k) (hx : as[k.toNat]? = some b) (hb : k < 2 ^ 63 := by omega)
    (hs : ∀ o v, subscripted i false o v = operate [o, v] (getItem o v) := by intro _ _; rfl) : EvA prog w A env h₁ (.Subscript e i pos) b := fun s E hk =>
  Subscript_ (Ev.two x y hk fun u v s₁ s₂ k₁ ⟨a, e, L⟩ k₂ ⟨t, e'⟩ => by
    have l := (L.le (keeps_le k₂)).isList
    subst e e'
    exact tail_any l.typeIs slot_list_getitem.lookup (wpAny_getItem_list l h0 hb (by simp [hx]) ⟨keeps_trans k₁ k₂, rfl⟩) (hs _ _))
theorem le_push2 (h : Heap) (a b : Obj) : Le h ((h.push a).push b) := (Le.push _ _).trans (Le.push _ _)
theorem lp_pick {h : Heap} {o : Obj} {vs : List Value} {lo hi st : Option Int} {ms : List Int} (i : IntsAre (slicePick vs.toArray lo hi st).toList ms) : LP ((h.push o).push { cls := .type "list", data := .seq (slicePick vs.toArray lo hi st) }) (h.objs.size + 1) ms := by
  have := lp_new (h := h.push o) i
  rwa [Heap.size_push] at this
theorem none_succ (h : Heap) : h.get? (h.objs.size + 1) = none := by
  cases e : h.get? (h.objs.size + 1) with
  | none => rfl
  | some o => exact absurd (Heap.lt_size e) (Nat.not_lt.mpr (Nat.le_succ _))
theorem ev_from {e l : Expr} {p pos : Pos} {ns : List Int} {k : Int} (x : EvL prog w A env h₁ e ns) (y : EvI prog w A env h₁ l k) (h0 : 0 ≤ k) (hz : ns.length ≤ sizeLine)
    (ht : ∀ o r, letTemporaryGo e o r = pure () := by intro _ _; rfl) : EvN prog w A env h₁ (.Subscript e (.Slice (some l) none none p) pos) (ns.drop k.toNat) := fun s E hk => by
  refine wpAny_Subscript_list_slice (wpAny_mono (x s E hk) (fun o s₁ hx => ?_) fun _ _ e => e) ht
  obtain ⟨k₁, a, rfl, L⟩ := hx
  rw [evalPart_some]
  refine wpAny_mono (y s₁ E (hk.trans (keeps_le k₁))) (fun v s₂ hy => ?_) fun _ _ e => e
  obtain ⟨k₂, t, rfl⟩ := hy
  obtain ⟨vs, l', j⟩ := L.le (keeps_le k₂)
  rw [evalPart_none]
  exact wpAny_pure ⟨a, _, _, _, rfl, l', by simp only [List.size_toArray, j.length]; exact hz, .int _ _, .none, keeps_trans (keeps_trans k₁ k₂) ⟨_, s₂.toks, rfl, le_push2 _ _ _⟩, _, rfl, (keeps_le (keeps_trans k₁ k₂)).none (none_succ _), lp_pick (slice_ints_fromW j h0)⟩
theorem ev_upto {e l : Expr} {p pos : Pos} {ns : List Int} {k : Int} (x : EvL prog w A env h₁ e ns) (y : EvI prog w A env h₁ l k) (h0 : 0 ≤ k) (hz : ns.length ≤ sizeLine)
    (ht : ∀ o r, letTemporaryGo e o r = pure () := by intro _ _; rfl) : EvN prog w A env h₁ (.Subscript e (.Slice none (some l) none p) pos) (ns.take k.toNat) := fun s E hk => by
  refine wpAny_Subscript_list_slice (wpAny_mono (x s E hk) (fun o s₁ hx => ?_) fun _ _ e => e) ht
  obtain ⟨k₁, a, rfl, L⟩ := hx
  rw [evalPart_none]
  refine wpAny_pure ?_
  rw [evalPart_some]
  refine wpAny_mono (y s₁ E (hk.trans (keeps_le k₁))) (fun v s₂ hy => ?_) fun _ _ e => e
  obtain ⟨k₂, t, rfl⟩ := hy
  obtain ⟨vs, l', j⟩ := L.le (keeps_le k₂)
  exact ⟨a, _, _, _, rfl, l', by simp only [List.size_toArray, j.length]; exact hz, .none, .int _ _, keeps_trans (keeps_trans k₁ k₂) ⟨_, s₂.toks, rfl, le_push2 _ _ _⟩, _, rfl, (keeps_le (keeps_trans k₁ k₂)).none (none_succ _), lp_pick (slice_ints_uptoW j h0)⟩
/-- script[k::size]: which numbers they are is not asked -/
theorem ev_step {e l st : Expr} {p pos : Pos} {ns : List Int} {k q : Int} (x : EvL prog w A env h₁ e ns) (y : EvI prog w A env h₁ l k) (z : EvI prog w A env h₁ st q) (h0 : q ≠ 0) (hz : ns.length ≤ sizeLine)
    (ht : ∀ o r, letTemporaryGo e o r = pure () := by intro _ _; rfl) : EvN prog w A env h₁ (.Subscript e (.Slice (some l) none (some st) p) pos) (pickNums ns (some k) none (some q)) := fun s E hk => by
  refine wpAny_Subscript_Slice_step (T := "list") list_getitem_lookup (wpAny_mono (x s E hk) (fun o s₁ hx => ?_) fun _ _ e => e) ht
  obtain ⟨k₁, a, rfl, L⟩ := hx
  refine wpAny_Slice ?_
  rw [evalPart_some]
  refine wpAny_mono (y s₁ E (hk.trans (keeps_le k₁))) (fun v s₂ hy => ?_) fun _ _ e => e
  obtain ⟨k₂, t, rfl⟩ := hy
  rw [evalPart_none]
  refine wpAny_pure ?_
  rw [evalPart_some]
  refine wpAny_mono (z s₂ E (hk.trans (keeps_le (keeps_trans k₁ k₂)))) (fun v s₃ hy => ?_) fun _ _ e => e
  obtain ⟨k₃, t', rfl⟩ := hy
  obtain ⟨vs, l', j⟩ := L.le (keeps_le (keeps_trans k₂ k₃))
  have k4 := keeps_trans (keeps_trans k₁ k₂) k₃
  refine ⟨(l'.push _).typeIs, wpAny_getItem_list_slice (l'.push _) (Heap.IsSliceOf.new ..) (.int _ _) .none (.int _ _) (by simpa using h0) ?_ (by simp only [List.size_toArray, j.length]; exact hz)⟩
  rw [Heap.size_push]
  exact ⟨keeps_trans k4 ⟨_, s₃.toks, rfl, le_push2 _ _ _⟩, _, rfl, (keeps_le k4).none (none_succ _), lp_pick (j.pick _ _ _)⟩
end
end Mine

namespace Mine

/-! what a loop walks over -/
theorem walks_mono {prog : Program} {w : World} {A : Around} {I : Addr} {fp wr : List Addr} {n : Nat} {P P' : Nat → Value → Prop} {S : Nat → Heap → Prop} (W : Walks prog w A I fp wr n P S)
    (h : ∀ i v, i < n → P i v → P' i v) : Walks prog w A I fp wr n P' S :=
  ⟨W.sub, W.frame, fun i s Q E hi st hQ => W.item i s Q E hi st fun v h' tk p => hQ v h' tk (h i v hi p), W.done, W.self⟩

def Src (prog : Program) (w : World) (A : Around) (env : Env) (h₁ : Heap) (Z : Addr → Prop) (iter : Expr) (xs : List D) : Prop :=
  ∀ (s : Shared) (E : Value → Shared → Prop), Le h₁ s.heap → wpAny (model prog w) A (eval iter env) (fun xv s₁ => Keeps s s₁ ∧ ∀ E' : Value → Shared → Prop, wpAny (model prog w) A (pyIter xv) (fun it s₂ => Keeps s₁ s₂ ∧
    ∃ I fp S, it = .ref I ∧ Walks prog w A I fp [I] xs.length (fun i v => ∃ d, xs[i]? = some d ∧ d.is v) S ∧ S 0 s₂.heap ∧ s₁.heap.get? I = none ∧ (∀ b ∈ fp, b = I ∨ Z b) ∧ ∀ i h, S i h → ∃ o, h.get? I = some o) E' s₁) E s

section
variable {prog : Program} {w : World} {A : Around} {env : Env} {h₁ : Heap} {Z : Addr → Prop}
/-- the ints from a up to b -/
def upto (a b : Int) : List D := (List.range (b - a).toNat).map fun (i : Nat) => D.int (a + (i : Int))
theorem upto_length (a b : Int) : (upto a b).length = (b - a).toNat := by simp [upto]
theorem upto_get {a b : Int} {i : Nat} (h : i < (b - a).toNat) : (upto a b)[i]? = some (.int (a + i)) := by simp [upto, h]
theorem upto_some {a b : Int} {i : Nat} {d : D} (h : (upto a b)[i]? = some d) : i < (b - a).toNat ∧ d = .int (a + i) := by
  have hl : i < (b - a).toNat := by
    have := (List.getElem?_eq_some_iff.mp h).1; rwa [upto_length] at this
  rw [upto_get hl] at h
  exact ⟨hl, (Option.some.inj h).symm⟩

theorem range_iter {r : Addr} {a b : Int} {t u v : Tok} {s₁ : Shared} {E : Value → Shared → Prop} (hh : A.handled = none) (hr : IsRange s₁.heap r a b 1 t u v)
    (ha : -(2 ^ 62) ≤ a) (ha' : a < 2 ^ 62) (hb : -(2 ^ 62) ≤ b) (hb' : b < 2 ^ 62) :
    wpAny (model prog w) A (pyIter (.ref r)) (fun it s₂ => Keeps s₁ s₂ ∧ ∃ I fp S, it = .ref I ∧ Walks prog w A I fp [I] (upto a b).length (fun i v => ∃ d, (upto a b)[i]? = some d ∧ d.is v) S ∧ S 0 s₂.heap ∧ s₁.heap.get? I = none ∧ (∀ b ∈ fp, b = I ∨ Z b) ∧
      ∀ i h, S i h → ∃ o, h.get? I = some o) E s₁ := by
  have hsz : Builtin.Range.rangeSize a b 1 = ((b - a).toNat : Int) := by rw [rangeSize_one]; split <;> omega
  refine wpAny_pyIter_range hr (small_one ha ha' hb hb') ⟨⟨_, s₁.toks, rfl, Le.push _ _⟩, s₁.heap.objs.size, [s₁.heap.objs.size], _, rfl, walks_mono (Walks.range hh _ a 1 _) ?_, ?_, none_size _, ?_, ?_⟩
  · rintro i v hi ⟨t, rfl⟩
    rw [upto_length] at hi
    exact ⟨_, upto_get hi, t, by rw [Int.mul_one]⟩
  · show IsRangeIter _ _ _ _ _
    rw [hsz, upto_length]
    simpa using Heap.get?_push_size _ rfl
  · intro b hb; exact .inl (List.mem_singleton.mp hb)
  · intro i h e; exact ⟨_, e⟩

theorem src_range1 {np pos : Pos} {e : Expr} {b : Int} (ok : EnvOk env) (G : Glb h₁) (hh : A.handled = none) (y : EvI prog w A env h₁ e b) (hb : -(2 ^ 62) ≤ b) (hb' : b < 2 ^ 62)
    (hk : env.kindOf "range" = some .globalImplicit := by rfl) (he : starEach [e] env = [(false, eval e env)] := by first | exact star_name | exact star_bin | exact star_call | exact star_comp | exact star_const | exact star_sub | exact star_ife | exact star_list) : Src prog w A env h₁ Z (.Call (.Name "range" np) [e] [] pos) (upto 0 b) := fun s E k => by
  refine Call_ (bi_name ok hk (G.range.le k) (callWith_type1 (args_cons (wpAny_mono (y s E k) (fun v s₁ hv => args_nil ?_) fun _ _ e => e) he) he) (by decide))
  obtain ⟨k₁, t, rfl⟩ := hv
  exact call_range_1 ⟨keeps_trans k₁ ⟨_, _, rfl, Le.push _ _⟩, fun E' => range_iter hh (IsRange.new ..) (by decide) (by decide) hb hb'⟩
theorem src_range2 {np pos : Pos} {e f : Expr} {a b : Int} (ok : EnvOk env) (G : Glb h₁) (hh : A.handled = none) (y : EvI prog w A env h₁ e a) (z : EvI prog w A env h₁ f b) (ha : -(2 ^ 62) ≤ a) (ha' : a < 2 ^ 62) (hb : -(2 ^ 62) ≤ b) (hb' : b < 2 ^ 62)
    (hk : env.kindOf "range" = some .globalImplicit := by rfl) (he : starEach [e, f] env = (false, eval e env) :: starEach [f] env := by first | exact star_name | exact star_bin | exact star_call | exact star_comp | exact star_const | exact star_sub | exact star_ife | exact star_list) (hf : starEach [f] env = [(false, eval f env)] := by first | exact star_name | exact star_bin | exact star_call | exact star_comp | exact star_const | exact star_sub | exact star_ife | exact star_list) :
    Src prog w A env h₁ Z (.Call (.Name "range" np) [e, f] [] pos) (upto a b) := fun s E k => by
  refine Call_ (bi_name ok hk (G.range.le k) (callWith_type1 (args_cons (wpAny_mono (y s E k) (fun u s₁ hu => args_cons (wpAny_mono (z s₁ E (k.trans (keeps_le hu.1))) (fun v s₂ hv => args_nil ?_) fun _ _ e => e) hf) fun _ _ e => e) he) he (by rw [hf]; rfl)) (by decide))
  obtain ⟨k₁, t, rfl⟩ := hu
  obtain ⟨k₂, t', rfl⟩ := hv
  exact call_range_2 ⟨keeps_trans (keeps_trans k₁ k₂) ⟨_, _, rfl, Le.push _ _⟩, fun E' => range_iter hh (IsRange.new ..) ha ha' hb hb'⟩

theorem list_iter {a : Addr} {vs : List Value} {xs : List D} {s₁ : Shared} {E : Value → Shared → Prop} (hh : A.handled = none) (l : s₁.heap.IsList a vs.toArray) (hl : vs.length = xs.length) (hv : ∀ (i : Nat) (v : Value), vs[i]? = some v → ∃ d : D, xs[i]? = some d ∧ d.is v) (hz : Z a) :
    wpAny (model prog w) A (pyIter (.ref a)) (fun it s₂ => Keeps s₁ s₂ ∧ ∃ I fp S, it = .ref I ∧ Walks prog w A I fp [I] xs.length (fun i v => ∃ d, xs[i]? = some d ∧ d.is v) S ∧ S 0 s₂.heap ∧ s₁.heap.get? I = none ∧ (∀ b ∈ fp, b = I ∨ Z b) ∧
      ∀ i h, S i h → ∃ o, h.get? I = some o) E s₁ := by
  obtain ⟨o, ho, _⟩ := id l
  have hne : a ≠ s₁.heap.objs.size := Nat.ne_of_lt (Heap.lt_size ho)
  have W := Walks.list (prog := prog) (w := w) hh s₁.heap.objs.size a hne vs.toArray
  have e : vs.toArray.size = xs.length := hl
  rw [e] at W
  refine wpAny_pyIter_list l ⟨⟨_, s₁.toks, rfl, Le.push _ _⟩, s₁.heap.objs.size, _, _, rfl, walks_mono W fun i v _ p => hv i v (by simpa using p), ⟨⟨_, Heap.get?_push_size _ rfl, rfl, rfl⟩, l.push _⟩, none_size _, ?_, ?_⟩
  · intro b hb
    rcases List.mem_cons.mp hb with h | h
    · exact .inl h
    · rw [List.mem_singleton.mp h]; exact .inr hz
  · rintro i h ⟨⟨o, e, _⟩, _⟩; exact ⟨_, e⟩
theorem src_ints {e : Expr} {a : Addr} {ns : List Int} (hh : A.handled = none) (y : EvA prog w A env h₁ e a) (L : LI h₁ a ns) (hz : Z a) : Src prog w A env h₁ Z e (ns.map D.int) := fun s E k => by
  refine wpAny_mono (y s E k) (fun v s₁ hv => ?_) fun _ _ e => e
  obtain ⟨k₁, rfl⟩ := hv
  obtain ⟨vs, l, i⟩ := L.le (k.trans (keeps_le k₁))
  refine ⟨k₁, fun E' => list_iter hh l (by simpa using i.length) (fun j v hv => ?_) hz⟩
  obtain ⟨n, t, rfl, hn⟩ := i.at j v hv
  exact ⟨.int n, by simp [hn], t, rfl⟩
theorem src_refs {e : Expr} {a : Addr} {as : List Addr} (hh : A.handled = none) (y : EvA prog w A env h₁ e a) (L : LR h₁ a as) (hz : Z a) : Src prog w A env h₁ Z e (as.map D.ref) := fun s E k => by
  refine wpAny_mono (y s E k) (fun v s₁ hv => ?_) fun _ _ e => e
  obtain ⟨k₁, rfl⟩ := hv
  refine ⟨k₁, fun E' => list_iter hh (L.le (k.trans (keeps_le k₁))).isList (by simp) (fun j v hv => ?_) hz⟩
  rw [List.getElem?_map] at hv ⊢
  cases q : as[j]? with
  | none => rw [q] at hv; cases hv
  | some b => rw [q] at hv; cases hv; exact ⟨.ref b, rfl, rfl⟩
end

/-! comprehensions -/
def cEnv (scope : Scope) (cl : List (Str × Addr)) (C : Addr) (env : Env) : Env :=
  { scope := relabel scope env, locals := C, globals := env.globals, cells := cellsFrom (C + 1) scope.names cl, qual := env.qual, func := none, code := env.code, frame := env.frame, builtins := env.builtins }
theorem cEnv_ok {scope cl C env} (ok : EnvOk env) (hk : scope.kind = .function) : EnvOk (cEnv scope cl C env) := ⟨hk, ok.globals, ok.builtins⟩

theorem newCompEnv {M : Model} {A : Around} {E : Value → Shared → Prop} {s : Shared} {scope : Scope} {cl : List (Str × Addr)} {env : Env} {Q : Env → Shared → Prop}
    (h : Q (newEnv scope s.heap.objs.size env.globals (cellsFrom (s.heap.objs.size + 1) scope.names cl) env.qual none .none (some env) builtinsNs) { s with heap := pushCells (s.heap.push { cls := .type "dict", data := .dict #[] }) scope.names }) :
    wpAny M A (newFunctionEnv scope env.globals cl [] env.qual none .none (some env)) Q E s := by
  simp only [newFunctionEnv, Option.isSome_some, if_true]
  refine wpAny_bind (wpAny_alloc ?_)
  refine wpAny_bind (wpAny_layCells _ (fun name kind cells => by cases hkc : kind == NameKind.cell <;> simp [hkc]) _ _ _ _ ?_)
  rw [show ({ s with heap := s.heap.push { cls := .type "dict", data := .dict #[] } } : Shared).heap.objs.size = s.heap.objs.size + 1 from Heap.size_push ..]
  exact wpAny_bind (wpAny_pure (wpAny_pure h))

def TstAll (prog : Program) (w : World) (A : Around) (env : Env) (h₁ : Heap) (ifs : List Expr) (b : Bool) : Prop :=
  ∀ (s : Shared) (E : Value → Shared → Prop), Le h₁ s.heap →
    wpAny (model prog w) A (forIn ifs true fun c r => if r = true then do let ok ← isTrue c env (eval c env); pure (ForInStep.yield ok) else pure (ForInStep.yield r)) (fun r s' => Keeps s s' ∧ r = b) E s
theorem tstAll_nil {prog w A env h₁} : TstAll prog w A env h₁ [] true := fun s E _ => wpAny_tests_nil ⟨keeps_refl s, rfl⟩
theorem tstAll_one {prog w A env h₁ c b} (y : Tst prog w A env h₁ c b) : TstAll prog w A env h₁ [c] b := fun s E k => wpAny_tests_one (y s E k)

/-- where a comprehension's own name lies -/
structure Slots (prog : Program) (w : World) (A : Around) (cenv : Env) (x : Str) (W : List Addr) (Vx : Heap → Prop) : Prop where
  keep : ∀ h h', Vx h → (∀ b ∈ W, ∀ o, h.get? b = some o → h'.get? b = some o) → Vx h'
  ns : ∀ h, Vx h → ∃ m, h.Ns cenv.locals m
  live : ∀ h, Vx h → ∀ b ∈ W, ∃ o, h.get? b = some o
  store : ∀ (v : Value) (d : D) (s : Shared) (Q : Unit → Shared → Prop) (E : Value → Shared → Prop), Vx s.heap → d.is v →
    (∀ h' tk, Vx h' → Has cenv h' x d → (∀ b o, b ∉ W → s.heap.get? b = some o → h'.get? b = some o) → Q () { s with heap := h', toks := tk }) → wpAny (model prog w) A (storeName cenv x v) Q E s

theorem slots_local {prog w A cenv x} (ok : EnvOk cenv) (hx : cenv.kindOf x = some .local) : Slots prog w A cenv x [cenv.locals] fun h => ∃ m, h.Ns cenv.locals m where
  keep := fun h h' ⟨m, n⟩ k => ⟨m, n.at' fun o e => k _ (.head _) o e⟩
  ns := fun h n => n
  live := fun h ⟨m, o, es, ep, e, _⟩ b hb => by rw [List.mem_singleton.mp hb]; exact ⟨o, e⟩
  store := fun v d s Q E ⟨m, n⟩ hv h => wpAny_storeName_local hx n (fun h' n' sb => h h' _ ⟨_, n'⟩ ⟨v, hv, .inl ⟨hx, _, n', by simp⟩⟩ fun b o hb e => sb.extBut b o (fun q => hb (List.mem_singleton.mpr q)) e) (by rw [ok.kind]; rfl)
theorem slots_cell {prog w A cenv x c} (ok : EnvOk cenv) (hx : cenv.kindOf x = some .cell) (hc : cenv.cells.lookup x = some c) (hne : c ≠ cenv.locals) :
    Slots prog w A cenv x [cenv.locals, c] fun h => (∃ m, h.Ns cenv.locals m) ∧ ∃ v, h.IsCell c v where
  keep := fun h h' ⟨⟨m, n⟩, v, o, e, q⟩ k => ⟨⟨m, n.at' fun o e => k _ (.head _) o e⟩, v, o, k c (.tail _ (.head _)) o e, q⟩
  ns := fun h n => n.1
  live := fun h ⟨⟨m, o, es, ep, e, _⟩, v, o', e', _⟩ b hb => by
    rcases List.mem_cons.mp hb with hb | hb
    · rw [hb]; exact ⟨o, e⟩
    · rw [List.mem_singleton.mp hb]; exact ⟨o', e'⟩
  store := fun v d s Q E ⟨⟨m, n⟩, v₀, i⟩ hv h => wpAny_storeName_cell ok.kind hx hc i fun h' i' sb => h h' s.toks ⟨⟨m, n.sameBut sb (Ne.symm hne)⟩, _, i'⟩ ⟨v, hv, .inr ⟨hx, c, hc, i'⟩⟩
    fun b o hb e => sb.extBut b o (fun q => hb (by rw [q]; exact .tail _ (.head _))) e

section
variable {prog : Program} {w : World} {A : Around} {env : Env}

/-- the loop of a comprehension; J speaks of what it has gathered and of the objects g that its turns made or found -/
theorem comp_loop {elt iter : Expr} {x : Str} {px : Pos} {ifs : List Expr} {scope : Scope} {pos : Pos} {I Dd : Addr} {fp W : List Addr} {xs : List D} {S : Nat → Heap → Prop} {Vx : Heap → Prop} {cenv : Env} {h₁ : Heap} {s : Shared} {R : Result → Shared → Prop}
    (Wk : Walks prog w A I fp [I] xs.length (fun i v => ∃ d, xs[i]? = some d ∧ d.is v) S) (V : Slots prog w A cenv x W Vx) (p : Nat → Bool) (Φ : Nat → Heap → Value → Heap → Prop) (J : Nat → List Value → (Addr → Option Obj) → Prop)
    (hlive : ∀ i h, S i h → ∃ o, h.get? I = some o)
    (hst : S 0 s.heap) (hacc : s.heap.PlainList Dd #[]) (hV : Vx s.heap) (hDf : Dd ∉ fp) (hDW : Dd ∉ W) (hWf : ∀ b ∈ W, b ∉ fp) (hDI : Dd ≠ I) (h1 : Le h₁ s.heap) (hoff : ∀ b, b = I ∨ b = Dd ∨ b ∈ W → h₁.get? b = none)
    (htest : ∀ i d h₂, xs[i]? = some d → Le h₁ h₂ → Has cenv h₂ x d → TstAll prog w A cenv h₂ ifs (p i))
    (helt : ∀ i d h₂, xs[i]? = some d → p i = true → Le h₁ h₂ → Has cenv h₂ x d → Ev prog w A cenv h₂ elt (Φ i))
    (j0 : ∀ g, J 0 [] g)
    (jskip : ∀ i ys (g g' : Addr → Option Obj), i < xs.length → p i = false → J i ys g → (∀ b o, g b = some o → g' b = some o) → J (i + 1) ys g')
    (jstep : ∀ i ys y h h' (g g' : Addr → Option Obj), i < xs.length → p i = true → J i ys g → Φ i h y h' → Le h₁ h → Le h h' → (∀ b o, g b = some o → h.get? b = some o) → (∀ b o, g b = some o → g' b = some o) →
      (∀ b o, h.get? b = none → h'.get? b = some o → g' b = some o) → J (i + 1) (ys ++ [y]) g')
    (hR : ∀ h' tk ys (g : Addr → Option Obj), Vx h' → h'.PlainList Dd ys.toArray → J xs.length ys g → (∀ b o, g b = some o → h'.get? b = some o ∧ b ≠ Dd ∧ b ∉ W) → Le h₁ h' → R (.ok .next) { s with heap := h', toks := tk })
    (hsz : xs.length ≤ sizeLine) (hk : EnvOk cenv) :
    codeAny (model prog w) A (.compLoop (.ListComp elt [⟨.Name x px, iter, ifs, 0⟩] scope pos) 0 (.ref I) (.ref Dd) cenv) R s := by
  let X : Addr → Prop := fun b => b = I ∨ b = Dd ∨ b ∈ W
  refine codeAny_compLoop_tests
    (fun k s' => ∃ h' tk i ys, ∃ g : Addr → Option Obj, s' = { s with heap := h', toks := tk } ∧ i ≤ xs.length ∧ k = xs.length + 1 - i ∧ S i h' ∧ h'.PlainList Dd ys.toArray ∧ ys.length ≤ i ∧ Vx h' ∧ Le h₁ h' ∧ J i ys g ∧ (∀ b o, g b = some o → h'.get? b = some o ∧ ¬ X b)) ?_ (xs.length + 1)
    ⟨s.heap, s.toks, 0, [], fun _ => none, rfl, Nat.zero_le _, rfl, hst, hacc, Nat.le_refl _, hV, h1, j0 _, fun _ _ e => nomatch e⟩
  rintro k s' ⟨h', tk, i, ys, g, rfl, hi, rfl, hS, hD, hlen, hVx, hle, hJ, hg⟩
  have hIW : ∀ b ∈ W, b ≠ I := fun b hb e => by
    obtain ⟨o, ho⟩ := V.live _ hV b hb
    obtain ⟨o', ho'⟩ := hlive _ _ hst
    have : I ∈ fp := Wk.sub I (.head _)
    exact hWf b hb (e ▸ this)
  by_cases hlt : i < xs.length
  · refine Wk.item i _ _ _ hlt hS fun v hA tkA ⟨d, hd, hv⟩ hSA hkA => ?_
    have keepA : ∀ b o, b ≠ I → h'.get? b = some o → hA.get? b = some o := fun b o hb e => hkA b o (fun q => hb (List.mem_singleton.mp q)) e
    have VA : Vx hA := V.keep _ _ hVx fun b hb o e => keepA b o (hIW b hb) e
    refine wpAny_assign_Name (V.store v d _ _ _ VA hv fun hB tkB VB HB kB => ?_)
    have leB : Le h₁ hB := fun b o e => by
      have nb : ¬ X b := fun q => by rw [hoff b q] at e; cases e
      exact kB b o (fun q => nb (.inr (.inr q))) (keepA b o (fun q => nb (.inl q)) (hle b o e))
    have gB : ∀ b o, g b = some o → hB.get? b = some o := fun b o e => by
      obtain ⟨e1, nb⟩ := hg b o e
      exact kB b o (fun q => nb (.inr (.inr q))) (keepA b o (fun q => nb (.inl q)) e1)
    have SB : S (i + 1) hB := Wk.frame _ _ _ hSA fun b hb o e => kB b o (fun q => hWf b q hb) e
    have DB : hB.PlainList Dd ys.toArray := hD.at fun o e => kB _ o hDW (keepA _ o hDI e)
    refine wpAny_mono (htest i d hB hd leB HB _ _ (Le.refl _)) (fun r s₃ h₃ => ?_) fun _ _ e => e
    obtain ⟨⟨hC, tkC, rfl, kC⟩, rfl⟩ := h₃
    have VC : Vx hC := V.keep _ _ VB fun b _ o e => kC b o e
    cases hp : p i with
    | false =>
      simp only [Bool.false_eq_true, if_false]
      exact ⟨xs.length + 1 - (i + 1), by omega, hC, tkC, i + 1, ys, g, rfl, hlt, rfl, Wk.frame _ _ _ SB fun b _ o e => kC b o e, DB.at fun o e => kC _ o e, by omega, VC, leB.trans kC, jskip i ys g g hlt hp hJ fun _ _ e => e, fun b o e => ⟨kC b o (gB b o e), (hg b o e).2⟩⟩
    | true =>
      simp only [if_true]
      refine wpAny_mono (helt i d hC hd hp (leB.trans kC) (HB.le kC) _ _ (Le.refl _)) (fun y s₄ h₄ => ?_) fun _ _ e => e
      obtain ⟨⟨hE, tkE, rfl, kE⟩, hΦ⟩ := h₄
      have DE : hE.PlainList Dd ys.toArray := (DB.at fun o e => kC _ o e).at fun o e => kE _ o e
      refine wpAny_list_append_plain (hsz := by simp only [List.size_toArray]; omega) DE fun hF DF sF => ?_
      have kF : ∀ b o, b ≠ Dd → hE.get? b = some o → hF.get? b = some o := fun b o hb e => sF.extBut b o hb e
      have live : ∀ b, X b → ∃ o, hC.get? b = some o := by
        rintro b (rfl | rfl | hb)
        · exact hlive _ _ (Wk.frame _ _ _ SB fun b _ o e => kC b o e)
        · obtain ⟨n, e⟩ := DB; exact ⟨_, kC _ _ e⟩
        · exact V.live _ VC b hb
      classical
      let g' : Addr → Option Obj := fun b => if X b then none else hF.get? b
      have g'of : ∀ b o, ¬ X b → hF.get? b = some o → g' b = some o := fun b o nb e => by show (if X b then none else _) = _; rw [if_neg nb]; exact e
      refine ⟨xs.length + 1 - (i + 1), by omega, hF, tkE, i + 1, ys ++ [y], g', rfl, hlt, rfl, ?_, ?_, by simp; omega, V.keep _ _ VC fun b hb o e => kF b o (fun q => hDW (q ▸ hb)) (kE b o e), ?_, jstep i ys y hC hE g g' hlt hp hJ hΦ (leB.trans kC) kE (fun b o e => kC b o (gB b o e)) ?_ ?_, ?_⟩
      · exact Wk.frame _ _ _ SB fun b hb o e => kF b o (fun q => hDf (q ▸ hb)) (kE b o (kC b o e))
      · simpa using DF
      · intro b o e
        exact kF b o (fun q => by rw [q, hoff Dd (.inr (.inl rfl))] at e; cases e) (kE b o (kC b o (leB b o e)))
      · intro b o e
        have nb := (hg b o e).2
        exact g'of b o nb (kF b o (fun q => nb (.inr (.inl q))) (kE b o (kC b o (gB b o e))))
      · intro b o e1 e2
        have nb : ¬ X b := fun q => by obtain ⟨o', e'⟩ := live b q; rw [e1] at e'; cases e'
        exact g'of b o nb (kF b o (fun q => nb (.inr (.inl q))) e2)
      · intro b o e
        by_cases nb : X b
        · have : g' b = none := if_pos nb
          rw [this] at e; cases e
        · have : g' b = hF.get? b := if_neg nb
          rw [this] at e; exact ⟨e, nb⟩
  · have hin : i = xs.length := by omega
    subst hin
    refine Wk.done _ _ _ hS fun hA tkA hkA => ?_
    have keepA : ∀ b o, b ≠ I → h'.get? b = some o → hA.get? b = some o := fun b o hb e => hkA b o (fun q => hb (List.mem_singleton.mp q)) e
    refine hR hA tkA ys g (V.keep _ _ hVx fun b hb o e => keepA b o (hIW b hb) e) (hD.at fun o e => keepA _ o hDI e) hJ (fun b o e => ?_) fun b o e => ?_
    · obtain ⟨e1, nb⟩ := hg b o e
      exact ⟨keepA b o (fun q => nb (.inl q)) e1, fun q => nb (.inr (.inl q)), fun q => nb (.inr (.inr q))⟩
    · exact keepA b o (fun q => by rw [q, hoff I (.inl rfl)] at e; cases e) (hle b o e)
end
end Mine

namespace Mine

inductive XKind (scope : Scope) (cl : List (Str × Addr)) (env : Env) (x : Str) : Prop
  | loc (h : ∀ C, (cEnv scope cl C env).kindOf x = some .local) (hp : ∀ h : Heap, pushCells h scope.names = h)
  | cel (h : ∀ C, (cEnv scope cl C env).kindOf x = some .cell) (hc : ∀ C, (cEnv scope cl C env).cells.lookup x = some (C + 1)) (hp : ∀ h : Heap, pushCells h scope.names = h.push { cls := .type "cell", data := .cell none })

section
variable {prog : Program} {w : World} {A : Around} {env : Env} {h₁ : Heap}

theorem comp_use {elt iter : Expr} {x : Str} {px : Pos} {ifs : List Expr} {scope : Scope} {pos : Pos} {cl : List (Str × Addr)} {xs : List D} {s : Shared} {E : Value → Shared → Prop} {Q : Value → Shared → Prop} {pos' : Pos} (use : Option (Value → Sem Unit))
    (ok : EnvOk env) (hsrc : Src prog w A env h₁ (fun b => ∃ o, h₁.get? b = some o) iter xs) (k : Le h₁ s.heap) (hclos : closureFor scope env = pure cl) (hkind : scope.kind = .function)
    (hnames : ∀ y ∈ scope.names, y.2 = .local → scope.names.lookup y.1 = some .local) (hs : ∀ v, foldedSetIterable iter env v = pure v) (hx : XKind scope cl env x)
    (p : Nat → Bool) (Φ : Nat → Heap → Value → Heap → Prop) (J : Nat → List Value → (Addr → Option Obj) → Prop)
    (htest : ∀ i d C h₂, xs[i]? = some d → Le h₁ h₂ → Has (cEnv scope cl C env) h₂ x d → TstAll prog w A (cEnv scope cl C env) h₂ ifs (p i))
    (helt : ∀ i d C h₂, xs[i]? = some d → p i = true → Le h₁ h₂ → Has (cEnv scope cl C env) h₂ x d → Ev prog w A (cEnv scope cl C env) h₂ elt (Φ i))
    (j0 : ∀ g, J 0 [] g)
    (jskip : ∀ i ys (g g' : Addr → Option Obj), i < xs.length → p i = false → J i ys g → (∀ b o, g b = some o → g' b = some o) → J (i + 1) ys g')
    (jstep : ∀ i ys y h h' (g g' : Addr → Option Obj), i < xs.length → p i = true → J i ys g → Φ i h y h' → Le s.heap h → Le h h' → (∀ b o, g b = some o → h.get? b = some o) → (∀ b o, g b = some o → g' b = some o) →
      (∀ b o, h.get? b = none → h'.get? b = some o → g' b = some o) → J (i + 1) (ys ++ [y]) g')
    (hQ : ∀ Dd C m ys (g : Addr → Option Obj) s', Keeps s s' → s.heap.get? Dd = none → s.heap.get? C = none → Dd ≠ C → s'.heap.Ns C m → s'.heap.PlainList Dd ys.toArray → J xs.length ys g →
      (∀ b o, g b = some o → s'.heap.get? b = some o ∧ b ≠ Dd ∧ b ≠ C) → compPost (model prog w) A E use Q (.ref Dd) C (.ok .next) s')
    (hsz : xs.length ≤ sizeLine) :
    wpAny (model prog w) A (comprehension (.ListComp elt [⟨.Name x px, iter, ifs, 0⟩] scope pos) scope env pos' (newList []) false (eval iter env) use) Q E s := by
  refine wpAny_comprehension_free (use := use) rfl hs hclos hkind hnames (wpAny_mono (hsrc s E k) (fun xv s₁ h₁' => ?_) fun _ _ e => e)
  obtain ⟨k₁, hit⟩ := h₁'
  refine wpAny_mono (hit E) (fun it s₂ h₂ => ?_) fun _ _ e => e
  obtain ⟨k₂, I, fp, S, rfl, Wk, hS, hI, hfp, hlive⟩ := h₂
  refine wpAny_newObj_type (newCompEnv ?_) (by show ([] : List Value).toArray.size ≤ sizeLine; decide)
  generalize hH : s₂.heap.push { cls := .type "list", dict := none, data := .seq ([] : List Value).toArray } = H
  have hHs : H.objs.size = s₂.heap.objs.size + 1 := by rw [← hH, Heap.size_push]
  have le2H : Le s₂.heap H := by rw [← hH]; exact Le.push _ _
  have hD : H.PlainList s₂.heap.objs.size #[] := by rw [← hH]; exact ⟨_, Heap.get?_push_size _ rfl⟩
  generalize hN : H.push { cls := .type "dict", data := .dict #[] } = N
  have leHN : Le H N := by rw [← hN]; exact Le.push _ _
  have hNs : N.objs.size = s₂.heap.objs.size + 2 := by rw [← hN, Heap.size_push, hHs]
  have nsN : N.Ns H.objs.size fun _ => none := by rw [← hN]; exact Heap.Ns.new _ _
  obtain ⟨oI, hoI⟩ := hlive _ _ hS
  have hIlt : I < s₂.heap.objs.size := Heap.lt_size hoI
  have fplt : ∀ b ∈ fp, b < s₂.heap.objs.size := fun b hb => by
    rcases hfp b hb with rfl | ⟨o, e⟩
    · exact hIlt
    · exact Heap.lt_size (keeps_le k₂ _ _ (keeps_le k₁ _ _ (k _ _ e)))
  have old : ∀ b, s₂.heap.objs.size ≤ b → s₁.heap.get? b = none := fun b hb => by
    cases e : s₁.heap.get? b with
    | none => rfl
    | some o => exact absurd (Heap.lt_size (keeps_le k₂ _ _ e)) (Nat.not_lt.mpr hb)
  have main : ∀ (W : List Addr) (Vx : Heap → Prop) (P : Heap), Slots prog w A (cEnv scope cl H.objs.size env) x W Vx → Vx P → Le N P → (∀ b ∈ W, H.objs.size ≤ b) → H.objs.size ∈ W →
      codeAny (model prog w) A (.compStart (.ListComp elt [⟨.Name x px, iter, ifs, 0⟩] scope pos) 0 (.ref I) (.ref s₂.heap.objs.size) (cEnv scope cl H.objs.size env)) (compPost (model prog w) A E use Q (.ref s₂.heap.objs.size) H.objs.size) { s₂ with heap := P } := by
    intro W Vx P V hV hNP hW hCW
    have leP : Le s₂.heap P := (le2H.trans leHN).trans hNP
    have hSP : S 0 P := Wk.frame _ _ _ hS fun b _ o e => leP b o e
    have loop : codeAny (model prog w) A (.compLoop (.ListComp elt [⟨.Name x px, iter, ifs, 0⟩] scope pos) 0 (.ref I) (.ref s₂.heap.objs.size) (cEnv scope cl H.objs.size env)) (compPost (model prog w) A E use Q (.ref s₂.heap.objs.size) H.objs.size) { s₂ with heap := P } := by
      refine comp_loop (h₁ := s₁.heap) (s := { s₂ with heap := P }) Wk V p Φ J hlive hSP ((hD.at fun o e => leHN _ o e).at fun o e => hNP _ o e) hV ?_ ?_ ?_ ?_ ((keeps_le k₂).trans leP) ?_
        (fun i d h₂ hd hl H => htest i d _ h₂ hd ((k.trans (keeps_le k₁)).trans hl) H) (fun i d h₂ hd hp hl H => helt i d _ h₂ hd hp ((k.trans (keeps_le k₁)).trans hl) H) j0 jskip
        (fun i ys y h h' g g' hi hp hj hΦ hl hl' a b c => jstep i ys y h h' g g' hi hp hj hΦ ((keeps_le k₁).trans hl) hl' a b c) ?_ hsz (cEnv_ok ok hkind)
      · intro q; exact Nat.lt_irrefl _ (fplt _ q)
      · intro q; have := hW _ q; rw [hHs] at this; exact absurd this (by omega)
      · intro b hb q
        exact Nat.lt_irrefl _ (Nat.lt_of_lt_of_le (fplt b q) (Nat.le_trans (Nat.le_of_lt (by rw [hHs]; exact Nat.lt_succ_self _)) (hW b hb)))
      · exact fun q => Nat.lt_irrefl _ (q ▸ hIlt)
      · rintro b (rfl | rfl | hb)
        · exact hI
        · exact old _ (Nat.le_refl _)
        · exact old _ (Nat.le_trans (Nat.le_of_lt (by rw [hHs]; exact Nat.lt_succ_self _)) (hW b hb))
      · intro h' tk ys g hV' hD' hJ hg hle
        obtain ⟨m, n⟩ := V.ns _ hV'
        have hDC : s₂.heap.objs.size < H.objs.size := by rw [hHs]; exact Nat.lt_succ_self _
        have kk : Keeps s { s₂ with heap := h', toks := tk } := by
          obtain ⟨_, _, e1, _⟩ := keeps_trans k₁ k₂
          exact ⟨h', tk, by rw [e1], fun b o e => hle b o (keeps_le k₁ _ _ e)⟩
        refine hQ _ _ m ys g _ kk ((keeps_le k₁).none (old _ (Nat.le_refl _))) ((keeps_le k₁).none (old _ (Nat.le_of_lt hDC))) (Nat.ne_of_lt hDC) n hD' hJ fun b o e => ?_
        obtain ⟨e1, e2, e3⟩ := hg b o e
        exact ⟨e1, e2, fun q => e3 (by rw [q]; exact hCW)⟩
    exact codeAny_compStart_list loop (Wk.self 0 _ _ _ hSP loop)
  cases hx with
  | loc h hp =>
    have := main [H.objs.size] _ N (slots_local (cenv := cEnv scope cl H.objs.size env) (cEnv_ok ok hkind) (h _)) ⟨_, nsN⟩ (Le.refl _) (fun b hb => by rw [List.mem_singleton.mp hb]; exact Nat.le_refl _) (.head _)
    rw [hp]; exact this
  | cel h hc hp =>
    have hne : H.objs.size + 1 ≠ H.objs.size := by omega
    have := main [H.objs.size, H.objs.size + 1] _ (N.push { cls := .type "cell", data := .cell none }) (slots_cell (cenv := cEnv scope cl H.objs.size env) (cEnv_ok ok hkind) (h _) (hc _) hne)
      ⟨⟨_, nsN.push _⟩, _, _, by have e := Heap.get?_push_size N (o := { cls := .type "cell", data := .cell none }) rfl; rw [hNs] at e; rw [hHs]; exact e, rfl⟩ (Le.push _ _) (fun b hb => by
        rcases List.mem_cons.mp hb with h | h
        · rw [h]; exact Nat.le_refl _
        · rw [List.mem_singleton.mp h]; exact Nat.le_succ _) (.head _)
    rw [hp]; exact this

theorem comp_eval {elt iter : Expr} {x : Str} {px : Pos} {ifs : List Expr} {scope : Scope} {pos : Pos} {cl : List (Str × Addr)} {xs : List D} {s : Shared} {E : Value → Shared → Prop} {Q : Value → Shared → Prop}
    (ok : EnvOk env) (hsrc : Src prog w A env h₁ (fun b => ∃ o, h₁.get? b = some o) iter xs) (k : Le h₁ s.heap) (hclos : closureFor scope env = pure cl) (hkind : scope.kind = .function)
    (hnames : ∀ y ∈ scope.names, y.2 = .local → scope.names.lookup y.1 = some .local) (hs : ∀ v, foldedSetIterable iter env v = pure v) (hx : XKind scope cl env x)
    (p : Nat → Bool) (Φ : Nat → Heap → Value → Heap → Prop) (J : Nat → List Value → (Addr → Option Obj) → Prop)
    (htest : ∀ i d C h₂, xs[i]? = some d → Le h₁ h₂ → Has (cEnv scope cl C env) h₂ x d → TstAll prog w A (cEnv scope cl C env) h₂ ifs (p i))
    (helt : ∀ i d C h₂, xs[i]? = some d → p i = true → Le h₁ h₂ → Has (cEnv scope cl C env) h₂ x d → Ev prog w A (cEnv scope cl C env) h₂ elt (Φ i))
    (j0 : ∀ g, J 0 [] g)
    (jskip : ∀ i ys (g g' : Addr → Option Obj), i < xs.length → p i = false → J i ys g → (∀ b o, g b = some o → g' b = some o) → J (i + 1) ys g')
    (jstep : ∀ i ys y h h' (g g' : Addr → Option Obj), i < xs.length → p i = true → J i ys g → Φ i h y h' → Le s.heap h → Le h h' → (∀ b o, g b = some o → h.get? b = some o) → (∀ b o, g b = some o → g' b = some o) →
      (∀ b o, h.get? b = none → h'.get? b = some o → g' b = some o) → J (i + 1) (ys ++ [y]) g')
    (hQ : ∀ Dd ys (g : Addr → Option Obj) s', Keeps s s' → s.heap.get? Dd = none → s'.heap.PlainList Dd ys.toArray → J xs.length ys g → (∀ b o, g b = some o → s'.heap.get? b = some o ∧ b ≠ Dd) → Q (.ref Dd) s')
    (hsz : xs.length ≤ sizeLine) :
    wpAny (model prog w) A (eval (.ListComp elt [⟨.Name x px, iter, ifs, 0⟩] scope pos) env) Q E s := by
  rw [eval_ListComp]
  refine comp_use none ok hsrc k hclos hkind hnames hs hx p Φ J htest helt j0 jskip jstep (fun Dd C m ys g s' kk hD hC hDC n hl hJ hg => ?_) hsz
  refine ⟨m, n, fun h'' sb => ?_⟩
  obtain ⟨h', tk, rfl, kl⟩ := kk
  refine hQ Dd ys g _ ⟨h'', tk, rfl, fun b o e => sb.extBut b o (fun q => by rw [q, hC] at e; cases e) (kl b o e)⟩ hD (hl.at fun o e => sb.extBut _ o hDC e) hJ fun b o e => ?_
  obtain ⟨e1, e2, e3⟩ := hg b o e
  exact ⟨sb.extBut b o e3 e1, e2⟩

/-- a comprehension of ints -/
theorem ev_comp {elt iter : Expr} {x : Str} {px : Pos} {ifs : List Expr} {scope : Scope} {pos : Pos} {cl : List (Str × Addr)} {xs : List D} (ok : EnvOk env) (hsrc : Src prog w A env h₁ (fun b => ∃ o, h₁.get? b = some o) iter xs)
    (p : Nat → Bool) (f : Nat → Int)
    (htest : ∀ i d C h₂, xs[i]? = some d → Le h₁ h₂ → Has (cEnv scope cl C env) h₂ x d → TstAll prog w A (cEnv scope cl C env) h₂ ifs (p i))
    (helt : ∀ i d C h₂, xs[i]? = some d → p i = true → Le h₁ h₂ → Has (cEnv scope cl C env) h₂ x d → EvI prog w A (cEnv scope cl C env) h₂ elt (f i))
    (hsz : xs.length ≤ sizeLine)
    (hclos : closureFor scope env = pure cl) (hkind : scope.kind = .function)
    (hnames : ∀ y ∈ scope.names, y.2 = .local → scope.names.lookup y.1 = some .local) (hs : ∀ v, foldedSetIterable iter env v = pure v) (hx : XKind scope cl env x) :
    EvN prog w A env h₁ (.ListComp elt [⟨.Name x px, iter, ifs, 0⟩] scope pos) (((List.range xs.length).filter p).map f) := fun s E k =>
  comp_eval ok hsrc k hclos hkind hnames hs hx p (fun i _ y _ => ∃ t, y = .int (f i) t) (fun i ys _ => IntsAre ys (((List.range i).filter p).map f)) htest helt (fun _ => .nil)
    (fun i ys g g' _ hp hj _ => by
      rw [List.range_succ, List.filter_append]
      simpa [hp] using hj)
    (fun i ys y h h' g g' _ hp hj ⟨t, e⟩ _ _ _ _ _ => by
      subst e
      rw [List.range_succ, List.filter_append, List.map_append]
      simpa [hp] using hj.append (.cons _ _ .nil))
    (fun Dd ys g s' kk hn hD hj _ => ⟨kk, Dd, rfl, hn, ys, hD, hj⟩) hsz

/-- rows: new lists of ints in a new list -/
def RowsP (h : Heap) (as : List Addr) (rows : List (List Int)) : Prop := as.length = rows.length ∧ ∀ (i : Nat) (b : Addr) (r : List Int), as[i]? = some b → rows[i]? = some r → LP h b r
structure Mtx (h : Heap) (a : Addr) (as : List Addr) (rows : List (List Int)) (h' : Heap) : Prop where
  new : h.get? a = none
  off : a ∉ as
  nodup : as.Nodup
  fresh : ∀ b ∈ as, h.get? b = none
  lr : LR h' a as
  rows : RowsP h' as rows
def EvRows (prog : Program) (w : World) (A : Around) (env : Env) (h₁ : Heap) (e : Expr) (rows : List (List Int)) : Prop := Ev prog w A env h₁ e fun h v h' => ∃ a as, v = .ref a ∧ Mtx h a as rows h'

def LPg (g : Addr → Option Obj) (a : Addr) (ns : List Int) : Prop := ∃ vs n, g a = some { cls := .type "list", data := .seq (List.toArray vs) n } ∧ IntsAre vs ns
theorem lp_of_g {g : Addr → Option Obj} {h : Heap} {a ns} (x : LPg g a ns) (k : ∀ o, g a = some o → h.get? a = some o) : LP h a ns := let ⟨vs, n, e, i⟩ := x; ⟨vs, ⟨n, k _ e⟩, i⟩
theorem lpg_of {g : Addr → Option Obj} {h : Heap} {a ns} (x : LP h a ns) (k : ∀ o, h.get? a = some o → g a = some o) : LPg g a ns := let ⟨vs, ⟨n, e⟩, i⟩ := x; ⟨vs, n, k _ e, i⟩
theorem lpg_up {g g' : Addr → Option Obj} {a ns} (x : LPg g a ns) (k : ∀ o, g a = some o → g' a = some o) : LPg g' a ns := let ⟨vs, n, e, i⟩ := x; ⟨vs, n, k _ e, i⟩

theorem ev_rows {elt iter : Expr} {x : Str} {px : Pos} {scope : Scope} {pos : Pos} {cl : List (Str × Addr)} {xs : List D} (ok : EnvOk env) (hsrc : Src prog w A env h₁ (fun b => ∃ o, h₁.get? b = some o) iter xs)
    (f : Nat → List Int)
    (helt : ∀ i d C h₂, xs[i]? = some d → Le h₁ h₂ → Has (cEnv scope cl C env) h₂ x d → EvN prog w A (cEnv scope cl C env) h₂ elt (f i))
    (hsz : xs.length ≤ sizeLine)
    (hclos : closureFor scope env = pure cl) (hkind : scope.kind = .function)
    (hnames : ∀ y ∈ scope.names, y.2 = .local → scope.names.lookup y.1 = some .local) (hs : ∀ v, foldedSetIterable iter env v = pure v) (hx : XKind scope cl env x) :
    EvRows prog w A env h₁ (.ListComp elt [⟨.Name x px, iter, [], 0⟩] scope pos) ((List.range xs.length).map f) := fun s E k => by
  refine comp_eval ok hsrc k hclos hkind hnames hs hx (fun _ => true) (fun i h y h' => ∃ a, y = .ref a ∧ h.get? a = none ∧ LP h' a (f i))
    (fun i ys g => ∃ as : List Addr, ys = as.map Value.ref ∧ as.length = i ∧ as.Nodup ∧ (∀ b ∈ as, s.heap.get? b = none) ∧ ∀ (j : Nat) (b : Addr), as[j]? = some b → LPg g b (f j))
    (fun i d C h₂ _ _ _ => tstAll_nil) (fun i d C h₂ hd _ hl H => helt i d C h₂ hd hl H) (fun _ => ⟨[], rfl, rfl, .nil, (fun _ h => nomatch h), fun j b e => by simp at e⟩) (fun _ _ _ _ _ h => nomatch h) ?_ ?_ hsz
  · rintro i ys y h h' g g' hi _ ⟨as, rfl, hl, nd, fr, rw'⟩ ⟨a, rfl, ha, L⟩ hs1 hs2 hg hg' hnew
    have hin : ∀ b ∈ as, ∃ o, g b = some o := fun b hb => by
      obtain ⟨j, hj, rfl⟩ := List.mem_iff_getElem.mp hb
      obtain ⟨vs, n, e, _⟩ := rw' j _ (List.getElem?_eq_getElem hj)
      exact ⟨_, e⟩
    have hna : a ∉ as := fun q => by obtain ⟨o, e⟩ := hin a q; rw [hg _ _ e] at ha; cases ha
    refine ⟨as ++ [a], by simp, by simp [hl], ?_, ?_, ?_⟩
    · rw [List.nodup_append]
      exact ⟨nd, List.nodup_cons.mpr ⟨List.not_mem_nil, List.nodup_nil⟩, fun b hb c hc e => by rw [List.mem_singleton.mp hc] at e; exact hna (e ▸ hb)⟩
    · intro b hb
      rcases List.mem_append.mp hb with hb | hb
      · exact fr b hb
      · rw [List.mem_singleton.mp hb]; exact hs1.none ha
    · intro j b hj
      rcases Nat.lt_trichotomy j as.length with q | q | q
      · rw [List.getElem?_append_left q] at hj
        exact lpg_up (rw' j b hj) fun o e => hg' _ _ e
      · subst q
        simp at hj; subst hj
        rw [hl]; exact lpg_of L fun o e => hnew _ _ ha e
      · have : (as ++ [a])[j]? = none := List.getElem?_eq_none (by simp; omega)
        rw [this] at hj; cases hj
  · rintro Dd ys g s' kk hn hD ⟨as, rfl, hl, nd, fr, rw'⟩ hg
    have hin : ∀ b ∈ as, ∃ o, g b = some o := fun b hb => by
      obtain ⟨j, hj, rfl⟩ := List.mem_iff_getElem.mp hb
      obtain ⟨vs, n, e, _⟩ := rw' j _ (List.getElem?_eq_getElem hj)
      exact ⟨_, e⟩
    refine ⟨kk, Dd, as, rfl, hn, fun q => ?_, nd, fr, hD, by simp [hl], fun j b r hb hr => ?_⟩
    · obtain ⟨o, e⟩ := hin _ q
      exact (hg _ _ e).2 rfl
    · have hj : j < xs.length := by rw [← hl]; exact (List.getElem?_eq_some_iff.mp hb).1
      rw [List.getElem?_map, List.getElem?_range hj] at hr
      cases hr
      exact lp_of_g (rw' j b hb) fun o e => (hg _ _ e).1
end
end Mine

namespace Mine

/-! states of a frame -/
def upd {α β : Type} [DecidableEq α] (f : α → Option β) (a : α) (b : β) : α → Option β := fun x => if x = a then some b else f x
theorem upd_self {α β : Type} [DecidableEq α] {f : α → Option β} {a : α} {b : β} : upd f a b a = some b := if_pos rfl
theorem upd_ne {α β : Type} [DecidableEq α] {f : α → Option β} {a x : α} {b : β} (h : x ≠ a) : upd f a b x = f x := if_neg h
theorem upd_inv {α β : Type} [DecidableEq α] {f : α → Option β} {a x : α} {b c : β} (h : upd f a b x = some c) : (x = a ∧ c = b) ∨ (x ≠ a ∧ f x = some c) := by
  by_cases e : x = a
  · subst e; rw [upd_self] at h; exact .inl ⟨rfl, (Option.some.inj h).symm⟩
  · rw [upd_ne e] at h; exact .inr ⟨e, h⟩

inductive Con where
  | li (ns : List Int)
  | lp (ns : List Int)
  | lr (as : List Addr)
def Con.at : Con → Heap → Addr → Prop
  | .li ns, h, a => LI h a ns
  | .lp ns, h, a => LP h a ns
  | .lr as, h, a => LR h a as
theorem Con.at.ex {c : Con} {h a} (x : c.at h a) : ∃ o, h.get? a = some o := by
  cases c with
  | li ns => exact LI.some x
  | lp ns => exact LI.some (LP.li x)
  | lr as => exact LR.some x
theorem Con.at.keep {c : Con} {h h' : Heap} {a} (x : c.at h a) (k : ∀ o, h.get? a = some o → h'.get? a = some o) : c.at h' a := by
  cases c with
  | li ns => obtain ⟨vs, l, i⟩ := x; exact ⟨vs, l.at k, i⟩
  | lp ns => obtain ⟨vs, l, i⟩ := x; exact ⟨vs, l.at k, i⟩
  | lr as => exact Heap.PlainList.at x k

structure St (B : Addr → Option Obj) (env : Env) (ρ : Str → Option D) (G : Addr → Option Con) (h : Heap) : Prop where
  kept : ∀ a o, B a = some o → h.get? a = some o
  ns : ∃ m, h.Ns env.locals m ∧ ∀ x d, ρ x = some d → env.kindOf x = some .local → ∃ v, m x = some v ∧ d.is v
  cell : ∀ x c, env.cells.lookup x = some c → ∃ v, h.IsCell c v ∧ ∀ d, ρ x = some d → env.kindOf x = some .cell → ∃ v', v = some v' ∧ d.is v'
  apart : env.cells.Pairwise fun x y => x.2 ≠ y.2
  offL : B env.locals = none ∧ G env.locals = none
  offC : ∀ x c, env.cells.lookup x = some c → c ≠ env.locals ∧ B c = none ∧ G c = none
  own : ∀ a c, G a = some c → c.at h a ∧ B a = none

def VarOk (env : Env) (x : Str) : Prop := env.kindOf x = some .local ∨ (env.kindOf x = some .cell ∧ ∃ c, env.cells.lookup x = some c)

section
variable {B : Addr → Option Obj} {env : Env} {ρ : Str → Option D} {G : Addr → Option Con} {h h' : Heap}
theorem St.has {x d} (S : St B env ρ G h) (e : ρ x = some d) (hx : VarOk env x) : Has env h x d := by
  rcases hx with hl | ⟨hc, c, l⟩
  · obtain ⟨m, n, r⟩ := S.ns
    obtain ⟨v, e', hv⟩ := r x d e hl
    exact ⟨v, hv, .inl ⟨hl, m, n, e'⟩⟩
  · obtain ⟨v, i, r⟩ := S.cell x c l
    obtain ⟨v', rfl, hv⟩ := r d e hc
    exact ⟨v', hv, .inr ⟨hc, c, l, i⟩⟩
/-- what the frame does not look at may change -/
theorem St.off (S : St B env ρ G h) (k : ∀ b o, (B b ≠ none ∨ G b ≠ none ∨ b = env.locals ∨ ∃ x, env.cells.lookup x = some b) → h.get? b = some o → h'.get? b = some o) : St B env ρ G h' where
  kept := fun a o e => k a o (.inl (by rw [e]; exact fun q => nomatch q)) (S.kept a o e)
  ns := let ⟨m, n, r⟩ := S.ns; ⟨m, n.at' fun o e => k _ o (.inr (.inr (.inl rfl))) e, r⟩
  cell := fun x c l => let ⟨v, ⟨o, e, q⟩, r⟩ := S.cell x c l; ⟨v, ⟨o, k _ o (.inr (.inr (.inr ⟨x, l⟩))) e, q⟩, r⟩
  apart := S.apart
  offL := S.offL
  offC := S.offC
  own := fun a c e => ⟨(S.own a c e).1.keep fun o q => k a o (.inr (.inl (by rw [e]; exact fun q => nomatch q))) q, (S.own a c e).2⟩
theorem St.le (S : St B env ρ G h) (k : Le h h') : St B env ρ G h' := S.off fun b o _ e => k b o e
/-- a place that does not stand yet -/
structure Off (B : Addr → Option Obj) (env : Env) (G : Addr → Option Con) (a : Addr) : Prop where
  b : B a = none
  g : G a = none
  l : a ≠ env.locals
  c : ∀ x c, env.cells.lookup x = some c → c ≠ a
theorem St.new (S : St B env ρ G h) {a : Addr} (e : h.get? a = none) : Off B env G a where
  b := by cases q : B a with
    | none => rfl
    | some o => rw [S.kept _ _ q] at e; cases e
  g := by cases q : G a with
    | none => rfl
    | some c => obtain ⟨o, q'⟩ := (S.own _ _ q).1.ex; rw [q'] at e; cases e
  l := fun q => by obtain ⟨m, ⟨o, _, _, e', _⟩, _⟩ := S.ns; rw [q, e'] at e; cases e
  c := fun x c l q => by obtain ⟨v, ⟨o, e', _⟩, _⟩ := S.cell x c l; rw [← q, e'] at e; cases e
theorem St.add (S : St B env ρ G h) {a : Addr} {c : Con} (f : Off B env G a) (ha : c.at h a) : St B env ρ (upd G a c) h where
  kept := S.kept
  ns := S.ns
  cell := S.cell
  apart := S.apart
  offL := ⟨S.offL.1, by rw [upd_ne (Ne.symm f.l)]; exact S.offL.2⟩
  offC := fun x b l => ⟨(S.offC x b l).1, (S.offC x b l).2.1, by rw [upd_ne (f.c x b l)]; exact (S.offC x b l).2.2⟩
  own := fun b k e => by
    rcases upd_inv e with ⟨rfl, rfl⟩ | ⟨_, e⟩
    · exact ⟨ha, f.b⟩
    · exact S.own b k e
/-- another word for a list that is owned -/
theorem St.turn (S : St B env ρ G h) {a : Addr} {c c' : Con} (e : G a = some c) (ha : c'.at h a) : St B env ρ (upd G a c') h :=
  have ne : ∀ b, G b = none → b ≠ a := fun b q r => by rw [r, e] at q; cases q
  { kept := S.kept, ns := S.ns, cell := S.cell, apart := S.apart
    offL := ⟨S.offL.1, by rw [upd_ne (ne _ S.offL.2)]; exact S.offL.2⟩
    offC := fun x b l => ⟨(S.offC x b l).1, (S.offC x b l).2.1, by rw [upd_ne (ne _ (S.offC x b l).2.2)]; exact (S.offC x b l).2.2⟩
    own := fun b k q => by
      rcases upd_inv q with ⟨rfl, rfl⟩ | ⟨_, q⟩
      · exact ⟨ha, (S.own _ _ e).2⟩
      · exact S.own b k q }
/-- a list that is owned is changed -/
theorem St.change (S : St B env ρ G h) {a : Addr} {c c' : Con} (e : G a = some c) (ha : c'.at h' a) (k : ∀ b o, b ≠ a → h.get? b = some o → h'.get? b = some o) : St B env ρ (upd G a c') h' := by
  have nb : ∀ b, G b = none → b ≠ a := fun b q r => by rw [r, e] at q; cases q
  have hB := (S.own _ _ e).2
  exact
  { kept := fun b o q => k b o (fun r => by rw [r, hB] at q; cases q) (S.kept b o q)
    ns := let ⟨m, n, r⟩ := S.ns; ⟨m, n.at' fun o q => k _ o (nb _ S.offL.2) q, r⟩
    cell := fun x c l => let ⟨v, ⟨o, q, z⟩, r⟩ := S.cell x c l; ⟨v, ⟨o, k _ o (nb _ (S.offC x c l).2.2) q, z⟩, r⟩
    apart := S.apart
    offL := ⟨S.offL.1, by rw [upd_ne (nb _ S.offL.2)]; exact S.offL.2⟩
    offC := fun x b l => ⟨(S.offC x b l).1, (S.offC x b l).2.1, by rw [upd_ne (nb _ (S.offC x b l).2.2)]; exact (S.offC x b l).2.2⟩
    own := fun b c q => by
      rcases upd_inv q with ⟨rfl, rfl⟩ | ⟨n, q⟩
      · exact ⟨ha, hB⟩
      · exact ⟨(S.own b c q).1.keep fun o z => k b o n z, (S.own b c q).2⟩ }
theorem St.freeze (S : St B env ρ G h) {a : Addr} {o : Obj} (f : Off B env G a) (e : h.get? a = some o) : St (upd B a o) env ρ G h where
  kept := fun b o' q => by
    rcases upd_inv q with ⟨rfl, rfl⟩ | ⟨_, q⟩
    · exact e
    · exact S.kept b o' q
  ns := S.ns
  cell := S.cell
  apart := S.apart
  offL := ⟨by rw [upd_ne (Ne.symm f.l)]; exact S.offL.1, S.offL.2⟩
  offC := fun x b l => ⟨(S.offC x b l).1, by rw [upd_ne (f.c x b l)]; exact (S.offC x b l).2.1, (S.offC x b l).2.2⟩
  own := fun b c q => ⟨(S.own b c q).1, by rw [upd_ne (fun r => by rw [r, f.g] at q; cases q)]; exact (S.own b c q).2⟩
/-- a frozen list may be owned no more -/
theorem St.give (S : St B env ρ G h) {a : Addr} {o : Obj} {c : Con} (e : G a = some c) (ho : h.get? a = some o) : St (upd B a o) env ρ (fun b => if b = a then none else G b) h := by
  have nb : ∀ b, G b = none → b ≠ a := fun b q r => by rw [r, e] at q; cases q
  exact
  { kept := fun b o' q => by
      rcases upd_inv q with ⟨rfl, rfl⟩ | ⟨_, q⟩
      · exact ho
      · exact S.kept b o' q
    ns := S.ns, cell := S.cell, apart := S.apart
    offL := ⟨by rw [upd_ne (nb _ S.offL.2)]; exact S.offL.1, by rw [if_neg (nb _ S.offL.2)]; exact S.offL.2⟩
    offC := fun x b l => ⟨(S.offC x b l).1, by rw [upd_ne (nb _ (S.offC x b l).2.2)]; exact (S.offC x b l).2.1, by rw [if_neg (nb _ (S.offC x b l).2.2)]; exact (S.offC x b l).2.2⟩
    own := fun b c q => by
      by_cases r : b = a
      · rw [if_pos r] at q; cases q
      · rw [if_neg r] at q; exact ⟨(S.own b c q).1, by rw [upd_ne r]; exact (S.own b c q).2⟩ }
theorem St.thaw {a : Addr} {o : Obj} (S : St (upd B a o) env ρ G h) (hB : B a = none) (k : ∀ b o', b ≠ a → h.get? b = some o' → h'.get? b = some o') : St B env ρ G h' := by
  have nl : env.locals ≠ a := fun r => by have := S.offL.1; rw [r, upd_self] at this; cases this
  have nc : ∀ x c, env.cells.lookup x = some c → c ≠ a := fun x c l r => by have := (S.offC x c l).2.1; rw [r, upd_self] at this; cases this
  have ng : ∀ b c, G b = some c → b ≠ a := fun b c q r => by have := (S.own b c q).2; rw [r, upd_self] at this; cases this
  exact
  { kept := fun b o' q => by
      have nb : b ≠ a := fun r => by rw [r, hB] at q; cases q
      exact k b o' nb (S.kept b o' (by rw [upd_ne nb]; exact q))
    ns := let ⟨m, n, r⟩ := S.ns; ⟨m, n.at' fun o q => k _ o nl q, r⟩
    cell := fun x c l => let ⟨v, ⟨o, q, z⟩, r⟩ := S.cell x c l; ⟨v, ⟨o, k _ o (nc x c l) q, z⟩, r⟩
    apart := S.apart
    offL := ⟨by have := S.offL.1; rwa [upd_ne nl] at this, S.offL.2⟩
    offC := fun x c l => ⟨(S.offC x c l).1, by have := (S.offC x c l).2.1; rwa [upd_ne (nc x c l)] at this, (S.offC x c l).2.2⟩
    own := fun b c q => ⟨(S.own b c q).1.keep fun o z => k b o (ng b c q) z, by have := (S.own b c q).2; rwa [upd_ne (ng b c q)] at this⟩ }
end

abbrev mkS (s₀ : Shared) (h : Heap) (tk : Nat) : Shared := { s₀ with heap := h, toks := tk }

section
variable {prog : Program} {w : World} {A : Around} {B : Addr → Option Obj} {env : Env} {ρ : Str → Option D} {G : Addr → Option Con} {h : Heap} {s₀ : Shared} {tk : Nat} {E : Value → Shared → Prop}

theorem store_rule {x : Str} {v : Value} {d : D} {Q : Unit → Shared → Prop} (ok : EnvOk env) (S : St B env ρ G h) (hx : VarOk env x) (hv : d.is v) (K : ∀ h' tk', St B env (upd ρ x d) G h' → Q () (mkS s₀ h' tk')) :
    wpAny (model prog w) A (storeName env x v) Q E (mkS s₀ h tk) := by
  rcases hx with hl | ⟨hc, c, l⟩
  · obtain ⟨m, n, r⟩ := S.ns
    refine wpAny_storeName_local (s := mkS s₀ h tk) hl n (fun h' n' sb => K h' _ ?_) (by rw [ok.kind]; rfl)
    exact
    { kept := fun a o e => sb.extBut a o (fun q => by rw [q, S.offL.1] at e; cases e) (S.kept a o e)
      ns := ⟨_, n', fun y d' e' hy => by
        by_cases q : y = x
        · subst q; rw [upd_self] at e'; cases e'; exact ⟨v, if_pos rfl, hv⟩
        · rw [upd_ne q] at e'
          obtain ⟨v', e1, e2⟩ := r y d' e' hy
          exact ⟨v', by rw [if_neg q]; exact e1, e2⟩⟩
      cell := fun y c lc => by
        obtain ⟨v', i, r'⟩ := S.cell y c lc
        refine ⟨v', i.sameBut sb (S.offC y c lc).1, fun d' e' hy => ?_⟩
        have q : y ≠ x := fun q => by rw [q, hl] at hy; cases hy
        rw [upd_ne q] at e'; exact r' d' e' hy
      apart := S.apart
      offL := S.offL
      offC := S.offC
      own := fun a c e => ⟨(S.own a c e).1.keep fun o q => sb.extBut a o (fun z => by rw [z, S.offL.2] at e; cases e) q, (S.own a c e).2⟩ }
  · obtain ⟨v₀, i, r⟩ := S.cell x c l
    refine wpAny_storeName_cell (s := mkS s₀ h tk) ok.kind hc l i fun h' i' sb => K h' tk ?_
    have oc := S.offC x c l
    obtain ⟨m, n, rn⟩ := S.ns
    exact
    { kept := fun a o e => sb.extBut a o (fun q => by rw [q, oc.2.1] at e; cases e) (S.kept a o e)
      ns := ⟨m, n.sameBut sb (Ne.symm oc.1), fun y d' e' hy => by
        have q : y ≠ x := fun q => by rw [q, hc] at hy; cases hy
        rw [upd_ne q] at e'; exact rn y d' e' hy⟩
      cell := fun y c' lc => by
        by_cases q : y = x
        · subst q
          rw [l] at lc; cases lc
          exact ⟨some v, i', fun d' e' _ => ⟨v, rfl, by rw [upd_self] at e'; cases e'; exact hv⟩⟩
        · obtain ⟨v', i2, r'⟩ := S.cell y c' lc
          exact ⟨v', i2.sameBut sb fun e => q (name_of_addr S.apart (mem_of_lookup lc) (e ▸ mem_of_lookup l)), fun d' e' hy => by rw [upd_ne q] at e'; exact r' d' e' hy⟩
      apart := S.apart
      offL := S.offL
      offC := S.offC
      own := fun a k e => ⟨(S.own a k e).1.keep fun o q => sb.extBut a o (fun z => by rw [z, oc.2.2] at e; cases e) q, (S.own a k e).2⟩ }

/-! statements -/
variable {Q : Flow → Shared → Prop} {rest : List Stmt}
theorem do_assign {x : Str} {px pos : Pos} {e : Expr} {Φ : Heap → Value → Heap → Prop} (ok : EnvOk env) (S : St B env ρ G h) (hx : VarOk env x) (y : Ev prog w A env h e Φ)
    (K : ∀ v h₁, Le h h₁ → Φ h v h₁ → ∃ d G', d.is v ∧ St B env ρ G' h₁ ∧ ∀ h' tk', St B env (upd ρ x d) G' h' → wpAny (model prog w) A (execs rest env) Q E (mkS s₀ h' tk'))
    (hsw : swapsWith e (some (.Name x px)) pos.line env = pure false) :
    wpAny (model prog w) A (execs (.Assign [.Name x px] e pos :: rest) env) Q E (mkS s₀ h tk) := by
  refine wpAny_execs_cons (wpAny_Assign_Name (wpAny_mono (y (mkS s₀ h tk) E (Le.refl _)) (fun v s₁ hv => ?_) fun _ _ e => e) hsw)
  obtain ⟨⟨h₁, tk₁, rfl, le⟩, hΦ⟩ := hv
  obtain ⟨d, G', hd, S₁, K'⟩ := K v h₁ le hΦ
  exact store_rule ok S₁ hx hd fun h' tk' S' => K' h' tk' S'
theorem do_int {x : Str} {px pos : Pos} {e : Expr} {k : Int} (ok : EnvOk env) (S : St B env ρ G h) (hx : VarOk env x) (y : EvI prog w A env h e k)
    (K : ∀ h' tk', St B env (upd ρ x (.int k)) G h' → wpAny (model prog w) A (execs rest env) Q E (mkS s₀ h' tk')) (hsw : swapsWith e (some (.Name x px)) pos.line env = pure false := by rfl) :
    wpAny (model prog w) A (execs (.Assign [.Name x px] e pos :: rest) env) Q E (mkS s₀ h tk) :=
  do_assign ok S hx y (fun v h₁ le hv => ⟨.int k, G, hv, S.le le, K⟩) hsw
theorem do_ref {x : Str} {px pos : Pos} {e : Expr} {a : Addr} (ok : EnvOk env) (S : St B env ρ G h) (hx : VarOk env x) (y : EvA prog w A env h e a)
    (K : ∀ h' tk', St B env (upd ρ x (.ref a)) G h' → wpAny (model prog w) A (execs rest env) Q E (mkS s₀ h' tk')) (hsw : swapsWith e (some (.Name x px)) pos.line env = pure false := by rfl) :
    wpAny (model prog w) A (execs (.Assign [.Name x px] e pos :: rest) env) Q E (mkS s₀ h tk) :=
  do_assign ok S hx y (fun v h₁ le hv => ⟨.ref a, G, hv, S.le le, K⟩) hsw
theorem do_new {x : Str} {px pos : Pos} {e : Expr} {ns : List Int} (ok : EnvOk env) (S : St B env ρ G h) (hx : VarOk env x) (y : EvN prog w A env h e ns)
    (K : ∀ a h' tk', h.get? a = none → Off B env G a → St B env (upd ρ x (.ref a)) (upd G a (.lp ns)) h' → wpAny (model prog w) A (execs rest env) Q E (mkS s₀ h' tk')) (hsw : swapsWith e (some (.Name x px)) pos.line env = pure false := by rfl) :
    wpAny (model prog w) A (execs (.Assign [.Name x px] e pos :: rest) env) Q E (mkS s₀ h tk) :=
  do_assign ok S hx y (fun v h₁ le ⟨a, e, hn, L⟩ => ⟨.ref a, upd G a (.lp ns), e, (S.le le).add (S.new hn) L, fun h' tk' S' => K a h' tk' hn (S.new hn) S'⟩) hsw

/-! rows -/
def putRows (mk : List Int → Con) (G : Addr → Option Con) : List Addr → List (List Int) → Addr → Option Con
  | a :: as, r :: rs => upd (putRows mk G as rs) a (mk r)
  | _, _ => G
theorem putRows_off {mk : List Int → Con} {G : Addr → Option Con} {b : Addr} : ∀ {as : List Addr} {rs : List (List Int)}, b ∉ as → putRows mk G as rs b = G b
  | [], _, _ => by simp [putRows]
  | _ :: _, [], _ => by simp [putRows]
  | a :: as, r :: rs, n => by
    rw [putRows, upd_ne (show b ≠ a from fun q => n (by rw [q]; exact .head _))]; exact putRows_off fun q => n (.tail _ q)
theorem putRows_at {mk : List Int → Con} {G : Addr → Option Con} {b : Addr} {r : List Int} : ∀ {as : List Addr} {rs : List (List Int)} {i : Nat}, as.Nodup → as[i]? = some b → rs[i]? = some r → putRows mk G as rs b = some (mk r)
  | [], _, _, _, h, _ => by simp at h
  | _ :: _, [], _, _, _, h => by simp at h
  | a :: as, q :: rs, 0, _, h, h' => by simp at h h'; subst h h'; exact upd_self
  | a :: as, q :: rs, i + 1, n, h, h' => by
    rw [List.getElem?_cons_succ] at h h'
    rw [putRows, upd_ne (show b ≠ a from fun e => (List.nodup_cons.mp n).1 (e ▸ List.mem_of_getElem? h))]
    exact putRows_at (List.nodup_cons.mp n).2 h h'
theorem st_rows {mk : List Int → Con} (hmk : ∀ ns h a, LP h a ns → (mk ns).at h a) (S : St B env ρ G h) : ∀ {as : List Addr} {rs : List (List Int)}, as.Nodup → (∀ b ∈ as, Off B env G b) → RowsP h as rs → St B env ρ (putRows mk G as rs) h
  | [], _, _, _, _ => by simpa [putRows] using S
  | _ :: _, [], _, _, _ => by simpa [putRows] using S
  | a :: as, r :: rs, nd, fr, hr => by
    have nd' := List.nodup_cons.mp nd
    have hr' : RowsP h as rs := ⟨by simpa using hr.1, fun i b q h1 h2 => hr.2 (i + 1) b q (by simpa using h1) (by simpa using h2)⟩
    have S' := st_rows hmk S nd'.2 (fun b hb => fr b (.tail _ hb)) hr'
    have f := fr a (.head _)
    exact S'.add ⟨f.b, by rw [putRows_off nd'.1]; exact f.g, f.l, f.c⟩ (hmk _ _ _ (hr.2 0 a r rfl rfl))

theorem do_rows {x : Str} {px pos : Pos} {e : Expr} {rows : List (List Int)} {mk : List Int → Con} (hmk : ∀ ns h a, LP h a ns → (mk ns).at h a) (ok : EnvOk env) (S : St B env ρ G h) (hx : VarOk env x) (y : EvRows prog w A env h e rows)
    (K : ∀ a as h' tk', h.get? a = none → Off B env G a → as.Nodup → a ∉ as → as.length = rows.length → (∀ b ∈ as, h.get? b = none ∧ Off B env G b) → St B env (upd ρ x (.ref a)) (upd (putRows mk G as rows) a (.lr as)) h' → wpAny (model prog w) A (execs rest env) Q E (mkS s₀ h' tk'))
    (hsw : swapsWith e (some (.Name x px)) pos.line env = pure false := by rfl) :
    wpAny (model prog w) A (execs (.Assign [.Name x px] e pos :: rest) env) Q E (mkS s₀ h tk) :=
  do_assign ok S hx y (fun v h₁ le ⟨a, as, e, M⟩ => ⟨.ref a, _, e, by
    have f := S.new M.new
    exact (st_rows hmk (S.le le) M.nodup (fun b hb => S.new (M.fresh b hb)) M.rows).add ⟨f.b, by rw [putRows_off M.off]; exact f.g, f.l, f.c⟩ M.lr,
    fun h' tk' S' => K a as h' tk' M.new (S.new M.new) M.nodup M.off M.rows.1 (fun b hb => ⟨M.fresh b hb, S.new (M.fresh b hb)⟩) S'⟩) hsw
end
end Mine

namespace Mine
section
variable {prog : Program} {w : World} {A : Around} {B : Addr → Option Obj} {env : Env} {ρ : Str → Option D} {G : Addr → Option Con} {h : Heap} {s₀ : Shared} {tk : Nat} {E : Value → Shared → Prop} {Q : Flow → Shared → Prop} {rest : List Stmt}

theorem plainL_of {h : Heap} {a : Addr} {its : Array Value} (x : h.PlainList a its) : PlainL h a its := let ⟨n, e⟩ := x; ⟨_, n, e, rfl, rfl, rfl⟩

/-- o.append(e): what is appended is read off the value -/
theorem do_append {o elt : Expr} {apos pos pos' : Pos} {a : Addr} {c : Con} {vs : List Value} {Φ : Heap → Value → Heap → Prop} (S : St B env ρ G h) (x : EvA prog w A env h o a) (y : Ev prog w A env h elt Φ) (hp : h.PlainList a vs.toArray) (hz : vs.length ≤ sizeLine)
    (K : ∀ v h₁ h₂, Le h h₁ → Le h₁ h₂ → Φ h₁ v h₂ → ∃ G' c', G' a = some c ∧ St B env ρ G' h₂ ∧ (∀ h₃, h₃.PlainList a (vs ++ [v]).toArray → c'.at h₃ a) ∧ ∀ h' tk', St B env ρ (upd G' a c') h' → wpAny (model prog w) A (execs rest env) Q E (mkS s₀ h' tk'))
    (hbase : attributeBase o "append" env (eval o env) = eval o env)
    (hline : (apos.endLine == pos.line) = true) (he : starEach [elt] env = [(false, eval elt env)])
    (hi : interactive env = false) (hs : swapsWith (.Call (.Attribute o "append" apos) [elt] [] pos) none pos'.line env = pure false) :
    wpAny (model prog w) A (execs (.Expr (.Call (.Attribute o "append" apos) [elt] [] pos) pos' :: rest) env) Q E (mkS s₀ h tk) := by
  refine wpAny_execs_cons (wpAny_Expr (wpAny_Call_append hbase (by rw [he]; rfl) hline (by rw [he]; rfl) ?_) hi hs)
  refine wpAny_mono (x (mkS s₀ h tk) E (Le.refl _)) (fun ov s₁ hx => ?_) fun _ _ e => e
  obtain ⟨⟨h₁, tk₁, rfl, le⟩, rfl⟩ := hx
  refine ⟨a, _, rfl, plainL_of (hp.at fun o e => le _ o e), ?_⟩
  refine wpAny_mono (y (mkS s₀ h₁ tk₁) E le) (fun v s₂ hv => ?_) fun _ _ e => e
  obtain ⟨⟨h₂, tk₂, rfl, le₂⟩, hΦ⟩ := hv
  obtain ⟨G', c', hG', S', hc, K'⟩ := K v h₁ h₂ le le₂ hΦ
  have hp₂ : h₂.PlainList a vs.toArray := (hp.at fun o e => le _ o e).at fun o e => le₂ _ o e
  refine wpAny_list_append_plain (s := mkS s₀ h₂ tk₂) (hsz := by simpa using hz) hp₂ fun h₃ hp₃ sb => ?_
  have hc' : c'.at h₃ a := hc h₃ (by simpa using hp₃)
  exact K' h₃ tk₂ (S'.change hG' hc' fun b o hb e => sb.extBut b o hb e)

theorem do_appI {o elt : Expr} {apos pos pos' : Pos} {a : Addr} {ns : List Int} {k : Int} (S : St B env ρ G h) (x : EvA prog w A env h o a) (y : EvI prog w A env h elt k) (hG : G a = some (.lp ns)) (hz : ns.length ≤ sizeLine)
    (K : ∀ h' tk', St B env ρ (upd G a (.lp (ns ++ [k]))) h' → wpAny (model prog w) A (execs rest env) Q E (mkS s₀ h' tk'))
    (hbase : attributeBase o "append" env (eval o env) = eval o env := by rfl)
    (hline : (apos.endLine == pos.line) = true := by rfl) (he : starEach [elt] env = [(false, eval elt env)] := by first | exact star_name | exact star_bin | exact star_call | exact star_comp | exact star_const | exact star_sub | exact star_ife | exact star_list)
    (hi : interactive env = false := by rfl) (hs : swapsWith (.Call (.Attribute o "append" apos) [elt] [] pos) none pos'.line env = pure false := by rfl) :
    wpAny (model prog w) A (execs (.Expr (.Call (.Attribute o "append" apos) [elt] [] pos) pos' :: rest) env) Q E (mkS s₀ h tk) := by
  obtain ⟨vs, hp, i⟩ := (S.own _ _ hG).1
  refine do_append S x y hp (by rw [i.length]; exact hz) (fun v h₁ h₂ le le₂ ⟨t, e⟩ => ⟨G, .lp (ns ++ [k]), hG, S.le (le.trans le₂), fun h₃ hp₃ => ⟨_, hp₃, ?_⟩, K⟩) hbase hline he hi hs
  subst e; exact i.append (.cons _ _ .nil)

/-- appending a list that stands -/
theorem do_appA {o elt : Expr} {apos pos pos' : Pos} {a b : Addr} {as : List Addr} (S : St B env ρ G h) (x : EvA prog w A env h o a) (y : EvA prog w A env h elt b) (hG : G a = some (.lr as)) (hz : as.length ≤ sizeLine)
    (K : ∀ h' tk', St B env ρ (upd G a (.lr (as ++ [b]))) h' → wpAny (model prog w) A (execs rest env) Q E (mkS s₀ h' tk'))
    (hbase : attributeBase o "append" env (eval o env) = eval o env := by rfl)
    (hline : (apos.endLine == pos.line) = true := by rfl) (he : starEach [elt] env = [(false, eval elt env)] := by first | exact star_name | exact star_bin | exact star_call | exact star_comp | exact star_const | exact star_sub | exact star_ife | exact star_list)
    (hi : interactive env = false := by rfl) (hs : swapsWith (.Call (.Attribute o "append" apos) [elt] [] pos) none pos'.line env = pure false := by rfl) :
    wpAny (model prog w) A (execs (.Expr (.Call (.Attribute o "append" apos) [elt] [] pos) pos' :: rest) env) Q E (mkS s₀ h tk) := by
  have hp : h.PlainList a (as.map Value.ref).toArray := (S.own _ _ hG).1
  refine do_append S x y hp (by simpa using hz) (fun v h₁ h₂ le le₂ e => ⟨G, .lr (as ++ [b]), hG, S.le (le.trans le₂), fun h₃ hp₃ => ?_, K⟩) hbase hline he hi hs
  subst e
  show h₃.PlainList a ((as ++ [b]).map Value.ref).toArray
  simpa using hp₃

/-- appending a new list of ints -/
theorem do_appN {o elt : Expr} {apos pos pos' : Pos} {a : Addr} {as : List Addr} {ns : List Int} (S : St B env ρ G h) (x : EvA prog w A env h o a) (y : EvN prog w A env h elt ns) (hG : G a = some (.lr as)) (hz : as.length ≤ sizeLine)
    (K : ∀ b h' tk', Off B env G b → St B env ρ (upd (upd G b (.lp ns)) a (.lr (as ++ [b]))) h' → wpAny (model prog w) A (execs rest env) Q E (mkS s₀ h' tk'))
    (hbase : attributeBase o "append" env (eval o env) = eval o env := by rfl)
    (hline : (apos.endLine == pos.line) = true := by rfl) (he : starEach [elt] env = [(false, eval elt env)] := by first | exact star_name | exact star_bin | exact star_call | exact star_comp | exact star_const | exact star_sub | exact star_ife | exact star_list)
    (hi : interactive env = false := by rfl) (hs : swapsWith (.Call (.Attribute o "append" apos) [elt] [] pos) none pos'.line env = pure false := by rfl) :
    wpAny (model prog w) A (execs (.Expr (.Call (.Attribute o "append" apos) [elt] [] pos) pos' :: rest) env) Q E (mkS s₀ h tk) := by
  have hp : h.PlainList a (as.map Value.ref).toArray := (S.own _ _ hG).1
  refine do_append (c := .lr as) S x y hp (by simpa using hz) (fun v h₁ h₂ le le₂ ⟨b, e, hn, L⟩ => ?_) hbase hline he hi hs
  have f : Off B env G b := S.new (le.none hn)
  have ne : a ≠ b := fun q => by rw [q, f.g] at hG; cases hG
  refine ⟨upd G b (.lp ns), .lr (as ++ [b]), by rw [upd_ne ne]; exact hG, ((S.le le).le le₂).add f L, fun h₃ hp₃ => ?_, fun h' tk' S' => K b h' tk' f S'⟩
  subst e
  show h₃.PlainList a ((as ++ [b]).map Value.ref).toArray
  simpa using hp₃

theorem ints_set {vs : List Value} {ns : List Int} (x : IntsAre vs ns) (i : Nat) (k : Int) (t : Tok) : IntsAre (vs.set i (.int k t)) (ns.set i k) := by
  induction x generalizing i with
  | nil => exact .nil
  | cons n u x ih => cases i with
    | zero => exact .cons _ _ x
    | succ i => exact .cons _ _ (ih i)

/-- o[i] = e -/
theorem do_set {o i e : Expr} {pos pos' : Pos} {a : Addr} {c : Con} {ns : List Int} {k n : Int} (S : St B env ρ G h) (y : EvI prog w A env h e n) (x : EvA prog w A env h o a) (z : EvI prog w A env h i k) (hG : G a = some c) (hc : ∀ h, c.at h a → LI h a ns)
    (h0 : 0 ≤ k) (hk : k < ns.length) (hb : k < 2 ^ 63)
    (K : ∀ h' tk', St B env ρ (upd G a (.li (ns.set k.toNat n))) h' → wpAny (model prog w) A (execs rest env) Q E (mkS s₀ h' tk'))
    (hs : swapsWith e (some (.Subscript o i pos')) pos.line env = pure false := by rfl) :
    wpAny (model prog w) A (execs (.Assign [.Subscript o i pos'] e pos :: rest) env) Q E (mkS s₀ h tk) := by
  refine wpAny_execs_cons (wpAny_Assign_Subscript (wpAny_mono (y (mkS s₀ h tk) E (Le.refl _)) (fun v s₁ hv => ?_) fun _ _ e => e) hs)
  obtain ⟨⟨h₁, tk₁, rfl, le⟩, t, rfl⟩ := hv
  refine wpAny_mono (x (mkS s₀ h₁ tk₁) E le) (fun ov s₂ hv => ?_) fun _ _ e => e
  obtain ⟨⟨h₂, tk₂, rfl, le₂⟩, rfl⟩ := hv
  refine wpAny_mono (z (mkS s₀ h₂ tk₂) E (Le.trans le le₂)) (fun iv s₃ hv => ?_) fun _ _ e => e
  obtain ⟨⟨h₃, tk₃, rfl, le₃⟩, t', rfl⟩ := hv
  have S₃ := ((S.le le).le le₂).le le₃
  obtain ⟨vs, l, j⟩ := hc _ (S₃.own _ _ hG).1
  refine wpAny_setItem_list (s := mkS s₀ h₃ tk₃) l h0 hb (by simp only [List.size_toArray, j.length]; exact hk) fun h' l' sb => K h' tk₃ (S₃.change hG ?_ fun b o hb e => sb.extBut b o hb e)
  exact ⟨vs.set k.toNat (.int n t), by simpa using l', ints_set j _ _ _⟩

theorem do_if {t : Expr} {body orelse : List Stmt} {pos : Pos} {b : Bool} (S : St B env ρ G h) (y : Tst prog w A env h t b)
    (Kt : b = true → ∀ h' tk', St B env ρ G h' → wpAny (model prog w) A (execs body env) (fun f s' => match f with | .next => wpAny (model prog w) A (execs rest env) Q E s' | f => Q f s') E (mkS s₀ h' tk'))
    (Kf : b = false → ∀ h' tk', St B env ρ G h' → wpAny (model prog w) A (execs orelse env) (fun f s' => match f with | .next => wpAny (model prog w) A (execs rest env) Q E s' | f => Q f s') E (mkS s₀ h' tk')) :
    wpAny (model prog w) A (execs (.If t body orelse pos :: rest) env) Q E (mkS s₀ h tk) := by
  refine wpAny_execs_cons (wpAny_If (wpAny_mono (y (mkS s₀ h tk) E (Le.refl _)) (fun r s₁ hr => ?_) fun _ _ e => e))
  obtain ⟨⟨h₁, tk₁, rfl, le⟩, rfl⟩ := hr
  cases r with
  | true => exact Kt rfl h₁ tk₁ (S.le le)
  | false => exact Kf rfl h₁ tk₁ (S.le le)

theorem do_ret {e : Expr} {pos : Pos} {Φ : Heap → Value → Heap → Prop} (S : St B env ρ G h) (y : Ev prog w A env h e Φ) (K : ∀ v h' tk', Le h h' → Φ h v h' → St B env ρ G h' → Q (.ret v) (mkS s₀ h' tk')) :
    wpAny (model prog w) A (execs (.Return (some e) pos :: rest) env) Q E (mkS s₀ h tk) := by
  refine wpAny_execs_cons (wpAny_Return_some (wpAny_mono (y (mkS s₀ h tk) E (Le.refl _)) (fun v s₁ hv => ?_) fun _ _ e => e))
  obtain ⟨⟨h₁, tk₁, rfl, le⟩, hΦ⟩ := hv
  exact K v h₁ tk₁ le hΦ (S.le le)

/-- a loop over what Src says; the turn may not leave -/
theorem do_for {x : Str} {px pos : Pos} {iter : Expr} {body : List Stmt} {xs : List D} (ok : EnvOk env) (S : St B env ρ G h) (hx : VarOk env x) (hsrc : Src prog w A env h (fun b => ∃ o, B b = some o) iter xs)
    (J : Nat → (Str → Option D) → (Addr → Option Con) → Prop) (h0 : J 0 ρ G)
    (turn : ∀ i d B' ρ₁ G₁ h₁ tk₁, xs[i]? = some d → J i ρ₁ G₁ → (∀ a o, B a = some o → B' a = some o) → St B' env (upd ρ₁ x d) G₁ h₁ → ∀ E' : Value → Shared → Prop,
      wpAny (model prog w) A (execs body env) (fun f s' => f = .next ∧ ∃ ρ₂ G₂ h₂ tk₂, s' = mkS s₀ h₂ tk₂ ∧ St B' env ρ₂ G₂ h₂ ∧ J (i + 1) ρ₂ G₂) E' (mkS s₀ h₁ tk₁))
    (K : ∀ ρ' G' h' tk', J xs.length ρ' G' → St B env ρ' G' h' → wpAny (model prog w) A (execs rest env) Q E (mkS s₀ h' tk'))
    (hs : ∀ v, foldedSetIterable iter env v = pure v := by intro _; rfl) :
    wpAny (model prog w) A (execs (.For (.Name x px) iter body [] pos :: rest) env) Q E (mkS s₀ h tk) := by
  refine wpAny_execs_cons (wpAny_For (wpAny_mono (hsrc (mkS s₀ h tk) E (Le.refl _)) (fun xv s₁ h₁ => ?_) fun _ _ e => e) hs)
  obtain ⟨⟨hA, tkA, rfl, leA⟩, hit⟩ := h₁
  refine wpAny_mono (hit E) (fun it s₂ h₂ => ?_) fun _ _ e => e
  obtain ⟨⟨hB, tkB, rfl, leB⟩, I, fp, Sx, rfl, Wk, hS, hI, hfp, hlive⟩ := h₂
  have SA := S.le leA
  have SB := SA.le leB
  have f : Off B env G I := SA.new hI
  refine codeAny_forLoop (fun k s' => ∃ i ρ₁ G₁ h₁ tk₁, s' = mkS s₀ h₁ tk₁ ∧ i ≤ xs.length ∧ k = xs.length + 1 - i ∧ Sx i h₁ ∧ St B env ρ₁ G₁ h₁ ∧ G₁ I = none ∧ J i ρ₁ G₁) ?_ (xs.length + 1) ⟨0, ρ, G, hB, tkB, rfl, Nat.zero_le _, rfl, hS, SB, f.g, h0⟩
  rintro k s' ⟨i, ρ₁, G₁, h₁, tk₁, rfl, hi, rfl, hSi, Si, hGI, hJ⟩
  have fi : Off B env G₁ I := ⟨f.b, hGI, f.l, f.c⟩
  by_cases hlt : i < xs.length
  · refine Wk.item i _ _ _ hlt hSi fun v hN tkN ⟨d, hd, hv⟩ hSN kN => ?_
    have keepN : ∀ b o, b ≠ I → h₁.get? b = some o → hN.get? b = some o := fun b o hb e => kN b o (fun q => hb (List.mem_singleton.mp q)) e
    have SN : St B env ρ₁ G₁ hN := Si.off fun b o hb e => keepN b o (fun q => by
      subst q
      rcases hb with q | q | q | ⟨y, q⟩
      · exact q f.b
      · exact q hGI
      · exact f.l q
      · exact f.c _ _ q rfl) e
    obtain ⟨oI, hoI⟩ := hlive _ _ hSN
    have SF := SN.freeze fi hoI
    refine wpAny_assign_Name (store_rule (s₀ := s₀) ok SF hx hv fun hC tkC SC => ?_)
    refine wpAny_mono (turn i d (upd B I oI) ρ₁ G₁ hC tkC hd hJ (fun a o e => by rw [upd_ne (fun q => by rw [q, f.b] at e; cases e)]; exact e) SC _) (fun fl s₃ h₃ => ?_) fun _ _ e => e
    obtain ⟨rfl, ρ₂, G₂, hE, tkE, rfl, SE, hJ'⟩ := h₃
    refine ⟨xs.length + 1 - (i + 1), by omega, i + 1, ρ₂, G₂, hE, tkE, rfl, hlt, rfl, ?_, SE.thaw f.b fun b o _ e => e, ?_, hJ'⟩
    · refine Wk.frame _ _ _ hSN fun b hb o e => ?_
      rcases hfp b hb with rfl | ⟨o', q⟩
      · rw [hoI] at e; cases e
        exact SE.kept _ _ upd_self
      · have nb : b ≠ I := fun r => by rw [r, f.b] at q; cases q
        have e1 := SN.kept _ _ q
        rw [e] at e1; cases e1
        exact SE.kept _ _ (by rw [upd_ne nb]; exact q)
    · cases q : G₂ I with
      | none => rfl
      | some c => have := (SE.own _ _ q).2; rw [upd_self] at this; cases this
  · have hin : i = xs.length := by omega
    subst hin
    refine Wk.done _ _ _ hSi fun hN tkN kN => wpAny_execs_nil ?_
    refine K ρ₁ G₁ hN tkN hJ (Si.off fun b o hb e => kN b o (fun q => ?_) e)
    have q := List.mem_singleton.mp q
    subst q
    rcases hb with q | q | q | ⟨y, q⟩
    · exact q f.b
    · exact q hGI
    · exact f.l q
    · exact f.c _ _ q rfl
end
end Mine

namespace Mine
section
variable {prog : Program} {w : World} {A : Around} {B : Addr → Option Obj} {env : Env} {ρ : Str → Option D} {G : Addr → Option Con} {h : Heap} {s₀ : Shared} {tk : Nat} {E : Value → Shared → Prop} {Q : Flow → Shared → Prop} {rest : List Stmt}

/-- y = [.. for x in ..], a local name on the comprehension's own line: the store comes before the comprehension's names go -/
theorem do_comp {elt iter : Expr} {x y : Str} {px py pos spos : Pos} {ifs : List Expr} {scope : Scope} {cl : List (Str × Addr)} {xs : List D}
    (ok : EnvOk env) (S : St B env ρ G h) (hy : VarOk env y) (hsrc : Src prog w A env h (fun b => ∃ o, h.get? b = some o) iter xs)
    (p : Nat → Bool) (Φ : Nat → Heap → Value → Heap → Prop) (J : Nat → List Value → (Addr → Option Obj) → Prop)
    (htest : ∀ i d C h₂, xs[i]? = some d → Le h h₂ → Has (cEnv scope cl C env) h₂ x d → TstAll prog w A (cEnv scope cl C env) h₂ ifs (p i))
    (helt : ∀ i d C h₂, xs[i]? = some d → p i = true → Le h h₂ → Has (cEnv scope cl C env) h₂ x d → Ev prog w A (cEnv scope cl C env) h₂ elt (Φ i))
    (j0 : ∀ g, J 0 [] g)
    (jskip : ∀ i ys (g g' : Addr → Option Obj), i < xs.length → p i = false → J i ys g → (∀ b o, g b = some o → g' b = some o) → J (i + 1) ys g')
    (jstep : ∀ i ys y h₁ h' (g g' : Addr → Option Obj), i < xs.length → p i = true → J i ys g → Φ i h₁ y h' → Le h h₁ → Le h₁ h' → (∀ b o, g b = some o → h₁.get? b = some o) → (∀ b o, g b = some o → g' b = some o) →
      (∀ b o, h₁.get? b = none → h'.get? b = some o → g' b = some o) → J (i + 1) (ys ++ [y]) g')
    (K : ∀ Dd C ys (g : Addr → Option Obj) h', Le h h' → h.get? Dd = none → h.get? C = none → Dd ≠ C → h'.PlainList Dd ys.toArray → J xs.length ys g → (∀ b o, g b = some o → h'.get? b = some o ∧ b ≠ Dd ∧ b ≠ C) →
      ∃ G', G' C = none ∧ St B env ρ G' h' ∧ ∀ h'' tk'', St B env (upd ρ y (.ref Dd)) G' h'' → wpAny (model prog w) A (execs rest env) Q E (mkS s₀ h'' tk''))
    (hsz : xs.length ≤ sizeLine)
    (hsw : swapsWith (.ListComp elt [⟨.Name x px, iter, ifs, 0⟩] scope pos) (some (.Name y py)) spos.line env = pure true)
    (hclos : closureFor scope env = pure cl) (hkind : scope.kind = .function)
    (hnames : ∀ y ∈ scope.names, y.2 = .local → scope.names.lookup y.1 = some .local) (hs : ∀ v, foldedSetIterable iter env v = pure v) (hx : XKind scope cl env x) :
    wpAny (model prog w) A (execs (.Assign [.Name y py] (.ListComp elt [⟨.Name x px, iter, ifs, 0⟩] scope pos) spos :: rest) env) Q E (mkS s₀ h tk) := by
  refine wpAny_execs_cons ?_
  rw [exec_Assign_Name_used _ _ _ _ hsw]
  refine wpAny_bind (wpAny_standAt (wpAny_bind ?_))
  show wpAny _ A (do let _ ← comprehension (.ListComp elt [⟨.Name x px, iter, ifs, 0⟩] scope pos) scope env _ (newList []) false (eval iter env) (some (assign (.Name y py) env))) _ _ _
  refine wpAny_bind (wpAny_mono (comp_use (s := mkS s₀ h tk) (Q := fun _ s' => wpAny (model prog w) A (execs rest env) Q E s') (some (assign (.Name y py) env)) ok hsrc (Le.refl _) hclos hkind hnames hs hx p Φ J htest helt j0 jskip jstep ?_ hsz) (fun _ s' hq => wpAny_pure (wpAny_pure hq)) fun _ _ e => e)
  intro Dd C m ys g s' kk hD hC hDC hn hl hJ hg
  obtain ⟨h', tk', rfl, le⟩ := kk
  obtain ⟨G', hGC, S', K'⟩ := K Dd C ys g h' le hD hC hDC hl hJ hg
  have f := S.new hC
  obtain ⟨oC, es, ep, hoC, r⟩ := id hn
  have SF := S'.freeze ⟨f.b, hGC, f.l, f.c⟩ hoC
  show wpAny _ A (assign (.Name y py) env (.ref Dd)) _ _ _
  refine wpAny_assign_Name (store_rule (s₀ := s₀) ok SF hy (d := .ref Dd) rfl fun h₂ tk₂ S₂ => ?_)
  refine ⟨m, ⟨oC, es, ep, S₂.kept _ _ upd_self, r⟩, fun h₃ sb => K' h₃ tk₂ (S₂.thaw f.b fun b o hb e => sb.extBut b o hb e)⟩

theorem do_compI {elt iter : Expr} {x y : Str} {px py pos spos : Pos} {ifs : List Expr} {scope : Scope} {cl : List (Str × Addr)} {xs : List D}
    (ok : EnvOk env) (S : St B env ρ G h) (hy : VarOk env y) (hsrc : Src prog w A env h (fun b => ∃ o, h.get? b = some o) iter xs) (p : Nat → Bool) (f : Nat → Int)
    (htest : ∀ i d C h₂, xs[i]? = some d → Le h h₂ → Has (cEnv scope cl C env) h₂ x d → TstAll prog w A (cEnv scope cl C env) h₂ ifs (p i))
    (helt : ∀ i d C h₂, xs[i]? = some d → p i = true → Le h h₂ → Has (cEnv scope cl C env) h₂ x d → EvI prog w A (cEnv scope cl C env) h₂ elt (f i))
    (K : ∀ a h' tk', h.get? a = none → Off B env G a → St B env (upd ρ y (.ref a)) (upd G a (.lp (((List.range xs.length).filter p).map f))) h' → wpAny (model prog w) A (execs rest env) Q E (mkS s₀ h' tk'))
    (hsz : xs.length ≤ sizeLine)
    (hsw : swapsWith (.ListComp elt [⟨.Name x px, iter, ifs, 0⟩] scope pos) (some (.Name y py)) spos.line env = pure true)
    (hclos : closureFor scope env = pure cl) (hkind : scope.kind = .function)
    (hnames : ∀ y ∈ scope.names, y.2 = .local → scope.names.lookup y.1 = some .local) (hs : ∀ v, foldedSetIterable iter env v = pure v) (hx : XKind scope cl env x) :
    wpAny (model prog w) A (execs (.Assign [.Name y py] (.ListComp elt [⟨.Name x px, iter, ifs, 0⟩] scope pos) spos :: rest) env) Q E (mkS s₀ h tk) :=
  do_comp ok S hy hsrc p (fun i _ y _ => ∃ t, y = .int (f i) t) (fun i ys _ => IntsAre ys (((List.range i).filter p).map f)) htest helt (fun _ => .nil)
    (fun i ys g g' _ hp hj _ => by
      rw [List.range_succ, List.filter_append]
      simpa [hp] using hj)
    (fun i ys y h h' g g' _ hp hj ⟨t, e⟩ _ _ _ _ _ => by
      subst e
      rw [List.range_succ, List.filter_append, List.map_append]
      simpa [hp] using hj.append (.cons _ _ .nil))
    (fun Dd C ys g h' le hD hC hDC hl hJ _ => ⟨upd G Dd (.lp (((List.range xs.length).filter p).map f)), by rw [upd_ne (Ne.symm hDC)]; exact (S.new hC).g, (S.le le).add (S.new hD) ⟨ys, hl, hJ⟩, fun h'' tk'' S' => K Dd h'' tk'' hD (S.new hD) S'⟩)
    hsz hsw hclos hkind hnames hs hx

theorem do_compR {elt iter : Expr} {x y : Str} {px py pos spos : Pos} {scope : Scope} {cl : List (Str × Addr)} {xs : List D} {mk : List Int → Con} (hmk : ∀ ns h a, LP h a ns → (mk ns).at h a)
    (ok : EnvOk env) (S : St B env ρ G h) (hy : VarOk env y) (hsrc : Src prog w A env h (fun b => ∃ o, h.get? b = some o) iter xs) (f : Nat → List Int)
    (helt : ∀ i d C h₂, xs[i]? = some d → Le h h₂ → Has (cEnv scope cl C env) h₂ x d → EvN prog w A (cEnv scope cl C env) h₂ elt (f i))
    (K : ∀ a as h' tk', h.get? a = none → Off B env G a → as.Nodup → a ∉ as → as.length = xs.length → (∀ b ∈ as, h.get? b = none ∧ Off B env G b) →
      St B env (upd ρ y (.ref a)) (upd (putRows mk G as ((List.range xs.length).map f)) a (.lr as)) h' → wpAny (model prog w) A (execs rest env) Q E (mkS s₀ h' tk'))
    (hsz : xs.length ≤ sizeLine)
    (hsw : swapsWith (.ListComp elt [⟨.Name x px, iter, [], 0⟩] scope pos) (some (.Name y py)) spos.line env = pure true)
    (hclos : closureFor scope env = pure cl) (hkind : scope.kind = .function)
    (hnames : ∀ y ∈ scope.names, y.2 = .local → scope.names.lookup y.1 = some .local) (hs : ∀ v, foldedSetIterable iter env v = pure v) (hx : XKind scope cl env x) :
    wpAny (model prog w) A (execs (.Assign [.Name y py] (.ListComp elt [⟨.Name x px, iter, [], 0⟩] scope pos) spos :: rest) env) Q E (mkS s₀ h tk) := by
  refine do_comp ok S hy hsrc (fun _ => true) (fun i h y h' => ∃ a, y = .ref a ∧ h.get? a = none ∧ LP h' a (f i))
    (fun i ys g => ∃ as : List Addr, ys = as.map Value.ref ∧ as.length = i ∧ as.Nodup ∧ (∀ b ∈ as, h.get? b = none) ∧ ∀ (j : Nat) (b : Addr), as[j]? = some b → LPg g b (f j))
    (fun i d C h₂ _ _ _ => tstAll_nil) (fun i d C h₂ hd _ hl H => helt i d C h₂ hd hl H) (fun _ => ⟨[], rfl, rfl, .nil, (fun _ h => nomatch h), fun j b e => by simp at e⟩) (fun _ _ _ _ _ h => nomatch h) ?_ ?_ hsz hsw hclos hkind hnames hs hx
  · rintro i ys y h₁ h' g g' hi _ ⟨as, rfl, hl, nd, fr, rw'⟩ ⟨a, rfl, ha, L⟩ hs1 hs2 hg hg' hnew
    have hin : ∀ b ∈ as, ∃ o, g b = some o := fun b hb => by
      obtain ⟨j, hj, rfl⟩ := List.mem_iff_getElem.mp hb
      obtain ⟨vs, n, e, _⟩ := rw' j _ (List.getElem?_eq_getElem hj)
      exact ⟨_, e⟩
    have hna : a ∉ as := fun q => by obtain ⟨o, e⟩ := hin a q; rw [hg _ _ e] at ha; cases ha
    refine ⟨as ++ [a], by simp, by simp [hl], ?_, ?_, ?_⟩
    · rw [List.nodup_append]
      exact ⟨nd, List.nodup_cons.mpr ⟨List.not_mem_nil, List.nodup_nil⟩, fun b hb c hc e => by rw [List.mem_singleton.mp hc] at e; exact hna (e ▸ hb)⟩
    · intro b hb
      rcases List.mem_append.mp hb with hb | hb
      · exact fr b hb
      · rw [List.mem_singleton.mp hb]; exact hs1.none ha
    · intro j b hj
      rcases Nat.lt_trichotomy j as.length with q | q | q
      · rw [List.getElem?_append_left q] at hj
        exact lpg_up (rw' j b hj) fun o e => hg' _ _ e
      · subst q
        simp at hj; subst hj
        rw [hl]; exact lpg_of L fun o e => hnew _ _ ha e
      · have : (as ++ [a])[j]? = none := List.getElem?_eq_none (by simp; omega)
        rw [this] at hj; cases hj
  · rintro Dd C ys g h' le hD hC hDC hl ⟨as, rfl, hla, nd, fr, rw'⟩ hg
    have hin : ∀ b ∈ as, ∃ o, g b = some o := fun b hb => by
      obtain ⟨j, hj, rfl⟩ := List.mem_iff_getElem.mp hb
      obtain ⟨vs, n, e, _⟩ := rw' j _ (List.getElem?_eq_getElem hj)
      exact ⟨_, e⟩
    have hDa : Dd ∉ as := fun q => by obtain ⟨o, e⟩ := hin _ q; exact (hg _ _ e).2.1 rfl
    have hCa : C ∉ as := fun q => by obtain ⟨o, e⟩ := hin _ q; exact (hg _ _ e).2.2 rfl
    have hr : RowsP h' as ((List.range xs.length).map f) := ⟨by simp [hla], fun j b r hb hr => by
      have hj : j < xs.length := by rw [← hla]; exact (List.getElem?_eq_some_iff.mp hb).1
      rw [List.getElem?_map, List.getElem?_range hj] at hr
      cases hr
      exact lp_of_g (rw' j b hb) fun o e => (hg _ _ e).1⟩
    have f := S.new hD
    refine ⟨upd (putRows mk G as ((List.range xs.length).map _)) Dd (.lr as), ?_, (st_rows hmk (S.le le) nd (fun b hb => S.new (fr b hb)) hr).add ⟨f.b, by rw [putRows_off hDa]; exact f.g, f.l, f.c⟩ hl,
      fun h'' tk'' S' => K Dd as h'' tk'' hD f nd hDa hla (fun b hb => ⟨fr b hb, S.new (fr b hb)⟩) S'⟩
    rw [upd_ne (Ne.symm hDC), putRows_off hCa]; exact (S.new hC).g
end

/-! lists with lists in them -/
section
variable {prog : Program} {w : World} {A : Around} {env : Env} {h₁ : Heap}
theorem lr_new {h : Heap} {as : List Addr} : LR (h.push { cls := .type "list", data := .seq (as.map Value.ref).toArray }) h.objs.size as := ⟨_, Heap.get?_push_size _ rfl⟩
/-- [e], e a new list -/
theorem ev_listR {pos : Pos} {e : Expr} {ns : List Int} (y : EvN prog w A env h₁ e ns) (he : starEach [e] env = [(false, eval e env)] := by first | exact star_name | exact star_bin | exact star_call | exact star_comp | exact star_const | exact star_sub | exact star_ife | exact star_list) : EvRows prog w A env h₁ (.List [e] pos) [ns] := fun s E hk =>
  List_ (args_cons (wpAny_mono (y s E hk) (fun v s₁ hv => args_nil (by
    obtain ⟨k₁, b, rfl, hb, L⟩ := hv
    obtain ⟨o, ho⟩ := L.li.some
    refine wpAny_newObj_type ⟨keeps_trans k₁ ⟨_, s₁.toks, rfl, Le.push _ _⟩, s₁.heap.objs.size, [b], rfl, (keeps_le k₁).none (none_size _), ?_, ?_, ?_, lr_new (h := s₁.heap) (as := [b]), rfl, ?_⟩ (by show [Value.ref b].toArray.size ≤ sizeLine; simp [sizeLine])
    · intro q; exact Nat.lt_irrefl _ (by have := Heap.lt_size ho; rwa [← List.mem_singleton.mp q] at this)
    · exact List.nodup_cons.mpr ⟨List.not_mem_nil, List.nodup_nil⟩
    · intro c hc; rw [List.mem_singleton.mp hc]; exact hb
    · intro i c r hc hr
      cases i with
      | zero => simp at hc hr; subst hc hr; exact L.le (Le.push _ _)
      | succ i => simp at hc)) fun _ _ e => e) he)
theorem rows_le {h h' : Heap} {as rows} (x : RowsP h as rows) (k : Le h h') : RowsP h' as rows := ⟨x.1, fun i b r h1 h2 => (x.2 i b r h1 h2).le k⟩
theorem ev_catR {l r : Expr} {pos : Pos} {ns ms : List (List Int)} (x : EvRows prog w A env h₁ l ns) (y : EvRows prog w A env h₁ r ms) (hz : ns.length + ms.length ≤ sizeLine) : EvRows prog w A env h₁ (.BinOp l .Add r pos) (ns ++ ms) := fun s E k =>
  wpAny_BinOp (Ev.two x y k fun u v s₁ s₂ k₁ ⟨a, as, e, M⟩ k₂ ⟨b, bs, e', N⟩ => by
    subst e e'
    have ha : s₂.heap.IsList a (as.map Value.ref).toArray := (M.lr.le (keeps_le k₂)).isList
    have hb : s₂.heap.IsList b (bs.map Value.ref).toArray := N.lr.isList
    have ex : ∀ c ∈ as ++ bs, ∃ o, s₂.heap.get? c = some o := fun c hc => by
      rcases List.mem_append.mp hc with hc | hc
      · obtain ⟨j, hj, rfl⟩ := List.mem_iff_getElem.mp hc
        have hj' : j < ns.length := M.rows.1 ▸ hj
        exact ((M.rows.2 j _ _ (List.getElem?_eq_getElem hj) (List.getElem?_eq_getElem hj')).le (keeps_le k₂)).li.some
      · obtain ⟨j, hj, rfl⟩ := List.mem_iff_getElem.mp hc
        have hj' : j < ms.length := N.rows.1 ▸ hj
        exact (N.rows.2 j _ _ (List.getElem?_eq_getElem hj) (List.getElem?_eq_getElem hj')).li.some
    refine cat_step ha hb (by simp only [List.length_map]; rw [M.rows.1, N.rows.1]; exact hz) ⟨keeps_trans (keeps_trans k₁ k₂) ⟨_, s₂.toks, rfl, Le.push _ _⟩, s₂.heap.objs.size, as ++ bs, rfl, (keeps_le (keeps_trans k₁ k₂)).none (none_size _), ?_, ?_, ?_, ?_, ?_⟩
    · intro q; obtain ⟨o, e⟩ := ex _ q; exact Nat.lt_irrefl _ (Heap.lt_size e)
    · rw [List.nodup_append]
      refine ⟨M.nodup, N.nodup, fun c hc d hd e => ?_⟩
      obtain ⟨j, hj, rfl⟩ := List.mem_iff_getElem.mp hc
      have hj' : j < ns.length := M.rows.1 ▸ hj
      obtain ⟨o, ho⟩ := (M.rows.2 j _ _ (List.getElem?_eq_getElem hj) (List.getElem?_eq_getElem hj')).li.some
      have := N.fresh d hd
      rw [← e, ho] at this; cases this
    · intro c hc
      rcases List.mem_append.mp hc with hc | hc
      · exact M.fresh c hc
      · exact (keeps_le k₁).none (N.fresh c hc)
    · have := lr_new (h := s₂.heap) (as := as ++ bs)
      rwa [List.map_append] at this
    · refine ⟨by simp [M.rows.1, N.rows.1], fun i c r hc hr => ?_⟩
      by_cases q : i < as.length
      · rw [List.getElem?_append_left q] at hc
        rw [List.getElem?_append_left (M.rows.1 ▸ q)] at hr
        exact ((M.rows.2 i c r hc hr).le (keeps_le k₂)).le (Le.push _ _)
      · rw [List.getElem?_append_right (Nat.not_lt.mp q)] at hc
        rw [List.getElem?_append_right (by rw [← M.rows.1]; exact Nat.not_lt.mp q), ← M.rows.1] at hr
        exact (N.rows.2 _ c r hc hr).le (Le.push _ _))

/-! calls of the text's functions -/
def EvD (prog : Program) (w : World) (A : Around) (env : Env) (h₁ : Heap) (e : Expr) (d : D) : Prop := Ev prog w A env h₁ e fun _ v _ => d.is v
theorem EvI.d {e k} (x : EvI prog w A env h₁ e k) : EvD prog w A env h₁ e (.int k) := x
theorem EvA.d {e a} (x : EvA prog w A env h₁ e a) : EvD prog w A env h₁ e (.ref a) := x
inductive DsAre : List D → List Value → Prop
  | nil : DsAre [] []
  | cons {d v ds vs} : d.is v → DsAre ds vs → DsAre (d :: ds) (v :: vs)
inductive ArgsAre (prog : Program) (w : World) (A : Around) (env : Env) (h₁ : Heap) : List Expr → List D → Prop
  | nil : ArgsAre prog w A env h₁ [] []
  | cons {e es d ds} : EvD prog w A env h₁ e d → starEach (e :: es) env = (false, eval e env) :: starEach es env → ArgsAre prog w A env h₁ es ds → ArgsAre prog w A env h₁ (e :: es) (d :: ds)
theorem args_are {pos : Pos} : ∀ {es : List Expr} {ds : List D}, ArgsAre prog w A env h₁ es ds → ∀ (s : Shared) (E : Value → Shared → Prop), Le h₁ s.heap →
    wpAny (model prog w) A (spliced (backTo pos (starEach es env))) (fun vs s' => Keeps s s' ∧ DsAre ds vs) E s
  | [], _, .nil, s, E, _ => args_nil ⟨keeps_refl s, .nil⟩
  | _ :: _, _, .cons y he r, s, E, k => args_cons (wpAny_mono (y s E k) (fun v s₁ hv => wpAny_mono (args_are r s₁ E (k.trans (keeps_le hv.1))) (fun vs s₂ hs => ⟨keeps_trans hv.1 hs.1, .cons hv.2 hs.2⟩) fun _ _ e => e) fun _ _ e => e) he

theorem ev_fn {x : Str} {np pos : Pos} {e : Expr} {es : List Expr} {ds : List D} {f : Addr} {o : Obj} {fd : FuncData} {Φ : Heap → Value → Heap → Prop} (ok : EnvOk env) (H : Gf h₁ x (.ref f)) (ho : h₁.get? f = some o) (hd : o.data = .func fd)
    (y : ArgsAre prog w A env h₁ (e :: es) ds)
    (C : ∀ s vs, Le h₁ s.heap → DsAre ds vs → codeAny (model prog w) A (.call (.ref f) ⟨vs, []⟩) (fun r s' => ∃ v, r = .ok (.ret v) ∧ Keeps s s' ∧ Φ s.heap v s'.heap) s)
    (hΦ : ∀ h h' v h'', Le h h' → Φ h' v h'' → Φ h v h'')
    (hk : env.kindOf x = some .globalImplicit := by rfl) (he : starEach (e :: es) env = (false, eval e env) :: starEach es env := by rfl) (hdb : (x == ("__debug__" : Str)) = false := by decide) :
    Ev prog w A env h₁ (.Call (.Name x np) (e :: es) [] pos) Φ := fun s E k => by
  refine Call_ (gf_name ok hk (H.le k) (callWith_def hd (wpAny_mono (args_are y s E k) (fun vs s₁ hs => ⟨keeps_le hs.1 _ _ (k _ _ ho), wpAny_call (codeAny_mono (C s₁ vs (k.trans (keeps_le hs.1)) hs.2) fun r s' hr => ?_)⟩) fun _ _ e => e) he) hdb)
  obtain ⟨v, rfl, kk, hv⟩ := hr
  exact ⟨keeps_trans hs.1 kk, hΦ _ _ _ _ (keeps_le hs.1) hv⟩
/-- one argument, a new list -/
theorem ev_fnN {x : Str} {np pos : Pos} {e : Expr} {ns : List Int} {f : Addr} {o : Obj} {fd : FuncData} {Φ : Heap → Value → Heap → Prop} (ok : EnvOk env) (H : Gf h₁ x (.ref f)) (ho : h₁.get? f = some o) (hd : o.data = .func fd)
    (y : EvN prog w A env h₁ e ns)
    (C : ∀ s a, Le h₁ s.heap → LP s.heap a ns → codeAny (model prog w) A (.call (.ref f) ⟨[.ref a], []⟩) (fun r s' => ∃ v, r = .ok (.ret v) ∧ Keeps s s' ∧ Φ s.heap v s'.heap) s)
    (hΦ : ∀ h h' v h'', Le h h' → Φ h' v h'' → Φ h v h'')
    (hk : env.kindOf x = some .globalImplicit := by rfl) (he : starEach [e] env = [(false, eval e env)] := by first | exact star_name | exact star_bin | exact star_call | exact star_comp | exact star_const | exact star_sub | exact star_ife | exact star_list) (hdb : (x == ("__debug__" : Str)) = false := by decide) :
    Ev prog w A env h₁ (.Call (.Name x np) [e] [] pos) Φ := fun s E k => by
  refine Call_ (gf_name ok hk (H.le k) (callWith_def hd (args_cons (wpAny_mono (y s E k) (fun v s₁ hv => args_nil ?_) fun _ _ e => e) he) he) hdb)
  obtain ⟨k₁, a, rfl, hn, L⟩ := hv
  refine ⟨keeps_le k₁ _ _ (k _ _ ho), wpAny_call (codeAny_mono (C s₁ a (k.trans (keeps_le k₁)) L) fun r s' hr => ?_)⟩
  obtain ⟨v, rfl, kk, hv⟩ := hr
  exact ⟨keeps_trans k₁ kk, hΦ _ _ _ _ (keeps_le k₁) hv⟩

/-! entering a function -/
def bindD : List (Str × D) → (Str → Option D) → Str → Option D
  | [], ρ => ρ
  | (n, d) :: r, ρ => bindD r (upd ρ n d)
def BindInv (k : Str → Option NameKind) (ρ : Str → Option D) (m cm : Str → Option Value) : Prop := ∀ x d, ρ x = some d → (k x = some .local → ∃ v, m x = some v ∧ d.is v) ∧ (k x ≠ some .local → ∃ v, cm x = some v ∧ d.is v)
theorem bind_inv (k : Str → Option NameKind) : ∀ (ns : List Str) (ds : List D) (vs : List Value) (ρ : Str → Option D) (m cm : Str → Option Value), DsAre ds vs → BindInv k ρ m cm → BindInv k (bindD (ns.zip ds) ρ) (bindL k (ns.zip vs) m) (bindC k (ns.zip vs) cm)
  | [], ds, vs, ρ, m, cm, _, I => by simpa [bindD, bindL, bindC] using I
  | _ :: _, _, _, ρ, m, cm, .nil, I => by simpa [bindD, bindL, bindC] using I
  | n :: ns, _, _, ρ, m, cm, .cons (d := d) (v := v) (ds := ds) (vs := vs) hd r, I => by
    simp only [List.zip_cons_cons, bindD, bindL, bindC]
    refine bind_inv k ns ds vs _ _ _ r fun x d' e => ?_
    by_cases q : x = n
    · subst q
      rw [upd_self] at e; cases e
      exact ⟨fun hk => ⟨v, by rw [if_pos hk]; simp, hd⟩, fun hk => ⟨v, by rw [if_neg hk]; simp, hd⟩⟩
    · rw [upd_ne q] at e
      obtain ⟨I1, I2⟩ := I x d' e
      refine ⟨fun hk => ?_, fun hk => ?_⟩
      · obtain ⟨v', e1, e2⟩ := I1 hk
        refine ⟨v', ?_, e2⟩
        split
        · simp [q, e1]
        · exact e1
      · obtain ⟨v', e1, e2⟩ := I2 hk
        refine ⟨v', ?_, e2⟩
        split
        · exact e1
        · simp [q, e1]

theorem enter {s : Shared} {f : Addr} {o : Obj} {fd : FuncData} {body : List Stmt} {vs : List Value} {ds : List D} {names : List Str} {Φ : Value → Heap → Prop}
    (hroom : A.depth < recursionLimit) (ho : s.heap.get? f = some o) (hd : o.data = .func fd) (hlim : s.heap.NoLimit) (hcd : s.heap.CodeRec fd.code fd.qualname) (hbody : fd.body = .stmts body) (hbind : bindArgs fd ⟨vs, []⟩ = pure (names.zip vs)) (hclo : fd.closure = [])
    (hkind : ∀ n, ∀ x ∈ names.zip vs, fd.scope.names.lookup x.1 = some .local ∨ (fd.scope.names.lookup x.1 = some .cell ∧ ((cellsFrom n fd.scope.names []).lookup x.1).isSome = true))
    (hds : DsAre ds vs) (hco : fd.scope.isCoroutine = false) (hgen : fd.scope.isGenerator = false) (hk : fd.scope.kind = .function)
    (K : ∀ h tk, St s.heap.get? (callEnvC fd s.heap.objs.size f) (bindD (names.zip ds) fun _ => none) (fun _ => none) h → ∀ E : Value → Shared → Prop,
      wpAny (model prog w) (A.deeper (callEnvC fd s.heap.objs.size f)) (execs body (callEnvC fd s.heap.objs.size f)) (fun fl s' => ∃ v h' tk', fl = .ret v ∧ s' = mkS s h' tk' ∧ Le s.heap h' ∧ Φ v h') E (mkS s h tk)) :
    codeAny (model prog w) A (.call (.ref f) ⟨vs, []⟩) (fun r s' => ∃ v, r = .ok (.ret v) ∧ Keeps s s' ∧ Φ v s'.heap) s := by
  refine codeAny_call_cells hroom ho hd hlim hcd hbody hbind hclo (hkind _) (fun s₁ x => ?_) hco hgen hk
  obtain ⟨h, tk, rfl, le⟩ := x.done
  have lt : ∀ b, s.heap.objs.size ≤ b → s.heap.get? b = none := fun b hb => by
    cases e : s.heap.get? b with
    | none => rfl
    | some o => exact absurd (Heap.lt_size e) (Nat.not_lt.mpr hb)
  have BI := bind_inv (callEnvC fd s.heap.objs.size f).kindOf names ds vs (fun _ => none) (fun _ => none) (fun _ => none) hds (fun x d e => nomatch e)
  refine wpAny_mono (K h tk ?_ _) (fun fl s' hr => ?_) fun _ _ e => e
  · exact
    { kept := le
      ns := ⟨_, x.toInCall.ns, fun y d e hy => (BI y d e).1 hy⟩
      cell := fun y c l => ⟨_, x.cell y c l, fun d e hy => by
        obtain ⟨v, e1, e2⟩ := (BI y d e).2 (by rw [hy]; exact fun q => nomatch q)
        exact ⟨v, e1, e2⟩⟩
      apart := x.apart
      offL := ⟨lt _ (Nat.le_refl _), rfl⟩
      offC := fun y c l => ⟨Nat.ne_of_gt (x.above y c (mem_of_lookup l)), lt _ (Nat.le_of_lt (x.above y c (mem_of_lookup l))), rfl⟩
      own := fun _ _ e => nomatch e }
  · obtain ⟨v, h', tk', rfl, rfl, le', hΦ⟩ := hr
    exact ⟨v, rfl, ⟨h', tk', rfl, le'⟩, hΦ⟩
end
end Mine

namespace Mine

/-! the program's parts, by their places -/
def stmtAt (i : Nat) : Stmt := PySem.Challenge.pw_mr0387_03.main.body.getD i (.Pass default)
def fnBody : Stmt → List Stmt
  | .FunctionDef _ _ b _ _ _ _ _ _ _ => b
  | _ => []
def fnArgs : Stmt → Arguments
  | .FunctionDef _ a _ _ _ _ _ _ _ _ => a
  | _ => default
def fnScope : Stmt → Scope
  | .FunctionDef _ _ _ _ _ _ s _ _ _ => s
  | _ => default
def tEnv (scope : Scope) (L : Addr) (q : Str) (f : Addr) (cd : Value) : Env :=
  { scope, locals := L, globals := mainGlobals, cells := cellsFrom (L + 1) scope.names [], qual := q, func := some f, code := cd, frame := some L, builtins := builtinsNs }

section
variable {prog : Program} {w : World} {A : Around} {B : Addr → Option Obj} {env : Env} {ρ : Str → Option D} {G : Addr → Option Con} {h : Heap} {s₀ : Shared} {tk : Nat} {E : Value → Shared → Prop} {Q : Flow → Shared → Prop} {rest : List Stmt}

def EndAt (B : Addr → Option Obj) (env : Env) (s₀ : Shared) (J : (Str → Option D) → (Addr → Option Con) → Prop) (s' : Shared) : Prop := ∃ ρ' G' h' tk', s' = mkS s₀ h' tk' ∧ St B env ρ' G' h' ∧ J ρ' G'
theorem do_while {test : Expr} {body orelse : List Stmt} {pos : Pos} (I : Nat → (Str → Option D) → (Addr → Option Con) → Prop) (J : (Str → Option D) → (Addr → Option Con) → Prop) (n : Nat) (S : St B env ρ G h) (h0 : I n ρ G)
    (turn : ∀ n ρ₁ G₁ h₁, I n ρ₁ G₁ → St B env ρ₁ G₁ h₁ → ∃ b, Tst prog w A env h₁ test b ∧
      (b = true → ∀ h₂ tk₂, St B env ρ₁ G₁ h₂ → ∀ E' : Value → Shared → Prop, wpAny (model prog w) A (execs body env) (fun f s' => match f with
        | .next => ∃ m, m < n ∧ EndAt B env s₀ (I m) s'
        | .brk => EndAt B env s₀ J s'
        | _ => False) E' (mkS s₀ h₂ tk₂)) ∧
      (b = false → ∀ h₂ tk₂, St B env ρ₁ G₁ h₂ → ∀ E' : Value → Shared → Prop, wpAny (model prog w) A (execs orelse env) (fun f s' => f = .next ∧ EndAt B env s₀ J s') E' (mkS s₀ h₂ tk₂)))
    (K : ∀ ρ' G' h' tk', J ρ' G' → St B env ρ' G' h' → wpAny (model prog w) A (execs rest env) Q E (mkS s₀ h' tk')) :
    wpAny (model prog w) A (execs (.While test body orelse pos :: rest) env) Q E (mkS s₀ h tk) := by
  refine wpAny_execs_cons (wpAny_While ?_)
  have fin : ∀ s', EndAt B env s₀ J s' → wpAny (model prog w) A (execs rest env) Q E s' := by
    rintro s' ⟨ρ', G', h', tk', rfl, S', hJ⟩; exact K ρ' G' h' tk' hJ S'
  refine codeAny_whileLoop (fun n s' => EndAt B env s₀ (I n) s') ?_ n ⟨ρ, G, h, tk, rfl, S, h0⟩
  rintro n s' ⟨ρ₁, G₁, h₁, tk₁, rfl, S₁, hI⟩
  obtain ⟨b, T, Kt, Kf⟩ := turn n ρ₁ G₁ h₁ hI S₁
  refine wpAny_mono (T (mkS s₀ h₁ tk₁) _ (Le.refl _)) (fun r s₂ hr => ?_) fun _ _ e => e
  obtain ⟨⟨h₂, tk₂, rfl, le⟩, rfl⟩ := hr
  cases r with
  | true =>
    simp only [if_true]
    refine wpAny_mono (Kt rfl h₂ tk₂ (S₁.le le) _) (fun f s₃ h₃ => ?_) fun _ _ e => e
    cases f with
    | next => exact h₃
    | brk => exact fin _ h₃
    | cont => exact h₃.elim
    | ret v => exact h₃.elim
  | false =>
    simp only [Bool.false_eq_true, if_false]
    refine wpAny_mono (Kf rfl h₂ tk₂ (S₁.le le) _) (fun f s₃ h₃ => ?_) fun _ _ e => e
    obtain ⟨rfl, h₃⟩ := h₃
    exact fin _ h₃
theorem do_break {pos : Pos} {s : Shared} (K : Q .brk s) : wpAny (model prog w) A (execs (.Break pos :: rest) env) Q E s := wpAny_execs_cons (fun _ _ _ => K)
end

/-! borders of a word -/
def Bd (p : Nat → Int) (m b : Nat) : Prop := b < m ∧ ∀ k, k < b → p k = p (m - b + k)
def IsBl (p : Nat → Int) (m b : Nat) : Prop := Bd p m b ∧ ∀ c, Bd p m c → c ≤ b
theorem Bd.trans {p m b c} (x : Bd p m b) (y : Bd p b c) : Bd p m c := by
  refine ⟨Nat.lt_trans y.1 x.1, fun k hk => ?_⟩
  have hx := x.1; have hy := y.1
  rw [y.2 k hk, x.2 (b - c + k) (by omega)]
  congr 1; omega
theorem Bd.both {p m b c} (x : Bd p m b) (y : Bd p m c) (h : c < b) : Bd p b c := by
  refine ⟨h, fun k hk => ?_⟩
  have hx := x.1
  rw [y.2 k hk, x.2 (b - c + k) (by omega)]
  congr 1; omega
theorem bd_succ {p m b} : Bd p (m + 1) (b + 1) ↔ Bd p m b ∧ p b = p m := by
  constructor
  · rintro ⟨h1, h2⟩
    refine ⟨⟨by omega, fun k hk => ?_⟩, ?_⟩
    · have := h2 k (by omega)
      rw [this]; congr 1; omega
    · have := h2 b (by omega)
      rw [this]; congr 1; omega
  · rintro ⟨⟨h1, h2⟩, h3⟩
    refine ⟨by omega, fun k hk => ?_⟩
    by_cases q : k < b
    · rw [h2 k q]; congr 1; omega
    · have : k = b := by omega
      subst this
      rw [h3]; congr 1; omega
theorem bd_zero {p m} (h : 0 < m) : Bd p m 0 := ⟨h, fun k hk => absurd hk (Nat.not_lt_zero _)⟩
theorem isBl_one {p} : IsBl p 1 0 := ⟨bd_zero (by omega), fun c hc => by have := hc.1; omega⟩
theorem isBl_hit {p m b} (x : Bd p m b) (hm : ∀ c, Bd p m c → b < c → p c ≠ p m) (e : p b = p m) : IsBl p (m + 1) (b + 1) := by
  refine ⟨bd_succ.mpr ⟨x, e⟩, fun c hc => ?_⟩
  cases c with
  | zero => omega
  | succ c =>
    have := bd_succ.mp hc
    by_cases q : b < c
    · exact absurd this.2 (hm c this.1 q)
    · omega
theorem isBl_miss {p m} (h : 0 < m) (hm : ∀ c, Bd p m c → 0 < c → p c ≠ p m) (e : p 0 ≠ p m) : IsBl p (m + 1) 0 := by
  refine ⟨bd_zero (by omega), fun c hc => ?_⟩
  cases c with
  | zero => omega
  | succ c =>
    have := bd_succ.mp hc
    by_cases q : 0 < c
    · exact absurd this.2 (hm c this.1 q)
    · have : c = 0 := by omega
      subst this
      exact absurd (bd_succ.mp hc).2 e

/-! _generate_overlap_table -/
abbrev gS : Stmt := stmtAt 1
/-- the first i + 1 places are told right -/
def TabUp (p : Nat → Int) (n i : Nat) (t : List Int) : Prop := t.length = n ∧ ∀ j, j < i → ∃ b : Nat, t[j]? = some (b : Int) ∧ IsBl p (j + 1) b

theorem loc_gen {L q f cd x} (h : (fnScope gS).names.lookup x = some .local) : VarOk (tEnv (fnScope gS) L q f cd) x := .inl h
end Mine

namespace Mine

theorem getD_of {l : List Int} {i : Nat} (h : i < l.length) : l[i]? = some (l.getD i 0) := by simp [h]
theorem getZ_of {l : List Int} {i : Int} {j : Nat} (e : i = j) (h : j < l.length) : l[i.toNat]? = some (l.getD j 0) := by
  subst e; simpa using getD_of h
theorem tabUp_set {p : Nat → Int} {n i : Nat} {t : List Int} {b : Nat} (hT : TabUp p n (i + 1) t) (hi : i + 1 < n) (hb : IsBl p (i + 2) b) : TabUp p n (i + 2) (t.set (i + 1) (b : Int)) := by
  refine ⟨by simp [hT.1], fun j hj => ?_⟩
  by_cases q : j = i + 1
  · subst q
    exact ⟨b, by rw [List.getElem?_set_self (by rw [hT.1]; exact hi)], hb⟩
  · rw [List.getElem?_set_ne (Ne.symm q)]
    exact hT.2 j (by omega)

theorem gen_body {prog : Program} {w : World} {A : Around} {s : Shared} {L : Addr} {q : Str} {f : Addr} {cd : Value} {aP : Addr} {ns : List Int} {h : Heap} {tk : Nat} (hh : A.handled = none)
    (S : St s.heap.get? (tEnv (fnScope gS) L q f cd) (upd (fun _ => none) "prefix" (.ref aP)) (fun _ => none) h) (hP : LI s.heap aP ns) (hG : Glb s.heap) (hn : ns.length ≤ 1000) (h1 : 1 ≤ ns.length) (E : Value → Shared → Prop) :
    wpAny (model prog w) A (execs (fnBody gS) (tEnv (fnScope gS) L q f cd)) (fun fl s' => ∃ v h' tk', fl = .ret v ∧ s' = mkS s h' tk' ∧ Le s.heap h' ∧ ∃ a t, v = .ref a ∧ s.heap.get? a = none ∧ LI h' a t ∧ TabUp (fun k => ns.getD k 0) ns.length ns.length t) E (mkS s h tk) := by
  have ok : EnvOk (tEnv (fnScope gS) L q f cd) := ⟨rfl, rfl, rfl⟩
  show wpAny _ _ (execs (_ :: _) _) _ _ _
  refine do_new ok S (.inl rfl) (ev_rep ev_const (ev_len ok (hG.le S.kept) (ev_nameL ok (S.has rfl (.inl rfl)) (hP.le S.kept)) (by omega)) (by omega) (by omega)) ?_
  intro aT h₁ tk₁ hnew hoff S₀
  have S₁ := S₀.turn (c' := .li (List.replicate (ns.length : Int).toNat 0)) upd_self (LP.li (S₀.own _ _ upd_self).1)
  refine do_for ok S₁ (.inl rfl) (src_range2 ok (hG.le S₁.kept) hh ev_const (ev_len ok (hG.le S₁.kept) (ev_nameL ok (S₁.has rfl (.inl rfl)) (hP.le S₁.kept)) (by omega)) (by decide) (by decide) (by omega) (by omega))
    (fun i ρ G => ρ "prefix" = some (.ref aP) ∧ ρ "table" = some (.ref aT) ∧ ∃ t, G aT = some (.li t) ∧ TabUp (fun k => ns.getD k 0) ns.length (i + 1) t) ⟨rfl, rfl, _, upd_self, ?_⟩ ?_ ?_
  · refine ⟨by simp, fun j hj => ⟨0, ?_, ?_⟩⟩
    · have : j = 0 := by omega
      subst this
      rw [List.getElem?_replicate, if_pos (by omega)]; rfl
    · have : j = 0 := by omega
      subst this; exact isBl_one
  · intro i d B' ρ₁ G₁ h₂ tk₂ hd hJ hB S₂ E'
    obtain ⟨r1, r2, t, hGt, hT⟩ := hJ
    obtain ⟨hi, rfl⟩ := upto_some hd
    have hi' : i + 1 < ns.length := by omega
    have e1 : (upd ρ₁ "i" (.int (1 + (i : Int)))) "prefix" = some (.ref aP) := (upd_ne (by decide)).trans r1
    have e2 : (upd ρ₁ "i" (.int (1 + (i : Int)))) "table" = some (.ref aT) := (upd_ne (by decide)).trans r2
    have le : Le s.heap h₂ := fun b o e => S₂.kept b o (hB b o e)
    obtain ⟨b₀, hb₀, hbl⟩ := hT.2 i (by omega)
    refine do_int ok S₂ (.inl rfl) (ev_idx (ev_nameL ok (S₂.has e2 (.inl rfl)) (S₂.own _ _ hGt).1) (ev_sub (ev_name ok (S₂.has upd_self (.inl rfl))) ev_const) (by omega) (by rw [show (1 + (i : Int) - 1).toNat = i by omega]; exact hb₀)) ?_
    intro h₃ tk₃ S₃
    refine do_while (fun n ρ G => ρ "prefix" = some (.ref aP) ∧ ρ "table" = some (.ref aT) ∧ ρ "i" = some (.int (1 + (i : Int))) ∧ ρ "idx" = some (.int (n : Int)) ∧ G aT = some (.li t) ∧ Bd (fun k => ns.getD k 0) (i + 1) n ∧
        ∀ c, Bd (fun k => ns.getD k 0) (i + 1) c → n < c → ns.getD c 0 ≠ ns.getD (i + 1) 0)
      (fun ρ G => ρ "prefix" = some (.ref aP) ∧ ρ "table" = some (.ref aT) ∧ ∃ t, G aT = some (.li t) ∧ TabUp (fun k => ns.getD k 0) ns.length (i + 2) t) b₀ S₃
      ⟨(upd_ne (by decide)).trans e1, (upd_ne (by decide)).trans e2, (upd_ne (by decide)).trans upd_self, upd_self, hGt, hbl.1, fun c hc hl => absurd (hbl.2 c hc) (by omega)⟩ ?_ ?_
    · rintro n ρ₂ G₂ h₄ ⟨e1, e2, e3, e4, hGt, hb, hc⟩ S₄
      have hbn := hb.1
      have le : Le s.heap h₄ := fun b o e => S₄.kept b o (hB b o e)
      have hP₄ := hP.le le
      refine ⟨_, tst_ne (ev_idx (ev_nameL ok (S₄.has e1 (.inl rfl)) hP₄) (ev_name ok (S₄.has e3 (.inl rfl))) (by omega) (getZ_of (j := i + 1) (by omega) hi'))
        (ev_idx (ev_nameL ok (S₄.has e1 (.inl rfl)) hP₄) (ev_name ok (S₄.has e4 (.inl rfl))) (by omega) (getZ_of (j := n) rfl (by omega))), ?_, ?_⟩
      · intro hne h₅ tk₅ S₅ E''
        have hne' : ns.getD (i + 1) 0 ≠ ns.getD n 0 := by simpa using hne
        refine do_if S₅ (tst_eq (ev_name ok (S₅.has e4 (.inl rfl))) ev_const) ?_ ?_
        · intro hz h₆ tk₆ S₆
          have hz' : n = 0 := by simpa using hz
          subst hz'
          refine do_set S₆ ev_const (ev_nameA ok (S₆.has e2 (.inl rfl))) (ev_name ok (S₆.has e3 (.inl rfl))) hGt (fun _ x => x) (by omega) (by rw [hT.1]; omega) (by omega) ?_
          intro h₇ tk₇ S₇
          refine do_break ⟨_, _, h₇, tk₇, rfl, S₇, e1, e2, _, upd_self, ?_⟩
          rw [show (1 + (i : Int)).toNat = i + 1 by omega]
          exact tabUp_set (b := 0) hT hi' (isBl_miss (by omega) (fun c h1 h2 => hc c h1 h2) (Ne.symm hne'))
        · intro hz h₆ tk₆ S₆
          have hz' : n ≠ 0 := by simpa using hz
          refine wpAny_execs_nil ?_
          obtain ⟨b, hb', hbl'⟩ := hT.2 (n - 1) (by omega)
          refine do_int ok S₆ (.inl rfl) (ev_idx (ev_nameL ok (S₆.has e2 (.inl rfl)) (S₆.own _ _ hGt).1) (ev_sub (ev_name ok (S₆.has e4 (.inl rfl))) ev_const) (by omega) (by rw [show ((n : Int) - 1).toNat = n - 1 by omega]; exact hb')) ?_
          intro h₇ tk₇ S₇
          rw [show n - 1 + 1 = n by omega] at hbl'
          refine wpAny_execs_nil ⟨b, hbl'.1.1, _, _, h₇, tk₇, rfl, S₇, (upd_ne (by decide)).trans e1, (upd_ne (by decide)).trans e2, (upd_ne (by decide)).trans e3, upd_self, hGt, hb.trans hbl'.1, fun c h1 h2 => ?_⟩
          rcases Nat.lt_trichotomy c n with h3 | h3 | h3
          · exact absurd (hbl'.2 c (hb.both h1 h3)) (by omega)
          · subst h3; exact Ne.symm hne'
          · exact hc c h1 h3
      · intro heq h₅ tk₅ S₅ E''
        have heq' : ns.getD (i + 1) 0 = ns.getD n 0 := by simpa using heq
        refine do_set S₅ (ev_add (ev_name ok (S₅.has e4 (.inl rfl))) ev_const) (ev_nameA ok (S₅.has e2 (.inl rfl))) (ev_name ok (S₅.has e3 (.inl rfl))) hGt (fun _ x => x) (by omega) (by rw [hT.1]; omega) (by omega) ?_
        intro h₇ tk₇ S₇
        refine wpAny_execs_nil ⟨rfl, _, _, h₇, tk₇, rfl, S₇, e1, e2, _, upd_self, ?_⟩
        rw [show (1 + (i : Int)).toNat = i + 1 by omega]
        exact tabUp_set (b := n + 1) hT hi' (isBl_hit hb (fun c h1 h2 => hc c h1 h2) heq'.symm)
    · rintro ρ' G' h' tk' ⟨e1, e2, t', hG', hT'⟩ S'
      exact wpAny_execs_nil ⟨rfl, ρ', G', h', tk', rfl, S', e1, e2, t', hG', hT'⟩
  · rintro ρ' G' h' tk' ⟨e1, e2, t, hGt, hT⟩ S'
    refine do_ret S' (ev_nameA ok (S'.has e2 (.inl rfl))) ?_
    intro v h'' tk'' le hv S''
    refine ⟨v, h'', tk'', rfl, rfl, S''.kept, aT, t, hv, Le.none S.kept hnew, (S''.own _ _ hGt).1, ?_⟩
    rw [upto_length] at hT
    rwa [show ((ns.length : Int) - 1).toNat + 1 = ns.length by omega] at hT
end Mine

namespace Mine

/-! the numbers that _law_told reckons -/
def cv (f g : Nat → Int) (n : Nat) : Int := ((List.range (n + 1)).map fun k => f k * g (n - k)).sum
def turnsF (bs : List Int) (m q : Nat) (n : Nat) : Int := if n = 0 then 1 else if n < m then (if bs.any (· == ((m : Int) - n)) then 1 else 0) else (q : Int) ^ (n - m)
def endsF (m q : Nat) (n : Nat) : Int := if m ≤ n then (q : Int) ^ (n - m) else 0
def rnL (e T : Nat → Int) : Nat → List Int
  | 0 => [0]
  | n + 1 => rnL e T n ++ [e (n + 1) - ((List.range n).map fun i => (rnL e T n).getD (1 + i) 0 * T (n - i)).sum]
def rn (e T : Nat → Int) (n : Nat) : Int := (rnL e T n).getD n 0
theorem rnL_length (e T : Nat → Int) : ∀ n, (rnL e T n).length = n + 1
  | 0 => rfl
  | n + 1 => by rw [rnL, List.length_append, rnL_length e T n]; rfl
theorem rnL_get (e T : Nat → Int) : ∀ n k, k ≤ n → (rnL e T n).getD k 0 = rn e T k
  | 0, k, h => by have : k = 0 := by omega
                  subst this; rfl
  | n + 1, k, h => by
    by_cases q : k = n + 1
    · subst q; rfl
    · have hk : k ≤ n := by omega
      rw [← rnL_get e T n k hk, rnL]
      simp only [List.getD_eq_getElem?_getD]
      rw [List.getElem?_append_left (by rw [rnL_length]; omega)]
theorem rnL_eq (e T : Nat → Int) (n : Nat) : rnL e T n = (List.range (n + 1)).map (rn e T) := by
  apply List.ext_getElem?
  intro i
  by_cases h : i < n + 1
  · rw [getD_of (by rw [rnL_length]; exact h), rnL_get e T n i (by omega)]
    simp [h]
  · rw [List.getElem?_eq_none (by rw [rnL_length]; omega), List.getElem?_eq_none (by simp; omega)]
theorem rn_zero (e T : Nat → Int) : rn e T 0 = 0 := rfl
theorem rn_succ (e T : Nat → Int) (n : Nat) : rn e T (n + 1) = e (n + 1) - ((List.range n).map fun i => rn e T (1 + i) * T (n - i)).sum := by
  have h1 : rn e T (n + 1) = e (n + 1) - ((List.range n).map fun i => (rnL e T n).getD (1 + i) 0 * T (n - i)).sum := by
    show (rnL e T (n + 1)).getD (n + 1) 0 = _
    rw [rnL]
    simp only [List.getD_eq_getElem?_getD]
    rw [List.getElem?_append_right (by rw [rnL_length]; exact Nat.le_refl _), rnL_length]
    simp
  rw [h1]
  congr 2
  apply List.map_congr_left
  intro i hi
  rw [rnL_get e T n (1 + i) (by have := List.mem_range.mp hi; omega)]
def neverF (q : Nat) (a : Nat → Int) : Nat → Int
  | 0 => 1
  | n + 1 => (q : Int) * neverF q a n - a (n + 1)
def itF (f a : Nat → Int) : Nat → Nat → Int
  | 0 => f
  | j + 1 => cv (itF f a j) a
def SmallI (x : Int) : Prop := Builtin.Int.intBits x ≤ 64

section
variable {prog : Program} {w : World} {A : Around} {env : Env} {h₁ : Heap}
/-- a comprehension of ints without a test -/
theorem ev_comp0 {elt iter : Expr} {x : Str} {px : Pos} {scope : Scope} {pos : Pos} {cl : List (Str × Addr)} {xs : List D} (ok : EnvOk env) (hsrc : Src prog w A env h₁ (fun b => ∃ o, h₁.get? b = some o) iter xs)
    (f : Nat → Int) (helt : ∀ i d C h₂, xs[i]? = some d → Le h₁ h₂ → Has (cEnv scope cl C env) h₂ x d → EvI prog w A (cEnv scope cl C env) h₂ elt (f i))
    (hsz : xs.length ≤ sizeLine)
    (hclos : closureFor scope env = pure cl) (hkind : scope.kind = .function)
    (hnames : ∀ y ∈ scope.names, y.2 = .local → scope.names.lookup y.1 = some .local) (hs : ∀ v, foldedSetIterable iter env v = pure v) (hx : XKind scope cl env x) :
    EvN prog w A env h₁ (.ListComp elt [⟨.Name x px, iter, [], 0⟩] scope pos) ((List.range xs.length).map f) := by
  have := ev_comp (px := px) (pos := pos) ok hsrc (fun _ => true) f (fun _ _ _ _ _ _ _ => tstAll_nil) (fun i d C h₂ hd _ hl H => helt i d C h₂ hd hl H) hsz hclos hkind hnames hs hx
  rwa [show (List.range xs.length).filter (fun _ => true) = List.range xs.length from List.filter_eq_self.mpr fun _ _ => rfl] at this
theorem EvI.eq {e : Expr} {a b : Int} (x : EvI prog w A env h₁ e a) (h : a = b) : EvI prog w A env h₁ e b := h ▸ x
theorem EvN.eq {e : Expr} {a b : List Int} (x : EvN prog w A env h₁ e a) (h : a = b) : EvN prog w A env h₁ e b := h ▸ x
theorem bits_le {q : Nat} (h : q ≤ 10) : Builtin.Int.intBits (q : Int) ≤ 4 := by
  have : ∀ q : Fin 11, Builtin.Int.intBits ((q.val : Nat) : Int) ≤ 4 := by decide
  exact this ⟨q, by omega⟩
theorem ev_powQ {l r : Expr} {pos : Pos} {q : Nat} {e : Int} (x : EvI prog w A env h₁ l q) (y : EvI prog w A env h₁ r e) (h0 : 0 ≤ e) (h1 : e ≤ 1000) (hq : q ≤ 10) : EvI prog w A env h₁ (.BinOp l .Pow r pos) ((q : Int) ^ e.toNat) :=
  ev_pow x y h0 (by
    have := bits_le hq
    have h2 : (Builtin.Int.intBits (q : Int) : Int) * e ≤ 4 * e := Int.mul_le_mul_of_nonneg_right (by omega) h0
    have h3 : (4 : Int) * e ≤ 4000 := by omega
    exact Int.le_trans h2 (Int.le_trans h3 (by decide)))
end
theorem rangeMap_get {f : Nat → Int} {n : Nat} {i : Int} {j : Nat} (e : i = j) (h : j < n) : ((List.range n).map f)[i.toNat]? = some (f j) := by
  subst e; simp [h]
theorem rangeMap_succ {α : Type} (f : Nat → α) (n : Nat) : (List.range (n + 1)).map f = (List.range n).map f ++ [f n] := by rw [List.range_succ, List.map_append]; rfl

abbrev tS : Stmt := stmtAt 3
def RowsG (G : Addr → Option Con) (as : List Addr) (rows : List (List Int)) : Prop := as.length = rows.length ∧ ∀ (i : Nat) (b : Addr) (r : List Int), as[i]? = some b → rows[i]? = some r → G b = some (.lp r)
theorem RowsG.at {G as rows b} (x : RowsG G as rows) (hb : b ∈ as) : ∃ r, G b = some (.lp r) := by
  obtain ⟨j, hj, rfl⟩ := List.mem_iff_getElem.mp hb
  exact ⟨_, x.2 j _ _ (List.getElem?_eq_getElem hj) (List.getElem?_eq_getElem (x.1 ▸ hj))⟩
theorem RowsG.up {G G' : Addr → Option Con} {as rows} (x : RowsG G as rows) (h : ∀ b r, b ∈ as → G b = some (.lp r) → G' b = some (.lp r)) : RowsG G' as rows := ⟨x.1, fun i b r h1 h2 => h b r (List.mem_of_getElem? h1) (x.2 i b r h1 h2)⟩
theorem RowsG.snoc {G : Addr → Option Con} {as rows b r} (x : RowsG G as rows) (h : G b = some (.lp r)) : RowsG G (as ++ [b]) (rows ++ [r]) := by
  refine ⟨by simp [x.1], fun i c t h1 h2 => ?_⟩
  rcases Nat.lt_trichotomy i as.length with q | q | q
  · rw [List.getElem?_append_left q] at h1
    rw [List.getElem?_append_left (x.1 ▸ q)] at h2
    exact x.2 i c t h1 h2
  · subst q
    rw [x.1] at h2
    simp at h1 h2; subst h1 h2; exact h
  · rw [List.getElem?_eq_none (by simp; omega)] at h1; cases h1
theorem RowsG.st {B env ρ G h as rows} (x : RowsG G as rows) (S : St B env ρ G h) : RowsP h as rows := ⟨x.1, fun i b r h1 h2 => (S.own _ _ (x.2 i b r h1 h2)).1⟩
theorem rowsG_put {G : Addr → Option Con} {as rows} (nd : as.Nodup) (hl : as.length = rows.length) : RowsG (putRows .lp G as rows) as rows := ⟨hl, fun i b r h1 h2 => putRows_at nd h1 h2⟩

theorem told_body {prog : Program} {w : World} {A : Around} {s : Shared} {L : Addr} {qn : Str} {f : Addr} {cd : Value} {aB : Addr} {bs : List Int} {m q N : Nat} {h : Heap} {tk : Nat} (hh : A.handled = none)
    (S : St s.heap.get? (tEnv (fnScope tS) L qn f cd) (upd (upd (upd (upd (fun _ => none) "borders" (.ref aB)) "size" (.int m)) "many" (.int q)) "length" (.int N)) (fun _ => none) h) (hB : LI s.heap aB bs) (hG : Glb s.heap) (hm : m ≤ N) (hN : N ≤ 100) (hq : q ≤ 10)
    (hT : ∀ d, d ≤ N → SmallI (turnsF bs m q d)) (hQ : ∀ d, d ≤ N → SmallI ((q : Int) ^ d))
    (hA : ∀ d, d ≤ N → SmallI (rn (turnsF bs m q) (turnsF bs m q) d)) (hNv : ∀ d, d ≤ N → SmallI (neverF q (rn (turnsF bs m q) (turnsF bs m q)) d)) (E : Value → Shared → Prop) :
    wpAny (model prog w) A (execs (fnBody tS) (tEnv (fnScope tS) L qn f cd)) (fun fl s' => ∃ v h' tk', fl = .ret v ∧ s' = mkS s h' tk' ∧ Le s.heap h' ∧ ∃ a as, v = .ref a ∧ LR h' a as ∧
      RowsP h' as (((List.range (N + 1)).map fun n => (q : Int) ^ n - cv (rn (endsF m q) (turnsF bs m q)) (fun d => (q : Int) ^ d) n) ::
        (List.range (N - m + 1)).map fun j => (List.range (N + 1)).map (cv (itF (rn (endsF m q) (turnsF bs m q)) (rn (turnsF bs m q) (turnsF bs m q)) j) (neverF q (rn (turnsF bs m q) (turnsF bs m q)))))) E (mkS s h tk) := by
  have ok : EnvOk (tEnv (fnScope tS) L qn f cd) := ⟨rfl, rfl, rfl⟩
  generalize hTd : turnsF bs m q = T at *
  generalize hFd : rn (endsF m q) T = F at *
  generalize hAd : rn T T = Ag at *
  show wpAny _ _ (execs (_ :: _) _) _ _ _
  refine do_new ok S (.inr ⟨rfl, _, rfl⟩) (ev_list1 ev_const) ?_
  intro aT h₁ tk₁ hnew hoff S₁
  refine do_for ok S₁ (.inr ⟨rfl, _, rfl⟩) (src_range2 ok (hG.le S₁.kept) hh ev_const (ev_add (ev_name ok (S₁.has rfl (.inl rfl))) ev_const) (by decide) (by decide) (by omega) (by omega))
    (fun i ρ G => ρ "borders" = some (.ref aB) ∧ ρ "size" = some (.int m) ∧ ρ "many" = some (.int q) ∧ ρ "length" = some (.int N) ∧ ρ "turns" = some (.ref aT) ∧ G aT = some (.lp ((List.range (i + 1)).map T))) ⟨rfl, rfl, rfl, rfl, rfl, ?_⟩ ?_ ?_
  · rw [upd_self]; subst hTd; rfl
  · intro i d B' ρ₁ G₁ h₂ tk₂ hd hJ hBB S₂ E'
    obtain ⟨r1, r2, r3, r4, r5, hGt⟩ := hJ
    obtain ⟨hi, rfl⟩ := upto_some hd
    have hi' : i + 1 ≤ N := by omega
    have e1 : (upd ρ₁ "n" (.int (1 + (i : Int)))) "borders" = some (.ref aB) := (upd_ne (by decide)).trans r1
    have e2 : (upd ρ₁ "n" (.int (1 + (i : Int)))) "size" = some (.int m) := (upd_ne (by decide)).trans r2
    have e3 : (upd ρ₁ "n" (.int (1 + (i : Int)))) "many" = some (.int q) := (upd_ne (by decide)).trans r3
    have e4 : (upd ρ₁ "n" (.int (1 + (i : Int)))) "length" = some (.int N) := (upd_ne (by decide)).trans r4
    have e5 : (upd ρ₁ "n" (.int (1 + (i : Int)))) "turns" = some (.ref aT) := (upd_ne (by decide)).trans r5
    have fin : ∀ h₅ tk₅ (v : Int), v = T (i + 1) → St B' (tEnv (fnScope tS) L qn f cd) (upd ρ₁ "n" (.int (1 + (i : Int)))) (upd G₁ aT (.lp ((List.range (i + 1)).map T ++ [v]))) h₅ →
        wpAny (model prog w) A (execs [] (tEnv (fnScope tS) L qn f cd)) (fun f_1 s' => f_1 = .next ∧ ∃ ρ₂ G₂ h₂ tk₂, s' = mkS s h₂ tk₂ ∧ St B' (tEnv (fnScope tS) L qn f cd) ρ₂ G₂ h₂ ∧
          (ρ₂ "borders" = some (.ref aB) ∧ ρ₂ "size" = some (.int m) ∧ ρ₂ "many" = some (.int q) ∧ ρ₂ "length" = some (.int N) ∧ ρ₂ "turns" = some (.ref aT) ∧ G₂ aT = some (.lp ((List.range (i + 1 + 1)).map T)))) E' (mkS s h₅ tk₅) := by
      intro h₅ tk₅ v hv S₅
      refine wpAny_execs_nil ⟨rfl, _, _, h₅, tk₅, rfl, S₅, e1, e2, e3, e4, e5, ?_⟩
      rw [upd_self, rangeMap_succ T (i + 1), hv]
    refine do_if S₂ (tst_lt (ev_name ok (S₂.has upd_self (.inr ⟨rfl, _, rfl⟩))) (ev_name ok (S₂.has e2 (.inl rfl)))) ?_ ?_
    · intro hb h₃ tk₃ S₃
      have hb' : i + 1 < m := by have := of_decide_eq_true hb; omega
      have le : Le s.heap h₃ := fun b o e => S₃.kept b o (hBB b o e)
      refine do_appI S₃ (ev_nameA ok (S₃.has e5 (.inr ⟨rfl, _, rfl⟩))) (ev_ife (tst_in (ev_sub (ev_name ok (S₃.has e2 (.inl rfl))) (ev_name ok (S₃.has upd_self (.inr ⟨rfl, _, rfl⟩)))) (ev_nameL ok (S₃.has e1 (.inl rfl)) (hB.le le))) (fun _ => ev_const) (fun _ => ev_const)) hGt (by simp [sizeLine]; omega) ?_
      intro h₄ tk₄ S₄
      refine fin h₄ tk₄ _ ?_ S₄ |> wpAny_execs_nil
      subst hTd
      rw [turnsF, if_neg (show ¬ (i + 1 = 0) by omega), if_pos hb']
      rw [show (m : Int) - ((i + 1 : Nat) : Int) = (m : Int) - (1 + (i : Int)) by omega]
    · intro hb h₃ tk₃ S₃
      have hb' : ¬ i + 1 < m := by have := of_decide_eq_false hb; omega
      refine do_appI S₃ (ev_nameA ok (S₃.has e5 (.inr ⟨rfl, _, rfl⟩))) (ev_powQ (ev_name ok (S₃.has e3 (.inr ⟨rfl, _, rfl⟩))) (ev_sub (ev_name ok (S₃.has upd_self (.inr ⟨rfl, _, rfl⟩))) (ev_name ok (S₃.has e2 (.inl rfl)))) (by omega) (by omega) hq) hGt (by simp [sizeLine]; omega) ?_
      intro h₄ tk₄ S₄
      refine fin h₄ tk₄ _ ?_ S₄ |> wpAny_execs_nil
      subst hTd
      rw [turnsF, if_neg (show ¬ (i + 1 = 0) by omega), if_neg hb']
      rw [show (1 + (i : Int) - (m : Int)).toNat = i + 1 - m by omega]
  · rintro ρ₁ G₁ h₁ tk₁ ⟨r1, r2, r3, r4, r5, hGt⟩ S₁
    rw [upto_length, show ((N : Int) + 1 - 1).toNat = N by omega] at hGt
    refine do_new ok S₁ (.inr ⟨rfl, _, rfl⟩) (ev_list1 ev_const) ?_
    intro aF h₂ tk₂ _ fF S₂
    refine do_new ok S₂ (.inr ⟨rfl, _, rfl⟩) (ev_list1 ev_const) ?_
    intro aA h₃ tk₃ _ fA S₃
    refine do_new ok S₃ (.inr ⟨rfl, _, rfl⟩) (ev_list1 ev_const) ?_
    intro aN h₄ tk₄ _ fN S₄
    have nTF : aT ≠ aF := fun e => by have := fF.g; rw [← e, hGt] at this; cases this
    have nTA : aT ≠ aA := fun e => by have := fA.g; rw [← e, upd_ne nTF, hGt] at this; cases this
    have nFA : aF ≠ aA := fun e => by have := fA.g; rw [← e, upd_self] at this; cases this
    have nTN : aT ≠ aN := fun e => by have := fN.g; rw [← e, upd_ne nTA, upd_ne nTF, hGt] at this; cases this
    have nFN : aF ≠ aN := fun e => by have := fN.g; rw [← e, upd_ne nFA, upd_self] at this; cases this
    have nAN : aA ≠ aN := fun e => by have := fN.g; rw [← e, upd_self] at this; cases this
    have x4 : (upd (upd (upd ρ₁ "first" (.ref aF)) "again" (.ref aA)) "never" (.ref aN)) "length" = some (.int N) := r4
    refine do_for ok S₄ (.inr ⟨rfl, _, rfl⟩) (src_range2 ok (hG.le S₄.kept) hh ev_const (ev_add (ev_name ok (S₄.has x4 (.inl rfl))) ev_const) (by decide) (by decide) (by omega) (by omega))
      (fun i ρ G => ρ "size" = some (.int m) ∧ ρ "many" = some (.int q) ∧ ρ "length" = some (.int N) ∧ ρ "turns" = some (.ref aT) ∧ ρ "first" = some (.ref aF) ∧ ρ "again" = some (.ref aA) ∧ ρ "never" = some (.ref aN) ∧
        G aT = some (.lp ((List.range (N + 1)).map T)) ∧ G aF = some (.lp ((List.range (i + 1)).map F)) ∧ G aA = some (.lp ((List.range (i + 1)).map Ag)) ∧ G aN = some (.lp ((List.range (i + 1)).map (neverF q Ag))))
      ⟨r2, r3, r4, r5, rfl, rfl, rfl, ?_, ?_, ?_, ?_⟩ ?_ ?_
    · rw [upd_ne nTN, upd_ne nTA, upd_ne nTF]; exact hGt
    · rw [upd_ne nFN, upd_ne nFA, upd_self]; subst hFd; rfl
    · rw [upd_ne nAN, upd_self]; subst hAd; rfl
    · rw [upd_self]; rfl
    · intro i d B' ρ₂ G₂ h₅ tk₅ hd hJ hBB S₅ E'
      obtain ⟨r2, r3, r4, r5, r6, r7, r8, gT, gF, gA, gN⟩ := hJ
      obtain ⟨hi, rfl⟩ := upto_some hd
      have hi' : i + 1 ≤ N := by omega
      have le : Le s.heap h₅ := fun b o e => S₅.kept b o (hBB b o e)
      have up : ∀ (y : Str) (d : D), y ≠ "n" → y ≠ "ends" → ∀ z, ρ₂ y = some d → (upd (upd ρ₂ "n" (.int (1 + (i : Int)))) "ends" (.int z)) y = some d := fun y d h1 h2 z h3 => (upd_ne h2).trans ((upd_ne h1).trans h3)
      refine do_int ok S₅ (.inl rfl) (EvI.eq (b := endsF m q (i + 1)) (ev_ife (tst_ge (ev_name ok (S₅.has upd_self (.inr ⟨rfl, _, rfl⟩))) (ev_name ok (S₅.has ((upd_ne (by decide)).trans r2) (.inl rfl))))
        (fun hb => ev_powQ (ev_name ok (S₅.has ((upd_ne (by decide)).trans r3) (.inr ⟨rfl, _, rfl⟩))) (ev_sub (ev_name ok (S₅.has upd_self (.inr ⟨rfl, _, rfl⟩))) (ev_name ok (S₅.has ((upd_ne (by decide)).trans r2) (.inl rfl))))
          (by have := of_decide_eq_true hb; omega) (by omega) hq) (fun _ => ev_const)) ?_) ?_
      · rw [endsF, show (1 + (i : Int) - (m : Int)).toNat = i + 1 - m by omega]
        by_cases hb : m ≤ i + 1
        · rw [if_pos (decide_eq_true (by omega)), if_pos hb]
        · rw [if_neg (by simp; omega), if_neg hb]
      intro h₆ tk₆ S₆
      have z2 := up "size" _ (by decide) (by decide) (endsF m q (i + 1)) r2
      have z3 := up "many" _ (by decide) (by decide) (endsF m q (i + 1)) r3
      have z5 := up "turns" _ (by decide) (by decide) (endsF m q (i + 1)) r5
      have z6 := up "first" _ (by decide) (by decide) (endsF m q (i + 1)) r6
      have z7 := up "again" _ (by decide) (by decide) (endsF m q (i + 1)) r7
      have z8 := up "never" _ (by decide) (by decide) (endsF m q (i + 1)) r8
      have zn : (upd (upd ρ₂ "n" (.int (1 + (i : Int)))) "ends" (.int (endsF m q (i + 1)))) "n" = some (.int (1 + (i : Int))) := (upd_ne (by decide)).trans upd_self
      generalize hρ : upd (upd ρ₂ "n" (.int (1 + (i : Int)))) "ends" (.int (endsF m q (i + 1))) = ρ₃ at *
      have ze : ρ₃ "ends" = some (.int (endsF m q (i + 1))) := by rw [← hρ]; exact upd_self
      have lF : LI h₆ aF ((List.range (i + 1)).map F) := LP.li (S₆.own _ _ gF).1
      have lT : LI h₆ aT ((List.range (N + 1)).map T) := LP.li (S₆.own _ _ gT).1
      refine do_appI S₆ (ev_nameA ok (S₆.has z6 (.inr ⟨rfl, _, rfl⟩))) (EvI.eq (b := F (i + 1)) (ev_sub (ev_name ok (S₆.has ze (.inl rfl))) (ev_sum ok (hG.le fun b o e => S₆.kept b o (hBB b o e)) hh
        (EvN.l (ev_comp0 ok (src_range2 ok (hG.le fun b o e => S₆.kept b o (hBB b o e)) hh ev_const (ev_name ok (S₆.has zn (.inr ⟨rfl, _, rfl⟩))) (by decide) (by decide) (by omega) (by omega)) (fun j => F (1 + j) * T (i - j)) ?_ (by rw [upto_length]; simp [sizeLine]; omega)
          rfl rfl (by decide) (fun _ => rfl) (.loc (fun _ => rfl) (fun _ => rfl)))))) ?_) gF (by simp [sizeLine]; omega) ?_
      · intro j d C h₇ hd hl Hk
        obtain ⟨hj, rfl⟩ := upto_some hd
        refine ev_mul (ev_idx (ev_nameL (cEnv_ok ok rfl) (((S₆.has z6 (.inr ⟨rfl, _, rfl⟩)).le hl).into rfl rfl rfl) (lF.le hl)) (ev_name (cEnv_ok ok rfl) Hk) (by omega) (rangeMap_get (j := 1 + j) (by omega) (by omega)))
          (ev_idx (ev_nameL (cEnv_ok ok rfl) (((S₆.has z5 (.inr ⟨rfl, _, rfl⟩)).le hl).into rfl rfl rfl) (lT.le hl)) (ev_sub (ev_name (cEnv_ok ok rfl) (((S₆.has zn (.inr ⟨rfl, _, rfl⟩)).le hl).into rfl rfl rfl)) (ev_name (cEnv_ok ok rfl) Hk)) (by omega) (rangeMap_get (j := i - j) (by omega) (by omega)))
          (.of_right (hT _ (by omega)))
      · rw [upto_length, show ((1 + (i : Int)) - 1).toNat = i by omega, ← hFd, rn_succ]
      intro h₇ tk₇ S₇
      have gF' : upd G₂ aF (.lp ((List.range (i + 1)).map F ++ [F (i + 1)])) aF = some (.lp ((List.range (i + 2)).map F)) := by rw [upd_self, rangeMap_succ F (i + 1)]
      have gA' : upd G₂ aF (.lp ((List.range (i + 1)).map F ++ [F (i + 1)])) aA = some (.lp ((List.range (i + 1)).map Ag)) := (upd_ne (Ne.symm nFA)).trans gA
      have gT' : upd G₂ aF (.lp ((List.range (i + 1)).map F ++ [F (i + 1)])) aT = some (.lp ((List.range (N + 1)).map T)) := (upd_ne nTF).trans gT
      have gN' : upd G₂ aF (.lp ((List.range (i + 1)).map F ++ [F (i + 1)])) aN = some (.lp ((List.range (i + 1)).map (neverF q Ag))) := (upd_ne (Ne.symm nFN)).trans gN
      generalize upd G₂ aF (.lp ((List.range (i + 1)).map F ++ [F (i + 1)])) = G₃ at *
      have lA : LI h₇ aA ((List.range (i + 1)).map Ag) := LP.li (S₇.own _ _ gA').1
      have lT : LI h₇ aT ((List.range (N + 1)).map T) := LP.li (S₇.own _ _ gT').1
      refine do_appI S₇ (ev_nameA ok (S₇.has z7 (.inr ⟨rfl, _, rfl⟩))) (EvI.eq (b := Ag (i + 1)) (ev_sub (ev_idx (ev_nameL ok (S₇.has z5 (.inr ⟨rfl, _, rfl⟩)) lT) (ev_name ok (S₇.has zn (.inr ⟨rfl, _, rfl⟩))) (by omega) (rangeMap_get (j := i + 1) (by omega) (by omega)))
        (ev_sum ok (hG.le fun b o e => S₇.kept b o (hBB b o e)) hh
        (EvN.l (ev_comp0 ok (src_range2 ok (hG.le fun b o e => S₇.kept b o (hBB b o e)) hh ev_const (ev_name ok (S₇.has zn (.inr ⟨rfl, _, rfl⟩))) (by decide) (by decide) (by omega) (by omega)) (fun j => Ag (1 + j) * T (i - j)) ?_ (by rw [upto_length]; simp [sizeLine]; omega)
          rfl rfl (by decide) (fun _ => rfl) (.loc (fun _ => rfl) (fun _ => rfl)))))) ?_) gA' (by simp [sizeLine]; omega) ?_
      · intro j d C h₈ hd hl Hk
        obtain ⟨hj, rfl⟩ := upto_some hd
        refine ev_mul (ev_idx (ev_nameL (cEnv_ok ok rfl) (((S₇.has z7 (.inr ⟨rfl, _, rfl⟩)).le hl).into rfl rfl rfl) (lA.le hl)) (ev_name (cEnv_ok ok rfl) Hk) (by omega) (rangeMap_get (j := 1 + j) (by omega) (by omega)))
          (ev_idx (ev_nameL (cEnv_ok ok rfl) (((S₇.has z5 (.inr ⟨rfl, _, rfl⟩)).le hl).into rfl rfl rfl) (lT.le hl)) (ev_sub (ev_name (cEnv_ok ok rfl) (((S₇.has zn (.inr ⟨rfl, _, rfl⟩)).le hl).into rfl rfl rfl)) (ev_name (cEnv_ok ok rfl) Hk)) (by omega) (rangeMap_get (j := i - j) (by omega) (by omega)))
          (.of_right (hT _ (by omega)))
      · rw [upto_length, show ((1 + (i : Int)) - 1).toNat = i by omega, ← hAd, rn_succ]
      intro h₈ tk₈ S₈
      have gF'' : upd G₃ aA (.lp ((List.range (i + 1)).map Ag ++ [Ag (i + 1)])) aF = some (.lp ((List.range (i + 2)).map F)) := (upd_ne nFA).trans gF'
      have gA'' : upd G₃ aA (.lp ((List.range (i + 1)).map Ag ++ [Ag (i + 1)])) aA = some (.lp ((List.range (i + 2)).map Ag)) := by rw [upd_self, rangeMap_succ Ag (i + 1)]
      have gT'' : upd G₃ aA (.lp ((List.range (i + 1)).map Ag ++ [Ag (i + 1)])) aT = some (.lp ((List.range (N + 1)).map T)) := (upd_ne nTA).trans gT'
      have gN'' : upd G₃ aA (.lp ((List.range (i + 1)).map Ag ++ [Ag (i + 1)])) aN = some (.lp ((List.range (i + 1)).map (neverF q Ag))) := (upd_ne (Ne.symm nAN)).trans gN'
      generalize upd G₃ aA (.lp ((List.range (i + 1)).map Ag ++ [Ag (i + 1)])) = G₄ at *
      have lA : LI h₈ aA ((List.range (i + 2)).map Ag) := LP.li (S₈.own _ _ gA'').1
      have lN : LI h₈ aN ((List.range (i + 1)).map (neverF q Ag)) := LP.li (S₈.own _ _ gN'').1
      refine do_appI S₈ (ev_nameA ok (S₈.has z8 (.inr ⟨rfl, _, rfl⟩))) (ev_sub (ev_mul (ev_name ok (S₈.has z3 (.inr ⟨rfl, _, rfl⟩)))
        (ev_idx (ev_nameL ok (S₈.has z8 (.inr ⟨rfl, _, rfl⟩)) lN) (ev_sub (ev_name ok (S₈.has zn (.inr ⟨rfl, _, rfl⟩))) ev_const) (by omega) (rangeMap_get (j := i) (by omega) (by omega))) (.of_left (Nat.le_trans (bits_le hq) (by decide))))
        (ev_idx (ev_nameL ok (S₈.has z7 (.inr ⟨rfl, _, rfl⟩)) lA) (ev_name ok (S₈.has zn (.inr ⟨rfl, _, rfl⟩))) (by omega) (rangeMap_get (j := i + 1) (by omega) (by omega)))) gN'' (by simp [sizeLine]; omega) ?_
      intro h₉ tk₉ S₉
      refine wpAny_execs_nil ⟨rfl, _, _, h₉, tk₉, rfl, S₉, z2, z3, by rw [← hρ]; exact up "length" _ (by decide) (by decide) _ r4, z5, z6, z7, z8, (upd_ne nTN).trans gT'', (upd_ne nFN).trans gF'', (upd_ne nAN).trans gA'', ?_⟩
      rw [upd_self, rangeMap_succ (neverF q Ag) (i + 1)]; rfl
    · rintro ρ₁ G₁ h₁ tk₁ ⟨r2, r3, r4, r5, r6, r7, r8, gT, gF, gA, gN⟩ S₁
      rw [upto_length, show ((N : Int) + 1 - 1).toNat = N by omega] at gF gA gN
      have lF : LI h₁ aF ((List.range (N + 1)).map F) := LP.li (S₁.own _ _ gF).1
      refine do_rows (mk := .lp) (fun _ _ _ x => x) ok S₁ (.inl rfl) (ev_listR (EvN.eq (b := (List.range (N + 1)).map fun n => (q : Int) ^ n - cv F (fun d => (q : Int) ^ d) n)
        (ev_comp0 ok (src_range1 ok (hG.le S₁.kept) hh (ev_add (ev_name ok (S₁.has r4 (.inl rfl))) ev_const) (by omega) (by omega)) (fun n => (q : Int) ^ n - cv F (fun d => (q : Int) ^ d) n) ?_ (by rw [upto_length]; simp [sizeLine]; omega)
          rfl rfl (by decide) (fun _ => rfl) (.cel (fun _ => rfl) (fun _ => rfl) (fun _ => rfl))) ?_)) ?_
      · intro n d C h₂ hd hl Hn
        obtain ⟨hn, rfl⟩ := upto_some hd
        have le : Le s.heap h₂ := fun b o e => hl b o (S₁.kept b o e)
        refine EvI.eq (ev_sub (ev_powQ (ev_name (cEnv_ok ok rfl) (((S₁.has r3 (.inr ⟨rfl, _, rfl⟩)).le hl).into rfl rfl rfl)) (ev_name (cEnv_ok ok rfl) Hn) (by omega) (by omega) hq)
          (ev_sum (cEnv_ok ok rfl) (hG.le le) hh (EvN.l (ev_comp0 (cEnv_ok ok rfl) (src_range1 (cEnv_ok ok rfl) (hG.le le) hh (ev_add (ev_name (cEnv_ok ok rfl) Hn) ev_const) (by omega) (by omega)) (fun k => F k * (q : Int) ^ (n - k)) ?_ (by rw [upto_length]; simp [sizeLine]; omega)
          rfl rfl (by decide) (fun _ => rfl) (.loc (fun _ => rfl) (fun _ => rfl)))))) ?_
        · intro k d C' h₃ hd hl' Hk
          obtain ⟨hk, rfl⟩ := upto_some hd
          refine EvI.eq (ev_mul (ev_idx (ev_nameL (cEnv_ok (cEnv_ok ok rfl) rfl) (((((S₁.has r6 (.inr ⟨rfl, _, rfl⟩)).le hl).into rfl rfl rfl).le hl').into rfl rfl rfl) ((lF.le hl).le hl')) (ev_name (cEnv_ok (cEnv_ok ok rfl) rfl) Hk) (by omega) (rangeMap_get (j := k) (by omega) (by omega)))
            (ev_powQ (ev_name (cEnv_ok (cEnv_ok ok rfl) rfl) (((((S₁.has r3 (.inr ⟨rfl, _, rfl⟩)).le hl).into rfl rfl rfl).le hl').into rfl rfl rfl)) (ev_sub (ev_name (cEnv_ok (cEnv_ok ok rfl) rfl) ((Hn.le hl').into rfl rfl rfl)) (ev_name (cEnv_ok (cEnv_ok ok rfl) rfl) Hk)) (by omega) (by omega) hq)
            (.of_right (hQ _ (by omega)))) ?_
          rw [show (0 + (n : Int) - (0 + (k : Int))).toNat = n - k by omega]
        · rw [upto_length, show (0 + (n : Int)).toNat = n by omega, show (0 + (n : Int) + 1 - 0).toNat = n + 1 by omega]; rfl
      · rw [upto_length, show ((N : Int) + 1 - 0).toNat = N + 1 by omega]
      intro aO as h₂ tk₂ _ fO nd hOa hlen hfr S₂
      have gA₂ : upd (putRows .lp G₁ as [(List.range (N + 1)).map fun n => (q : Int) ^ n - cv F (fun d => (q : Int) ^ d) n]) aO (.lr as) aA = some (.lp ((List.range (N + 1)).map Ag)) := by
        rw [upd_ne (fun e => by have := fO.g; rw [← e, gA] at this; cases this), putRows_off (fun e => by have := (hfr _ e).2.g; rw [gA] at this; cases this)]; exact gA
      have gN₂ : upd (putRows .lp G₁ as [(List.range (N + 1)).map fun n => (q : Int) ^ n - cv F (fun d => (q : Int) ^ d) n]) aO (.lr as) aN = some (.lp ((List.range (N + 1)).map (neverF q Ag))) := by
        rw [upd_ne (fun e => by have := fO.g; rw [← e, gN] at this; cases this), putRows_off (fun e => by have := (hfr _ e).2.g; rw [gN] at this; cases this)]; exact gN
      have gF₂ : upd (putRows .lp G₁ as [(List.range (N + 1)).map fun n => (q : Int) ^ n - cv F (fun d => (q : Int) ^ d) n]) aO (.lr as) aF = some (.lp ((List.range (N + 1)).map F)) := by
        rw [upd_ne (fun e => by have := fO.g; rw [← e, gF] at this; cases this), putRows_off (fun e => by have := (hfr _ e).2.g; rw [gF] at this; cases this)]; exact gF
      have x4 : (upd ρ₁ "told" (.ref aO)) "length" = some (.int N) := r4
      have x2 : (upd ρ₁ "told" (.ref aO)) "size" = some (.int m) := r2
      refine do_for ok S₂ (.inl rfl) (src_range1 ok (hG.le S₂.kept) hh (ev_add (ev_sub (ev_name ok (S₂.has x4 (.inl rfl))) (ev_name ok (S₂.has x2 (.inl rfl)))) ev_const) (by omega) (by omega))
        (fun j ρ G => ρ "length" = some (.int N) ∧ ρ "again" = some (.ref aA) ∧ ρ "never" = some (.ref aN) ∧ ρ "told" = some (.ref aO) ∧ G aA = some (.lp ((List.range (N + 1)).map Ag)) ∧ G aN = some (.lp ((List.range (N + 1)).map (neverF q Ag))) ∧
          ∃ aF' as, ρ "first" = some (.ref aF') ∧ G aF' = some (.lp ((List.range (N + 1)).map (itF F Ag j))) ∧ G aO = some (.lr as) ∧
            RowsG G as (((List.range (N + 1)).map fun n => (q : Int) ^ n - cv F (fun d => (q : Int) ^ d) n) :: (List.range j).map fun j => (List.range (N + 1)).map (cv (itF F Ag j) (neverF q Ag))))
        ⟨x4, r7, r8, rfl, gA₂, gN₂, aF, as, r6, gF₂, upd_self, ?_⟩ ?_ ?_
      · refine (rowsG_put (G := G₁) nd hlen).up fun b r hb e => ?_
        rw [upd_ne (show b ≠ aO from fun z => hOa (z ▸ hb))]; exact e
      · intro j d B' ρ₂ G₂ h₃ tk₃ hd hJ hBB S₃ E'
        obtain ⟨r4, r7, r8, r9, gA, gN, aF', as', r6, gF', gO, hR⟩ := hJ
        obtain ⟨hj, rfl⟩ := upto_some hd
        have y4 : (upd ρ₂ "j" (.int (0 + (j : Int)))) "length" = some (.int N) := (upd_ne (by decide)).trans r4
        have y6 : (upd ρ₂ "j" (.int (0 + (j : Int)))) "first" = some (.ref aF') := (upd_ne (by decide)).trans r6
        have y7 : (upd ρ₂ "j" (.int (0 + (j : Int)))) "again" = some (.ref aA) := (upd_ne (by decide)).trans r7
        have y8 : (upd ρ₂ "j" (.int (0 + (j : Int)))) "never" = some (.ref aN) := (upd_ne (by decide)).trans r8
        have y9 : (upd ρ₂ "j" (.int (0 + (j : Int)))) "told" = some (.ref aO) := (upd_ne (by decide)).trans r9
        have lF : LI h₃ aF' ((List.range (N + 1)).map (itF F Ag j)) := LP.li (S₃.own _ _ gF').1
        have lN : LI h₃ aN ((List.range (N + 1)).map (neverF q Ag)) := LP.li (S₃.own _ _ gN).1
        have le : Le s.heap h₃ := fun b o e => S₃.kept b o (hBB b o e)
        have hlen' : as'.length = j + 1 := by rw [hR.1]; simp
        refine do_appN S₃ (ev_nameA ok (S₃.has y9 (.inl rfl))) (EvN.eq (b := (List.range (N + 1)).map (cv (itF F Ag j) (neverF q Ag)))
          (ev_comp0 ok (src_range1 ok (hG.le le) hh (ev_add (ev_name ok (S₃.has y4 (.inl rfl))) ev_const) (by omega) (by omega)) (cv (itF F Ag j) (neverF q Ag)) ?_ (by rw [upto_length]; simp [sizeLine]; omega)
            rfl rfl (by decide) (fun _ => rfl) (.cel (fun _ => rfl) (fun _ => rfl) (fun _ => rfl))) ?_) gO (by simp [sizeLine]; omega) ?_
        · intro n d C h₄ hd hl Hn
          obtain ⟨hn, rfl⟩ := upto_some hd
          refine EvI.eq (ev_sum (cEnv_ok ok rfl) (hG.le (le.trans hl)) hh (EvN.l (ev_comp0 (cEnv_ok ok rfl) (src_range1 (cEnv_ok ok rfl) (hG.le (le.trans hl)) hh (ev_add (ev_name (cEnv_ok ok rfl) Hn) ev_const) (by omega) (by omega)) (fun k => itF F Ag j k * neverF q Ag (n - k)) ?_ (by rw [upto_length]; simp [sizeLine]; omega)
            rfl rfl (by decide) (fun _ => rfl) (.loc (fun _ => rfl) (fun _ => rfl))))) ?_
          · intro k d C' h₅ hd hl' Hk
            obtain ⟨hk, rfl⟩ := upto_some hd
            exact ev_mul (ev_idx (ev_nameL (cEnv_ok (cEnv_ok ok rfl) rfl) (((((S₃.has y6 (.inr ⟨rfl, _, rfl⟩)).le hl).into rfl rfl rfl).le hl').into rfl rfl rfl) ((lF.le hl).le hl')) (ev_name (cEnv_ok (cEnv_ok ok rfl) rfl) Hk) (by omega) (rangeMap_get (j := k) (by omega) (by omega)))
              (ev_idx (ev_nameL (cEnv_ok (cEnv_ok ok rfl) rfl) (((((S₃.has y8 (.inr ⟨rfl, _, rfl⟩)).le hl).into rfl rfl rfl).le hl').into rfl rfl rfl) ((lN.le hl).le hl')) (ev_sub (ev_name (cEnv_ok (cEnv_ok ok rfl) rfl) ((Hn.le hl').into rfl rfl rfl)) (ev_name (cEnv_ok (cEnv_ok ok rfl) rfl) Hk)) (by omega) (rangeMap_get (j := n - k) (by omega) (by omega)))
              (.of_right (hNv _ (by omega)))
          · rw [upto_length, show (0 + (n : Int) + 1 - 0).toNat = n + 1 by omega]; rfl
        · rw [upto_length, show ((N : Int) + 1 - 0).toNat = N + 1 by omega]
        intro b h₄ tk₄ fb S₄
        have ne : ∀ c ns, G₂ c = some (.lp ns) → c ≠ aO ∧ c ≠ b := fun c ns e => ⟨(fun z => by rw [z, gO] at e; cases e), (fun z => by have := fb.g; rw [← z, e] at this; cases this)⟩
        have gg : ∀ c ns, G₂ c = some (.lp ns) → upd (upd G₂ b (.lp ((List.range (N + 1)).map (cv (itF F Ag j) (neverF q Ag))))) aO (.lr (as' ++ [b])) c = some (.lp ns) := fun c ns e => by
          rw [upd_ne (ne c ns e).1, upd_ne (ne c ns e).2]; exact e
        have hbO : b ≠ aO := fun z => by have := fb.g; rw [z, gO] at this; cases this
        have gb : upd (upd G₂ b (.lp ((List.range (N + 1)).map (cv (itF F Ag j) (neverF q Ag))))) aO (.lr (as' ++ [b])) b = some (.lp ((List.range (N + 1)).map (cv (itF F Ag j) (neverF q Ag)))) := by
          rw [upd_ne hbO, upd_self]
        have hR' := (hR.up (fun c r _ e => gg c r e)).snoc gb
        have gA₃ := gg _ _ gA
        have gN₃ := gg _ _ gN
        have gF₃ := gg _ _ gF'
        have gO₃ : upd (upd G₂ b (.lp ((List.range (N + 1)).map (cv (itF F Ag j) (neverF q Ag))))) aO (.lr (as' ++ [b])) aO = some (.lr (as' ++ [b])) := upd_self
        generalize upd (upd G₂ b (.lp ((List.range (N + 1)).map (cv (itF F Ag j) (neverF q Ag))))) aO (.lr (as' ++ [b])) = G₃ at *
        have lF : LI h₄ aF' ((List.range (N + 1)).map (itF F Ag j)) := LP.li (S₄.own _ _ gF₃).1
        have lA : LI h₄ aA ((List.range (N + 1)).map Ag) := LP.li (S₄.own _ _ gA₃).1
        have le : Le s.heap h₄ := fun b o e => S₄.kept b o (hBB b o e)
        refine do_new ok S₄ (.inr ⟨rfl, _, rfl⟩) (EvN.eq (b := (List.range (N + 1)).map (itF F Ag (j + 1)))
          (ev_comp0 ok (src_range1 ok (hG.le le) hh (ev_add (ev_name ok (S₄.has y4 (.inl rfl))) ev_const) (by omega) (by omega)) (itF F Ag (j + 1)) ?_ (by rw [upto_length]; simp [sizeLine]; omega)
            rfl rfl (by decide) (fun _ => rfl) (.cel (fun _ => rfl) (fun _ => rfl) (fun _ => rfl))) ?_) ?_
        · intro n d C h₅ hd hl Hn
          obtain ⟨hn, rfl⟩ := upto_some hd
          refine EvI.eq (ev_sum (cEnv_ok ok rfl) (hG.le (le.trans hl)) hh (EvN.l (ev_comp0 (cEnv_ok ok rfl) (src_range1 (cEnv_ok ok rfl) (hG.le (le.trans hl)) hh (ev_add (ev_name (cEnv_ok ok rfl) Hn) ev_const) (by omega) (by omega)) (fun k => itF F Ag j k * Ag (n - k)) ?_ (by rw [upto_length]; simp [sizeLine]; omega)
            rfl rfl (by decide) (fun _ => rfl) (.loc (fun _ => rfl) (fun _ => rfl))))) ?_
          · intro k d C' h₆ hd hl' Hk
            obtain ⟨hk, rfl⟩ := upto_some hd
            exact ev_mul (ev_idx (ev_nameL (cEnv_ok (cEnv_ok ok rfl) rfl) (((((S₄.has y6 (.inr ⟨rfl, _, rfl⟩)).le hl).into rfl rfl rfl).le hl').into rfl rfl rfl) ((lF.le hl).le hl')) (ev_name (cEnv_ok (cEnv_ok ok rfl) rfl) Hk) (by omega) (rangeMap_get (j := k) (by omega) (by omega)))
              (ev_idx (ev_nameL (cEnv_ok (cEnv_ok ok rfl) rfl) (((((S₄.has y7 (.inr ⟨rfl, _, rfl⟩)).le hl).into rfl rfl rfl).le hl').into rfl rfl rfl) ((lA.le hl).le hl')) (ev_sub (ev_name (cEnv_ok (cEnv_ok ok rfl) rfl) ((Hn.le hl').into rfl rfl rfl)) (ev_name (cEnv_ok (cEnv_ok ok rfl) rfl) Hk)) (by omega) (rangeMap_get (j := n - k) (by omega) (by omega)))
              (.of_right (hA _ (by omega)))
          · rw [upto_length, show (0 + (n : Int) + 1 - 0).toNat = n + 1 by omega]; rfl
        · rw [upto_length, show ((N : Int) + 1 - 0).toNat = N + 1 by omega]
        intro aF₂ h₅ tk₅ _ f₂ S₅
        have hh2 : ∀ c x, G₃ c = some x → upd G₃ aF₂ (.lp ((List.range (N + 1)).map (itF F Ag (j + 1)))) c = some x := fun c x e => (upd_ne (fun z => by have := f₂.g; rw [← z, e] at this; cases this)).trans e
        refine wpAny_execs_nil ⟨rfl, _, _, h₅, tk₅, rfl, S₅, (upd_ne (by decide)).trans y4, (upd_ne (by decide)).trans y7, (upd_ne (by decide)).trans y8, (upd_ne (by decide)).trans y9, hh2 _ _ gA₃, hh2 _ _ gN₃, aF₂, as' ++ [b], upd_self, upd_self, hh2 _ _ gO₃, ?_⟩
        have := hR'.up fun c r _ e => hh2 c _ e
        rw [rangeMap_succ (fun j => (List.range (N + 1)).map (cv (itF F Ag j) (neverF q Ag))) j]
        exact this
      · rintro ρ' G' h' tk' ⟨r4, r7, r8, r9, gA, gN, aF', as', r6, gF', gO, hR⟩ S'
        refine do_ret S' (ev_nameA ok (S'.has r9 (.inl rfl))) ?_
        intro v h'' tk'' le hv S''
        rw [upto_length, show ((N : Int) - (m : Int) + 1 - 0).toNat = N - m + 1 by omega] at hR
        exact ⟨v, h'', tk'', rfl, rfl, S''.kept, aO, as', hv, (S''.own _ _ gO).1, hR.st S''⟩
end Mine

namespace Mine

/-! tables of numbers -/
def dotR : List Int → (Nat → Int) → Int
  | [], _ => 0
  | x :: r, g => x * g 0 + dotR r fun i => g (i + 1)
def dotM : List (List Int) → (Nat → Nat → Int) → Int
  | [], _ => 0
  | r :: M, g => dotR r (g 0) + dotM M fun i => g (i + 1)
theorem dotR_set : ∀ (r : List Int) (g : Nat → Int) (k : Nat) (x : Int), k < r.length → dotR (r.set k x) g = dotR r g + (x - r.getD k 0) * g k
  | [], _, _, _, h => absurd h (Nat.not_lt_zero _)
  | y :: r, g, 0, x, _ => by
    simp only [List.set_cons_zero, dotR, List.getD_cons_zero]
    rw [Int.sub_mul]; omega
  | y :: r, g, k + 1, x, h => by
    simp only [List.set_cons_succ, dotR, List.getD_cons_succ]
    rw [dotR_set r _ k x (by simpa using h)]; omega
theorem dotM_set : ∀ (M : List (List Int)) (g : Nat → Nat → Int) (t : Nat) (r : List Int), t < M.length → dotM (M.set t r) g = dotM M g + (dotR r (g t) - dotR (M.getD t []) (g t))
  | [], _, _, _, h => absurd h (Nat.not_lt_zero _)
  | y :: M, g, 0, r, _ => by
    simp only [List.set_cons_zero, dotM, List.getD_cons_zero]; omega
  | y :: M, g, k + 1, r, h => by
    simp only [List.set_cons_succ, dotM, List.getD_cons_succ]
    rw [dotM_set M _ k r (by simpa using h)]; omega
theorem sum_range_succ' (f : Nat → Int) (n : Nat) : ((List.range (n + 1)).map f).sum = f 0 + ((List.range n).map fun i => f (i + 1)).sum := by
  rw [List.range_succ_eq_map, List.map_cons, List.sum_cons, List.map_map]; rfl
theorem sum_range_succ (f : Nat → Int) (n : Nat) : ((List.range (n + 1)).map f).sum = ((List.range n).map f).sum + f n := by
  rw [List.range_succ, List.map_append, List.sum_append]; simp
theorem dotR_range : ∀ (r : List Int) (g : Nat → Int), dotR r g = ((List.range r.length).map fun j => r.getD j 0 * g j).sum
  | [], _ => rfl
  | x :: r, g => by
    rw [List.length_cons, sum_range_succ', dotR, dotR_range r]; rfl
theorem dotM_range : ∀ (M : List (List Int)) (g : Nat → Nat → Int), dotM M g = ((List.range M.length).map fun s => dotR (M.getD s []) (g s)).sum
  | [], _ => rfl
  | r :: M, g => by
    rw [List.length_cons, sum_range_succ', dotM, dotM_range M]; rfl
theorem dotR_zero (n : Nat) : ∀ g, dotR (List.replicate n 0) g = 0 := by
  induction n with
  | zero => intro g; rfl
  | succ n ih => intro g; rw [List.replicate_succ, dotR, ih]; omega
theorem dotM_zero {α : Type} (l : List α) (K : Nat) : ∀ g, dotM (l.map fun _ => List.replicate K 0) g = 0 := by
  induction l with
  | nil => intro g; rfl
  | cons a l ih => intro g; rw [List.map_cons, dotM, ih, dotR_zero]; omega

/-- what is so of a table of ways behind n signs -/
structure Gd (m K n : Nat) (M : List (List Int)) : Prop where
  len : M.length = m + 1
  wid : ∀ (s : Nat) (r : List Int), M[s]? = some r → r.length = K
  pos : ∀ (s : Nat) (r : List Int) (j : Nat) (x : Int), M[s]? = some r → r[j]? = some x → (0 : Int) ≤ x
  sup : ∀ (s : Nat) (r : List Int) (j : Nat) (x : Int), M[s]? = some r → r[j]? = some x → x ≠ (0 : Int) → s ≤ n ∧ (j = 0 ∨ j + m ≤ n + 1)
theorem getD_some {α : Type} {l : List α} {i : Nat} {d : α} (h : i < l.length) : l[i]? = some (l.getD i d) := by simp [h]
def put (M : List (List Int)) (t o : Nat) (w : Int) : List (List Int) := M.set t ((M.getD t []).set o ((M.getD t []).getD o 0 + w))
theorem Gd.put {m K n M t o w} (x : Gd m K n M) (ht : t ≤ m) (ho : o < K) (hw : 0 ≤ w) (hs : w ≠ 0 → t ≤ n ∧ (o = 0 ∨ o + m ≤ n + 1)) : Gd m K n (put M t o w) := by
  have hl : t < M.length := by rw [x.len]; omega
  have hr : M[t]? = some (M.getD t []) := getD_some hl
  have hw' := x.wid t _ hr
  have hx : (M.getD t [])[o]? = some ((M.getD t []).getD o 0) := getD_some (by omega)
  have key : ∀ s r j y, (Mine.put M t o w)[s]? = some r → r[j]? = some y → (s = t ∧ j = o ∧ y = (M.getD t []).getD o 0 + w) ∨ ∃ r', M[s]? = some r' ∧ r'[j]? = some y := by
    intro s r j y h1 h2
    unfold Mine.put at h1
    by_cases q : s = t
    · subst q
      rw [List.getElem?_set_self hl] at h1; cases h1
      by_cases z : j = o
      · subst z
        rw [List.getElem?_set_self (by omega)] at h2; cases h2
        exact .inl ⟨rfl, rfl, rfl⟩
      · rw [List.getElem?_set_ne (Ne.symm z)] at h2
        exact .inr ⟨_, hr, h2⟩
    · rw [List.getElem?_set_ne (Ne.symm q)] at h1
      exact .inr ⟨r, h1, h2⟩
  refine ⟨by unfold Mine.put; simp [x.len], fun s r h1 => ?_, fun s r j y h1 h2 => ?_, fun s r j y h1 h2 h3 => ?_⟩
  · unfold Mine.put at h1
    by_cases q : s = t
    · subst q
      rw [List.getElem?_set_self hl] at h1; cases h1
      simpa using hw'
    · rw [List.getElem?_set_ne (Ne.symm q)] at h1
      exact x.wid s r h1
  · rcases key s r j y h1 h2 with ⟨_, _, rfl⟩ | ⟨r', h3, h4⟩
    · have := x.pos t _ o _ hr hx; omega
    · exact x.pos s r' j y h3 h4
  · rcases key s r j y h1 h2 with ⟨rfl, rfl, rfl⟩ | ⟨r', h4, h5⟩
    · by_cases q : (M.getD s []).getD j 0 = 0
      · exact hs (by omega)
      · exact x.sup s _ j _ hr hx q
    · exact x.sup s r' j y h4 h5 h3
theorem dot_put {m K n M t o w} (x : Gd m K n M) (ht : t ≤ m) (ho : o < K) (g : Nat → Nat → Int) : dotM (put M t o w) g = dotM M g + w * g t o := by
  have hl : t < M.length := by rw [x.len]; omega
  have hw' := x.wid t _ (getD_some (d := []) hl)
  unfold put
  rw [dotM_set M g t _ hl, dotR_set _ _ _ _ (by omega)]
  rw [show (M.getD t []).getD o 0 + w - (M.getD t []).getD o 0 = w by omega]; omega

/-! counting sign by sign -/
def stepSum (δ : Nat → Int → Nat) (cs : List Int) (m s j : Nat) (g : Nat → Nat → Int) : Int := (cs.map fun c => g (δ s c) (if δ s c = m then j + 1 else j)).sum
def Hc (δ : Nat → Int → Nat) (cs : List Int) (m : Nat) : Nat → Nat → Nat → Int
  | 0, _, J => if J = 0 then 1 else 0
  | d + 1, s, J => (cs.map fun c => if δ s c = m then (if J = 0 then 0 else Hc δ cs m d m (J - 1)) else Hc δ cs m d (δ s c) J).sum
def gH (δ : Nat → Int → Nat) (cs : List Int) (m d J : Nat) (s j : Nat) : Int := if j ≤ J then Hc δ cs m d s (J - j) else 0
theorem sum_congr {α : Type} {f g : α → Int} {l : List α} (h : ∀ a ∈ l, f a = g a) : (l.map f).sum = (l.map g).sum := by rw [List.map_congr_left h]
theorem sum_zero {α : Type} (l : List α) : (l.map fun _ => (0 : Int)).sum = 0 := by
  induction l with
  | nil => rfl
  | cons a l ih => rw [List.map_cons, List.sum_cons, ih]; rfl
theorem step_gH (δ : Nat → Int → Nat) (cs : List Int) (m d J s j : Nat) : stepSum δ cs m s j (gH δ cs m d J) = gH δ cs m (d + 1) J s j := by
  unfold stepSum gH
  by_cases h : j ≤ J
  · rw [if_pos h, Hc]
    apply sum_congr
    intro c _
    by_cases q : δ s c = m
    · rw [if_pos q, if_pos q, q]
      by_cases z : J - j = 0
      · rw [if_pos z, if_neg (by omega)]
      · rw [if_neg z, if_pos (by omega)]
        congr 1
    · rw [if_neg q, if_neg q, if_pos h]
  · rw [if_neg h]
    refine Eq.trans (sum_congr (g := fun _ => 0) ?_) (sum_zero cs)
    intro c _
    by_cases q : δ s c = m
    · rw [if_pos q, if_neg (by omega)]
    · rw [if_neg q, if_neg h]

structure Iv (δ : Nat → Int → Nat) (cs : List Int) (m K n : Nat) (M : List (List Int)) : Prop where
  good : Gd m K n M
  dot : ∀ d J, dotM M (gH δ cs m d J) = Hc δ cs m (n + d) 0 J
theorem inv_step {δ cs m K n M M'} (x : Iv δ cs m K n M) (g : Gd m K (n + 1) M') (h : ∀ f, dotM M' f = ((List.range (m + 1)).map fun s => ((List.range K).map fun j => (M.getD s []).getD j 0 * stepSum δ cs m s j f).sum).sum) : Iv δ cs m K (n + 1) M' := by
  refine ⟨g, fun d J => ?_⟩
  have e : ∀ f : Nat → Nat → Int, dotM M f = ((List.range (m + 1)).map fun s => ((List.range K).map fun j => (M.getD s []).getD j 0 * f s j).sum).sum := fun f => by
    rw [dotM_range, x.good.len]
    apply sum_congr
    intro s hs
    rw [dotR_range, x.good.wid s _ (getD_some (by rw [x.good.len]; exact List.mem_range.mp hs))]
  rw [h, show n + 1 + d = n + (d + 1) by omega, ← x.dot (d + 1) J, e]
  apply sum_congr
  intro s _
  apply sum_congr
  intro j _
  rw [step_gH]
/-- the sum of a column -/
theorem col_sum {δ cs m K n M} (x : Iv δ cs m K n M) (J : Nat) (hJ : J < K) : ((List.range (m + 1)).map fun s => (M.getD s []).getD J 0).sum = Hc δ cs m n 0 J := by
  have := x.dot 0 J
  rw [Nat.add_zero] at this
  rw [← this, dotM_range, x.good.len]
  apply sum_congr
  intro s hs
  have hw := x.good.wid s _ (getD_some (d := []) (by rw [x.good.len]; exact List.mem_range.mp hs))
  generalize M.getD s [] = r at *
  have hz : ∀ j, gH δ cs m 0 J s j = if j = J then 1 else 0 := fun j => by
    unfold gH
    by_cases q : j = J
    · subst q; simp [Hc]
    · by_cases z : j ≤ J
      · rw [if_pos z, Hc, if_neg (by omega), if_neg q]
      · rw [if_neg z, if_neg q]
  have gen : ∀ (r : List Int) (J : Nat), J < r.length → dotR r (fun j => if j = J then 1 else 0) = r.getD J 0 := by
    intro r
    induction r with
    | nil => intro J h; exact absurd h (Nat.not_lt_zero _)
    | cons y r ih =>
      intro J h
      cases J with
      | zero =>
        have zero : ∀ r : List Int, dotR r (fun i => if i + 1 = 0 then 1 else 0) = 0 := by
          intro r
          induction r with
          | nil => rfl
          | cons z r ih' =>
            have e : (fun i => (fun i => if i + 1 = 0 then (1 : Int) else 0) (i + 1)) = fun i => if i + 1 = 0 then 1 else 0 := by funext i; simp
            rw [dotR, e, ih']; simp
        rw [dotR, zero]; simp
      | succ J =>
        have e : (fun i => (fun j => if j = J + 1 then (1 : Int) else 0) (i + 1)) = fun i => if i = J then 1 else 0 := by
          funext i
          by_cases q : i = J <;> simp [q]
        rw [dotR, e, ih J (by simpa using h)]; simp
  rw [show gH δ cs m 0 J s = fun j => if j = J then 1 else 0 from funext hz, gen r J (by omega)]
theorem inv_zero {δ cs m K} (hK : 0 < K) : Iv δ cs m K 0 (([1] ++ List.replicate (K - 1) 0) :: (List.range m).map fun _ => List.replicate K 0) := by
  have rep : ∀ (n : Nat) (j : Nat) (y : Int), (List.replicate n (0 : Int))[j]? = some y → y = 0 := fun n j y h => by
    rw [List.getElem?_replicate] at h
    split at h
    · cases h; rfl
    · cases h
  refine ⟨⟨by simp, fun s r h => ?_, fun s r j y h1 h2 => ?_, fun s r j y h1 h2 h3 => ?_⟩, fun d J => ?_⟩
  · cases s with
    | zero => simp at h; subst h; simp; omega
    | succ s =>
      rw [List.getElem?_cons_succ, List.getElem?_map] at h
      cases q : (List.range m)[s]? with
      | none => rw [q] at h; cases h
      | some a => rw [q] at h; cases h; simp
  · cases s with
    | zero =>
      simp at h1; subst h1
      cases j with
      | zero => simp at h2; subst h2; decide
      | succ j => rw [List.getElem?_cons_succ] at h2; rw [rep _ _ _ h2]; decide
    | succ s =>
      rw [List.getElem?_cons_succ, List.getElem?_map] at h1
      cases q : (List.range m)[s]? with
      | none => rw [q] at h1; cases h1
      | some a => rw [q] at h1; cases h1; rw [rep _ _ _ h2]; decide
  · cases s with
    | zero =>
      simp at h1; subst h1
      cases j with
      | zero => exact ⟨Nat.le_refl _, .inl rfl⟩
      | succ j => rw [List.getElem?_cons_succ] at h2; exact absurd (rep _ _ _ h2) h3
    | succ s =>
      rw [List.getElem?_cons_succ, List.getElem?_map] at h1
      cases q : (List.range m)[s]? with
      | none => rw [q] at h1; cases h1
      | some a => rw [q] at h1; cases h1; exact absurd (rep _ _ _ h2) h3
  · rw [dotM, dotM_zero, show [1] ++ List.replicate (K - 1) (0 : Int) = 1 :: List.replicate (K - 1) 0 from rfl, dotR, dotR_zero]
    simp [gH]

/-! the steps: what a text ends with -/
def dlL (r : List Int) (s : Nat) (c : Int) : List Nat := (List.range (min (s + 1) r.length + 1)).filter fun k => decide ((r.take s ++ [c]).drop (s + 1 - k) = r.take k)
def dl (r : List Int) (s : Nat) (c : Int) : Nat := (dlL r s c).foldl max 0
theorem foldl_max (l : List Nat) : ∀ a, (l.foldl max a = a ∨ l.foldl max a ∈ l) ∧ a ≤ l.foldl max a ∧ ∀ x ∈ l, x ≤ l.foldl max a := by
  induction l with
  | nil => intro a; exact ⟨.inl rfl, Nat.le_refl _, fun x h => nomatch h⟩
  | cons b l ih =>
    intro a
    obtain ⟨h1, h2, h3⟩ := ih (max a b)
    rw [List.foldl_cons]
    refine ⟨?_, Nat.le_trans (Nat.le_max_left _ _) h2, fun x hx => ?_⟩
    · rcases h1 with h1 | h1
      · rw [h1]
        rcases Nat.le_total a b with q | q
        · rw [Nat.max_eq_right q]; exact .inr (.head _)
        · rw [Nat.max_eq_left q]; exact .inl rfl
      · exact .inr (.tail _ h1)
    · rcases List.mem_cons.mp hx with rfl | hx
      · exact Nat.le_trans (Nat.le_max_right _ _) h2
      · exact h3 x hx
theorem zero_dlL (r : List Int) (s : Nat) (c : Int) (hs : s ≤ r.length) : 0 ∈ dlL r s c := by
  unfold dlL
  rw [List.mem_filter]
  refine ⟨List.mem_range.mpr (by omega), decide_eq_true ?_⟩
  rw [List.take_zero, Nat.sub_zero]
  apply List.drop_eq_nil_of_le
  simp; omega
theorem dl_mem (r : List Int) (s : Nat) (c : Int) (hs : s ≤ r.length) : dl r s c ∈ dlL r s c := by
  rcases (foldl_max (dlL r s c) 0).1 with h | h
  · have e : dl r s c = 0 := h
    rw [e]; exact zero_dlL r s c hs
  · exact h
theorem dl_max (r : List Int) (s : Nat) (c : Int) : ∀ k ∈ dlL r s c, k ≤ dl r s c := (foldl_max (dlL r s c) 0).2.2
theorem dl_le (r : List Int) (s : Nat) (c : Int) (hs : s ≤ r.length) : dl r s c ≤ min (s + 1) r.length := by
  have := List.mem_range.mp (List.mem_filter.mp (dl_mem r s c hs)).1
  omega
end Mine

namespace Mine

/-! rows that are frozen, rows that are set -/
def RowsB (B : Addr → Option Obj) (as : List Addr) (rows : List (List Int)) : Prop := as.length = rows.length ∧ ∀ (i : Nat) (b : Addr) (r : List Int), as[i]? = some b → rows[i]? = some r → ∃ o, B b = some o ∧ ∀ h' : Heap, h'.get? b = some o → LI h' b r
theorem li_of_obj {h h' : Heap} {b : Addr} {o : Obj} {r : List Int} (x : LI h b r) (e : h.get? b = some o) (e' : h'.get? b = some o) : LI h' b r := by
  obtain ⟨vs, ⟨o', q, z⟩, i⟩ := x
  rw [e] at q; cases q
  exact ⟨vs, ⟨o, e', z⟩, i⟩
theorem give_rows {env : Env} {ρ : Str → Option D} {h : Heap} : ∀ (as : List Addr) (B : Addr → Option Obj) (G : Addr → Option Con), St B env ρ G h → (∀ b ∈ as, ∃ r, G b = some (.lp r)) →
    ∃ B' G', (∀ a o, B a = some o → B' a = some o) ∧ (∀ b ∈ as, ∃ o, B' b = some o ∧ h.get? b = some o) ∧ (∀ c, c ∉ as → G' c = G c) ∧ St B' env ρ G' h
  | [], B, G, S, _ => ⟨B, G, fun _ _ e => e, fun _ h => (nomatch h), fun _ _ => rfl, S⟩
  | b :: as, B, G, S, hb => by
    obtain ⟨B₁, G₁, h1, h2, h3, S₁⟩ := give_rows as B G S fun c hc => hb c (.tail _ hc)
    by_cases q : b ∈ as
    · refine ⟨B₁, G₁, h1, fun c hc => ?_, fun c hc => h3 c fun z => hc (.tail _ z), S₁⟩
      rcases List.mem_cons.mp hc with rfl | hc
      · exact h2 _ q
      · exact h2 c hc
    · obtain ⟨r, e⟩ := hb b (.head _)
      rw [← h3 b q] at e
      obtain ⟨o, ho⟩ := (S₁.own _ _ e).1.ex
      have hBb := (S₁.own _ _ e).2
      refine ⟨upd B₁ b o, fun c => if c = b then none else G₁ c, fun a o' e' => ?_, fun c hc => ?_, fun c hc => ?_, S₁.give e ho⟩
      · have e1 := h1 a o' e'
        rw [upd_ne (fun z => by rw [z, hBb] at e1; cases e1)]; exact e1
      · rcases List.mem_cons.mp hc with rfl | hc
        · exact ⟨o, upd_self, ho⟩
        · obtain ⟨o', q1, q2⟩ := h2 c hc
          exact ⟨o', by rw [upd_ne (show c ≠ b from fun z => q (z ▸ hc))]; exact q1, q2⟩
      · have n1 : c ≠ b := fun z => hc (by rw [z]; exact .head _)
        simp only [if_neg n1]
        exact h3 c fun z => hc (.tail _ z)

def RowsI (G : Addr → Option Con) (as : List Addr) (rows : List (List Int)) : Prop := as.length = rows.length ∧ ∀ (i : Nat) (b : Addr) (r : List Int), as[i]? = some b → rows[i]? = some r → G b = some (.li r)
theorem rowsI_put {G : Addr → Option Con} {as rows} (nd : as.Nodup) (hl : as.length = rows.length) : RowsI (putRows .li G as rows) as rows := ⟨hl, fun i b r h1 h2 => putRows_at nd h1 h2⟩
theorem RowsI.up {G G' : Addr → Option Con} {as rows} (x : RowsI G as rows) (h : ∀ b r, b ∈ as → G b = some (.li r) → G' b = some (.li r)) : RowsI G' as rows := ⟨x.1, fun i b r h1 h2 => h b r (List.mem_of_getElem? h1) (x.2 i b r h1 h2)⟩
theorem RowsI.at {G as rows b} (x : RowsI G as rows) (hb : b ∈ as) : ∃ r, G b = some (.li r) := by
  obtain ⟨j, hj, rfl⟩ := List.mem_iff_getElem.mp hb
  exact ⟨_, x.2 j _ _ (List.getElem?_eq_getElem hj) (List.getElem?_eq_getElem (x.1 ▸ hj))⟩
theorem RowsI.set {G : Addr → Option Con} {as rows t b r} (x : RowsI G as rows) (nd : as.Nodup) (hb : as[t]? = some b) : RowsI (upd G b (.li r)) as (rows.set t r) := by
  refine ⟨by simp [x.1], fun i c q h1 h2 => ?_⟩
  by_cases z : i = t
  · subst z
    rw [hb] at h1; cases h1
    rw [List.getElem?_set_self (by rw [← x.1]; exact (List.getElem?_eq_some_iff.mp hb).1)] at h2
    cases h2; exact upd_self
  · rw [List.getElem?_set_ne (Ne.symm z)] at h2
    have hc := x.2 i c q h1 h2
    rw [upd_ne]; exact hc
    intro e
    subst e
    have hi := (List.getElem?_eq_some_iff.mp h1)
    have ht := (List.getElem?_eq_some_iff.mp hb)
    exact z ((List.getElem_inj nd).mp (hi.2.trans ht.2.symm))

abbrev cS : Stmt := stmtAt 4

/-- what the counting's inner loops do not turn -/
structure CFix (aR aS aW aC aF : Addr) (m K : Nat) (sa wa ca fa : List Addr) (W Cr : List (List Int)) (ρ : Str → Option D) (G : Addr → Option Con) : Prop where
  size : ρ "size" = some (.int m)
  most : ρ "most" = some (.int K)
  steps : ρ "steps" = some (.ref aS)
  ways : ρ "ways" = some (.ref aW)
  counted : ρ "counted" = some (.ref aC)
  fresh : ρ "fresh" = some (.ref aF)
  gS : G aS = some (.lr sa)
  gW : G aW = some (.lr wa)
  gC : G aC = some (.lr ca)
  gF : G aF = some (.lr fa)
  rW : RowsI G wa W
  rC : RowsG G ca Cr
  nd : fa.Nodup
  off : ∀ b ∈ wa, b ∉ fa
theorem CFix.var {aR aS aW aC aF m K sa wa ca fa W Cr ρ G} (x : CFix aR aS aW aC aF m K sa wa ca fa W Cr ρ G) {y : Str} {d : D} (h : y ∉ (["size", "most", "steps", "ways", "counted", "fresh"] : List Str)) :
    CFix aR aS aW aC aF m K sa wa ca fa W Cr (upd ρ y d) G := by
  simp only [List.mem_cons, List.not_mem_nil, or_false, not_or] at h
  obtain ⟨h1, h2, h3, h4, h5, h6⟩ := h
  exact ⟨(upd_ne (Ne.symm h1)).trans x.size, (upd_ne (Ne.symm h2)).trans x.most, (upd_ne (Ne.symm h3)).trans x.steps, (upd_ne (Ne.symm h4)).trans x.ways, (upd_ne (Ne.symm h5)).trans x.counted, (upd_ne (Ne.symm h6)).trans x.fresh,
    x.gS, x.gW, x.gC, x.gF, x.rW, x.rC, x.nd, x.off⟩
theorem CFix.row {aR aS aW aC aF m K sa wa ca fa W Cr ρ G} (x : CFix aR aS aW aC aF m K sa wa ca fa W Cr ρ G) {b : Addr} {q r' : List Int} (hb : b ∈ fa) (e : G b = some (.li q)) : CFix aR aS aW aC aF m K sa wa ca fa W Cr ρ (upd G b (.li r')) := by
  have n1 : ∀ a l, G a = some (.lr l) → upd G b (.li r') a = some (.lr l) := fun a l h => (upd_ne (fun z => by rw [z, e] at h; cases h)).trans h
  exact ⟨x.size, x.most, x.steps, x.ways, x.counted, x.fresh, n1 _ _ x.gS, n1 _ _ x.gW, n1 _ _ x.gC, n1 _ _ x.gF,
    x.rW.up (fun c r hc h => (upd_ne (show c ≠ b from fun z => x.off c hc (z ▸ hb))).trans h), x.rC.up (fun c r _ h => (upd_ne (fun z => by rw [z, e] at h; cases h)).trans h), x.nd, x.off⟩

def ways0 (m : Nat) : List (List Int) := ([1] ++ List.replicate (m + 2 - 1) 0) :: (List.range m).map fun _ => List.replicate (m + 2) 0
theorem RowsG.set {G : Addr → Option Con} {as rows t b r} (x : RowsG G as rows) (nd : as.Nodup) (hb : as[t]? = some b) : RowsG (upd G b (.lp r)) as (rows.set t r) := by
  refine ⟨by simp [x.1], fun i c q h1 h2 => ?_⟩
  by_cases z : i = t
  · subst z
    rw [hb] at h1; cases h1
    rw [List.getElem?_set_self (by rw [← x.1]; exact (List.getElem?_eq_some_iff.mp hb).1)] at h2
    cases h2; exact upd_self
  · rw [List.getElem?_set_ne (Ne.symm z)] at h2
    have hc := x.2 i c q h1 h2
    rw [upd_ne]; exact hc
    intro e
    subst e
    have hi := (List.getElem?_eq_some_iff.mp h1)
    have ht := (List.getElem?_eq_some_iff.mp hb)
    exact z ((List.getElem_inj nd).mp (hi.2.trans ht.2.symm))

def forBody : Stmt → List Stmt
  | .For _ _ b _ _ => b
  | _ => []
def ifBody : Stmt → List Stmt
  | .If _ b _ _ => b
  | _ => []
def nBody : List Stmt := forBody ((fnBody cS).getD 6 (.Pass default))
def sBody : List Stmt := forBody (nBody.getD 1 (.Pass default))
def jBody : List Stmt := forBody (sBody.getD 0 (.Pass default))
def tBody : List Stmt := forBody ((ifBody (jBody.getD 0 (.Pass default))).getD 0 (.Pass default))

theorem sum_take_succ {f : Int → Int} {l : List Int} {i : Nat} {c : Int} (h : l[i]? = some c) : ((l.take (i + 1)).map f).sum = ((l.take i).map f).sum + f c := by
  rw [List.take_add_one, h]; simp

section
variable {prog : Program} {w : World} {A : Around} {s₀ : Shared} {B : Addr → Option Obj} {L : Addr} {qn : Str} {f : Addr} {cd : Value} {r cs : List Int} {aR aS aW aC aF : Addr} {n : Nat} {sa wa ca fa : List Addr} {W Cr : List (List Int)}

/-- what a table of fresh ways holds -/
def Fresh (m K n : Nat) (fa : List Addr) (Dg : (Nat → Nat → Int) → Int) (G : Addr → Option Con) : Prop := ∃ Fm, RowsI G fa Fm ∧ Gd m K (n + 1) Fm ∧ ∀ g, dotM Fm g = Dg g

/-- one step by one sign -/
theorem t_turn {ρ : Str → Option D} {G : Addr → Option Con} {h : Heap} {tk : Nat} {s j : Nat} {c : Int} {Dg : (Nat → Nat → Int) → Int} {E : Value → Shared → Prop}
    (hr : r.length ≤ 20) (hs : s ≤ r.length) (hj : j < r.length + 2) (hn : n < 2 * r.length) (hW : Gd r.length (r.length + 2) n W) (hpos : 0 < (W.getD s []).getD j 0)
    (S : St B (tEnv (fnScope cS) L qn f cd) ρ G h) (X : CFix aR aS aW aC aF r.length (r.length + 2) sa wa ca fa W Cr ρ G) (es : ρ "s" = some (.int (0 + (s : Int)))) (ej : ρ "j" = some (.int (0 + (j : Int)))) (et : ρ "t" = some (.int (dl r s c : Int)))
    (F : Fresh r.length (r.length + 2) n fa Dg G) :
    wpAny (model prog w) A (execs tBody (tEnv (fnScope cS) L qn f cd)) (fun fl s' => fl = .next ∧ ∃ ρ₂ G₂ h₂ tk₂, s' = mkS s₀ h₂ tk₂ ∧ St B (tEnv (fnScope cS) L qn f cd) ρ₂ G₂ h₂ ∧ CFix aR aS aW aC aF r.length (r.length + 2) sa wa ca fa W Cr ρ₂ G₂ ∧
      ρ₂ "s" = some (.int (0 + (s : Int))) ∧ ρ₂ "j" = some (.int (0 + (j : Int))) ∧
      Fresh r.length (r.length + 2) n fa (fun g => Dg g + (W.getD s []).getD j 0 * g (dl r s c) (if dl r s c = r.length then j + 1 else j)) G₂) E (mkS s₀ h tk) := by
  have ok : EnvOk (tEnv (fnScope cS) L qn f cd) := ⟨rfl, rfl, rfl⟩
  obtain ⟨Fm, hF, hGd, hDg⟩ := F
  have ht : dl r s c ≤ min (s + 1) r.length := dl_le r s c hs
  generalize dl r s c = t at *
  have hsW : s < W.length := by rw [hW.len]; omega
  have hWr := hW.wid s _ (getD_some (d := []) hsW)
  have hsup := hW.sup s _ j _ (getD_some (d := []) hsW) (getD_some (d := 0) (by omega)) (by omega)
  have htF : t < Fm.length := by rw [hGd.len]; omega
  have hFr := hGd.wid t _ (getD_some (d := []) htF)
  have ho : (if t = r.length then j + 1 else j) < r.length + 2 := by split <;> omega
  show wpAny _ _ (execs (_ :: _) _) _ _ _
  refine do_int (k := ((if t = r.length then j + 1 else j : Nat) : Int)) ok S (.inl rfl) (EvI.eq (ev_ife (tst_eq (ev_name ok (S.has et (.inl rfl))) (ev_name ok (S.has X.size (.inl rfl)))) (fun _ => ev_add (ev_name ok (S.has ej (.inr ⟨rfl, _, rfl⟩))) ev_const) (fun _ => ev_name ok (S.has ej (.inr ⟨rfl, _, rfl⟩)))) ?_) ?_
  · by_cases q : t = r.length
    · rw [if_pos (by simp [q]), if_pos q]; omega
    · rw [if_neg (by simp; omega), if_neg q]; omega
  intro h₁ tk₁ S₁
  have X₁ : CFix aR aS aW aC aF r.length (r.length + 2) sa wa ca fa W Cr (upd ρ "often" (.int ((if t = r.length then j + 1 else j : Nat) : Int))) G := X.var (by decide)
  have es₁ : (upd ρ "often" (.int ((if t = r.length then j + 1 else j : Nat) : Int))) "s" = some (.int (0 + (s : Int))) := (upd_ne (by decide)).trans es
  have ej₁ : (upd ρ "often" (.int ((if t = r.length then j + 1 else j : Nat) : Int))) "j" = some (.int (0 + (j : Int))) := (upd_ne (by decide)).trans ej
  have et₁ : (upd ρ "often" (.int ((if t = r.length then j + 1 else j : Nat) : Int))) "t" = some (.int (t : Int)) := (upd_ne (by decide)).trans et
  have eo₁ : (upd ρ "often" (.int ((if t = r.length then j + 1 else j : Nat) : Int))) "often" = some (.int ((if t = r.length then j + 1 else j : Nat) : Int)) := upd_self
  generalize upd ρ "often" (.int ((if t = r.length then j + 1 else j : Nat) : Int)) = ρ₁ at *
  generalize hod : (if t = r.length then j + 1 else j) = o at *
  have hta : t < fa.length := by rw [hF.1]; exact htF
  have hb : fa[t]? = some fa[t] := List.getElem?_eq_getElem hta
  have gb : G fa[t] = some (.li (Fm.getD t [])) := hF.2 t _ _ hb (getD_some (d := []) htF)
  have hsa : s < wa.length := by rw [X.rW.1]; exact hsW
  have hw : wa[s]? = some wa[s] := List.getElem?_eq_getElem hsa
  have gw : G wa[s] = some (.li (W.getD s [])) := X.rW.2 s _ _ hw (getD_some (d := []) hsW)
  have lF := (S₁.own _ _ X₁.gF).1
  have lW := (S₁.own _ _ X₁.gW).1
  refine do_set (ns := Fm.getD t []) S₁
    (ev_add (ev_idx (EvA.l (ev_idxR (EvA.r (ev_nameA ok (S₁.has X₁.fresh (.inl rfl))) lF) (ev_name ok (S₁.has et₁ (.inl rfl))) (by omega) (by simpa using hb)) (S₁.own _ _ gb).1) (ev_name ok (S₁.has eo₁ (.inl rfl))) (by omega) (getZ_of (j := o) rfl (by omega)))
      (ev_idx (EvA.l (ev_idxR (EvA.r (ev_nameA ok (S₁.has X₁.ways (.inl rfl))) lW) (ev_name ok (S₁.has es₁ (.inr ⟨rfl, _, rfl⟩))) (by omega) (by rw [show (0 + (s : Int)).toNat = s by omega]; exact hw)) (S₁.own _ _ gw).1) (ev_name ok (S₁.has ej₁ (.inr ⟨rfl, _, rfl⟩))) (by omega) (getZ_of (j := j) (by omega) (by omega))))
    (ev_idxR (EvA.r (ev_nameA ok (S₁.has X₁.fresh (.inl rfl))) lF) (ev_name ok (S₁.has et₁ (.inl rfl))) (by omega) (by simpa using hb)) (ev_name ok (S₁.has eo₁ (.inl rfl))) gb (fun _ x => x) (by omega) (by omega) (by omega) ?_
  intro h₂ tk₂ S₂
  rw [show ((o : Nat) : Int).toNat = o by omega] at S₂
  refine wpAny_execs_nil ⟨rfl, _, _, h₂, tk₂, rfl, S₂, X₁.row (List.mem_of_getElem? hb) gb, es₁, ej₁, put Fm t o ((W.getD s []).getD j 0), hF.set X.nd hb, hGd.put (by omega) (by omega) (by omega) (fun _ => ?_), fun g => ?_⟩
  · rw [← hod]
    refine ⟨by omega, ?_⟩
    split <;> omega
  · rw [dot_put hGd (by omega) (by omega), hDg]
end

theorem EvRows.eq {prog w A env h₁} {e : Expr} {a b : List (List Int)} (x : EvRows prog w A env h₁ e a) (h : a = b) : EvRows prog w A env h₁ e b := h ▸ x
theorem Tst.eq {prog w A env h₁} {e : Expr} {a b : Bool} (x : Tst prog w A env h₁ e a) (h : a = b) : Tst prog w A env h₁ e b := h ▸ x

end Mine

namespace Mine

section
variable {prog : Program} {w : World} {A : Around} {s₀ : Shared} {B : Addr → Option Obj} {L : Addr} {qn : Str} {f : Addr} {cd : Value} {r cs : List Int} {aR aS aW aC aF : Addr} {n : Nat} {sa wa ca fa : List Addr} {W Cr : List (List Int)}

theorem RowsB.mono {B B' : Addr → Option Obj} {as rows} (x : RowsB B as rows) (h : ∀ a o, B a = some o → B' a = some o) : RowsB B' as rows := ⟨x.1, fun i b q h1 h2 => by obtain ⟨o, e, k⟩ := x.2 i b q h1 h2; exact ⟨o, h _ _ e, k⟩⟩
theorem Fresh.eq {m K n fa Dg Dg' G} (x : Fresh m K n fa Dg G) (h : ∀ g, Dg g = Dg' g) : Fresh m K n fa Dg' G := let ⟨Fm, a, b, c⟩ := x; ⟨Fm, a, b, fun g => (c g).trans (h g)⟩
abbrev Steps (r cs : List Int) : List (List Int) := (List.range (r.length + 1)).map fun s => cs.map fun c => (dl r s c : Int)

theorem j_turn {ρ : Str → Option D} {G : Addr → Option Con} {h : Heap} {tk : Nat} {s j : Nat} {Dg : (Nat → Nat → Int) → Int} {E : Value → Shared → Prop} (hh : A.handled = none)
    (hr : r.length ≤ 20) (hs : s ≤ r.length) (hj : j < r.length + 2) (hn : n < 2 * r.length) (hW : Gd r.length (r.length + 2) n W) (hSt : RowsB B sa (Steps r cs))
    (S : St B (tEnv (fnScope cS) L qn f cd) ρ G h) (X : CFix aR aS aW aC aF r.length (r.length + 2) sa wa ca fa W Cr ρ G) (es : ρ "s" = some (.int (0 + (s : Int)))) (ej : ρ "j" = some (.int (0 + (j : Int))))
    (F : Fresh r.length (r.length + 2) n fa Dg G) :
    wpAny (model prog w) A (execs jBody (tEnv (fnScope cS) L qn f cd)) (fun fl s' => fl = .next ∧ ∃ ρ₂ G₂ h₂ tk₂, s' = mkS s₀ h₂ tk₂ ∧ St B (tEnv (fnScope cS) L qn f cd) ρ₂ G₂ h₂ ∧ CFix aR aS aW aC aF r.length (r.length + 2) sa wa ca fa W Cr ρ₂ G₂ ∧
      ρ₂ "s" = some (.int (0 + (s : Int))) ∧ Fresh r.length (r.length + 2) n fa (fun g => Dg g + (W.getD s []).getD j 0 * stepSum (dl r) cs r.length s j g) G₂) E (mkS s₀ h tk) := by
  have ok : EnvOk (tEnv (fnScope cS) L qn f cd) := ⟨rfl, rfl, rfl⟩
  have hsW : s < W.length := by rw [hW.len]; omega
  have hWr := hW.wid s _ (getD_some (d := []) hsW)
  have hsa : s < wa.length := by rw [X.rW.1]; exact hsW
  have hw : wa[s]? = some wa[s] := List.getElem?_eq_getElem hsa
  have gw : G wa[s] = some (.li (W.getD s [])) := X.rW.2 s _ _ hw (getD_some (d := []) hsW)
  have hss : s < sa.length := by rw [hSt.1]; simp; omega
  have hsr : sa[s]? = some sa[s] := List.getElem?_eq_getElem hss
  obtain ⟨o, hBo, hLo⟩ := hSt.2 s _ (cs.map fun c => (dl r s c : Int)) hsr (by rw [List.getElem?_map, List.getElem?_range (by omega)]; rfl)
  show wpAny _ _ (execs (_ :: _) _) _ _ _
  refine do_if S (tst_gt (ev_idx (EvA.l (ev_idxR (EvA.r (ev_nameA ok (S.has X.ways (.inl rfl))) (S.own _ _ X.gW).1) (ev_name ok (S.has es (.inr ⟨rfl, _, rfl⟩))) (by omega) (by rw [show (0 + (s : Int)).toNat = s by omega]; exact hw)) (S.own _ _ gw).1) (ev_name ok (S.has ej (.inr ⟨rfl, _, rfl⟩))) (by omega) (getZ_of (j := j) (by omega) (by omega))) ev_const) ?_ ?_
  · intro hb h₁ tk₁ S₁
    have hpos : 0 < (W.getD s []).getD j 0 := of_decide_eq_true hb
    refine do_for ok S₁ (.inl rfl) (src_ints hh (ev_idxR (EvA.r (ev_nameA ok (S₁.has X.steps (.inl rfl))) (S₁.own _ _ X.gS).1) (ev_name ok (S₁.has es (.inr ⟨rfl, _, rfl⟩))) (by omega) (by rw [show (0 + (s : Int)).toNat = s by omega]; exact hsr)) (hLo _ (S₁.kept _ _ hBo)) ⟨o, hBo⟩)
      (fun i ρ G => CFix aR aS aW aC aF r.length (r.length + 2) sa wa ca fa W Cr ρ G ∧ ρ "s" = some (.int (0 + (s : Int))) ∧ ρ "j" = some (.int (0 + (j : Int))) ∧
        Fresh r.length (r.length + 2) n fa (fun g => Dg g + (W.getD s []).getD j 0 * ((cs.take i).map fun c => g (dl r s c) (if dl r s c = r.length then j + 1 else j)).sum) G)
      ⟨X, es, ej, F.eq fun g => by simp⟩ ?_ ?_
    · intro i d B' ρ₂ G₂ h₂ tk₂ hd hJ hBB S₂ E'
      obtain ⟨X₂, es₂, ej₂, F₂⟩ := hJ
      rw [List.getElem?_map, List.getElem?_map] at hd
      cases hc : cs[i]? with
      | none => rw [hc] at hd; cases hd
      | some c =>
      rw [hc] at hd; cases hd
      refine wpAny_mono (t_turn (c := c) hr hs hj hn hW hpos S₂ (X₂.var (by decide)) ((upd_ne (by decide)).trans es₂) ((upd_ne (by decide)).trans ej₂) upd_self F₂) (fun fl s' hf => ?_) fun _ _ e => e
      obtain ⟨rfl, ρ₃, G₃, h₃, tk₃, rfl, S₃, X₃, es₃, ej₃, F₃⟩ := hf
      refine ⟨rfl, ρ₃, G₃, h₃, tk₃, rfl, S₃, X₃, es₃, ej₃, F₃.eq fun g => ?_⟩
      rw [sum_take_succ (f := fun c => g (dl r s c) (if dl r s c = r.length then j + 1 else j)) hc, Int.mul_add, Int.add_assoc]
    · rintro ρ' G' h' tk' ⟨X', es', ej', F'⟩ S'
      refine wpAny_execs_nil (wpAny_execs_nil ⟨rfl, ρ', G', h', tk', rfl, S', X', es', F'.eq fun g => ?_⟩)
      rw [List.length_map, List.length_map, List.take_length]; rfl
  · intro hb h₁ tk₁ S₁
    have hz : (W.getD s []).getD j 0 = 0 := by
      have h1 := of_decide_eq_false hb
      have h2 := hW.pos s _ j _ (getD_some (d := []) hsW) (getD_some (d := 0) (by omega))
      omega
    refine wpAny_execs_nil (wpAny_execs_nil ⟨rfl, ρ, G, h₁, tk₁, rfl, S₁, X, es, F.eq fun g => ?_⟩)
    rw [hz]; omega

theorem s_turn {ρ : Str → Option D} {G : Addr → Option Con} {h : Heap} {tk : Nat} {s : Nat} {Dg : (Nat → Nat → Int) → Int} {E : Value → Shared → Prop} (hh : A.handled = none) (hGl : ∀ h : Heap, (∀ a o, B a = some o → h.get? a = some o) → Glb h)
    (hr : r.length ≤ 20) (hs : s ≤ r.length) (hn : n < 2 * r.length) (hW : Gd r.length (r.length + 2) n W) (hSt : RowsB B sa (Steps r cs))
    (S : St B (tEnv (fnScope cS) L qn f cd) ρ G h) (X : CFix aR aS aW aC aF r.length (r.length + 2) sa wa ca fa W Cr ρ G) (es : ρ "s" = some (.int (0 + (s : Int))))
    (F : Fresh r.length (r.length + 2) n fa Dg G) :
    wpAny (model prog w) A (execs sBody (tEnv (fnScope cS) L qn f cd)) (fun fl s' => fl = .next ∧ ∃ ρ₂ G₂ h₂ tk₂, s' = mkS s₀ h₂ tk₂ ∧ St B (tEnv (fnScope cS) L qn f cd) ρ₂ G₂ h₂ ∧ CFix aR aS aW aC aF r.length (r.length + 2) sa wa ca fa W Cr ρ₂ G₂ ∧
      Fresh r.length (r.length + 2) n fa (fun g => Dg g + ((List.range (r.length + 2)).map fun j => (W.getD s []).getD j 0 * stepSum (dl r) cs r.length s j g).sum) G₂) E (mkS s₀ h tk) := by
  have ok : EnvOk (tEnv (fnScope cS) L qn f cd) := ⟨rfl, rfl, rfl⟩
  show wpAny _ _ (execs (_ :: _) _) _ _ _
  refine do_for ok S (.inr ⟨rfl, _, rfl⟩) (src_range1 ok (hGl _ S.kept) hh (ev_name ok (S.has X.most (.inr ⟨rfl, _, rfl⟩))) (by omega) (by omega))
    (fun j ρ G => CFix aR aS aW aC aF r.length (r.length + 2) sa wa ca fa W Cr ρ G ∧ ρ "s" = some (.int (0 + (s : Int))) ∧
      Fresh r.length (r.length + 2) n fa (fun g => Dg g + ((List.range j).map fun j => (W.getD s []).getD j 0 * stepSum (dl r) cs r.length s j g).sum) G)
    ⟨X, es, F.eq fun g => by simp⟩ ?_ ?_
  · intro j d B' ρ₂ G₂ h₂ tk₂ hd hJ hBB S₂ E'
    obtain ⟨X₂, es₂, F₂⟩ := hJ
    obtain ⟨hj, rfl⟩ := upto_some hd
    refine wpAny_mono (j_turn hh hr hs (j := j) (by omega) hn hW (hSt.mono hBB) S₂ (X₂.var (by decide)) ((upd_ne (by decide)).trans es₂) upd_self F₂) (fun fl s' hf => ?_) fun _ _ e => e
    obtain ⟨rfl, ρ₃, G₃, h₃, tk₃, rfl, S₃, X₃, es₃, F₃⟩ := hf
    refine ⟨rfl, ρ₃, G₃, h₃, tk₃, rfl, S₃, X₃, es₃, F₃.eq fun g => ?_⟩
    rw [sum_range_succ, Int.add_assoc]
  · rintro ρ' G' h' tk' ⟨X', es', F'⟩ S'
    refine wpAny_execs_nil ⟨rfl, ρ', G', h', tk', rfl, S', X', F'.eq fun g => ?_⟩
    rw [upto_length, show (((r.length + 2 : Nat) : Int) - 0).toNat = r.length + 2 by omega]
end
end Mine

namespace Mine

theorem gd_zero (m K n : Nat) : Gd m K n ((List.range (m + 1)).map fun _ => List.replicate K 0) := by
  have rep : ∀ (n : Nat) (j : Nat) (y : Int), (List.replicate n (0 : Int))[j]? = some y → y = 0 := fun n j y h => by
    rw [List.getElem?_replicate] at h
    split at h
    · cases h; rfl
    · cases h
  have row : ∀ (s : Nat) (q : List Int), ((List.range (m + 1)).map fun _ => List.replicate K (0 : Int))[s]? = some q → q = List.replicate K 0 := fun s q h => by
    rw [List.getElem?_map] at h
    cases e : (List.range (m + 1))[s]? with
    | none => rw [e] at h; cases h
    | some a => rw [e] at h; cases h; rfl
  refine ⟨by simp, fun s q h => by rw [row s q h]; simp, fun s q j y h1 h2 => ?_, fun s q j y h1 h2 h3 => ?_⟩
  · rw [row s q h1] at h2; rw [rep _ _ _ h2]; decide
  · rw [row s q h1] at h2; exact absurd (rep _ _ _ h2) h3

abbrev CR (r cs : List Int) (n : Nat) : List (List Int) := (List.range (r.length + 2)).map fun j => (List.range (n + 1)).map fun i => Hc (dl r) cs r.length i 0 j
def Mix (r cs : List Int) (n j : Nat) : List (List Int) := (List.range (r.length + 2)).map fun j' => (List.range (if j' < j then n + 2 else n + 1)).map fun i => Hc (dl r) cs r.length i 0 j'
theorem mix_zero (r cs : List Int) (n : Nat) : Mix r cs n 0 = CR r cs n := by
  unfold Mix CR; apply List.map_congr_left; intro j _; rw [if_neg (Nat.not_lt_zero _)]
theorem mix_end (r cs : List Int) (n : Nat) : Mix r cs n (r.length + 2) = CR r cs (n + 1) := by
  unfold Mix CR; apply List.map_congr_left; intro j hj; rw [if_pos (List.mem_range.mp hj)]
theorem mix_get (r cs : List Int) (n j : Nat) (hj : j < r.length + 2) : (Mix r cs n j)[j]? = some ((List.range (n + 1)).map fun i => Hc (dl r) cs r.length i 0 j) := by
  unfold Mix; rw [List.getElem?_map, List.getElem?_range hj]; simp
theorem mix_set (r cs : List Int) (n j : Nat) (hj : j < r.length + 2) : (Mix r cs n j).set j ((List.range (n + 1)).map (fun i => Hc (dl r) cs r.length i 0 j) ++ [Hc (dl r) cs r.length (n + 1) 0 j]) = Mix r cs n (j + 1) := by
  apply List.ext_getElem?
  intro i
  by_cases q : i = j
  · subst q
    rw [List.getElem?_set_self (by simpa [Mix] using hj)]
    unfold Mix
    rw [List.getElem?_map, List.getElem?_range hj]
    simp only [Option.map_some, if_pos (Nat.lt_succ_self _)]
    rw [rangeMap_succ _ (n + 1)]
  · rw [List.getElem?_set_ne (Ne.symm q)]
    unfold Mix
    rw [List.getElem?_map, List.getElem?_map]
    cases e : (List.range (r.length + 2))[i]? with
    | none => rfl
    | some a =>
      have ha : a = i := by
        have hl := (List.getElem?_eq_some_iff.mp e)
        rw [← hl.2]; simp
      subst ha
      simp only [Option.map_some]
      by_cases z : a < j
      · rw [if_pos z, if_pos (Nat.lt_succ_of_lt z)]
      · rw [if_neg z, if_neg (by omega)]

section
variable {prog : Program} {w : World} {A : Around} {s₀ : Shared} {B : Addr → Option Obj} {L : Addr} {qn : Str} {f : Addr} {cd : Value} {r cs : List Int} {aS aC : Addr} {n : Nat} {sa ca : List Addr}

structure NJ (aS aC : Addr) (sa ca : List Addr) (r cs : List Int) (n : Nat) (ρ : Str → Option D) (G : Addr → Option Con) : Prop where
  size : ρ "size" = some (.int r.length)
  most : ρ "most" = some (.int ((r.length + 2 : Nat) : Int))
  steps : ρ "steps" = some (.ref aS)
  counted : ρ "counted" = some (.ref aC)
  gS : G aS = some (.lr sa)
  gC : G aC = some (.lr ca)
  rC : RowsG G ca (CR r cs n)
  ways : ∃ aW wa W, ρ "ways" = some (.ref aW) ∧ G aW = some (.lr wa) ∧ RowsI G wa W ∧ Iv (dl r) cs r.length (r.length + 2) n W

/-- the end of a turn: the sums go behind the rows of counted -/
def eBody : List Stmt := forBody (nBody.getD 3 (.Pass default))
theorem e_turn {ρ : Str → Option D} {G : Addr → Option Con} {h : Heap} {tk : Nat} {j : Nat} {aF : Addr} {fa : List Addr} {Fm : List (List Int)} {E : Value → Shared → Prop} (hh : A.handled = none) (hGl : ∀ h : Heap, (∀ a o, B a = some o → h.get? a = some o) → Glb h)
    (hr : r.length ≤ 20) (hj : j < r.length + 2) (hn : n < 1000) (nd : ca.Nodup) (hI : Iv (dl r) cs r.length (r.length + 2) (n + 1) Fm)
    (S : St B (tEnv (fnScope cS) L qn f cd) ρ G h) (e1 : ρ "counted" = some (.ref aC)) (e2 : ρ "ways" = some (.ref aF)) (ej : ρ "j" = some (.int (0 + (j : Int))))
    (gC : G aC = some (.lr ca)) (gF : G aF = some (.lr fa)) (hF : RowsI G fa Fm) (hC : RowsG G ca (Mix r cs n j)) {Q : Flow → Shared → Prop}
    (K : ∀ b h₂ tk₂, ca[j]? = some b → G b = some (.lp ((List.range (n + 1)).map fun i => Hc (dl r) cs r.length i 0 j)) → St B (tEnv (fnScope cS) L qn f cd) ρ (upd G b (.lp ((List.range (n + 1)).map (fun i => Hc (dl r) cs r.length i 0 j) ++ [Hc (dl r) cs r.length (n + 1) 0 j]))) h₂ → Q .next (mkS s₀ h₂ tk₂)) :
    wpAny (model prog w) A (execs eBody (tEnv (fnScope cS) L qn f cd)) Q E (mkS s₀ h tk) := by
  have ok : EnvOk (tEnv (fnScope cS) L qn f cd) := ⟨rfl, rfl, rfl⟩
  have hjc : j < ca.length := by rw [hC.1]; simpa [Mix] using hj
  have hb : ca[j]? = some ca[j] := List.getElem?_eq_getElem hjc
  have gb := hC.2 j _ _ hb (mix_get r cs n j hj)
  have lF := (S.own _ _ gF).1
  have hGh := hGl _ S.kept
  have lfa : fa.length = r.length + 1 := by rw [hF.1, hI.good.len]
  show wpAny _ _ (execs (_ :: _) _) _ _ _
  refine do_appI S (ev_idxR (EvA.r (ev_nameA ok (S.has e1 (.inl rfl))) (S.own _ _ gC).1) (ev_name ok (S.has ej (.inr ⟨rfl, _, rfl⟩))) (by omega) (by rw [show (0 + (j : Int)).toNat = j by omega]; exact hb))
    (EvI.eq (b := Hc (dl r) cs r.length (n + 1) 0 j) (ev_sum ok hGh hh (EvN.l (ev_comp0 ok (src_refs hh (ev_nameA ok (S.has e2 (.inl rfl))) lF lF.some) (fun i => (Fm.getD i []).getD j 0) ?_ ?_ rfl rfl (by decide) (fun _ => rfl) (.loc (fun _ => rfl) (fun _ => rfl))))) ?_) gb (by simp [sizeLine]; omega) ?_
  · intro i d C h₂ hd hl Hk
    rw [List.getElem?_map] at hd
    cases hc : fa[i]? with
    | none => rw [hc] at hd; cases hd
    | some b =>
    rw [hc] at hd; cases hd
    have hi : i < Fm.length := by rw [← hF.1]; exact (List.getElem?_eq_some_iff.mp hc).1
    have gi := hF.2 i b _ hc (getD_some (d := []) hi)
    have wi := hI.good.wid i _ (getD_some (d := []) hi)
    exact ev_idx (EvA.l (ev_nameA (cEnv_ok ok rfl) Hk) (LI.le (S.own _ _ gi).1 hl)) (ev_name (cEnv_ok ok rfl) (((S.has ej (.inr ⟨rfl, _, rfl⟩)).le hl).into rfl rfl rfl)) (by omega) (getZ_of (j := j) (by omega) (by omega))
  · rw [List.length_map, lfa]; simp [sizeLine]; omega
  · rw [List.length_map, lfa]; exact col_sum hI j hj
  · intro h₂ tk₂ S₂
    exact wpAny_execs_nil (K _ h₂ tk₂ hb gb S₂)

set_option maxHeartbeats 1000000 in
theorem n_turn {ρ : Str → Option D} {G : Addr → Option Con} {h : Heap} {tk : Nat} {E : Value → Shared → Prop} (hh : A.handled = none) (hGl : ∀ h : Heap, (∀ a o, B a = some o → h.get? a = some o) → Glb h)
    (hr : r.length ≤ 20) (hn : n < 2 * r.length) (nd : ca.Nodup) (hSt : RowsB B sa (Steps r cs)) (S : St B (tEnv (fnScope cS) L qn f cd) ρ G h) (X : NJ aS aC sa ca r cs n ρ G) :
    wpAny (model prog w) A (execs nBody (tEnv (fnScope cS) L qn f cd)) (fun fl s' => fl = .next ∧ ∃ ρ₂ G₂ h₂ tk₂, s' = mkS s₀ h₂ tk₂ ∧ St B (tEnv (fnScope cS) L qn f cd) ρ₂ G₂ h₂ ∧ NJ aS aC sa ca r cs (n + 1) ρ₂ G₂) E (mkS s₀ h tk) := by
  have ok : EnvOk (tEnv (fnScope cS) L qn f cd) := ⟨rfl, rfl, rfl⟩
  obtain ⟨aW, wa, W, eW, gW, rW, hI⟩ := X.ways
  show wpAny _ _ (execs (_ :: _) _) _ _ _
  refine do_compR (mk := .li) (fun _ _ _ x => LP.li x) ok S (.inl rfl) (src_range1 ok (hGl _ S.kept) hh (ev_add (ev_name ok (S.has X.size (.inl rfl))) ev_const) (by omega) (by omega)) (fun _ => List.replicate (r.length + 2) 0) ?_ ?_ ?_ rfl rfl rfl (by decide) (fun _ => rfl) (.loc (fun _ => rfl) (fun _ => rfl))
  · intro i d C h₂ hd hl Hk
    refine EvN.eq (ev_rep ev_const (ev_name (cEnv_ok ok rfl) (((S.has X.most (.inr ⟨rfl, _, rfl⟩)).le hl).into rfl rfl rfl)) (by omega) (by omega)) ?_
    rw [show ((r.length + 2 : Nat) : Int).toNat = r.length + 2 by omega]
  · intro aF fa h₁ tk₁ _ fF nd' hFa hlF hfr S₁
    rw [upto_length, show ((r.length : Int) + 1 - 0).toNat = r.length + 1 by omega] at hlF S₁
    have gg : ∀ c x, G c = some x → upd (putRows .li G fa ((List.range (r.length + 1)).map fun _ => List.replicate (r.length + 2) 0)) aF (.lr fa) c = some x := fun c x e => by
      rw [upd_ne (fun z => by have := fF.g; rw [← z, e] at this; cases this), putRows_off (fun z => by have := (hfr _ z).2.g; rw [e] at this; cases this)]; exact e
    have hF₁ : RowsI (upd (putRows .li G fa ((List.range (r.length + 1)).map fun _ => List.replicate (r.length + 2) 0)) aF (.lr fa)) fa ((List.range (r.length + 1)).map fun _ => List.replicate (r.length + 2) 0) :=
      (rowsI_put (G := G) nd' (by rw [hlF]; simp)).up fun b q hb e => (upd_ne (show b ≠ aF from fun z => hFa (z ▸ hb))).trans e
    have X₁ : CFix aS aS aW aC aF r.length (r.length + 2) sa wa ca fa W (CR r cs n) (upd ρ "fresh" (.ref aF)) (upd (putRows .li G fa ((List.range (r.length + 1)).map fun _ => List.replicate (r.length + 2) 0)) aF (.lr fa)) :=
      ⟨(upd_ne (by decide)).trans X.size, (upd_ne (by decide)).trans X.most, (upd_ne (by decide)).trans X.steps, (upd_ne (by decide)).trans eW, (upd_ne (by decide)).trans X.counted, upd_self, gg _ _ X.gS, gg _ _ gW, gg _ _ X.gC, upd_self,
        rW.up (fun b q _ e => gg _ _ e), X.rC.up (fun b q _ e => gg _ _ e), nd', fun b hb z => by obtain ⟨q, e⟩ := rW.at hb; have := (hfr _ z).2.g; rw [e] at this; cases this⟩
    generalize upd (putRows .li G fa ((List.range (r.length + 1)).map fun _ => List.replicate (r.length + 2) 0)) aF (.lr fa) = G₁ at *
    generalize upd ρ "fresh" (.ref aF) = ρ₁ at *
    have F₁ : Fresh r.length (r.length + 2) n fa (fun g => ((List.range 0).map fun s => ((List.range (r.length + 2)).map fun j => (W.getD s []).getD j 0 * stepSum (dl r) cs r.length s j g).sum).sum) G₁ :=
      ⟨_, hF₁, gd_zero _ _ _, fun g => by rw [dotM_zero]; rfl⟩
    refine do_for ok S₁ (.inr ⟨rfl, _, rfl⟩) (src_range1 ok (hGl _ S₁.kept) hh (ev_add (ev_name ok (S₁.has X₁.size (.inl rfl))) ev_const) (by omega) (by omega))
      (fun s ρ G => CFix aS aS aW aC aF r.length (r.length + 2) sa wa ca fa W (CR r cs n) ρ G ∧
        Fresh r.length (r.length + 2) n fa (fun g => ((List.range s).map fun s => ((List.range (r.length + 2)).map fun j => (W.getD s []).getD j 0 * stepSum (dl r) cs r.length s j g).sum).sum) G)
      ⟨X₁, F₁⟩ ?_ ?_
    · intro i d B' ρ₂ G₂ h₂ tk₂ hd hJ hBB S₂ E'
      obtain ⟨X₂, F₂⟩ := hJ
      obtain ⟨hi, rfl⟩ := upto_some hd
      refine wpAny_mono (s_turn hh (fun h hk => hGl h fun a o e => hk a o (hBB a o e)) hr (s := i) (by omega) hn hI.good (hSt.mono hBB) S₂ (X₂.var (by decide)) upd_self F₂) (fun fl s' hf => ?_) fun _ _ e => e
      obtain ⟨rfl, ρ₃, G₃, h₃, tk₃, rfl, S₃, X₃, F₃⟩ := hf
      exact ⟨rfl, ρ₃, G₃, h₃, tk₃, rfl, S₃, X₃, F₃.eq fun g => (sum_range_succ _ _).symm⟩
    · rintro ρ₂ G₂ h₂ tk₂ ⟨X₂, F₂⟩ S₂
      rw [upto_length, show ((r.length : Int) + 1 - 0).toNat = r.length + 1 by omega] at F₂
      obtain ⟨Fm, hF, hGd, hDg⟩ := F₂
      have hI' : Iv (dl r) cs r.length (r.length + 2) (n + 1) Fm := inv_step hI hGd hDg
      refine do_ref ok S₂ (.inl rfl) (ev_nameA ok (S₂.has X₂.fresh (.inl rfl))) ?_
      intro h₃ tk₃ S₃
      have y1 : (upd ρ₂ "ways" (.ref aF)) "most" = some (.int ((r.length + 2 : Nat) : Int)) := (upd_ne (by decide)).trans X₂.most
      refine do_for ok S₃ (.inr ⟨rfl, _, rfl⟩) (src_range1 ok (hGl _ S₃.kept) hh (ev_name ok (S₃.has y1 (.inr ⟨rfl, _, rfl⟩))) (by omega) (by omega))
        (fun j ρ G => ρ "size" = some (.int r.length) ∧ ρ "most" = some (.int ((r.length + 2 : Nat) : Int)) ∧ ρ "steps" = some (.ref aS) ∧ ρ "counted" = some (.ref aC) ∧ ρ "ways" = some (.ref aF) ∧ G aS = some (.lr sa) ∧ G aC = some (.lr ca) ∧ G aF = some (.lr fa) ∧ RowsI G fa Fm ∧ RowsG G ca (Mix r cs n j))
        ⟨(upd_ne (by decide)).trans X₂.size, y1, (upd_ne (by decide)).trans X₂.steps, (upd_ne (by decide)).trans X₂.counted, upd_self, X₂.gS, X₂.gC, X₂.gF, hF, by rw [mix_zero]; exact X₂.rC⟩ ?_ ?_
      · intro j d B' ρ₄ G₄ h₄ tk₄ hd hJ hBB S₄ E'
        obtain ⟨a1, a2, a3, a4, a5, b1, b2, b3, c1, c2⟩ := hJ
        obtain ⟨hj, rfl⟩ := upto_some hd
        refine e_turn hh (fun h hk => hGl h fun a o e => hk a o (hBB a o e)) hr (j := j) (by omega) (by omega) nd hI' S₄ ((upd_ne (by decide)).trans a4) ((upd_ne (by decide)).trans a5) upd_self b2 b3 c1 c2 ?_
        intro b h₅ tk₅ hb gb S₅
        have nl : ∀ a l, G₄ a = some (.lr l) → upd G₄ b (.lp ((List.range (n + 1)).map (fun i => Hc (dl r) cs r.length i 0 j) ++ [Hc (dl r) cs r.length (n + 1) 0 j])) a = some (.lr l) := fun a l e => (upd_ne (fun z => by rw [z, gb] at e; cases e)).trans e
        refine ⟨rfl, _, _, h₅, tk₅, rfl, S₅, (upd_ne (by decide)).trans a1, (upd_ne (by decide)).trans a2, (upd_ne (by decide)).trans a3, (upd_ne (by decide)).trans a4, (upd_ne (by decide)).trans a5, nl _ _ b1, nl _ _ b2, nl _ _ b3,
          c1.up (fun c q _ e => (upd_ne (fun z => by rw [z, gb] at e; cases e)).trans e), ?_⟩
        have := c2.set (r := (List.range (n + 1)).map (fun i => Hc (dl r) cs r.length i 0 j) ++ [Hc (dl r) cs r.length (n + 1) 0 j]) nd hb
        rwa [mix_set r cs n j (by omega)] at this
      · rintro ρ₄ G₄ h₄ tk₄ ⟨a1, a2, a3, a4, a5, b1, b2, b3, c1, c2⟩ S₄
        rw [upto_length, show (((r.length + 2 : Nat) : Int) - 0).toNat = r.length + 2 by omega, mix_end] at c2
        exact wpAny_execs_nil ⟨rfl, ρ₄, G₄, h₄, tk₄, rfl, S₄, a1, a2, a3, a4, b1, b2, c2, aF, fa, Fm, a5, b3, c1, hI'⟩
  · rw [upto_length]; simp [sizeLine]; omega
end
end Mine

namespace Mine

set_option maxHeartbeats 4000000 in
theorem counted_body {prog : Program} {w : World} {A : Around} {s : Shared} {L : Addr} {qn : Str} {f : Addr} {cd : Value} {aR aG : Addr} {r cs : List Int} {N : Nat} {h : Heap} {tk : Nat} (hh : A.handled = none) (hu : A.units + 64 < cLine)
    (S : St s.heap.get? (tEnv (fnScope cS) L qn f cd) (upd (upd (upd (fun _ => none) "row" (.ref aR)) "signs" (.ref aG)) "length" (.int N)) (fun _ => none) h) (hR : LI s.heap aR r) (hC : LI s.heap aG cs) (hG : Glb s.heap)
    (hr : r.length ≤ 20) (hcs : cs.length ≤ 100) (hN : N = 2 * r.length) (hr0 : 1 ≤ r.length) (E : Value → Shared → Prop) :
    wpAny (model prog w) A (execs (fnBody cS) (tEnv (fnScope cS) L qn f cd)) (fun fl s' => ∃ v h' tk', fl = .ret v ∧ s' = mkS s h' tk' ∧ Le s.heap h' ∧ ∃ a as, v = .ref a ∧ LR h' a as ∧
      RowsP h' as ((List.range (r.length + 2)).map fun j => (List.range (N + 1)).map fun n => Hc (dl r) cs r.length n 0 j)) E (mkS s h tk) := by
  have ok : EnvOk (tEnv (fnScope cS) L qn f cd) := ⟨rfl, rfl, rfl⟩
  show wpAny _ _ (execs (_ :: _) _) _ _ _
  refine do_int ok S (.inl rfl) (ev_len ok (hG.le S.kept) (ev_nameL ok (S.has rfl (.inr ⟨rfl, _, rfl⟩)) (hR.le S.kept)) (by omega)) ?_
  intro h₁ tk₁ S₁
  refine do_assign ok S₁ (.inl rfl) (ev_list0 (prog := prog) (w := w) (A := A)) (fun v h₂ le hv => ?_) rfl
  obtain ⟨aS, rfl, hnS, LS⟩ := hv
  have LS' : LR h₂ aS [] := by
    obtain ⟨vs, hp, i⟩ := LS
    cases i; exact hp
  refine ⟨.ref aS, upd (fun _ => none) aS (.lr []), rfl, (S₁.le le).add (S₁.new hnS) LS', fun h₃ tk₃ S₃ => ?_⟩
  refine do_for ok S₃ (.inr ⟨rfl, _, rfl⟩) (src_range1 ok (hG.le S₃.kept) hh (ev_add (ev_name ok (S₃.has rfl (.inl rfl))) ev_const) (by omega) (by omega))
    (fun i ρ G => ρ "row" = some (.ref aR) ∧ ρ "signs" = some (.ref aG) ∧ ρ "length" = some (.int N) ∧ ρ "size" = some (.int r.length) ∧ ρ "steps" = some (.ref aS) ∧
      ∃ as, G aS = some (.lr as) ∧ RowsG G as ((List.range i).map fun s => cs.map fun c => (dl r s c : Int))) ⟨rfl, rfl, rfl, rfl, rfl, [], upd_self, rfl, fun i b q h1 => by simp at h1⟩ ?_ ?_
  · intro i d B' ρ₁ G₁ h₄ tk₄ hd hJ hBB S₄ E'
    obtain ⟨r1, r2, r3, r4, r5, as, gS, hRw⟩ := hJ
    obtain ⟨hi, rfl⟩ := upto_some hd
    refine do_new ok S₄ (.inl rfl) ev_list0 ?_
    intro aL h₅ tk₅ _ fL S₅
    have gS' : upd G₁ aL (.lp []) aS = some (.lr as) := (upd_ne (fun z => by have := fL.g; rw [← z, gS] at this; cases this)).trans gS
    have hRw' : RowsG (upd G₁ aL (.lp [])) as ((List.range i).map fun s => cs.map fun c => (dl r s c : Int)) := hRw.up fun b q _ e => (upd_ne (fun z => by have := fL.g; rw [← z, e] at this; cases this)).trans e
    have hLas : aL ∉ as := fun z => by obtain ⟨q, e⟩ := hRw.at z; have := fL.g; rw [e] at this; cases this
    refine do_for ok S₅ (.inl rfl) (src_ints hh (ev_nameA ok (S₅.has ((upd_ne (by decide)).trans ((upd_ne (by decide)).trans r2)) (.inl rfl))) (hC.le fun b o e => S₅.kept b o (hBB b o e)) (by obtain ⟨o, e⟩ := hC.some; exact ⟨o, hBB _ _ e⟩))
      (fun k ρ G => ρ "row" = some (.ref aR) ∧ ρ "signs" = some (.ref aG) ∧ ρ "length" = some (.int N) ∧ ρ "size" = some (.int r.length) ∧ ρ "steps" = some (.ref aS) ∧ ρ "s" = some (.int (0 + (i : Int))) ∧ ρ "line" = some (.ref aL) ∧
        G aL = some (.lp ((cs.take k).map fun c => (dl r i c : Int))) ∧ G aS = some (.lr as) ∧ RowsG G as ((List.range i).map fun s => cs.map fun c => (dl r s c : Int)))
      ⟨(upd_ne (by decide)).trans ((upd_ne (by decide)).trans r1), (upd_ne (by decide)).trans ((upd_ne (by decide)).trans r2), (upd_ne (by decide)).trans ((upd_ne (by decide)).trans r3), (upd_ne (by decide)).trans ((upd_ne (by decide)).trans r4),
        (upd_ne (by decide)).trans ((upd_ne (by decide)).trans r5), (upd_ne (by decide)).trans upd_self, upd_self, by simpa using upd_self, gS', hRw'⟩ ?_ ?_
    · intro k d B₂ ρ₂ G₂ h₆ tk₆ hd hJ hB2 S₆ E₂
      obtain ⟨r1, r2, r3, r4, r5, r6, r7, gL, gS, hRw⟩ := hJ
      rw [List.getElem?_map] at hd
      cases hc : cs[k]? with
      | none => rw [hc] at hd; cases hd
      | some c =>
      rw [hc] at hd; cases hd
      have le : Le s.heap h₆ := fun b o e => S₆.kept b o (hB2 b o (hBB b o e))
      have hk : k < cs.length := (List.getElem?_eq_some_iff.mp hc).1
      refine do_new ok S₆ (.inr ⟨rfl, _, rfl⟩) (ev_cat (EvN.l (ev_upto (ev_nameL ok (S₆.has ((upd_ne (by decide)).trans r1) (.inr ⟨rfl, _, rfl⟩)) (hR.le le)) (ev_name ok (S₆.has ((upd_ne (by decide)).trans r6) (.inr ⟨rfl, _, rfl⟩))) (by omega) (by simp [sizeLine]; omega)))
        (EvN.l (ev_list1 (ev_name ok (S₆.has upd_self (.inl rfl))))) (by simp [sizeLine]; omega)) ?_
      intro aX h₇ tk₇ _ fX S₇
      have nX : ∀ c x, G₂ c = some x → c ≠ aX := fun c x e z => by have := fX.g; rw [← z, e] at this; cases this
      have up : ∀ (y : Str) (d : D), y ≠ "sign" → y ≠ "text" → ρ₂ y = some d → (upd (upd ρ₂ "sign" (.int c)) "text" (.ref aX)) y = some d := fun y d h1 h2 h3 => (upd_ne h2).trans ((upd_ne h1).trans h3)
      have y1 := up "row" _ (by decide) (by decide) r1
      have y4 := up "size" _ (by decide) (by decide) r4
      have y6 := up "s" _ (by decide) (by decide) r6
      have y7 := up "line" _ (by decide) (by decide) r7
      have yt : (upd (upd ρ₂ "sign" (.int c)) "text" (.ref aX)) "text" = some (.ref aX) := upd_self
      have gX : upd G₂ aX (.lp (r.take (0 + (i : Int)).toNat ++ [c])) aX = some (.lp (r.take (0 + (i : Int)).toNat ++ [c])) := upd_self
      have gL' : upd G₂ aX (.lp (r.take (0 + (i : Int)).toNat ++ [c])) aL = _ := (upd_ne (nX _ _ gL)).trans gL
      have gS' : upd G₂ aX (.lp (r.take (0 + (i : Int)).toNat ++ [c])) aS = _ := (upd_ne (nX _ _ gS)).trans gS
      have hRw' := hRw.up (G' := upd G₂ aX (.lp (r.take (0 + (i : Int)).toNat ++ [c]))) fun b q _ e => (upd_ne (nX _ _ e)).trans e
      generalize upd G₂ aX (.lp (r.take (0 + (i : Int)).toNat ++ [c])) = G₃ at *
      rw [show (0 + (i : Int)).toNat = i by omega] at gX
      have lX : LI h₇ aX (r.take i ++ [c]) := LP.li (S₇.own _ _ gX).1
      have le : Le s.heap h₇ := fun b o e => S₇.kept b o (hB2 b o (hBB b o e))
      have lR := hR.le le
      have hGl := hG.le le
      have his : i ≤ r.length := by omega
      refine do_appI S₇ (ev_nameA ok (S₇.has y7 (.inl rfl))) (ev_max (m := (dl r i c : Int)) (ns := (dlL r i c).map fun (k : Nat) => (k : Int)) ok hGl hh (EvN.l (EvN.eq (ev_comp ok (src_range1 ok hGl hh (ev_add (ev_min2 ok hGl hh (ev_add (ev_name ok (S₇.has y6 (.inr ⟨rfl, _, rfl⟩))) ev_const) (ev_name ok (S₇.has y4 (.inl rfl)))) ev_const) (by omega) (by omega))
        (fun k => decide ((r.take i ++ [c]).drop (i + 1 - k) = r.take k)) (fun (k : Nat) => 0 + (k : Int)) ?_ ?_ (by rw [upto_length]; simp [sizeLine]; omega) rfl rfl (by decide) (fun _ => rfl) (.loc (fun _ => rfl) (fun _ => rfl))) ?_)) ?_ ?_) gL' (by simp [sizeLine]; omega) ?_
      · intro k d C h₈ hd hl Hk
        obtain ⟨hk, rfl⟩ := upto_some hd
        refine tstAll_one (Tst.eq (tst_eqL (EvN.l (ev_from (ev_nameL (cEnv_ok ok rfl) (((S₇.has yt (.inr ⟨rfl, _, rfl⟩)).le hl).into rfl rfl rfl) (lX.le hl)) (ev_sub (ev_add (ev_name (cEnv_ok ok rfl) (((S₇.has y6 (.inr ⟨rfl, _, rfl⟩)).le hl).into rfl rfl rfl)) ev_const) (ev_name (cEnv_ok ok rfl) Hk)) (by omega) (by simp [sizeLine]; omega)))
          (EvN.l (ev_upto (ev_nameL (cEnv_ok ok rfl) (((S₇.has y1 (.inr ⟨rfl, _, rfl⟩)).le hl).into rfl rfl rfl) (lR.le hl)) (ev_name (cEnv_ok ok rfl) Hk) (by omega) (by simp [sizeLine]; omega))) hu) ?_)
        rw [show (0 + (i : Int) + 1 - (0 + (k : Int))).toNat = i + 1 - k by omega, show (0 + (k : Int)).toNat = k by omega]
      · intro k d C h₈ hd _ hl Hk
        obtain ⟨hk, rfl⟩ := upto_some hd
        exact ev_name (cEnv_ok ok rfl) Hk
      · rw [upto_length, show (min (0 + (i : Int) + 1) (r.length : Int) + 1 - 0).toNat = min (i + 1) r.length + 1 by omega]
        unfold dlL
        apply List.map_congr_left
        intro k _; omega
      · exact List.mem_map.mpr ⟨_, dl_mem r i c his, rfl⟩
      · intro a ha
        obtain ⟨k, hk, rfl⟩ := List.mem_map.mp ha
        have := dl_max r i c k hk
        omega
      · intro h₈ tk₈ S₈
        refine wpAny_execs_nil ⟨rfl, _, _, h₈, tk₈, rfl, S₈, y1, up "signs" _ (by decide) (by decide) r2, up "length" _ (by decide) (by decide) r3, y4, up "steps" _ (by decide) (by decide) r5, y6, y7, ?_, ?_, ?_⟩
        · rw [upd_self, List.take_add_one, hc]; simp
        · rw [upd_ne (fun z => by rw [z, gL'] at gS'; cases gS')]; exact gS'
        · refine hRw'.up fun b q hb e => (upd_ne (show b ≠ aL from fun z => hLas (z ▸ hb))).trans e
    · rintro ρ₂ G₂ h₆ tk₆ ⟨r1, r2, r3, r4, r5, r6, r7, gL, gS, hRw⟩ S₆
      rw [List.length_map, List.take_length] at gL
      refine do_appA S₆ (ev_nameA ok (S₆.has r5 (.inl rfl))) (ev_nameA ok (S₆.has r7 (.inl rfl))) gS (by rw [hRw.1]; simp [sizeLine]; omega) ?_
      intro h₇ tk₇ S₇
      have nn : ∀ b q, G₂ b = some (.lp q) → upd G₂ aS (.lr (as ++ [aL])) b = some (.lp q) := fun b q e => (upd_ne (fun z => by rw [z, gS] at e; cases e)).trans e
      refine wpAny_execs_nil ⟨rfl, _, _, h₇, tk₇, rfl, S₇, r1, r2, r3, r4, r5, as ++ [aL], upd_self, ?_⟩
      have := (hRw.up (fun b q _ e => nn b q e)).snoc (nn _ _ gL)
      rwa [rangeMap_succ (fun s => cs.map fun c => (dl r s c : Int)) i]
  · rintro ρ₁ G₁ h₁ tk₁ ⟨r1, r2, r3, r4, r5, sa, gS, hSa⟩ S₁
    rw [upto_length, show ((r.length : Int) + 1 - 0).toNat = r.length + 1 by omega] at hSa
    obtain ⟨B, G₂, hB, hBs, hG₂, S₂⟩ := give_rows sa _ _ S₁ fun b hb => hSa.at hb
    have hSt : RowsB B sa ((List.range (r.length + 1)).map fun s => cs.map fun c => (dl r s c : Int)) := ⟨hSa.1, fun i b q h1 h2 => by
      obtain ⟨o, e1, e2⟩ := hBs b (List.mem_of_getElem? h1)
      exact ⟨o, e1, fun h' e => li_of_obj (LP.li (S₁.own _ _ (hSa.2 i b q h1 h2)).1) e2 e⟩⟩
    have gS₂ : G₂ aS = some (.lr sa) := (hG₂ aS fun z => by obtain ⟨q, e⟩ := hSa.at z; rw [gS] at e; cases e).trans gS
    clear hBs hG₂ S₁ hSa gS
    refine do_int (k := ((r.length + 2 : Nat) : Int)) ok S₂ (.inr ⟨rfl, _, rfl⟩) (EvI.eq (ev_add (ev_sub (ev_name ok (S₂.has r3 (.inl rfl))) (ev_name ok (S₂.has r4 (.inl rfl)))) ev_const) ?_) ?_
    · omega
    intro h₃ tk₃ S₃
    have le₃ : Le s.heap h₃ := fun b o e => S₃.kept b o (hB b o e)
    have x4 : (upd ρ₁ "most" (.int ((r.length + 2 : Nat) : Int))) "size" = some (.int r.length) := (upd_ne (by decide)).trans r4
    have xm : (upd ρ₁ "most" (.int ((r.length + 2 : Nat) : Int))) "most" = some (.int ((r.length + 2 : Nat) : Int)) := upd_self
    refine do_rows (mk := .li) (rows := ways0 r.length) (fun _ _ _ x => LP.li x) ok S₃ (.inl rfl)
      (EvRows.eq (ev_catR (ns := [[1] ++ List.replicate (r.length + 2 - 1) 0]) (ms := (List.range r.length).map fun _ => List.replicate (r.length + 2) 0) ?_ ?_ ?_) rfl) ?_
    · refine ev_listR (EvN.eq (ev_cat (EvN.l (ev_list1 ev_const)) (EvN.l (ev_rep ev_const (ev_sub (ev_name ok (S₃.has xm (.inr ⟨rfl, _, rfl⟩))) ev_const) (by omega) (by omega))) ?_) ?_)
      · simp [sizeLine]; omega
      · rw [show (((r.length + 2 : Nat) : Int) - 1).toNat = r.length + 2 - 1 by omega]
    · refine EvRows.eq (ev_rows ok (src_range1 ok (hG.le le₃) hh (ev_name ok (S₃.has x4 (.inl rfl))) (by omega) (by omega)) (fun _ => List.replicate ((r.length + 2 : Nat) : Int).toNat 0)
        ?_ ?_ rfl rfl (by decide) (fun _ => rfl) (.loc (fun _ => rfl) (fun _ => rfl))) ?_
      · intro i d C h₄ hd hl Hk
        exact ev_rep ev_const (ev_name (cEnv_ok ok rfl) (((S₃.has xm (.inr ⟨rfl, _, rfl⟩)).le hl).into rfl rfl rfl)) (by omega) (by omega)
      · rw [upto_length]; simp [sizeLine]; omega
      · rw [upto_length, show ((r.length : Int) - 0).toNat = r.length by omega, show ((r.length + 2 : Nat) : Int).toNat = r.length + 2 by omega]
    · simp [sizeLine]; omega
    intro aW wa h₄ tk₄ _ fW ndW hWa hlW hfrW S₄
    have gS₄ : upd (putRows .li G₂ wa (ways0 r.length)) aW (.lr wa) aS = some (.lr sa) := by
      rw [upd_ne (fun z => by have := fW.g; rw [← z, gS₂] at this; cases this), putRows_off (fun z => by have := (hfrW _ z).2.g; rw [gS₂] at this; cases this)]; exact gS₂
    have rW₄ : RowsI (upd (putRows .li G₂ wa (ways0 r.length)) aW (.lr wa)) wa (ways0 r.length) :=
      (rowsI_put (G := G₂) ndW hlW).up fun b q hb e => (upd_ne (show b ≠ aW from fun z => hWa (z ▸ hb))).trans e
    have gW₄ : upd (putRows .li G₂ wa (ways0 r.length)) aW (.lr wa) aW = some (.lr wa) := upd_self
    generalize upd (putRows .li G₂ wa (ways0 r.length)) aW (.lr wa) = G₄ at *
    have le₄ : Le s.heap h₄ := fun b o e => S₄.kept b o (hB b o e)
    refine do_compR (mk := .lp) (fun _ _ _ x => x) ok S₄ (.inl rfl) (src_range1 ok (hG.le le₄) hh (ev_name ok (S₄.has ((upd_ne (by decide)).trans xm) (.inr ⟨rfl, _, rfl⟩))) (by omega) (by omega)) (fun j => [if j = 0 then 1 else 0]) ?_ ?_ ?_ rfl rfl rfl (by decide) (fun _ => rfl) (.loc (fun _ => rfl) (fun _ => rfl))
    · intro j d C h₅ hd hl Hk
      obtain ⟨hj, rfl⟩ := upto_some hd
      refine EvN.eq (ev_list1 (ev_ife (tst_eq (ev_name (cEnv_ok ok rfl) Hk) ev_const) (fun _ => ev_const) (fun _ => ev_const))) ?_
      by_cases q : j = 0
      · subst q; rfl
      · rw [if_neg q, if_neg (by simp; omega)]
    · intro aC ca h₅ tk₅ _ fC ndC hCa hlC hfrC S₅
      rw [upto_length, show (((r.length + 2 : Nat) : Int) - 0).toNat = r.length + 2 by omega] at hlC S₅
      have gg : ∀ c x, G₄ c = some x → upd (putRows .lp G₄ ca ((List.range (r.length + 2)).map fun j => [if j = 0 then 1 else 0])) aC (.lr ca) c = some x := fun c x e => by
        rw [upd_ne (fun z => by have := fC.g; rw [← z, e] at this; cases this), putRows_off (fun z => by have := (hfrC _ z).2.g; rw [e] at this; cases this)]; exact e
      have rC₅ : RowsG (upd (putRows .lp G₄ ca ((List.range (r.length + 2)).map fun j => [if j = 0 then 1 else 0])) aC (.lr ca)) ca (CR r cs 0) := by
        have e : CR r cs 0 = (List.range (r.length + 2)).map fun j => [if j = 0 then 1 else 0] := rfl
        rw [e]
        exact (rowsG_put (G := G₄) ndC (by rw [hlC]; simp)).up fun b q hb e => (upd_ne (show b ≠ aC from fun z => hCa (z ▸ hb))).trans e
      have x3 : (upd (upd (upd ρ₁ "most" (.int ((r.length + 2 : Nat) : Int))) "ways" (.ref aW)) "counted" (.ref aC)) "length" = some (.int N) := r3
      refine do_for ok S₅ (.inl rfl) (src_range1 ok (hG.le fun b o e => S₅.kept b o (hB b o e)) hh (ev_name ok (S₅.has x3 (.inl rfl))) (by omega) (by omega))
        (fun n ρ G => NJ aS aC sa ca r cs n ρ G) ⟨x4, xm, r5, rfl, gg _ _ gS₄, upd_self, rC₅, aW, wa, ways0 r.length, rfl, gg _ _ gW₄, rW₄.up (fun b q _ e => gg _ _ e), inv_zero (by omega)⟩ ?_ ?_
      · intro n d B' ρ₆ G₆ h₆ tk₆ hd hJ hBB S₆ E'
        obtain ⟨hn, rfl⟩ := upto_some hd
        exact n_turn hh (fun h hk => hG.le fun b o e => hk b o (hBB b o (hB b o e))) hr (n := n) (by omega) ndC (hSt.mono hBB) S₆ ⟨(upd_ne (by decide)).trans hJ.size, (upd_ne (by decide)).trans hJ.most, (upd_ne (by decide)).trans hJ.steps, (upd_ne (by decide)).trans hJ.counted, hJ.gS, hJ.gC, hJ.rC, by
          obtain ⟨aW, wa, W, e, q⟩ := hJ.ways
          exact ⟨aW, wa, W, (upd_ne (by decide)).trans e, q⟩⟩
      · rintro ρ' G' h' tk' hJ S'
        refine do_ret S' (ev_nameA ok (S'.has hJ.counted (.inl rfl))) ?_
        intro v h'' tk'' le hv S''
        have hR := hJ.rC
        rw [upto_length, show ((N : Int) - 0).toNat = N by omega] at hR
        exact ⟨v, h'', tk'', rfl, rfl, fun b o e => S''.kept b o (hB b o e), aC, ca, hv, (S''.own _ _ hJ.gC).1, hR.st S''⟩
    · rw [upto_length]; simp [sizeLine]; omega
end Mine

namespace Mine

/-! sums -/
section
variable {α : Type}
theorem sum_add (l : List α) (f g : α → Int) : (l.map fun a => f a + g a).sum = (l.map f).sum + (l.map g).sum := by
  induction l with
  | nil => rfl
  | cons a l ih => simp only [List.map_cons, List.sum_cons, ih]; omega
theorem sum_sub (l : List α) (f g : α → Int) : (l.map fun a => f a - g a).sum = (l.map f).sum - (l.map g).sum := by
  induction l with
  | nil => rfl
  | cons a l ih => simp only [List.map_cons, List.sum_cons, ih]; omega
theorem sum_mulR (l : List α) (f : α → Int) (k : Int) : (l.map fun a => f a * k).sum = (l.map f).sum * k := by
  induction l with
  | nil => simp
  | cons a l ih => simp only [List.map_cons, List.sum_cons, ih, Int.add_mul]
theorem sum_mulL (l : List α) (f : α → Int) (k : Int) : (l.map fun a => k * f a).sum = k * (l.map f).sum := by
  induction l with
  | nil => simp
  | cons a l ih => simp only [List.map_cons, List.sum_cons, ih, Int.mul_add]
theorem sum_const (l : List α) (k : Int) : (l.map fun _ => k).sum = (l.length : Int) * k := by
  induction l with
  | nil => simp
  | cons a l ih =>
    rw [List.map_cons, List.sum_cons, ih, List.length_cons, Int.natCast_succ, Int.add_mul]; omega
end

/-! folding two rows of numbers together -/
theorem cv_zero (f g : Nat → Int) : cv f g 0 = f 0 * g 0 := by simp [cv]
theorem cv_succ (f g : Nat → Int) (n : Nat) : cv f g (n + 1) = f 0 * g (n + 1) + cv (fun k => f (k + 1)) g n := by
  unfold cv
  rw [sum_range_succ' _ (n + 1)]
  congr 1
  apply sum_congr
  intro k _
  rw [show n + 1 - (k + 1) = n - k by omega]
theorem cv_last (f g : Nat → Int) (n : Nat) : cv f g (n + 1) = ((List.range (n + 1)).map fun k => f k * g (n + 1 - k)).sum + f (n + 1) * g 0 := by
  unfold cv
  rw [sum_range_succ _ (n + 1), Nat.sub_self]
theorem cv_congr {f f' g g' : Nat → Int} {n : Nat} (h : ∀ k, k ≤ n → f k = f' k) (h' : ∀ k, k ≤ n → g k = g' k) : cv f g n = cv f' g' n := by
  unfold cv
  apply sum_congr
  intro k hk
  have := List.mem_range.mp hk
  rw [h k (by omega), h' (n - k) (by omega)]
theorem cv_add (f f' g : Nat → Int) (n : Nat) : cv (fun k => f k + f' k) g n = cv f g n + cv f' g n := by
  unfold cv
  rw [← sum_add]
  apply sum_congr
  intro k _
  rw [Int.add_mul]
theorem cv_scale (a : Int) (f g : Nat → Int) (n : Nat) : cv (fun k => a * f k) g n = a * cv f g n := by
  unfold cv
  rw [← sum_mulL]
  apply sum_congr
  intro k _
  rw [Int.mul_assoc]
theorem cv_sum {α : Type} (l : List α) (f : α → Nat → Int) (g : Nat → Int) (n : Nat) : cv (fun k => (l.map fun a => f a k).sum) g n = (l.map fun a => cv (f a) g n).sum := by
  induction l with
  | nil =>
    show cv (fun _ => 0) g n = 0
    unfold cv
    refine Eq.trans (sum_congr (g := fun _ => 0) fun k _ => ?_) (sum_zero _)
    rw [Int.zero_mul]
  | cons a l ih =>
    simp only [List.map_cons, List.sum_cons]
    rw [cv_add, ih]
theorem cv_unit (g : Nat → Int) (n : Nat) : cv (fun k => if k = 0 then 1 else 0) g n = g n := by
  cases n with
  | zero => rw [cv_zero]; simp
  | succ n =>
    rw [cv_succ]
    have : cv (fun k => (fun k => if k = 0 then (1 : Int) else 0) (k + 1)) g n = 0 := by
      unfold cv
      refine Eq.trans (sum_congr (g := fun _ => 0) fun k _ => ?_) (sum_zero _)
      simp
    rw [this]; simp
theorem cv_assoc (f g h : Nat → Int) (n : Nat) : cv (cv f g) h n = cv f (cv g h) n := by
  induction n generalizing f with
  | zero => rw [cv_zero, cv_zero, cv_zero, cv_zero, Int.mul_assoc]
  | succ n ih =>
    rw [cv_succ (cv f g), cv_succ f (cv g h), cv_zero]
    have e : (fun k => cv f g (k + 1)) = fun k => f 0 * g (k + 1) + cv (fun k => f (k + 1)) g k := by funext k; exact cv_succ f g k
    rw [e, cv_add, cv_scale (f 0) (fun k => g (k + 1)), ih, cv_succ g h, Int.mul_add, Int.mul_assoc]; omega

/-! what is reckoned back is what was folded -/
theorem rn_unique {e T X : Nat → Int} (h0 : X 0 = 0) (hT : T 0 = 1) (h : ∀ n, e (n + 1) = cv X T (n + 1)) : ∀ n, rn e T n = X n := by
  intro n
  induction n using Nat.strongRecOn with
  | ind n ih =>
    cases n with
    | zero => rw [rn_zero, h0]
    | succ n =>
      rw [rn_succ, h n, cv_last, hT, sum_range_succ']
      rw [h0, Int.zero_mul]
      have : ((List.range n).map fun i => rn e T (1 + i) * T (n - i)).sum = ((List.range n).map fun i => X (i + 1) * T (n + 1 - (i + 1))).sum := by
        apply sum_congr
        intro i hi
        have := List.mem_range.mp hi
        rw [ih (1 + i) (by omega), show 1 + i = i + 1 by omega, show n + 1 - (i + 1) = n - i by omega]
      rw [this]; omega

/-! ways through the steps -/
section
variable (δ : Nat → Int → Nat) (cs : List Int) (m : Nat)
def Tc : Nat → Nat → Int
  | 0, s => if s = m then 1 else 0
  | d + 1, s => (cs.map fun c => Tc d (δ s c)).sum
def fc : Nat → Nat → Int
  | 0, _ => 0
  | d + 1, s => (cs.map fun c => if δ s c = m then (if d = 0 then 1 else 0) else fc d (δ s c)).sum
end
section
variable {δ : Nat → Int → Nat} {cs : List Int} {m : Nat}
theorem fc_shift (s : Nat) (g : Nat → Int) (d : Nat) : cv (fun k => fc δ cs m k s) g (d + 1) = (cs.map fun c => if δ s c = m then g d else cv (fun k => fc δ cs m k (δ s c)) g d).sum := by
  rw [cv_succ]
  have e : (fun k => fc δ cs m (k + 1) s) = fun k => (cs.map fun c => (fun c k => if δ s c = m then (if k = 0 then (1 : Int) else 0) else fc δ cs m k (δ s c)) c k).sum := by funext k; rfl
  rw [show fc δ cs m 0 s = 0 from rfl, Int.zero_mul, Int.zero_add, e, cv_sum]
  apply sum_congr
  intro c _
  by_cases q : δ s c = m
  · simp only [if_pos q]; exact cv_unit g d
  · simp only [if_neg q]
theorem H_succ (j : Nat) : ∀ d s, Hc δ cs m d s (j + 1) = cv (fun k => fc δ cs m k s) (fun d => Hc δ cs m d m j) d
  | 0, s => by rw [cv_zero]; simp [Hc, fc]
  | d + 1, s => by
    rw [fc_shift, Hc]
    apply sum_congr
    intro c _
    by_cases q : δ s c = m
    · rw [if_pos q, if_pos q, if_neg (by omega)]; rfl
    · rw [if_neg q, if_neg q]; exact H_succ j d _
theorem H_zero : ∀ d s, Hc δ cs m d s 0 = (cs.length : Int) ^ d - cv (fun k => fc δ cs m k s) (fun d => (cs.length : Int) ^ d) d
  | 0, s => by rw [cv_zero]; simp [Hc, fc]
  | d + 1, s => by
    rw [fc_shift, Hc]
    have e : (cs.length : Int) ^ (d + 1) = (cs.map fun _ => (cs.length : Int) ^ d).sum := by rw [sum_const, Int.pow_succ, Int.mul_comm]
    rw [e, ← sum_sub]
    apply sum_congr
    intro c _
    by_cases q : δ s c = m
    · rw [if_pos q, if_pos q, if_pos rfl]; omega
    · rw [if_neg q, if_neg q]; exact H_zero d _
theorem T_renew : ∀ d s, Tc δ cs m (d + 1) s = cv (fun k => fc δ cs m k s) (fun d => Tc δ cs m d m) (d + 1)
  | d, s => by
    rw [fc_shift, Tc]
    apply sum_congr
    intro c _
    by_cases q : δ s c = m
    · rw [if_pos q, q]
    · rw [if_neg q]
      cases d with
      | zero => rw [cv_zero, Tc, if_neg q]; simp [fc]
      | succ d => exact T_renew d _
theorem cv_pow_last (f : Nat → Int) (q : Int) (n : Nat) : cv f (fun d => q ^ d) (n + 1) = q * cv f (fun d => q ^ d) n + f (n + 1) := by
  rw [cv_last, Int.pow_zero, Int.mul_one]
  congr 1
  unfold cv
  rw [← sum_mulL]
  apply sum_congr
  intro k hk
  have := List.mem_range.mp hk
  rw [show n + 1 - k = (n - k) + 1 by omega, Int.pow_succ, ← Int.mul_assoc, Int.mul_comm]
theorem never_eq {a : Nat → Int} (ha : ∀ n, a n = fc δ cs m n m) : ∀ n, neverF cs.length a n = Hc δ cs m n m 0
  | 0 => by simp [neverF, Hc]
  | n + 1 => by
    rw [neverF, never_eq ha n, H_zero, H_zero, cv_pow_last, ha, Int.pow_succ, Int.mul_sub, Int.mul_comm]; omega

/-- what the law asks, but for the borders -/
theorem law_rows {e T : Nat → Int} (hE : ∀ n, e (n + 1) = Tc δ cs m (n + 1) 0) (hT : ∀ n, T n = Tc δ cs m n m) (n j : Nat) :
    (cs.length : Int) ^ n - cv (rn e T) (fun d => (cs.length : Int) ^ d) n = Hc δ cs m n 0 0 ∧
    cv (itF (rn e T) (rn T T) j) (neverF cs.length (rn T T)) n = Hc δ cs m n 0 (j + 1) := by
  have hF : ∀ n, rn e T n = fc δ cs m n 0 := rn_unique rfl (by rw [hT]; simp [Tc]) fun n => by
    rw [hE, T_renew]; exact cv_congr (fun _ _ => rfl) fun k _ => (hT k).symm
  have hA : ∀ n, rn T T n = fc δ cs m n m := rn_unique rfl (by rw [hT]; simp [Tc]) fun n => by
    rw [hT, T_renew]; exact cv_congr (fun _ _ => rfl) fun k _ => (hT k).symm
  have hN := never_eq hA
  refine ⟨?_, ?_⟩
  · rw [H_zero, cv_congr (fun k _ => hF k) fun _ _ => rfl]
  · have hm : ∀ l n, Hc δ cs m n m (l + 1) = cv (rn T T) (fun d => Hc δ cs m d m l) n := fun l n => by
      rw [H_succ]; exact cv_congr (fun k _ => (hA k).symm) fun _ _ => rfl
    have step : ∀ i l n, cv (itF (rn e T) (rn T T) i) (fun d => Hc δ cs m d m l) n = Hc δ cs m n 0 (i + l + 1) := by
      intro i
      induction i with
      | zero =>
        intro l n
        rw [Nat.zero_add, H_succ]; exact cv_congr (fun k _ => hF k) fun _ _ => rfl
      | succ i ih =>
        intro l n
        rw [show i + 1 + l + 1 = i + (l + 1) + 1 by omega, ← ih (l + 1) n, itF, cv_assoc]
        exact cv_congr (fun _ _ => rfl) fun k _ => (hm l k).symm
    rw [cv_congr (fun _ _ => rfl) fun k _ => hN k, step j 0 n]

theorem fc_bound : ∀ d s, 0 ≤ fc δ cs m d s ∧ fc δ cs m d s ≤ (cs.length : Int) ^ d
  | 0, s => by simp [fc]
  | d + 1, s => by
    have key : ∀ c, 0 ≤ (if δ s c = m then (if d = 0 then (1 : Int) else 0) else fc δ cs m d (δ s c)) ∧ (if δ s c = m then (if d = 0 then (1 : Int) else 0) else fc δ cs m d (δ s c)) ≤ (cs.length : Int) ^ d := fun c => by
      have := fc_bound d (δ s c)
      have hp : (0 : Int) ≤ (cs.length : Int) ^ d := Int.le_trans this.1 this.2
      by_cases q : δ s c = m
      · rw [if_pos q]
        by_cases z : d = 0
        · subst z; simp
        · rw [if_neg z]; exact ⟨Int.le_refl _, hp⟩
      · rw [if_neg q]; exact this
    rw [fc]
    constructor
    · have gen : ∀ l : List Int, 0 ≤ (l.map fun c => if δ s c = m then (if d = 0 then (1 : Int) else 0) else fc δ cs m d (δ s c)).sum := fun l => by
        induction l with
        | nil => exact Int.le_refl _
        | cons c l ih => rw [List.map_cons, List.sum_cons]; have := (key c).1; omega
      exact gen cs
    · have gen : ∀ l : List Int, (l.map fun c => if δ s c = m then (if d = 0 then (1 : Int) else 0) else fc δ cs m d (δ s c)).sum ≤ (l.map fun _ => (cs.length : Int) ^ d).sum := fun l => by
        induction l with
        | nil => exact Int.le_refl _
        | cons c l ih => simp only [List.map_cons, List.sum_cons]; have := (key c).2; omega
      refine Int.le_trans (gen cs) (Int.le_of_eq ?_)
      rw [sum_const, Int.pow_succ, Int.mul_comm]
theorem H0_bound : ∀ d s, 0 ≤ Hc δ cs m d s 0 ∧ Hc δ cs m d s 0 ≤ (cs.length : Int) ^ d
  | 0, s => by simp [Hc]
  | d + 1, s => by
    have key : ∀ c, 0 ≤ (if δ s c = m then (if (0 : Nat) = 0 then (0 : Int) else Hc δ cs m d m (0 - 1)) else Hc δ cs m d (δ s c) 0) ∧ (if δ s c = m then (if (0 : Nat) = 0 then (0 : Int) else Hc δ cs m d m (0 - 1)) else Hc δ cs m d (δ s c) 0) ≤ (cs.length : Int) ^ d := fun c => by
      have := H0_bound d (δ s c)
      have hp : (0 : Int) ≤ (cs.length : Int) ^ d := Int.le_trans this.1 this.2
      by_cases q : δ s c = m
      · rw [if_pos q, if_pos rfl]; exact ⟨Int.le_refl _, hp⟩
      · rw [if_neg q]; exact this
    rw [Hc]
    constructor
    · have gen : ∀ l : List Int, 0 ≤ (l.map fun c => if δ s c = m then (if (0 : Nat) = 0 then (0 : Int) else Hc δ cs m d m (0 - 1)) else Hc δ cs m d (δ s c) 0).sum := fun l => by
        induction l with
        | nil => exact Int.le_refl _
        | cons c l ih => rw [List.map_cons, List.sum_cons]; have := (key c).1; omega
      exact gen cs
    · have gen : ∀ l : List Int, (l.map fun c => if δ s c = m then (if (0 : Nat) = 0 then (0 : Int) else Hc δ cs m d m (0 - 1)) else Hc δ cs m d (δ s c) 0).sum ≤ (l.map fun _ => (cs.length : Int) ^ d).sum := fun l => by
        induction l with
        | nil => exact Int.le_refl _
        | cons c l ih => rw [List.map_cons, List.map_cons, List.sum_cons, List.sum_cons]; have := (key c).2; omega
      refine Int.le_trans (gen cs) (Int.le_of_eq ?_)
      rw [sum_const, Int.pow_succ, Int.mul_comm]
end
end Mine

namespace Mine

/-! what a text ends with -/
theorem suf_snoc {α : Type} {a x : List α} {b c : α} : (a ++ [b]) <:+ (x ++ [c]) ↔ a <:+ x ∧ b = c := by
  constructor
  · rintro ⟨t, h⟩
    rw [← List.append_assoc] at h
    obtain ⟨h1, h2⟩ := List.append_inj' h rfl
    exact ⟨⟨t, h1⟩, by simpa using h2⟩
  · rintro ⟨⟨t, h⟩, rfl⟩
    exact ⟨t, by rw [← List.append_assoc, h]⟩
theorem take_snoc {r : List Int} {k : Nat} (h : k < r.length) : r.take (k + 1) = r.take k ++ [r.getD k 0] := by
  rw [List.take_add_one, getD_of h]; rfl
theorem suf_step {r x : List Int} {k : Nat} {c : Int} (h : k < r.length) : r.take (k + 1) <:+ x ++ [c] ↔ r.take k <:+ x ∧ r.getD k 0 = c := by
  rw [take_snoc h]; exact suf_snoc

structure IsL (r x : List Int) (s : Nat) : Prop where
  le : s ≤ r.length
  suf : r.take s <:+ x
  max : ∀ k, k ≤ r.length → r.take k <:+ x → k ≤ s
theorem suf_iff {r x : List Int} {s k : Nat} {c : Int} (h : IsL r x s) (hk : k ≤ r.length) : r.take k <:+ x ++ [c] ↔ k ≤ s + 1 ∧ r.take k <:+ r.take s ++ [c] := by
  cases k with
  | zero => simp
  | succ k =>
    have hk' : k < r.length := hk
    rw [suf_step hk', suf_step hk']
    constructor
    · rintro ⟨h1, h2⟩
      have h3 := h.max k (by omega) h1
      refine ⟨by omega, List.suffix_of_suffix_length_le h1 h.suf ?_, h2⟩
      simp; omega
    · rintro ⟨_, h1, h2⟩
      exact ⟨h1.trans h.suf, h2⟩
theorem mem_dlL {r : List Int} {s k : Nat} {c : Int} (hs : s ≤ r.length) : k ∈ dlL r s c ↔ k ≤ s + 1 ∧ k ≤ r.length ∧ r.take k <:+ r.take s ++ [c] := by
  unfold dlL
  rw [List.mem_filter, List.mem_range, decide_eq_true_eq, List.suffix_iff_eq_drop]
  have hl : (r.take s ++ [c]).length = s + 1 := by simp; omega
  rw [hl]
  constructor
  · rintro ⟨h1, h2⟩
    refine ⟨by omega, by omega, ?_⟩
    rw [show (r.take k).length = k by simp; omega]; exact h2.symm
  · rintro ⟨h1, h2, h3⟩
    refine ⟨by omega, ?_⟩
    rw [show (r.take k).length = k by simp; omega] at h3; exact h3.symm
theorem isL_step {r x : List Int} {s : Nat} (h : IsL r x s) (c : Int) : IsL r (x ++ [c]) (dl r s c) := by
  have hm := (mem_dlL h.le).mp (dl_mem r s c h.le)
  exact ⟨hm.2.1, (suf_iff h hm.2.1).mpr ⟨hm.1, hm.2.2⟩, fun k hk hs => dl_max r s c k ((mem_dlL h.le).mpr ⟨((suf_iff h hk).mp hs).1, hk, ((suf_iff h hk).mp hs).2⟩)⟩
theorem isL_nil (r : List Int) : IsL r [] 0 := ⟨Nat.zero_le _, by simp, fun k hk hs => by
  have := hs.length_le
  rw [List.length_take, List.length_nil] at this; omega⟩
theorem isL_self (r : List Int) : IsL r r r.length := ⟨Nat.le_refl _, by simp, fun k hk _ => hk⟩

/-- how many texts of d signs behind x end with the row -/
def Cw (r cs : List Int) : List Int → Nat → Int
  | x, 0 => if r <:+ x then 1 else 0
  | x, d + 1 => (cs.map fun c => Cw r cs (x ++ [c]) d).sum
theorem T_Cw {r cs : List Int} : ∀ (d : Nat) (x : List Int) (s : Nat), IsL r x s → Tc (dl r) cs r.length d s = Cw r cs x d
  | 0, x, s, h => by
    rw [Tc, Cw]
    by_cases q : r <:+ x
    · have := h.max r.length (Nat.le_refl _) (by rw [List.take_length]; exact q)
      have hl := h.le
      rw [if_pos q, if_pos (by omega)]
    · rw [if_neg q, if_neg]
      intro z
      have := h.suf
      rw [z, List.take_length] at this
      exact q this
  | d + 1, x, s, h => by
    rw [Tc, Cw]
    apply sum_congr
    intro c _
    exact T_Cw d _ _ (isL_step h c)
theorem sum_hit {cs : List Int} {y : Int} (nd : cs.Nodup) (hy : y ∈ cs) : (cs.map fun c => if y = c then (1 : Int) else 0).sum = 1 := by
  induction cs with
  | nil => exact absurd hy List.not_mem_nil
  | cons c cs ih =>
    rw [List.map_cons, List.sum_cons]
    have nd' := List.nodup_cons.mp nd
    by_cases q : y = c
    · subst q
      have : (cs.map fun c => if y = c then (1 : Int) else 0).sum = 0 := by
        refine Eq.trans (sum_congr (g := fun _ => 0) fun c hc => ?_) (sum_zero _)
        rw [if_neg (show ¬ (y = c) from fun z => nd'.1 (by rw [z]; exact hc))]
      rw [this, if_pos rfl]; rfl
    · rw [if_neg q, ih nd'.2 ((List.mem_cons.mp hy).resolve_left q)]; rfl
theorem Cw_low {r cs : List Int} (nd : cs.Nodup) (hr : ∀ y ∈ r, y ∈ cs) : ∀ (d : Nat) (x : List Int), d ≤ r.length → Cw r cs x d = if r.take (r.length - d) <:+ x then 1 else 0
  | 0, x, _ => by rw [Cw, Nat.sub_zero, List.take_length]
  | d + 1, x, h => by
    rw [Cw]
    have hk : r.length - (d + 1) < r.length := by omega
    have e : ∀ c, Cw r cs (x ++ [c]) d = (if r.getD (r.length - (d + 1)) 0 = c then (1 : Int) else 0) * (if r.take (r.length - (d + 1)) <:+ x then 1 else 0) := fun c => by
      rw [Cw_low nd hr d _ (by omega), show r.length - d = (r.length - (d + 1)) + 1 by omega]
      by_cases q : r.take (r.length - (d + 1)) <:+ x
      · by_cases z : r.getD (r.length - (d + 1)) 0 = c
        · rw [if_pos ((suf_step hk).mpr ⟨q, z⟩), if_pos z, if_pos q]; rfl
        · rw [if_neg (fun h => z ((suf_step hk).mp h).2), if_neg z]; simp
      · rw [if_neg (fun h => q ((suf_step hk).mp h).1), if_neg q]; simp
    rw [sum_congr (fun c _ => e c), sum_mulR, sum_hit nd (hr _ ?_), Int.one_mul]
    exact List.mem_of_getElem? (getD_of hk)
theorem Cw_high {r cs : List Int} (nd : cs.Nodup) (hr : ∀ y ∈ r, y ∈ cs) : ∀ (e : Nat) (x : List Int), Cw r cs x (r.length + e) = (cs.length : Int) ^ e
  | 0, x => by rw [Nat.add_zero, Cw_low nd hr _ x (Nat.le_refl _), Nat.sub_self]; simp
  | e + 1, x => by
    rw [← Nat.add_assoc, Cw, sum_congr (fun c _ => Cw_high nd hr e (x ++ [c])), sum_const, Int.pow_succ, Int.mul_comm]

/-! the borders -/
theorem suf_bd {r : List Int} {b : Nat} (hb : b < r.length) : r.take b <:+ r ↔ Bd (fun k => r.getD k 0) r.length b := by
  rw [List.suffix_iff_eq_drop, show (r.take b).length = b by simp; omega]
  constructor
  · intro h
    refine ⟨hb, fun k hk => ?_⟩
    have := congrArg (fun l : List Int => l[k]?) h
    simp only [List.getElem?_take_of_lt hk, List.getElem?_drop] at this
    rw [getD_of (by omega), getD_of (by omega)] at this
    exact Option.some.inj this
  · rintro ⟨_, h⟩
    apply List.ext_getElem?
    intro k
    by_cases q : k < b
    · rw [List.getElem?_take_of_lt q, List.getElem?_drop, getD_of (by omega), getD_of (by omega)]
      exact congrArg some (h k q)
    · rw [List.getElem?_eq_none (by simp; omega), List.getElem?_eq_none (by simp; omega)]

/-- the numbers of the law are those of the steps -/
theorem ends_eq {r cs : List Int} (nd : cs.Nodup) (hr : ∀ y ∈ r, y ∈ cs) (h0 : 0 < r.length) (n : Nat) : endsF r.length cs.length n = Tc (dl r) cs r.length n 0 := by
  rw [T_Cw n [] 0 (isL_nil r), endsF]
  by_cases q : r.length ≤ n
  · rw [if_pos q, show Cw r cs [] n = Cw r cs [] (r.length + (n - r.length)) by rw [show r.length + (n - r.length) = n by omega], Cw_high nd hr]
  · rw [if_neg q, Cw_low nd hr n [] (by omega), if_neg]
    intro h
    have := h.length_le
    rw [List.length_take, List.length_nil] at this; omega
theorem turns_eq {r cs bs : List Int} (nd : cs.Nodup) (hr : ∀ y ∈ r, y ∈ cs) (h0 : 0 < r.length) (hb : ∀ b : Nat, 0 < b → b < r.length → (bs.any (· == (b : Int)) = true ↔ Bd (fun k => r.getD k 0) r.length b)) (n : Nat) :
    turnsF bs r.length cs.length n = Tc (dl r) cs r.length n r.length := by
  rw [T_Cw n r r.length (isL_self r), turnsF]
  by_cases z : n = 0
  · subst z; rw [if_pos rfl, Cw, if_pos (List.suffix_refl _)]
  · rw [if_neg z]
    by_cases q : n < r.length
    · rw [if_pos q, Cw_low nd hr n r (by omega)]
      have e : (r.length : Int) - (n : Int) = ((r.length - n : Nat) : Int) := by omega
      rw [e]
      have := hb (r.length - n) (by omega) (by omega)
      by_cases y : bs.any (· == ((r.length - n : Nat) : Int)) = true
      · rw [if_pos y, if_pos ((suf_bd (by omega)).mpr (this.mp y))]
      · rw [if_neg y, if_neg (fun h => y (this.mpr ((suf_bd (by omega)).mp h)))]
    · rw [if_neg q, show Cw r cs r n = Cw r cs r (r.length + (n - r.length)) by rw [show r.length + (n - r.length) = n by omega], Cw_high nd hr]

theorem small_of {x : Int} (h0 : 0 ≤ x) (h1 : x ≤ 2 ^ 60) : SmallI x := by
  unfold SmallI Builtin.Int.intBits
  split
  · omega
  · rename_i hz
    have hne : x.natAbs ≠ 0 := by
      intro h; apply hz; simp; omega
    have : x.natAbs.log2 < 61 := (Nat.log2_lt hne).mpr (by omega)
    omega
theorem pow_le {q d : Nat} (hq : q ≤ 4) (hd : d ≤ 12) : (q : Int) ^ d ≤ 2 ^ 60 := by
  have h1 : q ^ d ≤ 4 ^ d := Nat.pow_le_pow_left hq d
  have h2 : 4 ^ d ≤ 4 ^ 12 := Nat.pow_le_pow_right (by omega) hd
  have h3 : q ^ d ≤ 4 ^ 12 := Nat.le_trans h1 h2
  have h4 : ((q ^ d : Nat) : Int) = (q : Int) ^ d := Int.natCast_pow q d
  rw [← h4]
  have h5 : (4 : Nat) ^ 12 = 16777216 := by decide
  rw [h5] at h3
  have h6 : (2 : Int) ^ 60 = 1152921504606846976 := by decide
  rw [h6]; omega
theorem T_bound {δ : Nat → Int → Nat} {cs : List Int} {m : Nat} : ∀ d s, 0 ≤ Tc δ cs m d s ∧ Tc δ cs m d s ≤ (cs.length : Int) ^ d
  | 0, s => by rw [Tc]; split <;> simp
  | d + 1, s => by
    rw [Tc]
    constructor
    · have gen : ∀ l : List Int, 0 ≤ (l.map fun c => Tc δ cs m d (δ s c)).sum := fun l => by
        induction l with
        | nil => exact Int.le_refl _
        | cons c l ih => rw [List.map_cons, List.sum_cons]; have := (T_bound (δ := δ) (cs := cs) (m := m) d (δ s c)).1; omega
      exact gen cs
    · have gen : ∀ l : List Int, (l.map fun c => Tc δ cs m d (δ s c)).sum ≤ (l.map fun _ => (cs.length : Int) ^ d).sum := fun l => by
        induction l with
        | nil => exact Int.le_refl _
        | cons c l ih => rw [List.map_cons, List.map_cons, List.sum_cons, List.sum_cons]; have := (T_bound (δ := δ) (cs := cs) (m := m) d (δ s c)).2; omega
      refine Int.le_trans (gen cs) (Int.le_of_eq ?_)
      rw [sum_const, Int.pow_succ, Int.mul_comm]

/-- the plain law -/
theorem plain_law {r cs bs : List Int} (nd : cs.Nodup) (hr : ∀ y ∈ r, y ∈ cs) (h0 : 0 < r.length) (hb : ∀ b : Nat, 0 < b → b < r.length → (bs.any (· == (b : Int)) = true ↔ Bd (fun k => r.getD k 0) r.length b)) (N : Nat) (hN : N = 2 * r.length) :
    (((List.range (N + 1)).map fun n => (cs.length : Int) ^ n - cv (rn (endsF r.length cs.length) (turnsF bs r.length cs.length)) (fun d => (cs.length : Int) ^ d) n) ::
      (List.range (N - r.length + 1)).map fun j => (List.range (N + 1)).map (cv (itF (rn (endsF r.length cs.length) (turnsF bs r.length cs.length)) (rn (turnsF bs r.length cs.length) (turnsF bs r.length cs.length)) j) (neverF cs.length (rn (turnsF bs r.length cs.length) (turnsF bs r.length cs.length))))) =
    (List.range (r.length + 2)).map fun j => (List.range (N + 1)).map fun n => Hc (dl r) cs r.length n 0 j := by
  have L := law_rows (e := endsF r.length cs.length) (T := turnsF bs r.length cs.length) (δ := dl r) (cs := cs) (m := r.length) (fun n => ends_eq nd hr h0 (n + 1)) (fun n => turns_eq nd hr h0 hb n)
  rw [List.range_succ_eq_map (n := r.length + 1), List.map_cons, List.map_map, show N - r.length + 1 = r.length + 1 by omega]
  congr 1
  · apply List.map_congr_left
    intro n _
    exact (L n 0).1
  · apply List.map_congr_left
    intro j _
    apply List.map_congr_left
    intro n _
    exact (L n j).2
theorem plain_small {r cs bs : List Int} (nd : cs.Nodup) (hr : ∀ y ∈ r, y ∈ cs) (h0 : 0 < r.length) (hb : ∀ b : Nat, 0 < b → b < r.length → (bs.any (· == (b : Int)) = true ↔ Bd (fun k => r.getD k 0) r.length b)) (hq : cs.length ≤ 4) (d : Nat) (hd : d ≤ 12) :
    SmallI (turnsF bs r.length cs.length d) ∧ SmallI ((cs.length : Int) ^ d) ∧ SmallI (rn (turnsF bs r.length cs.length) (turnsF bs r.length cs.length) d) ∧ SmallI (neverF cs.length (rn (turnsF bs r.length cs.length) (turnsF bs r.length cs.length)) d) := by
  have hT := fun n => turns_eq (bs := bs) nd hr h0 hb n
  have hA : ∀ n, rn (turnsF bs r.length cs.length) (turnsF bs r.length cs.length) n = fc (dl r) cs r.length n r.length := rn_unique rfl (by rw [hT]; simp [Tc]) fun n => by
    rw [hT, T_renew]; exact cv_congr (fun _ _ => rfl) fun k _ => (hT k).symm
  have hp := pow_le hq hd
  refine ⟨?_, ?_, ?_, ?_⟩
  · rw [hT]; exact small_of (T_bound d _).1 (Int.le_trans (T_bound d _).2 hp)
  · exact small_of (Int.le_trans (T_bound (δ := dl r) (cs := cs) (m := r.length) d 0).1 (T_bound d 0).2) hp
  · rw [hA]; exact small_of (fc_bound d _).1 (Int.le_trans (fc_bound d _).2 hp)
  · rw [never_eq hA]; exact small_of (H0_bound d _).1 (Int.le_trans (H0_bound d _).2 hp)
end Mine

namespace Mine

section
variable {prog : Program} {w : World} {A : Around} {env : Env} {h₁ : Heap}
theorem tst_and {a b : Expr} {pos : Pos} {p q : Bool} (x : Tst prog w A env h₁ a p) (y : p = true → Tst prog w A env h₁ b q) : Tst prog w A env h₁ (.BoolOp .And [a, b] pos) (p && q) := fun s E k => by
  show wpAny (model prog w) A (isTrue a env (eval a env) >>= fun t => match BoolOp.And, t with
    | .And, false => pure false
    | .Or, true => pure true
    | _, _ => allTrue .And [b] env) _ E s
  refine wpAny_bind (wpAny_mono (x s E k) (fun r s₁ hr => ?_) fun _ _ e => e)
  obtain ⟨k₁, rfl⟩ := hr
  cases r with
  | false => exact wpAny_pure ⟨k₁, rfl⟩
  | true =>
    show wpAny (model prog w) A (isTrue b env (eval b env) >>= fun t => match BoolOp.And, t with
      | .And, false => pure false
      | .Or, true => pure true
      | _, _ => allTrue .And [] env) _ E s₁
    refine wpAny_bind (wpAny_mono (y rfl s₁ E (k.trans (keeps_le k₁))) (fun r s₂ hr => ?_) fun _ _ e => e)
    obtain ⟨k₂, rfl⟩ := hr
    cases r with
    | false => exact wpAny_pure ⟨keeps_trans k₁ k₂, rfl⟩
    | true => exact wpAny_pure ⟨keeps_trans k₁ k₂, rfl⟩

/-! two tables of ints compared -/
abbrev rowsD (rows : List (List Int)) : List PyData := rows.map fun r => .list (r.map PyData.int)
theorem reads_rows {h : Heap} : ∀ {as : List Addr} {rows : List (List Int)}, RowsP h as rows → ∃ bs, ReadsAll h (as.map Value.ref) (rowsD rows) bs
  | [], [], _ => ⟨[], .nil⟩
  | [], _ :: _, x => by have := x.1; simp at this
  | _ :: _, [], x => by have := x.1; simp at this
  | a :: as, r :: rows, x => by
    obtain ⟨bs, R⟩ := reads_rows (h := h) (as := as) (rows := rows) ⟨by simpa using x.1, fun i b q h1 h2 => x.2 (i + 1) b q (by simpa using h1) (by simpa using h2)⟩
    obtain ⟨vs, p, i⟩ := x.2 0 a r rfl rfl
    exact ⟨_, ReadsAll.cons (reads_of_ints p.isList i) R⟩
theorem reads_mtx {h : Heap} {a : Addr} {as : List Addr} {rows : List (List Int)} (x : LR h a as) (y : RowsP h as rows) : ∃ bs, Reads h (.ref a) (.list (rowsD rows)) bs := by
  obtain ⟨bs, R⟩ := reads_rows y
  obtain ⟨n, e⟩ := x
  exact ⟨_, Reads.list e rfl rfl (by simpa using R)⟩
theorem canLay_rows : ∀ rows : List (List Int), PyData.canLayAll0 (rowsD rows) = true
  | [] => by simp [PyData.canLayAll0]
  | r :: rows => by
    have := canLay_rows rows
    simp only [rowsD, List.map_cons, PyData.canLayAll0, PyData.canLay0, Bool.and_eq_true]
    exact ⟨canLayAll0_ints r, this⟩
theorem depth_rows : ∀ rows : List (List Int), PyData.depthAll (rowsD rows) ≤ 3
  | [] => by simp [PyData.depthAll]
  | r :: rows => by
    have h1 := depth_rows rows
    have h2 := PySem.W.depthAll_ints r
    simp only [rowsD, List.map_cons, PyData.depthAll, PyData.depth] at h1 ⊢
    omega
theorem shaped_rows (rows : List (List Int)) : PySem.SeqAt.shaped (.list (rowsD rows)) = true := by
  have h1 := depth_rows rows
  show (PyData.canLay0 (.list (rowsD rows)) && decide (PyData.depth (.list (rowsD rows)) ≤ 64)) = true
  rw [Bool.and_eq_true]
  exact ⟨by simp only [PyData.canLay0]; exact canLay_rows rows, decide_eq_true (by simp only [PyData.depth]; omega)⟩
theorem noMix_rows : ∀ rows : List (List Int), SeqAt.noMixAll (rowsD rows) (rowsD rows) = true
  | [] => by simp [SeqAt.noMixAll]
  | r :: rows => by
    have := noMix_rows rows
    simp only [rowsD, List.map_cons, SeqAt.noMixAll, SeqAt.noMix, Bool.and_eq_true]
    exact ⟨noMix_ints r r, this⟩
theorem same_rows : ∀ rows : List (List Int), PySem.Spec.sameAll (rowsD rows) (rowsD rows) = true
  | [] => by simp [PySem.Spec.sameAll]
  | r :: rows => by
    have := same_rows rows
    simp only [rowsD, List.map_cons, PySem.Spec.sameAll, PySem.Spec.same, Bool.and_eq_true]
    exact ⟨by rw [same_ints]; simp, this⟩

def EvMx (prog : Program) (w : World) (A : Around) (env : Env) (h₁ : Heap) (e : Expr) (rows : List (List Int)) : Prop := Ev prog w A env h₁ e fun _ v h' => ∃ a as, v = .ref a ∧ LR h' a as ∧ RowsP h' as rows
theorem ev_eqMx {l r : Expr} {pos : Pos} {rows : List (List Int)} (x : EvMx prog w A env h₁ l rows) (y : EvMx prog w A env h₁ r rows) (hu : A.units + 64 < cLine) : Ev prog w A env h₁ (.Compare l [.Eq] [r] pos) fun _ v _ => v = .bool true := fun s E k =>
  wpAny_Compare1 (Ev.two x y k fun u v s₁ s₂ k₁ ⟨a, as, e, L, R⟩ k₂ ⟨b, bs, e', L', R'⟩ => by
    subst e e'
    obtain ⟨_, ra⟩ := reads_mtx (L.le (keeps_le k₂)) (rows_le R (keeps_le k₂))
    obtain ⟨_, rb⟩ := reads_mtx L' R'
    refine eq_dataH_same ra rb (shaped_rows rows) (shaped_rows rows) hu (by simp only [SeqAt.noMix]; exact noMix_rows rows) ⟨keeps_trans k₁ k₂, ?_⟩
    simp only [PySem.Spec.same, same_rows]) (marks_ne rfl)

/-! the text's functions -/
structure IsFn (h : Heap) (x : Str) (st : Stmt) (f : Addr) (fd : FuncData) : Prop where
  gf : Gf h x (.ref f)
  obj : ∃ o, h.get? f = some o ∧ o.data = .func fd
  code : h.CodeRec fd.code fd.qualname
  body : fd.body = .stmts (fnBody st)
  params : fd.params = fnArgs st
  scope : fd.scope = fnScope st
  dflt : fd.defaults = .none
  kw : fd.kwdefaults = .none
  clo : fd.closure = []
  glob : fd.globals = mainGlobals
  bi : fd.builtins = builtinsNs
theorem IsFn.le {h h' x st f fd} (F : IsFn h x st f fd) (k : Le h h') : IsFn h' x st f fd :=
  ⟨F.gf.le k, let ⟨o, e, d⟩ := F.obj; ⟨o, k _ _ e, d⟩, F.code.keeps k, F.body, F.params, F.scope, F.dflt, F.kw, F.clo, F.glob, F.bi⟩

theorem gen_call {s : Shared} {x : Str} {f : Addr} {fd : FuncData} {aP : Addr} {ns : List Int} (F : IsFn s.heap x gS f fd) (hlim : s.heap.NoLimit) (hG : Glb s.heap) (hroom : A.depth < recursionLimit) (hh : A.handled = none) (hP : LI s.heap aP ns) (hn : ns.length ≤ 1000) (h1 : 1 ≤ ns.length) :
    codeAny (model prog w) A (.call (.ref f) ⟨[.ref aP], []⟩) (fun r s' => ∃ v, r = .ok (.ret v) ∧ Keeps s s' ∧ ∃ a t, v = .ref a ∧ s.heap.get? a = none ∧ LI s'.heap a t ∧ TabUp (fun k => ns.getD k 0) ns.length ns.length t) s := by
  obtain ⟨_, ⟨o, ho, hd⟩, code, body, params, scope, dflt, kw, clo, glob, bi⟩ := F
  obtain ⟨name, qual, ps, bd, sc, gl, cl, df, kd, doc, pm, an, cdv, ct, bs⟩ := fd
  simp only at body params scope dflt kw clo glob bi code
  subst body params scope dflt kw clo glob bi
  refine enter (Φ := fun v h' => ∃ a t, v = .ref a ∧ s.heap.get? a = none ∧ LI h' a t ∧ TabUp (fun k => ns.getD k 0) ns.length ns.length t) (names := ["prefix"]) (ds := [.ref aP]) hroom ho hd hlim code rfl rfl rfl ?_ (.cons rfl .nil) rfl rfl rfl ?_
  · intro n y hy
    simp only [List.zip_cons_cons, List.zip_nil_left, List.mem_singleton] at hy
    subst hy; exact .inl rfl
  · intro h tk S E
    exact gen_body (A := A.deeper _) hh S hP hG hn h1 E

theorem told_call {s : Shared} {x : Str} {f : Addr} {fd : FuncData} {aB : Addr} {bs : List Int} {m q N : Nat} {vs : List Value} (F : IsFn s.heap x tS f fd) (hlim : s.heap.NoLimit) (hG : Glb s.heap) (hroom : A.depth < recursionLimit) (hh : A.handled = none) (hB : LI s.heap aB bs)
    (hvs : DsAre [.ref aB, .int m, .int q, .int N] vs) (hm : m ≤ N) (hN : N ≤ 100) (hq : q ≤ 10)
    (hT : ∀ d, d ≤ N → SmallI (turnsF bs m q d)) (hQ : ∀ d, d ≤ N → SmallI ((q : Int) ^ d))
    (hA : ∀ d, d ≤ N → SmallI (rn (turnsF bs m q) (turnsF bs m q) d)) (hNv : ∀ d, d ≤ N → SmallI (neverF q (rn (turnsF bs m q) (turnsF bs m q)) d)) :
    codeAny (model prog w) A (.call (.ref f) ⟨vs, []⟩) (fun r s' => ∃ v, r = .ok (.ret v) ∧ Keeps s s' ∧ ∃ a as, v = .ref a ∧ LR s'.heap a as ∧
      RowsP s'.heap as (((List.range (N + 1)).map fun n => (q : Int) ^ n - cv (rn (endsF m q) (turnsF bs m q)) (fun d => (q : Int) ^ d) n) ::
        (List.range (N - m + 1)).map fun j => (List.range (N + 1)).map (cv (itF (rn (endsF m q) (turnsF bs m q)) (rn (turnsF bs m q) (turnsF bs m q)) j) (neverF q (rn (turnsF bs m q) (turnsF bs m q)))))) s := by
  obtain ⟨_, ⟨o, ho, hd⟩, code, body, params, scope, dflt, kw, clo, glob, bi⟩ := F
  obtain ⟨name, qual, ps, bd, sc, gl, cl, df, kd, doc, pm, an, cdv, ct, bu⟩ := fd
  simp only at body params scope dflt kw clo glob bi code
  subst body params scope dflt kw clo glob bi
  cases hvs with
  | cons h1 hvs => cases hvs with
    | cons h2 hvs => cases hvs with
      | cons h3 hvs => cases hvs with
        | cons h4 hvs =>
          cases hvs
          refine enter (Φ := fun v h' => ∃ a as, v = .ref a ∧ LR h' a as ∧ RowsP h' as (((List.range (N + 1)).map fun n => (q : Int) ^ n - cv (rn (endsF m q) (turnsF bs m q)) (fun d => (q : Int) ^ d) n) ::
            (List.range (N - m + 1)).map fun j => (List.range (N + 1)).map (cv (itF (rn (endsF m q) (turnsF bs m q)) (rn (turnsF bs m q) (turnsF bs m q)) j) (neverF q (rn (turnsF bs m q) (turnsF bs m q)))))) (names := ["borders", "size", "many", "length"]) hroom ho hd hlim code rfl rfl rfl ?_ (.cons h1 (.cons h2 (.cons h3 (.cons h4 .nil)))) rfl rfl rfl ?_
          · intro n y hy
            simp only [List.zip_cons_cons, List.zip_nil_left, List.mem_cons, List.not_mem_nil, or_false] at hy
            rcases hy with rfl | rfl | rfl | rfl
            · exact .inl rfl
            · exact .inl rfl
            · exact .inr ⟨rfl, rfl⟩
            · exact .inl rfl
          · intro h tk S E
            exact told_body (A := A.deeper _) hh S hB hG hm hN hq hT hQ hA hNv E

theorem counted_call {s : Shared} {x : Str} {f : Addr} {fd : FuncData} {aR aG : Addr} {r cs : List Int} {N : Nat} {vs : List Value} (F : IsFn s.heap x cS f fd) (hlim : s.heap.NoLimit) (hG : Glb s.heap) (hroom : A.depth < recursionLimit) (hh : A.handled = none) (hu : A.units + 70 < cLine) (hR : LI s.heap aR r) (hC : LI s.heap aG cs)
    (hvs : DsAre [.ref aR, .ref aG, .int N] vs) (hr : r.length ≤ 20) (hcs : cs.length ≤ 100) (hN : N = 2 * r.length) (hr0 : 1 ≤ r.length) :
    codeAny (model prog w) A (.call (.ref f) ⟨vs, []⟩) (fun q s' => ∃ v, q = .ok (.ret v) ∧ Keeps s s' ∧ ∃ a as, v = .ref a ∧ LR s'.heap a as ∧
      RowsP s'.heap as ((List.range (r.length + 2)).map fun j => (List.range (N + 1)).map fun n => Hc (dl r) cs r.length n 0 j)) s := by
  obtain ⟨_, ⟨o, ho, hd⟩, code, body, params, scope, dflt, kw, clo, glob, bi⟩ := F
  obtain ⟨name, qual, ps, bd, sc, gl, cl, df, kd, doc, pm, an, cdv, ct, bu⟩ := fd
  simp only at body params scope dflt kw clo glob bi code
  subst body params scope dflt kw clo glob bi
  cases hvs with
  | cons h1 hvs => cases hvs with
    | cons h2 hvs => cases hvs with
      | cons h3 hvs =>
        cases hvs
        refine enter (Φ := fun v h' => ∃ a as, v = .ref a ∧ LR h' a as ∧ RowsP h' as ((List.range (r.length + 2)).map fun j => (List.range (N + 1)).map fun n => Hc (dl r) cs r.length n 0 j)) (names := ["row", "signs", "length"]) hroom ho hd hlim code rfl rfl rfl ?_ (.cons h1 (.cons h2 (.cons h3 .nil))) rfl rfl rfl ?_
        · intro n y hy
          simp only [List.zip_cons_cons, List.zip_nil_left, List.mem_cons, List.not_mem_nil, or_false] at hy
          rcases hy with rfl | rfl | rfl
          · exact .inr ⟨rfl, rfl⟩
          · exact .inl rfl
          · exact .inl rfl
        · intro h tk S E
          exact counted_body (A := A.deeper _) hh (by show A.units + 3 + 64 < cLine; omega) S hR hC hG hr hcs hN hr0 E
end
end Mine

namespace Mine

abbrev lS : Stmt := stmtAt 5
theorem any_cast (bs : List Nat) (b : Nat) : (bs.map fun (x : Nat) => (x : Int)).any (· == (b : Int)) = true ↔ b ∈ bs := by
  rw [List.any_eq_true]
  constructor
  · rintro ⟨x, hx, e⟩
    obtain ⟨y, hy, rfl⟩ := List.mem_map.mp hx
    have : (y : Int) = b := by simpa using e
    have : y = b := by omega
    exact this ▸ hy
  · intro h
    exact ⟨(b : Int), List.mem_map.mpr ⟨b, h, rfl⟩, by simp⟩
theorem EvMx.eq {prog w A env h₁} {e : Expr} {a b : List (List Int)} (x : EvMx prog w A env h₁ e a) (h : a = b) : EvMx prog w A env h₁ e b := h ▸ x
theorem filter_tt (l : List Nat) : l.filter (fun _ => true) = l := List.filter_eq_self.mpr fun _ _ => rfl

def rhoL (aZ : Addr) (tot bse m : Int) : Str → Option D := upd (upd (upd (upd (fun _ => none) "script" (.ref aZ)) "total" (.int tot)) "base" (.int bse)) "size" (.int m)

set_option maxHeartbeats 4000000 in
theorem law_body {prog : Program} {w : World} {A : Around} {s : Shared} {L : Addr} {qn : Str} {f : Addr} {cd : Value} {aZ : Addr} {ns : List Int} {h : Heap} {tk : Nat} {fg ft fc' : Addr} {dg dt dc : FuncData} (hh : A.handled = none) (hu : A.units + 70 < cLine) (hroom : A.depth < recursionLimit)
    (S : St s.heap.get? (tEnv (fnScope lS) L qn f cd) (upd (fun _ => none) "script" (.ref aZ)) (fun _ => none) h) (hZ : LI s.heap aZ ns) (hG : Glb s.heap) (hlim : s.heap.NoLimit)
    (Fg : IsFn s.heap "_generate_overlap_table" gS fg dg) (Ft : IsFn s.heap "_law_told" tS ft dt) (Fc : IsFn s.heap "_law_counted" cS fc' dc) (hn : ns.length ≤ 63) (E : Value → Shared → Prop) :
    wpAny (model prog w) A (execs (fnBody lS) (tEnv (fnScope lS) L qn f cd)) (fun fl s' => ∃ v h' tk', fl = .ret v ∧ s' = mkS s h' tk' ∧ Le s.heap h' ∧ v = .bool true) E (mkS s h tk) := by
  have ok : EnvOk (tEnv (fnScope lS) L qn f cd) := ⟨rfl, rfl, rfl⟩
  show wpAny _ _ (execs (_ :: _) _) _ _ _
  refine do_int ok S (.inr ⟨rfl, _, rfl⟩) (ev_sum ok (hG.le S.kept) hh (ev_nameL ok (S.has rfl (.inr ⟨rfl, _, rfl⟩)) (hZ.le S.kept))) ?_
  intro h₁ tk₁ S₁
  generalize ns.sum = tot at *
  refine do_int ok S₁ (.inr ⟨rfl, _, rfl⟩) (ev_add ev_const (ev_mod (ev_name ok (S₁.has rfl (.inr ⟨rfl, _, rfl⟩))) ev_const (by decide))) ?_
  intro h₂ tk₂ S₂
  have hb1 : tot.fmod 2 = tot % 2 := Int.fmod_eq_emod_of_nonneg _ (by decide)
  have hbase : 2 ≤ 2 + tot.fmod 2 ∧ 2 + tot.fmod 2 ≤ 3 := by rw [hb1]; omega
  generalize 2 + tot.fmod 2 = bse at *
  refine do_int ok S₂ (.inr ⟨rfl, _, rfl⟩) (ev_add ev_const (ev_min2 ok (hG.le S₂.kept) hh (ev_fdiv (ev_len ok (hG.le S₂.kept) (ev_nameL ok (S₂.has rfl (.inr ⟨rfl, _, rfl⟩)) (hZ.le S₂.kept)) (by omega)) ev_const (by decide) (PyProof.noPylong_small (by omega))) ev_const)) ?_
  intro h₃ tk₃ S₃
  obtain ⟨m, hm, hm2, hm6⟩ : ∃ m : Nat, 2 + min ((ns.length : Int).fdiv 2) 4 = (m : Int) ∧ 2 ≤ m ∧ m ≤ 6 := by
    have e : (ns.length : Int).fdiv 2 = (ns.length : Int) / 2 := Int.fdiv_eq_ediv_of_nonneg _ (by decide)
    rw [e]
    refine ⟨2 + min (ns.length / 2) 4, ?_, ?_, ?_⟩ <;> omega
  rw [hm] at S₃
  have S₃ : St s.heap.get? (tEnv (fnScope lS) L qn f cd) (rhoL aZ tot bse m) (fun _ => none) h₃ := S₃
  have x1 : rhoL aZ tot bse m "script" = some (.ref aZ) := rfl
  have x2 : rhoL aZ tot bse m "total" = some (.int tot) := rfl
  have x3 : rhoL aZ tot bse m "base" = some (.int bse) := rfl
  have x4 : rhoL aZ tot bse m "size" = some (.int (m : Int)) := rfl
  generalize rhoL aZ tot bse m = ρ₃ at *
  refine do_compI ok S₃ (.inl rfl) (src_range1 ok (hG.le S₃.kept) hh (ev_name ok (S₃.has x4 (.inr ⟨rfl, _, rfl⟩))) (by omega) (by omega)) (fun _ => true) (fun (k : Nat) => tot + (pickNums ns (some (0 + (k : Int))) none (some (m : Int))).sum.fmod bse) (fun _ _ _ _ _ _ _ => tstAll_nil) ?_ ?_ ?_ rfl rfl rfl (by decide) (fun _ => rfl) (.loc (fun _ => rfl) (fun _ => rfl))
  · intro k d C h₄ hd _ hl Hk
    obtain ⟨hk, rfl⟩ := upto_some hd
    exact ev_add (ev_name (cEnv_ok ok rfl) (((S₃.has x2 (.inr ⟨rfl, _, rfl⟩)).le hl).into rfl rfl rfl)) (ev_mod (ev_sum (cEnv_ok ok rfl) (hG.le (Le.trans S₃.kept hl)) hh
      (EvN.l (ev_step (ev_nameL (cEnv_ok ok rfl) (((S₃.has x1 (.inr ⟨rfl, _, rfl⟩)).le hl).into rfl rfl rfl) ((hZ.le S₃.kept).le hl)) (ev_name (cEnv_ok ok rfl) Hk) (ev_name (cEnv_ok ok rfl) (((S₃.has x4 (.inr ⟨rfl, _, rfl⟩)).le hl).into rfl rfl rfl)) (by omega) (by simp [sizeLine]; omega))))
      (ev_name (cEnv_ok ok rfl) (((S₃.has x3 (.inr ⟨rfl, _, rfl⟩)).le hl).into rfl rfl rfl)) (by omega))
  rotate_left
  · rw [upto_length]; simp [sizeLine]; omega
  intro aR h₄ tk₄ _ fR S₄
  rw [filter_tt, upto_length, show ((m : Int) - 0).toNat = m by omega] at S₄
  obtain ⟨r, hr, hrl, hrin⟩ : ∃ r : List Int, (List.range m).map (fun (k : Nat) => tot + (pickNums ns (some (0 + (k : Int))) none (some (m : Int))).sum.fmod bse) = r ∧ r.length = m ∧ ∀ y ∈ r, tot ≤ y ∧ y < tot + bse := by
    refine ⟨_, rfl, by simp, fun y hy => ?_⟩
    obtain ⟨k, _, rfl⟩ := List.mem_map.mp hy
    have h1 := Int.fmod_nonneg_of_pos (pickNums ns (some (0 + (k : Int))) none (some (m : Int))).sum (show 0 < bse by omega)
    have h2 := Int.fmod_lt_of_pos (pickNums ns (some (0 + (k : Int))) none (some (m : Int))).sum (show 0 < bse by omega)
    omega
  rw [hr] at S₄
  have hl2 : (ns.length : Int).fmod 2 = (ns.length : Int) % 2 := Int.fmod_eq_emod_of_nonneg _ (by decide)
  refine do_compI ok S₄ (.inl rfl) (src_range1 ok (hG.le S₄.kept) hh (ev_add (ev_name ok (S₄.has ((upd_ne (by decide)).trans x3) (.inr ⟨rfl, _, rfl⟩))) (ev_mod (ev_len ok (hG.le S₄.kept) (ev_nameL ok (S₄.has ((upd_ne (by decide)).trans x1) (.inr ⟨rfl, _, rfl⟩)) (hZ.le S₄.kept)) (by omega)) ev_const (by decide))) (by omega) (by omega))
    (fun _ => true) (fun (k : Nat) => tot + (0 + (k : Int))) (fun _ _ _ _ _ _ _ => tstAll_nil) ?_ ?_ ?_ rfl rfl rfl (by decide) (fun _ => rfl) (.loc (fun _ => rfl) (fun _ => rfl))
  · intro k d C h₅ hd _ hl Hk
    obtain ⟨hk, rfl⟩ := upto_some hd
    exact ev_add (ev_name (cEnv_ok ok rfl) (((S₄.has ((upd_ne (by decide)).trans x2) (.inr ⟨rfl, _, rfl⟩)).le hl).into rfl rfl rfl)) (ev_name (cEnv_ok ok rfl) Hk)
  rotate_left
  · rw [upto_length]; simp [sizeLine]; omega
  intro aC h₅ tk₅ _ fC S₅
  rw [filter_tt, upto_length] at S₅
  obtain ⟨cs, hcs, hnd, hcl, hin⟩ : ∃ cs : List Int, (List.range (bse + (ns.length : Int).fmod 2 - 0).toNat).map (fun (k : Nat) => tot + (0 + (k : Int))) = cs ∧ cs.Nodup ∧ cs.length ≤ 4 ∧ ∀ y ∈ r, y ∈ cs := by
    refine ⟨_, rfl, ?_, by simp; omega, fun y hy => ?_⟩
    · exact List.Pairwise.map _ (fun a b (hab : a ≠ b) e => hab (by omega)) List.nodup_range
    · have := hrin y hy
      refine List.mem_map.mpr ⟨(y - tot).toNat, List.mem_range.mpr (by omega), by omega⟩
  rw [hcs] at S₅
  clear hcs hr
  have nRC : aR ≠ aC := fun z => by have := fC.g; rw [← z, upd_self] at this; cases this
  have gR : upd (upd (fun _ => none : Addr → Option Con) aR (.lp r)) aC (.lp cs) aR = some (.lp r) := by rw [upd_ne nRC, upd_self]
  have gC : upd (upd (fun _ => none : Addr → Option Con) aR (.lp r)) aC (.lp cs) aC = some (.lp cs) := upd_self
  have y4 : (upd (upd ρ₃ "row" (.ref aR)) "signs" (.ref aC)) "size" = some (.int (m : Int)) := (upd_ne (by decide)).trans ((upd_ne (by decide)).trans x4)
  have yr : (upd (upd ρ₃ "row" (.ref aR)) "signs" (.ref aC)) "row" = some (.ref aR) := (upd_ne (by decide)).trans upd_self
  have ys : (upd (upd ρ₃ "row" (.ref aR)) "signs" (.ref aC)) "signs" = some (.ref aC) := upd_self
  generalize upd (upd ρ₃ "row" (.ref aR)) "signs" (.ref aC) = ρ₅ at *
  generalize upd (upd (fun _ => none : Addr → Option Con) aR (.lp r)) aC (.lp cs) = G₅ at *
  have lR : LI h₅ aR r := LP.li (S₅.own _ _ gR).1
  obtain ⟨og, hog, hdg⟩ := (Fg.le S₅.kept).obj
  refine do_assign ok S₅ (.inl rfl) (ev_fnN (Φ := fun h v h' => ∃ a t, v = .ref a ∧ h.get? a = none ∧ LI h' a t ∧ TabUp (fun k => r.getD k 0) r.length r.length t) ok (Fg.le S₅.kept).gf hog hdg (ev_listcopy ok (hG.le S₅.kept) (ev_nameL ok (S₅.has yr (.inl rfl)) lR) (by simp [sizeLine]; omega))
    (fun s' a le L' => gen_call (Fg.le (Le.trans S₅.kept le)) (hlim.keeps (Le.trans S₅.kept le)) (hG.le (Le.trans S₅.kept le)) hroom hh L'.li (by omega) (by omega))
    (fun h h' v h'' le ⟨a, t, e, hn, q⟩ => ⟨a, t, e, le.none hn, q⟩)) (fun v h₆ le ⟨aT, t, e, hnT, lT, hT⟩ => ⟨.ref aT, upd G₅ aT (.li t), e, (S₅.le le).add (S₅.new hnT) lT, fun h₇ tk₇ S₇ => ?_⟩) rfl
  have fT := S₅.new hnT
  have nT : ∀ c x, G₅ c = some x → upd G₅ aT (.li t) c = some x := fun c x e => (upd_ne (fun z => by have := fT.g; rw [← z, e] at this; cases this)).trans e
  have gR₇ := nT _ _ gR
  have gC₇ := nT _ _ gC
  have gT₇ : upd G₅ aT (.li t) aT = some (.li t) := upd_self
  have z4 : (upd ρ₅ "table" (.ref aT)) "size" = some (.int (m : Int)) := (upd_ne (by decide)).trans y4
  have zr : (upd ρ₅ "table" (.ref aT)) "row" = some (.ref aR) := (upd_ne (by decide)).trans yr
  have zs : (upd ρ₅ "table" (.ref aT)) "signs" = some (.ref aC) := (upd_ne (by decide)).trans ys
  have zt : (upd ρ₅ "table" (.ref aT)) "table" = some (.ref aT) := upd_self
  generalize upd ρ₅ "table" (.ref aT) = ρ₇ at *
  generalize upd G₅ aT (.li t) = G₇ at *
  clear hnT lT fT nT
  refine do_new ok S₇ (.inl rfl) ev_list0 ?_
  intro aB h₈ tk₈ _ fB S₈
  have nB : ∀ c x, G₇ c = some x → upd G₇ aB (.lp []) c = some x := fun c x e => (upd_ne (fun z => by have := fB.g; rw [← z, e] at this; cases this)).trans e
  have nRB : aR ≠ aB := fun z => by have := fB.g; rw [← z, gR₇] at this; cases this
  have nCB : aC ≠ aB := fun z => by have := fB.g; rw [← z, gC₇] at this; cases this
  have gR₈ := nB _ _ gR₇
  have gC₈ := nB _ _ gC₇
  have gT₈ := nB _ _ gT₇
  have gB₈ : upd G₇ aB (.lp []) aB = some (.lp []) := upd_self
  have z4₈ : (upd ρ₇ "borders" (.ref aB)) "size" = some (.int (m : Int)) := (upd_ne (by decide)).trans z4
  have zr₈ : (upd ρ₇ "borders" (.ref aB)) "row" = some (.ref aR) := (upd_ne (by decide)).trans zr
  have zs₈ : (upd ρ₇ "borders" (.ref aB)) "signs" = some (.ref aC) := (upd_ne (by decide)).trans zs
  have zt₈ : (upd ρ₇ "borders" (.ref aB)) "table" = some (.ref aT) := (upd_ne (by decide)).trans zt
  have zb₈ : (upd ρ₇ "borders" (.ref aB)) "borders" = some (.ref aB) := upd_self
  generalize upd ρ₇ "borders" (.ref aB) = ρ₈ at *
  generalize upd G₇ aB (.lp []) = G₈ at *
  obtain ⟨b₀, hb₀, hbl⟩ := hT.2 (r.length - 1) (by omega)
  rw [show r.length - 1 + 1 = r.length by omega] at hbl
  refine do_int ok S₈ (.inl rfl) (ev_idx (ev_nameL ok (S₈.has zt₈ (.inl rfl)) (S₈.own _ _ gT₈).1) (ev_sub (ev_name ok (S₈.has z4₈ (.inr ⟨rfl, _, rfl⟩))) ev_const) (by omega) (by rw [show ((m : Int) - 1).toNat = r.length - 1 by omega]; exact hb₀)) ?_
  intro h₉ tk₉ S₉
  refine do_while (fun n ρ G => ρ "size" = some (.int (m : Int)) ∧ ρ "row" = some (.ref aR) ∧ ρ "signs" = some (.ref aC) ∧ ρ "table" = some (.ref aT) ∧ ρ "borders" = some (.ref aB) ∧ ρ "lap" = some (.int (n : Int)) ∧
      G aR = some (.lp r) ∧ G aC = some (.lp cs) ∧ G aT = some (.li t) ∧ ∃ bs : List Nat, G aB = some (.lp (bs.map fun (b : Nat) => (b : Int))) ∧ Bd (fun k => r.getD k 0) r.length n ∧ bs.length + n < r.length ∧ ∀ b, b ∈ bs ↔ Bd (fun k => r.getD k 0) r.length b ∧ n < b)
    (fun ρ G => ρ "size" = some (.int (m : Int)) ∧ ρ "row" = some (.ref aR) ∧ ρ "signs" = some (.ref aC) ∧ ρ "table" = some (.ref aT) ∧ ρ "borders" = some (.ref aB) ∧
      G aR = some (.lp r) ∧ G aC = some (.lp cs) ∧ G aT = some (.li t) ∧ ∃ bs : List Nat, G aB = some (.lp (bs.map fun (b : Nat) => (b : Int))) ∧ ∀ b, 0 < b → (b ∈ bs ↔ Bd (fun k => r.getD k 0) r.length b)) b₀ S₉
    ⟨(upd_ne (by decide)).trans z4₈, (upd_ne (by decide)).trans zr₈, (upd_ne (by decide)).trans zs₈, (upd_ne (by decide)).trans zt₈, (upd_ne (by decide)).trans zb₈, upd_self, gR₈, gC₈, gT₈, [], gB₈, hbl.1, by have := hbl.1.1; simp; omega, fun b => ⟨fun hb => absurd hb List.not_mem_nil, fun hb => absurd (hbl.2 b hb.1) (by omega)⟩⟩ ?_ ?_
  · rintro n ρ G h₁₀ ⟨e4, er, es, et, eb, el, gR, gC, gT, bs, gB, hbn, hlen, hmem⟩ S₁₀
    refine ⟨_, tst_and (tst_ne (ev_name ok (S₁₀.has el (.inl rfl))) ev_const) (fun _ => tst_lt (ev_len ok (hG.le S₁₀.kept) (ev_nameL ok (S₁₀.has eb (.inl rfl)) (LP.li (S₁₀.own _ _ gB).1)) (by simp; omega)) (ev_name ok (S₁₀.has e4 (.inr ⟨rfl, _, rfl⟩)))), ?_, ?_⟩
    · intro hne h₁₁ tk₁₁ S₁₁ E'
      have hn0 : n ≠ 0 := by
        have := (Bool.and_eq_true_iff.mp hne).1
        intro z; subst z; simp at this
      refine do_appI S₁₁ (ev_nameA ok (S₁₁.has eb (.inl rfl))) (ev_name ok (S₁₁.has el (.inl rfl))) gB (by simp [sizeLine]; omega) ?_
      intro h₁₂ tk₁₂ S₁₂
      have nTB : aT ≠ aB := fun z => by rw [z, gB] at gT; cases gT
      have gT' : upd G aB (.lp ((bs.map fun (b : Nat) => (b : Int)) ++ [(n : Int)])) aT = some (.li t) := (upd_ne nTB).trans gT
      obtain ⟨b', hb', hbl'⟩ := hT.2 (n - 1) (by have := hbn.1; omega)
      rw [show n - 1 + 1 = n by omega] at hbl'
      refine do_int ok S₁₂ (.inl rfl) (ev_idx (ev_nameL ok (S₁₂.has et (.inl rfl)) (S₁₂.own _ _ gT').1) (ev_sub (ev_name ok (S₁₂.has el (.inl rfl))) ev_const) (by omega) (by rw [show ((n : Int) - 1).toNat = n - 1 by omega]; exact hb')) ?_
      intro h₁₃ tk₁₃ S₁₃
      have hb'n := hbl'.1.1
      refine wpAny_execs_nil ⟨b', hb'n, _, _, h₁₃, tk₁₃, rfl, S₁₃, (upd_ne (by decide)).trans e4, (upd_ne (by decide)).trans er, (upd_ne (by decide)).trans es, (upd_ne (by decide)).trans et, (upd_ne (by decide)).trans eb, upd_self,
        (upd_ne nRB).trans gR, (upd_ne nCB).trans gC, gT', bs ++ [n], by rw [upd_self, List.map_append]; rfl, hbn.trans hbl'.1, by rw [List.length_append, List.length_singleton]; omega, fun b => ?_⟩
      rw [List.mem_append, List.mem_singleton, hmem]
      constructor
      · rintro (⟨h1, h2⟩ | rfl)
        · exact ⟨h1, by omega⟩
        · exact ⟨hbn, hb'n⟩
      · rintro ⟨h1, h2⟩
        rcases Nat.lt_trichotomy b n with h3 | h3 | h3
        · exact absurd (hbl'.2 b (hbn.both h1 h3)) (by omega)
        · exact .inr h3
        · exact .inl ⟨h1, h3⟩
    · intro heq h₁₁ tk₁₁ S₁₁ E'
      have hn0 : n = 0 := by
        rcases Bool.and_eq_false_iff.mp heq with h1 | h1
        · simpa using h1
        · have := of_decide_eq_false h1
          rw [List.length_map] at this; omega
      subst hn0
      exact wpAny_execs_nil ⟨rfl, _, _, h₁₁, tk₁₁, rfl, S₁₁, e4, er, es, et, eb, gR, gC, gT, bs, gB, fun b hb => by rw [hmem]; exact ⟨fun z => z.1, fun z => ⟨z, hb⟩⟩⟩
  · rintro ρ G h₁₀ tk₁₀ ⟨e4, er, es, et, eb, gR, gC, gT, bs, gB, hmem⟩ S₁₀
    refine do_if S₁₀ (tst_ne (ev_len ok (hG.le S₁₀.kept) (ev_nameL ok (S₁₀.has et (.inl rfl)) (S₁₀.own _ _ gT).1) (by rw [hT.1]; omega)) (ev_name ok (S₁₀.has e4 (.inr ⟨rfl, _, rfl⟩)))) ?_ ?_
    · intro hne
      rw [hT.1, hrl] at hne
      simp at hne
    intro _ h₁₁ tk₁₁ S₁₁
    refine wpAny_execs_nil ?_
    show wpAny _ _ (execs (_ :: _) _) _ _ _
    have lR := LP.li (S₁₁.own _ _ gR).1
    have lC := LP.li (S₁₁.own _ _ gC).1
    have lB := LP.li (S₁₁.own _ _ gB).1
    have hb : ∀ b : Nat, 0 < b → b < r.length → ((bs.map fun (b : Nat) => (b : Int)).any (· == (b : Int)) = true ↔ Bd (fun k => r.getD k 0) r.length b) := fun b h1 h2 => by rw [any_cast]; exact hmem b h1
    have sm := fun d hd => plain_small (bs := bs.map fun (b : Nat) => (b : Int)) hnd hin (by omega) hb hcl d hd
    have kG := hG.le S₁₁.kept
    have kL := hlim.keeps S₁₁.kept
    obtain ⟨ot, hot, hdt⟩ := (Ft.le S₁₁.kept).obj
    obtain ⟨oc, hoc, hdc⟩ := (Fc.le S₁₁.kept).obj
    refine do_ret S₁₁ (ev_eqMx (rows := (List.range (r.length + 2)).map fun j => (List.range (2 * r.length + 1)).map fun n => Hc (dl r) cs r.length n 0 j) (EvMx.eq ?_ (plain_law hnd hin (by omega) hb (2 * r.length) rfl)) ?_ (by omega)) ?_
    · refine ev_fn (ds := [.ref aB, .int (r.length : Nat), .int (cs.length : Nat), .int (2 * r.length : Nat)]) ok (Ft.le S₁₁.kept).gf hot hdt (.cons (EvA.d (ev_nameA ok (S₁₁.has eb (.inl rfl)))) star_name (.cons (EvI.d (EvI.eq (ev_name ok (S₁₁.has e4 (.inr ⟨rfl, _, rfl⟩))) ?_)) star_name
        (.cons (EvI.d (ev_len ok kG (ev_nameL ok (S₁₁.has es (.inl rfl)) lC) (by omega))) star_call (.cons (EvI.d (EvI.eq (ev_mul ev_const (ev_name ok (S₁₁.has e4 (.inr ⟨rfl, _, rfl⟩))) (.of_left (by decide))) ?_)) star_bin .nil)))) ?_ (fun _ _ _ _ _ x => x) rfl star_name
      · rw [hrl]
      · rw [hrl]; omega
      · intro s' vs le hvs
        exact told_call ((Ft.le S₁₁.kept).le le) (kL.keeps le) (kG.le le) hroom hh (lB.le le) hvs (by omega) (by omega) (by omega) (fun d hd => (sm d (by omega)).1) (fun d hd => (sm d (by omega)).2.1) (fun d hd => (sm d (by omega)).2.2.1) (fun d hd => (sm d (by omega)).2.2.2)
    · refine ev_fn (ds := [.ref aR, .ref aC, .int (2 * r.length : Nat)]) ok (Fc.le S₁₁.kept).gf hoc hdc (.cons (EvA.d (ev_nameA ok (S₁₁.has er (.inl rfl)))) star_name (.cons (EvA.d (ev_nameA ok (S₁₁.has es (.inl rfl)))) star_name
        (.cons (EvI.d (EvI.eq (ev_mul ev_const (ev_name ok (S₁₁.has e4 (.inr ⟨rfl, _, rfl⟩))) (.of_left (by decide))) ?_)) star_bin .nil))) ?_ (fun _ _ _ _ _ x => x) rfl star_name
      · rw [hrl]; omega
      · intro s' vs le hvs
        exact counted_call ((Fc.le S₁₁.kept).le le) (kL.keeps le) (kG.le le) hroom hh hu (lR.le le) (lC.le le) hvs (by omega) (by omega) rfl (by omega)
    · intro v h₁₂ tk₁₂ le hv S₁₂
      exact ⟨v, h₁₂, tk₁₂, rfl, rfl, S₁₂.kept, hv⟩
end Mine

namespace Mine

/-! the top -/
theorem glb_of {K : Frag} {h : Heap} {mg mb : Str → Option Value} (X : K.In h) (G : h.Ns mainGlobals mg) (B : h.Ns builtinsNs mb) (hb : ∀ x : Str, x ≠ "__name__" → mb x = bootBuiltins x)
    (e1 : nsIn K mainGlobals "len" = some none) (e2 : nsIn K mainGlobals "sum" = some none) (e3 : nsIn K mainGlobals "min" = some none) (e4 : nsIn K mainGlobals "max" = some none) (e5 : nsIn K mainGlobals "range" = some none) (e6 : nsIn K mainGlobals "list" = some none) : Glb h :=
  ⟨⟨mg, mb, G, mg_none_of X G e1, B, (hb _ (by decide)).trans (by boot_by_name)⟩,
   ⟨mg, mb, G, mg_none_of X G e2, B, (hb _ (by decide)).trans (by boot_by_name)⟩,
   ⟨mg, mb, G, mg_none_of X G e3, B, (hb _ (by decide)).trans (by boot_by_name)⟩,
   ⟨mg, mb, G, mg_none_of X G e4, B, (hb _ (by decide)).trans (by boot_by_name)⟩,
   ⟨mg, mb, G, mg_none_of X G e5, B, (hb _ (by decide)).trans (by boot_by_name)⟩,
   ⟨mg, mb, G, mg_none_of X G e6, B, (hb _ (by decide)).trans (by boot_by_name)⟩⟩
theorem law_call {prog : Program} {w : World} {A : Around} {s : Shared} {f : Addr} {o : Obj} {fd : FuncData} {aZ : Addr} {ns : List Int} {fg ft fc' : Addr} {dg dt dc : FuncData} (ho : s.heap.get? f = some o) (hd : o.data = .func fd) (code : s.heap.CodeRec fd.code fd.qualname)
    (body : fd.body = .stmts (fnBody lS)) (params : fd.params = fnArgs lS) (scope : fd.scope = fnScope lS) (dflt : fd.defaults = .none) (kw : fd.kwdefaults = .none) (clo : fd.closure = []) (glob : fd.globals = mainGlobals) (bi : fd.builtins = builtinsNs)
    (hlim : s.heap.NoLimit) (hG : Glb s.heap) (hroom : A.depth + 1 < recursionLimit) (hh : A.handled = none) (hu : A.units + 73 < cLine) (hZ : LI s.heap aZ ns) (hn : ns.length ≤ 63)
    (Fg : IsFn s.heap "_generate_overlap_table" gS fg dg) (Ft : IsFn s.heap "_law_told" tS ft dt) (Fc : IsFn s.heap "_law_counted" cS fc' dc) :
    codeAny (model prog w) A (.call (.ref f) ⟨[.ref aZ], []⟩) (fun r s' => ∃ v, r = .ok (.ret v) ∧ Keeps s s' ∧ v = .bool true) s := by
  obtain ⟨name, qual, ps, bd, sc, gl, cl, df, kd, doc, pm, an, cdv, ct, bs⟩ := fd
  simp only at body params scope dflt kw clo glob bi code
  subst body params scope dflt kw clo glob bi
  refine enter (Φ := fun v h' => v = .bool true) (names := ["script"]) (ds := [.ref aZ]) (by omega) ho hd hlim code rfl rfl rfl ?_ (.cons rfl .nil) rfl rfl rfl ?_
  · intro n y hy
    simp only [List.zip_cons_cons, List.zip_nil_left, List.mem_singleton] at hy
    subst hy; exact .inr ⟨rfl, rfl⟩
  · intro h tk S E
    exact law_body (A := A.deeper _) hh (by show A.units + 3 + 70 < cLine; omega) (by show A.depth + 1 < recursionLimit; exact hroom) S hZ hG hlim Fg Ft Fc hn E
end Mine

set_option maxRecDepth 100000 in
set_option maxHeartbeats 8000000 in
theorem PySem.Challenge.cw_mr0387_03_holds : PySem.Challenge.rw_mr0387_03.Holds := by
  w_on
  o_law
  k_head
  (case hw => w_witness2)
  w_strict (
    k_fill
    intro w s₀ s₁ mg mb G Y fa o pm cd doc dV kV ho hd hcd hD hmg hg args vals as hpre hlay hrd hwl hlo
    have KX := kIn_of Y
    refine Ground.open G ?_
    intro T B D TE TW
    clear hmg
    wrow_args hpre hlay hrd hwl hlo
    first | refine callC_kw (enter_call ?_) | refine enter_call ?_
    w_top on
    try refine codeAny_mono ?_ (fun _ _ g => GoodW.toG g)
    have Gb : Mine.Glb s₁.heap := Mine.glb_of KX T.g T.b T.builtins (by k_is) (by k_is) (by k_is) (by k_is) (by k_is) (by k_is)
    have Fg : ∃ f fd, Mine.IsFn s₁.heap "_generate_overlap_table" Mine.gS f fd :=
      ⟨21, _, ⟨mg, T.g, mg_of KX T.g (by k_is)⟩, ⟨_, KX 21 _ (by k_is), rfl⟩, codeRec_of KX (by k_is), rfl, rfl, rfl, rfl, rfl, rfl, rfl, rfl⟩
    have Ft : ∃ f fd, Mine.IsFn s₁.heap "_law_told" Mine.tS f fd :=
      ⟨26, _, ⟨mg, T.g, mg_of KX T.g (by k_is)⟩, ⟨_, KX 26 _ (by k_is), rfl⟩, codeRec_of KX (by k_is), rfl, rfl, rfl, rfl, rfl, rfl, rfl, rfl⟩
    have Fc : ∃ f fd, Mine.IsFn s₁.heap "_law_counted" Mine.cS f fd :=
      ⟨31, _, ⟨mg, T.g, mg_of KX T.g (by k_is)⟩, ⟨_, KX 31 _ (by k_is), rfl⟩, codeRec_of KX (by k_is), rfl, rfl, rfl, rfl, rfl, rfl, rfl, rfl⟩
    obtain ⟨_, _, Fg⟩ := Fg
    obtain ⟨_, _, Ft⟩ := Ft
    obtain ⟨_, _, Fc⟩ := Fc
    refine codeAny_mono (Mine.law_call ho hd hcd rfl rfl rfl (Dflts.pos_none hD rfl) (Dflts.kw_none hD rfl) rfl rfl rfl T.nolimit Gb (by decide) rfl (by decide) ⟨_, by assumption, by assumption⟩ (by omega) Fg Ft Fc) ?_
    rintro r s' ⟨v, rfl, ⟨h', tk', rfl, le⟩, rfl⟩
    refine ⟨.inl ⟨.bool true, .bool true, [], rfl, fun _ => rfl, .bool true, ?_, unshared_nil⟩, le, rfl, hg⟩
    first | with_unfolding_all rfl | kernel_rfl)
