import PyProof.Rows.All
import Wide.All
import OpenK.AllK
import Wide.FinOn
import Lean
import PySem.Challenge.RW_mq0465_01
set_option Elab.async false
set_option maxRecDepth 100000
set_option linter.unusedVariables false
/-! part EV1 -/
namespace Mine
open PySem PySem.W PyProof.Rows PySem.Calls PySem.Spec

/-! ## data in the heap -/
mutual
inductive Rep (h : Heap) : Value → PyData → Prop
  | bool (b : Bool) : Rep h (.bool b) (.bool b)
  | int (i : Int) (t : Tok) : Rep h (.int i t) (.int i)
  | str {x : Str} (t : Tok) : PyData.strOk x = true → Rep h (.str x t) (.str x)
  | list {a : Addr} {vs : Array Value} {ds : List PyData} : h.IsList a vs → RepL h vs.toList ds → Rep h (.ref a) (.list ds)
  | tuple {a : Addr} {vs : Array Value} {n : Nat} {ds : List PyData} :
      h.get? a = some { cls := .type "tuple", data := .seq vs n } → RepL h vs.toList ds → Rep h (.ref a) (.tuple ds)
inductive RepL (h : Heap) : List Value → List PyData → Prop
  | nil : RepL h [] []
  | cons {v : Value} {vs : List Value} {d : PyData} {ds : List PyData} : Rep h v d → RepL h vs ds → RepL h (v :: vs) (d :: ds)
end

abbrev Up (h h' : Heap) : Prop := ∀ b o, h.get? b = some o → h'.get? b = some o

mutual
theorem Rep.up {h h' : Heap} (hk : Up h h') : ∀ {v : Value} {d : PyData}, Rep h v d → Rep h' v d
  | _, _, .bool b => .bool b
  | _, _, .int i t => .int i t
  | _, _, .str t hx => .str t hx
  | _, _, .list ⟨o, e, q⟩ r => .list ⟨o, hk _ _ e, q⟩ (RepL.up hk r)
  | _, _, .tuple e r => .tuple (hk _ _ e) (RepL.up hk r)
theorem RepL.up {h h' : Heap} (hk : Up h h') : ∀ {vs : List Value} {ds : List PyData}, RepL h vs ds → RepL h' vs ds
  | _, _, .nil => .nil
  | _, _, .cons a r => .cons (Rep.up hk a) (RepL.up hk r)
end

/-- what stands at the addresses of X is no list and no tuple -/
def NoSeq (h : Heap) (a : Addr) : Prop := ∀ o, h.get? a = some o → ∀ vs n, o.data ≠ .seq vs n

mutual
theorem Rep.but {h h' : Heap} {L : Addr} (hL : NoSeq h L) (hk : ∀ b o, b ≠ L → h.get? b = some o → h'.get? b = some o) :
    ∀ {v : Value} {d : PyData}, Rep h v d → Rep h' v d
  | _, _, .bool b => .bool b
  | _, _, .int i t => .int i t
  | _, _, .str t hx => .str t hx
  | _, _, .list ⟨o, e, c, n, hd⟩ r => .list ⟨o, hk _ _ (fun q => by subst q; exact hL _ e _ _ hd) e, c, n, hd⟩ (RepL.but hL hk r)
  | _, _, .tuple e r => .tuple (hk _ _ (fun q => by subst q; exact hL _ e _ _ rfl) e) (RepL.but hL hk r)
theorem RepL.but {h h' : Heap} {L : Addr} (hL : NoSeq h L) (hk : ∀ b o, b ≠ L → h.get? b = some o → h'.get? b = some o) :
    ∀ {vs : List Value} {ds : List PyData}, RepL h vs ds → RepL h' vs ds
  | _, _, .nil => .nil
  | _, _, .cons a r => .cons (Rep.but hL hk a) (RepL.but hL hk r)
end

theorem noSeq_ns {h : Heap} {L : Addr} {m : Str → Option Value} (hn : h.Ns L m) : NoSeq h L := by
  obtain ⟨o, es, ep, ho, hd, _⟩ := hn
  intro o' ho' vs n e
  rw [ho] at ho'; cases ho'; rw [hd] at e; cases e

mutual
theorem Rep.reads {h : Heap} : ∀ {v : Value} {d : PyData}, Rep h v d → ∃ as, Reads h v d as
  | _, _, .bool b => ⟨_, .bool b⟩
  | _, _, .int i t => ⟨_, .int i t⟩
  | _, _, .str t _ => ⟨_, .str _ t⟩
  | _, _, .list ⟨_, e, c, _, hd⟩ r => let ⟨_, q⟩ := RepL.reads r; ⟨_, .list e c hd q⟩
  | _, _, .tuple e r => let ⟨_, q⟩ := RepL.reads r; ⟨_, .tuple e rfl rfl q⟩
theorem RepL.reads {h : Heap} : ∀ {vs : List Value} {ds : List PyData}, RepL h vs ds → ∃ as, ReadsAll h vs ds as
  | _, _, .nil => ⟨_, .nil⟩
  | _, _, .cons a r => let ⟨_, p⟩ := Rep.reads a; let ⟨_, q⟩ := RepL.reads r; ⟨_, .cons p q⟩
end
mutual
theorem Rep.lay {h : Heap} : ∀ {v : Value} {d : PyData}, Rep h v d → d.canLay0 = true
  | _, _, .bool b => rfl
  | _, _, .int i t => rfl
  | _, _, .str t hx => hx
  | _, _, .list _ r => by rw [PyData.canLay0]; exact RepL.lay r
  | _, _, .tuple _ r => by rw [PyData.canLay0]; exact RepL.lay r
theorem RepL.lay {h : Heap} : ∀ {vs : List Value} {ds : List PyData}, RepL h vs ds → PyData.canLayAll0 ds = true
  | _, _, .nil => rfl
  | _, _, .cons a r => by rw [PyData.canLayAll0, Rep.lay a, RepL.lay r]; rfl
end

section
variable {h : Heap} {v : Value} {vs : List Value} {ds : List PyData} {d : PyData}
theorem Rep.int_inv {i : Int} (r : Rep h v (.int i)) : ∃ t, v = .int i t := by cases r; exact ⟨_, rfl⟩
theorem Rep.str_inv {x : Str} (r : Rep h v (.str x)) : ∃ t, v = .str x t ∧ PyData.strOk x = true := by cases r with | str t hx => exact ⟨t, rfl, hx⟩
theorem Rep.bool_inv {b : Bool} (r : Rep h v (.bool b)) : v = .bool b := by cases r; rfl
theorem Rep.list_inv (r : Rep h v (.list ds)) : ∃ a vs, v = .ref a ∧ h.IsList a vs ∧ RepL h vs.toList ds := by cases r with | list e q => exact ⟨_, _, rfl, e, q⟩
theorem Rep.tuple_inv (r : Rep h v (.tuple ds)) : ∃ a vs n, v = .ref a ∧ h.get? a = some { cls := .type "tuple", data := .seq vs n } ∧ RepL h vs.toList ds := by cases r with | tuple e q => exact ⟨_, _, _, rfl, e, q⟩
theorem RepL.length (r : RepL h vs ds) : vs.length = ds.length := by
  induction vs generalizing ds with
  | nil => cases r; rfl
  | cons v vs ih => cases r with | cons _ q => rw [List.length_cons, List.length_cons, ih q]
theorem RepL.get (r : RepL h vs ds) {k : Nat} (e : ds[k]? = some d) : ∃ v, vs[k]? = some v ∧ Rep h v d := by
  induction vs generalizing ds k with
  | nil => cases r; simp at e
  | cons v vs ih =>
    cases r with
    | cons p q =>
      cases k with
      | zero => simp at e; subst e; exact ⟨v, rfl, p⟩
      | succ k => simpa using ih q (by simpa using e)
theorem RepL.get' (r : RepL h vs ds) {k : Nat} (e : vs[k]? = some v) : ∃ d, ds[k]? = some d ∧ Rep h v d := by
  induction vs generalizing ds k with
  | nil => simp at e
  | cons v' vs ih =>
    cases r with
    | cons p q =>
      cases k with
      | zero => simp at e; subst e; exact ⟨_, rfl, p⟩
      | succ k => simpa using ih q (by simpa using e)
theorem RepL.append {ws : List Value} {es : List PyData} (r : RepL h vs ds) (q : RepL h ws es) : RepL h (vs ++ ws) (ds ++ es) := by
  induction vs generalizing ds with
  | nil => cases r; exact q
  | cons v vs ih => cases r with | cons p r => exact .cons p (ih r)
theorem RepL.drop (r : RepL h vs ds) : ∀ k, RepL h (vs.drop k) (ds.drop k) := by
  induction vs generalizing ds with
  | nil => intro k; cases r; simp; exact .nil
  | cons v vs ih =>
    intro k
    cases r with
    | cons p q =>
      cases k with
      | zero => exact .cons p q
      | succ k => simpa using ih q k
theorem RepL.take (r : RepL h vs ds) : ∀ k, RepL h (vs.take k) (ds.take k) := by
  induction vs generalizing ds with
  | nil => intro k; cases r; simp; exact .nil
  | cons v vs ih =>
    intro k
    cases r with
    | cons p q =>
      cases k with
      | zero => exact .nil
      | succ k => simpa using RepL.cons p (ih q k)
end

/-! ## states -/
structure Ext (s s' : Shared) : Prop where
  up : Up s.heap s'.heap
  eq : ∃ h tk, s' = { s with heap := h, toks := tk }
theorem Ext.keeps {s s' : Shared} (a : Ext s s') : Keeps s s' := by
  obtain ⟨k, h, t, rfl⟩ := a; exact ⟨h, t, rfl, k⟩
theorem Ext.of {s s' : Shared} (a : Keeps s s') : Ext s s' := by
  obtain ⟨h, t, rfl, k⟩ := a; exact ⟨k, h, t, rfl⟩
theorem Ext.refl (s : Shared) : Ext s s := ⟨fun _ _ e => e, s.heap, s.toks, rfl⟩
theorem Ext.trans {s₁ s₂ s₃ : Shared} (a : Ext s₁ s₂) (b : Ext s₂ s₃) : Ext s₁ s₃ := by
  obtain ⟨k, h, t, rfl⟩ := a
  obtain ⟨k', h', t', rfl⟩ := b
  exact ⟨fun b o e => k' b o (k b o e), h', t', rfl⟩
theorem Ext.tok (s : Shared) (k : Nat) : Ext s { s with toks := k } := ⟨fun _ _ e => e, s.heap, k, rfl⟩
theorem Ext.push (s : Shared) (o : Obj) (k : Nat) : Ext s { s with heap := s.heap.push o, toks := k } := ⟨fun _ _ e => Heap.get?_push_of_some _ e, _, k, rfl⟩
theorem Ext.mk' {s : Shared} {h : Heap} (k : Nat) (hk : Up s.heap h) : Ext s { s with heap := h, toks := k } := ⟨hk, _, k, rfl⟩

abbrev NoE : Value → Shared → Prop := fun _ _ => False

/-- evaluating e, in whatever state that keeps s, gives the datum d and keeps the state -/
structure Ev (prog : Program) (w : World) (A : Around) (env : Env) (s : Shared) (e : Expr) (d : PyData) : Prop where
  run : ∀ s₁, Ext s s₁ → wpAny (model prog w) A (eval e env) (fun v s₂ => Ext s₁ s₂ ∧ Rep s₂.heap v d) NoE s₁
/-- the test c comes out as b -/
structure Tst (prog : Program) (w : World) (A : Around) (env : Env) (s : Shared) (e : Expr) (b : Bool) : Prop where
  run : ∀ s₁, Ext s s₁ → wpAny (model prog w) A (isTrue e env (eval e env)) (fun c s₂ => Ext s₁ s₂ ∧ c = b) NoE s₁

section
variable {prog : Program} {w : World} {A : Around} {env : Env} {s : Shared} {E : Value → Shared → Prop}

theorem Ev.use {e : Expr} {d : PyData} {s₁ : Shared} {Q : Value → Shared → Prop} (he : Ev prog w A env s e d) (hk : Ext s s₁)
    (h : ∀ v s₂, Ext s₁ s₂ → Rep s₂.heap v d → Q v s₂) : wpAny (model prog w) A (eval e env) Q E s₁ :=
  wpAny_mono (he.run s₁ hk) (fun v s₂ q => h v s₂ q.1 q.2) fun _ _ f => f.elim
theorem Tst.use {e : Expr} {b : Bool} {s₁ : Shared} {Q : Bool → Shared → Prop} (he : Tst prog w A env s e b) (hk : Ext s s₁)
    (h : ∀ s₂, Ext s₁ s₂ → Q b s₂) : wpAny (model prog w) A (isTrue e env (eval e env)) Q E s₁ :=
  wpAny_mono (he.run s₁ hk) (fun v s₂ q => by rw [q.2]; exact h s₂ q.1) fun _ _ f => f.elim
theorem Ev.mono {e : Expr} {d : PyData} {s₁ : Shared} (he : Ev prog w A env s e d) (hk : Ext s s₁) : Ev prog w A env s₁ e d :=
  ⟨fun s₂ hk₂ => he.run s₂ (hk.trans hk₂)⟩
theorem Tst.mono {e : Expr} {b : Bool} {s₁ : Shared} (he : Tst prog w A env s e b) (hk : Ext s s₁) : Tst prog w A env s₁ e b :=
  ⟨fun s₂ hk₂ => he.run s₂ (hk.trans hk₂)⟩
theorem Ev.cast {e : Expr} {d d' : PyData} (he : Ev prog w A env s e d) (hd : d = d') : Ev prog w A env s e d' := hd ▸ he
theorem Tst.cast {e : Expr} {b b' : Bool} (he : Tst prog w A env s e b) (hd : b = b') : Tst prog w A env s e b' := hd ▸ he

theorem ev_int {i : Int} {k : Nat} {p : Pos} : Ev prog w A env s (.Constant (.int i) k p) (.int i) := ⟨fun s₁ _ => wpAny_Constant_int ⟨Ext.tok _ _, .int _ _⟩⟩
theorem ev_str {x : Str} {k : Nat} {p : Pos} (hx : PyData.strOk x = true) : Ev prog w A env s (.Constant (.str x) k p) (.str x) := ⟨fun s₁ _ => wpAny_Constant_str ⟨Ext.tok _ _, .str _ hx⟩⟩
theorem ev_bool {b : Bool} {k : Nat} {p : Pos} : Ev prog w A env s (.Constant (.bool b) k p) (.bool b) := ⟨fun s₁ _ => wpAny_Constant_bool ⟨Ext.refl _, .bool _⟩⟩

theorem ev_local {x : Str} {p : Pos} {m : Str → Option Value} {v : Value} {d : PyData} (hk : env.scope.kind = .function) (hl : env.kindOf x = some .local)
    (hd : (x == ("__debug__" : Str)) = false) (hn : s.heap.Ns env.locals m) (hv : m x = some v) (r : Rep s.heap v d) : Ev prog w A env s (.Name x p) d := ⟨fun s₁ k => wpAny_Name (wpAny_loadName_local hk hl (hn.keeps k.up) hv ⟨Ext.refl _, r.up k.up⟩) hd⟩
theorem ev_cell {x : Str} {p : Pos} {c : Addr} {v : Value} {d : PyData} (hk : env.scope.kind = .function) (hl : env.kindOf x = some .cell)
    (hd : (x == ("__debug__" : Str)) = false) (hc : env.cells.lookup x = some c) (hv : s.heap.IsCell c (some v)) (r : Rep s.heap v d) : Ev prog w A env s (.Name x p) d := ⟨fun s₁ k => wpAny_Name (wpAny_loadName_cell hk hl hc (by obtain ⟨o, ho, q⟩ := hv; exact ⟨o, k.up _ _ ho, q⟩) ⟨Ext.refl _, r.up k.up⟩) hd⟩

theorem ev_bin {l r : Expr} {op : Operator} {p : Pos} {a b d : PyData} (hl : Ev prog w A env s l a) (hr : Ev prog w A env s r b)
    (h : ∀ u v s₁, Ext s s₁ → Rep s₁.heap u a → Rep s₁.heap v b → wpAny (model prog w) A (binaryOp op u v) (fun x s₂ => Ext s₁ s₂ ∧ Rep s₂.heap x d) NoE s₁) :
    Ev prog w A env s (.BinOp l op r p) d := ⟨fun s₁ k => by
  refine wpAny_BinOp (hl.use k fun u s₂ k₂ ru => hr.use (k.trans k₂) fun v s₃ k₃ rv => ?_)
  exact wpAny_mono (h u v s₃ ((k.trans k₂).trans k₃) (ru.up k₃.up) rv) (fun x s₄ q => ⟨(k₂.trans k₃).trans q.1, q.2⟩) fun _ _ f => f.elim⟩

theorem ev_cmp {l r : Expr} {op : CmpOp} {p : Pos} {a b d : PyData} (hl : Ev prog w A env s l a) (hr : Ev prog w A env s r b)
    (h : ∀ u v s₁, Ext s s₁ → Rep s₁.heap u a → Rep s₁.heap v b → wpAny (model prog w) A (compareOp op u v) (fun x s₂ => Ext s₁ s₂ ∧ Rep s₂.heap x d) NoE s₁)
    (hm : behindInMarks op r = false) : Ev prog w A env s (.Compare l [op] [r] p) d := ⟨fun s₁ k => by
  refine wpAny_Compare1 (hl.use k fun u s₂ k₂ ru => hr.use (k.trans k₂) fun v s₃ k₃ rv => ?_) hm
  exact wpAny_mono (h u v s₃ ((k.trans k₂).trans k₃) (ru.up k₃.up) rv) (fun x s₄ q => ⟨(k₂.trans k₃).trans q.1, q.2⟩) fun _ _ f => f.elim⟩
theorem tst_cmp {l r : Expr} {op : CmpOp} {p : Pos} {a b : PyData} {c : Bool} (hl : Ev prog w A env s l a) (hr : Ev prog w A env s r b)
    (h : ∀ u v s₁, Ext s s₁ → Rep s₁.heap u a → Rep s₁.heap v b → wpAny (model prog w) A (compareOp op u v) (fun x s₂ => Ext s₁ s₂ ∧ Rep s₂.heap x (.bool c)) NoE s₁)
    (hm : behindInMarks op r = false) : Tst prog w A env s (.Compare l [op] [r] p) c := ⟨fun s₁ k => by
  refine wpAny_isTrue_Compare1 (hl.use k fun u s₂ k₂ ru => hr.use (k.trans k₂) fun v s₃ k₃ rv => ?_) hm
  refine wpAny_mono (h u v s₃ ((k.trans k₂).trans k₃) (ru.up k₃.up) rv) (fun x s₄ q => ?_) fun _ _ f => f.elim
  rw [q.2.bool_inv]
  exact wpAny_truthy_bool ⟨(k₂.trans k₃).trans q.1, rfl⟩⟩

theorem ev_ifexp {t a b : Expr} {p : Pos} {c : Bool} {d : PyData} (ht : Tst prog w A env s t c) (ha : c = true → Ev prog w A env s a d) (hb : c = false → Ev prog w A env s b d) :
    Ev prog w A env s (.IfExp t a b p) d := ⟨fun s₁ k => by
  refine wpAny_IfExp (ht.use k fun s₂ k₂ => ?_)
  cases c with
  | true => exact (ha rfl).use (k.trans k₂) fun v s₃ k₃ r => ⟨k₂.trans k₃, r⟩
  | false => exact (hb rfl).use (k.trans k₂) fun v s₃ k₃ r => ⟨k₂.trans k₃, r⟩⟩

theorem tst_not {e : Expr} {p : Pos} {b : Bool} (h : Tst prog w A env s e b) : Tst prog w A env s (.UnaryOp .Not e p) (!b) := ⟨fun s₁ k =>
  wpAny_isTrue_Not (h.use k fun s₂ k₂ => ⟨k₂, rfl⟩)⟩
theorem tst_and {a b : Expr} {p : Pos} {x y : Bool} (ha : Tst prog w A env s a x) (hb : x = true → Tst prog w A env s b y) (hz : x = false → y = false) :
    Tst prog w A env s (.BoolOp .And [a, b] p) y := ⟨fun s₁ k => by
  refine wpAny_isTrue_BoolOp (wpAny_allTrue_And_cons (ha.use k fun s₂ k₂ => ?_))
  cases x with
  | false => rw [if_neg Bool.false_ne_true]; exact ⟨k₂, (hz rfl).symm⟩
  | true =>
    rw [if_pos rfl]
    refine wpAny_allTrue_And_cons ((hb rfl).use (k.trans k₂) fun s₃ k₃ => ?_)
    cases y with
    | false => rw [if_neg Bool.false_ne_true]; exact ⟨k₂.trans k₃, rfl⟩
    | true => rw [if_pos rfl]; exact wpAny_allTrue_And_nil ⟨k₂.trans k₃, rfl⟩⟩

theorem ev_sub {o i : Expr} {p : Pos} {a b d : PyData} (ho : Ev prog w A env s o a) (hi : Ev prog w A env s i b)
    (h : ∀ u v s₁, Ext s s₁ → Rep s₁.heap u a → Rep s₁.heap v b → wpAny (model prog w) A (subscriptTail o i u v) (fun x s₂ => Ext s₁ s₂ ∧ Rep s₂.heap x d) NoE s₁) :
    Ev prog w A env s (.Subscript o i p) d := ⟨fun s₁ k => by
  refine Subscript_ (ho.use k fun u s₂ k₂ ru => hi.use (k.trans k₂) fun v s₃ k₃ rv => ?_)
  exact wpAny_mono (h u v s₃ ((k.trans k₂).trans k₃) (ru.up k₃.up) rv) (fun x s₄ q => ⟨(k₂.trans k₃).trans q.1, q.2⟩) fun _ _ f => f.elim⟩
end
end Mine

/-! part EV2 -/
namespace Mine
open PySem PySem.W PyProof.Rows PySem.Calls PySem.Spec

section
variable {prog : Program} {w : World} {A : Around} {env : Env} {s : Shared} {E : Value → Shared → Prop}

/-! ints -/
theorem ev_addI {l r : Expr} {p : Pos} {a b : Int} (hl : Ev prog w A env s l (.int a)) (hr : Ev prog w A env s r (.int b)) : Ev prog w A env s (.BinOp l .Add r p) (.int (a + b)) :=
  ev_bin hl hr fun u v s₁ k ru rv => by
    obtain ⟨t, rfl⟩ := ru.int_inv; obtain ⟨t', rfl⟩ := rv.int_inv
    exact wpAny_add_int ⟨Ext.tok _ _, .int _ _⟩
theorem ev_modI {l r : Expr} {p : Pos} {a b : Int} (hb : b ≠ 0) (hl : Ev prog w A env s l (.int a)) (hr : Ev prog w A env s r (.int b)) : Ev prog w A env s (.BinOp l .Mod r p) (.int (a.fmod b)) :=
  ev_bin hl hr fun u v s₁ k ru rv => by
    obtain ⟨t, rfl⟩ := ru.int_inv; obtain ⟨t', rfl⟩ := rv.int_inv
    exact mod_int' hb ⟨Ext.tok _ _, .int _ _⟩
theorem ev_divI {l r : Expr} {p : Pos} {a b : Int} (hb : b ≠ 0) (hp : Builtin.divisionGoesByPylong a b = false) (hl : Ev prog w A env s l (.int a)) (hr : Ev prog w A env s r (.int b)) :
    Ev prog w A env s (.BinOp l .FloorDiv r p) (.int (a.fdiv b)) :=
  ev_bin hl hr fun u v s₁ k ru rv => by
    obtain ⟨t, rfl⟩ := ru.int_inv; obtain ⟨t', rfl⟩ := rv.int_inv
    exact floordiv_int hb ⟨Ext.tok _ _, .int _ _⟩ (.inl hp)
theorem ev_negI {e : Expr} {p : Pos} {a : Int} (he : Ev prog w A env s e (.int a)) : Ev prog w A env s (.UnaryOp .USub e p) (.int (-a)) := ⟨fun s₁ k =>
  wpAny_UnaryOp (he.use k fun v s₂ k₂ r => by
    obtain ⟨t, rfl⟩ := r.int_inv
    exact PyProof.Rows.neg_int ⟨k₂.trans (Ext.tok _ _), .int _ _⟩)⟩
theorem tst_eqI {l r : Expr} {p : Pos} {a b : Int} (hl : Ev prog w A env s l (.int a)) (hr : Ev prog w A env s r (.int b)) (hm : behindInMarks .Eq r = false) : Tst prog w A env s (.Compare l [.Eq] [r] p) (a == b) :=
  tst_cmp hl hr (fun u v s₁ k ru rv => by
    obtain ⟨t, rfl⟩ := ru.int_inv; obtain ⟨t', rfl⟩ := rv.int_inv
    exact PyProof.Rows.eq_int ⟨Ext.refl _, .bool _⟩) hm
theorem tst_ltI {l r : Expr} {p : Pos} {a b : Int} (hl : Ev prog w A env s l (.int a)) (hr : Ev prog w A env s r (.int b)) (hm : behindInMarks .Lt r = false) : Tst prog w A env s (.Compare l [.Lt] [r] p) (decide (a < b)) :=
  tst_cmp hl hr (fun u v s₁ k ru rv => by
    obtain ⟨t, rfl⟩ := ru.int_inv; obtain ⟨t', rfl⟩ := rv.int_inv
    exact PyProof.Rows.lt_int ⟨Ext.refl _, .bool _⟩) hm
theorem tst_geI {l r : Expr} {p : Pos} {a b : Int} (hl : Ev prog w A env s l (.int a)) (hr : Ev prog w A env s r (.int b)) (hm : behindInMarks .GtE r = false) : Tst prog w A env s (.Compare l [.GtE] [r] p) (decide (b ≤ a)) :=
  tst_cmp hl hr (fun u v s₁ k ru rv => by
    obtain ⟨t, rfl⟩ := ru.int_inv; obtain ⟨t', rfl⟩ := rv.int_inv
    exact PyProof.Rows.ge_int ⟨Ext.refl _, .bool _⟩) hm

/-! texts -/
theorem strOk_append {x y : Str} (hx : PyData.strOk x = true) (hy : PyData.strOk y = true) : PyData.strOk (x ++ y) = true := by
  unfold PyData.strOk at *
  have e : (x ++ y).cps = x.cps ++ y.cps := rfl
  rw [e, Array.all_append, hx, hy]; rfl
theorem ev_addS {l r : Expr} {p : Pos} {a b : Str} (hl : Ev prog w A env s l (.str a)) (hr : Ev prog w A env s r (.str b)) (hsz : a.length + b.length ≤ sizeLine) :
    Ev prog w A env s (.BinOp l .Add r p) (.str (a ++ b)) :=
  ev_bin hl hr fun u v s₁ k ru rv => by
    obtain ⟨t, rfl, hx⟩ := ru.str_inv; obtain ⟨t', rfl, hy⟩ := rv.str_inv
    exact SB.add (fun t'' k'' => ⟨Ext.tok _ _, .str _ (strOk_append hx hy)⟩) hsz
theorem ev_mulS {l r : Expr} {p : Pos} {a : Str} {n : Int} (hl : Ev prog w A env s l (.str a)) (hr : Ev prog w A env s r (.int n)) (hok : MulOk a n) (hx : PyData.strOk (Txt.mul a n) = true) :
    Ev prog w A env s (.BinOp l .Mult r p) (.str (Txt.mul a n)) :=
  ev_bin hl hr fun u v s₁ k ru rv => by
    obtain ⟨t, rfl, _⟩ := ru.str_inv; obtain ⟨t', rfl⟩ := rv.int_inv
    exact SB.mul hok fun t'' k'' => ⟨Ext.tok _ _, .str _ hx⟩
theorem tst_neS {l r : Expr} {p : Pos} {a b : Str} (hl : Ev prog w A env s l (.str a)) (hr : Ev prog w A env s r (.str b)) (hm : behindInMarks .NotEq r = false) :
    Tst prog w A env s (.Compare l [.NotEq] [r] p) (a.cps.toList != b.cps.toList) :=
  tst_cmp hl hr (fun u v s₁ k ru rv => by
    obtain ⟨t, rfl, _⟩ := ru.str_inv; obtain ⟨t', rfl, _⟩ := rv.str_inv
    exact P.ne_str ⟨Ext.refl _, .bool _⟩) hm
theorem tst_eqS {l r : Expr} {p : Pos} {a b : Str} (hl : Ev prog w A env s l (.str a)) (hr : Ev prog w A env s r (.str b)) (hm : behindInMarks .Eq r = false) :
    Tst prog w A env s (.Compare l [.Eq] [r] p) (a.cps.toList == b.cps.toList) :=
  tst_cmp hl hr (fun u v s₁ k ru rv => by
    obtain ⟨t, rfl, _⟩ := ru.str_inv; obtain ⟨t', rfl, _⟩ := rv.str_inv
    exact P.eq_str ⟨Ext.refl _, .bool _⟩) hm
theorem tst_inS {l r : Expr} {p : Pos} {a b : Str} (hl : Ev prog w A env s l (.str a)) (hr : Ev prog w A env s r (.str b)) (hm : behindInMarks .In r = false) :
    Tst prog w A env s (.Compare l [.In] [r] p) (Txt.contains b a) :=
  tst_cmp hl hr (fun u v s₁ k ru rv => by
    obtain ⟨t, rfl, _⟩ := ru.str_inv; obtain ⟨t', rfl, _⟩ := rv.str_inv
    exact SB.contains ⟨Ext.refl _, .bool _⟩) hm
/-- the truth of a text, of an expression that isTrue takes as it is -/
theorem tst_S {e : Expr} {a : Str} (he : Ev prog w A env s e (.str a)) (hsz : a.length ≤ sizeLine) (hi : isTrue e env (eval e env) = (do let v ← eval e env; standAt e.pos; holding [v] (truthy v))) :
    Tst prog w A env s e ((a.length : Int) != 0) := ⟨fun s₁ k =>
  wpAny_isTrue_value (he.use k fun v s₂ k₂ r => by
    obtain ⟨t, rfl, _⟩ := r.str_inv
    refine P.truthy_str ?_ ⟨k₂.trans (Ext.tok _ _), rfl⟩
    rw [sizeLine_eq] at hsz; omega) hi⟩
theorem ev_subS {o i : Expr} {p : Pos} {a : Str} {n : Int} {c : Nat} (ho : Ev prog w A env s o (.str a)) (hi : Ev prog w A env s i (.int n)) (h0 : 0 ≤ n) (hc : a.cps[n.toNat]? = some c) (hsz : a.length ≤ sizeLine)
    (hs : ∀ v u, subscripted i false v u = operate [v, u] (getItem v u)) : Ev prog w A env s (.Subscript o i p) (.str ⟨#[c]⟩) :=
  ev_sub ho hi fun u v s₁ k ru rv => by
    obtain ⟨t, rfl, hx⟩ := ru.str_inv; obtain ⟨t', rfl⟩ := rv.int_inv
    have hlt : n.toNat < a.cps.size := (Array.getElem?_eq_some_iff.mp hc).1
    have hlt' : n.toNat < a.length := hlt
    rw [sizeLine_eq] at hsz
    refine tail_any (T := "str") (typeIs_str _ _ _) F.slot_str_getitem.lookup (P.getItem_str ?_ ?_ ⟨Ext.tok _ _, .str _ ?_⟩) (hs _ _)
    · simp only [Bool.or_eq_false_iff, decide_eq_false_iff_not]; omega
    · rw [seqIndex_of h0 (by omega)]; exact hc
    · unfold PyData.strOk at hx ⊢
      have := Array.all_eq_true.mp hx n.toNat hlt
      obtain ⟨h1, h2⟩ := Array.getElem?_eq_some_iff.mp hc
      rw [h2] at this
      simpa using this

/-! tuples and lists -/
inductive EvL (prog : Program) (w : World) (A : Around) (env : Env) (s : Shared) : List Expr → List PyData → Prop
  | nil : EvL prog w A env s [] []
  | cons {e : Expr} {es : List Expr} {d : PyData} {ds : List PyData} : Ev prog w A env s e d → starEach (e :: es) env = (false, eval e env) :: starEach es env → EvL prog w A env s es ds → EvL prog w A env s (e :: es) (d :: ds)

theorem EvL.use {es : List Expr} {ds : List PyData} {p : Pos} {s₁ : Shared} {Q : List Value → Shared → Prop} (h : EvL prog w A env s es ds) (k : Ext s s₁)
    (hQ : ∀ vs s₂, Ext s₁ s₂ → RepL s₂.heap vs ds → Q vs s₂) : wpAny (model prog w) A (spliced (backTo p (starEach es env))) Q E s₁ := by
  induction h generalizing s₁ Q with
  | nil => exact wpAny_items_nil (hQ [] s₁ (Ext.refl _) .nil)
  | cons he hs _ ih =>
    refine wpAny_items_cons (he.use k fun v s₂ k₂ r => ?_) hs
    exact ih (k.trans k₂) fun vs s₃ k₃ rs => hQ _ s₃ (k₂.trans k₃) (.cons (r.up k₃.up) rs)

theorem ev_tuple {es : List Expr} {ds : List PyData} {n : Nat} {p : Pos} (h : EvL prog w A env s es ds) (hsz : ds.length ≤ sizeLine) : Ev prog w A env s (.Tuple es n p) (.tuple ds) := ⟨fun s₁ k =>
  wpAny_Tuple (h.use k fun vs s₂ k₂ r => ⟨by rw [r.length]; exact hsz, k₂.trans (Ext.push _ _ _), .tuple (Heap.get?_push_size _ rfl) (by simpa using r.up fun _ _ e => Heap.get?_push_of_some _ e)⟩)⟩
theorem ev_list {es : List Expr} {ds : List PyData} {p : Pos} (h : EvL prog w A env s es ds) (hsz : ds.length ≤ sizeLine) : Ev prog w A env s (.List es p) (.list ds) := ⟨fun s₁ k =>
  wpAny_List (h.use k fun vs s₂ k₂ r => ⟨by rw [r.length]; exact hsz, k₂.trans (Ext.push _ _ _), .list ⟨_, Heap.get?_push_size _ rfl, rfl, _, rfl⟩ (by simpa using r.up fun _ _ e => Heap.get?_push_of_some _ e)⟩)⟩

theorem ev_subL {o i : Expr} {p : Pos} {ds : List PyData} {n : Int} {d : PyData} (ho : Ev prog w A env s o (.list ds)) (hi : Ev prog w A env s i (.int n)) (h0 : 0 ≤ n) (hc : ds[n.toNat]? = some d) (hsz : ds.length ≤ sizeLine)
    (hs : ∀ v u, subscripted i false v u = operate [v, u] (getItem v u)) : Ev prog w A env s (.Subscript o i p) d :=
  ev_sub ho hi fun u v s₁ k ru rv => by
    obtain ⟨a, vs, rfl, hl, rs⟩ := ru.list_inv; obtain ⟨t', rfl⟩ := rv.int_inv
    obtain ⟨x, hx, rx⟩ := rs.get hc
    have hlt : n.toNat < ds.length := (List.getElem?_eq_some_iff.mp hc).1
    rw [sizeLine_eq] at hsz
    exact tail_any hl.typeIs slot_list_getitem.lookup (wpAny_getItem_list hl h0 (by omega) (by simpa using hx) ⟨Ext.refl _, rx⟩) (hs _ _)
/-- the last item -/
theorem ev_lastL {o i : Expr} {p : Pos} {ds : List PyData} {d : PyData} (ho : Ev prog w A env s o (.list ds)) (hi : Ev prog w A env s i (.int (-1))) (hc : ds[ds.length - 1]? = some d)
    (hs : ∀ v u, subscripted i false v u = operate [v, u] (getItem v u)) : Ev prog w A env s (.Subscript o i p) d :=
  ev_sub ho hi fun u v s₁ k ru rv => by
    obtain ⟨a, vs, rfl, hl, rs⟩ := ru.list_inv; obtain ⟨t', rfl⟩ := rv.int_inv
    obtain ⟨x, hx, rx⟩ := rs.get hc
    have hlen : vs.size = ds.length := by simpa using rs.length
    have hlt : ds.length - 1 < ds.length := (List.getElem?_eq_some_iff.mp hc).1
    refine tail_any hl.typeIs slot_list_getitem.lookup (wpAny_getItem_list_neg hl (by omega) (by omega) (by omega) ?_ ⟨Ext.refl _, rx⟩) (hs _ _)
    have e : ((-1 : Int) + (vs.size : Int)).toNat = ds.length - 1 := by omega
    rw [e]; simpa using hx
theorem ev_subT {o i : Expr} {p : Pos} {ds : List PyData} {n : Int} {d : PyData} (ho : Ev prog w A env s o (.tuple ds)) (hi : Ev prog w A env s i (.int n)) (h0 : 0 ≤ n) (hc : ds[n.toNat]? = some d) (hsz : ds.length ≤ sizeLine)
    (hs : ∀ v u, subscripted i false v u = operate [v, u] (getItem v u)) : Ev prog w A env s (.Subscript o i p) d :=
  ev_sub ho hi fun u v s₁ k ru rv => by
    obtain ⟨a, vs, q, rfl, hl, rs⟩ := ru.tuple_inv; obtain ⟨t', rfl⟩ := rv.int_inv
    obtain ⟨x, hx, rx⟩ := rs.get hc
    have hlen : vs.size = ds.length := by simpa using rs.length
    have hlt : n.toNat < ds.length := (List.getElem?_eq_some_iff.mp hc).1
    rw [sizeLine_eq] at hsz
    exact tail_any (T := "tuple") ⟨_, hl, rfl⟩ slot_tuple_getitem.lookup (P.getItem_tuple (n := q) hl (by omega) (by omega) (seqIndex_of h0 (by omega)) (by simpa using hx) ⟨Ext.refl _, rx⟩) (hs _ _)
theorem ev_addL {l r : Expr} {p : Pos} {a b : List PyData} (hl : Ev prog w A env s l (.list a)) (hr : Ev prog w A env s r (.list b)) (hsz : a.length + b.length ≤ sizeLine) :
    Ev prog w A env s (.BinOp l .Add r p) (.list (a ++ b)) :=
  ev_bin hl hr fun u v s₁ k ru rv => by
    obtain ⟨x, vs, rfl, hx, rx⟩ := ru.list_inv; obtain ⟨y, ws, rfl, hy, ry⟩ := rv.list_inv
    have e1 : vs.size = a.length := by simpa using rx.length
    have e2 : ws.size = b.length := by simpa using ry.length
    obtain ⟨⟨cls, dd, data, sl⟩, ho, hc, n, hd⟩ := id hx
    obtain ⟨⟨cls2, dd2, data2, sl2⟩, ho2, hc2, n2, hd2⟩ := id hy
    simp only at hc hd hc2 hd2
    subst hc hd hc2 hd2
    refine concat_meets ⟨_, ho, rfl⟩ ⟨_, ho2, rfl⟩ noFill_list_add seq_list_add PySem.F.slot_list_add PySem.F.entry_list_add (PySem.F.args_list_add_2 _ _) (list_addW x y vs ws n n2 dd dd2 sl sl2 (by omega)) ⟨ho, ho2, ?_⟩
    exact ⟨Ext.push _ _ _, .list ⟨_, Heap.get?_push_size _ rfl, rfl, _, rfl⟩ (by
      rw [Array.toList_append]
      exact (rx.append ry).up fun _ _ e => Heap.get?_push_of_some _ e)⟩

theorem tst_eqD {l r : Expr} {p : Pos} {a b : PyData} (hl : Ev prog w A env s l a) (hr : Ev prog w A env s r b) (hm : behindInMarks .Eq r = false) (ha : a.depth ≤ 64) (hb : b.depth ≤ 64) (hu : A.units + 64 < cLine) :
    Tst prog w A env s (.Compare l [.Eq] [r] p) (PyData.eqv a b) :=
  tst_cmp hl hr (fun u v s₁ k ru rv => by
    obtain ⟨as, q⟩ := ru.reads; obtain ⟨bs, q'⟩ := rv.reads
    exact eq_dataH q q' (by simp [SeqAt.shaped, ru.lay, ha]) (by simp [SeqAt.shaped, rv.lay, hb]) hu ⟨Ext.refl _, .bool _⟩) hm
theorem ev_eqD {l r : Expr} {p : Pos} {a b : PyData} (hl : Ev prog w A env s l a) (hr : Ev prog w A env s r b) (hm : behindInMarks .Eq r = false) (ha : a.depth ≤ 64) (hb : b.depth ≤ 64) (hu : A.units + 64 < cLine) :
    Ev prog w A env s (.Compare l [.Eq] [r] p) (.bool (PyData.eqv a b)) :=
  ev_cmp hl hr (fun u v s₁ k ru rv => by
    obtain ⟨as, q⟩ := ru.reads; obtain ⟨bs, q'⟩ := rv.reads
    exact eq_dataH q q' (by simp [SeqAt.shaped, ru.lay, ha]) (by simp [SeqAt.shaped, rv.lay, hb]) hu ⟨Ext.refl _, .bool _⟩) hm
theorem tst_neD {l r : Expr} {p : Pos} {a b : PyData} (hl : Ev prog w A env s l a) (hr : Ev prog w A env s r b) (hm : behindInMarks .NotEq r = false) (ha : a.depth ≤ 64) (hb : b.depth ≤ 64) (hu : A.units + 64 < cLine) :
    Tst prog w A env s (.Compare l [.NotEq] [r] p) (!PyData.eqv a b) :=
  tst_cmp hl hr (fun u v s₁ k ru rv => by
    obtain ⟨as, q⟩ := ru.reads; obtain ⟨bs, q'⟩ := rv.reads
    exact ne_dataH q q' (by simp [SeqAt.shaped, ru.lay, ha]) (by simp [SeqAt.shaped, rv.lay, hb]) hu ⟨Ext.refl _, .bool _⟩) hm
end
end Mine

/-! part EV3 -/
namespace Mine
open PySem PySem.W PyProof.Rows PySem.Calls PySem.Spec

theorem RepL.strs {h : Heap} : ∀ {ss : List Str} {vs : List Value}, RepL h vs (ss.map PyData.str) → ∃ l : List (Str × Tok), vs = strValues l ∧ l.map (·.1) = ss ∧ ∀ x ∈ ss, PyData.strOk x = true
  | [], vs, r => by cases r; exact ⟨[], rfl, rfl, fun _ h => nomatch h⟩
  | x :: ss, vs, r => by
    cases r with
    | cons p q =>
      obtain ⟨t, rfl, hx⟩ := p.str_inv
      obtain ⟨l, rfl, e, ho⟩ := RepL.strs q
      exact ⟨(x, t) :: l, rfl, by simp [e], fun y hy => by
        rcases List.mem_cons.mp hy with rfl | hy
        · exact hx
        · exact ho y hy⟩
theorem RepL.ofStrs {h : Heap} : ∀ {l : List (Str × Tok)}, (∀ x ∈ l.map (·.1), PyData.strOk x = true) → RepL h (strValues l) ((l.map (·.1)).map PyData.str)
  | [], _ => .nil
  | (x, t) :: l, ho => .cons (.str t (ho x (by simp))) (RepL.ofStrs fun y hy => ho y (by simp at hy ⊢; exact .inr hy))

section
variable {prog : Program} {w : World} {A : Around} {env : Env} {s : Shared} {E : Value → Shared → Prop}

/-! slices of a named list -/
theorem ev_from {x : Str} {xp : Pos} {lo : Expr} {p pos : Pos} {ds : List PyData} {n : Nat} (ho : Ev prog w A env s (.Name x xp) (.list ds)) (hi : Ev prog w A env s lo (.int n)) (hsz : ds.length ≤ sizeLine) :
    Ev prog w A env s (.Subscript (.Name x xp) (.Slice (some lo) none none p) pos) (.list (ds.drop n)) := ⟨fun s₁ k => by
  refine wpAny_Subscript_list_slice (ho.use k fun v s₂ k₂ r => ?_)
  rw [evalPart_some]
  refine hi.use (k.trans k₂) fun u s₃ k₃ ru => ?_
  rw [evalPart_none]
  refine wpAny_pure ?_
  obtain ⟨a, vs, rfl, hl, rs⟩ := (r.up k₃.up).list_inv
  obtain ⟨t, rfl⟩ := ru.int_inv
  have hlen : vs.size = ds.length := by simpa using rs.length
  refine ⟨a, vs, some n, none, rfl, hl, by omega, .int _ _, .none, (k₂.trans k₃).trans ?_, ?_⟩
  · exact Ext.mk' _ fun b o e => Heap.get?_push_of_some _ (Heap.get?_push_of_some _ e)
  · refine .list ⟨_, by rw [← Heap.size_push]; exact Heap.get?_push_size _ rfl, rfl, _, rfl⟩ ?_
    rw [slicePick_from']
    exact (rs.drop n).up fun b o e => Heap.get?_push_of_some _ (Heap.get?_push_of_some _ e)⟩
theorem ev_upto {x : Str} {xp : Pos} {hi : Expr} {p pos : Pos} {ds : List PyData} {n : Nat} (ho : Ev prog w A env s (.Name x xp) (.list ds)) (hi' : Ev prog w A env s hi (.int n)) (hsz : ds.length ≤ sizeLine) :
    Ev prog w A env s (.Subscript (.Name x xp) (.Slice none (some hi) none p) pos) (.list (ds.take n)) := ⟨fun s₁ k => by
  refine wpAny_Subscript_list_slice (ho.use k fun v s₂ k₂ r => ?_)
  rw [evalPart_none]
  refine wpAny_pure ?_
  rw [evalPart_some]
  refine hi'.use (k.trans k₂) fun u s₃ k₃ ru => ?_
  obtain ⟨a, vs, rfl, hl, rs⟩ := (r.up k₃.up).list_inv
  obtain ⟨t, rfl⟩ := ru.int_inv
  have hlen : vs.size = ds.length := by simpa using rs.length
  refine ⟨a, vs, none, some n, rfl, hl, by omega, .none, .int _ _, (k₂.trans k₃).trans ?_, ?_⟩
  · exact Ext.mk' _ fun b o e => Heap.get?_push_of_some _ (Heap.get?_push_of_some _ e)
  · refine .list ⟨_, by rw [← Heap.size_push]; exact Heap.get?_push_size _ rfl, rfl, _, rfl⟩ ?_
    rw [slicePick_upto']
    exact (rs.take n).up fun b o e => Heap.get?_push_of_some _ (Heap.get?_push_of_some _ e)⟩

/-! calls by a global name -/
theorem ev_callF {f : Str} {fp pos : Pos} {fa : Addr} {o : Obj} {fd : FuncData} {mg : Str → Option Value} {e : Expr} {d d' : PyData} (hk : env.scope.kind = .function) (hx : env.kindOf f = some .globalImplicit)
    (hd : (f == ("__debug__" : Str)) = false) (hg : s.heap.Ns env.globals mg) (hm : mg f = some (.ref fa)) (ho : s.heap.get? fa = some o) (hf : o.data = .func fd) (he : Ev prog w A env s e d)
    (hs : starEach [e] env = (false, eval e env) :: starEach [] env)
    (h : ∀ v s₁, Ext s s₁ → Rep s₁.heap v d → wpAny (model prog w) A (call (.ref fa) [v]) (fun u s₂ => Ext s₁ s₂ ∧ Rep s₂.heap u d') NoE s₁) :
    Ev prog w A env s (.Call (.Name f fp) [e] [] pos) d' := ⟨fun s₁ k => by
  refine wpAny_Call_ofName (Name_function_global hk hx (loadGlobal_global (hg.keeps k.up) hm ?_) hd)
  refine callWith_function (o := o) (fd := fd) ?_
  rw [hs]
  refine evalArgs_plain ?_
  have hh := (EvL.cons he hs .nil).use (p := pos) k (E := NoE) (Q := fun vs s' => (s'.heap.get? fa = some o ∧ o.data = .func fd) ∧ wpAny (model prog w) A (call (.ref fa) ([] ++ vs)) (fun v s₂ => Ext s₁ s₂ ∧ Rep s₂.heap v d') NoE s') (fun vs s₂ k₂ r => by
    cases r with
    | cons r q =>
      cases q
      refine ⟨⟨k₂.up _ _ (k.up _ _ ho), hf⟩, ?_⟩
      exact wpAny_mono (h _ s₂ (k.trans k₂) r) (fun u s₃ q => ⟨k₂.trans q.1, q.2⟩) fun _ _ f => f.elim)
  rw [hs] at hh
  exact hh⟩

theorem ev_callB {f : Str} {fp pos : Pos} {id : String} {mg mb : Str → Option Value} {e : Expr} {d d' : PyData} (hk : env.scope.kind = .function) (hx : env.kindOf f = some .globalImplicit)
    (hd : (f == ("__debug__" : Str)) = false) (hg : s.heap.Ns env.globals mg) (hm : mg f = none) (hb : s.heap.Ns env.builtins mb) (hv : mb f = some (.builtin id)) (he : Ev prog w A env s e d)
    (hs : starEach [e] env = (false, eval e env) :: starEach [] env)
    (h : ∀ v s₁, Ext s s₁ → Rep s₁.heap v d → wpAny (model prog w) A (call (.builtin id) [v]) (fun u s₂ => Ext s₁ s₂ ∧ Rep s₂.heap u d') NoE s₁) :
    Ev prog w A env s (.Call (.Name f fp) [e] [] pos) d' := ⟨fun s₁ k => by
  refine wpAny_Call_ofName (Name_function_global hk hx (loadGlobal_builtin (hg.keeps k.up) hm (hb.keeps k.up) hv ?_) hd)
  rw [hs]
  refine callWith_builtin rfl (evalArgs_plain ?_)
  have hh := (EvL.cons he hs .nil).use (p := pos) k (E := NoE) (Q := fun vs s' => wpAny (model prog w) A (call (.builtin id) ([] ++ vs)) (fun v s₂ => Ext s₁ s₂ ∧ Rep s₂.heap v d') NoE s') (fun vs s₂ k₂ r => by
    cases r with
    | cons r q =>
      cases q
      exact wpAny_mono (h _ s₂ (k.trans k₂) r) (fun u s₃ q => ⟨k₂.trans q.1, q.2⟩) fun _ _ f => f.elim)
  rw [hs] at hh
  exact hh⟩

theorem len_data {ds : List PyData} {v : Value} {s₁ : Shared} (r : Rep s₁.heap v (.list ds)) (hsz : ds.length ≤ sizeLine) :
    wpAny (model prog w) A (call (.builtin "len") [v]) (fun u s₂ => Ext s₁ s₂ ∧ Rep s₂.heap u (.int ds.length)) NoE s₁ := by
  obtain ⟨a, vs, rfl, hl, rs⟩ := r.list_inv
  have hlen : vs.size = ds.length := by simpa using rs.length
  rw [sizeLine_eq] at hsz
  refine call_len_list hl (by omega) ⟨Ext.tok _ _, ?_⟩
  rw [hlen]; exact .int _ _
theorem chr_data {i : Int} {v : Value} {s₁ : Shared} (r : Rep s₁.heap v (.int i)) (h0 : 0 ≤ i) (h1 : i < 0x110000) :
    wpAny (model prog w) A (call (.builtin "chr") [v]) (fun u s₂ => Ext s₁ s₂ ∧ Rep s₂.heap u (.str ⟨#[i.toNat]⟩)) NoE s₁ := by
  obtain ⟨t, rfl⟩ := r.int_inv
  refine P.chr_of_int ?_ ⟨Ext.tok _ _, .str _ ?_⟩
  · simp only [Bool.or_eq_false_iff, decide_eq_false_iff_not]; omega
  · simp [PyData.strOk]; omega

/-! methods of texts -/
theorem ev_meth0 {o : Expr} {name : Str} {id : String} {apos pos : Pos} {x y : Str} (slot : Slot "str" name id) (ty : typeOf (.builtin id) = pure (.type "method_descriptor")) (ho : Ev prog w A env s o (.str x))
    (h : ∀ (s₁ : Shared) (t : Tok), wpAny (model prog w) A (call (.builtin id) [.str x t]) (fun u s₂ => Ext s₁ s₂ ∧ Rep s₂.heap u (.str y)) NoE s₁)
    (hbase : attributeBase o name env (eval o env) = eval o env) (hline : (apos.endLine == pos.line) = true) : Ev prog w A env s (.Call (.Attribute o name apos) [] [] pos) (.str y) := ⟨fun s₁ k => by
  refine Call_method0 hbase hline (ho.use k fun v s₂ k₂ r => ?_)
  obtain ⟨t, rfl, _⟩ := r.str_inv
  refine ⟨"str", id, F.plainAttrs_str, slot, ty, typeIs_str _ _ _, (fun _ e => nomatch e), ?_⟩
  refine callWith_builtin rfl (evalArgs_nil3 ?_)
  exact wpAny_mono (h s₂ t) (fun u s₃ q => ⟨k₂.trans q.1, q.2⟩) fun _ _ f => f.elim⟩
theorem ev_meth1 {o e : Expr} {name : Str} {id : String} {apos pos : Pos} {x : Str} {d d' : PyData} (slot : Slot "str" name id) (ty : typeOf (.builtin id) = pure (.type "method_descriptor"))
    (ho : Ev prog w A env s o (.str x)) (he : Ev prog w A env s e d)
    (h : ∀ (s₁ : Shared) (t : Tok) (v : Value), Rep s₁.heap v d → wpAny (model prog w) A (call (.builtin id) [.str x t, v]) (fun u s₂ => Ext s₁ s₂ ∧ Rep s₂.heap u d') NoE s₁)
    (hbase : attributeBase o name env (eval o env) = eval o env) (hline : (apos.endLine == pos.line) = true)
    (hs : starEach [e] env = [(false, eval e env)]) : Ev prog w A env s (.Call (.Attribute o name apos) [e] [] pos) d' := ⟨fun s₁ k => by
  refine Call_method1 hbase hs hline (ho.use k fun v s₂ k₂ r => ?_)
  obtain ⟨t, rfl, _⟩ := r.str_inv
  refine ⟨"str", id, F.plainAttrs_str, slot, ty, typeIs_str _ _ _, (fun _ e => nomatch e), ?_⟩
  refine callWith_builtin rfl (evalArgs_plain (spliced_cons (he.use (k.trans k₂) fun u s₃ k₃ ru => spliced_nil ?_)))
  exact wpAny_mono (h s₃ t u ru) (fun u s₄ q => ⟨(k₂.trans k₃).trans q.1, q.2⟩) fun _ _ f => f.elim⟩

theorem kept_push (s₁ : Shared) : KeptByPush (fun s' => Ext s₁ s') := fun s' o k h => h.trans (Ext.push _ _ _)
theorem split_data {x y : Str} {t u : Tok} {s₁ : Shared} (hy : (y.length == 0) = false) (hsz : x.length ≤ sizeLine)
    (hsz2 : (Builtin.Str.partsBetween x (Builtin.Str.occurrences x y 0 x.length (x.length + 1)) y.length).length ≤ sizeLine) (hok : ∀ z ∈ Txt.split x y, PyData.strOk z = true) :
    wpAny (model prog w) A (call (.builtin "str.split") [.str x t, .str y u]) (fun v s₂ => Ext s₁ s₂ ∧ Rep s₂.heap v (.list ((Txt.split x y).map PyData.str))) NoE s₁ := by
  refine SCG.split1 (kept_push s₁) (Ext.refl s₁) hy (fun D l s' hl hI hD => ⟨hI, ?_⟩) hsz hsz2
  rw [← hl] at hok ⊢
  exact .list hD (by simpa using RepL.ofStrs hok)
theorem join_data {x : Str} {t : Tok} {ss : List Str} {v : Value} {s₁ : Shared} (r : Rep s₁.heap v (.list (ss.map PyData.str))) (hok : JoinOk x ss = true) (hj : PyData.strOk (Txt.join x ss) = true) :
    wpAny (model prog w) A (call (.builtin "str.join") [.str x t, v]) (fun u s₂ => Ext s₁ s₂ ∧ Rep s₂.heap u (.str (Txt.join x ss))) NoE s₁ := by
  obtain ⟨a, vs, rfl, hl, rs⟩ := r.list_inv
  obtain ⟨l, e, hm, _⟩ := rs.strs
  have e' : vs = (strValues l).toArray := by rw [← e]
  rw [e'] at hl
  exact SC.join hl hm hok fun t' k => ⟨Ext.tok _ _, .str _ hj⟩
end
end Mine

/-! part EV4 -/
namespace Mine
open PySem PySem.W PyProof.Rows PySem.Calls PySem.Spec

/-- only what stands at L has been changed; else objects were made -/
structure Stp (L : Addr) (s s' : Shared) : Prop where
  but : ∀ b o, b ≠ L → s.heap.get? b = some o → s'.heap.get? b = some o
  eq : ∃ h tk, s' = { s with heap := h, toks := tk }
theorem Ext.stp {s s' : Shared} (a : Ext s s') (L : Addr) : Stp L s s' := ⟨fun b o _ e => a.up b o e, a.eq⟩
theorem Stp.trans {L : Addr} {s₁ s₂ s₃ : Shared} (a : Stp L s₁ s₂) (b : Stp L s₂ s₃) : Stp L s₁ s₃ := by
  obtain ⟨k, h, t, rfl⟩ := a
  obtain ⟨k', h', t', rfl⟩ := b
  exact ⟨fun b o n e => k' b o n (k b o n e), h', t', rfl⟩
theorem Stp.refl (L : Addr) (s : Shared) : Stp L s s := (Ext.refl s).stp L

theorem Stp.base {L : Addr} {g : Heap} {s s' : Shared} (a : Stp L s s') (hg : Up g s.heap) (hL : g.get? L = none) : Up g s'.heap :=
  fun b o e => a.but b o (fun q => by subst q; rw [hL] at e; cases e) (hg b o e)

def upd {α : Type} (m : Str → Option α) (x : Str) (v : α) : Str → Option α := fun y => if y = x then some v else m y
theorem upd_self {α : Type} {m : Str → Option α} {x : Str} {v : α} : upd m x v x = some v := by simp [upd]
theorem upd_ne {α : Type} {m : Str → Option α} {x y : Str} {v : α} (h : y ≠ x) : upd m x v y = m y := by simp [upd, h]

/-- the frame at L: its names' values, and the data that they read -/
structure Loc (L : Addr) (h : Heap) (m : Str → Option Value) (ρ : Str → Option PyData) : Prop where
  ns : h.Ns L m
  var : ∀ x d, ρ x = some d → ∃ v, m x = some v ∧ Rep h v d

theorem Loc.up {L : Addr} {h h' : Heap} {m : Str → Option Value} {ρ : Str → Option PyData} (a : Loc L h m ρ) (k : Up h h') : Loc L h' m ρ :=
  ⟨a.ns.keeps k, fun x d e => let ⟨v, e1, r⟩ := a.var x d e; ⟨v, e1, r.up k⟩⟩
theorem Loc.set {L : Addr} {h h' : Heap} {m : Str → Option Value} {ρ : Str → Option PyData} {x : Str} {v : Value} {d : PyData} (a : Loc L h m ρ) (r : Rep h v d)
    (hn : h'.Ns L (fun y => if y = x then some v else m y)) (hs : Heap.SameBut L h h') : Loc L h' (upd m x v) (upd ρ x d) := by
  have hb : ∀ b o, b ≠ L → h.get? b = some o → h'.get? b = some o := fun b o n e => hs.extBut b o n e
  refine ⟨hn, fun y d' e => ?_⟩
  by_cases hy : y = x
  · subst hy
    rw [upd_self] at e; cases e
    exact ⟨v, upd_self, r.but (noSeq_ns a.ns) hb⟩
  · rw [upd_ne hy] at e
    obtain ⟨u, e1, q⟩ := a.var y d' e
    exact ⟨u, by rw [upd_ne hy]; exact e1, q.but (noSeq_ns a.ns) hb⟩

section
variable {prog : Program} {w : World} {A : Around} {env : Env} {s : Shared} {E : Value → Shared → Prop} {Q : Flow → Shared → Prop} {m : Str → Option Value} {ρ : Str → Option PyData}

theorem ev_var {x : Str} {p : Pos} {d : PyData} (hL : Loc env.locals s.heap m ρ) (hk : env.scope.kind = .function) (hl : env.kindOf x = some .local) (hd : (x == ("__debug__" : Str)) = false) (e : ρ x = some d) :
    Ev prog w A env s (.Name x p) d := let ⟨v, e1, r⟩ := hL.var x d e; ev_local hk hl hd hL.ns e1 r

theorem ex_assign {x : Str} {p' pos : Pos} {e : Expr} {d : PyData} {rest : List Stmt} (hL : Loc env.locals s.heap m ρ) (he : Ev prog w A env s e d) (hk : env.scope.kind = .function) (hx : env.kindOf x = some .local)
    (hsw : swapsWith e (some (.Name x p')) pos.line env = pure false)
    (h : ∀ s' v, Stp env.locals s s' → Loc env.locals s'.heap (upd m x v) (upd ρ x d) → wpAny (model prog w) A (execs rest env) Q E s') :
    wpAny (model prog w) A (execs (.Assign [.Name x p'] e pos :: rest) env) Q E s := by
  refine wpAny_execs_cons (wpAny_Assign_Name (he.use (Ext.refl s) fun v s₁ k r => ?_) hsw)
  refine wpAny_storeName_local hx (hL.ns.keeps k.up) (fun h' hn hs => ?_) (by rw [hk]; rfl)
  refine h _ v ((k.stp _).trans ⟨fun b o n q => hs.extBut b o n q, h', _, rfl⟩) ?_
  exact (hL.up k.up).set r hn hs

theorem ex_return {e : Expr} {d : PyData} {pos : Pos} {rest : List Stmt} (he : Ev prog w A env s e d) (h : ∀ s' v, Ext s s' → Rep s'.heap v d → Q (.ret v) s') :
    wpAny (model prog w) A (execs (.Return (some e) pos :: rest) env) Q E s :=
  wpAny_execs_cons (wpAny_Return_some (he.use (Ext.refl s) fun v s₁ k r => h s₁ v k r))

theorem ex_if {c : Expr} {b : Bool} {body orelse rest : List Stmt} {pos : Pos} (ht : Tst prog w A env s c b)
    (h : ∀ s', Ext s s' → wpAny (model prog w) A (execs (if b then body else orelse) env) (fun f s₂ => match f with | .next => wpAny (model prog w) A (execs rest env) Q E s₂ | f => Q f s₂) E s') :
    wpAny (model prog w) A (execs (.If c body orelse pos :: rest) env) Q E s := by
  refine wpAny_execs_cons (wpAny_If (ht.use (Ext.refl s) fun s₂ k => ?_))
  have := h s₂ k
  cases b <;> exact this

theorem ex_done (h : Q .next s) : wpAny (model prog w) A (execs [] env) Q E s := wpAny_execs_nil h
end

/-! a call of a def that only makes things -/
section
variable {prog : Program} {w : World} {A : Around} {s : Shared}

theorem call_pure {fa : Addr} {o : Obj} {fd : FuncData} {body : List Stmt} {vals : List Value} {binds : List (Str × Value)} {d : PyData}
    (hroom : A.depth < recursionLimit) (ho : s.heap.get? fa = some o) (hdata : o.data = .func fd) (hlim : s.heap.NoLimit) (hcd : s.heap.CodeRec fd.code fd.qualname)
    (hbody : fd.body = .stmts body) (hbind : bindArgs fd ⟨vals, []⟩ = pure binds) (hcell : ∀ x ∈ fd.scope.names, x.2 ≠ .cell) (hloc : ∀ x ∈ binds, fd.scope.names.lookup x.1 = some .local)
    (hco : fd.scope.isCoroutine = false) (hgen : fd.scope.isGenerator = false) (hk : fd.scope.kind = .function)
    (h : ∀ h₀, h₀.Ns s.heap.objs.size (fun x => binds.reverse.lookup x) → Up s.heap h₀ →
      wpAny (model prog w) (A.deeper (callEnv fd s.heap.objs.size fa)) (execs body (callEnv fd s.heap.objs.size fa))
        (fun f s' => ∃ v, f = .ret v ∧ Stp s.heap.objs.size { s with heap := h₀, toks := s.toks + binds.length } s' ∧ Rep s'.heap v d) NoE { s with heap := h₀, toks := s.toks + binds.length }) :
    wpAny (model prog w) A (call (.ref fa) vals) (fun v s' => Ext s s' ∧ Rep s'.heap v d) NoE s := by
  refine wpAny_call (codeAny_call_def hroom ho hdata hlim hcd hbody (BindsTo.of_eq hbind) hcell hloc (fun h₀ hn hu => ?_) hco hgen hk)
  refine wpAny_mono (h h₀ hn hu) (fun f s' q => ?_) fun _ _ f => f.elim
  obtain ⟨v, rfl, st, r⟩ := q
  refine ⟨⟨fun b o e => st.but b o (Nat.ne_of_lt (Heap.lt_size e)) (hu b o e), ?_⟩, r⟩
  obtain ⟨_, h', tk, rfl⟩ := st
  exact ⟨h', tk, rfl⟩
end
end Mine

/-! part TX -/
namespace Mine
open PySem PySem.W PyProof.Rows PySem.Calls PySem.Spec
open PySem.Builtin PySem.Builtin.Str

/-! texts as lists of numbers -/
abbrev cl (x : Str) : List Nat := x.cps.toList
theorem cl_inj {x y : Str} (h : cl x = cl y) : x = y := by
  cases x; cases y; simp only [cl] at h; congr; exact Array.toList_inj.mp h
theorem cl_append (x y : Str) : cl (x ++ y) = cl x ++ cl y := by
  show (x.cps ++ y.cps).toList = _; rw [Array.toList_append]
theorem cl_length (x : Str) : (cl x).length = x.length := by simp [cl, Str.length]
theorem strOk_iff {x : Str} : PyData.strOk x = true ↔ ∀ c ∈ cl x, c < 0x110000 := by
  unfold PyData.strOk
  rw [Array.all_eq_true]
  constructor
  · intro h c hc
    obtain ⟨i, hi, rfl⟩ := List.mem_iff_getElem.mp hc
    have hi' : i < x.cps.size := by simpa [cl] using hi
    have := h i hi'
    simpa [cl] using this
  · intro h i hi
    have := h x.cps[i] (by simp [cl])
    simpa using this

def joinL (c : Nat) : List (List Nat) → List Nat
  | [] => []
  | [x] => x
  | x :: y :: r => x ++ c :: joinL c (y :: r)

abbrev nl : Str := Str.ofString "\n"
theorem cl_nl : cl nl = [10] := by decide +kernel

theorem cl_join : ∀ ss : List Str, cl (Txt.join nl ss) = joinL 10 (ss.map cl) := by
  intro ss
  show cl (glued nl ss) = _
  rw [StrLaws.glued_eq_join]
  induction ss with
  | nil => rfl
  | cons x r ih =>
    cases r with
    | nil => rfl
    | cons y r =>
      show cl (x ++ nl ++ Str.join nl (y :: r)) = _
      rw [cl_append, cl_append, ih, cl_nl, List.append_assoc]
      rfl

theorem joinL_cons_ne {c : Nat} {x : List Nat} {r : List (List Nat)} (h : r ≠ []) : joinL c (x :: r) = x ++ c :: joinL c r := by
  cases r with
  | nil => exact absurd rfl h
  | cons y r => rfl

/-- two texts without the sign c are parted at the first c alike -/
theorem parted {c : Nat} : ∀ {a b x y : List Nat}, c ∉ a → c ∉ b → a ++ c :: x = b ++ c :: y → a = b ∧ x = y
  | [], [], x, y, _, _, e => by simpa using e
  | [], b :: bs, x, y, _, hb, e => by
    simp only [List.nil_append, List.cons_append, List.cons.injEq] at e
    exact absurd (e.1 ▸ List.mem_cons_self) hb
  | a :: as, [], x, y, ha, _, e => by
    simp only [List.nil_append, List.cons_append, List.cons.injEq] at e
    exact absurd (e.1 ▸ List.mem_cons_self) ha
  | a :: as, b :: bs, x, y, ha, hb, e => by
    simp only [List.cons_append, List.cons.injEq] at e
    obtain ⟨h1, h2⟩ := parted (fun h => ha (List.mem_cons_of_mem _ h)) (fun h => hb (List.mem_cons_of_mem _ h)) e.2
    exact ⟨by rw [e.1, h1], h2⟩
theorem joinL_mem {c : Nat} {x : List Nat} {r : List (List Nat)} (hx : r ≠ []) : c ∈ joinL c (x :: r) := by
  rw [joinL_cons_ne hx]; simp
theorem joinL_inj {c : Nat} : ∀ {A B : List (List Nat)}, A ≠ [] → B ≠ [] → (∀ x ∈ A, c ∉ x) → (∀ x ∈ B, c ∉ x) → joinL c A = joinL c B → A = B
  | [], _, h, _, _, _, _ => absurd rfl h
  | _, [], _, h, _, _, _ => absurd rfl h
  | [x], [y], _, _, _, _, e => by simpa [joinL] using e
  | [x], y :: z :: r, _, _, hA, hB, e => by
    refine absurd ?_ (hA x (by simp))
    have : c ∈ joinL c (y :: z :: r) := joinL_mem (by simp)
    rw [← e] at this; exact this
  | x :: z :: r, [y], _, _, hA, hB, e => by
    refine absurd ?_ (hB y (by simp))
    have : c ∈ joinL c (x :: z :: r) := joinL_mem (by simp)
    rw [e] at this; exact this
  | x :: z :: r, y :: u :: q, _, _, hA, hB, e => by
    rw [joinL, joinL] at e
    obtain ⟨h1, h2⟩ := parted (hA x (by simp)) (hB y (by simp)) e
    have := joinL_inj (A := z :: r) (B := u :: q) (by simp) (by simp) (fun w hw => hA w (List.mem_cons_of_mem _ hw)) (fun w hw => hB w (List.mem_cons_of_mem _ hw)) h2
    rw [h1, this]

theorem split_ne_nil (x : Str) : Txt.split x nl ≠ [] := by
  unfold Txt.split
  split
  · simp
  · split
    · simp
    · intro h
      obtain ⟨p, r, e⟩ := StrLaws.partsFrom_ne x nl.length 0 (occurrences x nl 0 x.length (x.length + 1))
      rw [StrLaws.partsBetween_eq, e] at h
      cases h
theorem nl_eq : nl = ⟨#[10]⟩ := by decide +kernel
theorem split_join (x : Str) : joinL 10 ((Txt.split x nl).map cl) = cl x := by
  rw [← cl_join]
  show cl (glued nl _) = _
  rw [StrLaws.glued_eq_join, StrLaws.join_split]
theorem split_no (x : Str) : ∀ p ∈ (Txt.split x nl).map cl, 10 ∉ p := by
  intro p hp
  obtain ⟨q, hq, rfl⟩ := List.mem_map.mp hp
  rw [nl_eq] at hq
  exact StrLaws.split_free x 10 q hq
/-- what split yields, by its law -/
theorem split_of {x : Str} {A : List (List Nat)} (hA : A ≠ []) (h : ∀ y ∈ A, 10 ∉ y) (e : joinL 10 A = cl x) : (Txt.split x nl).map cl = A := by
  refine joinL_inj (c := 10) ?_ hA (split_no x) h ?_
  · intro q
    exact split_ne_nil x (List.map_eq_nil_iff.mp q)
  · rw [split_join, e]

theorem joinL_sub {c : Nat} : ∀ {A : List (List Nat)} {p : List Nat}, p ∈ A → ∀ d ∈ p, d ∈ joinL c A
  | [x], p, hp, d, hd => by simp at hp; subst hp; exact hd
  | x :: y :: r, p, hp, d, hd => by
    rw [joinL]
    rcases List.mem_cons.mp hp with rfl | hp
    · simp [hd]
    · have := joinL_sub (c := c) hp d hd
      simp [this]
theorem joinL_all {c : Nat} {P : Nat → Prop} (hc : P c) : ∀ {A : List (List Nat)}, (∀ p ∈ A, ∀ d ∈ p, P d) → ∀ d ∈ joinL c A, P d
  | [], _, d, hd => by simp [joinL] at hd
  | [x], h, d, hd => h x (by simp) d hd
  | x :: y :: r, h, d, hd => by
    rw [joinL] at hd
    rcases List.mem_append.mp hd with hd | hd
    · exact h x (by simp) d hd
    · rcases List.mem_cons.mp hd with rfl | hd
      · exact hc
      · exact joinL_all hc (fun p hp => h p (List.mem_cons_of_mem _ hp)) d hd
theorem joinL_len {c : Nat} : ∀ {A : List (List Nat)}, A ≠ [] → (joinL c A).length + 1 = (A.map List.length).sum + A.length
  | [], h => absurd rfl h
  | [x], _ => by simp [joinL]
  | x :: y :: r, _ => by
    have := joinL_len (c := c) (A := y :: r) (by simp)
    rw [joinL, List.length_append, List.length_cons]
    simp only [List.map_cons, List.sum_cons, List.length_cons] at this ⊢
    omega
theorem len_le_sum : ∀ {A : List (List Nat)} {p : List Nat}, p ∈ A → p.length ≤ (A.map List.length).sum
  | x :: r, p, hp => by
    rw [List.map_cons, List.sum_cons]
    rcases List.mem_cons.mp hp with rfl | hp
    · omega
    · have := len_le_sum hp; omega

theorem split_ok {x z : Str} (hx : PyData.strOk x = true) (hz : z ∈ Txt.split x nl) : PyData.strOk z = true := by
  rw [strOk_iff] at hx ⊢
  intro c hc
  refine hx c ?_
  rw [← split_join]
  exact joinL_sub (List.mem_map_of_mem hz) c hc
theorem split_len {x z : Str} (hz : z ∈ Txt.split x nl) : z.length ≤ x.length := by
  have h := joinL_len (c := 10) (A := (Txt.split x nl).map cl) (fun q => split_ne_nil x (List.map_eq_nil_iff.mp q))
  rw [split_join, cl_length] at h
  have h2 := len_le_sum (List.mem_map_of_mem (f := cl) hz)
  rw [cl_length] at h2
  have h3 : 0 < ((Txt.split x nl).map cl).length := by
    rw [List.length_map]; exact List.length_pos_iff.mpr (split_ne_nil x)
  omega
theorem split_count (x : Str) : (Txt.split x nl).length ≤ x.length + 1 := by
  have h := joinL_len (c := 10) (A := (Txt.split x nl).map cl) (fun q => split_ne_nil x (List.map_eq_nil_iff.mp q))
  rw [split_join, cl_length, List.length_map] at h
  omega
theorem parts_count (x : Str) : (partsBetween x (occurrences x nl 0 x.length (x.length + 1)) nl.length).length ≤ x.length + 2 := by
  have h := StrLaws.occ_length_le x nl 0 x.length (x.length + 1)
  unfold partsBetween
  simp only [List.length_map, List.length_zip, List.length_cons, List.length_append, List.length_nil]
  omega
theorem join_ok {ss : List Str} (h : ∀ x ∈ ss, PyData.strOk x = true) : PyData.strOk (Txt.join nl ss) = true := by
  rw [strOk_iff, cl_join]
  refine joinL_all (by decide) fun p hp d hd => ?_
  obtain ⟨q, hq, rfl⟩ := List.mem_map.mp hp
  exact strOk_iff.mp (h q hq) d hd
theorem join_fits {ss : List Str} {B : Nat} (h : ∀ x ∈ ss, x.length ≤ B) (hb : ss.length * B + ss.length ≤ 16777216) : JoinOk nl ss = true := by
  unfold JoinOk
  rw [StrLaws.joinFits h (by
    have e : nl.length = 1 := by decide +kernel
    rw [e]; omega)]
  rfl

/-! strip -/
abbrev sp (c : Nat) : Bool := Unicode.isSpace c
def lstripL (l : List Nat) : List Nat := l.dropWhile sp
def rstripL (l : List Nat) : List Nat := (l.reverse.dropWhile sp).reverse
theorem takeWhile_drop {p : Nat → Bool} (l : List Nat) : l.drop (l.takeWhile p).length = l.dropWhile p := by
  induction l with
  | nil => rfl
  | cons a r ih =>
    simp only [List.takeWhile_cons, List.dropWhile_cons]
    split
    · simpa using ih
    · rfl
theorem rstrip_take (l : List Nat) : l.take (l.length - (l.reverse.takeWhile sp).length) = rstripL l := by
  unfold rstripL
  rw [← takeWhile_drop l.reverse, List.drop_reverse, List.reverse_reverse]
theorem cl_sub (x : Str) (i j : Nat) : cl (strSub x i j) = ((cl x).drop i).take (j - i) := by
  show (x.cps.extract i j).toList = _
  rw [Array.toList_extract]
theorem cl_strip (x : Str) : cl (Txt.strip x) = rstripL (lstripL (cl x)) := by
  unfold Txt.strip
  rw [PyProof.Rows.stripBy_eq, cl_sub]
  have e1 : stripLo Unicode.isSpace true x = ((cl x).takeWhile sp).length := rfl
  have e2 : ∀ lo, stripHi Unicode.isSpace true x lo = x.length - (((cl x).drop lo).reverse.takeWhile sp).length := fun _ => rfl
  rw [e2, e1, takeWhile_drop, ← rstrip_take]
  congr 1
  have : (List.dropWhile sp (cl x)).length = x.length - ((cl x).takeWhile sp).length := by
    rw [← takeWhile_drop, List.length_drop, cl_length]
  show x.length - (List.takeWhile sp (List.dropWhile sp (cl x)).reverse).length - (List.takeWhile sp (cl x)).length = (List.dropWhile sp (cl x)).length - _
  rw [this]; unfold lstripL; omega
theorem cl_rstrip (x : Str) : cl (Txt.rstrip x) = rstripL (cl x) := by
  unfold Txt.rstrip
  rw [PyProof.Rows.stripBy_eq, cl_sub]
  have e1 : stripLo Unicode.isSpace false x = 0 := rfl
  have e2 : stripHi Unicode.isSpace true x 0 = x.length - ((cl x).reverse.takeWhile sp).length := rfl
  rw [e1, e2, ← rstrip_take, List.drop_zero, Nat.sub_zero, cl_length]
theorem rstripL_sub {l : List Nat} {c : Nat} (h : c ∈ rstripL l) : c ∈ l := by
  unfold rstripL at h
  have := (List.dropWhile_sublist sp).subset (List.mem_reverse.mp h)
  exact List.mem_reverse.mp this
theorem lstripL_sub {l : List Nat} {c : Nat} (h : c ∈ lstripL l) : c ∈ l := (List.dropWhile_sublist sp).subset h
theorem strip_ok {x : Str} (h : PyData.strOk x = true) : PyData.strOk (Txt.strip x) = true := by
  rw [strOk_iff] at h ⊢
  intro c hc
  rw [cl_strip] at hc
  exact h c (lstripL_sub (rstripL_sub hc))
theorem rstrip_ok {x : Str} (h : PyData.strOk x = true) : PyData.strOk (Txt.rstrip x) = true := by
  rw [strOk_iff] at h ⊢
  intro c hc
  rw [cl_rstrip] at hc
  exact h c (rstripL_sub hc)
end Mine

/-! part SD -/
namespace Mine
open PySem PySem.W PyProof.Rows PySem.Calls PySem.Spec

/-! the text's defs, read out of the row -/
def theDef : Stmt → Str × Arguments × List Stmt × Scope
  | .FunctionDef name args body _ _ _ scope _ _ _ => (name, args, body, scope)
  | _ => default
def stmtAt : Nat → List Stmt → Stmt
  | _, [] => .Pass default
  | 0, x :: _ => x
  | n + 1, _ :: r => stmtAt n r
def defAt (i : Nat) : Str × Arguments × List Stmt × Scope := theDef (stmtAt i PySem.Challenge.pw_mq0465_01.main.body)
def fdAt (i : Nat) (pm cd : Value) : FuncData :=
  { name := (defAt i).1, qualname := (defAt i).1, params := (defAt i).2.1, body := .stmts (defAt i).2.2.1, scope := (defAt i).2.2.2, globals := mainGlobals, closure := [], defaults := .none, kwdefaults := .none, pyModule := pm, code := cd }

/-- what every heap of the run holds -/
structure Gd (mg mb : Str → Option Value) (g : Heap) : Prop where
  lim : g.NoLimit
  ng : g.Ns mainGlobals mg
  nb : g.Ns builtinsNs mb
  len0 : mg (Str.ofString "len") = none
  range0 : mg (Str.ofString "range") = none
  chr0 : mg (Str.ofString "chr") = none
  len1 : mb (Str.ofString "len") = some (.builtin "len")
  range1 : mb (Str.ofString "range") = some (.type "range")
  chr1 : mb (Str.ofString "chr") = some (.builtin "chr")
  fn : ∀ i n, (i = 1 ∧ n = Str.ofString "splitdoc") ∨ (i = 3 ∧ n = Str.ofString "_law_row") ∨ (i = 4 ∧ n = Str.ofString "_law_due") →
    ∃ fa o pm cd, mg n = some (.ref fa) ∧ g.get? fa = some o ∧ o.data = .func (fdAt i pm cd) ∧ g.CodeRec cd n
theorem Gd.up {mg mb : Str → Option Value} {g h : Heap} (G : Gd mg mb g) (k : Up g h) : Gd mg mb h :=
  { lim := G.lim.keeps k, ng := G.ng.keeps k, nb := G.nb.keeps k, len0 := G.len0, range0 := G.range0, chr0 := G.chr0, len1 := G.len1, range1 := G.range1, chr1 := G.chr1
    fn := fun i n h => let ⟨fa, o, pm, cd, a, b, c, e⟩ := G.fn i n h; ⟨fa, o, pm, cd, a, k _ _ b, c, e.keeps k⟩ }

def splitF (x : Str) : Str × Str :=
  if (Txt.split (Txt.strip x) nl).length = 1 then ((Txt.split (Txt.strip x) nl).getD 0 Str.empty, Str.empty)
  else if (Txt.rstrip ((Txt.split (Txt.strip x) nl).getD 1 Str.empty)).length = 0 then ((Txt.split (Txt.strip x) nl).getD 0 Str.empty, Txt.join nl ((Txt.split (Txt.strip x) nl).drop 2))
  else (Str.empty, Txt.join nl (Txt.split (Txt.strip x) nl))
def pair (p : Str × Str) : PyData := .tuple [.str p.1, .str p.2]


theorem getD_map {ls : List Str} {i : Nat} (h : i < ls.length) : (ls.map PyData.str)[i]? = some (.str (ls.getD i Str.empty)) := by
  rw [List.getElem?_map, List.getD_eq_getElem?_getD, List.getElem?_eq_getElem h]; rfl

section
variable {prog : Program} {w : World} {A : Around} {s : Shared} {mg mb : Str → Option Value}

theorem ev_len {env : Env} {g : Heap} {e : Expr} {p pos : Pos} {ds : List PyData} (G : Gd mg mb g) (hg : Up g s.heap) (hk : env.scope.kind = .function) (hx : env.kindOf (Str.ofString "len") = some .globalImplicit)
    (hgl : env.globals = mainGlobals) (hbl : env.builtins = builtinsNs) (he : Ev prog w A env s e (.list ds)) (hsz : ds.length ≤ sizeLine) (hs : starEach [e] env = (false, eval e env) :: starEach [] env) :
    Ev prog w A env s (.Call (.Name (Str.ofString "len") p) [e] [] pos) (.int ds.length) :=
  ev_callB hk hx (by decide +kernel) (by rw [hgl]; exact G.ng.keeps hg) G.len0 (by rw [hbl]; exact G.nb.keeps hg) G.len1 he hs fun v s₁ k r => len_data r hsz

set_option maxHeartbeats 1000000 in
theorem splitdoc_body {g : Heap} {x : Str} {pm cd : Value} {L fa : Addr} {m : Str → Option Value} {ρ : Str → Option PyData} (hx : PyData.strOk x = true) (hl : x.length ≤ 2000) (G : Gd mg mb g) (hg : Up g s.heap) (hgL : g.get? L = none)
    (hL : Loc L s.heap m ρ) (e : ρ (Str.ofString "doc") = some (.str x)) :
    wpAny (model prog w) A (execs (defAt 1).2.2.1 (callEnv (fdAt 1 pm cd) L fa)) (fun f s' => ∃ v, f = .ret v ∧ Stp L s s' ∧ Rep s'.heap v (pair (splitF x))) NoE s := by
  have hsl : (Txt.strip x).length ≤ 2000 := Nat.le_trans (len_strip x) hl
  have hsok := strip_ok hx
  have hcount := split_count (Txt.strip x)
  have hparts := parts_count (Txt.strip x)
  have hlen : ∀ z ∈ Txt.split (Txt.strip x) nl, z.length ≤ 2000 := fun z hz => Nat.le_trans (split_len hz) hsl
  have hok : ∀ z ∈ Txt.split (Txt.strip x) nl, PyData.strOk z = true := fun z hz => split_ok hsok hz
  have hne := split_ne_nil (Txt.strip x)
  have hpos : 0 < (Txt.split (Txt.strip x) nl).length := List.length_pos_iff.mpr hne
  have hnl : PyData.strOk nl = true := by decide +kernel
  have hemp : PyData.strOk (Str.ofString "") = true := by decide +kernel
  have hes : Str.ofString "" = Str.empty := by decide +kernel
  unfold splitF
  generalize hls : Txt.split (Txt.strip x) nl = ls at *
  have hsz : (ls.map PyData.str).length ≤ sizeLine := by rw [List.length_map, sizeLine_eq]; omega
  have hgetOk : ∀ i, i < ls.length → PyData.strOk (ls.getD i Str.empty) = true := fun i hi => hok _ (by rw [List.getD_eq_getElem?_getD, List.getElem?_eq_getElem hi]; exact List.getElem_mem hi)
  have hgetLen : ∀ i, i < ls.length → (ls.getD i Str.empty).length ≤ 2000 := fun i hi => hlen _ (by rw [List.getD_eq_getElem?_getD, List.getElem?_eq_getElem hi]; exact List.getElem_mem hi)
  have hjoin : ∀ k, JoinOk nl (ls.drop k) = true := fun k => by
    refine join_fits (B := 2000) (fun z hz => hlen z (List.mem_of_mem_drop hz)) ?_
    have : (ls.drop k).length ≤ 2001 := by rw [List.length_drop]; omega
    have := Nat.mul_le_mul_right 2000 this
    omega
  have hjok : ∀ k, PyData.strOk (Txt.join nl (ls.drop k)) = true := fun k => join_ok fun z hz => hok z (List.mem_of_mem_drop hz)
  refine ex_assign (env := callEnv (fdAt 1 pm cd) L fa) (d := .list (ls.map PyData.str)) hL ?_ rfl rfl rfl ?_
  · refine ev_meth1 F.slot_str_split F.type_str_split (x := Txt.strip x) (d := .str nl) ?_ (ev_str hnl) ?_ rfl rfl rfl
    · refine ev_meth0 F.slot_str_strip F.type_str_strip (x := x) ?_ ?_ rfl rfl
      · exact ev_var hL rfl rfl rfl e
      · exact fun s₁ t => SC.strip (fun t' k => ⟨Ext.tok _ _, .str _ hsok⟩) (by rw [sizeLine_eq]; omega)
    · intro s₁ t v r
      obtain ⟨u, rfl, _⟩ := r.str_inv
      rw [← hls]
      exact split_data (by decide +kernel) (by rw [sizeLine_eq]; omega) (by rw [sizeLine_eq]; omega) (by rw [hls]; exact hok)
  intro s₁ v₁ st₁ L₁
  have hg₁ := st₁.base hg hgL
  have hv : ∀ p, Ev prog w A (callEnv (fdAt 1 pm cd) L fa) s₁ (.Name (Str.ofString "lines") p) (.list (ls.map PyData.str)) := fun p => ev_var L₁ rfl rfl rfl (by rw [upd_self])
  have hlenE : ∀ p q r, Ev prog w A (callEnv (fdAt 1 pm cd) L fa) s₁ (.Call (.Name (Str.ofString "len") p) [.Name (Str.ofString "lines") q] [] r) (.int ls.length) := fun p q r =>
    (ev_len G hg₁ rfl rfl rfl rfl (hv q) hsz rfl).cast (by rw [List.length_map])
  have hitem : ∀ (i : Nat) (p q r : Pos) (k : Nat), i < ls.length → Ev prog w A (callEnv (fdAt 1 pm cd) L fa) s₁ (.Subscript (.Name (Str.ofString "lines") p) (.Constant (.int i) k q) r) (.str (ls.getD i Str.empty)) := fun i p q r k hi =>
    ev_subL (hv p) ev_int (Int.natCast_nonneg i) (by rw [Int.toNat_natCast]; exact getD_map hi) hsz (fun _ _ => rfl)
  refine ex_if (b := ((ls.length : Int) == 1)) ?_ fun s₂ k₂ => ?_
  · exact tst_eqI (hlenE _ _ _) ev_int rfl
  by_cases h1 : ls.length = 1
  · have hb : ((ls.length : Int) == 1) = true := by rw [h1]; rfl
    rw [hb, if_pos rfl, if_pos h1]
    refine ex_return (d := .tuple [.str (ls.getD 0 Str.empty), .str (Str.ofString "")]) ?_ fun s₃ v k₃ r => ?_
    · refine ev_tuple (.cons ?_ (by rfl) (.cons ?_ (by rfl) .nil)) (by simp [sizeLine_eq])
      · exact (hitem 0 _ _ _ _ (by omega)).mono k₂
      · exact ev_str hemp
    · exact ⟨v, rfl, st₁.trans ((k₂.trans k₃).stp L), by rw [pair, ← hes]; exact r⟩
  · have hb : ((ls.length : Int) == 1) = false := by simp; omega
    rw [hb, if_neg Bool.false_ne_true, if_neg h1]
    have h2 : 1 < ls.length := by omega
    refine ex_if (b := (Txt.rstrip (ls.getD 1 Str.empty)).length == 0) ?_ fun s₃ k₃ => ?_
    · refine tst_and (x := true) ?_ (fun _ => ?_) (fun h => by cases h)
      · refine Tst.cast (b := decide ((2 : Int) ≤ ls.length)) ?_ (by simp; omega)
        exact tst_geI ((hlenE _ _ _).mono k₂) ev_int rfl
      · refine Tst.cast (b := !(((Txt.rstrip (ls.getD 1 Str.empty)).length : Int) != 0)) ?_ (by rw [Bool.eq_iff_iff]; simp)
        refine tst_not ?_
        refine tst_S ?_ ?_ rfl
        · refine ev_meth0 F.slot_str_rstrip F.type_str_rstrip (x := ls.getD 1 Str.empty) ?_ ?_ rfl rfl
          · exact (hitem 1 _ _ _ _ h2).mono k₂
          · exact fun s₁ t => SC.rstrip (fun t' k => ⟨Ext.tok _ _, .str _ (rstrip_ok (hgetOk 1 h2))⟩) (by have := hgetLen 1 h2; rw [sizeLine_eq]; omega)
        · have := hgetLen 1 h2; have := len_rstrip (ls.getD 1 Str.empty); rw [sizeLine_eq]; omega
    by_cases h3 : (Txt.rstrip (ls.getD 1 Str.empty)).length = 0
    · rw [if_pos h3, if_pos (by simpa using h3)]
      refine ex_return (d := .tuple [.str (ls.getD 0 Str.empty), .str (Txt.join nl (ls.drop 2))]) ?_ fun s₄ v k₄ r => ?_
      · refine ev_tuple (.cons ?_ (by rfl) (.cons ?_ (by rfl) .nil)) (by simp [sizeLine_eq])
        · exact (hitem 0 _ _ _ _ (by omega)).mono (k₂.trans k₃)
        · refine ev_meth1 F.slot_str_join F.type_str_join (x := nl) (d := .list ((ls.drop 2).map PyData.str)) (ev_str hnl) ?_ ?_ rfl rfl rfl
          · exact (ev_from (n := 2) ((hv _).mono (k₂.trans k₃)) ev_int hsz).cast (by rw [List.map_drop])
          · exact fun s₅ t v r => join_data r (hjoin 2) (hjok 2)
      · exact ⟨v, rfl, st₁.trans (((k₂.trans k₃).trans k₄).stp L), r⟩
    · rw [if_neg h3, if_neg (by simpa using h3)]
      refine ex_done ?_
      refine ex_done ?_
      refine ex_return (d := .tuple [.str (Str.ofString ""), .str (Txt.join nl ls)]) ?_ fun s₄ v k₄ r => ?_
      · refine ev_tuple (.cons ?_ (by rfl) (.cons ?_ (by rfl) .nil)) (by simp [sizeLine_eq])
        · exact ev_str hemp
        · refine ev_meth1 F.slot_str_join F.type_str_join (x := nl) (d := .list (ls.map PyData.str)) (ev_str hnl) ?_ ?_ rfl rfl rfl
          · exact (hv _).mono (k₂.trans k₃)
          · exact fun s₅ t v r => join_data r (hjoin 0) (hjok 0)
      · exact ⟨v, rfl, st₁.trans (((k₂.trans k₃).trans k₄).stp L), by rw [pair, ← hes]; exact r⟩

theorem splitdoc_call {g : Heap} {x : Str} {v : Value} {fa : Addr} {o : Obj} {pm cd : Value} (hx : PyData.strOk x = true) (hl : x.length ≤ 2000) (G : Gd mg mb g) (hg : Up g s.heap)
    (ho : s.heap.get? fa = some o) (hd : o.data = .func (fdAt 1 pm cd)) (hcd : s.heap.CodeRec cd (Str.ofString "splitdoc")) (hroom : A.depth < recursionLimit) (r : Rep s.heap v (.str x)) :
    wpAny (model prog w) A (call (.ref fa) [v]) (fun u s' => Ext s s' ∧ Rep s'.heap u (pair (splitF x))) NoE s := by
  refine call_pure (fd := fdAt 1 pm cd) (body := (defAt 1).2.2.1) (binds := [(Str.ofString "doc", v)]) hroom ho hd (G.lim.keeps hg) hcd rfl rfl (show ∀ y ∈ (defAt 1).2.2.2.names, y.2 ≠ .cell by decide) (by intro y hy; simp at hy; subst hy; rfl) rfl rfl rfl fun h₀ hn hu => ?_
  refine splitdoc_body (g := g) (m := fun x => List.lookup x [(Str.ofString "doc", v)].reverse) (ρ := fun y => if y = Str.ofString "doc" then some (.str x) else none) hx hl G (fun b o e => hu b o (hg b o e)) ?_ ⟨hn, fun y d e => ?_⟩ (if_pos rfl)
  · cases q : g.get? s.heap.objs.size with
    | none => rfl
    | some o' => exact absurd (Heap.lt_size (hg _ _ q)) (Nat.lt_irrefl _)
  · by_cases hy : y = Str.ofString "doc"
    · subst hy
      rw [if_pos rfl] at e; cases e
      exact ⟨v, by simp, r.up hu⟩
    · rw [if_neg hy] at e; cases e
end
end Mine

/-! part RWK -/
namespace Mine
open PySem PySem.W PyProof.Rows PySem.Calls PySem.Spec

/-- the white signs but the line's end -/
def wl : List Nat := [9, 11, 12, 13, 28, 29, 30, 31, 32, 133, 160, 5760, 8192, 8193, 8194, 8195, 8196, 8197, 8198, 8199, 8200, 8201, 8202, 8232, 8233, 8239, 8287, 12288]
def wS : Str := ⟨wl.toArray⟩
def coreL : List Str := [⟨#[111, 110, 101]⟩, ⟨#[97, 32, 98]⟩, ⟨#[99, 11, 100]⟩, ⟨#[101, 8232, 160, 102]⟩]
def signOf (x : Int) : Nat := (if (x.fdiv 4).fmod 1112064 < 55296 then (x.fdiv 4).fmod 1112064 else (x.fdiv 4).fmod 1112064 + 2048).toNat
def pad (i n : Int) : Str := Txt.mul ⟨#[wl.getD i.toNat 0]⟩ n
def rowF (x : Int) : Str × Str × Str :=
  if x.fmod 4 < 2 then (pad ((x.fdiv 4).fmod 28) ((x.fdiv 4).fmod 3), Str.empty, Str.empty)
  else if x.fmod 4 = 2 then (pad ((x.fdiv 4).fmod 28) ((x.fdiv 4).fmod 3), coreL.getD (((x.fdiv 4).fdiv 3).fmod 4).toNat Str.empty, pad (((x.fdiv 4).fdiv 84).fmod 28) (((x.fdiv 4).fdiv 7).fmod 3))
  else if signOf x = 10 then (Str.empty, ⟨#[110]⟩, Str.empty)
  else if wl.contains (signOf x) then (Str.empty, Str.empty, ⟨#[signOf x]⟩) else (Str.empty, ⟨#[signOf x]⟩, Str.empty)
def trip (p : Str × Str × Str) : PyData := .tuple [.str p.1, .str p.2.1, .str p.2.2]

theorem fmod_bd (a : Int) {b : Int} (h : 0 < b) : 0 ≤ a.fmod b ∧ a.fmod b < b := ⟨Int.fmod_nonneg_of_pos a h, Int.fmod_lt_of_pos a h⟩
theorem wl_len : wl.length = 28 := rfl
theorem wl_lt : ∀ c ∈ wl, c < 0x110000 := by decide
theorem wl_at {i : Int} (h0 : 0 ≤ i) (h1 : i < 28) : wS.cps[i.toNat]? = some (wl.getD i.toNat 0) := by
  have h : i.toNat < wl.length := by rw [wl_len]; omega
  show wl.toArray[i.toNat]? = _
  rw [List.getElem?_toArray, List.getD_eq_getElem?_getD, List.getElem?_eq_getElem h]; rfl
theorem wl_mem {i : Int} (h0 : 0 ≤ i) (h1 : i < 28) : wl.getD i.toNat 0 ∈ wl := by
  have h : i.toNat < wl.length := by rw [wl_len]; omega
  rw [List.getD_eq_getElem?_getD, List.getElem?_eq_getElem h]; exact List.getElem_mem h
theorem mul_cl {c : Nat} {n : Int} (h0 : 0 ≤ n) (h1 : n < 3) : cl (Txt.mul ⟨#[c]⟩ n) = List.replicate n.toNat c := by
  have : n = 0 ∨ n = 1 ∨ n = 2 := by omega
  rcases this with rfl | rfl | rfl <;> rfl
theorem mul_ok {c : Nat} {n : Int} (h0 : 0 ≤ n) (h1 : n < 3) : MulOk ⟨#[c]⟩ n := by
  have : n = 0 ∨ n = 1 ∨ n = 2 := by omega
  rcases this with rfl | rfl | rfl
  · exact ⟨by decide, fun h => absurd (by decide) h, fun h => absurd (by decide) h⟩
  · exact ⟨by decide, fun _ h => by simp at h, fun _ h => by simp at h⟩
  · refine ⟨by decide, fun _ _ => ?_, fun _ _ => ?_⟩
    · show ¬ ((1 : Nat) : Int) > (2 ^ 63 - 1) / 2
      omega
    · show Builtin.Str.tooLong 2 = false
      decide
theorem pad_cl {i n : Int} (h0 : 0 ≤ n) (h1 : n < 3) : cl (pad i n) = List.replicate n.toNat (wl.getD i.toNat 0) := mul_cl h0 h1
theorem pad_ok {i n : Int} (i0 : 0 ≤ i) (i1 : i < 28) (h0 : 0 ≤ n) (h1 : n < 3) : PyData.strOk (pad i n) = true := by
  rw [strOk_iff, pad_cl h0 h1]
  intro c hc
  rw [(List.mem_replicate.mp hc).2]
  exact wl_lt _ (wl_mem i0 i1)
theorem signOf_lt (x : Int) : signOf x < 0x110000 := by
  have := fmod_bd (x.fdiv 4) (b := 1112064) (by decide)
  unfold signOf
  split <;> omega

section
variable {prog : Program} {w : World} {A : Around} {s : Shared} {mg mb : Str → Option Value}

set_option maxHeartbeats 1000000 in
theorem row_body {g : Heap} {x : Int} {pm cd : Value} {L fa : Addr} {m : Str → Option Value} {ρ : Str → Option PyData} (G : Gd mg mb g) (hg : Up g s.heap) (hgL : g.get? L = none)
    (hL : Loc L s.heap m ρ) (e : ρ (Str.ofString "x") = some (.int x)) :
    wpAny (model prog w) A (execs (defAt 3).2.2.1 (callEnv (fdAt 3 pm cd) L fa)) (fun f s' => ∃ v, f = .ret v ∧ Stp L s s' ∧ Rep s'.heap v (trip (rowF x))) NoE s := by
  refine ex_assign (env := callEnv (fdAt 3 pm cd) L fa) hL (ev_str (by decide +kernel)) rfl rfl rfl fun s₁ v₁ st₁ L₁ => ?_
  refine ex_assign (env := callEnv (fdAt 3 pm cd) L fa) (d := .str wS) L₁ ?_ rfl rfl rfl fun s₂ v₂ st₂ L₂ => ?_
  · refine Ev.cast (d := .str _) (ev_addS (ev_var L₁ rfl rfl rfl upd_self) (ev_str (by decide +kernel)) (by decide +kernel)) ?_
    congr 1
  refine ex_assign (env := callEnv (fdAt 3 pm cd) L fa) (d := .int (x.fdiv 4)) L₂ ?_ rfl rfl rfl fun s₃ v₃ st₃ L₃ => ?_
  · exact ev_divI (by decide) (PyProof.noPylong_small (by decide)) (ev_var L₂ rfl rfl rfl e) ev_int
  have b28 := fmod_bd (x.fdiv 4) (b := 28) (by decide)
  have b3 := fmod_bd (x.fdiv 4) (b := 3) (by decide)
  have hw3 : ∀ p, Ev prog w A (callEnv (fdAt 3 pm cd) L fa) s₃ (.Name (Str.ofString "white") p) (.str wS) := fun p => ev_var L₃ rfl rfl rfl rfl
  have hr3 : ∀ p, Ev prog w A (callEnv (fdAt 3 pm cd) L fa) s₃ (.Name (Str.ofString "rest") p) (.int (x.fdiv 4)) := fun p => ev_var L₃ rfl rfl rfl rfl
  have hwl : wS.length ≤ sizeLine := by decide +kernel
  refine ex_assign (env := callEnv (fdAt 3 pm cd) L fa) (d := .str (pad ((x.fdiv 4).fmod 28) ((x.fdiv 4).fmod 3))) L₃ ?_ rfl rfl rfl fun s₄ v₄ st₄ L₄ => ?_
  · refine ev_mulS ?_ ?_ (mul_ok b3.1 b3.2) (pad_ok b28.1 b28.2 b3.1 b3.2)
    · refine ev_subS (hw3 _) ?_ b28.1 (wl_at b28.1 b28.2) hwl (fun _ _ => rfl)
      exact ev_modI (by decide) (hr3 _) ev_int
    · exact ev_modI (by decide) (hr3 _) ev_int
  have hx4 : ∀ p, Ev prog w A (callEnv (fdAt 3 pm cd) L fa) s₄ (.Name (Str.ofString "x") p) (.int x) := fun p => ev_var L₄ rfl rfl rfl e
  have hw4 : ∀ p, Ev prog w A (callEnv (fdAt 3 pm cd) L fa) s₄ (.Name (Str.ofString "white") p) (.str wS) := fun p => ev_var L₄ rfl rfl rfl rfl
  have hr4 : ∀ p, Ev prog w A (callEnv (fdAt 3 pm cd) L fa) s₄ (.Name (Str.ofString "rest") p) (.int (x.fdiv 4)) := fun p => ev_var L₄ rfl rfl rfl rfl
  have hl4 : ∀ p, Ev prog w A (callEnv (fdAt 3 pm cd) L fa) s₄ (.Name (Str.ofString "lead") p) (.str (pad ((x.fdiv 4).fmod 28) ((x.fdiv 4).fmod 3))) := fun p => ev_var L₄ rfl rfl rfl rfl
  have st : Stp L s s₄ := ((st₁.trans st₂).trans st₃).trans st₄
  have hemp : PyData.strOk (Str.ofString "") = true := by decide +kernel
  have hes : Str.ofString "" = Str.empty := by decide +kernel
  unfold rowF
  refine ex_if (b := decide (x.fmod 4 < 2)) ?_ fun s₅ k₅ => ?_
  · refine tst_ltI ?_ ev_int rfl
    exact ev_modI (by decide) (hx4 _) ev_int
  by_cases h1 : x.fmod 4 < 2
  · rw [if_pos h1, if_pos (decide_eq_true h1)]
    refine ex_return (d := .tuple [.str (pad ((x.fdiv 4).fmod 28) ((x.fdiv 4).fmod 3)), .str (Str.ofString ""), .str (Str.ofString "")]) ?_ fun s₆ v k₆ r => ?_
    · refine ev_tuple (.cons ?_ rfl (.cons ?_ rfl (.cons ?_ rfl .nil))) (by simp [sizeLine_eq])
      · exact (hl4 _).mono k₅
      · exact ev_str hemp
      · exact ev_str hemp
    · exact ⟨v, rfl, st.trans ((k₅.trans k₆).stp L), by rw [trip, ← hes]; exact r⟩
  rw [if_neg h1, if_neg (by simpa using h1)]
  refine ex_done ?_
  refine ex_if (b := (x.fmod 4 == 2)) ?_ fun s₆ k₆ => ?_
  · refine tst_eqI ?_ ev_int rfl
    exact ev_modI (by decide) ((hx4 _).mono k₅) ev_int
  have k46 := k₅.trans k₆
  by_cases h2 : x.fmod 4 = 2
  · rw [if_pos h2, if_pos (by simpa using h2)]
    have b4 := fmod_bd ((x.fdiv 4).fdiv 3) (b := 4) (by decide)
    have c28 := fmod_bd ((x.fdiv 4).fdiv 84) (b := 28) (by decide)
    have c3 := fmod_bd ((x.fdiv 4).fdiv 7) (b := 3) (by decide)
    refine ex_assign (env := callEnv (fdAt 3 pm cd) L fa) (d := .str (coreL.getD (((x.fdiv 4).fdiv 3).fmod 4).toNat Str.empty)) (L₄.up k46.up) ?_ rfl rfl rfl fun s₇ v₇ st₇ L₇ => ?_
    · refine ev_subT (ds := coreL.map PyData.str) ?_ ?_ b4.1 (getD_map (by show _ < 4; omega)) (by simp [coreL, sizeLine_eq]) (fun _ _ => rfl)
      · refine Ev.cast (d := .tuple _) (ev_tuple (.cons (ev_str (by decide +kernel)) rfl (.cons (ev_str (by decide +kernel)) rfl (.cons (ev_str (by decide +kernel)) rfl (.cons (ev_str (by decide +kernel)) rfl .nil)))) (by simp [sizeLine_eq])) ?_
        congr 1
      · refine ev_modI (by decide) ?_ ev_int
        exact ev_divI (by decide) (PyProof.noPylong_small (by decide)) ((hr4 _).mono k46) ev_int
    have hl7 : ∀ p, Ev prog w A (callEnv (fdAt 3 pm cd) L fa) s₇ (.Name (Str.ofString "lead") p) (.str (pad ((x.fdiv 4).fmod 28) ((x.fdiv 4).fmod 3))) := fun p => ev_var L₇ rfl rfl rfl rfl
    have hw7 : ∀ p, Ev prog w A (callEnv (fdAt 3 pm cd) L fa) s₇ (.Name (Str.ofString "white") p) (.str wS) := fun p => ev_var L₇ rfl rfl rfl rfl
    have hr7 : ∀ p, Ev prog w A (callEnv (fdAt 3 pm cd) L fa) s₇ (.Name (Str.ofString "rest") p) (.int (x.fdiv 4)) := fun p => ev_var L₇ rfl rfl rfl rfl
    refine ex_return (d := .tuple [.str (pad ((x.fdiv 4).fmod 28) ((x.fdiv 4).fmod 3)), .str (coreL.getD (((x.fdiv 4).fdiv 3).fmod 4).toNat Str.empty), .str (pad (((x.fdiv 4).fdiv 84).fmod 28) (((x.fdiv 4).fdiv 7).fmod 3))]) ?_ fun s₈ v k₈ r => ?_
    · refine ev_tuple (.cons ?_ rfl (.cons ?_ rfl (.cons ?_ rfl .nil))) (by simp [sizeLine_eq])
      · exact hl7 _
      · exact ev_var L₇ rfl rfl rfl rfl
      · refine ev_mulS ?_ ?_ (mul_ok c3.1 c3.2) (pad_ok c28.1 c28.2 c3.1 c3.2)
        · refine ev_subS (hw7 _) ?_ c28.1 (wl_at c28.1 c28.2) hwl (fun _ _ => rfl)
          refine ev_modI (by decide) ?_ ev_int
          exact ev_divI (by decide) (PyProof.noPylong_small (by decide)) (hr7 _) ev_int
        · refine ev_modI (by decide) ?_ ev_int
          exact ev_divI (by decide) (PyProof.noPylong_small (by decide)) (hr7 _) ev_int
    · exact ⟨v, rfl, (st.trans ((k46).stp L)).trans (st₇.trans (k₈.stp L)), r⟩
  rw [if_neg h2, if_neg (by simpa using h2)]
  refine ex_done ?_
  have hp := fmod_bd (x.fdiv 4) (b := 1112064) (by decide)
  refine ex_assign (env := callEnv (fdAt 3 pm cd) L fa) (d := .int ((x.fdiv 4).fmod 1112064)) (L₄.up k46.up) ?_ rfl rfl rfl fun s₇ v₇ st₇ L₇ => ?_
  · exact ev_modI (by decide) ((hr4 _).mono k46) ev_int
  have hp7 : ∀ p, Ev prog w A (callEnv (fdAt 3 pm cd) L fa) s₇ (.Name (Str.ofString "point") p) (.int ((x.fdiv 4).fmod 1112064)) := fun p => ev_var L₇ rfl rfl rfl rfl
  have hg₇ := st₇.base (fun b o q => k46.up b o (st.base hg hgL b o q)) hgL
  refine ex_assign (env := callEnv (fdAt 3 pm cd) L fa) (d := .str ⟨#[signOf x]⟩) L₇ ?_ rfl rfl rfl fun s₈ v₈ st₈ L₈ => ?_
  · refine ev_callB (d := .int (if (x.fdiv 4).fmod 1112064 < 55296 then (x.fdiv 4).fmod 1112064 else (x.fdiv 4).fmod 1112064 + 2048)) rfl rfl rfl (G.ng.keeps hg₇) G.chr0 (G.nb.keeps hg₇) G.chr1 ?_ rfl fun v s₉ k r => chr_data r ?_ ?_
    · refine ev_ifexp (c := decide ((x.fdiv 4).fmod 1112064 < 55296)) ?_ (fun h => ?_) (fun h => ?_)
      · exact tst_ltI (hp7 _) ev_int rfl
      · rw [if_pos (of_decide_eq_true h)]; exact hp7 _
      · rw [if_neg (of_decide_eq_false h)]
        exact ev_addI (hp7 _) ev_int
    · split <;> omega
    · split <;> omega
  have hs8 : ∀ p, Ev prog w A (callEnv (fdAt 3 pm cd) L fa) s₈ (.Name (Str.ofString "sign") p) (.str ⟨#[signOf x]⟩) := fun p => ev_var L₈ rfl rfl rfl rfl
  have hw8 : ∀ p, Ev prog w A (callEnv (fdAt 3 pm cd) L fa) s₈ (.Name (Str.ofString "white") p) (.str wS) := fun p => ev_var L₈ rfl rfl rfl rfl
  have st8 : Stp L s s₈ := (st.trans (k46.stp L)).trans (st₇.trans st₈)
  refine ex_if (b := (signOf x == 10)) ?_ fun s₉ k₉ => ?_
  · refine Tst.cast (b := ((⟨#[signOf x]⟩ : Str).cps.toList == nl.cps.toList)) (tst_eqS (hs8 _) (ev_str (by decide +kernel)) rfl) ?_
    have : nl.cps.toList = [10] := by decide +kernel
    rw [this]; simp
  by_cases h3 : signOf x = 10
  · rw [if_pos h3, if_pos (by simpa using h3)]
    refine ex_return (d := .tuple [.str (Str.ofString ""), .str ⟨#[110]⟩, .str (Str.ofString "")]) ?_ fun s₆ v k₆ r => ?_
    · refine ev_tuple (.cons (ev_str hemp) rfl (.cons ?_ rfl (.cons (ev_str hemp) rfl .nil))) (by simp [sizeLine_eq])
      exact Ev.cast (ev_str (by decide +kernel)) (congrArg PyData.str (by decide +kernel))
    · exact ⟨v, rfl, st8.trans ((k₉.trans k₆).stp L), by rw [trip, ← hes]; exact r⟩
  rw [if_neg h3, if_neg (by simpa using h3)]
  refine ex_done ?_
  refine ex_return (d := trip (if wl.contains (signOf x) = true then (Str.empty, Str.empty, ⟨#[signOf x]⟩) else (Str.empty, ⟨#[signOf x]⟩, Str.empty))) ?_ fun s₆ v k₆ r => ?_
  · refine ev_ifexp (c := wl.contains (signOf x)) ?_ (fun h => ?_) (fun h => ?_)
    · refine Tst.cast (b := Txt.contains wS ⟨#[signOf x]⟩) (tst_inS ((hs8 _).mono k₉) ((hw8 _).mono k₉) rfl) ?_
      unfold Txt.contains
      rw [StrLaws.found_one]
      show decide (signOf x ∈ wl) = _
      simp
    · rw [h, if_pos rfl, trip, ← hes]
      exact ev_tuple (.cons (ev_str hemp) rfl (.cons (ev_str hemp) rfl (.cons ((hs8 _).mono k₉) rfl .nil))) (by simp [sizeLine_eq])
    · rw [h, if_neg Bool.false_ne_true, trip, ← hes]
      exact ev_tuple (.cons (ev_str hemp) rfl (.cons ((hs8 _).mono k₉) rfl (.cons (ev_str hemp) rfl .nil))) (by simp [sizeLine_eq])
  · exact ⟨v, rfl, st8.trans ((k₉.trans k₆).stp L), r⟩

theorem row_call {g : Heap} {x : Int} {v : Value} {fa : Addr} {o : Obj} {pm cd : Value} (G : Gd mg mb g) (hg : Up g s.heap)
    (ho : s.heap.get? fa = some o) (hd : o.data = .func (fdAt 3 pm cd)) (hcd : s.heap.CodeRec cd (Str.ofString "_law_row")) (hroom : A.depth < recursionLimit) (r : Rep s.heap v (.int x)) :
    wpAny (model prog w) A (call (.ref fa) [v]) (fun u s' => Ext s s' ∧ Rep s'.heap u (trip (rowF x))) NoE s := by
  refine call_pure (fd := fdAt 3 pm cd) (body := (defAt 3).2.2.1) (binds := [(Str.ofString "x", v)]) hroom ho hd (G.lim.keeps hg) hcd rfl rfl (show ∀ y ∈ (defAt 3).2.2.2.names, y.2 ≠ .cell by decide) (by intro y hy; simp at hy; subst hy; rfl) rfl rfl rfl fun h₀ hn hu => ?_
  refine row_body (g := g) (m := fun x => List.lookup x [(Str.ofString "x", v)].reverse) (ρ := fun y => if y = Str.ofString "x" then some (.int x) else none) G (fun b o e => hu b o (hg b o e)) ?_ ⟨hn, fun y d e => ?_⟩ (if_pos rfl)
  · cases q : g.get? s.heap.objs.size with
    | none => rfl
    | some o' => exact absurd (Heap.lt_size (hg _ _ q)) (Nat.lt_irrefl _)
  · by_cases hy : y = Str.ofString "x"
    · subst hy
      rw [if_pos rfl] at e; cases e
      exact ⟨v, by simp, r.up hu⟩
    · rw [if_neg hy] at e; cases e
end
end Mine

/-! part CP -/
namespace Mine
open PySem PySem.W PyProof.Rows PySem.Calls PySem.Spec

/-! data without lists: nothing that a list's change turns -/
mutual
def noL : PyData → Bool
  | .list _ => false
  | .dict _ => false
  | .tuple ds => noLs ds
  | _ => true
def noLs : List PyData → Bool
  | [] => true
  | d :: ds => noL d && noLs ds
end
/-- tuples stay -/
abbrev UpT (h h' : Heap) : Prop := ∀ b o vs n, o.cls = .type "tuple" → o.data = .seq vs n → h.get? b = some o → h'.get? b = some o
mutual
theorem Rep.upT {h h' : Heap} (hk : UpT h h') : ∀ {v : Value} {d : PyData}, noL d = true → Rep h v d → Rep h' v d
  | _, _, _, .bool b => .bool b
  | _, _, _, .int i t => .int i t
  | _, _, _, .str t hx => .str t hx
  | _, _, n, .list _ _ => by rw [noL] at n; cases n
  | _, _, n, .tuple e r => .tuple (hk _ _ _ _ rfl rfl e) (RepL.upT hk (by rw [noL] at n; exact n) r)
theorem RepL.upT {h h' : Heap} (hk : UpT h h') : ∀ {vs : List Value} {ds : List PyData}, noLs ds = true → RepL h vs ds → RepL h' vs ds
  | _, _, _, .nil => .nil
  | _, _, n, .cons a r => by
    rw [noLs, Bool.and_eq_true] at n
    exact .cons (Rep.upT hk n.1 a) (RepL.upT hk n.2 r)
end
theorem noLs_map {α : Type} {f : α → PyData} : ∀ {l : List α}, (∀ a ∈ l, noL (f a) = true) → noLs (l.map f) = true
  | [], _ => rfl
  | a :: r, h => by rw [List.map_cons, noLs, h a (by simp), noLs_map fun b hb => h b (List.mem_cons_of_mem _ hb)]; rfl

/-- kept but at C, at wr, at D -/
structure Kp (C D : Addr) (wr : List Addr) (s s' : Shared) : Prop where
  but : ∀ b o, b ≠ C → b ∉ wr → b ≠ D → s.heap.get? b = some o → s'.heap.get? b = some o
  eq : ∃ h tk, s' = { s with heap := h, toks := tk }

section
variable {prog : Program} {w : World} {A : Around} {s : Shared}

abbrev tests (ifs : List PySem.Expr) (env : Env) : Sem Bool := forIn ifs true fun c r => if r = true then do let ok ← isTrue c env (eval c env); pure (ForInStep.yield ok) else pure (ForInStep.yield r)

theorem comp_turns {elt target iter : PySem.Expr} {ifs : List PySem.Expr} {scope : Scope} {pos : Pos} {it acc : Value} {env : Env} {R : Result → Shared → Prop} (I : Nat → Shared → Prop)
    (turn : ∀ n s, I n s → wpAny (model prog w) A (pyNext it) (fun r s₁ => match r with
      | none => R (.ok .next) s₁
      | some v => wpAny (model prog w) A (letOwnedTupleGo target it v) (fun _ s₀ => wpAny (model prog w) A (assign target env v) (fun _ s₂ => wpAny (model prog w) A (tests ifs env) (fun ok s₃ =>
            if ok = true then wpAny (model prog w) A (eval elt env) (fun x s₄ => wpAny (model prog w) A (call (.builtin "list.append") [acc, x]) (fun _ s₅ => ∃ m, m < n ∧ I m s₅) NoE s₄) NoE s₃
            else ∃ m, m < n ∧ I m s₃) NoE s₂) NoE s₀) NoE s₁) NoE s)
    (n : Nat) (h : I n s) : codeAny (model prog w) A (.compLoop (.ListComp elt [⟨target, iter, ifs, 0⟩] scope pos) 0 it acc env) R s := by
  refine codeAny_loop rfl I (fun n s hI => ?_) n h
  show wpAny _ A ((compTurn (.ListComp elt [⟨target, iter, ifs, 0⟩] scope pos) 0 it acc env).onRaise (fun x => do noteFrame x env; theTreesLotGoes x)) _ _ s
  refine wpAny_noted ?_
  rw [compTurn_list]
  refine wpAny_bind (wpAny_standAt (wpAny_bind (wpAny_mono (turn n s hI) (fun r s₁ h₁ => ?_) fun _ _ f => f.elim)))
  cases r with
  | none => exact wpAny_pure h₁
  | some v =>
    refine wpAny_bind (wpAny_mono h₁ (fun _ s₀ h₀ => ?_) fun _ _ f => f.elim)
    refine wpAny_bind (wpAny_mono h₀ (fun _ s₂ h₂ => ?_) fun _ _ f => f.elim)
    refine wpAny_bind (wpAny_mono h₂ (fun ok s₃ h₃ => ?_) fun _ _ f => f.elim)
    cases ok with
    | false => exact wpAny_pure ⟨rfl, h₃⟩
    | true =>
      exact wpAny_bind (wpAny_bind (wpAny_mono h₃ (fun x s₄ h₄ => wpAny_bind (wpAny_mono h₄ (fun _ s₅ h₅ => wpAny_pure (wpAny_pure ⟨rfl, h₅⟩)) fun _ _ f => f.elim)) fun _ _ f => f.elim))

theorem comp_run {elt target iter : PySem.Expr} {ifs : List PySem.Expr} {scope : Scope} {pos : Pos} {I D C : Addr} {fp wr : List Addr} {n : Nat} {P : Nat → Value → Prop} {St : Nat → Heap → Prop} {cenv : Env}
    {m : Str → Option Value} {R : Result → Shared → Prop} (W : Walks prog w A I fp wr n P St) (f : Nat → PyData) (p : Nat → Bool) (ρ : Nat → Str → Option PyData)
    (hDC : D ≠ C) (hDf : D ∉ fp) (hCf : C ∉ fp) (hst : St 0 s.heap) (hacc : s.heap.PlainList D #[]) (hn : s.heap.Ns C m)
    (hf : ∀ i, i < n → noL (f i) = true) (hwr : ∀ i h, St i h → ∀ b ∈ wr, ∀ o, h.get? b = some o → o.cls ≠ .type "tuple")
    (hlet : ∀ i v s₁, i < n → P i v → Kp C D wr s s₁ → St (i + 1) s₁.heap → wpAny (model prog w) A (letOwnedTupleGo target (.ref I) v) (fun _ s₂ => s₂ = s₁) NoE s₁)
    (hasg : ∀ i v s₂ m₂, i < n → P i v → Kp C D wr s s₂ → s₂.heap.Ns C m₂ → wpAny (model prog w) A (assign target cenv v) (fun _ s₃ => Stp C s₂ s₃ ∧ ∃ m₃, Loc C s₃.heap m₃ (ρ i)) NoE s₂)
    (htest : ∀ i s₃ m₃, i < n → Kp C D wr s s₃ → Loc C s₃.heap m₃ (ρ i) → wpAny (model prog w) A (tests ifs cenv) (fun ok s₄ => Ext s₃ s₄ ∧ ok = p i) NoE s₃)
    (helt : ∀ i s₃ m₃, i < n → p i = true → Kp C D wr s s₃ → Loc C s₃.heap m₃ (ρ i) → Ev prog w A cenv s₃ elt (f i))
    (hR : ∀ h' tk m' ys, h'.Ns C m' → h'.PlainList D ys → RepL h' ys.toList (((List.range n).filter p).map f) → Kp C D wr s { s with heap := h', toks := tk } → R (.ok .next) { s with heap := h', toks := tk })
    (hsz : n ≤ sizeLine) : codeAny (model prog w) A (.compLoop (.ListComp elt [⟨target, iter, ifs, 0⟩] scope pos) 0 (.ref I) (.ref D) cenv) R s := by
  have hCw : C ∉ wr := fun h => hCf (W.sub _ h)
  have hDw : D ∉ wr := fun h => hDf (W.sub _ h)
  have hnoAll : ∀ i, i ≤ n → noLs (((List.range i).filter p).map f) = true := fun i hi => noLs_map fun j hj => hf j (by have := List.mem_range.mp (List.mem_filter.mp hj).1; omega)
  refine comp_turns (fun k s' => ∃ h' tk m' ys i, s' = { s with heap := h', toks := tk } ∧ St i h' ∧ h'.PlainList D ys ∧ h'.Ns C m' ∧ RepL h' ys.toList (((List.range i).filter p).map f) ∧ i ≤ n ∧ k = n + 1 - i ∧
      Kp C D wr s { s with heap := h', toks := tk }) ?_ (n + 1) ⟨s.heap, s.toks, m, #[], 0, rfl, hst, hacc, hn, .nil, Nat.zero_le _, rfl, ⟨fun _ _ _ _ _ e => e, _, _, rfl⟩⟩
  rintro k s' ⟨H, tk, m', ys, i, rfl, hst', hacc', hn', hrep, hi, rfl, hk⟩
  by_cases hlt : i < n
  · refine W.item i _ _ _ hlt hst' fun v h₁ tk₁ hPv hst₁ hk₁ => ?_
    have hk₁' : Kp C D wr s { s with heap := h₁, toks := tk₁ } := ⟨fun b o c1 c2 c3 e => hk₁ b o c2 (hk.but b o c1 c2 c3 e), _, _, rfl⟩
    have T1 : UpT H h₁ := fun b o _ _ hc hs e => hk₁ b o (fun q => hwr i H hst' b q o e hc) e
    refine wpAny_mono (hlet i v { s with heap := h₁, toks := tk₁ } hlt hPv hk₁' hst₁) (fun _ s₂ e₂ => ?_) fun _ _ f => f.elim
    subst e₂
    have hn₁ : h₁.Ns C m' := hn'.at' fun o e => hk₁ _ o hCw e
    refine wpAny_mono (hasg i v _ m' hlt hPv hk₁' hn₁) (fun _ s₃ q => ?_) fun _ _ f => f.elim
    obtain ⟨⟨hb, h₃, tk₃, rfl⟩, m₃, hL⟩ := q
    have hk₃ : Kp C D wr s { s with heap := h₃, toks := tk₃ } := ⟨fun b o c1 c2 c3 e => hb b o c1 (hk₁'.but b o c1 c2 c3 e), _, _, rfl⟩
    have hst₃ : St (i + 1) h₃ := W.frame _ _ _ hst₁ fun b hbf o e => hb b o (fun q => hCf (q ▸ hbf)) e
    have hacc₃ : h₃.PlainList D ys := hacc'.at fun o e => hb _ o hDC (hk₁ _ o hDw e)
    have T3 : UpT h₁ h₃ := fun b o _ _ hc hs e => hb b o (fun q => by
      subst q
      exact noSeq_ns hn₁ o e _ _ hs) e
    refine wpAny_mono (htest i _ m₃ hlt hk₃ hL) (fun ok s₄ q => ?_) fun _ _ f => f.elim
    obtain ⟨⟨hu₄, h₄, tk₄, rfl⟩, rfl⟩ := q
    have hk₄ : Kp C D wr s { s with heap := h₄, toks := tk₄ } := ⟨fun b o c1 c2 c3 e => hu₄ b o (hk₃.but b o c1 c2 c3 e), _, _, rfl⟩
    have hst₄ : St (i + 1) h₄ := W.frame _ _ _ hst₃ fun b _ o e => hu₄ b o e
    have hacc₄ : h₄.PlainList D ys := hacc₃.at fun o e => hu₄ _ o e
    have hL₄ := hL.up hu₄
    have hrep₄ : RepL h₄ ys.toList (((List.range i).filter p).map f) := ((hrep.upT T1 (hnoAll i hi)).upT T3 (hnoAll i hi)).up hu₄
    have hstep : (List.range (i + 1)).filter p = (List.range i).filter p ++ (if p i then [i] else []) := by
      rw [List.range_succ, List.filter_append]
      cases hp : p i <;> simp [hp]
    cases hp : p i with
    | false =>
      rw [if_neg Bool.false_ne_true]
      refine ⟨n + 1 - (i + 1), by omega, h₄, tk₄, m₃, ys, i + 1, rfl, hst₄, hacc₄, hL₄.ns, ?_, hlt, rfl, hk₄⟩
      rw [hstep, hp]; simpa using hrep₄
    | true =>
      rw [if_pos rfl]
      refine (helt i _ m₃ hlt hp hk₄ hL₄).use (Ext.refl _) fun y s₅ k₅ ry => ?_
      obtain ⟨hu₅, h₅, tk₅, rfl⟩ := k₅
      have hacc₅ : h₅.PlainList D ys := hacc₄.at fun o e => hu₅ _ o e
      have hys : ys.size ≤ sizeLine := by
        have e1 := hrep.length
        rw [List.length_map] at e1
        have e2 : ((List.range i).filter p).length ≤ (List.range i).length := List.length_filter_le _ _
        rw [List.length_range] at e2
        have e4 : ys.toList.length = ys.size := by simp
        omega
      refine wpAny_list_append_plain (hsz := hys) hacc₅ fun h₆ hl₆ hs₆ => ?_
      have T6 : UpT h₅ h₆ := fun b o _ _ hc hs e => hs₆.extBut b o (fun q => by
        subst q
        obtain ⟨nn, ho⟩ := hacc₅
        rw [ho] at e; cases e; exact absurd (show Value.type "list" = Value.type "tuple" from hc) (by decide)) e
      refine ⟨n + 1 - (i + 1), by omega, h₆, tk₅, m₃, ys.push y, i + 1, rfl, ?_, hl₆, (hL₄.ns.keeps hu₅).sameBut hs₆ (Ne.symm hDC), ?_, hlt, rfl, ⟨fun b o c1 c2 c3 e => hs₆.extBut b o c3 (hu₅ b o (hk₄.but b o c1 c2 c3 e)), _, _, rfl⟩⟩
      · exact W.frame _ _ _ hst₄ fun b hbf o e => hs₆.extBut b o (fun q => hDf (q ▸ hbf)) (hu₅ b o e)
      · rw [hstep, hp, if_pos rfl, List.map_append]
        have r1 := (hrep₄.up hu₅).upT T6 (hnoAll i hi)
        have r2 := ry.upT T6 (hf i hlt)
        simpa using r1.append (.cons r2 .nil)
  · have hin : i = n := by omega
    subst hin
    refine W.done _ _ _ hst' fun h₁ tk₁ hk₁ => ?_
    have T1 : UpT H h₁ := fun b o _ _ hc hs e => hk₁ b o (fun q => hwr i H hst' b q o e hc) e
    exact hR h₁ tk₁ m' ys (hn'.at' fun o e => hk₁ _ o hCw e) (hacc'.at fun o e => hk₁ _ o hDw e) (hrep.upT T1 (hnoAll i (Nat.le_refl _))) ⟨fun b o c1 c2 c3 e => hk₁ b o c2 (hk.but b o c1 c2 c3 e), _, _, rfl⟩
end
end Mine

/-! part CQ -/
namespace Mine
open PySem PySem.W PyProof.Rows PySem.Calls PySem.Spec

/-- an iterator over n things that read src; made behind s₁, standing in s₂ -/
def Iters (prog : Program) (w : World) (A : Around) (n : Nat) (src : Nat → PyData) (IT : Heap → Addr → Prop) (s₁ : Shared) (it : Value) (s₂ : Shared) : Prop :=
  ∃ I fp wr P St, it = .ref I ∧ Walks prog w A I fp wr n P St ∧ St 0 s₂.heap ∧ (∀ b ∈ fp, b < s₂.heap.objs.size) ∧ Ext s₁ s₂ ∧ (∀ b ∈ wr, s₁.heap.get? b = none) ∧
    (∀ i h, St i h → ∀ b ∈ wr, ∀ o, h.get? b = some o → o.cls ≠ .type "tuple") ∧ (∀ i h, St i h → IT h I) ∧ (∀ i v, i < n → P i v → Rep s₁.heap v (src i)) ∧ ∀ i, i < n → noL (src i) = true

section
variable {prog : Program} {w : World} {A : Around} {s : Shared} {env : Env}

theorem iter_list {ds : List PyData} {v : Value} (hh : A.handled = none) (r : Rep s.heap v (.list ds)) (hno : ∀ d ∈ ds, noL d = true) :
    wpAny (model prog w) A (pyIter v) (fun it s₂ => Iters prog w A ds.length (fun i => ds.getD i .none) (fun h I => ∃ l j, h.IsListIter I l j) s it s₂) NoE s := by
  obtain ⟨a, vs, rfl, hl, rs⟩ := r.list_inv
  have hlen : vs.size = ds.length := by simpa using rs.length
  refine wpAny_pyIter_list hl ?_
  obtain ⟨o, ho, hc⟩ := id hl
  have hne : a ≠ s.heap.objs.size := Nat.ne_of_lt (Heap.lt_size ho)
  refine ⟨s.heap.objs.size, _, _, _, _, rfl, hlen ▸ Walks.list hh s.heap.objs.size a hne vs, ⟨⟨_, Heap.get?_push_size _ rfl, rfl, rfl⟩, hl.push _⟩, ?_, Ext.push _ _ _, ?_, ?_, ?_, ?_, ?_⟩
  · intro b hb
    rw [Heap.size_push]
    rcases List.mem_cons.mp hb with rfl | hb
    · exact Nat.lt_succ_self _
    · rw [List.mem_singleton.mp hb]; exact Nat.lt_succ_of_lt (Heap.lt_size ho)
  · intro b hb
    rw [List.mem_singleton.mp hb]
    cases q : s.heap.get? s.heap.objs.size with
    | none => rfl
    | some o' => exact absurd (Heap.lt_size q) (Nat.lt_irrefl _)
  · rintro i h ⟨⟨o', ho', hc', _⟩, _⟩ b hb o e
    rw [List.mem_singleton.mp hb, ho'] at e
    cases e
    rw [hc']; decide
  · rintro i h ⟨q, _⟩; exact ⟨_, _, q⟩
  · intro i v hi hv
    obtain ⟨d, hd, rd⟩ := rs.get' (k := i) (v := v) (by simpa using hv)
    show Rep s.heap v (ds.getD i .none)
    rw [List.getD_eq_getElem?_getD, hd]; exact rd
  · intro i hi
    show noL (ds.getD i .none) = true
    rw [List.getD_eq_getElem?_getD, List.getElem?_eq_getElem hi]
    exact hno _ (List.getElem_mem hi)

theorem iter_range {r : Addr} {n : Nat} {t u v : Tok} (hh : A.handled = none) (hr : IsRange s.heap r 0 n 1 t u v) (hn : n ≤ sizeLine) :
    wpAny (model prog w) A (pyIter (.ref r)) (fun it s₂ => Iters prog w A n (fun i => .int i) (fun _ _ => True) s it s₂) NoE s := by
  rw [sizeLine_eq] at hn
  refine wpAny_pyIter_range hr (small_one (by omega) (by omega) (by omega) (by omega)) ?_
  have e : Builtin.Range.rangeSize 0 n 1 = (n : Int) := by rw [rangeSize_nat]; simp
  rw [e]
  refine ⟨s.heap.objs.size, _, _, _, _, rfl, Walks.range hh s.heap.objs.size 0 1 n, ?_, ?_, Ext.push _ _ _, ?_, ?_, fun _ _ _ => trivial, ?_, fun _ _ => rfl⟩
  · show IsRangeIter _ _ _ _ _
    simpa using Heap.get?_push_size _ rfl
  · intro b hb
    rw [List.mem_singleton.mp hb, Heap.size_push]; exact Nat.lt_succ_self _
  · intro b hb
    rw [List.mem_singleton.mp hb]
    cases q : s.heap.get? s.heap.objs.size with
    | none => rfl
    | some o' => exact absurd (Heap.lt_size q) (Nat.lt_irrefl _)
  · rintro i h q b hb o e'
    have q' : h.get? s.heap.objs.size = some _ := q
    rw [List.mem_singleton.mp hb, q'] at e'
    cases e'
    exact (by decide : Value.type "range_iterator" ≠ Value.type "tuple")
  · rintro i x hi ⟨t, rfl⟩
    have : (0 : Int) + i * 1 = i := by omega
    rw [this]; exact .int _ _

theorem comp_block {elt target iter : PySem.Expr} {ifs : List PySem.Expr} {scope : Scope} {cl : List (Str × Addr)} {pos : Pos} {s₁ s₂ : Shared} {it : Value} {n : Nat} {src : Nat → PyData} {IT : Heap → Addr → Prop}
    {RR : Value → Addr → Result → Shared → Prop} {E : Value → Shared → Prop} (hI : Iters prog w A n src IT s₁ it s₂) (hsz : n ≤ sizeLine) (f : Nat → PyData) (p : Nat → Bool) (ρ : Nat → Str → Option PyData)
    (hcell : ∀ y ∈ scope.names, y.2 ≠ .cell) (hkind : scope.kind = .function) (hf : ∀ i, i < n → noL (f i) = true)
    (hlet : ∀ i v I s₃, i < n → Rep s₃.heap v (src i) → IT s₃.heap I → wpAny (model prog w) A (letOwnedTupleGo target (.ref I) v) (fun _ s₄ => s₄ = s₃) NoE s₃)
    (hasg : ∀ C i v s₃ m₂, i < n → Ext s₁ s₃ → Rep s₃.heap v (src i) → s₃.heap.Ns C m₂ → wpAny (model prog w) A (assign target (compEnvC scope cl C env) v) (fun _ s₄ => Stp C s₃ s₄ ∧ ∃ m₃, Loc C s₄.heap m₃ (ρ i)) NoE s₃)
    (htest : ∀ C i s₃ m₃, i < n → Ext s₁ s₃ → Loc C s₃.heap m₃ (ρ i) → wpAny (model prog w) A (tests ifs (compEnvC scope cl C env)) (fun ok s₄ => Ext s₃ s₄ ∧ ok = p i) NoE s₃)
    (helt : ∀ C i s₃ m₃, i < n → p i = true → Ext s₁ s₃ → Loc C s₃.heap m₃ (ρ i) → Ev prog w A (compEnvC scope cl C env) s₃ elt (f i))
    (hRR : ∀ D C s₃ m', s₁.heap.get? D = none → s₁.heap.get? C = none → D ≠ C → s₃.heap.Ns C m' → Rep s₃.heap (.ref D) (.list (((List.range n).filter p).map f)) → Ext s₁ s₃ → RR (.ref D) C (.ok .next) s₃) :
    wpAny (model prog w) A (newList []) (fun acc s₃ => wpAny (model prog w) A (newFunctionEnv scope env.globals cl [] env.qual none .none (some env)) (fun cenv s₄ =>
      codeAny (model prog w) A (.compStart (.ListComp elt [⟨target, iter, ifs, 0⟩] scope pos) 0 it acc { cenv with scope := relabel scope env }) (RR acc cenv.locals) s₄) E s₃) E s₂ := by
  obtain ⟨I, fp, wr, P, St, rfl, W, hst, hfp, hx, hwn, hwt, hIT, hP, hsn⟩ := hI
  obtain ⟨hup, hh₂, tk₂, rfl⟩ := hx
  refine wpAny_newObj_type (wpAny_newFunctionEnv hcell (by intro y hy; simp at hy) (fun h₁ hns₁ hsb₁ => ?_) hkind)
  dsimp only at hns₁ hsb₁ hst hfp hup ⊢
  generalize hH2 : hh₂.push { cls := .type "list", dict := none, data := .seq ([] : List Value).toArray } = H2 at hns₁ hsb₁ ⊢
  have hC : H2.objs.size = hh₂.objs.size + 1 := by rw [← hH2, Heap.size_push]
  have hDC : hh₂.objs.size ≠ H2.objs.size := by omega
  have old : ∀ b o, hh₂.get? b = some o → h₁.get? b = some o := fun b o e =>
    hsb₁.extBut b o (Nat.ne_of_lt (by rw [hC]; exact Nat.lt_succ_of_lt (Heap.lt_size e))) (Heap.get?_push_of_some _ (hH2 ▸ Heap.get?_push_of_some _ e))
  have hDf : hh₂.objs.size ∉ fp := fun hm => Nat.lt_irrefl _ (hfp _ hm)
  have hCf : H2.objs.size ∉ fp := fun hm => by have := hfp _ hm; rw [hC] at this; exact Nat.lt_irrefl _ (Nat.lt_of_succ_lt this)
  have hacc : h₁.PlainList hh₂.objs.size #[] := ⟨_, hsb₁.extBut _ _ hDC (Heap.get?_push_of_some _ (hH2 ▸ Heap.get?_push_size _ rfl))⟩
  have hst₁ : St 0 h₁ := W.frame _ _ _ hst fun b _ o e => old b o e
  have fresh : ∀ a, hh₂.objs.size ≤ a → s₁.heap.get? a = none := fun a ha => by
    cases e : s₁.heap.get? a with
    | none => rfl
    | some o' => exact absurd (Heap.lt_size (hup _ _ e)) (Nat.not_lt.mpr ha)
  have hD₁ := fresh _ (Nat.le_refl _)
  have hC₁ := fresh H2.objs.size (by omega)
  have loop : ∀ s₃ : Shared, s₃ = { s₁ with heap := h₁, toks := tk₂ + ([] : List (Str × Value)).length } →
      codeAny (model prog w) A (.compLoop (.ListComp elt [⟨target, iter, ifs, 0⟩] scope pos) 0 (.ref I) (.ref hh₂.objs.size) (compEnvC scope cl H2.objs.size env)) (RR (.ref hh₂.objs.size) H2.objs.size) s₃ := by
    rintro s₃ rfl
    have ext : ∀ s₄ : Shared, Kp H2.objs.size hh₂.objs.size wr { s₁ with heap := h₁, toks := tk₂ + ([] : List (Str × Value)).length } s₄ → Ext s₁ s₄ := fun s₄ hk =>
      ⟨fun b o e => hk.but b o (fun q => by subst q; rw [hC₁] at e; cases e) (fun q => by rw [hwn b q] at e; cases e) (fun q => by subst q; rw [hD₁] at e; cases e) (old b o (hup b o e)),
        let ⟨h, t, e⟩ := hk.eq; ⟨h, t, e⟩⟩
    refine comp_run (cenv := compEnvC scope cl H2.objs.size env) W f p ρ hDC hDf hCf hst₁ hacc hns₁ hf hwt (fun i v s₃ hi hv hk hs => ?_) (fun i v s₃ m₂ hi hv hk hn => ?_) (fun i s₃ m₃ hi hk hL => ?_) (fun i s₃ m₃ hi hp hk hL => ?_) (fun h' tk m' ys hn hl hr hk => ?_) hsz
    · exact hlet i v I s₃ hi ((hP i v hi hv).up (ext s₃ hk).up) (hIT _ _ hs)
    · exact hasg _ i v s₃ m₂ hi (ext s₃ hk) ((hP i v hi hv).up (ext s₃ hk).up) hn
    · exact htest _ i s₃ m₃ hi (ext s₃ hk) hL
    · exact helt _ i s₃ m₃ hi hp (ext s₃ hk) hL
    · exact hRR _ _ _ m' hD₁ hC₁ hDC hn (.list hl.isList hr) (ext _ hk)
  exact codeAny_compStart_list (loop _ rfl) (W.self 0 _ _ _ hst₁ (loop _ rfl))
end
end Mine

/-! part CR -/
namespace Mine
open PySem PySem.W PyProof.Rows PySem.Calls PySem.Spec

/-- a comprehension, described: its source, its target, its tests, its element -/
structure Cmp (prog : Program) (w : World) (A : Around) (env : Env) (s : Shared) (elt target iter : PySem.Expr) (ifs : List PySem.Expr) (scope : Scope) (cl : List (Str × Addr)) (n : Nat) (p : Nat → Bool) (f : Nat → PyData) : Prop where
  clos : closureFor scope env = pure cl
  cell : ∀ y ∈ scope.names, y.2 ≠ .cell
  kind : scope.kind = .function
  names : ∀ x ∈ scope.names, x.2 = .local → scope.names.lookup x.1 = some .local
  fold : ∀ x, foldedSetIterable iter env x = pure x
  size : n ≤ sizeLine
  flat : ∀ i, i < n → noL (f i) = true
  run : ∃ (src : Nat → PyData) (IT : Heap → Addr → Prop) (ρ : Nat → Str → Option PyData),
    (∀ s₁, Ext s s₁ → wpAny (model prog w) A (eval iter env) (fun xv s₂ => Ext s₁ s₂ ∧ wpAny (model prog w) A (pyIter xv) (fun it s₃ => Iters prog w A n src IT s₂ it s₃) NoE s₂) NoE s₁) ∧
    (∀ i v I s₃, i < n → Rep s₃.heap v (src i) → IT s₃.heap I → wpAny (model prog w) A (letOwnedTupleGo target (.ref I) v) (fun _ s₄ => s₄ = s₃) NoE s₃) ∧
    (∀ C i v s₃ m₂, i < n → Ext s s₃ → Rep s₃.heap v (src i) → s₃.heap.Ns C m₂ → wpAny (model prog w) A (assign target (compEnvC scope cl C env) v) (fun _ s₄ => Stp C s₃ s₄ ∧ ∃ m₃, Loc C s₄.heap m₃ (ρ i)) NoE s₃) ∧
    (∀ C i s₃ m₃, i < n → Ext s s₃ → Loc C s₃.heap m₃ (ρ i) → wpAny (model prog w) A (tests ifs (compEnvC scope cl C env)) (fun ok s₄ => Ext s₃ s₄ ∧ ok = p i) NoE s₃) ∧
    (∀ C i s₃ m₃, i < n → p i = true → Ext s s₃ → Loc C s₃.heap m₃ (ρ i) → Ev prog w A (compEnvC scope cl C env) s₃ elt (f i))

section
variable {prog : Program} {w : World} {A : Around} {s : Shared} {env : Env}

theorem ev_comp {elt target iter : PySem.Expr} {ifs : List PySem.Expr} {scope : Scope} {cl : List (Str × Addr)} {pos : Pos} {n : Nat} {p : Nat → Bool} {f : Nat → PyData} (c : Cmp prog w A env s elt target iter ifs scope cl n p f) :
    Ev prog w A env s (.ListComp elt [⟨target, iter, ifs, 0⟩] scope pos) (.list (((List.range n).filter p).map f)) := ⟨fun s₁ k => by
  obtain ⟨src, IT, ρ, hsrc, hlet, hasg, htest, helt⟩ := c.run
  rw [eval_ListComp]
  refine wpAny_comprehension_free (use := none) rfl c.fold c.clos c.kind c.names (wpAny_mono (hsrc s₁ k) (fun xv s₂ q => wpAny_mono q.2 (fun it s₃ hI => ?_) fun _ _ f => f) fun _ _ f => f)
  have k₂ := q.1
  refine comp_block (RR := fun acc C => compPost (model prog w) A NoE none _ acc C) hI c.size f p ρ c.cell c.kind c.flat hlet (fun C i v s₄ m₂ hi k₄ => hasg C i v s₄ m₂ hi ((k.trans k₂).trans k₄)) (fun C i s₄ m₃ hi k₄ => htest C i s₄ m₃ hi ((k.trans k₂).trans k₄))
    (fun C i s₄ m₃ hi hp k₄ => helt C i s₄ m₃ hi hp ((k.trans k₂).trans k₄)) fun D C s₄ m' hD hC hDC hn hr k₄ => ?_
  refine ⟨m', hn, fun h' hs' => ⟨⟨fun b o e => hs'.extBut b o (fun q => by subst q; rw [k₂.up _ _ e] at hC; cases hC) ((k₂.trans k₄).up b o e), ?_⟩, hr.but (noSeq_ns hn) fun b o q e => hs'.extBut b o q e⟩⟩
  obtain ⟨_, h, t, rfl⟩ := k₂.trans k₄
  exact ⟨h', t, rfl⟩⟩

theorem ex_assignComp {elt target iter : PySem.Expr} {ifs : List PySem.Expr} {scope : Scope} {cl : List (Str × Addr)} {pos spos py : Pos} {n : Nat} {p : Nat → Bool} {f : Nat → PyData} {y : Str} {rest : List Stmt}
    {m : Str → Option Value} {ρ₀ : Str → Option PyData} {Q : Flow → Shared → Prop} {E : Value → Shared → Prop}
    (hL : Loc env.locals s.heap m ρ₀) (c : Cmp prog w A env s elt target iter ifs scope cl n p f) (hk : env.scope.kind = .function) (hy : env.kindOf y = some .local)
    (hsw : swapsWith (.ListComp elt [⟨target, iter, ifs, 0⟩] scope pos) (some (.Name y py)) spos.line env = pure true)
    (h : ∀ s' v, Stp env.locals s s' → Loc env.locals s'.heap (upd m y v) (upd ρ₀ y (.list (((List.range n).filter p).map f))) → wpAny (model prog w) A (execs rest env) Q E s') :
    wpAny (model prog w) A (execs (.Assign [.Name y py] (.ListComp elt [⟨target, iter, ifs, 0⟩] scope pos) spos :: rest) env) Q E s := by
  obtain ⟨src, IT, ρ, hsrc, hlet, hasg, htest, helt⟩ := c.run
  refine wpAny_execs_cons ?_
  rw [exec_Assign_Name_used _ _ _ _ hsw]
  refine wpAny_bind (wpAny_standAt (wpAny_bind ?_))
  show wpAny _ A (do let _ ← comprehension (.ListComp elt [⟨target, iter, ifs, 0⟩] scope pos) scope env _ (newList []) false (eval iter env) (some (assign (.Name y py) env))) _ _ s
  refine wpAny_bind (wpAny_mono (wpAny_comprehension_free (use := some (assign (.Name y py) env)) (Q := fun _ s' => wpAny (model prog w) A (execs rest env) Q E s') (E := E) rfl c.fold c.clos c.kind c.names
    (wpAny_mono (hsrc s (Ext.refl s)) (fun xv s₂ q => wpAny_mono q.2 (fun it s₃ hI => ?_) fun _ _ f => f.elim) fun _ _ f => f.elim)) (fun _ s' hq => wpAny_pure (wpAny_pure hq)) fun _ _ e => e)
  have k₂ := q.1
  refine comp_block (RR := fun acc C => compPost (model prog w) A E (some (assign (.Name y py) env)) _ acc C) hI c.size f p ρ c.cell c.kind c.flat hlet (fun C i v s₄ m₂ hi k₄ => hasg C i v s₄ m₂ hi (k₂.trans k₄)) (fun C i s₄ m₃ hi k₄ => htest C i s₄ m₃ hi (k₂.trans k₄))
    (fun C i s₄ m₃ hi hp k₄ => helt C i s₄ m₃ hi hp (k₂.trans k₄)) fun D C s₄ m' hD hC hDC hn hr k₄ => ?_
  have k := k₂.trans k₄
  have hLC : env.locals ≠ C := by
    rintro rfl
    obtain ⟨o, _, _, ho, _⟩ := hL.ns
    rw [k₂.up _ _ ho] at hC; cases hC
  refine wpAny_assign_Name (wpAny_storeName_local hy (hL.ns.keeps k.up) (fun h₅ hn₅ hs₅ => ?_) (by rw [hk]; rfl))
  have L₅ := (hL.up k.up).set hr hn₅ hs₅
  have hnC : h₅.Ns C m' := hn.sameBut hs₅ (Ne.symm hLC)
  refine ⟨m', hnC, fun h₆ hs₆ => ?_⟩
  obtain ⟨hu, h₄, t₄, rfl⟩ := k
  refine h _ (.ref D) ⟨fun b o q e => hs₆.extBut b o (fun z => by subst z; rw [k₂.up _ _ e] at hC; cases hC) (hs₅.extBut b o q (hu b o e)), h₆, _, rfl⟩ ⟨L₅.ns.sameBut hs₆ hLC, fun x d e => ?_⟩
  obtain ⟨u, e1, r⟩ := L₅.var x d e
  exact ⟨u, e1, r.but (noSeq_ns hnC) fun b o q e => hs₆.extBut b o q e⟩
end
end Mine

/-! part CS -/
namespace Mine
open PySem PySem.W PyProof.Rows PySem.Calls PySem.Spec

abbrev Row : Type := Str × Str × Str
def textOf (r : Row) : Str := r.1 ++ r.2.1 ++ r.2.2

section
variable {prog : Program} {w : World} {A : Around} {s : Shared} {env : Env}

theorem asg_name {x : Str} {px : Pos} {v : Value} {d : PyData} {m : Str → Option Value} {ρ : Str → Option PyData} (hk : env.scope.kind = .function) (hx : env.kindOf x = some .local) (hL : Loc env.locals s.heap m ρ) (r : Rep s.heap v d) :
    wpAny (model prog w) A (assign (.Name x px) env v) (fun _ s₄ => Stp env.locals s s₄ ∧ Loc env.locals s₄.heap (upd m x v) (upd ρ x d)) NoE s :=
  wpAny_assign_Name (wpAny_storeName_local hx hL.ns (fun h' hn hs => ⟨⟨fun b o q e => hs.extBut b o q e, h', _, rfl⟩, hL.set r hn hs⟩) (by rw [hk]; rfl))

theorem asg_trip {a b c : Str} {pa pb pc tp : Pos} {kk : Nat} {v : Value} {d1 d2 d3 : PyData} {m : Str → Option Value} {ρ : Str → Option PyData} (hh : A.handled = none) (hk : env.scope.kind = .function)
    (ha : env.kindOf a = some .local) (hb : env.kindOf b = some .local) (hc : env.kindOf c = some .local) (hL : Loc env.locals s.heap m ρ) (r : Rep s.heap v (.tuple [d1, d2, d3])) :
    wpAny (model prog w) A (assign (.Tuple [.Name a pa, .Name b pb, .Name c pc] kk tp) env v) (fun _ s₄ => Stp env.locals s s₄ ∧ ∃ m₃, Loc env.locals s₄.heap m₃ (upd (upd (upd ρ a d1) b d2) c d3)) NoE s := by
  obtain ⟨t, vs, n, rfl, ht, rs⟩ := r.tuple_inv
  cases hv : vs.toList with
  | nil => rw [hv] at rs; cases rs
  | cons x vs1 =>
    rw [hv] at rs
    cases rs with
    | cons r1 rs1 =>
      cases vs1 with
      | nil => cases rs1
      | cons y vs2 =>
        cases rs1 with
        | cons r2 rs2 =>
          cases vs2 with
          | nil => cases rs2
          | cons z vs3 =>
            cases rs2 with
            | cons r3 rs3 =>
              cases rs3
              have hsz : vs.size = 3 := by rw [← Array.length_toList, hv]; rfl
              refine wpAny_assign_Tuple hh ⟨_, ht, rfl, _, rfl⟩ (by rw [hsz]; rfl) rfl fun h₁ he₁ => ?_
              rw [hv]
              have up₁ : Up s.heap h₁ := fun b o e => he₁ b o (Nat.ne_of_lt (Heap.lt_size e)) e
              show wpAny _ _ (assignInOrder [assign (.Name a pa) env, assign (.Name b pb) env, assign (.Name c pc) env] [x, y, z]) _ _ _
              have k₁ : Ext s { s with heap := h₁ } := ⟨up₁, h₁, s.toks, rfl⟩
              refine wpAny_assignInOrder_more (wpAny_mono (asg_name (s := { s with heap := h₁ }) hk ha (hL.up up₁) (r1.up up₁)) (fun _ s₂ q₂ => ?_) fun _ _ f => f)
              have b2 := r2.up up₁ |>.but (noSeq_ns (hL.up up₁).ns) q₂.1.but
              have b3 := r3.up up₁ |>.but (noSeq_ns (hL.up up₁).ns) q₂.1.but
              refine wpAny_assignInOrder_more (wpAny_mono (asg_name hk hb q₂.2 b2) (fun _ s₃ q₃ => ?_) fun _ _ f => f)
              have b3' := b3.but (noSeq_ns q₂.2.ns) q₃.1.but
              refine wpAny_assignInOrder_more (wpAny_mono (asg_name hk hc q₃.2 b3') (fun _ s₄ q₄ => ?_) fun _ _ f => f)
              exact wpAny_assignInOrder_none ⟨((k₁.stp _).trans q₂.1).trans (q₃.1.trans q₄.1), _, q₄.2⟩

theorem loc_none {C : Addr} {m : Str → Option Value} (hn : s.heap.Ns C m) : Loc C s.heap m (fun _ => none) := ⟨hn, fun x d e => by cases e⟩

/-- [lead + core + tail for lead, core, tail in ..] -/
theorem cmp_texts {iter : PySem.Expr} {scope : Scope} {p1 p2 p3 p4 p5 pa pb pc tp : Pos} {kk : Nat} {rows : List Row} (hh : A.handled = none) (hit : Ev prog w A env s iter (.list (rows.map trip)))
    (hclos : closureFor scope env = pure []) (hcell : ∀ y ∈ scope.names, y.2 ≠ .cell) (hkind : scope.kind = .function) (hnames : ∀ x ∈ scope.names, x.2 = .local → scope.names.lookup x.1 = some .local)
    (hfold : ∀ x, foldedSetIterable iter env x = pure x) (hsz : rows.length ≤ sizeLine) (hlen : ∀ r ∈ rows, r.1.length + r.2.1.length + r.2.2.length ≤ sizeLine)
    (h1 : ∀ C, (compEnvC scope [] C env).kindOf (Str.ofString "lead") = some .local) (h2 : ∀ C, (compEnvC scope [] C env).kindOf (Str.ofString "core") = some .local) (h3 : ∀ C, (compEnvC scope [] C env).kindOf (Str.ofString "tail") = some .local) :
    Cmp prog w A env s (.BinOp (.BinOp (.Name (Str.ofString "lead") p1) .Add (.Name (Str.ofString "core") p2) p3) .Add (.Name (Str.ofString "tail") p4) p5)
      (.Tuple [.Name (Str.ofString "lead") pa, .Name (Str.ofString "core") pb, .Name (Str.ofString "tail") pc] kk tp) iter [] scope [] rows.length (fun _ => true) (fun i => .str (textOf (rows.getD i default))) where
  clos := hclos
  cell := hcell
  kind := hkind
  names := hnames
  fold := hfold
  size := hsz
  flat := fun _ _ => rfl
  run := by
    have hsrc : ∀ i, i < rows.length → (rows.map trip).getD i PyData.none = trip (rows.getD i default) := fun i hi => by
      rw [List.getD_eq_getElem?_getD, List.getElem?_map, List.getElem?_eq_getElem hi, List.getD_eq_getElem?_getD, List.getElem?_eq_getElem hi]; rfl
    have hmem : ∀ i, i < rows.length → rows.getD i default ∈ rows := fun i hi => by
      rw [List.getD_eq_getElem?_getD, List.getElem?_eq_getElem hi]; exact List.getElem_mem hi
    refine ⟨fun i => (rows.map trip).getD i .none, fun h I => ∃ l j, h.IsListIter I l j,
      fun i => upd (upd (upd (fun _ => none) (Str.ofString "lead") (.str (rows.getD i default).1)) (Str.ofString "core") (.str (rows.getD i default).2.1)) (Str.ofString "tail") (.str (rows.getD i default).2.2), ?_, ?_, ?_, ?_, ?_⟩
    · intro s₁ k
      refine hit.use k fun v s₂ k₂ r => ⟨k₂, ?_⟩
      have := iter_list (prog := prog) (w := w) hh r (by intro d hd; obtain ⟨q, _, rfl⟩ := List.mem_map.mp hd; rfl)
      rw [List.length_map] at this
      exact this
    · rintro i v I s₃ hi r ⟨l, j, hI⟩
      replace r : Rep s₃.heap v (trip (rows.getD i default)) := by rw [← hsrc i hi]; exact r
      rw [trip] at r
      obtain ⟨t, vs, n, rfl, _⟩ := r.tuple_inv
      exact wpAny_letOwnedTupleGo_listiter hI rfl
    · intro C i v s₃ m₂ hi k r hn
      replace r : Rep s₃.heap v (trip (rows.getD i default)) := by rw [← hsrc i hi]; exact r
      rw [trip] at r
      exact asg_trip (env := compEnvC scope [] C env) hh hkind (h1 C) (h2 C) (h3 C) (loc_none hn) r
    · intro C i s₃ m₃ hi k hL
      exact wpAny_tests_nil ⟨Ext.refl _, rfl⟩
    · intro C i s₃ m₃ hi _ k hL
      have hm := hlen _ (hmem i hi)
      have e1 : Ev prog w A (compEnvC scope [] C env) s₃ (.Name (Str.ofString "lead") p1) (.str (rows.getD i default).1) := ev_var (env := compEnvC scope [] C env) hL hkind (h1 C) rfl rfl
      have e2 : Ev prog w A (compEnvC scope [] C env) s₃ (.Name (Str.ofString "core") p2) (.str (rows.getD i default).2.1) := ev_var (env := compEnvC scope [] C env) hL hkind (h2 C) rfl rfl
      have e3 : Ev prog w A (compEnvC scope [] C env) s₃ (.Name (Str.ofString "tail") p4) (.str (rows.getD i default).2.2) := ev_var (env := compEnvC scope [] C env) hL hkind (h3 C) rfl rfl
      exact ev_addS (ev_addS e1 e2 (by omega)) e3 (by rw [Str.length_append]; omega)

theorem texts_eq (rows : List Row) : ((List.range rows.length).filter (fun _ => true)).map (fun i => PyData.str (textOf (rows.getD i default))) = (rows.map textOf).map PyData.str := by
  rw [List.filter_eq_self.mpr (fun _ _ => rfl)]
  apply List.ext_getElem
  · simp
  · intro i h1 h2
    simp only [List.length_map, List.length_range] at h1
    simp [List.getD_eq_getElem?_getD, List.getElem?_eq_getElem h1]
end
end Mine

/-! part FL -/
namespace Mine
open PySem PySem.W PyProof.Rows PySem.Calls PySem.Spec

/-- only what stands at L and at l has been changed -/
structure Stp2 (L l : Addr) (s s' : Shared) : Prop where
  but : ∀ b o, b ≠ L → b ≠ l → s.heap.get? b = some o → s'.heap.get? b = some o
  eq : ∃ h tk, s' = { s with heap := h, toks := tk }
theorem Stp.two {L : Addr} {s s' : Shared} (a : Stp L s s') (l : Addr) : Stp2 L l s s' := ⟨fun b o q _ e => a.but b o q e, a.eq⟩
theorem Stp.two' {l : Addr} {s s' : Shared} (a : Stp l s s') (L : Addr) : Stp2 L l s s' := ⟨fun b o _ q e => a.but b o q e, a.eq⟩
theorem Stp2.trans {L l : Addr} {s₁ s₂ s₃ : Shared} (a : Stp2 L l s₁ s₂) (b : Stp2 L l s₂ s₃) : Stp2 L l s₁ s₃ := by
  obtain ⟨k, h, t, rfl⟩ := a
  obtain ⟨k', h', t', rfl⟩ := b
  exact ⟨fun b o n q e => k' b o n q (k b o n q e), h', t', rfl⟩
/-- behind a base that does not hold l -/
theorem Stp2.after {L l : Addr} {s₀ s₁ s₂ : Shared} (a : Stp L s₀ s₁) (b : Stp2 L l s₁ s₂) (hl : s₀.heap.get? l = none) : Stp L s₀ s₂ := by
  obtain ⟨k, h, t, rfl⟩ := a
  obtain ⟨k', h', t', rfl⟩ := b
  exact ⟨fun b o n e => k' b o n (fun q => by subst q; rw [hl] at e; cases e) (k b o n e), h', t', rfl⟩

/-- the frame's names that a loop does not turn, read in the heap ahead of the loop -/
structure LocB (L : Addr) (base h : Heap) (m : Str → Option Value) (ρ : Str → Option PyData) : Prop where
  ns : h.Ns L m
  var : ∀ x d, ρ x = some d → ∃ v, m x = some v ∧ Rep base v d
theorem LocB.loc {L : Addr} {s₀ s : Shared} {m m₀ : Str → Option Value} {ρ : Str → Option PyData} (a : LocB L s₀.heap s.heap m ρ) (st : Stp L s₀ s) (hn : s₀.heap.Ns L m₀) : Loc L s.heap m ρ :=
  ⟨a.ns, fun x d e => let ⟨v, e1, r⟩ := a.var x d e; ⟨v, e1, r.but (noSeq_ns hn) st.but⟩⟩
theorem Loc.add {L : Addr} {h : Heap} {m : Str → Option Value} {ρ : Str → Option PyData} {x : Str} {v : Value} {d : PyData} (a : Loc L h m ρ) (e : m x = some v) (r : Rep h v d) : Loc L h m (upd ρ x d) :=
  ⟨a.ns, fun y d' q => by
    by_cases hy : y = x
    · subst hy; rw [upd_self] at q; cases q; exact ⟨v, e, r⟩
    · rw [upd_ne hy] at q; exact a.var y d' q⟩
theorem LocB.set {L : Addr} {base h h' : Heap} {m : Str → Option Value} {ρ : Str → Option PyData} {x : Str} {v : Value} (a : LocB L base h m ρ) (hn : h'.Ns L (upd m x v)) (hx : ρ x = none) : LocB L base h' (upd m x v) ρ :=
  ⟨hn, fun y d e => by
    have hy : y ≠ x := fun q => by subst q; rw [hx] at e; cases e
    rw [upd_ne hy]; exact a.var y d e⟩
theorem LocB.at {L : Addr} {base h h' : Heap} {m : Str → Option Value} {ρ : Str → Option PyData} (a : LocB L base h m ρ) (hn : h'.Ns L m) : LocB L base h' m ρ := ⟨hn, a.var⟩

section
variable {prog : Program} {w : World} {A : Around} {env : Env} {E : Value → Shared → Prop} {Q : Flow → Shared → Prop}

/-- nm.append(e) -/
theorem ex_append {s : Shared} {nm : Str} {e : PySem.Expr} {d : PyData} {p1 p2 p3 p4 : Pos} {rest : List Stmt} {l : Addr} {ys : Array Value} {m : Str → Option Value} (hk : env.scope.kind = .function) (hx : env.kindOf nm = some .local)
    (hd : (nm == ("__debug__" : Str)) = false) (hn : s.heap.Ns env.locals m) (hv : m nm = some (.ref l)) (hl : s.heap.PlainList l ys) (hsz : ys.size ≤ sizeLine) (he : Ev prog w A env s e d) (hf : noL d = true)
    (hs : starEach [e] env = [(false, eval e env)]) (hline : (p2.endLine == p3.line) = true) (hi : interactive env = false)
    (hsw : swapsWith (.Call (.Attribute (.Name nm p1) (Str.ofString "append") p2) [e] [] p3) none p4.line env = pure false)
    (h : ∀ s' v, Stp2 l l s s' → s'.heap.PlainList l (ys.push v) → Rep s'.heap v d → UpT s.heap s'.heap → wpAny (model prog w) A (execs rest env) Q E s') :
    wpAny (model prog w) A (execs (.Expr (.Call (.Attribute (.Name nm p1) (Str.ofString "append") p2) [e] [] p3) p4 :: rest) env) Q E s := by
  refine wpAny_execs_cons (wpAny_Expr ?_ hi hsw)
  refine Call_method1 rfl hs hline (wpAny_Name (wpAny_loadName_local hk hx hn hv ?_) hd)
  obtain ⟨n, ho⟩ := id hl
  refine ⟨"list", "list.append", F.plainAttrs_list, PySem.slot_list_append, F.type_list_append, ⟨_, ho, rfl⟩, (fun a q => by cases q; exact ⟨_, ho, rfl⟩), ?_⟩
  refine callWith_builtin rfl (evalArgs_plain (spliced_cons (he.use (Ext.refl s) fun v s₁ k r => spliced_nil ?_)))
  have hl₁ : s₁.heap.PlainList l ys := hl.at fun o e => k.up _ o e
  refine wpAny_list_append_plain (hsz := hsz) hl₁ fun h₂ hl₂ hs₂ => ?_
  have T : UpT s₁.heap h₂ := fun b o _ _ hc hs' q => hs₂.extBut b o (fun z => by
    subst z
    obtain ⟨n', ho'⟩ := hl₁
    rw [ho'] at q; cases q
    exact absurd (show Value.type "list" = Value.type "tuple" from hc) (by decide)) q
  obtain ⟨hu, h₁, t₁, rfl⟩ := k
  exact h _ v ⟨fun b o q _ e => hs₂.extBut b o q (hu b o e), h₂, _, rfl⟩ hl₂ (r.upT T hf) fun b o vs n hc hs' q => T b o vs n hc hs' (hu b o q)

theorem for_run {x : Str} {xp : Pos} {body : List Stmt} {I L l : Addr} {fp wr : List Addr} {n : Nat} {P : Nat → Value → Prop} {St : Nat → Heap → Prop} {s s₀ : Shared} {nm : Str} {src : Nat → PyData} {T : Nat → List PyData}
    {ρ : Str → Option PyData} {m m₀ : Str → Option Value} {ys : Array Value} {R : Result → Shared → Prop} (J : Nat → Prop) (hJ : J 0) (hLe : env.locals = L) (W : Walks prog w A I fp wr n P St) (hLf : L ∉ fp) (hlf : l ∉ fp) (hst : St 0 s.heap) (hwn : ∀ b ∈ wr, s₀.heap.get? b = none)
    (hwt : ∀ i h, St i h → ∀ b ∈ wr, ∀ o, h.get? b = some o → o.cls ≠ .type "tuple") (hP : ∀ i v, i < n → P i v → Rep s₀.heap v (src i))
    (hk : env.scope.kind = .function) (hx : env.kindOf x = some .local) (hxn : x ≠ nm) (hρx : ρ x = none) (hρn : ρ nm = none) (hnT : ∀ i, i ≤ n → noLs (T i) = true)
    (hpre : s₀.heap.Ns L m₀) (hl₀ : s₀.heap.get? l = none) (st : Stp L s₀ s) (hB : LocB L s₀.heap s.heap m ρ) (hm : m nm = some (.ref l)) (hl : s.heap.PlainList l ys) (hr : RepL s.heap ys.toList (T 0))
    (turn : ∀ i s₁ m₁ ys₁ v, i < n → J i → Stp L s₀ s₁ → LocB L s₀.heap s₁.heap m₁ ρ → m₁ nm = some (.ref l) → m₁ x = some v → Rep s₁.heap v (src i) → s₁.heap.PlainList l ys₁ → RepL s₁.heap ys₁.toList (T i) →
      wpAny (model prog w) A (execs body env) (fun f s₂ => match f with
        | .next | .cont => J (i + 1) ∧ Stp2 L l s₁ s₂ ∧ ∃ m₂ ys₂, LocB L s₀.heap s₂.heap m₂ ρ ∧ m₂ nm = some (.ref l) ∧ s₂.heap.PlainList l ys₂ ∧ RepL s₂.heap ys₂.toList (T (i + 1))
        | .brk => False
        | .ret u => R (.ok (.ret u)) s₂) NoE s₁)
    (done : ∀ s₁ m₁ ys₁, J n → Stp L s₀ s₁ → LocB L s₀.heap s₁.heap m₁ ρ → m₁ nm = some (.ref l) → s₁.heap.PlainList l ys₁ → RepL s₁.heap ys₁.toList (T n) → R (.ok .next) s₁) :
    codeAny (model prog w) A (.forLoop (.Name x xp) (.ref I) body [] env) R s := by
  have hLw : L ∉ wr := fun q => hLf (W.sub _ q)
  have hlw : l ∉ wr := fun q => hlf (W.sub _ q)
  have stab : ∀ (i : Nat) (s₁ : Shared) (h₂ : Heap) (tk : Nat), St i s₁.heap → (∀ b o, b ∉ wr → s₁.heap.get? b = some o → h₂.get? b = some o) → Stp L s₀ s₁ → Stp L s₀ { s₁ with heap := h₂, toks := tk } := by
    rintro i s₁ h₂ tk hs hk ⟨hb, h, t, rfl⟩
    exact ⟨fun b o q e => hk b o (fun z => by rw [hwn b z] at e; cases e) (hb b o q e), h₂, tk, rfl⟩
  refine codeAny_forLoop (fun k s' => ∃ i m' ys', J i ∧ St i s'.heap ∧ Stp L s₀ s' ∧ LocB L s₀.heap s'.heap m' ρ ∧ m' nm = some (.ref l) ∧ s'.heap.PlainList l ys' ∧ RepL s'.heap ys'.toList (T i) ∧ i ≤ n ∧ k = n + 1 - i) ?_ (n + 1)
    ⟨0, m, ys, hJ, hst, st, hB, hm, hl, hr, Nat.zero_le _, rfl⟩
  rintro k s' ⟨i, m', ys', hJi, hst', st', hB', hm', hl', hr', hi, rfl⟩
  have T' : ∀ h₂ : Heap, (∀ b o, b ∉ wr → s'.heap.get? b = some o → h₂.get? b = some o) → UpT s'.heap h₂ := fun h₂ hk b o _ _ hc hs q => hk b o (fun z => hwt i _ hst' b z o q hc) q
  by_cases hlt : i < n
  · refine W.item i _ _ _ hlt hst' fun v h₁ tk₁ hPv hst₁ hk₁ => ?_
    have st₁ := stab i s' h₁ tk₁ hst' hk₁ st'
    have hn₁ : h₁.Ns env.locals m' := by rw [hLe]; exact hB'.ns.at' fun o e => hk₁ _ o hLw e
    have hl₁ : h₁.PlainList l ys' := hl'.at fun o e => hk₁ _ o hlw e
    have hr₁ : RepL h₁ ys'.toList (T i) := hr'.upT (T' h₁ hk₁) (hnT i hi)
    refine wpAny_assign_Name (wpAny_storeName_local hx hn₁ (fun h₂ hn₂ hs₂ => ?_) (by rw [hk]; rfl))
    rw [hLe] at hn₂ hs₂
    rw [hLe] at hn₁
    have hLl : l ≠ L := fun q => by
      subst q
      obtain ⟨o, _, _, ho, hd, _⟩ := hn₁
      obtain ⟨n', ho'⟩ := hl₁
      rw [ho] at ho'; cases ho'; cases hd
    have st₂ : Stp L s₀ { s' with heap := h₂, toks := tk₁ + 1 } := st₁.trans ⟨fun b o q e => hs₂.extBut b o q e, h₂, _, rfl⟩
    have hB₂ : LocB L s₀.heap h₂ (upd m' x v) ρ := hB'.set hn₂ hρx
    have hl₂ : h₂.PlainList l ys' := hl₁.extBut hs₂.extBut hLl
    have hr₂ : RepL h₂ ys'.toList (T i) := hr₁.but (noSeq_ns hn₁) fun b o q e => hs₂.extBut b o q e
    have rv : Rep h₂ v (src i) := (hP i v hlt hPv).but (noSeq_ns hpre) st₂.but
    have hst₂ : St (i + 1) h₂ := W.frame _ _ _ hst₁ fun b hb o e => hs₂.extBut b o (fun q => hLf (q ▸ hb)) e
    refine wpAny_mono (turn i _ (upd m' x v) ys' v hlt hJi st₂ hB₂ (by rw [upd_ne (Ne.symm hxn)]; exact hm') upd_self rv hl₂ hr₂) (fun f s₃ q => ?_) fun _ _ f => f.elim
    have fin : (J (i + 1) ∧ Stp2 L l { s' with heap := h₂, toks := tk₁ + 1 } s₃ ∧ ∃ m₂ ys₂, LocB L s₀.heap s₃.heap m₂ ρ ∧ m₂ nm = some (.ref l) ∧ s₃.heap.PlainList l ys₂ ∧ RepL s₃.heap ys₂.toList (T (i + 1))) →
        ∃ k, k < n + 1 - i ∧ ∃ i m' ys', J i ∧ St i s₃.heap ∧ Stp L s₀ s₃ ∧ LocB L s₀.heap s₃.heap m' ρ ∧ m' nm = some (.ref l) ∧ s₃.heap.PlainList l ys' ∧ RepL s₃.heap ys'.toList (T i) ∧ i ≤ n ∧ k = n + 1 - i := by
      rintro ⟨hJ', st₃, m₂, ys₂, hB₃, hm₃, hl₃, hr₃⟩
      exact ⟨n + 1 - (i + 1), by omega, i + 1, m₂, ys₂, hJ', W.frame _ _ _ hst₂ fun b hb o e => st₃.but b o (fun q => hLf (q ▸ hb)) (fun q => hlf (q ▸ hb)) e, st₃.after st₂ hl₀, hB₃, hm₃, hl₃, hr₃, hlt, rfl⟩
    cases f with
    | next => exact fin q
    | cont => exact fin q
    | brk => exact q.elim
    | ret u => exact q
  · have hin : i = n := by omega
    subst hin
    refine W.done _ _ _ hst' fun h₁ tk₁ hk₁ => ?_
    refine wpAny_execs_nil (done _ m' ys' hJi (stab i s' h₁ tk₁ hst' hk₁ st') (hB'.at (hB'.ns.at' fun o e => hk₁ _ o hLw e)) hm' (hl'.at fun o e => hk₁ _ o hlw e) (hr'.upT (T' h₁ hk₁) (hnT i hi)))
end
end Mine

/-! part FM -/
namespace Mine
open PySem PySem.W PyProof.Rows PySem.Calls PySem.Spec

section
variable {prog : Program} {w : World} {A : Around} {env : Env} {E : Value → Shared → Prop} {Q : Flow → Shared → Prop}

/-- range(e) -/
theorem ev_range {s : Shared} {mg mb : Str → Option Value} {g : Heap} {e : PySem.Expr} {p pos : Pos} {n : Nat} (G : Gd mg mb g) (hg : Up g s.heap) (hk : env.scope.kind = .function) (hx : env.kindOf (Str.ofString "range") = some .globalImplicit)
    (hgl : env.globals = mainGlobals) (hbl : env.builtins = builtinsNs) (he : Ev prog w A env s e (.int n)) (hs : starEach [e] env = (false, eval e env) :: starEach [] env) :
    ∀ s₁, Ext s s₁ → wpAny (model prog w) A (eval (.Call (.Name (Str.ofString "range") p) [e] [] pos) env) (fun v s₂ => Ext s₁ s₂ ∧ ∃ r t u x, v = .ref r ∧ IsRange s₂.heap r 0 n 1 t u x) NoE s₁ := fun s₁ k => by
  refine wpAny_Call_ofName (Name_function_global hk hx (loadGlobal_builtin (by rw [hgl]; exact (G.ng.keeps hg).keeps k.up) G.range0 (by rw [hbl]; exact (G.nb.keeps hg).keeps k.up) G.range1 ?_) (by decide +kernel))
  refine callWith_type1 ?_ hs rfl
  refine (EvL.cons he hs .nil).use k fun vs s₂ k₂ r => ?_
  cases r with
  | cons r q =>
    cases q
    obtain ⟨t, rfl⟩ := r.int_inv
    exact call_range_1 ⟨k₂.trans (Ext.push _ _ _), _, _, _, _, rfl, IsRange.new ..⟩

theorem ex_forName {x y : Str} {xp yp pos : Pos} {body rest : List Stmt} {L l : Addr} {s s₀ : Shared} {nm : Str} {ds : List PyData} {T : Nat → List PyData}
    {ρ : Str → Option PyData} {m m₀ : Str → Option Value} {ys : Array Value} (J : Nat → Prop) (hJ : J 0) (hh : A.handled = none) (hLe : env.locals = L)
    (hk : env.scope.kind = .function) (hx : env.kindOf x = some .local) (hy : env.kindOf y = some .local) (hyd : (y == ("__debug__" : Str)) = false) (hxn : x ≠ nm) (hρx : ρ x = none) (hρn : ρ nm = none) (hρy : ρ y = some (.list ds))
    (hnT : ∀ i, i ≤ ds.length → noLs (T i) = true)
    (hpre : s₀.heap.Ns L m₀) (hl₀ : s₀.heap.get? l = none) (st : Stp L s₀ s) (hB : LocB L s₀.heap s.heap m ρ) (hm : m nm = some (.ref l)) (hl : s.heap.PlainList l ys) (hr : RepL s.heap ys.toList (T 0))
    (turn : ∀ i s₁ m₁ ys₁ v, i < ds.length → J i → Stp L s₀ s₁ → LocB L s₀.heap s₁.heap m₁ ρ → m₁ nm = some (.ref l) → m₁ x = some v → Rep s₁.heap v (ds.getD i .none) → s₁.heap.PlainList l ys₁ → RepL s₁.heap ys₁.toList (T i) →
      wpAny (model prog w) A (execs body env) (fun f s₂ => match f with
        | .next | .cont => J (i + 1) ∧ Stp2 L l s₁ s₂ ∧ ∃ m₂ ys₂, LocB L s₀.heap s₂.heap m₂ ρ ∧ m₂ nm = some (.ref l) ∧ s₂.heap.PlainList l ys₂ ∧ RepL s₂.heap ys₂.toList (T (i + 1))
        | .brk => False
        | .ret u => Q (.ret u) s₂) NoE s₁)
    (done : ∀ s₁ m₁ ys₁, J ds.length → Stp L s₀ s₁ → LocB L s₀.heap s₁.heap m₁ ρ → m₁ nm = some (.ref l) → s₁.heap.PlainList l ys₁ → RepL s₁.heap ys₁.toList (T ds.length) → wpAny (model prog w) A (execs rest env) Q E s₁) :
    wpAny (model prog w) A (execs (.For (.Name x xp) (.Name y yp) body [] pos :: rest) env) Q E s := by
  obtain ⟨u, hu, ru⟩ := hB.var y _ hρy
  obtain ⟨a, vs, rfl, ha, rs⟩ := ru.list_inv
  have hlen : vs.size = ds.length := by simpa using rs.length
  refine wpAny_execs_cons (wpAny_For (wpAny_Name (wpAny_loadName_local hk hy (by rw [hLe]; exact hB.ns) hu ?_) hyd))
  obtain ⟨o, ho, hc, n₁, hd⟩ := id ha
  have haL : a ≠ L := fun q => by subst q; exact noSeq_ns hpre _ ho _ _ hd
  have has : s.heap.IsList a vs := ⟨o, st.but _ _ haL ho, hc, n₁, hd⟩
  have hal : a ≠ l := fun q => by subst q; rw [hl₀] at ho; cases ho
  refine wpAny_pyIter_list has ?_
  have hsl : l < s.heap.objs.size := let ⟨_, e⟩ := hl; Heap.lt_size e
  have hsL : L < s.heap.objs.size := hB.ns.lt
  have hsa : a < s.heap.objs.size := Heap.lt_size (st.but _ _ haL ho)
  have hup : Up s.heap (s.heap.push { cls := .type "list_iterator", data := .fields #[.ref a, .int 0 0] }) := fun b o e => Heap.get?_push_of_some _ e
  have ext : Stp L s { s with heap := s.heap.push { cls := .type "list_iterator", data := .fields #[.ref a, .int 0 0] } } := ⟨fun b o _ e => hup b o e, _, s.toks, rfl⟩
  refine for_run (s₀ := s₀) (T := T) (src := fun i => ds.getD i .none) (ρ := ρ) (m := m) (nm := nm) (l := l) J hJ hLe (hlen ▸ Walks.list hh s.heap.objs.size a (Nat.ne_of_lt hsa) vs) ?_ ?_ ⟨⟨_, Heap.get?_push_size _ rfl, rfl, rfl⟩, has.push _⟩ ?_ ?_ ?_ hk hx hxn hρx hρn hnT hpre hl₀ (st.trans ext)
    (hB.at (hB.ns.keeps hup)) hm (hl.at fun o e => hup _ o e) (hr.up hup) turn done
  · intro q
    rcases List.mem_cons.mp q with q | q
    · exact absurd hsL (by rw [q]; exact Nat.lt_irrefl _)
    · exact haL (List.mem_singleton.mp q).symm
  · intro q
    rcases List.mem_cons.mp q with q | q
    · exact absurd hsl (by rw [q]; exact Nat.lt_irrefl _)
    · exact hal (List.mem_singleton.mp q).symm
  · intro b hb
    rw [List.mem_singleton.mp hb]
    cases q : s₀.heap.get? s.heap.objs.size with
    | none => rfl
    | some o' => exact absurd (Heap.lt_size (st.but _ _ (Nat.ne_of_gt hsL) q)) (Nat.lt_irrefl _)
  · rintro i h ⟨⟨o', ho', hc', _⟩, _⟩ b hb o e
    rw [List.mem_singleton.mp hb, ho'] at e
    cases e
    rw [hc']; decide
  · intro i v hi hv
    obtain ⟨d, hd', rd⟩ := rs.get' (k := i) (v := v) (by simpa using hv)
    show Rep s₀.heap v (ds.getD i .none)
    rw [List.getD_eq_getElem?_getD, hd']; exact rd

theorem ex_forRange {x : Str} {xp pos : Pos} {iter : PySem.Expr} {body rest : List Stmt} {L l : Addr} {s s₀ : Shared} {nm : Str} {n : Nat} {T : Nat → List PyData}
    {ρ : Str → Option PyData} {m m₀ : Str → Option Value} {ys : Array Value} (J : Nat → Prop) (hJ : J 0) (hh : A.handled = none) (hLe : env.locals = L)
    (hk : env.scope.kind = .function) (hx : env.kindOf x = some .local) (hxn : x ≠ nm) (hρx : ρ x = none) (hρn : ρ nm = none) (hsz : n ≤ sizeLine)
    (hit : wpAny (model prog w) A (eval iter env) (fun v s₂ => Ext s s₂ ∧ ∃ r t u x, v = .ref r ∧ IsRange s₂.heap r 0 n 1 t u x) NoE s) (hfold : ∀ x, foldedSetIterable iter env x = pure x)
    (hnT : ∀ i, i ≤ n → noLs (T i) = true)
    (hpre : s₀.heap.Ns L m₀) (hl₀ : s₀.heap.get? l = none) (st : Stp L s₀ s) (hB : LocB L s₀.heap s.heap m ρ) (hm : m nm = some (.ref l)) (hl : s.heap.PlainList l ys) (hr : RepL s.heap ys.toList (T 0))
    (turn : ∀ i s₁ m₁ ys₁ v, i < n → J i → Stp L s₀ s₁ → LocB L s₀.heap s₁.heap m₁ ρ → m₁ nm = some (.ref l) → m₁ x = some v → Rep s₁.heap v (.int i) → s₁.heap.PlainList l ys₁ → RepL s₁.heap ys₁.toList (T i) →
      wpAny (model prog w) A (execs body env) (fun f s₂ => match f with
        | .next | .cont => J (i + 1) ∧ Stp2 L l s₁ s₂ ∧ ∃ m₂ ys₂, LocB L s₀.heap s₂.heap m₂ ρ ∧ m₂ nm = some (.ref l) ∧ s₂.heap.PlainList l ys₂ ∧ RepL s₂.heap ys₂.toList (T (i + 1))
        | .brk => False
        | .ret u => Q (.ret u) s₂) NoE s₁)
    (done : ∀ s₁ m₁ ys₁, J n → Stp L s₀ s₁ → LocB L s₀.heap s₁.heap m₁ ρ → m₁ nm = some (.ref l) → s₁.heap.PlainList l ys₁ → RepL s₁.heap ys₁.toList (T n) → wpAny (model prog w) A (execs rest env) Q E s₁) :
    wpAny (model prog w) A (execs (.For (.Name x xp) iter body [] pos :: rest) env) Q E s := by
  refine wpAny_execs_cons (wpAny_For (wpAny_mono hit (fun v s₂ q => ?_) fun _ _ f => f.elim) hfold)
  obtain ⟨k₂, r, t, u, z, rfl, hrg⟩ := q
  rw [sizeLine_eq] at hsz
  refine wpAny_pyIter_range hrg (small_one (by omega) (by omega) (by omega) (by omega)) ?_
  have e : Builtin.Range.rangeSize 0 n 1 = (n : Int) := by rw [rangeSize_nat]; simp
  rw [e]
  have hl₂ : s₂.heap.PlainList l ys := hl.at fun o e => k₂.up _ o e
  have hB₂ := hB.ns.keeps k₂.up
  have hsl : l < s₂.heap.objs.size := let ⟨_, e⟩ := hl₂; Heap.lt_size e
  have hsL : L < s₂.heap.objs.size := hB₂.lt
  have st₂ : Stp L s₀ s₂ := st.trans (k₂.stp L)
  have hup : Up s₂.heap (s₂.heap.push { cls := .type "range_iterator", data := .fields #[rawInt 0, rawInt n, rawInt 1] }) := fun b o e => Heap.get?_push_of_some _ e
  have ext : Stp L s₂ { s₂ with heap := s₂.heap.push { cls := .type "range_iterator", data := .fields #[rawInt 0, rawInt n, rawInt 1] } } := ⟨fun b o _ e => hup b o e, _, s₂.toks, rfl⟩
  refine for_run (s₀ := s₀) (T := T) (src := fun i => .int i) (ρ := ρ) (m := m) (nm := nm) (l := l) J hJ hLe (Walks.range hh s₂.heap.objs.size 0 1 n) ?_ ?_ ?_ ?_ ?_ ?_ hk hx hxn hρx hρn hnT hpre hl₀ (st₂.trans ext)
    (hB.at (hB₂.keeps hup)) hm (hl₂.at fun o e => hup _ o e) ((hr.up k₂.up).up hup) turn done
  · intro q; exact absurd hsL (by rw [List.mem_singleton.mp q]; exact Nat.lt_irrefl _)
  · intro q; exact absurd hsl (by rw [List.mem_singleton.mp q]; exact Nat.lt_irrefl _)
  · show IsRangeIter _ _ _ _ _
    simpa using Heap.get?_push_size _ rfl
  · intro b hb
    rw [List.mem_singleton.mp hb]
    cases q : s₀.heap.get? s₂.heap.objs.size with
    | none => rfl
    | some o' => exact absurd (Heap.lt_size (st₂.but _ _ (Nat.ne_of_gt hsL) q)) (Nat.lt_irrefl _)
  · rintro i h q b hb o e'
    have q' : h.get? s₂.heap.objs.size = some _ := q
    rw [List.mem_singleton.mp hb, q'] at e'
    cases e'
    exact (by decide : Value.type "range_iterator" ≠ Value.type "tuple")
  · rintro i x hi ⟨t, rfl⟩
    have : (0 : Int) + i * 1 = i := by omega
    rw [this]; exact .int _ _
end

section
variable {prog : Program} {w : World} {A : Around} {env : Env} {E : Value → Shared → Prop} {Q : Flow → Shared → Prop} {s : Shared} {m : Str → Option Value} {ρ : Str → Option PyData}
/-- nm = [..], a list of the frame's own -/
theorem ex_newList {nm : Str} {p' pos spos : Pos} {es : List PySem.Expr} {ds : List PyData} {rest : List Stmt} (hn : s.heap.Ns env.locals m) (he : EvL prog w A env s es ds) (hk : env.scope.kind = .function) (hx : env.kindOf nm = some .local)
    (hsw : swapsWith (.List es pos) (some (.Name nm p')) spos.line env = pure false) (hsz : ds.length ≤ sizeLine)
    (h : ∀ s' l vs, s.heap.get? l = none → Stp env.locals s s' → s'.heap.Ns env.locals (upd m nm (.ref l)) → s'.heap.PlainList l vs → RepL s'.heap vs.toList ds → wpAny (model prog w) A (execs rest env) Q E s') :
    wpAny (model prog w) A (execs (.Assign [.Name nm p'] (.List es pos) spos :: rest) env) Q E s := by
  refine wpAny_execs_cons (wpAny_Assign_Name (wpAny_List (he.use (Ext.refl s) fun vs s₁ k r => ⟨by rw [r.length]; exact hsz, ?_⟩)) hsw)
  have hup : Up s₁.heap (s₁.heap.push { cls := .type "list", data := .seq vs.toArray }) := fun b o e => Heap.get?_push_of_some _ e
  have hn₁ := (hn.keeps k.up).keeps hup
  refine wpAny_storeName_local hx hn₁ (fun h' hn' hs => ?_) (by rw [hk]; rfl)
  have hlL : s₁.heap.objs.size ≠ env.locals := Nat.ne_of_gt (hn.keeps k.up).lt
  refine h _ s₁.heap.objs.size vs.toArray ?_ ((k.stp _).trans ⟨fun b o q e => hs.extBut b o q (hup b o e), h', _, rfl⟩) hn' ⟨0, hs.extBut _ _ hlL (Heap.get?_push_size _ rfl)⟩ ?_
  · cases q : s.heap.get? s₁.heap.objs.size with
    | none => rfl
    | some o' => exact absurd (Heap.lt_size (k.up _ _ q)) (Nat.lt_irrefl _)
  · exact (by simpa using (r.up hup).but (noSeq_ns hn₁) fun b o q e => hs.extBut b o q e)
theorem plain_ne {h : Heap} {l L : Addr} {ys : Array Value} {m : Str → Option Value} (hp : h.PlainList l ys) (hn : h.Ns L m) : l ≠ L := fun q => by
  subst q
  obtain ⟨n, ho⟩ := hp
  exact noSeq_ns hn _ ho _ _ rfl
theorem Loc.base {L : Addr} (a : Loc L s.heap m ρ) : LocB L s.heap s.heap m ρ := ⟨a.ns, a.var⟩
end

/-! a call of a def with a cell -/
section
variable {prog : Program} {w : World} {A : Around} {s : Shared}
theorem call_pureC {fa : Addr} {o : Obj} {fd : FuncData} {body : List Stmt} {vals : List Value} {binds : List (Str × Value)} {d : PyData}
    (hroom : A.depth < recursionLimit) (ho : s.heap.get? fa = some o) (hdata : o.data = .func fd) (hlim : s.heap.NoLimit) (hcd : s.heap.CodeRec fd.code fd.qualname)
    (hbody : fd.body = .stmts body) (hbind : bindArgs fd ⟨vals, []⟩ = pure binds) (hclo : fd.closure = [])
    (hkind : ∀ x ∈ binds, fd.scope.names.lookup x.1 = some .local ∨ (fd.scope.names.lookup x.1 = some .cell ∧ ((cellsFrom (s.heap.objs.size + 1) fd.scope.names []).lookup x.1).isSome = true))
    (hco : fd.scope.isCoroutine = false) (hgen : fd.scope.isGenerator = false) (hk : fd.scope.kind = .function)
    (h : ∀ s₁, InCallC s s.heap.objs.size (bindL (callEnvC fd s.heap.objs.size fa).kindOf binds fun _ => none) (callEnvC fd s.heap.objs.size fa).cells (bindC (callEnvC fd s.heap.objs.size fa).kindOf binds fun _ => none) s₁ → Ext s s₁ →
      wpAny (model prog w) (A.deeper (callEnvC fd s.heap.objs.size fa)) (execs body (callEnvC fd s.heap.objs.size fa)) (fun f s' => ∃ v, f = .ret v ∧ Stp s.heap.objs.size s₁ s' ∧ Rep s'.heap v d) NoE s₁) :
    wpAny (model prog w) A (call (.ref fa) vals) (fun v s' => Ext s s' ∧ Rep s'.heap v d) NoE s := by
  refine wpAny_call (codeAny_call_cells hroom ho hdata hlim hcd hbody hbind hclo hkind (fun s₁ hI => ?_) hco hgen hk)
  have k₁ : Ext s s₁ := ⟨hI.toInCall.keep, hI.toInCall.same⟩
  refine wpAny_mono (h s₁ hI k₁) (fun f s' q => ?_) fun _ _ f => f.elim
  obtain ⟨v, rfl, st, r⟩ := q
  refine ⟨⟨fun b o e => st.but b o (Nat.ne_of_lt (Heap.lt_size e)) (k₁.up b o e), ?_⟩, r⟩
  obtain ⟨_, h₁, t₁, rfl⟩ := k₁
  obtain ⟨_, h', tk, rfl⟩ := st
  exact ⟨h', tk, rfl⟩
end
end Mine

/-! part DU -/
namespace Mine
open PySem PySem.W PyProof.Rows PySem.Calls PySem.Spec

structure RowsOk (rows : List Row) : Prop where
  len : rows.length ≤ 40
  each : ∀ r ∈ rows, r.1.length + r.2.1.length + r.2.2.length ≤ 20
  ok : ∀ r ∈ rows, PyData.strOk r.1 = true ∧ PyData.strOk r.2.1 = true ∧ PyData.strOk r.2.2 = true

def nb (r : Row) : Bool := r.2.1.cps.toList != (Str.ofString "").cps.toList
def rowAt (rows : List Row) (i : Nat) : Row := rows.getD i default
def fullL (rows : List Row) : List Nat := (List.range rows.length).filter fun i => nb (rowAt rows i)
def textsL (rows : List Row) (e : Nat) : List Str := (rows.take e).map textOf ++ [(rowAt rows e).1 ++ (rowAt rows e).2.1]
def headOf (rows : List Row) (e k : Nat) : Str := (rowAt rows k).2.1 ++ (if k < e then (rowAt rows k).2.2 else Str.ofString "")
def early (rows : List Row) (e k : Nat) : Bool := decide (k < e) && nb (rowAt rows (k + 1))
def itemAt (rows : List Row) (e k : Nat) : Str × Str := (headOf rows e k, Txt.join nl ((textsL rows e).drop (k + 2)))
def lastItem (rows : List Row) (e k : Nat) : Str × Str := (Str.ofString "", Txt.join nl ([headOf rows e k] ++ (textsL rows e).drop (k + 1)))
def dueGo (rows : List Row) (e : Nat) : List Nat → List (Str × Str) → List (Str × Str)
  | [], acc => acc
  | k :: ks, acc => if early rows e k = true then acc ++ [lastItem rows e k] else dueGo rows e ks (acc ++ [itemAt rows e k])
def endOf (rows : List Row) : Nat := (fullL rows).getD ((fullL rows).length - 1) 0
def dueF (rows : List Row) : List (Str × Str) :=
  if fullL rows = [] then [(Str.ofString "", Str.ofString "")] else dueGo rows (endOf rows) (fullL rows) []

section
variable {rows : List Row}
theorem rowAt_mem {i : Nat} (h : i < rows.length) : rowAt rows i ∈ rows := by
  unfold rowAt; rw [List.getD_eq_getElem?_getD, List.getElem?_eq_getElem h]; exact List.getElem_mem h
theorem trip_at {i : Nat} (h : i < rows.length) : (rows.map trip)[i]? = some (trip (rowAt rows i)) := by
  unfold rowAt; rw [List.getElem?_map, List.getD_eq_getElem?_getD, List.getElem?_eq_getElem h]; rfl
theorem full_lt {k : Nat} (h : k ∈ fullL rows) : k < rows.length := List.mem_range.mp (List.mem_filter.mp h).1
theorem endOf_mem (h : fullL rows ≠ []) : endOf rows ∈ fullL rows := by
  have : (fullL rows).length - 1 < (fullL rows).length := by have := List.length_pos_iff.mpr h; omega
  unfold endOf; rw [List.getD_eq_getElem?_getD, List.getElem?_eq_getElem this]; exact List.getElem_mem this
theorem texts_len {e : Nat} (R : RowsOk rows) (he : e < rows.length) : (textsL rows e).length = e + 1 := by
  unfold textsL; rw [List.length_append, List.length_map, List.length_take]; simp; omega
theorem texts_all {e : Nat} (R : RowsOk rows) (he : e < rows.length) : ∀ z ∈ textsL rows e, z.length ≤ 20 ∧ PyData.strOk z = true := by
  intro z hz
  unfold textsL at hz
  rcases List.mem_append.mp hz with hz | hz
  · obtain ⟨r, hr, rfl⟩ := List.mem_map.mp hz
    have hm := List.mem_of_mem_take hr
    obtain ⟨o1, o2, o3⟩ := R.ok r hm
    exact ⟨by have := R.each r hm; unfold textOf; rw [Str.length_append, Str.length_append]; exact this, strOk_append (strOk_append o1 o2) o3⟩
  · rw [List.mem_singleton.mp hz]
    have hm := rowAt_mem he
    obtain ⟨o1, o2, o3⟩ := R.ok _ hm
    exact ⟨by have := R.each _ hm; rw [Str.length_append]; omega, strOk_append o1 o2⟩
theorem head_all {e k : Nat} (R : RowsOk rows) (hk : k < rows.length) : (headOf rows e k).length ≤ 20 ∧ PyData.strOk (headOf rows e k) = true := by
  have hm := rowAt_mem hk
  obtain ⟨o1, o2, o3⟩ := R.ok _ hm
  have := R.each _ hm
  have e0 : (Str.ofString "").length = 0 := by decide +kernel
  unfold headOf
  split
  · exact ⟨by rw [Str.length_append]; omega, strOk_append o2 o3⟩
  · exact ⟨by rw [Str.length_append]; omega, strOk_append o2 (by decide +kernel)⟩
theorem depth_ints (l : List Nat) : (PyData.list (l.map fun (i : Nat) => PyData.int i)).depth ≤ 64 := by
  have : PyData.depthAll (l.map fun (i : Nat) => PyData.int i) = 0 := by
    induction l with
    | nil => rfl
    | cons a r ih => rw [List.map_cons, PyData.depthAll, ih]; rfl
  rw [PyData.depth, this]; decide
theorem eqv_nil (l : List Nat) : PyData.eqv (.list (l.map fun (i : Nat) => PyData.int i)) (.list []) = l.isEmpty := by
  cases l <;> simp [PyData.eqv, PyData.eqvAll]
theorem noLs_pairs (l : List (Str × Str)) : noLs (l.map pair) = true := noLs_map fun _ _ => rfl
end

section
variable {prog : Program} {w : World} {A : Around} {s : Shared} {mg mb : Str → Option Value} {env : Env} {rows : List Row}

theorem ev_row {e : PySem.Expr} {p q : Pos} {k : Nat} (hr : ∀ p, Ev prog w A env s (.Name (Str.ofString "rows") p) (.list (rows.map trip))) (R : RowsOk rows) (he : Ev prog w A env s e (.int k)) (hk : k < rows.length)
    (hs : ∀ v u, subscripted e false v u = operate [v, u] (getItem v u)) : Ev prog w A env s (.Subscript (.Name (Str.ofString "rows") p) e q) (trip (rowAt rows k)) :=
  ev_subL (hr p) he (Int.natCast_nonneg k) (by rw [Int.toNat_natCast]; exact trip_at hk) (by have := R.len; rw [List.length_map, sizeLine_eq]; omega) hs
theorem ev_row0 {e : PySem.Expr} {q p : Pos} {j : Nat} {r : Row} (h : Ev prog w A env s e (trip r)) : Ev prog w A env s (.Subscript e (.Constant (.int 0) j q) p) (.str r.1) :=
  ev_subT h ev_int (by decide) rfl (by simp [sizeLine_eq]) (fun _ _ => rfl)
theorem ev_row1 {e : PySem.Expr} {q p : Pos} {j : Nat} {r : Row} (h : Ev prog w A env s e (trip r)) : Ev prog w A env s (.Subscript e (.Constant (.int 1) j q) p) (.str r.2.1) :=
  ev_subT h ev_int (by decide) rfl (by simp [sizeLine_eq]) (fun _ _ => rfl)
theorem ev_row2 {e : PySem.Expr} {q p : Pos} {j : Nat} {r : Row} (h : Ev prog w A env s e (trip r)) : Ev prog w A env s (.Subscript e (.Constant (.int 2) j q) p) (.str r.2.2) :=
  ev_subT h ev_int (by decide) rfl (by simp [sizeLine_eq]) (fun _ _ => rfl)
theorem tst_nb {e : PySem.Expr} {q p a b : Pos} {j j' : Nat} {r : Row} (h : Ev prog w A env s e (trip r)) :
    Tst prog w A env s (.Compare (.Subscript e (.Constant (.int 1) j q) p) [.NotEq] [.Constant (.str (Str.ofString "")) j' a] b) (nb r) :=
  tst_neS (ev_row1 h) (ev_str (by decide +kernel)) rfl

theorem cell_but {L c : Addr} {v : Option Value} {s s' : Shared} (h : s.heap.IsCell c v) (st : Stp L s s') (hc : c ≠ L) : s'.heap.IsCell c v := let ⟨o, ho, hd⟩ := h; ⟨o, st.but _ _ hc ho, hd⟩

end
end Mine

/-! part DV -/
namespace Mine
open PySem PySem.W PyProof.Rows PySem.Calls PySem.Spec

section
variable {prog : Program} {w : World} {A : Around} {s : Shared} {mg mb : Str → Option Value} {rows : List Row}

/-- [k for k in range(len(rows)) if rows[k][1] != ''] -/
theorem cmp_full {g : Heap} {pm cd : Value} {L fa : Addr} {rv : Value} {p1 p2 p3 p4 p5 p6 p7 p8 p9 p10 p11 p12 p13 p14 : Pos} {scope : Scope} (hh : A.handled = none) (G : Gd mg mb g) (hg : Up g s.heap) (R : RowsOk rows)
    (hc : s.heap.IsCell (L + 1) (some rv)) (hrv : Rep s.heap rv (.list (rows.map trip)))
    (hclos : closureFor scope (callEnvC (fdAt 4 pm cd) L fa) = pure [(Str.ofString "rows", L + 1)]) (hcell : ∀ y ∈ scope.names, y.2 ≠ .cell) (hkind : scope.kind = .function) (hnames : ∀ x ∈ scope.names, x.2 = .local → scope.names.lookup x.1 = some .local)
    (h1 : ∀ C, (compEnvC scope [(Str.ofString "rows", L + 1)] C (callEnvC (fdAt 4 pm cd) L fa)).kindOf (Str.ofString "k") = some .local)
    (h2 : ∀ C, (compEnvC scope [(Str.ofString "rows", L + 1)] C (callEnvC (fdAt 4 pm cd) L fa)).kindOf (Str.ofString "rows") = some .cell) :
    Cmp prog w A (callEnvC (fdAt 4 pm cd) L fa) s (.Name (Str.ofString "k") p1) (.Name (Str.ofString "k") p2)
      (.Call (.Name (Str.ofString "range") p3) [.Call (.Name (Str.ofString "len") p4) [.Name (Str.ofString "rows") p5] [] p6] [] p7)
      [.Compare (.Subscript (.Subscript (.Name (Str.ofString "rows") p8) (.Name (Str.ofString "k") p9) p10) (.Constant (.int 1) 0 p11) p12) [.NotEq] [.Constant (.str (Str.ofString "")) 0 p13] p14]
      scope [(Str.ofString "rows", L + 1)] rows.length (fun i => nb (rowAt rows i)) (fun i => .int i) where
  clos := hclos
  cell := hcell
  kind := hkind
  names := hnames
  fold := fun _ => rfl
  size := by have := R.len; rw [sizeLine_eq]; omega
  flat := fun _ _ => rfl
  run := by
    have hn : rows.length ≤ sizeLine := by have := R.len; rw [sizeLine_eq]; omega
    refine ⟨fun i => .int i, fun _ _ => True, fun i => upd (fun _ => none) (Str.ofString "k") (.int i), ?_, ?_, ?_, ?_, ?_⟩
    · intro s₁ k
      have hr : Ev prog w A (callEnvC (fdAt 4 pm cd) L fa) s (.Name (Str.ofString "rows") p5) (.list (rows.map trip)) := ev_cell rfl rfl rfl rfl hc hrv
      refine wpAny_mono (ev_range G hg rfl rfl rfl rfl ((ev_len G hg rfl rfl rfl rfl hr (by rw [List.length_map]; exact hn) rfl).cast (by rw [List.length_map])) rfl s₁ k) (fun v s₂ q => ?_) fun _ _ f => f
      obtain ⟨k₂, r, t, u, x, rfl, hrg⟩ := q
      exact ⟨k₂, iter_range hh hrg hn⟩
    · intro i v I s₃ hi r _
      obtain ⟨t, rfl⟩ := r.int_inv
      exact wpAny_pure rfl
    · intro C i v s₃ m₂ hi k r hn'
      exact wpAny_mono (asg_name (env := compEnvC scope _ C (callEnvC (fdAt 4 pm cd) L fa)) hkind (h1 C) (loc_none hn') r) (fun _ s₄ q => ⟨q.1, _, q.2⟩) fun _ _ f => f
    · intro C i s₃ m₃ hi k hL
      refine wpAny_tests_one ?_
      have hr : ∀ p, Ev prog w A (compEnvC scope [(Str.ofString "rows", L + 1)] C (callEnvC (fdAt 4 pm cd) L fa)) s₃ (.Name (Str.ofString "rows") p) (.list (rows.map trip)) := fun p =>
        ev_cell (env := compEnvC scope _ C (callEnvC (fdAt 4 pm cd) L fa)) hkind (h2 C) rfl rfl (hc.keeps k.up) (hrv.up k.up)
      have hk : Ev prog w A (compEnvC scope [(Str.ofString "rows", L + 1)] C (callEnvC (fdAt 4 pm cd) L fa)) s₃ (.Name (Str.ofString "k") p9) (.int i) := ev_var (env := compEnvC scope _ C (callEnvC (fdAt 4 pm cd) L fa)) hL hkind (h1 C) rfl rfl
      exact (tst_nb (ev_row hr R hk hi (fun _ _ => rfl))).use (Ext.refl _) fun s₄ k₄ => ⟨k₄, rfl⟩
    · intro C i s₃ m₃ hi hp k hL
      exact ev_var (env := compEnvC scope _ C (callEnvC (fdAt 4 pm cd) L fa)) hL hkind (h1 C) rfl rfl

set_option maxHeartbeats 1000000 in
theorem due_body {g : Heap} {pm cd : Value} {L fa : Addr} {rv : Value} {m : Str → Option Value} (hh : A.handled = none) (hu : A.units + 64 < cLine) (R : RowsOk rows) (G : Gd mg mb g) (hg : Up g s.heap) (hgL : g.get? L = none)
    (hn : s.heap.Ns L m) (hc : s.heap.IsCell (L + 1) (some rv)) (hrv : Rep s.heap rv (.list (rows.map trip))) :
    wpAny (model prog w) A (execs (defAt 4).2.2.1 (callEnvC (fdAt 4 pm cd) L fa)) (fun f s' => ∃ v, f = .ret v ∧ Stp L s s' ∧ Rep s'.heap v (.list ((dueF rows).map pair))) NoE s := by
  have hcL : L + 1 ≠ L := Nat.succ_ne_self L
  have hemp : PyData.strOk (Str.ofString "") = true := by decide +kernel
  have hsz : rows.length ≤ sizeLine := by have := R.len; rw [sizeLine_eq]; omega
  have hfl : (fullL rows).length ≤ rows.length := by
    have := List.length_filter_le (fun i => nb (rowAt rows i)) (List.range rows.length)
    rw [List.length_range] at this; exact this
  refine ex_assignComp (env := callEnvC (fdAt 4 pm cd) L fa) (loc_none hn) (cmp_full hh G hg R hc hrv rfl (by decide) rfl (by decide) (fun _ => rfl) (fun _ => rfl)) rfl rfl rfl fun s₁ v₁ st₁ L₁ => ?_
  have hc₁ := cell_but hc st₁ hcL
  have hrv₁ := hrv.but (noSeq_ns hn) st₁.but
  have hf₁ : ∀ p, Ev prog w A (callEnvC (fdAt 4 pm cd) L fa) s₁ (.Name (Str.ofString "full") p) (.list ((fullL rows).map fun (i : Nat) => .int i)) := fun p => ev_var L₁ rfl rfl rfl rfl
  refine ex_if (b := (fullL rows).isEmpty) ?_ fun s₂ k₂ => ?_
  · refine Tst.cast ?_ (eqv_nil (fullL rows))
    refine tst_eqD (hf₁ _) ?_ rfl (depth_ints _) (by decide) hu
    exact ev_list .nil (by simp)
  by_cases h0 : fullL rows = []
  · have hb : (fullL rows).isEmpty = true := by rw [h0]; rfl
    have hd : dueF rows = [(Str.ofString "", Str.ofString "")] := if_pos h0
    rw [hb, if_pos rfl, hd]
    refine ex_return (d := .list [.tuple [.str (Str.ofString ""), .str (Str.ofString "")]]) ?_ fun s₃ v k₃ r => ?_
    · refine ev_list (.cons ?_ rfl .nil) (by simp [sizeLine_eq])
      exact ev_tuple (.cons (ev_str hemp) rfl (.cons (ev_str hemp) rfl .nil)) (by simp [sizeLine_eq])
    · exact ⟨v, rfl, st₁.trans ((k₂.trans k₃).stp L), r⟩
  have hb : (fullL rows).isEmpty = false := by
    cases h : fullL rows with
    | nil => exact absurd h h0
    | cons a r => rfl
  rw [hb, if_neg Bool.false_ne_true]
  refine ex_done ?_
  have hem := endOf_mem h0
  have hel := full_lt hem
  have hd : dueF rows = dueGo rows (endOf rows) (fullL rows) [] := if_neg h0
  rw [hd]
  have htl := texts_len R hel
  have hta := texts_all R hel
  generalize hE : endOf rows = e at *
  have hlast : ((fullL rows).map fun (i : Nat) => PyData.int i)[((fullL rows).map fun (i : Nat) => PyData.int i).length - 1]? = some (.int e) := by
    rw [List.length_map, List.getElem?_map, ← hE]
    unfold endOf
    have : (fullL rows).length - 1 < (fullL rows).length := by have := List.length_pos_iff.mpr h0; omega
    rw [List.getD_eq_getElem?_getD, List.getElem?_eq_getElem this]; rfl
  refine ex_assign (env := callEnvC (fdAt 4 pm cd) L fa) (d := .int e) (L₁.up k₂.up) ?_ rfl rfl rfl fun s₃ v₃ st₃ L₃ => ?_
  · exact ev_lastL ((hf₁ _).mono k₂) (ev_negI ev_int) hlast (fun _ _ => rfl)
  have st03 : Stp L s s₃ := (st₁.trans (k₂.stp L)).trans st₃
  have hc₃ := cell_but hc st03 hcL
  have hrv₃ := hrv.but (noSeq_ns hn) st03.but
  have hr₃ : ∀ p, Ev prog w A (callEnvC (fdAt 4 pm cd) L fa) s₃ (.Name (Str.ofString "rows") p) (.list (rows.map trip)) := fun p => ev_cell rfl rfl rfl rfl hc₃ hrv₃
  have he₃ : ∀ p, Ev prog w A (callEnvC (fdAt 4 pm cd) L fa) s₃ (.Name (Str.ofString "end") p) (.int e) := fun p => ev_var L₃ rfl rfl rfl rfl
  refine ex_assign (env := callEnvC (fdAt 4 pm cd) L fa) (d := .list ((textsL rows e).map PyData.str)) L₃ ?_ rfl rfl rfl fun s₄ v₄ st₄ L₄ => ?_
  · refine Ev.cast (d := .list ((((rows.take e).map textOf).map PyData.str) ++ [.str ((rowAt rows e).1 ++ (rowAt rows e).2.1)])) ?_ (by rw [textsL, List.map_append]; rfl)
    refine ev_addL ?_ ?_ (by have := R.len; simp [sizeLine_eq]; omega)
    · refine Ev.cast ?_ (congrArg PyData.list (texts_eq (rows.take e)))
      refine ev_comp (cmp_texts hh ?_ rfl (by decide) rfl (by decide) (fun _ => rfl) ?_ ?_ (fun _ => rfl) (fun _ => rfl) (fun _ => rfl))
      · exact (ev_upto (n := e) (hr₃ _) (he₃ _) (by rw [List.length_map]; exact hsz)).cast (by rw [List.map_take])
      · rw [List.length_take]; omega
      · intro r hr'; have := R.each r (List.mem_of_mem_take hr'); rw [sizeLine_eq]; omega
    · refine ev_list (.cons ?_ rfl .nil) (by simp [sizeLine_eq])
      have := R.each _ (rowAt_mem hel)
      exact ev_addS (ev_row0 (ev_row hr₃ R (he₃ _) hel (fun _ _ => rfl))) (ev_row1 (ev_row hr₃ R (he₃ _) hel (fun _ _ => rfl))) (by rw [sizeLine_eq]; omega)
  have st04 : Stp L s s₄ := st03.trans st₄
  refine ex_newList (env := callEnvC (fdAt 4 pm cd) L fa) (ds := []) L₄.ns .nil rfl rfl rfl (by simp) fun s₅ l vs₅ hl₅ st₅ hn₅ hp₅ hr₅ => ?_
  have hc₄ := cell_but hc st04 hcL
  have hrv₄ := hrv.but (noSeq_ns hn) st04.but
  refine ex_forName (env := callEnvC (fdAt 4 pm cd) L fa) (s₀ := s₄) (l := l) (nm := Str.ofString "due") (ds := (fullL rows).map fun (i : Nat) => .int i) (T := fun i => (((fullL rows).take i).map (itemAt rows e)).map pair)
    (fun i => dueGo rows e (fullL rows) [] = dueGo rows e ((fullL rows).drop i) (((fullL rows).take i).map (itemAt rows e))) (by rfl) hh rfl rfl rfl rfl rfl (by decide +kernel) rfl rfl rfl (fun i _ => noLs_pairs _) L₄.ns hl₅ st₅
    (L₄.base.set hn₅ rfl) upd_self hp₅ hr₅ ?_ ?_
  · intro i s₆ m₆ ys₆ v₆ hi hJ st₆ B₆ hm₆ hk₆ rk₆ hp₆ hr₆
    rw [List.length_map] at hi
    have hgi : (fullL rows)[i]? = some ((fullL rows)[i]) := List.getElem?_eq_getElem hi
    have hkm : (fullL rows)[i] ∈ fullL rows := List.getElem_mem hi
    have hdrop : (fullL rows).drop i = (fullL rows)[i] :: (fullL rows).drop (i + 1) := List.drop_eq_getElem_cons hi
    have htake : (fullL rows).take (i + 1) = (fullL rows).take i ++ [(fullL rows)[i]] := by rw [List.take_add_one, hgi]; rfl
    have hklt := full_lt hkm
    replace rk₆ : Rep s₆.heap v₆ (.int ((fullL rows)[i] : Nat)) := by
      rw [List.getD_eq_getElem?_getD, List.getElem?_map, hgi] at rk₆; exact rk₆
    rw [htake]
    rw [hdrop] at hJ
    generalize (fullL rows)[i] = k at *
    have hys : ys₆.size ≤ 40 := by
      have e1 := hr₆.length
      rw [List.length_map, List.length_map, List.length_take] at e1
      have := R.len
      simp at e1; omega
    have rdue : Rep s₆.heap (.ref l) (.list ((((fullL rows).take i).map (itemAt rows e)).map pair)) := .list hp₆.isList hr₆
    have L₆ := ((B₆.loc st₆ L₄.ns).add hk₆ rk₆).add hm₆ rdue
    have hc₆ := cell_but hc₄ st₆ hcL
    have hrv₆ := hrv₄.but (noSeq_ns L₄.ns) st₆.but
    have hr6 : ∀ p, Ev prog w A (callEnvC (fdAt 4 pm cd) L fa) s₆ (.Name (Str.ofString "rows") p) (.list (rows.map trip)) := fun p => ev_cell rfl rfl rfl rfl hc₆ hrv₆
    have hk6 : ∀ p, Ev prog w A (callEnvC (fdAt 4 pm cd) L fa) s₆ (.Name (Str.ofString "k") p) (.int k) := fun p => ev_var L₆ rfl rfl rfl rfl
    have he6 : ∀ p, Ev prog w A (callEnvC (fdAt 4 pm cd) L fa) s₆ (.Name (Str.ofString "end") p) (.int e) := fun p => ev_var L₆ rfl rfl rfl rfl
    have hea := R.each _ (rowAt_mem hklt)
    have hha := head_all (e := e) R hklt
    refine ex_assign (env := callEnvC (fdAt 4 pm cd) L fa) (d := .str (headOf rows e k)) L₆ ?_ rfl rfl rfl fun s₇ v₇ st₇ L₇ => ?_
    · refine ev_addS (a := (rowAt rows k).2.1) (b := if k < e then (rowAt rows k).2.2 else Str.ofString "") ?_ ?_ ?_
      · exact ev_row1 (ev_row hr6 R (hk6 _) hklt (fun _ _ => rfl))
      · refine ev_ifexp (c := decide (k < e)) ?_ (fun h => ?_) (fun h => ?_)
        · exact (tst_ltI (hk6 _) (he6 _) rfl).cast (by simp)
        · rw [if_pos (of_decide_eq_true h)]
          exact ev_row2 (ev_row hr6 R (hk6 _) hklt (fun _ _ => rfl))
        · rw [if_neg (of_decide_eq_false h)]
          exact ev_str hemp
      · have := hha.1
        unfold headOf at this
        rw [Str.length_append] at this
        rw [sizeLine_eq]; omega
    have hc₇ := cell_but hc₆ st₇ hcL
    have hrv₇ := hrv₆.but (noSeq_ns L₆.ns) st₇.but
    have hr7 : ∀ p, Ev prog w A (callEnvC (fdAt 4 pm cd) L fa) s₇ (.Name (Str.ofString "rows") p) (.list (rows.map trip)) := fun p => ev_cell rfl rfl rfl rfl hc₇ hrv₇
    have hk7 : ∀ p, Ev prog w A (callEnvC (fdAt 4 pm cd) L fa) s₇ (.Name (Str.ofString "k") p) (.int k) := fun p => ev_var L₇ rfl rfl rfl rfl
    have he7 : ∀ p, Ev prog w A (callEnvC (fdAt 4 pm cd) L fa) s₇ (.Name (Str.ofString "end") p) (.int e) := fun p => ev_var L₇ rfl rfl rfl rfl
    have hh7 : ∀ p, Ev prog w A (callEnvC (fdAt 4 pm cd) L fa) s₇ (.Name (Str.ofString "head") p) (.str (headOf rows e k)) := fun p => ev_var L₇ rfl rfl rfl rfl
    have ht7 : ∀ p, Ev prog w A (callEnvC (fdAt 4 pm cd) L fa) s₇ (.Name (Str.ofString "texts") p) (.list ((textsL rows e).map PyData.str)) := fun p => ev_var L₇ rfl rfl rfl rfl
    have htsz : ((textsL rows e).map PyData.str).length ≤ sizeLine := by rw [List.length_map, htl]; have := R.len; rw [sizeLine_eq]; omega
    have hnl : PyData.strOk nl = true := by decide +kernel
    refine ex_if (b := early rows e k) ?_ fun s₈ k₈ => ?_
    · refine tst_and (x := decide (k < e)) ?_ (fun h => ?_) (fun h => ?_)
      · exact (tst_ltI (hk7 _) (he7 _) rfl).cast (by simp)
      · unfold early
        rw [h, Bool.true_and]
        have hlt := of_decide_eq_true h
        exact tst_nb (ev_row hr7 R ((ev_addI (hk7 _) ev_int).cast (by simp)) (by omega) (fun _ _ => rfl))
      · unfold early; rw [h]; rfl
    cases hearly : early rows e k with
    | true =>
      rw [if_pos rfl]
      refine ex_return (d := .list (((((fullL rows).take i).map (itemAt rows e)).map pair) ++ [pair (lastItem rows e k)])) ?_ fun s₉ v k₉ r => ?_
      · refine ev_addL (b := [pair (lastItem rows e k)]) ?_ ?_ (by rw [← hr₆.length, List.length_singleton, sizeLine_eq]; simp; omega)
        · exact Ev.mono (ev_var L₇ rfl rfl rfl rfl) k₈
        · refine ev_list (.cons ?_ rfl .nil) (by simp [sizeLine_eq])
          refine ev_tuple (.cons (ev_str hemp) rfl (.cons ?_ rfl .nil)) (by simp [sizeLine_eq])
          have hall : ∀ z ∈ [headOf rows e k] ++ (textsL rows e).drop (k + 1), z.length ≤ 20 ∧ PyData.strOk z = true := fun z hz => by
            rcases List.mem_append.mp hz with hz | hz
            · rw [List.mem_singleton.mp hz]; exact hha
            · exact hta z (List.mem_of_mem_drop hz)
          refine ev_meth1 F.slot_str_join F.type_str_join (x := nl) (d := .list (([headOf rows e k] ++ (textsL rows e).drop (k + 1)).map PyData.str)) (ev_str hnl) ?_ ?_ rfl rfl rfl
          · refine Ev.cast (d := .list ([.str (headOf rows e k)] ++ ((textsL rows e).map PyData.str).drop (k + 1))) ?_ (by rw [List.map_append, List.map_drop]; rfl)
            refine ev_addL ?_ ?_ ?_
            · exact ev_list (.cons ((hh7 _).mono k₈) rfl .nil) (by simp [sizeLine_eq])
            · exact ev_from ((ht7 _).mono k₈) ((ev_addI ((hk7 _).mono k₈) ev_int).cast (by simp)) htsz
            · rw [List.length_drop, List.length_singleton]; rw [sizeLine_eq] at htsz ⊢; have := R.len; rw [List.length_map, htl] at htsz ⊢; omega
          · exact fun s₁ t v r => join_data r (join_fits (B := 20) (fun z hz => (hall z hz).1) (by rw [List.length_append, List.length_drop, htl, List.length_singleton]; have := R.len; omega)) (join_ok fun z hz => (hall z hz).2)
      · refine ⟨v, rfl, ((st04.trans st₆).trans st₇).trans ((k₈.trans k₉).stp L), ?_⟩
        rw [hJ, dueGo, if_pos hearly, List.map_append]
        exact r
    | false =>
      rw [if_neg Bool.false_ne_true]
      refine ex_done ?_
      have hLl : l ≠ L := plain_ne hp₆ B₆.ns
      have hp₈ : s₈.heap.PlainList l ys₆ := hp₆.at fun o q => k₈.up _ _ (st₇.but _ _ hLl q)
      have hr₈ : RepL s₈.heap ys₆.toList ((((fullL rows).take i).map (itemAt rows e)).map pair) := (hr₆.but (noSeq_ns L₆.ns) st₇.but).up k₈.up
      refine ex_append (env := callEnvC (fdAt 4 pm cd) L fa) (l := l) (d := pair (itemAt rows e k)) rfl rfl rfl (L₇.ns.keeps k₈.up) (by rw [upd_ne (by decide +kernel)]; exact hm₆) hp₈ (by rw [sizeLine_eq]; omega) ?_ rfl rfl rfl rfl rfl fun s₉ v₉ st₉ hp₉ rv₉ T₉ => ?_
      · refine ev_tuple (.cons ((hh7 _).mono k₈) rfl (.cons ?_ rfl .nil)) (by simp [sizeLine_eq])
        refine ev_meth1 F.slot_str_join F.type_str_join (x := nl) (d := .list (((textsL rows e).drop (k + 2)).map PyData.str)) (ev_str hnl) ?_ ?_ rfl rfl rfl
        · refine Ev.cast (d := .list (((textsL rows e).map PyData.str).drop (k + 2))) ?_ (by rw [List.map_drop])
          exact ev_from ((ht7 _).mono k₈) ((ev_addI ((hk7 _).mono k₈) ev_int).cast (by simp)) htsz
        · exact fun s₁ t v r => join_data r (join_fits (B := 20) (fun z hz => (hta z (List.mem_of_mem_drop hz)).1) (by rw [List.length_drop, htl]; have := R.len; omega)) (join_ok fun z hz => (hta z (List.mem_of_mem_drop hz)).2)
      · refine ex_done ⟨?_, ?_, upd m₆ (Str.ofString "head") v₇, ys₆.push v₉, ?_, ?_, hp₉, ?_⟩
        · rw [hJ, dueGo, if_neg (by rw [hearly]; exact Bool.false_ne_true), List.map_append]; rfl
        · exact ((st₇.two l).trans ((k₈.stp L).two l)).trans ⟨fun b o q1 q2 q3 => st₉.but b o q2 q2 q3, st₉.eq⟩
        · exact (B₆.set L₇.ns rfl).at ((L₇.ns.keeps k₈.up).at' fun o q => st₉.but _ o (Ne.symm hLl) (Ne.symm hLl) q)
        · rw [upd_ne (by decide +kernel)]; exact hm₆
        · rw [List.map_append, List.map_append, Array.toList_push]
          exact (hr₈.upT T₉ (noLs_pairs _)).append (.cons rv₉ .nil)
  · intro s₆ m₆ ys₆ hJ st₆ B₆ hm₆ hp₆ hr₆
    refine ex_return (d := .list (((fullL rows).map (itemAt rows e)).map pair)) ?_ fun s₇ v k₇ r => ?_
    · refine ev_local rfl rfl rfl B₆.ns hm₆ (.list hp₆.isList ?_)
      simpa using hr₆
    · refine ⟨v, rfl, (st04.trans st₆).trans (k₇.stp L), ?_⟩
      rw [hJ]
      simpa [dueGo] using r

theorem due_call {g : Heap} {v : Value} {fa : Addr} {o : Obj} {pm cd : Value} (hh : A.handled = none) (hu : A.units + 100 < cLine) (R : RowsOk rows) (G : Gd mg mb g) (hg : Up g s.heap)
    (ho : s.heap.get? fa = some o) (hd : o.data = .func (fdAt 4 pm cd)) (hcd : s.heap.CodeRec cd (Str.ofString "_law_due")) (hroom : A.depth < recursionLimit) (r : Rep s.heap v (.list (rows.map trip))) :
    wpAny (model prog w) A (call (.ref fa) [v]) (fun u s' => Ext s s' ∧ Rep s'.heap u (.list ((dueF rows).map pair))) NoE s := by
  refine call_pureC (fd := fdAt 4 pm cd) (body := (defAt 4).2.2.1) (binds := [(Str.ofString "rows", v)]) hroom ho hd (G.lim.keeps hg) hcd rfl rfl rfl (by intro y hy; simp at hy; subst hy; exact .inr ⟨rfl, rfl⟩) rfl rfl rfl fun s₁ hI k₁ => ?_
  refine due_body (g := g) (rv := v) hh (by show A.units + 3 + 64 < cLine; omega) R G (fun b o e => k₁.up b o (hg b o e)) ?_ hI.toInCall.ns ?_ (r.up k₁.up)
  · cases q : g.get? s.heap.objs.size with
    | none => rfl
    | some o' => exact absurd (Heap.lt_size (hg _ _ q)) (Nat.lt_irrefl _)
  · exact hI.cell (Str.ofString "rows") (s.heap.objs.size + 1) rfl
end
end Mine

/-! part LW -/
namespace Mine
open PySem PySem.W PyProof.Rows PySem.Calls PySem.Spec

def fix5 : List Row := [(⟨#[32]⟩, ⟨#[111, 110, 101]⟩, ⟨#[9]⟩), (⟨#[]⟩, ⟨#[]⟩, ⟨#[]⟩), (⟨#[9]⟩, ⟨#[116, 119, 111]⟩, ⟨#[32]⟩), (⟨#[12, 32]⟩, ⟨#[]⟩, ⟨#[]⟩), (⟨#[]⟩, ⟨#[]⟩, ⟨#[]⟩)]
def fix4 : List Row := [(⟨#[32, 32]⟩, ⟨#[116, 104, 114, 101, 101]⟩, ⟨#[13]⟩), (⟨#[133]⟩, ⟨#[]⟩, ⟨#[]⟩), (⟨#[32]⟩, ⟨#[102, 111, 117, 114]⟩, ⟨#[32]⟩), (⟨#[]⟩, ⟨#[102, 105, 118, 101]⟩, ⟨#[31]⟩)]
def fix3 : List Row := [(⟨#[]⟩, ⟨#[]⟩, ⟨#[]⟩), (⟨#[12288]⟩, ⟨#[115, 105, 120]⟩, ⟨#[32]⟩), (⟨#[32]⟩, ⟨#[]⟩, ⟨#[]⟩)]
def rowsF (ns : List Int) : List Row := if ns.length % 2 = 0 then (((ns.take 24).map rowF ++ fix5) ++ fix4) ++ fix3 else (ns.take 24).map rowF

def OkS (x : Str) : Prop := PyData.strOk x = true ∧ x.length ≤ 1000
def blankS (x : Str) : Bool := x.cps.toList != (Str.ofString "").cps.toList
def lastOf (t : List (Str × Str)) : Str × Str := t.getD (t.length - 1) default
def toldStep (t : List (Str × Str)) : List (Str × Str) := if (blankS (lastOf t).1 && blankS (lastOf t).2) = true then t ++ [splitF (lastOf t).2] else t
def toldN (x : Str) : Nat → List (Str × Str)
  | 0 => [splitF x]
  | n + 1 => toldStep (toldN x n)
def docOf' (rows : List Row) : Str := Txt.join nl (rows.map textOf)

theorem joinL_drop_len {c : Nat} (A : List (List Nat)) (k : Nat) : (joinL c (A.drop k)).length ≤ (joinL c A).length := by
  by_cases h : A.drop k = []
  · rw [h]; simp [joinL]
  · have hA : A ≠ [] := fun q => by rw [q] at h; simp at h
    have h1 := joinL_len (c := c) h
    have h2 := joinL_len (c := c) hA
    have h3 : ((A.drop k).map List.length).sum ≤ (A.map List.length).sum := by
      conv => rhs; rw [← List.take_append_drop k A]
      rw [List.map_append, List.sum_append]; omega
    have h4 : (A.drop k).length ≤ A.length := by rw [List.length_drop]; omega
    omega
theorem splitF_ok {x : Str} (h : OkS x) : OkS (splitF x).1 ∧ OkS (splitF x).2 := by
  have hs := strip_ok h.1
  have hl : (Txt.strip x).length ≤ 1000 := Nat.le_trans (len_strip x) h.2
  have hpos : 0 < (Txt.split (Txt.strip x) nl).length := List.length_pos_iff.mpr (split_ne_nil _)
  have h0 : OkS ((Txt.split (Txt.strip x) nl).getD 0 Str.empty) := by
    have hm : (Txt.split (Txt.strip x) nl).getD 0 Str.empty ∈ Txt.split (Txt.strip x) nl := by
      rw [List.getD_eq_getElem?_getD, List.getElem?_eq_getElem hpos]; exact List.getElem_mem hpos
    exact ⟨split_ok hs hm, Nat.le_trans (split_len hm) hl⟩
  have hj : ∀ k, OkS (Txt.join nl ((Txt.split (Txt.strip x) nl).drop k)) := fun k => by
    refine ⟨join_ok fun z hz => split_ok hs (List.mem_of_mem_drop hz), ?_⟩
    rw [← cl_length, cl_join, List.map_drop]
    refine Nat.le_trans (joinL_drop_len _ k) ?_
    rw [split_join, cl_length]; exact hl
  have he : OkS Str.empty := ⟨by decide +kernel, by decide +kernel⟩
  unfold splitF
  split
  · exact ⟨h0, he⟩
  · split
    · exact ⟨h0, hj 2⟩
    · exact ⟨he, by simpa using hj 0⟩
theorem lastOf_mem {t : List (Str × Str)} (h : t ≠ []) : lastOf t ∈ t := by
  have : t.length - 1 < t.length := by have := List.length_pos_iff.mpr h; omega
  unfold lastOf; rw [List.getD_eq_getElem?_getD, List.getElem?_eq_getElem this]; exact List.getElem_mem this
theorem toldN_ne (x : Str) : ∀ n, toldN x n ≠ []
  | 0 => by simp [toldN]
  | n + 1 => by
    rw [toldN, toldStep]
    split
    · simp
    · exact toldN_ne x n
theorem toldN_ok {x : Str} (h : OkS x) : ∀ n, ∀ q ∈ toldN x n, OkS q.1 ∧ OkS q.2
  | 0, q, hq => by rw [toldN, List.mem_singleton] at hq; subst hq; exact splitF_ok h
  | n + 1, q, hq => by
    rw [toldN, toldStep] at hq
    split at hq
    · rcases List.mem_append.mp hq with hq | hq
      · exact toldN_ok h n q hq
      · rw [List.mem_singleton] at hq; subst hq
        exact splitF_ok (toldN_ok h n _ (lastOf_mem (toldN_ne x n))).2
    · exact toldN_ok h n q hq
theorem toldN_len (x : Str) : ∀ n, (toldN x n).length ≤ n + 1
  | 0 => by simp [toldN]
  | n + 1 => by
    rw [toldN, toldStep]
    have := toldN_len x n
    split
    · rw [List.length_append, List.length_singleton]; omega
    · omega
theorem last_pair {t : List (Str × Str)} (h : t ≠ []) : (t.map pair)[(t.map pair).length - 1]? = some (pair (lastOf t)) := by
  have : t.length - 1 < t.length := by have := List.length_pos_iff.mpr h; omega
  rw [List.length_map, List.getElem?_map]
  unfold lastOf; rw [List.getD_eq_getElem?_getD, List.getElem?_eq_getElem this]; rfl
theorem depth_pairs (l : List (Str × Str)) : (PyData.list (l.map pair)).depth ≤ 64 := by
  have : PyData.depthAll (l.map pair) ≤ 1 := by
    induction l with
    | nil => exact Nat.zero_le _
    | cons a r ih =>
      rw [List.map_cons, PyData.depthAll]
      have : (pair a).depth = 1 := rfl
      omega
  rw [PyData.depth]; omega
theorem eqv_pair (a : Str × Str) : PyData.eqv (pair a) (pair a) = true := by simp [pair, PyData.eqv, PyData.eqvAll]
theorem eqv_pairs (l : List (Str × Str)) : PyData.eqv (.list (l.map pair)) (.list (l.map pair)) = true := by
  rw [PyData.eqv]
  induction l with
  | nil => rfl
  | cons a r ih => rw [List.map_cons, PyData.eqvAll, eqv_pair, ih]; rfl
theorem doc_ok {rows : List Row} (R : RowsOk rows) (hl : rows.length ≤ 36) : OkS (docOf' rows) ∧ JoinOk nl (rows.map textOf) = true := by
  have hall : ∀ z ∈ rows.map textOf, z.length ≤ 20 ∧ PyData.strOk z = true := fun z hz => by
    obtain ⟨r, hm, rfl⟩ := List.mem_map.mp hz
    obtain ⟨o1, o2, o3⟩ := R.ok r hm
    exact ⟨by have := R.each r hm; unfold textOf; rw [Str.length_append, Str.length_append]; exact this, strOk_append (strOk_append o1 o2) o3⟩
  refine ⟨⟨join_ok fun z hz => (hall z hz).2, ?_⟩, join_fits (B := 20) (fun z hz => (hall z hz).1) (by rw [List.length_map]; omega)⟩
  unfold docOf'
  rw [← cl_length, cl_join]
  by_cases h : (rows.map textOf).map cl = []
  · rw [h]; simp [joinL]
  · have h1 := joinL_len (c := 10) h
    have h2 : (((rows.map textOf).map cl).map List.length).sum ≤ rows.length * 20 := by
      rw [List.map_map]
      have h3 := StrLaws.sumLen_le (B := 20) (rows.map textOf) fun y hy => (hall y hy).1
      rw [List.length_map] at h3
      have e : (rows.map textOf).map (List.length ∘ cl) = (rows.map textOf).map (·.length) := List.map_congr_left fun y _ => cl_length y
      rw [e]; exact h3
    rw [List.length_map, List.length_map] at h1
    omega
end Mine

/-! part LX -/
namespace Mine
open PySem PySem.W PyProof.Rows PySem.Calls PySem.Spec

section
variable {prog : Program} {w : World} {A : Around} {s : Shared} {mg mb : Str → Option Value} {env : Env} {g : Heap}

theorem ev_splitdoc {e : PySem.Expr} {p pos : Pos} {x : Str} (hroom : A.depth < recursionLimit) (G : Gd mg mb g) (hg : Up g s.heap) (hk : env.scope.kind = .function) (hx : env.kindOf (Str.ofString "splitdoc") = some .globalImplicit)
    (hgl : env.globals = mainGlobals) (hs : starEach [e] env = (false, eval e env) :: starEach [] env) (hl : x.length ≤ 2000) (he : Ev prog w A env s e (.str x)) :
    Ev prog w A env s (.Call (.Name (Str.ofString "splitdoc") p) [e] [] pos) (pair (splitF x)) := by
  obtain ⟨fa, o, pm, cd, h1, h2, h3, h4⟩ := G.fn 1 (Str.ofString "splitdoc") (.inl ⟨rfl, rfl⟩)
  refine ev_callF hk hx (by decide +kernel) (by rw [hgl]; exact G.ng.keeps hg) h1 (hg _ _ h2) h3 he hs fun v s₁ k r => ?_
  obtain ⟨t, rfl, hok⟩ := r.str_inv
  exact splitdoc_call hok hl G (fun b o e => k.up b o (hg b o e)) (k.up _ _ (hg _ _ h2)) h3 ((h4.keeps hg).keeps k.up) hroom r
theorem ev_lawrow {e : PySem.Expr} {p pos : Pos} {x : Int} (hroom : A.depth < recursionLimit) (G : Gd mg mb g) (hg : Up g s.heap) (hk : env.scope.kind = .function) (hx : env.kindOf (Str.ofString "_law_row") = some .globalImplicit)
    (hgl : env.globals = mainGlobals) (hs : starEach [e] env = (false, eval e env) :: starEach [] env) (he : Ev prog w A env s e (.int x)) :
    Ev prog w A env s (.Call (.Name (Str.ofString "_law_row") p) [e] [] pos) (trip (rowF x)) := by
  obtain ⟨fa, o, pm, cd, h1, h2, h3, h4⟩ := G.fn 3 (Str.ofString "_law_row") (.inr (.inl ⟨rfl, rfl⟩))
  refine ev_callF hk hx (by decide +kernel) (by rw [hgl]; exact G.ng.keeps hg) h1 (hg _ _ h2) h3 he hs fun v s₁ k r => ?_
  exact row_call G (fun b o e => k.up b o (hg b o e)) (k.up _ _ (hg _ _ h2)) h3 ((h4.keeps hg).keeps k.up) hroom r
theorem ev_lawdue {e : PySem.Expr} {p pos : Pos} {rows : List Row} (hh : A.handled = none) (hu : A.units + 100 < cLine) (R : RowsOk rows) (hroom : A.depth < recursionLimit) (G : Gd mg mb g) (hg : Up g s.heap) (hk : env.scope.kind = .function) (hx : env.kindOf (Str.ofString "_law_due") = some .globalImplicit)
    (hgl : env.globals = mainGlobals) (hs : starEach [e] env = (false, eval e env) :: starEach [] env) (he : Ev prog w A env s e (.list (rows.map trip))) :
    Ev prog w A env s (.Call (.Name (Str.ofString "_law_due") p) [e] [] pos) (.list ((dueF rows).map pair)) := by
  obtain ⟨fa, o, pm, cd, h1, h2, h3, h4⟩ := G.fn 4 (Str.ofString "_law_due") (.inr (.inr ⟨rfl, rfl⟩))
  refine ev_callF hk hx (by decide +kernel) (by rw [hgl]; exact G.ng.keeps hg) h1 (hg _ _ h2) h3 he hs fun v s₁ k r => ?_
  exact due_call hh hu R G (fun b o e => k.up b o (hg b o e)) (k.up _ _ (hg _ _ h2)) h3 ((h4.keeps hg).keeps k.up) hroom r

/-- [_law_row(x) for x in ..] -/
theorem cmp_rows {iter : PySem.Expr} {scope : Scope} {p1 p2 p3 p4 : Pos} {ns : List Int} (hh : A.handled = none) (hroom : A.depth < recursionLimit) (G : Gd mg mb g) (hg : Up g s.heap) (hgl : env.globals = mainGlobals) (hit : Ev prog w A env s iter (.list (ns.map PyData.int)))
    (hclos : closureFor scope env = pure []) (hcell : ∀ y ∈ scope.names, y.2 ≠ .cell) (hkind : scope.kind = .function) (hnames : ∀ x ∈ scope.names, x.2 = .local → scope.names.lookup x.1 = some .local)
    (hfold : ∀ x, foldedSetIterable iter env x = pure x) (hsz : ns.length ≤ sizeLine)
    (h1 : ∀ C, (compEnvC scope [] C env).kindOf (Str.ofString "x") = some .local) (h2 : ∀ C, (compEnvC scope [] C env).kindOf (Str.ofString "_law_row") = some .globalImplicit)
    (hs : ∀ C, starEach [.Name (Str.ofString "x") p2] (compEnvC scope [] C env) = (false, eval (.Name (Str.ofString "x") p2) (compEnvC scope [] C env)) :: starEach [] (compEnvC scope [] C env)) :
    Cmp prog w A env s (.Call (.Name (Str.ofString "_law_row") p1) [.Name (Str.ofString "x") p2] [] p3) (.Name (Str.ofString "x") p4) iter [] scope [] ns.length (fun _ => true) (fun i => trip (rowF (ns.getD i 0))) where
  clos := hclos
  cell := hcell
  kind := hkind
  names := hnames
  fold := hfold
  size := hsz
  flat := fun _ _ => rfl
  run := by
    have hsrc : ∀ i, i < ns.length → (ns.map PyData.int).getD i PyData.none = .int (ns.getD i 0) := fun i hi => by
      rw [List.getD_eq_getElem?_getD, List.getElem?_map, List.getElem?_eq_getElem hi, List.getD_eq_getElem?_getD, List.getElem?_eq_getElem hi]; rfl
    refine ⟨fun i => (ns.map PyData.int).getD i .none, fun h I => ∃ l j, h.IsListIter I l j, fun i => upd (fun _ => none) (Str.ofString "x") (.int (ns.getD i 0)), ?_, ?_, ?_, ?_, ?_⟩
    · intro s₁ k
      refine hit.use k fun v s₂ k₂ r => ⟨k₂, ?_⟩
      have := iter_list (prog := prog) (w := w) hh r (by intro d hd; obtain ⟨q, _, rfl⟩ := List.mem_map.mp hd; rfl)
      rw [List.length_map] at this
      exact this
    · intro i v I s₃ hi r _
      exact wpAny_pure rfl
    · intro C i v s₃ m₂ hi k r hn'
      replace r : Rep s₃.heap v (.int (ns.getD i 0)) := by rw [← hsrc i hi]; exact r
      exact wpAny_mono (asg_name (env := compEnvC scope _ C env) hkind (h1 C) (loc_none hn') r) (fun _ s₄ q => ⟨q.1, _, q.2⟩) fun _ _ f => f
    · intro C i s₃ m₃ hi k hL
      exact wpAny_tests_nil ⟨Ext.refl _, rfl⟩
    · intro C i s₃ m₃ hi _ k hL
      exact ev_lawrow (env := compEnvC scope [] C env) hroom G (fun b o e => k.up b o (hg b o e)) hkind (h2 C) hgl (hs C) (ev_var (env := compEnvC scope [] C env) hL hkind (h1 C) rfl rfl)
theorem rows_eq (ns : List Int) : ((List.range ns.length).filter (fun _ => true)).map (fun i => trip (rowF (ns.getD i 0))) = (ns.map rowF).map trip := by
  rw [List.filter_eq_self.mpr (fun _ _ => rfl)]
  apply List.ext_getElem
  · simp
  · intro i h1 h2
    simp only [List.length_map, List.length_range] at h1
    simp [List.getD_eq_getElem?_getD, List.getElem?_eq_getElem h1]

theorem ev_pair0 {e : PySem.Expr} {q p : Pos} {j : Nat} {r : Str × Str} (h : Ev prog w A env s e (pair r)) : Ev prog w A env s (.Subscript e (.Constant (.int 0) j q) p) (.str r.1) :=
  ev_subT h ev_int (by decide) rfl (by simp [sizeLine_eq]) (fun _ _ => rfl)
theorem ev_pair1 {e : PySem.Expr} {q p : Pos} {j : Nat} {r : Str × Str} (h : Ev prog w A env s e (pair r)) : Ev prog w A env s (.Subscript e (.Constant (.int 1) j q) p) (.str r.2) :=
  ev_subT h ev_int (by decide) rfl (by simp [sizeLine_eq]) (fun _ _ => rfl)

/-- what stands behind the rows -/
theorem law_rest {cd : Value} {L fa : Addr} {m : Str → Option Value} {ρ : Str → Option PyData} {rows : List Row} (hh : A.handled = none) (hu : A.units + 100 < cLine) (hroom : A.depth < recursionLimit) (G : Gd mg mb g) (hg : Up g s.heap) (hgL : g.get? L = none)
    (hL : Loc L s.heap m ρ) (e : ρ (Str.ofString "rows") = some (.list (rows.map trip))) (e0 : ρ (Str.ofString "told") = none) (e1 : ρ (Str.ofString "turn") = none) (R : RowsOk rows) (hlen : rows.length ≤ 36)
    (hlaw : toldN (docOf' rows) rows.length = dueF rows) (hlast : splitF ((lastOf (dueF rows)).1 ++ (lastOf (dueF rows)).2) = lastOf (dueF rows)) :
    wpAny (model prog w) A (execs ((defAt 5).2.2.1.drop 2) (envOf (defAt 5).1 (defAt 5).2.2.2 L fa cd)) (fun f s' => f = .ret (.bool true) ∧ Stp L s s') NoE s := by
  have hd := doc_ok R hlen
  have hne := fun n => toldN_ne (docOf' rows) n
  have hok := fun n => toldN_ok hd.1 n
  have hnl : PyData.strOk nl = true := by decide +kernel
  have hemp : PyData.strOk (Str.ofString "") = true := by decide +kernel
  have hsz : rows.length ≤ sizeLine := by rw [sizeLine_eq]; omega
  have hrow : ∀ p, Ev prog w A (envOf (defAt 5).1 (defAt 5).2.2.2 L fa cd) s (.Name (Str.ofString "rows") p) (.list (rows.map trip)) := fun p => ev_var (env := envOf (defAt 5).1 (defAt 5).2.2.2 L fa cd) hL rfl rfl rfl e
  refine ex_newList (env := envOf (defAt 5).1 (defAt 5).2.2.2 L fa cd) (ds := [pair (splitF (docOf' rows))]) hL.ns (.cons ?_ rfl .nil) rfl rfl rfl (by simp [sizeLine_eq]) fun s₁ l vs₁ hl₁ st₁ hn₁ hp₁ hr₁ => ?_
  · refine ev_splitdoc hroom G hg rfl rfl rfl rfl (by have := hd.1.2; omega) ?_
    refine ev_meth1 F.slot_str_join F.type_str_join (x := nl) (d := .list ((rows.map textOf).map PyData.str)) (ev_str hnl) ?_ ?_ rfl rfl rfl
    · refine Ev.cast ?_ (congrArg PyData.list (texts_eq rows))
      exact ev_comp (cmp_texts hh (hrow _) rfl (by decide) rfl (by decide) (fun _ => rfl) hsz (fun r hr => by have := R.each r hr; rw [sizeLine_eq]; omega) (fun _ => rfl) (fun _ => rfl) (fun _ => rfl))
    · exact fun s₁ t v r => join_data r hd.2 hd.1.1
  have B₁ : LocB L s.heap s₁.heap (upd m (Str.ofString "told") (.ref l)) ρ := hL.base.set hn₁ e0
  have hg₁ := st₁.base hg hgL
  have hrow₁ : ∀ p, Ev prog w A (envOf (defAt 5).1 (defAt 5).2.2.2 L fa cd) s₁ (.Name (Str.ofString "rows") p) (.list (rows.map trip)) := fun p => ev_var (env := envOf (defAt 5).1 (defAt 5).2.2.2 L fa cd) (B₁.loc st₁ hL.ns) rfl rfl rfl e
  refine ex_forRange (env := envOf (defAt 5).1 (defAt 5).2.2.2 L fa cd) (s₀ := s) (l := l) (nm := Str.ofString "told") (n := rows.length) (T := fun i => (toldN (docOf' rows) i).map pair) (fun _ => True) trivial hh rfl rfl rfl (by decide +kernel) e1 e0 hsz ?_ (fun _ => rfl)
    (fun i _ => noLs_pairs _) hL.ns hl₁ st₁ B₁ upd_self hp₁ hr₁ ?_ ?_
  · exact ev_range G hg₁ rfl rfl rfl rfl ((ev_len G hg₁ rfl rfl rfl rfl (hrow₁ _) (by rw [List.length_map]; exact hsz) rfl).cast (by rw [List.length_map])) rfl s₁ (Ext.refl _)
  · intro i s₂ m₂ ys₂ v₂ hi _ st₂ B₂ hm₂ _ _ hp₂ hr₂
    have hg₂ := st₂.base hg hgL
    have hLl : l ≠ L := plain_ne hp₂ B₂.ns
    have rtold : Rep s₂.heap (.ref l) (.list ((toldN (docOf' rows) i).map pair)) := .list hp₂.isList hr₂
    have ht₂ : ∀ p, Ev prog w A (envOf (defAt 5).1 (defAt 5).2.2.2 L fa cd) s₂ (.Name (Str.ofString "told") p) (.list ((toldN (docOf' rows) i).map pair)) := fun p => ev_local (env := envOf (defAt 5).1 (defAt 5).2.2.2 L fa cd) rfl rfl rfl B₂.ns hm₂ rtold
    have hl₂ : ∀ a b c q k, Ev prog w A (envOf (defAt 5).1 (defAt 5).2.2.2 L fa cd) s₂ (.Subscript (.Name (Str.ofString "told") a) (.UnaryOp .USub (.Constant (.int 1) k b) c) q) (pair (lastOf (toldN (docOf' rows) i))) := fun a b c q k =>
      ev_lastL (ht₂ a) (ev_negI ev_int) (last_pair (hne i)) (fun _ _ => rfl)
    refine ex_if (b := (blankS (lastOf (toldN (docOf' rows) i)).1 && blankS (lastOf (toldN (docOf' rows) i)).2)) ?_ fun s₃ k₃ => ?_
    · refine tst_and (x := blankS (lastOf (toldN (docOf' rows) i)).1) ?_ (fun h => ?_) (fun h => ?_)
      · exact tst_neS (ev_pair0 (hl₂ _ _ _ _ _)) (ev_str hemp) rfl
      · rw [h, Bool.true_and]
        exact tst_neS (ev_pair1 (hl₂ _ _ _ _ _)) (ev_str hemp) rfl
      · rw [h]; rfl
    have hp₃ : s₃.heap.PlainList l ys₂ := hp₂.at fun o q => k₃.up _ _ q
    have hr₃ := hr₂.up k₃.up
    have hn₃ := B₂.ns.keeps k₃.up
    cases hb : (blankS (lastOf (toldN (docOf' rows) i)).1 && blankS (lastOf (toldN (docOf' rows) i)).2) with
    | false =>
      rw [if_neg Bool.false_ne_true]
      refine ex_done (ex_done ⟨trivial, (k₃.stp L).two l, m₂, ys₂, B₂.at hn₃, hm₂, hp₃, ?_⟩)
      rw [toldN, toldStep, if_neg (by rw [hb]; exact Bool.false_ne_true)]
      exact hr₃
    | true =>
      rw [if_pos rfl]
      have hlo := hok i _ (lastOf_mem (hne i))
      have hys : ys₂.size ≤ 40 := by
        have e1 := hr₂.length
        have e2 := toldN_len (docOf' rows) i
        rw [List.length_map] at e1
        simp at e1; omega
      refine ex_append (env := envOf (defAt 5).1 (defAt 5).2.2.2 L fa cd) (l := l) (d := pair (splitF (lastOf (toldN (docOf' rows) i)).2)) rfl rfl rfl hn₃ hm₂ hp₃ (by rw [sizeLine_eq]; omega) ?_ rfl rfl rfl rfl rfl fun s₄ v₄ st₄ hp₄ rv₄ T₄ => ?_
      · exact ev_splitdoc hroom G (fun b o q => k₃.up b o (hg₂ b o q)) rfl rfl rfl rfl (by have := hlo.2.2; omega) ((ev_pair1 (hl₂ _ _ _ _ _)).mono k₃)
      · refine ex_done (ex_done ⟨trivial, ?_, m₂, ys₂.push v₄, ?_, hm₂, hp₄, ?_⟩)
        · exact ((k₃.stp L).two l).trans ⟨fun b o q1 q2 q3 => st₄.but b o q2 q2 q3, st₄.eq⟩
        · exact B₂.at (hn₃.at' fun o q => st₄.but _ o (Ne.symm hLl) (Ne.symm hLl) q)
        · rw [toldN, toldStep, if_pos hb, List.map_append, Array.toList_push]
          exact (hr₃.upT T₄ (noLs_pairs _)).append (.cons rv₄ .nil)
  · intro s₂ m₂ ys₂ _ st₂ B₂ hm₂ hp₂ hr₂
    rw [hlaw] at hr₂
    have hg₂ := st₂.base hg hgL
    have hdn : dueF rows ≠ [] := by rw [← hlaw]; exact hne _
    have hdo : ∀ q ∈ dueF rows, OkS q.1 ∧ OkS q.2 := by rw [← hlaw]; exact hok _
    have hrow₂ : ∀ p, Ev prog w A (envOf (defAt 5).1 (defAt 5).2.2.2 L fa cd) s₂ (.Name (Str.ofString "rows") p) (.list (rows.map trip)) := fun p => ev_var (env := envOf (defAt 5).1 (defAt 5).2.2.2 L fa cd) (B₂.loc st₂ hL.ns) rfl rfl rfl e
    have rtold : Rep s₂.heap (.ref l) (.list ((dueF rows).map pair)) := .list hp₂.isList hr₂
    have ht₂ : ∀ p, Ev prog w A (envOf (defAt 5).1 (defAt 5).2.2.2 L fa cd) s₂ (.Name (Str.ofString "told") p) (.list ((dueF rows).map pair)) := fun p => ev_local (env := envOf (defAt 5).1 (defAt 5).2.2.2 L fa cd) rfl rfl rfl B₂.ns hm₂ rtold
    have hl₂ : ∀ a b c q k, Ev prog w A (envOf (defAt 5).1 (defAt 5).2.2.2 L fa cd) s₂ (.Subscript (.Name (Str.ofString "told") a) (.UnaryOp .USub (.Constant (.int 1) k b) c) q) (pair (lastOf (dueF rows))) := fun a b c q k =>
      ev_lastL (ht₂ a) (ev_negI ev_int) (last_pair hdn) (fun _ _ => rfl)
    refine ex_if (b := false) ?_ fun s₃ k₃ => ?_
    · refine Tst.cast (b := !PyData.eqv (.list ((dueF rows).map pair)) (.list ((dueF rows).map pair))) ?_ (by rw [eqv_pairs]; rfl)
      refine tst_neD (ht₂ _) ?_ rfl (depth_pairs _) (depth_pairs _) (by omega)
      exact ev_lawdue hh hu R hroom G hg₂ rfl rfl rfl rfl (hrow₂ _)
    rw [if_neg Bool.false_ne_true]
    refine ex_done ?_
    have hlo := hdo _ (lastOf_mem hdn)
    refine ex_return (d := .bool true) ?_ fun s₄ v k₄ r => ?_
    · refine Ev.cast (d := .bool (PyData.eqv (pair (splitF ((lastOf (dueF rows)).1 ++ (lastOf (dueF rows)).2))) (pair (lastOf (dueF rows))))) ?_ (by rw [hlast, eqv_pair])
      refine ev_eqD ?_ ((hl₂ _ _ _ _ _).mono k₃) rfl (show (1 : Nat) ≤ 64 by decide) (show (1 : Nat) ≤ 64 by decide) (by omega)
      refine ev_splitdoc hroom G (fun b o q => k₃.up b o (hg₂ b o q)) rfl rfl rfl rfl (by rw [Str.length_append]; have := hlo.1.2; have := hlo.2.2; omega) ?_
      exact ev_addS ((ev_pair0 (hl₂ _ _ _ _ _)).mono k₃) ((ev_pair1 (hl₂ _ _ _ _ _)).mono k₃) (by have := hlo.1.2; have := hlo.2.2; rw [sizeLine_eq]; omega)
    · rw [r.bool_inv]
      exact ⟨rfl, st₂.trans ((k₃.trans k₄).stp L)⟩

theorem ev_lit3 {a b c : Str} {k1 k2 k3 n : Nat} {p1 p2 p3 p : Pos} {r : Row} (h1 : PyData.strOk a = true) (h2 : PyData.strOk b = true) (h3 : PyData.strOk c = true) (hr : (a, b, c) = r) :
    Ev prog w A env s (.Tuple [.Constant (.str a) k1 p1, .Constant (.str b) k2 p2, .Constant (.str c) k3 p3] n p) (trip r) := by
  subst hr
  exact ev_tuple (.cons (ev_str h1) rfl (.cons (ev_str h2) rfl (.cons (ev_str h3) rfl .nil))) (by simp [sizeLine_eq])

theorem law_body {cd : Value} {L fa : Addr} {m : Str → Option Value} {ρ : Str → Option PyData} {ns : List Int} (hh : A.handled = none) (hu : A.units + 100 < cLine) (hroom : A.depth < recursionLimit) (G : Gd mg mb g) (hg : Up g s.heap) (hgL : g.get? L = none)
    (hL : Loc L s.heap m ρ) (e : ρ (Str.ofString "script") = some (.list (ns.map PyData.int))) (e0 : ρ (Str.ofString "told") = none) (e1 : ρ (Str.ofString "turn") = none) (hns : ns.length ≤ 63) (R : RowsOk (rowsF ns))
    (hlaw : toldN (docOf' (rowsF ns)) (rowsF ns).length = dueF (rowsF ns)) (hlast : splitF ((lastOf (dueF (rowsF ns))).1 ++ (lastOf (dueF (rowsF ns))).2) = lastOf (dueF (rowsF ns))) :
    wpAny (model prog w) A (execs (defAt 5).2.2.1 (envOf (defAt 5).1 (defAt 5).2.2.2 L fa cd)) (fun f s' => f = .ret (.bool true) ∧ Stp L s s') NoE s := by
  have hsz : (ns.map PyData.int).length ≤ sizeLine := by rw [List.length_map, sizeLine_eq]; omega
  have hscr : ∀ p, Ev prog w A (envOf (defAt 5).1 (defAt 5).2.2.2 L fa cd) s (.Name (Str.ofString "script") p) (.list (ns.map PyData.int)) := fun p => ev_var (env := envOf (defAt 5).1 (defAt 5).2.2.2 L fa cd) hL rfl rfl rfl e
  have ht : (ns.take 24).length ≤ 24 := by rw [List.length_take]; omega
  refine ex_assignComp (env := envOf (defAt 5).1 (defAt 5).2.2.2 L fa cd) hL (cmp_rows (ns := ns.take 24) hh hroom G hg rfl ?_ rfl (by decide) rfl (by decide) (fun _ => rfl) (by rw [sizeLine_eq]; omega) (fun _ => rfl) (fun _ => rfl) (fun _ => rfl)) rfl rfl rfl fun s₁ v₁ st₁ L₁ => ?_
  · exact (ev_upto (n := 24) (hscr _) ev_int hsz).cast (by rw [List.map_take])
  rw [rows_eq] at L₁
  have hg₁ := st₁.base hg hgL
  have hscr₁ : ∀ p, Ev prog w A (envOf (defAt 5).1 (defAt 5).2.2.2 L fa cd) s₁ (.Name (Str.ofString "script") p) (.list (ns.map PyData.int)) := fun p => ev_var (env := envOf (defAt 5).1 (defAt 5).2.2.2 L fa cd) L₁ rfl rfl rfl e
  refine ex_if (b := (((ns.length : Int).fmod 2) == 0)) ?_ fun s₂ k₂ => ?_
  · refine tst_eqI ?_ ev_int rfl
    refine ev_modI (by decide) ?_ ev_int
    exact (ev_len G hg₁ rfl rfl rfl rfl (hscr₁ _) hsz rfl).cast (by rw [List.length_map])
  have hmod : ((ns.length : Int).fmod 2 == 0) = decide (ns.length % 2 = 0) := by
    rw [Int.fmod_eq_emod_of_nonneg _ (by decide)]
    rw [Bool.eq_iff_iff]; simp; omega
  rw [hmod]
  have L₂ := L₁.up k₂.up
  have hg₂ : Up g s₂.heap := fun b o q => k₂.up b o (hg₁ b o q)
  have st₂ : Stp L s s₂ := st₁.trans (k₂.stp L)
  by_cases h2 : ns.length % 2 = 0
  · rw [if_pos (decide_eq_true h2)]
    have hrw : rowsF ns = (((ns.take 24).map rowF ++ fix5) ++ fix4) ++ fix3 := if_pos h2
    rw [hrw] at R hlaw hlast
    refine ex_assign (env := envOf (defAt 5).1 (defAt 5).2.2.2 L fa cd) (d := .list (((ns.take 24).map rowF ++ fix5).map trip)) L₂ ?_ rfl rfl rfl fun s₃ v₃ st₃ L₃ => ?_
    · rw [List.map_append]
      refine ev_addL (ev_var (env := envOf (defAt 5).1 (defAt 5).2.2.2 L fa cd) L₂ rfl rfl rfl rfl) ?_ (by simp [sizeLine_eq, fix5]; omega)
      exact ev_list (ds := fix5.map trip) (.cons (ev_lit3 (by decide +kernel) (by decide +kernel) (by decide +kernel) (by decide +kernel)) rfl (.cons (ev_lit3 (by decide +kernel) (by decide +kernel) (by decide +kernel) (by decide +kernel)) rfl (.cons (ev_lit3 (by decide +kernel) (by decide +kernel) (by decide +kernel) (by decide +kernel)) rfl (.cons (ev_lit3 (by decide +kernel) (by decide +kernel) (by decide +kernel) (by decide +kernel)) rfl (.cons (ev_lit3 (by decide +kernel) (by decide +kernel) (by decide +kernel) (by decide +kernel)) rfl .nil))))) (by simp [sizeLine_eq, fix5])
    refine ex_assign (env := envOf (defAt 5).1 (defAt 5).2.2.2 L fa cd) (d := .list ((((ns.take 24).map rowF ++ fix5) ++ fix4).map trip)) L₃ ?_ rfl rfl rfl fun s₄ v₄ st₄ L₄ => ?_
    · rw [List.map_append]
      refine ev_addL (ev_var (env := envOf (defAt 5).1 (defAt 5).2.2.2 L fa cd) L₃ rfl rfl rfl rfl) ?_ (by simp [sizeLine_eq, fix5, fix4]; omega)
      exact ev_list (ds := fix4.map trip) (.cons (ev_lit3 (by decide +kernel) (by decide +kernel) (by decide +kernel) (by decide +kernel)) rfl (.cons (ev_lit3 (by decide +kernel) (by decide +kernel) (by decide +kernel) (by decide +kernel)) rfl (.cons (ev_lit3 (by decide +kernel) (by decide +kernel) (by decide +kernel) (by decide +kernel)) rfl (.cons (ev_lit3 (by decide +kernel) (by decide +kernel) (by decide +kernel) (by decide +kernel)) rfl .nil)))) (by simp [sizeLine_eq, fix4])
    refine ex_assign (env := envOf (defAt 5).1 (defAt 5).2.2.2 L fa cd) (d := .list (((((ns.take 24).map rowF ++ fix5) ++ fix4) ++ fix3).map trip)) L₄ ?_ rfl rfl rfl fun s₅ v₅ st₅ L₅ => ?_
    · rw [List.map_append]
      refine ev_addL (ev_var (env := envOf (defAt 5).1 (defAt 5).2.2.2 L fa cd) L₄ rfl rfl rfl rfl) ?_ (by simp [sizeLine_eq, fix5, fix4, fix3]; omega)
      exact ev_list (ds := fix3.map trip) (.cons (ev_lit3 (by decide +kernel) (by decide +kernel) (by decide +kernel) (by decide +kernel)) rfl (.cons (ev_lit3 (by decide +kernel) (by decide +kernel) (by decide +kernel) (by decide +kernel)) rfl (.cons (ev_lit3 (by decide +kernel) (by decide +kernel) (by decide +kernel) (by decide +kernel)) rfl .nil))) (by simp [sizeLine_eq, fix3])
    refine ex_done ?_
    have st₅' : Stp L s s₅ := ((st₂.trans st₃).trans st₄).trans st₅
    refine wpAny_mono (law_rest hh hu hroom G (st₅'.base hg hgL) hgL L₅ rfl e0 e1 R (by simp [fix5, fix4, fix3]; omega) hlaw hlast) (fun f s' q => ⟨q.1, st₅'.trans q.2⟩) fun _ _ f => f
  · rw [if_neg (by simpa using h2)]
    have hrw : rowsF ns = (ns.take 24).map rowF := if_neg h2
    rw [hrw] at R hlaw hlast
    refine ex_done ?_
    refine wpAny_mono (law_rest hh hu hroom G hg₂ hgL L₂ rfl e0 e1 R (by rw [List.length_map]; omega) hlaw hlast) (fun f s' q => ⟨q.1, st₂.trans q.2⟩) fun _ _ f => f
end
end Mine

/-! part PL1 -/
namespace Mine
open PySem PySem.W PyProof.Rows PySem.Calls PySem.Spec

/-! strip over lists of numbers -/
theorem sp10 : sp 10 = true := by decide +kernel
theorem lstrip_all {W Y : List Nat} (h : ∀ c ∈ W, sp c = true) : lstripL (W ++ Y) = lstripL Y := by
  unfold lstripL
  induction W with
  | nil => rfl
  | cons a r ih => rw [List.cons_append, List.dropWhile_cons, if_pos (h a (by simp)), ih fun c hc => h c (List.mem_cons_of_mem _ hc)]
theorem lstrip_stop {a : Nat} {Y : List Nat} (h : sp a = false) : lstripL (a :: Y) = a :: Y := by
  unfold lstripL; rw [List.dropWhile_cons, if_neg (by rw [h]; exact Bool.false_ne_true)]
theorem rstrip_all {W Y : List Nat} (h : ∀ c ∈ W, sp c = true) : rstripL (Y ++ W) = rstripL Y := by
  unfold rstripL
  rw [List.reverse_append]
  have := lstrip_all (W := W.reverse) (Y := Y.reverse) fun c hc => h c (List.mem_reverse.mp hc)
  unfold lstripL at this
  rw [this]
theorem rstrip_stop {a : Nat} {Y : List Nat} (h : sp a = false) : rstripL (Y ++ [a]) = Y ++ [a] := by
  unfold rstripL
  rw [List.reverse_append]
  have := lstrip_stop (Y := Y.reverse) h
  unfold lstripL at this
  rw [List.reverse_singleton, List.singleton_append, this, List.reverse_cons, List.reverse_reverse]
theorem lstrip_append {Y W : List Nat} (h : ∃ c ∈ Y, sp c = false) : lstripL (Y ++ W) = lstripL Y ++ W := by
  unfold lstripL
  induction Y with
  | nil => obtain ⟨c, hc, _⟩ := h; cases hc
  | cons a r ih =>
    rw [List.cons_append, List.dropWhile_cons, List.dropWhile_cons]
    cases ha : sp a with
    | false => simp
    | true =>
      simp only [if_true]
      refine ih ?_
      obtain ⟨c, hc, hs⟩ := h
      rcases List.mem_cons.mp hc with rfl | hc
      · rw [ha] at hs; cases hs
      · exact ⟨c, hc, hs⟩
theorem strip_append {Y W : List Nat} (h : ∃ c ∈ Y, sp c = false) (hw : ∀ c ∈ W, sp c = true) : rstripL (lstripL (Y ++ W)) = rstripL (lstripL Y) := by
  rw [lstrip_append h, rstrip_all hw]
theorem strip_all {W : List Nat} (h : ∀ c ∈ W, sp c = true) : rstripL (lstripL W) = [] := by
  have := lstrip_all (Y := []) h
  rw [List.append_nil] at this
  rw [this]; rfl

/-! join -/
theorem joinL_app {c : Nat} : ∀ {A B : List (List Nat)}, A ≠ [] → joinL c (A ++ B) = joinL c A ++ B.flatMap (c :: ·)
  | [], _, h => absurd rfl h
  | [x], [], _ => by simp [joinL]
  | [x], b :: B, _ => by
    have := joinL_app (c := c) (A := [b]) (B := B) (by simp)
    show x ++ c :: joinL c (b :: B) = x ++ (b :: B).flatMap (c :: ·)
    rw [show b :: B = [b] ++ B from rfl, this]
    simp [joinL]
  | x :: y :: r, B, _ => by
    have := joinL_app (c := c) (A := y :: r) (B := B) (by simp)
    show x ++ c :: joinL c ((y :: r) ++ B) = (x ++ c :: joinL c (y :: r)) ++ _
    rw [this]; simp
theorem joinL_snoc {c : Nat} {A : List (List Nat)} {x t : List Nat} : joinL c (A ++ [x ++ t]) = joinL c (A ++ [x]) ++ t := by
  cases A with
  | nil => simp [joinL]
  | cons a r => rw [joinL_app (by simp), joinL_app (by simp)]; simp
theorem joinL_head {c : Nat} {x y : List Nat} {r : List (List Nat)} : joinL c ((x ++ y) :: r) = x ++ joinL c (y :: r) := by
  cases r with
  | nil => rfl
  | cons z r => simp [joinL]

/-! rows -/
structure WR (r : Row) : Prop where
  lead : ∀ c ∈ cl r.1, sp c = true ∧ c ≠ 10
  tail : ∀ c ∈ cl r.2.2, sp c = true ∧ c ≠ 10
  core : ∀ c ∈ cl r.2.1, c ≠ 10
  first : ∀ c, (cl r.2.1).head? = some c → sp c = false
  last : ∀ c, (cl r.2.1).getLast? = some c → sp c = false
  len : r.1.length + r.2.1.length + r.2.2.length ≤ 20
  ok : PyData.strOk r.1 = true ∧ PyData.strOk r.2.1 = true ∧ PyData.strOk r.2.2 = true

abbrev em : Str := Str.ofString ""
theorem cl_em : cl em = [] := by decide +kernel
theorem nb_iff {r : Row} : nb r = true ↔ cl r.2.1 ≠ [] := by
  unfold nb
  show (cl r.2.1 != cl em) = true ↔ _
  rw [cl_em]; simp
theorem nb_not {r : Row} (h : ¬ nb r = true) : cl r.2.1 = [] := by
  rw [nb_iff] at h; exact Classical.not_not.mp h
theorem cl_text (r : Row) : cl (textOf r) = cl r.1 ++ cl r.2.1 ++ cl r.2.2 := by unfold textOf; rw [cl_append, cl_append]
theorem text_no {r : Row} (h : WR r) : 10 ∉ cl (textOf r) := by
  rw [cl_text]
  intro q
  rcases List.mem_append.mp q with q | q
  · rcases List.mem_append.mp q with q | q
    · exact (h.lead _ q).2 rfl
    · exact h.core _ q rfl
  · exact (h.tail _ q).2 rfl
theorem text_blank {r : Row} (h : WR r) (hb : ¬ nb r = true) : ∀ c ∈ cl (textOf r), sp c = true := by
  rw [cl_text, nb_not hb, List.append_nil]
  intro c q
  rcases List.mem_append.mp q with q | q
  · exact (h.lead _ q).1
  · exact (h.tail _ q).1
def hd2 (r : Row) : Str := r.2.1 ++ r.2.2
theorem cl_hd2 (r : Row) : cl (hd2 r) = cl r.2.1 ++ cl r.2.2 := cl_append _ _
theorem hd2_no {r : Row} (h : WR r) : 10 ∉ cl (hd2 r) := by
  rw [cl_hd2]
  intro q
  rcases List.mem_append.mp q with q | q
  · exact h.core _ q rfl
  · exact (h.tail _ q).2 rfl

/-- the lines behind the white ahead -/
def linesOf (r : Row) (rest : List Row) : List (List Nat) := cl (hd2 r) :: rest.map fun q => cl (textOf q)
theorem lstrip_doc {r : Row} {rest : List Row} (hr : WR r) (hn : nb r = true) : lstripL (joinL 10 (cl (textOf r) :: rest.map fun q => cl (textOf q))) = joinL 10 (linesOf r rest) := by
  rw [cl_text, List.append_assoc, joinL_head, lstrip_all fun c hc => (hr.lead c hc).1, ← cl_hd2]
  have hne := nb_iff.mp hn
  cases hk : cl r.2.1 with
  | nil => exact absurd hk hne
  | cons a k =>
    have ha : sp a = false := hr.first a (by rw [hk]; rfl)
    rw [linesOf, cl_hd2, hk, List.cons_append]
    have : joinL 10 ((a :: (k ++ cl r.2.2)) :: rest.map fun q => cl (textOf q)) = a :: joinL 10 ((k ++ cl r.2.2) :: rest.map fun q => cl (textOf q)) := by
      have := joinL_head (c := 10) (x := [a]) (y := k ++ cl r.2.2) (r := rest.map fun q => cl (textOf q))
      simpa using this
    rw [this, lstrip_stop ha]

/-- the rows of a doc that was stripped behind: the last row is not blank, nothing behind its word -/
structure Tight (U : List Row) : Prop where
  all : ∀ r ∈ U, WR r
  last : ∀ r, U.getLast? = some r → nb r = true ∧ cl r.2.2 = []
theorem Tight.tail {r : Row} {U : List Row} (h : Tight (r :: U)) : Tight U := by
  refine ⟨fun q hq => h.all q (List.mem_cons_of_mem _ hq), fun q hq => h.last q ?_⟩
  cases U with
  | nil => cases hq
  | cons a b => rw [List.getLast?_cons_cons]; exact hq

theorem lines_last {r : Row} {rest : List Row} (h : Tight (r :: rest)) (hn : nb r = true) : ∃ Y a, joinL 10 (linesOf r rest) = Y ++ [a] ∧ sp a = false := by
  have key : ∀ q : Row, WR q → nb q = true → cl q.2.2 = [] → ∃ Y a, cl q.2.1 = Y ++ [a] ∧ sp a = false := fun q hq hn' ht => by
    have hne := nb_iff.mp hn'
    refine ⟨(cl q.2.1).dropLast, (cl q.2.1).getLast hne, (List.dropLast_concat_getLast hne).symm, hq.last _ (List.getLast?_eq_some_getLast hne)⟩
  cases hrest : rest with
  | nil =>
    subst hrest
    obtain ⟨h1, h2⟩ := h.last r rfl
    obtain ⟨Y, a, e, ha⟩ := key r (h.all r (by simp)) h1 h2
    exact ⟨Y, a, by rw [linesOf, cl_hd2, h2, List.append_nil]; simpa [joinL] using e, ha⟩
  | cons u v =>
    rw [← hrest]
    have hne : rest ≠ [] := by rw [hrest]; simp
    have hl := List.dropLast_concat_getLast hne
    have hlast : (r :: rest).getLast? = some (rest.getLast hne) := by
      have : (r :: rest).getLast? = rest.getLast? := by rw [hrest, List.getLast?_cons_cons]
      rw [this, List.getLast?_eq_some_getLast hne]
    obtain ⟨h1, h2⟩ := h.last _ hlast
    have hw := h.all (rest.getLast hne) (List.mem_cons_of_mem _ (List.getLast_mem hne))
    obtain ⟨Y, a, e, ha⟩ := key _ hw h1 h2
    refine ⟨joinL 10 ((cl (hd2 r) :: rest.dropLast.map fun q => cl (textOf q)) ++ [cl (rest.getLast hne).1 ++ Y]), a, ?_, ha⟩
    rw [← joinL_snoc, linesOf]
    conv => lhs; rw [← hl]
    rw [List.map_append, List.map_cons, List.map_nil, cl_text, h2, List.append_nil, e, ← List.append_assoc]
    rfl
/-- strip of a tight doc whose first row is not blank -/
theorem strip_doc {r : Row} {rest : List Row} (h : Tight (r :: rest)) (hn : nb r = true) :
    rstripL (lstripL (joinL 10 (cl (textOf r) :: rest.map fun q => cl (textOf q)))) = joinL 10 (linesOf r rest) := by
  rw [lstrip_doc (h.all r (by simp)) hn]
  obtain ⟨Y, a, e, ha⟩ := lines_last h hn
  rw [e, rstrip_stop ha]
/-- strip of what strip gave -/
theorem strip_lines {r : Row} {rest : List Row} (h : Tight (r :: rest)) (hn : nb r = true) : rstripL (lstripL (joinL 10 (linesOf r rest))) = joinL 10 (linesOf r rest) := by
  have hne := nb_iff.mp hn
  have hr := h.all r (by simp)
  obtain ⟨Y, a, e, ha⟩ := lines_last h hn
  have hl : lstripL (joinL 10 (linesOf r rest)) = joinL 10 (linesOf r rest) := by
    cases hk : cl r.2.1 with
    | nil => exact absurd hk hne
    | cons b k =>
      have hb : sp b = false := hr.first b (by rw [hk]; rfl)
      rw [linesOf, cl_hd2, hk, List.cons_append]
      have : joinL 10 ((b :: (k ++ cl r.2.2)) :: rest.map fun q => cl (textOf q)) = b :: joinL 10 ((k ++ cl r.2.2) :: rest.map fun q => cl (textOf q)) := by
        have := joinL_head (c := 10) (x := [b]) (y := k ++ cl r.2.2) (r := rest.map fun q => cl (textOf q))
        simpa using this
      rw [this, lstrip_stop hb]
  rw [hl, e, rstrip_stop ha]
theorem lines_no {r : Row} {rest : List Row} (h : Tight (r :: rest)) : ∀ y ∈ linesOf r rest, 10 ∉ y := by
  intro y hy
  rcases List.mem_cons.mp hy with rfl | hy
  · exact hd2_no (h.all r (by simp))
  · obtain ⟨q, hq, rfl⟩ := List.mem_map.mp hy
    exact text_no (h.all q (List.mem_cons_of_mem _ hq))
end Mine

/-! part PL2 -/
namespace Mine
open PySem PySem.W PyProof.Rows PySem.Calls PySem.Spec

theorem map_cl_inj : ∀ {a b : List Str}, a.map cl = b.map cl → a = b
  | [], [], _ => rfl
  | [], _ :: _, h => by cases h
  | _ :: _, [], h => by cases h
  | x :: a, y :: b, h => by
    rw [List.map_cons, List.map_cons] at h
    obtain ⟨h1, h2⟩ := List.cons.inj h
    rw [cl_inj h1, map_cl_inj h2]
theorem cl_empty : cl Str.empty = [] := rfl
theorem em_eq : Str.ofString "" = Str.empty := by decide +kernel
theorem strLen_zero {x : Str} : x.length = 0 ↔ cl x = [] := by rw [← cl_length, List.length_eq_zero_iff]
theorem blankS_iff {x : Str} : blankS x = true ↔ cl x ≠ [] := by
  unfold blankS
  show (cl x != cl em) = true ↔ _
  rw [cl_em]; simp

theorem rstrip_text {q : Row} (hq : WR q) : (Txt.rstrip (textOf q)).length = 0 ↔ ¬ nb q = true := by
  rw [strLen_zero, cl_rstrip]
  constructor
  · intro h hn
    have hne := nb_iff.mp hn
    have hl := hq.last _ (List.getLast?_eq_some_getLast hne)
    rw [cl_text, rstrip_all fun c hc => (hq.tail c hc).1, ← List.dropLast_concat_getLast hne, ← List.append_assoc, rstrip_stop hl] at h
    simp at h
  · intro hb
    have := rstrip_all (Y := []) (text_blank hq hb)
    rw [List.nil_append] at this
    rw [this]; rfl

theorem split_doc {x : Str} {r : Row} {rest : List Row} (h : Tight (r :: rest)) (hx : rstripL (lstripL (cl x)) = joinL 10 (linesOf r rest)) : Txt.split (Txt.strip x) nl = hd2 r :: rest.map textOf := by
  refine map_cl_inj ?_
  refine (split_of (A := linesOf r rest) (by simp [linesOf]) (lines_no h) ?_).trans ?_
  · rw [cl_strip, hx]
  · rw [linesOf, List.map_cons, List.map_map]; rfl
theorem splitF_one {x : Str} {r : Row} (h : Tight [r]) (hx : rstripL (lstripL (cl x)) = joinL 10 (linesOf r [])) : splitF x = (hd2 r, Str.empty) := by
  unfold splitF; rw [split_doc h hx]; rfl
theorem splitF_two {x : Str} {r q : Row} {rest : List Row} (h : Tight (r :: q :: rest)) (hx : rstripL (lstripL (cl x)) = joinL 10 (linesOf r (q :: rest))) :
    splitF x = if nb q = true then (Str.empty, Txt.join nl (hd2 r :: (q :: rest).map textOf)) else (hd2 r, Txt.join nl (rest.map textOf)) := by
  unfold splitF; rw [split_doc h hx]
  rw [if_neg (by simp)]
  have e1 : (hd2 r :: (q :: rest).map textOf).getD 1 Str.empty = textOf q := rfl
  rw [e1]
  have hq := h.all q (by simp)
  by_cases hn : nb q = true
  · rw [if_pos hn, if_neg (by rw [rstrip_text hq]; exact fun z => z hn)]
  · rw [if_neg hn, if_pos ((rstrip_text hq).mpr hn)]; rfl

def peel : List Row → List (Str × Str)
  | [] => []
  | [r] => if nb r = true then [(hd2 r, Str.empty)] else []
  | r :: q :: rest =>
    if nb r = true then (if nb q = true then [(Str.empty, Txt.join nl (hd2 r :: (q :: rest).map textOf))] else (hd2 r, Txt.join nl (rest.map textOf)) :: peel (q :: rest))
    else peel (q :: rest)
theorem peel_blank {q : Row} {rest : List Row} (h : ¬ nb q = true) : peel (q :: rest) = peel rest := by
  cases rest with
  | nil => simp [peel, h]
  | cons a b => rw [peel, if_neg h]
theorem peel_ne : ∀ {U : List Row}, Tight U → U ≠ [] → peel U ≠ []
  | [], _, h => absurd rfl h
  | [r], h, _ => by rw [peel, if_pos (h.last r rfl).1]; simp
  | r :: q :: rest, h, _ => by
    rw [peel]
    split
    · split <;> simp
    · exact peel_ne h.tail (by simp)

def stepN : Nat → List (Str × Str) → List (Str × Str)
  | 0, t => t
  | n + 1, t => stepN n (toldStep t)
theorem stepN_comm : ∀ n t, stepN n (toldStep t) = toldStep (stepN n t)
  | 0, _ => rfl
  | n + 1, t => stepN_comm n (toldStep t)
theorem toldN_step (x : Str) : ∀ n, toldN x n = stepN n [splitF x]
  | 0 => rfl
  | n + 1 => by rw [toldN, toldN_step x n, ← stepN_comm]; rfl
theorem lastOf_snoc (acc : List (Str × Str)) (p : Str × Str) : lastOf (acc ++ [p]) = p := by
  unfold lastOf
  rw [List.getD_eq_getElem?_getD, List.length_append, List.length_singleton, Nat.add_sub_cancel, List.getElem?_append_right (Nat.le_refl _)]
  simp
theorem toldStep_stay {acc : List (Str × Str)} {p : Str × Str} (h : cl p.1 = [] ∨ cl p.2 = []) : toldStep (acc ++ [p]) = acc ++ [p] := by
  unfold toldStep
  rw [lastOf_snoc, if_neg]
  intro q
  rw [Bool.and_eq_true, blankS_iff, blankS_iff] at q
  rcases h with h | h
  · exact q.1 h
  · exact q.2 h
theorem stepN_stay {acc : List (Str × Str)} {p : Str × Str} (h : cl p.1 = [] ∨ cl p.2 = []) : ∀ n, stepN n (acc ++ [p]) = acc ++ [p]
  | 0 => rfl
  | n + 1 => by rw [stepN, toldStep_stay h]; exact stepN_stay h n
theorem toldStep_go {acc : List (Str × Str)} {p : Str × Str} (h1 : cl p.1 ≠ []) (h2 : cl p.2 ≠ []) : toldStep (acc ++ [p]) = (acc ++ [p]) ++ [splitF p.2] := by
  unfold toldStep
  rw [lastOf_snoc, if_pos]
  rw [Bool.and_eq_true, blankS_iff, blankS_iff]
  exact ⟨h1, h2⟩

abbrev docL (U : List Row) : List Nat := joinL 10 (U.map fun q => cl (textOf q))
theorem docL_skip {r : Row} {U : List Row} (hr : WR r) (hb : ¬ nb r = true) (hU : U ≠ []) : lstripL (docL (r :: U)) = lstripL (docL U) := by
  unfold docL
  rw [List.map_cons, joinL_cons_ne (by simpa using hU)]
  rw [lstrip_all (text_blank hr hb)]
  exact lstrip_all (W := [10]) fun c hc => by rw [List.mem_singleton.mp hc]; exact sp10
theorem docL_ne {U : List Row} (h : Tight U) (hU : U ≠ []) : docL U ≠ [] := by
  intro e
  have hm := List.getLast_mem hU
  obtain ⟨h1, _⟩ := h.last _ (List.getLast?_eq_some_getLast hU)
  have hne := nb_iff.mp h1
  obtain ⟨c, k, hk⟩ := List.exists_cons_of_ne_nil hne
  have : c ∈ docL U := joinL_sub (List.mem_map_of_mem (f := fun q => cl (textOf q)) hm) c (by show c ∈ cl (textOf _); rw [cl_text, hk]; simp)
  rw [e] at this; cases this

theorem told_peel : ∀ (k : Nat) (U : List Row), U.length ≤ k → ∀ (n : Nat) (acc : List (Str × Str)) (x : Str), Tight U → U ≠ [] → U.length ≤ n → rstripL (lstripL (cl x)) = rstripL (lstripL (docL U)) →
    stepN n (acc ++ [splitF x]) = acc ++ peel U
  | 0, U, hk, _, _, _, _, hU, _, _ => by
    cases U with
    | nil => exact absurd rfl hU
    | cons a b => simp at hk
  | k + 1, [], _, _, _, _, _, hU, _, _ => absurd rfl hU
  | k + 1, [r], _, n, acc, x, hT, _, _, hx => by
    have hn := (hT.last r rfl).1
    rw [splitF_one hT (hx.trans (strip_doc hT hn)), stepN_stay (.inr rfl), peel, if_pos hn]
  | k + 1, r :: q :: rest, hk, n, acc, x, hT, _, hlen, hx => by
    have hr := hT.all r (by simp)
    have hq := hT.all q (by simp)
    by_cases hn : nb r = true
    · have hs := splitF_two hT (hx.trans (strip_doc hT hn))
      rw [peel, if_pos hn]
      by_cases hnq : nb q = true
      · rw [if_pos hnq] at hs ⊢
        rw [hs, stepN_stay (.inl rfl)]
      · rw [if_neg hnq] at hs ⊢
        have hrest : rest ≠ [] := by
          rintro rfl
          exact hnq (hT.last q rfl).1
        have hT' := hT.tail.tail
        have hd : cl (Txt.join nl (rest.map textOf)) = docL rest := by
          rw [cl_join, List.map_map]; rfl
        rw [hs]
        have h1 : cl (hd2 r) ≠ [] := by
          rw [cl_hd2]
          have := nb_iff.mp hn
          intro e
          exact this (List.append_eq_nil_iff.mp e).1
        have h2 : cl (Txt.join nl (rest.map textOf)) ≠ [] := by rw [hd]; exact docL_ne hT' hrest
        cases n with
        | zero => simp at hlen
        | succ n =>
          rw [stepN, toldStep_go h1 h2, told_peel k rest (by simp at hk; omega) n (acc ++ [(hd2 r, Txt.join nl (rest.map textOf))]) _ hT' hrest (by simp at hlen; omega) (by rw [hd]), peel_blank hnq]
          simp
    · rw [peel, if_neg hn]
      refine told_peel k (q :: rest) (by simp at hk ⊢; omega) n acc x hT.tail (by simp) (by simp at hlen ⊢; omega) ?_
      rw [hx, docL_skip hr hn (by simp)]

theorem lastOf_cons {p : Str × Str} {l : List (Str × Str)} (h : l ≠ []) : lastOf (p :: l) = lastOf l := by
  unfold lastOf
  have hp := List.length_pos_iff.mpr h
  rw [List.length_cons, List.getD_eq_getElem?_getD, List.getD_eq_getElem?_getD]
  have : l.length + 1 - 1 = (l.length - 1) + 1 := by omega
  rw [this, List.getElem?_cons_succ]
theorem peel_last : ∀ {U : List Row}, Tight U → U ≠ [] → splitF ((lastOf (peel U)).1 ++ (lastOf (peel U)).2) = lastOf (peel U)
  | [], _, h => absurd rfl h
  | [r], hT, _ => by
    have hn := (hT.last r rfl).1
    rw [peel, if_pos hn]
    show splitF (hd2 r ++ Str.empty) = (hd2 r, Str.empty)
    refine splitF_one hT ?_
    have e : cl (hd2 r ++ Str.empty) = joinL 10 (linesOf r []) := by rw [cl_append, cl_empty, List.append_nil]; rfl
    rw [e, strip_lines hT hn]
  | r :: q :: rest, hT, _ => by
    rw [peel]
    split
    · rename_i hn
      split
      · rename_i hnq
        show splitF (Str.empty ++ Txt.join nl (hd2 r :: (q :: rest).map textOf)) = (Str.empty, Txt.join nl (hd2 r :: (q :: rest).map textOf))
        have e : cl (Str.empty ++ Txt.join nl (hd2 r :: (q :: rest).map textOf)) = joinL 10 (linesOf r (q :: rest)) := by
          rw [cl_append, cl_empty, List.nil_append, cl_join, List.map_cons, List.map_map]; rfl
        rw [splitF_two hT (by rw [e, strip_lines hT hn]), if_pos hnq]
      · rw [lastOf_cons (peel_ne hT.tail (by simp))]
        exact peel_last hT.tail (by simp)
    · exact peel_last hT.tail (by simp)
end Mine

/-! part PL3 -/
namespace Mine
open PySem PySem.W PyProof.Rows PySem.Calls PySem.Spec

/-! the indices of the rows that are not blank -/
def idx : Nat → List Row → List Nat
  | _, [] => []
  | o, r :: rest => if nb r = true then o :: idx (o + 1) rest else idx (o + 1) rest
theorem idx_eq : ∀ (rows : List Row) (o : Nat), ((List.range rows.length).filter fun i => nb (rowAt rows i)).map (· + o) = idx o rows
  | [], o => rfl
  | r :: rest, o => by
    have ih := idx_eq rest (o + 1)
    rw [List.length_cons, List.range_succ_eq_map, List.filter_cons, idx]
    have e0 : rowAt (r :: rest) 0 = r := rfl
    have e1 : (fun i => nb (rowAt (r :: rest) i)) ∘ Nat.succ = fun i => nb (rowAt rest i) := rfl
    rw [e0, List.filter_map, e1]
    have e2 : (List.map Nat.succ (List.filter (fun i => nb (rowAt rest i)) (List.range rest.length))).map (· + o) = idx (o + 1) rest := by
      rw [← ih, List.map_map]
      refine List.map_congr_left fun i _ => ?_
      show i.succ + o = i + (o + 1)
      omega
    split
    · rw [List.map_cons, e2, Nat.zero_add]
    · exact e2
theorem full_idx (rows : List Row) : fullL rows = idx 0 rows := by
  rw [← idx_eq rows 0]
  have : (fun x : Nat => x + 0) = id := rfl
  rw [this, List.map_id]; rfl

theorem last_max {k : Nat} : ∀ {l : List Nat}, l.Pairwise (· < ·) → k ∈ l → k ≤ l.getD (l.length - 1) 0
  | [a], _, h => by simp at h; subst h; simp
  | a :: b :: r, hp, h => by
    have hp' := List.pairwise_cons.mp hp
    have e : (a :: b :: r).getD ((a :: b :: r).length - 1) 0 = (b :: r).getD ((b :: r).length - 1) 0 := by simp [List.getD_eq_getElem?_getD]
    rw [e]
    rcases List.mem_cons.mp h with rfl | h
    · have h1 := last_max hp'.2 (List.mem_cons_self (a := b) (l := r))
      have h2 := hp'.1 b (by simp)
      omega
    · exact last_max hp'.2 h
theorem full_max {rows : List Row} {k : Nat} (h : k ∈ fullL rows) : k ≤ endOf rows := last_max (List.Pairwise.filter _ List.pairwise_lt_range) h

section
variable {rows : List Row}
def tr (rows : List Row) (e : Nat) : List Row := rows.take e ++ [((rowAt rows e).1, (rowAt rows e).2.1, Str.ofString "")]
theorem str_em (x : Str) : x ++ Str.ofString "" = x := cl_inj (by rw [cl_append]; show cl x ++ cl em = _; rw [cl_em, List.append_nil])
theorem tr_texts (e : Nat) : (tr rows e).map textOf = textsL rows e := by
  unfold tr textsL
  rw [List.map_append, List.map_cons, List.map_nil]
  exact congrArg (fun z => List.map textOf (List.take e rows) ++ [z]) (str_em _)
theorem tr_len {e : Nat} (h : e < rows.length) : (tr rows e).length = e + 1 := by
  unfold tr; rw [List.length_append, List.length_take, List.length_singleton]; omega
theorem tr_lt {e j : Nat} (h : e < rows.length) (hj : j < e) : (tr rows e).drop j = rowAt rows j :: (tr rows e).drop (j + 1) := by
  have hl := tr_len h
  rw [List.drop_eq_getElem_cons (by omega)]
  congr 1
  unfold tr
  rw [List.getElem_append_left (by rw [List.length_take]; omega), List.getElem_take]
  unfold rowAt
  rw [List.getD_eq_getElem?_getD, List.getElem?_eq_getElem (by omega)]; rfl
theorem tr_end {e : Nat} (h : e < rows.length) : (tr rows e).drop e = [((rowAt rows e).1, (rowAt rows e).2.1, Str.ofString "")] := by
  unfold tr
  have : (rows.take e).length = e := by rw [List.length_take]; omega
  rw [List.drop_append, this]
  simp
theorem tr_past {e j : Nat} (h : e < rows.length) (hj : e < j) : (tr rows e).drop j = [] := List.drop_eq_nil_of_le (by rw [tr_len h]; omega)
theorem nb_em {r : Row} : nb (r.1, r.2.1, Str.ofString "") = nb r := rfl

theorem go_peel {e : Nat} (he : e < rows.length) (hne : nb (rowAt rows e) = true) (hb : ∀ i, e < i → i < rows.length → ¬ nb (rowAt rows i) = true) :
    ∀ (m j : Nat) (acc : List (Str × Str)), j + m = rows.length → dueGo rows e (idx j (rows.drop j)) acc = acc ++ peel ((tr rows e).drop j)
  | 0, j, acc, hj => by
    rw [List.drop_eq_nil_of_le (by omega : rows.length ≤ j), idx, dueGo, tr_past he (by omega), peel, List.append_nil]
  | m + 1, j, acc, hj => by
    have hjl : j < rows.length := by omega
    have ih := fun acc => go_peel he hne hb m (j + 1) acc (by omega)
    have hd : rows.drop j = rowAt rows j :: rows.drop (j + 1) := by
      rw [List.drop_eq_getElem_cons hjl]
      congr 1
      unfold rowAt
      rw [List.getD_eq_getElem?_getD, List.getElem?_eq_getElem hjl]; rfl
    rw [hd, idx]
    by_cases hje : e < j
    · rw [if_neg (hb j hje hjl), ih, tr_past he hje, tr_past he (by omega)]
    · by_cases hn : nb (rowAt rows j) = true
      · rw [if_pos hn, dueGo]
        by_cases hlt : j < e
        · rw [tr_lt he hlt]
          have hhead : headOf rows e j = hd2 (rowAt rows j) := by unfold headOf hd2; rw [if_pos hlt]
          obtain ⟨t, ht, hnt⟩ : ∃ t, (tr rows e).drop (j + 1) = t :: (tr rows e).drop (j + 2) ∧ nb t = nb (rowAt rows (j + 1)) := by
            by_cases h1 : j + 1 < e
            · exact ⟨_, tr_lt he h1, rfl⟩
            · have h2 : j + 1 = e := by omega
              refine ⟨((rowAt rows e).1, (rowAt rows e).2.1, Str.ofString ""), ?_, by rw [nb_em, h2]⟩
              rw [h2, tr_end he, tr_past he (by omega)]
          have hearly : early rows e j = nb (rowAt rows (j + 1)) := by unfold early; rw [decide_eq_true hlt, Bool.true_and]
          rw [hearly, ht, peel, if_pos hn, hnt]
          by_cases hn1 : nb (rowAt rows (j + 1)) = true
          · rw [if_pos hn1, if_pos hn1]
            unfold lastItem
            rw [hhead, ← tr_texts, ← List.map_drop, ht, em_eq]; rfl
          · rw [if_neg hn1, if_neg hn1, ih, ht]
            unfold itemAt
            rw [hhead, ← tr_texts, ← List.map_drop]
            simp
        · have heq : j = e := by omega
          subst heq
          have hearly : ¬ early rows j j = true := by unfold early; simp
          rw [if_neg hearly, ih, tr_end he, tr_past he (by omega), peel, List.append_nil, peel, if_pos (by rw [nb_em]; exact hn)]
          unfold itemAt
          rw [← tr_texts, ← List.map_drop, tr_past he (by omega)]
          have hhead : headOf rows j j = hd2 ((rowAt rows j).1, (rowAt rows j).2.1, Str.ofString "") := by unfold headOf hd2; rw [if_neg (Nat.lt_irrefl _)]
          rw [hhead]; rfl
      · have hlt : j < e := by
          rcases Nat.lt_or_ge j e with h | h
          · exact h
          · have : j = e := by omega
            subst this; exact absurd hne hn
        rw [if_neg hn, ih, tr_lt he hlt, peel_blank hn]

theorem blank_past {e : Nat} (hE : endOf rows = e) : ∀ i, e < i → i < rows.length → ¬ nb (rowAt rows i) = true := fun i hi hl hn => by
  have : i ∈ fullL rows := List.mem_filter.mpr ⟨List.mem_range.mpr hl, hn⟩
  have := full_max this
  omega
theorem tr_tight {e : Nat} (hw : ∀ r ∈ rows, WR r) (he : e < rows.length) (hne : nb (rowAt rows e) = true) : Tight (tr rows e) := by
  have hwe := hw _ (rowAt_mem he)
  have h0 : (Str.ofString "").length = 0 := by decide +kernel
  have hem : WR ((rowAt rows e).1, (rowAt rows e).2.1, Str.ofString "") :=
    { lead := hwe.lead
      tail := fun c hc => by
        have hc' : c ∈ cl em := hc
        rw [cl_em] at hc'
        cases hc'
      core := hwe.core
      first := hwe.first
      last := hwe.last
      len := by
        have := hwe.len
        show (rowAt rows e).1.length + (rowAt rows e).2.1.length + (Str.ofString "").length ≤ 20
        omega
      ok := ⟨hwe.ok.1, hwe.ok.2.1, show PyData.strOk (Str.ofString "") = true by decide +kernel⟩ }
  refine ⟨fun r hr => ?_, fun r hr => ?_⟩
  · rcases List.mem_append.mp hr with hr | hr
    · exact hw r (List.mem_of_mem_take hr)
    · rw [List.mem_singleton.mp hr]; exact hem
  · unfold tr at hr
    simp at hr; subst hr
    exact ⟨hne, cl_em⟩
theorem strip_tr {e : Nat} (hw : ∀ r ∈ rows, WR r) (he : e < rows.length) (hne : nb (rowAt rows e) = true) (hb : ∀ i, e < i → i < rows.length → ¬ nb (rowAt rows i) = true) :
    rstripL (lstripL (docL rows)) = rstripL (lstripL (docL (tr rows e))) := by
  have hwe := hw _ (rowAt_mem he)
  have hrows : rows = rows.take e ++ [rowAt rows e] ++ rows.drop (e + 1) := by
    conv => lhs; rw [← List.take_append_drop e rows, List.drop_eq_getElem_cons he]
    have : rowAt rows e = rows[e] := by unfold rowAt; rw [List.getD_eq_getElem?_getD, List.getElem?_eq_getElem he]; rfl
    rw [this]; simp
  have e1 : docL rows = docL (tr rows e) ++ (cl (rowAt rows e).2.2 ++ ((rows.drop (e + 1)).map fun q => cl (textOf q)).flatMap (10 :: ·)) := by
    unfold docL
    conv => lhs; rw [hrows]
    rw [List.map_append, joinL_app (by simp), List.map_append, List.map_cons, List.map_nil, cl_text]
    rw [joinL_snoc]
    unfold tr
    rw [List.map_append, List.map_cons, List.map_nil, cl_text]
    rw [show cl ((rowAt rows e).1, (rowAt rows e).2.1, Str.ofString "").2.2 = [] from cl_em, List.append_nil, List.append_assoc]
  rw [e1]
  refine strip_append ?_ ?_
  · have hn := nb_iff.mp hne
    obtain ⟨c, k, hk⟩ := List.exists_cons_of_ne_nil hn
    refine ⟨c, ?_, hwe.first c (by rw [hk]; rfl)⟩
    refine joinL_sub (p := cl (textOf ((rowAt rows e).1, (rowAt rows e).2.1, Str.ofString ""))) ?_ c ?_
    · exact List.mem_map_of_mem (f := fun q => cl (textOf q)) (by unfold tr; simp)
    · rw [cl_text]
      show c ∈ cl (rowAt rows e).1 ++ cl (rowAt rows e).2.1 ++ _
      rw [hk]; simp
  · intro c hc
    rcases List.mem_append.mp hc with hc | hc
    · exact (hwe.tail c hc).1
    · obtain ⟨y, hy, hc⟩ := List.mem_flatMap.mp hc
      obtain ⟨q, hq, rfl⟩ := List.mem_map.mp hy
      rcases List.mem_cons.mp hc with rfl | hc
      · exact sp10
      · obtain ⟨i, hi, rfl⟩ := List.mem_iff_getElem.mp hq
        rw [List.length_drop] at hi
        rw [List.getElem_drop] at hc
        have hidx : rows[e + 1 + i] = rowAt rows (e + 1 + i) := by unfold rowAt; rw [List.getD_eq_getElem?_getD, List.getElem?_eq_getElem (by omega)]; rfl
        rw [hidx] at hc
        exact text_blank (hw _ (rowAt_mem (by omega))) (hb (e + 1 + i) (by omega) (by omega)) c hc

/-- the plain law -/
theorem plain_law (hw : ∀ r ∈ rows, WR r) : toldN (docOf' rows) rows.length = dueF rows ∧ splitF ((lastOf (dueF rows)).1 ++ (lastOf (dueF rows)).2) = lastOf (dueF rows) := by
  have hdoc : cl (docOf' rows) = docL rows := by unfold docOf'; rw [cl_join, List.map_map]; rfl
  by_cases h0 : fullL rows = []
  · have hd : dueF rows = [(Str.empty, Str.empty)] := by
      unfold dueF; rw [if_pos h0, em_eq]
    have hall : ∀ c ∈ docL rows, sp c = true := by
      refine joinL_all sp10 fun p hp c hc => ?_
      obtain ⟨q, hq, rfl⟩ := List.mem_map.mp hp
      obtain ⟨i, hi, rfl⟩ := List.mem_iff_getElem.mp hq
      refine text_blank (hw _ hq) (fun hn => ?_) c hc
      have : i ∈ fullL rows := List.mem_filter.mpr ⟨List.mem_range.mpr hi, by
        unfold rowAt; rw [List.getD_eq_getElem?_getD, List.getElem?_eq_getElem hi]; exact hn⟩
      rw [h0] at this; cases this
    have hsp : ∀ x : Str, rstripL (lstripL (cl x)) = [] → splitF x = (Str.empty, Str.empty) := fun x hx => by
      have : Txt.split (Txt.strip x) nl = [Str.empty] := by
        refine map_cl_inj (split_of (A := [[]]) (by simp) (by simp) ?_)
        rw [cl_strip, hx]; rfl
      unfold splitF; rw [this]; rfl
    rw [hd]
    refine ⟨?_, ?_⟩
    · rw [toldN_step, hsp _ (by rw [hdoc]; exact strip_all hall)]
      exact stepN_stay (acc := []) (.inl rfl) _
    · exact hsp _ rfl
  · have hem := endOf_mem h0
    have hel := full_lt hem
    have hne : nb (rowAt rows (endOf rows)) = true := (List.mem_filter.mp hem).2
    have hb := blank_past (rows := rows) rfl
    have hT := tr_tight hw hel hne
    have hTn : tr rows (endOf rows) ≠ [] := by unfold tr; simp
    have hd : dueF rows = peel (tr rows (endOf rows)) := by
      unfold dueF
      rw [if_neg h0, full_idx]
      have := go_peel hel hne hb rows.length 0 [] (by omega)
      simpa using this
    rw [hd]
    refine ⟨?_, peel_last hT hTn⟩
    rw [toldN_step]
    have := told_peel _ (tr rows (endOf rows)) (Nat.le_refl _) rows.length [] (docOf' rows) hT hTn (by rw [tr_len hel]; omega) (by rw [hdoc]; exact strip_tr hw hel hne hb)
    simpa using this
end
end Mine

/-! part PL4 -/
namespace Mine
open PySem PySem.W PyProof.Rows PySem.Calls PySem.Spec

theorem wl_sp : ∀ c ∈ wl, sp c = true ∧ c ≠ 10 := by decide +kernel
theorem within_mem {c : Nat} : ∀ {l : List (Nat × Nat)}, Unicode.within l c = true → ∃ p ∈ l, p.1 ≤ c ∧ c ≤ p.2
  | [], h => by cases h
  | (a, b) :: r, h => by
    rw [Unicode.within] at h
    split at h
    · cases h
    · rename_i hca
      rcases Bool.or_eq_true_iff.mp h with h | h
      · exact ⟨(a, b), by simp, by omega, of_decide_eq_true h⟩
      · obtain ⟨p, hp, q⟩ := within_mem h
        exact ⟨p, List.mem_cons_of_mem _ hp, q⟩
theorem sp_wl {c : Nat} (h : sp c = true) : c = 10 ∨ c ∈ wl := by
  obtain ⟨p, hp, h1, h2⟩ := within_mem (l := UnicodeData.space) h
  have key : (9 ≤ c ∧ c ≤ 13) ∨ (28 ≤ c ∧ c ≤ 32) ∨ c = 133 ∨ c = 160 ∨ c = 5760 ∨ (8192 ≤ c ∧ c ≤ 8202) ∨ (8232 ≤ c ∧ c ≤ 8233) ∨ c = 8239 ∨ c = 8287 ∨ c = 12288 := by
    simp only [UnicodeData.space, UnicodeData.space0, List.mem_cons, List.not_mem_nil, or_false] at hp
    rcases hp with hp | hp | hp | hp | hp | hp | hp | hp | hp | hp <;> subst hp <;> simp only at h1 h2 <;> omega
  have : c = 9 ∨ c = 10 ∨ c = 11 ∨ c = 12 ∨ c = 13 ∨ c = 28 ∨ c = 29 ∨ c = 30 ∨ c = 31 ∨ c = 32 ∨ c = 133 ∨ c = 160 ∨ c = 5760 ∨ c = 8192 ∨ c = 8193 ∨ c = 8194 ∨ c = 8195 ∨ c = 8196 ∨ c = 8197 ∨ c = 8198 ∨ c = 8199 ∨ c = 8200 ∨ c = 8201 ∨ c = 8202 ∨ c = 8232 ∨ c = 8233 ∨ c = 8239 ∨ c = 8287 ∨ c = 12288 := by omega
  rcases this with h | h | h | h | h | h | h | h | h | h | h | h | h | h | h | h | h | h | h | h | h | h | h | h | h | h | h | h | h <;> subst h <;> first | exact .inl rfl | exact .inr (by decide)

/-- a row's own look at itself -/
def wrB (r : Row) : Bool :=
  (cl r.1).all (fun c => sp c && c != 10) && (cl r.2.2).all (fun c => sp c && c != 10) && (cl r.2.1).all (fun c => c != 10) &&
  (match (cl r.2.1).head? with | some c => !sp c | none => true) && (match (cl r.2.1).getLast? with | some c => !sp c | none => true) &&
  decide (r.1.length + r.2.1.length + r.2.2.length ≤ 20) && PyData.strOk r.1 && PyData.strOk r.2.1 && PyData.strOk r.2.2
theorem WR.of {r : Row} (h : wrB r = true) : WR r := by
  unfold wrB at h
  simp only [Bool.and_eq_true, List.all_eq_true, bne_iff_ne, ne_eq, decide_eq_true_eq] at h
  obtain ⟨⟨⟨⟨⟨⟨⟨⟨h1, h2⟩, h3⟩, h4⟩, h5⟩, h6⟩, h7⟩, h8⟩, h9⟩ := h
  refine ⟨h1, h2, h3, fun c hc => ?_, fun c hc => ?_, h6, h7, h8, h9⟩
  · rw [hc] at h4; simpa using h4
  · rw [hc] at h5; simpa using h5

theorem fix_wr : ∀ r ∈ (fix5 ++ fix4) ++ fix3, wrB r = true := by decide +kernel
theorem core_wr : ∀ y ∈ coreL, (∀ c ∈ cl y, c ≠ 10) ∧ ((cl y).head?.map sp == some false) = true ∧ ((cl y).getLast?.map sp == some false) = true ∧ y.length ≤ 4 ∧ PyData.strOk y = true := by decide +kernel

theorem pad_all {i n : Int} (i0 : 0 ≤ i) (i1 : i < 28) (h0 : 0 ≤ n) (h1 : n < 3) : ∀ c ∈ cl (pad i n), sp c = true ∧ c ≠ 10 := by
  rw [pad_cl h0 h1]
  intro c hc
  rw [(List.mem_replicate.mp hc).2]
  exact wl_sp _ (wl_mem i0 i1)
theorem pad_len {i n : Int} (h0 : 0 ≤ n) (h1 : n < 3) : (pad i n).length ≤ 2 := by
  rw [← cl_length, pad_cl h0 h1, List.length_replicate]; omega
theorem empty_all {P : Nat → Prop} : ∀ c ∈ cl Str.empty, P c := fun c hc => by cases hc

theorem row_wr (x : Int) : WR (rowF x) := by
  have b28 := fmod_bd (x.fdiv 4) (b := 28) (by decide)
  have b3 := fmod_bd (x.fdiv 4) (b := 3) (by decide)
  have c28 := fmod_bd ((x.fdiv 4).fdiv 84) (b := 28) (by decide)
  have c3 := fmod_bd ((x.fdiv 4).fdiv 7) (b := 3) (by decide)
  have b4 := fmod_bd ((x.fdiv 4).fdiv 3) (b := 4) (by decide)
  have hemp : PyData.strOk Str.empty = true := by decide +kernel
  have h0 : Str.empty.length = 0 := rfl
  unfold rowF
  split
  · exact ⟨pad_all b28.1 b28.2 b3.1 b3.2, empty_all, empty_all, (fun c hc => by cases hc), (fun c hc => by cases hc), by have := pad_len (i := (x.fdiv 4).fmod 28) b3.1 b3.2; show (pad _ _).length + 0 + 0 ≤ 20; omega, pad_ok b28.1 b28.2 b3.1 b3.2, hemp, hemp⟩
  · split
    · have hi : (((x.fdiv 4).fdiv 3).fmod 4).toNat < coreL.length := by show _ < 4; omega
      have hm : coreL.getD (((x.fdiv 4).fdiv 3).fmod 4).toNat Str.empty ∈ coreL := by
        rw [List.getD_eq_getElem?_getD, List.getElem?_eq_getElem hi]; exact List.getElem_mem hi
      obtain ⟨k1, k2, k3, k4, k5⟩ := core_wr _ hm
      refine ⟨pad_all b28.1 b28.2 b3.1 b3.2, pad_all c28.1 c28.2 c3.1 c3.2, k1, fun c hc => ?_, fun c hc => ?_, ?_, pad_ok b28.1 b28.2 b3.1 b3.2, k5, pad_ok c28.1 c28.2 c3.1 c3.2⟩
      · have hc' : (cl (coreL.getD (((x.fdiv 4).fdiv 3).fmod 4).toNat Str.empty)).head? = some c := hc
        rw [hc'] at k2; simpa using k2
      · have hc' : (cl (coreL.getD (((x.fdiv 4).fdiv 3).fmod 4).toNat Str.empty)).getLast? = some c := hc
        rw [hc'] at k3; simpa using k3
      · have := pad_len (i := (x.fdiv 4).fmod 28) b3.1 b3.2
        have := pad_len (i := ((x.fdiv 4).fdiv 84).fmod 28) c3.1 c3.2
        show (pad _ _).length + (coreL.getD _ _).length + (pad _ _).length ≤ 20
        omega
    · have hlt := signOf_lt x
      have hok : PyData.strOk ⟨#[signOf x]⟩ = true := by
        rw [strOk_iff]; intro c hc
        have : c = signOf x := by simpa [cl] using hc
        omega
      split
      · exact WR.of (by decide +kernel)
      · rename_i h10
        split
        · rename_i hw
          have hm : signOf x ∈ wl := by simpa using hw
          refine ⟨empty_all, fun c hc => ?_, empty_all, (fun c hc => by cases hc), (fun c hc => by cases hc), by show 0 + 0 + 1 ≤ 20; decide, hemp, hemp, hok⟩
          have : c = signOf x := by simpa [cl] using hc
          subst this; exact wl_sp _ hm
        · rename_i hw
          have hm : signOf x ∉ wl := by simpa using hw
          have hns : sp (signOf x) = false := by
            cases hs : sp (signOf x) with
            | false => rfl
            | true => rcases sp_wl hs with h | h
                      · exact absurd h h10
                      · exact absurd h hm
          refine ⟨empty_all, empty_all, fun c hc => ?_, fun c hc => ?_, fun c hc => ?_, by show 0 + 1 + 0 ≤ 20; decide, hemp, hok, hemp⟩
          · have : c = signOf x := by simpa [cl] using hc
            subst this; exact h10
          · have : signOf x = c := by simpa [cl] using hc
            subst this; exact hns
          · have : signOf x = c := by simpa [cl] using hc
            subst this; exact hns

theorem rows_wr (ns : List Int) : ∀ r ∈ rowsF ns, WR r := by
  intro r hr
  have h1 : ∀ r ∈ (ns.take 24).map rowF, WR r := fun r hr => by
    obtain ⟨x, _, rfl⟩ := List.mem_map.mp hr; exact row_wr x
  unfold rowsF at hr
  split at hr
  · have hr' : r ∈ (ns.take 24).map rowF ++ ((fix5 ++ fix4) ++ fix3) := by simpa [List.append_assoc] using hr
    rcases List.mem_append.mp hr' with hr | hr
    · exact h1 r hr
    · exact WR.of (fix_wr r hr)
  · exact h1 r hr
theorem rows_len (ns : List Int) : (rowsF ns).length ≤ 36 := by
  have : (ns.take 24).length ≤ 24 := by rw [List.length_take]; omega
  unfold rowsF
  split
  · simp only [List.length_append, List.length_map, fix5, fix4, fix3, List.length_cons, List.length_nil]; omega
  · rw [List.length_map]; omega
theorem rows_plain (ns : List Int) : RowsOk (rowsF ns) ∧ toldN (docOf' (rowsF ns)) (rowsF ns).length = dueF (rowsF ns) ∧ splitF ((lastOf (dueF (rowsF ns))).1 ++ (lastOf (dueF (rowsF ns))).2) = lastOf (dueF (rowsF ns)) :=
  ⟨⟨by have := rows_len ns; omega, fun r hr => (rows_wr ns r hr).len, fun r hr => (rows_wr ns r hr).ok⟩, plain_law (rows_wr ns)⟩
end Mine

/-! part END: the head, the ground, the end -/
namespace Mine
open PySem PySem.W PyProof.Rows PySem.Calls PySem.Spec

theorem rep_ints {h : Heap} : ∀ {vs : List Value} {ns : List Int}, IntsAre vs ns → RepL h vs (ns.map PyData.int)
  | _, _, .nil => .nil
  | _, _, .cons n t r => .cons (.int n t) (rep_ints r)

theorem the_end {prog : Program} {w : World} {s₁ : Shared} {mg mb : Str → Option Value} {cd : Value} {fa a : Addr} {h₁ : Heap} {vs : List Value} {ns : List Int} {tk : Nat} {c : ClaimW} {cl : Str → Option Addr} {mean : ExcName → Option Value} {args : List WData}
    {A : Around} {E : Value → Shared → Prop} (hh : A.handled = none) (hu : A.units + 100 < cLine) (hroom : A.depth < recursionLimit) (G : Gd mg mb s₁.heap)
    (F : Fr s₁.heap s₁.heap.objs.size h₁ fun x => List.lookup x [(Str.ofString "script", Value.ref a)].reverse) (hl : s₁.heap.IsList a vs.toArray) (hI : IntsAre vs ns) (hlen : ¬ 63 < (ns.length : Int)) (hgen : s₁.gens = #[])
    (hr : ∀ cls, c.raises args cls = false) (hp : c.post args (.bool true) args = true) :
    wpAny (model prog w) A (execs (defAt 5).2.2.1 (envOf (defAt 5).1 (defAt 5).2.2.2 s₁.heap.objs.size fa cd))
      (fun f s' => GoodW c cl mean args s₁ (.ok (.ret (match f with | .ret v => v | _ => .none))) s') E { s₁ with heap := h₁, toks := tk } := by
  have hns : ns.length ≤ 63 := by omega
  obtain ⟨R, hlaw, hlast⟩ := rows_plain ns
  have hgL : s₁.heap.get? s₁.heap.objs.size = none := by
    cases q : s₁.heap.get? s₁.heap.objs.size with
    | none => rfl
    | some o' => exact absurd (Heap.lt_size q) (Nat.lt_irrefl _)
  refine wpAny_mono (law_body (s := { s₁ with heap := h₁, toks := tk }) (g := s₁.heap) (ns := ns) (m := fun x => List.lookup x [(Str.ofString "script", Value.ref a)].reverse) (ρ := fun y => if y = Str.ofString "script" then some (.list (ns.map PyData.int)) else none) hh hu hroom G F.keep hgL ⟨F.ns, fun y d e => ?_⟩ (if_pos rfl) rfl rfl hns R hlaw hlast)
    (fun f s' q => ?_) fun _ _ f => f.elim
  · by_cases hy : y = Str.ofString "script"
    · subst hy
      rw [if_pos rfl] at e; cases e
      obtain ⟨o, ho, hc⟩ := hl
      exact ⟨_, by simp, .list ⟨o, F.keep _ _ ho, hc⟩ (rep_ints hI)⟩
    · rw [if_neg hy] at e; cases e
  · obtain ⟨rfl, st⟩ := q
    obtain ⟨hb, h', tk', rfl⟩ := st
    exact ⟨.inl ⟨_, _, _, rfl, hr, .bool true, hp, fun _ => ⟨.nil, fun _ q => nomatch q⟩⟩, fun b o e => hb b o (fun q => by subst q; rw [hgL] at e; cases e) (F.keep b o e), rfl, hgen⟩
end Mine

open PySem PySem.W PyProof.Rows PySem.Calls PySem.Spec
set_option maxHeartbeats 8000000 in
theorem PySem.Challenge.cw_mq0465_01_holds : PySem.Challenge.rw_mq0465_01.Holds := by
  w_on
  o_law
  k_head
  case hw => w_witness2
  k_go0
  rename Top _ _ _ _ _ _ => T
  rename Frag.In _ _ => KX
  rename Fr _ _ _ _ => F
  rename IntsAre _ _ => hI
  rename Heap.IsList _ _ _ => hl
  rename (¬ ((63 : Nat) : Int) < _) => hlen
  rename (_ = #[]) => hgen
  have G := Mine.Gd.mk T.nolimit T.g T.b (mg_none_of KX T.g rfl) (mg_none_of KX T.g rfl) (mg_none_of KX T.g rfl) ((T.builtins _ (by decide +kernel)).trans boot_len) ((T.builtins _ (by decide +kernel)).trans boot_range)
    ((T.builtins _ (by decide +kernel)).trans boot_chr) (by
      intro i n hi
      rcases hi with ⟨rfl, rfl⟩ | ⟨rfl, rfl⟩ | ⟨rfl, rfl⟩
      · exact ⟨21, _, _, _, mg_of KX T.g rfl, KX 21 _ rfl, rfl, codeRec_of KX rfl⟩
      · exact ⟨28, _, _, _, mg_of KX T.g rfl, KX 28 _ rfl, rfl, codeRec_of KX rfl⟩
      · exact ⟨33, _, _, _, mg_of KX T.g rfl, KX 33 _ rfl, rfl, codeRec_of KX rfl⟩)
  exact Mine.the_end rfl (show 4 + 3 + 100 < cLine by decide) (show 301 + 1 < recursionLimit by decide) G F hl hI hlen hgen (fun _ => rfl)
    (postW_of (X := (true == true)) rfl (w_eq_bool (k := true) (l := true) (w_res rfl) w_lit) rfl)
