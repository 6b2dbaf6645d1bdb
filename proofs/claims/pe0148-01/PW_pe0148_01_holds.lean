import PyProof.Rows.All
import Wide.All
import OpenK.AllK
import Wide.FinOn
import PySem.Challenge.RW_pe0148_01
set_option Elab.async false

namespace Mine
section
open PySem PySem.W PySem.Calls PyProof.Rows
set_option maxRecDepth 100000
set_option linter.unusedVariables false

inductive D where
  | int (i : Int)
  | flt (b : UInt64)
  | bool (b : Bool)
  | none
  | val (v : Value)
  | tup (l : List D)
  | lst (l : List D)
  | dct (l : List (Int × D))
  | rng (a b : Int)
  | tab (cs : List (Nat × Nat × Str × Addr))

mutual
inductive Rep (prog : Program) (w : World) (X : Addr → Prop) (h : Heap) : D → Value → Prop
  | int (i : Int) (t : Tok) : Rep prog w X h (.int i) (.int i t)
  | flt (b : UInt64) (t : Tok) (ht : t ≠ 0) : Rep prog w X h (.flt b) (.float b t)
  | bool (b : Bool) : Rep prog w X h (.bool b) (.bool b)
  | none : Rep prog w X h .none .none
  | val (v : Value) : Rep prog w X h (.val v) v
  | tup {a : Addr} {ds : List D} {vs : List Value} (hx : ¬ X a) (ha : h.IsTuple a vs.toArray) (hs : Reps prog w X h ds vs) : Rep prog w X h (.tup ds) (.ref a)
  | lst {a : Addr} {ds : List D} {vs : List Value} (hx : ¬ X a) (ha : h.PlainList a vs.toArray) (hs : Reps prog w X h ds vs) : Rep prog w X h (.lst ds) (.ref a)
  | dct {a : Addr} {ds : List (Int × D)} {kvs : List (Int × Value)} (hx : ¬ X a) (ha : h.DictOf (intKind prog w) a kvs) (hs : RepKV prog w X h ds kvs) : Rep prog w X h (.dct ds) (.ref a)
  | rng {r : Addr} {a b : Int} {t u v : Tok} (hx : ¬ X r) (ha : IsRange h r a b 1 t u v) : Rep prog w X h (.rng a b) (.ref r)
  | tab (cs : List (Nat × Nat × Str × Addr)) (v : Value) : Rep prog w X h (.tab cs) v
inductive Reps (prog : Program) (w : World) (X : Addr → Prop) (h : Heap) : List D → List Value → Prop
  | nil : Reps prog w X h [] []
  | cons {d : D} {v : Value} {ds : List D} {vs : List Value} (h1 : Rep prog w X h d v) (h2 : Reps prog w X h ds vs) : Reps prog w X h (d :: ds) (v :: vs)
inductive RepKV (prog : Program) (w : World) (X : Addr → Prop) (h : Heap) : List (Int × D) → List (Int × Value) → Prop
  | nil : RepKV prog w X h [] []
  | cons {k : Int} {d : D} {v : Value} {ds : List (Int × D)} {vs : List (Int × Value)} (h1 : Rep prog w X h d v) (h2 : RepKV prog w X h ds vs) : RepKV prog w X h ((k, d) :: ds) ((k, v) :: vs)
end

noncomputable def Grow (h h' : Heap) : Prop := ∀ b o, h.get? b = some o → h'.get? b = some o
theorem Grow.rfl {h : Heap} : Grow h h := fun _ _ e => e
theorem Grow.trans {h h' h'' : Heap} (a : Grow h h') (b : Grow h' h'') : Grow h h'' := fun x o e => b x o (a x o e)
theorem Grow.push {h : Heap} (o : Obj) : Grow h (h.push o) := fun _ _ e => Heap.get?_push_of_some _ e

noncomputable def Liv (X : Addr → Prop) (h : Heap) : Prop := (∃ o, h.get? cStatics = some o) ∧ ∀ b, X b → b < cStatics ∨ ∃ o, h.get? b = some o
theorem Liv.tr {X X' : Addr → Prop} {h h' : Heap} (a : Liv X h) (hs : ∀ o, h.get? cStatics = some o → ∃ o', h'.get? cStatics = some o') (k : ∀ b, X' b → X b ∨ ∃ o, h'.get? b = some o) (kk : ∀ b, X b → X' b → ∀ o, h.get? b = some o → ∃ o', h'.get? b = some o') : Liv X' h' := by
  refine ⟨let ⟨o, e⟩ := a.1; hs o e, fun b hb => ?_⟩
  rcases k b hb with q | q
  · rcases a.2 b q with q' | ⟨o, e⟩
    · exact .inl q'
    · exact .inr (kk b q hb o e)
  · exact .inr q
theorem Liv.grow {X : Addr → Prop} {h h' : Heap} (a : Liv X h) (g : Grow h h') : Liv X h' := a.tr (fun o e => ⟨o, g _ o e⟩) (fun b hb => .inl hb) fun b _ _ o e => ⟨o, g b o e⟩
theorem Liv.fresh {X : Addr → Prop} {h : Heap} (a : Liv X h) : ¬ X h.objs.size := fun hx => by
  obtain ⟨⟨o, e⟩, k⟩ := a
  have := Heap.lt_size e
  rcases k _ hx with q | ⟨o', e'⟩
  · exact absurd (Nat.lt_trans q this) (Nat.lt_irrefl _)
  · exact absurd (Heap.lt_size e') (Nat.lt_irrefl _)

variable {prog : Program} {w : World}
section
variable {X : Addr → Prop} {h : Heap} {v : Value}
theorem Rep.kInt {i : Int} (r : Rep prog w X h (.int i) v) {P : Value → Prop} (k : ∀ t, P (.int i t)) : P v := by cases r; exact k _
theorem Rep.kFlt {b : UInt64} (r : Rep prog w X h (.flt b) v) {P : Value → Prop} (k : ∀ t, t ≠ 0 → P (.float b t)) : P v := by cases r; exact k _ (by assumption)
theorem Rep.kBool {b : Bool} (r : Rep prog w X h (.bool b) v) {P : Value → Prop} (k : P (.bool b)) : P v := by cases r; exact k
theorem Rep.kNone (r : Rep prog w X h .none v) {P : Value → Prop} (k : P .none) : P v := by cases r; exact k
theorem Rep.kVal {u : Value} (r : Rep prog w X h (.val u) v) {P : Value → Prop} (k : P u) : P v := by cases r; exact k
theorem Rep.kTup {ds : List D} (r : Rep prog w X h (.tup ds) v) {P : Value → Prop} (k : ∀ a vs, ¬ X a → h.IsTuple a vs.toArray → Reps prog w X h ds vs → P (.ref a)) : P v := by cases r; exact k _ _ (by assumption) (by assumption) (by assumption)
theorem Rep.kLst {ds : List D} (r : Rep prog w X h (.lst ds) v) {P : Value → Prop} (k : ∀ a vs, ¬ X a → h.PlainList a vs.toArray → Reps prog w X h ds vs → P (.ref a)) : P v := by cases r; exact k _ _ (by assumption) (by assumption) (by assumption)
theorem Rep.kDct {ds : List (Int × D)} (r : Rep prog w X h (.dct ds) v) {P : Value → Prop} (k : ∀ a kvs, ¬ X a → h.DictOf (intKind prog w) a kvs → RepKV prog w X h ds kvs → P (.ref a)) : P v := by cases r; exact k _ _ (by assumption) (by assumption) (by assumption)
theorem Rep.kRng {a b : Int} (r : Rep prog w X h (.rng a b) v) {P : Value → Prop} (k : ∀ q t u x, ¬ X q → IsRange h q a b 1 t u x → P (.ref q)) : P v := by cases r; exact k _ _ _ _ (by assumption) (by assumption)
theorem Reps.kNil {vs : List Value} (r : Reps prog w X h [] vs) {P : List Value → Prop} (k : P []) : P vs := by cases r; exact k
theorem Reps.kCons {d : D} {ds : List D} {vs : List Value} (r : Reps prog w X h (d :: ds) vs) {P : List Value → Prop} (k : ∀ u us, Rep prog w X h d u → Reps prog w X h ds us → P (u :: us)) : P vs := by cases r; exact k _ _ (by assumption) (by assumption)
theorem Reps.nil_inv {vs : List Value} (r : Reps prog w X h [] vs) : vs = [] := r.kNil (P := fun z => z = []) rfl
theorem Reps.cons_inv {d : D} {ds : List D} {vs : List Value} (r : Reps prog w X h (d :: ds) vs) : ∃ u us, vs = u :: us ∧ Rep prog w X h d u ∧ Reps prog w X h ds us := by cases r; exact ⟨_, _, rfl, by assumption, by assumption⟩
theorem Reps.cons2 {d : D} {ds : List D} {u : Value} {us : List Value} (r : Reps prog w X h (d :: ds) (u :: us)) : Rep prog w X h d u ∧ Reps prog w X h ds us := by cases r; exact ⟨by assumption, by assumption⟩
theorem RepKV.kNil {vs : List (Int × Value)} (r : RepKV prog w X h [] vs) {P : List (Int × Value) → Prop} (k : P []) : P vs := by cases r; exact k
theorem RepKV.kCons {k : Int} {d : D} {ds : List (Int × D)} {vs : List (Int × Value)} (r : RepKV prog w X h ((k, d) :: ds) vs) {P : List (Int × Value) → Prop} (kk : ∀ u us, Rep prog w X h d u → RepKV prog w X h ds us → P ((k, u) :: us)) : P vs := by cases r; exact kk _ _ (by assumption) (by assumption)
end

theorem isTuple_tr {h h' : Heap} {a : Addr} {items : Array Value} (x : h.IsTuple a items) (k : ∀ o, h.get? a = some o → h'.get? a = some o) : h'.IsTuple a items := let ⟨o, e, r⟩ := x; ⟨o, k o e, r⟩
theorem plain_tr {h h' : Heap} {a : Addr} {items : Array Value} (x : h.PlainList a items) (k : ∀ o, h.get? a = some o → h'.get? a = some o) : h'.PlainList a items := let ⟨n, e⟩ := x; ⟨n, k _ e⟩
theorem dictOf_tr {h h' : Heap} {a : Addr} {kvs : List (Int × Value)} (x : h.DictOf (intKind prog w) a kvs) (k : ∀ o, h.get? a = some o → h'.get? a = some o) : h'.DictOf (intKind prog w) a kvs := let ⟨o, es, ep, e, r⟩ := x; ⟨o, es, ep, k _ e, r⟩
theorem isTuple_there {h : Heap} {a : Addr} {items : Array Value} (x : h.IsTuple a items) : ∃ o, h.get? a = some o := let ⟨o, e, _⟩ := x; ⟨o, e⟩
theorem plain_there {h : Heap} {a : Addr} {items : Array Value} (x : h.PlainList a items) : ∃ o, h.get? a = some o := let ⟨_, e⟩ := x; ⟨_, e⟩
theorem dictOf_there {h : Heap} {a : Addr} {kvs : List (Int × Value)} (x : h.DictOf (intKind prog w) a kvs) : ∃ o, h.get? a = some o := let ⟨o, _, _, e, _⟩ := x; ⟨o, e⟩

noncomputable def Tr (X X' : Addr → Prop) (h h' : Heap) : Prop := ∀ b o, ¬ X b → h.get? b = some o → ¬ X' b ∧ h'.get? b = some o

mutual
theorem Rep.tr {X X' : Addr → Prop} {h h' : Heap} (T : Tr X X' h h') : ∀ {d : D} {v : Value}, Rep prog w X h d v → Rep prog w X' h' d v
  | _, _, .int i t => .int i t
  | _, _, .flt i t ht => .flt i t ht
  | _, _, .bool b => .bool b
  | _, _, .none => .none
  | _, _, .val v => .val v
  | _, _, .tup hx ha hs => .tup (let ⟨o, e⟩ := isTuple_there ha; (T _ o hx e).1) (isTuple_tr ha fun o e => (T _ o hx e).2) (Reps.tr T hs)
  | _, _, .lst hx ha hs => .lst (let ⟨o, e⟩ := plain_there ha; (T _ o hx e).1) (plain_tr ha fun o e => (T _ o hx e).2) (Reps.tr T hs)
  | _, _, .dct hx ha hs => .dct (let ⟨o, e⟩ := dictOf_there ha; (T _ o hx e).1) (dictOf_tr ha fun o e => (T _ o hx e).2) (RepKV.tr T hs)
  | _, _, .rng hx ha => .rng (T _ _ hx ha).1 (T _ _ hx ha).2
  | _, _, .tab cs v => .tab cs v
theorem Reps.tr {X X' : Addr → Prop} {h h' : Heap} (T : Tr X X' h h') : ∀ {ds : List D} {vs : List Value}, Reps prog w X h ds vs → Reps prog w X' h' ds vs
  | _, _, .nil => .nil
  | _, _, .cons a b => .cons (Rep.tr T a) (Reps.tr T b)
theorem RepKV.tr {X X' : Addr → Prop} {h h' : Heap} (T : Tr X X' h h') : ∀ {ds : List (Int × D)} {vs : List (Int × Value)}, RepKV prog w X h ds vs → RepKV prog w X' h' ds vs
  | _, _, .nil => .nil
  | _, _, .cons a b => .cons (Rep.tr T a) (RepKV.tr T b)
end
theorem Grow.tr {X : Addr → Prop} {h h' : Heap} (g : Grow h h') : Tr X X h h' := fun b o n e => ⟨n, g b o e⟩
theorem Rep.grow {X : Addr → Prop} {h h' : Heap} (g : Grow h h') {d : D} {v : Value} (r : Rep prog w X h d v) : Rep prog w X h' d v := r.tr g.tr
theorem RepKV.grow {X : Addr → Prop} {h h' : Heap} (g : Grow h h') {d : List (Int × D)} {v : List (Int × Value)} (r : RepKV prog w X h d v) : RepKV prog w X h' d v := r.tr g.tr
theorem Reps.grow {X : Addr → Prop} {h h' : Heap} (g : Grow h h') {d : List D} {v : List Value} (r : Reps prog w X h d v) : Reps prog w X h' d v := r.tr g.tr

noncomputable def Go (prog : Program) (w : World) {α : Type} (A : Around) (X : Addr → Prop) (h : Heap) (t : Sem α) (P : Heap → α → Prop) : Prop :=
  ∀ (s : Shared) (E : Value → Shared → Prop), Grow h s.heap → Liv X s.heap → 0 < s.toks → wpAny (model prog w) A t (fun a s' => ∃ h' tk, s' = { s with heap := h', toks := tk } ∧ Grow s.heap h' ∧ P h' a) E s

section
variable {α β : Type} {A : Around} {X : Addr → Prop} {h : Heap}

theorem Go.use {t : Sem α} {P : Heap → α → Prop} (g : Go prog w A X h t P) {s : Shared} {E : Value → Shared → Prop} {Q : α → Shared → Prop} (hg : Grow h s.heap) (hl : Liv X s.heap)
    (k : ∀ a h' tk, Grow s.heap h' → P h' a → 0 < tk → Q a { s with heap := h', toks := tk }) (ht : 0 < s.toks := by assumption) : wpAny (model prog w) A t Q E s :=
  wpAny_with_toks (n := 1) ht (wpAny_mono (g s (fun e s' => 1 ≤ s'.toks → E e s') hg hl ht) (fun a s' ⟨h', tk, e, gr, p⟩ => by subst e; exact fun hp => k a h' tk gr p hp) fun _ _ e => e)

theorem Go.mono {t : Sem α} {P P' : Heap → α → Prop} (g : Go prog w A X h t P) (k : ∀ h' a, Grow h h' → P h' a → P' h' a) : Go prog w A X h t P' := fun s E hg hl ht =>
  g.use hg hl fun a h' tk gr p _ => ⟨h', tk, rfl, gr, k _ _ (hg.trans gr) p⟩
theorem Go.grow {t : Sem α} {P : Heap → α → Prop} {h' : Heap} (g : Go prog w A X h t P) (hg : Grow h h') : Go prog w A X h' t P := fun s E hg' hl ht => g s E (hg.trans hg') hl ht
theorem Go.pure {a : α} {P : Heap → α → Prop} (k : ∀ h', Grow h h' → P h' a) : Go prog w A X h (pure a) P := fun s _ hg _ _ => wpAny_pure ⟨s.heap, s.toks, rfl, Grow.rfl, k _ hg⟩
theorem Go.bind {t : Sem α} {f : α → Sem β} {P : Heap → α → Prop} {R : Heap → β → Prop} (g : Go prog w A X h t P) (k : ∀ h' a, Grow h h' → P h' a → Go prog w A X h' (f a) R) : Go prog w A X h (t >>= f) R := fun s E hg hl ht =>
  wpAny_bind (g.use hg hl fun a h' tk gr p _ => (k h' a (hg.trans gr) p).use Grow.rfl (hl.grow gr) fun b h'' tk' gr' r _ => ⟨h'', tk', rfl, gr.trans gr', r⟩)
theorem Go.by {t : Sem α} {P : Heap → α → Prop} (k : ∀ (s : Shared) (E : Value → Shared → Prop) (Q : α → Shared → Prop), Grow h s.heap → Liv X s.heap → 0 < s.toks → (∀ a h' tk, Grow s.heap h' → P h' a → Q a { s with heap := h', toks := tk }) → wpAny (model prog w) A t Q E s) : Go prog w A X h t P := fun s E hg hl ht =>
  k s E _ hg hl ht fun _ h' tk gr p => ⟨h', tk, rfl, gr, p⟩
end

@[reducible] noncomputable def Ev (prog : Program) (w : World) (A : Around) (X : Addr → Prop) (env : Env) (h : Heap) (e : Expr) (d : D) : Prop := Go prog w A X h (eval e env) fun h' v => Rep prog w X h' d v
@[reducible] noncomputable def Tst (prog : Program) (w : World) (A : Around) (X : Addr → Prop) (env : Env) (h : Heap) (e : Expr) (b : Bool) : Prop := Go prog w A X h (isTrue e env (eval e env)) fun _ c => c = b
@[reducible] noncomputable def Op (prog : Program) (w : World) (A : Around) (X : Addr → Prop) (h : Heap) (t : Sem Value) (d : D) : Prop := Go prog w A X h t fun h' v => Rep prog w X h' d v

section
variable {A : Around} {X : Addr → Prop} {h : Heap} {env : Env}

theorem ev_const_int {i : Int} {k pos} : Ev prog w A X env h (.Constant (.int i) k pos) (.int i) := .by fun s E Q _ _ hpos k => wpAny_Constant_int (k _ s.heap _ Grow.rfl (.int _ _))
theorem ev_const_flt {i : UInt64} {k pos} : Ev prog w A X env h (.Constant (.float i) k pos) (.flt i) := .by fun s E Q _ _ hpos k => by
  rw [eval_Constant]
  exact wpAny_mkFloat (k _ s.heap _ Grow.rfl (.flt _ _ (Nat.ne_of_gt hpos)))
theorem ev_const_none {k pos} : Ev prog w A X env h (.Constant .none k pos) .none := .by fun s E Q _ _ hpos k => wpAny_Constant_none (k _ s.heap _ Grow.rfl .none)
theorem ev_const_bool {b k pos} : Ev prog w A X env h (.Constant (.bool b) k pos) (.bool b) := .by fun s E Q _ _ hpos k => wpAny_Constant_bool (k _ s.heap _ Grow.rfl (.bool b))

theorem ev_bin {l r : Expr} {op pos} {a b d : D} (hl : Ev prog w A X env h l a) (hr : Ev prog w A X env h r b)
    (ho : ∀ h' va vb, Grow h h' → Rep prog w X h' a va → Rep prog w X h' b vb → Op prog w A X h' (binaryOp op va vb) d) : Ev prog w A X env h (.BinOp l op r pos) d := .by fun s E Q hg hv hpos k =>
  wpAny_BinOp (hl.use hg hv fun va h1 tk1 g1 r1 _ => hr.use (hg.trans g1) (hv.grow g1) fun vb h2 tk2 g2 r2 _ => (ho h2 va vb (hg.trans (g1.trans g2)) (r1.grow g2) r2).use Grow.rfl (hv.grow (g1.trans g2)) fun v h3 tk3 g3 r3 _ => k v h3 tk3 (g1.trans (g2.trans g3)) r3)

theorem ev_cmp {l r : Expr} {op pos} {a b d : D} (hl : Ev prog w A X env h l a) (hr : Ev prog w A X env h r b)
    (ho : ∀ h' va vb, Grow h h' → Rep prog w X h' a va → Rep prog w X h' b vb → Op prog w A X h' (compareOp op va vb) d) (hm : behindInMarks op r = false) : Ev prog w A X env h (.Compare l [op] [r] pos) d := .by fun s E Q hg hv hpos k =>
  wpAny_Compare1 (hl.use hg hv fun va h1 tk1 g1 r1 _ => hr.use (hg.trans g1) (hv.grow g1) fun vb h2 tk2 g2 r2 _ => (ho h2 va vb (hg.trans (g1.trans g2)) (r1.grow g2) r2).use Grow.rfl (hv.grow (g1.trans g2)) fun v h3 tk3 g3 r3 _ => k v h3 tk3 (g1.trans (g2.trans g3)) r3) hm

theorem tst_cmp {l r : Expr} {op pos} {a b : D} {c : Bool} (hl : Ev prog w A X env h l a) (hr : Ev prog w A X env h r b)
    (ho : ∀ h' va vb, Grow h h' → Rep prog w X h' a va → Rep prog w X h' b vb → Op prog w A X h' (compareOp op va vb) (.bool c)) (hm : behindInMarks op r = false) : Tst prog w A X env h (.Compare l [op] [r] pos) c := .by fun s E Q hg hv hpos k =>
  wpAny_isTrue_Compare1 (hl.use hg hv fun va h1 tk1 g1 r1 _ => hr.use (hg.trans g1) (hv.grow g1) fun vb h2 tk2 g2 r2 _ => (ho h2 va vb (hg.trans (g1.trans g2)) (r1.grow g2) r2).use Grow.rfl (hv.grow (g1.trans g2)) fun v h3 tk3 g3 r3 _ => by
    (first | apply r3.kVal | apply r3.kInt; intro _ | apply r3.kFlt; intro _ _ | apply r3.kBool | apply r3.kNone | apply r3.kNil | cases r3)
    exact wpAny_truthy_bool (k c h3 tk3 (g1.trans (g2.trans g3)) rfl)) hm
end
end
end Mine

namespace Mine
section
open PySem PySem.W PySem.Calls PyProof.Rows
set_option maxRecDepth 100000
set_option linter.unusedVariables false
variable {prog : Program} {w : World}
section
variable {A : Around} {X : Addr → Prop} {h : Heap} {env : Env}

noncomputable def Var (prog : Program) (w : World) (X : Addr → Prop) (env : Env) (h : Heap) (x : Str) (d : D) : Prop :=
  (env.kindOf x = some .local ∧ ∃ m v, h.Ns env.locals m ∧ m x = some v ∧ Rep prog w X h d v) ∨
  ((env.kindOf x = some .cell ∨ env.kindOf x = some .free) ∧ ∃ c v, env.cells.lookup x = some c ∧ h.IsCell c (some v) ∧ Rep prog w X h d v)
theorem isCell_grow {h h' : Heap} {c : Addr} {v : Option Value} (x : h.IsCell c v) (g : Grow h h') : h'.IsCell c v := let ⟨o, e, r⟩ := x; ⟨o, g _ _ e, r⟩
theorem Var.grow {x : Str} {d : D} {h h' : Heap} (v : Var prog w X env h x d) (g : Grow h h') : Var prog w X env h' x d := by
  rcases v with ⟨k, m, v, hn, hm, r⟩ | ⟨k, c, v, hc, hv, r⟩
  · exact .inl ⟨k, m, v, hn.keeps g, hm, r.grow g⟩
  · exact .inr ⟨k, c, v, hc, isCell_grow hv g, r.grow g⟩

theorem ev_var {x : Str} {pos : Pos} {d : D} (hk : env.scope.kind = .function) (v : Var prog w X env h x d) (hd : (x == ("__debug__" : Str)) = false) (hcd : (x == ("__classdict__" : Str)) = false) : Ev prog w A X env h (.Name x pos) d := .by fun s E Q hg hl hpos k => by
  rcases v.grow hg with ⟨kx, m, v, hn, hm, r⟩ | ⟨kx, c, v, hc, hv, r⟩
  · exact wpAny_Name (wpAny_loadName_local hk kx hn hm (k v s.heap s.toks Grow.rfl r)) hd
  · rcases kx with kx | kx
    · exact wpAny_Name (wpAny_loadName_cell hk kx hc hv (k v s.heap s.toks Grow.rfl r)) hd
    · exact wpAny_Name (wpAny_loadName_free hk kx hc hv (k v s.heap s.toks Grow.rfl r) hcd) hd
theorem ev_glob {x : Str} {pos : Pos} {v : Value} {mg : Str → Option Value} (hk : env.scope.kind = .function) (hx : env.kindOf x = some .globalImplicit) (hg : h.Ns env.globals mg) (hv : mg x = some v) (hd : (x == ("__debug__" : Str)) = false) :
    Ev prog w A X env h (.Name x pos) (.val v) := .by fun s E Q g hl hpos k => Name_function_global hk hx (loadGlobal_global (hg.keeps g) hv (k v s.heap s.toks Grow.rfl (.val v))) hd
theorem ev_builtin {x : Str} {pos : Pos} {v : Value} {mg mb : Str → Option Value} (hk : env.scope.kind = .function) (hx : env.kindOf x = some .globalImplicit) (hg : h.Ns env.globals mg) (hm : mg x = none) (hb : h.Ns env.builtins mb) (hv : mb x = some v) (hd : (x == ("__debug__" : Str)) = false) :
    Ev prog w A X env h (.Name x pos) (.val v) := .by fun s E Q g hl hpos k => Name_function_global hk hx (loadGlobal_builtin (hg.keeps g) hm (hb.keeps g) hv (k v s.heap s.toks Grow.rfl (.val v))) hd

@[reducible] noncomputable def Evs (prog : Program) (w : World) (A : Around) (X : Addr → Prop) (env : Env) (h : Heap) (pos : Pos) (es : List Expr) (ds : List D) : Prop :=
  Go prog w A X h (spliced (backTo pos (starEach es env))) fun h' vs => Reps prog w X h' ds vs
theorem evs_nil {pos : Pos} : Evs prog w A X env h pos [] [] := .by fun s E Q _ _ hpos k => args_nil (k [] s.heap s.toks Grow.rfl .nil)
theorem evs_cons {pos : Pos} {e : Expr} {es : List Expr} {d : D} {ds : List D} (he : Ev prog w A X env h e d) (hs : Evs prog w A X env h pos es ds)
    (hst : starEach (e :: es) env = (false, eval e env) :: starEach es env := by rfl) : Evs prog w A X env h pos (e :: es) (d :: ds) := .by fun s E Q hg hv hpos k =>
  args_cons (he.use hg hv fun v h1 t1 g1 r1 _ => hs.use (hg.trans g1) (hv.grow g1) fun vs h2 t2 g2 r2 _ => k _ h2 t2 (g1.trans g2) (.cons (r1.grow g2) r2)) hst

theorem Reps.length {ds : List D} {vs : List Value} : Reps prog w X h ds vs → vs.length = ds.length
  | .nil => rfl
  | .cons _ b => by simp [b.length]
theorem Reps.get {ds : List D} {vs : List Value} (r : Reps prog w X h ds vs) {i : Nat} {d : D} (hd : ds[i]? = some d) : ∃ v, vs[i]? = some v ∧ Rep prog w X h d v := by
  induction i generalizing ds vs with
  | zero => cases r with
    | nil => cases hd
    | cons a b => cases hd; exact ⟨_, rfl, a⟩
  | succ i ih => cases r with
    | nil => cases hd
    | cons a b => exact ih b hd
theorem Reps.get' {ds : List D} {vs : List Value} (r : Reps prog w X h ds vs) {i : Nat} {v : Value} (hd : vs[i]? = some v) : ∃ d, ds[i]? = some d ∧ Rep prog w X h d v := by
  induction i generalizing ds vs with
  | zero => cases r with
    | nil => cases hd
    | cons a b => cases hd; exact ⟨_, rfl, a⟩
  | succ i ih => cases r with
    | nil => cases hd
    | cons a b => exact ih b hd
theorem Reps.append {ds ds' : List D} {vs vs' : List Value} (r : Reps prog w X h ds vs) (r' : Reps prog w X h ds' vs') : Reps prog w X h (ds ++ ds') (vs ++ vs') := by
  induction ds generalizing vs with
  | nil => (first | apply r.kVal | apply r.kInt; intro _ | apply r.kFlt; intro _ _ | apply r.kBool | apply r.kNone | apply r.kNil | cases r); exact r'
  | cons d ds ih => apply r.kCons; intro _ _ a b; exact .cons a (ih b)

theorem op_newTuple {ds : List D} {vs : List Value} (r : Reps prog w X h ds vs) (hsz : ds.length ≤ sizeLine) : Op prog w A X h (newTuple vs) (.tup ds) := .by fun s E Q hg hv hpos k =>
  wpAny_newObj_type (k _ _ _ (Grow.push _) (.tup hv.fresh ⟨_, Heap.get?_push_size _ rfl, rfl, _, rfl⟩ ((r.grow hg).grow (Grow.push _)))) (by show vs.toArray.size ≤ sizeLine; rw [List.size_toArray, r.length]; exact hsz)
theorem op_newList {ds : List D} {vs : List Value} (r : Reps prog w X h ds vs) (hsz : ds.length ≤ sizeLine) : Op prog w A X h (newList vs) (.lst ds) := .by fun s E Q hg hv hpos k =>
  wpAny_newObj_type (k _ _ _ (Grow.push _) (.lst hv.fresh ⟨_, Heap.get?_push_size _ rfl⟩ ((r.grow hg).grow (Grow.push _)))) (by show vs.toArray.size ≤ sizeLine; rw [List.size_toArray, r.length]; exact hsz)
theorem ble_line {n : Nat} (h : Nat.ble n 1000 = true) : n ≤ sizeLine := Nat.le_trans (Nat.le_of_ble_eq_true h) (by rw [sizeLine_eq]; decide)
theorem ev_tuple {es : List Expr} {k : Nat} {pos : Pos} {ds : List D} (he : Evs prog w A X env h pos es ds) (hsz : Nat.ble ds.length 1000 = true) : Ev prog w A X env h (.Tuple es k pos) (.tup ds) := .by fun s E Q hg hv hpos k =>
  Tuple_ (he.use hg hv fun vs h1 t1 g1 r1 _ => (op_newTuple r1 (ble_line hsz)).use Grow.rfl (hv.grow g1) fun v h2 t2 g2 r2 _ => k v h2 t2 (g1.trans g2) r2)
theorem ev_list {es : List Expr} {pos : Pos} {ds : List D} (he : Evs prog w A X env h pos es ds) (hsz : Nat.ble ds.length 1000 = true) : Ev prog w A X env h (.List es pos) (.lst ds) := .by fun s E Q hg hv hpos k =>
  List_ (he.use hg hv fun vs h1 t1 g1 r1 _ => (op_newList r1 (ble_line hsz)).use Grow.rfl (hv.grow g1) fun v h2 t2 g2 r2 _ => k v h2 t2 (g1.trans g2) r2)

theorem plain_isList {h : Heap} {a : Addr} {items : Array Value} (x : h.PlainList a items) : h.IsList a items := let ⟨n, e⟩ := x; ⟨_, e, rfl, n, rfl⟩

theorem ev_item {value slice : Expr} {pos : Pos} {a b d : D} (hv : Ev prog w A X env h value a) (hi : Ev prog w A X env h slice b)
    (ho : ∀ h' va vb, Grow h h' → Rep prog w X h' a va → Rep prog w X h' b vb → Op prog w A X h' (subscriptTail value slice va vb) d) : Ev prog w A X env h (.Subscript value slice pos) d := .by fun s E Q hg hl hpos k =>
  Subscript_ (hv.use hg hl fun va h1 t1 g1 r1 _ => hi.use (hg.trans g1) (hl.grow g1) fun vb h2 t2 g2 r2 _ => (ho h2 va vb (hg.trans (g1.trans g2)) (r1.grow g2) r2).use Grow.rfl (hl.grow (g1.trans g2)) fun v h3 t3 g3 r3 _ => k v h3 t3 (g1.trans (g2.trans g3)) r3)
noncomputable def plainSlice (e : Expr) : Bool := match e with | .Slice .. => false | _ => true
theorem subscripted_plain {slice : Expr} (hp : plainSlice slice = true) (o i : Value) : subscripted slice false o i = operate [o, i] (getItem o i) := by
  cases slice <;> first | rfl | cases hp
theorem ev_item_lst {value slice : Expr} {pos : Pos} {ds : List D} {k : Int} {d : D} (hv : Ev prog w A X env h value (.lst ds)) (hi : Ev prog w A X env h slice (.int k)) (h0 : 0 ≤ k) (hd : ds[k.toNat]? = some d) (hk : k < 2 ^ 63) (hp : plainSlice slice = true := by rfl) :
    Ev prog w A X env h (.Subscript value slice pos) d := ev_item hv hi fun h' va vb g ra rb => .by fun s E Q hg hl hpos kk => by
  (first | apply rb.kVal | apply rb.kInt; intro _ | apply rb.kFlt; intro _ _ | apply rb.kBool | apply rb.kNone | apply rb.kNil | cases rb)
  apply ra.kLst; intro _ _ hx ha hs
  obtain ⟨v, e, r⟩ := hs.get hd
  have hL := plain_isList (plain_tr ha fun o e => hg _ _ e)
  exact tail_any hL.typeIs slot_list_getitem.lookup (wpAny_getItem_list hL h0 hk (by simpa using e) (kk v s.heap s.toks Grow.rfl (r.grow hg))) (subscripted_plain hp _ _)
theorem ev_item_tup {value slice : Expr} {pos : Pos} {ds : List D} {k : Int} {d : D} (hv : Ev prog w A X env h value (.tup ds)) (hi : Ev prog w A X env h slice (.int k)) (h0 : 0 ≤ k) (hd : ds[k.toNat]? = some d) (hk : k < 2 ^ 63) (hp : plainSlice slice = true := by rfl) :
    Ev prog w A X env h (.Subscript value slice pos) d := ev_item hv hi fun h' va vb g ra rb => .by fun s E Q hg hl hpos kk => by
  (first | apply rb.kVal | apply rb.kInt; intro _ | apply rb.kFlt; intro _ _ | apply rb.kBool | apply rb.kNone | apply rb.kNil | cases rb)
  apply ra.kTup; intro _ _ hx ha hs
  obtain ⟨v, e, r⟩ := hs.get hd
  have ht := isTuple_tr ha fun o e => hg _ _ e
  refine item_tupleT ht (by lia) hk (j := k.toNat) ?_ e (kk v s.heap s.toks Grow.rfl (r.grow hg)) (subscripted_plain hp _ _)
  have hl : k.toNat < ds.length := (List.getElem?_eq_some_iff.mp hd).1
  have := hs.length
  have e1 : ¬ k < 0 := by lia
  unfold seqIndex?
  simp only [e1, if_false]
  rw [if_pos (by simp; lia)]
end
end
end Mine

namespace Mine
section
open PySem PySem.W PySem.Calls PyProof.Rows
set_option maxRecDepth 100000
set_option linter.unusedVariables false
variable {prog : Program} {w : World}
section
variable {A : Around} {X : Addr → Prop} {h : Heap} {env : Env} {l r : Expr} {pos : Pos}
theorem smallInf {n : Int} (h1 : -(2 ^ 32) < n) (h2 : n < 2 ^ 32) : ¬ Float64.isInf (Float64.ofInt n) = true := Float64.ofInt_fits (Nat.lt_of_lt_of_le (show n.natAbs < 2 ^ 32 by omega) (Nat.pow_le_pow_right (by decide) (by decide)))
theorem mulOk {a b : Int} (h1 : -(2 ^ 64) < a) (h2 : a < 2 ^ 64) : IntMulOk a b := .of_left (intBits_le_64 h1 h2)

theorem ev_add {a b : Int} (hl : Ev prog w A X env h l (.int a)) (hr : Ev prog w A X env h r (.int b))  : Ev prog w A X env h (.BinOp l .Add r pos) (.int (a + b)) :=
  ev_bin hl hr fun h' va vb g ra rb => .by fun s E Q hg hv hpos k => by
    apply ra.kInt; intro ta; apply rb.kInt; intro ta
    with_reducible exact PyProof.Rows.add_int (k _ s.heap _ Grow.rfl (.int _ _))
theorem ev_sub {a b : Int} (hl : Ev prog w A X env h l (.int a)) (hr : Ev prog w A X env h r (.int b))  : Ev prog w A X env h (.BinOp l .Sub r pos) (.int (a - b)) :=
  ev_bin hl hr fun h' va vb g ra rb => .by fun s E Q hg hv hpos k => by
    apply ra.kInt; intro ta; apply rb.kInt; intro ta
    with_reducible exact PyProof.Rows.sub_int (k _ s.heap _ Grow.rfl (.int _ _))
theorem ev_mul {a b : Int} (hl : Ev prog w A X env h l (.int a)) (hr : Ev prog w A X env h r (.int b)) (h1 : -(2 ^ 64) < a) (h2 : a < 2 ^ 64) : Ev prog w A X env h (.BinOp l .Mult r pos) (.int (a * b)) :=
  ev_bin hl hr fun h' va vb g ra rb => .by fun s E Q hg hv hpos k => by
    apply ra.kInt; intro ta; apply rb.kInt; intro ta
    with_reducible exact PyProof.Rows.mul_int (k _ s.heap _ Grow.rfl (.int _ _)) (mulOk h1 h2)
theorem ev_fdiv {a b : Int} (hl : Ev prog w A X env h l (.int a)) (hr : Ev prog w A X env h r (.int b)) (hb : b ≠ 0) (hs : b.natAbs < 1073741824) : Ev prog w A X env h (.BinOp l .FloorDiv r pos) (.int (a.fdiv b)) :=
  ev_bin hl hr fun h' va vb g ra rb => .by fun s E Q hg hv hpos k => by
    apply ra.kInt; intro ta; apply rb.kInt; intro ta
    with_reducible exact PyProof.Rows.floordiv_int hb (k _ s.heap _ Grow.rfl (.int _ _)) (.inl (PyProof.noPylong_small hs))
theorem ev_fmod {a b : Int} (hl : Ev prog w A X env h l (.int a)) (hr : Ev prog w A X env h r (.int b)) (hb : b ≠ 0) : Ev prog w A X env h (.BinOp l .Mod r pos) (.int (a.fmod b)) :=
  ev_bin hl hr fun h' va vb g ra rb => .by fun s E Q hg hv hpos k => by
    apply ra.kInt; intro ta; apply rb.kInt; intro ta
    with_reducible exact PyProof.Rows.mod_int' hb (k _ s.heap _ Grow.rfl (.int _ _))
theorem ev_neg {x : Expr} {a : Int} (hl : Ev prog w A X env h x (.int a)) : Ev prog w A X env h (.UnaryOp .USub x pos) (.int (-a)) := .by fun s E Q hg hv hpos k =>
  wpAny_UnaryOp (hl.use hg hv fun v h1 t1 g1 r1 _ => by
    (first | apply r1.kVal | apply r1.kInt; intro _ | apply r1.kFlt; intro _ _ | apply r1.kBool | apply r1.kNone | apply r1.kNil | cases r1)
    with_reducible exact PyProof.Rows.neg_int (k _ h1 _ g1 (.int _ _)))
theorem ev_fadd {a b : UInt64} (hl : Ev prog w A X env h l (.flt a)) (hr : Ev prog w A X env h r (.flt b)) : Ev prog w A X env h (.BinOp l .Add r pos) (.flt (Float64.add a b)) :=
  ev_bin hl hr fun h' va vb g ra rb => .by fun s E Q hg hv hpos k => by
    apply ra.kFlt; intro ta hta; apply rb.kFlt; intro ta hta
    with_reducible exact PyProof.Rows.add_float (k _ s.heap _ Grow.rfl (.flt _ _ (Nat.ne_of_gt hpos)))
theorem ev_fsub {a b : UInt64} (hl : Ev prog w A X env h l (.flt a)) (hr : Ev prog w A X env h r (.flt b)) : Ev prog w A X env h (.BinOp l .Sub r pos) (.flt (Float64.sub a b)) :=
  ev_bin hl hr fun h' va vb g ra rb => .by fun s E Q hg hv hpos k => by
    apply ra.kFlt; intro ta hta; apply rb.kFlt; intro ta hta
    with_reducible exact PyProof.Rows.sub_float (k _ s.heap _ Grow.rfl (.flt _ _ (Nat.ne_of_gt hpos)))
theorem ev_fmul {a b : UInt64} (hl : Ev prog w A X env h l (.flt a)) (hr : Ev prog w A X env h r (.flt b)) : Ev prog w A X env h (.BinOp l .Mult r pos) (.flt (Float64.mul a b)) :=
  ev_bin hl hr fun h' va vb g ra rb => .by fun s E Q hg hv hpos k => by
    apply ra.kFlt; intro ta hta; apply rb.kFlt; intro ta hta
    with_reducible exact PyProof.Rows.mul_float (k _ s.heap _ Grow.rfl (.flt _ _ (Nat.ne_of_gt hpos)))
theorem ev_ftdiv {a b : UInt64} (hl : Ev prog w A X env h l (.flt a)) (hr : Ev prog w A X env h r (.flt b)) (hz : ¬ Float64.isZero b = true) : Ev prog w A X env h (.BinOp l .Div r pos) (.flt (Float64.div a b)) :=
  ev_bin hl hr fun h' va vb g ra rb => .by fun s E Q hg hv hpos k => by
    apply ra.kFlt; intro ta hta; apply rb.kFlt; intro ta hta
    (with_reducible refine AutoFloatOps.truediv_1 hz ?_); exact k _ s.heap _ Grow.rfl (.flt _ _ (Nat.ne_of_gt hpos))
theorem ev_ffmod {a b : UInt64} (hl : Ev prog w A X env h l (.flt a)) (hr : Ev prog w A X env h r (.flt b)) (hz : ¬ Float64.isZero b = true) : Ev prog w A X env h (.BinOp l .Mod r pos) (.flt ((Float64.divmod a b).snd)) :=
  ev_bin hl hr fun h' va vb g ra rb => .by fun s E Q hg hv hpos k => by
    apply ra.kFlt; intro ta hta; apply rb.kFlt; intro ta hta
    (with_reducible refine AutoFloatOps.mod_1 hz ?_); exact k _ s.heap _ Grow.rfl (.flt _ _ (Nat.ne_of_gt hpos))
theorem ev_idivf {a : Int} {b : UInt64} (hl : Ev prog w A X env h l (.int a)) (hr : Ev prog w A X env h r (.flt b)) (b1 : -(2 ^ 32) < a) (b2 : a < 2 ^ 32) (hz : ¬ Float64.isZero b = true) : Ev prog w A X env h (.BinOp l .Div r pos) (.flt (Float64.div (Float64.ofInt a) b)) :=
  ev_bin hl hr fun h' va vb g ra rb => .by fun s E Q hg hv hpos k => by
    apply ra.kInt; intro ta; apply rb.kFlt; intro ta hta
    (with_reducible refine AutoFloatOpsIf.truediv_if ?_); rw [if_neg (smallInf b1 b2), if_neg hz]; exact k _ s.heap _ Grow.rfl (.flt _ _ (Nat.ne_of_gt hpos))
theorem ev_fsubi {a : UInt64} {b : Int} (hl : Ev prog w A X env h l (.flt a)) (hr : Ev prog w A X env h r (.int b)) (b1 : -(2 ^ 32) < b) (b2 : b < 2 ^ 32) : Ev prog w A X env h (.BinOp l .Sub r pos) (.flt (Float64.sub a (Float64.ofInt b))) :=
  ev_bin hl hr fun h' va vb g ra rb => .by fun s E Q hg hv hpos k => by
    apply ra.kFlt; intro ta hta; apply rb.kInt; intro ta
    (with_reducible refine AutoFloatOpsIf.sub_fi ?_); rw [if_neg (smallInf b1 b2)]; exact k _ s.heap _ Grow.rfl (.flt _ _ (Nat.ne_of_gt hpos))
theorem tst_lt {a b : Int} (hl : Ev prog w A X env h l (.int a)) (hr : Ev prog w A X env h r (.int b)) (hm : behindInMarks .Lt r = false := by rfl) : Tst prog w A X env h (.Compare l [.Lt] [r] pos) (decide (a < b)) :=
  tst_cmp hl hr (fun h' va vb g ra rb => .by fun s E Q hg hv hpos k => by
    apply ra.kInt; intro ta; apply rb.kInt; intro ta
    with_reducible exact PyProof.Rows.lt_int (k _ s.heap s.toks Grow.rfl (.bool _))) hm
theorem ev_lt {a b : Int} (hl : Ev prog w A X env h l (.int a)) (hr : Ev prog w A X env h r (.int b)) (hm : behindInMarks .Lt r = false := by rfl) : Ev prog w A X env h (.Compare l [.Lt] [r] pos) (.bool (decide (a < b))) :=
  ev_cmp hl hr (fun h' va vb g ra rb => .by fun s E Q hg hv hpos k => by
    apply ra.kInt; intro ta; apply rb.kInt; intro ta
    with_reducible exact PyProof.Rows.lt_int (k _ s.heap s.toks Grow.rfl (.bool _))) hm
theorem tst_gt {a b : Int} (hl : Ev prog w A X env h l (.int a)) (hr : Ev prog w A X env h r (.int b)) (hm : behindInMarks .Gt r = false := by rfl) : Tst prog w A X env h (.Compare l [.Gt] [r] pos) (decide (b < a)) :=
  tst_cmp hl hr (fun h' va vb g ra rb => .by fun s E Q hg hv hpos k => by
    apply ra.kInt; intro ta; apply rb.kInt; intro ta
    with_reducible exact PyProof.Rows.gt_int (k _ s.heap s.toks Grow.rfl (.bool _))) hm
theorem ev_gt {a b : Int} (hl : Ev prog w A X env h l (.int a)) (hr : Ev prog w A X env h r (.int b)) (hm : behindInMarks .Gt r = false := by rfl) : Ev prog w A X env h (.Compare l [.Gt] [r] pos) (.bool (decide (b < a))) :=
  ev_cmp hl hr (fun h' va vb g ra rb => .by fun s E Q hg hv hpos k => by
    apply ra.kInt; intro ta; apply rb.kInt; intro ta
    with_reducible exact PyProof.Rows.gt_int (k _ s.heap s.toks Grow.rfl (.bool _))) hm
theorem tst_le {a b : Int} (hl : Ev prog w A X env h l (.int a)) (hr : Ev prog w A X env h r (.int b)) (hm : behindInMarks .LtE r = false := by rfl) : Tst prog w A X env h (.Compare l [.LtE] [r] pos) (decide (a ≤ b)) :=
  tst_cmp hl hr (fun h' va vb g ra rb => .by fun s E Q hg hv hpos k => by
    apply ra.kInt; intro ta; apply rb.kInt; intro ta
    with_reducible exact PyProof.Rows.le_int (k _ s.heap s.toks Grow.rfl (.bool _))) hm
theorem ev_le {a b : Int} (hl : Ev prog w A X env h l (.int a)) (hr : Ev prog w A X env h r (.int b)) (hm : behindInMarks .LtE r = false := by rfl) : Ev prog w A X env h (.Compare l [.LtE] [r] pos) (.bool (decide (a ≤ b))) :=
  ev_cmp hl hr (fun h' va vb g ra rb => .by fun s E Q hg hv hpos k => by
    apply ra.kInt; intro ta; apply rb.kInt; intro ta
    with_reducible exact PyProof.Rows.le_int (k _ s.heap s.toks Grow.rfl (.bool _))) hm
theorem tst_ge {a b : Int} (hl : Ev prog w A X env h l (.int a)) (hr : Ev prog w A X env h r (.int b)) (hm : behindInMarks .GtE r = false := by rfl) : Tst prog w A X env h (.Compare l [.GtE] [r] pos) (decide (b ≤ a)) :=
  tst_cmp hl hr (fun h' va vb g ra rb => .by fun s E Q hg hv hpos k => by
    apply ra.kInt; intro ta; apply rb.kInt; intro ta
    with_reducible exact PyProof.Rows.ge_int (k _ s.heap s.toks Grow.rfl (.bool _))) hm
theorem ev_ge {a b : Int} (hl : Ev prog w A X env h l (.int a)) (hr : Ev prog w A X env h r (.int b)) (hm : behindInMarks .GtE r = false := by rfl) : Ev prog w A X env h (.Compare l [.GtE] [r] pos) (.bool (decide (b ≤ a))) :=
  ev_cmp hl hr (fun h' va vb g ra rb => .by fun s E Q hg hv hpos k => by
    apply ra.kInt; intro ta; apply rb.kInt; intro ta
    with_reducible exact PyProof.Rows.ge_int (k _ s.heap s.toks Grow.rfl (.bool _))) hm
theorem tst_eq {a b : Int} (hl : Ev prog w A X env h l (.int a)) (hr : Ev prog w A X env h r (.int b)) (hm : behindInMarks .Eq r = false := by rfl) : Tst prog w A X env h (.Compare l [.Eq] [r] pos) (a == b) :=
  tst_cmp hl hr (fun h' va vb g ra rb => .by fun s E Q hg hv hpos k => by
    apply ra.kInt; intro ta; apply rb.kInt; intro ta
    with_reducible exact PyProof.Rows.eq_int (k _ s.heap s.toks Grow.rfl (.bool _))) hm
theorem ev_eq {a b : Int} (hl : Ev prog w A X env h l (.int a)) (hr : Ev prog w A X env h r (.int b)) (hm : behindInMarks .Eq r = false := by rfl) : Ev prog w A X env h (.Compare l [.Eq] [r] pos) (.bool (a == b)) :=
  ev_cmp hl hr (fun h' va vb g ra rb => .by fun s E Q hg hv hpos k => by
    apply ra.kInt; intro ta; apply rb.kInt; intro ta
    with_reducible exact PyProof.Rows.eq_int (k _ s.heap s.toks Grow.rfl (.bool _))) hm
theorem tst_ne {a b : Int} (hl : Ev prog w A X env h l (.int a)) (hr : Ev prog w A X env h r (.int b)) (hm : behindInMarks .NotEq r = false := by rfl) : Tst prog w A X env h (.Compare l [.NotEq] [r] pos) (a != b) :=
  tst_cmp hl hr (fun h' va vb g ra rb => .by fun s E Q hg hv hpos k => by
    apply ra.kInt; intro ta; apply rb.kInt; intro ta
    with_reducible exact PyProof.Rows.ne_int (k _ s.heap s.toks Grow.rfl (.bool _))) hm
theorem ev_ne {a b : Int} (hl : Ev prog w A X env h l (.int a)) (hr : Ev prog w A X env h r (.int b)) (hm : behindInMarks .NotEq r = false := by rfl) : Ev prog w A X env h (.Compare l [.NotEq] [r] pos) (.bool (a != b)) :=
  ev_cmp hl hr (fun h' va vb g ra rb => .by fun s E Q hg hv hpos k => by
    apply ra.kInt; intro ta; apply rb.kInt; intro ta
    with_reducible exact PyProof.Rows.ne_int (k _ s.heap s.toks Grow.rfl (.bool _))) hm
theorem tst_flt {a b : UInt64} (hl : Ev prog w A X env h l (.flt a)) (hr : Ev prog w A X env h r (.flt b)) (hm : behindInMarks .Lt r = false := by rfl) : Tst prog w A X env h (.Compare l [.Lt] [r] pos) (Float64.cmp a b == some Ordering.lt) :=
  tst_cmp hl hr (fun h' va vb g ra rb => .by fun s E Q hg hv hpos k => by
    apply ra.kFlt; intro ta hta; apply rb.kFlt; intro ta hta
    with_reducible exact AutoFloatOps.lt_0 (k _ s.heap s.toks Grow.rfl (.bool _))) hm
theorem tst_fgt {a b : UInt64} (hl : Ev prog w A X env h l (.flt a)) (hr : Ev prog w A X env h r (.flt b)) (hm : behindInMarks .Gt r = false := by rfl) : Tst prog w A X env h (.Compare l [.Gt] [r] pos) (Float64.cmp a b == some Ordering.gt) :=
  tst_cmp hl hr (fun h' va vb g ra rb => .by fun s E Q hg hv hpos k => by
    apply ra.kFlt; intro ta hta; apply rb.kFlt; intro ta hta
    with_reducible exact AutoFloatOps.gt_0 (k _ s.heap s.toks Grow.rfl (.bool _))) hm
theorem tst_fle {a b : UInt64} (hl : Ev prog w A X env h l (.flt a)) (hr : Ev prog w A X env h r (.flt b)) (hm : behindInMarks .LtE r = false := by rfl) : Tst prog w A X env h (.Compare l [.LtE] [r] pos) (Float64.cmp a b == some Ordering.lt || Float64.cmp a b == some Ordering.eq) :=
  tst_cmp hl hr (fun h' va vb g ra rb => .by fun s E Q hg hv hpos k => by
    apply ra.kFlt; intro ta hta; apply rb.kFlt; intro ta hta
    with_reducible exact AutoFloatOps.le_0 (k _ s.heap s.toks Grow.rfl (.bool _))) hm
theorem tst_feq {a b : UInt64} (hl : Ev prog w A X env h l (.flt a)) (hr : Ev prog w A X env h r (.flt b)) (hm : behindInMarks .Eq r = false := by rfl) : Tst prog w A X env h (.Compare l [.Eq] [r] pos) (Float64.cmp a b == some Ordering.eq) :=
  tst_cmp hl hr (fun h' va vb g ra rb => .by fun s E Q hg hv hpos k => by
    apply ra.kFlt; intro ta hta; apply rb.kFlt; intro ta hta
    with_reducible exact AutoFloatOps.eq_0 (k _ s.heap s.toks Grow.rfl (.bool _))) hm
theorem tst_is_none {d : D} (hl : Ev prog w A X env h l d) {k : Nat} {p : Pos} {b : Bool} (hb : ∀ h' v, Rep prog w X h' d v → (v == Value.none) = b) : Tst prog w A X env h (.Compare l [.Is] [.Constant .none k p] pos) b :=
  tst_cmp hl ev_const_none (fun h' va vb g ra rb => .by fun s E Q hg hv hpos k => by
    (first | apply rb.kVal | apply rb.kInt; intro _ | apply rb.kFlt; intro _ _ | apply rb.kBool | apply rb.kNone | apply rb.kNil | cases rb)
    with_reducible exact is_none (k _ s.heap s.toks Grow.rfl (by rw [hb h' va ra]; exact .bool _))) rfl
theorem tst_of_ev {e : Expr} {b : Bool} (he : Ev prog w A X env h e (.bool b)) (hi : isTrue e env (eval e env) = (do let v ← eval e env; standAt e.pos; holding [v] (truthy v)) := by rfl) : Tst prog w A X env h e b := .by fun s E Q hg hv hpos k =>
  wpAny_isTrue_value (he.use hg hv fun v h1 t1 g1 r1 _ => by (first | apply r1.kVal | apply r1.kInt; intro _ | apply r1.kFlt; intro _ _ | apply r1.kBool | apply r1.kNone | apply r1.kNil | cases r1); exact wpAny_truthy_bool (k b h1 t1 g1 rfl)) hi
theorem tst_not {x : Expr} {b : Bool} (hx : Tst prog w A X env h x b) : Tst prog w A X env h (.UnaryOp .Not x pos) (!b) := .by fun s E Q hg hv hpos k =>
  wpAny_isTrue_Not (hx.use hg hv fun v h1 t1 g1 r1 _ => k _ h1 t1 g1 (by rw [r1]))
theorem tst_or2 {x y : Expr} {a b : Bool} (hx : Tst prog w A X env h x a) (hy : a = false → Tst prog w A X env h y b) : Tst prog w A X env h (.BoolOp .Or [x, y] pos) (a || b) := .by fun s E Q hg hv hpos k =>
  wpAny_isTrue_BoolOp (wpAny_allTrue_Or_cons (hx.use hg hv fun v h1 t1 g1 r1 _ => by
    subst r1
    cases v with
    | true => exact k true h1 t1 g1 rfl
    | false => exact wpAny_allTrue_Or_cons ((hy rfl).use (hg.trans g1) (hv.grow g1) fun v h2 t2 g2 r2 _ => by
        subst r2
        cases v with
        | true => exact k true h2 t2 (g1.trans g2) rfl
        | false => exact wpAny_allTrue_Or_nil (k false h2 t2 (g1.trans g2) rfl))))
theorem tst_and2 {x y : Expr} {a b : Bool} (hx : Tst prog w A X env h x a) (hy : a = true → Tst prog w A X env h y b) : Tst prog w A X env h (.BoolOp .And [x, y] pos) (a && b) := .by fun s E Q hg hv hpos k =>
  wpAny_isTrue_BoolOp (wpAny_allTrue_And_cons (hx.use hg hv fun v h1 t1 g1 r1 _ => by
    subst r1
    cases v with
    | false => exact k false h1 t1 g1 rfl
    | true => exact wpAny_allTrue_And_cons ((hy rfl).use (hg.trans g1) (hv.grow g1) fun v h2 t2 g2 r2 _ => by
        subst r2
        cases v with
        | false => exact k false h2 t2 (g1.trans g2) rfl
        | true => exact wpAny_allTrue_And_nil (k true h2 t2 (g1.trans g2) rfl))))
theorem ev_or2 {x y : Expr} {a b : Bool} (hx : Ev prog w A X env h x (.bool a)) (hy : a = false → Ev prog w A X env h y (.bool b)) : Ev prog w A X env h (.BoolOp .Or [x, y] pos) (.bool (a || b)) := .by fun s E Q hg hv hpos k =>
  wpAny_Or2 (hx.use hg hv fun v h1 t1 g1 r1 _ => by
    (first | apply r1.kVal | apply r1.kInt; intro _ | apply r1.kFlt; intro _ _ | apply r1.kBool | apply r1.kNone | apply r1.kNil | cases r1)
    refine wpAny_truthy_bool ?_
    cases a with
    | true => exact k _ h1 t1 g1 (.bool _)
    | false => exact (hy rfl).use (hg.trans g1) (hv.grow g1) fun v h2 t2 g2 r2 _ => k _ h2 t2 (g1.trans g2) r2)
theorem ev_and2 {x y : Expr} {a b : Bool} (hx : Ev prog w A X env h x (.bool a)) (hy : a = true → Ev prog w A X env h y (.bool b)) : Ev prog w A X env h (.BoolOp .And [x, y] pos) (.bool (a && b)) := .by fun s E Q hg hv hpos k =>
  wpAny_And2 (hx.use hg hv fun v h1 t1 g1 r1 _ => by
    (first | apply r1.kVal | apply r1.kInt; intro _ | apply r1.kFlt; intro _ _ | apply r1.kBool | apply r1.kNone | apply r1.kNil | cases r1)
    refine wpAny_truthy_bool ?_
    cases a with
    | false => exact k _ h1 t1 g1 (.bool _)
    | true => exact (hy rfl).use (hg.trans g1) (hv.grow g1) fun v h2 t2 g2 r2 _ => k _ h2 t2 (g1.trans g2) r2)
theorem ev_not {x : Expr} {b : Bool} (hx : Ev prog w A X env h x (.bool b)) : Ev prog w A X env h (.UnaryOp .Not x pos) (.bool (!b)) := .by fun s E Q hg hv hpos k =>
  wpAny_UnaryOp (hx.use hg hv fun v h1 t1 g1 r1 _ => by
    (first | apply r1.kVal | apply r1.kInt; intro _ | apply r1.kFlt; intro _ _ | apply r1.kBool | apply r1.kNone | apply r1.kNil | cases r1)
    exact not_value (wpAny_truthy_bool (k _ h1 t1 g1 (.bool _))))
theorem ev_ife {t x y : Expr} {b : Bool} {d : D} (ht : Tst prog w A X env h t b) (hx : b = true → Ev prog w A X env h x d) (hy : b = false → Ev prog w A X env h y d) : Ev prog w A X env h (.IfExp t x y pos) d := .by fun s E Q hg hv hpos k =>
  wpAny_IfExp (ht.use hg hv fun v h1 t1 g1 r1 _ => by
    subst r1
    cases v with
    | true => exact (hx rfl).use (hg.trans g1) (hv.grow g1) fun v h2 t2 g2 r2 _ => k _ h2 t2 (g1.trans g2) r2
    | false => exact (hy rfl).use (hg.trans g1) (hv.grow g1) fun v h2 t2 g2 r2 _ => k _ h2 t2 (g1.trans g2) r2)
end
end
end Mine

namespace Mine
section
open PySem PySem.W PySem.Calls PyProof.Rows
set_option maxRecDepth 100000
set_option linter.unusedVariables false
variable {prog : Program} {w : World}

noncomputable def tabVals (cs : List (Nat × Nat × Str × Addr)) : List Value := cs.flatMap fun q => [rawInt q.1, rawInt q.2.1, .ref q.2.2.2]
theorem codeRec_tr {h h' : Heap} {a : Addr} {q : Str} (x : h.CodeRec (.ref a) q) (k : ∀ o, h.get? a = some o → h'.get? a = some o) : h'.CodeRec (.ref a) q := by
  obtain ⟨b, o, vs, t, e, ho, r⟩ := x
  cases e
  exact ⟨a, o, vs, t, rfl, k o ho, r⟩
theorem codeRec_there {h : Heap} {a : Addr} {q : Str} (x : h.CodeRec (.ref a) q) : ∃ o, h.get? a = some o := by
  obtain ⟨b, o, vs, t, e, ho, r⟩ := x
  cases e
  exact ⟨o, ho⟩
noncomputable def MutAt (prog : Program) (w : World) (X : Addr → Prop) (h : Heap) (p : Addr) : D → Prop
  | .lst ds => ∃ vs : List Value, h.PlainList p vs.toArray ∧ Reps prog w X h ds vs
  | .dct ds => ∃ kvs, h.DictOf (intKind prog w) p kvs ∧ RepKV prog w X h ds kvs
  | .tab cs => h.get? p = some (tabObj (tabVals cs).toArray) ∧ ∀ q ∈ cs, ¬ X q.2.2.2 ∧ h.CodeRec (.ref q.2.2.2) q.2.2.1
  | _ => False
theorem MutAt.tr {X X' : Addr → Prop} {h h' : Heap} {p : Addr} {d : D} (m : MutAt prog w X h p d) (T : Tr X X' h h') (k : ∀ o, h.get? p = some o → h'.get? p = some o) : MutAt prog w X' h' p d := by
  cases d with
  | lst ds => obtain ⟨vs, a, r⟩ := m; exact ⟨vs, plain_tr a k, r.tr T⟩
  | dct ds => obtain ⟨vs, a, r⟩ := m; exact ⟨vs, dictOf_tr a k, r.tr T⟩
  | tab cs => exact ⟨k _ m.1, fun q hq => ⟨let ⟨o, e⟩ := codeRec_there (m.2 q hq).2; (T _ o (m.2 q hq).1 e).1, codeRec_tr (m.2 q hq).2 fun o e => (T _ o (m.2 q hq).1 e).2⟩⟩
  | _ => exact m.elim
theorem MutAt.there {X : Addr → Prop} {h : Heap} {p : Addr} {d : D} (m : MutAt prog w X h p d) : ∃ o, h.get? p = some o := by
  cases d with
  | lst ds => obtain ⟨vs, a, r⟩ := m; exact plain_there a
  | dct ds => obtain ⟨vs, a, r⟩ := m; exact dictOf_there a
  | tab cs => exact ⟨_, m.1⟩
  | _ => exact m.elim
theorem MutAt.ne_cell {X : Addr → Prop} {h : Heap} {p c : Addr} {v : Option Value} {d : D} (m : MutAt prog w X h p d) (hc : h.IsCell c v) : c ≠ p := by
  rintro rfl
  obtain ⟨o', e', d'⟩ := hc
  cases d with
  | lst ds => obtain ⟨vs, ⟨n, a⟩, r⟩ := m; rw [a] at e'; cases e'; cases d'
  | dct ds => obtain ⟨vs, ⟨o, es, ep, a, _, b, _⟩, r⟩ := m; rw [a] at e'; cases e'; rw [b] at d'; cases d'
  | tab cs => rw [m.1] at e'; cases e'; cases d'
  | _ => exact m.elim

structure St (prog : Program) (w : World) (h₀ : Heap) (X Mu : Addr → Prop) (env : Env) (s₀ s : Shared) (l : List (Str × D)) (ml : List (Addr × D)) : Prop where
  same : ∃ h tk, s = { s₀ with heap := h, toks := tk }
  keep : ∀ b o, ¬ Mu b → s₀.heap.get? b = some o → s.heap.get? b = some o
  liv : Liv X s.heap
  ns : ∃ m, s.heap.Ns env.locals m
  mx : ∀ b, Mu b → X b
  loc : Mu env.locals
  cells : ∀ x c, env.cells.lookup x = some c → (∃ v, s.heap.IsCell c v) ∧ True
  apart : ∀ x y c, env.cells.lookup x = some c → env.cells.lookup y = some c → x = y
  vars : ∀ x d, l.lookup x = some d → Var prog w X env s.heap x d
  muts : ∀ q ∈ ml, Mu q.1 ∧ q.1 ≠ env.locals ∧ MutAt prog w X s.heap q.1 q.2
  mdis : ml.Pairwise fun a b => a.1 ≠ b.1
  base : Grow h₀ s.heap
  tok : 0 < s.toks
  off : ∀ b, Mu b → h₀.get? b = none

section
variable {h₀ : Heap} {A : Around} {X Mu : Addr → Prop} {env : Env} {s₀ s : Shared} {l : List (Str × D)} {ml : List (Addr × D)} {E : Value → Shared → Prop}

theorem ns_cell_ne {h : Heap} {L c : Addr} {m : Str → Option Value} {v : Option Value} (hn : h.Ns L m) (hc : h.IsCell c v) : c ≠ L := by
  rintro rfl
  obtain ⟨o, es, ep, e, d, _⟩ := hn
  obtain ⟨o', e', d'⟩ := hc
  rw [e] at e'
  cases e'
  rw [d] at d'
  cases d'

theorem St.grown {h' : Heap} {tk : Nat} (S : St prog w h₀ X Mu env s₀ s l ml) (g : Grow s.heap h') (ht : 0 < tk := by assumption) : St prog w h₀ X Mu env s₀ { s with heap := h', toks := tk } l ml := by
  obtain ⟨h, t, rfl⟩ := S.same
  obtain ⟨m, hn⟩ := S.ns
  exact ⟨⟨h', tk, rfl⟩, fun b o hb e => g b o (S.keep b o hb e), S.liv.grow g, ⟨m, hn.keeps g⟩, S.mx, S.loc, fun x c hx => ⟨let ⟨v, hv⟩ := (S.cells x c hx).1; ⟨v, isCell_grow hv g⟩, (S.cells x c hx).2⟩, S.apart, fun x d hx => (S.vars x d hx).grow g,
    fun q hq => ⟨(S.muts q hq).1, (S.muts q hq).2.1, (S.muts q hq).2.2.tr g.tr fun o e => g _ o e⟩, S.mdis, S.base.trans g, ht, S.off⟩
theorem St.refl (S : St prog w h₀ X Mu env s₀ s l ml) : St prog w h₀ X Mu env s s l ml := ⟨⟨s.heap, s.toks, rfl⟩, fun b o _ e => e, S.liv, S.ns, S.mx, S.loc, S.cells, S.apart, S.vars, S.muts, S.mdis, S.base, S.tok, S.off⟩
theorem St.trans {s₁ : Shared} {l' : List (Str × D)} {ml' : List (Addr × D)} (S : St prog w h₀ X Mu env s₀ s₁ l ml) (S' : St prog w h₀ X Mu env s₁ s l' ml') : St prog w h₀ X Mu env s₀ s l' ml' := by
  obtain ⟨h, t, rfl⟩ := S.same
  obtain ⟨h', t', rfl⟩ := S'.same
  exact ⟨⟨h', t', rfl⟩, fun b o n e => S'.keep b o n (S.keep b o n e), S'.liv, S'.ns, S'.mx, S'.loc, S'.cells, S'.apart, S'.vars, S'.muts, S'.mdis, S'.base, S'.tok, S'.off⟩
theorem St.sub {l' : List (Str × D)} (S : St prog w h₀ X Mu env s₀ s l ml) (hs : ∀ x d, l'.lookup x = some d → l.lookup x = some d) : St prog w h₀ X Mu env s₀ s l' ml := { S with vars := fun x d hx => S.vars x d (hs x d hx) }

theorem tr_sameBut {X : Addr → Prop} {h h' : Heap} {a : Addr} (hx : X a) (hs : Heap.SameBut a h h') : Tr X X h h' := fun b o n e => ⟨n, (hs.2 b (fun z => n (z ▸ hx))).trans e⟩
theorem liv_sameBut {X : Addr → Prop} {h h' : Heap} {a : Addr} (hl : Liv X h) (hs : Heap.SameBut a h h') (ha : ∃ o, h'.get? a = some o) : Liv X h' := by
  have key : ∀ b o, h.get? b = some o → ∃ o', h'.get? b = some o' := fun b o e => by
    by_cases q : b = a
    · exact q ▸ ha
    · exact ⟨o, (hs.2 b q).trans e⟩
  exact hl.tr (fun o e => key _ o e) (fun b hb => .inl hb) fun b _ _ o e => key b o e
theorem base_sameBut {h₀ h h' : Heap} {a : Addr} (g : Grow h₀ h) (hs : Heap.SameBut a h h') (ha : h₀.get? a = none) : Grow h₀ h' := fun b o e => (hs.2 b fun z => by rw [z, ha] at e; cases e).trans (g b o e)
theorem ns_there {h : Heap} {a : Addr} {m} (x : h.Ns a m) : ∃ o, h.get? a = some o := let ⟨o, _, _, e, _⟩ := x; ⟨o, e⟩
theorem isCell_there {h : Heap} {a : Addr} {m} (x : h.IsCell a m) : ∃ o, h.get? a = some o := let ⟨o, e, _⟩ := x; ⟨o, e⟩
theorem isCell_tr {h h' : Heap} {c : Addr} {v : Option Value} (x : h.IsCell c v) (k : ∀ o, h.get? c = some o → h'.get? c = some o) : h'.IsCell c v := let ⟨o, e, r⟩ := x; ⟨o, k _ e, r⟩

theorem St.change {p : Addr} {d d' : D} {h' : Heap} {tk : Nat} (S : St prog w h₀ X Mu env s₀ s l ((p, d) :: ml)) (hs : Heap.SameBut p s.heap h') (hm : MutAt prog w X h' p d') (ht : 0 < tk := by assumption) :
    St prog w h₀ X Mu env s₀ { s with heap := h', toks := tk } l ((p, d') :: ml) := by
  obtain ⟨h, t, rfl⟩ := S.same
  obtain ⟨m, hn⟩ := S.ns
  obtain ⟨ha, hL, hm0⟩ := S.muts _ (.head _)
  have hC : ∀ c v, h.IsCell c v → c ≠ p := fun c v hv => hm0.ne_cell hv
  have hn' : h'.Ns env.locals m := hn.sameBut hs (Ne.symm hL)
  have T : Tr X X h h' := tr_sameBut (S.mx _ ha) hs
  have dis := List.pairwise_cons.mp S.mdis
  refine ⟨⟨h', tk, rfl⟩, fun b o n e => (hs.2 b fun z => n (z ▸ ha)).trans (S.keep b o n e), liv_sameBut S.liv hs hm.there, ⟨m, hn'⟩, S.mx, S.loc, fun x c hx => ?_, S.apart, fun x d hx => ?_, fun q hq => ?_, ?_, base_sameBut S.base hs (S.off _ ha), ht, S.off⟩
  · obtain ⟨⟨v, hv⟩, h1⟩ := S.cells x c hx
    exact ⟨⟨v, isCell_tr hv fun o e => (hs.2 c (hC c v hv)).trans e⟩, h1⟩
  · rcases S.vars x d hx with ⟨k, m1, v, hn1, hm, r⟩ | ⟨k, c, v, hc, hv, r⟩
    · exact .inl ⟨k, m1, v, hn1.sameBut hs (Ne.symm hL), hm, r.tr T⟩
    · exact .inr ⟨k, c, v, hc, isCell_tr hv fun o e => (hs.2 c (hC c _ hv)).trans e, r.tr T⟩
  · rcases List.mem_cons.mp hq with rfl | hq
    · exact ⟨ha, hL, hm⟩
    · obtain ⟨a1, a2, a3⟩ := S.muts q (.tail _ hq)
      exact ⟨a1, a2, a3.tr T fun o e => (hs.2 _ (Ne.symm (dis.1 q hq))).trans e⟩
  · exact List.pairwise_cons.mpr ⟨dis.1, dis.2⟩
theorem St.swap {p q : Addr × D} (S : St prog w h₀ X Mu env s₀ s l (p :: q :: ml)) : St prog w h₀ X Mu env s₀ s l (q :: p :: ml) := { S with
  muts := fun r hr => S.muts r (by
    rcases List.mem_cons.mp hr with rfl | hr
    · exact .tail _ (.head _)
    · rcases List.mem_cons.mp hr with rfl | hr
      · exact .head _
      · exact .tail _ (.tail _ hr))
  mdis := by
    have d1 := List.pairwise_cons.mp S.mdis
    have d2 := List.pairwise_cons.mp d1.2
    refine List.pairwise_cons.mpr ⟨fun r hr => ?_, List.pairwise_cons.mpr ⟨fun r hr => d1.1 r (.tail _ hr), d2.2⟩⟩
    rcases List.mem_cons.mp hr with rfl | hr
    · exact Ne.symm (d1.1 q (.head _))
    · exact d2.1 r hr }

theorem st_local {x : Str} {d : D} {v : Value} {Q : Unit → Shared → Prop} (S : St prog w h₀ X Mu env s₀ s l ml) (hk : env.scope.kind = .function) (hx : env.kindOf x = some .local) (r : Rep prog w X s.heap d v)
    (k : ∀ s', St prog w h₀ X Mu env s₀ s' ((x, d) :: l) ml → Q () s') : wpAny (model prog w) A (storeName env x v) Q E s := by
  obtain ⟨h, t, rfl⟩ := S.same
  obtain ⟨m, hn⟩ := S.ns
  refine wpAny_storeName_local hx hn (fun h' hn' hs => k _ ?_) (by rw [hk]; rfl)
  have tr : Tr X X h h' := tr_sameBut (S.mx _ S.loc) hs
  refine ⟨⟨h', _, rfl⟩, fun b o n e => (hs.2 b fun z => n (z ▸ S.loc)).trans (S.keep b o n e), liv_sameBut S.liv hs (ns_there hn'), ⟨_, hn'⟩, S.mx, S.loc, fun y c hy => ?_, S.apart, fun y d' hy => ?_, fun q hq => ?_, S.mdis, base_sameBut S.base hs (S.off _ S.loc), Nat.succ_pos _, S.off⟩
  · obtain ⟨⟨v, hv⟩, h1⟩ := S.cells y c hy
    exact ⟨⟨v, isCell_tr hv fun o e => (hs.2 c (ns_cell_ne hn hv)).trans e⟩, h1⟩
  · rw [List.lookup_cons] at hy
    split at hy
    · rename_i e
      cases hy
      have e' : y = x := beq_iff_eq.mp e
      exact .inl ⟨e' ▸ hx, _, v, hn', if_pos e', r.tr tr⟩
    · rename_i e
      have e' : y ≠ x := fun z => by rw [z] at e; simp at e
      rcases S.vars y d' hy with ⟨k, m1, v1, hn1, hm, r1⟩ | ⟨k, c, v1, hc, hv, r1⟩
      · refine .inl ⟨k, _, v1, hn', ?_, r1.tr tr⟩
        obtain ⟨o1, es1, ep1, g1, d1, k1, f1⟩ := hn
        obtain ⟨o2, es2, ep2, g2, d2, k2, f2⟩ := hn1
        rw [g1] at g2; cases g2
        rw [d1] at d2; cases d2
        rw [if_neg e', ← f1, f2]; exact hm
      · exact .inr ⟨k, c, v1, hc, isCell_tr hv fun o e => (hs.2 c (ns_cell_ne hn hv)).trans e, r1.tr tr⟩
  · obtain ⟨a1, a2, a3⟩ := S.muts q hq
    exact ⟨a1, a2, a3.tr tr fun o e => (hs.2 _ a2).trans e⟩
theorem st_cell {x : Str} {d : D} {v : Value} {Q : Unit → Shared → Prop} (S : St prog w h₀ X Mu env s₀ s l ml) (hk : env.scope.kind = .function) (hx : env.kindOf x = some .cell) {c : Addr} (hc : env.cells.lookup x = some c) (hM : Mu c) (r : Rep prog w X s.heap d v)
    (k : ∀ s', St prog w h₀ X Mu env s₀ s' ((x, d) :: l) ml → Q () s') : wpAny (model prog w) A (storeName env x v) Q E s := by
  obtain ⟨h, t, rfl⟩ := S.same
  obtain ⟨m, hn⟩ := S.ns
  obtain ⟨⟨v0, hv0⟩, _⟩ := S.cells x c hc
  refine wpAny_storeName_cell hk hx hc hv0 (fun h' hv' hs => k _ ?_)
  have tr : Tr X X h h' := tr_sameBut (S.mx _ hM) hs
  have hL : env.locals ≠ c := Ne.symm (ns_cell_ne hn hv0)
  refine ⟨⟨h', _, rfl⟩, fun b o n e => (hs.2 b fun z => n (z ▸ hM)).trans (S.keep b o n e), liv_sameBut S.liv hs (isCell_there hv'), ⟨_, hn.sameBut hs hL⟩, S.mx, S.loc, fun y c' hy => ?_, S.apart, fun y d' hy => ?_, fun q hq => ?_, S.mdis, base_sameBut S.base hs (S.off _ hM), S.tok, S.off⟩
  · obtain ⟨⟨v1, hv1⟩, h1⟩ := S.cells y c' hy
    by_cases q : c' = c
    · subst q; exact ⟨⟨_, hv'⟩, h1⟩
    · exact ⟨⟨v1, isCell_tr hv1 fun o e => (hs.2 c' q).trans e⟩, h1⟩
  · rw [List.lookup_cons] at hy
    split at hy
    · rename_i e
      cases hy
      have e' : y = x := beq_iff_eq.mp e
      exact .inr ⟨.inl (e' ▸ hx), c, v, e' ▸ hc, hv', r.tr tr⟩
    · rename_i e
      have e' : y ≠ x := fun z => by rw [z] at e; simp at e
      rcases S.vars y d' hy with ⟨k, m1, v1, hn1, hm, r1⟩ | ⟨k, c', v1, hc', hv, r1⟩
      · exact .inl ⟨k, m1, v1, hn1.sameBut hs hL, hm, r1.tr tr⟩
      · exact .inr ⟨k, c', v1, hc', isCell_tr hv fun o e => (hs.2 c' (fun z => e' (S.apart y x c' hc' (z ▸ hc)))).trans e, r1.tr tr⟩
  · obtain ⟨a1, a2, a3⟩ := S.muts q hq
    exact ⟨a1, a2, a3.tr tr fun o e => (hs.2 _ (Ne.symm (a3.ne_cell hv0))).trans e⟩

theorem st_name {x : Str} {d : D} {v : Value} {Q : Unit → Shared → Prop} (S : St prog w h₀ X Mu env s₀ s l ml) (hk : env.scope.kind = .function) (hx : env.kindOf x = some .local ∨ (env.kindOf x = some .cell ∧ ∃ c, env.cells.lookup x = some c ∧ Mu c)) (r : Rep prog w X s.heap d v)
    (k : ∀ s', St prog w h₀ X Mu env s₀ s' ((x, d) :: l) ml → Q () s') : wpAny (model prog w) A (storeName env x v) Q E s := by
  rcases hx with hx | ⟨hx, c, hc, hM⟩
  · exact st_local S hk hx r k
  · exact st_cell S hk hx hc hM r k

variable {rest : List Stmt} {pos : Pos} {Q : Flow → Shared → Prop}
theorem x_assign {x : Str} {px : Pos} {value : Expr} {d : D} (S : St prog w h₀ X Mu env s₀ s l ml) (hk : env.scope.kind = .function) (he : Ev prog w A X env s.heap value d) (hx : env.kindOf x = some .local ∨ (env.kindOf x = some .cell ∧ ∃ c, env.cells.lookup x = some c ∧ Mu c))
    (hs : swapsWith value (some (.Name x px)) pos.line env = pure false) (k : ∀ s', St prog w h₀ X Mu env s₀ s' ((x, d) :: l) ml → wpAny (model prog w) A (execs rest env) Q E s') : wpAny (model prog w) A (execs (.Assign [.Name x px] value pos :: rest) env) Q E s :=
  wpAny_execs_cons (wpAny_Assign_Name (he.use Grow.rfl S.liv (fun v h' tk g r _ => st_name (S.grown g) hk hx r k) S.tok) hs)
theorem x_if {t : Expr} {body orelse : List Stmt} {b : Bool} (S : St prog w h₀ X Mu env s₀ s l ml) (ht : Tst prog w A X env s.heap t b)
    (k : ∀ s', St prog w h₀ X Mu env s₀ s' l ml → wpAny (model prog w) A (execs (if b then body else orelse) env) (fun f s₁ => match f with | .next => wpAny (model prog w) A (execs rest env) Q E s₁ | f => Q f s₁) E s') : wpAny (model prog w) A (execs (.If t body orelse pos :: rest) env) Q E s :=
  wpAny_execs_cons (wpAny_If (ht.use Grow.rfl S.liv (fun v h' tk g r _ => by
    subst r
    have := k _ (S.grown (tk := tk) g)
    cases v <;> exact this) S.tok))
theorem x_ret {e : Expr} {d : D} (S : St prog w h₀ X Mu env s₀ s l ml) (he : Ev prog w A X env s.heap e d) (k : ∀ s' v, St prog w h₀ X Mu env s₀ s' l ml → Rep prog w X s'.heap d v → Q (.ret v) s') : wpAny (model prog w) A (execs (.Return (some e) pos :: rest) env) Q E s :=
  wpAny_execs_cons (wpAny_Return_some (he.use Grow.rfl S.liv (fun v h' tk g r _ => k _ v (S.grown g) r) S.tok))
theorem x_nil (k : Q .next s) : wpAny (model prog w) A (execs [] env) Q E s := wpAny_execs_nil k
end
end
end Mine

namespace Mine
section
open PySem PySem.W PySem.Calls PyProof.Rows
set_option maxRecDepth 100000
set_option linter.unusedVariables false
variable {prog : Program} {w : World}

noncomputable def stmtAt (i : Nat) : Stmt := PySem.Challenge.pw_pe0148_01.main.body.getD i (.Pass ⟨0, 0, 0, 0⟩)
noncomputable def bodyOf : Stmt → List Stmt
  | .FunctionDef _ _ body _ _ _ _ _ _ _ => body
  | _ => []
noncomputable def scopeOf : Stmt → Scope
  | .FunctionDef _ _ _ _ _ _ scope _ _ _ => scope
  | _ => ⟨.function, [], false, false, []⟩
noncomputable def argsOf : Stmt → Arguments
  | .FunctionDef _ args _ _ _ _ _ _ _ _ => args
  | _ => ⟨[], [], none, [], [], none, []⟩

@[reducible] noncomputable def fdOf (i : Nat) (name qual : Str) (dV kV doc pm : Value) (an : Option Addr) (cd ct : Value) : FuncData :=
  { name, qualname := qual, params := argsOf (stmtAt i), body := .stmts (bodyOf (stmtAt i)), scope := scopeOf (stmtAt i), globals := mainGlobals, closure := [], defaults := dV, kwdefaults := kV, doc, pyModule := pm, annotations := an, code := cd, closureTuple := ct, builtins := builtinsNs }
@[reducible] noncomputable def envAt (i : Nat) (qual : Str) (cd : Value) (L f : Addr) : Env :=
  { scope := scopeOf (stmtAt i), locals := L, globals := mainGlobals, cells := [], qual := qual ++ ".<locals>.", func := some f, code := cd, frame := some L, builtins := builtinsNs }

structure FnAt (h : Heap) (f : Addr) (fd : FuncData) : Prop where
  here : ∃ o, h.get? f = some o ∧ o.data = .func fd
  code : h.CodeRec fd.code fd.qualname
theorem codeRec_grow {h h' : Heap} {v : Value} {q : Str} (x : h.CodeRec v q) (g : Grow h h') : h'.CodeRec v q := by
  obtain ⟨a, o, vs, t, e, ho, r⟩ := x
  exact ⟨a, o, vs, t, e, g _ _ ho, r⟩
theorem FnAt.grow {h h' : Heap} {f : Addr} {fd : FuncData} (x : FnAt h f fd) (g : Grow h h') : FnAt h' f fd := ⟨let ⟨o, e, r⟩ := x.here; ⟨o, g _ _ e, r⟩, codeRec_grow x.code g⟩

section
variable {A : Around} {X : Addr → Prop} {h : Heap} {env : Env}

noncomputable def Ret (prog : Program) (w : World) (X Mu : Addr → Prop) (s₁ : Shared) (d : D) (fl : Flow) (s' : Shared) : Prop :=
  ∃ v, fl = .ret v ∧ (∃ h tk, s' = { s₁ with heap := h, toks := tk }) ∧ (∀ b o, ¬ Mu b → s₁.heap.get? b = some o → s'.heap.get? b = some o) ∧ Rep prog w X s'.heap d v
theorem St.ret {X Mu Mu' X' : Addr → Prop} {h₀ : Heap} {env : Env} {s₁ s : Shared} {l : List (Str × D)} {ml : List (Addr × D)} {d : D} {v : Value} (S : St prog w h₀ X' Mu' env s₁ s l ml) (hn : ∀ b, Mu' b → Mu b ∨ s₁.heap.get? b = none) (r : Rep prog w X s.heap d v) : Ret prog w X Mu s₁ d (.ret v) s :=
  ⟨v, rfl, S.same, fun b o n e => S.keep b o (fun m => by rcases hn b m with q | q; exact n q; rw [q] at e; cases e) e, r⟩
theorem St.ret0 {X Mu : Addr → Prop} {h₀ : Heap} {env : Env} {s₁ s : Shared} {l : List (Str × D)} {ml : List (Addr × D)} {d : D} {v : Value} (S : St prog w h₀ X Mu env s₁ s l ml) (r : Rep prog w X s.heap d v) : Ret prog w X Mu s₁ d (.ret v) s := S.ret (fun _ m => .inl m) r

@[reducible] noncomputable def Xp (X : Addr → Prop) (L : Addr) : Addr → Prop := fun b => X b ∨ b = L
@[reducible] noncomputable def One (L : Addr) : Addr → Prop := fun b => b = L

theorem op_call {h₀ : Heap} {i : Nat} {name qual : Str} {dV kV doc pm cd ct : Value} {an : Option Addr} {f : Addr} {vs : List Value} {kw : List (Str × Value)} {binds : List (Str × Value)} {l : List (Str × D)} {d : D}
    (F : FnAt h f (fdOf i name qual dV kV doc pm an cd ct)) (hb : Grow h₀ h) (hlim : h.NoLimit) (hroom : A.depth < recursionLimit)
    (hbind : ∀ s : Shared, Grow h s.heap → BindsTo s (fdOf i name qual dV kV doc pm an cd ct) ⟨vs, kw⟩ binds)
    (hcell : ∀ x ∈ (scopeOf (stmtAt i)).names, x.2 ≠ .cell) (hloc : ∀ x ∈ binds, (scopeOf (stmtAt i)).names.lookup x.1 = some .local)
    (hrep : ∀ x d, l.lookup x = some d → ∃ v, binds.reverse.lookup x = some v ∧ Rep prog w X h d v)
    (hlk : ∀ x d, l.lookup x = some d → (scopeOf (stmtAt i)).names.lookup x = some .local)
    (body : ∀ (s₁ : Shared) (L : Addr) (E : Value → Shared → Prop), Grow h s₁.heap → ¬ X L → St prog w h₀ (Xp X L) (One L) (envAt i qual cd L f) s₁ s₁ l [] →
      wpAny (model prog w) (A.deeper (envAt i qual cd L f)) (execs (bodyOf (stmtAt i)) (envAt i qual cd L f)) (Ret prog w (Xp X L) (One L) s₁ d) E s₁)
    (hco : (scopeOf (stmtAt i)).isCoroutine = false := by rfl) (hgen : (scopeOf (stmtAt i)).isGenerator = false := by rfl) (hk : (scopeOf (stmtAt i)).kind = .function := by rfl) :
    Op prog w A X h (call (.ref f) vs kw) d := .by fun s E Q hg hl hpos k => by
  obtain ⟨o, ho, hd⟩ := (F.grow hg).here
  refine wpAny_call (codeAny_call_def (fd := fdOf i name qual dV kV doc pm an cd ct) hroom ho hd (hlim.keeps hg) (F.grow hg).code rfl (hbind s hg) hcell hloc (fun hf hn hk₀ => ?_) hco hgen hk)
  have hL : s.heap.get? s.heap.objs.size = none := by
    cases q : s.heap.get? s.heap.objs.size with
    | none => rfl
    | some o => exact absurd (Heap.lt_size q) (Nat.lt_irrefl _)
  have hXL : ¬ X s.heap.objs.size := hl.fresh
  have tr : Tr X (Xp X s.heap.objs.size) s.heap hf := by
    intro b o n e
    refine ⟨fun q => ?_, hk₀ b o e⟩
    rcases q with q | q
    · exact n q
    · subst q; rw [hL] at e; cases e
  have S : St prog w h₀ (Xp X s.heap.objs.size) (One s.heap.objs.size) (envAt i qual cd s.heap.objs.size f) { s with heap := hf, toks := s.toks + binds.length } { s with heap := hf, toks := s.toks + binds.length } l [] := by
    refine ⟨⟨hf, _, rfl⟩, fun b o _ e => e, ?_, ⟨_, hn⟩, fun b hb => .inr hb, rfl, fun x c hx => (by cases hx), fun x y c hx => (by cases hx), fun x d hx => ?_, fun q hq => (by cases hq), List.Pairwise.nil, (hb.trans hg).trans hk₀, Nat.lt_of_lt_of_le hpos (Nat.le_add_right _ _), fun b hb' => ?_⟩
    · exact hl.tr (fun o e => ⟨o, hk₀ _ o e⟩) (fun b hb => hb.elim .inl fun q => .inr (q ▸ ns_there hn)) fun b _ _ o e => ⟨o, hk₀ b o e⟩
    · obtain ⟨v, hv, r⟩ := hrep x d hx
      exact .inl ⟨hlk x d hx, _, v, hn, hv, (r.grow hg).tr tr⟩
    · rw [show b = s.heap.objs.size from hb']
      cases q : h₀.get? s.heap.objs.size with
      | none => rfl
      | some o => have := hg _ _ (hb _ _ q); rw [hL] at this; cases this
  refine wpAny_mono (body _ _ _ (hg.trans hk₀) hXL S) (fun fl s' hr => ?_) fun _ _ e => e
  obtain ⟨v, rfl, ⟨h', tk, rfl⟩, kp, r⟩ := hr
  refine k v h' tk (fun b o e => kp b o (fun q => ?_) (hk₀ b o e)) (r.tr fun b o n e => ⟨fun q => n (.inl q), e⟩)
  rw [show b = s.heap.objs.size from q, hL] at e; cases e

theorem ev_call {func : Expr} {e : Expr} {args : List Expr} {pos : Pos} {f : Addr} {fd : FuncData} {ds : List D} {d : D} (hf : Ev prog w A X env h func (.val (.ref f))) (F : FnAt h f fd) (ha : Evs prog w A X env h pos (e :: args) ds)
    (hc : ∀ h' vs, Grow h h' → Reps prog w X h' ds vs → Op prog w A X h' (call (.ref f) vs) d)
    (he : eval (.Call func (e :: args) [] pos) env = (do callWith pos (← eval func env) [] (backTo pos (starEach (e :: args) env)) (backToKw pos (keywordEach [] env))) := by rfl)
    (hst : starEach (e :: args) env = (false, eval e env) :: starEach args env := by rfl) : Ev prog w A X env h (.Call func (e :: args) [] pos) d := .by fun s E Q hg hl hpos k =>
  Call_ (hf.use hg hl fun vf h1 t1 g1 r1 _ => by
    obtain ⟨o, ho, hd⟩ := F.here
    (first | apply r1.kVal | apply r1.kInt; intro _ | apply r1.kFlt; intro _ _ | apply r1.kBool | apply r1.kNone | apply r1.kNil | cases r1)
    exact callWith_def hd (ha.use (hg.trans g1) (hl.grow g1) fun vs h2 t2 g2 r2 _ => ⟨g2 _ _ (g1 _ _ (hg _ _ ho)), (hc h2 vs (hg.trans (g1.trans g2)) r2).use Grow.rfl (hl.grow (g1.trans g2)) fun v h3 t3 g3 r3 _ => k v h3 t3 (g1.trans (g2.trans g3)) r3⟩) hst) he
end

theorem lookup_append_none {α : Type} {l l' : List (Str × α)} {x : Str} (h : l.lookup x = none) : (l ++ l').lookup x = l'.lookup x := by
  induction l with
  | nil => rfl
  | cons p l ih =>
    rw [List.lookup_cons] at h
    rw [List.cons_append, List.lookup_cons]
    split at h
    · cases h
    · exact ih h
theorem lookup_append_some {α : Type} {l l' : List (Str × α)} {x : Str} {v : α} (h : l.lookup x = some v) : (l ++ l').lookup x = some v := by
  induction l with
  | nil => cases h
  | cons p l ih =>
    rw [List.lookup_cons] at h
    rw [List.cons_append, List.lookup_cons]
    split at h
    · exact h
    · exact ih h
theorem lookup_mem {α : Type} {l : List (Str × α)} {x : Str} {v : α} (h : l.lookup x = some v) : (x, v) ∈ l := by
  induction l with
  | nil => cases h
  | cons p l ih =>
    rw [List.lookup_cons] at h
    split at h
    · rename_i e; cases h; rw [beq_iff_eq.mp e]; exact .head _
    · exact .tail _ (ih h)
theorem rep_binds {X : Addr → Prop} {h : Heap} : ∀ {ns : List Str} {ds : List D} {vs : List Value}, ns.Nodup → Reps prog w X h ds vs → ∀ x d, (ns.zip ds).lookup x = some d → ∃ v, (ns.zip vs).reverse.lookup x = some v ∧ Rep prog w X h d v
  | [], _, _, _, _, x, d, e => by cases e
  | n :: ns, [], _, _, _, x, d, e => by cases e
  | n :: ns, d :: ds, v :: vs, hn, .cons r rs, x, d', e => by
    rw [List.zip_cons_cons, List.lookup_cons] at e
    rw [List.zip_cons_cons, List.reverse_cons]
    rw [List.nodup_cons] at hn
    split at e
    · rename_i q
      cases e
      have q' : x = n := beq_iff_eq.mp q
      subst q'
      refine ⟨v, ?_, r⟩
      rw [lookup_append_none]
      · rw [List.lookup_cons]; simp
      · cases z : (ns.zip vs).reverse.lookup x with
        | none => rfl
        | some u => exact absurd (List.of_mem_zip (List.mem_reverse.mp (lookup_mem z))).1 hn.1
    · obtain ⟨u, hu, ru⟩ := rep_binds hn.2 rs x d' e
      exact ⟨u, lookup_append_some hu, ru⟩
theorem zip_locs {α : Type} {names : List (Str × NameKind)} {ns : List Str} {vs : List α} (h : (ns.all fun n => decide (names.lookup n = some .local)) = true) : ∀ x ∈ ns.zip vs, names.lookup x.1 = some .local := fun x hx =>
  of_decide_eq_true (List.all_eq_true.mp h x.1 (List.of_mem_zip hx).1)

theorem op_callP {h₀ : Heap} {A : Around} {X : Addr → Prop} {h : Heap} {i : Nat} {name qual : Str} {dV kV doc pm cd ct : Value} {an : Option Addr} {f : Addr} {vs : List Value} {kw : List (Str × Value)} (ns : List Str) {ds : List D} {ws : List Value} {d : D}
    (F : FnAt h f (fdOf i name qual dV kV doc pm an cd ct)) (hb : Grow h₀ h) (hlim : h.NoLimit) (hroom : A.depth < recursionLimit)
    (hbind : ∀ s : Shared, Grow h s.heap → BindsTo s (fdOf i name qual dV kV doc pm an cd ct) ⟨vs, kw⟩ (ns.zip ws))
    (hcell : ((scopeOf (stmtAt i)).names.all fun x => decide (x.2 ≠ .cell)) = true) (hloc : (ns.all fun n => decide ((scopeOf (stmtAt i)).names.lookup n = some .local)) = true)
    (hnd : ns.Nodup) (hrep : Reps prog w X h ds ws)
    (body : ∀ (s₁ : Shared) (L : Addr) (E : Value → Shared → Prop), Grow h s₁.heap → ¬ X L → St prog w h₀ (Xp X L) (One L) (envAt i qual cd L f) s₁ s₁ (ns.zip ds) [] →
      wpAny (model prog w) (A.deeper (envAt i qual cd L f)) (execs (bodyOf (stmtAt i)) (envAt i qual cd L f)) (Ret prog w (Xp X L) (One L) s₁ d) E s₁)
    (hco : (scopeOf (stmtAt i)).isCoroutine = false := by rfl) (hgen : (scopeOf (stmtAt i)).isGenerator = false := by rfl) (hk : (scopeOf (stmtAt i)).kind = .function := by rfl) :
    Op prog w A X h (call (.ref f) vs kw) d :=
  op_call F hb hlim hroom hbind (fun x hx => of_decide_eq_true (List.all_eq_true.mp hcell x hx)) (zip_locs hloc) (rep_binds hnd hrep)
    (fun x d hx => zip_locs hloc (x, d) (lookup_mem hx)) body hco hgen hk
end
end Mine

namespace Mine
section
open PySem PySem.W PySem.Calls PyProof.Rows
set_option maxRecDepth 100000
set_option linter.unusedVariables false
variable {prog : Program} {w : World}
theorem isProp {p : Prop} (h : p) : p := h
theorem Go.cast {A : Around} {X : Addr → Prop} {h : Heap} {t : Sem Value} {d d' : D} (g : Op prog w A X h t d) (e : d = d') : Op prog w A X h t d' := e ▸ g
theorem Go.castB {A : Around} {X : Addr → Prop} {h : Heap} {t : Sem Bool} {d d' : Bool} (g : Go prog w A X h t fun _ c => c = d) (e : d = d') : Go prog w A X h t fun _ c => c = d' := e ▸ g
theorem ev_v {h₀ : Heap} {A : Around} {X Mu : Addr → Prop} {s₀ s : Shared} {env : Env} {l : List (Str × D)} {ml : List (Addr × D)} {x : Str} {pos : Pos} {d : D} (S : St prog w h₀ X Mu env s₀ s l ml) (hl : l.lookup x = some d) (hk : env.scope.kind = .function) (hd : (x == ("__debug__" : Str)) = false) (hcd : (x == ("__classdict__" : Str)) = false) : Ev prog w A X env s.heap (.Name x pos) d :=
  ev_var hk (S.vars x d hl) hd hcd
end
end Mine

namespace Mine
section
open PySem PySem.W PySem.Calls PyProof.Rows
set_option maxRecDepth 100000
set_option linter.unusedVariables false
variable {prog : Program} {w : World}
section
variable {A : Around} {X : Addr → Prop} {h : Heap} {env : Env}

theorem ev_callB {func : Expr} {e : Expr} {args : List Expr} {pos : Pos} {id : String} {ds : List D} {d : D} (hf : Ev prog w A X env h func (.val (.builtin id))) (ha : Evs prog w A X env h pos (e :: args) ds)
    (hc : ∀ h' vs, Grow h h' → Reps prog w X h' ds vs → Op prog w A X h' (call (.builtin id) vs) d)
    (he : eval (.Call func (e :: args) [] pos) env = (do callWith pos (← eval func env) [] (backTo pos (starEach (e :: args) env)) (backToKw pos (keywordEach [] env))) := by rfl)
    (hst : starEach (e :: args) env = (false, eval e env) :: starEach args env := by rfl) (hpl : (backTo pos (starEach args env)).any (·.1) = false := by rfl) : Ev prog w A X env h (.Call func (e :: args) [] pos) d := .by fun s E Q hg hl hpos k =>
  Call_ (hf.use hg hl fun vf h1 t1 g1 r1 _ => by
    (first | apply r1.kVal | apply r1.kInt; intro _ | apply r1.kFlt; intro _ _ | apply r1.kBool | apply r1.kNone | apply r1.kNil | cases r1)
    exact PyProof.Rows.callWith_builtin1 (ha.use (hg.trans g1) (hl.grow g1) fun vs h2 t2 g2 r2 _ => (hc h2 vs (hg.trans (g1.trans g2)) r2).use Grow.rfl (hl.grow (g1.trans g2)) fun v h3 t3 g3 r3 _ => k v h3 t3 (g1.trans (g2.trans g3)) r3) hst hpl) he
theorem ev_callT {func : Expr} {e : Expr} {args : List Expr} {pos : Pos} {T : String} {ds : List D} {d : D} (hf : Ev prog w A X env h func (.val (.type T))) (ha : Evs prog w A X env h pos (e :: args) ds)
    (hc : ∀ h' vs, Grow h h' → Reps prog w X h' ds vs → Op prog w A X h' (call (.type T) vs) d)
    (he : eval (.Call func (e :: args) [] pos) env = (do callWith pos (← eval func env) [] (backTo pos (starEach (e :: args) env)) (backToKw pos (keywordEach [] env))) := by rfl)
    (hst : starEach (e :: args) env = (false, eval e env) :: starEach args env := by rfl) (hpl : (backTo pos (starEach args env)).any (·.1) = false := by rfl) : Ev prog w A X env h (.Call func (e :: args) [] pos) d := .by fun s E Q hg hl hpos k =>
  Call_ (hf.use hg hl fun vf h1 t1 g1 r1 _ => by
    (first | apply r1.kVal | apply r1.kInt; intro _ | apply r1.kFlt; intro _ _ | apply r1.kBool | apply r1.kNone | apply r1.kNil | cases r1)
    exact PyProof.Rows.callWith_type1 (ha.use (hg.trans g1) (hl.grow g1) fun vs h2 t2 g2 r2 _ => (hc h2 vs (hg.trans (g1.trans g2)) r2).use Grow.rfl (hl.grow (g1.trans g2)) fun v h3 t3 g3 r3 _ => k v h3 t3 (g1.trans (g2.trans g3)) r3) hst hpl) he

theorem op_len_lst {ds : List D} {vs : List Value} (r : Reps prog w X h [.lst ds] vs) (hs : (ds.length : Int) < 2 ^ 63) : Op prog w A X h (call (.builtin "len") vs) (.int ds.length) := .by fun s E Q hg hl hpos k => by
  apply r.kCons; intro _ _ r r'; apply r'.kNil; apply r.kLst; intro _ _ hx ha hr
  have hL := plain_isList (plain_tr ha fun o e => hg _ _ e)
  refine call_len_list hL (by rw [List.size_toArray, hr.length]; exact hs) ?_
  rw [List.size_toArray, hr.length]
  exact k _ s.heap _ Grow.rfl (.int _ _)
theorem RepKV.length {ds : List (Int × D)} {kvs : List (Int × Value)} : RepKV prog w X h ds kvs → kvs.length = ds.length
  | .nil => rfl
  | .cons _ b => by simp [b.length]
theorem op_len_dct {ds : List (Int × D)} {vs : List Value} (hsm : X sysModules) (r : Reps prog w X h [.dct ds] vs) (hs : (ds.length : Int) < 2 ^ 63) : Op prog w A X h (call (.builtin "len") vs) (.int ds.length) := .by fun s E Q hg hl hpos k => by
  apply r.kCons; intro _ _ r r'; apply r'.kNil; apply r.kDct; intro a _ hx ha hr
  have hne : (a == sysModules) = false := by
    cases q : a == sysModules with
    | false => rfl
    | true => exact absurd (beq_iff_eq.mp q ▸ hsm) hx
  refine call_len_dict hne (dictOf_tr ha fun o e => hg _ _ e) (by rw [hr.length]; exact hs) ?_
  rw [hr.length]
  exact k _ s.heap _ Grow.rfl (.int _ _)
theorem op_abs {i : Int} {vs : List Value} (r : Reps prog w X h [.int i] vs) : Op prog w A X h (call (.builtin "abs") vs) (.int (if i < 0 then -i else i)) := .by fun s E Q hg hl hpos k => by
  apply r.kCons; intro _ _ r r'; apply r'.kNil; apply r.kInt; intro _; exact call_abs_int fun u tk => k _ s.heap _ Grow.rfl (.int _ _)
theorem op_max2 {i j : Int} {vs : List Value} (hh : A.handled = none) (r : Reps prog w X h [.int i, .int j] vs) : Op prog w A X h (call (.builtin "max") vs) (.int (if j > i then j else i)) := .by fun s E Q hg hl hpos k => by
  apply r.kCons; intro _ _ r r'; apply r'.kCons; intro _ _ r2 r'; apply r'.kNil; apply r.kInt; intro _; apply r2.kInt; intro _; exact max_two_ints hh fun h' tk g => k _ h' _ g (by split <;> exact .int _ _)
theorem op_min2 {i j : Int} {vs : List Value} (hh : A.handled = none) (r : Reps prog w X h [.int i, .int j] vs) : Op prog w A X h (call (.builtin "min") vs) (.int (if j < i then j else i)) := .by fun s E Q hg hl hpos k => by
  apply r.kCons; intro _ _ r r'; apply r'.kCons; intro _ _ r2 r'; apply r'.kNil; apply r.kInt; intro _; apply r2.kInt; intro _; exact min_two_ints hh fun h' tk g => k _ h' _ g (by split <;> exact .int _ _)
theorem op_int_flt {x : UInt64} {vs : List Value} {sg : Bool} {m : Nat} {e : Int} (hd : Float64.decode x = .fin sg m e) (r : Reps prog w X h [.flt x] vs) : Op prog w A X h (call (.type "int") vs) (.int (Float64.truncOf sg m e)) := .by fun s E Q hg hl hpos k => by
  apply r.kCons; intro _ _ r r'; apply r'.kNil; apply r.kFlt; intro _ _; exact call_int_float hd (k _ s.heap _ Grow.rfl (.int _ _))
theorem op_range1 {n : Int} {vs : List Value} (r : Reps prog w X h [.int n] vs) : Op prog w A X h (call (.type "range") vs) (.rng 0 n) := .by fun s E Q hg hl hpos k => by
  apply r.kCons; intro _ _ r r'; apply r'.kNil; apply r.kInt; intro _; exact call_range_1 (k _ _ _ (Grow.push _) (.rng hl.fresh (IsRange.new _ _ _ _ _ _ _)))
theorem op_range2 {a b : Int} {vs : List Value} (r : Reps prog w X h [.int a, .int b] vs) : Op prog w A X h (call (.type "range") vs) (.rng a b) := .by fun s E Q hg hl hpos k => by
  apply r.kCons; intro _ _ r r'; apply r'.kCons; intro _ _ r2 r'; apply r'.kNil; apply r.kInt; intro _; apply r2.kInt; intro _; exact call_range_2 (k _ _ _ (Grow.push _) (.rng hl.fresh (IsRange.new _ _ _ _ _ _ _)))

noncomputable def Itb (prog : Program) (w : World) (A : Around) (X : Addr → Prop) (h : Heap) (v : Value) (ds : List D) : Prop :=
  ∀ (s : Shared) (E : Value → Shared → Prop) (Q : Value → Shared → Prop), Grow h s.heap → Liv X s.heap →
    (∀ I fp wr P Sx h' tk, Walks prog w A I fp wr ds.length P Sx → Sx 0 h' → Grow s.heap h' → (∀ b ∈ wr, s.heap.get? b = none) → (∀ i g, Sx i g → ∀ b ∈ wr, ∃ o, g.get? b = some o) → (∀ b ∈ fp, ¬ X b ∧ ∃ o, h'.get? b = some o) →
      (∀ i v d, P i v → ds[i]? = some d → Rep prog w X s.heap d v) → Q (.ref I) { s with heap := h', toks := tk }) → wpAny (model prog w) A (pyIter v) Q E s
theorem next_none (h : Heap) : h.get? h.objs.size = none := by
  cases q : h.get? h.objs.size with
  | none => rfl
  | some o => exact absurd (Heap.lt_size q) (Nat.lt_irrefl _)
theorem Itb.grow {v : Value} {ds : List D} {h h' : Heap} (i : Itb prog w A X h v ds) (g : Grow h h') : Itb prog w A X h' v ds := fun s E Q hg hl k => i s E Q (g.trans hg) hl k
theorem itb_lst {ds : List D} {v : Value} (hh : A.handled = none) (r : Rep prog w X h (.lst ds) v) : Itb prog w A X h v ds := fun s E Q hg hl k => by
  apply r.kLst; intro a vs hx ha hr
  have hL := plain_isList (plain_tr ha fun o e => hg _ _ e)
  refine wpAny_pyIter_list hL ?_
  have hlen : vs.toArray.size = ds.length := by rw [List.size_toArray, hr.length]
  have hlt : a < s.heap.objs.size := by obtain ⟨o, e, _⟩ := hL; exact Heap.lt_size e
  have W := Walks.list (prog := prog) (w := w) hh s.heap.objs.size a (Nat.ne_of_lt hlt) vs.toArray
  rw [hlen] at W
  refine k _ _ _ _ _ _ _ W ⟨⟨_, Heap.get?_push_size _ rfl, rfl, rfl⟩, hL.at fun o e => Heap.get?_push_of_some _ e⟩ (Grow.push _) (fun b hb => ?_) (fun i g hg b hb => ?_) (fun b hb => ?_) (fun i v d hp hd => ?_)
  · rw [List.mem_singleton.mp hb]; exact next_none _
  · rw [List.mem_singleton.mp hb]; obtain ⟨o, e, _⟩ := hg.1; exact ⟨o, e⟩
  · rcases List.mem_cons.mp hb with rfl | hb
    · exact ⟨hl.fresh, _, Heap.get?_push_size _ rfl⟩
    · rw [List.mem_singleton.mp hb]; obtain ⟨o, e, _⟩ := hL; exact ⟨hx, o, Heap.get?_push_of_some _ e⟩
  · obtain ⟨v', e, r⟩ := hr.get hd
    have e' : vs[i]? = some v := by simpa using hp
    rw [e] at e'; cases e'
    exact r.grow hg
theorem itb_tup {ds : List D} {v : Value} (hh : A.handled = none) (r : Rep prog w X h (.tup ds) v) : Itb prog w A X h v ds := fun s E Q hg hl k => by
  apply r.kTup; intro a vs hx ha hr
  have hL := isTuple_tr ha fun o e => hg _ _ e
  refine wpAny_pyIter_tuple hL ?_
  have hlen : vs.toArray.size = ds.length := by rw [List.size_toArray, hr.length]
  have hlt : a < s.heap.objs.size := by obtain ⟨o, e, _⟩ := hL; exact Heap.lt_size e
  have W := Walks.tuple (prog := prog) (w := w) hh s.heap.objs.size a (Nat.ne_of_lt hlt) vs.toArray
  rw [hlen] at W
  refine k _ _ _ _ _ _ _ W ⟨⟨_, Heap.get?_push_size _ rfl, rfl, rfl⟩, isTuple_tr hL fun o e => Heap.get?_push_of_some _ e⟩ (Grow.push _) (fun b hb => ?_) (fun i g hg b hb => ?_) (fun b hb => ?_) (fun i v d hp hd => ?_)
  · rw [List.mem_singleton.mp hb]; exact next_none _
  · rw [List.mem_singleton.mp hb]; obtain ⟨o, e, _⟩ := hg.1; exact ⟨o, e⟩
  · rcases List.mem_cons.mp hb with rfl | hb
    · exact ⟨hl.fresh, _, Heap.get?_push_size _ rfl⟩
    · rw [List.mem_singleton.mp hb]; obtain ⟨o, e, _⟩ := hL; exact ⟨hx, o, Heap.get?_push_of_some _ e⟩
  · obtain ⟨v', e, r⟩ := hr.get hd
    have e' : vs[i]? = some v := by simpa using hp
    rw [e] at e'; cases e'
    exact r.grow hg
noncomputable def upTo (a : Int) (n : Nat) : List D := (List.range n).map fun i => .int (a + (i : Nat))
theorem upTo_length (a : Int) (n : Nat) : (upTo a n).length = n := by simp [upTo]
theorem upTo_get {a : Int} {n i : Nat} {d : D} (h : (upTo a n)[i]? = some d) : i < n ∧ d = .int (a + (i : Nat)) := by
  unfold upTo at h
  rw [List.getElem?_map] at h
  by_cases q : i < n
  · rw [List.getElem?_range q] at h
    exact ⟨q, (Option.some.inj h).symm⟩
  · rw [List.getElem?_eq_none (by simp; lia)] at h; cases h
theorem itb_rng {a b : Int} {v : Value} {n : Nat} (hh : A.handled = none) (r : Rep prog w X h (.rng a b) v) (hn : (n : Int) = if a < b then b - a else 0) (hs : Builtin.Range.small a b 1 = true) : Itb prog w A X h v (upTo a n) := fun s E Q hg hl k => by
  apply r.kRng; intro rr t u v hx ha
  have hL : IsRange s.heap rr a b 1 t u v := hg _ _ ha
  refine wpAny_pyIter_range hL hs ?_
  have W := Walks.range (prog := prog) (w := w) hh s.heap.objs.size a 1 n
  have hsz : Builtin.Range.rangeSize a b 1 = (n : Int) := by rw [rangeSize_one, hn]
  rw [hsz]
  rw [← upTo_length a n] at W
  refine k _ _ _ _ _ _ _ W ?_ (Grow.push _) (fun b hb => ?_) (fun i g hg b hb => ?_) (fun b hb => ?_) (fun i v d hp hd => ?_)
  · rw [upTo_length]
    have : IsRangeIter (s.heap.push { cls := .type "range_iterator", data := .fields #[rawInt a, rawInt (n : Int), rawInt 1] }) s.heap.objs.size a n 1 := Heap.get?_push_size _ rfl
    simpa using this
  · rw [List.mem_singleton.mp hb]; exact next_none _
  · rw [List.mem_singleton.mp hb]; exact ⟨_, hg⟩
  · rw [List.mem_singleton.mp hb]; exact ⟨hl.fresh, _, Heap.get?_push_size _ rfl⟩
  · obtain ⟨t, rfl⟩ := hp
    obtain ⟨_, rfl⟩ := upTo_get hd
    rw [show a + (i : Int) * 1 = a + (i : Int) by lia]
    exact .int _ _
end
end
end Mine

namespace Mine
section
open PySem PySem.W PySem.Calls PyProof.Rows
set_option maxRecDepth 100000
set_option linter.unusedVariables false
variable {prog : Program} {w : World}
section
variable {h₀ : Heap} {A : Around} {X X' Mu : Addr → Prop} {env : Env} {s₀ s : Shared} {l : List (Str × D)} {ml : List (Addr × D)} {E : Value → Shared → Prop} {rest : List Stmt} {pos : Pos} {Q : Flow → Shared → Prop}

theorem St.under {h' : Heap} {tk : Nat} (S : St prog w h₀ X Mu env s₀ s l ml) (T : Tr X X' s.heap h') (kp : ∀ b o, Mu b → s.heap.get? b = some o → h'.get? b = some o) (kc : ∀ x c o, env.cells.lookup x = some c → s.heap.get? c = some o → h'.get? c = some o)
    (k0 : ∀ b o, ¬ Mu b → s₀.heap.get? b = some o → h'.get? b = some o) (mx : ∀ b, Mu b → X' b) (lv : Liv X' h') (hb : Grow h₀ h') (ht : 0 < tk := by assumption) : St prog w h₀ X' Mu env s₀ { s with heap := h', toks := tk } l ml := by
  obtain ⟨h, t, rfl⟩ := S.same
  obtain ⟨m, hn⟩ := S.ns
  refine ⟨⟨h', tk, rfl⟩, k0, lv, ⟨m, hn.at' fun o e => kp _ o S.loc e⟩, mx, S.loc, fun x c hx => ⟨?_, (S.cells x c hx).2⟩, S.apart, fun x d hx => ?_, fun q hq => ?_, S.mdis, hb, ht, S.off⟩
  · obtain ⟨v, hv⟩ := (S.cells x c hx).1
    exact ⟨v, isCell_tr hv fun o e => kc x c o hx e⟩
  · rcases S.vars x d hx with ⟨k, m1, v, hn1, hm, r⟩ | ⟨k, c, v, hc, hv, r⟩
    · exact .inl ⟨k, m1, v, hn1.at' fun o e => kp _ o S.loc e, hm, r.tr T⟩
    · exact .inr ⟨k, c, v, hc, isCell_tr hv fun o e => kc x c o hc e, r.tr T⟩
  · obtain ⟨a1, a2, a3⟩ := S.muts q hq
    exact ⟨a1, a2, a3.tr T fun o e => kp _ o a1 e⟩
theorem St.leaveX (S : St prog w h₀ X' Mu env s₀ s l ml) (hX : ∀ b, X b → X' b) (mx : ∀ b, Mu b → X b) : St prog w h₀ X Mu env s₀ s l ml := by
  have := S.under (X' := X) (h' := s.heap) (tk := s.toks) (fun b o n e => ⟨fun x => n (hX b x), e⟩) (fun _ _ _ e => e) (fun _ _ _ _ e => e) S.keep mx (S.liv.tr (fun o e => ⟨o, e⟩) (fun b hb => .inl (hX b hb)) fun b _ _ o e => ⟨o, e⟩) S.base S.tok
  exact this
theorem St.enterX {wr : List Addr} {h' : Heap} {tk : Nat} (S : St prog w h₀ X Mu env s₀ s l ml) (g : Grow s.heap h') (hw : ∀ b ∈ wr, s.heap.get? b = none) (hv : ∀ b ∈ wr, ∃ o, h'.get? b = some o) (ht : 0 < tk := by assumption) :
    St prog w h₀ (fun b => X b ∨ b ∈ wr) Mu env s₀ { s with heap := h', toks := tk } l ml := by
  refine S.under (fun b o n e => ⟨fun q => ?_, g b o e⟩) (fun b o _ e => g b o e) (fun _ c o _ e => g c o e) (fun b o n e => g b o (S.keep b o n e)) (fun b hb => .inl (S.mx b hb)) (S.liv.tr (fun o e => ⟨o, g _ o e⟩) (fun b hb => hb.elim .inl fun q => .inr (hv b q)) fun b _ _ o e => ⟨o, g b o e⟩) (S.base.trans g)
  · rcases q with q | q
    · exact n q
    · rw [hw b q] at e; cases e
theorem St.walked {wr : List Addr} {h' : Heap} {tk : Nat} (S : St prog w h₀ X Mu env s₀ s l ml) (k : ∀ b o, b ∉ wr → s.heap.get? b = some o → h'.get? b = some o) (hwX : ∀ b ∈ wr, X b ∧ ¬ Mu b ∧ s₀.heap.get? b = none)
    (hwc : ∀ x c, env.cells.lookup x = some c → c ∉ wr) (hv : ∀ b ∈ wr, ∃ o, h'.get? b = some o) (hwb : ∀ b ∈ wr, h₀.get? b = none) (ht : 0 < tk := by assumption) : St prog w h₀ X Mu env s₀ { s with heap := h', toks := tk } l ml := by
  refine S.under (fun b o n e => ⟨n, k b o (fun q => n (hwX b q).1) e⟩) (fun b o m e => k b o (fun q => (hwX b q).2.1 m) e) (fun x c o hx e => k c o (hwc x c hx) e) (fun b o n e => k b o (fun q => ?_) (S.keep b o n e)) S.mx ?_ (fun b o e => k b o (fun q => ?_) (S.base b o e))
  · rw [(hwX b q).2.2] at e; cases e
  · have key : ∀ b o, s.heap.get? b = some o → ∃ o', h'.get? b = some o' := fun b o e => by
      by_cases q : b ∈ wr
      · exact hv b q
      · exact ⟨o, k b o q e⟩
    exact S.liv.tr (fun o e => key _ o e) (fun b hb => .inl hb) fun b _ _ o e => key b o e
  · rw [hwb b q] at e; cases e

theorem x_for {x : Str} {px : Pos} {iter : Expr} {body : List Stmt} {ds : List D} (S : St prog w h₀ X Mu env s₀ s l ml) (hk : env.scope.kind = .function) (hx : env.kindOf x = some .local ∨ (env.kindOf x = some .cell ∧ ∃ c, env.cells.lookup x = some c ∧ Mu c))
    (hit : Go prog w A X s.heap (eval iter env) fun h' v => Itb prog w A X h' v ds)
    (J : Nat → List (Str × D) → List (Addr × D) → Prop) (h0 : J 0 l ml)
    (turn : ∀ (X' : Addr → Prop) (i : Nat) (d : D) (l₁ : List (Str × D)) (ml₁ : List (Addr × D)) (s₁ : Shared) (E : Value → Shared → Prop), (∀ b, X b → X' b) → ds[i]? = some d → J i l₁ ml₁ → St prog w h₀ X' Mu env s₁ s₁ ((x, d) :: l₁) ml₁ →
      wpAny (model prog w) A (execs body env) (fun f s₂ => (f = .next ∨ f = .cont) ∧ ∃ l₂ ml₂, J (i + 1) l₂ ml₂ ∧ St prog w h₀ X' Mu env s₁ s₂ l₂ ml₂) E s₁)
    (done : ∀ s' l' ml', J ds.length l' ml' → St prog w h₀ X Mu env s₀ s' l' ml' → wpAny (model prog w) A (execs rest env) Q E s')
    (hs : ∀ x, foldedSetIterable iter env x = pure x := by intro _; rfl) :
    wpAny (model prog w) A (execs (.For (.Name x px) iter body [] pos :: rest) env) Q E s := by
  refine wpAny_execs_cons (wpAny_For (hit.use Grow.rfl S.liv (fun v h1 t1 g1 itb hpos1 => ?_) S.tok) hs)
  refine wpAny_with_toks (n := 1) hpos1 ?_
  refine itb _ _ _ Grow.rfl (S.liv.grow g1) fun I fp wr P Sx h2 t2 W hst g2 hwr hlv hfp hP hpos2 => ?_
  have hpos2 : 0 < t2 := hpos2
  have S1 := S.grown (tk := t1) g1
  have S2 : St prog w h₀ (fun b => X b ∨ b ∈ wr) Mu env s₀ { s with heap := h2, toks := t2 } l ml := S1.enterX (tk := t2) g2 hwr (hlv 0 h2 hst)
  have hwM : ∀ b ∈ wr, (X b ∨ b ∈ wr) ∧ ¬ Mu b ∧ s₀.heap.get? b = none := fun b hb => by
    have nM : ¬ Mu b := fun m => (hfp b (W.sub b hb)).1 (S.mx b m)
    refine ⟨.inr hb, nM, ?_⟩
    cases q : s₀.heap.get? b with
    | none => rfl
    | some o => have := S1.keep b o nM q; rw [hwr b hb] at this; cases this
  have hwb : ∀ b ∈ wr, h₀.get? b = none := fun b hb => by
    cases q : h₀.get? b with
    | none => rfl
    | some o => have := S1.base b o q; rw [hwr b hb] at this; cases this
  have hwc : ∀ x c, env.cells.lookup x = some c → c ∉ wr := fun x c hx hm => by
    obtain ⟨v, o, e, _⟩ := (S1.cells x c hx).1
    rw [hwr c hm] at e; cases e
  refine codeAny_forLoop (fun n s' => ∃ i l' ml', i + n = ds.length ∧ J i l' ml' ∧ St prog w h₀ (fun b => X b ∨ b ∈ wr) Mu env s₀ s' l' ml' ∧ Sx i s'.heap ∧ ∀ b o, ¬ X b → h1.get? b = some o → s'.heap.get? b = some o) ?_ ds.length ⟨0, l, ml, by lia, h0, S2, hst, fun b o _ e => g2 b o e⟩
  rintro n s' ⟨i, l', ml', hn, hJ, S', hst', K⟩
  have K' : ∀ {h' : Heap}, (∀ b o, b ∉ wr → s'.heap.get? b = some o → h'.get? b = some o) → ∀ b o, ¬ X b → h1.get? b = some o → h'.get? b = some o := fun kp b o n e => kp b o (fun q => by rw [show h1.get? b = none from hwr b q] at e; cases e) (K b o n e)
  by_cases hi : i < ds.length
  · refine wpAny_with_toks (n := 1) S'.tok ?_
    refine W.item i s' _ _ hi hst' fun v h' tk hPv hst2 kp hpos3 => ?_
    have hpos3 : 0 < tk := hpos3
    obtain ⟨d, hd⟩ : ∃ d, ds[i]? = some d := ⟨ds[i], by simp [hi]⟩
    have S3 : St prog w h₀ (fun b => X b ∨ b ∈ wr) Mu env s₀ { s' with heap := h', toks := tk } l' ml' := S'.walked (tk := tk) kp hwM hwc (hlv _ _ hst2) hwb
    have T0 : Tr X (fun b => X b ∨ b ∈ wr) h1 h' := by
      intro b o n e
      refine ⟨fun q => ?_, K' kp b o n e⟩
      rcases q with q | q
      · exact n q
      · rw [show h1.get? b = none from hwr b q] at e; cases e
    have R0 : Rep prog w (fun b => X b ∨ b ∈ wr) h' d v := (hP i v d hPv hd).tr T0
    refine wpAny_assign_Name (st_name S3.refl hk hx R0 fun s₁ S4 => ?_)
    refine wpAny_mono (turn _ i d l' ml' s₁ _ (fun b hb => .inl hb) hd hJ S4.refl) (fun f s₂ hf => ?_) fun _ _ e => e
    obtain ⟨hf, l₂, ml₂, hJ2, S5⟩ := hf
    have fin : ∃ m, m < n ∧ ∃ i l' ml', i + m = ds.length ∧ J i l' ml' ∧ St prog w h₀ (fun b => X b ∨ b ∈ wr) Mu env s₀ s₂ l' ml' ∧ Sx i s₂.heap ∧ ∀ b o, ¬ X b → h1.get? b = some o → s₂.heap.get? b = some o := by
      refine ⟨n - 1, by lia, i + 1, l₂, ml₂, by lia, hJ2, (S3.trans S4).trans S5, ?_, fun b o nx e => S5.keep b o (fun m => nx (S.mx b m)) (S4.keep b o (fun m => nx (S.mx b m)) (K' kp b o nx e))⟩
      exact W.frame _ _ _ hst2 fun b hb o e => S5.keep b o (fun m => (hfp b hb).1 (S.mx b m)) (S4.keep b o (fun m => (hfp b hb).1 (S.mx b m)) e)
    rcases hf with rfl | rfl
    · exact fin
    · exact fin
  · have hn0 : i = ds.length := by lia
    subst hn0
    refine wpAny_with_toks (n := 1) S'.tok ?_
    refine W.done s' _ _ hst' fun h' tk kp hpos3 => ?_
    have hpos3 : 0 < tk := hpos3
    refine wpAny_execs_nil ?_
    refine done _ l' ml' hJ ?_
    have : St prog w h₀ X Mu env s₀ { s' with heap := h', toks := tk } l' ml' := by
      refine S'.under (fun b o n e => ⟨fun q => n (.inl q), kp b o (fun q => n (.inr q)) e⟩) (fun b o m e => kp b o (fun q => (hwM b q).2.1 m) e) (fun x c o hx e => kp c o (hwc x c hx) e) (fun b o n e => kp b o (fun q => ?_) (S'.keep b o n e)) S.mx ?_ (fun b o e => kp b o (fun q => by rw [hwb b q] at e; cases e) (S'.base b o e))
      · rw [(hwM b q).2.2] at e; cases e
      · refine S'.liv.tr (fun o e => ⟨o, kp _ o (fun q => ?_) e⟩) (fun b hb => .inl (.inl hb)) fun b _ hb o e => ⟨o, kp b o (fun q => (hfp b (W.sub b q)).1 hb) e⟩
        obtain ⟨o', e'⟩ := S1.liv.1
        rw [hwr _ q] at e'; cases e'
    exact this
end
end
end Mine

namespace Mine
section
open PySem PySem.W PySem.Calls PyProof.Rows
set_option maxRecDepth 100000
set_option linter.unusedVariables false
variable {prog : Program} {w : World}
section
variable {h₀ : Heap} {A : Around} {X X' Mu : Addr → Prop} {env : Env} {s₀ s : Shared} {l : List (Str × D)} {ml : List (Addr × D)} {E : Value → Shared → Prop} {rest : List Stmt} {pos : Pos} {Q : Flow → Shared → Prop}

theorem x_while {test : Expr} {body : List Stmt} (S : St prog w h₀ X Mu env s₀ s l ml) (J : Nat → List (Str × D) → List (Addr × D) → Prop) (R : List (Str × D) → List (Addr × D) → Prop) (n₀ : Nat) (h0 : J n₀ l ml)
    (turn : ∀ (n : Nat) (l₁ : List (Str × D)) (ml₁ : List (Addr × D)) (s₁ : Shared) (E : Value → Shared → Prop), J n l₁ ml₁ → St prog w h₀ X Mu env s₁ s₁ l₁ ml₁ →
      ∃ b, Tst prog w A X env s₁.heap test b ∧ (b = true → ∀ s₂, St prog w h₀ X Mu env s₁ s₂ l₁ ml₁ →
        wpAny (model prog w) A (execs body env) (fun f s₃ => (f = .next ∨ f = .cont) ∧ ∃ m l₂ ml₂, m < n ∧ J m l₂ ml₂ ∧ St prog w h₀ X Mu env s₁ s₃ l₂ ml₂) E s₂) ∧ (b = false → R l₁ ml₁))
    (done : ∀ s' l' ml', R l' ml' → St prog w h₀ X Mu env s₀ s' l' ml' → wpAny (model prog w) A (execs rest env) Q E s') :
    wpAny (model prog w) A (execs (.While test body [] pos :: rest) env) Q E s := by
  refine wpAny_execs_cons (wpAny_While (codeAny_whileLoop (fun n s' => ∃ l' ml', J n l' ml' ∧ St prog w h₀ X Mu env s₀ s' l' ml') ?_ n₀ ⟨l, ml, h0, S⟩))
  rintro n s' ⟨l', ml', hJ, S'⟩
  obtain ⟨b, ht, hb, hr⟩ := turn n l' ml' s' (notedBy (model prog w) A env fun e s'' => (fun (r : Result) (s' : Shared) => match r with | .ok f => (match f with | .next => wpAny (model prog w) A (execs rest env) Q E s' | f => Q f s') | .error e => cameBackBy (model prog w) A env E e s') (.error e) s'') hJ S'.refl
  refine ht.use Grow.rfl S'.liv (fun c h1 t1 g1 r1 _ => ?_) S'.tok
  subst r1
  cases c with
  | true =>
    refine wpAny_mono (hb rfl _ (S'.refl.grown (tk := t1) g1)) (fun f s₃ hf => ?_) fun _ _ e => e
    obtain ⟨hf, m, l₂, ml₂, hm, hJ2, S2⟩ := hf
    rcases hf with rfl | rfl
    · exact ⟨m, hm, l₂, ml₂, hJ2, S'.trans S2⟩
    · exact ⟨m, hm, l₂, ml₂, hJ2, S'.trans S2⟩
  | false => exact wpAny_execs_nil (done _ l' ml' (hr rfl) (S'.grown g1))

@[reducible] noncomputable def Mp (Mu : Addr → Prop) (p : Addr) : Addr → Prop := fun b => Mu b ∨ b = p

theorem St.addMut {h' : Heap} {tk : Nat} {p : Addr} {d : D} (S : St prog w h₀ X Mu env s₀ s l ml) (hp : s.heap.get? p = none) (g : Grow s.heap h') (hnX : ¬ X p) (hm : MutAt prog w (Xp X p) h' p d) (ht : 0 < tk := by assumption) :
    St prog w h₀ (Xp X p) (Mp Mu p) env s₀ { s with heap := h', toks := tk } l ((p, d) :: ml) ∧ (Mu p ∨ s₀.heap.get? p = none) := by
  have tr : Tr X (Xp X p) s.heap h' := fun b o n e => ⟨fun q => by
    rcases q with q | q
    · exact n q
    · rw [q, hp] at e; exact absurd e (by simp), g b o e⟩
  have hL : p ≠ env.locals := fun q => by
    obtain ⟨m, hn⟩ := S.ns
    obtain ⟨o, e⟩ := ns_there hn
    rw [← q, hp] at e; cases e
  have n0 : Mu p ∨ s₀.heap.get? p = none := by
    by_cases q : Mu p
    · exact .inl q
    · refine .inr ?_
      cases z : s₀.heap.get? p with
      | none => rfl
      | some o => have := S.keep p o q z; rw [hp] at this; cases this
  refine ⟨?_, n0⟩
  have U := S.under (X' := Xp X p) (h' := h') (tk := tk) tr (fun b o _ e => g b o e) (fun x c o _ e => g c o e) (fun b o n e => g b o (S.keep b o n e)) (fun b hb => .inl (S.mx b hb))
    (S.liv.tr (fun o e => ⟨o, g _ o e⟩) (fun b hb => hb.elim .inl fun q => .inr (q ▸ hm.there)) fun b _ _ o e => ⟨o, g b o e⟩) (S.base.trans g)
  refine ⟨U.same, fun b o n e => U.keep b o (fun m => n (.inl m)) e, U.liv, U.ns, fun b hb => hb.elim (fun q => .inl (S.mx b q)) .inr, .inl S.loc, fun x c hx => ⟨(U.cells x c hx).1, trivial⟩, S.apart, U.vars, fun q hq => ?_, ?_, U.base, ht, fun b hb => ?_⟩
  · rcases List.mem_cons.mp hq with rfl | hq
    · exact ⟨.inr rfl, hL, hm⟩
    · exact ⟨.inl (U.muts q hq).1, (U.muts q hq).2⟩
  · refine List.pairwise_cons.mpr ⟨fun q hq => ?_, S.mdis⟩
    intro e
    obtain ⟨o, e'⟩ := (S.muts q hq).2.2.there
    rw [← show p = q.1 from e, hp] at e'; cases e'
  · rcases hb with hb | hb
    · exact S.off b hb
    · rw [show b = p from hb]
      cases q : h₀.get? p with
      | none => rfl
      | some o => have := S.base p o q; rw [hp] at this; cases this

theorem x_newlist {x : Str} {px p2 : Pos} (S : St prog w h₀ X Mu env s₀ s l ml) (hk : env.scope.kind = .function) (hx : env.kindOf x = some .local ∨ (env.kindOf x = some .cell ∧ ∃ c, env.cells.lookup x = some c ∧ Mu c))
    (k : ∀ s' p, ¬ X p → (Mu p ∨ s₀.heap.get? p = none) → St prog w h₀ (Xp X p) (Mp Mu p) env s₀ s' ((x, .val (.ref p)) :: l) ((p, .lst []) :: ml) → wpAny (model prog w) A (execs rest env) Q E s')
    (hs : swapsWith (.List [] p2) (some (.Name x px)) pos.line env = pure false := by rfl) : wpAny (model prog w) A (execs (.Assign [.Name x px] (.List [] p2) pos :: rest) env) Q E s := by
  refine wpAny_execs_cons (wpAny_Assign_Name (List_ (args_nil (wpAny_newObj_type ?_ (by show ([] : List Value).toArray.size ≤ sizeLine; exact Nat.zero_le _)))) hs)
  obtain ⟨S', hn⟩ := S.addMut (tk := s.toks) (p := s.heap.objs.size) (d := .lst []) (next_none _) (Grow.push { cls := .type "list", data := .seq ([] : List Value).toArray }) S.liv.fresh ⟨[], ⟨_, Heap.get?_push_size _ rfl⟩, .nil⟩ S.tok
  exact st_name S' hk (hx.imp id fun ⟨a, c, b, m⟩ => ⟨a, c, b, .inl m⟩) (.val _) fun s' S'' => k s' _ S.liv.fresh hn S''

theorem MutAt.rep {h : Heap} {p : Addr} {d : D} (m : MutAt prog w X' h p d) (hX : ∀ b, X b → X' b) (hp : ¬ X p) : Rep prog w X h d (.ref p) := by
  have T : Tr X' X h h := fun b o n e => ⟨fun q => n (hX b q), e⟩
  cases d with
  | lst ds => obtain ⟨vs, a, r⟩ := m; exact .lst hp a (r.tr T)
  | dct ds => obtain ⟨vs, a, r⟩ := m; exact .dct hp a (r.tr T)
  | tab cs => exact .tab _ _
  | _ => exact m.elim

theorem x_append {x : Str} {px apos p2 : Pos} {e : Expr} {p : Addr} {ds : List D} {d : D} (S : St prog w h₀ X Mu env s₀ s l ((p, .lst ds) :: ml)) (hv : l.lookup x = some (.val (.ref p))) (he : Ev prog w A X env s.heap e d) (hsz : ds.length ≤ sizeLine) (hk : env.scope.kind = .function)
    (k : ∀ s', St prog w h₀ X Mu env s₀ s' l ((p, .lst (ds ++ [d])) :: ml) → wpAny (model prog w) A (execs rest env) Q E s') (hd : (x == ("__debug__" : Str)) = false) (hcd : (x == ("__classdict__" : Str)) = false) (hline : (apos.endLine == p2.line) = true)
    (hbase : attributeBase (.Name x px) "append" env (eval (.Name x px) env) = eval (.Name x px) env := by rfl)
    (hfew : ((backTo p2 (starEach [e] env)).all (fun x => !x.1) && (backToKw p2 (keywordEach [] env)).all (fun x => x.1.isSome)
      && decide (([e] : List Expr).length + ([] : List Keyword).length + (if ([] : List Keyword).isEmpty then 0 else 1) < 30)) = true := by rfl)
    (htrees : backTo p2 (starEach [e] env) = [(false, eval e env)] := by rfl) (hi : interactive env = false := by rfl) :
    wpAny (model prog w) A (execs (.Expr (.Call (.Attribute (.Name x px) "append" apos) [e] [] p2) pos :: rest) env) Q E s := by
  refine wpAny_execs_cons (wpAny_Expr_any (wpAny_Call_append hbase hfew hline htrees ?_) hi rfl)
  refine (ev_var (A := A) hk (S.vars x _ hv) hd hcd).use Grow.rfl S.liv (fun v h1 t1 g1 r1 _ => ?_) S.tok
  (first | apply r1.kVal | apply r1.kInt; intro _ | apply r1.kFlt; intro _ _ | apply r1.kBool | apply r1.kNone | apply r1.kNil | cases r1)
  have S1 := S.grown (tk := t1) g1
  obtain ⟨vs, ⟨n, hp⟩, hr⟩ := (S1.muts _ (.head _)).2.2
  refine ⟨p, _, rfl, ⟨_, n, hp, rfl, rfl, rfl⟩, ?_⟩
  refine (he.grow g1).use Grow.rfl S1.liv fun y h2 t2 g2 r2 _ => ?_
  have S2 := S1.grown (tk := t2) g2
  refine wpAny_list_append_plain ⟨n, g2 _ _ hp⟩ (fun h3 hp3 hs3 => ?_) (by rw [List.size_toArray, hr.length]; exact hsz)
  refine k _ (S2.change hs3 ⟨vs ++ [y], ?_, ?_⟩)
  · rw [List.push_toArray] at hp3; exact hp3
  · have T : Tr X X h2 h3 := tr_sameBut (S.mx _ (S.muts _ (.head _)).1) hs3
    exact ((hr.grow g2).tr T).append (.cons (r2.tr T) .nil)

theorem st_names {A : Around} {Q : Unit → Shared → Prop} (hk : env.scope.kind = .function) : ∀ {es : List Expr} {xs : List Str} {ds : List D} {vs : List Value} {l : List (Str × D)} {s : Shared},
    St prog w h₀ X Mu env s₀ s l ml → es.map (fun e => match e with | .Name x _ => some x | _ => none) = xs.map some → (∀ x ∈ xs, env.kindOf x = some .local ∨ (env.kindOf x = some .cell ∧ ∃ c, env.cells.lookup x = some c ∧ Mu c)) → Reps prog w X s.heap ds vs → ds.length = xs.length →
    (∀ s', St prog w h₀ X Mu env s₀ s' ((xs.zip ds).reverse ++ l) ml → Q () s') → wpAny (model prog w) A (assignInOrder ((assignEach es env).map (·.2)) vs) Q E s
  | [], [], [], vs, l, s, S, _, _, r, _, k => by
    (first | apply r.kVal | apply r.kInt; intro _ | apply r.kFlt; intro _ _ | apply r.kBool | apply r.kNone | apply r.kNil | cases r)
    exact wpAny_pure (k s S)
  | [], x :: xs, ds, vs, l, s, S, he, _, _, _, _ => by cases he
  | e :: es, [], ds, vs, l, s, S, he, _, _, _, _ => by cases he
  | e :: es, x :: xs, [], vs, l, s, S, _, _, _, hl, _ => by cases hl
  | e :: es, x :: xs, d :: ds, vs, l, s, S, he, hx, r, hl, k => by
    apply r.kCons; intro _ _ r rs
    rename_i v vs
    rw [List.map_cons, List.map_cons, List.cons.injEq] at he
    cases e with
    | Name y py =>
      cases he.1
      show wpAny (model prog w) A (assignInOrder (assign (.Name _ py) env :: (assignEach es env).map (·.2)) (v :: vs)) Q E s
      refine wpAny_assignInOrder_more (wpAny_assign_Name (st_name S.refl hk (hx _ (.head _)) r fun s' S' => ?_))
      have rs' : Reps prog w X s'.heap ds vs := rs.tr fun b o n e => ⟨n, S'.keep b o (fun m => n (S.mx b m)) e⟩
      refine st_names hk (S.trans S') he.2 (fun z hz => hx z (.tail _ hz)) rs' (by simpa using hl) fun s'' S'' => k s'' ?_
      rw [List.zip_cons_cons, List.reverse_cons, List.append_assoc]; exact S''
    | _ => cases he.1
  | [], [], d :: ds, vs, l, s, S, _, _, r, hl, k => by cases hl

theorem assignEach_length (hn : ∀ {es : List Expr} {xs : List Str}, es.map (fun e => match e with | .Name x _ => some x | _ => none) = xs.map some → True := fun _ => trivial) : ∀ {es : List Expr} {xs : List Str}, es.map (fun e => match e with | .Name x _ => some x | _ => none) = xs.map some → (assignEach es env).length = xs.length ∧ (assignEach es env).findIdx? (·.1) = none
  | [], [], _ => ⟨rfl, rfl⟩
  | [], _ :: _, h => by cases h
  | _ :: _, [], h => by cases h
  | e :: es, x :: xs, h => by
    rw [List.map_cons, List.map_cons, List.cons.injEq] at h
    cases e with
    | Name y py =>
      obtain ⟨h1, h2⟩ := assignEach_length (fun _ => trivial) h.2
      show ((false, assign (.Name y py) env) :: assignEach es env).length = _ ∧ ((false, assign (.Name y py) env) :: assignEach es env).findIdx? (·.1) = none
      refine ⟨by simp [h1], ?_⟩
      rw [List.findIdx?_cons]
      simp [h2]
    | _ => cases h.1

theorem x_unpack {es : List Expr} {k : Nat} {tpos : Pos} {value : Expr} {ds : List D} (xs : List Str) (S : St prog w h₀ X Mu env s₀ s l ml) (hh : A.handled = none) (hk : env.scope.kind = .function) (he : Ev prog w A X env s.heap value (.tup ds))
    (hes : es.map (fun e => match e with | .Name x _ => some x | _ => none) = xs.map some) (hx : ∀ x ∈ xs, env.kindOf x = some .local ∨ (env.kindOf x = some .cell ∧ ∃ c, env.cells.lookup x = some c ∧ Mu c)) (hl : ds.length = xs.length)
    (kk : ∀ s', St prog w h₀ X Mu env s₀ s' ((xs.zip ds).reverse ++ l) ml → wpAny (model prog w) A (execs rest env) Q E s')
    (hs : swapsWithSole [.Tuple es k tpos] value pos.line env = pure false) (hw : swappedStores [.Tuple es k tpos] value env = pure none) :
    wpAny (model prog w) A (execs (.Assign [.Tuple es k tpos] value pos :: rest) env) Q E s := by
  refine wpAny_execs_cons (Assign_Tuple (he.use Grow.rfl S.liv (fun v h1 t1 g1 r1 _ => ?_) S.tok) hs hw)
  apply r1.kTup; intro a vs hX ha hr
  have S1 := S.grown (tk := t1) g1
  obtain ⟨q1, q2⟩ := assignEach_length (env := env) (fun _ => trivial) hes
  refine wpAny_assign_Tuple hh ha (by rw [q1, List.size_toArray, hr.length, hl]) q2 fun h2 hext => ?_
  have g2 : Grow h1 h2 := fun b o e => hext b o (fun z => by rw [z] at e; rw [next_none] at e; cases e) e
  have S2 := S1.grown (tk := t1) g2
  exact st_names hk S2 hes hx (hr.grow g2) hl kk

theorem x_aug {x : Str} {px : Pos} {value : Expr} {a b : Int} (S : St prog w h₀ X Mu env s₀ s l ml) (hk : env.scope.kind = .function) (hv : l.lookup x = some (.int a)) (he : Ev prog w A X env s.heap value (.int b)) (hx : env.kindOf x = some .local)
    (kk : ∀ s', St prog w h₀ X Mu env s₀ s' ((x, .int (a + b)) :: l) ml → wpAny (model prog w) A (execs rest env) Q E s') : wpAny (model prog w) A (execs (.AugAssign (.Name x px) .Add value pos :: rest) env) Q E s := by
  refine wpAny_execs_cons (wpAny_AugAssign_Name ?_)
  rcases S.vars x _ hv with ⟨kx, m, v, hn, hm, r⟩ | ⟨kx, _⟩
  · refine wpAny_loadName_local hk hx hn hm ?_
    refine he.use Grow.rfl S.liv (fun v2 h1 t1 g1 r1 _ => ?_) S.tok
    apply r.kInt; intro t
    apply r1.kInt; intro u
    refine PyProof.Rows.iadd_int ?_
    exact st_name (S.grown (tk := t1 + 1) g1 (Nat.succ_pos _)) hk (.inl hx) (.int _ _) kk
  · rw [hx] at kx; rcases kx with kx | kx <;> cases kx
end
end
end Mine

namespace Mine
section
open PySem PySem.W PySem.Calls PyProof.Rows
set_option maxRecDepth 100000
set_option linter.unusedVariables false
variable {prog : Program} {w : World}

structure FE (env : Env) : Prop where
  k : env.scope.kind = .function
  g : env.globals = mainGlobals
  b : env.builtins = builtinsNs

noncomputable def biTab : List (Str × Value) := [("abs", .builtin "abs"), ("min", .builtin "min"), ("max", .builtin "max"), ("len", .builtin "len"), ("range", .type "range"), ("int", .type "int"), ("sorted", .builtin "sorted"), ("isinstance", .builtin "isinstance"), ("tuple", .type "tuple")]
noncomputable def fnTab : List (Str × Nat) := [("rgb_to_hls", 5), ("hsv_to_rgb", 6), ("add_func_stats", 8), ("add_callers", 9), ("count_calls", 10), ("_law_parts", 12), ("_law_told", 13), ("_law_cross", 14), ("_law_same_side", 15), ("_law_grey_within", 16), ("_law_triples", 17), ("_law_entries", 18), ("_law_added", 19)]
noncomputable def bsTab : List (Str × Nat) := [("insort_right", 1), ("bisect_right", 2), ("bisect_left", 3)]

structure Glo (mg mb : Str → Option Value) (h₀ : Heap) : Prop where
  g : h₀.Ns mainGlobals mg
  b : h₀.Ns builtinsNs mb
  lim : h₀.NoLimit
  bk : NoneBooked h₀
  bi : ∀ x v, biTab.lookup x = some v → mg x = none ∧ mb x = some v
  fn : ∀ x i, fnTab.lookup x = some i → ∃ f name qual doc pm an cd ct, mg x = some (.ref f) ∧ FnAt h₀ f (fdOf i name qual .none .none doc pm an cd ct)
  bs : ∀ x i, bsTab.lookup x = some i → ∃ f name qual dV kV doc pm an cd ct t, mg x = some (.ref f) ∧ FnAt h₀ f (fdOf i name qual dV kV doc pm an cd ct) ∧
    (∀ (s : Shared) (a b : Value), Grow h₀ s.heap → BindsTo s (fdOf i name qual dV kV doc pm an cd ct) ⟨[a, b], []⟩ ([("a" : Str), "x", "lo", "hi", "key"].zip [a, b, .int 0 t, .none, .none])) ∧
    (∀ (s : Shared) (a b k : Value), Grow h₀ s.heap → BindsTo s (fdOf i name qual dV kV doc pm an cd ct) ⟨[a, b], [("key", k)]⟩ ([("a" : Str), "x", "lo", "hi", "key"].zip [a, b, .int 0 t, .none, k])) ∧
    (∀ (s : Shared) (a b c d k : Value), Grow h₀ s.heap → BindsTo s (fdOf i name qual dV kV doc pm an cd ct) ⟨[a, b, c, d], [("key", k)]⟩ ([("a" : Str), "x", "lo", "hi", "key"].zip [a, b, c, d, k]))

structure Rm (A : Around) (k : Nat) : Prop where
  hh : A.handled = none
  dp : A.depth + k < recursionLimit
  un : A.units + 4 * k + 200 < cLine
theorem Rm.deeper {A : Around} {k : Nat} (r : Rm A (k + 1)) (env : Env) : Rm (A.deeper env) k := ⟨r.hh, by have := r.dp; show A.depth + 1 + k < recursionLimit; lia, by have := r.un; show A.units + 3 + 4 * k + 200 < cLine; lia⟩
theorem Rm.le {A : Around} {k j : Nat} (r : Rm A k) (h : j ≤ k) : Rm A j := ⟨r.hh, by have := r.dp; lia, by have := r.un; lia⟩
theorem Rm.d {A : Around} {k : Nat} (r : Rm A k) : A.depth < recursionLimit := by have := r.dp; lia

section
variable {h₀ : Heap} {A : Around} {X Mu : Addr → Prop} {env : Env} {s₀ s : Shared} {l : List (Str × D)} {ml : List (Addr × D)} {mg mb : Str → Option Value} {h : Heap}

theorem ev_bi {x : Str} {v : Value} {p : Pos} (G : Glo mg mb h₀) (F : FE env) (g : Grow h₀ h) (hx : env.kindOf x = some .globalImplicit) (hb : biTab.lookup x = some v) (hd : (x == ("__debug__" : Str)) = false) : Ev prog w A X env h (.Name x p) (.val v) :=
  ev_builtin F.k hx (by rw [F.g]; exact G.g.keeps g) (G.bi x v hb).1 (by rw [F.b]; exact G.b.keeps g) (G.bi x v hb).2 hd

section
variable {e e1 e2 e3 : Expr} {p pos : Pos} {i j : Int}
theorem ev_abs (S : St prog w h₀ X Mu env s₀ s l ml) (G : Glo mg mb h₀) (F : FE env) (hx : env.kindOf "abs" = some .globalImplicit) (he : Ev prog w A X env s.heap e (.int i))
    (hst : starEach [e] env = (false, eval e env) :: starEach [] env) : Ev prog w A X env s.heap (.Call (.Name "abs" p) [e] [] pos) (.int (if i < 0 then -i else i)) :=
  ev_callB (ev_bi G F S.base hx (by rfl) (by rfl)) (evs_cons he evs_nil hst) (fun h' vs g r => op_abs r) rfl hst rfl
theorem ev_max2 (S : St prog w h₀ X Mu env s₀ s l ml) (G : Glo mg mb h₀) (F : FE env) (hh : A.handled = none) (hx : env.kindOf "max" = some .globalImplicit) (he : Ev prog w A X env s.heap e1 (.int i)) (he2 : Ev prog w A X env s.heap e2 (.int j))
    (hst : starEach [e1, e2] env = (false, eval e1 env) :: starEach [e2] env) (hst2 : starEach [e2] env = (false, eval e2 env) :: starEach [] env) : Ev prog w A X env s.heap (.Call (.Name "max" p) [e1, e2] [] pos) (.int (if j > i then j else i)) :=
  ev_callB (ev_bi G F S.base hx (by rfl) (by rfl)) (evs_cons he (evs_cons he2 evs_nil hst2) hst) (fun h' vs g r => op_max2 hh r) rfl hst (by rw [hst2]; rfl)
theorem ev_min2 (S : St prog w h₀ X Mu env s₀ s l ml) (G : Glo mg mb h₀) (F : FE env) (hh : A.handled = none) (hx : env.kindOf "min" = some .globalImplicit) (he : Ev prog w A X env s.heap e1 (.int i)) (he2 : Ev prog w A X env s.heap e2 (.int j))
    (hst : starEach [e1, e2] env = (false, eval e1 env) :: starEach [e2] env) (hst2 : starEach [e2] env = (false, eval e2 env) :: starEach [] env) : Ev prog w A X env s.heap (.Call (.Name "min" p) [e1, e2] [] pos) (.int (if j < i then j else i)) :=
  ev_callB (ev_bi G F S.base hx (by rfl) (by rfl)) (evs_cons he (evs_cons he2 evs_nil hst2) hst) (fun h' vs g r => op_min2 hh r) rfl hst (by rw [hst2]; rfl)
theorem ev_len {ds : List D} (S : St prog w h₀ X Mu env s₀ s l ml) (G : Glo mg mb h₀) (F : FE env) (hx : env.kindOf "len" = some .globalImplicit) (he : Ev prog w A X env s.heap e (.lst ds))
    (hst : starEach [e] env = (false, eval e env) :: starEach [] env) (hs : (ds.length : Int) < 2 ^ 63) : Ev prog w A X env s.heap (.Call (.Name "len" p) [e] [] pos) (.int ds.length) :=
  ev_callB (ev_bi G F S.base hx (by rfl) (by rfl)) (evs_cons he evs_nil hst) (fun h' vs g r => op_len_lst r hs) rfl hst rfl
theorem ev_lenD {ds : List (Int × D)} (S : St prog w h₀ X Mu env s₀ s l ml) (G : Glo mg mb h₀) (F : FE env) (hsm : X sysModules) (hx : env.kindOf "len" = some .globalImplicit) (he : Ev prog w A X env s.heap e (.dct ds))
    (hst : starEach [e] env = (false, eval e env) :: starEach [] env) (hs : (ds.length : Int) < 2 ^ 63) : Ev prog w A X env s.heap (.Call (.Name "len" p) [e] [] pos) (.int ds.length) :=
  ev_callB (ev_bi G F S.base hx (by rfl) (by rfl)) (evs_cons he evs_nil hst) (fun h' vs g r => op_len_dct hsm r hs) rfl hst rfl
theorem ev_range1 (S : St prog w h₀ X Mu env s₀ s l ml) (G : Glo mg mb h₀) (F : FE env) (hx : env.kindOf "range" = some .globalImplicit) (he : Ev prog w A X env s.heap e (.int i))
    (hst : starEach [e] env = (false, eval e env) :: starEach [] env) : Ev prog w A X env s.heap (.Call (.Name "range" p) [e] [] pos) (.rng 0 i) :=
  ev_callT (ev_bi G F S.base hx (by rfl) (by rfl)) (evs_cons he evs_nil hst) (fun h' vs g r => op_range1 r) rfl hst rfl
theorem ev_range2 (S : St prog w h₀ X Mu env s₀ s l ml) (G : Glo mg mb h₀) (F : FE env) (hx : env.kindOf "range" = some .globalImplicit) (he : Ev prog w A X env s.heap e1 (.int i)) (he2 : Ev prog w A X env s.heap e2 (.int j))
    (hst : starEach [e1, e2] env = (false, eval e1 env) :: starEach [e2] env) (hst2 : starEach [e2] env = (false, eval e2 env) :: starEach [] env) : Ev prog w A X env s.heap (.Call (.Name "range" p) [e1, e2] [] pos) (.rng i j) :=
  ev_callT (ev_bi G F S.base hx (by rfl) (by rfl)) (evs_cons he (evs_cons he2 evs_nil hst2) hst) (fun h' vs g r => op_range2 r) rfl hst (by rw [hst2]; rfl)
theorem ev_int {x : UInt64} {sg : Bool} {m : Nat} {ex : Int} (S : St prog w h₀ X Mu env s₀ s l ml) (G : Glo mg mb h₀) (F : FE env) (hx : env.kindOf "int" = some .globalImplicit) (he : Ev prog w A X env s.heap e (.flt x)) (hd : Float64.decode x = .fin sg m ex)
    (hst : starEach [e] env = (false, eval e env) :: starEach [] env) : Ev prog w A X env s.heap (.Call (.Name "int" p) [e] [] pos) (.int (Float64.truncOf sg m ex)) :=
  ev_callT (ev_bi G F S.base hx (by rfl) (by rfl)) (evs_cons he evs_nil hst) (fun h' vs g r => op_int_flt hd r) rfl hst rfl
theorem ev_fn {x : Str} {i : Nat} {ds : List D} {d : D} {args : List Expr} (G : Glo mg mb h₀) (F : FE env) (g : Grow h₀ h) (hx : env.kindOf x = some .globalImplicit) (hf : fnTab.lookup x = some i) (ha : Evs prog w A X env h pos (e :: args) ds)
    (hc : ∀ h' vs f name qual doc pm an cd ct, Grow h h' → FnAt h' f (fdOf i name qual .none .none doc pm an cd ct) → Reps prog w X h' ds vs → Op prog w A X h' (call (.ref f) vs) d) (hd : (x == ("__debug__" : Str)) = false)
    (hst : starEach (e :: args) env = (false, eval e env) :: starEach args env) : Ev prog w A X env h (.Call (.Name x p) (e :: args) [] pos) d := by
  obtain ⟨f, name, qual, doc, pm, an, cd, ct, hm, hF⟩ := G.fn x i hf
  exact ev_call (ev_glob F.k hx (by rw [F.g]; exact G.g.keeps g) hm hd) (hF.grow g) ha (fun h' vs g' r => hc h' vs f name qual doc pm an cd ct g' (hF.grow (g.trans g')) r) rfl hst
end
end
end
end Mine

namespace Mine
section
open PySem PySem.W PySem.Calls PyProof.Rows
set_option maxRecDepth 100000
set_option linter.unusedVariables false
variable {prog : Program} {w : World}
section
variable {h₀ : Heap} {A : Around} {X Mu : Addr → Prop} {env : Env} {s₀ s : Shared} {l : List (Str × D)} {ml : List (Addr × D)}
theorem lookup_drop {y x : Str} {e d : D} (hy : l.lookup y = none) (hx : l.lookup x = some d) : ((y, e) :: l).lookup x = some d := by
  rw [List.lookup_cons]
  split
  · rename_i q
    rw [beq_iff_eq.mp q] at hx
    rw [hy] at hx; cases hx
  · exact hx
theorem St.drop {y : Str} {e : D} (S : St prog w h₀ X Mu env s₀ s ((y, e) :: l) ml) (hy : l.lookup y = none) : St prog w h₀ X Mu env s₀ s l ml := S.sub fun x d hx => lookup_drop hy hx
theorem mp_off {p : Addr} (h : Mu p ∨ s₀.heap.get? p = none) : ∀ b, Mp Mu p b → Mu b ∨ s₀.heap.get? b = none := fun b hb => hb.elim .inl fun q => q ▸ h
theorem it_tup {e : Expr} {h : Heap} {ds : List D} (hh : A.handled = none) (he : Ev prog w A X env h e (.tup ds)) : Go prog w A X h (eval e env) fun h' v => Itb prog w A X h' v ds := he.mono fun h' v g r => itb_tup hh r
theorem it_lst {e : Expr} {h : Heap} {ds : List D} (hh : A.handled = none) (he : Ev prog w A X env h e (.lst ds)) : Go prog w A X h (eval e env) fun h' v => Itb prog w A X h' v ds := he.mono fun h' v g r => itb_lst hh r
theorem it_rng {e : Expr} {h : Heap} {a b : Int} {n : Nat} (hh : A.handled = none) (he : Ev prog w A X env h e (.rng a b)) (hn : (n : Int) = if a < b then b - a else 0) (hs : Builtin.Range.small a b 1 = true) : Go prog w A X h (eval e env) fun h' v => Itb prog w A X h' v (upTo a n) := he.mono fun h' v g r => itb_rng hh r hn hs
end
theorem x_ifJ {h₀ : Heap} {A : Around} {X Mu : Addr → Prop} {env : Env} {s₀ s : Shared} {l : List (Str × D)} {ml : List (Addr × D)} {E : Value → Shared → Prop} {rest : List Stmt} {pos : Pos} {Q : Flow → Shared → Prop} {t : Expr} {body orelse : List Stmt} {b : Bool}
    (l' : List (Str × D)) (S : St prog w h₀ X Mu env s₀ s l ml) (ht : Tst prog w A X env s.heap t b)
    (hb : ∀ s' (Q' : Flow → Shared → Prop), St prog w h₀ X Mu env s₀ s' l ml → (∀ s'', St prog w h₀ X Mu env s₀ s'' l' ml → Q' .next s'') → wpAny (model prog w) A (execs (if b then body else orelse) env) Q' E s')
    (k : ∀ s'', St prog w h₀ X Mu env s₀ s'' l' ml → wpAny (model prog w) A (execs rest env) Q E s'') : wpAny (model prog w) A (execs (.If t body orelse pos :: rest) env) Q E s :=
  x_if S ht fun s' S' => hb s' _ S' k
theorem ev_ifeI {A : Around} {X : Addr → Prop} {env : Env} {h : Heap} {t x y : Expr} {pos : Pos} {b : Bool} {i j : Int} (ht : Tst prog w A X env h t b) (hx : Ev prog w A X env h x (.int i)) (hy : Ev prog w A X env h y (.int j)) : Ev prog w A X env h (.IfExp t x y pos) (.int (if b then i else j)) := by
  refine ev_ife ht (fun hb => ?_) (fun hb => ?_)
  · subst hb; exact hx
  · subst hb; exact hy
noncomputable def wayOf (turn corner : Int) : Int := if 3 * turn - corner < 0 then -(3 * turn - corner) else 3 * turn - corner
noncomputable def clampA (w : Int) : Int := if 192 - w < w then 192 - w else w
noncomputable def clampB (w : Int) : Int := if 0 > w then 0 else w
noncomputable def clampC (w : Int) : Int := if 32 < w then 32 else w
noncomputable def fallOf (turn corner : Int) : Int := clampC (clampB (clampA (wayOf turn corner) - 32))
noncomputable def partOf (turn part level corner : Int) : Int := level * (64 - part * fallOf turn corner)
noncomputable def partsOf (turn part level : Int) : List Int := [partOf turn part level 0, partOf turn part level 64, partOf turn part level 128]
end
end Mine

namespace Mine
section
open PySem PySem.W PySem.Calls PyProof.Rows
set_option maxRecDepth 100000
set_option linter.unusedVariables false
set_option linter.unusedSimpArgs false
variable {prog : Program} {w : World}
noncomputable def fgt (a b : UInt64) : Bool := Float64.cmp a b == some Ordering.gt
noncomputable def flt' (a b : UInt64) : Bool := Float64.cmp a b == some Ordering.lt
noncomputable def max3 (a b c : UInt64) : UInt64 := if fgt c (if fgt b a then b else a) then c else (if fgt b a then b else a)
noncomputable def min3 (a b c : UInt64) : UInt64 := if flt' c (if flt' b a then b else a) then c else (if flt' b a then b else a)
section
variable {A : Around} {X : Addr → Prop} {h : Heap}
theorem cmpOf_gt {A : Around} {P : Nat → Value → Prop} (val : Nat → UInt64) (hval : ∀ i v, P i v → ∃ t, v = .float (val i) t) : CmpOf prog w A .Gt P (fun i j => fgt (val i) (val j)) := fun i j vi vj s Q E hi hj h => by
  obtain ⟨t, rfl⟩ := hval i vi hi
  obtain ⟨u, rfl⟩ := hval j vj hj
  exact AutoFloatOps.gt_0 (t := t) (u := u) h
theorem cmpOf_lt {A : Around} {P : Nat → Value → Prop} (val : Nat → UInt64) (hval : ∀ i v, P i v → ∃ t, v = .float (val i) t) : CmpOf prog w A .Lt P (fun i j => flt' (val i) (val j)) := fun i j vi vj s Q E hi hj h => by
  obtain ⟨t, rfl⟩ := hval i vi hi
  obtain ⟨u, rfl⟩ := hval j vj hj
  exact AutoFloatOps.lt_0 (t := t) (u := u) h
noncomputable def val3 (a b c : UInt64) : Nat → UInt64
  | 0 => a
  | 1 => b
  | _ => c
theorem items3 {a b c : UInt64} {t u x : Tok} (ht1 : t ≠ 0) (ht2 : u ≠ 0) (ht3 : x ≠ 0) : ∀ i v, (#[Value.float a t, .float b u, .float c x] : Array Value)[i]? = some v → ∃ t, v = Value.float (val3 a b c i) t ∧ t ≠ 0
  | 0, v, e => by cases e; exact ⟨_, rfl, ht1⟩
  | 1, v, e => by cases e; exact ⟨_, rfl, ht2⟩
  | 2, v, e => by cases e; exact ⟨_, rfl, ht3⟩
  | n + 3, v, e => by simp at e
theorem best3 (bt : Nat → Nat → Bool) (val : Nat → UInt64) (f : UInt64 → UInt64 → Bool) (hb : ∀ i j, bt i j = f (val i) (val j)) : val (argBest bt 2) = if f (val 2) (if f (val 1) (val 0) then val 1 else val 0) then val 2 else (if f (val 1) (val 0) then val 1 else val 0) := by
  simp only [argBest, hb]
  by_cases h1 : f (val 1) (val 0) = true
  · simp only [h1, if_true]
    by_cases h2 : f (val 2) (val 1) = true <;> simp [h2]
  · simp only [h1, if_false]
    by_cases h2 : f (val 2) (val 0) = true <;> simp [h1, h2]
theorem op_max3f {a b c : UInt64} {vs : List Value} (hh : A.handled = none) (r : Reps prog w X h [.flt a, .flt b, .flt c] vs) : Op prog w A X h (call (.builtin "max") vs) (.flt (max3 a b c)) := .by fun s E Q hg hl hpos k => by
  apply r.kCons; intro _ _ r r'; apply r'.kCons; intro _ _ r2 r'; apply r'.kCons; intro _ _ r3 r'; apply r'.kNil; apply r.kFlt; intro t ht1; apply r2.kFlt; intro u ht2; apply r3.kFlt; intro x ht3
  have hT : (s.heap.push { cls := .type "tuple", data := .seq #[.float a t, .float b u, .float c x] }).IsTuple s.heap.objs.size #[.float a t, .float b u, .float c x] := ⟨_, Heap.get?_push_size _ rfl, rfl, 0, rfl⟩
  refine call_max_three (wpAny_pyIter_tuple hT ?_)
  have hsz : (s.heap.push { cls := .type "tuple", data := .seq #[.float a t, .float b u, .float c x] }).objs.size = s.heap.objs.size + 1 := Heap.size_push ..
  refine ⟨_, [_, s.heap.objs.size], [_], _, _, _, _, rfl, Walks.tuple (A := A.in1) hh _ s.heap.objs.size (by rw [hsz]; exact Nat.ne_of_lt (Nat.lt_succ_self _)) #[.float a t, .float b u, .float c x],
    ⟨⟨_, Heap.get?_push_size _ rfl, rfl, rfl⟩, hT.push _⟩, fun d hd => ?_, by simp, cmpOf_gt (val3 a b c) (fun i v e => let ⟨t, q, _⟩ := items3 ht1 ht2 ht3 i v e; ⟨t, q⟩), fun v h' tk hP hk => ?_⟩
  · show d < ((s.heap.push _).push _).objs.size
    rw [Heap.size_push, hsz]
    rcases List.mem_cons.mp hd with rfl | hd
    · rw [hsz]; exact Nat.lt_succ_self _
    · rw [List.mem_singleton.mp hd]; exact Nat.lt_succ_of_lt (Nat.lt_succ_self _)
  · obtain ⟨t', rfl, ht'⟩ := items3 ht1 ht2 ht3 _ _ hP
    have e := best3 (fun i j => fgt (val3 a b c i) (val3 a b c j)) (val3 a b c) fgt (fun _ _ => rfl)
    refine k _ h' tk (fun d o e => ?_) ?_
    · refine hk d o (fun hm => ?_) (Heap.get?_push_of_some _ (Heap.get?_push_of_some _ e))
      have := Heap.lt_size e; rw [List.mem_singleton.mp hm, hsz] at this; exact Nat.lt_irrefl _ (Nat.lt_of_succ_lt this)
    · have e2 : val3 a b c (argBest (fun i j => fgt (val3 a b c i) (val3 a b c j)) 2) = max3 a b c := e
      show Rep prog w X h' _ (Value.float (val3 a b c (argBest (fun i j => fgt (val3 a b c i) (val3 a b c j)) 2)) t')
      rw [e2]; exact .flt _ _ ht'
theorem op_min3f {a b c : UInt64} {vs : List Value} (hh : A.handled = none) (r : Reps prog w X h [.flt a, .flt b, .flt c] vs) : Op prog w A X h (call (.builtin "min") vs) (.flt (min3 a b c)) := .by fun s E Q hg hl hpos k => by
  apply r.kCons; intro _ _ r r'; apply r'.kCons; intro _ _ r2 r'; apply r'.kCons; intro _ _ r3 r'; apply r'.kNil; apply r.kFlt; intro t ht1; apply r2.kFlt; intro u ht2; apply r3.kFlt; intro x ht3
  have hT : (s.heap.push { cls := .type "tuple", data := .seq #[.float a t, .float b u, .float c x] }).IsTuple s.heap.objs.size #[.float a t, .float b u, .float c x] := ⟨_, Heap.get?_push_size _ rfl, rfl, 0, rfl⟩
  refine call_min_three (wpAny_pyIter_tuple hT ?_)
  have hsz : (s.heap.push { cls := .type "tuple", data := .seq #[.float a t, .float b u, .float c x] }).objs.size = s.heap.objs.size + 1 := Heap.size_push ..
  refine ⟨_, [_, s.heap.objs.size], [_], _, _, _, _, rfl, Walks.tuple (A := A.in1) hh _ s.heap.objs.size (by rw [hsz]; exact Nat.ne_of_lt (Nat.lt_succ_self _)) #[.float a t, .float b u, .float c x],
    ⟨⟨_, Heap.get?_push_size _ rfl, rfl, rfl⟩, hT.push _⟩, fun d hd => ?_, by simp, cmpOf_lt (val3 a b c) (fun i v e => let ⟨t, q, _⟩ := items3 ht1 ht2 ht3 i v e; ⟨t, q⟩), fun v h' tk hP hk => ?_⟩
  · show d < ((s.heap.push _).push _).objs.size
    rw [Heap.size_push, hsz]
    rcases List.mem_cons.mp hd with rfl | hd
    · rw [hsz]; exact Nat.lt_succ_self _
    · rw [List.mem_singleton.mp hd]; exact Nat.lt_succ_of_lt (Nat.lt_succ_self _)
  · obtain ⟨t', rfl, ht'⟩ := items3 ht1 ht2 ht3 _ _ hP
    have e := best3 (fun i j => flt' (val3 a b c i) (val3 a b c j)) (val3 a b c) flt' (fun _ _ => rfl)
    refine k _ h' tk (fun d o e => ?_) ?_
    · refine hk d o (fun hm => ?_) (Heap.get?_push_of_some _ (Heap.get?_push_of_some _ e))
      have := Heap.lt_size e; rw [List.mem_singleton.mp hm, hsz] at this; exact Nat.lt_irrefl _ (Nat.lt_of_succ_lt this)
    · have e2 : val3 a b c (argBest (fun i j => flt' (val3 a b c i) (val3 a b c j)) 2) = min3 a b c := e
      show Rep prog w X h' _ (Value.float (val3 a b c (argBest (fun i j => flt' (val3 a b c i) (val3 a b c j)) 2)) t')
      rw [e2]; exact .flt _ _ ht'
end
section
variable {h₀ : Heap} {A : Around} {X Mu : Addr → Prop} {env : Env} {s₀ s : Shared} {l : List (Str × D)} {ml : List (Addr × D)} {mg mb : Str → Option Value} {h : Heap} {e e1 e2 e3 : Expr} {p pos : Pos} {a b c : UInt64}
theorem ev_max3f (S : St prog w h₀ X Mu env s₀ s l ml) (G : Glo mg mb h₀) (F : FE env) (hh : A.handled = none) (hx : env.kindOf "max" = some .globalImplicit) (he : Ev prog w A X env s.heap e1 (.flt a)) (he2 : Ev prog w A X env s.heap e2 (.flt b)) (he3 : Ev prog w A X env s.heap e3 (.flt c))
    (hst : starEach [e1, e2, e3] env = (false, eval e1 env) :: starEach [e2, e3] env) (hst2 : starEach [e2, e3] env = (false, eval e2 env) :: starEach [e3] env) (hst3 : starEach [e3] env = (false, eval e3 env) :: starEach [] env) : Ev prog w A X env s.heap (.Call (.Name "max" p) [e1, e2, e3] [] pos) (.flt (max3 a b c)) :=
  ev_callB (ev_bi G F S.base hx (by rfl) (by rfl)) (evs_cons he (evs_cons he2 (evs_cons he3 evs_nil hst3) hst2) hst) (fun h' vs g r => op_max3f hh r) rfl hst (by rw [hst2, hst3]; rfl)
theorem ev_min3f (S : St prog w h₀ X Mu env s₀ s l ml) (G : Glo mg mb h₀) (F : FE env) (hh : A.handled = none) (hx : env.kindOf "min" = some .globalImplicit) (he : Ev prog w A X env s.heap e1 (.flt a)) (he2 : Ev prog w A X env s.heap e2 (.flt b)) (he3 : Ev prog w A X env s.heap e3 (.flt c))
    (hst : starEach [e1, e2, e3] env = (false, eval e1 env) :: starEach [e2, e3] env) (hst2 : starEach [e2, e3] env = (false, eval e2 env) :: starEach [e3] env) (hst3 : starEach [e3] env = (false, eval e3 env) :: starEach [] env) : Ev prog w A X env s.heap (.Call (.Name "min" p) [e1, e2, e3] [] pos) (.flt (min3 a b c)) :=
  ev_callB (ev_bi G F S.base hx (by rfl) (by rfl)) (evs_cons he (evs_cons he2 (evs_cons he3 evs_nil hst3) hst2) hst) (fun h' vs g r => op_min3f hh r) rfl hst (by rw [hst2, hst3]; rfl)
end
end
end Mine

namespace Mine
section
open PySem PySem.W PySem.Calls PyProof.Rows
set_option maxRecDepth 100000
set_option linter.unusedVariables false
variable {prog : Program} {w : World}
noncomputable def AllIn (l : List (Str × D)) : List (Str × D) → Prop
  | [] => True
  | p :: r => l.lookup p.1 = some p.2 ∧ AllIn l r
theorem AllIn.get {l : List (Str × D)} : ∀ {r : List (Str × D)}, AllIn l r → ∀ {x : Str} {d : D}, r.lookup x = some d → l.lookup x = some d
  | [], _, x, d, e => by cases e
  | p :: r, h, x, d, e => by
    rw [List.lookup_cons] at e
    split at e
    · rename_i q; cases e; rw [beq_iff_eq.mp q]; exact h.1
    · exact AllIn.get h.2 e
section
variable {h₀ : Heap} {A : Around} {X Mu : Addr → Prop} {env : Env} {s₀ s : Shared} {l : List (Str × D)} {ml : List (Addr × D)} {h : Heap}
theorem St.to {l' : List (Str × D)} (S : St prog w h₀ X Mu env s₀ s l ml) (h : AllIn l l') : St prog w h₀ X Mu env s₀ s l' ml := S.sub fun x d hx => h.get hx
theorem ev_callV {func : Expr} {e : Expr} {args : List Expr} {pos : Pos} {f : Addr} {o : Obj} {fd : FuncData} {ds : List D} {d : D} (hf : Ev prog w A X env h func (.val (.ref f))) (ho : h.get? f = some o) (hd : o.data = .func fd) (ha : Evs prog w A X env h pos (e :: args) ds)
    (hc : ∀ h' vs, Grow h h' → Reps prog w X h' ds vs → Op prog w A X h' (call (.ref f) vs) d)
    (he : eval (.Call func (e :: args) [] pos) env = (do callWith pos (← eval func env) [] (backTo pos (starEach (e :: args) env)) (backToKw pos (keywordEach [] env))) := by rfl)
    (hst : starEach (e :: args) env = (false, eval e env) :: starEach args env := by rfl) : Ev prog w A X env h (.Call func (e :: args) [] pos) d := .by fun s E Q hg hl hpos k =>
  Call_ (hf.use hg hl fun vf h1 t1 g1 r1 _ => by
    (first | apply r1.kVal | apply r1.kInt; intro _ | apply r1.kFlt; intro _ _ | apply r1.kBool | apply r1.kNone | apply r1.kNil | cases r1)
    exact callWith_def hd (ha.use (hg.trans g1) (hl.grow g1) fun vs h2 t2 g2 r2 _ => ⟨g2 _ _ (g1 _ _ (hg _ _ ho)), (hc h2 vs (hg.trans (g1.trans g2)) r2).use Grow.rfl (hl.grow (g1.trans g2)) fun v h3 t3 g3 r3 _ => k v h3 t3 (g1.trans (g2.trans g3)) r3⟩) hst) he
end
theorem fdiv2 {lo hi : Nat} : Int.fdiv ((lo : Int) + (hi : Int)) 2 = (((lo + hi) / 2 : Nat) : Int) := by
  rw [Int.fdiv_eq_ediv_of_nonneg _ (by decide)]; lia
end
end Mine

namespace Mine
section
open PySem PySem.W PySem.Calls PyProof.Rows
set_option maxRecDepth 100000
set_option linter.unusedVariables false
variable {prog : Program} {w : World}
section
variable {h₀ : Heap} {A : Around} {X X' Mu : Addr → Prop} {env : Env} {s₀ s : Shared} {l : List (Str × D)} {ml : List (Addr × D)} {h : Heap} {E : Value → Shared → Prop} {rest : List Stmt} {pos : Pos}

theorem Go.lessInt {t : Sem Value} {i : Int} (g : Go prog w A X h t fun h' v => Rep prog w X h' (.int i) v) (hX : ∀ b, X b → X' b) : Go prog w A X' h t fun h' v => Rep prog w X' h' (.int i) v := fun s E hg hl hpos =>
  g.use hg (hl.tr (fun o e => ⟨o, e⟩) (fun b hb => .inl (hX b hb)) fun b _ _ o e => ⟨o, e⟩) fun v h' tk gr r _ => by
    (first | apply r.kVal | apply r.kInt; intro _ | apply r.kFlt; intro _ _ | apply r.kBool | apply r.kNone | apply r.kNil | cases r)
    exact ⟨h', tk, rfl, gr, .int _ _⟩

theorem St.changeG {p : Addr} {d d' : D} {h' : Heap} {tk : Nat} (S : St prog w h₀ X Mu env s₀ s l ((p, d) :: ml)) (kp : ∀ b o, b ≠ p → s.heap.get? b = some o → h'.get? b = some o) (hm : MutAt prog w X h' p d') (ht : 0 < tk := by assumption) :
    St prog w h₀ X Mu env s₀ { s with heap := h', toks := tk } l ((p, d') :: ml) := by
  obtain ⟨h, t, rfl⟩ := S.same
  obtain ⟨m, hn⟩ := S.ns
  obtain ⟨ha, hL, hm0⟩ := S.muts _ (.head _)
  have hC : ∀ c v, h.IsCell c v → c ≠ p := fun c v hv => hm0.ne_cell hv
  have T : Tr X X h h' := fun b o n e => ⟨n, kp b o (fun z => n (z ▸ S.mx _ ha)) e⟩
  have dis := List.pairwise_cons.mp S.mdis
  have key : ∀ b o, h.get? b = some o → ∃ o', h'.get? b = some o' := fun b o e => by
    by_cases q : b = p
    · exact q ▸ hm.there
    · exact ⟨o, kp b o q e⟩
  refine ⟨⟨h', tk, rfl⟩, fun b o n e => kp b o (fun z => n (z ▸ ha)) (S.keep b o n e), S.liv.tr (fun o e => key _ o e) (fun b hb => .inl hb) fun b _ _ o e => key b o e, ⟨m, hn.at' fun o e => kp _ o (Ne.symm hL) e⟩, S.mx, S.loc, fun x c hx => ?_, S.apart, fun x d hx => ?_, fun q hq => ?_, ?_, fun b o e => kp b o (fun z => ?_) (S.base b o e), ht, S.off⟩
  · obtain ⟨⟨v, hv⟩, h1⟩ := S.cells x c hx
    exact ⟨⟨v, isCell_tr hv fun o e => kp c o (hC c v hv) e⟩, h1⟩
  · rcases S.vars x d hx with ⟨k, m1, v, hn1, hm, r⟩ | ⟨k, c, v, hc, hv, r⟩
    · exact .inl ⟨k, m1, v, hn1.at' fun o e => kp _ o (Ne.symm hL) e, hm, r.tr T⟩
    · exact .inr ⟨k, c, v, hc, isCell_tr hv fun o e => kp c o (hC c _ hv) e, r.tr T⟩
  · rcases List.mem_cons.mp hq with rfl | hq
    · exact ⟨ha, hL, hm⟩
    · obtain ⟨a1, a2, a3⟩ := S.muts q (.tail _ hq)
      exact ⟨a1, a2, a3.tr T fun o e => kp _ o (Ne.symm (dis.1 q hq)) e⟩
  · exact List.pairwise_cons.mpr ⟨dis.1, dis.2⟩
  · rw [z, S.off _ ha] at e; cases e

theorem wp_meth {o e : Expr} {name : Str} {apos : Pos} {args : List Expr} {T id : String} {p : Addr} {ob : Obj} {ds : List D} {Q : Value → Shared → Prop} (hl : Liv X s.heap) (hpos : 0 < s.toks)
    (pa : PlainAttrs T) (slot : Slot T name id) (hty : typeOf (.builtin id) = pure (.type "method_descriptor")) (ho : Ev prog w A X env s.heap o (.val (.ref p))) (hob : s.heap.get? p = some ob) (hcls : ob.cls = .type T) (hdict : ob.dict = none)
    (ha : Evs prog w A X env s.heap pos (e :: args) ds) (k : ∀ h' tk vs, Grow s.heap h' → Reps prog w X h' ds vs → 0 < tk → wpAny (model prog w) A (call (.builtin id) (.ref p :: vs)) Q E { s with heap := h', toks := tk })
    (hbase : attributeBase o name env (eval o env) = eval o env)
    (hfew : ((backTo pos (starEach (e :: args) env)).all (fun x => !x.1) && (backToKw pos (keywordEach [] env)).all (fun x => x.1.isSome)
      && decide ((e :: args).length + ([] : List Keyword).length + (if ([] : List Keyword).isEmpty then 0 else 1) < 30)) = true)
    (hline : (apos.endLine == pos.line) = true) (hst : starEach (e :: args) env = (false, eval e env) :: starEach args env) (hpl : (backTo pos (starEach args env)).any (·.1) = false) :
    wpAny (model prog w) A (eval (.Call (.Attribute o name apos) (e :: args) [] pos) env) Q E s := by
  refine wpAny_Call_method hbase hfew hline pa slot hty ?_
  refine ho.use Grow.rfl hl fun v h1 t1 g1 r1 _ => ?_
  (first | apply r1.kVal | apply r1.kInt; intro _ | apply r1.kFlt; intro _ _ | apply r1.kBool | apply r1.kNone | apply r1.kNil | cases r1)
  refine ⟨⟨ob, g1 _ _ hob, hcls⟩, fun a ea => ?_, ?_⟩
  · cases ea; exact ⟨ob, g1 _ _ hob, hdict⟩
  · exact callWith_method1 ((ha.grow g1).use Grow.rfl (hl.grow g1) fun vs h2 t2 g2 r2 hp2 => k h2 t2 vs (g1.trans g2) r2 hp2) hst hpl

theorem mapSeq_list (c : Value) (xs : Array Value) (n : Nat) (f : Array Value → Array Value) : ∃ n', Obj.mapSeq f { cls := c, data := .seq xs n } = { cls := c, data := .seq (f xs) n' } := ⟨_, rfl⟩
theorem insert_items {vs : List Value} {k : Nat} {y : Value} (hk : k ≤ vs.length) : ((vs.toArray.extract 0 k).push y ++ vs.toArray.extract k) = (vs.take k ++ y :: vs.drop k).toArray := by
  apply Array.ext'
  simp [List.take_of_length_le]

theorem Reps.takeN {ds : List D} {vs : List Value} (r : Reps prog w X h ds vs) (k : Nat) : Reps prog w X h (ds.take k) (vs.take k) := by
  induction k generalizing ds vs with
  | zero => exact .nil
  | succ k ih => cases r with
    | nil => exact .nil
    | cons a b => exact .cons a (ih b)
theorem Reps.dropN {ds : List D} {vs : List Value} (r : Reps prog w X h ds vs) (k : Nat) : Reps prog w X h (ds.drop k) (vs.drop k) := by
  induction k generalizing ds vs with
  | zero => exact r
  | succ k ih => cases r with
    | nil => exact .nil
    | cons a b => exact ih b

theorem x_insert {x : Str} {px apos p2 : Pos} {e1 e2 : Expr} {p : Addr} {ds : List D} {d : D} {k : Nat} {Q : Flow → Shared → Prop} (S : St prog w h₀ X Mu env s₀ s l ((p, .lst ds) :: ml)) (hv : l.lookup x = some (.val (.ref p))) (he1 : Ev prog w A X env s.heap e1 (.int k)) (he2 : Ev prog w A X env s.heap e2 d) (hk : k ≤ ds.length) (hsz : ds.length ≤ 1000) (hf : env.scope.kind = .function)
    (kk : ∀ s', St prog w h₀ X Mu env s₀ s' l ((p, .lst (ds.take k ++ d :: ds.drop k)) :: ml) → wpAny (model prog w) A (execs rest env) Q E s') (hd : (x == ("__debug__" : Str)) = false) (hcd : (x == ("__classdict__" : Str)) = false) (hline : (apos.endLine == p2.line) = true)
    (hbase : attributeBase (.Name x px) "insert" env (eval (.Name x px) env) = eval (.Name x px) env)
    (hfew : ((backTo p2 (starEach [e1, e2] env)).all (fun x => !x.1) && (backToKw p2 (keywordEach [] env)).all (fun x => x.1.isSome)
      && decide (([e1, e2] : List Expr).length + ([] : List Keyword).length + (if ([] : List Keyword).isEmpty then 0 else 1) < 30)) = true)
    (hst : starEach [e1, e2] env = (false, eval e1 env) :: starEach [e2] env) (hst2 : starEach [e2] env = (false, eval e2 env) :: starEach [] env) (hi : interactive env = false) (hsw : swapsWith (.Call (.Attribute (.Name x px) "insert" apos) [e1, e2] [] p2) none pos.line env = pure false) :
    wpAny (model prog w) A (execs (.Expr (.Call (.Attribute (.Name x px) "insert" apos) [e1, e2] [] p2) pos :: rest) env) Q E s := by
  obtain ⟨vs, ⟨n, hp⟩, hr⟩ := (S.muts _ (.head _)).2.2
  refine wpAny_execs_cons (wpAny_Expr_any ?_ hi hsw)
  refine wp_meth S.liv S.tok PySem.F.plainAttrs_list PySem.F.slot_list_insert PySem.F.type_list_insert (ev_var hf (S.vars x _ hv) hd hcd) hp rfl rfl (evs_cons he1 (evs_cons he2 evs_nil hst2) hst) (fun h1 t1 ws g1 r1 _ => ?_) hbase hfew hline hst (by rw [hst2]; rfl)
  apply r1.kCons; intro v1 _ ra r1; apply r1.kCons; intro y _ rb r1; apply r1.kNil; apply ra.kInt; intro tk
  have hfit : ¬ (!Builtin.List.listFitsIndex (k : Int)) = true := by
    have : (k : Int) < 2 ^ 63 := by lia
    simp [Builtin.List.listFitsIndex]; lia
  have hsz2 : vs.toArray.size ≤ sizeLine := by rw [List.size_toArray, hr.length, sizeLine_eq]; lia
  generalize hki : (k : Int) = ki at hfit
  have M := PySem.AutoSeq1.list_insert_list_int_val_1 p vs.toArray n ki tk y hfit hsz2
  refine call_meets PySem.F.slot_list_insert ⟨_, g1 _ _ hp, rfl⟩ PySem.F.entry_list_insert (PySem.F.args_list_insert_3 _ _ _) M ?_
  refine ⟨g1 _ _ hp, ?_⟩
  have S1 := S.grown (tk := t1) g1
  refine kk _ (S1.change (tk := t1) (Heap.SameBut.update ..) ⟨vs.take k ++ y :: vs.drop k, ?_, ?_⟩)
  · have e1 : (if ki < 0 then (ki + (vs.toArray.size : Int)).toNat else min ki.toNat vs.toArray.size) = k := by
      rw [← hki, if_neg (by lia), List.size_toArray, hr.length]; simp; lia
    obtain ⟨n', hn'⟩ := mapSeq_list (.type "list") vs.toArray n fun xs => have k := if ki < 0 then (ki + (xs.size : Int)).toNat else min ki.toNat xs.size; (xs.extract 0 k).push y ++ xs.extract k
    refine ⟨n', (Heap.get?_update_self _ (g1 _ _ hp) (by rw [hn']; rfl)).trans ?_⟩
    rw [hn']
    show some (Obj.mk _ _ (Data.seq ((vs.toArray.extract 0 (if ki < 0 then (ki + (vs.toArray.size : Int)).toNat else min ki.toNat vs.toArray.size)).push y ++ vs.toArray.extract (if ki < 0 then (ki + (vs.toArray.size : Int)).toNat else min ki.toNat vs.toArray.size)) n') _) = _
    rw [e1, insert_items (by rw [hr.length]; exact hk)]
  · have T : ∀ f : Obj → Obj, Tr X X h1 (h1.update p f) := fun f => tr_sameBut (S.mx _ (S.muts _ (.head _)).1) (Heap.SameBut.update ..)
    have hr' := fun f => (hr.grow g1).tr (T f)
    exact ((hr' _).takeN k).append (.cons (rb.tr (T _)) ((hr' _).dropN k))
end
end
end Mine

namespace Mine
section
open PySem PySem.W PySem.Calls PyProof.Rows
set_option maxRecDepth 100000
set_option linter.unusedVariables false
variable {prog : Program} {w : World}
theorem Glo.grow {mg mb : Str → Option Value} {h₀ h : Heap} (G : Glo mg mb h₀) (g : Grow h₀ h) : Glo mg mb h where
  g := G.g.keeps g
  b := G.b.keeps g
  lim := G.lim.keeps g
  bk := by
    obtain ⟨mc, hn, hk⟩ := G.bk
    exact ⟨mc, hn.keeps g, hk⟩
  bi := G.bi
  fn := fun x i hx => by
    obtain ⟨f, name, qual, doc, pm, an, cd, ct, hm, F⟩ := G.fn x i hx
    exact ⟨f, name, qual, doc, pm, an, cd, ct, hm, F.grow g⟩
  bs := fun x i hx => by
    obtain ⟨f, name, qual, dV, kV, doc, pm, an, cd, ct, t, hm, F, b1, b2, b3⟩ := G.bs x i hx
    exact ⟨f, name, qual, dV, kV, doc, pm, an, cd, ct, t, hm, F.grow g, fun s a b gg => b1 s a b (g.trans gg), fun s a b k gg => b2 s a b k (g.trans gg), fun s a b c d k gg => b3 s a b c d k (g.trans gg)⟩
section
variable {h₀ : Heap} {A : Around} {X X' Mu : Addr → Prop} {env : Env} {s₀ s : Shared} {l : List (Str × D)} {ml : List (Addr × D)} {h : Heap} {E : Value → Shared → Prop} {rest : List Stmt} {pos : Pos}

theorem wp_callKw {x : Str} {p kpos : Pos} {e ke : Expr} {args : List Expr} {kn : Str} {f : Addr} {o : Obj} {fd : FuncData} {ds : List D} {dk : D} {Q : Value → Shared → Prop} (hl : Liv X s.heap) (hpos : 0 < s.toks)
    (hf : Ev prog w A X env s.heap (.Name x p) (.val (.ref f))) (ho : s.heap.get? f = some o) (hd : o.data = .func fd) (ha : Evs prog w A X env s.heap pos (e :: args) ds) (hke : Ev prog w A X env s.heap ke dk)
    (k : ∀ h' tk vs vk, Grow s.heap h' → Reps prog w X h' ds vs → Rep prog w X h' dk vk → 0 < tk → wpAny (model prog w) A (call (.ref f) vs [(kn, vk)]) Q E { s with heap := h', toks := tk })
    (hst : starEach (e :: args) env = (false, eval e env) :: starEach args env) :
    wpAny (model prog w) A (eval (.Call (.Name x p) (e :: args) [⟨some kn, ke, kpos⟩] pos) env) Q E s := by
  refine wpAny_Call_Name_kw ?_
  refine hf.use Grow.rfl hl fun vf h1 t1 g1 r1 _ => ?_
  (first | apply r1.kVal | apply r1.kInt; intro _ | apply r1.kFlt; intro _ _ | apply r1.kBool | apply r1.kNone | apply r1.kNil | cases r1)
  refine callWith_function_kw (o := o) (fd := fd) ?_
  have ha' := ha.grow g1
  have he' := hke.grow g1
  have hbt : backTo pos (starEach (e :: args) env) = (false, eval e env) :: backTo pos (starEach args env) := by rw [hst]; rfl
  rw [Go] at ha'
  rw [hbt]
  refine evalArgs_kw rfl ?_
  rw [← hbt]
  refine Go.use ha' Grow.rfl (hl.grow g1) fun vs h2 t2 g2 r2 _ => ?_
  show wpAny _ _ (evalAll [(do let v ← eval ke env; standAt pos; pure v)]) _ _ _
  refine wpAny_evalAll_cons (wpAny_bind ((he'.grow g2).use Grow.rfl (hl.grow (g1.trans g2)) fun vk h3 t3 g3 r3 hp3 => wpAny_bind (wpAny_standAt (wpAny_pure ?_))))
  refine wpAny_pure ?_
  refine ⟨⟨g3 _ _ (g2 _ _ (g1 _ _ ho)), hd⟩, ?_⟩
  exact k h3 t3 vs vk (g1.trans (g2.trans g3)) (r2.grow g3) r3 hp3

theorem ev_callKw {x : Str} {p kpos : Pos} {e ke : Expr} {args : List Expr} {kn : Str} {f : Addr} {o : Obj} {fd : FuncData} {ds : List D} {dk d : D} (hf : Ev prog w A X env h (.Name x p) (.val (.ref f))) (ho : h.get? f = some o) (hd : o.data = .func fd) (ha : Evs prog w A X env h pos (e :: args) ds) (hke : Ev prog w A X env h ke dk)
    (hc : ∀ h' vs vk, Grow h h' → Reps prog w X h' ds vs → Rep prog w X h' dk vk → Op prog w A X h' (call (.ref f) vs [(kn, vk)]) d)
    (hst : starEach (e :: args) env = (false, eval e env) :: starEach args env) : Ev prog w A X env h (.Call (.Name x p) (e :: args) [⟨some kn, ke, kpos⟩] pos) d := .by fun s E Q hg hl hpos k =>
  wp_callKw hl hpos (hf.grow hg) (hg _ _ ho) hd (ha.grow hg) (hke.grow hg) (fun h' tk vs vk g r rk _ => (hc h' vs vk (hg.trans g) r rk).use Grow.rfl (hl.grow g) fun v h2 t2 g2 r2 _ => k v h2 t2 (g.trans g2) r2) hst

theorem wp_callM {i : Nat} {name qual : Str} {dV kV doc pm cd ct : Value} {an : Option Addr} {f p : Addr} {vs : List Value} {kw : List (Str × Value)} (ns : List Str) {ds : List D} {ws : List Value} {d d' : D} {Q : Value → Shared → Prop}
    (F : FnAt s.heap f (fdOf i name qual dV kV doc pm an cd ct)) (hb : Grow h₀ s.heap) (hlim : s.heap.NoLimit) (hroom : A.depth < recursionLimit) (hl : Liv X s.heap) (hpos : 0 < s.toks) (hpX : X p) (hoff : h₀.get? p = none) (hm : MutAt prog w X s.heap p d)
    (hbind : BindsTo s (fdOf i name qual dV kV doc pm an cd ct) ⟨vs, kw⟩ (ns.zip ws))
    (hcell : ((scopeOf (stmtAt i)).names.all fun x => decide (x.2 ≠ .cell)) = true) (hloc : (ns.all fun n => decide ((scopeOf (stmtAt i)).names.lookup n = some .local)) = true)
    (hnd : ns.Nodup) (hrep : Reps prog w X s.heap ds ws)
    (body : ∀ (s₁ : Shared) (L : Addr) (E : Value → Shared → Prop), s.heap.get? L = none → Grow s.heap s₁.heap → St prog w h₀ (Xp X L) (fun b => b = L ∨ b = p) (envAt i qual cd L f) s₁ s₁ (ns.zip ds) [(p, d)] →
      wpAny (model prog w) (A.deeper (envAt i qual cd L f)) (execs (bodyOf (stmtAt i)) (envAt i qual cd L f)) (fun fl s' => fl = .next ∧ ∃ l', St prog w h₀ (Xp X L) (fun b => b = L ∨ b = p) (envAt i qual cd L f) s₁ s' l' [(p, d')]) E s₁)
    (k : ∀ h' tk, (∀ b o, b ≠ p → s.heap.get? b = some o → h'.get? b = some o) → MutAt prog w X h' p d' → Q .none { s with heap := h', toks := tk })
    (hco : (scopeOf (stmtAt i)).isCoroutine = false := by rfl) (hgen : (scopeOf (stmtAt i)).isGenerator = false := by rfl) (hk : (scopeOf (stmtAt i)).kind = .function := by rfl) :
    wpAny (model prog w) A (call (.ref f) vs kw) Q E s := by
  obtain ⟨o, ho, hd⟩ := F.here
  refine wpAny_call (codeAny_call_def (fd := fdOf i name qual dV kV doc pm an cd ct) hroom ho hd hlim F.code rfl hbind (fun x hx => of_decide_eq_true (List.all_eq_true.mp hcell x hx)) (zip_locs hloc) (fun hf hn hk₀ => ?_) hco hgen hk)
  have hL := next_none s.heap
  have tr : Tr X (Xp X s.heap.objs.size) s.heap hf := by
    intro b o n e
    refine ⟨fun q => ?_, hk₀ b o e⟩
    rcases q with q | q
    · exact n q
    · subst q; rw [hL] at e; cases e
  have hpL : p ≠ s.heap.objs.size := fun q => by
    obtain ⟨o, e⟩ := hm.there
    rw [q, hL] at e; cases e
  have S : St prog w h₀ (Xp X s.heap.objs.size) (fun b => b = s.heap.objs.size ∨ b = p) (envAt i qual cd s.heap.objs.size f) { s with heap := hf, toks := s.toks + (ns.zip ws).length } { s with heap := hf, toks := s.toks + (ns.zip ws).length } (ns.zip ds) [(p, d)] := by
    refine ⟨⟨hf, _, rfl⟩, fun b o _ e => e, ?_, ⟨_, hn⟩, fun b hb => hb.elim .inr fun q => .inl (q ▸ hpX), .inl rfl, fun x c hx => (by cases hx), fun x y c hx => (by cases hx), fun x d hx => ?_, fun q hq => ?_, List.pairwise_singleton _ _, hb.trans hk₀, Nat.lt_of_lt_of_le hpos (Nat.le_add_right _ _), fun b hb' => ?_⟩
    · exact hl.tr (fun o e => ⟨o, hk₀ _ o e⟩) (fun b hb => hb.elim .inl fun q => .inr (q ▸ ns_there hn)) fun b _ _ o e => ⟨o, hk₀ b o e⟩
    · obtain ⟨v, hv, r⟩ := rep_binds hnd hrep x d hx
      exact .inl ⟨zip_locs hloc (x, d) (lookup_mem hx), _, v, hn, hv, r.tr tr⟩
    · rw [List.mem_singleton.mp hq]
      exact ⟨.inr rfl, hpL, hm.tr tr fun o e => hk₀ _ o e⟩
    · rcases hb' with q | q
      · rw [q]
        cases z : h₀.get? s.heap.objs.size with
        | none => rfl
        | some o => have := hb _ _ z; rw [hL] at this; cases this
      · rw [q]; exact hoff
  refine wpAny_mono (body _ _ _ hL hk₀ S) (fun fl s' hr => ?_) fun _ _ e => e
  obtain ⟨rfl, l', S'⟩ := hr
  obtain ⟨h', tk, rfl⟩ := S'.same
  refine k h' tk (fun b o n e => S'.keep b o (fun q => ?_) (hk₀ b o e)) ((S'.muts _ (.head _)).2.2.tr (fun b o n e => ⟨fun q => n (.inl q), e⟩) fun o e => e)
  rcases q with q | q
  · rw [q, hL] at e; cases e
  · exact n q
end
end
end Mine

namespace Mine
section
open PySem PySem.W PySem.Calls PyProof.Rows PySem.SeqAt
set_option maxRecDepth 100000
set_option linter.unusedVariables false
set_option linter.unusedSimpArgs false
variable {prog : Program} {w : World}
section
variable {h₀ : Heap} {A : Around} {X Mu : Addr → Prop} {env : Env} {h : Heap}

theorem eqAt_flt {A : Around} {s : Shared} {a : UInt64} {t u : Tok} (hb : NoneBooked s.heap) (ht : t ≠ 0) (hu : u ≠ 0) (hn : (Float64.cmp a a == some Ordering.eq) = true) : EqAt A s (.float a t) (.float a u) true := fun prog w E Q h => by
  unfold eqBool
  refine wpAny_holding ?_
  refine wpAny_ite ?_
  split
  · exact wpAny_bind (wpAny_rule (wpAny_pure h))
  · show wpAny (model prog w) A (isSame (.float a t) (.float a u) >>= fun b => if b = true then pure true else (richCompare .Eq (.float a t) (.float a u) >>= truthOfDropped)) Q E s
    have fin : wpAny (model prog w) A (richCompare .Eq (.float a t) (.float a u) >>= truthOfDropped) Q E s := by
      refine wpAny_bind ?_
      have := AutoFloatOps.eq_0 (prog := prog) (w := w) (A := A) (E := E) (s := s) (a := a) (b := a) (t := t) (u := u) (Q := fun v s' => wpAny (model prog w) A (truthOfDropped v) Q E s') (by rw [hn]; exact wpAny_truthy_bool h)
      exact this
    refine wpAny_bind ?_
    show wpAny (model prog w) A (isSame.created (a == a && !Float64.isNaN a) t u) _ E s
    unfold isSame.created
    refine wpAny_ite ?_
    split
    · rename_i q; simp [ht, hu] at q
    refine wpAny_ite ?_
    split
    · exact wpAny_pure (wpAny_pure h)
    refine wpAny_ite ?_
    split
    · exact wpAny_pure fin
    refine wpAny_bind (wpAny_sharingNotTold_none hb ?_)
    refine wpAny_ite ?_
    rw [if_neg Bool.false_ne_true]
    refine wpAny_bind (wpAny_sharingNotTold_none hb ?_)
    refine wpAny_ite ?_
    rw [if_neg Bool.false_ne_true]
    refine wpAny_bind (wpAny_rule (wpAny_bind (wpAny_askSetting (wpAny_pure ?_))))
    split
    · exact wpAny_pure h
    · exact fin

theorem Reps.eqAt {xs : List UInt64} {vs ws : List Value} {A : Around} {s : Shared} (r1 : Reps prog w X s.heap (xs.map .flt) vs) (r2 : Reps prog w X s.heap (xs.map .flt) ws) (hb : NoneBooked s.heap) (hn : ∀ x ∈ xs, (Float64.cmp x x == some Ordering.eq) = true) :
    ∀ j (h1 : j < vs.length) (h2 : j < ws.length), EqAt A s vs[j] ws[j] true := by
  induction xs generalizing vs ws with
  | nil => (first | apply r1.kVal | apply r1.kInt; intro _ | apply r1.kFlt; intro _ _ | apply r1.kBool | apply r1.kNone | apply r1.kNil | cases r1); intro j h1; simp at h1
  | cons x xs ih =>
    apply r1.kCons; intro _ _ a1 b1; apply r2.kCons; intro _ _ a2 b2
    intro j h1 h2
    cases j with
    | zero => apply a1.kFlt; intro t ht; apply a2.kFlt; intro u hu; exact eqAt_flt hb ht hu (hn x (.head _))
    | succ j => exact ih b1 b2 (fun y hy => hn y (.tail _ hy)) j (by simpa using h1) (by simpa using h2)
theorem noneBooked_grow {h h' : Heap} (b : NoneBooked h) (g : Grow h h') : NoneBooked h' := let ⟨mc, hn, hk⟩ := b; ⟨mc, hn.keeps g, hk⟩

theorem op_ne_fltL {xs : List UInt64} {va vb : Value} (hb : NoneBooked h) (hu : A.units < cLine) (ra : Rep prog w X h (.lst (xs.map .flt)) va) (rb : Rep prog w X h (.lst (xs.map .flt)) vb) (hn : ∀ x ∈ xs, (Float64.cmp x x == some Ordering.eq) = true) :
    Op prog w A X h (compareOp .NotEq va vb) (.bool false) := .by fun s E Q hg hl hpos k => by
  apply ra.kLst; intro a vs hx ha hr; apply rb.kLst; intro b ws hx2 hb2 hr2
  have hL := plain_isList (plain_tr ha fun o e => hg _ _ e)
  have hL2 := plain_isList (plain_tr hb2 fun o e => hg _ _ e)
  have key := RcNeAt.lists (A := A) (s := s) (e := fun _ => true) hL hL2 (by simp [hr.length, hr2.length]) hu (fun j h1 h2 => by
    have := Reps.eqAt (A := A.in1) (s := s) (hr.grow hg) (hr2.grow hg) (noneBooked_grow hb hg) hn j (by simpa using h1) (by simpa using h2)
    simpa using this)
  have e : (!(List.range vs.toArray.size).all fun _ => true) = false := by simp
  rw [e] at key
  exact key prog w E Q (k _ s.heap s.toks Grow.rfl (.bool _))
theorem op_ne_fltT {xs : List UInt64} {va vb : Value} (hb : NoneBooked h) (hu : A.units < cLine) (ra : Rep prog w X h (.tup (xs.map .flt)) va) (rb : Rep prog w X h (.tup (xs.map .flt)) vb) (hn : ∀ x ∈ xs, (Float64.cmp x x == some Ordering.eq) = true) :
    Op prog w A X h (compareOp .NotEq va vb) (.bool false) := .by fun s E Q hg hl hpos k => by
  apply ra.kTup; intro a vs hx ha hr; apply rb.kTup; intro b ws hx2 hb2 hr2
  have hL := isTuple_tr ha fun o e => hg _ _ e
  have hL2 := isTuple_tr hb2 fun o e => hg _ _ e
  have key := RcNeAt.tuples (A := A) (s := s) (e := fun _ => true) hL hL2 hu (fun j h1 h2 => by
    have := Reps.eqAt (A := A.in1) (s := s) (hr.grow hg) (hr2.grow hg) (noneBooked_grow hb hg) hn j (by simpa using h1) (by simpa using h2)
    simpa using this)
  have e : (!((List.range (min vs.toArray.size ws.toArray.size)).all (fun _ => true) && vs.toArray.size == ws.toArray.size)) = false := by simp [hr.length, hr2.length]
  rw [e] at key
  exact key prog w E Q (k _ s.heap s.toks Grow.rfl (.bool _))

theorem Reps.ints {ns : List Int} {vs : List Value} (r : Reps prog w X h (ns.map .int) vs) : IntsAre vs ns := by
  induction ns generalizing vs with
  | nil => (first | apply r.kVal | apply r.kInt; intro _ | apply r.kFlt; intro _ _ | apply r.kBool | apply r.kNone | apply r.kNil | cases r); exact .nil
  | cons n ns ih => apply r.kCons; intro _ _ a b; apply a.kInt; intro t; exact .cons n t (ih b)
theorem op_eq_ints {ns ms : List Int} {va vb : Value} (hu : A.units + 64 < cLine) (ra : Rep prog w X h (.lst (ns.map .int)) va) (rb : Rep prog w X h (.lst (ms.map .int)) vb) :
    Op prog w A X h (compareOp .Eq va vb) (.bool (decide (ns = ms))) := .by fun s E Q hg hl hpos k => by
  apply ra.kLst; intro _ _ hx ha hr; apply rb.kLst; intro _ _ hx2 hb2 hr2
  exact ke_eq_ints (plain_isList (plain_tr ha fun o e => hg _ _ e)) (plain_isList (plain_tr hb2 fun o e => hg _ _ e)) hr.ints hr2.ints hu (k _ s.heap s.toks Grow.rfl (.bool _))
theorem op_ne_ints {ns ms : List Int} {va vb : Value} (hu : A.units + 64 < cLine) (ra : Rep prog w X h (.lst (ns.map .int)) va) (rb : Rep prog w X h (.lst (ms.map .int)) vb) :
    Op prog w A X h (compareOp .NotEq va vb) (.bool (!decide (ns = ms))) := .by fun s E Q hg hl hpos k => by
  apply ra.kLst; intro _ _ hx ha hr; apply rb.kLst; intro _ _ hx2 hb2 hr2
  exact ke_ne_ints (plain_isList (plain_tr ha fun o e => hg _ _ e)) (plain_isList (plain_tr hb2 fun o e => hg _ _ e)) hr.ints hr2.ints hu (k _ s.heap s.toks Grow.rfl (.bool _))
noncomputable def isIt (m : Int) : Value → Bool
  | .int n _ => n == m
  | _ => false
theorem any_isIt {ns : List Int} {vs : List Value} (r : IntsAre vs ns) (m : Int) : vs.toArray.any (isIt m) = ns.contains m := by
  induction r with
  | nil => simp
  | cons n t r ih =>
    rw [List.any_toArray] at ih ⊢
    rw [List.any_cons, ih, List.contains_cons, isIt]
    congr 1
    exact BEq.comm
theorem intsAre_shape {ns : List Int} {vs : List Value} (r : IntsAre vs ns) : ∀ y ∈ vs, ∃ n t, y = .int n t := by
  induction r with
  | nil => intro y hy; cases hy
  | cons n t r ih =>
    intro y hy
    rcases List.mem_cons.mp hy with rfl | hy
    · exact ⟨n, t, rfl⟩
    · exact ih y hy
theorem op_in_ints {m : Int} {ns : List Int} {va vb : Value} (ra : Rep prog w X h (.int m) va) (rb : Rep prog w X h (.lst (ns.map .int)) vb) : Op prog w A X h (compareOp .In va vb) (.bool (ns.contains m)) := .by fun s E Q hg hl hpos k => by
  apply ra.kInt; intro t; apply rb.kLst; intro _ _ hx hb hr
  refine in_listAt (isIt m) (plain_isList (plain_tr hb fun o e => hg _ _ e)) (fun y hy => ?_) ?_
  · obtain ⟨n, u, rfl⟩ := intsAre_shape hr.ints y (by simpa using hy)
    exact EqAt.int_int n u m t
  · rw [any_isIt hr.ints]; exact k _ s.heap s.toks Grow.rfl (.bool _)

theorem RepKV.valueAt {ds : List (Int × D)} {kvs : List (Int × Value)} (r : RepKV prog w X h ds kvs) {k : Int} {d : D} (hd : ds.lookup k = some d) : ∃ v, valueAt kvs k = some v ∧ Rep prog w X h d v := by
  induction ds generalizing kvs with
  | nil => cases hd
  | cons p ds ih =>
    obtain ⟨k', d'⟩ := p; apply r.kCons; intro v' vs a b
    rw [List.lookup_cons] at hd
    unfold PySem.valueAt
    rw [List.find?_cons]
    by_cases q : k = k'
    · subst q
      simp at hd
      subst hd
      exact ⟨v', by simp, a⟩
    · have q' : (k == k') = false := by simpa using q
      simp only [q'] at hd
      have : decide ((k', v').1 = k) = false := by simp; exact fun e => q e.symm
      simp only [this]
      exact ih b hd
theorem RepKV.valueAt_none {ds : List (Int × D)} {kvs : List (Int × Value)} (r : RepKV prog w X h ds kvs) {k : Int} (hd : ds.lookup k = none) : PySem.valueAt kvs k = none := by
  induction ds generalizing kvs with
  | nil => (first | apply r.kVal | apply r.kInt; intro _ | apply r.kFlt; intro _ _ | apply r.kBool | apply r.kNone | apply r.kNil | cases r); rfl
  | cons p ds ih =>
    obtain ⟨k', d'⟩ := p; apply r.kCons; intro v' vs a b
    rw [List.lookup_cons] at hd
    unfold PySem.valueAt
    rw [List.find?_cons]
    by_cases q : k = k'
    · subst q; simp at hd
    · have q' : (k == k') = false := by simpa using q
      simp only [q'] at hd
      have : decide ((k', v').1 = k) = false := by simp; exact fun e => q e.symm
      simp only [this]
      exact ih b hd
theorem sys_ne {a : Addr} (hsm : X sysModules) (hx : ¬ X a) : (a == sysModules) = false := by
  cases q : a == sysModules with
  | false => rfl
  | true => exact absurd (beq_iff_eq.mp q ▸ hsm) hx
theorem ev_item_dct {value slice : Expr} {pos : Pos} {ds : List (Int × D)} {k : Int} {d : D} (hv : Ev prog w A X env h value (.dct ds)) (hi : Ev prog w A X env h slice (.int k)) (hd : ds.lookup k = some d) (hp : plainSlice slice = true) :
    Ev prog w A X env h (.Subscript value slice pos) d := ev_item hv hi fun h' va vb g ra rb => .by fun s E Q hg hl hpos kk => by
  apply rb.kInt; intro t; apply ra.kDct; intro _ _ hx ha hs
  obtain ⟨v, e, r⟩ := hs.valueAt hd
  have hm := (dictOf_tr ha fun o e => hg _ _ e).mapOf
  exact tail_any hm.typeIs PySem.F.slot_dict_getitem.lookup (wpAny_getItem_of (intKind_is prog w k t) hm e (kk v s.heap (s.toks + 1) Grow.rfl (r.grow hg))) (subscripted_plain hp _ _)
theorem op_in_dct {m : Int} {ds : List (Int × D)} {va vb : Value} (hsm : X sysModules) (ra : Rep prog w X h (.int m) va) (rb : Rep prog w X h (.dct ds) vb) : Op prog w A X h (compareOp .In va vb) (.bool (ds.lookup m).isSome) := .by fun s E Q hg hl hpos k => by
  apply ra.kInt; intro t; apply rb.kDct; intro _ _ hx hb hr
  refine wpAny_in_of (intKind_is prog w m t) (sys_ne hsm hx) (dictOf_tr hb fun o e => hg _ _ e).mapOf ?_
  cases q : ds.lookup m with
  | none => rw [hr.valueAt_none q]; exact k _ s.heap (s.toks + 1) Grow.rfl (by rw [q]; exact .bool _)
  | some d =>
    obtain ⟨v, e, _⟩ := hr.valueAt q
    rw [e]; exact k _ s.heap (s.toks + 1) Grow.rfl (by rw [q]; exact .bool _)
theorem op_ne_dct {da db : List (Int × Int)} {va vb : Value} (hsm : X sysModules) (hu : A.units < cLine) (ra : Rep prog w X h (.dct (da.map fun q => (q.1, .int q.2))) va) (rb : Rep prog w X h (.dct (db.map fun q => (q.1, .int q.2))) vb)
    (hl : da.length = db.length) (hd : ∀ q ∈ da, db.lookup q.1 = some q.2) : Op prog w A X h (compareOp .NotEq va vb) (.bool false) := .by fun s E Q hg hlv hpos k => by
  apply ra.kDct; intro a ka hx ha hr; apply rb.kDct; intro b kb hx2 hb hr2
  have lookup_map : ∀ (db : List (Int × Int)) (k : Int) (v : Int), db.lookup k = some v → (db.map fun q => (q.1, D.int q.2)).lookup k = some (.int v) := by
    intro db
    induction db with
    | nil => intro k v e; cases e
    | cons p r ih =>
      intro k v e
      rw [List.lookup_cons] at e
      rw [List.map_cons, List.lookup_cons]
      split at e
      · cases e; rfl
      · exact ih k v e
  have hits : ∀ (da : List (Int × Int)) (ka : List (Int × Value)), (∀ q ∈ da, db.lookup q.1 = some q.2) → RepKV prog w X h (da.map fun q => (q.1, .int q.2)) ka → KeqHits A.in1 s kb ka true := by
    intro da
    induction da with
    | nil => intro ka _ r; (first | apply r.kVal | apply r.kInt; intro _ | apply r.kFlt; intro _ _ | apply r.kBool | apply r.kNone | apply r.kNil | cases r); exact .nil
    | cons p r ih =>
      intro ka hq rr
      apply rr.kCons; intro v' vs a b
      obtain ⟨u, hu1, hu2⟩ := hr2.valueAt (lookup_map db _ _ (hq p (.head _)))
      apply a.kInt; intro t1; obtain ⟨t2, rfl⟩ : ∃ t, u = .int p.2 t := (by apply hu2.kInt; intro t; exact ⟨t, rfl⟩)
      have e : EqAt A.in1 s (.int p.2 t1) (.int p.2 t2) true := by
        have := EqAt.int_int (A := A.in1) (s := s) p.2 t1 p.2 t2
        simpa using this
      have := KeqHits.hit hu1 e (ih vs (fun q hq' => hq q (.tail _ hq')) b)
      simpa using this
  have len : ka.length = kb.length := by rw [hr.length, hr2.length]; simpa using hl
  refine keq_ne (r := true) (sys_ne hsm hx) (sys_ne hsm hx2) (dictOf_tr ha fun o e => hg _ _ e) (dictOf_tr hb fun o e => hg _ _ e) hu (fun _ => hits da ka hd hr) ?_
  rw [show (!(ka.length == kb.length && true)) = false by simp [len]]
  exact k _ s.heap s.toks Grow.rfl (.bool _)

theorem dictOf_at {h : Heap} {a : Addr} {kvs : List (Int × Value)} (x : h.DictOf (intKind prog w) a kvs) : ∃ ep, h.DictAt (intKind prog w) a kvs ep := let ⟨o, es, ep, e, r⟩ := x; ⟨ep, o, es, e, r⟩
theorem RepKV.get {ds : List (Int × D)} {kvs : List (Int × Value)} (r : RepKV prog w X h ds kvs) {i : Nat} {k : Int} {d : D} (hd : ds[i]? = some (k, d)) : ∃ v, kvs[i]? = some (k, v) ∧ Rep prog w X h d v := by
  induction i generalizing ds kvs with
  | zero => cases r with
    | nil => cases hd
    | cons a b => cases hd; exact ⟨_, rfl, a⟩
  | succ i ih => cases r with
    | nil => cases hd
    | cons a b => exact ih b hd
theorem itb_keys {ds : List (Int × D)} {v : Value} (hsm : X sysModules) (hh : A.handled = none) (r : Rep prog w X h (.dct ds) v) : Itb prog w A X h v (ds.map fun q => .int q.1) := fun s E Q hg hl k => by
  apply r.kDct; intro a kvs hx ha hr
  obtain ⟨ep, hD⟩ := dictOf_at (dictOf_tr ha fun o e => hg _ _ e)
  refine wpAny_pyIter_dict (sys_ne hsm hx) hD ?_
  have hlen : kvs.length = (ds.map fun q => D.int q.1).length := by rw [hr.length, List.length_map]
  have hlt : a < s.heap.objs.size := by obtain ⟨o, es, e, _⟩ := hD; exact Heap.lt_size e
  have W := Walks.dictKeys (knd := intKind prog w) (A := A) hh s.heap.objs.size a (Nat.ne_of_lt hlt) kvs ep
  rw [hlen] at W ⊢
  refine k _ _ _ _ _ _ _ W ⟨⟨_, Heap.get?_push_size _ rfl, rfl, rfl⟩, hD.at' fun o e => Heap.get?_push_of_some _ e⟩ (Grow.push _) (fun b hb => ?_) (fun i g hg b hb => ?_) (fun b hb => ?_) (fun i v d hp hd => ?_)
  · rw [List.mem_singleton.mp hb]; exact next_none _
  · rw [List.mem_singleton.mp hb]; obtain ⟨o, e, _⟩ := hg.1; exact ⟨o, e⟩
  · rcases List.mem_cons.mp hb with rfl | hb
    · exact ⟨hl.fresh, _, Heap.get?_push_size _ rfl⟩
    · rw [List.mem_singleton.mp hb]; obtain ⟨o, es, e, _⟩ := hD; exact ⟨hx, o, Heap.get?_push_of_some _ e⟩
  · obtain ⟨kk, x, e, his⟩ := hp
    rw [List.getElem?_map] at hd
    cases q : ds[i]? with
    | none => rw [q] at hd; cases hd
    | some p =>
      rw [q] at hd
      cases hd
      obtain ⟨v', e', _⟩ := hr.get (k := p.1) (d := p.2) q
      rw [e'] at e
      cases e
      obtain ⟨t, rfl⟩ := Value.isInt_shape his
      exact .int _ _
end
end
end Mine

namespace Mine
section
open PySem PySem.W PySem.Calls PyProof.Rows PySem.SeqAt
set_option maxRecDepth 100000
set_option linter.unusedVariables false
set_option linter.unusedSimpArgs false
variable {prog : Program} {w : World}
noncomputable def imax3 (a b c : Int) : Int := if c > (if b > a then b else a) then c else (if b > a then b else a)
noncomputable def imin3 (a b c : Int) : Int := if c < (if b < a then b else a) then c else (if b < a then b else a)
section
variable {h₀ : Heap} {A : Around} {X Mu : Addr → Prop} {env : Env} {h : Heap}
noncomputable def ival3 (a b c : Int) : Nat → Int
  | 0 => a
  | 1 => b
  | _ => c
theorem iitems3 {a b c : Int} {t u x : Tok} : ∀ i v, ([Value.int a t, .int b u, .int c x].toArray : Array Value)[i]? = some v → ∃ t, v = Value.int (ival3 a b c i) t
  | 0, v, e => by cases e; exact ⟨_, rfl⟩
  | 1, v, e => by cases e; exact ⟨_, rfl⟩
  | 2, v, e => by cases e; exact ⟨_, rfl⟩
  | n + 3, v, e => by simp at e
theorem ibest3 (f : Int → Int → Bool) (val : Nat → Int) : val (argBest (fun i j => f (val i) (val j)) 2) = if f (val 2) (if f (val 1) (val 0) then val 1 else val 0) then val 2 else (if f (val 1) (val 0) then val 1 else val 0) := by
  simp only [argBest]
  by_cases h1 : f (val 1) (val 0) = true
  · simp only [h1, if_true]
    by_cases h2 : f (val 2) (val 1) = true <;> simp [h2]
  · simp only [h1, if_false]
    by_cases h2 : f (val 2) (val 0) = true <;> simp [h1, h2]
theorem op_maxL {a b c : Int} {vs : List Value} (hh : A.handled = none) (r : Reps prog w X h [.lst [.int a, .int b, .int c]] vs) : Op prog w A X h (call (.builtin "max") vs) (.int (imax3 a b c)) := .by fun s E Q hg hl hpos k => by
  apply r.kCons; intro _ _ r r'; apply r'.kNil; apply r.kLst; intro p ws hx ha hr
  revert ha; apply hr.kCons; intro _ _ r1 hr; apply hr.kCons; intro _ _ r2 hr; apply hr.kCons; intro _ _ r3 hr; apply hr.kNil; apply r1.kInt; intro t; apply r2.kInt; intro u; apply r3.kInt; intro x ha
  have hL := plain_isList (plain_tr ha fun o e => hg _ _ e)
  have hlt : p < s.heap.objs.size := by obtain ⟨o, e, _⟩ := hL; exact Heap.lt_size e
  refine call_max_walk (wpAny_pyIter_list hL ?_)
  refine ⟨_, [_, p], [_], _, _, _, _, rfl, Walks.list (A := A.in1) hh s.heap.objs.size p (Nat.ne_of_lt hlt) _, ⟨⟨_, Heap.get?_push_size _ rfl, rfl, rfl⟩, hL.at fun o e => Heap.get?_push_of_some _ e⟩, fun d hd => ?_, by simp, CmpOf.ints_gt (ival3 a b c) iitems3, fun v h' tk hP hk => ?_⟩
  · show d < (s.heap.push _).objs.size
    rw [Heap.size_push]
    rcases List.mem_cons.mp hd with rfl | hd
    · exact Nat.lt_succ_self _
    · rw [List.mem_singleton.mp hd]; exact Nat.lt_succ_of_lt hlt
  · obtain ⟨t', rfl⟩ := iitems3 _ _ hP
    have e2 : ival3 a b c (argBest (fun i j => decide (ival3 a b c i > ival3 a b c j)) 2) = imax3 a b c := by
      rw [ibest3 (fun x y => decide (x > y)) (ival3 a b c)]; simp [ival3, imax3]
    refine k _ h' tk (fun d o e => ?_) ?_
    · refine hk d o (fun hm => ?_) (Heap.get?_push_of_some _ e)
      have := Heap.lt_size e; rw [List.mem_singleton.mp hm] at this; exact Nat.lt_irrefl _ this
    · show Rep prog w X h' _ (Value.int (ival3 a b c (argBest (fun i j => decide (ival3 a b c i > ival3 a b c j)) 2)) t')
      rw [e2]; exact .int _ _
theorem op_minL {a b c : Int} {vs : List Value} (hh : A.handled = none) (r : Reps prog w X h [.lst [.int a, .int b, .int c]] vs) : Op prog w A X h (call (.builtin "min") vs) (.int (imin3 a b c)) := .by fun s E Q hg hl hpos k => by
  apply r.kCons; intro _ _ r r'; apply r'.kNil; apply r.kLst; intro p ws hx ha hr
  revert ha; apply hr.kCons; intro _ _ r1 hr; apply hr.kCons; intro _ _ r2 hr; apply hr.kCons; intro _ _ r3 hr; apply hr.kNil; apply r1.kInt; intro t; apply r2.kInt; intro u; apply r3.kInt; intro x ha
  have hL := plain_isList (plain_tr ha fun o e => hg _ _ e)
  have hlt : p < s.heap.objs.size := by obtain ⟨o, e, _⟩ := hL; exact Heap.lt_size e
  refine call_min_walk (wpAny_pyIter_list hL ?_)
  refine ⟨_, [_, p], [_], _, _, _, _, rfl, Walks.list (A := A.in1) hh s.heap.objs.size p (Nat.ne_of_lt hlt) _, ⟨⟨_, Heap.get?_push_size _ rfl, rfl, rfl⟩, hL.at fun o e => Heap.get?_push_of_some _ e⟩, fun d hd => ?_, by simp, CmpOf.ints_lt (ival3 a b c) iitems3, fun v h' tk hP hk => ?_⟩
  · show d < (s.heap.push _).objs.size
    rw [Heap.size_push]
    rcases List.mem_cons.mp hd with rfl | hd
    · exact Nat.lt_succ_self _
    · rw [List.mem_singleton.mp hd]; exact Nat.lt_succ_of_lt hlt
  · obtain ⟨t', rfl⟩ := iitems3 _ _ hP
    have e2 : ival3 a b c (argBest (fun i j => decide (ival3 a b c i < ival3 a b c j)) 2) = imin3 a b c := by
      rw [ibest3 (fun x y => decide (x < y)) (ival3 a b c)]; simp [ival3, imin3]
    refine k _ h' tk (fun d o e => ?_) ?_
    · refine hk d o (fun hm => ?_) (Heap.get?_push_of_some _ e)
      have := Heap.lt_size e; rw [List.mem_singleton.mp hm] at this; exact Nat.lt_irrefl _ this
    · show Rep prog w X h' _ (Value.int (ival3 a b c (argBest (fun i j => decide (ival3 a b c i < ival3 a b c j)) 2)) t')
      rw [e2]; exact .int _ _
end
section
variable {h₀ : Heap} {A : Around} {X Mu : Addr → Prop} {env : Env} {s₀ s : Shared} {l : List (Str × D)} {ml : List (Addr × D)} {mg mb : Str → Option Value} {h : Heap} {e e1 e2 e3 : Expr} {p pos : Pos} {a b c : Int}
theorem ev_maxL (S : St prog w h₀ X Mu env s₀ s l ml) (G : Glo mg mb h₀) (F : FE env) (hh : A.handled = none) (hx : env.kindOf "max" = some .globalImplicit) (he : Ev prog w A X env s.heap e (.lst [.int a, .int b, .int c]))
    (hst : starEach [e] env = (false, eval e env) :: starEach [] env) : Ev prog w A X env s.heap (.Call (.Name "max" p) [e] [] pos) (.int (imax3 a b c)) :=
  ev_callB (ev_bi G F S.base hx (by rfl) (by rfl)) (evs_cons he evs_nil hst) (fun h' vs g r => op_maxL hh r) rfl hst rfl
theorem ev_minL (S : St prog w h₀ X Mu env s₀ s l ml) (G : Glo mg mb h₀) (F : FE env) (hh : A.handled = none) (hx : env.kindOf "min" = some .globalImplicit) (he : Ev prog w A X env s.heap e (.lst [.int a, .int b, .int c]))
    (hst : starEach [e] env = (false, eval e env) :: starEach [] env) : Ev prog w A X env s.heap (.Call (.Name "min" p) [e] [] pos) (.int (imin3 a b c)) :=
  ev_callB (ev_bi G F S.base hx (by rfl) (by rfl)) (evs_cons he evs_nil hst) (fun h' vs g r => op_minL hh r) rfl hst rfl
end
end
end Mine

namespace Mine
section
open PySem PySem.W PySem.Calls PyProof.Rows
set_option maxRecDepth 100000
set_option linter.unusedVariables false
variable {prog : Program} {w : World}
section
variable {A : Around} {X : Addr → Prop} {h : Heap} {env : Env}

structure Tn (prog : Program) (w : World) (A : Around) (X : Addr → Prop) (hs : Heap) (I : Addr) (target : Expr) (fp wr : List Addr) (ds : List D) (Sx : Nat → Heap → Prop) : Prop where
  sub : ∀ b ∈ wr, b ∈ fp
  frame : ∀ i h h', Sx i h → (∀ b ∈ fp, ∀ o, h.get? b = some o → h'.get? b = some o) → Sx i h'
  item : ∀ i d (s : Shared) (Y : Addr → Prop) (N : Shared → Prop) (Q : Value → Shared → Prop) (E : Value → Shared → Prop), ds[i]? = some d → Sx i s.heap → (∀ b o, ¬ X b → hs.get? b = some o → s.heap.get? b = some o) →
    (∀ b o, ¬ X b → hs.get? b = some o → ¬ Y b) → Liv Y s.heap → 0 < s.toks →
    (∀ v h' tk, Rep prog w Y h' d v → Sx (i + 1) h' → (∀ b o, b ∉ wr → s.heap.get? b = some o → h'.get? b = some o) → 0 < tk → Q v { s with heap := h', toks := tk }) →
    wpAny (model prog w) A (pyNext (.ref I)) (fun r s₁ => match r with | none => N s₁ | some v => wpAny (model prog w) A (letOwnedTupleGo target (.ref I) v) (fun _ s₂ => Q v s₂) E s₁) E s
  done : ∀ (s : Shared) (Q : Option Value → Shared → Prop) (E : Value → Shared → Prop), Sx ds.length s.heap →
    (∀ h' tk, (∀ b o, b ∉ wr → s.heap.get? b = some o → h'.get? b = some o) → Q none { s with heap := h', toks := tk }) → wpAny (model prog w) A (pyNext (.ref I)) Q E s

noncomputable def Slf (prog : Program) (w : World) (A : Around) (I : Addr) (Sx : Nat → Heap → Prop) : Prop := ∀ i (s : Shared) (Q : Value → Shared → Prop) (E : Value → Shared → Prop), Sx i s.heap → Q (.ref I) s → wpAny (model prog w) A (pyIter (.ref I)) Q E s

noncomputable def Itn (prog : Program) (w : World) (A : Around) (X : Addr → Prop) (h : Heap) (v : Value) (target : Expr) (c : Bool) (ds : List D) : Prop :=
  ∀ (s : Shared) (E : Value → Shared → Prop) (Q : Value → Shared → Prop), Grow h s.heap → Liv X s.heap → 0 < s.toks →
    (∀ I fp wr Sx h' tk, Tn prog w A X s.heap I target fp wr ds Sx → Sx 0 h' → Grow s.heap h' → (∀ b ∈ wr, s.heap.get? b = none) → (∀ i g, Sx i g → ∀ b ∈ wr, ∃ o, g.get? b = some o) → (∀ b ∈ fp, ¬ X b ∧ ∃ o, h'.get? b = some o) →
      0 < tk → (c = true → Slf prog w A I Sx) → Q (.ref I) { s with heap := h', toks := tk }) → wpAny (model prog w) A (pyIter v) Q E s

theorem tr_wr {X : Addr → Prop} {hs h' : Heap} {wr : List Addr} (hwr : ∀ b ∈ wr, hs.get? b = none) (K : ∀ b o, ¬ X b → hs.get? b = some o → h'.get? b = some o) : Tr X (fun b => X b ∨ b ∈ wr) hs h' := fun b o n e =>
  ⟨fun q => q.elim n fun q => (by rw [hwr b q] at e; cases e), K b o n e⟩

theorem itn_name {v : Value} {ds : List D} {x : Str} {px : Pos} (i : Itb prog w A X h v ds) : Itn prog w A X h v (.Name x px) true ds := fun s E Q hg hl hpos k => by
  refine wpAny_with_toks (n := 1) hpos ?_
  refine i _ _ _ hg hl fun I fp wr P Sx h' tk W hst g hwr hlv hfp hP hp => ?_
  have hp : 0 < tk := hp
  refine k I fp wr Sx h' tk ⟨W.sub, W.frame, fun i d s' Y N' Q' E' hd hsx K hY lv hpos' k' => ?_, W.done⟩ hst g hwr hlv hfp hp fun _ => W.self
  have hi : i < ds.length := by
    by_cases q : i < ds.length
    · exact q
    · rw [List.getElem?_eq_none (by lia)] at hd; cases hd
  refine wpAny_with_toks (n := 1) hpos' ?_
  refine W.item i s' _ _ hi hsx fun v h2 t2 hPv hst2 kp hp2 => ?_
  have hp2 : 0 < t2 := hp2
  show wpAny _ _ _ _ _ _
  have r := (hP i v d hPv hd).tr (fun b o n e => ⟨hY b o n e, kp b o (fun q => by rw [hwr b q] at e; cases e) (K b o n e)⟩)
  exact wpAny_pure (k' v h2 t2 r hst2 kp hp2)

theorem itn_lst {v : Value} {ds : List D} {es : List Expr} {kk : Nat} {px : Pos} (hh : A.handled = none) (hd : ∀ d ∈ ds, ∃ l, d = .tup l) (r : Rep prog w X h (.lst ds) v) : Itn prog w A X h v (.Tuple es kk px) true ds := fun s E Q hg hl hpos k => by
  apply r.kLst; intro a vs hx ha hr
  have hL := plain_isList (plain_tr ha fun o e => hg _ _ e)
  refine wpAny_with_toks (n := 1) hpos ?_
  refine wpAny_pyIter_list hL fun hp => ?_
  have hlen : vs.toArray.size = ds.length := by rw [List.size_toArray, hr.length]
  have hlt : a < s.heap.objs.size := by obtain ⟨o, e, _⟩ := hL; exact Heap.lt_size e
  have W := Walks.list (prog := prog) (w := w) hh s.heap.objs.size a (Nat.ne_of_lt hlt) vs.toArray
  rw [hlen] at W
  refine k s.heap.objs.size _ _ _ _ _ ⟨W.sub, W.frame, fun i d s' Y N' Q' E' hd' hsx K hY lv hpos' k' => ?_, W.done⟩ ⟨⟨_, Heap.get?_push_size _ rfl, rfl, rfl⟩, hL.at fun o e => Heap.get?_push_of_some _ e⟩ (Grow.push _) (fun b hb => ?_) (fun i g hg b hb => ?_) (fun b hb => ?_) hpos fun _ => W.self
  · have hi : i < ds.length := by
      by_cases q : i < ds.length
      · exact q
      · rw [List.getElem?_eq_none (by lia)] at hd'; cases hd'
    refine wpAny_with_toks (n := 1) hpos' ?_
    refine W.item i s' _ _ hi hsx fun v h2 t2 hPv hst2 kp hp2 => ?_
    have hp2 : 0 < t2 := hp2
    show wpAny _ _ _ _ _ _
    obtain ⟨v', e, r⟩ := hr.get hd'
    have e' : vs[i]? = some v := by simpa using hPv
    rw [e] at e'; cases e'
    have hwr : ∀ b ∈ [s.heap.objs.size], s.heap.get? b = none := fun b hb => by rw [List.mem_singleton.mp hb]; exact next_none _
    have r := (r.grow hg).tr (fun b o n e => ⟨hY b o n e, kp b o (fun q => by rw [hwr b q] at e; cases e) (K b o n e)⟩)
    obtain ⟨l, rfl⟩ := hd d (List.mem_of_getElem? hd')
    apply r.kTup; intro _ _ hxx haa hss; exact wpAny_letOwnedTupleGo_listiter hst2.1 (k' _ h2 t2 (.tup hxx haa hss) hst2 kp hp2)
  · rw [List.mem_singleton.mp hb]; exact next_none _
  · rw [List.mem_singleton.mp hb]; obtain ⟨o, e, _⟩ := hg.1; exact ⟨o, e⟩
  · rcases List.mem_cons.mp hb with rfl | hb
    · exact ⟨hl.fresh, _, Heap.get?_push_size _ rfl⟩
    · rw [List.mem_singleton.mp hb]; obtain ⟨o, e, _⟩ := hL; exact ⟨hx, o, Heap.get?_push_of_some _ e⟩

theorem itn_items {v d : Addr} {ds : List (Int × D)} {kvs : List (Int × Value)} {es : List Expr} {kk : Nat} {px : Pos} (hh : A.handled = none) (hv : h.IsItemsView v d) (hx : ¬ X d) (ha : h.DictOf (intKind prog w) d kvs) (hr : RepKV prog w X h ds kvs) :
    Itn prog w A X h (.ref v) (.Tuple es kk px) false (ds.map fun q => .tup [.int q.1, q.2]) := fun s E Q hg hl hpos k => by
  obtain ⟨ep, hD⟩ := dictOf_at (dictOf_tr ha fun o e => hg _ _ e)
  have hv' : s.heap.IsItemsView v d := let ⟨o, e, r⟩ := hv; ⟨o, hg _ _ e, r⟩
  have hlt : d < s.heap.objs.size := by obtain ⟨o, es, e, _⟩ := hD; exact Heap.lt_size e
  have hlen : kvs.length = (ds.map fun q => D.tup [.int q.1, q.2]).length := by rw [hr.length, List.length_map]
  refine wpAny_pyIter_items hv' hD ?_
  refine k s.heap.objs.size [s.heap.objs.size, d] [s.heap.objs.size] (fun i h => (∃ ok ov, IsItemIter h s.heap.objs.size d i kvs.length ep ok ov) ∧ h.DictAt (intKind prog w) d kvs ep) _ _
    ⟨fun b hb => ?_, fun i h1 h2 st kp => ⟨let ⟨ok, ov, e⟩ := st.1; ⟨ok, ov, kp _ (by simp) _ e⟩, st.2.at' fun o e => kp _ (by simp) _ e⟩, fun i q s' Y N' Q' E' hd' hsx K hY lv hpos' k' => ?_, fun s' Q' E' st k' => ?_⟩
    ⟨⟨_, _, Heap.get?_push_size _ rfl⟩, hD.at' fun o e => Heap.get?_push_of_some _ e⟩ (Grow.push _) (fun b hb => ?_) (fun i g hg b hb => ?_) (fun b hb => ?_) hpos (fun z => by cases z)
  · rw [List.mem_singleton.mp hb]; simp
  · obtain ⟨⟨ok, ov, it⟩, hD'⟩ := hsx
    rw [List.getElem?_map] at hd'
    cases q0 : ds[i]? with
    | none => rw [q0] at hd'; cases hd'
    | some p =>
      rw [q0] at hd'
      cases hd'
      obtain ⟨v', e', r'⟩ := hr.get (k := p.1) (d := p.2) q0
      refine wpAny_with_toks (n := 1) hpos' ?_
      refine wpAny_pyNext_items_item it hD' e' fun key h2 his hout htup hsz kp hp2 => ?_
      show wpAny _ _ _ _ _ _
      refine wpAny_letOwnedTupleGo_items hout fun h3 hit3 hs3 => ?_
      have hwr : ∀ b ∈ [s.heap.objs.size], s.heap.get? b = none := fun b hb => by rw [List.mem_singleton.mp hb]; exact next_none _
      have kp3 : ∀ b o, b ∉ [s.heap.objs.size] → s'.heap.get? b = some o → h3.get? b = some o := fun b o n e => (hs3.2 b fun z => n (by simp [z])).trans (kp b o (fun z => n (by simp [z])) e)
      have hne : s'.heap.objs.size ≠ s.heap.objs.size := fun z => by
        have := Heap.lt_size it
        exact absurd (z ▸ this) (Nat.lt_irrefl _)
      have fr : ¬ Y s'.heap.objs.size := lv.fresh
      refine k' _ h3 _ (.tup (vs := [key, v']) fr ⟨_, (hs3.2 _ hne).trans htup, rfl, _, rfl⟩ (.cons ?_ (.cons ?_ .nil))) ⟨⟨_, _, hit3⟩, hD'.at' fun o e => kp3 _ o (fun z => by rw [List.mem_singleton.mp z] at hlt; exact Nat.lt_irrefl _ hlt) e⟩ kp3 hpos'
      · obtain ⟨t, rfl⟩ := Value.isInt_shape his
        exact .int _ _
      · exact (r'.grow hg).tr (fun b o n e => ⟨hY b o n e, kp3 b o (fun q => by rw [hwr b q] at e; cases e) (K b o n e)⟩)
  · obtain ⟨⟨ok, ov, it⟩, hD'⟩ := st
    rw [← hlen] at it
    exact wpAny_pyNext_items_end hh it hD' (by simp) fun h' he => k' h' _ fun b o n e => he b o (fun z => n (by simp [z])) e
  · rw [List.mem_singleton.mp hb]; exact next_none _
  · rw [List.mem_singleton.mp hb]; obtain ⟨⟨_, _, e⟩, _⟩ := hg; exact ⟨_, e⟩
  · rcases List.mem_cons.mp hb with rfl | hb
    · exact ⟨hl.fresh, _, Heap.get?_push_size _ rfl⟩
    · rw [List.mem_singleton.mp hb]; obtain ⟨o, es, e, _⟩ := hD; exact ⟨hx, o, Heap.get?_push_of_some _ e⟩
end
end
end Mine

namespace Mine
section
open PySem PySem.W PySem.Calls PyProof.Rows
set_option maxRecDepth 100000
set_option linter.unusedVariables false
variable {prog : Program} {w : World}
section
variable {h₀ : Heap} {A : Around} {X X' Mu : Addr → Prop} {env : Env} {s₀ s : Shared} {l : List (Str × D)} {ml : List (Addr × D)} {E : Value → Shared → Prop} {rest : List Stmt} {pos : Pos} {Q : Flow → Shared → Prop}

inductive Tgt (Mu : Addr → Prop) (env : Env) : Expr → D → List (Str × D) → Prop
  | name {x : Str} {p : Pos} {d : D} (hx : env.kindOf x = some .local ∨ (env.kindOf x = some .cell ∧ ∃ c, env.cells.lookup x = some c ∧ Mu c)) : Tgt Mu env (.Name x p) d [(x, d)]
  | tup {es : List Expr} {k : Nat} {p : Pos} {ds : List D} {b : List (Str × D)} (xs : List Str) (hes : es.map (fun e => match e with | .Name x _ => some x | _ => none) = xs.map some)
      (hx : ∀ x ∈ xs, env.kindOf x = some .local ∨ (env.kindOf x = some .cell ∧ ∃ c, env.cells.lookup x = some c ∧ Mu c)) (hl : ds.length = xs.length) (hb : b = (xs.zip ds).reverse) : Tgt Mu env (.Tuple es k p) (.tup ds) b

theorem st_tgt {target : Expr} {d : D} {b : List (Str × D)} {v : Value} {Q : Unit → Shared → Prop} (S : St prog w h₀ X Mu env s₀ s l ml) (hh : A.handled = none) (hk : env.scope.kind = .function) (T : Tgt Mu env target d b) (r : Rep prog w X s.heap d v)
    (k : ∀ s', St prog w h₀ X Mu env s₀ s' (b ++ l) ml → Q () s') : wpAny (model prog w) A (assign target env v) Q E s := by
  cases T with
  | name hx => exact wpAny_assign_Name (st_name S hk hx r k)
  | tup xs hes hx hl hb =>
    subst hb
    apply r.kTup; intro a vs hX ha hr
    obtain ⟨q1, q2⟩ := assignEach_length (env := env) (fun _ => trivial) hes
    refine wpAny_assign_Tuple hh ha (by rw [q1, List.size_toArray, hr.length, hl]) q2 fun h2 hext => ?_
    have g2 : Grow s.heap h2 := fun b o e => hext b o (fun z => by rw [z] at e; rw [next_none] at e; cases e) e
    have S2 := S.grown (tk := s.toks) g2 S.tok
    exact st_names hk S2 hes hx (hr.grow g2) hl k

theorem x_forT {α : Type} {us : List α} {enc : α → D} {bnd : α → List (Str × D)} {c : Bool} {target iter : Expr} {body : List Stmt} (S : St prog w h₀ X Mu env s₀ s l ml) (hh : A.handled = none) (hk : env.scope.kind = .function)
    (hT : ∀ u ∈ us, Tgt Mu env target (enc u) (bnd u))
    (hit : Go prog w A X s.heap (eval iter env) fun h' v => Itn prog w A X h' v target c (us.map enc))
    (J : Nat → List (Str × D) → List (Addr × D) → Prop) (h0 : J 0 l ml)
    (turn : ∀ (X' : Addr → Prop) (i : Nat) (u : α) (l₁ : List (Str × D)) (ml₁ : List (Addr × D)) (s₁ : Shared) (E : Value → Shared → Prop), (∀ b, X b → X' b) → us[i]? = some u → J i l₁ ml₁ → St prog w h₀ X' Mu env s₁ s₁ (bnd u ++ l₁) ml₁ →
      wpAny (model prog w) A (execs body env) (fun f s₂ => (f = .next ∨ f = .cont) ∧ ∃ l₂ ml₂, J (i + 1) l₂ ml₂ ∧ St prog w h₀ X' Mu env s₁ s₂ l₂ ml₂) E s₁)
    (done : ∀ s' l' ml', J us.length l' ml' → St prog w h₀ X Mu env s₀ s' l' ml' → wpAny (model prog w) A (execs rest env) Q E s')
    (hs : ∀ x, foldedSetIterable iter env x = pure x := by intro _; rfl) :
    wpAny (model prog w) A (execs (.For target iter body [] pos :: rest) env) Q E s := by
  refine wpAny_execs_cons (wpAny_For (hit.use Grow.rfl S.liv (fun v h1 t1 g1 itb hpos1 => ?_) S.tok) hs)
  refine itb _ _ _ Grow.rfl (S.liv.grow g1) hpos1 fun I fp wr Sx h2 t2 W hst g2 hwr hlv hfp hpos2 _ => ?_
  have S1 := S.grown (tk := t1) g1
  have S2 : St prog w h₀ (fun b => X b ∨ b ∈ wr) Mu env s₀ { s with heap := h2, toks := t2 } l ml := S1.enterX (tk := t2) g2 hwr (hlv 0 h2 hst)
  have hwM : ∀ b ∈ wr, (X b ∨ b ∈ wr) ∧ ¬ Mu b ∧ s₀.heap.get? b = none := fun b hb => by
    have nM : ¬ Mu b := fun m => (hfp b (W.sub b hb)).1 (S.mx b m)
    refine ⟨.inr hb, nM, ?_⟩
    cases q : s₀.heap.get? b with
    | none => rfl
    | some o => have := S1.keep b o nM q; rw [hwr b hb] at this; cases this
  have hwb : ∀ b ∈ wr, h₀.get? b = none := fun b hb => by
    cases q : h₀.get? b with
    | none => rfl
    | some o => have := S1.base b o q; rw [hwr b hb] at this; cases this
  have hwc : ∀ x c, env.cells.lookup x = some c → c ∉ wr := fun x c hx hm => by
    obtain ⟨v, o, e, _⟩ := (S1.cells x c hx).1
    rw [hwr c hm] at e; cases e
  refine codeAny_forLoop_any (fun n s' => ∃ i l' ml', i + n = us.length ∧ J i l' ml' ∧ St prog w h₀ (fun b => X b ∨ b ∈ wr) Mu env s₀ s' l' ml' ∧ Sx i s'.heap ∧ ∀ b o, ¬ X b → h1.get? b = some o → s'.heap.get? b = some o) ?_ us.length ⟨0, l, ml, by lia, h0, S2, hst, fun b o _ e => g2 b o e⟩
  rintro n s' ⟨i, l', ml', hn, hJ, S', hst', K⟩
  have K' : ∀ {h' : Heap}, (∀ b o, b ∉ wr → s'.heap.get? b = some o → h'.get? b = some o) → ∀ b o, ¬ X b → h1.get? b = some o → h'.get? b = some o := fun kp b o n e => kp b o (fun q => by rw [show h1.get? b = none from hwr b q] at e; cases e) (K b o n e)
  by_cases hi : i < us.length
  · obtain ⟨u, hu⟩ : ∃ u, us[i]? = some u := ⟨us[i], by simp [hi]⟩
    refine W.item i (enc u) s' _ _ _ _ (by rw [List.getElem?_map, hu]; rfl) hst' K (fun b o n e q => q.elim n fun q => by rw [show h1.get? b = none from hwr b q] at e; cases e) S'.liv S'.tok fun v h' tk R0 hst2 kp hpos3 => ?_
    have S3 : St prog w h₀ (fun b => X b ∨ b ∈ wr) Mu env s₀ { s' with heap := h', toks := tk } l' ml' := S'.walked (tk := tk) kp hwM hwc (hlv _ _ hst2) hwb
    refine st_tgt S3.refl hh hk (hT u (List.mem_of_getElem? hu)) R0 fun s₁ S4 => ?_
    refine wpAny_mono (turn _ i u l' ml' s₁ _ (fun b hb => .inl hb) hu hJ S4.refl) (fun f s₂ hf => ?_) fun _ _ e => e
    obtain ⟨hf, l₂, ml₂, hJ2, S5⟩ := hf
    have fin : ∃ m, m < n ∧ ∃ i l' ml', i + m = us.length ∧ J i l' ml' ∧ St prog w h₀ (fun b => X b ∨ b ∈ wr) Mu env s₀ s₂ l' ml' ∧ Sx i s₂.heap ∧ ∀ b o, ¬ X b → h1.get? b = some o → s₂.heap.get? b = some o := by
      refine ⟨n - 1, by lia, i + 1, l₂, ml₂, by lia, hJ2, (S3.trans S4).trans S5, ?_, fun b o nx e => S5.keep b o (fun m => nx (S.mx b m)) (S4.keep b o (fun m => nx (S.mx b m)) (K' kp b o nx e))⟩
      exact W.frame _ _ _ hst2 fun b hb o e => S5.keep b o (fun m => (hfp b hb).1 (S.mx b m)) (S4.keep b o (fun m => (hfp b hb).1 (S.mx b m)) e)
    rcases hf with rfl | rfl
    · exact fin
    · exact fin
  · have hn0 : i = us.length := by lia
    subst hn0
    refine wpAny_with_toks (n := 1) S'.tok ?_
    refine W.done s' _ _ (by rw [List.length_map]; exact hst') fun h' tk kp hpos3 => ?_
    have hpos3 : 0 < tk := hpos3
    refine wpAny_execs_nil ?_
    refine done _ l' ml' hJ ?_
    have : St prog w h₀ X Mu env s₀ { s' with heap := h', toks := tk } l' ml' := by
      refine S'.under (fun b o n e => ⟨fun q => n (.inl q), kp b o (fun q => n (.inr q)) e⟩) (fun b o m e => kp b o (fun q => (hwM b q).2.1 m) e) (fun x c o hx e => kp c o (hwc x c hx) e) (fun b o n e => kp b o (fun q => ?_) (S'.keep b o n e)) S.mx ?_ (fun b o e => kp b o (fun q => by rw [hwb b q] at e; cases e) (S'.base b o e))
      · rw [(hwM b q).2.2] at e; cases e
      · refine S'.liv.tr (fun o e => ⟨o, kp _ o (fun q => ?_) e⟩) (fun b hb => .inl (.inl hb)) fun b _ hb o e => ⟨o, kp b o (fun q => (hfp b (W.sub b q)).1 hb) e⟩
        obtain ⟨o', e'⟩ := S1.liv.1
        rw [hwr _ q] at e'; cases e'
    exact this

theorem it_items {o : Expr} {apos pos : Pos} {ds : List (Int × D)} {es : List Expr} {kk : Nat} {px : Pos} {h : Heap} (hsm : X sysModules) (hh : A.handled = none) (ho : Ev prog w A X env h o (.dct ds))
    (hbase : attributeBase o "items" env (eval o env) = eval o env := by rfl) (hline : (apos.endLine == pos.line) = true := by rfl) :
    Go prog w A X h (eval (.Call (.Attribute o "items" apos) [] [] pos) env) fun h' v => Itn prog w A X h' v (.Tuple es kk px) false (ds.map fun q => .tup [.int q.1, q.2]) := .by fun s E Q hg hl hpos k => by
  refine wpAny_Call_method0_late hbase hline (ho.use hg hl fun v h1 t1 g1 r1 hp1 => ?_)
  apply r1.kDct; intro d kvs hx ha hr
  refine ⟨"dict", "dict.items", F.plainAttrs_dict, F.slot_dict_items, F.type_dict_items, ha.typeIs, ?_, ?_⟩
  · exact ha.mapOf.noDict
  refine method_meetsIn F.slot_dict_items F.entry_dict_items rfl (PySem.evalArgs_none ⟨rfl, ha.typeIs, F.args_dict_items_1 _, _, meets_dict_items (intKind prog w) d (sys_ne hsm hx), ⟨kvs, ha⟩, ?_⟩)
  refine k _ _ _ (g1.trans (Grow.push _)) ?_
  exact itn_items hh ⟨_, Heap.get?_push_size _ rfl, rfl, rfl⟩ hx (dictOf_tr ha fun o e => Heap.get?_push_of_some _ e) (hr.grow (Grow.push _))
theorem it_values {o : Expr} {apos pos : Pos} {ds : List (Int × D)} {h : Heap} (hsm : X sysModules) (hh : A.handled = none) (ho : Ev prog w A X env h o (.dct ds))
    (hbase : attributeBase o "values" env (eval o env) = eval o env := by rfl) (hline : (apos.endLine == pos.line) = true := by rfl) :
    Go prog w A X h (eval (.Call (.Attribute o "values" apos) [] [] pos) env) fun h' v => Itb prog w A X h' v (ds.map fun q => q.2) := .by fun s E Q hg hl hpos k => by
  refine wpAny_Call_method0_late hbase hline (ho.use hg hl fun v h1 t1 g1 r1 hp1 => ?_)
  apply r1.kDct; intro d kvs hx ha hr
  refine ⟨"dict", "dict.values", F.plainAttrs_dict, F.slot_dict_values, F.type_dict_values, ha.typeIs, ?_, ?_⟩
  · exact ha.mapOf.noDict
  refine method_meetsIn F.slot_dict_values F.entry_dict_values rfl (PySem.evalArgs_none ⟨rfl, ha.typeIs, F.args_dict_values_1 _, _, meets_dict_values (intKind prog w) d (sys_ne hsm hx), ⟨kvs, ha⟩, ?_⟩)
  refine k _ _ _ (g1.trans (Grow.push _)) ?_
  intro s2 E2 Q2 hg2 hl2 k2
  have hv : s2.heap.IsValuesView h1.objs.size d := ⟨_, hg2 _ _ (Heap.get?_push_size _ rfl), rfl, rfl⟩
  have ha2 := dictOf_tr ha fun o e => hg2 _ _ (Heap.get?_push_of_some _ e)
  obtain ⟨ep, hD⟩ := dictOf_at ha2
  refine wpAny_pyIter_values hv hD ?_
  have hlen : kvs.length = (ds.map fun q => q.2).length := by rw [hr.length, List.length_map]
  have hlt : d < s2.heap.objs.size := by obtain ⟨o, es, e, _⟩ := hD; exact Heap.lt_size e
  have W := Walks.dictValues (knd := intKind prog w) (A := A) hh s2.heap.objs.size d (Nat.ne_of_lt hlt) kvs ep
  rw [hlen] at W ⊢
  refine k2 _ _ _ _ _ _ _ W ⟨⟨_, Heap.get?_push_size _ rfl, rfl, rfl⟩, hD.at' fun o e => Heap.get?_push_of_some _ e⟩ (Grow.push _) (fun b hb => ?_) (fun i g hg b hb => ?_) (fun b hb => ?_) (fun i v d hp hd => ?_)
  · rw [List.mem_singleton.mp hb]; exact next_none _
  · rw [List.mem_singleton.mp hb]; obtain ⟨o, e, _⟩ := hg.1; exact ⟨o, e⟩
  · rcases List.mem_cons.mp hb with rfl | hb
    · exact ⟨hl2.fresh, _, Heap.get?_push_size _ rfl⟩
    · rw [List.mem_singleton.mp hb]; obtain ⟨o, es, e, _⟩ := hD; exact ⟨hx, o, Heap.get?_push_of_some _ e⟩
  · obtain ⟨kk, e⟩ := hp
    rw [List.getElem?_map] at hd
    cases q : ds[i]? with
    | none => rw [q] at hd; cases hd
    | some p =>
      rw [q] at hd
      cases hd
      obtain ⟨v', e', r'⟩ := hr.get (k := p.1) (d := p.2) q
      rw [e'] at e
      cases e
      exact r'.grow ((Grow.push _).trans hg2)
end
end
end Mine

namespace Mine
section
open PySem PySem.W PySem.Calls PyProof.Rows
set_option maxRecDepth 100000
set_option linter.unusedVariables false
variable {prog : Program} {w : World}

noncomputable def ownL (own : Option Str) (n : Addr) (cl : List (Str × Addr)) : List (Str × Addr) := match own with | none => cl | some x => (x, n) :: cl
noncomputable def ownH (own : Option Str) (h : Heap) : Heap := match own with | none => h | some _ => h.push { cls := .type "cell", data := .cell none }
noncomputable def cMu (own : Option Str) (C D : Addr) : Addr → Prop := fun b => b = C ∨ b = D ∨ (own.isSome = true ∧ b = C + 1)
noncomputable def cEnv (scope : Scope) (cl : List (Str × Addr)) (own : Option Str) (C : Addr) (env : Env) : Env := compEnvC scope (ownL own (C + 1) cl) C env

section
variable {A : Around} {E : Value → Shared → Prop} {s : Shared} {env : Env}
theorem comp_env {scope : Scope} {cl : List (Str × Addr)} {own : Option Str} {M : Model} {Q : Env → Shared → Prop} (hcf : ∀ n, cellsFrom n scope.names cl = ownL own n cl) (hpc : ∀ h, pushCells h scope.names = ownH own h)
    (hQ : ∀ h', h'.Ns s.heap.objs.size (fun _ => none) → Grow s.heap h' → (own.isSome = true → h'.IsCell (s.heap.objs.size + 1) none) → Q (newEnv scope s.heap.objs.size env.globals (ownL own (s.heap.objs.size + 1) cl) env.qual none .none (some env) builtinsNs) { s with heap := h' }) :
    wpAny M A (newFunctionEnv scope env.globals cl [] env.qual none .none (some env)) Q E s := by
  simp only [newFunctionEnv, Option.isSome_some, if_true]
  refine wpAny_bind (wpAny_alloc ?_)
  refine wpAny_bind (wpAny_layCells _ (fun name kind cells => by cases hkc : kind == NameKind.cell <;> simp [hkc]) _ _ _ _ ?_)
  rw [show ({ s with heap := s.heap.push { cls := .type "dict", data := .dict #[] } } : Shared).heap.objs.size = s.heap.objs.size + 1 from Heap.size_push ..]
  rw [hcf, hpc]
  rw [List.forIn_nil]
  have g1 : Grow (s.heap.push { cls := .type "dict", data := .dict #[] }) (ownH own (s.heap.push { cls := .type "dict", data := .dict #[] })) := by
    cases own with
    | none => exact Grow.rfl
    | some x => exact Grow.push _
  refine wpAny_bind (wpAny_pure (wpAny_pure (hQ _ ((Heap.Ns.new s.heap (.type "dict")).keeps g1) ((Grow.push _).trans g1) fun ho => ?_)))
  cases own with
  | none => cases ho
  | some x => exact ⟨_, by rw [← Heap.size_push s.heap { cls := .type "dict", data := .dict #[] }]; exact Heap.get?_push_size _ rfl, rfl⟩

variable {R : Result → Shared → Prop}
theorem comp_loopL {elt target iter : Expr} {ifs : List Expr} {scope : Scope} {pos : Pos} {it acc : Value} {env : Env} (I : Nat → Shared → Prop)
    (turn : ∀ n s, I n s → wpAny (model prog w) A (pyNext it) (fun r s₁ => match r with
      | none => R (.ok .next) s₁
      | some v => wpAny (model prog w) A (letOwnedTupleGo target it v) (fun _ s₀ => wpAny (model prog w) A (assign target env v) (fun _ s₂ =>
          wpAny (model prog w) A (forIn ifs true fun c r => if r = true then do let ok ← isTrue c env (eval c env); pure (ForInStep.yield ok) else pure (ForInStep.yield r)) (fun ok s₃ =>
            if ok = true then wpAny (model prog w) A (eval elt env) (fun x s₄ =>
              wpAny (model prog w) A (call (.builtin "list.append") [acc, x]) (fun _ s₅ => ∃ m, m < n ∧ I m s₅) (notedBy (model prog w) A env fun e s' => R (.error e) s') s₄) (notedBy (model prog w) A env fun e s' => R (.error e) s') s₃
            else ∃ m, m < n ∧ I m s₃) (notedBy (model prog w) A env fun e s' => R (.error e) s') s₂) (notedBy (model prog w) A env fun e s' => R (.error e) s') s₀) (notedBy (model prog w) A env fun e s' => R (.error e) s') s₁) (notedBy (model prog w) A env fun e s' => R (.error e) s') s)
    (n : Nat) (h : I n s) :
    codeAny (model prog w) A (.compLoop (.ListComp elt [⟨target, iter, ifs, 0⟩] scope pos) 0 it acc env) R s := by
  refine codeAny_loop rfl I (fun n s hI => ?_) n h
  show wpAny _ A ((compTurn (.ListComp elt [⟨target, iter, ifs, 0⟩] scope pos) 0 it acc env).onRaise (fun x => do noteFrame x env; theTreesLotGoes x)) _ _ s
  refine wpAny_noted ?_
  rw [compTurn_list]
  refine wpAny_bind (wpAny_standAt (wpAny_bind (wpAny_mono (turn n s hI) (fun r s₁ h₁ => ?_) fun _ _ h' => h')))
  cases r with
  | none => exact wpAny_pure h₁
  | some v =>
    refine wpAny_bind (wpAny_mono h₁ (fun _ s₀ h₀ => ?_) fun _ _ h' => h')
    refine wpAny_bind (wpAny_mono h₀ (fun _ s₂ h₂ => wpAny_bind (wpAny_mono h₂ (fun ok s₃ h₃ => ?_) fun _ _ h' => h')) fun _ _ h' => h')
    cases ok with
    | false => exact wpAny_pure ⟨rfl, h₃⟩
    | true =>
      exact wpAny_bind (wpAny_bind (wpAny_mono h₃ (fun x s₄ h₄ => wpAny_bind (wpAny_mono h₄ (fun _ s₅ h₅ => wpAny_pure (wpAny_pure ⟨rfl, h₅⟩)) fun _ _ h' => h')) fun _ _ h' => h'))

theorem comp_loopD {kx vx target iter : Expr} {ifs : List Expr} {scope : Scope} {pos : Pos} {it : Value} {D : Addr} {env : Env} (I : Nat → Shared → Prop)
    (turn : ∀ n s, I n s → wpAny (model prog w) A (pyNext it) (fun r s₁ => match r with
      | none => R (.ok .next) s₁
      | some v => wpAny (model prog w) A (letOwnedTupleGo target it v) (fun _ s₀ => wpAny (model prog w) A (assign target env v) (fun _ s₂ =>
          wpAny (model prog w) A (forIn ifs true fun c r => if r = true then do let ok ← isTrue c env (eval c env); pure (ForInStep.yield ok) else pure (ForInStep.yield r)) (fun ok s₃ =>
            if ok = true then wpAny (model prog w) A (eval kx env) (fun kv s₄ => wpAny (model prog w) A (eval vx env) (fun vv s₅ =>
              wpAny (model prog w) A (dictSet D kv vv) (fun _ s₆ => ∃ m, m < n ∧ I m s₆) (notedBy (model prog w) A env fun e s' => R (.error e) s') s₅) (notedBy (model prog w) A env fun e s' => R (.error e) s') s₄) (notedBy (model prog w) A env fun e s' => R (.error e) s') s₃
            else ∃ m, m < n ∧ I m s₃) (notedBy (model prog w) A env fun e s' => R (.error e) s') s₂) (notedBy (model prog w) A env fun e s' => R (.error e) s') s₀) (notedBy (model prog w) A env fun e s' => R (.error e) s') s₁) (notedBy (model prog w) A env fun e s' => R (.error e) s') s)
    (n : Nat) (h : I n s) :
    codeAny (model prog w) A (.compLoop (.DictComp kx vx [⟨target, iter, ifs, 0⟩] scope pos) 0 it (.ref D) env) R s := by
  refine codeAny_loop rfl I (fun n s hI => ?_) n h
  show wpAny _ A ((compTurn (.DictComp kx vx [⟨target, iter, ifs, 0⟩] scope pos) 0 it (.ref D) env).onRaise (fun x => do noteFrame x env; theTreesLotGoes x)) _ _ s
  refine wpAny_noted ?_
  rw [compTurn_dict]
  refine wpAny_bind (wpAny_standAt (wpAny_bind (wpAny_mono (turn n s hI) (fun r s₁ h₁ => ?_) fun _ _ h' => h')))
  cases r with
  | none => exact wpAny_pure h₁
  | some v =>
    refine wpAny_bind (wpAny_mono h₁ (fun _ s₀ h₀ => ?_) fun _ _ h' => h')
    refine wpAny_bind (wpAny_mono h₀ (fun _ s₂ h₂ => wpAny_bind (wpAny_mono h₂ (fun ok s₃ h₃ => ?_) fun _ _ h' => h')) fun _ _ h' => h')
    cases ok with
    | false => exact wpAny_pure ⟨rfl, h₃⟩
    | true =>
      exact wpAny_bind (wpAny_bind (wpAny_mono h₃ (fun kv s₄ h₄ => wpAny_bind (wpAny_holding (wpAny_mono h₄ (fun vv s₅ h₅ => wpAny_bind (wpAny_standAt (wpAny_holding (wpAny_mono h₅ (fun _ s₆ h₆ => wpAny_pure ⟨rfl, h₆⟩) fun _ _ h' => h')))) fun _ _ h' => h'))) fun _ _ h' => h'))
end
section
variable {h₀ : Heap} {A : Around} {X X' Mu : Addr → Prop} {env : Env} {s₀ s : Shared} {l : List (Str × D)} {ml : List (Addr × D)} {E : Value → Shared → Prop}

noncomputable def Ifs (prog : Program) (w : World) (A : Around) (X : Addr → Prop) (env : Env) (h : Heap) (ifs : List Expr) (b : Bool) : Prop := match ifs with
  | [] => b = true
  | [c] => Tst prog w A X env h c b
  | _ => False
theorem Ifs.go {ifs : List Expr} {b : Bool} {h : Heap} (i : Ifs prog w A X env h ifs b) : Go prog w A X h (forIn ifs true fun c r => if r = true then do let ok ← isTrue c env (eval c env); pure (ForInStep.yield ok) else pure (ForInStep.yield r)) fun _ c => c = b := .by fun s E Q hg hl hpos k => by
  match ifs, i with
  | [], i => exact wpAny_tests_nil (k _ s.heap s.toks Grow.rfl (Eq.symm i))
  | [c], i => exact wpAny_tests_one (Go.use i hg hl fun a h' tk g p _ => k a h' tk g p)

noncomputable def Caps (scope : Scope) (cl : List (Str × Addr)) (own : Option Str) (env : Env) (l : List (Str × D)) : List (Str × D) → Prop
  | [] => True
  | q :: r => (l.lookup q.1 = some q.2 ∧ (env.kindOf q.1 = some .cell ∨ env.kindOf q.1 = some .free) ∧ ((relabel scope env).names.lookup q.1 = some .cell ∨ (relabel scope env).names.lookup q.1 = some .free) ∧
      (∀ n, ∃ c, (ownL own n cl).lookup q.1 = some c ∧ env.cells.lookup q.1 = some c)) ∧ Caps scope cl own env l r
theorem Caps.get {scope : Scope} {cl : List (Str × Addr)} {own : Option Str} : ∀ {lc : List (Str × D)}, Caps scope cl own env l lc → ∀ {x : Str} {d : D}, lc.lookup x = some d →
    l.lookup x = some d ∧ (env.kindOf x = some .cell ∨ env.kindOf x = some .free) ∧ ((relabel scope env).names.lookup x = some .cell ∨ (relabel scope env).names.lookup x = some .free) ∧ (∀ n, ∃ c, (ownL own n cl).lookup x = some c ∧ env.cells.lookup x = some c)
  | [], _, x, d, e => by cases e
  | (y, b) :: r, h, x, d, e => by
    rw [List.lookup_cons] at e
    split at e
    · rename_i q
      cases e
      rw [beq_iff_eq.mp q]
      exact h.1
    · exact h.2.get e

theorem St.under' {s' : Shared} (S : St prog w h₀ X Mu env s₀ s l ml) (T : Tr X X' s.heap s'.heap) (kp : ∀ b o, Mu b → s.heap.get? b = some o → s'.heap.get? b = some o) (kc : ∀ x c o, env.cells.lookup x = some c → s.heap.get? c = some o → s'.heap.get? c = some o)
    (mx : ∀ b, Mu b → X' b) (lv : Liv X' s'.heap) (hb : Grow h₀ s'.heap) (ht : 0 < s'.toks) : St prog w h₀ X' Mu env s' s' l ml := by
  obtain ⟨m, hn⟩ := S.ns
  refine ⟨⟨s'.heap, s'.toks, rfl⟩, fun _ _ _ e => e, lv, ⟨m, hn.at' fun o e => kp _ o S.loc e⟩, mx, S.loc, fun x c hx => ⟨?_, trivial⟩, S.apart, fun x d hx => ?_, fun q hq => ?_, S.mdis, hb, ht, S.off⟩
  · obtain ⟨v, hv⟩ := (S.cells x c hx).1
    exact ⟨v, isCell_tr hv fun o e => kc x c o hx e⟩
  · rcases S.vars x d hx with ⟨k, m1, v, hn1, hm, r⟩ | ⟨k, c, v, hc, hv, r⟩
    · exact .inl ⟨k, m1, v, hn1.at' fun o e => kp _ o S.loc e, hm, r.tr T⟩
    · exact .inr ⟨k, c, v, hc, isCell_tr hv fun o e => kc x c o hc e, r.tr T⟩
  · obtain ⟨a1, a2, a3⟩ := S.muts q hq
    exact ⟨a1, a2, a3.tr T fun o e => kp _ o a1 e⟩
end
end
end Mine

namespace Mine
section
open PySem PySem.W PySem.Calls PyProof.Rows
set_option maxRecDepth 100000
set_option linter.unusedVariables false
variable {prog : Program} {w : World}
section
variable {h₀ : Heap} {A : Around} {X X' Mu : Addr → Prop} {env : Env} {s₀ s : Shared} {l : List (Str × D)} {ml : List (Addr × D)} {E : Value → Shared → Prop}

theorem Liv.above {h : Heap} (a : Liv X h) {b : Addr} (hb : h.objs.size ≤ b) : ¬ X b := fun hx => by
  obtain ⟨⟨o, e⟩, k⟩ := a
  have := Heap.lt_size e
  rcases k _ hx with q | ⟨o', e'⟩
  · exact absurd (Nat.lt_of_lt_of_le (Nat.lt_trans q this) hb) (Nat.lt_irrefl _)
  · exact absurd (Nat.lt_of_lt_of_le (Heap.lt_size e') hb) (Nat.lt_irrefl _)
theorem get_above {h : Heap} {b : Addr} (hb : h.objs.size ≤ b) : h.get? b = none := by
  cases q : h.get? b with
  | none => rfl
  | some o => exact absurd (Nat.lt_of_lt_of_le (Heap.lt_size q) hb) (Nat.lt_irrefl _)
theorem cMu_above {own : Option Str} {n b : Addr} (h : cMu own (n + 1) n b) : n ≤ b := by
  have h : b = n + 1 ∨ b = n ∨ (own.isSome = true ∧ b = n + 1 + 1) := h
  rcases h with rfl | rfl | ⟨_, rfl⟩
  · exact Nat.le_succ _
  · exact Nat.le_refl _
  · exact Nat.le_trans (Nat.le_succ _) (Nat.le_succ _)

theorem comp_enter {scope : Scope} {cl : List (Str × Addr)} {own : Option Str} {lc : List (Str × D)} {h' : Heap} {tk n : Nat} {m : Str → Option Value} {d0 : D} (S : St prog w h₀ X Mu env s₀ s l ml) (hcaps : Caps scope cl own env l lc)
    (hcl : ∀ x c, cl.lookup x = some c → env.cells.lookup x = some c) (hsz : s.heap.objs.size = n) (g : Grow s.heap h') (hn : h'.Ns (n + 1) m) (hcell : own.isSome = true → h'.IsCell (n + 1 + 1) none)
    (hm : ∀ X', MutAt prog w X' h' n d0) (ht : 0 < tk) :
    St prog w h₀ (fun b => X b ∨ cMu own (n + 1) n b) (cMu own (n + 1) n) (cEnv scope cl own (n + 1) env) { s with heap := h', toks := tk } { s with heap := h', toks := tk } lc [(n, d0)] := by
  have below : ∀ b o, s.heap.get? b = some o → ¬ cMu own (n + 1) n b := fun b o e q => by
    have := cMu_above q
    exact absurd (Nat.lt_of_lt_of_le (Heap.lt_size e) (hsz ▸ this)) (Nat.lt_irrefl _)
  have tr : Tr X (fun b => X b ∨ cMu own (n + 1) n b) s.heap h' := fun b o nx e => ⟨fun q => q.elim nx (below b o e), g b o e⟩
  have cellsIn : ∀ x c, cl.lookup x = some c → ∃ v, s.heap.IsCell c v := fun x c e => (S.cells x c (hcl x c e)).1
  refine ⟨⟨h', tk, rfl⟩, fun _ _ _ e => e, ?_, ⟨m, hn⟩, fun b hb => .inr hb, .inl rfl, fun x c hx => ⟨?_, trivial⟩, fun x y c hx hy => ?_, fun x d hx => ?_, fun q hq => ?_, List.pairwise_singleton _ _, S.base.trans g, ht, fun b hb => ?_⟩
  · refine S.liv.tr (fun o e => ⟨o, g _ o e⟩) (fun b hb => hb.elim .inl fun q => .inr ?_) fun b _ _ o e => ⟨o, g b o e⟩
    rcases q with rfl | rfl | ⟨ho, rfl⟩
    · exact ns_there hn
    · exact (hm (fun _ => False)).there
    · exact isCell_there (hcell ho)
  · have hx : (ownL own (n + 1 + 1) cl).lookup x = some c := hx
    cases own with
    | none => obtain ⟨v, hv⟩ := cellsIn x c hx; exact ⟨v, isCell_grow hv g⟩
    | some z =>
      rw [ownL, List.lookup_cons] at hx
      split at hx
      · cases hx; exact ⟨_, hcell rfl⟩
      · obtain ⟨v, hv⟩ := cellsIn x c hx; exact ⟨v, isCell_grow hv g⟩
  · have hx : (ownL own (n + 1 + 1) cl).lookup x = some c := hx
    have hy : (ownL own (n + 1 + 1) cl).lookup y = some c := hy
    cases own with
    | none => exact S.apart x y c (hcl _ _ hx) (hcl _ _ hy)
    | some z =>
      have no : ∀ x, cl.lookup x ≠ some (n + 1 + 1) := fun x e => by
        obtain ⟨v, o, e', _⟩ := cellsIn x _ e
        have := Heap.lt_size e'
        rw [hsz] at this
        exact absurd (Nat.lt_trans (Nat.lt_trans (Nat.lt_succ_self n) (Nat.lt_succ_self _)) this) (Nat.lt_irrefl _)
      rw [ownL, List.lookup_cons] at hx hy
      split at hx
      · rename_i e1
        cases hx
        split at hy
        · rename_i e2; rw [beq_iff_eq.mp e1, beq_iff_eq.mp e2]
        · exact absurd hy (no y)
      · split at hy
        · cases hy; exact absurd hx (no x)
        · exact S.apart x y c (hcl _ _ hx) (hcl _ _ hy)
  · obtain ⟨e1, e2, e3, e4⟩ := hcaps.get hx
    obtain ⟨c, e5, e6⟩ := e4 (n + 1 + 1)
    rcases S.vars x d e1 with ⟨k, _⟩ | ⟨k, c', v, hc, hv, r⟩
    · rcases e2 with e2 | e2 <;> (rw [e2] at k; cases k)
    · rw [e6] at hc
      cases hc
      exact .inr ⟨e3, c, v, e5, isCell_grow hv g, r.tr tr⟩
  · rw [List.mem_singleton.mp hq]
    exact ⟨.inr (.inl rfl), Nat.ne_of_lt (Nat.lt_succ_self n), hm _⟩
  · cases q : h₀.get? b with
    | none => rfl
    | some o => exact absurd hb (below b o (S.base b o q))

structure Left (prog : Program) (w : World) (X : Addr → Prop) (s : Shared) (d : D) (C Dd : Addr) (h' : Heap) : Prop where
  g : Grow s.heap h'
  nC : s.heap.get? C = none
  xC : ¬ X C
  ns : ∃ m, h'.Ns C m
  rep : Rep prog w (fun b => X b ∨ b = C) h' d (.ref Dd)
  liv : Liv X h'

variable {α : Type} {us : List α} {enc : α → D} {bnd : α → List (Str × D)} {target iter : Expr} {ifs : List Expr} {scope : Scope} {cl : List (Str × Addr)} {own : Option Str} {lc : List (Str × D)} {pos : Pos} {use : Option (Value → Sem Unit)} {Q : Value → Shared → Prop}

theorem comp_coreL {elt : Expr} {p0 : Pos} (p : α → Bool) (F : α → D) (S : St prog w h₀ X Mu env s₀ s l ml) (hh : A.handled = none) (hkind : scope.kind = .function)
    (hcf : ∀ n, cellsFrom n scope.names cl = ownL own n cl) (hpc : ∀ h, pushCells h scope.names = ownH own h)
    (hnames : ∀ x ∈ scope.names, x.2 = .local → scope.names.lookup x.1 = some .local) (hclos : closureFor scope env = pure cl) (hcl : ∀ x c, cl.lookup x = some c → env.cells.lookup x = some c)
    (hcaps : Caps scope cl own env l lc) (hlen : us.length ≤ sizeLine)
    (hT : ∀ C Dd, ∀ u ∈ us, Tgt (cMu own C Dd) (cEnv scope cl own C env) target (enc u) (bnd u)) (hb : ∀ u ∈ us, AllIn (bnd u ++ lc) lc)
    (hit : Go prog w A X s.heap (eval iter env) fun h' v => Itn prog w A X h' v target true (us.map enc))
    (turn : ∀ (X' Mu' : Addr → Prop) (C : Addr) (i : Nat) (u : α) (s₁ : Shared) (ml' : List (Addr × D)), (∀ b, X b → X' b) → us[i]? = some u → St prog w h₀ X' Mu' (cEnv scope cl own C env) s₁ s₁ (bnd u ++ lc) ml' →
      Ifs prog w A X' (cEnv scope cl own C env) s₁.heap ifs (p u) ∧ (p u = true → Ev prog w A X' (cEnv scope cl own C env) s₁.heap elt (F u)))
    (k : ∀ C Dd h' tk, Left prog w X s (.lst ((us.filter p).map F)) C Dd h' → 0 < tk → compPost (model prog w) A E use Q (.ref Dd) C (.ok .next) { s with heap := h', toks := tk })
    (hs : ∀ x, foldedSetIterable iter env x = pure x := by intro _; rfl) :
    wpAny (model prog w) A (comprehension (.ListComp elt [⟨target, iter, ifs, 0⟩] scope pos) scope env p0 (newList []) false (eval iter env) use) Q E s := by
  refine wpAny_comprehension_free rfl hs hclos hkind hnames ?_
  refine hit.use Grow.rfl S.liv (fun v h1 t1 g1 itb hpos1 => ?_) S.tok
  refine itb _ _ _ Grow.rfl (S.liv.grow g1) hpos1 fun I fp wr Sx h2 t2 W hst g2 hwr hlv hfp hpos2 self => ?_
  have S1 := S.grown (tk := t1) g1
  have S2 : St prog w h₀ (fun b => X b ∨ b ∈ wr) Mu env s₀ { s with heap := h2, toks := t2 } l ml := S1.enterX (tk := t2) g2 hwr (hlv 0 h2 hst)
  refine wpAny_newObj_type (comp_env hcf hpc fun hB hnC gB hcell => ?_) (by show ([] : List Value).toArray.size ≤ sizeLine; exact Nat.zero_le _)
  have e1 : (h2.push { cls := .type "list", dict := none, data := .seq ([] : List Value).toArray }).objs.size = h2.objs.size + 1 := Heap.size_push ..
  have gP : Grow h2 (h2.push { cls := .type "list", dict := none, data := .seq ([] : List Value).toArray }) := Grow.push _
  have gP0 : (h2.push { cls := .type "list", dict := none, data := .seq ([] : List Value).toArray }).get? h2.objs.size = some { cls := .type "list", dict := none, data := .seq ([] : List Value).toArray } := Heap.get?_push_size _ rfl
  dsimp only at hnC gB hcell ⊢
  rw [e1] at hnC hcell ⊢
  have hD0 := gB _ _ gP0
  have g3 : Grow h2 hB := gP.trans gB
  generalize hn : h2.objs.size = n at *
  have SB := comp_enter (tk := t2) (d0 := .lst []) S2 hcaps hcl hn g3 hnC hcell (fun X' => ⟨[], ⟨_, hD0⟩, .nil⟩) hpos2
  show codeAny (model prog w) A (.compStart (.ListComp elt [⟨target, iter, ifs, 0⟩] scope pos) 0 (.ref I) (.ref n) (cEnv scope cl own (n + 1) env)) (compPost (model prog w) A E use Q (.ref n) (n + 1)) { s with heap := hB, toks := t2 }
  have hstB : Sx 0 hB := W.frame _ _ _ hst fun b _ o e => g3 b o e
  have g4 : Grow s.heap hB := g1.trans (g2.trans g3)
  have above : ∀ {b}, cMu own (n + 1) n b → h2.get? b = none := fun q => get_above (hn ▸ cMu_above q)
  have hwM : ∀ b ∈ wr, ¬ cMu own (n + 1) n b := fun b hb q => by obtain ⟨o, e⟩ := hlv 0 h2 hst b hb; rw [above q] at e; cases e
  have hwc : ∀ x c, (cEnv scope cl own (n + 1) env).cells.lookup x = some c → c ∉ wr := fun x c hx hm => by
    have hx : (ownL own (n + 1 + 1) cl).lookup x = some c := hx
    have old : cl.lookup x = some c → False := fun e => by
      obtain ⟨v, o, e', _⟩ := (S1.cells x c (hcl x c e)).1
      rw [show h1.get? c = none from hwr c hm] at e'; cases e'
    cases own with
    | none => exact old hx
    | some z =>
      rw [ownL, List.lookup_cons] at hx
      split at hx
      · cases hx; exact hwM _ hm (.inr (.inr ⟨rfl, rfl⟩))
      · exact old hx
  have hwb : ∀ b ∈ wr, h₀.get? b = none := fun b hb => by
    cases q : h₀.get? b with
    | none => rfl
    | some o => have := S1.base b o q; rw [hwr b hb] at this; cases this
  have loop : codeAny (model prog w) A (.compLoop (.ListComp elt [⟨target, iter, ifs, 0⟩] scope pos) 0 (.ref I) (.ref n) (cEnv scope cl own (n + 1) env)) (compPost (model prog w) A E use Q (.ref n) (n + 1)) { s with heap := hB, toks := t2 } := by
    refine comp_loopL (fun m s' => ∃ i, i + m = us.length ∧ St prog w h₀ (fun b => (X b ∨ b ∈ wr) ∨ cMu own (n + 1) n b) (cMu own (n + 1) n) (cEnv scope cl own (n + 1) env) s' s' lc [(n, .lst (((us.take i).filter p).map F))] ∧ Sx i s'.heap ∧
      (∃ h tk, s' = { s with heap := h, toks := tk }) ∧ ∀ b o, ¬ cMu own (n + 1) n b → b ∉ wr → hB.get? b = some o → s'.heap.get? b = some o) ?_ us.length ⟨0, by lia, SB, hstB, ⟨_, _, rfl⟩, fun _ _ _ _ e => e⟩
    rintro m s' ⟨i, hi, S', hst', ⟨h', tk', rfl⟩, K⟩
    have K1 : ∀ b o, ¬ X b → h1.get? b = some o → h'.get? b = some o := fun b o nx e => K b o (fun q => by have := g2 b o e; rw [above q] at this; cases this) (fun q => by rw [show h1.get? b = none from hwr b q] at e; cases e) (g3 b o (g2 b o e))
    by_cases hlt : i < us.length
    · obtain ⟨u, hu⟩ : ∃ u, us[i]? = some u := ⟨us[i], by simp [hlt]⟩
      have hmem := List.mem_of_getElem? hu
      refine W.item i (enc u) _ (fun b => (X b ∨ b ∈ wr) ∨ cMu own (n + 1) n b) _ _ _ (by rw [List.getElem?_map, hu]; rfl) hst' K1 ?_ S'.liv S'.tok fun v h3 t3 R0 hst3 kp hpos3 => ?_
      · rintro b o nx e ((q | q) | q)
        · exact nx q
        · rw [show h1.get? b = none from hwr b q] at e; cases e
        · have := g2 b o e; rw [above q] at this; cases this
      have S3 : St prog w h₀ (fun b => (X b ∨ b ∈ wr) ∨ cMu own (n + 1) n b) (cMu own (n + 1) n) (cEnv scope cl own (n + 1) env) { s with heap := h3, toks := t3 } { s with heap := h3, toks := t3 } lc [(n, .lst (((us.take i).filter p).map F))] := by
        refine S'.under' (fun b o nx e => ⟨nx, kp b o (fun q => nx (.inl (.inr q))) e⟩) (fun b o mu e => kp b o (fun q => hwM b q mu) e) (fun x c o hx e => kp c o (hwc x c hx) e) S'.mx ?_ (fun b o e => kp b o (fun q => by rw [hwb b q] at e; cases e) (S'.base b o e)) hpos3
        have key : ∀ b o, h'.get? b = some o → ∃ o', h3.get? b = some o' := fun b o e => by
          by_cases q : b ∈ wr
          · exact hlv _ _ hst3 b q
          · exact ⟨o, kp b o q e⟩
        exact S'.liv.tr (fun o e => key _ o e) (fun b hb => .inl hb) fun b _ _ o e => key b o e
      refine st_tgt S3 hh hkind (hT _ _ u hmem) R0 fun s4 S4 => ?_
      obtain ⟨h4, t4, rfl⟩ := S4.same
      obtain ⟨hI, hE⟩ := turn _ _ (n + 1) i u _ _ (fun b hb => .inl (.inl hb)) hu S4.refl
      refine hI.go.use Grow.rfl S4.liv (fun ok h5 t5 g5 hok hpos5 => ?_) S4.tok
      subst hok
      have S5 := (S4.refl.grown (tk := t5) g5).refl
      have tk1 : ((us.take (i + 1)).filter p).map F = ((us.take i).filter p).map F ++ if p u = true then [F u] else [] := by
        rw [List.take_add_one, hu, List.filter_append, List.map_append]
        cases hp : p u <;> simp [hp]
      have fin : ∀ (h6 : Heap) (t6 : Nat), (∀ b o, ¬ cMu own (n + 1) n b → h5.get? b = some o → h6.get? b = some o) → St prog w h₀ (fun b => (X b ∨ b ∈ wr) ∨ cMu own (n + 1) n b) (cMu own (n + 1) n) (cEnv scope cl own (n + 1) env) { s with heap := h6, toks := t6 } { s with heap := h6, toks := t6 } (bnd u ++ lc) [(n, .lst (((us.take (i + 1)).filter p).map F))] →
          ∃ m', m' < m ∧ ∃ i, i + m' = us.length ∧ St prog w h₀ (fun b => (X b ∨ b ∈ wr) ∨ cMu own (n + 1) n b) (cMu own (n + 1) n) (cEnv scope cl own (n + 1) env) { s with heap := h6, toks := t6 } { s with heap := h6, toks := t6 } lc [(n, .lst (((us.take i).filter p).map F))] ∧ Sx i h6 ∧
            (∃ h tk, ({ s with heap := h6, toks := t6 } : Shared) = { s with heap := h, toks := tk }) ∧ ∀ b o, ¬ cMu own (n + 1) n b → b ∉ wr → hB.get? b = some o → h6.get? b = some o := fun h6 t6 k6 S6 =>
        have k36 : ∀ b o, ¬ cMu own (n + 1) n b → h3.get? b = some o → h6.get? b = some o := fun b o nm e => k6 b o nm (g5 b o (S4.keep b o nm e))
        have nfp : ∀ b ∈ fp, ¬ cMu own (n + 1) n b := fun b hb q => by obtain ⟨o, e⟩ := (hfp b hb).2; rw [above q] at e; cases e
        ⟨m - 1, by lia, i + 1, by lia, S6.to (hb u hmem), W.frame _ _ _ hst3 fun b hb o e => k36 b o (nfp b hb) e, ⟨_, _, rfl⟩, fun b o nm nw e => k36 b o nm (kp b o nw (K b o nm nw e))⟩
      cases hp : p u with
      | false =>
        rw [if_neg (by decide)]
        refine fin h5 t5 (fun _ _ _ e => e) ?_
        rw [tk1, hp, if_neg (by decide), List.append_nil]
        exact S5
      | true =>
        rw [if_pos rfl]
        refine ((hE hp).grow g5).use Grow.rfl S5.liv fun y h6 t6 g6 r6 hpos6 => ?_
        have S6 := (S5.grown (tk := t6) g6).refl
        obtain ⟨vs, hpl, hr⟩ := (S6.muts _ (.head _)).2.2
        have hle : vs.toArray.size ≤ sizeLine := by
          rw [List.size_toArray, hr.length, List.length_map]
          exact Nat.le_trans (Nat.le_trans (List.length_filter_le ..) (by rw [List.length_take]; exact Nat.min_le_right ..)) hlen
        refine wpAny_list_append_plain hpl (fun h7 hp7 hs7 => ?_) hle
        refine fin h7 _ (fun b o nm e => (hs7.2 b fun z => nm (z ▸ .inr (.inl rfl))).trans (g6 b o e)) ?_
        rw [tk1, hp, if_pos rfl]
        have T : Tr (fun b => (X b ∨ b ∈ wr) ∨ cMu own (n + 1) n b) (fun b => (X b ∨ b ∈ wr) ∨ cMu own (n + 1) n b) h6 h7 := tr_sameBut (.inr (.inr (.inl rfl))) hs7
        rw [List.push_toArray] at hp7
        exact (S6.change (tk := t6) (d' := .lst (((us.take i).filter p).map F ++ [F u])) hs7 ⟨vs ++ [y], hp7, (hr.tr T).append (.cons (r6.tr T) .nil)⟩).refl
    · have hn0 : i = us.length := by lia
      subst hn0
      refine wpAny_with_toks (n := 1) S'.tok ?_
      refine W.done _ _ _ (by rw [List.length_map]; exact hst') fun h3 t3 kp hpos3 => ?_
      have hpos3 : 0 < t3 := hpos3
      rw [List.take_length] at S'
      refine k (n + 1) n h3 t3 ⟨fun b o e => ?_, ?_, ?_, ?_, ?_, ?_⟩ hpos3
      · have e1' := g1 b o e
        have e2' := g2 b o e1'
        exact kp b o (fun q => by rw [show h1.get? b = none from hwr b q] at e1'; cases e1') (K b o (fun q => by rw [above q] at e2'; cases e2') (fun q => by rw [show h1.get? b = none from hwr b q] at e1'; cases e1') (g4 b o e))
      · cases q : s.heap.get? (n + 1) with
        | none => rfl
        | some o => have := g2 _ _ (g1 _ _ q); rw [above (.inl rfl)] at this; cases this
      · exact fun q => S2.liv.above (b := n + 1) (by rw [show ({ s with heap := h2, toks := t2 } : Shared).heap.objs.size = n from hn]; exact Nat.le_succ _) (.inl q)
      · obtain ⟨m, hm⟩ := S'.ns
        exact ⟨m, hm.at' fun o e => kp _ o (fun q => hwM _ q (.inl rfl)) e⟩
      · have M := (S'.muts _ (.head _)).2.2
        have M3 : MutAt prog w (fun b => (X b ∨ b ∈ wr) ∨ cMu own (n + 1) n b) h3 n (.lst ((us.filter p).map F)) := M.tr (fun b o nx e => ⟨nx, kp b o (fun q => nx (.inl (.inr q))) e⟩) fun o e => kp _ o (fun q => hwM _ q (.inr (.inl rfl))) e
        refine M3.rep (fun b hb => hb.elim (fun q => .inl (.inl q)) fun q => .inr (.inl q)) fun q => ?_
        rcases q with q | q
        · exact S2.liv.above (b := n) (by rw [show ({ s with heap := h2, toks := t2 } : Shared).heap.objs.size = n from hn]; exact Nat.le_refl _) (.inl q)
        · exact absurd q (Nat.ne_of_lt (Nat.lt_succ_self n))
      · refine S'.liv.tr (fun o e => ⟨o, kp _ o (fun q => ?_) e⟩) (fun b hb => .inl (.inl (.inl hb))) fun b _ hb o e => ⟨o, kp b o (fun q => (hfp b (W.sub b q)).1 hb) e⟩
        obtain ⟨o', e'⟩ := S1.liv.1
        rw [hwr _ q] at e'; cases e'
  exact codeAny_compStart_list loop (self rfl 0 _ _ _ hstB loop)
end
end
end Mine

namespace Mine
section
open PySem PySem.W PySem.Calls PyProof.Rows
set_option maxRecDepth 100000
set_option linter.unusedVariables false
variable {prog : Program} {w : World}
noncomputable def storedD (ds : List (Int × D)) (k : Int) (d : D) : List (Int × D) := if ds.any (fun q => q.1 = k) then ds.map (fun q => if q.1 = k then (q.1, d) else q) else ds ++ [(k, d)]
noncomputable def storeAll {α : Type} (FK : α → Int) (F : α → D) (us : List α) : List (Int × D) := us.foldl (fun acc u => storedD acc (FK u) (F u)) []
theorem storedD_length (ds : List (Int × D)) (k : Int) (d : D) : (storedD ds k d).length ≤ ds.length + 1 := by
  unfold storedD
  split
  · simp
  · simp
theorem storeAll_length {α : Type} (FK : α → Int) (F : α → D) (us : List α) : (storeAll FK F us).length ≤ us.length := by
  unfold storeAll
  have key : ∀ (us : List α) (acc : List (Int × D)), (us.foldl (fun acc u => storedD acc (FK u) (F u)) acc).length ≤ acc.length + us.length := by
    intro us
    induction us with
    | nil => intro acc; simp
    | cons u us ih =>
      intro acc
      rw [List.foldl_cons, List.length_cons]
      have := ih (storedD acc (FK u) (F u))
      have := storedD_length acc (FK u) (F u)
      lia
  simpa using key us []
section
variable {X : Addr → Prop} {h : Heap}
theorem RepKV.any {ds : List (Int × D)} {kvs : List (Int × Value)} (r : RepKV prog w X h ds kvs) (k : Int) : kvs.any (fun q => q.1 = k) = ds.any (fun q => q.1 = k) := by
  induction ds generalizing kvs with
  | nil => (first | apply r.kVal | apply r.kInt; intro _ | apply r.kFlt; intro _ _ | apply r.kBool | apply r.kNone | apply r.kNil | cases r); rfl
  | cons q ds ih => apply r.kCons; intro _ _ a b; rw [List.any_cons, List.any_cons, ih b]
theorem RepKV.stored {ds : List (Int × D)} {kvs : List (Int × Value)} (r : RepKV prog w X h ds kvs) {k : Int} {d : D} {v : Value} (rv : Rep prog w X h d v) : RepKV prog w X h (storedD ds k d) (stored kvs k v) := by
  unfold storedD PySem.stored
  rw [r.any k]
  split
  · rename_i hh
    clear hh
    induction ds generalizing kvs with
    | nil => (first | apply r.kVal | apply r.kInt; intro _ | apply r.kFlt; intro _ _ | apply r.kBool | apply r.kNone | apply r.kNil | cases r); exact .nil
    | cons q ds ih =>
      obtain ⟨kk, d'⟩ := q; apply r.kCons; intro v' vs a b
      rw [List.map_cons, List.map_cons]
      by_cases e : kk = k
      · rw [if_pos e, if_pos e]; exact .cons rv (ih b)
      · rw [if_neg e, if_neg e]; exact .cons a (ih b)
  · rename_i hh
    clear hh
    induction ds generalizing kvs with
    | nil => (first | apply r.kVal | apply r.kInt; intro _ | apply r.kFlt; intro _ _ | apply r.kBool | apply r.kNone | apply r.kNil | cases r); exact .cons rv .nil
    | cons q ds ih =>
      apply r.kCons; intro _ _ a b; exact .cons a (ih b)
end
section
variable {h₀ : Heap} {A : Around} {X X' Mu : Addr → Prop} {env : Env} {s₀ s : Shared} {l : List (Str × D)} {ml : List (Addr × D)} {E : Value → Shared → Prop}
variable {α : Type} {us : List α} {enc : α → D} {bnd : α → List (Str × D)} {target iter : Expr} {ifs : List Expr} {scope : Scope} {cl : List (Str × Addr)} {own : Option Str} {lc : List (Str × D)} {pos : Pos} {use : Option (Value → Sem Unit)} {Q : Value → Shared → Prop}
theorem comp_coreD {kx vx : Expr} {p0 : Pos} (p : α → Bool) (FK : α → Int) (F : α → D) (S : St prog w h₀ X Mu env s₀ s l ml) (hh : A.handled = none) (hkind : scope.kind = .function)
    (hcf : ∀ n, cellsFrom n scope.names cl = ownL own n cl) (hpc : ∀ h, pushCells h scope.names = ownH own h)
    (hnames : ∀ x ∈ scope.names, x.2 = .local → scope.names.lookup x.1 = some .local) (hclos : closureFor scope env = pure cl) (hcl : ∀ x c, cl.lookup x = some c → env.cells.lookup x = some c)
    (hcaps : Caps scope cl own env l lc) (hlen : us.length ≤ sizeLine)
    (hT : ∀ C Dd, ∀ u ∈ us, Tgt (cMu own C Dd) (cEnv scope cl own C env) target (enc u) (bnd u)) (hb : ∀ u ∈ us, AllIn (bnd u ++ lc) lc)
    (hit : Go prog w A X s.heap (eval iter env) fun h' v => Itn prog w A X h' v target true (us.map enc))
    (turn : ∀ (X' Mu' : Addr → Prop) (C : Addr) (i : Nat) (u : α) (s₁ : Shared) (ml' : List (Addr × D)), (∀ b, X b → X' b) → us[i]? = some u → St prog w h₀ X' Mu' (cEnv scope cl own C env) s₁ s₁ (bnd u ++ lc) ml' →
      Ifs prog w A X' (cEnv scope cl own C env) s₁.heap ifs (p u) ∧ (p u = true → Ev prog w A X' (cEnv scope cl own C env) s₁.heap kx (.int (FK u)) ∧ Ev prog w A X' (cEnv scope cl own C env) s₁.heap vx (F u)))
    (k : ∀ C Dd h' tk, Left prog w X s (.dct (storeAll FK F (us.filter p))) C Dd h' → 0 < tk → compPost (model prog w) A E use Q (.ref Dd) C (.ok .next) { s with heap := h', toks := tk })
    (hs : ∀ x, foldedSetIterable iter env x = pure x := by intro _; rfl) :
    wpAny (model prog w) A (comprehension (.DictComp kx vx [⟨target, iter, ifs, 0⟩] scope pos) scope env p0 newDict false (eval iter env) use) Q E s := by
  refine wpAny_comprehension_free rfl hs hclos hkind hnames ?_
  refine hit.use Grow.rfl S.liv (fun v h1 t1 g1 itb hpos1 => ?_) S.tok
  refine itb _ _ _ Grow.rfl (S.liv.grow g1) hpos1 fun I fp wr Sx h2 t2 W hst g2 hwr hlv hfp hpos2 self => ?_
  have S1 := S.grown (tk := t1) g1
  have S2 : St prog w h₀ (fun b => X b ∨ b ∈ wr) Mu env s₀ { s with heap := h2, toks := t2 } l ml := S1.enterX (tk := t2) g2 hwr (hlv 0 h2 hst)
  refine wpAny_newObj_type (comp_env hcf hpc fun hB hnC gB hcell => ?_) (by size_fits)
  have e1 : (h2.push { cls := .type "dict", dict := none, data := .dict #[] }).objs.size = h2.objs.size + 1 := Heap.size_push ..
  have gP : Grow h2 (h2.push { cls := .type "dict", dict := none, data := .dict #[] }) := Grow.push _
  have gP0 : (h2.push { cls := .type "dict", dict := none, data := .dict #[] }).get? h2.objs.size = some { cls := .type "dict", dict := none, data := .dict #[] } := Heap.get?_push_size _ rfl
  dsimp only at hnC gB hcell ⊢
  rw [e1] at hnC hcell ⊢
  have hD0 : hB.DictOf (intKind prog w) h2.objs.size [] := dictOf_tr (Heap.DictOf.new h2) fun o e => gB _ _ e
  have g3 : Grow h2 hB := gP.trans gB
  generalize hn : h2.objs.size = n at *
  have SB := comp_enter (tk := t2) (d0 := .dct []) S2 hcaps hcl hn g3 hnC hcell (fun X' => ⟨[], hD0, .nil⟩) hpos2
  show codeAny (model prog w) A (.compStart (.DictComp kx vx [⟨target, iter, ifs, 0⟩] scope pos) 0 (.ref I) (.ref n) (cEnv scope cl own (n + 1) env)) (compPost (model prog w) A E use Q (.ref n) (n + 1)) { s with heap := hB, toks := t2 }
  have hstB : Sx 0 hB := W.frame _ _ _ hst fun b _ o e => g3 b o e
  have g4 : Grow s.heap hB := g1.trans (g2.trans g3)
  have above : ∀ {b}, cMu own (n + 1) n b → h2.get? b = none := fun q => get_above (hn ▸ cMu_above q)
  have hwM : ∀ b ∈ wr, ¬ cMu own (n + 1) n b := fun b hb q => by obtain ⟨o, e⟩ := hlv 0 h2 hst b hb; rw [above q] at e; cases e
  have hwc : ∀ x c, (cEnv scope cl own (n + 1) env).cells.lookup x = some c → c ∉ wr := fun x c hx hm => by
    have hx : (ownL own (n + 1 + 1) cl).lookup x = some c := hx
    have old : cl.lookup x = some c → False := fun e => by
      obtain ⟨v, o, e', _⟩ := (S1.cells x c (hcl x c e)).1
      rw [show h1.get? c = none from hwr c hm] at e'; cases e'
    cases own with
    | none => exact old hx
    | some z =>
      rw [ownL, List.lookup_cons] at hx
      split at hx
      · cases hx; exact hwM _ hm (.inr (.inr ⟨rfl, rfl⟩))
      · exact old hx
  have hwb : ∀ b ∈ wr, h₀.get? b = none := fun b hb => by
    cases q : h₀.get? b with
    | none => rfl
    | some o => have := S1.base b o q; rw [hwr b hb] at this; cases this
  have loop : codeAny (model prog w) A (.compLoop (.DictComp kx vx [⟨target, iter, ifs, 0⟩] scope pos) 0 (.ref I) (.ref n) (cEnv scope cl own (n + 1) env)) (compPost (model prog w) A E use Q (.ref n) (n + 1)) { s with heap := hB, toks := t2 } := by
    refine comp_loopD (fun m s' => ∃ i, i + m = us.length ∧ St prog w h₀ (fun b => (X b ∨ b ∈ wr) ∨ cMu own (n + 1) n b) (cMu own (n + 1) n) (cEnv scope cl own (n + 1) env) s' s' lc [(n, .dct (storeAll FK F ((us.take i).filter p)))] ∧ Sx i s'.heap ∧
      (∃ h tk, s' = { s with heap := h, toks := tk }) ∧ ∀ b o, ¬ cMu own (n + 1) n b → b ∉ wr → hB.get? b = some o → s'.heap.get? b = some o) ?_ us.length ⟨0, by lia, SB, hstB, ⟨_, _, rfl⟩, fun _ _ _ _ e => e⟩
    rintro m s' ⟨i, hi, S', hst', ⟨h', tk', rfl⟩, K⟩
    have K1 : ∀ b o, ¬ X b → h1.get? b = some o → h'.get? b = some o := fun b o nx e => K b o (fun q => by have := g2 b o e; rw [above q] at this; cases this) (fun q => by rw [show h1.get? b = none from hwr b q] at e; cases e) (g3 b o (g2 b o e))
    by_cases hlt : i < us.length
    · obtain ⟨u, hu⟩ : ∃ u, us[i]? = some u := ⟨us[i], by simp [hlt]⟩
      have hmem := List.mem_of_getElem? hu
      refine W.item i (enc u) _ (fun b => (X b ∨ b ∈ wr) ∨ cMu own (n + 1) n b) _ _ _ (by rw [List.getElem?_map, hu]; rfl) hst' K1 ?_ S'.liv S'.tok fun v h3 t3 R0 hst3 kp hpos3 => ?_
      · rintro b o nx e ((q | q) | q)
        · exact nx q
        · rw [show h1.get? b = none from hwr b q] at e; cases e
        · have := g2 b o e; rw [above q] at this; cases this
      have S3 : St prog w h₀ (fun b => (X b ∨ b ∈ wr) ∨ cMu own (n + 1) n b) (cMu own (n + 1) n) (cEnv scope cl own (n + 1) env) { s with heap := h3, toks := t3 } { s with heap := h3, toks := t3 } lc [(n, .dct (storeAll FK F ((us.take i).filter p)))] := by
        refine S'.under' (fun b o nx e => ⟨nx, kp b o (fun q => nx (.inl (.inr q))) e⟩) (fun b o mu e => kp b o (fun q => hwM b q mu) e) (fun x c o hx e => kp c o (hwc x c hx) e) S'.mx ?_ (fun b o e => kp b o (fun q => by rw [hwb b q] at e; cases e) (S'.base b o e)) hpos3
        have key : ∀ b o, h'.get? b = some o → ∃ o', h3.get? b = some o' := fun b o e => by
          by_cases q : b ∈ wr
          · exact hlv _ _ hst3 b q
          · exact ⟨o, kp b o q e⟩
        exact S'.liv.tr (fun o e => key _ o e) (fun b hb => .inl hb) fun b _ _ o e => key b o e
      refine st_tgt S3 hh hkind (hT _ _ u hmem) R0 fun s4 S4 => ?_
      obtain ⟨h4, t4, rfl⟩ := S4.same
      obtain ⟨hI, hE⟩ := turn _ _ (n + 1) i u _ _ (fun b hb => .inl (.inl hb)) hu S4.refl
      refine hI.go.use Grow.rfl S4.liv (fun ok h5 t5 g5 hok hpos5 => ?_) S4.tok
      subst hok
      have S5 := (S4.refl.grown (tk := t5) g5).refl
      have tk1 : storeAll FK F ((us.take (i + 1)).filter p) = if p u = true then storedD (storeAll FK F ((us.take i).filter p)) (FK u) (F u) else storeAll FK F ((us.take i).filter p) := by
        rw [List.take_add_one, hu, List.filter_append]
        cases hp : p u <;> simp [hp, storeAll]
      have fin : ∀ (h6 : Heap) (t6 : Nat), (∀ b o, ¬ cMu own (n + 1) n b → h5.get? b = some o → h6.get? b = some o) → St prog w h₀ (fun b => (X b ∨ b ∈ wr) ∨ cMu own (n + 1) n b) (cMu own (n + 1) n) (cEnv scope cl own (n + 1) env) { s with heap := h6, toks := t6 } { s with heap := h6, toks := t6 } (bnd u ++ lc) [(n, .dct (storeAll FK F ((us.take (i + 1)).filter p)))] →
          ∃ m', m' < m ∧ ∃ i, i + m' = us.length ∧ St prog w h₀ (fun b => (X b ∨ b ∈ wr) ∨ cMu own (n + 1) n b) (cMu own (n + 1) n) (cEnv scope cl own (n + 1) env) { s with heap := h6, toks := t6 } { s with heap := h6, toks := t6 } lc [(n, .dct (storeAll FK F ((us.take i).filter p)))] ∧ Sx i h6 ∧
            (∃ h tk, ({ s with heap := h6, toks := t6 } : Shared) = { s with heap := h, toks := tk }) ∧ ∀ b o, ¬ cMu own (n + 1) n b → b ∉ wr → hB.get? b = some o → h6.get? b = some o := fun h6 t6 k6 S6 =>
        have k36 : ∀ b o, ¬ cMu own (n + 1) n b → h3.get? b = some o → h6.get? b = some o := fun b o nm e => k6 b o nm (g5 b o (S4.keep b o nm e))
        have nfp : ∀ b ∈ fp, ¬ cMu own (n + 1) n b := fun b hb q => by obtain ⟨o, e⟩ := (hfp b hb).2; rw [above q] at e; cases e
        ⟨m - 1, by lia, i + 1, by lia, S6.to (hb u hmem), W.frame _ _ _ hst3 fun b hb o e => k36 b o (nfp b hb) e, ⟨_, _, rfl⟩, fun b o nm nw e => k36 b o nm (kp b o nw (K b o nm nw e))⟩
      cases hp : p u with
      | false =>
        rw [if_neg (by decide)]
        refine fin h5 t5 (fun _ _ _ e => e) ?_
        rw [tk1, hp, if_neg (by decide)]
        exact S5
      | true =>
        rw [if_pos rfl]
        refine ((hE hp).1.grow g5).use Grow.rfl S5.liv fun yk h6' t6' g6' r6' hpos6' => ?_
        have S6' := (S5.grown (tk := t6') g6').refl
        refine ((hE hp).2.grow (g5.trans g6')).use Grow.rfl S6'.liv fun y h6 t6 g6 r6 hpos6 => ?_
        have S6 := (S6'.grown (tk := t6) g6).refl
        obtain ⟨kvs, hpl, hr⟩ := (S6.muts _ (.head _)).2.2
        have hle : kvs.length ≤ sizeLine := by
          rw [hr.length]
          exact Nat.le_trans (storeAll_length ..) (Nat.le_trans (Nat.le_trans (List.length_filter_le ..) (by rw [List.length_take]; exact Nat.min_le_right ..)) hlen)
        apply r6'.kInt; intro tt
        refine wpAny_dictSet_pairs (knd := intKind prog w) (k := FK u) (by show Value.isInt (FK u) (.int (FK u) tt) = true; simp [Value.isInt]) hpl (fun h7 hp7 hs7 => ?_) hle
        refine fin h7 _ (fun b o nm e => (hs7.2 b fun z => nm (z ▸ .inr (.inl rfl))).trans (g6 b o (g6' b o e))) ?_
        rw [tk1, hp, if_pos rfl]
        have T : Tr (fun b => (X b ∨ b ∈ wr) ∨ cMu own (n + 1) n b) (fun b => (X b ∨ b ∈ wr) ∨ cMu own (n + 1) n b) h6 h7 := tr_sameBut (.inr (.inr (.inl rfl))) hs7
        exact (S6.change (tk := t6 + 1) (d' := .dct (storedD (storeAll FK F ((us.take i).filter p)) (FK u) (F u))) hs7 ⟨_, hp7, (hr.tr T).stored (r6.tr T)⟩ (Nat.succ_pos _)).refl
    · have hn0 : i = us.length := by lia
      subst hn0
      refine wpAny_with_toks (n := 1) S'.tok ?_
      refine W.done _ _ _ (by rw [List.length_map]; exact hst') fun h3 t3 kp hpos3 => ?_
      have hpos3 : 0 < t3 := hpos3
      rw [List.take_length] at S'
      refine k (n + 1) n h3 t3 ⟨fun b o e => ?_, ?_, ?_, ?_, ?_, ?_⟩ hpos3
      · have e1' := g1 b o e
        have e2' := g2 b o e1'
        exact kp b o (fun q => by rw [show h1.get? b = none from hwr b q] at e1'; cases e1') (K b o (fun q => by rw [above q] at e2'; cases e2') (fun q => by rw [show h1.get? b = none from hwr b q] at e1'; cases e1') (g4 b o e))
      · cases q : s.heap.get? (n + 1) with
        | none => rfl
        | some o => have := g2 _ _ (g1 _ _ q); rw [above (.inl rfl)] at this; cases this
      · exact fun q => S2.liv.above (b := n + 1) (by rw [show ({ s with heap := h2, toks := t2 } : Shared).heap.objs.size = n from hn]; exact Nat.le_succ _) (.inl q)
      · obtain ⟨m, hm⟩ := S'.ns
        exact ⟨m, hm.at' fun o e => kp _ o (fun q => hwM _ q (.inl rfl)) e⟩
      · have M := (S'.muts _ (.head _)).2.2
        have M3 : MutAt prog w (fun b => (X b ∨ b ∈ wr) ∨ cMu own (n + 1) n b) h3 n (.dct (storeAll FK F (us.filter p))) := M.tr (fun b o nx e => ⟨nx, kp b o (fun q => nx (.inl (.inr q))) e⟩) fun o e => kp _ o (fun q => hwM _ q (.inr (.inl rfl))) e
        refine M3.rep (fun b hb => hb.elim (fun q => .inl (.inl q)) fun q => .inr (.inl q)) fun q => ?_
        rcases q with q | q
        · exact S2.liv.above (b := n) (by rw [show ({ s with heap := h2, toks := t2 } : Shared).heap.objs.size = n from hn]; exact Nat.le_refl _) (.inl q)
        · exact absurd q (Nat.ne_of_lt (Nat.lt_succ_self n))
      · refine S'.liv.tr (fun o e => ⟨o, kp _ o (fun q => ?_) e⟩) (fun b hb => .inl (.inl (.inl hb))) fun b _ hb o e => ⟨o, kp b o (fun q => (hfp b (W.sub b q)).1 hb) e⟩
        obtain ⟨o', e'⟩ := S1.liv.1
        rw [hwr _ q] at e'; cases e'
  exact codeAny_compStart_dict loop (self rfl 0 _ _ _ hstB loop)
end
end
end Mine

namespace Mine
section
open PySem PySem.W PySem.Calls PyProof.Rows
set_option maxRecDepth 100000
set_option linter.unusedVariables false
variable {prog : Program} {w : World}
section
variable {h₀ : Heap} {A : Around} {X X' Mu : Addr → Prop} {env : Env} {s₀ s : Shared} {l : List (Str × D)} {ml : List (Addr × D)} {E : Value → Shared → Prop}
variable {α : Type} {us : List α} {enc : α → D} {bnd : α → List (Str × D)} {target iter : Expr} {ifs : List Expr} {scope : Scope} {cl : List (Str × Addr)} {own : Option Str} {lc : List (Str × D)} {pos : Pos}

theorem St.at (S : St prog w h₀ X Mu env s₀ s l ml) {sx : Shared} (hg : Grow s.heap sx.heap) (hl : Liv X sx.heap) (hpos : 0 < sx.toks) : St prog w h₀ X Mu env sx sx l ml :=
  S.under' (s' := sx) hg.tr (fun b o _ e => hg b o e) (fun x c o _ e => hg c o e) S.mx hl (S.base.trans hg) hpos

theorem left_post {d : D} {C Dd : Addr} {h' : Heap} {tk : Nat} {Q : Value → Shared → Prop} (L : Left prog w X s d C Dd h') (k : ∀ h'', Grow s.heap h'' → Rep prog w X h'' d (.ref Dd) → Q (.ref Dd) { s with heap := h'', toks := tk }) :
    compPost (model prog w) A E none Q (.ref Dd) C (.ok .next) { s with heap := h', toks := tk } := by
  obtain ⟨m, hm⟩ := L.ns
  refine ⟨m, hm, fun h'' hs => k h'' (fun b o e => (hs.2 b fun z => ?_).trans (L.g b o e)) (L.rep.tr fun b o n e => ⟨fun q => n (.inl q), (hs.2 b fun z => n (.inr z)).trans e⟩)⟩
  rw [z, L.nC] at e; cases e

theorem used_post {y : Str} {py : Pos} {d : D} {C Dd : Addr} {h' : Heap} {tk : Nat} {Q : Shared → Prop} (S : St prog w h₀ X Mu env s₀ s l ml) (hk : env.scope.kind = .function) (hx : env.kindOf y = some .local ∨ (env.kindOf y = some .cell ∧ ∃ c, env.cells.lookup y = some c ∧ Mu c))
    (L : Left prog w X s d C Dd h') (htk : 0 < tk) (k : ∀ s', St prog w h₀ X Mu env s₀ s' ((y, d) :: l) ml → Q s') :
    compPost (model prog w) A E (some (assign (.Name y py) env)) (fun _ s' => Q s') (.ref Dd) C (.ok .next) { s with heap := h', toks := tk } := by
  obtain ⟨m, hm⟩ := L.ns
  have nM : ¬ Mu C := fun q => L.xC (S.mx C q)
  have S3 : St prog w h₀ (fun b => X b ∨ b ∈ [C]) Mu env s₀ { s with heap := h', toks := tk } l ml := S.enterX (wr := [C]) L.g (fun b hb => by rw [List.mem_singleton.mp hb]; exact L.nC) (fun b hb => by rw [List.mem_singleton.mp hb]; exact ns_there hm)
  show wpAny (model prog w) A (assign (.Name y py) env (.ref Dd)) _ E _
  have r : Rep prog w (fun b => X b ∨ b ∈ [C]) h' d (.ref Dd) := L.rep.tr fun b o n e => ⟨fun q => q.elim (fun q => n (.inl q)) fun q => n (.inr (List.mem_singleton.mp q)), e⟩
  refine wpAny_assign_Name (st_name S3.refl hk hx r fun s2 S4 => ?_)
  have hm2 : s2.heap.Ns C m := hm.at' fun o e => S4.keep C o nM e
  refine ⟨m, hm2, fun h3 hs => k _ ?_⟩
  have S5 := S3.trans S4
  have hC : ∀ b o, b ≠ C → s2.heap.get? b = some o → h3.get? b = some o := fun b o n e => (hs.2 b n).trans e
  have nold : ∀ {g : Heap}, Grow g s.heap → ∀ b o, g.get? b = some o → b ≠ C := fun gg b o e z => by have := gg b o e; rw [z, L.nC] at this; cases this
  have e2 : s2 = { s with heap := s2.heap, toks := s2.toks } := by obtain ⟨h, t, e⟩ := S4.same; rw [e]
  have := S5.under (X' := X) (h' := h3) (tk := s2.toks) (fun b o n e => ⟨fun q => n (.inl q), hC b o (fun z => n (.inr (by rw [z]; exact List.mem_singleton.mpr rfl))) e⟩) (fun b o mu e => hC b o (fun z => nM (z ▸ mu)) e)
    (fun x c o hx e => hC c o (fun z => by
      obtain ⟨v, o', e', _⟩ := (S.cells x c hx).1
      rw [z, L.nC] at e'; cases e') e)
    (fun b o n e => hC b o (fun z => by have := S.keep b o n e; rw [z, L.nC] at this; cases this) (S5.keep b o n e)) S.mx ?_ (fun b o e => hC b o (nold S.base b o e) (S5.base b o e)) S5.tok
  · exact this
  · have key : ∀ b o, b ≠ C → s2.heap.get? b = some o → ∃ o', h3.get? b = some o' := fun b o n e => ⟨o, hC b o n e⟩
    refine S5.liv.tr (fun o e => ?_) (fun b hb => .inl (.inl hb)) fun b _ hb o e => key b o (fun z => L.xC (z ▸ hb)) e
    exact key _ o (fun z => by obtain ⟨o', e'⟩ := S.liv.1; rw [z, L.nC] at e'; cases e') e

theorem ev_lcomp {elt : Expr} (p : α → Bool) (F : α → D) (S : St prog w h₀ X Mu env s₀ s l ml) (hh : A.handled = none) (hkind : scope.kind = .function)
    (hcf : ∀ n, cellsFrom n scope.names cl = ownL own n cl) (hpc : ∀ h, pushCells h scope.names = ownH own h)
    (hnames : ∀ x ∈ scope.names, x.2 = .local → scope.names.lookup x.1 = some .local) (hclos : closureFor scope env = pure cl) (hcl : ∀ x c, cl.lookup x = some c → env.cells.lookup x = some c)
    (hcaps : Caps scope cl own env l lc) (hlen : us.length ≤ sizeLine)
    (hT : ∀ C Dd, ∀ u ∈ us, Tgt (cMu own C Dd) (cEnv scope cl own C env) target (enc u) (bnd u)) (hb : ∀ u ∈ us, AllIn (bnd u ++ lc) lc)
    (hit : Go prog w A X s.heap (eval iter env) fun h' v => Itn prog w A X h' v target true (us.map enc))
    (turn : ∀ (X' Mu' : Addr → Prop) (C : Addr) (i : Nat) (u : α) (s₁ : Shared) (ml' : List (Addr × D)), (∀ b, X b → X' b) → us[i]? = some u → St prog w h₀ X' Mu' (cEnv scope cl own C env) s₁ s₁ (bnd u ++ lc) ml' →
      Ifs prog w A X' (cEnv scope cl own C env) s₁.heap ifs (p u) ∧ (p u = true → Ev prog w A X' (cEnv scope cl own C env) s₁.heap elt (F u)))
    (hs : ∀ x, foldedSetIterable iter env x = pure x := by intro _; rfl) :
    Ev prog w A X env s.heap (.ListComp elt [⟨target, iter, ifs, 0⟩] scope pos) (.lst ((us.filter p).map F)) := .by fun sx E Q hg hl hpos k => by
  rw [eval_ListComp]
  show wpAny (model prog w) A (comprehension _ scope env _ (newList []) false (eval iter env) none) Q E sx
  exact comp_coreL (use := none) p F (S.at hg hl hpos) hh hkind hcf hpc hnames hclos hcl hcaps hlen hT hb (hit.grow hg) turn (fun C Dd h' tk L htk => left_post L fun h'' g r => k _ h'' tk g r) hs

theorem ev_dcomp {kx vx : Expr} (p : α → Bool) (FK : α → Int) (F : α → D) (S : St prog w h₀ X Mu env s₀ s l ml) (hh : A.handled = none) (hkind : scope.kind = .function)
    (hcf : ∀ n, cellsFrom n scope.names cl = ownL own n cl) (hpc : ∀ h, pushCells h scope.names = ownH own h)
    (hnames : ∀ x ∈ scope.names, x.2 = .local → scope.names.lookup x.1 = some .local) (hclos : closureFor scope env = pure cl) (hcl : ∀ x c, cl.lookup x = some c → env.cells.lookup x = some c)
    (hcaps : Caps scope cl own env l lc) (hlen : us.length ≤ sizeLine)
    (hT : ∀ C Dd, ∀ u ∈ us, Tgt (cMu own C Dd) (cEnv scope cl own C env) target (enc u) (bnd u)) (hb : ∀ u ∈ us, AllIn (bnd u ++ lc) lc)
    (hit : Go prog w A X s.heap (eval iter env) fun h' v => Itn prog w A X h' v target true (us.map enc))
    (turn : ∀ (X' Mu' : Addr → Prop) (C : Addr) (i : Nat) (u : α) (s₁ : Shared) (ml' : List (Addr × D)), (∀ b, X b → X' b) → us[i]? = some u → St prog w h₀ X' Mu' (cEnv scope cl own C env) s₁ s₁ (bnd u ++ lc) ml' →
      Ifs prog w A X' (cEnv scope cl own C env) s₁.heap ifs (p u) ∧ (p u = true → Ev prog w A X' (cEnv scope cl own C env) s₁.heap kx (.int (FK u)) ∧ Ev prog w A X' (cEnv scope cl own C env) s₁.heap vx (F u)))
    (hs : ∀ x, foldedSetIterable iter env x = pure x := by intro _; rfl) :
    Ev prog w A X env s.heap (.DictComp kx vx [⟨target, iter, ifs, 0⟩] scope pos) (.dct (storeAll FK F (us.filter p))) := .by fun sx E Q hg hl hpos k => by
  show wpAny (model prog w) A (comprehension _ scope env _ newDict false (eval iter env) none) Q E sx
  exact comp_coreD (use := none) p FK F (S.at hg hl hpos) hh hkind hcf hpc hnames hclos hcl hcaps hlen hT hb (hit.grow hg) turn (fun C Dd h' tk L htk => left_post L fun h'' g r => k _ h'' tk g r) hs

variable {rest : List Stmt} {spos : Pos} {Q : Flow → Shared → Prop} {y : Str} {py : Pos}
theorem x_lcomp {elt : Expr} (p : α → Bool) (F : α → D) (S : St prog w h₀ X Mu env s₀ s l ml) (hk : env.scope.kind = .function) (hx : env.kindOf y = some .local ∨ (env.kindOf y = some .cell ∧ ∃ c, env.cells.lookup y = some c ∧ Mu c)) (hh : A.handled = none) (hkind : scope.kind = .function)
    (hcf : ∀ n, cellsFrom n scope.names cl = ownL own n cl) (hpc : ∀ h, pushCells h scope.names = ownH own h)
    (hnames : ∀ x ∈ scope.names, x.2 = .local → scope.names.lookup x.1 = some .local) (hclos : closureFor scope env = pure cl) (hcl : ∀ x c, cl.lookup x = some c → env.cells.lookup x = some c)
    (hcaps : Caps scope cl own env l lc) (hlen : us.length ≤ sizeLine)
    (hT : ∀ C Dd, ∀ u ∈ us, Tgt (cMu own C Dd) (cEnv scope cl own C env) target (enc u) (bnd u)) (hb : ∀ u ∈ us, AllIn (bnd u ++ lc) lc)
    (hit : Go prog w A X s.heap (eval iter env) fun h' v => Itn prog w A X h' v target true (us.map enc))
    (turn : ∀ (X' Mu' : Addr → Prop) (C : Addr) (i : Nat) (u : α) (s₁ : Shared) (ml' : List (Addr × D)), (∀ b, X b → X' b) → us[i]? = some u → St prog w h₀ X' Mu' (cEnv scope cl own C env) s₁ s₁ (bnd u ++ lc) ml' →
      Ifs prog w A X' (cEnv scope cl own C env) s₁.heap ifs (p u) ∧ (p u = true → Ev prog w A X' (cEnv scope cl own C env) s₁.heap elt (F u)))
    (kk : ∀ s', St prog w h₀ X Mu env s₀ s' ((y, .lst ((us.filter p).map F)) :: l) ml → wpAny (model prog w) A (execs rest env) Q E s')
    (hsw : swapsWith (.ListComp elt [⟨target, iter, ifs, 0⟩] scope pos) (some (.Name y py)) spos.line env = pure true := by rfl)
    (hs : ∀ x, foldedSetIterable iter env x = pure x := by intro _; rfl) :
    wpAny (model prog w) A (execs (.Assign [.Name y py] (.ListComp elt [⟨target, iter, ifs, 0⟩] scope pos) spos :: rest) env) Q E s := by
  refine wpAny_execs_cons ?_
  rw [exec_Assign_Name_used _ _ _ _ hsw]
  refine wpAny_bind (wpAny_standAt (wpAny_bind ?_))
  show wpAny _ A (do let _ ← comprehension (.ListComp elt [⟨target, iter, ifs, 0⟩] scope pos) scope env _ (newList []) false (eval iter env) (some (assign (.Name y py) env))) _ _ s
  refine wpAny_bind (wpAny_mono (comp_coreL (use := some (assign (.Name y py) env)) (Q := fun _ s' => wpAny (model prog w) A (execs rest env) Q E s') p F S hh hkind hcf hpc hnames hclos hcl hcaps hlen hT hb hit turn (fun C Dd h' tk L htk => used_post S hk hx L htk fun s' S' => kk s' S') hs) (fun _ s' hq => wpAny_pure (wpAny_pure hq)) fun _ _ e => e)

theorem x_dcomp {kx vx : Expr} (p : α → Bool) (FK : α → Int) (F : α → D) (S : St prog w h₀ X Mu env s₀ s l ml) (hk : env.scope.kind = .function) (hx : env.kindOf y = some .local ∨ (env.kindOf y = some .cell ∧ ∃ c, env.cells.lookup y = some c ∧ Mu c)) (hh : A.handled = none) (hkind : scope.kind = .function)
    (hcf : ∀ n, cellsFrom n scope.names cl = ownL own n cl) (hpc : ∀ h, pushCells h scope.names = ownH own h)
    (hnames : ∀ x ∈ scope.names, x.2 = .local → scope.names.lookup x.1 = some .local) (hclos : closureFor scope env = pure cl) (hcl : ∀ x c, cl.lookup x = some c → env.cells.lookup x = some c)
    (hcaps : Caps scope cl own env l lc) (hlen : us.length ≤ sizeLine)
    (hT : ∀ C Dd, ∀ u ∈ us, Tgt (cMu own C Dd) (cEnv scope cl own C env) target (enc u) (bnd u)) (hb : ∀ u ∈ us, AllIn (bnd u ++ lc) lc)
    (hit : Go prog w A X s.heap (eval iter env) fun h' v => Itn prog w A X h' v target true (us.map enc))
    (turn : ∀ (X' Mu' : Addr → Prop) (C : Addr) (i : Nat) (u : α) (s₁ : Shared) (ml' : List (Addr × D)), (∀ b, X b → X' b) → us[i]? = some u → St prog w h₀ X' Mu' (cEnv scope cl own C env) s₁ s₁ (bnd u ++ lc) ml' →
      Ifs prog w A X' (cEnv scope cl own C env) s₁.heap ifs (p u) ∧ (p u = true → Ev prog w A X' (cEnv scope cl own C env) s₁.heap kx (.int (FK u)) ∧ Ev prog w A X' (cEnv scope cl own C env) s₁.heap vx (F u)))
    (kk : ∀ s', St prog w h₀ X Mu env s₀ s' ((y, .dct (storeAll FK F (us.filter p))) :: l) ml → wpAny (model prog w) A (execs rest env) Q E s')
    (hsw : swapsWith (.DictComp kx vx [⟨target, iter, ifs, 0⟩] scope pos) (some (.Name y py)) spos.line env = pure true := by rfl)
    (hs : ∀ x, foldedSetIterable iter env x = pure x := by intro _; rfl) :
    wpAny (model prog w) A (execs (.Assign [.Name y py] (.DictComp kx vx [⟨target, iter, ifs, 0⟩] scope pos) spos :: rest) env) Q E s := by
  refine wpAny_execs_cons ?_
  rw [exec_Assign_Name_used _ _ _ _ hsw]
  refine wpAny_bind (wpAny_standAt (wpAny_bind ?_))
  show wpAny _ A (do let _ ← comprehension (.DictComp kx vx [⟨target, iter, ifs, 0⟩] scope pos) scope env _ newDict false (eval iter env) (some (assign (.Name y py) env))) _ _ s
  refine wpAny_bind (wpAny_mono (comp_coreD (use := some (assign (.Name y py) env)) (Q := fun _ s' => wpAny (model prog w) A (execs rest env) Q E s') p FK F S hh hkind hcf hpc hnames hclos hcl hcaps hlen hT hb hit turn (fun C Dd h' tk L htk => used_post S hk hx L htk fun s' S' => kk s' S') hs) (fun _ s' hq => wpAny_pure (wpAny_pure hq)) fun _ _ e => e)
end
end
end Mine

namespace Mine
section
open PySem PySem.W PySem.Calls PyProof.Rows
set_option maxRecDepth 100000
set_option linter.unusedVariables false
variable {prog : Program} {w : World}
section
variable {h₀ : Heap} {A : Around} {X X' Mu : Addr → Prop} {env : Env} {s₀ s : Shared} {l : List (Str × D)} {ml : List (Addr × D)} {E : Value → Shared → Prop} {rest : List Stmt} {pos : Pos} {Q : Flow → Shared → Prop}

theorem x_newdict {x : Str} {px p2 : Pos} (S : St prog w h₀ X Mu env s₀ s l ml) (hk : env.scope.kind = .function) (hx : env.kindOf x = some .local ∨ (env.kindOf x = some .cell ∧ ∃ c, env.cells.lookup x = some c ∧ Mu c))
    (k : ∀ s' p, ¬ X p → (Mu p ∨ s₀.heap.get? p = none) → St prog w h₀ (Xp X p) (Mp Mu p) env s₀ s' ((x, .val (.ref p)) :: l) ((p, .dct []) :: ml) → wpAny (model prog w) A (execs rest env) Q E s')
    (hs : swapsWith (.Dict [] [] p2) (some (.Name x px)) pos.line env = pure false := by rfl) : wpAny (model prog w) A (execs (.Assign [.Name x px] (.Dict [] [] p2) pos :: rest) env) Q E s := by
  refine wpAny_execs_cons (wpAny_Assign_Name (wpAny_Dict_empty ?_) hs)
  obtain ⟨S', hn⟩ := S.addMut (tk := s.toks) (p := s.heap.objs.size) (d := .dct []) (next_none _) (Grow.push { cls := .type "dict", data := .dict #[] }) S.liv.fresh ⟨[], Heap.DictOf.new _, .nil⟩ S.tok
  exact st_name S' hk (hx.imp id fun ⟨a, c, b, m⟩ => ⟨a, c, b, .inl m⟩) (.val _) fun s' S'' => k s' _ S.liv.fresh hn S''

theorem ev_dict0 {p2 : Pos} {h : Heap} : Ev prog w A X env h (.Dict [] [] p2) (.dct []) := .by fun s E Q hg hl hpos k =>
  wpAny_Dict_empty (k _ _ s.toks (Grow.push _) (.dct hl.fresh (Heap.DictOf.new _) .nil))

theorem St.mut {p : Addr} {d : D} (S : St prog w h₀ X Mu env s₀ s l ((p, d) :: ml)) {h' : Heap} (g : Grow s.heap h') : MutAt prog w X h' p d := (S.muts _ (.head _)).2.2.tr g.tr fun o e => g _ _ e

theorem tst_in_mut {x : Str} {px pos : Pos} {e : Expr} {p : Addr} {m : Int} {ds : List (Int × D)} (S : St prog w h₀ X Mu env s₀ s l ((p, .dct ds) :: ml)) (hps : (p == sysModules) = false) (he : Ev prog w A X env s.heap e (.int m)) (hv : l.lookup x = some (.val (.ref p)))
    (hk : env.scope.kind = .function) (hd : (x == ("__debug__" : Str)) = false) (hcd : (x == ("__classdict__" : Str)) = false) (hm : behindInMarks .In (.Name x px) = false) :
    Tst prog w A X env s.heap (.Compare e [.In] [.Name x px] pos) (ds.lookup m).isSome := .by fun s' E Q hg hl hpos k => by
  refine wpAny_isTrue_Compare1 (he.use hg hl fun v1 h1 t1 g1 r1 _ => (ev_var hk (S.vars x _ hv) hd hcd).use (hg.trans g1) (hl.grow g1) fun v2 h2 t2 g2 r2 _ => ?_) hm
  (first | apply r2.kVal | apply r2.kInt; intro _ | apply r2.kFlt; intro _ _ | apply r2.kBool | apply r2.kNone | apply r2.kNil | cases r2)
  apply r1.kInt; intro t
  obtain ⟨kvs, hD, hr⟩ := S.mut (hg.trans (g1.trans g2))
  refine wpAny_in_of (intKind_is prog w m t) hps hD.mapOf (wpAny_truthy_bool (k _ _ _ (g1.trans g2) ?_))
  cases q : ds.lookup m with
  | none => rw [hr.valueAt_none q]; rfl
  | some d => obtain ⟨v, e, _⟩ := hr.valueAt q; rw [e]; rfl

theorem x_setitem {x : Str} {px p2 : Pos} {i value : Expr} {p : Addr} {ds : List (Int × D)} {m : Int} {d : D} (S : St prog w h₀ X Mu env s₀ s l ((p, .dct ds) :: ml)) (hv : l.lookup x = some (.val (.ref p))) (hi : Ev prog w A X env s.heap i (.int m)) (he : Ev prog w A X env s.heap value d)
    (hsz : ds.length ≤ sizeLine) (hk : env.scope.kind = .function) (hd : (x == ("__debug__" : Str)) = false) (hcd : (x == ("__classdict__" : Str)) = false)
    (k : ∀ s', St prog w h₀ X Mu env s₀ s' l ((p, .dct (storedD ds m d)) :: ml) → wpAny (model prog w) A (execs rest env) Q E s')
    (hs : swapsWith value (some (.Subscript (.Name x px) i p2)) pos.line env = pure false := by rfl) :
    wpAny (model prog w) A (execs (.Assign [.Subscript (.Name x px) i p2] value pos :: rest) env) Q E s := by
  refine wpAny_execs_cons (wpAny_Assign_Subscript ?_ hs)
  refine he.use Grow.rfl S.liv (fun v0 h0 t0 g0 r0 p0 => ?_) S.tok
  refine (ev_var (A := A) hk (S.vars x _ hv) hd hcd).use g0 (S.liv.grow g0) fun v h1 t1 g1 r1 _ => ?_
  (first | apply r1.kVal | apply r1.kInt; intro _ | apply r1.kFlt; intro _ _ | apply r1.kBool | apply r1.kNone | apply r1.kNil | cases r1)
  refine hi.use (g0.trans g1) (S.liv.grow (g0.trans g1)) fun y h2 t2 g2 r2 _ => ?_
  apply r2.kInt; intro t
  have g := g0.trans (g1.trans g2)
  have S2 := S.grown (tk := t2) g
  obtain ⟨kvs, hD, hr⟩ := S2.mut Grow.rfl
  refine wpAny_setItem_pairs (intKind_is prog w m t) hD (fun h3 hp3 hs3 => ?_) (by rw [hr.length]; exact hsz)
  have T : Tr X X h2 h3 := tr_sameBut (S.mx _ (S.muts _ (.head _)).1) hs3
  exact k _ (S2.change (tk := t2 + 1) hs3 ⟨_, hp3, (hr.tr T).stored ((r0.grow (g1.trans g2)).tr T)⟩ (Nat.succ_pos _))

theorem x_augitem {x : Str} {px p2 : Pos} {i value : Expr} {p : Addr} {ds : List (Int × D)} {m a b : Int} (S : St prog w h₀ X Mu env s₀ s l ((p, .dct ds) :: ml)) (hv : l.lookup x = some (.val (.ref p))) (hi : Ev prog w A X env s.heap i (.int m)) (he : Ev prog w A X env s.heap value (.int b))
    (ha : ds.lookup m = some (.int a)) (hsz : ds.length ≤ sizeLine) (hk : env.scope.kind = .function) (hd : (x == ("__debug__" : Str)) = false) (hcd : (x == ("__classdict__" : Str)) = false)
    (k : ∀ s', St prog w h₀ X Mu env s₀ s' l ((p, .dct (storedD ds m (.int (a + b)))) :: ml) → wpAny (model prog w) A (execs rest env) Q E s')
    (hau : ∀ ov iv new, augStore i ov iv new = (do holding [new, ov, iv] (setItem ov iv new); release [new, ov, iv] []; pure .next) := by intros; rfl) :
    wpAny (model prog w) A (execs (.AugAssign (.Subscript (.Name x px) i p2) .Add value pos :: rest) env) Q E s := by
  refine wpAny_execs_cons (wpAny_AugAssign_SubscriptAny ?_ hau)
  refine (ev_var (A := A) hk (S.vars x _ hv) hd hcd).use Grow.rfl S.liv (fun v h1 t1 g1 r1 p1 => ?_) S.tok
  (first | apply r1.kVal | apply r1.kInt; intro _ | apply r1.kFlt; intro _ _ | apply r1.kBool | apply r1.kNone | apply r1.kNil | cases r1)
  refine hi.use g1 (S.liv.grow g1) fun y h2 t2 g2 r2 p2 => ?_
  apply r2.kInt; intro t
  obtain ⟨kvs, hD, hr⟩ := S.mut (g1.trans g2)
  obtain ⟨v, e, rv⟩ := hr.valueAt ha
  refine wpAny_getItem_of (intKind_is prog w m t) hD.mapOf e ?_
  refine he.use (g1.trans g2) (S.liv.grow (g1.trans g2)) (fun v4 h4 t4 g4 r4 p4 => ?_) (Nat.succ_pos _)
  apply rv.kInt; intro t3
  apply r4.kInt; intro u
  refine PyProof.Rows.iadd_int ?_
  have S2 := S.grown (tk := t4 + 1) (g1.trans (g2.trans g4)) (Nat.succ_pos _)
  obtain ⟨kvs, hD, hr⟩ := S2.mut Grow.rfl
  refine wpAny_setItem_pairs (intKind_is prog w m t) hD (fun h3 hp3 hs3 => ?_) (by rw [hr.length]; exact hsz)
  have T : Tr X X h4 h3 := tr_sameBut (S.mx _ (S.muts _ (.head _)).1) hs3
  exact k _ (S2.change (tk := t4 + 1 + 1) hs3 ⟨_, hp3, (hr.tr T).stored (.int _ _)⟩ (Nat.succ_pos _))

theorem ev_isi_tuple {mg mb : Str → Option Value} {p1 p3 pos : Pos} {e : Expr} {i : Int} (S : St prog w h₀ X Mu env s₀ s l ml) (G : Glo mg mb h₀) (F : FE env) (hx : env.kindOf "isinstance" = some .globalImplicit) (hy : env.kindOf "tuple" = some .globalImplicit) (he : Ev prog w A X env s.heap e (.int i))
    (hst : starEach [e, .Name "tuple" p3] env = (false, eval e env) :: starEach [.Name "tuple" p3] env) : Ev prog w A X env s.heap (.Call (.Name "isinstance" p1) [e, .Name "tuple" p3] [] pos) (.bool false) :=
  ev_callB (ev_bi G F S.base hx (by rfl) (by rfl)) (evs_cons he (evs_cons (ev_bi G F S.base hy (by rfl) (by rfl)) evs_nil (by rfl)) hst) (fun h' vs g r => .by fun s E Q hg hl hpos k => by
    apply r.kCons; intro _ _ r1 r; apply r.kCons; intro _ _ r2 r; apply r.kNil
    apply r1.kInt; intro t
    (first | apply r2.kVal | apply r2.kInt; intro _ | apply r2.kFlt; intro _ _ | apply r2.kBool | apply r2.kNone | apply r2.kNil | cases r2)
    exact PySem.IsiPair.int_tuple (k _ s.heap _ Grow.rfl (.bool _))) rfl hst rfl
end
end
end Mine

namespace Mine
section
open PySem PySem.W PySem.Calls PyProof.Rows
set_option maxRecDepth 100000
set_option linter.unusedVariables false
variable {prog : Program} {w : World}
@[reducible] noncomputable def envC1 (i : Nat) (x : Str) (qual : Str) (cd : Value) (L f : Addr) : Env := { envAt i qual cd L f with cells := [(x, L + 1)] }
@[reducible] noncomputable def Two (L : Addr) : Addr → Prop := fun b => b = L ∨ b = L + 1
section
variable {A : Around} {X : Addr → Prop} {h : Heap} {env : Env}
theorem op_callC1 {h₀ : Heap} {i : Nat} {name qual : Str} {doc pm cd ct : Value} {an : Option Addr} {f : Addr} {v : Value} (x : Str) {d0 d : D}
    (F : FnAt h f (fdOf i name qual .none .none doc pm an cd ct)) (hb : Grow h₀ h) (hlim : h.NoLimit) (hroom : A.depth < recursionLimit)
    (hbind : bindArgs (fdOf i name qual .none .none doc pm an cd ct) ⟨[v], []⟩ = pure [(x, v)])
    (hcf : ∀ n, cellsFrom n (scopeOf (stmtAt i)).names [] = [(x, n)]) (hx : (scopeOf (stmtAt i)).names.lookup x = some .cell)
    (hrep : Rep prog w X h d0 v)
    (body : ∀ (s₁ : Shared) (L : Addr) (E : Value → Shared → Prop), Grow h s₁.heap → ¬ X L → St prog w h₀ (fun b => X b ∨ Two L b) (Two L) (envC1 i x qual cd L f) s₁ s₁ [(x, d0)] [] →
      wpAny (model prog w) (A.deeper (envC1 i x qual cd L f)) (execs (bodyOf (stmtAt i)) (envC1 i x qual cd L f)) (Ret prog w (fun b => X b ∨ Two L b) (Two L) s₁ d) E s₁)
    (hco : (scopeOf (stmtAt i)).isCoroutine = false := by rfl) (hgen : (scopeOf (stmtAt i)).isGenerator = false := by rfl) (hk : (scopeOf (stmtAt i)).kind = .function := by rfl) :
    Op prog w A X h (call (.ref f) [v]) d := .by fun s E Q hg hl hpos k => by
  obtain ⟨o, ho, hd⟩ := (F.grow hg).here
  refine wpAny_call (codeAny_call_function hroom ho hd hco hgen rfl (F.grow hg).code ?_)
  rw [hbind]
  refine wpAny_pure (wpAny_with_toks (n := 1) hpos (wpAny_newFunctionEnv_cells hk (fun y hy => ?_) fun env he s' I hp => ?_))
  · rw [List.mem_singleton.mp hy]
    exact .inr ⟨hx, by rw [hcf]; simp [List.lookup]⟩
  subst he
  refine ⟨(hlim.keeps hg).keeps I.toInCall.keep, codeAny_func ?_⟩
  rw [hcf] at I ⊢
  show wpAny (model prog w) (A.deeper (envC1 i x qual cd s.heap.objs.size f)) (execs (bodyOf (stmtAt i)) (envC1 i x qual cd s.heap.objs.size f)) _ _ s'
  have hn : s'.heap.Ns s.heap.objs.size _ := I.toInCall.ns
  have hc : s'.heap.IsCell (s.heap.objs.size + 1) (some v) := by
    have := I.cell x (s.heap.objs.size + 1) (by simp [newEnv, List.lookup])
    have e : bindC (newEnv (scopeOf (stmtAt i)) s.heap.objs.size mainGlobals [(x, s.heap.objs.size + 1)] (qual ++ ".<locals>.") (some f) cd none builtinsNs).kindOf [(x, v)] (fun _ => none) x = some v := by
      show (if (scopeOf (stmtAt i)).names.lookup x = some NameKind.local then (fun _ => none) else fun y => if y = x then some v else none : Str → Option Value) x = some v
      rw [hx, if_neg (by decide), if_pos rfl]
    exact e ▸ this
  have kp := I.toInCall.keep
  have hXL : ∀ b, Two s.heap.objs.size b → ¬ X b ∧ s.heap.get? b = none := fun b hb => by
    have q : s.heap.objs.size ≤ b := by
      rcases hb with rfl | rfl
      · exact Nat.le_refl _
      · exact Nat.le_succ _
    exact ⟨hl.above q, get_above q⟩
  obtain ⟨h1, t1, rfl⟩ := I.toInCall.same
  have tr : Tr X (fun b => X b ∨ Two s.heap.objs.size b) s.heap h1 := fun b o n e => ⟨fun q => q.elim n fun q => (by rw [(hXL b q).2] at e; cases e), kp b o e⟩
  have S : St prog w h₀ (fun b => X b ∨ Two s.heap.objs.size b) (Two s.heap.objs.size) (envC1 i x qual cd s.heap.objs.size f) { s with heap := h1, toks := t1 } { s with heap := h1, toks := t1 } [(x, d0)] [] := by
    refine ⟨⟨h1, _, rfl⟩, fun b o _ e => e, ?_, ⟨_, hn⟩, fun b hb => .inr hb, .inl rfl, fun y c hy => ⟨?_, trivial⟩, fun y z c hy hz => ?_, fun y d hy => ?_, fun q hq => (by cases hq), List.Pairwise.nil, (hb.trans hg).trans kp, hp, fun b hb' => ?_⟩
    · exact hl.tr (fun o e => ⟨o, kp _ o e⟩) (fun b hb => hb.elim .inl fun q => .inr (q.elim (fun q => q ▸ ns_there hn) fun q => q ▸ isCell_there hc)) fun b _ _ o e => ⟨o, kp b o e⟩
    · have hy : List.lookup y [(x, s.heap.objs.size + 1)] = some c := hy
      rw [List.lookup_cons] at hy
      split at hy
      · cases hy; exact ⟨_, hc⟩
      · cases hy
    · have hy : List.lookup y [(x, s.heap.objs.size + 1)] = some c := hy
      have hz : List.lookup z [(x, s.heap.objs.size + 1)] = some c := hz
      rw [List.lookup_cons] at hy hz
      split at hy
      · rename_i e1
        split at hz
        · rename_i e2; rw [beq_iff_eq.mp e1, beq_iff_eq.mp e2]
        · cases hz
      · cases hy
    · rw [List.lookup_cons] at hy
      split at hy
      · rename_i e
        cases hy
        rw [beq_iff_eq.mp e]
        exact .inr ⟨.inl hx, _, v, by simp [List.lookup], hc, (hrep.grow hg).tr tr⟩
      · cases hy
    · cases q : h₀.get? b with
      | none => rfl
      | some o => have := hg _ _ (hb _ _ q); rw [(hXL b hb').2] at this; cases this
  refine wpAny_mono (body _ _ _ (hg.trans kp) (hXL _ (.inl rfl)).1 S) (fun fl s' hr => ?_) fun _ _ e => e
  obtain ⟨vv, rfl, ⟨h', tk, rfl⟩, kp2, r⟩ := hr
  exact k vv h' tk (fun b o e => kp2 b o (fun q => by rw [(hXL b q).2] at e; cases e) (kp b o e)) (r.tr fun b o n e => ⟨fun q => n (.inl q), e⟩)
end
end
end Mine

namespace Mine
section
open PySem PySem.W PySem.Calls PyProof.Rows
set_option maxRecDepth 100000
set_option linter.unusedVariables false
variable {prog : Program} {w : World}
section
variable {A : Around} {X : Addr → Prop} {h : Heap} {env : Env}
theorem ev_addL {l r : Expr} {pos : Pos} {da db : List D} (hl : Ev prog w A X env h l (.lst da)) (hr : Ev prog w A X env h r (.lst db)) (hsz : da.length + db.length ≤ 1000) : Ev prog w A X env h (.BinOp l .Add r pos) (.lst (da ++ db)) :=
  ev_bin hl hr fun h' va vb g ra rb => .by fun s E Q hg hv hpos k => by
    apply ra.kLst; intro a vs hxa ha hra; apply rb.kLst; intro b ws hxb hb hrb
    obtain ⟨n, ha⟩ := plain_tr ha fun o e => hg _ _ e
    obtain ⟨n2, hb⟩ := plain_tr hb fun o e => hg _ _ e
    have e : vs.toArray ++ ws.toArray = (vs ++ ws).toArray := by simp
    have hsz' : vs.toArray.size + ws.toArray.size ≤ sizeLine := by
      rw [List.size_toArray, List.size_toArray, hra.length, hrb.length]
      exact Nat.le_trans hsz (by decide)
    refine concat_meets ⟨_, ha, rfl⟩ ⟨_, hb, rfl⟩ noFill_list_add seq_list_add PySem.F.slot_list_add PySem.F.entry_list_add (PySem.F.args_list_add_2 _ _) (list_addW a b vs.toArray ws.toArray n n2 _ _ _ _ hsz') ⟨ha, hb, ?_⟩
    rw [e]
    exact k _ _ s.toks (Grow.push _) (.lst hv.fresh ⟨_, Heap.get?_push_size _ rfl⟩ (((hra.grow hg).append (hrb.grow hg)).grow (Grow.push _)))
theorem it_lstT {e : Expr} {ds : List D} {es : List Expr} {kk : Nat} {px : Pos} (hh : A.handled = none) (hd : ∀ d ∈ ds, ∃ l, d = .tup l) (he : Ev prog w A X env h e (.lst ds)) : Go prog w A X h (eval e env) fun h' v => Itn prog w A X h' v (.Tuple es kk px) true ds := he.mono fun h' v g r => itn_lst hh hd r
theorem it_nm {e : Expr} {ds : List D} {x : Str} {px : Pos} (he : Go prog w A X h (eval e env) fun h' v => Itb prog w A X h' v ds) : Go prog w A X h (eval e env) fun h' v => Itn prog w A X h' v (.Name x px) true ds := he.mono fun h' v g r => itn_name r
theorem storeAll_map {α : Type} (FK : α → Int) (F : α → D) (us : List α) : storeAll FK F us = (us.map fun u => (FK u, F u)).foldl (fun acc q => storedD acc q.1 q.2) [] := by
  unfold storeAll
  rw [List.foldl_map]
end
end
end Mine

namespace Mine
section
open PySem PySem.W PySem.Calls PyProof.Rows
set_option maxRecDepth 100000
set_option linter.unusedVariables false
variable {prog : Program} {w : World}
section
variable {h₀ : Heap} {A : Around} {X X' Mu : Addr → Prop} {env : Env} {s₀ s : Shared} {l : List (Str × D)} {ml : List (Addr × D)} {E : Value → Shared → Prop}
theorem St.freeze {p : Addr} {d : D} {x : Str} (S : St prog w h₀ (Xp X p) (Mp Mu p) env s₀ s l ((p, d) :: ml)) (hv : l.lookup x = some (.val (.ref p))) (hpX : ¬ X p) (hmx : ∀ b, Mu b → X b) (hloc : Mu env.locals) (hml : ∀ q ∈ ml, Mu q.1)
    (hpm : Mu p ∨ s₀.heap.get? p = none) : St prog w h₀ X Mu env s₀ s ((x, d) :: l) ml := by
  have T : Tr (Xp X p) X s.heap s.heap := fun b o n e => ⟨fun q => n (.inl q), e⟩
  have r : Rep prog w X s.heap d (.ref p) := (S.muts _ (.head _)).2.2.rep (fun b hb => .inl hb) hpX
  refine ⟨S.same, fun b o n e => S.keep b o (fun q => q.elim n fun q => ?_) e, ?_, S.ns, hmx, hloc, S.cells, S.apart, fun y d' hy => ?_, fun q hq => ⟨hml q hq, (S.muts q (.tail _ hq)).2.1, (S.muts q (.tail _ hq)).2.2.tr T fun o e => e⟩, (List.pairwise_cons.mp S.mdis).2, S.base, S.tok, fun b hb => S.off b (.inl hb)⟩
  · rcases hpm with q2 | q2
    · exact n (q ▸ q2)
    · rw [q, q2] at e; cases e
  · exact S.liv.tr (fun o e => ⟨o, e⟩) (fun b hb => .inl (.inl hb)) fun b _ _ o e => ⟨o, e⟩
  · have cast : ∀ {y : Str} {d' : D}, Var prog w (Xp X p) env s.heap y d' → Var prog w X env s.heap y d' := fun v => by
      rcases v with ⟨k, m, v, hn, hm, r⟩ | ⟨k, c, v, hc, hv, r⟩
      · exact .inl ⟨k, m, v, hn, hm, r.tr T⟩
      · exact .inr ⟨k, c, v, hc, hv, r.tr T⟩
    rw [List.lookup_cons] at hy
    split at hy
    · rename_i e
      cases hy
      rw [beq_iff_eq.mp e]
      rcases S.vars x _ hv with ⟨k, m, v, hn, hm, r'⟩ | ⟨k, c, v, hc, hv, r'⟩
      · obtain rfl : v = .ref p := (by apply r'.kVal; rfl); exact .inl ⟨k, m, _, hn, hm, r⟩
      · obtain rfl : v = .ref p := (by apply r'.kVal; rfl); exact .inr ⟨k, c, _, hc, hv, r⟩
    · exact cast (S.vars y d' hy)
theorem ints_len {vs : List Value} {ns : List Int} (h : IntsAre vs ns) : vs.length = ns.length := by
  induction h with
  | nil => rfl
  | cons n t _ ih => simp [ih]
theorem ints_reps {vs : List Value} {ns : List Int} {h : Heap} (hi : IntsAre vs ns) : Reps prog w X h (ns.map .int) vs := by
  induction hi with
  | nil => exact .nil
  | cons n t _ ih => exact .cons (.int n t) ih
theorem ev_slice3 {value : Expr} {p p2 p3 : Pos} {kc : Nat} {h : Heap} {a : Addr} {vs : List Value} {ns : List Int} (hv : Ev prog w A X env h value (.val (.ref a))) (hL : h.IsList a vs.toArray) (hi : IntsAre vs ns) (hlen : ns.length ≤ 63)
    (ht : ∀ o r, letTemporaryGo value o r = pure ()) :
    Ev prog w A X env h (.Subscript value (.Slice none (some (.Constant (.int 3) kc p3)) none p2) p) (.lst ((ns.take 3).map .int)) := .by fun s E Q hg hl hpos k => by
  refine wpAny_Subscript_Slice slot_list_getitem.lookup (hv.use hg hl fun va h1 t1 g1 r1 p1 => ?_) ht
  (first | apply r1.kVal | apply r1.kInt; intro _ | apply r1.kFlt; intro _ _ | apply r1.kBool | apply r1.kNone | apply r1.kNil | cases r1)
  refine wpAny_Slice (wpAny_pure (wpAny_Constant_int (k := kc) (pos := p3) (wpAny_pure ?_)))
  have hL1 : h1.IsList a vs.toArray := let ⟨o, e, r⟩ := hL; ⟨o, g1 _ _ (hg _ _ e), r⟩
  have hsz : vs.toArray.size ≤ sizeLine := by
    rw [List.size_toArray, ints_len hi]; exact Nat.le_trans hlen (by decide)
  refine ⟨Heap.IsList.typeIs (s := { s with heap := h1.push { cls := .type "slice", data := .fields #[.none, .int 3 t1, .none] }, toks := t1 + 1 }) (hL1.push _), ?_⟩
  refine wpAny_getItem_list_slice (hL1.push _) (Heap.IsSliceOf.new ..) .none (.int 3 _) .none (by simp) ?_ hsz
  have hi3 := slice_ints_uptoW hi (y := 3) (by decide)
  refine k _ _ _ (g1.trans ((Grow.push _).trans (Grow.push _))) (.lst (vs := (slicePick vs.toArray none (some 3) none).toList) ?_ ⟨_, Heap.get?_push_size _ rfl⟩ (ints_reps hi3))
  exact ((hl.grow g1).grow (Grow.push _)).fresh
end
end
end Mine

namespace Mine
section
open PySem PySem.W PySem.Calls PyProof.Rows
set_option maxRecDepth 100000
set_option linter.unusedVariables false
variable {prog : Program} {w : World}
section
variable {h₀ : Heap} {A : Around} {X X' Mu : Addr → Prop} {env : Env} {s₀ s : Shared} {l : List (Str × D)} {ml : List (Addr × D)} {E : Value → Shared → Prop} {rest : List Stmt} {pos : Pos} {Q : Flow → Shared → Prop}
theorem ev_dict1 {k v : Expr} {pos : Pos} {h : Heap} {m a b : Int} (hk : Ev prog w A X env h k (.int m)) (hv : Ev prog w A X env h v (.tup [.int a, .int b])) :
    Ev prog w A X env h (.Dict [some k] [v] pos) (.dct [(m, .tup [.int a, .int b])]) := .by fun s E Q hg hl hpos kk => by
  refine wpAny_Dict_pairs (knd := intKind prog w) (pairs := [(eval k env, do let x ← eval v env; standAt pos; pure x)]) rfl (by simp) (by simp) ?_
  have gP : Grow s.heap (s.heap.push { cls := .type "dict", data := .dict #[] }) := Grow.push _
  refine evalPairs_cons (hk.use (hg.trans gP) (hl.grow gP) fun vk h1 t1 g1 r1 p1 => ?_)
  refine wpAny_bind (hv.use ((hg.trans gP).trans g1) ((hl.grow gP).grow g1) fun vv h2 t2 g2 r2 p2 => wpAny_bind (wpAny_standAt (wpAny_pure (evalPairs_nil ?_))))
  apply r1.kInt; intro t
  have hD : h2.DictOf (intKind prog w) s.heap.objs.size [] := dictOf_tr (Heap.DictOf.new s.heap) fun o e => g2 _ _ (g1 _ _ e)
  refine ⟨[(m, vv)], ⟨intKind_is prog w m t, rfl, trivial⟩, hD, fun h' hD' hs' => ?_⟩
  refine kk _ h' _ (fun b o e => (hs'.2 b fun z => ?_).trans (g2 _ _ (g1 _ _ (gP b o e)))) (.dct hl.fresh hD' (.cons ?_ .nil))
  · rw [z, next_none] at e; cases e
  · apply r2.kTup; intro aa vs hx ha hss
    have ne : aa ≠ s.heap.objs.size := fun z => by
      obtain ⟨o, es, ep, e, c, _⟩ := hD
      obtain ⟨o', e', c', _⟩ := ha
      rw [z, e] at e'
      cases e'
      have := c.1
      rw [c'] at this
      exact absurd this (by decide)
    refine .tup hx (isTuple_tr ha fun o e => (hs'.2 _ ne).trans e) ?_
    apply hss.kCons; intro _ _ a1 a2; apply a2.kCons; intro _ _ b1 b2; apply b2.kNil
    (first | apply a1.kVal | apply a1.kInt; intro _ | apply a1.kFlt; intro _ _ | apply a1.kBool | apply a1.kNone | apply a1.kNil | cases a1); (first | apply b1.kVal | apply b1.kInt; intro _ | apply b1.kFlt; intro _ _ | apply b1.kBool | apply b1.kNone | apply b1.kNil | cases b1)
    exact .cons (.int _ _) (.cons (.int _ _) .nil)

theorem x_update {x : Str} {px apos p2 : Pos} {e : Expr} {p : Addr} {ds : List (Int × D)} {m a b : Int} (S : St prog w h₀ X Mu env s₀ s l ((p, .dct ds) :: ml)) (hsm : X sysModules) (hv : l.lookup x = some (.val (.ref p))) (he : Ev prog w A X env s.heap e (.dct [(m, .tup [.int a, .int b])]))
    (hsz : ds.length + 1 ≤ sizeLine) (hk : env.scope.kind = .function)
    (k : ∀ s', St prog w h₀ X Mu env s₀ s' l ((p, .dct (storedD ds m (.tup [.int a, .int b]))) :: ml) → wpAny (model prog w) A (execs rest env) Q E s') (hd : (x == ("__debug__" : Str)) = false) (hcd : (x == ("__classdict__" : Str)) = false) (hline : (apos.endLine == p2.line) = true)
    (hbase : attributeBase (.Name x px) "update" env (eval (.Name x px) env) = eval (.Name x px) env := by rfl)
    (hfew : ((backTo p2 (starEach [e] env)).all (fun x => !x.1) && (backToKw p2 (keywordEach [] env)).all (fun x => x.1.isSome)
      && decide (([e] : List Expr).length + ([] : List Keyword).length + (if ([] : List Keyword).isEmpty then 0 else 1) < 30)) = true := by rfl)
    (hst : starEach [e] env = (false, eval e env) :: starEach [] env := by rfl) (hi : interactive env = false := by rfl) :
    wpAny (model prog w) A (execs (.Expr (.Call (.Attribute (.Name x px) "update" apos) [e] [] p2) pos :: rest) env) Q E s := by
  obtain ⟨kvs, hD, hr⟩ := S.mut Grow.rfl
  obtain ⟨ob, es, ep, hob, hc, r0⟩ := id hD
  refine wpAny_execs_cons (wpAny_Expr_any (wp_meth S.liv S.tok PySem.F.plainAttrs_dict PySem.F.slot_dict_update PySem.F.type_dict_update (ev_var hk (S.vars x _ hv) hd hcd) hob hc.1 hc.2.1 (evs_cons he evs_nil hst) (fun h1 t1 vs g1 r1 p1 => ?_) hbase hfew hline hst rfl) hi rfl)
  apply r1.kCons; intro _ _ ra rb; apply rb.kNil
  have S1 := S.grown (tk := t1) g1
  apply ra.kDct; intro o more hx ha hrr
  have hpX : X p := S.mx _ (S.muts _ (.head _)).1
  have hne : p ≠ o := fun z => hx (z ▸ hpX)
  obtain ⟨kvs, hD, hr⟩ := S1.mut Grow.rfl
  revert ha; apply hrr.kCons; intro vv _ rv rn; apply rn.kNil; intro ha
  refine call_meetsIn PySem.F.slot_dict_update hD.typeIs PySem.F.entry_dict_update (PySem.F.args_dict_update_2 _ _) (meets_dict_update (intKind prog w) p o hne (sys_ne hsm hx)) ⟨kvs, _, hD, ha, by rw [hr.length]; exact hsz, fun h2 hD2 _ hs2 => ?_⟩
  have T : Tr X X h1 h2 := tr_sameBut hpX hs2
  exact k _ (S1.change (tk := t1) hs2 ⟨_, hD2, (hr.tr T).stored (rv.tr T)⟩)
end
end
end Mine

namespace Mine
section
open PySem PySem.W PySem.Calls PyProof.Rows
set_option maxRecDepth 100000
set_option linter.unusedVariables false
variable {prog : Program} {w : World}
theorem triples_ok : ∀ cs : List (Nat × Nat × Str × Addr), TriplesOk (tabVals cs)
  | [] => trivial
  | q :: cs => by
    show TriplesOk (rawInt q.1 :: rawInt q.2.1 :: .ref q.2.2.2 :: tabVals cs)
    exact triples_ok cs
theorem tabVals_snoc (cs : List (Nat × Nat × Str × Addr)) (a b : Nat) (q : Str) (c : Addr) : (tabVals cs).toArray ++ #[rawInt a, rawInt b, .ref c] = (tabVals (cs ++ [(a, b, q, c)])).toArray := by
  simp [tabVals]
structure LamAt (h : Heap) (f : Addr) (fd : FuncData) (c : Addr) (qual : Str) : Prop where
  here : h.get? f = some { cls := .type "function", data := .func fd }
  rec_ : h.CodeRec (.ref c) qual
section
variable {h₀ : Heap} {A : Around} {X X' Mu : Addr → Prop} {env : Env} {s₀ s : Shared} {l : List (Str × D)} {ml : List (Addr × D)} {E : Value → Shared → Prop} {mg : Str → Option Value}
theorem st_lambda {P c : Addr} {cs : List (Nat × Nat × Str × Addr)} {params : Arguments} {body : Expr} {scope : Scope} {pos : Pos} {clos : List (Str × Addr)} {Q : Value → Shared → Prop} (S : St prog w h₀ X Mu env s₀ s l ((P, .tab cs) :: ml))
    (hgl : env.globals = mainGlobals) (G : h₀.Ns mainGlobals mg) (hcode : env.code = .ref c) (C : CodeHd h₀ c P) (hb : h₀.BuiltinsAt mg P) (hgP : mainGlobals ≠ P) (hcl : closureFor scope env = pure clos) (hdef : defaultsOf params env = ([], []))
    (hnf : codeAmong pos (tabVals cs) = none)
    (k : ∀ s' f c' ctv, St prog w h₀ X Mu env s₀ s' l ((P, .tab (cs ++ [(pos.line, pos.col, env.qual ++ "<lambda>", c')])) :: ml) →
      LamAt s'.heap f (kla_fn "<lambda>" (env.qual ++ "<lambda>") params body scope clos ((mg "__name__").getD .none) (.ref c') ctv) c' (env.qual ++ "<lambda>") → ¬ X f → ¬ X c' → (∀ b o, b ≠ P → s.heap.get? b = some o → s'.heap.get? b = some o) → Q (.ref f) s') :
    wpAny (model prog w) A (eval (.Lambda params body scope pos) env) Q E s := by
  have M := (S.muts _ (.head _)).2.2
  have hXP : X P := S.mx _ (S.muts _ (.head _)).1
  refine wpAny_with_toks (n := 1) S.tok ?_
  refine kla_eval hdef (kla_makeFunction hcl hgl (G.keeps S.base) hcode (C.keeps S.base) M.1 (by simpa using triples_ok cs) (by simpa using hnf) hgP (hb.keeps S.base) fun c' ctv h' tk ext hc1 hc2 hrec hP' hp => ?_)
  have hp : 0 < tk := hp
  have kp : ∀ b o, b ≠ P → s.heap.get? b = some o → (h'.push (kla_obj "<lambda>" (env.qual ++ "<lambda>") params body scope clos ((mg "__name__").getD .none) c' ctv)).get? b = some o := fun b o n e => Heap.get?_push_of_some _ (ext b o n e)
  have nXc : ¬ X c' := S.liv.above hc1
  have nXf : ¬ X h'.objs.size := S.liv.above (Nat.le_trans hc1 (Nat.le_of_lt hc2))
  refine k _ h'.objs.size c' ctv (S.changeG (tk := tk) kp ⟨?_, fun q hq => ?_⟩) ⟨Heap.get?_push_size _ rfl, codeRec_tr hrec fun o e => Heap.get?_push_of_some _ e⟩ nXf nXc kp
  · rw [← tabVals_snoc]; exact Heap.get?_push_of_some _ hP'
  · rcases List.mem_append.mp hq with hq | hq
    · exact ⟨(M.2 q hq).1, codeRec_tr (M.2 q hq).2 fun o e => kp _ o (fun z => (M.2 q hq).1 (z ▸ hXP)) e⟩
    · rw [List.mem_singleton.mp hq]
      exact ⟨nXc, codeRec_tr hrec fun o e => Heap.get?_push_of_some _ e⟩
theorem st_lambdaHit {P c c' : Addr} {cs : List (Nat × Nat × Str × Addr)} {a b : Nat} {params : Arguments} {body : Expr} {scope : Scope} {pos : Pos} {clos : List (Str × Addr)} {Q : Value → Shared → Prop} (S : St prog w h₀ X Mu env s₀ s l ((P, .tab cs) :: ml))
    (hgl : env.globals = mainGlobals) (G : h₀.Ns mainGlobals mg) (hcode : env.code = .ref c) (C : CodeHd h₀ c P) (hb : h₀.BuiltinsAt mg P) (hcl : closureFor scope env = pure clos) (hdef : defaultsOf params env = ([], []))
    (hf : codeAmong pos (tabVals cs) = some (.ref c')) (hmem : (a, b, env.qual ++ "<lambda>", c') ∈ cs)
    (k : ∀ s' f ctv, St prog w h₀ X Mu env s₀ s' l ((P, .tab cs) :: ml) →
      LamAt s'.heap f (kla_fn "<lambda>" (env.qual ++ "<lambda>") params body scope clos ((mg "__name__").getD .none) (.ref c') ctv) c' (env.qual ++ "<lambda>") → ¬ X f → ¬ X c' → (∀ b o, b ≠ P → s.heap.get? b = some o → s'.heap.get? b = some o) → Q (.ref f) s') :
    wpAny (model prog w) A (eval (.Lambda params body scope pos) env) Q E s := by
  have M := (S.muts _ (.head _)).2.2
  refine wpAny_with_toks (n := 1) S.tok ?_
  refine kla_eval hdef (kla_makeFunctionHit hcl hgl (G.keeps S.base) hcode (C.keeps S.base) M.1 (by simpa using triples_ok cs) (by simpa using hf) (hb.keeps S.base) fun ctv h' tk ext hsz hp => ?_)
  have hp : 0 < tk := hp
  have g : Grow s.heap (h'.push { cls := .type "function", data := .func (kla_fn "<lambda>" (env.qual ++ "<lambda>") params body scope clos ((mg "__name__").getD .none) (.ref c') ctv) }) := fun b o e => Heap.get?_push_of_some _ (ext b o e)
  have mm := M.2 _ hmem
  exact k _ h'.objs.size ctv (S.grown (tk := tk) g) ⟨Heap.get?_push_size _ rfl, codeRec_tr mm.2 fun o e => g _ _ e⟩ (S.liv.above hsz) mm.1 fun b o _ e => g b o e
end
section
variable {A : Around} {X : Addr → Prop} {h : Heap}
@[reducible] noncomputable def envL (qual : Str) (scope : Scope) (cl : List (Str × Addr)) (L f c : Addr) : Env :=
  { scope, locals := L, globals := mainGlobals, cells := cl, qual := qual ++ ".<locals>.", func := some f, code := .ref c, frame := some L, builtins := builtinsNs }
theorem op_lam1 {f c : Addr} {qual : Str} {params : Arguments} {body : Expr} {scope : Scope} {cl : List (Str × Addr)} {pm ctv v : Value} (x : Str) {d0 d : D} (F : LamAt h f (kla_fn "<lambda>" qual params body scope cl pm (.ref c) ctv) c qual) (hlim : h.NoLimit) (hroom : A.depth < recursionLimit)
    (hbind : bindArgs (kla_fn "<lambda>" qual params body scope cl pm (.ref c) ctv) ⟨[v], []⟩ = pure [(x, v)]) (hcell : ∀ y ∈ scope.names, y.2 ≠ .cell) (hx : scope.names.lookup x = some .local) (hr : Rep prog w X h d0 v)
    (hcs : ∀ y c, cl.lookup y = some c → ∃ v, h.IsCell c v) (hap : ∀ y z c, cl.lookup y = some c → cl.lookup z = some c → y = z)
    {lc : List (Str × D)} (hlc : ∀ y e, lc.lookup y = some e → (scope.names.lookup y = some .free ∧ ∃ c v, cl.lookup y = some c ∧ h.IsCell c (some v) ∧ Rep prog w X h e v))
    (hbody : ∀ (s₁ : Shared) (L : Addr), Grow h s₁.heap → ¬ X L → St prog w h (Xp X L) (One L) (envL qual scope cl L f c) s₁ s₁ ((x, d0) :: lc) [] → Ev prog w (A.deeper (envL qual scope cl L f c)) (Xp X L) (envL qual scope cl L f c) s₁.heap body d)
    (hco : scope.isCoroutine = false) (hgen : scope.isGenerator = false) (hk : scope.kind = .function) :
    Op prog w A X h (call (.ref f) [v]) d := .by fun s E Q hg hl hpos k => by
  refine wpAny_call (kla_callFunE hroom (hg _ _ F.here) rfl hco hgen rfl (codeRec_tr F.rec_ fun o e => hg _ _ e) ?_)
  rw [hbind]
  refine wpAny_pure (wpAny_newFunctionEnv hcell (fun y hy => by rw [List.mem_singleton.mp hy]; exact hx) (fun h1 hn hs => ?_) hk)
  have kp : Grow s.heap h1 := fun b o e => (hs.2 b fun z => by rw [z, next_none] at e; cases e).trans (Heap.get?_push_of_some _ e)
  refine ⟨(hlim.keeps hg).keeps kp, kla_codeExpr ?_⟩
  have tr : Tr X (Xp X s.heap.objs.size) s.heap h1 := fun b o n e => ⟨fun q => q.elim n fun q => (by rw [q, next_none] at e; cases e), kp b o e⟩
  have S : St prog w h (Xp X s.heap.objs.size) (One s.heap.objs.size) (envL qual scope cl s.heap.objs.size f c) { s with heap := h1, toks := s.toks + 1 } { s with heap := h1, toks := s.toks + 1 } ((x, d0) :: lc) [] := by
    refine ⟨⟨h1, _, rfl⟩, fun b o _ e => e, ?_, ⟨_, hn⟩, fun b hb => .inr hb, rfl, fun y c hy => ⟨?_, trivial⟩, hap, fun y e hy => ?_, fun q hq => (by cases hq), List.Pairwise.nil, hg.trans kp, Nat.succ_pos _, fun b hb' => ?_⟩
    · exact hl.tr (fun o e => ⟨o, kp _ o e⟩) (fun b hb => hb.elim .inl fun q => .inr (q ▸ ns_there hn)) fun b _ _ o e => ⟨o, kp b o e⟩
    · obtain ⟨v, hv⟩ := hcs y c hy; exact ⟨v, isCell_grow hv (hg.trans kp)⟩
    · rw [List.lookup_cons] at hy
      split at hy
      · rename_i e1
        cases hy
        rw [beq_iff_eq.mp e1]
        exact .inl ⟨hx, _, v, hn, by simp [List.lookup], (hr.grow hg).tr tr⟩
      · obtain ⟨e1, cc, vv, e2, e3, e4⟩ := hlc y e hy
        exact .inr ⟨.inr e1, cc, vv, e2, isCell_grow e3 (hg.trans kp), (e4.grow hg).tr tr⟩
    · rw [show b = s.heap.objs.size from hb']
      cases q : h.get? s.heap.objs.size with
      | none => rfl
      | some o => have := hg _ _ q; rw [next_none] at this; cases this
  refine (hbody _ _ (hg.trans kp) hl.fresh S).use Grow.rfl S.liv (fun vv h2 t2 g2 r2 _ => ?_) (Nat.succ_pos _)
  exact k vv h2 t2 (kp.trans g2) (r2.tr fun b o n e => ⟨fun q => n (.inl q), e⟩)
end
end
end Mine

namespace Mine
section
open PySem PySem.W PySem.Calls PyProof.Rows
set_option maxRecDepth 100000
set_option linter.unusedVariables false
local macro_rules | `(tactic| k_updF) => `(tactic| first
  | ((with_reducible show Go _ _ _ _ _ _ _); kat_tups)
  | ((fail_if_success (with_reducible show Go _ _ _ _ _ _ _)); (with_reducible refine isProp ?_); first | assumption | (with_reducible rfl) | decide +kernel | lia | rfl | exact ⟨rfl, rfl, rfl⟩ | exact Rm.hh (by assumption) | exact Rm.le (by assumption) (by decide) | (simp only [List.length_map, upTo_length]; lia) | skip)
  | (fail_if_success (with_reducible refine isProp ?_)))
local macro_rules | `(tactic| o_head $x) => `(tactic| (with_reducible refine' $x) <;> k_updF)
local macro_rules | `(tactic| kat_tups) => `(tactic| first
  | (with_reducible first | exact ev_const_int | exact ev_const_flt | exact evs_nil | exact ev_const_none | exact ev_const_bool)
  | ((with_reducible refine' ev_v (by assumption) ?_ ?_ ?_ ?_) <;> first | rfl | (fail_if_success (with_reducible refine isProp ?_)))
  | o_head ev_sub ?_ ?_
  | o_head ev_add ?_ ?_
  | o_head ev_mul ?_ ?_ ?_ ?_
  | o_head ev_fdiv ?_ ?_ ?_ ?_
  | o_head ev_fmod ?_ ?_ ?_
  | o_head ev_neg ?_
  | o_head ev_fadd ?_ ?_
  | o_head ev_fsub ?_ ?_
  | o_head ev_fmul ?_ ?_
  | o_head ev_ftdiv ?_ ?_ ?_
  | o_head ev_ffmod ?_ ?_ ?_
  | o_head ev_idivf ?_ ?_ ?_ ?_ ?_
  | o_head ev_fsubi ?_ ?_ ?_ ?_
  | o_head ev_item_tup ?_ ?_ ?_ ?_ ?_ ?_
  | o_head ev_item_lst ?_ ?_ ?_ ?_ ?_ ?_
  | o_head ev_tuple ?_ ?_
  | o_head ev_list ?_ ?_
  | o_head evs_cons ?_ ?_ ?_
  | o_head ev_ifeI ?_ ?_ ?_
  | o_head ev_abs (by assumption) (by assumption) ?_ ?_ ?_ ?_
  | o_head ev_min2 (by assumption) (by assumption) ?_ ?_ ?_ ?_ ?_ ?_ ?_
  | o_head ev_max2 (by assumption) (by assumption) ?_ ?_ ?_ ?_ ?_ ?_ ?_
  | o_head ev_max3f (by assumption) (by assumption) ?_ ?_ ?_ ?_ ?_ ?_ ?_ ?_ ?_
  | o_head ev_min3f (by assumption) (by assumption) ?_ ?_ ?_ ?_ ?_ ?_ ?_ ?_ ?_
  | o_head ev_int (by assumption) (by assumption) ?_ ?_ ?_ ?_ ?_
  | o_head ev_maxL (by assumption) (by assumption) ?_ ?_ ?_ ?_ ?_
  | o_head ev_minL (by assumption) (by assumption) ?_ ?_ ?_ ?_ ?_
  | o_head ev_item_dct ?_ ?_ ?_ ?_
  | o_head ev_len (by assumption) (by assumption) ?_ ?_ ?_ ?_ ?_
  | o_head ev_lenD (by assumption) (by assumption) ?_ ?_ ?_ ?_ ?_ ?_
  | o_head ev_range1 (by assumption) (by assumption) ?_ ?_ ?_ ?_
  | o_head ev_range2 (by assumption) (by assumption) ?_ ?_ ?_ ?_ ?_ ?_
  | o_head tst_lt ?_ ?_ ?_
  | o_head tst_gt ?_ ?_ ?_
  | o_head tst_le ?_ ?_ ?_
  | o_head tst_eq ?_ ?_ ?_
  | o_head tst_ne ?_ ?_ ?_
  | o_head tst_flt ?_ ?_ ?_
  | o_head tst_fgt ?_ ?_ ?_
  | o_head tst_fle ?_ ?_ ?_
  | o_head tst_feq ?_ ?_ ?_
  | o_head ev_not ?_
  | o_head ev_gt ?_ ?_ ?_
  | o_head ev_le ?_ ?_ ?_
  | o_head ev_ge ?_ ?_ ?_
  | o_head ev_eq ?_ ?_ ?_)

section
open PySem PySem.W PySem.Calls PyProof.Rows
set_option maxRecDepth 100000
set_option linter.unusedVariables false
variable {prog : Program} {w : World}
section
variable {A : Around} {X : Addr → Prop} {h₀ h : Heap} {env : Env} {mg mb : Str → Option Value} {name qual : Str} {doc pm cd ct : Value} {an : Option Addr} {f : Addr} {turn part level : Int}
theorem partsC {vs : List Value} (G : Glo mg mb h₀) (hb : Grow h₀ h) (R : Rm A 1) (F : FnAt h f (fdOf 12 name qual .none .none doc pm an cd ct)) (hr : Reps prog w X h [.int turn, .int part, .int level] vs)
    (ht : 0 ≤ turn ∧ turn < 64) (hp : 0 ≤ part ∧ part < 3) (hv : 1 ≤ level ∧ level ≤ 4) :
    Op prog w A X h (call (.ref f) vs) (.lst ((partsOf turn part level).map .int)) := by
  refine op_callP ["turn", "part", "level"] F hb (G.lim.keeps hb) R.d (fun s _ => .of_eq ?_) (by rfl) (by rfl) (by decide) hr ?_
  · apply hr.kCons; intro _ _ hu hr; apply hr.kCons; intro _ _ hv hr; apply hr.kCons; intro _ _ hv hr; (first | apply hr.kVal | apply hr.kInt; intro _ | apply hr.kFlt; intro _ _ | apply hr.kBool | apply hr.kNone | apply hr.kNil | cases hr); rfl
  · intro s₁ L E g hX S
    have R' := R.deeper (envAt 12 qual cd L f)
    refine x_newlist S rfl (.inl rfl) fun s2 p hpX hpM S2 => ?_
    refine x_for (ds := [.int 0, .int 64, .int 128]) S2 rfl (.inl rfl) (it_tup R'.hh ?_) (fun i l' ml' => l' = (Str.ofString "parts", D.val (.ref p)) :: (["turn", "part", "level"] : List Str).zip [D.int turn, D.int part, D.int level] ∧ ml' = [(p, .lst ((([0, 64, 128] : List Int).take i).map fun c => .int (partOf turn part level c)))]) ⟨rfl, rfl⟩ ?_ ?_
    · kat_tups
    · rintro X' i d l₁ ml₁ s₁' E' hXX hd ⟨rfl, rfl⟩ S3
      obtain ⟨c, rfl, hc, hi⟩ : ∃ c : Int, d = .int c ∧ (0 ≤ c ∧ c ≤ 128) ∧ (([0, 64, 128] : List Int).take (i + 1)) = (([0, 64, 128] : List Int).take i) ++ [c] := by
        match i, hd with
        | 0, hd => cases hd; exact ⟨0, rfl, by omega, rfl⟩
        | 1, hd => cases hd; exact ⟨64, rfl, by omega, rfl⟩
        | 2, hd => cases hd; exact ⟨128, rfl, by omega, rfl⟩
      refine' x_assign (d := .int (wayOf turn c)) S3 rfl (Go.cast ?he1 ?hd1) (.inl rfl) rfl fun s4 S4 => ?k1
      case he1 => kat_tups
      case hd1 => rfl
      refine' x_assign (d := .int (fallOf turn c)) S4 rfl (Go.cast ?he2 ?hd2) (.inl rfl) rfl fun s5 S5 => ?k2
      case he2 => kat_tups
      case hd2 => rfl
      have hf : 0 ≤ fallOf turn c ∧ fallOf turn c ≤ 32 := by unfold fallOf clampC clampB; omega
      refine' x_append (d := .int (partOf turn part level c)) S5 rfl (Go.cast ?he3 ?hd3) ?hs3 rfl (fun s6 S6 => ?k3) rfl rfl rfl
      case he3 => kat_tups
      case hd3 => rfl
      case hs3 => simp; have := List.length_take_le i ([0, 64, 128] : List Int); rw [sizeLine_eq]; simp at this; omega
      refine x_nil ⟨.inl rfl, _, _, ⟨rfl, ?_⟩, ((S6.drop (by rfl)).drop (by rfl)).drop (by rfl)⟩
      rw [hi, List.map_append]; rfl
    · rintro s' l' ml' ⟨rfl, rfl⟩ S3
      refine' x_ret S3 (d := .val (.ref p)) ?he4 fun s4 v S4 r => ?k4
      case he4 => kat_tups
      (first | apply r.kVal | apply r.kInt; intro _ | apply r.kFlt; intro _ _ | apply r.kBool | apply r.kNone | apply r.kNil | cases r)
      exact S4.ret (mp_off hpM) ((S4.muts _ (.head _)).2.2.rep (fun b hb => .inl hb) hpX)
end
end

section
open PySem PySem.W PySem.Calls PyProof.Rows
set_option maxRecDepth 100000
set_option linter.unusedVariables false
variable {prog : Program} {w : World}
section
variable {A : Around} {X : Addr → Prop} {h₀ h : Heap} {env : Env} {mg mb : Str → Option Value} {name qual : Str} {doc pm cd ct : Value} {an : Option Addr} {f : Addr} {turn part level : Int}
noncomputable def roomOf (part level : Int) : Int := if decide (level * (4 - part) ≤ 8) then level * (4 - part) else 16 - level * (4 - part)
noncomputable def toldD (turn part level : Int) : List D :=
  if part = 0 then [.flt 0, .flt (Float64.div (Float64.ofInt level) 4616189618054758400), .flt 0]
  else [.flt (Float64.div (Float64.ofInt turn) 4634204016564240384), .flt (Float64.div (Float64.ofInt (level * (4 - part))) 4625196817309499392), .flt (Float64.div (Float64.ofInt (Int.fdiv (840 * level * part) (roomOf part level))) 4650599933957636096)]
theorem room_facts (hp : 1 ≤ part ∧ part < 3) (hv : 1 ≤ level ∧ level ≤ 4) : (2 ≤ level * (4 - part) ∧ level * (4 - part) ≤ 12) ∧ (2 ≤ roomOf part level ∧ roomOf part level ≤ 8) ∧ (0 ≤ Int.fdiv (840 * level * part) (roomOf part level) ∧ Int.fdiv (840 * level * part) (roomOf part level) ≤ 6720) := by
  have hp' : part = 1 ∨ part = 2 := by lia
  have hv' : level = 1 ∨ level = 2 ∨ level = 3 ∨ level = 4 := by lia
  rcases hp' with rfl | rfl <;> rcases hv' with rfl | rfl | rfl | rfl <;> decide +kernel
theorem toldC {vs : List Value} (G : Glo mg mb h₀) (hb : Grow h₀ h) (R : Rm A 1) (F : FnAt h f (fdOf 13 name qual .none .none doc pm an cd ct)) (hr : Reps prog w X h [.int turn, .int part, .int level] vs)
    (ht : 0 ≤ turn ∧ turn < 64) (hp : 0 ≤ part ∧ part < 3) (hv : 1 ≤ level ∧ level ≤ 4) :
    Op prog w A X h (call (.ref f) vs) (.tup (toldD turn part level)) := by
  refine op_callP ["turn", "part", "level"] F hb (G.lim.keeps hb) R.d (fun s _ => .of_eq ?_) (by rfl) (by rfl) (by decide) hr ?_
  · apply hr.kCons; intro _ _ hu hr; apply hr.kCons; intro _ _ hv hr; apply hr.kCons; intro _ _ hv hr; (first | apply hr.kVal | apply hr.kInt; intro _ | apply hr.kFlt; intro _ _ | apply hr.kBool | apply hr.kNone | apply hr.kNil | cases hr); rfl
  · intro s₁ L E g hX S
    have R' := R.deeper (envAt 13 qual cd L f)
    refine' x_if (b := part == 0) S ?ht1 fun s2 S2 => ?k1
    case ht1 => kat_tups
    by_cases hp0 : part = 0
    · subst hp0
      refine' x_ret S2 (d := .tup (toldD turn 0 level)) (Go.cast ?he2 ?hd2) fun s' v S' r => S'.ret0 r
      case he2 => kat_tups
      case hd2 => rfl
    · have hq : (part == 0) = false := by simpa using hp0
      rw [hq]
      refine x_nil ?_
      obtain ⟨f1, f2, f3⟩ := room_facts (part := part) (level := level) (by omega) hv
      refine' x_assign (d := .int (level * (4 - part))) S2 rfl (Go.cast ?he3 ?hd3) (.inl rfl) rfl fun s4 S4 => ?k3
      case he3 => kat_tups
      case hd3 => rfl
      refine' x_assign (d := .int (roomOf part level)) S4 rfl (Go.cast ?he4 ?hd4) (.inl rfl) rfl fun s5 S5 => ?k4
      case he4 => kat_tups
      case hd4 => rfl
      have b840 : -(2 ^ 64) < 840 * level ∧ 840 * level < 2 ^ 64 := by omega
      refine' x_ret S5 (d := .tup (toldD turn part level)) (Go.cast ?he5 ?hd5) fun s' v S' r => S'.ret0 r
      case he5 => kat_tups
      case hd5 => unfold toldD; rw [if_neg hp0]
end
end

section
open PySem PySem.W PySem.Calls PyProof.Rows
set_option maxRecDepth 100000
set_option linter.unusedVariables false
variable {prog : Program} {w : World}
section
variable {A : Around} {X : Addr → Prop} {h₀ h : Heap} {env : Env} {mg mb : Str → Option Value} {name qual : Str} {doc pm cd ct : Value} {an : Option Addr} {f : Addr} {a b c d : Int}
theorem crossC {vs : List Value} (G : Glo mg mb h₀) (hb : Grow h₀ h) (R : Rm A 1) (F : FnAt h f (fdOf 14 name qual .none .none doc pm an cd ct)) (hr : Reps prog w X h [.tup [.int a, .int b], .tup [.int c, .int d]] vs) (h1 : -(2 ^ 64) < a) (h2 : a < 2 ^ 64) (h3 : -(2 ^ 64) < b) (h4 : b < 2 ^ 64) :
    Op prog w A X h (call (.ref f) vs) (.int (a * d - b * c)) := by
  refine op_callP ["one", "two"] F hb (G.lim.keeps hb) R.d (fun s _ => .of_eq ?_) (by rfl) (by rfl) (by decide) hr ?_
  · apply hr.kCons; intro _ _ hu hr; apply hr.kCons; intro _ _ hv hr; (first | apply hr.kVal | apply hr.kInt; intro _ | apply hr.kFlt; intro _ _ | apply hr.kBool | apply hr.kNone | apply hr.kNil | cases hr); rfl
  · intro s₁ L E g hX S
    refine' x_ret S (Go.cast ?he_1 ?hd_1) fun s' v S' r => S'.ret0 r
    case he_1 => kat_tups
    case hd_1 => rfl
theorem ev_cross {e1 e2 : Expr} {p pos : Pos} (G : Glo mg mb h₀) (F : FE env) (g : Grow h₀ h) (R : Rm A 1) (hx : env.kindOf "_law_cross" = some .globalImplicit) (he1 : Ev prog w A X env h e1 (.tup [.int a, .int b])) (he2 : Ev prog w A X env h e2 (.tup [.int c, .int d]))
    (h1 : -(2 ^ 64) < a) (h2 : a < 2 ^ 64) (h3 : -(2 ^ 64) < b) (h4 : b < 2 ^ 64) (hst : starEach [e1, e2] env = (false, eval e1 env) :: starEach [e2] env) (hst2 : starEach [e2] env = (false, eval e2 env) :: starEach [] env) :
    Ev prog w A X env h (.Call (.Name "_law_cross" p) [e1, e2] [] pos) (.int (a * d - b * c)) :=
  ev_fn G F g hx (by rfl) (evs_cons he1 (evs_cons he2 evs_nil hst2) hst) (fun h' vs f name qual doc pm an cd ct g' FF r => crossC G (g.trans g') R FF r h1 h2 h3 h4) (by rfl) hst
theorem sideC {vs : List Value} (G : Glo mg mb h₀) (hb : Grow h₀ h) (R : Rm A 1) (F : FnAt h f (fdOf 15 name qual .none .none doc pm an cd ct)) (hr : Reps prog w X h [.tup [.int a, .int b], .tup [.int c, .int d]] vs) (h1 : -(2 ^ 64) < a) (h2 : a < 2 ^ 64) (h3 : -(2 ^ 64) < b) (h4 : b < 2 ^ 64) :
    Op prog w A X h (call (.ref f) vs) (.bool (decide (0 < a * c + b * d))) := by
  refine op_callP ["one", "two"] F hb (G.lim.keeps hb) R.d (fun s _ => .of_eq ?_) (by rfl) (by rfl) (by decide) hr ?_
  · apply hr.kCons; intro _ _ hu hr; apply hr.kCons; intro _ _ hv hr; (first | apply hr.kVal | apply hr.kInt; intro _ | apply hr.kFlt; intro _ _ | apply hr.kBool | apply hr.kNone | apply hr.kNil | cases hr); rfl
  · intro s₁ L E g hX S
    refine' x_ret S (Go.cast ?he_2 ?hd_2) fun s' v S' r => S'.ret0 r
    case he_2 => kat_tups
    case hd_2 => rfl
theorem ev_side {e1 e2 : Expr} {p pos : Pos} (G : Glo mg mb h₀) (F : FE env) (g : Grow h₀ h) (R : Rm A 1) (hx : env.kindOf "_law_same_side" = some .globalImplicit) (he1 : Ev prog w A X env h e1 (.tup [.int a, .int b])) (he2 : Ev prog w A X env h e2 (.tup [.int c, .int d]))
    (h1 : -(2 ^ 64) < a) (h2 : a < 2 ^ 64) (h3 : -(2 ^ 64) < b) (h4 : b < 2 ^ 64) (hst : starEach [e1, e2] env = (false, eval e1 env) :: starEach [e2] env) (hst2 : starEach [e2] env = (false, eval e2 env) :: starEach [] env) :
    Ev prog w A X env h (.Call (.Name "_law_same_side" p) [e1, e2] [] pos) (.bool (decide (0 < a * c + b * d))) :=
  ev_fn G F g hx (by rfl) (evs_cons he1 (evs_cons he2 evs_nil hst2) hst) (fun h' vs f name qual doc pm an cd ct g' FF r => sideC G (g.trans g') R FF r h1 h2 h3 h4) (by rfl) hst
end
end

section
open PySem PySem.W PySem.Calls PyProof.Rows
set_option maxRecDepth 100000
set_option linter.unusedVariables false
variable {prog : Program} {w : World}
section
variable {A : Around} {X : Addr → Prop} {h₀ h : Heap} {env : Env} {mg mb : Str → Option Value} {name qual : Str} {doc pm cd ct : Value} {an : Option Addr} {f : Addr} {r g b : UInt64}
noncomputable def feq (a b : UInt64) : Bool := Float64.cmp a b == some Ordering.eq
noncomputable def fle (a b : UInt64) : Bool := Float64.cmp a b == some Ordering.lt || Float64.cmp a b == some Ordering.eq
noncomputable def lSum (r g b : UInt64) : UInt64 := Float64.add (max3 r g b) (min3 r g b)
noncomputable def lRng (r g b : UInt64) : UInt64 := Float64.sub (max3 r g b) (min3 r g b)
noncomputable def lL (r g b : UInt64) : UInt64 := Float64.div (lSum r g b) 4611686018427387904
noncomputable def lTwo (r g b : UInt64) : UInt64 := Float64.sub (Float64.sub 4611686018427387904 (max3 r g b)) (min3 r g b)
noncomputable def lS (r g b : UInt64) : UInt64 := if fle (lL r g b) 4602678819172646912 then Float64.div (lRng r g b) (lSum r g b) else Float64.div (lRng r g b) (lTwo r g b)
noncomputable def lC (x r g b : UInt64) : UInt64 := Float64.div (Float64.sub (max3 r g b) x) (lRng r g b)
noncomputable def lH (r g b : UInt64) : UInt64 := if feq r (max3 r g b) then Float64.sub (lC b r g b) (lC g r g b) else if feq g (max3 r g b) then Float64.sub (Float64.add 4611686018427387904 (lC r r g b)) (lC b r g b) else Float64.sub (Float64.add 4616189618054758400 (lC g r g b)) (lC r r g b)
noncomputable def hlsF (r g b : UInt64) : List UInt64 := if feq (min3 r g b) (max3 r g b) then [0, lL r g b, 0] else [(Float64.divmod (Float64.div (lH r g b) 4618441417868443648) 4607182418800017408).snd, lL r g b, lS r g b]
noncomputable def hlsOk (r g b : UInt64) : Bool := feq (min3 r g b) (max3 r g b) || (!Float64.isZero (lRng r g b) && (if fle (lL r g b) 4602678819172646912 then !Float64.isZero (lSum r g b) else !Float64.isZero (lTwo r g b)))
set_option maxHeartbeats 1000000 in
theorem hlsC {vs : List Value} (G : Glo mg mb h₀) (hb : Grow h₀ h) (R : Rm A 1) (F : FnAt h f (fdOf 5 name qual .none .none doc pm an cd ct)) (hr : Reps prog w X h [.flt r, .flt g, .flt b] vs) (hok : hlsOk r g b = true) :
    Op prog w A X h (call (.ref f) vs) (.tup ((hlsF r g b).map .flt)) := by
  refine op_callP ["r", "g", "b"] F hb (G.lim.keeps hb) R.d (fun s _ => .of_eq ?_) (by rfl) (by rfl) (by decide) hr ?_
  · apply hr.kCons; intro _ _ hu hr; apply hr.kCons; intro _ _ hv hr; apply hr.kCons; intro _ _ hv hr; (first | apply hr.kVal | apply hr.kInt; intro _ | apply hr.kFlt; intro _ _ | apply hr.kBool | apply hr.kNone | apply hr.kNil | cases hr); rfl
  · intro s₁ L E gg hX S
    have R' := R.deeper (envAt 5 qual cd L f)
    refine' x_assign (d := .flt (max3 r g b)) S rfl (Go.cast ?he1 ?hd1) (.inl rfl) rfl fun s2 S2 => ?k1
    case he1 => kat_tups
    case hd1 => rfl
    refine' x_assign (d := .flt (min3 r g b)) S2 rfl (Go.cast ?he2 ?hd2) (.inl rfl) rfl fun s3 S3 => ?k2
    case he2 => kat_tups
    case hd2 => rfl
    refine' x_assign (d := .flt (lSum r g b)) S3 rfl (Go.cast ?he3 ?hd3) (.inl rfl) rfl fun s4 S4 => ?k3
    case he3 => kat_tups
    case hd3 => rfl
    refine' x_assign (d := .flt (lRng r g b)) S4 rfl (Go.cast ?he4 ?hd4) (.inl rfl) rfl fun s5 S5 => ?k4
    case he4 => kat_tups
    case hd4 => rfl
    refine' x_assign (d := .flt (lL r g b)) S5 rfl (Go.cast ?he5 ?hd5) (.inl rfl) rfl fun s6 S6 => ?k5
    case he5 => kat_tups
    case hd5 => rfl
    refine' x_if (b := feq (min3 r g b) (max3 r g b)) S6 (Go.castB ?ht6 ?hd6) fun s7 S7 => ?k6
    case ht6 => kat_tups
    case hd6 => rfl
    by_cases h1 : feq (min3 r g b) (max3 r g b) = true
    · rw [h1]
      refine' x_ret S7 (d := .tup ((hlsF r g b).map .flt)) (Go.cast ?he7 ?hd7) fun s' v S' r => S'.ret0 r
      case he7 => kat_tups
      case hd7 => unfold hlsF; rw [if_pos h1]; rfl
    · have h1' : feq (min3 r g b) (max3 r g b) = false := by simpa using h1
      rw [h1']
      refine x_nil ?_
      rw [hlsOk, h1', Bool.false_or, Bool.and_eq_true] at hok
      obtain ⟨hz1, hz2⟩ := hok
      have z1 : ¬ Float64.isZero (lRng r g b) = true := by simpa using hz1
      refine' x_ifJ (b := fle (lL r g b) 4602678819172646912) ((Str.ofString "s", .flt (lS r g b)) :: _) S7 (Go.castB ?ht8 ?hd8) ?hj fun s9 S9 => ?k8
      case ht8 => kat_tups
      case hd8 => rfl
      case hj =>
        intro s8 Q' S8 k'
        by_cases h2 : fle (lL r g b) 4602678819172646912 = true
        · rw [if_pos h2] at hz2
          have z2 : ¬ Float64.isZero (lSum r g b) = true := by simpa using hz2
          rw [h2]
          refine' x_assign (d := .flt (lS r g b)) S8 rfl (Go.cast ?he9 ?hd9) (.inl rfl) rfl fun s9 S9 => x_nil (k' _ S9)
          case he9 => kat_tups
          case hd9 => unfold lS; rw [if_pos h2]
        · rw [if_neg h2] at hz2
          have z2 : ¬ Float64.isZero (lTwo r g b) = true := by simpa using hz2
          have z3 : ¬ Float64.isZero (Float64.sub (Float64.sub 4611686018427387904 (max3 r g b)) (min3 r g b)) = true := z2
          have h2' : fle (lL r g b) 4602678819172646912 = false := by simpa using h2
          rw [h2']
          refine' x_assign (d := .flt (lS r g b)) S8 rfl (Go.cast ?he10 ?hd10) (.inl rfl) rfl fun s9 S9 => x_nil (k' _ S9)
          case he10 => kat_tups
          case hd10 => unfold lS; rw [if_neg h2]; rfl
      refine' x_assign (d := .flt (lC r r g b)) S9 rfl (Go.cast ?he11 ?hd11) (.inl rfl) rfl fun s10 S10 => ?k11
      case he11 => kat_tups
      case hd11 => rfl
      refine' x_assign (d := .flt (lC g r g b)) S10 rfl (Go.cast ?he12 ?hd12) (.inl rfl) rfl fun s11 S11 => ?k12
      case he12 => kat_tups
      case hd12 => rfl
      refine' x_assign (d := .flt (lC b r g b)) S11 rfl (Go.cast ?he13 ?hd13) (.inl rfl) rfl fun s12 S12 => ?k13
      case he13 => kat_tups
      case hd13 => rfl
      refine' x_ifJ (b := feq r (max3 r g b)) ((Str.ofString "h", .flt (lH r g b)) :: _) S12 (Go.castB ?ht14 ?hd14) ?hj2 fun s14 S14 => ?k14
      case ht14 => kat_tups
      case hd14 => rfl
      case hj2 =>
        intro s13 Q' S13 k'
        by_cases h3 : feq r (max3 r g b) = true
        · rw [h3]
          refine' x_assign (d := .flt (lH r g b)) S13 rfl (Go.cast ?he15 ?hd15) (.inl rfl) rfl fun s9 S9 => x_nil (k' _ S9)
          case he15 => kat_tups
          case hd15 => unfold lH; rw [if_pos h3]
        · have h3' : feq r (max3 r g b) = false := by simpa using h3
          rw [h3']
          refine' x_if (b := feq g (max3 r g b)) S13 (Go.castB ?ht16 ?hd16) fun s15 S15 => ?k16
          case ht16 => kat_tups
          case hd16 => rfl
          by_cases h4 : feq g (max3 r g b) = true
          · rw [h4]
            refine' x_assign (d := .flt (lH r g b)) S15 rfl (Go.cast ?he17 ?hd17) (.inl rfl) rfl fun s9 S9 => x_nil (x_nil (k' _ S9))
            case he17 => kat_tups
            case hd17 => unfold lH; rw [if_neg h3, if_pos h4]
          · have h4' : feq g (max3 r g b) = false := by simpa using h4
            rw [h4']
            refine' x_assign (d := .flt (lH r g b)) S15 rfl (Go.cast ?he18 ?hd18) (.inl rfl) rfl fun s9 S9 => x_nil (x_nil (k' _ S9))
            case he18 => kat_tups
            case hd18 => unfold lH; rw [if_neg h3, if_neg h4]
      refine' x_assign (d := .flt (Float64.divmod (Float64.div (lH r g b) 4618441417868443648) 4607182418800017408).snd) S14 rfl (Go.cast ?he19 ?hd19) (.inl rfl) rfl fun s16 S16 => ?k19
      case he19 => kat_tups
      case hd19 => rfl
      refine' x_ret S16 (d := .tup ((hlsF r g b).map .flt)) (Go.cast ?he20 ?hd20) fun s' v S' r => S'.ret0 r
      case he20 => kat_tups
      case hd20 => unfold hlsF; rw [if_neg h1]; rfl
end
end

section
open PySem PySem.W PySem.Calls PyProof.Rows
set_option maxRecDepth 100000
set_option linter.unusedVariables false
variable {prog : Program} {w : World}
section
variable {A : Around} {X : Addr → Prop} {h₀ h : Heap} {env : Env} {mg mb : Str → Option Value} {name qual : Str} {doc pm cd ct : Value} {an : Option Addr} {f : Addr} {hu sa va : UInt64}
noncomputable def c6 : UInt64 := 4618441417868443648
noncomputable def c1 : UInt64 := 4607182418800017408
noncomputable def hI (hu : UInt64) : Int := match Float64.decode (Float64.mul hu 4618441417868443648) with | .fin sg m e => Float64.truncOf sg m e | _ => 0
noncomputable def hF (hu : UInt64) : UInt64 := Float64.sub (Float64.mul hu 4618441417868443648) (Float64.ofInt (hI hu))
noncomputable def hP (hu sa va : UInt64) : UInt64 := Float64.mul va (Float64.sub 4607182418800017408 sa)
noncomputable def hQ (hu sa va : UInt64) : UInt64 := Float64.mul va (Float64.sub 4607182418800017408 (Float64.mul sa (hF hu)))
noncomputable def hT (hu sa va : UInt64) : UInt64 := Float64.mul va (Float64.sub 4607182418800017408 (Float64.mul sa (Float64.sub 4607182418800017408 (hF hu))))
noncomputable def hsvK (hu sa va : UInt64) (r : Int) : List UInt64 :=
  if r = 0 then [va, hT hu sa va, hP hu sa va] else if r = 1 then [hQ hu sa va, va, hP hu sa va] else if r = 2 then [hP hu sa va, va, hT hu sa va]
  else if r = 3 then [hP hu sa va, hQ hu sa va, va] else if r = 4 then [hT hu sa va, hP hu sa va, va] else [va, hP hu sa va, hQ hu sa va]
noncomputable def hsvF (hu sa va : UInt64) : List UInt64 := if (Float64.cmp sa 0 == some Ordering.eq) = true then [va, va, va] else hsvK hu sa va (Int.fmod (hI hu) 6)
noncomputable def hOk (hu : UInt64) : Bool := (match Float64.decode (Float64.mul hu 4618441417868443648) with | .fin _ _ _ => true | _ => false) && decide (-1000 < hI hu) && decide (hI hu < 1000)
set_option maxHeartbeats 1000000 in
theorem hsvC {vs : List Value} (G : Glo mg mb h₀) (hb : Grow h₀ h) (R : Rm A 1) (F : FnAt h f (fdOf 6 name qual .none .none doc pm an cd ct)) (hr : Reps prog w X h [.flt hu, .flt sa, .flt va] vs) (hok : hOk hu = true) :
    Op prog w A X h (call (.ref f) vs) (.tup ((hsvF hu sa va).map .flt)) := by
  refine op_callP ["h", "s", "v"] F hb (G.lim.keeps hb) R.d (fun s _ => .of_eq ?_) (by rfl) (by rfl) (by decide) hr ?_
  · apply hr.kCons; intro _ _ hu hr; apply hr.kCons; intro _ _ hv hr; apply hr.kCons; intro _ _ hv hr; (first | apply hr.kVal | apply hr.kInt; intro _ | apply hr.kFlt; intro _ _ | apply hr.kBool | apply hr.kNone | apply hr.kNil | cases hr); rfl
  · intro s₁ L E g hX S
    have R' := R.deeper (envAt 6 qual cd L f)
    simp only [hOk, Bool.and_eq_true, decide_eq_true_eq] at hok
    obtain ⟨⟨hd0, hb1⟩, hb2⟩ := hok
    obtain ⟨sg, m, ex, hdc⟩ : ∃ sg m ex, Float64.decode (Float64.mul hu 4618441417868443648) = .fin sg m ex := by
      split at hd0
      · rename_i sg m ex q; exact ⟨sg, m, ex, q⟩
      · cases hd0
    have hIe : hI hu = Float64.truncOf sg m ex := by unfold hI; rw [hdc]
    refine' x_if S ?ht1 fun s2 S2 => ?k1
    case ht1 => kat_tups
    by_cases hs0 : (Float64.cmp sa 0 == some Ordering.eq) = true
    · rw [hs0]
      refine' x_ret S2 (d := .tup ((hsvF hu sa va).map .flt)) (Go.cast ?he2 ?hd2) fun s' v S' r => S'.ret0 r
      case he2 => kat_tups
      case hd2 => unfold hsvF; rw [if_pos hs0]; rfl
    · have hs1 : (Float64.cmp sa 0 == some Ordering.eq) = false := by simpa using hs0
      rw [hs1]
      refine x_nil ?_
      refine' x_assign (d := .int (hI hu)) S2 rfl (Go.cast ?he3 ?hd3) (.inl rfl) rfl fun s3 S3 => ?k3
      case he3 => kat_tups
      case hd3 => rw [hIe]
      refine' x_assign (d := .flt (hF hu)) S3 rfl (Go.cast ?he4 ?hd4) (.inl rfl) rfl fun s4 S4 => ?k4
      case he4 => kat_tups
      case hd4 => rfl
      refine' x_assign (d := .flt (hP hu sa va)) S4 rfl (Go.cast ?he5 ?hd5) (.inl rfl) rfl fun s5 S5 => ?k5
      case he5 => kat_tups
      case hd5 => rfl
      refine' x_assign (d := .flt (hQ hu sa va)) S5 rfl (Go.cast ?he6 ?hd6) (.inl rfl) rfl fun s6 S6 => ?k6
      case he6 => kat_tups
      case hd6 => rfl
      refine' x_assign (d := .flt (hT hu sa va)) S6 rfl (Go.cast ?he7 ?hd7) (.inl rfl) rfl fun s7 S7 => ?k7
      case he7 => kat_tups
      case hd7 => rfl
      obtain ⟨r, hr6⟩ : ∃ r : Int, Int.fmod (hI hu) 6 = r := ⟨_, rfl⟩
      have hr0 : 0 ≤ r ∧ r < 6 := by rw [← hr6]; exact ⟨Int.fmod_nonneg_of_pos _ (by decide), Int.fmod_lt_of_pos _ (by decide)⟩
      refine' x_assign (d := .int r) S7 rfl (Go.cast ?he8 ?hd8) (.inl rfl) rfl fun s8 S8 => ?k8
      case he8 => kat_tups
      case hd8 => rw [hr6]
      have hfin : hsvF hu sa va = hsvK hu sa va r := by unfold hsvF; rw [if_neg hs0, hr6]
      rw [hfin]
      have hcase : r = 0 ∨ r = 1 ∨ r = 2 ∨ r = 3 ∨ r = 4 ∨ r = 5 := by lia
      clear hr0 hr6 hfin
      rcases hcase with rfl | rfl | rfl | rfl | rfl | rfl
      · refine' x_if (b := true) (by assumption) (Go.castB ?ht9 ?hd9) (fun s9 S9 => ?k9)
        case ht9 => kat_tups
        case hd9 => rfl
        refine' x_ret S9 (d := .tup ((hsvK hu sa va 0).map .flt)) (Go.cast ?he10 ?hd10) fun s' v S' r => S'.ret0 r
        case he10 => kat_tups
        case hd10 => rfl
      · refine' x_if (b := false) (by assumption) (Go.castB ?ht11 ?hd11) (fun _ _ => x_nil ?k11)
        case ht11 => kat_tups
        case hd11 => rfl
        refine' x_if (b := true) (by assumption) (Go.castB ?ht12 ?hd12) (fun s9 S9 => ?k12)
        case ht12 => kat_tups
        case hd12 => rfl
        refine' x_ret S9 (d := .tup ((hsvK hu sa va 1).map .flt)) (Go.cast ?he13 ?hd13) fun s' v S' r => S'.ret0 r
        case he13 => kat_tups
        case hd13 => rfl
      · refine' x_if (b := false) (by assumption) (Go.castB ?ht14 ?hd14) (fun _ _ => x_nil ?k14)
        case ht14 => kat_tups
        case hd14 => rfl
        refine' x_if (b := false) (by assumption) (Go.castB ?ht15 ?hd15) (fun _ _ => x_nil ?k15)
        case ht15 => kat_tups
        case hd15 => rfl
        refine' x_if (b := true) (by assumption) (Go.castB ?ht16 ?hd16) (fun s9 S9 => ?k16)
        case ht16 => kat_tups
        case hd16 => rfl
        refine' x_ret S9 (d := .tup ((hsvK hu sa va 2).map .flt)) (Go.cast ?he17 ?hd17) fun s' v S' r => S'.ret0 r
        case he17 => kat_tups
        case hd17 => rfl
      · refine' x_if (b := false) (by assumption) (Go.castB ?ht18 ?hd18) (fun _ _ => x_nil ?k18)
        case ht18 => kat_tups
        case hd18 => rfl
        refine' x_if (b := false) (by assumption) (Go.castB ?ht19 ?hd19) (fun _ _ => x_nil ?k19)
        case ht19 => kat_tups
        case hd19 => rfl
        refine' x_if (b := false) (by assumption) (Go.castB ?ht20 ?hd20) (fun _ _ => x_nil ?k20)
        case ht20 => kat_tups
        case hd20 => rfl
        refine' x_if (b := true) (by assumption) (Go.castB ?ht21 ?hd21) (fun s9 S9 => ?k21)
        case ht21 => kat_tups
        case hd21 => rfl
        refine' x_ret S9 (d := .tup ((hsvK hu sa va 3).map .flt)) (Go.cast ?he22 ?hd22) fun s' v S' r => S'.ret0 r
        case he22 => kat_tups
        case hd22 => rfl
      · refine' x_if (b := false) (by assumption) (Go.castB ?ht23 ?hd23) (fun _ _ => x_nil ?k23)
        case ht23 => kat_tups
        case hd23 => rfl
        refine' x_if (b := false) (by assumption) (Go.castB ?ht24 ?hd24) (fun _ _ => x_nil ?k24)
        case ht24 => kat_tups
        case hd24 => rfl
        refine' x_if (b := false) (by assumption) (Go.castB ?ht25 ?hd25) (fun _ _ => x_nil ?k25)
        case ht25 => kat_tups
        case hd25 => rfl
        refine' x_if (b := false) (by assumption) (Go.castB ?ht26 ?hd26) (fun _ _ => x_nil ?k26)
        case ht26 => kat_tups
        case hd26 => rfl
        refine' x_if (b := true) (by assumption) (Go.castB ?ht27 ?hd27) (fun s9 S9 => ?k27)
        case ht27 => kat_tups
        case hd27 => rfl
        refine' x_ret S9 (d := .tup ((hsvK hu sa va 4).map .flt)) (Go.cast ?he28 ?hd28) fun s' v S' r => S'.ret0 r
        case he28 => kat_tups
        case hd28 => rfl
      · refine' x_if (b := false) (by assumption) (Go.castB ?ht29 ?hd29) (fun _ _ => x_nil ?k29)
        case ht29 => kat_tups
        case hd29 => rfl
        refine' x_if (b := false) (by assumption) (Go.castB ?ht30 ?hd30) (fun _ _ => x_nil ?k30)
        case ht30 => kat_tups
        case hd30 => rfl
        refine' x_if (b := false) (by assumption) (Go.castB ?ht31 ?hd31) (fun _ _ => x_nil ?k31)
        case ht31 => kat_tups
        case hd31 => rfl
        refine' x_if (b := false) (by assumption) (Go.castB ?ht32 ?hd32) (fun _ _ => x_nil ?k32)
        case ht32 => kat_tups
        case hd32 => rfl
        refine' x_if (b := false) (by assumption) (Go.castB ?ht33 ?hd33) (fun _ _ => x_nil ?k33)
        case ht33 => kat_tups
        case hd33 => rfl
        refine' x_if (b := true) (by assumption) (Go.castB ?ht34 ?hd34) (fun s9 S9 => ?k34)
        case ht34 => kat_tups
        case hd34 => rfl
        refine' x_ret S9 (d := .tup ((hsvK hu sa va 5).map .flt)) (Go.cast ?he35 ?hd35) fun s' v S' r => S'.ret0 r
        case he35 => kat_tups
        case hd35 => rfl
end
end

section
open PySem PySem.W PySem.Calls PyProof.Rows
set_option maxRecDepth 100000
set_option linter.unusedVariables false
variable {prog : Program} {w : World}
section
variable {A : Around} {X : Addr → Prop} {h₀ h : Heap} {env : Env} {mg mb : Str → Option Value} {name qual : Str} {dV kV doc pm cd ct : Value} {an : Option Addr} {f : Addr} {x : UInt64} {xs : List UInt64}
@[reducible] noncomputable def bisL (xs : List UInt64) (x : UInt64) (lo hi : Nat) : List (Str × D) := [("lo", .int lo), ("hi", .int hi), ("a", .lst (xs.map .flt)), ("x", .flt x), ("key", .none)]
set_option maxHeartbeats 1000000 in
theorem bisRC {va vx : Value} {t : Tok} (G : Glo mg mb h₀) (hb : Grow h₀ h) (R : Rm A 1) (F : FnAt h f (fdOf 2 name qual dV kV doc pm an cd ct))
    (hbind : ∀ s : Shared, Grow h s.heap → BindsTo s (fdOf 2 name qual dV kV doc pm an cd ct) ⟨[va, vx], []⟩ ([("a" : Str), "x", "lo", "hi", "key"].zip [va, vx, .int 0 t, .none, .none]))
    (hr : Reps prog w X h [.lst (xs.map .flt), .flt x] [va, vx]) (hlen : xs.length ≤ 1000) (k : Nat) (hk : k ≤ xs.length)
    (h1 : ∀ i y, i < k → xs[i]? = some y → (Float64.cmp x y == some Ordering.lt) = false) (h2 : ∀ i y, k ≤ i → xs[i]? = some y → (Float64.cmp x y == some Ordering.lt) = true) :
    Op prog w A X h (call (.ref f) [va, vx]) (.int k) := by
  obtain ⟨hu, hr⟩ := hr.cons2; obtain ⟨hv, hr⟩ := hr.cons2
  refine op_callP ["a", "x", "lo", "hi", "key"] (ds := [.lst (xs.map .flt), .flt x, .int 0, .none, .none]) F hb (G.lim.keeps hb) R.d hbind (by rfl) (by rfl) (by decide) (.cons hu (.cons hv (.cons (.int 0 t) (.cons .none (.cons .none .nil))))) ?_
  intro s₁ L E g hX S
  have R' := R.deeper (envAt 2 qual cd L f)
  refine' x_if (b := false) S (Go.castB ?ht1 ?hd1) fun s2 S2 => x_nil ?k1
  case ht1 => kat_tups
  case hd1 => rfl
  refine' x_if (b := true) S2 (tst_is_none ?he2 ?hn1) fun s3 S3 => ?k2
  case he2 => kat_tups
  case hn1 => intro h' v r; (first | apply r.kVal | apply r.kInt; intro _ | apply r.kFlt; intro _ _ | apply r.kBool | apply r.kNone | apply r.kNil | cases r); rfl
  refine' x_assign (d := .int xs.length) S3 rfl (Go.cast ?he3 ?hd3) (.inl rfl) rfl fun s4 S4 => x_nil ?k3
  case he3 => kat_tups
  case hd3 => simp
  refine' x_if (b := true) S4 (tst_is_none ?he4 ?hn2) fun s5 S5 => ?k4
  case he4 => kat_tups
  case hn2 => intro h' v r; (first | apply r.kVal | apply r.kInt; intro _ | apply r.kFlt; intro _ _ | apply r.kBool | apply r.kNone | apply r.kNil | cases r); rfl
  have S5' : St prog w h₀ (Xp X L) (One L) (envAt 2 qual cd L f) s₁ s5 (bisL xs x 0 xs.length) [] := S5.to ⟨rfl, rfl, rfl, rfl, rfl, trivial⟩
  refine x_while S5' (fun n l' ml' => ∃ lo hi : Nat, n = hi - lo ∧ lo ≤ k ∧ k ≤ hi ∧ hi ≤ xs.length ∧ l' = bisL xs x lo hi ∧ ml' = []) (fun l' ml' => ∃ hi, l' = bisL xs x k hi ∧ ml' = []) xs.length ⟨0, xs.length, by lia, by lia, hk, by lia, rfl, rfl⟩ ?_ ?_
  · rintro n l₁ ml₁ s6 E6 ⟨lo, hi, rfl, c1, c2, c3, rfl, rfl⟩ S6
    refine ⟨decide (lo < hi), ?_, fun hlt s7 S7 => ?_, fun hge => ?_⟩
    · refine' Go.castB ?ht5 ?hd5
      case ht5 => kat_tups
      case hd5 => simp
    · have hlt : lo < hi := of_decide_eq_true hlt
      have S7r := S7.refl
      refine' x_assign (d := .int (((lo + hi) / 2 : Nat) : Int)) S7 rfl (Go.cast ?he6 ?hd6) (.inl rfl) rfl fun s8 S8 => ?k6
      case he6 => kat_tups
      case hd6 => rw [fdiv2]
      obtain ⟨m, hm⟩ : ∃ m, (lo + hi) / 2 = m := ⟨_, rfl⟩
      rw [hm] at S8
      have hm1 : lo ≤ m ∧ m < hi := by lia
      obtain ⟨y, hy⟩ : ∃ y, xs[m]? = some y := ⟨xs[m]'(by lia), by simp⟩
      have hy' : (xs.map D.flt)[((m : Nat) : Int).toNat]? = some (.flt y) := by simp [hy]
      refine' x_if S8 ?ht7 fun s9 S9 => ?k7
      case ht7 => kat_tups
      by_cases hq : (Float64.cmp x y == some Ordering.lt) = true
      · rw [hq]
        refine' x_assign (d := .int m) S9 rfl (Go.cast ?he8 ?hd8) (.inl rfl) rfl fun s10 S10 => x_nil (x_nil ?k8)
        case he8 => kat_tups
        case hd8 => rfl
        have : k ≤ m := by
          cases Nat.lt_or_ge m k with
          | inl q => have := h1 m y q hy; rw [hq] at this; cases this
          | inr q => exact q
        exact ⟨.inl rfl, m - lo, _, _, by lia, ⟨lo, m, rfl, c1, this, by lia, rfl, rfl⟩, S10.to ⟨rfl, rfl, rfl, rfl, rfl, trivial⟩⟩
      · have hq' : (Float64.cmp x y == some Ordering.lt) = false := by simpa using hq
        rw [hq']
        refine' x_assign (d := .int ((m + 1 : Nat) : Int)) S9 rfl (Go.cast ?he9 ?hd9) (.inl rfl) rfl fun s10 S10 => x_nil (x_nil ?k9)
        case he9 => kat_tups
        case hd9 => simp
        have : m + 1 ≤ k := by
          cases Nat.lt_or_ge m k with
          | inl q => exact q
          | inr q => have := h2 m y q hy; rw [hq'] at this; cases this
        exact ⟨.inl rfl, hi - (m + 1), _, _, by lia, ⟨m + 1, hi, rfl, this, c2, c3, rfl, rfl⟩, S10.to ⟨rfl, rfl, rfl, rfl, rfl, trivial⟩⟩
    · have hge : ¬ lo < hi := of_decide_eq_false hge
      have : lo = k := by lia
      exact ⟨hi, by rw [this], rfl⟩
  · rintro s' l' ml' ⟨hi, rfl, rfl⟩ S6
    refine x_nil ?_
    refine' x_ret S6 (d := .int k) (Go.cast ?he10 ?hd10) fun s' v S' r => S'.ret0 r
    case he10 => kat_tups
    case hd10 => rfl
end
end

section
open PySem PySem.W PySem.Calls PyProof.Rows
set_option maxRecDepth 100000
set_option linter.unusedVariables false
variable {prog : Program} {w : World}
section
variable {A : Around} {X : Addr → Prop} {h₀ h : Heap} {env : Env} {mg mb : Str → Option Value} {name qual : Str} {dV kV doc pm cd ct : Value} {an : Option Addr} {f : Addr} {x : UInt64} {xs : List UInt64}
@[reducible] noncomputable def bisL3 (xs : List UInt64) (x : UInt64) (lo hi : Nat) : List (Str × D) := [("lo", .int lo), ("hi", .int hi), ("a", .lst (xs.map .flt)), ("x", .flt x), ("key", .none)]
set_option maxHeartbeats 1000000 in
theorem bisLC {va vx : Value} {t : Tok} (G : Glo mg mb h₀) (hb : Grow h₀ h) (R : Rm A 1) (F : FnAt h f (fdOf 3 name qual dV kV doc pm an cd ct))
    (hbind : ∀ s : Shared, Grow h s.heap → BindsTo s (fdOf 3 name qual dV kV doc pm an cd ct) ⟨[va, vx], []⟩ ([("a" : Str), "x", "lo", "hi", "key"].zip [va, vx, .int 0 t, .none, .none]))
    (hr : Reps prog w X h [.lst (xs.map .flt), .flt x] [va, vx]) (hlen : xs.length ≤ 1000) (k : Nat) (hk : k ≤ xs.length)
    (h1 : ∀ i y, i < k → xs[i]? = some y → (Float64.cmp y x == some Ordering.lt) = true) (h2 : ∀ i y, k ≤ i → xs[i]? = some y → (Float64.cmp y x == some Ordering.lt) = false) :
    Op prog w A X h (call (.ref f) [va, vx]) (.int k) := by
  obtain ⟨hu, hr⟩ := hr.cons2; obtain ⟨hv, hr⟩ := hr.cons2
  refine op_callP ["a", "x", "lo", "hi", "key"] (ds := [.lst (xs.map .flt), .flt x, .int 0, .none, .none]) F hb (G.lim.keeps hb) R.d hbind (by rfl) (by rfl) (by decide) (.cons hu (.cons hv (.cons (.int 0 t) (.cons .none (.cons .none .nil))))) ?_
  intro s₁ L E g hX S
  have R' := R.deeper (envAt 3 qual cd L f)
  refine' x_if (b := false) S (Go.castB ?ht1 ?hd1) fun s2 S2 => x_nil ?k1
  case ht1 => kat_tups
  case hd1 => rfl
  refine' x_if (b := true) S2 (tst_is_none ?he2 ?hn1) fun s3 S3 => ?k2
  case he2 => kat_tups
  case hn1 => intro h' v r; (first | apply r.kVal | apply r.kInt; intro _ | apply r.kFlt; intro _ _ | apply r.kBool | apply r.kNone | apply r.kNil | cases r); rfl
  refine' x_assign (d := .int xs.length) S3 rfl (Go.cast ?he3 ?hd3) (.inl rfl) rfl fun s4 S4 => x_nil ?k3
  case he3 => kat_tups
  case hd3 => simp
  refine' x_if (b := true) S4 (tst_is_none ?he4 ?hn2) fun s5 S5 => ?k4
  case he4 => kat_tups
  case hn2 => intro h' v r; (first | apply r.kVal | apply r.kInt; intro _ | apply r.kFlt; intro _ _ | apply r.kBool | apply r.kNone | apply r.kNil | cases r); rfl
  have S5' : St prog w h₀ (Xp X L) (One L) (envAt 3 qual cd L f) s₁ s5 (bisL3 xs x 0 xs.length) [] := S5.to ⟨rfl, rfl, rfl, rfl, rfl, trivial⟩
  refine x_while S5' (fun n l' ml' => ∃ lo hi : Nat, n = hi - lo ∧ lo ≤ k ∧ k ≤ hi ∧ hi ≤ xs.length ∧ l' = bisL3 xs x lo hi ∧ ml' = []) (fun l' ml' => ∃ hi, l' = bisL3 xs x k hi ∧ ml' = []) xs.length ⟨0, xs.length, by lia, by lia, hk, by lia, rfl, rfl⟩ ?_ ?_
  · rintro n l₁ ml₁ s6 E6 ⟨lo, hi, rfl, c1, c2, c3, rfl, rfl⟩ S6
    refine ⟨decide (lo < hi), ?_, fun hlt s7 S7 => ?_, fun hge => ?_⟩
    · refine' Go.castB ?ht5 ?hd5
      case ht5 => kat_tups
      case hd5 => simp
    · have hlt : lo < hi := of_decide_eq_true hlt
      have S7r := S7.refl
      refine' x_assign (d := .int (((lo + hi) / 2 : Nat) : Int)) S7 rfl (Go.cast ?he6 ?hd6) (.inl rfl) rfl fun s8 S8 => ?k6
      case he6 => kat_tups
      case hd6 => rw [fdiv2]
      obtain ⟨m, hm⟩ : ∃ m, (lo + hi) / 2 = m := ⟨_, rfl⟩
      rw [hm] at S8
      have hm1 : lo ≤ m ∧ m < hi := by lia
      obtain ⟨y, hy⟩ : ∃ y, xs[m]? = some y := ⟨xs[m]'(by lia), by simp⟩
      have hy' : (xs.map D.flt)[((m : Nat) : Int).toNat]? = some (.flt y) := by simp [hy]
      refine' x_if S8 ?ht7 fun s9 S9 => ?k7
      case ht7 => kat_tups
      by_cases hq : (Float64.cmp y x == some Ordering.lt) = true
      · rw [hq]
        refine' x_assign (d := .int ((m + 1 : Nat) : Int)) S9 rfl (Go.cast ?he8 ?hd8) (.inl rfl) rfl fun s10 S10 => x_nil (x_nil ?k8)
        case he8 => kat_tups
        case hd8 => simp
        have : m + 1 ≤ k := by
          cases Nat.lt_or_ge m k with
          | inl q => exact q
          | inr q => have := h2 m y q hy; rw [hq] at this; cases this
        exact ⟨.inl rfl, hi - (m + 1), _, _, by lia, ⟨m + 1, hi, rfl, this, c2, c3, rfl, rfl⟩, S10.to ⟨rfl, rfl, rfl, rfl, rfl, trivial⟩⟩
      · have hq' : (Float64.cmp y x == some Ordering.lt) = false := by simpa using hq
        rw [hq']
        refine' x_assign (d := .int m) S9 rfl (Go.cast ?he9 ?hd9) (.inl rfl) rfl fun s10 S10 => x_nil (x_nil ?k9)
        case he9 => kat_tups
        case hd9 => rfl
        have : k ≤ m := by
          cases Nat.lt_or_ge m k with
          | inl q => have := h1 m y q hy; rw [hq'] at this; cases this
          | inr q => exact q
        exact ⟨.inl rfl, m - lo, _, _, by lia, ⟨lo, m, rfl, c1, this, by lia, rfl, rfl⟩, S10.to ⟨rfl, rfl, rfl, rfl, rfl, trivial⟩⟩
    · have hge : ¬ lo < hi := of_decide_eq_false hge
      have : lo = k := by lia
      exact ⟨hi, by rw [this], rfl⟩
  · rintro s' l' ml' ⟨hi, rfl, rfl⟩ S6
    refine x_nil ?_
    refine' x_ret S6 (d := .int k) (Go.cast ?he10 ?hd10) fun s' v S' r => S'.ret0 r
    case he10 => kat_tups
    case hd10 => rfl
end
end

section
open PySem PySem.W PySem.Calls PyProof.Rows
set_option maxRecDepth 100000
set_option linter.unusedVariables false
variable {prog : Program} {w : World}
section
variable {A : Around} {X : Addr → Prop} {h₀ h : Heap} {env : Env} {mg mb : Str → Option Value} {name qual : Str} {dV kV doc pm cd ct : Value} {an : Option Addr} {f : Addr} {x : UInt64} {xs : List (UInt64 × Int)} {kf : Addr}
@[reducible] noncomputable def rowD (q : UInt64 × Int) : D := .tup [.flt q.1, .int q.2]
@[reducible] noncomputable def bisK (xs : List (UInt64 × Int)) (x : UInt64) (kf : Addr) (lo hi : Nat) : List (Str × D) := [("lo", .int lo), ("hi", .int hi), ("a", .lst (xs.map rowD)), ("x", .flt x), ("key", .val (.ref kf))]
set_option maxHeartbeats 1000000 in
theorem bisRK {va vx vl vh : Value} {fo : Obj} {ffd : FuncData} (G : Glo mg mb h₀) (hb : Grow h₀ h) (R : Rm A 2) (F : FnAt h f (fdOf 2 name qual dV kV doc pm an cd ct))
    (hbind : ∀ s : Shared, Grow h s.heap → BindsTo s (fdOf 2 name qual dV kV doc pm an cd ct) ⟨[va, vx, vl, vh], [("key", .ref kf)]⟩ ([("a" : Str), "x", "lo", "hi", "key"].zip [va, vx, vl, vh, .ref kf]))
    (hr : Reps prog w X h [.lst (xs.map rowD), .flt x, .int 0, .none] [va, vx, vl, vh]) (hlen : xs.length ≤ 1000) (k : Nat) (hk : k ≤ xs.length)
    (hko : h.get? kf = some fo) (hkd : fo.data = .func ffd) (hkc : ∀ (A' : Around) (X' : Addr → Prop) (h' : Heap) (vs : List Value) (y : UInt64) (m : Int), Rm A' 1 → Grow h h' → Reps prog w X' h' [.tup [.flt y, .int m]] vs → Op prog w A' X' h' (call (.ref kf) vs) (.flt y))
    (h1 : ∀ i y, i < k → xs[i]? = some y → (Float64.cmp x y.1 == some Ordering.lt) = false) (h2 : ∀ i y, k ≤ i → xs[i]? = some y → (Float64.cmp x y.1 == some Ordering.lt) = true) :
    Op prog w A X h (call (.ref f) [va, vx, vl, vh] [("key", .ref kf)]) (.int k) := by
  obtain ⟨hu, hr⟩ := hr.cons2; obtain ⟨hv, hr⟩ := hr.cons2; obtain ⟨hl, hr⟩ := hr.cons2; obtain ⟨hn, hr⟩ := hr.cons2
  have G' := G.grow hb
  refine op_callP (h₀ := h) ["a", "x", "lo", "hi", "key"] (ds := [.lst (xs.map rowD), .flt x, .int 0, .none, .val (.ref kf)]) F Grow.rfl G'.lim R.d hbind (by rfl) (by rfl) (by decide) (.cons hu (.cons hv (.cons hl (.cons hn (.cons (.val _) .nil))))) ?_
  intro s₁ L E g hX S
  have R' := R.deeper (envAt 2 qual cd L f)
  refine' x_if (b := false) S (Go.castB ?ht1 ?hd1) fun s2 S2 => x_nil ?k1
  case ht1 => kat_tups
  case hd1 => rfl
  refine' x_if (b := true) S2 (tst_is_none ?he2 ?hn1) fun s3 S3 => ?k2
  case he2 => kat_tups
  case hn1 => intro h' v r; (first | apply r.kVal | apply r.kInt; intro _ | apply r.kFlt; intro _ _ | apply r.kBool | apply r.kNone | apply r.kNil | cases r); rfl
  refine' x_assign (d := .int xs.length) S3 rfl (Go.cast ?he3 ?hd3) (.inl rfl) rfl fun s4 S4 => x_nil ?k3
  case he3 => kat_tups
  case hd3 => simp
  refine' x_if (b := false) S4 (tst_is_none ?he4 ?hn2) fun s5 S5 => ?k4
  case he4 => kat_tups
  case hn2 => intro h' v r; (first | apply r.kVal | apply r.kInt; intro _ | apply r.kFlt; intro _ _ | apply r.kBool | apply r.kNone | apply r.kNil | cases r); rfl
  have S5' : St prog w h (Xp X L) (One L) (envAt 2 qual cd L f) s₁ s5 (bisK xs x kf 0 xs.length) [] := S5.to ⟨rfl, rfl, rfl, rfl, rfl, trivial⟩
  refine x_while S5' (fun n l' ml' => ∃ lo hi : Nat, n = hi - lo ∧ lo ≤ k ∧ k ≤ hi ∧ hi ≤ xs.length ∧ l' = bisK xs x kf lo hi ∧ ml' = []) (fun l' ml' => ∃ hi, l' = bisK xs x kf k hi ∧ ml' = []) xs.length ⟨0, xs.length, by lia, by lia, hk, by lia, rfl, rfl⟩ ?_ ?_
  · rintro n l₁ ml₁ s6 E6 ⟨lo, hi, rfl, c1, c2, c3, rfl, rfl⟩ S6
    refine ⟨decide (lo < hi), ?_, fun hlt s7 S7 => ?_, fun hge => ?_⟩
    · refine' Go.castB ?ht5 ?hd5
      case ht5 => kat_tups
      case hd5 => simp
    · have hlt : lo < hi := of_decide_eq_true hlt
      have S7r := S7.refl
      refine' x_assign (d := .int (((lo + hi) / 2 : Nat) : Int)) S7 rfl (Go.cast ?he6 ?hd6) (.inl rfl) rfl fun s8 S8 => ?k6
      case he6 => kat_tups
      case hd6 => rw [fdiv2]
      obtain ⟨m, hm⟩ : ∃ m, (lo + hi) / 2 = m := ⟨_, rfl⟩
      rw [hm] at S8
      have hm1 : lo ≤ m ∧ m < hi := by lia
      obtain ⟨y, hy⟩ : ∃ y, xs[m]? = some y := ⟨xs[m]'(by lia), by simp⟩
      have hy' : (xs.map rowD)[((m : Nat) : Int).toNat]? = some (.tup [.flt y.1, .int y.2]) := by simp [hy]
      have hg8 : Grow h s8.heap := S8.base
      refine' x_if S8 (tst_flt (a := x) (b := y.1) ?he7 ?hc1 rfl) fun s9 S9 => ?k7
      case he7 => kat_tups
      case hc1 =>
        refine ev_callV (ds := [.tup [.flt y.1, .int y.2]]) (o := fo) (fd := ffd) ?_ (hg8 _ _ hko) hkd ?_ (fun h' vs g' r => hkc _ _ h' vs y.1 y.2 R' (hg8.trans g') r) rfl rfl
        · kat_tups
        · kat_tups
      by_cases hq : (Float64.cmp x y.1 == some Ordering.lt) = true
      · rw [hq]
        refine' x_assign (d := .int m) S9 rfl (Go.cast ?he8 ?hd8) (.inl rfl) rfl fun s10 S10 => x_nil (x_nil ?k8)
        case he8 => kat_tups
        case hd8 => rfl
        have : k ≤ m := by
          cases Nat.lt_or_ge m k with
          | inl q => have := h1 m y q hy; rw [hq] at this; cases this
          | inr q => exact q
        exact ⟨.inl rfl, m - lo, _, _, by lia, ⟨lo, m, rfl, c1, this, by lia, rfl, rfl⟩, S10.to ⟨rfl, rfl, rfl, rfl, rfl, trivial⟩⟩
      · have hq' : (Float64.cmp x y.1 == some Ordering.lt) = false := by simpa using hq
        rw [hq']
        refine' x_assign (d := .int ((m + 1 : Nat) : Int)) S9 rfl (Go.cast ?he9 ?hd9) (.inl rfl) rfl fun s10 S10 => x_nil (x_nil ?k9)
        case he9 => kat_tups
        case hd9 => simp
        have : m + 1 ≤ k := by
          cases Nat.lt_or_ge m k with
          | inl q => exact q
          | inr q => have := h2 m y q hy; rw [hq'] at this; cases this
        exact ⟨.inl rfl, hi - (m + 1), _, _, by lia, ⟨m + 1, hi, rfl, this, c2, c3, rfl, rfl⟩, S10.to ⟨rfl, rfl, rfl, rfl, rfl, trivial⟩⟩
    · have hge : ¬ lo < hi := of_decide_eq_false hge
      have : lo = k := by lia
      exact ⟨hi, by rw [this], rfl⟩
  · rintro s' l' ml' ⟨hi, rfl, rfl⟩ S6
    refine x_nil ?_
    refine' x_ret S6 (d := .int k) (Go.cast ?he10 ?hd10) fun s' v S' r => S'.ret0 r
    case he10 => kat_tups
    case hd10 => rfl
end
end

section
open PySem PySem.W PySem.Calls PyProof.Rows
set_option maxRecDepth 100000
set_option linter.unusedVariables false
variable {prog : Program} {w : World}
section
variable {A : Around} {X : Addr → Prop} {h₀ : Heap} {s : Shared} {env : Env} {mg mb : Str → Option Value} {name qual : Str} {dV kV doc pm cd ct : Value} {an : Option Addr} {f p kf : Addr} {y : UInt64} {m : Int} {xs : List (UInt64 × Int)} {E : Value → Shared → Prop}
set_option maxHeartbeats 1000000 in
theorem insortC {vx : Value} {t : Tok} {fo : Obj} {ffd : FuncData} {Q : Value → Shared → Prop} (G : Glo mg mb h₀) (hb : Grow h₀ s.heap) (R : Rm A 3) (F : FnAt s.heap f (fdOf 1 name qual dV kV doc pm an cd ct))
    (hbind : BindsTo s (fdOf 1 name qual dV kV doc pm an cd ct) ⟨[.ref p, vx], [("key", .ref kf)]⟩ ([("a" : Str), "x", "lo", "hi", "key"].zip [.ref p, vx, .int 0 t, .none, .ref kf]))
    (hl : Liv X s.heap) (hpos : 0 < s.toks) (hpX : X p) (hoff : h₀.get? p = none) (hm : MutAt prog w X s.heap p (.lst (xs.map rowD))) (hv : Rep prog w X s.heap (.tup [.flt y, .int m]) vx) (hlen : xs.length ≤ 1000) (k : Nat) (hk : k ≤ xs.length)
    (hko : s.heap.get? kf = some fo) (hkd : fo.data = .func ffd) (hkp : kf ≠ p) (hkc : ∀ (A' : Around) (X' : Addr → Prop) (h' : Heap) (vs : List Value) (y : UInt64) (m : Int), Rm A' 1 → (∀ b o, b ≠ p → s.heap.get? b = some o → h'.get? b = some o) → Reps prog w X' h' [.tup [.flt y, .int m]] vs → Op prog w A' X' h' (call (.ref kf) vs) (.flt y))
    (h1 : ∀ i q, i < k → xs[i]? = some q → (Float64.cmp y q.1 == some Ordering.lt) = false) (h2 : ∀ i q, k ≤ i → xs[i]? = some q → (Float64.cmp y q.1 == some Ordering.lt) = true)
    (kk : ∀ h' tk, (∀ b o, b ≠ p → s.heap.get? b = some o → h'.get? b = some o) → MutAt prog w X h' p (.lst ((xs.take k ++ (y, m) :: xs.drop k).map rowD)) → Q .none { s with heap := h', toks := tk }) :
    wpAny (model prog w) A (call (.ref f) [.ref p, vx] [("key", .ref kf)]) Q E s := by
  refine wp_callM ["a", "x", "lo", "hi", "key"] (ds := [.val (.ref p), .tup [.flt y, .int m], .int 0, .none, .val (.ref kf)]) F hb (G.lim.keeps hb) R.d hl hpos hpX hoff hm hbind (by rfl) (by rfl) (by decide) (.cons (.val _) (.cons hv (.cons (.int 0 t) (.cons .none (.cons (.val _) .nil))))) ?_ kk
  intro s₁ L E1 hLn g S
  have R' := R.deeper (envAt 1 qual cd L f)
  have keepS : ∀ {s' : Shared} {l' : List (Str × D)} {ml' : List (Addr × D)}, St prog w h₀ (Xp X L) (fun b => b = L ∨ b = p) (envAt 1 qual cd L f) s₁ s' l' ml' → ∀ b o, b ≠ p → s.heap.get? b = some o → s'.heap.get? b = some o := fun S' b o n e => S'.keep b o (fun q => q.elim (fun q => by rw [q, hLn] at e; cases e) n) (g b o e)
  refine' x_ifJ (b := false) ((Str.ofString "lo", .int k) :: _) S (tst_is_none ?he1 ?hn1) ?hj fun s4 S4 => ?k1
  case he1 => kat_tups
  case hn1 => intro h' v r; (first | apply r.kVal | apply r.kInt; intro _ | apply r.kFlt; intro _ _ | apply r.kBool | apply r.kNone | apply r.kNil | cases r); rfl
  case hj =>
    intro s2 Q' S2 k'
    obtain ⟨f2, name2, qual2, dV2, kV2, doc2, pm2, an2, cd2, ct2, t2, hm2, F2, b1, b2, b3⟩ := G.bs "bisect_right" 2 (by rfl)
    refine' x_assign (d := .int k) S2 rfl ?he2 (.inl rfl) rfl fun s3 S3 => x_nil (k' _ S3)
    case he2 =>
      obtain ⟨o2, ho2, hd2⟩ := F2.here
      refine ev_callKw (ds := [.val (.ref p), .flt y, .int 0, .none]) (dk := .val (.ref kf)) (ev_glob rfl rfl (G.g.keeps S2.base) hm2 rfl) (S2.base _ _ ho2) hd2 ?_ ?_ (fun h' vs vk g' r rk => ?_) rfl
      · refine evs_cons ?_ (evs_cons ?_ (evs_cons ?_ (evs_cons ?_ evs_nil rfl) rfl) rfl) rfl
        · kat_tups
        · refine ev_callV (ds := [.tup [.flt y, .int m]]) (o := fo) (fd := ffd) ?_ (keepS S2 _ _ hkp hko) hkd ?_ (fun h' vs g' r => hkc _ _ h' vs y m (R'.le (by decide)) (fun b o n e => g' b o (keepS S2 b o n e)) r) rfl rfl
          · kat_tups
          · kat_tups
        · kat_tups
        · kat_tups
      · kat_tups
      · (first | apply rk.kVal | apply rk.kInt; intro _ | apply rk.kFlt; intro _ _ | apply rk.kBool | apply rk.kNone | apply rk.kNil | cases rk)
        apply r.kCons; intro _ _ ra r; apply r.kCons; intro _ _ rb r; apply r.kCons; intro _ _ rc r; apply r.kCons; intro _ _ rd r; apply r.kNil
        (first | apply ra.kVal | apply ra.kInt; intro _ | apply ra.kFlt; intro _ _ | apply ra.kBool | apply ra.kNone | apply ra.kNil | cases ra)
        have hX0 : ∀ b, (Xp X L b ∧ b ≠ p) → Xp X L b := fun b q => q.1
        have gb : Grow h₀ h' := S2.base.trans g'
        have T0 : Tr (Xp X L) (fun b => Xp X L b ∧ b ≠ p) h' h' := fun b o n e => ⟨fun q => n q.1, e⟩
        have hmm : MutAt prog w (Xp X L) h' p (.lst (xs.map rowD)) := (S2.muts _ (.head _)).2.2.tr g'.tr fun o e => g' _ o e
        refine Go.lessInt (X := fun b => Xp X L b ∧ b ≠ p) ?_ hX0
        exact bisRK (xs := xs) (kf := kf) (fo := fo) (ffd := ffd) G gb (R'.le (by decide)) (F2.grow gb) (fun s gg => b3 s _ _ _ _ _ (gb.trans gg))
          (.cons (hmm.rep hX0 fun q => q.2 rfl) (.cons (rb.tr T0) (.cons (rc.tr T0) (.cons (rd.tr T0) .nil)))) hlen k hk (g' _ _ (keepS S2 _ _ hkp hko)) hkd
          (fun A' X' h'' vs y m RR gg r => hkc A' X' h'' vs y m RR (fun b o n e => gg b o (g' b o (keepS S2 b o n e))) r) h1 h2
  have e : ((xs.take k ++ (y, m) :: xs.drop k).map rowD) = (xs.map rowD).take k ++ .tup [.flt y, .int m] :: (xs.map rowD).drop k := by simp [List.map_take, List.map_drop]
  rw [e]
  refine x_insert (d := .tup [.flt y, .int m]) (k := k) S4 (by rfl) ?_ ?_ (by simpa using hk) (by simpa using hlen) rfl (fun s5 S5 => x_nil ⟨rfl, _, S5⟩) rfl rfl rfl rfl rfl rfl rfl rfl rfl
  · kat_tups
  · kat_tups
end
end

local macro_rules | `(tactic| kat_tups) => `(tactic| first
  | o_head ev_cross (by assumption) ?_ (St.base (by assumption)) ?_ ?_ ?_ ?_ ?_ ?_ ?_ ?_ ?_ ?_
  | o_head ev_side (by assumption) ?_ (St.base (by assumption)) ?_ ?_ ?_ ?_ ?_ ?_ ?_ ?_ ?_ ?_)

section
open PySem PySem.W PySem.Calls PyProof.Rows
set_option maxRecDepth 100000
set_option linter.unusedVariables false
variable {prog : Program} {w : World}
section
variable {A : Around} {X : Addr → Prop} {h₀ h : Heap} {env : Env} {mg mb : Str → Option Value} {name qual : Str} {doc pm cd ct : Value} {an : Option Addr} {f : Addr} {a b c : Int × Int}
noncomputable def cr (p q : Int × Int) : Int := p.1 * q.2 - p.2 * q.1
noncomputable def sdB (p q : Int × Int) : Bool := decide (0 < p.1 * q.1 + p.2 * q.2)
noncomputable def greyB (a b c : Int × Int) : Bool := if [cr a b, cr b c, cr c a] = [0, 0, 0] then !(sdB a b && sdB a c) else (decide (0 ≤ imin3 (cr a b) (cr b c) (cr c a)) || decide (imax3 (cr a b) (cr b c) (cr c a) ≤ 0))
noncomputable def Bd (q : Int × Int) : Prop := (-(2 ^ 64) < q.1 ∧ q.1 < 2 ^ 64) ∧ (-(2 ^ 64) < q.2 ∧ q.2 < 2 ^ 64)
@[reducible] noncomputable def ptD (q : Int × Int) : D := .tup [.int q.1, .int q.2]
set_option maxHeartbeats 1000000 in
theorem greyC {vs : List Value} (G : Glo mg mb h₀) (hb : Grow h₀ h) (R : Rm A 2) (F : FnAt h f (fdOf 16 name qual .none .none doc pm an cd ct)) (hr : Reps prog w X h [ptD a, ptD b, ptD c] vs) (ba : Bd a) (bb : Bd b) (bc : Bd c) :
    Op prog w A X h (call (.ref f) vs) (.bool (greyB a b c)) := by
  refine op_callP ["a", "b", "c"] F hb (G.lim.keeps hb) R.d (fun s _ => .of_eq ?_) (by rfl) (by rfl) (by decide) hr ?_
  · apply hr.kCons; intro _ _ hu hr; apply hr.kCons; intro _ _ hv hr; apply hr.kCons; intro _ _ hv hr; (first | apply hr.kVal | apply hr.kInt; intro _ | apply hr.kFlt; intro _ _ | apply hr.kBool | apply hr.kNone | apply hr.kNil | cases hr); rfl
  · intro s₁ L E g hX S
    have R' := R.deeper (envAt 16 qual cd L f)
    obtain ⟨⟨ba1, ba2⟩, ba3, ba4⟩ := ba
    obtain ⟨⟨bb1, bb2⟩, bb3, bb4⟩ := bb
    obtain ⟨⟨bc1, bc2⟩, bc3, bc4⟩ := bc
    refine' x_assign (d := .lst [.int (cr a b), .int (cr b c), .int (cr c a)]) S rfl (Go.cast ?he_1 ?hd_1) (.inl rfl) rfl fun s2 S2 => ?k_1
    case he_1 => kat_tups
    case hd_1 => rfl
    refine' x_if (b := decide ([cr a b, cr b c, cr c a] = [0, 0, 0])) S2 (tst_cmp (b := .lst (([0, 0, 0] : List Int).map .int)) ?he_2 (Go.cast ?he2_2 ?hd_2) (fun h' va vb g' ra rb => op_eq_ints (ns := [cr a b, cr b c, cr c a]) (ms := [0, 0, 0]) ?hu_2 ra rb) rfl) fun s3 S3 => ?k_2
    case he_2 => kat_tups
    case he2_2 => kat_tups
    case hd_2 => rfl
    case hu_2 => have := R'.un; lia
    by_cases h0 : [cr a b, cr b c, cr c a] = [0, 0, 0]
    · rw [show decide ([cr a b, cr b c, cr c a] = [0, 0, 0]) = true from decide_eq_true h0]
      refine' x_ret S3 (d := .bool (greyB a b c)) (Go.cast (ev_not (ev_and2 ?he_3 (fun _ => ?he2_3))) ?hd_3) fun s' v S' r => S'.ret0 r
      case he_3 => kat_tups
      case he2_3 => kat_tups
      case hd_3 => unfold greyB; rw [if_pos h0]; rfl
    · rw [show decide ([cr a b, cr b c, cr c a] = [0, 0, 0]) = false from decide_eq_false h0]
      refine x_nil ?_
      refine' x_ret S3 (d := .bool (greyB a b c)) (Go.cast (ev_or2 ?he_4 (fun _ => ?he2_4)) ?hd_4) fun s' v S' r => S'.ret0 r
      case he_4 => kat_tups
      case he2_4 => kat_tups
      case hd_4 => unfold greyB; rw [if_neg h0]
theorem ev_grey {e1 e2 e3 : Expr} {p pos : Pos} (G : Glo mg mb h₀) (F : FE env) (g : Grow h₀ h) (R : Rm A 2) (hx : env.kindOf "_law_grey_within" = some .globalImplicit) (he1 : Ev prog w A X env h e1 (ptD a)) (he2 : Ev prog w A X env h e2 (ptD b)) (he3 : Ev prog w A X env h e3 (ptD c))
    (ba : Bd a) (bb : Bd b) (bc : Bd c) (hst : starEach [e1, e2, e3] env = (false, eval e1 env) :: starEach [e2, e3] env) (hst2 : starEach [e2, e3] env = (false, eval e2 env) :: starEach [e3] env) (hst3 : starEach [e3] env = (false, eval e3 env) :: starEach [] env) :
    Ev prog w A X env h (.Call (.Name "_law_grey_within" p) [e1, e2, e3] [] pos) (.bool (greyB a b c)) :=
  ev_fn G F g hx (by rfl) (evs_cons he1 (evs_cons he2 (evs_cons he3 evs_nil hst3) hst2) hst) (fun h' vs f name qual doc pm an cd ct g' FF r => greyC G (g.trans g') R FF r ba bb bc) (by rfl) hst
end
end

section
open PySem PySem.W PySem.Calls PyProof.Rows
set_option maxRecDepth 100000
set_option linter.unusedVariables false
variable {prog : Program} {w : World}
section
variable {A : Around} {X : Addr → Prop} {h₀ h : Heap} {env : Env} {mg mb : Str → Option Value} {name qual : Str} {doc pm cd ct : Value} {an : Option Addr} {f : Addr} {pts : List (Int × Int)}
noncomputable def ptAt (pts : List (Int × Int)) (i : Nat) : Int × Int := pts.getD i (0, 0)
noncomputable def cntK (pts : List (Int × Int)) (i j : Nat) : Nat → Nat
  | 0 => 0
  | k + 1 => cntK pts i j k + (if greyB (ptAt pts i) (ptAt pts j) (ptAt pts k) then 1 else 0)
noncomputable def cntJ (pts : List (Int × Int)) (i : Nat) : Nat → Nat
  | 0 => 0
  | j + 1 => cntJ pts i j + cntK pts i j j
noncomputable def cntI (pts : List (Int × Int)) : Nat → Nat
  | 0 => 0
  | i + 1 => cntI pts i + cntJ pts i i
@[reducible] noncomputable def tlA (pts : List (Int × Int)) (c : Int) : List (Str × D) := [("count", .int c), ("points", .lst (pts.map ptD))]
@[reducible] noncomputable def tlB (pts : List (Int × Int)) (i : Nat) (c : Int) : List (Str × D) := [("count", .int c), ("i", .int i), ("points", .lst (pts.map ptD))]
@[reducible] noncomputable def tlC (pts : List (Int × Int)) (i j : Nat) (c : Int) : List (Str × D) := [("count", .int c), ("j", .int j), ("i", .int i), ("points", .lst (pts.map ptD))]
theorem pt_item {i : Nat} (hi : i < pts.length) : (pts.map ptD)[((i : Nat) : Int).toNat]? = some (ptD (ptAt pts i)) := by
  simp [ptAt, hi]
theorem rng_n (n : Nat) : ((n : Nat) : Int) = if (0 : Int) < (n : Int) then (n : Int) - 0 else 0 := by split <;> lia
theorem rng_small {n : Nat} (h : n ≤ 1000) : Builtin.Range.small 0 (n : Int) 1 = true := small_one (by lia) (by lia) (by lia) (by lia)
theorem upTo0_get {n i : Nat} {d : D} (h : (upTo 0 n)[i]? = some d) : i < n ∧ d = .int i := by
  obtain ⟨h1, h2⟩ := upTo_get h
  exact ⟨h1, by rw [h2]; simp⟩
set_option maxHeartbeats 2000000 in
theorem triC {vs : List Value} (G : Glo mg mb h₀) (hb : Grow h₀ h) (R : Rm A 3) (F : FnAt h f (fdOf 17 name qual .none .none doc pm an cd ct)) (hr : Reps prog w X h [.lst (pts.map ptD)] vs) (hbd : ∀ q ∈ pts, Bd q) (hlen : pts.length ≤ 1000) :
    Op prog w A X h (call (.ref f) vs) (.int (cntI pts pts.length)) := by
  refine op_callP ["points"] F hb (G.lim.keeps hb) R.d (fun s _ => .of_eq ?_) (by rfl) (by rfl) (by decide) hr ?_
  · apply hr.kCons; intro _ _ hu hr; (first | apply hr.kVal | apply hr.kInt; intro _ | apply hr.kFlt; intro _ _ | apply hr.kBool | apply hr.kNone | apply hr.kNil | cases hr); rfl
  · intro s₁ L E g hX S
    have R' := R.deeper (envAt 17 qual cd L f)
    have bdAt : ∀ i, i < pts.length → Bd (ptAt pts i) := fun i hi => hbd _ (by simp [ptAt, hi])
    refine' x_assign (d := .int 0) S rfl ?he_1 (.inl rfl) rfl fun s2 S2 => ?k_1
    case he_1 => kat_tups
    have S2' : St prog w h₀ (Xp X L) (One L) (envAt 17 qual cd L f) s₁ s2 (tlA pts (cntI pts 0)) [] := S2.to ⟨rfl, rfl, trivial⟩
    refine' x_for S2' rfl (.inl rfl) (it_rng (a := 0) (b := pts.length) (n := pts.length) R'.hh (Go.cast ?he_2 ?hd_2) (rng_n _) (rng_small hlen)) (fun i l' ml' => l' = tlA pts (cntI pts i) ∧ ml' = []) ⟨rfl, rfl⟩ ?t1 ?d1
    case he_2 => kat_tups
    case hd_2 => simp
    case t1 =>
      rintro X1 i d l₁ ml₁ s3 E3 hX1 hd ⟨rfl, rfl⟩ S3
      obtain ⟨hi, rfl⟩ := upTo0_get hd
      have S3' : St prog w h₀ X1 (One L) (envAt 17 qual cd L f) s3 s3 (tlB pts i ((cntI pts i + cntJ pts i 0 : Nat) : Int)) [] := S3.to ⟨rfl, rfl, rfl, trivial⟩
      refine' x_for S3' rfl (.inl rfl) (it_rng (a := 0) (b := i) (n := i) R'.hh ?he_3 (rng_n _) (rng_small (by lia))) (fun j l' ml' => l' = (tlB pts i ((cntI pts i + cntJ pts i j : Nat) : Int)) ∧ ml' = []) ⟨rfl, rfl⟩ ?t2 ?d2
      case he_3 => kat_tups
      case t2 =>
        rintro X2 j d l₁ ml₁ s4 E4 hX2 hd ⟨rfl, rfl⟩ S4
        obtain ⟨hj, rfl⟩ := upTo0_get hd
        have S4' : St prog w h₀ X2 (One L) (envAt 17 qual cd L f) s4 s4 (tlC pts i j ((cntI pts i + cntJ pts i j + cntK pts i j 0 : Nat) : Int)) [] := S4.to ⟨rfl, rfl, rfl, rfl, trivial⟩
        refine' x_for S4' rfl (.inl rfl) (it_rng (a := 0) (b := j) (n := j) R'.hh ?he_4 (rng_n _) (rng_small (by lia))) (fun k l' ml' => l' = (tlC pts i j ((cntI pts i + cntJ pts i j + cntK pts i j k : Nat) : Int)) ∧ ml' = []) ⟨rfl, rfl⟩ ?t3 ?d3
        case he_4 => kat_tups
        case t3 =>
          rintro X3 k d l₁ ml₁ s5 E5 hX3 hd ⟨rfl, rfl⟩ S5
          obtain ⟨hk, rfl⟩ := upTo0_get hd
          have i1 := pt_item hi
          have i2 := pt_item (pts := pts) (i := j) (by lia)
          have i3 := pt_item (pts := pts) (i := k) (by lia)
          have b1 := bdAt i hi
          have b2 := bdAt j (by lia)
          have b3 := bdAt k (by lia)
          refine' x_ifJ (b := greyB (ptAt pts i) (ptAt pts j) (ptAt pts k)) (tlC pts i j ((cntI pts i + cntJ pts i j + cntK pts i j (k + 1) : Nat) : Int)) S5 (tst_of_ev (ev_grey G ⟨rfl, rfl, rfl⟩ S5.base (R'.le (by decide)) rfl ?he_5 ?he2_5 ?he3_5 b1 b2 b3 rfl rfl rfl) rfl) ?hj_5 fun s6 S6 => x_nil ⟨.inl rfl, _, _, ⟨rfl, rfl⟩, S6⟩
          case he_5 => exact ev_item_lst (by kat_tups) (by kat_tups) (by lia) i1 (by lia) rfl
          case he2_5 => exact ev_item_lst (by kat_tups) (by kat_tups) (by lia) i2 (by lia) rfl
          case he3_5 => exact ev_item_lst (by kat_tups) (by kat_tups) (by lia) i3 (by lia) rfl
          case hj_5 =>
            intro s7 Q' S7 k'
            by_cases hg : greyB (ptAt pts i) (ptAt pts j) (ptAt pts k) = true
            · rw [hg]
              refine' x_aug S7 rfl (by rfl) (b := 1) ?he_6 rfl fun s8 S8 => x_nil (k' _ ?k_6)
              case he_6 => kat_tups
              refine St.to S8 ⟨?_, rfl, rfl, rfl, trivial⟩
              show some (D.int (((cntI pts i + cntJ pts i j + cntK pts i j k : Nat) : Int) + 1)) = some (D.int ((cntI pts i + cntJ pts i j + cntK pts i j (k + 1) : Nat) : Int))
              rw [cntK, if_pos hg]
              congr 2
            · have hg' : greyB (ptAt pts i) (ptAt pts j) (ptAt pts k) = false := by simpa using hg
              rw [hg']
              refine x_nil (k' _ (St.to S7 ⟨?_, rfl, rfl, rfl, trivial⟩))
              show some (D.int ((cntI pts i + cntJ pts i j + cntK pts i j k : Nat) : Int)) = some (D.int ((cntI pts i + cntJ pts i j + cntK pts i j (k + 1) : Nat) : Int))
              rw [cntK, if_neg hg]; rfl
        case d3 =>
          rintro s' l' ml' ⟨rfl, rfl⟩ S5
          rw [upTo_length] at S5
          exact x_nil ⟨.inl rfl, _, _, ⟨rfl, rfl⟩, S5.to ⟨by rw [cntJ, ← Nat.add_assoc]; rfl, rfl, rfl, trivial⟩⟩
      case d2 =>
        rintro s' l' ml' ⟨rfl, rfl⟩ S5
        rw [upTo_length] at S5
        exact x_nil ⟨.inl rfl, _, _, ⟨rfl, rfl⟩, S5.to ⟨by rw [cntI]; rfl, rfl, trivial⟩⟩
    case d1 =>
      rintro s' l' ml' ⟨rfl, rfl⟩ S5
      rw [upTo_length] at S5
      refine' x_ret S5 (d := .int (cntI pts pts.length)) ?he_7 fun s' v S' r => S'.ret0 r
      case he_7 => kat_tups
end
end

section
open PySem PySem.W PySem.Calls PyProof.Rows
set_option maxRecDepth 100000
set_option linter.unusedVariables false
variable {prog : Program} {w : World}
section
variable {A : Around} {X : Addr → Prop} {h₀ h : Heap} {env : Env} {mg mb : Str → Option Value} {name qual : Str} {doc pm cd ct : Value} {an : Option Addr} {f : Addr}
noncomputable def diD (kv : List (Int × Int)) : D := .dct (kv.map fun q => (q.1, .int q.2))
noncomputable def sumV (kv : List (Int × Int)) : Int := (kv.map Prod.snd).sum
@[reducible] noncomputable def clA (kv : List (Int × Int)) (c : Int) : List (Str × D) := [("nc", .int c), ("callers", diD kv)]
set_option maxHeartbeats 2000000 in
theorem countC {kv : List (Int × Int)} {vs : List Value} (hsm : X sysModules) (G : Glo mg mb h₀) (hb : Grow h₀ h) (R : Rm A 1) (F : FnAt h f (fdOf 10 name qual .none .none doc pm an cd ct)) (hr : Reps prog w X h [diD kv] vs) :
    Op prog w A X h (call (.ref f) vs) (.int (sumV kv)) := by
  refine op_callP ["callers"] F hb (G.lim.keeps hb) R.d (fun s _ => .of_eq ?_) (by rfl) (by rfl) (by decide) hr ?_
  · apply hr.kCons; intro _ _ hu hr; (first | apply hr.kVal | apply hr.kInt; intro _ | apply hr.kFlt; intro _ _ | apply hr.kBool | apply hr.kNone | apply hr.kNil | cases hr); rfl
  · intro s₁ L E g hX S
    have R' := R.deeper (envAt 10 qual cd L f)
    refine' x_assign (d := .int 0) S rfl ?he_1 (.inl rfl) rfl fun s2 S2 => ?k_1
    case he_1 => kat_tups
    have S2' : St prog w h₀ (Xp X L) (One L) (envAt 10 qual cd L f) s₁ s2 (clA kv (sumV (kv.take 0))) [] := S2.to ⟨rfl, rfl, trivial⟩
    refine' x_for S2' rfl (.inl rfl) (it_values (.inl hsm) R'.hh ?he_2) (fun i l' ml' => l' = clA kv (sumV (kv.take i)) ∧ ml' = []) ⟨rfl, rfl⟩ ?t1 ?d1
    case he_2 => kat_tups
    case t1 =>
      rintro X1 i d l₁ ml₁ s3 E3 hX1 hd ⟨rfl, rfl⟩ S3
      rw [List.map_map, List.getElem?_map] at hd
      cases q : kv[i]? with
      | none => rw [q] at hd; cases hd
      | some p =>
        rw [q] at hd
        cases hd
        have S3' : St prog w h₀ X1 (One L) (envAt 10 qual cd L f) s3 s3 [("nc", .int (sumV (kv.take i))), ("calls", .int p.2), ("callers", diD kv)] [] := S3.to ⟨rfl, rfl, rfl, trivial⟩
        refine' x_aug S3' rfl (by rfl) (b := p.2) ?he_3 rfl fun s8 S8 => x_nil ⟨.inl rfl, _, _, ⟨rfl, rfl⟩, ?k_3⟩
        case he_3 => kat_tups
        refine St.to S8 ⟨?_, rfl, trivial⟩
        show some (D.int (sumV (kv.take i) + p.2)) = some (D.int (sumV (kv.take (i + 1))))
        rw [List.take_add_one, q]
        simp [sumV]
    case d1 =>
      rintro s' l' ml' ⟨rfl, rfl⟩ S5
      rw [List.length_map, List.length_map, List.take_length] at S5
      refine' x_ret S5 (d := .int (sumV kv)) ?he_4 fun s' v S' r => S'.ret0 r
      case he_4 => kat_tups
end
end

section
open PySem PySem.W PySem.Calls PyProof.Rows
set_option maxRecDepth 100000
set_option linter.unusedVariables false
variable {prog : Program} {w : World}
section
variable {A : Around} {X : Addr → Prop} {h₀ h : Heap} {env : Env} {mg mb : Str → Option Value} {name qual : Str} {doc pm cd ct : Value} {an : Option Addr} {f : Addr}
noncomputable def diR (kv : List (Int × Int)) : List (Int × D) := kv.map fun q => (q.1, .int q.2)
noncomputable def storedI (ds : List (Int × Int)) (k v : Int) : List (Int × Int) := if ds.any (fun q => q.1 = k) then ds.map (fun q => if q.1 = k then (q.1, v) else q) else ds ++ [(k, v)]
theorem diR_stored (kv : List (Int × Int)) (k v : Int) : storedD (diR kv) k (.int v) = diR (storedI kv k v) := by
  unfold storedD storedI diR
  have e : (kv.map fun q => (q.1, D.int q.2)).any (fun q => q.1 = k) = kv.any (fun q => q.1 = k) := by rw [List.any_map]; rfl
  rw [e]
  split
  · rw [List.map_map, List.map_map]
    apply List.map_congr_left
    intro q _
    show (if q.1 = k then (q.1, D.int v) else (q.1, D.int q.2)) = _
    by_cases e : q.1 = k
    · simp [e]
    · simp [e]
  · rw [List.map_append]; rfl
theorem diR_lookup (kv : List (Int × Int)) (k : Int) : (diR kv).lookup k = (kv.lookup k).map D.int := by
  induction kv with
  | nil => rfl
  | cons q kv ih =>
    show List.lookup k ((q.1, D.int q.2) :: diR kv) = _
    rw [List.lookup_cons]
    obtain ⟨a, b⟩ := q
    rw [List.lookup_cons]
    split
    · rename_i e; rw [e]; rfl
    · rename_i e; rw [e]; exact ih
theorem storedI_length (ds : List (Int × Int)) (k v : Int) : (storedI ds k v).length ≤ ds.length + 1 := by
  unfold storedI
  split <;> simp
noncomputable def addRow (acc : List (Int × Int)) (q : Int × Int) : List (Int × Int) := match acc.lookup q.1 with
  | some v => storedI acc q.1 (v + q.2)
  | none => storedI acc q.1 q.2
noncomputable def putRow (acc : List (Int × Int)) (q : Int × Int) : List (Int × Int) := storedI acc q.1 q.2
noncomputable def addRows (t s : List (Int × Int)) : List (Int × Int) := s.foldl addRow (t.foldl putRow [])
theorem putRow_len (t : List (Int × Int)) (acc : List (Int × Int)) : (t.foldl putRow acc).length ≤ acc.length + t.length := by
  induction t generalizing acc with
  | nil => simp
  | cons q t ih =>
    rw [List.foldl_cons, List.length_cons]
    have := ih (putRow acc q)
    have := storedI_length acc q.1 q.2
    unfold putRow at *
    lia
theorem addRow_len1 (acc : List (Int × Int)) (q : Int × Int) : (addRow acc q).length ≤ acc.length + 1 := by
  unfold addRow
  split
  · exact storedI_length ..
  · exact storedI_length ..
theorem addRow_len (t : List (Int × Int)) (acc : List (Int × Int)) : (t.foldl addRow acc).length ≤ acc.length + t.length := by
  induction t generalizing acc with
  | nil => simp
  | cons q t ih =>
    rw [List.foldl_cons, List.length_cons]
    have := ih (addRow acc q)
    have := addRow_len1 acc q
    lia
noncomputable def itD (q : Int × Int) : D := .tup [.int q.1, .int q.2]
noncomputable def itB (q : Int × Int) : List (Str × D) := [("caller", .int q.2), ("func", .int q.1)]
theorem foldl_take {α β : Type} (f : β → α → β) (b : β) (l : List α) {i : Nat} {u : α} (h : l[i]? = some u) : (l.take (i + 1)).foldl f b = f ((l.take i).foldl f b) u := by
  rw [List.take_add_one, h, List.foldl_append]; rfl
@[reducible] noncomputable def alA (kt ks : List (Int × Int)) (p : Addr) : List (Str × D) := [("new_callers", .val (.ref p)), ("target", diD kt), ("source", diD ks)]
theorem it_map (kv : List (Int × Int)) : ((kv.map fun q => (q.1, D.int q.2)).map fun q => D.tup [.int q.1, q.2]) = kv.map itD := by rw [List.map_map]; rfl
set_option maxHeartbeats 4000000 in
theorem addCC {kt ks : List (Int × Int)} {vs : List Value} (hsm : X sysModules) (G : Glo mg mb h₀) (hb : Grow h₀ h) (R : Rm A 1) (F : FnAt h f (fdOf 9 name qual .none .none doc pm an cd ct)) (hr : Reps prog w X h [diD kt, diD ks] vs) (hn : kt.length + ks.length ≤ 1000) :
    Op prog w A X h (call (.ref f) vs) (diD (addRows kt ks)) := by
  refine op_callP ["target", "source"] F hb (G.lim.keeps hb) R.d (fun s _ => .of_eq ?_) (by rfl) (by rfl) (by decide) hr ?_
  · apply hr.kCons; intro _ _ hu hr; apply hr.kCons; intro _ _ hu2 hr; (first | apply hr.kVal | apply hr.kInt; intro _ | apply hr.kFlt; intro _ _ | apply hr.kBool | apply hr.kNone | apply hr.kNil | cases hr); rfl
  · intro s₁ L E g hX S
    have R' := R.deeper (envAt 9 qual cd L f)
    have hsl : (1000 : Nat) ≤ sizeLine := by decide
    refine x_newdict S rfl (.inl rfl) fun s2 p hp hpm S2 => ?_
    have hps : (p == sysModules) = false := by
      rw [beq_eq_false_iff_ne]; rintro rfl; exact hp (.inl hsm)
    have S2' : St prog w h₀ (Xp (Xp X L) p) (Mp (One L) p) (envAt 9 qual cd L f) s₁ s2 (alA kt ks p) [(p, .dct (diR ((kt.take 0).foldl putRow [])))] := S2.to ⟨rfl, rfl, rfl, trivial⟩
    refine x_forT (c := false) (us := kt) (enc := itD) (bnd := itB) S2' R'.hh rfl (fun u hu => .tup ["func", "caller"] rfl ?hx1 rfl rfl) ?hi1 (fun i l' ml' => l' = alA kt ks p ∧ ml' = [(p, .dct (diR ((kt.take i).foldl putRow [])))]) ⟨rfl, rfl⟩ ?t1 ?d1
    case hx1 => intro x hx; simp only [List.mem_cons, List.not_mem_nil, or_false] at hx; rcases hx with rfl | rfl <;> exact .inl rfl
    case hi1 => rw [← it_map]; exact it_items (.inl (.inl hsm)) R'.hh (by kat_tups)
    case t1 =>
      rintro X1 i u l₁ ml₁ s3 E3 hX1 hu ⟨rfl, rfl⟩ S3
      have S3' : St prog w h₀ X1 (Mp (One L) p) (envAt 9 qual cd L f) s3 s3 [("caller", .int u.2), ("func", .int u.1), ("new_callers", .val (.ref p)), ("target", diD kt), ("source", diD ks)] [(p, .dct (diR ((kt.take i).foldl putRow [])))] := S3.to ⟨rfl, rfl, rfl, rfl, rfl, trivial⟩
      refine' x_setitem (m := u.1) (d := .int u.2) S3' rfl ?he_1 ?he2_1 ?hl1 rfl rfl rfl fun s8 S8 => x_nil ⟨.inl rfl, _, _, ⟨rfl, rfl⟩, ?kk1⟩
      case he_1 => kat_tups
      case he2_1 => kat_tups
      case hl1 =>
        have := putRow_len (kt.take i) []
        rw [List.length_take] at this
        simp only [diR, List.length_map, List.length_nil] at *
        lia
      rw [diR_stored] at S8
      rw [foldl_take _ _ _ hu]
      exact St.to S8 ⟨rfl, rfl, rfl, trivial⟩
    case d1 =>
      rintro s' l' ml' ⟨rfl, rfl⟩ S5
      rw [List.take_length] at S5
      have S5' : St prog w h₀ (Xp (Xp X L) p) (Mp (One L) p) (envAt 9 qual cd L f) s₁ s' (alA kt ks p) [(p, .dct (diR ((ks.take 0).foldl addRow (kt.foldl putRow []))))] := S5
      refine x_forT (c := false) (us := ks) (enc := itD) (bnd := itB) S5' R'.hh rfl (fun u hu => .tup ["func", "caller"] rfl ?hx2 rfl rfl) ?hi2 (fun i l' ml' => l' = alA kt ks p ∧ ml' = [(p, .dct (diR ((ks.take i).foldl addRow (kt.foldl putRow []))))]) ⟨rfl, rfl⟩ ?t2 ?d2
      case hx2 => intro x hx; simp only [List.mem_cons, List.not_mem_nil, or_false] at hx; rcases hx with rfl | rfl <;> exact .inl rfl
      case hi2 => rw [← it_map]; exact it_items (.inl (.inl hsm)) R'.hh (by kat_tups)
      case t2 =>
        rintro X1 i u l₁ ml₁ s3 E3 hX1 hu ⟨rfl, rfl⟩ S3
        have S3' : St prog w h₀ X1 (Mp (One L) p) (envAt 9 qual cd L f) s3 s3 [("caller", .int u.2), ("func", .int u.1), ("new_callers", .val (.ref p)), ("target", diD kt), ("source", diD ks)] [(p, .dct (diR ((ks.take i).foldl addRow (kt.foldl putRow []))))] := S3.to ⟨rfl, rfl, rfl, rfl, rfl, trivial⟩
        have hlen : (diR ((ks.take i).foldl addRow (kt.foldl putRow []))).length ≤ sizeLine := by
          have a1 := putRow_len kt []
          have a2 := addRow_len (ks.take i) (kt.foldl putRow [])
          rw [List.length_take] at a2
          simp only [diR, List.length_map, List.length_nil] at *
          lia
        refine' x_if S3' (tst_in_mut (m := u.1) S3' hps ?he_2 rfl rfl rfl rfl rfl) fun s4 S4 => ?k_2
        case he_2 => kat_tups
        rw [diR_lookup]
        have nxt := foldl_take addRow (kt.foldl putRow []) ks hu
        generalize (ks.take i).foldl addRow (kt.foldl putRow []) = acc at *
        cases q : acc.lookup u.1 with
        | none =>
          show wpAny _ _ (execs [_] _) _ _ _
          refine' x_setitem (m := u.1) (d := .int u.2) S4 rfl ?he_3 ?he2_3 hlen rfl rfl rfl fun s8 S8 => x_nil (x_nil ⟨.inl rfl, _, _, ⟨rfl, rfl⟩, ?k_3⟩)
          case he_3 => kat_tups
          case he2_3 => kat_tups
          rw [diR_stored] at S8
          rw [nxt, addRow, q]
          exact St.to S8 ⟨rfl, rfl, rfl, trivial⟩
        | some v =>
          show wpAny _ _ (execs [_] _) _ _ _
          refine' x_if S4 (tst_of_ev (ev_isi_tuple (i := u.2) S4 G ⟨rfl, rfl, rfl⟩ rfl rfl ?he_4 rfl) rfl) fun s5 S5 => ?k_4
          case he_4 => kat_tups
          show wpAny _ _ (execs [_] _) _ _ _
          refine' x_augitem (m := u.1) (a := v) (b := u.2) S5 rfl ?he_5 ?he2_5 ?ht_5 hlen rfl rfl rfl fun s8 S8 => x_nil (x_nil (x_nil ⟨.inl rfl, _, _, ⟨rfl, rfl⟩, ?k_5⟩))
          case he_5 => kat_tups
          case he2_5 => kat_tups
          case ht_5 => rw [diR_lookup, q]; rfl
          rw [diR_stored] at S8
          rw [nxt, addRow, q]
          exact St.to S8 ⟨rfl, rfl, rfl, trivial⟩
      case d2 =>
        rintro s' l' ml' ⟨rfl, rfl⟩ S6
        rw [List.take_length] at S6
        refine' x_ret S6 (d := .val (.ref p)) ?he_6 fun s'' v S' r => ?k_6
        case he_6 => kat_tups
        (first | apply r.kVal | apply r.kInt; intro _ | apply r.kFlt; intro _ _ | apply r.kBool | apply r.kNone | apply r.kNil | cases r)
        exact S'.ret (mp_off hpm) ((S'.muts _ (.head _)).2.2.rep (fun b hb => .inl hb) hp)
end
end

section
open PySem PySem.W PySem.Calls PyProof.Rows
set_option maxRecDepth 100000
set_option linter.unusedVariables false
variable {prog : Program} {w : World}
section
variable {A : Around} {X : Addr → Prop} {h₀ h : Heap} {env : Env} {mg mb : Str → Option Value} {name qual : Str} {doc pm cd ct : Value} {an : Option Addr} {f : Addr}
structure Ent where
  a : Int
  b : Int
  c : Int
  d : Int
  t : List (Int × Int)
noncomputable def Ent.D (e : Ent) : Mine.D := .tup [.int e.a, .int e.b, .int e.c, .int e.d, diD e.t]
noncomputable def Ent.add (t s : Ent) : Ent := ⟨s.a + t.a, s.b + t.b, s.c + t.c, s.d + t.d, addRows t.t s.t⟩
set_option maxHeartbeats 2000000 in
theorem addC {et es : Ent} {vs : List Value} (hsm : X sysModules) (G : Glo mg mb h₀) (hb : Grow h₀ h) (R : Rm A 2) (F : FnAt h f (fdOf 8 name qual .none .none doc pm an cd ct)) (hr : Reps prog w X h [et.D, es.D] vs) (hn : et.t.length + es.t.length ≤ 1000) :
    Op prog w A X h (call (.ref f) vs) (et.add es).D := by
  refine op_callP ["target", "source"] F hb (G.lim.keeps hb) R.d (fun s _ => .of_eq ?_) (by rfl) (by rfl) (by decide) hr ?_
  · apply hr.kCons; intro _ _ hu hr; apply hr.kCons; intro _ _ hu2 hr; (first | apply hr.kVal | apply hr.kInt; intro _ | apply hr.kFlt; intro _ _ | apply hr.kBool | apply hr.kNone | apply hr.kNil | cases hr); rfl
  · intro s₁ L E g hX S
    have R' := R.deeper (envAt 8 qual cd L f)
    refine' x_unpack ["cc", "nc", "tt", "ct", "callers"] S R'.hh rfl (ds := [.int es.a, .int es.b, .int es.c, .int es.d, diD es.t]) ?he_1 rfl ?hx1 rfl (fun s2 S2 => ?k_1) rfl rfl
    case hx1 => intro x hx; simp only [List.mem_cons, List.not_mem_nil, or_false] at hx; rcases hx with rfl | rfl | rfl | rfl | rfl <;> exact .inl rfl
    case he_1 => exact ev_v S (by rfl) rfl rfl rfl
    refine' x_unpack ["t_cc", "t_nc", "t_tt", "t_ct", "t_callers"] S2 R'.hh rfl (ds := [.int et.a, .int et.b, .int et.c, .int et.d, diD et.t]) ?he_2 rfl ?hx2 rfl (fun s3 S3 => ?k_2) rfl rfl
    case hx2 => intro x hx; simp only [List.mem_cons, List.not_mem_nil, or_false] at hx; rcases hx with rfl | rfl | rfl | rfl | rfl <;> exact .inl rfl
    case he_2 => exact ev_v S2 (by rfl) rfl rfl rfl
    have S4 : St prog w h₀ (Xp X L) (One L) (envAt 8 qual cd L f) s₁ s3 [("cc", .int es.a), ("nc", .int es.b), ("tt", .int es.c), ("ct", .int es.d), ("callers", diD es.t), ("t_cc", .int et.a), ("t_nc", .int et.b), ("t_tt", .int et.c), ("t_ct", .int et.d), ("t_callers", diD et.t)] [] := S3.to ⟨rfl, rfl, rfl, rfl, rfl, rfl, rfl, rfl, rfl, rfl, trivial⟩
    have hcall : ∀ {p1 p2 p3 pos : Pos}, Ev prog w (A.deeper (envAt 8 qual cd L f)) (Xp X L) (envAt 8 qual cd L f) s3.heap (.Call (.Name "add_callers" p1) [.Name "t_callers" p2, .Name "callers" p3] [] pos) (diD (addRows et.t es.t)) := fun {p1 p2 p3 pos} =>
      ev_fn G ⟨rfl, rfl, rfl⟩ S4.base rfl (by rfl) (evs_cons (ev_v S4 (by rfl) rfl rfl rfl) (evs_cons (ev_v S4 (by rfl) rfl rfl rfl) evs_nil rfl) rfl) (fun h' vs f name qual doc pm an cd ct g' FF r => addCC (.inl hsm) G (S4.base.trans g') R' FF r hn) (by rfl) rfl
    refine' x_ret S4 (d := (et.add es).D) (Go.cast ?he_3 ?hd_3) fun s' v S' r => S'.ret0 r
    case he_3 => exact ev_tuple (evs_cons (ev_add (ev_v S4 (by rfl) rfl rfl rfl) (ev_v S4 (by rfl) rfl rfl rfl)) (evs_cons (ev_add (ev_v S4 (by rfl) rfl rfl rfl) (ev_v S4 (by rfl) rfl rfl rfl)) (evs_cons (ev_add (ev_v S4 (by rfl) rfl rfl rfl) (ev_v S4 (by rfl) rfl rfl rfl)) (evs_cons (ev_add (ev_v S4 (by rfl) rfl rfl rfl) (ev_v S4 (by rfl) rfl rfl rfl)) (evs_cons hcall evs_nil rfl) rfl) rfl) rfl) rfl) rfl
    case hd_3 => rfl
end
end

section
open PySem PySem.W PySem.Calls PyProof.Rows
set_option maxRecDepth 100000
set_option linter.unusedVariables false
variable {prog : Program} {w : World}
section
variable {A : Around} {X : Addr → Prop} {h₀ h : Heap} {env : Env} {mg mb : Str → Option Value} {name qual : Str} {doc pm cd ct : Value} {an : Option Addr} {f : Addr}
noncomputable def Ent.zero : Ent := ⟨0, 0, 0, 0, []⟩
noncomputable def Ent.sum (es : List Ent) : Ent := es.foldl Ent.add Ent.zero
@[reducible] noncomputable def elA (es : List Ent) (t : Ent) : List (Str × D) := [("total", t.D), ("entries", .lst (es.map Ent.D))]
theorem addRows_len (t s : List (Int × Int)) : (addRows t s).length ≤ t.length + s.length := by
  have a := putRow_len t []
  have b := addRow_len s (t.foldl putRow [])
  unfold addRows
  simp only [List.length_nil] at a
  lia
theorem sum_len (es : List Ent) (t : Ent) {k : Nat} (hk : ∀ e ∈ es, e.t.length ≤ k) : (es.foldl Ent.add t).t.length ≤ t.t.length + es.length * k := by
  induction es generalizing t with
  | nil => simp
  | cons e es ih =>
    rw [List.foldl_cons, List.length_cons]
    have a := ih (t.add e) fun e he => hk e (.tail _ he)
    have b := addRows_len t.t e.t
    have c := hk e (.head _)
    have d : (t.add e).t.length ≤ t.t.length + e.t.length := b
    have e2 : (es.length + 1) * k = es.length * k + k := by rw [Nat.add_mul, Nat.one_mul]
    lia
set_option maxHeartbeats 2000000 in
theorem addedC {es : List Ent} {vs : List Value} (hsm : X sysModules) (G : Glo mg mb h₀) (hb : Grow h₀ h) (R : Rm A 3) (F : FnAt h f (fdOf 19 name qual .none .none doc pm an cd ct)) (hr : Reps prog w X h [.lst (es.map Ent.D)] vs) (hk : ∀ e ∈ es, e.t.length ≤ 20) (hn : es.length ≤ 20) :
    Op prog w A X h (call (.ref f) vs) (Ent.sum es).D := by
  refine op_callP ["entries"] F hb (G.lim.keeps hb) R.d (fun s _ => .of_eq ?_) (by rfl) (by rfl) (by decide) hr ?_
  · apply hr.kCons; intro _ _ hu hr; (first | apply hr.kVal | apply hr.kInt; intro _ | apply hr.kFlt; intro _ _ | apply hr.kBool | apply hr.kNone | apply hr.kNil | cases hr); rfl
  · intro s₁ L E g hX S
    have R' := R.deeper (envAt 19 qual cd L f)
    refine' x_assign (d := Ent.zero.D) S rfl (Go.cast ?he_1 ?hd_1) (.inl rfl) rfl fun s2 S2 => ?k_1
    case he_1 => exact ev_tuple (evs_cons ev_const_int (evs_cons ev_const_int (evs_cons ev_const_int (evs_cons ev_const_int (evs_cons ev_dict0 evs_nil rfl) rfl) rfl) rfl) rfl) rfl
    case hd_1 => rfl
    have S2' : St prog w h₀ (Xp X L) (One L) (envAt 19 qual cd L f) s₁ s2 (elA es ((es.take 0).foldl Ent.add Ent.zero)) [] := S2.to ⟨rfl, rfl, trivial⟩
    refine' x_for S2' rfl (.inl rfl) (it_lst R'.hh ?he_2) (fun i l' ml' => l' = elA es ((es.take i).foldl Ent.add Ent.zero) ∧ ml' = []) ⟨rfl, rfl⟩ ?t1 ?d1
    case he_2 => kat_tups
    case t1 =>
      rintro X1 i d l₁ ml₁ s3 E3 hX1 hd ⟨rfl, rfl⟩ S3
      rw [List.getElem?_map] at hd
      cases q : es[i]? with
      | none => rw [q] at hd; cases hd
      | some e =>
        rw [q] at hd
        cases hd
        have S3' : St prog w h₀ X1 (One L) (envAt 19 qual cd L f) s3 s3 [("entry", e.D), ("total", ((es.take i).foldl Ent.add Ent.zero).D), ("entries", .lst (es.map Ent.D))] [] := S3.to ⟨rfl, rfl, rfl, trivial⟩
        have l1 : ((es.take i).foldl Ent.add Ent.zero).t.length + e.t.length ≤ 1000 := by
          have a := sum_len (k := 20) (es.take i) Ent.zero fun e he => hk e (List.mem_of_mem_take he)
          have b := hk e (List.mem_of_getElem? q)
          have c : (es.take i).length ≤ 20 := Nat.le_trans (by rw [List.length_take]; lia) hn
          have d : Ent.zero.t.length = 0 := rfl
          have e2 : (es.take i).length * 20 ≤ 20 * 20 := Nat.mul_le_mul_right 20 c
          lia
        have nxt : (es.take (i + 1)).foldl Ent.add Ent.zero = ((es.take i).foldl Ent.add Ent.zero).add e := foldl_take _ _ _ q
        refine' x_assign (d := (((es.take i).foldl Ent.add Ent.zero).add e).D) S3' rfl ?he_3 (.inl rfl) rfl fun s8 S8 => x_nil ⟨.inl rfl, _, _, ⟨rfl, rfl⟩, ?k_3⟩
        case he_3 => exact ev_fn G ⟨rfl, rfl, rfl⟩ S3'.base rfl (by rfl) (evs_cons (ev_v S3' (by rfl) rfl rfl rfl) (evs_cons (ev_v S3' (by rfl) rfl rfl rfl) evs_nil rfl) rfl) (fun h' vs f name qual doc pm an cd ct g' FF r => addC (hX1 _ (.inl hsm)) G (S3'.base.trans g') R' FF r l1) (by rfl) rfl
        rw [nxt]
        exact St.to S8 ⟨rfl, rfl, trivial⟩
    case d1 =>
      rintro s' l' ml' ⟨rfl, rfl⟩ S5
      rw [List.length_map, List.take_length] at S5
      refine' x_ret S5 (d := (Ent.sum es).D) ?he_4 fun s' v S' r => S'.ret0 r
      case he_4 => exact ev_v S5 (by rfl) rfl rfl rfl
end
end

section
open PySem PySem.W PySem.Calls PyProof.Rows
set_option maxRecDepth 100000
set_option linter.unusedVariables false
variable {prog : Program} {w : World}
section
variable {A : Around} {X : Addr → Prop} {h₀ h : Heap} {env : Env} {mg mb : Str → Option Value} {name qual : Str} {doc pm cd ct : Value} {an : Option Addr} {f : Addr} {h₁ : Heap} {Mu : Addr → Prop} {s₀ s : Shared} {l : List (Str × D)} {ml : List (Addr × D)}
theorem ev_bisR {xs : List UInt64} {x : UInt64} {e1 e2 : Expr} {p pos : Pos} (G : Glo mg mb h₀) (F : FE env) (g : Grow h₀ h) (R : Rm A 1) (hx : env.kindOf "bisect_right" = some .globalImplicit) (he1 : Ev prog w A X env h e1 (.lst (xs.map .flt))) (he2 : Ev prog w A X env h e2 (.flt x))
    (hlen : xs.length ≤ 1000) (k : Nat) (hk : k ≤ xs.length) (h1 : ∀ i y, i < k → xs[i]? = some y → (Float64.cmp x y == some Ordering.lt) = false) (h2 : ∀ i y, k ≤ i → xs[i]? = some y → (Float64.cmp x y == some Ordering.lt) = true)
    (hst : starEach [e1, e2] env = (false, eval e1 env) :: starEach [e2] env) (hst2 : starEach [e2] env = (false, eval e2 env) :: starEach [] env) :
    Ev prog w A X env h (.Call (.Name "bisect_right" p) [e1, e2] [] pos) (.int k) := by
  obtain ⟨f2, name2, qual2, dV2, kV2, doc2, pm2, an2, cd2, ct2, t2, hm2, F2, b1, b2, b3⟩ := G.bs "bisect_right" 2 (by rfl)
  refine ev_call (ev_glob F.k hx (by rw [F.g]; exact G.g.keeps g) hm2 (by rfl)) (F2.grow g) (evs_cons he1 (evs_cons he2 evs_nil hst2) hst) (fun h' vs g' r => ?_) rfl hst
  apply r.kCons; intro _ _ r1 r; apply r.kCons; intro _ _ r2 r; apply r.kNil
  exact bisRC G (g.trans g') R (F2.grow (g.trans g')) (fun s hs => b1 s _ _ ((g.trans g').trans hs)) (.cons r1 (.cons r2 .nil)) hlen k hk h1 h2
theorem ev_bisL {xs : List UInt64} {x : UInt64} {e1 e2 : Expr} {p pos : Pos} (G : Glo mg mb h₀) (F : FE env) (g : Grow h₀ h) (R : Rm A 1) (hx : env.kindOf "bisect_left" = some .globalImplicit) (he1 : Ev prog w A X env h e1 (.lst (xs.map .flt))) (he2 : Ev prog w A X env h e2 (.flt x))
    (hlen : xs.length ≤ 1000) (k : Nat) (hk : k ≤ xs.length) (h1 : ∀ i y, i < k → xs[i]? = some y → (Float64.cmp y x == some Ordering.lt) = true) (h2 : ∀ i y, k ≤ i → xs[i]? = some y → (Float64.cmp y x == some Ordering.lt) = false)
    (hst : starEach [e1, e2] env = (false, eval e1 env) :: starEach [e2] env) (hst2 : starEach [e2] env = (false, eval e2 env) :: starEach [] env) :
    Ev prog w A X env h (.Call (.Name "bisect_left" p) [e1, e2] [] pos) (.int k) := by
  obtain ⟨f2, name2, qual2, dV2, kV2, doc2, pm2, an2, cd2, ct2, t2, hm2, F2, b1, b2, b3⟩ := G.bs "bisect_left" 3 (by rfl)
  refine ev_call (ev_glob F.k hx (by rw [F.g]; exact G.g.keeps g) hm2 (by rfl)) (F2.grow g) (evs_cons he1 (evs_cons he2 evs_nil hst2) hst) (fun h' vs g' r => ?_) rfl hst
  apply r.kCons; intro _ _ r1 r; apply r.kCons; intro _ _ r2 r; apply r.kNil
  exact bisLC G (g.trans g') R (F2.grow (g.trans g')) (fun s hs => b1 s _ _ ((g.trans g').trans hs)) (.cons r1 (.cons r2 .nil)) hlen k hk h1 h2

noncomputable def fHalf : UInt64 := 0x3FE0000000000000
noncomputable def fOne : UInt64 := 0x3FF0000000000000
noncomputable def wheelOf (row : List (UInt64 × Int)) : List UInt64 := row.map (fun q => q.1) ++ row.map (fun q => Float64.add q.1 fOne)
noncomputable def rwAt (row : List (UInt64 × Int)) (i : Nat) : UInt64 × Int := row.getD i (0, 0)
noncomputable def tabKey (row : List (UInt64 × Int)) (i j : Nat) : Int := (rwAt row ((i + 1 + j) % row.length)).2
noncomputable def tabOf (row : List (UInt64 × Int)) (i near : Nat) : List (Int × Int) := (List.range (near - (i + 1))).foldl (fun acc j => storedI acc (tabKey row i j) 1) []
noncomputable def entOf (row : List (UInt64 × Int)) (near far : Nat → Nat) (i : Nat) : Ent :=
  ⟨1, (near i : Int) - i - 1, Int.fdiv (((near i : Int) - i - 1) * ((near i : Int) - i - 1 - 1)) 2, (far i : Int) - near i, tabOf row i (near i)⟩
theorem tab_store (row : List (UInt64 × Int)) (i near : Nat) : storeAll (tabKey row i) (fun _ => D.int 1) (List.range (near - (i + 1))) = diR (tabOf row i near) := by
  unfold storeAll tabOf
  have key : ∀ (us : List Nat) (acc : List (Int × Int)), us.foldl (fun acc u => storedD acc (tabKey row i u) (D.int 1)) (diR acc) = diR (us.foldl (fun acc j => storedI acc (tabKey row i j) 1) acc) := by
    intro us
    induction us with
    | nil => intro acc; rfl
    | cons u us ih => intro acc; rw [List.foldl_cons, List.foldl_cons, diR_stored, ih]
  exact key _ []
noncomputable def hueB (q : UInt64 × Int) : List (Str × D) := [("n", .int q.2), ("hue", .flt q.1)]
theorem filter_all {α : Type} (l : List α) : l.filter (fun _ => true) = l := by simp
set_option maxHeartbeats 400000 in
theorem ev_hues {L : Addr} {p0 p1 p2 p3 p4 p5 p6 p7 : Pos} {k0 : Nat} {kc : Nat} {row : List (UInt64 × Int)} (S : St prog w h₀ X Mu (envC1 18 "row" qual cd L f) s₀ s l ml) (hh : A.handled = none) (hrow : l.lookup ("row" : Str) = some (.lst (row.map rowD))) (hlen : row.length ≤ 1000) :
    Ev prog w A X (envC1 18 "row" qual cd L f) s.heap (.ListComp (.Name "hue" p0) [⟨.Tuple [.Name "hue" p1, .Name "n" p2] k0 p3, .Name "row" p4, [], 0⟩] ⟨.function, [(".0", .local), ("hue", .local), ("n", .local)], false, false, []⟩ p5) (.lst ((row.map (fun q => q.1)).map .flt)) :=
  Go.cast (ev_lcomp (own := none) (cl := []) (lc := []) (us := row) (enc := rowD) (bnd := hueB) (fun _ => true) (fun q => D.flt (q.1)) S hh rfl (fun _ => rfl) (fun _ => rfl)
    (by decide +kernel) rfl (fun x c e => by cases e) trivial (Nat.le_trans hlen (by decide)) (fun C Dd u hu => .tup ["hue", "n"] rfl (fun x hx => by
      simp only [List.mem_cons, List.not_mem_nil, or_false] at hx; rcases hx with rfl | rfl <;> exact .inl rfl) rfl rfl) (fun u hu => trivial)
    (it_lstT hh (fun d hd => by obtain ⟨q, _, rfl⟩ := List.mem_map.mp hd; exact ⟨_, rfl⟩) (ev_v S hrow rfl rfl rfl)) (fun X' Mu' C i u s₁ ml' hX hu S' => ⟨rfl, fun _ => ev_v S' rfl rfl rfl rfl⟩)) (by rw [filter_all, List.map_map]; rfl)
set_option maxHeartbeats 400000 in
theorem ev_hues1 {L : Addr} {p0 p1 p2 p3 p4 p5 p6 p7 : Pos} {k0 : Nat} {kc : Nat} {row : List (UInt64 × Int)} (S : St prog w h₀ X Mu (envC1 18 "row" qual cd L f) s₀ s l ml) (hh : A.handled = none) (hrow : l.lookup ("row" : Str) = some (.lst (row.map rowD))) (hlen : row.length ≤ 1000) :
    Ev prog w A X (envC1 18 "row" qual cd L f) s.heap (.ListComp (.BinOp (.Name "hue" p0) .Add (.Constant (.float 0x3FF0000000000000) kc p6) p7) [⟨.Tuple [.Name "hue" p1, .Name "n" p2] k0 p3, .Name "row" p4, [], 0⟩] ⟨.function, [(".0", .local), ("hue", .local), ("n", .local)], false, false, []⟩ p5) (.lst ((row.map (fun q => Float64.add q.1 fOne)).map .flt)) :=
  Go.cast (ev_lcomp (own := none) (cl := []) (lc := []) (us := row) (enc := rowD) (bnd := hueB) (fun _ => true) (fun q => D.flt (Float64.add q.1 fOne)) S hh rfl (fun _ => rfl) (fun _ => rfl)
    (by decide +kernel) rfl (fun x c e => by cases e) trivial (Nat.le_trans hlen (by decide)) (fun C Dd u hu => .tup ["hue", "n"] rfl (fun x hx => by
      simp only [List.mem_cons, List.not_mem_nil, or_false] at hx; rcases hx with rfl | rfl <;> exact .inl rfl) rfl rfl) (fun u hu => trivial)
    (it_lstT hh (fun d hd => by obtain ⟨q, _, rfl⟩ := List.mem_map.mp hd; exact ⟨_, rfl⟩) (ev_v S hrow rfl rfl rfl)) (fun X' Mu' C i u s₁ ml' hX hu S' => ⟨rfl, fun _ => ev_fadd (ev_v S' rfl rfl rfl rfl) ev_const_flt⟩)) (by rw [filter_all, List.map_map]; rfl)

@[reducible] noncomputable def enA (row : List (UInt64 × Int)) (p : Addr) : List (Str × D) := [("entries", .val (.ref p)), ("wheel", .lst ((wheelOf row).map .flt)), ("row", .lst (row.map rowD))]
set_option maxHeartbeats 400000 in
theorem entriesC {row : List (UInt64 × Int)} {v : Value} (near far : Nat → Nat) (G : Glo mg mb h₀) (hb : Grow h₀ h) (R : Rm A 2) (F : FnAt h f (fdOf 18 name qual .none .none doc pm an cd ct)) (hr : Rep prog w X h (.lst (row.map rowD)) v) (hlen : row.length ≤ 100)
    (hn0 : ∀ i, i < row.length → i + 1 ≤ near i ∧ near i ≤ (wheelOf row).length ∧ far i ≤ (wheelOf row).length)
    (hn1 : ∀ i, i < row.length → ∀ j y, j < near i → (wheelOf row)[j]? = some y → (Float64.cmp y (Float64.add (rwAt row i).1 fHalf) == some Ordering.lt) = true) (hn2 : ∀ i, i < row.length → ∀ j y, near i ≤ j → (wheelOf row)[j]? = some y → (Float64.cmp y (Float64.add (rwAt row i).1 fHalf) == some Ordering.lt) = false)
    (hf1 : ∀ i, i < row.length → ∀ j y, j < far i → (wheelOf row)[j]? = some y → (Float64.cmp (Float64.add (rwAt row i).1 fHalf) y == some Ordering.lt) = false) (hf2 : ∀ i, i < row.length → ∀ j y, far i ≤ j → (wheelOf row)[j]? = some y → (Float64.cmp (Float64.add (rwAt row i).1 fHalf) y == some Ordering.lt) = true) :
    Op prog w A X h (call (.ref f) [v]) (.lst ((List.range row.length).map fun i => (entOf row near far i).D)) := by
  refine op_callC1 "row" F hb (G.lim.keeps hb) R.d (by rfl) (fun _ => rfl) (by rfl) hr ?_
  intro s₁ L E g hX S
  have R' := R.deeper (envC1 18 "row" qual cd L f)
  have hw : (wheelOf row).length ≤ 1000 := by unfold wheelOf; rw [List.length_append, List.length_map, List.length_map]; lia
  refine' x_assign (d := .lst ((wheelOf row).map .flt)) S rfl (Go.cast ?he_1 ?hd_1) (.inl rfl) rfl fun s2 S2 => ?k_1
  case he_1 => exact ev_addL (ev_hues (p6 := ⟨0, 0, 0, 0⟩) (p7 := ⟨0, 0, 0, 0⟩) (kc := 0) (row := row) S R'.hh rfl (by lia)) (ev_hues1 (row := row) S R'.hh rfl (by lia)) (by simp only [List.length_map]; lia)
  case hd_1 => unfold wheelOf; rw [List.map_append]
  refine x_newlist S2 rfl (.inl rfl) fun s3 p hp hpm S3 => ?_
  have S3' : St prog w h₀ (Xp (fun b => X b ∨ Two L b) p) (Mp (Two L) p) (envC1 18 "row" qual cd L f) s₁ s3 (enA row p) [(p, .lst ((List.range 0).map fun i => (entOf row near far i).D))] := S3.to ⟨rfl, rfl, rfl, trivial⟩
  refine' x_for S3' rfl (.inl rfl) (it_rng (a := 0) (b := row.length) (n := row.length) R'.hh (Go.cast ?he_2 ?hd_2) (rng_n _) (rng_small (by lia))) (fun i l' ml' => l' = enA row p ∧ ml' = [(p, .lst ((List.range i).map fun i => (entOf row near far i).D))]) ⟨rfl, rfl⟩ ?t1 ?d1
  case he_2 => kat_tups
  case hd_2 => simp
  case t1 =>
    rintro X1 i d l₁ ml₁ s4 E4 hX1 hd ⟨rfl, rfl⟩ S4
    obtain ⟨hi, rfl⟩ := upTo0_get hd
    obtain ⟨n1, n2, n3⟩ := hn0 i hi
    have ii : (row.map rowD)[((i : Nat) : Int).toNat]? = some (.tup [.flt (rwAt row i).1, .int (rwAt row i).2]) := by simp [rwAt, hi, rowD]
    refine' x_assign (d := .flt (Float64.add (rwAt row i).1 fHalf)) S4 rfl (Go.cast ?he_3 ?hd_3) (.inl rfl) rfl fun s5 S5 => ?k_3
    case he_3 => kat_tups
    case hd_3 => rfl
    refine' x_assign (d := .int (near i)) S5 rfl ?he_4 (.inl rfl) rfl fun s6 S6 => ?k_4
    case he_4 => exact ev_bisL G ⟨rfl, rfl, rfl⟩ S5.base (R'.le (by decide)) rfl (ev_v S5 rfl rfl rfl rfl) (ev_v S5 rfl rfl rfl rfl) hw (near i) n2 (hn1 i hi) (hn2 i hi) rfl rfl
    refine' x_assign (d := .int (far i)) S6 rfl ?he_5 (.inl rfl) rfl fun s7 S7 => ?k_5
    case he_5 => exact ev_bisR G ⟨rfl, rfl, rfl⟩ S6.base (R'.le (by decide)) rfl (ev_v S6 rfl rfl rfl rfl) (ev_v S6 rfl rfl rfl rfl) hw (far i) n3 (hf1 i hi) (hf2 i hi) rfl rfl
    refine' x_assign (d := .int ((near i : Int) - i - 1)) S7 rfl (Go.cast ?he_6 ?hd_6) (.inl rfl) rfl fun s8 S8 => ?k_6
    case he_6 => kat_tups
    case hd_6 => rfl
    refine x_dcomp (own := none) (cl := [("row", L + 1)]) (lc := [("row", .lst (row.map rowD))]) (us := List.range (near i - (i + 1))) (enc := fun j => D.int (((i : Int) + 1) + ((j : Nat) : Int))) (bnd := fun j => [("m", D.int (((i : Int) + 1) + ((j : Nat) : Int)))])
      (fun _ => true) (tabKey row i) (fun _ => D.int 1) S8 rfl (.inl rfl) R'.hh rfl (fun _ => rfl) (fun _ => rfl) (by decide +kernel) rfl (fun x c e => e) ⟨⟨rfl, .inl rfl, .inl rfl, fun n => ⟨_, rfl, rfl⟩⟩, trivial⟩ ?ln (fun C Dd u hu => .name (.inl rfl)) (fun u hu => ⟨rfl, trivial⟩) (it_nm ?hi2) ?tu fun s9 S9 => ?k2
    case ln => rw [List.length_range]; exact Nat.le_trans (show _ ≤ 1000 by lia) (by decide)
    case hi2 => exact it_rng (a := (i : Int) + 1) (b := near i) (n := near i - (i + 1)) R'.hh (by kat_tups) (by split <;> lia) (small_one (by lia) (by lia) (by lia) (by lia))
    case tu =>
      intro X' Mu' C j u s₁ ml' hX hu S'
      refine ⟨rfl, fun _ => ⟨?_, ev_const_int⟩⟩
      have S'' : St prog w h₀ X' Mu' (cEnv _ [("row", L + 1)] none C (envC1 18 "row" qual cd L f)) s₁ s₁ [("m", .int ((i : Int) + 1 + u)), ("row", .lst (row.map rowD))] ml' := S'
      have e0 : Int.fmod ((i : Int) + 1 + u) (row.length : Int) = (((i + 1 + u) % row.length : Nat) : Int) := by
        rw [Int.fmod_eq_emod_of_nonneg _ (by lia), Int.natCast_emod]; rfl
      have hm : (i + 1 + u) % row.length < row.length := Nat.mod_lt _ (by lia)
      have ix : (row.map rowD)[(Int.fmod ((i : Int) + 1 + u) (row.length : Int)).toNat]? = some (.tup [.flt (rwAt row ((i + 1 + u) % row.length)).1, .int (tabKey row i u)]) := by
        rw [e0, Int.toNat_natCast]
        simp [tabKey, rwAt, hm, rowD]
      have i0 : 0 ≤ Int.fmod ((i : Int) + 1 + u) (row.length : Int) := by rw [e0]; lia
      have lm : (row.map rowD).length = row.length := List.length_map ..
      have hlen' : ∀ {p1 p2 p3 : Pos}, Ev prog w (A.deeper (envC1 18 "row" qual cd L f)) X' (cEnv _ [("row", L + 1)] none C (envC1 18 "row" qual cd L f)) s₁.heap (.Call (.Name "len" p1) [.Name "row" p2] [] p3) (.int (row.length : Int)) := fun {p1 p2 p3} => Go.cast (ev_len (ds := row.map rowD) S'' G ⟨rfl, rfl, rfl⟩ rfl (ev_v S'' rfl rfl rfl rfl) rfl (by rw [lm]; lia)) (by rw [lm])
      exact ev_item_tup (k := 1) (ev_item_lst (ev_v S'' rfl rfl rfl rfl) (ev_fmod (ev_v S'' rfl rfl rfl rfl) hlen' (by lia)) i0 ix (by rw [e0]; lia) rfl) ev_const_int (by decide) rfl (by decide) rfl
    case k2 =>
      rw [filter_all, tab_store] at S9
      have S10 : St prog w h₀ X1 (Mp (Two L) p) (envC1 18 "row" qual cd L f) s4 s9 [("table", diD (tabOf row i (near i))), ("ahead", .int ((near i : Int) - i - 1)), ("far", .int (far i)), ("near", .int (near i)), ("entries", .val (.ref p)), ("wheel", .lst ((wheelOf row).map .flt)), ("row", .lst (row.map rowD))] [(p, .lst ((List.range i).map fun i => (entOf row near far i).D))] := S9.to ⟨rfl, rfl, rfl, rfl, rfl, rfl, rfl, trivial⟩
      refine' x_append (d := (entOf row near far i).D) S10 rfl (Go.cast ?he_7 ?hd_7) ?hs_7 rfl (fun s11 S11 => ?k_7) rfl rfl rfl
      case he_7 => exact ev_tuple (evs_cons ev_const_int (evs_cons (ev_v S10 rfl rfl rfl rfl) (evs_cons (ev_fdiv (ev_mul (ev_v S10 rfl rfl rfl rfl) (ev_sub (ev_v S10 rfl rfl rfl rfl) ev_const_int) (by lia) (by lia)) ev_const_int (by decide) (by decide)) (evs_cons (ev_sub (ev_v S10 rfl rfl rfl rfl) (ev_v S10 rfl rfl rfl rfl)) (evs_cons (ev_v S10 rfl rfl rfl rfl) evs_nil rfl) rfl) rfl) rfl) rfl) rfl
      case hd_7 => rfl
      case hs_7 => rw [List.length_map, List.length_range]; exact Nat.le_trans (show _ ≤ 1000 by lia) (by decide)
      refine x_nil ⟨.inl rfl, _, _, ⟨rfl, ?_⟩, S11.to ⟨rfl, rfl, rfl, trivial⟩⟩
      rw [List.range_succ, List.map_append]; rfl
  case d1 =>
    rintro s' l' ml' ⟨rfl, rfl⟩ S6
    rw [upTo_length] at S6
    refine' x_ret S6 (d := .val (.ref p)) ?he_8 fun s'' v S' r => ?k_8
    case he_8 => kat_tups
    (first | apply r.kVal | apply r.kInt; intro _ | apply r.kFlt; intro _ _ | apply r.kBool | apply r.kNone | apply r.kNil | cases r)
    exact S'.ret (mp_off hpm) ((S'.muts _ (.head _)).2.2.rep (fun b hb => .inl hb) hp)
end
end

end
end Mine

namespace Mine
section
open PySem PySem.W PySem.Calls PyProof.Rows
set_option maxRecDepth 100000
set_option linter.unusedVariables false
variable {prog : Program} {w : World}
section
variable {h₀ : Heap} {A : Around} {X X' Mu : Addr → Prop} {env : Env} {s₀ s : Shared} {l : List (Str × D)} {ml : List (Addr × D)} {h : Heap} {E : Value → Shared → Prop} {rest : List Stmt} {pos : Pos}
theorem wp_callKwI {x : Str} {p kpos : Pos} {e ke : Expr} {args : List Expr} {kn : Str} {f : Addr} {o : Obj} {fd : FuncData} {ds : List D} {Q : Value → Shared → Prop} (hl : Liv X s.heap) (hpos : 0 < s.toks)
    (hf : Ev prog w A X env s.heap (.Name x p) (.val (.ref f))) (hd : o.data = .func fd) (ha : Evs prog w A X env s.heap pos (e :: args) ds)
    (k : ∀ h' tk vs, Grow s.heap h' → Reps prog w X h' ds vs → 0 < tk → wpAny (model prog w) A (eval ke env) (fun vk s' => s'.heap.get? f = some o ∧ wpAny (model prog w) A (call (.ref f) vs [(kn, vk)]) Q E s') E { s with heap := h', toks := tk })
    (hst : starEach (e :: args) env = (false, eval e env) :: starEach args env) :
    wpAny (model prog w) A (eval (.Call (.Name x p) (e :: args) [⟨some kn, ke, kpos⟩] pos) env) Q E s := by
  refine wpAny_Call_Name_kw ?_
  refine hf.use Grow.rfl hl fun vf h1 t1 g1 r1 _ => ?_
  (first | apply r1.kVal | apply r1.kInt; intro _ | apply r1.kFlt; intro _ _ | apply r1.kBool | apply r1.kNone | apply r1.kNil | cases r1)
  refine callWith_function_kw (o := o) (fd := fd) ?_
  have ha' := ha.grow g1
  have hbt : backTo pos (starEach (e :: args) env) = (false, eval e env) :: backTo pos (starEach args env) := by rw [hst]; rfl
  rw [Go] at ha'
  rw [hbt]
  refine evalArgs_kw rfl ?_
  rw [← hbt]
  refine Go.use ha' Grow.rfl (hl.grow g1) fun vs h2 t2 g2 r2 hp2 => ?_
  show wpAny _ _ (evalAll [(do let v ← eval ke env; standAt pos; pure v)]) _ _ _
  refine wpAny_evalAll_cons (wpAny_bind (wpAny_mono (k h2 t2 vs (g1.trans g2) r2 hp2) (fun vk s' hk => wpAny_bind (wpAny_standAt (wpAny_pure ?_))) fun _ _ e => e))
  refine wpAny_pure ?_
  exact ⟨⟨hk.1, hd⟩, hk.2⟩
end
end
end Mine

namespace Mine
section
open PySem PySem.W PySem.Calls PyProof.Rows
set_option maxRecDepth 100000
set_option linter.unusedVariables false
variable {prog : Program} {w : World}
@[reducible] noncomputable def lamP : Arguments := { posonlyargs := [], args := [{ arg := "item", annotation := none, pos := ⟨175, 56, 175, 60⟩ }], vararg := none, kwonlyargs := [], kw_defaults := [], kwarg := none, defaults := [] }
@[reducible] noncomputable def lamB : Expr := .Subscript (.Name "item" ⟨175, 62, 175, 66⟩) (.Constant (.int 0) 0 ⟨175, 67, 175, 68⟩) ⟨175, 62, 175, 69⟩
@[reducible] noncomputable def lamS : Scope := { kind := .function, names := [("item", .local)], isGenerator := false, isCoroutine := false, more := [] }
section
variable {A : Around} {X : Addr → Prop} {h : Heap} {f c : Addr} {qual : Str} {pm ctv : Value}
theorem op_key {y : UInt64} {m : Int} {vs : List Value} (F : LamAt h f (kla_fn "<lambda>" qual lamP lamB lamS [] pm (.ref c) ctv) c qual) (hlim : h.NoLimit) (R : Rm A 1) (hr : Reps prog w X h [.tup [.flt y, .int m]] vs) : Op prog w A X h (call (.ref f) vs) (.flt y) := by
  apply hr.kCons; intro _ _ r rn; apply rn.kNil
  refine op_lam1 "item" (lc := []) F hlim R.d (by rfl) (by decide +kernel) (by rfl) r (fun y c e => by cases e) (fun y z c e => by cases e) (fun y e he => by cases he) (fun s₁ L g hX S => ?_) rfl rfl rfl
  exact ev_item_tup (ev_v S rfl rfl rfl rfl) ev_const_int (by decide) rfl (by decide) rfl
end
section
variable {h₀ : Heap} {A : Around} {X X' Mu : Addr → Prop} {env : Env} {s₀ s : Shared} {l : List (Str × D)} {ml : List (Addr × D)} {E : Value → Shared → Prop} {mg mb : Str → Option Value} {rest : List Stmt} {Q : Flow → Shared → Prop}
theorem st_key {P c : Addr} {cs : List (Nat × Nat × Str × Addr)} {Q : Value → Shared → Prop} (S : St prog w h₀ X Mu env s₀ s l ((P, .tab cs) :: ml)) (F : FE env) (G : Glo mg mb h₀) (hcode : env.code = .ref c) (C : CodeHd h₀ c P) (hb : h₀.BuiltinsAt mg P) (hgP : mainGlobals ≠ P)
    (hcs : cs = [] ∨ ∃ c', cs = [(175, 49, env.qual ++ "<lambda>", c')])
    (k : ∀ s' f c' ctv, St prog w h₀ X Mu env s₀ s' l ((P, .tab [(175, 49, env.qual ++ "<lambda>", c')]) :: ml) →
      LamAt s'.heap f (kla_fn "<lambda>" (env.qual ++ "<lambda>") lamP lamB lamS [] ((mg "__name__").getD .none) (.ref c') ctv) c' (env.qual ++ "<lambda>") → ¬ X f → ¬ X c' → (∀ b o, b ≠ P → s.heap.get? b = some o → s'.heap.get? b = some o) → Q (.ref f) s') :
    wpAny (model prog w) A (eval (.Lambda lamP lamB lamS ⟨175, 49, 175, 69⟩) env) Q E s := by
  rcases hcs with rfl | ⟨c', rfl⟩
  · exact st_lambda S F.g G.g hcode C hb hgP rfl rfl rfl fun s' f c' ctv S' L n1 n2 kp => k s' f c' ctv S' L n1 n2 kp
  · exact st_lambdaHit S F.g G.g hcode C hb rfl rfl rfl (List.mem_singleton.mpr rfl) fun s' f ctv S' L n1 n2 kp => k s' f c' ctv S' L n1 n2 kp

theorem x_insort {P c p : Addr} {cs : List (Nat × Nat × Str × Addr)} {p1 p2 kpos pos spos : Pos} {e : Expr} {xs : List (UInt64 × Int)} {y : UInt64} {m : Int} (S : St prog w h₀ X Mu env s₀ s l ((P, .tab cs) :: (p, .lst (xs.map rowD)) :: ml)) (F : FE env) (G : Glo mg mb h₀) (R : Rm A 3)
    (hcode : env.code = .ref c) (C : CodeHd h₀ c P) (hb : h₀.BuiltinsAt mg P) (hgP : mainGlobals ≠ P) (hcs : cs = [] ∨ ∃ c', cs = [(175, 49, env.qual ++ "<lambda>", c')]) (hx : env.kindOf "insort_right" = some .globalImplicit) (hv : l.lookup ("row" : Str) = some (.val (.ref p)))
    (he : Ev prog w A X env s.heap e (.tup [.flt y, .int m])) (hlen : xs.length ≤ 1000) (k : Nat) (hk : k ≤ xs.length)
    (h1 : ∀ i q, i < k → xs[i]? = some q → (Float64.cmp y q.1 == some Ordering.lt) = false) (h2 : ∀ i q, k ≤ i → xs[i]? = some q → (Float64.cmp y q.1 == some Ordering.lt) = true)
    (kk : ∀ s' c', St prog w h₀ X Mu env s₀ s' l ((P, .tab [(175, 49, env.qual ++ "<lambda>", c')]) :: (p, .lst ((xs.take k ++ (y, m) :: xs.drop k).map rowD)) :: ml) → wpAny (model prog w) A (execs rest env) Q E s')
    (hst : starEach [.Name "row" p2, e] env = (false, eval (.Name "row" p2) env) :: starEach [e] env := by rfl) (hst2 : starEach [e] env = (false, eval e env) :: starEach [] env := by rfl) (hi : interactive env = false := by rfl) :
    wpAny (model prog w) A (execs (.Expr (.Call (.Name "insort_right" p1) [.Name "row" p2, e] [⟨some "key", .Lambda lamP lamB lamS ⟨175, 49, 175, 69⟩, kpos⟩] pos) spos :: rest) env) Q E s := by
  obtain ⟨f2, name2, qual2, dV2, kV2, doc2, pm2, an2, cd2, ct2, t2, hm2, F2, b1, b2, b3⟩ := G.bs "insort_right" 1 (by rfl)
  obtain ⟨o, ho, hod⟩ := F2.here
  have hpX : X p := S.mx _ (S.muts _ (.tail _ (.head _))).1
  have hXP : X P := S.mx _ (S.muts _ (.head _)).1
  refine wpAny_execs_cons (wpAny_Expr_any (wp_callKwI S.liv S.tok (ev_glob F.k hx (by rw [F.g]; exact G.g.keeps S.base) hm2 (by rfl)) hod (evs_cons (ev_var F.k (S.vars _ _ hv) rfl rfl) (evs_cons he evs_nil hst2) hst) (fun h' tk vs g r hp => ?_) hst) hi rfl)
  have S1 := S.grown (tk := tk) g
  refine st_key S1 F G hcode C hb hgP hcs fun s' kf c' ctv S2 L n1 n2 kp => ⟨S2.base _ _ ho, ?_⟩
  apply r.kCons; intro _ _ ra r; apply r.kCons; intro _ _ rb r; apply r.kNil
  (first | apply ra.kVal | apply ra.kInt; intro _ | apply ra.kFlt; intro _ _ | apply ra.kBool | apply ra.kNone | apply ra.kNil | cases ra)
  have T : Tr X X h' s'.heap := fun b o n e => ⟨n, kp b o (fun z => n (z ▸ hXP)) e⟩
  have hoff : h₀.get? p = none := S2.off _ (S2.muts _ (.tail _ (.head _))).1
  have nkp : kf ≠ p := fun z => n1 (z ▸ hpX)
  have ncp : c' ≠ p := fun z => n2 (z ▸ hpX)
  refine wpAny_with_toks (n := 1) S2.tok ?_
  refine insortC G S2.base R (F2.grow S2.base) (b2 s' _ _ _ S2.base) S2.liv S2.tok hpX hoff (S2.muts _ (.tail _ (.head _))).2.2 (rb.tr T) hlen k hk L.here rfl nkp (fun A' X' h3 vs y m R3 kp3 r3 => ?_) h1 h2 fun h4 t4 kp4 m4 hp4 => ?_
  · exact op_key ⟨kp3 _ _ nkp L.here, codeRec_tr L.rec_ fun o e => kp3 _ o ncp e⟩ (G.lim.keeps fun b o e => kp3 b o (fun z => by rw [z, hoff] at e; cases e) (S2.base b o e)) R3 r3
  · have hp4 : 0 < t4 := hp4
    exact kk _ c' (S2.swap.changeG (tk := t4) kp4 m4).swap
end
end
end Mine

namespace Mine
section
open PySem PySem.W PySem.Calls PyProof.Rows
set_option maxRecDepth 100000
set_option linter.unusedVariables false
noncomputable def KSat (lt : Nat → Nat → Bool) (n : Nat) {α : Type} : KasT α → (α → Prop) → Prop
  | .ret a, Q => Q a
  | .ask i j k, Q => i < n ∧ j < n ∧ KSat lt n (k (lt i j)) Q
section
variable {lt : Nat → Nat → Bool} {n : Nat} {α β : Type}
theorem KSat.bind {f : α → KasT β} {Q : β → Prop} : ∀ (t : KasT α), KSat lt n t (fun a => KSat lt n (f a) Q) → KSat lt n (t.bind f) Q
  | .ret a, h => h
  | .ask i j k, h => ⟨h.1, h.2.1, KSat.bind (k (lt i j)) h.2.2⟩
theorem KSat.mono {Q Q' : α → Prop} (hq : ∀ a, Q a → Q' a) : ∀ (t : KasT α), KSat lt n t Q → KSat lt n t Q'
  | .ret a, h => hq a h
  | .ask i j k, h => ⟨h.1, h.2.1, KSat.mono hq (k (lt i j)) h.2.2⟩
theorem KSat.wp {cmp : Nat → Nat → (Bool → Shared → Prop) → Shared → Prop} {I : Shared → Prop} (hc : ∀ i j C s, i < n → j < n → I s → (∀ s', I s' → C (lt i j) s') → cmp i j C s) {Q' : α → Prop} {Q : α → Shared → Prop} (hQ : ∀ a s', Q' a → I s' → Q a s') :
    ∀ (t : KasT α) (s : Shared), KSat lt n t Q' → I s → t.kasWp cmp Q s
  | .ret a, s, h, hi => hQ a s h hi
  | .ask i j k, s, h, hi => hc i j _ s h.1 h.2.1 hi fun s' hi' => KSat.wp hc hQ (k (lt i j)) s' h.2.2 hi'
end
structure PG (n : Nat) (p : Array Nat) : Prop where
  sz : p.size = n
  perm : p.toList.Perm (List.range n)
section
variable {n : Nat} {p : Array Nat} {key : Nat → Int}
theorem PG.lt (g : PG n p) (hn : 0 < n) (i : Nat) : p.getD i 0 < n := by
  by_cases h : i < p.size
  · have : p.getD i 0 ∈ p.toList := by simp [Array.getD, h]
    exact List.mem_range.mp (g.perm.mem_iff.mp this)
  · simp [Array.getD, h, hn]
theorem PG.ne (g : PG n p) {i j : Nat} (hi : i < n) (hj : j < n) (h : i ≠ j) : p.getD i 0 ≠ p.getD j 0 := by
  have nd : p.toList.Nodup := g.perm.nodup_iff.mpr List.nodup_range
  have hi' : i < p.toList.length := by simpa [g.sz] using hi
  have hj' : j < p.toList.length := by simpa [g.sz] using hj
  have key := List.pairwise_iff_getElem.mp nd
  have a1 : p.getD i 0 = p.toList[i] := by simp [Array.getD, g.sz, hi]
  have a2 : p.getD j 0 = p.toList[j] := by simp [Array.getD, g.sz, hj]
  rw [a1, a2]
  rcases Nat.lt_or_gt_of_ne h with q | q
  · exact key i j hi' hj' q
  · exact (key j i hj' hi' q).symm
theorem PG.bubble (g : PG n p) (k d : Nat) : PG n (bubble p k d) := ⟨by rw [bubble_size, g.sz], (Array.perm_iff_toList_perm.mp (bubble_perm p k d)).trans g.perm⟩
theorem PG.rev (g : PG n p) (i j : Nat) : PG n (kas_rev p i j) := ⟨by rw [kas_rev_size, g.sz], (Array.perm_iff_toList_perm.mp (mirror_perm p i j _)).trans g.perm⟩
noncomputable def Up (key : Nat → Int) (p : Array Nat) (k : Nat) : Prop := ∀ i j, i < j → j < k → key (p.getD i 0) < key (p.getD j 0)

theorem asc_sat (g : PG n p) (hn : 0 < n) (hk : ∀ i j, i < n → j < n → key i = key j → i = j) : ∀ (f m : Nat), 1 ≤ m → m + f ≤ n → Up key p m → KSat (fun i j => decide (key i < key j)) n (kas_asc p f m) fun r => m ≤ r ∧ r ≤ m + f ∧ Up key p r ∧ (r = m + f ∨ key (p.getD r 0) < key (p.getD (r - 1) 0))
  | 0, m, _, _, hu => ⟨Nat.le_refl _, Nat.le_refl _, hu, .inl rfl⟩
  | f + 1, m, h1, h2, hu => by
    refine ⟨g.lt hn _, g.lt hn _, ?_⟩
    by_cases c : key (p.getD m 0) < key (p.getD (m - 1) 0)
    · simp only [c, decide_true, if_true]
      exact ⟨Nat.le_refl _, by lia, hu, .inr c⟩
    · simp only [c, decide_false, Bool.false_eq_true, if_false]
      have ne : p.getD (m - 1) 0 ≠ p.getD m 0 := g.ne (by lia) (by lia) (by lia)
      have lt1 : key (p.getD (m - 1) 0) < key (p.getD m 0) := by
        rcases Int.lt_trichotomy (key (p.getD (m - 1) 0)) (key (p.getD m 0)) with q | q | q
        · exact q
        · exact absurd (hk _ _ (g.lt hn _) (g.lt hn _) q) ne
        · exact absurd q c
      have hu' : Up key p (m + 1) := by
        intro i j hij hj
        by_cases e : j = m
        · subst e
          by_cases e2 : i = j - 1
          · subst e2; exact lt1
          · exact Int.lt_trans (hu i (j - 1) (by lia) (by lia)) lt1
        · exact hu i j hij (by lia)
      refine KSat.mono (fun r hr => ⟨by lia, by lia, hr.2.2.1, hr.2.2.2.imp (fun z => by lia) id⟩) _ (asc_sat g hn hk f (m + 1) (by lia) (by lia) hu')

noncomputable def Down (key : Nat → Int) (p : Array Nat) (k : Nat) : Prop := ∀ i j, i < j → j < k → key (p.getD j 0) < key (p.getD i 0)
theorem desc_sat (g : PG n p) (hn : 0 < n) (hk : ∀ i j, i < n → j < n → key i = key j → i = j) : ∀ (f m : Nat), 1 ≤ m → m + f ≤ n → Down key p m → KSat (fun i j => decide (key i < key j)) n (kas_desc f p m 0) fun r => r.1 = p ∧ r.2.2 = 0 ∧ m ≤ r.2.1 ∧ r.2.1 ≤ m + f ∧ Down key p r.2.1
  | 0, m, _, _, hu => ⟨rfl, rfl, Nat.le_refl _, Nat.le_refl _, hu⟩
  | f + 1, m, h1, h2, hu => by
    refine ⟨g.lt hn _, g.lt hn _, ?_⟩
    by_cases c : key (p.getD m 0) < key (p.getD (m - 1) 0)
    · simp only [c, decide_true, if_true, Nat.lt_irrefl, gt_iff_lt, if_false]
      have hu' : Down key p (m + 1) := by
        intro i j hij hj
        by_cases e : j = m
        · subst e
          by_cases e2 : i = j - 1
          · subst e2; exact c
          · exact Int.lt_trans c (hu i (j - 1) (by lia) (by lia))
        · exact hu i j hij (by lia)
      exact KSat.mono (fun r hr => ⟨hr.1, hr.2.1, by lia, by lia, hr.2.2.2.2⟩) _ (desc_sat g hn hk f (m + 1) (by lia) (by lia) hu')
    · simp only [c, decide_false, Bool.false_eq_true, if_false]
      have ne : p.getD (m - 1) 0 ≠ p.getD m 0 := g.ne (by lia) (by lia) (by lia)
      have lt1 : key (p.getD (m - 1) 0) < key (p.getD m 0) := by
        rcases Int.lt_trichotomy (key (p.getD (m - 1) 0)) (key (p.getD m 0)) with q | q | q
        · exact q
        · exact absurd (hk _ _ (g.lt hn _) (g.lt hn _) q) ne
        · exact absurd q c
      refine ⟨g.lt hn _, g.lt hn _, ?_⟩
      simp only [lt1, decide_true, if_true]
      exact ⟨rfl, rfl, Nat.le_refl _, Nat.le_add_right _ _, hu⟩
theorem getD_rev (g : PG n p) {m k : Nat} (hm : m ≤ n) : (kas_rev p 0 m).getD k 0 = if k < m then p.getD (m - 1 - k) 0 else p.getD k 0 := by
  have := getElem?_mirror_all (xs := p) (i := 0) (j := m) (by rw [g.sz]; exact hm) k
  rw [Array.getD_eq_getD_getElem?, kas_rev, this]
  simp only [Nat.zero_le, true_and, Nat.zero_add]
  split
  · rw [Array.getD_eq_getD_getElem?]
  · rw [Array.getD_eq_getD_getElem?]
theorem up_rev (g : PG n p) {m : Nat} (hm : m ≤ n) (h : Down key p m) : Up key (kas_rev p 0 m) m := by
  intro i j hij hj
  rw [getD_rev g hm, getD_rev g hm, if_pos (by omega), if_pos hj]
  exact h _ _ (by omega) (by omega)
theorem getD_bubble (g : PG n p) {k l x : Nat} (hk : k < n) (hl : l ≤ k) : (bubble p k (k - l)).getD x 0 = if x = l then p.getD k 0 else if l < x ∧ x ≤ k then p.getD (x - 1) 0 else p.getD x 0 := by
  have := getElem?_bubble (xs := p) (src := k) (by rw [g.sz]; exact hk) (k - l) (by omega) x
  rw [show k - (k - l) = l by omega] at this
  rw [Array.getD_eq_getD_getElem?, this]
  split
  · rw [Array.getD_eq_getD_getElem?]
  · split
    · rw [Array.getD_eq_getD_getElem?]
    · rw [Array.getD_eq_getD_getElem?]
theorem place_sat (g : PG n p) (hn : 0 < n) (hk : ∀ i j, i < n → j < n → key i = key j → i = j) {k : Nat} (hkn : k < n) (hu : Up key p k) : ∀ (f l r : Nat), l ≤ r → r ≤ k → r - l ≤ f → (∀ i, i < l → key (p.getD i 0) < key (p.getD k 0)) → (∀ i, r ≤ i → i < k → key (p.getD k 0) < key (p.getD i 0)) →
    KSat (fun i j => decide (key i < key j)) n (kas_place p k f l r) fun m => m ≤ k ∧ (∀ i, i < m → key (p.getD i 0) < key (p.getD k 0)) ∧ (∀ i, m ≤ i → i < k → key (p.getD k 0) < key (p.getD i 0))
  | 0, l, r, h1, h2, h3, ha, hb => ⟨by lia, ha, fun i hi => hb i (by lia)⟩
  | f + 1, l, r, h1, h2, h3, ha, hb => by
    rw [kas_place]
    by_cases c : l ≥ r
    · rw [if_pos c]; exact ⟨by lia, ha, fun i hi => hb i (by lia)⟩
    · rw [if_neg c]
      refine ⟨g.lt hn _, g.lt hn _, ?_⟩
      have hm : (l + r) / 2 < r ∧ l ≤ (l + r) / 2 := by lia
      by_cases c2 : key (p.getD k 0) < key (p.getD ((l + r) / 2) 0)
      · simp only [c2, decide_true, if_true]
        refine place_sat g hn hk hkn hu f l ((l + r) / 2) (by lia) (by lia) (by lia) ha fun i hi hik => ?_
        by_cases e : i = (l + r) / 2
        · rw [e]; exact c2
        · exact Int.lt_trans c2 (hu _ i (by lia) hik)
      · simp only [c2, decide_false, Bool.false_eq_true, if_false]
        have ne : p.getD ((l + r) / 2) 0 ≠ p.getD k 0 := g.ne (by lia) hkn (by lia)
        have lt1 : key (p.getD ((l + r) / 2) 0) < key (p.getD k 0) := by
          rcases Int.lt_trichotomy (key (p.getD ((l + r) / 2) 0)) (key (p.getD k 0)) with q | q | q
          · exact q
          · exact absurd (hk _ _ (g.lt hn _) (g.lt hn _) q) ne
          · exact absurd q c2
        refine place_sat g hn hk hkn hu f ((l + r) / 2 + 1) r (by lia) h2 (by lia) (fun i hi => ?_) hb
        by_cases e : i = (l + r) / 2
        · rw [e]; exact lt1
        · exact Int.lt_trans (hu i _ (by lia) (by lia)) lt1
theorem bin_sat (hn : 0 < n) (hk : ∀ i j, i < n → j < n → key i = key j → i = j) : ∀ (f k : Nat) {p : Array Nat}, PG n p → 1 ≤ k → k + f = n → Up key p k → KSat (fun i j => decide (key i < key j)) n (kas_bin f p k) fun q => PG n q ∧ Up key q n
  | 0, k, p, g, _, hf, hu => ⟨g, by rw [← hf]; exact hu⟩
  | f + 1, k, p, g, h1, hf, hu => by
    rw [kas_bin]
    refine KSat.bind _ (KSat.mono (fun l hl => ?_) _ (place_sat g hn hk (k := k) (by lia) hu k 0 k (by lia) (by lia) (by lia) (fun i hi => by lia) (fun i hi hi2 => by lia)))
    obtain ⟨l1, l2, l3⟩ := hl
    refine bin_sat hn hk f (k + 1) (g.bubble k (k - l)) (by lia) (by lia) ?_
    intro i j hij hj
    rw [getD_bubble g (by lia) l1, getD_bubble g (by lia) l1]
    by_cases a1 : i = l
    · rw [if_pos a1, if_neg (by lia), if_pos (by lia)]
      exact l3 _ (by lia) (by lia)
    · rw [if_neg a1]
      by_cases a2 : j = l
      · rw [if_pos a2, if_neg (by lia)]
        exact l2 _ (by lia)
      · rw [if_neg a2]
        by_cases a3 : l < i ∧ i ≤ k
        · rw [if_pos a3, if_pos (by lia)]
          exact hu _ _ (by lia) (by lia)
        · rw [if_neg a3]
          by_cases a4 : l < j ∧ j ≤ k
          · rw [if_pos a4]
            by_cases a5 : i = j - 1
            · lia
            · exact hu _ _ (by lia) (by lia)
          · rw [if_neg a4]
            exact hu _ _ hij (by lia)
theorem pg_range (n : Nat) : PG n (List.toArray (List.range n)) := ⟨by simp, List.Perm.refl _⟩
theorem tail_sat (g : PG n p) (hn : 0 < n) (hk : ∀ i j, i < n → j < n → key i = key j → i = j) {m : Nat} (h1 : 1 ≤ m) (hm : m ≤ n) (hd : Down key p m) :
    KSat (fun i j => decide (key i < key j)) n (kas_tail3 m n p) fun r => PG n r.2 ∧ Up key r.2 r.1 ∧ 1 ≤ r.1 ∧ r.1 ≤ n := by
  unfold kas_tail3
  refine KSat.bind _ (KSat.mono (fun r hr => ?_) _ (asc_sat (g.rev 0 m) hn hk (n - m) m h1 (by omega) (up_rev g hm hd)))
  exact ⟨g.rev 0 m, hr.2.2.1, by show 1 ≤ r; omega, by show r ≤ n; omega⟩
theorem count_sat (h2 : 2 ≤ n) (hk : ∀ i j, i < n → j < n → key i = key j → i = j) (g : PG n p) :
    KSat (fun i j => decide (key i < key j)) n (kas_count n p) fun r => PG n r.2 ∧ Up key r.2 r.1 ∧ 1 ≤ r.1 ∧ r.1 ≤ n := by
  have hn : 0 < n := by lia
  unfold kas_count
  refine KSat.bind _ (KSat.mono (fun r hr => ?_) _ (asc_sat g hn hk (n - 1) 1 (Nat.le_refl _) (by lia) (fun i j hij hj => by lia)))
  obtain ⟨r1, r2, r3, r4⟩ := hr
  by_cases e : r = n
  · subst e
    simp only [beq_self_eq_true, if_true]
    exact ⟨g, r3, r1, Nat.le_refl _⟩
  · have e' : (r == n) = false := by simpa using e
    simp only [e', Bool.false_eq_true, if_false]
    by_cases e1 : r > 1
    · rw [if_pos e1]
      refine ⟨g.lt hn _, g.lt hn _, ?_⟩
      have := r3 0 (r - 1) (by lia) (by lia)
      simp only [this, decide_true, if_true]
      exact ⟨g, r3, r1, by show r ≤ n; lia⟩
    · rw [if_neg e1]
      have e2 : r = 1 := by lia
      subst e2
      have c : key (p.getD 1 0) < key (p.getD 0 0) := r4.resolve_left (by lia)
      unfold kas_descPart
      refine KSat.bind _ (KSat.mono (fun q hq => ?_) _ (desc_sat g hn hk (n - 2) 2 (by lia) (by lia) (fun i j hij hj => ?_)))
      · obtain ⟨q1, q2, q3, q4, q5⟩ := hq
        rw [q2, q1]
        simp only [gt_iff_lt, Nat.lt_irrefl, if_false]
        exact tail_sat g hn hk (by lia) (by lia) q5
      · have : i = 0 ∧ j = 1 := by lia
        rw [this.1, this.2]; exact c
theorem sort_sat (h2 : 2 ≤ n) (hk : ∀ i j, i < n → j < n → key i = key j → i = j) :
    KSat (fun i j => decide (key i < key j)) n (kas_sort n) fun q => PG n q ∧ Up key q n := by
  have hn : 0 < n := by lia
  unfold kas_sort
  refine KSat.bind _ (KSat.mono (fun r hr => ?_) _ (count_sat h2 hk (pg_range n)))
  obtain ⟨r1, r2, r3, r4⟩ := hr
  by_cases e : r.1 < n
  · rw [if_pos e]
    have hm : max r.1 1 = r.1 := Nat.max_eq_left r3
    rw [hm]
    exact bin_sat hn hk (n - r.1) r.1 r1 r3 (by lia) r2
  · rw [if_neg e]
    exact ⟨r1, by have : r.1 = n := by lia
                  rw [← this]; exact r2⟩
end
end
end Mine

namespace Mine
section
open PySem PySem.W PySem.Calls PyProof.Rows PySem.SeqAt
set_option maxRecDepth 100000
set_option linter.unusedVariables false
variable {prog : Program} {w : World}
@[reducible] noncomputable def prD (q : Int × Int) : D := .tup [.int q.1, .int q.2]
noncomputable def prK (q : Int × Int) : Int := q.1 * 100 + q.2
section
variable {A : Around} {X : Addr → Prop} {h : Heap} {E : Value → Shared → Prop} {s : Shared}
theorem pair_lt {p q : Int × Int} {va vb : Value} {Q : Bool → Shared → Prop} (ra : Rep prog w X s.heap (prD p) va) (rb : Rep prog w X s.heap (prD q) vb) (hp : 0 ≤ p.2 ∧ p.2 < 100) (hq : 0 ≤ q.2 ∧ q.2 < 100)
    (h : Q (decide (prK p < prK q)) s) : wpAny (model prog w) A (keyLt' (tuples' true) va vb) Q E s := by
  apply ra.kTup; intro a vs hx ha hr; apply rb.kTup; intro b ws hx2 hb2 hr2; revert ha hb2
  apply hr.kCons; intro _ _ p1 hr; apply hr.kCons; intro _ _ p2 hr; apply hr.kNil
  apply hr2.kCons; intro _ _ q1 hr2; apply hr2.kCons; intro _ _ q2 hr2; apply hr2.kNil
  apply p1.kInt; intro t1; apply p2.kInt; intro t2; apply q1.kInt; intro u1; apply q2.kInt; intro u2 ha hb2
  obtain ⟨oa, ea, ca, na, da⟩ := ha
  obtain ⟨ob, eb, cb, nb, db⟩ := hb2
  refine kat_lt ea da eb db ?_
  show KatLex prog w A true _ Q [(.int p.1 t1, .int q.1 u1), (.int p.2 t2, .int q.2 u2)] 0 s
  refine kat_cons (EqAt.int_int _ _ _ _ prog w _ _ ?_)
  refine kat_go (fun e1 => ?_) (fun e1 => ?_)
  · have e1 : p.1 = q.1 := beq_iff_eq.mp e1
    refine kat_yes (kat_cons (EqAt.int_int _ _ _ _ prog w _ _ ?_))
    refine kat_go (fun e2 => kat_yes (kat_nil ?_)) (fun e2 => kat_no (kat_one _ _ (PyProof.Rows.lt_int ?_)))
    · have e2 : p.2 = q.2 := beq_iff_eq.mp e2
      have : decide (prK p < prK q) = false := by unfold prK; rw [e1, e2]; simp
      rw [this] at h
      exact h
    · have : decide (prK p < prK q) = decide (p.2 < q.2) := decide_eq_decide.mpr (by unfold prK; lia)
      rw [this] at h
      exact h
  · have e1 : p.1 ≠ q.1 := by simpa using e1
    refine kat_no (oneLt_int ?_)
    have : decide (prK p < prK q) = decide (p.1 < q.1) := decide_eq_decide.mpr (by unfold prK; lia)
    rw [this] at h
    exact h
theorem katTups_of : ∀ {ps : List (Int × Int)} {ks : List Value}, Reps prog w X h (ps.map prD) ks → ∃ fs, KatTups h ks fs ∧ fs.length = ps.length ∧ ∀ v ∈ fs, ∃ i t, v = Value.int i t
  | [], _, r => by (first | apply r.kVal | apply r.kInt; intro _ | apply r.kFlt; intro _ _ | apply r.kBool | apply r.kNone | apply r.kNil | cases r); exact ⟨[], trivial, rfl, fun v hv => by cases hv⟩
  | p :: ps, _, r => by
    apply r.kCons; intro _ _ r1 r
    obtain ⟨fs, t, l, k⟩ := katTups_of r
    apply r1.kTup; intro a vs hx ha hr
    revert ha; apply hr.kCons; intro _ _ p1 hr; apply hr.kCons; intro _ _ p2 hr; apply hr.kNil
    apply p1.kInt; intro t1 ha
    obtain ⟨oa, ea, ca, na, da⟩ := ha
    refine ⟨.int p.1 t1 :: fs, KatTups.cons ea ca da rfl t, by simp [l], fun v hv => ?_⟩
    rcases List.mem_cons.mp hv with rfl | hv
    · exact ⟨_, _, rfl⟩
    · exact k v hv
theorem reps_getD {ps : List (Int × Int)} {ks : List Value} (r : Reps prog w X h (ps.map prD) ks) {i : Nat} (hi : i < ps.length) : Rep prog w X h (prD (ps.getD i (0, 0))) (ks.getD i Value.none) := by
  obtain ⟨v, e, rv⟩ := r.get (i := i) (d := prD (ps.getD i (0, 0))) (by simp [hi])
  have : ks.getD i Value.none = v := by rw [List.getD_eq_getElem?_getD, e]; rfl
  rw [this]; exact rv

@[reducible] noncomputable def Xaa (X : Addr → Prop) (a kS : Addr) : Addr → Prop := fun b => X b ∨ b = a ∨ b = kS
theorem srt_rest {hB : Heap} {a kS : Addr} {f : Value} {vs : List Value} {ns : List Int} {P : Int → Int} {e1 : Nat} {Pf : PySem.Fin → Shared → Prop}
    (hold : Grow hB s.heap) (na : hB.get? a = none) (nk : hB.get? kS = none) (hak : a ≠ kS) (haL : s.heap.get? a = some (seqObj "list" #[] e1)) (hkL : s.heap.get? kS = some (seqObj "list" #[] 0))
    (lv : Liv (Xaa X a kS) s.heap) (hpos : 0 < s.toks) (hr : IntsAre vs ns)
    (hkey : ∀ h' vs n, Grow hB h' → n ∈ ns → Reps prog w (Xaa X a kS) h' [.int n] vs → Op prog w A (Xaa X a kS) h' (call f vs) (prD (P n, n)))
    (hbd : ∀ n ∈ ns, 0 ≤ n ∧ n < 100) (hnd : ns.Nodup) (h2 : 2 ≤ ns.length) (h64 : ns.length < 64)
    (k : ∀ h' tk q e, Grow hB h' → Liv (Xaa X a kS) h' → PG ns.length q → Up (fun i => prK (P (ns.getD i 0), ns.getD i 0)) q ns.length → h'.get? a = some (seqObj "list" (q.toList.map fun i => vs.getD i Value.none).toArray e) → 0 < tk → Pf (.done (.ret .none)) { s with heap := h', toks := tk }) :
    wpAny (model prog w) A (ksk_rest a f false vs.toArray e1 (.ref kS)) Pf E s := by
  have hvl : vs.length = ns.length := ints_len hr
  have hXa : Xaa X a kS a := .inr (.inl rfl)
  have hXk : Xaa X a kS kS := .inr (.inr rfl)
  unfold ksk_rest
  refine wpAny_bind (wpAny_rule ?_)
  first
    | rw [List.forIn_toArray]
    | (rw [← Array.forIn_toList]; simp only [List.toList_toArray])
    | rw [← Array.forIn_toList]
  refine wpAny_bind (ksk_fold (fun i s' => ∃ h' tk ks e, s' = { s with heap := h', toks := tk } ∧ 0 < tk ∧ Grow hB h' ∧ Liv (Xaa X a kS) h' ∧ h'.get? a = some (seqObj "list" #[] e1) ∧ h'.get? kS = some (seqObj "list" (List.toArray ks) e) ∧
      Reps prog w (Xaa X a kS) h' (((ns.take i).map fun n => (P n, n)).map prD) ks) vs 0 s ⟨s.heap, s.toks, [], 0, rfl, hpos, hold, lv, haL, hkL, by simpa using Reps.nil⟩ ?step ?done)
  case step =>
    rintro j x s' hx ⟨h', tk, ks, e, rfl, hp, g, lv', ha', hk', hr'⟩
    simp only [Nat.zero_add] at hr' ⊢
    have hj : j < ns.length := by rw [← hvl]; exact (List.getElem?_eq_some_iff.mp hx).1
    obtain ⟨n, hn⟩ : ∃ n, ns[j]? = some n := ⟨_, List.getElem?_eq_getElem hj⟩
    have rx : Reps prog w (Xaa X a kS) h' [.int n] [x] := by
      obtain ⟨v, e, r⟩ := (ints_reps (prog := prog) (w := w) (X := Xaa X a kS) (h := h') hr).get (i := j) (d := .int n) (by simp [hn])
      rw [hx] at e; cases e
      exact .cons r .nil
    have hkl : ks.length ≤ ns.length := by
      have := hr'.length
      rw [List.length_map, List.length_map, List.length_take] at this
      lia
    refine wpAny_bind (wpAny_attempt ((hkey h' [x] n g (List.mem_of_getElem? hn) rx).use Grow.rfl lv' (fun v h2 tk2 g2 r2 hp2 => ?_) hp))
    try dsimp only
    have s1 := Heap.SameBut.update h2 kS (Obj.mapSeq (·.push v))
    have ea : (List.toArray ks).push v = List.toArray (ks ++ [v]) := by simp
    obtain ⟨c2, hc2⟩ : ∃ c2, (h2.update kS (Obj.mapSeq (·.push v))).get? kS = some (seqObj "list" (List.toArray (ks ++ [v])) c2) := ⟨_, by rw [← ea]; exact get?_update_seq (g2 _ _ hk') (·.push v)⟩
    refine wpAny_bind (listUpdate_at (g2 _ _ hk') rfl ?_ (by rw [List.size_toArray, sizeLine_eq]; lia) (Nat.le_trans (Nat.le_of_eq (Array.size_push ..)) (by rw [List.size_toArray, sizeLine_eq]; lia)))
    have T : Tr (Xaa X a kS) (Xaa X a kS) h2 (h2.update kS (Obj.mapSeq (·.push v))) := tr_sameBut hXk s1
    have ek : (((ns.take (j + 1)).map fun n => (P n, n)).map prD) = (((ns.take j).map fun n => (P n, n)).map prD) ++ [prD (P n, n)] := by rw [List.take_add_one, hn]; simp
    refine wpAny_pure ⟨rfl, _, tk2, ks ++ [v], c2, rfl, hp2, fun b o e => ?_, liv_sameBut (lv'.grow g2) s1 ⟨_, hc2⟩, (s1.2 a hak).trans (g2 _ _ ha'), hc2, ?_⟩
    · exact (s1.2 b fun z => by rw [z, nk] at e; cases e).trans (g2 _ _ (g _ _ e))
    · rw [ek]; exact ((hr'.grow g2).tr T).append (.cons (r2.tr T) .nil)
  case done =>
    rintro s' ⟨h', tk, ks, e, rfl, hp, g, lv', ha', hk', hr'⟩
    have et : ns.take (0 + vs.length) = ns := List.take_of_length_le (by lia)
    rw [et] at hr'
    have hkl : ks.length = vs.length := by
      have := hr'.length
      rw [List.length_map, List.length_map] at this
      lia
    try dsimp only
    refine wpAny_bind (listItems_at hk' rfl ?_)
    have step : ∀ (s : Shared) (t : Sem PySem.Fin), wpAny (model prog w) A t Pf E s → wpAny (model prog w) A (if false = true then (do let _ ← rule "list.sort.reverse"; t) else t) Pf E s := by
      intro s t ht
      rw [if_neg Bool.false_ne_true]; exact ht
    have hn2 : ¬ vs.toArray.size < 2 := by rw [List.size_toArray]; lia
    unfold ksk_end
    try dsimp only
    refine step _ _ ?_
    rw [if_neg hn2, if_neg hn2]
    obtain ⟨fs, tups, fl, fi⟩ := katTups_of hr'
    rw [List.length_map] at fl
    refine wpAny_bind (kat_kind (T := .type "int") tups (by lia) (fun v hv => ?_) (by decide) ?_)
    · obtain ⟨i, t, rfl⟩ := fi v hv
      exact Looks.of_pure rfl
    have eT : tuples' (Value.type "int" != Value.type "tuple") = tuples' true := by rfl
    rw [eT, if_neg Bool.false_ne_true]
    have key : ∀ i, i < ns.length → Rep prog w (Xaa X a kS) h' (prD (P (ns.getD i 0), ns.getD i 0)) (ks.getD i Value.none) := fun i hi => by
      have := reps_getD (prog := prog) (w := w) hr' (i := i) (by simpa using hi)
      have e : (ns.map fun n => (P n, n)).getD i (0, 0) = (P (ns.getD i 0), ns.getD i 0) := by simp [hi]
      rw [e] at this; exact this
    have bd : ∀ i, i < ns.length → 0 ≤ ns.getD i 0 ∧ ns.getD i 0 < 100 := fun i hi => hbd _ (by simp [hi])
    have inj : ∀ i j, i < ns.length → j < ns.length → prK (P (ns.getD i 0), ns.getD i 0) = prK (P (ns.getD j 0), ns.getD j 0) → i = j := fun i j hi hj e => by
      have b1 := bd i hi
      have b2 := bd j hj
      have e2 : ns.getD i 0 = ns.getD j 0 := by unfold prK at e; simp only at e; lia
      have k1 : ns.getD i 0 = ns[i] := by simp [hi]
      have k2 : ns.getD j 0 = ns[j] := by simp [hj]
      rw [k1, k2] at e2
      have key := List.pairwise_iff_getElem.mp hnd
      rcases Nat.lt_trichotomy i j with q | q | q
      · exact absurd e2 (key i j hi hj q)
      · exact q
      · exact absurd e2.symm (key j i hj hi q)
    have hk : (kas_sort vs.length).kasWp (kas_ask prog w A (tuples' true) ks) (fun q s' => (PG ns.length q ∧ Up (fun i => prK (P (ns.getD i 0), ns.getD i 0)) q ns.length) ∧ s' = { s with heap := h', toks := tk }) { s with heap := h', toks := tk } := by
      rw [hvl]
      refine KSat.wp (lt := fun i j => decide (prK (P (ns.getD i 0), ns.getD i 0) < prK (P (ns.getD j 0), ns.getD j 0))) (n := ns.length) (I := fun s' => s' = { s with heap := h', toks := tk }) (fun i j C s' hi hj hs hC => ?_) (fun q s' hq hs => ⟨hq, hs⟩) _ _ (sort_sat h2 inj) rfl
      subst hs
      exact pair_lt (key i hi) (key j hj) (bd i hi) (bd j hj) (hC _ rfl)
    refine wpAny_bind (wpAny_mono (kat_run (Q := fun st' s' => ∃ p : Array Nat, p.size = vs.length ∧ arrOf st' = p.map (kas_item (ks.toArray.zip vs.toArray)) ∧ failedOf st' = none ∧ (PG ns.length p ∧ Up (fun i => prK (P (ns.getD i 0), ns.getD i 0)) p ns.length) ∧ s' = { s with heap := h', toks := tk })
      hkl (by lia) (by lia) (fun p' st' s' a1 a2 a3 a4 => ⟨p', a1, a2, a3, a4⟩) hk) ?_ fun _ _ x => x)
    rintro ⟨⟨⟩, st'⟩ s' ⟨p, hps, har, hf, ⟨pg, up⟩, rfl⟩
    try dsimp only
    have hout := kat_snds hkl har
    have s1 := Heap.SameBut.update h' kS (Obj.mapSeq fun _ => (#[] : Array Value))
    obtain ⟨ck, hck⟩ : ∃ ck, (h'.update kS (Obj.mapSeq fun _ => (#[] : Array Value))).get? kS = some (seqObj "list" #[] ck) := ⟨_, get?_update_seq hk' fun _ => #[]⟩
    have ha1 : (h'.update kS (Obj.mapSeq fun _ => (#[] : Array Value))).get? a = some (seqObj "list" #[] e1) := (s1.2 a hak).trans ha'
    have s2 := Heap.SameBut.update (h'.update kS (Obj.mapSeq fun _ => (#[] : Array Value))) a (Obj.mapSeq fun _ => List.toArray (p.toList.map fun i => vs.getD i Value.none))
    obtain ⟨c2, hc2⟩ : ∃ c2, ((h'.update kS (Obj.mapSeq fun _ => (#[] : Array Value))).update a (Obj.mapSeq fun _ => List.toArray (p.toList.map fun i => vs.getD i Value.none))).get? a = some (seqObj "list" (List.toArray (p.toList.map fun i => vs.getD i Value.none)) c2) := ⟨_, get?_update_seq ha1 fun _ => List.toArray (p.toList.map fun i => vs.getD i Value.none)⟩
    have hsz : (List.toArray (p.toList.map fun i => vs.getD i Value.none)).size = vs.length := by rw [List.size_toArray, List.length_map, Array.length_toList, hps]
    unfold ksk_tail
    try dsimp only
    rw [hout]
    simp only [Bool.false_eq_true, if_false]
    refine wpAny_bind (listUpdate_at hk' rfl ?_ (by rw [List.size_toArray, sizeLine_eq]; lia) (Nat.zero_le _))
    refine wpAny_bind (wpAny_letGo ?_)
    refine wpAny_bind (seqEpoch_at ha1 rfl ?_)
    refine wpAny_bind (listUpdate_at ha1 rfl ?_ (Nat.zero_le _) (Nat.le_trans (Nat.le_of_eq hsz) (by rw [sizeLine_eq]; lia)))
    rw [hf]
    simp only [bne_self_eq_false, Bool.false_eq_true, if_false]
    refine wpAny_pure (k _ tk p c2 (fun b o e => ?_) (liv_sameBut (liv_sameBut lv' s1 ⟨_, hck⟩) s2 ⟨_, hc2⟩) pg up hc2 hp)
    exact (s2.2 b fun z => by rw [z, na] at e; cases e).trans ((s1.2 b fun z => by rw [z, nk] at e; cases e).trans (g _ _ e))
end
end
end Mine

namespace Mine
section
open PySem PySem.W PySem.Calls PyProof.Rows PySem.SeqAt
set_option maxRecDepth 100000
set_option linter.unusedVariables false
variable {prog : Program} {w : World}
section
variable {A : Around} {X : Addr → Prop} {h : Heap}
theorem map_getD_range {ns : List Int} : (List.range ns.length).map (fun i => ns.getD i 0) = ns := by
  apply List.ext_getElem
  · simp
  · intro i h1 h2
    simp at h1
    simp [h1]
theorem up_list {ns out : List Int} {P : Int → Int} {q : Array Nat} (pg : PG ns.length q) (up : Up (fun i => prK (P (ns.getD i 0), ns.getD i 0)) q ns.length) (hperm : out.Perm ns) (hs : out.Pairwise fun a b => prK (P a, a) < prK (P b, b)) :
    (q.toList.map fun i => ns.getD i 0) = out := by
  have p1 : (q.toList.map fun i => ns.getD i 0).Perm ns := by
    have := pg.perm.map fun i => ns.getD i 0
    rw [map_getD_range] at this
    exact this
  have ql : q.toList.length = ns.length := by rw [Array.length_toList, pg.sz]
  have s1 : (q.toList.map fun i => ns.getD i 0).Pairwise fun a b => prK (P a, a) < prK (P b, b) := by
    rw [List.pairwise_iff_getElem]
    intro i j hi hj hij
    rw [List.length_map] at hi hj
    have := up i j hij (by lia)
    simp only [List.getElem_map]
    have e1 : q.getD i 0 = q.toList[i] := by simp [Array.getD, show i < q.size by simpa using hi]
    have e2 : q.getD j 0 = q.toList[j] := by simp [Array.getD, show j < q.size by simpa using hj]
    rw [← e1, ← e2]
    exact this
  exact (p1.trans hperm.symm).eq_of_pairwise (fun a b _ _ h1 h2 => absurd h1 (by lia)) s1 hs
theorem reps_pick {ns : List Int} {vs : List Value} (hi : IntsAre vs ns) {h : Heap} : ∀ {l : List Nat}, (∀ i ∈ l, i < ns.length) → Reps prog w X h ((l.map fun i => ns.getD i 0).map .int) (l.map fun i => vs.getD i Value.none)
  | [], _ => .nil
  | i :: l, hl => by
    obtain ⟨v, e, r⟩ := (ints_reps (prog := prog) (w := w) (X := X) (h := h) hi).get (i := i) (d := .int (ns.getD i 0)) (by simp [hl i (.head _)])
    have : vs.getD i Value.none = v := by rw [List.getD_eq_getElem?_getD, e]; rfl
    refine .cons (by show Rep prog w X h (.int (ns.getD i 0)) (vs.getD i Value.none); rw [this]; exact r) (reps_pick hi fun j hj => hl j (.tail _ hj))
theorem ints_of_items {ds : List (Int × D)} {kvs : List (Int × Value)} (hr : RepKV prog w X h ds kvs) {acc : Array Value} (ha : ItemsOf (fun i v => ∃ k x, kvs[i]? = some (k, x) ∧ (intKind prog w).is k v = true) acc kvs.length) : IntsAre acc.toList (ds.map Prod.fst) := by
  have key : ∀ (vs : List Value) (ds : List (Int × D)) (kvs : List (Int × Value)), RepKV prog w X h ds kvs → vs.length = kvs.length → (∀ (j : Nat) (v : Value), vs[j]? = some v → ∃ k x, kvs[j]? = some (k, x) ∧ (intKind prog w).is k v = true) → IntsAre vs (ds.map Prod.fst) := by
    intro vs
    induction vs with
    | nil =>
      intro ds kvs hr hl _
      cases hr with
      | nil => exact .nil
      | cons _ _ => simp at hl
    | cons v vs ih =>
      intro ds kvs hr hl hv
      cases hr with
      | nil => simp at hl
      | @cons k d u ds kvs a b =>
        obtain ⟨k', x, e, his⟩ := hv 0 v rfl
        simp at e
        obtain ⟨rfl, rfl⟩ := e
        obtain ⟨t, rfl⟩ := Value.isInt_shape his
        exact .cons k t (ih ds kvs b (by simpa using hl) fun j y hy => hv (j + 1) y (by simpa using hy))
  exact key acc.toList ds kvs hr (by rw [Array.length_toList]; exact ha.1) fun j v e => ha.2 j v (by rw [← Array.getElem?_toList]; exact e)

theorem op_sorted {ds : List (Int × D)} {P : Int → Int} {out : List Int} {v : Value} {f : Addr} (hsm : X sysModules) (R : Rm A 2) (r : Rep prog w X h (.dct ds) v)
    (hkey : ∀ A' X' h' vs n, Rm A' 1 → Tr X X' h h' → Grow h h' → n ∈ ds.map Prod.fst → Reps prog w X' h' [.int n] vs → Op prog w A' X' h' (call (.ref f) vs) (prD (P n, n)))
    (hbd : ∀ n ∈ ds.map Prod.fst, 0 ≤ n ∧ n < 100) (h2 : 2 ≤ ds.length) (h64 : ds.length < 64) (hperm : out.Perm (ds.map Prod.fst)) (hs : out.Pairwise fun a b => prK (P a, a) < prK (P b, b)) :
    Op prog w A X h (call (.builtin "sorted") [v] [("key", .ref f)]) (.lst (out.map .int)) := .by fun s E Q hg hl hpos k => by
  apply r.kDct; intro l kvs hx ha hr
  obtain ⟨ep, hD⟩ := dictOf_at (dictOf_tr ha fun o e => hg _ _ e)
  have hkl := hr.length
  have R1 : Rm A.in1.in1 1 := ⟨R.hh, Nat.lt_of_succ_lt R.dp, Nat.lt_of_le_of_lt (show A.units + 1 + 1 + 4 * 1 + 200 ≤ A.units + 4 * 2 + 200 by lia) R.un⟩
  refine call_function_entry_kw kind_sorted plain_sorted entry_sorted (ksk_s1 _ _) ?_
  unfold Builtin.«sorted»
  refine wpAny_bind (m := checkCount "sorted" 1 1 _) (wpAny_pure ?_)
  refine wpAny_bind (wpAny_with_toks (n := 1) hpos (kdu_collect (A := A.in1) (kdl_dict (knd := intKind prog w) (kvs := kvs) (ep := ep) (sys_ne hsm hx)) R.hh hD (by rw [sizeLine_eq]; lia) fun h1 tk1 acc hk1 hacc hp1 => ?_))
  have hp1 : 0 < tk1 := hp1
  have hI := ints_of_items hr hacc
  have hal : acc.toList.length = ds.length := by rw [ints_len hI, List.length_map]
  refine wpAny_bind (wpAny_newList ?_ (by rw [hal, sizeLine_eq]; lia))
  have g1 : Grow s.heap h1 := hk1
  have lv1 := hl.grow g1
  generalize ea : h1.objs.size = a
  have na : h1.get? a = none := by rw [← ea]; exact next_none _
  have nXa : ¬ X a := by rw [← ea]; exact lv1.fresh
  have gp : Grow h1 (h1.push { cls := .type "list", data := .seq acc.toList.toArray }) := Grow.push _
  have hoL : (h1.push { cls := .type "list", data := .seq acc.toList.toArray }).get? a = some (seqObj "list" acc.toList.toArray 0) := by rw [← ea]; exact Heap.get?_push_size _ rfl
  have hsz1 : (h1.push { cls := .type "list", data := .seq acc.toList.toArray }).objs.size = a + 1 := by rw [size_push', ea]
  refine wpAny_bind (wpAny_holding (wpAny_call_entry_kw slot_list_sort ⟨_, hoL, rfl⟩ entry_list_sort ?body (ksk_l1 _ _)))
  case body =>
    have ht := ksk_t1 f a
    show wpAny (model prog w) A.in1.in1 (Builtin.«list.sort» ⟨[.ref a], [(Str.ofString "key", .ref f)]⟩) _ _ _
    rw [ht]
    have s1 := Heap.SameBut.update (h1.push { cls := .type "list", data := .seq acc.toList.toArray }) a (Obj.mapSeq fun _ => (#[] : Array Value))
    obtain ⟨e1, ho1⟩ : ∃ e1, ((h1.push { cls := .type "list", data := .seq acc.toList.toArray }).update a (Obj.mapSeq fun _ => (#[] : Array Value))).get? a = some (seqObj "list" #[] e1) := ⟨_, get?_update_seq hoL fun _ => #[]⟩
    unfold ksk_tree
    refine wpAny_bind (listItems_at hoL rfl ?_)
    refine wpAny_bind (listUpdate_at hoL rfl ?_ (by rw [List.size_toArray, hal, sizeLine_eq]; lia) (Nat.zero_le _))
    refine wpAny_bind (seqEpoch_at ho1 rfl ?_)
    refine wpAny_bind (wpAny_newTuple ?_ (by show acc.toList.toArray.toList.length ≤ _; rw [hal, sizeLine_eq]; lia))
    refine wpAny_bind (wpAny_newList ?_ (Nat.zero_le _))
    refine wpAny_holding ?_
    generalize hH : (((h1.push { cls := .type "list", data := .seq acc.toList.toArray }).update a (Obj.mapSeq fun _ => (#[] : Array Value))).push { cls := .type "tuple", data := .seq acc.toList.toArray.toList.toArray }) = H
    have hHs : H.objs.size = a + 2 := by rw [← hH, size_push', Heap.size_update, hsz1]
    generalize eK : H.objs.size = kS
    have gold : Grow h1 (H.push { cls := .type "list", data := .seq ([] : List Value).toArray }) := fun b o e => by
      refine Heap.get?_push_of_some _ ?_
      rw [← hH]
      exact Heap.get?_push_of_some _ ((s1.2 b fun z => by rw [z, na] at e; cases e).trans (gp _ _ e))
    have haH : (H.push { cls := .type "list", data := .seq ([] : List Value).toArray }).get? a = some (seqObj "list" #[] e1) := by
      refine Heap.get?_push_of_some _ ?_
      rw [← hH]
      exact Heap.get?_push_of_some _ ho1
    have hkH : (H.push { cls := .type "list", data := .seq ([] : List Value).toArray }).get? kS = some (seqObj "list" #[] 0) := by rw [← eK]; exact Heap.get?_push_size _ rfl
    have nk : h1.get? kS = none := get_above (by lia)
    have lv3 : Liv (Xaa X a kS) (H.push { cls := .type "list", data := .seq ([] : List Value).toArray }) := lv1.tr (fun o e => ⟨o, gold _ _ e⟩) (fun b hb => by
      rcases hb with hb | rfl | rfl
      · exact .inl hb
      · exact .inr ⟨_, haH⟩
      · exact .inr ⟨_, hkH⟩) fun b _ _ o e => ⟨o, gold _ _ e⟩
    have TX : ∀ h', Grow h1 h' → Tr X (Xaa X a kS) h h' := fun h' g b o n e => ⟨fun q => by
      have e1 := g1 _ _ (hg _ _ e)
      rcases q with q | rfl | rfl
      · exact n q
      · rw [na] at e1; exact (by cases e1)
      · rw [nk] at e1; exact (by cases e1), g _ _ (g1 _ _ (hg _ _ e))⟩
    refine srt_rest (s := { s with heap := H.push { cls := .type "list", data := .seq ([] : List Value).toArray }, toks := tk1 }) (hB := h1) (X := X) (ns := ds.map Prod.fst) (P := P) gold na nk (Nat.ne_of_lt (by lia)) haH hkH lv3 hp1 hI
      (fun h' vs n g hn rr => hkey _ _ _ _ _ R1 (TX h' g) (hg.trans (g1.trans g)) hn rr) hbd ?nd (by simpa using h2) (by simpa using h64) fun h' tk q e g lv' pg up hres hp => ⟨_, rfl, ?_⟩
    case nd =>
      rw [← hperm.nodup_iff]
      exact hs.imp fun hab e => by rw [e] at hab; lia
    refine wpAny_pure ⟨_, rfl, ?_⟩
    have eo := up_list pg up hperm hs
    refine k _ h' tk (g1.trans g) (.lst (vs := q.toList.map fun i => acc.toList.getD i Value.none) nXa ⟨_, hres⟩ ?_)
    rw [← eo]
    exact reps_pick hI fun i hi => List.mem_range.mp (pg.perm.mem_iff.mp hi)
end
end
end Mine

namespace Mine
section
open PySem PySem.W PySem.Calls PyProof.Rows PySem.SeqAt
set_option maxRecDepth 100000
set_option linter.unusedVariables false
variable {prog : Program} {w : World}
@[reducible] noncomputable def lam2P : Arguments := { posonlyargs := [], args := [{ arg := "n", annotation := none, pos := ⟨179, 42, 179, 43⟩ }], vararg := none, kwonlyargs := [], kw_defaults := [], kwarg := none, defaults := [] }
@[reducible] noncomputable def lam2B : Expr := .Tuple [.Subscript (.Subscript (.Name "names" ⟨179, 46, 179, 51⟩) (.Name "n" ⟨179, 52, 179, 53⟩) ⟨179, 46, 179, 54⟩) (.Constant (.int 0) 0 ⟨179, 55, 179, 56⟩) ⟨179, 46, 179, 57⟩, .Name "n" ⟨179, 59, 179, 60⟩] 0 ⟨179, 45, 179, 61⟩
@[reducible] noncomputable def lam2S : Scope := { kind := .function, names := [("n", .local), ("names", .free)], isGenerator := false, isCoroutine := false, more := [] }
@[reducible] noncomputable def nmD (q : Int × Int × Int) : D := .tup [.int q.1, .int q.2.1, .int q.2.2]
noncomputable def nmP (nm : List (Int × Int × Int)) (n : Int) : Int := (nm.getD n.toNat (0, 0, 1)).1
section
variable {A : Around} {X : Addr → Prop} {h : Heap} {f c cN : Addr} {qual : Str} {pm ctv : Value} {nm : List (Int × Int × Int)}
theorem op_key2 {n : Int} {vs : List Value} (F : LamAt h f (kla_fn "<lambda>" qual lam2P lam2B lam2S [("names", cN)] pm (.ref c) ctv) c qual) (hlim : h.NoLimit) (R : Rm A 1)
    (hN : ∃ v, h.IsCell cN (some v) ∧ Rep prog w X h (.lst (nm.map nmD)) v) (hn : 0 ≤ n ∧ n < nm.length) (hlen : nm.length ≤ 1000) (hr : Reps prog w X h [.int n] vs) : Op prog w A X h (call (.ref f) vs) (prD (nmP nm n, n)) := by
  apply hr.kCons; intro _ _ r rn; apply rn.kNil
  obtain ⟨vN, hc, rN⟩ := hN
  refine op_lam1 "n" (lc := [("names", .lst (nm.map nmD))]) F hlim R.d (by rfl) (by decide +kernel) (by rfl) r (fun y c e => ?_) (fun y z c e e2 => ?_) (fun y e he => ?_) (fun s₁ L g hX S => ?_) rfl rfl rfl
  · rw [List.lookup_cons] at e
    split at e
    · cases e; exact ⟨_, hc⟩
    · cases e
  · rw [List.lookup_cons] at e e2
    split at e
    · rename_i q1
      split at e2
      · rename_i q2; rw [beq_iff_eq.mp q1, beq_iff_eq.mp q2]
      · cases e2
    · cases e
  · rw [List.lookup_cons] at he
    split at he
    · rename_i q1
      cases he
      rw [beq_iff_eq.mp q1]
      exact ⟨by rfl, cN, vN, by rfl, hc, rN⟩
    · cases he
  · have hd : (nm.map nmD)[n.toNat]? = some (nmD (nm.getD n.toNat (0, 0, 1))) := by simp [show n.toNat < nm.length by lia]
    exact ev_tuple (evs_cons (ev_item_tup (ev_item_lst (ev_v S rfl rfl rfl rfl) (ev_v S rfl rfl rfl rfl) hn.1 hd (by lia) rfl) ev_const_int (by decide) rfl (by decide) rfl) (evs_cons (ev_v S rfl rfl rfl rfl) evs_nil rfl) rfl) rfl
end
section
variable {h₀ : Heap} {A : Around} {X X' Mu : Addr → Prop} {env : Env} {s₀ s : Shared} {l : List (Str × D)} {ml : List (Addr × D)} {E : Value → Shared → Prop} {mg mb : Str → Option Value} {rest : List Stmt} {Q : Flow → Shared → Prop}
theorem x_sortedIf {P c cN : Addr} {cs : List (Nat × Nat × Str × Addr)} {p1 p2 p3 kpos pos cpos ipos : Pos} {body : List Stmt} {ds : List (Int × D)} {out : List Int} {nm : List (Int × Int × Int)} (S : St prog w h₀ X Mu env s₀ s l ((P, .tab cs) :: ml)) (F : FE env) (G : Glo mg mb h₀) (R : Rm A 3)
    (hsm : X sysModules) (hcode : env.code = .ref c) (C : CodeHd h₀ c P) (hb : h₀.BuiltinsAt mg P) (hgP : mainGlobals ≠ P) (hnf : codeAmong ⟨179, 35, 179, 61⟩ (tabVals cs) = none) (hclos : closureFor lam2S env = pure [(("names" : Str), cN)])
    (hkn : env.kindOf "names" = some .cell) (hcN : env.cells.lookup ("names" : Str) = some cN) (hx : env.kindOf "sorted" = some .globalImplicit)
    (ho : l.lookup ("order" : Str) = some (.lst (out.map .int))) (hp : l.lookup ("points" : Str) = some (.dct ds)) (hn : l.lookup ("names" : Str) = some (.lst (nm.map nmD))) (hlen : nm.length ≤ 100)
    (hbd : ∀ n ∈ ds.map Prod.fst, 0 ≤ n ∧ n < nm.length) (hl2 : 2 ≤ ds.length) (h64 : ds.length < 64) (hperm : out.Perm (ds.map Prod.fst)) (hs : out.Pairwise fun a b => prK (nmP nm a, a) < prK (nmP nm b, b))
    (kk : ∀ s' c', St prog w h₀ X Mu env s₀ s' l ((P, .tab (cs ++ [(179, 35, env.qual ++ "<lambda>", c')])) :: ml) → wpAny (model prog w) A (execs rest env) Q E s')
    (hst : starEach [.Name "points" p3] env = (false, eval (.Name "points" p3) env) :: starEach [] env := by rfl) (hm : behindInMarks .NotEq (.Call (.Name "sorted" p2) [.Name "points" p3] [⟨some "key", .Lambda lam2P lam2B lam2S ⟨179, 35, 179, 61⟩, kpos⟩] pos) = false := by rfl) :
    wpAny (model prog w) A (execs (.If (.Compare (.Name "order" p1) [.NotEq] [.Call (.Name "sorted" p2) [.Name "points" p3] [⟨some "key", .Lambda lam2P lam2B lam2S ⟨179, 35, 179, 61⟩, kpos⟩] pos] cpos) body [] ipos :: rest) env) Q E s := by
  refine wpAny_execs_cons (wpAny_If (wpAny_isTrue_Compare1 ?_ hm))
  refine (ev_var (A := A) F.k (S.vars _ _ ho) rfl rfl).use Grow.rfl S.liv (fun vo h1 t1 g1 r1 q1 => ?_) S.tok
  have S1 := S.grown (tk := t1) g1
  refine wpAny_Call_Name_kw ?_
  refine (ev_bi (A := A) G F S1.base hx (by rfl) (by rfl)).use Grow.rfl S1.liv (fun vf h2 t2 g2 r2 q2 => ?_) q1
  (first | apply r2.kVal | apply r2.kInt; intro _ | apply r2.kFlt; intro _ _ | apply r2.kBool | apply r2.kNone | apply r2.kNil | cases r2)
  have S2 := S1.grown (tk := t2) g2
  refine callWith_builtin_kwB rfl rfl ?_
  have hbt : backTo pos (starEach [.Name "points" p3] env) = (false, eval (.Name "points" p3) env) :: [] := by rw [hst]; rfl
  have ha' : Evs prog w A X env h2 pos [.Name "points" p3] [.dct ds] := evs_cons (ev_var F.k (S2.vars _ _ hp) rfl rfl) evs_nil hst
  rw [hbt]
  refine evalArgs_kwB rfl ?_
  rw [← hbt]
  refine Go.use ha' Grow.rfl S2.liv (fun vs h3 t3 g3 r3 q3 => ?_) q2
  have S3 := S2.grown (tk := t3) g3
  show wpAny _ _ (evalAll [(do let v ← eval (.Lambda lam2P lam2B lam2S ⟨179, 35, 179, 61⟩) env; standAt pos; pure v)]) _ _ _
  refine wpAny_evalAll_cons (wpAny_bind ?_)
  refine st_lambda S3 F.g G.g hcode C hb hgP hclos rfl hnf fun s4 f c' ctv S4 L n1 n2 kp => wpAny_bind (wpAny_standAt (wpAny_pure ?_))
  refine wpAny_pure ?_
  apply r3.kCons; intro _ _ rp rn; apply rn.kNil
  have hXP : X P := S.mx _ (S.muts _ (.head _)).1
  have T : Tr X X h3 s4.heap := fun b o n e => ⟨n, kp b o (fun z => n (z ▸ hXP)) e⟩
  show wpAny _ _ (call (.builtin "sorted") [_] [("key", .ref f)]) _ _ _
  have hN : ∃ v, s4.heap.IsCell cN (some v) ∧ Rep prog w X s4.heap (.lst (nm.map nmD)) v := by
    rcases S4.vars _ _ hn with ⟨kx, _⟩ | ⟨kx, cc, v, hc, hv, r⟩
    · rw [hkn] at kx; cases kx
    · rw [hcN] at hc; cases hc; exact ⟨v, hv, r⟩
  obtain ⟨vN, hcv, rN⟩ := hN
  refine (op_sorted (P := nmP nm) (out := out) hsm (R.le (by decide)) (rp.tr T) (fun A' X' h' vs n R1 T' g' hn' rr => ?_) (fun n hn' => ⟨(hbd n hn').1, by have := (hbd n hn').2; lia⟩) hl2 h64 hperm hs).use Grow.rfl S4.liv (fun vr h5 t5 g5 r5 q5 => ?_) S4.tok
  · exact op_key2 ⟨g' _ _ L.here, codeRec_grow L.rec_ g'⟩ ((G.lim.keeps S4.base).keeps g') R1 ⟨vN, isCell_grow hcv g', rN.tr T'⟩ (hbd n hn') (by lia) rr
  · have hu : A.units + 64 < cLine := by have := R.un; lia
    refine (op_ne_ints (A := A) hu ((((r1.grow g2).grow g3).tr T).grow g5) r5).use Grow.rfl (S4.liv.grow g5) (fun vc h6 t6 g6 r6 q6 => ?_) q5
    have e : (!decide (out = out)) = false := by simp
    rw [e] at r6
    (first | apply r6.kVal | apply r6.kInt; intro _ | apply r6.kFlt; intro _ _ | apply r6.kBool | apply r6.kNone | apply r6.kNil | cases r6)
    refine wpAny_truthy_bool ?_
    rw [if_neg Bool.false_ne_true]
    exact wpAny_execs_nil (kk _ c' (S4.grown (tk := t6) (g5.trans g6)))
end
end
end Mine

namespace Mine
section
set_option linter.unusedVariables false
noncomputable def sm : Nat → (Nat → Int) → Int
  | 0, _ => 0
  | n + 1, f => sm n f + f n
theorem sm_congr {n : Nat} {f g : Nat → Int} (h : ∀ i, i < n → f i = g i) : sm n f = sm n g := by
  induction n with
  | zero => rfl
  | succ n ih => simp only [sm]; rw [ih fun i hi => h i (Nat.lt_succ_of_lt hi), h n (Nat.lt_succ_self n)]
theorem sm_add (n : Nat) (f g : Nat → Int) : sm n (fun i => f i + g i) = sm n f + sm n g := by
  induction n with
  | zero => rfl
  | succ n ih => simp only [sm]; rw [ih]; lia
theorem sm_sub (n : Nat) (f g : Nat → Int) : sm n (fun i => f i - g i) = sm n f - sm n g := by
  induction n with
  | zero => rfl
  | succ n ih => simp only [sm]; rw [ih]; lia
theorem sm_zero (n : Nat) : sm n (fun _ => 0) = 0 := by
  induction n with
  | zero => rfl
  | succ n ih => simp only [sm]; rw [ih]; rfl
theorem sm_one (n : Nat) : sm n (fun _ => 1) = n := by
  induction n with
  | zero => rfl
  | succ n ih => simp only [sm]; rw [ih]; lia
theorem sm_mul (n : Nat) (f : Nat → Int) (c : Int) : sm n (fun i => f i * c) = sm n f * c := by
  induction n with
  | zero => simp [sm]
  | succ n ih => simp only [sm]; rw [ih, Int.add_mul]
theorem sm_nonneg {n : Nat} {f : Nat → Int} (h : ∀ i, i < n → 0 ≤ f i) : 0 ≤ sm n f := by
  induction n with
  | zero => exact Int.le_refl _
  | succ n ih =>
    simp only [sm]
    have := ih fun i hi => h i (Nat.lt_succ_of_lt hi)
    have := h n (Nat.lt_succ_self n)
    lia
theorem sm_swap (n m : Nat) (f : Nat → Nat → Int) : sm n (fun i => sm m (fun j => f i j)) = sm m (fun j => sm n (fun i => f i j)) := by
  induction n with
  | zero => simp only [sm]; rw [sm_zero]
  | succ n ih => simp only [sm]; rw [ih, ← sm_add]
theorem sm_append (n m : Nat) (f : Nat → Int) : sm (n + m) f = sm n f + sm m (fun i => f (n + i)) := by
  induction m with
  | zero => simp [sm]
  | succ m ih => rw [← Nat.add_assoc]; simp only [sm]; rw [ih]; lia
theorem sm_square (c : Nat) (g : Nat → Nat → Int) : sm c (fun p => sm c (fun q => g p q)) = sm c (fun j => sm j (fun k => g k j + g j k)) + sm c (fun j => g j j) := by
  induction c with
  | zero => rfl
  | succ c ih =>
    have e1 : sm (c + 1) (fun p => sm (c + 1) (fun q => g p q)) = sm c (fun p => sm c (fun q => g p q) + g p c) + (sm c (fun q => g c q) + g c c) := rfl
    have e2 : sm (c + 1) (fun j => sm j (fun k => g k j + g j k)) = sm c (fun j => sm j (fun k => g k j + g j k)) + sm c (fun k => g k c + g c k) := rfl
    have e3 : sm (c + 1) (fun j => g j j) = sm c (fun j => g j j) + g c c := rfl
    rw [e1, e2, e3, sm_add, ih, sm_add c (fun k => g k c) (fun k => g c k)]
    lia
theorem bit_sq {b : Int} (h : b = 0 ∨ b = 1) : b * (b - 1) = 0 := by rcases h with rfl | rfl <;> rfl
theorem pairs_eq (c : Nat) (b : Nat → Int) (h : ∀ i, i < c → b i = 0 ∨ b i = 1) : Int.fdiv (sm c b * (sm c b - 1)) 2 = sm c (fun r => sm r (fun q => b q * b r)) := by
  have key : sm c b * (sm c b - 1) = 2 * sm c (fun r => sm r (fun q => b q * b r)) := by
    induction c with
    | zero => rfl
    | succ c ih =>
      have i := ih fun i hi => h i (Nat.lt_succ_of_lt hi)
      have z := bit_sq (h c (Nat.lt_succ_self c))
      simp only [sm]
      rw [sm_mul]
      generalize sm c b = x at *
      generalize sm c (fun r => sm r (fun q => b q * b r)) = y at *
      generalize b c = d at *
      grind
  rw [key, Int.mul_comm, Int.mul_fdiv_cancel _ (by decide)]
noncomputable def sm3 (c : Nat) (g : Nat → Nat → Nat → Int) : Int := sm c (fun i => sm i (fun j => sm j (fun k => g i j k)))
theorem sm3_congr {c : Nat} {f g : Nat → Nat → Nat → Int} (h : ∀ i j k, i < c → j < i → k < j → f i j k = g i j k) : sm3 c f = sm3 c g :=
  sm_congr fun i hi => sm_congr fun j hj => sm_congr fun k hk => h i j k hi hj hk
theorem sm3_add (c : Nat) (f g : Nat → Nat → Nat → Int) : sm3 c (fun i j k => f i j k + g i j k) = sm3 c f + sm3 c g := by
  unfold sm3
  rw [← sm_add]
  refine sm_congr fun i _ => ?_
  rw [← sm_add]
  refine sm_congr fun j _ => ?_
  rw [← sm_add]
theorem triples_eq (c : Nat) (g : Nat → Nat → Nat → Int) (h1 : ∀ p q, g p q p = 0) (h2 : ∀ p r, g p p r = 0) :
    sm c (fun p => sm c (fun r => sm r (fun q => g p q r))) = sm3 c (fun i j k => g k j i + g j k i + g i k j) := by
  induction c with
  | zero => rfl
  | succ c ih =>
    have e1 : sm (c + 1) (fun p => sm (c + 1) (fun r => sm r (fun q => g p q r))) = sm c (fun p => sm c (fun r => sm r (fun q => g p q r)) + sm c (fun q => g p q c)) + (sm c (fun r => sm r (fun q => g c q r)) + sm c (fun q => g c q c)) := rfl
    have e2 : sm3 (c + 1) (fun i j k => g k j i + g j k i + g i k j) = sm3 c (fun i j k => g k j i + g j k i + g i k j) + sm c (fun j => sm j (fun k => g k j c + g j k c + g c k j)) := rfl
    have e3 : sm c (fun q => g c q c) = 0 := (sm_congr fun i _ => h1 c i).trans (sm_zero c)
    have e4 := sm_square c (fun p q => g p q c)
    have e5 : sm c (fun j => g j j c) = 0 := (sm_congr fun i _ => h2 i c).trans (sm_zero c)
    have e6 : sm c (fun j => sm j (fun k => g k j c + g j k c + g c k j)) = sm c (fun j => sm j (fun k => g k j c + g j k c)) + sm c (fun j => sm j (fun k => g c k j)) := by
      rw [← sm_add]
      exact sm_congr fun j _ => sm_add ..
    rw [e1, e2, sm_add, ih, e3, e4, e5, e6]
    lia
noncomputable def cn : Nat → (Nat → Bool) → Nat
  | 0, _ => 0
  | n + 1, p => cn n p + if p n = true then 1 else 0
theorem cn_le (n : Nat) (p : Nat → Bool) : cn n p ≤ n := by
  induction n with
  | zero => exact Nat.le_refl _
  | succ n ih => simp only [cn]; split <;> lia
theorem cn_all {n : Nat} {p : Nat → Bool} (h : ∀ j, j < n → p j = true) : cn n p = n := by
  induction n with
  | zero => rfl
  | succ n ih => simp only [cn]; rw [ih fun j hj => h j (Nat.lt_succ_of_lt hj), h n (Nat.lt_succ_self n)]; rfl
theorem cn_lt {n : Nat} {p : Nat → Bool} (hd : ∀ i j, i ≤ j → j < n → p j = true → p i = true) {j : Nat} (hj : j < n) : j < cn n p ↔ p j = true := by
  induction n with
  | zero => lia
  | succ n ih =>
    by_cases q : p n = true
    · have e : cn (n + 1) p = n + 1 := cn_all fun i hi => hd i n (by lia) (Nat.lt_succ_self n) q
      rw [e]
      exact ⟨fun _ => hd j n (by lia) (Nat.lt_succ_self n) q, fun _ => hj⟩
    · have e : cn (n + 1) p = cn n p := by simp only [cn]; rw [if_neg q]; rfl
      rw [e]
      by_cases e2 : j = n
      · subst e2
        have := cn_le j p
        exact ⟨fun h => by lia, fun h => absurd h q⟩
      · exact ih (fun i j hij hj' => hd i j hij (by lia)) (by lia)
theorem cn_sm (n : Nat) (p : Nat → Bool) : ((cn n p : Nat) : Int) = sm n (fun j => if p j = true then 1 else 0) := by
  induction n with
  | zero => rfl
  | succ n ih =>
    simp only [cn, sm]
    rw [← ih]
    split <;> lia
theorem below_sm {c i : Nat} (h : i < c) : sm c (fun j => if j ≤ i then 1 else 0) = (i : Int) + 1 := by
  induction c with
  | zero => lia
  | succ c ih =>
    simp only [sm]
    by_cases e : i = c
    · subst e
      rw [if_pos (Nat.le_refl _)]
      have : sm i (fun j => if j ≤ i then 1 else 0) = sm i (fun _ => 1) := sm_congr fun j hj => if_pos (by lia)
      rw [this, sm_one]
    · rw [ih (by lia), if_neg (by lia)]; lia
end
end Mine

namespace Mine
section
set_option linter.unusedVariables false
section
variable {T : Nat → Nat} {c : Nat}
noncomputable def AA (T : Nat → Nat) (i q : Nat) : Bool := if i < q then decide (T q < T i + 32) else if q < i then decide (T q + 32 < T i) else false
noncomputable def OO (T : Nat → Nat) (i q : Nat) : Bool := decide (T q = T i + 32 ∨ T q + 32 = T i)
noncomputable def bi (b : Bool) : Int := if b = true then 1 else 0
theorem bi_bit (b : Bool) : bi b = 0 ∨ bi b = 1 := by cases b <;> simp [bi]
noncomputable def WW (T : Nat → Nat) (c j : Nat) : Nat := if j < c then T j else T (j - c) + 64
noncomputable def nearOf (T : Nat → Nat) (c i : Nat) : Nat := cn (c + c) (fun j => decide (WW T c j < T i + 32))
noncomputable def farOf (T : Nat → Nat) (c i : Nat) : Nat := cn (c + c) (fun j => decide (WW T c j ≤ T i + 32))
structure Mono (T : Nat → Nat) (c : Nat) : Prop where
  m : ∀ i j, i ≤ j → j < c → T i ≤ T j
  b : ∀ i, i < c → T i < 64
theorem WW_mono (h : Mono T c) : ∀ i j, i ≤ j → j < c + c → WW T c i ≤ WW T c j := by
  intro i j hij hj
  unfold WW
  by_cases a : i < c
  · rw [if_pos a]
    by_cases b : j < c
    · rw [if_pos b]; exact h.m i j hij b
    · rw [if_neg b]; have := h.b i a; lia
  · rw [if_neg a, if_neg (by lia)]
    have := h.m (i - c) (j - c) (by lia) (by lia)
    lia
theorem near_iff (h : Mono T c) {i j : Nat} (hj : j < c + c) : j < nearOf T c i ↔ WW T c j < T i + 32 := by
  unfold nearOf
  rw [cn_lt (fun a b hab hb hp => ?_) hj, decide_eq_true_eq]
  have := WW_mono h a b hab hb
  have := of_decide_eq_true hp
  exact decide_eq_true (by lia)
theorem far_iff (h : Mono T c) {i j : Nat} (hj : j < c + c) : j < farOf T c i ↔ WW T c j ≤ T i + 32 := by
  unfold farOf
  rw [cn_lt (fun a b hab hb hp => ?_) hj, decide_eq_true_eq]
  have := WW_mono h a b hab hb
  have := of_decide_eq_true hp
  exact decide_eq_true (by lia)
theorem near_le (T : Nat → Nat) (c i : Nat) : nearOf T c i ≤ c + c := cn_le ..
theorem far_le (T : Nat → Nat) (c i : Nat) : farOf T c i ≤ c + c := cn_le ..
theorem near_gt (h : Mono T c) {i : Nat} (hi : i < c) : i + 1 ≤ nearOf T c i := (near_iff h (by lia)).mpr (by unfold WW; rw [if_pos hi]; lia)
theorem near_lt (h : Mono T c) {i : Nat} (hi : i < c) : nearOf T c i ≤ i + c := by
  have e : WW T c (i + c) = T i + 64 := by unfold WW; rw [if_neg (by lia)]; rw [show i + c - c = i by lia]
  have := near_iff (i := i) h (j := i + c) (by lia)
  rw [e] at this
  lia
theorem ahead_eq (h : Mono T c) {i : Nat} (hi : i < c) : (nearOf T c i : Int) - i - 1 = sm c (fun q => bi (AA T i q)) := by
  have e1 : (nearOf T c i : Int) = sm c (fun j => if T j < T i + 32 then 1 else 0) + sm c (fun j => if T j + 64 < T i + 32 then 1 else 0) := by
    unfold nearOf
    rw [cn_sm, sm_append]
    congr 1
    · exact sm_congr fun j hj => by have e : WW T c j = T j := if_pos hj; simp only [e, decide_eq_true_eq]
    · refine sm_congr fun j hj => ?_
      have e : WW T c (c + j) = T j + 64 := by unfold WW; rw [if_neg (by lia), show c + j - c = j by lia]
      simp only [e, decide_eq_true_eq]
  have e2 := below_sm hi
  have e3 : sm c (fun q => bi (AA T i q)) = sm c (fun j => ((if T j < T i + 32 then 1 else 0) + (if T j + 64 < T i + 32 then 1 else 0)) - (if j ≤ i then 1 else 0)) := by
    refine sm_congr fun j hj => ?_
    unfold bi AA
    by_cases a : i < j
    · have := h.m i j (by lia) hj
      simp only [if_pos a, decide_eq_true_eq]
      rw [if_neg (show ¬ T j + 64 < T i + 32 by lia), if_neg (show ¬ j ≤ i by lia)]
      split <;> lia
    · have := h.m j i (by lia) hi
      rw [if_neg a, if_pos (show T j < T i + 32 by lia), if_pos (show j ≤ i by lia)]
      by_cases b : j < i
      · simp only [if_pos b, decide_eq_true_eq]
        by_cases d : T j + 32 < T i
        · rw [if_pos d, if_pos (by lia)]; rfl
        · rw [if_neg d, if_neg (by lia)]; rfl
      · have : j = i := by lia
        subst this
        simp
  rw [e3, sm_sub, sm_add, ← e1, e2]
  lia
theorem across_eq (h : Mono T c) {i : Nat} (hi : i < c) : (farOf T c i : Int) - nearOf T c i = sm c (fun q => bi (OO T i q)) := by
  have e1 : (nearOf T c i : Int) = sm c (fun j => if T j < T i + 32 then 1 else 0) + sm c (fun j => if T j + 64 < T i + 32 then 1 else 0) := by
    unfold nearOf
    rw [cn_sm, sm_append]
    congr 1
    · exact sm_congr fun j hj => by have e : WW T c j = T j := if_pos hj; simp only [e, decide_eq_true_eq]
    · refine sm_congr fun j hj => ?_
      have e : WW T c (c + j) = T j + 64 := by unfold WW; rw [if_neg (by lia), show c + j - c = j by lia]
      simp only [e, decide_eq_true_eq]
  have e2 : (farOf T c i : Int) = sm c (fun j => if T j ≤ T i + 32 then 1 else 0) + sm c (fun j => if T j + 64 ≤ T i + 32 then 1 else 0) := by
    unfold farOf
    rw [cn_sm, sm_append]
    congr 1
    · exact sm_congr fun j hj => by have e : WW T c j = T j := if_pos hj; simp only [e, decide_eq_true_eq]
    · refine sm_congr fun j hj => ?_
      have e : WW T c (c + j) = T j + 64 := by unfold WW; rw [if_neg (by lia), show c + j - c = j by lia]
      simp only [e, decide_eq_true_eq]
  rw [e1, e2, ← sm_add, ← sm_add, ← sm_sub]
  refine sm_congr fun j hj => ?_
  unfold bi OO
  simp only [decide_eq_true_eq]
  have := h.b j hj
  have := h.b i hi
  by_cases a : T j = T i + 32 ∨ T j + 32 = T i
  · rw [if_pos a]; split <;> split <;> split <;> split <;> lia
  · rw [if_neg a]; split <;> split <;> split <;> split <;> lia
theorem pair_one (h : Mono T c) {j i : Nat} (hj : j < i) (hi : i < c) : bi (AA T j i) + bi (AA T i j) + bi (OO T i j) = 1 := by
  unfold bi AA OO
  have := h.m j i (by lia) hi
  rw [if_pos hj, if_neg (show ¬ i < j by lia), if_pos hj]
  simp only [decide_eq_true_eq]
  split <;> split <;> split <;> lia
theorem OO_symm (T : Nat → Nat) (i j : Nat) : OO T i j = OO T j i := by
  unfold OO
  exact decide_eq_decide.mpr ⟨fun h => by lia, fun h => by lia⟩
theorem OO_self (T : Nat → Nat) (i : Nat) : OO T i i = false := by unfold OO; exact decide_eq_false (by lia)
theorem AA_self (T : Nat → Nat) (i : Nat) : AA T i i = false := by unfold AA; simp
theorem tri_sum (c : Nat) : sm c (fun i => (i : Int)) * 2 = (c : Int) * (c - 1) := by
  induction c with
  | zero => rfl
  | succ c ih =>
    simp only [sm]
    rw [Int.add_mul, ih]
    have : ((c + 1 : Nat) : Int) = c + 1 := by lia
    rw [this]
    grind
theorem ahead_total (h : Mono T c) : sm c (fun i => sm c (fun q => bi (AA T i q))) = Int.fdiv ((c : Int) * (c - 1)) 2 - Int.fdiv (sm c (fun i => sm c (fun q => bi (OO T i q)))) 2 := by
  have a := sm_square c (fun i q => bi (AA T i q))
  have o := sm_square c (fun i q => bi (OO T i q))
  have a0 : sm c (fun j => bi (AA T j j)) = 0 := (sm_congr fun i _ => by rw [AA_self]; rfl).trans (sm_zero c)
  have o0 : sm c (fun j => bi (OO T j j)) = 0 := (sm_congr fun i _ => by rw [OO_self]; rfl).trans (sm_zero c)
  have o1 : sm c (fun j => sm j (fun k => bi (OO T k j) + bi (OO T j k))) = 2 * sm c (fun j => sm j (fun k => bi (OO T j k))) := by
    rw [Int.mul_comm, ← sm_mul]
    refine sm_congr fun j _ => ?_
    rw [← sm_mul]
    refine sm_congr fun k _ => ?_
    rw [OO_symm T k j]; lia
  have s : sm c (fun j => sm j (fun k => bi (AA T k j) + bi (AA T j k))) + sm c (fun j => sm j (fun k => bi (OO T j k))) = sm c (fun i => (i : Int)) := by
    rw [← sm_add]
    refine sm_congr fun j hj => ?_
    rw [← sm_add, ← sm_one]
    exact sm_congr fun k hk => pair_one h hk hj
  rw [a, a0, o, o0, o1, ← tri_sum, Int.mul_fdiv_cancel _ (by decide), Int.add_zero, Int.add_zero, Int.mul_comm 2, Int.mul_fdiv_cancel _ (by decide)]
  lia
noncomputable def FF (T : Nat → Nat) (i j k : Nat) : Bool := decide (T i < T k + 32) || (decide (T i < T j + 32) && decide (T k + 32 < T j)) || (decide (T k + 32 < T i) && decide (T j + 32 < T i))
theorem pairs_total (h : Mono T c) : sm c (fun i => Int.fdiv (sm c (fun q => bi (AA T i q)) * (sm c (fun q => bi (AA T i q)) - 1)) 2) = sm3 c (fun i j k => bi (FF T i j k)) := by
  have e1 : sm c (fun i => Int.fdiv (sm c (fun q => bi (AA T i q)) * (sm c (fun q => bi (AA T i q)) - 1)) 2) = sm c (fun p => sm c (fun r => sm r (fun q => bi (AA T p q) * bi (AA T p r)))) :=
    sm_congr fun i _ => pairs_eq c _ fun q _ => bi_bit _
  rw [e1, triples_eq c (fun p q r => bi (AA T p q) * bi (AA T p r)) (fun p q => by rw [AA_self]; simp [bi]) (fun p r => by rw [AA_self]; simp [bi])]
  refine sm3_congr fun i j k hi hj hk => ?_
  have m1 := h.m k j (by lia) (by lia)
  have m2 := h.m j i (by lia) hi
  have m3 := h.b i hi
  unfold AA FF
  rw [if_pos hk, if_pos (show k < i by lia), if_neg (show ¬ j < k by lia), if_pos hk, if_pos hj, if_neg (show ¬ i < k by lia), if_pos (show k < i by lia), if_neg (show ¬ i < j by lia), if_pos hj]
  by_cases a1 : T i < T k + 32 <;> by_cases a2 : T i < T j + 32 <;> by_cases a3 : T k + 32 < T j <;> by_cases a4 : T k + 32 < T i <;> by_cases a5 : T j + 32 < T i <;> by_cases a6 : T j < T k + 32 <;> simp [a1, a2, a3, a4, a5, a6, bi] <;> lia
theorem all_triples {c : Nat} (h : c ≤ 8) : sm3 c (fun _ _ _ => 1) = Int.fdiv ((c : Int) * (c - 1) * (c - 2)) 6 := by
  have : c = 0 ∨ c = 1 ∨ c = 2 ∨ c = 3 ∨ c = 4 ∨ c = 5 ∨ c = 6 ∨ c = 7 ∨ c = 8 := by lia
  rcases this with rfl | rfl | rfl | rfl | rfl | rfl | rfl | rfl | rfl <;> decide +kernel
end
end
end Mine

namespace Mine
section
set_option linter.unusedVariables false
structure Cnt (d : List (Int × Int)) (f : Int → Int) : Prop where
  nd : (d.map Prod.fst).Nodup
  val : ∀ k, d.lookup k = if f k = 0 then none else some (f k)
theorem lookup_none_iff (d : List (Int × Int)) (k : Int) : d.lookup k = none ↔ k ∉ d.map Prod.fst := by
  induction d with
  | nil => simp
  | cons q d ih =>
    obtain ⟨a, b⟩ := q
    rw [List.lookup_cons]
    by_cases e : k = a
    · subst e; simp
    · have : (k == a) = false := by simpa using e
      rw [this]
      simp only [ih, List.map_cons, List.mem_cons, not_or]
      exact ⟨fun h => ⟨e, h⟩, fun h => h.2⟩
theorem any_iff (d : List (Int × Int)) (k : Int) : (d.any fun q => q.1 = k) = true ↔ k ∈ d.map Prod.fst := by
  rw [List.any_eq_true]
  constructor
  · rintro ⟨q, hq, e⟩
    rw [← of_decide_eq_true e]
    exact List.mem_map.mpr ⟨q, hq, rfl⟩
  · intro h
    obtain ⟨q, hq, e⟩ := List.mem_map.mp h
    exact ⟨q, hq, decide_eq_true e⟩
theorem stored_keys (d : List (Int × Int)) (k v : Int) : (storedI d k v).map Prod.fst = if k ∈ d.map Prod.fst then d.map Prod.fst else d.map Prod.fst ++ [k] := by
  unfold storedI
  by_cases h : k ∈ d.map Prod.fst
  · rw [if_pos ((any_iff d k).mpr h), if_pos h, List.map_map]
    apply List.map_congr_left
    intro q _
    show (if q.1 = k then (q.1, v) else q).1 = q.1
    split <;> rfl
  · rw [if_neg fun z => h ((any_iff d k).mp z), if_neg h, List.map_append]
    rfl
theorem stored_nd {d : List (Int × Int)} (k v : Int) (h : (d.map Prod.fst).Nodup) : ((storedI d k v).map Prod.fst).Nodup := by
  rw [stored_keys]
  split
  · exact h
  · rename_i n
    rw [List.nodup_append]
    refine ⟨h, by simp, ?_⟩
    intro a ha b hb e
    rw [List.mem_singleton.mp hb] at e
    exact n (e ▸ ha)
theorem lookup_append' (d e : List (Int × Int)) (x : Int) : (d ++ e).lookup x = (d.lookup x).or (e.lookup x) := by
  induction d with
  | nil => simp
  | cons q d ih =>
    rw [List.cons_append, List.lookup_cons, List.lookup_cons]
    split
    · rfl
    · exact ih
theorem stored_lookup (d : List (Int × Int)) (k v x : Int) : (storedI d k v).lookup x = if x = k then some v else d.lookup x := by
  unfold storedI
  split
  · rename_i h
    have h := (any_iff d k).mp h
    by_cases e : x = k
    · subst e
      rw [if_pos rfl]
      rename_i h0
      clear h0
      induction d with
      | nil => simp at h
      | cons q d ih =>
        rw [List.map_cons]
        by_cases e : q.1 = x
        · rw [if_pos e, e, List.lookup_cons]; simp
        · rw [if_neg e]
          obtain ⟨a, b⟩ := q
          rw [List.lookup_cons]
          have : (x == a) = false := by simp; exact fun z => e z.symm
          rw [this]
          refine ih ?_
          rw [List.map_cons, List.mem_cons] at h
          exact h.resolve_left fun z => e z.symm
    · rw [if_neg e]
      rename_i h0
      clear h h0
      induction d with
      | nil => rfl
      | cons q d ih =>
        obtain ⟨a, b⟩ := q
        rw [List.map_cons]
        by_cases e2 : a = k
        · have : (x == a) = false := by simp; exact fun z => e (z.trans e2)
          rw [if_pos (by exact e2), List.lookup_cons, List.lookup_cons]
          rw [this]
          exact ih
        · rw [if_neg (by exact e2), List.lookup_cons, List.lookup_cons]
          split
          · rfl
          · exact ih
  · rename_i h
    have h := fun z => h ((any_iff d k).mpr z)
    rw [lookup_append']
    by_cases e : x = k
    · subst e
      rw [if_pos rfl, (lookup_none_iff d x).mpr h]
      simp [List.lookup_cons]
    · rw [if_neg e]
      have : (x == k) = false := by simpa using e
      simp [List.lookup_cons, this]
theorem put_same : ∀ (t acc : List (Int × Int)), ((acc ++ t).map Prod.fst).Nodup → t.foldl putRow acc = acc ++ t
  | [], acc, _ => by simp
  | q :: t, acc, h => by
    rw [List.foldl_cons]
    have n : q.1 ∉ acc.map Prod.fst := by
      rw [List.map_append, List.nodup_append] at h
      intro z
      exact h.2.2 _ z _ (by simp) rfl
    have e : putRow acc q = acc ++ [q] := by
      unfold putRow storedI
      rw [if_neg fun z => n ((any_iff acc q.1).mp z)]
    rw [e, put_same t (acc ++ [q]) (by simpa using h)]
    simp
noncomputable def lk (s : List (Int × Int)) (x : Int) : Int := (s.lookup x).getD 0
theorem Cnt.lk {d : List (Int × Int)} {f : Int → Int} (c : Cnt d f) (x : Int) : lk d x = f x := by
  unfold Mine.lk
  rw [c.val]
  split
  · rename_i e; rw [e]; rfl
  · rfl
theorem Cnt.addRow {d : List (Int × Int)} {f : Int → Int} (c : Cnt d f) (hf : ∀ x, 0 ≤ f x) {k v : Int} (hv : 0 < v) : Cnt (addRow d (k, v)) (fun x => if x = k then f x + v else f x) := by
  unfold Mine.addRow
  have e0 := c.val k
  have f0 := hf k
  split
  · rename_i u hu
    refine ⟨stored_nd _ _ c.nd, fun x => ?_⟩
    rw [stored_lookup]
    have hu' : d.lookup k = some u := hu
    by_cases e : x = k
    · subst e
      rw [e0] at hu'
      split at hu'
      · cases hu'
      · cases hu'
        rw [if_pos rfl, if_pos rfl, if_neg (by omega)]
    · rw [if_neg e, if_neg e]; exact c.val x
  · rename_i hu
    refine ⟨stored_nd _ _ c.nd, fun x => ?_⟩
    rw [stored_lookup]
    have hu' : d.lookup k = none := hu
    by_cases e : x = k
    · subst e
      rw [e0] at hu'
      split at hu'
      · rename_i z
        rw [if_pos rfl, if_pos rfl, z, if_neg (by omega)]
        simp
      · cases hu'
    · rw [if_neg e, if_neg e]; exact c.val x
theorem Cnt.addAll : ∀ (s : List (Int × Int)) {d : List (Int × Int)} {f : Int → Int}, Cnt d f → (∀ x, 0 ≤ f x) → (s.map Prod.fst).Nodup → (∀ q ∈ s, 0 < q.2) → Cnt (s.foldl Mine.addRow d) (fun x => f x + Mine.lk s x)
  | [], d, f, c, _, _, _ => by
    have : (fun x => f x + Mine.lk [] x) = f := by funext x; simp [Mine.lk]
    rw [this]; exact c
  | q :: s, d, f, c, hf, nd, hp => by
    obtain ⟨k, v⟩ := q
    have hv : 0 < v := hp (k, v) (.head _)
    rw [List.foldl_cons]
    rw [List.map_cons, List.nodup_cons] at nd
    have := Cnt.addAll s (c.addRow (k := k) hf hv) (fun x => by have := hf x; split <;> lia) nd.2 fun q hq => hp q (.tail _ hq)
    have e : (fun x => (if x = k then f x + v else f x) + Mine.lk s x) = fun x => f x + Mine.lk ((k, v) :: s) x := by
      funext x
      unfold Mine.lk
      rw [List.lookup_cons]
      by_cases e : x = k
      · subst e
        rw [if_pos rfl, (lookup_none_iff s x).mpr nd.1]
        simp
      · have : (x == k) = false := by simpa using e
        rw [if_neg e, this]
    rw [e] at this
    exact this
theorem Cnt.addRows {t s : List (Int × Int)} {f : Int → Int} (c : Cnt t f) (hf : ∀ x, 0 ≤ f x) (nd : (s.map Prod.fst).Nodup) (hp : ∀ q ∈ s, 0 < q.2) : Cnt (addRows t s) (fun x => f x + Mine.lk s x) := by
  unfold Mine.addRows
  rw [put_same t [] (by simpa using c.nd), List.nil_append]
  exact c.addAll s hf nd hp
structure GoodT (s : List (Int × Int)) : Prop where
  nd : (s.map Prod.fst).Nodup
  pos : ∀ q ∈ s, 0 < q.2
theorem lookup_mem' {s : List (Int × Int)} {x v : Int} (h : s.lookup x = some v) : (x, v) ∈ s := by
  induction s with
  | nil => cases h
  | cons q s ih =>
    obtain ⟨a, b⟩ := q
    rw [List.lookup_cons] at h
    split at h
    · rename_i e; cases h; rw [beq_iff_eq.mp e]; exact .head _
    · exact .tail _ (ih h)
theorem GoodT.nn {s : List (Int × Int)} (g : GoodT s) (x : Int) : 0 ≤ lk s x := by
  unfold lk
  cases q : s.lookup x with
  | none => exact Int.le_refl _
  | some v => exact Int.le_of_lt (g.pos _ (lookup_mem' q))
theorem sum_cnt : ∀ (es : List Ent) {t : Ent} {f : Int → Int}, Cnt t.t f → (∀ x, 0 ≤ f x) → (∀ e ∈ es, GoodT e.t) → Cnt (es.foldl Ent.add t).t (fun x => f x + (es.map fun e => lk e.t x).sum)
  | [], t, f, c, _, _ => by
    have : (fun x => f x + (([] : List Ent).map fun e => lk e.t x).sum) = f := by funext x; simp
    rw [this]; exact c
  | e :: es, t, f, c, hf, hg => by
    rw [List.foldl_cons]
    have g := hg e (.head _)
    have c2 : Cnt (t.add e).t (fun x => f x + lk e.t x) := c.addRows hf g.nd g.pos
    have := sum_cnt es c2 (fun x => by have := hf x; have := g.nn x; lia) fun e he => hg e (.tail _ he)
    have q : (fun x => f x + lk e.t x + (es.map fun e => lk e.t x).sum) = fun x => f x + ((e :: es).map fun e => lk e.t x).sum := by
      funext x; rw [List.map_cons, List.sum_cons]; lia
    rw [q] at this
    exact this
theorem cnt_nil : Cnt [] (fun _ => 0) := ⟨by simp, fun k => by simp⟩
theorem Ent.sum_cnt (es : List Ent) (hg : ∀ e ∈ es, GoodT e.t) : Cnt (Ent.sum es).t (fun x => (es.map fun e => Mine.lk e.t x).sum) := by
  have := Mine.sum_cnt es (t := Ent.zero) cnt_nil (fun _ => Int.le_refl _) hg
  have q : (fun x => (0 : Int) + (es.map fun e => Mine.lk e.t x).sum) = fun x => (es.map fun e => Mine.lk e.t x).sum := by funext x; lia
  rw [q] at this
  exact this
theorem sumV_stored_new {d : List (Int × Int)} {k v : Int} (h : k ∉ d.map Prod.fst) : sumV (storedI d k v) = sumV d + v := by
  unfold storedI
  rw [if_neg fun z => h ((any_iff d k).mp z)]
  unfold sumV
  rw [List.map_append, List.sum_append]
  simp
theorem sumV_stored_old {d : List (Int × Int)} {k v u : Int} (hn : (d.map Prod.fst).Nodup) (h : d.lookup k = some u) : sumV (storedI d k v) = sumV d + v - u := by
  have hk : k ∈ d.map Prod.fst := List.mem_map.mpr ⟨_, lookup_mem' h, rfl⟩
  unfold storedI
  rw [if_pos ((any_iff d k).mpr hk)]
  clear hk
  induction d with
  | nil => cases h
  | cons q d ih =>
    obtain ⟨a, b⟩ := q
    rw [List.map_cons, List.nodup_cons] at hn
    rw [List.lookup_cons] at h
    by_cases e : k = a
    · subst e
      have hb : b = u := by simpa using h
      subst hb
      have e2 : d.map (fun q => if q.1 = k then (q.1, v) else q) = d := by
        have : d.map (fun q => if q.1 = k then (q.1, v) else q) = d.map id := by
          apply List.map_congr_left
          intro q hq
          rw [if_neg]; rfl
          intro z
          exact hn.1 (z ▸ List.mem_map.mpr ⟨q, hq, rfl⟩)
        rw [this, List.map_id]
      rw [List.map_cons, e2, if_pos rfl]
      simp only [sumV, List.map_cons, List.sum_cons]
      lia
    · have : (k == a) = false := by simpa using e
      rw [this] at h
      have := ih hn.2 h
      rw [List.map_cons, if_neg (show ¬ a = k from fun z => e z.symm)]
      simp only [sumV, List.map_cons, List.sum_cons] at *
      lia
theorem sumV_addRow {d : List (Int × Int)} (hn : (d.map Prod.fst).Nodup) (q : Int × Int) : sumV (addRow d q) = sumV d + q.2 := by
  unfold addRow
  split
  · rename_i u hu
    rw [sumV_stored_old hn hu]; lia
  · rename_i hu
    exact sumV_stored_new ((lookup_none_iff d q.1).mp hu)
theorem addRow_nd {d : List (Int × Int)} (hn : (d.map Prod.fst).Nodup) (q : Int × Int) : ((addRow d q).map Prod.fst).Nodup := by
  unfold addRow
  split
  · exact stored_nd _ _ hn
  · exact stored_nd _ _ hn
theorem sumV_addAll : ∀ (s : List (Int × Int)) {d : List (Int × Int)}, (d.map Prod.fst).Nodup → sumV (s.foldl addRow d) = sumV d + sumV s ∧ ((s.foldl addRow d).map Prod.fst).Nodup
  | [], d, h => ⟨by simp [sumV], h⟩
  | q :: s, d, h => by
    rw [List.foldl_cons]
    obtain ⟨a, b⟩ := sumV_addAll s (addRow_nd h q)
    refine ⟨?_, b⟩
    rw [a, sumV_addRow h]
    simp only [sumV, List.map_cons, List.sum_cons]
    lia
theorem sumV_sum : ∀ (es : List Ent) {t : Ent}, (t.t.map Prod.fst).Nodup → sumV (es.foldl Ent.add t).t = sumV t.t + (es.map fun e => sumV e.t).sum ∧ ((es.foldl Ent.add t).t.map Prod.fst).Nodup
  | [], t, h => ⟨by simp, h⟩
  | e :: es, t, h => by
    rw [List.foldl_cons]
    have k := sumV_addAll e.t (d := t.t.foldl putRow []) (by rw [put_same t.t [] (by simpa using h), List.nil_append]; exact h)
    rw [put_same t.t [] (by simpa using h), List.nil_append] at k
    have k1 : sumV (t.add e).t = sumV t.t + sumV e.t := by
      show sumV (addRows t.t e.t) = _
      unfold addRows
      rw [put_same t.t [] (by simpa using h), List.nil_append]
      exact k.1
    have k2 : ((t.add e).t.map Prod.fst).Nodup := by
      show ((addRows t.t e.t).map Prod.fst).Nodup
      unfold addRows
      rw [put_same t.t [] (by simpa using h), List.nil_append]
      exact k.2
    obtain ⟨a, b⟩ := sumV_sum es k2
    refine ⟨?_, b⟩
    rw [a, k1, List.map_cons, List.sum_cons]
    lia
theorem sum_abcd : ∀ (es : List Ent) (t : Ent), (es.foldl Ent.add t).a = t.a + (es.map Ent.a).sum ∧ (es.foldl Ent.add t).b = t.b + (es.map Ent.b).sum ∧ (es.foldl Ent.add t).c = t.c + (es.map Ent.c).sum ∧ (es.foldl Ent.add t).d = t.d + (es.map Ent.d).sum
  | [], t => by simp
  | e :: es, t => by
    rw [List.foldl_cons]
    obtain ⟨a, b, c, d⟩ := sum_abcd es (t.add e)
    rw [a, b, c, d]
    simp only [List.map_cons, List.sum_cons, Ent.add]
    lia
theorem nd_le {α : Type} [DecidableEq α] : ∀ {l l' : List α}, l.Nodup → (∀ x ∈ l, x ∈ l') → l.length ≤ l'.length
  | [], _, _, _ => Nat.zero_le _
  | a :: l, l', h, hs => by
    rw [List.nodup_cons] at h
    have ha := hs a (.head _)
    have := nd_le (l := l) (l' := l'.erase a) h.2 fun x hx => (List.mem_erase_of_ne (show x ≠ a from fun e => h.1 (e ▸ hx))).mpr (hs x (.tail _ hx))
    rw [List.length_erase_of_mem ha] at this
    have := List.length_pos_of_mem ha
    rw [List.length_cons]; omega
theorem Cnt.keys {d : List (Int × Int)} {f : Int → Int} (c : Cnt d f) (x : Int) : x ∈ d.map Prod.fst ↔ f x ≠ 0 := by
  have := c.val x
  have h2 := lookup_none_iff d x
  by_cases e : f x = 0
  · rw [if_pos e] at this
    exact ⟨fun h => absurd h (h2.mp this), fun h => absurd e h⟩
  · rw [if_neg e] at this
    refine ⟨fun _ => e, fun _ => ?_⟩
    exact List.mem_map.mpr ⟨_, lookup_mem' this, rfl⟩
theorem Cnt.same {d d' : List (Int × Int)} {f : Int → Int} (c : Cnt d f) (c' : Cnt d' f) : d.length = d'.length ∧ ∀ q ∈ d, d'.lookup q.1 = some q.2 := by
  constructor
  · have a := nd_le c.nd fun x hx => (c'.keys x).mpr ((c.keys x).mp hx)
    have b := nd_le c'.nd fun x hx => (c.keys x).mpr ((c'.keys x).mp hx)
    rw [List.length_map, List.length_map] at a b
    lia
  · intro q hq
    rw [c'.val]
    have k := (c.keys q.1).mp (List.mem_map.mpr ⟨q, hq, rfl⟩)
    rw [if_neg k]
    have key : ∀ (d : List (Int × Int)), (d.map Prod.fst).Nodup → q ∈ d → d.lookup q.1 = some q.2 := by
      intro d
      induction d with
      | nil => intro _ h; cases h
      | cons p d ih =>
        intro nd h
        rw [List.map_cons, List.nodup_cons] at nd
        obtain ⟨a, b⟩ := p
        rw [List.lookup_cons]
        rcases List.mem_cons.mp h with rfl | h
        · simp
        · have : (q.1 == a) = false := by
            simp
            intro z
            exact nd.1 (z ▸ List.mem_map.mpr ⟨q, h, rfl⟩)
          rw [this]
          exact ih nd.2 h
    have := key d c.nd hq
    rw [c.val, if_neg k] at this
    exact this
end
end Mine

namespace Mine
section
set_option linter.unusedVariables false
open PySem
noncomputable def hueF (t : Nat) : UInt64 := Float64.div (Float64.ofInt (t : Int)) 0x4050000000000000
noncomputable def hueS : Int := 2 ^ 1068
noncomputable def valOk (t : Nat) : Bool := match Float64.decode (hueF t) with
  | .fin _ _ _ => Float64.val (hueF t) == (t : Int) * hueS
  | _ => false
theorem val_all : ((List.range 128).all valOk) = true := by decide +kernel
theorem val_at {t : Nat} (h : t < 128) : (∃ a m e, Float64.decode (hueF t) = .fin a m e) ∧ Float64.val (hueF t) = (t : Int) * hueS := by
  have k := List.all_eq_true.mp val_all t (List.mem_range.mpr h)
  unfold valOk at k
  split at k
  · rename_i a m e q
    exact ⟨⟨a, m, e, q⟩, beq_iff_eq.mp k⟩
  · cases k
theorem hueS_pos : 0 < hueS := by decide +kernel
theorem hue_cmp {a b : Nat} (ha : a < 128) (hb : b < 128) : (Float64.cmp (hueF a) (hueF b) == some Ordering.lt) = decide (a < b) := by
  obtain ⟨⟨s1, m1, e1, d1⟩, v1⟩ := val_at ha
  obtain ⟨⟨s2, m2, e2, d2⟩, v2⟩ := val_at hb
  rw [Float64.cmp_right d1 d2, v1, v2]
  have key : (compare ((a : Int) * hueS) ((b : Int) * hueS) = Ordering.lt) ↔ a < b := by
    rw [Int.compare_eq_lt]
    constructor
    · intro h
      have := Int.lt_of_mul_lt_mul_right h (Int.le_of_lt hueS_pos)
      omega
    · intro h
      exact Int.mul_lt_mul_of_pos_right (by omega) hueS_pos
  rw [Bool.eq_iff_iff, beq_iff_eq, decide_eq_true_eq, Option.some.injEq]
  exact key
theorem half_all : ((List.range 64).all fun b => Float64.add (hueF b) fHalf == hueF (b + 32)) = true := by decide +kernel
theorem one_all : ((List.range 64).all fun b => Float64.add (hueF b) fOne == hueF (b + 64)) = true := by decide +kernel
theorem hue_half {b : Nat} (h : b < 64) : Float64.add (hueF b) fHalf = hueF (b + 32) := beq_iff_eq.mp (List.all_eq_true.mp half_all b (List.mem_range.mpr h))
theorem hue_one {b : Nat} (h : b < 64) : Float64.add (hueF b) fOne = hueF (b + 64) := beq_iff_eq.mp (List.all_eq_true.mp one_all b (List.mem_range.mpr h))
end
end Mine

namespace Mine
section
set_option linter.unusedVariables false
noncomputable def ptOf (t p l : Int) : Int × Int := (2 * partOf t p l 0 - partOf t p l 64 - partOf t p l 128, partOf t p l 64 - partOf t p l 128)
noncomputable def dirOf (t : Int) : Int × Int := (fallOf t 64 + fallOf t 128 - 2 * fallOf t 0, fallOf t 128 - fallOf t 64)
theorem pt_dir (t p l : Int) : ptOf t p l = ((l * p) * (dirOf t).1, (l * p) * (dirOf t).2) := by
  unfold ptOf dirOf partOf
  apply Prod.ext
  · show _ = _; grind
  · show _ = _; grind
noncomputable def signOk (a b : Nat) : Bool :=
  (decide (0 < cr (dirOf a) (dirOf b)) == decide ((a < b ∧ b < a + 32) ∨ b + 32 < a)) && (decide (cr (dirOf a) (dirOf b) = 0) == decide (a = b ∨ b = a + 32 ∨ a = b + 32)) && (if a = b then sdB (dirOf a) (dirOf b) else true) && (if b = a + 32 ∨ a = b + 32 then !sdB (dirOf a) (dirOf b) else true)
theorem sign_tab : ((List.range 64).all fun a => (List.range 64).all fun b => signOk a b) = true := by decide +kernel
theorem sign_of {a b : Nat} (ha : a < 64) (hb : b < 64) : signOk a b = true := List.all_eq_true.mp (List.all_eq_true.mp sign_tab a (List.mem_range.mpr ha)) b (List.mem_range.mpr hb)
theorem fall_bd {t c : Int} (ht : 0 ≤ t ∧ t < 64) (hc : 0 ≤ c ∧ c ≤ 128) : 0 ≤ fallOf t c ∧ fallOf t c ≤ 32 := by
  unfold fallOf clampC clampB
  lia
structure Signs (P Q : Int × Int) (a b : Nat) : Prop where
  pos : 0 < cr P Q ↔ (a < b ∧ b < a + 32) ∨ b + 32 < a
  zero : cr P Q = 0 ↔ a = b ∨ b = a + 32 ∨ a = b + 32
  same : a = b → sdB P Q = true
  opp : b = a + 32 ∨ a = b + 32 → sdB P Q = false
theorem mul_pos_iff {k x : Int} (hk : 0 < k) : 0 < k * x ↔ 0 < x := by
  constructor
  · intro h
    rcases Int.lt_trichotomy x 0 with q | q | q
    · have := Int.mul_neg_of_pos_of_neg hk q; lia
    · subst q; lia
    · exact q
  · exact fun h => Int.mul_pos hk h
theorem signs {a b : Nat} {p l p' l' : Int} (ha : a < 64) (hb : b < 64) (hp : 0 < p) (hl : 0 < l) (hp' : 0 < p') (hl' : 0 < l') : Signs (ptOf a p l) (ptOf b p' l') a b := by
  have h := sign_of ha hb
  unfold signOk at h
  simp only [Bool.and_eq_true, beq_iff_eq] at h
  obtain ⟨⟨⟨h1, h2⟩, h3⟩, h4⟩ := h
  have k1 : 0 < (l * p) * (l' * p') := Int.mul_pos (Int.mul_pos hl hp) (Int.mul_pos hl' hp')
  have e1 : cr (ptOf a p l) (ptOf b p' l') = ((l * p) * (l' * p')) * cr (dirOf a) (dirOf b) := by
    rw [pt_dir, pt_dir]; unfold cr; simp only; grind
  have e2 : (ptOf a p l).1 * (ptOf b p' l').1 + (ptOf a p l).2 * (ptOf b p' l').2 = ((l * p) * (l' * p')) * ((dirOf a).1 * (dirOf b).1 + (dirOf a).2 * (dirOf b).2) := by
    rw [pt_dir, pt_dir]; simp only; grind
  have e3 : sdB (ptOf a p l) (ptOf b p' l') = sdB (dirOf a) (dirOf b) := by
    unfold sdB
    rw [e2]
    exact decide_eq_decide.mpr (mul_pos_iff k1)
  have z := decide_eq_decide.mp h2
  exact ⟨by rw [e1, mul_pos_iff k1]; exact decide_eq_decide.mp h1,
    by rw [e1, Int.mul_eq_zero]; exact ⟨fun h => z.mp (h.resolve_left (Int.ne_of_gt k1)), fun h => .inr (z.mpr h)⟩,
    fun e => by rw [e3]; rw [if_pos e] at h3; exact h3,
    fun e => by rw [e3]; rw [if_pos e, Bool.not_eq_true'] at h4; exact h4⟩
theorem sgn_back {u : Int} {a b : Nat} (p : 0 < u ↔ (a < b ∧ b < a + 32) ∨ b + 32 < a) (z : u = 0 ↔ a = b ∨ b = a + 32 ∨ a = b + 32) (h : b ≤ a) (ha : a < 64) : (u < 0 ∧ b < a ∧ a < b + 32) ∨ (u = 0 ∧ (a = b ∨ a = b + 32)) ∨ (0 < u ∧ b + 32 < a) := by
  rcases Int.lt_trichotomy u 0 with q | q | q
  · have n1 : ¬ (a = b ∨ b = a + 32 ∨ a = b + 32) := fun k => by have := z.mpr k; lia
    have n2 : ¬ ((a < b ∧ b < a + 32) ∨ b + 32 < a) := fun k => by have := p.mpr k; lia
    clear p z
    exact .inl ⟨q, by lia, by lia⟩
  · have k := z.mp q
    clear p z
    exact .inr (.inl ⟨q, by lia⟩)
  · have k := p.mp q
    clear p z
    exact .inr (.inr ⟨q, by lia⟩)
theorem sgn_forth {u : Int} {a b : Nat} (p : 0 < u ↔ (a < b ∧ b < a + 32) ∨ b + 32 < a) (z : u = 0 ↔ a = b ∨ b = a + 32 ∨ a = b + 32) (h : a ≤ b) (hb : b < 64) : (0 < u ∧ a < b ∧ b < a + 32) ∨ (u = 0 ∧ (a = b ∨ b = a + 32)) ∨ (u < 0 ∧ a + 32 < b) := by
  rcases Int.lt_trichotomy u 0 with q | q | q
  · have n1 : ¬ (a = b ∨ b = a + 32 ∨ a = b + 32) := fun k => by have := z.mpr k; lia
    have n2 : ¬ ((a < b ∧ b < a + 32) ∨ b + 32 < a) := fun k => by have := p.mpr k; lia
    clear p z
    exact .inr (.inr ⟨q, by lia⟩)
  · have k := z.mp q
    clear p z
    exact .inr (.inl ⟨q, by lia⟩)
  · have k := p.mp q
    clear p z
    exact .inl ⟨q, by lia, by lia⟩
theorem nn_iff {u : Int} : 0 ≤ u ↔ 0 < u ∨ u = 0 := ⟨fun h => (Int.lt_or_eq_of_le h).imp_right Eq.symm, fun h => h.elim Int.le_of_lt fun e => e ▸ Int.le_refl _⟩
theorem sgl {u : Int} {m a : Nat} (ha : a < 64) (p : 0 < u ↔ (m + a < m ∧ m < m + a + 32) ∨ m + 32 < m + a) (z : u = 0 ↔ m + a = m ∨ m = m + a + 32 ∨ m + a = m + 32) : (0 ≤ u ↔ a = 0 ∨ 32 ≤ a) ∧ (u ≤ 0 ↔ a ≤ 32) ∧ (u = 0 ↔ a % 32 = 0) := by
  have p' : 0 < u ↔ 32 < a := p.trans ⟨fun h => h.elim (fun h => absurd h.1 (Nat.not_lt.mpr (Nat.le_add_right _ _))) Nat.lt_of_add_lt_add_left, fun h => .inr (Nat.add_lt_add_left h _)⟩
  have z' : u = 0 ↔ a = 0 ∨ a = 32 := by rw [z]; clear p z p'; lia
  clear p z
  refine ⟨?_, by rw [← Int.not_lt, p', Nat.not_lt], ?_⟩
  · rw [nn_iff, p', z']; clear p' z'; lia
  · rw [z']; clear p' z'; lia
theorem sgr {u : Int} {m a : Nat} (ha : a < 64) (p : 0 < u ↔ (m < m + a ∧ m + a < m + 32) ∨ m + a + 32 < m) (z : u = 0 ↔ m = m + a ∨ m + a = m + 32 ∨ m = m + a + 32) : (0 ≤ u ↔ a ≤ 32) ∧ (u ≤ 0 ↔ a = 0 ∨ 32 ≤ a) ∧ (u = 0 ↔ a % 32 = 0) := by
  have p' : 0 < u ↔ 0 < a ∧ a < 32 := by rw [p]; clear p z; lia
  have z' : u = 0 ↔ a = 0 ∨ a = 32 := by rw [z]; clear p z p'; lia
  clear p z
  refine ⟨?_, ?_, ?_⟩
  · rw [nn_iff, p', z']; clear p' z'; lia
  · rw [← Int.not_lt, p']; clear p' z'; lia
  · rw [z']; clear p' z'; lia
noncomputable def gOk (a b : Nat) : Bool :=
  (if a % 32 = 0 ∧ b % 32 = 0 ∧ (b + a) % 32 = 0 then !(decide (a = 0) && decide (b + a = 0)) else ((decide (a = 0 ∨ 32 ≤ a) && (decide (b = 0 ∨ 32 ≤ b) && decide (b + a ≤ 32))) || (decide (a ≤ 32) && (decide (b ≤ 32) && decide (b + a = 0 ∨ 32 ≤ b + a))))) ==
    !(decide (b + a < 32) || (decide (a < 32) && decide (32 < b)) || (decide (32 < b + a) && decide (32 < a)))
theorem g_tab : ((List.range 64).all fun a => (List.range (64 - a)).all fun b => gOk a b) = true := by decide +kernel
theorem min_iff {u v w : Int} : 0 ≤ imin3 u v w ↔ 0 ≤ u ∧ 0 ≤ v ∧ 0 ≤ w := by unfold imin3; split <;> split <;> lia
theorem max_iff {u v w : Int} : imax3 u v w ≤ 0 ↔ u ≤ 0 ∧ v ≤ 0 ∧ w ≤ 0 := by unfold imax3; split <;> split <;> lia
theorem sd_eq {A B : Int × Int} {m a : Nat} (ha : a < 64) (h : a % 32 = 0) (s : Signs A B (m + a) m) : sdB A B = decide (a = 0) := by
  by_cases e : a = 0
  · subst e; exact s.same rfl
  · rw [decide_eq_false e]; exact s.opp (.inr (by clear s; lia))
theorem grey_eq {A B C : Int × Int} {z y x : Nat} (sab : Signs A B z y) (sbc : Signs B C y x) (sca : Signs C A x z) (sac : Signs A C z x) (h1 : x ≤ y) (h2 : y ≤ z) (hz : z < 64) :
    greyB A B C = !(decide (z < x + 32) || (decide (z < y + 32) && decide (x + 32 < y)) || (decide (x + 32 < z) && decide (y + 32 < z))) := by
  obtain ⟨b, rfl⟩ := Nat.le.dest h1
  obtain ⟨a, rfl⟩ := Nat.le.dest h2
  have hc : b + a < 64 := Nat.lt_of_le_of_lt (by rw [Nat.add_assoc]; exact Nat.le_add_left _ _) hz
  have ha : a < 64 := Nat.lt_of_le_of_lt (Nat.le_add_left _ _) hc
  have hb : b < 64 := Nat.lt_of_le_of_lt (Nat.le_add_right _ _) hc
  clear hz h1 h2
  have t := beq_iff_eq.mp (show gOk a b = true from List.all_eq_true.mp (List.all_eq_true.mp g_tab a (List.mem_range.mpr ha)) b (List.mem_range.mpr (by clear sab sbc sca sac; lia)))
  obtain ⟨u1, u2, u3⟩ := sgl ha sab.pos sab.zero
  obtain ⟨v1, v2, v3⟩ := sgl hb sbc.pos sbc.zero
  rw [Nat.add_assoc] at sca sac
  obtain ⟨w1, w2, w3⟩ := sgr hc sca.pos sca.zero
  have r : (decide (x + b + a < x + 32) || (decide (x + b + a < x + b + 32) && decide (x + 32 < x + b)) || (decide (x + 32 < x + b + a) && decide (x + b + 32 < x + b + a))) = (decide (b + a < 32) || (decide (a < 32) && decide (32 < b)) || (decide (32 < b + a) && decide (32 < a))) := by
    simp only [Nat.add_assoc, Nat.add_lt_add_iff_left]
  rw [r, ← t]
  clear r t
  have k : [cr A B, cr B C, cr C A] = [0, 0, 0] ↔ a % 32 = 0 ∧ b % 32 = 0 ∧ (b + a) % 32 = 0 := by rw [← u3, ← v3, ← w3]; simp only [List.cons.injEq, and_true]
  unfold greyB
  by_cases h0 : a % 32 = 0 ∧ b % 32 = 0 ∧ (b + a) % 32 = 0
  · rw [if_pos (k.mpr h0), if_pos h0, sd_eq ha h0.1 sab, sd_eq hc h0.2.2 sac]
  · rw [if_neg (fun q => h0 (k.mp q)), if_neg h0]
    have m1 := (@min_iff (cr A B) (cr B C) (cr C A)).trans (and_congr u1 (and_congr v1 w1))
    have m2 := (@max_iff (cr A B) (cr B C) (cr C A)).trans (and_congr u2 (and_congr v2 w2))
    rw [show decide (0 ≤ imin3 (cr A B) (cr B C) (cr C A)) = decide ((a = 0 ∨ 32 ≤ a) ∧ (b = 0 ∨ 32 ≤ b) ∧ b + a ≤ 32) from decide_eq_decide.mpr m1,
      show decide (imax3 (cr A B) (cr B C) (cr C A) ≤ 0) = decide (a ≤ 32 ∧ b ≤ 32 ∧ (b + a = 0 ∨ 32 ≤ b + a)) from decide_eq_decide.mpr m2]
    simp only [Bool.decide_and]
end
end Mine

namespace Mine
section
set_option linter.unusedVariables false
@[reducible] noncomputable def Nm := List (Int × Int × Int)
structure WF (nm : Nm) : Prop where
  t : ∀ q ∈ nm, 0 ≤ q.1 ∧ q.1 < 64
  p : ∀ q ∈ nm, 0 ≤ q.2.1 ∧ q.2.1 < 3
  l : ∀ q ∈ nm, 1 ≤ q.2.2 ∧ q.2.2 ≤ 4
noncomputable def nmAt (nm : Nm) (n : Nat) : Int × Int × Int := nm.getD n (0, 0, 1)
noncomputable def tt (nm : Nm) (n : Nat) : Nat := (nmAt nm n).1.toNat
noncomputable def col (nm : Nm) (n : Nat) : Bool := decide ((nmAt nm n).2.1 ≠ 0)
noncomputable def pp (nm : Nm) (n : Nat) : Int × Int := ptOf (nmAt nm n).1 (nmAt nm n).2.1 (nmAt nm n).2.2
noncomputable def lex (nm : Nm) (a b : Nat) : Prop := tt nm a < tt nm b ∨ (tt nm a = tt nm b ∧ a < b)
noncomputable def posOf (nm : Nm) (acc : List Nat) (n : Nat) : Nat := cn acc.length (fun i => decide (tt nm (acc.getD i 0) ≤ tt nm n))
noncomputable def ins (nm : Nm) (acc : List Nat) (n : Nat) : List Nat := acc.take (posOf nm acc n) ++ n :: acc.drop (posOf nm acc n)
noncomputable def idxOf (nm : Nm) (k : Nat) : List Nat := (List.range k).filter (col nm)
noncomputable def ordOf (nm : Nm) : Nat → List Nat
  | 0 => []
  | k + 1 => if col nm k = true then ins nm (ordOf nm k) k else ordOf nm k
section
variable {nm : Nm}
theorem nm_facts (h : WF nm) (n : Nat) : (0 ≤ (nmAt nm n).1 ∧ (nmAt nm n).1 < 64) ∧ (0 ≤ (nmAt nm n).2.1 ∧ (nmAt nm n).2.1 < 3) ∧ (1 ≤ (nmAt nm n).2.2 ∧ (nmAt nm n).2.2 ≤ 4) := by
  unfold nmAt
  by_cases q : n < nm.length
  · have : nm.getD n (0, 0, 1) ∈ nm := by simp [q]
    exact ⟨h.t _ this, h.p _ this, h.l _ this⟩
  · have : nm.getD n (0, 0, 1) = (0, 0, 1) := by simp [Nat.le_of_not_lt q]
    rw [this]; decide
theorem tt_lt (h : WF nm) (n : Nat) : tt nm n < 64 := by
  have := nm_facts h n
  unfold tt; omega
theorem tt_cast (h : WF nm) (n : Nat) : ((tt nm n : Nat) : Int) = (nmAt nm n).1 := by
  have := nm_facts h n
  unfold tt; lia
theorem pos_le (acc : List Nat) (n : Nat) : posOf nm acc n ≤ acc.length := cn_le ..
theorem lex_le {a b : Nat} (h : lex nm a b) : tt nm a ≤ tt nm b := by unfold lex at h; lia
theorem pos_iff {acc : List Nat} {n j : Nat} (hs : acc.Pairwise (lex nm)) (hj : j < acc.length) : j < posOf nm acc n ↔ tt nm (acc.getD j 0) ≤ tt nm n := by
  unfold posOf
  rw [cn_lt (fun a b hab hb hp => ?_) hj, decide_eq_true_eq]
  have hp := of_decide_eq_true hp
  refine decide_eq_true ?_
  by_cases e : a = b
  · rw [e]; exact hp
  · have := lex_le (List.pairwise_iff_getElem.mp hs a b (by omega) hb (by omega))
    have e1 : acc.getD a 0 = acc[a] := by simp [show a < acc.length by omega]
    have e2 : acc.getD b 0 = acc[b] := by simp [hb]
    rw [e1]; rw [e2] at hp; omega
theorem mem_take_pos {acc : List Nat} {n a : Nat} (hs : acc.Pairwise (lex nm)) (h : a ∈ acc.take (posOf nm acc n)) : tt nm a ≤ tt nm n := by
  obtain ⟨i, hi, rfl⟩ := List.mem_iff_getElem.mp h
  rw [List.length_take] at hi
  have := (pos_iff (n := n) hs (j := i) (by omega)).mp (by omega)
  rw [List.getElem_take]
  have e : acc.getD i 0 = acc[i] := by simp [show i < acc.length by omega]
  rw [e] at this; exact this
theorem mem_drop_pos {acc : List Nat} {n a : Nat} (hs : acc.Pairwise (lex nm)) (h : a ∈ acc.drop (posOf nm acc n)) : tt nm n < tt nm a := by
  obtain ⟨i, hi, rfl⟩ := List.mem_iff_getElem.mp h
  rw [List.length_drop] at hi
  have := (pos_iff (n := n) hs (j := posOf nm acc n + i) (by omega))
  rw [List.getElem_drop]
  have e : acc.getD (posOf nm acc n + i) 0 = acc[posOf nm acc n + i] := by simp [show posOf nm acc n + i < acc.length by omega]
  rw [e] at this; omega
theorem ins_sorted {acc : List Nat} {n : Nat} (hs : acc.Pairwise (lex nm)) (hl : ∀ a ∈ acc, a < n) : (ins nm acc n).Pairwise (lex nm) := by
  unfold ins
  rw [List.pairwise_append]
  have split : (acc.take (posOf nm acc n) ++ acc.drop (posOf nm acc n)).Pairwise (lex nm) := by rw [List.take_append_drop]; exact hs
  rw [List.pairwise_append] at split
  obtain ⟨s1, s2, s3⟩ := split
  refine ⟨s1, List.pairwise_cons.mpr ⟨fun b hb => .inl (mem_drop_pos hs hb), s2⟩, fun a ha b hb => ?_⟩
  rcases List.mem_cons.mp hb with rfl | hb
  · have := mem_take_pos hs ha
    have := hl a (List.mem_of_mem_take ha)
    unfold lex; lia
  · exact s3 a ha b hb
theorem ins_perm (acc : List Nat) (n : Nat) : (ins nm acc n).Perm (acc ++ [n]) := by
  unfold ins
  have h1 : (acc.take (posOf nm acc n) ++ n :: acc.drop (posOf nm acc n)).Perm (n :: (acc.take (posOf nm acc n) ++ acc.drop (posOf nm acc n))) := List.perm_middle
  rw [List.take_append_drop] at h1
  exact h1.trans (List.perm_append_comm (l₁ := [n]) (l₂ := acc))
theorem idx_succ (k : Nat) : idxOf nm (k + 1) = idxOf nm k ++ if col nm k = true then [k] else [] := by
  unfold idxOf
  rw [List.range_succ, List.filter_append]
  congr 1
  by_cases h : col nm k = true <;> simp [h]
theorem idx_lt {k a : Nat} (h : a ∈ idxOf nm k) : a < k ∧ col nm a = true := by
  unfold idxOf at h
  have := List.mem_filter.mp h
  exact ⟨List.mem_range.mp this.1, this.2⟩
theorem ord_inv (k : Nat) : (ordOf nm k).Pairwise (lex nm) ∧ (ordOf nm k).Perm (idxOf nm k) := by
  induction k with
  | zero => exact ⟨List.Pairwise.nil, List.Perm.refl _⟩
  | succ k ih =>
    obtain ⟨h1, h2⟩ := ih
    rw [idx_succ]
    unfold ordOf
    by_cases c : col nm k = true
    · rw [if_pos c, if_pos c]
      exact ⟨ins_sorted h1 fun a ha => (idx_lt (h2.mem_iff.mp ha)).1, (ins_perm _ _).trans (h2.append_right _)⟩
    · rw [if_neg c, if_neg c, List.append_nil]
      exact ⟨h1, h2⟩
theorem idx_nodup (k : Nat) : (idxOf nm k).Nodup := List.Pairwise.filter _ List.nodup_range
theorem ord_nodup (k : Nat) : (ordOf nm k).Nodup := (ord_inv k).2.nodup_iff.mpr (idx_nodup k)
theorem ord_len (k : Nat) : (ordOf nm k).length = (idxOf nm k).length := (ord_inv k).2.length_eq
end
theorem sm_front (n : Nat) (f : Nat → Int) : sm (n + 1) f = f 0 + sm n (fun i => f (i + 1)) := by
  rw [Nat.add_comm, sm_append]
  have : (fun i => f (1 + i)) = fun i => f (i + 1) := by funext i; rw [Nat.add_comm]
  rw [this]; simp [sm]
theorem countP_sm (p : Nat → Bool) : ∀ l : List Nat, ((l.countP p : Nat) : Int) = sm l.length (fun q => bi (p (l.getD q 0)))
  | [] => rfl
  | a :: l => by
    rw [List.length_cons, sm_front, List.countP_cons]
    have := countP_sm p l
    simp only [List.getD_cons_succ, List.getD_cons_zero]
    rw [← this]
    unfold bi
    split <;> lia
theorem filter_sm {l l' : List Nat} (h : l'.Perm l) (p : Nat → Bool) : (((l.filter p).length : Nat) : Int) = sm l'.length (fun q => bi (p (l'.getD q 0))) := by
  rw [← countP_sm, ← List.countP_eq_length_filter, h.countP_eq]
theorem count_idx (nm : Nm) : (idxOf nm nm.length).length = nm.countP fun q => decide (q.2.1 ≠ 0) := by
  have e : nm = (List.range nm.length).map (nmAt nm) := by
    apply List.ext_getElem
    · simp
    · intro i h1 h2
      simp [nmAt, h1]
  conv => rhs; rw [e]
  rw [List.countP_map]
  unfold idxOf
  rw [← List.countP_eq_length_filter]
  rfl
end
end Mine

namespace Mine
section
set_option linter.unusedVariables false
section
variable {nm : Nm} {N : Nat}
noncomputable def TT (nm : Nm) (N q : Nat) : Nat := tt nm ((ordOf nm N).getD q 0)
theorem getD_get {l : List Nat} {q : Nat} (h : q < l.length) : l.getD q 0 = l[q] := by simp [h]
theorem ord_lex {i j : Nat} (hij : i < j) (hj : j < (ordOf nm N).length) : lex nm ((ordOf nm N).getD i 0) ((ordOf nm N).getD j 0) := by
  rw [getD_get (by lia), getD_get hj]
  exact List.pairwise_iff_getElem.mp (ord_inv N).1 i j (by lia) hj hij
theorem TT_mono (h : WF nm) : Mono (TT nm N) (ordOf nm N).length := by
  refine ⟨fun i j hij hj => ?_, fun i _ => tt_lt h _⟩
  by_cases e : i = j
  · rw [e]; exact Nat.le_refl _
  · exact lex_le (ord_lex (by lia) hj)
theorem ord_col {q : Nat} (hq : q < (ordOf nm N).length) : (ordOf nm N).getD q 0 < N ∧ col nm ((ordOf nm N).getD q 0) = true := by
  rw [getD_get hq]
  exact idx_lt ((ord_inv N).2.mem_iff.mp (List.getElem_mem hq))
theorem pt_signs (h : WF nm) {a b : Nat} (ha : col nm a = true) (hb : col nm b = true) : Signs (pp nm a) (pp nm b) (tt nm a) (tt nm b) := by
  have f1 := nm_facts h a
  have f2 := nm_facts h b
  have c1 : (nmAt nm a).2.1 ≠ 0 := of_decide_eq_true ha
  have c2 : (nmAt nm b).2.1 ≠ 0 := of_decide_eq_true hb
  have := signs (a := tt nm a) (b := tt nm b) (p := (nmAt nm a).2.1) (l := (nmAt nm a).2.2) (p' := (nmAt nm b).2.1) (l' := (nmAt nm b).2.2) (tt_lt h a) (tt_lt h b) (by lia) (by lia) (by lia) (by lia)
  rw [tt_cast h, tt_cast h] at this
  exact this
noncomputable def leftB (nm : Nm) (n m : Nat) : Bool := decide (0 < cr (pp nm n) (pp nm m))
noncomputable def lineB (nm : Nm) (n m : Nat) : Bool := decide (m ≠ n) && decide (cr (pp nm n) (pp nm m) = 0)
noncomputable def leftL (nm : Nm) (N n : Nat) : List Nat := (idxOf nm N).filter (leftB nm n)
noncomputable def lineL (nm : Nm) (N n : Nat) : List Nat := (idxOf nm N).filter (lineB nm n)
noncomputable def ownL' (nm : Nm) (N n : Nat) : List Nat := (lineL nm N n).filter (fun m => sdB (pp nm n) (pp nm m))
noncomputable def behB (nm : Nm) (N m n : Nat) : Bool := (leftL nm N n).contains m || ((ownL' nm N n).contains m && decide (n < m))
noncomputable def behL (nm : Nm) (N m : Nat) : List Nat := (idxOf nm N).filter (behB nm N m)
theorem place_arith {i q n m a b : Nat} {z : Int} {w : Bool} (s1 : 0 < z ↔ (a < b ∧ b < a + 32) ∨ b + 32 < a) (s2 : z = 0 ↔ a = b ∨ b = a + 32 ∨ a = b + 32) (s3 : a = b → w = true) (s4 : b = a + 32 ∨ a = b + 32 → w = false)
    (b1 : a < 64) (b2 : b < 64) (o1 : i < q → a < b ∨ (a = b ∧ n < m)) (o2 : q < i → b < a ∨ (b = a ∧ m < n)) (o3 : q = i → n = m ∧ a = b) (o4 : n = m → a = b) :
    bi (decide (0 < z)) + bi (decide (m ≠ n) && decide (z = 0) && w && decide (n < m)) = bi (if i < q then decide (b < a + 32) else if q < i then decide (b + 32 < a) else false) ∧
    bi (decide (m ≠ n) && decide (z = 0)) - bi (decide (m ≠ n) && decide (z = 0) && w) = bi (decide (b = a + 32 ∨ b + 32 = a)) := by
  have fin : ∀ {p e k w' r o : Bool}, decide (0 < z) = p → decide (m ≠ n) = e → decide (z = 0) = k → w = w' → decide (n < m) = r → decide (b = a + 32 ∨ b + 32 = a) = o → ∀ {x : Bool}, (if i < q then decide (b < a + 32) else if q < i then decide (b + 32 < a) else false) = x →
      (bi p + bi (e && k && w' && r) = bi x ∧ bi (e && k) - bi (e && k && w') = bi o) →
      bi (decide (0 < z)) + bi (decide (m ≠ n) && decide (z = 0) && w && decide (n < m)) = bi (if i < q then decide (b < a + 32) else if q < i then decide (b + 32 < a) else false) ∧
      bi (decide (m ≠ n) && decide (z = 0)) - bi (decide (m ≠ n) && decide (z = 0) && w) = bi (decide (b = a + 32 ∨ b + 32 = a)) := by
    intro p e k w' r o h1 h2 h3 h4 h5 h6 x h7 h
    rw [h1, h2, h3, h4, h5, h6, h7]
    exact h
  have T : ∀ {p : Prop} [Decidable p], p → decide p = true := fun h => decide_eq_true h
  have N : ∀ {p : Prop} [Decidable p], ¬ p → decide p = false := fun h => decide_eq_false h
  by_cases c1 : i < q
  · have o1 := o1 c1
    have le : a ≤ b := by clear s1 s2 o2 o3 o4 fin; lia
    have ne : m ≠ n := fun e => by have := o4 e.symm; clear s1 s2 o2 o3 o4 fin; lia
    rcases sgn_forth s1 s2 le b2 with ⟨z1, z2, z3⟩ | ⟨z1, z2 | z2⟩ | ⟨z1, z2⟩ <;> clear s1 s2 o2 o3 o4
    · exact fin (T z1) (T ne) (N (by lia)) rfl rfl (N (by clear fin o1; lia)) ((if_pos c1).trans (T z3)) (by cases w <;> cases decide (n < m) <;> exact ⟨rfl, rfl⟩)
    · exact fin (N (by lia)) (T ne) (T z1) (s3 z2) (T (by clear fin; lia)) (N (by clear fin o1; lia)) ((if_pos c1).trans (T (by lia))) ⟨rfl, rfl⟩
    · exact fin (N (by lia)) (T ne) (T z1) (s4 (.inl z2)) rfl (T (.inl z2)) ((if_pos c1).trans (N (by lia))) (by cases decide (n < m) <;> exact ⟨rfl, rfl⟩)
    · exact fin (N (by lia)) (T ne) (N (by lia)) rfl rfl (N (by clear fin o1; lia)) ((if_pos c1).trans (N (by lia))) (by cases w <;> cases decide (n < m) <;> exact ⟨rfl, rfl⟩)
  · by_cases c2 : q < i
    · have o2 := o2 c2
      have le : b ≤ a := by clear s1 s2 o1 o3 o4 fin; lia
      have ne : m ≠ n := fun e => by have := o4 e.symm; clear s1 s2 o1 o3 o4 fin; lia
      have pos : ∀ {x : Bool}, decide (b + 32 < a) = x → (if i < q then decide (b < a + 32) else if q < i then decide (b + 32 < a) else false) = x := fun h => by rw [if_neg c1, if_pos c2, h]
      rcases sgn_back s1 s2 le b1 with ⟨z1, z2, z3⟩ | ⟨z1, z2 | z2⟩ | ⟨z1, z2⟩ <;> clear s1 s2 o1 o3 o4
      · exact fin (N (by lia)) (T ne) (N (by lia)) rfl rfl (N (by clear fin o2 pos; lia)) (pos (N (by lia))) (by cases w <;> cases decide (n < m) <;> exact ⟨rfl, rfl⟩)
      · exact fin (N (by lia)) (T ne) (T z1) (s3 z2) (N (by clear fin pos; lia)) (N (by clear fin o2 pos; lia)) (pos (N (by lia))) ⟨rfl, rfl⟩
      · exact fin (N (by lia)) (T ne) (T z1) (s4 (.inr z2)) rfl (T (.inr z2.symm)) (pos (N (by lia))) (by cases decide (n < m) <;> exact ⟨rfl, rfl⟩)
      · exact fin (T z1) (T ne) (N (by lia)) rfl rfl (N (by clear fin o2 pos; lia)) (pos (T z2)) (by cases w <;> cases decide (n < m) <;> exact ⟨rfl, rfl⟩)
    · obtain ⟨e1, e2⟩ := o3 (Nat.le_antisymm (Nat.not_lt.mp c1) (Nat.not_lt.mp c2))
      have z0 := s2.mpr (.inl e2)
      have neg : (if i < q then decide (b < a + 32) else if q < i then decide (b + 32 < a) else false) = false := by rw [if_neg c1, if_neg c2]
      clear s1 s2 s3 s4 o1 o2 o3 o4 c1 c2
      exact fin (N (by lia)) (N (fun h => h e1.symm)) (T z0) rfl rfl (N (by clear fin neg; lia)) neg (by cases w <;> cases decide (n < m) <;> exact ⟨rfl, rfl⟩)
theorem place_facts (h : WF nm) {i q : Nat} (hi : i < (ordOf nm N).length) (hq : q < (ordOf nm N).length) :
    bi (leftB nm ((ordOf nm N).getD i 0) ((ordOf nm N).getD q 0)) + bi (lineB nm ((ordOf nm N).getD i 0) ((ordOf nm N).getD q 0) && sdB (pp nm ((ordOf nm N).getD i 0)) (pp nm ((ordOf nm N).getD q 0)) && decide ((ordOf nm N).getD i 0 < (ordOf nm N).getD q 0)) = bi (AA (TT nm N) i q) ∧
    bi (lineB nm ((ordOf nm N).getD i 0) ((ordOf nm N).getD q 0)) - bi (lineB nm ((ordOf nm N).getD i 0) ((ordOf nm N).getD q 0) && sdB (pp nm ((ordOf nm N).getD i 0)) (pp nm ((ordOf nm N).getD q 0))) = bi (OO (TT nm N) i q) := by
  have s := pt_signs h (ord_col hi).2 (ord_col hq).2
  exact place_arith s.pos s.zero s.same s.opp (tt_lt h _) (tt_lt h _) (fun x => ord_lex x hq) (fun x => ord_lex x hi) (fun x => by subst x; exact ⟨rfl, rfl⟩) (fun x => congrArg (tt nm) x)
theorem own_filter (n : Nat) (p : Nat → Bool) : (ownL' nm N n).filter p = (idxOf nm N).filter fun m => lineB nm n m && sdB (pp nm n) (pp nm m) && p m := by
  unfold ownL' lineL
  rw [List.filter_filter, List.filter_filter]
  apply List.filter_congr
  intro x _
  cases lineB nm n x <;> cases sdB (pp nm n) (pp nm x) <;> cases p x <;> rfl
theorem check1 (h : WF nm) {i : Nat} (hi : i < (ordOf nm N).length) : (nearOf (TT nm N) (ordOf nm N).length i : Int) - i - 1 =
    ((leftL nm N ((ordOf nm N).getD i 0)).length : Nat) + (((ownL' nm N ((ordOf nm N).getD i 0)).filter fun m => decide ((ordOf nm N).getD i 0 < m)).length : Nat) := by
  rw [ahead_eq (TT_mono h) hi, own_filter]
  unfold leftL
  rw [filter_sm (ord_inv N).2, filter_sm (ord_inv N).2, ← sm_add]
  exact sm_congr fun q hq => (place_facts h hi hq).1.symm
theorem check2 (h : WF nm) {i : Nat} (hi : i < (ordOf nm N).length) : (farOf (TT nm N) (ordOf nm N).length i : Int) - nearOf (TT nm N) (ordOf nm N).length i =
    ((lineL nm N ((ordOf nm N).getD i 0)).length : Nat) - ((ownL' nm N ((ordOf nm N).getD i 0)).length : Nat) := by
  have e : ownL' nm N ((ordOf nm N).getD i 0) = (idxOf nm N).filter fun m => lineB nm ((ordOf nm N).getD i 0) m && sdB (pp nm ((ordOf nm N).getD i 0)) (pp nm m) := by
    unfold ownL' lineL
    rw [List.filter_filter]
    apply List.filter_congr
    intro x _
    rw [Bool.and_comm]
  rw [across_eq (TT_mono h) hi, e]
  unfold lineL
  rw [filter_sm (ord_inv N).2, filter_sm (ord_inv N).2, ← sm_sub]
  exact sm_congr fun q hq => (place_facts h hi hq).2.symm
theorem contains_filter {l : List Nat} {p : Nat → Bool} {m : Nat} (h : m ∈ l) : (l.filter p).contains m = p m := by
  by_cases q : p m = true
  · rw [q, List.contains_iff_mem]; exact List.mem_filter.mpr ⟨h, q⟩
  · have q' : p m = false := by simpa using q
    rw [q', ← Bool.not_eq_true, List.contains_iff_mem]
    exact fun z => q (List.mem_filter.mp z).2
theorem behind_eq (h : WF nm) {q : Nat} (hq : q < (ordOf nm N).length) : (((behL nm N ((ordOf nm N).getD q 0)).length : Nat) : Int) = sm (ordOf nm N).length (fun i => bi (AA (TT nm N) i q)) := by
  unfold behL
  rw [filter_sm (ord_inv N).2]
  refine sm_congr fun i hi => ?_
  rw [← (place_facts h hi hq).1]
  have hm : (ordOf nm N).getD q 0 ∈ idxOf nm N := by rw [getD_get hq]; exact (ord_inv N).2.mem_iff.mp (List.getElem_mem hq)
  unfold behB
  rw [show (leftL nm N ((ordOf nm N).getD i 0)).contains ((ordOf nm N).getD q 0) = leftB nm ((ordOf nm N).getD i 0) ((ordOf nm N).getD q 0) from contains_filter hm]
  have e : ownL' nm N ((ordOf nm N).getD i 0) = (idxOf nm N).filter fun m => lineB nm ((ordOf nm N).getD i 0) m && sdB (pp nm ((ordOf nm N).getD i 0)) (pp nm m) := by
    unfold ownL' lineL
    rw [List.filter_filter]
    apply List.filter_congr
    intro x _
    rw [Bool.and_comm]
  rw [e, contains_filter hm]
  have ex : ¬ (leftB nm ((ordOf nm N).getD i 0) ((ordOf nm N).getD q 0) = true ∧ lineB nm ((ordOf nm N).getD i 0) ((ordOf nm N).getD q 0) = true) := by
    unfold leftB lineB
    simp only [Bool.and_eq_true, decide_eq_true_eq]
    omega
  cases x1 : leftB nm ((ordOf nm N).getD i 0) ((ordOf nm N).getD q 0) with
  | false => simp [bi]
  | true =>
    have : lineB nm ((ordOf nm N).getD i 0) ((ordOf nm N).getD q 0) = false := by
      cases y : lineB nm ((ordOf nm N).getD i 0) ((ordOf nm N).getD q 0) with
      | false => rfl
      | true => exact absurd ⟨x1, y⟩ ex
    rw [this]; simp [bi]
end
end
end Mine

namespace Mine
section
set_option linter.unusedVariables false
open PySem
section
variable {nm : Nm} {N : Nat}
noncomputable def ringR (nm : Nm) (N : Nat) : List (UInt64 × Int) := (ordOf nm N).map fun n => (hueF (tt nm n), ((n : Nat) : Int))
theorem ring_len : (ringR nm N).length = (ordOf nm N).length := List.length_map ..
theorem ring_at {i : Nat} (hi : i < (ordOf nm N).length) : rwAt (ringR nm N) i = (hueF (TT nm N i), (((ordOf nm N).getD i 0 : Nat) : Int)) := by
  unfold rwAt ringR TT
  simp [hi]
theorem wheel_len : (wheelOf (ringR nm N)).length = (ordOf nm N).length + (ordOf nm N).length := by
  unfold wheelOf
  rw [List.length_append, List.length_map, List.length_map, ring_len]
theorem wheel_at (h : WF nm) {j : Nat} {y : UInt64} (e : (wheelOf (ringR nm N))[j]? = some y) : j < (ordOf nm N).length + (ordOf nm N).length ∧ y = hueF (WW (TT nm N) (ordOf nm N).length j) := by
  have hj : j < (ordOf nm N).length + (ordOf nm N).length := by
    have := (List.getElem?_eq_some_iff.mp e).1
    rw [wheel_len] at this; exact this
  refine ⟨hj, ?_⟩
  unfold wheelOf ringR at e
  by_cases a : j < (ordOf nm N).length
  · rw [List.getElem?_append_left (by simp [a])] at e
    unfold WW
    rw [if_pos a]
    simp [a] at e
    rw [← e]; unfold TT; simp [a]
  · rw [List.getElem?_append_right (by simp; omega)] at e
    have b : j - (ordOf nm N).length < (ordOf nm N).length := by omega
    unfold WW
    rw [if_neg a]
    simp [b] at e
    rw [← e, hue_one (tt_lt h _)]
    unfold TT; simp [b]
theorem half_at (h : WF nm) {i : Nat} (hi : i < (ordOf nm N).length) : Float64.add (rwAt (ringR nm N) i).1 fHalf = hueF (TT nm N i + 32) := by
  rw [ring_at hi]
  exact hue_half (tt_lt h _)
theorem WW_lt (h : WF nm) {j : Nat} (hj : j < (ordOf nm N).length + (ordOf nm N).length) : WW (TT nm N) (ordOf nm N).length j < 128 := by
  unfold WW
  have := tt_lt h
  split
  · exact Nat.lt_of_lt_of_le (tt_lt h _) (by decide)
  · have : TT nm N (j - (ordOf nm N).length) < 64 := tt_lt h _
    lia
theorem hn1 (h : WF nm) {i : Nat} (hi : i < (ordOf nm N).length) {j : Nat} {y : UInt64} (hj : j < nearOf (TT nm N) (ordOf nm N).length i) (e : (wheelOf (ringR nm N))[j]? = some y) : (Float64.cmp y (Float64.add (rwAt (ringR nm N) i).1 fHalf) == some Ordering.lt) = true := by
  obtain ⟨a, rfl⟩ := wheel_at h e
  have b : TT nm N i < 64 := tt_lt h _
  rw [half_at h hi, hue_cmp (WW_lt h a) (by lia)]
  exact decide_eq_true ((near_iff (TT_mono h) a).mp hj)
theorem hn2 (h : WF nm) {i : Nat} (hi : i < (ordOf nm N).length) {j : Nat} {y : UInt64} (hj : nearOf (TT nm N) (ordOf nm N).length i ≤ j) (e : (wheelOf (ringR nm N))[j]? = some y) : (Float64.cmp y (Float64.add (rwAt (ringR nm N) i).1 fHalf) == some Ordering.lt) = false := by
  obtain ⟨a, rfl⟩ := wheel_at h e
  have b : TT nm N i < 64 := tt_lt h _
  rw [half_at h hi, hue_cmp (WW_lt h a) (by lia)]
  refine decide_eq_false fun z => ?_
  have := (near_iff (TT_mono h) a).mpr z
  lia
theorem hf1 (h : WF nm) {i : Nat} (hi : i < (ordOf nm N).length) {j : Nat} {y : UInt64} (hj : j < farOf (TT nm N) (ordOf nm N).length i) (e : (wheelOf (ringR nm N))[j]? = some y) : (Float64.cmp (Float64.add (rwAt (ringR nm N) i).1 fHalf) y == some Ordering.lt) = false := by
  obtain ⟨a, rfl⟩ := wheel_at h e
  have b : TT nm N i < 64 := tt_lt h _
  rw [half_at h hi, hue_cmp (by lia) (WW_lt h a)]
  refine decide_eq_false fun z => ?_
  have := (far_iff (TT_mono h) a).mp hj
  lia
theorem hf2 (h : WF nm) {i : Nat} (hi : i < (ordOf nm N).length) {j : Nat} {y : UInt64} (hj : farOf (TT nm N) (ordOf nm N).length i ≤ j) (e : (wheelOf (ringR nm N))[j]? = some y) : (Float64.cmp (Float64.add (rwAt (ringR nm N) i).1 fHalf) y == some Ordering.lt) = true := by
  obtain ⟨a, rfl⟩ := wheel_at h e
  have b : TT nm N i < 64 := tt_lt h _
  rw [half_at h hi, hue_cmp (by lia) (WW_lt h a)]
  refine decide_eq_true ?_
  have := far_iff (TT_mono h) (i := i) a
  lia
theorem range_sum (f : Nat → Int) : ∀ c, ((List.range c).map f).sum = sm c f
  | 0 => rfl
  | c + 1 => by rw [List.range_succ, List.map_append, List.sum_append, range_sum f c]; simp [sm]
theorem key_at {i j : Nat} (hc : 0 < (ordOf nm N).length) : tabKey (ringR nm N) i j = (((ordOf nm N).getD ((i + 1 + j) % (ordOf nm N).length) 0 : Nat) : Int) := by
  unfold tabKey
  rw [ring_len, ring_at (Nat.mod_lt _ hc)]
noncomputable def tabR (nm : Nm) (N i : Nat) : List (Int × Int) := (List.range (nearOf (TT nm N) (ordOf nm N).length i - (i + 1))).map fun j => (tabKey (ringR nm N) i j, 1)
theorem mod_at {c i j : Nat} (hi : i < c) (hj : j < c) : (i + 1 + j) % c = if i + 1 + j < c then i + 1 + j else i + 1 + j - c := by
  split
  · exact Nat.mod_eq_of_lt (by omega)
  · rw [Nat.mod_eq_sub_mod (by omega)]
    exact Nat.mod_eq_of_lt (by omega)
theorem ord_inj {a b : Nat} (ha : a < (ordOf nm N).length) (hb : b < (ordOf nm N).length) (e : (ordOf nm N).getD a 0 = (ordOf nm N).getD b 0) : a = b := by
  rcases Nat.lt_trichotomy a b with q | q | q
  · have := ord_lex q hb; rw [e] at this; unfold lex at this; lia
  · exact q
  · have := ord_lex q ha; rw [e] at this; unfold lex at this; lia
theorem tab_keys (h : WF nm) {i : Nat} (hi : i < (ordOf nm N).length) : ((tabR nm N i).map Prod.fst).Nodup := by
  unfold tabR
  rw [List.map_map]
  have hn := near_lt (TT_mono h) hi
  unfold List.Nodup
  rw [List.pairwise_iff_getElem]
  intro a b ha hb hab e
  simp at ha hb
  simp only [List.getElem_map, List.getElem_range, Function.comp] at e
  rw [key_at (by omega), key_at (by omega)] at e
  have e2 := ord_inj (Nat.mod_lt _ (by omega)) (Nat.mod_lt _ (by omega)) (Int.ofNat.inj e)
  rw [mod_at hi (by omega), mod_at hi (by omega)] at e2
  split at e2 <;> split at e2 <;> omega
theorem tab_eq (h : WF nm) {i : Nat} (hi : i < (ordOf nm N).length) : tabOf (ringR nm N) i (nearOf (TT nm N) (ordOf nm N).length i) = tabR nm N i := by
  have := put_same (tabR nm N i) [] (by simpa using tab_keys h hi)
  rw [List.nil_append] at this
  rw [← this]
  unfold tabOf tabR
  rw [List.foldl_map]
  rfl
theorem tab_good (h : WF nm) {i : Nat} (hi : i < (ordOf nm N).length) : GoodT (tabR nm N i) := ⟨tab_keys h hi, fun q hq => by
  unfold tabR at hq
  obtain ⟨j, _, rfl⟩ := List.mem_map.mp hq
  exact Int.zero_lt_one⟩
theorem ones_lookup (ks : List Int) (x : Int) : lk (ks.map fun k => (k, 1)) x = if x ∈ ks then 1 else 0 := by
  unfold lk
  induction ks with
  | nil => rfl
  | cons k ks ih =>
    rw [List.map_cons, List.lookup_cons]
    by_cases e : x = k
    · subst e; simp
    · have : (x == k) = false := by simpa using e
      rw [this]
      simp only [List.mem_cons, e, false_or]
      exact ih
theorem tab_lk (h : WF nm) {i : Nat} (hi : i < (ordOf nm N).length) (x : Int) : lk (tabR nm N i) x = if x ∈ (List.range (nearOf (TT nm N) (ordOf nm N).length i - (i + 1))).map (tabKey (ringR nm N) i) then 1 else 0 := by
  rw [← ones_lookup, List.map_map]; rfl
theorem tab_lk_at (h : WF nm) {i q : Nat} (hi : i < (ordOf nm N).length) (hq : q < (ordOf nm N).length) : lk (tabR nm N i) (((ordOf nm N).getD q 0 : Nat) : Int) = bi (AA (TT nm N) i q) := by
  rw [tab_lk h hi]
  have M := TT_mono (N := N) h
  have hn := near_lt M hi
  have g1 := near_gt M hi
  have key : (((ordOf nm N).getD q 0 : Nat) : Int) ∈ (List.range (nearOf (TT nm N) (ordOf nm N).length i - (i + 1))).map (tabKey (ringR nm N) i) ↔ AA (TT nm N) i q = true := by
    rw [List.mem_map]
    have w1 := near_iff M (i := i) (j := q) (by omega)
    have w2 := near_iff M (i := i) (j := q + (ordOf nm N).length) (by omega)
    have e1 : WW (TT nm N) (ordOf nm N).length q = TT nm N q := if_pos hq
    have e2 : WW (TT nm N) (ordOf nm N).length (q + (ordOf nm N).length) = TT nm N q + 64 := by unfold WW; rw [if_neg (by omega)]; rw [Nat.add_sub_cancel]
    rw [e1] at w1
    rw [e2] at w2
    constructor
    · rintro ⟨j, hj, e⟩
      rw [List.mem_range] at hj
      rw [key_at (by omega)] at e
      have e3 := ord_inj (Nat.mod_lt _ (by omega)) hq (Int.ofNat.inj e)
      rw [mod_at hi (by omega)] at e3
      unfold AA
      split at e3
      · rw [if_pos (by omega)]
        exact decide_eq_true (w1.mp (by omega))
      · rw [if_neg (by omega), if_pos (by omega)]
        have := w2.mp (by omega)
        exact decide_eq_true (by omega)
    · intro a
      unfold AA at a
      by_cases c1 : i < q
      · rw [if_pos c1] at a
        have := w1.mpr (of_decide_eq_true a)
        refine ⟨q - (i + 1), List.mem_range.mpr (by omega), ?_⟩
        rw [key_at (by omega), mod_at hi (by omega), if_pos (by omega), show i + 1 + (q - (i + 1)) = q by omega]
      · rw [if_neg c1] at a
        by_cases c2 : q < i
        · rw [if_pos c2] at a
          have a := of_decide_eq_true a
          have := w2.mpr (by omega)
          refine ⟨q + (ordOf nm N).length - (i + 1), List.mem_range.mpr (by omega), ?_⟩
          rw [key_at (by omega), mod_at hi (by omega), if_neg (by omega), show i + 1 + (q + (ordOf nm N).length - (i + 1)) - (ordOf nm N).length = q by omega]
        · rw [if_neg c2] at a; cases a
  unfold bi
  by_cases a : AA (TT nm N) i q = true
  · rw [if_pos a, if_pos (key.mpr a)]
  · rw [if_neg a, if_neg fun z => a (key.mp z)]
theorem tab_lk_off (h : WF nm) {i : Nat} (hi : i < (ordOf nm N).length) {x : Int} (hx : x ∉ (ordOf nm N).map fun n => ((n : Nat) : Int)) : lk (tabR nm N i) x = 0 := by
  rw [tab_lk h hi, if_neg]
  intro z
  obtain ⟨j, _, e⟩ := List.mem_map.mp z
  rw [key_at (by lia)] at e
  apply hx
  rw [← e, getD_get (Nat.mod_lt _ (by lia))]
  exact List.mem_map.mpr ⟨_, List.getElem_mem _, rfl⟩
theorem tab_sumV (h : WF nm) {i : Nat} (hi : i < (ordOf nm N).length) : sumV (tabR nm N i) = (nearOf (TT nm N) (ordOf nm N).length i : Int) - i - 1 := by
  unfold sumV tabR
  rw [List.map_map, range_sum]
  have g1 := near_gt (TT_mono (N := N) h) hi
  rw [show sm (nearOf (TT nm N) (ordOf nm N).length i - (i + 1)) (Prod.snd ∘ fun j => (tabKey (ringR nm N) i j, (1 : Int))) = sm (nearOf (TT nm N) (ordOf nm N).length i - (i + 1)) (fun _ => 1) from rfl, sm_one]
  lia
noncomputable def entR (nm : Nm) (N i : Nat) : Ent := entOf (ringR nm N) (nearOf (TT nm N) (ordOf nm N).length) (farOf (TT nm N) (ordOf nm N).length) i
noncomputable def entsR (nm : Nm) (N : Nat) : List Ent := (List.range (ordOf nm N).length).map (entR nm N)
theorem ent_t (h : WF nm) {i : Nat} (hi : i < (ordOf nm N).length) : (entR nm N i).t = tabR nm N i := tab_eq h hi
theorem ent_b (h : WF nm) {i : Nat} (hi : i < (ordOf nm N).length) : (entR nm N i).b = sm (ordOf nm N).length (fun q => bi (AA (TT nm N) i q)) := ahead_eq (TT_mono h) hi
theorem ent_d (h : WF nm) {i : Nat} (hi : i < (ordOf nm N).length) : (entR nm N i).d = sm (ordOf nm N).length (fun q => bi (OO (TT nm N) i q)) := across_eq (TT_mono h) hi
theorem ent_c (h : WF nm) {i : Nat} (hi : i < (ordOf nm N).length) : (entR nm N i).c = Int.fdiv (sm (ordOf nm N).length (fun q => bi (AA (TT nm N) i q)) * (sm (ordOf nm N).length (fun q => bi (AA (TT nm N) i q)) - 1)) 2 := by
  rw [← ahead_eq (TT_mono h) hi]; rfl
theorem tot_a (nm : Nm) (N : Nat) : (Ent.sum (entsR nm N)).a = (ordOf nm N).length := by
  unfold Ent.sum
  rw [(sum_abcd _ _).1]
  unfold entsR
  rw [List.map_map, range_sum, show sm (ordOf nm N).length (Ent.a ∘ entR nm N) = sm (ordOf nm N).length (fun _ => 1) from rfl, sm_one]
  show (0 : Int) + _ = _
  lia
theorem tot_b (h : WF nm) : (Ent.sum (entsR nm N)).b = sm (ordOf nm N).length (fun i => sm (ordOf nm N).length (fun q => bi (AA (TT nm N) i q))) := by
  unfold Ent.sum
  rw [(sum_abcd _ _).2.1]
  unfold entsR
  rw [List.map_map, range_sum]
  show (0 : Int) + _ = _
  rw [Int.zero_add]
  exact sm_congr fun i hi => ent_b h hi
theorem tot_c (h : WF nm) : (Ent.sum (entsR nm N)).c = sm3 (ordOf nm N).length (fun i j k => bi (FF (TT nm N) i j k)) := by
  unfold Ent.sum
  rw [(sum_abcd _ _).2.2.1]
  unfold entsR
  rw [List.map_map, range_sum]
  show (0 : Int) + _ = _
  rw [Int.zero_add, ← pairs_total (TT_mono h)]
  exact sm_congr fun i hi => ent_c h hi
theorem tot_d (h : WF nm) : (Ent.sum (entsR nm N)).d = sm (ordOf nm N).length (fun i => sm (ordOf nm N).length (fun q => bi (OO (TT nm N) i q))) := by
  unfold Ent.sum
  rw [(sum_abcd _ _).2.2.2]
  unfold entsR
  rw [List.map_map, range_sum]
  show (0 : Int) + _ = _
  rw [Int.zero_add]
  exact sm_congr fun i hi => ent_d h hi
theorem law_ahead (h : WF nm) : (Ent.sum (entsR nm N)).b = Int.fdiv (((ordOf nm N).length : Int) * ((ordOf nm N).length - 1)) 2 - Int.fdiv (Ent.sum (entsR nm N)).d 2 := by
  rw [tot_b h, tot_d h]; exact ahead_total (TT_mono h)
theorem law_calls (h : WF nm) : sumV (Ent.sum (entsR nm N)).t = (Ent.sum (entsR nm N)).b := by
  have := (sumV_sum (entsR nm N) (t := Ent.zero) (by simp [Ent.zero])).1
  show sumV ((entsR nm N).foldl Ent.add Ent.zero).t = _
  rw [this, tot_b h]
  unfold entsR
  rw [List.map_map, range_sum]
  show (0 : Int) + _ = _
  rw [Int.zero_add]
  refine sm_congr fun i hi => ?_
  show sumV (entR nm N i).t = _
  rw [ent_t h hi, tab_sumV h hi, ahead_eq (TT_mono h) hi]
theorem cntK_sm (pts : List (Int × Int)) (i j : Nat) : ∀ k, ((cntK pts i j k : Nat) : Int) = sm k (fun k => bi (greyB (ptAt pts i) (ptAt pts j) (ptAt pts k)))
  | 0 => rfl
  | k + 1 => by
    have := cntK_sm pts i j k
    simp only [cntK, sm]
    rw [← this]
    unfold bi
    split <;> lia
theorem cntJ_sm (pts : List (Int × Int)) (i : Nat) : ∀ j, ((cntJ pts i j : Nat) : Int) = sm j (fun j => sm j (fun k => bi (greyB (ptAt pts i) (ptAt pts j) (ptAt pts k))))
  | 0 => rfl
  | j + 1 => by
    have := cntJ_sm pts i j
    simp only [cntJ, sm]
    rw [← this, ← cntK_sm]
    lia
theorem cntI_sm (pts : List (Int × Int)) : ∀ i, ((cntI pts i : Nat) : Int) = sm3 i (fun i j k => bi (greyB (ptAt pts i) (ptAt pts j) (ptAt pts k)))
  | 0 => rfl
  | i + 1 => by
    have := cntI_sm pts i
    unfold sm3 at *
    simp only [cntI, sm]
    rw [← this, ← cntJ_sm]
    lia
theorem law_tri (h : WF nm) (hc : (ordOf nm N).length ≤ 8) : Int.fdiv (((ordOf nm N).length : Int) * ((ordOf nm N).length - 1) * ((ordOf nm N).length - 2)) 6 - (Ent.sum (entsR nm N)).c = ((cntI ((ordOf nm N).map (pp nm)) (ordOf nm N).length : Nat) : Int) := by
  rw [cntI_sm, tot_c h, ← all_triples hc]
  have key : sm3 (ordOf nm N).length (fun i j k => bi (greyB (ptAt ((ordOf nm N).map (pp nm)) i) (ptAt ((ordOf nm N).map (pp nm)) j) (ptAt ((ordOf nm N).map (pp nm)) k)) + bi (FF (TT nm N) i j k)) = sm3 (ordOf nm N).length (fun _ _ _ => 1) := by
    refine sm3_congr fun i j k hi hj hk => ?_
    have M := TT_mono (N := N) h
    have pa : ∀ q, q < (ordOf nm N).length → ptAt ((ordOf nm N).map (pp nm)) q = pp nm ((ordOf nm N).getD q 0) := fun q hq => by unfold ptAt; simp [hq]
    rw [pa i hi, pa j (by lia), pa k (by lia)]
    have ci := (ord_col hi).2
    have cj := (ord_col (nm := nm) (N := N) (q := j) (by lia)).2
    have ck := (ord_col (nm := nm) (N := N) (q := k) (by lia)).2
    have := grey_eq (pt_signs h ci cj) (pt_signs h cj ck) (pt_signs h ck ci) (pt_signs h ci ck) (M.m k j (by lia) (by lia)) (M.m j i (by lia) hi) (tt_lt h _)
    rw [this]
    show bi (!(FF (TT nm N) i j k)) + bi (FF (TT nm N) i j k) = 1
    cases FF (TT nm N) i j k <;> rfl
  rw [sm3_add] at key
  lia
noncomputable def behD (nm : Nm) (N : Nat) : List (Int × Int) := ((idxOf nm N).filter fun m => decide (0 < (behL nm N m).length)).map fun m => (((m : Nat) : Int), (((behL nm N m).length : Nat) : Int))
theorem map_lookup (l : List Nat) (f : Nat → Int) (hn : l.Nodup) (m : Nat) : (l.map fun m => (((m : Nat) : Int), f m)).lookup ((m : Nat) : Int) = if m ∈ l then some (f m) else none := by
  induction l with
  | nil => rfl
  | cons a l ih =>
    rw [List.nodup_cons] at hn
    rw [List.map_cons, List.lookup_cons]
    by_cases e : m = a
    · subst e; simp
    · have : (((m : Nat) : Int) == ((a : Nat) : Int)) = false := by simp; lia
      rw [this]
      simp only [List.mem_cons, e, false_or]
      exact ih hn.2
theorem law_table (h : WF nm) : (Ent.sum (entsR nm N)).t.length = (behD nm N).length ∧ ∀ q ∈ (Ent.sum (entsR nm N)).t, (behD nm N).lookup q.1 = some q.2 := by
  have c1 := Ent.sum_cnt (entsR nm N) fun e he => by
    unfold entsR at he
    obtain ⟨i, hi, rfl⟩ := List.mem_map.mp he
    rw [ent_t h (List.mem_range.mp hi)]
    exact tab_good h (List.mem_range.mp hi)
  refine c1.same ⟨?_, fun x => ?_⟩
  · unfold behD
    rw [List.map_map]
    have nd : ((idxOf nm N).filter fun m => decide (0 < (behL nm N m).length)).Nodup := List.Pairwise.filter _ (idx_nodup N)
    unfold List.Nodup
    rw [List.pairwise_map]
    exact List.Pairwise.imp (fun hab e => hab (Int.ofNat.inj e)) nd
  · have fe : ((entsR nm N).map fun e => lk e.t x).sum = sm (ordOf nm N).length (fun i => lk (tabR nm N i) x) := by
      unfold entsR
      rw [List.map_map, range_sum]
      exact sm_congr fun i hi => by show lk (entR nm N i).t x = _; rw [ent_t h hi]
    rw [fe]
    by_cases hx : x ∈ (ordOf nm N).map fun n => ((n : Nat) : Int)
    · obtain ⟨n, hn, rfl⟩ := List.mem_map.mp hx
      obtain ⟨q, hq, rfl⟩ := List.mem_iff_getElem.mp hn
      rw [← getD_get hq]
      have e1 : sm (ordOf nm N).length (fun i => lk (tabR nm N i) (((ordOf nm N).getD q 0 : Nat) : Int)) = (((behL nm N ((ordOf nm N).getD q 0)).length : Nat) : Int) := by
        rw [behind_eq h hq]
        exact sm_congr fun i hi => tab_lk_at h hi hq
      rw [e1]
      unfold behD
      rw [map_lookup _ (fun m => (((behL nm N m).length : Nat) : Int)) (List.Pairwise.filter _ (idx_nodup N))]
      have hm : (ordOf nm N).getD q 0 ∈ idxOf nm N := by rw [getD_get hq]; exact (ord_inv N).2.mem_iff.mp (List.getElem_mem hq)
      by_cases z : (behL nm N ((ordOf nm N).getD q 0)).length = 0
      · rw [if_neg fun y => ?_, if_pos (by lia)]
        have := of_decide_eq_true (List.mem_filter.mp y).2
        lia
      · rw [if_pos (List.mem_filter.mpr ⟨hm, decide_eq_true (by lia)⟩), if_neg (by lia)]
    · have e1 : sm (ordOf nm N).length (fun i => lk (tabR nm N i) x) = 0 := (sm_congr fun i hi => tab_lk_off h hi hx).trans (sm_zero _)
      rw [e1, if_pos rfl, lookup_none_iff]
      unfold behD
      rw [List.map_map]
      intro z
      obtain ⟨m, hm, rfl⟩ := List.mem_map.mp z
      exact hx (List.mem_map.mpr ⟨m, (ord_inv N).2.mem_iff.mpr (List.mem_filter.mp hm).1, rfl⟩)
end
end
end Mine

namespace Mine
section
set_option linter.unusedVariables false
open PySem
noncomputable def toldL (turn part level : Int) : List UInt64 :=
  if part = 0 then [0, Float64.div (Float64.ofInt level) 4616189618054758400, 0]
  else [Float64.div (Float64.ofInt turn) 4634204016564240384, Float64.div (Float64.ofInt (level * (4 - part))) 4625196817309499392, Float64.div (Float64.ofInt (Int.fdiv (840 * level * part) (roomOf part level))) 4650599933957636096]
theorem told_map (t p l : Int) : toldD t p l = (toldL t p l).map .flt := by unfold toldD toldL; split <;> rfl
noncomputable def dueL (t p l : Int) : List UInt64 := (partsOf t p l).map fun one => Float64.div (Float64.ofInt one) 0x4070000000000000
noncomputable def noNan (x : UInt64) : Bool := Float64.cmp x x == some Ordering.eq
noncomputable def colOk (t p l : Int) : Bool :=
  hOk (Float64.div (Float64.ofInt t) 0x4050000000000000) &&
  (hsvF (Float64.div (Float64.ofInt t) 0x4050000000000000) (Float64.div (Float64.ofInt p) 0x4000000000000000) (Float64.div (Float64.ofInt l) 0x4010000000000000) == dueL t p l) &&
  (match dueL t p l with
   | [r, g, b] => hlsOk r g b && (hlsF r g b == toldL t p l) && noNan r && noNan g && noNan b
   | _ => false) && (toldL t p l).all noNan
noncomputable def colsOk (t : Int) : Bool := [0, 1, 2].all fun p => [1, 2, 3, 4].all fun l => colOk t p l
theorem cc_0 : colsOk 0 = true := by decide +kernel
theorem cc_1 : colsOk 1 = true := by decide +kernel
theorem cc_2 : colsOk 2 = true := by decide +kernel
theorem cc_3 : colsOk 3 = true := by decide +kernel
theorem cc_4 : colsOk 4 = true := by decide +kernel
theorem cc_5 : colsOk 5 = true := by decide +kernel
theorem cc_6 : colsOk 6 = true := by decide +kernel
theorem cc_7 : colsOk 7 = true := by decide +kernel
theorem cc_8 : colsOk 8 = true := by decide +kernel
theorem cc_9 : colsOk 9 = true := by decide +kernel
theorem cc_10 : colsOk 10 = true := by decide +kernel
theorem cc_11 : colsOk 11 = true := by decide +kernel
theorem cc_12 : colsOk 12 = true := by decide +kernel
theorem cc_13 : colsOk 13 = true := by decide +kernel
theorem cc_14 : colsOk 14 = true := by decide +kernel
theorem cc_15 : colsOk 15 = true := by decide +kernel
theorem cc_16 : colsOk 16 = true := by decide +kernel
theorem cc_17 : colsOk 17 = true := by decide +kernel
theorem cc_18 : colsOk 18 = true := by decide +kernel
theorem cc_19 : colsOk 19 = true := by decide +kernel
theorem cc_20 : colsOk 20 = true := by decide +kernel
theorem cc_21 : colsOk 21 = true := by decide +kernel
theorem cc_22 : colsOk 22 = true := by decide +kernel
theorem cc_23 : colsOk 23 = true := by decide +kernel
theorem cc_24 : colsOk 24 = true := by decide +kernel
theorem cc_25 : colsOk 25 = true := by decide +kernel
theorem cc_26 : colsOk 26 = true := by decide +kernel
theorem cc_27 : colsOk 27 = true := by decide +kernel
theorem cc_28 : colsOk 28 = true := by decide +kernel
theorem cc_29 : colsOk 29 = true := by decide +kernel
theorem cc_30 : colsOk 30 = true := by decide +kernel
theorem cc_31 : colsOk 31 = true := by decide +kernel
theorem cc_32 : colsOk 32 = true := by decide +kernel
theorem cc_33 : colsOk 33 = true := by decide +kernel
theorem cc_34 : colsOk 34 = true := by decide +kernel
theorem cc_35 : colsOk 35 = true := by decide +kernel
theorem cc_36 : colsOk 36 = true := by decide +kernel
theorem cc_37 : colsOk 37 = true := by decide +kernel
theorem cc_38 : colsOk 38 = true := by decide +kernel
theorem cc_39 : colsOk 39 = true := by decide +kernel
theorem cc_40 : colsOk 40 = true := by decide +kernel
theorem cc_41 : colsOk 41 = true := by decide +kernel
theorem cc_42 : colsOk 42 = true := by decide +kernel
theorem cc_43 : colsOk 43 = true := by decide +kernel
theorem cc_44 : colsOk 44 = true := by decide +kernel
theorem cc_45 : colsOk 45 = true := by decide +kernel
theorem cc_46 : colsOk 46 = true := by decide +kernel
theorem cc_47 : colsOk 47 = true := by decide +kernel
theorem cc_48 : colsOk 48 = true := by decide +kernel
theorem cc_49 : colsOk 49 = true := by decide +kernel
theorem cc_50 : colsOk 50 = true := by decide +kernel
theorem cc_51 : colsOk 51 = true := by decide +kernel
theorem cc_52 : colsOk 52 = true := by decide +kernel
theorem cc_53 : colsOk 53 = true := by decide +kernel
theorem cc_54 : colsOk 54 = true := by decide +kernel
theorem cc_55 : colsOk 55 = true := by decide +kernel
theorem cc_56 : colsOk 56 = true := by decide +kernel
theorem cc_57 : colsOk 57 = true := by decide +kernel
theorem cc_58 : colsOk 58 = true := by decide +kernel
theorem cc_59 : colsOk 59 = true := by decide +kernel
theorem cc_60 : colsOk 60 = true := by decide +kernel
theorem cc_61 : colsOk 61 = true := by decide +kernel
theorem cc_62 : colsOk 62 = true := by decide +kernel
theorem cc_63 : colsOk 63 = true := by decide +kernel
theorem cols_of : ∀ (n : Nat), n < 64 → colsOk n = true
  | 0, _ => cc_0
  | 1, _ => cc_1
  | 2, _ => cc_2
  | 3, _ => cc_3
  | 4, _ => cc_4
  | 5, _ => cc_5
  | 6, _ => cc_6
  | 7, _ => cc_7
  | 8, _ => cc_8
  | 9, _ => cc_9
  | 10, _ => cc_10
  | 11, _ => cc_11
  | 12, _ => cc_12
  | 13, _ => cc_13
  | 14, _ => cc_14
  | 15, _ => cc_15
  | 16, _ => cc_16
  | 17, _ => cc_17
  | 18, _ => cc_18
  | 19, _ => cc_19
  | 20, _ => cc_20
  | 21, _ => cc_21
  | 22, _ => cc_22
  | 23, _ => cc_23
  | 24, _ => cc_24
  | 25, _ => cc_25
  | 26, _ => cc_26
  | 27, _ => cc_27
  | 28, _ => cc_28
  | 29, _ => cc_29
  | 30, _ => cc_30
  | 31, _ => cc_31
  | 32, _ => cc_32
  | 33, _ => cc_33
  | 34, _ => cc_34
  | 35, _ => cc_35
  | 36, _ => cc_36
  | 37, _ => cc_37
  | 38, _ => cc_38
  | 39, _ => cc_39
  | 40, _ => cc_40
  | 41, _ => cc_41
  | 42, _ => cc_42
  | 43, _ => cc_43
  | 44, _ => cc_44
  | 45, _ => cc_45
  | 46, _ => cc_46
  | 47, _ => cc_47
  | 48, _ => cc_48
  | 49, _ => cc_49
  | 50, _ => cc_50
  | 51, _ => cc_51
  | 52, _ => cc_52
  | 53, _ => cc_53
  | 54, _ => cc_54
  | 55, _ => cc_55
  | 56, _ => cc_56
  | 57, _ => cc_57
  | 58, _ => cc_58
  | 59, _ => cc_59
  | 60, _ => cc_60
  | 61, _ => cc_61
  | 62, _ => cc_62
  | 63, _ => cc_63
  | n + 64, h => absurd h (by lia)
end
end Mine

namespace Mine
section
set_option linter.unusedVariables false
open PySem
theorem col_all {t p l : Int} (ht : 0 ≤ t ∧ t < 64) (hp : 0 ≤ p ∧ p < 3) (hl : 1 ≤ l ∧ l ≤ 4) : colOk t p l = true := by
  have h := cols_of t.toNat (by lia)
  rw [Int.toNat_of_nonneg ht.1] at h
  have hp' : p ∈ ([0, 1, 2] : List Int) := by
    have : p = 0 ∨ p = 1 ∨ p = 2 := by lia
    rcases this with rfl | rfl | rfl <;> simp
  have hl' : l ∈ ([1, 2, 3, 4] : List Int) := by
    have : l = 1 ∨ l = 2 ∨ l = 3 ∨ l = 4 := by lia
    rcases this with rfl | rfl | rfl | rfl <;> simp
  exact List.all_eq_true.mp (List.all_eq_true.mp h p hp') l hl'
theorem sat_ok : ([1, 2].all fun p => [1, 2, 3, 4].all fun l => (Float64.cmp ((toldL 0 p l).getD 2 0) 0 == some Ordering.gt)) = true := by decide +kernel
theorem sat_gt {t p l : Int} (hp : 0 ≤ p ∧ p < 3) (hl : 1 ≤ l ∧ l ≤ 4) : (Float64.cmp ((toldL t p l).getD 2 0) 0 == some Ordering.gt) = decide (p ≠ 0) := by
  by_cases h : p = 0
  · subst h
    have e : (toldL t 0 l).getD 2 0 = 0 := by unfold toldL; rw [if_pos rfl]; simp only [List.getD_cons_succ, List.getD_cons_zero]
    rw [e]; decide +kernel
  · have hp' : p ∈ ([1, 2] : List Int) := by
      have : p = 1 ∨ p = 2 := by lia
      rcases this with rfl | rfl <;> simp
    have hl' : l ∈ ([1, 2, 3, 4] : List Int) := by
      have : l = 1 ∨ l = 2 ∨ l = 3 ∨ l = 4 := by lia
      rcases this with rfl | rfl | rfl | rfl <;> simp
    have k := List.all_eq_true.mp (List.all_eq_true.mp sat_ok p hp') l hl'
    have e : (toldL t p l).getD 2 0 = (toldL 0 p l).getD 2 0 := by unfold toldL; rw [if_neg h, if_neg h]; simp only [List.getD_cons_succ, List.getD_cons_zero]
    rw [e, decide_eq_true h]; exact k
structure ColF (t p l : Int) : Prop where
  hok : hOk (Float64.div (Float64.ofInt t) 0x4050000000000000) = true
  hsv : hsvF (Float64.div (Float64.ofInt t) 0x4050000000000000) (Float64.div (Float64.ofInt p) 0x4000000000000000) (Float64.div (Float64.ofInt l) 0x4010000000000000) = dueL t p l
  hls : ∃ r g b, dueL t p l = [r, g, b] ∧ hlsOk r g b = true ∧ hlsF r g b = toldL t p l
  nn1 : ∀ x ∈ dueL t p l, (Float64.cmp x x == some Ordering.eq) = true
  nn2 : ∀ x ∈ toldL t p l, (Float64.cmp x x == some Ordering.eq) = true
theorem col_facts {t p l : Int} (ht : 0 ≤ t ∧ t < 64) (hp : 0 ≤ p ∧ p < 3) (hl : 1 ≤ l ∧ l ≤ 4) : ColF t p l := by
  have h := col_all ht hp hl
  unfold colOk at h
  simp only [Bool.and_eq_true] at h
  obtain ⟨⟨⟨h1, h2⟩, h3⟩, h4⟩ := h
  obtain ⟨r, g, b, e, h5⟩ : ∃ r g b, dueL t p l = [r, g, b] ∧ (hlsOk r g b && (hlsF r g b == toldL t p l) && noNan r && noNan g && noNan b) = true := by
    have e : dueL t p l = [Float64.div (Float64.ofInt (partOf t p l 0)) 0x4070000000000000, Float64.div (Float64.ofInt (partOf t p l 64)) 0x4070000000000000, Float64.div (Float64.ofInt (partOf t p l 128)) 0x4070000000000000] := rfl
    rw [e] at h3
    exact ⟨_, _, _, e, h3⟩
  simp only [Bool.and_eq_true] at h5
  obtain ⟨⟨⟨⟨a1, a2⟩, a3⟩, a4⟩, a5⟩ := h5
  refine ⟨h1, beq_iff_eq.mp h2, ⟨r, g, b, e, a1, beq_iff_eq.mp a2⟩, ?_, fun x hx => List.all_eq_true.mp h4 x hx⟩
  rw [e]
  intro x hx
  simp only [List.mem_cons, List.not_mem_nil, or_false] at hx
  rcases hx with rfl | rfl | rfl
  · exact a3
  · exact a4
  · exact a5
end
end Mine

namespace Mine
section
open PySem PySem.W PySem.Calls PyProof.Rows
set_option maxRecDepth 100000
set_option linter.unusedVariables false
variable {prog : Program} {w : World}
@[reducible] noncomputable def cellsW (L : Addr) : List (Str × Addr) := [("names", L + 7), ("behind", L + 6), ("own", L + 5), ("line", L + 4), ("left", L + 3), ("n", L + 2), ("points", L + 1)]
@[reducible] noncomputable def envW (L f c : Addr) : Env := { envAt 20 "law" (.ref c) L f with cells := cellsW L }
noncomputable def lawB : List Stmt := bodyOf (stmtAt 20)
noncomputable def lawR (k : Nat) : List Stmt := lawB.drop k
theorem St.perm {h₀ : Heap} {X Mu : Addr → Prop} {env : Env} {s₀ s : Shared} {l : List (Str × D)} {ml ml' : List (Addr × D)} (S : St prog w h₀ X Mu env s₀ s l ml) (hp : ml.Perm ml') : St prog w h₀ X Mu env s₀ s l ml' := { S with
  muts := fun q hq => S.muts q (hp.mem_iff.mpr hq)
  mdis := (hp.pairwise_iff (fun {a b} (h : a.1 ≠ b.1) => h.symm)).mp S.mdis }
section
variable {h₀ : Heap} {A : Around} {X X' Mu : Addr → Prop} {s₀ s : Shared} {l : List (Str × D)} {ml : List (Addr × D)} {E : Value → Shared → Prop} {mg mb : Str → Option Value} {Q : Flow → Shared → Prop} {L f c : Addr}
theorem nodup_store {α : Type} (FK : α → Int) (F : α → D) : ∀ (us : List α) (acc : List (Int × D)), ((acc.map Prod.fst) ++ us.map FK).Nodup → us.foldl (fun acc u => storedD acc (FK u) (F u)) acc = acc ++ us.map fun u => (FK u, F u)
  | [], acc, _ => by simp
  | u :: us, acc, h => by
    rw [List.foldl_cons]
    have n : ¬ (acc.any fun q => q.1 = FK u) = true := by
      intro z
      rw [List.any_eq_true] at z
      obtain ⟨q, hq, e⟩ := z
      have e : q.1 = FK u := of_decide_eq_true e
      rw [List.nodup_append] at h
      exact h.2.2 q.1 (List.mem_map.mpr ⟨q, hq, rfl⟩) (FK u) (by simp) e
    have e : storedD acc (FK u) (F u) = acc ++ [(FK u, F u)] := by
      unfold storedD
      rw [if_neg n]
    rw [e, nodup_store FK F us (acc ++ [(FK u, F u)]) (by simpa using h)]
    simp
theorem storeAll_nodup {α : Type} (FK : α → Int) (F : α → D) (us : List α) (h : (us.map FK).Nodup) : storeAll FK F us = us.map fun u => (FK u, F u) := by
  have := nodup_store FK F us [] (by simpa using h)
  simpa [storeAll] using this
noncomputable def ysOf (ns : List Int) : List Int := (ns.take 3).map (fun x => Int.fmod x 1000000) ++ [704, 277, 555, 693, 64, 389]
noncomputable def nmOf (ns : List Int) : Nm := (ysOf ns).map fun y => (Int.fmod y 64, Int.fmod (Int.fdiv y 64) 3, 1 + Int.fmod (Int.fdiv y 192) 4)
@[reducible] noncomputable def nmDs (nm : Nm) : D := .lst (nm.map nmD)
theorem cellW {x : Str} {k : Nat} (hM : ∀ c, L < c → c ≤ L + 7 → Mu c) (hk : (envW L f c).kindOf x = some .cell) (hc : (cellsW L).lookup x = some (L + k)) (h1 : 0 < k) (h7 : k ≤ 7) : (envW L f c).kindOf x = some .local ∨ ((envW L f c).kindOf x = some .cell ∧ ∃ d, (envW L f c).cells.lookup x = some d ∧ Mu d) :=
  .inr ⟨hk, L + k, hc, hM _ (Nat.lt_add_of_pos_right h1) (Nat.add_le_add_left h7 L)⟩
set_option maxHeartbeats 400000 in
theorem w_names {a : Addr} {vs : List Value} {ns : List Int} (S : St prog w h₀ X Mu (envW L f c) s₀ s l ml) (hh : A.handled = none) (hM : ∀ c, L < c → c ≤ L + 7 → Mu c) (hsc : l.lookup ("script" : Str) = some (.val (.ref a))) (hL : h₀.IsList a vs.toArray) (hi : IntsAre vs ns) (hlen : ns.length ≤ 63)
    (kk : ∀ s', St prog w h₀ X Mu (envW L f c) s₀ s' (("names", nmDs (nmOf ns)) :: l) ml → wpAny (model prog w) A (execs (lawR 1) (envW L f c)) Q E s') :
    wpAny (model prog w) A (execs (lawR 0) (envW L f c)) Q E s := by
  have hLs : s.heap.IsList a vs.toArray := let ⟨o, e, r⟩ := hL; ⟨o, S.base _ _ e, r⟩
  have hyl : (ysOf ns).length ≤ 1000 := by unfold ysOf; simp; lia
  refine x_assign (d := nmDs (nmOf ns)) S rfl (Go.cast (ev_lcomp (own := none) (cl := []) (lc := []) (us := ysOf ns) (enc := D.int) (bnd := fun y => [("y", .int y)]) (fun _ => true) (fun y => nmD (Int.fmod y 64, Int.fmod (Int.fdiv y 64) 3, 1 + Int.fmod (Int.fdiv y 192) 4)) S hh rfl (fun _ => rfl) (fun _ => rfl)
    (by decide +kernel) rfl (fun x c e => by cases e) trivial (Nat.le_trans hyl (by decide)) (fun C Dd u hu => .name (.inl rfl)) (fun u hu => trivial) (it_nm (it_lst hh (Go.cast (ev_addL (da := ((ns.take 3).filter fun _ => true).map fun x => .int (Int.fmod x 1000000)) (db := [.int 704, .int 277, .int 555, .int 693, .int 64, .int 389]) ?ia ?ib ?isz) ?ie))) (fun X' Mu' C i u s₁ ml' hX hu S' => ⟨rfl, fun _ => ?tu⟩)) ?ke) (cellW hM rfl rfl (by decide) (by decide)) rfl kk
  case ke => rw [filter_all]; unfold nmOf; rw [nmDs, List.map_map]; rfl
  case tu =>
    exact ev_tuple (evs_cons (ev_fmod (ev_v S' rfl rfl rfl rfl) ev_const_int (by decide)) (evs_cons (ev_fmod (ev_fdiv (ev_v S' rfl rfl rfl rfl) ev_const_int (by decide) (by decide)) ev_const_int (by decide)) (evs_cons (ev_add ev_const_int (ev_fmod (ev_fdiv (ev_v S' rfl rfl rfl rfl) ev_const_int (by decide) (by decide)) ev_const_int (by decide))) evs_nil rfl) rfl) rfl) rfl
  case ia =>
    exact ev_lcomp (own := none) (cl := []) (lc := []) (us := ns.take 3) (enc := D.int) (bnd := fun x => [("x", .int x)]) (fun _ => true) (fun x => .int (Int.fmod x 1000000)) S hh rfl (fun _ => rfl) (fun _ => rfl)
      (by decide +kernel) rfl (fun x c e => by cases e) trivial (Nat.le_trans (show (ns.take 3).length ≤ 1000 by simp; lia) (by decide)) (fun C Dd u hu => .name (.inl rfl)) (fun u hu => trivial)
      (it_nm (it_lst hh (ev_slice3 (ev_v S hsc rfl rfl rfl) hLs hi hlen (fun o r => rfl)))) (fun X' Mu' C i u s₁ ml' hX hu S' => ⟨rfl, fun _ => ev_fmod (ev_v S' rfl rfl rfl rfl) ev_const_int (by decide)⟩)
  case ib =>
    exact ev_list (evs_cons ev_const_int (evs_cons ev_const_int (evs_cons ev_const_int (evs_cons ev_const_int (evs_cons ev_const_int (evs_cons ev_const_int evs_nil rfl) rfl) rfl) rfl) rfl) rfl) rfl
  case isz => rw [filter_all]; simp; lia
  case ie => rw [filter_all]; unfold ysOf; rw [List.map_append, List.map_map]; rfl
end
end
end Mine

namespace Mine
section
open PySem PySem.W PySem.Calls PyProof.Rows
set_option maxRecDepth 100000
set_option linter.unusedVariables false
variable {prog : Program} {w : World}
noncomputable def ptsL (nm : Nm) (k : Nat) : List (Int × D) := (idxOf nm k).map fun n => (((n : Nat) : Int), ptD (pp nm n))
noncomputable def rowX (nm : Nm) (k : Nat) : List (UInt64 × Int) := (ordOf nm k).map fun n => (hueF (tt nm n), -((n : Nat) : Int))
noncomputable def forBodyOf : Stmt → List Stmt
  | .For _ _ body _ _ => body
  | _ => []
section
variable {nm : Nm}
theorem pts_keys (k : Nat) : (ptsL nm k).map Prod.fst = (idxOf nm k).map fun n => ((n : Nat) : Int) := by
  unfold ptsL; rw [List.map_map]; rfl
theorem pts_succ {k : Nat} (hc : col nm k = true) : storedD (ptsL nm k) ((k : Nat) : Int) (ptD (pp nm k)) = ptsL nm (k + 1) := by
  unfold storedD
  rw [if_neg, ptsL, ptsL, idx_succ, if_pos hc, List.map_append]
  · rfl
  · intro z
    rw [List.any_eq_true] at z
    obtain ⟨q, hq, e⟩ := z
    unfold ptsL at hq
    obtain ⟨n, hn, rfl⟩ := List.mem_map.mp hq
    have e : ((n : Nat) : Int) = k := of_decide_eq_true e
    have := (idx_lt hn).1
    lia
theorem pts_same {k : Nat} (hc : col nm k = false) : ptsL nm (k + 1) = ptsL nm k := by
  unfold ptsL; rw [idx_succ, if_neg (by rw [hc]; exact Bool.false_ne_true), List.append_nil]
theorem ord_same {k : Nat} (hc : col nm k = false) : ordOf nm (k + 1) = ordOf nm k := by
  rw [ordOf, if_neg (by rw [hc]; exact Bool.false_ne_true)]
theorem row_same {k : Nat} (hc : col nm k = false) : rowX nm (k + 1) = rowX nm k := by
  unfold rowX; rw [ord_same hc]
theorem row_succ {k : Nat} (hc : col nm k = true) : (rowX nm k).take (posOf nm (ordOf nm k) k) ++ (hueF (tt nm k), -((k : Nat) : Int)) :: (rowX nm k).drop (posOf nm (ordOf nm k) k) = rowX nm (k + 1) := by
  unfold rowX
  rw [ordOf, if_pos hc, ins, List.map_append, List.map_cons, List.map_take, List.map_drop]
theorem row_get {k i : Nat} {q : UInt64 × Int} (h : (rowX nm k)[i]? = some q) : i < (ordOf nm k).length ∧ q.1 = hueF (tt nm ((ordOf nm k).getD i 0)) := by
  unfold rowX at h
  rw [List.getElem?_map] at h
  cases e : (ordOf nm k)[i]? with
  | none => rw [e] at h; cases h
  | some n =>
    rw [e] at h
    cases h
    refine ⟨(List.getElem?_eq_some_iff.mp e).1, ?_⟩
    rw [List.getD_eq_getElem?_getD, e]; rfl
theorem row_h1 (h : WF nm) {k i : Nat} {q : UInt64 × Int} (hi : i < posOf nm (ordOf nm k) k) (e : (rowX nm k)[i]? = some q) : (Float64.cmp (hueF (tt nm k)) q.1 == some Ordering.lt) = false := by
  obtain ⟨hl, e⟩ := row_get e
  have a := tt_lt h k
  have b := tt_lt h ((ordOf nm k).getD i 0)
  rw [e, hue_cmp (by lia) (by lia)]
  have := (pos_iff (n := k) (ord_inv k).1 hl).mp hi
  exact decide_eq_false (by lia)
theorem row_h2 (h : WF nm) {k i : Nat} {q : UInt64 × Int} (hi : posOf nm (ordOf nm k) k ≤ i) (e : (rowX nm k)[i]? = some q) : (Float64.cmp (hueF (tt nm k)) q.1 == some Ordering.lt) = true := by
  obtain ⟨hl, e⟩ := row_get e
  have a := tt_lt h k
  have b := tt_lt h ((ordOf nm k).getD i 0)
  rw [e, hue_cmp (by lia) (by lia)]
  have := (pos_iff (n := k) (ord_inv k).1 hl)
  exact decide_eq_true (by lia)
theorem row_len (k : Nat) : (rowX nm k).length = (ordOf nm k).length := List.length_map ..
theorem ord_le (k : Nat) : (ordOf nm k).length ≤ k := by
  rw [ord_len]
  unfold idxOf
  exact Nat.le_trans (List.length_filter_le _ _) (by simp)
theorem col_dec (h : WF nm) (k : Nat) : (Float64.cmp ((toldL (nmAt nm k).1 (nmAt nm k).2.1 (nmAt nm k).2.2).getD 2 0) 0 == some Ordering.gt) = col nm k := by
  have f := nm_facts h k
  rw [sat_gt f.2.1 f.2.2]; rfl
end
theorem part_bd {t p v : Int} (ht : 0 ≤ t ∧ t < 64) (hp : 0 ≤ p ∧ p < 3) (hv : 1 ≤ v ∧ v ≤ 4) {u : Int} (hu : u ∈ partsOf t p v) : -(2 ^ 32) < u ∧ u < 2 ^ 32 := by
  have key : ∀ c, 0 ≤ c ∧ c ≤ 128 → -(2 ^ 32) < partOf t p v c ∧ partOf t p v c < 2 ^ 32 := fun c hc => by
    have fb := fall_bd ht hc
    unfold partOf
    generalize fallOf t c = F at *
    have hp' : p = 0 ∨ p = 1 ∨ p = 2 := by lia
    have hv' : v = 1 ∨ v = 2 ∨ v = 3 ∨ v = 4 := by lia
    rcases hp' with rfl | rfl | rfl <;> rcases hv' with rfl | rfl | rfl | rfl <;> lia
  unfold partsOf at hu
  simp only [List.mem_cons, List.not_mem_nil, or_false] at hu
  rcases hu with rfl | rfl | rfl
  · exact key 0 (by decide)
  · exact key 64 (by decide)
  · exact key 128 (by decide)
@[reducible] noncomputable def lA (nm : Nm) (pr pd : Addr) : List (Str × D) := [("points", .val (.ref pd)), ("row", .val (.ref pr)), ("names", nmDs nm)]
@[reducible] noncomputable def mlA (nm : Nm) (k : Nat) (pr pd : Addr) (cs : List (Nat × Nat × Str × Addr)) : List (Addr × D) := [(pd, .dct (ptsL nm k)), (pr, .lst ((rowX nm k).map rowD)), (132, .tab cs)]
noncomputable def csOk (q : Str) (cs : List (Nat × Nat × Str × Addr)) : Prop := cs = [] ∨ ∃ c', cs = [(175, 49, q ++ "<lambda>", c')]
section
variable {h₀ : Heap} {A : Around} {X X' Mu : Addr → Prop} {s₀ s : Shared} {l : List (Str × D)} {ml : List (Addr × D)} {E : Value → Shared → Prop} {mg mb : Str → Option Value} {Q : Flow → Shared → Prop} {L f c : Addr}
theorem memxs {env : Env} {xs : List Str} (h : (xs.all fun x => decide (env.kindOf x = some .local)) = true) : ∀ x ∈ xs, env.kindOf x = some .local ∨ (env.kindOf x = some .cell ∧ ∃ c, env.cells.lookup x = some c ∧ Mu c) := fun x hx => .inl (of_decide_eq_true (List.all_eq_true.mp h x hx))
set_option maxHeartbeats 1000000 in
theorem w_turn {nm : Nm} {pr pd : Addr} {cs : List (Nat × Nat × Str × Addr)} {i : Nat} (W : WF nm) (hi : i < nm.length) (hlen : nm.length ≤ 9) (S : St prog w h₀ X Mu (envW L f c) s s (("n", .int i) :: lA nm pr pd) (mlA nm i pr pd cs)) (G : Glo mg mb h₀) (R : Rm A 4) (hsm : X sysModules)
    (C : CodeHd h₀ c 132) (hb : h₀.BuiltinsAt mg 132) (hcs : csOk (envW L f c).qual cs) :
    wpAny (model prog w) A (execs (forBodyOf (lawB.getD 3 (.Pass ⟨0, 0, 0, 0⟩))) (envW L f c)) (fun fl s₂ => (fl = .next ∨ fl = .cont) ∧ ∃ l₂ ml₂, (l₂ = lA nm pr pd ∧ ∃ cs, csOk (envW L f c).qual cs ∧ ml₂ = mlA nm (i + 1) pr pd cs) ∧ St prog w h₀ X Mu (envW L f c) s s₂ l₂ ml₂) E s := by
  have hh := R.hh
  have F : FE (envW L f c) := ⟨rfl, rfl, rfl⟩
  obtain ⟨ht, hp, hl⟩ := nm_facts W i
  have cf := col_facts ht hp hl
  obtain ⟨r, g, b, hdue, hok, hls⟩ := cf.hls
  have hcol := col_dec W i
  have htt := tt_cast W i
  have hpp : ptD (pp nm i) = .tup [.int (2 * partOf (nmAt nm i).1 (nmAt nm i).2.1 (nmAt nm i).2.2 0 - partOf (nmAt nm i).1 (nmAt nm i).2.1 (nmAt nm i).2.2 64 - partOf (nmAt nm i).1 (nmAt nm i).2.1 (nmAt nm i).2.2 128), .int (partOf (nmAt nm i).1 (nmAt nm i).2.1 (nmAt nm i).2.2 64 - partOf (nmAt nm i).1 (nmAt nm i).2.1 (nmAt nm i).2.2 128)] := rfl
  have hnm : (nm.map nmD)[((i : Nat) : Int).toNat]? = some (nmD (nmAt nm i)) := by simp [nmAt, hi]
  generalize hpp2 : ptD (pp nm i) = PT at *
  generalize nmAt nm i = q at *
  obtain ⟨t, p, v⟩ := q
  simp only at ht hp hl cf hdue hok hls hcol htt hpp
  refine x_unpack ["turn", "part", "level"] (ds := [.int t, .int p, .int v]) S hh rfl ?he1 rfl (memxs (by rfl)) rfl (fun s2 S2 => ?k1) rfl rfl
  case he1 => exact ev_item_lst (ev_v S rfl rfl rfl rfl) (ev_v S rfl rfl rfl rfl) (by lia) hnm (by lia) rfl
  have S2 : St prog w h₀ X Mu (envW L f c) s s2 (("level", .int v) :: ("part", .int p) :: ("turn", .int t) :: ("n", .int i) :: lA nm pr pd) (mlA nm i pr pd cs) := S2
  refine' x_unpack ["red", "green", "blue"] (ds := [.flt r, .flt g, .flt b]) S2 hh rfl (Go.cast ?he2 ?hd2) rfl (memxs (by rfl)) rfl (fun s3 S3 => ?k2) rfl rfl
  case he2 =>
    exact ev_fn G F S2.base rfl (by rfl) (evs_cons (ev_idivf (ev_v S2 rfl rfl rfl rfl) ev_const_flt (by lia) (by lia) (by decide +kernel)) (evs_cons (ev_idivf (ev_v S2 rfl rfl rfl rfl) ev_const_flt (by lia) (by lia) (by decide +kernel)) (evs_cons (ev_idivf (ev_v S2 rfl rfl rfl rfl) ev_const_flt (by lia) (by lia) (by decide +kernel)) evs_nil rfl) rfl) rfl)
      (fun h' vs f name qual doc pm an cd ct g' FF rr => hsvC G (S2.base.trans g') (R.le (by decide)) FF rr cf.hok) (by rfl) rfl
  case hd2 => rw [cf.hsv, hdue]; rfl
  have S3 : St prog w h₀ X Mu (envW L f c) s s3 (("blue", .flt b) :: ("green", .flt g) :: ("red", .flt r) :: ("level", .int v) :: ("part", .int p) :: ("turn", .int t) :: ("n", .int i) :: lA nm pr pd) (mlA nm i pr pd cs) := S3
  refine x_assign (d := .lst ((partsOf t p v).map .int)) S3 rfl ?he3 (.inl rfl) rfl fun s4 S4 => ?k3
  case he3 =>
    exact ev_fn G F S3.base rfl (by rfl) (evs_cons (ev_v S3 rfl rfl rfl rfl) (evs_cons (ev_v S3 rfl rfl rfl rfl) (evs_cons (ev_v S3 rfl rfl rfl rfl) evs_nil rfl) rfl) rfl)
      (fun h' vs f name qual doc pm an cd ct g' FF rr => partsC G (S3.base.trans g') (R.le (by decide)) FF rr ht hp hl) (by rfl) rfl
  refine' x_assign (d := .tup ((toldL t p v).map .flt)) S4 rfl (Go.cast ?he4 ?hd4) (.inl rfl) rfl fun s5 S5 => ?k4
  case he4 =>
    exact ev_fn G F S4.base rfl (by rfl) (evs_cons (ev_v S4 rfl rfl rfl rfl) (evs_cons (ev_v S4 rfl rfl rfl rfl) (evs_cons (ev_v S4 rfl rfl rfl rfl) evs_nil rfl) rfl) rfl)
      (fun h' vs f name qual doc pm an cd ct g' FF rr => hlsC G (S4.base.trans g') (R.le (by decide)) FF rr hok) (by rfl) rfl
  case hd4 => rw [hls]
  have S5 : St prog w h₀ X Mu (envW L f c) s s5 (("told", .tup ((toldL t p v).map .flt)) :: ("due", .lst ((partsOf t p v).map .int)) :: ("blue", .flt b) :: ("green", .flt g) :: ("red", .flt r) :: ("level", .int v) :: ("part", .int p) :: ("turn", .int t) :: ("n", .int i) :: lA nm pr pd) (mlA nm i pr pd cs) := S5
  have hu : A.units < cLine := by have := R.un; lia
  refine x_if (b := false || false) S5 (tst_or2 (tst_cmp ?ta ?tb (fun h' va vb gg ra rb => op_ne_fltL (xs := dueL t p v) (noneBooked_grow (noneBooked_grow G.bk S5.base) gg) hu ra rb cf.nn1) rfl) fun _ => tst_cmp (ev_v S5 rfl rfl rfl rfl) ?tc (fun h' va vb gg ra rb => op_ne_fltT (xs := toldL t p v) (noneBooked_grow (noneBooked_grow G.bk S5.base) gg) hu ra rb cf.nn2) rfl) fun s6 S6 => ?k5
  case ta => exact Go.cast (ev_list (evs_cons (ev_v S5 rfl rfl rfl rfl) (evs_cons (ev_v S5 rfl rfl rfl rfl) (evs_cons (ev_v S5 rfl rfl rfl rfl) evs_nil rfl) rfl) rfl) rfl) (by rw [hdue]; rfl)
  case tb =>
    exact Go.cast (ev_lcomp (own := none) (cl := []) (lc := []) (us := partsOf t p v) (enc := D.int) (bnd := fun y => [("one", .int y)]) (fun _ => true) (fun y => .flt (Float64.div (Float64.ofInt y) 0x4070000000000000)) S5 hh rfl (fun _ => rfl) (fun _ => rfl)
      (by decide +kernel) rfl (fun x c e => by cases e) trivial (by show 3 ≤ sizeLine; decide) (fun C Dd u hu => .name (.inl rfl)) (fun u hu => trivial) (it_nm (it_lst hh (ev_v S5 rfl rfl rfl rfl)))
      (fun X' Mu' C j u s₁ ml' hX hu S' => ⟨rfl, fun _ => by
        have bd : -(2 ^ 32) < u ∧ u < 2 ^ 32 := part_bd ht hp hl (List.mem_of_getElem? hu)
        exact ev_idivf (ev_v S' rfl rfl rfl rfl) ev_const_flt bd.1 bd.2 (by decide +kernel)⟩)) (by rw [filter_all, dueL, List.map_map]; rfl)
  case tc =>
    exact Go.cast (ev_fn G F S5.base rfl (by rfl) (evs_cons (ev_v S5 rfl rfl rfl rfl) (evs_cons (ev_v S5 rfl rfl rfl rfl) (evs_cons (ev_v S5 rfl rfl rfl rfl) evs_nil rfl) rfl) rfl)
      (fun h' vs f name qual doc pm an cd ct g' FF rr => toldC G (S5.base.trans g') (R.le (by decide)) FF rr ht hp hl) (by rfl) rfl) (by rw [told_map])
  refine x_nil ?_
  show wpAny _ _ (execs _ _) _ _ _
  have h2 : ((toldL t p v).map D.flt)[(2 : Int).toNat]? = some (.flt ((toldL t p v).getD 2 0)) := by unfold toldL; split <;> rfl
  refine x_if (b := col nm i) S6 (Go.castB (tst_fgt (ev_item_tup (ev_v S6 rfl rfl rfl rfl) ev_const_int (by decide) h2 (by decide) rfl) ev_const_flt rfl) hcol) fun s7 S7 => ?k6
  cases hc : col nm i with
  | false =>
    refine x_nil ?_
    refine x_nil ⟨.inl rfl, _, _, ⟨rfl, cs, hcs, ?_⟩, S7.to ⟨rfl, rfl, rfl, trivial⟩⟩
    show mlA nm i pr pd cs = mlA nm (i + 1) pr pd cs
    rw [mlA, mlA, pts_same hc, row_same hc]
  | true =>
    have h0 : ((toldL t p v).map D.flt)[(0 : Int).toNat]? = some (.flt (hueF (tt nm i))) := by
      have : p ≠ 0 := by
        intro z
        subst z
        have : (Float64.cmp ((toldL t 0 v).getD 2 0) 0 == some Ordering.gt) = decide ((0 : Int) ≠ 0) := sat_gt hp hl
        rw [hcol, hc] at this
        simp at this
      unfold toldL hueF
      rw [if_neg this, htt]; rfl
    have hrl := ord_le (nm := nm) i
    have S8 := S7.perm (ml' := (132, .tab cs) :: (pr, .lst ((rowX nm i).map rowD)) :: [(pd, .dct (ptsL nm i))]) ((List.Perm.swap _ _ _).trans ((List.Perm.cons _ (List.Perm.swap _ _ _)).trans (List.Perm.swap _ _ _)))
    refine x_insort (y := hueF (tt nm i)) (m := -((i : Nat) : Int)) S8 F G (R.le (by decide)) rfl C hb (by decide) hcs rfl rfl ?hi1 (by rw [row_len]; lia) (posOf nm (ordOf nm i) i) (by rw [row_len]; exact pos_le _ _) (fun j q hj e => row_h1 W hj e) (fun j q hj e => row_h2 W hj e) fun s9 c' S9 => ?k7
    case hi1 => exact ev_tuple (evs_cons (ev_item_tup (ev_v S8 rfl rfl rfl rfl) ev_const_int (by decide) h0 (by decide) rfl) (evs_cons (ev_neg (ev_v S8 rfl rfl rfl rfl)) evs_nil rfl) rfl) rfl
    rw [row_succ hc] at S9
    have S10 := S9.perm (ml' := (pd, .dct (ptsL nm i)) :: (pr, .lst ((rowX nm (i + 1)).map rowD)) :: [(132, .tab [(175, 49, (envW L f c).qual ++ "<lambda>", c')])]) ((List.Perm.swap _ _ _).trans ((List.Perm.cons _ (List.Perm.swap _ _ _)).trans (List.Perm.swap _ _ _)))
    have hd0 : ((partsOf t p v).map D.int)[(0 : Int).toNat]? = some (.int (partOf t p v 0)) := rfl
    have hd1 : ((partsOf t p v).map D.int)[(1 : Int).toNat]? = some (.int (partOf t p v 64)) := rfl
    have hd2 : ((partsOf t p v).map D.int)[(2 : Int).toNat]? = some (.int (partOf t p v 128)) := rfl
    have it0 : ∀ {p1 p2 p3 : Pos} {k : Nat}, Ev prog w A X (envW L f c) s9.heap (.Subscript (.Name "due" p1) (.Constant (.int 0) k p2) p3) (.int (partOf t p v 0)) := fun {p1 p2 p3 k} => ev_item_lst (ev_v S10 rfl rfl rfl rfl) ev_const_int (by decide) hd0 (by decide) rfl
    have it1 : ∀ {p1 p2 p3 : Pos} {k : Nat}, Ev prog w A X (envW L f c) s9.heap (.Subscript (.Name "due" p1) (.Constant (.int 1) k p2) p3) (.int (partOf t p v 64)) := fun {p1 p2 p3 k} => ev_item_lst (ev_v S10 rfl rfl rfl rfl) ev_const_int (by decide) hd1 (by decide) rfl
    have it2 : ∀ {p1 p2 p3 : Pos} {k : Nat}, Ev prog w A X (envW L f c) s9.heap (.Subscript (.Name "due" p1) (.Constant (.int 2) k p2) p3) (.int (partOf t p v 128)) := fun {p1 p2 p3 k} => ev_item_lst (ev_v S10 rfl rfl rfl rfl) ev_const_int (by decide) hd2 (by decide) rfl
    have hdl : (ptsL nm i).length + 1 ≤ 1000 := by unfold ptsL; rw [List.length_map, ← ord_len]; lia
    refine x_update (m := ((i : Nat) : Int)) S10 hsm rfl (ev_dict1 (ev_v S10 rfl rfl rfl rfl) (ev_tuple (evs_cons (ev_sub (ev_sub (ev_mul ev_const_int it0 (by decide) (by decide)) it1) it2) (evs_cons (ev_sub it1 it2) evs_nil rfl) rfl) rfl)) (Nat.le_trans hdl (by decide)) rfl (fun s11 S11 => ?k8) rfl rfl rfl
    rw [← hpp, ← hpp2, pts_succ hc] at S11
    exact x_nil (x_nil ⟨.inl rfl, _, _, ⟨rfl, _, .inr ⟨c', rfl⟩, rfl⟩, S11.to ⟨rfl, rfl, rfl, trivial⟩⟩)
end
end
end Mine

namespace Mine
section
open PySem PySem.W PySem.Calls PyProof.Rows
set_option maxRecDepth 100000
set_option linter.unusedVariables false
variable {prog : Program} {w : World}
section
variable {h₀ : Heap} {A : Around} {X X' Mu : Addr → Prop} {s₀ s : Shared} {l : List (Str × D)} {ml : List (Addr × D)} {E : Value → Shared → Prop} {mg mb : Str → Option Value} {Q : Flow → Shared → Prop} {L f c : Addr}
structure MuW (L : Addr) (Mu : Addr → Prop) : Prop where
  loc : Mu L
  cel : ∀ c, L < c → c ≤ L + 7 → Mu c
  tab : Mu 132
@[reducible] noncomputable def lB (nm : Nm) (k : Nat) : List (Str × D) := [("row", .lst ((rowX nm k).map rowD)), ("points", .dct (ptsL nm k)), ("names", nmDs nm)]
set_option maxHeartbeats 1000000 in
theorem w_loop {nm : Nm} (W : WF nm) (hlen : nm.length ≤ 9) (S : St prog w h₀ X Mu (envW L f c) s₀ s (("names", nmDs nm) :: l) [(132, .tab [])]) (M : MuW L Mu) (G : Glo mg mb h₀) (R : Rm A 4) (hsm : X sysModules) (C : CodeHd h₀ c 132) (hb : h₀.BuiltinsAt mg 132)
    (kk : ∀ s' cs, csOk (envW L f c).qual cs → St prog w h₀ X Mu (envW L f c) s₀ s' (lB nm nm.length) [(132, .tab cs)] → wpAny (model prog w) A (execs (lawR 4) (envW L f c)) Q E s') :
    wpAny (model prog w) A (execs (lawR 1) (envW L f c)) Q E s := by
  have F : FE (envW L f c) := ⟨rfl, rfl, rfl⟩
  have hh := R.hh
  refine x_newlist S rfl (.inl rfl) fun s2 pr hpr hpm S2 => ?_
  refine x_newdict S2 rfl (cellW (fun c a b => .inl (M.cel c a b)) rfl rfl (by decide) (by decide)) fun s3 pd hpd hpdm S3 => ?_
  have S3 : St prog w h₀ (Xp (Xp X pr) pd) (Mp (Mp Mu pr) pd) (envW L f c) s₀ s3 (lA nm pr pd) (mlA nm 0 pr pd []) := S3.to ⟨rfl, rfl, rfl, trivial⟩
  have S3' := S3
  refine x_for S3 rfl (cellW (fun c a b => .inl (.inl (M.cel c a b))) rfl rfl (by decide) (by decide)) (it_rng (a := 0) (b := nm.length) (n := nm.length) hh (ev_range1 S3 G F rfl (Go.cast (ev_len (ds := nm.map nmD) S3 G F rfl (ev_v S3 rfl rfl rfl rfl) rfl (by simp; lia)) (by simp)) rfl) (rng_n _) (rng_small (by lia)))
    (fun i l' ml' => l' = lA nm pr pd ∧ ∃ cs, csOk (envW L f c).qual cs ∧ ml' = mlA nm i pr pd cs) ⟨rfl, [], .inl rfl, rfl⟩ ?t1 ?d1
  case t1 =>
    rintro X1 i d l₁ ml₁ s4 E4 hX1 hd ⟨rfl, cs, hcs, rfl⟩ S4
    obtain ⟨hi, rfl⟩ := upTo0_get hd
    exact w_turn W hi hlen S4 G R (hX1 _ (.inl (.inl hsm))) C hb hcs
  case d1 =>
    rintro s' l' ml' ⟨rfl, cs, hcs, rfl⟩ S4
    rw [upTo_length] at S4
    have S5 := S4.freeze (x := "points") rfl hpd (fun b hb => hb.elim (fun q => .inl (S.mx b q)) .inr) (.inl M.loc) (fun q hq => by
      rcases List.mem_cons.mp hq with rfl | hq
      · exact .inr rfl
      · rw [List.mem_singleton.mp hq]; exact .inl M.tab) hpdm
    have S6 := S5.freeze (x := "row") rfl hpr S.mx M.loc (fun q hq => by rw [List.mem_singleton.mp hq]; exact M.tab) hpm
    exact kk s' cs hcs (S6.to ⟨rfl, rfl, rfl, trivial⟩)
@[reducible] noncomputable def ringD (nm : Nm) (k : Nat) : D := .lst ((ringR nm k).map rowD)
@[reducible] noncomputable def ordD (nm : Nm) (k : Nat) : D := .lst (((ordOf nm k).map fun n => ((n : Nat) : Int)).map .int)
theorem ring_row (nm : Nm) (k : Nat) : (rowX nm k).map (fun q => (q.1, -q.2)) = ringR nm k := by
  unfold rowX ringR
  rw [List.map_map]
  apply List.map_congr_left
  intro n _
  show (hueF (tt nm n), - -((n : Nat) : Int)) = _
  rw [Int.neg_neg]
theorem memx2 {env : Env} {x y : Str} (hx : env.kindOf x = some .local) (hy : env.kindOf y = some .local) : ∀ z ∈ [x, y], env.kindOf z = some .local ∨ (env.kindOf z = some .cell ∧ ∃ c, env.cells.lookup z = some c ∧ Mu c) := fun z hz => by
  simp only [List.mem_cons, List.not_mem_nil, or_false] at hz
  rcases hz with rfl | rfl
  · exact .inl hx
  · exact .inl hy
set_option maxHeartbeats 1000000 in
theorem w_ring {nm : Nm} {k : Nat} (S : St prog w h₀ X Mu (envW L f c) s₀ s l ml) (hh : A.handled = none) (hrow : l.lookup ("row" : Str) = some (.lst ((rowX nm k).map rowD))) (hk : k ≤ 100)
    (kk : ∀ s', St prog w h₀ X Mu (envW L f c) s₀ s' (("order", ordD nm k) :: ("ring", ringD nm k) :: l) ml → wpAny (model prog w) A (execs (lawR 6) (envW L f c)) Q E s') :
    wpAny (model prog w) A (execs (lawR 4) (envW L f c)) Q E s := by
  have hl := ord_le (nm := nm) k
  refine x_lcomp (own := none) (cl := []) (lc := []) (us := rowX nm k) (enc := rowD) (bnd := fun q => [("m", .int q.2), ("hue", .flt q.1)]) (fun _ => true) (fun q => rowD (q.1, -q.2)) S rfl (.inl rfl) hh rfl (fun _ => rfl) (fun _ => rfl)
    (by decide +kernel) rfl (fun x c e => by cases e) trivial (Nat.le_trans (show _ ≤ 1000 by rw [row_len]; lia) (by decide)) (fun C Dd u hu => .tup ["hue", "m"] rfl (memx2 rfl rfl) rfl rfl) (fun u hu => trivial)
    (it_lstT hh (fun d hd => by obtain ⟨q, _, rfl⟩ := List.mem_map.mp hd; exact ⟨_, rfl⟩) (ev_v S hrow rfl rfl rfl)) (fun X' Mu' C i u s₁ ml' hX hu S' => ⟨rfl, fun _ => ev_tuple (evs_cons (ev_v S' rfl rfl rfl rfl) (evs_cons (ev_neg (ev_v S' rfl rfl rfl rfl)) evs_nil rfl) rfl) rfl⟩) fun s2 S2 => ?_
  have e : ((rowX nm k).filter fun _ => true).map (fun q => rowD (q.1, -q.2)) = (ringR nm k).map rowD := by
    rw [filter_all, ← ring_row, List.map_map]; rfl
  rw [e] at S2
  refine x_lcomp (own := none) (cl := []) (lc := []) (us := ringR nm k) (enc := rowD) (bnd := fun q => [("n", .int q.2), ("hue", .flt q.1)]) (fun _ => true) (fun q => .int q.2) S2 rfl (.inl rfl) hh rfl (fun _ => rfl) (fun _ => rfl)
    (by decide +kernel) rfl (fun x c e => by cases e) trivial (Nat.le_trans (show _ ≤ 1000 by rw [ring_len]; lia) (by decide)) (fun C Dd u hu => .tup ["hue", "n"] rfl (memx2 rfl rfl) rfl rfl) (fun u hu => trivial)
    (it_lstT hh (fun d hd => by obtain ⟨q, _, rfl⟩ := List.mem_map.mp hd; exact ⟨_, rfl⟩) (ev_v S2 rfl rfl rfl rfl)) (fun X' Mu' C i u s₁ ml' hX hu S' => ⟨rfl, fun _ => ev_v S' rfl rfl rfl rfl⟩) fun s3 S3 => ?_
  have e2 : ((ringR nm k).filter fun _ => true).map (fun q => D.int q.2) = ((ordOf nm k).map fun n => ((n : Nat) : Int)).map .int := by
    rw [filter_all]; unfold ringR; rw [List.map_map, List.map_map]; rfl
  rw [e2] at S3
  exact kk s3 S3
end
end
end Mine

namespace Mine
section
open PySem PySem.W PySem.Calls PyProof.Rows
set_option maxRecDepth 100000
set_option linter.unusedVariables false
variable {prog : Program} {w : World}
section
variable {nm : Nm} {N : Nat}
theorem ord_cast : ((ordOf nm N).map fun n => ((n : Nat) : Int)).Perm ((ptsL nm N).map Prod.fst) := by
  rw [pts_keys]; exact (ord_inv N).2.map _
theorem nmP_cast (h : WF nm) (n : Nat) : nmP nm ((n : Nat) : Int) = tt nm n := by
  rw [tt_cast h]; unfold nmP nmAt; rw [Int.toNat_natCast]
theorem ord_pair (h : WF nm) (hN : N ≤ 100) : ((ordOf nm N).map fun n => ((n : Nat) : Int)).Pairwise fun a b => prK (nmP nm a, a) < prK (nmP nm b, b) := by
  rw [List.pairwise_map]
  refine List.Pairwise.imp_of_mem (fun {a b} ha hb hab => ?_) (ord_inv N).1
  have la := (idx_lt ((ord_inv N).2.mem_iff.mp ha)).1
  have lb := (idx_lt ((ord_inv N).2.mem_iff.mp hb)).1
  show nmP nm _ * 100 + _ < nmP nm _ * 100 + _
  rw [nmP_cast h, nmP_cast h]
  unfold lex at hab
  lia
theorem pts_len : (ptsL nm N).length = (ordOf nm N).length := by unfold ptsL; rw [List.length_map, ord_len]
theorem pts_bd : ∀ n ∈ (ptsL nm N).map Prod.fst, 0 ≤ n ∧ n < N := fun n hn => by
  rw [pts_keys] at hn
  obtain ⟨m, hm, rfl⟩ := List.mem_map.mp hn
  have := (idx_lt hm).1
  lia
theorem dlookup (l : List Nat) (F : Nat → D) {m : Nat} (hm : m ∈ l) : (l.map fun m => (((m : Nat) : Int), F m)).lookup ((m : Nat) : Int) = some (F m) := by
  induction l with
  | nil => cases hm
  | cons a l ih =>
    rw [List.map_cons, List.lookup_cons]
    by_cases e : m = a
    · subst e; simp
    · have : (((m : Nat) : Int) == ((a : Nat) : Int)) = false := by simp; lia
      rw [this]
      exact ih ((List.mem_cons.mp hm).resolve_left e)
theorem pp_bd (h : WF nm) (n : Nat) : Bd (pp nm n) := by
  obtain ⟨ht, hp, hv⟩ := nm_facts h n
  have k := fun {u} => part_bd (u := u) ht hp hv
  have k0 := k (u := partOf (nmAt nm n).1 (nmAt nm n).2.1 (nmAt nm n).2.2 0) (.head _)
  have k1 := k (u := partOf (nmAt nm n).1 (nmAt nm n).2.1 (nmAt nm n).2.2 64) (.tail _ (.head _))
  have k2 := k (u := partOf (nmAt nm n).1 (nmAt nm n).2.1 (nmAt nm n).2.2 128) (.tail _ (.tail _ (.head _)))
  unfold Bd pp ptOf
  simp only
  omega
end
noncomputable def ClIn (cells : List (Str × Addr)) : List (Str × Addr) → Prop
  | [] => True
  | q :: r => cells.lookup q.1 = some q.2 ∧ ClIn cells r
theorem ClIn.get {cells : List (Str × Addr)} : ∀ {cl : List (Str × Addr)}, ClIn cells cl → ∀ x c, cl.lookup x = some c → cells.lookup x = some c
  | [], _, x, c, e => by cases e
  | q :: r, h, x, c, e => by
    rw [List.lookup_cons] at e
    split at e
    · rename_i k; cases e; rw [beq_iff_eq.mp k]; exact h.1
    · exact h.2.get x c e
@[reducible] noncomputable def pD (nm : Nm) (N : Nat) : D := .dct (ptsL nm N)
@[reducible] noncomputable def liD (l : List Nat) : D := .lst (l.map fun m => .int ((m : Nat) : Int))
@[reducible] noncomputable def ddD (us : List Nat) (F : Nat → D) : D := .dct (us.map fun n => (((n : Nat) : Int), F n))
theorem dd_store {us : List Nat} (F : Nat → D) (h : us.Nodup) : D.dct (storeAll (fun n => ((n : Nat) : Int)) F (us.filter fun _ => true)) = ddD us F := by
  rw [filter_all, storeAll_nodup]
  unfold List.Nodup
  rw [List.pairwise_map]
  exact h.imp fun hab e => hab (Int.ofNat.inj e)
@[reducible] noncomputable def entsD (nm : Nm) (N : Nat) : D := .lst ((entsR nm N).map Ent.D)
section
variable {h₀ : Heap} {A : Around} {X X' Mu : Addr → Prop} {s₀ s : Shared} {l : List (Str × D)} {ml : List (Addr × D)} {E : Value → Shared → Prop} {mg mb : Str → Option Value} {Q : Flow → Shared → Prop} {L f c : Addr} {env : Env} {h : Heap}
theorem it_pts {e : Expr} {x : Str} {px : Pos} {nm : Nm} {N : Nat} (hsm : X sysModules) (hh : A.handled = none) (he : Ev prog w A X env h e (pD nm N)) : Go prog w A X h (eval e env) fun h' v => Itn prog w A X h' v (.Name x px) true ((idxOf nm N).map fun n => D.int ((n : Nat) : Int)) := by
  have e1 : ((ptsL nm N).map fun q => D.int q.1) = (idxOf nm N).map fun n => D.int ((n : Nat) : Int) := by unfold ptsL; rw [List.map_map]; rfl
  rw [← e1]
  exact it_nm (he.mono fun h' v g r => itb_keys hsm hh r)
set_option maxHeartbeats 1000000 in
theorem w_sorted {nm : Nm} {cs : List (Nat × Nat × Str × Addr)} (W : WF nm) (hlen : nm.length ≤ 9) (h2 : 2 ≤ (ordOf nm nm.length).length) (S : St prog w h₀ X Mu (envW L f c) s₀ s l [(132, .tab cs)]) (G : Glo mg mb h₀) (R : Rm A 4) (hsm : X sysModules) (C : CodeHd h₀ c 132) (hb : h₀.BuiltinsAt mg 132) (hcs : csOk (envW L f c).qual cs)
    (ho : l.lookup ("order" : Str) = some (ordD nm nm.length)) (hr : l.lookup ("ring" : Str) = some (ringD nm nm.length)) (hp : l.lookup ("points" : Str) = some (pD nm nm.length)) (hn : l.lookup ("names" : Str) = some (nmDs nm))
    (kk : ∀ s' cs, St prog w h₀ X Mu (envW L f c) s₀ s' (("entries", entsD nm nm.length) :: l) [(132, .tab cs)] → wpAny (model prog w) A (execs (lawR 8) (envW L f c)) Q E s') :
    wpAny (model prog w) A (execs (lawR 6) (envW L f c)) Q E s := by
  have F : FE (envW L f c) := ⟨rfl, rfl, rfl⟩
  have hol := ord_le (nm := nm) nm.length
  refine x_sortedIf (P := 132) (c := c) (cN := L + 7) S F G (R.le (by decide)) hsm rfl C hb (by decide) ?hnf rfl rfl rfl rfl ho hp hn (by lia) (fun n hn => pts_bd n hn) (by rw [pts_len]; exact h2) (by rw [pts_len]; lia) ord_cast (ord_pair W (by lia)) fun s2 c' S2 => ?_
  case hnf =>
    rcases hcs with rfl | ⟨c', rfl⟩
    · rfl
    · rfl
  have M := TT_mono (N := nm.length) W
  have rl : (ringR nm nm.length).length = (ordOf nm nm.length).length := ring_len
  have wl : (wheelOf (ringR nm nm.length)).length = (ordOf nm nm.length).length + (ordOf nm nm.length).length := wheel_len
  refine' x_assign (d := entsD nm nm.length) S2 rfl (Go.cast ?he ?hd) (.inl rfl) rfl fun s3 S3 => kk s3 _ S3
  case he =>
    exact ev_fn G F S2.base rfl (by rfl) (evs_cons (ev_v S2 hr rfl rfl rfl) evs_nil rfl) (fun h' vs f name qual doc pm an cd ct g' FF rr => by
      obtain ⟨_, _, rfl, r1, rn⟩ := rr.cons_inv; obtain rfl := rn.nil_inv
      exact entriesC (nearOf (TT nm nm.length) (ordOf nm nm.length).length) (farOf (TT nm nm.length) (ordOf nm nm.length).length) G (S2.base.trans g') (R.le (by decide)) FF r1 (by rw [rl]; lia)
        (fun i hi => by rw [rl] at hi; rw [wl]; exact ⟨near_gt M hi, near_le _ _ _, far_le _ _ _⟩) (fun i hi j y hj e => hn1 W (rl ▸ hi) hj e) (fun i hi j y hj e => hn2 W (rl ▸ hi) hj e) (fun i hi j y hj e => hf1 W (rl ▸ hi) hj e) (fun i hi j y hj e => hf2 W (rl ▸ hi) hj e)) (by rfl) rfl
  case hd => rw [rl, entsD, entsR, List.map_map]; rfl
end
end
end Mine

namespace Mine
section
open PySem PySem.W PySem.Calls PyProof.Rows
set_option maxRecDepth 100000
set_option linter.unusedVariables false
variable {prog : Program} {w : World}
section
variable {h₀ : Heap} {A : Around} {X X' Mu : Addr → Prop} {s₀ s : Shared} {l : List (Str × D)} {ml : List (Addr × D)} {E : Value → Shared → Prop} {mg mb : Str → Option Value} {Q : Flow → Shared → Prop} {L f c : Addr} {env : Env} {h : Heap}
theorem sz_idx {nm : Nm} (hlen : nm.length ≤ 9) : (idxOf nm nm.length).length ≤ sizeLine := Nat.le_trans (show _ ≤ 1000 by rw [← ord_len]; have := ord_le (nm := nm) nm.length; lia) (by decide)
theorem ev_pt {e1 e2 : Expr} {pos : Pos} {nm : Nm} {n : Nat} (hm : n ∈ idxOf nm nm.length) (h1 : Ev prog w A X env h e1 (pD nm nm.length)) (h2 : Ev prog w A X env h e2 (.int ((n : Nat) : Int))) (hp : plainSlice e2 = true) : Ev prog w A X env h (.Subscript e1 e2 pos) (ptD (pp nm n)) :=
  ev_item_dct h1 h2 (dlookup _ _ hm) hp
@[reducible] noncomputable def leftD (nm : Nm) : D := ddD (idxOf nm nm.length) fun n => liD (leftL nm nm.length n)
@[reducible] noncomputable def lineD (nm : Nm) : D := ddD (idxOf nm nm.length) fun n => liD (lineL nm nm.length n)
@[reducible] noncomputable def ownD (nm : Nm) : D := ddD (idxOf nm nm.length) fun n => liD (ownL' nm nm.length n)
set_option maxHeartbeats 2000000 in
theorem w_left {nm : Nm} (W : WF nm) (hlen : nm.length ≤ 9) (S : St prog w h₀ X Mu (envW L f c) s₀ s l ml) (M : MuW L Mu) (G : Glo mg mb h₀) (R : Rm A 4) (hsm : X sysModules) (hp : l.lookup ("points" : Str) = some (pD nm nm.length))
    (kk : ∀ s', St prog w h₀ X Mu (envW L f c) s₀ s' (("left", leftD nm) :: l) ml → wpAny (model prog w) A (execs (lawR 9) (envW L f c)) Q E s') :
    wpAny (model prog w) A (execs (lawR 8) (envW L f c)) Q E s := by
  have hh := R.hh
  refine' x_assign (d := leftD nm) S rfl (Go.cast ?he ?hd) (cellW M.cel rfl rfl (by decide) (by decide)) rfl kk
  case he =>
    refine ev_dcomp (own := some "n") (cl := [("points", L + 1)]) (lc := [("points", pD nm nm.length)]) (us := idxOf nm nm.length) (enc := fun n => .int ((n : Nat) : Int)) (bnd := fun n => [("n", .int ((n : Nat) : Int))]) (fun _ => true) (fun n => ((n : Nat) : Int)) (fun n => liD (leftL nm nm.length n)) S hh rfl (fun _ => rfl) (fun _ => rfl)
      (by decide +kernel) rfl (ClIn.get ⟨rfl, trivial⟩) ⟨⟨hp, .inl rfl, .inl rfl, fun n => ⟨_, rfl, rfl⟩⟩, trivial⟩ (sz_idx hlen) (fun C Dd u hu => .name (.inr ⟨rfl, C + 1, rfl, .inr (.inr ⟨rfl, rfl⟩)⟩)) (fun u hu => ⟨rfl, trivial⟩) (it_pts hsm hh (ev_v S hp rfl rfl rfl))
      (fun X' Mu' C i n s₁ ml' hX hu S' => ⟨rfl, fun _ => ⟨ev_v S' rfl rfl rfl rfl, ?inner⟩⟩)
    have hn : n ∈ idxOf nm nm.length := List.mem_of_getElem? hu
    refine ev_lcomp (own := none) (cl := [("points", L + 1), ("n", C + 1)]) (lc := [("n", .int ((n : Nat) : Int)), ("points", pD nm nm.length)]) (us := idxOf nm nm.length) (enc := fun n => .int ((n : Nat) : Int)) (bnd := fun n => [("m", .int ((n : Nat) : Int))]) (leftB nm n) (fun m => .int ((m : Nat) : Int)) S' hh rfl (fun _ => rfl) (fun _ => rfl)
      (by decide +kernel) rfl (ClIn.get ⟨rfl, rfl, trivial⟩) ⟨⟨rfl, .inl rfl, .inl rfl, fun n => ⟨_, rfl, rfl⟩⟩, ⟨rfl, .inl rfl, .inl rfl, fun n => ⟨_, rfl, rfl⟩⟩, trivial⟩ (sz_idx hlen) (fun C Dd u hu => .name (.inl rfl)) (fun u hu => ⟨rfl, rfl, trivial⟩) (it_pts (hX _ hsm) hh (ev_v S' rfl rfl rfl rfl))
      (fun X2 Mu2 C2 i2 m s2 ml2 hX2 hu2 S2 => ⟨?tst, fun _ => ev_v S2 rfl rfl rfl rfl⟩)
    have hm : m ∈ idxOf nm nm.length := List.mem_of_getElem? hu2
    have bd := pp_bd W n
    exact Go.castB (tst_gt (ev_cross G ⟨rfl, rfl, rfl⟩ S2.base (R.le (by decide)) rfl (ev_pt hn (ev_v S2 rfl rfl rfl rfl) (ev_v S2 rfl rfl rfl rfl) rfl) (ev_pt hm (ev_v S2 rfl rfl rfl rfl) (ev_v S2 rfl rfl rfl rfl) rfl) bd.1.1 bd.1.2 bd.2.1 bd.2.2 rfl rfl) ev_const_int rfl) rfl
  case hd => exact dd_store _ (idx_nodup _)
end
end
end Mine

namespace Mine
section
open PySem PySem.W PySem.Calls PyProof.Rows
set_option maxRecDepth 100000
set_option linter.unusedVariables false
variable {prog : Program} {w : World}
section
variable {h₀ : Heap} {A : Around} {X X' Mu : Addr → Prop} {s₀ s : Shared} {l : List (Str × D)} {ml : List (Addr × D)} {E : Value → Shared → Prop} {mg mb : Str → Option Value} {Q : Flow → Shared → Prop} {L f c : Addr} {env : Env} {h : Heap}
theorem line_dec (nm : Nm) (n m : Nat) : ((((m : Nat) : Int) != ((n : Nat) : Int)) && ((pp nm n).1 * (pp nm m).2 - (pp nm n).2 * (pp nm m).1 == 0)) = lineB nm n m := by
  unfold lineB cr
  rw [Bool.eq_iff_iff]
  simp only [Bool.and_eq_true, bne_iff_ne, ne_eq, beq_iff_eq, decide_eq_true_eq]
  lia
set_option maxHeartbeats 2000000 in
theorem w_line {nm : Nm} (W : WF nm) (hlen : nm.length ≤ 9) (S : St prog w h₀ X Mu (envW L f c) s₀ s l ml) (M : MuW L Mu) (G : Glo mg mb h₀) (R : Rm A 4) (hsm : X sysModules) (hp : l.lookup ("points" : Str) = some (pD nm nm.length))
    (kk : ∀ s', St prog w h₀ X Mu (envW L f c) s₀ s' (("line", lineD nm) :: l) ml → wpAny (model prog w) A (execs (lawR 10) (envW L f c)) Q E s') :
    wpAny (model prog w) A (execs (lawR 9) (envW L f c)) Q E s := by
  have hh := R.hh
  refine' x_assign (d := lineD nm) S rfl (Go.cast ?he ?hd) (cellW M.cel rfl rfl (by decide) (by decide)) rfl kk
  case he =>
    refine ev_dcomp (own := some "n") (cl := [("points", L + 1)]) (lc := [("points", pD nm nm.length)]) (us := idxOf nm nm.length) (enc := fun n => .int ((n : Nat) : Int)) (bnd := fun n => [("n", .int ((n : Nat) : Int))]) (fun _ => true) (fun n => ((n : Nat) : Int)) (fun n => liD (lineL nm nm.length n)) S hh rfl (fun _ => rfl) (fun _ => rfl)
      (by decide +kernel) rfl (ClIn.get ⟨rfl, trivial⟩) ⟨⟨hp, .inl rfl, .inl rfl, fun n => ⟨_, rfl, rfl⟩⟩, trivial⟩ (sz_idx hlen) (fun C Dd u hu => .name (.inr ⟨rfl, C + 1, rfl, .inr (.inr ⟨rfl, rfl⟩)⟩)) (fun u hu => ⟨rfl, trivial⟩) (it_pts hsm hh (ev_v S hp rfl rfl rfl))
      (fun X' Mu' C i n s₁ ml' hX hu S' => ⟨rfl, fun _ => ⟨ev_v S' rfl rfl rfl rfl, ?inner⟩⟩)
    have hn : n ∈ idxOf nm nm.length := List.mem_of_getElem? hu
    refine ev_lcomp (own := none) (cl := [("points", L + 1), ("n", C + 1)]) (lc := [("n", .int ((n : Nat) : Int)), ("points", pD nm nm.length)]) (us := idxOf nm nm.length) (enc := fun n => .int ((n : Nat) : Int)) (bnd := fun n => [("m", .int ((n : Nat) : Int))]) (lineB nm n) (fun m => .int ((m : Nat) : Int)) S' hh rfl (fun _ => rfl) (fun _ => rfl)
      (by decide +kernel) rfl (ClIn.get ⟨rfl, rfl, trivial⟩) ⟨⟨rfl, .inl rfl, .inl rfl, fun n => ⟨_, rfl, rfl⟩⟩, ⟨rfl, .inl rfl, .inl rfl, fun n => ⟨_, rfl, rfl⟩⟩, trivial⟩ (sz_idx hlen) (fun C Dd u hu => .name (.inl rfl)) (fun u hu => ⟨rfl, rfl, trivial⟩) (it_pts (hX _ hsm) hh (ev_v S' rfl rfl rfl rfl))
      (fun X2 Mu2 C2 i2 m s2 ml2 hX2 hu2 S2 => ⟨?tst, fun _ => ev_v S2 rfl rfl rfl rfl⟩)
    have hm : m ∈ idxOf nm nm.length := List.mem_of_getElem? hu2
    have bd := pp_bd W n
    exact Go.castB (tst_and2 (tst_ne (ev_v S2 rfl rfl rfl rfl) (ev_v S2 rfl rfl rfl rfl) rfl) fun _ => tst_eq (ev_cross G ⟨rfl, rfl, rfl⟩ S2.base (R.le (by decide)) rfl (ev_pt hn (ev_v S2 rfl rfl rfl rfl) (ev_v S2 rfl rfl rfl rfl) rfl) (ev_pt hm (ev_v S2 rfl rfl rfl rfl) (ev_v S2 rfl rfl rfl rfl) rfl) bd.1.1 bd.1.2 bd.2.1 bd.2.2 rfl rfl) ev_const_int rfl) (line_dec nm n m)
  case hd => exact dd_store _ (idx_nodup _)
theorem sz_line {nm : Nm} (hlen : nm.length ≤ 9) (n : Nat) : (lineL nm nm.length n).length ≤ 9 := Nat.le_trans (List.length_filter_le _ _) (by rw [← ord_len]; have := ord_le (nm := nm) nm.length; lia)
set_option maxHeartbeats 2000000 in
theorem w_own {nm : Nm} (W : WF nm) (hlen : nm.length ≤ 9) (S : St prog w h₀ X Mu (envW L f c) s₀ s l ml) (M : MuW L Mu) (G : Glo mg mb h₀) (R : Rm A 4) (hsm : X sysModules) (hp : l.lookup ("points" : Str) = some (pD nm nm.length)) (hli : l.lookup ("line" : Str) = some (lineD nm))
    (kk : ∀ s', St prog w h₀ X Mu (envW L f c) s₀ s' (("own", ownD nm) :: l) ml → wpAny (model prog w) A (execs (lawR 11) (envW L f c)) Q E s') :
    wpAny (model prog w) A (execs (lawR 10) (envW L f c)) Q E s := by
  have hh := R.hh
  refine' x_assign (d := ownD nm) S rfl (Go.cast ?he ?hd) (cellW M.cel rfl rfl (by decide) (by decide)) rfl kk
  case he =>
    refine ev_dcomp (own := some "n") (cl := [("points", L + 1), ("line", L + 4)]) (lc := [("points", pD nm nm.length), ("line", lineD nm)]) (us := idxOf nm nm.length) (enc := fun n => .int ((n : Nat) : Int)) (bnd := fun n => [("n", .int ((n : Nat) : Int))]) (fun _ => true) (fun n => ((n : Nat) : Int)) (fun n => liD (ownL' nm nm.length n)) S hh rfl (fun _ => rfl) (fun _ => rfl)
      (by decide +kernel) rfl (ClIn.get ⟨rfl, rfl, trivial⟩) ⟨⟨hp, .inl rfl, .inl rfl, fun n => ⟨_, rfl, rfl⟩⟩, ⟨hli, .inl rfl, .inl rfl, fun n => ⟨_, rfl, rfl⟩⟩, trivial⟩ (sz_idx hlen) (fun C Dd u hu => .name (.inr ⟨rfl, C + 1, rfl, .inr (.inr ⟨rfl, rfl⟩)⟩)) (fun u hu => ⟨rfl, rfl, trivial⟩) (it_pts hsm hh (ev_v S hp rfl rfl rfl))
      (fun X' Mu' C i n s₁ ml' hX hu S' => ⟨rfl, fun _ => ⟨ev_v S' rfl rfl rfl rfl, ?inner⟩⟩)
    have hn : n ∈ idxOf nm nm.length := List.mem_of_getElem? hu
    have hlk : ((idxOf nm nm.length).map fun n => (((n : Nat) : Int), liD (lineL nm nm.length n))).lookup ((n : Nat) : Int) = some (liD (lineL nm nm.length n)) := dlookup _ _ hn
    refine ev_lcomp (own := none) (cl := [("points", L + 1), ("n", C + 1)]) (lc := [("n", .int ((n : Nat) : Int)), ("points", pD nm nm.length)]) (us := lineL nm nm.length n) (enc := fun n => .int ((n : Nat) : Int)) (bnd := fun n => [("m", .int ((n : Nat) : Int))]) (fun m => sdB (pp nm n) (pp nm m)) (fun m => .int ((m : Nat) : Int)) S' hh rfl (fun _ => rfl) (fun _ => rfl)
      (by decide +kernel) rfl (ClIn.get ⟨rfl, rfl, trivial⟩) ⟨⟨rfl, .inl rfl, .inl rfl, fun n => ⟨_, rfl, rfl⟩⟩, ⟨rfl, .inl rfl, .inl rfl, fun n => ⟨_, rfl, rfl⟩⟩, trivial⟩ (Nat.le_trans (Nat.le_trans (sz_line hlen n) (show 9 ≤ 1000 by decide)) (by decide)) (fun C Dd u hu => .name (.inl rfl)) (fun u hu => ⟨rfl, rfl, trivial⟩) (it_nm (it_lst hh (ev_item_dct (ev_v S' rfl rfl rfl rfl) (ev_v S' rfl rfl rfl rfl) hlk rfl)))
      (fun X2 Mu2 C2 i2 m s2 ml2 hX2 hu2 S2 => ⟨?tst, fun _ => ev_v S2 rfl rfl rfl rfl⟩)
    have hm : m ∈ idxOf nm nm.length := (List.mem_filter.mp (List.mem_of_getElem? hu2)).1
    have bd := pp_bd W n
    exact Go.castB (tst_of_ev (ev_side G ⟨rfl, rfl, rfl⟩ S2.base (R.le (by decide)) rfl (ev_pt hn (ev_v S2 rfl rfl rfl rfl) (ev_v S2 rfl rfl rfl rfl) rfl) (ev_pt hm (ev_v S2 rfl rfl rfl rfl) (ev_v S2 rfl rfl rfl rfl) rfl) bd.1.1 bd.1.2 bd.2.1 bd.2.2 rfl rfl) rfl) rfl
  case hd => exact dd_store _ (idx_nodup _)
end
end
end Mine

namespace Mine
section
open PySem PySem.W PySem.Calls PyProof.Rows
set_option maxRecDepth 100000
set_option linter.unusedVariables false
variable {prog : Program} {w : World}
section
variable {h₀ : Heap} {A : Around} {X X' Mu : Addr → Prop} {s₀ s : Shared} {l : List (Str × D)} {ml : List (Addr × D)} {E : Value → Shared → Prop} {mg mb : Str → Option Value} {Q : Flow → Shared → Prop} {L f c : Addr} {env : Env} {h : Heap}
@[reducible] noncomputable def lCk (nm : Nm) : List (Str × D) := [("own", ownD nm), ("line", lineD nm), ("left", leftD nm), ("entries", entsD nm nm.length), ("order", ordD nm nm.length), ("points", pD nm nm.length)]
theorem ord_at {nm : Nm} {i : Nat} (hi : i < (ordOf nm nm.length).length) : (((ordOf nm nm.length).map fun n => ((n : Nat) : Int)).map D.int)[((i : Nat) : Int).toNat]? = some (.int (((ordOf nm nm.length).getD i 0 : Nat) : Int)) := by
  rw [Int.toNat_natCast]; simp [hi]
theorem ent_at {nm : Nm} {i : Nat} (hi : i < (ordOf nm nm.length).length) : ((entsR nm nm.length).map Ent.D)[((i : Nat) : Int).toNat]? = some (entR nm nm.length i).D := by
  rw [Int.toNat_natCast]; unfold entsR; simp [hi]
theorem ev_lenl {e : Expr} {p pos : Pos} {ls : List Nat} (S : St prog w h₀ X Mu env s₀ s l ml) (G : Glo mg mb h₀) (F : FE env) (hx : env.kindOf "len" = some .globalImplicit) (he : Ev prog w A X env s.heap e (liD ls)) (hst : starEach [e] env = (false, eval e env) :: starEach [] env) (hs : ls.length ≤ 1000) :
    Ev prog w A X env s.heap (.Call (.Name "len" p) [e] [] pos) (.int ((ls.length : Nat) : Int)) := Go.cast (ev_len S G F hx he hst (by rw [List.length_map]; lia)) (by rw [List.length_map])
theorem sz_own {nm : Nm} (hlen : nm.length ≤ 9) (n : Nat) : (ownL' nm nm.length n).length ≤ 9 := Nat.le_trans (List.length_filter_le _ _) (sz_line hlen n)
theorem sz_left {nm : Nm} (hlen : nm.length ≤ 9) (n : Nat) : (leftL nm nm.length n).length ≤ 9 := Nat.le_trans (List.length_filter_le _ _) (by rw [← ord_len]; have := ord_le (nm := nm) nm.length; lia)
set_option maxHeartbeats 2000000 in
theorem w_check {nm : Nm} (W : WF nm) (hlen : nm.length ≤ 9) (S : St prog w h₀ X Mu (envW L f c) s₀ s (lCk nm) ml) (M : MuW L Mu) (G : Glo mg mb h₀) (R : Rm A 4) (hsm : X sysModules)
    (kk : ∀ s', St prog w h₀ X Mu (envW L f c) s₀ s' (lCk nm) ml → wpAny (model prog w) A (execs (lawR 12) (envW L f c)) Q E s') :
    wpAny (model prog w) A (execs (lawR 11) (envW L f c)) Q E s := by
  have hh := R.hh
  have F : FE (envW L f c) := ⟨rfl, rfl, rfl⟩
  have hol := ord_le (nm := nm) nm.length
  refine x_for S rfl (.inl rfl) (it_rng (a := 0) (b := ((ordOf nm nm.length).length : Nat)) (n := (ordOf nm nm.length).length) hh (ev_range1 S G F rfl (Go.cast (ev_len (ds := ((ordOf nm nm.length).map fun n => ((n : Nat) : Int)).map .int) S G F rfl (ev_v S rfl rfl rfl rfl) rfl (by simp; lia)) (by simp)) rfl) (rng_n _) (rng_small (by lia)))
    (fun i l' ml' => l' = lCk nm ∧ ml' = ml) ⟨rfl, rfl⟩ ?t1 ?d1
  case d1 =>
    rintro s' l' ml' ⟨rfl, rfl⟩ S4
    exact kk s' S4
  case t1 =>
    rintro X1 i d l₁ ml₁ s4 E4 hX1 hd ⟨rfl, rfl⟩ S4
    obtain ⟨hi, rfl⟩ := upTo0_get hd
    have hcol := ord_col (nm := nm) (N := nm.length) hi
    have c1 := check1 W hi
    have c2 := check2 W hi
    have hn : (ordOf nm nm.length).getD i 0 ∈ idxOf nm nm.length := by rw [getD_get hi]; exact (ord_inv nm.length).2.mem_iff.mp (List.getElem_mem hi)
    refine x_assign (d := .int (((ordOf nm nm.length).getD i 0 : Nat) : Int)) S4 rfl (ev_item_lst (ev_v S4 rfl rfl rfl rfl) (ev_v S4 rfl rfl rfl rfl) (by lia) (ord_at hi) (by lia) rfl) (cellW M.cel rfl rfl (by decide) (by decide)) rfl fun s5 S5 => ?k
    generalize (ordOf nm nm.length).getD i 0 = n at *
    have lkL : ((idxOf nm nm.length).map fun n => (((n : Nat) : Int), liD (leftL nm nm.length n))).lookup ((n : Nat) : Int) = some (liD (leftL nm nm.length n)) := dlookup _ _ hn
    have lkN : ((idxOf nm nm.length).map fun n => (((n : Nat) : Int), liD (lineL nm nm.length n))).lookup ((n : Nat) : Int) = some (liD (lineL nm nm.length n)) := dlookup _ _ hn
    have lkO : ((idxOf nm nm.length).map fun n => (((n : Nat) : Int), liD (ownL' nm nm.length n))).lookup ((n : Nat) : Int) = some (liD (ownL' nm nm.length n)) := dlookup _ _ hn
    have so := sz_own hlen n
    have sl := sz_left hlen n
    have sn := sz_line hlen n
    have own : ∀ {p1 p2 p3 : Pos} {s' : Shared} {l' : List (Str × D)}, l'.lookup ("own" : Str) = some (ownD nm) → l'.lookup ("n" : Str) = some (.int ((n : Nat) : Int)) → St prog w h₀ X1 Mu (envW L f c) s4 s' l' ml₁ → Ev prog w A X1 (envW L f c) s'.heap (.Subscript (.Name "own" p1) (.Name "n" p2) p3) (liD (ownL' nm nm.length n)) := fun {p1 p2 p3 s' l'} h1 h2 S' => ev_item_dct (ev_v S' h1 rfl rfl rfl) (ev_v S' h2 rfl rfl rfl) lkO rfl
    refine x_if (b := false) S5 (Go.castB (tst_ne (a := (entR nm nm.length i).b) (b := ((leftL nm nm.length n).length : Int) + (((ownL' nm nm.length n).filter fun m => decide (n < m)).length : Int)) (ev_item_tup (ev_item_lst (ev_v S5 rfl rfl rfl rfl) (ev_v S5 rfl rfl rfl rfl) (by lia) (ent_at hi) (by lia) rfl) ev_const_int (by decide) rfl (by decide) rfl)
      (ev_add (ev_lenl S5 G F rfl (ev_item_dct (ev_v S5 rfl rfl rfl rfl) (ev_v S5 rfl rfl rfl rfl) lkL rfl) rfl (by lia)) (ev_lenl S5 G F rfl ?cmp rfl (Nat.le_trans (List.length_filter_le _ _) (by lia)))) rfl) ?e1) fun s6 S6 => ?k2
    case cmp =>
      exact ev_lcomp (own := none) (cl := [("n", L + 2)]) (lc := [("n", .int ((n : Nat) : Int))]) (us := ownL' nm nm.length n) (enc := fun n => .int ((n : Nat) : Int)) (bnd := fun n => [("m", .int ((n : Nat) : Int))]) (fun m => decide (n < m)) (fun m => .int ((m : Nat) : Int)) S5 hh rfl (fun _ => rfl) (fun _ => rfl)
        (by decide +kernel) rfl (ClIn.get ⟨rfl, trivial⟩) ⟨⟨rfl, .inl rfl, .inl rfl, fun n => ⟨_, rfl, rfl⟩⟩, trivial⟩ (Nat.le_trans (show _ ≤ 1000 by lia) (by decide)) (fun C Dd u hu => .name (.inl rfl)) (fun u hu => ⟨rfl, trivial⟩) (it_nm (it_lst hh (own rfl rfl S5)))
        (fun X2 Mu2 C2 i2 m s2 ml2 hX2 hu2 S2 => ⟨Go.castB (tst_gt (ev_v S2 rfl rfl rfl rfl) (ev_v S2 rfl rfl rfl rfl) rfl) (decide_eq_decide.mpr (by lia)), fun _ => ev_v S2 rfl rfl rfl rfl⟩)
    case e1 =>
      have : (entR nm nm.length i).b = ((leftL nm nm.length n).length : Int) + (((ownL' nm nm.length n).filter fun m => decide (n < m)).length : Int) := c1
      rw [this]; simp
    refine x_nil ?_
    show wpAny _ _ (execs _ _) _ _ _
    refine x_if (b := false) S6 (Go.castB (tst_ne (a := (entR nm nm.length i).d) (b := ((lineL nm nm.length n).length : Int) - ((ownL' nm nm.length n).length : Int)) (ev_item_tup (ev_item_lst (ev_v S6 rfl rfl rfl rfl) (ev_v S6 rfl rfl rfl rfl) (by lia) (ent_at hi) (by lia) rfl) ev_const_int (by decide) rfl (by decide) rfl)
      (ev_sub (ev_lenl S6 G F rfl (ev_item_dct (ev_v S6 rfl rfl rfl rfl) (ev_v S6 rfl rfl rfl rfl) lkN rfl) rfl (by lia)) (ev_lenl S6 G F rfl (own rfl rfl S6) rfl (by lia))) rfl) ?e2) fun s7 S7 => ?k3
    case e2 =>
      have : (entR nm nm.length i).d = ((lineL nm nm.length n).length : Int) - ((ownL' nm nm.length n).length : Int) := c2
      rw [this]; simp
    exact x_nil (x_nil ⟨.inl rfl, _, _, ⟨rfl, rfl⟩, S7.to ⟨rfl, rfl, rfl, rfl, rfl, rfl, trivial⟩⟩)
end
end
end Mine

namespace Mine
section
open PySem PySem.W PySem.Calls PyProof.Rows
set_option maxRecDepth 100000
set_option linter.unusedVariables false
variable {prog : Program} {w : World}
section
variable {h₀ : Heap} {A : Around} {X X' Mu : Addr → Prop} {s₀ s : Shared} {l : List (Str × D)} {ml : List (Addr × D)} {E : Value → Shared → Prop} {mg mb : Str → Option Value} {Q : Flow → Shared → Prop} {L f c : Addr} {env : Env} {h : Heap}
theorem cast_contains (ls : List Nat) (m : Nat) : (ls.map fun n => ((n : Nat) : Int)).contains ((m : Nat) : Int) = ls.contains m := by
  rw [Bool.eq_iff_iff, List.contains_iff_mem, List.contains_iff_mem, List.mem_map]
  exact ⟨fun ⟨n, hn, e⟩ => Int.ofNat.inj e ▸ hn, fun h => ⟨m, h, rfl⟩⟩
theorem liD_cast (ls : List Nat) : liD ls = .lst ((ls.map fun n => ((n : Nat) : Int)).map .int) := by rw [liD, List.map_map]; rfl
theorem tst_in {e1 e2 : Expr} {pos : Pos} {m : Nat} {ls : List Nat} (h1 : Ev prog w A X env h e1 (.int ((m : Nat) : Int))) (h2 : Ev prog w A X env h e2 (liD ls)) (hm : behindInMarks .In e2 = false) : Tst prog w A X env h (.Compare e1 [.In] [e2] pos) (ls.contains m) :=
  Go.castB (tst_cmp h1 (Go.cast h2 (liD_cast ls)) (fun h' va vb g ra rb => op_in_ints ra rb) hm) (cast_contains ls m)
@[reducible] noncomputable def sumR (nm : Nm) : Ent := Ent.sum (entsR nm nm.length)
@[reducible] noncomputable def behDD (nm : Nm) : D := ddD (idxOf nm nm.length) fun m => .int (((behL nm nm.length m).length : Nat) : Int)
@[reducible] noncomputable def lT (nm : Nm) : List (Str × D) := [("table", diD (sumR nm).t), ("across", .int (sumR nm).d), ("pairs", .int (sumR nm).c), ("ahead", .int (sumR nm).b), ("every", .int (sumR nm).a), ("count", .int (((ordOf nm nm.length).length : Nat) : Int))]
theorem ents_bd {nm : Nm} (W : WF nm) (hlen : nm.length ≤ 9) : ∀ e ∈ entsR nm nm.length, e.t.length ≤ 20 := fun e he => by
  unfold entsR at he
  obtain ⟨i, hi, rfl⟩ := List.mem_map.mp he
  have hi := List.mem_range.mp hi
  rw [ent_t W hi]
  unfold tabR
  rw [List.length_map, List.length_range]
  have := near_lt (TT_mono (N := nm.length) W) hi
  have := ord_le (nm := nm) nm.length
  omega
set_option maxHeartbeats 2000000 in
theorem w_added {nm : Nm} (W : WF nm) (hlen : nm.length ≤ 9) (S : St prog w h₀ X Mu (envW L f c) s₀ s (lCk nm) ml) (M : MuW L Mu) (G : Glo mg mb h₀) (R : Rm A 4) (hsm : X sysModules)
    (kk : ∀ s', St prog w h₀ X Mu (envW L f c) s₀ s' (lT nm ++ lCk nm) ml → wpAny (model prog w) A (execs (lawR 14) (envW L f c)) Q E s') :
    wpAny (model prog w) A (execs (lawR 12) (envW L f c)) Q E s := by
  have hh := R.hh
  have F : FE (envW L f c) := ⟨rfl, rfl, rfl⟩
  have hol := ord_le (nm := nm) nm.length
  refine' x_assign (d := .int (((ordOf nm nm.length).length : Nat) : Int)) S rfl (Go.cast ?he ?hd) (.inl rfl) rfl fun s2 S2 => ?k
  case he => exact ev_lenD S G F hsm rfl (ev_v S rfl rfl rfl rfl) rfl (by rw [pts_len]; lia)
  case hd => rw [pts_len]
  refine x_unpack ["every", "ahead", "pairs", "across", "table"] (ds := [.int (sumR nm).a, .int (sumR nm).b, .int (sumR nm).c, .int (sumR nm).d, diD (sumR nm).t]) S2 hh rfl ?he2 rfl (memxs (by rfl)) rfl (fun s3 S3 => kk s3 S3) rfl rfl
  case he2 =>
    exact ev_fn G F S2.base rfl (by rfl) (evs_cons (ev_v S2 rfl rfl rfl rfl) evs_nil rfl) (fun h' vs f name qual doc pm an cd ct g' FF rr =>
      addedC hsm G (S2.base.trans g') (R.le (by decide)) FF rr (ents_bd W hlen) (by unfold entsR; rw [List.length_map, List.length_range]; lia)) (by rfl) rfl
set_option maxHeartbeats 2000000 in
theorem w_behind {nm : Nm} (W : WF nm) (hlen : nm.length ≤ 9) (S : St prog w h₀ X Mu (envW L f c) s₀ s l ml) (M : MuW L Mu) (G : Glo mg mb h₀) (R : Rm A 4) (hsm : X sysModules) (hp : l.lookup ("points" : Str) = some (pD nm nm.length)) (hle : l.lookup ("left" : Str) = some (leftD nm)) (how : l.lookup ("own" : Str) = some (ownD nm))
    (kk : ∀ s', St prog w h₀ X Mu (envW L f c) s₀ s' (("behind", behDD nm) :: l) ml → wpAny (model prog w) A (execs (lawR 15) (envW L f c)) Q E s') :
    wpAny (model prog w) A (execs (lawR 14) (envW L f c)) Q E s := by
  have hh := R.hh
  refine' x_assign (d := behDD nm) S rfl (Go.cast ?he ?hd) (cellW M.cel rfl rfl (by decide) (by decide)) rfl kk
  case he =>
    refine ev_dcomp (own := some "m") (cl := [("points", L + 1), ("own", L + 5), ("left", L + 3)]) (lc := [("points", pD nm nm.length), ("own", ownD nm), ("left", leftD nm)]) (us := idxOf nm nm.length) (enc := fun n => .int ((n : Nat) : Int)) (bnd := fun n => [("m", .int ((n : Nat) : Int))]) (fun _ => true) (fun n => ((n : Nat) : Int)) (fun m => .int (((behL nm nm.length m).length : Nat) : Int)) S hh rfl (fun _ => rfl) (fun _ => rfl)
      (by decide +kernel) rfl (ClIn.get ⟨rfl, rfl, rfl, trivial⟩) ⟨⟨hp, .inl rfl, .inl rfl, fun n => ⟨_, rfl, rfl⟩⟩, ⟨how, .inl rfl, .inl rfl, fun n => ⟨_, rfl, rfl⟩⟩, ⟨hle, .inl rfl, .inl rfl, fun n => ⟨_, rfl, rfl⟩⟩, trivial⟩ (sz_idx hlen) (fun C Dd u hu => .name (.inr ⟨rfl, C + 1, rfl, .inr (.inr ⟨rfl, rfl⟩)⟩)) (fun u hu => ⟨rfl, rfl, rfl, trivial⟩) (it_pts hsm hh (ev_v S hp rfl rfl rfl))
      (fun X' Mu' C i m s₁ ml' hX hu S' => ⟨rfl, fun _ => ⟨ev_v S' rfl rfl rfl rfl, ev_lenl S' G ⟨rfl, rfl, rfl⟩ rfl ?inner rfl ?sz⟩⟩)
    case sz => exact Nat.le_trans (List.length_filter_le _ _) (by rw [← ord_len]; have := ord_le (nm := nm) nm.length; lia)
    refine ev_lcomp (own := none) (cl := [("own", L + 5), ("m", C + 1), ("left", L + 3)]) (lc := [("m", .int ((m : Nat) : Int)), ("own", ownD nm), ("left", leftD nm)]) (us := idxOf nm nm.length) (enc := fun n => .int ((n : Nat) : Int)) (bnd := fun n => [("n", .int ((n : Nat) : Int))]) (behB nm nm.length m) (fun m => .int ((m : Nat) : Int)) S' hh rfl (fun _ => rfl) (fun _ => rfl)
      (by decide +kernel) rfl (ClIn.get ⟨rfl, rfl, rfl, trivial⟩) ⟨⟨rfl, .inl rfl, .inl rfl, fun n => ⟨_, rfl, rfl⟩⟩, ⟨rfl, .inl rfl, .inl rfl, fun n => ⟨_, rfl, rfl⟩⟩, ⟨rfl, .inl rfl, .inl rfl, fun n => ⟨_, rfl, rfl⟩⟩, trivial⟩ (sz_idx hlen) (fun C Dd u hu => .name (.inl rfl)) (fun u hu => ⟨rfl, rfl, rfl, trivial⟩) (it_pts (hX _ hsm) hh (ev_v S' rfl rfl rfl rfl))
      (fun X2 Mu2 C2 i2 n s2 ml2 hX2 hu2 S2 => ⟨?tst, fun _ => ev_v S2 rfl rfl rfl rfl⟩)
    have hn : n ∈ idxOf nm nm.length := List.mem_of_getElem? hu2
    have lkL : ((idxOf nm nm.length).map fun n => (((n : Nat) : Int), liD (leftL nm nm.length n))).lookup ((n : Nat) : Int) = some (liD (leftL nm nm.length n)) := dlookup _ _ hn
    have lkO : ((idxOf nm nm.length).map fun n => (((n : Nat) : Int), liD (ownL' nm nm.length n))).lookup ((n : Nat) : Int) = some (liD (ownL' nm nm.length n)) := dlookup _ _ hn
    exact tst_or2 (tst_in (ev_v S2 rfl rfl rfl rfl) (ev_item_dct (ev_v S2 rfl rfl rfl rfl) (ev_v S2 rfl rfl rfl rfl) lkL rfl) rfl) fun _ => tst_and2 (tst_in (ev_v S2 rfl rfl rfl rfl) (ev_item_dct (ev_v S2 rfl rfl rfl rfl) (ev_v S2 rfl rfl rfl rfl) lkO rfl) rfl) fun _ => Go.castB (tst_lt (ev_v S2 rfl rfl rfl rfl) (ev_v S2 rfl rfl rfl rfl) rfl) (decide_eq_decide.mpr (by lia))
  case hd => exact dd_store _ (idx_nodup _)
end
end
end Mine

namespace Mine
section
open PySem PySem.W PySem.Calls PyProof.Rows
set_option maxRecDepth 100000
set_option linter.unusedVariables false
variable {prog : Program} {w : World}
section
variable {h₀ : Heap} {A : Around} {X X' Mu : Addr → Prop} {s₀ s : Shared} {l : List (Str × D)} {ml : List (Addr × D)} {E : Value → Shared → Prop} {mg mb : Str → Option Value} {Q : Flow → Shared → Prop} {L f c : Addr} {env : Env} {h : Heap}
theorem it_dd {e : Expr} {x : Str} {px : Pos} {us : List Nat} {F : Nat → D} (hsm : X sysModules) (hh : A.handled = none) (he : Ev prog w A X env h e (ddD us F)) : Go prog w A X h (eval e env) fun h' v => Itn prog w A X h' v (.Name x px) true (us.map fun n => D.int ((n : Nat) : Int)) := by
  have e1 : ((us.map fun n => (((n : Nat) : Int), F n)).map fun q => D.int q.1) = us.map fun n => D.int ((n : Nat) : Int) := by rw [List.map_map]; rfl
  rw [← e1]
  exact it_nm (he.mono fun h' v g r => itb_keys hsm hh r)
theorem beh_store (nm : Nm) (N : Nat) : D.dct (storeAll (fun n => ((n : Nat) : Int)) (fun m => .int (((behL nm N m).length : Nat) : Int)) ((idxOf nm N).filter fun m => decide (0 < (behL nm N m).length))) = diD (behD nm N) := by
  rw [storeAll_nodup]
  · unfold diD behD; rw [List.map_map]; rfl
  · have nd : ((idxOf nm N).filter fun m => decide (0 < (behL nm N m).length)).Nodup := List.Pairwise.filter _ (idx_nodup N)
    unfold List.Nodup
    rw [List.pairwise_map]
    exact List.Pairwise.imp (fun hab e => hab (Int.ofNat.inj e)) nd
theorem cc_bd {n : Nat} (h : n ≤ 9) : -(2 ^ 64) < ((n : Nat) : Int) * (((n : Nat) : Int) - 1) ∧ ((n : Nat) : Int) * (((n : Nat) : Int) - 1) < 2 ^ 64 := by
  have : n = 0 ∨ n = 1 ∨ n = 2 ∨ n = 3 ∨ n = 4 ∨ n = 5 ∨ n = 6 ∨ n = 7 ∨ n = 8 ∨ n = 9 := by lia
  rcases this with rfl | rfl | rfl | rfl | rfl | rfl | rfl | rfl | rfl | rfl <;> decide
@[reducible] noncomputable def lE (nm : Nm) : List (Str × D) := ("behind", behDD nm) :: (lT nm ++ lCk nm)
set_option maxHeartbeats 2000000 in
theorem w_end {nm : Nm} (W : WF nm) (hlen : nm.length ≤ 9) (h8 : (ordOf nm nm.length).length ≤ 8) (S : St prog w h₀ X Mu (envW L f c) s₀ s (lE nm) ml) (M : MuW L Mu) (G : Glo mg mb h₀) (R : Rm A 4) (hsm : X sysModules)
    (kk : ∀ s' l', St prog w h₀ X Mu (envW L f c) s₀ s' l' ml → Q (.ret (.bool true)) s') :
    wpAny (model prog w) A (execs (lawR 15) (envW L f c)) Q E s := by
  have hh := R.hh
  have F : FE (envW L f c) := ⟨rfl, rfl, rfl⟩
  have hol := ord_le (nm := nm) nm.length
  have hu : A.units < cLine := by have := R.un; lia
  obtain ⟨t1, t2⟩ := law_table (N := nm.length) W
  have hcalls := law_calls (N := nm.length) W
  have hahead := law_ahead (N := nm.length) W
  have hevery := tot_a nm nm.length
  have htri := law_tri W h8
  refine x_if (b := false || false) S (tst_or2 (tst_cmp (ev_v S rfl rfl rfl rfl) ?dc (fun h' va vb gg ra rb => op_ne_dct (da := (sumR nm).t) (db := behD nm nm.length) hsm hu ra rb t1 t2) rfl) fun _ => Go.castB (tst_ne (a := sumV (sumR nm).t) (b := (sumR nm).b) ?cc (ev_v S rfl rfl rfl rfl) rfl) (by rw [hcalls]; simp)) fun s2 S2 => ?k
  case dc =>
    exact Go.cast (ev_dcomp (own := none) (cl := [("behind", L + 6)]) (lc := [("behind", behDD nm)]) (us := idxOf nm nm.length) (enc := fun n => .int ((n : Nat) : Int)) (bnd := fun n => [("m", .int ((n : Nat) : Int))]) (fun m => decide (0 < (behL nm nm.length m).length)) (fun n => ((n : Nat) : Int)) (fun m => .int (((behL nm nm.length m).length : Nat) : Int)) S hh rfl (fun _ => rfl) (fun _ => rfl)
      (by decide +kernel) rfl (ClIn.get ⟨rfl, trivial⟩) ⟨⟨rfl, .inl rfl, .inl rfl, fun n => ⟨_, rfl, rfl⟩⟩, trivial⟩ (sz_idx hlen) (fun C Dd u hu => .name (.inl rfl)) (fun u hu => ⟨rfl, trivial⟩) (it_dd hsm hh (ev_v S rfl rfl rfl rfl))
      (fun X' Mu' C i m s₁ ml' hX hu S' => by
        have hm : m ∈ idxOf nm nm.length := List.mem_of_getElem? hu
        have lk : ((idxOf nm nm.length).map fun n => (((n : Nat) : Int), D.int (((behL nm nm.length n).length : Nat) : Int))).lookup ((m : Nat) : Int) = some (.int (((behL nm nm.length m).length : Nat) : Int)) := dlookup _ _ hm
        exact ⟨Go.castB (tst_gt (ev_item_dct (ev_v S' rfl rfl rfl rfl) (ev_v S' rfl rfl rfl rfl) lk rfl) ev_const_int rfl) (decide_eq_decide.mpr (by lia)), fun _ => ⟨ev_v S' rfl rfl rfl rfl, ev_item_dct (ev_v S' rfl rfl rfl rfl) (ev_v S' rfl rfl rfl rfl) lk rfl⟩⟩)) (beh_store nm nm.length)
  case cc =>
    exact ev_fn G F S.base rfl (by rfl) (evs_cons (ev_v S rfl rfl rfl rfl) evs_nil rfl) (fun h' vs f name qual doc pm an cd ct g' FF rr => countC hsm G (S.base.trans g') (R.le (by decide)) FF rr) (by rfl) rfl
  refine x_nil ?_
  show wpAny _ _ (execs _ _) _ _ _
  refine x_if (b := false || false) S2 (tst_or2 (Go.castB (tst_ne (a := (sumR nm).a) (b := (((ordOf nm nm.length).length : Nat) : Int)) (ev_v S2 rfl rfl rfl rfl) (ev_v S2 rfl rfl rfl rfl) rfl) (by rw [hevery]; simp)) fun _ =>
    Go.castB (tst_ne (a := (sumR nm).b) (b := Int.fdiv ((((ordOf nm nm.length).length : Nat) : Int) * ((((ordOf nm nm.length).length : Nat) : Int) - 1)) 2 - Int.fdiv (sumR nm).d 2) (ev_v S2 rfl rfl rfl rfl)
      (ev_sub (ev_fdiv (ev_mul (ev_v S2 rfl rfl rfl rfl) (ev_sub (ev_v S2 rfl rfl rfl rfl) ev_const_int) (by lia) (by lia)) ev_const_int (by decide) (by decide)) (ev_fdiv (ev_v S2 rfl rfl rfl rfl) ev_const_int (by decide) (by decide))) rfl) (by rw [hahead]; simp)) fun s3 S3 => ?k2
  refine x_nil ?_
  show wpAny _ _ (execs _ _) _ _ _
  have bd := cc_bd (n := (ordOf nm nm.length).length) (by lia)
  have e2 : (((ordOf nm nm.length).map fun n => ((n : Nat) : Int)).map D.int) = (ordOf nm nm.length).map fun n => D.int ((n : Nat) : Int) := by rw [List.map_map]; rfl
  refine' x_ret (d := .bool true) S3 (Go.cast (ev_eq (a := Int.fdiv ((((ordOf nm nm.length).length : Nat) : Int) * ((((ordOf nm nm.length).length : Nat) : Int) - 1) * ((((ordOf nm nm.length).length : Nat) : Int) - 2)) 6 - (sumR nm).c) (b := ((cntI ((ordOf nm nm.length).map (pp nm)) (ordOf nm nm.length).length : Nat) : Int))
      (ev_sub (ev_fdiv (ev_mul (ev_mul (ev_v S3 rfl rfl rfl rfl) (ev_sub (ev_v S3 rfl rfl rfl rfl) ev_const_int) (by lia) (by lia)) (ev_sub (ev_v S3 rfl rfl rfl rfl) ev_const_int) bd.1 bd.2) ev_const_int (by decide) (by decide)) (ev_v S3 rfl rfl rfl rfl)) (Go.cast ?tri ?td) rfl) ?eq) fun s' v S' r => ?k3
  case tri =>
    exact ev_fn G F S3.base rfl (by rfl) (evs_cons (Go.cast (d' := .lst (((ordOf nm nm.length).map (pp nm)).map ptD)) (ev_lcomp (own := none) (cl := [("points", L + 1)]) (lc := [("points", pD nm nm.length)]) (us := ordOf nm nm.length) (enc := fun n => .int ((n : Nat) : Int)) (bnd := fun n => [("n", .int ((n : Nat) : Int))]) (fun _ => true) (fun n => ptD (pp nm n)) S3 hh rfl (fun _ => rfl) (fun _ => rfl)
      (by decide +kernel) rfl (ClIn.get ⟨rfl, trivial⟩) ⟨⟨rfl, .inl rfl, .inl rfl, fun n => ⟨_, rfl, rfl⟩⟩, trivial⟩ (Nat.le_trans (show _ ≤ 1000 by lia) (by decide)) (fun C Dd u hu => .name (.inl rfl)) (fun u hu => ⟨rfl, trivial⟩) (it_nm (it_lst hh (Go.cast (ev_v S3 (d := ordD nm nm.length) rfl rfl rfl rfl) (congrArg D.lst e2))))
      (fun X' Mu' C i n s₁ ml' hX hu S' => ⟨rfl, fun _ => ev_pt ((ord_inv nm.length).2.mem_iff.mp (List.mem_of_getElem? hu)) (ev_v S' rfl rfl rfl rfl) (ev_v S' rfl rfl rfl rfl) rfl⟩)) (by rw [filter_all, List.map_map]; rfl)) evs_nil rfl)
      (fun h' vs f name qual doc pm an cd ct g' FF rr => triC G (S3.base.trans g') (R.le (by decide)) FF rr (fun q hq => by obtain ⟨n, _, rfl⟩ := List.mem_map.mp hq; exact pp_bd W n) (by rw [List.length_map]; lia)) (by rfl) rfl
  case td => rw [List.length_map]
  case eq => rw [htri]; simp
  (first | apply r.kVal | apply r.kInt; intro _ | apply r.kFlt; intro _ _ | apply r.kBool | apply r.kNone | apply r.kNil | cases r)
  exact kk s' _ S'
end
end
end Mine

namespace Mine
section
open PySem PySem.W PySem.Calls PyProof.Rows
set_option maxRecDepth 100000
set_option linter.unusedVariables false
variable {prog : Program} {w : World}
theorem nmOf_len (ns : List Int) : (nmOf ns).length ≤ 9 := by
  unfold nmOf ysOf
  rw [List.length_map, List.length_append, List.length_map, List.length_take]
  show _ + 6 ≤ 9
  lia
theorem nmOf_wf (ns : List Int) : WF (nmOf ns) := by
  have key : ∀ q ∈ nmOf ns, ∃ y, q = (Int.fmod y 64, Int.fmod (Int.fdiv y 64) 3, 1 + Int.fmod (Int.fdiv y 192) 4) := fun q hq => by
    unfold nmOf at hq
    obtain ⟨y, _, rfl⟩ := List.mem_map.mp hq
    exact ⟨y, rfl⟩
  refine ⟨fun q hq => ?_, fun q hq => ?_, fun q hq => ?_⟩
  · obtain ⟨y, rfl⟩ := key q hq
    show 0 ≤ Int.fmod y 64 ∧ _
    rw [Int.fmod_eq_emod_of_nonneg _ (by decide)]; lia
  · obtain ⟨y, rfl⟩ := key q hq
    show 0 ≤ Int.fmod (Int.fdiv y 64) 3 ∧ Int.fmod (Int.fdiv y 64) 3 < 3
    rw [Int.fmod_eq_emod_of_nonneg _ (by decide)]; lia
  · obtain ⟨y, rfl⟩ := key q hq
    show 1 ≤ 1 + Int.fmod (Int.fdiv y 192) 4 ∧ 1 + Int.fmod (Int.fdiv y 192) 4 ≤ 4
    rw [Int.fmod_eq_emod_of_nonneg _ (by decide)]; lia
theorem nmOf_count (ns : List Int) : 5 ≤ (ordOf (nmOf ns) (nmOf ns).length).length ∧ (ordOf (nmOf ns) (nmOf ns).length).length ≤ 8 := by
  rw [ord_len, count_idx]
  unfold nmOf ysOf
  rw [List.map_append, List.countP_append]
  have e : (([704, 277, 555, 693, 64, 389] : List Int).map fun y => (Int.fmod y 64, Int.fmod (Int.fdiv y 64) 3, 1 + Int.fmod (Int.fdiv y 192) 4)).countP (fun q => decide (q.2.1 ≠ 0)) = 5 := by decide +kernel
  rw [e]
  have := List.countP_le_length (p := fun q : Int × Int × Int => decide (q.2.1 ≠ 0)) (l := ((ns.take 3).map fun x => Int.fmod x 1000000).map fun y => (Int.fmod y 64, Int.fmod (Int.fdiv y 64) 3, 1 + Int.fmod (Int.fdiv y 192) 4))
  rw [List.length_map, List.length_map, List.length_take] at this
  omega
section
variable {h₀ : Heap} {A : Around} {X Mu : Addr → Prop} {s₀ s : Shared} {l : List (Str × D)} {E : Value → Shared → Prop} {mg mb : Str → Option Value} {Q : Flow → Shared → Prop} {L f c : Addr}
theorem w_law {a : Addr} {vs : List Value} {ns : List Int} (S : St prog w h₀ X Mu (envW L f c) s₀ s l [(132, .tab [])]) (M : MuW L Mu) (G : Glo mg mb h₀) (R : Rm A 4) (hsm : X sysModules) (C : CodeHd h₀ c 132) (hb : h₀.BuiltinsAt mg 132)
    (hsc : l.lookup ("script" : Str) = some (.val (.ref a))) (hL : h₀.IsList a vs.toArray) (hi : IntsAre vs ns) (hlen : ns.length ≤ 63)
    (kk : ∀ s' l' cs, St prog w h₀ X Mu (envW L f c) s₀ s' l' [(132, .tab cs)] → Q (.ret (.bool true)) s') :
    wpAny (model prog w) A (execs lawB (envW L f c)) Q E s := by
  have W := nmOf_wf ns
  have hn9 := nmOf_len ns
  have hcn := nmOf_count ns
  refine w_names (l := l) S R.hh M.cel hsc hL hi hlen fun s1 S1 => ?_
  generalize nmOf ns = nm at *
  refine w_loop W hn9 S1 M G R hsm C hb fun s2 cs hcs S2 => ?_
  refine w_ring S2 R.hh rfl (by lia) fun s3 S3 => ?_
  refine w_sorted W hn9 (by lia) S3 G R hsm C hb hcs rfl rfl rfl rfl fun s4 cs4 S4 => ?_
  refine w_left W hn9 S4 M G R hsm rfl fun s5 S5 => ?_
  refine w_line W hn9 S5 M G R hsm rfl fun s6 S6 => ?_
  refine w_own W hn9 S6 M G R hsm rfl rfl fun s7 S7 => ?_
  have S7 : St prog w h₀ X Mu (envW L f c) s₀ s7 (lCk nm) [(132, .tab cs4)] := S7.to ⟨rfl, rfl, rfl, rfl, rfl, rfl, trivial⟩
  refine w_check W hn9 S7 M G R hsm fun s8 S8 => ?_
  refine w_added W hn9 S8 M G R hsm fun s9 S9 => ?_
  refine w_behind W hn9 S9 M G R hsm rfl rfl rfl fun s10 S10 => ?_
  exact w_end W hn9 (by lia) S10 M G R hsm fun s11 l' S11 => kk s11 l' cs4 S11
end
end
end Mine

namespace Mine
section
open PySem PySem.W PySem.Calls PyProof.Rows
set_option maxRecDepth 100000
set_option linter.unusedVariables false
variable {prog : Program} {w : World}
theorem newFE1 {M : Model} {A : Around} {E : Value → Shared → Prop} {s : Shared} {scope : Scope} {globals : Addr} {x : Str} {v : Value} {qual : Str} {func : Option Addr} {code : Value} {builtins : Addr} {Q : Env → Shared → Prop}
    (hk : scope.kind = .function) (hx : scope.names.lookup x = some .local)
    (hQ : ∀ h', h'.Ns s.heap.objs.size (fun y => if y = x then some v else none) → (∀ n c, (cellsFrom (s.heap.objs.size + 1) scope.names []).lookup n = some c → h'.IsCell c none) → Grow s.heap h' →
      Q (newEnv scope s.heap.objs.size globals (cellsFrom (s.heap.objs.size + 1) scope.names []) qual func code none builtins) { s with heap := h', toks := s.toks + 1 }) :
    wpAny M A (newFunctionEnv scope globals [] [(x, v)] qual func code none builtins) Q E s := by
  simp only [newFunctionEnv, Option.isSome_none, Bool.false_eq_true, if_false]
  refine wpAny_bind (wpAny_alloc ?_)
  refine wpAny_bind (wpAny_layCells _ (fun name kind cells => by cases hkc : kind == NameKind.cell <;> rfl) _ _ _ _ ?_)
  have ok := cellsFrom_ok scope.names (s.heap.push { cls := .type "frame", data := .dict #[] }) (s.heap.objs.size + 1) [] ⟨fun _ _ hm => (nomatch hm), List.Pairwise.nil⟩ (by rw [Heap.size_push]; exact Nat.le_refl _)
  rw [Heap.size_push] at ok
  rw [show ({ s with heap := s.heap.push { cls := .type "frame", data := .dict #[] } } : Shared).heap.objs.size = s.heap.objs.size + 1 from Heap.size_push ..]
  have hn := (Heap.Ns.new s.heap (.type "frame")).keeps (pushCells_keeps scope.names (s.heap.push { cls := .type "frame", data := .dict #[] }))
  have kp : Grow s.heap (pushCells (s.heap.push { cls := .type "frame", data := .dict #[] }) scope.names) := fun b o e => pushCells_keeps _ _ b o (Heap.get?_push_of_some _ e)
  refine wpAny_bind ?_
  rw [List.forIn_cons]
  refine wpAny_bind (wpAny_bind (wpAny_storeName_local (env := newEnv scope s.heap.objs.size globals (cellsFrom (s.heap.objs.size + 1) scope.names []) qual func code none builtins) hx hn (fun h' hn' hs' => ?_) (by show (scope.kind == .class || (scope.kind == .module && _ != _)) = false; rw [hk]; rfl)))
  refine wpAny_pure ?_
  dsimp only
  rw [List.forIn_nil]
  refine wpAny_pure (wpAny_pure ?_)
  refine hQ h' hn' (fun n c hc => ?_) (fun b o e => (hs'.2 b (Nat.ne_of_lt (Heap.lt_size e))).trans (kp b o e))
  obtain ⟨⟨o, ho, hd⟩, hlt⟩ := ok.empty n c (mem_of_lookup hc)
  exact ⟨o, (hs'.2 c (Nat.ne_of_gt (Nat.lt_of_succ_le hlt))).trans ho, hd⟩
theorem cellsW_eq (L : Addr) : cellsFrom (L + 1) (scopeOf (stmtAt 20)).names [] = cellsW L := rfl
theorem cellsW_mem {L : Addr} {x : Str} {c : Addr} (h : (cellsW L).lookup x = some c) : L < c ∧ c ≤ L + 7 := by
  have := lookup_mem h
  simp only [cellsW, List.mem_cons, Prod.mk.injEq, List.not_mem_nil, or_false] at this
  rcases this with ⟨_, rfl⟩ | ⟨_, rfl⟩ | ⟨_, rfl⟩ | ⟨_, rfl⟩ | ⟨_, rfl⟩ | ⟨_, rfl⟩ | ⟨_, rfl⟩
  all_goals exact ⟨Nat.lt_add_of_pos_right (by decide), Nat.add_le_add_left (by decide) L⟩
theorem cellsW_apart (L : Addr) : (cellsW L).Pairwise fun x y => x.2 ≠ y.2 := by
  have key : ∀ a b : Nat, a ≠ b → L + a ≠ L + b := fun a b h e => h (Nat.add_left_cancel e)
  refine .cons ?_ (.cons ?_ (.cons ?_ (.cons ?_ (.cons ?_ (.cons ?_ (.cons (fun y hy => by cases hy) .nil))))))
  all_goals
    intro y hy
    simp only [List.mem_cons, List.not_mem_nil, or_false] at hy
    rcases hy with rfl | rfl | rfl | rfl | rfl | rfl
  all_goals exact key _ _ (by decide)
@[reducible] noncomputable def MuL (L : Addr) : Addr → Prop := fun b => b = L ∨ (L < b ∧ b ≤ L + 7) ∨ b = 132
@[reducible] noncomputable def XL' (L : Addr) : Addr → Prop := fun b => MuL L b ∨ b = sysModules
theorem seven {b L : Nat} (q1 : L < b) (q2 : b ≤ L + 7) : b = L + 1 ∨ b = L + 2 ∨ b = L + 3 ∨ b = L + 4 ∨ b = L + 5 ∨ b = L + 6 ∨ b = L + 7 := by lia
theorem law_call {s₁ : Shared} {h₀ : Heap} {a f : Addr} {vs : List Value} {ns : List Int} {R : Result → Shared → Prop} {doc pm ct : Value} {an : Option Addr} {mg mb : Str → Option Value}
    (F : FnAt s₁.heap f (fdOf 20 "law" "law" .none .none doc pm an (.ref 134) ct)) (sub : Grow h₀ s₁.heap) (h132 : s₁.heap.get? 132 = some (tabObj #[])) (n132 : h₀.get? 132 = none)
    (G : Glo mg mb h₀) (C : CodeHd h₀ 134 132) (hb : h₀.BuiltinsAt mg 132) (hL : h₀.IsList a vs.toArray) (hi : IntsAre vs ns) (hlen : ns.length ≤ 63)
    (kk : ∀ h' tk ps, Grow h₀ h' → h'.get? 132 = some (tabObj ps) → R (.ok (.ret (.bool true))) { s₁ with heap := h', toks := tk }) :
    codeAny (model prog w) callerA (.call (.ref f) ⟨[.ref a], []⟩) R s₁ := by
  obtain ⟨o, ho, hd⟩ := F.here
  refine codeAny_call_function (fd := fdOf 20 "law" "law" .none .none doc pm an (.ref 134) ct) (by decide) ho hd rfl rfl rfl F.code ?_
  have hbind : bindArgs (fdOf 20 "law" "law" .none .none doc pm an (.ref 134) ct) ⟨[.ref a], []⟩ = pure [(("script" : Str), Value.ref a)] := rfl
  rw [hbind]
  refine wpAny_pure (newFE1 rfl rfl fun h' hn hc kp => ⟨((G.lim.keeps sub).keeps kp), codeAny_func ?_⟩)
  rw [cellsW_eq] at hc ⊢
  show wpAny (model prog w) (callerA.deeper (envW s₁.heap.objs.size f 134)) (execs lawB (envW s₁.heap.objs.size f 134)) _ _ _
  generalize eL : s₁.heap.objs.size = L at *
  have l132 : (132 : Nat) < L := by rw [← eL]; exact Heap.lt_size h132
  have new0 : ∀ b, MuL L b → h₀.get? b = none := fun b hb' => by
    have above : L ≤ b → h₀.get? b = none := fun hle => by
      cases q : h₀.get? b with
      | none => rfl
      | some o => have := Heap.lt_size (sub _ _ q); rw [eL] at this; exact absurd this (Nat.not_lt.mpr hle)
    rcases hb' with rfl | ⟨q, _⟩ | rfl
    · exact above (Nat.le_refl _)
    · exact above (Nat.le_of_lt q)
    · exact n132
  have base : Grow h₀ h' := sub.trans kp
  have there : ∀ b, MuL L b → ∃ o, h'.get? b = some o := fun b hb' => by
    rcases hb' with rfl | ⟨q1, q2⟩ | rfl
    · exact ns_there hn
    · rcases seven q1 q2 with rfl | rfl | rfl | rfl | rfl | rfl | rfl
      · exact isCell_there (hc "points" _ rfl)
      · exact isCell_there (hc "n" _ rfl)
      · exact isCell_there (hc "left" _ rfl)
      · exact isCell_there (hc "line" _ rfl)
      · exact isCell_there (hc "own" _ rfl)
      · exact isCell_there (hc "behind" _ rfl)
      · exact isCell_there (hc "names" _ rfl)
    · exact ⟨_, kp _ _ h132⟩
  have S : St prog w h₀ (XL' L) (MuL L) (envW L f 134) { s₁ with heap := h', toks := s₁.toks + 1 } { s₁ with heap := h', toks := s₁.toks + 1 } [("script", .val (.ref a))] [(132, .tab [])] := by
    refine ⟨⟨h', _, rfl⟩, fun b o _ e => e, ⟨?_, fun b hb' => ?_⟩, ⟨_, hn⟩, fun b hb' => .inl hb', .inl rfl, fun x c hx => ⟨⟨_, hc x c hx⟩, trivial⟩, fun x y c hx hy => ?_, fun x d hx => ?_, fun q hq => ?_, List.pairwise_singleton _ _, base, Nat.succ_pos _, new0⟩
    · obtain ⟨mc, hns, _⟩ := G.lim
      obtain ⟨o, e⟩ := ns_there hns
      exact ⟨o, base _ _ e⟩
    · rcases hb' with hb' | rfl
      · exact .inr (there b hb')
      · exact .inl (by decide)
    · exact name_of_addr (cellsW_apart L) (mem_of_lookup hx) (mem_of_lookup hy)
    · rw [List.lookup_cons] at hx
      split at hx
      · rename_i e1
        cases hx
        rw [beq_iff_eq.mp e1]
        exact .inl ⟨rfl, _, _, hn, if_pos rfl, .val _⟩
      · cases hx
    · rw [List.mem_singleton.mp hq]
      exact ⟨.inr (.inr rfl), Nat.ne_of_lt l132, kp _ _ h132, fun q hq => by cases hq⟩
  have M : MuW L (MuL L) := ⟨.inl rfl, fun c h1 h2 => .inr (.inl ⟨h1, h2⟩), .inr (.inr rfl)⟩
  have Rr : Rm (callerA.deeper (envW L f 134)) 4 := ⟨rfl, by show 1 + claimMargin + 1 + 4 < recursionLimit; decide, by show 4 + 3 + 4 * 4 + 200 < cLine; decide +kernel⟩
  refine w_law (c := 134) S M G Rr (.inr rfl) C hb rfl hL hi hlen fun s' l' cs S' => ?_
  obtain ⟨h2, t2, e2⟩ := S'.same
  have e3 : s' = { s₁ with heap := h2, toks := t2 } := e2
  subst e3
  exact kk h2 t2 _ S'.base (S'.muts _ (.head _)).2.2.1
end
end Mine

namespace Mine
section
open PySem PySem.W PySem.Calls PyProof.Rows
set_option maxRecDepth 100000
set_option linter.unusedVariables false
noncomputable def fnIn (K : Frag) (f : Addr) : Option FuncData := match K.lookup f with
  | some ⟨_, _, .func fd, _⟩ => some fd
  | _ => none
noncomputable def recIn (K : Frag) (cd : Value) (q : Str) : Bool := match cd with
  | .ref c => (match K.lookup c with
    | some ⟨_, _, .fields vs, _⟩ => (match (vs[1]? : Option Value) with
      | some (.str q' _) => q' == q
      | _ => false)
    | _ => false)
  | _ => false
structure FnK (K : Frag) (x : Str) (i : Nat) (f : Addr) (name qual : Str) (dV kV doc pm : Value) (an : Option Addr) (cd ct : Value) : Prop where
  a : nsIn K mainGlobals x = some (some (.ref f))
  b : fnIn K f = some (fdOf i name qual dV kV doc pm an cd ct)
  c : recIn K cd qual = true
section
variable {K : Frag} {h : Heap} {x : Str} {i : Nat} {f : Addr} {name qual : Str} {dV kV doc pm : Value} {an : Option Addr} {cd ct : Value} {mg mb : Str → Option Value}
theorem rec_of (X : K.In h) {q : Str} (e : recIn K cd q = true) : h.CodeRec cd q := by
  unfold recIn at e
  split at e
  · rename_i c
    split at e
    · rename_i vs _ hk
      split at e
      · rename_i q' t hv
        have : q' = q := beq_iff_eq.mp e
        subst this
        exact ⟨c, _, vs, t, rfl, X _ _ hk, rfl, hv⟩
      · cases e
    · cases e
  · cases e
theorem FnK.at (k : FnK K x i f name qual dV kV doc pm an cd ct) (X : K.In h) : FnAt h f (fdOf i name qual dV kV doc pm an cd ct) := by
  refine ⟨?_, rec_of X k.c⟩
  have e := k.b
  unfold fnIn at e
  split at e
  · rename_i fd _ hk
    cases e
    exact ⟨_, X _ _ hk, rfl⟩
  · cases e
noncomputable def AllQ {α : Type} (p : α → Prop) : List α → Prop
  | [] => True
  | q :: r => p q ∧ AllQ p r
theorem AllQ.get {α : Type} {p : α → Prop} : ∀ {l : List α}, AllQ p l → ∀ q ∈ l, p q
  | q :: r, h, x, hx => by
    rcases List.mem_cons.mp hx with rfl | hx
    · exact h.1
    · exact AllQ.get h.2 x hx
noncomputable def BiK (K : Frag) (q : Str × Value) : Prop := nsIn K mainGlobals q.1 = some none ∧ bootBuiltins q.1 = some q.2 ∧ q.1 ≠ "__name__"
noncomputable def FnE (K : Frag) (q : Str × Nat) : Prop := ∃ f name qual doc pm an cd ct, FnK K q.1 q.2 f name qual .none .none doc pm an cd ct
noncomputable def BsE (K : Frag) (q : Str × Nat) : Prop := ∃ f name qual dV kV doc pm an cd ct t, FnK K q.1 q.2 f name qual dV kV doc pm an cd ct ∧
  (∀ S (a b : Value), peek K S (bindArgs (fdOf q.2 name qual dV kV doc pm an cd ct) ⟨[a, b], []⟩) = some ([("a" : Str), "x", "lo", "hi", "key"].zip [a, b, .int 0 t, .none, .none])) ∧
  (∀ S (a b k : Value), peek K S (bindArgs (fdOf q.2 name qual dV kV doc pm an cd ct) ⟨[a, b], [("key", k)]⟩) = some ([("a" : Str), "x", "lo", "hi", "key"].zip [a, b, .int 0 t, .none, k])) ∧
  (∀ S (a b c d k : Value), peek K S (bindArgs (fdOf q.2 name qual dV kV doc pm an cd ct) ⟨[a, b, c, d], [("key", k)]⟩) = some ([("a" : Str), "x", "lo", "hi", "key"].zip [a, b, c, d, k]))
theorem glo_of (X : K.In h) (g : h.Ns mainGlobals mg) (b : h.Ns builtinsNs mb) (hbi : ∀ x : Str, x ≠ "__name__" → mb x = bootBuiltins x) (lim : h.NoLimit) (e2 : nsIn K cStatics sharingNotToldKey = some none)
    (h1 : AllQ (BiK K) biTab) (h2 : AllQ (FnE K) fnTab) (h3 : AllQ (BsE K) bsTab) : Glo mg mb h where
  g := g
  b := b
  lim := lim
  bk := let ⟨mc, hn, _⟩ := lim; ⟨mc, hn, ns_none_of X hn e2⟩
  bi := fun x v e => by
    obtain ⟨q1, q2, q3⟩ := h1.get _ (lookup_mem e)
    exact ⟨ns_none_of X g q1, (hbi x q3).trans q2⟩
  fn := fun x i e => by
    obtain ⟨f, name, qual, doc, pm, an, cd, ct, k⟩ := h2.get _ (lookup_mem e)
    exact ⟨f, name, qual, doc, pm, an, cd, ct, mg_of X g k.a, k.at X⟩
  bs := fun x i e => by
    obtain ⟨f, name, qual, dV, kV, doc, pm, an, cd, ct, t, k, b1, b2, b3⟩ := h3.get _ (lookup_mem e)
    exact ⟨f, name, qual, dV, kV, doc, pm, an, cd, ct, t, mg_of X g k.a, k.at X, fun s a b gg => kp_binds (Frag.In.keeps X gg) fun S => b1 S a b, fun s a b k' gg => kp_binds (Frag.In.keeps X gg) fun S => b2 S a b k', fun s a b c d k' gg => kp_binds (Frag.In.keeps X gg) fun S => b3 S a b c d k'⟩
end
end
end Mine

namespace Mine
section
open PySem PySem.W PySem.Calls PyProof.Rows
set_option maxRecDepth 100000
set_option linter.unusedVariables false
variable {prog : Program} {w : World}
theorem law_join {K : Frag} {s₁ : Shared} {mg mb : Str → Option Value} {a f fa : Addr} {vs : List Value} {ns : List Int} {R : Result → Shared → Prop} {doc pm ct : Value} {an : Option Addr}
    (KX : K.In s₁.heap) (hK : noTabs K = true) (hT9 : TabsAt [(134, 132)] s₁.heap) (Tg : s₁.heap.Ns mainGlobals mg) (Tb : s₁.heap.Ns builtinsNs mb) (hbi : ∀ x : Str, x ≠ "__name__" → mb x = bootBuiltins x) (lim : s₁.heap.NoLimit)
    (hbm : ∃ bm ob, mg "__builtins__" = some (.ref bm) ∧ bm ≠ builtinsNs ∧ s₁.heap.get? bm = some ob ∧ ob.cls = .type "module" ∧ ob.dict = some builtinsNs ∧ ob.data = .plain)
    (e2 : nsIn K cStatics sharingNotToldKey = some none) (h1 : AllQ (BiK K) biTab) (h2 : AllQ (FnE K) fnTab) (h3 : AllQ (BsE K) bsTab)
    (hlaw : FnK K "law" 20 f "law" "law" .none .none doc pm an (.ref 134) ct) (hmg : mg "law" = some (.ref fa)) (hLs : s₁.heap.IsList a vs.toArray) (hi : IntsAre vs ns) (hlen : ns.length ≤ 63)
    (kk : ∀ h' tk ps, Grow (ghostOf s₁.heap [(134, 132)]) h' → h'.get? 132 = some (tabObj ps) → R (.ok (.ret (.bool true))) { s₁ with heap := h', toks := tk }) :
    codeAny (model prog w) callerA (.call (.ref fa) ⟨[.ref a], []⟩) R s₁ := by
  have efa : fa = f := by
    have := mg_of KX Tg hlaw.a
    rw [hmg] at this
    cases this; rfl
  subst efa
  have GX := ghost_K hT9 KX hK
  have h132 : s₁.heap.get? 132 = some (tabObj #[]) := (hT9 _ (.head _)).2
  have n132 : (ghostOf s₁.heap [(134, 132)]).get? 132 = none := hideAll_none _ (.head _)
  have sub : Grow (ghostOf s₁.heap [(134, 132)]) s₁.heap := fun b o e => of_hideAll _ e
  have lim' : (ghostOf s₁.heap [(134, 132)]).NoLimit := let ⟨mc, hn, hk⟩ := lim; ⟨mc, ghost_ns hT9 hn, hk⟩
  have G := glo_of GX (ghost_ns hT9 Tg) (ghost_ns hT9 Tb) hbi lim' e2 h1 h2 h3
  have C : CodeHd (ghostOf s₁.heap [(134, 132)]) 134 132 := (ghost_code hT9).1
  have hb : (ghostOf s₁.heap [(134, 132)]).BuiltinsAt mg 132 := by
    obtain ⟨bm, ob, q1, q2, q3, q4, q5, q6⟩ := hbm
    refine ⟨bm, ob, q1, q2, fun z => ?_, fun z => ?_, ghost_get hT9 q3 fun z => ?_, q4, q5, q6⟩
    · obtain ⟨o, es, ep, ho, hd, _⟩ := Tg
      rw [z, ho] at q3
      cases q3
      rw [hd] at q6
      cases q6
    · rw [z, h132] at q3
      cases q3
      cases q6
    · rw [z] at q6; cases q6
  exact law_call (hlaw.at KX) sub h132 n132 G C hb (ghost_list hT9 hLs) hi hlen kk
end
end Mine

namespace Mine
section
open PySem PySem.W PySem.Calls PyProof.Rows
set_option maxRecDepth 100000
set_option maxHeartbeats 8000000
noncomputable def kE (P : Params) (x : Str) (t : Nat) (v : Value) : DictEntry := ⟨PyData.keyHash P x, .str x t, v⟩
noncomputable def fnO (i : Nat) (x : Str) (dV kV pm cd : Value) : Obj := ⟨.type "function", none, .func (fdOf i x x dV kV .none pm none cd .none), #[]⟩
noncomputable def coO (q : Str) (t : Nat) (l a k : Int) (c : Nat) (v13 v14 : Value) (v15 t2 : Nat) : Obj :=
  ⟨.type "code", none, .fields #[.str q t, .str q (t + 1), .str "/claim/cut.py" (t + 2), .int l 0, .int a 0, .int 0 0, .int k 0, .int 3 0, .ref c, .bool true, .int 181 0, .ref (c + 1), .none, v13, v14, .ref v15, .int t2 0, .int l 0, .str "/claim/cut.py" (t2 + 1)], #[]⟩
noncomputable def K (P : Params) : Frag := [
  (2, ⟨.none, none, .dict #[] 0, #[]⟩),
  (3, ⟨.type "dict", none, .dict #[kE P "__name__" 165 (.str "law_pe0148_01" 305), kE P "__doc__" 166 .none, kE P "__package__" 167 .none, kE P "__loader__" 168 (.builtin "__main__.__loader__#opaque"), kE P "__spec__" 169 .none, kE P "__annotations__" 170 (.ref 6), kE P "__builtins__" 171 (.ref 4), kE P "__file__" 173 (.str "/claim/cut.py" 172), kE P "__cached__" 174 .none, kE P "insort_right" 201 (.ref 23), kE P "bisect_right" 215 (.ref 32), kE P "bisect_left" 229 (.ref 41), kE P "rgb_to_hls" 250 (.ref 48), kE P "hsv_to_rgb" 264 (.ref 55), kE P "add_func_stats" 284 (.ref 62), kE P "add_callers" 295 (.ref 69), kE P "count_calls" 304 (.ref 76), kE P "_law_parts" 319 (.ref 83), kE P "_law_told" 330 (.ref 90), kE P "_law_cross" 338 (.ref 97), kE P "_law_same_side" 346 (.ref 104), kE P "_law_grey_within" 356 (.ref 111), kE P "_law_triples" 367 (.ref 118), kE P "_law_entries" 373 (.ref 123), kE P "_law_added" 382 (.ref 130), kE P "law" 388 (.ref 135)] 26, #[]⟩),
  (15, ⟨.type "tuple", none, .seq #[.int 0 189, .none] 0, #[]⟩),
  (16, ⟨.type "dict", none, .dict #[kE P "key" 190 .none] 1, #[]⟩),
  (22, coO "insort_right" 191 2 4 1 17 (.ref 19) (.ref 20) 21 199),
  (23, fnO 1 "insort_right" (.ref 15) (.ref 16) (.str "cpy313.bisect" 187) (.ref 22)),
  (24, ⟨.type "tuple", none, .seq #[.int 0 202, .none] 0, #[]⟩),
  (25, ⟨.type "dict", none, .dict #[kE P "key" 203 .none] 1, #[]⟩),
  (31, coO "bisect_right" 204 8 4 1 26 (.ref 28) (.ref 29) 30 213),
  (32, fnO 2 "bisect_right" (.ref 24) (.ref 25) (.str "cpy313.bisect" 187) (.ref 31)),
  (33, ⟨.type "tuple", none, .seq #[.int 0 216, .none] 0, #[]⟩),
  (34, ⟨.type "dict", none, .dict #[kE P "key" 217 .none] 1, #[]⟩),
  (40, coO "bisect_left" 218 28 4 1 35 (.ref 37) (.ref 38) 39 227),
  (41, fnO 3 "bisect_left" (.ref 33) (.ref 34) (.str "cpy313.bisect" 187) (.ref 40)),
  (47, coO "rgb_to_hls" 232 49 3 0 42 (.ref 44) (.ref 45) 46 248),
  (48, fnO 5 "rgb_to_hls" .none .none (.str "cpy313.colorsys" 230) (.ref 47)),
  (54, coO "hsv_to_rgb" 251 72 3 0 49 (.ref 51) (.ref 52) 53 262),
  (55, fnO 6 "hsv_to_rgb" .none .none (.str "cpy313.colorsys" 230) (.ref 54)),
  (61, coO "add_func_stats" 267 94 2 0 56 (.ref 58) (.ref 59) 60 282),
  (62, fnO 8 "add_func_stats" .none .none (.str "cpy313.pstats" 265) (.ref 61)),
  (68, coO "add_callers" 285 98 2 0 63 (.ref 65) (.ref 66) 67 293),
  (69, fnO 9 "add_callers" .none .none (.str "cpy313.pstats" 265) (.ref 68)),
  (75, coO "count_calls" 296 111 1 0 70 (.ref 72) (.ref 73) 74 302),
  (76, fnO 10 "count_calls" .none .none (.str "cpy313.pstats" 265) (.ref 75)),
  (82, coO "_law_parts" 307 117 3 0 77 (.ref 79) (.ref 80) 81 317),
  (83, fnO 12 "_law_parts" .none .none (.str "law_pe0148_01" 305) (.ref 82)),
  (89, coO "_law_told" 320 124 3 0 84 (.ref 86) (.ref 87) 88 328),
  (90, fnO 13 "_law_told" .none .none (.str "law_pe0148_01" 305) (.ref 89)),
  (96, coO "_law_cross" 331 130 2 0 91 (.ref 93) (.ref 94) 95 336),
  (97, fnO 14 "_law_cross" .none .none (.str "law_pe0148_01" 305) (.ref 96)),
  (103, coO "_law_same_side" 339 132 2 0 98 (.ref 100) (.ref 101) 102 344),
  (104, fnO 15 "_law_same_side" .none .none (.str "law_pe0148_01" 305) (.ref 103)),
  (110, coO "_law_grey_within" 347 134 3 0 105 (.ref 107) (.ref 108) 109 354),
  (111, fnO 16 "_law_grey_within" .none .none (.str "law_pe0148_01" 305) (.ref 110)),
  (117, coO "_law_triples" 357 139 1 0 112 (.ref 114) (.ref 115) 116 365),
  (118, fnO 17 "_law_triples" .none .none (.str "law_pe0148_01" 305) (.ref 117)),
  (122, coO "_law_entries" 368 147 1 0 119 (.none) (.none) 121 371),
  (123, fnO 18 "_law_entries" .none .none (.str "law_pe0148_01" 305) (.ref 122)),
  (129, coO "_law_added" 374 158 1 0 124 (.ref 126) (.ref 127) 128 380),
  (130, fnO 19 "_law_added" .none .none (.str "law_pe0148_01" 305) (.ref 129)),
  (134, coO "law" 383 163 1 0 131 (.none) (.none) 133 386),
  (135, fnO 20 "law" .none .none (.str "law_pe0148_01" 305) (.ref 134))]
noncomputable def KA : List Addr := [2, 3, 15, 16, 22, 23, 24, 25, 31, 32, 33, 34, 40, 41, 47, 48, 54, 55, 61, 62, 68, 69, 75, 76, 82, 83, 89, 90, 96, 97, 103, 104, 110, 111, 117, 118, 122, 123, 129, 130, 134, 135]
noncomputable def view : Program := { PySem.Challenge.pw_pe0148_01 with main := { PySem.Challenge.pw_pe0148_01.main with body := [5, 6, 8, 9, 10, 12, 13, 14, 15, 16, 17, 18, 19, 20].filterMap fun i => PySem.Challenge.pw_pe0148_01.main.body[i]? } }
noncomputable def hk : Hook := kmHook K KA (fun _ => by kernel_rfl) [132]
theorem said : PySem.Challenge.rw_pe0148_01.wellSaid = true := by
  unfold OpenLaw.wellSaid OpenRow.wellSaid OpenRow.partSaid looksOpen
  repeat' with_reducible refine look_both ?_ ?_
  all_goals decide +kernel
theorem hl : LeftO PySem.Challenge.pw_pe0148_01 view ["insort_right", "bisect_right", "bisect_left"]
    (fun s => xlAt view [] s && recOk (RowW.records PySem.Challenge.rw_pe0148_01.row.toRowW) s) hk.obs hk.val 1356 := fun w => by kernel_rfl
end
end Mine

open PySem PySem.W PySem.Calls PyProof.Rows
set_option linter.unusedVariables false
set_option maxRecDepth 100000 in
set_option maxHeartbeats 8000000 in
theorem PySem.Challenge.cw_pe0148_01_holds : PySem.Challenge.rw_pe0148_01.Holds :=
  by
  w_on
  refine holds_law Mine.said fun sd => holds_open (q := Mine.view) (loose := ["insort_right", "bisect_right", "bisect_left"]) (Xt := fun s => xlAt Mine.view [] s && recOk (RowW.records PySem.Challenge.rw_pe0148_01.row.toRowW) s)
    (XP := XL Mine.view []) (Yf := Mine.hk.obs) (Ya := Mine.hk.val) (YP := Mine.hk.says) (N := 1356) Mine.hl Mine.hk.of Mine.hk.keeps (fun s e => xl_of s (Bool.and_eq_true_iff.mp e).1) XL.keeps (by rfl) (by rfl) (by rfl)
    (fun s e => recFacts_of (Bool.and_eq_true_iff.mp e).2) (by rfl) sd (by decide +kernel) ⟨rfl, rfl, rfl, rfl, rfl, by decide +kernel⟩ ?hw ?hc
  case hw => w_witness2
  case hc =>
    w_strict (
    intro w s₀ s₁ mg mb G Y fa o pm cd doc dV kV ho hd hcd hD hmg hg args vals as hpre hlay hrd hwl hlo
    have KX := km_in_of Y
    have hT8 := km_tabs_of Y
    refine Ground.open G ?_
    intro T B D TE TW
    have hT9 : TabsAt [(134, 132)] _ := List.forall_mem_cons.mpr ⟨⟨codeHd_of_K (c := 134) (P := 132) KX (by kernel_rfl), hT8 132 (.head _)⟩, fun _ h => nomatch h⟩
    have he9 : cd = PySem.Value.ref 134 := law_code (x := PySem.Str.ofString "law") (c := 134) (P := 132) KX (Top.g T) (by kernel_rfl) hmg ho hd
    subst he9
    wrow_args hpre hlay hrd hwl hlo
    (first | refine callC_kw (enter_call ?_) | refine enter_call ?_)
    w_top on
    kn_posts
    (rename IntsAre _ _ => hI)
    (rename Heap.IsList _ _ _ => hLs)
    (rename (¬ (_ : Int) < _) => hlen)
    refine Mine.law_join (f := 135) (doc := .none) (pm := .str "law_pe0148_01" 305) (ct := .none) (an := none) KX (by kernel_rfl) hT9 T.g T.b T.builtins T.nolimit T.bmain (by kernel_rfl)
      ⟨⟨by kernel_rfl, by kernel_rfl, by decide⟩, ⟨by kernel_rfl, by kernel_rfl, by decide⟩, ⟨by kernel_rfl, by kernel_rfl, by decide⟩, ⟨by kernel_rfl, by kernel_rfl, by decide⟩, ⟨by kernel_rfl, by kernel_rfl, by decide⟩, ⟨by kernel_rfl, by kernel_rfl, by decide⟩, ⟨by kernel_rfl, by kernel_rfl, by decide⟩, ⟨by kernel_rfl, by kernel_rfl, by decide⟩, ⟨by kernel_rfl, by kernel_rfl, by decide⟩, trivial⟩
      ⟨⟨48, "rgb_to_hls", "rgb_to_hls", .none, .str "cpy313.colorsys" 230, none, .ref 47, .none, ⟨by kernel_rfl, by kernel_rfl, by kernel_rfl⟩⟩,
    ⟨55, "hsv_to_rgb", "hsv_to_rgb", .none, .str "cpy313.colorsys" 230, none, .ref 54, .none, ⟨by kernel_rfl, by kernel_rfl, by kernel_rfl⟩⟩,
    ⟨62, "add_func_stats", "add_func_stats", .none, .str "cpy313.pstats" 265, none, .ref 61, .none, ⟨by kernel_rfl, by kernel_rfl, by kernel_rfl⟩⟩,
    ⟨69, "add_callers", "add_callers", .none, .str "cpy313.pstats" 265, none, .ref 68, .none, ⟨by kernel_rfl, by kernel_rfl, by kernel_rfl⟩⟩,
    ⟨76, "count_calls", "count_calls", .none, .str "cpy313.pstats" 265, none, .ref 75, .none, ⟨by kernel_rfl, by kernel_rfl, by kernel_rfl⟩⟩,
    ⟨83, "_law_parts", "_law_parts", .none, .str "law_pe0148_01" 305, none, .ref 82, .none, ⟨by kernel_rfl, by kernel_rfl, by kernel_rfl⟩⟩,
    ⟨90, "_law_told", "_law_told", .none, .str "law_pe0148_01" 305, none, .ref 89, .none, ⟨by kernel_rfl, by kernel_rfl, by kernel_rfl⟩⟩,
    ⟨97, "_law_cross", "_law_cross", .none, .str "law_pe0148_01" 305, none, .ref 96, .none, ⟨by kernel_rfl, by kernel_rfl, by kernel_rfl⟩⟩,
    ⟨104, "_law_same_side", "_law_same_side", .none, .str "law_pe0148_01" 305, none, .ref 103, .none, ⟨by kernel_rfl, by kernel_rfl, by kernel_rfl⟩⟩,
    ⟨111, "_law_grey_within", "_law_grey_within", .none, .str "law_pe0148_01" 305, none, .ref 110, .none, ⟨by kernel_rfl, by kernel_rfl, by kernel_rfl⟩⟩,
    ⟨118, "_law_triples", "_law_triples", .none, .str "law_pe0148_01" 305, none, .ref 117, .none, ⟨by kernel_rfl, by kernel_rfl, by kernel_rfl⟩⟩,
    ⟨123, "_law_entries", "_law_entries", .none, .str "law_pe0148_01" 305, none, .ref 122, .none, ⟨by kernel_rfl, by kernel_rfl, by kernel_rfl⟩⟩,
    ⟨130, "_law_added", "_law_added", .none, .str "law_pe0148_01" 305, none, .ref 129, .none, ⟨by kernel_rfl, by kernel_rfl, by kernel_rfl⟩⟩, trivial⟩
      ⟨⟨23, "insort_right", "insort_right", .ref 15, .ref 16, .none, .str "cpy313.bisect" 187, none, .ref 22, .none, 189, ⟨by kernel_rfl, by kernel_rfl, by kernel_rfl⟩, fun S a b => by kernel_rfl, fun S a b k => by kernel_rfl, fun S a b c d k => by kernel_rfl⟩,
    ⟨32, "bisect_right", "bisect_right", .ref 24, .ref 25, .none, .str "cpy313.bisect" 187, none, .ref 31, .none, 202, ⟨by kernel_rfl, by kernel_rfl, by kernel_rfl⟩, fun S a b => by kernel_rfl, fun S a b k => by kernel_rfl, fun S a b c d k => by kernel_rfl⟩,
    ⟨41, "bisect_left", "bisect_left", .ref 33, .ref 34, .none, .str "cpy313.bisect" 187, none, .ref 40, .none, 216, ⟨by kernel_rfl, by kernel_rfl, by kernel_rfl⟩, fun S a b => by kernel_rfl, fun S a b k => by kernel_rfl, fun S a b c d k => by kernel_rfl⟩, trivial⟩
      ⟨by kernel_rfl, by kernel_rfl, by kernel_rfl⟩ hmg hLs hI (by omega) fun h' tk ps g e => ⟨⟨.inl ⟨_, _, _, rfl, raisesW_false ?nr, .bool true, ?post, unshared_nil⟩, g, rfl, hg⟩, ⟨⟨ps, e⟩, trivial⟩⟩
    case nr => wrow_none_raised
    case post => wrow_post)
