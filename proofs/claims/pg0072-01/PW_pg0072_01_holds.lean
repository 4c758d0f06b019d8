import PyProof.Rows.All
import Wide.All
import OpenK.AllK
import Wide.FinOn
import PySem.Challenge.RW_pg0072_01
set_option Elab.async false
set_option maxRecDepth 100000
set_option linter.unusedVariables false
open PySem PySem.W PyProof.Rows
namespace Mine

/-! heaps -/
abbrev Le (h h' : Heap) : Prop := ∀ b o, h.get? b = some o → h'.get? b = some o
theorem Le.rf (h : Heap) : Le h h := fun _ _ e => e
theorem Le.tr {a b c : Heap} (x : Le a b) (y : Le b c) : Le a c := fun i o e => y i o (x i o e)

def restr (h : Heap) (p : Nat → Bool) : Heap :=
  ⟨(Array.range h.objs.size).map fun i => if p i then h.objs.getD i default else { cls := .none, data := .freed }, h.life⟩
theorem restr_get (h : Heap) (p : Nat → Bool) (a : Nat) : (restr h p).get? a = if p a then h.get? a else none := by
  unfold restr Heap.get?
  by_cases ha : a < h.objs.size
  · by_cases hp : p a
    · simp [ha, hp]
    · simp [ha, hp]
  · simp [ha]

/-! value predicates -/
structure VP where
  p : Heap → Value → Prop
  mono : ∀ {h h' : Heap} {v : Value}, Le h h' → p h v → p h' v

def isInt (i : Int) : VP := ⟨fun _ v => ∃ t, v = .int i t, fun _ x => x⟩
def isStr (x : Str) : VP := ⟨fun _ v => ∃ t, v = .str x t, fun _ x => x⟩
def isBool (b : Bool) : VP := ⟨fun _ v => v = .bool b, fun _ x => x⟩
def isVal (u : Value) : VP := ⟨fun _ v => v = u, fun _ x => x⟩
abbrev isNone : VP := isVal .none

def All2 (h : Heap) : List VP → List Value → Prop
  | [], [] => True
  | P :: Ps, v :: vs => P.p h v ∧ All2 h Ps vs
  | _, _ => False
theorem All2.mono {h h' : Heap} (l : Le h h') : ∀ {Ps : List VP} {vs : List Value}, All2 h Ps vs → All2 h' Ps vs
  | [], [], _ => trivial
  | P :: _, _ :: _, x => ⟨P.mono l x.1, All2.mono l x.2⟩
  | [], _ :: _, x => x.elim
  | _ :: _, [], x => x.elim
theorem All2.len {h : Heap} : ∀ {Ps : List VP} {vs : List Value}, All2 h Ps vs → vs.length = Ps.length
  | [], [], _ => rfl
  | _ :: _, _ :: _, x => congrArg (· + 1) (All2.len x.2)
  | [], _ :: _, x => x.elim
  | _ :: _, [], x => x.elim

def isLst (Ps : List VP) : VP := ⟨fun h v => ∃ a vs n, v = .ref a ∧ h.get? a = some (listOf vs.toArray n) ∧ All2 h Ps vs,
  by rintro h h' v l ⟨a, vs, n, e, g, r⟩; exact ⟨a, vs, n, e, l _ _ g, r.mono l⟩⟩
def isTup (Ps : List VP) : VP := ⟨fun h v => ∃ a vs, v = .ref a ∧ IsTup h a vs.toArray ∧ All2 h Ps vs,
  by rintro h h' v l ⟨a, vs, e, g, r⟩; exact ⟨a, vs, e, g.keeps l, r.mono l⟩⟩

/-! the world of a run -/
structure Wd where
  prog : Program
  w : World
  tb : List Addr
  tq : Addr → Pos → Str
  G : Heap → Prop
  gmono : ∀ {h h' : Heap}, Le h h' → G h → G h'
  glim : ∀ {h : Heap}, G h → h.NoLimit
abbrev Wd.M (W : Wd) : Model := model W.prog W.w

structure Ok (W : Wd) (h : Heap) (s : Shared) : Prop where
  le : Le h s.heap
  g : W.G h
  tn : ∀ P ∈ W.tb, h.get? P = none
  tab : ∀ P ∈ W.tb, ∃ ps, s.heap.get? P = some (tabObj ps) ∧ TriplesOk ps.toList ∧ ∀ pos cv, codeAmong pos ps.toList = some cv → h.CodeRec cv (W.tq P pos)
  bare : AllBare s.gens

structure Ext (W : Wd) (h : Heap) (s : Shared) (h' : Heap) (s' : Shared) : Prop where
  ok : Ok W h' s'
  le : Le h h'
  new : ∀ a o, s.heap.get? a = some o → h'.get? a = h.get? a
  keep : ∀ b o, s.heap.get? b = some o → b ∉ W.tb → s'.heap.get? b = some o
  gens : ∀ (i : Nat) x, s.gens[i]? = some x → s'.gens[i]? = some x
  os : s'.os = s.os

variable {W : Wd}
theorem Ext.rf {h : Heap} {s : Shared} (o : Ok W h s) : Ext W h s h s := ⟨o, Le.rf h, fun _ _ _ => rfl, fun _ _ e _ => e, fun _ _ e => e, rfl⟩
theorem Ext.live {h h' : Heap} {s s' : Shared} (x : Ext W h s h' s') {a : Addr} {o : Obj} (e : s.heap.get? a = some o) : ∃ o', s'.heap.get? a = some o' := by
  by_cases ha : a ∈ W.tb
  · obtain ⟨ps, e', _⟩ := x.ok.tab a ha; exact ⟨_, e'⟩
  · exact ⟨o, x.keep a o e ha⟩
theorem Ext.tr {h h' h'' : Heap} {s s' s'' : Shared} (x : Ext W h s h' s') (y : Ext W h' s' h'' s'') : Ext W h s h'' s'' :=
  ⟨y.ok, x.le.tr y.le, fun a o e => by obtain ⟨o', e'⟩ := x.live e; rw [y.new a o' e', x.new a o e], fun b o e hb => y.keep b o (x.keep b o e hb) hb,
   fun i z e => y.gens i z (x.gens i z e), y.os.trans x.os⟩

/-- a step that keeps all that stands; the new objects enter the base -/
theorem Ok.grow {h : Heap} {s s' : Shared} (o : Ok W h s) (hk : Le s.heap s'.heap) (hg : ∀ (i : Nat) x, s.gens[i]? = some x → s'.gens[i]? = some x)
    (hb : AllBare s'.gens) (hos : s'.os = s.os) : ∃ h', Ext W h s h' s' ∧ ∀ a, s.heap.get? a = none → h'.get? a = s'.heap.get? a := by
  let h' := restr s'.heap fun i => (s.heap.get? i).isNone || (h.get? i).isSome
  have hle : Le h h' := fun b ob e => by
    show (restr _ _).get? b = _
    rw [restr_get, if_pos (by simp [e])]; exact hk _ _ (o.le _ _ e)
  have hnew : ∀ a ob, s.heap.get? a = some ob → h'.get? a = h.get? a := fun a ob e => by
    show (restr _ _).get? a = _
    rw [restr_get]
    cases e' : h.get? a with
    | none => simp [e]
    | some ob' => simp [e, hk _ _ (o.le _ _ e')]
  refine ⟨h', ⟨⟨fun b ob e => ?_, W.gmono hle o.g, fun P hP => ?_, fun P hP => ?_, hb⟩, hle, hnew, fun b ob e _ => hk b ob e, hg, hos⟩, fun a e => ?_⟩
  · have e' : (restr _ _).get? b = some ob := e
    rw [restr_get] at e'
    split at e'
    · exact e'
    · cases e'
  · obtain ⟨ps, e, _⟩ := o.tab P hP
    rw [hnew P _ e]; exact o.tn P hP
  · obtain ⟨ps, e, t, c⟩ := o.tab P hP
    exact ⟨ps, hk _ _ e, t, fun pos cv q => (c pos cv q).keeps hle⟩
  · show (restr _ _).get? a = _
    rw [restr_get, if_pos (by simp [e])]

theorem Ok.heap {h : Heap} {s : Shared} (o : Ok W h s) {h₁ : Heap} {t : Nat} (hk : Le s.heap h₁) :
    ∃ h', Ext W h s h' { s with heap := h₁, toks := t } ∧ ∀ a, s.heap.get? a = none → h'.get? a = h₁.get? a :=
  o.grow (s' := { s with heap := h₁, toks := t }) hk (fun _ _ e => e) o.bare rfl
theorem Ok.toks {h : Heap} {s : Shared} (o : Ok W h s) (t : Nat) : Ext W h s h { s with toks := t } :=
  ⟨⟨o.le, o.g, o.tn, o.tab, o.bare⟩, Le.rf h, fun _ _ _ => rfl, fun _ _ e _ => e, fun _ _ e => e, rfl⟩
theorem Ok.push {h : Heap} {s : Shared} (o : Ok W h s) (ob : Obj) {t : Nat} (hf : ob.isFreed = false := by rfl) :
    ∃ h', Ext W h s h' { s with heap := s.heap.push ob, toks := t } ∧ h'.get? s.heap.objs.size = some ob := by
  obtain ⟨h', x, n⟩ := o.heap (h₁ := s.heap.push ob) (t := t) (fun _ _ e => Heap.get?_push_of_some _ e)
  exact ⟨h', x, (n _ (Heap.get?_none_of_le (Nat.le_refl _))).trans (Heap.get?_push_size _ hf)⟩

/-! frames -/
abbrev Rho := List (Str × VP)
structure Cx where
  env : Env
  muts : List Addr
  own : List (Addr × Obj)
abbrev Cx.on (c : Cx) (own : List (Addr × Obj)) : Cx := { c with own := own }

def Rd (env : Env) (h : Heap) (x : Str) (v : Value) : Prop :=
  (env.kindOf x = some .local ∧ ∃ m, h.Ns env.locals m ∧ m x = some v) ∨
  ((env.kindOf x = some .cell ∨ env.kindOf x = some .free) ∧ ∃ c, env.cells.lookup x = some c ∧ h.IsCell c (some v))

structure EnvOk (c : Cx) : Prop where
  kind : c.env.scope.kind = .function
  glob : c.env.globals = mainGlobals
  bi : c.env.builtins = builtinsNs
  mem : c.env.locals ∈ c.muts
  apart : c.env.cells.Pairwise fun x y => x.2 ≠ y.2
  celne : ∀ x a, c.env.cells.lookup x = some a → a ≠ c.env.locals

structure St (W : Wd) (c : Cx) (ρ : Rho) (h : Heap) (s : Shared) : Prop where
  ok : Ok W h s
  env : EnvOk c
  ns : ∃ m, s.heap.Ns c.env.locals m
  cel : ∀ a ∈ c.muts, a = c.env.locals ∨ ∃ v, s.heap.IsCell a v
  mu : ∀ a ∈ c.muts, h.get? a = none
  own : ∀ p ∈ c.own, s.heap.get? p.1 = some p.2 ∧ h.get? p.1 = none ∧ p.1 ∉ c.muts ∧ p.1 ∉ W.tb
  nodup : (c.own.map (·.1)).Nodup
  rd : ∀ x P, ρ.lookup x = some P → ∃ v, Rd c.env s.heap x v ∧ P.p h v

theorem Ok.notTab {h : Heap} {s : Shared} (o : Ok W h s) {a : Addr} {ob : Obj} (e : s.heap.get? a = some ob) (hd : ∀ vs, ob.data ≠ .fields vs) : a ∉ W.tb := fun ha => by
  obtain ⟨ps, e', _⟩ := o.tab a ha
  rw [e] at e'; cases e'; exact hd _ rfl
theorem Ok.nsNotTab {h : Heap} {s : Shared} (o : Ok W h s) {a : Addr} {m : Str → Option Value} (e : s.heap.Ns a m) : a ∉ W.tb :=
  let ⟨_, _, _, ho, hd, _⟩ := e; o.notTab ho fun vs q => by rw [hd] at q; cases q
theorem Ok.cellNotTab {h : Heap} {s : Shared} (o : Ok W h s) {a : Addr} {v : Option Value} (e : s.heap.IsCell a v) : a ∉ W.tb :=
  let ⟨_, ho, hd⟩ := e; o.notTab ho fun vs q => by rw [hd] at q; cases q

theorem Ext.ns {h h' : Heap} {s s' : Shared} (o : Ok W h s) (x : Ext W h s h' s') {a : Addr} {m : Str → Option Value} (e : s.heap.Ns a m) : s'.heap.Ns a m :=
  e.at' fun ob ho => x.keep a ob ho (o.nsNotTab e)
theorem Ext.cell {h h' : Heap} {s s' : Shared} (o : Ok W h s) (x : Ext W h s h' s') {a : Addr} {v : Option Value} (e : s.heap.IsCell a v) : s'.heap.IsCell a v :=
  let ⟨ob, ho, hd⟩ := e; ⟨ob, x.keep a ob ho (o.cellNotTab e), hd⟩
theorem Ext.rd {h h' : Heap} {s s' : Shared} (o : Ok W h s) (x : Ext W h s h' s') {env : Env} {y : Str} {v : Value} (e : Rd env s.heap y v) : Rd env s'.heap y v := by
  rcases e with ⟨k, m, n, q⟩ | ⟨k, c, l, q⟩
  · exact .inl ⟨k, m, x.ns o n, q⟩
  · exact .inr ⟨k, c, l, x.cell o q⟩

theorem St.liveMut {c : Cx} {ρ : Rho} {h : Heap} {s : Shared} (st : St W c ρ h s) {a : Addr} (ha : a ∈ c.muts) : ∃ o, s.heap.get? a = some o := by
  rcases st.cel a ha with rfl | ⟨v, o, e, _⟩
  · obtain ⟨m, o, _, _, e, _⟩ := st.ns; exact ⟨o, e⟩
  · exact ⟨o, e⟩
theorem St.mutNotTab {c : Cx} {ρ : Rho} {h : Heap} {s : Shared} (st : St W c ρ h s) {a : Addr} (ha : a ∈ c.muts) : a ∉ W.tb := by
  rcases st.cel a ha with rfl | ⟨v, e⟩
  · obtain ⟨m, e⟩ := st.ns; exact st.ok.nsNotTab e
  · exact st.ok.cellNotTab e

theorem St.ext {c : Cx} {ρ : Rho} {h h' : Heap} {s s' : Shared} (st : St W c ρ h s) (x : Ext W h s h' s') : St W c ρ h' s' where
  ok := x.ok
  env := st.env
  ns := let ⟨m, e⟩ := st.ns; ⟨m, x.ns st.ok e⟩
  cel := fun a ha => (st.cel a ha).imp id fun ⟨v, e⟩ => ⟨v, x.cell st.ok e⟩
  mu := fun a ha => by obtain ⟨o, e⟩ := st.liveMut ha; rw [x.new a o e]; exact st.mu a ha
  own := fun p hp => by obtain ⟨e, n, m, t⟩ := st.own p hp; exact ⟨x.keep _ _ e t, by rw [x.new _ _ e]; exact n, m, t⟩
  nodup := st.nodup
  rd := fun y P e => let ⟨v, r, p⟩ := st.rd y P e; ⟨v, x.rd st.ok r, P.mono x.le p⟩

/-- fewer names are known -/
def Sub (ρ' ρ : Rho) : Prop := ∀ x P, ρ'.lookup x = some P → ρ.lookup x = some P
theorem St.sub {c : Cx} {ρ ρ' : Rho} {h : Heap} {s : Shared} (st : St W c ρ h s) (d : Sub ρ' ρ) : St W c ρ' h s :=
  { st with rd := fun x P e => st.rd x P (d x P e) }
theorem Sub.rf (ρ : Rho) : Sub ρ ρ := fun _ _ e => e
theorem Sub.nil (ρ : Rho) : Sub [] ρ := fun _ _ e => by cases e
theorem Sub.cons {x : Str} {P : VP} {ρ' ρ : Rho} (h : ρ.lookup x = some P) (t : Sub ρ' ρ) : Sub ((x, P) :: ρ') ρ := fun y Q e => by
  rw [List.lookup_cons] at e
  cases hb : y == x with
  | true => rw [hb] at e; cases e; rw [beq_iff_eq.mp hb]; exact h
  | false => rw [hb] at e; exact t y Q e

/-! judgements -/
def EvE (W : Wd) (A : Around) (c : Cx) (ρ : Rho) (e : Expr) (P : VP) : Prop :=
  ∀ (h : Heap) (s : Shared) (Q : Value → Shared → Prop) (E : Value → Shared → Prop), St W c ρ h s →
    (∀ v h' s', Ext W h s h' s' → P.p h' v → Q v s') → wpAny W.M A (eval e c.env) Q E s
def EvT (W : Wd) (A : Around) (c : Cx) (ρ : Rho) (e : Expr) (b : Bool) : Prop :=
  ∀ (h : Heap) (s : Shared) (Q : Bool → Shared → Prop) (E : Value → Shared → Prop), St W c ρ h s →
    (∀ h' s', Ext W h s h' s' → Q b s') → wpAny W.M A (isTrue e c.env (eval e c.env)) Q E s
def EvL (W : Wd) (A : Around) (c : Cx) (ρ : Rho) (es : List Expr) (Ps : List VP) : Prop :=
  ∀ (pos : Pos) (h : Heap) (s : Shared) (Q : List Value → Shared → Prop) (E : Value → Shared → Prop), St W c ρ h s →
    (∀ vs h' s', Ext W h s h' s' → All2 h' Ps vs → Q vs s') → wpAny W.M A (spliced (backTo pos (starEach es c.env))) Q E s

/-- an operation on values that already stand -/
def OpB (W : Wd) (A : Around) (t : Value → Value → Sem Value) (P₁ P₂ P : VP) : Prop :=
  ∀ (h : Heap) (s : Shared) (v₁ v₂ : Value) (Q : Value → Shared → Prop) (E : Value → Shared → Prop), Ok W h s → P₁.p h v₁ → P₂.p h v₂ →
    (∀ v h' s', Ext W h s h' s' → P.p h' v → Q v s') → wpAny W.M A (t v₁ v₂) Q E s
def OpU (W : Wd) (A : Around) (t : Value → Sem Value) (P₁ P : VP) : Prop :=
  ∀ (h : Heap) (s : Shared) (v₁ : Value) (Q : Value → Shared → Prop) (E : Value → Shared → Prop), Ok W h s → P₁.p h v₁ →
    (∀ v h' s', Ext W h s h' s' → P.p h' v → Q v s') → wpAny W.M A (t v₁) Q E s
def Tru (W : Wd) (A : Around) (P₁ : VP) (b : Bool) : Prop :=
  ∀ (h : Heap) (s : Shared) (v₁ : Value) (Q : Bool → Shared → Prop) (E : Value → Shared → Prop), Ok W h s → P₁.p h v₁ →
    (∀ h' s', Ext W h s h' s' → Q b s') → wpAny W.M A (truthy v₁) Q E s

section
variable {A : Around} {c : Cx} {ρ : Rho}

theorem EvE.conv {e : Expr} {P P' : VP} (x : EvE W A c ρ e P) (q : P = P') : EvE W A c ρ e P' := q ▸ x
theorem EvE.imp {e : Expr} {P P' : VP} (x : EvE W A c ρ e P) (q : ∀ h v, P.p h v → P'.p h v) : EvE W A c ρ e P' :=
  fun h s Q E st k => x h s Q E st fun v h' s' y p => k v h' s' y (q _ _ p)
theorem EvT.conv {e : Expr} {b b' : Bool} (x : EvT W A c ρ e b) (q : b = b') : EvT W A c ρ e b' := q ▸ x

theorem loadName_rd {x : Str} {v : Value} {s : Shared} {Q : Value → Shared → Prop} {E : Value → Shared → Prop} {env : Env} {M : Model} (hk : env.scope.kind = .function) (r : Rd env s.heap x v) (h : Q v s)
    (hn : (x == ("__classdict__" : Str)) = false) : wpAny M A (loadName env x) Q E s := by
  rcases r with ⟨k, m, n, q⟩ | ⟨k | k, cc, l, q⟩
  · exact wpAny_loadName_local hk k n q h
  · exact wpAny_loadName_cell hk k l q h
  · exact wpAny_loadName_free hk k l q h hn

theorem EvE.name {x : Str} {pos : Pos} {P : VP} (hl : ρ.lookup x = some P) (hd : (x == ("__debug__" : Str)) = false := by decide) (hn : (x == ("__classdict__" : Str)) = false := by decide) :
    EvE W A c ρ (.Name x pos) P := fun h s Q E st k => by
  obtain ⟨v, r, p⟩ := st.rd x P hl
  exact wpAny_Name (loadName_rd st.env.kind r (k v h s (Ext.rf st.ok) p) hn) hd
theorem EvE.int {i : Int} {k : Nat} {pos : Pos} : EvE W A c ρ (.Constant (.int i) k pos) (isInt i) := fun h s Q E st k =>
  wpAny_Constant_int (k _ h _ (st.ok.toks _) ⟨_, rfl⟩)
theorem EvE.str {x : Str} {k : Nat} {pos : Pos} : EvE W A c ρ (.Constant (.str x) k pos) (isStr x) := fun h s Q E st k =>
  wpAny_Constant_str (k _ h _ (st.ok.toks _) ⟨_, rfl⟩)
theorem EvE.bool {b : Bool} {k : Nat} {pos : Pos} : EvE W A c ρ (.Constant (.bool b) k pos) (isBool b) := fun h s Q E st k =>
  wpAny_Constant_bool (k _ h s (Ext.rf st.ok) rfl)
theorem EvE.none {k : Nat} {pos : Pos} : EvE W A c ρ (.Constant .none k pos) isNone := fun h s Q E st k =>
  wpAny_Constant_none (k _ h s (Ext.rf st.ok) rfl)

theorem EvE.binop {l r : Expr} {op : Operator} {pos : Pos} {P₁ P₂ P : VP} (a : EvE W A c ρ l P₁) (b : EvE W A c ρ r P₂) (o : OpB W A (binaryOp op) P₁ P₂ P) :
    EvE W A c ρ (.BinOp l op r pos) P := fun h s Q E st k =>
  wpAny_BinOp (a h s _ _ st fun v₁ h₁ s₁ x₁ p₁ => b h₁ s₁ _ _ (st.ext x₁) fun v₂ h₂ s₂ x₂ p₂ =>
    o h₂ s₂ v₁ v₂ _ _ x₂.ok (P₁.mono x₂.le p₁) p₂ fun v h' s' x p => k v h' s' ((x₁.tr x₂).tr x) p)
theorem EvE.cmp {l r : Expr} {op : CmpOp} {pos : Pos} {P₁ P₂ P : VP} (a : EvE W A c ρ l P₁) (b : EvE W A c ρ r P₂) (o : OpB W A (compareOp op) P₁ P₂ P)
    (hm : behindInMarks op r = false := by with_unfolding_all rfl) : EvE W A c ρ (.Compare l [op] [r] pos) P := fun h s Q E st k =>
  wpAny_Compare1 (a h s _ _ st fun v₁ h₁ s₁ x₁ p₁ => b h₁ s₁ _ _ (st.ext x₁) fun v₂ h₂ s₂ x₂ p₂ =>
    o h₂ s₂ v₁ v₂ _ _ x₂.ok (P₁.mono x₂.le p₁) p₂ fun v h' s' x p => k v h' s' ((x₁.tr x₂).tr x) p) hm
theorem EvE.unop {e : Expr} {op : UnaryOp} {pos : Pos} {P₁ P : VP} (a : EvE W A c ρ e P₁) (o : OpU W A (unaryOp op) P₁ P) : EvE W A c ρ (.UnaryOp op e pos) P := fun h s Q E st k =>
  wpAny_UnaryOp (a h s _ _ st fun v₁ h₁ s₁ x₁ p₁ => o h₁ s₁ v₁ _ _ x₁.ok p₁ fun v h' s' x p => k v h' s' (x₁.tr x) p)
theorem EvE.ite {t a b : Expr} {pos : Pos} {q : Bool} {P : VP} (ht : EvT W A c ρ t q) (ha : q = true → EvE W A c ρ a P) (hb : q = false → EvE W A c ρ b P) :
    EvE W A c ρ (.IfExp t a b pos) P := fun h s Q E st k =>
  wpAny_IfExp (ht h s _ _ st fun h₁ s₁ x₁ => by
    cases q with
    | true => rw [if_pos rfl]; exact ha rfl h₁ s₁ _ _ (st.ext x₁) fun v h' s' x p => k v h' s' (x₁.tr x) p
    | false => rw [if_neg Bool.false_ne_true]; exact hb rfl h₁ s₁ _ _ (st.ext x₁) fun v h' s' x p => k v h' s' (x₁.tr x) p)

theorem EvT.cmp {l r : Expr} {op : CmpOp} {pos : Pos} {P₁ P₂ : VP} {b : Bool} (a : EvE W A c ρ l P₁) (bb : EvE W A c ρ r P₂) (o : OpB W A (compareOp op) P₁ P₂ (isBool b))
    (hm : behindInMarks op r = false := by with_unfolding_all rfl) : EvT W A c ρ (.Compare l [op] [r] pos) b := fun h s Q E st k =>
  wpAny_isTrue_Compare1 (a h s _ _ st fun v₁ h₁ s₁ x₁ p₁ => bb h₁ s₁ _ _ (st.ext x₁) fun v₂ h₂ s₂ x₂ p₂ =>
    o h₂ s₂ v₁ v₂ _ _ x₂.ok (P₁.mono x₂.le p₁) p₂ fun v h' s' x p => by
      have e : v = .bool b := p
      subst e
      exact wpAny_truthy_bool (k h' s' ((x₁.tr x₂).tr x))) hm
theorem EvT.not {e : Expr} {pos : Pos} {b : Bool} (a : EvT W A c ρ e b) : EvT W A c ρ (.UnaryOp .Not e pos) (!b) := fun h s Q E st k =>
  wpAny_isTrue_Not (a h s _ _ st fun h₁ s₁ x₁ => k h₁ s₁ x₁)
theorem EvT.val {e : Expr} {P : VP} {b : Bool} (a : EvE W A c ρ e P) (t : Tru W A P b)
    (he : isTrue e c.env (eval e c.env) = (do let v ← eval e c.env; standAt e.pos; holding [v] (truthy v)) := by rfl) : EvT W A c ρ e b := fun h s Q E st k =>
  wpAny_isTrue_value (a h s _ _ st fun v₁ h₁ s₁ x₁ p₁ => t h₁ s₁ v₁ _ _ x₁.ok p₁ fun h' s' x => k h' s' (x₁.tr x)) he
theorem EvT.and2 {a b : Expr} {pos : Pos} {p q : Bool} (ha : EvT W A c ρ a p) (hb : p = true → EvT W A c ρ b q) : EvT W A c ρ (.BoolOp .And [a, b] pos) (p && q) := fun h s Q E st k =>
  wpAny_isTrue_BoolOp (wpAny_allTrue_And_cons (ha h s _ _ st fun h₁ s₁ x₁ => by
    cases p with
    | false => exact k h₁ s₁ x₁
    | true =>
      rw [if_pos rfl]
      exact wpAny_allTrue_And_cons (hb rfl h₁ s₁ _ _ (st.ext x₁) fun h₂ s₂ x₂ => by
        cases q with
        | false => exact k h₂ s₂ (x₁.tr x₂)
        | true => rw [if_pos rfl]; exact wpAny_allTrue_And_nil (k h₂ s₂ (x₁.tr x₂)))))
theorem EvT.or2 {a b : Expr} {pos : Pos} {p q : Bool} (ha : EvT W A c ρ a p) (hb : p = false → EvT W A c ρ b q) : EvT W A c ρ (.BoolOp .Or [a, b] pos) (p || q) := fun h s Q E st k =>
  wpAny_isTrue_BoolOp (wpAny_allTrue_Or_cons (ha h s _ _ st fun h₁ s₁ x₁ => by
    cases p with
    | true => exact k h₁ s₁ x₁
    | false =>
      rw [if_neg Bool.false_ne_true]
      exact wpAny_allTrue_Or_cons (hb rfl h₁ s₁ _ _ (st.ext x₁) fun h₂ s₂ x₂ => by
        cases q with
        | true => exact k h₂ s₂ (x₁.tr x₂)
        | false => rw [if_neg Bool.false_ne_true]; exact wpAny_allTrue_Or_nil (k h₂ s₂ (x₁.tr x₂)))))

theorem EvL.nil : EvL W A c ρ [] [] := fun _ h s Q E st k => wpAny_items_nil (k [] h s (Ext.rf st.ok) trivial)
theorem EvL.cons {e : Expr} {es : List Expr} {P : VP} {Ps : List VP} (a : EvE W A c ρ e P) (b : EvL W A c ρ es Ps)
    (he : starEach (e :: es) c.env = (false, eval e c.env) :: starEach es c.env := by rfl) : EvL W A c ρ (e :: es) (P :: Ps) := fun pos h s Q E st k =>
  wpAny_items_cons (a h s _ _ st fun v h₁ s₁ x₁ p₁ => b pos h₁ s₁ _ _ (st.ext x₁) fun vs h₂ s₂ x₂ p₂ => k (v :: vs) h₂ s₂ (x₁.tr x₂) ⟨P.mono x₂.le p₁, p₂⟩) he
theorem EvE.tup {es : List Expr} {Ps : List VP} {k : Nat} {pos : Pos} (a : EvL W A c ρ es Ps) (hz : Ps.length ≤ sizeLine := by decide) : EvE W A c ρ (.Tuple es k pos) (isTup Ps) := fun h s Q E st k =>
  wpAny_Tuple (a pos h s _ _ st fun vs h₁ s₁ x₁ p₁ => ⟨by rw [p₁.len]; exact hz, by
    obtain ⟨h', x, e⟩ := x₁.ok.push { cls := .type "tuple", data := .seq vs.toArray } (t := s₁.toks)
    exact k _ h' _ (x₁.tr x) ⟨_, vs, rfl, ⟨_, e, rfl, _, rfl⟩, p₁.mono x.le⟩⟩)
theorem EvE.lst {es : List Expr} {Ps : List VP} {pos : Pos} (a : EvL W A c ρ es Ps) (hz : Ps.length ≤ sizeLine := by decide) : EvE W A c ρ (.List es pos) (isLst Ps) := fun h s Q E st k =>
  wpAny_List (a pos h s _ _ st fun vs h₁ s₁ x₁ p₁ => ⟨by rw [p₁.len]; exact hz, by
    obtain ⟨h', x, e⟩ := x₁.ok.push { cls := .type "list", data := .seq vs.toArray } (t := s₁.toks)
    exact k _ h' _ (x₁.tr x) ⟨_, vs, _, rfl, e, p₁.mono x.le⟩⟩)
end

end Mine

namespace Mine
variable {W : Wd} {A : Around} {c : Cx} {ρ : Rho}

/-! operations on ints, strs, bools -/
section
variable {x y : Int} {a b : Str}
theorem op_add : OpB W A (binaryOp .Add) (isInt x) (isInt y) (isInt (x + y)) := by
  rintro h s _ _ Q E ok ⟨t, rfl⟩ ⟨u, rfl⟩ k; exact PyProof.Rows.add_int (k _ h _ (ok.toks _) ⟨_, rfl⟩)
theorem op_sub : OpB W A (binaryOp .Sub) (isInt x) (isInt y) (isInt (x - y)) := by
  rintro h s _ _ Q E ok ⟨t, rfl⟩ ⟨u, rfl⟩ k; exact PyProof.Rows.sub_int' (k _ h _ (ok.toks _) ⟨_, rfl⟩)
theorem op_mul (hm : IntMulOk x y) : OpB W A (binaryOp .Mult) (isInt x) (isInt y) (isInt (x * y)) := by
  rintro h s _ _ Q E ok ⟨t, rfl⟩ ⟨u, rfl⟩ k; exact PyProof.Rows.mul_int (k _ h _ (ok.toks _) ⟨_, rfl⟩) hm
theorem op_fdiv (hy : y ≠ 0) (hp : Builtin.divisionGoesByPylong x y = false) : OpB W A (binaryOp .FloorDiv) (isInt x) (isInt y) (isInt (x.fdiv y)) := by
  rintro h s _ _ Q E ok ⟨t, rfl⟩ ⟨u, rfl⟩ k; exact PyProof.Rows.floordiv_int hy (k _ h _ (ok.toks _) ⟨_, rfl⟩) (.inl hp)
theorem op_mod (hy : y ≠ 0) : OpB W A (binaryOp .Mod) (isInt x) (isInt y) (isInt (x.fmod y)) := by
  rintro h s _ _ Q E ok ⟨t, rfl⟩ ⟨u, rfl⟩ k; exact PyProof.Rows.mod_int' hy (k _ h _ (ok.toks _) ⟨_, rfl⟩)
theorem op_iadd : OpB W A (inplaceOp .Add) (isInt x) (isInt y) (isInt (x + y)) := by
  rintro h s _ _ Q E ok ⟨t, rfl⟩ ⟨u, rfl⟩ k; exact wpAny_iadd_int (k _ h _ (ok.toks _) ⟨_, rfl⟩)
theorem op_isub : OpB W A (inplaceOp .Sub) (isInt x) (isInt y) (isInt (x - y)) := by
  rintro h s _ _ Q E ok ⟨t, rfl⟩ ⟨u, rfl⟩ k; exact PyProof.Rows.isub_int (k _ h _ (ok.toks _) ⟨_, rfl⟩)
theorem op_lt : OpB W A (compareOp .Lt) (isInt x) (isInt y) (isBool (decide (x < y))) := by
  rintro h s _ _ Q E ok ⟨t, rfl⟩ ⟨u, rfl⟩ k; exact PyProof.Rows.lt_int (k _ h _ (Ext.rf ok) rfl)
theorem op_le : OpB W A (compareOp .LtE) (isInt x) (isInt y) (isBool (decide (x ≤ y))) := by
  rintro h s _ _ Q E ok ⟨t, rfl⟩ ⟨u, rfl⟩ k; exact PyProof.Rows.le_int (k _ h _ (Ext.rf ok) rfl)
theorem op_gt : OpB W A (compareOp .Gt) (isInt x) (isInt y) (isBool (decide (y < x))) := by
  rintro h s _ _ Q E ok ⟨t, rfl⟩ ⟨u, rfl⟩ k; exact PyProof.Rows.gt_int (k _ h _ (Ext.rf ok) rfl)
theorem op_ge : OpB W A (compareOp .GtE) (isInt x) (isInt y) (isBool (decide (y ≤ x))) := by
  rintro h s _ _ Q E ok ⟨t, rfl⟩ ⟨u, rfl⟩ k; exact PyProof.Rows.ge_int (k _ h _ (Ext.rf ok) rfl)
theorem op_eq : OpB W A (compareOp .Eq) (isInt x) (isInt y) (isBool (decide (x = y))) := by
  rintro h s _ _ Q E ok ⟨t, rfl⟩ ⟨u, rfl⟩ k; exact PyProof.Rows.eq_int (k _ h _ (Ext.rf ok) rfl)
theorem op_ne : OpB W A (compareOp .NotEq) (isInt x) (isInt y) (isBool (!decide (x = y))) := by
  rintro h s _ _ Q E ok ⟨t, rfl⟩ ⟨u, rfl⟩ k; exact PyProof.Rows.ne_int (k _ h _ (Ext.rf ok) rfl)
theorem op_neg : OpU W A (unaryOp .USub) (isInt x) (isInt (-x)) := by
  rintro h s _ Q E ok ⟨t, rfl⟩ k; exact PyProof.Rows.neg_int (k _ h _ (ok.toks _) ⟨_, rfl⟩)
theorem tru_int : Tru W A (isInt x) (decide (x ≠ 0)) := by
  rintro h s _ Q E ok ⟨t, rfl⟩ k
  refine PySem.P.truthy_int ?_
  rw [show (x != 0) = decide (x ≠ 0) from by simp [bne, Bool.beq_eq_decide_eq]]
  exact k h s (Ext.rf ok)
theorem tru_bool {q : Bool} : Tru W A (isBool q) q := by
  rintro h s _ Q E ok rfl k; exact wpAny_truthy_bool (k h s (Ext.rf ok))
theorem tru_none : Tru W A isNone false := by
  rintro h s _ Q E ok rfl k; exact fun _ _ _ => k h s (Ext.rf ok)

theorem strEqB (a b : Str) : (a.cps.toList == b.cps.toList) = decide (a = b) := by
  obtain ⟨x⟩ := a; obtain ⟨y⟩ := b
  by_cases h : x = y
  · subst h; simp
  · have : x.toList ≠ y.toList := fun e => h (Array.toList_inj.mp e)
    simp [h, this]
theorem op_eqs : OpB W A (compareOp .Eq) (isStr a) (isStr b) (isBool (decide (a = b))) := by
  rintro h s _ _ Q E ok ⟨t, rfl⟩ ⟨u, rfl⟩ k
  refine PySem.P.eq_str ?_
  rw [strEqB]; exact k _ h _ (Ext.rf ok) rfl
theorem op_nes : OpB W A (compareOp .NotEq) (isStr a) (isStr b) (isBool (!decide (a = b))) := by
  rintro h s _ _ Q E ok ⟨t, rfl⟩ ⟨u, rfl⟩ k
  refine PySem.P.ne_str ?_
  rw [show (a.cps.toList != b.cps.toList) = !(a.cps.toList == b.cps.toList) from rfl, strEqB]; exact k _ h _ (Ext.rf ok) rfl
theorem op_adds (hz : a.length + b.length ≤ sizeLine) : OpB W A (binaryOp .Add) (isStr a) (isStr b) (isStr (a ++ b)) := by
  rintro h s _ _ Q E ok ⟨t, rfl⟩ ⟨u, rfl⟩ k
  exact PyProof.Rows.add_str (fun t' tk => k _ h _ (ok.toks _) ⟨_, rfl⟩) hz
theorem op_isb {p q : Bool} : OpB W A (compareOp .Is) (isBool p) (isBool q) (isBool (p == q)) := by
  rintro h s _ _ Q E ok rfl rfl k; exact is_bool (k _ h _ (Ext.rf ok) rfl)
theorem op_isNotb {p q : Bool} : OpB W A (compareOp .IsNot) (isBool p) (isBool q) (isBool (!(p == q))) := by
  rintro h s _ _ Q E ok rfl rfl k; exact isnot_bool (k _ h _ (Ext.rf ok) rfl)
theorem op_isn {P : VP} {q : Bool} (hq : ∀ h v, P.p h v → (v == Value.none) = q) : OpB W A (compareOp .Is) P isNone (isBool q) := by
  rintro h s v _ Q E ok p rfl k
  refine is_none ?_
  rw [hq h v p]; exact k _ h _ (Ext.rf ok) rfl
end

/-! a name of the module or a built-in -/
def GlV (W : Wd) (x : Str) (v : Value) : Prop := ∀ h, W.G h → ∃ mg, h.Ns mainGlobals mg ∧ mg x = some v
def GlB (W : Wd) (x : Str) (v : Value) : Prop := ∀ h, W.G h → ∃ mg mb, h.Ns mainGlobals mg ∧ mg x = none ∧ h.Ns builtinsNs mb ∧ mb x = some v
theorem EvE.glob {x : Str} {pos : Pos} {v : Value} (g : GlV W x v) (hx : c.env.kindOf x = some .globalImplicit) (hd : (x == ("__debug__" : Str)) = false := by decide) :
    EvE W A c ρ (.Name x pos) (isVal v) := fun h s Q E st k => by
  obtain ⟨mg, n, e⟩ := g h st.ok.g
  exact Calls.Name_function_global st.env.kind hx (Calls.loadGlobal_global (by rw [st.env.glob]; exact n.keeps st.ok.le) e (k v h s (Ext.rf st.ok) rfl)) hd
theorem EvE.blt {x : Str} {pos : Pos} {v : Value} (g : GlB W x v) (hx : c.env.kindOf x = some .globalImplicit) (hd : (x == ("__debug__" : Str)) = false := by decide) :
    EvE W A c ρ (.Name x pos) (isVal v) := fun h s Q E st k => by
  obtain ⟨mg, mb, n, e, n', e'⟩ := g h st.ok.g
  exact Calls.Name_function_global st.env.kind hx (Calls.loadGlobal_builtin (by rw [st.env.glob]; exact n.keeps st.ok.le) e (by rw [st.env.bi]; exact n'.keeps st.ok.le) e' (k v h s (Ext.rf st.ok) rfl)) hd

/-! calls -/
def CallS (W : Wd) (A : Around) (f : Value) (Ps : List VP) (R : VP) : Prop :=
  ∀ (h : Heap) (s : Shared) (vs : List Value) (Q : Value → Shared → Prop) (E : Value → Shared → Prop), Ok W h s → All2 h Ps vs →
    (∀ v h' s', Ext W h s h' s' → R.p h' v → Q v s') → wpAny W.M A (call f vs) Q E s
structure Rm (A : Around) (n : Nat) : Prop where
  hd : A.handled = none
  dp : A.depth + n < recursionLimit
  un : A.units + 16 * n < cLine
def FnSpec (W : Wd) (n : Nat) (f : Value) (Ps : List VP) (R : VP) : Prop := ∀ A, Rm A n → CallS W A f Ps R
theorem Rm.le {A : Around} {m n : Nat} (r : Rm A n) (h : m ≤ n) : Rm A m := ⟨r.hd, by have := r.dp; omega, by have := r.un; omega⟩
theorem Rm.deeper {A : Around} {n : Nat} (r : Rm A (n + 1)) (env : Env) : Rm (A.deeper env) n := ⟨r.hd, by have := r.dp; show A.depth + 1 + n < _; omega, by have := r.un; show A.units + 3 + 16 * n < _; omega⟩

theorem EvE.callB {fe : Expr} {e : Expr} {es : List Expr} {pos : Pos} {id : String} {Ps : List VP} {R : VP} (f : EvE W A c ρ fe (isVal (.builtin id))) (a : EvL W A c ρ (e :: es) Ps) (k : CallS W A (.builtin id) Ps R)
    (hc : eval (.Call fe (e :: es) [] pos) c.env = (do callWith pos (← eval fe c.env) [] (backTo pos (starEach (e :: es) c.env)) (backToKw pos (keywordEach [] c.env))) := by rfl)
    (he : starEach (e :: es) c.env = (false, eval e c.env) :: starEach es c.env := by rfl)
    (hp : (backTo pos (starEach es c.env)).any (·.1) = false := by rfl) : EvE W A c ρ (.Call fe (e :: es) [] pos) R := fun h s Q E st kk =>
  Call_ (f h s _ _ st fun v h₁ s₁ x₁ p₁ => by
    obtain rfl : v = _ := p₁
    exact PyProof.Rows.callWith_builtin1 (a pos h₁ s₁ _ _ (st.ext x₁) fun vs h₂ s₂ x₂ p₂ => k h₂ s₂ vs _ _ x₂.ok p₂ fun v h' s' x p => kk v h' s' ((x₁.tr x₂).tr x) p) he hp) hc
theorem EvE.callT {fe : Expr} {e : Expr} {es : List Expr} {pos : Pos} {T : String} {Ps : List VP} {R : VP} (f : EvE W A c ρ fe (isVal (.type T))) (a : EvL W A c ρ (e :: es) Ps) (k : CallS W A (.type T) Ps R)
    (hc : eval (.Call fe (e :: es) [] pos) c.env = (do callWith pos (← eval fe c.env) [] (backTo pos (starEach (e :: es) c.env)) (backToKw pos (keywordEach [] c.env))) := by rfl)
    (he : starEach (e :: es) c.env = (false, eval e c.env) :: starEach es c.env := by rfl)
    (hp : (backTo pos (starEach es c.env)).any (·.1) = false := by rfl) : EvE W A c ρ (.Call fe (e :: es) [] pos) R := fun h s Q E st kk =>
  Call_ (f h s _ _ st fun v h₁ s₁ x₁ p₁ => by
    obtain rfl : v = _ := p₁
    exact PyProof.Rows.callWith_type1 (a pos h₁ s₁ _ _ (st.ext x₁) fun vs h₂ s₂ x₂ p₂ => k h₂ s₂ vs _ _ x₂.ok p₂ fun v h' s' x p => kk v h' s' ((x₁.tr x₂).tr x) p) he hp) hc

/-- a value that is a function object, whatever its dict -/
def isFn (a : Addr) (h : Heap) : Prop := ∃ o fd, h.get? a = some o ∧ o.data = .func fd
theorem isFn.mono {a : Addr} {h h' : Heap} (l : Le h h') (x : isFn a h) : isFn a h' := let ⟨o, fd, e, d⟩ := x; ⟨o, fd, l _ _ e, d⟩
theorem callWith_F {pos : Pos} {a : Addr} {first : List Value} {es : List Expr} {Ps : List VP} {h : Heap} {s : Shared} {Q : Value → Shared → Prop} {E : Value → Shared → Prop} (st : St W c ρ h s) (hf : isFn a h)
    (ae : EvL W A c ρ es Ps) (k : ∀ vs h' s', Ext W h s h' s' → All2 h' Ps vs → wpAny W.M A (call (.ref a) (first ++ vs)) Q E s')
    (he : es = [] ∨ ∃ e r, es = e :: r ∧ starEach (e :: r) c.env = (false, eval e c.env) :: starEach r c.env) :
    wpAny W.M A (callWith pos (.ref a) first (backTo pos (starEach es c.env)) []) Q E s := by
  rcases he with rfl | ⟨e, r, rfl, he⟩
  · obtain ⟨o, fd, e, d⟩ := hf
    refine Calls.callWith_function (o := o) (fd := fd) (args := []) (PyProof.Rows.evalArgs_none ⟨⟨st.ok.le _ _ e, d⟩, ?_⟩)
    have key := ae pos h s (fun vs s' => wpAny W.M A (call (.ref a) (first ++ vs)) Q E s') E st k
    have hq : wpAny W.M A (pure [] : Sem (List Value)) (fun vs s' => wpAny W.M A (call (.ref a) (first ++ vs)) Q E s') E s := key
    intro Γ p hΓ
    exact (hq Γ p hΓ) Γ p hΓ
  · obtain ⟨o, fd, eo, d⟩ := hf
    have a2 := ae pos h s (fun vs s' => ((s'.heap.get? a = some o ∧ o.data = .func fd) ∧ wpAny W.M A (call (.ref a) (first ++ vs)) Q E s')) E st
      fun vs h' s' x p => ⟨⟨x.ok.le _ _ (x.le _ _ eo), d⟩, k vs h' s' x p⟩
    rw [he] at a2 ⊢
    exact Calls.callWith_function (o := o) (fd := fd) (Calls.evalArgs_plain a2)
theorem EvE.callF {fe : Expr} {es : List Expr} {pos : Pos} {a : Addr} {Ps : List VP} {R : VP} (f : EvE W A c ρ fe (isVal (.ref a))) (hf : ∀ h, W.G h → isFn a h) (ae : EvL W A c ρ es Ps) (k : CallS W A (.ref a) Ps R)
    (hc : eval (.Call fe es [] pos) c.env = (do callWith pos (← eval fe c.env) [] (backTo pos (starEach es c.env)) (backToKw pos (keywordEach [] c.env))) := by rfl)
    (he : es = [] ∨ ∃ e r, es = e :: r ∧ starEach (e :: r) c.env = (false, eval e c.env) :: starEach r c.env := by first | exact .inl rfl | exact .inr ⟨_, _, rfl, rfl⟩) :
    EvE W A c ρ (.Call fe es [] pos) R := fun h s Q E st kk =>
  Call_ (f h s _ _ st fun v h₁ s₁ x₁ p₁ => by
    obtain rfl : v = _ := p₁
    exact callWith_F (first := []) (st.ext x₁) (hf _ x₁.ok.g) ae (fun vs h₂ s₂ x₂ p₂ => k h₂ s₂ vs _ _ x₂.ok p₂ fun v h' s' x p => kk v h' s' ((x₁.tr x₂).tr x) p) he) hc

/-! stores -/
theorem Ns.uniq {h : Heap} {a : Addr} {m m' : Str → Option Value} (x : h.Ns a m) (y : h.Ns a m') : m = m' := by
  obtain ⟨o, es, ep, e, d, _, f⟩ := x
  obtain ⟨o', es', ep', e', d', _, f'⟩ := y
  rw [e] at e'; cases e'; rw [d] at d'; cases d'
  funext n; rw [← f n, ← f' n]

structure Mv (W : Wd) (c : Cx) (own' : List (Addr × Obj)) (h : Heap) (s : Shared) (h' : Heap) (s' : Shared) : Prop where
  ok : Ok W h' s'
  le : Le h h'
  new : ∀ a o, s.heap.get? a = some o → a ∉ c.own.map (·.1) → h'.get? a = h.get? a
  keep : ∀ b o, s.heap.get? b = some o → b ∉ W.tb → b ∉ c.muts → b ∉ c.own.map (·.1) → s'.heap.get? b = some o
  gens : ∀ (i : Nat) x, s.gens[i]? = some x → s'.gens[i]? = some x
  os : s'.os = s.os
  sub : ∀ a ∈ own'.map (·.1), a ∈ c.own.map (·.1) ∨ s.heap.get? a = none
  mlive : ∀ a ∈ c.muts, ∃ o, s'.heap.get? a = some o

theorem Mv.live {own' : List (Addr × Obj)} {h h' : Heap} {s s' : Shared} (x : Mv W c own' h s h' s') {a : Addr} {o : Obj} (e : s.heap.get? a = some o) (hn : a ∉ c.own.map (·.1)) : ∃ o', s'.heap.get? a = some o' := by
  by_cases ht : a ∈ W.tb
  · obtain ⟨ps, e', _⟩ := x.ok.tab a ht; exact ⟨_, e'⟩
  · by_cases hm : a ∈ c.muts
    · exact x.mlive a hm
    · exact ⟨o, x.keep a o e ht hm hn⟩
theorem Mv.notown {own' : List (Addr × Obj)} {h h' : Heap} {s s' : Shared} (x : Mv W c own' h s h' s') {a : Addr} {o : Obj} (e : s.heap.get? a = some o) (hn : a ∉ c.own.map (·.1)) : a ∉ own'.map (·.1) := fun hm => by
  rcases x.sub a hm with q | q
  · exact hn q
  · rw [e] at q; cases q
theorem Mv.tr {own' own'' : List (Addr × Obj)} {h h' h'' : Heap} {s s' s'' : Shared} (x : Mv W c own' h s h' s') (y : Mv W (c.on own') own'' h' s' h'' s'') : Mv W c own'' h s h'' s'' where
  ok := y.ok
  le := x.le.tr y.le
  new := fun a o e hn => by
    obtain ⟨o', e'⟩ := x.live e hn
    rw [y.new a o' e' (x.notown e hn), x.new a o e hn]
  keep := fun b o e ht hm hn => y.keep b o (x.keep b o e ht hm hn) ht hm (x.notown e hn)
  gens := fun i z e => y.gens i z (x.gens i z e)
  os := y.os.trans x.os
  sub := fun a ha => by
    rcases y.sub a ha with q | q
    · exact x.sub a q
    · by_cases hn : a ∈ c.own.map (·.1)
      · exact .inl hn
      · refine .inr ?_
        cases e : s.heap.get? a with
        | none => rfl
        | some o => obtain ⟨o', e'⟩ := x.live e hn; rw [q] at e'; cases e'
  mlive := y.mlive
theorem Mv.of {h h' : Heap} {s s' : Shared} (st : St W c ρ h s) (x : Ext W h s h' s') : Mv W c c.own h s h' s' where
  ok := x.ok
  le := x.le
  new := fun a o e _ => x.new a o e
  keep := fun b o e ht _ _ => x.keep b o e ht
  gens := x.gens
  os := x.os
  sub := fun a ha => .inl ha
  mlive := fun a ha => let ⟨_, e⟩ := st.liveMut ha; x.live e
theorem Mv.rf {h : Heap} {s : Shared} (st : St W c ρ h s) : Mv W c c.own h s h s := Mv.of st (Ext.rf st.ok)

def Wr (c : Cx) (x : Str) : Prop := c.env.kindOf x = some .local ∨ (c.env.kindOf x = some .cell ∧ ∃ a, c.env.cells.lookup x = some a ∧ a ∈ c.muts)

theorem Ok.sameBut {h h₁ : Heap} {s : Shared} {a : Addr} (o : Ok W h s) (hs : Heap.SameBut a s.heap h₁) (ha : h.get? a = none) (ht : a ∉ W.tb) (t : Nat) : Ok W h { s with heap := h₁, toks := t } :=
  ⟨fun b ob e => (hs.2 b (fun q => by rw [q, ha] at e; cases e)).trans (o.le b ob e), o.g, o.tn,
   fun P hP => let ⟨ps, e, r⟩ := o.tab P hP; ⟨ps, (hs.2 P (fun q => ht (q ▸ hP))).trans e, r⟩, o.bare⟩

theorem St.storeZ {M : Model} {x : Str} {v : Value} {P : VP} {h : Heap} {s : Shared} {Q : Unit → Shared → Prop} {E : Value → Shared → Prop} (st : St W c ρ h s) (hw : Wr c x) (hP : P.p h v)
    (k : ∀ s', s'.heap.objs.size = s.heap.objs.size → Mv W c c.own h s h s' → St W c ((x, P) :: ρ) h s' → Q () s') : wpAny M A (storeName c.env x v) Q E s := by
  obtain ⟨m, hn⟩ := st.ns
  have hLt := st.ok.nsNotTab hn
  have hLm := st.mu _ st.env.mem
  rcases hw with hl | ⟨hl, a, ha, ham⟩
  · refine wpAny_storeName_local hl hn (fun h₁ hn₁ hs₁ => ?_) (by rw [st.env.kind]; rfl)
    have ok' : Ok W h { s with heap := h₁, toks := s.toks + 1 } := st.ok.sameBut hs₁ hLm hLt _
    have cellUp : ∀ {b : Addr} {w : Option Value}, s.heap.IsCell b w → h₁.IsCell b w := fun {b w} q => q.sameBut hs₁ fun e => by
      obtain ⟨o, e1, d1⟩ := q; obtain ⟨o', _, _, e2, d2, _⟩ := hn
      rw [e] at e1; rw [e1] at e2; cases e2; rw [d1] at d2; cases d2
    refine k _ hs₁.1 ⟨ok', Le.rf h, fun _ _ _ _ => rfl, fun b o e _ hm _ => (hs₁.2 b (fun q => hm (q ▸ st.env.mem))).trans e, fun _ _ e => e, rfl, fun a ha => .inl ha, fun a ha => ?_⟩
      ⟨ok', st.env, ⟨_, hn₁⟩, fun a ha => (st.cel a ha).imp id fun ⟨w, q⟩ => ⟨w, cellUp q⟩, st.mu, fun p hp => ?_, st.nodup, fun y P' e => ?_⟩
    · rcases st.cel a ha with rfl | ⟨w, q⟩
      · obtain ⟨o, _, _, e, _⟩ := hn₁; exact ⟨o, e⟩
      · obtain ⟨o, e, _⟩ := cellUp q; exact ⟨o, e⟩
    · obtain ⟨e, n, mm, t⟩ := st.own p hp
      exact ⟨(hs₁.2 p.1 (fun q => mm (q ▸ st.env.mem))).trans e, n, mm, t⟩
    · rw [List.lookup_cons] at e
      cases hb : y == x with
      | true =>
        rw [hb] at e; cases e
        obtain rfl := beq_iff_eq.mp hb
        exact ⟨v, .inl ⟨hl, _, hn₁, by simp⟩, hP⟩
      | false =>
        rw [hb] at e
        obtain ⟨u, r, p⟩ := st.rd y P' e
        refine ⟨u, ?_, p⟩
        rcases r with ⟨ky, m', n', q⟩ | ⟨ky, cc, lk, q⟩
        · obtain rfl := Ns.uniq hn n'
          exact .inl ⟨ky, _, hn₁, by rw [if_neg (by simpa using hb)]; exact q⟩
        · exact .inr ⟨ky, cc, lk, cellUp q⟩
  · have hne := st.env.celne x a ha
    have hcell : ∃ w, s.heap.IsCell a w := (st.cel a ham).resolve_left hne
    obtain ⟨w, hc⟩ := hcell
    refine wpAny_storeName_cell st.env.kind hl ha hc (fun h₁ hc₁ hs₁ => ?_)
    have hat := st.ok.cellNotTab hc
    have ok' : Ok W h { s with heap := h₁ } := st.ok.sameBut hs₁ (st.mu a ham) hat s.toks
    have nsUp : h₁.Ns c.env.locals m := hn.sameBut hs₁ (Ne.symm hne)
    have cellUp : ∀ {b : Addr} {w : Option Value}, s.heap.IsCell b w → ∃ w', h₁.IsCell b w' := fun {b w} q => by
      by_cases e : b = a
      · subst e; exact ⟨_, hc₁⟩
      · exact ⟨w, q.sameBut hs₁ e⟩
    refine k _ hs₁.1 ⟨ok', Le.rf h, fun _ _ _ _ => rfl, fun b o e _ hm _ => (hs₁.2 b (fun q => hm (q ▸ ham))).trans e, fun _ _ e => e, rfl, fun a ha => .inl ha, fun b hb => ?_⟩
      ⟨ok', st.env, ⟨_, nsUp⟩, fun b hb => (st.cel b hb).imp id fun ⟨w, q⟩ => cellUp q, st.mu, fun p hp => ?_, st.nodup, fun y P' e => ?_⟩
    · rcases st.cel b hb with rfl | ⟨w, q⟩
      · obtain ⟨o, _, _, e, _⟩ := nsUp; exact ⟨o, e⟩
      · obtain ⟨w', o, e, _⟩ := cellUp q; exact ⟨o, e⟩
    · obtain ⟨e, n, mm, t⟩ := st.own p hp
      exact ⟨(hs₁.2 p.1 (fun q => mm (q ▸ ham))).trans e, n, mm, t⟩
    · rw [List.lookup_cons] at e
      cases hb : y == x with
      | true =>
        rw [hb] at e; cases e
        obtain rfl := beq_iff_eq.mp hb
        exact ⟨v, .inr ⟨.inl hl, a, ha, hc₁⟩, hP⟩
      | false =>
        rw [hb] at e
        obtain ⟨u, r, p⟩ := st.rd y P' e
        refine ⟨u, ?_, p⟩
        rcases r with ⟨ky, m', n', q⟩ | ⟨ky, cc, lk, q⟩
        · obtain rfl := Ns.uniq hn n'
          exact .inl ⟨ky, _, nsUp, q⟩
        · refine .inr ⟨ky, cc, lk, q.sameBut hs₁ fun e => ?_⟩
          have := name_of_addr st.env.apart (mem_of_lookup lk) (e ▸ mem_of_lookup ha)
          rw [this] at hb; simp at hb
theorem St.store {M : Model} {x : Str} {v : Value} {P : VP} {h : Heap} {s : Shared} {Q : Unit → Shared → Prop} {E : Value → Shared → Prop} (st : St W c ρ h s) (hw : Wr c x) (hP : P.p h v)
    (k : ∀ s', Mv W c c.own h s h s' → St W c ((x, P) :: ρ) h s' → Q () s') : wpAny M A (storeName c.env x v) Q E s := st.storeZ hw hP fun s' _ m q => k s' m q
end Mine

namespace Mine
variable {W : Wd} {A : Around} {c : Cx} {ρ : Rho}

/-! statements -/
inductive Out where
  | next (own : List (Addr × Obj)) (ρ : Rho)
  | brk (own : List (Addr × Obj)) (ρ : Rho)
  | cont (own : List (Addr × Obj)) (ρ : Rho)
  | ret (P : VP)

def Real (W : Wd) (c : Cx) : Out → Flow → Heap → Shared → Heap → Shared → Prop
  | .next own ρ, f, h, s, h', s' => f = .next ∧ Mv W c own h s h' s' ∧ St W (c.on own) ρ h' s'
  | .brk own ρ, f, h, s, h', s' => f = .brk ∧ Mv W c own h s h' s' ∧ St W (c.on own) ρ h' s'
  | .cont own ρ, f, h, s, h', s' => f = .cont ∧ Mv W c own h s h' s' ∧ St W (c.on own) ρ h' s'
  | .ret P, f, h, s, h', s' => ∃ v own, f = .ret v ∧ Mv W c own h s h' s' ∧ P.p h' v

theorem Real.after {own : List (Addr × Obj)} {h h₁ h' : Heap} {s s₁ s' : Shared} {o : Out} {f : Flow} (x : Mv W c own h s h₁ s₁) (r : Real W (c.on own) o f h₁ s₁ h' s') : Real W c o f h s h' s' := by
  cases o with
  | next own' ρ' => exact ⟨r.1, x.tr r.2.1, r.2.2⟩
  | brk own' ρ' => exact ⟨r.1, x.tr r.2.1, r.2.2⟩
  | cont own' ρ' => exact ⟨r.1, x.tr r.2.1, r.2.2⟩
  | ret P => obtain ⟨v, o', e, m, p⟩ := r; exact ⟨v, o', e, x.tr m, p⟩

def TS (W : Wd) (A : Around) (c : Cx) (ρ : Rho) (st : List Stmt) (O : Out → Prop) : Prop :=
  ∀ (h : Heap) (s : Shared) (E : Value → Shared → Prop), St W c ρ h s → wpAny W.M A (execs st c.env) (fun f s' => ∃ o h', O o ∧ Real W c o f h s h' s') E s
def TS1 (W : Wd) (A : Around) (c : Cx) (ρ : Rho) (st : Stmt) (O : Out → Prop) : Prop :=
  ∀ (h : Heap) (s : Shared) (E : Value → Shared → Prop), St W c ρ h s → wpAny W.M A (exec st c.env) (fun f s' => ∃ o h', O o ∧ Real W c o f h s h' s') E s

theorem TS.nil {O : Out → Prop} (h : O (.next c.own ρ)) : TS W A c ρ [] O := fun hh s E st =>
  wpAny_execs_nil ⟨_, hh, h, rfl, Mv.rf st, st⟩
theorem TS.mono {st : List Stmt} {O O' : Out → Prop} (x : TS W A c ρ st O) (h : ∀ o, O o → O' o) : TS W A c ρ st O' := fun hh s E q =>
  wpAny_mono (x hh s E q) (fun f s' ⟨o, h', a, b⟩ => ⟨o, h', h o a, b⟩) fun _ _ e => e
theorem TS.sub {st : List Stmt} {O : Out → Prop} {ρ' : Rho} (d : Sub ρ' ρ) (x : TS W A c ρ' st O) : TS W A c ρ st O := fun hh s E q => x hh s E (q.sub d)

/-- what a statement's outcomes become in the rest -/
def Thn (W : Wd) (A : Around) (c : Cx) (rest : List Stmt) (O : Out → Prop) : Out → Prop
  | .next own ρ => TS W A (c.on own) ρ rest O
  | o => O o
theorem TS.cons {st : Stmt} {rest : List Stmt} {O : Out → Prop} (x : TS1 W A c ρ st (Thn W A c rest O)) : TS W A c ρ (st :: rest) O := fun h s E q => by
  refine wpAny_execs_cons (wpAny_mono (x h s E q) (fun f s' ⟨o, h', a, b⟩ => ?_) fun _ _ e => e)
  cases o with
  | next own ρ' =>
    obtain ⟨rfl, m, q'⟩ := b
    exact wpAny_mono (a h' s' E q') (fun f s'' ⟨o, h'', a', b'⟩ => ⟨o, h'', a', Real.after m b'⟩) fun _ _ e => e
  | brk own ρ' => obtain ⟨rfl, r⟩ := b; exact ⟨_, h', a, rfl, r⟩
  | cont own ρ' => obtain ⟨rfl, r⟩ := b; exact ⟨_, h', a, rfl, r⟩
  | ret P => obtain ⟨v, o', rfl, r⟩ := b; exact ⟨_, h', a, v, o', rfl, r⟩

theorem execs_append (a b : List Stmt) (env : Env) : execs (a ++ b) env = (execs a env >>= fun f => match f with | .next => execs b env | f => pure f) := by
  induction a with
  | nil => rfl
  | cons st r ih =>
    rw [List.cons_append, execs_cons, execs_cons, ih, bind_assoc]
    congr 1
    funext f
    cases f <;> rfl
theorem TS.joined {a b : List Stmt} {O : Out → Prop} (x : TS W A c ρ a (Thn W A c b O)) : TS W A c ρ (a ++ b) O := fun h s E q => by
  rw [execs_append]
  refine wpAny_bind (wpAny_mono (x h s E q) (fun f s' ⟨o, h', a, b⟩ => ?_) fun _ _ e => e)
  cases o with
  | next own ρ' =>
    obtain ⟨rfl, m, q'⟩ := b
    exact wpAny_mono (a h' s' E q') (fun f s'' ⟨o, h'', a', b'⟩ => ⟨o, h'', a', Real.after m b'⟩) fun _ _ e => e
  | brk own ρ' => obtain ⟨rfl, r⟩ := b; exact wpAny_pure ⟨_, h', a, rfl, r⟩
  | cont own ρ' => obtain ⟨rfl, r⟩ := b; exact wpAny_pure ⟨_, h', a, rfl, r⟩
  | ret P => obtain ⟨v, o', rfl, r⟩ := b; exact wpAny_pure ⟨_, h', a, v, o', rfl, r⟩

theorem TS.assign {x : Str} {px pos : Pos} {e : Expr} {rest : List Stmt} {P : VP} {O : Out → Prop} (ev : EvE W A c ρ e P) (hw : Wr c x) (t : TS W A c ((x, P) :: ρ) rest O)
    (hs : swapsWith e (some (.Name x px)) pos.line c.env = pure false := by rfl) : TS W A c ρ (.Assign [.Name x px] e pos :: rest) O :=
  TS.cons fun h s E st => wpAny_Assign_Name (ev h s _ _ st fun v h₁ s₁ x₁ p₁ => (st.ext x₁).store hw p₁ fun s₂ m q =>
    ⟨.next c.own _, h₁, t, rfl, (Mv.of st x₁).tr m, q⟩) hs
theorem TS.aug {x : Str} {px pos : Pos} {op : Operator} {e : Expr} {rest : List Stmt} {P₁ P₂ P : VP} {O : Out → Prop} (hl : ρ.lookup x = some P₁) (ev : EvE W A c ρ e P₂) (o : OpB W A (inplaceOp op) P₁ P₂ P) (hw : Wr c x)
    (t : TS W A c ((x, P) :: ρ) rest O) (hn : (x == ("__classdict__" : Str)) = false := by decide) : TS W A c ρ (.AugAssign (.Name x px) op e pos :: rest) O :=
  TS.cons fun h s E st => by
    obtain ⟨v₀, r, p₀⟩ := st.rd x P₁ hl
    exact wpAny_AugAssign_Name (loadName_rd st.env.kind r (ev h s _ _ st fun v h₁ s₁ x₁ p₁ => o h₁ s₁ v₀ v _ _ x₁.ok (P₁.mono x₁.le p₀) p₁ fun u h₂ s₂ x₂ p₂ =>
      (st.ext (x₁.tr x₂)).store hw p₂ fun s₃ m q => ⟨.next c.own _, h₂, t, rfl, (Mv.of st (x₁.tr x₂)).tr m, q⟩) hn)
theorem TS.ret {e : Expr} {pos : Pos} {rest : List Stmt} {P : VP} {O : Out → Prop} (ev : EvE W A c ρ e P) (o : O (.ret P)) : TS W A c ρ (.Return (some e) pos :: rest) O :=
  TS.cons fun h s E st => wpAny_Return_some (ev h s _ _ st fun v h₁ s₁ x₁ p₁ => ⟨.ret P, h₁, o, v, c.own, rfl, Mv.of st x₁, p₁⟩)
theorem TS.ite {t : Expr} {a b rest : List Stmt} {pos : Pos} {q : Bool} {O : Out → Prop} (ev : EvT W A c ρ t q) (ha : q = true → TS W A c ρ (a ++ rest) O) (hb : q = false → TS W A c ρ (b ++ rest) O) :
    TS W A c ρ (.If t a b pos :: rest) O := fun h s E st => by
  have key : execs (.If t a b pos :: rest) c.env = (do standAt pos; if ← isTrue t c.env (eval t c.env) then execs (a ++ rest) c.env else execs (b ++ rest) c.env) := by
    rw [execs_cons, exec_If, bind_assoc]
    congr 1; funext _
    rw [bind_assoc]
    congr 1; funext v
    cases v
    · exact (execs_append b rest c.env).symm
    · exact (execs_append a rest c.env).symm
  rw [key]
  refine wpAny_bind (wpAny_standAt (wpAny_bind (ev h s _ _ st fun h₁ s₁ x₁ => ?_)))
  cases q with
  | true => exact wpAny_mono (ha rfl h₁ s₁ E (st.ext x₁)) (fun f s' ⟨o, h', p, r⟩ => ⟨o, h', p, Real.after (Mv.of st x₁) r⟩) fun _ _ e => e
  | false => exact wpAny_mono (hb rfl h₁ s₁ E (st.ext x₁)) (fun f s' ⟨o, h', p, r⟩ => ⟨o, h', p, Real.after (Mv.of st x₁) r⟩) fun _ _ e => e
theorem TS.brk {pos : Pos} {rest : List Stmt} {O : Out → Prop} (o : O (.brk c.own ρ)) : TS W A c ρ (.Break pos :: rest) O :=
  TS.cons fun h s E st => wpAny_Break ⟨.brk c.own ρ, h, o, rfl, Mv.rf st, st⟩

/-- the outcomes of a loop's body -/
def Lp (O : Out → Prop) (I : List (Addr × Obj) → Rho → Prop) : Out → Prop
  | .next own ρ => I own ρ
  | .cont own ρ => I own ρ
  | .brk own ρ => O (.next own ρ)
  | .ret P => O (.ret P)

theorem TS.whil {test : Expr} {body rest : List Stmt} {pos : Pos} {O : Out → Prop} (I : Nat → List (Addr × Obj) → Rho → Prop) (n : Nat) (h0 : I n c.own ρ)
    (turn : ∀ n own ρ', I n own ρ' → ∃ b, EvT W A (c.on own) ρ' test b ∧ (b = true → TS W A (c.on own) ρ' body (Lp (Thn W A c rest O) fun own'' ρ'' => ∃ m, m < n ∧ I m own'' ρ'')) ∧
      (b = false → TS W A (c.on own) ρ' rest O)) : TS W A c ρ (.While test body [] pos :: rest) O :=
  TS.cons fun h₀ s₀ E st₀ => wpAny_While (codeAny_whileLoop (fun n s => ∃ own ρ' h, I n own ρ' ∧ Mv W c own h₀ s₀ h s ∧ St W (c.on own) ρ' h s) (by
    rintro n s ⟨own, ρ', h, hI, m, st⟩
    obtain ⟨b, ev, ht, hf⟩ := turn n own ρ' hI
    refine ev h s _ _ st fun h₁ s₁ x₁ => ?_
    have m₁ : Mv W c own h₀ s₀ h₁ s₁ := m.tr (Mv.of st x₁)
    cases b with
    | true =>
      simp only [if_true]
      refine wpAny_mono (ht rfl h₁ s₁ _ (st.ext x₁)) (fun f s' ⟨o, h', a, r⟩ => ?_) fun _ _ e => e
      have r' := Real.after m₁ r
      cases o with
      | next own' ρ'' => obtain ⟨rfl, mm, q⟩ := r'; obtain ⟨k, hk, hi⟩ := a; exact ⟨k, hk, own', ρ'', h', hi, mm, q⟩
      | cont own' ρ'' => obtain ⟨rfl, mm, q⟩ := r'; obtain ⟨k, hk, hi⟩ := a; exact ⟨k, hk, own', ρ'', h', hi, mm, q⟩
      | brk own' ρ'' => obtain ⟨rfl, mm, q⟩ := r'; exact ⟨.next own' ρ'', h', a, rfl, mm, q⟩
      | ret P => obtain ⟨v, o', rfl, mm, q⟩ := r'; exact ⟨.ret P, h', a, v, o', rfl, mm, q⟩
    | false =>
      simp only [Bool.false_eq_true, if_false]
      exact wpAny_execs_nil ⟨.next own ρ', h₁, hf rfl, rfl, m₁, st.ext x₁⟩) n ⟨c.own, ρ, h₀, h0, Mv.rf st₀, st₀⟩)

/-! objects of one's own become plain ones -/
theorem St.thaw {h : Heap} {s : Shared} (st : St W c ρ h s) : ∃ h', Le h h' ∧ (∀ p ∈ c.own, h'.get? p.1 = some p.2) ∧ Mv W c [] h s h' s ∧ St W (c.on []) ρ h' s := by
  let h' := restr s.heap fun i => (h.get? i).isSome || decide (i ∈ c.own.map (·.1))
  have hle : Le h h' := fun b ob e => by
    show (restr _ _).get? b = _
    rw [restr_get, if_pos (by simp [e])]; exact st.ok.le _ _ e
  have hold : ∀ a, a ∉ c.own.map (·.1) → h'.get? a = h.get? a := fun a hn => by
    show (restr _ _).get? a = _
    rw [restr_get]
    cases e : h.get? a with
    | none => rw [if_neg]; simp only [e, Option.isSome_none, Bool.false_or, decide_eq_true_eq]; exact hn
    | some ob => rw [if_pos (by simp [e])]; exact st.ok.le _ _ e
  have hown : ∀ p ∈ c.own, h'.get? p.1 = some p.2 := fun p hp => by
    show (restr _ _).get? p.1 = _
    rw [restr_get, if_pos (by simp only [Bool.or_eq_true, decide_eq_true_eq]; exact .inr (List.mem_map_of_mem hp))]; exact (st.own p hp).1
  have notown : ∀ a, (a ∈ c.muts ∨ a ∈ W.tb) → a ∉ c.own.map (·.1) := fun a ha hm => by
    obtain ⟨p, hp, rfl⟩ := List.mem_map.mp hm
    exact ha.elim (st.own p hp).2.2.1 (st.own p hp).2.2.2
  have ok' : Ok W h' s := by
    refine ⟨fun b ob e => ?_, W.gmono hle st.ok.g, fun P hP => ?_, fun P hP => ?_, st.ok.bare⟩
    · have e' : (restr _ _).get? b = some ob := e
      rw [restr_get] at e'
      split at e'
      · exact e'
      · cases e'
    · rw [hold P (notown P (.inr hP))]; exact st.ok.tn P hP
    · obtain ⟨ps, e, t, cc⟩ := st.ok.tab P hP
      exact ⟨ps, e, t, fun pos cv q => (cc pos cv q).keeps hle⟩
  refine ⟨h', hle, hown, ⟨ok', hle, fun a o _ hn => hold a hn, fun b o e _ _ _ => e, fun _ _ e => e, rfl, fun a ha => by simp at ha, fun a ha => st.liveMut ha⟩,
    ⟨ok', ⟨st.env.kind, st.env.glob, st.env.bi, st.env.mem, st.env.apart, st.env.celne⟩, st.ns, st.cel, fun a ha => by rw [hold a (notown a (.inl ha))]; exact st.mu a ha, fun p hp => (by cases hp), List.nodup_nil, fun y P e => let ⟨v, r, p⟩ := st.rd y P e; ⟨v, r, P.mono hle p⟩⟩⟩

/-- a return whose value rests on objects of one's own -/
theorem TS.retOwn {e : Expr} {pos : Pos} {rest : List Stmt} {P R : VP} {O : Out → Prop} (ev : EvE W A c ρ e P) (o : O (.ret R))
    (hR : ∀ h v, P.p h v → (∀ p ∈ c.own, h.get? p.1 = some p.2) → R.p h v) : TS W A c ρ (.Return (some e) pos :: rest) O :=
  TS.cons fun h s E st => wpAny_Return_some (ev h s _ _ st fun v h₁ s₁ x₁ p₁ => by
    obtain ⟨h', l, g, m, _⟩ := (st.ext x₁).thaw
    exact ⟨.ret R, h', o, v, [], rfl, (Mv.of st x₁).tr m, hR h' v (P.mono l p₁) g⟩)

/-! iterators -/
structure Xt (W : Wd) (X : Addr → Prop) (Xg : Nat → Prop) (h : Heap) (s : Shared) (h' : Heap) (s' : Shared) : Prop where
  ok : Ok W h' s'
  le : Le h h'
  new : ∀ a o, s.heap.get? a = some o → h'.get? a = h.get? a
  keep : ∀ b o, s.heap.get? b = some o → b ∉ W.tb → ¬ X b → s'.heap.get? b = some o
  gens : ∀ (i : Nat) x, s.gens[i]? = some x → ¬ Xg i → s'.gens[i]? = some x
  os : s'.os = s.os

structure Fm (X : Addr → Prop) (h : Heap) (s : Shared) (h' : Heap) (s' : Shared) : Prop where
  le : Le h h'
  at_ : ∀ a, X a → s'.heap.get? a = s.heap.get? a
  base : ∀ a, X a → h'.get? a = h.get? a
  gens : ∀ (i : Nat) x, s.gens[i]? = some x → s'.gens[i]? = some x

structure Itr (W : Wd) (A : Around) (it : Value) (Xg : Nat → Prop) (J : (Addr → Prop) → List VP → Heap → Shared → Prop) : Prop where
  step : ∀ X P Ps h s (Q : Option Value → Shared → Prop) (E : Value → Shared → Prop), Ok W h s → J X (P :: Ps) h s →
    (∀ v h' s' X', Xt W X Xg h s h' s' → (∀ a, X' a → X a ∨ s.heap.get? a = none) → P.p h' v → J X' Ps h' s' → Q (some v) s') → wpAny W.M A (pyNext it) Q E s
  done : ∀ X h s (Q : Option Value → Shared → Prop) (E : Value → Shared → Prop), Ok W h s → J X [] h s → (∀ h' s', Xt W X Xg h s h' s' → Q none s') → wpAny W.M A (pyNext it) Q E s
  frame : ∀ X Ps h s h' s', Ok W h s → Ok W h' s' → J X Ps h s → Fm X h s h' s' → J X Ps h' s'
  self : ∀ X Ps h s (Q : Value → Shared → Prop) (E : Value → Shared → Prop), Ok W h s → J X Ps h s → Q it s → wpAny W.M A (pyIter it) Q E s
  lot : ∀ X Ps h s t v (Q : Unit → Shared → Prop) (E : Value → Shared → Prop), Ok W h s → J X Ps h s → Q () s → wpAny W.M A (letOwnedTupleGo t it v) Q E s
  priv : ∀ X Ps h s a, Ok W h s → J X Ps h s → X a → (∃ o, s.heap.get? a = some o ∧ ∀ v, o.data ≠ .cell v) ∧ h.get? a = none ∧ a ∉ W.tb

def EvI (W : Wd) (A : Around) (c : Cx) (ρ : Rho) (iter : Expr) (Ps : List VP) : Prop :=
  ∀ (h : Heap) (s : Shared) (Q : Value → Shared → Prop) (E : Value → Shared → Prop), St W c ρ h s →
    (∀ it X Xg J h' s', Ext W h s h' s' → Itr W A it Xg J → J X Ps h' s' → (∀ a, X a → s.heap.get? a = none) → (∀ i, Xg i → s.gens[i]? = none) → Q it s') →
    wpAny W.M A (eval iter c.env) (fun v s₁ => wpAny W.M A (foldedSetIterable iter c.env v) (fun x s₂ => wpAny W.M A (pyIter x) Q E s₂) E s₁) E s

/-- a value that is handed to a target -/
def AsT (W : Wd) (A : Around) (c : Cx) (t : Expr) (P : VP) (up : Rho → Rho) : Prop :=
  ∀ (own : List (Addr × Obj)) (ρ : Rho) (h : Heap) (s : Shared) (v : Value) (Q : Unit → Shared → Prop) (E : Value → Shared → Prop), St W (c.on own) ρ h s → P.p h v →
    (∀ h' s', Mv W (c.on own) own h s h' s' → St W (c.on own) (up ρ) h' s' → Q () s') → wpAny W.M A (assign t c.env v) Q E s
theorem AsT.name {x : Str} {pos : Pos} {P : VP} (hw : Wr c x) : AsT W A c (.Name x pos) P (fun ρ => (x, P) :: ρ) := fun own ρ h s v Q E st p k =>
  wpAny_assign_Name (St.store (c := c.on own) st hw p fun s' m q => k h s' m q)

theorem St.xt {X : Addr → Prop} {Xg : Nat → Prop} {h h' : Heap} {s s' : Shared} (st : St W c ρ h s) (x : Xt W X Xg h s h' s') (hm : ∀ a, X a → a ∉ c.muts ∧ a ∉ c.own.map (·.1) ∧ ∀ v, ¬ s.heap.IsCell a v) : St W c ρ h' s' := by
  have nsU : ∀ {m}, s.heap.Ns c.env.locals m → s'.heap.Ns c.env.locals m := fun {m} e => e.at' fun ob ho => x.keep _ ob ho (st.ok.nsNotTab e) fun q => (hm _ q).1 st.env.mem
  have ceU : ∀ {a v}, s.heap.IsCell a v → s'.heap.IsCell a v := fun {a v} e => let ⟨ob, ho, hd⟩ := e; ⟨ob, x.keep a ob ho (st.ok.cellNotTab e) (fun q => (hm _ q).2.2 _ e), hd⟩
  exact {
    ok := x.ok
    env := st.env
    ns := let ⟨m, e⟩ := st.ns; ⟨m, nsU e⟩
    cel := fun a ha => (st.cel a ha).imp id fun ⟨v, e⟩ => ⟨v, ceU e⟩
    mu := fun a ha => by obtain ⟨o, e⟩ := st.liveMut ha; rw [x.new a o e]; exact st.mu a ha
    own := fun p hp => by obtain ⟨e, n, m, t⟩ := st.own p hp; exact ⟨x.keep _ _ e t (fun q => (hm _ q).2.1 (List.mem_map_of_mem hp)), by rw [x.new _ _ e]; exact n, m, t⟩
    nodup := st.nodup
    rd := fun y P e => by
      obtain ⟨v, r, p⟩ := st.rd y P e
      refine ⟨v, ?_, P.mono x.le p⟩
      rcases r with ⟨k, m, n, q⟩ | ⟨k, cc, l, q⟩
      · exact .inl ⟨k, m, nsU n, q⟩
      · exact .inr ⟨k, cc, l, ceU q⟩ }
theorem Mv.xt {own : List (Addr × Obj)} {X : Addr → Prop} {Xg : Nat → Prop} {h₀ h h' : Heap} {s₀ s s' : Shared} (m : Mv W c own h₀ s₀ h s) (x : Xt W X Xg h s h' s') (hX : ∀ a o, s₀.heap.get? a = some o → a ∉ c.own.map (·.1) → ¬ X a) (hg : ∀ i, Xg i → s₀.gens[i]? = none) (hmx : ∀ a ∈ c.muts, ¬ X a) :
    Mv W c own h₀ s₀ h' s' where
  ok := x.ok
  le := m.le.tr x.le
  new := fun a o e hn => by obtain ⟨o', e'⟩ := m.live e hn; rw [x.new a o' e', m.new a o e hn]
  keep := fun b o e ht hm hn => x.keep b o (m.keep b o e ht hm hn) ht (hX b o e hn)
  gens := fun i z e => x.gens i z (m.gens i z e) fun q => by rw [hg i q] at e; cases e
  os := x.os.trans m.os
  sub := m.sub
  mlive := fun a ha => by
    obtain ⟨o, e⟩ := m.mlive a ha
    by_cases ht : a ∈ W.tb
    · obtain ⟨ps, e', _⟩ := x.ok.tab a ht; exact ⟨_, e'⟩
    · exact ⟨o, x.keep a o e ht (hmx a ha)⟩

theorem wpAny_For_any {target iter : Expr} {body orelse : List Stmt} {pos : Pos} {env : Env} {M : Model} {s : Shared} {Q : Flow → Shared → Prop} {E : Value → Shared → Prop}
    (h : wpAny M A (eval iter env) (fun v s₁ => wpAny M A (foldedSetIterable iter env v) (fun x s₂ => wpAny M A (pyIter x) (fun it s₃ =>
      codeAny M A (.forLoop target it body orelse env) (fun r s' => match r with | .ok f => Q f s' | .error e => cameBackBy M A env E e s') s₃) E s₂) E s₁) E s) :
    wpAny M A (exec (.For target iter body orelse pos) env) Q E s := by
  rw [arm_exec_For]
  refine wpAny_bind (wpAny_standAt (wpAny_bind (wpAny_mono h (fun v s₁ h₁ => wpAny_bind (wpAny_mono h₁ (fun x s₂ h₂ => wpAny_bind (wpAny_standAt (wpAny_bind (wpAny_holding (wpAny_mono h₂ (fun it s₃ h₃ => ?_) fun _ _ e => e))))) fun _ _ e => e)) fun _ _ e => e)))
  exact wpAny_runOwn h₃

theorem TS.forr {target iter : Expr} {body rest : List Stmt} {pos : Pos} {Ps : List VP} {O : Out → Prop} (ev : EvI W A c ρ iter Ps) (I : Nat → List (Addr × Obj) → Rho → Prop) (h0 : I 0 c.own ρ)
    (turn : ∀ i P own ρ', I i own ρ' → Ps[i]? = some P → ∃ up, AsT W A c target P up ∧ TS W A (c.on own) (up ρ') body (Lp (Thn W A c rest O) fun own'' ρ'' => I (i + 1) own'' ρ''))
    (fin : ∀ own ρ', I Ps.length own ρ' → TS W A (c.on own) ρ' rest O) : TS W A c ρ (.For target iter body [] pos :: rest) O :=
  TS.cons fun h₀ s₀ E st₀ => wpAny_For_any (ev h₀ s₀ _ _ st₀ fun it X₀ Xg J h₁ s₁ x₁ itr hJ hX hg => by
    have i1 : ∀ a, X₀ a → a ∉ c.own.map (·.1) := fun a ha hm => by
      obtain ⟨p, hp, rfl⟩ := List.mem_map.mp hm
      have e := (st₀.own p hp).1
      rw [hX _ ha] at e; cases e
    have i2 : ∀ a o, s₀.heap.get? a = some o → a ∉ c.own.map (·.1) → ¬ X₀ a := fun a o e _ hx => by rw [hX a hx] at e; cases e
    have i3 : ∀ a ∈ c.muts, ¬ X₀ a := fun a ha hx => by obtain ⟨o', e'⟩ := st₀.liveMut ha; rw [hX a hx] at e'; cases e'
    refine codeAny_forLoop_any (fun n s => ∃ i own ρ' h X, n = Ps.length - i ∧ i ≤ Ps.length ∧ I i own ρ' ∧ Mv W c own h₀ s₀ h s ∧ St W (c.on own) ρ' h s ∧ J X (Ps.drop i) h s ∧ (∀ a, X a → a ∉ own.map (·.1)) ∧ (∀ a o, s₀.heap.get? a = some o → a ∉ c.own.map (·.1) → ¬ X a) ∧ (∀ a ∈ c.muts, ¬ X a)) ?_ Ps.length
      ⟨0, c.own, ρ, h₁, X₀, by simp, by simp, h0, Mv.of st₀ x₁, st₀.ext x₁, by simpa using hJ, i1, i2, i3⟩
    rintro n s ⟨i, own, ρ', h, X, rfl, hi, hI, m, st, hJ, hno, hX, hmx⟩
    have cr : ∀ {X : Addr → Prop} {own : List (Addr × Obj)} {h : Heap} {s : Shared} {ρ' : Rho} {Ps : List VP}, St W (c.on own) ρ' h s → J X Ps h s → (∀ a, X a → a ∉ own.map (·.1)) → (∀ a ∈ c.muts, ¬ X a) → ∀ a, X a → a ∉ (c.on own).muts ∧ a ∉ (c.on own).own.map (·.1) ∧ ∀ v, ¬ s.heap.IsCell a v := by
      intro X own h s ρ' Ps st hJ hno hmx a ha
      obtain ⟨⟨o, e, hc⟩, _, _⟩ := itr.priv _ _ _ _ a st.ok hJ ha
      refine ⟨fun hm => hmx a hm ha, hno a ha, fun v ⟨o', e', d⟩ => ?_⟩
      rw [e] at e'; cases e'; exact hc v d
    by_cases hlt : i < Ps.length
    · rw [List.drop_eq_getElem_cons hlt] at hJ
      refine itr.step X _ _ h s _ _ st.ok hJ fun v h' s' X' xt hX' p hJ' => ?_
      have st' := st.xt xt (cr st hJ hno hmx)
      have m' := m.xt xt hX hg hmx
      have hno' : ∀ a, X' a → a ∉ own.map (·.1) := fun a ha hm => by
        rcases hX' a ha with q | q
        · exact hno a q hm
        · obtain ⟨p, hp, rfl⟩ := List.mem_map.mp hm
          have e := (st.own p hp).1; rw [q] at e; cases e
      have hXX : ∀ a o, s₀.heap.get? a = some o → a ∉ c.own.map (·.1) → ¬ X' a := fun a o e hn hx => by
        rcases hX' a hx with q | q
        · exact hX a o e hn q
        · obtain ⟨o', e'⟩ := m.live e hn; rw [q] at e'; cases e'
      have hmx' : ∀ a ∈ c.muts, ¬ X' a := fun a ha hx => by
        rcases hX' a hx with q | q
        · exact hmx a ha q
        · obtain ⟨o', e'⟩ := m.mlive a ha; rw [q] at e'; cases e'
      refine itr.lot X' _ h' s' target v _ _ st'.ok hJ' ?_
      obtain ⟨up, as, ts⟩ := turn i Ps[i] own ρ' hI (by simp [hlt])
      refine as own ρ' h' s' v _ _ st' p fun h₂ s₂ m₂ st₂ => ?_
      refine wpAny_mono (ts h₂ s₂ _ st₂) (fun f s₃ ⟨o, h₃, a, r⟩ => ?_) fun _ _ e => e
      have r₂ := Real.after m₂ r
      have r' := Real.after m' r₂
      have go : ∀ own' ρ'', I (i + 1) own' ρ'' → Mv W c own' h₀ s₀ h₃ s₃ → St W (c.on own') ρ'' h₃ s₃ → Mv W (c.on own) own' h' s' h₃ s₃ → ∃ m, m < Ps.length - i ∧ ∃ i own ρ' h X, m = Ps.length - i ∧ i ≤ Ps.length ∧ I i own ρ' ∧ Mv W c own h₀ s₀ h s₃ ∧ St W (c.on own) ρ' h s₃ ∧ J X (Ps.drop i) h s₃ ∧ (∀ a, X a → a ∉ own.map (·.1)) ∧ (∀ a o, s₀.heap.get? a = some o → a ∉ c.own.map (·.1) → ¬ X a) ∧ (∀ a ∈ c.muts, ¬ X a) := by
        intro own' ρ'' hi' mm q mb
        have no' : ∀ a, X' a → a ∉ own'.map (·.1) := fun a ha => by
          obtain ⟨⟨o, e, _⟩, _, _⟩ := itr.priv _ _ _ _ a st'.ok hJ' ha
          exact mb.notown e (hno' a ha)
        refine ⟨Ps.length - (i + 1), by omega, i + 1, own', ρ'', h₃, X', rfl, hlt, hi', mm, q, itr.frame _ _ _ _ _ _ st'.ok mb.ok hJ' ⟨mb.le, fun a ha => ?_, fun a ha => ?_, mb.gens⟩, no', hXX, hmx'⟩
        · obtain ⟨⟨o, e, _⟩, _, t⟩ := itr.priv _ _ _ _ a st'.ok hJ' ha
          rw [e]
          exact mb.keep a o e t (fun hm => hmx' a hm ha) (hno' a ha)
        · obtain ⟨⟨o, e, _⟩, _, t⟩ := itr.priv _ _ _ _ a st'.ok hJ' ha
          exact mb.new a o e (hno' a ha)
      cases o with
      | next own' ρ'' => obtain ⟨rfl, mm, q⟩ := r'; exact go own' ρ'' a mm q r₂.2.1
      | cont own' ρ'' => obtain ⟨rfl, mm, q⟩ := r'; exact go own' ρ'' a mm q r₂.2.1
      | brk own' ρ'' => obtain ⟨rfl, mm, q⟩ := r'; exact ⟨.next own' ρ'', h₃, a, rfl, mm, q⟩
      | ret P => obtain ⟨v, o', rfl, mm, q⟩ := r'; exact ⟨.ret P, h₃, a, v, o', rfl, mm, q⟩
    · obtain rfl : i = Ps.length := by omega
      rw [List.drop_length] at hJ
      refine itr.done X h s _ _ st.ok hJ fun h' s' xt => ?_
      have st' := st.xt xt (cr st hJ hno hmx)
      exact wpAny_execs_nil ⟨.next own ρ', h', fin own ρ' hI, rfl, m.xt xt hX hg hmx, st'⟩)

end Mine

namespace Mine
variable {W : Wd} {A : Around} {c : Cx} {ρ : Rho}

/-! a new frame -/
def Bd (h : Heap) : List (Str × Value) → Rho → Prop
  | [], [] => True
  | (x, v) :: bs, (y, P) :: r => x = y ∧ P.p h v ∧ Bd h bs r
  | _, _ => False
theorem Bd.names {h : Heap} : ∀ {bs : List (Str × Value)} {r : Rho}, Bd h bs r → bs.map (·.1) = r.map (·.1)
  | [], [], _ => rfl
  | (x, v) :: bs, (y, P) :: r, q => by obtain ⟨rfl, _, q⟩ := q; simp only [List.map_cons]; rw [Bd.names q]
  | [], _ :: _, q => q.elim
  | _ :: _, [], q => q.elim
theorem Bd.of {h : Heap} : ∀ {ns : List Str} {Ps : List VP} {vs : List Value}, ns.length = Ps.length → All2 h Ps vs → Bd h (ns.zip vs) (ns.zip Ps)
  | [], [], [], _, _ => trivial
  | n :: ns, P :: Ps, v :: vs, hl, a => ⟨rfl, a.1, Bd.of (by simpa using hl) a.2⟩
  | _, [], _ :: _, _, a => a.elim
  | _, _ :: _, [], _, a => a.elim
  | [], _ :: _, _, hl, _ => by simp at hl
  | _ :: _, [], _, hl, _ => by simp at hl

theorem Mv.toExt {own' : List (Addr × Obj)} {h h₁ h' : Heap} {s s₁ s' : Shared} (x : Ext W h s h₁ s₁) (m : Mv W c own' h₁ s₁ h' s') (hm : ∀ a ∈ c.muts, s.heap.get? a = none) (ho : c.own = []) : Ext W h s h' s' where
  ok := m.ok
  le := x.le.tr m.le
  new := fun a o e => by
    obtain ⟨o', e'⟩ := x.live e
    rw [m.new a o' e' (by rw [ho]; simp), x.new a o e]
  keep := fun b o e ht => m.keep b o (x.keep b o e ht) ht (fun q => by rw [hm b q] at e; cases e) (by rw [ho]; simp)
  gens := fun i z e => m.gens i z (x.gens i z e)
  os := m.os.trans x.os

theorem cellsFrom_apart : ∀ (names : List (Str × NameKind)) (n : Nat) (acc : List (Str × Addr)), (acc.Pairwise fun x y => x.2 ≠ y.2) → (∀ p ∈ acc, p.2 < n) → ((cellsFrom n names acc).Pairwise fun x y => x.2 ≠ y.2)
  | [], _, _, h, _ => h
  | (x, k) :: r, n, acc, h, hl => by
    unfold cellsFrom
    split
    · refine cellsFrom_apart r (n + 1) _ (List.pairwise_cons.mpr ⟨fun y hy => ?_, h⟩) fun p hp => ?_
      · exact Nat.ne_of_gt (hl y hy)
      · rcases List.mem_cons.mp hp with rfl | hp
        · exact Nat.lt_succ_self _
        · exact Nat.lt_succ_of_lt (hl p hp)
    · exact cellsFrom_apart r n acc h hl
theorem cellsFrom_mem : ∀ (names : List (Str × NameKind)) (n : Nat) (acc : List (Str × Addr)) (p : Str × Addr), p ∈ cellsFrom n names acc → p ∈ acc ∨ (n ≤ p.2 ∧ p ∈ cellsFrom n names [])
  | [], _, _, p, h => .inl h
  | (x, k) :: r, n, acc, p, h => by
    unfold cellsFrom at h ⊢
    split at h
    · rename_i hk
      rw [if_pos hk]
      rcases cellsFrom_mem r (n + 1) _ p h with q | ⟨q, q'⟩
      · rcases List.mem_cons.mp q with rfl | q
        · refine .inr ⟨Nat.le_refl _, ?_⟩
          exact cellsFrom_sup r (n + 1) _ _ (List.mem_cons_self ..)
        · exact .inl q
      · refine .inr ⟨Nat.le_of_succ_le q, ?_⟩
        exact cellsFrom_monoAcc r (n + 1) [] _ p q' (fun _ h => by cases h)
    · rename_i hk
      rw [if_neg hk]
      exact cellsFrom_mem r n acc p h
where
  cellsFrom_sup : ∀ (names : List (Str × NameKind)) (n : Nat) (acc : List (Str × Addr)) (p : Str × Addr), p ∈ acc → p ∈ cellsFrom n names acc
    | [], _, _, _, h => h
    | (x, k) :: r, n, acc, p, h => by
      unfold cellsFrom
      split
      · exact cellsFrom_sup r (n + 1) _ p (List.mem_cons_of_mem _ h)
      · exact cellsFrom_sup r n acc p h
  cellsFrom_monoAcc : ∀ (names : List (Str × NameKind)) (n : Nat) (acc acc' : List (Str × Addr)) (p : Str × Addr), p ∈ cellsFrom n names acc → (∀ q ∈ acc, q ∈ acc') → p ∈ cellsFrom n names acc'
    | [], _, _, _, p, h, hs => hs p h
    | (x, k) :: r, n, acc, acc', p, h, hs => by
      unfold cellsFrom at h ⊢
      split at h
      · rename_i hk
        rw [if_pos hk]
        refine cellsFrom_monoAcc r (n + 1) _ _ p h fun q hq => ?_
        rcases List.mem_cons.mp hq with rfl | hq
        · exact List.mem_cons_self ..
        · exact List.mem_cons_of_mem _ (hs q hq)
      · rename_i hk
        rw [if_neg hk]
        exact cellsFrom_monoAcc r n acc acc' p h hs
theorem pushCells_cell : ∀ (names : List (Str × NameKind)) (h : Heap) (p : Str × Addr), p ∈ cellsFrom h.objs.size names [] → (pushCells h names).IsCell p.2 none
  := fun names h p hp => ((cellsFrom_ok names h 0 [] ⟨fun _ _ h => (by cases h), List.Pairwise.nil⟩ (Nat.zero_le _)).empty p.1 p.2 hp).1

abbrev nEnv (scope : Scope) (L : Addr) (closure : List (Str × Addr)) (qual : Str) (func : Option Addr) (code : Value) (around : Option Env) : Env :=
  newEnv scope L mainGlobals (cellsFrom (L + 1) scope.names closure) qual func code around builtinsNs
abbrev nCx (scope : Scope) (L : Addr) (closure : List (Str × Addr)) (qual : Str) (func : Option Addr) (code : Value) (around : Option Env) : Cx :=
  ⟨nEnv scope L closure qual func code around, L :: (cellsFrom (L + 1) scope.names []).map (·.2), []⟩

/-- what is known of the names that the frame takes from around -/
def Fre (scope : Scope) (closure : List (Str × Addr)) (ρ : Rho) (h h' : Heap) : Prop :=
  ∀ x P, ρ.lookup x = some P → (scope.names.lookup x = some .free) ∧ ∃ a v, closure.lookup x = some a ∧ h'.IsCell a (some v) ∧ P.p h v

theorem cellsFrom_lookup {x : Str} : ∀ (names : List (Str × NameKind)) (n : Nat) (acc : List (Str × Addr)), (∀ k, (x, k) ∈ names → k ≠ .cell) → (cellsFrom n names acc).lookup x = acc.lookup x
  | [], _, _, _ => rfl
  | (y, k) :: r, n, acc, h => by
    unfold cellsFrom
    split
    · rename_i hk
      rw [cellsFrom_lookup r (n + 1) _ fun k' hk' => h k' (List.mem_cons_of_mem _ hk'), List.lookup_cons]
      have : (x == y) = false := by
        cases e : x == y with
        | false => rfl
        | true => exact absurd (beq_iff_eq.mp hk) (h k (by rw [beq_iff_eq.mp e]; exact List.mem_cons_self ..))
      rw [this]
    · exact cellsFrom_lookup r n acc fun k' hk' => h k' (List.mem_cons_of_mem _ hk')

theorem wpAny_newFrame {M : Model} {scope : Scope} {closure : List (Str × Addr)} {binds : List (Str × Value)} {ρb ρf : Rho} {qual : Str} {func : Option Addr} {code : Value} {around : Option Env} {h : Heap} {s : Shared}
    {Q : Env → Shared → Prop} {E : Value → Shared → Prop} (ok : Ok W h s) (hk : scope.kind = .function)
    (hb : Bd h binds ρb) (hf : Fre scope closure ρf h s.heap) (hcl : ∀ p ∈ closure, ∃ v, s.heap.IsCell p.2 v) (hca : closure.Pairwise fun x y => x.2 ≠ y.2)
    (hun : ∀ x, scope.names.lookup x = some .free → ∀ k, (x, k) ∈ scope.names → k ≠ .cell)
    (hw : ∀ p ∈ binds, Wr (nCx scope s.heap.objs.size closure qual func code around) p.1) (har : ∀ o, around = some o → o.builtins = builtinsNs)
    (k : ∀ s', Ext W h s h s' → St W (nCx scope s.heap.objs.size closure qual func code around) (ρb.reverse ++ ρf) h s' → Q (nEnv scope s.heap.objs.size closure qual func code around) s') :
    wpAny M A (newFunctionEnv scope mainGlobals closure binds qual func code around builtinsNs) Q E s := by
  have hsz : ∀ {a : Addr} {o : Obj}, s.heap.get? a = some o → a < s.heap.objs.size := fun e => Heap.lt_size e
  -- the state behind the allocations
  have key : ∀ (fo : Obj), fo.isFreed = false → fo.data = .dict #[] 0 → ∀ (s₁ : Shared), s₁ = { s with heap := pushCells (s.heap.push fo) scope.names } →
      Ext W h s h s₁ ∧ St W (nCx scope s.heap.objs.size closure qual func code around) ρf h s₁ := by
    rintro fo hfo hfd s₁ rfl
    have hk₁ : Le s.heap (pushCells (s.heap.push fo) scope.names) := fun b o e => pushCells_keeps _ _ b o (Heap.get?_push_of_some _ e)
    have ok' : Ok W h { s with heap := pushCells (s.heap.push fo) scope.names } :=
      ⟨ok.le.tr hk₁, ok.g, ok.tn, fun P hP => let ⟨ps, e, r⟩ := ok.tab P hP; ⟨ps, hk₁ _ _ e, r⟩, ok.bare⟩
    have hL : (pushCells (s.heap.push fo) scope.names).get? s.heap.objs.size = some fo := pushCells_keeps _ _ _ _ (Heap.get?_push_size _ hfo)
    have hcells : ∀ p ∈ cellsFrom (s.heap.objs.size + 1) scope.names [], (pushCells (s.heap.push fo) scope.names).IsCell p.2 none := by
      have := pushCells_cell scope.names (s.heap.push fo)
      rw [Heap.size_push] at this; exact this
    have hfresh : ∀ p ∈ cellsFrom (s.heap.objs.size + 1) scope.names [], s.heap.objs.size + 1 ≤ p.2 := fun p hp => by
      rcases cellsFrom_mem _ _ _ p hp with q | q
      · cases q
      · exact q.1
    have hns : (pushCells (s.heap.push fo) scope.names).Ns s.heap.objs.size fun _ => none := by
      refine ⟨fo, #[], 0, hL, hfd, ?_, ?_⟩
      · intro e he; simp at he
      · intro n; rfl
    have hnone : ∀ a, s.heap.objs.size ≤ a → h.get? a = none := fun a ha => by
      cases e : h.get? a with
      | none => rfl
      | some o => exact absurd (hsz (ok.le _ _ e)) (Nat.not_lt.mpr ha)
    have hLe : (nEnv scope s.heap.objs.size closure qual func code around).locals = s.heap.objs.size := by cases around <;> rfl
    refine ⟨⟨ok', Le.rf h, fun _ _ _ => rfl, fun b o e _ => hk₁ b o e, fun _ _ e => e, rfl⟩, ok', ⟨?_, ?_, ?_, List.mem_cons.mpr (.inl hLe), ?_, ?_⟩, ⟨fun _ => none, by rw [hLe]; exact hns⟩, fun a ha => ?_, fun a ha => ?_, fun p hp => (by cases hp), List.nodup_nil, fun x P e => ?_⟩
    · cases around <;> exact hk
    · cases around <;> rfl
    · cases ha : around with
      | none => rfl
      | some o => exact har o ha
    · have := cellsFrom_apart scope.names (s.heap.objs.size + 1) closure hca fun p hp => by obtain ⟨v, o, e, _⟩ := hcl p hp; exact Nat.lt_succ_of_lt (hsz e)
      cases around <;> exact this
    · intro x a e
      have e' : (cellsFrom (s.heap.objs.size + 1) scope.names closure).lookup x = some a := by cases around <;> exact e
      have hL' : (nEnv scope s.heap.objs.size closure qual func code around).locals = s.heap.objs.size := by cases around <;> rfl
      show a ≠ (nEnv scope s.heap.objs.size closure qual func code around).locals
      rw [hL']
      rcases cellsFrom_mem _ _ _ _ (mem_of_lookup e') with q | q
      · obtain ⟨v, o, e2, _⟩ := hcl _ q; have := hsz e2; exact Nat.ne_of_lt this
      · exact Nat.ne_of_gt q.1
    · rcases List.mem_cons.mp ha with rfl | ha
      · exact .inl (by cases around <;> rfl)
      · obtain ⟨p, hp, rfl⟩ := List.mem_map.mp ha
        exact .inr ⟨_, hcells p hp⟩
    · rcases List.mem_cons.mp ha with rfl | ha
      · exact hnone _ (Nat.le_refl _)
      · obtain ⟨p, hp, rfl⟩ := List.mem_map.mp ha
        exact hnone _ (Nat.le_of_succ_le (hfresh p hp))
    · obtain ⟨hfk, a, v, ha, hc, hp⟩ := hf x P e
      refine ⟨v, .inr ⟨.inr ?_, a, ?_, hc.keeps hk₁⟩, hp⟩
      · cases around <;> exact hfk
      · have := (cellsFrom_lookup scope.names (s.heap.objs.size + 1) closure (hun x hfk)).trans ha
        cases around <;> exact this
  -- the stores
  have stores : ∀ (bs : List (Str × Value)) (r done : Rho) (s₁ : Shared) (Q : PUnit → Shared → Prop), Bd h bs r → (∀ p ∈ bs, Wr (nCx scope s.heap.objs.size closure qual func code around) p.1) → Ext W h s h s₁ →
      St W (nCx scope s.heap.objs.size closure qual func code around) done h s₁ → (∀ s', Ext W h s h s' → St W (nCx scope s.heap.objs.size closure qual func code around) (r.reverse ++ done) h s' → Q ⟨⟩ s') →
      wpAny M A (forIn bs PUnit.unit fun x r => (do storeName (nEnv scope s.heap.objs.size closure qual func code around) x.1 x.2; pure (ForInStep.yield PUnit.unit) : Sem (ForInStep PUnit))) Q E s₁ := by
    intro bs
    induction bs with
    | nil =>
      intro r done s₁ Q hb _ x st kk
      cases r with
      | nil => rw [List.forIn_nil]; exact wpAny_pure (kk s₁ x st)
      | cons _ _ => exact hb.elim
    | cons b bs ih =>
      intro r done s₁ Q hb hw x st kk
      cases r with
      | nil => obtain ⟨_, _⟩ := b; exact hb.elim
      | cons q r =>
        obtain ⟨y, v⟩ := b
        obtain ⟨y', P⟩ := q
        obtain ⟨rfl, hp, hb⟩ := hb
        rw [List.forIn_cons]
        refine wpAny_bind (wpAny_bind (st.store (hw _ (List.mem_cons_self ..)) hp fun s₂ m st₂ => wpAny_pure ?_))
        refine ih r ((y, P) :: done) s₂ Q hb (fun p hp => hw p (List.mem_cons_of_mem _ hp)) (m.toExt x ?_ rfl) st₂ fun s' x' st' => kk s' x' ?_
        · intro a ha
          cases e : s.heap.get? a with
          | none => rfl
          | some o =>
            exfalso
            have hl := hsz e
            rcases List.mem_cons.mp ha with rfl | ha
            · exact Nat.lt_irrefl _ hl
            · obtain ⟨p, hp, rfl⟩ := List.mem_map.mp ha
              rcases cellsFrom_mem _ _ _ p hp with q | q
              · cases q
              · exact Nat.lt_irrefl _ (Nat.lt_trans hl q.1)
        · rw [List.reverse_cons, List.append_assoc]; exact st'
  unfold newFunctionEnv
  refine wpAny_bind (wpAny_alloc (wpAny_bind ?_))
  refine wpAny_layCells _ (fun name kind cells => ?_) scope.names closure _ _ ?_
  · rfl
  · cases around with
    | none =>
      obtain ⟨x, st⟩ := key { cls := .type "frame", data := .dict #[] } rfl rfl _ rfl
      have hsz' : (s.heap.push { cls := .type "frame", data := .dict #[] }).objs.size = s.heap.objs.size + 1 := Heap.size_push ..
      dsimp only
      show wpAny M A (forIn binds PUnit.unit _ >>= _) Q E _
      simp only [Option.isSome_none, Bool.false_eq_true, if_false, hsz']
      exact wpAny_bind (stores binds ρb ρf _ _ hb hw x st fun s' x' st' => wpAny_pure (k s' x' st'))
    | some o =>
      obtain ⟨x, st⟩ := key { cls := .type "dict", data := .dict #[] } rfl rfl _ rfl
      have hsz' : (s.heap.push { cls := .type "dict", data := .dict #[] }).objs.size = s.heap.objs.size + 1 := Heap.size_push ..
      dsimp only
      show wpAny M A (forIn binds PUnit.unit _ >>= _) Q E _
      simp only [Option.isSome_some, if_true, hsz']
      exact wpAny_bind (stores binds ρb ρf _ _ hb hw x st fun s' x' st' => wpAny_pure (k s' x' st'))

end Mine

namespace Mine
variable {W : Wd} {A : Around} {c : Cx} {ρ : Rho}

/-! cells that are stored once become plain objects -/
abbrev Cx.still (c : Cx) : Cx := { c with muts := [c.env.locals] }
theorem St.freeze {h : Heap} {s : Shared} (st : St W c ρ h s) : ∃ h', Le h h' ∧ (∀ a ∈ c.muts, a ≠ c.env.locals → h'.get? a = s.heap.get? a) ∧ (∀ a, a ∉ c.muts → h'.get? a = h.get? a) ∧ Ok W h' s ∧ St W c.still ρ h' s := by
  let h' := restr s.heap fun i => (h.get? i).isSome || decide (i ∈ c.muts ∧ i ≠ c.env.locals)
  have hle : Le h h' := fun b ob e => by
    show (restr _ _).get? b = _
    rw [restr_get, if_pos (by simp [e])]; exact st.ok.le _ _ e
  have hold : ∀ a, ¬ (a ∈ c.muts ∧ a ≠ c.env.locals) → h'.get? a = h.get? a := fun a hn => by
    show (restr _ _).get? a = _
    rw [restr_get]
    cases e : h.get? a with
    | none => rw [if_neg]; simp only [e, Option.isSome_none, Bool.false_or, decide_eq_true_eq]; exact hn
    | some ob => rw [if_pos (by simp [e])]; exact st.ok.le _ _ e
  have hnew : ∀ a ∈ c.muts, a ≠ c.env.locals → h'.get? a = s.heap.get? a := fun a ha hn => by
    show (restr _ _).get? a = _
    rw [restr_get, if_pos (by simp only [Bool.or_eq_true, decide_eq_true_eq]; exact .inr ⟨ha, hn⟩)]
  have ok' : Ok W h' s := by
    refine ⟨fun b ob e => ?_, W.gmono hle st.ok.g, fun P hP => ?_, fun P hP => ?_, st.ok.bare⟩
    · have e' : (restr _ _).get? b = some ob := e
      rw [restr_get] at e'
      split at e'
      · exact e'
      · cases e'
    · rw [hold P fun q => st.mutNotTab q.1 hP]; exact st.ok.tn P hP
    · obtain ⟨ps, e, t, cc⟩ := st.ok.tab P hP
      exact ⟨ps, e, t, fun pos cv q => (cc pos cv q).keeps hle⟩
  refine ⟨h', hle, hnew, fun a ha => hold a fun q => ha q.1, ok', ⟨ok', ⟨st.env.kind, st.env.glob, st.env.bi, List.mem_cons_self .., st.env.apart, st.env.celne⟩, st.ns, fun a ha => .inl (by simpa using ha), fun a ha => ?_, fun p hp => ?_, st.nodup,
    fun y P e => let ⟨v, r, p⟩ := st.rd y P e; ⟨v, r, P.mono hle p⟩⟩⟩
  · obtain rfl : a = c.env.locals := by simpa using ha
    rw [hold _ fun q => q.2 rfl]; exact st.mu _ st.env.mem
  · obtain ⟨e, n, m, t⟩ := st.own p hp
    refine ⟨e, by rw [hold _ fun q => m q.1]; exact n, fun q => m ?_, t⟩
    have : p.1 = c.env.locals := by simpa using q
    rw [this]; exact st.env.mem

/-! calls of the text's functions -/
abbrev fCx (fd : FuncData) (a L : Addr) : Cx := nCx fd.scope L fd.closure (fd.qualname ++ ".<locals>.") (some a) fd.code none

structure FdOk (fd : FuncData) : Prop where
  g : fd.globals = mainGlobals
  bi : fd.builtins = builtinsNs
  co : fd.scope.isCoroutine = false
  ge : fd.scope.isGenerator = false
  k : fd.scope.kind = .function
  un : ∀ x, fd.scope.names.lookup x = some .free → ∀ k, (x, k) ∈ fd.scope.names → k ≠ .cell

theorem freshMuts {fd : FuncData} {a : Addr} {s : Shared} : ∀ b ∈ (fCx fd a s.heap.objs.size).muts, s.heap.get? b = none := by
  intro b hb
  refine Heap.get?_none_of_le ?_
  rcases List.mem_cons.mp hb with rfl | hb
  · exact Nat.le_refl _
  · obtain ⟨p, hp, rfl⟩ := List.mem_map.mp hb
    rcases cellsFrom_mem _ _ _ p hp with q | q
    · cases q
    · exact Nat.le_of_succ_le q.1

theorem call_frame {a : Addr} {o : Obj} {fd : FuncData} {ρb ρf : Rho} {h : Heap} {s : Shared} {vs : List Value} {Q : Value → Shared → Prop} {E : Value → Shared → Prop} {bodyc : Env → Code}
    (ok : Ok W h s) (ho : h.get? a = some o) (hd : o.data = .func fd) (hcd : h.CodeRec fd.code fd.qualname) (fo : FdOk fd) (hbody : (∃ body, fd.body = .stmts body ∧ bodyc = fun env => .func body env) ∨ ∃ e, fd.body = .expr e ∧ bodyc = fun env => .expr e env)
    (hfr : Fre fd.scope fd.closure ρf h h) (hcl : ∀ p ∈ fd.closure, ∃ v, h.IsCell p.2 v) (hca : fd.closure.Pairwise fun x y => x.2 ≠ y.2) (hroom : A.depth < recursionLimit)
    (bind : ∃ binds, BindsTo s fd ⟨vs, []⟩ binds ∧ Bd h binds ρb) (hw : ∀ L, ∀ x ∈ ρb.map (·.1), Wr (fCx fd a L) x)
    (k : ∀ L s', (∀ b ∈ (fCx fd a L).muts, s.heap.get? b = none) → Ext W h s h s' → St W (fCx fd a L) (ρb.reverse ++ ρf) h s' → codeAny W.M A (bodyc (fCx fd a L).env) (fun r s' => match r with | .ok (.ret v) => Q v s' | .ok _ => False | .error e => E e s') s') :
    wpAny W.M A (call (.ref a) vs) Q E s := by
  obtain ⟨binds, hbt, hbd⟩ := bind
  have hlim := W.glim ok.g
  have nf : wpAny W.M A.in1 (newFunctionEnv fd.scope fd.globals fd.closure binds (fd.qualname ++ ".<locals>.") (some a) fd.code none fd.builtins)
      (fun env s₂ => s₂.heap.NoLimit ∧ codeAny W.M A (bodyc env) (fun r s' => match r with | .ok (.ret v) => Q v s' | .ok _ => False | .error e => E e s') s₂) E s := by
    rw [fo.g, fo.bi]
    refine wpAny_newFrame (ρf := ρf) ok fo.k hbd (fun x P e => ?_) (fun p hp => let ⟨v, q⟩ := hcl p hp; ⟨v, q.keeps ok.le⟩) hca fo.un (fun p hp => hw _ _ ?_) (fun o e => by cases e) fun s' x st => ?_
    · obtain ⟨q, b, v, e1, e2, e3⟩ := hfr x P e; exact ⟨q, b, v, e1, e2.keeps ok.le, e3⟩
    · rw [← hbd.names]; exact List.mem_map_of_mem hp
    · exact ⟨hlim.keeps x.ok.le, k _ s' freshMuts x st⟩
  refine wpAny_call ?_
  rcases hbody with ⟨body, hb, rfl⟩ | ⟨e, hb, rfl⟩
  · exact codeAny_call_function hroom (ok.le _ _ ho) hd fo.co fo.ge hb (hcd.keeps ok.le) (hbt _ _ _ _ nf)
  · exact kla_callFunE hroom (ok.le _ _ ho) hd fo.co fo.ge hb (hcd.keeps ok.le) (hbt _ _ _ _ nf)

theorem call_stmts {n : Nat} {a : Addr} {o : Obj} {fd : FuncData} {body : List Stmt} {ρb ρf : Rho} {R : VP} {h : Heap} {s : Shared} {vs : List Value} {Q : Value → Shared → Prop} {E : Value → Shared → Prop}
    (ok : Ok W h s) (rm : Rm A (n + 1)) (ho : h.get? a = some o) (hd : o.data = .func fd) (hcd : h.CodeRec fd.code fd.qualname) (fo : FdOk fd) (hb : fd.body = .stmts body)
    (hfr : Fre fd.scope fd.closure ρf h h) (hcl : ∀ p ∈ fd.closure, ∃ v, h.IsCell p.2 v) (hca : fd.closure.Pairwise fun x y => x.2 ≠ y.2)
    (bind : ∃ binds, BindsTo s fd ⟨vs, []⟩ binds ∧ Bd h binds ρb) (hw : ∀ L, ∀ x ∈ ρb.map (·.1), Wr (fCx fd a L) x)
    (t : ∀ A L, Rm A n → TS W A (fCx fd a L) (ρb.reverse ++ ρf) body (fun o => o = .ret R))
    (k : ∀ v h' s', Ext W h s h' s' → R.p h' v → Q v s') : wpAny W.M A (call (.ref a) vs) Q E s := by
  refine call_frame ok ho hd hcd fo (.inl ⟨body, hb, rfl⟩) hfr hcl hca (by have := rm.dp; omega) bind hw fun L s' hm x st => ?_
  refine codeAny_func (wpAny_mono (t _ L (rm.deeper _) h s' _ st) (fun f s'' ⟨o, h', e, r⟩ => ?_) fun _ _ e => e)
  subst e
  obtain ⟨v, own, rfl, m, p⟩ := r
  exact k v h' s'' (m.toExt x hm rfl) p

theorem FnSpec.mk {n : Nat} {a : Addr} {fd : FuncData} {body : List Stmt} {Ps : List VP} {ρb : Rho} {R : VP}
    (hob : ∀ h, W.G h → ∃ o, h.get? a = some o ∧ o.data = .func fd ∧ h.CodeRec fd.code fd.qualname) (fo : FdOk fd) (hb : fd.body = .stmts body) (hcl : fd.closure = [])
    (bind : ∀ h s vs, Ok W h s → All2 h Ps vs → ∃ binds, BindsTo s fd ⟨vs, []⟩ binds ∧ Bd h binds ρb) (hw : ∀ L, ∀ x ∈ ρb.map (·.1), Wr (fCx fd a L) x)
    (t : ∀ A L, Rm A n → TS W A (fCx fd a L) ρb.reverse body (fun o => o = .ret R)) : FnSpec W (n + 1) (.ref a) Ps R := fun A rm h s vs Q E ok al k => by
  obtain ⟨o, ho, hd, hcd⟩ := hob h ok.g
  refine call_stmts (ρf := []) ok rm ho hd hcd fo hb (fun x P e => by cases e) (fun p hp => by rw [hcl] at hp; cases hp) (by rw [hcl]; exact List.Pairwise.nil) (bind h s vs ok al) hw (fun A L r => ?_) k
  rw [List.append_nil]; exact t A L r

/-- a def whose cells are stored at the entry alone -/
theorem FnSpec.mkStill {n : Nat} {a : Addr} {fd : FuncData} {body : List Stmt} {Ps : List VP} {ρb : Rho} {R : VP}
    (hob : ∀ h, W.G h → ∃ o, h.get? a = some o ∧ o.data = .func fd ∧ h.CodeRec fd.code fd.qualname) (fo : FdOk fd) (hb : fd.body = .stmts body) (hcl : fd.closure = [])
    (bind : ∀ h s vs, Ok W h s → All2 h Ps vs → ∃ binds, BindsTo s fd ⟨vs, []⟩ binds ∧ Bd h binds ρb) (hw : ∀ L, ∀ x ∈ ρb.map (·.1), Wr (fCx fd a L) x)
    (t : ∀ A L h s, Rm A n → St W (fCx fd a L).still ρb.reverse h s → (∀ x P b, ρb.reverse.lookup x = some P → fd.scope.names.lookup x = some .cell → (fCx fd a L).env.cells.lookup x = some b → ∃ v, h.IsCell b (some v) ∧ P.p h v) →
      wpAny W.M A (execs body (fCx fd a L).env) (fun f s' => ∃ h', Real W (fCx fd a L).still (.ret R) f h s h' s') (fun _ _ => False) s) : FnSpec W (n + 1) (.ref a) Ps R := fun A rm h s vs Q E ok al k => by
  obtain ⟨o, ho, hd, hcd⟩ := hob h ok.g
  refine call_frame (ρf := []) ok ho hd hcd fo (.inl ⟨body, hb, rfl⟩) (fun x P e => by cases e) (fun p hp => by rw [hcl] at hp; cases hp) (by rw [hcl]; exact List.Pairwise.nil) (by have := rm.dp; omega) (bind h s vs ok al) hw fun L s' hm x st => ?_
  rw [List.append_nil] at st
  obtain ⟨h₁, l, hnew, hold, ok₁, st₁⟩ := st.freeze
  have x₁ : Ext W h s h₁ s' := ⟨ok₁, x.le.tr l, fun b ob e => hold b fun q => (by rw [hm b q] at e; cases e), x.keep, x.gens, x.os⟩
  refine codeAny_func (wpAny_mono (t _ L h₁ s' (rm.deeper _) st₁ fun y P b e1 e2 e3 => ?_) (fun f s'' ⟨h', r⟩ => ?_) fun _ _ e => e.elim)
  · obtain ⟨v, r, p⟩ := st.rd y P e1
    rcases r with ⟨kk, _⟩ | ⟨_, b', e3', q⟩
    · have kk' : fd.scope.names.lookup y = some .local := kk
      rw [e2] at kk'; cases kk'
    · rw [e3] at e3'; cases e3'
      refine ⟨v, ?_, P.mono l p⟩
      obtain ⟨ob, e4, d4⟩ := q
      have hmem : b ∈ (fCx fd a L).muts := by
        have e3' : (cellsFrom (L + 1) fd.scope.names fd.closure).lookup y = some b := e3
        rw [hcl] at e3'
        exact List.mem_cons_of_mem _ (List.mem_map.mpr ⟨_, mem_of_lookup e3', rfl⟩)
      exact ⟨ob, (hnew b hmem (st.env.celne y b e3)).trans e4, d4⟩
  · obtain ⟨v, own, rfl, m, p⟩ := r
    refine k v h' s'' (m.toExt x₁ (fun b hb => hm b ?_) rfl) p
    have : b = L := List.mem_singleton.mp hb
    rw [this]; exact List.mem_cons_self ..

/-- a lambda's call -/
theorem call_expr {n : Nat} {a : Addr} {o : Obj} {fd : FuncData} {e : Expr} {ρb ρf : Rho} {R : VP} {h : Heap} {s : Shared} {vs : List Value} {Q : Value → Shared → Prop} {E : Value → Shared → Prop}
    (ok : Ok W h s) (rm : Rm A (n + 1)) (ho : h.get? a = some o) (hd : o.data = .func fd) (hcd : h.CodeRec fd.code fd.qualname) (fo : FdOk fd) (hb : fd.body = .expr e)
    (hfr : Fre fd.scope fd.closure ρf h h) (hcl : ∀ p ∈ fd.closure, ∃ v, h.IsCell p.2 v) (hca : fd.closure.Pairwise fun x y => x.2 ≠ y.2)
    (bind : ∃ binds, BindsTo s fd ⟨vs, []⟩ binds ∧ Bd h binds ρb) (hw : ∀ L, ∀ x ∈ ρb.map (·.1), Wr (fCx fd a L) x)
    (t : ∀ A L, Rm A n → EvE W A (fCx fd a L) (ρb.reverse ++ ρf) e R)
    (k : ∀ v h' s', Ext W h s h' s' → R.p h' v → Q v s') : wpAny W.M A (call (.ref a) vs) Q E s := by
  refine call_frame ok ho hd hcd fo (.inr ⟨e, hb, rfl⟩) hfr hcl hca (by have := rm.dp; omega) bind hw fun L s' hm x st => ?_
  exact kla_codeExpr (t _ L (rm.deeper _) h s' _ _ st fun v h' s'' x' p => k v h' s'' (x.tr x') p)

end Mine

namespace Mine
variable {W : Wd} {A : Around} {c : Cx} {ρ : Rho}

theorem All2.drop {h : Heap} : ∀ {Ps : List VP} {vs : List Value} (i : Nat), All2 h Ps vs → All2 h (Ps.drop i) (vs.drop i)
  | [], [], i, _ => by simp [All2]
  | P :: Ps, v :: vs, 0, x => x
  | P :: Ps, v :: vs, i + 1, x => All2.drop (Ps := Ps) (vs := vs) i x.2
  | [], _ :: _, _, x => x.elim
  | _ :: _, [], _, x => x.elim
theorem All2.take {h : Heap} : ∀ {Ps : List VP} {vs : List Value} (i : Nat), All2 h Ps vs → All2 h (Ps.take i) (vs.take i)
  | [], [], i, _ => by simp [All2]
  | P :: Ps, v :: vs, 0, x => trivial
  | P :: Ps, v :: vs, i + 1, x => ⟨x.1, All2.take (Ps := Ps) (vs := vs) i x.2⟩
  | [], _ :: _, _, x => x.elim
  | _ :: _, [], _, x => x.elim
theorem All2.at {h : Heap} : ∀ {Ps : List VP} {vs : List Value} {i : Nat} {P : VP} {v : Value}, All2 h Ps vs → Ps[i]? = some P → vs[i]? = some v → P.p h v
  | [], _, _, _, _, _, e, _ => by simp at e
  | P :: Ps, v :: vs, 0, _, _, x, e, e' => by simp at e e'; subst e e'; exact x.1
  | P :: Ps, v :: vs, i + 1, _, _, x, e, e' => All2.at (Ps := Ps) (vs := vs) (i := i) x.2 (by simpa using e) (by simpa using e')
  | _ :: _, [], _, _, _, x, _, _ => x.elim
theorem All2.app {h : Heap} : ∀ {Ps Ps' : List VP} {vs vs' : List Value}, All2 h Ps vs → All2 h Ps' vs' → All2 h (Ps ++ Ps') (vs ++ vs')
  | [], _, [], _, _, y => y
  | _ :: _, _, _ :: _, _, x, y => ⟨x.1, All2.app x.2 y⟩
  | [], _, _ :: _, _, x, _ => x.elim
  | _ :: _, _, [], _, x, _ => x.elim

def lotIds : List String := ["enumerate", "zip", "dict_itemiterator", "dict_reverseitemiterator", "odict_iterator", "itertools.zip_longest", "itertools.pairwise"]
theorem wpAny_lot {M : Model} {t : Expr} {I : Addr} {o : Obj} {n : String} {v : Value} {s : Shared} {Q : Unit → Shared → Prop} {E : Value → Shared → Prop} (e : s.heap.get? I = some o) (hc : o.cls = .type n) (hn : lotIds.contains n = false) (k : Q () s) :
    wpAny M A (letOwnedTupleGo t (.ref I) v) Q E s := by
  have go : ∀ b, wpAny M A (do let o ← load I; match o.cls, o.data with | .type n, .fields vs => (if lotIds.contains n && vs[0]? == some (rawInt b) then do rule "for.unpacks-the-owned-tuple"; updateField I 0 .none else pure ()) | _, _ => pure ()) Q E s := fun b => by
    refine wpAny_bind (wpAny_load e ?_)
    rw [hc]
    cases o.data <;> first | exact wpAny_pure k | (simp only [hn, Bool.false_and, Bool.false_eq_true, if_false]; exact wpAny_pure k)
  unfold letOwnedTupleGo
  cases t <;> first | exact wpAny_pure k | (cases v <;> first | exact wpAny_pure k | exact go _)

structure WkSt (W : Wd) (I : Addr) (fp : List Addr) (n : Nat) (Pw : Nat → Value → Prop) (Sw : Nat → Heap → Prop) (X : Addr → Prop) (Ps : List VP) (h : Heap) (s : Shared) : Prop where
  x : X = (· = I)
  ex : ∃ i, Ps.length + i = n ∧ Sw i s.heap ∧ ∀ (j : Nat) P v, Ps[j]? = some P → Pw (i + j) v → P.p h v
  base : ∀ b ∈ fp, b ≠ I → ∃ o, h.get? b = some o
  none : h.get? I = none
  tb : I ∉ W.tb

theorem Itr.walks {I : Addr} {fp : List Addr} {n : Nat} {Pw : Nat → Value → Prop} {Sw : Nat → Heap → Prop} (wk : Walks W.prog W.w A I fp [I] n Pw Sw)
    (hcl : ∀ i h', Sw i h' → ∃ o m, h'.get? I = some o ∧ o.cls = .type m ∧ lotIds.contains m = false ∧ ∀ v, o.data ≠ .cell v) : Itr W A (.ref I) (fun _ => False) (WkSt W I fp n Pw Sw) where
  step := fun X P Ps h s Q E ok J k => by
    obtain ⟨rfl, ⟨i, hl, hs, hp⟩, hb, hn, ht⟩ := J
    refine wk.item i s Q E (by simp at hl; omega) hs fun v h' tk pv hs' hk => ?_
    have ok' : Ok W h { s with heap := h', toks := tk } := ⟨fun b o e => hk b o (by simp; rintro rfl; rw [hn] at e; cases e) (ok.le b o e), ok.g, ok.tn,
      fun P hP => let ⟨ps, e, r⟩ := ok.tab P hP; ⟨ps, hk P _ (by simp; rintro rfl; exact ht hP) e, r⟩, ok.bare⟩
    refine k v h _ (· = I) ⟨ok', Le.rf h, fun _ _ _ => rfl, fun b o e _ hx => hk b o (by simpa using hx) e, fun _ _ e _ => e, rfl⟩ (fun a q => .inl q) (hp 0 P v rfl pv) ⟨rfl, ⟨i + 1, by simp at hl ⊢; omega, hs', fun j P' v' e q => ?_⟩, hb, hn, ht⟩
    exact hp (j + 1) P' v' (by simpa using e) (by rw [show i + (j + 1) = i + 1 + j by omega]; exact q)
  done := fun X h s Q E ok J k => by
    obtain ⟨rfl, ⟨i, hl, hs, hp⟩, hb, hn, ht⟩ := J
    obtain rfl : i = n := by simpa using hl
    refine wk.done s Q E hs fun h' tk hk => ?_
    have ok' : Ok W h { s with heap := h', toks := tk } := ⟨fun b o e => hk b o (by simp; rintro rfl; rw [hn] at e; cases e) (ok.le b o e), ok.g, ok.tn,
      fun P hP => let ⟨ps, e, r⟩ := ok.tab P hP; ⟨ps, hk P _ (by simp; rintro rfl; exact ht hP) e, r⟩, ok.bare⟩
    exact k h _ ⟨ok', Le.rf h, fun _ _ _ => rfl, fun b o e _ hx => hk b o (by simpa using hx) e, fun _ _ e _ => e, rfl⟩
  frame := fun X Ps h s h' s' ok ok' J f => by
    obtain ⟨rfl, ⟨i, hl, hs, hp⟩, hb, hn, ht⟩ := J
    refine ⟨rfl, ⟨i, hl, wk.frame i _ _ hs fun b hbf o e => ?_, fun j P v e q => P.mono f.le (hp j P v e q)⟩, fun b hbf hne => let ⟨o, e⟩ := hb b hbf hne; ⟨o, f.le _ _ e⟩, by rw [f.base I rfl]; exact hn, ht⟩
    by_cases hbI : b = I
    · subst hbI; rw [f.at_ b rfl]; exact e
    · obtain ⟨o', e'⟩ := hb b hbf hbI
      have := ok.le _ _ e'; rw [e] at this; cases this
      exact ok'.le _ _ (f.le _ _ e')
  self := fun X Ps h s Q E ok J q => by
    obtain ⟨rfl, ⟨i, hl, hs, hp⟩, hb, hn, ht⟩ := J
    exact wk.self i s Q E hs q
  lot := fun X Ps h s t v Q E ok J q => by
    obtain ⟨rfl, ⟨i, hl, hs, hp⟩, hb, hn, ht⟩ := J
    obtain ⟨o, m, e, hc, hm, _⟩ := hcl i _ hs
    exact wpAny_lot e hc hm q
  priv := fun X Ps h s a ok J ha => by
    obtain ⟨rfl, ⟨i, hl, hs, hp⟩, hb, hn, ht⟩ := J
    subst ha
    obtain ⟨o, m, e, hc, hm, hd⟩ := hcl i _ hs
    exact ⟨⟨o, e, hd⟩, hn, ht⟩

theorem Ok.sizeNotTab {h : Heap} {s : Shared} (o : Ok W h s) : s.heap.objs.size ∉ W.tb := fun hm => by
  obtain ⟨ps, e, _⟩ := o.tab _ hm
  exact absurd (Heap.lt_size e) (Nat.lt_irrefl _)
theorem Ok.sizeNone {h : Heap} {s : Shared} (o : Ok W h s) : h.get? s.heap.objs.size = none := by
  cases e : h.get? s.heap.objs.size with
  | none => rfl
  | some ob => exact absurd (Heap.lt_size (o.le _ _ e)) (Nat.lt_irrefl _)
theorem Ok.pushOut {h : Heap} {s : Shared} (o : Ok W h s) (ob : Obj) (t : Nat) : Ext W h s h { s with heap := s.heap.push ob, toks := t } :=
  ⟨⟨fun b x e => Heap.get?_push_of_some _ (o.le b x e), o.g, o.tn, fun P hP => let ⟨ps, e, r⟩ := o.tab P hP; ⟨ps, Heap.get?_push_of_some _ e, r⟩, o.bare⟩, Le.rf h, fun _ _ _ => rfl, fun b x e _ => Heap.get?_push_of_some _ e, fun _ _ e => e, rfl⟩

theorem EvI.lst {e : Expr} {Ps : List VP} (hh : A.handled = none) (ev : EvE W A c ρ e (isLst Ps)) (hs : ∀ x, foldedSetIterable e c.env x = pure x := by intro _; rfl) : EvI W A c ρ e Ps := fun h s Q E st k =>
  ev h s _ _ st fun v h₁ s₁ x₁ p => by
    obtain ⟨a, vs, n, rfl, g, al⟩ := p
    rw [hs]
    have hl : s₁.heap.IsList a vs.toArray := ⟨_, x₁.ok.le _ _ g, rfl, n, rfl⟩
    refine wpAny_pure (wpAny_pyIter_list hl ?_)
    have hne : a ≠ s₁.heap.objs.size := Nat.ne_of_lt (Heap.lt_size (x₁.ok.le _ _ g))
    refine k _ (· = s₁.heap.objs.size) (fun _ => False) _ h₁ _ (x₁.tr (x₁.ok.pushOut _ s₁.toks)) (Itr.walks (Walks.list hh s₁.heap.objs.size a hne vs.toArray) fun i h' q => ?_) ⟨rfl, ⟨0, ?_, ?_, ?_⟩, ?_, x₁.ok.sizeNone, x₁.ok.sizeNotTab⟩ ?_ (fun _ f => f.elim)
    · obtain ⟨⟨o, e, hc, hd⟩, _⟩ := q
      exact ⟨o, _, e, hc, by decide, fun v q => by rw [hd] at q; cases q⟩
    · simp [al.len]
    · exact ⟨⟨_, Heap.get?_push_size _ rfl, rfl, rfl⟩, hl.push _⟩
    · intro j P v e q
      exact al.at e (by simpa using q)
    · intro b hb hne'
      simp at hb
      rcases hb with rfl | rfl
      · exact absurd rfl hne'
      · exact ⟨_, g⟩
    · rintro b rfl
      cases e : s.heap.get? s₁.heap.objs.size with
      | none => rfl
      | some o => obtain ⟨o', e'⟩ := x₁.live e; exact absurd (Heap.lt_size e') (Nat.lt_irrefl _)

theorem EvI.tup {e : Expr} {Ps : List VP} (hh : A.handled = none) (ev : EvE W A c ρ e (isTup Ps)) (hs : ∀ x, foldedSetIterable e c.env x = pure x := by intro _; rfl) : EvI W A c ρ e Ps := fun h s Q E st k =>
  ev h s _ _ st fun v h₁ s₁ x₁ p => by
    obtain ⟨a, vs, rfl, g, al⟩ := p
    rw [hs]
    have hl : IsTup s₁.heap a vs.toArray := g.keeps x₁.ok.le
    refine wpAny_pure (iter_tuple hl ?_)
    have hne : a ≠ s₁.heap.objs.size := Nat.ne_of_lt hl.lt
    refine k _ (· = s₁.heap.objs.size) (fun _ => False) _ h₁ _ (x₁.tr (x₁.ok.pushOut _ s₁.toks)) (Itr.walks (Walks.tuple hh s₁.heap.objs.size a hne vs.toArray) fun i h' q => ?_) ⟨rfl, ⟨0, ?_, ?_, ?_⟩, ?_, x₁.ok.sizeNone, x₁.ok.sizeNotTab⟩ ?_ (fun _ f => f.elim)
    · obtain ⟨⟨o, e, hc, hd⟩, _⟩ := q
      exact ⟨o, _, e, hc, by decide, fun v q => by rw [hd] at q; cases q⟩
    · simp [al.len]
    · exact ⟨⟨_, Heap.get?_push_size _ rfl, rfl, rfl⟩, hl.push _⟩
    · intro j P v e q
      exact al.at e (by simpa using q)
    · intro b hb hne'
      simp at hb
      rcases hb with rfl | rfl
      · exact absurd rfl hne'
      · obtain ⟨o, e, _⟩ := g; exact ⟨o, e⟩
    · rintro b rfl
      cases e : s.heap.get? s₁.heap.objs.size with
      | none => rfl
      | some o => obtain ⟨o', e'⟩ := x₁.live e; exact absurd (Heap.lt_size e') (Nat.lt_irrefl _)

def isRng (a b c : Int) : VP := ⟨fun h v => ∃ r t u w, v = .ref r ∧ IsRange h r a b c t u w, by rintro h h' v l ⟨r, t, u, w, e, g⟩; exact ⟨r, t, u, w, e, l _ _ g⟩⟩
def rngP (a c : Int) (n : Nat) : List VP := (List.range n).map fun i : Nat => isInt (a + (i : Int) * c)
theorem EvI.rng {e : Expr} {a b st : Int} {n : Nat} (hh : A.handled = none) (ev : EvE W A c ρ e (isRng a b st)) (hn : Builtin.Range.rangeSize a b st = n) (hsm : Builtin.Range.small a b st = true) (hs : ∀ x, foldedSetIterable e c.env x = pure x := by intro _; rfl) :
    EvI W A c ρ e (rngP a st n) := fun h s Q E stt k =>
  ev h s _ _ stt fun v h₁ s₁ x₁ p => by
    obtain ⟨r, t, u, w, rfl, g⟩ := p
    rw [hs]
    refine wpAny_pure (wpAny_pyIter_range (x₁.ok.le _ _ g) hsm ?_)
    rw [hn]
    refine k _ (· = s₁.heap.objs.size) (fun _ => False) _ h₁ _ (x₁.tr (x₁.ok.pushOut _ s₁.toks)) (Itr.walks (Walks.range hh s₁.heap.objs.size a st n) fun i h' q => ?_) ⟨rfl, ⟨0, ?_, ?_, ?_⟩, ?_, x₁.ok.sizeNone, x₁.ok.sizeNotTab⟩ ?_ (fun _ f => f.elim)
    · exact ⟨_, _, q, rfl, by decide, fun v q => by cases q⟩
    · simp [rngP]
    · have : IsRangeIter (s₁.heap.push { cls := .type "range_iterator", data := .fields #[rawInt a, rawInt n, rawInt st] }) s₁.heap.objs.size a n st := Heap.get?_push_size _ rfl
      simpa using this
    · rintro j P v e ⟨t, rfl⟩
      simp only [rngP, List.getElem?_map, Option.map_eq_some_iff] at e
      obtain ⟨i, hi, rfl⟩ := e
      have := List.getElem?_eq_some_iff.mp hi
      obtain ⟨_, hj⟩ := this
      simp at hj
      subst hj
      exact ⟨t, by simp⟩
    · intro b hb hne'
      simp at hb
      exact absurd hb hne'
    · rintro b rfl
      cases e : s.heap.get? s₁.heap.objs.size with
      | none => rfl
      | some o => obtain ⟨o', e'⟩ := x₁.live e; exact absurd (Heap.lt_size e') (Nat.lt_irrefl _)

theorem call_rng1 {n : Int} : CallS W A (.type "range") [isInt n] (isRng 0 n 1) := fun h s vs Q E ok al k => by
  match vs, al with
  | [v], ⟨⟨t, e⟩, _⟩ =>
    subst e
    refine call_range_1 ?_
    obtain ⟨h', x, e⟩ := ok.push { cls := .type "range", data := .fields #[.int 0 s.toks, .int n t, .int 1 (s.toks + 1)] } (t := s.toks + 1 + 1)
    exact k _ h' _ x ⟨_, _, _, _, rfl, e⟩
theorem call_rng2 {a b : Int} : CallS W A (.type "range") [isInt a, isInt b] (isRng a b 1) := fun h s vs Q E ok al k => by
  match vs, al with
  | [v, v'], ⟨⟨t, e⟩, ⟨t', e'⟩, _⟩ =>
    subst e e'
    refine call_range_2 ?_
    obtain ⟨h', x, e⟩ := ok.push { cls := .type "range", data := .fields #[.int a t, .int b t', .int 1 s.toks] } (t := s.toks + 1)
    exact k _ h' _ x ⟨_, _, _, _, rfl, e⟩
theorem call_rng3 {a b d : Int} (hd : d ≠ 0) (hp : Builtin.divisionGoesByPylong (b - a) d = false) : CallS W A (.type "range") [isInt a, isInt b, isInt d] (isRng a b d) := fun h s vs Q E ok al k => by
  match vs, al with
  | [v, v', v''], ⟨⟨t, e⟩, ⟨t', e'⟩, ⟨t'', e''⟩, _⟩ =>
    subst e e' e''
    refine call_range_3 hd ?_ (.inl hp)
    obtain ⟨h', x, e⟩ := ok.push { cls := .type "range", data := .fields #[.int a t, .int b t', .int d t''] } (t := s.toks)
    exact k _ h' _ x ⟨_, _, _, _, rfl, e⟩

/-! several targets -/
theorem assignInOrder_names {M : Model} (env : Env) : True := trivial
/-- stores in order -/
theorem stores_names {own : List (Addr × Obj)} : ∀ (xs : List (Str × VP)) (ts : List (Value → Sem Unit)) (vs : List Value) (ρ : Rho) (h : Heap) (s : Shared) (Q : Unit → Shared → Prop) (E : Value → Shared → Prop),
    ts.length = xs.length → (∀ (i : Nat) t x P, ts[i]? = some t → xs[i]? = some (x, P) → Wr c x ∧ ∀ v s Q E, wpAny W.M A (storeName c.env x v) Q E s → wpAny W.M A (t v) Q E s) → St W (c.on own) ρ h s → All2 h (xs.map (·.2)) vs →
    (∀ s', Mv W (c.on own) own h s h s' → St W (c.on own) (xs.reverse ++ ρ) h s' → Q () s') → wpAny W.M A (assignInOrder ts vs) Q E s
  | [], [], [], ρ, h, s, Q, E, _, _, st, _, k => wpAny_pure (k s (Mv.rf st) st)
  | (x, P) :: xs, t :: ts, v :: vs, ρ, h, s, Q, E, hl, ht, st, al, k => by
    obtain ⟨hw, hst⟩ := ht 0 t x P rfl rfl
    refine wpAny_bind (wpAny_holding (hst v s _ _ (St.store (c := c.on own) st hw al.1 fun s₁ m q => ?_)))
    refine stores_names xs ts vs ((x, P) :: ρ) h s₁ Q E (by simpa using hl) (fun i t x P e e' => ht (i + 1) t x P (by simpa using e) (by simpa using e')) q al.2 fun s' m' q' => k s' (m.tr m') ?_
    rw [List.reverse_cons, List.append_assoc]; exact q'
  | [], [], _ :: _, _, _, _, _, _, _, _, _, al, _ => al.elim
  | _ :: _, [], _, _, _, _, _, _, hl, _, _, _, _ => by simp at hl
  | [], _ :: _, _, _, _, _, _, _, hl, _, _, _, _ => by simp at hl
  | _ :: _, _ :: _, [], _, _, _, _, _, _, _, _, al, _ => al.elim

theorem Ext.of_extBut {h h₁ : Heap} {s : Shared} (o : Ok W h s) (he : Heap.ExtBut s.heap.objs.size s.heap h₁) : Ext W h s h { s with heap := h₁ } := by
  have hk : Le s.heap h₁ := fun b ob e => he b ob (Nat.ne_of_lt (Heap.lt_size e)) e
  exact ⟨⟨o.le.tr hk, o.g, o.tn, fun P hP => let ⟨ps, e, r⟩ := o.tab P hP; ⟨ps, hk _ _ e, r⟩, o.bare⟩, Le.rf h, fun _ _ _ => rfl, fun b x e _ => hk b x e, fun _ _ e => e, rfl⟩

theorem AsT.two {x y : Str} {px py pos : Pos} {k : Nat} {P Q : VP} (hh : A.handled = none) (hx : Wr c x) (hy : Wr c y) : AsT W A c (.Tuple [.Name x px, .Name y py] k pos) (isTup [P, Q]) (fun ρ => (y, Q) :: (x, P) :: ρ) := fun own ρ h s v QQ E st p kk => by
  obtain ⟨a, vs, rfl, g, al⟩ := p
  have hl := al.len
  refine assign_Tuple_tuple hh (g.keeps st.ok.le) (by simp only [List.size_toArray, hl]; rfl) rfl fun h₁ he => ?_
  have x₁ := Ext.of_extBut st.ok he
  refine stores_names (own := own) [(x, P), (y, Q)] _ vs ρ h _ _ _ rfl (fun i t z P' e e' => ?_) (st.ext x₁) (by simpa using al) fun s' m q => kk h s' ((Mv.of (c := c.on own) st x₁).tr m) q
  match i, e, e' with
  | 0, e, e' => cases e; cases e'; exact ⟨hx, fun v s Q E q => wpAny_assign_Name q⟩
  | 1, e, e' => cases e; cases e'; exact ⟨hy, fun v s Q E q => wpAny_assign_Name q⟩

theorem TS.two {x y : Str} {px py tp pos : Pos} {k : Nat} {e : Expr} {rest : List Stmt} {P Q : VP} {O : Out → Prop} (hh : A.handled = none) (ev : EvE W A c ρ e (isTup [P, Q])) (hx : Wr c x) (hy : Wr c y) (t : TS W A c ((y, Q) :: (x, P) :: ρ) rest O)
    (hs : swapsWithSole [.Tuple [.Name x px, .Name y py] k tp] e pos.line c.env = pure false := by rfl) (hw : swappedStores [.Tuple [.Name x px, .Name y py] k tp] e c.env = pure none := by rfl) :
    TS W A c ρ (.Assign [.Tuple [.Name x px, .Name y py] k tp] e pos :: rest) O :=
  TS.cons fun h s E st => Assign_Tuple (ev h s _ _ st fun v h₁ s₁ x₁ p₁ => AsT.two hh hx hy c.own ρ h₁ s₁ v _ _ (st.ext x₁) p₁ fun h₂ s₂ m q =>
    ⟨.next c.own _, h₂, t, rfl, (Mv.of st x₁).tr m, q⟩) hs hw

/-- stores in the contrary order, as the compiler makes them -/
theorem TS.swapped {xs : List (Str × VP)} {elts : List Expr} {tp pos : Pos} {k : Nat} {e : Expr} {rest : List Stmt} {O : Out → Prop} (hh : A.handled = none) (ev : EvE W A c ρ e (isTup (xs.map (·.2)))) (hx : ∀ p ∈ xs, Wr c p.1) (t : TS W A c (xs ++ ρ) rest O)
    (hs : swapsWithSole [.Tuple elts k tp] e pos.line c.env = pure false := by rfl) (hw : swappedStores [.Tuple elts k tp] e c.env = pure (some (xs.map (·.1))) := by rfl) :
    TS W A c ρ (.Assign [.Tuple elts k tp] e pos :: rest) O :=
  TS.cons fun h s E st => Assign_Tuple_swapped (names := xs.map (·.1)) (ev h s _ _ st fun v h₁ s₁ x₁ p₁ => by
    obtain ⟨a, vs, rfl, g, al⟩ := p₁
    have hl := al.len
    have := unpackItems_tuple (prog := W.prog) (w := W.w) (A := A) (E := E) (s := s₁) hh (g.keeps x₁.ok.le) (items := vs.toArray) (Q := fun items s₂ =>
      wpAny W.M A (assignInOrder ((xs.map (·.1)).reverse.map fun n => bindName c.env n) items.reverse) (fun _ s' => ∃ o h', Thn W A c rest O o ∧ Real W c o .next h s h' s') E s₂) (fun h₂ he => by
        have x₂ := Ext.of_extBut x₁.ok he
        have hrev : All2 h₁ ((xs.reverse).map (·.2)) vs.reverse := by
          have aux : ∀ {Ps : List VP} {vs : List Value}, All2 h₁ Ps vs → All2 h₁ Ps.reverse vs.reverse := by
            intro Ps
            induction Ps with
            | nil => intro vs a; cases vs with
              | nil => trivial
              | cons _ _ => exact a.elim
            | cons P Ps ih => intro vs a; cases vs with
              | nil => exact a.elim
              | cons v vs => rw [List.reverse_cons, List.reverse_cons]; exact (ih a.2).app ⟨a.1, trivial⟩
          rw [List.map_reverse]; exact aux al
        refine stores_names (own := c.own) xs.reverse _ _ ρ h₁ _ _ _ (by simp) (fun i t z P' e e' => ?_) (st.ext (x₁.tr x₂)) hrev fun s' m q => ⟨.next c.own (xs ++ ρ), h₁, t, rfl, (Mv.of st (x₁.tr x₂)).tr m, by rw [List.reverse_reverse] at q; exact q⟩
        rw [← List.map_reverse, List.map_map, List.getElem?_map, e'] at e
        simp at e
        subst e
        exact ⟨hx _ (by have := List.mem_of_getElem? e'; simpa using this), fun v s Q E q => wpAny_bindName q⟩)
    simp only [List.size_toArray, hl, List.length_map] at this
    simpa only [List.length_map] using this) hs hw

end Mine

namespace Mine

section
variable {M : Model} {A : Around} {R : GenEnd} {Y : Protocol} {n : Nat} {s₀ : Shared} {c : Code} {fs : List Frame} {s : Shared} {env : Env}
  {K : Flow → Sem Fin} {H : Value → Sem Fin} {gd : Bool → Bool} {lv : List Value → List Value}

/-- a tree that neither raises nor yields -/
theorem seg_tree {α : Type} {m : Sem α} {K : α → Sem Fin} {H : Value → Sem Fin} {gd lv}
    (h : wpAny M (A.over c fs) m (fun a s' => Seg M A R Y n s₀ c (K a) fs s') (fun _ _ => False) s) : Seg M A R Y n s₀ c (m.wrap K H gd lv) fs s :=
  seg_wrap (wpAny_mono h (fun _ _ x => x) fun _ _ x => x.elim)

theorem seg_If {test : Expr} {body orelse : List Stmt} {pos : Pos}
    (h : wpAny M (A.over c fs) (isTrue test env (eval test env)) (fun b s' => Seg M A R Y n s₀ c ((execs (if b then body else orelse) env).wrap K H gd lv) fs s') (fun _ _ => False) s) :
    Seg M A R Y n s₀ c ((exec (.If test body orelse pos) env).wrap K H gd lv) fs s := by
  rw [exec_If]
  show Seg M A R Y n s₀ c (.at pos fun _ => ((isTrue test env (eval test env) >>= fun b => if b = true then execs body env else execs orelse env)).wrap K H gd lv) fs s
  refine seg_at ?_
  rw [Sem.bind_eq_wrap', Sem.wrap_wrap]
  refine seg_tree (wpAny_mono h (fun b s' q => ?_) fun _ _ x => x)
  cases b
  · exact q
  · exact q

theorem seg_stmt {st : Stmt} (h : wpAny M (A.over c fs) (exec st env) (fun f s' => f = .next ∧ Seg M A R Y n s₀ c (K .next) fs s') (fun _ _ => False) s) : Seg M A R Y n s₀ c ((exec st env).wrap K H gd lv) fs s :=
  seg_tree (wpAny_mono h (fun f s' ⟨e, q⟩ => e ▸ q) fun _ _ x => x)

theorem seg_For {target iter : Expr} {body : List Stmt} {pos : Pos}
    (h : wpAny M (A.over c fs) (eval iter env) (fun x s₁ => wpAny M (A.over c fs) (foldedSetIterable iter env x) (fun y s₂ => wpAny M (A.over c fs) (pyIter y) (fun it s₃ =>
      ∀ p, Seg M A R Y n s₀ (.forLoop target it body [] env) (M.den (.forLoop target it body [] env))
      (.ret (fun r => ((match r with | .ok f => (.pure f : Sem Flow) | .error e => .raise e).onRaise fun (x : Value) => do
        if (← field x 1) == Value.none then unsupported "frame.own-activation:exception-without-traceback"
        setFlight x env.frame).wrap K H gd lv) none (gd false) (lv []) c p [] :: fs) s₃) (fun _ _ => False) s₂) (fun _ _ => False) s₁) (fun _ _ => False) s) :
    Seg M A R Y n s₀ c ((exec (.For target iter body [] pos) env).wrap K H gd lv) fs s := by
  rw [arm_exec_For]
  show Seg M A R Y n s₀ c (.at pos fun _ => (eval iter env >>= fun x => (foldedSetIterable iter env x >>= fun y => (standAt iter.pos >>= fun _ => (holding [y] (pyIter y) >>= fun it => runOwn (.forLoop target it body [] env) env)))).wrap K H gd lv) fs s
  refine seg_at ?_
  rw [Sem.bind_eq_wrap', Sem.wrap_wrap]
  refine seg_tree (wpAny_mono h (fun x s₁ h₁ => ?_) fun _ _ x => x)
  show Seg M A R Y n s₀ c ((foldedSetIterable iter env x >>= fun y => (standAt iter.pos >>= fun _ => (holding [y] (pyIter y) >>= fun it => runOwn (.forLoop target it body [] env) env))).wrap K H gd lv) fs s₁
  rw [Sem.bind_eq_wrap', Sem.wrap_wrap]
  refine seg_tree (wpAny_mono h₁ (fun y s₂ h₂ => ?_) fun _ _ x => x)
  show Seg M A R Y n s₀ c (.at iter.pos fun _ => (holding [y] (pyIter y) >>= fun it => runOwn (.forLoop target it body [] env) env).wrap K H gd lv) fs s₂
  refine seg_at ?_
  rw [Sem.bind_eq_wrap', Sem.wrap_wrap]
  refine seg_tree (wpAny_holding (wpAny_mono h₂ (fun it s₃ h₃ => ?_) fun _ _ x => x))
  exact seg_call h₃
end

section
variable {prog : Program} {w : World} {A : Around} {R : GenEnd} {Y : Protocol} {n : Nat} {s₀ : Shared} {fs : List Frame} {s : Shared} {env : Env}

abbrev loopK (c : Code) : Flow → Sem Fin
  | .next | .cont => .pure (.again c)
  | .brk => .pure (.done .next)
  | .ret v => .pure (.done (.ret v))
abbrev noteH (env : Env) : Value → Sem Fin := fun e => (do noteFrame e env; theTreesLotGoes e : Sem Unit).wrap (fun _ => .raise e) .raise id id

theorem seg_forLoop {target : Expr} {it : Value} {body : List Stmt}
    (h : wpAny (model prog w) (A.over (.forLoop target it body [] env) fs) (pyNext it) (fun r s₁ => match r with
      | none => Seg (model prog w) A R Y n s₀ (.block [] env) ((model prog w).den (.block [] env)) fs s₁
      | some v => wpAny (model prog w) (A.over (.forLoop target it body [] env) fs) (letOwnedTupleGo target it v) (fun _ s₂ => wpAny (model prog w) (A.over (.forLoop target it body [] env) fs) (assign target env v) (fun _ s₃ =>
          Seg (model prog w) A R Y n s₀ (.forLoop target it body [] env) ((execs body env).wrap (loopK (.forLoop target it body [] env)) (noteH env) id id) fs s₃) (fun _ _ => False) s₂) (fun _ _ => False) s₁) (fun _ _ => False) s) :
    Seg (model prog w) A R Y n s₀ (.forLoop target it body [] env) ((model prog w).den (.forLoop target it body [] env)) fs s := by
  show Seg _ A R Y n s₀ _ ((forTurn target it body [] env).onRaise (fun x => do noteFrame x env; theTreesLotGoes x)) fs s
  unfold forTurn
  rw [Sem.onRaise_eq_wrap]
  show Seg _ A R Y n s₀ _ (.at target.pos fun _ => ((pyNext it).onRaise (fun _ => standAt { target.pos with line := 0 }) >>= fun r => _).wrap _ _ id id) fs s
  refine seg_at ?_
  rw [Sem.onRaise_eq_wrap, Sem.bind_eq_wrap', Sem.wrap_wrap, Sem.wrap_wrap]
  refine seg_tree (wpAny_mono h (fun r s₁ h₁ => ?_) fun _ _ x => x)
  cases r with
  | none => exact seg_again rfl h₁
  | some v =>
    show Seg _ A R Y n s₀ _ ((letOwnedTupleGo target it v >>= fun _ => (assign target env v >>= fun _ => (execs body env >>= fun f => _))).wrap _ _ id id) fs s₁
    rw [Sem.bind_eq_wrap', Sem.wrap_wrap]
    refine seg_tree (wpAny_mono h₁ (fun _ s₂ h₂ => ?_) fun _ _ x => x)
    show Seg _ A R Y n s₀ _ ((assign target env v >>= fun _ => (execs body env >>= fun f => _)).wrap _ _ id id) fs s₂
    rw [Sem.bind_eq_wrap', Sem.wrap_wrap]
    refine seg_tree (wpAny_mono h₂ (fun _ s₃ h₃ => ?_) fun _ _ x => x)
    show Seg _ A R Y n s₀ _ ((execs body env >>= fun f => _).wrap _ _ id id) fs s₃
    rw [Sem.bind_eq_wrap', Sem.wrap_wrap]
    rw [Sem.wrap_congr (execs body env) _ _ (K' := loopK (.forLoop target it body [] env)) (H' := noteH env)
      (fun f => by cases f <;> rfl) (fun e => by
        show (do noteFrame e env; theTreesLotGoes e : Sem Unit).bind (fun _ => .raise e) = _
        rw [Sem.bind_eq_wrap])]
    exact h₃

theorem seg_blockNil {k h g l c₁ p₁ kp} (hk : Seg (model prog w) A R Y n s₀ c₁ (k (.ok .next)) fs s) : Seg (model prog w) A R Y n s₀ (.block [] env) ((model prog w).den (.block [] env)) (.ret k h g l c₁ p₁ kp :: fs) s :=
  seg_leaf (c := .block [] env) (.ok .next) hk
end

end Mine

namespace Mine
variable {W : Wd} {A : Around} {c : Cx} {ρ : Rho}

/-! the units of a text, as the generator tells them -/
def bsl : Str := Str.ofString "\\"
def escL : List Nat → Int → Bool → Int → List (Int × Str)
  | [], _, esc, p => if esc then [(p, bsl)] else []
  | ch :: cs, k, true, _ => (k, bsl ++ ⟨#[ch]⟩) :: escL cs (k + 1) false k
  | ch :: cs, k, false, _ => if (⟨#[ch]⟩ : Str) = bsl then escL cs (k + 1) true k else (k, ⟨#[ch]⟩) :: escL cs (k + 1) false k
def escs (x : Str) : List (Int × Str) := escL x.cps.toList 0 false 0
def unitP (u : Int × Str) : VP := isTup [isInt u.1, isStr u.2]

/-- a step that keeps all that stands but what is private; what is named apart stays out of the base -/
theorem Ok.growN {X N : Addr → Prop} {Xg : Nat → Prop} {h : Heap} {s s' : Shared} (o : Ok W h s) (hk : ∀ b ob, s.heap.get? b = some ob → ¬ X b → s'.heap.get? b = some ob) (hX : ∀ a, X a → h.get? a = none ∧ a ∉ W.tb ∧ ∃ o, s.heap.get? a = some o)
    (hg : ∀ (i : Nat) x, s.gens[i]? = some x → ¬ Xg i → s'.gens[i]? = some x) (hb : AllBare s'.gens) (hos : s'.os = s.os) :
    ∃ h', Xt W X Xg h s h' s' ∧ (∀ a, s.heap.get? a = none → ¬ N a → h'.get? a = s'.heap.get? a) ∧ ∀ a, s.heap.get? a = none → N a → h'.get? a = none := by
  have dec : ∀ a, Decidable (N a) := fun _ => Classical.propDecidable _
  let h' := restr s'.heap fun i => ((s.heap.get? i).isNone && !decide (N i)) || (h.get? i).isSome
  have hnX : ∀ {b ob}, h.get? b = some ob → ¬ X b := fun {b ob} e q => by rw [(hX b q).1] at e; cases e
  have hle : Le h h' := fun b ob e => by
    show (restr _ _).get? b = _
    rw [restr_get, if_pos (by simp [e])]; exact hk _ _ (o.le _ _ e) (hnX e)
  have hnew : ∀ a ob, s.heap.get? a = some ob → h'.get? a = h.get? a := fun a ob e => by
    show (restr _ _).get? a = _
    rw [restr_get]
    cases e' : h.get? a with
    | none => simp [e]
    | some ob' => simp [e, hk _ _ (o.le _ _ e') (hnX e')]
  have hnone : ∀ a, s.heap.get? a = none → h.get? a = none := fun a e => by
    cases q : h.get? a with
    | none => rfl
    | some ob => have := o.le _ _ q; rw [e] at this; cases this
  refine ⟨h', ⟨⟨fun b ob e => ?_, W.gmono hle o.g, fun P hP => ?_, fun P hP => ?_, hb⟩, hle, hnew, fun b ob e _ => hk b ob e, hg, hos⟩, fun a e hn => ?_, fun a e hn => ?_⟩
  · have e' : (restr _ _).get? b = some ob := e
    rw [restr_get] at e'
    split at e'
    · exact e'
    · cases e'
  · obtain ⟨ps, e, _⟩ := o.tab P hP
    rw [hnew P _ e]; exact o.tn P hP
  · obtain ⟨ps, e, t, cc⟩ := o.tab P hP
    exact ⟨ps, hk _ _ e (fun q => (hX P q).2.1 hP), t, fun pos cv q => (cc pos cv q).keeps hle⟩
  · show (restr _ _).get? a = _
    rw [restr_get, if_pos (by simp [e, hn])]
  · show (restr _ _).get? a = _
    rw [restr_get, if_neg (by simp [e, hn, hnone a e])]
theorem Ok.growX {X : Addr → Prop} {Xg : Nat → Prop} {h : Heap} {s s' : Shared} (o : Ok W h s) (hk : ∀ b ob, s.heap.get? b = some ob → ¬ X b → s'.heap.get? b = some ob) (hX : ∀ a, X a → h.get? a = none ∧ a ∉ W.tb ∧ ∃ o, s.heap.get? a = some o)
    (hg : ∀ (i : Nat) x, s.gens[i]? = some x → ¬ Xg i → s'.gens[i]? = some x) (hb : AllBare s'.gens) (hos : s'.os = s.os) :
    ∃ h', Xt W X Xg h s h' s' ∧ ∀ a, s.heap.get? a = none → h'.get? a = s'.heap.get? a := by
  obtain ⟨h', x, n, _⟩ := o.growN (N := fun _ => False) hk hX hg hb hos
  exact ⟨h', x, fun a e => n a e id⟩

theorem pyNext_gen {prog : Program} {w : World} {E : Value → Shared → Prop} {s : Shared} {a : Addr} {g n : Nat} {gs : GenState} {P : Nat → Shared → Shared → Prop} {Y : Protocol} {Q : Option Value → Shared → Prop} (hh : A.handled = none)
    (hl : s.heap.NoLimit) (hroom : A.depth < recursionLimit)
    (hg : s.heap.IsGen a g) (hgs : s.gens[g]? = some gs)
    (hgo : gs.Goes (model prog w) A.in1 (fun n s₀ r s₁ => r = .ok (.ret .none) ∧ P n s₀ s₁) Y n (.send .none) (s.setGen g .running))
    (hY : ∀ v s₁ gs', gs'.bare = true → Y (n - 1) (s.setGen g .running) v s₁ (fun r' s'' => match n with
        | 0 => False
        | m + 1 => gs'.Goes (model prog w) A.in1 (fun n s₀ r s₁ => r = .ok (.ret .none) ∧ P n s₀ s₁) Y m r' s'') → Q (some v) (s₁.setGen g gs'))
    (hP : ∀ s₁, P n (s.setGen g .running) s₁ → ∀ h', (∀ b o, s₁.heap.get? b = some o → h'.get? b = some o) → Q none { s₁.setGen g .finished with heap := h' }) :
    wpAny (model prog w) A (pyNext (.ref a)) Q E s := by
  unfold pyNext
  refine wpAny_bind (wpAny_attempt (wpAny_callSpecial?_slot (name := Str.ofString "__next__") hg.typeIs slot_gen_next
    (wpAny_call_entry slot_gen_next hg.typeIs entry_gen_next ?_ (args_gen_next _))))
  show wpAny _ A.in1 (Builtin.Generator.genWake (.ref a) (.send .none)) _ _ s
  unfold Builtin.Generator.genWake
  refine wpAny_bind (wpAny_holding (wpAny_genNumber hg (wpAny_bind (wpAny_genState hgs ?_))))
  cases gs with
  | running => exact hgo.elim
  | finished => exact hgo.elim
  | _ =>
    refine wpAny_bind (wpAny_roomToWake hl hroom ?_)
    show wpAny _ A.in1 (.resume g (.send .none) [] _) _ _ s
    refine wpAny_resumeQ hgs hgo (fun x s₁ hx => ?_) (fun v s₁ gs' hb hv => ?_)
    · obtain ⟨rfl, hp⟩ := hx
      show wpAny _ A.in1 (newExc (.type "StopIteration") [] >>= _) _ _ _
      refine wpAny_bind ?_
      simp only [newExc, newTuple]
      refine wpAny_bind (wpAny_newObj_type ?_ (by size_fits))
      refine wpAny_bind (m := firstArgMember _ _) (wpAny_of_eq (a := Value.none) (by first | rfl | (simp only [firstArgMember]; rfl)) ?_)
      refine wpAny_newObj_type ?_ (by size_fits)
      simp only [raiseNew]
      refine wpAny_bind (wpAny_bind (wpAny_handled ?_))
      first | rw [show A.in1.handled = none from hh] | rw [hh]
      refine wpAny_throw ?_
      refine wpAny_bind (wpAny_isInstance (T := "StopIteration") (b := true) ⟨_, Heap.get?_push_size _ rfl, rfl⟩ isSubtype_stop ?_)
      exact wpAny_pure (hP s₁ hp _ fun b o hb => Heap.get?_push_of_some _ (Heap.get?_push_of_some _ hb))
    · exact wpAny_pure ⟨v, rfl, wpAny_pure (hY v s₁ gs' hb hv)⟩

theorem evTup {es : List Expr} {Ps : List VP} {k : Nat} {pos : Pos} {h : Heap} {s : Shared} {Q : Value → Shared → Prop} {E : Value → Shared → Prop} (a : EvL W A c ρ es Ps) (st : St W c ρ h s) (hz : Ps.length ≤ sizeLine)
    (q : ∀ t vs h' s', Ext W h s h' s' → (∀ a o, s.heap.get? a = some o → a < t) → s'.heap.get? t = some { cls := .type "tuple", data := .seq vs.toArray } → All2 h' Ps vs → Q (.ref t) s') : wpAny W.M A (eval (.Tuple es k pos) c.env) Q E s :=
  wpAny_Tuple (a pos h s _ _ st fun vs h₁ s₁ x₁ p₁ => ⟨by rw [p₁.len]; exact hz, by
    obtain ⟨h', x, e⟩ := x₁.ok.push { cls := .type "tuple", data := .seq vs.toArray } (t := s₁.toks)
    refine q s₁.heap.objs.size vs h' _ (x₁.tr x) (fun a o e' => ?_) (x.ok.le _ _ e) (p₁.mono x.le)
    obtain ⟨o', e''⟩ := x₁.live e'; exact Heap.lt_size e''⟩)

/-! the generator's run -/
structure KP (X : Addr → Prop) (s s' : Shared) : Prop where
  keep : ∀ b o, s.heap.get? b = some o → ¬ X b → s'.heap.get? b = some o
  gens : ∀ (i : Nat) x, s.gens[i]? = some x → s'.gens[i]? = some x
  bare : AllBare s'.gens
  os : s'.os = s.os
theorem KP.tr {X : Addr → Prop} {s s' s'' : Shared} (x : KP X s s') (y : KP X s' s'') : KP X s s'' :=
  ⟨fun b o e hb => y.keep b o (x.keep b o e hb) hb, fun i z e => y.gens i z (x.gens i z e), y.bare, y.os.trans x.os⟩
theorem KP.ext {X : Addr → Prop} {h h' : Heap} {s s' : Shared} (hW : W.tb = []) (x : Ext W h s h' s') : KP X s s' :=
  ⟨fun b o e _ => x.keep b o e (by rw [hW]; simp), x.gens, x.ok.bare, x.os⟩
theorem KP.mv {X : Addr → Prop} {h h' : Heap} {s s' : Shared} {own' : List (Addr × Obj)} (hW : W.tb = []) (hm : ∀ a ∈ c.muts, X a) (ho : c.own = []) (x : Mv W c own' h s h' s') : KP X s s' :=
  ⟨fun b o e hb => x.keep b o e (by rw [hW]; simp) (fun q => hb (hm b q)) (by rw [ho]; simp), x.gens, x.ok.bare, x.os⟩

/-- a yielded unit -/
def Yu (W : Wd) (X : Addr → Prop) (its : List (Int × Str)) : Protocol := fun n s₀ v s' κ =>
  (∃ t vs i y, its[its.length - 1 - n]? = some (i, y) ∧ v = .ref t ∧ ¬ X t ∧ s₀.heap.get? t = none ∧ s'.heap.get? t = some { cls := .type "tuple", data := .seq vs.toArray } ∧ All2 s'.heap [isInt i, isStr y] vs) ∧
  KP X s₀ s' ∧ (∀ a, X a → ∃ o, s'.heap.get? a = some o ∧ ∀ u, o.data ≠ .cell u) ∧ ∀ s'', ((∀ a, X a → s''.heap.get? a = s'.heap.get? a) ∧ ∃ h, Ok W h s'' ∧ ∀ a, X a → h.get? a = none) → κ (.send .none) s''
abbrev Ru (X : Addr → Prop) : GenEnd := fun n s₀ r s₁ => r = .ok (.ret .none) ∧ (n = 0 ∧ KP X s₀ s₁)

abbrev nm_pos : Str := Str.ofString "pos"
abbrev nm_ch : Str := Str.ofString "ch"
abbrev nm_esc : Str := Str.ofString "escape"
abbrev nm_addr : Str := Str.ofString "addr"

abbrev grho (x : Str) (esc : Bool) (p : Int) : Rho := [(nm_esc, isBool esc), (nm_addr, isStr x), (nm_pos, isInt p)]

structure GS (W : Wd) (c : Cx) (x : Str) (e it : Addr) (Sw : Nat → Heap → Prop) (k : Nat) (esc : Bool) (p : Int) (h : Heap) (s : Shared) : Prop where
  st : St W c (grho x esc p) h s
  en : ∃ old, IsEnum s.heap e it k old
  sw : Sw k s.heap
  ne : h.get? e = none
  ni : h.get? it = none

end Mine

namespace Mine
variable {W : Wd} {A : Around} {c : Cx} {ρ : Rho}

def Pur (ρ : Rho) : Prop := ∀ x P, ρ.lookup x = some P → ∀ h h' v, P.p h v → P.p h' v
theorem Pur.nil : Pur [] := fun _ _ e => by cases e
theorem Pur.cons {x : Str} {P : VP} {ρ : Rho} (h : ∀ h h' v, P.p h v → P.p h' v) (t : Pur ρ) : Pur ((x, P) :: ρ) := fun y Q e => by
  rw [List.lookup_cons] at e
  cases hb : y == x with
  | true => rw [hb] at e; cases e; exact h
  | false => rw [hb] at e; exact t y Q e
theorem pur_int (i : Int) : ∀ h h' v, (isInt i).p h v → (isInt i).p h' v := fun _ _ _ x => x
theorem pur_str (i : Str) : ∀ h h' v, (isStr i).p h v → (isStr i).p h' v := fun _ _ _ x => x
theorem pur_bool (i : Bool) : ∀ h h' v, (isBool i).p h v → (isBool i).p h' v := fun _ _ _ x => x

theorem St.resume {h h'' : Heap} {s s'' : Shared} (st : St W c ρ h s) (pu : Pur ρ) (hm : c.muts = [c.env.locals]) (ho : c.own = []) (hl : ∀ x P, ρ.lookup x = some P → c.env.kindOf x = some .local) (hL : s''.heap.get? c.env.locals = s.heap.get? c.env.locals) (ok : Ok W h'' s'') (hn : h''.get? c.env.locals = none) :
    St W c ρ h'' s'' where
  ok := ok
  env := st.env
  ns := let ⟨m, q⟩ := st.ns; ⟨m, q.at' fun o e => hL.trans e⟩
  cel := fun a ha => .inl (by rw [hm] at ha; exact List.mem_singleton.mp ha)
  mu := fun a ha => by rw [hm] at ha; rw [List.mem_singleton.mp ha]; exact hn
  own := fun p hp => by rw [ho] at hp; cases hp
  nodup := st.nodup
  rd := fun x P e => by
    obtain ⟨v, r, p⟩ := st.rd x P e
    refine ⟨v, ?_, pu x P e _ _ _ p⟩
    rcases r with ⟨k, m, n, q⟩ | ⟨k, cc, l, q⟩
    · exact .inl ⟨k, m, n.at' fun o e => hL.trans e, q⟩
    · rw [hl x P e] at k; rcases k with k | k <;> cases k

theorem gen_loop (hW : W.tb = []) (hmu : c.muts = [c.env.locals]) (hown : c.own = []) (hwp : Wr c nm_pos) (hwc : Wr c nm_ch) (hwe : Wr c nm_esc)
    (hkp : c.env.kindOf nm_pos = some .local) (hkc : c.env.kindOf nm_ch = some .local) (hke : c.env.kindOf nm_esc = some .local) (hka : c.env.kindOf nm_addr = some .local)
    (hco : c.env.scope.isCoroutine = false) (hin : interactive c.env = false)
    {x : Str} {e it : Addr} {Sw : Nat → Heap → Prop} (D : ∀ A : Around, A.handled = none → Draws W.prog W.w A it [it] x.cps.size (SignAt x) Sw) (hei : e ≠ it) (heL : e ≠ c.env.locals) (hiL : it ≠ c.env.locals)
    (hsd : ∀ i h, Sw i h → ∃ o vs, h.get? it = some o ∧ o.data = .fields vs)
    {its : List (Int × Str)} {fs : List Frame} (hov : ∀ c', (A.over c' fs).handled = none) (hfs : splitAtGen fs = none) (hfg : fs.any Frame.guarded = false)
    {p1 p2 p3 p4 p5 p6 p7 p8 p9 p10 p11 p12 p13 p14 p15 p16 p17 p18 p19 p20 p21 p22 p23 p24 p25 p26 p27 p28 : Pos} {k1 k2 k3 k4 k5 k6 : Nat} {fbody : List Stmt} {target : Expr} {X : Addr → Prop} (hXd : X = fun a => a = c.env.locals ∨ a = e ∨ a = it)
    (htarget : target = .Tuple [.Name nm_pos p1, .Name nm_ch p2] k1 p3)
    (hbody : fbody = [.If (.Name nm_esc p4) [.Expr (.Yield (some (.Tuple [.Name nm_pos p5, .BinOp (.Constant (.str (Str.ofString "\\")) k2 p6) .Add (.Name nm_ch p7) p8] k3 p9)) p10) p11, .Assign [.Name nm_esc p12] (.Constant (.bool false) k4 p13) p14]
      [.If (.Compare (.Name nm_ch p15) [.Eq] [.Constant (.str (Str.ofString "\\")) k5 p16] p17) [.Assign [.Name nm_esc p18] (.Constant (.bool true) k6 p19) p20] [.Expr (.Yield (some (.Tuple [.Name nm_pos p21, .Name nm_ch p22] k3 p23)) p24) p25] p26] p27])
    (hend : ∀ (A : Around) (k : Int) (old : Value) (s : Shared) (Q : Option Value → Shared → Prop) (E : Value → Shared → Prop), A.handled = none → IsEnum s.heap e it k old → Sw x.cps.size s.heap →
      (∀ h', Heap.ExtBut it s.heap h' → (∃ o vs, h'.get? it = some o ∧ o.data = .fields vs) → Q none { s with heap := h' }) → wpAny W.M A (pyNext (.ref e)) Q E s)
    (hfin : ∀ esc p s₀ s h, St W c (grho x esc p) h s → (∀ a, X a → ∃ o, s.heap.get? a = some o ∧ ∀ u, o.data ≠ .cell u) → KP X s₀ s → (∃ pre, its = pre ++ escL [] 0 esc p) →
      Seg W.M A (Ru X) (Yu W X its) (escL [] 0 esc p).length s₀ (.block [] c.env) (W.M.den (.block [] c.env)) fs s) :
    ∀ (m k : Nat) (esc : Bool) (p : Int) (s₀ s : Shared) (h : Heap), m + k = x.cps.size → GS W c x e it Sw k esc p h s → KP X s₀ s → (∃ pre, its = pre ++ escL (x.cps.toList.drop k) k esc p) →
      Seg W.M A (Ru X) (Yu W X its) (escL (x.cps.toList.drop k) k esc p).length s₀ (.forLoop target (.ref e) fbody [] c.env) (W.M.den (.forLoop target (.ref e) fbody [] c.env)) fs s := by
  subst hXd
  have hmX : ∀ a ∈ c.muts, (fun a => a = c.env.locals ∨ a = e ∨ a = it) a := fun a ha => by rw [hmu] at ha; exact .inl (List.mem_singleton.mp ha)
  have hmE : ∀ {h : Heap} {s : Shared} {ρ : Rho} {k : Nat}, St W c ρ h s → (∃ old, IsEnum s.heap e it k old) → Sw k s.heap → ∀ a, (a = e ∨ a = it) → a ∉ c.muts ∧ a ∉ c.own.map (·.1) ∧ ∀ v, ¬ s.heap.IsCell a v := by
    rintro h s ρ k st ⟨old, he⟩ hs a (rfl | rfl)
    · refine ⟨fun q => ?_, by rw [hown]; simp, fun v ⟨o, e1, d⟩ => ?_⟩
      · rw [hmu] at q; exact heL (List.mem_singleton.mp q)
      · rw [he] at e1; cases e1; cases d
    · refine ⟨fun q => ?_, by rw [hown]; simp, fun v ⟨o, e1, d⟩ => ?_⟩
      · rw [hmu] at q; exact hiL (List.mem_singleton.mp q)
      · obtain ⟨o', vs, e2, d2⟩ := hsd _ _ hs; rw [e1] at e2; cases e2; rw [d] at d2; cases d2
  intro m
  induction m with
  | zero =>
    intro k esc p s₀ s h hk gs kp ⟨pre, hpre⟩
    have hd : x.cps.toList.drop k = [] := List.drop_eq_nil_of_le (by simp; omega)
    rw [hd] at hpre ⊢
    have hk' : k = x.cps.size := by omega
    obtain ⟨old, he⟩ := gs.en
    refine seg_forLoop (hend _ _ _ _ _ _ (hov _) he (hk' ▸ gs.sw) fun h' hx hlv => ?_)
    have hX : ∀ a, (a = it) → h.get? a = none ∧ a ∉ W.tb ∧ ∃ o, s.heap.get? a = some o := by
      rintro a rfl; obtain ⟨o, vs, e1, _⟩ := hsd _ _ gs.sw; exact ⟨gs.ni, by rw [hW]; simp, o, e1⟩
    obtain ⟨h₁, xt, _⟩ := gs.st.ok.growX (X := fun a => a = it) (Xg := fun _ => False) (s' := { s with heap := h' }) (fun b ob eb hb => hx b ob hb eb) hX (fun _ _ q _ => q) gs.st.ok.bare rfl
    have st₁ := gs.st.xt xt fun a ha => hmE gs.st gs.en gs.sw a (.inr ha)
    have := hfin esc p s₀ _ h₁ st₁ (by
      rintro a (rfl | rfl | rfl)
      · obtain ⟨mm, o, es, ep, q, d, _⟩ := st₁.ns
        exact ⟨o, q, fun u e => by rw [d] at e; cases e⟩
      · exact ⟨_, hx _ _ hei he, fun u e => by cases e⟩
      · obtain ⟨o, vs, q, d⟩ := hlv; exact ⟨o, q, fun u e => by rw [d] at e; cases e⟩) (kp.tr ⟨fun b o eb hb => xt.keep b o eb (by rw [hW]; simp) (fun q => hb (.inr (.inr q))), fun _ _ q => q, gs.st.ok.bare, rfl⟩) ⟨pre, by rw [hpre]; cases esc <;> rfl⟩
    have el : (escL [] (k : Int) esc p).length = (escL [] 0 esc p).length := by cases esc <;> rfl
    rw [el]; exact this
  | succ m ih =>
    intro k esc p s₀ s h hk gs kp ⟨pre, hpre⟩
    have hlt : k < x.cps.size := by omega
    obtain ⟨old, he⟩ := gs.en
    have hdr : x.cps.toList.drop k = x.cps[k] :: x.cps.toList.drop (k + 1) := by
      rw [List.drop_eq_getElem_cons (by simpa using hlt)]; simp
    refine seg_forLoop (wpAny_pyNext_enum_itemD (D _ (by rw [Around.in1_handled]; exact hov _)) he gs.sw hlt hei (by simpa using hei) fun y h' tk sg heo sw' ht hsz hkeep => ?_)
    obtain ⟨ch, u, hch, rfl⟩ := sg
    have hch' : x.cps[k] = ch := by simpa [hlt] using hch
    subst hch'
    generalize hchd : x.cps[k] = ch at *
    rw [htarget]
    refine wpAny_letOwnedTupleGo_enum heo fun h'' he'' hs'' => ?_
    replace hs'' : Heap.SameBut e h' h'' := hs''
    rw [← htarget]
    -- the state with the pair in hand
    have sw'' : Sw (k + 1) h'' := (D { handled := none } rfl).frame _ _ _ sw' fun b hb o eb => by
      rw [List.mem_singleton.mp hb] at eb ⊢; exact (hs''.2 it (Ne.symm hei)).trans eb
    have hX : ∀ a, (a = e ∨ a = it) → h.get? a = none ∧ a ∉ W.tb ∧ ∃ o, s.heap.get? a = some o := by
      rintro a (rfl | rfl)
      · exact ⟨gs.ne, by rw [hW]; simp, _, he⟩
      · obtain ⟨o, vs, e1, _⟩ := hsd _ _ gs.sw; exact ⟨gs.ni, by rw [hW]; simp, o, e1⟩
    obtain ⟨h₁, xt, hnew⟩ := gs.st.ok.growX (X := fun a => a = e ∨ a = it) (Xg := fun _ => False) (s' := { s with heap := h'', toks := tk + 1 })
      (fun b ob eb hb => (hs''.2 b (fun q => hb (.inl q))).trans (hkeep b ob (fun q => hb (.inl q)) (fun q => hb (.inr q)) eb)) hX (fun _ _ q _ => q) gs.st.ok.bare rfl
    have st₁ := gs.st.xt xt fun a ha => hmE gs.st gs.en gs.sw a ha
    have hT : h₁.get? s.heap.objs.size = some { cls := .type "tuple", data := .seq #[.int k tk, .str ⟨#[ch]⟩ u] } := by
      rw [hnew _ (Heap.get?_none_of_le (Nat.le_refl _))]
      exact (hs''.2 _ (Nat.ne_of_gt (Heap.lt_size he))).trans ht
    have kp₁ : KP (fun a => a = c.env.locals ∨ a = e ∨ a = it) s₀ { s with heap := h'', toks := tk + 1 } :=
      kp.tr ⟨fun b o eb hb => xt.keep b o eb (by rw [hW]; simp) (fun q => hb (q.elim (fun q => .inr (.inl q)) fun q => .inr (.inr q))), fun _ _ q => q, gs.st.ok.bare, rfl⟩
    have ne₁ : h₁.get? e = none := by rw [xt.new e _ he]; exact gs.ne
    have ni₁ : h₁.get? it = none := by obtain ⟨o, vs, e1, _⟩ := hsd _ _ gs.sw; rw [xt.new it _ e1]; exact gs.ni
    have asg := AsT.two (W := W) (A := A.over (.forLoop target (.ref e) fbody [] c.env) fs) (c := c) (x := nm_pos) (y := nm_ch) (px := p1) (py := p2) (pos := p3) (k := k1) (P := isInt k) (Q := isStr ⟨#[ch]⟩) (hov _) hwp hwc
    conv in (assign target c.env _) => rw [htarget]
    refine asg c.own (grho x esc p) h₁ _ (.ref s.heap.objs.size) _ _ st₁ ⟨_, [.int k tk, .str ⟨#[ch]⟩ u], rfl, ⟨_, hT, rfl, _, rfl⟩, ⟨_, rfl⟩, ⟨_, rfl⟩, trivial⟩ fun h₂ s₂ m₂ st₂ => ?_
    have st₂' : St W c ((nm_ch, isStr ⟨#[ch]⟩) :: (nm_pos, isInt k) :: grho x esc p) h₂ s₂ := st₂
    have kp₂ : KP (fun a => a = c.env.locals ∨ a = e ∨ a = it) s₀ s₂ := kp₁.tr (KP.mv (c := c.on c.own) hW hmX hown m₂)
    have at₂ : ∀ a, a = e ∨ a = it → s₂.heap.get? a = h''.get? a := fun a ha => by
      obtain ⟨hm1, hm2, _⟩ := hmE gs.st gs.en gs.sw a ha
      have hl : ∃ o, h''.get? a = some o := by
        rcases ha with rfl | rfl
        · exact ⟨_, he''⟩
        · obtain ⟨o, vs, e1, _⟩ := hsd _ _ sw''; exact ⟨o, e1⟩
      obtain ⟨o, eo⟩ := hl
      rw [eo]; exact m₂.keep a o eo (by rw [hW]; simp) hm1 hm2
    have ne₂ : h₂.get? e = none := by rw [m₂.new e _ he'' (by show e ∉ c.own.map _; rw [hown]; simp)]; exact ne₁
    have ni₂ : h₂.get? it = none := by obtain ⟨o, vs, e1, _⟩ := hsd _ _ sw''; rw [m₂.new it _ e1 (by show it ∉ c.own.map _; rw [hown]; simp)]; exact ni₁
    have en₂ : ∃ old, IsEnum s₂.heap e it ((k + 1 : Nat) : Int) old := ⟨_, by
      show s₂.heap.get? e = _
      rw [at₂ e (.inl rfl)]; have := he''; rw [show (((k + 1 : Nat) : Int)) = (k : Int) + 1 from by push_cast; rfl]; exact this⟩
    have sw₂ : Sw (k + 1) s₂.heap := (D { handled := none } rfl).frame _ _ _ sw'' fun b hb o eb => by
      rw [List.mem_singleton.mp hb] at eb ⊢; rw [at₂ it (.inr rfl)]; exact eb
    have hlocal : ∀ (y : Str) (P : VP), ((nm_ch, isStr ⟨#[ch]⟩) :: (nm_pos, isInt k) :: grho x esc p).lookup y = some P → c.env.kindOf y = some .local := by
      intro y P hy
      have hm := mem_of_lookup hy
      simp only [grho, List.mem_cons, List.not_mem_nil, or_false, Prod.mk.injEq] at hm
      rcases hm with ⟨rfl, _⟩ | ⟨rfl, _⟩ | ⟨rfl, _⟩ | ⟨rfl, _⟩ | ⟨rfl, _⟩ <;> assumption
    have hpur : Pur ((nm_ch, isStr ⟨#[ch]⟩) :: (nm_pos, isInt k) :: grho x esc p) := .cons (pur_str _) (.cons (pur_int _) (.cons (pur_bool _) (.cons (pur_str _) (.cons (pur_int _) .nil))))
    -- what a wake finds
    have wake : ∀ {h₃ : Heap} {s₃ s₄ : Shared}, Ext W h₂ s₂ h₃ s₃ → ((∀ a, (a = c.env.locals ∨ a = e ∨ a = it) → s₄.heap.get? a = s₃.heap.get? a) ∧ ∃ h, Ok W h s₄ ∧ ∀ a, (a = c.env.locals ∨ a = e ∨ a = it) → h.get? a = none) →
        ∃ h, St W c ((nm_ch, isStr ⟨#[ch]⟩) :: (nm_pos, isInt k) :: grho x esc p) h s₄ ∧ (∃ old, IsEnum s₄.heap e it ((k + 1 : Nat) : Int) old) ∧ Sw (k + 1) s₄.heap ∧ h.get? e = none ∧ h.get? it = none := by
      rintro h₃ s₃ s₄ x₃ ⟨hat, h, ok, hn⟩
      have st₃ := st₂'.ext x₃
      refine ⟨h, st₃.resume hpur hmu hown hlocal (hat _ (.inl rfl)) ok (hn _ (.inl rfl)), ?_, ?_, hn _ (.inr (.inl rfl)), hn _ (.inr (.inr rfl))⟩
      · obtain ⟨old, q⟩ := en₂
        exact ⟨old, (hat e (.inr (.inl rfl))).trans (x₃.keep e _ q (by rw [hW]; simp))⟩
      · refine (D { handled := none } rfl).frame _ _ _ sw₂ fun b hb o eb => ?_
        rw [List.mem_singleton.mp hb] at eb ⊢
        exact (hat it (.inr (.inr rfl))).trans (x₃.keep it _ eb (by rw [hW]; simp))
    -- behind the turn
    have again : ∀ (esc' : Bool) (s₀' s₄ : Shared) (h₄ : Heap), GS W c x e it Sw (k + 1) esc' k h₄ s₄ → KP (fun a => a = c.env.locals ∨ a = e ∨ a = it) s₀' s₄ → (∃ pre, its = pre ++ escL (x.cps.toList.drop (k + 1)) ((k + 1 : Nat) : Int) esc' k) →
        Seg W.M A (Ru fun a => a = c.env.locals ∨ a = e ∨ a = it) (Yu W (fun a => a = c.env.locals ∨ a = e ∨ a = it) its) (escL (x.cps.toList.drop (k + 1)) ((k + 1 : Nat) : Int) esc' k).length s₀' (.forLoop target (.ref e) fbody [] c.env)
          (.pure (.again (.forLoop target (.ref e) fbody [] c.env))) fs s₄ := fun esc' s₀' s₄ h₄ gs' kp' hp => seg_again rfl (ih (k + 1) esc' k s₀' s₄ h₄ (by omega) gs' kp' hp)
    rw [hdr] at hpre ⊢
    conv in (execs fbody c.env) => rw [hbody]
    refine seg_execs_cons (seg_If ?_)
    have ev1 : EvT W (A.over (.forLoop target (.ref e) fbody [] c.env) fs) c ((nm_ch, isStr ⟨#[ch]⟩) :: (nm_pos, isInt k) :: grho x esc p) (.Name nm_esc p4) esc := EvT.val (EvE.name rfl) tru_bool
    refine ev1 h₂ s₂ _ _ st₂' fun h₃ s₃ x₃ => ?_
    have st₃ := st₂'.ext x₃
    have kp₃ := kp₂.tr (KP.ext (X := fun a => a = c.env.locals ∨ a = e ∨ a = it) hW x₃)
    have liveX : ∀ a, (a = c.env.locals ∨ a = e ∨ a = it) → ∃ o, s₃.heap.get? a = some o ∧ ∀ u, o.data ≠ .cell u := by
      rintro a (rfl | rfl | rfl)
      · obtain ⟨mm, o, es, ep, q, d, _⟩ := st₃.ns
        exact ⟨o, q, fun u e => by rw [d] at e; cases e⟩
      · obtain ⟨old, q⟩ := en₂; exact ⟨_, x₃.keep _ _ q (by rw [hW]; simp), fun u e => by cases e⟩
      · obtain ⟨o, vs, q, d⟩ := hsd _ _ sw₂; exact ⟨o, x₃.keep _ _ q (by rw [hW]; simp), fun u e => by rw [d] at e; cases e⟩
    have dead : ∀ t, (∀ a o, s₃.heap.get? a = some o → a < t) → s₀.heap.get? t = none := fun t ht => by
      cases q : s₀.heap.get? t with
      | none => rfl
      | some o =>
        by_cases hx : t = c.env.locals ∨ t = e ∨ t = it
        · obtain ⟨o', q', _⟩ := liveX t hx; exact absurd (ht t o' q') (Nat.lt_irrefl _)
        · exact absurd (ht t o (kp₃.keep t o q hx)) (Nat.lt_irrefl _)
    -- a store of the flag, and on
    have flag : ∀ (b : Bool) (s₀' s₄ : Shared) (h₄ : Heap) (kk : Nat) (pp qq rr : Pos) (fin : Sem Fin), St W c ((nm_ch, isStr ⟨#[ch]⟩) :: (nm_pos, isInt k) :: grho x esc p) h₄ s₄ → (∃ old, IsEnum s₄.heap e it ((k + 1 : Nat) : Int) old) → Sw (k + 1) s₄.heap →
        h₄.get? e = none → h₄.get? it = none → KP (fun a => a = c.env.locals ∨ a = e ∨ a = it) s₀' s₄ → (∃ pre, its = pre ++ escL (x.cps.toList.drop (k + 1)) ((k + 1 : Nat) : Int) b k) →
        wpAny W.M (A.over (.forLoop target (.ref e) fbody [] c.env) fs) (exec (.Assign [.Name nm_esc pp] (.Constant (.bool b) kk qq) rr) c.env) (fun f s' => f = .next ∧ Seg W.M A (Ru fun a => a = c.env.locals ∨ a = e ∨ a = it) (Yu W (fun a => a = c.env.locals ∨ a = e ∨ a = it) its)
          (escL (x.cps.toList.drop (k + 1)) ((k + 1 : Nat) : Int) b k).length s₀' (.forLoop target (.ref e) fbody [] c.env) (.pure (.again (.forLoop target (.ref e) fbody [] c.env))) fs s') (fun _ _ => False) s₄ := by
      intro b s₀' s₄ h₄ kk pp qq rr fin st₄ en₄ sw₄ ne₄ ni₄ kp₄ hp
      have evb : EvE W (A.over (.forLoop target (.ref e) fbody [] c.env) fs) c ((nm_ch, isStr ⟨#[ch]⟩) :: (nm_pos, isInt k) :: grho x esc p) (.Constant (.bool b) kk qq) (isBool b) := EvE.bool
      refine wpAny_Assign_Name (evb h₄ s₄ _ _ st₄ fun v h₅ s₅ x₅ p₅ => (st₄.ext x₅).store hwe p₅ fun s₆ m₆ st₆ => ⟨rfl, ?_⟩)
      have k56 : ∀ a o, (a = e ∨ a = it) → s₄.heap.get? a = some o → s₆.heap.get? a = some o := fun a o ha q =>
        m₆.keep a o (x₅.keep a o q (by rw [hW]; simp)) (by rw [hW]; simp) (hmE gs.st gs.en gs.sw a ha).1 (by rw [hown]; simp)
      refine again b s₀' s₆ h₅ ⟨st₆.sub (.cons rfl (.cons rfl (.cons rfl (.nil _)))), ?_, ?_, ?_, ?_⟩ ((kp₄.tr (KP.ext hW x₅)).tr (KP.mv hW hmX hown m₆)) hp
      · obtain ⟨old, q⟩ := en₄; exact ⟨old, k56 e _ (.inl rfl) q⟩
      · exact (D { handled := none } rfl).frame _ _ _ sw₄ fun b hb o eb => by
          rw [List.mem_singleton.mp hb] at eb ⊢; exact k56 it o (.inr rfl) eb
      · obtain ⟨old, q⟩ := en₄; rw [x₅.new e _ q]; exact ne₄
      · obtain ⟨o, vs, q, _⟩ := hsd _ _ sw₄; rw [x₅.new it _ q]; exact ni₄
    have ek : ((k : Int) + 1) = ((k + 1 : Nat) : Int) := by push_cast; rfl
    cases esc with
    | true =>
      simp only [escL, ek] at hpre ⊢
      simp only [if_true, List.length_cons]
      refine seg_execs_cons (seg_Expr_Yield hfs rfl hfg ?_ hco hin)
      have evl : EvL W (A.over (.forLoop target (.ref e) fbody [] c.env) fs) c ((nm_ch, isStr ⟨#[ch]⟩) :: (nm_pos, isInt k) :: grho x true p) [.Name nm_pos p5, .BinOp (.Constant (.str (Str.ofString "\\")) k2 p6) .Add (.Name nm_ch p7) p8] [isInt k, isStr (bsl ++ ⟨#[ch]⟩)] :=
        .cons (.name rfl) (.cons (.binop .str (.name rfl) (op_adds (by show (Str.ofString "\\").length + 1 ≤ sizeLine; decide))) .nil)
      refine evTup evl st₃ (by show 2 ≤ sizeLine; decide) fun t vs h₄ s₄ x₄ ht he4 al kap hkap => ?_
      refine ⟨⟨t, vs, k, _, ?_, rfl, fun hx => (let ⟨o', q', _⟩ := liveX t hx; absurd (ht t o' q') (Nat.lt_irrefl _)), dead t ht, he4, al.mono x₄.ok.le⟩, kp₃.tr (KP.ext hW x₄), fun a ha => let ⟨o, q, d⟩ := liveX a ha; ⟨o, x₄.keep a o q (by rw [hW]; simp), d⟩, fun s₅ pr => hkap .none s₅ ?_⟩
      · rw [hpre]
        have : (pre ++ ((k : Int), bsl ++ ⟨#[ch]⟩) :: escL (x.cps.toList.drop (k + 1)) ((k + 1 : Nat) : Int) false k).length - 1 - (escL (x.cps.toList.drop (k + 1)) ((k + 1 : Nat) : Int) false k).length = pre.length := by simp
        rw [this]; simp
      · obtain ⟨h₅, st₅, en₅, sw₅, ne₅, ni₅⟩ := wake (x₃.tr x₄) pr
        refine seg_execs_cons (seg_stmt ?_)
        have := flag false s₅ s₅ h₅ k4 p12 p13 p14 (.pure (.again (.forLoop target (.ref e) fbody [] c.env))) st₅ en₅ sw₅ ne₅ ni₅ ⟨fun _ _ q _ => q, fun _ _ q => q, st₅.ok.bare, rfl⟩ ⟨pre ++ [((k : Int), bsl ++ ⟨#[ch]⟩)], by rw [hpre]; simp⟩
        exact this
    | false =>
      simp only [Bool.false_eq_true, if_false]
      refine seg_execs_cons (seg_If ?_)
      have ev2 : EvT W (A.over (.forLoop target (.ref e) fbody [] c.env) fs) c ((nm_ch, isStr ⟨#[ch]⟩) :: (nm_pos, isInt k) :: grho x false p) (.Compare (.Name nm_ch p15) [.Eq] [.Constant (.str (Str.ofString "\\")) k5 p16] p17) (decide ((⟨#[ch]⟩ : Str) = Str.ofString "\\")) :=
        EvT.cmp (.name rfl) .str op_eqs
      refine ev2 h₃ s₃ _ _ st₃ fun h₄ s₄ x₄ => ?_
      have st₄ := st₃.ext x₄
      have en₄ : ∃ old, IsEnum s₄.heap e it ((k + 1 : Nat) : Int) old := let ⟨old, q⟩ := en₂; ⟨old, (x₃.tr x₄).keep e _ q (by rw [hW]; simp)⟩
      have sw₄ : Sw (k + 1) s₄.heap := (D { handled := none } rfl).frame _ _ _ sw₂ fun b hb o eb => by
        rw [List.mem_singleton.mp hb] at eb ⊢; exact (x₃.tr x₄).keep it _ eb (by rw [hW]; simp)
      have ne₄ : h₄.get? e = none := by obtain ⟨old, q⟩ := en₂; rw [(x₃.tr x₄).new e _ q]; exact ne₂
      have ni₄ : h₄.get? it = none := by obtain ⟨o, vs, q, _⟩ := hsd _ _ sw₂; rw [(x₃.tr x₄).new it _ q]; exact ni₂
      have kp₄ := kp₃.tr (KP.ext (X := fun a => a = c.env.locals ∨ a = e ∨ a = it) hW x₄)
      by_cases hb : (⟨#[ch]⟩ : Str) = bsl
      · have hpre' : its = pre ++ escL (x.cps.toList.drop (k + 1)) ((k + 1 : Nat) : Int) true k := by rw [hpre]; simp only [escL, hb, if_true, ek]
        have el : escL (ch :: x.cps.toList.drop (k + 1)) k false p = escL (x.cps.toList.drop (k + 1)) ((k + 1 : Nat) : Int) true k := by simp only [escL, hb, if_true, ek]
        rw [el]
        have hd : decide ((⟨#[ch]⟩ : Str) = Str.ofString "\\") = true := decide_eq_true hb
        rw [hd, if_pos rfl]
        refine seg_execs_cons (seg_stmt ?_)
        have := flag true s₀ s₄ h₄ k6 p18 p19 p20 (.pure (.again (.forLoop target (.ref e) fbody [] c.env))) st₄ en₄ sw₄ ne₄ ni₄ kp₄ ⟨pre, hpre'⟩
        exact this
      · have el : escL (ch :: x.cps.toList.drop (k + 1)) k false p = ((k : Int), (⟨#[ch]⟩ : Str)) :: escL (x.cps.toList.drop (k + 1)) ((k + 1 : Nat) : Int) false k := by simp only [escL, hb, if_false, ek]
        rw [el] at hpre ⊢
        have hd : decide ((⟨#[ch]⟩ : Str) = Str.ofString "\\") = false := decide_eq_false hb
        rw [hd]
        simp only [Bool.false_eq_true, if_false, List.length_cons]
        refine seg_execs_cons (seg_Expr_Yield hfs rfl hfg ?_ hco hin)
        have evl : EvL W (A.over (.forLoop target (.ref e) fbody [] c.env) fs) c ((nm_ch, isStr ⟨#[ch]⟩) :: (nm_pos, isInt k) :: grho x false p) [.Name nm_pos p21, .Name nm_ch p22] [isInt k, isStr ⟨#[ch]⟩] :=
          .cons (.name rfl) (.cons (.name rfl) .nil)
        refine evTup evl st₄ (by show 2 ≤ sizeLine; decide) fun t vs h₅ s₅ x₅ ht he5 al kap hkap => ?_
        refine ⟨⟨t, vs, k, _, ?_, rfl, fun hx => (let ⟨o', q', _⟩ := liveX t hx; let ⟨o'', q''⟩ := x₄.live q'; absurd (ht t o'' q'') (Nat.lt_irrefl _)), dead t ?_, he5, al.mono x₅.ok.le⟩, kp₄.tr (KP.ext hW x₅), fun a ha => let ⟨o, q, d⟩ := liveX a ha; ⟨o, (x₄.tr x₅).keep a o q (by rw [hW]; simp), d⟩, fun s₆ pr => hkap .none s₆ ?_⟩
        · rw [hpre]
          have : (pre ++ ((k : Int), (⟨#[ch]⟩ : Str)) :: escL (x.cps.toList.drop (k + 1)) ((k + 1 : Nat) : Int) false k).length - 1 - (escL (x.cps.toList.drop (k + 1)) ((k + 1 : Nat) : Int) false k).length = pre.length := by simp
          rw [this]; simp
        · intro a o q
          obtain ⟨o', q'⟩ := x₄.live q; exact ht a o' q'
        · obtain ⟨h₆, st₆, en₆, sw₆, ne₆, ni₆⟩ := wake ((x₃.tr x₄).tr x₅) pr
          have := again false s₆ s₆ h₆ ⟨st₆.sub (.cons rfl (.cons rfl (.cons rfl (.nil _)))), en₆, sw₆, ne₆, ni₆⟩ ⟨fun _ _ q _ => q, fun _ _ q => q, st₆.ok.bare, rfl⟩ ⟨pre ++ [((k : Int), (⟨#[ch]⟩ : Str))], by rw [hpre]; simp⟩
          exact this

end Mine

namespace Mine
variable {W : Wd} {A : Around} {c : Cx} {ρ : Rho}

theorem drawsStr {prog : Program} {w : World} (it : Addr) (x : Str) (t : Tok) : ∀ A : Around, A.handled = none → Draws prog w A it [it] x.cps.size (SignAt x) (fun i h => h.IsStrIter it (strIterType x) x t i) := fun A hh => by
  unfold strIterType
  split
  · exact Draws.strAscii hh it x t
  · exact Draws.strWide hh it x t

theorem Ext.of_le {h h₁ : Heap} {s : Shared} (o : Ok W h s) (hk : Le s.heap h₁) : Ext W h s h { s with heap := h₁ } :=
  ⟨⟨o.le.tr hk, o.g, o.tn, fun P hP => let ⟨ps, e, r⟩ := o.tab P hP; ⟨ps, hk _ _ e, r⟩, o.bare⟩, Le.rf h, fun _ _ _ => rfl, fun b x e _ => hk b x e, fun _ _ e => e, rfl⟩

/-- the end of a text's iterator under an enumerate: the iterator still stands -/
theorem enum_str_end {prog : Program} {w : World} {e it : Addr} {x : Str} {t : Tok} {k : Int} {old : Value} {s : Shared} {Q : Option Value → Shared → Prop} {E : Value → Shared → Prop} (hh : A.handled = none)
    (he : IsEnum s.heap e it k old) (hit : s.heap.IsStrIter it (strIterType x) x t x.cps.size)
    (hQ : ∀ h', Heap.ExtBut it s.heap h' → (∃ o vs, h'.get? it = some o ∧ o.data = .fields vs) → Q none { s with heap := h' }) : wpAny (model prog w) A (pyNext (.ref e)) Q E s := by
  have hT : s.TypeIs (.ref e) "enumerate" := ⟨_, he, rfl⟩
  have hx : x.cps[x.cps.size]? = none := by simp
  unfold pyNext
  refine wpAny_bind (wpAny_attempt (wpAny_callSpecial?_slot (name := Str.ofString "__next__") hT F.slot_enumerate_next
    (wpAny_call_entry F.slot_enumerate_next hT F.entry_enumerate_next ?_ (F.args_enumerate_next_1 _))))
  show wpAny _ _ (field (.ref e) 2 >>= _) _ _ _
  refine wpAny_bind (wpAny_field he rfl (x := .ref it) rfl ?_)
  refine wpAny_bind ?_
  obtain ⟨o, ho, hc, hd⟩ := id hit
  have last : ∀ {f : Obj → Obj} {o₁ o₂ : Obj}, o₂.cls = .type "StopIteration" → o₂.isFreed = false → (∃ vs, (f o).data = .fields vs) →
      wpAny (model prog w) A (do if ← isInstance (.ref ((s.heap.update it f).push o₁).objs.size) (.type "StopIteration") then (pure none : Sem (Option Value)) else throw (.ref ((s.heap.update it f).push o₁).objs.size)) Q E { s with heap := ((s.heap.update it f).push o₁).push o₂ } := by
    intro f o₁ o₂ hc₂ hf₂ hdf
    refine wpAny_bind (wpAny_isInstance (T := "StopIteration") (b := true) ⟨o₂, Heap.get?_push_size _ hf₂, hc₂⟩ isSubtype_stop ?_)
    obtain ⟨vs, hdf⟩ := hdf
    refine wpAny_pure (hQ _ (((Heap.SameBut.update ..).extBut.push _).push _) ⟨f o, vs, ?_, hdf⟩)
    exact Heap.get?_push_of_some _ (Heap.get?_push_of_some _ (Heap.get?_update_self _ ho (Obj.isFreed_of_fields hdf)))
  by_cases ha : (x.cps.all (· < 128)) = true
  · have ht : strIterType x = "str_ascii_iterator" := by unfold strIterType; rw [if_pos ha]
    rw [ht] at hit
    unfold Builtin.SmallTypes.nextOf
    refine wpAny_bind (wpAny_callSpecial?_slot (name := Str.ofString "__next__") hit.typeIs F.slot_str_ascii_iterator_next
      (wpAny_call_entry F.slot_str_ascii_iterator_next hit.typeIs F.entry_str_ascii_iterator_next ?_ (F.args_str_ascii_iterator_next_1 _)))
    show wpAny _ _ (field (.ref it) 0 >>= _) _ _ s
    refine wpAny_bind (wpAny_field ho hd (x := .str x t) rfl ?_)
    show wpAny _ _ (field (.ref it) 1 >>= _) _ _ s
    refine wpAny_bind (wpAny_field ho hd (x := .int x.cps.size 0) rfl ?_)
    simp only [Int.toNat_natCast, hx]
    refine wpAny_bind (wpAny_rule (wpAny_bind (wpAny_setField ho hd (by simp) (wpAny_bind (wpAny_letGo ?_)))))
    show wpAny _ _ (newExc (.type "StopIteration") [] >>= _) _ _ _
    refine wpAny_bind ?_
    simp only [newExc, newTuple]
    refine wpAny_bind (wpAny_newObj_type ?_ (by size_fits))
    refine wpAny_bind (m := firstArgMember _ _) (wpAny_of_eq (a := Value.none) (by first | rfl | (simp only [firstArgMember]; rfl)) ?_)
    refine wpAny_newObj_type ?_ (by size_fits)
    simp only [raiseNew]
    refine wpAny_bind (wpAny_handled ?_)
    first | rw [show A.in1.handled = none from hh] | rw [show A.in1.in1.handled = none from hh] | rw [hh]
    refine wpAny_bind (wpAny_pure (wpAny_throw ?_))
    exact last rfl rfl ⟨_, Obj.data_mapFields hd _⟩
  · have ht : strIterType x = "str_iterator" := by unfold strIterType; rw [if_neg ha]
    rw [ht] at hit
    unfold Builtin.SmallTypes.nextOf
    refine wpAny_bind (wpAny_callSpecial?_slot (name := Str.ofString "__next__") hit.typeIs F.slot_str_iterator_next
      (wpAny_call_entry F.slot_str_iterator_next hit.typeIs F.entry_str_iterator_next ?_ (F.args_str_iterator_next_1 _)))
    show wpAny _ _ (field (.ref it) 0 >>= _) _ _ s
    refine wpAny_bind (wpAny_field ho hd (x := .str x t) rfl ?_)
    show wpAny _ _ (field (.ref it) 1 >>= _) _ _ s
    refine wpAny_bind (wpAny_field ho hd (x := .int x.cps.size 0) rfl ?_)
    simp only [Int.toNat_natCast, hx]
    refine wpAny_bind (wpAny_rule (wpAny_bind (wpAny_setField ho hd (by simp) (wpAny_bind (wpAny_letGo ?_)))))
    show wpAny _ _ (newExc (.type "StopIteration") [] >>= _) _ _ _
    refine wpAny_bind ?_
    simp only [newExc, newTuple]
    refine wpAny_bind (wpAny_newObj_type ?_ (by size_fits))
    refine wpAny_bind (m := firstArgMember _ _) (wpAny_of_eq (a := Value.none) (by first | rfl | (simp only [firstArgMember]; rfl)) ?_)
    refine wpAny_newObj_type ?_ (by size_fits)
    simp only [raiseNew]
    refine wpAny_bind (wpAny_handled ?_)
    first | rw [show A.in1.handled = none from hh] | rw [show A.in1.in1.handled = none from hh] | rw [hh]
    refine wpAny_bind (wpAny_pure (wpAny_throw ?_))
    exact last rfl rfl ⟨_, Obj.data_mapFields hd _⟩

abbrev nm_enum : Str := Str.ofString "enumerate"

theorem gen_body (hW : W.tb = []) (hmu : c.muts = [c.env.locals]) (hown : c.own = []) (hwp : Wr c nm_pos) (hwc : Wr c nm_ch) (hwe : Wr c nm_esc)
    (hkp : c.env.kindOf nm_pos = some .local) (hkc : c.env.kindOf nm_ch = some .local) (hke : c.env.kindOf nm_esc = some .local) (hka : c.env.kindOf nm_addr = some .local)
    (hco : c.env.scope.isCoroutine = false) (hin : interactive c.env = false) (henum : c.env.kindOf nm_enum = some .globalImplicit) (genum : GlB W nm_enum (.type "enumerate"))
    {x : Str} {h : Heap} {s : Shared} (hh : A.handled = none) (st : St W c [(nm_addr, isStr x)] h s)
    {p1 p2 p3 p4 p5 p6 p7 p8 p9 p10 p11 p12 p13 p14 p15 p16 p17 p18 p19 p20 p21 p22 p23 p24 p25 p26 p27 : Pos} {k1 k2 k3 k4 k5 k6 k7 k8 k9 : Nat} {fbody body : List Stmt} {target : Expr}
    {q1 q2 q3 q4 q5 q6 q7 q8 q9 q10 q11 q12 q13 q14 q15 q16 q17 : Pos}
    (htarget : target = .Tuple [.Name nm_pos p1, .Name nm_ch p2] k1 p3)
    (hfbody : fbody = [.If (.Name nm_esc p4) [.Expr (.Yield (some (.Tuple [.Name nm_pos p5, .BinOp (.Constant (.str (Str.ofString "\\")) k2 p6) .Add (.Name nm_ch p7) p8] k3 p9)) p10) p11, .Assign [.Name nm_esc p12] (.Constant (.bool false) k4 p13) p14]
      [.If (.Compare (.Name nm_ch p15) [.Eq] [.Constant (.str (Str.ofString "\\")) k5 p16] p17) [.Assign [.Name nm_esc p18] (.Constant (.bool true) k6 p19) p20] [.Expr (.Yield (some (.Tuple [.Name nm_pos p21, .Name nm_ch p22] k3 p23)) p24) p25] p26] p27])
    (hbody : body = [.Assign [.Name nm_pos q1] (.Constant (.int 0) k7 q2) q3, .Assign [.Name nm_esc q4] (.Constant (.bool false) k8 q5) q6, .For target (.Call (.Name nm_enum q7) [.Name nm_addr q8] [] q9) fbody [] q10,
      .If (.Name nm_esc q11) [.Expr (.Yield (some (.Tuple [.Name nm_pos q12, .Constant (.str (Str.ofString "\\")) k9 q13] k3 q14)) q15) q16] [] q17])
    {X : Addr → Prop} (hX : X = fun a => a = c.env.locals ∨ a = s.heap.objs.size + 1 ∨ a = s.heap.objs.size) :
    Seg W.M A (Ru X) (Yu W X (escs x)) (escs x).length s (.func body c.env) (W.M.den (.func body c.env)) [] s := by
  refine seg_func ?_
  conv in (execs body c.env) => rw [hbody]
  have hmX : ∀ a ∈ c.muts, X a := fun a ha => by rw [hmu] at ha; rw [hX]; exact .inl (List.mem_singleton.mp ha)
  have kp0 : KP X s s := ⟨fun _ _ e _ => e, fun _ _ e => e, st.ok.bare, rfl⟩
  refine seg_execs_cons (seg_stmt (wpAny_Assign_Name (wpAny_Constant_int ?_)))
  have x₁ := st.ok.toks (s.toks + 1)
  refine (st.ext x₁).storeZ (P := isInt 0) hwp ⟨_, rfl⟩ fun s₂ z₂ m₂ st₂ => ⟨rfl, ?_⟩
  refine seg_execs_cons (seg_stmt (wpAny_Assign_Name (wpAny_Constant_bool ?_)))
  refine st₂.storeZ (P := isBool false) hwe rfl fun s₃ z₃ m₃ st₃ => ⟨rfl, ?_⟩
  have hz : s₃.heap.objs.size = s.heap.objs.size := z₃.trans z₂
  have kp3 : KP X s s₃ := ((kp0.tr (KP.ext hW x₁)).tr (KP.mv hW hmX hown m₂)).tr (KP.mv hW hmX hown m₃)
  refine seg_execs_cons (seg_For ?_)
  obtain ⟨mg, mb, n1, e1, n2, e2⟩ := genum h st₃.ok.g
  refine Call_ (Calls.Name_function_global st₃.env.kind henum (Calls.loadGlobal_builtin (by rw [st₃.env.glob]; exact n1.keeps st₃.ok.le) e1 (by rw [st₃.env.bi]; exact n2.keeps st₃.ok.le) e2 ?_))
  obtain ⟨v, r, ⟨t, rfl⟩⟩ := st₃.rd nm_addr (isStr x) rfl
  refine PyProof.Rows.callWith_type1 (wpAny_items_cons (wpAny_Name (loadName_rd st₃.env.kind r (wpAny_items_nil (call_enumerate_str fun h' he hs hsz hk => ?_)) (by decide))))
  rw [hz] at he hs ⊢
  refine wpAny_pure (wpAny_pyIter_enum he fun p => ?_)
  have x₄ : Ext W h s₃ h { s₃ with heap := h' } := Ext.of_le st₃.ok hk
  have st₄ := st₃.ext x₄
  have kp4 : KP X s { s₃ with heap := h' } := kp3.tr (KP.ext hW x₄)
  have none_ : ∀ a, s.heap.objs.size ≤ a → h.get? a = none := fun a ha => by
    cases q : h.get? a with
    | none => rfl
    | some o => exact absurd (Heap.lt_size (st.ok.le _ _ q)) (Nat.not_lt.mpr ha)
  have hLlt : c.env.locals < s.heap.objs.size := by obtain ⟨m, q⟩ := st.ns; exact q.lt
  subst hX
  refine gen_loop (p28 := p) hW hmu hown hwp hwc hwe hkp hkc hke hka hco hin (drawsStr s.heap.objs.size x t) (Nat.succ_ne_self _) (Nat.ne_of_gt (Nat.lt_succ_of_lt hLlt)) (Nat.ne_of_gt hLlt) (fun i h ⟨o, e, _, d⟩ => ⟨o, _, e, d⟩)
    (its := escs x) (fun c' => ?_) rfl rfl rfl htarget hfbody (fun A k old s Q E hh he hs hQ => enum_str_end hh he hs hQ) (fun esc p s₀ s₅ h₅ st₅ le₅ kp₅ ⟨pre, hpre⟩ => ?_) x.cps.size 0 false 0 s _ h (by simp) ⟨st₄.sub (.cons rfl (.cons rfl (.cons rfl (.nil _)))), ⟨.none, by simpa using he⟩, hs, none_ _ (Nat.le_succ _), none_ _ (Nat.le_refl _)⟩ kp4 ⟨[], by simp [escs]⟩
  · show (marksOver _ (A.handled, A.handled)).1 = none
    rw [hh]; rfl
  · refine seg_blockNil ?_
    show Seg W.M A _ _ _ s₀ (.func body c.env) ((execs [.If (.Name nm_esc q11) [.Expr (.Yield (some (.Tuple [.Name nm_pos q12, .Constant (.str (Str.ofString "\\")) k9 q13] k3 q14)) q15) q16] [] q17] c.env).wrap (fun f => .pure (.done (.ret (match f with | .ret v => v | _ => .none))))
      (fun e => (leaving c.env e).wrap (fun _ => .raise e) .raise id id) id id) [] s₅
    refine seg_execs_cons (seg_If ?_)
    have ev1 : EvT W (A.over (.func body c.env) []) c (grho x esc p) (.Name nm_esc q11) esc := EvT.val (EvE.name rfl) tru_bool
    refine ev1 h₅ s₅ _ _ st₅ fun h₆ s₆ x₆ => ?_
    have st₆ := st₅.ext x₆
    have kp₆ := kp₅.tr (KP.ext (X := fun a => a = c.env.locals ∨ a = s.heap.objs.size + 1 ∨ a = s.heap.objs.size) hW x₆)
    cases esc with
    | false =>
      simp only [Bool.false_eq_true, if_false]
      refine seg_execs_nil ?_
      exact seg_end (.ok (.ret .none)) ⟨rfl, rfl, kp₆⟩
    | true =>
      simp only [if_true]
      show Seg W.M A _ _ (0 + 1) s₀ (.func body c.env) _ [] s₆
      refine seg_execs_cons (seg_Expr_Yield rfl rfl rfl ?_ hco hin)
      have evl : EvL W (A.over (.func body c.env) []) c (grho x true p) [.Name nm_pos q12, .Constant (.str (Str.ofString "\\")) k9 q13] [isInt p, isStr bsl] := .cons (.name rfl) (.cons .str .nil)
      refine evTup evl st₆ (by show 2 ≤ sizeLine; decide) fun t vs h₇ s₇ x₇ ht he7 al kap hkap => ?_
      have dead : s₀.heap.get? t = none := by
        cases q : s₀.heap.get? t with
        | none => rfl
        | some o =>
          exfalso
          obtain ⟨oe, le, _⟩ := le₅ _ (.inr (.inl rfl))
          obtain ⟨oe', le'⟩ := x₆.live le
          have hte := ht _ _ le'
          by_cases hx : t = c.env.locals ∨ t = s.heap.objs.size + 1 ∨ t = s.heap.objs.size
          · rcases hx with rfl | rfl | rfl
            · obtain ⟨o', q'⟩ := st₆.liveMut (a := c.env.locals) (by rw [hmu]; exact List.mem_singleton.mpr rfl)
              exact Nat.lt_irrefl _ (ht _ _ q')
            · exact Nat.lt_irrefl _ hte
            · exact Nat.lt_irrefl _ (Nat.lt_of_succ_lt hte)
          · exact Nat.lt_irrefl _ (ht t o (kp₆.keep t o q hx))
      refine ⟨⟨t, vs, p, bsl, ?_, rfl, fun hx => (let ⟨o', q', _⟩ := le₅ t hx; let ⟨o'', q''⟩ := x₆.live q'; absurd (ht t o'' q'') (Nat.lt_irrefl _)), dead, he7, al.mono x₇.ok.le⟩, kp₆.tr (KP.ext hW x₇), fun a ha => let ⟨o, q, d⟩ := le₅ a ha; ⟨o, (x₆.tr x₇).keep a o q (by rw [hW]; simp), d⟩, fun s₈ pr => hkap .none s₈ ?_⟩
      · rw [hpre]; simp [escL]
      · obtain ⟨_, h₈, ok₈, _⟩ := pr
        exact seg_end (.ok (.ret .none)) ⟨rfl, rfl, fun _ _ e _ => e, fun _ _ e => e, ok₈.bare, rfl⟩

end Mine

namespace Mine
variable {W : Wd} {A : Around} {c : Cx} {ρ : Rho}

abbrev Wd.free (W : Wd) : Wd := { W with tb := [] }
theorem Ok.free {h : Heap} {s : Shared} (o : Ok W h s) : Ok W.free h s := ⟨o.le, o.g, fun P hP => (by cases hP), fun P hP => (by cases hP), o.bare⟩
theorem St.free {h : Heap} {s : Shared} (st : St W c ρ h s) : St W.free c ρ h s :=
  ⟨st.ok.free, st.env, st.ns, st.cel, st.mu, fun p hp => let ⟨a, b, d, _⟩ := st.own p hp; ⟨a, b, d, by simp⟩, st.nodup, st.rd⟩

theorem bare_setGen {gens : Array GenState} {g : Nat} {x : GenState} (b : AllBare gens) (hx : x.bare = true) : AllBare (gens.setIfInBounds g x) := fun y hy => by
  obtain ⟨i, hi, rfl⟩ := Array.mem_iff_getElem.mp hy
  by_cases e : g = i
  · subst e; simp [hx]
  · have hi' : i < gens.size := by simpa using hi
    rw [Array.getElem_setIfInBounds_ne hi' e]; exact b _ (Array.getElem_mem _)
theorem Ok.setGen {h : Heap} {s : Shared} (o : Ok W h s) {g : Nat} {x : GenState} (hx : x.bare = true) : Ok W h (s.setGen g x) := ⟨o.le, o.g, o.tn, o.tab, bare_setGen o.bare hx⟩

/-- the text of the generator, as to its form -/
structure GenTx (W : Wd) (c : Cx) (body : List Stmt) : Prop where
  mu : c.muts = [c.env.locals]
  own : c.own = []
  kp : c.env.kindOf nm_pos = some .local
  kc : c.env.kindOf nm_ch = some .local
  ke : c.env.kindOf nm_esc = some .local
  ka : c.env.kindOf nm_addr = some .local
  go : ∀ (A : Around) (x : Str) (h : Heap) (s : Shared), A.handled = none → St W.free c [(nm_addr, isStr x)] h s →
    Seg W.M A (Ru fun a => a = c.env.locals ∨ a = s.heap.objs.size + 1 ∨ a = s.heap.objs.size) (Yu W.free (fun a => a = c.env.locals ∨ a = s.heap.objs.size + 1 ∨ a = s.heap.objs.size) (escs x)) (escs x).length s (.func body c.env) (W.M.den (.func body c.env)) [] s

structure GJ (W : Wd) (A : Around) (c : Cx) (body : List Stmt) (x : Str) (a : Addr) (g : Nat) (X : Addr → Prop) (Ps : List VP) (h : Heap) (s : Shared) : Prop where
  gen : h.IsGen a g
  pr : ∀ b, X b → (∃ o, s.heap.get? b = some o ∧ ∀ u, o.data ≠ .cell u) ∧ h.get? b = none ∧ b ∉ W.tb
  ex : (X = (fun b => b = c.env.locals) ∧ Ps = (escs x).map unitP ∧ s.gens[g]? = some (.fresh (.func body c.env)) ∧ ∃ h0 s0, St W.free c [(nm_addr, isStr x)] h0 s0 ∧ s.heap.get? c.env.locals = s0.heap.get? c.env.locals) ∨
    (∃ us gs pre, X c.env.locals ∧ Ps = us.map unitP ∧ escs x = pre ++ us ∧ s.gens[g]? = some gs ∧
      ∀ s'', ((∀ b, X b → s''.heap.get? b = s.heap.get? b) ∧ ∃ h, Ok W.free h s'' ∧ ∀ b, X b → h.get? b = none) → gs.Goes W.M A.in1 (Ru X) (Yu W.free X (escs x)) us.length (.send .none) s'')

theorem setGen_at {s : Shared} {g : Nat} {x y : GenState} (h : s.gens[g]? = some x) : (s.setGen g y).gens[g]? = some y := by
  have := (Array.getElem?_eq_some_iff.mp h).1
  simp [Shared.setGen, this]
theorem setGen_other {s : Shared} {g i : Nat} {y : GenState} (h : i ≠ g) : (s.setGen g y).gens[i]? = s.gens[i]? := by
  simp only [Shared.setGen]
  rw [Array.getElem?_setIfInBounds_ne (Ne.symm h)]

theorem Itr.gen {body : List Stmt} {x : Str} {a : Addr} {g : Nat} (tx : GenTx W c body) (hh : A.handled = none) (hroom : A.depth < recursionLimit) : Itr W A (.ref a) (· = g) (GJ W A c body x a g) where
  step := fun X P Ps h s Q E ok J k => by
    obtain ⟨hgen, pr, ex⟩ := J
    have okr := (ok.free).setGen (g := g) (x := .running) rfl
    -- what a yield gives
    have yld : ∀ (X' : Addr → Prop) (us : List (Int × Str)) (pre : List (Int × Str)) (u : Int × Str) (v : Value) (s₁ : Shared) (gs' : GenState), (∀ b, X' b → X b ∨ s.heap.get? b = none) → (∀ b, X b → X' b) → X' c.env.locals → (s.gens[g]? ).isSome = true →
        escs x = pre ++ u :: us → P = unitP u → Ps = us.map unitP → gs'.bare = true →
        Yu W.free X' (escs x) us.length (s.setGen g .running) v s₁ (fun r' s'' => gs'.Goes W.M A.in1 (Ru X') (Yu W.free X' (escs x)) us.length r' s'') → Q (some v) (s₁.setGen g gs') := by
      intro X' us pre u v s₁ gs' hX1 hX2 hXL hgs hits hP hPs hb hy
      obtain ⟨⟨t, vs, i, y, hit, rfl, hnt, hdead, ht, al⟩, kp, lv, kap⟩ := hy
      have hu : u = (i, y) := by
        rw [hits] at hit
        have : (pre ++ u :: us).length - 1 - us.length = pre.length := by simp
        rw [this] at hit; simpa using hit
      subst hu
      have hdead' : s.heap.get? t = none := hdead
      have hkeep : ∀ b ob, s.heap.get? b = some ob → ¬ X b → (s₁.setGen g gs').heap.get? b = some ob := fun b ob e hb => by
        refine kp.keep b ob e fun q => ?_
        rcases hX1 b q with q | q
        · exact hb q
        · rw [q] at e; cases e
      have hgg : ∀ (i : Nat) z, s.gens[i]? = some z → ¬ (i = g) → (s₁.setGen g gs').gens[i]? = some z := fun i z e hi => by
        rw [setGen_other hi]
        exact kp.gens i z (by rw [setGen_other hi]; exact e)
      have hbare : AllBare (s₁.setGen g gs').gens := bare_setGen kp.bare hb
      obtain ⟨h', xt, hnew, hout⟩ := ok.growN (X := X) (N := X') (Xg := (· = g)) (s' := s₁.setGen g gs') hkeep (fun b hb => ⟨(pr b hb).2.1, (pr b hb).2.2, let ⟨o, e, _⟩ := (pr b hb).1; ⟨o, e⟩⟩) hgg hbare kp.os
      have hgen' : h'.IsGen a g := let ⟨o, n1, n2, e, r⟩ := hgen; ⟨o, n1, n2, xt.le _ _ e, r⟩
      have htb : ∀ b, X' b → b ∉ W.tb := fun b hb hq => by
        rcases hX1 b hb with q | q
        · exact (pr b q).2.2 hq
        · obtain ⟨ps, e, _⟩ := ok.tab b hq; rw [q] at e; cases e
      have hbase : ∀ b, X' b → h'.get? b = none := fun b hb => by
        rcases hX1 b hb with q | q
        · obtain ⟨⟨o, e, _⟩, n, _⟩ := pr b q
          rw [xt.new b o e]; exact n
        · exact hout b q hb
      have htup : h'.get? t = some { cls := .type "tuple", data := .seq vs.toArray } := (hnew t hdead' hnt).trans ht
      refine k _ h' _ X' xt hX1 ?_ ⟨hgen', fun b hb => ⟨lv b hb, hbase b hb, htb b hb⟩, .inr ⟨us, gs', pre ++ [(i, y)], hXL, hPs, by rw [hits]; simp, ?_, fun s'' ⟨q1, q2⟩ => ?_⟩⟩
      · rw [hP]
        refine ⟨t, vs, rfl, ⟨_, htup, rfl, _, rfl⟩, ?_⟩
        match vs, al with
        | [v1, v2], ⟨a1, a2, _⟩ => exact ⟨a1, a2, trivial⟩
      · obtain ⟨z, hz⟩ := Option.isSome_iff_exists.mp hgs
        exact setGen_at (x := .running) (kp.gens g .running (setGen_at hz))
      · exact kap s'' ⟨q1, q2⟩
    rcases ex with ⟨rfl, hPs, hgs, h0, s0, st0, hL⟩ | ⟨us, gs, pre, hXL, hPs, hpre, hgs, go⟩
    · -- the first wake
      have hLn := (pr _ rfl).2.1
      have st1 : St W.free c [(nm_addr, isStr x)] h (s.setGen g .running) := st0.resume (.cons (pur_str _) .nil) tx.mu tx.own (fun y P e => by
        have hm := mem_of_lookup e
        simp only [List.mem_cons, List.not_mem_nil, or_false, Prod.mk.injEq] at hm
        rw [hm.1]; exact tx.ka) hL okr hLn
      cases hE : escs x with
      | nil => rw [hE] at hPs; cases hPs
      | cons u us =>
        have hPP : P = unitP u ∧ Ps = us.map unitP := by rw [hE] at hPs; simpa using hPs
        have sg := tx.go A.in1 x h (s.setGen g .running) hh st1
        refine pyNext_gen (P := fun n s₀ s₁ => n = 0 ∧ KP (fun b => b = c.env.locals ∨ b = s.heap.objs.size + 1 ∨ b = s.heap.objs.size) s₀ s₁) (Y := Yu W.free (fun b => b = c.env.locals ∨ b = s.heap.objs.size + 1 ∨ b = s.heap.objs.size) (escs x)) (n := us.length + 1) hh ((W.glim ok.g).keeps ok.le) hroom
          (let ⟨o, n1, n2, e, r⟩ := hgen; ⟨o, n1, n2, ok.le _ _ e, r⟩) hgs ⟨rfl, ?_⟩ (fun v s₁ gs' hb hy => ?_) (fun s₁ hp => by cases hp.1)
        · have e : (escs x).length = us.length + 1 := by rw [hE]; rfl
          rw [e] at sg; exact sg
        · refine yld (fun b => b = c.env.locals ∨ b = s.heap.objs.size + 1 ∨ b = s.heap.objs.size) us [] u v s₁ gs' ?_ (fun b q => .inl q) (.inl rfl) (by rw [hgs]; rfl) hE hPP.1 hPP.2 hb hy
          rintro b (q | rfl | rfl)
          · exact .inl q
          · exact .inr (Heap.get?_none_of_le (Nat.le_succ _))
          · exact .inr (Heap.get?_none_of_le (Nat.le_refl _))
    · cases us with
      | nil => cases hPs
      | cons u us =>
        have hPP : P = unitP u ∧ Ps = us.map unitP := by simpa using hPs
        refine pyNext_gen (P := fun n s₀ s₁ => n = 0 ∧ KP X s₀ s₁) (Y := Yu W.free X (escs x)) (n := us.length + 1) hh ((W.glim ok.g).keeps ok.le) hroom
          (let ⟨o, n1, n2, e, r⟩ := hgen; ⟨o, n1, n2, ok.le _ _ e, r⟩) hgs (go _ ⟨fun _ _ => rfl, h, okr, fun b hb => (pr b hb).2.1⟩) (fun v s₁ gs' hb hy => ?_) (fun s₁ hp => by cases hp.1)
        exact yld X us pre u v s₁ gs' (fun b q => .inl q) (fun b q => q) hXL (by rw [hgs]; rfl) hpre hPP.1 hPP.2 hb hy
  done := fun X h s Q E ok J k => by
    obtain ⟨hgen, pr, ex⟩ := J
    have okr := (ok.free).setGen (g := g) (x := .running) rfl
    have fin : ∀ (X' : Addr → Prop) (s₁ : Shared) (h₁ : Heap), (∀ b, X' b → X b ∨ s.heap.get? b = none) → KP X' (s.setGen g .running) s₁ → (∀ b o, s₁.heap.get? b = some o → h₁.get? b = some o) → Q none { s₁.setGen g .finished with heap := h₁ } := by
      intro X' s₁ h₁ hX1 kp hk
      have hkeep : ∀ b ob, s.heap.get? b = some ob → ¬ X b → h₁.get? b = some ob := fun b ob e hb => by
        refine hk _ _ (kp.keep b ob e fun q => ?_)
        rcases hX1 b q with q | q
        · exact hb q
        · rw [q] at e; cases e
      obtain ⟨h', xt, _⟩ := ok.growX (X := X) (Xg := (· = g)) (s' := { s₁.setGen g .finished with heap := h₁ }) hkeep (fun b hb => ⟨(pr b hb).2.1, (pr b hb).2.2, let ⟨o, e, _⟩ := (pr b hb).1; ⟨o, e⟩⟩) (fun i z e hi => by
        show (s₁.setGen g .finished).gens[i]? = some z
        rw [setGen_other hi]
        exact kp.gens i z (by rw [setGen_other hi]; exact e)) (bare_setGen kp.bare rfl) kp.os
      exact k h' _ xt
    rcases ex with ⟨rfl, hPs, hgs, h0, s0, st0, hL⟩ | ⟨us, gs, pre, hXL, hPs, hpre, hgs, go⟩
    · have hLn := (pr _ rfl).2.1
      have st1 : St W.free c [(nm_addr, isStr x)] h (s.setGen g .running) := st0.resume (.cons (pur_str _) .nil) tx.mu tx.own (fun y P e => by
        have hm := mem_of_lookup e
        simp only [List.mem_cons, List.not_mem_nil, or_false, Prod.mk.injEq] at hm
        rw [hm.1]; exact tx.ka) hL okr hLn
      have hE : escs x = [] := by
        cases hE : escs x with
        | nil => rfl
        | cons _ _ => rw [hE] at hPs; cases hPs
      have sg := tx.go A.in1 x h (s.setGen g .running) hh st1
      rw [hE] at sg
      refine pyNext_gen (P := fun n s₀ s₁ => n = 0 ∧ KP (fun b => b = c.env.locals ∨ b = s.heap.objs.size + 1 ∨ b = s.heap.objs.size) s₀ s₁) (Y := Yu W.free (fun b => b = c.env.locals ∨ b = s.heap.objs.size + 1 ∨ b = s.heap.objs.size) []) (n := 0) hh ((W.glim ok.g).keeps ok.le) hroom
        (let ⟨o, n1, n2, e, r⟩ := hgen; ⟨o, n1, n2, ok.le _ _ e, r⟩) hgs ⟨rfl, sg⟩ (fun v s₁ gs' hb hy => ?_) (fun s₁ hp h₁ hk => ?_)
      · obtain ⟨⟨t, vs, i, y, hit, _⟩, _⟩ := hy
        simp at hit
      · refine fin _ s₁ h₁ ?_ hp.2 hk
        rintro b (q | rfl | rfl)
        · exact .inl q
        · exact .inr (Heap.get?_none_of_le (Nat.le_succ _))
        · exact .inr (Heap.get?_none_of_le (Nat.le_refl _))
    · cases us with
      | cons _ _ => cases hPs
      | nil =>
        refine pyNext_gen (P := fun n s₀ s₁ => n = 0 ∧ KP X s₀ s₁) (Y := Yu W.free X (escs x)) (n := 0) hh ((W.glim ok.g).keeps ok.le) hroom
          (let ⟨o, n1, n2, e, r⟩ := hgen; ⟨o, n1, n2, ok.le _ _ e, r⟩) hgs (go _ ⟨fun _ _ => rfl, h, okr, fun b hb => (pr b hb).2.1⟩) (fun v s₁ gs' hb hy => ?_) (fun s₁ hp h₁ hk => fin X s₁ h₁ (fun b q => .inl q) hp.2 hk)
        obtain ⟨_, kpx, _, kap⟩ := hy
        refine (kap s₁ ⟨fun _ _ => rfl, h, ⟨fun b o e => kpx.keep b o (ok.le _ _ e) (fun q => ?_), ok.g, fun P hP => (by cases hP), fun P hP => (by cases hP), kpx.bare⟩, fun b hb => (pr b hb).2.1⟩).elim
        rw [(pr b q).2.1] at e; cases e
  frame := fun X Ps h s h' s' ok ok' J f => by
    obtain ⟨hgen, pr, ex⟩ := J
    refine ⟨let ⟨o, n1, n2, e, r⟩ := hgen; ⟨o, n1, n2, f.le _ _ e, r⟩, fun b hb => ?_, ?_⟩
    · obtain ⟨⟨o, e, d⟩, n, t⟩ := pr b hb
      exact ⟨⟨o, (f.at_ b hb).trans e, d⟩, by rw [f.base b hb]; exact n, t⟩
    · rcases ex with ⟨rfl, hP, hg, h0, s0, st, hL⟩ | ⟨us, gs, pre, hXL, hP, hpre, hg, go⟩
      · exact .inl ⟨rfl, hP, f.gens _ _ hg, h0, s0, st, (f.at_ _ rfl).trans hL⟩
      · exact .inr ⟨us, gs, pre, hXL, hP, hpre, f.gens _ _ hg, fun s'' ⟨q1, q2⟩ => go s'' ⟨fun b hb => (q1 b hb).trans (f.at_ b hb), q2⟩⟩
  self := fun X Ps h s Q E ok J q => by
    obtain ⟨o, n1, n2, e, r⟩ := J.gen
    exact wpAny_pyIter_gen (g := g) ⟨o, n1, n2, ok.le _ _ e, r⟩ q
  lot := fun X Ps h s t v Q E ok J q => by
    obtain ⟨o, n1, n2, e, hc, _⟩ := J.gen
    exact wpAny_lot (ok.le _ _ e) hc (by decide) q
  priv := fun X Ps h s b ok J hb => J.pr b hb

end Mine

namespace Mine
variable {W : Wd} {A : Around} {c : Cx} {ρ : Rho}

/-! the call that makes the generator -/
theorem call_gen {fa : Addr} {o : Obj} {fd : FuncData} {body : List Stmt} {x : Str} {h : Heap} {s : Shared} {v : Value} {Q : Value → Shared → Prop} {E : Value → Shared → Prop}
    (ok : Ok W h s) (ho : h.get? fa = some o) (hd : o.data = .func fd) (hcd : h.CodeRec fd.code fd.qualname) (hg : fd.globals = mainGlobals) (hbi : fd.builtins = builtinsNs) (hco : fd.scope.isCoroutine = false) (hge : fd.scope.isGenerator = true)
    (hk : fd.scope.kind = .function) (hb : fd.body = .stmts body) (hcl : fd.closure = []) (hun : ∀ x, fd.scope.names.lookup x = some .free → ∀ k, (x, k) ∈ fd.scope.names → k ≠ .cell)
    (hroom : A.depth < recursionLimit) (bind : ∀ v, BindsTo s fd ⟨[v], []⟩ [(nm_addr, v)]) (hw : ∀ L, Wr (fCx fd fa L) nm_addr) (hv : (isStr x).p h v) (tx : ∀ L, GenTx W (fCx fd fa L) body)
    (k : ∀ a L g h' s', Ext W h s h' s' → s.heap.get? L = none → s.gens[g]? = none → (∀ A', GJ W A' (fCx fd fa L) body x a g (fun b => b = L) ((escs x).map unitP) h' s') → Q (.ref a) s') :
    wpAny W.M A (call (.ref fa) [v]) Q E s := by
  refine wpAny_call (codeAny_call_generator hroom (ok.le _ _ ho) hd hco hge hb (hcd.keeps ok.le) (bind v _ _ _ _ ?_))
  rw [hg, hbi, hcl]
  refine wpAny_newFrame (ρb := [(nm_addr, isStr x)]) (ρf := []) ok hk ⟨rfl, hv, trivial⟩ (fun x P e => by cases e) (fun p hp => by cases hp) List.Pairwise.nil hun (fun p hp => ?_) (fun o e => by cases e) fun s₁ x₁ st₁ => ?_
  · rw [List.mem_singleton.mp hp]; have := hw s.heap.objs.size; simp only [fCx, hcl] at this; exact this
  · refine ⟨(W.glim ok.g).keeps x₁.ok.le, ?_⟩
    have st₁' : St W (fCx fd fa s.heap.objs.size) [(nm_addr, isStr x)] h s₁ := by simp only [fCx, hcl]; exact st₁
    have hLd : s.heap.get? s.heap.objs.size = none := Heap.get?_none_of_le (Nat.le_refl _)
    have hgd : s.gens[s₁.gens.size]? = none := by
      cases q : s.gens[s₁.gens.size]? with
      | none => rfl
      | some z => have := x₁.gens _ _ q; simp at this
    obtain ⟨h', x₂, hnew⟩ := x₁.ok.grow (s' := { s₁ with gens := s₁.gens.push (.fresh (.func body (fCx fd fa s.heap.objs.size).env)), toks := s₁.toks + 1 + 1, heap := s₁.heap.push { cls := .type "generator", data := .fields #[.int s₁.gens.size 0, .str fd.name s₁.toks, .str fd.qualname (s₁.toks + 1)] } })
      (fun _ _ e => Heap.get?_push_of_some _ e) (fun i z e => by
        have := (Array.getElem?_eq_some_iff.mp e).1
        show (s₁.gens.push _)[i]? = some z
        rw [Array.getElem?_push_lt this]; rw [Array.getElem?_eq_getElem this] at e; exact e) (x₁.ok.bare.push rfl) rfl
    have hgo : h'.get? s₁.heap.objs.size = some { cls := .type "generator", data := .fields #[.int s₁.gens.size 0, .str fd.name s₁.toks, .str fd.qualname (s₁.toks + 1)] } :=
      (hnew _ (Heap.get?_none_of_le (Nat.le_refl _))).trans (Heap.get?_push_size _ rfl)
    obtain ⟨m, hns⟩ := st₁'.ns
    have hLe : (fCx fd fa s.heap.objs.size).env.locals = s.heap.objs.size := rfl
    have hnsL : s₁.heap.Ns s.heap.objs.size m := hns
    obtain ⟨oL, es, ep, eL, dL, rL⟩ := id hnsL
    have heL : s₁.heap.get? s.heap.objs.size = some oL := eL
    have henv : (nEnv fd.scope s.heap.objs.size [] (fd.qualname ++ Str.ofString ".<locals>.") (some fa) fd.code none) = (fCx fd fa s.heap.objs.size).env := by simp only [fCx, hcl]
    show Q _ _
    rw [henv]
    refine k _ s.heap.objs.size s₁.gens.size h' _ (x₁.tr x₂) hLd hgd fun A' => ⟨⟨_, _, _, hgo, rfl, rfl, rfl⟩, ?_, .inl ⟨rfl, rfl, ?_, h, s₁, st₁'.free, ?_⟩⟩
    · rintro b rfl
      refine ⟨⟨oL, Heap.get?_push_of_some _ heL, fun u e => by rw [dL] at e; cases e⟩, ?_, st₁'.mutNotTab (List.mem_cons_self ..)⟩
      rw [x₂.new _ _ heL]; exact st₁'.mu _ (List.mem_cons_self ..)
    · exact Array.getElem?_push_size
    · show (s₁.heap.push _).get? s.heap.objs.size = s₁.heap.get? s.heap.objs.size
      rw [heL]; exact Heap.get?_push_of_some _ heL

structure GenFn (W : Wd) (x : Str) (fa : Addr) (fd : FuncData) (body : List Stmt) : Prop where
  gl : GlV W x (.ref fa)
  ob : ∀ h, W.G h → ∃ o, h.get? fa = some o ∧ o.data = .func fd ∧ h.CodeRec fd.code fd.qualname
  g : fd.globals = mainGlobals
  bi : fd.builtins = builtinsNs
  co : fd.scope.isCoroutine = false
  ge : fd.scope.isGenerator = true
  k : fd.scope.kind = .function
  b : fd.body = .stmts body
  cl : fd.closure = []
  un : ∀ x, fd.scope.names.lookup x = some .free → ∀ k, (x, k) ∈ fd.scope.names → k ≠ .cell
  bind : ∀ s v, BindsTo s fd ⟨[v], []⟩ [(nm_addr, v)]
  w : ∀ L, Wr (fCx fd fa L) nm_addr
  tx : ∀ L, GenTx W (fCx fd fa L) body

/-- the value of such a call, told for one use -/
theorem evGen {fx : Str} {fa : Addr} {fd : FuncData} {body : List Stmt} {np pos : Pos} {arg : Expr} {x : Str} {h : Heap} {s : Shared} {Q : Value → Shared → Prop} {E : Value → Shared → Prop} (G : GenFn W fx fa fd body) (rm : Rm A 1) (hx : c.env.kindOf fx = some .globalImplicit) (ev : EvE W A c ρ arg (isStr x)) (st : St W c ρ h s)
    (k : ∀ a L g h' s', Ext W h s h' s' → s.heap.get? L = none → s.gens[g]? = none → (∀ A', GJ W A' (fCx fd fa L) body x a g (fun b => b = L) ((escs x).map unitP) h' s') → Q (.ref a) s')
    (hd : (fx == ("__debug__" : Str)) = false := by decide) (he : starEach [arg] c.env = [(false, eval arg c.env)] := by rfl) : wpAny W.M A (eval (.Call (.Name fx np) [arg] [] pos) c.env) Q E s := by
  have evf : EvE W A c ρ (.Name fx np) (isVal (.ref fa)) := EvE.glob G.gl hx hd
  refine Call_ (evf h s _ _ st fun v h₁ s₁ x₁ p₁ => ?_)
  obtain rfl : v = _ := p₁
  have hf : isFn fa h₁ := let ⟨o, e, d, _⟩ := G.ob h₁ x₁.ok.g; ⟨o, fd, e, d⟩
  refine callWith_F (first := []) (st.ext x₁) hf (EvL.cons ev .nil he) (fun vs h₂ s₂ x₂ p₂ => ?_) (.inr ⟨arg, [], rfl, he⟩)
  match vs, p₂ with
  | [v], ⟨p, _⟩ =>
    obtain ⟨o, e, d, cd⟩ := G.ob h₂ x₂.ok.g
    refine call_gen x₂.ok e d cd G.g G.bi G.co G.ge G.k G.b G.cl G.un (by have := rm.dp; omega) (G.bind s₂) G.w p G.tx fun a L g h' s' x₃ hL hg gj => k a L g h' s' ((x₁.tr x₂).tr x₃) ?_ ?_ gj
    · cases q : s.heap.get? L with
      | none => rfl
      | some o => obtain ⟨o', q'⟩ := (x₁.tr x₂).live q; rw [hL] at q'; cases q'
    · cases q : s.gens[g]? with
      | none => rfl
      | some z => have := (x₁.tr x₂).gens _ _ q; rw [hg] at this; cases this

theorem EvI.gen {fx : Str} {fa : Addr} {fd : FuncData} {body : List Stmt} {np pos : Pos} {arg : Expr} {x : Str} (G : GenFn W fx fa fd body) (rm : Rm A 1) (hx : c.env.kindOf fx = some .globalImplicit) (ev : EvE W A c ρ arg (isStr x))
    (hd : (fx == ("__debug__" : Str)) = false := by decide) (he : starEach [arg] c.env = [(false, eval arg c.env)] := by rfl) : EvI W A c ρ (.Call (.Name fx np) [arg] [] pos) ((escs x).map unitP) := fun h s Q E st k =>
  evGen G rm hx ev st (fun a L g h' s' x₁ hL hg gj => by
    refine wpAny_pure ((Itr.gen (G.tx L) rm.hd (by have := rm.dp; omega)).self _ _ h' s' _ _ x₁.ok (gj A) (k _ _ (· = g) _ h' s' x₁ (Itr.gen (G.tx L) rm.hd (by have := rm.dp; omega)) (gj A) ?_ ?_))
    · rintro b rfl; exact hL
    · rintro i rfl; exact hg) hd he


def unOk (names : List (Str × NameKind)) : Bool := names.all fun p => p.2 != .free || names.all fun q => q.1 != p.1 || q.2 != .cell
theorem un_of {names : List (Str × NameKind)} (h : unOk names = true) : ∀ x, names.lookup x = some .free → ∀ k, (x, k) ∈ names → k ≠ .cell := fun x hx k hk e => by
  have h1 := List.all_eq_true.mp h _ (mem_of_lookup hx)
  simp only [bne_self_eq_false, Bool.false_or] at h1
  have h2 := List.all_eq_true.mp h1 _ hk
  simp [e] at h2

end Mine

namespace Mine
variable {W : Wd} {A : Around} {c : Cx} {ρ : Rho}

theorem Sub.under {p : Str × VP} {a b : Rho} (h : Sub a b) : Sub (p :: a) (p :: b) := fun x P e => by
  obtain ⟨y, Q⟩ := p
  rw [List.lookup_cons] at e ⊢
  cases hb : x == y with
  | true => rw [hb] at e; exact e
  | false => rw [hb] at e; exact h x P e
theorem Sub.tr {a b d : Rho} (h : Sub a b) (g : Sub b d) : Sub a d := fun x P e => g x P (h x P e)

theorem op_notInS {x : Str} {ch : Nat} {y : Str} (hy : y = ⟨#[ch]⟩) : OpB W A (compareOp .NotIn) (isStr y) (isStr x) (isBool (!decide (ch ∈ x.cps.toList))) := by
  subst hy
  rintro h s _ _ Q E ok ⟨t, rfl⟩ ⟨u, rfl⟩ k
  refine PySem.P.notIn_str ?_
  rw [StrLaws.found_one]
  exact k _ h _ (Ext.rf ok) rfl

/-! whether the brackets close each other -/
def lpar : Str := Str.ofString "("
def rpar : Str := Str.ofString ")"
def chkL : List (Int × Str) → Int → Bool
  | [], n => decide (n = 0)
  | (_, ch) :: r, n => if ch = lpar then chkL r (n + 1) else if ch = rpar then (if n - 1 < 0 then false else chkL r (n - 1)) else chkL r n
def chk (x : Str) : Bool := chkL (escs x) 0

theorem unit_at {us : List (Int × Str)} {i : Nat} {P : VP} (h : (us.map unitP)[i]? = some P) : ∃ u, us[i]? = some u ∧ P = unitP u := by
  rw [List.getElem?_map] at h
  obtain ⟨u, hu, rfl⟩ := Option.map_eq_some_iff.mp h
  exact ⟨u, hu, rfl⟩
theorem drop_at {α : Type} {us : List α} {i : Nat} {u : α} (h : us[i]? = some u) : us.drop i = u :: us.drop (i + 1) := by
  obtain ⟨hi, rfl⟩ := List.getElem?_eq_some_iff.mp h
  exact List.drop_eq_getElem_cons hi

end Mine

namespace Mine
variable {W : Wd} {A : Around} {c : Cx} {ρ : Rho}

theorem All2.strs {h : Heap} : ∀ {ys : List Str} {vs : List Value}, All2 h (ys.map isStr) vs → StrsAre vs ys
  | [], [], _ => .nil
  | y :: ys, v :: vs, ⟨⟨t, e⟩, r⟩ => by subst e; exact .cons y t (All2.strs r)
  | [], _ :: _, x => x.elim
  | _ :: _, [], x => x.elim
theorem All2.ints {h : Heap} : ∀ {ns : List Int} {vs : List Value}, All2 h (ns.map isInt) vs → IntsAre vs ns
  | [], [], _ => .nil
  | y :: ys, v :: vs, ⟨⟨t, e⟩, r⟩ => by subst e; exact .cons y t (All2.ints r)
  | [], _ :: _, x => x.elim
  | _ :: _, [], x => x.elim

/-! strings -/
theorem mulOk {x : Str} {n : Int} (h0 : -1000 ≤ n) (h1 : n ≤ 1000) (hx : x.length ≤ 1000) : MulOk x n := by
  refine ⟨by simp; omega, fun a _ => ?_, fun a _ => ?_⟩
  · have : (1000 : Int) ≤ (2 ^ 63 - 1) / n := by
      rw [Int.le_ediv_iff_mul_le (by omega)]; omega
    omega
  · have : x.length * n.toNat ≤ 1000 * 1000 := Nat.mul_le_mul hx (by omega)
    exact decide_eq_false (by simp only [sizeLine]; omega)
theorem op_muls {x : Str} {n : Int} (hok : MulOk x n) : OpB W A (binaryOp .Mult) (isStr x) (isInt n) (isStr (Txt.mul x n)) := by
  rintro h s _ _ Q E ok ⟨t, rfl⟩ ⟨u, rfl⟩ k
  exact PySem.SB.mul hok fun t' tk => k _ h _ (ok.toks _) ⟨_, rfl⟩
theorem call_min2 {a b : Int} (hh : A.handled = none) : CallS W A (.builtin "min") [isInt a, isInt b] (isInt (if b < a then b else a)) := fun h s vs Q E ok al k => by
  match vs, al with
  | [v, v'], ⟨⟨t, e⟩, ⟨t', e'⟩, _⟩ =>
    subst e e'
    refine min_two_ints hh fun h' tk hk => ?_
    obtain ⟨h'', x, _⟩ := ok.heap (t := tk) hk
    refine k _ h'' _ x ?_
    split
    · exact ⟨_, rfl⟩
    · exact ⟨_, rfl⟩
theorem call_lenS {x : Str} (hf : x.length < 1000000) : CallS W A (.builtin "len") [isStr x] (isInt x.length) := fun h s vs Q E ok al k => by
  match vs, al with
  | [v], ⟨⟨t, e⟩, _⟩ => subst e; exact PyProof.Rows.len_str (by omega) (k _ h _ (ok.toks _) ⟨_, rfl⟩)
theorem call_lenL {Ps : List VP} (hf : Ps.length < 1000000) : CallS W A (.builtin "len") [isLst Ps] (isInt Ps.length) := fun h s vs Q E ok al k => by
  match vs, al with
  | [v], ⟨⟨a, ws, n, e, g, r⟩, _⟩ =>
    subst e
    have hl : s.heap.IsList a ws.toArray := ⟨_, ok.le _ _ g, rfl, n, rfl⟩
    refine Calls.call_len_list hl (by simp [r.len]; omega) (k _ h _ (ok.toks _) ⟨s.toks + 1, ?_⟩)
    simp [r.len]

/-! subscripts -/
theorem isLst.at {Ps : List VP} {h : Heap} {v : Value} {s : Shared} (ok : Ok W h s) (p : (isLst Ps).p h v) : ∃ a vs, v = .ref a ∧ s.heap.IsList a vs.toArray ∧ All2 h Ps vs :=
  let ⟨a, vs, n, e, g, r⟩ := p; ⟨a, vs, e, ⟨_, ok.le _ _ g, rfl, n, rfl⟩, r⟩
theorem All2.get {h : Heap} {Ps : List VP} {vs : List Value} (al : All2 h Ps vs) {i : Nat} {P : VP} (e : Ps[i]? = some P) : ∃ v, vs[i]? = some v ∧ P.p h v := by
  have hi := (List.getElem?_eq_some_iff.mp e).1
  have hv : i < vs.length := by rw [al.len]; exact hi
  exact ⟨vs[i], by simp [hv], al.at e (by simp [hv])⟩
theorem seqIndex_of {i : Int} {n j : Nat} (h : i = j ∨ i = (j : Int) - n) (hj : j < n) : seqIndex? i n = some j := by
  rcases h with rfl | rfl
  · rw [PySem.seqIndex_of (by omega) (by omega)]; simp
  · rw [PySem.seqIndex_neg (by omega) (by omega)]; congr 1; omega

theorem get_list {M : Model} (hM : M = W.M) {h : Heap} {s : Shared} {a : Addr} {vs : List Value} {Ps : List VP} {i : Int} {u : Tok} {j : Nat} {P : VP} {Q : Value → Shared → Prop} {E : Value → Shared → Prop} (hl : s.heap.IsList a vs.toArray) (al : All2 h Ps vs)
    (hi : i = j ∨ i = (j : Int) - Ps.length) (hP : Ps[j]? = some P) (hj : j < 1000000) (hn : Ps.length < 1000000) (k : ∀ v, P.p h v → Q v s) : wpAny M A (getItem (.ref a) (.int i u)) Q E s := by
  subst hM
  obtain ⟨v, hv, p⟩ := al.get hP
  have hlt := (List.getElem?_eq_some_iff.mp hP).1
  rcases hi with rfl | rfl
  · exact wpAny_getItem_list hl (by omega) (by omega) (x := v) (by simpa using hv) (k v p)
  · refine wpAny_getItem_list_neg hl (by omega) (by simp only [List.size_toArray, al.len]; omega) (by omega) (x := v) ?_ (k v p)
    rw [show ((j : Int) - Ps.length + (vs.toArray.size : Int)).toNat = j by simp only [List.size_toArray, al.len]; omega]
    simpa using hv

theorem tail_of {value slice : Expr} {o : Value} {i : Value} {T id : String} {Q : Value → Shared → Prop} {E : Value → Shared → Prop} {s : Shared} (hT : s.TypeIs o T) (hl : typeLookup (.type T) "__getitem__" = pure (some (.builtin id)))
    (hs : subscripted slice false o i = operate [o, i] (getItem o i)) (g : wpAny W.M A (getItem o i) Q E s) : wpAny W.M A (subscriptTail value slice o i) Q E s := tail_any hT hl g hs

theorem EvE.at {value slice : Expr} {pos : Pos} {Ps : List VP} {P : VP} {i : Int} {j : Nat} (a : EvE W A c ρ value (isLst Ps)) (b : EvE W A c ρ slice (isInt i)) (hi : i = j ∨ i = (j : Int) - Ps.length) (hP : Ps[j]? = some P) (hj : j < 1000000 := by omega) (hn : Ps.length < 1000000 := by omega)
    (hs : ∀ o i, subscripted slice false o i = operate [o, i] (getItem o i) := by intro _ _; rfl) : EvE W A c ρ (.Subscript value slice pos) P := fun h s Q E st k =>
  Subscript_ (a h s _ _ st fun v₁ h₁ s₁ x₁ p₁ => b h₁ s₁ _ _ (st.ext x₁) fun v₂ h₂ s₂ x₂ p₂ => by
    obtain ⟨l, vs, rfl, hl, al⟩ := isLst.at x₂.ok ((isLst Ps).mono x₂.le p₁)
    obtain ⟨t, rfl⟩ := p₂
    exact tail_of hl.typeIs slot_list_getitem.lookup (hs _ _) (get_list (W := W) rfl hl al hi hP hj hn fun v p => k v h₂ s₂ (x₁.tr x₂) p))
theorem EvE.atT {value slice : Expr} {pos : Pos} {Ps : List VP} {P : VP} {i : Int} {j : Nat} (a : EvE W A c ρ value (isTup Ps)) (b : EvE W A c ρ slice (isInt i)) (hi : i = j ∨ i = (j : Int) - Ps.length) (hP : Ps[j]? = some P) (hj : j < 1000000 := by decide) (hn : Ps.length < 1000000 := by decide)
    (hs : ∀ o i, subscripted slice false o i = operate [o, i] (getItem o i) := by intro _ _; rfl) : EvE W A c ρ (.Subscript value slice pos) P := fun h s Q E st k =>
  Subscript_ (a h s _ _ st fun v₁ h₁ s₁ x₁ p₁ => b h₁ s₁ _ _ (st.ext x₁) fun v₂ h₂ s₂ x₂ p₂ => by
    obtain ⟨l, vs, rfl, hl, al⟩ := (isTup Ps).mono x₂.le p₁
    obtain ⟨t, rfl⟩ := p₂
    have hl' : IsTup s₂.heap l vs.toArray := hl.keeps x₂.ok.le
    obtain ⟨v, hv, p⟩ := al.get hP
    have hlt := (List.getElem?_eq_some_iff.mp hP).1
    refine tail_of hl'.typeIs slot_tuple_getitem.lookup (hs _ _) (PyProof.Rows.getItem_tuple hl' (by omega) (by omega) (j := j) (seqIndex_of ?_ ?_) (x := v) (by simpa using hv) (k v h₂ s₂ (x₁.tr x₂) p))
    · simp only [List.size_toArray, al.len]; exact hi
    · simp only [List.size_toArray, al.len]; exact hlt)

/-! slices of lists -/
def pickL {α : Type} (xs : List α) (lo hi st : Option Int) : List α :=
  (sliceRange (sliceBounds lo hi st xs.length).1 (sliceBounds lo hi st xs.length).2.1 (sliceBounds lo hi st xs.length).2.2).filterMap (xs[·]?)
theorem pickL_map {α β : Type} (f : α → β) (xs : List α) (lo hi st : Option Int) : pickL (xs.map f) lo hi st = (pickL xs lo hi st).map f := by
  unfold pickL
  rw [List.length_map, List.map_filterMap]
  congr 1
  funext i
  simp
theorem All2.pick {h : Heap} {Ps : List VP} {vs : List Value} (al : All2 h Ps vs) : ∀ (is : List Nat), All2 h (is.filterMap (Ps[·]?)) (is.filterMap (vs[·]?))
  | [] => trivial
  | i :: is => by
    cases e : Ps[i]? with
    | none =>
      have : vs[i]? = none := by
        rw [List.getElem?_eq_none_iff] at e ⊢; rw [al.len]; exact e
      simp only [List.filterMap_cons, e, this]; exact al.pick is
    | some P =>
      obtain ⟨v, hv, p⟩ := al.get e
      simp only [List.filterMap_cons, e, hv]; exact ⟨p, al.pick is⟩
theorem All2.pickL {h : Heap} {Ps : List VP} {vs : List Value} (al : All2 h Ps vs) (lo hi st : Option Int) : ∃ ws, slicePick vs.toArray lo hi st = ws.toArray ∧ All2 h (Mine.pickL Ps lo hi st) ws := by
  refine ⟨_, rfl, ?_⟩
  have := al.pick (sliceRange (sliceBounds lo hi st Ps.length).1 (sliceBounds lo hi st Ps.length).2.1 (sliceBounds lo hi st Ps.length).2.2)
  unfold Mine.pickL
  simp only [List.size_toArray, al.len, List.getElem?_toArray]
  exact this
theorem pickL_upto {α : Type} (xs : List α) (b : Nat) : pickL xs none (some b) none = xs.take b := by
  unfold pickL
  have e : sliceBounds none (some (b : Int)) none xs.length = (((0 : Nat) : Int), ((min b xs.length : Nat) : Int), 1) := by
    simp only [sliceBounds, Option.getD_none]
    have h2 : ¬ ((b : Int) < 0) := by omega
    simp only [h2, if_false, show (1 : Int) > 0 by decide, if_true]
    congr 1
    congr 1; omega
  rw [e]
  have := pick_run xs.toArray 0 (min b xs.length - 0)
  simp only [sliceRange_one]
  simp only [List.getElem?_toArray] at this
  rw [this]; simp
theorem pickL_from {α : Type} (xs : List α) (a : Nat) : pickL xs (some a) none none = xs.drop a := by
  unfold pickL
  have e : sliceBounds (some (a : Int)) none none xs.length = (((min a xs.length : Nat) : Int), (xs.length : Int), 1) := by
    simp only [sliceBounds, Option.getD_none]
    have h1 : ¬ ((a : Int) < 0) := by omega
    simp only [h1, if_false, show (1 : Int) > 0 by decide, if_true]
    congr 1
    omega
  rw [e]
  have := pick_run xs.toArray (min a xs.length) (xs.length - min a xs.length)
  simp only [sliceRange_one]
  simp only [List.getElem?_toArray] at this
  rw [this]
  rw [List.take_of_length_le (by simp)]
  by_cases h : a ≤ xs.length
  · rw [Nat.min_eq_left h]
  · rw [Nat.min_eq_right (by omega)]; simp [List.drop_eq_nil_of_le (show xs.length ≤ a by omega)]

def EvP (W : Wd) (A : Around) (c : Cx) (ρ : Rho) (x : Option Expr) (o : Option Int) : Prop := (x = none ∧ o = none) ∨ ∃ e i, x = some e ∧ o = some i ∧ EvE W A c ρ e (isInt i)
theorem EvP.no : EvP W A c ρ none none := .inl ⟨rfl, rfl⟩
theorem EvP.of {e : Expr} {i : Int} (ev : EvE W A c ρ e (isInt i)) : EvP W A c ρ (some e) (some i) := .inr ⟨_, _, rfl, rfl, ev⟩
theorem EvP.go {x : Option Expr} {o : Option Int} (ev : EvP W A c ρ x o) {h : Heap} {s : Shared} {Q : Value → Shared → Prop} {E : Value → Shared → Prop} (st : St W c ρ h s)
    (k : ∀ v h' s', Ext W h s h' s' → IsPart v o → Q v s') : wpAny W.M A (evalPart x c.env) Q E s := by
  rcases ev with ⟨rfl, rfl⟩ | ⟨e, i, rfl, rfl, ev⟩
  · rw [evalPart_none]; exact wpAny_pure (k _ h s (Ext.rf st.ok) .none)
  · rw [evalPart_some]; exact ev h s _ _ st fun v h' s' x p => by obtain ⟨t, rfl⟩ := p; exact k _ h' s' x (.int i t)

theorem slice_obj {lower upper step : Option Expr} {p : Pos} {lo hi sp : Option Int} (a : EvP W A c ρ lower lo) (b : EvP W A c ρ upper hi) (d : EvP W A c ρ step sp) {h : Heap} {s : Shared} {Q : Value → Shared → Prop} {E : Value → Shared → Prop} (st : St W c ρ h s)
    (k : ∀ sl vl vu vs h' s', Ext W h s h' s' → s'.heap.IsSliceOf sl vl vu vs → IsPart vl lo → IsPart vu hi → IsPart vs sp → Q (.ref sl) s') : wpAny W.M A (eval (.Slice lower upper step p) c.env) Q E s :=
  wpAny_Slice (a.go st fun v₁ h₁ s₁ x₁ p₁ => b.go (st.ext x₁) fun v₂ h₂ s₂ x₂ p₂ => d.go (st.ext (x₁.tr x₂)) fun v₃ h₃ s₃ x₃ p₃ => by
    have x := (x₁.tr x₂).tr x₃
    exact k _ v₁ v₂ v₃ h₃ _ (x.tr (x.ok.pushOut { cls := .type "slice", data := .fields #[v₁, v₂, v₃] } s₃.toks)) ⟨_, Heap.get?_push_size _ rfl, rfl, rfl⟩ p₁ p₂ p₃)

theorem EvE.slc {value : Expr} {lower upper : Option Expr} {p pos : Pos} {Ps : List VP} {lo hi : Option Int} (v : EvE W A c ρ value (isLst Ps)) (a : EvP W A c ρ lower lo) (b : EvP W A c ρ upper hi) (hn : Ps.length < 1000000) :
    EvE W A c ρ (.Subscript value (.Slice lower upper Option.none p) pos) (isLst (pickL Ps lo hi Option.none)) := fun h s Q E st k =>
  Subscript_ (v h s _ _ st fun v₁ h₁ s₁ x₁ p₁ => slice_obj a b EvP.no (st.ext x₁) fun sl vl vu vs h₂ s₂ x₂ hsl pl pu ps => by
    obtain ⟨l, ws, rfl, hl, al⟩ := isLst.at x₂.ok ((isLst Ps).mono x₂.le p₁)
    refine tail_any hl.typeIs slot_list_getitem.lookup (wpAny_getItem_list_slice hl hsl pl pu ps (by simp) ?_ (by simp only [List.size_toArray, al.len, sizeLine]; omega)) rfl
    obtain ⟨us, e, al'⟩ := al.pickL lo hi Option.none
    obtain ⟨h', x, g⟩ := x₂.ok.push { cls := .type "list", data := .seq (slicePick ws.toArray lo hi Option.none) } (t := s₂.toks)
    exact k _ h' _ ((x₁.tr x₂).tr x) ⟨_, us, 0, rfl, by rw [g, e], al'.mono x.le⟩)
theorem EvE.slc3 {value sp : Expr} {lower upper : Option Expr} {p pos : Pos} {Ps : List VP} {lo hi : Option Int} {d : Int} (v : EvE W A c ρ value (isLst Ps)) (a : EvP W A c ρ lower lo) (b : EvP W A c ρ upper hi) (g : EvE W A c ρ sp (isInt d)) (hd : d ≠ 0) (hn : Ps.length < 1000000) :
    EvE W A c ρ (.Subscript value (.Slice lower upper (some sp) p) pos) (isLst (pickL Ps lo hi (some d))) := fun h s Q E st k =>
  Subscript_ (v h s _ _ st fun v₁ h₁ s₁ x₁ p₁ => slice_obj a b (EvP.of g) (st.ext x₁) fun sl vl vu vs h₂ s₂ x₂ hsl pl pu ps => by
    obtain ⟨l, ws, rfl, hl, al⟩ := isLst.at x₂.ok ((isLst Ps).mono x₂.le p₁)
    refine tail_any hl.typeIs slot_list_getitem.lookup (wpAny_getItem_list_slice hl hsl pl pu ps (by simpa using hd) ?_ (by simp only [List.size_toArray, al.len, sizeLine]; omega)) rfl
    obtain ⟨us, e, al'⟩ := al.pickL lo hi (some d)
    obtain ⟨h', x, g⟩ := x₂.ok.push { cls := .type "list", data := .seq (slicePick ws.toArray lo hi (some d)) } (t := s₂.toks)
    exact k _ h' _ ((x₁.tr x₂).tr x) ⟨_, us, 0, rfl, by rw [g, e], al'.mono x.le⟩)

/-! sums and products of lists -/
theorem op_addL {Ps Rs : List VP} (hn : Ps.length + Rs.length < 1000000) : OpB W A (binaryOp .Add) (isLst Ps) (isLst Rs) (isLst (Ps ++ Rs)) := by
  rintro h s _ _ Q E ok ⟨a, vs, n, rfl, g, al⟩ ⟨b, ws, m, rfl, g', al'⟩ k
  refine concat_meets ⟨_, ok.le _ _ g, rfl⟩ ⟨_, ok.le _ _ g', rfl⟩ noFill_list_add seq_list_add PySem.F.slot_list_add PySem.F.entry_list_add (PySem.F.args_list_add_2 _ _) (list_addW a b vs.toArray ws.toArray n m none none #[] #[] (by simp only [List.size_toArray, al.len, al'.len, sizeLine]; omega)) ⟨ok.le _ _ g, ok.le _ _ g', ?_⟩
  obtain ⟨h', x, e⟩ := ok.push { cls := .type "list", data := .seq (vs.toArray ++ ws.toArray) } (t := s.toks)
  exact k _ h' _ x ⟨_, vs ++ ws, 0, rfl, by rw [e]; simp, (al.app al').mono x.le⟩
theorem All2.rep {h : Heap} {Ps : List VP} {vs : List Value} (al : All2 h Ps vs) : ∀ n : Nat, All2 h (List.replicate n Ps).flatten (List.replicate n vs).flatten
  | 0 => trivial
  | n + 1 => by rw [List.replicate_succ, List.replicate_succ, List.flatten_cons, List.flatten_cons]; exact al.app (al.rep n)
theorem op_mulL {Ps : List VP} {i : Int} (h0 : -1000 ≤ i) (h1 : i ≤ 1000) (hn : Ps.length ≤ 1000) : OpB W A (binaryOp .Mult) (isLst Ps) (isInt i) (isLst (List.replicate i.toNat Ps).flatten) := by
  rintro h s _ _ Q E ok ⟨a, vs, n, rfl, g, al⟩ ⟨u, rfl⟩ k
  have hsz : vs.toArray.size * i.toNat ≤ 1000 * 1000 := Nat.mul_le_mul (by simp [al.len, hn]) (by omega)
  refine wpAny_binaryOp_repeat_ref (T := "list") (U := "int") (by decide) ⟨_, ok.le _ _ g, rfl⟩ (fun s' => typeIs_int s' i u) noFill_list_mul F.fills_int_mul F.slot_int_rmul repeat_list F.slot_int_index.lookup
    (call_meets F.slot_int_rmul (typeIs_int s i u) F.entry_int_rmul (F.args_int_rmul_2 _ _) (lm_int_rmul_list_any i u a vs.toArray n none #[])
      ⟨ok.le _ _ g, rfl, ⟨_, ok.le _ _ g, rfl⟩, call_meets F.slot_list_mul ⟨_, ok.le _ _ g, rfl⟩ F.entry_list_mul (F.args_list_mul_2 _ _)
        (lm_list_mul_any a vs.toArray n none #[] i u (by simp [Builtin.List.listFitsIndex]; omega) (by omega) (by simp only [List.size_toArray] at hsz; simp [Builtin.List.listTooLong, sizeLine]; omega))
        ⟨ok.le _ _ g, ?_⟩⟩)
  obtain ⟨h', x, e⟩ := ok.push { cls := Value.type "list", data := Data.seq (List.foldl (fun x1 x2 => x1 ++ x2) #[] (List.replicate (if vs.toArray.isEmpty = true then 0 else i.toNat) vs.toArray)) } (t := s.toks)
  refine k _ h' _ x ⟨_, (List.replicate i.toNat vs).flatten, 0, rfl, ?_, (al.rep _).mono x.le⟩
  rw [e, listMul_foldl_if]

/-! methods -/
theorem EvE.methL {o : Expr} {name : Str} {apos pos : Pos} {e : Expr} {args : List Expr} {pl : Sem Bool} {mid : String} {Ps Qs : List VP} {R : VP} (ev : EvE W A c ρ o (isLst Ps)) (slot : Slot "list" name mid) (hty : typeOf (.builtin mid) = pure (.type "method_descriptor"))
    (as : EvL W A c ρ (e :: args) Qs) (k : CallS W A (.builtin mid) (isLst Ps :: Qs) R)
    (he : eval (.Call (.Attribute o name apos) (e :: args) [] pos) c.env = (do
      let ov ← eval o c.env
      standAt apos.atName
      let (f, first) ← holding [ov] (getMethod ov name pl)
      callWith pos f first (backTo pos (starEach (e :: args) c.env)) []) := by rfl)
    (hs : starEach (e :: args) c.env = (false, eval e c.env) :: starEach args c.env := by rfl)
    (hp : (backTo pos (starEach args c.env)).any (·.1) = false := by rfl) : EvE W A c ρ (.Call (.Attribute o name apos) (e :: args) [] pos) R := fun h s Q E st kk =>
  MethodCall_ (ev h s _ _ st fun v h₁ s₁ x₁ p₁ => by
    obtain ⟨a, vs, n, rfl, g, al⟩ := id p₁
    have hl : s₁.heap.IsList a vs.toArray := ⟨_, x₁.ok.le _ _ g, rfl, n, rfl⟩
    refine getMethod_list_of slot hty hl ?_ ?_
    · exact ⟨_, x₁.ok.le _ _ g, rfl⟩
    · exact callWith_method1 (as pos h₁ s₁ _ _ (st.ext x₁) fun ws h₂ s₂ x₂ p₂ => k h₂ s₂ _ _ _ x₂.ok ⟨(isLst Ps).mono x₂.le p₁, p₂⟩ fun v h' s' x p => kk v h' s' ((x₁.tr x₂).tr x) p) hs hp) he
theorem EvE.methS {o : Expr} {name : Str} {apos pos : Pos} {e : Expr} {args : List Expr} {pl : Sem Bool} {mid : String} {y : Str} {Qs : List VP} {R : VP} (ev : EvE W A c ρ o (isStr y)) (slot : Slot "str" name mid) (hty : typeOf (.builtin mid) = pure (.type "method_descriptor"))
    (as : EvL W A c ρ (e :: args) Qs) (k : CallS W A (.builtin mid) (isStr y :: Qs) R)
    (he : eval (.Call (.Attribute o name apos) (e :: args) [] pos) c.env = (do
      let ov ← eval o c.env
      standAt apos.atName
      let (f, first) ← holding [ov] (getMethod ov name pl)
      callWith pos f first (backTo pos (starEach (e :: args) c.env)) []) := by rfl)
    (hs : starEach (e :: args) c.env = (false, eval e c.env) :: starEach args c.env := by rfl)
    (hp : (backTo pos (starEach args c.env)).any (·.1) = false := by rfl) : EvE W A c ρ (.Call (.Attribute o name apos) (e :: args) [] pos) R := fun h s Q E st kk =>
  MethodCall_ (ev h s _ _ st fun v h₁ s₁ x₁ p₁ => by
    obtain ⟨t, rfl⟩ := id p₁
    refine getMethod_builtin (typeIs_str _ _ _) F.plainAttrs_str slot hty (fun a q => by cases q) ?_
    exact callWith_method1 (as pos h₁ s₁ _ _ (st.ext x₁) fun ws h₂ s₂ x₂ p₂ => k h₂ s₂ _ _ _ x₂.ok ⟨⟨t, rfl⟩, p₂⟩ fun v h' s' x p => kk v h' s' ((x₁.tr x₂).tr x) p) hs hp) he

theorem call_countS {ys : List Str} {k : Str} : CallS W A (.builtin "list.count") [isLst (ys.map isStr), isStr k] (isInt (ys.count k)) := fun h s vs Q E ok al kk => by
  match vs, al with
  | [v, v'], ⟨p, ⟨t, e⟩, _⟩ =>
    subst e
    obtain ⟨a, ws, rfl, hl, r⟩ := isLst.at ok p
    refine count_list_strs hl r.strs ?_
    have : Spec.countIn (.str k) (ys.map PyData.str) = (ys.count k : Int) := by
      clear r p al kk
      induction ys with
      | nil => rfl
      | cons y ys ih => 
        rw [List.map_cons, Spec.countIn, ih, List.count_cons, Spec.same]
        cases h : y == k <;> simp <;> omega
    rw [this]
    exact kk _ h _ (ok.toks _) ⟨_, rfl⟩
theorem call_indexS {ys : List Str} {k : Str} (hk : k ∈ ys) (hn : ys.length < 1000000) : CallS W A (.builtin "list.index") [isLst (ys.map isStr), isStr k] (isInt (ys.idxOf k)) := fun h s vs Q E ok al kk => by
  match vs, al with
  | [v, v'], ⟨p, ⟨t, e⟩, _⟩ =>
    subst e
    obtain ⟨a, ws, n, rfl, g, r⟩ := p
    have hi := r.strs
    have hlen : ws.length = ys.length := by rw [r.len, List.length_map]
    have hj : ys.idxOf k < ys.length := List.idxOf_lt_length_iff.mpr hk
    have hat : ∀ i (h1 : i < ws.length) (h2 : i < ys.length), isStrOf k ws[i] = (ys[i] == k) := fun i h1 h2 => by
      obtain ⟨t', e⟩ := hi.at (j := i) (y := ys[i]) (by simp [h2])
      have : ws[i] = .str ys[i] t' := by simpa [h1] using e
      rw [this]; rfl
    refine call_meets PySem.F.slot_list_index ⟨_, ok.le _ _ g, rfl⟩ PySem.F.entry_list_index (PySem.F.args_list_index_2 _ _)
      (PySem.SeqAt.list_indexAt a ws.toArray n none #[] (.str k t) (isStrOf k) (ys.idxOf k) (by simpa [hlen] using hj) (by omega) ?_ ?_) ⟨ok.le _ _ g, fun y hy => (eq_isStrOf k t hi y (by simpa using hy)).at _ _, kk _ h _ (ok.toks _) ⟨_, rfl⟩⟩
    · show isStrOf k ws[ys.idxOf k] = true
      rw [hat _ (by omega) hj]
      simpa using List.getElem_idxOf hj
    · intro j hjs hlt
      show isStrOf k ws[j] = false
      have hjs' : j < ws.length := by simpa using hjs
      rw [hat j hjs' (by omega)]
      have := List.not_of_lt_findIdx (p := (· == k)) (xs := ys) (i := j) hlt
      simpa using this
theorem call_joinS {ys : List Str} {x : Str} (hn : (ys.map (·.length)).sum + ys.length * x.length ≤ 16777216) : CallS W A (.builtin "str.join") [isStr x, isLst (ys.map isStr)] (isStr (Txt.join x ys)) := fun h s vs Q E ok al kk => by
  match vs, al with
  | [v, v'], ⟨⟨t, e⟩, p, _⟩ =>
    subst e
    obtain ⟨a, ws, rfl, hl, r⟩ := isLst.at ok p
    exact join_list hl (by simpa using r.strs) hn fun t' tk => kk _ h _ (ok.toks _) ⟨_, rfl⟩
theorem call_sumL {ns : List Int} (hh : A.handled = none) : CallS W A (.builtin "sum") [isLst (ns.map isInt)] (isInt ns.sum) := fun h s vs Q E ok al k => by
  match vs, al with
  | [v], ⟨p, _⟩ =>
    obtain ⟨a, ws, rfl, hl, r⟩ := isLst.at ok p
    have hi := r.ints
    obtain ⟨xs, hx⟩ := hi.allInts.items
    have hl' : s.heap.IsList a (intItems xs) := hx ▸ hl
    refine sum_intListG hh hl' fun h' tk t' hk => ?_
    have e1 : ns = xs.toList.map (·.1) := by
      rw [← nums_intItems, ← hx]
      exact (show numsOf ws.toArray.toList = ns from hi.numsOf).symm
    have e2 : preSum (numAt xs) xs.size = ns.sum := by
      rw [preSum_eq, List.take_of_length_le (by simp), e1]
    rw [e2]
    obtain ⟨h'', x, _⟩ := ok.heap (t := tk) hk
    exact k _ h'' _ x ⟨_, rfl⟩

end Mine

namespace Mine
variable {W : Wd} {A : Around} {c : Cx} {ρ : Rho}

/-- a step that may also write the tables -/
theorem Ok.growT {N : Addr → Prop} {h : Heap} {s s' : Shared} (o : Ok W h s) (hk : ∀ b ob, s.heap.get? b = some ob → b ∉ W.tb → s'.heap.get? b = some ob)
    (ht : ∀ P ∈ W.tb, ∃ ps, s'.heap.get? P = some (tabObj ps) ∧ TriplesOk ps.toList ∧ ∀ pos cv, codeAmong pos ps.toList = some cv → h.CodeRec cv (W.tq P pos) ∨
      ∃ cc oc vs t, cv = .ref cc ∧ s.heap.get? cc = none ∧ ¬ N cc ∧ s'.heap.get? cc = some oc ∧ oc.data = .fields vs ∧ vs[1]? = some (.str (W.tq P pos) t))
    (hg : ∀ (i : Nat) x, s.gens[i]? = some x → s'.gens[i]? = some x) (hb : AllBare s'.gens) (hos : s'.os = s.os) :
    ∃ h', Ext W h s h' s' ∧ (∀ a, s.heap.get? a = none → ¬ N a → h'.get? a = s'.heap.get? a) ∧ ∀ a, s.heap.get? a = none → N a → h'.get? a = none := by
  have dec : ∀ a, Decidable (N a) := fun _ => Classical.propDecidable _
  let h' := restr s'.heap fun i => ((s.heap.get? i).isNone && !decide (N i)) || (h.get? i).isSome
  have hnt : ∀ {b ob}, h.get? b = some ob → b ∉ W.tb := fun {b ob} e q => by rw [o.tn b q] at e; cases e
  have hle : Le h h' := fun b ob e => by
    show (restr _ _).get? b = _
    rw [restr_get, if_pos (by simp [e])]; exact hk _ _ (o.le _ _ e) (hnt e)
  have hnew : ∀ a ob, s.heap.get? a = some ob → h'.get? a = h.get? a := fun a ob e => by
    show (restr _ _).get? a = _
    rw [restr_get]
    cases e' : h.get? a with
    | none => simp [e]
    | some ob' => simp [e, hk _ _ (o.le _ _ e') (hnt e')]
  have hnone : ∀ a, s.heap.get? a = none → h.get? a = none := fun a e => by
    cases q : h.get? a with
    | none => rfl
    | some ob => have := o.le _ _ q; rw [e] at this; cases this
  have hin : ∀ a, s.heap.get? a = none → ¬ N a → h'.get? a = s'.heap.get? a := fun a e hn => by
    show (restr _ _).get? a = _
    rw [restr_get, if_pos (by simp [e, hn])]
  refine ⟨h', ⟨⟨fun b ob e => ?_, W.gmono hle o.g, fun P hP => ?_, fun P hP => ?_, hb⟩, hle, hnew, fun b ob e q => hk b ob e q, hg, hos⟩, hin, fun a e hn => ?_⟩
  · have e' : (restr _ _).get? b = some ob := e
    rw [restr_get] at e'
    split at e'
    · exact e'
    · cases e'
  · obtain ⟨ps, e, _⟩ := o.tab P hP
    rw [hnew P _ e]; exact o.tn P hP
  · obtain ⟨ps, e, t, cc⟩ := ht P hP
    refine ⟨ps, e, t, fun pos cv q => ?_⟩
    rcases cc pos cv q with r | ⟨c', oc, vs, tk, e1, e2, e3, e4, e5, e6⟩
    · exact r.keeps hle
    · exact ⟨c', oc, vs, tk, e1, by rw [hin c' e2 e3]; exact e4, e5, e6⟩
  · show (restr _ _).get? a = _
    rw [restr_get, if_neg (by simp [e, hn, hnone a e])]

theorem codeAmong_app {pos pos' : Pos} {c' cv : Value} (l : List Value) (h : TriplesOk l) (hc : codeAmong pos (l ++ [rawInt pos'.line, rawInt pos'.col, c']) = some cv) :
    codeAmong pos l = some cv ∨ (cv = c' ∧ pos.line = pos'.line ∧ pos.col = pos'.col) := by
  fun_induction TriplesOk l with
  | case1 =>
    refine .inr ?_
    simp only [List.nil_append, codeAmong, rawInt] at hc
    split at hc
    · rename_i q
      simp only [Bool.and_eq_true, beq_iff_eq] at q
      cases hc
      exact ⟨rfl, by omega, by omega⟩
    · cases hc
  | case2 a t b u x rest ih =>
    simp only [List.cons_append, codeAmong] at hc ⊢
    split at hc
    · rename_i q; rw [if_pos q]; exact .inl hc
    · rename_i q; rw [if_neg q]; exact ih h hc
  | case3 l h1 h2 => exact h.elim

/-- where the world's code makes functions -/
structure MkOk (W : Wd) (code : Value) (P : Addr) (pos : Pos) (qual : Str) : Prop where
  mem : P ∈ W.tb
  hd : ∀ h, W.G h → ∃ cc, code = .ref cc ∧ CodeHd h cc P
  tq : ∀ p : Pos, p.line = pos.line → p.col = pos.col → W.tq P p = qual
  bi : ∀ h, W.G h → ∃ mg bm ob, h.Ns mainGlobals mg ∧ mg "__builtins__" = some (.ref bm) ∧ bm ≠ builtinsNs ∧ h.get? bm = some ob ∧ ob.cls = .type "module" ∧ ob.dict = some builtinsNs ∧ ob.data = .plain

abbrev fnD (name qual : Str) (params : Arguments) (body : FuncBody) (scope : Scope) (clos : List (Str × Addr)) (dV pm cv ctv : Value) : FuncData :=
  { name, qualname := qual, params, body, scope, globals := mainGlobals, closure := clos, closureTuple := ctv, code := cv, builtins := builtinsNs, defaults := dV, kwdefaults := .none, annotations := none, pyModule := pm, doc := .none }
abbrev fnB (name qual : Str) (params : Arguments) (body : FuncBody) (scope : Scope) (clos : List (Str × Addr)) (dV pm cv ctv : Value) (bi : Addr) (dc : Value) : FuncData :=
  { name, qualname := qual, params, body, scope, globals := mainGlobals, closure := clos, closureTuple := ctv, code := cv, builtins := bi, defaults := dV, kwdefaults := .none, annotations := none, pyModule := pm, doc := dc }
abbrev fnO (fd : FuncData) : Obj := { cls := .type "function", data := .func fd }

theorem mkTail {name qual : Str} {params : Arguments} {body : FuncBody} {scope : Scope} {dV : Value} {pos : Pos} {fl : Nat} {clos : List (Str × Addr)} {P : Addr} {h : Heap} {s : Shared} {Q : Value → Shared → Prop} {E : Value → Shared → Prop} (out : Bool)
    (ok : Ok W h s) (hgl : c.env.globals = mainGlobals) (mk : MkOk W c.env.code P pos qual) (hcl : closureFor scope c.env = pure clos)
    (hdoc : (match body with | .stmts b => (match docOf b with | some s => mkText s | none => pure .none) | .expr _ => pure .none) = (pure .none : Sem Value))
    (k : ∀ a pm cv ctv h' s', Ext W h s h' s' → s.heap.get? a = none → s'.heap.get? a = some (fnO (fnD name qual params body scope clos dV pm cv ctv)) → h'.get? a = (if out then none else some (fnO (fnD name qual params body scope clos dV pm cv ctv))) →
      h'.CodeRec cv qual → a ∉ W.tb → Q (.ref a) s') :
    wpAny W.M A (makeTail name qual params body scope c.env dV .none none pos fl) Q E s := by
  obtain ⟨cc, hcode, C⟩ := mk.hd h ok.g
  obtain ⟨mg, bm, ob, hg, b1, b2, b3, b4, b5, b6⟩ := mk.bi h ok.g
  -- the rest, behind the closure's tuple
  have fin : ∀ ctv s₁, Ext W h s h s₁ → wpAny W.M A (functionCode c.env pos fl name qual params scope body >>= fun cv => builtinsFor mainGlobals c.env.builtins >>= fun bi => nsGet mainGlobals "__name__" >>= fun nm =>
      (match body with | .stmts b => (match docOf b with | some s => mkText s | none => pure .none) | .expr _ => pure .none) >>= fun dc =>
      newObj (.type "function") (.func (fnB name qual params body scope clos dV (nm.getD .none) cv ctv bi dc))) Q E s₁ := by
    intro ctv s₁ x₁
    obtain ⟨ps, hP, ht, hc⟩ := x₁.ok.tab P mk.mem
    have C₁ : CodeHd s₁.heap cc P := C.keeps x₁.ok.le
    -- behind the code
    have fin2 : ∀ cv (s₂ : Shared), (∀ b o, s₁.heap.get? b = some o → b ∉ W.tb → s₂.heap.get? b = some o) → s₁.heap.objs.size ≤ s₂.heap.objs.size →
        (∀ P' ∈ W.tb, ∃ ps, s₂.heap.get? P' = some (tabObj ps) ∧ TriplesOk ps.toList ∧ ∀ pos cv, codeAmong pos ps.toList = some cv → h.CodeRec cv (W.tq P' pos) ∨
          ∃ cc oc vs t, cv = .ref cc ∧ s₁.heap.get? cc = none ∧ s₂.heap.get? cc = some oc ∧ oc.data = .fields vs ∧ vs[1]? = some (.str (W.tq P' pos) t)) →
        s₂.gens = s₁.gens → s₂.os = s₁.os →
        (h.CodeRec cv qual ∨ ∃ cc oc vs t, cv = .ref cc ∧ s₁.heap.get? cc = none ∧ s₂.heap.get? cc = some oc ∧ oc.data = .fields vs ∧ vs[1]? = some (.str qual t)) →
        wpAny W.M A (builtinsFor mainGlobals c.env.builtins >>= fun bi => nsGet mainGlobals "__name__" >>= fun nm =>
          (match body with | .stmts b => (match docOf b with | some s => mkText s | none => pure .none) | .expr _ => pure .none) >>= fun dc =>
          newObj (.type "function") (.func (fnB name qual params body scope clos dV (nm.getD .none) cv ctv bi dc))) Q E s₂ := by
      intro cv s₂ hk hsz htb hgn hos hcv
      have hbt : ∀ {b o}, h.get? b = some o → b ∉ W.tb := fun {b o} e q => by rw [ok.tn b q] at e; cases e
      have hk2 : ∀ b o, h.get? b = some o → s₂.heap.get? b = some o := fun b o e => hk b o (x₁.ok.le b o e) (hbt e)
      refine wpAny_bind (wpAny_builtinsFor (hg.keeps hk2) b1 b2 (hk2 _ _ b3) b4 b5 b6 ?_)
      refine wpAny_bind (wpAny_nsGet (hg.keeps hk2) ?_)
      rw [hdoc]
      refine wpAny_bind (wpAny_pure (wpAny_newObj_type ?_ (by size_fits)))
      have hlt : ∀ {b o}, s₂.heap.get? b = some o → (s₂.heap.push (fnO (fnD name qual params body scope clos dV ((mg "__name__").getD .none) cv ctv))).get? b = some o := fun e => Heap.get?_push_of_some _ e
      have hnl : ∀ {a : Addr}, s₂.heap.objs.size ≤ a → s₁.heap.get? a = none := fun {a} q => by
        cases e : s₁.heap.get? a with
        | none => rfl
        | some o => exact absurd (Nat.lt_of_lt_of_le (Heap.lt_size e) hsz) (Nat.not_lt.mpr q)
      have nN : ∀ {cc oc}, s₂.heap.get? cc = some oc → ¬ (out = true ∧ cc = s₂.heap.objs.size) := fun {cc oc} e q => absurd (q.2 ▸ Heap.lt_size e) (Nat.lt_irrefl _)
      obtain ⟨h', x, hin, hno⟩ := x₁.ok.growT (N := fun a => out = true ∧ a = s₂.heap.objs.size) (s' := { s₂ with heap := s₂.heap.push (fnO (fnD name qual params body scope clos dV ((mg "__name__").getD .none) cv ctv)) })
        (fun b o e q => hlt (hk b o e q)) (fun P' hP' => by
          obtain ⟨ps', e, t, r⟩ := htb P' hP'
          refine ⟨ps', hlt e, t, fun pos cv q => (r pos cv q).imp id ?_⟩
          rintro ⟨cc, oc, vs, t, e1, e2, e3, e4, e5⟩
          exact ⟨cc, oc, vs, t, e1, e2, nN e3, hlt e3, e4, e5⟩)
        (fun i z e => by show s₂.gens[i]? = _; rw [hgn]; exact e) (by show AllBare s₂.gens; rw [hgn]; exact x₁.ok.bare) hos
      have hfr := hnl (Nat.le_refl s₂.heap.objs.size)
      refine k _ _ cv ctv h' _ (x₁.tr x) ?_ (Heap.get?_push_size _ rfl) ?_ ?_ ?_
      · cases e : s.heap.get? s₂.heap.objs.size with
        | none => rfl
        | some o => obtain ⟨o', e'⟩ := x₁.live e; rw [hfr] at e'; cases e'
      · cases out with
        | true => exact hno _ hfr ⟨rfl, rfl⟩
        | false => exact (hin _ hfr (by simp)).trans (Heap.get?_push_size _ rfl)
      · rcases hcv with r | ⟨c', oc, vs, t, e1, e2, e3, e4, e5⟩
        · exact r.keeps x.le
        · exact ⟨c', oc, vs, t, e1, by rw [hin c' e2 (nN e3)]; exact hlt e3, e4, e5⟩
      · intro hm
        obtain ⟨ps', e, _⟩ := x₁.ok.tab _ hm
        rw [hfr] at e; cases e
    cases hf : codeAmong pos ps.toList with
    | some cv =>
      refine wpAny_bind (wpAny_functionCode_hit hcode (C₁.code hP ht) hf ?_)
      refine fin2 cv s₁ (fun _ _ e _ => e) (Nat.le_refl _) (fun P' hP' => ?_) rfl rfl (.inl ?_)
      · obtain ⟨ps', e, t, r⟩ := x₁.ok.tab P' hP'
        exact ⟨ps', e, t, fun pos cv q => .inl (r pos cv q)⟩
      · have := hc pos cv hf
        rw [mk.tq pos rfl rfl] at this; exact this
    | none =>
      refine wpAny_bind (wpAny_functionCodeX hcode (C₁.code hP ht) (C₁.tab hP) hf fun c' h₂ tk hx hge hlt _ hrec htb _ => ?_)
      have hnew : s₁.heap.get? c' = none := Heap.get?_none_of_le hge
      obtain ⟨c'', oc, vs, t, e1, e2, e3, e4⟩ := id hrec
      cases e1
      refine fin2 (.ref c') { s₁ with heap := h₂, toks := tk } (fun b o e q => hx b o (fun r => q (r ▸ mk.mem)) e) (Nat.le_of_lt (Nat.lt_of_le_of_lt hge hlt)) (fun P' hP' => ?_) rfl rfl (.inr ⟨c', oc, vs, t, rfl, hnew, e2, e3, e4⟩)
      by_cases hPP : P' = P
      · subst hPP
        refine ⟨_, htb.2, ?_, fun pos' cv q => ?_⟩
        · simpa using TriplesOk_snoc pos.line pos.col (.ref c') ps.toList ht
        · have q' : codeAmong pos' (ps.toList ++ [rawInt pos.line, rawInt pos.col, .ref c']) = some cv := by simpa using q
          rcases codeAmong_app ps.toList ht q' with r | ⟨rfl, l1, l2⟩
          · exact .inl (hc pos' cv r)
          · exact .inr ⟨c', oc, vs, t, rfl, hnew, e2, e3, by rw [mk.tq pos' l1 l2]; exact e4⟩
      · obtain ⟨ps', e, t', r⟩ := x₁.ok.tab P' hP'
        exact ⟨ps', hx _ _ hPP e, t', fun pos cv q => .inl (r pos cv q)⟩
  unfold makeTail
  rw [hcl, hgl]
  refine wpAny_bind (wpAny_pure ?_)
  cases clos with
  | nil =>
    simp only [List.isEmpty_nil, if_true]
    refine wpAny_bind (wpAny_pure ?_)
    have f := fin .none s (Ext.rf ok)
    cases body with
    | stmts b => exact f
    | expr b => exact f
  | cons q r =>
    simp only [List.isEmpty_cons, Bool.false_eq_true, if_false]
    refine wpAny_bind (wpAny_newTextTuple ?_)
    have f := fin (.ref s.heap.objs.size) _ (ok.pushOut { cls := .type "tuple", data := .seq (List.map (fun x => Value.ref x.2) ((q :: r).mergeSort fun a b => decide (a.1.cps.toList ≤ b.1.cps.toList))).toArray } s.toks)
    cases body with
    | stmts b => exact f
    | expr b => exact f

end Mine

namespace Mine
open Builtin Builtin.ObjectAttr
theorem fn_sa : Slot "function" "__setattr__" "object.__setattr__" := .of (owner := "object") (n := "__setattr__") (by rw [typeLookup_type, builtinLookup_eq_fast]; kernel_rfl) (by decide +kernel) (by decide +kernel) (by decide +kernel)
    (by first | exact .inl (by decide +kernel) | exact .inr (by decide +kernel)) (by rw [isSubtype_type]; kernel_rfl)
theorem fn_ga : typeLookup (.type "function") "__getattribute__" = pure (some (.builtin "object.__getattribute__")) := by rw [typeLookup_type, builtinLookup_eq_fast]; kernel_rfl
theorem fn_gas : Slot "function" "__getattribute__" "object.__getattribute__" := .of (owner := "object") (n := "__getattribute__") (by rw [typeLookup_type, builtinLookup_eq_fast]; kernel_rfl) (by decide +kernel) (by decide +kernel) (by decide +kernel)
    (by first | exact .inl (by decide +kernel) | exact .inr (by decide +kernel)) (by rw [isSubtype_type]; kernel_rfl)
theorem fn_gh : typeLookup (.type "function") "__getattr__" = pure none := by rw [typeLookup_type, builtinLookup_eq_fast]; kernel_rfl
theorem fn_bool : typeLookup (.type "function") "__bool__" = pure none := by rw [typeLookup_type, builtinLookup_eq_fast]; kernel_rfl
theorem fn_len : typeLookup (.type "function") "__len__" = pure none := by rw [typeLookup_type, builtinLookup_eq_fast]; kernel_rfl
theorem fn_mro : mroOf (.type "function") = pure [.type "function", .type "object"] := by kernel_rfl
theorem fn_entry : entryFor table "object.__setattr__" = some Builtin.«object.__setattr__» := entryFor_of_fast (by kernel_rfl)
theorem fn_args (a b c : Value) : argsOk "object.__setattr__" ⟨[a, b, c], []⟩ := by unfold argsOk; kernel_rfl
theorem fn_pass (self : Value) : refuseLoop self "__setattr__" [.type "function", .type "object"] = pure () := by kernel_rfl

/-- an object that is a name space -/
def NsO (o : Obj) (m : Str → Option Value) : Prop := ∀ (h : Heap) (a : Addr), h.get? a = some o → h.Ns1 a m
theorem NsO.of {h : Heap} {a : Addr} {o : Obj} {m : Str → Option Value} (n : h.Ns1 a m) (e : h.get? a = some o) : NsO o m := fun h' a' e' => by
  obtain ⟨o1, es, ep, e1, r⟩ := n
  rw [e] at e1; cases e1
  exact ⟨o, es, ep, e', r⟩
theorem NsO.at {h : Heap} {a : Addr} {m : Str → Option Value} (n : h.Ns1 a m) : ∃ o, h.get? a = some o ∧ NsO o m := by
  obtain ⟨o1, es, ep, e1, r⟩ := id n
  exact ⟨o1, e1, NsO.of n e1⟩

section
variable {prog : Program} {w : World} {A : Around} {E : Value → Shared → Prop} {s : Shared} {x : Addr} {o : Obj} {name : Str} {v : Value} {fd : FuncData}

theorem fn_set {Q : Unit → Shared → Prop} {ns : List Str} {m : Str → Option Value} (hx : s.heap.get? x = some o) (hc : o.cls = .type "function") (hd : o.data = .func fd) (hB : typeLookup (.type "function") name = pure none)
    (hdict : (o.dict = none ∧ ∀ n, m n = none) ∨ ∃ d, o.dict = some d ∧ d ≠ x ∧ s.heap.Ns1 d m) (hw : Within m ns) (hns : ns.length ≤ 100)
    (k : ∀ d od h' tk, (o.dict = some d ∨ (o.dict = none ∧ s.heap.get? d = none)) → d ≠ x → h'.get? d = some od → NsO od (fun y => if y = name then some v else m y) → h'.get? x = some { o with dict := some d } →
      (∀ b ob, b ≠ x → b ≠ d → s.heap.get? b = some ob → h'.get? b = some ob) → Q () { s with heap := h', toks := tk }) :
    wpAny (model prog w) A (setAttr (.ref x) name v) Q E s := by
  have hT : ∀ t, ({ s with toks := t } : Shared).TypeIs (.ref x) "function" := fun t => ⟨o, hx, hc⟩
  unfold setAttr
  refine wpAny_bind (wpAny_mkText (wpAny_bind (wpAny_callSpecial?_slot (name := Str.ofString "__setattr__") (hT _) fn_sa (wpAny_call_entry fn_sa (hT _) fn_entry ?_ (fn_args _ _ _)))))
  obtain ⟨h, g, d, t, os⟩ := s
  simp only at hx hdict k hT
  unfold Builtin.«object.__setattr__»
  repeat (first | rw [refuse_eq] | (rw [fn_pass]) | (with_reducible refine wpAny_typeOf (hT _) ?_) | (with_reducible refine wpAny_of_eq fn_mro ?_)  | (with_reducible refine wpAny_of_eq hB ?_) | wp_step)
  rw [hc]
  rcases hdict with ⟨hdn, hm⟩ | ⟨dx, hdx, hne, hn⟩
  · rw [hdn, hd]
    show wpAny _ _ (if (!true || !typeHasDict (.type "function")) = true then _ else _) _ _ _
    rw [if_neg (by decide)]
    have hx₁ : (h.push { cls := .type "dict", data := .dict #[] }).get? x = some o := Heap.get?_push_of_some _ hx
    have hxs : x ≠ h.objs.size := Nat.ne_of_lt (Heap.lt_size hx)
    refine wpAny_bind (wpAny_alloc' ?_)
    refine wpAny_bind (wpAny_update' hx₁ ?_)
    refine wpAny_pure ?_
    have hgd : ((h.push { cls := .type "dict", data := .dict #[] }).update x fun o => { cls := o.cls, dict := some h.objs.size, data := o.data, slots := o.slots }).get? h.objs.size
        = some { cls := .type "dict", data := .dict #[] } :=
      (Heap.get?_update_ne _ _ _ _ hxs.symm).trans (Heap.get?_push_at rfl rfl)
    have hnd : ((h.push { cls := .type "dict", data := .dict #[] }).update x fun o => { cls := o.cls, dict := some h.objs.size, data := o.data, slots := o.slots }).Ns h.objs.size (fun _ => none) :=
      ⟨_, #[], _, hgd, rfl, fun e he => absurd he (by simp), fun _ => rfl⟩
    show wpAny _ _ (storeInDict h.objs.size (.str name _) name v) _ _ _
    unfold storeInDict newKeyGuard
    refine wpAny_bind (wpAny_pure (wpAny_bind (wpAny_nsSet1 (Heap.Ns1.of_empty hnd) fun h' hn' hs => ?_)))
    obtain ⟨oD, esD, epD, hoD, hdD, hcD⟩ := hn'.count (Within.cons name v Within.nil)
    refine wpAny_bind (wpAny_lookBehind hoD (by rw [hdD]; exact pastItsLine_dict (Nat.le_trans hcD (by rw [List.length_cons, List.length_nil, sizeLine_eq]; omega))) ?_)
    refine wpAny_pure ⟨_, rfl, wpAny_pure ?_⟩
    obtain ⟨od, e1, n1⟩ := NsO.at hn'
    refine k h.objs.size od h' _ (.inr ⟨hdn, Heap.get?_none_of_le (Nat.le_refl _)⟩) hxs.symm e1 (fun h2 a2 e2 => ?_) ?_ (fun b ob hbx hbd hb => ?_)
    · obtain ⟨o', es, ep, e1, e2, e3, eu, e4⟩ := n1 h2 a2 e2
      exact ⟨o', es, ep, e1, e2, e3, eu, fun y => by rw [e4 y]; by_cases hy : y = name <;> simp [hy, hm]⟩
    · refine (hs.2 x hxs).trans (Heap.get?_update_self _ hx₁ ?_)
      have hfr := (Heap.get?_some_iff.mp hx).2
      obtain ⟨oc, od, odt, osl⟩ := o
      cases odt <;> first | rfl | exact hfr
    · exact (hs.2 b hbd).trans ((Heap.get?_update_ne _ _ _ _ hbx).trans (Heap.get?_push_of_some _ hb))
  · rw [hdx]
    refine wpAny_pure ?_
    show wpAny _ _ (storeInDict dx (.str name _) name v) _ _ _
    unfold storeInDict newKeyGuard
    refine wpAny_bind (wpAny_pure (wpAny_bind (wpAny_nsSet1 hn fun h' hn' hs => ?_)))
    obtain ⟨oD, esD, epD, hoD, hdD, hcD⟩ := hn'.count (Within.cons name v hw)
    refine wpAny_bind (wpAny_lookBehind hoD (by rw [hdD]; exact pastItsLine_dict (Nat.le_trans hcD (by rw [List.length_cons, sizeLine_eq]; omega))) ?_)
    refine wpAny_pure ⟨_, rfl, wpAny_pure ?_⟩
    obtain ⟨od, e1, n1⟩ := NsO.at hn'
    refine k dx od h' _ (.inl hdx) hne e1 n1 ?_ (fun b ob hbx hbd hb => (hs.2 b hbd).trans hb)
    rw [show ({ cls := o.cls, dict := some dx, data := o.data, slots := o.slots } : Obj) = o by cases o; simp only at hdx; subst hdx; rfl]
    exact (hs.2 x hne.symm).trans hx

/-- a function object's own name, called -/
theorem fn_method {pl : Sem Bool} {Q : Value × List Value → Shared → Prop} {m : Str → Option Value} {d : Addr} (hx : s.heap.get? x = some o) (hc : o.cls = .type "function") (hd : o.data = .func fd) (hB : typeLookup (.type "function") name = pure none)
    (hdx : o.dict = some d) (hn : s.heap.Ns1 d m) (hv : m name = some v) (hh : handedOut v = pure v) (k : Q (v, []) { s with toks := s.toks + 1 }) : wpAny (model prog w) A (getMethod (.ref x) name pl) Q E s := by
  have hT : ∀ t, ({ s with toks := t } : Shared).TypeIs (.ref x) "function" := fun t => ⟨o, hx, hc⟩
  have hcan := F.canon_object_ga
  unfold getMethod
  refine wpAny_bind (wpAny_specialOf (hT _) fn_ga ?_)
  simp only [hcan, Bool.false_eq_true, if_false]
  refine wpAny_bind (wpAny_specialOf (hT _) fn_gh ?_)
  simp only [Option.isSome_none, Bool.false_eq_true, if_false]
  refine wpAny_bind (wpAny_specialOf (hT _) hB ?_)
  refine wpAny_bind ?_
  unfold getAttr getAttrBy
  refine wpAny_bind (wpAny_mkText (wpAny_holding (wpAny_bind (wpAny_typeOf (hT _) (wpAny_bind (wpAny_of_eq fn_ga ?_))))))
  show wpAny _ _ (getAttrByItsOwn _ _ _ _ _ _) _ _ _
  unfold getAttrByItsOwn
  refine wpAny_bind (wpAny_pure (wpAny_bind (wpAny_attempt (wpAny_holding ?_))))
  show wpAny _ _ (boundAndCalled _ _ _) _ _ _
  unfold boundAndCalled
  refine wpAny_bind (wpAny_of_eq (fn_gas.bind (.ref x)) ?_)
  refine wpAny_call_entry fn_gas (hT _) F.entry_object_getattribute ?_ (F.args_object_getattribute_2 _ _)
  unfold Builtin.«object.__getattribute__»
  refine wpAny_bind (wpAny_pure ?_)
  refine wpAny_bind (m := attrName _) (wpAny_pure ?_)
  refine wpAny_bind (wpAny_typeOf (hT _) ?_)
  refine wpAny_bind (m := find _ _ _) ?_
  unfold find
  refine wpAny_bind (wpAny_of_eq hB (wpAny_bind (wpAny_pure (wpAny_bind (wpAny_pure ?_)))))
  show wpAny _ _ (ownThenClass _ _ _ _) _ _ _
  unfold ownThenClass inOwnDict Builtin.ObjectAttr.ownDict
  refine wpAny_bind (wpAny_bind (wpAny_bind (wpAny_loadPart hx ?_)))
  rw [hd]
  show wpAny _ _ (instanceDict x false) _ _ _
  unfold instanceDict
  refine wpAny_bind (wpAny_loadPart hx ?_)
  rw [hc, hdx]
  refine wpAny_pure ?_
  refine wpAny_nsGet hn.ns ?_
  rw [hv]
  refine wpAny_bind (wpAny_rule (wpAny_pure (wpAny_pure ⟨v, rfl, ?_⟩)))
  show wpAny _ _ (handedOut v) _ _ _
  rw [hh]
  exact wpAny_pure (wpAny_pure k)

theorem fn_true {Q : Bool → Shared → Prop} (hx : s.heap.get? x = some o) (hc : o.cls = .type "function") (k : Q true s) : wpAny (model prog w) A (truthy (.ref x)) Q E s := by
  have hT : s.TypeIs (.ref x) "function" := ⟨o, hx, hc⟩
  unfold truthy
  refine wpAny_bind (wpAny_callSpecial?_none (name := Str.ofString "__bool__") hT fn_bool ?_)
  refine wpAny_bind (wpAny_specialOf hT fn_len ?_)
  exact wpAny_pure k
end
end Mine

namespace Mine
variable {W : Wd} {A : Around} {c : Cx} {ρ : Rho}

/-- objects of one's own are written -/
theorem St.rewrite {own' : List (Addr × Obj)} {h h₁ : Heap} {s : Shared} {t : Nat} (st : St W c ρ h s) (hnc : ∀ p ∈ c.own, ∀ v, p.2.data ≠ .cell v)
    (hk : ∀ b ob, b ∉ c.own.map (·.1) → s.heap.get? b = some ob → h₁.get? b = some ob) (ho : ∀ p ∈ own', h₁.get? p.1 = some p.2)
    (hsub : ∀ a ∈ own'.map (·.1), a ∈ c.own.map (·.1) ∨ s.heap.get? a = none) (nd : (own'.map (·.1)).Nodup) :
    Mv W c own' h s h { s with heap := h₁, toks := t } ∧ St W (c.on own') ρ h { s with heap := h₁, toks := t } := by
  have nown : ∀ {a}, (a ∈ c.muts ∨ a ∈ W.tb ∨ h.get? a ≠ none) → a ∉ c.own.map (·.1) := fun {a} ha hm => by
    obtain ⟨p, hp, rfl⟩ := List.mem_map.mp hm
    obtain ⟨_, q1, q2, q3⟩ := st.own p hp
    rcases ha with q | q | q
    · exact q2 q
    · exact q3 q
    · exact q q1
  have ok' : Ok W h { s with heap := h₁, toks := t } := ⟨fun b ob e => hk b ob (nown (.inr (.inr (by rw [e]; simp)))) (st.ok.le b ob e), st.ok.g, st.ok.tn,
    fun P hP => let ⟨ps, e, r⟩ := st.ok.tab P hP; ⟨ps, hk _ _ (nown (.inr (.inl hP))) e, r⟩, st.ok.bare⟩
  have ceU : ∀ {a v}, s.heap.IsCell a v → h₁.IsCell a v := fun {a v} e => let ⟨ob, e1, d⟩ := e; ⟨ob, hk a ob (fun hm => by
    obtain ⟨p, hp, rfl⟩ := List.mem_map.mp hm
    rw [(st.own p hp).1] at e1; cases e1
    exact hnc p hp _ d) e1, d⟩
  have nsU : ∀ {m}, s.heap.Ns c.env.locals m → h₁.Ns c.env.locals m := fun {m} e => e.at' fun ob e1 => hk _ ob (nown (.inl st.env.mem)) e1
  have hnew : ∀ {a}, a ∈ own'.map (·.1) → h.get? a = none ∧ a ∉ c.muts ∧ a ∉ W.tb := fun {a} ha => by
    rcases hsub a ha with q | q
    · obtain ⟨p, hp, rfl⟩ := List.mem_map.mp q; exact (st.own p hp).2
    · refine ⟨?_, fun hm => ?_, fun hm => ?_⟩
      · cases e : h.get? a with
        | none => rfl
        | some ob => have := st.ok.le _ _ e; rw [q] at this; cases this
      · obtain ⟨o, e⟩ := st.liveMut hm; rw [q] at e; cases e
      · obtain ⟨ps, e, _⟩ := st.ok.tab _ hm; rw [q] at e; cases e
  refine ⟨⟨ok', Le.rf h, fun _ _ _ _ => rfl, fun b o e _ _ hn => hk b o hn e, fun _ _ e => e, rfl, hsub, fun a ha => ?_⟩, ⟨ok', ⟨st.env.kind, st.env.glob, st.env.bi, st.env.mem, st.env.apart, st.env.celne⟩, ?_, fun a ha => ?_, st.mu, fun p hp => ⟨ho p hp, hnew (List.mem_map_of_mem hp)⟩, nd, fun y P e => ?_⟩⟩
  · obtain ⟨o, e⟩ := st.liveMut ha; exact ⟨o, hk a o (nown (.inl ha)) e⟩
  · obtain ⟨m, e⟩ := st.ns; exact ⟨m, nsU e⟩
  · exact (st.cel a ha).imp id fun ⟨v, e⟩ => ⟨v, ceU e⟩
  · obtain ⟨v, r, p⟩ := st.rd y P e
    refine ⟨v, ?_, p⟩
    rcases r with ⟨k, m, n, q⟩ | ⟨k, cc, l, q⟩
    · exact .inl ⟨k, m, nsU n, q⟩
    · exact .inr ⟨k, cc, l, ceU q⟩

/-- what is known of a name is made stronger -/
theorem St.learn {h : Heap} {s : Shared} {x : Str} {P P' : VP} (st : St W c ρ h s) (hl : ρ.lookup x = some P) (hP : ∀ v, P.p h v → P'.p h v) : St W c ((x, P') :: ρ) h s := by
  refine { st with rd := ?_ }
  intro y R e
  rw [List.lookup_cons] at e
  cases hb : y == x with
  | true =>
    rw [hb] at e; cases e
    rw [beq_iff_eq.mp hb]
    obtain ⟨v, r, p⟩ := st.rd x P hl
    exact ⟨v, r, hP v p⟩
  | false => rw [hb] at e; exact st.rd y R e

/-! closures -/
structure CloT where
  name : Str
  qual : Str
  params : Arguments
  body : FuncBody
  scope : Scope
def DefOk (h : Heap) (dV : Value) (D : List VP) : Prop := (D = [] ∧ dV = .none) ∨ (D ≠ [] ∧ ∃ t vs, dV = .ref t ∧ h.get? t = some { cls := .type "tuple", data := .seq vs.toArray } ∧ All2 h D vs)
theorem DefOk.mono {h h' : Heap} {dV : Value} {D : List VP} (l : Le h h') (x : DefOk h dV D) : DefOk h' dV D :=
  x.imp id fun ⟨n, t, vs, e, g, r⟩ => ⟨n, t, vs, e, l _ _ g, r.mono l⟩
structure CloP (T : CloT) (D : List VP) (ρf : Rho) (clos : List (Str × Addr)) (h : Heap) : Prop where
  fre : Fre T.scope clos ρf h h
  cel : ∀ p ∈ clos, ∃ v, h.IsCell p.2 v
  ap : clos.Pairwise fun x y => x.2 ≠ y.2
theorem CloP.mono {T : CloT} {D : List VP} {ρf : Rho} {clos : List (Str × Addr)} {h h' : Heap} (l : Le h h') (x : CloP T D ρf clos h) : CloP T D ρf clos h' :=
  ⟨fun y P e => let ⟨q, a, v, e1, e2, e3⟩ := x.fre y P e; ⟨q, a, v, e1, e2.keeps l, P.mono l e3⟩, fun p hp => let ⟨v, e⟩ := x.cel p hp; ⟨v, e.keeps l⟩, x.ap⟩
def isClo (T : CloT) (D : List VP) (ρf : Rho) : VP where
  p h v := ∃ a o pm cv ctv clos dV, v = .ref a ∧ h.get? a = some o ∧ o.cls = .type "function" ∧ o.data = .func (fnD T.name T.qual T.params T.body T.scope clos dV pm cv ctv) ∧ h.CodeRec cv T.qual ∧ DefOk h dV D ∧ CloP T D ρf clos h
  mono := by
    rintro h h' v l ⟨a, o, pm, cv, ctv, clos, dV, e, g, hc, hd, r, d, q⟩
    exact ⟨a, o, pm, cv, ctv, clos, dV, e, l _ _ g, hc, hd, r.keeps l, d.mono l, q.mono l⟩

/-- a name that is held by a cell which is stored once -/
def celP (b : Addr) (P : VP) : VP := ⟨fun h v => P.p h v ∧ h.IsCell b (some v), fun l x => ⟨P.mono l x.1, x.2.keeps l⟩⟩
theorem EvE.uncel {e : Expr} {b : Addr} {P : VP} (ev : EvE W A c ρ e (celP b P)) : EvE W A c ρ e P := ev.imp fun _ _ q => q.1

/-- what a frame's names tell of a closure that is made in it -/
def CloN (c : Cx) (ρ : Rho) (scope : Scope) (clos : List (Str × Addr)) (ρf : Rho) : Prop :=
  (∀ x P, ρf.lookup x = some P → scope.names.lookup x = some .free ∧ ∃ b, clos.lookup x = some b ∧ ρ.lookup x = some (celP b P)) ∧ (∀ p ∈ clos, ∃ x P, ρ.lookup x = some (celP p.2 P)) ∧ clos.Pairwise fun x y => x.2 ≠ y.2
theorem CloN.go {T : CloT} {D : List VP} {clos : List (Str × Addr)} {ρf : Rho} (n : CloN c ρ T.scope clos ρf) {h : Heap} {s : Shared} (st : St W c ρ h s) : CloP T D ρf clos h where
  fre := fun x P e => by
    obtain ⟨q, b, e1, e2⟩ := n.1 x P e
    obtain ⟨v, _, p, hc⟩ := st.rd x _ e2
    exact ⟨q, b, v, e1, hc, p⟩
  cel := fun p hp => by
    obtain ⟨x, P, e⟩ := n.2.1 p hp
    obtain ⟨v, _, _, hc⟩ := st.rd x _ e
    exact ⟨_, hc⟩
  ap := n.2.2

abbrev n_lam : Str := Str.ofString "<lambda>"
theorem EvE.lam {params : Arguments} {body : Expr} {scope : Scope} {pos : Pos} {P : Addr} {qual : Str} {clos : List (Str × Addr)} {ρf : Rho} (hq : c.env.qual ++ n_lam = qual) (mk : MkOk W c.env.code P pos qual) (hcl : closureFor scope c.env = pure clos) (n : CloN c ρ scope clos ρf)
    (hdef : defaultsOf params c.env = ([], []) := by rfl) : EvE W A c ρ (.Lambda params body scope pos) (isClo ⟨n_lam, qual, params, .expr body, scope⟩ [] ρf) := fun h s Q E st k => by
  refine kla_eval hdef ?_
  rw [makeFunction_eq]
  simp only [List.zip_nil_right, List.filterMap_nil, List.isEmpty_nil, if_true, pure_bind]
  have e : c.env.qual ++ Str.ofString "<lambda>" = qual := hq
  rw [e]
  refine mkTail (c := c) false st.ok st.env.glob mk hcl rfl fun a pm cv ctv h' s' x _ _ hb hcr _ => ?_
  rw [if_neg (by decide)] at hb
  exact k _ h' s' x ⟨a, _, pm, cv, ctv, clos, .none, rfl, hb, rfl, rfl, hcr, .inl ⟨rfl, rfl⟩, (CloN.go (T := ⟨n_lam, qual, params, .expr body, scope⟩) n st).mono x.le⟩

/-! function objects with names of their own -/
/-- the name of an object of one's own, and what is known of the values in it -/
def attP (a : Addr) (l : List (Value × VP)) : VP := ⟨fun h v => v = .ref a ∧ ∀ q ∈ l, q.2.p h q.1, fun le x => ⟨x.1, fun q hq => q.2.mono le (x.2 q hq)⟩⟩

theorem TS.lamOwn {x : Str} {px pos lp : Pos} {params : Arguments} {body : Expr} {scope : Scope} {rest : List Stmt} {O : Out → Prop} {P : Addr} {qual : Str} {clos : List (Str × Addr)} (hown : c.own = []) (hw : Wr c x) (hq : c.env.qual ++ n_lam = qual) (mk : MkOk W c.env.code P lp qual) (hcl : closureFor scope c.env = pure clos)
    (t : ∀ a fd, TS W A (c.on [(a, fnO fd)]) ((x, attP a []) :: ρ) rest O) (hdef : defaultsOf params c.env = ([], []) := by rfl)
    (hs : swapsWith (.Lambda params body scope lp) (some (.Name x px)) pos.line c.env = pure false := by rfl) : TS W A c ρ (.Assign [.Name x px] (.Lambda params body scope lp) pos :: rest) O :=
  TS.cons fun h s E st => wpAny_Assign_Name (kla_eval hdef (by
    rw [makeFunction_eq]
    simp only [List.zip_nil_right, List.filterMap_nil, List.isEmpty_nil, if_true, pure_bind]
    have e : c.env.qual ++ Str.ofString "<lambda>" = qual := hq
    rw [e]
    refine mkTail (c := c) true st.ok st.env.glob mk hcl rfl fun a pm cv ctv h' s' xt hfr hs' hb hcr htb => ?_
    rw [if_pos rfl] at hb
    have st' := st.ext xt
    have st2 : St W (c.on [(a, fnO (fnD n_lam qual params (.expr body) scope clos .none pm cv ctv))]) ρ h' s' := by
      refine { st' with env := ⟨st.env.kind, st.env.glob, st.env.bi, st.env.mem, st.env.apart, st.env.celne⟩, own := ?_, nodup := by simp }
      intro p hp
      obtain rfl := List.mem_singleton.mp hp
      refine ⟨hs', hb, fun hm => ?_, htb⟩
      obtain ⟨o, e⟩ := st.liveMut hm
      rw [hfr] at e; cases e
    have m2 : Mv W c [(a, fnO (fnD n_lam qual params (.expr body) scope clos .none pm cv ctv))] h s h' s' := by
      refine { (Mv.of st xt) with sub := ?_ }
      intro b hb
      obtain rfl : b = a := by simpa using hb
      exact .inr hfr
    refine St.store (c := c.on [(a, fnO (fnD n_lam qual params (.expr body) scope clos .none pm cv ctv))]) (P := attP a []) st2 hw ⟨rfl, fun q hq => by cases hq⟩ fun s₂ m q => ?_
    exact ⟨.next _ _, h', t a _, rfl, m2.tr m, q⟩)) hs

theorem fresh_ne {h : Heap} {a b : Addr} {o : Obj} (e : h.get? a = some o) (n : h.get? b = none) : b ≠ a := fun q => by rw [q, e] at n; cases n

/-- the first name set -/
theorem TS.att1 {x : Str} {name : Str} {xp ap pos : Pos} {e : Expr} {rest : List Stmt} {O : Out → Prop} {P : VP} {a : Addr} {o : Obj} {fd : FuncData} (hl : ρ.lookup x = some (attP a [])) (hown : c.own = [(a, o)]) (hc : o.cls = .type "function") (hd : o.data = .func fd) (hdn : o.dict = none)
    (hB : typeLookup (.type "function") name = pure none) (ev : EvE W A c ρ e P)
    (t : ∀ d od v, NsO od (fun y => if y = name then some v else none) → TS W A (c.on [(a, { o with dict := some d }), (d, od)]) ((x, attP a [(v, P)]) :: ρ) rest O)
    (hs : swapsWith e (some (.Attribute (.Name x xp) name ap)) pos.line c.env = pure false := by rfl) (hx1 : (x == ("__debug__" : Str)) = false := by decide) (hx2 : (x == ("__classdict__" : Str)) = false := by decide) :
    TS W A c ρ (.Assign [.Attribute (.Name x xp) name ap] e pos :: rest) O :=
  TS.cons fun h s E st => plainObj_wpAny_Assign_Attribute (ev h s _ _ st fun v h₁ s₁ x₁ p₁ => EvE.name (P := attP a []) hl hx1 hx2 h₁ s₁ _ _ (st.ext x₁) fun u h₂ s₂ x₂ p₂ => by
    obtain ⟨rfl, _⟩ := p₂
    have st₂ := st.ext (x₁.tr x₂)
    obtain ⟨ea, _⟩ := st₂.own (a, o) (by rw [hown]; exact List.mem_singleton.mpr rfl)
    refine fn_set (ns := []) (m := fun _ => none) ea hc hd hB (.inl ⟨hdn, fun _ => rfl⟩) Within.nil (by decide) fun d od h' tk hdd hne e1 n1 e2 hk => ?_
    have hfr : s₂.heap.get? d = none := by
      rcases hdd with q | q
      · rw [hdn] at q; cases q
      · exact q.2
    obtain ⟨mv, st₃⟩ := st₂.rewrite (own' := [(a, { o with dict := some d }), (d, od)]) (h₁ := h') (t := tk) (fun p hp v q => by rw [hown] at hp; obtain rfl := List.mem_singleton.mp hp; rw [hd] at q; cases q)
      (fun b ob hb eb => hk b ob (fun q => hb (by rw [hown, q]; simp)) (fun q => by rw [q, hfr] at eb; cases eb) eb)
      (fun p hp => by simp at hp; rcases hp with rfl | rfl; exact e2; exact e1) (fun b hb => by
        simp at hb
        rcases hb with rfl | rfl
        · exact .inl (by rw [hown]; simp)
        · exact .inr hfr) (by simpa using hne.symm)
    refine ⟨.next _ _, h₂, t d od v n1, rfl, (Mv.of st (x₁.tr x₂)).tr mv, ?_⟩
    exact St.learn (c := c.on [(a, { o with dict := some d }), (d, od)]) (P := attP a []) st₃ hl fun u q => ⟨q.1, fun q' hq' => by obtain rfl := List.mem_singleton.mp hq'; exact P.mono x₂.le p₁⟩) hs
/-- a further name set -/
theorem TS.att2 {x : Str} {name : Str} {xp ap pos : Pos} {e : Expr} {rest : List Stmt} {O : Out → Prop} {P : VP} {a d : Addr} {o od : Obj} {fd : FuncData} {m : Str → Option Value} {ns : List Str} {l : List (Value × VP)} (hl : ρ.lookup x = some (attP a l)) (hown : c.own = [(a, o), (d, od)]) (hc : o.cls = .type "function") (hd : o.data = .func fd) (hdn : o.dict = some d)
    (hn : NsO od m) (hw : Within m ns) (hns : ns.length ≤ 100) (hB : typeLookup (.type "function") name = pure none) (ev : EvE W A c ρ e P)
    (t : ∀ od v, NsO od (fun y => if y = name then some v else m y) → TS W A (c.on [(a, o), (d, od)]) ((x, attP a ((v, P) :: l)) :: ρ) rest O)
    (hs : swapsWith e (some (.Attribute (.Name x xp) name ap)) pos.line c.env = pure false := by rfl) (hx1 : (x == ("__debug__" : Str)) = false := by decide) (hx2 : (x == ("__classdict__" : Str)) = false := by decide) :
    TS W A c ρ (.Assign [.Attribute (.Name x xp) name ap] e pos :: rest) O :=
  TS.cons fun h s E st => plainObj_wpAny_Assign_Attribute (ev h s _ _ st fun v h₁ s₁ x₁ p₁ => EvE.name (P := attP a l) hl hx1 hx2 h₁ s₁ _ _ (st.ext x₁) fun u h₂ s₂ x₂ p₂ => by
    obtain ⟨rfl, _⟩ := p₂
    have st₂ := st.ext (x₁.tr x₂)
    obtain ⟨ea, _⟩ := st₂.own (a, o) (by rw [hown]; simp)
    obtain ⟨ed, _⟩ := st₂.own (d, od) (by rw [hown]; simp)
    have hnd : a ≠ d := by have := st.nodup; rw [hown] at this; simpa using this
    refine fn_set (ns := ns) (m := m) ea hc hd hB (.inr ⟨d, hdn, hnd.symm, hn _ _ ed⟩) hw hns fun d' od' h' tk hdd hne e1 n1 e2 hk => ?_
    have hdd' : d' = d := by
      rcases hdd with q | q
      · rw [hdn] at q; cases q; rfl
      · rw [hdn] at q; cases q.1
    subst hdd'
    have eo : ({ o with dict := some d' } : Obj) = o := by cases o; simp only at hdn; subst hdn; rfl
    rw [eo] at e2
    obtain ⟨mv, st₃⟩ := st₂.rewrite (own' := [(a, o), (d', od')]) (h₁ := h') (t := tk) (fun p hp v q => by
        rw [hown] at hp; simp at hp
        rcases hp with rfl | rfl
        · rw [hd] at q; cases q
        · obtain ⟨o', es, ep, f1, f2, _⟩ := hn _ _ ed
          rw [ed] at f1; cases f1; rw [f2] at q; cases q)
      (fun b ob hb eb => hk b ob (fun q => hb (by rw [hown, q]; simp)) (fun q => hb (by rw [hown, q]; simp)) eb)
      (fun p hp => by simp at hp; rcases hp with rfl | rfl; exact e2; exact e1) (fun b hb => by
        simp at hb
        rcases hb with rfl | rfl
        · exact .inl (by rw [hown]; simp)
        · exact .inl (by rw [hown]; simp)) (by simpa using hnd)
    refine ⟨.next _ _, h₂, t od' v n1, rfl, (Mv.of st (x₁.tr x₂)).tr mv, ?_⟩
    exact St.learn (c := c.on [(a, o), (d', od')]) (P := attP a l) st₃ hl fun u q => ⟨q.1, fun q' hq' => by
      rcases List.mem_cons.mp hq' with rfl | hq'
      · exact P.mono x₂.le p₁
      · exact q.2 q' hq'⟩) hs

/-- a function object with names that stands -/
def isAtt (l : List (Str × VP)) : VP where
  p h v := ∃ a o fd d od m, v = .ref a ∧ h.get? a = some o ∧ o.cls = .type "function" ∧ o.data = .func fd ∧ o.dict = some d ∧ h.get? d = some od ∧ NsO od m ∧ ∀ n P, l.lookup n = some P → ∃ u, m n = some u ∧ P.p h u
  mono := by
    rintro h h' v le ⟨a, o, fd, d, od, m, e, g, hc, hd, hdd, g', n, r⟩
    exact ⟨a, o, fd, d, od, m, e, le _ _ g, hc, hd, hdd, le _ _ g', n, fun n P q => let ⟨u, e, p⟩ := r n P q; ⟨u, e, P.mono le p⟩⟩

theorem tru_att {l : List (Str × VP)} : Tru W A (isAtt l) true := by
  rintro h s v Q E ok ⟨a, o, fd, d, od, m, rfl, g, hc, _⟩ k
  exact fn_true (ok.le _ _ g) hc (k h s (Ext.rf ok))

def VFn (F : VP) : Prop := ∀ h v, F.p h v → ∃ b, v = .ref b ∧ isFn b h
theorem VFn.clo {T : CloT} {D : List VP} {ρf : Rho} : VFn (isClo T D ρf) := by
  rintro h v ⟨a, o, pm, cv, ctv, clos, dV, rfl, g, hc, hd, _⟩
  exact ⟨a, rfl, o, _, g, hd⟩
def VSpec (W : Wd) (n : Nat) (F : VP) (Ps : List VP) (R : VP) : Prop := ∀ A, Rm A n → ∀ (h : Heap) (s : Shared) (f : Value) (vs : List Value) (Q : Value → Shared → Prop) (E : Value → Shared → Prop), Ok W h s → F.p h f → All2 h Ps vs →
    (∀ v h' s', Ext W h s h' s' → R.p h' v → Q v s') → wpAny W.M A (call f vs) Q E s

theorem EvE.attCall {o : Expr} {name : Str} {apos pos : Pos} {args : List Expr} {pl : Sem Bool} {l : List (Str × VP)} {F : VP} {Qs : List VP} {R : VP} {n : Nat} (rm : Rm A n) (ev : EvE W A c ρ o (isAtt l)) (hl : l.lookup name = some F) (hF : VFn F) (as : EvL W A c ρ args Qs) (k : VSpec W n F Qs R)
    (hB : typeLookup (.type "function") name = pure Option.none)
    (he : eval (.Call (.Attribute o name apos) args [] pos) c.env = (do
      let ov ← eval o c.env
      standAt apos.atName
      let (f, first) ← holding [ov] (getMethod ov name pl)
      callWith pos f first (backTo pos (starEach args c.env)) []) := by rfl)
    (hs : args = [] ∨ ∃ e r, args = e :: r ∧ starEach (e :: r) c.env = (false, eval e c.env) :: starEach r c.env := by first | exact .inl rfl | exact .inr ⟨_, _, rfl, rfl⟩) : EvE W A c ρ (.Call (.Attribute o name apos) args [] pos) R := fun h s Q E st kk =>
  MethodCall_ (ev h s _ _ st fun v h₁ s₁ x₁ p₁ => by
    obtain ⟨a, ob, fd, d, od, m, rfl, g, hc, hd, hdd, g', nn, r⟩ := p₁
    obtain ⟨u, eu, pu⟩ := r name F hl
    obtain ⟨b, rfl, fb⟩ := hF _ _ pu
    refine fn_method (x₁.ok.le _ _ g) hc hd hB hdd (nn _ _ (x₁.ok.le _ _ g')) eu rfl ?_
    have x₂ := x₁.ok.toks (s₁.toks + 1)
    exact callWith_F (first := []) (st.ext (x₁.tr x₂)) fb as (fun vs h₃ s₃ x₃ p₃ => k A rm h₃ s₃ _ vs _ _ x₃.ok (F.mono x₃.le pu) p₃ fun v h' s' x p => kk v h' s' (((x₁.tr x₂).tr x₃).tr x) p) hs) he

theorem VSpec.expr {n : Nat} {T : CloT} {ρf ρb : Rho} {e : Expr} {Ps : List VP} {R : VP} (hb : T.body = .expr e) (fo : ∀ clos dV pm cv ctv, FdOk (fnD T.name T.qual T.params T.body T.scope clos dV pm cv ctv))
    (bind : ∀ h s vs clos pm cv ctv, Ok W h s → All2 h Ps vs → ∃ binds, BindsTo s (fnD T.name T.qual T.params T.body T.scope clos .none pm cv ctv) ⟨vs, []⟩ binds ∧ Bd h binds ρb)
    (hw : ∀ a L clos pm cv ctv, ∀ x ∈ ρb.map (·.1), Wr (fCx (fnD T.name T.qual T.params T.body T.scope clos .none pm cv ctv) a L) x)
    (t : ∀ A a L clos pm cv ctv, Rm A n → EvE W A (fCx (fnD T.name T.qual T.params T.body T.scope clos .none pm cv ctv) a L) (ρb.reverse ++ ρf) e R) : VSpec W (n + 1) (isClo T [] ρf) Ps R := by
  rintro A rm h s f vs Q E ok ⟨a, o, pm, cv, ctv, clos, dV, rfl, g, hc, hd, hcr, hD, cp⟩ al k
  obtain ⟨_, rfl⟩ : ([] : List VP) = [] ∧ dV = .none := by
    rcases hD with q | q
    · exact q
    · exact absurd rfl q.1
  exact call_expr ok rm g hd hcr (fo _ _ _ _ _) hb cp.fre cp.cel cp.ap (bind h s vs clos pm cv ctv ok al) (hw a · clos pm cv ctv) (fun A L r => t A a L clos pm cv ctv r) k

end Mine

namespace Mine
variable {W : Wd} {A : Around} {c : Cx} {ρ : Rho}

def celG (names : List (Str × NameKind)) (cells : List (Str × Addr)) (x : Str) (P : VP) : VP := match names.lookup x, cells.lookup x with
  | some .cell, some b => celP b P
  | _, _ => P
def celR (names : List (Str × NameKind)) (cells : List (Str × Addr)) (ρ : Rho) : Rho := ρ.map fun p => (p.1, celG names cells p.1 p.2)
theorem celR_lookup (names : List (Str × NameKind)) (cells : List (Str × Addr)) : ∀ (ρ : Rho) (y : Str), (celR names cells ρ).lookup y = (ρ.lookup y).map (celG names cells y)
  | [], y => rfl
  | (x, P) :: ρ, y => by
    show ((x, celG names cells x P) :: celR names cells ρ).lookup y = _
    rw [List.lookup_cons, List.lookup_cons]
    cases hb : y == x with
    | true => rw [beq_iff_eq.mp hb]; rfl
    | false => exact celR_lookup names cells ρ y

theorem FnSpec.mkCel {n : Nat} {a : Addr} {fd : FuncData} {body : List Stmt} {Ps : List VP} {ρb : Rho} {R : VP}
    (hob : ∀ h, W.G h → ∃ o, h.get? a = some o ∧ o.data = .func fd ∧ h.CodeRec fd.code fd.qualname) (fo : FdOk fd) (hb : fd.body = .stmts body) (hcl : fd.closure = [])
    (bind : ∀ h s vs, Ok W h s → All2 h Ps vs → ∃ binds, BindsTo s fd ⟨vs, []⟩ binds ∧ Bd h binds ρb) (hw : ∀ L, ∀ x ∈ ρb.map (·.1), Wr (fCx fd a L) x)
    (t : ∀ A L, Rm A n → TS W A (fCx fd a L).still (celR fd.scope.names (fCx fd a L).env.cells ρb.reverse) body (fun o => o = .ret R)) : FnSpec W (n + 1) (.ref a) Ps R :=
  FnSpec.mkStill hob fo hb hcl bind hw fun A L h s rm st hc => by
    refine wpAny_mono (t A L rm h s (fun _ _ => False) ?_) (fun f s' ⟨o, h', e, r⟩ => ?_) fun _ _ e => e
    · refine { st with rd := ?_ }
      intro y P' e
      rw [celR_lookup] at e
      obtain ⟨P, hP, rfl⟩ := Option.map_eq_some_iff.mp e
      obtain ⟨v, r, p⟩ := st.rd y P hP
      refine ⟨v, r, ?_⟩
      unfold celG
      split
      · rename_i b e1 e2
        refine ⟨p, ?_⟩
        obtain ⟨v', q, p'⟩ := hc y P b hP e1 e2
        have q' : s.heap.IsCell b (some v') := q.keeps st.ok.le
        rcases r with ⟨k, _⟩ | ⟨_, b', l, q2⟩
        · have k' : fd.scope.names.lookup y = some .local := k
          rw [e1] at k'; cases k'
        · rw [e2] at l; cases l
          obtain ⟨o1, f1, d1⟩ := q'
          obtain ⟨o2, f2, d2⟩ := q2
          rw [f1] at f2; cases f2; rw [d1] at d2; cases d2
          exact q
      · exact p
    · subst e; exact ⟨h', r⟩

end Mine

namespace Mine
variable {W : Wd} {A : Around} {c : Cx} {ρ : Rho}

theorem Ext.xt {h₀ h h' : Heap} {s₀ s s' : Shared} {X : Addr → Prop} {Xg : Nat → Prop} (x : Ext W h₀ s₀ h s) (y : Xt W X Xg h s h' s') (hX : ∀ a, X a → s₀.heap.get? a = none) (hg : ∀ i, Xg i → s₀.gens[i]? = none) : Ext W h₀ s₀ h' s' where
  ok := y.ok
  le := x.le.tr y.le
  new := fun a o e => by obtain ⟨o', e'⟩ := x.live e; rw [y.new a o' e', x.new a o e]
  keep := fun b o e ht => y.keep b o (x.keep b o e ht) ht fun q => by rw [hX b q] at e; cases e
  gens := fun i z e => y.gens i z (x.gens i z e) fun q => by rw [hg i q] at e; cases e
  os := y.os.trans x.os
/-- a new object that is still apart is written -/
theorem Ext.upd {h₀ h h₁ : Heap} {s₀ s : Shared} {S : Addr} (x : Ext W h₀ s₀ h s) (hS : s₀.heap.get? S = none) (hb : h.get? S = none) (ht : S ∉ W.tb) (hk : ∀ b o, b ≠ S → s.heap.get? b = some o → h₁.get? b = some o) (t : Nat) : Ext W h₀ s₀ h { s with heap := h₁, toks := t } where
  ok := ⟨fun b o e => hk b o (fun q => by rw [q, hb] at e; cases e) (x.ok.le b o e), x.ok.g, x.ok.tn, fun P hP => let ⟨ps, e, r⟩ := x.ok.tab P hP; ⟨ps, hk P _ (fun q => ht (q ▸ hP)) e, r⟩, x.ok.bare⟩
  le := x.le
  new := x.new
  keep := fun b o e q => hk b o (fun r => by rw [r, hS] at e; cases e) (x.keep b o e q)
  gens := x.gens
  os := x.os
theorem Ext.adopt {h₀ h : Heap} {s₀ s : Shared} {S : Addr} {o : Obj} (x : Ext W h₀ s₀ h s) (hS : s₀.heap.get? S = none) (e : s.heap.get? S = some o) (ht : S ∉ W.tb) : ∃ h', Le h h' ∧ h'.get? S = some o ∧ Ext W h₀ s₀ h' s ∧ ∀ a, a ≠ S → h'.get? a = h.get? a := by
  let h' := restr s.heap fun i => (h.get? i).isSome || decide (i = S)
  have hle : Le h h' := fun b ob e => by
    show (restr _ _).get? b = _
    rw [restr_get, if_pos (by simp [e])]; exact x.ok.le _ _ e
  have hold : ∀ a, a ≠ S → h'.get? a = h.get? a := fun a hn => by
    show (restr _ _).get? a = _
    rw [restr_get]
    cases e : h.get? a with
    | none => rw [if_neg]; simp [e, hn]
    | some ob => rw [if_pos (by simp [e])]; exact x.ok.le _ _ e
  have hnew : h'.get? S = some o := by
    show (restr _ _).get? S = _
    rw [restr_get, if_pos (by simp)]; exact e
  refine ⟨h', hle, hnew, ⟨⟨fun b ob e => ?_, W.gmono hle x.ok.g, fun P hP => ?_, fun P hP => ?_, x.ok.bare⟩, x.le.tr hle, fun a ob e => ?_, x.keep, x.gens, x.os⟩, hold⟩
  · have e' : (restr _ _).get? b = some ob := e
    rw [restr_get] at e'
    split at e'
    · exact e'
    · cases e'
  · rw [hold P (fun q => ht (q ▸ hP))]; exact x.ok.tn P hP
  · obtain ⟨ps, e, t, cc⟩ := x.ok.tab P hP
    exact ⟨ps, e, t, fun pos cv q => (cc pos cv q).keeps hle⟩
  · rw [hold a (fun q => by rw [q, hS] at e; cases e), x.new a ob e]

abbrev lsO (vs : Array Value) (c : Nat) : Obj := { cls := .type "list", dict := none, data := .seq vs c, slots := #[] }

theorem extend_loop {it : Value} {Xg : Nat → Prop} {J : (Addr → Prop) → List VP → Heap → Shared → Prop} {R : Result → Shared → Prop} {h₀ : Heap} {s₀ : Shared} {S : Addr} {res : Value} (itr : Itr W A.in1 it Xg J) (hS0 : s₀.heap.get? S = none) (ht : S ∉ W.tb) (hg : ∀ i, Xg i → s₀.gens[i]? = none) :
    ∀ (Ps Ds : List VP) (X : Addr → Prop) (h : Heap) (s : Shared) (acc : Array Value) (cn : Nat), Ext W h₀ s₀ h s → J X Ps h s → s.heap.get? S = some (lsO acc cn) → h.get? S = none → (∀ a, X a → s₀.heap.get? a = none ∧ a ≠ S) → All2 h Ds acc.toList → Ds.length + Ps.length ≤ 1000000 →
    (∀ h' s' acc' c', Ext W h₀ s₀ h' s' → s'.heap.get? S = some (lsO acc' c') → h'.get? S = none → All2 h' (Ds ++ Ps) acc'.toList → R (.ok (.ret res)) s') →
    codeAny W.M A (.builtin "list.extend.loop" ⟨[.ref S, it, res], []⟩) R s
  | [], Ds, X, h, s, acc, cn, x, hJ, hS, hb, hX, al, hz, k => by
    refine codeAny_builtin F.entry_extend_loop ?_
    rw [Around.under_plainId F.plain_extend_loop _]
    show wpAny _ A.in1 (pyNext it >>= _) _ _ s
    refine wpAny_bind (itr.done X h s _ _ x.ok hJ fun h' s' xt => ?_)
    refine wpAny_pure (k h' s' acc cn (x.xt xt (fun a q => (hX a q).1) hg) (xt.keep S _ hS ht fun q => (hX S q).2 rfl) ?_ ?_)
    · rw [xt.new S _ hS]; exact hb
    · rw [List.append_nil]; exact al.mono xt.le
  | P :: Ps, Ds, X, h, s, acc, cn, x, hJ, hS, hb, hX, al, hz, k => by
    refine codeAny_builtin F.entry_extend_loop ?_
    rw [Around.under_plainId F.plain_extend_loop _]
    show wpAny _ A.in1 (pyNext it >>= _) _ _ s
    refine wpAny_bind (itr.step X P Ps h s _ _ x.ok hJ fun v h' s' X' xt hX' p hJ' => ?_)
    have hS' : s'.heap.get? S = some (lsO acc cn) := xt.keep S _ hS ht fun q => (hX S q).2 rfl
    have hb' : h'.get? S = none := by rw [xt.new S _ hS]; exact hb
    have x' := x.xt xt (fun a q => (hX a q).1) hg
    have hlen : acc.size = Ds.length := by rw [← Array.length_toList, al.len]
    simp only [List.length_cons] at hz
    have hXX : ∀ a, X' a → s₀.heap.get? a = none ∧ a ≠ S := fun a ha => by
      rcases hX' a ha with q | q
      · exact hX a q
      · refine ⟨?_, fun e => by rw [e, hS] at q; cases q⟩
        cases e : s₀.heap.get? a with
        | none => rfl
        | some o => obtain ⟨o', e'⟩ := x.live e; rw [q] at e'; cases e'
    show wpAny _ A.in1 (updateSeq S (·.push v) >>= _) _ _ _
    refine wpAny_bind (wpAny_updateSeq hS' rfl (wpAny_pure ⟨plainId_quiet F.plain_extend_loop _, ?_⟩) (by simp only [sizeLine]; omega) (by show (acc.push v).size ≤ sizeLine + 1; rw [Array.size_push]; simp only [sizeLine]; omega))
    have oth : ∀ b o, b ≠ S → s'.heap.get? b = some o → (s'.heap.update S (Obj.mapSeq (·.push v))).get? b = some o := fun b o hb e => (Heap.get?_update_other _ _ (Ne.symm hb)).trans e
    have x'' := x'.upd hS0 hb' ht (h₁ := s'.heap.update S (Obj.mapSeq (·.push v))) oth s'.toks
    refine extend_loop itr hS0 ht hg Ps (Ds ++ [P]) X' h' _ (acc.push v) _ x'' (itr.frame X' Ps h' s' h' _ x'.ok x''.ok hJ' ⟨Le.rf _, fun a ha => ?_, fun _ _ => rfl, fun _ _ e => e⟩) (Heap.get?_update_self _ hS' rfl) hb' hXX ?_ ?_ fun h2 s2 acc2 c2 x2 e2 n2 al2 => k h2 s2 acc2 c2 x2 e2 n2 ?_
    · obtain ⟨⟨o, e, _⟩, _⟩ := itr.priv _ _ _ _ a x'.ok hJ' ha
      rw [e]; exact oth a o (hXX a ha).2 e
    · rw [Array.toList_push]; exact (al.mono xt.le).app ⟨p, trivial⟩
    · simp only [List.length_append, List.length_cons, List.length_nil]; omega
    · rw [List.append_assoc] at al2; exact al2

theorem call_list_itr {I : Addr} {Xg : Nat → Prop} {J : (Addr → Prop) → List VP → Heap → Shared → Prop} {h₀ h : Heap} {s₀ s : Shared} {X : Addr → Prop} {Ps : List VP} {Q : Value → Shared → Prop} {E : Value → Shared → Prop} (itr : Itr W A.in1.in1 (.ref I) Xg J) (hg : ∀ i, Xg i → s₀.gens[i]? = none)
    (x : Ext W h₀ s₀ h s) (hJ : J X Ps h s) (hX : ∀ a, X a → s₀.heap.get? a = none) (hT : ∃ o, h.get? I = some o ∧ o.cls = .type "generator") (hz : Ps.length ≤ 1000000)
    (k : ∀ v h' s', Ext W h₀ s₀ h' s' → (isLst Ps).p h' v → Q v s') : wpAny W.M A (call (.type "list") [.ref I]) Q E s := by
  refine callType_codes (Q₁ := fun obj s₁ => obj = .ref s.heap.objs.size ∧ s₁ = { s with heap := s.heap.push { cls := .type "list", data := .seq #[] } }) F.called_list (F.typeCall_list_1 _) F.entry_list_init
    (code_list_new _ ⟨rfl, rfl⟩) fun obj s₁ h₁ => ?_
  obtain ⟨rfl, rfl⟩ := h₁
  obtain ⟨oI, eI, cI⟩ := hT
  have hS : (s.heap.push { cls := .type "list", data := .seq #[] }).get? s.heap.objs.size = some { cls := .type "list", data := .seq #[] } := Heap.get?_push_size _ rfl
  have hSn : s.heap.get? s.heap.objs.size = none := Heap.get?_none_of_le (Nat.le_refl _)
  have hS0 : s₀.heap.get? s.heap.objs.size = none := by
    cases e : s₀.heap.get? s.heap.objs.size with
    | none => rfl
    | some o => obtain ⟨o', e'⟩ := x.live e; rw [hSn] at e'; cases e'
  have ht := x.ok.sizeNotTab
  have hb := x.ok.sizeNone
  have hSI : s.heap.objs.size ≠ I := Nat.ne_of_gt (Heap.lt_size (x.ok.le _ _ eI))
  have hXS : ∀ a, X a → a ≠ s.heap.objs.size := fun a ha q => by obtain ⟨⟨o, e, _⟩, _⟩ := itr.priv _ _ _ _ a x.ok hJ ha; rw [q, hSn] at e; cases e
  -- from the new list's state on
  have go : ∀ (s₂ : Shared) (cn : Nat), Ext W h₀ s₀ h s₂ → (∀ b o, b ≠ s.heap.objs.size → s.heap.get? b = some o → s₂.heap.get? b = some o) → s₂.gens = s.gens → s₂.heap.get? s.heap.objs.size = some (lsO #[] cn) →
      codeAny W.M A.in1 (.builtin "list.extend.loop" ⟨[.ref s.heap.objs.size, .ref I, .none], []⟩) (wants (fun r s₂ => r = .none ∧ Q (.ref s.heap.objs.size) s₂) E) s₂ := by
    intro s₂ cn x₂ hk hgn e₂
    refine extend_loop (A := A.in1) itr hS0 ht hg Ps [] X h s₂ #[] cn x₂ (itr.frame X Ps h s h s₂ x.ok x₂.ok hJ ⟨Le.rf _, fun a ha => ?_, fun _ _ => rfl, fun i z e => by rw [hgn]; exact e⟩) e₂ hb (fun a ha => ⟨hX a ha, hXS a ha⟩) trivial (by simpa using hz) fun h' s' acc' c' x' e' n' al => ⟨rfl, ?_⟩
    · obtain ⟨⟨o, e, _⟩, _⟩ := itr.priv _ _ _ _ a x.ok hJ ha
      rw [e]; exact hk a o (hXS a ha) e
    · obtain ⟨h'', l, g, x'', _⟩ := x'.adopt hS0 e' ht
      exact k _ h'' s' x'' ⟨_, acc'.toList, c', rfl, by simpa using g, by simpa using al.mono l⟩
  have hk1 : ∀ b o, s.heap.get? b = some o → (s.heap.push { cls := .type "list", data := .seq #[] }).get? b = some o := fun b o e => Heap.get?_push_of_some _ e
  refine ⟨⟨_, hS, rfl⟩, F.args_list_init_2 _ _, ?_⟩
  show wpAny _ A.in1.in1 (do let old ← Builtin.List.listItems (.ref s.heap.objs.size); Builtin.List.listUpdate (.ref s.heap.objs.size) (fun _ => #[]); letGo old.toList.reverse; Builtin.List.listExtendWith (.ref s.heap.objs.size) (.ref I) .none) _ _ _
  refine wpAny_bind ?_
  unfold Builtin.List.listItems
  refine wpAny_bind (wpAny_seqItems hS rfl (wpAny_pure ?_))
  show wpAny _ A.in1.in1 (updateSeq s.heap.objs.size (fun _ => #[]) >>= fun _ => letGo (#[] : Array Value).toList.reverse >>= fun _ => Builtin.List.listExtendWith (.ref s.heap.objs.size) (.ref I) .none) _ _ _
  refine wpAny_bind (wpAny_updateSeq hS rfl ?_)
  have hS₂ := Heap.get?_update_self (Obj.mapSeq (fun _ => (#[] : Array Value))) hS rfl
  have oth : ∀ b o, b ≠ s.heap.objs.size → (s.heap.push { cls := .type "list", data := .seq #[] }).get? b = some o → ((s.heap.push { cls := .type "list", data := .seq #[] }).update s.heap.objs.size (Obj.mapSeq (fun _ => (#[] : Array Value)))).get? b = some o :=
    fun b o hb e => (Heap.get?_update_other _ _ (Ne.symm hb)).trans e
  refine wpAny_bind (wpAny_letGo ?_)
  unfold Builtin.List.listExtendWith
  have hTI : ∀ (H : Heap) (t : Nat), (∀ b o, b ≠ s.heap.objs.size → s.heap.get? b = some o → H.get? b = some o) → ({ s with heap := H, toks := t } : Shared).TypeIs (.ref I) "generator" := fun H t hk => ⟨oI, hk _ _ hSI.symm (x.ok.le _ _ eI), cI⟩
  have k2 : ∀ b o, b ≠ s.heap.objs.size → s.heap.get? b = some o → ((s.heap.push { cls := .type "list", data := .seq #[] }).update s.heap.objs.size (Obj.mapSeq (fun _ => (#[] : Array Value)))).get? b = some o := fun b o hb e => oth b o hb (hk1 b o e)
  refine wpAny_bind (wpAny_typeOf (hTI _ _ k2) ?_)
  have h1 : Builtin.List.listSameRef (.ref s.heap.objs.size) (.ref I) = false := by simp [Builtin.List.listSameRef, hSI]
  have h2 : (Value.type "generator" == Value.type "list") = false := by decide
  have h3 : (Value.type "generator" == Value.type "tuple") = false := by decide
  simp only [h1, h2, h3, Bool.or_false, Bool.false_eq_true, if_false]
  have x2 := x.upd hS0 hb ht k2 s.toks
  have hJ2 := itr.frame X Ps h s h _ x.ok x2.ok hJ ⟨Le.rf _, fun a ha => by
    obtain ⟨⟨o, e, _⟩, _⟩ := itr.priv _ _ _ _ a x.ok hJ ha
    rw [e]; exact k2 a o (hXS a ha) e, fun _ _ => rfl, fun _ _ e => e⟩
  refine wpAny_bind (itr.self X Ps h _ _ _ x2.ok hJ2 ?_)
  refine wpAny_bind (wpAny_holding ?_)
  unfold Builtin.List.listLengthHint
  refine wpAny_bind (wpAny_specialOf (hTI _ _ k2) F.gen_no_len ?_)
  show wpAny _ A.in1.in1 (specialOf (Value.ref I) (Str.ofString "__length_hint__") >>= _) _ _ _
  refine wpAny_bind (wpAny_specialOf (hTI _ _ k2) F.gen_no_hint ?_)
  refine wpAny_pure ?_
  show wpAny _ A.in1.in1 (rule "list.extend.makes-room" >>= fun _ => Builtin.List.listTouch (.ref s.heap.objs.size) >>= fun _ =>
    again (.builtin "list.extend.loop" ⟨[.ref s.heap.objs.size, .ref I, .none], []⟩)) _ _ _
  refine wpAny_bind (wpAny_rule ?_)
  refine wpAny_bind ?_
  show wpAny _ A.in1.in1 (updateSeq s.heap.objs.size (·.push .none) >>= fun _ => updateSeq s.heap.objs.size (·.pop)) _ _ _
  refine wpAny_bind (wpAny_updateSeq hS₂ rfl ?_)
  have hS₃ := Heap.get?_update_self (Obj.mapSeq (·.push Value.none)) hS₂ rfl
  refine wpAny_updateSeq (hz := by seq_fits) hS₃ rfl ?_
  have hS₄ := Heap.get?_update_self (Obj.mapSeq (·.pop)) hS₃ rfl
  have k3 : ∀ b o, b ≠ s.heap.objs.size → s.heap.get? b = some o → ((((s.heap.push { cls := .type "list", data := .seq #[] }).update s.heap.objs.size (Obj.mapSeq (fun _ => (#[] : Array Value)))).update s.heap.objs.size (Obj.mapSeq (·.push Value.none))).update s.heap.objs.size (Obj.mapSeq (·.pop))).get? b = some o :=
    fun b o hb e => (Heap.get?_update_other _ _ (Ne.symm hb)).trans ((Heap.get?_update_other _ _ (Ne.symm hb)).trans (k2 b o hb e))
  exact wpAny_pure ⟨plainId_quiet F.plain_extend_loop _, go _ _ (x.upd hS0 hb ht k3 s.toks) k3 rfl hS₄⟩

/-- list(..) of the generator -/
theorem EvE.listGen {lx fx : Str} {fa : Addr} {fd : FuncData} {body : List Stmt} {np pos lp lpos : Pos} {arg : Expr} {x : Str} (G : GenFn W fx fa fd body) (rm : Rm A 1) (gl : GlB W lx (.type "list")) (hlx : c.env.kindOf lx = some .globalImplicit) (hx : c.env.kindOf fx = some .globalImplicit) (ev : EvE W A c ρ arg (isStr x)) (hz : (escs x).length ≤ 1000000)
    (hd : (fx == ("__debug__" : Str)) = false := by decide) (hdl : (lx == ("__debug__" : Str)) = false := by decide) (he : starEach [arg] c.env = [(false, eval arg c.env)] := by rfl)
    (hc : eval (.Call (.Name lx lp) [.Call (.Name fx np) [arg] [] pos] [] lpos) c.env = (do callWith lpos (← eval (.Name lx lp) c.env) [] (backTo lpos (starEach [.Call (.Name fx np) [arg] [] pos] c.env)) (backToKw lpos (keywordEach [] c.env))) := by rfl)
    (hs : starEach [.Call (.Name fx np) [arg] [] pos] c.env = (false, eval (.Call (.Name fx np) [arg] [] pos) c.env) :: starEach [] c.env := by rfl) :
    EvE W A c ρ (.Call (.Name lx lp) [.Call (.Name fx np) [arg] [] pos] [] lpos) (isLst ((escs x).map unitP)) := fun h s Q E st k => by
  have evl : EvE W A c ρ (.Name lx lp) (isVal (.type "list")) := EvE.blt gl hlx hdl
  refine Call_ (evl h s _ _ st fun v h₁ s₁ x₁ p₁ => ?_) hc
  obtain rfl : v = _ := p₁
  refine PyProof.Rows.callWith_type1 ?_ hs rfl
  refine wpAny_items_cons (evGen G rm hx ev (st.ext x₁) (fun a L g h' s' x₂ hL hg gj => wpAny_items_nil ?_) hd he) hs
  have hgen := (gj A).gen
  refine call_list_itr (A := A) (I := a) (itr := Itr.gen (A := A.in1.in1) (G.tx L) rm.hd (by have := rm.dp; exact Nat.lt_of_le_of_lt (Nat.le_add_right _ _) this)) (fun i q => ?_) x₂ (gj A.in1.in1) (fun b q => ?_) ?_ (by simpa using hz) fun v h'' s'' x₃ p => k v h'' s'' (x₁.tr x₃) p
  · rw [q]; exact hg
  · rw [q]; exact hL
  · obtain ⟨o, n1, n2, e, hc, _⟩ := hgen; exact ⟨o, e, hc⟩

end Mine

namespace Mine
variable {W : Wd} {A : Around} {c : Cx} {ρ : Rho}

theorem Mv.toExt' {own' : List (Addr × Obj)} {h h₁ h' : Heap} {s s₁ s' : Shared} (x : Ext W h s h₁ s₁) (m : Mv W c own' h₁ s₁ h' s') (hm : ∀ a ∈ c.muts, s.heap.get? a = none) (ho : ∀ a ∈ c.own.map (·.1), s.heap.get? a = none) : Ext W h s h' s' where
  ok := m.ok
  le := x.le.tr m.le
  new := fun a o e => by
    obtain ⟨o', e'⟩ := x.live e
    rw [m.new a o' e' (fun q => by rw [ho a q] at e; cases e), x.new a o e]
  keep := fun b o e ht => m.keep b o (x.keep b o e ht) ht (fun q => by rw [hm b q] at e; cases e) (fun q => by rw [ho b q] at e; cases e)
  gens := fun i z e => m.gens i z (x.gens i z e)
  os := m.os.trans x.os

/-- the frame of a comprehension -/
abbrev cpCx (scope : Scope) (L : Addr) (cl : List (Str × Addr)) (c : Cx) : Cx :=
  ⟨{ nEnv scope L cl c.env.qual none .none (some c.env) with scope := relabel scope c.env }, L :: (cellsFrom (L + 1) scope.names []).map (·.2), []⟩
structure CpN (c : Cx) (ρ : Rho) (scope : Scope) (cl : List (Str × Addr)) (ρf : Rho) : Prop where
  fre : ∀ x P, ρf.lookup x = some P → scope.names.lookup x = some .free ∧ ρ.lookup x = some P ∧ ∃ a, cl.lookup x = some a ∧ c.env.cells.lookup x = some a ∧ (c.env.kindOf x = some .cell ∨ c.env.kindOf x = some .free)
  cel : ∀ p ∈ cl, ∃ x P, ρ.lookup x = some P ∧ c.env.cells.lookup x = some p.2 ∧ (c.env.kindOf x = some .cell ∨ c.env.kindOf x = some .free)
  ap : cl.Pairwise fun x y => x.2 ≠ y.2
theorem CpN.none {scope : Scope} : CpN c ρ scope [] [] := ⟨fun x P e => (by cases e), fun p hp => (by cases hp), List.Pairwise.nil⟩
theorem lookup_relabel_free {env : Env} : ∀ {names : List (Str × NameKind)} {x : Str}, names.lookup x = some .free →
    (names.map fun (n, k) => if (k == NameKind.free && env.scope.kind == .function && env.kindOf n == some .cell) then (n, NameKind.cell) else (n, k)).lookup x = some .cell ∨
    (names.map fun (n, k) => if (k == NameKind.free && env.scope.kind == .function && env.kindOf n == some .cell) then (n, NameKind.cell) else (n, k)).lookup x = some .free
  | [], _, h => by simp at h
  | (n, k) :: r, x, h => by
    have ih := @lookup_relabel_free env r x
    show List.lookup x ((if (k == NameKind.free && env.scope.kind == .function && env.kindOf n == some .cell) = true then (n, NameKind.cell) else (n, k)) :: _) = _ ∨ List.lookup x ((if (k == NameKind.free && env.scope.kind == .function && env.kindOf n == some .cell) = true then (n, NameKind.cell) else (n, k)) :: _) = _
    cases hx : x == n with
    | true =>
      simp only [List.lookup_cons, hx] at h
      cases h
      by_cases hc : (NameKind.free == NameKind.free && env.scope.kind == .function && env.kindOf n == some .cell) = true
      · rw [if_pos hc]; exact .inl (by simp only [List.lookup_cons, hx])
      · rw [if_neg hc]; exact .inr (by simp only [List.lookup_cons, hx])
    | false =>
      simp only [List.lookup_cons, hx] at h
      by_cases hc : (k == NameKind.free && env.scope.kind == .function && env.kindOf n == some .cell) = true
      · rw [if_pos hc]; simp only [List.lookup_cons, hx]; exact ih h
      · rw [if_neg hc]; simp only [List.lookup_cons, hx]; exact ih h

theorem compLoop_go {elt target iter : Expr} {scope : Scope} {pos : Pos} {it acc : Value} {env : Env} {R : Result → Shared → Prop} {M : Model} {prog : Program} {w : World} (hM : M = model prog w) {s : Shared} (I : Nat → Shared → Prop)
    (turn : ∀ n s, I n s → wpAny M A (pyNext it) (fun r s₁ => match r with
      | none => R (.ok .next) s₁
      | some v => wpAny M A (letOwnedTupleGo target it v) (fun _ s₁' => wpAny M A (assign target env v) (fun _ s₂ => wpAny M A (eval elt env) (fun x s₃ =>
          wpAny M A (call (.builtin "list.append") [acc, x]) (fun _ s₄ => ∃ m, m < n ∧ I m s₄) (notedBy M A env fun e s' => R (.error e) s') s₃) (notedBy M A env fun e s' => R (.error e) s') s₂) (notedBy M A env fun e s' => R (.error e) s') s₁') (notedBy M A env fun e s' => R (.error e) s') s₁) (notedBy M A env fun e s' => R (.error e) s') s)
    (n : Nat) (h : I n s) : codeAny M A (.compLoop (.ListComp elt [⟨target, iter, [], 0⟩] scope pos) 0 it acc env) R s := by
  subst hM
  refine codeAny_loop rfl I (fun n s hI => ?_) n h
  show wpAny _ A ((compTurn (.ListComp elt [⟨target, iter, [], 0⟩] scope pos) 0 it acc env).onRaise (fun x => do noteFrame x env; theTreesLotGoes x)) _ _ s
  refine wpAny_noted ?_
  rw [compTurn_list1]
  refine wpAny_bind (wpAny_standAt (wpAny_bind (wpAny_mono (turn n s hI) (fun r s₁ h₁ => ?_) fun _ _ h' => h')))
  cases r with
  | none => exact wpAny_pure h₁
  | some v =>
    refine wpAny_bind (wpAny_mono h₁ (fun _ s₁' h₁' => wpAny_bind (wpAny_mono h₁' (fun _ s₂ h₂ => wpAny_bind (wpAny_bind (wpAny_mono h₂ (fun x s₃ h₃ => wpAny_bind (wpAny_mono h₃ (fun _ s₄ h₄ => wpAny_pure (wpAny_pure ⟨rfl, h₄⟩)) fun _ _ h' => h')) fun _ _ h' => h'))) fun _ _ h' => h')) fun _ _ h' => h')

/-- the loop of a comprehension, from the iterator on -/
theorem comp_loop {elt target iter : Expr} {scope : Scope} {pos : Pos} {it : Value} {X₀ : Addr → Prop} {Xg : Nat → Prop} {J : (Addr → Prop) → List VP → Heap → Shared → Prop} {Ps Rs : List VP} {ρf : Rho} {h₀ h₁ : Heap} {s₀ s₁ : Shared} {cx : Cx} {D : Addr} {cn : Nat} {R : Result → Shared → Prop}
    (itr : Itr W A it Xg J) (x₁ : Ext W h₀ s₀ h₁ s₁) (hJ : J X₀ Ps h₁ s₁) (hX : ∀ a, X₀ a → s₀.heap.get? a = none) (hXc : ∀ a, X₀ a → a ∉ cx.muts ∧ a ≠ D) (hg : ∀ i, Xg i → s₀.gens[i]? = none) (hm0 : ∀ a ∈ cx.muts, s₀.heap.get? a = none) (hD0 : s₀.heap.get? D = none)
    (st : St W (cx.on [(D, lsO #[] cn)]) ρf h₁ s₁) (hlen : Rs.length = Ps.length) (hz : Ps.length ≤ 1000000)
    (turn : ∀ (i : Nat) P own ρ', Ps[i]? = some P → Sub ρf ρ' → ∃ up P', AsT W A cx target P up ∧ Rs[i]? = some P' ∧ EvE W A (cx.on own) (up ρ') elt P' ∧ Sub ρf (up ρ'))
    (k : ∀ h s vs n, Ext W h₀ s₀ h s → St W (cx.on [(D, lsO vs n)]) ρf h s → All2 h Rs vs.toList → R (.ok .next) s) :
    codeAny W.M A (.compLoop (.ListComp elt [⟨target, iter, [], 0⟩] scope pos) 0 it (.ref D) cx.env) R s₁ := by
  refine compLoop_go rfl (fun n s => ∃ i h ρ' vs nn X, n = Ps.length - i ∧ i ≤ Ps.length ∧ Ext W h₀ s₀ h s ∧ St W (cx.on [(D, lsO vs nn)]) ρ' h s ∧ Sub ρf ρ' ∧ J X (Ps.drop i) h s ∧ (∀ a, X a → s₀.heap.get? a = none ∧ a ∉ cx.muts ∧ a ≠ D) ∧ All2 h (Rs.take i) vs.toList) ?_ Ps.length
    ⟨0, h₁, ρf, #[], cn, X₀, by simp, by simp, x₁, st, Sub.rf _, by simpa using hJ, fun a ha => ⟨hX a ha, hXc a ha⟩, by simp [All2]⟩
  rintro n s ⟨i, h, ρ', vs, nn, X, rfl, hi, x, st, hsub, hJ, hXX, al⟩
  have cr : ∀ {X : Addr → Prop} {h : Heap} {s : Shared} {ρ' : Rho} {vs : Array Value} {nn : Nat} {Ps : List VP}, St W (cx.on [(D, lsO vs nn)]) ρ' h s → J X Ps h s → (∀ a, X a → s₀.heap.get? a = none ∧ a ∉ cx.muts ∧ a ≠ D) →
      ∀ a, X a → a ∉ (cx.on [(D, lsO vs nn)]).muts ∧ a ∉ (cx.on [(D, lsO vs nn)]).own.map (·.1) ∧ ∀ v, ¬ s.heap.IsCell a v := by
    intro X h s ρ' vs nn Ps st hJ hXX a ha
    obtain ⟨⟨o, e, hc⟩, _, _⟩ := itr.priv _ _ _ _ a st.ok hJ ha
    refine ⟨(hXX a ha).2.1, by simpa using (hXX a ha).2.2, fun v ⟨o', e', d⟩ => ?_⟩
    rw [e] at e'; cases e'; exact hc v d
  by_cases hlt : i < Ps.length
  · rw [List.drop_eq_getElem_cons hlt] at hJ
    refine itr.step X _ _ h s _ _ x.ok hJ fun v h' s' X' xt hX' p hJ' => ?_
    have st' := st.xt xt (cr st hJ hXX)
    have x' := x.xt xt (fun a q => (hXX a q).1) hg
    have hXX' : ∀ a, X' a → s₀.heap.get? a = none ∧ a ∉ cx.muts ∧ a ≠ D := fun a ha => by
      rcases hX' a ha with q | q
      · exact hXX a q
      · refine ⟨?_, fun hm => ?_, fun e => ?_⟩
        · cases e : s₀.heap.get? a with
          | none => rfl
          | some o => obtain ⟨o', e'⟩ := x.live e; rw [q] at e'; cases e'
        · obtain ⟨o, e⟩ := st.liveMut hm; rw [q] at e; cases e
        · have := (st.own (D, lsO vs nn) (List.mem_singleton.mpr rfl)).1
          rw [e] at q; rw [q] at this; cases this
    refine itr.lot X' _ h' s' target v _ _ st'.ok hJ' ?_
    obtain ⟨up, P', as, hP', ev, hsub'⟩ := turn i Ps[i] [(D, lsO vs nn)] ρ' (by simp [hlt]) hsub
    refine as [(D, lsO vs nn)] ρ' h' s' v _ _ st' p fun h₂ s₂ m₂ st₂ => ?_
    have x₂ := m₂.toExt' x' hm0 (by simpa using hD0)
    refine ev h₂ s₂ _ _ st₂ fun y h₃ s₃ x₃ p₃ => ?_
    have st₃ := st₂.ext x₃
    have x₃' := x₂.tr x₃
    have hD := (st₃.own (D, lsO vs nn) (List.mem_singleton.mpr rfl)).1
    have hvl : vs.size = i := by
      have := al.len; simp only [Array.length_toList, List.length_take] at this; omega
    refine wpAny_list_append_plain (items := vs) ⟨nn, hD⟩ (fun h₄ ⟨nn', e₄⟩ hs₄ => ?_) (by simp only [sizeLine]; omega)
    obtain ⟨m₄, st₄⟩ := st₃.rewrite (own' := [(D, lsO (vs.push y) nn')]) (h₁ := h₄) (t := s₃.toks) (fun q hq v e => by obtain rfl := List.mem_singleton.mp hq; cases e)
      (fun b ob hb e => (hs₄.2 b (by simpa using hb)).trans e) (fun q hq => by obtain rfl := List.mem_singleton.mp hq; exact e₄) (fun a ha => .inl ha) (by simp)
    have x₄ := m₄.toExt' x₃' hm0 (by simpa using hD0)
    have f₄ : Fm X' h' s' h₃ { s₃ with heap := h₄, toks := s₃.toks } := by
      refine ⟨m₂.le.tr x₃.le, fun a ha => ?_, fun a ha => ?_, fun i z e => x₃.gens _ _ (m₂.gens _ _ e)⟩
      · obtain ⟨⟨o, e, _⟩, _, t⟩ := itr.priv _ _ _ _ a st'.ok hJ' ha
        rw [e]
        have e2 := m₂.keep a o e t (hXX' a ha).2.1 (by simpa using (hXX' a ha).2.2)
        exact (hs₄.2 a (hXX' a ha).2.2).trans (x₃.keep a o e2 t)
      · obtain ⟨⟨o, e, _⟩, _, t⟩ := itr.priv _ _ _ _ a st'.ok hJ' ha
        have e2 := m₂.keep a o e t (hXX' a ha).2.1 (by simpa using (hXX' a ha).2.2)
        rw [x₃.new a o e2, m₂.new a o e (by simpa using (hXX' a ha).2.2)]
    refine ⟨Ps.length - (i + 1), by omega, i + 1, h₃, up ρ', vs.push y, nn', X', rfl, hlt, x₄, st₄, hsub', itr.frame _ _ _ _ _ _ st'.ok x₄.ok hJ' f₄, hXX', ?_⟩
    rw [Array.toList_push, List.take_add_one, hP']
    exact (al.mono (xt.le.tr (m₂.le.tr x₃.le))).app ⟨p₃, trivial⟩
  · obtain rfl : i = Ps.length := by omega
    rw [List.drop_length] at hJ
    refine itr.done X h s _ _ x.ok hJ fun h' s' xt => ?_
    refine k h' s' vs nn (x.xt xt (fun a q => (hXX a q).1) hg) ((st.sub hsub).xt xt (cr st hJ hXX)) ?_
    rw [List.take_of_length_le (by omega)] at al
    exact al.mono xt.le

end Mine

namespace Mine
variable {W : Wd} {A : Around} {c : Cx} {ρ : Rho}

theorem comp_enter {elt target iter : Expr} {scope : Scope} {pos fpos : Pos} {cl : List (Str × Addr)} {Ps Rs : List VP} {ρf : Rho} {use : Option (Value → Sem Unit)} {h₀ : Heap} {s₀ : Shared} {Q : Value → Shared → Prop} {E : Value → Shared → Prop}
    (ev : EvI W A c ρ iter Ps) (st₀ : St W c ρ h₀ s₀) (hs : ∀ x, foldedSetIterable iter c.env x = pure x) (hclos : closureFor scope c.env = pure cl) (hkind : scope.kind = .function) (hun : unOk scope.names = true)
    (hnames : ∀ x ∈ scope.names, x.2 = .local → scope.names.lookup x.1 = some .local) (n : CpN c ρ scope cl ρf) (hlen : Rs.length = Ps.length) (hz : Ps.length ≤ 1000000)
    (turn : ∀ L (i : Nat) P own ρ', Ps[i]? = some P → Sub ρf ρ' → ∃ up P', AsT W A (cpCx scope L cl c) target P up ∧ Rs[i]? = some P' ∧ EvE W A ((cpCx scope L cl c).on own) (up ρ') elt P' ∧ Sub ρf (up ρ'))
    (k : ∀ D L h s m, Ext W h₀ s₀ h s → (isLst Rs).p h (.ref D) → s₀.heap.get? L = none → s.heap.Ns L m → h.get? L = none → L ∉ W.tb → compPost W.M A E use Q (.ref D) L (.ok .next) s) :
    wpAny W.M A (comprehension (.ListComp elt [⟨target, iter, [], 0⟩] scope pos) scope c.env fpos (newList []) false (eval iter c.env) use) Q E s₀ := by
  refine wpAny_comprehension_free (g := ⟨target, iter, [], 0⟩) (gs := []) rfl hs hclos hkind hnames ?_
  have evv := fun Q' k' => ev h₀ s₀ Q' E st₀ k'
  refine wpAny_mono (evv (fun it s₂ => wpAny W.M A (newList []) (fun acc s₃ =>
      wpAny W.M A (newFunctionEnv scope c.env.globals cl [] c.env.qual none .none (some c.env)) (fun cenv s₄ =>
        codeAny W.M A (.compStart (.ListComp elt [⟨target, iter, [], 0⟩] scope pos) 0 it acc { cenv with scope := relabel scope c.env }) (compPost W.M A E use Q acc cenv.locals) s₄) E s₃) E s₂) ?_) (fun v s₁ hq => ?_) fun _ _ e => e
  · intro it X Xg J h₂ s₂ x₂ itr hJ hX hg
    refine wpAny_newObj_type ?_ (by size_fits)
    have x₃ := x₂.tr (x₂.ok.pushOut { cls := .type "list", data := .seq ([] : List Value).toArray } s₂.toks)
    have hD : (s₂.heap.push { cls := .type "list", data := .seq ([] : List Value).toArray }).get? s₂.heap.objs.size = some { cls := .type "list", data := .seq ([] : List Value).toArray } := Heap.get?_push_size _ rfl
    have hDn : s₂.heap.get? s₂.heap.objs.size = none := Heap.get?_none_of_le (Nat.le_refl _)
    have dead : ∀ {a : Addr}, s₂.heap.get? a = none → s₀.heap.get? a = none := fun {a} q => by
      cases e : s₀.heap.get? a with
      | none => rfl
      | some o => obtain ⟨o', e'⟩ := x₂.live e; rw [q] at e'; cases e'
    have hDb := x₂.ok.sizeNone
    have hDt := x₂.ok.sizeNotTab
    have st₃ := st₀.ext x₃
    rw [st₀.env.glob]
    refine wpAny_newFrame (ρb := []) (ρf := ρf) x₃.ok hkind trivial (fun x P e => ?_) (fun p hp => ?_) n.ap (un_of hun) (fun p hp => by cases hp) (fun o e => by cases e; exact st₀.env.bi) fun s₄ x₄ st₄ => ?_
    · obtain ⟨f1, f2, a, f3, f4, f5⟩ := n.fre x P e
      obtain ⟨v, r, p⟩ := st₃.rd x P f2
      refine ⟨f1, a, v, f3, ?_, p⟩
      rcases r with ⟨kk, _⟩ | ⟨_, b, l, q⟩
      · rcases f5 with q | q <;> (rw [q] at kk; cases kk)
      · rw [f4] at l; cases l; exact q
    · obtain ⟨x, P, f2, f4, f5⟩ := n.cel p hp
      obtain ⟨v, r, _⟩ := st₃.rd x P f2
      rcases r with ⟨kk, _⟩ | ⟨_, b, l, q⟩
      · rcases f5 with q | q <;> (rw [q] at kk; cases kk)
      · rw [f4] at l; cases l; exact ⟨_, q⟩
    · dsimp only
      generalize hL : (s₂.heap.push { cls := .type "list", data := .seq ([] : List Value).toArray }).objs.size = L at st₄
      have hLn : (s₂.heap.push { cls := .type "list", data := .seq ([] : List Value).toArray }).get? L = none := Heap.get?_none_of_le (Nat.le_of_eq hL)
      have mfresh : ∀ a ∈ (cpCx scope L cl c).muts, (s₂.heap.push { cls := .type "list", data := .seq ([] : List Value).toArray }).get? a = none := fun a ha => by
        rcases List.mem_cons.mp ha with rfl | ha
        · exact hLn
        · obtain ⟨p, hp, rfl⟩ := List.mem_map.mp ha
          rcases cellsFrom_mem _ _ _ p hp with q | q
          · cases q
          · exact Heap.get?_none_of_le (Nat.le_trans (Nat.le_of_eq hL) (Nat.le_of_succ_le q.1))
      have back : ∀ {a : Addr}, (s₂.heap.push { cls := .type "list", data := .seq ([] : List Value).toArray }).get? a = none → s₂.heap.get? a = none := fun {a} q => by
        cases e : s₂.heap.get? a with
        | none => rfl
        | some o => have := Heap.get?_push_of_some { cls := .type "list", data := .seq ([] : List Value).toArray } e; rw [q] at this; cases this
      have x₀₄ := x₃.tr x₄
      have hDD : s₄.heap.get? s₂.heap.objs.size = some (lsO #[] 0) := x₄.keep _ _ hD hDt
      have hloc : (nEnv scope L cl c.env.qual none .none (some c.env)).locals = L := rfl
      -- the frame, relabelled, with the list as its own
      have st₅ : St W ((cpCx scope L cl c).on [(s₂.heap.objs.size, lsO #[] 0)]) ρf h₂ s₄ := by
        refine ⟨st₄.ok, ⟨hkind, st₄.env.glob, st₄.env.bi, st₄.env.mem, st₄.env.apart, st₄.env.celne⟩, st₄.ns, st₄.cel, st₄.mu, fun p hp => ?_, by simp, fun y P e => ?_⟩
        · obtain rfl := List.mem_singleton.mp hp
          exact ⟨hDD, hDb, fun hm => (by have := mfresh _ hm; rw [hD] at this; cases this), hDt⟩
        · obtain ⟨v, r, p⟩ := st₄.rd y P e
          refine ⟨v, ?_, p⟩
          rcases r with ⟨kk, m, nn, q⟩ | ⟨kk, b, l, q⟩
          · exact .inl ⟨lookup_relabel_local kk, m, nn, q⟩
          · have hf := (n.fre y P e).1
            exact .inr ⟨lookup_relabel_free hf, b, l, q⟩
      have hJ₄ : J X Ps h₂ s₄ := itr.frame _ _ _ _ _ _ x₂.ok x₀₄.ok hJ ⟨Le.rf _, fun a ha => by
        obtain ⟨⟨o, e, _⟩, _, t⟩ := itr.priv _ _ _ _ a x₂.ok hJ ha
        rw [e]; exact x₄.keep a o (Heap.get?_push_of_some _ e) t, fun _ _ => rfl, fun i z e => x₄.gens i z e⟩
      have loop : codeAny W.M A (.compLoop (.ListComp elt [⟨target, iter, [], 0⟩] scope pos) 0 it (.ref s₂.heap.objs.size) (cpCx scope L cl c).env) (compPost W.M A E use Q (.ref s₂.heap.objs.size) L) s₄ := by
        refine comp_loop (cx := cpCx scope L cl c) (ρf := ρf) itr x₀₄ hJ₄ hX (fun a ha => ?_) hg (fun a ha => dead (back (mfresh a ha))) (dead hDn) st₅ hlen hz (turn L) fun h s vs nn x st al => ?_
        · obtain ⟨⟨o, e, _⟩, _, t⟩ := itr.priv _ _ _ _ a x₂.ok hJ ha
          refine ⟨fun hm => ?_, fun q => by rw [q, hDn] at e; cases e⟩
          rw [back (mfresh a hm)] at e; cases e
        · obtain ⟨m, hn⟩ := st.ns
          have hLm : L ∈ (cpCx scope L cl c).muts := List.mem_cons_self ..
          obtain ⟨h', l, g, x', hold⟩ := x.adopt (dead hDn) (st.own _ (List.mem_singleton.mpr rfl)).1 hDt
          refine k _ L h' s m x' ⟨_, vs.toList, nn, rfl, by simpa using g, al.mono l⟩ (dead (back hLn)) hn ?_ (st.mutNotTab hLm)
          rw [hold L (fun q => by rw [q, hD] at hLn; cases hLn)]; exact st.mu _ hLm
      exact codeAny_compStart_list loop (itr.self _ _ _ _ _ _ x₀₄.ok hJ₄ loop)
  · have hq' := hq
    rw [hs] at hq'
    intro Γ p hΓ
    exact (hq' Γ p hΓ) Γ p hΓ

theorem EvE.comp {elt target iter : Expr} {scope : Scope} {pos : Pos} {cl : List (Str × Addr)} {Ps Rs : List VP} {ρf : Rho}
    (ev : EvI W A c ρ iter Ps) (hclos : closureFor scope c.env = pure cl) (n : CpN c ρ scope cl ρf) (hlen : Rs.length = Ps.length) (hz : Ps.length ≤ 1000000)
    (turn : ∀ L (i : Nat) P own ρ', Ps[i]? = some P → Sub ρf ρ' → ∃ up P', AsT W A (cpCx scope L cl c) target P up ∧ Rs[i]? = some P' ∧ EvE W A ((cpCx scope L cl c).on own) (up ρ') elt P' ∧ Sub ρf (up ρ'))
    (hkind : scope.kind = .function) (hun : unOk scope.names = true) (hnames : ∀ x ∈ scope.names, x.2 = .local → scope.names.lookup x.1 = some .local) (hs : ∀ x, foldedSetIterable iter c.env x = pure x := by intro _; rfl) :
    EvE W A c ρ (.ListComp elt [⟨target, iter, [], 0⟩] scope pos) (isLst Rs) := fun h s Q E st k => by
  rw [eval_ListComp]
  refine comp_enter (use := Option.none) ev st hs hclos hkind hun hnames n hlen hz turn fun D L h' s' m x p hL hn hb ht => ?_
  exact ⟨m, hn, fun h'' hsb => k _ h' _ (x.upd hL hb ht (fun b o hne e => (hsb.2 b hne).trans e) s'.toks) p⟩

theorem St.touch {h h' : Heap} {s : Shared} {L : Addr} (st : St W c ρ h s) (hk : ∀ b o, b ≠ L → s.heap.get? b = some o → h'.get? b = some o) (ht : L ∉ W.tb) (hb : h.get? L = none) (hm : L ∉ c.muts) (ho : L ∉ c.own.map (·.1)) (hc : ∀ v, ¬ s.heap.IsCell L v) : St W c ρ h { s with heap := h' } := by
  have ceU : ∀ {a v}, s.heap.IsCell a v → h'.IsCell a v := fun {a v} e => let ⟨ob, e1, d⟩ := e; ⟨ob, hk a ob (fun q => hc v (q ▸ e)) e1, d⟩
  have nsU : ∀ {m}, s.heap.Ns c.env.locals m → h'.Ns c.env.locals m := fun {m} e => e.at' fun ob e1 => hk _ ob (fun q => hm (q ▸ st.env.mem)) e1
  refine ⟨⟨fun b o e => hk b o (fun q => by rw [q, hb] at e; cases e) (st.ok.le b o e), st.ok.g, st.ok.tn, fun P hP => let ⟨ps, e, r⟩ := st.ok.tab P hP; ⟨ps, hk P _ (fun q => ht (q ▸ hP)) e, r⟩, st.ok.bare⟩, st.env, ?_, fun a ha => ?_, st.mu, fun p hp => ?_, st.nodup, fun y P e => ?_⟩
  · obtain ⟨m, e⟩ := st.ns; exact ⟨m, nsU e⟩
  · exact (st.cel a ha).imp id fun ⟨v, e⟩ => ⟨v, ceU e⟩
  · obtain ⟨e, r⟩ := st.own p hp; exact ⟨hk _ _ (fun q => ho (q ▸ List.mem_map_of_mem hp)) e, r⟩
  · obtain ⟨v, r, p⟩ := st.rd y P e
    refine ⟨v, ?_, p⟩
    rcases r with ⟨k, m, n, q⟩ | ⟨k, cc, l, q⟩
    · exact .inl ⟨k, m, nsU n, q⟩
    · exact .inr ⟨k, cc, l, ceU q⟩
theorem Mv.touch {own : List (Addr × Obj)} {h₀ h h' : Heap} {s₀ s : Shared} {L : Addr} (m : Mv W c own h₀ s₀ h s) (ok : Ok W h { s with heap := h' }) (hk : ∀ b o, b ≠ L → s.heap.get? b = some o → h'.get? b = some o) (h0 : s₀.heap.get? L = none) (hm : L ∉ c.muts) : Mv W c own h₀ s₀ h { s with heap := h' } where
  ok := ok
  le := m.le
  new := m.new
  keep := fun b o e ht hmm hn => hk b o (fun q => by rw [q, h0] at e; cases e) (m.keep b o e ht hmm hn)
  gens := m.gens
  os := m.os
  sub := m.sub
  mlive := fun a ha => let ⟨o, e⟩ := m.mlive a ha; ⟨o, hk a o (fun q => hm (q ▸ ha)) e⟩

theorem TS.comp {x : Str} {px spos : Pos} {elt target iter : Expr} {scope : Scope} {pos : Pos} {cl : List (Str × Addr)} {Ps Rs : List VP} {ρf : Rho} {rest : List Stmt} {O : Out → Prop}
    (ev : EvI W A c ρ iter Ps) (hclos : closureFor scope c.env = pure cl) (n : CpN c ρ scope cl ρf) (hlen : Rs.length = Ps.length) (hz : Ps.length ≤ 1000000)
    (turn : ∀ L (i : Nat) P own ρ', Ps[i]? = some P → Sub ρf ρ' → ∃ up P', AsT W A (cpCx scope L cl c) target P up ∧ Rs[i]? = some P' ∧ EvE W A ((cpCx scope L cl c).on own) (up ρ') elt P' ∧ Sub ρf (up ρ'))
    (hkind : scope.kind = .function) (hun : unOk scope.names = true) (hnames : ∀ x ∈ scope.names, x.2 = .local → scope.names.lookup x.1 = some .local) (hw : Wr c x) (t : TS W A c ((x, isLst Rs) :: ρ) rest O)
    (hsw : swapsWith (.ListComp elt [⟨target, iter, [], 0⟩] scope pos) (some (.Name x px)) spos.line c.env = pure true := by rfl) (hs : ∀ x, foldedSetIterable iter c.env x = pure x := by intro _; rfl) :
    TS W A c ρ (.Assign [.Name x px] (.ListComp elt [⟨target, iter, [], 0⟩] scope pos) spos :: rest) O :=
  TS.cons fun h s E st => by
    rw [exec_Assign_Name_used x px _ spos hsw]
    refine wpAny_bind (wpAny_standAt (wpAny_bind ?_))
    show wpAny W.M A (comprehension _ _ _ _ _ false (eval iter c.env) (some (PySem.assign (.Name x px) c.env)) >>= fun _ => pure ()) _ _ _
    refine wpAny_bind (comp_enter (use := some (PySem.assign (.Name x px) c.env)) ev st hs hclos hkind hun hnames n hlen hz turn fun D L h' s' m x₁ p hL hn hb ht => ?_)
    have hLm : L ∉ c.muts := fun hm => by obtain ⟨o, e⟩ := st.liveMut hm; rw [hL] at e; cases e
    have hLo : L ∉ c.own.map (·.1) := fun hm => by
      obtain ⟨q, hq, rfl⟩ := List.mem_map.mp hm
      have := (st.own q hq).1; rw [hL] at this; cases this
    refine wpAny_assign_Name (St.store (st.ext x₁) hw p fun s₂ m₂ st₂ => ?_)
    have hn₂ : s₂.heap.Ns L m := hn.at' fun ob e => m₂.keep L ob e ht hLm hLo
    refine ⟨m, hn₂, fun h'' hsb => wpAny_pure (wpAny_pure ?_)⟩
    have hk : ∀ b o, b ≠ L → s₂.heap.get? b = some o → h''.get? b = some o := fun b o hne e => (hsb.2 b hne).trans e
    have st₃ := st₂.touch hk ht hb hLm hLo fun v ⟨o, e, d⟩ => by
      obtain ⟨o', es, ep, e', d', _⟩ := hn₂
      rw [e] at e'; cases e'; rw [d] at d'; cases d'
    exact ⟨.next c.own _, h', t, rfl, ((Mv.of st x₁).tr m₂).touch st₃.ok hk hL hLm, st₃⟩

end Mine

namespace Mine
variable {W : Wd} {A : Around} {c : Cx} {ρ : Rho}

theorem TS.defn {name : Str} {args : Arguments} {body : List Stmt} {scope : Scope} {pos : Pos} {rest : List Stmt} {O : Out → Prop} {P : Addr} {qual : Str} {clos : List (Str × Addr)} {ρf : Rho} {d : Expr} {D : VP} (hq : qualnameIn c.env name name = qual) (mk : MkOk W c.env.code P pos qual) (hcl : closureFor scope c.env = pure clos) (n : CloN c ρ scope clos ρf)
    (ev : EvE W A c ρ d D) (hw : Wr c name) (t : TS W A c ((name, isClo ⟨name, qual, args, .stmts body, scope⟩ [D] ρf) :: ρ) rest O)
    (hdoc : docOf body = none := by rfl) (hdef : defaultsOf args c.env = ([eval d c.env], []) := by rfl) (hann : annTrees args none c.env = [] := by rfl) :
    TS W A c ρ (.FunctionDef name args body [] none [] scope none name pos :: rest) O :=
  TS.cons fun h s E st => by
    rw [exec_def, hdef, hann, hq]
    refine wpAny_bind (wpAny_standAt (wpAny_bind (wpAny_holding ?_)))
    refine wpAny_bind (wpAny_bind (ev h s _ _ st fun v h₁ s₁ x₁ p₁ => wpAny_bind (wpAny_holding (wpAny_pure (wpAny_pure (wpAny_bind (wpAny_holding (wpAny_pure (wpAny_holding (wpAny_bind (wpAny_pure ?_)))))))))))
    rw [makeFunction_eq]
    simp only [List.zip_nil_right, List.filterMap_nil, List.isEmpty_nil, List.isEmpty_cons, Bool.false_eq_true, if_false, if_true, pure_bind]
    refine wpAny_bind (wpAny_newTextTuple ?_)
    obtain ⟨h₂, x₂, g₂⟩ := x₁.ok.push { cls := .type "tuple", data := .seq [v].toArray } (t := s₁.toks)
    have st₂ := st.ext (x₁.tr x₂)
    refine mkTail (c := c) false x₂.ok st.env.glob mk hcl (by simp only [hdoc]) fun a pm cv ctv h' s' x _ _ hb hcr _ => ?_
    rw [if_neg (by decide)] at hb
    have pc : (isClo ⟨name, qual, args, .stmts body, scope⟩ [D] ρf).p h' (.ref a) := ⟨a, _, pm, cv, ctv, clos, _, rfl, hb, rfl, rfl, hcr, .inr ⟨by simp, _, [v], rfl, x.le _ _ g₂, ⟨D.mono (x₂.le.tr x.le) p₁, trivial⟩⟩, (CloN.go (T := ⟨name, qual, args, .stmts body, scope⟩) n st₂).mono x.le⟩
    refine wpAny_bind (wpAny_standAt (wpAny_bind (wpAny_bindName (St.store (st₂.ext x) hw pc fun s₃ m q => wpAny_pure ?_))))
    exact ⟨.next c.own _, h', t, rfl, (Mv.of st ((x₁.tr x₂).tr x)).tr m, q⟩

theorem VSpec.stmts {n : Nat} {T : CloT} {ρf ρb : Rho} {body : List Stmt} {Ps Ds : List VP} {R : VP} (hb : T.body = .stmts body) (fo : ∀ clos dV pm cv ctv, FdOk (fnD T.name T.qual T.params T.body T.scope clos dV pm cv ctv))
    (bind : ∀ h s vs clos dV pm cv ctv, Ok W h s → DefOk h dV Ds → All2 h Ps vs → ∃ binds, BindsTo s (fnD T.name T.qual T.params T.body T.scope clos dV pm cv ctv) ⟨vs, []⟩ binds ∧ Bd h binds ρb)
    (hw : ∀ a L clos dV pm cv ctv, ∀ x ∈ ρb.map (·.1), Wr (fCx (fnD T.name T.qual T.params T.body T.scope clos dV pm cv ctv) a L) x)
    (t : ∀ A a L clos dV pm cv ctv, Rm A n → TS W A (fCx (fnD T.name T.qual T.params T.body T.scope clos dV pm cv ctv) a L) (ρb.reverse ++ ρf) body (fun o => o = .ret R)) : VSpec W (n + 1) (isClo T Ds ρf) Ps R := by
  rintro A rm h s f vs Q E ok ⟨a, o, pm, cv, ctv, clos, dV, rfl, g, hc, hd, hcr, hD, cp⟩ al k
  exact call_stmts ok rm g hd hcr (fo _ _ _ _ _) hb cp.fre cp.cel cp.ap (bind h s vs clos dV pm cv ctv ok hD al) (hw a · clos dV pm cv ctv) (fun A L r => t A a L clos dV pm cv ctv r) k

end Mine

namespace Mine
variable {W : Wd} {A : Around} {c : Cx} {ρ : Rho}

/-! a list of one's own -/
def ownL (D : Addr) (vs : List Value) (Ps : List VP) : VP := ⟨fun h v => v = .ref D ∧ All2 h Ps vs, fun l x => ⟨x.1, x.2.mono l⟩⟩

theorem TS.lstOwn {x : Str} {px pos lp : Pos} {es : List Expr} {Ps : List VP} {rest : List Stmt} {O : Out → Prop} (hown : c.own = []) (hw : Wr c x) (a : EvL W A c ρ es Ps) (hz : Ps.length ≤ sizeLine)
    (t : ∀ D vs, TS W A (c.on [(D, lsO vs.toArray 0)]) ((x, ownL D vs Ps) :: ρ) rest O)
    (hs : swapsWith (.List es lp) (some (.Name x px)) pos.line c.env = pure false := by rfl) : TS W A c ρ (.Assign [.Name x px] (.List es lp) pos :: rest) O :=
  TS.cons fun h s E st => wpAny_Assign_Name (wpAny_List (a lp h s _ _ st fun vs h₁ s₁ x₁ p₁ => ⟨by rw [p₁.len]; exact hz, by
    have x₂ := x₁.ok.pushOut { cls := .type "list", data := .seq vs.toArray } s₁.toks
    have st₂ := st.ext (x₁.tr x₂)
    have hfr : s₁.heap.get? s₁.heap.objs.size = none := Heap.get?_none_of_le (Nat.le_refl _)
    have hfr0 : s.heap.get? s₁.heap.objs.size = none := by
      cases e : s.heap.get? s₁.heap.objs.size with
      | none => rfl
      | some o => obtain ⟨o', e'⟩ := x₁.live e; rw [hfr] at e'; cases e'
    have st₃ : St W (c.on [(s₁.heap.objs.size, lsO vs.toArray 0)]) ρ h₁ { s₁ with heap := s₁.heap.push { cls := .type "list", data := .seq vs.toArray } } := by
      refine { st₂ with env := ⟨st.env.kind, st.env.glob, st.env.bi, st.env.mem, st.env.apart, st.env.celne⟩, own := ?_, nodup := by simp }
      intro p hp
      obtain rfl := List.mem_singleton.mp hp
      refine ⟨Heap.get?_push_size _ rfl, x₁.ok.sizeNone, fun hm => ?_, x₁.ok.sizeNotTab⟩
      obtain ⟨o, e⟩ := st.liveMut hm
      rw [hfr0] at e; cases e
    have m₃ : Mv W c [(s₁.heap.objs.size, lsO vs.toArray 0)] h s h₁ { s₁ with heap := s₁.heap.push { cls := .type "list", data := .seq vs.toArray } } := by
      refine { (Mv.of st (x₁.tr x₂)) with sub := ?_ }
      intro b hb
      obtain rfl : b = s₁.heap.objs.size := by simpa using hb
      exact .inr hfr0
    refine St.store (c := c.on [(s₁.heap.objs.size, lsO vs.toArray 0)]) (P := ownL s₁.heap.objs.size vs Ps) st₃ hw ⟨rfl, p₁⟩ fun s₂ m q => ?_
    exact ⟨.next _ _, h₁, t _ vs, rfl, m₃.tr m, q⟩⟩)) hs

theorem EvE.atOwn {x : Str} {xp pos : Pos} {slice : Expr} {D : Addr} {vs : List Value} {n : Nat} {Ps : List VP} {P : VP} {i : Int} {j : Nat} (hl : ρ.lookup x = some (ownL D vs Ps)) (ho : (D, lsO vs.toArray n) ∈ c.own) (b : EvE W A c ρ slice (isInt i)) (hi : i = j ∨ i = (j : Int) - Ps.length) (hP : Ps[j]? = some P) (hj : j < 1000000) (hn : Ps.length < 1000000)
    (hs : ∀ o i, subscripted slice false o i = operate [o, i] (getItem o i) := by intro _ _; rfl) (hx1 : (x == ("__debug__" : Str)) = false := by decide) (hx2 : (x == ("__classdict__" : Str)) = false := by decide) : EvE W A c ρ (.Subscript (.Name x xp) slice pos) P := fun h s Q E st k =>
  Subscript_ (EvE.name (P := ownL D vs Ps) hl hx1 hx2 h s _ _ st fun v₁ h₁ s₁ x₁ p₁ => b h₁ s₁ _ _ (st.ext x₁) fun v₂ h₂ s₂ x₂ p₂ => by
    obtain ⟨rfl, al⟩ := (ownL D vs Ps).mono x₂.le p₁
    obtain ⟨t, rfl⟩ := p₂
    have e := ((st.ext (x₁.tr x₂)).own _ ho).1
    have hl : s₂.heap.IsList D vs.toArray := ⟨_, e, rfl, n, rfl⟩
    exact tail_of hl.typeIs slot_list_getitem.lookup (hs _ _) (get_list (W := W) rfl hl al hi hP hj hn fun v p => k v h₂ s₂ (x₁.tr x₂) p))

theorem TS.appOwn {x : Str} {xp ap pos epos : Pos} {e : Expr} {rest : List Stmt} {O : Out → Prop} {P : VP} {D : Addr} {vs : List Value} {n : Nat} {Ps : List VP} {pl : Sem Bool} (hl : ρ.lookup x = some (ownL D vs Ps)) (hown : c.own = [(D, lsO vs.toArray n)]) (ev : EvE W A c ρ e P) (hz : Ps.length < 1000000)
    (t : ∀ v n', TS W A (c.on [(D, lsO (vs ++ [v]).toArray n')]) ((x, ownL D (vs ++ [v]) (Ps ++ [P])) :: ρ) rest O)
    (he : eval (.Call (.Attribute (.Name x xp) (Str.ofString "append") ap) [e] [] pos) c.env = (do
      let ov ← eval (.Name x xp) c.env
      standAt ap.atName
      let (f, first) ← holding [ov] (getMethod ov (Str.ofString "append") pl)
      callWith pos f first (backTo pos (starEach [e] c.env)) []) := by rfl)
    (hs : starEach [e] c.env = (false, eval e c.env) :: starEach [] c.env := by rfl)
    (hi : interactive c.env = false := by rfl) (hsw : swapsWith (.Call (.Attribute (.Name x xp) (Str.ofString "append") ap) [e] [] pos) none epos.line c.env = pure false := by rfl) (hx1 : (x == ("__debug__" : Str)) = false := by decide) (hx2 : (x == ("__classdict__" : Str)) = false := by decide) :
    TS W A c ρ (.Expr (.Call (.Attribute (.Name x xp) (Str.ofString "append") ap) [e] [] pos) epos :: rest) O :=
  TS.cons fun h s E st => wpAny_Expr_any (MethodCall_ (EvE.name (P := ownL D vs Ps) hl hx1 hx2 h s _ _ st fun v₁ h₁ s₁ x₁ p₁ => by
    obtain ⟨rfl, al⟩ := p₁
    have ho : (D, lsO vs.toArray n) ∈ c.own := by rw [hown]; simp
    have e1 := ((st.ext x₁).own _ ho).1
    have hl1 : s₁.heap.IsList D vs.toArray := ⟨_, e1, rfl, n, rfl⟩
    refine getMethod_list_of F.slot_list_append F.type_list_append hl1 ⟨_, e1, rfl⟩ ?_
    refine callWith_method1 ((EvL.cons ev .nil hs) pos h₁ s₁ _ _ (st.ext x₁) fun ws h₂ s₂ x₂ p₂ => ?_) hs rfl
    match ws, p₂ with
    | [v], ⟨p, _⟩ =>
      have st₂ := st.ext (x₁.tr x₂)
      have e2 := (st₂.own _ ho).1
      refine wpAny_list_append_plain (items := vs.toArray) ⟨n, e2⟩ (fun h₄ ⟨nn', e₄⟩ hs₄ => ?_) (by simp only [List.size_toArray, al.len, sizeLine]; omega)
      have e₄' : h₄.get? D = some (lsO (vs ++ [v]).toArray nn') := by rw [e₄]; simp
      obtain ⟨m₄, st₄⟩ := st₂.rewrite (own' := [(D, lsO (vs ++ [v]).toArray nn')]) (h₁ := h₄) (t := s₂.toks) (fun q hq v e => by rw [hown] at hq; obtain rfl := List.mem_singleton.mp hq; cases e)
        (fun b ob hb e => (hs₄.2 b (by rw [hown] at hb; simpa using hb)).trans e) (fun q hq => by obtain rfl := List.mem_singleton.mp hq; exact e₄') (fun a ha => .inl (by rw [hown]; simpa using ha)) (by simp)
      refine ⟨.next _ _, h₂, t v nn', rfl, (Mv.of st (x₁.tr x₂)).tr m₄, ?_⟩
      exact St.learn (c := c.on [(D, lsO (vs ++ [v]).toArray nn')]) (P := ownL D vs Ps) st₄ hl fun u q => ⟨q.1, q.2.app ⟨p, trivial⟩⟩) he) hi hsw

theorem ownL.lst {D : Addr} {vs : List Value} {Ps : List VP} {n : Nat} {h : Heap} {v : Value} (p : (ownL D vs Ps).p h v) (g : h.get? D = some (lsO vs.toArray n)) : (isLst Ps).p h v := ⟨D, vs, n, p.1, g, p.2⟩

end Mine

namespace Mine
variable {W : Wd} {A : Around} {c : Cx} {ρ : Rho}

/-! a comprehension with one test, its target a name -/
theorem comp_loopT {elt iter cond : Expr} {tx : Str} {tp : Pos} {scope : Scope} {pos : Pos} {it : Value} {X₀ : Addr → Prop} {Xg : Nat → Prop} {J : (Addr → Prop) → List VP → Heap → Shared → Prop} {Ps : List VP} {Rs : List (Option VP)} {ρf : Rho} {h₀ h₁ : Heap} {s₀ s₁ : Shared} {cx : Cx} {D : Addr} {cn : Nat} {R : Result → Shared → Prop}
    (itr : Itr W A it Xg J) (x₁ : Ext W h₀ s₀ h₁ s₁) (hJ : J X₀ Ps h₁ s₁) (hX : ∀ a, X₀ a → s₀.heap.get? a = none) (hXc : ∀ a, X₀ a → a ∉ cx.muts ∧ a ≠ D) (hg : ∀ i, Xg i → s₀.gens[i]? = none) (hm0 : ∀ a ∈ cx.muts, s₀.heap.get? a = none) (hD0 : s₀.heap.get? D = none)
    (st : St W (cx.on [(D, lsO #[] cn)]) ρf h₁ s₁) (hlen : Rs.length = Ps.length) (hz : Ps.length ≤ 1000000)
    (turn : ∀ (i : Nat) P own ρ', Ps[i]? = some P → Sub ρf ρ' → ∃ up o, AsT W A cx (.Name tx tp) P up ∧ Rs[i]? = some o ∧ EvT W A (cx.on own) (up ρ') cond o.isSome ∧ (∀ P', o = some P' → EvE W A (cx.on own) (up ρ') elt P') ∧ Sub ρf (up ρ'))
    (k : ∀ h s vs n, Ext W h₀ s₀ h s → St W (cx.on [(D, lsO vs n)]) ρf h s → All2 h (Rs.filterMap id) vs.toList → R (.ok .next) s) :
    codeAny W.M A (.compLoop (.ListComp elt [⟨.Name tx tp, iter, [cond], 0⟩] scope pos) 0 it (.ref D) cx.env) R s₁ := by
  refine codeAny_compLoop_tests (fun n s => ∃ i h ρ' vs nn X, n = Ps.length - i ∧ i ≤ Ps.length ∧ Ext W h₀ s₀ h s ∧ St W (cx.on [(D, lsO vs nn)]) ρ' h s ∧ Sub ρf ρ' ∧ J X (Ps.drop i) h s ∧ (∀ a, X a → s₀.heap.get? a = none ∧ a ∉ cx.muts ∧ a ≠ D) ∧ All2 h ((Rs.take i).filterMap id) vs.toList) ?_ Ps.length
    ⟨0, h₁, ρf, #[], cn, X₀, by simp, by simp, x₁, st, Sub.rf _, by simpa using hJ, fun a ha => ⟨hX a ha, hXc a ha⟩, by simp [All2]⟩
  rintro n s ⟨i, h, ρ', vs, nn, X, rfl, hi, x, st, hsub, hJ, hXX, al⟩
  have cr : ∀ {X : Addr → Prop} {h : Heap} {s : Shared} {ρ' : Rho} {vs : Array Value} {nn : Nat} {Ps : List VP}, St W (cx.on [(D, lsO vs nn)]) ρ' h s → J X Ps h s → (∀ a, X a → s₀.heap.get? a = none ∧ a ∉ cx.muts ∧ a ≠ D) →
      ∀ a, X a → a ∉ (cx.on [(D, lsO vs nn)]).muts ∧ a ∉ (cx.on [(D, lsO vs nn)]).own.map (·.1) ∧ ∀ v, ¬ s.heap.IsCell a v := by
    intro X h s ρ' vs nn Ps st hJ hXX a ha
    obtain ⟨⟨o, e, hc⟩, _, _⟩ := itr.priv _ _ _ _ a st.ok hJ ha
    refine ⟨(hXX a ha).2.1, by simpa using (hXX a ha).2.2, fun v ⟨o', e', d⟩ => ?_⟩
    rw [e] at e'; cases e'; exact hc v d
  by_cases hlt : i < Ps.length
  · rw [List.drop_eq_getElem_cons hlt] at hJ
    refine itr.step X _ _ h s _ _ x.ok hJ fun v h' s' X' xt hX' p hJ' => ?_
    have st' := st.xt xt (cr st hJ hXX)
    have x' := x.xt xt (fun a q => (hXX a q).1) hg
    have hXX' : ∀ a, X' a → s₀.heap.get? a = none ∧ a ∉ cx.muts ∧ a ≠ D := fun a ha => by
      rcases hX' a ha with q | q
      · exact hXX a q
      · refine ⟨?_, fun hm => ?_, fun e => ?_⟩
        · cases e : s₀.heap.get? a with
          | none => rfl
          | some o => obtain ⟨o', e'⟩ := x.live e; rw [q] at e'; cases e'
        · obtain ⟨o, e⟩ := st.liveMut hm; rw [q] at e; cases e
        · have := (st.own (D, lsO vs nn) (List.mem_singleton.mpr rfl)).1
          rw [e] at q; rw [q] at this; cases this
    obtain ⟨up, o, as, hP', et, ev, hsub'⟩ := turn i Ps[i] [(D, lsO vs nn)] ρ' (by simp [hlt]) hsub
    refine as [(D, lsO vs nn)] ρ' h' s' v _ _ st' p fun h₂ s₂ m₂ st₂ => ?_
    have x₂ := m₂.toExt' x' hm0 (by simpa using hD0)
    refine wpAny_tests_one (et h₂ s₂ _ _ st₂ fun h₂' s₂' x₂' => ?_)
    have st₂' := st₂.ext x₂'
    have x₂₂ := x₂.tr x₂'
    have hvl : vs.size ≤ i := by
      have := al.len; simp only [Array.length_toList] at this
      have h2 := List.length_filterMap_le id (Rs.take i)
      rw [List.length_take] at h2; omega
    cases o with
    | none =>
      rw [if_neg (by simp)]
      have f₂ : Fm X' h' s' h₂' s₂' := by
        refine ⟨m₂.le.tr x₂'.le, fun a ha => ?_, fun a ha => ?_, fun i z e => x₂'.gens _ _ (m₂.gens _ _ e)⟩
        · obtain ⟨⟨o, e, _⟩, _, t⟩ := itr.priv _ _ _ _ a st'.ok hJ' ha
          rw [e]
          have e2 := m₂.keep a o e t (hXX' a ha).2.1 (by simpa using (hXX' a ha).2.2)
          exact x₂'.keep a o e2 t
        · obtain ⟨⟨o, e, _⟩, _, t⟩ := itr.priv _ _ _ _ a st'.ok hJ' ha
          have e2 := m₂.keep a o e t (hXX' a ha).2.1 (by simpa using (hXX' a ha).2.2)
          rw [x₂'.new a o e2, m₂.new a o e (by simpa using (hXX' a ha).2.2)]
      refine ⟨Ps.length - (i + 1), by omega, i + 1, h₂', up ρ', vs, nn, X', rfl, hlt, x₂₂, st₂', hsub', itr.frame _ _ _ _ _ _ st'.ok x₂₂.ok hJ' f₂, hXX', ?_⟩
      rw [List.take_add_one, hP']
      have : (List.filterMap id (List.take i Rs ++ (some (none : Option VP)).toList)) = List.filterMap id (List.take i Rs) := by simp [List.filterMap_append]
      rw [this]
      exact al.mono (xt.le.tr (m₂.le.tr x₂'.le))
    | some P' =>
      rw [if_pos (show (some P').isSome = true from rfl)]
      refine ev P' rfl h₂' s₂' _ _ st₂' fun y h₃ s₃ x₃ p₃ => ?_
      have st₃ := st₂'.ext x₃
      have x₃' := x₂₂.tr x₃
      have hD := (st₃.own (D, lsO vs nn) (List.mem_singleton.mpr rfl)).1
      refine wpAny_list_append_plain (items := vs) ⟨nn, hD⟩ (fun h₄ ⟨nn', e₄⟩ hs₄ => ?_) (by simp only [sizeLine]; omega)
      obtain ⟨m₄, st₄⟩ := st₃.rewrite (own' := [(D, lsO (vs.push y) nn')]) (h₁ := h₄) (t := s₃.toks) (fun q hq v e => by obtain rfl := List.mem_singleton.mp hq; cases e)
        (fun b ob hb e => (hs₄.2 b (by simpa using hb)).trans e) (fun q hq => by obtain rfl := List.mem_singleton.mp hq; exact e₄) (fun a ha => .inl ha) (by simp)
      have x₄ := m₄.toExt' x₃' hm0 (by simpa using hD0)
      have f₄ : Fm X' h' s' h₃ { s₃ with heap := h₄, toks := s₃.toks } := by
        refine ⟨m₂.le.tr (x₂'.le.tr x₃.le), fun a ha => ?_, fun a ha => ?_, fun i z e => x₃.gens _ _ (x₂'.gens _ _ (m₂.gens _ _ e))⟩
        · obtain ⟨⟨o, e, _⟩, _, t⟩ := itr.priv _ _ _ _ a st'.ok hJ' ha
          rw [e]
          have e2 := m₂.keep a o e t (hXX' a ha).2.1 (by simpa using (hXX' a ha).2.2)
          exact (hs₄.2 a (hXX' a ha).2.2).trans (x₃.keep a o (x₂'.keep a o e2 t) t)
        · obtain ⟨⟨o, e, _⟩, _, t⟩ := itr.priv _ _ _ _ a st'.ok hJ' ha
          have e2 := m₂.keep a o e t (hXX' a ha).2.1 (by simpa using (hXX' a ha).2.2)
          rw [x₃.new a o (x₂'.keep a o e2 t), x₂'.new a o e2, m₂.new a o e (by simpa using (hXX' a ha).2.2)]
      refine ⟨Ps.length - (i + 1), by omega, i + 1, h₃, up ρ', vs.push y, nn', X', rfl, hlt, x₄, st₄, hsub', itr.frame _ _ _ _ _ _ st'.ok x₄.ok hJ' f₄, hXX', ?_⟩
      rw [List.take_add_one, hP', Array.toList_push]
      have : (List.filterMap id (List.take i Rs ++ (some (some P' : Option VP)).toList)) = List.filterMap id (List.take i Rs) ++ [P'] := by simp [List.filterMap_append]
      rw [this]
      exact (al.mono (xt.le.tr (m₂.le.tr (x₂'.le.tr x₃.le)))).app ⟨p₃, trivial⟩
  · obtain rfl : i = Ps.length := by omega
    rw [List.drop_length] at hJ
    refine itr.done X h s _ _ x.ok hJ fun h' s' xt => ?_
    refine k h' s' vs nn (x.xt xt (fun a q => (hXX a q).1) hg) ((st.sub hsub).xt xt (cr st hJ hXX)) ?_
    rw [List.take_of_length_le (by omega)] at al
    exact al.mono xt.le

theorem EvE.compIf {elt iter cond : Expr} {tx : Str} {tp : Pos} {scope : Scope} {pos : Pos} {cl : List (Str × Addr)} {Ps : List VP} {Rs : List (Option VP)} {ρf : Rho}
    (ev : EvI W A c ρ iter Ps) (hclos : closureFor scope c.env = pure cl) (n : CpN c ρ scope cl ρf) (hlen : Rs.length = Ps.length) (hz : Ps.length ≤ 1000000)
    (turn : ∀ L (i : Nat) P own ρ', Ps[i]? = some P → Sub ρf ρ' → ∃ up o, AsT W A (cpCx scope L cl c) (.Name tx tp) P up ∧ Rs[i]? = some o ∧ EvT W A ((cpCx scope L cl c).on own) (up ρ') cond o.isSome ∧ (∀ P', o = some P' → EvE W A ((cpCx scope L cl c).on own) (up ρ') elt P') ∧ Sub ρf (up ρ'))
    (hkind : scope.kind = .function) (hun : unOk scope.names = true) (hnames : ∀ x ∈ scope.names, x.2 = .local → scope.names.lookup x.1 = some .local) (hs : ∀ x, foldedSetIterable iter c.env x = pure x := by intro _; rfl) :
    EvE W A c ρ (.ListComp elt [⟨.Name tx tp, iter, [cond], 0⟩] scope pos) (isLst (Rs.filterMap id)) := fun h₀ s₀ Q E st₀ kk => by
  rw [eval_ListComp]
  refine wpAny_comprehension_free (g := ⟨.Name tx tp, iter, [cond], 0⟩) (gs := []) rfl hs hclos hkind hnames ?_
  have evv := fun Q' k' => ev h₀ s₀ Q' E st₀ k'
  refine wpAny_mono (evv (fun it s₂ => wpAny W.M A (newList []) (fun acc s₃ =>
      wpAny W.M A (newFunctionEnv scope c.env.globals cl [] c.env.qual Option.none .none (some c.env)) (fun cenv s₄ =>
        codeAny W.M A (.compStart (.ListComp elt [⟨.Name tx tp, iter, [cond], 0⟩] scope pos) 0 it acc { cenv with scope := relabel scope c.env }) (compPost W.M A E Option.none Q acc cenv.locals) s₄) E s₃) E s₂) ?_) (fun v s₁ hq => ?_) fun _ _ e => e
  · intro it X Xg J h₂ s₂ x₂ itr hJ hX hg
    refine wpAny_newObj_type ?_ (by size_fits)
    have x₃ := x₂.tr (x₂.ok.pushOut { cls := .type "list", data := .seq ([] : List Value).toArray } s₂.toks)
    have hD : (s₂.heap.push { cls := .type "list", data := .seq ([] : List Value).toArray }).get? s₂.heap.objs.size = some { cls := .type "list", data := .seq ([] : List Value).toArray } := Heap.get?_push_size _ rfl
    have hDn : s₂.heap.get? s₂.heap.objs.size = Option.none := Heap.get?_none_of_le (Nat.le_refl _)
    have dead : ∀ {a : Addr}, s₂.heap.get? a = Option.none → s₀.heap.get? a = Option.none := fun {a} q => by
      cases e : s₀.heap.get? a with
      | none => rfl
      | some o => obtain ⟨o', e'⟩ := x₂.live e; rw [q] at e'; cases e'
    have hDb := x₂.ok.sizeNone
    have hDt := x₂.ok.sizeNotTab
    have st₃ := st₀.ext x₃
    rw [st₀.env.glob]
    refine wpAny_newFrame (ρb := []) (ρf := ρf) x₃.ok hkind trivial (fun x P e => ?_) (fun p hp => ?_) n.ap (un_of hun) (fun p hp => by cases hp) (fun o e => by cases e; exact st₀.env.bi) fun s₄ x₄ st₄ => ?_
    · obtain ⟨f1, f2, a, f3, f4, f5⟩ := n.fre x P e
      obtain ⟨v, r, p⟩ := st₃.rd x P f2
      refine ⟨f1, a, v, f3, ?_, p⟩
      rcases r with ⟨kk, _⟩ | ⟨_, b, l, q⟩
      · rcases f5 with q | q <;> (rw [q] at kk; cases kk)
      · rw [f4] at l; cases l; exact q
    · obtain ⟨x, P, f2, f4, f5⟩ := n.cel p hp
      obtain ⟨v, r, _⟩ := st₃.rd x P f2
      rcases r with ⟨kk, _⟩ | ⟨_, b, l, q⟩
      · rcases f5 with q | q <;> (rw [q] at kk; cases kk)
      · rw [f4] at l; cases l; exact ⟨_, q⟩
    · dsimp only
      generalize hL : (s₂.heap.push { cls := .type "list", data := .seq ([] : List Value).toArray }).objs.size = L at st₄
      have hLn : (s₂.heap.push { cls := .type "list", data := .seq ([] : List Value).toArray }).get? L = Option.none := Heap.get?_none_of_le (Nat.le_of_eq hL)
      have mfresh : ∀ a ∈ (cpCx scope L cl c).muts, (s₂.heap.push { cls := .type "list", data := .seq ([] : List Value).toArray }).get? a = Option.none := fun a ha => by
        rcases List.mem_cons.mp ha with rfl | ha
        · exact hLn
        · obtain ⟨p, hp, rfl⟩ := List.mem_map.mp ha
          rcases cellsFrom_mem _ _ _ p hp with q | q
          · cases q
          · exact Heap.get?_none_of_le (Nat.le_trans (Nat.le_of_eq hL) (Nat.le_of_succ_le q.1))
      have back : ∀ {a : Addr}, (s₂.heap.push { cls := .type "list", data := .seq ([] : List Value).toArray }).get? a = Option.none → s₂.heap.get? a = Option.none := fun {a} q => by
        cases e : s₂.heap.get? a with
        | none => rfl
        | some o => have := Heap.get?_push_of_some { cls := .type "list", data := .seq ([] : List Value).toArray } e; rw [q] at this; cases this
      have x₀₄ := x₃.tr x₄
      have hDD : s₄.heap.get? s₂.heap.objs.size = some (lsO #[] 0) := x₄.keep _ _ hD hDt
      have hloc : (nEnv scope L cl c.env.qual Option.none .none (some c.env)).locals = L := rfl
      have st₅ : St W ((cpCx scope L cl c).on [(s₂.heap.objs.size, lsO #[] 0)]) ρf h₂ s₄ := by
        refine ⟨st₄.ok, ⟨hkind, st₄.env.glob, st₄.env.bi, st₄.env.mem, st₄.env.apart, st₄.env.celne⟩, st₄.ns, st₄.cel, st₄.mu, fun p hp => ?_, by simp, fun y P e => ?_⟩
        · obtain rfl := List.mem_singleton.mp hp
          exact ⟨hDD, hDb, fun hm => (by have := mfresh _ hm; rw [hD] at this; cases this), hDt⟩
        · obtain ⟨v, r, p⟩ := st₄.rd y P e
          refine ⟨v, ?_, p⟩
          rcases r with ⟨kk, m, nn, q⟩ | ⟨kk, b, l, q⟩
          · exact .inl ⟨lookup_relabel_local kk, m, nn, q⟩
          · have hf := (n.fre y P e).1
            exact .inr ⟨lookup_relabel_free hf, b, l, q⟩
      have hJ₄ : J X Ps h₂ s₄ := itr.frame _ _ _ _ _ _ x₂.ok x₀₄.ok hJ ⟨Le.rf _, fun a ha => by
        obtain ⟨⟨o, e, _⟩, _, t⟩ := itr.priv _ _ _ _ a x₂.ok hJ ha
        rw [e]; exact x₄.keep a o (Heap.get?_push_of_some _ e) t, fun _ _ => rfl, fun i z e => x₄.gens i z e⟩
      have loop : codeAny W.M A (.compLoop (.ListComp elt [⟨.Name tx tp, iter, [cond], 0⟩] scope pos) 0 it (.ref s₂.heap.objs.size) (cpCx scope L cl c).env) (compPost W.M A E Option.none Q (.ref s₂.heap.objs.size) L) s₄ := by
        refine comp_loopT (cx := cpCx scope L cl c) (ρf := ρf) itr x₀₄ hJ₄ hX (fun a ha => ?_) hg (fun a ha => dead (back (mfresh a ha))) (dead hDn) st₅ hlen hz (turn L) fun h s vs nn x st al => ?_
        · obtain ⟨⟨o, e, _⟩, _, t⟩ := itr.priv _ _ _ _ a x₂.ok hJ ha
          refine ⟨fun hm => ?_, fun q => by rw [q, hDn] at e; cases e⟩
          rw [back (mfresh a hm)] at e; cases e
        · obtain ⟨m, hn⟩ := st.ns
          have hLm : L ∈ (cpCx scope L cl c).muts := List.mem_cons_self ..
          obtain ⟨h', l, g, x', hold⟩ := x.adopt (dead hDn) (st.own _ (List.mem_singleton.mpr rfl)).1 hDt
          have p : (isLst (Rs.filterMap id)).p h' (.ref s₂.heap.objs.size) := ⟨_, vs.toList, nn, rfl, by simpa using g, al.mono l⟩
          have hb : h'.get? L = Option.none := by rw [hold L (fun q => by rw [q, hD] at hLn; cases hLn)]; exact st.mu _ hLm
          exact ⟨m, hn, fun h'' hsb => kk _ h' _ (x'.upd (dead (back hLn)) hb (st.mutNotTab hLm) (fun b o hne e => (hsb.2 b hne).trans e) s.toks) p⟩
      exact codeAny_compStart_list loop (itr.self _ _ _ _ _ _ x₀₄.ok hJ₄ loop)
  · have hq' := hq
    rw [hs] at hq'
    intro Γ p hΓ
    exact (hq' Γ p hΓ) Γ p hΓ

end Mine

namespace Mine
variable {W : Wd} {A : Around} {c : Cx} {ρ : Rho}

/-! texts as lists of signs -/
def mkS (xs : List Nat) : Str := ⟨xs.toArray⟩
theorem mkS_len (xs : List Nat) : (mkS xs).length = xs.length := by simp [mkS, Str.length]
theorem mkS_app (a b : List Nat) : mkS (a ++ b) = mkS a ++ mkS b := by
  show (⟨_⟩ : Str) = ⟨_ ++ _⟩
  simp [mkS]
theorem mkS_inj {a b : List Nat} (h : mkS a = mkS b) : a = b := by
  have := congrArg (fun s : Str => s.cps.toList) h
  simpa [mkS] using this
theorem mkS_eq {a b : List Nat} : mkS a = mkS b ↔ a = b := ⟨mkS_inj, fun h => h ▸ rfl⟩
theorem mkS_of (x : Str) : mkS x.cps.toList = x := by
  obtain ⟨x⟩ := x; simp [mkS]

theorem slice_gen (xs : List Nat) (lo hi : Option Int) (a b : Nat) (h : Builtin.Str.strSliceIndices lo hi 1 xs.length = sliceRange a b 1) (hb : b ≤ xs.length) : Txt.slice (mkS xs) lo hi = mkS ((xs.take b).drop a) := by
  unfold Txt.slice
  rw [mkS_len, h, sliceRange_one]
  have hr := pick_run xs.toArray a (b - a)
  have key : ((List.range (b - a)).map (a + ·)).filterMap ((mkS xs).cps[·]?) = (xs.take b).drop a := by
    show ((List.range (b - a)).map (a + ·)).filterMap (xs.toArray[·]?) = _
    rw [hr, List.drop_take]
  split
  · rename_i hc
    simp at hc
    have h2 : a = 0 ∨ b = 0 := by omega
    have hb' : b = xs.length := by omega
    subst hb'
    rcases h2 with rfl | h2
    · simp
    · have : xs = [] := List.length_eq_zero_iff.mp h2
      subst this; simp
  · rw [key]; rfl
theorem slice_upto (xs : List Nat) (k : Nat) : Txt.slice (mkS xs) none (some (k : Int)) = mkS (xs.take k) := by
  rw [slice_gen xs _ _ 0 (min k xs.length) ?_ (by omega)]
  · rw [List.drop_zero]; congr 1
    by_cases h : k ≤ xs.length
    · rw [Nat.min_eq_left h]
    · rw [Nat.min_eq_right (by omega), List.take_of_length_le (by omega), List.take_of_length_le (by omega)]
  · unfold Builtin.Str.strSliceIndices
    simp only [show (1 : Int) > 0 by decide, if_true, show ¬ ((k : Int) < 0) by omega, if_false]
    congr 1; omega
theorem slice_from (xs : List Nat) (k : Nat) : Txt.slice (mkS xs) (some (k : Int)) none = mkS (xs.drop k) := by
  rw [slice_gen xs _ _ (min k xs.length) xs.length ?_ (by omega)]
  · rw [List.take_length]; congr 1
    by_cases h : k ≤ xs.length
    · rw [Nat.min_eq_left h]
    · rw [Nat.min_eq_right (by omega), List.drop_eq_nil_of_le (by omega), List.drop_eq_nil_of_le (by omega)]
  · unfold Builtin.Str.strSliceIndices
    simp only [show (1 : Int) > 0 by decide, if_true, show ¬ ((k : Int) < 0) by omega, if_false]
    congr 1; omega
theorem slice_mid (xs : List Nat) (k j : Nat) (hk : k ≤ xs.length) (hj : j ≤ xs.length) : Txt.slice (mkS xs) (some (k : Int)) (some (j : Int)) = mkS ((xs.take j).drop k) := by
  rw [slice_gen xs _ _ k j ?_ hj]
  unfold Builtin.Str.strSliceIndices
  simp only [show (1 : Int) > 0 by decide, if_true, show ¬ ((k : Int) < 0) by omega, show ¬ ((j : Int) < 0) by omega, if_false]
  congr 1 <;> omega
theorem slice_neg (xs : List Nat) (k : Nat) (hk : k ≤ xs.length) (h1 : 1 ≤ xs.length) : Txt.slice (mkS xs) (some (k : Int)) (some (-1)) = mkS ((xs.take (xs.length - 1)).drop k) := by
  rw [slice_gen xs _ _ k (xs.length - 1) ?_ (by omega)]
  unfold Builtin.Str.strSliceIndices
  simp only [show (1 : Int) > 0 by decide, if_true, show ¬ ((k : Int) < 0) by omega, show ((-1 : Int) < 0) by decide, if_false]
  congr 1 <;> omega
theorem slice_last (xs : List Nat) : Txt.slice (mkS xs) (some (-1)) none = mkS (xs.drop (xs.length - 1)) := by
  rw [slice_gen xs _ _ (xs.length - 1) xs.length ?_ (Nat.le_refl _)]
  · rw [List.take_length]
  unfold Builtin.Str.strSliceIndices
  simp only [show (1 : Int) > 0 by decide, if_true, show ((-1 : Int) < 0) by decide]
  congr 1; omega

theorem EvE.slcS {value : Expr} {lower upper : Option Expr} {p pos : Pos} {x : Str} {lo hi : Option Int} (v : EvE W A c ρ value (isStr x)) (a : EvP W A c ρ lower lo) (b : EvP W A c ρ upper hi) (hn : x.length ≤ 1000000) :
    EvE W A c ρ (.Subscript value (.Slice lower upper Option.none p) pos) (isStr (Txt.slice x lo hi)) := fun h s Q E st k =>
  Subscript_ (v h s _ _ st fun v₁ h₁ s₁ x₁ p₁ => slice_obj a b EvP.no (st.ext x₁) fun sl vl vu vs h₂ s₂ x₂ hsl pl pu ps => by
    obtain ⟨t, rfl⟩ := p₁
    cases ps
    have hz : x.length ≤ sizeLine := by simp only [sizeLine]; omega
    refine tail_any (ops := [.ref sl, .str x t]) (typeIs_str _ _ _) F.slot_str_getitem.lookup ?_ rfl
    cases pl with
    | none =>
      cases pu with
      | none => exact wpAny_getItem_str_slice (l := Option.none) (u := Option.none) (st := Option.none) hsl rfl (post_val_or_str ⟨Nat.le_trans (Txt.slice_le x _ _) hz, fun t' tk => k _ h₂ _ ((x₁.tr x₂).tr (x₂.ok.toks _)) ⟨_, rfl⟩⟩)
      | int j u => exact wpAny_getItem_str_slice (l := Option.none) (u := some (j, u)) (st := Option.none) hsl rfl (post_val_or_str ⟨Nat.le_trans (Txt.slice_le x _ _) hz, fun t' tk => k _ h₂ _ ((x₁.tr x₂).tr (x₂.ok.toks _)) ⟨_, rfl⟩⟩)
    | int i u' =>
      cases pu with
      | none => exact wpAny_getItem_str_slice (l := some (i, u')) (u := Option.none) (st := Option.none) hsl rfl (post_val_or_str ⟨Nat.le_trans (Txt.slice_le x _ _) hz, fun t' tk => k _ h₂ _ ((x₁.tr x₂).tr (x₂.ok.toks _)) ⟨_, rfl⟩⟩)
      | int j u => exact wpAny_getItem_str_slice (l := some (i, u')) (u := some (j, u)) (st := Option.none) hsl rfl (post_val_or_str ⟨Nat.le_trans (Txt.slice_le x _ _) hz, fun t' tk => k _ h₂ _ ((x₁.tr x₂).tr (x₂.ok.toks _)) ⟨_, rfl⟩⟩))

theorem call_endsS {x y : Str} : CallS W A (.builtin "str.endswith") [isStr x, isStr y] (isBool (Txt.endswith x y)) := fun h s vs Q E ok al kk => by
  match vs, al with
  | [v, v'], ⟨⟨t, e⟩, ⟨t', e'⟩, _⟩ =>
    subst e e'
    exact SC.endswith (kk _ h _ (Ext.rf ok) rfl)
theorem call_countI {ns : List Int} {k : Int} : CallS W A (.builtin "list.count") [isLst (ns.map isInt), isInt k] (isInt (ns.count k : Nat)) := fun h s vs Q E ok al kk => by
  match vs, al with
  | [v, v'], ⟨p, ⟨t, e⟩, _⟩ =>
    subst e
    obtain ⟨a, ws, rfl, hl, r⟩ := isLst.at ok p
    exact count_list_ints hl r.ints (kk _ h _ (ok.toks _) ⟨_, rfl⟩)
theorem call_maxL {ns : List Int} {m : Int} (hm : m ∈ ns) (hle : ∀ y ∈ ns, y ≤ m) (hh : A.handled = none) : CallS W A (.builtin "max") [isLst (ns.map isInt)] (isInt m) := fun h s vs Q E ok al k => by
  match vs, al with
  | [v], ⟨p, _⟩ =>
    obtain ⟨a, ws, rfl, hl, r⟩ := isLst.at ok p
    have hi := r.ints
    obtain ⟨xs, hx⟩ := hi.allInts.items
    have hl' : s.heap.IsList a (intItems xs) := hx ▸ hl
    have e1 : ns = xs.toList.map (·.1) := by
      rw [← nums_intItems, ← hx]
      exact (show numsOf ws.toArray.toList = ns from hi.numsOf).symm
    have hne : 0 < xs.size := by
      have : 0 < ns.length := List.length_pos_of_mem hm
      rw [e1] at this; simpa using this
    have num : ∀ j (hj : j < xs.size), numAt xs j = ns[j]'(by rw [e1]; simpa using hj) := fun j hj => by
      simp [numAt, e1, hj]
    obtain ⟨b1, b2⟩ := argBest_gt (numAt xs) (xs.size - 1)
    refine max_intList hh hl' hne fun v h' tk hv hk => ?_
    obtain ⟨t, rfl⟩ := intItems_at hv
    obtain ⟨h'', x, _⟩ := ok.heap (t := tk) hk
    refine k _ h'' _ x ⟨t, ?_⟩
    congr 1
    refine Int.le_antisymm ?_ ?_
    · rw [num _ (by omega)]; exact hle _ (List.getElem_mem _)
    · obtain ⟨i, hi', he⟩ := List.getElem_of_mem hm
      have hi'' : i < xs.size := by rw [e1] at hi'; simpa using hi'
      rw [← he, ← num i hi'']
      exact b2 i (by omega)

theorem op_inT {x : Str} {ys : List Str} : OpB W A (compareOp .In) (isStr x) (isTup (ys.map isStr)) (isBool (decide (x ∈ ys))) := by
  rintro h s _ _ Q E ok ⟨t, rfl⟩ ⟨a, vs, rfl, ⟨o, g, hc, n, hd⟩, al⟩ k
  have hi := al.strs
  refine PySem.SeqAt.in_tupleAt (isStrOf x) ⟨o, ok.le _ _ g, hc, n, hd⟩ (fun y hy => (eq_isStrOf x t hi y (by simpa using hy)).at _ _) ?_
  have : vs.toArray.any (isStrOf x) = decide (x ∈ ys) := by
    rw [List.any_toArray]
    clear al k hd
    induction hi with
    | nil => rfl
    | cons y t' r ih =>
      rw [List.any_cons, ih]
      show ((y == x) || _) = _
      by_cases e : y = x
      · subst e; simp
      · have e' : ¬ x = y := fun q => e q.symm
        simp [e, e']
  rw [this]
  exact k _ h s (Ext.rf ok) rfl

theorem op_eqLs {xs ys : List Str} (hu : A.units < cLine) : OpB W A (compareOp .Eq) (isLst (xs.map isStr)) (isLst (ys.map isStr)) (isBool (decide (xs = ys))) := by
  rintro h s _ _ Q E ok p p' k
  obtain ⟨l, vs, rfl, hl, al⟩ := isLst.at ok p
  obtain ⟨l', vs', rfl, hl', al'⟩ := isLst.at ok p'
  have n1 : vs.length = xs.length := by rw [al.len, List.length_map]
  have n2 : vs'.length = ys.length := by rw [al'.len, List.length_map]
  by_cases hn : xs.length = ys.length
  · refine PySem.SeqAt.eq_listAt (e := fun j => decide (xs[j]? = ys[j]?)) hl hl' (by simp [n1, n2, hn]) hu (fun j h1 h2 => ?_) ?_
    · have j1 : j < xs.length := by rw [← n1]; exact h1
      have j2 : j < ys.length := by rw [← n2]; exact h2
      obtain ⟨t, e⟩ := al.strs.at (j := j) (y := xs[j]) (by simp [j1])
      obtain ⟨t', e'⟩ := al'.strs.at (j := j) (y := ys[j]) (by simp [j2])
      have e1 : vs.toArray[j] = .str xs[j] t := by
        have h1' : j < vs.length := h1
        simpa [h1'] using e
      have e2 : vs'.toArray[j] = .str ys[j] t' := by
        have h2' : j < vs'.length := h2
        simpa [h2'] using e'
      rw [e1, e2]
      have := (eqGives_str xs[j] ys[j] t t').at A.in1 s
      rw [show (xs[j] == ys[j]) = decide (xs[j] = ys[j]) from by rw [Bool.eq_iff_iff]; simp] at this
      have q : (decide (xs[j]? = ys[j]?)) = decide (xs[j] = ys[j]) := by simp [j1, j2]
      rw [q]; exact this
    · have : ((List.range vs.toArray.size).all fun j => decide (xs[j]? = ys[j]?)) = decide (xs = ys) := by
        rw [Bool.eq_iff_iff]
        simp only [List.all_eq_true, List.mem_range, decide_eq_true_eq, List.size_toArray, n1]
        constructor
        · intro q
          refine List.ext_getElem? fun i => ?_
          by_cases hi : i < xs.length
          · exact q i hi
          · rw [List.getElem?_eq_none (by omega), List.getElem?_eq_none (by omega)]
        · rintro rfl i _; rfl
      rw [this]
      exact k _ h s (Ext.rf ok) rfl
  · refine PySem.SeqAt.eq_list_lengthsAt hl hl' (by simp [n1, n2, hn]) hu ?_
    have : decide (xs = ys) = false := by
      rw [decide_eq_false_iff_not]; rintro rfl; exact hn rfl
    rw [this] at k
    exact k _ h s (Ext.rf ok) rfl

theorem EvE.andB {a b : Expr} {pos : Pos} {p q : Bool} (ha : EvE W A c ρ a (isBool p)) (hb : p = true → EvE W A c ρ b (isBool q)) : EvE W A c ρ (.BoolOp .And [a, b] pos) (isBool (p && q)) := fun h s Q E st k =>
  BoolOp_and (ha h s _ _ st fun v h₁ s₁ x₁ p₁ => by
    obtain rfl : v = .bool p := p₁
    refine wpAny_truthy_bool ?_
    cases p with
    | true =>
      rw [if_pos rfl]
      exact BoolOp_one (hb rfl h₁ s₁ _ _ (st.ext x₁) fun v h₂ s₂ x₂ p₂ => k v h₂ s₂ (x₁.tr x₂) p₂)
    | false => rw [if_neg Bool.false_ne_true]; exact k _ h₁ s₁ x₁ rfl)

/-- a list of one's own becomes a plain one -/
theorem TS.thaw {x : Str} {stm : List Stmt} {O : Out → Prop} {D : Addr} {vs : List Value} {n : Nat} {Ps : List VP} (hl : ρ.lookup x = some (ownL D vs Ps)) (hown : c.own = [(D, lsO vs.toArray n)])
    (t : TS W A (c.on []) ((x, isLst Ps) :: ρ) stm O) : TS W A c ρ stm O := fun h s E st => by
  obtain ⟨h', l, g, m, st'⟩ := st.thaw
  have st'' := St.learn (P' := isLst Ps) st' hl fun v p => ownL.lst p (g _ (by rw [hown]; exact List.mem_singleton.mpr rfl))
  exact wpAny_mono (t h' s E st'') (fun f s' ⟨o, h'', a, r⟩ => ⟨o, h'', a, Real.after m r⟩) fun _ _ e => e

/-- an int or None -/
def optI : Option Int → VP
  | none => isNone
  | some i => isInt i
theorem op_isnI (o : Option Int) : OpB W A (compareOp .Is) (optI o) isNone (isBool o.isNone) := by
  refine op_isn fun h v p => ?_
  cases o with
  | none => obtain rfl : v = .none := p; rfl
  | some i => obtain ⟨t, rfl⟩ := p; rfl

end Mine

set_option maxHeartbeats 8000000
open_top hd1 for PySem.Challenge.rw_pg0072_01

namespace Mine

structure G1 (w : World) (mg mb : Str → Option Value) (h : Heap) : Prop where
  k : (hd1.heap_39 w.params).In h
  g : h.Ns mainGlobals mg
  b : h.Ns builtinsNs mb
  lim : h.NoLimit
  bi : ∀ x : Str, x ≠ "__name__" → mb x = bootBuiltins x
  bm : ∃ bm ob, mg "__builtins__" = some (.ref bm) ∧ bm ≠ builtinsNs ∧ h.get? bm = some ob ∧ ob.cls = .type "module" ∧ ob.dict = some builtinsNs ∧ ob.data = .plain
  c1 : CodeHd h 48 44
  c2 : CodeHd h 63 59

def W1 (w : World) (mg mb : Str → Option Value) : Wd where
  prog := PySem.Challenge.rw_pg0072_01.row.prog
  w := w
  tb := [44, 59]
  tq := fun P pos => if P = 44 then Str.ofString "_law_hit.<locals>.<lambda>" else Str.ofString "_law_finder.<locals>.<lambda>"
  G := G1 w mg mb
  gmono := fun l g => ⟨g.k.keeps l, g.g.keeps l, g.b.keeps l, g.lim.keeps l, g.bi, let ⟨bm, ob, a, b, c, r⟩ := g.bm; ⟨bm, ob, a, b, l _ _ c, r⟩, g.c1.keeps l, g.c2.keeps l⟩
  glim := fun g => g.lim

variable {w : World} {mg mb : Str → Option Value}

theorem gl1 {x : Str} {v : Value} (e : nsIn (hd1.heap_39 w.params) mainGlobals x = some (some v)) : GlV (W1 w mg mb) x v := fun h g => ⟨mg, g.g, mg_of g.k g.g e⟩
theorem gb1 {x : Str} {v : Value} (e : nsIn (hd1.heap_39 w.params) mainGlobals x = some none) (hn : x ≠ "__name__") (hv : bootBuiltins x = some v) : GlB (W1 w mg mb) x v :=
  fun h g => ⟨mg, mb, g.g, mg_none_of g.k g.g e, g.b, (g.bi x hn).trans hv⟩
theorem ob1 {a : Addr} {oc : Value} {od : Option Addr} {fd : FuncData} {sl : Array (Option Value)} (e : (hd1.heap_39 w.params).lookup a = some ⟨oc, od, .func fd, sl⟩) (hc : codeIn (hd1.heap_39 w.params) fd.code fd.qualname = true) :
    ∀ h, (W1 w mg mb).G h → ∃ o, h.get? a = some o ∧ o.data = .func fd ∧ h.CodeRec fd.code fd.qualname := fun h g => ⟨_, g.k _ _ e, rfl, codeRec_of g.k hc⟩

theorem gl_check : GlV (W1 w mg mb) "_check_parenthesis" (.ref 42) := gl1 rfl
theorem gl_strip : GlV (W1 w mg mb) "_strip_quoted_realnames" (.ref 35) := gl1 rfl
theorem gl_iter : GlV (W1 w mg mb) "_iter_escaped_chars" (.ref 28) := gl1 rfl
theorem gb_len : GlB (W1 w mg mb) "len" (.builtin "len") := gb1 rfl (by decide) boot_len
theorem gb_enum : GlB (W1 w mg mb) nm_enum (.type "enumerate") := gb1 rfl (by decide) boot_enumerate

def fdOf (K : Frag) (a : Addr) : FuncData := match K.lookup a with
  | some ⟨_, _, .func fd, _⟩ => fd
  | _ => default
def bodyOf (fd : FuncData) : List Stmt := match fd.body with
  | .stmts b => b
  | _ => []

theorem gen1 : GenFn (W1 w mg mb) "_iter_escaped_chars" 28 (fdOf (hd1.heap_39 w.params) 28) (bodyOf (fdOf (hd1.heap_39 w.params) 28)) where
  gl := gl_iter
  ob := ob1 rfl rfl
  g := rfl
  bi := rfl
  co := rfl
  ge := rfl
  k := rfl
  b := rfl
  cl := rfl
  un := un_of rfl
  bind := fun s v => .of_eq rfl
  w := fun L => .inl rfl
  tx := fun L => { mu := rfl, own := rfl, kp := rfl, kc := rfl, ke := rfl, ka := rfl, go := fun A x h s hh st => gen_body (W := (W1 w mg mb).free) rfl rfl rfl (.inl rfl) (.inl rfl) (.inl rfl) rfl rfl rfl rfl rfl rfl rfl gb_enum hh st rfl rfl rfl rfl }

end Mine

namespace Mine
variable {w : World} {mg mb : Str → Option Value}

noncomputable abbrev fd1 (w : World) (a : Addr) : FuncData := fdOf (hd1.heap_39 w.params) a
noncomputable abbrev bd1 (w : World) (a : Addr) : List Stmt := bodyOf (fd1 w a)
theorem All2.one {h : Heap} {P : VP} {vs : List Value} (al : All2 h [P] vs) : ∃ v, vs = [v] ∧ P.p h v := by
  match vs, al with
  | [v], ⟨p, _⟩ => exact ⟨v, rfl, p⟩
theorem All2.twoV {h : Heap} {P Q : VP} {vs : List Value} (al : All2 h [P, Q] vs) : ∃ v v', vs = [v, v'] ∧ P.p h v ∧ Q.p h v' := by
  match vs, al with
  | [v, v'], ⟨p, q, _⟩ => exact ⟨v, v', rfl, p, q⟩
theorem All2.three {h : Heap} {P Q R : VP} {vs : List Value} (al : All2 h [P, Q, R] vs) : ∃ v v' v'', vs = [v, v', v''] ∧ P.p h v ∧ Q.p h v' ∧ R.p h v'' := by
  match vs, al with
  | [v, v', v''], ⟨p, q, r, _⟩ => exact ⟨v, v', v'', rfl, p, q, r⟩
theorem fn1 {a : Addr} {oc : Value} {od : Option Addr} {fd : FuncData} {sl : Array (Option Value)} (e : (hd1.heap_39 w.params).lookup a = some ⟨oc, od, .func fd, sl⟩) : ∀ h, (W1 w mg mb).G h → isFn a h := fun h g => ⟨_, _, g.k _ _ e, rfl⟩

def dq : Str := Str.ofString "\""
/-- what the loop of _strip_quoted_realnames does -/
def stripStep (x : Str) (p st : Int) (op : Option Int) (acc : List Str) : Int × Option Int × List Str := match op with
  | none => (st, some p, acc)
  | some o => (p + 1, none, if st = o then acc else acc ++ [Txt.slice x (some st) (some o)])
def stripGo (x : Str) : List (Int × Str) → Int → Option Int → List Str → Int × List Str
  | [], st, _, acc => (st, acc)
  | (p, ch) :: r, st, op, acc => if ch = dq then stripGo x r (stripStep x p st op acc).1 (stripStep x p st op acc).2.1 (stripStep x p st op acc).2.2 else stripGo x r st op acc
def stripS (x : Str) : Str := if 34 ∈ x.cps.toList then
    (if (stripGo x (escs x) 0 none []).1 < x.length then Txt.join (Str.ofString "") ((stripGo x (escs x) 0 none []).2 ++ [Txt.slice x (some (stripGo x (escs x) 0 none []).1) none])
      else Txt.join (Str.ofString "") (stripGo x (escs x) 0 none []).2) else x

theorem sum_le {xs : List Nat} {m : Nat} (h : ∀ x ∈ xs, x ≤ m) : xs.sum ≤ xs.length * m := by
  induction xs with
  | nil => simp
  | cons x xs ih =>
    have h1 := h x (List.mem_cons_self ..)
    have h2 := ih fun y hy => h y (List.mem_cons_of_mem _ hy)
    rw [List.sum_cons, List.length_cons, Nat.succ_mul]; omega

abbrev n_start : Str := Str.ofString "start"
abbrev n_open : Str := Str.ofString "open_pos"
abbrev n_result : Str := Str.ofString "result"
theorem joinOk {acc : List Str} {m : Nat} (h : ∀ y ∈ acc, y.length ≤ 1000) (hl : acc.length ≤ m) (hm : m ≤ 2000) : (acc.map (·.length)).sum + acc.length * (Str.ofString "").length ≤ 16777216 := by
  have h1 : (acc.map (·.length)).sum ≤ acc.length * 1000 := by
    have := sum_le (xs := acc.map (·.length)) (m := 1000) (by simpa using h)
    simpa using this
  rw [show (Str.ofString "").length = 0 from rfl]; omega

set_option maxHeartbeats 1000000 in
theorem strip1 {x : Str} (hx : x.length ≤ 1000) (he : (escs x).length ≤ 1000) : FnSpec (W1 w mg mb) 2 (.ref 35) [isStr x] (isStr (stripS x)) := by
  refine FnSpec.mk (fd := fd1 w 35) (body := bd1 w 35) (ρb := [(nm_addr, isStr x)]) (ob1 rfl rfl) ⟨rfl, rfl, rfl, rfl, rfl, un_of rfl⟩ rfl rfl ?_ ?_ fun A L rm => ?_
  · intro h s vs ok al
    obtain ⟨v, rfl, p⟩ := al.one
    exact ⟨_, .of_eq rfl, rfl, p, trivial⟩
  · intro L y hy
    rw [List.mem_singleton.mp hy]
    exact .inl rfl
  · refine TS.ite (EvT.cmp EvE.str (EvE.name rfl) (op_notInS rfl)) (fun h => ?_) (fun h => ?_)
    · have h' : 34 ∉ x.cps.toList := by simpa using h
      have : stripS x = x := by unfold stripS; rw [if_neg h']
      rw [this]
      exact TS.ret (EvE.name rfl) rfl
    · have h' : 34 ∈ x.cps.toList := by simpa using h
      refine TS.assign EvE.int (.inl rfl) (TS.assign EvE.none (.inl rfl) ?_)
      refine TS.lstOwn rfl (.inl rfl) (Ps := ([] : List VP)) .nil (by show 0 ≤ sizeLine; decide) fun D vs => ?_
      refine TS.forr (EvI.gen gen1 (rm.le (by omega)) rfl (EvE.name rfl))
        (fun i own ρ' => ∃ D vs n st op acc, own = [(D, lsO vs.toArray n)] ∧ Sub [(n_result, ownL D vs (List.map isStr acc)), (n_start, isInt st), (n_open, optI op), (nm_addr, isStr x)] ρ' ∧ acc.length ≤ i ∧ (∀ y ∈ acc, y.length ≤ 1000) ∧ stripGo x ((escs x).drop i) st op acc = stripGo x (escs x) 0 none [])
        ⟨D, vs, 0, 0, none, [], rfl, .cons rfl (.cons rfl (.cons rfl (.cons rfl (.nil _)))), Nat.le_refl _, (fun y hy => by cases hy), rfl⟩ ?_ ?_
      · rintro i P own ρ' ⟨D, vs, n, st, op, acc, rfl, d, hi, hy, hc⟩ hP
        obtain ⟨⟨p, u⟩, hu, rfl⟩ := unit_at hP
        have hil : i < (escs x).length := (List.getElem?_eq_some_iff.mp hu).1
        rw [drop_at hu, stripGo] at hc
        refine ⟨_, AsT.two rm.hd (.inl rfl) (.inl rfl), TS.sub (Sub.under (Sub.under d)) ?_⟩
        refine TS.ite (EvT.cmp (EvE.name rfl) EvE.str op_eqs) (fun h => ?_) (fun h => ?_)
        · have hq : u = dq := of_decide_eq_true h
          rw [if_pos hq] at hc
          refine TS.ite (EvT.cmp (EvE.name rfl) EvE.none (op_isnI op)) (fun g => ?_) (fun g => ?_)
          · cases op with
            | some o => cases g
            | none =>
              refine TS.assign (P := optI (some p)) (EvE.name rfl) (.inl rfl) (TS.nil ⟨D, vs, n, st, some p, acc, rfl, .cons rfl (.cons rfl (.cons rfl (.cons rfl (.nil _)))), by omega, hy, hc⟩)
          · cases op with
            | none => cases g
            | some o =>
              simp only [stripStep] at hc
              refine TS.ite (EvT.cmp (EvE.name rfl) (EvE.name (P := isInt o) rfl) op_ne) (fun g' => ?_) (fun g' => ?_)
              · have hne : ¬ st = o := by simpa using g'
                rw [if_neg hne] at hc
                refine TS.appOwn (P := isStr (Txt.slice x (some st) (some o))) rfl rfl (EvE.slcS (EvE.name rfl) (EvP.of (EvE.name rfl)) (EvP.of (EvE.name (P := isInt o) rfl)) (by omega)) (by simp; omega) fun v n' => ?_
                refine TS.assign (EvE.binop (EvE.name rfl) EvE.int op_add) (.inl rfl) (TS.assign (P := optI none) EvE.none (.inl rfl) (TS.nil ⟨D, _, n', p + 1, none, acc ++ [Txt.slice x (some st) (some o)], rfl, .cons ?_ (.cons rfl (.cons rfl (.cons rfl (.nil _)))), by simp; omega, ?_, hc⟩))
                · rw [List.map_append]; rfl
                · intro y hy'
                  rcases List.mem_append.mp hy' with q | q
                  · exact hy y q
                  · rw [List.mem_singleton.mp q]; exact Nat.le_trans (Txt.slice_le x _ _) hx
              · have hne : st = o := by simpa using g'
                rw [if_pos hne] at hc
                refine TS.assign (EvE.binop (EvE.name rfl) EvE.int op_add) (.inl rfl) (TS.assign (P := optI none) EvE.none (.inl rfl) (TS.nil ⟨D, vs, n, p + 1, none, acc, rfl, .cons rfl (.cons rfl (.cons rfl (.cons rfl (.nil _)))), by omega, hy, hc⟩))
        · have hq : u ≠ dq := of_decide_eq_false h
          rw [if_neg hq] at hc
          exact TS.nil ⟨D, vs, n, st, op, acc, rfl, .cons rfl (.cons rfl (.cons rfl (.cons rfl (.nil _)))), by omega, hy, hc⟩
      · rintro own ρ' ⟨D, vs, n, st, op, acc, rfl, d, hi, hy, hc⟩
        rw [show (List.map unitP (escs x)).length = (escs x).length by simp] at hc hi
        rw [List.drop_length, stripGo] at hc
        have hS : stripS x = if st < x.length then Txt.join (Str.ofString "") (acc ++ [Txt.slice x (some st) none]) else Txt.join (Str.ofString "") acc := by
          unfold stripS; rw [if_pos h', ← hc]
        refine TS.sub d ?_
        refine TS.ite (EvT.cmp (EvE.name rfl) (EvE.callB (EvE.blt gb_len rfl) (.cons (EvE.name rfl) .nil) (call_lenS (by omega))) op_lt) (fun g => ?_) (fun g => ?_)
        · have g' : st < x.length := of_decide_eq_true g
          rw [if_pos g'] at hS
          refine TS.appOwn (P := isStr (Txt.slice x (some st) none)) rfl rfl (EvE.slcS (EvE.name rfl) (EvP.of (EvE.name rfl)) EvP.no (by omega)) (by simp; omega) fun v n' => ?_
          refine TS.thaw (x := n_result) (Ps := (acc ++ [Txt.slice x (some st) none]).map isStr) (by rw [List.map_append]; rfl) rfl ?_
          refine TS.ret (EvE.methS EvE.str F.slot_str_join F.type_str_join (.cons (EvE.name rfl) .nil) (call_joinS (joinOk (m := 1001) ?_ (by simp; omega) (by omega)))) (by rw [hS])
          intro y hy'
          rcases List.mem_append.mp hy' with q | q
          · exact hy y q
          · rw [List.mem_singleton.mp q]; exact Nat.le_trans (Txt.slice_le x _ _) hx
        · have g' : ¬ st < x.length := of_decide_eq_false g
          rw [if_neg g'] at hS
          refine TS.thaw (x := n_result) (Ps := acc.map isStr) rfl rfl ?_
          exact TS.ret (EvE.methS EvE.str F.slot_str_join F.type_str_join (.cons (EvE.name rfl) .nil) (call_joinS (joinOk (m := 1001) hy (by omega) (by omega)))) (by rw [hS])

end Mine

namespace Mine
variable {w : World} {mg mb : Str → Option Value}

abbrev nm_opens : Str := Str.ofString "opens"
theorem check1 {z : Str} (hz : z.length ≤ 1000) (he : (escs z).length ≤ 1000) : FnSpec (W1 w mg mb) 4 (.ref 42) [isStr z] (isBool (chk (stripS z))) := by
  obtain ⟨x, hx⟩ : ∃ x, x = stripS z := ⟨_, rfl⟩
  rw [← hx]
  refine FnSpec.mk (fd := fd1 w 42) (body := bd1 w 42) (ρb := [(nm_addr, isStr z)]) (ob1 rfl rfl) ⟨rfl, rfl, rfl, rfl, rfl, un_of rfl⟩ rfl rfl ?_ ?_ fun A L rm => ?_
  · intro h s vs ok al
    obtain ⟨v, rfl, p⟩ := al.one
    exact ⟨_, .of_eq rfl, rfl, p, trivial⟩
  · intro L y hy
    rw [List.mem_singleton.mp hy]
    exact .inl rfl
  · refine TS.assign (P := isStr x) ((EvE.callF (EvE.glob gl_strip rfl) (fn1 rfl) (.cons (EvE.name rfl) .nil) (strip1 hz he A (rm.le (by omega)))).conv (by rw [hx])) (.inl rfl) ?_
    refine TS.assign EvE.int (.inl rfl) ?_
    refine TS.forr (EvI.gen gen1 (rm.le (by omega)) rfl (EvE.name rfl)) (fun i own ρ' => own = [] ∧ ∃ n, Sub [(nm_opens, isInt n)] ρ' ∧ chkL ((escs x).drop i) n = chk x) ⟨rfl, 0, .cons rfl (.nil _), rfl⟩ ?_ ?_
    · rintro i P own ρ' ⟨rfl, n, d, hc⟩ hP
      obtain ⟨⟨k, u⟩, hu, rfl⟩ := unit_at hP
      rw [drop_at hu] at hc
      refine ⟨_, AsT.two rm.hd (.inl rfl) (.inl rfl), TS.sub (Sub.under (Sub.under d)) ?_⟩
      refine TS.ite (EvT.cmp (EvE.name rfl) EvE.str op_eqs) (fun h => ?_) (fun h => ?_)
      · refine TS.aug (P₁ := isInt n) rfl EvE.int op_iadd (.inl rfl) (TS.nil ⟨rfl, n + 1, .cons rfl (.nil _), ?_⟩)
        have h' : u = lpar := of_decide_eq_true h
        simpa [chkL, h'] using hc
      · have h' : u ≠ lpar := of_decide_eq_false h
        refine TS.ite (EvT.cmp (EvE.name rfl) EvE.str op_eqs) (fun g => ?_) (fun g => ?_)
        · have g' : u = rpar := of_decide_eq_true g
          refine TS.aug (P₁ := isInt n) rfl EvE.int op_isub (.inl rfl) ?_
          refine TS.ite (EvT.cmp (EvE.name rfl) EvE.int op_lt) (fun q => ?_) (fun q => ?_)
          · refine TS.ret EvE.bool ?_
            show Out.ret (isBool false) = Out.ret (isBool (chk x))
            have q' : n - 1 < 0 := of_decide_eq_true q
            rw [← hc]
            simp only [chkL, if_neg h', if_pos g', if_pos q']
          · refine TS.nil ⟨rfl, n - 1, .cons rfl (.nil _), ?_⟩
            have q' : ¬ (n - 1 < 0) := of_decide_eq_false q
            rw [← hc]
            simp only [chkL, if_neg h', if_pos g', if_neg q']
        · have g' : u ≠ rpar := of_decide_eq_false g
          refine TS.nil ⟨rfl, n, .cons rfl (.nil _), ?_⟩
          rw [← hc]
          simp only [chkL, if_neg h', if_neg g']
    · rintro own ρ' ⟨rfl, n, d, hc⟩
      refine TS.sub d (TS.ret (EvE.cmp (EvE.name rfl) EvE.int op_eq) ?_)
      show Out.ret (isBool (decide (n = 0))) = Out.ret (isBool (chk x))
      rw [← hc]
      simp [chkL]

end Mine

namespace Mine
variable {w : World} {mg mb : Str → Option Value}

theorem escL_len : ∀ (l : List Nat) (k : Int) (e : Bool) (p : Int), (escL l k e p).length ≤ l.length + 1
  | [], k, e, p => by unfold escL; split <;> simp
  | ch :: cs, k, true, p => by
    have := escL_len cs (k + 1) false k
    rw [escL, List.length_cons, List.length_cons]; omega
  | ch :: cs, k, false, p => by
    rw [escL]
    split
    · have := escL_len cs (k + 1) true k
      rw [List.length_cons]; omega
    · have := escL_len cs (k + 1) false k
      rw [List.length_cons, List.length_cons]; omega
theorem escs_len (xs : List Nat) : (escs (mkS xs)).length ≤ xs.length + 1 := escL_len xs 0 false 0

abbrev n_place : Str := Str.ofString "place"
abbrev n_span : Str := Str.ofString "span"
abbrev n_srch : Str := Str.ofString "search"
abbrev n_chars : Str := Str.ofString "chars"
theorem no_span : typeLookup (.type "function") n_span = pure none := by rw [typeLookup_type, builtinLookup_eq_fast]; kernel_rfl
theorem no_search : typeLookup (.type "function") n_srch = pure none := by rw [typeLookup_type, builtinLookup_eq_fast]; kernel_rfl

theorem mkHit {pos : Pos} : MkOk (W1 w mg mb) (.ref 48) 44 pos (Str.ofString "_law_hit.<locals>.<lambda>") where
  mem := by simp [W1]
  hd := fun h g => ⟨48, rfl, g.c1⟩
  tq := fun p _ _ => rfl
  bi := fun h g => let ⟨bm, ob, a, b, c, r⟩ := g.bm; ⟨mg, bm, ob, g.g, a, b, c, r⟩
theorem mkFin {pos : Pos} : MkOk (W1 w mg mb) (.ref 63) 59 pos (Str.ofString "_law_finder.<locals>.<lambda>") where
  mem := by simp [W1]
  hd := fun h g => ⟨63, rfl, g.c2⟩
  tq := fun p _ _ => rfl
  bi := fun h g => let ⟨bm, ob, a, b, c, r⟩ := g.bm; ⟨mg, bm, ob, g.g, a, b, c, r⟩

/-- the lambdas' texts -/
def lamOf : Stmt → Option (Arguments × Expr × Scope)
  | .Assign _ (.Lambda p b s _) _ => some (p, b, s)
  | _ => none
noncomputable abbrev lam1 (w : World) (a : Addr) (i : Nat) : Arguments × Expr × Scope := (((bd1 w a)[i]?).bind lamOf).getD default
noncomputable abbrev cloS (w : World) : CloT := ⟨n_lam, Str.ofString "_law_hit.<locals>.<lambda>", (lam1 w 49 1).1, .expr (lam1 w 49 1).2.1, (lam1 w 49 1).2.2⟩
noncomputable abbrev hitL (w : World) (k : Int) : List (Str × VP) := [(n_span, isClo (cloS w) [] [(n_place, isInt k)])]
noncomputable abbrev isHit (w : World) (k : Int) : VP := isAtt (hitL w k)

theorem cloN1 {c : Cx} {ρ : Rho} {scope : Scope} {x : Str} {b : Addr} {P : VP} (hs : scope.names.lookup x = some .free) (hl : ρ.lookup x = some (celP b P)) : CloN c ρ scope [(x, b)] [(x, P)] := by
  refine ⟨fun y Q e => ?_, fun p hp => ?_, by simp⟩
  · rw [List.lookup_cons] at e
    cases hb : y == x with
    | true => rw [hb] at e; cases e; rw [beq_iff_eq.mp hb]; exact ⟨hs, b, by simp, hl⟩
    | false => rw [hb] at e; cases e
  · obtain rfl := List.mem_singleton.mp hp; exact ⟨x, P, hl⟩

theorem qual_hit : (fd1 w 49).qualname ++ ".<locals>." ++ n_lam = Str.ofString "_law_hit.<locals>.<lambda>" := by
  rw [show (fd1 w 49).qualname = Str.ofString "_law_hit" from rfl]; decide +kernel
theorem qual_fin : (fd1 w 64).qualname ++ ".<locals>." ++ n_lam = Str.ofString "_law_finder.<locals>.<lambda>" := by
  rw [show (fd1 w 64).qualname = Str.ofString "_law_finder" from rfl]; decide +kernel

theorem att_of {a d : Addr} {fd : FuncData} {od : Obj} {v : Value} {n : Str} {P : VP} {h : Heap} (o1 : h.get? a = some { fnO fd with dict := some d }) (o2 : h.get? d = some od) (hn : NsO od (fun y => if y = n then some v else none)) (hv : P.p h v) : (isAtt [(n, P)]).p h (.ref a) := by
  refine ⟨a, _, fd, d, od, _, rfl, o1, rfl, rfl, rfl, o2, hn, fun m Q e => ?_⟩
  rw [List.lookup_cons] at e
  cases hb : m == n with
  | true =>
    rw [hb] at e; cases e
    rw [beq_iff_eq.mp hb]
    exact ⟨v, by rw [if_pos rfl], hv⟩
  | false => rw [hb] at e; cases e

set_option maxHeartbeats 1000000 in
theorem hit1 {k : Int} : FnSpec (W1 w mg mb) 1 (.ref 49) [isInt k] (isHit w k) := by
  refine FnSpec.mkCel (fd := fd1 w 49) (body := bd1 w 49) (ρb := [(n_place, isInt k)]) (ob1 rfl rfl) ⟨rfl, rfl, rfl, rfl, rfl, un_of rfl⟩ rfl rfl ?_ ?_ fun A L rm => ?_
  · intro h s vs ok al
    obtain ⟨v, rfl, p⟩ := al.one
    exact ⟨_, .of_eq rfl, rfl, p, trivial⟩
  · intro L y hy
    rw [List.mem_singleton.mp hy]
    exact .inr ⟨rfl, _, rfl, .tail _ (.head _)⟩
  · refine TS.lamOwn (qual := Str.ofString "_law_hit.<locals>.<lambda>") rfl (.inl rfl) qual_hit mkHit rfl fun a fd => ?_
    refine TS.att1 (P := isClo (cloS w) [] [(n_place, isInt k)]) rfl rfl rfl rfl rfl no_span (EvE.lam (qual := Str.ofString "_law_hit.<locals>.<lambda>") qual_hit mkHit rfl (cloN1 rfl rfl)) fun d od v hn => ?_
    refine TS.retOwn (EvE.name rfl) rfl fun h u p ho => ?_
    obtain ⟨rfl, hv⟩ := p
    exact att_of (ho _ (List.mem_cons_self ..)) (ho _ (List.mem_cons_of_mem _ (List.mem_cons_self ..))) hn (hv _ (List.mem_cons_self ..))

theorem span1 {k : Int} : VSpec (W1 w mg mb) 1 (isClo (cloS w) [] [(n_place, isInt k)]) [] (isTup [isInt k, isInt k]) := by
  refine VSpec.expr (ρb := []) rfl (fun _ _ _ _ _ => ⟨rfl, rfl, rfl, rfl, rfl, un_of rfl⟩) ?_ ?_ fun A a L clos pm cv ctv rm => EvE.tup (.cons (EvE.name rfl) (.cons (EvE.name rfl) .nil)) (by show 2 ≤ sizeLine; decide)
  · intro h s vs clos pm cv ctv ok al
    match vs, al with
    | [], _ => exact ⟨[], .of_eq rfl, trivial⟩
  · intro a L clos pm cv ctv y hy; simp at hy

/-- a function of the text as a value -/
def fnV (a : Addr) : VP := ⟨fun h v => v = .ref a ∧ isFn a h, fun l x => ⟨x.1, x.2.mono l⟩⟩
theorem VFn.fnV {a : Addr} : VFn (fnV a) := fun h v p => ⟨a, p.1, p.2⟩
theorem VSpec.fnV {W : Wd} {n : Nat} {a : Addr} {Ps : List VP} {R : VP} (f : FnSpec W n (.ref a) Ps R) : VSpec W n (Mine.fnV a) Ps R := fun A rm h s v vs Q E ok p al k => by
  obtain ⟨rfl, _⟩ := p
  exact f A rm h s vs Q E ok al k
theorem EvE.globF {W : Wd} {A : Around} {c : Cx} {ρ : Rho} {x : Str} {pos : Pos} {a : Addr} (g : GlV W x (.ref a)) (hf : ∀ h, W.G h → isFn a h) (hx : c.env.kindOf x = some .globalImplicit) (hd : (x == ("__debug__" : Str)) = false := by decide) :
    EvE W A c ρ (.Name x pos) (fnV a) := fun h s Q E st k =>
  EvE.glob g hx hd h s Q E st fun v h' s' x p => k v h' s' x ⟨p, hf h' x.ok.g⟩
theorem gl_search : GlV (W1 w mg mb) "_law_search" (.ref 57) := gl1 rfl
theorem gl_hit : GlV (W1 w mg mb) "_law_hit" (.ref 49) := gl1 rfl
theorem gb_range : GlB (W1 w mg mb) "range" (.type "range") := gb1 rfl (by decide) (by decide +kernel)

noncomputable abbrev isFinder : VP := isAtt [(n_srch, fnV 57)]
set_option maxHeartbeats 1000000 in
theorem finder1 : FnSpec (W1 w mg mb) 1 (.ref 64) [] isFinder := by
  refine FnSpec.mkCel (fd := fd1 w 64) (body := bd1 w 64) (ρb := []) (ob1 rfl rfl) ⟨rfl, rfl, rfl, rfl, rfl, un_of rfl⟩ rfl rfl ?_ ?_ fun A L rm => ?_
  · intro h s vs ok al
    match vs, al with
    | [], _ => exact ⟨[], .of_eq rfl, trivial⟩
  · intro L y hy; simp at hy
  · refine TS.lamOwn (qual := Str.ofString "_law_finder.<locals>.<lambda>") rfl (.inl rfl) qual_fin mkFin rfl fun a fd => ?_
    refine TS.att1 (P := fnV 57) rfl rfl rfl rfl rfl no_search (EvE.globF gl_search (fn1 rfl) rfl) fun d od v hn => ?_
    refine TS.retOwn (EvE.name rfl) rfl fun h u p ho => ?_
    obtain ⟨rfl, hv⟩ := p
    exact att_of (ho _ (List.mem_cons_self ..)) (ho _ (List.mem_cons_of_mem _ (List.mem_cons_self ..))) hn (hv _ (List.mem_cons_self ..))

end Mine

namespace Mine
variable {w : World} {mg mb : Str → Option Value}

def lastOk (xs : List Nat) : Bool := decide (mkS (xs.drop (xs.length - 1)) ∈ [Str.ofString "", Str.ofString ")"])
def good (xs : List Nat) (k : Nat) : Bool := lastOk (xs.take k) && chk (stripS (mkS (xs.take k)))
def findP (xs : List Nat) (p : Nat) : Option Nat := ((List.range (xs.length + 1 - p)).map (p + ·)).find? (good xs)
noncomputable def isHitO (w : World) : Option Nat → VP
  | none => isNone
  | some k => isHit w k
theorem find_drop {α : Type} {f : α → Bool} {l : List α} {i : Nat} {a : α} (h : l[i]? = some a) : (l.drop i).find? f = if f a then some a else (l.drop (i + 1)).find? f := by
  rw [drop_at h, List.find?_cons]
  cases f a <;> rfl
theorem rsz2 {p n : Nat} (h : p ≤ n) : Builtin.Range.rangeSize p n 1 = (n - p : Nat) := by
  rw [rangeSize_one]; split <;> omega
theorem rsm2 {p n : Nat} (h : n ≤ 1000000) (hp : p ≤ 1000000) : Builtin.Range.small p n 1 = true := small_one (by omega) (by omega) (by omega) (by omega)
abbrev n_k : Str := Str.ofString "k"
abbrev n_taken : Str := Str.ofString "taken"

set_option maxHeartbeats 1000000 in
theorem searchT {xs : List Nat} {p : Nat} (hx : xs.length ≤ 900) (hp : p ≤ xs.length + 1) (A : Around) (L : Addr) (rm : Rm A 4) :
    TS (W1 w mg mb) A (fCx (fd1 w 57) 57 L) [(n_place, isInt p), (n_chars, isStr (mkS xs))] (bd1 w 57) (fun o => o = .ret (isHitO w (findP xs p))) := by
  refine TS.forr (EvI.rng (n := xs.length + 1 - p) rm.hd (EvE.callT (EvE.blt gb_range rfl) (.cons (EvE.name rfl) (.cons ((EvE.binop (EvE.callB (EvE.blt gb_len rfl) (.cons (EvE.name rfl) .nil) (call_lenS (by rw [mkS_len]; omega))) EvE.int op_add).conv (congrArg isInt (show _ = ((xs.length + 1 : Nat) : Int) by rw [mkS_len]; omega))) .nil)) call_rng2) (rsz2 hp) (rsm2 (by omega) (by omega)))
    (fun i own ρ' => own = [] ∧ Sub [(n_chars, isStr (mkS xs))] ρ' ∧ (((List.range (xs.length + 1 - p)).map (p + ·)).drop i).find? (good xs) = findP xs p) ⟨rfl, .cons rfl (.nil _), rfl⟩ ?_ ?_
  · rintro i P own ρ' ⟨rfl, d, hc⟩ hP
    have hi : i < xs.length + 1 - p := by
      have := (List.getElem?_eq_some_iff.mp hP).1
      simpa [rngP] using this
    obtain ⟨k, hk⟩ : ∃ k, k = p + i := ⟨_, rfl⟩
    have hPi : P = isInt (k : Int) := by
      simp only [rngP, List.getElem?_map, List.getElem?_range hi, Option.map_some, Option.some.injEq] at hP
      rw [← hP]; congr 1; omega
    subst hPi
    rw [find_drop (a := k) (by simp [hi, hk])] at hc
    have ht : (xs.take k).length ≤ 900 := by rw [List.length_take]; omega
    have hel := escs_len (xs.take k)
    have ev : ∀ (ρ' : Rho) (c : Cx) (e : Expr) (p pos : Pos) (u : Expr), EvE (W1 w mg mb) A c ρ' e (isStr (mkS xs)) → EvE (W1 w mg mb) A c ρ' u (isInt (k : Int)) → EvE (W1 w mg mb) A c ρ' (.Subscript e (.Slice none (some u) none p) pos) (isStr (mkS (xs.take k))) :=
      fun ρ' c e p pos u h1 h2 => (EvE.slcS h1 EvP.no (EvP.of h2) (by rw [mkS_len]; omega)).conv (congrArg isStr (slice_upto xs k))
    refine ⟨_, AsT.name (.inl rfl), TS.sub (Sub.under d) ?_⟩
    refine TS.ite (q := lastOk (xs.take k)) ((EvT.cmp ((EvE.slcS (ev _ _ _ _ _ _ (EvE.name rfl) (EvE.name rfl)) (EvP.of (EvE.unop EvE.int op_neg)) EvP.no (by rw [mkS_len]; omega)).conv (congrArg isStr (slice_last _))) (EvE.tup (.cons EvE.str (.cons EvE.str .nil)) (by show 2 ≤ sizeLine; decide)) (op_inT (ys := [Str.ofString "", Str.ofString ")"]))).conv rfl) (fun h => ?_) (fun h => ?_)
    · have hg : good xs k = chk (stripS (mkS (xs.take k))) := by unfold good; rw [h, Bool.true_and]
      rw [hg] at hc
      refine TS.assign (EvE.callF (EvE.glob gl_check rfl) (fn1 rfl) (.cons (ev _ _ _ _ _ _ (EvE.name rfl) (EvE.name rfl)) .nil) (check1 (by rw [mkS_len]; omega) (by omega) A (rm.le (by omega)))) (.inl rfl) ?_
      refine TS.ite (EvT.cmp (EvE.name rfl) EvE.bool op_isNotb) (fun g => ?_) (fun g => ?_)
      · have g' : chk (stripS (mkS (xs.take k))) = true := by simpa using g
        rw [g', if_pos rfl] at hc
        rw [← hc, g']
        exact TS.ret (EvE.ite (EvT.cmp (EvE.name rfl) EvE.bool op_isb) (fun _ => EvE.callF (EvE.glob gl_hit rfl) (fn1 rfl) (.cons (EvE.name rfl) .nil) (hit1 A (rm.le (by omega)))) (fun q => by cases q)) rfl
      · have g' : chk (stripS (mkS (xs.take k))) = false := by simpa using g
        rw [g', if_neg Bool.false_ne_true] at hc
        exact TS.nil ⟨rfl, .cons rfl (.nil _), hc⟩
    · have hg : good xs k = false := by unfold good; rw [h, Bool.false_and]
      rw [hg, if_neg Bool.false_ne_true] at hc
      exact TS.nil ⟨rfl, .cons rfl (.nil _), hc⟩
  · rintro own ρ' ⟨rfl, d, hc⟩
    refine TS.ret EvE.none ?_
    rw [show (rngP (p : Int) 1 (xs.length + 1 - p)).length = xs.length + 1 - p by simp [rngP], List.drop_eq_nil_of_le (by simp)] at hc
    rw [← hc]
    rfl

theorem def50 {h : Heap} (g : (W1 w mg mb).G h) : ∃ t, h.get? 50 = some { cls := .type "tuple", data := .seq #[.int 0 t] } := ⟨_, g.k _ _ rfl⟩

theorem search1 {xs : List Nat} (hx : xs.length ≤ 900) : FnSpec (W1 w mg mb) 5 (.ref 57) [isStr (mkS xs)] (isHitO w (findP xs 0)) := by
  refine FnSpec.mk (fd := fd1 w 57) (body := bd1 w 57) (ρb := [(n_chars, isStr (mkS xs)), (n_place, isInt (0 : Nat))]) (ob1 rfl rfl) ⟨rfl, rfl, rfl, rfl, rfl, un_of rfl⟩ rfl rfl ?_ ?_ fun A L rm => searchT hx (by omega) A L rm
  · intro h s vs ok al
    obtain ⟨v, rfl, p⟩ := al.one
    obtain ⟨t, g⟩ := def50 ok.g
    exact ⟨[(n_chars, v), (n_place, .int 0 t)], BindsTo.of_defaults rfl (ok.le _ _ g) rfl rfl rfl, rfl, p, rfl, ⟨t, rfl⟩, trivial⟩
  · intro L y hy
    simp at hy
    rcases hy with rfl | rfl <;> exact .inl rfl
theorem search2 {xs : List Nat} {q : Nat} (hx : xs.length ≤ 900) (hq : q ≤ xs.length + 1) : FnSpec (W1 w mg mb) 5 (.ref 57) [isStr (mkS xs), isInt q] (isHitO w (findP xs q)) := by
  refine FnSpec.mk (fd := fd1 w 57) (body := bd1 w 57) (ρb := [(n_chars, isStr (mkS xs)), (n_place, isInt q)]) (ob1 rfl rfl) ⟨rfl, rfl, rfl, rfl, rfl, un_of rfl⟩ rfl rfl ?_ ?_ fun A L rm => searchT hx hq A L rm
  · intro h s vs ok al
    obtain ⟨v, v', rfl, p, p'⟩ := al.twoV
    obtain ⟨t, g⟩ := def50 ok.g
    exact ⟨[(n_chars, v), (n_place, v')], BindsTo.of_defaults rfl (ok.le _ _ g) rfl rfl rfl, rfl, p, rfl, p', trivial⟩
  · intro L y hy
    simp at hy
    rcases hy with rfl | rfl <;> exact .inl rfl

end Mine

namespace Mine
variable {w : World} {mg mb : Str → Option Value}

def revLoop (xs : List Nat) (col : Nat) : Nat → Option Nat → Nat → Option Nat
  | 0, found, _ => found
  | n + 1, found, m => if m < col then (match findP xs (m + 1) with
      | none => some m
      | some m' => revLoop xs col n (some m) m') else found
def revP (xs : List Nat) (col : Nat) : Option Nat := match findP xs 0 with
  | none => none
  | some m => revLoop xs col (xs.length + 2) none m
theorem findP_some {xs : List Nat} {p m : Nat} (h : findP xs p = some m) : p ≤ m ∧ m ≤ xs.length ∧ good xs m = true := by
  unfold findP at h
  have h1 := List.mem_of_find?_eq_some h
  have h2 := List.find?_some h
  simp only [List.mem_map, List.mem_range] at h1
  obtain ⟨i, hi, rfl⟩ := h1
  exact ⟨by omega, by omega, h2⟩

theorem tru_hitO {W : Wd} {A : Around} : ∀ o : Option Nat, Tru W A (isHitO w o) o.isSome
  | none => tru_none
  | some k => tru_att

abbrev n_prog : Str := Str.ofString "prog"
abbrev n_col : Str := Str.ofString "col"
abbrev n_m : Str := Str.ofString "m"
abbrev n_found : Str := Str.ofString "found"
abbrev n_i : Str := Str.ofString "i"
abbrev n_j : Str := Str.ofString "j"

set_option maxHeartbeats 1000000 in
theorem rev1 {xs : List Nat} {col : Nat} (hx : xs.length ≤ 900) : FnSpec (W1 w mg mb) 7 (.ref 21) [isFinder, isStr (mkS xs), isInt col] (isHitO w (revP xs col)) := by
  refine FnSpec.mk (fd := fd1 w 21) (body := bd1 w 21) (ρb := [(n_prog, isFinder), (n_chars, isStr (mkS xs)), (n_col, isInt col)]) (ob1 rfl rfl) ⟨rfl, rfl, rfl, rfl, rfl, un_of rfl⟩ rfl rfl ?_ ?_ fun A L rm => ?_
  · intro h s vs ok al
    obtain ⟨v, v', v'', rfl, p, p', p''⟩ := al.three
    exact ⟨[(n_prog, v), (n_chars, v'), (n_col, v'')], .of_eq rfl, rfl, p, rfl, p', rfl, p'', trivial⟩
  · intro L y hy
    simp at hy
    rcases hy with rfl | rfl | rfl <;> exact .inl rfl
  · refine TS.assign (EvE.attCall (n := 5) (rm.le (by omega)) (EvE.name rfl) (l := [(n_srch, fnV 57)]) rfl VFn.fnV (.cons (EvE.name rfl) .nil) (VSpec.fnV (search1 hx)) no_search) (.inl rfl) ?_
    refine TS.ite (EvT.not (EvT.val (EvE.name rfl) (tru_hitO _))) (fun h => ?_) (fun h => ?_)
    · refine TS.ret EvE.none ?_
      have : findP xs 0 = none := by
        cases e : findP xs 0 with
        | none => rfl
        | some m => rw [e] at h; cases h
      show Out.ret isNone = Out.ret (isHitO w (revP xs col))
      unfold revP; rw [this]; rfl
    · cases e : findP xs 0 with
      | none => rw [e] at h; cases h
      | some f =>
        have hr : revP xs col = revLoop xs col (xs.length + 2) none f := by unfold revP; rw [e]
        have hg := findP_some e
        refine TS.assign EvE.none (.inl rfl) ?_
        refine TS.two rm.hd (P := isInt f) (Q := isInt f) (EvE.attCall (n := 1) (rm.le (by omega)) (EvE.name rfl) (l := hitL w f) rfl VFn.clo .nil span1 no_span) (.inl rfl) (.inl rfl) ?_
        refine TS.whil (fun n own ρ' => own = [] ∧ ∃ (found : Option Nat) (f : Nat), Sub [(n_i, isInt f), (n_j, isInt f), (n_m, isHitO w (some f)), (n_found, isHitO w found), (n_prog, isFinder), (n_chars, isStr (mkS xs)), (n_col, isInt col)] ρ' ∧ f ≤ xs.length ∧ xs.length + 2 - f ≤ n ∧ revLoop xs col n found f = revP xs col) (xs.length + 2)
          ⟨rfl, none, f, .cons rfl (.cons rfl (.cons rfl (.cons rfl (.cons rfl (.cons rfl (.cons rfl (.nil _))))))), hg.2.1, by omega, hr.symm⟩ ?_
        · rintro n own ρ' ⟨rfl, found, f, d, hf, hm, hR⟩
          have d1 := d n_i (isInt f) rfl
          have d2 := d n_j (isInt f) rfl
          have d3 := d n_col (isInt col) rfl
          refine ⟨_, EvT.and2 (p := decide ((f : Int) < col)) (q := decide ((f : Int) ≤ col)) (EvT.cmp (EvE.name d1) (EvE.name d3) op_lt) (fun _ => EvT.cmp (EvE.name d2) (EvE.name d3) op_le), fun hb => TS.sub d ?_, fun hb => TS.sub d ?_⟩
          · have hb' : f < col := by simp at hb; omega
            obtain ⟨n, rfl⟩ : ∃ k, n = k + 1 := ⟨n - 1, by omega⟩
            rw [revLoop, if_pos hb'] at hR
            refine TS.assign (EvE.name rfl) (.inl rfl) ?_
            refine TS.ite (EvT.cmp (EvE.name rfl) (EvE.name rfl) op_eq) (fun h => ?_) (fun h => ?_)
            · refine TS.assign (P := isInt ((f + 1 : Nat) : Int)) (EvE.binop (EvE.name rfl) EvE.int op_add) (.inl rfl) ?_
              refine TS.assign (EvE.attCall (n := 5) (rm.le (by omega)) (EvE.name rfl) (l := [(n_srch, fnV 57)]) rfl VFn.fnV (.cons (EvE.name rfl) (.cons (EvE.name rfl) .nil)) (VSpec.fnV (search2 hx (by omega))) no_search) (.inl rfl) ?_
              refine TS.ite (EvT.not (EvT.val (EvE.name rfl) (tru_hitO _))) (fun h => ?_) (fun h => ?_)
              · cases e : findP xs (f + 1) with
                | some m => rw [e] at h; cases h
                | none =>
                  rw [e] at hR
                  simp only at hR
                  refine TS.brk ?_
                  show TS _ _ _ _ _ _
                  refine TS.ret (EvE.name (P := isHitO w (some f)) rfl) ?_
                  rw [← hR]
              · cases e : findP xs (f + 1) with
                | none => rw [e] at h; cases h
                | some f' =>
                  rw [e] at hR
                  simp only at hR
                  have hg := findP_some e
                  refine TS.two rm.hd (P := isInt f') (Q := isInt f') (EvE.attCall (n := 1) (rm.le (by omega)) (EvE.name rfl) (l := hitL w f') rfl VFn.clo .nil span1 no_span) (.inl rfl) (.inl rfl) ?_
                  refine TS.nil ⟨n, by omega, rfl, some f, f', .cons rfl (.cons rfl (.cons rfl (.cons rfl (.cons rfl (.cons rfl (.cons rfl (.nil _))))))), hg.2.1, by omega, hR⟩
            · have := of_decide_eq_false h; exact absurd rfl this
          · have hb' : ¬ f < col := by
              intro q
              simp at hb; omega
            obtain ⟨n, rfl⟩ : ∃ k, n = k + 1 := ⟨n - 1, by omega⟩
            rw [revLoop, if_neg hb'] at hR
            refine TS.ret (EvE.name (P := isHitO w found) rfl) ?_
            rw [← hR]

end Mine

namespace Mine

/-! signs, words, nests -/
inductive Sg where | a | rp | q | lp
def Sg.n : Sg → List Nat
  | .a => [97] | .rp => [92, 41] | .q => [34, 40, 34] | .lp => [92, 40]
inductive K where | op (s : Sg) | cl
def K.n : K → List Nat
  | .op s => 40 :: s.n
  | .cl => [41]
/-- without what stands between quotation marks -/
def K.nq : K → List Nat
  | .op .q => [40]
  | .op s => 40 :: s.n
  | .cl => [41]
def tx (w : List K) : List Nat := w.flatMap K.n
def txQ (w : List K) : List Nat := w.flatMap K.nq
theorem tx_app (a b : List K) : tx (a ++ b) = tx a ++ tx b := by simp [tx]
theorem tx_cons (k : K) (w : List K) : tx (k :: w) = k.n ++ tx w := by simp [tx]
theorem txQ_cons (k : K) (w : List K) : txQ (k :: w) = k.nq ++ txQ w := by simp [txQ]
inductive B where | e | n (a : B) (s : Sg) (b : B)
def B.w : B → List K
  | .e => []
  | .n a s b => a.w ++ .op s :: (b.w ++ [.cl])
def B.turn : B → B
  | .e => .e
  | .n a s b => .n b.turn s a.turn
def B.size : B → Nat
  | .e => 0
  | .n a _ b => a.size + b.size + 1
theorem B.turn_turn : ∀ t : B, t.turn.turn = t
  | .e => rfl
  | .n a s b => by rw [B.turn, B.turn, B.turn_turn a, B.turn_turn b]
theorem B.turn_size : ∀ t : B, t.turn.size = t.size
  | .e => rfl
  | .n a s b => by rw [B.turn, B.size, B.size, B.turn_size a, B.turn_size b]; omega
theorem Sg.len (s : Sg) : s.n.length ≤ 3 := by cases s <;> decide
theorem B.len : ∀ t : B, (tx t.w).length ≤ 5 * t.size
  | .e => by simp [B.w, tx]
  | .n a s b => by
    have h1 := B.len a
    have h2 := B.len b
    have h3 := s.len
    rw [B.w, tx_app, tx_cons, tx_app]
    simp only [List.length_append, K.n, List.length_cons, B.size, tx, List.flatMap_cons, List.flatMap_nil, List.length_nil] at *
    omega

/-! the units of a word -/
theorem esc_plain {ch : Nat} (h : ch ≠ 92) (r : List Nat) (k p : Int) : escL (ch :: r) k false p = (k, ⟨#[ch]⟩) :: escL r (k + 1) false k := by
  rw [escL, if_neg]
  intro e
  have : (#[ch] : Array Nat) = #[92] := congrArg Str.cps e
  simp at this; exact h this
theorem esc_bs (ch : Nat) (r : List Nat) (k p : Int) : escL (92 :: ch :: r) k false p = (k + 1, bsl ++ ⟨#[ch]⟩) :: escL r (k + 1 + 1) false (k + 1) := by
  rw [escL, if_pos (by decide), escL]

def balI : List K → Int → Bool
  | [], n => decide (n = 0)
  | .op _ :: r, n => balI r (n + 1)
  | .cl :: r, n => if n - 1 < 0 then false else balI r (n - 1)
theorem chkL_txQ : ∀ (w : List K) (k p n : Int), chkL (escL (txQ w) k false p) n = balI w n
  | [], k, p, n => by simp [txQ, escL, chkL, balI]
  | .cl :: w, k, p, n => by
    rw [txQ_cons]
    show chkL (escL (41 :: txQ w) k false p) n = _
    rw [esc_plain (by decide), chkL, if_neg (by decide), if_pos (by decide), balI, chkL_txQ w]
  | .op .a :: w, k, p, n => by
    rw [txQ_cons]
    show chkL (escL (40 :: 97 :: txQ w) k false p) n = _
    rw [esc_plain (by decide), esc_plain (by decide), chkL, if_pos (by decide), chkL, if_neg (by decide), if_neg (by decide), balI, chkL_txQ w]
  | .op .rp :: w, k, p, n => by
    rw [txQ_cons]
    show chkL (escL (40 :: 92 :: 41 :: txQ w) k false p) n = _
    rw [esc_plain (by decide), esc_bs, chkL, if_pos (by decide), chkL, if_neg (by decide), if_neg (by decide), balI, chkL_txQ w]
  | .op .lp :: w, k, p, n => by
    rw [txQ_cons]
    show chkL (escL (40 :: 92 :: 40 :: txQ w) k false p) n = _
    rw [esc_plain (by decide), esc_bs, chkL, if_pos (by decide), chkL, if_neg (by decide), if_neg (by decide), balI, chkL_txQ w]
  | .op .q :: w, k, p, n => by
    rw [txQ_cons]
    show chkL (escL (40 :: txQ w) k false p) n = _
    rw [esc_plain (by decide), chkL, if_pos (by decide), balI, chkL_txQ w]
theorem chk_txQ (w : List K) : chk (mkS (txQ w)) = balI w 0 := chkL_txQ w 0 0 0

/-! the quoted signs go -/
def gl (acc : List Str) : List Nat := acc.flatMap fun y => y.cps.toList
theorem gl_app (a b : List Str) : gl (a ++ b) = gl a ++ gl b := by simp [gl]
theorem join_gl (ys : List Str) : Txt.join (Str.ofString "") ys = mkS (gl ys) := by
  have key : ∀ (ys : List Str) (acc : Array Nat), (ys.foldl (fun acc p => acc ++ (Str.ofString "").cps ++ p.cps) acc).toList = acc.toList ++ gl ys := by
    intro ys
    induction ys with
    | nil => intro acc; simp [gl]
    | cons u ws ih =>
      intro acc
      rw [List.foldl_cons, ih]
      simp [gl, show (Str.ofString "").cps = #[] from rfl]
  unfold Txt.join PySem.Builtin.Str.glued
  refine congrArg Str.mk (Array.toList_inj.mp ?_)
  cases ys with
  | nil => rfl
  | cons u ws =>
    first
    | (simp only; rw [key]; simp [gl])
    | (rw [key]; simp [gl])

theorem stripGo_skip {x : Str} {p : Int} {u : Str} {r : List (Int × Str)} {st : Int} {op : Option Int} {acc : List Str} (h : u ≠ dq) : stripGo x ((p, u) :: r) st op acc = stripGo x r st op acc := by
  rw [stripGo, if_neg h]
theorem stripGo_none {x : Str} {p : Int} {r : List (Int × Str)} {st : Int} {acc : List Str} : stripGo x ((p, dq) :: r) st none acc = stripGo x r st (some p) acc := by
  rw [stripGo, if_pos rfl]; rfl
theorem stripGo_some {x : Str} {p o : Int} {r : List (Int × Str)} {st : Int} {acc : List Str} (h : st ≠ o) : stripGo x ((p, dq) :: r) st (some o) acc = stripGo x r (p + 1) none (acc ++ [Txt.slice x (some st) (some o)]) := by
  rw [stripGo, if_pos rfl]
  simp only [stripStep, if_neg h]

theorem stripGo_tx (X : List Nat) : ∀ (w : List K) (pre : List Nat) (s : Nat) (acc : List Str) (p : Int), X = pre ++ tx w → s ≤ pre.length →
    ∃ (s' : Nat) (acc' : List Str), stripGo (mkS X) (escL (tx w) pre.length false p) s none acc = ((s' : Int), acc') ∧ s' ≤ X.length ∧ gl acc' ++ X.drop s' = gl acc ++ pre.drop s ++ txQ w
  | [], pre, s, acc, p, hX, hs => by
    refine ⟨s, acc, by simp [tx, escL, stripGo], ?_, ?_⟩
    · rw [hX]; simp [tx]; exact hs
    · rw [hX]; simp [tx, txQ]
  | k :: w, pre, s, acc, p, hX, hs => by
    -- a token without quotation marks
    have plain : k.nq = k.n → (∀ p', stripGo (mkS X) (escL (tx (k :: w)) pre.length false p) s none acc = stripGo (mkS X) (escL (tx w) ((pre ++ k.n).length : Nat) false p') s none acc) →
        ∃ (s' : Nat) (acc' : List Str), stripGo (mkS X) (escL (tx (k :: w)) pre.length false p) s none acc = ((s' : Int), acc') ∧ s' ≤ X.length ∧ gl acc' ++ X.drop s' = gl acc ++ pre.drop s ++ txQ (k :: w) := by
      intro hk he
      obtain ⟨s', acc', e, h1, h2⟩ := stripGo_tx X w (pre ++ k.n) s acc 0 (by rw [hX, tx_cons, List.append_assoc]) (by rw [List.length_append]; omega)
      refine ⟨s', acc', by rw [he 0, e], h1, ?_⟩
      rw [h2, List.drop_append_of_le_length hs, txQ_cons, hk]
      simp
    have irr : ∀ (r : List Nat) (k p p' : Int), escL r k false p = escL r k false p' := by
      intro r k p p'; cases r <;> simp [escL]
    match k, plain with
    | .cl, plain =>
      refine plain rfl fun p' => ?_
      rw [tx_cons]
      show stripGo _ (escL (41 :: tx w) _ false p) _ _ _ = _
      rw [esc_plain (by decide), stripGo_skip (by decide), irr _ _ _ p']
      simp [K.n]
    | .op .a, plain =>
      refine plain rfl fun p' => ?_
      rw [tx_cons]
      show stripGo _ (escL (40 :: 97 :: tx w) _ false p) _ _ _ = _
      rw [esc_plain (by decide), esc_plain (by decide), stripGo_skip (by decide), stripGo_skip (by decide), irr _ _ _ p']
      rw [show (((pre ++ (K.op Sg.a).n).length : Nat) : Int) = (pre.length : Int) + 1 + 1 by simp [K.n, Sg.n]; omega]
    | .op .rp, plain =>
      refine plain rfl fun p' => ?_
      rw [tx_cons]
      show stripGo _ (escL (40 :: 92 :: 41 :: tx w) _ false p) _ _ _ = _
      rw [esc_plain (by decide), esc_bs, stripGo_skip (by decide), stripGo_skip (by decide), irr _ _ _ p']
      rw [show (((pre ++ (K.op Sg.rp).n).length : Nat) : Int) = (pre.length : Int) + 1 + 1 + 1 by simp [K.n, Sg.n]; omega]
    | .op .lp, plain =>
      refine plain rfl fun p' => ?_
      rw [tx_cons]
      show stripGo _ (escL (40 :: 92 :: 40 :: tx w) _ false p) _ _ _ = _
      rw [esc_plain (by decide), esc_bs, stripGo_skip (by decide), stripGo_skip (by decide), irr _ _ _ p']
      rw [show (((pre ++ (K.op Sg.lp).n).length : Nat) : Int) = (pre.length : Int) + 1 + 1 + 1 by simp [K.n, Sg.n]; omega]
    | .op .q, _ =>
      have hX' : X = (pre ++ [40, 34, 40, 34]) ++ tx w := by rw [hX, tx_cons, List.append_assoc]; rfl
      obtain ⟨s', acc', e, h1, h2⟩ := stripGo_tx X w (pre ++ [40, 34, 40, 34]) (pre.length + 4) (acc ++ [Txt.slice (mkS X) (some (s : Int)) (some ((pre.length : Int) + 1))]) ((pre.length : Int) + 1 + 1 + 1) hX' (by simp)
      refine ⟨s', acc', ?_, h1, ?_⟩
      · rw [← e, tx_cons]
        show stripGo _ (escL (40 :: 34 :: 40 :: 34 :: tx w) _ false p) _ _ _ = _
        rw [esc_plain (by decide), esc_plain (by decide), esc_plain (by decide), esc_plain (by decide), stripGo_skip (by decide)]
        rw [show (⟨#[34]⟩ : Str) = dq from by decide, stripGo_none, stripGo_skip (by decide), stripGo_some (by omega)]
        simp only [List.length_append, List.length_cons, List.length_nil]
        congr 1
      · rw [h2, gl_app, txQ_cons]
        have hsl : Txt.slice (mkS X) (some (s : Int)) (some ((pre.length : Int) + 1)) = mkS ((X.take (pre.length + 1)).drop s) := slice_mid X s (pre.length + 1) (by rw [hX', List.length_append, List.length_append]; omega) (by rw [hX', List.length_append, List.length_append]; simp; omega)
        have ht : X.take (pre.length + 1) = pre ++ [40] := by rw [hX', List.append_assoc, List.take_length_add_append]; rfl
        rw [hsl, ht, List.drop_append_of_le_length hs, List.drop_eq_nil_of_le (as := pre ++ [40, 34, 40, 34]) (by rw [List.length_append]; exact Nat.le_refl _)]
        simp [gl, mkS, K.nq]

theorem txQ_eq : ∀ w : List K, 34 ∉ tx w → txQ w = tx w
  | [], _ => rfl
  | k :: w, h => by
    rw [tx_cons] at h
    have h1 : 34 ∉ k.n := fun q => h (List.mem_append_left _ q)
    have h2 : 34 ∉ tx w := fun q => h (List.mem_append_right _ q)
    rw [tx_cons, txQ_cons, txQ_eq w h2]
    congr 1
    match k, h1 with
    | .cl, _ => rfl
    | .op .a, _ => rfl
    | .op .rp, _ => rfl
    | .op .lp, _ => rfl
    | .op .q, h1 => exact absurd (by decide) h1
theorem strip_tx (w : List K) : stripS (mkS (tx w)) = mkS (txQ w) := by
  unfold stripS
  have hc : (mkS (tx w)).cps.toList = tx w := by simp [mkS]
  rw [hc]
  split
  · obtain ⟨s', acc', e, h1, h2⟩ := stripGo_tx (tx w) w [] 0 [] 0 rfl (Nat.le_refl _)
    have e' : stripGo (mkS (tx w)) (escs (mkS (tx w))) 0 none [] = ((s' : Int), acc') := by rw [← e]; unfold escs; rw [hc]; rfl
    rw [e', mkS_len]
    simp only
    have h3 : gl acc' ++ (tx w).drop s' = txQ w := by rw [h2]; simp [gl]
    split
    · rw [join_gl, gl_app, slice_from, ← h3]
      congr 1
      simp [gl, mkS]
    · rename_i hlt
      have : s' = (tx w).length := by omega
      rw [this, List.drop_length, List.append_nil] at h3
      rw [join_gl, h3]
  · rename_i h
    rw [txQ_eq w h]
theorem chk_tx (w : List K) : chk (stripS (mkS (tx w))) = balI w 0 := by rw [strip_tx, chk_txQ]

end Mine

namespace Mine

/-! words that close -/
theorem bal_w : ∀ (t : B) (r : List K) (n : Int), 0 ≤ n → balI (t.w ++ r) n = balI r n
  | .e, r, n, h => rfl
  | .n a s b, r, n, h => by
    rw [B.w, List.append_assoc, bal_w a _ n h, List.cons_append, balI, List.append_assoc, bal_w b _ (n + 1) (by omega)]
    show balI (.cl :: r) (n + 1) = _
    rw [balI, if_neg (by omega), Int.add_sub_cancel]
theorem take_past {α : Type} (a : List α) (x : α) (r : List α) (i : Nat) : (a ++ x :: r).take (a.length + (i + 1)) = a ++ x :: r.take i := by
  rw [List.take_length_add_append, List.take_succ_cons]
theorem bal_part : ∀ (t : B) (j : Nat) (n : Int), 0 ≤ n → ∃ m, n ≤ m ∧ ∀ r, balI (t.w.take j ++ r) n = balI r m
  | .e, j, n, h => ⟨n, Int.le_refl _, fun r => by simp [B.w]⟩
  | .n a s b, j, n, h => by
    by_cases h1 : j ≤ a.w.length
    · obtain ⟨m, hm, k⟩ := bal_part a j n h
      refine ⟨m, hm, fun r => ?_⟩
      rw [B.w, List.take_append_of_le_length h1]; exact k r
    · obtain ⟨i, hi⟩ : ∃ i, j = a.w.length + (i + 1) := ⟨j - a.w.length - 1, by omega⟩
      have e : (B.n a s b).w.take j = a.w ++ .op s :: ((b.w ++ [K.cl]).take i) := by
        rw [B.w, hi, take_past]
      by_cases h2 : i ≤ b.w.length
      · obtain ⟨m, hm, k⟩ := bal_part b i (n + 1) (by omega)
        refine ⟨m, by omega, fun r => ?_⟩
        rw [e, List.append_assoc, bal_w a _ n h, List.cons_append, balI, List.take_append_of_le_length h2, k]
      · have this : (b.w ++ [K.cl]).take i = b.w ++ [K.cl] := List.take_of_length_le (by simp; omega)
        refine ⟨n, Int.le_refl _, fun r => ?_⟩
        rw [e, this]; have := bal_w (.n a s b) r n h; rwa [B.w] at this

/-! where a place is good -/
theorem lastOk_iff {xs : List Nat} : lastOk xs = true ↔ xs = [] ∨ xs.getLast? = some 41 := by
  unfold lastOk
  rw [decide_eq_true_eq, show Str.ofString "" = mkS [] from rfl, show Str.ofString ")" = mkS [41] from by decide]
  simp only [List.mem_cons, List.not_mem_nil, or_false, mkS_eq]
  rcases List.eq_nil_or_concat xs with rfl | ⟨l, a, rfl⟩
  · simp
  · simp
theorem tok_cut : ∀ (t : K) (k : Nat), k < t.n.length → 0 < k → ¬ (t.n.take k = [] ∨ (t.n.take k).getLast? = some 41) := by
  intro t
  cases t with
  | cl => decide
  | op s => cases s <;> decide
theorem take_tx : ∀ (w : List K) (k : Nat), k ≤ (tx w).length → ((tx w).take k = [] ∨ ((tx w).take k).getLast? = some 41) → ∃ i, i ≤ w.length ∧ k = (tx (w.take i)).length
  | [], k, hk, _ => ⟨0, by simp, by simpa [tx] using hk⟩
  | t :: w, k, hk, h => by
    by_cases h0 : k = 0
    · exact ⟨0, Nat.zero_le _, by simp [tx, h0]⟩
    by_cases h1 : t.n.length ≤ k
    · obtain ⟨j, hj⟩ : ∃ j, k = t.n.length + j := ⟨k - t.n.length, by omega⟩
      have hk' : j ≤ (tx w).length := by rw [tx_cons, List.length_append] at hk; omega
      obtain ⟨i, hi, e⟩ := take_tx w j hk' (by
        by_cases hj0 : j = 0
        · left; simp [hj0]
        · right
          rw [tx_cons, hj, List.take_length_add_append] at h
          rcases h with h | h
          · have h5 := congrArg List.length h
            rw [List.length_append] at h5
            have h6 : 0 < t.n.length := by cases t <;> simp [K.n]
            simp only [List.length_nil] at h5; omega
          · have hne : (tx w).take j ≠ [] := by
              intro q
              have := congrArg List.length q
              simp at this
              rcases this with q | q
              · exact hj0 q
              · have h3 : (tx w).length = 0 := by rw [q]; rfl
                omega
            rcases List.eq_nil_or_concat ((tx w).take j) with q | ⟨l, x, q⟩
            · exact absurd q hne
            · rw [q] at h ⊢
              rw [List.concat_eq_append, ← List.append_assoc, List.getLast?_concat] at h
              rw [List.concat_eq_append, List.getLast?_concat]; exact h)
      refine ⟨i + 1, by simpa using hi, ?_⟩
      rw [List.take_succ_cons, tx_cons, List.length_append, ← e, hj]
    · exfalso
      rw [tx_cons, List.take_append_of_le_length (by omega)] at h
      exact tok_cut t k (by omega) (by omega) h
theorem take_at (w : List K) (i : Nat) : (tx w).take (tx (w.take i)).length = tx (w.take i) := by
  conv => lhs; arg 2; rw [← List.take_append_drop i w]
  rw [tx_app, List.take_left]
theorem good_at {w : List K} {k : Nat} (hk : k ≤ (tx w).length) (h : good (tx w) k = true) : ∃ i, i ≤ w.length ∧ k = (tx (w.take i)).length ∧ balI (w.take i) 0 = true := by
  unfold good at h
  rw [Bool.and_eq_true, lastOk_iff] at h
  obtain ⟨i, hi, e⟩ := take_tx w k hk h.1
  refine ⟨i, hi, e, ?_⟩
  have := h.2
  rwa [e, take_at, chk_tx] at this
theorem B.last : ∀ t : B, lastOk (tx t.w) = true
  | .e => by decide
  | .n a s b => by
    rw [lastOk_iff]; right
    have e : tx (B.n a s b).w = (tx a.w ++ 40 :: (s.n ++ tx b.w)) ++ [41] := by
      rw [B.w, tx_app, tx_cons, tx_app]; simp [K.n, tx]
    rw [e, List.getLast?_concat]
theorem bal_self (t : B) : balI t.w 0 = true := by
  have := bal_w t [] 0 (by decide)
  rw [List.append_nil] at this; rw [this]; rfl

theorem cut_good (a : B) (s : Sg) (b : B) : good (tx (B.n a s b).w) (tx a.w).length = true := by
  have e : (tx (B.n a s b).w).take (tx a.w).length = tx a.w := by rw [B.w, tx_app, List.take_left]
  unfold good
  rw [e, a.last, chk_tx, bal_self]; rfl
theorem cut_last (a : B) (s : Sg) (b : B) {k : Nat} (h1 : (tx a.w).length < k) (h2 : k < (tx (B.n a s b).w).length) : good (tx (B.n a s b).w) k = false := by
  rw [← Bool.not_eq_true]
  intro h
  obtain ⟨i, hi, e, hb⟩ := good_at (Nat.le_of_lt h2) h
  have g1 : a.w.length < i := by
    refine Nat.lt_of_not_le fun q => ?_
    have : (B.n a s b).w.take i = a.w.take i := by rw [B.w, List.take_append_of_le_length q]
    rw [this] at e
    have h3 : (tx (a.w.take i)).length ≤ (tx a.w).length := by
      conv => rhs; rw [← List.take_append_drop i a.w, tx_app, List.length_append]
      omega
    omega
  have g2 : i < (B.n a s b).w.length := by
    refine Nat.lt_of_not_le fun q => ?_
    rw [List.take_of_length_le q] at e
    omega
  obtain ⟨j, hj⟩ : ∃ j, i = a.w.length + (j + 1) := ⟨i - a.w.length - 1, by omega⟩
  rw [B.w] at hb g2
  rw [hj, take_past, List.take_append_of_le_length (by simp at g2; omega), bal_w a _ 0 (by decide), balI] at hb
  obtain ⟨m, hm, k⟩ := bal_part b j (0 + 1) (by decide)
  have := k []
  rw [List.append_nil] at this
  rw [this, balI, decide_eq_true_eq] at hb
  omega

/-! the search's answer -/
theorem findP_none {xs : List Nat} {p j : Nat} (h : findP xs p = none) (h1 : p ≤ j) (h2 : j ≤ xs.length) : good xs j = false := by
  unfold findP at h
  rw [List.find?_eq_none] at h
  have := h j (List.mem_map.mpr ⟨j - p, by simp; omega, by omega⟩)
  simpa using this
theorem findP_first {xs : List Nat} {p m j : Nat} (h : findP xs p = some m) (h1 : p ≤ j) (h2 : j < m) : good xs j = false := by
  unfold findP at h
  rw [List.find?_map, Option.map_eq_some_iff] at h
  obtain ⟨i, hi, e⟩ := h
  rw [List.find?_range_eq_some] at hi
  have := hi.2.2 (j - p) (by omega)
  simp only [Function.comp_apply, show p + (j - p) = j by omega] at this
  simpa using this
theorem revLoop_last {xs : List Nat} {m : Nat} (hm : m < xs.length) (hg : good xs m = true) (hn : ∀ k, m < k → k < xs.length → good xs k = false) :
    ∀ (n : Nat) (found : Option Nat) (f : Nat), f ≤ m → m < f + n → revLoop xs xs.length n found f = some m
  | 0, found, f, h1, h2 => by omega
  | n + 1, found, f, h1, h2 => by
    rw [revLoop, if_pos (by omega)]
    cases e : findP xs (f + 1) with
    | none =>
      by_cases q : f = m
      · simp [q]
      · have := findP_none e (j := m) (by omega) (by omega)
        rw [hg] at this; cases this
    | some m' =>
      simp only
      have hs := findP_some e
      by_cases q : f = m
      · subst q
        have : xs.length ≤ m' := by
          refine Nat.le_of_not_lt fun q' => ?_
          have := hn m' (by omega) q'
          rw [hs.2.2] at this; cases this
        cases n with
        | zero => rfl
        | succ n => rw [revLoop, if_neg (by omega)]
      · have : m' ≤ m := by
          refine Nat.le_of_not_lt fun q' => ?_
          have := findP_first e (j := m) (by omega) q'
          rw [hg] at this; cases this
        exact revLoop_last hm hg hn n _ m' this (by omega)
theorem revP_last {xs : List Nat} {m : Nat} (hm : m < xs.length) (hg : good xs m = true) (hn : ∀ k, m < k → k < xs.length → good xs k = false) : revP xs xs.length = some m := by
  unfold revP
  cases e : findP xs 0 with
  | none =>
    have := findP_none e (j := m) (by omega) (by omega)
    rw [hg] at this; cases this
  | some f =>
    simp only
    have : f ≤ m := by
      refine Nat.le_of_not_lt fun q' => ?_
      have := findP_first e (j := m) (by omega) q'
      rw [hg] at this; cases this
    exact revLoop_last hm hg hn _ _ f this (by omega)
theorem cut_is (a : B) (s : Sg) (b : B) : revP (tx (B.n a s b).w) (tx (B.n a s b).w).length = some (tx a.w).length :=
  revP_last (by rw [B.w, tx_app, List.length_append, tx_cons]; simp [K.n]) (cut_good a s b) fun k h1 h2 => cut_last a s b h1 h2

/-! the first unit -/
def unitOf (x : Str) (q : Int × Str) : Str := if Txt.endswith (Txt.slice x none (some (q.1 + 1))) q.2 then q.2 else Str.ofString ""
def unitsS (x : Str) : List Str := (escs x).map (unitOf x)
def signS (x : Str) : Str := Txt.join (Str.ofString "") (if (unitsS x).take 1 = [Str.ofString "\""] then (unitsS x).take 3 else (unitsS x).take 1)

theorem unit_of {xs : List Nat} {u : Str} {k : Nat} {q : Int} (hq : q + 1 = ((k : Nat) : Int)) (h : Txt.endswith (mkS (xs.take k)) u = true) : unitOf (mkS xs) (q, u) = u := by
  unfold unitOf
  simp only
  rw [hq, slice_upto, if_pos h]
theorem escs_mk (xs : List Nat) : escs (mkS xs) = escL xs 0 false 0 := by
  unfold escs; simp [mkS]
theorem sign_one {x u : Str} {r : List Str} (h : unitsS x = u :: r) (hu : u ≠ Str.ofString "\"") : signS x = mkS u.cps.toList := by
  unfold signS
  rw [h, List.take_succ_cons, List.take_zero, if_neg (by simpa using hu), join_gl]
  simp [gl]
theorem sign_three {x u v : Str} {r : List Str} (h : unitsS x = Str.ofString "\"" :: u :: v :: r) : signS x = mkS (34 :: (u.cps.toList ++ v.cps.toList)) := by
  unfold signS
  rw [h, List.take_succ_cons, List.take_zero, if_pos rfl, List.take_succ_cons, List.take_succ_cons, List.take_succ_cons, List.take_zero, join_gl]
  simp [gl, show (Str.ofString "\"").cps.toList = [34] from by decide]
theorem units_mk (xs : List Nat) : unitsS (mkS xs) = (escL xs 0 false 0).map (unitOf (mkS xs)) := by
  unfold unitsS; rw [escs_mk]
theorem units_plain (ch : Nat) (h : ch ≠ 92) (X : List Nat) : ∃ r, unitsS (mkS (ch :: X)) = ⟨#[ch]⟩ :: r := by
  rw [units_mk, esc_plain h, List.map_cons, unit_of (k := 1) rfl]
  · exact ⟨_, rfl⟩
  · rw [List.take_succ_cons, List.take_zero]
    simp [Txt.endswith, mkS, Builtin.Str.subAt, Str.length]
theorem units_bs (ch : Nat) (X : List Nat) (h : Txt.endswith (mkS [92, ch]) (bsl ++ ⟨#[ch]⟩) = true) : ∃ r, unitsS (mkS (92 :: ch :: X)) = (bsl ++ ⟨#[ch]⟩) :: r := by
  rw [units_mk, esc_bs, List.map_cons, unit_of (k := 2) rfl]
  · exact ⟨_, rfl⟩
  · rw [List.take_succ_cons, List.take_succ_cons, List.take_zero]; exact h
theorem units_q (X : List Nat) : ∃ r, unitsS (mkS (34 :: 40 :: 34 :: X)) = Str.ofString "\"" :: ⟨#[40]⟩ :: ⟨#[34]⟩ :: r := by
  rw [units_mk, esc_plain (by decide), esc_plain (by decide), esc_plain (by decide), List.map_cons, List.map_cons, List.map_cons, unit_of (k := 1) rfl (by rw [List.take_succ_cons, List.take_zero]; decide),
      unit_of (k := 2) rfl (by rw [List.take_succ_cons, List.take_succ_cons, List.take_zero]; decide), unit_of (k := 3) rfl (by rw [List.take_succ_cons, List.take_succ_cons, List.take_succ_cons, List.take_zero]; decide)]
  exact ⟨_, rfl⟩
theorem sign_of (s : Sg) (X : List Nat) : signS (mkS (s.n ++ X)) = mkS s.n := by
  match s with
  | .a =>
    obtain ⟨r, h⟩ := units_plain 97 (by decide) X
    exact sign_one h (by decide)
  | .rp =>
    obtain ⟨r, h⟩ := units_bs 41 X (by decide)
    exact sign_one h (by decide)
  | .lp =>
    obtain ⟨r, h⟩ := units_bs 40 X (by decide)
    exact sign_one h (by decide)
  | .q =>
    obtain ⟨r, h⟩ := units_q X
    exact sign_three h

/-- the text in the last pair -/
theorem inner_is (a : B) (s : Sg) (b : B) : Txt.slice (mkS (tx (B.n a s b).w)) (some (((tx a.w).length : Int) + 1)) (some (-1)) = mkS (s.n ++ tx b.w) := by
  have e : tx (B.n a s b).w = (tx a.w ++ [40]) ++ ((s.n ++ tx b.w) ++ [41]) := by
    rw [B.w, tx_app, tx_cons, tx_app]; simp [K.n, tx]
  have := slice_neg (tx (B.n a s b).w) ((tx a.w).length + 1) (by rw [e]; simp) (by rw [e]; simp; omega)
  rw [show (((tx a.w).length : Int) + 1) = (((tx a.w).length + 1 : Nat) : Int) by omega, this]
  congr 1
  rw [e, ← List.append_assoc, List.take_append_of_le_length (by simp; omega), List.take_of_length_le (by simp; omega)]
  rw [show (tx a.w).length + 1 = (tx a.w ++ [40]).length by simp, List.drop_left]
theorem turn_text (a : B) (s : Sg) (b : B) : (((mkS (tx b.turn.w) ++ Str.ofString "(") ++ mkS s.n) ++ mkS (tx a.turn.w)) ++ Str.ofString ")" = mkS (tx (B.n a s b).turn.w) := by
  rw [show Str.ofString "(" = mkS [40] from by decide, show Str.ofString ")" = mkS [41] from by decide, ← mkS_app, ← mkS_app, ← mkS_app, ← mkS_app, B.turn, B.w, tx_app, tx_cons, tx_app]
  congr 1
  simp [K.n, tx]

end Mine

namespace Mine
variable {w : World} {mg mb : Str → Option Value}

theorem gl_rev : GlV (W1 w mg mb) "search_reverse" (.ref 21) := gl1 rfl
theorem gl_turned : GlV (W1 w mg mb) "_law_turned" (.ref 69) := gl1 rfl
abbrev n_row : Str := Str.ofString "row"
abbrev n_finder : Str := Str.ofString "finder"
abbrev n_cut : Str := Str.ofString "cut"
abbrev n_inner : Str := Str.ofString "inner"
abbrev n_units : Str := Str.ofString "units"
abbrev n_sign : Str := Str.ofString "sign"
abbrev n_unit : Str := Str.ofString "unit"

def namesOk (names : List (Str × NameKind)) : Bool := names.all fun p => p.2 != .local || names.lookup p.1 == some .local
theorem names_of {names : List (Str × NameKind)} (h : namesOk names = true) : ∀ x ∈ names, x.2 = .local → names.lookup x.1 = some .local := fun x hx hl => by
  have h1 := List.all_eq_true.mp h _ hx
  simpa [hl] using h1
theorem rsz (n : Nat) : Builtin.Range.rangeSize 0 n 1 = n := by
  rw [rangeSize_one]; split <;> omega
theorem rsm {n : Nat} (h : n ≤ 1000000) : Builtin.Range.small 0 n 1 = true := small_one (by decide) (by decide) (by omega) (by omega)

/-- one closure's name -/
theorem cpN1 {c : Cx} {ρ : Rho} {scope : Scope} {x : Str} {b : Addr} {P : VP} (h1 : scope.names.lookup x = some .free) (h2 : ρ.lookup x = some P) (h3 : c.env.cells.lookup x = some b) (h4 : c.env.kindOf x = some .cell ∨ c.env.kindOf x = some .free) : CpN c ρ scope [(x, b)] [(x, P)] := by
  refine ⟨fun y Q e => ?_, fun p hp => ?_, by simp⟩
  · rw [List.lookup_cons] at e
    cases hb : y == x with
    | true => rw [hb] at e; cases e; rw [beq_iff_eq.mp hb]; exact ⟨h1, h2, b, by simp, h3, h4⟩
    | false => rw [hb] at e; cases e
  · obtain rfl := List.mem_singleton.mp hp
    exact ⟨x, P, h2, h3, h4⟩
theorem sub1 {x : Str} {P : VP} {ρ' : Rho} (h : ρ'.lookup x = some P) : Sub [(x, P)] ρ' := .cons h (.nil _)

theorem isHitO_cut (a : B) (s : Sg) (b : B) : isHitO w (revP (tx (B.n a s b).w) (tx (B.n a s b).w).length) = isHit w ((tx a.w).length : Int) := by
  rw [cut_is]; rfl
theorem sign_len (s : Sg) : (mkS s.n).length ≤ 3 := by rw [mkS_len]; exact s.len
theorem unitS_len {x : Str} {q : Int × Str} : (unitOf x q).length ≤ q.2.length := by
  unfold unitOf; split
  · exact Nat.le_refl _
  · exact Nat.zero_le _
theorem escL_one : ∀ (l : List Nat) (k : Int) (e : Bool) (p : Int), ∀ q ∈ escL l k e p, q.2.length ≤ 2
  | [], k, e, p => by
    unfold escL; split
    · intro q hq; rw [List.mem_singleton.mp hq]; exact Nat.le_succ _
    · intro q hq; cases hq
  | ch :: cs, k, true, p => by
    rw [escL]
    intro q hq
    rcases List.mem_cons.mp hq with rfl | hq
    · show (bsl ++ ⟨#[ch]⟩ : Str).length ≤ 2
      rw [Str.length_append]; exact Nat.le_refl _
    · exact escL_one cs _ _ _ q hq
  | ch :: cs, k, false, p => by
    rw [escL]; split
    · exact escL_one cs _ _ _
    · intro q hq
      rcases List.mem_cons.mp hq with rfl | hq
      · show (⟨#[ch]⟩ : Str).length ≤ 2; exact Nat.le_succ _
      · exact escL_one cs _ _ _ q hq
theorem units_len {x : Str} : ∀ y ∈ unitsS x, y.length ≤ 2 := by
  intro y hy
  obtain ⟨q, hq, rfl⟩ := List.mem_map.mp hy
  exact Nat.le_trans unitS_len (escL_one _ _ _ _ q hq)

set_option maxHeartbeats 2000000 in
theorem turn1 : ∀ t : B, t.size ≤ 100 → FnSpec (W1 w mg mb) (t.size + 8) (.ref 69) [isFinder, isStr (mkS (tx t.w))] (isStr (mkS (tx t.turn.w))) := by
  intro t
  induction t with
  | e =>
    intro _
    refine FnSpec.mk (n := 7) (fd := fd1 w 69) (body := bd1 w 69) (ρb := [(n_finder, isFinder), (n_row, isStr (mkS []))]) (ob1 rfl rfl) ⟨rfl, rfl, rfl, rfl, rfl, un_of rfl⟩ rfl rfl ?_ ?_ fun A L rm => ?_
    · intro h s vs ok al
      obtain ⟨v, v', rfl, p, p'⟩ := al.twoV
      exact ⟨[(n_finder, v), (n_row, v')], .of_eq rfl, rfl, p, rfl, p', trivial⟩
    · intro L y hy
      simp at hy
      rcases hy with rfl | rfl <;> exact .inl rfl
    · refine TS.ite (EvT.cmp (EvE.name rfl) EvE.str op_eqs) (fun h => ?_) (fun h => ?_)
      · exact TS.ret EvE.str rfl
      · exact absurd rfl (of_decide_eq_false h)
  | n a s b iha ihb =>
    intro hs
    have hsz : a.size + b.size + 1 = (B.n a s b).size := rfl
    have ha := iha (by omega)
    have hb := ihb (by omega)
    obtain ⟨xs, hxs⟩ : ∃ xs, xs = tx (B.n a s b).w := ⟨_, rfl⟩
    have hlen : xs.length ≤ 500 := by have := (B.n a s b).len; rw [hxs]; omega
    obtain ⟨inn, hinn⟩ : ∃ inn, inn = s.n ++ tx b.w := ⟨_, rfl⟩
    have hla := a.len
    have hlb := b.len
    have hlta := a.turn.len
    have hltb := b.turn.len
    rw [B.turn_size] at hlta hltb
    have hls := s.len
    have hil : inn.length ≤ 503 := by rw [hinn, List.length_append]; omega
    have hne : mkS xs ≠ Str.ofString "" := by
      rw [show Str.ofString "" = mkS [] from rfl]
      intro q
      have := mkS_inj q
      rw [hxs, B.w, tx_app, tx_cons] at this
      simp [K.n] at this
    rw [← hxs]
    refine FnSpec.mk (n := (B.n a s b).size + 7) (fd := fd1 w 69) (body := bd1 w 69) (ρb := [(n_finder, isFinder), (n_row, isStr (mkS xs))]) (ob1 rfl rfl) ⟨rfl, rfl, rfl, rfl, rfl, un_of rfl⟩ rfl rfl ?_ ?_ fun A L rm => ?_
    · intro h s vs ok al
      obtain ⟨v, v', rfl, p, p'⟩ := al.twoV
      exact ⟨[(n_finder, v), (n_row, v')], .of_eq rfl, rfl, p, rfl, p', trivial⟩
    · intro L y hy
      simp at hy
      rcases hy with rfl | rfl <;> exact .inl rfl
    · refine TS.ite (EvT.cmp (EvE.name rfl) EvE.str op_eqs) (fun h => absurd (of_decide_eq_true h) hne) (fun _ => ?_)
      refine TS.assign (P := isInt ((tx a.w).length : Int)) (EvE.atT (Ps := [isInt ((tx a.w).length : Int), isInt ((tx a.w).length : Int)]) (EvE.attCall (n := 1) (rm.le (by omega)) ((EvE.callF (EvE.glob gl_rev rfl) (fn1 rfl) (.cons (EvE.name rfl) (.cons (EvE.name rfl) (.cons ((EvE.callB (EvE.blt gb_len rfl) (.cons (EvE.name rfl) .nil) (call_lenS (by rw [mkS_len]; omega))).conv (congrArg isInt (by rw [mkS_len]))) .nil))) (rev1 (col := xs.length) (by omega) A (rm.le (by omega)))).conv (by rw [hxs]; exact isHitO_cut a s b)) (l := hitL w ((tx a.w).length : Int)) rfl VFn.clo .nil span1 no_span) EvE.int (j := 0) (.inl rfl) rfl (by decide) (by show 2 < 1000000; decide)) (.inl rfl) ?_
      refine TS.assign (P := isStr (mkS inn)) ((EvE.slcS (EvE.name rfl) (EvP.of (EvE.binop (EvE.name rfl) EvE.int op_add)) (EvP.of (EvE.unop EvE.int op_neg)) (by rw [mkS_len]; omega)).conv (by rw [hxs, hinn]; exact congrArg isStr (inner_is a s b))) (.inr ⟨rfl, _, rfl, .tail _ (.head _)⟩) ?_
      have hel := escs_len inn
      refine TS.comp (cl := [(n_inner, L + 1)]) (ρf := [(n_inner, isStr (mkS inn))]) (Rs := (unitsS (mkS inn)).map isStr) (EvI.gen gen1 (rm.le (by omega)) rfl (EvE.name rfl)) rfl (cpN1 rfl rfl rfl (.inl rfl)) ?_ ?_ ?_ rfl rfl (names_of rfl) (.inl rfl) ?_
      · simp [unitsS]
      · simp; omega
      · intro L' i P own ρ' hP hsub
        obtain ⟨⟨p, u⟩, hu, rfl⟩ := unit_at hP
        have dl := hsub n_inner _ rfl
        refine ⟨_, isStr (unitOf (mkS inn) (p, u)), AsT.two rm.hd (.inl rfl) (.inl rfl), ?_, ?_, ?_⟩
        · simp [unitsS, hu]
        · have nl : ((n_unit, isStr u) :: (n_place, isInt p) :: ρ').lookup n_inner = some (isStr (mkS inn)) := dl
          refine EvE.ite (EvT.val (EvE.methS (EvE.slcS (EvE.name nl) EvP.no (EvP.of (EvE.binop (EvE.name rfl) EvE.int op_add)) (by rw [mkS_len]; omega)) F.slot_str_endswith F.type_str_endswith (.cons (EvE.name rfl) .nil) call_endsS) tru_bool) (fun h => ?_) (fun h => ?_)
          · refine (EvE.name (P := isStr u) rfl).conv ?_
            unfold unitOf
            rw [if_pos h]
          · refine EvE.str.conv ?_
            unfold unitOf
            rw [if_neg (by rw [h]; exact Bool.false_ne_true)]
        · exact sub1 dl
      · have hul : (unitsS (mkS inn)).length ≤ 600 := by simp [unitsS]; omega
        have pk : ∀ k : Nat, isLst (pickL ((unitsS (mkS inn)).map isStr) none (some (k : Int)) none) = isLst (((unitsS (mkS inn)).take k).map isStr) := fun k => by rw [pickL_map, pickL_upto]
        obtain ⟨ys, hys⟩ : ∃ ys, ys = (if (unitsS (mkS inn)).take 1 = [Str.ofString "\""] then (unitsS (mkS inn)).take 3 else (unitsS (mkS inn)).take 1) := ⟨_, rfl⟩
        have hysl : ys.length ≤ 3 ∧ ∀ y ∈ ys, y.length ≤ 2 := by
          rw [hys]
          split
          · exact ⟨by rw [List.length_take]; omega, fun y hy => units_len y (List.mem_of_mem_take hy)⟩
          · exact ⟨by rw [List.length_take]; omega, fun y hy => units_len y (List.mem_of_mem_take hy)⟩
        have hsg : Txt.join (Str.ofString "") ys = mkS s.n := by
          have := sign_of s (tx b.w)
          rw [← hinn] at this
          unfold signS at this
          rw [hys]; exact this
        refine TS.assign (P := isStr (mkS s.n)) ((EvE.methS EvE.str F.slot_str_join F.type_str_join (.cons (EvE.ite (P := isLst (ys.map isStr)) (EvT.cmp ((EvE.slc (EvE.name rfl) EvP.no (EvP.of EvE.int) (by simp; omega)).conv (pk 1)) (EvE.lst (.cons EvE.str .nil) (by show 1 ≤ sizeLine; decide)) (op_eqLs (ys := [Str.ofString "\""]) (by have := rm.un; omega))) (fun h => ?_) (fun h => ?_)) .nil) (call_joinS (joinOk (m := 3) (fun y hy => Nat.le_trans (hysl.2 y hy) (by decide)) hysl.1 (by decide)))).conv (congrArg isStr hsg)) (.inl rfl) ?_
        · have h' := of_decide_eq_true h
          rw [if_pos h'] at hys
          rw [hys]
          exact (EvE.slc (EvE.name rfl) EvP.no (EvP.of EvE.int) (by simp; omega)).conv (pk 3)
        · have h' := of_decide_eq_false h
          rw [if_neg h'] at hys
          rw [hys]
          exact (EvE.slc (EvE.name rfl) EvP.no (EvP.of EvE.int) (by simp; omega)).conv (pk 1)
        · have e1 : Txt.slice (mkS inn) (some ((mkS s.n).length : Int)) none = mkS (tx b.w) := by
            rw [mkS_len, slice_from, hinn, List.drop_left]
          have e2 : Txt.slice (mkS xs) none (some ((tx a.w).length : Int)) = mkS (tx a.w) := by
            rw [slice_upto, hxs, B.w, tx_app, List.take_left]
          refine TS.ret ((EvE.binop (EvE.binop (EvE.binop (EvE.binop
            (EvE.callF (EvE.glob gl_turned rfl) (fn1 rfl) (.cons (EvE.name rfl) (.cons ((EvE.slcS (EvE.name rfl) (EvP.of (EvE.callB (EvE.blt gb_len rfl) (.cons (EvE.name rfl) .nil) (call_lenS (by rw [mkS_len]; omega)))) EvP.no (by rw [mkS_len]; omega)).conv (congrArg isStr e1)) .nil)) (hb A (rm.le (by omega))))
            EvE.str (op_adds ?_)) (EvE.name rfl) (op_adds ?_))
            (EvE.callF (EvE.glob gl_turned rfl) (fn1 rfl) (.cons (EvE.name rfl) (.cons ((EvE.slcS (EvE.name rfl) EvP.no (EvP.of (EvE.name rfl)) (by rw [mkS_len]; omega)).conv (congrArg isStr e2)) .nil)) (ha A (rm.le (by omega)))) (op_adds ?_)) EvE.str (op_adds ?_)).conv (congrArg isStr (turn_text a s b))) rfl
          · rw [mkS_len]; show _ + 1 ≤ sizeLine; simp only [sizeLine]; omega
          · rw [Str.length_append, mkS_len, mkS_len]; show _ + 1 + _ ≤ sizeLine; simp only [sizeLine]; omega
          · rw [Str.length_append, Str.length_append, mkS_len, mkS_len, mkS_len]; show _ + 1 + _ + _ ≤ sizeLine; simp only [sizeLine]; omega
          · rw [Str.length_append, Str.length_append, Str.length_append, mkS_len, mkS_len, mkS_len]; show _ + 1 + _ + _ + 1 ≤ sizeLine; simp only [sizeLine]; omega

end Mine

namespace Mine
variable {w : World} {mg mb : Str → Option Value}

abbrev natP (n : Nat) : VP := isInt (n : Int)
def stopsGo (ins : List Nat) : Nat → List Nat → List Nat
  | 0, acc => acc
  | n + 1, acc => if acc.getLastD 0 < ins.length then stopsGo ins n (acc ++ [acc.getLastD 0 + ins.getD (acc.getLastD 0) 0 + 1]) else acc
def stopsW (ins : List Nat) : List Nat := stopsGo ins ins.length [0]
def insideStep (x : Int) (ins : List Nat) : List Nat := (stopsW ins).getD (x.fmod ((stopsW ins).length : Int)).toNat 0 :: ins
def insideW (xs : List Int) : List Nat := xs.reverse.foldl (fun ins x => insideStep x ins) []
theorem insideW_len (xs : List Int) : (insideW xs).length = xs.length := by
  unfold insideW
  rw [List.foldl_reverse]
  induction xs with
  | nil => rfl
  | cons x xs ih =>
    rw [List.foldr_cons, insideStep, List.length_cons, List.length_cons]
    exact congrArg (· + 1) ih

theorem last_snoc (a : List Nat) (l : Nat) : (a ++ [l]).getLastD 0 = l := by simp [List.getLastD_eq_getLast?]
theorem nat_at {l : List Nat} {i : Nat} (h : i < l.length) : (l.map natP)[i]? = some (natP (l.getD i 0)) := by
  simp [List.getD, h]

theorem rev_idx : ∀ n, n < 6 → sliceRange (sliceBounds none none (some (-1)) n).1 (sliceBounds none none (some (-1)) n).2.1 (sliceBounds none none (some (-1)) n).2.2 = (List.range n).reverse := by decide +kernel
theorem pickL_rev {α : Type} (xs : List α) (h : xs.length ≤ 5) : pickL xs none none (some (-1)) = xs.reverse := by
  unfold pickL
  rw [rev_idx xs.length (by omega), List.filterMap_reverse]
  congr 1
  match xs, h with
  | [], _ => rfl
  | [a], _ => rfl
  | [a, b], _ => rfl
  | [a, b, c], _ => rfl
  | [a, b, c, d], _ => rfl
  | [a, b, c, d, e], _ => rfl

theorem gl_inside : GlV (W1 w mg mb) "_law_inside" (.ref 76) := gl1 rfl
abbrev n_numbers : Str := Str.ofString "numbers"
abbrev n_inside : Str := Str.ofString "inside"
abbrev n_x : Str := Str.ofString "x"
abbrev n_stops : Str := Str.ofString "stops"

set_option maxHeartbeats 1000000 in
theorem inside1 {xs : List Int} (hx : xs.length ≤ 5) : FnSpec (W1 w mg mb) 2 (.ref 76) [isLst (xs.map isInt)] (isLst ((insideW xs).map natP)) := by
  refine FnSpec.mk (fd := fd1 w 76) (body := bd1 w 76) (ρb := [(n_numbers, isLst (xs.map isInt))]) (ob1 rfl rfl) ⟨rfl, rfl, rfl, rfl, rfl, un_of rfl⟩ rfl rfl ?_ ?_ fun A L rm => ?_
  · intro h s vs ok al
    obtain ⟨v, rfl, p⟩ := al.one
    exact ⟨_, .of_eq rfl, rfl, p, trivial⟩
  · intro L y hy
    rw [List.mem_singleton.mp hy]
    exact .inl rfl
  · refine TS.assign (P := isLst (([] : List Nat).map natP)) (EvE.lst .nil (by show 0 ≤ sizeLine; decide)) (.inl rfl) ?_
    refine TS.forr (Ps := xs.reverse.map isInt) (EvI.lst rm.hd ((EvE.slc3 (EvE.name rfl) EvP.no EvP.no (EvE.unop EvE.int op_neg) (by decide) (by simp; omega)).conv (congrArg isLst (by rw [pickL_map]; exact congrArg _ (pickL_rev xs hx)))))
      (fun i own ρ' => own = [] ∧ ∃ ins : List Nat, Sub [(n_inside, isLst (ins.map natP))] ρ' ∧ ins.length ≤ i ∧ (xs.reverse.drop i).foldl (fun ins x => insideStep x ins) ins = insideW xs)
      ⟨rfl, [], .cons rfl (.nil _), Nat.le_refl _, rfl⟩ ?_ ?_
    · rintro i P own ρ' ⟨rfl, ins, d, hi, hc⟩ hP
      have hil : i < xs.length := by
        have := (List.getElem?_eq_some_iff.mp hP).1
        simpa using this
      rw [List.getElem?_map] at hP
      obtain ⟨x, hx', rfl⟩ := Option.map_eq_some_iff.mp hP
      rw [drop_at hx', List.foldl_cons] at hc
      refine ⟨_, AsT.name (.inl rfl), TS.sub (Sub.under d) ?_⟩
      refine TS.lstOwn rfl (.inl rfl) (Ps := [natP 0]) (.cons (EvE.int.conv rfl) .nil) (by show 1 ≤ sizeLine; decide) fun D vs => ?_
      refine TS.whil (fun n own ρ' => ∃ D vs nn pre l, own = [(D, lsO vs.toArray nn)] ∧ Sub [(n_stops, ownL D vs ((pre ++ [l]).map natP)), (n_x, isInt x), (n_inside, isLst (ins.map natP))] ρ' ∧ pre.length + n ≤ ins.length ∧ ins.length ≤ l + n ∧ stopsGo ins n (pre ++ [l]) = stopsW ins) ins.length
        ⟨D, vs, 0, [], 0, rfl, .cons rfl (.cons rfl (.cons rfl (.nil _))), by simp, by simp, rfl⟩ ?_
      rintro n own ρ' ⟨D, vs, nn, pre, l, rfl, d, hpl, hln, hgo⟩
      have dS := d n_stops _ rfl
      have dI := d n_inside (isLst (ins.map natP)) rfl
      have lastE : ∀ (c : Cx) (ρ : Rho), c.own = [(D, lsO vs.toArray nn)] → ρ.lookup n_stops = some (ownL D vs ((pre ++ [l]).map natP)) → ∀ (e : Expr) (xp pos : Pos), EvE (W1 w mg mb) A c ρ e (isInt (-1)) → (∀ o i, subscripted e false o i = operate [o, i] (getItem o i)) → EvE (W1 w mg mb) A c ρ (.Subscript (.Name n_stops xp) e pos) (natP l) := by
        intro c ρ hown hl e xp pos he hs
        refine EvE.atOwn (j := pre.length) hl (by rw [hown]; exact List.mem_singleton.mpr rfl) he (.inr ?_) ?_ (by omega) (by simp; omega) hs
        · simp; omega
        · simp
      refine ⟨_, EvT.cmp (lastE _ _ rfl dS _ _ _ (EvE.unop EvE.int op_neg) (by intro _ _; rfl)) (EvE.callB (EvE.blt gb_len rfl) (.cons (EvE.name dI) .nil) (call_lenL (by simp; omega))) op_lt, fun hb => TS.sub d ?_, fun hb => TS.sub d ?_⟩
      · have hb' : l < ins.length := by
          have := of_decide_eq_true hb
          simp at this; omega
        obtain ⟨n, rfl⟩ : ∃ k, n = k + 1 := ⟨n - 1, by omega⟩
        rw [stopsGo, last_snoc, if_pos hb'] at hgo
        refine TS.appOwn (P := natP (l + ins.getD l 0 + 1)) rfl rfl ((EvE.binop (EvE.binop (lastE _ _ rfl rfl _ _ _ (EvE.unop EvE.int op_neg) (by intro _ _; rfl)) (EvE.at (EvE.name rfl) (lastE _ _ rfl rfl _ _ _ (EvE.unop EvE.int op_neg) (by intro _ _; rfl)) (j := l) (.inl rfl) (nat_at hb') (by omega) (by simp; omega)) op_add) EvE.int op_add).conv (congrArg isInt (by omega))) (by simp; omega) fun v n' => ?_
        refine TS.nil ⟨n, by omega, D, _, n', pre ++ [l], l + ins.getD l 0 + 1, rfl, .cons ?_ (.cons rfl (.cons rfl (.nil _))), by simp; omega, by omega, hgo⟩
        rw [List.map_append (l₁ := pre ++ [l])]; rfl
      · have hb' : ¬ l < ins.length := by
          have := of_decide_eq_false hb
          simp at this; omega
        have hst : pre ++ [l] = stopsW ins := by
          rw [← hgo]
          cases n with
          | zero => rfl
          | succ n => rw [stopsGo, last_snoc, if_neg hb']
        refine TS.thaw (x := n_stops) (Ps := (pre ++ [l]).map natP) rfl rfl ?_
        rw [hst]
        have hsl : 0 < (stopsW ins).length ∧ (stopsW ins).length ≤ ins.length + 1 := by rw [← hst]; simp; omega
        have hm0 : 0 ≤ x.fmod ((stopsW ins).length : Int) := Int.fmod_nonneg_of_pos _ (by omega)
        have hm1 : x.fmod ((stopsW ins).length : Int) < ((stopsW ins).length : Int) := Int.fmod_lt_of_pos _ (by omega)
        refine TS.assign (P := isLst ((insideStep x ins).map natP)) ((EvE.binop (EvE.lst (.cons (EvE.at (EvE.name rfl) (EvE.binop (EvE.name rfl) ((EvE.callB (EvE.blt gb_len rfl) (.cons (EvE.name rfl) .nil) (call_lenL (by simp; omega))).conv (congrArg isInt (by rw [List.length_map]))) (op_mod (by omega))) (j := (x.fmod ((stopsW ins).length : Int)).toNat) (.inl (by omega)) (nat_at (by omega)) (by omega) (by simp; omega)) .nil) (by show 1 ≤ sizeLine; decide)) (EvE.name rfl) (op_addL (by simp; omega))).conv rfl) (.inl rfl) ?_
        exact TS.nil ⟨rfl, insideStep x ins, .cons rfl (.nil _), by simp [insideStep]; omega, hc⟩
    · rintro own ρ' ⟨rfl, ins, d, hi, hc⟩
      refine TS.sub d (TS.ret (EvE.name rfl) ?_)
      rw [show (xs.reverse.map isInt).length = xs.reverse.length by simp, List.drop_length, List.foldl_nil] at hc
      rw [hc]

end Mine

namespace Mine
variable {w : World} {mg mb : Str → Option Value}

theorem foldl_app1 (n : Nat) (x : Array Nat) (acc : Array Nat) : ((List.replicate n x).foldl (· ++ ·) acc).toList = acc.toList ++ (List.replicate n x.toList).flatten := by
  induction n generalizing acc with
  | zero => simp
  | succ n ih => rw [List.replicate_succ, List.foldl_cons, ih]; simp [List.replicate_succ, List.append_assoc]
theorem mul_cl (n : Int) : Txt.mul (Str.ofString ")") n = mkS (tx (List.replicate n.toNat K.cl)) := by
  unfold Txt.mul
  split
  · rw [show n.toNat = 0 by omega]; rfl
  · split
    · rename_i h1 h2
      have hl : (Str.ofString ")").length ≠ 0 := by decide
      have : n = 1 := by simpa [hl] using h2
      subst this
      decide
    · refine congrArg Str.mk (Array.toList_inj.mp ?_)
      have := foldl_app1 n.toNat (Str.ofString ")").cps #[]
      rw [this]
      simp only [tx, List.nil_append]
      show _ = List.flatMap K.n _
      rw [List.flatMap_def, List.map_replicate]
      rfl
theorem tx_cl (n : Nat) : (tx (List.replicate n K.cl)).length = n := by
  induction n with
  | zero => rfl
  | succ n ih => rw [List.replicate_succ, tx_cons, List.length_append, ih]; simp [K.n]; omega
theorem count_cast (l : List Nat) (k : Nat) : (l.map (fun n : Nat => (n : Int))).count (k : Int) = l.count k := by
  induction l with
  | nil => rfl
  | cons a l ih =>
    rw [List.map_cons, List.count_cons, List.count_cons, ih]
    by_cases h : a = k
    · simp [h]
    · have h' : ¬ (a : Int) = (k : Int) := by omega
      simp [h, h']

def closedW (ins : List Nat) (n : Nat) : List Nat := (List.range n).map fun k => k + ins.getD k 0 + 1
def pairK (sg : List Sg) (cl : List Nat) (k : Nat) : List K := List.replicate ((cl.take k).count k) .cl ++ [.op (sg.getD k .a)]
def writtenK (sg : List Sg) (ins : List Nat) : List K :=
  (List.range sg.length).flatMap (pairK sg (closedW ins sg.length)) ++ List.replicate ((closedW ins sg.length).count sg.length) .cl
theorem tx_flat (f : Nat → List K) (l : List Nat) : gl (l.map fun k => mkS (tx (f k))) = tx (l.flatMap f) := by
  induction l with
  | nil => rfl
  | cons a l ih =>
    rw [List.map_cons, List.flatMap_cons, tx_app, ← ih]
    simp [gl, mkS]

abbrev sgP (s : Sg) : VP := isStr (mkS s.n)
theorem gl_written : GlV (W1 w mg mb) "_law_written" (.ref 81) := gl1 rfl
abbrev n_signs : Str := Str.ofString "signs"
abbrev n_closed : Str := Str.ofString "closed"
abbrev n_pairs : Str := Str.ofString "pairs"

theorem cpN2 {c : Cx} {ρ : Rho} {scope : Scope} {x y : Str} {b d : Addr} {P Q : VP} (hxy : (y == x) = false) (hbd : b ≠ d) (h1 : scope.names.lookup x = some .free) (h2 : ρ.lookup x = some P) (h3 : c.env.cells.lookup x = some b) (h4 : c.env.kindOf x = some .cell ∨ c.env.kindOf x = some .free)
    (g1 : scope.names.lookup y = some .free) (g2 : ρ.lookup y = some Q) (g3 : c.env.cells.lookup y = some d) (g4 : c.env.kindOf y = some .cell ∨ c.env.kindOf y = some .free) : CpN c ρ scope [(x, b), (y, d)] [(x, P), (y, Q)] := by
  refine ⟨fun z R e => ?_, fun p hp => ?_, by simpa using hbd⟩
  · rw [List.lookup_cons] at e
    cases hb : z == x with
    | true => rw [hb] at e; cases e; rw [beq_iff_eq.mp hb]; exact ⟨h1, h2, b, by simp, h3, h4⟩
    | false =>
      rw [hb] at e
      rw [List.lookup_cons] at e
      cases hd : z == y with
      | true => rw [hd] at e; cases e; rw [beq_iff_eq.mp hd]; exact ⟨g1, g2, d, by simp [List.lookup_cons, hxy], g3, g4⟩
      | false => rw [hd] at e; cases e
  · rcases List.mem_cons.mp hp with rfl | hp
    · exact ⟨x, P, h2, h3, h4⟩
    · obtain rfl := List.mem_singleton.mp hp
      exact ⟨y, Q, g2, g3, g4⟩
theorem rng_at {n i : Nat} {P : VP} (hP : (rngP 0 1 n)[i]? = some P) : i < n ∧ P = isInt (i : Int) := by
  have hi : i < n := by
    have := (List.getElem?_eq_some_iff.mp hP).1
    simpa [rngP] using this
  refine ⟨hi, ?_⟩
  simp only [rngP, List.getElem?_map, List.getElem?_range hi, Option.map_some, Option.some.injEq] at hP
  rw [← hP]; congr 1; omega

set_option maxHeartbeats 1000000 in
theorem written1 {sg : List Sg} {ins : List Nat} (hn : sg.length ≤ 5) (hi : ins.length = sg.length) : FnSpec (W1 w mg mb) 2 (.ref 81) [isLst (sg.map sgP), isLst (ins.map natP)] (isStr (mkS (tx (writtenK sg ins)))) := by
  refine FnSpec.mk (fd := fd1 w 81) (body := bd1 w 81) (ρb := [(n_signs, isLst (sg.map sgP)), (n_inside, isLst (ins.map natP))]) (ob1 rfl rfl) ⟨rfl, rfl, rfl, rfl, rfl, un_of rfl⟩ rfl rfl ?_ ?_ fun A L rm => ?_
  · intro h s vs ok al
    obtain ⟨v, v', rfl, p, p'⟩ := al.twoV
    exact ⟨[(n_signs, v), (n_inside, v')], .of_eq rfl, rfl, p, rfl, p', trivial⟩
  · intro L y hy
    simp at hy
    rcases hy with rfl | rfl
    · exact .inr ⟨rfl, _, rfl, .tail _ (.tail _ (.tail _ (.head _)))⟩
    · exact .inr ⟨rfl, _, rfl, .tail _ (.tail _ (.head _))⟩
  · obtain ⟨n, hnn⟩ : ∃ n, n = sg.length := ⟨_, rfl⟩
    obtain ⟨cl, hcl⟩ : ∃ cl, cl = closedW ins n := ⟨_, rfl⟩
    have hcll : cl.length = n := by rw [hcl]; simp [closedW]
    refine TS.assign (P := isLst (cl.map natP)) (EvE.comp (cl := [(n_inside, L + 2)]) (ρf := [(n_inside, isLst (ins.map natP))]) (Rs := cl.map natP) (EvI.rng (n := n) rm.hd (EvE.callT (EvE.blt gb_range rfl) (.cons ((EvE.callB (EvE.blt gb_len rfl) (.cons (EvE.name rfl) .nil) (call_lenL (by simp; omega))).conv (congrArg isInt (by rw [List.length_map, hnn]))) .nil) call_rng1) (rsz _) (rsm (by omega))) rfl (cpN1 rfl rfl rfl (.inl rfl)) ?_ ?_ ?_ rfl rfl (names_of rfl)) (.inr ⟨rfl, _, rfl, .tail _ (.head _)⟩) ?_
    · simp [rngP, hcll]
    · simp [rngP]; omega
    · intro L' k P own ρ' hP hsub
      obtain ⟨hk, rfl⟩ := rng_at hP
      have dl := hsub n_inside _ rfl
      refine ⟨_, natP (k + ins.getD k 0 + 1), AsT.name (.inl rfl), ?_, ?_, ?_⟩
      · rw [hcl]; simp [closedW, hk]
      · have nl : ((n_k, isInt (k : Int)) :: ρ').lookup n_inside = some (isLst (ins.map natP)) := dl
        exact (EvE.binop (EvE.binop (EvE.name rfl) (EvE.at (EvE.name nl) (EvE.name rfl) (j := k) (.inl rfl) (nat_at (by omega)) (by omega) (by simp; omega)) op_add) EvE.int op_add).conv (congrArg isInt (by omega))
      · exact sub1 dl
    · obtain ⟨ps, hps⟩ : ∃ ps : List Str, ps = (List.range n).map (fun k => mkS (tx (pairK sg cl k))) := ⟨_, rfl⟩
      have hpk : ∀ k, k < n → (tx (pairK sg cl k)).length ≤ 5 + 4 := by
        intro k hk
        rw [pairK, tx_app, List.length_append, tx_cl]
        have h1 : (cl.take k).count k ≤ 5 := Nat.le_trans List.count_le_length (by rw [List.length_take]; omega)
        have h2 := (sg.getD k .a).len
        have h3 : (tx [K.op (sg.getD k .a)]).length = 1 + (sg.getD k .a).n.length := by
          generalize sg.getD k .a = s
          simp [tx, K.n]; omega
        omega
      refine TS.comp (cl := [(n_signs, L + 1), (n_closed, L + 3)]) (ρf := [(n_signs, isLst (sg.map sgP)), (n_closed, isLst (cl.map natP))]) (Rs := ps.map isStr) (EvI.rng (n := n) rm.hd (EvE.callT (EvE.blt gb_range rfl) (.cons ((EvE.callB (EvE.blt gb_len rfl) (.cons (EvE.name rfl) .nil) (call_lenL (by simp; omega))).conv (congrArg isInt (by rw [List.length_map, hnn]))) .nil) call_rng1) (rsz _) (rsm (by omega))) rfl (cpN2 (by decide) (Nat.ne_of_lt (Nat.add_lt_add_left (show 1 < 3 by decide) L)) rfl rfl rfl (.inl rfl) rfl rfl rfl (.inl rfl)) ?_ ?_ ?_ rfl rfl (names_of rfl) (.inl rfl) ?_
      · simp [rngP, hps]
      · simp [rngP]; omega
      · intro L' k P own ρ' hP hsub
        obtain ⟨hk, rfl⟩ := rng_at hP
        have dc := hsub n_closed (isLst (cl.map natP)) rfl
        have ds := hsub n_signs (isLst (sg.map sgP)) rfl
        refine ⟨_, isStr (mkS (tx (pairK sg cl k))), AsT.name (.inl rfl), ?_, ?_, ?_⟩
        · rw [hps]; simp [hk]
        · have nc : ((n_k, isInt (k : Int)) :: ρ').lookup n_closed = some (isLst (cl.map natP)) := dc
          have ns : ((n_k, isInt (k : Int)) :: ρ').lookup n_signs = some (isLst (sg.map sgP)) := ds
          have h1 : (cl.take k).count k ≤ 5 := Nat.le_trans List.count_le_length (by rw [List.length_take]; omega)
          have h2 := (sg.getD k .a).len
          have hsk : (sg.map sgP)[k]? = some (sgP (sg.getD k .a)) := by
            have : k < sg.length := by omega
            simp [List.getD, this]
          refine (EvE.binop (EvE.binop (EvE.binop EvE.str (EvE.methL ((EvE.slc (EvE.name nc) EvP.no (EvP.of (EvE.name rfl)) (by simp; omega)).conv (congrArg isLst (show _ = ((cl.take k).map (fun n : Nat => (n : Int))).map isInt by rw [pickL_map, pickL_upto, List.map_map]; rfl))) F.slot_list_count F.type_list_count (.cons (EvE.name rfl) .nil) call_countI) (op_muls (mulOk ?_ ?_ (by decide)))) EvE.str (op_adds ?_)) (EvE.at (EvE.name ns) (EvE.name rfl) (j := k) (.inl rfl) hsk (by omega) (by simp; omega)) (op_adds ?_)).conv ?_
          · omega
          · rw [count_cast]; omega
          · rw [mul_cl, count_cast, mkS_len, tx_cl]; show _ + 1 ≤ sizeLine; simp only [sizeLine]; omega
          · rw [Str.length_append, mul_cl, count_cast, mkS_len, mkS_len, tx_cl]; show _ + 1 + _ ≤ sizeLine; simp only [sizeLine]; omega
          · rw [mul_cl, count_cast, show Str.ofString "(" = mkS [40] from by decide, ← mkS_app, ← mkS_app, pairK, tx_app]
            congr 2
            simp [tx, K.n]
        · exact .cons ds (.cons dc (.nil _))
      · have hc5 : cl.count n ≤ 5 := Nat.le_trans List.count_le_length (by omega)
        have hpl : ∀ y ∈ ps, y.length ≤ 9 := by
          intro y hy
          rw [hps] at hy
          obtain ⟨k, hk, rfl⟩ := List.mem_map.mp hy
          rw [mkS_len]; exact hpk k (by simpa using hk)
        have hpn : ps.length = n := by rw [hps]; simp
        have hj : Txt.join (Str.ofString "") ps = mkS (tx ((List.range n).flatMap (pairK sg cl))) := by
          rw [join_gl, hps, tx_flat]
        have hjl : (Txt.join (Str.ofString "") ps).length ≤ 1000 := by
          rw [join_gl, mkS_len]
          have : ∀ (l : List Str), (∀ y ∈ l, y.length ≤ 9) → (gl l).length ≤ 9 * l.length := by
            intro l
            induction l with
            | nil => intro _; simp [gl]
            | cons a l ih =>
              intro h
              have h1 := h a (List.mem_cons_self ..)
              have h2 := ih fun y hy => h y (List.mem_cons_of_mem _ hy)
              have h3 : a.cps.toList.length = a.length := rfl
              simp only [gl, List.flatMap_cons, List.length_append, List.length_cons] at h2 ⊢
              omega
          have := this ps hpl
          omega
        refine TS.ret ((EvE.binop (EvE.methS EvE.str F.slot_str_join F.type_str_join (.cons (EvE.name rfl) .nil) (call_joinS (joinOk (m := 5) (fun y hy => Nat.le_trans (hpl y hy) (by decide)) (by omega) (by decide)))) (EvE.binop EvE.str (EvE.methL ((EvE.name rfl).conv (congrArg isLst (show cl.map natP = (cl.map (fun n : Nat => (n : Int))).map isInt by rw [List.map_map]; rfl))) F.slot_list_count F.type_list_count (.cons ((EvE.callB (EvE.blt gb_len rfl) (.cons (EvE.name rfl) .nil) (call_lenL (by simp; omega))).conv (congrArg isInt (show _ = (n : Int) by rw [List.length_map, hnn]))) .nil) call_countI) (op_muls (mulOk ?_ ?_ (by decide)))) (op_adds ?_)).conv ?_) rfl
        · omega
        · rw [count_cast]; omega
        · rw [mul_cl, count_cast, mkS_len (tx _), tx_cl]; simp only [sizeLine]; omega
        · rw [mul_cl, count_cast, hj, ← mkS_app, ← tx_app, writtenK, ← hnn, ← hcl]
          rfl

end Mine

namespace Mine

/-! counting and nests: shapes, with places for the signs -/
inductive BN where | e | n (a : BN) (i : Nat) (b : BN)
def BN.w : BN → List (Option Nat)
  | .e => []
  | .n a i b => a.w ++ some i :: (b.w ++ [none])
def BN.turn : BN → BN
  | .e => .e
  | .n a i b => .n b.turn i a.turn
def BN.size : BN → Nat
  | .e => 0
  | .n a _ b => a.size + b.size + 1
def BN.to (f : Nat → Sg) : BN → B
  | .e => .e
  | .n a i b => .n (a.to f) (f i) (b.to f)
def tok (f : Nat → Sg) : Option Nat → K
  | none => .cl
  | some i => .op (f i)
theorem BN.to_w (f : Nat → Sg) : ∀ t : BN, (t.to f).w = t.w.map (tok f)
  | .e => rfl
  | .n a i b => by rw [BN.to, B.w, BN.w, BN.to_w f a, BN.to_w f b]; simp [tok]
theorem BN.to_turn (f : Nat → Sg) : ∀ t : BN, (t.to f).turn = t.turn.to f
  | .e => rfl
  | .n a i b => by rw [BN.to, B.turn, BN.turn, BN.to, BN.to_turn f a, BN.to_turn f b]
theorem BN.to_size (f : Nat → Sg) : ∀ t : BN, (t.to f).size = t.size
  | .e => rfl
  | .n a i b => by rw [BN.to, B.size, BN.size, BN.to_size f a, BN.to_size f b]

def writtenN (n : Nat) (lab : Nat → Nat) (ins : List Nat) : List (Option Nat) :=
  (List.range n).flatMap (fun k => List.replicate (((closedW ins n).take k).count k) none ++ [some (lab k)]) ++ List.replicate ((closedW ins n).count n) none
theorem written_map (sg sg' : List Sg) (ins : List Nat) (lab : Nat → Nat) (hl : sg'.length = sg.length) (h : ∀ k, k < sg.length → sg'.getD k .a = sg.getD (lab k) .a) : writtenK sg' ins = (writtenN sg.length lab ins).map (tok fun i => sg.getD i .a) := by
  unfold writtenK writtenN
  rw [hl, List.map_append, List.map_flatMap]
  congr 1
  · rw [List.flatMap_def, List.flatMap_def]
    congr 1
    refine List.map_congr_left fun k hk => ?_
    rw [pairK, List.map_append, List.map_replicate, List.map_cons, List.map_nil]
    show _ ++ [K.op _] = _ ++ [K.op _]
    rw [h k (by simpa using hk)]
    rfl
  · simp [tok]

def parseN : List (Option Nat) → BN → List (BN × Nat) → Option BN
  | [], cur, [] => some cur
  | some i :: r, cur, st => parseN r .e ((cur, i) :: st)
  | none :: r, cur, (a, i) :: st => parseN r (.n a i cur) st
  | _, _, _ => none

def mxW (ins : List Nat) (k : Nat) : Nat := ((List.range k).filterMap fun j => if k ≤ j + ins.getD j 0 then some (j + 1) else none).foldl max 0
def aheadW (ins : List Nat) (n : Nat) : List Nat := (List.range n).map fun k => k - mxW ins k
def okShape (n : Nat) (v : List Nat) : Bool := match parseN (writtenN n id v) .e [] with
  | some t => decide (t.w = writtenN n id v) && decide (t.turn.w = writtenN n (fun k => n - 1 - k) (aheadW v n).reverse) && decide (t.size ≤ 5)
  | none => false
def allV : Nat → List (List Nat)
  | 0 => [[]]
  | n + 1 => (allV n).flatMap fun v => (stopsW v).map (· :: v)

theorem ok3 : (allV 3).all (okShape 3) = true := by decide +kernel
theorem ok4 : (allV 4).all (okShape 4) = true := by decide +kernel
theorem ok5 : (allV 5).all (okShape 5) = true := by decide +kernel

theorem stopsGo_len (ins : List Nat) : ∀ (n : Nat) (acc : List Nat), acc.length ≤ (stopsGo ins n acc).length
  | 0, acc => Nat.le_refl _
  | n + 1, acc => by
    rw [stopsGo]; split
    · refine Nat.le_trans ?_ (stopsGo_len ins n _)
      simp
    · exact Nat.le_refl _
theorem inside_mem : ∀ xs : List Int, insideW xs ∈ allV xs.length := by
  intro xs
  unfold insideW
  rw [List.foldl_reverse]
  induction xs with
  | nil => simp [allV]
  | cons x xs ih =>
    rw [List.foldr_cons, List.length_cons, allV]
    refine List.mem_flatMap.mpr ⟨_, ih, ?_⟩
    generalize List.foldr (fun x y => insideStep x y) [] xs = v
    rw [insideStep]
    have hl : 1 ≤ (stopsW v).length := stopsGo_len v v.length [0]
    have hm0 : 0 ≤ x.fmod ((stopsW v).length : Int) := Int.fmod_nonneg_of_pos _ (by omega)
    have hm1 : x.fmod ((stopsW v).length : Int) < ((stopsW v).length : Int) := Int.fmod_lt_of_pos _ (by omega)
    refine List.mem_map.mpr ⟨_, ?_, rfl⟩
    have hi : (x.fmod ((stopsW v).length : Int)).toNat < (stopsW v).length := by omega
    rw [List.getD_eq_getElem?_getD, List.getElem?_eq_getElem hi]
    exact List.getElem_mem hi

theorem shape {xs : List Int} (hx : xs.length = 3 ∨ xs.length = 4 ∨ xs.length = 5) : okShape xs.length (insideW xs) = true := by
  have hm := inside_mem xs
  rcases hx with h | h | h
  · rw [h] at hm ⊢; exact List.all_eq_true.mp ok3 _ hm
  · rw [h] at hm ⊢; exact List.all_eq_true.mp ok4 _ hm
  · rw [h] at hm ⊢; exact List.all_eq_true.mp ok5 _ hm

theorem nest {xs : List Int} {sg : List Sg} (hx : xs.length = 3 ∨ xs.length = 4 ∨ xs.length = 5) (hs : sg.length = xs.length) :
    ∃ t : B, writtenK sg (insideW xs) = t.w ∧ writtenK sg.reverse (aheadW (insideW xs) xs.length).reverse = t.turn.w ∧ t.size ≤ 5 := by
  have h := shape hx
  unfold okShape at h
  split at h
  · rename_i t e
    simp only [Bool.and_eq_true, decide_eq_true_eq] at h
    refine ⟨t.to fun i => sg.getD i .a, ?_, ?_, by rw [BN.to_size]; exact h.2⟩
    · rw [BN.to_w, h.1.1, ← hs]
      exact written_map sg sg _ id rfl fun k hk => rfl
    · rw [BN.to_turn, BN.to_w, h.1.2, ← hs]
      refine written_map sg sg.reverse _ _ (by simp) fun k hk => ?_
      simp [List.getD, List.getElem?_reverse hk]
  · cases h

theorem mx_mem (l : List Nat) (a : Nat) : l.foldl max a ∈ a :: l ∧ ∀ y ∈ a :: l, y ≤ l.foldl max a := by
  induction l generalizing a with
  | nil => simp
  | cons b l ih =>
    rw [List.foldl_cons]
    obtain ⟨h1, h2⟩ := ih (max a b)
    refine ⟨?_, fun y hy => ?_⟩
    · rcases List.mem_cons.mp h1 with q | q
      · rw [q]
        by_cases h : a ≤ b
        · rw [Nat.max_eq_right h]; simp
        · rw [Nat.max_eq_left (by omega)]; simp
      · exact List.mem_cons_of_mem _ (List.mem_cons_of_mem _ q)
    · have h3 := h2 (max a b) (List.mem_cons_self ..)
      rcases List.mem_cons.mp hy with rfl | hy
      · omega
      · rcases List.mem_cons.mp hy with rfl | hy
        · omega
        · exact h2 y (List.mem_cons_of_mem _ hy)

end Mine

namespace Mine
variable {w : World} {mg mb : Str → Option Value}

/-- a list, whatever else the object holds -/
def isLs (Ps : List VP) : VP := ⟨fun h v => ∃ a vs, v = .ref a ∧ h.IsList a vs.toArray ∧ All2 h Ps vs,
  by rintro h h' v l ⟨a, vs, e, ⟨o, g, r⟩, q⟩; exact ⟨a, vs, e, ⟨o, l _ _ g, r⟩, q.mono l⟩⟩
theorem call_lenW {W : Wd} {A : Around} {Ps : List VP} (hf : Ps.length < 1000000) : CallS W A (.builtin "len") [isLs Ps] (isInt Ps.length) := fun h s vs Q E ok al k => by
  obtain ⟨v, rfl, a, ws, rfl, ⟨o, g, r⟩, q⟩ := al.one
  have hl : s.heap.IsList a ws.toArray := ⟨o, ok.le _ _ g, r⟩
  refine Calls.call_len_list hl (by simp [q.len]; omega) (k _ h _ (ok.toks _) ⟨s.toks + 1, ?_⟩)
  simp [q.len]
theorem EvE.slcW3 {W : Wd} {A : Around} {c : Cx} {ρ : Rho} {value sp : Expr} {lower upper : Option Expr} {p pos : Pos} {Ps : List VP} {lo hi : Option Int} {d : Int} (v : EvE W A c ρ value (isLs Ps)) (a : EvP W A c ρ lower lo) (b : EvP W A c ρ upper hi) (g : EvE W A c ρ sp (isInt d)) (hd : d ≠ 0) (hn : Ps.length < 1000000) :
    EvE W A c ρ (.Subscript value (.Slice lower upper (some sp) p) pos) (isLst (pickL Ps lo hi (some d))) := fun h s Q E st k =>
  Subscript_ (v h s _ _ st fun v₁ h₁ s₁ x₁ p₁ => slice_obj a b (EvP.of g) (st.ext x₁) fun sl vl vu vs h₂ s₂ x₂ hsl pl pu ps => by
    obtain ⟨l, ws, rfl, ⟨o, g, r⟩, al⟩ := (isLs Ps).mono x₂.le p₁
    have hl : s₂.heap.IsList l ws.toArray := ⟨o, x₂.ok.le _ _ g, r⟩
    refine tail_any hl.typeIs slot_list_getitem.lookup (wpAny_getItem_list_slice hl hsl pl pu ps (by simpa using hd) ?_ (by simp only [List.size_toArray, al.len, sizeLine]; omega)) rfl
    obtain ⟨us, e, al'⟩ := al.pickL lo hi (some d)
    obtain ⟨h', x, g⟩ := x₂.ok.push { cls := .type "list", data := .seq (slicePick ws.toArray lo hi (some d)) } (t := s₂.toks)
    exact k _ h' _ ((x₁.tr x₂).tr x) ⟨_, us, 0, rfl, by rw [g, e], al'.mono x.le⟩)

abbrev n_script : Str := Str.ofString "script"
abbrev n_count : Str := Str.ofString "count"
abbrev n_ahead : Str := Str.ofString "ahead"
abbrev n_turned : Str := Str.ofString "turned"
abbrev n_jj : Str := Str.ofString "j"
theorem gl_finder : GlV (W1 w mg mb) "_law_finder" (.ref 64) := gl1 rfl
theorem gb_sum : GlB (W1 w mg mb) "sum" (.builtin "sum") := gb1 rfl (by decide) (by decide +kernel)
theorem gb_max : GlB (W1 w mg mb) "max" (.builtin "max") := gb1 rfl (by decide) (by decide +kernel)

def numW (ns : List Int) (count k : Nat) : Int := ([61, 120, 1, 185, 62] : List Int).getD k 0 + (pickL ns (some (k : Int)) (some 20) (some (count : Int))).sum
def sgOf (x : Int) : Sg := [Sg.a, .rp, .q, .lp].getD ((x.fdiv 60).fmod 4).toNat .a
theorem int_at {l : List Int} {i : Nat} (h : i < l.length) : (l.map isInt)[i]? = some (isInt (l.getD i 0)) := by
  simp [List.getD, h]
theorem sg_at {l : List Sg} {i : Nat} (h : i < l.length) : (l.map sgP)[i]? = some (sgP (l.getD i .a)) := by
  simp [List.getD, h]
theorem fm_id {α : Type} (f : Nat → Option Nat) (g : Nat → α) (l : List Nat) : (l.map fun j => (f j).map g).filterMap id = (l.filterMap f).map g := by
  induction l with
  | nil => rfl
  | cons a l ih =>
    rw [List.map_cons, List.filterMap_cons, List.filterMap_cons]
    cases f a with
    | none => exact ih
    | some b => exact congrArg (g b :: ·) ih
theorem mxW_le (ins : List Nat) (k : Nat) : mxW ins k ≤ k := by
  unfold mxW
  obtain ⟨h1, _⟩ := mx_mem ((List.range k).filterMap fun j => if k ≤ j + ins.getD j 0 then some (j + 1) else none) 0
  rcases List.mem_cons.mp h1 with q | q
  · omega
  · obtain ⟨j, hj, e⟩ := List.mem_filterMap.mp q
    have := List.mem_range.mp hj
    split at e
    · simp only [Option.some.injEq] at e; omega
    · cases e

theorem EvE.useEnv {W : Wd} {A : Around} {c : Cx} {ρ : Rho} {e : Expr} {P : VP} (f : EnvOk c → EvE W A c ρ e P) : EvE W A c ρ e P := fun h s Q E st k => f st.env h s Q E st k

set_option maxHeartbeats 2000000 in
theorem lawT1 {A : Around} {a L : Addr} {cd : Value} {ns : List Int} (hn : ns.length ≤ 63) (rm : Rm A 20) : TS (W1 w mg mb) A (fCx { fd1 w 86 with code := cd } a L) [(n_script, isLs (ns.map isInt))] (bd1 w 86) (fun o => o = .ret (isBool true)) := by
  obtain ⟨count, hct⟩ : ∃ count : Nat, count = 3 + ns.length % 3 := ⟨_, rfl⟩
  have hs : count = 3 ∨ count = 4 ∨ count = 5 := by omega
  have hm : (ns.length : Int).fmod 3 = ((ns.length % 3 : Nat) : Int) := by rw [Int.fmod_eq_emod_of_nonneg _ (by decide)]; omega
  refine TS.assign (P := natP count) ((EvE.binop EvE.int (EvE.binop (EvE.callB (EvE.blt gb_len rfl) (.cons (EvE.name rfl) .nil) (call_lenW (by simp; omega))) EvE.int (op_mod (by decide))) op_add).conv (congrArg isInt (by rw [List.length_map, hm]; omega))) (.inr ⟨rfl, _, rfl, .tail _ (.tail _ (.head _))⟩) ?_
  obtain ⟨xs, hxs⟩ : ∃ xs, xs = (List.range count).map (numW ns count) := ⟨_, rfl⟩
  have hxl : xs.length = count := by rw [hxs]; simp
  refine TS.comp (cl := [(n_script, L + 1), (n_count, L + 2)]) (ρf := [(n_script, isLs (ns.map isInt)), (n_count, natP count)]) (Rs := xs.map isInt) (EvI.rng (n := count) rm.hd (EvE.callT (EvE.blt gb_range rfl) (.cons (EvE.name rfl) .nil) call_rng1) (rsz _) (rsm (by omega))) rfl (cpN2 (by decide) (Nat.ne_of_lt (Nat.add_lt_add_left (show 1 < 2 by decide) L)) rfl rfl rfl (.inl rfl) rfl rfl rfl (.inl rfl)) ?_ ?_ ?_ rfl rfl (names_of rfl) (.inl rfl) ?_
  · simp [rngP, hxl]
  · simp [rngP]; omega
  · intro L' k P own ρ' hP hsub
    obtain ⟨hk, rfl⟩ := rng_at hP
    have ds := hsub n_script (isLs (ns.map isInt)) rfl
    have dc := hsub n_count (natP count) rfl
    refine ⟨_, isInt (numW ns count k), AsT.name (.inl rfl), ?_, ?_, ?_⟩
    · rw [hxs]; simp [hk]
    · have ds' : ((n_k, isInt (k : Int)) :: ρ').lookup n_script = some (isLs (ns.map isInt)) := ds
      have dc' : ((n_k, isInt (k : Int)) :: ρ').lookup n_count = some (natP count) := dc
      refine (EvE.binop (EvE.atT (Ps := ([61, 120, 1, 185, 62] : List Int).map isInt) (EvE.tup (.cons EvE.int (.cons EvE.int (.cons EvE.int (.cons EvE.int (.cons EvE.int .nil))))) (by show 5 ≤ sizeLine; decide)) (EvE.name rfl) (j := k) (.inl rfl) (int_at (by show k < 5; omega)) (by omega) (by show 5 < 1000000; decide))
        (EvE.callB (EvE.blt gb_sum rfl) (.cons ((EvE.slcW3 (EvE.name ds') (EvP.of (EvE.name rfl)) (EvP.of EvE.int) (EvE.name dc') (by omega) (by simp; omega)).conv (congrArg isLst (pickL_map isInt ns _ _ _))) .nil) (call_sumL rm.hd)) op_add).conv rfl
    · exact .cons ds (.cons dc (.nil _))
  obtain ⟨sg, hsg⟩ : ∃ sg, sg = xs.map sgOf := ⟨_, rfl⟩
  have hsl : sg.length = count := by rw [hsg]; simp [hxl]
  refine TS.comp (cl := []) (ρf := []) (Rs := sg.map sgP) (EvI.lst rm.hd (EvE.name (P := isLst (xs.map isInt)) rfl)) rfl CpN.none ?_ ?_ ?_ rfl rfl (names_of rfl) (.inl rfl) ?_
  · simp [hxl, hsl]
  · simp; omega
  · intro L' k P own ρ' hP hsub
    rw [List.getElem?_map] at hP
    obtain ⟨x, hx, rfl⟩ := Option.map_eq_some_iff.mp hP
    refine ⟨_, sgP (sgOf x), AsT.name (.inl rfl), ?_, ?_, Sub.nil _⟩
    · rw [hsg]; simp [hx]
    · have hm0 : 0 ≤ (x.fdiv 60).fmod 4 := Int.fmod_nonneg_of_pos _ (by decide)
      have hm1 : (x.fdiv 60).fmod 4 < 4 := Int.fmod_lt_of_pos _ (by decide)
      exact (EvE.atT (Ps := [Sg.a, .rp, .q, .lp].map sgP) (EvE.tup (.cons (EvE.str.conv (congrArg isStr (by decide))) (.cons (EvE.str.conv (congrArg isStr (by decide))) (.cons (EvE.str.conv (congrArg isStr (by decide))) (.cons (EvE.str.conv (congrArg isStr (by decide))) .nil)))) (by show 4 ≤ sizeLine; decide)) (EvE.binop (EvE.binop (EvE.name rfl) EvE.int (op_fdiv (by decide) (PyProof.noPylong_small (by decide)))) EvE.int (op_mod (by decide))) (j := ((x.fdiv 60).fmod 4).toNat) (.inl (by omega)) (sg_at (by show _ < 4; omega)) (by omega) (by show 4 < 1000000; decide)).conv rfl
  obtain ⟨ins, hins⟩ : ∃ ins, ins = insideW xs := ⟨_, rfl⟩
  have hil : ins.length = count := by rw [hins, insideW_len, hxl]
  refine TS.assign (P := isLst (ins.map natP)) ((EvE.callF (EvE.glob gl_inside rfl) (fn1 rfl) (.cons (EvE.name rfl) .nil) (inside1 (xs := xs) (by omega) A (rm.le (by omega)))).conv (by rw [hins])) (.inr ⟨rfl, _, rfl, .tail _ (.head _)⟩) ?_
  obtain ⟨ah, hah⟩ : ∃ ah, ah = aheadW ins count := ⟨_, rfl⟩
  have hal : ah.length = count := by rw [hah]; simp [aheadW]
  refine TS.comp (cl := [(n_inside, L + 3)]) (ρf := [(n_inside, isLst (ins.map natP))]) (Rs := ah.map natP) (EvI.rng (n := count) rm.hd (EvE.callT (EvE.blt gb_range rfl) (.cons (EvE.name rfl) .nil) call_rng1) (rsz _) (rsm (by omega))) rfl (cpN1 rfl rfl rfl (.inl rfl)) ?_ ?_ ?_ rfl rfl (names_of rfl) (.inl rfl) ?_
  · simp [rngP, hal]
  · simp [rngP]; omega
  · intro L' k P own ρ' hP hsub
    obtain ⟨hk, rfl⟩ := rng_at hP
    have di := hsub n_inside (isLst (ins.map natP)) rfl
    refine ⟨_, natP (k - mxW ins k), AsT.name (.inr ⟨rfl, _, rfl, .tail _ (.head _)⟩), ?_, ?_, ?_⟩
    · rw [hah]; simp [aheadW, hk]
    · have di' : ((n_k, isInt (k : Int)) :: ρ').lookup n_inside = some (isLst (ins.map natP)) := di
      obtain ⟨fs, hfs⟩ : ∃ fs, fs = (List.range k).filterMap fun j => if k ≤ j + ins.getD j 0 then some (j + 1) else none := ⟨_, rfl⟩
      have hmx : mxW ins k = fs.foldl max 0 := by rw [hfs]; rfl
      have hle := mxW_le ins k
      obtain ⟨m1, m2⟩ := mx_mem fs 0
      refine EvE.useEnv fun env => ?_
      have hap : L' + 1 ≠ L + 3 := by
        have h5 : List.Pairwise (fun x y : Str × Addr => x.2 ≠ y.2) [(n_k, L' + 1), (n_inside, L + 3)] := env.apart
        simpa using h5
      refine (EvE.binop (EvE.name rfl) (EvE.callB (EvE.blt gb_max rfl) (.cons (EvE.conv (P := isLst ([isInt 0] ++ fs.map natP)) (EvE.binop (EvE.lst (.cons EvE.int .nil) (by show 1 ≤ sizeLine; decide)) (EvE.conv (EvE.compIf (cl := [(n_k, L' + 1), (n_inside, L + 3)]) (ρf := [(n_k, isInt (k : Int)), (n_inside, isLst (ins.map natP))]) (Rs := (List.range k).map fun j => (if k ≤ j + ins.getD j 0 then some (j + 1) else none).map natP) (EvI.rng (n := k) rm.hd (EvE.callT (EvE.blt gb_range rfl) (.cons (EvE.name rfl) .nil) call_rng1) (rsz _) (rsm (by omega))) rfl ?_ ?_ ?_ ?_ rfl rfl (names_of rfl)) (congrArg isLst (show _ = fs.map natP by rw [hfs]; exact fm_id _ _ _))) (op_addL ?_)) (congrArg isLst (show _ = (((0 :: fs).map fun n : Nat => (n : Int)).map isInt) by rw [List.map_map]; rfl))) .nil) (call_maxL (m := (mxW ins k : Nat)) ?_ ?_ rm.hd)) op_sub).conv (congrArg isInt (by omega))
      · exact cpN2 (by decide) hap rfl rfl rfl (.inl rfl) rfl di' rfl (.inl rfl)
      · simp [rngP]
      · simp [rngP]; omega
      · intro L'' j P own' ρ'' hP' hsub'
        obtain ⟨hj, rfl⟩ := rng_at hP'
        have dk := hsub' n_k (isInt (k : Int)) rfl
        have dn := hsub' n_inside (isLst (ins.map natP)) rfl
        refine ⟨_, (if k ≤ j + ins.getD j 0 then some (j + 1) else none).map natP, AsT.name (.inl rfl), by simp [hj], ?_, ?_, ?_⟩
        · have dk' : ((n_jj, isInt (j : Int)) :: ρ'').lookup n_k = some (isInt (k : Int)) := dk
          have dn' : ((n_jj, isInt (j : Int)) :: ρ'').lookup n_inside = some (isLst (ins.map natP)) := dn
          refine (EvT.cmp (EvE.binop (EvE.name rfl) (EvE.at (EvE.name dn') (EvE.name rfl) (j := j) (.inl rfl) (nat_at (by omega)) (by omega) (by simp; omega)) op_add) (EvE.name dk') op_ge).conv ?_
          by_cases q : k ≤ j + ins.getD j 0
          · rw [if_pos q]; exact decide_eq_true (by omega)
          · rw [if_neg q]; exact decide_eq_false (by omega)
        · intro P' hP''
          by_cases q : k ≤ j + ins.getD j 0
          · rw [if_pos q] at hP''
            cases hP''
            exact (EvE.binop (EvE.name rfl) EvE.int op_add).conv (congrArg isInt (by omega))
          · rw [if_neg q] at hP''; cases hP''
        · exact .cons dk (.cons dn (.nil _))
      · have : fs.length ≤ k := by rw [hfs]; exact Nat.le_trans (List.length_filterMap_le ..) (by simp)
        simp; omega
      · rw [hmx]; exact List.mem_map_of_mem m1
      · intro y hy
        obtain ⟨z, hz, rfl⟩ := List.mem_map.mp hy
        have := m2 z hz
        rw [hmx]; omega
    · exact sub1 di
  obtain ⟨t, h1, h2, h3⟩ := nest (xs := xs) (sg := sg) (by rw [hxl]; exact hs) (by rw [hsl, hxl])
  rw [← hins] at h1 h2
  rw [hxl, ← hah] at h2
  have hts : t.turn.size = t.size := t.turn_size
  refine TS.swapped (xs := [(n_row, isStr (mkS (tx t.w))), (n_turned, isStr (mkS (tx t.turn.w)))]) rm.hd (EvE.tup (.cons ((EvE.callF (EvE.glob gl_written rfl) (fn1 rfl) (.cons (EvE.name rfl) (.cons (EvE.name rfl) .nil)) (written1 (sg := sg) (ins := ins) (by omega) (by omega) A (rm.le (by omega)))).conv (by rw [h1]))
    (.cons ((EvE.callF (EvE.glob gl_written rfl) (fn1 rfl) (.cons ((EvE.slc3 (EvE.name (P := isLst (sg.map sgP)) rfl) EvP.no EvP.no (EvE.unop EvE.int op_neg) (by decide) (by simp; omega)).conv (congrArg isLst (show _ = sg.reverse.map sgP by rw [pickL_map]; exact congrArg _ (pickL_rev sg (by omega))))) (.cons ((EvE.slc3 (EvE.name (P := isLst (ah.map natP)) rfl) EvP.no EvP.no (EvE.unop EvE.int op_neg) (by decide) (by simp; omega)).conv (congrArg isLst (show _ = ah.reverse.map natP by rw [pickL_map]; exact congrArg _ (pickL_rev ah (by omega))))) .nil)) (written1 (sg := sg.reverse) (ins := ah.reverse) (by simp; omega) (by simp; omega) A (rm.le (by omega)))).conv (by rw [h2])) .nil)) (by show 2 ≤ sizeLine; decide)) (fun p hp => ?_) ?_
  · simp at hp
    rcases hp with rfl | rfl <;> exact .inl rfl
  refine TS.assign (EvE.callF (EvE.glob gl_finder rfl) (fn1 rfl) .nil (finder1 A (rm.le (by omega)))) (.inl rfl) ?_
  refine TS.ret ((EvE.andB (p := true) (q := true) ((EvE.cmp (EvE.callF (EvE.glob gl_turned rfl) (fn1 rfl) (.cons (EvE.name rfl) (.cons (EvE.name rfl) .nil)) (turn1 t (by omega) A (rm.le (by omega)))) (EvE.name rfl) op_eqs).conv (congrArg isBool (decide_eq_true rfl)))
    (fun _ => (EvE.cmp (EvE.callF (EvE.glob gl_turned rfl) (fn1 rfl) (.cons (EvE.name rfl) (.cons (EvE.name rfl) .nil)) (turn1 t.turn (by omega) A (rm.le (by omega)))) (EvE.name rfl) op_eqs).conv (congrArg isBool (decide_eq_true (by rw [B.turn_turn])))))) rfl

end Mine

namespace Mine
variable {w : World} {mg mb : Str → Option Value}

theorem All2.ofInts {h : Heap} : ∀ {vs : List Value} {ns : List Int}, IntsAre vs ns → All2 h (ns.map isInt) vs
  | _, _, .nil => trivial
  | _, _, .cons n t r => ⟨⟨t, rfl⟩, All2.ofInts r⟩

set_option maxHeartbeats 1000000 in
theorem run1 {p : Program} {loose : List Str} {mean : ExcName → Option Value} {hs1 : Heap} {s : Shared} {L l fa : Addr} {cd : Value} {vs : List Value} {ns : List Int} {o1 o2 o3 : Obj} {v1 v2 v3 : Option Value} {m0 : Str → Option Value} {Q : Flow → Shared → Prop} {E : Value → Shared → Prop}
    (X' : (hd1.heap_39 w.params).In (ghostOf hs1 [(48, 44), (63, 59)])) (T' : Top p loose mean mg mb (ghostOf hs1 [(48, 44), (63, 59)])) (F' : Fr (ghostOf hs1 [(48, 44), (63, 59)]) L s.heap m0)
    (hl : (ghostOf hs1 [(48, 44), (63, 59)]).IsList l vs.toArray) (c1 : CodeHd (ghostOf hs1 [(48, 44), (63, 59)]) 48 44) (c2 : CodeHd (ghostOf hs1 [(48, 44), (63, 59)]) 63 59)
    (N' : News (ghostOf hs1 [(48, 44), (63, 59)]) L s.heap [(L + 1 + 1 + 1, o3), (L + 1 + 1, o2), (L + 1, o1), (44, tabObj #[]), (59, tabObj #[])])
    (d3 : o3.data = .cell v3) (d2 : o2.data = .cell v2) (d1 : o1.data = .cell v1) (hv : v1 = some (.ref l))
    (hI : IntsAre vs ns) (hn : ns.length ≤ 63) (hgens : s.gens = #[]) (hT9 : TabsAt [(48, 44), (63, 59)] hs1)
    (k : ∀ s', OldK hs1 s'.heap → s'.os = s.os → AllBare s'.gens → Q (.ret (.bool true)) s') :
    wpAny (W1 w mg mb).M (callerA.deeper (fCx { fd1 w 86 with code := cd } fa L).env) (execs (bd1 w 86) (fCx { fd1 w 86 with code := cd } fa L).env) Q E s := by
  have hLn : (ghostOf hs1 [(48, 44), (63, 59)]).get? L = none := Heap.get?_none_of_le F'.above
  have n3 := N' (L + 1 + 1 + 1, o3) (.head _)
  have n2 := N' (L + 1 + 1, o2) (.tail _ (.head _))
  have n1 := N' (L + 1, o1) (.tail _ (.tail _ (.head _)))
  have t1 := N' (44, tabObj #[]) (.tail _ (.tail _ (.tail _ (.head _))))
  have t2 := N' (59, tabObj #[]) (.tail _ (.tail _ (.tail _ (.tail _ (.head _)))))
  have ok : Ok (W1 w mg mb) (ghostOf hs1 [(48, 44), (63, 59)]) s := by
    refine ⟨F'.keep, ⟨X', T'.g, T'.b, T'.nolimit, T'.builtins, T'.bmain, c1, c2⟩, fun P hP => ?_, fun P hP => ?_, by rw [hgens]; intro y hy; simp at hy⟩
    · simp [W1] at hP
      rcases hP with rfl | rfl
      · exact t1.2.2
      · exact t2.2.2
    · simp [W1] at hP
      rcases hP with rfl | rfl
      · exact ⟨#[], t1.1, trivial, fun pos cv e => by simp [codeAmong] at e⟩
      · exact ⟨#[], t2.1, trivial, fun pos cv e => by simp [codeAmong] at e⟩
  have mu4 : ∀ a ∈ (fCx { fd1 w 86 with code := cd } fa L).muts, a = L ∨ a = L + 1 + 1 + 1 ∨ a = L + 1 + 1 ∨ a = L + 1 := fun a ha => by
    have ha' : a ∈ [L, L + 1 + 1 + 1, L + 1 + 1, L + 1] := ha
    simpa using ha'
  have st : St (W1 w mg mb) (fCx { fd1 w 86 with code := cd } fa L) [(n_script, isLs (ns.map isInt))] (ghostOf hs1 [(48, 44), (63, 59)]) s := by
    refine ⟨ok, ⟨rfl, rfl, rfl, List.mem_cons_self .., ?_, fun x a e => ?_⟩, ⟨_, F'.ns⟩, fun a ha => ?_, fun a ha => ?_, fun q hq => (by cases hq), List.nodup_nil, fun x P e => ?_⟩
    · exact cellsFrom_apart _ _ _ List.Pairwise.nil fun p hp => by cases hp
    · have hmem : (x, a) ∈ cellsFrom (L + 1) (fd1 w 86).scope.names [] := mem_of_lookup e
      rcases cellsFrom_mem _ _ _ _ hmem with q | q
      · cases q
      · exact Nat.ne_of_gt (Nat.lt_of_succ_le q.1)
    · rcases mu4 a ha with rfl | rfl | rfl | rfl
      · exact .inl rfl
      · exact .inr ⟨_, _, n3.1, d3⟩
      · exact .inr ⟨_, _, n2.1, d2⟩
      · exact .inr ⟨_, _, n1.1, d1⟩
    · rcases mu4 a ha with rfl | rfl | rfl | rfl
      · exact hLn
      · exact n3.2.2
      · exact n2.2.2
      · exact n1.2.2
    · rw [List.lookup_cons] at e
      cases hb : x == n_script with
      | false => rw [hb] at e; cases e
      | true =>
        rw [hb] at e; cases e
        rw [beq_iff_eq.mp hb]
        exact ⟨.ref l, .inr ⟨.inl rfl, L + 1, rfl, o1, n1.1, by rw [d1, hv]⟩, l, vs, rfl, hl, All2.ofInts hI⟩
  have rm : Rm (callerA.deeper (fCx { fd1 w 86 with code := cd } fa L).env) 20 := ⟨rfl, by show 1 + claimMargin + 1 + 20 < recursionLimit; decide +kernel, by show 4 + 3 + 16 * 20 < cLine; decide +kernel⟩
  refine wpAny_mono (lawT1 hn rm (ghostOf hs1 [(48, 44), (63, 59)]) s E st) (fun f s' ⟨o, h', e, r⟩ => ?_) fun _ _ e => e
  subst e
  obtain ⟨v, own, rfl, m, q⟩ := r
  have q' : v = .bool true := q
  subst q'
  have t1 := hT9 (48, 44) (.head _)
  have t2 := hT9 (63, 59) (.tail _ (.head _))
  have kp : ∀ b o, hs1.get? b = some o → b ≠ 44 → b ≠ 59 → s'.heap.get? b = some o := fun b o e h1 h2 => m.ok.le _ _ (m.le _ _ (ghost_ne e (by simp [h1, h2])))
  obtain ⟨ps1, e1, _⟩ := m.ok.tab 44 (by simp [W1])
  obtain ⟨ps2, e2, _⟩ := m.ok.tab 59 (by simp [W1])
  refine k s' ⟨fun b o e => ?_, fun b o e => ?_⟩ m.os m.ok.bare
  · by_cases h1 : b = 44
    · subst h1
      rw [t1.2] at e; cases e
      exact .inr (.inl ⟨(t1.1.tab t1.2).isCodeTable, rfl, #[], ps1, rfl, by rw [e1]; simp⟩)
    · by_cases h2 : b = 59
      · subst h2
        rw [t2.2] at e; cases e
        exact .inr (.inl ⟨(t2.1.tab t2.2).isCodeTable, rfl, #[], ps2, rfl, by rw [e2]; simp⟩)
      · exact .inl (kp b o e h1 h2)
  · by_cases h1 : b = 44
    · exact ⟨_, h1 ▸ e1⟩
    · by_cases h2 : b = 59
      · exact ⟨_, h2 ▸ e2⟩
      · exact ⟨o, kp b o e h1 h2⟩

end Mine

set_option maxHeartbeats 8000000
theorem Mine.post1 (args : List WData) : PySem.Challenge.rw_pg0072_01.row.claim.post args (.bool true) args = true := by
  refine postW_of (r := PySem.Challenge.rw_pg0072_01.row.toRowW) (X := true) rfl ?_ rfl
  show WTm.value _ (WTm.eq .res (.lit (.bool true))) _ = _
  simp [WTm.value, W.same]
theorem PySem.Challenge.cw_pg0072_01_holds : PySem.Challenge.rw_pg0072_01.Holds := by
  refine hd1 ?_
  w_strict (
    k_fill
    intro w s₀ s₁ mg mb G Y fa o pm cd doc dV kV ho hd hcd hD hmg hg args vals as hpre hlay hrd hwl hlo
    have KX := km_in_of Y
    km_tabs Y
    have X := (Ground.X G).1
    have V := (Ground.X G).2
    refine Ground.open G ?_
    intro T B D TE TW
    try (refine guard_noD D (by decide +kernel) ?_; clear D)
    km_lay T hmg ho hd cd
    clear hmg
    wrow_args hpre hlay hrd hwl hlo
    all_goals (
      first | refine callC_kw (enter_call ?_) | refine enter_call ?_
      w_top on
      w_call any ho hd hcd hD T F
      clear hd
      kn_ghosts F T
      refine Mine.run1 (w := w) (mg := mg) (mb := mb) (hs1 := s₁.heap) (fa := fa) (cd := cd) (by assumption) (by assumption) (by assumption) (by assumption) (by assumption) (by assumption) (by assumption) (by assumption) (by assumption) (by assumption) rfl (by assumption) (by omega) hg (by assumption) (fun s' hold hos hbare => ?_)
      exact ⟨.inl ⟨_, .bool true, [], rfl, fun _ => rfl, .bool true, Mine.post1 _, fun _ => ⟨List.nodup_nil, fun a ha => by cases ha⟩⟩, hold, hos, hbare⟩))

