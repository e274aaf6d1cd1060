import PyProof.Rows.All
import Wide.All
import OpenK.AllK
import Wide.FinOn
import PySem.Challenge.RW_pe0111_02
set_option Elab.async false
open PySem PySem.W PyProof.Rows
set_option maxRecDepth 100000
set_option linter.unusedVariables false
namespace Mine

/-! The layer: values without tokens, a judgement for expressions, one for statements. -/

inductive AV where
  | int (i : Int)
  | lst (xs : List Int)
  | pair (i j : Int)
  | rng (a b d : Int)
  | raw (v : Value)
  | fn (f : Addr) (fd : FuncData)

/-- a function object, and its code's record -/
def FnAt (h : Heap) (f : Addr) (fd : FuncData) : Prop := (∃ o, h.get? f = some o ∧ o.cls = .type "function" ∧ o.data = .func fd) ∧ h.CodeRec fd.code fd.qualname

/-- objects like functions and codes -/
def Hard (o : Obj) : Prop := (∃ fd, o.data = .func fd) ∨ ∃ vs x t, o.data = .fields vs ∧ vs[1]? = some (.str x t)

theorem FnAt.keeps {h h' : Heap} {f : Addr} {fd : FuncData} (x : FnAt h f fd) (k : ∀ b o, Hard o → h.get? b = some o → h'.get? b = some o) : FnAt h' f fd := by
  obtain ⟨⟨o, ho, hc, hd⟩, c₂, o₂, vs, tk, e2, ho₂, hd₂, hv⟩ := x
  exact ⟨⟨o, k _ _ (.inl ⟨fd, hd⟩) ho, hc, hd⟩, c₂, o₂, vs, tk, e2, k _ _ (.inr ⟨vs, _, tk, hd₂, hv⟩) ho₂, hd₂, hv⟩

def AV.is (ok : Addr → Prop) (h : Heap) : AV → Value → Prop
  | .int i, v => ∃ t, v = .int i t
  | .lst xs, v => ∃ a vs, v = .ref a ∧ ok a ∧ h.IsList a vs.toArray ∧ IntsAre vs xs
  | .pair i j, v => ∃ a t u, v = .ref a ∧ ok a ∧ IsTup h a #[.int i t, .int j u]
  | .rng x y d, v => ∃ a t u w, v = .ref a ∧ ok a ∧ IsRange h a x y d t u w
  | .raw w, v => v = w
  | .fn f fd, v => v = .ref f ∧ FnAt h f fd

theorem AV.is.mono {ok ok' : Addr → Prop} {h h' : Heap} {v : AV} {x : Value} (H : v.is ok h x)
    (k : ∀ a o, ok a → h.get? a = some o → (∀ es n, o.data ≠ .dict es n) → (∀ c, o.data ≠ .cell c) → ok' a ∧ h'.get? a = some o) (kf : ∀ b o, Hard o → h.get? b = some o → h'.get? b = some o) : v.is ok' h' x := by
  cases v with
  | int i => exact H
  | raw w => exact H
  | fn f fd => exact ⟨H.1, H.2.keeps kf⟩
  | lst xs =>
    obtain ⟨a, vs, e, ha, ⟨o, ho, hc, n, hd⟩, hi⟩ := H
    obtain ⟨k1, k2⟩ := k a o ha ho (by intro es n'; rw [hd]; nofun) (by intro c; rw [hd]; nofun)
    exact ⟨a, vs, e, k1, ⟨o, k2, hc, n, hd⟩, hi⟩
  | pair i j =>
    obtain ⟨a, t, u, e, ha, o, ho, hc, n, hd⟩ := H
    obtain ⟨k1, k2⟩ := k a o ha ho (by intro es n'; rw [hd]; nofun) (by intro c; rw [hd]; nofun)
    exact ⟨a, t, u, e, k1, o, k2, hc, n, hd⟩
  | rng y z d =>
    obtain ⟨a, t, u, w, e, ha, ho⟩ := H
    obtain ⟨k1, k2⟩ := k a _ ha ho (by intro es n'; nofun) (by intro c; nofun)
    exact ⟨a, t, u, w, e, k1, k2⟩

theorem AV.is.monoC {ok ok' : Addr → Prop} {h h' : Heap} {v : AV} {x : Value} (H : v.is ok h x)
    (k : ∀ a o, ok a → h.get? a = some o → (o.cls = .type "list" ∨ o.cls = .type "tuple" ∨ o.cls = .type "range") → ok' a ∧ h'.get? a = some o) (kf : ∀ b o, Hard o → h.get? b = some o → h'.get? b = some o) : v.is ok' h' x := by
  cases v with
  | int i => exact H
  | raw w => exact H
  | fn f fd => exact ⟨H.1, H.2.keeps kf⟩
  | lst xs =>
    obtain ⟨a, vs, e, ha, ⟨o, ho, hc, n, hd⟩, hi⟩ := H
    obtain ⟨k1, k2⟩ := k a o ha ho (.inl hc)
    exact ⟨a, vs, e, k1, ⟨o, k2, hc, n, hd⟩, hi⟩
  | pair i j =>
    obtain ⟨a, t, u, e, ha, o, ho, hc, n, hd⟩ := H
    obtain ⟨k1, k2⟩ := k a o ha ho (.inr (.inl hc))
    exact ⟨a, t, u, e, k1, o, k2, hc, n, hd⟩
  | rng y z d =>
    obtain ⟨a, t, u, w, e, ha, ho⟩ := H
    obtain ⟨k1, k2⟩ := k a _ ha ho (.inr (.inr rfl))
    exact ⟨a, t, u, w, e, k1, k2⟩

/-- a def that makes a def: its code object, the table of its inner codes, where the inner def stands, its name -/
structure Tab where
  c : Addr
  P : Addr
  line : Nat
  col : Nat
  qual : Str

/-- the program's ground -/
structure Pg where
  prog : Program
  w : World
  g : Heap
  tabs : List Tab

def Pg.tb (G : Pg) : List Addr := G.tabs.map (·.P)

def TI (G : Pg) (h : Heap) : Prop := ∀ t ∈ G.tabs, h.get? t.P = some (tabObj #[]) ∨
  ∃ c', h.get? t.P = some (tabObj #[rawInt t.line, rawInt t.col, .ref c']) ∧ h.CodeRec (.ref c') t.qual

theorem TI.isTab {G : Pg} {h : Heap} (x : TI G h) {b : Addr} (hb : b ∈ G.tb) : ∃ ps, h.get? b = some (tabObj ps) := by
  obtain ⟨t, ht, rfl⟩ := List.mem_map.mp hb
  rcases x t ht with e | ⟨c', e, _⟩
  · exact ⟨_, e⟩
  · exact ⟨_, e⟩

theorem TI.notTab {G : Pg} {h : Heap} (x : TI G h) {b : Addr} {o : Obj} (hb : b ∈ G.tb) (e : h.get? b = some o) : ¬ Hard o := by
  obtain ⟨t, ht, rfl⟩ := List.mem_map.mp hb
  rcases x t ht with e' | ⟨c', e', _⟩
  · rw [e] at e'; cases e'
    rintro (⟨fd, h⟩ | ⟨vs, y, tk, h, hv⟩)
    · cases h
    · cases h; simp at hv
  · rw [e] at e'; cases e'
    rintro (⟨fd, h⟩ | ⟨vs, y, tk, h, hv⟩)
    · cases h
    · cases h; simp [rawInt] at hv

/-- what holds as long as objects with fields stay -/
theorem TI.keeps {G : Pg} {h h' : Heap} (x : TI G h) (k : ∀ b o, (∃ vs, o.data = .fields vs) → h.get? b = some o → h'.get? b = some o) : TI G h' := by
  intro t ht
  rcases x t ht with e | ⟨c', e, c₂, o, vs, tk, e2, ho, hd, hv⟩
  · exact .inl (k _ _ ⟨_, rfl⟩ e)
  · exact .inr ⟨c', k _ _ ⟨_, rfl⟩ e, c₂, o, vs, tk, e2, k _ _ ⟨_, hd⟩ ho, hd, hv⟩

structure Room (A : Around) (d : Nat) : Prop where
  depth : A.depth + d ≤ 900
  units : A.units ≤ 3 * A.depth
  handled : A.handled = none

theorem Room.lt {A : Around} {d : Nat} (r : Room A d) : A.depth < recursionLimit := by
  have := r.depth; unfold recursionLimit; omega
theorem Room.fits {A : Around} {d : Nat} (r : Room A d) : A.units < cLine := by
  have := r.depth; have := r.units; unfold cLine; omega
theorem Room.deeper {A : Around} {d : Nat} (r : Room A (d + 1)) (env : Env) : Room (A.deeper env) d := by
  have h1 := r.depth; have h2 := r.units
  exact ⟨by show A.depth + 1 + d ≤ 900; omega, by show A.units + 3 ≤ 3 * (A.depth + 1); omega, r.handled⟩
theorem Room.less {A : Around} {d d' : Nat} (r : Room A d) (h : d' ≤ d) : Room A d' := ⟨by have := r.depth; omega, r.units, r.handled⟩

abbrev Vars := List (Str × AV)
/-- lists that may still change: where, whether a plain one, the ints -/
abbrev Muts := List (Addr × Bool × List Int)

structure Cx where
  G : Pg
  A : Around
  d : Nat
  base : Heap
  okA : Addr → Prop
  tb : List Addr

structure Cx.Ok (c : Cx) (env : Env) : Prop where
  room : Room c.A c.d
  gb : ∀ b o, c.G.g.get? b = some o → b ∉ c.tb ∧ c.base.get? b = some o
  lim : c.G.g.NoLimit
  sub : ∀ b ∈ c.G.tb, b ∈ c.tb
  tbase : ∀ b ∈ c.tb, ∃ o, c.base.get? b = some o
  kind : env.scope.kind = .function
  glob : env.globals = mainGlobals
  bi : env.builtins = builtinsNs
  new : c.base.get? env.locals = none
  ctb : ∀ x a, (x, a) ∈ env.cells → a ∉ c.tb
  cL : ∀ x a, (x, a) ∈ env.cells → a ≠ env.locals

theorem Cx.Ok.Ltb {c : Cx} {env : Env} (o : c.Ok env) : env.locals ∉ c.tb := fun h => by
  obtain ⟨x, e⟩ := o.tbase _ h
  rw [o.new] at e; cases e

def Cx.ok (c : Cx) (μ : Muts) (a : Addr) : Prop := (c.base.get? a = none ∨ c.okA a) ∧ a ∉ μ.map (·.1) ∧ a ∉ c.tb

def Rd (env : Env) (h : Heap) (x : Str) (P : Value → Prop) : Prop :=
  (env.kindOf x = some .local → ∃ ρ v, h.Ns env.locals ρ ∧ ρ x = some v ∧ P v) ∧
  ((env.kindOf x = some .cell ∨ env.kindOf x = some .free) → ∃ a v, env.cells.lookup x = some a ∧ h.IsCell a (some v) ∧ P v)

structure St (c : Cx) (env : Env) (Γ : Vars) (μ : Muts) (s : Shared) : Prop where
  good : c.Ok env
  ti : TI c.G s.heap
  keep : ∀ b o, b ∉ c.tb → c.base.get? b = some o → s.heap.get? b = some o
  tbx : ∀ b ∈ c.tb, b ∈ c.G.tb ∨ b ∈ μ.map (·.1)
  frame : ∃ ρ, s.heap.Ns env.locals ρ
  cells : ∀ x a, (x, a) ∈ env.cells → ∃ v, s.heap.IsCell a v
  vars : ∀ x v, Γ.lookup x = some v → Rd env s.heap x (v.is (c.ok μ) s.heap)
  muts : ∀ a pl xs, (a, pl, xs) ∈ μ → (∃ vs, s.heap.IsList a vs.toArray ∧ (pl = true → s.heap.PlainList a vs.toArray) ∧ IntsAre vs xs) ∧ (c.base.get? a = none ∨ a ∈ c.tb) ∧ a ∉ c.G.tb
  nodup : (μ.map (·.1)).Nodup

theorem St.top {c : Cx} {env : Env} {Γ : Vars} {μ : Muts} {s : Shared} (x : St c env Γ μ s) : ∀ b o, c.G.g.get? b = some o → s.heap.get? b = some o :=
  fun b o e => x.keep b o (x.good.gb b o e).1 (x.good.gb b o e).2

def Grow (tb : List Addr) (s s' : Shared) : Prop := ∃ h' tk, s' = { s with heap := h', toks := tk } ∧ ∀ b o, b ∉ tb → s.heap.get? b = some o → h'.get? b = some o

theorem Grow.refl (tb : List Addr) (s : Shared) : Grow tb s s := ⟨s.heap, s.toks, rfl, fun _ _ _ e => e⟩
theorem Grow.tok (tb : List Addr) (s : Shared) (t : Nat) : Grow tb s { s with toks := t } := ⟨s.heap, t, rfl, fun _ _ _ e => e⟩
theorem Grow.trans {tb : List Addr} {s₁ s₂ s₃ : Shared} (a : Grow tb s₁ s₂) (b : Grow tb s₂ s₃) : Grow tb s₁ s₃ := by
  obtain ⟨h, tk, rfl, k⟩ := a
  obtain ⟨h', tk', rfl, k'⟩ := b
  exact ⟨h', tk', rfl, fun b o hb e => k' b o hb (k b o hb e)⟩
theorem Grow.at {tb : List Addr} {s s' : Shared} (a : Grow tb s s') {b : Addr} {o : Obj} (hb : b ∉ tb) (e : s.heap.get? b = some o) : s'.heap.get? b = some o := by
  obtain ⟨h, tk, rfl, k⟩ := a; exact k b o hb e
theorem Grow.push (tb : List Addr) (s : Shared) (o : Obj) (t : Nat) : Grow tb s { s with heap := s.heap.push o, toks := t } :=
  ⟨_, t, rfl, fun b _ _ e => Heap.get?_push_of_some _ e⟩
theorem Grow.keeps {s s' : Shared} (a : Grow [] s s') : Keeps s s' := by
  obtain ⟨h, tk, rfl, k⟩ := a; exact ⟨h, tk, rfl, fun b o e => k b o (by simp) e⟩

/-- what may change while an expression is evaluated: nothing (true), or the code tables -/
def Pg.may (G : Pg) : Bool → List Addr
  | true => []
  | false => G.tb

theorem St.grow {c : Cx} {env : Env} {Γ : Vars} {μ : Muts} {s s' : Shared} {q : Bool} (x : St c env Γ μ s) (g : Grow (c.G.may q) s s') (t : TI c.G s'.heap) : St c env Γ μ s' := by
  have sub : ∀ b, b ∉ c.tb → b ∉ c.G.may q := fun b hb hm => by
    cases q with
    | true => simp [Pg.may] at hm
    | false => exact hb (x.good.sub b hm)
  obtain ⟨h', tk, rfl, k⟩ := g
  have kf : ∀ b o, Hard o → s.heap.get? b = some o → h'.get? b = some o := fun b o hh e => k b o (fun hm => by
    cases q with
    | true => simp [Pg.may] at hm
    | false => exact x.ti.notTab hm e hh) e
  have isl : ∀ (v : AV) (y : Value), v.is (c.ok μ) s.heap y → v.is (c.ok μ) h' y := fun v y H => H.mono (fun a o ha ho _ _ => ⟨ha, k a o (sub a ha.2.2) ho⟩) kf
  refine ⟨x.good, t, fun b o hb e => k b o (sub b hb) (x.keep b o hb e), x.tbx, ?_, ?_, ?_, ?_, x.nodup⟩
  · obtain ⟨ρ, o, es, ep, ho, r⟩ := x.frame
    exact ⟨ρ, o, es, ep, k _ _ (sub _ x.good.Ltb) ho, r⟩
  · intro y a ha
    obtain ⟨v, o, ho, hd⟩ := x.cells y a ha
    exact ⟨v, o, k _ _ (sub _ (x.good.ctb y a ha)) ho, hd⟩
  · intro y v hv
    obtain ⟨h1, h2⟩ := x.vars y v hv
    constructor
    · intro hk
      obtain ⟨ρ, w, ⟨o, es, ep, ho, r⟩, hw, hp⟩ := h1 hk
      exact ⟨ρ, w, ⟨o, es, ep, k _ _ (sub _ x.good.Ltb) ho, r⟩, hw, isl _ _ hp⟩
    · intro hk
      obtain ⟨a, w, ha, ⟨o, ho, hd⟩, hp⟩ := h2 hk
      exact ⟨a, w, ha, ⟨o, k _ _ (sub _ (x.good.ctb y a (mem_of_lookup ha))) ho, hd⟩, isl _ _ hp⟩
  · intro a pl xs ha
    obtain ⟨⟨vs, ⟨o, ho, r⟩, hp, hi⟩, h2, h3⟩ := x.muts a pl xs ha
    have hn : a ∉ c.G.may q := by
      cases q with
      | true => simp [Pg.may]
      | false => exact h3
    exact ⟨⟨vs, ⟨o, k _ _ hn ho, r⟩, fun e => (hp e).at fun o' e' => k _ _ hn e', hi⟩, h2, h3⟩

theorem TI.push {G : Pg} {h : Heap} (x : TI G h) (o : Obj) : TI G (h.push o) := x.keeps fun _ _ _ e => Heap.get?_push_of_some _ e

theorem St.tbAt {c : Cx} {env : Env} {Γ : Vars} {μ : Muts} {s : Shared} (x : St c env Γ μ s) {b : Addr} (hb : b ∈ c.tb) : ∃ o, s.heap.get? b = some o := by
  rcases x.tbx b hb with h | h
  · obtain ⟨ps, e⟩ := x.ti.isTab h; exact ⟨_, e⟩
  · obtain ⟨p, hp, rfl⟩ := List.mem_map.mp h
    obtain ⟨⟨vs, ⟨o, ho, _⟩, _⟩, _⟩ := x.muts p.1 p.2.1 p.2.2 hp
    exact ⟨o, ho⟩

/-- a fresh address is good -/
theorem St.fresh {c : Cx} {env : Env} {Γ : Vars} {μ : Muts} {s : Shared} (x : St c env Γ μ s) {a : Addr} (ha : s.heap.get? a = none) : c.ok μ a := by
  have ht : a ∉ c.tb := fun hm => by
    obtain ⟨o, e⟩ := x.tbAt hm
    rw [ha] at e; cases e
  refine ⟨.inl ?_, fun hm => ?_, ht⟩
  · cases e : c.base.get? a with
    | none => rfl
    | some o => have := x.keep a o ht e; rw [ha] at this; cases this
  · obtain ⟨p, hp, rfl⟩ := List.mem_map.mp hm
    obtain ⟨⟨vs, ⟨o, ho, _⟩, _⟩, _⟩ := x.muts p.1 p.2.1 p.2.2 hp
    rw [ha] at ho; cases ho

theorem Grow.none {c : Cx} {env : Env} {Γ : Vars} {μ : Muts} {s s' : Shared} {q : Bool} (x : St c env Γ μ s) (g : Grow (c.G.may q) s s') {a : Addr} (h : s'.heap.get? a = none) (t : TI c.G s'.heap) : s.heap.get? a = none := by
  cases e : s.heap.get? a with
  | none => rfl
  | some o =>
    have : a ∉ c.G.may q := fun hm => by
      cases q with
      | true => simp [Pg.may] at hm
      | false =>
        obtain ⟨ps, e'⟩ := t.isTab hm
        rw [h] at e'; cases e'
    have := g.at this e
    rw [h] at this; cases this

theorem get?_size (h : Heap) : h.get? h.objs.size = none := Heap.get?_none_of_le (Nat.le_refl _)

/-! expressions -/

def Post (c : Cx) (μ : Muts) (q : Bool) (s : Shared) (v : AV) (v' : Value) (s' : Shared) : Prop :=
  Grow (c.G.may q) s s' ∧ TI c.G s'.heap ∧ v.is (c.ok μ) s'.heap v'

def Ev (c : Cx) (env : Env) (Γ : Vars) (μ : Muts) (q : Bool) (e : Expr) (v : AV) : Prop :=
  ∀ s, St c env Γ μ s → wpAny (model c.G.prog c.G.w) c.A (eval e env) (Post c μ q s v) (fun _ _ => False) s

/-- a list that the expression makes -/
def New (c : Cx) (q : Bool) (s : Shared) (xs : List Int) (v' : Value) (s' : Shared) : Prop :=
  Grow (c.G.may q) s s' ∧ TI c.G s'.heap ∧ ∃ a vs, v' = .ref a ∧ s.heap.get? a = none ∧ s'.heap.PlainList a vs.toArray ∧ IntsAre vs xs
def EvN (c : Cx) (env : Env) (Γ : Vars) (μ : Muts) (q : Bool) (e : Expr) (xs : List Int) : Prop :=
  ∀ s, St c env Γ μ s → wpAny (model c.G.prog c.G.w) c.A (eval e env) (New c q s xs) (fun _ _ => False) s

section
variable {c : Cx} {env : Env} {Γ : Vars} {μ : Muts} {q : Bool}

theorem EvN.ev {e : Expr} {xs : List Int} (h : EvN c env Γ μ q e xs) : Ev c env Γ μ q e (.lst xs) := fun s x =>
  wpAny_mono (h s x) (fun _ _ ⟨g, t, a, vs, e, ha, hl, hi⟩ => ⟨g, t, a, vs, e, x.fresh ha, hl.isList, hi⟩) fun _ _ f => f

theorem Post.later {s s₁ : Shared} {v : AV} {v' : Value} {s' : Shared} (g : Grow (c.G.may q) s s₁) (p : Post c μ q s₁ v v' s') : Post c μ q s v v' s' := ⟨g.trans p.1, p.2⟩

/-- what a value still is behind a growth -/
theorem St.still {s s' : Shared} (x : St c env Γ μ s) (g : Grow (c.G.may q) s s') {v : AV} {y : Value} (h : v.is (c.ok μ) s.heap y) : v.is (c.ok μ) s'.heap y :=
  h.mono (fun a o ha ho _ _ => ⟨ha, g.at (fun hm => ha.2.2 (by
    cases q with
    | true => simp [Pg.may] at hm
    | false => exact x.good.sub a hm)) ho⟩) fun b o hh e => g.at (fun hm => by
    cases q with
    | true => simp [Pg.may] at hm
    | false => exact x.ti.notTab hm e hh) e

theorem Ev.const {i : Int} {k : Nat} {pos : Pos} : Ev c env Γ μ q (.Constant (.int i) k pos) (.int i) := fun s x =>
  wpAny_Constant_int ⟨Grow.tok _ _ _, x.ti, _, rfl⟩
theorem Ev.var {y : Str} {pos : Pos} {v : AV} (hv : Γ.lookup y = some v) (hk : (env.kindOf y == some .local || env.kindOf y == some .cell || env.kindOf y == some .free) = true)
    (hd : (y == ("__debug__" : Str)) = false := by decide) (hn : (y == ("__classdict__" : Str)) = false := by decide) : Ev c env Γ μ q (.Name y pos) v := fun s x => by
  obtain ⟨h1, h2⟩ := x.vars y v hv
  have hk' : env.kindOf y = some .local ∨ env.kindOf y = some .cell ∨ env.kindOf y = some .free := by
    simp only [Bool.or_eq_true, beq_iff_eq] at hk
    rcases hk with (h | h) | h
    · exact .inl h
    · exact .inr (.inl h)
    · exact .inr (.inr h)
  rcases hk' with h | h | h
  · obtain ⟨ρ, w, hn, hw, hp⟩ := h1 h
    exact wpAny_Name (wpAny_loadName_local x.good.kind h hn hw ⟨Grow.refl _ _, x.ti, hp⟩) hd
  · obtain ⟨a, w, ha, hc, hp⟩ := h2 (.inl h)
    exact wpAny_Name (wpAny_loadName_cell x.good.kind h ha hc ⟨Grow.refl _ _, x.ti, hp⟩) hd
  · obtain ⟨a, w, ha, hc, hp⟩ := h2 (.inr h)
    exact wpAny_Name (wpAny_loadName_free x.good.kind h ha hc ⟨Grow.refl _ _, x.ti, hp⟩ hn) hd

/-- a name of the module -/
def Pg.Glob (G : Pg) (y : Str) (v : Value) : Prop := ∃ mg, G.g.Ns mainGlobals mg ∧ mg y = some v
/-- a built-in name -/
def Pg.Bi (G : Pg) (y : Str) (v : Value) : Prop := ∃ mg mb, G.g.Ns mainGlobals mg ∧ mg y = none ∧ G.g.Ns builtinsNs mb ∧ mb y = some v

theorem Ev.glob {y : Str} {pos : Pos} {v : Value} (hg : c.G.Glob y v) (hk : env.kindOf y = some .globalImplicit)
    (hd : (y == ("__debug__" : Str)) = false := by decide) : Ev c env Γ μ q (.Name y pos) (.raw v) := fun s x => by
  obtain ⟨mg, hn, hv⟩ := hg
  exact Calls.Name_function_global x.good.kind hk (Calls.loadGlobal_global (by rw [x.good.glob]; exact hn.keeps x.top) hv ⟨Grow.refl _ _, x.ti, rfl⟩) hd
theorem Ev.globInt {y : Str} {pos : Pos} {i : Int} {t : Tok} (hg : c.G.Glob y (.int i t)) (hk : env.kindOf y = some .globalImplicit)
    (hd : (y == ("__debug__" : Str)) = false := by decide) : Ev c env Γ μ q (.Name y pos) (.int i) := fun s x => by
  obtain ⟨mg, hn, hv⟩ := hg
  exact Calls.Name_function_global x.good.kind hk (Calls.loadGlobal_global (by rw [x.good.glob]; exact hn.keeps x.top) hv ⟨Grow.refl _ _, x.ti, _, rfl⟩) hd
theorem Ev.bi {y : Str} {pos : Pos} {v : Value} (hg : c.G.Bi y v) (hk : env.kindOf y = some .globalImplicit)
    (hd : (y == ("__debug__" : Str)) = false := by decide) : Ev c env Γ μ q (.Name y pos) (.raw v) := fun s x => by
  obtain ⟨mg, mb, hn, h0, hb, hv⟩ := hg
  exact Calls.Name_function_global x.good.kind hk (Calls.loadGlobal_builtin (by rw [x.good.glob]; exact hn.keeps x.top) h0 (by rw [x.good.bi]; exact hb.keeps x.top) hv ⟨Grow.refl _ _, x.ti, rfl⟩) hd

/-- two operands, then an operation -/
theorem Ev.bin {l r : Expr} {op : Operator} {pos : Pos} {va vb v : AV} (hl : Ev c env Γ μ q l va) (hr : Ev c env Γ μ q r vb)
    (h : ∀ s x y, St c env Γ μ s → va.is (c.ok μ) s.heap x → vb.is (c.ok μ) s.heap y → wpAny (model c.G.prog c.G.w) c.A (binaryOp op x y) (Post c μ q s v) (fun _ _ => False) s) :
    Ev c env Γ μ q (.BinOp l op r pos) v := fun s x =>
  wpAny_BinOp (wpAny_mono (hl s x) (fun a s₁ p₁ => wpAny_mono (hr s₁ (x.grow p₁.1 p₁.2.1)) (fun b s₂ p₂ =>
    wpAny_mono (h s₂ a b ((x.grow p₁.1 p₁.2.1).grow p₂.1 p₂.2.1) ((x.grow p₁.1 p₁.2.1).still p₂.1 p₁.2.2) p₂.2.2) (fun _ _ p₃ => p₃.later (p₁.1.trans p₂.1)) fun _ _ f => f) fun _ _ f => f) fun _ _ f => f)

theorem Ev.ints2 {l r : Expr} {op : Operator} {pos : Pos} {a b z : Int} (hl : Ev c env Γ μ q l (.int a)) (hr : Ev c env Γ μ q r (.int b))
    (h : ∀ (s : Shared) (t u : Tok) (Q : Value → Shared → Prop), Q (.int z s.toks) { s with toks := s.toks + 1 } → wpAny (model c.G.prog c.G.w) c.A (binaryOp op (.int a t) (.int b u)) Q (fun _ _ => False) s) :
    Ev c env Γ μ q (.BinOp l op r pos) (.int z) := Ev.bin hl hr fun s x y st hx hy => by
  obtain ⟨t, rfl⟩ := hx
  obtain ⟨u, rfl⟩ := hy
  exact h s t u _ ⟨Grow.tok _ _ _, st.ti, _, rfl⟩

theorem Ev.add {l r : Expr} {pos : Pos} {a b : Int} (hl : Ev c env Γ μ q l (.int a)) (hr : Ev c env Γ μ q r (.int b)) : Ev c env Γ μ q (.BinOp l .Add r pos) (.int (a + b)) :=
  Ev.ints2 hl hr fun _ _ _ _ h => PyProof.Rows.add_int h
theorem Ev.sub {l r : Expr} {pos : Pos} {a b : Int} (hl : Ev c env Γ μ q l (.int a)) (hr : Ev c env Γ μ q r (.int b)) : Ev c env Γ μ q (.BinOp l .Sub r pos) (.int (a - b)) :=
  Ev.ints2 hl hr fun _ _ _ _ h => PyProof.Rows.sub_int h
theorem Ev.mul {l r : Expr} {pos : Pos} {a b : Int} (hl : Ev c env Γ μ q l (.int a)) (hr : Ev c env Γ μ q r (.int b)) (hm : IntMulOk a b) : Ev c env Γ μ q (.BinOp l .Mult r pos) (.int (a * b)) :=
  Ev.ints2 hl hr fun _ _ _ _ h => PyProof.Rows.mul_int h hm
theorem Ev.fdiv {l r : Expr} {pos : Pos} {a b : Int} (hl : Ev c env Γ μ q l (.int a)) (hr : Ev c env Γ μ q r (.int b)) (hb : b ≠ 0) (hp : b.natAbs.log2 < 9000) : Ev c env Γ μ q (.BinOp l .FloorDiv r pos) (.int (a.fdiv b)) :=
  Ev.ints2 hl hr fun _ _ _ _ h => PyProof.Rows.floordiv_int hb h (.inl (PyProof.noPylong_of_log2 hp))
theorem Ev.fmod {l r : Expr} {pos : Pos} {a b : Int} (hl : Ev c env Γ μ q l (.int a)) (hr : Ev c env Γ μ q r (.int b)) (hb : b ≠ 0) : Ev c env Γ μ q (.BinOp l .Mod r pos) (.int (a.fmod b)) :=
  Ev.ints2 hl hr fun _ _ _ _ h => PyProof.Rows.mod_int' hb h
theorem Ev.shl {l r : Expr} {pos : Pos} {a n : Int} (hl : Ev c env Γ μ q l (.int a)) (hr : Ev c env Γ μ q r (.int n)) (hn : 0 ≤ n) (hs : (Builtin.Int.intBits a : Int) + n ≤ 2 ^ 27) : Ev c env Γ μ q (.BinOp l .LShift r pos) (.int (a * 2 ^ n.toNat)) :=
  Ev.ints2 hl hr fun _ _ _ _ h => PyProof.Rows.lshift_int hn hs h
theorem Ev.shr {l r : Expr} {pos : Pos} {a n : Int} (hl : Ev c env Γ μ q l (.int a)) (hr : Ev c env Γ μ q r (.int n)) (hn : 0 ≤ n) : Ev c env Γ μ q (.BinOp l .RShift r pos) (.int (a.fdiv (2 ^ n.toNat))) :=
  Ev.ints2 hl hr fun _ _ _ _ h => PyProof.Rows.rshift_int hn h
theorem Ev.pow {l r : Expr} {pos : Pos} {a n : Int} (hl : Ev c env Γ μ q l (.int a)) (hr : Ev c env Γ μ q r (.int n)) (hn : 0 ≤ n) (hs : (Builtin.Int.intBits a : Int) * n ≤ 2 ^ 27) : Ev c env Γ μ q (.BinOp l .Pow r pos) (.int (a ^ n.toNat)) :=
  Ev.ints2 hl hr fun _ _ _ _ h => PyProof.Rows.pow_int hn hs h
theorem Ev.band {l r : Expr} {pos : Pos} {a b : Int} (hl : Ev c env Γ μ q l (.int a)) (hr : Ev c env Γ μ q r (.int b)) : Ev c env Γ μ q (.BinOp l .BitAnd r pos) (.int (Builtin.bitAnd a b)) :=
  Ev.ints2 hl hr fun _ _ _ _ h => PyProof.Rows.and_int h
theorem Ev.bor {l r : Expr} {pos : Pos} {a b : Int} (hl : Ev c env Γ μ q l (.int a)) (hr : Ev c env Γ μ q r (.int b)) : Ev c env Γ μ q (.BinOp l .BitOr r pos) (.int (Builtin.bitOr a b)) :=
  Ev.ints2 hl hr fun _ _ _ _ h => PyProof.Rows.or_int h
theorem Ev.bxor {l r : Expr} {pos : Pos} {a b : Int} (hl : Ev c env Γ μ q l (.int a)) (hr : Ev c env Γ μ q r (.int b)) : Ev c env Γ μ q (.BinOp l .BitXor r pos) (.int (Builtin.bitXor a b)) :=
  Ev.ints2 hl hr fun _ _ _ _ h => PyProof.Rows.xor_int h

theorem Ev.neg {e : Expr} {pos : Pos} {a : Int} (h : Ev c env Γ μ q e (.int a)) : Ev c env Γ μ q (.UnaryOp .USub e pos) (.int (-a)) := fun s x =>
  UnaryOp_ (wpAny_mono (h s x) (fun v s₁ p => by
    obtain ⟨t, rfl⟩ := p.2.2
    exact PyProof.Rows.neg_int ⟨p.1.trans (Grow.tok _ _ _), p.2.1, _, rfl⟩) fun _ _ f => f)
theorem Ev.inv {e : Expr} {pos : Pos} {a : Int} (h : Ev c env Γ μ q e (.int a)) : Ev c env Γ μ q (.UnaryOp .Invert e pos) (.int (Builtin.bitNot a)) := fun s x =>
  UnaryOp_ (wpAny_mono (h s x) (fun v s₁ p => by
    obtain ⟨t, rfl⟩ := p.2.2
    exact PyProof.Rows.invert_int ⟨p.1.trans (Grow.tok _ _ _), p.2.1, _, rfl⟩) fun _ _ f => f)
end
end Mine
open PySem PySem.W PyProof.Rows
set_option maxRecDepth 100000
set_option linter.unusedVariables false
namespace Mine
section
variable {c : Cx} {env : Env} {Γ : Vars} {μ : Muts} {q : Bool}

/-! tests -/
def Tst (c : Cx) (env : Env) (Γ : Vars) (μ : Muts) (q : Bool) (e : Expr) (b : Bool) : Prop :=
  ∀ s, St c env Γ μ s → wpAny (model c.G.prog c.G.w) c.A (isTrue e env (eval e env)) (fun b' s' => Grow (c.G.may q) s s' ∧ TI c.G s'.heap ∧ b' = b) (fun _ _ => False) s

theorem Tst.cmp {l r : Expr} {op : CmpOp} {pos : Pos} {a b : Int} {z : Bool} (hl : Ev c env Γ μ q l (.int a)) (hr : Ev c env Γ μ q r (.int b))
    (h : ∀ (s : Shared) (t u : Tok) (Q : Value → Shared → Prop), Q (.bool z) s → wpAny (model c.G.prog c.G.w) c.A (compareOp op (.int a t) (.int b u)) Q (fun _ _ => False) s)
    (hm : behindInMarks op r = false) : Tst c env Γ μ q (.Compare l [op] [r] pos) z := fun s x =>
  wpAny_isTrue_Compare1 (wpAny_mono (hl s x) (fun va s₁ p₁ => wpAny_mono (hr s₁ (x.grow p₁.1 p₁.2.1)) (fun vb s₂ p₂ => by
    obtain ⟨t, rfl⟩ := p₁.2.2
    obtain ⟨u, rfl⟩ := p₂.2.2
    exact h s₂ t u _ (wpAny_truthy_bool ⟨p₁.1.trans p₂.1, p₂.2.1, rfl⟩)) fun _ _ f => f) fun _ _ f => f) hm
theorem Tst.lt {l r : Expr} {pos : Pos} {a b : Int} (hl : Ev c env Γ μ q l (.int a)) (hr : Ev c env Γ μ q r (.int b)) (hm : behindInMarks .Lt r = false := by rfl) :
    Tst c env Γ μ q (.Compare l [.Lt] [r] pos) (decide (a < b)) := Tst.cmp hl hr (fun _ _ _ _ h => PyProof.Rows.lt_int h) hm
theorem Tst.le {l r : Expr} {pos : Pos} {a b : Int} (hl : Ev c env Γ μ q l (.int a)) (hr : Ev c env Γ μ q r (.int b)) (hm : behindInMarks .LtE r = false := by rfl) :
    Tst c env Γ μ q (.Compare l [.LtE] [r] pos) (decide (a ≤ b)) := Tst.cmp hl hr (fun _ _ _ _ h => PyProof.Rows.le_int h) hm
theorem Tst.eq {l r : Expr} {pos : Pos} {a b : Int} (hl : Ev c env Γ μ q l (.int a)) (hr : Ev c env Γ μ q r (.int b)) (hm : behindInMarks .Eq r = false := by rfl) :
    Tst c env Γ μ q (.Compare l [.Eq] [r] pos) (a == b) := Tst.cmp hl hr (fun _ _ _ _ h => PyProof.Rows.eq_int h) hm
theorem Tst.ne {l r : Expr} {pos : Pos} {a b : Int} (hl : Ev c env Γ μ q l (.int a)) (hr : Ev c env Γ μ q r (.int b)) (hm : behindInMarks .NotEq r = false := by rfl) :
    Tst c env Γ μ q (.Compare l [.NotEq] [r] pos) (a != b) := Tst.cmp hl hr (fun _ _ _ _ h => PyProof.Rows.ne_int h) hm

theorem Tst.int {e : Expr} {a : Int} (h : Ev c env Γ μ q e (.int a))
    (he : isTrue e env (eval e env) = (do let v ← eval e env; standAt e.pos; holding [v] (truthy v)) := by rfl) : Tst c env Γ μ q e (a != 0) := fun s x =>
  isTrue_plain (wpAny_mono (h s x) (fun v s₁ p => by
    obtain ⟨t, rfl⟩ := p.2.2
    exact PyProof.Rows.truthy_int ⟨p.1, p.2.1, rfl⟩) fun _ _ f => f) he
theorem Tst.lst {e : Expr} {xs : List Int} (h : Ev c env Γ μ q e (.lst xs)) (hsz : xs.length < 2 ^ 62)
    (he : isTrue e env (eval e env) = (do let v ← eval e env; standAt e.pos; holding [v] (truthy v)) := by rfl) : Tst c env Γ μ q e (!xs.isEmpty) := fun s x =>
  isTrue_plain (wpAny_mono (h s x) (fun v s₁ p => by
    obtain ⟨a, vs, rfl, ha, hl, hi⟩ := p.2.2
    have e := hi.length
    refine wpAny_truthy_list hl (by simp only [List.size_toArray]; omega) ⟨p.1.trans (Grow.tok _ _ _), p.2.1, ?_⟩
    cases hi <;> rfl) fun _ _ f => f) he
theorem Tst.or {x₁ x₂ : Expr} {pos : Pos} {a b : Bool} (h₁ : Tst c env Γ μ q x₁ a) (h₂ : a = false → Tst c env Γ μ q x₂ b) : Tst c env Γ μ q (.BoolOp .Or [x₁, x₂] pos) (a || b) := fun s x =>
  isTrue_or (wpAny_mono (h₁ s x) (fun b' s₁ p => by
    obtain ⟨p1, p2, rfl⟩ := p
    cases b' with
    | true => exact ⟨p1, p2, rfl⟩
    | false =>
      exact isTrue_or (wpAny_mono (h₂ rfl s₁ (x.grow p1 p2)) (fun b'' s₂ p' => by
        obtain ⟨q1, q2, rfl⟩ := p'
        cases b'' with
        | true => exact ⟨p1.trans q1, q2, rfl⟩
        | false => exact isTrue_or_nil ⟨p1.trans q1, q2, rfl⟩) fun _ _ f => f)) fun _ _ f => f)
theorem Room.fits64 {A : Around} {d : Nat} (r : Room A d) : A.units + 64 < cLine := by
  have := r.depth; have := r.units; unfold cLine; omega

/-- two lists compared -/
theorem Tst.neL {l r : Expr} {pos : Pos} {xs ys : List Int} (hl : Ev c env Γ μ q l (.lst xs)) (hr : Ev c env Γ μ q r (.lst ys)) (hm : behindInMarks .NotEq r = false := by rfl) :
    Tst c env Γ μ q (.Compare l [.NotEq] [r] pos) (!decide (xs = ys)) := fun s x =>
  wpAny_isTrue_Compare1 (wpAny_mono (hl s x) (fun va s₁ p₁ => wpAny_mono (hr s₁ (x.grow p₁.1 p₁.2.1)) (fun vb s₂ p₂ => by
    obtain ⟨a, vs, rfl, ha, h1, i1⟩ := (x.grow p₁.1 p₁.2.1).still p₂.1 p₁.2.2
    obtain ⟨b, us, rfl, hb, h2, i2⟩ := p₂.2.2
    exact ne_intsK h1 i1 h2 i2 x.good.room.fits64 (wpAny_truthy_bool ⟨p₁.1.trans p₂.1, p₂.2.1, rfl⟩)) fun _ _ f => f) fun _ _ f => f) hm
theorem Ev.ifexp {t b o : Expr} {pos : Pos} {z : Bool} {v : AV} (ht : Tst c env Γ μ q t z) (h₁ : z = true → Ev c env Γ μ q b v) (h₂ : z = false → Ev c env Γ μ q o v) : Ev c env Γ μ q (.IfExp t b o pos) v := fun s x =>
  IfExp_ (wpAny_mono (ht s x) (fun z' s₁ p => by
    obtain ⟨p1, p2, rfl⟩ := p
    cases z' with
    | true => exact wpAny_mono (h₁ rfl s₁ (x.grow p1 p2)) (fun _ _ r => r.later p1) fun _ _ f => f
    | false => exact wpAny_mono (h₂ rfl s₁ (x.grow p1 p2)) (fun _ _ r => r.later p1) fun _ _ f => f) fun _ _ f => f)

/-! arguments -/
inductive AllIs (ok : Addr → Prop) (h : Heap) : List AV → List Value → Prop
  | nil : AllIs ok h [] []
  | cons {v : AV} {x : Value} {vs : List AV} {xs : List Value} : v.is ok h x → AllIs ok h vs xs → AllIs ok h (v :: vs) (x :: xs)

def EvA (c : Cx) (env : Env) (Γ : Vars) (μ : Muts) (q : Bool) (pos : Pos) (es : List Expr) (vs : List AV) : Prop :=
  ∀ s, St c env Γ μ s → wpAny (model c.G.prog c.G.w) c.A (spliced (backTo pos (starEach es env))) (fun xs s' => Grow (c.G.may q) s s' ∧ TI c.G s'.heap ∧ AllIs (c.ok μ) s'.heap vs xs) (fun _ _ => False) s

theorem EvA.nil {pos : Pos} : EvA c env Γ μ q pos [] [] := fun s x => args_nil ⟨Grow.refl _ _, x.ti, .nil⟩
theorem EvA.cons {pos : Pos} {e : Expr} {rest : List Expr} {v : AV} {vs : List AV} (h : Ev c env Γ μ q e v) (hr : EvA c env Γ μ q pos rest vs)
    (he : starEach (e :: rest) env = (false, eval e env) :: starEach rest env := by rfl) : EvA c env Γ μ q pos (e :: rest) (v :: vs) := fun s x =>
  args_cons (wpAny_mono (h s x) (fun y s₁ p₁ => wpAny_mono (hr s₁ (x.grow p₁.1 p₁.2.1)) (fun ys s₂ p₂ =>
    ⟨p₁.1.trans p₂.1, p₂.2.1, .cons ((x.grow p₁.1 p₁.2.1).still p₂.1 p₁.2.2) p₂.2.2⟩) fun _ _ f => f) fun _ _ f => f) he

/-- a built-in function called -/
theorem Ev.callB {f : Expr} {id : String} {e : Expr} {rest : List Expr} {pos : Pos} {vs : List AV} {v : AV} (hf : Ev c env Γ μ q f (.raw (.builtin id))) (ha : EvA c env Γ μ q pos (e :: rest) vs)
    (h : ∀ s xs, St c env Γ μ s → AllIs (c.ok μ) s.heap vs xs → wpAny (model c.G.prog c.G.w) c.A (call (.builtin id) xs) (Post c μ q s v) (fun _ _ => False) s)
    (he : eval (.Call f (e :: rest) [] pos) env = (do callWith pos (← eval f env) [] (backTo pos (starEach (e :: rest) env)) (backToKw pos (keywordEach [] env))) := by rfl)
    (hs : starEach (e :: rest) env = (false, eval e env) :: starEach rest env := by rfl)
    (hp : (backTo pos (starEach rest env)).any (·.1) = false := by rfl) : Ev c env Γ μ q (.Call f (e :: rest) [] pos) v := fun s x =>
  Call_ (wpAny_mono (hf s x) (fun y s₁ p₁ => by
    obtain rfl : y = .builtin id := p₁.2.2
    exact callWith_builtin1 (wpAny_mono (ha s₁ (x.grow p₁.1 p₁.2.1)) (fun ys s₂ p₂ => wpAny_mono (h s₂ ys ((x.grow p₁.1 p₁.2.1).grow p₂.1 p₂.2.1) p₂.2.2) (fun _ _ r => r.later (p₁.1.trans p₂.1)) fun _ _ f => f) fun _ _ f => f) hs hp) fun _ _ f => f) he
/-- a built-in type called -/
theorem Ev.callT {f : Expr} {id : String} {e : Expr} {rest : List Expr} {pos : Pos} {vs : List AV} {v : AV} (hf : Ev c env Γ μ q f (.raw (.type id))) (ha : EvA c env Γ μ q pos (e :: rest) vs)
    (h : ∀ s xs, St c env Γ μ s → AllIs (c.ok μ) s.heap vs xs → wpAny (model c.G.prog c.G.w) c.A (call (.type id) xs) (Post c μ q s v) (fun _ _ => False) s)
    (he : eval (.Call f (e :: rest) [] pos) env = (do callWith pos (← eval f env) [] (backTo pos (starEach (e :: rest) env)) (backToKw pos (keywordEach [] env))) := by rfl)
    (hs : starEach (e :: rest) env = (false, eval e env) :: starEach rest env := by rfl)
    (hp : (backTo pos (starEach rest env)).any (·.1) = false := by rfl) : Ev c env Γ μ q (.Call f (e :: rest) [] pos) v := fun s x =>
  Call_ (wpAny_mono (hf s x) (fun y s₁ p₁ => by
    obtain rfl : y = .type id := p₁.2.2
    exact callWith_type1 (wpAny_mono (ha s₁ (x.grow p₁.1 p₁.2.1)) (fun ys s₂ p₂ => wpAny_mono (h s₂ ys ((x.grow p₁.1 p₁.2.1).grow p₂.1 p₂.2.1) p₂.2.2) (fun _ _ r => r.later (p₁.1.trans p₂.1)) fun _ _ f => f) fun _ _ f => f) hs hp) fun _ _ f => f) he

theorem Ev.len {f a : Expr} {pos : Pos} {xs : List Int} (hf : Ev c env Γ μ q f (.raw (.builtin "len"))) (h : Ev c env Γ μ q a (.lst xs)) (hsz : xs.length < 2 ^ 62)
    (he : eval (.Call f [a] [] pos) env = (do callWith pos (← eval f env) [] (backTo pos (starEach [a] env)) (backToKw pos (keywordEach [] env))) := by rfl)
    (hs : starEach [a] env = (false, eval a env) :: starEach [] env := by rfl) : Ev c env Γ μ q (.Call f [a] [] pos) (.int xs.length) :=
  Ev.callB hf (EvA.cons h EvA.nil hs) (fun s ys x ha => by
    cases ha with
    | cons h1 h2 =>
      cases h2
      obtain ⟨b, vs, rfl, hb, hl, hi⟩ := h1
      have e := hi.length
      refine Calls.call_len_list hl (by simp only [List.size_toArray]; omega) ⟨Grow.tok _ _ _, x.ti, s.toks + 1, ?_⟩
      simp only [List.size_toArray, e]) he hs rfl

theorem Ev.sum {f a : Expr} {pos : Pos} {xs : List Int} (hf : Ev c env Γ μ q f (.raw (.builtin "sum"))) (h : Ev c env Γ μ q a (.lst xs))
    (he : eval (.Call f [a] [] pos) env = (do callWith pos (← eval f env) [] (backTo pos (starEach [a] env)) (backToKw pos (keywordEach [] env))) := by rfl)
    (hs : starEach [a] env = (false, eval a env) :: starEach [] env := by rfl) : Ev c env Γ μ q (.Call f [a] [] pos) (.int xs.sum) :=
  Ev.callB hf (EvA.cons h EvA.nil hs) (fun s ys x ha => by
    cases ha with
    | cons h1 h2 =>
      cases h2
      obtain ⟨b, vs, rfl, hb, hl, hi⟩ := h1
      obtain ⟨us, e⟩ := hi.allInts.items
      have e2 := nums_intItems us
      rw [← e] at e2
      have e3 : vs.toArray.toList = vs := rfl
      rw [e3, hi.numsOf] at e2
      rw [e] at hl
      refine sum_intListG x.good.room.handled hl fun h' tk t' hk => ⟨⟨h', tk, rfl, fun b o _ e => hk b o e⟩, x.ti.keeps fun b o _ e => hk b o e, t', ?_⟩
      rw [preSum_eq, List.take_of_length_le (by simp), e2]) he hs rfl
end
end Mine
open PySem PySem.W PyProof.Rows
set_option maxRecDepth 100000
set_option linter.unusedVariables false
namespace Mine

section
variable {c : Cx} {env : Env} {Γ : Vars} {μ : Muts} {q : Bool}

theorem Ev.range1 {f a : Expr} {pos : Pos} {n : Int} (hf : Ev c env Γ μ q f (.raw (.type "range"))) (h : Ev c env Γ μ q a (.int n))
    (he : eval (.Call f [a] [] pos) env = (do callWith pos (← eval f env) [] (backTo pos (starEach [a] env)) (backToKw pos (keywordEach [] env))) := by rfl)
    (hs : starEach [a] env = (false, eval a env) :: starEach [] env := by rfl) : Ev c env Γ μ q (.Call f [a] [] pos) (.rng 0 n 1) :=
  Ev.callT hf (EvA.cons h EvA.nil hs) (fun s ys x ha => by
    cases ha with
    | cons h1 h2 =>
      cases h2
      obtain ⟨t, rfl⟩ := h1
      exact call_range_1 ⟨Grow.push _ _ _ _, x.ti.push _, _, _, _, _, rfl, x.fresh (get?_size _), IsRange.new _ _ _ _ _ _ _⟩) he hs rfl
theorem Ev.divmod {f a b : Expr} {pos : Pos} {m n : Int} (hf : Ev c env Γ μ q f (.raw (.builtin "divmod"))) (h : Ev c env Γ μ q a (.int m)) (h' : Ev c env Γ μ q b (.int n)) (hn : n ≠ 0) (hl : n.natAbs.log2 < 9000)
    (he : eval (.Call f [a, b] [] pos) env = (do callWith pos (← eval f env) [] (backTo pos (starEach [a, b] env)) (backToKw pos (keywordEach [] env))) := by rfl)
    (hs : starEach [a, b] env = (false, eval a env) :: starEach [b] env := by rfl) (hs' : starEach [b] env = (false, eval b env) :: starEach [] env := by rfl)
    (hp : (backTo pos (starEach [b] env)).any (·.1) = false := by rfl) : Ev c env Γ μ q (.Call f [a, b] [] pos) (.pair (m.fdiv n) (m.fmod n)) :=
  Ev.callB hf (EvA.cons h (EvA.cons h' EvA.nil hs') hs) (fun s ys x ha => by
    cases ha with
    | cons h1 h2 =>
      cases h2 with
      | cons h2 h3 =>
        cases h3
        obtain ⟨t, rfl⟩ := h1
        obtain ⟨u, rfl⟩ := h2
        exact divmod_int hn ⟨Grow.push _ _ _ _, x.ti.push _, _, _, _, rfl, x.fresh (get?_size _), _, Heap.get?_push_size _ rfl, rfl, 0, rfl⟩ (.inl (PyProof.noPylong_of_log2 hl))) he hs hp

theorem Ev.bits {o : Expr} {apos pos : Pos} {a : Int} {pl : Sem Bool} (h : Ev c env Γ μ q o (.int a))
    (he : eval (.Call (.Attribute o (Str.ofString "bit_length") apos) [] [] pos) env = (do
      let ov ← eval o env
      standAt apos.atName
      let (f, first) ← holding [ov] (getMethod ov (Str.ofString "bit_length") pl)
      callWith pos f first (backTo pos (starEach [] env)) []) := by rfl) :
    Ev c env Γ μ q (.Call (.Attribute o (Str.ofString "bit_length") apos) [] [] pos) (.int (Builtin.Int.intBits a)) := fun s x =>
  MethodCall_ (pl := pl) (wpAny_mono (h s x) (fun v s₁ p => by
    obtain ⟨t, rfl⟩ := p.2.2
    refine getMethod_int_bit_length ?_
    refine Calls.callWith_builtin rfl (evalArgs_nil3 ?_)
    exact call_int_bit_length ⟨p.1.trans (Grow.tok _ _ _), p.2.1, _, rfl⟩) fun _ _ f => f) he

/-! lists -/
theorem ints_of_allIs {ok : Addr → Prop} {h : Heap} : ∀ {xs : List Int} {vs : List Value}, AllIs ok h (xs.map .int) vs → IntsAre vs xs
  | [], _, .nil => .nil
  | x :: r, _, .cons h1 h2 => by
    obtain ⟨t, rfl⟩ := h1
    exact .cons x t (ints_of_allIs h2)

theorem EvN.display {es : List Expr} {pos : Pos} {xs : List Int} (h : EvA c env Γ μ q pos es (xs.map .int)) (hsz : xs.length ≤ 1000) : EvN c env Γ μ q (.List es pos) xs := fun s x =>
  List_ (wpAny_mono (h s x) (fun vs s₁ p => by
    have hi := ints_of_allIs p.2.2
    refine wpAny_newObj_type ⟨p.1.trans (Grow.push _ _ _ _), p.2.1.push _, _, vs, rfl, ?_, ⟨_, Heap.get?_push_size _ rfl⟩, hi⟩ ?_
    · exact p.1.none x (get?_size _) p.2.1
    · show vs.toArray.size ≤ sizeLine
      rw [List.size_toArray, hi.length]; unfold sizeLine; omega) fun _ _ f => f)

theorem EvN.add {l r : Expr} {pos : Pos} {xs ys : List Int} (hl : Ev c env Γ μ q l (.lst xs)) (hr : Ev c env Γ μ q r (.lst ys)) (hsz : xs.length + ys.length ≤ 100000) :
    EvN c env Γ μ q (.BinOp l .Add r pos) (xs ++ ys) := fun s x =>
  wpAny_BinOp (wpAny_mono (hl s x) (fun va s₁ p₁ => wpAny_mono (hr s₁ (x.grow p₁.1 p₁.2.1)) (fun vb s₂ p₂ => by
    obtain ⟨a, vs, rfl, ha, h1, i1⟩ := (x.grow p₁.1 p₁.2.1).still p₂.1 p₁.2.2
    obtain ⟨b, us, rfl, hb, h2, i2⟩ := p₂.2.2
    obtain ⟨⟨cls, dd, data, sl⟩, ho, hc, n, hd⟩ := id h1
    obtain ⟨⟨cls2, dd2, data2, sl2⟩, ho2, hc2, n2, hd2⟩ := id h2
    simp only at hc hd hc2 hd2
    subst hc hd hc2 hd2
    have e1 := i1.length
    have e2 := i2.length
    refine concat_meets ⟨_, ho, rfl⟩ ⟨_, ho2, rfl⟩ noFill_list_add seq_list_add PySem.F.slot_list_add PySem.F.entry_list_add (PySem.F.args_list_add_2 _ _)
      (list_addW a b vs.toArray us.toArray n n2 dd dd2 sl sl2 (by simp only [List.size_toArray]; unfold sizeLine; omega)) ⟨ho, ho2, ?_⟩
    have e : vs.toArray ++ us.toArray = (vs ++ us).toArray := by simp
    rw [e]
    refine ⟨(p₁.1.trans p₂.1).trans (Grow.push _ _ _ _), p₂.2.1.push _, _, vs ++ us, rfl, ?_, ⟨_, Heap.get?_push_size _ rfl⟩, i1.append i2⟩
    exact (p₁.1.trans p₂.1).none x (get?_size _) p₂.2.1) fun _ _ f => f) fun _ _ f => f)

theorem EvN.mul {l r : Expr} {pos : Pos} {xs : List Int} {k : Int} (hl : Ev c env Γ μ q l (.lst xs)) (hr : Ev c env Γ μ q r (.int k)) (hk : k ≤ 100000) (hk' : -100000 ≤ k) (hsz : xs.length ≤ 100) :
    EvN c env Γ μ q (.BinOp l .Mult r pos) (List.replicate k.toNat xs).flatten := fun s x =>
  wpAny_BinOp (wpAny_mono (hl s x) (fun va s₁ p₁ => wpAny_mono (hr s₁ (x.grow p₁.1 p₁.2.1)) (fun vb s₂ p₂ => by
    obtain ⟨l', vs, rfl, ha, h1, i1⟩ := (x.grow p₁.1 p₁.2.1).still p₂.1 p₁.2.2
    obtain ⟨u, rfl⟩ := p₂.2.2
    obtain ⟨⟨cls, d, data, sl⟩, ho, hcl, k', hd⟩ := id h1
    simp only at hcl hd
    subst hcl hd
    have e1 := i1.length
    have hsz' : vs.toArray.size * k.toNat ≤ 2 ^ 24 := by
      simp only [List.size_toArray]
      exact Nat.le_trans (Nat.mul_le_mul (by omega : vs.length ≤ 100) (by omega : k.toNat ≤ 100000)) (by decide)
    refine wpAny_binaryOp_repeat_ref (T := "list") (U := "int") (by decide) ⟨_, ho, rfl⟩ (fun s' => typeIs_int s' k u) noFill_list_mul F.fills_int_mul F.slot_int_rmul repeat_list F.slot_int_index.lookup
      (call_meets F.slot_int_rmul (typeIs_int _ k u) F.entry_int_rmul (F.args_int_rmul_2 _ _) (lm_int_rmul_list_any k u l' vs.toArray k' d sl)
        ⟨ho, rfl, ⟨_, ho, rfl⟩, call_meets F.slot_list_mul ⟨_, ho, rfl⟩ F.entry_list_mul (F.args_list_mul_2 _ _)
          (lm_list_mul_any l' vs.toArray k' d sl k u (by simp [Builtin.List.listFitsIndex]; omega) (by omega) (by simp [Builtin.List.listTooLong, sizeLine]; omega))
          ⟨ho, ?_⟩⟩)
    rw [listMul_foldl_if]
    refine ⟨(p₁.1.trans p₂.1).trans (Grow.push _ _ _ _), p₂.2.1.push _, _, (List.replicate k.toNat vs).flatten, rfl, ?_, ⟨_, Heap.get?_push_size _ rfl⟩, KM.ints_rep i1 _⟩
    exact (p₁.1.trans p₂.1).none x (get?_size _) p₂.2.1) fun _ _ f => f) fun _ _ f => f)

/-- an item -/
theorem Ev.item {v i : Expr} {pos : Pos} {xs : List Int} {k n : Int} (hv : Ev c env Γ μ q v (.lst xs)) (hi : Ev c env Γ μ q i (.int k)) (h0 : 0 ≤ k) (hk : k < 2 ^ 62) (hx : xs[k.toNat]? = some n)
    (hs : ∀ o j, subscripted i false o j = operate [o, j] (getItem o j) := by intro _ _; rfl) : Ev c env Γ μ q (.Subscript v i pos) (.int n) := fun s x =>
  Subscript_ (wpAny_mono (hv s x) (fun va s₁ p₁ => wpAny_mono (hi s₁ (x.grow p₁.1 p₁.2.1)) (fun vb s₂ p₂ => by
    obtain ⟨a, vs, rfl, ha, h1, i1⟩ := (x.grow p₁.1 p₁.2.1).still p₂.1 p₁.2.2
    obtain ⟨u, rfl⟩ := p₂.2.2
    obtain ⟨t, ht⟩ := i1.get k.toNat n hx
    exact tail_any h1.typeIs slot_list_getitem.lookup (wpAny_getItem_list h1 h0 (by omega) (x := .int n t) (by simpa using ht) ⟨p₁.1.trans p₂.1, p₂.2.1, _, rfl⟩) (hs _ _)) fun _ _ f => f) fun _ _ f => f)

/-- a part of a slice: nothing, or an int -/
def EvP (c : Cx) (env : Env) (Γ : Vars) (μ : Muts) (q : Bool) : Option Expr → Option Int → Prop
  | none, k => k = none
  | some e, some k => Ev c env Γ μ q e (.int k)
  | some _, none => False

theorem EvP.wp {e : Option Expr} {k : Option Int} (h : EvP c env Γ μ q e k) (s : Shared) (x : St c env Γ μ s) :
    wpAny (model c.G.prog c.G.w) c.A (evalPart e env) (fun v s' => Grow (c.G.may q) s s' ∧ TI c.G s'.heap ∧ IsPart v k) (fun _ _ => False) s := by
  cases e with
  | none => cases (h : k = none); exact wpAny_pure ⟨Grow.refl _ _, x.ti, .none⟩
  | some e =>
    cases k with
    | none => exact h.elim
    | some k => exact wpAny_mono (h s x) (fun v s' p => by obtain ⟨t, rfl⟩ := p.2.2; exact ⟨p.1, p.2.1, .int _ _⟩) fun _ _ f => f

theorem EvN.slice {v : Expr} {lo hi st : Option Expr} {sp pos : Pos} {xs : List Int} {kl kh ks : Option Int} (hv : Ev c env Γ μ q v (.lst xs)) (hl : EvP c env Γ μ q lo kl) (hh : EvP c env Γ μ q hi kh) (hs : EvP c env Γ μ q st ks)
    (h0 : ks ≠ some 0) (hsz : xs.length ≤ 100000) : EvN c env Γ μ q (.Subscript v (.Slice lo hi st sp) pos) (pickNums xs kl kh ks) := fun s x =>
  Subscript_ (wpAny_mono (hv s x) (fun va s₁ p₁ => wpAny_Slice (wpAny_mono (hl.wp s₁ (x.grow p₁.1 p₁.2.1)) (fun vl s₂ p₂ => wpAny_mono (hh.wp s₂ ((x.grow p₁.1 p₁.2.1).grow p₂.1 p₂.2.1)) (fun vh s₃ p₃ =>
    wpAny_mono (hs.wp s₃ (((x.grow p₁.1 p₁.2.1).grow p₂.1 p₂.2.1).grow p₃.1 p₃.2.1)) (fun vk s₄ p₄ => by
      have g := ((p₂.1.trans p₃.1).trans p₄.1).trans (Grow.push (c.G.may q) s₄ { cls := .type "slice", data := .fields #[vl, vh, vk] } s₄.toks)
      obtain ⟨a, vs, rfl, ha, h1, i1⟩ := (x.grow p₁.1 p₁.2.1).still g p₁.2.2
      have e1 := i1.length
      have hsub : ∃ ops, subscripted (.Slice lo hi st sp) false (.ref a) (.ref s₄.heap.objs.size) = operate ops (getItem (.ref a) (.ref s₄.heap.objs.size)) := by
        cases st with
        | none => exact ⟨_, rfl⟩
        | some e => exact ⟨_, rfl⟩
      obtain ⟨ops, hsub⟩ := hsub
      refine tail_any (Heap.IsList.typeIs (s := { s₄ with heap := _ }) h1) slot_list_getitem.lookup (wpAny_getItem_list_slice h1 (Heap.IsSliceOf.new ..) p₂.2.2 p₃.2.2 p₄.2.2 h0 ?_ (by simp only [List.size_toArray]; unfold sizeLine; omega)) hsub
      refine ⟨(p₁.1.trans g).trans (Grow.push _ _ _ _), (p₄.2.1.push _).push _, _, (slicePick vs.toArray kl kh ks).toList, rfl, ?_, ⟨0, ?_⟩, i1.pick kl kh ks⟩
      · exact Grow.none x (p₁.1.trans g) (get?_size _) (p₄.2.1.push _)
      · rw [Heap.get?_push_size _ rfl]) fun _ _ f => f) fun _ _ f => f) fun _ _ f => f)) fun _ _ f => f)
end

/-! what a loop runs over -/
def rngInts (a b d : Int) : List Int := (List.range (Builtin.Range.rangeSize a b d).toNat).map fun i : Nat => a + (i : Int) * d
inductive AV.Items : AV → List Int → Prop
  | lst (xs : List Int) : AV.Items (.lst xs) xs
  | rng (a b d : Int) : Builtin.Range.small a b d = true → AV.Items (.rng a b d) (rngInts a b d)

theorem Walks.sharp {prog : Program} {w : World} {A : Around} {I : Addr} {fp wr : List Addr} {n : Nat} {P : Nat → Value → Prop} {S : Nat → Heap → Prop} (W : Walks prog w A I fp wr n P S) : Walks prog w A I fp wr n (fun i v => i < n ∧ P i v) S where
  sub := W.sub
  frame := W.frame
  item := fun i s Q E hi st hQ => W.item i s Q E hi st fun v h' tk hp => hQ v h' tk ⟨hi, hp⟩
  done := W.done
  self := W.self

theorem rangeSize_nonneg (a b d : Int) : 0 ≤ Builtin.Range.rangeSize a b d := by
  unfold Builtin.Range.rangeSize
  split
  · split
    · have := Int.ediv_nonneg (a := b - a - 1) (b := d) (by omega) (by omega); omega
    · omega
  · split
    · have := Int.ediv_nonneg (a := a - b - 1) (b := -d) (by omega) (by omega); omega
    · omega

/-- an iterator's object -/
def IterObj (o : Obj) : Prop := (o.cls = .type "list_iterator" ∨ o.cls = .type "range_iterator" ∨ o.cls = .type "list_reverseiterator") ∧ ∃ vs, o.data = .fields vs ∧ ∀ x t, vs[1]? ≠ some (.str x t)

theorem iter_ints {prog : Program} {w : World} {A : Around} {s : Shared} {ok : Addr → Prop} {src : AV} {xv : Value} {ns : List Int} {Q : Value → Shared → Prop} {E : Value → Shared → Prop}
    (hh : A.handled = none) (hv : src.is ok s.heap xv) (hi : src.Items ns)
    (hQ : ∀ I fp P S h', s.heap.get? I = none → Walks prog w A I fp [I] ns.length P S → S 0 h' → (∀ b ∈ fp, b < h'.objs.size) → (∀ b ∈ fp, b = I ∨ ok b ∧ ∃ o n its, s.heap.get? b = some o ∧ o.data = .seq its n) →
      (∀ i v, P i v → ∃ t n, ns[i]? = some n ∧ v = .int n t) → (∀ b o, s.heap.get? b = some o → h'.get? b = some o) → (∀ i h, S i h → ∃ o, h.get? I = some o ∧ IterObj o) → Q (.ref I) { s with heap := h' }) :
    wpAny (model prog w) A (pyIter xv) Q E s := by
  cases hi with
  | lst xs =>
    obtain ⟨a, vs, rfl, ha, hl, hi⟩ := hv
    obtain ⟨o, ho, _, k, hd⟩ := id hl
    refine wpAny_pyIter_list hl ?_
    have hne : a ≠ s.heap.objs.size := Nat.ne_of_lt (Heap.lt_size ho)
    have W := Walks.list (prog := prog) (w := w) hh s.heap.objs.size a hne vs.toArray
    have hlen : vs.toArray.size = ns.length := by simp [hi.length]
    rw [hlen] at W
    refine hQ _ _ _ _ _ (get?_size _) W ⟨⟨_, Heap.get?_push_size _ rfl, rfl, rfl⟩, hl.push _⟩ ?_ ?_ ?_ (fun b o e => Heap.get?_push_of_some _ e) (fun i h hS => by
      obtain ⟨o, ho, hc, hd⟩ := hS.1
      exact ⟨o, ho, .inl hc, _, hd, by intro x t; simp⟩)
    · intro b hb
      rw [Heap.size_push]
      rcases List.mem_cons.mp hb with rfl | hb
      · exact Nat.lt_succ_self _
      · rw [List.mem_singleton.mp hb]; exact Nat.lt_succ_of_lt (Heap.lt_size ho)
    · intro b hb
      rcases List.mem_cons.mp hb with rfl | hb
      · exact .inl rfl
      · rw [List.mem_singleton.mp hb]; exact .inr ⟨ha, o, k, _, ho, hd⟩
    · intro i v hp
      have hp' : vs[i]? = some v := by simpa using hp
      obtain ⟨n, t, e, hn⟩ := hi.at i v hp'
      exact ⟨t, n, hn, e⟩
  | rng a b d hsm =>
    obtain ⟨r, t, u, v, rfl, hr, hR⟩ := hv
    have hn0 := rangeSize_nonneg a b d
    refine wpAny_pyIter_range hR hsm ?_
    have W := Walks.range (prog := prog) (w := w) hh s.heap.objs.size a d (Builtin.Range.rangeSize a b d).toNat
    replace W := Mine.Walks.sharp W
    have hlen : (rngInts a b d).length = (Builtin.Range.rangeSize a b d).toNat := by simp [rngInts]
    rw [← hlen] at W
    refine hQ _ _ _ _ _ (get?_size _) W ?_ ?_ ?_ ?_ (fun b o e => Heap.get?_push_of_some _ e) (fun i h hS => ⟨_, hS, .inr (.inl rfl), _, rfl, by intro x t; simp [rawInt]⟩)
    · show IsRangeIter _ _ _ _ _
      have e1 : a + ((0 : Nat) : Int) * d = a := by simp
      have e2 : ((rngInts a b d).length : Int) - ((0 : Nat) : Int) = Builtin.Range.rangeSize a b d := by rw [hlen]; omega
      rw [e1, e2]
      exact Heap.get?_push_size _ rfl
    · intro x hx
      rw [List.mem_singleton.mp hx, Heap.size_push]; exact Nat.lt_succ_self _
    · intro x hx; exact .inl (List.mem_singleton.mp hx)
    · rintro i x ⟨hlt, t, rfl⟩
      refine ⟨t, a + i * d, ?_, rfl⟩
      rw [hlen] at hlt
      simp [rngInts, hlt]
end Mine
open PySem PySem.W PyProof.Rows
set_option maxRecDepth 100000
set_option linter.unusedVariables false
namespace Mine

/-! comprehensions -/
def clOf (cells : List (Str × Addr)) : List (Str × NameKind) → List (Str × Addr) → List (Str × Addr)
  | [], acc => acc
  | (y, k) :: r, acc => if k == .free then (match cells.lookup y with | some a => clOf cells r ((y, a) :: acc) | none => clOf cells r acc) else clOf cells r acc

theorem clOf_mem {cells : List (Str × Addr)} : ∀ {names : List (Str × NameKind)} {acc : List (Str × Addr)} {y : Str} {a : Addr}, (y, a) ∈ clOf cells names acc → (y, a) ∈ acc ∨ cells.lookup y = some a
  | [], _, _, _, h => .inl h
  | (z, k) :: r, acc, y, a, h => by
    unfold clOf at h
    split at h
    · split at h
      · rename_i a' e
        rcases clOf_mem h with h | h
        · rcases List.mem_cons.mp h with e' | h
          · cases e'; exact .inr e
          · exact .inl h
        · exact .inr h
      · exact clOf_mem h
    · exact clOf_mem h

theorem clOf_lookup {cells : List (Str × Addr)} : ∀ {names : List (Str × NameKind)} {acc : List (Str × Addr)}, (∀ z a, acc.lookup z = some a → cells.lookup z = some a) →
    (∀ z a, (clOf cells names acc).lookup z = some a → cells.lookup z = some a) ∧ (∀ z, (acc.lookup z).isSome = true → ((clOf cells names acc).lookup z).isSome = true) ∧
    ∀ y, (y, NameKind.free) ∈ names → (cells.lookup y).isSome = true → ((clOf cells names acc).lookup y).isSome = true
  | [], acc, h => ⟨h, fun _ x => x, fun y hy => nomatch hy⟩
  | (z, k) :: r, acc, h => by
    unfold clOf
    split
    · rename_i hk
      split
      · rename_i a e
        have h' : ∀ z' a', ((z, a) :: acc).lookup z' = some a' → cells.lookup z' = some a' := fun z' a' e' => by
          rw [List.lookup_cons] at e'
          cases hz : z' == z with
          | true => rw [hz] at e'; cases e'; rw [beq_iff_eq.mp hz]; exact e
          | false => rw [hz] at e'; exact h z' a' e'
        obtain ⟨i1, i2, i3⟩ := clOf_lookup (names := r) h'
        refine ⟨i1, fun z' hz' => i2 z' ?_, fun y hy hs => ?_⟩
        · rw [List.lookup_cons]
          cases z' == z with
          | true => rfl
          | false => exact hz'
        · rcases List.mem_cons.mp hy with e' | hy
          · cases e'; exact i2 _ (by simp)
          · exact i3 y hy hs
      · rename_i e
        obtain ⟨i1, i2, i3⟩ := clOf_lookup (names := r) h
        refine ⟨i1, i2, fun y hy hs => ?_⟩
        rcases List.mem_cons.mp hy with e' | hy
        · cases e'; rw [e] at hs; cases hs
        · exact i3 y hy hs
    · rename_i hk
      obtain ⟨i1, i2, i3⟩ := clOf_lookup (names := r) h
      refine ⟨i1, i2, fun y hy hs => ?_⟩
      rcases List.mem_cons.mp hy with e' | hy
      · cases e'; exact absurd rfl hk
      · exact i3 y hy hs

theorem closureFor_eq {scope : Scope} {env : Env} (h : ∀ y ∈ scope.names, y.2 = .free → (env.cells.lookup y.1).isSome = true) : closureFor scope env = pure (clOf env.cells scope.names []) := by
  have key : ∀ (names : List (Str × NameKind)) (acc : List (Str × Addr)), (∀ y ∈ names, y.2 = .free → (env.cells.lookup y.1).isSome = true) →
      (forIn names acc fun (x : Str × NameKind) (r : List (Str × Addr)) => match x with
        | (name, kind) => if (kind == NameKind.free) = true then (do let a ← cellOf env name; pure (ForInStep.yield ((name, a) :: r))) else pure (ForInStep.yield r)) = (pure (clOf env.cells names acc) : Sem _) := by
    intro names
    induction names with
    | nil => intro acc _; rfl
    | cons x r ih =>
      intro acc hx
      obtain ⟨y, k⟩ := x
      have hr := fun acc => ih acc fun z hz => hx z (List.mem_cons_of_mem _ hz)
      rw [List.forIn_cons]
      unfold clOf
      by_cases hk : (k == NameKind.free) = true
      · have hs := hx (y, k) List.mem_cons_self (by simpa using hk)
        obtain ⟨a, e⟩ := Option.isSome_iff_exists.mp hs
        have e' : env.cells.lookup y = some a := e
        simp only [hk, if_true, cellOf, e', pure_bind]
        exact hr _
      · simp only [hk, Bool.false_eq_true, if_false, pure_bind]
        exact hr _
  unfold closureFor
  have := key scope.names [] h
  first
    | (rw [this]; rfl)
    | (simp only [] at this ⊢; rw [this]; rfl)
    | (erw [this]; rfl)

/-- the checks that a comprehension's scope stands -/
def compOk (env : Env) (Γ : Vars) (scope : Scope) (x : Str) : Bool :=
  scope.kind == .function && scope.names.lookup x == some .local &&
  scope.names.all fun y => y.2 != .cell && (y.2 != .local || (scope.names.lookup y.1 == some .local && (y.1 == x || (Γ.lookup y.1).isNone))) &&
    (y.2 != .free || ((env.kindOf y.1 == some .cell || env.kindOf y.1 == some .free) && (env.cells.lookup y.1).isSome))

structure CompOk (env : Env) (Γ : Vars) (scope : Scope) (x : Str) : Prop where
  kind : scope.kind = .function
  hx : scope.names.lookup x = some .local
  cell : ∀ y ∈ scope.names, y.2 ≠ .cell
  names : ∀ y ∈ scope.names, y.2 = .local → scope.names.lookup y.1 = some .local
  loc : ∀ y ∈ scope.names, y.2 = .local → y.1 = x ∨ Γ.lookup y.1 = none
  free : ∀ y ∈ scope.names, y.2 = .free → (env.kindOf y.1 = some .cell ∨ env.kindOf y.1 = some .free) ∧ (env.cells.lookup y.1).isSome = true

theorem CompOk.of {env : Env} {Γ : Vars} {scope : Scope} {x : Str} (h : compOk env Γ scope x = true) : CompOk env Γ scope x := by
  unfold compOk at h
  simp only [Bool.and_eq_true, beq_iff_eq, List.all_eq_true] at h
  obtain ⟨⟨h1, h2⟩, h3⟩ := h
  refine ⟨h1, h2, fun y hy e => ?_, fun y hy e => ?_, fun y hy e => ?_, fun y hy e => ?_⟩
  · have := (h3 y hy).1.1; rw [e] at this; exact absurd this (by decide)
  · have := (h3 y hy).1.2; rw [e] at this
    simp only [bne_self_eq_false, Bool.false_or, Bool.and_eq_true, beq_iff_eq, Bool.or_eq_true, Option.isNone_iff_eq_none] at this
    exact this.1
  · have := (h3 y hy).1.2; rw [e] at this
    simp only [bne_self_eq_false, Bool.false_or, Bool.and_eq_true, beq_iff_eq, Bool.or_eq_true, Option.isNone_iff_eq_none] at this
    exact this.2
  · have := (h3 y hy).2; rw [e] at this
    simp only [bne_self_eq_false, Bool.false_or, Bool.and_eq_true, beq_iff_eq, Bool.or_eq_true] at this
    exact this

section
variable {c : Cx} {env : Env} {Γ : Vars} {μ : Muts} {q : Bool}

abbrev cEnv (scope : Scope) (C : Addr) (env : Env) : Env := compEnvC scope (clOf env.cells scope.names []) C env

/-- inside a comprehension -/
theorem St.inside {scope : Scope} {x : Str} {s s₃ : Shared} {C : Addr} {m : Str → Option Value} {n : Int} {t : Tok} (hc : CompOk env Γ scope x) (st : St c env Γ μ s) (hC : s.heap.get? C = none) (hn : s₃.heap.Ns C m) (hm : m x = some (.int n t))
    (k : ∀ b o, s.heap.get? b = some o → s₃.heap.get? b = some o) : St c (cEnv scope C env) ((x, .int n) :: Γ) μ s₃ := by
  have hcl : ∀ y a, (y, a) ∈ clOf env.cells scope.names [] → env.cells.lookup y = some a := fun y a h => (clOf_mem h).elim (fun h => nomatch h) id
  have isl : ∀ (v : AV) (y : Value), v.is (c.ok μ) s.heap y → v.is (c.ok μ) s₃.heap y := fun v y H => H.mono (fun a o ha ho _ _ => ⟨ha, k a o ho⟩) fun b o _ e => k b o e
  have hok := st.fresh hC
  refine ⟨⟨st.good.room, st.good.gb, st.good.lim, st.good.sub, st.good.tbase, hc.kind, st.good.glob, st.good.bi, ?_, ?_, ?_⟩, st.ti.keeps fun b o _ e => k b o e, fun b o hb e => k b o (st.keep b o hb e), st.tbx, ⟨m, hn⟩, ?_, ?_, ?_, st.nodup⟩
  · show c.base.get? C = none
    cases e : c.base.get? C with
    | none => rfl
    | some o => have := st.keep C o hok.2.2 e; rw [hC] at this; cases this
  · intro y a h
    exact st.good.ctb y a (mem_of_lookup (hcl y a h))
  · intro y a h e
    obtain ⟨v, o, ho, _⟩ := st.cells y a (mem_of_lookup (hcl y a h))
    have e' : a = C := e
    rw [e', hC] at ho; cases ho
  · intro y a h
    obtain ⟨v, o, ho, hd⟩ := st.cells y a (mem_of_lookup (hcl y a h))
    exact ⟨v, o, k _ _ ho, hd⟩
  · intro y v hv
    rw [List.lookup_cons] at hv
    have hkx : (cEnv scope C env).kindOf x = some .local := lookup_relabel_local hc.hx
    cases hy : y == x with
    | true =>
      rw [hy] at hv; cases hv
      have hy' := beq_iff_eq.mp hy
      subst hy'
      refine ⟨fun _ => ⟨m, _, hn, hm, t, rfl⟩, fun h => ?_⟩
      rw [hkx] at h
      rcases h with h | h <;> cases h
    | false =>
      rw [hy] at hv
      replace hv : Γ.lookup y = some v := hv
      have hne : y ≠ x := fun e => by rw [e] at hy; simp at hy
      have hmem : ∀ kd, (cEnv scope C env).kindOf y = some kd → ∃ k₀, (y, k₀) ∈ scope.names ∧ kd = (if (k₀ == .free && env.scope.kind == .function && env.kindOf y == some .cell) then .cell else k₀) := fun kd h => by
        have h1 := mem_of_lookup h
        obtain ⟨⟨n₀, k₀⟩, h2, h3⟩ := List.mem_map.mp h1
        dsimp only at h3
        by_cases hb : (k₀ == .free && env.scope.kind == .function && env.kindOf n₀ == some .cell) = true
        · rw [if_pos hb] at h3
          obtain ⟨rfl, rfl⟩ := Prod.mk.inj h3
          exact ⟨k₀, h2, by rw [if_pos hb]⟩
        · rw [if_neg hb] at h3
          obtain ⟨rfl, rfl⟩ := Prod.mk.inj h3
          exact ⟨k₀, h2, by rw [if_neg hb]⟩
      refine ⟨fun h => ?_, fun h => ?_⟩
      · obtain ⟨k₀, h1, h2⟩ := hmem _ h
        have hk0 : k₀ = .local := by
          by_cases hb : (k₀ == .free && env.scope.kind == .function && env.kindOf y == some .cell) = true
          · rw [if_pos hb] at h2; cases h2
          · rw [if_neg hb] at h2; exact h2.symm
        subst hk0
        rcases hc.loc _ h1 rfl with h3 | h3
        · exact absurd h3 hne
        · replace h3 : Γ.lookup y = none := h3
          rw [hv] at h3; cases h3
      · have hfr : (y, NameKind.free) ∈ scope.names := by
          rcases h with h | h
          · obtain ⟨k₀, h1, h2⟩ := hmem _ h
            by_cases hb : (k₀ == .free && env.scope.kind == .function && env.kindOf y == some .cell) = true
            · simp only [Bool.and_eq_true, beq_iff_eq] at hb
              rw [hb.1.1] at h1; exact h1
            · rw [if_neg hb] at h2; subst h2; exact absurd rfl (hc.cell _ h1)
          · obtain ⟨k₀, h1, h2⟩ := hmem _ h
            by_cases hb : (k₀ == .free && env.scope.kind == .function && env.kindOf y == some .cell) = true
            · rw [if_pos hb] at h2; cases h2
            · rw [if_neg hb] at h2; subst h2; exact h1
        obtain ⟨h4, h5⟩ := hc.free _ hfr rfl
        obtain ⟨a, w, ha, ⟨o, ho, hd⟩, hp⟩ := (st.vars y v hv).2 h4
        obtain ⟨i1, i2, i3⟩ := clOf_lookup (cells := env.cells) (names := scope.names) (acc := []) (fun z a h => by cases h)
        obtain ⟨a', ha'⟩ := Option.isSome_iff_exists.mp (i3 y hfr h5)
        have := i1 y a' ha'
        rw [ha] at this; cases this
        exact ⟨a, w, ha', ⟨o, k _ _ ho, hd⟩, isl _ _ hp⟩
  · intro a pl xs ha
    obtain ⟨⟨vs, ⟨o, ho, r⟩, hp, hi⟩, h2, h3⟩ := st.muts a pl xs ha
    exact ⟨⟨vs, ⟨o, k _ _ ho, r⟩, fun e => (hp e).at fun o' e' => k _ _ e', hi⟩, h2, h3⟩

def EltF (f : Int → Int) (v y : Value) : Prop := ∃ n t t', v = .int n t ∧ y = .int (f n) t'

theorem ints_of_items : ∀ {vs : List Value} {ns : List Int}, vs.length = ns.length → (∀ (j : Nat) (v : Value), vs[j]? = some v → ∃ t n, ns[j]? = some n ∧ v = Value.int n t) → IntsAre vs ns
  | [], [], _, _ => .nil
  | v :: r, n :: ns, h, hp => by
    obtain ⟨t, n', e, rfl⟩ := hp 0 v rfl
    cases e
    exact .cons _ t (ints_of_items (by simpa using h) fun j v hj => hp (j + 1) v (by simpa using hj))
  | [], _ :: _, h, _ => by cases h
  | _ :: _, [], h, _ => by cases h

theorem ints_of_paired {f : Int → Int} : ∀ {vs : List Value} {ns : List Int} {ys : List Value}, IntsAre vs ns → Paired (EltF f) vs ys → IntsAre ys (ns.map f)
  | _, _, _, .nil, .nil => .nil
  | _, _, _, .cons n t h, .cons hf hp => by
    obtain ⟨n', t', t'', e, rfl⟩ := hf
    cases e
    exact .cons _ _ (ints_of_paired h hp)

theorem quiet_of {scope : Scope} {x : Str} {elt : Expr} {ns : List Int} {f : Int → Int} {s s₂ : Shared} {I : Addr} {P : Nat → Value → Prop} (hc : CompOk env Γ scope x) (st : St c env Γ μ s)
    (helt : ∀ C n, n ∈ ns → Ev c (cEnv scope C env) ((x, .int n) :: Γ) μ true elt (.int (f n)))
    (hI : s.heap.get? I = none) (hP : ∀ (i : Nat) (v : Value), P i v → ∃ t n, ns[i]? = some n ∧ v = Value.int n t) (k : ∀ b o, s.heap.get? b = some o → s₂.heap.get? b = some o) :
    QuietOnC c.G.prog c.G.w c.A env scope (clOf env.cells scope.names []) x [] elt [I] P (fun _ => true) (EltF f) s₂ where
  tests := fun C i v s₃ m₃ E' hC hv hn hm hk ht => by
    simp only [List.forIn_nil]
    exact wpAny_pure ⟨rfl, s₃.heap, s₃.toks, rfl, fun _ _ e => e⟩
  elt := fun C i v s₃ m₃ E' hC hv hp hn hm hk ht => by
    obtain ⟨t, n, hn', rfl⟩ := hP i v hv
    have hC' : s.heap.get? C = none := by
      cases e : s.heap.get? C with
      | none => rfl
      | some o => exact absurd (Heap.lt_size (k C o e)) (Nat.not_lt.mpr hC)
    have st' := st.inside hc hC' hn hm (s₃ := s₃) fun b o e => hk b o (fun hb => by rw [List.mem_singleton.mp hb, hI] at e; cases e) (k b o e)
    refine wpAny_mono (helt C n (List.mem_of_getElem? hn') s₃ st') (fun y s₄ p => ?_) fun _ _ f => f.elim
    obtain ⟨t', rfl⟩ := p.2.2
    exact ⟨⟨n, t, t', rfl, rfl⟩, Grow.keeps p.1⟩

theorem EvN.comp {elt iter : Expr} {x : Str} {px pos : Pos} {scope : Scope} {src : AV} {ns : List Int} {f : Int → Int} (hi : Ev c env Γ μ q iter src) (hit : src.Items ns)
    (helt : ∀ C n, n ∈ ns → Ev c (cEnv scope C env) ((x, .int n) :: Γ) μ true elt (.int (f n))) (hsz : ns.length ≤ 100000)
    (hc : compOk env Γ scope x = true := by rfl) (hs : ∀ v, foldedSetIterable iter env v = pure v := by intro _; rfl) :
    EvN c env Γ μ q (.ListComp elt [⟨.Name x px, iter, [], 0⟩] scope pos) (ns.map f) := fun s st => by
  have hc' := CompOk.of hc
  refine wpAny_ListComp_free (fun _ => true) (EltF f) (closureFor_eq fun y hy e => (hc'.free y hy e).2) hc'.cell hc'.kind hc'.names hc'.hx (wpAny_mono (hi s st) (fun xv s₁ p => ?_) fun _ _ f => f) hs
  have st₁ := st.grow p.1 p.2.1
  refine iter_ints st.good.room.handled p.2.2 hit fun I fp P S h' hI W hS hfp hok hP k hob => ?_
  refine ⟨I, fp, [I], ns.length, P, S, rfl, W, by unfold sizeLine; omega, hS, hfp, quiet_of hc' st₁ helt hI hP k, ?_⟩
  intro D h'' tk ys vs hD hl hpl hlen hPv hF hk
  have hv : vs.filter (fun _ => true) = vs := by simp
  rw [hv] at hF
  have hkk : ∀ b o, s₁.heap.get? b = some o → h''.get? b = some o := fun b o e => hk b o (fun hb => by rw [List.mem_singleton.mp hb, hI] at e; cases e) (k b o e)
  have hD₁ : s₁.heap.get? D = none := by
    cases e : s₁.heap.get? D with
    | none => rfl
    | some o => have := k D o e; rw [hD] at this; cases this
  refine ⟨p.1.trans ⟨h'', tk, rfl, fun b o _ e => hkk b o e⟩, p.2.1.keeps fun b o _ e => hkk b o e, D, ys.toList, rfl, Grow.none st p.1 hD₁ p.2.1, by simpa using hpl, ?_⟩
  exact ints_of_paired (ints_of_items hlen fun j v hj => hP j v (hPv j v hj)) hF
end
end Mine
open PySem PySem.W PyProof.Rows
set_option maxRecDepth 100000
set_option linter.unusedVariables false
namespace Mine

/-! statements -/
inductive AFlow where
  | next | brk | cont
  | ret (v : AV)

def AFlow.is (ok : Addr → Prop) (h : Heap) : AFlow → Flow → Prop
  | .next, f => f = .next
  | .brk, f => f = .brk
  | .cont, f => f = .cont
  | .ret v, f => ∃ v', f = .ret v' ∧ v.is ok h v'

def Same (s s' : Shared) : Prop := ∃ h tk, s' = { s with heap := h, toks := tk }
theorem Same.refl (s : Shared) : Same s s := ⟨s.heap, s.toks, rfl⟩
theorem Same.trans {s₁ s₂ s₃ : Shared} (a : Same s₁ s₂) (b : Same s₂ s₃) : Same s₁ s₃ := by
  obtain ⟨h, t, rfl⟩ := a; obtain ⟨h', t', rfl⟩ := b; exact ⟨h', t', rfl⟩
theorem Grow.same {tb : List Addr} {s s' : Shared} (g : Grow tb s s') : Same s s' := by obtain ⟨h, t, e, _⟩ := g; exact ⟨h, t, e⟩

/-- how far a run has gone: what is no name, no cell and no list of the frame's own stands as it stood -/
structure Went (c : Cx) (env : Env) (μ μ' : Muts) (s s' : Shared) : Prop where
  same : Same s s'
  kept : ∀ b o, b ∉ c.tb → b ≠ env.locals → (∀ x, (x, b) ∉ env.cells) → b ∉ μ.map (·.1) → s.heap.get? b = some o → s'.heap.get? b = some o
  mu : ∀ a ∈ μ'.map (·.1), a ∈ μ.map (·.1) ∨ s.heap.get? a = none
  ex : ∀ b o, s.heap.get? b = some o → ∃ o', s'.heap.get? b = some o'

theorem Went.refl (c : Cx) (env : Env) (μ : Muts) (s : Shared) : Went c env μ μ s s := ⟨Same.refl _, fun _ _ _ _ _ _ e => e, fun _ h => .inl h, fun _ o e => ⟨o, e⟩⟩
theorem Went.trans {c : Cx} {env : Env} {μ μ₁ μ₂ : Muts} {s s₁ s₂ : Shared} (a : Went c env μ μ₁ s s₁) (b : Went c env μ₁ μ₂ s₁ s₂) : Went c env μ μ₂ s s₂ := by
  refine ⟨a.same.trans b.same, fun x o h1 h2 h3 h4 e => b.kept x o h1 h2 h3 (fun hm => ?_) (a.kept x o h1 h2 h3 h4 e), fun x hx => ?_, fun x o e => ?_⟩
  · rcases a.mu x hm with h | h
    · exact h4 h
    · rw [h] at e; cases e
  · rcases b.mu x hx with h | h
    · exact a.mu x h
    · refine .inr ?_
      cases e : s.heap.get? x with
      | none => rfl
      | some o =>
        obtain ⟨o', e'⟩ := a.ex x o e
        rw [h] at e'; cases e'
  · obtain ⟨o', e'⟩ := a.ex x o e
    exact b.ex x o' e'
theorem Went.grow {c : Cx} {env : Env} {Γ : Vars} {μ : Muts} {s s' : Shared} {q : Bool} (x : St c env Γ μ s) (g : Grow (c.G.may q) s s') (t : TI c.G s'.heap) : Went c env μ μ s s' := by
  have sub : ∀ b, b ∉ c.tb → b ∉ c.G.may q := fun b hb hm => by
    cases q with
    | true => simp [Pg.may] at hm
    | false => exact hb (x.good.sub b hm)
  refine ⟨g.same, fun b o h1 _ _ _ e => g.at (sub b h1) e, fun _ h => .inl h, fun b o e => ?_⟩
  by_cases hb : b ∈ c.G.may q
  · cases q with
    | true => simp [Pg.may] at hb
    | false => obtain ⟨ps, e'⟩ := t.isTab hb; exact ⟨_, e'⟩
  · exact ⟨o, g.at hb e⟩

def ExPost (c : Cx) (env : Env) (μ : Muts) (Q : AFlow → Vars → Muts → Prop) (s : Shared) (f : Flow) (s' : Shared) : Prop :=
  ∃ af Γ' μ', Went c env μ μ' s s' ∧ St c env Γ' μ' s' ∧ af.is (c.ok μ') s'.heap f ∧ Q af Γ' μ'

def Ex (c : Cx) (env : Env) (Γ : Vars) (μ : Muts) (t : Sem Flow) (Q : AFlow → Vars → Muts → Prop) : Prop :=
  ∀ s, St c env Γ μ s → wpAny (model c.G.prog c.G.w) c.A t (ExPost c env μ Q s) (fun _ _ => False) s

theorem ExPost.later {c : Cx} {env : Env} {μ μ₁ : Muts} {Q : AFlow → Vars → Muts → Prop} {s s₁ : Shared} {f : Flow} {s' : Shared} (g : Went c env μ μ₁ s s₁) (p : ExPost c env μ₁ Q s₁ f s') : ExPost c env μ Q s f s' := by
  obtain ⟨af, Γ', μ', h1, h2, h3, h4⟩ := p
  exact ⟨af, Γ', μ', g.trans h1, h2, h3, h4⟩

/-- own cells: of this very frame -/
structure Own (c : Cx) (env : Env) : Prop where
  new : ∀ x a, (x, a) ∈ env.cells → c.base.get? a = none
  apart : env.cells.Pairwise fun x y => x.2 ≠ y.2

section
variable {c : Cx} {env : Env} {Γ Γ' : Vars} {μ μ' : Muts} {q : Bool} {Q : AFlow → Vars → Muts → Prop} {s : Shared}

def Soft (o : Obj) : Prop := (∃ es n, o.data = .dict es n) ∨ ∃ v, o.data = .cell v

theorem St.change (x : St c env Γ μ s) {h' : Heap} {tk : Nat} (k : ∀ b o, ¬ Soft o → s.heap.get? b = some o → h'.get? b = some o)
    (kb : ∀ b o, b ∉ c.tb → c.base.get? b = some o → h'.get? b = some o) (fr : ∃ ρ, h'.Ns env.locals ρ) (ce : ∀ y a, (y, a) ∈ env.cells → ∃ v, h'.IsCell a v)
    (va : ∀ y v, Γ'.lookup y = some v → Rd env h' y (v.is (c.ok μ) h')) : St c env Γ' μ { s with heap := h', toks := tk } := by
  refine ⟨x.good, x.ti.keeps fun b o ⟨vs, hd⟩ e => k b o (fun hs => ?_) e, kb, x.tbx, fr, ce, va, ?_, x.nodup⟩
  · rcases hs with ⟨es, n, h⟩ | ⟨v, h⟩ <;> rw [hd] at h <;> cases h
  · intro a pl xs ha
    obtain ⟨⟨vs, ⟨o, ho, hc, n, hd⟩, hp, hi⟩, h2, h3⟩ := x.muts a pl xs ha
    have hns : ¬ Soft o := fun hs => by rcases hs with ⟨es, n, h⟩ | ⟨v, h⟩ <;> rw [hd] at h <;> cases h
    refine ⟨⟨vs, ⟨o, k _ _ hns ho, hc, n, hd⟩, fun e => ?_, hi⟩, h2, h3⟩
    obtain ⟨n', e'⟩ := hp e
    rw [ho] at e'
    cases e'
    exact ⟨_, k _ _ hns ho⟩

theorem AV.is.change {ok : Addr → Prop} {h h' : Heap} {v : AV} {x : Value} (H : v.is ok h x) (k : ∀ b o, ¬ Soft o → h.get? b = some o → h'.get? b = some o) : v.is ok h' x :=
  H.mono (fun a o ha ho h1 h2 => ⟨ha, k a o (fun hs => by rcases hs with ⟨es, n, h⟩ | ⟨v, h⟩; exact h1 _ _ h; exact h2 _ h) ho⟩) fun b o hh e => k b o (fun hs => by
    rcases hs with ⟨es, n, h⟩ | ⟨v, h⟩ <;> rcases hh with ⟨fd, h'⟩ | ⟨vs, y, t, h', _⟩ <;> rw [h] at h' <;> cases h') e

theorem St.storeL {y : Str} {v : AV} {v' : Value} {Q : Unit → Shared → Prop} {E : Value → Shared → Prop} (x : St c env Γ μ s) (hk : env.kindOf y = some .local) (hv : v.is (c.ok μ) s.heap v')
    (h : ∀ s', Went c env μ μ s s' → St c env ((y, v) :: Γ) μ s' → Q () s') : wpAny (model c.G.prog c.G.w) c.A (storeName env y v') Q E s := by
  obtain ⟨ρ, hρ⟩ := x.frame
  obtain ⟨oL, es, ep, hL, hd, _⟩ := id hρ
  refine wpAny_storeName_local hk hρ (fun h' hn hs => h _ ⟨⟨_, _, rfl⟩, fun b o _ h2 _ _ e => hs.extBut b o h2 e, fun _ h => .inl h, fun b o e => ?_⟩ ?_) (by rw [x.good.kind]; rfl)
  · by_cases hb : b = env.locals
    · obtain ⟨o', _, _, e', _⟩ := hn; exact ⟨o', by rw [hb]; exact e'⟩
    · exact ⟨o, hs.extBut b o hb e⟩
  have k : ∀ b o, ¬ Soft o → s.heap.get? b = some o → h'.get? b = some o := fun b o ns e => hs.extBut b o (fun q => by
    rw [q, hL] at e; cases e; exact ns (.inl ⟨es, ep, hd⟩)) e
  have kc : ∀ z a, (z, a) ∈ env.cells → ∀ w, s.heap.IsCell a w → h'.IsCell a w := fun z a ha w hw => hw.sameBut hs (x.good.cL z a ha)
  refine x.change k (fun b o hb e => hs.extBut b o (fun q => by rw [q, x.good.new] at e; cases e) (x.keep b o hb e)) ⟨_, hn⟩ (fun z a ha => ?_) ?_
  · obtain ⟨w, hw⟩ := x.cells z a ha
    exact ⟨w, kc z a ha w hw⟩
  · intro z w hz
    rw [List.lookup_cons] at hz
    cases hyz : z == y with
    | true =>
      rw [hyz] at hz; cases hz
      have hz' := beq_iff_eq.mp hyz
      subst hz'
      refine ⟨fun _ => ⟨_, v', hn, by simp, hv.change k⟩, fun h => ?_⟩
      rw [hk] at h; rcases h with h | h <;> cases h
    | false =>
      rw [hyz] at hz
      replace hz : Γ.lookup z = some w := hz
      have hne : z ≠ y := fun e => by rw [e] at hyz; simp at hyz
      obtain ⟨h1, h2⟩ := x.vars z w hz
      refine ⟨fun hk' => ?_, fun hk' => ?_⟩
      · obtain ⟨ρ', u, hρ', hu, hp⟩ := h1 hk'
        have e : ρ' z = ρ z := by
          obtain ⟨o1, es1, ep1, e1, d1, _, f1⟩ := hρ
          obtain ⟨o2, es2, ep2, e2, d2, _, f2⟩ := hρ'
          rw [e1] at e2; cases e2; rw [d1] at d2; cases d2
          rw [← f1, ← f2]
        exact ⟨_, u, hn, by simp only [hne, if_false]; rw [← e]; exact hu, hp.change k⟩
      · obtain ⟨a, u, ha, hc, hp⟩ := h2 hk'
        exact ⟨a, u, ha, kc z a (mem_of_lookup ha) _ hc, hp.change k⟩

theorem apart_of_lookup {cs : List (Str × Addr)} (hp : cs.Pairwise fun x y => x.2 ≠ y.2) {y z : Str} {a : Addr} (h1 : cs.lookup y = some a) (h2 : cs.lookup z = some a) : y = z :=
  name_of_addr hp (mem_of_lookup h1) (mem_of_lookup h2)

theorem St.storeC {y : Str} {v : AV} {v' : Value} {Q : Unit → Shared → Prop} {E : Value → Shared → Prop} {ca : Addr} (x : St c env Γ μ s) (O : Own c env) (hk : env.kindOf y = some .cell) (hc : env.cells.lookup y = some ca) (hv : v.is (c.ok μ) s.heap v')
    (h : ∀ s', Went c env μ μ s s' → St c env ((y, v) :: Γ) μ s' → Q () s') : wpAny (model c.G.prog c.G.w) c.A (storeName env y v') Q E s := by
  obtain ⟨w₀, hw₀⟩ := x.cells y ca (mem_of_lookup hc)
  refine wpAny_storeName_cell x.good.kind hk hc hw₀ fun h' hcell hs => h _ ⟨⟨_, _, rfl⟩, fun b o _ _ h3 _ e => hs.extBut b o (fun q => h3 y (q ▸ mem_of_lookup hc)) e, fun _ h => .inl h, fun b o e => ?_⟩ ?_
  · by_cases hb : b = ca
    · obtain ⟨o', e', _⟩ := hcell; exact ⟨o', by rw [hb]; exact e'⟩
    · exact ⟨o, hs.extBut b o hb e⟩
  obtain ⟨oc, ho, hd⟩ := id hw₀
  have k : ∀ b o, ¬ Soft o → s.heap.get? b = some o → h'.get? b = some o := fun b o ns e => hs.extBut b o (fun q => by
    rw [q, ho] at e; cases e; exact ns (.inr ⟨_, hd⟩)) e
  have hnew := O.new y ca (mem_of_lookup hc)
  have hL : env.locals ≠ ca := (x.good.cL y ca (mem_of_lookup hc)).symm
  refine x.change k (fun b o hb e => hs.extBut b o (fun q => by rw [q, hnew] at e; cases e) (x.keep b o hb e)) (by obtain ⟨ρ, hρ⟩ := x.frame; exact ⟨ρ, hρ.sameBut hs hL⟩) (fun z a ha => ?_) ?_
  · by_cases e : a = ca
    · subst e; exact ⟨_, hcell⟩
    · obtain ⟨w, hw⟩ := x.cells z a ha
      exact ⟨w, hw.sameBut hs e⟩
  · intro z w hz
    rw [List.lookup_cons] at hz
    cases hyz : z == y with
    | true =>
      rw [hyz] at hz; cases hz
      have hz' := beq_iff_eq.mp hyz
      subst hz'
      refine ⟨fun h => ?_, fun _ => ⟨ca, v', hc, hcell, hv.change k⟩⟩
      rw [hk] at h; cases h
    | false =>
      rw [hyz] at hz
      replace hz : Γ.lookup z = some w := hz
      have hne : z ≠ y := fun e => by rw [e] at hyz; simp at hyz
      obtain ⟨h1, h2⟩ := x.vars z w hz
      refine ⟨fun hk' => ?_, fun hk' => ?_⟩
      · obtain ⟨ρ', u, hρ', hu, hp⟩ := h1 hk'
        exact ⟨ρ', u, hρ'.sameBut hs hL, hu, hp.change k⟩
      · obtain ⟨a, u, ha, hc', hp⟩ := h2 hk'
        exact ⟨a, u, ha, hc'.sameBut hs (fun e => hne (apart_of_lookup O.apart (e ▸ ha) hc)), hp.change k⟩

/-- a name of the frame may be stored: a local, or an own cell -/
def Can (c : Cx) (env : Env) (y : Str) : Prop := env.kindOf y = some .local ∨ (Own c env ∧ env.kindOf y = some .cell ∧ (env.cells.lookup y).isSome = true)

theorem St.store {y : Str} {v : AV} {v' : Value} {Q : Unit → Shared → Prop} {E : Value → Shared → Prop} (x : St c env Γ μ s) (hk : Can c env y) (hv : v.is (c.ok μ) s.heap v')
    (h : ∀ s', Went c env μ μ s s' → St c env ((y, v) :: Γ) μ s' → Q () s') : wpAny (model c.G.prog c.G.w) c.A (storeName env y v') Q E s := by
  rcases hk with hk | ⟨O, hk, hc⟩
  · exact x.storeL hk hv h
  · obtain ⟨ca, hc⟩ := Option.isSome_iff_exists.mp hc
    exact x.storeC O hk hc hv h

theorem Ex.nil (h : Q .next Γ μ) : Ex c env Γ μ (execs [] env) Q := fun s x => wpAny_execs_nil ⟨.next, Γ, μ, Went.refl _ _ _ _, x, rfl, h⟩

/-- one statement that goes on, then the rest -/
theorem Ex.step {st : Stmt} {rest : List Stmt} (h : Ex c env Γ μ (exec st env) (fun f Γ' μ' => match f with | .next => Ex c env Γ' μ' (execs rest env) Q | f => Q f Γ' μ')) : Ex c env Γ μ (execs (st :: rest) env) Q := fun s x =>
  wpAny_execs_cons (wpAny_mono (h s x) (fun f s' p => by
    obtain ⟨af, Γ', μ', h1, h2, h3, h4⟩ := p
    cases af with
    | next => obtain rfl : f = .next := h3; exact wpAny_mono (h4 s' h2) (fun _ _ r => r.later h1) fun _ _ f => f
    | brk => obtain rfl : f = .brk := h3; exact ⟨.brk, Γ', μ', h1, h2, rfl, h4⟩
    | cont => obtain rfl : f = .cont := h3; exact ⟨.cont, Γ', μ', h1, h2, rfl, h4⟩
    | ret v => obtain ⟨v', rfl, hv⟩ := h3; exact ⟨.ret v, Γ', μ', h1, h2, ⟨v', rfl, hv⟩, h4⟩) fun _ _ f => f)

theorem Ex.assign {y : Str} {py pos : Pos} {value : Expr} {rest : List Stmt} {v : AV} (hv : Ev c env Γ μ q value v) (hk : Can c env y) (h : Ex c env ((y, v) :: Γ) μ (execs rest env) Q)
    (hs : swapsWith value (some (.Name y py)) pos.line env = pure false := by rfl) : Ex c env Γ μ (execs (.Assign [.Name y py] value pos :: rest) env) Q :=
  Ex.step fun s x => wpAny_Assign_Name (wpAny_mono (hv s x) (fun v' s₁ p => (x.grow p.1 p.2.1).store hk p.2.2 fun s' g st => ⟨.next, _, μ, (Went.grow x p.1 p.2.1).trans g, st, rfl, h⟩) fun _ _ f => f) hs

theorem Ex.assignL {y : Str} {py pos : Pos} {value : Expr} {rest : List Stmt} {v : AV} (hv : Ev c env Γ μ q value v) (h : Ex c env ((y, v) :: Γ) μ (execs rest env) Q)
    (hk : env.kindOf y = some .local := by rfl) (hs : swapsWith value (some (.Name y py)) pos.line env = pure false := by rfl) : Ex c env Γ μ (execs (.Assign [.Name y py] value pos :: rest) env) Q :=
  Ex.assign hv (.inl hk) h hs
/-- x = [.. for ..], a local: the comprehension stores before its variables go -/
theorem Ex.assignComp {elt iter : Expr} {x y : Str} {px py pos spos : Pos} {scope : Scope} {src : AV} {ns : List Int} {f : Int → Int} {rest : List Stmt} (hi : Ev c env Γ μ q iter src) (hit : src.Items ns)
    (helt : ∀ C n, n ∈ ns → Ev c (cEnv scope C env) ((x, .int n) :: Γ) μ true elt (.int (f n))) (hsz : ns.length ≤ 100000) (h : Ex c env ((y, .lst (ns.map f)) :: Γ) μ (execs rest env) Q)
    (hsw : swapsWith (.ListComp elt [⟨.Name x px, iter, [], 0⟩] scope pos) (some (.Name y py)) spos.line env = pure true := by rfl) (hk : env.kindOf y = some .local := by rfl)
    (hc : compOk env Γ scope x = true := by rfl) (hs : ∀ v, foldedSetIterable iter env v = pure v := by intro _; rfl) :
    Ex c env Γ μ (execs (.Assign [.Name y py] (.ListComp elt [⟨.Name x px, iter, [], 0⟩] scope pos) spos :: rest) env) Q := Ex.step fun s st => by
  have hc' := CompOk.of hc
  refine wpAny_Assign_ListComp_free (fun _ => true) (EltF f) hsw (closureFor_eq fun y hy e => (hc'.free y hy e).2) hc'.cell hc'.kind hc'.names hc'.hx hk (by rw [st.good.kind]; rfl) (wpAny_mono (hi s st) (fun xv s₁ p => ?_) fun _ _ f => f) hs
  have st₁ := st.grow p.1 p.2.1
  refine iter_ints st.good.room.handled p.2.2 hit fun I fp P S h' hI W hS hfp hok hP k hob => ?_
  obtain ⟨ρ, hρ⟩ := st₁.frame
  have hLI : env.locals ≠ I := fun e => by
    obtain ⟨o, _, _, ho, _⟩ := hρ
    rw [e, hI] at ho; cases ho
  refine ⟨I, fp, [I], ns.length, P, S, ρ, rfl, W, by unfold sizeLine; omega, hS, hfp, by simpa using hLI, hρ.keeps k, quiet_of hc' st₁ helt hI hP k, ?_⟩
  intro D h'' tk ys vs hD hl hpl hlen hPv hF hns hk'
  have hv : vs.filter (fun _ => true) = vs := by simp
  rw [hv] at hF
  have hkk : ∀ b o, b ≠ env.locals → s₁.heap.get? b = some o → h''.get? b = some o := fun b o hb e => hk' b o hb (fun hb => by rw [List.mem_singleton.mp hb, hI] at e; cases e) (k b o e)
  have hD₁ : s₁.heap.get? D = none := by
    cases e : s₁.heap.get? D with
    | none => rfl
    | some o => have := k D o e; rw [hD] at this; cases this
  obtain ⟨oL, es, ep, hL, hd, _⟩ := id hρ
  have kh : ∀ b o, ¬ Soft o → s₁.heap.get? b = some o → h''.get? b = some o := fun b o ns e => hkk b o (fun q => by
    rw [q, hL] at e; cases e; exact ns (.inl ⟨es, ep, hd⟩)) e
  have kc : ∀ z a, (z, a) ∈ env.cells → ∀ w, s₁.heap.IsCell a w → h''.IsCell a w := fun z a ha w ⟨o, ho, hd⟩ => ⟨o, hkk a o (st₁.good.cL z a ha) ho, hd⟩
  have st₂ : St c env ((y, .lst (ns.map f)) :: Γ) μ { s₁ with heap := h'', toks := tk } := by
    refine st₁.change kh (fun b o hb e => hkk b o (fun q => by rw [q, st₁.good.new] at e; cases e) (st₁.keep b o hb e)) ⟨_, hns⟩ (fun z a ha => ?_) ?_
    · obtain ⟨w, hw⟩ := st₁.cells z a ha
      exact ⟨w, kc z a ha w hw⟩
    · intro z w hz
      rw [List.lookup_cons] at hz
      cases hyz : z == y with
      | true =>
        rw [hyz] at hz; cases hz
        have hz' := beq_iff_eq.mp hyz
        subst hz'
        refine ⟨fun _ => ⟨_, _, hns, by simp, D, ys.toList, rfl, st₁.fresh hD₁, by simpa using hl, ?_⟩, fun h => ?_⟩
        · exact ints_of_paired (ints_of_items hlen fun j v hj => hP j v (hPv j v hj)) hF
        · rw [hk] at h; rcases h with h | h <;> cases h
      | false =>
        rw [hyz] at hz
        replace hz : Γ.lookup z = some w := hz
        have hne : z ≠ y := fun e => by rw [e] at hyz; simp at hyz
        obtain ⟨h1, h2⟩ := st₁.vars z w hz
        refine ⟨fun hk'' => ?_, fun hk'' => ?_⟩
        · obtain ⟨ρ', u, hρ', hu, hp⟩ := h1 hk''
          have e : ρ' z = ρ z := by
            obtain ⟨o1, es1, ep1, e1, d1, _, f1⟩ := hρ
            obtain ⟨o2, es2, ep2, e2, d2, _, f2⟩ := hρ'
            rw [e1] at e2; cases e2; rw [d1] at d2; cases d2
            rw [← f1, ← f2]
          exact ⟨_, u, hns, by simp only [hne, if_false]; rw [← e]; exact hu, hp.change kh⟩
        · obtain ⟨a, u, ha, hcc, hp⟩ := h2 hk''
          exact ⟨a, u, ha, kc z a (mem_of_lookup ha) _ hcc, hp.change kh⟩
  refine ⟨.next, _, μ, (Went.grow st p.1 p.2.1).trans ⟨⟨_, _, rfl⟩, fun b o _ h2 _ _ e => hkk b o h2 e, fun _ h => .inl h, fun b o e => ?_⟩, st₂, rfl, h⟩
  by_cases hb : b = env.locals
  · obtain ⟨o', _, _, e', _⟩ := hns; exact ⟨o', by rw [hb]; exact e'⟩
  · exact ⟨o, hkk b o hb e⟩

/-- x = a list that the statement makes and that will change -/
theorem St.thaw {a : Addr} {vs : List Value} {xs : List Int} (x : St c env Γ μ s) (ha : a ∉ μ.map (·.1)) (hb : c.base.get? a = none) (ht : a ∉ c.tb) (hl : s.heap.PlainList a vs.toArray) (hi : IntsAre vs xs)
    (hv : ∀ z v, Γ.lookup z = some v → Rd env s.heap z (v.is (c.ok ((a, true, xs) :: μ)) s.heap)) : St c env Γ ((a, true, xs) :: μ) s := by
  refine ⟨x.good, x.ti, x.keep, fun b hb => (x.tbx b hb).imp id fun h => List.mem_cons_of_mem _ h, x.frame, x.cells, hv, ?_, List.nodup_cons.mpr ⟨ha, x.nodup⟩⟩
  intro a' pl xs' h
  rcases List.mem_cons.mp h with e | h
  · cases e; exact ⟨⟨vs, hl.isList, fun _ => hl, hi⟩, .inl hb, fun hm => ht (x.good.sub a hm)⟩
  · exact x.muts a' pl xs' h

theorem Ex.assignNew {y : Str} {py pos : Pos} {value : Expr} {rest : List Stmt} {xs : List Int} (hv : EvN c env Γ μ q value xs) (hk : Can c env y)
    (h : ∀ a, a ∉ μ.map (·.1) → a ∉ c.tb → Ex c env ((y, .raw (.ref a)) :: Γ) ((a, true, xs) :: μ) (execs rest env) Q)
    (hs : swapsWith value (some (.Name y py)) pos.line env = pure false := by rfl) : Ex c env Γ μ (execs (.Assign [.Name y py] value pos :: rest) env) Q :=
  Ex.step fun s x => wpAny_Assign_Name (wpAny_mono (hv s x) (fun v' s₁ p => by
    obtain ⟨g, t, a, vs, rfl, ha, hl, hi⟩ := p
    have x₁ := x.grow g t
    have hok := x.fresh ha
    have x₂ : St c env Γ ((a, true, xs) :: μ) s₁ := by
      refine x₁.thaw hok.2.1 ?_ hok.2.2 hl hi fun z v hz => ?_
      · cases e : c.base.get? a with
        | none => rfl
        | some o => have := x.keep a o hok.2.2 e; rw [ha] at this; cases this
      · obtain ⟨h1, h2⟩ := x.vars z v hz
        have up : ∀ u, v.is (c.ok μ) s.heap u → v.is (c.ok ((a, true, xs) :: μ)) s₁.heap u := fun u hu => hu.mono (fun b o hb ho _ _ =>
          ⟨⟨hb.1, fun hm => by
            rcases List.mem_cons.mp hm with e | hm
            · rw [e, ha] at ho; cases ho
            · exact hb.2.1 hm, hb.2.2⟩, g.at (fun hm => hb.2.2 (by
              cases q with
              | true => simp [Pg.may] at hm
              | false => exact x.good.sub b hm)) ho⟩) fun b o hh e => g.at (fun hm => by
              cases q with
              | true => simp [Pg.may] at hm
              | false => exact x.ti.notTab hm e hh) e
        have nm : ∀ b o, b ∉ c.tb → s.heap.get? b = some o → s₁.heap.get? b = some o := fun b o hb e => g.at (fun hm => hb (by
              cases q with
              | true => simp [Pg.may] at hm
              | false => exact x.good.sub b hm)) e
        refine ⟨fun hk' => ?_, fun hk' => ?_⟩
        · obtain ⟨ρ, u, ⟨o, es, ep, ho, r⟩, hu, hp⟩ := h1 hk'
          exact ⟨ρ, u, ⟨o, es, ep, nm _ _ x.good.Ltb ho, r⟩, hu, up _ hp⟩
        · obtain ⟨b, u, hb, ⟨o, ho, hd⟩, hp⟩ := h2 hk'
          exact ⟨b, u, hb, ⟨o, nm _ _ (x.good.ctb z b (mem_of_lookup hb)) ho, hd⟩, up _ hp⟩
    have w₂ : Went c env μ ((a, true, xs) :: μ) s s₁ := by
      have w := Went.grow x g t
      refine ⟨w.same, w.kept, fun b hb => ?_, w.ex⟩
      rcases List.mem_cons.mp hb with e | hb
      · exact .inr (by rw [e]; exact ha)
      · exact .inl hb
    exact x₂.store (v := .raw (.ref a)) hk rfl fun s' g' st => ⟨.next, _, _, w₂.trans g', st, rfl, h a hok.2.1 hok.2.2⟩) fun _ _ f => f) hs

theorem Ex.ret {e : Expr} {pos : Pos} {rest : List Stmt} {v : AV} (hv : Ev c env Γ μ q e v) (h : Q (.ret v) Γ μ) : Ex c env Γ μ (execs (.Return (some e) pos :: rest) env) Q :=
  Ex.step fun s x => wpAny_Return_some (wpAny_mono (hv s x) (fun v' s₁ p => ⟨.ret v, Γ, μ, Went.grow x p.1 p.2.1, x.grow p.1 p.2.1, ⟨v', rfl, p.2.2⟩, h⟩) fun _ _ f => f)
theorem Ex.retNone {pos : Pos} {rest : List Stmt} (h : Q (.ret (.raw .none)) Γ μ) : Ex c env Γ μ (execs (.Return none pos :: rest) env) Q :=
  Ex.step fun s x => wpAny_Return_none ⟨.ret (.raw .none), Γ, μ, Went.refl _ _ _ _, x, ⟨.none, rfl, rfl⟩, h⟩

theorem Ex.ite {t : Expr} {b o rest : List Stmt} {pos : Pos} {z : Bool} (ht : Tst c env Γ μ q t z)
    (h₁ : z = true → Ex c env Γ μ (execs b env) (fun f Γ' μ' => match f with | .next => Ex c env Γ' μ' (execs rest env) Q | f => Q f Γ' μ'))
    (h₂ : z = false → Ex c env Γ μ (execs o env) (fun f Γ' μ' => match f with | .next => Ex c env Γ' μ' (execs rest env) Q | f => Q f Γ' μ')) : Ex c env Γ μ (execs (.If t b o pos :: rest) env) Q :=
  Ex.step fun s x => wpAny_If (wpAny_mono (ht s x) (fun z' s₁ p => by
    obtain ⟨p1, p2, rfl⟩ := p
    cases z' with
    | true => exact wpAny_mono (h₁ rfl s₁ (x.grow p1 p2)) (fun _ _ r => r.later (Went.grow x p1 p2)) fun _ _ f => f
    | false => exact wpAny_mono (h₂ rfl s₁ (x.grow p1 p2)) (fun _ _ r => r.later (Went.grow x p1 p2)) fun _ _ f => f) fun _ _ f => f)

theorem Ex.mono {t : Sem Flow} {Q' : AFlow → Vars → Muts → Prop} (h : Ex c env Γ μ t Q) (hQ : ∀ f Γ' μ', Q f Γ' μ' → Q' f Γ' μ') : Ex c env Γ μ t Q' := fun s x =>
  wpAny_mono (h s x) (fun _ _ ⟨af, Γ', μ', h1, h2, h3, h4⟩ => ⟨af, Γ', μ', h1, h2, h3, hQ _ _ _ h4⟩) fun _ _ f => f

/-- less is known -/
theorem St.forget (x : St c env Γ μ s) (h : ∀ y v, Γ'.lookup y = some v → Γ.lookup y = some v) : St c env Γ' μ s :=
  ⟨x.good, x.ti, x.keep, x.tbx, x.frame, x.cells, fun y v hv => x.vars y v (h y v hv), x.muts, x.nodup⟩
theorem Ex.forget {t : Sem Flow} (h : Ex c env Γ' μ t Q) (hs : ∀ y v, Γ'.lookup y = some v → Γ.lookup y = some v) : Ex c env Γ μ t Q := fun s x => h s (x.forget hs)

/-- a list of names is known -/
def Knows (Γ : Vars) : Vars → Prop
  | [] => True
  | (y, v) :: r => Γ.lookup y = some v ∧ Knows Γ r
theorem Knows.lookup {Γ : Vars} : ∀ {Γ' : Vars}, Knows Γ Γ' → ∀ y v, Γ'.lookup y = some v → Γ.lookup y = some v
  | [], _, _, _, h => by cases h
  | (z, w) :: r, k, y, v, h => by
    rw [List.lookup_cons] at h
    cases hz : y == z with
    | true => rw [hz] at h; cases h; rw [beq_iff_eq.mp hz]; exact k.1
    | false => rw [hz] at h; exact k.2.lookup y v h
theorem Ex.only {t : Sem Flow} (h : Ex c env Γ' μ t Q) (hs : Knows Γ Γ') : Ex c env Γ μ t Q := h.forget hs.lookup

/-- AugAssign of a name -/
theorem Ex.aug {y : Str} {py pos : Pos} {op : Operator} {value : Expr} {rest : List Stmt} {a b z : Int} (ha : Γ.lookup y = some (.int a)) (hv : Ev c env Γ μ q value (.int b)) (hk : Can c env y)
    (hop : ∀ (s : Shared) (t u : Tok) (Q : Value → Shared → Prop), Q (.int z s.toks) { s with toks := s.toks + 1 } → wpAny (model c.G.prog c.G.w) c.A (inplaceOp op (.int a t) (.int b u)) Q (fun _ _ => False) s)
    (h : Ex c env ((y, .int z) :: Γ) μ (execs rest env) Q) : Ex c env Γ μ (execs (.AugAssign (.Name y py) op value pos :: rest) env) Q :=
  Ex.step fun s x => by
    have fin : ∀ (t : Tok), wpAny (model c.G.prog c.G.w) c.A (eval value env) (fun v s₂ => wpAny (model c.G.prog c.G.w) c.A (inplaceOp op (.int a t) v) (fun r s₃ => wpAny (model c.G.prog c.G.w) c.A (storeName env y r)
        (fun _ => ExPost c env μ (fun f Γ' μ' => match f with | .next => Ex c env Γ' μ' (execs rest env) Q | f => Q f Γ' μ') s .next) (fun _ _ => False) s₃) (fun _ _ => False) s₂) (fun _ _ => False) s := fun t =>
      wpAny_mono (hv s x) (fun v s₂ p => by
        obtain ⟨u, rfl⟩ := p.2.2
        have x₂ := x.grow p.1 p.2.1
        refine hop s₂ t u _ ?_
        have x₃ : St c env Γ μ { s₂ with toks := s₂.toks + 1 } := x₂.grow (q := q) (Grow.tok _ _ _) x₂.ti
        exact x₃.store (v := .int z) hk ⟨_, rfl⟩ fun s' g st => ⟨.next, _, μ, ((Went.grow x p.1 p.2.1).trans (Went.grow (q := q) x₂ (Grow.tok _ _ (s₂.toks + 1)) x₂.ti)).trans g, st, rfl, h⟩) fun _ _ f => f
    refine wpAny_AugAssign_Name ?_
    obtain ⟨h1, h2⟩ := x.vars y _ ha
    rcases hk with hk | ⟨O, hk, hc⟩
    · obtain ⟨ρ, w, hn, hw, t, rfl⟩ := h1 hk
      exact wpAny_loadName_local x.good.kind hk hn hw (fin t)
    · obtain ⟨ca, w, hca, hcell, t, rfl⟩ := h2 (.inl hk)
      exact wpAny_loadName_cell x.good.kind hk hca hcell (fin t)
end
end Mine
open PySem PySem.W PyProof.Rows
set_option maxRecDepth 100000
set_option linter.unusedVariables false
namespace Mine
section
variable {c : Cx} {env : Env} {Γ Γ' : Vars} {μ μ' : Muts} {q : Bool} {Q : AFlow → Vars → Muts → Prop} {s : Shared}

/-- only an iterator has changed -/
theorem St.iter (x : St c env Γ μ s) {I : Addr} {oI : Obj} {h' : Heap} {tk : Nat} (hI : s.heap.get? I = some oI) (hO : IterObj oI) (hb : c.base.get? I = none)
    (k : ∀ b o, b ≠ I → s.heap.get? b = some o → h'.get? b = some o) : St c env Γ μ { s with heap := h', toks := tk } := by
  obtain ⟨hcls, vsI, hdI, hstr⟩ := hO
  have soft : ∀ b o, Soft o → s.heap.get? b = some o → h'.get? b = some o := fun b o hs e => k b o (fun e' => by
    rw [e', hI] at e; cases e
    rcases hs with ⟨es, n, h⟩ | ⟨v, h⟩ <;> rw [hdI] at h <;> cases h) e
  have val : ∀ b o, (o.cls = .type "list" ∨ o.cls = .type "tuple" ∨ o.cls = .type "range") → s.heap.get? b = some o → h'.get? b = some o := fun b o hc e => k b o (fun e' => by
    rw [e', hI] at e; cases e
    rcases hcls with h | h | h <;> rw [h] at hc <;> simp at hc) e
  have isl : ∀ (v : AV) (y : Value), v.is (c.ok μ) s.heap y → v.is (c.ok μ) h' y := fun v y H => H.monoC (fun a o ha ho hc => ⟨ha, val a o hc ho⟩) fun b o hh e => k b o (fun e' => by
    rw [e', hI] at e; cases e
    rcases hh with ⟨fd, h⟩ | ⟨vs, y, t, h, hv⟩
    · rw [hdI] at h; cases h
    · rw [hdI] at h; cases h; exact hstr _ _ hv) e
  refine ⟨x.good, ?_, fun b o hb' e => k b o (fun e' => by rw [e', hb] at e; cases e) (x.keep b o hb' e), x.tbx, ?_, ?_, ?_, ?_, x.nodup⟩
  · intro t ht
    have ne : ∀ ps, s.heap.get? t.P = some (tabObj ps) → t.P ≠ I := fun ps e e' => by
      rw [e', hI] at e; cases e
      rcases hcls with h | h | h <;> cases h
    rcases x.ti t ht with e | ⟨c', e, c₂, o, vs, tk', e2, ho, hd, hv⟩
    · exact .inl (k _ _ (ne _ e) e)
    · refine .inr ⟨c', k _ _ (ne _ e) e, c₂, o, vs, tk', e2, k _ _ (fun e' => ?_) ho, hd, hv⟩
      rw [e', hI] at ho; cases ho
      rw [hdI] at hd; cases hd
      exact hstr _ _ hv
  · obtain ⟨ρ, o, es, ep, ho, hd, r⟩ := x.frame
    exact ⟨ρ, o, es, ep, soft _ _ (.inl ⟨es, ep, hd⟩) ho, hd, r⟩
  · intro y a ha
    obtain ⟨v, o, ho, hd⟩ := x.cells y a ha
    exact ⟨v, o, soft _ _ (.inr ⟨v, hd⟩) ho, hd⟩
  · intro y v hv
    obtain ⟨h1, h2⟩ := x.vars y v hv
    refine ⟨fun hk => ?_, fun hk => ?_⟩
    · obtain ⟨ρ, w, ⟨o, es, ep, ho, hd, r⟩, hw, hp⟩ := h1 hk
      exact ⟨ρ, w, ⟨o, es, ep, soft _ _ (.inl ⟨es, ep, hd⟩) ho, hd, r⟩, hw, isl _ _ hp⟩
    · obtain ⟨a, w, ha, ⟨o, ho, hd⟩, hp⟩ := h2 hk
      exact ⟨a, w, ha, ⟨o, soft _ _ (.inr ⟨_, hd⟩) ho, hd⟩, isl _ _ hp⟩
  · intro a pl xs ha
    obtain ⟨⟨vs, ⟨o, ho, hc, n, hd⟩, hp, hi⟩, h2, h3⟩ := x.muts a pl xs ha
    refine ⟨⟨vs, ⟨o, val _ _ (.inl hc) ho, hc, n, hd⟩, fun e => ?_, hi⟩, h2, h3⟩
    obtain ⟨n', e'⟩ := hp e
    exact ⟨n', val _ _ (.inl rfl) e'⟩

/-- a loop, from its iterator on -/
theorem loop_core {xn : Str} {px : Pos} {body : List Stmt} {ns : List Int} {I : Addr} {fp : List Addr} {P : Nat → Value → Prop} {S : Nat → Heap → Prop} {s₀ s₁ : Shared} {R : Result → Shared → Prop}
    (x₀ : St c env Γ μ s₀) (hI : s₀.heap.get? I = none) (W : Walks c.G.prog c.G.w c.A I fp [I] ns.length P S) (hS : S 0 s₁.heap)
    (hfp : ∀ b ∈ fp, b = I ∨ c.ok μ b ∧ ∃ o n its, s₀.heap.get? b = some o ∧ o.data = .seq its n) (hP : ∀ i v, P i v → ∃ t n, ns[i]? = some n ∧ v = .int n t)
    (w₁ : Went c env μ μ s₀ s₁) (x₁ : St c env Γ μ s₁) (hob : ∀ i h, S i h → ∃ o, h.get? I = some o ∧ IterObj o) (hk : Can c env xn)
    (J : Nat → Vars → Muts → Prop) (h0 : J 0 Γ μ)
    (step : ∀ i n Γ₁ μ₁, ns[i]? = some n → J i Γ₁ μ₁ → Ex c env ((xn, .int n) :: Γ₁) μ₁ (execs body env) (fun f Γ₂ μ₂ => match f with
      | .next | .cont => ∃ Γ₃, Knows Γ₂ Γ₃ ∧ J (i + 1) Γ₃ μ₂
      | f => Q f Γ₂ μ₂))
    (fin : ∀ Γ₁ μ₁, J ns.length Γ₁ μ₁ → Q .next Γ₁ μ₁)
    (hR : ∀ f s', ExPost c env μ Q s₀ f s' → R (.ok (match f with | .brk => .next | .cont => .next | f => f)) s') :
    codeAny (model c.G.prog c.G.w) c.A (.forLoop (.Name xn px) (.ref I) body [] env) R s₁ := by
  have hbI : c.base.get? I = none := by
    cases e : c.base.get? I with
    | none => rfl
    | some o => have := x₀.keep I o (x₀.fresh hI).2.2 e; rw [hI] at this; cases this
  have hIt : I ∉ c.tb := (x₀.fresh hI).2.2
  refine codeAny_forLoop (fun k s' => ∃ i Γ₁ μ₁, i ≤ ns.length ∧ k = ns.length + 1 - i ∧ J i Γ₁ μ₁ ∧ St c env Γ₁ μ₁ s' ∧ Went c env μ μ₁ s₀ s' ∧ S i s'.heap) ?_ (ns.length + 1) ⟨0, Γ, μ, Nat.zero_le _, rfl, h0, x₁, w₁, hS⟩
  rintro k s' ⟨i, Γ₁, μ₁, hi, rfl, hJ, x', w', hS'⟩
  obtain ⟨oI, hoI, hOI⟩ := hob i _ hS'
  by_cases hlt : i < ns.length
  · refine W.item i s' _ _ hlt hS' fun v h₂ tk hv hS₂ hk₂ => ?_
    obtain ⟨t, n, hn, rfl⟩ := hP i v hv
    have x₂ : St c env Γ₁ μ₁ { s' with heap := h₂, toks := tk } := x'.iter hoI hOI hbI fun b o hb e => hk₂ b o (by simpa using hb) e
    obtain ⟨o₂, ho₂, hO₂⟩ := hob _ _ hS₂
    have w₂ : Went c env μ μ₁ s₀ { s' with heap := h₂, toks := tk } := by
      refine ⟨w'.same.trans ⟨_, _, rfl⟩, fun b o h1 h2 h3 h4 e => hk₂ b o (fun hb => ?_) (w'.kept b o h1 h2 h3 h4 e), w'.mu, fun b o e => ?_⟩
      · rw [List.mem_singleton.mp hb, hI] at e; cases e
      · obtain ⟨o', e'⟩ := w'.ex b o e
        exact ⟨o', hk₂ b o' (fun hb => by rw [List.mem_singleton.mp hb, hI] at e; cases e) e'⟩
    refine wpAny_assign_Name (x₂.store (v := .int n) hk ⟨t, rfl⟩ fun s₃ w₃ x₃ => ?_)
    refine wpAny_mono (step i n Γ₁ μ₁ hn hJ s₃ x₃) (fun f s₄ p => ?_) fun _ _ f => f.elim
    obtain ⟨af, Γ₂, μ₂, w₄, x₄, hf, hQ⟩ := p
    have w₅ : Went c env μ₁ μ₂ { s' with heap := h₂, toks := tk } s₄ := w₃.trans w₄
    have hS₄ : S (i + 1) s₄.heap := by
      refine W.frame _ _ _ hS₂ fun b hb o e => ?_
      rcases hfp b hb with rfl | ⟨hok, o', n', its, ho', hd'⟩
      · rw [ho₂] at e; cases e
        refine w₅.kept _ _ hIt (fun e => ?_) (fun y hy => ?_) (fun hm => ?_) ho₂
        · obtain ⟨ρ, oL, _, _, hL, hd, _⟩ := x₀.frame
          rw [← e, hI] at hL; cases hL
        · obtain ⟨v, oc, hc, _⟩ := x₀.cells y _ hy
          rw [hI] at hc; cases hc
        · obtain ⟨p', hp', rfl⟩ := List.mem_map.mp hm
          obtain ⟨⟨vs, ⟨o3, ho3, hc3, _⟩, _⟩, _⟩ := x₂.muts p'.1 p'.2.1 p'.2.2 hp'
          have ho3' : h₂.get? p'.1 = some o3 := ho3
          rw [ho₂] at ho3'; cases ho3'
          rcases hO₂.1 with h | h | h <;> rw [h] at hc3 <;> simp at hc3
      · have hbL : b ≠ env.locals := fun e => by
          obtain ⟨ρ, oL, es, ep, hL, hd, _⟩ := x₀.frame
          rw [← e, ho'] at hL; cases hL; rw [hd'] at hd; cases hd
        have hbc : ∀ y, (y, b) ∉ env.cells := fun y hy => by
          obtain ⟨v, oc, hc, hd⟩ := x₀.cells y _ hy
          rw [ho'] at hc; cases hc; rw [hd'] at hd; cases hd
        refine w₅.kept _ _ hok.2.2 hbL hbc (fun hm => ?_) e
        rcases w'.mu b hm with h | h
        · exact hok.2.1 h
        · rw [ho'] at h; cases h
    have go : (∃ Γ₃, Knows Γ₂ Γ₃ ∧ J (i + 1) Γ₃ μ₂) → ∃ m, m < ns.length + 1 - i ∧ ∃ i Γ₁ μ₁, i ≤ ns.length ∧ m = ns.length + 1 - i ∧ J i Γ₁ μ₁ ∧ St c env Γ₁ μ₁ s₄ ∧ Went c env μ μ₁ s₀ s₄ ∧ S i s₄.heap := by
      rintro ⟨Γ₃, hk₃, hJ₃⟩
      exact ⟨ns.length + 1 - (i + 1), by omega, i + 1, Γ₃, μ₂, hlt, rfl, hJ₃, x₄.forget hk₃.lookup, w₂.trans w₅, hS₄⟩
    cases af with
    | next => obtain rfl : f = .next := hf; exact go hQ
    | cont => obtain rfl : f = .cont := hf; exact go hQ
    | brk => obtain rfl : f = .brk := hf; exact hR .brk s₄ ⟨.brk, Γ₂, μ₂, w₂.trans w₅, x₄, rfl, hQ⟩
    | ret v => obtain ⟨v', rfl, hv'⟩ := hf; exact hR (.ret v') s₄ ⟨.ret v, Γ₂, μ₂, w₂.trans w₅, x₄, ⟨v', rfl, hv'⟩, hQ⟩
  · have hin : i = ns.length := by omega
    subst hin
    refine W.done s' _ _ hS' fun h₂ tk hk₂ => ?_
    have x₂ : St c env Γ₁ μ₁ { s' with heap := h₂, toks := tk } := x'.iter hoI hOI hbI fun b o hb e => hk₂ b o (by simpa using hb) e
    have w₂ : Went c env μ μ₁ s₀ { s' with heap := h₂, toks := tk } := by
      refine ⟨w'.same.trans ⟨_, _, rfl⟩, fun b o h1 h2 h3 h4 e => hk₂ b o (fun hb => ?_) (w'.kept b o h1 h2 h3 h4 e), w'.mu, fun b o e => ?_⟩
      · rw [List.mem_singleton.mp hb, hI] at e; cases e
      · obtain ⟨o', e'⟩ := w'.ex b o e
        exact ⟨o', hk₂ b o' (fun hb => by rw [List.mem_singleton.mp hb, hI] at e; cases e) e'⟩
    exact wpAny_execs_nil (hR .next _ ⟨.next, Γ₁, μ₁, w₂, x₂, rfl, fin Γ₁ μ₁ hJ⟩)

theorem Ex.forC {xn : Str} {px pos : Pos} {iter : Expr} {body rest : List Stmt} {src : AV} {ns : List Int} (hi : Ev c env Γ μ q iter src) (hit : src.Items ns) (J : Nat → Vars → Muts → Prop) (h0 : J 0 Γ μ)
    (step : ∀ i n Γ₁ μ₁, ns[i]? = some n → J i Γ₁ μ₁ → Ex c env ((xn, .int n) :: Γ₁) μ₁ (execs body env) (fun f Γ₂ μ₂ => match f with
      | .next | .cont => ∃ Γ₃, Knows Γ₂ Γ₃ ∧ J (i + 1) Γ₃ μ₂
      | .brk => Ex c env Γ₂ μ₂ (execs rest env) Q
      | .ret v => Q (.ret v) Γ₂ μ₂))
    (fin : ∀ Γ₁ μ₁, J ns.length Γ₁ μ₁ → Ex c env Γ₁ μ₁ (execs rest env) Q)
    (hk : Can c env xn) (hs : ∀ v, foldedSetIterable iter env v = pure v := by intro _; rfl) :
    Ex c env Γ μ (execs (.For (.Name xn px) iter body [] pos :: rest) env) Q := Ex.step fun s x => by
  refine wpAny_For (wpAny_mono (hi s x) (fun xv s₁ p => ?_) fun _ _ f => f) hs
  have x₁ := x.grow p.1 p.2.1
  refine iter_ints x.good.room.handled p.2.2 hit fun I fp P S h' hI W hS hfp hok hP k hob => ?_
  have g : Grow (c.G.may true) s₁ { s₁ with heap := h' } := ⟨h', s₁.toks, rfl, fun b o _ e => k b o e⟩
  have t : TI c.G h' := x₁.ti.keeps fun b o _ e => k b o e
  refine loop_core (Q := fun f Γ₂ μ₂ => match f with | .ret v => Q (.ret v) Γ₂ μ₂ | .next | .cont | .brk => Ex c env Γ₂ μ₂ (execs rest env) Q) x₁ hI W hS hok hP (Went.grow x₁ g t) (x₁.grow g t) hob hk J h0 (fun i n Γ₁ μ₁ hn hJ => ?_) fin ?_
  · refine (step i n Γ₁ μ₁ hn hJ).mono fun f Γ₂ μ₂ h => ?_
    cases f <;> exact h
  · rintro f s' ⟨af, Γ₂, μ₂, w, x', hf, hQ⟩
    have w' := (Went.grow x p.1 p.2.1).trans w
    cases af with
    | next => obtain rfl : f = .next := hf; exact ⟨.next, Γ₂, μ₂, w', x', rfl, hQ⟩
    | cont => obtain rfl : f = .cont := hf; exact ⟨.next, Γ₂, μ₂, w', x', rfl, hQ⟩
    | brk => obtain rfl : f = .brk := hf; exact ⟨.next, Γ₂, μ₂, w', x', rfl, hQ⟩
    | ret v => obtain ⟨v', rfl, hv'⟩ := hf; exact ⟨.ret v, Γ₂, μ₂, w', x', ⟨v', rfl, hv'⟩, hQ⟩

theorem Ex.forJ {xn : Str} {px pos : Pos} {iter : Expr} {body rest : List Stmt} {src : AV} {ns : List Int} (hi : Ev c env Γ μ q iter src) (hit : src.Items ns) (J : Nat → Vars → Muts → Prop) (h0 : J 0 Γ μ)
    (step : ∀ i n Γ₁ μ₁, ns[i]? = some n → J i Γ₁ μ₁ → Ex c env ((xn, .int n) :: Γ₁) μ₁ (execs body env) (fun f Γ₂ μ₂ => match f with
      | .next | .cont => ∃ Γ₃, Knows Γ₂ Γ₃ ∧ J (i + 1) Γ₃ μ₂
      | .brk => Ex c env Γ₂ μ₂ (execs rest env) Q
      | .ret v => Q (.ret v) Γ₂ μ₂))
    (fin : ∀ Γ₁ μ₁, J ns.length Γ₁ μ₁ → Ex c env Γ₁ μ₁ (execs rest env) Q)
    (hk : env.kindOf xn = some .local := by rfl) (hs : ∀ v, foldedSetIterable iter env v = pure v := by intro _; rfl) :
    Ex c env Γ μ (execs (.For (.Name xn px) iter body [] pos :: rest) env) Q := Ex.forC hi hit J h0 step fin (.inl hk) hs

/-- for x in reversed(list) -/
theorem Ex.forRev {xn : Str} {px pos cpos : Pos} {f a : Expr} {body rest : List Stmt} {xs : List Int} (hf : Ev c env Γ μ q f (.raw (.type "reversed"))) (ha : Ev c env Γ μ q a (.lst xs)) (J : Nat → Vars → Muts → Prop) (h0 : J 0 Γ μ)
    (step : ∀ i n Γ₁ μ₁, xs.reverse[i]? = some n → J i Γ₁ μ₁ → Ex c env ((xn, .int n) :: Γ₁) μ₁ (execs body env) (fun f Γ₂ μ₂ => match f with
      | .next | .cont => ∃ Γ₃, Knows Γ₂ Γ₃ ∧ J (i + 1) Γ₃ μ₂
      | .brk => Ex c env Γ₂ μ₂ (execs rest env) Q
      | .ret v => Q (.ret v) Γ₂ μ₂))
    (fin : ∀ Γ₁ μ₁, J xs.length Γ₁ μ₁ → Ex c env Γ₁ μ₁ (execs rest env) Q)
    (hk : env.kindOf xn = some .local := by rfl) (hs : ∀ v, foldedSetIterable (.Call f [a] [] cpos) env v = pure v := by intro _; rfl)
    (he : eval (.Call f [a] [] cpos) env = (do callWith cpos (← eval f env) [] (backTo cpos (starEach [a] env)) (backToKw cpos (keywordEach [] env))) := by rfl)
    (hst : starEach [a] env = (false, eval a env) :: starEach [] env := by rfl) :
    Ex c env Γ μ (execs (.For (.Name xn px) (.Call f [a] [] cpos) body [] pos :: rest) env) Q := Ex.step fun s x => by
  refine wpAny_For (Call_ (wpAny_mono (hf s x) (fun y s₁ p => ?_) fun _ _ f => f) he) hs
  obtain rfl : y = .type "reversed" := p.2.2
  have x₁ := x.grow p.1 p.2.1
  refine callWith_type1 (args_cons (wpAny_mono (ha s₁ x₁) (fun y s₂ p₂ => args_nil ?_) fun _ _ f => f) hst) hst rfl
  obtain ⟨l, vs, rfl, hl, hL, hi⟩ := p₂.2.2
  have x₂ := x₁.grow p₂.1 p₂.2.1
  have w₂ := (Went.grow x p.1 p.2.1).trans (Went.grow x₁ p₂.1 p₂.2.1)
  refine call_reversed_list hL ?_
  obtain ⟨o, ho, _, k, hd⟩ := id hL
  have hne : l ≠ s₂.heap.objs.size := Nat.ne_of_lt (Heap.lt_size ho)
  have hit : (s₂.heap.push (revObj l ((vs.toArray.size : Int) - 1))).IsRevIter s₂.heap.objs.size l ((vs.toArray.size : Int) - 1) := ⟨_, Heap.get?_push_size _ rfl, rfl, rfl⟩
  refine wpAny_pyIter_revIter hit ?_
  have W := Walks.listRev (prog := c.G.prog) (w := c.G.w) x.good.room.handled s₂.heap.objs.size l hne vs.toArray
  replace W := Mine.Walks.sharp W
  have hlen : vs.toArray.size = xs.reverse.length := by simp [hi.length]
  rw [hlen] at W
  have g : Grow (c.G.may true) s₂ { s₂ with heap := s₂.heap.push (revObj l ((vs.toArray.size : Int) - 1)) } := Grow.push _ _ _ _
  have t : TI c.G (s₂.heap.push (revObj l ((vs.toArray.size : Int) - 1))) := x₂.ti.push _
  refine loop_core (Q := fun f Γ₂ μ₂ => match f with | .ret v => Q (.ret v) Γ₂ μ₂ | .next | .cont | .brk => Ex c env Γ₂ μ₂ (execs rest env) Q) x₂ (get?_size _) W ?_ ?_ ?_ (Went.grow x₂ g t) (x₂.grow g t) ?_ (.inl hk) J h0 (fun i n Γ₁ μ₁ hn hJ => ?_) (fun Γ₁ μ₁ hJ => fin Γ₁ μ₁ (by simpa using hJ)) ?_
  · refine ⟨Nat.zero_le _, ?_, hL.push _⟩
    have e : ((xs.reverse.length : Nat) : Int) - 1 - ((0 : Nat) : Int) = (vs.toArray.size : Int) - 1 := by rw [hlen]; omega
    rw [e]; exact hit
  · intro b hb
    rcases List.mem_cons.mp hb with rfl | hb
    · exact .inl rfl
    · rw [List.mem_singleton.mp hb]; exact .inr ⟨hl, o, k, _, ho, hd⟩
  · rintro i v ⟨hlt, hv⟩
    have hlt' : i < vs.length := by simpa [hi.length] using hlt
    have e : vs.reverse[i]? = some v := by
      rw [List.getElem?_reverse hlt']
      have : vs[vs.length - 1 - i]? = some v := by simpa [hi.length] using hv
      exact this
    obtain ⟨n, t, e1, e2⟩ := (IntsAre.reverse hi).at i v e
    exact ⟨t, n, e2, e1⟩
  · rintro i h ⟨_, ⟨o, ho, hc, hd⟩, _⟩
    exact ⟨o, ho, .inr (.inr hc), _, hd, by intro x t; simp [rawInt]⟩
  · refine (step i n Γ₁ μ₁ hn hJ).mono fun f Γ₂ μ₂ h => ?_
    cases f <;> exact h
  · rintro f s' ⟨af, Γ₂, μ₂, w, x', hf, hQ⟩
    have w' := w₂.trans w
    cases af with
    | next => obtain rfl : f = .next := hf; exact ⟨.next, Γ₂, μ₂, w', x', rfl, hQ⟩
    | cont => obtain rfl : f = .cont := hf; exact ⟨.next, Γ₂, μ₂, w', x', rfl, hQ⟩
    | brk => obtain rfl : f = .brk := hf; exact ⟨.next, Γ₂, μ₂, w', x', rfl, hQ⟩
    | ret v => obtain ⟨v', rfl, hv'⟩ := hf; exact ⟨.ret v, Γ₂, μ₂, w', x', ⟨v', rfl, hv'⟩, hQ⟩
end
end Mine
open PySem PySem.W PyProof.Rows
set_option maxRecDepth 100000
set_option linter.unusedVariables false
namespace Mine

/-! defs -/
structure Pg.Good (G : Pg) : Prop where
  gtb : ∀ b o, G.g.get? b = some o → b ∉ G.tb
  lim : G.g.NoLimit

/-- what a def of the module gives back -/
def Fn (G : Pg) (d : Nat) (f : Addr) (args : List AV) (r : AV) : Prop :=
  ∀ (A : Around) (s : Shared) (vs : List Value) (okA : Addr → Prop), Room A d → (∀ b o, G.g.get? b = some o → s.heap.get? b = some o) → TI G s.heap → (∀ a, okA a → a ∉ G.tb) → AllIs okA s.heap args vs →
    wpAny (model G.prog G.w) A (call (.ref f) vs) (fun v s' => Grow G.tb s s' ∧ TI G s'.heap ∧ r.is (fun a => s.heap.get? a = none ∨ okA a) s'.heap v) (fun _ _ => False) s

theorem Fn.less {G : Pg} {d d' : Nat} {f : Addr} {args : List AV} {r : AV} (h : Fn G d f args r) (hd : d ≤ d') : Fn G d' f args r := fun A s vs okA hr => h A s vs okA (hr.less hd)

theorem bindL_other {k : Str → Option NameKind} {y : Str} : ∀ (binds : List (Str × Value)) (m : Str → Option Value), y ∉ binds.map (·.1) → bindL k binds m y = m y
  | [], _, _ => rfl
  | (n, v) :: r, m, h => by
    rw [List.map_cons, List.mem_cons, not_or] at h
    unfold bindL
    rw [bindL_other r _ h.2]
    split
    · have : y ≠ n := h.1
      simp [this]
    · rfl
theorem bindL_get {k : Str → Option NameKind} {y : Str} {v' : Value} (hk : k y = some .local) : ∀ (binds : List (Str × Value)) (m : Str → Option Value), (binds.map (·.1)).Nodup → (y, v') ∈ binds → bindL k binds m y = some v'
  | (n, v) :: r, m, hn, h => by
    rw [List.map_cons, List.nodup_cons] at hn
    unfold bindL
    rcases List.mem_cons.mp h with e | h
    · cases e
      rw [bindL_other r _ hn.1, if_pos hk]; simp
    · exact bindL_get hk r _ hn.2 h
theorem bindC_other {k : Str → Option NameKind} {y : Str} : ∀ (binds : List (Str × Value)) (m : Str → Option Value), y ∉ binds.map (·.1) → bindC k binds m y = m y
  | [], _, _ => rfl
  | (n, v) :: r, m, h => by
    rw [List.map_cons, List.mem_cons, not_or] at h
    unfold bindC
    rw [bindC_other r _ h.2]
    split
    · rfl
    · have : y ≠ n := h.1
      simp [this]
theorem bindC_get {k : Str → Option NameKind} {y : Str} {v' : Value} (hk : k y ≠ some .local) : ∀ (binds : List (Str × Value)) (m : Str → Option Value), (binds.map (·.1)).Nodup → (y, v') ∈ binds → bindC k binds m y = some v'
  | (n, v) :: r, m, hn, h => by
    rw [List.map_cons, List.nodup_cons] at hn
    unfold bindC
    rcases List.mem_cons.mp h with e | h
    · cases e
      rw [bindC_other r _ hn.1, if_neg hk]; simp
    · exact bindC_get hk r _ hn.2 h

theorem zip_get {ok : Addr → Prop} {h : Heap} {y : Str} {v : AV} : ∀ {names : List Str} {args : List AV} {vs : List Value}, AllIs ok h args vs → (names.zip args).lookup y = some v → ∃ v', (y, v') ∈ names.zip vs ∧ v.is ok h v'
  | [], _, _, _, e => by cases e
  | _ :: _, _, _, .nil, e => by cases e
  | n :: ns, _, _, .cons h1 h2, e => by
    rw [List.zip_cons_cons, List.lookup_cons] at e
    cases hy : y == n with
    | true => rw [hy] at e; cases e; rw [beq_iff_eq.mp hy]; exact ⟨_, .head _, h1⟩
    | false =>
      rw [hy] at e
      obtain ⟨v', hm, hv⟩ := zip_get h2 e
      exact ⟨v', .tail _ hm, hv⟩

theorem AllIs.length {ok : Addr → Prop} {h : Heap} : ∀ {args : List AV} {vs : List Value}, AllIs ok h args vs → vs.length = args.length
  | _, _, .nil => rfl
  | _, _, .cons _ h2 => by rw [List.length_cons, List.length_cons, h2.length]

theorem zip_names {α : Type} : ∀ {names : List Str} {vs : List α}, vs.length = names.length → (names.zip vs).map (·.1) = names
  | [], [], _ => rfl
  | n :: ns, v :: vs, h => by rw [List.zip_cons_cons, List.map_cons, zip_names (by simpa using h)]
  | [], _ :: _, h => by cases h
  | _ :: _, [], h => by cases h

/-- the checks on a def's record -/
structure DefOk (fd : FuncData) (names : List Str) (body : List Stmt) : Prop where
  body : fd.body = .stmts body
  glob : fd.globals = mainGlobals
  bi : fd.builtins = builtinsNs
  clos : fd.closure = []
  kind : fd.scope.kind = .function
  co : fd.scope.isCoroutine = false
  gen : fd.scope.isGenerator = false
  nodup : names.Nodup
  kinds : ∀ x ∈ names, fd.scope.names.lookup x = some .local ∨ fd.scope.names.lookup x = some .cell
  cells : ((cellsFrom 0 fd.scope.names []).map (·.1)).Nodup

theorem Fn.mk {G : Pg} {d : Nat} {f : Addr} {args : List AV} {r : AV} {fd : FuncData} {o : Obj} {body : List Stmt} {names : List Str} (hG : G.Good) (ho : G.g.get? f = some o) (hd : o.data = .func fd) (hcd : G.g.CodeRec fd.code fd.qualname)
    (D : DefOk fd names body) (hbind : ∀ vs : List Value, vs.length = args.length → bindArgs fd ⟨vs, []⟩ = pure (names.zip vs)) (hlen : names.length = args.length)
    (h : ∀ (A : Around) (base : Heap) (okA : Addr → Prop) (L : Addr), Own ⟨G, A, d, base, okA, G.tb⟩ (callEnvC fd L f) →
      Ex ⟨G, A, d, base, okA, G.tb⟩ (callEnvC fd L f) (names.zip args) [] (execs body (callEnvC fd L f)) (fun fl _ μ' => fl = .ret r ∨ (fl = .next ∧ r = .raw .none))) : Fn G (d + 1) f args r := by
  intro A s vs okA hr hg hti hok ha
  have hl := ha.length
  have hnm : (names.zip vs).map (·.1) = names := zip_names (by rw [hl, hlen])
  refine wpAny_call (codeAny_call_cells (fd := fd) (binds := names.zip vs) hr.lt (hg _ _ ho) hd (hG.lim.keeps hg) (hcd.keeps hg) D.body (hbind vs hl) D.clos (fun y hy => ?_) (fun s₁ x => ?_) D.co D.gen D.kind)
  · have hy' : y.1 ∈ names := by rw [← hnm]; exact List.mem_map_of_mem hy
    rcases D.kinds y.1 hy' with e | e
    · exact .inl e
    · exact .inr ⟨e, cellsFrom_some _ _ _ (.inl e)⟩
  · have hL0 : (callEnvC fd s.heap.objs.size f).locals = s.heap.objs.size := rfl
    have hcl : (callEnvC fd s.heap.objs.size f).cells = cellsFrom (s.heap.objs.size + 1) fd.scope.names [] := rfl
    have hnd : ((callEnvC fd s.heap.objs.size f).cells.map (·.1)).Nodup := by
      rw [hcl, ← cellsFrom_names fd.scope.names 0 (s.heap.objs.size + 1) [] [] rfl]; exact D.cells
    have hO : Own ⟨G, A.deeper (callEnvC fd s.heap.objs.size f), d, s.heap, okA, G.tb⟩ (callEnvC fd s.heap.objs.size f) :=
      ⟨fun y a hy => Heap.get?_none_of_le (Nat.le_of_lt (x.above y a hy)), x.apart⟩
    have st : St ⟨G, A.deeper (callEnvC fd s.heap.objs.size f), d, s.heap, okA, G.tb⟩ (callEnvC fd s.heap.objs.size f) (names.zip args) [] s₁ := by
      have keep := x.toInCall.keep
      refine ⟨⟨hr.deeper _, fun b o e => ⟨hG.gtb b o e, hg b o e⟩, hG.lim, fun _ h => h, fun b hb => ?_, D.kind, D.glob, D.bi, get?_size _, fun y a hy ht => ?_, fun y a hy e => ?_⟩, hti.keeps fun b o _ e => keep b o e, fun b o _ e => keep b o e, fun b hb => .inl hb,
        ⟨_, x.toInCall.ns⟩, fun y a hy => ⟨_, x.cell y a (lookup_of_mem_nodup hnd hy)⟩, fun y v hv => ?_, (fun a pl xs h => nomatch h), List.nodup_nil⟩
      · obtain ⟨ps, e⟩ := hti.isTab hb; exact ⟨_, e⟩
      · obtain ⟨ps, e⟩ := hti.isTab ht
        exact absurd (Heap.lt_size e) (Nat.not_lt.mpr (Nat.le_of_lt (x.above y a hy)))
      · have := x.above y a hy
        rw [e] at this
        exact Nat.lt_irrefl _ this
      · obtain ⟨v', hm, hv'⟩ := zip_get ha hv
        have hy' : y ∈ names := by rw [← hnm]; exact List.mem_map_of_mem (f := (·.1)) hm
        have hval : v.is (Cx.ok ⟨G, A.deeper (callEnvC fd s.heap.objs.size f), d, s.heap, okA, G.tb⟩ []) s₁.heap v' :=
          hv'.mono (fun a o ha' ho' _ _ => ⟨⟨.inr ha', by simp, hok a ha'⟩, keep a o ho'⟩) fun b o _ e => keep b o e
        have hnd' : ((names.zip vs).map (·.1)).Nodup := by rw [hnm]; exact D.nodup
        refine ⟨fun hk => ⟨_, v', x.toInCall.ns, bindL_get hk _ _ hnd' hm, hval⟩, fun hk => ?_⟩
        have hkl : (callEnvC fd s.heap.objs.size f).kindOf y = some .cell := by
          rcases D.kinds y hy' with e | e
          · have e' : (callEnvC fd s.heap.objs.size f).kindOf y = some .local := e
            rw [e'] at hk; rcases hk with h | h <;> cases h
          · exact e
        obtain ⟨a, hca⟩ := Option.isSome_iff_exists.mp (cellsFrom_some (x := y) fd.scope.names (s.heap.objs.size + 1) [] (.inl hkl))
        refine ⟨a, v', hca, ?_, hval⟩
        have := x.cell y a hca
        rwa [bindC_get (by rw [hkl]; nofun) _ _ hnd' hm] at this
    refine wpAny_mono (h _ _ okA _ hO s₁ st) (fun fl s' p => ?_) fun _ _ f => f.elim
    obtain ⟨af, Γ', μ', w, st', hf, hQ⟩ := p
    have grow : Grow G.tb s s' := by
      obtain ⟨h₁, t₁, e₁⟩ := x.toInCall.same
      obtain ⟨h₂, t₂, e₂⟩ := w.same
      refine ⟨h₂, t₂, by rw [e₂, e₁], fun b o hb e => ?_⟩
      have := st'.keep b o hb e
      rw [e₂] at this; exact this
    rcases hQ with rfl | ⟨rfl, rfl⟩
    · obtain ⟨v', rfl, hv'⟩ := hf
      exact ⟨grow, st'.ti, hv'.mono (fun a o ha' ho' _ _ => ⟨ha'.1, ho'⟩) fun _ _ _ e => e⟩
    · obtain rfl : fl = .next := hf
      exact ⟨grow, st'.ti, rfl⟩

section
variable {c : Cx} {env : Env} {Γ Γ' : Vars} {μ μ' : Muts} {q : Bool} {Q : AFlow → Vars → Muts → Prop} {s : Shared}

/-- a def of the module called -/
theorem Ev.callF {fn : Expr} {f : Addr} {e : Expr} {rest : List Expr} {pos : Pos} {vs : List AV} {v : AV} {o : Obj} {fd : FuncData} (hf : Ev c env Γ μ false fn (.raw (.ref f))) (ho : c.G.g.get? f = some o) (hd : o.data = .func fd)
    (ha : EvA c env Γ μ false pos (e :: rest) vs) (F : Fn c.G c.d f vs v)
    (he : eval (.Call fn (e :: rest) [] pos) env = (do callWith pos (← eval fn env) [] (backTo pos (starEach (e :: rest) env)) (backToKw pos (keywordEach [] env))) := by rfl)
    (hs : starEach (e :: rest) env = (false, eval e env) :: starEach rest env := by rfl) : Ev c env Γ μ false (.Call fn (e :: rest) [] pos) v := fun s x =>
  Call_ (wpAny_mono (hf s x) (fun y s₁ p₁ => by
    obtain rfl : y = .ref f := p₁.2.2
    have x₁ := x.grow p₁.1 p₁.2.1
    refine callWith_def hd (wpAny_mono (ha s₁ x₁) (fun ys s₂ p₂ => ?_) fun _ _ f => f) hs
    have x₂ := x₁.grow p₂.1 p₂.2.1
    refine ⟨x₂.top _ _ ho, wpAny_mono (F c.A s₂ ys (c.ok μ) x.good.room x₂.top x₂.ti (fun a h1 h2 => h1.2.2 (x.good.sub a h2)) p₂.2.2) (fun v' s₃ p₃ => ?_) fun _ _ f => f⟩
    refine ⟨(p₁.1.trans p₂.1).trans p₃.1, p₃.2.1, p₃.2.2.mono (fun a o ha' ho' _ _ => ⟨?_, ho'⟩) fun _ _ _ e => e⟩
    rcases ha' with h | h
    · exact x₂.fresh h
    · exact h) fun _ _ f => f) he

/-- a tuple of two ints -/
theorem Ev.two {a b : Expr} {k : Nat} {pos : Pos} {i j : Int} (ha : Ev c env Γ μ q a (.int i)) (hb : Ev c env Γ μ q b (.int j))
    (hs : starEach [a, b] env = (false, eval a env) :: starEach [b] env := by rfl) (hs' : starEach [b] env = (false, eval b env) :: starEach [] env := by rfl) : Ev c env Γ μ q (.Tuple [a, b] k pos) (.pair i j) := fun s x =>
  Tuple_ (wpAny_mono ((EvA.cons ha (EvA.cons hb EvA.nil hs') hs) s x) (fun vs s₁ p => by
    obtain ⟨p1, p2, p3⟩ := p
    cases p3 with
    | cons h1 h2 =>
      cases h2 with
      | cons h2 h3 =>
        cases h3
        obtain ⟨t, rfl⟩ := h1
        obtain ⟨u, rfl⟩ := h2
        have hok : c.ok μ s₁.heap.objs.size := (x.grow p1 p2).fresh (get?_size _)
        have htup : IsTup (s₁.heap.push { cls := .type "tuple", data := .seq #[.int i t, .int j u] }) s₁.heap.objs.size #[.int i t, .int j u] := ⟨_, Heap.get?_push_size _ rfl, rfl, 0, rfl⟩
        have g : Grow (c.G.may q) s { s₁ with heap := s₁.heap.push { cls := .type "tuple", data := .seq #[.int i t, .int j u] } } := p1.trans (Grow.push _ _ _ _)
        refine wpAny_newTuple ?_ (by show 2 ≤ sizeLine; unfold sizeLine; decide)
        exact ⟨g, p2.push _, s₁.heap.objs.size, t, u, rfl, hok, htup⟩) fun _ _ f => f)

theorem St.unpacked (x : St c env Γ μ s) {h' : Heap} (he : Heap.ExtBut s.heap.objs.size s.heap h') : Grow (c.G.may true) s { s with heap := h' } ∧ TI c.G h' :=
  have k : ∀ b o, s.heap.get? b = some o → h'.get? b = some o := fun b o e => he b o (fun e' => by rw [e', get?_size] at e; cases e) e
  ⟨⟨h', s.toks, rfl, fun b o _ e => k b o e⟩, x.ti.keeps fun b o _ e => k b o e⟩

/-- x, y = a pair -/
theorem Ex.pair {y z : Str} {py pz tpos pos : Pos} {k : Nat} {value : Expr} {rest : List Stmt} {i j : Int} (hv : Ev c env Γ μ q value (.pair i j)) (hy : Can c env y) (hz : Can c env z) (h : Ex c env ((z, .int j) :: (y, .int i) :: Γ) μ (execs rest env) Q)
    (hs : swapsWithSole [.Tuple [.Name y py, .Name z pz] k tpos] value pos.line env = pure false := by rfl) (hw : swappedStores [.Tuple [.Name y py, .Name z pz] k tpos] value env = pure none := by rfl) :
    Ex c env Γ μ (execs (.Assign [.Tuple [.Name y py, .Name z pz] k tpos] value pos :: rest) env) Q :=
  Ex.step fun s x => Assign_Tuple (wpAny_mono (hv s x) (fun v' s₁ p => by
    obtain ⟨a, t, u, rfl, ha, ht⟩ := p.2.2
    have x₁ := x.grow p.1 p.2.1
    refine assign_Tuple_tuple x.good.room.handled ht rfl rfl fun h' he => ?_
    obtain ⟨g, ti⟩ := x₁.unpacked he
    have x₂ := x₁.grow g ti
    have w := (Went.grow x p.1 p.2.1).trans (Went.grow x₁ g ti)
    refine assignInOrder_cons (wpAny_assign_Name (x₂.store (v := .int i) hy ⟨t, rfl⟩ fun s₃ w₃ x₃ => ?_))
    refine assignInOrder_cons (wpAny_assign_Name (x₃.store (v := .int j) hz ⟨u, rfl⟩ fun s₄ w₄ x₄ => ?_))
    exact assignInOrder_nil ⟨.next, _, μ, (w.trans w₃).trans w₄, x₄, rfl, h⟩) fun _ _ f => f) hs hw
theorem Ex.pairS {y z : Str} {py pz tpos pos : Pos} {k : Nat} {value : Expr} {rest : List Stmt} {i j : Int} (hv : Ev c env Γ μ q value (.pair i j)) (hy : Can c env y) (hz : Can c env z) (h : Ex c env ((y, .int i) :: (z, .int j) :: Γ) μ (execs rest env) Q)
    (hs : swapsWithSole [.Tuple [.Name y py, .Name z pz] k tpos] value pos.line env = pure false := by rfl) (hw : swappedStores [.Tuple [.Name y py, .Name z pz] k tpos] value env = pure (some [y, z]) := by rfl) :
    Ex c env Γ μ (execs (.Assign [.Tuple [.Name y py, .Name z pz] k tpos] value pos :: rest) env) Q :=
  Ex.step fun s x => Assign_Tuple_swapped (names := [y, z]) (wpAny_mono (hv s x) (fun v' s₁ p => by
    obtain ⟨a, t, u, rfl, ha, ht⟩ := p.2.2
    have x₁ := x.grow p.1 p.2.1
    have hun := unpackItems_tuple (prog := c.G.prog) (w := c.G.w) (A := c.A) (E := fun _ _ => False) (s := s₁) (items := #[.int i t, .int j u]) x.good.room.handled ht
      (Q := fun items s₂ => wpAny (model c.G.prog c.G.w) c.A (assignInOrder [bindName env z, bindName env y] items.reverse) (fun _ => ExPost c env μ (fun f Γ' μ' => match f with | .next => Ex c env Γ' μ' (execs rest env) Q | f => Q f Γ' μ') s .next) (fun _ _ => False) s₂)
    refine hun fun h' he => ?_
    clear hun
    show wpAny _ _ (assignInOrder [bindName env z, bindName env y] [.int j u, .int i t]) _ _ _
    obtain ⟨g, ti⟩ := x₁.unpacked he
    have x₂ := x₁.grow g ti
    have w := (Went.grow x p.1 p.2.1).trans (Went.grow x₁ g ti)
    refine assignInOrder_cons (wpAny_bindName (x₂.store (v := .int j) hz ⟨u, rfl⟩ fun s₃ w₃ x₃ => ?_))
    refine assignInOrder_cons (wpAny_bindName (x₃.store (v := .int i) hy ⟨t, rfl⟩ fun s₄ w₄ x₄ => ?_))
    exact assignInOrder_nil ⟨.next, _, μ, (w.trans w₃).trans w₄, x₄, rfl, h⟩) fun _ _ f => f) hs hw

theorem Ex.whileJ {test : Expr} {body rest : List Stmt} {pos : Pos} (J : Nat → Vars → Muts → Prop) (n₀ : Nat) (h0 : J n₀ Γ μ)
    (step : ∀ n Γ₁ μ₁, J n Γ₁ μ₁ → ∃ z, Tst c env Γ₁ μ₁ q test z ∧ (z = true → Ex c env Γ₁ μ₁ (execs body env) (fun f Γ₂ μ₂ => match f with
      | .next | .cont => ∃ Γ₃ m, m < n ∧ Knows Γ₂ Γ₃ ∧ J m Γ₃ μ₂
      | .brk => Ex c env Γ₂ μ₂ (execs rest env) Q
      | .ret v => Q (.ret v) Γ₂ μ₂)) ∧ (z = false → Ex c env Γ₁ μ₁ (execs rest env) Q)) : Ex c env Γ μ (execs (.While test body [] pos :: rest) env) Q :=
  Ex.step fun s x => wpAny_While (by
    refine codeAny_whileLoop (fun n s' => ∃ Γ₁ μ₁, J n Γ₁ μ₁ ∧ St c env Γ₁ μ₁ s' ∧ Went c env μ μ₁ s s') ?_ n₀ ⟨Γ, μ, h0, x, Went.refl _ _ _ _⟩
    rintro n s' ⟨Γ₁, μ₁, hJ, x', w'⟩
    obtain ⟨z, ht, h1, h2⟩ := step n Γ₁ μ₁ hJ
    refine wpAny_mono (ht s' x') (fun z' s₂ p => ?_) fun _ _ f => f.elim
    obtain ⟨p1, p2, rfl⟩ := p
    have x₂ := x'.grow p1 p2
    have w₂ := w'.trans (Went.grow x' p1 p2)
    cases z' with
    | true =>
      refine wpAny_mono (h1 rfl s₂ x₂) (fun f s₃ p => ?_) fun _ _ f => f.elim
      obtain ⟨af, Γ₂, μ₂, w₃, x₃, hf, hQ⟩ := p
      have w₄ := w₂.trans w₃
      cases af with
      | next => obtain rfl : f = .next := hf; obtain ⟨Γ₃, m, hm, hk, hJ'⟩ := hQ; exact ⟨m, hm, Γ₃, μ₂, hJ', x₃.forget hk.lookup, w₄⟩
      | cont => obtain rfl : f = .cont := hf; obtain ⟨Γ₃, m, hm, hk, hJ'⟩ := hQ; exact ⟨m, hm, Γ₃, μ₂, hJ', x₃.forget hk.lookup, w₄⟩
      | brk => obtain rfl : f = .brk := hf; exact ⟨.next, Γ₂, μ₂, w₄, x₃, rfl, hQ⟩
      | ret v => obtain ⟨v', rfl, hv'⟩ := hf; exact ⟨.ret v, Γ₂, μ₂, w₄, x₃, ⟨v', rfl, hv'⟩, hQ⟩
    | false => exact wpAny_execs_nil ⟨.next, Γ₁, μ₁, w₂, x₂, rfl, h2 rfl⟩)
end
end Mine
open PySem PySem.W PyProof.Rows
set_option maxRecDepth 100000
set_option linter.unusedVariables false
namespace Mine
section
variable {c : Cx} {env : Env} {Γ Γ' : Vars} {μ μ' pre post : Muts} {q : Bool} {Q : AFlow → Vars → Muts → Prop} {s : Shared}

/-! lists that change -/
theorem ok_upd {a : Addr} {pl pl' : Bool} {xs xs' : List Int} : c.ok (pre ++ (a, pl', xs') :: post) = c.ok (pre ++ (a, pl, xs) :: post) := by
  funext b; simp only [Cx.ok, List.map_append, List.map_cons]

theorem St.updM {a : Addr} {pl pl' : Bool} {xs xs' : List Int} {vs' : List Value} {h' : Heap} {tk : Nat} (x : St c env Γ (pre ++ (a, pl, xs) :: post) s) (hs : Heap.SameBut a s.heap h') (hl : h'.IsList a vs'.toArray) (hp : pl' = true → h'.PlainList a vs'.toArray)
    (hi : IntsAre vs' xs') : St c env Γ (pre ++ (a, pl', xs') :: post) { s with heap := h', toks := tk } ∧ Went c env (pre ++ (a, pl, xs) :: post) (pre ++ (a, pl', xs') :: post) s { s with heap := h', toks := tk } := by
  have hmem : (a, pl, xs) ∈ pre ++ (a, pl, xs) :: post := List.mem_append_right _ (.head _)
  obtain ⟨⟨vs, ⟨oa, hoa, hca, na, hda⟩, _, _⟩, hnew, hgt⟩ := x.muts a pl xs hmem
  have ham : a ∈ (pre ++ (a, pl, xs) :: post).map (·.1) := List.mem_map_of_mem (f := (·.1)) hmem
  have k : ∀ b o, b ≠ a → s.heap.get? b = some o → h'.get? b = some o := fun b o hb e => hs.extBut b o hb e
  have dne : ∀ b o, (∀ its n, o.data ≠ .seq its n) → s.heap.get? b = some o → b ≠ a := fun b o hd e e' => by
    rw [e', hoa] at e; cases e; exact hd _ _ hda
  have kf : ∀ b o, Hard o → s.heap.get? b = some o → h'.get? b = some o := fun b o hh e => k b o (dne b o (fun its n hd => by
    rcases hh with ⟨fd, h⟩ | ⟨vs, y, t, h, _⟩ <;> rw [hd] at h <;> cases h) e) e
  have hnd := x.nodup
  refine ⟨⟨x.good, x.ti.keeps fun b o ⟨vs, hd⟩ e => k b o (dne b o (fun its n h => by rw [hd] at h; cases h) e) e, fun b o hb e => k b o (fun e' => ?_) (x.keep b o hb e), fun b hb => ?_, ?_, ?_, ?_, ?_, ?_⟩, ⟨_, _, rfl⟩, fun b o _ _ _ h4 e => k b o (fun e' => h4 (e' ▸ ham)) e, fun b hb => .inl ?_, fun b o e => ?_⟩
  · rcases hnew with h | h
    · rw [e', h] at e; cases e
    · exact hb (e' ▸ h)
  · refine (x.tbx b hb).imp id fun h => ?_
    simpa only [List.map_append, List.map_cons] using h
  · obtain ⟨ρ, o, es, ep, ho, hd, r⟩ := x.frame
    exact ⟨ρ, o, es, ep, k _ _ (dne _ _ (fun its n h => by rw [hd] at h; cases h) ho) ho, hd, r⟩
  · intro y b hb
    obtain ⟨v, o, ho, hd⟩ := x.cells y b hb
    exact ⟨v, o, k _ _ (dne _ _ (fun its n h => by rw [hd] at h; cases h) ho) ho, hd⟩
  · intro y v hv
    obtain ⟨h1, h2⟩ := x.vars y v hv
    have up : ∀ u, v.is (c.ok (pre ++ (a, pl, xs) :: post)) s.heap u → v.is (c.ok (pre ++ (a, pl', xs') :: post)) h' u := fun u hu =>
      hu.mono (fun b o hb ho _ _ => ⟨by rw [ok_upd (pl := pl) (xs := xs)]; exact hb, k b o (fun e => hb.2.1 (e ▸ ham)) ho⟩) kf
    refine ⟨fun hk => ?_, fun hk => ?_⟩
    · obtain ⟨ρ, w, ⟨o, es, ep, ho, hd, r⟩, hw, hp⟩ := h1 hk
      exact ⟨ρ, w, ⟨o, es, ep, k _ _ (dne _ _ (fun its n h => by rw [hd] at h; cases h) ho) ho, hd, r⟩, hw, up _ hp⟩
    · obtain ⟨b, w, hb, ⟨o, ho, hd⟩, hp⟩ := h2 hk
      exact ⟨b, w, hb, ⟨o, k _ _ (dne _ _ (fun its n h => by rw [hd] at h; cases h) ho) ho, hd⟩, up _ hp⟩
  · intro b plb ys hb
    have hb' : b = a ∧ plb = pl' ∧ ys = xs' ∨ ((b, plb, ys) ∈ pre ++ (a, pl, xs) :: post ∧ b ≠ a) := by
      have nd : (pre.map (·.1) ++ a :: post.map (·.1)).Nodup := by simpa only [List.map_append, List.map_cons] using hnd
      rw [List.nodup_append] at nd
      obtain ⟨_, nd2, nd3⟩ := nd
      rw [List.nodup_cons] at nd2
      rcases List.mem_append.mp hb with h | h
      · refine .inr ⟨List.mem_append_left _ h, fun e => ?_⟩
        exact nd3 b (List.mem_map_of_mem (f := (·.1)) h) a (.head _) e
      · rcases List.mem_cons.mp h with h | h
        · cases h; exact .inl ⟨rfl, rfl, rfl⟩
        · refine .inr ⟨List.mem_append_right _ (.tail _ h), fun e => nd2.1 ?_⟩
          rw [← e]; exact List.mem_map_of_mem (f := (·.1)) h
    rcases hb' with ⟨rfl, rfl, rfl⟩ | ⟨hb', hne⟩
    · exact ⟨⟨vs', hl, hp, hi⟩, hnew, hgt⟩
    · obtain ⟨⟨us, ⟨o, ho, r⟩, hp', hi'⟩, h2, h3⟩ := x.muts b plb ys hb'
      exact ⟨⟨us, ⟨o, k _ _ hne ho, r⟩, fun e => (hp' e).at fun o' e' => k _ _ hne e', hi'⟩, h2, h3⟩
  · simpa only [List.map_append, List.map_cons] using hnd
  · simpa only [List.map_append, List.map_cons] using hb
  · by_cases hb : b = a
    · obtain ⟨o', e', _⟩ := hl; exact ⟨o', by rw [hb]; exact e'⟩
    · exact ⟨o, k b o hb e⟩

/-- xs.append(e) -/
theorem Ex.append {o e : Expr} {apos pos pos' : Pos} {rest : List Stmt} {a : Addr} {xs : List Int} {v : Int} {pl : Sem Bool} (ho : Ev c env Γ (pre ++ (a, true, xs) :: post) q o (.raw (.ref a))) (he : Ev c env Γ (pre ++ (a, true, xs) :: post) q e (.int v)) (hsz : xs.length ≤ 100000)
    (h : Ex c env Γ (pre ++ (a, true, xs ++ [v]) :: post) (execs rest env) Q)
    (hc : eval (.Call (.Attribute o (Str.ofString "append") apos) [e] [] pos) env = (do
      let ov ← eval o env
      standAt apos.atName
      let (f, first) ← holding [ov] (getMethod ov (Str.ofString "append") pl)
      callWith pos f first (backTo pos (starEach [e] env)) []) := by rfl)
    (hst : starEach [e] env = (false, eval e env) :: starEach [] env := by rfl)
    (hin : interactive env = false := by rfl) (hsw : swapsWith (.Call (.Attribute o (Str.ofString "append") apos) [e] [] pos) none pos'.line env = pure false := by rfl) :
    Ex c env Γ (pre ++ (a, true, xs) :: post) (execs (.Expr (.Call (.Attribute o (Str.ofString "append") apos) [e] [] pos) pos' :: rest) env) Q :=
  Ex.step fun s x => wpAny_Expr_any (MethodCall_ (pl := pl) (wpAny_mono (ho s x) (fun ov s₁ p => by
    obtain rfl : ov = .ref a := p.2.2
    have x₁ := x.grow p.1 p.2.1
    have hmem : (a, true, xs) ∈ pre ++ (a, true, xs) :: post := List.mem_append_right _ (.head _)
    obtain ⟨⟨vs, _, hp, hi⟩, _⟩ := x₁.muts a true xs hmem
    obtain ⟨n, hpl⟩ := hp rfl
    refine Calls.getMethod_list_append hpl rfl rfl ?_
    rw [hst]
    refine Calls.callWith_builtin rfl (Calls.evalArgs_plain (Calls.spliced_cons (wpAny_mono (he s₁ x₁) (fun ev s₂ p₂ => Calls.spliced_nil ?_) fun _ _ f => f)))
    obtain ⟨t, rfl⟩ := p₂.2.2
    have x₂ := x₁.grow p₂.1 p₂.2.1
    obtain ⟨⟨vs', _, hp', hi'⟩, _⟩ := x₂.muts a true xs hmem
    have e1 := hi'.length
    refine wpAny_list_append_plain (hp' rfl) (fun h' hl' hs' => ?_) (by simp only [List.size_toArray]; unfold sizeLine; omega)
    have hl2 : h'.PlainList a (vs' ++ [Value.int v t]).toArray := by simpa using hl'
    obtain ⟨st, w⟩ := x₂.updM (pl' := true) (xs' := xs ++ [v]) (tk := s₂.toks) hs' hl2.isList (fun _ => hl2) (hi'.append (.cons v t .nil))
    exact ⟨.next, _, _, ((Went.grow x p.1 p.2.1).trans (Went.grow x₁ p₂.1 p₂.2.1)).trans w, st, rfl, h⟩) fun _ _ f => f) hc) hin hsw

/-- xs.reverse() -/
theorem Ex.reverse {o : Expr} {apos pos pos' : Pos} {rest : List Stmt} {a : Addr} {xs : List Int} {pl : Sem Bool} (ho : Ev c env Γ (pre ++ (a, true, xs) :: post) q o (.raw (.ref a))) (hsz : xs.length ≤ 100000)
    (h : Ex c env Γ (pre ++ (a, true, xs.reverse) :: post) (execs rest env) Q)
    (hc : eval (.Call (.Attribute o (Str.ofString "reverse") apos) [] [] pos) env = (do
      let ov ← eval o env
      standAt apos.atName
      let (f, first) ← holding [ov] (getMethod ov (Str.ofString "reverse") pl)
      callWith pos f first (backTo pos (starEach [] env)) []) := by rfl)
    (hin : interactive env = false := by rfl) (hsw : swapsWith (.Call (.Attribute o (Str.ofString "reverse") apos) [] [] pos) none pos'.line env = pure false := by rfl) :
    Ex c env Γ (pre ++ (a, true, xs) :: post) (execs (.Expr (.Call (.Attribute o (Str.ofString "reverse") apos) [] [] pos) pos' :: rest) env) Q :=
  Ex.step fun s x => wpAny_Expr_any (MethodCall_ (pl := pl) (wpAny_mono (ho s x) (fun ov s₁ p => by
    obtain rfl : ov = .ref a := p.2.2
    have x₁ := x.grow p.1 p.2.1
    have hmem : (a, true, xs) ∈ pre ++ (a, true, xs) :: post := List.mem_append_right _ (.head _)
    obtain ⟨⟨vs, hL, hp, hi⟩, _⟩ := x₁.muts a true xs hmem
    obtain ⟨n, hpl⟩ := hp rfl
    have e1 := hi.length
    refine getMethod_list_of (items := vs.toArray) PySem.F.slot_list_reverse PySem.F.type_list_reverse hL ⟨_, hpl, rfl⟩ ?_
    refine Calls.callWith_builtin rfl (evalArgs_nil3 ?_)
    refine call_meets PySem.F.slot_list_reverse ⟨_, hpl, rfl⟩ PySem.F.entry_list_reverse (PySem.F.args_list_reverse_1 _) (AutoSeq1.list_reverse_list_0 a vs.toArray n (by simp only [List.size_toArray]; unfold sizeLine; omega)) ⟨hpl, ?_⟩
    have hl2 : (s₁.heap.update a (Obj.mapSeq fun x => x.reverse)).PlainList a vs.reverse.toArray := by
      refine ⟨n, ?_⟩
      rw [Heap.get?_update_self _ hpl (by rw [mapSeq_reverse]; rfl), mapSeq_reverse]
    obtain ⟨st, w⟩ := x₁.updM (pl' := true) (xs' := xs.reverse) (tk := s₁.toks) (Heap.SameBut.update ..) hl2.isList (fun _ => hl2) (IntsAre.reverse hi)
    exact ⟨.next, _, _, (Went.grow x p.1 p.2.1).trans w, st, rfl, h⟩) fun _ _ f => f) hc) hin hsw

theorem ints_set : ∀ {vs : List Value} {xs : List Int} {k : Nat} {v : Int} {t : Tok}, IntsAre vs xs → IntsAre (vs.set k (.int v t)) (xs.set k v)
  | _, _, _, _, _, .nil => .nil
  | _, _, 0, v, t, .cons _ _ h => .cons v t h
  | _, _, k + 1, _, _, .cons n t' h => .cons n t' (ints_set h)

/-- xs[i] = e -/
theorem Ex.setItem {o i e : Expr} {spos pos : Pos} {rest : List Stmt} {a : Addr} {pl : Bool} {xs : List Int} {k v : Int} (he : Ev c env Γ (pre ++ (a, pl, xs) :: post) q e (.int v)) (ho : Ev c env Γ (pre ++ (a, pl, xs) :: post) q o (.raw (.ref a)))
    (hi : Ev c env Γ (pre ++ (a, pl, xs) :: post) q i (.int k)) (h0 : 0 ≤ k) (hk : k < xs.length) (hsz : xs.length ≤ 100000) (h : Ex c env Γ (pre ++ (a, false, xs.set k.toNat v) :: post) (execs rest env) Q)
    (hs : swapsWith e (some (.Subscript o i spos)) pos.line env = pure false := by rfl) :
    Ex c env Γ (pre ++ (a, pl, xs) :: post) (execs (.Assign [.Subscript o i spos] e pos :: rest) env) Q :=
  Ex.step fun s x => wpAny_Assign_Subscript (wpAny_mono (he s x) (fun ev s₁ p₁ => wpAny_mono (ho s₁ (x.grow p₁.1 p₁.2.1)) (fun ov s₂ p₂ => wpAny_mono (hi s₂ ((x.grow p₁.1 p₁.2.1).grow p₂.1 p₂.2.1)) (fun iv s₃ p₃ => by
    obtain ⟨t, rfl⟩ := p₁.2.2
    obtain rfl : ov = .ref a := p₂.2.2
    obtain ⟨u, rfl⟩ := p₃.2.2
    have x₁ := x.grow p₁.1 p₁.2.1
    have x₂ := x₁.grow p₂.1 p₂.2.1
    have x₃ := x₂.grow p₃.1 p₃.2.1
    have hmem : (a, pl, xs) ∈ pre ++ (a, pl, xs) :: post := List.mem_append_right _ (.head _)
    obtain ⟨⟨vs, hL, hp, hI⟩, _⟩ := x₃.muts a pl xs hmem
    have e1 := hI.length
    refine wpAny_setItem_list hL h0 (by omega) (by simp only [List.size_toArray]; omega) fun h' hl' hs' => ?_
    have hl2 : h'.IsList a (vs.set k.toNat (.int v t)).toArray := by simpa using hl'
    obtain ⟨st, w⟩ := x₃.updM (pl' := false) (xs' := xs.set k.toNat v) (tk := s₃.toks) hs' hl2 (fun e => nomatch e) (ints_set hI)
    exact ⟨.next, _, _, (((Went.grow x p₁.1 p₁.2.1).trans (Went.grow x₁ p₂.1 p₂.2.1)).trans (Went.grow x₂ p₃.1 p₃.2.1)).trans w, st, rfl, h⟩) fun _ _ f => f) fun _ _ f => f) fun _ _ f => f) hs

/-- an item of a list that changes -/
theorem Ev.itemM {v i : Expr} {pos : Pos} {a : Addr} {pl : Bool} {xs : List Int} {k n : Int} (hv : Ev c env Γ μ q v (.raw (.ref a))) (hm : (a, pl, xs) ∈ μ) (hi : Ev c env Γ μ q i (.int k)) (h0 : 0 ≤ k) (hk : k < 2 ^ 62) (hx : xs[k.toNat]? = some n)
    (hs : ∀ o j, subscripted i false o j = operate [o, j] (getItem o j) := by intro _ _; rfl) : Ev c env Γ μ q (.Subscript v i pos) (.int n) := fun s x =>
  Subscript_ (wpAny_mono (hv s x) (fun va s₁ p₁ => wpAny_mono (hi s₁ (x.grow p₁.1 p₁.2.1)) (fun vb s₂ p₂ => by
    obtain rfl : va = .ref a := p₁.2.2
    obtain ⟨u, rfl⟩ := p₂.2.2
    obtain ⟨⟨vs, h1, _, i1⟩, _⟩ := ((x.grow p₁.1 p₁.2.1).grow p₂.1 p₂.2.1).muts a pl xs hm
    obtain ⟨t, ht⟩ := i1.get k.toNat n hx
    exact tail_any h1.typeIs slot_list_getitem.lookup (wpAny_getItem_list h1 h0 (by omega) (x := .int n t) (by simpa using ht) ⟨p₁.1.trans p₂.1, p₂.2.1, _, rfl⟩) (hs _ _)) fun _ _ f => f) fun _ _ f => f)

theorem Ev.lenM {f a : Expr} {pos : Pos} {l : Addr} {pl : Bool} {xs : List Int} (hf : Ev c env Γ μ q f (.raw (.builtin "len"))) (h : Ev c env Γ μ q a (.raw (.ref l))) (hm : (l, pl, xs) ∈ μ) (hsz : xs.length < 2 ^ 62)
    (he : eval (.Call f [a] [] pos) env = (do callWith pos (← eval f env) [] (backTo pos (starEach [a] env)) (backToKw pos (keywordEach [] env))) := by rfl)
    (hs : starEach [a] env = (false, eval a env) :: starEach [] env := by rfl) : Ev c env Γ μ q (.Call f [a] [] pos) (.int xs.length) :=
  Ev.callB hf (EvA.cons h EvA.nil hs) (fun s ys x ha => by
    cases ha with
    | cons h1 h2 =>
      cases h2
      cases h1
      obtain ⟨⟨vs, hl, _, hi⟩, _⟩ := x.muts l pl xs hm
      have e := hi.length
      refine Calls.call_len_list hl (by simp only [List.size_toArray]; omega) ⟨Grow.tok _ _ _, x.ti, s.toks + 1, ?_⟩
      simp only [List.size_toArray, e]) he hs rfl

/-- a list changes no more -/
theorem St.freeze {y : Str} {a : Addr} {pl : Bool} {xs : List Int} (x : St c env Γ (pre ++ (a, pl, xs) :: post) s) (hy : Γ.lookup y = some (.raw (.ref a))) (ht : a ∉ c.tb) : St c env ((y, .lst xs) :: Γ) (pre ++ post) s := by
  have hmem : (a, pl, xs) ∈ pre ++ (a, pl, xs) :: post := List.mem_append_right _ (.head _)
  obtain ⟨⟨vs, hL, hp, hi⟩, hnew, hgt⟩ := x.muts a pl xs hmem
  have hnd := x.nodup
  have nd : (pre.map (·.1) ++ a :: post.map (·.1)).Nodup := by simpa only [List.map_append, List.map_cons] using hnd
  have nd' := nd
  rw [List.nodup_append] at nd
  obtain ⟨nd1, nd2, nd3⟩ := nd
  rw [List.nodup_cons] at nd2
  have ha : a ∉ (pre ++ post).map (·.1) := by
    rw [List.map_append, List.mem_append]
    rintro (h | h)
    · exact nd3 a h a (.head _) rfl
    · exact nd2.1 h
  have sub : ∀ b, c.ok (pre ++ (a, pl, xs) :: post) b → c.ok (pre ++ post) b := fun b hb => ⟨hb.1, fun hm => hb.2.1 (by
    rw [List.map_append, List.mem_append] at hm
    rw [List.map_append, List.mem_append, List.map_cons]
    exact hm.imp id fun h => .tail _ h), hb.2.2⟩
  have up : ∀ (v : AV) u, v.is (c.ok (pre ++ (a, pl, xs) :: post)) s.heap u → v.is (c.ok (pre ++ post)) s.heap u := fun v u hu => hu.mono (fun b o hb ho _ _ => ⟨sub b hb, ho⟩) fun _ _ _ e => e
  have hoka : c.ok (pre ++ post) a := ⟨.inl (hnew.resolve_right ht), ha, ht⟩
  refine ⟨x.good, x.ti, x.keep, fun b hb => ?_, x.frame, x.cells, fun z v hz => ?_, fun b plb ys hb => ?_, ?_⟩
  · refine (x.tbx b hb).imp id fun h => ?_
    rw [List.map_append, List.mem_append, List.map_cons] at h
    rw [List.map_append, List.mem_append]
    refine h.imp id fun h => ?_
    rcases List.mem_cons.mp h with e | h
    · have e' : b = a := e
      rw [e'] at hb; exact absurd hb ht
    · exact h
  · rw [List.lookup_cons] at hz
    cases hzy : z == y with
    | true =>
      rw [hzy] at hz; cases hz
      have e := beq_iff_eq.mp hzy
      subst e
      obtain ⟨h1, h2⟩ := x.vars z _ hy
      refine ⟨fun hk => ?_, fun hk => ?_⟩
      · obtain ⟨ρ, w, hρ, hw, rfl⟩ := h1 hk
        exact ⟨ρ, _, hρ, hw, a, vs, rfl, hoka, hL, hi⟩
      · obtain ⟨b, w, hb, hc, rfl⟩ := h2 hk
        exact ⟨b, _, hb, hc, a, vs, rfl, hoka, hL, hi⟩
    | false =>
      rw [hzy] at hz
      obtain ⟨h1, h2⟩ := x.vars z v hz
      refine ⟨fun hk => ?_, fun hk => ?_⟩
      · obtain ⟨ρ, w, hρ, hw, hp⟩ := h1 hk
        exact ⟨ρ, w, hρ, hw, up _ _ hp⟩
      · obtain ⟨b, w, hb, hc, hp⟩ := h2 hk
        exact ⟨b, w, hb, hc, up _ _ hp⟩
  · exact x.muts b plb ys (by
      rcases List.mem_append.mp hb with h | h
      · exact List.mem_append_left _ h
      · exact List.mem_append_right _ (.tail _ h))
  · rw [List.map_append, List.nodup_append]
    exact ⟨nd1, nd2.2, fun p hp q' hq e => nd3 p hp q' (.tail _ hq) e⟩
theorem Ex.freeze {y : Str} {a : Addr} {pl : Bool} {xs : List Int} {t : Sem Flow} (hy : Γ.lookup y = some (.raw (.ref a))) (ht : a ∉ c.tb) (h : Ex c env ((y, .lst xs) :: Γ) (pre ++ post) t Q) : Ex c env Γ (pre ++ (a, pl, xs) :: post) t Q := fun s x =>
  wpAny_mono (h s (x.freeze hy ht)) (fun f s' p => by
    obtain ⟨af, Γ', μ', w, st, hf, hQ⟩ := p
    refine ⟨af, Γ', μ', ⟨w.same, fun b o h1 h2 h3 h4 e => w.kept b o h1 h2 h3 (fun hm => h4 ?_) e, fun b hb => (w.mu b hb).imp (fun h => ?_) id, w.ex⟩, st, hf, hQ⟩
    · rw [List.map_append, List.mem_append] at hm
      rw [List.map_append, List.mem_append, List.map_cons]
      exact hm.imp id fun h => .tail _ h
    · rw [List.map_append, List.mem_append] at h
      rw [List.map_append, List.mem_append, List.map_cons]
      exact h.imp id fun h => .tail _ h) fun _ _ f => f
end
end Mine
open PySem PySem.W PyProof.Rows
set_option maxRecDepth 100000
set_option linter.unusedVariables false
namespace Mine

/-! defs within defs -/
structure Pg.Nest (G : Pg) : Prop where
  code : ∀ t ∈ G.tabs, CodeHd G.g t.c t.P
  one : ∀ t ∈ G.tabs, ∀ t' ∈ G.tabs, t.P = t'.P → t = t'
  bmain : ∃ mg bm ob, G.g.Ns mainGlobals mg ∧ mg "__builtins__" = some (.ref bm) ∧ bm ≠ builtinsNs ∧ G.g.get? bm = some ob ∧ ob.cls = .type "module" ∧ ob.dict = some builtinsNs ∧ ob.data = .plain

section
variable {c : Cx} {env : Env} {Γ Γ' : Vars} {μ μ' pre post : Muts} {q : Bool} {Q : AFlow → Vars → Muts → Prop} {s : Shared}

/-- def inner(..): .. -/
theorem Ex.def_ {name : Str} {params : Arguments} {body rest : List Stmt} {scope : Scope} {pos : Pos} {t : Tab} (hN : c.G.Nest) (ht : t ∈ c.G.tabs) (hcode : env.code = .ref t.c) (hp1 : t.line = pos.line) (hp2 : t.col = pos.col) (hq : t.qual = qualnameIn env name name)
    (hfr : (scope.names.all fun y => y.2 != .free || (env.cells.lookup y.1).isSome) = true) (hk : Can c env name)
    (h : ∀ f fd, (∃ doc pm c' ctv, fd = fnX name (qualnameIn env name name) params body scope (clOf env.cells scope.names []) .none .none doc pm none (.ref c') ctv) → Ex c env ((name, .fn f fd) :: Γ) μ (execs rest env) Q)
    (hd0 : params.defaults = [] := by rfl) (hk0 : params.kw_defaults = [] := by rfl) (ha : annTrees params none env = [] := by rfl) :
    Ex c env Γ μ (execs (.FunctionDef name params body [] none [] scope none name pos :: rest) env) Q := Ex.step fun s x => by
  refine nestDef_K hd0 hk0 ha ?_
  obtain ⟨mg, bm, ob, hg, b1, b2, b3, b4, b5, b6⟩ := hN.bmain
  have hgs : s.heap.Ns mainGlobals mg := hg.keeps x.top
  obtain ⟨ps₀, htab⟩ := x.ti.isTab (List.mem_map_of_mem (f := (·.P)) ht)
  have hgP : mainGlobals ≠ t.P := fun e => by
    obtain ⟨o, es, ep, e', hd, _⟩ := hgs
    rw [e, htab] at e'; cases e'; cases hd
  have hbP : bm ≠ t.P := fun e => by
    have e' := x.top _ _ b3
    rw [e, htab] at e'; cases e'; cases b4
  have hbG : bm ≠ mainGlobals := fun e => by
    obtain ⟨o, es, ep, e', hd, _⟩ := hg
    rw [e, e'] at b3; cases b3; rw [hd] at b6; cases b6
  have C : CodeHd s.heap t.c t.P := (hN.code t ht).keeps x.top
  have hcl := closureFor_eq (scope := scope) (env := env) fun y hy e => by
    have := List.all_eq_true.mp hfr y hy
    simpa [e] using this
  have fin : ∀ (f : Addr) (fd : FuncData) (h' : Heap) (tk : Nat), (∃ doc pm c' ctv, fd = fnX name (qualnameIn env name name) params body scope (clOf env.cells scope.names []) .none .none doc pm none (.ref c') ctv) → FnAt h' f fd →
      Heap.ExtBut t.P s.heap h' → TI c.G h' → wpAny (model c.G.prog c.G.w) c.A (storeName env name (.ref f)) (fun _ s'' => ExPost c env μ (fun f Γ' μ' => match f with | .next => Ex c env Γ' μ' (execs rest env) Q | f => Q f Γ' μ') s .next s'') (fun _ _ => False) { s with heap := h', toks := tk } := by
    intro f fd h' tk hfd hat hx hti
    have g : Grow (c.G.may false) s { s with heap := h', toks := tk } := ⟨h', tk, rfl, fun b o hb e => hx b o (fun e' => hb (by rw [e']; exact List.mem_map_of_mem (f := (·.P)) ht)) e⟩
    exact (x.grow g hti).store (v := .fn f fd) hk ⟨rfl, hat⟩ fun s' w st => ⟨.next, _, μ, (Went.grow x g hti).trans w, st, rfl, h f fd hfd⟩
  have others : ∀ (h' : Heap) (c' : Addr), Heap.ExtBut t.P s.heap h' → h'.get? t.P = some (tabObj #[rawInt t.line, rawInt t.col, .ref c']) → h'.CodeRec (.ref c') t.qual → TI c.G h' := by
    intro h' c' hx hP hrec t' ht'
    by_cases e : t.P = t'.P
    · have := hN.one t ht t' ht' e
      subst this
      exact .inr ⟨c', hP, hrec⟩
    · rcases x.ti t' ht' with e' | ⟨c₂, e', c₃, o, vs, tk', e2, ho, hd, hv⟩
      · exact .inl (hx _ _ (Ne.symm e) e')
      · refine .inr ⟨c₂, hx _ _ (Ne.symm e) e', c₃, o, vs, tk', e2, hx _ _ (fun e3 => ?_) ho, hd, hv⟩
        exact x.ti.notTab (List.mem_map_of_mem (f := (·.P)) ht) (e3 ▸ ho) (.inr ⟨vs, _, tk', hd, hv⟩)
  rcases x.ti t ht with e | ⟨c', e, hrec⟩
  · refine makeFunction_K (mg := mg) hcl x.good.glob hgs hcode C e (by exact True.intro) (by rfl) hgP ⟨bm, ob, b1, b2, hbG, hbP, x.top _ _ b3, b4, b5, b6⟩ fun c' ctv doc h' tk hx hge hlt hrec hP => ?_
    have hP' : h'.get? t.P = some (tabObj #[rawInt t.line, rawInt t.col, .ref c']) := by rw [hP, hp1, hp2]; simp
    have hti := others h' c' hx hP' (by rw [hq]; exact hrec)
    refine fin h'.objs.size _ _ tk ⟨doc, _, c', ctv, rfl⟩ ⟨⟨_, Heap.get?_push_size _ rfl, rfl, rfl⟩, hrec.push _⟩ (hx.push _) (hti.push _)
  · refine makeFunction_hit (mg := mg) (cv := .ref c') hcl x.good.glob hgs hcode C e (by simp [TriplesOk, rawInt]) (by simp [codeAmong, rawInt, hp1, hp2]) ⟨bm, ob, b1, b2, hbG, hbP, x.top _ _ b3, b4, b5, b6⟩ fun ctv doc h' tk hk' hsz => ?_
    have hti : TI c.G h' := x.ti.keeps fun b o _ e => hk' b o e
    have hrec' : h'.CodeRec (.ref c') (qualnameIn env name name) := by rw [← hq]; exact hrec.keeps hk'
    refine fin h'.objs.size _ _ tk ⟨doc, _, c', ctv, rfl⟩ ⟨⟨_, Heap.get?_push_size _ rfl, rfl, rfl⟩, hrec'.push _⟩ (fun b o _ e => Heap.get?_push_of_some _ (hk' b o e)) (hti.push _)
end

/-- what a closure's cells hold -/
def Clo (ok : Addr → Prop) (h : Heap) (cl : List (Str × Addr)) (Γc : Vars) : Prop :=
  (∀ x v, Γc.lookup x = some v → ∃ a w, cl.lookup x = some a ∧ h.IsCell a (some w) ∧ v.is ok h w) ∧ ∀ x a, (x, a) ∈ cl → ∃ v, h.IsCell a v

def Lists (h : Heap) (μ : Muts) : Prop := ∀ a pl xs, (a, pl, xs) ∈ μ → ∃ vs, h.IsList a vs.toArray ∧ (pl = true → h.PlainList a vs.toArray) ∧ IntsAre vs xs

/-- what a closure gives back, and what it makes of the lists -/
def FnC (G : Pg) (d : Nat) (f : Addr) (fd : FuncData) (Γc : Vars) (args : List AV) (r : AV) (μ₀ μ₁ : Muts) : Prop :=
  ∀ (A : Around) (s : Shared) (vs : List Value) (okA : Addr → Prop), Room A d → (∀ b o, G.g.get? b = some o → s.heap.get? b = some o) → TI G s.heap → (∀ a, okA a → a ∉ G.tb ∧ a ∉ μ₀.map (·.1)) → AllIs okA s.heap args vs →
    FnAt s.heap f fd → Clo okA s.heap fd.closure Γc → Lists s.heap μ₀ → (μ₀.map (·.1)).Nodup → (∀ a ∈ μ₀.map (·.1), a ∉ G.tb ∧ G.g.get? a = none) →
    wpAny (model G.prog G.w) A (call (.ref f) vs) (fun v s' => Grow (μ₀.map (·.1) ++ G.tb) s s' ∧ TI G s'.heap ∧ r.is (fun a => s.heap.get? a = none ∨ okA a) s'.heap v ∧ Lists s'.heap μ₁) (fun _ _ => False) s

theorem lookup_mem {α : Type} : ∀ {l : List (Str × α)} {y : Str} {v : α}, (l.map (·.1)).Nodup → (y, v) ∈ l → l.lookup y = some v
  | (n, w) :: r, y, v, hn, h => by
    rw [List.map_cons, List.nodup_cons] at hn
    rw [List.lookup_cons]
    rcases List.mem_cons.mp h with e | h
    · cases e; simp
    · have : y ≠ n := fun e => hn.1 (e ▸ List.mem_map_of_mem (f := (·.1)) h)
      rw [beq_eq_false_iff_ne.mpr this]
      exact lookup_mem hn.2 h

structure ClosOk (fd : FuncData) (names : List Str) (body : List Stmt) : Prop where
  body : fd.body = .stmts body
  glob : fd.globals = mainGlobals
  bi : fd.builtins = builtinsNs
  kind : fd.scope.kind = .function
  co : fd.scope.isCoroutine = false
  gen : fd.scope.isGenerator = false
  nodup : names.Nodup
  kinds : ∀ x ∈ names, fd.scope.names.lookup x = some .local
  nocell : ∀ x ∈ fd.scope.names, x.2 ≠ .cell

theorem cell_notList {h : Heap} {a : Addr} {v : Option Value} {items : Array Value} (x : h.IsCell a v) (y : h.IsList a items) : False := by
  obtain ⟨o, ho, hd⟩ := x
  obtain ⟨o', ho', _, n, hd'⟩ := y
  rw [ho] at ho'; cases ho'; rw [hd] at hd'; cases hd'

theorem FnC.mk {G : Pg} {d : Nat} {f : Addr} {fd : FuncData} {Γc : Vars} {args : List AV} {r : AV} {μ₀ μ₁ : Muts} {body : List Stmt} {names : List Str} (hG : G.Good) (D : ClosOk fd names body)
    (hbind : ∀ vs : List Value, vs.length = args.length → bindArgs fd ⟨vs, []⟩ = pure (names.zip vs)) (hlen : names.length = args.length) (hadr : μ₁.map (·.1) = μ₀.map (·.1)) (hfree : (Γc.all fun p => fd.scope.names.lookup p.1 == some .free) = true)
    (h : ∀ (A : Around) (base : Heap) (okA : Addr → Prop) (L : Addr),
      Ex ⟨G, A, d, base, okA, μ₀.map (·.1) ++ G.tb⟩ (callEnv fd L f) (names.zip args ++ Γc) μ₀ (execs body (callEnv fd L f)) (fun fl _ μ' => (fl = .ret r ∨ (fl = .next ∧ r = .raw .none)) ∧ μ' = μ₁)) : FnC G (d + 1) f fd Γc args r μ₀ μ₁ := by
  intro A s vs okA hr hg hti hok ha hat hclo hls hnd hmt
  have hl := ha.length
  have hnm : (names.zip vs).map (·.1) = names := zip_names (by rw [hl, hlen])
  have hnd' : ((names.zip vs).map (·.1)).Nodup := by rw [hnm]; exact D.nodup
  obtain ⟨⟨of, hof, _, hdf⟩, hrec⟩ := hat
  refine wpAny_call (codeAny_call_def (fd := fd) (binds := names.zip vs) hr.lt hof hdf (hG.lim.keeps hg) hrec D.body (BindsTo.of_eq (hbind vs hl)) D.nocell (fun y hy => ?_) (fun h₁ hns hk₁ => ?_) D.co D.gen D.kind)
  · have hy' : y.1 ∈ names := by rw [← hnm]; exact List.mem_map_of_mem hy
    exact D.kinds y.1 hy'
  · have hcl : (callEnv fd s.heap.objs.size f).cells = fd.closure := rfl
    have st : St ⟨G, A.deeper (callEnv fd s.heap.objs.size f), d, s.heap, okA, μ₀.map (·.1) ++ G.tb⟩ (callEnv fd s.heap.objs.size f) (names.zip args ++ Γc) μ₀ { s with heap := h₁, toks := s.toks + (names.zip vs).length } := by
      have up : ∀ (v : AV) w, v.is okA s.heap w → v.is (Cx.ok ⟨G, A.deeper (callEnv fd s.heap.objs.size f), d, s.heap, okA, μ₀.map (·.1) ++ G.tb⟩ μ₀) h₁ w := fun v w hv =>
        hv.mono (fun a o ha' ho' _ _ => ⟨⟨.inr ha', (hok a ha').2, fun hm => (List.mem_append.mp hm).elim (hok a ha').2 (hok a ha').1⟩, hk₁ a o ho'⟩) fun b o _ e => hk₁ b o e
      refine ⟨⟨hr.deeper _, fun b o e => ⟨fun hm => ?_, hg b o e⟩, hG.lim, fun b h => List.mem_append_right _ h, fun b hb => ?_, D.kind, D.glob, D.bi, get?_size _, fun y a hy ht => ?_, fun y a hy e => ?_⟩, hti.keeps fun b o _ e => hk₁ b o e, fun b o _ e => hk₁ b o e, fun b hb => (List.mem_append.mp hb).symm,
        ⟨_, hns⟩, fun y a hy => ?_, fun y v hv => ?_, fun a pl xs ha' => ?_, hnd⟩
      · rcases List.mem_append.mp hm with hm | hm
        · rw [(hmt b hm).2] at e; cases e
        · exact hG.gtb b o e hm
      · rcases List.mem_append.mp hb with hb | hb
        · obtain ⟨p, hp, rfl⟩ := List.mem_map.mp hb
          obtain ⟨us, ⟨o, ho, _⟩, _⟩ := hls p.1 p.2.1 p.2.2 hp
          exact ⟨o, ho⟩
        · obtain ⟨ps, e⟩ := hti.isTab hb; exact ⟨_, e⟩
      · obtain ⟨v, hc⟩ := hclo.2 y a hy
        rcases List.mem_append.mp ht with hb | hb
        · obtain ⟨p, hp, rfl⟩ := List.mem_map.mp hb
          obtain ⟨us, hL, _⟩ := hls p.1 p.2.1 p.2.2 hp
          exact cell_notList hc hL
        · obtain ⟨ps, e⟩ := hti.isTab hb
          obtain ⟨o, ho, hd⟩ := hc
          rw [e] at ho; cases ho; cases hd
      · obtain ⟨v, o, ho, _⟩ := hclo.2 y a hy
        have e' : a = s.heap.objs.size := e
        rw [e', get?_size] at ho; cases ho
      · obtain ⟨v, hc⟩ := hclo.2 y a hy
        exact ⟨v, hc.keeps hk₁⟩
      · have hv' : (names.zip args).lookup y = some v ∨ Γc.lookup y = some v := by
          rw [List.lookup_append] at hv
          cases e : (names.zip args).lookup y with
          | some w => rw [e] at hv; exact .inl hv
          | none => rw [e] at hv; exact .inr hv
        rcases hv' with hv' | hv'
        · obtain ⟨v', hm, hvv⟩ := zip_get ha hv'
          have hy' : y ∈ names := by rw [← hnm]; exact List.mem_map_of_mem (f := (·.1)) hm
          have hkl : (callEnv fd s.heap.objs.size f).kindOf y = some .local := D.kinds y hy'
          refine ⟨fun _ => ⟨_, v', hns, ?_, up _ _ hvv⟩, fun hk => ?_⟩
          · exact lookup_mem (by rw [List.map_reverse]; exact (List.reverse_perm _).nodup_iff.mpr hnd') (List.mem_reverse.mpr hm)
          · rw [hkl] at hk; rcases hk with h | h <;> cases h
        · obtain ⟨a, w, hla, hcell, hvw⟩ := hclo.1 y v hv'
          have hkl : (callEnv fd s.heap.objs.size f).kindOf y = some .free := by
            have := List.all_eq_true.mp hfree _ (mem_of_lookup hv')
            exact beq_iff_eq.mp this
          refine ⟨fun hk => ?_, fun _ => ⟨a, w, hla, hcell.keeps hk₁, up _ _ hvw⟩⟩
          rw [hkl] at hk; cases hk
      · obtain ⟨us, hL, hp, hi⟩ := hls a pl xs ha'
        have hm : a ∈ μ₀.map (·.1) := List.mem_map_of_mem (f := (·.1)) ha'
        exact ⟨⟨us, hL.at fun o e => hk₁ _ o e, fun e => (hp e).at fun o e' => hk₁ _ o e', hi⟩, .inr (List.mem_append_left _ hm), (hmt a hm).1⟩
    refine wpAny_mono (h _ _ okA _ _ st) (fun fl s' p => ?_) fun _ _ f => f.elim
    obtain ⟨af, Γ', μ', w, st', hf, hQ, rfl⟩ := p
    have grow : Grow (μ₀.map (·.1) ++ G.tb) s s' := by
      obtain ⟨h₂, t₂, e₂⟩ := w.same
      refine ⟨h₂, t₂, e₂, fun b o hb e => ?_⟩
      have := st'.keep b o hb e
      rw [e₂] at this; exact this
    have ls : Lists s'.heap μ' := fun a pl xs ha' => (st'.muts a pl xs ha').1
    rcases hQ with rfl | ⟨rfl, rfl⟩
    · obtain ⟨v', rfl, hv'⟩ := hf
      exact ⟨grow, st'.ti, hv'.mono (fun a o ha' ho' _ _ => ⟨ha'.1, ho'⟩) fun _ _ _ e => e, ls⟩
    · obtain rfl : fl = .next := hf
      exact ⟨grow, st'.ti, rfl, ls⟩
end Mine
open PySem PySem.W PyProof.Rows
set_option maxRecDepth 100000
set_option linter.unusedVariables false
namespace Mine
section
variable {c : Cx} {env : Env} {Γ Γ' Γc : Vars} {μ μ' pre post : Muts} {q : Bool} {Q : AFlow → Vars → Muts → Prop} {s : Shared}

theorem St.growM {a : Addr} {pl pl' : Bool} {xs xs' : List Int} {vs' : List Value} {s' : Shared} (x : St c env Γ (pre ++ (a, pl, xs) :: post) s) (g : Grow (a :: c.G.tb) s s') (t : TI c.G s'.heap) (hl : s'.heap.IsList a vs'.toArray) (hp : pl' = true → s'.heap.PlainList a vs'.toArray)
    (hi : IntsAre vs' xs') : St c env Γ (pre ++ (a, pl', xs') :: post) s' ∧ Went c env (pre ++ (a, pl, xs) :: post) (pre ++ (a, pl', xs') :: post) s s' := by
  have hmem : (a, pl, xs) ∈ pre ++ (a, pl, xs) :: post := List.mem_append_right _ (.head _)
  obtain ⟨⟨vs, ⟨oa, hoa, hca, na, hda⟩, _, _⟩, hnew, hgt⟩ := x.muts a pl xs hmem
  have ham : a ∈ (pre ++ (a, pl, xs) :: post).map (·.1) := List.mem_map_of_mem (f := (·.1)) hmem
  obtain ⟨h', tk, rfl, k₀⟩ := g
  have k : ∀ b o, b ≠ a → b ∉ c.G.tb → s.heap.get? b = some o → h'.get? b = some o := fun b o hb ht e => k₀ b o (fun hm => (List.mem_cons.mp hm).elim hb ht) e
  have dne : ∀ b o, (∀ its n, o.data ≠ .seq its n) → s.heap.get? b = some o → b ≠ a := fun b o hd e e' => by
    rw [e', hoa] at e; cases e; exact hd _ _ hda
  have kf : ∀ b o, Hard o → s.heap.get? b = some o → h'.get? b = some o := fun b o hh e => k b o (dne b o (fun its n hd => by
    rcases hh with ⟨fd, h⟩ | ⟨vs, y, t, h, _⟩ <;> rw [hd] at h <;> cases h) e) (fun hm => x.ti.notTab hm e hh) e
  have hnd := x.nodup
  refine ⟨⟨x.good, t, fun b o hb e => k b o (fun e' => ?_) (fun hm => hb (x.good.sub b hm)) (x.keep b o hb e), fun b hb => ?_, ?_, ?_, ?_, ?_, ?_⟩, ⟨_, _, rfl⟩, fun b o h1 _ _ h4 e => k b o (fun e' => h4 (e' ▸ ham)) (fun hm => h1 (x.good.sub b hm)) e, fun b hb => .inl ?_, fun b o e => ?_⟩
  · rcases hnew with h | h
    · rw [e', h] at e; cases e
    · exact hb (e' ▸ h)
  · refine (x.tbx b hb).imp id fun h => ?_
    simpa only [List.map_append, List.map_cons] using h
  · obtain ⟨ρ, o, es, ep, ho, hd, r⟩ := x.frame
    exact ⟨ρ, o, es, ep, k _ _ (dne _ _ (fun its n h => by rw [hd] at h; cases h) ho) (fun hm => x.good.Ltb (x.good.sub _ hm)) ho, hd, r⟩
  · intro y b hb
    obtain ⟨v, o, ho, hd⟩ := x.cells y b hb
    exact ⟨v, o, k _ _ (dne _ _ (fun its n h => by rw [hd] at h; cases h) ho) (fun hm => x.good.ctb y b hb (x.good.sub _ hm)) ho, hd⟩
  · intro y v hv
    obtain ⟨h1, h2⟩ := x.vars y v hv
    have up : ∀ u, v.is (c.ok (pre ++ (a, pl, xs) :: post)) s.heap u → v.is (c.ok (pre ++ (a, pl', xs') :: post)) h' u := fun u hu =>
      hu.mono (fun b o hb ho _ _ => ⟨by rw [ok_upd (pl := pl) (xs := xs)]; exact hb, k b o (fun e => hb.2.1 (e ▸ ham)) (fun hm => hb.2.2 (x.good.sub b hm)) ho⟩) kf
    refine ⟨fun hk => ?_, fun hk => ?_⟩
    · obtain ⟨ρ, w, ⟨o, es, ep, ho, hd, r⟩, hw, hp⟩ := h1 hk
      exact ⟨ρ, w, ⟨o, es, ep, k _ _ (dne _ _ (fun its n h => by rw [hd] at h; cases h) ho) (fun hm => x.good.Ltb (x.good.sub _ hm)) ho, hd, r⟩, hw, up _ hp⟩
    · obtain ⟨b, w, hb, ⟨o, ho, hd⟩, hp⟩ := h2 hk
      exact ⟨b, w, hb, ⟨o, k _ _ (dne _ _ (fun its n h => by rw [hd] at h; cases h) ho) (fun hm => x.good.ctb y b (mem_of_lookup hb) (x.good.sub _ hm)) ho, hd⟩, up _ hp⟩
  · intro b plb ys hb
    have hb' : b = a ∧ plb = pl' ∧ ys = xs' ∨ ((b, plb, ys) ∈ pre ++ (a, pl, xs) :: post ∧ b ≠ a) := by
      have nd : (pre.map (·.1) ++ a :: post.map (·.1)).Nodup := by simpa only [List.map_append, List.map_cons] using hnd
      rw [List.nodup_append] at nd
      obtain ⟨_, nd2, nd3⟩ := nd
      rw [List.nodup_cons] at nd2
      rcases List.mem_append.mp hb with h | h
      · refine .inr ⟨List.mem_append_left _ h, fun e => ?_⟩
        exact nd3 b (List.mem_map_of_mem (f := (·.1)) h) a (.head _) e
      · rcases List.mem_cons.mp h with h | h
        · cases h; exact .inl ⟨rfl, rfl, rfl⟩
        · refine .inr ⟨List.mem_append_right _ (.tail _ h), fun e => nd2.1 ?_⟩
          rw [← e]; exact List.mem_map_of_mem (f := (·.1)) h
    rcases hb' with ⟨rfl, rfl, rfl⟩ | ⟨hb', hne⟩
    · exact ⟨⟨vs', hl, hp, hi⟩, hnew, hgt⟩
    · obtain ⟨⟨us, ⟨o, ho, r⟩, hp', hi'⟩, h2, h3⟩ := x.muts b plb ys hb'
      exact ⟨⟨us, ⟨o, k _ _ hne h3 ho, r⟩, fun e => (hp' e).at fun o' e' => k _ _ hne h3 e', hi'⟩, h2, h3⟩
  · simpa only [List.map_append, List.map_cons] using hnd
  · simpa only [List.map_append, List.map_cons] using hb
  · by_cases hb : b = a
    · obtain ⟨o', e', _⟩ := hl; exact ⟨o', by rw [hb]; exact e'⟩
    · by_cases ht : b ∈ c.G.tb
      · obtain ⟨ps, e'⟩ := t.isTab ht; exact ⟨_, e'⟩
      · exact ⟨o, k b o hb ht e⟩

/-- what a closure captures, as the frame at hand sees it -/
structure Capt (env : Env) (Γ : Vars) (fd : FuncData) (Γc : Vars) : Prop where
  vars : ∀ x v, Γc.lookup x = some v → Γ.lookup x = some v ∧ (env.kindOf x = some .cell ∨ env.kindOf x = some .free) ∧ fd.closure.lookup x = env.cells.lookup x
  cells : ∀ x a, (x, a) ∈ fd.closure → ∃ y, (y, a) ∈ env.cells

theorem St.clo {fd : FuncData} (x : St c env Γ μ s) (h : Capt env Γ fd Γc) : Clo (c.ok μ) s.heap fd.closure Γc := by
  refine ⟨fun y v hv => ?_, fun y a hy => ?_⟩
  · obtain ⟨h1, h2, h3⟩ := h.vars y v hv
    obtain ⟨a, w, ha, hc, hp⟩ := (x.vars y v h1).2 h2
    exact ⟨a, w, by rw [h3]; exact ha, hc, hp⟩
  · obtain ⟨z, hz⟩ := h.cells y a hy
    exact x.cells z a hz

theorem St.fnAt {s' : Shared} {f : Addr} {fd : FuncData} (x : St c env Γ μ s) (g : Grow (c.G.may q) s s') (h : FnAt s.heap f fd) : FnAt s'.heap f fd :=
  h.keeps fun b o hh e => g.at (fun hm => by
    cases q with
    | true => simp [Pg.may] at hm
    | false => exact x.ti.notTab hm e hh) e

/-- a closure called, for its value -/
theorem Ev.callC {fn : Expr} {f : Addr} {fd : FuncData} {e : Expr} {rest : List Expr} {pos : Pos} {vs : List AV} {v : AV} (hf : Ev c env Γ μ false fn (.fn f fd)) (hc : Capt env Γ fd Γc)
    (ha : EvA c env Γ μ false pos (e :: rest) vs) (F : FnC c.G c.d f fd Γc vs v [] [])
    (he : eval (.Call fn (e :: rest) [] pos) env = (do callWith pos (← eval fn env) [] (backTo pos (starEach (e :: rest) env)) (backToKw pos (keywordEach [] env))) := by rfl)
    (hs : starEach (e :: rest) env = (false, eval e env) :: starEach rest env := by rfl) : Ev c env Γ μ false (.Call fn (e :: rest) [] pos) v := fun s x =>
  Call_ (wpAny_mono (hf s x) (fun y s₁ p₁ => by
    obtain ⟨rfl, hat⟩ := p₁.2.2
    have x₁ := x.grow p₁.1 p₁.2.1
    obtain ⟨⟨o, ho, hcl, hd⟩, hrec⟩ := id hat
    refine callWith_def hd (wpAny_mono (ha s₁ x₁) (fun ys s₂ p₂ => ?_) fun _ _ f => f) hs
    have x₂ := x₁.grow p₂.1 p₂.2.1
    have hat₂ := x₁.fnAt p₂.1 hat
    refine ⟨p₂.1.at (fun hm => x₁.ti.notTab hm ho (.inl ⟨fd, hd⟩)) ho, wpAny_mono (F c.A s₂ ys (c.ok μ) x.good.room x₂.top x₂.ti (fun a h1 => ⟨fun h2 => h1.2.2 (x.good.sub a h2), by simp⟩) p₂.2.2 hat₂ (x₂.clo hc) (fun _ _ _ h => nomatch h) List.nodup_nil (fun _ h => nomatch h)) (fun v' s₃ p₃ => ?_) fun _ _ f => f⟩
    refine ⟨(p₁.1.trans p₂.1).trans p₃.1, p₃.2.1, p₃.2.2.1.mono (fun a o ha' ho' _ _ => ⟨?_, ho'⟩) fun _ _ _ e => e⟩
    rcases ha' with h | h
    · exact x₂.fresh h
    · exact h) fun _ _ f => f) he

/-- a closure called for what it does to a list -/
theorem Ex.callM {fn : Expr} {f : Addr} {fd : FuncData} {e : Expr} {rest' : List Expr} {pos pos' : Pos} {rest : List Stmt} {vs : List AV} {v : AV} {a : Addr} {pl pl' : Bool} {xs xs' : List Int} (hf : Ev c env Γ (pre ++ (a, pl, xs) :: post) true fn (.fn f fd)) (hc : Capt env Γ fd Γc)
    (ha : EvA c env Γ (pre ++ (a, pl, xs) :: post) true pos (e :: rest') vs) (F : FnC c.G c.d f fd Γc vs v [(a, pl, xs)] [(a, pl', xs')]) (h : Ex c env Γ (pre ++ (a, pl', xs') :: post) (execs rest env) Q)
    (he : eval (.Call fn (e :: rest') [] pos) env = (do callWith pos (← eval fn env) [] (backTo pos (starEach (e :: rest') env)) (backToKw pos (keywordEach [] env))) := by rfl)
    (hs : starEach (e :: rest') env = (false, eval e env) :: starEach rest' env := by rfl)
    (hin : interactive env = false := by rfl) (hsw : swapsWith (.Call fn (e :: rest') [] pos) none pos'.line env = pure false := by rfl) :
    Ex c env Γ (pre ++ (a, pl, xs) :: post) (execs (.Expr (.Call fn (e :: rest') [] pos) pos' :: rest) env) Q :=
  Ex.step fun s x => wpAny_Expr_any (Call_ (wpAny_mono (hf s x) (fun y s₁ p₁ => by
    obtain ⟨rfl, hat⟩ := p₁.2.2
    have x₁ := x.grow p₁.1 p₁.2.1
    obtain ⟨⟨o, ho, hcl, hd⟩, hrec⟩ := id hat
    refine callWith_def hd (wpAny_mono (ha s₁ x₁) (fun ys s₂ p₂ => ?_) fun _ _ f => f) hs
    have x₂ := x₁.grow p₂.1 p₂.2.1
    have hat₂ := x₁.fnAt p₂.1 hat
    have hmem : (a, pl, xs) ∈ pre ++ (a, pl, xs) :: post := List.mem_append_right _ (.head _)
    have ham : a ∈ (pre ++ (a, pl, xs) :: post).map (·.1) := List.mem_map_of_mem (f := (·.1)) hmem
    obtain ⟨hlist, hnew, hgt⟩ := x₂.muts a pl xs hmem
    have hga : c.G.g.get? a = none := by
      cases e : c.G.g.get? a with
      | none => rfl
      | some o =>
        obtain ⟨h1, h2⟩ := x.good.gb a o e
        rcases hnew with h | h
        · rw [h] at h2; cases h2
        · exact absurd h h1
    refine ⟨p₂.1.at (fun hm => by simp [Pg.may] at hm) ho, wpAny_mono (F c.A s₂ ys (c.ok (pre ++ (a, pl, xs) :: post)) x.good.room x₂.top x₂.ti (fun b h1 => ⟨fun h2 => h1.2.2 (x.good.sub b h2), fun h2 => h1.2.1 (by
      have e : b = a := by simpa using h2
      rw [e]; exact ham)⟩) p₂.2.2 hat₂ (x₂.clo hc) (fun b plb ys' hb => by
        rw [List.mem_singleton] at hb; cases hb; exact hlist) (by simp) (fun b hb => by
        have e : b = a := by simpa using hb
        rw [e]; exact ⟨hgt, hga⟩)) (fun v' s₃ p₃ => ?_) fun _ _ f => f⟩
    obtain ⟨g₃, t₃, _, ls⟩ := p₃
    obtain ⟨vs', hl', hp', hi'⟩ := ls a pl' xs' (.head _)
    obtain ⟨st, w⟩ := x₂.growM (pl' := pl') (xs' := xs') g₃ t₃ hl' hp' hi'
    exact ⟨.next, _, _, ((Went.grow x p₁.1 p₁.2.1).trans (Went.grow x₁ p₂.1 p₂.2.1)).trans w, st, rfl, h⟩) fun _ _ f => f) he) hin hsw
end
end Mine
open PySem PySem.W PyProof.Rows
set_option maxRecDepth 100000
set_option linter.unusedVariables false
namespace Mine

/-! sizes of ints -/
theorem bits_le {a : Int} {k : Nat} (h : a.natAbs < 2 ^ k) : Builtin.Int.intBits a ≤ k := by
  unfold Builtin.Int.intBits
  split
  · exact Nat.zero_le _
  · rename_i h0
    have h0' : a.natAbs ≠ 0 := by
      intro e
      have : a = 0 := by omega
      simp [this] at h0
    have := (Nat.log2_lt h0').mpr h
    omega
theorem lt_bits (a : Int) : a.natAbs < 2 ^ Builtin.Int.intBits a := by
  unfold Builtin.Int.intBits
  split
  · rename_i h; have : a = 0 := by simpa using h
    subst this; decide
  · rename_i h0
    have h0' : a.natAbs ≠ 0 := by
      intro e
      have : a = 0 := by omega
      simp [this] at h0
    exact (Nat.log2_lt h0').mp (Nat.lt_succ_self _)
theorem bits_le_of {a : Int} {k : Nat} (h : a.natAbs ≠ 0) : 2 ^ (Builtin.Int.intBits a - 1) ≤ a.natAbs := by
  unfold Builtin.Int.intBits
  split
  · rename_i h'; have : a = 0 := by simpa using h'
    subst this; simp at h
  · rw [Nat.add_sub_cancel]; exact Nat.log2_self_le h
theorem bits_pos {a : Int} (h : a ≠ 0) : 1 ≤ Builtin.Int.intBits a := by
  unfold Builtin.Int.intBits
  split
  · rename_i h'; exact absurd (by simpa using h') h
  · omega

theorem mulOk {a b : Int} {k l : Nat} (ha : a.natAbs < 2 ^ k) (hb : b.natAbs < 2 ^ l) (h : k + l ≤ 134217728) : IntMulOk a b := by
  unfold IntMulOk
  intro hh
  simp only [Bool.and_eq_true, decide_eq_true_eq, Builtin.Int.intTooBig] at hh
  have h1 := bits_le ha
  have h2 := bits_le hb
  have h3 := hh.2
  unfold bitsLine at h3
  omega
theorem mulOkL {a b : Int} (ha : a.natAbs < 2 ^ 64) : IntMulOk a b := IntMulOk.of_left (bits_le ha)
theorem log2_small {b : Int} {k : Nat} (h : b.natAbs < 2 ^ k) (hk : k ≤ 9000) : b.natAbs.log2 < 9000 := by
  by_cases h0 : b.natAbs = 0
  · rw [h0]; decide
  · have := (Nat.log2_lt h0).mpr h; omega

theorem two_pow_le {a b : Nat} (h : a ≤ b) : 2 ^ a ≤ 2 ^ b := Nat.pow_le_pow_right (by decide) h
theorem two_pow_pos (n : Nat) : 0 < 2 ^ n := Nat.pow_pos (by decide)
theorem natAbs_two_pow (n : Nat) : ((2 : Int) ^ n).natAbs = 2 ^ n := by
  rw [Int.natAbs_pow]; rfl
theorem ipow_pos (n : Nat) : (0 : Int) < 2 ^ n := Int.pow_pos (by decide)
theorem ipow_cast (n : Nat) : ((2 ^ n : Nat) : Int) = (2 : Int) ^ n := by push_cast; rfl

theorem natAbs_lt {x : Int} {k : Nat} (h0 : 0 ≤ x) (h : x < 2 ^ k) : x.natAbs < 2 ^ k := by
  rw [← ipow_cast] at h; omega

/-! bit by bit, for ints from nought on -/
theorem band_cast (a b : Nat) : Builtin.bitAnd (a : Int) (b : Int) = ((a &&& b : Nat) : Int) := by
  rw [bitAnd_pp (by omega) (by omega)]; rfl
theorem bor_cast (a b : Nat) : Builtin.bitOr (a : Int) (b : Int) = ((a ||| b : Nat) : Int) := by
  unfold Builtin.bitOr
  rw [bitAnd_nn (by unfold Builtin.bitNot; omega) (by unfold Builtin.bitNot; omega)]
  have e : ∀ n : Nat, (Builtin.bitNot (Builtin.bitNot (n : Int))).toNat = n := fun n => by unfold Builtin.bitNot; omega
  rw [e, e]; unfold Builtin.bitNot; omega

theorem nat_add_and_or : ∀ (a b : Nat), (a ||| b) + (a &&& b) = a + b := by
  intro a
  induction a using Nat.strongRecOn with
  | ind a ih =>
    intro b
    by_cases h0 : a = 0
    · subst h0; simp
    · have ih' := ih (a / 2) (by omega) (b / 2)
      have e1 : (a ||| b) / 2 = a / 2 ||| b / 2 := by
        apply Nat.eq_of_testBit_eq; intro i
        simp [Nat.testBit_div_two, Nat.testBit_or]
      have e2 : (a &&& b) / 2 = a / 2 &&& b / 2 := by
        apply Nat.eq_of_testBit_eq; intro i
        simp [Nat.testBit_div_two, Nat.testBit_and]
      have m1 : (a ||| b) % 2 + (a &&& b) % 2 = a % 2 + b % 2 := by
        have o1 := Nat.or_mod_two_pow (a := a) (b := b) (n := 1)
        have o2 := Nat.and_mod_two_pow (a := a) (b := b) (n := 1)
        simp only [Nat.pow_one] at o1 o2
        rw [o1, o2]
        rcases Nat.mod_two_eq_zero_or_one a with ha | ha <;> rcases Nat.mod_two_eq_zero_or_one b with hb | hb <;> rw [ha, hb] <;> rfl
      have d1 := Nat.div_add_mod (a ||| b) 2
      have d2 := Nat.div_add_mod (a &&& b) 2
      rw [e1] at d1; rw [e2] at d2
      omega

theorem nat_xor_and : ∀ (a b : Nat), (a ^^^ b) + (a &&& b) = (a ||| b) := by
  intro a
  induction a using Nat.strongRecOn with
  | ind a ih =>
    intro b
    by_cases h0 : a = 0
    · subst h0; simp
    · have ih' := ih (a / 2) (by omega) (b / 2)
      have e0 : (a ^^^ b) / 2 = a / 2 ^^^ b / 2 := by
        apply Nat.eq_of_testBit_eq; intro i
        simp [Nat.testBit_div_two, Nat.testBit_xor]
      have e1 : (a ||| b) / 2 = a / 2 ||| b / 2 := by
        apply Nat.eq_of_testBit_eq; intro i
        simp [Nat.testBit_div_two, Nat.testBit_or]
      have e2 : (a &&& b) / 2 = a / 2 &&& b / 2 := by
        apply Nat.eq_of_testBit_eq; intro i
        simp [Nat.testBit_div_two, Nat.testBit_and]
      have m1 : (a ^^^ b) % 2 + (a &&& b) % 2 = (a ||| b) % 2 := by
        have o1 := Nat.or_mod_two_pow (a := a) (b := b) (n := 1)
        have o2 := Nat.and_mod_two_pow (a := a) (b := b) (n := 1)
        have o3 := Nat.xor_mod_two_pow (a := a) (b := b) (n := 1)
        simp only [Nat.pow_one] at o1 o2 o3
        rw [o1, o2, o3]
        rcases Nat.mod_two_eq_zero_or_one a with ha | ha <;> rcases Nat.mod_two_eq_zero_or_one b with hb | hb <;> rw [ha, hb] <;> rfl
      have d0 := Nat.div_add_mod (a ^^^ b) 2
      have d1 := Nat.div_add_mod (a ||| b) 2
      have d2 := Nat.div_add_mod (a &&& b) 2
      rw [e0] at d0; rw [e1] at d1; rw [e2] at d2
      omega

theorem bxor_cast (a b : Nat) : Builtin.bitXor (a : Int) (b : Int) = ((a ^^^ b : Nat) : Int) := by
  unfold Builtin.bitXor
  rw [bor_cast, band_cast]
  have := nat_xor_and a b
  omega

/-- the low bits and the high ones -/
theorem nat_or_low {r k n : Nat} (h : k < 2 ^ n) : (r * 2 ^ n ||| k) = r * 2 ^ n + k := by
  have e1 := nat_add_and_or (r * 2 ^ n) k
  have e2 : (r * 2 ^ n &&& k) = 0 := by
    apply Nat.eq_of_testBit_eq; intro i
    rw [Nat.testBit_and, Nat.zero_testBit]
    by_cases hi : i < n
    · rw [Nat.mul_comm, Nat.testBit_two_pow_mul]
      simp [Nat.not_le.mpr hi]
    · have : k.testBit i = false := Nat.testBit_lt_two_pow (Nat.lt_of_lt_of_le h (two_pow_le (by omega)))
      rw [this, Bool.and_false]
  omega
theorem bor_low {r k : Int} {n : Nat} (hr : 0 ≤ r) (h0 : 0 ≤ k) (h : k < 2 ^ n) : Builtin.bitOr (r * 2 ^ n) k = r * 2 ^ n + k := by
  obtain ⟨r, rfl⟩ := Int.eq_ofNat_of_zero_le hr
  obtain ⟨k, rfl⟩ := Int.eq_ofNat_of_zero_le h0
  have h' : k < 2 ^ n := by rw [← ipow_cast] at h; omega
  have e : ((r : Int) * 2 ^ n) = ((r * 2 ^ n : Nat) : Int) := by rw [Int.natCast_mul, ipow_cast]
  rw [e, bor_cast, nat_or_low h']; push_cast; rfl
theorem fdiv_pow {x : Int} (s : Nat) : x.fdiv (2 ^ s) = x / 2 ^ s := Int.fdiv_eq_ediv_of_nonneg _ (Int.le_of_lt (ipow_pos s))
/-- x ^ (x >> s << s) are the low bits -/
theorem bxor_high {x : Int} {s : Nat} (hx : 0 ≤ x) : Builtin.bitXor x (x.fdiv (2 ^ s) * 2 ^ s) = x % 2 ^ s := by
  obtain ⟨x, rfl⟩ := Int.eq_ofNat_of_zero_le hx
  have e : ((x : Int).fdiv (2 ^ s) * 2 ^ s) = ((x / 2 ^ s * 2 ^ s : Nat) : Int) := by
    rw [fdiv_pow, ← ipow_cast]; push_cast; rfl
  rw [e, bxor_cast]
  have : (x ^^^ x / 2 ^ s * 2 ^ s) = x % 2 ^ s := by
    apply Nat.eq_of_testBit_eq; intro i
    rw [Nat.testBit_xor, Nat.testBit_mod_two_pow, Nat.mul_comm, Nat.testBit_two_pow_mul]
    by_cases hi : i < s
    · simp [hi, Nat.not_le.mpr hi]
    · have hi' : s ≤ i := by omega
      rw [Nat.testBit_div_two_pow]
      simp [hi, hi', Nat.sub_add_cancel hi']
  rw [this, ← ipow_cast]; push_cast; rfl
theorem band_mask {x : Int} {s : Nat} (hx : 0 ≤ x) : Builtin.bitAnd x (2 ^ s - 1) = x % 2 ^ s := by
  obtain ⟨x, rfl⟩ := Int.eq_ofNat_of_zero_le hx
  have e : ((2 : Int) ^ s - 1) = ((2 ^ s - 1 : Nat) : Int) := by
    have := two_pow_pos s
    rw [Int.natCast_sub (by omega), ipow_cast]; rfl
  rw [e, band_cast, Nat.and_two_pow_sub_one_eq_mod, ← ipow_cast]; push_cast; rfl
end Mine
open PySem PySem.W PyProof.Rows
set_option maxRecDepth 100000
set_option linter.unusedVariables false
namespace Mine

abbrev V (x : String) (v : AV) : Str × AV := (Str.ofString x, v)

theorem Ev.to {c : Cx} {env : Env} {Γ : Vars} {μ : Muts} {q : Bool} {e : Expr} {v w : AV} (h : Ev c env Γ μ q e v) (e' : v = w) : Ev c env Γ μ q e w := e' ▸ h
theorem Ev.toI {c : Cx} {env : Env} {Γ : Vars} {μ : Muts} {q : Bool} {e : Expr} {a b : Int} (h : Ev c env Γ μ q e (.int a)) (e' : a = b) : Ev c env Γ μ q e (.int b) := e' ▸ h
theorem FnC.less {G : Pg} {d d' : Nat} {f : Addr} {fd : FuncData} {Γc : Vars} {args : List AV} {r : AV} {μ₀ μ₁ : Muts} (h : FnC G d f fd Γc args r μ₀ μ₁) (hd : d ≤ d') : FnC G d' f fd Γc args r μ₀ μ₁ := fun A s vs okA hr => h A s vs okA (hr.less hd)

def defOk (fd : FuncData) (names : List Str) : Bool :=
  fd.globals == mainGlobals && fd.builtins == builtinsNs && fd.closure.isEmpty && fd.scope.kind == .function && !fd.scope.isCoroutine && !fd.scope.isGenerator &&
  decide names.Nodup && (names.all fun x => fd.scope.names.lookup x == some .local || fd.scope.names.lookup x == some .cell) && decide ((cellsFrom 0 fd.scope.names []).map (·.1)).Nodup
theorem DefOk.of {fd : FuncData} {names : List Str} {body : List Stmt} (hb : fd.body = .stmts body) (h : defOk fd names = true) : DefOk fd names body := by
  unfold defOk at h
  simp only [Bool.and_eq_true, beq_iff_eq, List.all_eq_true, Bool.or_eq_true, decide_eq_true_eq, Bool.not_eq_true', List.isEmpty_iff] at h
  obtain ⟨⟨⟨⟨⟨⟨⟨⟨h1, h2⟩, h3⟩, h4⟩, h5⟩, h6⟩, h7⟩, h8⟩, h9⟩ := h
  exact ⟨hb, h1, h2, h3, h4, h5, h6, h7, h8, h9⟩

def closOk (fd : FuncData) (names : List Str) : Bool :=
  fd.globals == mainGlobals && fd.builtins == builtinsNs && fd.scope.kind == .function && !fd.scope.isCoroutine && !fd.scope.isGenerator &&
  decide names.Nodup && (names.all fun x => fd.scope.names.lookup x == some .local) && (fd.scope.names.all fun x => x.2 != .cell)
theorem ClosOk.of {fd : FuncData} {names : List Str} {body : List Stmt} (hb : fd.body = .stmts body) (h : closOk fd names = true) : ClosOk fd names body := by
  unfold closOk at h
  simp only [Bool.and_eq_true, beq_iff_eq, List.all_eq_true, decide_eq_true_eq, Bool.not_eq_true', bne_iff_ne, ne_eq] at h
  obtain ⟨⟨⟨⟨⟨⟨⟨h1, h2⟩, h4⟩, h5⟩, h6⟩, h7⟩, h8⟩, h9⟩ := h
  exact ⟨hb, h1, h2, h4, h5, h6, h7, h8, h9⟩

/-- the checks on what a closure captures, name by name -/
def Capts (env : Env) (Γ : Vars) (fd : FuncData) : Vars → Prop
  | [] => True
  | (x, v) :: r => (Γ.lookup x = some v ∧ (env.kindOf x == some .cell || env.kindOf x == some .free) = true ∧ fd.closure.lookup x = env.cells.lookup x) ∧ Capts env Γ fd r
theorem Capts.get {env : Env} {Γ : Vars} {fd : FuncData} : ∀ {Γc : Vars}, Capts env Γ fd Γc → ∀ x v, Γc.lookup x = some v → Γ.lookup x = some v ∧ (env.kindOf x = some .cell ∨ env.kindOf x = some .free) ∧ fd.closure.lookup x = env.cells.lookup x
  | [], _, _, _, h => by cases h
  | (y, w) :: r, k, x, v, h => by
    rw [List.lookup_cons] at h
    cases hy : x == y with
    | true =>
      rw [hy] at h; cases h; rw [beq_iff_eq.mp hy]
      refine ⟨k.1.1, ?_, k.1.2.2⟩
      simpa using k.1.2.1
    | false => rw [hy] at h; exact k.2.get x v h
theorem Capt.of {env : Env} {Γ Γc : Vars} {fd : FuncData} (h : Capts env Γ fd Γc) (hc : ∀ x a, (x, a) ∈ fd.closure → ∃ y, (y, a) ∈ env.cells) : Capt env Γ fd Γc := ⟨h.get, hc⟩
theorem clos_sub {cells : List (Str × Addr)} {names : List (Str × NameKind)} (x : Str) (a : Addr) (h : (x, a) ∈ clOf cells names []) : ∃ y, (y, a) ∈ cells :=
  (clOf_mem h).elim (fun h => nomatch h) fun h => ⟨x, mem_of_lookup h⟩

/-! the ground, from the library's facts -/
theorem Pg.Glob.of {G : Pg} {K : Frag} {p : Program} {loose : List Str} {mean : ExcName → Option Value} {mg mb : Str → Option Value} {x : Str} {v : Value} (X : K.In G.g) (T : Top p loose mean mg mb G.g) (e : nsIn K mainGlobals x = some (some v)) : G.Glob x v :=
  ⟨mg, T.g, mg_of X T.g e⟩
theorem Pg.Bi.of {G : Pg} {K : Frag} {p : Program} {loose : List Str} {mean : ExcName → Option Value} {mg mb : Str → Option Value} {x : Str} {v : Value} (X : K.In G.g) (T : Top p loose mean mg mb G.g) (e : nsIn K mainGlobals x = some none) (hv : bootBuiltins x = some v) (hn : x ≠ "__name__") : G.Bi x v :=
  ⟨mg, mb, T.g, mg_none_of X T.g e, T.b, (T.builtins x hn).trans hv⟩

/-! digits put together -/
def D2I (n : Nat) : List Int → Int
  | [] => 0
  | x :: r => x + D2I n r * 2 ^ n
theorem D2I_append (n : Nat) : ∀ xs ys : List Int, D2I n (xs ++ ys) = D2I n xs + D2I n ys * 2 ^ (n * xs.length)
  | [], ys => by simp [D2I]
  | x :: r, ys => by
    rw [List.cons_append, D2I, D2I, D2I_append n r ys, List.length_cons, Nat.mul_succ, Int.pow_add, Int.add_mul, Int.mul_assoc, Int.add_assoc]
theorem D2I_bound {n B : Nat} : ∀ {xs : List Int}, (∀ x ∈ xs, x.natAbs < 2 ^ B) → (D2I n xs).natAbs < 2 ^ (B + (n + 1) * xs.length)
  | [], _ => by simp only [D2I]; exact two_pow_pos _
  | x :: r, h => by
    have ih := D2I_bound (n := n) (xs := r) fun y hy => h y (.tail _ hy)
    have hx := h x (.head _)
    have e1 : (D2I n (x :: r)).natAbs ≤ x.natAbs + (D2I n r).natAbs * 2 ^ n := by
      rw [D2I]
      refine Nat.le_trans (Int.natAbs_add_le _ _) ?_
      rw [Int.natAbs_mul, natAbs_two_pow]
      exact Nat.le_refl _
    have e2 : (D2I n r).natAbs * 2 ^ n + 2 ^ n ≤ 2 ^ (B + (n + 1) * r.length + n) := by
      rw [Nat.pow_add _ _ n]
      have : ((D2I n r).natAbs + 1) * 2 ^ n ≤ 2 ^ (B + (n + 1) * r.length) * 2 ^ n := Nat.mul_le_mul_right _ ih
      rw [Nat.add_mul, Nat.one_mul] at this
      exact this
    have e3 : 2 ^ (B + (n + 1) * (x :: r).length) = 2 ^ (B + (n + 1) * r.length + n) * 2 := by
      rw [← Nat.pow_succ, List.length_cons, Nat.mul_succ]; congr 1; omega
    have e4 : 2 ^ B ≤ 2 ^ (B + (n + 1) * r.length + n) := two_pow_le (by omega)
    have e5 := two_pow_pos n
    omega

def sl (L R : Nat) (xs : List Int) : List Int := (xs.drop L).take (R - L)
theorem sl_split {L M R : Nat} {xs : List Int} (h1 : L ≤ M) (h2 : M ≤ R) : sl L R xs = sl L M xs ++ sl M R xs := by
  unfold sl
  have e : R - L = (M - L) + (R - M) := by omega
  have e' : xs.drop M = (xs.drop L).drop (M - L) := by rw [List.drop_drop]; congr 1; omega
  rw [e, List.take_add, e']
theorem sl_length {L R : Nat} {xs : List Int} (h : R ≤ xs.length) : (sl L R xs).length = R - L := by
  unfold sl; rw [List.length_take, List.length_drop]; omega
theorem sl_one {L : Nat} {xs : List Int} {x : Int} (h : xs[L]? = some x) : sl L (L + 1) xs = [x] := by
  unfold sl
  obtain ⟨h1, h2⟩ := List.getElem?_eq_some_iff.mp h
  rw [Nat.add_sub_cancel_left, List.drop_eq_getElem_cons h1, h2]; rfl
theorem sl_all (xs : List Int) : sl 0 xs.length xs = xs := by simp [sl]
theorem sl_mem {L R : Nat} {xs : List Int} {x : Int} (h : x ∈ sl L R xs) : x ∈ xs := List.mem_of_mem_drop (List.mem_of_mem_take h)

/-! digits of a number -/
def digs (n m : Nat) (x : Int) : List Int := (List.range m).map fun i => x / 2 ^ (n * i) % 2 ^ n
theorem digs_length (n m : Nat) (x : Int) : (digs n m x).length = m := by simp [digs]
theorem digs_split {n k m : Nat} {x : Int} (h0 : 0 ≤ x) : digs n (k + m) x = digs n k (x % 2 ^ (n * k)) ++ digs n m (x / 2 ^ (n * k)) := by
  unfold digs
  rw [List.range_add, List.map_append]
  congr 1
  · apply List.map_congr_left
    intro i hi
    have hi' : i < k := List.mem_range.mp hi
    have e : n * k = n * i + (n * (k - i)) := by rw [← Nat.mul_add]; congr 1; omega
    have e2 : n * (k - i) = n + n * (k - i - 1) := by
      have : k - i = (k - i - 1) + 1 := by omega
      rw [this, Nat.mul_succ]; simp; omega
    rw [e, Int.pow_add]
    have e3 : x % (2 ^ (n * i) * 2 ^ (n * (k - i))) / 2 ^ (n * i) = x / 2 ^ (n * i) % 2 ^ (n * (k - i)) := by
      obtain ⟨x, rfl⟩ := Int.eq_ofNat_of_zero_le h0
      simp only [← ipow_cast]
      have := Nat.mod_mul_right_div_self x (2 ^ (n * i)) (2 ^ (n * (k - i)))
      exact_mod_cast this
    rw [e3, e2, Int.pow_add, Int.emod_emod_of_dvd _ (Int.dvd_mul_right _ _)]
  · rw [List.map_map]
    apply List.map_congr_left
    intro i hi
    show x / 2 ^ (n * (k + i)) % 2 ^ n = x / 2 ^ (n * k) / 2 ^ (n * i) % 2 ^ n
    rw [Nat.mul_add, Int.pow_add, Int.ediv_ediv_of_nonneg (Int.le_of_lt (ipow_pos _))]
theorem digs_one {n : Nat} {x : Int} (h0 : 0 ≤ x) (h : x < 2 ^ n) : digs n 1 x = [x] := by
  simp [digs, Int.emod_eq_of_lt h0 h]
def ceilD (a n : Nat) : Nat := (a + n - 1) / n
theorem lt_ceil {a n : Nat} (hn : 0 < n) : a ≤ n * ceilD a n := by
  unfold ceilD
  have := Nat.div_add_mod (a + n - 1) n
  have h2 := Nat.mod_lt (a + n - 1) hn
  omega
end Mine
open PySem PySem.W PyProof.Rows
set_option maxRecDepth 100000
set_option linter.unusedVariables false
namespace Mine
section
variable {c : Cx} {env : Env} {Γ Γ' Γc : Vars} {μ μ' pre post : Muts} {q : Bool} {Q : AFlow → Vars → Muts → Prop} {s : Shared}

/-- an if whose ways meet -/
theorem Ex.iteJ {t : Expr} {b o rest : List Stmt} {pos : Pos} {z : Bool} (ht : Tst c env Γ μ q t z) (J : Vars → Muts → Prop)
    (h₁ : z = true → Ex c env Γ μ (execs b env) (fun f Γ' μ' => f = .next ∧ ∃ Γ'', Knows Γ' Γ'' ∧ J Γ'' μ'))
    (h₂ : z = false → Ex c env Γ μ (execs o env) (fun f Γ' μ' => f = .next ∧ ∃ Γ'', Knows Γ' Γ'' ∧ J Γ'' μ'))
    (h : ∀ Γ' μ', J Γ' μ' → Ex c env Γ' μ' (execs rest env) Q) : Ex c env Γ μ (execs (.If t b o pos :: rest) env) Q :=
  Ex.ite ht (fun hz => (h₁ hz).mono fun f Γ' μ' ⟨e, Γ'', hk, hJ⟩ => by subst e; exact (h Γ'' μ' hJ).only hk)
    (fun hz => (h₂ hz).mono fun f Γ' μ' ⟨e, Γ'', hk, hJ⟩ => by subst e; exact (h Γ'' μ' hJ).only hk)
end

theorem div_of {X b q r : Int} (hb : 0 < b) (h : r + b * q = X) (h0 : 0 ≤ r) (h1 : r < b) : X / b = q ∧ X % b = r := (Int.ediv_emod_unique hb).mpr ⟨h, h0, h1⟩

/-- one step of a long division, by halves -/
theorem half_step {a b : Int} {h : Nat} (hb : 0 < b) (h0 : 0 ≤ a) :
    let q1 := a / 2 ^ h / b
    let r1 := a / 2 ^ h % b
    let X2 := r1 * 2 ^ h + a % 2 ^ h
    a / b = q1 * 2 ^ h + X2 / b ∧ a % b = X2 % b ∧ 0 ≤ X2 ∧ X2 < b * 2 ^ h := by
  intro q1 r1 X2
  have hp := ipow_pos h
  have e1 := Int.mul_ediv_add_emod a (2 ^ h)
  have e2 := Int.mul_ediv_add_emod (a / 2 ^ h) b
  have r0 : 0 ≤ r1 := Int.emod_nonneg _ (Int.ne_of_gt hb)
  have rb : r1 < b := Int.emod_lt_of_pos _ hb
  have m0 : 0 ≤ a % 2 ^ h := Int.emod_nonneg _ (Int.ne_of_gt hp)
  have m1 : a % 2 ^ h < 2 ^ h := Int.emod_lt_of_pos _ hp
  have e3 := Int.mul_ediv_add_emod X2 b
  have hX0 : 0 ≤ X2 := Int.add_nonneg (Int.mul_nonneg r0 (Int.le_of_lt hp)) m0
  have hX1 : X2 < b * 2 ^ h := by
    have : (r1 + 1) * 2 ^ h ≤ b * 2 ^ h := Int.mul_le_mul_of_nonneg_right (by omega) (Int.le_of_lt hp)
    rw [Int.add_mul, Int.one_mul] at this
    show r1 * 2 ^ h + a % 2 ^ h < b * 2 ^ h
    omega
  have key : X2 % b + b * (q1 * 2 ^ h + X2 / b) = a := by
    have : b * (q1 * 2 ^ h) = (b * q1) * 2 ^ h := by rw [Int.mul_assoc]
    have hA : a = (b * q1 + r1) * 2 ^ h + a % 2 ^ h := by rw [e2, Int.mul_comm]; exact e1.symm
    rw [Int.mul_add, this]
    rw [Int.add_mul] at hA
    have hX : X2 = r1 * 2 ^ h + a % 2 ^ h := rfl
    omega
  obtain ⟨d1, d2⟩ := div_of hb key (Int.emod_nonneg _ (Int.ne_of_gt hb)) (Int.emod_lt_of_pos _ hb)
  exact ⟨d1, d2, hX0, hX1⟩

theorem emod_join {x : Int} (h k : Nat) : x / 2 ^ (h + k) * 2 ^ k + x / 2 ^ h % 2 ^ k = x / 2 ^ h := by
  have e : x / 2 ^ (h + k) = x / 2 ^ h / 2 ^ k := by rw [Int.pow_add, Int.ediv_ediv_of_nonneg (Int.le_of_lt (ipow_pos _))]
  rw [e, Int.mul_comm]
  exact Int.mul_ediv_add_emod _ _

/-- scaled by a power of two -/
theorem div_scale {a b : Int} (e : Nat) (hb : 0 < b) : a * 2 ^ e / (b * 2 ^ e) = a / b ∧ a * 2 ^ e % (b * 2 ^ e) = a % b * 2 ^ e := by
  have hp := ipow_pos e
  refine div_of (Int.mul_pos hb hp) ?_ (Int.mul_nonneg (Int.emod_nonneg _ (Int.ne_of_gt hb)) (Int.le_of_lt hp)) (Int.mul_lt_mul_of_pos_right (Int.emod_lt_of_pos _ hb) hp)
  have := Int.mul_ediv_add_emod a b
  have h2 : b * 2 ^ e * (a / b) = b * (a / b) * 2 ^ e := by rw [Int.mul_assoc, Int.mul_comm (2 ^ e), ← Int.mul_assoc]
  rw [h2, ← Int.add_mul]
  congr 1; omega
end Mine
open PySem PySem.W PyProof.Rows
set_option maxRecDepth 100000
set_option linter.unusedVariables false
namespace Mine
theorem IntsAre.uniq : ∀ {vs : List Value} {xs ys : List Int}, IntsAre vs xs → IntsAre vs ys → xs = ys
  | _, _, _, .nil, .nil => rfl
  | _, _, _, .cons _ _ h, .cons _ _ h' => by rw [IntsAre.uniq h h']
theorem IntsAre.any : ∀ xs : List Int, ∃ vs, IntsAre vs xs
  | [] => ⟨[], .nil⟩
  | x :: r => let ⟨vs, h⟩ := IntsAre.any r; ⟨_, .cons x 0 h⟩
theorem pick_rev (xs : List Int) : pickNums xs none none (some (-1)) = xs.reverse := by
  obtain ⟨vs, h⟩ := IntsAre.any xs
  have h1 := h.pick none none (some (-1))
  rw [krv_pick] at h1
  exact IntsAre.uniq h1 h.reverse
theorem pick_take (xs : List Int) {y : Int} (hy : 0 ≤ y) : pickNums xs none (some y) none = xs.take y.toNat := by
  obtain ⟨vs, h⟩ := IntsAre.any xs
  exact IntsAre.uniq (h.pick none (some y) none) (kmk_upto h hy)
theorem pick_drop (xs : List Int) {x : Int} (hx : 0 ≤ x) : pickNums xs (some x) none none = xs.drop x.toNat := by
  obtain ⟨vs, h⟩ := IntsAre.any xs
  exact IntsAre.uniq (h.pick (some x) none none) (kmk_from h hx)

theorem rngInts_up {a : Int} {n : Nat} : rngInts a (a + n) 1 = (List.range n).map fun i : Nat => a + (i : Int) := by
  unfold rngInts Builtin.Range.rangeSize
  by_cases h : 0 < n
  · rw [if_pos (by decide), if_pos (by omega)]
    have : ((a + n - a - 1) / 1 + 1).toNat = n := by rw [Int.ediv_one]; omega
    rw [this]; simp
  · obtain rfl : n = 0 := by omega
    simp
theorem rngInts_nat (n : Nat) : rngInts 0 n 1 = (List.range n).map fun i : Nat => (i : Int) := by
  have := rngInts_up (a := 0) (n := n)
  simpa using this
theorem small_of {a b : Int} (h1 : -100000 ≤ a) (h2 : a ≤ 100000) (h3 : -100000 ≤ b) (h4 : b ≤ 100000) : Builtin.Range.small a b 1 = true := by
  have hs : 0 ≤ Builtin.Range.rangeSize a b 1 ∧ Builtin.Range.rangeSize a b 1 ≤ 200000 := by
    unfold Builtin.Range.rangeSize
    rw [if_pos (by decide)]
    split
    · rw [Int.ediv_one]; omega
    · omega
  unfold Builtin.Range.small
  generalize Builtin.Range.rangeSize a b 1 = z at *
  simp only [Bool.and_eq_true, Bool.or_eq_true]
  rw [if_pos (by decide)]
  have fit : ∀ x : Int, -1000000 ≤ x → x ≤ 1000000 → Builtin.Range.rangeFitsLong x = true := by
    intro x h1 h2
    unfold Builtin.Range.rangeFitsLong
    simp
    omega
  exact ⟨⟨⟨⟨fit _ (by omega) (by omega), fit _ (by omega) (by omega)⟩, fit _ (by omega) (by omega)⟩, fit _ (by omega) (by omega)⟩, .inr (fit _ (by omega) (by omega))⟩
theorem Items.nat {n : Nat} (h : n ≤ 100000) : AV.Items (.rng 0 n 1) ((List.range n).map fun i : Nat => (i : Int)) := by
  rw [← rngInts_nat]; exact .rng _ _ _ (small_of (by omega) (by omega) (by omega) (by omega))
end Mine
open PySem PySem.W PyProof.Rows
set_option maxRecDepth 100000
set_option linter.unusedVariables false
namespace Mine
theorem cellsFrom_ge : ∀ (names : List (Str × NameKind)) (n : Nat) (acc : List (Str × Addr)) (lo : Nat), (∀ x a, (x, a) ∈ acc → lo ≤ a) → lo ≤ n → ∀ x a, (x, a) ∈ cellsFrom n names acc → lo ≤ a := by
  intro names
  induction names with
  | nil => intro n acc lo h _ x a hm; exact h x a (by simpa [cellsFrom] using hm)
  | cons y r ih =>
    intro n acc lo h hn x a hm
    obtain ⟨y, k⟩ := y
    cases k <;> simp only [cellsFrom] at hm <;> first
      | exact ih _ _ _ h hn x a hm
      | exact ih _ _ _ (fun x a hm => by
          rcases List.mem_append.mp hm with h' | h'
          · exact h x a h'
          · cases List.mem_singleton.mp h'; exact hn) (by omega) x a hm
      | exact ih _ _ _ (fun x a hm => by
          rcases List.mem_cons.mp hm with h' | h'
          · cases h'; exact hn
          · exact h x a h') (by omega) x a hm

theorem CellsAre.cell {cm : Str → Option Value} {h : Heap} : ∀ {cs : List (Str × Addr)} {cells : List (Addr × Obj)}, CellsAre cm cs cells → (∀ p ∈ cells, h.get? p.1 = some p.2) → ∀ x a, (x, a) ∈ cs → ∃ v, h.IsCell a v
  | _, _, .nil, _, x, a, hm => nomatch hm
  | _, _, .cons hd r, hn, x, a, hm => by
    rcases List.mem_cons.mp hm with e | hm
    · cases e; exact ⟨_, _, hn _ (.head _), hd⟩
    · exact CellsAre.cell r (fun p hp => hn p (.tail _ hp)) x a hm
theorem grown_all {h : Heap} : ∀ {tabs : List (Addr × Addr)}, (∀ q ∈ tabs, GrownAt q.2 h) → GrownAll tabs h
  | [], _ => trivial
  | q :: r, k => ⟨k q (.head _), grown_all fun q hq => k q (.tail _ hq)⟩

/-- from the library's head to a law's walk, and back -/
theorem glue {prog : Program} {w : World} {s₁ : Shared} {h₁ : Heap} {tk₁ : Nat} {tabs : List (Addr × Addr)} {ts : List Tab} {env : Env} {body : List Stmt} {a : Addr} {vs : List Value} {script : List Int} {m cm : Str → Option Value} {cells news : List (Addr × Obj)}
    {p : Program} {loose : List Str} {mean : ExcName → Option Value} {mg mb : Str → Option Value}
    (h1 : ∀ t ∈ ts, (t.c, t.P) ∈ tabs) (h2 : ∀ q ∈ tabs, ∃ t ∈ ts, t.P = q.2) (hone : ∀ t ∈ ts, ∀ t' ∈ ts, t.P = t'.P → t = t')
    (hT : TabsAt tabs s₁.heap) (hC : ∀ q ∈ tabs, CodeHd (ghostOf s₁.heap tabs) q.1 q.2) (T : Top p loose mean mg mb (ghostOf s₁.heap tabs)) (F : Fr (ghostOf s₁.heap tabs) s₁.heap.objs.size h₁ m) (N : News (ghostOf s₁.heap tabs) s₁.heap.objs.size h₁ news)
    (hn : ∀ q ∈ tabs, (q.2, tabObj #[]) ∈ news) (X : CellsAre cm env.cells cells) (hc : ∀ q ∈ cells, q ∈ news) (hrd : Rd env h₁ "script" (fun v => v = .ref a)) (hl : (ghostOf s₁.heap tabs).IsList a vs.toArray) (hi : IntsAre vs script) (hg : s₁.gens = #[])
    (kind : env.scope.kind = .function) (glob : env.globals = mainGlobals) (bi : env.builtins = builtinsNs) (hL : env.locals = s₁.heap.objs.size) (hab : ∀ x a, (x, a) ∈ env.cells → s₁.heap.objs.size + 1 ≤ a) (hap : env.cells.Pairwise fun x y => x.2 ≠ y.2)
    (h : ∀ (A : Around) (base : Heap) (okA : Addr → Prop), Pg.Good ⟨prog, w, ghostOf s₁.heap tabs, ts⟩ → Pg.Nest ⟨prog, w, ghostOf s₁.heap tabs, ts⟩ → Own ⟨⟨prog, w, ghostOf s₁.heap tabs, ts⟩, A, 100, base, okA, ts.map (·.P)⟩ env →
      Ex ⟨⟨prog, w, ghostOf s₁.heap tabs, ts⟩, A, 100, base, okA, ts.map (·.P)⟩ env [("script", .lst script)] [] (execs body env) (fun fl _ _ => fl = .ret (.raw (.bool true)))) :
    wpAny (model prog w) (callerA.deeper env) (execs body env) (fun f s' => f = .ret (.bool true) ∧ (∀ b o, (ghostOf s₁.heap tabs).get? b = some o → s'.heap.get? b = some o) ∧ s'.os = s₁.os ∧ s'.gens = #[] ∧ GrownAll tabs s'.heap) (fun _ _ => False)
      { heap := h₁, gens := s₁.gens, drawn := s₁.drawn, toks := tk₁, os := s₁.os } := by
  have hPn : ∀ t ∈ ts, (ghostOf s₁.heap tabs).get? t.P = none := fun t ht => (N _ (hn _ (h1 t ht))).2.2
  have good : Pg.Good ⟨prog, w, ghostOf s₁.heap tabs, ts⟩ := by
    refine ⟨fun b o e hb => ?_, T.nolimit⟩
    obtain ⟨t, ht, rfl⟩ := List.mem_map.mp hb
    rw [hPn t ht] at e; cases e
  have nest : Pg.Nest ⟨prog, w, ghostOf s₁.heap tabs, ts⟩ := ⟨fun t ht => hC _ (h1 t ht), hone, by
    obtain ⟨bm, ob, b1, b2, b3, b4, b5, b6⟩ := T.bmain
    exact ⟨mg, bm, ob, T.g, b1, b2, b3, b4, b5, b6⟩⟩
  have tbmem : ∀ b, b ∈ ts.map (·.P) ↔ b ∈ tabs.map (·.2) := fun b => by
    constructor
    · intro hb
      obtain ⟨t, ht, rfl⟩ := List.mem_map.mp hb
      exact List.mem_map_of_mem (f := (·.2)) (h1 t ht)
    · intro hb
      obtain ⟨q, hq, rfl⟩ := List.mem_map.mp hb
      obtain ⟨t, ht, e⟩ := h2 q hq
      rw [← e]; exact List.mem_map_of_mem (f := (·.P)) ht
  have tbx : ∀ b ∈ ts.map (·.P), ∃ o, s₁.heap.get? b = some o := fun b hb => by
    obtain ⟨t, ht, rfl⟩ := List.mem_map.mp hb
    exact ⟨_, (hT _ (h1 t ht)).2⟩
  have hnone : ∀ x, s₁.heap.objs.size ≤ x → s₁.heap.get? x = none := fun x hx => Heap.get?_none_of_le hx
  have own : Own ⟨⟨prog, w, ghostOf s₁.heap tabs, ts⟩, callerA.deeper env, 100, s₁.heap, (· = a), ts.map (·.P)⟩ env := ⟨fun x b hb => hnone b (Nat.le_of_succ_le (hab x b hb)), hap⟩
  have hcn : ∀ q ∈ cells, h₁.get? q.1 = some q.2 := fun q hq => (N q (hc q hq)).1
  have ti : TI ⟨prog, w, ghostOf s₁.heap tabs, ts⟩ h₁ := fun t ht => .inl (N _ (hn _ (h1 t ht))).1
  have haT : a ∉ ts.map (·.P) := fun hb => by
    obtain ⟨t, ht, e⟩ := List.mem_map.mp hb
    obtain ⟨o, ho, _⟩ := hl
    rw [← e, hPn t ht] at ho; cases ho
  have st : St ⟨⟨prog, w, ghostOf s₁.heap tabs, ts⟩, callerA.deeper env, 100, s₁.heap, (· = a), ts.map (·.P)⟩ env [("script", .lst script)] [] { heap := h₁, gens := s₁.gens, drawn := s₁.drawn, toks := tk₁, os := s₁.os } := by
    refine ⟨⟨⟨show (1 + claimMargin + 1) + 100 ≤ 900 by decide, show 4 + 3 ≤ 3 * (1 + claimMargin + 1) by decide, rfl⟩, fun b o e => ⟨good.gtb b o e, of_hideAll _ e⟩, T.nolimit, fun _ h => h, tbx, kind, glob, bi, by rw [hL]; exact hnone _ (Nat.le_refl _), fun x b hb ht => ?_, fun x b hb e => ?_⟩,
      ti, fun b o hb e => F.keep b o (ghost_ne e fun h => hb ((tbmem b).mpr h)), fun b hb => .inl hb, ⟨m, by rw [hL]; exact F.ns⟩, CellsAre.cell X hcn, fun x v hv => ?_, (fun a pl xs h => nomatch h), List.nodup_nil⟩
    · obtain ⟨o, e⟩ := tbx b ht
      have h3 := hab x b hb
      rw [hnone b (Nat.le_of_succ_le h3)] at e; cases e
    · have h3 := hab x b hb
      rw [e, hL] at h3
      exact Nat.lt_irrefl _ h3
    · rw [List.lookup_cons] at hv
      cases hx : x == ("script" : Str) with
      | false => rw [hx] at hv; cases hv
      | true =>
        rw [hx] at hv; cases hv
        rw [beq_iff_eq.mp hx]
        have is : (AV.lst script).is (Cx.ok ⟨⟨prog, w, ghostOf s₁.heap tabs, ts⟩, callerA.deeper env, 100, s₁.heap, (· = a), ts.map (·.P)⟩ []) h₁ (.ref a) := by
          obtain ⟨o, ho, r⟩ := hl
          exact ⟨a, vs, rfl, ⟨.inr rfl, by simp, haT⟩, ⟨o, F.keep _ _ ho, r⟩, hi⟩
        refine ⟨fun hk => ?_, fun hk => ?_⟩
        · obtain ⟨ρ, v, h3, h4, rfl⟩ := hrd.1 hk
          exact ⟨ρ, _, h3, h4, is⟩
        · obtain ⟨c, v, h3, h4, rfl⟩ := hrd.2 hk
          exact ⟨c, _, h3, h4, is⟩
  refine wpAny_mono (h _ _ _ good nest own _ st) (fun f s' q => ?_) fun _ _ f => f
  obtain ⟨af, Γ', μ', went, st', hf, hQ⟩ := q
  subst hQ
  obtain ⟨v', rfl, rfl⟩ := hf
  obtain ⟨h', t', e'⟩ := went.same
  refine ⟨rfl, fun b o e => st'.keep b o (good.gtb b o e) (of_hideAll _ e), by rw [e'], by rw [e']; exact hg, grown_all fun q hq => ?_⟩
  obtain ⟨t, ht, e⟩ := h2 q hq
  obtain ⟨ps, e2⟩ := st'.ti.isTab (List.mem_map_of_mem (f := (·.P)) ht)
  rw [← e]; exact ⟨ps, e2⟩
end Mine
open PySem PySem.W PyProof.Rows
set_option maxRecDepth 100000
set_option linter.unusedVariables false
set_option exponentiation.threshold 10000
namespace Mine
/-! the register, in Nat -/
abbrev POLY : Nat := 7976584769
def stepN (x : Nat) : Nat := if x % 2 = 1 then (x / 2) ^^^ 3988292384 else x / 2
def runN : Nat → Nat → Nat
  | 0, x => x
  | n + 1, x => stepN (runN n x)
theorem step_bit (x i : Nat) : (stepN x).testBit i = (x.testBit (i + 1) ^^ (x.testBit 0 && POLY.testBit (i + 1))) := by
  have h0 : x.testBit 0 = decide (x % 2 = 1) := Nat.testBit_zero x
  have hK : POLY.testBit (i + 1) = (3988292384 : Nat).testBit i := by
    rw [Nat.testBit_succ, show POLY / 2 = 3988292384 from rfl]
  unfold stepN
  split
  · rename_i h
    rw [h0, h, hK, Nat.testBit_xor, ← Nat.testBit_div_two]; simp
  · rename_i h
    rw [h0, ← Nat.testBit_div_two]; simp [h]
theorem step_eq (x : Nat) : (2 * stepN x ^^^ (x % 2) * POLY) = x := by
  apply Nat.eq_of_testBit_eq
  intro i
  have h0 : x.testBit 0 = decide (x % 2 = 1) := Nat.testBit_zero x
  rw [Nat.testBit_xor]
  cases i with
  | zero =>
    rw [Nat.testBit_zero, Nat.testBit_zero, h0]
    rcases Nat.mod_two_eq_zero_or_one x with h | h <;> rw [h] <;> simp <;> decide
  | succ i =>
    have e : (2 * stepN x).testBit (i + 1) = (stepN x).testBit i := by rw [Nat.testBit_succ]; congr 1; omega
    rw [e, step_bit, h0]
    rcases Nat.mod_two_eq_zero_or_one x with h | h <;> rw [h] <;> simp
def offN (x : Nat) : Nat → Nat
  | 0 => 0
  | n + 1 => offN x n ^^^ ((runN n x % 2) * (POLY * 2 ^ n))
theorem xor_mul_pow (a b n : Nat) : (a ^^^ b) * 2 ^ n = a * 2 ^ n ^^^ b * 2 ^ n := by
  rw [← Nat.shiftLeft_eq, ← Nat.shiftLeft_eq, ← Nat.shiftLeft_eq, Nat.shiftLeft_xor_distrib]
theorem off_run (x n : Nat) : (runN n x * 2 ^ n ^^^ offN x n) = x := by
  induction n with
  | zero => simp [runN, offN]
  | succ n ih =>
    have e := step_eq (runN n x)
    have e2 := congrArg (· * 2 ^ n) e
    simp only [xor_mul_pow] at e2
    show (stepN (runN n x) * 2 ^ (n + 1) ^^^ (offN x n ^^^ _)) = x
    rw [Nat.pow_succ, Nat.mul_comm (2 ^ n) 2, ← Nat.mul_assoc, Nat.mul_comm _ 2, ← Nat.mul_assoc]
    rw [Nat.xor_comm (offN x n), ← Nat.xor_assoc, e2]
    exact ih
theorem run_lt (n : Nat) {x : Nat} (h : x < 2 ^ 32) : runN n x < 2 ^ 32 := by
  induction n with
  | zero => exact h
  | succ n ih =>
    show stepN _ < _
    unfold stepN
    split
    · exact Nat.xor_lt_two_pow (by omega) (by decide)
    · omega

/-! a number by its coefficients, the highest first -/
def HV (z : Int) : List Int → Int
  | [] => 0
  | c :: r => c * z ^ r.length + HV z r
theorem D2I_rev (n : Nat) : ∀ xs : List Int, D2I n xs.reverse = HV (2 ^ n) xs
  | [] => rfl
  | c :: r => by
    rw [List.reverse_cons, D2I_append, D2I_rev n r, HV, List.length_reverse, Int.pow_mul]
    simp only [D2I, Int.zero_mul, Int.add_zero]; omega
def pb (b : Bool) : Int := if b then 1 else 0
def Par (f : Nat → Bool) (xs : List Int) : Prop := ∀ i x, xs[i]? = some x → x % 2 = pb (f i)
def subl (q : Int) : List Int → List Int → List Int
  | c :: cs, b :: bt => (c - q * b) :: subl q cs bt
  | cs, _ => cs
end Mine
open PySem PySem.W PyProof.Rows
set_option maxRecDepth 100000
set_option linter.unusedVariables false
set_option exponentiation.threshold 10000
namespace Mine
def geo (z : Int) : Nat → Int
  | 0 => 0
  | n + 1 => z ^ n + geo z n
theorem geo_mul (z : Int) : ∀ n, geo z n * (z - 1) = z ^ n - 1
  | 0 => by simp [geo]
  | n + 1 => by rw [geo, Int.add_mul, geo_mul z n, Int.mul_sub, Int.mul_one, ← Int.pow_succ, Nat.succ_eq_add_one]; omega
theorem HV_le {z K : Int} (hz : 0 ≤ z) : ∀ {xs : List Int}, (∀ x ∈ xs, x ≤ K) → HV z xs ≤ K * geo z xs.length
  | [], _ => by simp [HV, geo]
  | x :: r, h => by
    have ih := HV_le hz (xs := r) fun y hy => h y (.tail _ hy)
    have h1 := Int.mul_le_mul_of_nonneg_right (h x (.head _)) (Int.pow_nonneg (m := r.length) hz)
    rw [HV, List.length_cons, geo, Int.mul_add]; omega
theorem HV_ge {z K : Int} (hz : 0 ≤ z) : ∀ {xs : List Int}, (∀ x ∈ xs, K ≤ x) → K * geo z xs.length ≤ HV z xs
  | [], _ => by simp [HV, geo]
  | x :: r, h => by
    have ih := HV_ge hz (xs := r) fun y hy => h y (.tail _ hy)
    have h1 := Int.mul_le_mul_of_nonneg_right (h x (.head _)) (Int.pow_nonneg (m := r.length) hz)
    rw [HV, List.length_cons, geo, Int.mul_add]; omega
theorem HV_lt {n : Nat} {xs : List Int} (h : ∀ x ∈ xs, x < 2 ^ n) : HV (2 ^ n) xs < (2 ^ n) ^ xs.length := by
  have h1 := HV_le (z := 2 ^ n) (K := 2 ^ n - 1) (Int.le_of_lt (ipow_pos n)) (xs := xs) fun x hx => by have := h x hx; omega
  rw [Int.mul_comm, geo_mul] at h1
  omega
theorem HV_nonneg {z : Int} (hz : 0 ≤ z) {xs : List Int} (h : ∀ x ∈ xs, 0 ≤ x) : 0 ≤ HV z xs := by
  have := HV_ge (K := 0) hz h
  rw [Int.zero_mul] at this; exact this

/-- digits put together, and taken apart -/
theorem digs_D2I {n : Nat} : ∀ {ds : List Int}, (∀ d ∈ ds, 0 ≤ d ∧ d < 2 ^ n) → digs n ds.length (D2I n ds) = ds
  | [], _ => rfl
  | d :: r, h => by
    obtain ⟨h0, h1⟩ := h d (.head _)
    have ih := digs_D2I (n := n) (ds := r) fun y hy => h y (.tail _ hy)
    have hr : 0 ≤ D2I n r := by
      have := HV_nonneg (z := 2 ^ n) (Int.le_of_lt (ipow_pos n)) (xs := r.reverse) fun y hy => (h y (.tail _ (List.mem_reverse.mp hy))).1
      rw [← D2I_rev, List.reverse_reverse] at this; exact this
    have hp := ipow_pos n
    have hx : 0 ≤ D2I n (d :: r) := by
      rw [D2I]; have := Int.mul_nonneg hr (Int.le_of_lt hp); omega
    have e := digs_split (n := n) (k := 1) (m := r.length) hx
    rw [Nat.mul_one] at e
    have e1 : D2I n (d :: r) % 2 ^ n = d := by rw [D2I, Int.add_mul_emod_self_right]; exact Int.emod_eq_of_lt h0 h1
    have e2 : D2I n (d :: r) / 2 ^ n = D2I n r := by
      rw [D2I, Int.add_mul_ediv_right _ _ (Int.ne_of_gt hp), Int.ediv_eq_zero_of_lt h0 h1, Int.zero_add]
    rw [List.length_cons, Nat.add_comm, e, e1, e2, digs_one h0 h1, ih]; rfl
theorem ipow_le {a b : Nat} (h : a ≤ b) : (2 : Int) ^ a ≤ 2 ^ b := by rw [← ipow_cast, ← ipow_cast]; exact_mod_cast two_pow_le h
end Mine
open PySem PySem.W PyProof.Rows
set_option maxRecDepth 100000
set_option linter.unusedVariables false
set_option exponentiation.threshold 10000
namespace Mine
def crcStep (x : Int) : Int := if Builtin.bitAnd x 1 != 0 then Builtin.bitXor (x.fdiv (2 ^ (1 : Int).toNat)) 3988292384 else x.fdiv (2 ^ (1 : Int).toNat)
def crcN : Nat → Int → Int
  | 0, x => x
  | n + 1, x => crcStep (crcN n x)
theorem fdiv2_cast (x : Nat) : ((x : Int).fdiv (2 ^ (1 : Int).toNat)) = ((x / 2 : Nat) : Int) := by
  show ((x : Int).fdiv 2) = _
  rw [Int.fdiv_eq_ediv_of_nonneg _ (by decide)]; omega
theorem band1_cast (x : Nat) : Builtin.bitAnd (x : Int) 1 = ((x % 2 : Nat) : Int) := by
  rw [show (1 : Int) = ((1 : Nat) : Int) from rfl, band_cast, Nat.and_one_is_mod]
theorem crcStep_cast (x : Nat) : crcStep (x : Int) = (stepN x : Int) := by
  unfold crcStep stepN
  rw [band1_cast, fdiv2_cast]
  rcases Nat.mod_two_eq_zero_or_one x with h | h
  · rw [h]; simp
  · rw [h, show (3988292384 : Int) = ((3988292384 : Nat) : Int) from rfl, bxor_cast]; simp
theorem crcN_cast (n x : Nat) : crcN n (x : Int) = (runN n x : Int) := by
  induction n with
  | zero => rfl
  | succ n ih => show crcStep (crcN n x) = _; rw [ih, crcStep_cast]; rfl
def offTo (bs : List Int) : Nat → Int
  | 0 => 0
  | n + 1 => Builtin.bitXor (offTo bs n) ((bs[n]?).getD 0 * (7976584769 * 2 ^ n))
theorem fmod2 (x : Int) : x.fmod 2 = x % 2 := Int.fmod_eq_emod_of_nonneg _ (by decide)
theorem fdivp_cast (x t : Nat) : ((x : Int).fdiv (2 ^ (t : Int).toNat)).fmod 2 = pb (x.testBit t) := by
  rw [Int.toNat_natCast, fdiv_pow, fmod2, ← ipow_cast, Nat.testBit_eq_decide_div_mod_eq]
  have : (((x : Int) / ((2 ^ t : Nat) : Int)) % 2) = ((x / 2 ^ t % 2 : Nat) : Int) := by push_cast; rfl
  rw [this]
  rcases Nat.mod_two_eq_zero_or_one (x / 2 ^ t) with h | h <;> rw [h] <;> rfl
def abv (N S : Int) (t : Int) : Int := (N.fdiv (2 ^ t.toNat)).fmod 2 + 2 * ((S.fdiv (t + 1) + 77 * t * t).fmod 2001 - 1000)
def blw (S : Int) (t : Int) : Int := ((7976584769 : Int).fdiv (2 ^ t.toNat)).fmod 2 + 2 * ((S.fdiv t + t * t).fmod 3 - 1)
theorem ceilD_le {a n m : Nat} (hn : 0 < n) (h : a ≤ m * n) : ceilD a n ≤ m := by
  unfold ceilD
  have : (a + n - 1) / n < m + 1 := (Nat.div_lt_iff_lt_mul hn).mpr (by rw [Nat.add_mul]; omega)
  omega
end Mine
open PySem PySem.W PyProof.Rows
set_option maxRecDepth 100000
set_option linter.unusedVariables false
namespace Mine
section
variable {prog : Program} {w : World} {A : Around} {E : Value → Shared → Prop} {s : Shared}
theorem mkIntGrown_small {i : Int} {Q : Value → Shared → Prop} (hi : i.natAbs < 2 ^ 64) (h : Q (.int i s.toks) { s with toks := s.toks + 1 }) : wpAny (model prog w) A (mkIntGrown i) Q E s := by
  unfold mkIntGrown
  rw [if_neg]
  · exact wpAny_mkInt h
  · intro h'
    by_cases h0 : i.natAbs = 0
    · rw [h0] at h'; exact absurd h' (by decide)
    · have := (Nat.log2_lt h0).mpr hi
      unfold bitsLine at h'; omega
/-- a range turned round -/
theorem getItem_range_rev {r sl : Addr} {a b : Int} {t u v tk : Tok} {Q : Value → Shared → Prop} (hr : IsRange s.heap r a b 1 t u v) (hs : s.heap.IsSliceOf sl .none .none (.int (-1) tk)) (h1 : -100000 ≤ a ∧ a ≤ 100000) (h2 : -100000 ≤ b ∧ b ≤ 100000)
    (h : ∀ t' u' v' tk', Q (.ref s.heap.objs.size) { s with heap := s.heap.push { cls := .type "range", data := .fields #[.int (a + (Builtin.Range.rangeSize a b 1 - 1)) t', .int (a - 1) u', .int (-1) v'] }, toks := tk' }) :
    wpAny (model prog w) A (getItem (.ref r) (.ref sl)) Q E s := by
  have hn : 0 ≤ Builtin.Range.rangeSize a b 1 ∧ Builtin.Range.rangeSize a b 1 ≤ 200000 := by
    unfold Builtin.Range.rangeSize
    rw [if_pos (by decide)]
    split
    · rw [Int.ediv_one]; omega
    · omega
  obtain ⟨os, hos, hcs, hds⟩ := id hs
  have hTs : s.TypeIs (.ref sl) "slice" := ⟨os, hos, hcs⟩
  have hT : s.TypeIs (.ref r) "range" := ⟨_, hr, rfl⟩
  unfold getItem
  try with_reducible refine wpAny_holding ?_
  first | refine wpAny_bind (wpAny_pure ?_) | skip
  refine wpAny_bind (wpAny_sequenceKey hT (by decide) ?_)
  refine wpAny_bind (wpAny_callSpecial?_slot (name := Str.ofString "__getitem__") hT F.slot_range_getitem
    (wpAny_call_entry F.slot_range_getitem hT F.entry_range_getitem ?_ (F.args_range_getitem_2 _ _)))
  show wpAny _ _ (Builtin.Range.rangeFields (.ref r) >>= _) _ _ s
  unfold Builtin.Range.rangeFields
  refine wpAny_bind (wpAny_bind (wpAny_field hr rfl (x := .int a t) rfl ?_))
  refine wpAny_bind (wpAny_pure ?_)
  refine wpAny_bind (wpAny_field hr rfl (x := .int b u) rfl ?_)
  refine wpAny_bind (wpAny_pure ?_)
  refine wpAny_bind (wpAny_field hr rfl (x := .int 1 v) rfl ?_)
  refine wpAny_bind (wpAny_pure ?_)
  refine wpAny_pure ?_
  refine wpAny_bind (wpAny_typeOf hTs ?_)
  rw [if_pos (by decide)]
  unfold Builtin.Slice.sliceFields
  refine wpAny_bind (wpAny_bind (wpAny_field hos hds (x := .none) rfl (wpAny_bind (wpAny_field hos hds (x := .none) rfl (wpAny_bind (wpAny_field hos hds (x := .int (-1) tk) rfl (wpAny_pure ?_)))))))
  refine wpAny_bind (slicePart_int ?_)
  show wpAny _ _ (if ((-1 : Int) == 0) = true then _ else _) _ _ s
  rw [if_neg (by decide)]
  refine wpAny_bind (slicePart_none (wpAny_bind (slicePart_none ?_)))
  generalize Builtin.Range.rangeSize a b 1 = n at *
  show wpAny _ _ (Builtin.roomForPylong ((-1 - (n - 1)) * 1) (1 * -1) >>= fun _ => mkIntGrown (a + (n - 1) * 1) >>= fun x => mkIntGrown (a + -1 * 1) >>= fun y => mkIntGrown (1 * -1) >>= fun z => newFields "range" [x, y, z] >>= fun r => ret r) _ _ s
  refine wpAny_bind (wpAny_roomForPylong (.inl (PyProof.noPylong_small (by decide))) ?_)
  refine wpAny_bind (mkIntGrown_small (by omega) ?_)
  refine wpAny_bind (mkIntGrown_small (by omega) ?_)
  refine wpAny_bind (mkIntGrown_small (by decide) ?_)
  rw [show a + (n - 1) * 1 = a + (n - 1) by omega, show a + -1 * 1 = a - 1 by omega]
  refine wpAny_bind (m := newFields "range" _) (wpAny_newObj_type ?_ ?_)
  · exact wpAny_pure ⟨_, rfl, wpAny_pure (h _ _ _ _)⟩
  · show (3 : Nat) ≤ sizeLine + 2; unfold sizeLine; omega
end
section
variable {c : Cx} {env : Env} {Γ : Vars} {μ : Muts} {q : Bool}
/-- range(a, b)[::-1] -/
theorem Ev.rngRev {v st : Expr} {sp pos : Pos} {a b : Int} (hv : Ev c env Γ μ q v (.rng a b 1)) (hs : Ev c env Γ μ q st (.int (-1))) (h1 : -100000 ≤ a ∧ a ≤ 100000) (h2 : -100000 ≤ b ∧ b ≤ 100000) :
    Ev c env Γ μ q (.Subscript v (.Slice none none (some st) sp) pos) (.rng (a + (Builtin.Range.rangeSize a b 1 - 1)) (a - 1) (-1)) := fun s x =>
  Subscript_ (wpAny_mono (hv s x) (fun va s₁ p₁ => wpAny_Slice (wpAny_pure (wpAny_pure (
    wpAny_mono (hs s₁ (x.grow p₁.1 p₁.2.1)) (fun vk s₄ p₄ => by
      obtain ⟨tk, rfl⟩ := p₄.2.2
      have g := p₄.1.trans (Grow.push (c.G.may q) s₄ { cls := .type "slice", data := .fields #[.none, .none, .int (-1) tk] } s₄.toks)
      obtain ⟨r, t, u, w, rfl, ha, hr⟩ := (x.grow p₁.1 p₁.2.1).still g p₁.2.2
      refine tail_any (T := "range") (s := { s₄ with heap := _ }) ⟨_, hr, rfl⟩ F.slot_range_getitem.lookup (getItem_range_rev hr (Heap.IsSliceOf.new ..) h1 h2 fun t' u' v' tk' => ?_) rfl
      refine ⟨(p₁.1.trans g).trans (Grow.push _ _ _ _), (p₄.2.1.push _).push _, _, _, _, _, rfl, ?_, IsRange.new _ _ _ _ _ _ _⟩
      exact x.fresh (Grow.none x (p₁.1.trans g) (get?_size _) (p₄.2.1.push _))) fun _ _ f => f)))) fun _ _ f => f)
end
theorem rngInts_down {a : Int} {n : Nat} : rngInts (a + (n : Int) - 1) (a - 1) (-1) = ((List.range n).map fun i : Nat => a + (i : Int)).reverse := by
  have hz : (Builtin.Range.rangeSize (a + (n : Int) - 1) (a - 1) (-1)).toNat = n := by
    unfold Builtin.Range.rangeSize
    rw [if_neg (by decide)]
    split
    · rw [show (-(-1) : Int) = 1 by decide, Int.ediv_one]; omega
    · omega
  unfold rngInts
  rw [hz]
  apply List.ext_getElem
  · simp
  · intro i h1 h2
    simp at h1
    rw [List.getElem_map, List.getElem_reverse, List.getElem_map]
    simp
    omega
theorem Items.down {a b : Int} {n : Nat} (hb : b = a + n) (h1 : -100000 ≤ a ∧ a ≤ 100000) (h2 : n ≤ 100000) : AV.Items (.rng (a + (Builtin.Range.rangeSize a b 1 - 1)) (a - 1) (-1)) ((List.range n).map fun i : Nat => a + (i : Int)).reverse := by
  have hz : Builtin.Range.rangeSize a b 1 = n := by
    unfold Builtin.Range.rangeSize
    rw [if_pos (by decide)]
    split
    · rw [Int.ediv_one]; omega
    · omega
  rw [hz, ← rngInts_down, show a + ((n : Int) - 1) = a + n - 1 by omega]
  refine .rng _ _ _ ?_
  have hs : 0 ≤ Builtin.Range.rangeSize (a + n - 1) (a - 1) (-1) ∧ Builtin.Range.rangeSize (a + n - 1) (a - 1) (-1) ≤ 200000 := by
    unfold Builtin.Range.rangeSize
    rw [if_neg (by decide)]
    split
    · rw [show (-(-1) : Int) = 1 by decide, Int.ediv_one]; omega
    · omega
  unfold Builtin.Range.small
  generalize Builtin.Range.rangeSize (a + n - 1) (a - 1) (-1) = z at *
  simp only [Bool.and_eq_true, Bool.or_eq_true]
  rw [if_neg (by decide)]
  have fit : ∀ x : Int, -1000000 ≤ x → x ≤ 1000000 → Builtin.Range.rangeFitsLong x = true := by
    intro x h1 h2
    unfold Builtin.Range.rangeFitsLong
    simp
    omega
  exact ⟨⟨⟨⟨fit _ (by omega) (by omega), fit _ (by omega) (by omega)⟩, fit _ (by omega) (by omega)⟩, fit _ (by omega) (by omega)⟩, .inr (fit _ (by omega) (by omega))⟩
end Mine
open PySem PySem.W PyProof.Rows
set_option maxRecDepth 100000
set_option linter.unusedVariables false
namespace Mine
theorem cellsFrom_apart : ∀ (names : List (Str × NameKind)) (n : Nat) (acc : List (Str × Addr)), (∀ x a, (x, a) ∈ acc → a < n) → acc.Pairwise (fun x y => x.2 ≠ y.2) → (cellsFrom n names acc).Pairwise fun x y => x.2 ≠ y.2 := by
  intro names
  induction names with
  | nil => intro n acc _ hp; simpa [cellsFrom] using hp
  | cons y r ih =>
    intro n acc h hp
    obtain ⟨y, k⟩ := y
    cases k <;> simp only [cellsFrom] <;> first
      | exact ih _ _ h hp
      | exact ih _ _ (fun x a hm => by
          rcases List.mem_cons.mp hm with h' | h'
          · cases h'; exact Nat.lt_succ_self _
          · exact Nat.lt_succ_of_lt (h x a h')) (List.pairwise_cons.mpr ⟨fun q hq e => by
          have := h q.1 q.2 hq
          exact absurd e (Nat.ne_of_gt this), hp⟩)
theorem mem5 {α : Type} {a b c d e : α} {r : List α} : ∀ q ∈ [a, b, c, d, e], q ∈ a :: b :: c :: d :: e :: r := by
  intro q hq
  have : q ∈ [a, b, c, d, e] ++ r := List.mem_append_left _ hq
  exact this
theorem rd_local {env : Env} {h : Heap} {m : Str → Option Value} {x : Str} {a : Addr} (hn : h.Ns env.locals m) (hk : env.kindOf x = some .local) (hm : m x = some (.ref a)) : Rd env h x (fun v => v = .ref a) :=
  ⟨fun _ => ⟨m, _, hn, hm, rfl⟩, fun h => by rw [hk] at h; rcases h with h | h <;> cases h⟩
theorem two_tabs {t t' : Tab} (hne : t.P ≠ t'.P) : ∀ x ∈ [t, t'], ∀ y ∈ [t, t'], x.P = y.P → x = y := by
  intro x hx y hy e
  simp only [List.mem_cons, List.not_mem_nil, or_false] at hx hy
  rcases hx with rfl | rfl <;> rcases hy with rfl | rfl
  · rfl
  · exact absurd e hne
  · exact absurd e.symm hne
  · rfl
theorem two_mem {α : Type} {p : α → Prop} {x y : α} (hx : p x) (hy : p y) : ∀ q ∈ [x, y], p q := by
  intro q hq
  simp only [List.mem_cons, List.not_mem_nil, or_false] at hq
  rcases hq with rfl | rfl
  · exact hx
  · exact hy
end Mine
open PySem PySem.W PyProof.Rows
set_option maxRecDepth 100000
set_option linter.unusedVariables false
set_option exponentiation.threshold 10000
namespace Mine
/-! sums and series -/
def sumTo : Nat → (Nat → Int) → Int
  | 0, _ => 0
  | n + 1, f => sumTo n f + f n
theorem sumTo_congr {f g : Nat → Int} : ∀ {n : Nat}, (∀ i, i < n → f i = g i) → sumTo n f = sumTo n g
  | 0, _ => rfl
  | n + 1, h => by rw [sumTo, sumTo, sumTo_congr fun i hi => h i (by omega), h n (by omega)]
theorem sumTo_zero {f : Nat → Int} : ∀ {n : Nat}, (∀ i, i < n → f i = 0) → sumTo n f = 0
  | 0, _ => rfl
  | n + 1, h => by rw [sumTo, sumTo_zero fun i hi => h i (by omega), h n (by omega)]; rfl
theorem sumTo_add (f : Nat → Int) (m : Nat) : ∀ k, sumTo (m + k) f = sumTo m f + sumTo k fun i => f (m + i)
  | 0 => by simp [sumTo]
  | k + 1 => by rw [← Nat.add_assoc, sumTo, sumTo_add f m k, sumTo, Int.add_assoc]
theorem sumTo_lin (f g : Nat → Int) (a b : Int) : ∀ n, sumTo n (fun i => a * f i + b * g i) = a * sumTo n f + b * sumTo n g
  | 0 => by simp [sumTo]
  | n + 1 => by simp only [sumTo, sumTo_lin f g a b n, Int.mul_add]; omega
def conv (f g : Nat → Int) (j : Nat) : Int := sumTo (j + 1) fun i => f i * g (j - i)
def sh (m : Nat) (f : Nat → Int) (j : Nat) : Int := if m ≤ j then f (j - m) else 0
def one0 (j : Nat) : Int := if j = 0 then 1 else 0
/-! a series as a product of (1 - a x ^ d) -/
def wS (C : Nat → Int) : Nat → Nat → Int
  | 0, j => one0 j
  | n + 1, j => 1 * wS C n j + (-(wS C n (n + 1) - C (n + 1))) * sh (n + 1) (wS C n) j
def wA (C : Nat → Int) (n : Nat) : Int := wS C n (n + 1) - C (n + 1)
def wE (m : Nat) (a : Int) (j : Nat) : Int := if m ∣ j ∧ 0 < j then m * a ^ (j / m) else 0
def wP (C : Nat → Int) : Nat → Nat → Int
  | 0, _ => 0
  | n + 1, j => 1 * wP C n j + 1 * wE (n + 1) (wA C n) j
end Mine
open PySem PySem.W PyProof.Rows
set_option maxRecDepth 100000
set_option linter.unusedVariables false
set_option exponentiation.threshold 10000
namespace Mine
def nth (l : List Int) (i : Nat) : Int := (l[i]?).getD 0
theorem nth_get {l : List Int} {i : Nat} (h : i < l.length) : l[i]? = some (nth l i) := by unfold nth; rw [List.getElem?_eq_getElem h]; rfl
/-! how large the numbers of the product are -/
end Mine
open PySem PySem.W PyProof.Rows
set_option maxRecDepth 100000
set_option linter.unusedVariables false
set_option exponentiation.threshold 10000
namespace Mine
theorem stepN_xor (x y : Nat) : stepN (x ^^^ y) = stepN x ^^^ stepN y := by
  apply Nat.eq_of_testBit_eq
  intro i
  rw [Nat.testBit_xor, step_bit, step_bit, step_bit, Nat.testBit_xor, Nat.testBit_xor]
  cases x.testBit (i + 1) <;> cases y.testBit (i + 1) <;> cases x.testBit 0 <;> cases y.testBit 0 <;> cases POLY.testBit (i + 1) <;> rfl
theorem runN_xor (n x y : Nat) : runN n (x ^^^ y) = runN n x ^^^ runN n y := by
  induction n with
  | zero => rfl
  | succ n ih => show stepN _ = stepN _ ^^^ stepN _; rw [ih, stepN_xor]
end Mine
open PySem PySem.W PyProof.Rows
set_option maxRecDepth 100000
set_option linter.unusedVariables false
set_option exponentiation.threshold 10000
namespace Mine
/-! masks by place: how many of v ones have the syndrome s -/
def cf (col : Nat → Nat) : Nat → Nat → Nat → Int
  | 0, s, v => if s = 0 ∧ v = 0 then 1 else 0
  | p + 1, s, v => cf col p s v + (if 1 ≤ v then cf col p (s ^^^ col p) (v - 1) else 0)
theorem cf_high (col : Nat → Nat) : ∀ p s v, p < v → cf col p s v = 0
  | 0, s, v, h => by rw [cf, if_neg (by omega)]
  | p + 1, s, v, h => by rw [cf, cf_high col p s v (by omega), if_pos (by omega), cf_high col p _ (v - 1) (by omega)]; rfl
theorem cf_nonneg (col : Nat → Nat) : ∀ p s v, 0 ≤ cf col p s v
  | 0, s, v => by rw [cf]; split <;> omega
  | p + 1, s, v => by
    rw [cf]
    have h1 := cf_nonneg col p s v
    have h2 := cf_nonneg col p (s ^^^ col p) (v - 1)
    split <;> omega
/-- with powers of X and Y -/
def HM (col : Nat → Nat) (X Y : Int) (p s : Nat) : Int := sumTo (p + 1) fun v => cf col p s v * (X ^ (p - v) * Y ^ v)
theorem sumTo_mul (a : Int) (f : Nat → Int) : ∀ n, sumTo n (fun i => a * f i) = a * sumTo n f
  | 0 => by simp [sumTo]
  | n + 1 => by rw [sumTo, sumTo, sumTo_mul a f n, Int.mul_add]
theorem sumTo_plus (f g : Nat → Int) : ∀ n, sumTo n (fun i => f i + g i) = sumTo n f + sumTo n g
  | 0 => rfl
  | n + 1 => by rw [sumTo, sumTo, sumTo, sumTo_plus f g n]; omega
theorem HM_zero (col : Nat → Nat) (X Y : Int) (s : Nat) : HM col X Y 0 s = if s = 0 then 1 else 0 := by
  unfold HM
  simp [sumTo, cf]
theorem HM_succ (col : Nat → Nat) (X Y : Int) (p s : Nat) : HM col X Y (p + 1) s = X * HM col X Y p s + Y * HM col X Y p (s ^^^ col p) := by
  unfold HM
  have e : sumTo (p + 1 + 1) (fun v => cf col (p + 1) s v * (X ^ (p + 1 - v) * Y ^ v)) =
      sumTo (p + 1 + 1) (fun v => cf col p s v * (X ^ (p + 1 - v) * Y ^ v)) + sumTo (p + 1 + 1) (fun v => (if 1 ≤ v then cf col p (s ^^^ col p) (v - 1) else 0) * (X ^ (p + 1 - v) * Y ^ v)) := by
    rw [← sumTo_plus]
    exact sumTo_congr fun v _ => by rw [cf, Int.add_mul]
  rw [e]
  congr 1
  · rw [sumTo, cf_high col p s (p + 1) (by omega), Int.zero_mul, Int.add_zero, ← sumTo_mul]
    refine sumTo_congr fun v hv => ?_
    rw [show p + 1 - v = (p - v) + 1 by omega, Int.pow_succ]
    rw [Int.mul_left_comm X, Int.mul_comm (X ^ (p - v)) X, Int.mul_assoc X]
  · rw [Nat.add_comm (p + 1) 1, sumTo_add, ← sumTo_mul]
    have z : sumTo 1 (fun v => (if 1 ≤ v then cf col p (s ^^^ col p) (v - 1) else 0) * (X ^ (p + 1 - v) * Y ^ v)) = 0 := by simp [sumTo]
    rw [z, Int.zero_add]
    refine sumTo_congr fun v hv => ?_
    rw [if_pos (by omega), show 1 + v - 1 = v by omega, show p + 1 - (1 + v) = p - v by omega, Nat.add_comm 1 v, Int.pow_succ]
    rw [Int.mul_left_comm Y, ← Int.mul_assoc (X ^ (p - v)), Int.mul_comm Y]
end Mine
open PySem PySem.W PyProof.Rows
set_option maxRecDepth 100000
set_option linter.unusedVariables false
set_option exponentiation.threshold 10000
namespace Mine
def par3 (n : Nat) : Bool := (n % 2 + n / 2 % 2 + n / 4 % 2) % 2 == 1
def chi (k s : Nat) : Int := if par3 (k &&& s) then -1 else 1
theorem eight {p : Nat → Prop} (h0 : p 0) (h1 : p 1) (h2 : p 2) (h3 : p 3) (h4 : p 4) (h5 : p 5) (h6 : p 6) (h7 : p 7) : ∀ k, k < 8 → p k := by
  intro k hk
  rcases (by omega : k = 0 ∨ k = 1 ∨ k = 2 ∨ k = 3 ∨ k = 4 ∨ k = 5 ∨ k = 6 ∨ k = 7) with rfl | rfl | rfl | rfl | rfl | rfl | rfl | rfl <;> assumption
theorem sum8 (f : Nat → Int) : sumTo 8 f = 0 + f 0 + f 1 + f 2 + f 3 + f 4 + f 5 + f 6 + f 7 := rfl
theorem chi_mul : ∀ k, k < 8 → ∀ s, s < 8 → ∀ c, c < 8 → chi k (s ^^^ c) = chi k s * chi k c := by decide +kernel
theorem shift8 : ∀ c, c < 8 → ∀ f : Nat → Int, sumTo 8 (fun s => f (s ^^^ c)) = sumTo 8 f := by
  refine eight ?_ ?_ ?_ ?_ ?_ ?_ ?_ ?_ <;> intro f <;> rw [sum8, sum8] <;> simp <;> omega
theorem chi_shift (k : Nat) (hk : k < 8) (c : Nat) (hc : c < 8) (h : Nat → Int) : sumTo 8 (fun s => chi k s * h (s ^^^ c)) = chi k c * sumTo 8 (fun s => chi k s * h s) := by
  have e := shift8 c hc fun s => chi k (s ^^^ c) * h s
  have e2 : (fun s => chi k s * h (s ^^^ c)) = fun s => chi k (s ^^^ c ^^^ c) * h (s ^^^ c) := funext fun s => by rw [Nat.xor_assoc, Nat.xor_self, Nat.xor_zero]
  rw [e2, e, ← sumTo_mul]
  exact sumTo_congr fun s hs => by rw [chi_mul k hk s hs c hc, Int.mul_comm (chi k s), Int.mul_assoc]
theorem sumTo_swap (f : Nat → Nat → Int) (m : Nat) : ∀ n, sumTo n (fun i => sumTo m fun j => f i j) = sumTo m fun j => sumTo n fun i => f i j
  | 0 => (sumTo_zero fun _ _ => rfl).symm
  | n + 1 => by rw [sumTo, sumTo_swap f m n, ← sumTo_plus]; rfl
theorem sumTo_pick (g : Nat → Int) (a : Nat) : ∀ n, sumTo n (fun s => g s * if s = a then 8 else 0) = if a < n then 8 * g a else 0
  | 0 => by rw [if_neg (by omega)]; rfl
  | n + 1 => by
    rw [sumTo, sumTo_pick g a n]
    by_cases h : n = a
    · subst h; rw [if_neg (by omega), if_pos rfl, if_pos (by omega)]; omega
    · rw [if_neg h]
      by_cases h2 : a < n
      · rw [if_pos h2, if_pos (by omega)]; omega
      · rw [if_neg h2, if_neg (by omega)]; omega
theorem chi_two : ∀ s, s < 8 → ∀ a, a < 8 → sumTo 8 (fun k => chi k s * chi k a) = if s = a then 8 else 0 := by decide +kernel
theorem chi_orth (a : Nat) (ha : a < 8) (h : Nat → Int) : sumTo 8 (fun k => chi k a * sumTo 8 (fun s => chi k s * h s)) = 8 * h a := by
  have e1 : sumTo 8 (fun k => chi k a * sumTo 8 (fun s => chi k s * h s)) = sumTo 8 fun k => sumTo 8 fun s => h s * (chi k s * chi k a) :=
    sumTo_congr fun k _ => by
      rw [← sumTo_mul]
      exact sumTo_congr fun s _ => by rw [Int.mul_comm (chi k a), Int.mul_comm (chi k s), Int.mul_assoc]
  have e2 : sumTo 8 (fun s => sumTo 8 fun k => h s * (chi k s * chi k a)) = sumTo 8 fun s => h s * if s = a then 8 else 0 :=
    sumTo_congr fun s hs => by rw [sumTo_mul, chi_two s hs a ha]
  rw [e1, sumTo_swap, e2, sumTo_pick, if_pos ha]
/-- the characters' sums multiply at each place -/
def GM (col : Nat → Nat) (X Y : Int) (k p : Nat) : Int := sumTo 8 fun s => chi k s * HM col X Y p s
def wt (col : Nat → Nat) (k : Nat) : Nat → Nat
  | 0 => 0
  | p + 1 => wt col k p + (if chi k (col p) = -1 then 1 else 0)
theorem chi_one (k s : Nat) : chi k s = 1 ∨ chi k s = -1 := by unfold chi; split <;> simp
theorem wt_le (col : Nat → Nat) (k : Nat) : ∀ p, wt col k p ≤ p
  | 0 => Nat.le_refl _
  | p + 1 => by rw [wt]; have := wt_le col k p; split <;> omega
theorem GM_zero (col : Nat → Nat) (X Y : Int) {k : Nat} (hk : k < 8) : GM col X Y k 0 = 1 := by
  unfold GM
  rw [sum8]
  simp only [HM_zero]
  have h0 : chi k 0 = 1 := by simp [chi, par3]
  simp [h0]
theorem GM_succ {col : Nat → Nat} (hc : ∀ p, col p < 8) (X Y : Int) {k : Nat} (hk : k < 8) (p : Nat) : GM col X Y k (p + 1) = (X + chi k (col p) * Y) * GM col X Y k p := by
  unfold GM
  have e : (fun s => chi k s * HM col X Y (p + 1) s) = fun s => X * (chi k s * HM col X Y p s) + Y * (chi k s * HM col X Y p (s ^^^ col p)) := funext fun s => by
    rw [HM_succ, Int.mul_add, Int.mul_left_comm, Int.mul_left_comm (chi k s) Y]
  rw [e, sumTo_lin, chi_shift k hk (col p) (hc p) (HM col X Y p), Int.add_mul, Int.mul_comm (chi k (col p)) Y, Int.mul_assoc Y]
theorem GM_pow {col : Nat → Nat} (hc : ∀ p, col p < 8) (X Y : Int) {k : Nat} (hk : k < 8) : ∀ p, GM col X Y k p = (X - Y) ^ wt col k p * (X + Y) ^ (p - wt col k p)
  | 0 => by rw [GM_zero col X Y hk]; simp [wt]
  | p + 1 => by
    have hw := wt_le col k p
    rw [GM_succ hc X Y hk, GM_pow hc X Y hk p, wt]
    rcases chi_one k (col p) with h | h
    · rw [h, if_neg (by decide), Nat.add_zero, show p + 1 - wt col k p = (p - wt col k p) + 1 by omega, Int.pow_succ, Int.one_mul, Int.mul_left_comm, Int.mul_comm (X + Y)]
    · rw [h, if_pos rfl, show p + 1 - (wt col k p + 1) = p - wt col k p by omega, Int.pow_succ, ← Int.mul_assoc, Int.mul_comm (X + -1 * Y), show X + -1 * Y = X - Y by omega]
/-- MacWilliams -/
theorem macw {col : Nat → Nat} (hc : ∀ p, col p < 8) (X Y : Int) (p : Nat) {a : Nat} (ha : a < 8) :
    sumTo 8 (fun k => chi k a * ((X - Y) ^ wt col k p * (X + Y) ^ (p - wt col k p))) = 8 * HM col X Y p a := by
  rw [← chi_orth a ha (HM col X Y p)]
  exact sumTo_congr fun k hk => by rw [← GM_pow hc X Y hk p]; rfl
/-- the counts' sum is small -/
theorem cf_sum (col : Nat → Nat) : ∀ p s, HM col 1 1 p s ≤ 2 ^ p
  | 0, s => by rw [HM_zero, Int.pow_zero]; split <;> omega
  | p + 1, s => by
    have h1 := cf_sum col p s
    have h2 := cf_sum col p (s ^^^ col p)
    rw [HM_succ, Int.pow_succ]; omega
theorem HM_one (col : Nat → Nat) (p s : Nat) : HM col 1 1 p s = sumTo (p + 1) (cf col p s) := by
  unfold HM
  exact sumTo_congr fun v _ => by rw [Int.one_pow, Int.one_pow, Int.one_mul, Int.mul_one]
theorem HM_z (col : Nat → Nat) (z : Int) (p s : Nat) : HM col 1 z p s = sumTo (p + 1) fun v => cf col p s v * z ^ v := by
  unfold HM
  exact sumTo_congr fun v _ => by rw [Int.one_pow, Int.one_mul]
end Mine
open PySem PySem.W PyProof.Rows
set_option maxRecDepth 100000
set_option linter.unusedVariables false
set_option exponentiation.threshold 10000
namespace Mine
/-- from the v-th on -/
def tl (c : Nat → Int) (n v : Nat) : Int := sumTo (n + 1 - v) fun i => c (v + i)
theorem tl_succ (c : Nat → Int) {n v : Nat} (h : v ≤ n + 1) : tl c (n + 1) v = tl c n v + c (n + 1) := by
  unfold tl
  rw [show n + 1 + 1 - v = (n + 1 - v) + 1 by omega, sumTo, show v + (n + 1 - v) = n + 1 by omega]
theorem tl_step (c : Nat → Int) {n v : Nat} (h : v ≤ n) : tl c n v = c v + tl c n (v + 1) := by
  unfold tl
  rw [show n + 1 - v = 1 + (n - v) by omega, sumTo_add, show n + 1 - (v + 1) = n - v by omega]
  simp only [sumTo, Nat.add_zero, Int.zero_add]
  congr 1
  exact sumTo_congr fun i _ => by rw [Nat.add_assoc]
theorem tl_end (c : Nat → Int) (n : Nat) : tl c n (n + 1) = 0 := by unfold tl; rw [Nat.sub_self]; rfl
theorem geo_sum (z : Int) : ∀ n, sumTo n (fun v => z ^ v) = geo z n
  | 0 => rfl
  | n + 1 => by rw [sumTo, geo_sum z n, geo]; omega
/-- by z - 1 -/
theorem by_one (c : Nat → Int) (z : Int) : ∀ n, sumTo (n + 1) (fun v => c v * z ^ v) = (z - 1) * sumTo n (fun v => tl c n (v + 1) * z ^ v) + tl c n 0
  | 0 => by simp [sumTo, tl]
  | n + 1 => by
    rw [sumTo, by_one c z n, tl_succ c (by omega)]
    have e : sumTo (n + 1) (fun v => tl c (n + 1) (v + 1) * z ^ v) = sumTo (n + 1) (fun v => tl c n (v + 1) * z ^ v) + c (n + 1) * sumTo (n + 1) (fun v => z ^ v) := by
      rw [← sumTo_mul, ← sumTo_plus]
      exact sumTo_congr fun v hv => by rw [tl_succ c (by omega), Int.add_mul]
    have e2 : sumTo (n + 1) (fun v => tl c n (v + 1) * z ^ v) = sumTo n (fun v => tl c n (v + 1) * z ^ v) := by
      rw [sumTo, tl_end, Int.zero_mul, Int.add_zero]
    have g := geo_mul z (n + 1)
    rw [e, e2, geo_sum, Int.mul_add, Int.mul_left_comm (z - 1) (c (n + 1)), Int.mul_comm (z - 1) (geo z (n + 1)), g, Int.mul_sub]
    omega
theorem D2I_range (W : Nat) (f : Nat → Int) : ∀ n, D2I W ((List.range n).map f) = sumTo n fun v => f v * (2 ^ W) ^ v
  | 0 => rfl
  | n + 1 => by
    rw [List.range_succ, List.map_append, D2I_append, D2I_range W f n, sumTo, List.length_map, List.length_range, Int.pow_mul]
    simp [D2I]
theorem tl_nonneg {c : Nat → Int} (hc : ∀ v, 0 ≤ c v) (n v : Nat) : 0 ≤ tl c n v := by
  unfold tl
  generalize n + 1 - v = k
  induction k with
  | zero => exact Int.le_refl _
  | succ k ih => rw [sumTo]; have := hc (v + k); omega
theorem tl_le {c : Nat → Int} (hc : ∀ v, 0 ≤ c v) (n : Nat) : ∀ v, v ≤ n + 1 → tl c n v ≤ tl c n 0
  | 0, _ => Int.le_refl _
  | v + 1, h => by
    have h1 := tl_le hc n v (by omega)
    have h2 := tl_step c (n := n) (v := v) (by omega)
    have := hc v
    omega
end Mine
open PySem PySem.W PyProof.Rows
set_option maxRecDepth 100000
set_option linter.unusedVariables false
namespace Mine
section
variable {c : Cx} {env : Env} {Γ : Vars} {μ : Muts} {q : Bool}
/-- xs[-1] of a list that may change -/
theorem Ev.lastM {v i : Expr} {pos : Pos} {a : Addr} {pl : Bool} {xs : List Int} {n : Int} (hv : Ev c env Γ μ q v (.raw (.ref a))) (hm : (a, pl, xs) ∈ μ) (hi : Ev c env Γ μ q i (.int (-1))) (hx : xs[xs.length - 1]? = some n)
    (hs : ∀ o j, subscripted i false o j = operate [o, j] (getItem o j) := by intro _ _; rfl) : Ev c env Γ μ q (.Subscript v i pos) (.int n) := fun s x =>
  Subscript_ (wpAny_mono (hv s x) (fun va s₁ p₁ => wpAny_mono (hi s₁ (x.grow p₁.1 p₁.2.1)) (fun vb s₂ p₂ => by
    obtain rfl : va = .ref a := p₁.2.2
    obtain ⟨u, rfl⟩ := p₂.2.2
    obtain ⟨⟨vs, h1, _, i1⟩, _⟩ := ((x.grow p₁.1 p₁.2.1).grow p₂.1 p₂.2.1).muts a pl xs hm
    obtain ⟨t, ht⟩ := i1.get (xs.length - 1) n hx
    have hlen := i1.length
    have hpos : 0 < xs.length := by
      have := (List.getElem?_eq_some_iff.mp hx).1; omega
    have e : (-1 + (vs.toArray.size : Int)).toNat = xs.length - 1 := by rw [List.size_toArray, hlen]; omega
    exact tail_any h1.typeIs slot_list_getitem.lookup (wpAny_getItem_list_neg h1 (by decide) (by rw [List.size_toArray, hlen]; omega) (by decide) (x := .int n t) (by rw [e]; simpa using ht) ⟨p₁.1.trans p₂.1, p₂.2.1, _, rfl⟩) (hs _ _)) fun _ _ f => f) fun _ _ f => f)
end
/-- xs[:0:-1] -/
theorem pick_tail (xs : List Int) : pickNums xs none (some 0) (some (-1)) = (xs.drop 1).reverse := by
  unfold pickNums
  cases xs with
  | nil => rfl
  | cons x r =>
    have hb : sliceBounds none (some 0) (some (-1)) (x :: r).length = ((r.length : Int), 0, -1) := by
      unfold sliceBounds
      simp
      omega
    rw [hb]
    have hr : sliceRange (r.length : Int) 0 (-1) = (List.range r.length).map fun k => r.length - 1 - k + 1 := by
      unfold sliceRange
      have h1 : ¬ ((-1 : Int) > 0) := by decide
      by_cases h : (r.length : Int) > 0
      · have e : ((r.length : Int) - 0 - -1 - 1) / (- -1) = (r.length : Int) := by
          rw [show (- -1 : Int) = 1 by decide, Int.ediv_one]
          omega
        simp only [h1, if_false, h, if_true, e, Int.toNat_natCast]
        apply List.map_congr_left
        intro k hk
        have := List.mem_range.mp hk
        omega
      · have e : r.length = 0 := by omega
        rw [e]
        simp
    rw [hr]
    have hf : ((List.range r.length).map fun k => r.length - 1 - k + 1).filterMap (fun i => (x :: r)[i]?) = ((List.range r.length).map fun k => r.length - 1 - k).filterMap (fun i => r[i]?) := by
      rw [List.filterMap_map, List.filterMap_map]
      congr 1
    have ha := krv_all r.toArray
    simp only [List.size_toArray, List.getElem?_toArray] at ha
    rw [hf, krv_range, List.filterMap_reverse, ha]
    rfl
end Mine
open PySem PySem.W PyProof.Rows
set_option maxRecDepth 100000
set_option linter.unusedVariables false
namespace Mine
section
variable {c : Cx} {env : Env} {Γ : Vars} {μ : Muts} {q : Bool}
/-- two pairs compared -/
theorem Ev.eqP {l r : Expr} {pos : Pos} {i j k m : Int} (hl : Ev c env Γ μ q l (.pair i j)) (hr : Ev c env Γ μ q r (.pair k m)) (hm : behindInMarks .Eq r = false := by rfl) :
    Ev c env Γ μ q (.Compare l [.Eq] [r] pos) (.raw (.bool (i == k && j == m))) := fun s x =>
  wpAny_Compare1 (wpAny_mono (hl s x) (fun va s₁ p₁ => wpAny_mono (hr s₁ (x.grow p₁.1 p₁.2.1)) (fun vb s₂ p₂ => by
    obtain ⟨a, t, u, rfl, ha, h1⟩ := (x.grow p₁.1 p₁.2.1).still p₂.1 p₁.2.2
    obtain ⟨b, t', u', rfl, hb, h2⟩ := p₂.2.2
    refine SeqAt.eq_tupleAt (e := fun n => if n = 0 then i == k else j == m) (items := #[.int i t, .int j u]) (items2 := #[.int k t', .int m u']) h1 h2 x.good.room.fits ?_ ?_
    · intro n h3 h4
      have h3 : n < 2 := h3
      rcases (by omega : n = 0 ∨ n = 1) with rfl | rfl
      · exact SeqAt.EqAt.int_int i t k t'
      · exact SeqAt.EqAt.int_int j u m u'
    · refine ⟨p₁.1.trans p₂.1, p₂.2.1, ?_⟩
      show Value.bool _ = Value.bool _
      congr 1
      simp [List.range_succ]) fun _ _ f => f) fun _ _ f => f) hm
end
end Mine
open PySem PySem.W PyProof.Rows
set_option maxRecDepth 100000
set_option maxHeartbeats 8000000
namespace Mine
open_top hd for PySem.Challenge.rw_pe0111_02
end Mine
open PySem PySem.W PyProof.Rows
set_option maxRecDepth 100000
set_option linter.unusedVariables false
namespace Mine

structure Gnd (G : Pg) : Prop where
  K : (hd.heap_39 G.w.params).In G.g
  top : ∃ p loose mean mg mb, Top p loose mean mg mb G.g
  good : G.Good
  nest : G.Nest
  tabs : G.tabs = [⟨41, 37, 40, 4, "_int2digits.<locals>.inner"⟩, ⟨48, 44, 55, 4, "_digits2int.<locals>.inner"⟩]
theorem Gnd.bi {G : Pg} (g : Gnd G) {x : Str} {v : Value} (e : nsIn (hd.heap_39 G.w.params) mainGlobals x = some none) (hv : bootBuiltins x = some v) (hn : x ≠ "__name__") : G.Bi x v := by
  obtain ⟨p, loose, mean, mg, mb, T⟩ := g.top
  exact Pg.Bi.of g.K T e hv hn
theorem Gnd.glob {G : Pg} (g : Gnd G) {x : Str} {v : Value} (e : nsIn (hd.heap_39 G.w.params) mainGlobals x = some (some v)) : G.Glob x v := by
  obtain ⟨p, loose, mean, mg, mb, T⟩ := g.top
  exact Pg.Glob.of g.K T e
theorem Gnd.len {G : Pg} (g : Gnd G) : G.Bi "len" (.builtin "len") := g.bi (by rfl) (by decide +kernel) (by decide)
theorem Gnd.range {G : Pg} (g : Gnd G) : G.Bi "range" (.type "range") := g.bi (by rfl) (by decide +kernel) (by decide)

section
variable {G : Pg}
set_option maxHeartbeats 1000000 in
theorem F_d2i (g : Gnd G) {xs : List Int} {n B : Nat} (hB : ∀ x ∈ xs, x.natAbs < 2 ^ B) (hsz : B + (n + 1) * xs.length + n * xs.length ≤ 100000000) (hlen : xs.length ≤ 512) :
    Fn G 12 49 [.lst xs, .int n] (.int (D2I n xs)) := by
  refine Fn.mk (names := ["digits", "n"]) g.good (g.K 49 _ rfl) rfl (codeRec_of g.K rfl) (DefOk.of rfl (by decide +kernel)) (fun vs h => by match vs, h with | [a, b], _ => rfl) rfl ?_
  intro A base okA L' O
  refine Ex.def_ (t := ⟨48, 44, 55, 4, "_digits2int.<locals>.inner"⟩) g.nest (by rw [g.tabs]; exact .tail _ (.head _)) rfl rfl rfl (by rfl) (by rfl) (.inr ⟨O, rfl, rfl⟩) ?_
  intro f fd hfd
  have key : ∀ k L R : Nat, L < R → R ≤ xs.length → R - L ≤ 2 ^ k → FnC G (k + 1) f fd [V "digits" (.lst xs), V "n" (.int n), V "inner" (.fn f fd)] [.int L, .int R] (.int (D2I n (sl L R xs))) [] [] := by
    obtain ⟨doc, pm, c', ctv, rfl⟩ := hfd
    intro k
    induction k with
    | zero =>
      intro L R h1 h2 h3
      have hR : R = L + 1 := by omega
      subst hR
      refine FnC.mk (names := ["L", "R"]) g.good (ClosOk.of rfl (by rfl)) (fun vs h => by match vs, h with | [a, b], _ => rfl) rfl rfl (by rfl) ?_
      intro A base okA L''
      refine Ex.ite (q := true) (Tst.eq (Ev.add (Ev.var rfl rfl) Ev.const) (Ev.var rfl rfl)) (fun hz => ?_) (fun hz => ?_)
      · have hx : xs[L]? = some (xs[L]'(by omega)) := List.getElem?_eq_getElem (by omega)
        refine Ex.ret (q := true) (Ev.toI (Ev.item (Ev.var rfl rfl) (Ev.var rfl rfl) (by omega) (by omega) hx) ?_) ⟨.inl rfl, rfl⟩
        rw [sl_one hx]; simp [D2I]
      · simp at hz
    | succ k ih =>
      intro L R h1 h2 h3
      refine FnC.mk (names := ["L", "R"]) g.good (ClosOk.of rfl (by rfl)) (fun vs h => by match vs, h with | [a, b], _ => rfl) rfl rfl (by rfl) ?_
      intro A base okA L''
      refine Ex.ite (q := true) (Tst.eq (Ev.add (Ev.var rfl rfl) Ev.const) (Ev.var rfl rfl)) (fun hz => ?_) (fun hz => ?_)
      · have hR : R = L + 1 := by simp at hz; omega
        subst hR
        have hx : xs[L]? = some (xs[L]'(by omega)) := List.getElem?_eq_getElem (by omega)
        refine Ex.ret (q := true) (Ev.toI (Ev.item (Ev.var rfl rfl) (Ev.var rfl rfl) (by omega) (by omega) hx) ?_) ⟨.inl rfl, rfl⟩
        rw [sl_one hx]; simp [D2I]
      · have hne : R ≠ L + 1 := by simp at hz; omega
        refine Ex.nil ?_
        have hmid : ((L : Int) + R).fdiv (2 ^ (1 : Int).toNat) = (((L + R) / 2 : Nat) : Int) := by
          show ((L : Int) + R).fdiv 2 = _
          rw [Int.fdiv_eq_ediv_of_nonneg _ (by decide)]; omega
        refine Ex.assignL (q := true) (Ev.toI (Ev.shr (Ev.add (Ev.var rfl rfl) (Ev.var rfl rfl)) Ev.const (by decide)) hmid) ?_
        generalize hM : (L + R) / 2 = M
        have hM1 : L < M := by omega
        have hM2 : M < R := by omega
        have hsh : ((M : Int) - L) * n = (((M - L) * n : Nat) : Int) := by rw [Int.natCast_mul, Int.natCast_sub (by omega)]
        refine Ex.assignL (q := true) (Ev.toI (Ev.mul (Ev.sub (Ev.var rfl rfl) (Ev.var rfl rfl)) (Ev.var rfl rfl) ?_) hsh) ?_
        · exact mulOkL (by omega)
        have c1 : FnC G (k + 1) f _ _ [.int M, .int R] _ [] [] := ih M R hM2 h2 (by omega)
        have c2 : FnC G (k + 1) f _ _ [.int L, .int M] _ [] [] := ih L M hM1 (by omega) (by omega)
        refine Ex.ret (q := false) (Ev.toI (Ev.add (Ev.shl (Ev.callC (Ev.var rfl rfl) ?_ (EvA.cons (Ev.var rfl rfl) (EvA.cons (Ev.var rfl rfl) EvA.nil)) c1) (Ev.var rfl rfl) ?_ ?_) (Ev.callC (Ev.var rfl rfl) ?_ (EvA.cons (Ev.var rfl rfl) (EvA.cons (Ev.var rfl rfl) EvA.nil)) c2)) ?_) ⟨.inl rfl, rfl⟩
        · exact Capt.of ⟨⟨rfl, rfl, rfl⟩, ⟨rfl, rfl, rfl⟩, ⟨rfl, rfl, rfl⟩, trivial⟩ fun x a h => ⟨x, h⟩
        · omega
        · have b1 := bits_le (D2I_bound (n := n) (B := B) (xs := sl M R xs) fun x hx => hB x (sl_mem hx))
          rw [sl_length h2] at b1
          have b2 : (n + 1) * (R - M) ≤ (n + 1) * xs.length := Nat.mul_le_mul_left _ (by omega)
          have b3 : (M - L) * n ≤ n * xs.length := by rw [Nat.mul_comm]; exact Nat.mul_le_mul_left _ (by omega)
          generalize (M - L) * n = z at *
          omega
        · exact Capt.of ⟨⟨rfl, rfl, rfl⟩, ⟨rfl, rfl, rfl⟩, ⟨rfl, rfl, rfl⟩, trivial⟩ fun x a h => ⟨x, h⟩
        · rw [sl_split (L := L) (M := M) (R := R) (by omega) (by omega), D2I_append, sl_length (by omega), Int.toNat_natCast, Nat.mul_comm (M - L) n, Int.add_comm]
  refine Ex.ret (q := false) (Ev.ifexp (Tst.lst (Ev.var rfl rfl) (by omega)) (fun hz => ?_) (fun hz => ?_)) (.inl rfl)
  · have hne : xs ≠ [] := by intro e; rw [e] at hz; simp at hz
    have hpos : 0 < xs.length := by cases xs with | nil => exact absurd rfl hne | cons => simp
    have c0 := (key 9 0 xs.length hpos (Nat.le_refl _) (by omega)).less (d' := 11) (by omega)
    rw [sl_all] at c0
    obtain ⟨doc, pm, c', ctv, rfl⟩ := hfd
    refine Ev.callC (Ev.var rfl rfl) ?_ (EvA.cons Ev.const (EvA.cons (Ev.len (Ev.bi g.len rfl) (Ev.var rfl rfl) (by omega)) EvA.nil)) c0
    exact Capt.of ⟨⟨rfl, rfl, rfl⟩, ⟨rfl, rfl, rfl⟩, ⟨rfl, rfl, rfl⟩, trivial⟩ clos_sub
  · have hne : xs = [] := by cases xs with | nil => rfl | cons => simp at hz
    subst hne
    exact Ev.const
end
end Mine
open PySem PySem.W PyProof.Rows
set_option maxRecDepth 100000
set_option linter.unusedVariables false
namespace Mine
theorem seg_one {xs : List Int} {L : Nat} {x : Int} (h : L < xs.length) : xs.set L x = xs.take L ++ [x] ++ xs.drop (L + 1) := by
  rw [List.set_eq_take_append_cons_drop, if_pos h]; simp
theorem seg_two {xs A B : List Int} {L M R : Nat} (h1 : L ≤ M) (h2 : M ≤ R) (h3 : R ≤ xs.length) (hA : A.length = M - L) :
    (xs.take L ++ A ++ xs.drop M).take M ++ B ++ (xs.take L ++ A ++ xs.drop M).drop R = xs.take L ++ (A ++ B) ++ xs.drop R := by
  have e1 : (xs.take L ++ A).length = M := by rw [List.length_append, List.length_take, hA]; omega
  rw [List.take_append_of_le_length (by omega), List.take_of_length_le (by omega), List.drop_append, List.drop_eq_nil_of_le (as := xs.take L ++ A) (by omega), List.nil_append, e1, List.drop_drop]
  rw [show M + (R - M) = R by omega]
  simp [List.append_assoc]

section
variable {G : Pg}
set_option maxHeartbeats 1000000 in
theorem F_i2d (g : Gnd G) {a : Int} {n m : Nat} (h0 : 0 ≤ a) (hn : 1 ≤ n) (hn2 : n ≤ 100000) (hm : ceilD (Builtin.Int.intBits a) n = m) (hm2 : m ≤ 512) :
    Fn G 12 42 [.int a, .int n] (.lst (digs n m a)) := by
  have hbits := lt_bits a
  have hbm : Builtin.Int.intBits a ≤ n * m := by rw [← hm]; exact lt_ceil hn
  have ha2 : a < 2 ^ (n * m) := by
    have h1 : a.natAbs < 2 ^ (n * m) := Nat.lt_of_lt_of_le hbits (two_pow_le hbm)
    rw [← ipow_cast]; omega
  have hnm : n * m ≤ 51200000 := Nat.le_trans (Nat.mul_le_mul hn2 hm2) (by decide)
  refine Fn.mk (names := ["a", "n"]) g.good (g.K 42 _ rfl) rfl (codeRec_of g.K rfl) (DefOk.of rfl (by decide +kernel)) (fun vs h => by match vs, h with | [a, b], _ => rfl) rfl ?_
  intro A base okA L' O
  have hmi : ((Builtin.Int.intBits a : Int) + n - 1).fdiv n = (m : Int) := by
    rw [Int.fdiv_eq_ediv_of_nonneg _ (by omega), ← hm]
    unfold ceilD
    rw [Int.natCast_ediv]
    congr 1
    omega
  refine Ex.assignNew (q := true) (EvN.mul (EvN.ev (EvN.display (xs := [0]) (EvA.cons Ev.const EvA.nil) (by decide))) (Ev.toI (Ev.fdiv (Ev.sub (Ev.add (Ev.bits (Ev.var rfl rfl)) (Ev.var rfl rfl)) Ev.const) (Ev.var rfl rfl) (by omega) (log2_small (k := 64) (by omega) (by decide))) hmi) (by omega) (by omega) (by decide)) (.inr ⟨O, rfl, rfl⟩) ?_
  intro b hb1 hb2
  have hxs : (List.replicate ((m : Int).toNat) [(0 : Int)]).flatten.length = m := by rw [KM.len_rep]; simp
  generalize (List.replicate ((m : Int).toNat) [(0 : Int)]).flatten = xs at hxs ⊢
  refine Ex.def_ (t := ⟨41, 37, 40, 4, "_int2digits.<locals>.inner"⟩) g.nest (by rw [g.tabs]; exact .head _) rfl rfl rfl (by rfl) (by rfl) (.inr ⟨O, rfl, rfl⟩) ?_
  intro f fd hfd
  have key : ∀ k (L R : Nat) (x : Int) (ys : List Int) (pl : Bool), ys.length = m → L < R → R ≤ m → R - L ≤ 2 ^ k → 0 ≤ x → x < 2 ^ (n * (R - L)) →
      FnC G (k + 1) f fd [V "a_digits" (.raw (.ref b)), V "n" (.int n), V "inner" (.fn f fd)] [.int x, .int L, .int R] (.raw .none) [(b, pl, ys)] [(b, false, ys.take L ++ digs n (R - L) x ++ ys.drop R)] := by
    obtain ⟨doc, pm, c', ctv, rfl⟩ := hfd
    intro k
    induction k with
    | zero =>
      intro L R x ys pl hy h1 h2 h3 hx0 hx1
      have hR : R = L + 1 := by omega
      subst hR
      refine FnC.mk (names := ["x", "L", "R"]) g.good (ClosOk.of rfl (by rfl)) (fun vs h => by match vs, h with | [a, b, c], _ => rfl) rfl rfl (by rfl) ?_
      intro A base okA L''
      refine Ex.ite (q := true) (Tst.eq (Ev.add (Ev.var rfl rfl) Ev.const) (Ev.var rfl rfl)) (fun hz => ?_) (fun hz => ?_)
      · refine Ex.setItem (pre := []) (q := true) (Ev.var rfl rfl) (Ev.var rfl rfl) (Ev.var rfl rfl) (by omega) (by omega) (by omega) ?_
        refine Ex.retNone ⟨.inl rfl, ?_⟩
        rw [show L + 1 - L = 1 by omega] at hx1 ⊢
        rw [Int.toNat_natCast, seg_one (by omega), digs_one hx0 (by simpa using hx1)]; rfl
      · simp at hz
    | succ k ih =>
      intro L R x ys pl hy h1 h2 h3 hx0 hx1
      refine FnC.mk (names := ["x", "L", "R"]) g.good (ClosOk.of rfl (by rfl)) (fun vs h => by match vs, h with | [a, b, c], _ => rfl) rfl rfl (by rfl) ?_
      intro A base okA L''
      refine Ex.ite (q := true) (Tst.eq (Ev.add (Ev.var rfl rfl) Ev.const) (Ev.var rfl rfl)) (fun hz => ?_) (fun hz => ?_)
      · have hR : R = L + 1 := by simp at hz; omega
        subst hR
        refine Ex.setItem (pre := []) (q := true) (Ev.var rfl rfl) (Ev.var rfl rfl) (Ev.var rfl rfl) (by omega) (by omega) (by omega) ?_
        refine Ex.retNone ⟨.inl rfl, ?_⟩
        rw [show L + 1 - L = 1 by omega] at hx1 ⊢
        rw [Int.toNat_natCast, seg_one (by omega), digs_one hx0 (by simpa using hx1)]; rfl
      · have hne : R ≠ L + 1 := by simp at hz; omega
        refine Ex.nil ?_
        have hmid : ((L : Int) + R).fdiv (2 ^ (1 : Int).toNat) = (((L + R) / 2 : Nat) : Int) := by
          show ((L : Int) + R).fdiv 2 = _
          rw [Int.fdiv_eq_ediv_of_nonneg _ (by decide)]; omega
        refine Ex.assignL (q := true) (Ev.toI (Ev.shr (Ev.add (Ev.var rfl rfl) (Ev.var rfl rfl)) Ev.const (by decide)) hmid) ?_
        generalize hM : (L + R) / 2 = M
        have hM1 : L < M := by omega
        have hM2 : M < R := by omega
        have hsh : ((M : Int) - L) * n = ((n * (M - L) : Nat) : Int) := by rw [Int.natCast_mul, Int.natCast_sub (by omega), Int.mul_comm]
        refine Ex.assignL (q := true) (Ev.toI (Ev.mul (Ev.sub (Ev.var rfl rfl) (Ev.var rfl rfl)) (Ev.var rfl rfl) (mulOkL (by omega))) hsh) ?_
        have hs1 : n * (M - L) ≤ n * m := Nat.mul_le_mul_left _ (by omega)
        have hs2 : n * (R - M) ≤ n * m := Nat.mul_le_mul_left _ (by omega)
        have hs3 : n * (R - L) ≤ n * m := Nat.mul_le_mul_left _ (by omega)
        have hs4 : n * (M - L) + n * (R - M) = n * (R - L) := by rw [← Nat.mul_add]; congr 1; omega
        have hp := ipow_pos (n * (M - L))
        have hu0 : 0 ≤ x / 2 ^ (n * (M - L)) := Int.ediv_nonneg hx0 (Int.le_of_lt hp)
        have hu1 : x / 2 ^ (n * (M - L)) < 2 ^ (n * (R - M)) := by
          apply Int.ediv_lt_of_lt_mul hp
          rw [← Int.pow_add, Nat.add_comm, hs4]; exact hx1
        have hl0 : 0 ≤ x % 2 ^ (n * (M - L)) := Int.emod_nonneg _ (Int.ne_of_gt hp)
        have hl1 : x % 2 ^ (n * (M - L)) < 2 ^ (n * (M - L)) := Int.emod_lt_of_pos _ hp
        refine Ex.assignL (q := true) (Ev.toI (Ev.shr (Ev.var rfl rfl) (Ev.var rfl rfl) (by omega)) (b := x / 2 ^ (n * (M - L))) (by rw [Int.toNat_natCast, fdiv_pow])) ?_
        refine Ex.assignL (q := true) (Ev.toI (Ev.bxor (Ev.var rfl rfl) (Ev.shl (Ev.var rfl rfl) (Ev.var rfl rfl) (by omega) ?_)) (b := x % 2 ^ (n * (M - L))) (by rw [Int.toNat_natCast, ← fdiv_pow, bxor_high hx0])) ?_
        · have : Builtin.Int.intBits (x / 2 ^ (n * (M - L))) ≤ n * (R - M) := bits_le (natAbs_lt hu0 hu1)
          omega
        have c1 := ih L M (x % 2 ^ (n * (M - L))) ys pl hy hM1 (by omega) (by omega) hl0 hl1
        have hy1 : (ys.take L ++ digs n (M - L) (x % 2 ^ (n * (M - L))) ++ ys.drop M).length = m := by
          rw [List.length_append, List.length_append, List.length_take, List.length_drop, digs_length]; omega
        have c2 := ih M R (x / 2 ^ (n * (M - L))) _ false hy1 hM2 h2 (by omega) hu0 hu1
        refine Ex.callM (pre := []) (Ev.var rfl rfl) ?_ (EvA.cons (Ev.var rfl rfl) (EvA.cons (Ev.var rfl rfl) (EvA.cons (Ev.var rfl rfl) EvA.nil))) c1 ?_
        · exact Capt.of ⟨⟨rfl, rfl, rfl⟩, ⟨rfl, rfl, rfl⟩, ⟨rfl, rfl, rfl⟩, trivial⟩ fun x a h => ⟨x, h⟩
        refine Ex.callM (pre := []) (Ev.var rfl rfl) ?_ (EvA.cons (Ev.var rfl rfl) (EvA.cons (Ev.var rfl rfl) (EvA.cons (Ev.var rfl rfl) EvA.nil))) c2 ?_
        · exact Capt.of ⟨⟨rfl, rfl, rfl⟩, ⟨rfl, rfl, rfl⟩, ⟨rfl, rfl, rfl⟩, trivial⟩ fun x a h => ⟨x, h⟩
        refine Ex.nil ⟨.inr ⟨rfl, rfl⟩, ?_⟩
        show [(b, false, _)] = [(b, false, _)]
        rw [seg_two (by omega) (by omega) (by omega) (digs_length _ _ _)]
        have := digs_split (n := n) (k := M - L) (m := R - M) hx0
        rw [show M - L + (R - M) = R - L by omega] at this
        rw [this]
  refine Ex.ite (q := true) (Tst.int (Ev.var rfl rfl)) (fun hz => ?_) (fun hz => ?_)
  · have hne : a ≠ 0 := by simpa using hz
    have hmpos : 0 < m := by
      rcases Nat.eq_zero_or_pos m with h | h
      · rw [h] at ha2; simp at ha2; omega
      · exact h
    have c0 := (key 9 0 m a xs true hxs hmpos (Nat.le_refl _) (by omega) h0 (by simpa using ha2)).less (d' := 11) (by omega)
    obtain ⟨doc, pm, c', ctv, rfl⟩ := hfd
    refine Ex.callM (pre := []) (Ev.var rfl rfl) ?_ (EvA.cons (Ev.var rfl rfl) (EvA.cons Ev.const (EvA.cons (Ev.toI (Ev.lenM (Ev.bi g.len rfl) (Ev.var rfl rfl) (.head _) (by omega)) (by rw [hxs])) EvA.nil))) c0 ?_
    · exact Capt.of ⟨⟨rfl, rfl, rfl⟩, ⟨rfl, rfl, rfl⟩, ⟨rfl, rfl, rfl⟩, trivial⟩ clos_sub
    refine Ex.nil ?_
    refine Ex.freeze (pre := []) (y := "a_digits") rfl hb2 ?_
    refine Ex.ret (q := true) (Ev.to (Ev.var rfl rfl) ?_) (.inl rfl)
    rw [← hxs, List.drop_length]; simp
  · have ha : a = 0 := by simpa using hz
    have hm0 : m = 0 := by
      rw [← hm, ha]
      unfold ceilD
      have : Builtin.Int.intBits 0 = 0 := rfl
      rw [this]
      exact Nat.div_eq_of_lt (by omega)
    subst hm0
    have hx : xs = [] := List.eq_nil_of_length_eq_zero hxs
    subst hx
    refine Ex.nil ?_
    refine Ex.freeze (pre := []) (y := "a_digits") rfl hb2 ?_
    exact Ex.ret (q := true) (Ev.var rfl rfl) (.inl rfl)
end
end Mine
open PySem PySem.W PyProof.Rows
set_option maxRecDepth 100000
set_option linter.unusedVariables false
namespace Mine
theorem Gnd.divmod {G : Pg} (g : Gnd G) : G.Bi "divmod" (.builtin "divmod") := g.bi (by rfl) (by decide +kernel) (by decide)
theorem Gnd.reversed {G : Pg} (g : Gnd G) : G.Bi "reversed" (.type "reversed") := g.bi (by rfl) (by decide +kernel) (by decide)
section
variable {G : Pg}
set_option maxHeartbeats 1000000 in
theorem F_div2_base (g : Gnd G) {a b : Int} {n : Nat} (hb : b ≠ 0) (hl : b.natAbs < 2 ^ 8000) (h : (Builtin.Int.intBits a : Int) - n ≤ 4000) :
    Fn G 1 28 [.int a, .int b, .int n] (.pair (a.fdiv b) (a.fmod b)) := by
  refine Fn.mk (names := ["a", "b", "n"]) g.good (g.K 28 _ rfl) rfl (codeRec_of g.K rfl) (DefOk.of rfl (by decide +kernel)) (fun vs h => by match vs, h with | [a, b, c], _ => rfl) rfl ?_
  intro A base okA L' O
  refine Ex.ite (q := true) (Tst.le (Ev.sub (Ev.bits (Ev.var rfl rfl)) (Ev.var rfl rfl)) (Ev.globInt (g.glob rfl) rfl)) (fun hz => ?_) (fun hz => ?_)
  · exact Ex.ret (q := true) (Ev.divmod (Ev.bi g.divmod rfl) (Ev.var rfl rfl) (Ev.var rfl rfl) hb (log2_small hl (by decide))) (.inl rfl)
  · simp at hz; omega

set_option maxHeartbeats 1000000 in
theorem F_div3 (g : Gnd G) {a12 a3 b b1 b2 : Int} {h : Nat} (hh : h ≤ 4000) (ha0 : 0 ≤ a12) (ha1 : a12 < b) (h30 : 0 ≤ a3) (h31 : a3 < 2 ^ h) (hb1 : 0 < b1) (hb1' : b1 < 2 ^ h) (hb2 : 0 ≤ b2) (hb2' : b2 < 2 ^ h)
    (hb : b = b1 * 2 ^ h + b2) :
    Fn G 2 35 [.int a12, .int a3, .int b, .int b1, .int b2, .int h] (.pair ((a12 * 2 ^ h + a3) / b) ((a12 * 2 ^ h + a3) % b)) := by
  have hp := ipow_pos h
  have hbp : 0 < b := by
    have := Int.mul_pos hb1 hp
    omega
  have hb22 : b < 2 ^ (2 * h) := by
    have : (b1 + 1) * 2 ^ h ≤ 2 ^ h * 2 ^ h := Int.mul_le_mul_of_nonneg_right (by omega) (Int.le_of_lt hp)
    rw [Int.add_mul, Int.one_mul, ← Int.pow_add, ← Nat.two_mul] at this
    omega
  have ha2 : a12 < 2 ^ (2 * h) := Int.lt_trans ha1 hb22
  refine Fn.mk (names := ["a12", "a3", "b", "b1", "b2", "n"]) g.good (g.K 35 _ rfl) rfl (codeRec_of g.K rfl) (DefOk.of rfl (by decide +kernel)) (fun vs h => by match vs, h with | [a, b, c, d, e, f], _ => rfl) rfl ?_
  intro A base okA L' O
  refine Ex.iteJ (q := true) (Tst.eq (Ev.toI (Ev.shr (Ev.var rfl rfl) (Ev.var rfl rfl) (by omega)) (b := a12 / 2 ^ h) (by rw [Int.toNat_natCast, fdiv_pow])) (Ev.var rfl rfl))
    (fun Γ μ => ∃ q r : Int, μ = [] ∧ Γ = [V "q" (.int q), V "r" (.int r), V "a3" (.int a3), V "b" (.int b), V "b2" (.int b2), V "n" (.int h)] ∧ a12 = q * b1 + r ∧ 0 ≤ q ∧ q < 2 ^ (2 * h) ∧ 0 ≤ r ∧ r < 2 ^ (2 * h) ∧ r * 2 ^ h + a3 - q * b2 < b) ?_ ?_ ?_
  · intro hz
    have hz : a12 / 2 ^ h = b1 := by simpa using hz
    have e1 := Int.mul_ediv_add_emod a12 (2 ^ h)
    have m0 : 0 ≤ a12 % 2 ^ h := Int.emod_nonneg _ (Int.ne_of_gt hp)
    rw [hz, Int.mul_comm] at e1
    refine Ex.pairS (q := true) (Ev.two (Ev.toI (Ev.sub (Ev.shl Ev.const (Ev.var rfl rfl) (by omega) ?_) Ev.const) (b := 2 ^ h - 1) (by simp)) (Ev.toI (Ev.add (Ev.sub (Ev.var rfl rfl) (Ev.shl (Ev.var rfl rfl) (Ev.var rfl rfl) (by omega) ?_)) (Ev.var rfl rfl)) (b := a12 - b1 * 2 ^ h + b1) (by simp))) (.inl rfl) (.inl rfl) ?_
    · have : Builtin.Int.intBits 1 = 1 := rfl
      omega
    · have : Builtin.Int.intBits b1 ≤ h := bits_le (natAbs_lt (Int.le_of_lt hb1) hb1')
      omega
    refine Ex.nil ⟨rfl, _, ?_, 2 ^ h - 1, a12 - b1 * 2 ^ h + b1, rfl, rfl, ?_, by omega, ?_, by omega, ?_, ?_⟩
    · exact ⟨rfl, rfl, rfl, rfl, rfl, rfl, trivial⟩
    · rw [Int.sub_mul, Int.mul_comm (2 ^ h)]; omega
    · have : (2 : Int) ^ h ≤ 2 ^ (2 * h) := by rw [← ipow_cast, ← ipow_cast]; exact_mod_cast two_pow_le (by omega)
      omega
    · have : 2 ^ h * 1 ≤ b1 * 2 ^ h := by rw [Int.mul_comm b1]; exact Int.mul_le_mul_of_nonneg_left hb1 (Int.le_of_lt hp)
      omega
    · have e2 : (a12 + 1) * 2 ^ h ≤ b * 2 ^ h := Int.mul_le_mul_of_nonneg_right ha1 (Int.le_of_lt hp)
      have e3 : (a12 - b1 * 2 ^ h + b1) * 2 ^ h + a3 - (2 ^ h - 1) * b2 = a12 * 2 ^ h + a3 - (b1 * 2 ^ h + b2) * 2 ^ h + (b1 * 2 ^ h + b2) := by
        simp only [Int.sub_mul, Int.add_mul, Int.one_mul]
        rw [Int.mul_comm (2 ^ h) b2]; omega
      rw [e3, ← hb]
      rw [Int.add_mul, Int.one_mul] at e2
      omega
  · intro hz
    have hbits : Builtin.Int.intBits a12 ≤ 2 * h := bits_le (natAbs_lt ha0 ha2)
    have c := F_div2_base g (a := a12) (b := b1) (n := h) (by omega) (Nat.lt_of_lt_of_le (natAbs_lt (Int.le_of_lt hb1) hb1') (two_pow_le (by omega))) (by omega)
    refine Ex.pair (q := false) (Ev.callF (Ev.glob (g.glob rfl) rfl) (g.K 28 _ rfl) rfl (EvA.cons (Ev.var rfl rfl) (EvA.cons (Ev.var rfl rfl) (EvA.cons (Ev.var rfl rfl) EvA.nil))) c) (.inl rfl) (.inl rfl) ?_
    rw [Int.fdiv_eq_ediv_of_nonneg _ (Int.le_of_lt hb1), Int.fmod_eq_emod_of_nonneg _ (Int.le_of_lt hb1)]
    have e1 := Int.mul_ediv_add_emod a12 b1
    have r0 : 0 ≤ a12 % b1 := Int.emod_nonneg _ (Int.ne_of_gt hb1)
    have r1 : a12 % b1 < b1 := Int.emod_lt_of_pos _ hb1
    have q0 : 0 ≤ a12 / b1 := Int.ediv_nonneg ha0 (Int.le_of_lt hb1)
    have q1 : a12 / b1 ≤ a12 := Int.ediv_le_self _ ha0
    have h2 : (2 : Int) ^ h ≤ 2 ^ (2 * h) := by rw [← ipow_cast, ← ipow_cast]; exact_mod_cast two_pow_le (by omega)
    refine Ex.nil ⟨rfl, _, ?_, a12 / b1, a12 % b1, rfl, rfl, ?_, q0, by omega, r0, by omega, ?_⟩
    · exact ⟨rfl, rfl, rfl, rfl, rfl, rfl, trivial⟩
    · rw [Int.mul_comm]; exact e1.symm
    · have e2 : (a12 % b1 + 1) * 2 ^ h ≤ b1 * 2 ^ h := Int.mul_le_mul_of_nonneg_right r1 (Int.le_of_lt hp)
      rw [Int.add_mul, Int.one_mul] at e2
      have e3 : 0 ≤ a12 / b1 * b2 := Int.mul_nonneg q0 hb2
      omega
  · rintro Γ μ ⟨q, r, rfl, rfl, e, q0, q1, r0, r1, hlt⟩
    have hX : r * 2 ^ h + a3 - q * b2 = a12 * 2 ^ h + a3 - q * b := by
      rw [e, hb, Int.add_mul, Int.mul_add, Int.mul_assoc]; omega
    have br : Builtin.Int.intBits r ≤ 2 * h := bits_le (natAbs_lt r0 r1)
    refine Ex.assignL (q := true) (Ev.toI (Ev.sub (Ev.bor (Ev.shl (Ev.var rfl rfl) (Ev.var rfl rfl) (by omega) (by omega)) (Ev.var rfl rfl)) (Ev.mul (Ev.var rfl rfl) (Ev.var rfl rfl) (mulOk (natAbs_lt q0 q1) (natAbs_lt hb2 hb2') (by omega)))) (b := a12 * 2 ^ h + a3 - q * b) (by rw [Int.toNat_natCast, bor_low r0 h30 h31, hX])) ?_
    refine Ex.only (Γ' := [V "r" (.int (a12 * 2 ^ h + a3 - q * b)), V "q" (.int q), V "b" (.int b)]) ?_ ⟨rfl, rfl, rfl, trivial⟩
    refine Ex.whileJ (q := true) (fun m Γ μ => ∃ q : Int, μ = [] ∧ Γ = [V "r" (.int (a12 * 2 ^ h + a3 - q * b)), V "q" (.int q), V "b" (.int b)] ∧ a12 * 2 ^ h + a3 - q * b < b ∧ m = (-(a12 * 2 ^ h + a3 - q * b)).toNat) (-(a12 * 2 ^ h + a3 - q * b)).toNat ?_ ?_
    rotate_left
    · rintro m Γ μ ⟨q, rfl, rfl, hlt, rfl⟩
      refine ⟨_, Tst.lt (Ev.var rfl rfl) Ev.const, ?_, ?_⟩
      · intro hz
        have hz : a12 * 2 ^ h + a3 - q * b < 0 := by simpa using hz
        refine Ex.aug (q := true) rfl Ev.const (.inl rfl) (fun _ _ _ _ h => PyProof.Rows.isub_int h) ?_
        refine Ex.aug (q := true) rfl (Ev.var rfl rfl) (.inl rfl) (fun _ _ _ _ h => PyProof.Rows.iadd_int h) ?_
        have e4 : a12 * 2 ^ h + a3 - q * b + b = a12 * 2 ^ h + a3 - (q - 1) * b := by rw [Int.sub_mul, Int.one_mul]; omega
        rw [e4]
        refine Ex.nil ⟨_, _, ?_, ?_, q - 1, rfl, rfl, ?_, rfl⟩
        · rw [← e4]; omega
        · exact ⟨rfl, rfl, rfl, trivial⟩
        · rw [← e4]; omega
      · intro hz
        have hz : 0 ≤ a12 * 2 ^ h + a3 - q * b := by simpa using hz
        obtain ⟨d1, d2⟩ := div_of (X := a12 * 2 ^ h + a3) (q := q) hbp (by rw [Int.mul_comm b q]; exact Int.sub_add_cancel _ _) hz hlt
        exact Ex.ret (q := true) (Ev.to (Ev.two (Ev.var rfl rfl) (Ev.var rfl rfl)) (by rw [d1, d2])) (.inl rfl)
    · exact ⟨q, rfl, rfl, hX ▸ hlt, rfl⟩
end
end Mine
open PySem PySem.W PyProof.Rows
set_option maxRecDepth 100000
set_option linter.unusedVariables false
set_option exponentiation.threshold 10000
namespace Mine

section
variable {G : Pg}
set_option maxHeartbeats 2000000 in
theorem F_div2 (g : Gnd G) {a b : Int} {n : Nat} (hn : 1 ≤ n) (hn2 : n ≤ 7998) (hb0 : 2 ^ (n - 1) ≤ b) (hb1 : b < 2 ^ n) (ha0 : 0 ≤ a) (ha1 : a < b * 2 ^ n) :
    Fn G 3 28 [.int a, .int b, .int n] (.pair (a / b) (a % b)) := by
  have hbp : 0 < b := Int.lt_of_lt_of_le (ipow_pos _) hb0
  by_cases hs : (Builtin.Int.intBits a : Int) - n ≤ 4000
  · have := F_div2_base g (a := a) (b := b) (n := n) (by omega) (Nat.lt_of_lt_of_le (natAbs_lt (Int.le_of_lt hbp) hb1) (two_pow_le (by omega))) hs
    rw [Int.fdiv_eq_ediv_of_nonneg _ (Int.le_of_lt hbp), Int.fmod_eq_emod_of_nonneg _ (Int.le_of_lt hbp)] at this
    exact this.less (by omega)
  refine Fn.mk (names := ["a", "b", "n"]) g.good (g.K 28 _ rfl) rfl (codeRec_of g.K rfl) (DefOk.of rfl (by decide +kernel)) (fun vs h => by match vs, h with | [a, b, c], _ => rfl) rfl ?_
  intro A base okA L' O
  refine Ex.ite (q := true) (Tst.le (Ev.sub (Ev.bits (Ev.var rfl rfl)) (Ev.var rfl rfl)) (Ev.globInt (g.glob rfl) rfl)) (fun hz => ?_) (fun hz => ?_)
  · exact absurd (by simpa using hz) hs
  refine Ex.nil ?_
  refine Ex.assignL (q := true) (Ev.toI (Ev.band (Ev.var rfl rfl) Ev.const) (b := ((n % 2 : Nat) : Int)) (by rw [show (1 : Int) = ((1 : Nat) : Int) from rfl, band_cast, Nat.and_one_is_mod])) ?_
  have ha2 : a < 2 ^ (2 * n) := by
    have : b * 2 ^ n ≤ 2 ^ n * 2 ^ n := Int.mul_le_mul_of_nonneg_right (Int.le_of_lt hb1) (Int.le_of_lt (ipow_pos n))
    rw [← Int.pow_add, ← Nat.two_mul] at this
    omega
  have bba : Builtin.Int.intBits a ≤ 2 * n := bits_le (natAbs_lt ha0 ha2)
  have bbb : Builtin.Int.intBits b ≤ n := bits_le (natAbs_lt (Int.le_of_lt hbp) hb1)
  refine Ex.iteJ (q := true) (Tst.int (Ev.var rfl rfl))
    (fun Γ μ => μ = [] ∧ Γ = [V "a" (.int (a * 2 ^ (n % 2))), V "b" (.int (b * 2 ^ (n % 2))), V "n" (.int ((n + n % 2 : Nat) : Int)), V "pad" (.int ((n % 2 : Nat) : Int))]) ?_ ?_ ?_
  · intro hz
    have hz : n % 2 = 1 := by
      rcases Nat.mod_two_eq_zero_or_one n with h | h
      · rw [h] at hz; simp at hz
      · exact h
    rw [hz]
    refine Ex.aug (q := true) rfl Ev.const (.inl rfl) (fun _ _ _ _ h => PyProof.Rows.ilshift_int (by decide) (by omega) h) ?_
    refine Ex.aug (q := true) rfl Ev.const (.inl rfl) (fun _ _ _ _ h => PyProof.Rows.ilshift_int (by decide) (by omega) h) ?_
    refine Ex.aug (q := true) rfl Ev.const (.inl rfl) (fun _ _ _ _ h => PyProof.Rows.iadd_int h) ?_
    refine Ex.nil ⟨rfl, _, ?_, rfl, rfl⟩
    exact ⟨rfl, rfl, rfl, rfl, trivial⟩
  · intro hz
    have hz : n % 2 = 0 := by
      rcases Nat.mod_two_eq_zero_or_one n with h | h
      · exact h
      · rw [h] at hz; simp at hz
    rw [hz]
    refine Ex.nil ⟨rfl, _, ?_, rfl, rfl⟩
    rw [Int.pow_zero, Int.mul_one, Int.mul_one]
    exact ⟨rfl, rfl, rfl, rfl, trivial⟩
  rintro Γ μ ⟨rfl, rfl⟩
  have he : n % 2 ≤ 1 := by omega
  obtain ⟨h, hh⟩ : ∃ h, n + n % 2 = 2 * h := ⟨(n + n % 2) / 2, by omega⟩
  rw [hh]
  have hq := div_scale (a := a) (n % 2) hbp
  have hbp' : 0 < b * 2 ^ (n % 2) := Int.mul_pos hbp (ipow_pos _)
  have hb1' : b * 2 ^ (n % 2) < 2 ^ (2 * h) := by
    rw [← hh, Int.pow_add]; exact Int.mul_lt_mul_of_pos_right hb1 (ipow_pos _)
  have hb0' : 2 ^ (2 * h - 1) ≤ b * 2 ^ (n % 2) := by
    rw [← hh, show n + n % 2 - 1 = (n - 1) + n % 2 by omega, Int.pow_add]
    exact Int.mul_le_mul_of_nonneg_right hb0 (Int.le_of_lt (ipow_pos _))
  have ha0' : 0 ≤ a * 2 ^ (n % 2) := Int.mul_nonneg ha0 (Int.le_of_lt (ipow_pos _))
  have ha1' : a * 2 ^ (n % 2) < b * 2 ^ (n % 2) * 2 ^ (2 * h) := by
    have e1 : a * 2 ^ (n % 2) < b * 2 ^ n * 2 ^ (n % 2) := Int.mul_lt_mul_of_pos_right ha1 (ipow_pos _)
    have e2 : b * 2 ^ n * 2 ^ (n % 2) ≤ b * 2 ^ (n % 2) * 2 ^ (2 * h) := by
      rw [Int.mul_assoc, Int.mul_comm (2 ^ n), ← Int.mul_assoc]
      exact Int.mul_le_mul_of_nonneg_left (ipow_le (by omega)) (Int.le_of_lt hbp')
    omega
  have hpe := ipow_pos (n % 2)
  have hh2 : h ≤ 4000 := by omega
  have hh1 : 1 ≤ h := by omega
  generalize hE : n % 2 = e at *
  generalize hB : b * 2 ^ e = b' at *
  generalize hA : a * 2 ^ e = a' at *
  have hp := ipow_pos h
  refine Ex.assignL (q := true) (Ev.toI (Ev.shr (Ev.var rfl rfl) Ev.const (by decide)) (b := (h : Int)) (by
    show ((2 * h : Nat) : Int).fdiv 2 = _
    rw [Int.fdiv_eq_ediv_of_nonneg _ (by decide)]; omega)) ?_
  refine Ex.assignL (q := true) (Ev.toI (Ev.sub (Ev.shl Ev.const (Ev.var rfl rfl) (by omega) (by have : Builtin.Int.intBits 1 = 1 := rfl; omega)) Ev.const) (b := 2 ^ h - 1) (by simp)) ?_
  refine Ex.pairS (q := true) (Ev.two (Ev.toI (Ev.shr (Ev.var rfl rfl) (Ev.var rfl rfl) (by omega)) (b := b' / 2 ^ h) (by rw [Int.toNat_natCast, fdiv_pow])) (Ev.toI (Ev.band (Ev.var rfl rfl) (Ev.var rfl rfl)) (b := b' % 2 ^ h) (band_mask (Int.le_of_lt hbp')))) (.inl rfl) (.inl rfl) ?_
  have hsplit := Int.mul_ediv_add_emod b' (2 ^ h)
  have hlo0 : 0 ≤ b' % 2 ^ h := Int.emod_nonneg _ (Int.ne_of_gt hp)
  have hlo1 : b' % 2 ^ h < 2 ^ h := Int.emod_lt_of_pos _ hp
  have hhi1 : b' / 2 ^ h < 2 ^ h := by
    apply Int.ediv_lt_of_lt_mul hp
    rw [← Int.pow_add, ← Nat.two_mul]; exact hb1'
  have hhi0 : 0 < b' / 2 ^ h := by
    have h1 : (2 : Int) ^ h ≤ b' := Int.le_trans (ipow_le (by omega)) hb0'
    have h2 : (1 : Int) ≤ b' / 2 ^ h := (Int.le_ediv_iff_mul_le hp).mpr (by omega)
    omega
  have hjoin : b' = b' / 2 ^ h * 2 ^ h + b' % 2 ^ h := by rw [Int.mul_comm]; exact hsplit.symm
  obtain ⟨d1, d2, x0, x1⟩ := half_step (a := a') (b := b') (h := h) hbp' ha0'
  have am0 : 0 ≤ a' % 2 ^ h := Int.emod_nonneg _ (Int.ne_of_gt hp)
  have am1 : a' % 2 ^ h < 2 ^ h := Int.emod_lt_of_pos _ hp
  have an0 : 0 ≤ a' / 2 ^ h % 2 ^ h := Int.emod_nonneg _ (Int.ne_of_gt hp)
  have an1 : a' / 2 ^ h % 2 ^ h < 2 ^ h := Int.emod_lt_of_pos _ hp
  have ah0 : 0 ≤ a' / 2 ^ h := Int.ediv_nonneg ha0' (Int.le_of_lt hp)
  have c1 := F_div3 g (a12 := a' / 2 ^ (2 * h)) (a3 := a' / 2 ^ h % 2 ^ h) hh2 (Int.ediv_nonneg ha0' (Int.le_of_lt (ipow_pos _))) (Int.ediv_lt_of_lt_mul (ipow_pos _) ha1') an0 an1 hhi0 hhi1 hlo0 hlo1 hjoin
  rw [Nat.two_mul, emod_join h h, ← Nat.two_mul] at c1
  have r10 : 0 ≤ a' / 2 ^ h % b' := Int.emod_nonneg _ (Int.ne_of_gt hbp')
  have r11 : a' / 2 ^ h % b' < b' := Int.emod_lt_of_pos _ hbp'
  have c2 := F_div3 g (a12 := a' / 2 ^ h % b') (a3 := a' % 2 ^ h) hh2 r10 r11 am0 am1 hhi0 hhi1 hlo0 hlo1 hjoin
  refine Ex.pair (q := false) (Ev.callF (Ev.glob (g.glob rfl) rfl) (g.K 35 _ rfl) rfl (EvA.cons (Ev.toI (Ev.shr (Ev.var rfl rfl) (Ev.var rfl rfl) (by omega)) (b := a' / 2 ^ (2 * h)) (by rw [Int.toNat_natCast, fdiv_pow]))
    (EvA.cons (Ev.toI (Ev.band (Ev.shr (Ev.var rfl rfl) (Ev.var rfl rfl) (by omega)) (Ev.var rfl rfl)) (b := a' / 2 ^ h % 2 ^ h) (by rw [Int.toNat_natCast, fdiv_pow, band_mask ah0]))
    (EvA.cons (Ev.var rfl rfl) (EvA.cons (Ev.var rfl rfl) (EvA.cons (Ev.var rfl rfl) (EvA.cons (Ev.var rfl rfl) EvA.nil)))))) c1) (.inl rfl) (.inl rfl) ?_
  refine Ex.pair (q := false) (Ev.callF (Ev.glob (g.glob rfl) rfl) (g.K 35 _ rfl) rfl (EvA.cons (Ev.var rfl rfl)
    (EvA.cons (Ev.toI (Ev.band (Ev.var rfl rfl) (Ev.var rfl rfl)) (b := a' % 2 ^ h) (band_mask ha0'))
    (EvA.cons (Ev.var rfl rfl) (EvA.cons (Ev.var rfl rfl) (EvA.cons (Ev.var rfl rfl) (EvA.cons (Ev.var rfl rfl) EvA.nil)))))) c2) (.inl rfl) (.inl rfl) ?_
  generalize hX : a' / 2 ^ h % b' * 2 ^ h + a' % 2 ^ h = X at *
  have d2' : X % b' = a % b * 2 ^ e := by rw [← d2, hq.2]
  have d1' : a' / 2 ^ h / b' * 2 ^ h + X / b' = a / b := by rw [← d1, hq.1]
  rw [d2']
  have q20 : 0 ≤ X / b' := Int.ediv_nonneg x0 (Int.le_of_lt hbp')
  have q21 : X / b' < 2 ^ h := Int.ediv_lt_of_lt_mul hbp' (by rw [Int.mul_comm]; exact x1)
  have q10 : 0 ≤ a' / 2 ^ h / b' := Int.ediv_nonneg ah0 (Int.le_of_lt hbp')
  have q11 : a' / 2 ^ h / b' < 2 ^ h := by
    apply Int.ediv_lt_of_lt_mul hbp'
    apply Int.ediv_lt_of_lt_mul hp
    rw [Int.mul_assoc, Int.mul_comm b', ← Int.mul_assoc, ← Int.pow_add, ← Nat.two_mul, Int.mul_comm]; exact ha1'
  have bq : Builtin.Int.intBits (a' / 2 ^ h / b') ≤ h := bits_le (natAbs_lt q10 q11)
  refine Ex.iteJ (q := true) (Tst.int (Ev.var rfl rfl))
    (fun Γ μ => μ = [] ∧ Γ = [V "r" (.int (a % b)), V "q1" (.int (a' / 2 ^ h / b')), V "q2" (.int (X / b')), V "half_n" (.int h)]) ?_ ?_ ?_
  · intro hz
    have hz : e = 1 := by
      rcases (by omega : e = 0 ∨ e = 1) with h | h
      · rw [h] at hz; simp at hz
      · exact h
    rw [hz]
    refine Ex.aug (q := true) rfl Ev.const (.inl rfl) (fun _ _ _ _ h => PyProof.Rows.irshift_int (by decide) h) ?_
    refine Ex.nil ⟨rfl, _, ?_, rfl, rfl⟩
    rw [show ((a % b * 2 ^ 1 : Int)).fdiv (2 ^ (1 : Int).toNat) = a % b by
      show ((a % b * 2 : Int)).fdiv 2 = _
      rw [Int.fdiv_eq_ediv_of_nonneg _ (by decide)]; omega]
    exact ⟨rfl, rfl, rfl, rfl, trivial⟩
  · intro hz
    have hz : e = 0 := by
      rcases (by omega : e = 0 ∨ e = 1) with h | h
      · exact h
      · rw [h] at hz; simp at hz
    rw [hz, Int.pow_zero, Int.mul_one]
    refine Ex.nil ⟨rfl, _, ?_, rfl, rfl⟩
    exact ⟨rfl, rfl, rfl, rfl, trivial⟩
  rintro Γ μ ⟨rfl, rfl⟩
  exact Ex.ret (q := true) (Ev.two (Ev.toI (Ev.bor (Ev.shl (Ev.var rfl rfl) (Ev.var rfl rfl) (by omega) (by omega)) (Ev.var rfl rfl)) (by rw [Int.toNat_natCast, bor_low q10 q20 q21, d1'])) (Ev.var rfl rfl)) (.inl rfl)
end
end Mine
open PySem PySem.W PyProof.Rows
set_option maxRecDepth 100000
set_option linter.unusedVariables false
set_option exponentiation.threshold 10000
namespace Mine
theorem digs_get {n m i : Nat} {x : Int} (h : i < m) : (digs n m x)[i]? = some (x / 2 ^ (n * i) % 2 ^ n) := by
  unfold digs; simp [h]
section
variable {G : Pg}
set_option maxHeartbeats 2000000 in
theorem F_divpos (g : Gnd G) {a b : Int} {m : Nat} (hb : 0 < b) (hb2 : Builtin.Int.intBits b ≤ 7998) (ha : 0 ≤ a) (hm : ceilD (Builtin.Int.intBits a) (Builtin.Int.intBits b) = m) (hm2 : m ≤ 512) :
    Fn G 13 56 [.int a, .int b] (.pair (a / b) (a % b)) := by
  have hn1 : 1 ≤ Builtin.Int.intBits b := bits_pos (by omega)
  have hbl := bits_le_of (a := b) (k := 0) (by omega)
  have hbu := lt_bits b
  have hau := lt_bits a
  have hnm : Builtin.Int.intBits a ≤ Builtin.Int.intBits b * m := by rw [← hm]; exact lt_ceil hn1
  have hi := F_i2d g ha hn1 (by omega) hm hm2
  generalize hn : Builtin.Int.intBits b = n at *
  have hB0 : (2 : Int) ^ (n - 1) ≤ b := by rw [← ipow_cast]; omega
  have hB1 : b < 2 ^ n := by rw [← ipow_cast]; omega
  have hA : a < 2 ^ (n * m) := by
    have := two_pow_le hnm
    rw [← ipow_cast]; omega
  have hp := ipow_pos n
  refine Fn.mk (names := ["a", "b"]) g.good (g.K 56 _ rfl) rfl (codeRec_of g.K rfl) (DefOk.of rfl (by decide +kernel)) (fun vs h => by match vs, h with | [a, b], _ => rfl) rfl ?_
  intro A base okA L' O
  refine Ex.assignL (q := true) (Ev.toI (Ev.bits (Ev.var rfl rfl)) (congrArg Int.ofNat hn)) ?_
  refine Ex.assignL (q := false) (Ev.callF (Ev.glob (g.glob rfl) rfl) (g.K 42 _ rfl) rfl (EvA.cons (Ev.var rfl rfl) (EvA.cons (Ev.var rfl rfl) EvA.nil)) hi) ?_
  refine Ex.assignL (q := true) Ev.const ?_
  refine Ex.assignNew (q := true) (EvN.display (xs := []) EvA.nil (by decide)) (.inl rfl) ?_
  intro p hp1 hp2
  refine Ex.only (Γ' := [V "r" (.int 0), V "q_digits" (.raw (.ref p)), V "a_digits" (.lst (digs n m a)), V "n" (.int n), V "b" (.int b)]) ?_ ⟨rfl, rfl, rfl, rfl, rfl, trivial⟩
  refine Ex.forRev (q := true) (Ev.bi g.reversed rfl) (Ev.var rfl rfl)
    (fun i Γ μ => ∃ qs : List Int, i ≤ m ∧ Γ = [V "r" (.int (a / 2 ^ (n * (m - i)) % b)), V "q_digits" (.raw (.ref p)), V "a_digits" (.lst (digs n m a)), V "n" (.int n), V "b" (.int b)] ∧ μ = [(p, true, qs)] ∧
      qs.length = i ∧ (∀ x ∈ qs, x.natAbs < 2 ^ n) ∧ D2I n qs.reverse = a / 2 ^ (n * (m - i)) / b) ?_ ?_ ?_
  · refine ⟨[], Nat.zero_le _, ?_, rfl, rfl, by simp, ?_⟩
    · rw [Nat.sub_zero, Int.ediv_eq_zero_of_lt ha hA]; rfl
    · rw [Nat.sub_zero, Int.ediv_eq_zero_of_lt ha hA]; simp [D2I]
  · rintro i d Γ μ hd ⟨qs, him, rfl, rfl, hl, hq, hD⟩
    have hi' : i < m := by
      have := (List.getElem?_eq_some_iff.mp hd).1
      rw [List.length_reverse, digs_length] at this; exact this
    rw [List.getElem?_reverse (by rw [digs_length]; exact hi'), digs_length, digs_get (by omega)] at hd
    obtain rfl := Option.some.inj hd
    have e1 : n * (m - i) = n * (m - 1 - i) + n := by
      rw [show m - i = (m - 1 - i) + 1 by omega, Nat.mul_succ]
    have e2 : a / 2 ^ (n * (m - i)) = a / 2 ^ (n * (m - 1 - i)) / 2 ^ n := by rw [e1, Int.pow_add, Int.ediv_ediv_of_nonneg (Int.le_of_lt (ipow_pos _))]
    have e3 : m - (i + 1) = m - 1 - i := by omega
    rw [e3]
    rw [e2] at hD ⊢
    have hC0 : 0 ≤ a / 2 ^ (n * (m - 1 - i)) := Int.ediv_nonneg ha (Int.le_of_lt (ipow_pos _))
    generalize a / 2 ^ (n * (m - 1 - i)) = C at *
    obtain ⟨d1, d2, x0, x1⟩ := half_step (a := C) (b := b) (h := n) hb hC0
    have r0 : 0 ≤ C / 2 ^ n % b := Int.emod_nonneg _ (Int.ne_of_gt hb)
    have r1 : C / 2 ^ n % b < b := Int.emod_lt_of_pos _ hb
    have br : Builtin.Int.intBits (C / 2 ^ n % b) ≤ n := bits_le (natAbs_lt r0 (by omega))
    have c := F_div2 g hn1 hb2 hB0 hB1 x0 x1
    refine Ex.pair (q := false) (Ev.callF (Ev.glob (g.glob rfl) rfl) (g.K 28 _ rfl) rfl (EvA.cons (Ev.add (Ev.shl (Ev.var rfl rfl) (Ev.var rfl rfl) (by omega) (by omega)) (Ev.var rfl rfl)) (EvA.cons (Ev.var rfl rfl) (EvA.cons (Ev.var rfl rfl) EvA.nil))) (Fn.less (d' := 12) c (by decide))) (.inl rfl) (.inl rfl) ?_
    have q0 : 0 ≤ (C / 2 ^ n % b * 2 ^ n + C % 2 ^ n) / b := Int.ediv_nonneg x0 (Int.le_of_lt hb)
    have q1 : (C / 2 ^ n % b * 2 ^ n + C % 2 ^ n) / b < 2 ^ n := Int.ediv_lt_of_lt_mul hb (by rw [Int.mul_comm (2 ^ n) b]; exact x1)
    refine Ex.append (pre := []) (q := true) (Ev.var rfl rfl) (Ev.var rfl rfl) (by omega) ?_
    refine Ex.nil ⟨_, ?_, qs ++ [(C / 2 ^ n % b * 2 ^ n + C % 2 ^ n) / b], by omega, rfl, rfl, by simp [hl], ?_, ?_⟩
    · rw [d2]; exact ⟨rfl, rfl, rfl, rfl, rfl, trivial⟩
    · intro x hx
      rcases List.mem_append.mp hx with h | h
      · exact hq x h
      · rw [List.mem_singleton.mp h]; exact natAbs_lt q0 q1
    · rw [List.reverse_append, List.reverse_singleton, List.singleton_append, D2I, hD, d1, Int.add_comm]
  · rintro Γ μ ⟨qs, him, rfl, rfl, hl, hq, hD⟩
    rw [digs_length] at him hl hD ⊢
    rw [Nat.sub_self, Nat.mul_zero, Int.pow_zero, Int.ediv_one] at hD ⊢
    refine Ex.reverse (pre := []) (q := true) (Ev.var rfl rfl) (by omega) ?_
    refine Ex.freeze (pre := []) (y := "q_digits") rfl hp2 ?_
    have bnd1 : (n + 1) * m ≤ 7999 * 512 := Nat.mul_le_mul (by omega) hm2
    have bnd2 : n * m ≤ 7999 * 512 := Nat.mul_le_mul (by omega) hm2
    have c := F_d2i g (xs := qs.reverse) (n := n) (B := n) (fun x hx => hq x (List.mem_reverse.mp hx)) (by rw [List.length_reverse, hl]; omega) (by rw [List.length_reverse]; omega)
    rw [hD] at c
    refine Ex.assignL (q := false) (Ev.callF (Ev.glob (g.glob rfl) rfl) (g.K 49 _ rfl) rfl (EvA.cons (Ev.var rfl rfl) (EvA.cons (Ev.var rfl rfl) EvA.nil)) c) ?_
    exact Ex.ret (q := true) (Ev.two (Ev.var rfl rfl) (Ev.var rfl rfl)) (.inl rfl)

theorem fdiv_of {X b q r : Int} (h : r + b * q = X) (hb : 0 < b → 0 ≤ r ∧ r < b) (hb' : b < 0 → b < r ∧ r ≤ 0) (hne : b ≠ 0) : X.fdiv b = q ∧ X.fmod b = r := by
  rcases Int.lt_or_gt_of_ne hne with hl | hg
  · obtain ⟨h1, h2⟩ := hb' hl
    have e := Int.neg_fdiv_neg X b
    have e2 := Int.mul_fdiv_add_fmod X b
    have d := div_of (X := -X) (b := -b) (q := q) (r := -r) (by omega) (by rw [Int.neg_mul]; omega) (by omega) (by omega)
    rw [← e, Int.fdiv_eq_ediv_of_nonneg _ (by omega), d.1]
    refine ⟨rfl, ?_⟩
    rw [← e, Int.fdiv_eq_ediv_of_nonneg _ (by omega), d.1] at e2
    omega
  · obtain ⟨h1, h2⟩ := hb hg
    rw [Int.fdiv_eq_ediv_of_nonneg _ (by omega), Int.fmod_eq_emod_of_nonneg _ (by omega)]
    exact div_of hg h h1 h2

/-- a divisor above nought -/
theorem F_divmod_pos (g : Gnd G) {a b : Int} (hb : 0 < b) (hb2 : Builtin.Int.intBits b ≤ 7998) (hm : ∀ x : Int, x = a ∨ x = -a - 1 → ceilD (Builtin.Int.intBits x) (Builtin.Int.intBits b) ≤ 512) :
    Fn G 15 63 [.int a, .int b] (.pair (a / b) (a % b)) := by
  have pos : ∀ a : Int, 0 ≤ a → ceilD (Builtin.Int.intBits a) (Builtin.Int.intBits b) ≤ 512 → Fn G 14 63 [.int a, .int b] (.pair (a / b) (a % b)) := by
    intro a ha hm
    have c := F_divpos g hb hb2 ha rfl hm
    refine Fn.mk (names := ["a", "b"]) g.good (g.K 63 _ rfl) rfl (codeRec_of g.K rfl) (DefOk.of rfl (by decide +kernel)) (fun vs h => by match vs, h with | [a, b], _ => rfl) rfl ?_
    intro A base okA L' O
    refine Ex.ite (q := true) (Tst.eq (Ev.var rfl rfl) Ev.const) (fun hz => ?_) (fun hz => ?_)
    · simp at hz; omega
    refine Ex.ite (q := true) (Tst.lt (Ev.var rfl rfl) Ev.const) (fun hz => ?_) (fun hz => ?_)
    · simp at hz; omega
    refine Ex.ite (q := true) (Tst.lt (Ev.var rfl rfl) Ev.const) (fun hz => ?_) (fun hz => ?_)
    · simp at hz; omega
    exact Ex.ret (q := false) (Ev.callF (Ev.glob (g.glob rfl) rfl) (g.K 56 _ rfl) rfl (EvA.cons (Ev.var rfl rfl) (EvA.cons (Ev.var rfl rfl) EvA.nil)) c) (.inl rfl)
  rcases Int.lt_or_le a 0 with hneg | hpos
  · have c := pos (-a - 1) (by omega) (hm _ (.inr rfl))
    refine Fn.mk (names := ["a", "b"]) g.good (g.K 63 _ rfl) rfl (codeRec_of g.K rfl) (DefOk.of rfl (by decide +kernel)) (fun vs h => by match vs, h with | [a, b], _ => rfl) rfl ?_
    intro A base okA L' O
    refine Ex.ite (q := true) (Tst.eq (Ev.var rfl rfl) Ev.const) (fun hz => ?_) (fun hz => ?_)
    · simp at hz; omega
    refine Ex.ite (q := true) (Tst.lt (Ev.var rfl rfl) Ev.const) (fun hz => ?_) (fun hz => ?_)
    · simp at hz; omega
    refine Ex.ite (q := true) (Tst.lt (Ev.var rfl rfl) Ev.const) (fun hz => ?_) (fun hz => ?_)
    rotate_left
    · simp at hz; omega
    have e1 := Int.mul_ediv_add_emod (-a - 1) b
    have r0 : 0 ≤ (-a - 1) % b := Int.emod_nonneg _ (Int.ne_of_gt hb)
    have r1 : (-a - 1) % b < b := Int.emod_lt_of_pos _ hb
    have d := div_of (X := a) (b := b) (q := -((-a - 1) / b) - 1) (r := b + (-((-a - 1) % b) - 1)) hb (by rw [Int.mul_sub, Int.mul_neg, Int.mul_one]; omega) (by omega) (by omega)
    refine Ex.pair (q := false) (Ev.callF (Ev.glob (g.glob rfl) rfl) (g.K 63 _ rfl) rfl (EvA.cons (Ev.toI (Ev.inv (Ev.var rfl rfl)) (b := -a - 1) (by unfold Builtin.bitNot; omega)) (EvA.cons (Ev.var rfl rfl) EvA.nil)) c) (.inl rfl) (.inl rfl) ?_
    refine Ex.ret (q := true) (Ev.to (Ev.two (Ev.inv (Ev.var rfl rfl)) (Ev.add (Ev.var rfl rfl) (Ev.inv (Ev.var rfl rfl)))) ?_) (.inl rfl)
    rw [d.1, d.2]
    unfold Builtin.bitNot
    have e5 : ∀ x : Int, -x - 1 = -(x + 1) := fun x => by omega
    simp only [e5]
  · exact (pos a hpos (hm _ (.inl rfl))).less (by omega)

theorem bits_neg (b : Int) : Builtin.Int.intBits (-b) = Builtin.Int.intBits b := by
  unfold Builtin.Int.intBits
  by_cases h : b = 0
  · subst h; rfl
  · have : (-b == 0) = false := by simpa using h
    have h2 : (b == 0) = false := by simpa using h
    rw [this, h2, Int.natAbs_neg]

theorem F_divmod (g : Gnd G) {a b : Int} (hb : b ≠ 0) (hb2 : Builtin.Int.intBits b ≤ 7998) (hm : ∀ x : Int, x = a ∨ x = -a - 1 ∨ x = -a ∨ x = a - 1 → ceilD (Builtin.Int.intBits x) (Builtin.Int.intBits b) ≤ 512) :
    Fn G 16 63 [.int a, .int b] (.pair (a.fdiv b) (a.fmod b)) := by
  rcases Int.lt_or_gt_of_ne hb with hneg | hpos
  · have c := F_divmod_pos g (a := -a) (b := -b) (by omega) (by rw [bits_neg]; exact hb2) (fun x hx => by
      rw [bits_neg]; apply hm
      rcases hx with h | h
      · exact .inr (.inr (.inl h))
      · exact .inr (.inr (.inr (by omega))))
    refine Fn.mk (names := ["a", "b"]) g.good (g.K 63 _ rfl) rfl (codeRec_of g.K rfl) (DefOk.of rfl (by decide +kernel)) (fun vs h => by match vs, h with | [a, b], _ => rfl) rfl ?_
    intro A base okA L' O
    refine Ex.ite (q := true) (Tst.eq (Ev.var rfl rfl) Ev.const) (fun hz => ?_) (fun hz => ?_)
    · simp at hz; omega
    refine Ex.ite (q := true) (Tst.lt (Ev.var rfl rfl) Ev.const) (fun hz => ?_) (fun hz => ?_)
    rotate_left
    · simp at hz; omega
    have r0 : 0 ≤ (-a) % (-b) := Int.emod_nonneg _ (by omega)
    have r1 : (-a) % (-b) < -b := Int.emod_lt_of_pos _ (by omega)
    have e1 := Int.mul_ediv_add_emod (-a) (-b)
    have d := fdiv_of (X := a) (b := b) (q := (-a) / (-b)) (r := -((-a) % (-b))) (by rw [Int.neg_mul] at e1; omega) (fun h => by omega) (fun h => by omega) hb
    refine Ex.pair (q := false) (Ev.callF (Ev.glob (g.glob rfl) rfl) (g.K 63 _ rfl) rfl (EvA.cons (Ev.neg (Ev.var rfl rfl)) (EvA.cons (Ev.neg (Ev.var rfl rfl)) EvA.nil)) c) (.inl rfl) (.inl rfl) ?_
    refine Ex.ret (q := true) (Ev.to (Ev.two (Ev.var rfl rfl) (Ev.neg (Ev.var rfl rfl))) ?_) (.inl rfl)
    rw [d.1, d.2]
  · have c := F_divmod_pos g (a := a) (b := b) hpos hb2 (fun x hx => hm x (hx.elim .inl fun h => .inr (.inl h)))
    rw [Int.fdiv_eq_ediv_of_nonneg _ (by omega), Int.fmod_eq_emod_of_nonneg _ (by omega)]
    exact c.less (by omega)
end
end Mine
open PySem PySem.W PyProof.Rows
set_option maxRecDepth 100000
set_option linter.unusedVariables false
set_option exponentiation.threshold 10000
namespace Mine
section
variable {G : Pg}
set_option maxHeartbeats 1000000 in
theorem F_crc (g : Gnd G) (x : Int) : Fn G 1 21 [.int x] (.int (crcN 8 x)) := by
  refine Fn.mk (names := ["crc"]) g.good (g.K 21 _ rfl) rfl (codeRec_of g.K rfl) (DefOk.of rfl (by decide +kernel)) (fun vs h => by match vs, h with | [a], _ => rfl) rfl ?_
  intro A base okA L O
  refine Ex.forJ (q := true) (src := .rng 0 8 1) (Ev.range1 (Ev.bi g.range rfl) Ev.const) (.rng 0 8 1 rfl) (fun i Γ μ => Γ = [V "crc" (.int (crcN i x))] ∧ μ = []) ⟨rfl, rfl⟩ ?_ ?_
  · rintro i n Γ μ hn ⟨rfl, rfl⟩
    refine Ex.ite (q := true) (Tst.int (Ev.band (Ev.var rfl rfl) Ev.const)) (fun hz => ?_) (fun hz => ?_)
    · refine Ex.assignL (q := true) (Ev.bxor (Ev.shr (Ev.var rfl rfl) Ev.const (by decide)) Ev.const) ?_
      refine Ex.nil (Ex.nil ⟨[V "crc" (.int (crcN (i + 1) x))], ⟨?_, trivial⟩, rfl, rfl⟩)
      show some (AV.int _) = some (AV.int _)
      simp only [crcN, crcStep, hz, if_true]
    · refine Ex.aug (q := true) rfl Ev.const (.inl rfl) (fun _ _ _ _ h => PyProof.Rows.irshift_int (by decide) h) ?_
      refine Ex.nil (Ex.nil ⟨[V "crc" (.int (crcN (i + 1) x))], ⟨?_, trivial⟩, rfl, rfl⟩)
      show some (AV.int _) = some (AV.int _)
      simp only [crcN, crcStep, hz, Bool.false_eq_true, if_false]
  · rintro Γ μ ⟨rfl, rfl⟩
    exact Ex.ret (q := true) (Ev.var rfl rfl) (.inl rfl)

end
end Mine
open PySem PySem.W PyProof.Rows
set_option maxRecDepth 100000
set_option linter.unusedVariables false
set_option exponentiation.threshold 10000
namespace Mine
theorem Gnd.sum {G : Pg} (g : Gnd G) : G.Bi "sum" (.builtin "sum") := g.bi (by rfl) (by decide +kernel) (by decide)
theorem offN_lt (x : Nat) : ∀ n, offN x n < 2 ^ (32 + n)
  | 0 => by rw [offN]; exact two_pow_pos _
  | n + 1 => by
    rw [offN]
    refine Nat.xor_lt_two_pow (Nat.lt_of_lt_of_le (offN_lt x n) (two_pow_le (by omega))) ?_
    have h1 : runN n x % 2 ≤ 1 := by omega
    have h2 : (runN n x % 2) * (POLY * 2 ^ n) ≤ 1 * (POLY * 2 ^ n) := Nat.mul_le_mul_right _ h1
    have h3 : POLY * 2 ^ n < 2 ^ 33 * 2 ^ n := Nat.mul_lt_mul_of_pos_right (by decide) (two_pow_pos n)
    rw [← Nat.pow_add, show 33 + n = 32 + (n + 1) by omega] at h3
    omega
theorem offN_top (x n : Nat) : (offN x (n + 1)).testBit (32 + n) = decide (runN n x % 2 = 1) := by
  rw [offN, Nat.testBit_xor, Nat.testBit_lt_two_pow (offN_lt x n), Bool.false_xor]
  rcases Nat.mod_two_eq_zero_or_one (runN n x) with h | h
  · rw [h]; simp
  · rw [h, Nat.one_mul, Nat.mul_comm, Nat.testBit_two_pow_mul]
    have : POLY.testBit (32 + n - n) = true := by rw [Nat.add_sub_cancel]; decide
    rw [this]; simp
section
variable {G : Pg}
set_option maxHeartbeats 1000000 in
theorem F_left (g : Gnd G) (x : Nat) : Fn G 1 70 [.int (offN x 8 : Nat)] (.int 0) := by
  refine Fn.mk (names := ["word"]) g.good (g.K 70 _ rfl) rfl (codeRec_of g.K rfl) (DefOk.of rfl (by decide +kernel)) (fun vs h => by match vs, h with | [a], _ => rfl) rfl ?_
  intro A base okA L O
  refine Ex.forJ (q := true) (Ev.rngRev (Ev.range1 (Ev.bi g.range rfl) Ev.const) (Ev.neg Ev.const) (by decide) (by decide)) (Items.down (n := 8) (by decide) (by decide) (by decide))
    (fun k Γ μ => Γ = [V "word" (.int (offN x (8 - k) : Nat))] ∧ μ = []) ⟨rfl, rfl⟩ ?_ ?_
  · rintro k n Γ μ hn ⟨rfl, rfl⟩
    have hk : k < 8 := by have := (List.getElem?_eq_some_iff.mp hn).1; simpa using this
    have hn : n = ((7 - k : Nat) : Int) := by
      rw [List.getElem?_reverse (by simp; omega), List.getElem?_map, List.length_map, List.length_range, List.getElem?_range (by omega)] at hn
      simp at hn
      omega
    subst hn
    have h33 : Builtin.Int.intBits 7976584769 = 33 := by rfl
    have hidx : 8 - k = (7 - k) + 1 := by omega
    have hnext : 8 - (k + 1) = 7 - k := by omega
    rw [hidx, hnext]
    generalize 7 - k = n at *
    have e32 : (32 : Int) + (n : Int) = ((32 + n : Nat) : Int) := by push_cast; rfl
    refine Ex.ite (q := true) (Tst.eq (Ev.toI (Ev.fmod (Ev.shr (Ev.var rfl rfl) (Ev.toI (Ev.add Ev.const (Ev.var rfl rfl)) e32) (by omega)) Ev.const (by decide)) (b := pb (decide (runN n x % 2 = 1))) (by rw [fdivp_cast, offN_top])) Ev.const) (fun hz => ?_) (fun hz => ?_)
    · have hb : runN n x % 2 = 1 := by
        rcases Nat.mod_two_eq_zero_or_one (runN n x) with h | h
        · rw [h] at hz; simp [pb] at hz
        · exact h
      refine Ex.aug (q := true) rfl (Ev.shl Ev.const (Ev.var rfl rfl) (by omega) (by rw [h33]; omega)) (.inl rfl) (fun _ _ _ _ h => PyProof.Rows.ixor_int h) ?_
      refine Ex.nil (Ex.nil ⟨_, ?_, rfl, rfl⟩)
      refine ⟨?_, trivial⟩
      show some (AV.int _) = some (AV.int _)
      have e : ((7976584769 : Int) * 2 ^ (n : Int).toNat) = ((POLY * 2 ^ n : Nat) : Int) := by rw [Int.toNat_natCast, Int.natCast_mul, ipow_cast]; rfl
      rw [e, bxor_cast, offN, hb, Nat.one_mul, Nat.xor_assoc, Nat.xor_self, Nat.xor_zero]
    · have hb : runN n x % 2 = 0 := by
        rcases Nat.mod_two_eq_zero_or_one (runN n x) with h | h
        · exact h
        · rw [h] at hz; simp [pb] at hz
      refine Ex.nil (Ex.nil ⟨_, ?_, rfl, rfl⟩)
      refine ⟨?_, trivial⟩
      show some (AV.int _) = some (AV.int _)
      rw [offN, hb, Nat.zero_mul, Nat.xor_zero]
  · rintro Γ μ ⟨rfl, rfl⟩
    exact Ex.ret (q := true) (Ev.var rfl rfl) (.inl rfl)
def ones (w n : Nat) : Int := ((List.range n).map fun i : Nat => pb (w.testBit i)).sum
set_option maxHeartbeats 1000000 in
theorem F_ones (g : Gnd G) (w : Nat) {n : Nat} (hn : n ≤ 1000) : Fn G 1 87 [.int w, .int n] (.int (ones w n)) := by
  refine Fn.mk (names := ["word", "places"]) g.good (g.K 87 _ rfl) rfl (codeRec_of g.K rfl) (DefOk.of rfl (by decide +kernel)) (fun vs h => by match vs, h with | [a, b], _ => rfl) rfl ?_
  intro A base okA L O
  refine Ex.ret (q := true) (Ev.toI (Ev.sum (Ev.bi g.sum rfl) (EvN.ev (EvN.comp (f := fun t => ((w : Int).fdiv (2 ^ t.toNat)).fmod 2) (Ev.range1 (Ev.bi g.range rfl) (Ev.var rfl rfl)) (Items.nat (by omega)) ?_ (by simp; omega)))) ?_) (.inl rfl)
  · intro C t ht
    obtain ⟨i, hi, rfl⟩ := List.mem_map.mp ht
    exact Ev.fmod (Ev.shr (Ev.var rfl rfl) (Ev.var rfl rfl) (by omega)) Ev.const (by decide)
  · unfold ones
    rw [List.map_map]
    congr 1
    exact List.map_congr_left fun i _ => fdivp_cast w i
end
end Mine
open PySem PySem.W PyProof.Rows
set_option maxRecDepth 100000
set_option linter.unusedVariables false
set_option exponentiation.threshold 10000
namespace Mine
theorem get_map_range {f : Nat → Int} {s k : Nat} (h : k < s) : ((List.range s).map f)[k]? = some (f k) := by simp [h]
section
variable {G : Pg}
set_option maxHeartbeats 1000000 in
theorem F_tails (g : Gnd G) (c : Nat → Int) : Fn G 1 82 [.lst ((List.range 41).map c)] (.lst ((List.range 41).map fun v => tl c 40 (v + 1))) := by
  refine Fn.mk (names := ["counts"]) g.good (g.K 82 _ rfl) rfl (codeRec_of g.K rfl) (DefOk.of rfl (by decide +kernel)) (fun vs h => by match vs, h with | [a], _ => rfl) rfl ?_
  intro A base okA L O
  refine Ex.assignNew (q := true) (EvN.display (xs := [0]) (EvA.cons Ev.const EvA.nil) (by decide)) (.inl rfl) ?_
  intro a ha1 ha2
  refine Ex.only (Γ' := [V "tails" (.raw (.ref a)), V "counts" (.lst ((List.range 41).map c))]) ?_ ⟨rfl, rfl, trivial⟩
  refine Ex.forJ (q := true) (Ev.to (EvN.ev (EvN.slice (kl := none) (kh := some 0) (ks := some (-1)) (Ev.var rfl rfl) rfl Ev.const (Ev.neg Ev.const) (by decide) (by simp))) (by rw [pick_tail])) (.lst _)
    (fun i Γ μ => Γ = [V "tails" (.raw (.ref a)), V "counts" (.lst ((List.range 41).map c))] ∧ μ = [(a, true, (List.range (i + 1)).map fun k => tl c 40 (41 - k))]) ⟨rfl, ?_⟩ ?_ ?_
  · show [(a, true, [(0 : Int)])] = _
    rw [show (0 : Int) = tl c 40 41 from (tl_end c 40).symm]; rfl
  · rintro i n Γ μ hn ⟨rfl, rfl⟩
    have hi : i < 40 := by have := (List.getElem?_eq_some_iff.mp hn).1; simpa using this
    have hn : n = c (40 - i) := by
      rw [List.getElem?_reverse (by simp; omega), List.getElem?_drop, List.length_drop, List.length_map, List.length_range, get_map_range (by omega)] at hn
      have := Option.some.inj hn
      rw [← this]; congr 1; omega
    subst hn
    refine Ex.append (pre := []) (q := true) (Ev.var rfl rfl) (Ev.add (Ev.lastM (pl := true) (xs := (List.range (i + 1)).map fun k => tl c 40 (41 - k)) (Ev.var rfl rfl) (.head _) (Ev.neg Ev.const) (by rw [List.length_map, List.length_range]; exact get_map_range (by omega))) (Ev.var rfl rfl)) (by simp; omega) ?_
    refine Ex.nil ⟨_, ?_, rfl, ?_⟩
    · exact ⟨rfl, rfl, trivial⟩
    show [(a, true, _)] = [(a, true, _)]
    rw [List.range_succ (n := i + 1), List.map_append, List.map_singleton]
    congr 4
    rw [show i + 1 - 1 = i by omega, tl_step c (n := 40) (v := 41 - (i + 1)) (by omega), show 41 - (i + 1) + 1 = 41 - i by omega, show 41 - (i + 1) = 40 - i by omega, Int.add_comm]
  · rintro Γ μ ⟨rfl, rfl⟩
    rw [List.length_reverse, List.length_drop, List.length_map, List.length_range]
    refine Ex.freeze (pre := []) (y := "tails") rfl ha2 ?_
    refine Ex.ret (q := true) (Ev.to (EvN.ev (EvN.slice (kl := none) (kh := none) (ks := some (-1)) (Ev.var rfl rfl) rfl rfl (Ev.neg Ev.const) (by decide) (by simp))) ?_) (.inl rfl)
    rw [pick_rev]
    refine congrArg AV.lst ?_
    apply List.ext_getElem?
    intro i
    by_cases hi : i < 41
    · rw [List.getElem?_reverse (by simp; omega), List.length_map, List.length_range, get_map_range (by omega), get_map_range hi]
      congr 2; omega
    · rw [List.getElem?_eq_none (by simp; omega), List.getElem?_eq_none (by simp; omega)]
end
end Mine
open PySem PySem.W PyProof.Rows
set_option maxRecDepth 100000
set_option linter.unusedVariables false
set_option exponentiation.threshold 10000
namespace Mine
/-- a column: the rows' bits at a place -/
def colN (r0 r1 r2 : Nat) (p : Nat) : Nat := (r0.testBit p).toNat + 2 * (r1.testBit p).toNat + 4 * (r2.testBit p).toNat
theorem colN_lt (r0 r1 r2 p : Nat) : colN r0 r1 r2 p < 8 := by
  unfold colN
  cases r0.testBit p <;> cases r1.testBit p <;> cases r2.testBit p <;> decide
theorem xor_lt8 {a b : Nat} (ha : a < 8) (hb : b < 8) : a ^^^ b < 8 := Nat.xor_lt_two_pow (n := 3) ha hb
theorem HM_bound (col : Nat → Nat) {W : Nat} : ∀ p s, 0 ≤ HM col 1 (2 ^ W) p s ∧ HM col 1 (2 ^ W) p s ≤ 2 ^ ((W + 1) * p)
  | 0, s => by rw [HM_zero]; split <;> simp
  | p + 1, s => by
    have h1 := HM_bound col (W := W) p s
    have h2 := HM_bound col (W := W) p (s ^^^ col p)
    have hp := ipow_pos W
    have h3 := Int.mul_le_mul_of_nonneg_left h2.2 (Int.le_of_lt hp)
    have h4 := Int.mul_nonneg (Int.le_of_lt hp) h2.1
    have h5 : (1 : Int) ≤ 2 ^ W := hp
    have h6 := Int.mul_le_mul_of_nonneg_right h5 (Int.le_of_lt (ipow_pos ((W + 1) * p)))
    have e : (2 : Int) ^ ((W + 1) * (p + 1)) = 2 * (2 ^ W * 2 ^ ((W + 1) * p)) := by
      rw [Nat.mul_succ, Int.pow_add, Int.pow_succ, Int.mul_comm, Int.mul_comm (2 ^ W) 2, Int.mul_assoc]
    rw [HM_succ, Int.one_mul, e]
    rw [Int.one_mul] at h6
    omega
theorem col_sum (r0 r1 r2 p : Nat) : (((List.range 3).map fun i : Nat => (i : Int)).map fun t : Int => ((nth [(r0 : Int), r1, r2] t.toNat).fdiv (2 ^ (p : Int).toNat)).fmod 2 * 2 ^ t.toNat).sum = ((colN r0 r1 r2 p : Nat) : Int) := by
  rw [show List.range 3 = [0, 1, 2] from rfl]
  simp only [List.map_cons, List.map_nil, List.sum_cons, List.sum_nil]
  show ((r0 : Int).fdiv (2 ^ (p : Int).toNat)).fmod 2 * 2 ^ 0 + (((r1 : Int).fdiv (2 ^ (p : Int).toNat)).fmod 2 * 2 ^ 1 + (((r2 : Int).fdiv (2 ^ (p : Int).toNat)).fmod 2 * 2 ^ 2 + 0)) = _
  rw [fdivp_cast, fdivp_cast, fdivp_cast]
  unfold colN
  cases r0.testBit p <;> cases r1.testBit p <;> cases r2.testBit p <;> rfl
section
variable {G : Pg}
set_option maxHeartbeats 1000000 in
theorem F_masks (g : Gnd G) {r0 r1 r2 a W : Nat} (ha : a < 8) (hW : 1 ≤ W) (hW2 : W ≤ 100) :
    Fn G 1 75 [.lst [(r0 : Int), r1, r2], .int a, .int W] (.lst (digs W 41 (HM (colN r0 r1 r2) 1 (2 ^ W) 40 a))) := by
  refine Fn.mk (names := ["rows", "aim", "width"]) g.good (g.K 75 _ rfl) rfl (codeRec_of g.K rfl) (DefOk.of rfl (by decide +kernel)) (fun vs h => by match vs, h with | [a, b, c], _ => rfl) rfl ?_
  intro A base okA L O
  have b2 : Builtin.Int.intBits 2 = 2 := rfl
  have hbits : ∀ p s, p ≤ 40 → Builtin.Int.intBits (HM (colN r0 r1 r2) 1 (2 ^ W) p s) ≤ 101 * 40 + 1 := fun p s hp => by
    have h := HM_bound (colN r0 r1 r2) (W := W) p s
    have h2 : (W + 1) * p ≤ 101 * 40 := Nat.mul_le_mul (by omega) hp
    exact bits_le (natAbs_lt h.1 (Int.lt_of_le_of_lt h.2 (Int.lt_of_le_of_lt (ipow_le h2) (by rw [Int.pow_succ]; have := ipow_pos (101 * 40); omega))))
  refine Ex.assign (q := true) (v := .lst ((List.range 8).map (HM (colN r0 r1 r2) 1 (2 ^ W) 0))) (Ev.to (EvN.ev (EvN.add (EvN.ev (EvN.display (xs := [1]) (EvA.cons Ev.const EvA.nil) (by decide))) (EvN.ev (EvN.mul (EvN.ev (EvN.display (xs := [0]) (EvA.cons Ev.const EvA.nil) (by decide))) Ev.const (by decide) (by decide) (by decide))) (by rw [KM.len_rep]; decide))) ?_) (by first | exact .inl rfl | exact .inr ⟨O, rfl, rfl⟩) ?_
  · refine congrArg AV.lst ?_
    simp only [funext (HM_zero (colN r0 r1 r2) 1 (2 ^ W))]
    rfl
  refine Ex.only (Γ' := [V "table" (.lst ((List.range 8).map (HM (colN r0 r1 r2) 1 (2 ^ W) 0))), V "rows" (.lst [(r0 : Int), r1, r2]), V "aim" (.int a), V "width" (.int W)]) ?_ ⟨rfl, rfl, rfl, rfl, trivial⟩
  refine Ex.forC (q := true) (Ev.range1 (Ev.bi g.range rfl) Ev.const) (Items.nat (n := 40) (by decide))
    (fun p Γ μ => p ≤ 40 ∧ Γ = [V "table" (.lst ((List.range 8).map (HM (colN r0 r1 r2) 1 (2 ^ W) p))), V "rows" (.lst [(r0 : Int), r1, r2]), V "aim" (.int a), V "width" (.int W)] ∧ μ = []) ⟨by decide, rfl, rfl⟩ ?_ ?_ (by first | exact .inl rfl | exact .inr ⟨O, rfl, rfl⟩)
  · rintro p n Γ μ hn ⟨_, rfl, rfl⟩
    have hp : p < 40 := by have := (List.getElem?_eq_some_iff.mp hn).1; simpa using this
    have hn : (p : Int) = n := by simpa [hp] using hn
    subst hn
    refine Ex.assign (q := true) (v := .int ((colN r0 r1 r2 p : Nat) : Int)) (Ev.toI (Ev.sum (Ev.bi g.sum rfl) (EvN.ev (EvN.comp (f := fun t : Int => ((nth [(r0 : Int), r1, r2] t.toNat).fdiv (2 ^ (p : Int).toNat)).fmod 2 * 2 ^ t.toNat) (Ev.range1 (Ev.bi g.range rfl) Ev.const) (Items.nat (n := 3) (by decide)) (fun C n hn => ?_) (by simp)))) (col_sum r0 r1 r2 p)) (by first | exact .inl rfl | exact .inr ⟨O, rfl, rfl⟩) ?_
    · obtain ⟨i, hi, rfl⟩ := List.mem_map.mp hn
      have hi := List.mem_range.mp hi
      refine Ev.shl (Ev.fmod (Ev.shr (Ev.item (Ev.var rfl rfl) (Ev.var rfl rfl) (by omega) (by omega) (nth_get (by rw [Int.toNat_natCast]; exact hi))) (Ev.var rfl rfl) (by omega)) Ev.const (by decide)) (Ev.var rfl rfl) (by omega) ?_
      have : Builtin.Int.intBits (((nth [(r0 : Int), r1, r2] ((i : Int)).toNat).fdiv (2 ^ (p : Int).toNat)).fmod 2) ≤ 2 := bits_le (by rw [fmod2]; omega)
      omega
    have hcol := colN_lt r0 r1 r2 p
    have hs : (HM (colN r0 r1 r2) 1 (2 ^ W) (p + 1)) = fun s => HM (colN r0 r1 r2) 1 (2 ^ W) p s + HM (colN r0 r1 r2) 1 (2 ^ W) p (s ^^^ colN r0 r1 r2 p) * 2 ^ W := funext fun s => by
      rw [HM_succ, Int.one_mul, Int.mul_comm (2 ^ W)]
    refine Ex.assign (q := true) (v := .lst ((List.range 8).map (HM (colN r0 r1 r2) 1 (2 ^ W) (p + 1)))) (Ev.to (EvN.ev (EvN.comp (f := fun t : Int => HM (colN r0 r1 r2) 1 (2 ^ W) p t.toNat + HM (colN r0 r1 r2) 1 (2 ^ W) p (t.toNat ^^^ colN r0 r1 r2 p) * 2 ^ (W : Int).toNat) (Ev.range1 (Ev.bi g.range rfl) Ev.const) (Items.nat (n := 8) (by decide)) (fun C n hn => ?_) (by simp))) ?_) (by first | exact .inl rfl | exact .inr ⟨O, rfl, rfl⟩) ?_
    · obtain ⟨i, hi, rfl⟩ := List.mem_map.mp hn
      have hi := List.mem_range.mp hi
      have hx := xor_lt8 hi hcol
      refine Ev.add (Ev.item (Ev.var rfl rfl) (Ev.var rfl rfl) (by omega) (by omega) (get_map_range (by rw [Int.toNat_natCast]; exact hi))) (Ev.shl (Ev.item (Ev.var rfl rfl) (Ev.toI (Ev.bxor (Ev.var rfl rfl) (Ev.var rfl rfl)) (bxor_cast i (colN r0 r1 r2 p))) (by omega) (by omega) (get_map_range (by rw [Int.toNat_natCast]; exact hx))) (Ev.var rfl rfl) (by omega) ?_)
      rw [Int.toNat_natCast]
      have := hbits p (i ^^^ colN r0 r1 r2 p) (by omega)
      omega
    · rw [List.map_map, hs]; rfl
    refine Ex.nil ⟨_, ?_, by omega, rfl, rfl⟩
    exact ⟨rfl, rfl, rfl, rfl, trivial⟩
  · rintro Γ μ ⟨_, rfl, rfl⟩
    rw [List.length_map, List.length_range]
    refine Ex.ret (q := true) (Ev.to (EvN.ev (EvN.comp (f := fun t : Int => (HM (colN r0 r1 r2) 1 (2 ^ W) 40 a).fdiv (2 ^ (W * t.toNat)) |>.fmod (2 ^ W)) (Ev.range1 (Ev.bi g.range rfl) Ev.const) (Items.nat (n := 41) (by decide)) (fun C n hn => ?_) (by simp))) ?_) (.inl rfl)
    · obtain ⟨i, hi, rfl⟩ := List.mem_map.mp hn
      have hi := List.mem_range.mp hi
      have hwi : (W : Int) * (i : Int) = ((W * i : Nat) : Int) := by push_cast; rfl
      refine Ev.toI (Ev.fmod (Ev.shr (Ev.item (Ev.var rfl rfl) (Ev.var rfl rfl) (by omega) (by omega) (get_map_range (by rw [Int.toNat_natCast]; exact ha))) (Ev.toI (Ev.mul (Ev.var rfl rfl) (Ev.var rfl rfl) (mulOkL (by omega))) hwi) (by omega)) (Ev.pow Ev.const (Ev.var rfl rfl) (by omega) (by rw [b2]; omega)) ?_) ?_
      · exact Int.ne_of_gt (ipow_pos _)
      · simp only [Int.toNat_natCast]
    · unfold digs
      rw [List.map_map]
      refine congrArg AV.lst (List.map_congr_left fun i _ => ?_)
      show ((HM (colN r0 r1 r2) 1 (2 ^ W) 40 a).fdiv (2 ^ (W * ((i : Int)).toNat))).fmod (2 ^ W) = _
      rw [Int.toNat_natCast, fdiv_pow, Int.fmod_eq_emod_of_nonneg _ (Int.le_of_lt (ipow_pos W))]
end
end Mine
open PySem PySem.W PyProof.Rows
set_option maxRecDepth 100000
set_option linter.unusedVariables false
set_option exponentiation.threshold 10000
namespace Mine
theorem off_eq (x n : Nat) : offN x n = x ^^^ runN n x * 2 ^ n := by
  have e := off_run x n
  have e2 : (runN n x * 2 ^ n ^^^ (runN n x * 2 ^ n ^^^ offN x n)) = offN x n := by rw [← Nat.xor_assoc, Nat.xor_self, Nat.zero_xor]
  rw [← e2, e, Nat.xor_comm]
theorem offN_xor (x y n : Nat) : offN (x ^^^ y) n = offN x n ^^^ offN y n := by
  rw [off_eq, off_eq, off_eq, runN_xor, xor_mul_pow]
  apply Nat.eq_of_testBit_eq
  intro i
  simp only [Nat.testBit_xor]
  cases x.testBit i <;> cases y.testBit i <;> cases (runN n x * 2 ^ n).testBit i <;> cases (runN n y * 2 ^ n).testBit i <;> rfl
/-- the chosen octets, by exclusive or -/
def lowJ (o : Nat → Nat) (k : Nat) : Nat → Nat
  | 0 => 0
  | j + 1 => if k.testBit j then lowJ o k j ^^^ o j else lowJ o k j
theorem lowJ_lt {o : Nat → Nat} (ho : ∀ i, o i < 2 ^ 8) (k : Nat) : ∀ j, lowJ o k j < 2 ^ 8
  | 0 => by rw [lowJ]; decide
  | j + 1 => by
    rw [lowJ]
    split
    · exact Nat.xor_lt_two_pow (lowJ_lt ho k j) (ho j)
    · exact lowJ_lt ho k j
def wordN (o : Nat → Nat) (k : Nat) : Nat := offN (lowJ o k 3) 8
theorem off_low (o : Nat → Nat) (k j p : Nat) : (offN (lowJ o k (j + 1)) 8).testBit p = ((offN (lowJ o k j) 8).testBit p ^^ (k.testBit j && (offN (o j) 8).testBit p)) := by
  rw [lowJ]
  cases k.testBit j with
  | true => rw [if_pos rfl, offN_xor, Nat.testBit_xor, Bool.true_and]
  | false => rw [if_neg (by decide), Bool.false_and, Bool.xor_false]
theorem off_zero : offN 0 8 = 0 := by decide
theorem word_bit (o : Nat → Nat) (k p : Nat) : (wordN o k).testBit p = ((k.testBit 0 && (offN (o 0) 8).testBit p) ^^ (k.testBit 1 && (offN (o 1) 8).testBit p) ^^ (k.testBit 2 && (offN (o 2) 8).testBit p)) := by
  unfold wordN
  rw [off_low, off_low, off_low, lowJ, off_zero, Nat.zero_testBit, Bool.false_xor]
theorem word_1 (o : Nat → Nat) : wordN o 1 = offN (o 0) 8 := by
  apply Nat.eq_of_testBit_eq
  intro p
  rw [word_bit, show Nat.testBit 1 0 = true from rfl, show Nat.testBit 1 1 = false from rfl, show Nat.testBit 1 2 = false from rfl]; simp
theorem word_2 (o : Nat → Nat) : wordN o 2 = offN (o 1) 8 := by
  apply Nat.eq_of_testBit_eq
  intro p
  rw [word_bit, show Nat.testBit 2 0 = false from rfl, show Nat.testBit 2 1 = true from rfl, show Nat.testBit 2 2 = false from rfl]; simp
theorem word_4 (o : Nat → Nat) : wordN o 4 = offN (o 2) 8 := by
  apply Nat.eq_of_testBit_eq
  intro p
  rw [word_bit, show Nat.testBit 4 0 = false from rfl, show Nat.testBit 4 1 = false from rfl, show Nat.testBit 4 2 = true from rfl]; simp
def colW (o : Nat → Nat) : Nat → Nat := colN (wordN o 1) (wordN o 2) (wordN o 4)
theorem colW_lt (o : Nat → Nat) (p : Nat) : colW o p < 8 := colN_lt _ _ _ _
theorem chi_bits : ∀ k, k < 8 → ∀ x y z : Bool, chi k (x.toNat + 2 * y.toNat + 4 * z.toNat) = if ((k.testBit 0 && x) ^^ (k.testBit 1 && y) ^^ (k.testBit 2 && z)) then -1 else 1 := by
  decide +kernel
theorem chi_col (o : Nat → Nat) {k : Nat} (hk : k < 8) (p : Nat) : chi k (colW o p) = if (wordN o k).testBit p then -1 else 1 := by
  unfold colW colN
  rw [chi_bits k hk, word_bit o k, word_1, word_2, word_4]
theorem sum_range (f : Nat → Int) : ∀ n, ((List.range n).map f).sum = sumTo n f
  | 0 => rfl
  | n + 1 => by rw [List.range_succ, List.map_append, List.sum_append, sum_range f n, sumTo]; simp
theorem wt_ones (o : Nat → Nat) {k : Nat} (hk : k < 8) (n : Nat) : ones (wordN o k) n = ((wt (colW o) k n : Nat) : Int) := by
  unfold ones
  rw [sum_range]
  induction n with
  | zero => rfl
  | succ n ih =>
    rw [sumTo, wt, ih, chi_col o hk]
    cases (wordN o k).testBit n <;> simp [pb]
theorem sgn_chi : ∀ k, k < 8 → ∀ a, a < 8 → 1 - 2 * (ones (k &&& a) 3).fmod 2 = chi k a := by decide +kernel
theorem chi_sum : ∀ a, a < 8 → sumTo 8 (fun k => chi k a) = if a = 0 then 8 else 0 := by decide +kernel
theorem chi_abs (k a : Nat) : (chi k a).natAbs = 1 := by rcases chi_one k a with h | h <;> rw [h] <;> rfl
theorem sumTo_abs {f : Nat → Int} {B : Nat} : ∀ {n : Nat}, (∀ i, i < n → (f i).natAbs ≤ B) → (sumTo n f).natAbs ≤ n * B
  | 0, _ => by simp [sumTo]
  | n + 1, h => by
    have h1 := sumTo_abs (n := n) fun i hi => h i (by omega)
    have h2 := h n (by omega)
    rw [sumTo, Nat.succ_mul]
    have := Int.natAbs_add_le (sumTo n f) (f n)
    omega
theorem tl_zero (c : Nat → Int) (n : Nat) : tl c n 0 = sumTo (n + 1) c := by
  unfold tl
  exact sumTo_congr fun i _ => by rw [Nat.zero_add]
theorem tl_sum {col : Nat → Nat} {a : Nat} : tl (cf col 40 a) 40 0 ≤ 2 ^ 40 ∧ 0 ≤ tl (cf col 40 a) 40 0 := by
  have h := cf_sum col 40 a
  rw [HM_one, ← tl_zero] at h
  exact ⟨h, tl_nonneg (cf_nonneg col 40 a) 40 0⟩
/-- what a digit may be -/
theorem tl_digit {col : Nat → Nat} {a W : Nat} (hW : 41 ≤ W) (v : Nat) (hv : v ≤ 41) : 0 ≤ tl (cf col 40 a) 40 v ∧ tl (cf col 40 a) 40 v < 2 ^ W := by
  have h1 := tl_sum (col := col) (a := a)
  have h2 := tl_le (cf_nonneg col 40 a) 40 v hv
  have h3 : (2 : Int) ^ 41 ≤ 2 ^ W := ipow_le hW
  have h4 : (2 : Int) ^ 41 = 2 * 2 ^ 40 := by decide
  have h5 : (0 : Int) < 2 ^ 40 := by decide
  exact ⟨tl_nonneg (cf_nonneg col 40 a) 40 v, by omega⟩
theorem cf_digit {col : Nat → Nat} {a W : Nat} (hW : 41 ≤ W) (v : Nat) (hv : v ≤ 40) : 0 ≤ cf col 40 a v ∧ cf col 40 a v < 2 ^ W := by
  have h0 := cf_nonneg col 40 a v
  have h1 := tl_step (cf col 40 a) (n := 40) (v := v) hv
  have h2 := tl_digit (col := col) (a := a) hW v (by omega)
  have h3 := tl_digit (col := col) (a := a) hW (v + 1) (by omega)
  omega
/-- the counts -/
theorem counts_eq {col : Nat → Nat} {a W : Nat} (hW : 41 ≤ W) : digs W 41 (HM col 1 (2 ^ W) 40 a) = (List.range 41).map (cf col 40 a) := by
  rw [HM_z, ← D2I_range]
  have := digs_D2I (n := W) (ds := (List.range 41).map (cf col 40 a)) (fun d hd => by
    obtain ⟨v, hv, rfl⟩ := List.mem_map.mp hd
    have := List.mem_range.mp hv
    exact cf_digit hW v (by omega))
  rw [List.length_map, List.length_range] at this
  exact this
def QQ (col : Nat → Nat) (a W : Nat) : Int := D2I W ((List.range 41).map fun v => tl (cf col 40 a) 40 (v + 1))
theorem QQ_eq (col : Nat → Nat) (a W : Nat) : QQ col a W = sumTo 40 fun v => tl (cf col 40 a) 40 (v + 1) * (2 ^ W) ^ v := by
  unfold QQ
  rw [D2I_range, sumTo, tl_end, Int.zero_mul, Int.add_zero]
theorem QQ_digs {col : Nat → Nat} {a W : Nat} (hW : 41 ≤ W) : digs W 41 (QQ col a W) = (List.range 41).map fun v => tl (cf col 40 a) 40 (v + 1) := by
  have := digs_D2I (n := W) (ds := (List.range 41).map fun v => tl (cf col 40 a) 40 (v + 1)) (fun d hd => by
    obtain ⟨v, hv, rfl⟩ := List.mem_map.mp hd
    have := List.mem_range.mp hv
    exact tl_digit hW (v + 1) (by omega))
  rw [List.length_map, List.length_range] at this
  exact this
theorem D2I_nonneg {n : Nat} : ∀ {xs : List Int}, (∀ x ∈ xs, 0 ≤ x) → 0 ≤ D2I n xs
  | [], _ => Int.le_refl _
  | x :: r, h => by
    rw [D2I]
    have h1 := h x (.head _)
    have h2 := D2I_nonneg (n := n) (xs := r) fun y hy => h y (.tail _ hy)
    have := Int.mul_nonneg h2 (Int.le_of_lt (ipow_pos n))
    omega
theorem QQ_bound {col : Nat → Nat} {a W : Nat} (hW : 41 ≤ W) : 0 ≤ QQ col a W ∧ QQ col a W < 2 ^ (W * 41) := by
  have hd : ∀ d ∈ (List.range 41).map (fun v => tl (cf col 40 a) 40 (v + 1)), 0 ≤ d ∧ d < 2 ^ W := fun d hd => by
    obtain ⟨v, hv, rfl⟩ := List.mem_map.mp hd
    have := List.mem_range.mp hv
    exact tl_digit hW (v + 1) (by omega)
  refine ⟨D2I_nonneg fun d h => (hd d h).1, ?_⟩
  have h := HV_lt (n := W) (xs := ((List.range 41).map fun v => tl (cf col 40 a) 40 (v + 1)).reverse) (fun x hx => (hd x (List.mem_reverse.mp hx)).2)
  rw [← D2I_rev, List.reverse_reverse, List.length_reverse, List.length_map, List.length_range, ← Int.pow_mul] at h
  exact h
/-- the digits, with noughts behind -/
theorem digs_pad {n m k : Nat} {x : Int} (h0 : 0 ≤ x) (h1 : x < 2 ^ (n * m)) : digs n m x ++ List.replicate k 0 = digs n (m + k) x := by
  rw [digs_split h0, Int.emod_eq_of_lt h0 h1, Int.ediv_eq_zero_of_lt h0 h1]
  congr 1
  unfold digs
  apply List.ext_getElem?
  intro i
  by_cases hi : i < k
  · rw [List.getElem?_replicate, if_pos hi, List.getElem?_map, List.getElem?_range hi]; simp
  · rw [List.getElem?_eq_none (by simp; omega), List.getElem?_eq_none (by simp; omega)]
/-- the first division -/
theorem first_div {col : Nat → Nat} {a W : Nat} (hW : 41 ≤ W) :
    (8 * HM col 1 (2 ^ W) 40 a).fdiv (8 * (2 ^ W - 1)) = QQ col a W ∧ (8 * HM col 1 (2 ^ W) 40 a).fmod (8 * (2 ^ W - 1)) = 8 * tl (cf col 40 a) 40 0 := by
  have h1 := tl_sum (col := col) (a := a)
  have h3 : (2 : Int) ^ 41 ≤ 2 ^ W := ipow_le hW
  have h4 : (2 : Int) ^ 41 = 2 * 2 ^ 40 := by decide
  have h5 : (1 : Int) < 2 ^ 40 := by decide
  refine fdiv_of ?_ (fun _ => by omega) (fun h => by omega) (by omega)
  rw [HM_z, by_one, ← QQ_eq, Int.mul_add, Int.mul_assoc, Int.add_comm]
/-- the second one -/
theorem two_pow_split {w : Nat} (z : Int) (hw : w ≤ 40) : (1 + z - (1 - z)) ^ w * (1 + z + (1 - z)) ^ (40 - w) = 2 ^ 40 * z ^ w := by
  rw [show 1 + z - (1 - z) = 2 * z by omega, show 1 + z + (1 - z) = 2 by omega, Int.mul_pow, Int.mul_right_comm, ← Int.pow_add, show w + (40 - w) = 40 by omega]
def BK (col : Nat → Nat) (z : Int) (a : Nat) : Int := sumTo 8 fun k => chi k a * geo z (wt col k 40)
theorem again_eq {col : Nat → Nat} (hc : ∀ p, col p < 8) (z : Int) {a : Nat} (ha : a < 8) :
    HM col (1 + z) (1 - z) 40 a = 2 ^ 37 * ((z - 1) * BK col z a + sumTo 8 fun k => chi k a) := by
  have h := macw hc (1 + z) (1 - z) 40 ha
  have e1 : sumTo 8 (fun k => chi k a * ((1 + z - (1 - z)) ^ wt col k 40 * (1 + z + (1 - z)) ^ (40 - wt col k 40))) = 2 ^ 40 * sumTo 8 (fun k => chi k a * z ^ wt col k 40) := by
    rw [← sumTo_mul]
    exact sumTo_congr fun k _ => by rw [two_pow_split z (wt_le col k 40), Int.mul_left_comm]
  have e2 : sumTo 8 (fun k => chi k a * z ^ wt col k 40) = (z - 1) * BK col z a + sumTo 8 fun k => chi k a := by
    unfold BK
    rw [← sumTo_mul, ← sumTo_plus]
    refine sumTo_congr fun k _ => ?_
    have g := geo_mul z (wt col k 40)
    rw [Int.mul_left_comm, Int.mul_comm (z - 1), g, Int.mul_sub, Int.mul_one]
    omega
  rw [e1, e2] at h
  generalize (z - 1) * BK col z a + sumTo 8 (fun k => chi k a) = S at *
  generalize HM col (1 + z) (1 - z) 40 a = H at *
  omega
theorem second_div {col : Nat → Nat} (hc : ∀ p, col p < 8) {a W : Nat} (hW : 41 ≤ W) (ha : a < 8) :
    (HM col (1 + 2 ^ W) (1 - 2 ^ W) 40 a).fdiv (2 ^ 37 * (2 ^ W - 1)) = BK col (2 ^ W) a ∧ (HM col (1 + 2 ^ W) (1 - 2 ^ W) 40 a).fmod (2 ^ 37 * (2 ^ W - 1)) = 2 ^ 37 * sumTo 8 fun k => chi k a := by
  have h3 : (2 : Int) ^ 41 ≤ 2 ^ W := ipow_le hW
  have h4 : (2 : Int) ^ 41 = 2199023255552 := by decide
  have h5 : (2 : Int) ^ 37 = 137438953472 := by decide
  have h6 : 0 ≤ sumTo 8 (fun k => chi k a) ∧ sumTo 8 (fun k => chi k a) ≤ 8 := by
    rw [chi_sum a ha]; split <;> omega
  rw [again_eq hc (2 ^ W) ha, h5]
  refine fdiv_of ?_ (fun _ => by omega) (fun h => by omega) (by omega)
  rw [Int.mul_add, Int.mul_assoc, Int.add_comm]
theorem back_term {z : Int} (hz : 1 < z) (w : Nat) : (z ^ w - 1).fdiv (z - 1) = geo z w := by
  rw [← geo_mul, Int.mul_fdiv_cancel _ (by omega)]
/-- sizes -/
theorem pow_size {x : Int} {n : Nat} (hx : x.natAbs ≤ 2 ^ 60) (hn : n ≤ 40) : (x ^ n).natAbs ≤ 2 ^ 2400 := by
  rw [Int.natAbs_pow]
  refine Nat.le_trans (Nat.pow_le_pow_left hx n) ?_
  rw [← Nat.pow_mul]
  exact two_pow_le (by omega)
theorem bits_ge {b : Int} {k : Nat} (h : 2 ^ k ≤ b) : k < Builtin.Int.intBits b := by
  have h1 := lt_bits b
  refine Nat.lt_of_not_le fun h2 => ?_
  have h3 := two_pow_le h2
  have h4 : 2 ^ k ≤ b.natAbs := by rw [← ipow_cast] at h; omega
  omega
theorem take3 (xs : List Int) : ∃ f : Nat → Int, (xs ++ [1, 80, 75].drop xs.length).take 3 = (List.range 3).map f := by
  refine ⟨nth ((xs ++ [1, 80, 75].drop xs.length).take 3), ?_⟩
  have hl : ((xs ++ [1, 80, 75].drop xs.length).take 3).length = 3 := by simp; omega
  apply List.ext_getElem?
  intro i
  by_cases hi : i < 3
  · rw [get_map_range hi]; exact nth_get (by omega)
  · rw [List.getElem?_eq_none (by omega), List.getElem?_eq_none (by simp; omega)]
theorem aim_sum (f : Nat → Int) : ∃ a : Nat, a < 8 ∧ (((List.range 3).map fun i : Nat => (i : Int)).map fun t : Int => ((f t.toNat).fdiv 256).fmod 2 * 2 ^ t.toNat).sum = (a : Int) := by
  rw [show List.range 3 = [0, 1, 2] from rfl]
  simp only [List.map_cons, List.map_nil, List.sum_cons, List.sum_nil]
  have h : ∀ t, 0 ≤ ((f t).fdiv 256).fmod 2 ∧ ((f t).fdiv 256).fmod 2 ≤ 1 := fun t => by rw [fmod2]; omega
  show ∃ a : Nat, a < 8 ∧ ((f 0).fdiv 256).fmod 2 * 1 + (((f 1).fdiv 256).fmod 2 * 2 + (((f 2).fdiv 256).fmod 2 * 4 + 0)) = (a : Int)
  have h0 := h 0
  have h1 := h 1
  have h2 := h 2
  exact ⟨(((f 0).fdiv 256).fmod 2 * 1 + (((f 1).fdiv 256).fmod 2 * 2 + (((f 2).fdiv 256).fmod 2 * 4 + 0))).toNat, by omega, by omega⟩
end Mine
open PySem PySem.W PyProof.Rows
set_option maxRecDepth 100000
set_option linter.unusedVariables false
set_option exponentiation.threshold 10000
namespace Mine
theorem range_snoc (f : Nat → Int) (k : Nat) : (List.range k).map f ++ [f k] = (List.range (k + 1)).map f := by
  rw [List.range_succ, List.map_append, List.map_singleton]
theorem sum_cast (f : Int → Int) (n : Nat) : (((List.range n).map fun i : Nat => (i : Int)).map f).sum = sumTo n fun k => f (k : Int) := by
  rw [List.map_map]; exact sum_range _ n
theorem pow_bits {x : Int} {n : Nat} (hx : x.natAbs ≤ 2 ^ 60) (hn : n ≤ 40) : (Builtin.Int.intBits x : Int) * ((n : Nat) : Int) ≤ 2 ^ 27 := by
  have h1 : Builtin.Int.intBits x ≤ 61 := bits_le (Nat.lt_of_le_of_lt hx (by decide))
  have h2 : Builtin.Int.intBits x * n ≤ 61 * 40 := Nat.mul_le_mul h1 hn
  have e : (Builtin.Int.intBits x : Int) * ((n : Nat) : Int) = ((Builtin.Int.intBits x * n : Nat) : Int) := by push_cast; rfl
  rw [e]; omega
theorem div_room {a b : Int} (ha : a.natAbs < 2 ^ 5000) (hb : 2 ^ 40 ≤ b) (x : Int) (hx : x = a ∨ x = -a - 1 ∨ x = -a ∨ x = a - 1) : ceilD (Builtin.Int.intBits x) (Builtin.Int.intBits b) ≤ 512 := by
  have h1 := bits_ge hb
  have h2 : x.natAbs < 2 ^ 5001 := by
    have h3 : 2 ^ 5001 = 2 * 2 ^ 5000 := by rw [Nat.pow_succ, Nat.mul_comm]
    rw [h3]
    generalize 2 ^ 5000 = P at *
    omega
  have h4 := bits_le h2
  exact ceilD_le (by omega) (by omega)
theorem again_size {col : Nat → Nat} {X Y : Int} {a : Nat} (hX : X.natAbs ≤ 2 ^ 60) (hY : Y.natAbs ≤ 2 ^ 60) : (HM col X Y 40 a).natAbs < 2 ^ 5000 := by
  unfold HM
  have h := sumTo_abs (f := fun v => cf col 40 a v * (X ^ (40 - v) * Y ^ v)) (B := 2 ^ 41 * (2 ^ 2400 * 2 ^ 2400)) (n := 41) (fun v hv => by
    have h1 := cf_digit (col := col) (a := a) (W := 41) (by decide) v (by omega)
    show (cf col 40 a v * (X ^ (40 - v) * Y ^ v)).natAbs ≤ _
    rw [Int.natAbs_mul, Int.natAbs_mul]
    exact Nat.mul_le_mul (Nat.le_of_lt (natAbs_lt h1.1 h1.2)) (Nat.mul_le_mul (pow_size hX (by omega)) (pow_size hY (by omega))))
  refine Nat.lt_of_le_of_lt h ?_
  rw [← Nat.pow_add, ← Nat.pow_add]
  refine Nat.lt_of_le_of_lt (Nat.mul_le_mul_right _ (show 41 ≤ 2 ^ 6 by decide)) ?_
  rw [← Nat.pow_add]
  exact Nat.pow_lt_pow_right (by decide) (by decide)
theorem one_times {c x : Int} (hc : c.natAbs ≤ 2 ^ 41) (hx : x.natAbs ≤ 2 ^ 2400) : (c * x).natAbs < 2 ^ 2442 := by
  rw [Int.natAbs_mul]
  refine Nat.lt_of_le_of_lt (Nat.mul_le_mul hc hx) ?_
  rw [← Nat.pow_add]
  exact Nat.pow_lt_pow_right (by decide) (by decide)
theorem lt_more {x : Int} (hx : x.natAbs ≤ 2 ^ 2400) : x.natAbs < 2 ^ 2401 := Nat.lt_of_le_of_lt hx (Nat.pow_lt_pow_right (by decide) (by decide))
theorem told_eq (T : Nat → Int) : [T 0] ++ (List.range 41).map (fun v => T (v + 1)) = (List.range 42).map T := by
  rw [List.range_succ_eq_map (n := 41), List.map_cons, List.map_map]; rfl
section
variable {G : Pg}
set_option maxHeartbeats 4000000 in
theorem law2_walk (g : Gnd G) {xs : List Int} (hxs : xs.length ≤ 63) {A : Around} {base : Heap} {okA : Addr → Prop} {L fa : Addr} {cd : Value} :
    ∀ (o : Obj) (fd : FuncData) (body : List Stmt), (hd.heap_39 G.w.params).lookup 92 = some o → o.data = .func fd → fd.body = .stmts body → Own ⟨G, A, 100, base, okA, G.tb⟩ (envOfC "law" fd.scope L fa cd) →
    Ex ⟨G, A, 100, base, okA, G.tb⟩ (envOfC "law" fd.scope L fa cd) [("script", .lst xs)] [] (execs body (envOfC "law" fd.scope L fa cd)) (fun fl _ _ => fl = .ret (.raw (.bool true))) := by
  intro o fd body h1 h2 h3 O
  obtain rfl := Option.some.inj h1
  cases h2
  cases h3
  have b2 : Builtin.Int.intBits 2 = 2 := rfl
  obtain ⟨F, hF⟩ := take3 xs
  -- firsts
  refine Ex.assign (q := true) (v := .lst ((List.range 3).map F)) (Ev.to (EvN.ev (EvN.slice (kl := none) (kh := some 3) (ks := none) (EvN.ev (EvN.add (Ev.var rfl rfl) (EvN.ev (EvN.slice (xs := [1, 80, 75]) (kl := some (xs.length : Int)) (kh := none) (ks := none) (EvN.ev (EvN.display (xs := [1, 80, 75]) (EvA.cons Ev.const (EvA.cons Ev.const (EvA.cons Ev.const EvA.nil))) (by decide))) (Ev.len (Ev.bi g.len rfl) (Ev.var rfl rfl) (by omega)) rfl rfl (by nofun) (by decide))) ?_)) rfl Ev.const rfl (by nofun) ?_)) ?_) (by first | exact .inl rfl | exact .inr ⟨O, rfl, rfl⟩) ?_
  · rw [pick_drop _ (by omega)]; simp; omega
  · rw [pick_drop _ (by omega)]; simp; omega
  · rw [pick_drop _ (by omega), pick_take _ (by decide), Int.toNat_natCast]
    exact congrArg AV.lst hF
  -- octets
  obtain ⟨oc, hoc, hocE⟩ : ∃ oc : Nat → Nat, (∀ i, oc i < 2 ^ 8) ∧ ((List.range 3).map F).map (fun x => x.fmod 256) = (List.range 3).map fun i => ((oc i : Nat) : Int) := by
    have h : ∀ x : Int, 0 ≤ x.fmod 256 ∧ x.fmod 256 < 256 := fun x => by rw [Int.fmod_eq_emod_of_nonneg _ (by decide)]; omega
    refine ⟨fun i => ((F i).fmod 256).toNat, fun i => ?_, ?_⟩
    · have := h (F i)
      show ((F i).fmod 256).toNat < 256
      omega
    · rw [List.map_map]
      refine List.map_congr_left fun i _ => ?_
      have := h (F i)
      show (F i).fmod 256 = ((((F i).fmod 256).toNat : Nat) : Int)
      omega
  refine Ex.assignComp (q := true) (f := fun x => x.fmod 256) (Ev.var rfl rfl) (.lst _) (fun C n _ => Ev.fmod (Ev.var rfl rfl) Ev.const (by decide)) (by simp) ?_
  rw [hocE]
  -- aim
  obtain ⟨a, ha, haE⟩ := aim_sum F
  refine Ex.assign (q := true) (v := .int (a : Int)) (Ev.toI (Ev.sum (Ev.bi g.sum rfl) (EvN.ev (EvN.comp (f := fun t : Int => ((F t.toNat).fdiv 256).fmod 2 * 2 ^ t.toNat) (Ev.range1 (Ev.bi g.range rfl) Ev.const) (Items.nat (n := 3) (by decide)) (fun C n hn => ?_) (by simp)))) haE) (by first | exact .inl rfl | exact .inr ⟨O, rfl, rfl⟩) ?_
  · obtain ⟨i, hi, rfl⟩ := List.mem_map.mp hn
    have hi := List.mem_range.mp hi
    refine Ev.shl (Ev.fmod (Ev.fdiv (Ev.item (Ev.var rfl rfl) (Ev.var rfl rfl) (by omega) (by omega) (get_map_range (by rw [Int.toNat_natCast]; exact hi))) Ev.const (by decide) (log2_small (k := 64) (by decide) (by decide))) Ev.const (by decide)) (Ev.var rfl rfl) (by omega) ?_
    have : Builtin.Int.intBits (((F ((i : Int)).toNat).fdiv 256).fmod 2) ≤ 2 := bits_le (by rw [fmod2]; omega)
    omega
  clear haE hocE hF
  -- width
  have hm16 : 0 ≤ xs.sum.fmod 16 ∧ xs.sum.fmod 16 < 16 := by rw [Int.fmod_eq_emod_of_nonneg _ (by decide)]; omega
  refine Ex.assign (q := true) (Ev.toI (Ev.add Ev.const (Ev.fmod (Ev.sum (Ev.bi g.sum rfl) (Ev.var rfl rfl)) Ev.const (by decide))) (b := ((44 + (xs.sum.fmod 16).toNat : Nat) : Int)) (by omega)) (by first | exact .inl rfl | exact .inr ⟨O, rfl, rfl⟩) ?_
  have hW1 : 44 ≤ 44 + (xs.sum.fmod 16).toNat := by omega
  have hW2 : 44 + (xs.sum.fmod 16).toNat ≤ 59 := by omega
  generalize 44 + (xs.sum.fmod 16).toNat = W at *
  clear hm16
  -- z
  refine Ex.assign (q := true) (Ev.toI (Ev.pow Ev.const (Ev.var rfl rfl) (by omega) (by rw [b2]; omega)) (b := 2 ^ W) (by rw [Int.toNat_natCast])) (by first | exact .inl rfl | exact .inr ⟨O, rfl, rfl⟩) ?_
  -- words, weights, signs
  refine Ex.assignNew (q := true) (EvN.display (xs := []) EvA.nil (by decide)) (by first | exact .inl rfl | exact .inr ⟨O, rfl, rfl⟩) ?_
  intro wo hwo1 hwo2
  refine Ex.assignNew (q := true) (EvN.display (xs := []) EvA.nil (by decide)) (by first | exact .inl rfl | exact .inr ⟨O, rfl, rfl⟩) ?_
  intro we hwe1 hwe2
  refine Ex.assignNew (q := true) (EvN.display (xs := []) EvA.nil (by decide)) (by first | exact .inl rfl | exact .inr ⟨O, rfl, rfl⟩) ?_
  intro sg hsg1 hsg2
  refine Ex.only (Γ' := [V "words" (.raw (.ref wo)), V "weights" (.raw (.ref we)), V "signs" (.raw (.ref sg)), V "octets" (.lst ((List.range 3).map fun i => ((oc i : Nat) : Int))), V "aim" (.int a), V "width" (.int W), V "z" (.int (2 ^ W))]) ?_ ⟨rfl, rfl, rfl, rfl, rfl, rfl, rfl, trivial⟩
  refine Ex.forC (q := true) (Ev.range1 (Ev.bi g.range rfl) Ev.const) (Items.nat (n := 8) (by decide))
    (fun k Γ μ => Γ = [V "words" (.raw (.ref wo)), V "weights" (.raw (.ref we)), V "signs" (.raw (.ref sg)), V "octets" (.lst ((List.range 3).map fun i => ((oc i : Nat) : Int))), V "aim" (.int a), V "width" (.int W), V "z" (.int (2 ^ W))] ∧
      μ = [(sg, true, (List.range k).map fun k => chi k a), (we, true, (List.range k).map fun k => ((wt (colW oc) k 40 : Nat) : Int)), (wo, true, (List.range k).map fun k => ((wordN oc k : Nat) : Int))]) ⟨rfl, rfl⟩ ?_ ?_ (by first | exact .inl rfl | exact .inr ⟨O, rfl, rfl⟩)
  · rintro k n Γ μ hn ⟨rfl, rfl⟩
    have hk : k < 8 := by have := (List.getElem?_eq_some_iff.mp hn).1; simpa using this
    have hn : (k : Int) = n := by simpa [hk] using hn
    subst hn
    refine Ex.assign (q := true) Ev.const (by first | exact .inl rfl | exact .inr ⟨O, rfl, rfl⟩) ?_
    refine Ex.only (Γ' := [V "low" (.int ((lowJ oc k 0 : Nat) : Int)), V "pick" (.int k), V "words" (.raw (.ref wo)), V "weights" (.raw (.ref we)), V "signs" (.raw (.ref sg)), V "octets" (.lst ((List.range 3).map fun i => ((oc i : Nat) : Int))), V "aim" (.int a), V "width" (.int W), V "z" (.int (2 ^ W))]) ?_ ⟨rfl, rfl, rfl, rfl, rfl, rfl, rfl, rfl, rfl, trivial⟩
    refine Ex.forC (q := true) (Ev.range1 (Ev.bi g.range rfl) Ev.const) (Items.nat (n := 3) (by decide))
      (fun j Γ μ => Γ = [V "low" (.int ((lowJ oc k j : Nat) : Int)), V "pick" (.int k), V "words" (.raw (.ref wo)), V "weights" (.raw (.ref we)), V "signs" (.raw (.ref sg)), V "octets" (.lst ((List.range 3).map fun i => ((oc i : Nat) : Int))), V "aim" (.int a), V "width" (.int W), V "z" (.int (2 ^ W))] ∧
        μ = [(sg, true, (List.range k).map fun k => chi k a), (we, true, (List.range k).map fun k => ((wt (colW oc) k 40 : Nat) : Int)), (wo, true, (List.range k).map fun k => ((wordN oc k : Nat) : Int))]) ⟨rfl, rfl⟩ ?_ ?_ (by first | exact .inl rfl | exact .inr ⟨O, rfl, rfl⟩)
    · rintro j n Γ μ hn ⟨rfl, rfl⟩
      have hj : j < 3 := by have := (List.getElem?_eq_some_iff.mp hn).1; simpa using this
      have hn : (j : Int) = n := by simpa [hj] using hn
      subst hn
      refine Ex.ite (q := true) (Tst.eq (Ev.toI (Ev.fmod (Ev.shr (Ev.var rfl rfl) (Ev.var rfl rfl) (by omega)) Ev.const (by decide)) (b := pb (k.testBit j)) (fdivp_cast k j)) Ev.const) (fun hz => ?_) (fun hz => ?_)
      · have hb : k.testBit j = true := by
          cases h : k.testBit j with
          | true => rfl
          | false => rw [h] at hz; simp [pb] at hz
        refine Ex.aug (q := true) rfl (Ev.item (Ev.var rfl rfl) (Ev.var rfl rfl) (by omega) (by omega) (get_map_range (by rw [Int.toNat_natCast]; exact hj))) (by first | exact .inl rfl | exact .inr ⟨O, rfl, rfl⟩) (fun _ _ _ _ h => PyProof.Rows.ixor_int h) ?_
        refine Ex.nil (Ex.nil ⟨_, ?_, rfl, rfl⟩)
        refine ⟨?_, rfl, rfl, rfl, rfl, rfl, rfl, rfl, rfl, trivial⟩
        show some (AV.int _) = some (AV.int _)
        rw [Int.toNat_natCast, bxor_cast, lowJ, if_pos hb]
      · have hb : k.testBit j = false := by
          cases h : k.testBit j with
          | false => rfl
          | true => rw [h] at hz; simp [pb] at hz
        refine Ex.nil (Ex.nil ⟨_, ?_, rfl, rfl⟩)
        refine ⟨?_, rfl, rfl, rfl, rfl, rfl, rfl, rfl, rfl, trivial⟩
        show some (AV.int _) = some (AV.int _)
        rw [lowJ, hb, if_neg (by decide)]
    rintro Γ μ ⟨rfl, rfl⟩
    rw [List.length_map, List.length_range]
    have hlow := lowJ_lt hoc k 3
    have hrun := run_lt 8 (Nat.lt_of_lt_of_le hlow (two_pow_le (by decide : 8 ≤ 32)))
    have cc := F_crc g (lowJ oc k 3 : Int)
    rw [crcN_cast] at cc
    have hcs : ((runN 8 (lowJ oc k 3) : Nat) : Int) * 2 ^ (8 : Int).toNat = ((runN 8 (lowJ oc k 3) * 2 ^ 8 : Nat) : Int) := by push_cast; rfl
    have hw : Builtin.bitXor ((lowJ oc k 3 : Nat) : Int) ((runN 8 (lowJ oc k 3) * 2 ^ 8 : Nat) : Int) = ((wordN oc k : Nat) : Int) := by rw [bxor_cast, wordN, off_eq]
    have hrb : Builtin.Int.intBits ((runN 8 (lowJ oc k 3) : Nat) : Int) ≤ 32 := bits_le (by rw [Int.natAbs_natCast]; exact hrun)
    refine Ex.append (pre := [(sg, true, (List.range k).map fun k => chi k a), (we, true, (List.range k).map fun k => ((wt (colW oc) k 40 : Nat) : Int))]) (post := []) (xs := (List.range k).map fun k => ((wordN oc k : Nat) : Int)) (q := false) (v := ((wordN oc k : Nat) : Int)) (Ev.var rfl rfl)
      (Ev.toI (Ev.bxor (Ev.var rfl rfl) (Ev.toI (Ev.shl (Ev.callF (Ev.glob (g.glob rfl) rfl) (g.K 21 _ rfl) rfl (EvA.cons (Ev.var rfl rfl) EvA.nil) (Fn.less (d' := 100) cc (by decide))) Ev.const (by decide) (by omega)) hcs)) hw) (by simp; omega) ?_
    rw [range_snoc fun k => ((wordN oc k : Nat) : Int)]
    have hwk : ((List.range (k + 1)).map fun k => ((wordN oc k : Nat) : Int))[((k : Int)).toNat]? = some ((wordN oc k : Nat) : Int) := get_map_range (f := fun k => ((wordN oc k : Nat) : Int)) (by rw [Int.toNat_natCast]; omega)
    have cl := F_left g (lowJ oc k 3)
    refine Ex.ite (q := false) (Tst.ne (Ev.callF (Ev.glob (g.glob rfl) rfl) (g.K 70 _ rfl) rfl (EvA.cons (Ev.itemM (a := wo) (pl := true) (xs := (List.range (k + 1)).map fun k => ((wordN oc k : Nat) : Int)) (n := ((wordN oc k : Nat) : Int)) (Ev.var rfl rfl) (.tail _ (.tail _ (.head _))) (Ev.var rfl rfl) (by omega) (by omega) hwk) EvA.nil) (Fn.less (d' := 100) cl (by decide))) Ev.const) (fun hz => ?_) (fun hz => ?_)
    · simp at hz
    refine Ex.nil ?_
    have co := F_ones g (wordN oc k) (n := 40) (by decide)
    have cs := F_ones g (k &&& a) (n := 3) (by decide)
    rw [wt_ones oc hk] at co
    refine Ex.append (pre := [(sg, true, (List.range k).map fun k => chi k a)]) (post := [(wo, true, (List.range (k + 1)).map fun k => ((wordN oc k : Nat) : Int))]) (xs := (List.range k).map fun k => ((wt (colW oc) k 40 : Nat) : Int)) (q := false) (v := ((wt (colW oc) k 40 : Nat) : Int)) (Ev.var rfl rfl)
      (Ev.callF (Ev.glob (g.glob rfl) rfl) (g.K 87 _ rfl) rfl (EvA.cons (Ev.itemM (a := wo) (pl := true) (xs := (List.range (k + 1)).map fun k => ((wordN oc k : Nat) : Int)) (n := ((wordN oc k : Nat) : Int)) (Ev.var rfl rfl) (.tail _ (.tail _ (.head _))) (Ev.var rfl rfl) (by omega) (by omega) hwk) (EvA.cons Ev.const EvA.nil)) (Fn.less (d' := 100) co (by decide))) (by simp; omega) ?_
    rw [range_snoc fun k => ((wt (colW oc) k 40 : Nat) : Int)]
    refine Ex.append (pre := []) (post := [(we, true, (List.range (k + 1)).map fun k => ((wt (colW oc) k 40 : Nat) : Int)), (wo, true, (List.range (k + 1)).map fun k => ((wordN oc k : Nat) : Int))]) (xs := (List.range k).map fun k => chi k a) (q := false) (v := chi k a) (Ev.var rfl rfl)
      (Ev.toI (Ev.sub Ev.const (Ev.mul Ev.const (Ev.fmod (Ev.callF (Ev.glob (g.glob rfl) rfl) (g.K 87 _ rfl) rfl (EvA.cons (Ev.toI (Ev.band (Ev.var rfl rfl) (Ev.var rfl rfl)) (band_cast k a)) (EvA.cons Ev.const EvA.nil)) (Fn.less (d' := 100) cs (by decide))) Ev.const (by decide)) (mulOkL (by decide)))) (sgn_chi k hk a ha)) (by simp; omega) ?_
    rw [range_snoc fun k => chi k a]
    refine Ex.nil ⟨_, ?_, rfl, rfl⟩
    exact ⟨rfl, rfl, rfl, rfl, rfl, rfl, rfl, trivial⟩
  rintro Γ μ ⟨rfl, rfl⟩
  rw [List.length_map, List.length_range]
  refine Ex.freeze (pre := [(sg, true, (List.range 8).map fun k => chi k a), (we, true, (List.range 8).map fun k => ((wt (colW oc) k 40 : Nat) : Int))]) (post := []) (y := "words") rfl hwo2 ?_
  refine Ex.freeze (pre := [(sg, true, (List.range 8).map fun k => chi k a)]) (post := []) (y := "weights") (a := we) rfl hwe2 ?_
  refine Ex.freeze (pre := []) (post := []) (y := "signs") (a := sg) rfl hsg2 ?_
  refine Ex.only (Γ' := [V "words" (.lst ((List.range 8).map fun k => ((wordN oc k : Nat) : Int))), V "weights" (.lst ((List.range 8).map fun k => ((wt (colW oc) k 40 : Nat) : Int))), V "signs" (.lst ((List.range 8).map fun k => chi k a)), V "aim" (.int a), V "width" (.int W), V "z" (.int (2 ^ W))]) ?_ ⟨rfl, rfl, rfl, rfl, rfl, rfl, trivial⟩
  show Ex _ _ _ [] _ _
  have hc8 := colW_lt oc
  have hw40 : ∀ k, wt (colW oc) k 40 ≤ 40 := fun k => wt_le (colW oc) k 40
  generalize colW_d : colW oc = col at *
  have hz1 : (2 : Int) ^ 44 ≤ 2 ^ W := ipow_le hW1
  have hz2 : (2 : Int) ^ W ≤ 2 ^ 59 := ipow_le hW2
  have l44 : (2 : Int) ^ 44 = 17592186044416 := by decide
  have l59 : (2 : Int) ^ 59 = 576460752303423488 := by decide
  have l60 : (2 : Nat) ^ 60 = 1152921504606846976 := by decide
  have l64 : (2 : Nat) ^ 64 = 18446744073709551616 := by decide
  have l40 : (2 : Int) ^ 40 = 1099511627776 := by decide
  have hzm : ((1 : Int) - 2 ^ W).natAbs ≤ 2 ^ 60 := by rw [l60]; omega
  have hzp : ((1 : Int) + 2 ^ W).natAbs ≤ 2 ^ 60 := by rw [l60]; omega
  have hzz : ((2 : Int) ^ W).natAbs ≤ 2 ^ 60 := by rw [l60]; omega
  have hsI : ∀ i : Nat, i < 8 → ((List.range 8).map fun k => chi k a)[((i : Int)).toNat]? = some (chi i a) := fun i hi => get_map_range (f := fun k => chi k a) (k := i) hi
  have hwI : ∀ i : Nat, i < 8 → ((List.range 8).map fun k => ((wt col k 40 : Nat) : Int))[((i : Int)).toNat]? = some ((wt col i 40 : Nat) : Int) := fun i hi => get_map_range (f := fun k => ((wt col k 40 : Nat) : Int)) (k := i) hi
  -- dividend
  have hD : (((List.range 8).map fun i : Nat => (i : Int)).map fun t : Int => chi t.toNat a * (1 - 2 ^ W) ^ wt col t.toNat 40 * (1 + 2 ^ W) ^ (40 - wt col t.toNat 40)).sum = 8 * HM col 1 (2 ^ W) 40 a := by
    rw [sum_cast, ← macw hc8 1 (2 ^ W) 40 ha]
    exact sumTo_congr fun k _ => by rw [Int.toNat_natCast, Int.mul_assoc]
  refine Ex.assign (q := true) (Ev.toI (Ev.sum (Ev.bi g.sum rfl) (EvN.ev (EvN.comp (f := fun t : Int => chi t.toNat a * (1 - 2 ^ W) ^ wt col t.toNat 40 * (1 + 2 ^ W) ^ (40 - wt col t.toNat 40)) (Ev.range1 (Ev.bi g.range rfl) Ev.const) (Items.nat (n := 8) (by decide)) (fun C n hn => ?_) (by simp)))) hD) (by first | exact .inl rfl | exact .inr ⟨O, rfl, rfl⟩) ?_
  · obtain ⟨i, hi, rfl⟩ := List.mem_map.mp hn
    have hi := List.mem_range.mp hi
    have hwi := hw40 i
    have e40 : (40 : Int) - ((wt col i 40 : Nat) : Int) = ((40 - wt col i 40 : Nat) : Int) := by omega
    refine Ev.toI (Ev.mul (Ev.mul (Ev.item (Ev.var rfl rfl) (Ev.var rfl rfl) (by omega) (by omega) (hsI i hi)) (Ev.pow (Ev.sub Ev.const (Ev.var rfl rfl)) (Ev.item (Ev.var rfl rfl) (Ev.var rfl rfl) (by omega) (by omega) (hwI i hi)) (by omega) (pow_bits hzm hwi)) (mulOkL (by rw [chi_abs]; decide)))
      (Ev.pow (Ev.add Ev.const (Ev.var rfl rfl)) (Ev.toI (Ev.sub Ev.const (Ev.item (Ev.var rfl rfl) (Ev.var rfl rfl) (by omega) (by omega) (hwI i hi))) e40) (by omega) (pow_bits hzp (by omega))) ?_) (by simp only [Int.toNat_natCast])
    rw [Int.toNat_natCast, Int.toNat_natCast]
    exact mulOk (one_times (by rw [chi_abs]; decide) (pow_size hzm hwi)) (lt_more (pow_size hzp (by omega))) (by decide)
  clear hD
  -- the first division
  have hH := HM_bound col (W := W) 40 a
  have hHs : (8 * HM col 1 (2 ^ W) 40 a).natAbs < 2 ^ 5000 := by
    have h2 : (W + 1) * 40 ≤ 2400 := by omega
    have h3 := ipow_le h2
    refine natAbs_lt (by omega) ?_
    have h4 : (2 : Int) ^ 2403 ≤ 2 ^ 5000 := ipow_le (by decide)
    have h5 : (2 : Int) ^ 2403 = 8 * 2 ^ 2400 := by rw [show 2403 = 2400 + 3 from rfl, Int.pow_add]; omega
    have h6 := ipow_pos 2400
    rw [h5] at h4
    have h7 : (2 : Int) ^ 2403 < 2 ^ 5000 := Int.pow_lt_pow_of_lt (by decide) (by decide)
    rw [h5] at h7
    generalize (2 : Int) ^ 5000 = P at *
    generalize (2 : Int) ^ 2400 = P' at *
    generalize (2 : Int) ^ ((W + 1) * 40) = P'' at *
    omega
  have c4 := F_divmod g (a := 8 * HM col 1 (2 ^ W) 40 a) (b := 8 * (2 ^ W - 1)) (by omega) (Nat.le_trans (bits_le (k := 64) (by rw [l64]; omega)) (by decide)) (div_room hHs (by rw [l40]; omega))
  rw [(first_div (col := col) (a := a) (W := W) (by omega)).1, (first_div (col := col) (a := a) (W := W) (by omega)).2] at c4
  refine Ex.pair (q := false) (Ev.callF (Ev.glob (g.glob rfl) rfl) (g.K 63 _ rfl) rfl (EvA.cons (Ev.var rfl rfl) (EvA.cons (Ev.mul Ev.const (Ev.sub (Ev.var rfl rfl) Ev.const) (mulOkL (by decide))) EvA.nil)) (Fn.less (d' := 100) c4 (by decide))) (by first | exact .inl rfl | exact .inr ⟨O, rfl, rfl⟩) (by first | exact .inl rfl | exact .inr ⟨O, rfl, rfl⟩) ?_
  clear c4 hHs hH
  -- digits
  have hQ := QQ_bound (col := col) (a := a) (W := W) (by omega)
  have hQb : Builtin.Int.intBits (QQ col a W) ≤ W * 41 := bits_le (natAbs_lt hQ.1 hQ.2)
  have hm41 : ceilD (Builtin.Int.intBits (QQ col a W)) W ≤ 41 := ceilD_le (by omega) (by rw [Nat.mul_comm]; exact hQb)
  have hmQ : QQ col a W < 2 ^ (W * ceilD (Builtin.Int.intBits (QQ col a W)) W) := by
    have h1 := lt_bits (QQ col a W)
    have h2 := two_pow_le (lt_ceil (a := Builtin.Int.intBits (QQ col a W)) (n := W) (by omega))
    have h3 := hQ.1
    rw [← ipow_cast]; omega
  have c5 := F_i2d g hQ.1 (n := W) (by omega) (by omega) rfl (by omega)
  generalize ceilD (Builtin.Int.intBits (QQ col a W)) W = m at *
  refine Ex.assign (q := false) (Ev.callF (Ev.glob (g.glob rfl) rfl) (g.K 42 _ rfl) rfl (EvA.cons (Ev.var rfl rfl) (EvA.cons (Ev.var rfl rfl) EvA.nil)) (Fn.less (d' := 100) c5 (by decide))) (by first | exact .inl rfl | exact .inr ⟨O, rfl, rfl⟩) ?_
  have e41 : (41 : Int) - (((digs W m (QQ col a W)).length : Nat) : Int) = ((41 - m : Nat) : Int) := by rw [digs_length]; omega
  refine Ex.assign (q := true) (v := .lst ((List.range 41).map fun v => tl (cf col 40 a) 40 (v + 1))) (Ev.to (EvN.ev (EvN.add (Ev.var rfl rfl) (EvN.ev (EvN.mul (EvN.ev (EvN.display (xs := [0]) (EvA.cons Ev.const EvA.nil) (by decide))) (Ev.toI (Ev.sub Ev.const (Ev.len (Ev.bi g.len rfl) (Ev.var rfl rfl) (by rw [digs_length]; omega))) e41) (by omega) (by omega) (by decide))) ?_)) ?_) (by first | exact .inl rfl | exact .inr ⟨O, rfl, rfl⟩) ?_
  · rw [KM.len_rep, digs_length]; simp; omega
  · rw [Int.toNat_natCast, List.flatten_replicate_singleton, digs_pad hQ.1 hmQ, show m + (41 - m) = 41 by omega, QQ_digs (by omega)]
  clear c5 hmQ hm41 hQb hQ e41
  -- counts
  have cm := F_masks g (r0 := wordN oc 1) (r1 := wordN oc 2) (r2 := wordN oc 4) (W := W) ha (by omega) (by omega)
  have cm' : Fn G 1 75 [.lst [((wordN oc 1 : Nat) : Int), (wordN oc 2 : Nat), (wordN oc 4 : Nat)], .int a, .int W] (.lst ((List.range 41).map (cf col 40 a))) := by
    rw [← colW_d, ← counts_eq (W := W) (by omega)]; exact cm
  refine Ex.assign (q := false) (Ev.callF (Ev.glob (g.glob rfl) rfl) (g.K 75 _ rfl) rfl (EvA.cons (EvN.ev (EvN.display (xs := [((wordN oc 1 : Nat) : Int), (wordN oc 2 : Nat), (wordN oc 4 : Nat)]) (EvA.cons (Ev.item (Ev.var rfl rfl) Ev.const (by decide) (by decide) rfl) (EvA.cons (Ev.item (Ev.var rfl rfl) Ev.const (by decide) (by decide) rfl) (EvA.cons (Ev.item (Ev.var rfl rfl) Ev.const (by decide) (by decide) rfl) EvA.nil))) (by simp))) (EvA.cons (Ev.var rfl rfl) (EvA.cons (Ev.var rfl rfl) EvA.nil))) (Fn.less (d' := 100) cm' (by decide))) (by first | exact .inl rfl | exact .inr ⟨O, rfl, rfl⟩) ?_
  clear cm cm'
  have ct := F_tails g (cf col 40 a)
  refine Ex.ite (q := false) (Tst.or (Tst.ne (Ev.var rfl rfl) (Ev.mul Ev.const (Ev.sum (Ev.bi g.sum rfl) (Ev.var rfl rfl)) (mulOkL (by decide)))) (fun _ => Tst.neL (Ev.var rfl rfl) (Ev.callF (Ev.glob (g.glob rfl) rfl) (g.K 82 _ rfl) rfl (EvA.cons (Ev.var rfl rfl) EvA.nil) (Fn.less (d' := 100) ct (by decide))))) (fun hz => ?_) (fun hz => ?_)
  · rw [sum_range, ← tl_zero] at hz; simp at hz
  refine Ex.nil ?_
  -- told
  refine Ex.assign (q := true) (v := .lst ((List.range 42).map fun v => tl (cf col 40 a) 40 v)) (Ev.to (EvN.ev (EvN.add (EvN.ev (EvN.display (xs := [tl (cf col 40 a) 40 0]) (EvA.cons (Ev.toI (Ev.fdiv (Ev.var rfl rfl) Ev.const (by decide) (log2_small (k := 64) (by decide) (by decide))) (Int.mul_fdiv_cancel_left _ (by decide))) EvA.nil) (by simp))) (Ev.var rfl rfl) (by simp))) (congrArg AV.lst (told_eq fun v => tl (cf col 40 a) 40 v))) (by first | exact .inl rfl | exact .inr ⟨O, rfl, rfl⟩) ?_
  have htI : ∀ i : Nat, i < 42 → ((List.range 42).map fun v => tl (cf col 40 a) 40 v)[((i : Int)).toNat]? = some (tl (cf col 40 a) 40 i) := fun i hi => get_map_range (f := fun v => tl (cf col 40 a) 40 v) (k := i) hi
  -- again
  have hA : (((List.range 41).map fun i : Nat => (i : Int)).map fun t : Int => cf col 40 a t.toNat * (1 - 2 ^ W) ^ t.toNat * (1 + 2 ^ W) ^ (40 - t.toNat)).sum = HM col (1 + 2 ^ W) (1 - 2 ^ W) 40 a := by
    rw [sum_cast]
    unfold HM
    exact sumTo_congr fun k _ => by rw [Int.toNat_natCast, Int.mul_assoc, Int.mul_comm ((1 - 2 ^ W) ^ k)]
  refine Ex.assign (q := true) (Ev.toI (Ev.sum (Ev.bi g.sum rfl) (EvN.ev (EvN.comp (f := fun t : Int => cf col 40 a t.toNat * (1 - 2 ^ W) ^ t.toNat * (1 + 2 ^ W) ^ (40 - t.toNat)) (Ev.range1 (Ev.bi g.range rfl) Ev.const) (Items.nat (n := 41) (by decide)) (fun C n hn => ?_) (by simp)))) hA) (by first | exact .inl rfl | exact .inr ⟨O, rfl, rfl⟩) ?_
  · obtain ⟨i, hi, rfl⟩ := List.mem_map.mp hn
    have hi := List.mem_range.mp hi
    have e40 : (40 : Int) - (i : Int) = ((40 - i : Nat) : Int) := by omega
    have e1 : (i : Int) + 1 = ((i + 1 : Nat) : Int) := by push_cast; rfl
    have es : tl (cf col 40 a) 40 i - tl (cf col 40 a) 40 (i + 1) = cf col 40 a i := by rw [tl_step (cf col 40 a) (n := 40) (v := i) (by omega)]; omega
    have hcd := cf_digit (col := col) (a := a) (W := 41) (by decide) i (by omega)
    have hcn : (cf col 40 a i).natAbs < 2 ^ 41 := natAbs_lt hcd.1 hcd.2
    refine Ev.toI (Ev.mul (Ev.mul (Ev.toI (Ev.sub (Ev.item (Ev.var rfl rfl) (Ev.var rfl rfl) (by omega) (by omega) (htI i (by omega))) (Ev.item (Ev.var rfl rfl) (Ev.toI (Ev.add (Ev.var rfl rfl) Ev.const) e1) (by omega) (by omega) (htI (i + 1) (by omega)))) es) (Ev.pow (Ev.sub Ev.const (Ev.var rfl rfl)) (Ev.var rfl rfl) (by omega) (pow_bits hzm (by omega))) (mulOkL (Nat.lt_trans hcn (by decide))))
      (Ev.pow (Ev.add Ev.const (Ev.var rfl rfl)) (Ev.toI (Ev.sub Ev.const (Ev.var rfl rfl)) e40) (by omega) (pow_bits hzp (by omega))) ?_) (by simp only [Int.toNat_natCast])
    rw [Int.toNat_natCast, Int.toNat_natCast]
    exact mulOk (one_times (Nat.le_of_lt hcn) (pow_size hzm (by omega))) (lt_more (pow_size hzp (by omega))) (by decide)
  clear hA
  -- back
  have hB : (((List.range 8).map fun i : Nat => (i : Int)).map fun t : Int => chi t.toNat a * geo (2 ^ W) (wt col t.toNat 40)).sum = BK col (2 ^ W) a := by
    rw [sum_cast]; unfold BK
    exact sumTo_congr fun k _ => by rw [Int.toNat_natCast]
  refine Ex.assign (q := true) (Ev.toI (Ev.sum (Ev.bi g.sum rfl) (EvN.ev (EvN.comp (f := fun t : Int => chi t.toNat a * geo (2 ^ W) (wt col t.toNat 40)) (Ev.range1 (Ev.bi g.range rfl) Ev.const) (Items.nat (n := 8) (by decide)) (fun C n hn => ?_) (by simp)))) hB) (by first | exact .inl rfl | exact .inr ⟨O, rfl, rfl⟩) ?_
  · obtain ⟨i, hi, rfl⟩ := List.mem_map.mp hn
    have hi := List.mem_range.mp hi
    have hwi := hw40 i
    exact Ev.toI (Ev.mul (Ev.item (Ev.var rfl rfl) (Ev.var rfl rfl) (by omega) (by omega) (hsI i hi)) (Ev.toI (Ev.fdiv (Ev.sub (Ev.pow (Ev.var rfl rfl) (Ev.item (Ev.var rfl rfl) (Ev.var rfl rfl) (by omega) (by omega) (hwI i hi)) (by omega) (pow_bits hzz hwi)) Ev.const) (Ev.sub (Ev.var rfl rfl) Ev.const) (by omega) (log2_small (k := 64) (by rw [l64]; omega) (by decide))) (b := geo (2 ^ W) (wt col i 40)) (by rw [Int.toNat_natCast]; exact back_term (by omega) _)) (mulOkL (by rw [chi_abs]; decide))) (by simp only [Int.toNat_natCast])
  clear hB
  -- the second division
  have l37 : (2 : Int) ^ 37 = 137438953472 := by decide
  have c8 := F_divmod g (a := HM col (1 + 2 ^ W) (1 - 2 ^ W) 40 a) (b := 2 ^ 37 * (2 ^ W - 1)) (by rw [l37]; omega) (Nat.le_trans (bits_le (k := 100) (by rw [l37, show (2 : Nat) ^ 100 = 1267650600228229401496703205376 by decide]; omega)) (by decide)) (div_room (again_size hzp hzm) (by rw [l37, l40]; omega))
  rw [(second_div hc8 (W := W) (by omega) ha).1, (second_div hc8 (W := W) (by omega) ha).2] at c8
  refine Ex.ret (q := false) (Ev.to (Ev.eqP (Ev.callF (Ev.glob (g.glob rfl) rfl) (g.K 63 _ rfl) rfl (EvA.cons (Ev.var rfl rfl) (EvA.cons (Ev.mul (Ev.toI (Ev.pow Ev.const Ev.const (by decide) (by rw [b2]; decide)) (b := 2 ^ 37) rfl) (Ev.sub (Ev.var rfl rfl) Ev.const) (mulOkL (by decide))) EvA.nil)) (Fn.less (d' := 100) c8 (by decide)))
    (Ev.two (Ev.var rfl rfl) (Ev.toI (Ev.mul (Ev.toI (Ev.pow Ev.const Ev.const (by decide) (by rw [b2]; decide)) (b := 2 ^ 37) rfl) (Ev.sum (Ev.bi g.sum rfl) (Ev.var rfl rfl)) (mulOkL (by decide))) (b := 2 ^ 37 * sumTo 8 fun k => chi k a) (by rw [sum_range])))) ?_) rfl
  simp
end
end Mine
open PySem PySem.W PyProof.Rows
set_option maxRecDepth 100000
set_option maxHeartbeats 8000000
open Mine in
theorem PySem.Challenge.cw_pe0111_02_holds : PySem.Challenge.rw_pe0111_02.Holds :=
  Mine.hd (by
  w_strict (k_go0; (all_goals try k_fold)
            rename_i xs hs hlay0 hL1 hr1 hl2 w4 w3 a vs w0 hL ra w1 r0 hI hr hcond hTrue hD h₁ tk₁ o1 o2 o3 o4 o5 d1 d2 d3 d4 d5 X0 X' T' K' F' cH N' l0
            refine wpAny_mono (glue (ts := [⟨41, 37, 40, 4, "_int2digits.<locals>.inner"⟩, ⟨48, 44, 55, 4, "_digits2int.<locals>.inner"⟩]) (a := a) (vs := vs) (script := xs)
              (two_mem (.tail _ (.head _)) (.head _)) (two_mem ⟨_, .tail _ (.head _), rfl⟩ ⟨_, .head _, rfl⟩) (two_tabs (by decide))
              hT9 (two_mem cH codeHd) T' F' N' (two_mem (.tail _ (.tail _ (.tail _ (.tail _ (.tail _ (.head _)))))) (.tail _ (.tail _ (.tail _ (.tail _ (.tail _ (.tail _ (.head _)))))))) X0 mem5 (rd_local F'.ns rfl rfl) lifted hI (by assumption) rfl rfl rfl rfl
              (fun x b hb => cellsFrom_ge _ _ [] _ (fun _ _ h => absurd h List.not_mem_nil) (Nat.le_refl _) x b hb) (cellsFrom_apart _ _ [] (fun _ _ h => absurd h List.not_mem_nil) List.Pairwise.nil) ?_) ?_ (fun _ _ f => f.elim)
            · intro A base okA good nest own
              exact law2_walk ⟨X', ⟨_, _, _, _, _, T'⟩, good, nest, rfl⟩ (by omega) _ _ _ rfl rfl rfl own
            · rintro f s' ⟨rfl, h1, h2, h3, h4⟩
              refine ⟨⟨.inl ⟨.bool true, .bool true, [], rfl, ?_, .bool true, ?_, ?_⟩, h1, h2, h3⟩, h4⟩
              · intro cls; rfl
              · kc_post
              · intro _; exact ⟨List.nodup_nil, fun a h => absurd h List.not_mem_nil⟩))
