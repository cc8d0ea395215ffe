import PyProof.Rows.All
import Wide.All
import OpenK.AllK
import Wide.FinOn
import Lean
import PySem.Challenge.RW_pe0097_01

open PySem PySem.W PyProof.Rows
set_option Elab.async false
set_option linter.unusedVariables false

namespace Mine

/-! ## Plain data, and how a value stands for it -/

inductive D where
  | none
  | bool (b : Bool)
  | int (i : Int)
  | str (s : List Nat)
  | tuple (l : List D)
  | list (l : List D)
  | dict (ks : List (List Nat)) (l : List D)

abbrev Kn := Addr → Option Obj
noncomputable def mkS (l : List Nat) : Str := ⟨l.toArray⟩
theorem mkS_cps (l : List Nat) : (mkS l).cps.toList = l := by simp [mkS]
theorem mkS_length (l : List Nat) : (mkS l).length = l.length := by simp [mkS, Str.length]
theorem mkS_inj {a b : List Nat} (h : mkS a = mkS b) : a = b := by
  have := congrArg (fun s : Str => s.cps.toList) h
  simpa [mkS] using this
theorem mkS_of (s : Str) : s = mkS s.cps.toList := by cases s; simp [mkS]

section
variable (prog : Program) (w : World)

mutual
noncomputable def Rep (K : Kn) : D → Value → Prop
  | .none, v => v = .none
  | .bool b, v => v = .bool b
  | .int i, v => ∃ t, v = .int i t
  | .str s, v => ∃ t, v = .str (mkS s) t
  | .tuple l, v => ∃ a o vs, v = .ref a ∧ K a = some o ∧ o.cls = .type "tuple" ∧ (∃ n, o.data = .seq vs n) ∧ RepL K l vs.toList
  | .list l, v => ∃ a o vs, v = .ref a ∧ K a = some o ∧ o.cls = .type "list" ∧ (∃ n, o.data = .seq vs n) ∧ RepL K l vs.toList
  | .dict ks l, v => ∃ a o kvs, v = .ref a ∧ K a = some o ∧ (o.IsDictOf (strKind prog w) kvs ∧ (a == sysModules) = false) ∧ kvs.map (·.1) = ks.map mkS ∧ RepL K l (kvs.map (·.2))
noncomputable def RepL (K : Kn) : List D → List Value → Prop
  | [], vs => vs = []
  | d :: ds, vs => ∃ v vs', vs = v :: vs' ∧ Rep K d v ∧ RepL K ds vs'
end
end

section
variable {prog : Program} {w : World} {K K' : Kn}

mutual
theorem Rep.mono (hk : ∀ b o, K b = some o → K' b = some o) : ∀ (d : D) (v : Value), Rep prog w K d v → Rep prog w K' d v
  | .none, _, h => h
  | .bool _, _, h => h
  | .int _, _, h => h
  | .str _, _, h => h
  | .tuple l, _, ⟨a, o, vs, e, ho, hc, hd, hr⟩ => ⟨a, o, vs, e, hk _ _ ho, hc, hd, RepL.mono hk l _ hr⟩
  | .list l, _, ⟨a, o, vs, e, ho, hc, hd, hr⟩ => ⟨a, o, vs, e, hk _ _ ho, hc, hd, RepL.mono hk l _ hr⟩
  | .dict _ l, _, ⟨a, o, kvs, e, ho, hc, hd, hr⟩ => ⟨a, o, kvs, e, hk _ _ ho, hc, hd, RepL.mono hk l _ hr⟩
theorem RepL.mono (hk : ∀ b o, K b = some o → K' b = some o) : ∀ (d : List D) (v : List Value), RepL prog w K d v → RepL prog w K' d v
  | [], _, h => h
  | d :: ds, _, ⟨v, vs', e, h1, h2⟩ => ⟨v, vs', e, Rep.mono hk d v h1, RepL.mono hk ds vs' h2⟩
end

theorem RepL.length : ∀ {d : List D} {v : List Value}, RepL prog w K d v → v.length = d.length
  | [], _, h => by simp only [RepL] at h; subst h; rfl
  | d :: ds, _, h => by
    simp only [RepL] at h
    obtain ⟨v, vs', rfl, _, h2⟩ := h
    simp [RepL.length h2]
theorem RepL.get : ∀ {d : List D} {v : List Value} {i : Nat} {x : D}, RepL prog w K d v → d[i]? = some x → ∃ y, v[i]? = some y ∧ Rep prog w K x y
  | [], _, _, _, _, e => by simp at e
  | d :: ds, _, i, x, h, e => by
    simp only [RepL] at h
    obtain ⟨v, vs', rfl, h1, h2⟩ := h
    cases i with
    | zero => simp at e; subst e; exact ⟨v, rfl, h1⟩
    | succ i => simp at e; simpa using RepL.get h2 e
theorem RepL.get' : ∀ {d : List D} {v : List Value} {i : Nat} {y : Value}, RepL prog w K d v → v[i]? = some y → ∃ x, d[i]? = some x ∧ Rep prog w K x y
  | [], _, i, _, h, e => by simp only [RepL] at h; subst h; simp at e
  | d :: ds, _, i, y, h, e => by
    simp only [RepL] at h
    obtain ⟨v, vs', rfl, h1, h2⟩ := h
    cases i with
    | zero => simp at e; subst e; exact ⟨d, rfl, h1⟩
    | succ i => simp at e; simpa using RepL.get' h2 e
theorem RepL.append : ∀ {d d' : List D} {v v' : List Value}, RepL prog w K d v → RepL prog w K d' v' → RepL prog w K (d ++ d') (v ++ v')
  | [], _, _, _, h, h' => by simp only [RepL] at h; subst h; simpa using h'
  | d :: ds, _, _, _, h, h' => by
    simp only [RepL] at h
    obtain ⟨v, vs', rfl, h1, h2⟩ := h
    exact ⟨v, _, rfl, h1, RepL.append h2 h'⟩
theorem RepL.of_get : ∀ {d : List D} {v : List Value}, v.length = d.length → (∀ (i : Nat) x y, d[i]? = some x → v[i]? = some y → Rep prog w K x y) → RepL prog w K d v
  | [], v, hl, _ => by simpa [RepL] using hl
  | d :: ds, [], hl, _ => by simp at hl
  | d :: ds, v :: vs, hl, h => ⟨v, vs, rfl, h 0 d v rfl rfl, RepL.of_get (by simpa using hl) fun i x y hx hy => h (i + 1) x y (by simpa using hx) (by simpa using hy)⟩

end

/-! ## The world of one run: what stands at the top -/
structure Wd where
  prog : Program
  w : World
  base : Heap
  mg : Str → Option Value
  mb : Str → Option Value
  g : base.Ns mainGlobals mg
  b : base.Ns builtinsNs mb
  nolimit : base.NoLimit
  builtins : ∀ x : Str, x ≠ "__name__" → mb x = bootBuiltins x

/-- one activation of a function -/
structure Fc where
  A : Around
  env : Env
  hh : A.handled = none
  hk : env.scope.kind = .function
  hg : env.globals = mainGlobals
  hb : env.builtins = builtinsNs
  lvl : Nat
  room : A.depth + lvl < recursionLimit
  units : A.units + 10 * lvl + 10 < cLine

inductive LV where
  | imm (d : D)
  | mu (d : D)

abbrev Sto := List (Str × LV)
noncomputable def Sto.get : Sto → Str → Option LV
  | [], _ => none
  | p :: r, x => if p.1 = x then some p.2 else Sto.get r x
noncomputable def Sto.set : Sto → Str → LV → Sto
  | [], x, v => [(x, v)]
  | p :: r, x, v => if p.1 = x then (x, v) :: r else p :: Sto.set r x v
theorem Sto.get_set (ρ : Sto) (x : Str) (v : LV) (y : Str) : (ρ.set x v).get y = if x = y then some v else ρ.get y := by
  induction ρ with
  | nil => simp [Sto.set, Sto.get]
  | cons p r ih =>
    simp only [Sto.set]
    by_cases h : p.1 = x
    · simp only [h, if_true, Sto.get]
      by_cases h2 : x = y <;> simp [h2]
    · simp only [h, if_false, Sto.get, ih]
      by_cases h2 : p.1 = y
      · subst h2; simp [Ne.symm h]
      · simp [h2]
noncomputable def Sto.Sub : Sto → Sto → Prop
  | [], _ => True
  | p :: r, ρ => ρ.get p.1 = some p.2 ∧ Sto.Sub r ρ
theorem Sto.Sub.le {ρ' ρ : Sto} (h : Sto.Sub ρ' ρ) {x : Str} {v : LV} (e : ρ'.get x = some v) : ρ.get x = some v := by
  induction ρ' with
  | nil => simp [Sto.get] at e
  | cons p r ih =>
    simp only [Sto.get] at e
    by_cases h2 : p.1 = x
    · simp only [h2, if_true] at e; obtain rfl := Option.some.inj e; exact h2 ▸ h.1
    · simp only [h2, if_false] at e; exact ih h.2 e

noncomputable def Bound (env : Env) (h : Heap) (x : Str) (v : Value) : Prop :=
  (env.kindOf x = some .local ∧ ∃ m, h.Ns env.locals m ∧ m x = some v) ∨ (env.kindOf x = some .cell ∧ ∃ c, env.cells.lookup x = some c ∧ h.IsCell c (some v))

theorem mem_of_lookup' {l : List (Str × Addr)} {x : Str} {c : Addr} (h : l.lookup x = some c) : (x, c) ∈ l := by
  induction l with
  | nil => simp at h
  | cons p r ih =>
    rw [List.lookup_cons] at h
    by_cases e : x == p.1
    · simp only [e] at h; obtain rfl := Option.some.inj h
      rw [eq_of_beq e]; exact .head _
    · simp only [e] at h; exact .tail _ (ih h)

section
variable (W : Wd)

noncomputable def MObj (K : Kn) (h : Heap) (a : Addr) : D → Prop
  | .list l => ∃ vs, h.PlainList a vs ∧ RepL W.prog W.w K l vs.toList
  | .dict ks l => ∃ kvs, (h.DictOf (strKind W.prog W.w) a kvs ∧ (a == sysModules) = false) ∧ kvs.map (·.1) = ks.map mkS ∧ RepL W.prog W.w K l (kvs.map (·.2))
  | _ => False

noncomputable def LRep (K : Kn) (μ : List (Str × Addr)) (h : Heap) (x : Str) : LV → Value → Prop
  | .imm d, v => Rep W.prog W.w K d v
  | .mu d, v => ∃ a, v = .ref a ∧ (x, a) ∈ μ ∧ MObj W K h a d

noncomputable def own (env : Env) (μ : List (Str × Addr)) : List Addr := env.locals :: (env.cells.map (·.2) ++ μ.map (·.2))

structure Good (env : Env) (K : Kn) (μ : List (Str × Addr)) (ρ : Sto) (h : Heap) : Prop where
  sub : ∀ b o, K b = some o → h.get? b = some o
  base : ∀ b o, W.base.get? b = some o → K b = some o
  nodup : (own env μ).Nodup
  off : ∀ b ∈ own env μ, K b = none
  live : ∀ p ∈ μ, ∃ o, h.get? p.2 = some o
  ns : ∃ m, h.Ns env.locals m
  cells : ∀ p ∈ env.cells, ∃ v, h.IsCell p.2 v
  vals : ∀ x lv, ρ.get x = some lv → ∃ v, Bound env h x v ∧ LRep W K μ h x lv v

structure Grow (K : Kn) (h : Heap) (K' : Kn) (h' : Heap) : Prop where
  ext : ∀ b o, h.get? b = some o → h'.get? b = some o
  le : ∀ b o, K b = some o → K' b = some o
  sub : ∀ b o, K' b = some o → h'.get? b = some o
  fresh : ∀ b, K b = none → h.get? b ≠ none → K' b = none
end

section
variable {W : Wd} {env : Env} {K K' K'' : Kn} {μ : List (Str × Addr)} {ρ : Sto} {h h' h'' : Heap}

theorem Grow.trans (g : Grow K h K' h') (g' : Grow K' h' K'' h'') : Grow K h K'' h'' where
  ext := fun b o e => g'.ext b o (g.ext b o e)
  le := fun b o e => g'.le b o (g.le b o e)
  sub := g'.sub
  fresh := fun b hb hn => g'.fresh b (g.fresh b hb hn) (by
    cases e : h.get? b with
    | none => exact absurd e hn
    | some o => rw [g.ext b o e]; simp)
theorem Grow.of_ext (hs : ∀ b o, K b = some o → h.get? b = some o) (hx : ∀ b o, h.get? b = some o → h'.get? b = some o) : Grow K h K h' where
  ext := hx
  le := fun _ _ e => e
  sub := fun b o e => hx b o (hs b o e)
  fresh := fun _ e _ => e
theorem Grow.refl (hs : ∀ b o, K b = some o → h.get? b = some o) : Grow K h K h := .of_ext hs fun _ _ e => e

noncomputable def Kn.add (K : Kn) (a : Addr) (o : Obj) : Kn := fun b => if b = a then some o else K b
theorem Kn.add_le (hs : ∀ b o, K b = some o → h.get? b = some o) {a : Addr} {o : Obj} (hn : h.get? a = none) : ∀ b o', K b = some o' → K.add a o b = some o' := fun b o' e => by
  unfold Kn.add
  by_cases hb : b = a
  · subst hb; rw [hs _ _ e] at hn; cases hn
  · rw [if_neg hb]; exact e
theorem get?_size (h : Heap) : h.get? h.objs.size = none := by
  cases e : h.get? h.objs.size with
  | none => rfl
  | some o => exact absurd (Heap.lt_size e) (Nat.lt_irrefl _)
/-- a new object, known from now on -/
theorem Grow.new (hs : ∀ b o, K b = some o → h.get? b = some o) (hx : ∀ b o, h.get? b = some o → h'.get? b = some o) {a : Addr} {o : Obj} (hn : h.get? a = none) (ho : h'.get? a = some o) :
    Grow K h (K.add a o) h' where
  ext := hx
  le := Kn.add_le hs hn
  sub := fun b o' e => by
    unfold Kn.add at e
    by_cases hb : b = a
    · rw [if_pos hb] at e; obtain rfl := Option.some.inj e; exact hb ▸ ho
    · rw [if_neg hb] at e; exact hx _ _ (hs _ _ e)
  fresh := fun b e hne => by
    unfold Kn.add
    by_cases hb : b = a
    · subst hb; exact absurd hn hne
    · rw [if_neg hb]; exact e
theorem Kn.add_self (K : Kn) (a : Addr) (o : Obj) : K.add a o a = some o := by simp [Kn.add]

theorem Bound.ext {x : Str} {v : Value} (b : Bound env h x v) (hx : ∀ b o, h.get? b = some o → h'.get? b = some o) : Bound env h' x v :=
  b.imp (fun ⟨e, m, n, hm⟩ => ⟨e, m, n.keeps hx, hm⟩) fun ⟨e, c, hc, hi⟩ => ⟨e, c, hc, hi.keeps hx⟩
theorem MObj.mono {a : Addr} {d : D} (m : MObj W K h a d) (hl : ∀ b o, K b = some o → K' b = some o) (hx : ∀ o, h.get? a = some o → h'.get? a = some o) : MObj W K' h' a d := by
  cases d with
  | list l => obtain ⟨vs, hp, hr⟩ := m; exact ⟨vs, hp.at hx, RepL.mono hl _ _ hr⟩
  | dict ks l => obtain ⟨kvs, ⟨hp, hy⟩, hk, hr⟩ := m; exact ⟨kvs, ⟨(let ⟨o, es, ep, ho, r⟩ := hp; ⟨o, es, ep, hx _ ho, r⟩), hy⟩, hk, RepL.mono hl _ _ hr⟩
  | _ => exact m.elim
theorem LRep.mono {x : Str} {lv : LV} {v : Value} (r : LRep W K μ h x lv v) (hl : ∀ b o, K b = some o → K' b = some o) (hx : ∀ a o, (x, a) ∈ μ → h.get? a = some o → h'.get? a = some o) : LRep W K' μ h' x lv v := by
  cases lv with
  | imm d => exact Rep.mono hl _ _ r
  | mu d => obtain ⟨a, e, hm, mo⟩ := r; exact ⟨a, e, hm, mo.mono hl fun o => hx a o hm⟩

theorem Good.ownLive (G : Good W env K μ ρ h) {b : Addr} (hb : b ∈ own env μ) : ∃ o, h.get? b = some o := by
  unfold own at hb
  rcases List.mem_cons.mp hb with rfl | hb
  · obtain ⟨m, o, _, _, ho, _⟩ := G.ns; exact ⟨o, ho⟩
  · rcases List.mem_append.mp hb with hb | hb
    · obtain ⟨p, hp, rfl⟩ := List.mem_map.mp hb
      obtain ⟨v, o, ho, _⟩ := G.cells p hp
      exact ⟨o, ho⟩
    · obtain ⟨p, hp, rfl⟩ := List.mem_map.mp hb
      exact G.live p hp

theorem Good.grow (G : Good W env K μ ρ h) (g : Grow K h K' h') : Good W env K' μ ρ h' where
  sub := g.sub
  base := fun b o e => g.le b o (G.base b o e)
  nodup := G.nodup
  off := fun b hb => g.fresh b (G.off b hb) (by obtain ⟨o, ho⟩ := G.ownLive hb; rw [ho]; simp)
  live := fun p hp => let ⟨o, ho⟩ := G.live p hp; ⟨o, g.ext _ _ ho⟩
  ns := let ⟨m, hm⟩ := G.ns; ⟨m, hm.keeps g.ext⟩
  cells := fun p hp => let ⟨v, hv⟩ := G.cells p hp; ⟨v, hv.keeps g.ext⟩
  vals := fun x lv e => let ⟨v, hb, hr⟩ := G.vals x lv e; ⟨v, hb.ext g.ext, hr.mono g.le fun a o _ => g.ext a o⟩

theorem Good.weaken {ρ' : Sto} (G : Good W env K μ ρ h) (hs : Sto.Sub ρ' ρ) : Good W env K μ ρ' h :=
  { G with vals := fun x lv e => G.vals x lv (hs.le e) }

theorem Good.baseIn (G : Good W env K μ ρ h) : ∀ b o, W.base.get? b = some o → h.get? b = some o := fun b o e => G.sub b o (G.base b o e)
end

/-! ## The judgements -/
structure Ev (W : Wd) (F : Fc) (ρ : Sto) (e : Expr) (d : D) : Prop where
  run :
    ∀ (s : Shared) (K : Kn) (μ : List (Str × Addr)) (Q E : Value → Shared → Prop), Good W F.env K μ ρ s.heap →
      (∀ v K' h' tk, Grow K s.heap K' h' → Rep W.prog W.w K' d v → Q v { s with heap := h', toks := tk }) →
      wpAny (model W.prog W.w) F.A (eval e F.env) Q E s

/-- the same for a new list or dict that nobody else knows -/
structure EvO (W : Wd) (F : Fc) (ρ : Sto) (e : Expr) (d : D) : Prop where
  run :
    ∀ (s : Shared) (K : Kn) (μ : List (Str × Addr)) (Q E : Value → Shared → Prop), Good W F.env K μ ρ s.heap →
      (∀ a K' h' tk, Grow K s.heap K' h' → s.heap.get? a = none → K' a = none → MObj W K' h' a d → Q (.ref a) { s with heap := h', toks := tk }) →
      wpAny (model W.prog W.w) F.A (eval e F.env) Q E s

/-- a test -/
structure Ts (W : Wd) (F : Fc) (ρ : Sto) (e : Expr) (c : Bool) : Prop where
  run :
    ∀ (s : Shared) (K : Kn) (μ : List (Str × Addr)) (Q : Bool → Shared → Prop) (E : Value → Shared → Prop), Good W F.env K μ ρ s.heap →
      (∀ K' h' tk, Grow K s.heap K' h' → Q c { s with heap := h', toks := tk }) →
      wpAny (model W.prog W.w) F.A (isTrue e F.env (eval e F.env)) Q E s

inductive Fl where
  | next
  | ret (d : D)

structure SGrow (env : Env) (K : Kn) (μ : List (Str × Addr)) (h : Heap) (K' : Kn) (h' : Heap) : Prop where
  ext : ∀ b o, b ∉ own env μ → h.get? b = some o → h'.get? b = some o
  le : ∀ b o, K b = some o → K' b = some o
  sub : ∀ b o, K' b = some o → h'.get? b = some o
  fresh : ∀ b, K b = none → h.get? b ≠ none → b ∉ own env μ → K' b = none

noncomputable def SPost (W : Wd) (env : Env) (K : Kn) (μ : List (Str × Addr)) (s : Shared) (ρ' : Sto) (Q : Flow → Shared → Prop) : Fl → Prop
  | .next => ∀ K' μ' h' tk, SGrow env K μ s.heap K' h' → (∀ p ∈ μ', p.2 ∈ own env μ ∨ s.heap.get? p.2 = none) → Good W env K' μ' ρ' h' → Q .next { s with heap := h', toks := tk }
  | .ret d => ∀ v K' h' tk, SGrow env K μ s.heap K' h' → Rep W.prog W.w K' d v → Q (.ret v) { s with heap := h', toks := tk }

structure Ex (W : Wd) (F : Fc) (ρ : Sto) (st : Stmt) (ρ' : Sto) (fl : Fl) : Prop where
  run :
    ∀ (s : Shared) (K : Kn) (μ : List (Str × Addr)) (Q : Flow → Shared → Prop) (E : Value → Shared → Prop), Good W F.env K μ ρ s.heap →
      SPost W F.env K μ s ρ' Q fl → wpAny (model W.prog W.w) F.A (exec st F.env) Q E s
structure Exs (W : Wd) (F : Fc) (ρ : Sto) (st : List Stmt) (ρ' : Sto) (fl : Fl) : Prop where
  run :
    ∀ (s : Shared) (K : Kn) (μ : List (Str × Addr)) (Q : Flow → Shared → Prop) (E : Value → Shared → Prop), Good W F.env K μ ρ s.heap →
      SPost W F.env K μ s ρ' Q fl → wpAny (model W.prog W.w) F.A (execs st F.env) Q E s

end Mine

namespace Mine

section
variable {W : Wd} {F : Fc} {ρ : Sto}

/-- a tree that gives d and changes nothing that stands -/
noncomputable def Op (W : Wd) (A : Around) (K : Kn) (s : Shared) (t : Sem Value) (d : D) : Prop :=
  ∀ (Q E : Value → Shared → Prop), (∀ v K' h' tk, Grow K s.heap K' h' → Rep W.prog W.w K' d v → Q v { s with heap := h', toks := tk }) → wpAny (model W.prog W.w) A t Q E s

noncomputable def V1 (W : Wd) (F : Fc) (f : Value → Sem Value) (d₁ d : D) : Prop :=
  ∀ (s : Shared) (K : Kn) (v₁ : Value), (∀ b o, K b = some o → s.heap.get? b = some o) → (∀ b o, W.base.get? b = some o → K b = some o) → Rep W.prog W.w K d₁ v₁ → Op W F.A K s (f v₁) d
noncomputable def V2 (W : Wd) (F : Fc) (f : Value → Value → Sem Value) (d₁ d₂ d : D) : Prop :=
  ∀ (s : Shared) (K : Kn) (v₁ v₂ : Value), (∀ b o, K b = some o → s.heap.get? b = some o) → (∀ b o, W.base.get? b = some o → K b = some o) → Rep W.prog W.w K d₁ v₁ → Rep W.prog W.w K d₂ v₂ → Op W F.A K s (f v₁ v₂) d
noncomputable def VT (W : Wd) (F : Fc) (d : D) (c : Bool) : Prop :=
  ∀ (s : Shared) (K : Kn) (v : Value) (Q : Bool → Shared → Prop) (E : Value → Shared → Prop), (∀ b o, K b = some o → s.heap.get? b = some o) → Rep W.prog W.w K d v →
    (∀ h' tk, (∀ b o, s.heap.get? b = some o → h'.get? b = some o) → Q c { s with heap := h', toks := tk }) → wpAny (model W.prog W.w) F.A (truthy v) Q E s

theorem Op.toks {A : Around} {K : Kn} {s : Shared} {d : D} {v : Value} {t : Sem Value} (hs : ∀ b o, K b = some o → s.heap.get? b = some o) (hr : Rep W.prog W.w K d v)
    (h : ∀ (Q E : Value → Shared → Prop), (∀ tk, Q v { s with toks := tk }) → wpAny (model W.prog W.w) A t Q E s) : Op W A K s t d :=
  fun Q E hQ => h Q E fun tk => hQ v K s.heap tk (.refl hs) hr

/-! ### leaves -/
theorem Ev.int {i : Int} {k : Nat} {pos : Pos} : Ev W F ρ (.Constant (.int i) k pos) (.int i) := .mk fun _ K _ _ _ G hQ => wpAny_Constant_int (hQ _ K _ _ (.refl G.sub) ⟨_, rfl⟩)
theorem Ev.str {x : Str} {k : Nat} {pos : Pos} {l : List Nat} (e : x.cps.toList = l) : Ev W F ρ (.Constant (.str x) k pos) (.str l) := .mk
  fun _ K _ _ _ G hQ => Calls.Constant_str (hQ _ K _ _ (.refl G.sub) ⟨_, by rw [← e, ← mkS_of]⟩)
theorem Ev.noneC {k : Nat} {pos : Pos} : Ev W F ρ (.Constant .none k pos) .none := .mk fun s K _ _ _ G hQ => Constant_none (hQ _ K _ s.toks (.refl G.sub) rfl)
theorem Ev.bool {b : Bool} {k : Nat} {pos : Pos} : Ev W F ρ (.Constant (.bool b) k pos) (.bool b) := .mk fun s K _ _ _ G hQ => Constant_bool (hQ _ K _ s.toks (.refl G.sub) rfl)

theorem Bound.load {env : Env} {A : Around} {E : Value → Shared → Prop} {M : Model} {s : Shared} {x : Str} {v : Value} {Q : Value → Shared → Prop} (hk : env.scope.kind = .function) (b : Bound env s.heap x v) (h : Q v s) : wpAny M A (loadName env x) Q E s := by
  rcases b with ⟨e, m, hn, hm⟩ | ⟨e, c, hc, hi⟩
  · exact wpAny_loadName_local hk e hn hm h
  · exact wpAny_loadName_cell hk e hc hi h

theorem Ev.name {x : Str} {pos : Pos} {d : D} (e : ρ.get x = some (.imm d)) (hd : (x == ("__debug__" : Str)) = false := by decide) : Ev W F ρ (.Name x pos) d := .mk fun s K _ _ _ G hQ => by
  obtain ⟨v, hb, hr⟩ := G.vals _ _ e
  exact wpAny_Name (hb.load F.hk (hQ v K s.heap s.toks (.refl G.sub) hr)) hd

/-- a global name -/
theorem load_global {env : Env} {A : Around} {E : Value → Shared → Prop} {M : Model} {s : Shared} {x : Str} {pos : Pos} {v : Value} {Q : Value → Shared → Prop} (hk : env.scope.kind = .function) (hg : env.globals = mainGlobals)
    (hx : env.kindOf x = some .globalImplicit) (hb : ∀ b o, W.base.get? b = some o → s.heap.get? b = some o) (hv : W.mg x = some v) (h : Q v s) (hd : (x == ("__debug__" : Str)) = false) :
    wpAny M A (eval (.Name x pos) env) Q E s :=
  Calls.Name_function_global hk hx (Calls.loadGlobal_global (by rw [hg]; exact W.g.keeps hb) hv h) hd
theorem load_builtin {env : Env} {A : Around} {E : Value → Shared → Prop} {M : Model} {s : Shared} {x : Str} {pos : Pos} {v : Value} {Q : Value → Shared → Prop} (hk : env.scope.kind = .function) (hg : env.globals = mainGlobals) (hbn : env.builtins = builtinsNs)
    (hx : env.kindOf x = some .globalImplicit) (hb : ∀ b o, W.base.get? b = some o → s.heap.get? b = some o) (hm : W.mg x = none) (hv : bootBuiltins x = some v) (hn : x ≠ "__name__") (h : Q v s) (hd : (x == ("__debug__" : Str)) = false) :
    wpAny M A (eval (.Name x pos) env) Q E s :=
  Calls.Name_function_global hk hx (Calls.loadGlobal_builtin (by rw [hg]; exact W.g.keeps hb) hm (by rw [hbn]; exact W.b.keeps hb) ((W.builtins x hn).trans hv) h) hd

theorem Ev.globalInt {x : Str} {pos : Pos} {i : Int} {t : Tok} (hv : W.mg x = some (.int i t)) (hx : F.env.kindOf x = some .globalImplicit) (hd : (x == ("__debug__" : Str)) = false := by decide) : Ev W F ρ (.Name x pos) (.int i) := .mk
  fun s K _ _ _ G hQ => load_global F.hk F.hg hx G.baseIn hv (hQ _ K s.heap s.toks (.refl G.sub) ⟨_, rfl⟩) hd

/-! ### operators -/
theorem Ev.bin {l r : Expr} {op : Operator} {pos : Pos} {d₁ d₂ d : D} (h₁ : Ev W F ρ l d₁) (h₂ : Ev W F ρ r d₂) (ho : V2 W F (binaryOp op) d₁ d₂ d) : Ev W F ρ (.BinOp l op r pos) d := .mk fun s K μ Q E G hQ =>
  wpAny_BinOp (h₁.run s K μ _ _ G fun v₁ K₁ _ _ g₁ r₁ => h₂.run _ K₁ μ _ _ (G.grow g₁) fun v₂ K₂ _ _ g₂ r₂ => ho _ K₂ v₁ v₂ g₂.sub ((G.grow g₁).grow g₂).base (Rep.mono g₂.le _ _ r₁) r₂ _ _ fun v K₃ h₃ tk g₃ r₃ => hQ v K₃ h₃ tk (g₁.trans (g₂.trans g₃)) r₃)
theorem Ev.cmp {l r : Expr} {op : CmpOp} {pos : Pos} {d₁ d₂ d : D} (h₁ : Ev W F ρ l d₁) (h₂ : Ev W F ρ r d₂) (ho : V2 W F (compareOp op) d₁ d₂ d) (hm : behindInMarks op r = false := by with_unfolding_all rfl) : Ev W F ρ (.Compare l [op] [r] pos) d := .mk fun s K μ Q E G hQ =>
  wpAny_Compare1 (h₁.run s K μ _ _ G fun v₁ K₁ _ _ g₁ r₁ => h₂.run _ K₁ μ _ _ (G.grow g₁) fun v₂ K₂ _ _ g₂ r₂ => ho _ K₂ v₁ v₂ g₂.sub ((G.grow g₁).grow g₂).base (Rep.mono g₂.le _ _ r₁) r₂ _ _ fun v K₃ h₃ tk g₃ r₃ => hQ v K₃ h₃ tk (g₁.trans (g₂.trans g₃)) r₃) hm
theorem Ev.un {x : Expr} {op : UnaryOp} {pos : Pos} {d₁ d : D} (h₁ : Ev W F ρ x d₁) (ho : V1 W F (unaryOp op) d₁ d) : Ev W F ρ (.UnaryOp op x pos) d := .mk fun s K μ Q E G hQ =>
  wpAny_UnaryOp (h₁.run s K μ _ _ G fun v₁ K₁ _ _ g₁ r₁ => ho _ K₁ v₁ g₁.sub (G.grow g₁).base r₁ _ _ fun v K₃ h₃ tk g₃ r₃ => hQ v K₃ h₃ tk (g₁.trans g₃) r₃)
theorem Ev.ite {t b o : Expr} {pos : Pos} {c : Bool} {d : D} (ht : Ts W F ρ t c) (h₁ : c = true → Ev W F ρ b d) (h₂ : c = false → Ev W F ρ o d) : Ev W F ρ (.IfExp t b o pos) d := .mk fun s K μ Q E G hQ =>
  wpAny_IfExp (ht.run s K μ _ _ G fun K₁ _ _ g₁ => by
    cases c with
    | true => exact (h₁ rfl).run _ K₁ μ _ _ (G.grow g₁) fun v K₂ h₂ tk g₂ r => hQ v K₂ h₂ tk (g₁.trans g₂) r
    | false => exact (h₂ rfl).run _ K₁ μ _ _ (G.grow g₁) fun v K₂ h₂ tk g₂ r => hQ v K₂ h₂ tk (g₁.trans g₂) r)
theorem Ev.or2 {x y : Expr} {pos : Pos} {d₁ d : D} {c : Bool} (h₁ : Ev W F ρ x d₁) (ht : VT W F d₁ c) (ht' : c = true → d = d₁) (hf : c = false → Ev W F ρ y d) : Ev W F ρ (.BoolOp .Or [x, y] pos) d := .mk fun s K μ Q E G hQ =>
  wpAny_Or2 (h₁.run s K μ _ _ G fun v₁ K₁ _ _ g₁ r₁ => ht _ K₁ v₁ _ _ g₁.sub r₁ fun h₂ tk₂ hx => by
    have g₂ := Grow.of_ext g₁.sub hx
    cases c with
    | true => rw [ht' rfl] at hQ; exact hQ v₁ K₁ h₂ tk₂ (g₁.trans g₂) r₁
    | false => exact (hf rfl).run _ K₁ μ _ _ ((G.grow g₁).grow g₂) fun v K₃ h₃ tk g₃ r => hQ v K₃ h₃ tk ((g₁.trans g₂).trans g₃) r)

/-! ### tests -/
theorem Ts.plain {e : Expr} {d : D} {c : Bool} (h : Ev W F ρ e d) (ht : VT W F d c) (hp : ∀ A E s (Q : Bool → Shared → Prop) (whole : Sem Value), wpAny (model W.prog W.w) A whole (fun v s₁ => wpAny (model W.prog W.w) A (truthy v) Q E s₁) E s → wpAny (model W.prog W.w) A (isTrue e F.env whole) Q E s) : Ts W F ρ e c := .mk
  fun s K μ Q E G hQ => hp _ _ _ _ _ (h.run s K μ _ _ G fun v K₁ _ _ g₁ r₁ => ht _ K₁ v _ _ g₁.sub r₁ fun h₂ tk₂ hx => hQ K₁ h₂ tk₂ (g₁.trans (.of_ext g₁.sub hx)))
theorem VT.bool {b : Bool} : VT W F (.bool b) b := fun s K v Q E hs hr hQ => by
  obtain rfl : v = .bool b := hr
  exact wpAny_truthy_bool (hQ s.heap s.toks fun _ _ e => e)
theorem VT.int {i : Int} : VT W F (.int i) (i != 0) := fun s K v Q E hs hr hQ => by
  obtain ⟨t, rfl⟩ := hr
  exact P.truthy_int (hQ s.heap s.toks fun _ _ e => e)
theorem VT.str {l : List Nat} (hl : l.length ≤ sizeLine) : VT W F (.str l) (!l.isEmpty) := fun s K v Q E hs hr hQ => by
  obtain ⟨t, rfl⟩ := hr
  refine P.truthy_str (by rw [mkS_length]; rw [sizeLine_eq] at hl; omega) ?_
  have : (((mkS l).length : Int) != 0) = !l.isEmpty := by
    rw [mkS_length]; cases l <;> simp; omega
  rw [this]
  exact hQ s.heap _ fun _ _ e => e
theorem VT.tuple {l : List D} (hl : l.length ≤ sizeLine) : VT W F (.tuple l) (!l.isEmpty) := fun s K v Q E hs hr hQ => by
  obtain ⟨a, o, vs, rfl, ho, hc, hd, hr⟩ := hr
  have hlen := hr.length
  refine truthy_tuple (items := vs) ⟨o, hs _ _ ho, hc, hd⟩ (by rw [sizeLine_eq] at hl; simp at hlen; omega) ?_
  have : (!vs.isEmpty) = !l.isEmpty := by
    simp at hlen
    unfold Array.isEmpty
    rw [hlen]; cases l <;> simp
  rw [this]; exact hQ s.heap _ fun _ _ e => e

theorem Ts.cmp {l r : Expr} {op : CmpOp} {pos : Pos} {d₁ d₂ : D} {c : Bool} (h₁ : Ev W F ρ l d₁) (h₂ : Ev W F ρ r d₂) (ho : V2 W F (compareOp op) d₁ d₂ (.bool c)) (hm : behindInMarks op r = false := by with_unfolding_all rfl) : Ts W F ρ (.Compare l [op] [r] pos) c := .mk fun s K μ Q E G hQ =>
  wpAny_isTrue_Compare1 (h₁.run s K μ _ _ G fun v₁ K₁ _ _ g₁ r₁ => h₂.run _ K₁ μ _ _ (G.grow g₁) fun v₂ K₂ _ _ g₂ r₂ => ho _ K₂ v₁ v₂ g₂.sub ((G.grow g₁).grow g₂).base (Rep.mono g₂.le _ _ r₁) r₂ _ _ fun v K₃ h₃ tk g₃ r₃ => by
    obtain rfl : v = .bool c := r₃
    exact wpAny_truthy_bool (hQ K₃ h₃ tk (g₁.trans (g₂.trans g₃)))) hm
theorem Ts.not {x : Expr} {pos : Pos} {c : Bool} (h : Ts W F ρ x c) : Ts W F ρ (.UnaryOp .Not x pos) (!c) := .mk fun s K μ Q E G hQ =>
  wpAny_isTrue_Not (h.run s K μ _ _ G hQ)
theorem Ts.andNil {pos : Pos} : Ts W F ρ (.BoolOp .And [] pos) true := .mk fun s K _ _ _ G hQ => isTrue_and_nil (hQ K s.heap s.toks (.refl G.sub))
theorem Ts.orNil {pos : Pos} : Ts W F ρ (.BoolOp .Or [] pos) false := .mk fun s K _ _ _ G hQ => isTrue_or_nil (hQ K s.heap s.toks (.refl G.sub))
theorem Ts.andF {x : Expr} {rest : List Expr} {pos : Pos} (h : Ts W F ρ x false) : Ts W F ρ (.BoolOp .And (x :: rest) pos) false := .mk fun s K μ Q E G hQ =>
  isTrue_and (h.run s K μ _ _ G fun K' h' tk g => by simpa using hQ K' h' tk g)
theorem Ts.andT {x : Expr} {rest : List Expr} {pos : Pos} {c : Bool} (h : Ts W F ρ x true) (h' : Ts W F ρ (.BoolOp .And rest pos) c) : Ts W F ρ (.BoolOp .And (x :: rest) pos) c := .mk fun s K μ Q E G hQ =>
  isTrue_and (h.run s K μ _ _ G fun K' _ _ g => by rw [if_pos rfl]; exact h'.run _ K' μ _ _ (G.grow g) fun K₂ h₂ tk g₂ => hQ K₂ h₂ tk (g.trans g₂))
theorem Ts.orT {x : Expr} {rest : List Expr} {pos : Pos} (h : Ts W F ρ x true) : Ts W F ρ (.BoolOp .Or (x :: rest) pos) true := .mk fun s K μ Q E G hQ =>
  isTrue_or (h.run s K μ _ _ G fun K' h' tk g => by simpa using hQ K' h' tk g)
theorem Ts.orF {x : Expr} {rest : List Expr} {pos : Pos} {c : Bool} (h : Ts W F ρ x false) (h' : Ts W F ρ (.BoolOp .Or rest pos) c) : Ts W F ρ (.BoolOp .Or (x :: rest) pos) c := .mk fun s K μ Q E G hQ =>
  isTrue_or (h.run s K μ _ _ G fun K' _ _ g => by rw [if_neg (by simp)]; exact h'.run _ K' μ _ _ (G.grow g) fun K₂ h₂ tk g₂ => hQ K₂ h₂ tk (g.trans g₂))
end
end Mine

namespace Mine

section
variable {W : Wd} {F : Fc} {ρ : Sto}

theorem beq_dec {α : Type} [BEq α] [LawfulBEq α] [DecidableEq α] (a b : α) : (a == b) = decide (a = b) := by by_cases h : a = b <;> simp [h]
theorem Fc.unitsLt (F : Fc) : F.A.units < cLine := by have := F.units; omega

/-! ### ints -/
theorem V2.addI {a b : Int} : V2 W F (binaryOp .Add) (.int a) (.int b) (.int (a + b)) := fun s K v₁ v₂ hs _ ⟨_, e₁⟩ ⟨_, e₂⟩ Q E hQ => by
  subst e₁ e₂; exact P.add_int (hQ _ K _ _ (.refl hs) ⟨_, rfl⟩)
theorem V2.subI {a b : Int} : V2 W F (binaryOp .Sub) (.int a) (.int b) (.int (a - b)) := fun s K v₁ v₂ hs _ ⟨_, e₁⟩ ⟨_, e₂⟩ Q E hQ => by
  subst e₁ e₂; exact P.sub_int (hQ _ K _ _ (.refl hs) ⟨_, rfl⟩)
theorem V2.mulI {a b : Int} (h : a.natAbs < 2 ^ 64 ∨ b.natAbs < 2 ^ 64) : V2 W F (binaryOp .Mult) (.int a) (.int b) (.int (a * b)) := fun s K v₁ v₂ hs _ ⟨_, e₁⟩ ⟨_, e₂⟩ Q E hQ => by
  subst e₁ e₂
  exact P.mul_int (hQ _ K _ _ (.refl hs) ⟨_, rfl⟩) (h.elim (fun h => IntMulOk.of_left (PySem.intBits_le_iff.mpr h)) fun h => IntMulOk.of_right (PySem.intBits_le_iff.mpr h))
theorem V2.modI {a b : Int} (h : b ≠ 0) : V2 W F (binaryOp .Mod) (.int a) (.int b) (.int (a.fmod b)) := fun s K v₁ v₂ hs _ ⟨_, e₁⟩ ⟨_, e₂⟩ Q E hQ => by
  subst e₁ e₂; exact mod_int' h (hQ _ K _ _ (.refl hs) ⟨_, rfl⟩)
theorem V1.negI {a : Int} : V1 W F (unaryOp .USub) (.int a) (.int (-a)) := fun s K v₁ hs _ ⟨_, e₁⟩ Q E hQ => by
  subst e₁; exact P.neg_int (hQ _ K _ _ (.refl hs) ⟨_, rfl⟩)
theorem V2.iaddI {a b : Int} : V2 W F (inplaceOp .Add) (.int a) (.int b) (.int (a + b)) := fun s K v₁ v₂ hs _ ⟨_, e₁⟩ ⟨_, e₂⟩ Q E hQ => by
  subst e₁ e₂; exact P.iadd_int (hQ _ K _ _ (.refl hs) ⟨_, rfl⟩)
theorem V2.isubI {a b : Int} : V2 W F (inplaceOp .Sub) (.int a) (.int b) (.int (a - b)) := fun s K v₁ v₂ hs _ ⟨_, e₁⟩ ⟨_, e₂⟩ Q E hQ => by
  subst e₁ e₂; exact P.isub_int (hQ _ K _ _ (.refl hs) ⟨_, rfl⟩)
theorem V2.eqI {a b : Int} : V2 W F (compareOp .Eq) (.int a) (.int b) (.bool (decide (a = b))) := fun s K v₁ v₂ hs _ ⟨_, e₁⟩ ⟨_, e₂⟩ Q E hQ => by
  subst e₁ e₂; exact P.eq_int (hQ _ K s.heap s.toks (.refl hs) (by simp [Rep, beq_dec]))
theorem V2.neI {a b : Int} : V2 W F (compareOp .NotEq) (.int a) (.int b) (.bool (decide (a ≠ b))) := fun s K v₁ v₂ hs _ ⟨_, e₁⟩ ⟨_, e₂⟩ Q E hQ => by
  subst e₁ e₂; exact P.ne_int (hQ _ K s.heap s.toks (.refl hs) (by simp [Rep, bne, beq_dec]))
theorem V2.ltI {a b : Int} : V2 W F (compareOp .Lt) (.int a) (.int b) (.bool (decide (a < b))) := fun s K v₁ v₂ hs _ ⟨_, e₁⟩ ⟨_, e₂⟩ Q E hQ => by
  subst e₁ e₂; exact P.lt_int (hQ _ K s.heap s.toks (.refl hs) rfl)
theorem V2.gtI {a b : Int} : V2 W F (compareOp .Gt) (.int a) (.int b) (.bool (decide (a > b))) := fun s K v₁ v₂ hs _ ⟨_, e₁⟩ ⟨_, e₂⟩ Q E hQ => by
  subst e₁ e₂; exact P.gt_int (hQ _ K s.heap s.toks (.refl hs) rfl)

/-! ### texts -/
theorem mkS_append (a b : List Nat) : mkS a ++ mkS b = mkS (a ++ b) := by
  show Str.append _ _ = _
  simp [mkS, Str.append]
theorem V2.addS {a b : List Nat} (h : a.length + b.length ≤ sizeLine) : V2 W F (binaryOp .Add) (.str a) (.str b) (.str (a ++ b)) := fun s K v₁ v₂ hs _ ⟨t, e₁⟩ ⟨u, e₂⟩ Q E hQ => by
  subst e₁ e₂
  refine P.add_str ?_
  by_cases ha : a = []
  · subst ha
    simp only [mkS_length, List.length_nil, beq_self_eq_true, if_true]
    exact hQ _ K s.heap s.toks (.refl hs) ⟨u, by simp⟩
  · have ha' : ((mkS a).length == 0) = false := by rw [mkS_length]; cases a <;> simp_all
    rw [ha']
    simp only [Bool.false_eq_true, if_false]
    by_cases hb : b = []
    · subst hb
      simp only [mkS_length, List.length_nil, beq_self_eq_true, if_true]
      exact hQ _ K s.heap s.toks (.refl hs) ⟨t, by simp⟩
    · have hb' : ((mkS b).length == 0) = false := by rw [mkS_length]; cases b <;> simp_all
      rw [hb']
      simp only [Bool.false_eq_true, if_false]
      refine ⟨?_, ?_⟩
      · rw [mkS_append, mkS_length, List.length_append]; exact h
      · exact hQ _ K _ _ (.refl hs) ⟨_, by rw [mkS_append]⟩
theorem V2.iaddS {a b : List Nat} (h : a.length + b.length ≤ sizeLine) : V2 W F (inplaceOp .Add) (.str a) (.str b) (.str (a ++ b)) := fun s K v₁ v₂ hs _ ⟨t, e₁⟩ ⟨u, e₂⟩ Q E hQ => by
  subst e₁ e₂
  refine P.iadd_str ?_
  by_cases ha : a = []
  · subst ha
    simp only [mkS_length, List.length_nil, beq_self_eq_true, if_true]
    exact hQ _ K s.heap s.toks (.refl hs) ⟨u, by simp⟩
  · have ha' : ((mkS a).length == 0) = false := by rw [mkS_length]; cases a <;> simp_all
    rw [ha']
    simp only [Bool.false_eq_true, if_false]
    by_cases hb : b = []
    · subst hb
      simp only [mkS_length, List.length_nil, beq_self_eq_true, if_true]
      exact hQ _ K s.heap s.toks (.refl hs) ⟨t, by simp⟩
    · have hb' : ((mkS b).length == 0) = false := by rw [mkS_length]; cases b <;> simp_all
      rw [hb']
      simp only [Bool.false_eq_true, if_false]
      refine ⟨?_, ?_⟩
      · rw [mkS_append, mkS_length, List.length_append]; exact h
      · exact hQ _ K _ _ (.refl hs) ⟨_, by rw [mkS_append]⟩
theorem V2.eqS {a b : List Nat} : V2 W F (compareOp .Eq) (.str a) (.str b) (.bool (decide (a = b))) := fun s K v₁ v₂ hs _ ⟨_, e₁⟩ ⟨_, e₂⟩ Q E hQ => by
  subst e₁ e₂; exact P.eq_str (hQ _ K s.heap s.toks (.refl hs) (by simp [Rep, mkS_cps, beq_dec]))
theorem V2.neS {a b : List Nat} : V2 W F (compareOp .NotEq) (.str a) (.str b) (.bool (decide (a ≠ b))) := fun s K v₁ v₂ hs _ ⟨_, e₁⟩ ⟨_, e₂⟩ Q E hQ => by
  subst e₁ e₂; exact P.ne_str (hQ _ K s.heap s.toks (.refl hs) (by simp [Rep, mkS_cps, bne, beq_dec]))

/-! ### lists -/
theorem V2.addL {a b : List D} (h : a.length + b.length ≤ sizeLine) : V2 W F (binaryOp .Add) (.list a) (.list b) (.list (a ++ b)) := fun s K v₁ v₂ hs _ r₁ r₂ Q E hQ => by
  obtain ⟨l, ⟨cls, dd, data, sl⟩, vs, rfl, ho, hc, ⟨n, hd⟩, hr⟩ := r₁
  obtain ⟨l2, ⟨cls2, dd2, data2, sl2⟩, vs2, rfl, ho2, hc2, ⟨n2, hd2⟩, hr2⟩ := r₂
  simp only at hc hd hc2 hd2
  subst hc hd hc2 hd2
  have e1 := hr.length; have e2 := hr2.length
  simp at e1 e2
  refine concat_meets ⟨_, hs _ _ ho, rfl⟩ ⟨_, hs _ _ ho2, rfl⟩ noFill_list_add seq_list_add PySem.F.slot_list_add PySem.F.entry_list_add (PySem.F.args_list_add_2 _ _) (list_addW l l2 vs vs2 n n2 dd dd2 sl sl2 (by omega)) ⟨hs _ _ ho, hs _ _ ho2, ?_⟩
  have g := Grow.new (K := K) (h := s.heap) (h' := s.heap.push { cls := Value.type "list", data := Data.seq (vs ++ vs2) }) hs (fun b o e => Heap.get?_push_of_some _ e) (get?_size _) (Heap.get?_push_size _ rfl)
  exact hQ _ _ _ _ g ⟨_, _, vs ++ vs2, rfl, Kn.add_self .., rfl, ⟨_, rfl⟩, by
    rw [Array.toList_append]
    exact RepL.append (RepL.mono g.le _ _ hr) (RepL.mono g.le _ _ hr2)⟩

/-! ### dicts -/
theorem size_sys {h : Heap} {m : Str → Option Value} (hn : h.Ns mainGlobals m) : (h.objs.size == sysModules) = false := by
  have := hn.lt
  have e : sysModules < mainGlobals := by decide
  simp only [beq_eq_false_iff_ne, ne_eq]
  intro q
  rw [q] at this
  exact absurd (Nat.lt_trans e this) (Nat.lt_irrefl _)

noncomputable def lookD : List (List Nat) → List D → List Nat → Option D
  | k :: ks, d :: ds, x => if k = x then some d else lookD ks ds x
  | _, _, _ => none

theorem valueAt_cons {K : Type} [DecidableEq K] (k : K) (v : Value) (r : List (K × Value)) (x : K) : valueAt ((k, v) :: r) x = if k = x then some v else valueAt r x := by
  unfold valueAt
  by_cases h : k = x <;> simp [h]

theorem look_rep {K : Kn} : ∀ {ks : List (List Nat)} {ds : List D} {kvs : List (Str × Value)} (x : List Nat), kvs.map (·.1) = ks.map mkS → RepL W.prog W.w K ds (kvs.map (·.2)) →
    match lookD ks ds x with
    | some d => ∃ v, valueAt kvs (mkS x) = some v ∧ Rep W.prog W.w K d v
    | none => valueAt kvs (mkS x) = none
  | [], ds, kvs, x, hk, _ => by
    have : kvs = [] := by simpa using hk
    subst this
    simp [lookD, valueAt]
  | k :: ks, [], kvs, x, hk, hr => by
    have : kvs = [] := by simpa [RepL] using hr
    subst this
    simp [lookD, valueAt]
  | k :: ks, d :: ds, kvs, x, hk, hr => by
    cases kvs with
    | nil => simp at hk
    | cons p r =>
      obtain ⟨pk, pv⟩ := p
      simp only [List.map_cons, List.cons.injEq] at hk
      simp only [List.map_cons, RepL] at hr
      obtain ⟨v, vs', e, h1, h2⟩ := hr
      simp only [List.cons.injEq] at e
      obtain ⟨rfl, rfl⟩ := e
      obtain ⟨rfl, hk⟩ := hk
      simp only [lookD]
      rw [valueAt_cons]
      by_cases hx : k = x
      · subst hx; simp only [if_true]; exact ⟨pv, rfl, h1⟩
      · rw [if_neg hx, if_neg (fun q => hx (mkS_inj q))]
        exact look_rep x hk h2

theorem dictOf_of {h : Heap} {a : Addr} {o : Obj} {kvs : List (Str × Value)} (ho : h.get? a = some o) (hd : o.IsDictOf (strKind W.prog W.w) kvs) : h.DictOf (strKind W.prog W.w) a kvs := Heap.dictOf_iff.mpr ⟨o, ho, hd⟩

theorem V2.inD {x : List Nat} {ks : List (List Nat)} {ds : List D} : V2 W F (compareOp .In) (.str x) (.dict ks ds) (.bool (lookD ks ds x).isSome) := fun s K v₁ v₂ hs _ r₁ r₂ Q E hQ => by
  obtain ⟨t, rfl⟩ := r₁
  obtain ⟨a, o, kvs, rfl, ho, ⟨hd, hy⟩, hk, hr⟩ := r₂
  have hm := (dictOf_of (hs _ _ ho) hd).mapOf
  refine wpAny_in_of (strKind_is W.prog W.w (mkS x) t) hy hm ?_
  refine hQ _ K s.heap _ (.refl hs) ?_
  have := look_rep (W := W) x hk hr
  show Value.bool _ = _
  cases e : lookD ks ds x with
  | none => rw [e] at this; simp [this]
  | some d => rw [e] at this; obtain ⟨v, hv, _⟩ := this; simp [hv]

theorem dict_get {x : List Nat} {ks : List (List Nat)} {ds : List D} {d : D} {s : Shared} {K : Kn} {a : Addr} {kvs : List (Str × Value)} {t : Tok} {A : Around} {E : Value → Shared → Prop} {Q : Value → Shared → Prop} (hm : s.heap.DictOf (strKind W.prog W.w) a kvs) (hk : kvs.map (·.1) = ks.map mkS) (hr : RepL W.prog W.w K ds (kvs.map (·.2)))
    (hx : lookD ks ds x = some d) (hQ : ∀ v, Rep W.prog W.w K d v → Q v { s with toks := s.toks + 1 }) : wpAny (model W.prog W.w) A (getItem (.ref a) (.str (mkS x) t)) Q E s := by
  have := look_rep (W := W) x hk hr
  rw [hx] at this
  obtain ⟨v, hv, hrep⟩ := this
  exact wpAny_getItem_of (strKind_is W.prog W.w (mkS x) t) hm.mapOf hv (hQ v hrep)
end
end Mine

namespace Mine

section
variable {W : Wd} {F : Fc} {ρ : Sto}

/-! ### x[i] -/
theorem subs_ops (slice : Expr) (o i : Value) : ∃ ops, subscripted slice false o i = operate ops (getItem o i) := by
  unfold subscripted
  split
  · exact ⟨_, rfl⟩
  · rename_i h; cases h
  · exact ⟨_, rfl⟩

noncomputable def HasGet (s : Shared) (v : Value) : Prop := ∃ T id, s.TypeIs v T ∧ typeLookup (.type T) "__getitem__" = pure (some (.builtin id))

noncomputable def GI (W : Wd) (F : Fc) (d₁ d₂ d : D) : Prop :=
  ∀ (s : Shared) (K : Kn) (v₁ v₂ : Value), (∀ b o, K b = some o → s.heap.get? b = some o) → Rep W.prog W.w K d₁ v₁ → Rep W.prog W.w K d₂ v₂ → HasGet s v₁ ∧ Op W F.A K s (getItem v₁ v₂) d

theorem tail_get {A : Around} {value slice : Expr} {s : Shared} {o i : Value} {Q E : Value → Shared → Prop} (h : HasGet s o) (hg : wpAny (model W.prog W.w) A (getItem o i) Q E s) : wpAny (model W.prog W.w) A (subscriptTail value slice o i) Q E s := by
  obtain ⟨T, id, hT, hl⟩ := h
  obtain ⟨ops, e⟩ := subs_ops slice o i
  exact tail_any hT hl hg e

theorem Ev.item {value slice : Expr} {pos : Pos} {d₁ d₂ d : D} (h₁ : Ev W F ρ value d₁) (h₂ : Ev W F ρ slice d₂) (hg : GI W F d₁ d₂ d) : Ev W F ρ (.Subscript value slice pos) d := .mk fun s K μ Q E G hQ =>
  Subscript_ (h₁.run s K μ _ _ G fun v₁ K₁ _ _ g₁ r₁ => h₂.run _ K₁ μ _ _ (G.grow g₁) fun v₂ K₂ h₂' tk₂ g₂ r₂ => by
    obtain ⟨hh, hop⟩ := hg { s with heap := h₂', toks := tk₂ } K₂ v₁ v₂ g₂.sub (Rep.mono g₂.le _ _ r₁) r₂
    exact tail_get hh (hop _ _ fun v K₃ h₃ tk g₃ r₃ => hQ v K₃ h₃ tk (g₁.trans (g₂.trans g₃)) r₃))

theorem isTup_of {s : Shared} {a : Addr} {o : Obj} {vs : Array Value} (ho : s.heap.get? a = some o) (hc : o.cls = .type "tuple") (hd : ∃ n, o.data = .seq vs n) : IsTup s.heap a vs := ⟨o, ho, hc, hd⟩
theorem isList_of {s : Shared} {a : Addr} {o : Obj} {vs : Array Value} (ho : s.heap.get? a = some o) (hc : o.cls = .type "list") (hd : ∃ n, o.data = .seq vs n) : s.heap.IsList a vs := ⟨o, ho, hc, hd⟩

theorem GI.str {l : List Nat} {i : Int} {j c : Nat} (hlo : -(2 ^ 63) ≤ i) (hhi : i < 2 ^ 63) (hj : seqIndex? i l.length = some j) (hc : l[j]? = some c) : GI W F (.str l) (.int i) (.str [c]) := fun s K v₁ v₂ hs ⟨t, e₁⟩ ⟨u, e₂⟩ => by
  subst e₁ e₂
  refine ⟨⟨"str", _, typeIs_str _ _ _, PySem.F.slot_str_getitem.lookup⟩, fun Q E hQ => P.getItem_str (i := i) (c := c) ?_ ?_ (hQ _ K s.heap _ (.refl hs) ⟨_, rfl⟩)⟩
  · simp only [Bool.or_eq_false_iff, decide_eq_false_iff_not]; omega
  · rw [mkS_length, hj]; simp [mkS, hc]
theorem GI.tuple {l : List D} {i : Int} {j : Nat} {d : D} (hlo : -(2 ^ 63) ≤ i) (hhi : i < 2 ^ 63) (hj : seqIndex? i l.length = some j) (hc : l[j]? = some d) : GI W F (.tuple l) (.int i) d := fun s K v₁ v₂ hs r₁ ⟨u, e₂⟩ => by
  subst e₂
  obtain ⟨a, o, vs, rfl, ho, hcl, hd, hr⟩ := r₁
  have ht := isTup_of (hs _ _ ho) hcl hd
  obtain ⟨y, hy, hrep⟩ := hr.get hc
  have hl := hr.length
  refine ⟨⟨"tuple", _, ht.typeIs, slot_tuple_getitem.lookup⟩, fun Q E hQ => getItem_tuple ht hlo hhi (by rw [show vs.size = l.length by simpa using hl]; exact hj) (by simpa using hy) (hQ _ K s.heap s.toks (.refl hs) hrep)⟩
theorem GI.list {l : List D} {i : Int} {d : D} (hlo : 0 ≤ i) (hhi : i < 2 ^ 63) (hc : l[i.toNat]? = some d) : GI W F (.list l) (.int i) d := fun s K v₁ v₂ hs r₁ ⟨u, e₂⟩ => by
  subst e₂
  obtain ⟨a, o, vs, rfl, ho, hcl, hd, hr⟩ := r₁
  have ht := isList_of (hs _ _ ho) hcl hd
  obtain ⟨y, hy, hrep⟩ := hr.get hc
  refine ⟨⟨"list", _, ht.typeIs, slot_list_getitem.lookup⟩, fun Q E hQ => wpAny_getItem_list ht hlo hhi (by simpa using hy) (hQ _ K s.heap s.toks (.refl hs) hrep)⟩
theorem GI.dict {ks : List (List Nat)} {ds : List D} {x : List Nat} {d : D} (hx : lookD ks ds x = some d) : GI W F (.dict ks ds) (.str x) d := fun s K v₁ v₂ hs r₁ ⟨u, e₂⟩ => by
  subst e₂
  obtain ⟨a, o, kvs, rfl, ho, ⟨hd, hy⟩, hk, hr⟩ := r₁
  have hm := dictOf_of (W := W) (hs _ _ ho) hd
  exact ⟨⟨"dict", _, hm.mapOf.typeIs, slot_dict_getitem.lookup⟩, fun Q E hQ => dict_get hm hk hr hx fun v hrep => hQ _ K s.heap _ (.refl hs) hrep⟩

/-- x[i], x a list or dict that this frame alone knows -/
noncomputable def MI (W : Wd) (F : Fc) (d₁ d₂ d : D) : Prop :=
  ∀ (s : Shared) (K : Kn) (a : Addr) (v₂ : Value), (∀ b o, K b = some o → s.heap.get? b = some o) → MObj W K s.heap a d₁ → Rep W.prog W.w K d₂ v₂ → HasGet s (.ref a) ∧ Op W F.A K s (getItem (.ref a) v₂) d

theorem Ev.itemM {x : Str} {slice : Expr} {p pos : Pos} {d₁ d₂ d : D} (e : ρ.get x = some (.mu d₁)) (h₂ : Ev W F ρ slice d₂) (hg : MI W F d₁ d₂ d) (hd : (x == ("__debug__" : Str)) = false := by decide) : Ev W F ρ (.Subscript (.Name x p) slice pos) d := .mk fun s K μ Q E G hQ => by
  obtain ⟨v, hb, a, rfl, hm, mo⟩ := G.vals _ _ e
  refine Subscript_ (wpAny_Name (hb.load F.hk (h₂.run s K μ _ _ G fun v₂ K₂ h₂' tk₂ g₂ r₂ => ?_)) hd)
  obtain ⟨hh, hop⟩ := hg { s with heap := h₂', toks := tk₂ } K₂ a v₂ g₂.sub (mo.mono g₂.le fun o => g₂.ext a o) r₂
  exact tail_get hh (hop _ _ fun v K₃ h₃ tk g₃ r₃ => hQ v K₃ h₃ tk (g₂.trans g₃) r₃)

theorem MI.list {l : List D} {i : Int} {d : D} (hlo : 0 ≤ i) (hhi : i < 2 ^ 63) (hc : l[i.toNat]? = some d) : MI W F (.list l) (.int i) d := fun s K a v₂ hs r₁ ⟨u, e₂⟩ => by
  subst e₂
  obtain ⟨vs, hp, hr⟩ := r₁
  obtain ⟨y, hy, hrep⟩ := hr.get hc
  exact ⟨⟨"list", _, hp.isList.typeIs, slot_list_getitem.lookup⟩, fun Q E hQ => wpAny_getItem_list hp.isList hlo hhi (by simpa using hy) (hQ _ K s.heap s.toks (.refl hs) hrep)⟩
theorem MI.dict {ks : List (List Nat)} {ds : List D} {x : List Nat} {d : D} (hx : lookD ks ds x = some d) : MI W F (.dict ks ds) (.str x) d := fun s K a v₂ hs r₁ ⟨u, e₂⟩ => by
  subst e₂
  obtain ⟨kvs, ⟨hm, hy⟩, hk, hr⟩ := r₁
  exact ⟨⟨"dict", _, hm.mapOf.typeIs, slot_dict_getitem.lookup⟩, fun Q E hQ => dict_get hm hk hr hx fun v hrep => hQ _ K s.heap _ (.refl hs) hrep⟩

/-- k in x, x a dict that this frame alone knows -/
theorem Ts.inM {x : Str} {l : Expr} {p pos : Pos} {k : List Nat} {ks : List (List Nat)} {ds : List D} (h₁ : Ev W F ρ l (.str k)) (e : ρ.get x = some (.mu (.dict ks ds))) (hd : (x == ("__debug__" : Str)) = false := by decide) :
    Ts W F ρ (.Compare l [.In] [.Name x p] pos) (lookD ks ds k).isSome := .mk fun s K μ Q E G hQ => by
  refine wpAny_isTrue_Compare1 (h₁.run s K μ _ _ G fun v₁ K₁ h₁' tk₁ g₁ r₁ => ?_) rfl
  obtain ⟨v, hb, a, rfl, hm, mo⟩ := (G.grow g₁).vals _ _ e
  obtain ⟨t, rfl⟩ := r₁
  obtain ⟨kvs, ⟨hdd, hy⟩, hk, hr⟩ := mo
  refine wpAny_Name (hb.load F.hk (wpAny_in_of (strKind_is W.prog W.w (mkS k) t) hy hdd.mapOf ?_)) hd
  have := look_rep (W := W) k hk hr
  have e2 : (valueAt kvs (mkS k)).isSome = (lookD ks ds k).isSome := by
    cases e : lookD ks ds k with
    | none => rw [e] at this; simp [this]
    | some d => rw [e] at this; obtain ⟨v, hv, _⟩ := this; simp [hv]
  rw [e2]
  exact wpAny_truthy_bool (hQ K₁ _ _ (g₁.trans (.refl g₁.sub)))

/-! ### slices -/
noncomputable def EvP (W : Wd) (F : Fc) (ρ : Sto) : Option Expr → Option Int → Prop
  | none, i => i = none
  | some e, none => Ev W F ρ e .none
  | some e, some i => Ev W F ρ e (.int i)

theorem EvP.step {e : Option Expr} {i : Option Int} (h : EvP W F ρ e i) {s : Shared} {K : Kn} {μ : List (Str × Addr)} {Q E : Value → Shared → Prop} (G : Good W F.env K μ ρ s.heap)
    (hQ : ∀ t K' h' tk, Grow K s.heap K' h' → Q (partValue (i.map fun x => (x, t))) { s with heap := h', toks := tk }) : wpAny (model W.prog W.w) F.A (evalPart e F.env) Q E s := by
  cases e with
  | none =>
    simp only [EvP] at h
    subst h
    exact wpAny_pure (hQ 0 K s.heap s.toks (.refl G.sub))
  | some e =>
    rw [evalPart_some]
    cases i with
    | none =>
      exact Ev.run h s K μ _ _ G fun v K' h' tk g r => by
        obtain rfl : v = .none := r
        exact hQ 0 K' h' tk g
    | some i =>
      exact Ev.run h s K μ _ _ G fun v K' h' tk g r => by
        obtain ⟨t, rfl⟩ := r
        exact hQ t K' h' tk g

theorem Ev.sliceS {value : Expr} {lo hi st : Option Expr} {p pos : Pos} {l : List Nat} {i j k : Option Int} {r : List Nat} (h₁ : Ev W F ρ value (.str l)) (hlo : EvP W F ρ lo i) (hhi : EvP W F ρ hi j) (hst : EvP W F ρ st k)
    (hk : (k.getD 1 == 0) = false) (hl : l.length ≤ sizeLine) (hr : r.length ≤ l.length)
    (hx : (if (k.getD 1 == 1 && (Builtin.Str.strSliceIndices i j (k.getD 1) l.length).length == l.length) = true then l else (Builtin.Str.strSliceIndices i j (k.getD 1) l.length).filterMap (l[·]?)) = r) :
    Ev W F ρ (.Subscript value (.Slice lo hi st p) pos) (.str r) := .mk fun s K μ Q E G hQ =>
  Subscript_ (h₁.run s K μ _ _ G fun v₁ K₁ _ _ g₁ r₁ => wpAny_Slice (hlo.step (G.grow g₁) fun t₁ K₂ _ _ g₂ => hhi.step ((G.grow g₁).grow g₂) fun t₂ K₃ _ _ g₃ => hst.step (((G.grow g₁).grow g₂).grow g₃) fun t₃ K₄ h₄ tk₄ g₄ => by
    obtain ⟨t, rfl⟩ := r₁
    have g := g₁.trans (g₂.trans (g₃.trans g₄))
    refine tail_get ⟨"str", _, typeIs_str _ _ _, PySem.F.slot_str_getitem.lookup⟩ (wpAny_getItem_str_slice (l := i.map fun x => (x, t₁)) (u := j.map fun x => (x, t₂)) (st := k.map fun x => (x, t₃)) ⟨_, Heap.get?_push_size _ rfl, rfl, rfl⟩ ?_ ?_)
    · cases k <;> simpa using hk
    · have g' : Grow K s.heap K₄ (h₄.push { cls := .type "slice", data := .fields #[partValue (i.map fun x => (x, t₁)), partValue (j.map fun x => (x, t₂)), partValue (k.map fun x => (x, t₃))] }) := g.trans (.of_ext g₄.sub fun b o e => Heap.get?_push_of_some _ e)
      have e1 : (i.map fun x => (x, t₁)).map (·.1) = i := by cases i <;> rfl
      have e2 : (j.map fun x => (x, t₂)).map (·.1) = j := by cases j <;> rfl
      have e3 : (k.map fun x => (x, t₃)).map (·.1) = k := by cases k <;> rfl
      refine post_val_or_str ?_
      unfold slicePicked
      rw [e1, e2, e3, mkS_length]
      have e4 : (if (k.getD 1 == 1 && (Builtin.Str.strSliceIndices i j (k.getD 1) l.length).length == l.length) = true then mkS l else ⟨((Builtin.Str.strSliceIndices i j (k.getD 1) l.length).filterMap ((mkS l).cps[·]?)).toArray⟩) = mkS r := by
        rw [← hx]
        split
        · rfl
        · simp [mkS]
      rw [e4]
      exact ⟨by rw [mkS_length]; omega, fun t' k => hQ _ K₄ _ _ g' ⟨_, rfl⟩⟩))
end
end Mine

namespace Mine

section
variable {W : Wd} {F : Fc} {ρ : Sto}

/-! ### several expressions -/
structure EvL (W : Wd) (F : Fc) (ρ : Sto) (es : List Expr) (ds : List D) : Prop where
  run :
    ∀ (pos : Pos) (s : Shared) (K : Kn) (μ : List (Str × Addr)) (Q : List Value → Shared → Prop) (E : Value → Shared → Prop), Good W F.env K μ ρ s.heap →
      (∀ vs K' h' tk, Grow K s.heap K' h' → RepL W.prog W.w K' ds vs → Q vs { s with heap := h', toks := tk }) →
      wpAny (model W.prog W.w) F.A (spliced (backTo pos (starEach es F.env))) Q E s

theorem EvL.nil : EvL W F ρ [] [] := .mk fun pos s K μ Q E G hQ => spliced_none (hQ [] K s.heap s.toks (.refl G.sub) rfl)
theorem EvL.cons {e : Expr} {es : List Expr} {d : D} {ds : List D} (h : Ev W F ρ e d) (hs : EvL W F ρ es ds) (he : starEach (e :: es) F.env = (false, eval e F.env) :: starEach es F.env := by rfl) : EvL W F ρ (e :: es) (d :: ds) := .mk fun pos s K μ Q E G hQ =>
  spliced_more (h.run s K μ _ _ G fun v K₁ _ _ g₁ r₁ => hs.run pos _ K₁ μ _ _ (G.grow g₁) fun vs K₂ h₂ tk g₂ r₂ => hQ (v :: vs) K₂ h₂ tk (g₁.trans g₂) ⟨v, vs, rfl, Rep.mono g₂.le _ _ r₁, r₂⟩) he
theorem EvL.starM {x : Str} {p q : Pos} {es : List Expr} {l ds : List D} (e : ρ.get x = some (.mu (.list l))) (hl : l.length ≤ sizeLine) (hs : EvL W F ρ es ds) (hd : (x == ("__debug__" : Str)) = false := by decide) : EvL W F ρ (.Starred (.Name x p) q :: es) (l ++ ds) := .mk fun pos s K μ Q E G hQ => by
  obtain ⟨v, hb, a, rfl, hm, vs, ⟨n, ho⟩, hr⟩ := G.vals _ _ e
  refine items_star (wpAny_Name (hb.load F.hk ?_) hd)
  have hlen := hr.length
  simp at hlen
  unfold StarOf notIterableAtAll
  refine wpAny_bind (wpAny_specialOf (T := "list") ⟨_, ho, rfl⟩ PySem.F.slot_list_iter.lookup (wpAny_pure ⟨rfl, ?_⟩))
  refine wpAny_collect_seq a (.inl rfl) ho rfl rfl (fun h' hk => ?_) (by omega)
  have g := Grow.of_ext (K := K) G.sub hk
  exact hs.run pos _ K μ _ _ (G.grow g) fun us K₂ h₂ tk g₂ r₂ => hQ _ K₂ h₂ tk (g.trans g₂) (RepL.append (RepL.mono g₂.le _ _ hr) r₂)

theorem Ev.tuple {es : List Expr} {k : Nat} {pos : Pos} {ds : List D} (h : EvL W F ρ es ds) (hl : ds.length ≤ sizeLine := by decide) : Ev W F ρ (.Tuple es k pos) (.tuple ds) := .mk fun s K μ Q E G hQ =>
  Tuple_ (h.run pos s K μ _ _ G fun vs K₁ h₁ tk₁ g₁ r₁ => by
    have hlen := r₁.length
    refine wpAny_newObj_type ?_ (by show vs.toArray.size ≤ sizeLine; rw [List.size_toArray]; omega)
    have g₂ := Grow.new (K := K₁) (h := h₁) (h' := h₁.push { cls := .type "tuple", data := .seq vs.toArray }) g₁.sub (fun b o e => Heap.get?_push_of_some _ e) (get?_size _) (Heap.get?_push_size _ rfl)
    exact hQ _ _ _ _ (g₁.trans g₂) ⟨_, _, vs.toArray, rfl, Kn.add_self .., rfl, ⟨_, rfl⟩, by simpa using RepL.mono g₂.le _ _ r₁⟩)

/-- a list display: new, and nobody else knows it -/
theorem EvO.list {es : List Expr} {pos : Pos} {ds : List D} (h : EvL W F ρ es ds) (hl : ds.length ≤ sizeLine := by decide) : EvO W F ρ (.List es pos) (.list ds) := .mk fun s K μ Q E G hQ =>
  List_ (h.run pos s K μ _ _ G fun vs K₁ h₁ tk₁ g₁ r₁ => by
    have hlen := r₁.length
    refine wpAny_newObj_type ?_ (by show vs.toArray.size ≤ sizeLine; rw [List.size_toArray]; omega)
    have hn : h₁.get? h₁.objs.size = none := get?_size _
    have g₂ := Grow.of_ext (K := K₁) (h := h₁) (h' := h₁.push { cls := .type "list", data := .seq vs.toArray }) g₁.sub (fun b o e => Heap.get?_push_of_some _ e)
    refine hQ _ K₁ _ _ (g₁.trans g₂) ?_ ?_ ⟨vs.toArray, ⟨_, Heap.get?_push_size _ rfl⟩, by simpa using r₁⟩
    · cases e : s.heap.get? h₁.objs.size with
      | none => rfl
      | some o => rw [g₁.ext _ _ e] at hn; cases hn
    · cases e : K₁ h₁.objs.size with
      | none => rfl
      | some o => rw [g₁.sub _ _ e] at hn; cases hn)

/-- what nobody else knows may be known from now on -/
theorem MObj.rep {K : Kn} {h : Heap} {a : Addr} {d : D} (m : MObj W K h a d) (hn : K a = none) : ∃ o, h.get? a = some o ∧ ∀ hs : (∀ b o, K b = some o → h.get? b = some o), Rep W.prog W.w (K.add a o) d (.ref a) := by
  cases d with
  | list l =>
    obtain ⟨vs, ⟨n, ho⟩, hr⟩ := m
    refine ⟨_, ho, fun hs => ⟨a, _, vs, rfl, Kn.add_self .., rfl, ⟨n, rfl⟩, RepL.mono ?_ _ _ hr⟩⟩
    intro b o e
    unfold Kn.add
    rw [if_neg (fun q => by rw [q, hn] at e; cases e)]; exact e
  | dict ks l =>
    obtain ⟨kvs, ⟨hd, hy⟩, hk, hr⟩ := m
    obtain ⟨o, ho, hi⟩ := Heap.dictOf_iff.mp hd
    refine ⟨o, ho, fun hs => ⟨a, _, kvs, rfl, Kn.add_self .., ⟨hi, hy⟩, hk, RepL.mono ?_ _ _ hr⟩⟩
    intro b o e
    unfold Kn.add
    rw [if_neg (fun q => by rw [q, hn] at e; cases e)]; exact e
  | _ => exact m.elim
theorem EvO.ev {e : Expr} {d : D} (h : EvO W F ρ e d) : Ev W F ρ e d := .mk fun s K μ Q E G hQ => h.run s K μ _ _ G fun a K₁ h₁ tk₁ g₁ hn hk mo => by
  obtain ⟨o, ho, hr⟩ := mo.rep hk
  refine hQ _ (K₁.add a o) h₁ tk₁ ⟨g₁.ext, fun b o' e => ?_, fun b o' e => ?_, fun b e hb => ?_⟩ (hr g₁.sub)
  · have := g₁.le b o' e
    unfold Kn.add
    rw [if_neg (fun q => by rw [q, hk] at this; cases this)]; exact this
  · unfold Kn.add at e
    by_cases q : b = a
    · rw [if_pos q] at e; obtain rfl := Option.some.inj e; exact q ▸ ho
    · rw [if_neg q] at e; exact g₁.sub _ _ e
  · unfold Kn.add
    rw [if_neg (fun q : b = a => hb (q ▸ hn))]
    exact g₁.fresh b e hb
theorem Ev.list {es : List Expr} {pos : Pos} {ds : List D} (h : EvL W F ρ es ds) (hl : ds.length ≤ sizeLine := by decide) : Ev W F ρ (.List es pos) (.list ds) := (EvO.list h hl).ev

/-! ### dict displays -/
theorem EvO.dict0 {pos : Pos} : EvO W F ρ (.Dict [] [] pos) (.dict [] []) := .mk fun s K μ Q E G hQ => by
  refine wpAny_Dict_empty ?_
  have hn : s.heap.get? s.heap.objs.size = none := get?_size _
  refine hQ _ K _ s.toks (.of_ext G.sub fun b o e => Heap.get?_push_of_some _ e) hn ?_ ⟨[], ⟨⟨_, #[], 0, Heap.get?_push_size _ rfl, ⟨rfl, rfl, rfl⟩, rfl, by intro e he; simp at he, .nil, by simp⟩, size_sys (W.g.keeps G.baseIn)⟩, rfl, rfl⟩
  cases e : K s.heap.objs.size with
  | none => rfl
  | some o => rw [G.sub _ _ e] at hn; cases hn

/-- keys and values of a display, in turn -/
structure EvD (W : Wd) (F : Fc) (ρ : Sto) (ks : List (Option Expr)) (vs : List Expr) (xs : List (List Nat)) (ds : List D) : Prop where
  run :
    ∀ (pos : Pos) (s : Shared) (K : Kn) (μ : List (Str × Addr)) (Q : List (Value × Value) → Shared → Prop) (E : Value → Shared → Prop), Good W F.env K μ ρ s.heap →
      (∀ kvs K' h' tk, Grow K s.heap K' h' → Carries (strKind W.prog W.w) kvs ((xs.map mkS).zip (kvs.map (·.2))) → RepL W.prog W.w K' ds (kvs.map (·.2)) → kvs.length = xs.length → Q kvs { s with heap := h', toks := tk }) →
      wpAny (model W.prog W.w) F.A (evalPairs (pairTrees ks vs F.env pos)) Q E s
theorem EvD.nil : EvD W F ρ [] [] [] [] := .mk fun pos s K μ Q E G hQ => pairTrees_nil_walk (hQ [] K s.heap s.toks (.refl G.sub) (by simp [Carries]) rfl rfl)
theorem EvD.cons {k v : Expr} {ks : List (Option Expr)} {vs : List Expr} {x : List Nat} {xs : List (List Nat)} {d : D} {ds : List D} (hk : Ev W F ρ k (.str x)) (hv : Ev W F ρ v d) (h : EvD W F ρ ks vs xs ds) : EvD W F ρ (some k :: ks) (v :: vs) (x :: xs) (d :: ds) := .mk fun pos s K μ Q E G hQ =>
  pairTrees_cons_walk (hk.run s K μ _ _ G fun kv K₁ _ _ g₁ r₁ => hv.run _ K₁ μ _ _ (G.grow g₁) fun vv K₂ _ _ g₂ r₂ => h.run pos _ K₂ μ _ _ ((G.grow g₁).grow g₂) fun kvs K₃ h₃ tk g₃ hc r₃ hl => by
    obtain ⟨t, rfl⟩ := r₁
    exact hQ _ K₃ h₃ tk (g₁.trans (g₂.trans g₃)) ⟨strKind_is _ _ _ _, rfl, hc⟩ ⟨vv, _, rfl, Rep.mono g₃.le _ _ r₂, r₃⟩ (by simp [hl]))

theorem map_fst_zip' {α β : Type} : ∀ {l : List α} {m : List β}, l.length = m.length → (l.zip m).map (·.1) = l
  | [], [], _ => rfl
  | a :: l, b :: m, h => by simp at h; simp [map_fst_zip' h]
theorem map_snd_zip' {α β : Type} : ∀ {l : List α} {m : List β}, l.length = m.length → (l.zip m).map (·.2) = m
  | [], [], _ => rfl
  | a :: l, b :: m, h => by simp at h; simp [map_snd_zip' h]

theorem EvO.dict {ks : List (Option Expr)} {vs : List Expr} {pos : Pos} {xs : List (List Nat)} {ds : List D} (h : EvD W F ρ ks vs xs ds) (hx : xs.Nodup) (hall : ks.all (·.isSome) = true := by rfl) (hl : ks.length = vs.length := by rfl) (h0 : ks ≠ [] := by simp) (hlen : ks.length ≤ 15 := by decide) : EvO W F ρ (.Dict ks vs pos) (.dict xs ds) := .mk fun s K μ Q E G hQ => by
  refine wpAny_Dict_walk (knd := strKind W.prog W.w) hall hl h0 hlen ?_
  have hn : s.heap.get? s.heap.objs.size = none := get?_size _
  have hKn : K s.heap.objs.size = none := by
    cases e : K s.heap.objs.size with
    | none => rfl
    | some o => rw [G.sub _ _ e] at hn; cases hn
  have g₀ := Grow.of_ext (K := K) (h := s.heap) (h' := s.heap.push { cls := .type "dict", data := .dict #[] }) G.sub (fun b o e => Heap.get?_push_of_some _ e)
  have hp : (s.heap.push { cls := .type "dict", data := .dict #[] }).get? s.heap.objs.size = some { cls := .type "dict", data := .dict #[] } := Heap.get?_push_size _ rfl
  refine h.run pos _ K μ _ _ (G.grow g₀) fun kvs K₁ h₁ tk₁ g₁ hc hr hlen' => ⟨_, hc, ?_, fun h' hd hs => ?_⟩
  · exact ⟨_, #[], 0, g₁.ext _ _ hp, ⟨rfl, rfl, rfl⟩, rfl, by intro e he; simp at he, .nil, by simp⟩
  · have e1 : ((xs.map mkS).zip (kvs.map (·.2))).map (·.1) = xs.map mkS := map_fst_zip' (by simp [hlen'])
    have e2 : ((xs.map mkS).zip (kvs.map (·.2))).map (·.2) = kvs.map (·.2) := map_snd_zip' (by simp [hlen'])
    have hnd : (((xs.map mkS).zip (kvs.map (·.2))).map (·.1)).Nodup := by
      rw [e1]
      exact List.Pairwise.map _ (fun a b hab q => hab (mkS_inj q)) hx
    rw [merged_nil_of_nodup _ hnd] at hd
    have hK1 : K₁ s.heap.objs.size = none := g₁.fresh _ hKn (by rw [hp]; simp)
    have g₂ : Grow K s.heap K₁ h' := by
      refine ⟨fun b o e => ?_, fun b o e => g₁.le b o e, fun b o e => ?_, fun b e hb => ?_⟩
      · exact (hs.2 b fun q => by rw [q, hn] at e; cases e).trans (g₁.ext b o (g₀.ext b o e))
      · exact (hs.2 b fun q => by rw [q, hK1] at e; cases e).trans (g₁.sub b o e)
      · exact g₁.fresh b e (by
          cases q : s.heap.get? b with
          | none => exact absurd q hb
          | some o => rw [g₀.ext b o q]; simp)
    exact hQ _ K₁ h' _ g₂ hn hK1 ⟨_, ⟨hd, size_sys (W.g.keeps G.baseIn)⟩, e1, by rw [e2]; exact hr⟩
theorem Ev.dict {ks : List (Option Expr)} {vs : List Expr} {pos : Pos} {xs : List (List Nat)} {ds : List D} (h : EvD W F ρ ks vs xs ds) (hx : xs.Nodup) (hall : ks.all (·.isSome) = true := by rfl) (hl : ks.length = vs.length := by rfl) (h0 : ks ≠ [] := by simp) (hlen : ks.length ≤ 15 := by decide) : Ev W F ρ (.Dict ks vs pos) (.dict xs ds) :=
  (EvO.dict h hx hall hl h0 hlen).ev

/-! ### calls of the text's own functions -/
structure FnAt (W : Wd) (f : Str) (a : Addr) (o : Obj) (fd : FuncData) : Prop where
  bound : W.mg f = some (.ref a)
  obj : W.base.get? a = some o
  data : o.data = .func fd

noncomputable def CallOK (W : Wd) (n : Nat) (f : Str) (args : List D) (d : D) : Prop :=
  ∃ a o fd, FnAt W f a o fd ∧ ∀ (A : Around) (s : Shared) (K : Kn) (vs : List Value) (Q E : Value → Shared → Prop), A.handled = none → A.depth + n < recursionLimit → A.units + 10 * n + 10 < cLine →
    (∀ b o, K b = some o → s.heap.get? b = some o) → (∀ b o, W.base.get? b = some o → K b = some o) → RepL W.prog W.w K args vs →
    (∀ v K' h' tk, Grow K s.heap K' h' → Rep W.prog W.w K' d v → Q v { s with heap := h', toks := tk }) → wpAny (model W.prog W.w) A (call (.ref a) vs) Q E s

theorem Ev.call {f : Str} {p pos : Pos} {e : Expr} {es : List Expr} {ds : List D} {d : D} (ha : EvL W F ρ (e :: es) ds) (hc : CallOK W F.lvl f ds d)
    (hx : F.env.kindOf f = some .globalImplicit) (hd : (f == ("__debug__" : Str)) = false := by decide)
    (he : starEach (e :: es) F.env = (false, eval e F.env) :: starEach es F.env := by rfl) : Ev W F ρ (.Call (.Name f p) (e :: es) [] pos) d := .mk fun s K μ Q E G hQ => by
  obtain ⟨a, o, fd, hf, hcall⟩ := hc
  refine Call_ (load_global (W := W) F.hk F.hg hx G.baseIn hf.bound ?_ hd)
  refine callWith_def hf.data (ha.run pos s K μ _ _ G fun vs K₁ h₁ tk₁ g₁ r₁ => ⟨?_, ?_⟩) he
  · exact (G.grow g₁).baseIn _ _ hf.obj
  · exact hcall F.A _ K₁ vs _ _ F.hh F.room F.units g₁.sub (G.grow g₁).base r₁ fun v K₂ h₂ tk g₂ r₂ => hQ v K₂ h₂ tk (g₁.trans g₂) r₂

/-! ### built-ins -/
theorem Ev.builtin1 {x : Str} {id : String} {p pos : Pos} {e : Expr} {d₁ d : D} (h₁ : Ev W F ρ e d₁) (hv : V1 W F (fun v => PySem.call (.builtin id) [v]) d₁ d) (hb : bootBuiltins x = some (.builtin id)) (hm : W.mg x = Option.none) (hn : x ≠ "__name__")
    (hx : F.env.kindOf x = some .globalImplicit) (hd : (x == ("__debug__" : Str)) = false := by decide) (he : starEach [e] F.env = (false, eval e F.env) :: starEach [] F.env := by rfl) : Ev W F ρ (.Call (.Name x p) [e] [] pos) d := .mk fun s K μ Q E G hQ =>
  Call_ (load_builtin (W := W) F.hk F.hg F.hb hx G.baseIn hm hb hn (PyProof.Rows.callWith_builtin1 (spliced_more (h₁.run s K μ _ _ G fun v K₁ _ _ g₁ r₁ => spliced_none (hv _ K₁ v g₁.sub (G.grow g₁).base r₁ _ _ fun v' K₂ h₂ tk g₂ r₂ => hQ v' K₂ h₂ tk (g₁.trans g₂) r₂)) he) he) hd)
theorem Ev.builtin2 {x : Str} {id : String} {p pos : Pos} {e e' : Expr} {d₁ d₂ d : D} (h₁ : Ev W F ρ e d₁) (h₂ : Ev W F ρ e' d₂) (hv : V2 W F (fun v v' => PySem.call (.builtin id) [v, v']) d₁ d₂ d) (hb : bootBuiltins x = some (.builtin id)) (hm : W.mg x = Option.none) (hn : x ≠ "__name__")
    (hx : F.env.kindOf x = some .globalImplicit) (hd : (x == ("__debug__" : Str)) = false := by decide) (he : starEach [e, e'] F.env = (false, eval e F.env) :: starEach [e'] F.env := by rfl) (he' : starEach [e'] F.env = (false, eval e' F.env) :: starEach [] F.env := by rfl) : Ev W F ρ (.Call (.Name x p) [e, e'] [] pos) d := .mk fun s K μ Q E G hQ =>
  Call_ (load_builtin (W := W) F.hk F.hg F.hb hx G.baseIn hm hb hn (PyProof.Rows.callWith_builtin1 (spliced_more (h₁.run s K μ _ _ G fun v K₁ _ _ g₁ r₁ => spliced_more (h₂.run _ K₁ μ _ _ (G.grow g₁) fun v₂ K₂ _ _ g₂ r₂ => spliced_none (hv _ K₂ v v₂ g₂.sub ((G.grow g₁).grow g₂).base (Rep.mono g₂.le _ _ r₁) r₂ _ _ fun v' K₃ h₃ tk g₃ r₃ => hQ v' K₃ h₃ tk (g₁.trans (g₂.trans g₃)) r₃)) he') he) he (by rw [he']; rfl)) hd)

theorem V1.len {l : List Nat} (h : l.length ≤ sizeLine) : V1 W F (fun v => PySem.call (.builtin "len") [v]) (.str l) (.int l.length) := fun s K v hs _ r Q E hQ => by
  obtain ⟨t, rfl⟩ := r
  exact P.len_str (by rw [mkS_length]; rw [sizeLine_eq] at h; omega) (by rw [mkS_length]; exact hQ _ K s.heap _ (.refl hs) ⟨_, rfl⟩)
theorem V1.lenL {l : List D} (h : l.length ≤ sizeLine) : V1 W F (fun v => PySem.call (.builtin "len") [v]) (.list l) (.int l.length) := fun s K v hs _ r Q E hQ => by
  obtain ⟨a, o, vs, rfl, ho, hc, hd, hr⟩ := r
  have hlen := hr.length
  simp at hlen
  refine len_list (items := vs) ⟨o, hs _ _ ho, hc, hd⟩ (by rw [sizeLine_eq] at h; omega) ?_
  rw [hlen]
  exact hQ _ K s.heap _ (.refl hs) ⟨_, rfl⟩
theorem V1.abs {i : Int} : V1 W F (fun v => PySem.call (.builtin "abs") [v]) (.int i) (.int (i.natAbs)) := fun s K v hs _ r Q E hQ => by
  obtain ⟨t, rfl⟩ := r
  refine call_abs_int fun u tk => ?_
  have : (if i < 0 then -i else i) = (i.natAbs : Int) := by split <;> omega
  rw [this]
  exact hQ _ K s.heap _ (.refl hs) ⟨_, rfl⟩
theorem V2.min {i j : Int} : V2 W F (fun v v' => PySem.call (.builtin "min") [v, v']) (.int i) (.int j) (.int (if j < i then j else i)) := fun s K v v' hs _ r r' Q E hQ => by
  obtain ⟨t, rfl⟩ := r
  obtain ⟨t', rfl⟩ := r'
  refine min_two_ints F.hh fun h' tk hk => ?_
  exact hQ _ K h' _ (.of_ext hs hk) (by split <;> exact ⟨_, rfl⟩)
end
end Mine

namespace Mine

section
variable {W : Wd} {F : Fc} {ρ : Sto}

/-! ### lists of ints, of texts -/
theorem RepL.ints {K : Kn} : ∀ {ns : List Int} {vs : List Value}, RepL W.prog W.w K (ns.map .int) vs → ∃ xs : List (Int × Tok), vs = xs.map (fun p => .int p.1 p.2) ∧ xs.map (·.1) = ns
  | [], vs, h => ⟨[], by simpa [RepL] using h, rfl⟩
  | n :: ns, vs, h => by
    simp only [List.map_cons, RepL] at h
    obtain ⟨v, vs', rfl, ⟨t, rfl⟩, h2⟩ := h
    obtain ⟨xs, rfl, rfl⟩ := RepL.ints h2
    exact ⟨(n, t) :: xs, rfl, rfl⟩
theorem RepL.strs {K : Kn} : ∀ {ns : List (List Nat)} {vs : List Value}, RepL W.prog W.w K (ns.map .str) vs → ∃ xs : List (Str × Tok), vs = strValues xs ∧ xs.map (·.1) = ns.map mkS
  | [], vs, h => ⟨[], by simpa [RepL, strValues] using h, rfl⟩
  | n :: ns, vs, h => by
    simp only [List.map_cons, RepL] at h
    obtain ⟨v, vs', rfl, ⟨t, rfl⟩, h2⟩ := h
    obtain ⟨xs, rfl, hx⟩ := RepL.strs h2
    exact ⟨(mkS n, t) :: xs, rfl, by simp [hx]⟩

theorem V1.sum {ns : List Int} : V1 W F (fun v => PySem.call (.builtin "sum") [v]) (.list (ns.map .int)) (.int ns.sum) := fun s K v hs _ r Q E hQ => by
  obtain ⟨a, o, vs, rfl, ho, hc, hd, hr⟩ := r
  obtain ⟨xs, hx, hn⟩ := hr.ints
  have e : vs = intItems xs.toArray := by
    apply Array.ext'
    rw [hx]; simp [intItems]
  subst e
  refine sum_intListG F.hh (isList_of (hs _ _ ho) hc hd) fun h' tk t' hk => ?_
  have : preSum (numAt xs.toArray) xs.toArray.size = ns.sum := by
    rw [preSum_eq, List.take_of_length_le (by simp)]
    simp [hn]
  rw [this]
  exact hQ _ K h' _ (.of_ext hs hk) ⟨_, rfl⟩

/-- isinstance(e, tuple), e an int -/
theorem Ts.isiTuple {x y : Str} {p p' pos : Pos} {e : Expr} {i : Int} (h₁ : Ev W F ρ e (.int i)) (hb : bootBuiltins x = some (.builtin "isinstance")) (hm : W.mg x = none) (hn : x ≠ "__name__") (hx : F.env.kindOf x = some .globalImplicit)
    (hb' : bootBuiltins y = some (.type "tuple")) (hm' : W.mg y = none) (hn' : y ≠ "__name__") (hx' : F.env.kindOf y = some .globalImplicit)
    (hd : (x == ("__debug__" : Str)) = false := by decide) (hd' : (y == ("__debug__" : Str)) = false := by decide) (he : starEach [e, .Name y p'] F.env = (false, eval e F.env) :: starEach [.Name y p'] F.env := by rfl) :
    Ts W F ρ (.Call (.Name x p) [e, .Name y p'] [] pos) false := .mk fun s K μ Q E G hQ =>
  isTrue_plain (Call_ (load_builtin (W := W) F.hk F.hg F.hb hx G.baseIn hm hb hn (PyProof.Rows.callWith_builtin1 (spliced_more (h₁.run s K μ _ _ G fun v K₁ h₁' tk₁ g₁ r₁ =>
    spliced_more (load_builtin (W := W) F.hk F.hg F.hb hx' (G.grow g₁).baseIn hm' hb' hn' (spliced_none (by
      obtain ⟨t, rfl⟩ := r₁
      exact IsiPair.int_tuple (wpAny_truthy_bool (hQ K₁ h₁' _ g₁)))) hd')) he) he) hd))

/-! ### methods of texts -/
theorem Ev.lower {o : Expr} {name : Str} {apos pos : Pos} {l r : List Nat} (hn : name = "lower") (h : Ev W F ρ o (.str l)) (hr : Txt.lower (mkS l) = mkS r) (hl : r.length ≤ sizeLine)
    (hbase : attributeBase o name F.env (eval o F.env) = eval o F.env := by rfl) (hline : (apos.endLine == pos.line) = true := by rfl) : Ev W F ρ (.Call (.Attribute o name apos) [] [] pos) (.str r) := .mk fun s K μ Q E G hQ => by
  subst hn
  refine Call_method0 hbase hline (h.run s K μ _ _ G fun v K₁ h₁ tk₁ g₁ r₁ => ?_)
  obtain ⟨t, rfl⟩ := r₁
  refine SB.lower (by rw [hr, mkS_length]; unfold Builtin.Str.tooLong; simp; exact hl) ?_
  rw [hr]
  exact hQ _ K₁ h₁ _ g₁ ⟨_, rfl⟩
theorem Ev.upper {o : Expr} {name : Str} {apos pos : Pos} {l r : List Nat} (hn : name = "upper") (h : Ev W F ρ o (.str l)) (hr : Txt.upper (mkS l) = mkS r) (hl : r.length ≤ sizeLine)
    (hbase : attributeBase o name F.env (eval o F.env) = eval o F.env := by rfl) (hline : (apos.endLine == pos.line) = true := by rfl) : Ev W F ρ (.Call (.Attribute o name apos) [] [] pos) (.str r) := .mk fun s K μ Q E G hQ => by
  subst hn
  refine Call_method0 hbase hline (h.run s K μ _ _ G fun v K₁ h₁ tk₁ g₁ r₁ => ?_)
  obtain ⟨t, rfl⟩ := r₁
  refine SB.upper (by rw [hr, mkS_length]; unfold Builtin.Str.tooLong; simp; exact hl) ?_
  rw [hr]
  exact hQ _ K₁ h₁ _ g₁ ⟨_, rfl⟩
theorem Ev.count {o e : Expr} {name : Str} {apos pos : Pos} {l y : List Nat} (hn : name = "count") (h : Ev W F ρ o (.str l)) (h' : Ev W F ρ e (.str y))
    (hbase : attributeBase o name F.env (eval o F.env) = eval o F.env := by rfl) (hs : starEach [e] F.env = [(false, eval e F.env)] := by rfl) (hline : (apos.endLine == pos.line) = true := by rfl) : Ev W F ρ (.Call (.Attribute o name apos) [e] [] pos) (.int (Txt.count (mkS l) (mkS y))) := .mk fun s K μ Q E G hQ => by
  subst hn
  refine Call_method1 hbase hs hline (h.run s K μ _ _ G fun v K₁ h₁ tk₁ g₁ r₁ => ?_)
  obtain ⟨t, rfl⟩ := r₁
  refine SB.count (h'.run _ K₁ μ _ _ (G.grow g₁) fun v₂ K₂ h₂ tk₂ g₂ r₂ => ?_)
  obtain ⟨u, rfl⟩ := r₂
  exact ⟨_, _, rfl, hQ _ K₂ h₂ _ (g₁.trans g₂) ⟨_, rfl⟩⟩
theorem Ev.joinL {o e : Expr} {name : Str} {apos pos : Pos} {l : List Nat} {ts : List (List Nat)} {r : List Nat} (hn : name = "join") (h : Ev W F ρ o (.str l)) (h' : Ev W F ρ e (.list (ts.map .str))) (hok : JoinOk (mkS l) (ts.map mkS) = true) (hr : Txt.join (mkS l) (ts.map mkS) = mkS r)
    (hbase : attributeBase o name F.env (eval o F.env) = eval o F.env := by rfl) (hs : starEach [e] F.env = [(false, eval e F.env)] := by rfl) (hline : (apos.endLine == pos.line) = true := by rfl) : Ev W F ρ (.Call (.Attribute o name apos) [e] [] pos) (.str r) := .mk fun s K μ Q E G hQ => by
  subst hn
  refine Call_method1 hbase hs hline (h.run s K μ _ _ G fun v K₁ h₁ tk₁ g₁ r₁ => ?_)
  obtain ⟨t, rfl⟩ := r₁
  refine SB.join (h'.run _ K₁ μ _ _ (G.grow g₁) fun v₂ K₂ h₂ tk₂ g₂ r₂ => ?_)
  obtain ⟨a, ob, vs, rfl, ho, hc, hd, hrep⟩ := r₂
  obtain ⟨xs, hx, hxs⟩ := hrep.strs
  refine ⟨a, xs, rfl, ?_, _, hxs, hok, fun t' k => ?_⟩
  · rw [← hx]; exact ⟨ob, g₂.sub _ _ ho, hc, by simpa using hd⟩
  · rw [hr]; exact hQ _ K₂ h₂ _ (g₁.trans g₂) ⟨_, rfl⟩

/-- sep.join(x.split(y)) -/
noncomputable def glueSplit (sep x y : List Nat) : List Nat := (Txt.join (mkS sep) (Txt.split (mkS x) (mkS y))).cps.toList
theorem Ev.joinSplit {o e e' : Expr} {name name' : Str} {apos pos apos' pos' : Pos} {sep x y : List Nat} (hn : name = "join") (hn' : name' = "split") (h : Ev W F ρ o (.str sep)) (h₁ : Ev W F ρ e (.str x)) (h₂ : Ev W F ρ e' (.str y))
    (hy : y ≠ []) (hx : x.length ≤ sizeLine) (hp : (Builtin.Str.partsBetween (mkS x) (Builtin.Str.occurrences (mkS x) (mkS y) 0 (mkS x).length ((mkS x).length + 1)) (mkS y).length).length ≤ sizeLine) (hok : JoinOk (mkS sep) (Txt.split (mkS x) (mkS y)) = true)
    (hbase : attributeBase o name F.env (eval o F.env) = eval o F.env := by rfl) (hs : ∀ c, starEach [.Call (.Attribute e name' apos') [e'] [] c] F.env = [(false, eval (.Call (.Attribute e name' apos') [e'] [] c) F.env)] := by intro _; rfl) (hline : (apos.endLine == pos.line) = true := by rfl)
    (hbase' : attributeBase e name' F.env (eval e F.env) = eval e F.env := by rfl) (hs' : starEach [e'] F.env = [(false, eval e' F.env)] := by rfl) (hline' : (apos'.endLine == pos'.line) = true := by rfl) :
    Ev W F ρ (.Call (.Attribute o name apos) [.Call (.Attribute e name' apos') [e'] [] pos'] [] pos) (.str (glueSplit sep x y)) := .mk fun s K μ Q E G hQ => by
  subst hn hn'
  refine Call_method1 hbase (hs _) hline (h.run s K μ _ _ G fun v K₁ h₁' tk₁ g₁ r₁ => ?_)
  obtain ⟨t, rfl⟩ := r₁
  refine SB.join (Call_method1 hbase' hs' hline' (h₁.run _ K₁ μ _ _ (G.grow g₁) fun v₂ K₂ h₂' tk₂ g₂ r₂ => ?_))
  obtain ⟨t₂, rfl⟩ := r₂
  refine ⟨"str", _, PySem.F.plainAttrs_str, PySem.F.slot_str_split, PySem.F.type_str_split, typeIs_str _ _ _, (fun _ e => nomatch e), ?_⟩
  refine Calls.callWith_builtin rfl (Calls.evalArgs_plain (Calls.spliced_cons (h₂.run _ K₂ μ _ _ ((G.grow g₁).grow g₂) fun v₃ K₃ h₃ tk₃ g₃ r₃ => Calls.spliced_nil ?_)))
  obtain ⟨t₃, rfl⟩ := r₃
  refine SCH.split1 (P := fun h' => ∀ b ob, h₃.get? b = some ob → h'.get? b = some ob) (fun h' ob hp b o e => Heap.get?_push_of_some _ (hp b o e)) (fun _ _ e => e) (by rw [mkS_length]; cases y <;> simp_all) (fun D l h' k hl hP hD => ?_) (by rw [mkS_length]; exact hx) hp
  refine ⟨D, l, rfl, hD, _, hl, hok, fun t' k => ?_⟩
  exact hQ _ K₃ h' _ (g₁.trans (g₂.trans (g₃.trans (.of_ext g₃.sub hP)))) ⟨_, by unfold glueSplit; rw [← mkS_of]⟩
end
end Mine

namespace Mine

section
variable {W : Wd} {F : Fc} {ρ : Sto}

/-! ### slices of tuples and lists -/
theorem RepL.drop {K : Kn} : ∀ {ds : List D} {vs : List Value} (n : Nat), RepL W.prog W.w K ds vs → RepL W.prog W.w K (ds.drop n) (vs.drop n)
  | ds, vs, 0, h => by simpa using h
  | [], vs, n + 1, h => by simp only [RepL] at h; subst h; simp [RepL]
  | d :: ds, vs, n + 1, h => by
    simp only [RepL] at h
    obtain ⟨v, vs', rfl, _, h2⟩ := h
    simpa using RepL.drop n h2
theorem RepL.take {K : Kn} : ∀ {ds : List D} {vs : List Value} (n : Nat), RepL W.prog W.w K ds vs → RepL W.prog W.w K (ds.take n) (vs.take n)
  | ds, vs, 0, h => by simp [RepL]
  | [], vs, n + 1, h => by simp only [RepL] at h; subst h; simp [RepL]
  | d :: ds, vs, n + 1, h => by
    simp only [RepL] at h
    obtain ⟨v, vs', rfl, h1, h2⟩ := h
    simp only [List.take_succ_cons, RepL]
    exact ⟨v, _, rfl, h1, RepL.take n h2⟩

/-- t[a:], t a tuple -/
theorem Ev.tupFrom {value lo : Expr} {p pos : Pos} {l : List D} {a : Nat} (h : Ev W F ρ value (.tuple l)) (hlo : Ev W F ρ lo (.int a)) (h1 : 1 ≤ a) (ha : a ≤ l.length) (hl : l.length ≤ sizeLine) : Ev W F ρ (.Subscript value (.Slice (some lo) none none p) pos) (.tuple (l.drop a)) := .mk fun s K μ Q E G hQ => by
    refine Subscript_ (h.run s K μ _ _ G fun v₁ K₁ h₁ tk₁ g₁ r₁ => wpAny_Slice ?_)
    rw [evalPart_some, evalPart_none]
    refine hlo.run _ K₁ μ _ _ (G.grow g₁) fun v₂ K₂ h₂ tk₂ g₂ r₂ => wpAny_pure (wpAny_pure ?_)
    obtain ⟨t, o, vs, rfl, ho, hc, hd, hr⟩ := Rep.mono g₂.le _ _ r₁
    obtain ⟨u, rfl⟩ := r₂
    have hlen := hr.length
    simp at hlen
    have g₃ := Grow.of_ext (K := K₂) (h := h₂) (h' := h₂.push { cls := .type "slice", data := .fields #[.int a u, .none, .none] }) g₂.sub (fun b o e => Heap.get?_push_of_some _ e)
    have ht : IsTup (h₂.push { cls := .type "slice", data := .fields #[.int a u, .none, .none] }) t vs := ⟨o, g₃.sub _ _ ho, hc, hd⟩
    refine tail_get ⟨"tuple", _, IsTup.typeIs (s := { s with heap := h₂.push { cls := .type "slice", data := .fields #[.int a u, .none, .none] }, toks := tk₂ }) ht, slot_tuple_getitem.lookup⟩ (getItem_tuple_from ht (Heap.IsSliceOf.new ..) h1 (by omega) ?_ (by omega))
    have g₄ := Grow.new (K := K₂) (h' := (h₂.push { cls := .type "slice", data := .fields #[.int a u, .none, .none] }).push { cls := .type "tuple", data := .seq (vs.toList.drop a).toArray }) g₃.sub (fun b o e => Heap.get?_push_of_some _ e) (get?_size _) (Heap.get?_push_size _ rfl)
    exact hQ _ _ _ _ (g₁.trans (g₂.trans (g₃.trans g₄))) ⟨_, _, _, rfl, Kn.add_self .., rfl, ⟨_, rfl⟩, by simpa using RepL.mono g₄.le _ _ (hr.drop a)⟩

theorem sliceApplied_to4 {prog : Program} {w : World} {A : Around} {E : Value → Shared → Prop} {s : Shared} {sl : Addr} {u : Tok} {Q : Int × Int × Nat → Shared → Prop} (hs : s.heap.IsSliceOf sl .none (.int 4 u) .none) (h : Q (0, 1, 4) s) :
    wpAny (model prog w) A (Builtin.Slice.sliceApplied (.ref sl) (pure (5 : Int))) Q E s := by
  obtain ⟨os, hos, hcs, hds⟩ := id hs
  unfold Builtin.Slice.sliceApplied Builtin.Slice.sliceFields
  refine wpAny_bind (wpAny_bind (wpAny_field hos hds (x := .none) rfl (wpAny_bind (wpAny_field hos hds (x := .int 4 u) rfl (wpAny_bind (wpAny_field hos hds (x := .none) rfl (wpAny_pure ?_)))))))
  refine wpAny_bind (slicePart_none ?_)
  show wpAny _ _ (if ((1 : Int) == 0) = true then _ else _) _ _ s
  rw [if_neg (by decide)]
  refine wpAny_bind (slicePart_none (wpAny_bind (slicePart_int (wpAny_bind (wpAny_pure ?_)))))
  exact wpAny_pure h

theorem getItem_tuple_to4 {prog : Program} {w : World} {A : Around} {E : Value → Shared → Prop} {s : Shared} {t sl : Addr} {x0 x1 x2 x3 x4 : Value} {u : Tok} {Q : Value → Shared → Prop} (ht : IsTup s.heap t #[x0, x1, x2, x3, x4]) (hs : s.heap.IsSliceOf sl .none (.int 4 u) .none)
    (h : Q (.ref s.heap.objs.size) { s with heap := s.heap.push { cls := .type "tuple", data := .seq #[x0, x1, x2, x3] } }) : wpAny (model prog w) A (getItem (.ref t) (.ref sl)) Q E s := by
  have hdrop : sizeOk (.seq #[x0, x1, x2, x3]) := by show (4 : Nat) ≤ sizeLine; decide
  obtain ⟨os, hos, hcs, hds⟩ := id hs
  have hTs : s.TypeIs (.ref sl) "slice" := ⟨os, hos, hcs⟩
  unfold getItem
  try with_reducible refine wpAny_holding ?_
  refine wpAny_bind (wpAny_sequenceKey ht.typeIs (by decide) ?_)
  refine wpAny_bind (wpAny_callSpecial?_slot (name := Str.ofString "__getitem__") ht.typeIs slot_tuple_getitem
    (wpAny_call_entry slot_tuple_getitem ht.typeIs entry_tuple_getitem ?_ (args_tuple_getitem _ _)))
  show wpAny _ _ (Builtin.Tuple.tupleItemsOf (.ref t) >>= _) _ _ s
  refine wpAny_bind (tupleItemsOf_ ht ?_)
  refine wpAny_bind (wpAny_typeOf hTs ?_)
  rw [if_pos (by decide)]
  refine wpAny_bind (sliceApplied_to4 hs ?_)
  show wpAny _ _ (if ((0 : Int) == 0 && (1 : Int) == 1 && (4 : Nat) == 5) = true then _ else _) _ _ s
  rw [if_neg (by decide)]
  first
    | exact wpAny_bind (m := Builtin.Tuple.tupleExact _) (wpAny_newObj_type (wpAny_pure ⟨_, rfl, wpAny_pure h⟩) hdrop)
    | exact wpAny_bind (m := Builtin.Tuple.tupleExact _) (wpAny_newObj_type (wpAny_bind (wpAny_pure (wpAny_pure ⟨_, rfl, wpAny_pure h⟩))) hdrop)
    | exact wpAny_bind (wpAny_bind (m := Builtin.Tuple.tupleExact _) (wpAny_newObj_type (wpAny_pure (wpAny_pure ⟨_, rfl, wpAny_pure h⟩)) hdrop))
    | exact wpAny_bind (wpAny_bind (m := Builtin.Tuple.tupleExact _) (wpAny_newObj_type (wpAny_pure ⟨_, rfl, wpAny_pure h⟩) hdrop))

/-- t[:4], t a tuple of five -/
theorem Ev.tupTo4 {value hi : Expr} {p pos : Pos} {d0 d1 d2 d3 d4 : D} (h : Ev W F ρ value (.tuple [d0, d1, d2, d3, d4])) (hhi : Ev W F ρ hi (.int 4)) : Ev W F ρ (.Subscript value (.Slice none (some hi) none p) pos) (.tuple [d0, d1, d2, d3]) := .mk fun s K μ Q E G hQ => by
    refine Subscript_ (h.run s K μ _ _ G fun v₁ K₁ h₁ tk₁ g₁ r₁ => wpAny_Slice ?_)
    rw [evalPart_some, evalPart_none]
    refine wpAny_pure (hhi.run _ K₁ μ _ _ (G.grow g₁) fun v₂ K₂ h₂ tk₂ g₂ r₂ => wpAny_pure ?_)
    obtain ⟨t, o, vs, rfl, ho, hc, hd, hr⟩ := Rep.mono g₂.le _ _ r₁
    obtain ⟨u, rfl⟩ := r₂
    simp only [RepL] at hr
    obtain ⟨x0, _, e, h0, x1, _, rfl, h1, x2, _, rfl, h2, x3, _, rfl, h3, x4, _, rfl, h4, rfl⟩ := hr
    have hvs : vs = #[x0, x1, x2, x3, x4] := by apply Array.ext'; rw [e]
    subst hvs
    have g₃ := Grow.of_ext (K := K₂) (h := h₂) (h' := h₂.push { cls := .type "slice", data := .fields #[.none, .int 4 u, .none] }) g₂.sub (fun b o e => Heap.get?_push_of_some _ e)
    have ht : IsTup (h₂.push { cls := .type "slice", data := .fields #[.none, .int 4 u, .none] }) t #[x0, x1, x2, x3, x4] := ⟨o, g₃.sub _ _ ho, hc, hd⟩
    refine tail_get ⟨"tuple", _, IsTup.typeIs (s := { s with heap := h₂.push { cls := .type "slice", data := .fields #[.none, .int 4 u, .none] }, toks := tk₂ }) ht, slot_tuple_getitem.lookup⟩ (getItem_tuple_to4 ht (Heap.IsSliceOf.new ..) ?_)
    have g₄ := Grow.new (K := K₂) (h' := (h₂.push { cls := .type "slice", data := .fields #[.none, .int 4 u, .none] }).push { cls := .type "tuple", data := .seq #[x0, x1, x2, x3] }) g₃.sub (fun b o e => Heap.get?_push_of_some _ e) (get?_size _) (Heap.get?_push_size _ rfl)
    exact hQ _ _ _ _ (g₁.trans (g₂.trans (g₃.trans g₄))) ⟨_, _, _, rfl, Kn.add_self .., rfl, ⟨_, rfl⟩, x0, _, rfl, Rep.mono g₄.le _ _ h0, x1, _, rfl, Rep.mono g₄.le _ _ h1, x2, _, rfl, Rep.mono g₄.le _ _ h2, x3, _, rfl, Rep.mono g₄.le _ _ h3, rfl⟩

theorem slicePick_to (vs : Array Value) (b : Nat) : (slicePick vs none (some (b : Int)) none).toList = vs.toList.take b := by
  have e : sliceBounds none (some (b : Int)) none vs.size = ((0 : Int), ((min b vs.size : Nat) : Int), (1 : Int)) := by
    simp only [sliceBounds, Option.getD_none]
    have h2 : ¬ ((b : Int) < 0) := by omega
    simp only [h2, if_false, show (1 : Int) > 0 by decide, if_true]
    congr 2
    omega
  unfold slicePick
  rw [e]
  have e2 : sliceRange 0 ((min b vs.size : Nat) : Int) 1 = (List.range (min b vs.size)).map (fun k => 0 + k) := by
    unfold sliceRange
    simp only [show (1 : Int) > 0 by decide, if_true]
    by_cases h0 : (0 : Int) < ((min b vs.size : Nat) : Int)
    · rw [if_pos h0]
      have : ((((min b vs.size : Nat) : Int) - 0 + 1 - 1) / 1).toNat = min b vs.size := by rw [Int.ediv_one]; omega
      rw [this]
      exact List.map_congr_left fun k _ => by omega
    · rw [if_neg h0]
      have : min b vs.size = 0 := by omega
      rw [this]; rfl
  dsimp only
  rw [e2]
  have e3 := StrLaws.picks vs.toList (min b vs.size) 0 (by simp; omega)
  simp only [Array.getElem?_toList, List.drop_zero] at e3
  rw [List.toList_toArray, e3]
  simp [List.take_eq_take_iff]

/-- xs[:b], xs a list -/
theorem Ev.listTo {value hi : Expr} {p pos : Pos} {l : List D} {b : Nat} (h : Ev W F ρ value (.list l)) (hhi : Ev W F ρ hi (.int b)) (hl : l.length ≤ sizeLine) : Ev W F ρ (.Subscript value (.Slice none (some hi) none p) pos) (.list (l.take b)) := .mk fun s K μ Q E G hQ => by
    refine Subscript_ (h.run s K μ _ _ G fun v₁ K₁ h₁ tk₁ g₁ r₁ => wpAny_Slice ?_)
    rw [evalPart_some, evalPart_none]
    refine wpAny_pure (hhi.run _ K₁ μ _ _ (G.grow g₁) fun v₂ K₂ h₂ tk₂ g₂ r₂ => wpAny_pure ?_)
    obtain ⟨t, o, vs, rfl, ho, hc, hd, hr⟩ := Rep.mono g₂.le _ _ r₁
    obtain ⟨u, rfl⟩ := r₂
    have hlen := hr.length
    simp at hlen
    have g₃ := Grow.of_ext (K := K₂) (h := h₂) (h' := h₂.push { cls := .type "slice", data := .fields #[.none, .int b u, .none] }) g₂.sub (fun b o e => Heap.get?_push_of_some _ e)
    have ht : (h₂.push { cls := .type "slice", data := .fields #[.none, .int b u, .none] }).IsList t vs := ⟨o, g₃.sub _ _ ho, hc, hd⟩
    refine tail_get ⟨"list", _, Heap.IsList.typeIs (s := { s with heap := h₂.push { cls := .type "slice", data := .fields #[.none, .int b u, .none] }, toks := tk₂ }) ht, slot_list_getitem.lookup⟩ (wpAny_getItem_list_slice ht (Heap.IsSliceOf.new ..) .none (.int _ _) .none (by simp) ?_ (by omega))
    have g₄ := Grow.new (K := K₂) (h' := (h₂.push { cls := .type "slice", data := .fields #[.none, .int b u, .none] }).push { cls := .type "list", data := .seq (slicePick vs none (some (b : Int)) none) }) g₃.sub (fun b o e => Heap.get?_push_of_some _ e) (get?_size _) (Heap.get?_push_size _ rfl)
    exact hQ _ _ _ _ (g₁.trans (g₂.trans (g₃.trans g₄))) ⟨_, _, _, rfl, Kn.add_self .., rfl, ⟨_, rfl⟩, by rw [slicePick_to]; exact RepL.mono g₄.le _ _ (hr.take b)⟩
end
end Mine

namespace Mine

section
variable {W : Wd} {F : Fc} {ρ : Sto}

/-! ### dicts of ints compared -/
noncomputable def lookI : List (List Nat) → List Int → List Nat → Option Int
  | k :: ks, d :: ds, x => if k = x then some d else lookI ks ds x
  | _, _, _ => none
theorem lookD_ints : ∀ (ks : List (List Nat)) (ns : List Int) (x : List Nat), lookD ks (ns.map .int) x = (lookI ks ns x).map .int
  | [], ns, x => by cases ns <;> rfl
  | k :: ks, [], x => rfl
  | k :: ks, n :: ns, x => by
    simp only [List.map_cons, lookD, lookI]
    split
    · rfl
    · exact lookD_ints ks ns x
noncomputable def dEq (ks : List (List Nat)) (ns : List Int) (ks' : List (List Nat)) (ms : List Int) : Bool := (ks.length == ks'.length) && (ks.zip ns).all fun p => lookI ks' ms p.1 == some p.2

theorem hits_of {K : Kn} {A : Around} {s : Shared} {kb : List (Str × Value)} {ks' : List (List Nat)} {ms : List Int} (hk' : kb.map (·.1) = ks'.map mkS) (hr' : RepL W.prog W.w K (ms.map .int) (kb.map (·.2))) :
    ∀ {ka : List (Str × Value)} {ks : List (List Nat)} {ns : List Int}, ka.map (·.1) = ks.map mkS → RepL W.prog W.w K (ns.map .int) (ka.map (·.2)) → KeqHits A s kb ka ((ks.zip ns).all fun p => lookI ks' ms p.1 == some p.2)
  | [], ks, ns, hk, hr => by
    have h1 : ks = [] := by simpa using hk.symm
    subst h1
    simpa using KeqHits.nil
  | (k, v) :: ka, ks, ns, hk, hr => by
    cases ks with
    | nil => simp at hk
    | cons x ks =>
      cases ns with
      | nil => simp [RepL] at hr
      | cons n ns =>
        simp only [List.map_cons, List.cons.injEq] at hk
        simp only [List.map_cons, RepL] at hr
        obtain ⟨v', vs', e, ⟨t, ht⟩, h2⟩ := hr
        simp only [List.cons.injEq] at e
        obtain ⟨rfl, rfl⟩ := e
        obtain ⟨rfl, hk⟩ := hk
        subst ht
        simp only [List.zip_cons_cons, List.all_cons]
        have hl := look_rep (W := W) (K := K) x hk' hr'
        rw [lookD_ints] at hl
        cases q : lookI ks' ms x with
        | none =>
          rw [q] at hl
          exact KeqHits.miss hl
        | some m =>
          rw [q] at hl
          obtain ⟨y, hy, u, rfl⟩ := hl
          have := KeqHits.hit (A := A) (s := s) (r := ka) hy (SeqAt.EqAt.int_int n t m u) (hits_of hk' hr' hk h2)
          have e : (some m == some n) = (n == m) := by
            simp only [beq_dec, Option.some.injEq, eq_comm]
          rw [e]; exact this

theorem V2.eqD {ks ks' : List (List Nat)} {ns ms : List Int} : V2 W F (compareOp .Eq) (.dict ks (ns.map .int)) (.dict ks' (ms.map .int)) (.bool (dEq ks ns ks' ms)) := fun s K v₁ v₂ hs _ r₁ r₂ Q E hQ => by
  obtain ⟨a, o, kvs, rfl, ho, ⟨hd, hy⟩, hk, hr⟩ := r₁
  obtain ⟨a', o', kvs', rfl, ho', ⟨hd', hy'⟩, hk', hr'⟩ := r₂
  refine keq_eq hy hy' (dictOf_of (W := W) (hs _ _ ho) hd) (dictOf_of (W := W) (hs _ _ ho') hd') F.unitsLt (fun _ => hits_of hk' hr' hk hr) ?_
  have e1 : kvs.length = ks.length := by simpa using congrArg List.length hk
  have e2 : kvs'.length = ks'.length := by simpa using congrArg List.length hk'
  rw [e1, e2]
  exact hQ _ K s.heap s.toks (.refl hs) rfl
theorem V2.neD {ks ks' : List (List Nat)} {ns ms : List Int} : V2 W F (compareOp .NotEq) (.dict ks (ns.map .int)) (.dict ks' (ms.map .int)) (.bool (!dEq ks ns ks' ms)) := fun s K v₁ v₂ hs _ r₁ r₂ Q E hQ => by
  obtain ⟨a, o, kvs, rfl, ho, ⟨hd, hy⟩, hk, hr⟩ := r₁
  obtain ⟨a', o', kvs', rfl, ho', ⟨hd', hy'⟩, hk', hr'⟩ := r₂
  refine keq_ne hy hy' (dictOf_of (W := W) (hs _ _ ho) hd) (dictOf_of (W := W) (hs _ _ ho') hd') F.unitsLt (fun _ => hits_of hk' hr' hk hr) ?_
  have e1 : kvs.length = ks.length := by simpa using congrArg List.length hk
  have e2 : kvs'.length = ks'.length := by simpa using congrArg List.length hk'
  rw [e1, e2]
  exact hQ _ K s.heap s.toks (.refl hs) rfl

/-! ### tuples of four ints compared -/
theorem V2.neT4 {a b c d a' b' c' d' : Int} : V2 W F (compareOp .NotEq) (.tuple [.int a, .int b, .int c, .int d]) (.tuple [.int a', .int b', .int c', .int d']) (.bool (!(decide (a = a') && (decide (b = b') && (decide (c = c') && decide (d = d')))))) := fun s K v₁ v₂ hs _ r₁ r₂ Q E hQ => by
  obtain ⟨l, o, vs, rfl, ho, hc, hd, hr⟩ := r₁
  obtain ⟨l', o', vs', rfl, ho', hc', hd', hr'⟩ := r₂
  simp only [RepL, Rep] at hr hr'
  obtain ⟨_, _, e, ⟨t0, rfl⟩, _, _, rfl, ⟨t1, rfl⟩, _, _, rfl, ⟨t2, rfl⟩, _, _, rfl, ⟨t3, rfl⟩, rfl⟩ := hr
  obtain ⟨_, _, e', ⟨u0, rfl⟩, _, _, rfl, ⟨u1, rfl⟩, _, _, rfl, ⟨u2, rfl⟩, _, _, rfl, ⟨u3, rfl⟩, rfl⟩ := hr'
  have hvs : vs = #[.int a t0, .int b t1, .int c t2, .int d t3] := by apply Array.ext'; rw [e]
  have hvs' : vs' = #[.int a' u0, .int b' u1, .int c' u2, .int d' u3] := by apply Array.ext'; rw [e']
  subst hvs hvs'
  refine cmp_ofNotEq (SeqAt.RcNeAt.tuples (e := fun j => match j with | 0 => decide (a = a') | 1 => decide (b = b') | 2 => decide (c = c') | _ => decide (d = d')) ⟨o, hs _ _ ho, hc, hd⟩ ⟨o', hs _ _ ho', hc', hd'⟩ F.unitsLt ?_ _ _ _ _ (hQ _ K s.heap s.toks (.refl hs) ?_))
  · intro j h1 h2
    match j, h1, h2 with
    | 0, _, _ => simp only [← beq_dec]; exact SeqAt.EqAt.int_int a t0 a' u0
    | 1, _, _ => simp only [← beq_dec]; exact SeqAt.EqAt.int_int b t1 b' u1
    | 2, _, _ => simp only [← beq_dec]; exact SeqAt.EqAt.int_int c t2 c' u2
    | 3, _, _ => simp only [← beq_dec]; exact SeqAt.EqAt.int_int d t3 d' u3
    | j + 4, h1, _ => simp at h1; omega
  · show Value.bool _ = Value.bool _
    congr 2
    simp [List.range_succ]

/-! ### list(range(a, b, c)) -/
theorem EvO.listRange3 {x y : Str} {p p' pos pos' : Pos} {e₁ e₂ e₃ : Expr} {a b c : Int} {n : Nat} (h₁ : Ev W F ρ e₁ (.int a)) (h₂ : Ev W F ρ e₂ (.int b)) (h₃ : Ev W F ρ e₃ (.int c)) (hc : c ≠ 0) (hcs : c.natAbs < 1073741824)
    (hsmall : Builtin.Range.small a b c = true) (hn : Builtin.Range.rangeSize a b c = n) (hlen : n ≤ 2 ^ 24)
    (hbx : bootBuiltins x = some (.type "list")) (hmx : W.mg x = none) (hnx : x ≠ "__name__") (hx : F.env.kindOf x = some .globalImplicit)
    (hby : bootBuiltins y = some (.type "range")) (hmy : W.mg y = none) (hny : y ≠ "__name__") (hy : F.env.kindOf y = some .globalImplicit)
    (hdx : (x == ("__debug__" : Str)) = false := by decide) (hdy : (y == ("__debug__" : Str)) = false := by decide)
    (he : starEach [e₁, e₂, e₃] F.env = (false, eval e₁ F.env) :: starEach [e₂, e₃] F.env := by rfl) (he2 : starEach [e₂, e₃] F.env = (false, eval e₂ F.env) :: starEach [e₃] F.env := by rfl) (he3 : starEach [e₃] F.env = (false, eval e₃ F.env) :: starEach [] F.env := by rfl)
    (hec : starEach [.Call (.Name y p') [e₁, e₂, e₃] [] pos'] F.env = (false, eval (.Call (.Name y p') [e₁, e₂, e₃] [] pos') F.env) :: starEach [] F.env := by rfl) :
    EvO W F ρ (.Call (.Name x p) [.Call (.Name y p') [e₁, e₂, e₃] [] pos'] [] pos) (.list ((List.range n).map fun (i : Nat) => .int (a + (i : Int) * c))) := .mk fun s K μ Q E G hQ =>
  Call_ (load_builtin (W := W) F.hk F.hg F.hb hx G.baseIn hmx hbx hnx (PyProof.Rows.callWith_type1 (spliced_more (Call_ (load_builtin (W := W) F.hk F.hg F.hb hy G.baseIn hmy hby hny (PyProof.Rows.callWith_type1
    (spliced_more (h₁.run s K μ _ _ G fun v₁ K₁ _ _ g₁ r₁ => spliced_more (h₂.run _ K₁ μ _ _ (G.grow g₁) fun v₂ K₂ _ _ g₂ r₂ => spliced_more (h₃.run _ K₂ μ _ _ ((G.grow g₁).grow g₂) fun v₃ K₃ h₃' tk₃ g₃ r₃ => spliced_none (by
      obtain ⟨t, rfl⟩ := r₁
      obtain ⟨u, rfl⟩ := r₂
      obtain ⟨v, rfl⟩ := r₃
      have g := g₁.trans (g₂.trans g₃)
      refine call_range_3 hc (spliced_none ?_) (.inl (PyProof.noPylong_small hcs))
      have g₄ := Grow.of_ext (K := K₃) (h := h₃') (h' := h₃'.push { cls := .type "range", data := .fields #[.int a t, .int b u, .int c v] }) g₃.sub (fun b o e => Heap.get?_push_of_some _ e)
      refine call_list_range F.hh (IsRange.new ..) hsmall hn hlen fun h' tk acc c' hk hS hacc => ?_
      have hnone : s.heap.get? (h₃'.push { cls := .type "range", data := .fields #[.int a t, .int b u, .int c v] }).objs.size = none := by
        cases e : s.heap.get? (h₃'.push { cls := .type "range", data := .fields #[.int a t, .int b u, .int c v] }).objs.size with
        | none => rfl
        | some o => have := g₄.ext _ _ (g.ext _ _ e); rw [get?_size] at this; cases this
      have hKn : K₃ (h₃'.push { cls := .type "range", data := .fields #[.int a t, .int b u, .int c v] }).objs.size = none := by
        cases e : K₃ (h₃'.push { cls := .type "range", data := .fields #[.int a t, .int b u, .int c v] }).objs.size with
        | none => rfl
        | some o => have := g₄.sub _ _ e; rw [get?_size] at this; cases this
      refine hQ _ K₃ h' tk (g.trans (g₄.trans (.of_ext g₄.sub hk))) hnone hKn ⟨acc, ⟨c', hS⟩, RepL.of_get (by simp [hacc.1]) fun i x y hx hy => ?_⟩
      simp only [List.getElem?_map, Option.map_eq_some_iff] at hx
      obtain ⟨j, hj, rfl⟩ := hx
      obtain ⟨hj1, hj2⟩ := List.getElem?_eq_some_iff.mp hj
      simp only [List.getElem_range] at hj2
      subst hj2
      exact hacc.2 i y (by simpa using hy))) he3) he2) he) he (by rw [he2, he3]; rfl)) hdy)) hec) hec) hdx)
end
end Mine

namespace Mine

/-! ## Statements -/
theorem nodup_inj {α β : Type} {f : α → β} : ∀ {l : List α}, (l.map f).Nodup → ∀ {p q}, p ∈ l → q ∈ l → f p = f q → p = q
  | [], _, _, _, hp, _, _ => nomatch hp
  | a :: l, hn, p, q, hp, hq, e => by
    simp only [List.map_cons, List.nodup_cons] at hn
    rcases List.mem_cons.mp hp with hp | hp <;> rcases List.mem_cons.mp hq with hq | hq
    · rw [hp, hq]
    · exact absurd (hp ▸ e ▸ List.mem_map_of_mem (f := f) hq) hn.1
    · exact absurd (hq ▸ e ▸ List.mem_map_of_mem (f := f) hp) hn.1
    · exact nodup_inj hn.2 hp hq e

theorem Ns.unique {h : Heap} {a : Addr} {m m' : Str → Option Value} (n : h.Ns a m) (n' : h.Ns a m') : m = m' := by
  obtain ⟨o, es, ep, ho, hd, _, hf⟩ := n
  obtain ⟨o', es', ep', ho', hd', _, hf'⟩ := n'
  rw [ho] at ho'
  obtain rfl := Option.some.inj ho'
  rw [hd] at hd'
  obtain ⟨rfl, rfl⟩ := Data.dict.inj hd'
  funext x
  rw [← hf x, ← hf' x]

section
variable {W : Wd} {F : Fc} {env : Env} {K K' K'' : Kn} {μ μ' : List (Str × Addr)} {ρ : Sto} {h h' h'' : Heap}

theorem own_locals : env.locals ∈ own env μ := .head _
theorem own_cell {x : Str} {c : Addr} (hc : (x, c) ∈ env.cells) : c ∈ own env μ := .tail _ (List.mem_append_left _ (List.mem_map_of_mem (f := (·.2)) hc))
theorem own_mu {x : Str} {a : Addr} (hc : (x, a) ∈ μ) : a ∈ own env μ := .tail _ (List.mem_append_right _ (List.mem_map_of_mem (f := (·.2)) hc))
theorem Good.nodup_cells (G : Good W env K μ ρ h) : (env.cells.map (·.2)).Nodup := (List.nodup_append.mp (List.nodup_cons.mp G.nodup).2).1
theorem Good.nodup_mu (G : Good W env K μ ρ h) : (μ.map (·.2)).Nodup := (List.nodup_append.mp (List.nodup_cons.mp G.nodup).2).2.1
theorem Good.locals_cell (G : Good W env K μ ρ h) {p : Str × Addr} (hp : p ∈ env.cells) : p.2 ≠ env.locals := fun e => (List.nodup_cons.mp G.nodup).1 (List.mem_append_left _ (e ▸ List.mem_map_of_mem (f := (·.2)) hp))
theorem Good.locals_mu (G : Good W env K μ ρ h) {p : Str × Addr} (hp : p ∈ μ) : p.2 ≠ env.locals := fun e => (List.nodup_cons.mp G.nodup).1 (List.mem_append_right _ (e ▸ List.mem_map_of_mem (f := (·.2)) hp))
theorem Good.cell_mu (G : Good W env K μ ρ h) {p q : Str × Addr} (hp : p ∈ env.cells) (hq : q ∈ μ) : p.2 ≠ q.2 := fun e => (List.nodup_append.mp (List.nodup_cons.mp G.nodup).2).2.2 _ (List.mem_map_of_mem (f := (·.2)) hp) _ (List.mem_map_of_mem (f := (·.2)) hq) e

theorem SGrow.of_grow (g : Grow K h K' h') : SGrow env K μ h K' h' := ⟨fun b o _ e => g.ext b o e, g.le, g.sub, fun b e hb _ => g.fresh b e hb⟩
theorem SGrow.trans (s : SGrow env K μ h K' h') (hμ : ∀ p ∈ μ', p.2 ∈ own env μ ∨ h.get? p.2 = none) (s' : SGrow env K' μ' h' K'' h'') : SGrow env K μ h K'' h'' := by
  have up : ∀ b o, b ∉ own env μ → h.get? b = some o → b ∉ own env μ' := fun b o hb e hm => by
    unfold own at hm hb
    rcases List.mem_cons.mp hm with q | hm
    · exact hb (q ▸ .head _)
    · rcases List.mem_append.mp hm with hm | hm
      · exact hb (.tail _ (List.mem_append_left _ hm))
      · obtain ⟨p, hp, rfl⟩ := List.mem_map.mp hm
        rcases hμ p hp with q | q
        · exact hb q
        · rw [q] at e; cases e
  refine ⟨fun b o hb e => s'.ext b o (up b o hb e) (s.ext b o hb e), fun b o e => s'.le b o (s.le b o e), s'.sub, fun b e hn hb => ?_⟩
  cases q : h.get? b with
  | none => exact absurd q hn
  | some o => exact s'.fresh b (s.fresh b e hn hb) (by rw [s.ext b o hb q]; simp) (up b o hb q)
theorem mu_trans (s : SGrow env K μ h K' h') (hμ : ∀ p ∈ μ', p.2 ∈ own env μ ∨ h.get? p.2 = none) {μ'' : List (Str × Addr)} (hμ' : ∀ p ∈ μ'', p.2 ∈ own env μ' ∨ h'.get? p.2 = none) : ∀ p ∈ μ'', p.2 ∈ own env μ ∨ h.get? p.2 = none := fun p hp => by
  rcases hμ' p hp with q | q
  · unfold own at q
    rcases List.mem_cons.mp q with q | q
    · exact .inl (q ▸ .head _)
    · rcases List.mem_append.mp q with q | q
      · exact .inl (.tail _ (List.mem_append_left _ q))
      · obtain ⟨p', hp', e⟩ := List.mem_map.mp q
        rw [← e]; exact hμ p' hp'
  · by_cases hb : p.2 ∈ own env μ
    · exact .inl hb
    · refine .inr ?_
      cases e : h.get? p.2 with
      | none => rfl
      | some o => rw [s.ext _ _ hb e] at q; cases q
theorem mu_same : ∀ p ∈ μ, p.2 ∈ own env μ ∨ h.get? p.2 = none := fun p hp => .inl (own_mu (x := p.1) hp)

/-! ### storing a name -/
theorem SameBut.sgrow (hs : ∀ b o, K b = some o → h.get? b = some o) (hoff : ∀ b ∈ own env μ, K b = none) {a : Addr} (ha : a ∈ own env μ) (sb : Heap.SameBut a h h') : SGrow env K μ h K h' :=
  ⟨fun b o hb e => (sb.2 b fun q => hb (q ▸ ha)).trans e, fun _ _ e => e, fun b o e => (sb.2 b fun q => by rw [q, hoff a ha] at e; cases e).trans (hs b o e), fun _ e _ _ => e⟩

/-- name x may be stored -/
noncomputable def Storable (env : Env) (x : Str) : Prop := env.kindOf x = some .local ∨ (env.kindOf x = some .cell ∧ ∃ c, env.cells.lookup x = some c)

theorem Good.store {s : Shared} {x : Str} {v : Value} {lv : LV} {A : Around} {E : Value → Shared → Prop} {M : Model} {Q : Unit → Shared → Prop} (G : Good W env K μ ρ s.heap) (hk : env.scope.kind = .function) (hx : Storable env x)
    (hr : LRep W K μ s.heap x lv v) (hQ : ∀ h' tk, SGrow env K μ s.heap K h' → Good W env K μ (ρ.set x lv) h' → Q () { s with heap := h', toks := tk }) : wpAny M A (storeName env x v) Q E s := by
  rcases hx with hx | ⟨hx, c, hc⟩
  · obtain ⟨m, hn⟩ := G.ns
    refine wpAny_storeName_local hx hn (fun h' hn' sb => hQ h' _ (SameBut.sgrow G.sub G.off own_locals sb) ?_) (by rw [hk]; rfl)
    refine ⟨(SameBut.sgrow G.sub G.off own_locals sb).sub, G.base, G.nodup, G.off, fun p hp => ?_, ⟨_, hn'⟩, fun p hp => ?_, fun y lv' e => ?_⟩
    · obtain ⟨o, ho⟩ := G.live p hp; exact ⟨o, (sb.2 _ (G.locals_mu hp)).trans ho⟩
    · obtain ⟨v', hv⟩ := G.cells p hp; exact ⟨v', hv.sameBut sb (G.locals_cell hp)⟩
    · rw [Sto.get_set] at e
      have up : ∀ a o, (y, a) ∈ μ → s.heap.get? a = some o → h'.get? a = some o := fun a o hm ho => (sb.2 _ (G.locals_mu hm)).trans ho
      by_cases hy : x = y
      · subst hy
        rw [if_pos rfl] at e
        obtain rfl := Option.some.inj e
        exact ⟨v, .inl ⟨hx, _, hn', by simp⟩, hr.mono (fun _ _ q => q) up⟩
      · rw [if_neg hy] at e
        obtain ⟨v', hb, hr'⟩ := G.vals y lv' e
        refine ⟨v', ?_, hr'.mono (fun _ _ q => q) up⟩
        rcases hb with ⟨k, m', hn2, hm⟩ | ⟨k, c', hc', hi⟩
        · obtain rfl := Ns.unique hn hn2
          exact .inl ⟨k, _, hn', by rw [if_neg (Ne.symm hy)]; exact hm⟩
        · exact .inr ⟨k, c', hc', hi.sameBut sb (G.locals_cell (mem_of_lookup' hc'))⟩
  · have hmem := mem_of_lookup' hc
    obtain ⟨v₀, hv₀⟩ := G.cells _ hmem
    refine wpAny_storeName_cell hk hx hc hv₀ fun h' hi' sb => hQ h' _ (SameBut.sgrow G.sub G.off (own_cell hmem) sb) ?_
    refine ⟨(SameBut.sgrow G.sub G.off (own_cell hmem) sb).sub, G.base, G.nodup, G.off, fun p hp => ?_, ?_, fun p hp => ?_, fun y lv' e => ?_⟩
    · obtain ⟨o, ho⟩ := G.live p hp; exact ⟨o, (sb.2 _ (Ne.symm (G.cell_mu hmem hp))).trans ho⟩
    · obtain ⟨m, hn⟩ := G.ns; exact ⟨m, hn.sameBut sb (Ne.symm (G.locals_cell hmem))⟩
    · by_cases q : p.2 = c
      · rw [q]; exact ⟨_, hi'⟩
      · obtain ⟨v', hv⟩ := G.cells p hp; exact ⟨v', hv.sameBut sb q⟩
    · rw [Sto.get_set] at e
      have up : ∀ a o, (y, a) ∈ μ → s.heap.get? a = some o → h'.get? a = some o := fun a o hm ho => (sb.2 _ (Ne.symm (G.cell_mu hmem hm))).trans ho
      by_cases hy : x = y
      · subst hy
        rw [if_pos rfl] at e
        obtain rfl := Option.some.inj e
        exact ⟨v, .inr ⟨hx, c, hc, hi'⟩, hr.mono (fun _ _ q => q) up⟩
      · rw [if_neg hy] at e
        obtain ⟨v', hb, hr'⟩ := G.vals y lv' e
        refine ⟨v', ?_, hr'.mono (fun _ _ q => q) up⟩
        rcases hb with ⟨k, m', hn2, hm⟩ | ⟨k, c', hc', hi⟩
        · exact .inl ⟨k, m', hn2.sameBut sb (Ne.symm (G.locals_cell hmem)), hm⟩
        · refine .inr ⟨k, c', hc', hi.sameBut sb fun q => ?_⟩
          have := nodup_inj G.nodup_cells (mem_of_lookup' hc') hmem q
          exact hy (congrArg Prod.fst this).symm

/-- a new object of this frame alone -/
theorem Good.born {a : Addr} {x : Str} (G : Good W env K μ ρ h) (g : Grow K h K' h') (hn : h.get? a = none) (hK : K' a = none) (ho : ∃ o, h'.get? a = some o) : Good W env K' ((x, a) :: μ) ρ h' := by
  have G' := G.grow g
  have ha : a ∉ own env μ := fun hm => by obtain ⟨o, ho⟩ := G.ownLive hm; rw [hn] at ho; cases ho
  refine ⟨G'.sub, G'.base, ?_, ?_, ?_, G'.ns, G'.cells, fun y lv e => ?_⟩
  · unfold own at ha ⊢
    have hp : (env.locals :: (env.cells.map (·.2) ++ ((x, a) :: μ).map (·.2))).Perm (a :: (env.locals :: (env.cells.map (·.2) ++ μ.map (·.2)))) := by
      simp only [List.map_cons]
      refine (List.Perm.cons _ List.perm_middle).trans (List.Perm.swap ..)
    exact hp.symm.nodup (List.nodup_cons.mpr ⟨ha, G.nodup⟩)
  · intro b hb
    unfold own at hb
    rcases List.mem_cons.mp hb with rfl | hb
    · exact G'.off _ own_locals
    · rcases List.mem_append.mp hb with hb | hb
      · exact G'.off _ (.tail _ (List.mem_append_left _ hb))
      · simp only [List.map_cons] at hb
        rcases List.mem_cons.mp hb with rfl | hb
        · exact hK
        · exact G'.off _ (.tail _ (List.mem_append_right _ hb))
  · intro p hp
    rcases List.mem_cons.mp hp with rfl | hp
    · exact ho
    · exact G'.live p hp
  · obtain ⟨v, hb, hr⟩ := G'.vals y lv e
    refine ⟨v, hb, ?_⟩
    cases lv with
    | imm d => exact hr
    | mu d => obtain ⟨b, e1, e2, e3⟩ := hr; exact ⟨b, e1, .tail _ e2, e3⟩
end

section
variable {W : Wd} {F : Fc} {ρ ρ₁ ρ₂ : Sto}

/-! ### sequences -/
theorem Exs.nil : Exs W F ρ [] ρ .next := .mk fun s K μ Q E G hQ => wpAny_execs_nil (hQ K μ s.heap s.toks (.of_grow (.refl G.sub)) mu_same G)
theorem Exs.cons {st : Stmt} {rest : List Stmt} {fl : Fl} (h₁ : Ex W F ρ st ρ₁ .next) (h₂ : Exs W F ρ₁ rest ρ₂ fl) : Exs W F ρ (st :: rest) ρ₂ fl := .mk fun s K μ Q E G hQ =>
  wpAny_execs_cons (h₁.run s K μ _ _ G fun K₁ μ₁ h₁ tk₁ s₁ m₁ G₁ => h₂.run _ K₁ μ₁ _ _ G₁ (by
    cases fl with
    | next => exact fun K₂ μ₂ h₂ tk₂ s₂ m₂ G₂ => hQ K₂ μ₂ h₂ tk₂ (s₁.trans m₁ s₂) (mu_trans s₁ m₁ m₂) G₂
    | ret d => exact fun v K₂ h₂ tk₂ s₂ r => hQ v K₂ h₂ tk₂ (s₁.trans m₁ s₂) r))
theorem Exs.ret {st : Stmt} {rest : List Stmt} {d : D} (h₁ : Ex W F ρ st ρ₁ (.ret d)) : Exs W F ρ (st :: rest) ρ₂ (.ret d) := .mk fun s K μ Q E G hQ =>
  wpAny_execs_cons (h₁.run s K μ _ _ G fun v K₂ h₂ tk₂ s₂ r => hQ v K₂ h₂ tk₂ s₂ r)
theorem Exs.weaken {ss : List Stmt} {fl : Fl} (hs : Sto.Sub ρ₁ ρ) (h : Exs W F ρ₁ ss ρ₂ fl) : Exs W F ρ ss ρ₂ fl := .mk fun s K μ Q E G hQ => h.run s K μ Q E (G.weaken hs) hQ
theorem Ex.weaken {ss : Stmt} {fl : Fl} (hs : Sto.Sub ρ₁ ρ) (h : Ex W F ρ₁ ss ρ₂ fl) : Ex W F ρ ss ρ₂ fl := .mk fun s K μ Q E G hQ => h.run s K μ Q E (G.weaken hs) hQ
theorem Exs.forget {ss : List Stmt} (h : Exs W F ρ ss ρ₁ .next) (hs : Sto.Sub ρ₂ ρ₁) : Exs W F ρ ss ρ₂ .next := .mk fun s K μ Q E G hQ => h.run s K μ Q E G fun K' μ' h' tk g m G' => hQ K' μ' h' tk g m (G'.weaken hs)

/-! ### simple statements -/
theorem Ex.assign {x : Str} {e : Expr} {p pos : Pos} {d : D} (h : Ev W F ρ e d) (hx : Storable F.env x) (hs : swapsWith e (some (.Name x p)) pos.line F.env = pure false := by rfl) : Ex W F ρ (.Assign [.Name x p] e pos) (ρ.set x (.imm d)) .next := .mk fun s K μ Q E G hQ =>
  wpAny_Assign_Name (h.run s K μ _ _ G fun v K₁ h₁ tk₁ g₁ r₁ => (G.grow g₁).store F.hk hx (lv := .imm d) r₁ fun h₂ tk₂ s₂ G₂ => hQ K₁ μ h₂ tk₂ ((SGrow.of_grow g₁).trans mu_same s₂) mu_same G₂) hs
theorem Ex.assignO {x : Str} {e : Expr} {p pos : Pos} {d : D} (h : EvO W F ρ e d) (hx : Storable F.env x) (hs : swapsWith e (some (.Name x p)) pos.line F.env = pure false := by rfl) : Ex W F ρ (.Assign [.Name x p] e pos) (ρ.set x (.mu d)) .next := .mk fun s K μ Q E G hQ =>
  wpAny_Assign_Name (h.run s K μ _ _ G fun a K₁ h₁ tk₁ g₁ hn hK mo => by
    have ho : ∃ o, h₁.get? a = some o := let ⟨o, ho, _⟩ := mo.rep hK; ⟨o, ho⟩
    have G₁ := G.born (x := x) g₁ hn hK ho
    have hm : ∀ p ∈ (x, a) :: μ, p.2 ∈ own F.env μ ∨ s.heap.get? p.2 = none := fun p hp => by
      rcases List.mem_cons.mp hp with rfl | hp
      · exact .inr hn
      · exact .inl (own_mu (x := p.1) hp)
    exact Good.store G₁ F.hk hx (lv := .mu d) ⟨a, rfl, .head _, mo⟩ fun h₂ tk₂ s₂ G₂ => hQ K₁ _ h₂ tk₂ ((SGrow.of_grow g₁).trans hm s₂) hm G₂) hs
theorem Ex.assign2 {x y : Str} {e : Expr} {p q pos : Pos} {i : Int} (h : Ev W F ρ e (.int i)) (hx : Storable F.env x) (hy : Storable F.env y) (he : (assignEach [.Name x p, .Name y q] F.env).map (·.2) = [PySem.assign (.Name x p) F.env, PySem.assign (.Name y q) F.env] := by rfl)
    (hw : swappedStores [.Name x p, .Name y q] e F.env = pure none := by rfl) : Ex W F ρ (.Assign [.Name x p, .Name y q] e pos) ((ρ.set x (.imm (.int i))).set y (.imm (.int i))) .next := .mk fun s K μ Q E G hQ =>
  wpAny_Assign_two (h.run s K μ _ _ G fun v K₁ h₁ tk₁ g₁ r₁ => wpAny_assign_Name ((G.grow g₁).store F.hk hx (lv := .imm (.int i)) r₁ fun h₂ tk₂ s₂ G₂ => wpAny_assign_Name (Good.store G₂ F.hk hy (lv := .imm (.int i)) r₁ fun h₃ tk₃ s₃ G₃ => hQ K₁ μ h₃ tk₃ ((SGrow.of_grow g₁).trans mu_same (s₂.trans mu_same s₃)) mu_same G₃))) he hw
theorem Ex.augName {x : Str} {op : Operator} {e : Expr} {p pos : Pos} {d₁ d₂ d : D} (e₁ : ρ.get x = some (.imm d₁)) (h : Ev W F ρ e d₂) (ho : V2 W F (inplaceOp op) d₁ d₂ d) (hx : Storable F.env x) : Ex W F ρ (.AugAssign (.Name x p) op e pos) (ρ.set x (.imm d)) .next := .mk fun s K μ Q E G hQ => by
  obtain ⟨v₁, hb, hr⟩ := G.vals _ _ e₁
  refine wpAny_AugAssign_Name (hb.load F.hk (h.run s K μ _ _ G fun v₂ K₂ h₂ tk₂ g₂ r₂ => ho _ K₂ v₁ v₂ g₂.sub (G.grow g₂).base (Rep.mono g₂.le _ _ hr) r₂ _ _ fun v K₃ h₃ tk₃ g₃ r₃ => ?_))
  exact ((G.grow g₂).grow g₃).store F.hk hx (lv := .imm d) r₃ fun h₄ tk₄ s₄ G₄ => hQ K₃ μ h₄ tk₄ ((SGrow.of_grow (g₂.trans g₃)).trans mu_same s₄) mu_same G₄
theorem Ex.retV {e : Expr} {pos : Pos} {d : D} (h : Ev W F ρ e d) : Ex W F ρ (.Return (some e) pos) ρ₁ (.ret d) := .mk fun s K μ Q E G hQ =>
  wpAny_Return_some (h.run s K μ _ _ G fun v K₁ h₁ tk₁ g₁ r₁ => hQ v K₁ h₁ tk₁ (.of_grow g₁) r₁)
theorem Ex.ite {t : Expr} {b o : List Stmt} {pos : Pos} {c : Bool} {fl : Fl} (ht : Ts W F ρ t c) (h₁ : c = true → Exs W F ρ b ρ₁ fl) (h₂ : c = false → Exs W F ρ o ρ₁ fl) : Ex W F ρ (.If t b o pos) ρ₁ fl := .mk fun s K μ Q E G hQ =>
  wpAny_If (ht.run s K μ _ _ G fun K₁ h₁' tk₁ g₁ => by
    have post : SPost W F.env K₁ μ { s with heap := h₁', toks := tk₁ } ρ₁ Q fl := by
      cases fl with
      | next => exact fun K₂ μ₂ h₂ tk₂ s₂ m₂ G₂ => hQ K₂ μ₂ h₂ tk₂ ((SGrow.of_grow g₁).trans mu_same s₂) (mu_trans (.of_grow g₁) mu_same m₂) G₂
      | ret d => exact fun v K₂ h₂ tk₂ s₂ r => hQ v K₂ h₂ tk₂ ((SGrow.of_grow g₁).trans mu_same s₂) r
    cases c with
    | true => rw [if_pos rfl]; exact (h₁ rfl).run _ K₁ μ _ _ (G.grow g₁) post
    | false => rw [if_neg (by simp)]; exact (h₂ rfl).run _ K₁ μ _ _ (G.grow g₁) post)
end
end Mine

namespace Mine

section
variable {W : Wd} {F : Fc} {env : Env} {K K' : Kn} {μ : List (Str × Addr)} {ρ : Sto} {h h' : Heap}

/-! ### changing an object of this frame alone -/
theorem Good.mutate {x : Str} {a : Addr} {d d' : D} (G : Good W env K μ ρ h) (e : ρ.get x = some (.mu d)) (hb : Bound env h x (.ref a)) (hm : (x, a) ∈ μ) (sb : Heap.SameBut a h h') (mo : MObj W K h' a d') :
    SGrow env K μ h K h' ∧ Good W env K μ (ρ.set x (.mu d')) h' := by
  have sg := SameBut.sgrow (env := env) (μ := μ) G.sub G.off (own_mu hm) sb
  have hL : a ≠ env.locals := G.locals_mu hm
  have hbd : ∀ y v, Bound env h y v → Bound env h' y v := fun y v hb => by
    rcases hb with ⟨k, m', hn2, hm'⟩ | ⟨k, c', hc', hi⟩
    · exact .inl ⟨k, m', hn2.sameBut sb (Ne.symm hL), hm'⟩
    · exact .inr ⟨k, c', hc', hi.sameBut sb (G.cell_mu (mem_of_lookup' hc') hm)⟩
  refine ⟨sg, sg.sub, G.base, G.nodup, G.off, fun p hp => ?_, ?_, fun p hp => ?_, fun y lv e' => ?_⟩
  · by_cases q : p.2 = a
    · rw [q]
      cases d' with
      | list l => obtain ⟨vs, ⟨n, ho⟩, _⟩ := mo; exact ⟨_, ho⟩
      | dict ks l => obtain ⟨kvs, ⟨⟨o, _, _, ho, _⟩, _⟩, _⟩ := mo; exact ⟨o, ho⟩
      | _ => exact mo.elim
    · obtain ⟨o, ho⟩ := G.live p hp; exact ⟨o, (sb.2 _ q).trans ho⟩
  · obtain ⟨m, hn⟩ := G.ns; exact ⟨m, hn.sameBut sb (Ne.symm hL)⟩
  · obtain ⟨v, hv⟩ := G.cells p hp; exact ⟨v, hv.sameBut sb (G.cell_mu hp hm)⟩
  · rw [Sto.get_set] at e'
    by_cases hy : x = y
    · subst hy
      rw [if_pos rfl] at e'
      obtain rfl := Option.some.inj e'
      exact ⟨.ref a, hbd _ _ hb, a, rfl, hm, mo⟩
    · rw [if_neg hy] at e'
      obtain ⟨v, hb', hr⟩ := G.vals y lv e'
      refine ⟨v, hbd _ _ hb', hr.mono (fun _ _ q => q) fun b o hm' ho => (sb.2 _ fun q => ?_).trans ho⟩
      exact hy (congrArg Prod.fst (nodup_inj G.nodup_mu hm' hm q)).symm

/-- from now on everybody may know it -/
theorem Good.freeze {x : Str} {d : D} (G : Good W env K μ ρ h) (e : ρ.get x = some (.mu d)) : ∃ K' μ', SGrow env K μ h K' h ∧ (∀ p ∈ μ', p ∈ μ) ∧ Good W env K' μ' (ρ.set x (.imm d)) h := by
  obtain ⟨v, hb, a, rfl, hm, mo⟩ := G.vals _ _ e
  have hKa := G.off a (own_mu hm)
  obtain ⟨o, ho, hr⟩ := mo.rep hKa
  have hle : ∀ b o', K b = some o' → K.add a o b = some o' := fun b o' q => by
    unfold Kn.add
    rw [if_neg (fun z => by rw [z, hKa] at q; cases q)]; exact q
  have hsub : ∀ b o', K.add a o b = some o' → h.get? b = some o' := fun b o' q => by
    unfold Kn.add at q
    by_cases z : b = a
    · rw [if_pos z] at q; obtain rfl := Option.some.inj q; exact z ▸ ho
    · rw [if_neg z] at q; exact G.sub _ _ q
  have hin : ∀ p ∈ μ.filter (fun p => p.2 != a), p ∈ μ := fun p hp => (List.mem_filter.mp hp).1
  refine ⟨K.add a o, μ.filter (fun p => p.2 != a), ⟨fun b o' _ q => q, hle, hsub, fun b q hn hb' => ?_⟩, hin, hsub, fun b o' q => hle b o' (G.base b o' q), ?_, fun b hb' => ?_, fun p hp => G.live p (hin p hp), G.ns, G.cells, fun y lv e' => ?_⟩
  · unfold Kn.add
    rw [if_neg (fun z : b = a => hb' (z ▸ own_mu hm))]; exact q
  · have hsl : (own env (μ.filter (fun p => p.2 != a))).Sublist (own env μ) := by
      unfold own
      exact List.Sublist.cons_cons _ (List.Sublist.append (List.Sublist.refl _) (List.filter_sublist.map _))
    exact hsl.nodup G.nodup
  · unfold Kn.add
    have hne : b ≠ a := by
      unfold own at hb'
      rcases List.mem_cons.mp hb' with rfl | hb'
      · exact Ne.symm (G.locals_mu hm)
      · rcases List.mem_append.mp hb' with hb' | hb'
        · obtain ⟨p, hp, rfl⟩ := List.mem_map.mp hb'
          exact G.cell_mu hp hm
        · obtain ⟨p, hp, rfl⟩ := List.mem_map.mp hb'
          exact bne_iff_ne.mp (List.mem_filter.mp hp).2
    rw [if_neg hne]
    refine G.off b ?_
    unfold own at hb' ⊢
    rcases List.mem_cons.mp hb' with rfl | hb'
    · exact .head _
    · rcases List.mem_append.mp hb' with hb' | hb'
      · exact .tail _ (List.mem_append_left _ hb')
      · obtain ⟨p, hp, rfl⟩ := List.mem_map.mp hb'
        exact .tail _ (List.mem_append_right _ (List.mem_map_of_mem (f := (·.2)) (hin p hp)))
  · rw [Sto.get_set] at e'
    by_cases hy : x = y
    · subst hy
      rw [if_pos rfl] at e'
      obtain rfl := Option.some.inj e'
      exact ⟨.ref a, hb, hr G.sub⟩
    · rw [if_neg hy] at e'
      obtain ⟨v, hb', hr'⟩ := G.vals y lv e'
      refine ⟨v, hb', ?_⟩
      cases lv with
      | imm d' => exact Rep.mono hle _ _ hr'
      | mu d' =>
        obtain ⟨b, e1, e2, e3⟩ := hr'
        refine ⟨b, e1, List.mem_filter.mpr ⟨e2, bne_iff_ne.mpr fun q => ?_⟩, e3.mono hle fun _ q => q⟩
        exact hy (congrArg Prod.fst (nodup_inj G.nodup_mu e2 hm q)).symm
end

section
variable {W : Wd} {F : Fc} {ρ ρ₁ ρ₂ : Sto}

theorem Exs.freeze {x : Str} {d : D} {ss : List Stmt} {fl : Fl} (e : ρ.get x = some (.mu d)) (h : Exs W F (ρ.set x (.imm d)) ss ρ₁ fl) : Exs W F ρ ss ρ₁ fl := .mk fun s K μ Q E G hQ => by
  obtain ⟨K', μ', sg, hμ, G'⟩ := G.freeze e
  have hm : ∀ p ∈ μ', p.2 ∈ own F.env μ ∨ s.heap.get? p.2 = none := fun p hp => .inl (own_mu (x := p.1) (hμ p hp))
  refine h.run s K' μ' Q E G' ?_
  cases fl with
  | next => exact fun K₂ μ₂ h₂ tk₂ s₂ m₂ G₂ => hQ K₂ μ₂ h₂ tk₂ (sg.trans hm s₂) (mu_trans sg hm m₂) G₂
  | ret d => exact fun v K₂ h₂ tk₂ s₂ r => hQ v K₂ h₂ tk₂ (sg.trans hm s₂) r

/-! ### x[k] = e -/
noncomputable def setK (ks : List (List Nat)) (x : List Nat) : List (List Nat) := if x ∈ ks then ks else ks ++ [x]
noncomputable def setV : List (List Nat) → List D → List Nat → D → List D
  | k :: ks, d :: ds, x, e => if k = x then e :: ds else d :: setV ks ds x e
  | _, _, _, e => [e]

theorem map_same {x : Str} {v : Value} : ∀ {kvs : List (Str × Value)}, x ∉ kvs.map (·.1) → kvs.map (fun kv => if kv.1 = x then (kv.1, v) else kv) = kvs
  | [], _ => rfl
  | p :: r, h => by
    simp only [List.map_cons, List.mem_cons, not_or] at h
    simp only [List.map_cons]
    rw [if_neg (Ne.symm h.1), map_same h.2]

theorem stored_rep {K : Kn} {x : List Nat} {d : D} {v : Value} (hv : Rep W.prog W.w K d v) : ∀ {kvs : List (Str × Value)} {ks : List (List Nat)} {ds : List D}, (kvs.map (·.1)).Nodup → kvs.map (·.1) = ks.map mkS → RepL W.prog W.w K ds (kvs.map (·.2)) →
    (stored kvs (mkS x) v).map (·.1) = (setK ks x).map mkS ∧ RepL W.prog W.w K (setV ks ds x d) ((stored kvs (mkS x) v).map (·.2))
  | [], ks, ds, _, hk, hr => by
    have h1 : ks = [] := by simpa using hk.symm
    subst h1
    have h2 : ds = [] := by have := hr.length; simpa using this.symm
    subst h2
    exact ⟨rfl, v, _, rfl, hv, rfl⟩
  | (k, u) :: kvs, [], ds, _, hk, _ => by simp at hk
  | (k, u) :: kvs, y :: ks, [], _, _, hr => by have := hr.length; simp at this
  | (k, u) :: kvs, y :: ks, e :: ds, hn, hk, hr => by
    simp only [List.map_cons, List.cons.injEq] at hk
    simp only [List.map_cons, RepL] at hr
    obtain ⟨v', vs', e1, h1, h2⟩ := hr
    simp only [List.cons.injEq] at e1
    obtain ⟨rfl, rfl⟩ := e1
    obtain ⟨rfl, hk⟩ := hk
    simp only [List.map_cons, List.nodup_cons] at hn
    by_cases hy : y = x
    · subst hy
      have e2 : stored ((mkS y, u) :: kvs) (mkS y) v = (mkS y, v) :: kvs := by
        unfold stored
        rw [if_pos (by simp)]
        simp only [List.map_cons, if_true]
        rw [map_same hn.1]
      rw [e2]
      refine ⟨?_, ?_⟩
      · unfold setK; rw [if_pos (by simp)]; simp [hk]
      · simp only [setV, if_true, List.map_cons]
        exact ⟨v, _, rfl, hv, h2⟩
    · have hne : mkS y ≠ mkS x := fun q => hy (mkS_inj q)
      have e2 : stored ((mkS y, u) :: kvs) (mkS x) v = (mkS y, u) :: stored kvs (mkS x) v := by
        unfold stored
        simp only [List.any_cons, List.map_cons, hne, decide_false, Bool.false_or, if_false]
        by_cases q : (kvs.any fun kv => decide (kv.1 = mkS x)) = true
        · rw [if_pos q, if_pos q]
        · rw [if_neg q, if_neg q]; rfl
      obtain ⟨i1, i2⟩ := stored_rep hv hn.2 hk h2
      rw [e2]
      refine ⟨?_, ?_⟩
      · rw [List.map_cons, i1]
        unfold setK
        by_cases q : x ∈ ks
        · rw [if_pos q, if_pos (.tail _ q)]; rfl
        · rw [if_neg q, if_neg (by simp [Ne.symm hy, q])]; rfl
      · simp only [setV, hy, if_false, List.map_cons]
        exact ⟨u, _, rfl, h1, i2⟩

theorem Heap.DictOf.nodup {h : Heap} {a : Addr} {kvs : List (Str × Value)} (x : h.DictOf (strKind W.prog W.w) a kvs) : (kvs.map (·.1)).Nodup := let ⟨_, _, _, _, _, _, _, _, hn⟩ := x; hn

theorem Ex.setDict {x : Str} {i e : Expr} {p q pos : Pos} {k : List Nat} {ks : List (List Nat)} {ds : List D} {d : D} (e₁ : ρ.get x = some (.mu (.dict ks ds))) (hi : Ev W F ρ i (.str k)) (he : Ev W F ρ e d) (hl : ks.length ≤ sizeLine)
    (hd : (x == ("__debug__" : Str)) = false := by decide) (hs : swapsWith e (some (.Subscript (.Name x p) i q)) pos.line F.env = pure false := by rfl) : Ex W F ρ (.Assign [.Subscript (.Name x p) i q] e pos) (ρ.set x (.mu (.dict (setK ks k) (setV ks ds k d)))) .next := .mk fun s K μ Q E G hQ =>
  wpAny_Assign_Subscript (he.run s K μ _ _ G fun v K₁ h₁ tk₁ g₁ r₁ => by
    have G₁ := G.grow g₁
    obtain ⟨v₀, hb, a, rfl, hm, mo⟩ := G₁.vals _ _ e₁
    refine wpAny_Name (hb.load F.hk (hi.run _ K₁ μ _ _ G₁ fun kv K₂ h₂ tk₂ g₂ r₂ => ?_)) hd
    have G₂ := G₁.grow g₂
    obtain ⟨t, rfl⟩ := r₂
    obtain ⟨kvs, ⟨hdd, hy⟩, hk, hr⟩ := mo.mono (h' := h₂) g₂.le fun o => g₂.ext a o
    have hlen : kvs.length = ks.length := by simpa using congrArg List.length hk
    refine wpAny_setItem_pairs (strKind_is W.prog W.w (mkS k) t) hdd (fun h' hd' sb => ?_) (by omega)
    obtain ⟨i1, i2⟩ := stored_rep (W := W) (x := k) (Rep.mono g₂.le _ _ r₁) (Mine.Heap.DictOf.nodup hdd) hk hr
    obtain ⟨sg, G₃⟩ := G₂.mutate e₁ (hb.ext g₂.ext) hm sb (d' := .dict (setK ks k) (setV ks ds k d)) ⟨_, ⟨hd', hy⟩, i1, i2⟩
    exact hQ K₂ μ h' _ ((SGrow.of_grow (g₁.trans g₂)).trans mu_same sg) mu_same G₃) hs

/-- x[k] += e, x a dict -/
theorem Ex.augDict {x : Str} {i e : Expr} {p q pos : Pos} {op : Operator} {k : List Nat} {ks : List (List Nat)} {ds : List D} {d₀ d₁ d : D} (e₁ : ρ.get x = some (.mu (.dict ks ds))) (hi : Ev W F ρ i (.str k)) (hlk : lookD ks ds k = some d₀) (he : Ev W F ρ e d₁) (ho : V2 W F (inplaceOp op) d₀ d₁ d) (hl : ks.length ≤ sizeLine)
    (hd : (x == ("__debug__" : Str)) = false := by decide) (ha : ∀ ov iv new, augStore i ov iv new = (do holding [new, ov, iv] (setItem ov iv new); release [new, ov, iv] []; pure .next) := by intros; rfl) : Ex W F ρ (.AugAssign (.Subscript (.Name x p) i q) op e pos) (ρ.set x (.mu (.dict (setK ks k) (setV ks ds k d)))) .next := .mk fun s K μ Q E G hQ => by
  obtain ⟨v₀, hb, a, rfl, hm, mo⟩ := G.vals _ _ e₁
  refine wpAny_AugAssign_SubscriptAny (wpAny_Name (hb.load F.hk (hi.run s K μ _ _ G fun kv K₁ h₁ tk₁ g₁ r₁ => ?_)) hd) ha
  obtain ⟨t, rfl⟩ := r₁
  have G₁ := G.grow g₁
  have mo₁ := mo.mono (h' := h₁) g₁.le fun o => g₁.ext a o
  obtain ⟨kvs, ⟨hdd, hy⟩, hk, hr⟩ := id mo₁
  refine dict_get hdd hk hr hlk fun old rold => ?_
  refine he.run _ K₁ μ _ _ G₁ fun v₁ K₂ h₂ tk₂ g₂ r₂ => ?_
  refine ho _ K₂ old v₁ g₂.sub (G₁.grow g₂).base (Rep.mono g₂.le _ _ rold) r₂ _ _ fun v K₃ h₃ tk₃ g₃ r₃ => ?_
  have G₃ := (G₁.grow g₂).grow g₃
  obtain ⟨kvs, ⟨hdd, hy⟩, hk, hr⟩ := mo₁.mono (h' := h₃) (g₂.trans g₃).le fun o => (g₂.trans g₃).ext a o
  have hlen : kvs.length = ks.length := by simpa using congrArg List.length hk
  refine wpAny_setItem_pairs (strKind_is W.prog W.w (mkS k) t) hdd (fun h' hd' sb => ?_) (by omega)
  obtain ⟨i1, i2⟩ := stored_rep (W := W) (x := k) r₃ (Mine.Heap.DictOf.nodup hdd) hk hr
  obtain ⟨sg, G₄⟩ := G₃.mutate e₁ (((hb.ext g₁.ext).ext g₂.ext).ext g₃.ext) hm sb (d' := .dict (setK ks k) (setV ks ds k d)) ⟨_, ⟨hd', hy⟩, i1, i2⟩
  exact hQ K₃ μ h' _ ((SGrow.of_grow (g₁.trans (g₂.trans g₃))).trans mu_same sg) mu_same G₄

/-- x[k] = e, x a list -/
theorem Ex.setList {x : Str} {i e : Expr} {p q pos : Pos} {k : Nat} {l : List D} {d : D} (e₁ : ρ.get x = some (.mu (.list l))) (hi : Ev W F ρ i (.int k)) (he : Ev W F ρ e d) (hk : k < l.length) (hl : l.length ≤ sizeLine)
    (hd : (x == ("__debug__" : Str)) = false := by decide) (hs : swapsWith e (some (.Subscript (.Name x p) i q)) pos.line F.env = pure false := by rfl) : Ex W F ρ (.Assign [.Subscript (.Name x p) i q] e pos) (ρ.set x (.mu (.list (l.set k d)))) .next := .mk fun s K μ Q E G hQ =>
  wpAny_Assign_Subscript (he.run s K μ _ _ G fun v K₁ h₁ tk₁ g₁ r₁ => by
    have G₁ := G.grow g₁
    obtain ⟨v₀, hb, a, rfl, hm, mo⟩ := G₁.vals _ _ e₁
    refine wpAny_Name (hb.load F.hk (hi.run _ K₁ μ _ _ G₁ fun kv K₂ h₂ tk₂ g₂ r₂ => ?_)) hd
    have G₂ := G₁.grow g₂
    obtain ⟨t, rfl⟩ := r₂
    obtain ⟨vs, ⟨n, hn⟩, hr⟩ := mo.mono (h' := h₂) g₂.le fun o => g₂.ext a o
    have hlen := hr.length
    simp at hlen
    rw [sizeLine_eq] at hl
    refine ki_setAt (n := n) hn (by omega) (by omega) (by omega) ?_
    have q := PySem.IsL.update hn (·.setIfInBounds (k : Int).toNat v)
    obtain ⟨sg, G₃⟩ := G₂.mutate e₁ (hb.ext g₂.ext) hm (Heap.SameBut.update ..) (d' := .list (l.set k d)) ⟨_, ⟨_, q⟩, RepL.of_get (by simp [hlen]) fun j x y hx hy => by
      simp only [Int.toNat_natCast, Array.toList_setIfInBounds] at hy
      rw [List.getElem?_set] at hx hy
      by_cases hj : k = j
      · subst hj
        simp only [if_true, hk] at hx
        simp only [if_true, show k < vs.toList.length by simp; omega] at hy
        obtain rfl := Option.some.inj hx
        obtain rfl := Option.some.inj hy
        exact Rep.mono g₂.le _ _ r₁
      · rw [if_neg hj] at hx hy
        obtain ⟨y', hy', hrep⟩ := hr.get hx
        rw [hy'] at hy
        obtain rfl := Option.some.inj hy
        exact hrep⟩
    exact hQ K₂ μ _ _ ((SGrow.of_grow (g₁.trans g₂)).trans mu_same sg) mu_same G₃) hs

/-- x.extend([..]) -/
theorem Ex.extend {x name : Str} {e : Expr} {p apos cpos pos : Pos} {l ds : List D} (hn : name = "extend") (e₁ : ρ.get x = some (.mu (.list l))) (he : EvO W F ρ e (.list ds)) (hl : l.length + ds.length ≤ sizeLine)
    (hd : (x == ("__debug__" : Str)) = false := by decide) (hbase : attributeBase (.Name x p) name F.env (eval (.Name x p) F.env) = eval (.Name x p) F.env := by rfl) (hs : starEach [e] F.env = [(false, eval e F.env)] := by rfl) (hline : (apos.endLine == cpos.line) = true := by rfl)
    (hi : interactive F.env = false := by rfl) (hsw : swapsWith (.Call (.Attribute (.Name x p) name apos) [e] [] cpos) none pos.line F.env = pure false := by rfl) : Ex W F ρ (.Expr (.Call (.Attribute (.Name x p) name apos) [e] [] cpos) pos) (ρ.set x (.mu (.list (l ++ ds)))) .next := .mk fun s K μ Q E G hQ => by
  subst hn
  obtain ⟨v₀, hb, a, rfl, hm, mo⟩ := G.vals _ _ e₁
  obtain ⟨vs, ⟨n, hno⟩, hr⟩ := id mo
  refine wpAny_Expr_any (Call_method1 hbase hs hline (wpAny_Name (hb.load F.hk ?_) hd)) hi hsw
  refine ⟨"list", "list.extend", PySem.F.plainAttrs_list, PySem.F.slot_list_extend, PySem.F.type_list_extend, ⟨_, hno, rfl⟩, (fun b q => ⟨_, (by cases q; exact hno), rfl⟩), ?_⟩
  refine P.extend_list (he.run s K μ _ _ G fun b K₁ h₁ tk₁ g₁ hbn hbK mob => ?_)
  obtain ⟨vs₁, ⟨n₁, hno₁⟩, hr₁⟩ := mo.mono (h' := h₁) g₁.le fun o => g₁.ext a o
  obtain ⟨vs₂, ⟨n₂, hno₂⟩, hr₂⟩ := mob
  have l1 := hr₁.length
  have l2 := hr₂.length
  simp at l1 l2
  refine ⟨b, vs₁, vs₂, n₁, n₂, by omega, by omega, extend_door (by omega), rfl, hno₁, hno₂, ?_⟩
  have q := PySem.IsL.update hno₁ (fun xs => xs ++ vs₂)
  obtain ⟨sg, G₃⟩ := (G.grow g₁).mutate e₁ (hb.ext g₁.ext) hm (Heap.SameBut.update ..) (d' := .list (l ++ ds)) ⟨_, ⟨_, q⟩, by rw [Array.toList_append]; exact RepL.append hr₁ hr₂⟩
  exact hQ K₁ μ _ _ ((SGrow.of_grow g₁).trans mu_same sg) mu_same G₃
end
end Mine

namespace Mine

section
variable {W : Wd} {F : Fc} {env : Env} {K K' : Kn} {μ : List (Str × Addr)} {ρ : Sto} {h h' : Heap}

/-- one object apart has changed, that nobody here looks at -/
theorem Good.but {I : Addr} (G : Good W env K μ ρ h) (hI : K I = none) (ho : I ∉ own env μ) (hx : ∀ b o, b ≠ I → h.get? b = some o → h'.get? b = some o) : Good W env K μ ρ h' := by
  have hKI : ∀ b o, K b = some o → b ≠ I := fun b o e q => by rw [q, hI] at e; cases e
  have hL : env.locals ≠ I := fun q => ho (q ▸ own_locals)
  refine ⟨fun b o e => hx b o (hKI b o e) (G.sub b o e), G.base, G.nodup, G.off, fun p hp => ?_, ?_, fun p hp => ?_, fun y lv e => ?_⟩
  · obtain ⟨o, e⟩ := G.live p hp
    exact ⟨o, hx _ _ (fun q => ho (q ▸ own_mu (x := p.1) hp)) e⟩
  · obtain ⟨m, o, es, ep, e, r⟩ := G.ns; exact ⟨m, o, es, ep, hx _ _ hL e, r⟩
  · obtain ⟨v, o, e, r⟩ := G.cells p hp
    exact ⟨v, o, hx _ _ (fun q => ho (q ▸ own_cell (x := p.1) hp)) e, r⟩
  · obtain ⟨v, hb, hr⟩ := G.vals y lv e
    refine ⟨v, ?_, hr.mono (fun _ _ q => q) fun a o hm => hx a o fun q => ho (q ▸ own_mu hm)⟩
    rcases hb with ⟨k, m', ⟨o, es, ep, e, r⟩, hm⟩ | ⟨k, c', hc', ⟨o, e, r⟩⟩
    · exact .inl ⟨k, m', ⟨o, es, ep, hx _ _ hL e, r⟩, hm⟩
    · exact .inr ⟨k, c', hc', o, hx _ _ (fun q => ho (q ▸ own_cell (mem_of_lookup' hc'))) e, r⟩

/-- the iterator object of a loop is none of ours -/
theorem own_up {μ' : List (Str × Addr)} {I : Addr} {o : Obj} (hμ : ∀ p ∈ μ', p.2 ∈ own env μ ∨ h.get? p.2 = none) (hI : I ∉ own env μ) (hl : h.get? I = some o) : I ∉ own env μ' := fun hm => by
  unfold own at hm hI
  rcases List.mem_cons.mp hm with q | hm
  · exact hI (q ▸ .head _)
  · rcases List.mem_append.mp hm with hm | hm
    · exact hI (.tail _ (List.mem_append_left _ hm))
    · obtain ⟨p, hp, rfl⟩ := List.mem_map.mp hm
      rcases hμ p hp with q | q
      · exact hI q
      · rw [q] at hl; cases hl
end

section
variable {W : Wd} {F : Fc} {ρ ρ₁ ρ₂ : Sto}

/-! ### what a loop goes over -/
noncomputable def ItPost (W : Wd) (K : Kn) (s : Shared) (ds : List D) (Q : Value → Shared → Prop) : Prop :=
  ∀ I fp St K' h' tk, Grow K s.heap K' h' → (∀ A' : Around, A'.handled = none → Walks W.prog W.w A' I fp [I] ds.length (fun i v => ∃ d, ds[i]? = some d ∧ Rep W.prog W.w K' d v) St) → St 0 h' →
    (∀ b ∈ fp, b = I ∨ K' b ≠ none) → s.heap.get? I = none → K' I = none → (∀ i h, St i h → ∃ o, h.get? I = some o) → Q (.ref I) { s with heap := h', toks := tk }
structure It (W : Wd) (F : Fc) (ρ : Sto) (e : Expr) (ds : List D) : Prop where
  run :
    ∀ (s : Shared) (K : Kn) (μ : List (Str × Addr)) (Q E : Value → Shared → Prop), Good W F.env K μ ρ s.heap → ItPost W K s ds Q →
      wpAny (model W.prog W.w) F.A (eval e F.env) (fun x s₁ => wpAny (model W.prog W.w) F.A (pyIter x) Q E s₁) E s

theorem Walks.weak {prog : Program} {w : World} {A : Around} {I : Addr} {fp wr : List Addr} {n : Nat} {P P' : Nat → Value → Prop} {St : Nat → Heap → Prop} (X : Walks prog w A I fp wr n P St) (hP : ∀ i v, i < n → P i v → P' i v) : Walks prog w A I fp wr n P' St where
  sub := X.sub
  frame := X.frame
  item := fun i s Q E hi st hQ => X.item i s Q E hi st fun v h' tk hv => hQ v h' tk (hP i v hi hv)
  done := X.done
  self := X.self

theorem not_known {K : Kn} {h : Heap} (hs : ∀ b o, K b = some o → h.get? b = some o) {a : Addr} (hn : h.get? a = none) : K a = none := by
  cases e : K a with
  | none => rfl
  | some o => rw [hs _ _ e] at hn; cases hn

theorem It.str {e : Expr} {l : List Nat} (h : Ev W F ρ e (.str l)) : It W F ρ e (l.map fun c => .str [c]) := .mk fun s K μ Q E G hQ =>
  h.run s K μ _ _ G fun v K₁ h₁ tk₁ g₁ r₁ => by
    obtain ⟨t, rfl⟩ := r₁
    have hn : h₁.get? h₁.objs.size = none := get?_size _
    have hn' : s.heap.get? h₁.objs.size = none := by
      cases e : s.heap.get? h₁.objs.size with
      | none => rfl
      | some o => rw [g₁.ext _ _ e] at hn; cases hn
    have main : ∀ (o : Obj) (St : Nat → Heap → Prop), (∀ A' : Around, A'.handled = none → Walks W.prog W.w A' h₁.objs.size [h₁.objs.size] [h₁.objs.size] (mkS l).cps.size (SignAt (mkS l)) St) → St 0 (h₁.push o) → (∀ i h, St i h → ∃ o, h.get? h₁.objs.size = some o) →
        Q (.ref h₁.objs.size) { s with heap := h₁.push o, toks := tk₁ } := fun o St hW h0 hlive => by
      refine hQ _ _ St K₁ _ _ (g₁.trans (.of_ext g₁.sub fun b o e => Heap.get?_push_of_some _ e)) (fun A' hA => ?_) h0 (fun b hb => .inl (List.mem_singleton.mp hb)) hn' (not_known g₁.sub hn) hlive
      have X := hW A' hA
      have e1 : (mkS l).cps.size = (l.map fun c => D.str [c]).length := by simp [mkS]
      rw [e1] at X
      refine Mine.Walks.weak X fun i v hi hv => ?_
      obtain ⟨c, u, hc, rfl⟩ := hv
      exact ⟨.str [c], by simp [mkS] at hc; simp [hc], u, rfl⟩
    cases ha : (mkS l).cps.all (· < 128)
    · exact wpAny_pyIter_wide ha (main _ _ (fun A' hA => Walks.strWide hA _ (mkS l) t) ⟨_, Heap.get?_push_size _ rfl, rfl, rfl⟩ fun i h ⟨o, ho, _⟩ => ⟨o, ho⟩)
    · exact wpAny_pyIter_ascii ha (main _ _ (fun A' hA => Walks.strAscii hA _ (mkS l) t) ⟨_, Heap.get?_push_size _ rfl, rfl, rfl⟩ fun i h ⟨o, ho, _⟩ => ⟨o, ho⟩)

theorem It.range1 {x : Str} {e : Expr} {p pos : Pos} {n : Nat} (h : Ev W F ρ e (.int n)) (hn : n ≤ sizeLine) (hb : bootBuiltins x = some (.type "range")) (hm : W.mg x = none) (hne : x ≠ "__name__") (hx : F.env.kindOf x = some .globalImplicit)
    (hd : (x == ("__debug__" : Str)) = false := by decide) (he : starEach [e] F.env = (false, eval e F.env) :: starEach [] F.env := by rfl) : It W F ρ (.Call (.Name x p) [e] [] pos) ((List.range n).map fun (i : Nat) => .int i) := .mk fun s K μ Q E G hQ =>
  Call_ (load_builtin (W := W) F.hk F.hg F.hb hx G.baseIn hm hb hne (PyProof.Rows.callWith_type1 (spliced_more (h.run s K μ _ _ G fun v K₁ h₁ tk₁ g₁ r₁ => spliced_none (by
    obtain ⟨t, rfl⟩ := r₁
    rw [sizeLine_eq] at hn
    refine call_range_1 ?_
    have hsz : Builtin.Range.rangeSize 0 (n : Int) 1 = (n : Int) := by rw [rangeSize_one]; split <;> omega
    generalize hob : ({ cls := .type "range", data := .fields #[.int 0 tk₁, .int n t, .int 1 (tk₁ + 1)] } : Obj) = ob
    have hr : IsRange (h₁.push ob) h₁.objs.size 0 n 1 tk₁ t (tk₁ + 1) := by rw [← hob]; exact IsRange.new ..
    refine wpAny_pyIter_range hr (small_one (by omega) (by omega) (by omega) (by omega)) ?_
    rw [hsz]
    have g₂ := Grow.of_ext (K := K₁) (h := h₁) (h' := h₁.push ob) g₁.sub (fun b o e => Heap.get?_push_of_some _ e)
    have hnn : (h₁.push ob).get? (h₁.push ob).objs.size = none := get?_size _
    refine hQ _ [(h₁.push ob).objs.size] (fun i h => IsRangeIter h (h₁.push ob).objs.size (0 + (i : Nat) * 1) ((n : Int) - (i : Nat)) 1) K₁ _ _ (g₁.trans (g₂.trans (.of_ext g₂.sub fun b o e => Heap.get?_push_of_some _ e))) (fun A' hA => ?_) ?_ (fun b hb => .inl (List.mem_singleton.mp hb)) ?_ (not_known g₂.sub hnn) (fun i h q => ⟨_, q⟩)
    · have X := Walks.range (prog := W.prog) (w := W.w) hA (h₁.push ob).objs.size 0 1 n
      have e1 : ((List.range n).map fun (i : Nat) => D.int i).length = n := by simp
      rw [e1]
      refine Mine.Walks.weak X fun i v hi hv => ?_
      obtain ⟨u, rfl⟩ := hv
      exact ⟨.int i, by simp [hi], u, by simp⟩
    · show IsRangeIter _ _ _ _ _
      simpa using Heap.get?_push_size (h₁.push ob) (o := { cls := .type "range_iterator", data := .fields #[rawInt 0, rawInt n, rawInt 1] }) rfl
    · cases e : s.heap.get? (h₁.push ob).objs.size with
      | none => rfl
      | some o => rw [g₂.ext _ _ (g₁.ext _ _ e)] at hnn; cases hnn)) he) he) hd)

/-! ### for -/
inductive LoopR (W : Wd) (F : Fc) (x : Str) (body : List Stmt) : List D → Sto → Sto → Fl → Prop
  | nil {ρ : Sto} : LoopR W F x body [] ρ ρ .next
  | cons {d : D} {ds : List D} {ρ ρ₁ ρ₂ : Sto} {fl : Fl} : Exs W F (ρ.set x (.imm d)) body ρ₁ .next → LoopR W F x body ds ρ₁ ρ₂ fl → LoopR W F x body (d :: ds) ρ ρ₂ fl
  | ret {d r : D} {ds : List D} {ρ ρ₁ ρ₂ : Sto} : Exs W F (ρ.set x (.imm d)) body ρ₁ (.ret r) → LoopR W F x body (d :: ds) ρ ρ₂ (.ret r)

theorem Ex.forName {x : Str} {iter : Expr} {body : List Stmt} {p pos : Pos} {ds : List D} {fl : Fl} (hi : It W F ρ iter ds) (hl : LoopR W F x body ds ρ ρ₁ fl) (hx : Storable F.env x)
    (hs : ∀ v, foldedSetIterable iter F.env v = pure v := by intro _; rfl) : Ex W F ρ (.For (.Name x p) iter body [] pos) ρ₁ fl := .mk fun s K μ Q E G hQ => by
  refine wpAny_For (hi.run s K μ _ _ G fun I fp St K₁ h₁ tk₁ g₁ hW hst hfp hIn hIK hIo => ?_) hs
  have X := hW F.A F.hh
  have hIown : I ∉ own F.env μ := fun hm => by obtain ⟨o, ho⟩ := G.ownLive hm; rw [hIn] at ho; cases ho
  have hneI : ∀ b o, s.heap.get? b = some o → b ≠ I := fun b o e q => by rw [q, hIn] at e; cases e
  refine codeAny_forLoop (fun n s' => ∃ i K₂ μ₂ ρ₂ h₂ tk₂, s' = { s with heap := h₂, toks := tk₂ } ∧ n = ds.length + 1 - i ∧ i ≤ ds.length ∧ SGrow F.env K μ s.heap K₂ h₂ ∧ (∀ p ∈ μ₂, p.2 ∈ own F.env μ ∨ s.heap.get? p.2 = none) ∧ Good W F.env K₂ μ₂ ρ₂ h₂ ∧
    St i h₂ ∧ K₂ I = none ∧ I ∉ own F.env μ₂ ∧ (∀ b o, K₁ b = some o → K₂ b = some o) ∧ LoopR W F x body (ds.drop i) ρ₂ ρ₁ fl) ?_ (ds.length + 1)
    ⟨0, K₁, μ, ρ, h₁, tk₁, rfl, rfl, Nat.zero_le _, .of_grow g₁, mu_same, G.grow g₁, hst, hIK, hIown, fun _ _ e => e, by simpa using hl⟩
  rintro n s' ⟨i, K₂, μ₂, ρ₂, h₂, tk₂, rfl, rfl, hile, sg, hμ, G₂, hst₂, hIK₂, hIo₂, hK, hL⟩
  have hfr : ∀ {K₃ K₄ : Kn} {h₃ h₄ : Heap} {j : Nat}, (∀ b o, K₁ b = some o → K₃ b = some o) → (∀ b o, K₁ b = some o → K₄ b = some o) → (∀ b o, K₃ b = some o → h₃.get? b = some o) → (∀ b o, K₄ b = some o → h₄.get? b = some o) → (∀ o, h₃.get? I = some o → h₄.get? I = some o) → St j h₃ → St j h₄ := fun hk hk' h3 h4 hI st => X.frame _ _ _ st fun b hb o e => by
    rcases hfp b hb with rfl | hb
    · exact hI o e
    · cases q : K₁ b with
      | none => exact absurd q hb
      | some o' =>
        have := h3 _ _ (hk _ _ q)
        rw [this] at e
        obtain rfl := Option.some.inj e
        exact h4 _ _ (hk' _ _ q)
  have sgI : ∀ {h₃ : Heap}, (∀ b o, b ≠ I → h₂.get? b = some o → h₃.get? b = some o) → Good W F.env K₂ μ₂ ρ₂ h₃ → SGrow F.env K μ s.heap K₂ h₃ := fun hk G' =>
    ⟨fun b o hb e => hk b o (hneI b o e) (sg.ext b o hb e), sg.le, G'.sub, sg.fresh⟩
  by_cases hlt : i < ds.length
  · refine X.item i _ _ _ hlt hst₂ fun v h₃ tk₃ hv hst₃ hk₃ => ?_
    obtain ⟨d, hd, hrep⟩ := hv
    have hk₃' : ∀ b o, b ≠ I → h₂.get? b = some o → h₃.get? b = some o := fun b o hb => hk₃ b o (by simpa using hb)
    have G₃ := G₂.but hIK₂ hIo₂ hk₃'
    have sg₃ := sgI hk₃' G₃
    have hdd : ds[i] = d := by simpa [hlt] using hd
    rw [List.drop_eq_getElem_cons hlt, hdd] at hL
    obtain ⟨oI, hoI⟩ := hIo _ _ hst₃
    refine wpAny_assign_Name (G₃.store F.hk hx (lv := .imm d) (Rep.mono hK _ _ hrep) fun h₄ tk₄ sg₄ G₄ => ?_)
    have hst₄ : St (i + 1) h₄ := hfr hK hK G₃.sub G₄.sub (fun o e => sg₄.ext I o hIo₂ e) hst₃
    have sg₃₄ := sg₃.trans hμ sg₄
    have hoI₄ := sg₄.ext I oI hIo₂ hoI
    cases hL with
    | cons hE hrest =>
      refine hE.run _ K₂ μ₂ _ _ G₄ fun K₅ μ₅ h₅ tk₅ sg₅ m₅ G₅ => ⟨_, ?_, i + 1, K₅, μ₅, _, h₅, tk₅, rfl, rfl, hlt, sg₃₄.trans hμ sg₅, mu_trans sg₃₄ hμ m₅, G₅, ?_, ?_, own_up m₅ hIo₂ hoI₄, fun b o e => sg₅.le _ _ (hK b o e), hrest⟩
      · omega
      · exact hfr hK (fun b o e => sg₅.le _ _ (hK b o e)) G₄.sub G₅.sub (fun o e => sg₅.ext I o hIo₂ e) hst₄
      · exact sg₅.fresh I hIK₂ (by show h₄.get? I ≠ none; rw [hoI₄]; simp) hIo₂
    | ret hE =>
      exact hE.run _ K₂ μ₂ _ _ G₄ fun v K₅ h₅ tk₅ sg₅ r => hQ v K₅ h₅ tk₅ (sg₃₄.trans hμ sg₅) r
  · have hie : i = ds.length := by omega
    subst hie
    refine X.done _ _ _ hst₂ fun h₃ tk₃ hk₃ => wpAny_execs_nil ?_
    have hk₃' : ∀ b o, b ≠ I → h₂.get? b = some o → h₃.get? b = some o := fun b o hb => hk₃ b o (by simpa using hb)
    have G₃ := G₂.but hIK₂ hIo₂ hk₃'
    rw [List.drop_length] at hL
    cases hL
    exact hQ K₂ μ₂ h₃ tk₃ (sgI hk₃' G₃) hμ G₃

/-! ### while -/
inductive WhileR (W : Wd) (F : Fc) (test : Expr) (body : List Stmt) : Nat → Sto → Sto → Fl → Prop
  | done {ρ : Sto} {n : Nat} : Ts W F ρ test false → WhileR W F test body n ρ ρ .next
  | step {ρ ρ₁ ρ₂ : Sto} {n : Nat} {fl : Fl} : Ts W F ρ test true → Exs W F ρ body ρ₁ .next → WhileR W F test body n ρ₁ ρ₂ fl → WhileR W F test body (n + 1) ρ ρ₂ fl
  | ret {ρ ρ₁ ρ₂ : Sto} {n : Nat} {d : D} : Ts W F ρ test true → Exs W F ρ body ρ₁ (.ret d) → WhileR W F test body n ρ ρ₂ (.ret d)

theorem Ex.while {test : Expr} {body : List Stmt} {pos : Pos} {n : Nat} {fl : Fl} (hl : WhileR W F test body n ρ ρ₁ fl) : Ex W F ρ (.While test body [] pos) ρ₁ fl := .mk fun s K μ Q E G hQ => by
  refine wpAny_While (codeAny_whileLoop (fun n s' => ∃ K₂ μ₂ ρ₂ h₂ tk₂, s' = { s with heap := h₂, toks := tk₂ } ∧ SGrow F.env K μ s.heap K₂ h₂ ∧ (∀ p ∈ μ₂, p.2 ∈ own F.env μ ∨ s.heap.get? p.2 = none) ∧ Good W F.env K₂ μ₂ ρ₂ h₂ ∧ WhileR W F test body n ρ₂ ρ₁ fl) ?_ n
    ⟨K, μ, ρ, s.heap, s.toks, rfl, .of_grow (.refl G.sub), mu_same, G, hl⟩)
  rintro n s' ⟨K₂, μ₂, ρ₂, h₂, tk₂, rfl, sg, hμ, G₂, hR⟩
  cases hR with
  | done ht =>
    refine ht.run _ K₂ μ₂ _ _ G₂ fun K₃ h₃ tk₃ g₃ => ?_
    rw [if_neg (by simp)]
    exact wpAny_execs_nil (hQ K₃ μ₂ h₃ tk₃ (sg.trans hμ (.of_grow g₃)) hμ (G₂.grow g₃))
  | step ht hE hrest =>
    refine ht.run _ K₂ μ₂ _ _ G₂ fun K₃ h₃ tk₃ g₃ => ?_
    rw [if_pos rfl]
    have sg₃ := sg.trans hμ (.of_grow g₃)
    exact hE.run _ K₃ μ₂ _ _ (G₂.grow g₃) fun K₄ μ₄ h₄ tk₄ sg₄ m₄ G₄ => ⟨_, Nat.lt_succ_self _, K₄, μ₄, _, h₄, tk₄, rfl, sg₃.trans hμ sg₄, mu_trans sg₃ hμ m₄, G₄, hrest⟩
  | ret ht hE =>
    refine ht.run _ K₂ μ₂ _ _ G₂ fun K₃ h₃ tk₃ g₃ => ?_
    rw [if_pos rfl]
    have sg₃ := sg.trans hμ (.of_grow g₃)
    exact hE.run _ K₃ μ₂ _ _ (G₂.grow g₃) fun v K₄ h₄ tk₄ sg₄ r => hQ v K₄ h₄ tk₄ (sg₃.trans hμ sg₄) r
end
end Mine

namespace Mine

section
variable {W : Wd} {F : Fc} {ρ ρ₁ ρ₂ : Sto}

theorem strKind_shape {k : Str} {v : Value} (h : (strKind W.prog W.w).is k v = true) : ∃ t, v = .str k t := Value.isStrOf_shape h

theorem get_keys {kvs : List (Str × Value)} {ks : List (List Nat)} (hk : kvs.map (·.1) = ks.map mkS) {i : Nat} {k : Str} {x : Value} (h : kvs[i]? = some (k, x)) : ∃ y, ks[i]? = some y ∧ k = mkS y := by
  have e : (kvs.map (·.1))[i]? = some k := by simp [h]
  rw [hk] at e
  simp only [List.getElem?_map, Option.map_eq_some_iff] at e
  obtain ⟨y, h1, h2⟩ := e
  exact ⟨y, h1, h2.symm⟩

theorem It.dict {e : Expr} {ks : List (List Nat)} {ds : List D} (h : Ev W F ρ e (.dict ks ds)) : It W F ρ e (ks.map .str) := .mk fun s K μ Q E G hQ =>
  h.run s K μ _ _ G fun v K₁ h₁ tk₁ g₁ r₁ => by
    obtain ⟨a, o, kvs, rfl, ho, ⟨hd, hy⟩, hk, hr⟩ := r₁
    obtain ⟨ep, hat⟩ := (dictOf_of (W := W) (g₁.sub _ _ ho) hd).dictAt
    have hlen : kvs.length = ks.length := by simpa using congrArg List.length hk
    refine wpAny_pyIter_dict hy hat ?_
    have hn : h₁.get? h₁.objs.size = none := get?_size _
    have hn' : s.heap.get? h₁.objs.size = none := by
      cases e : s.heap.get? h₁.objs.size with
      | none => rfl
      | some o => rw [g₁.ext _ _ e] at hn; cases hn
    have hne : a ≠ h₁.objs.size := fun q => by rw [q, not_known g₁.sub hn] at ho; cases ho
    refine hQ _ [h₁.objs.size, a] (fun i h => h.IsKeyIter h₁.objs.size a i kvs.length ep ∧ h.DictAt (strKind W.prog W.w) a kvs ep) K₁ _ _ (g₁.trans (.of_ext g₁.sub fun b o e => Heap.get?_push_of_some _ e)) (fun A' hA => ?_) ⟨⟨_, Heap.get?_push_size _ rfl, rfl, rfl⟩, hat.push _⟩ (fun b hb => ?_) hn' (not_known g₁.sub hn) (fun i h ⟨⟨o, ho, _⟩, _⟩ => ⟨o, ho⟩)
    · have X := Walks.dictKeys (knd := strKind W.prog W.w) hA h₁.objs.size a hne kvs ep
      have e1 : (ks.map D.str).length = kvs.length := by simp [hlen]
      rw [e1]
      refine Mine.Walks.weak X fun i v hi hv => ?_
      obtain ⟨k, x, hx, hkey⟩ := hv
      obtain ⟨t, rfl⟩ := strKind_shape hkey
      obtain ⟨y, hy, rfl⟩ := get_keys hk hx
      exact ⟨.str y, by simp [hy], t, rfl⟩
    · rcases List.mem_cons.mp hb with rfl | hb
      · exact .inl rfl
      · exact .inr (by rw [List.mem_singleton.mp hb, ho]; simp)

theorem It.values {o : Expr} {name : Str} {apos pos : Pos} {ks : List (List Nat)} {ds : List D} (hn : name = "values") (h : Ev W F ρ o (.dict ks ds))
    (hbase : attributeBase o name F.env (eval o F.env) = eval o F.env := by rfl) (hline : (apos.endLine == pos.line) = true := by rfl) : It W F ρ (.Call (.Attribute o name apos) [] [] pos) ds := .mk fun s K μ Q E G hQ => by
  subst hn
  refine Call_method0 hbase hline (h.run s K μ _ _ G fun v K₁ h₁ tk₁ g₁ r₁ => ?_)
  obtain ⟨a, o', kvs, rfl, ho, ⟨hd, hy⟩, hk, hr⟩ := r₁
  have hdo := dictOf_of (W := W) (g₁.sub _ _ ho) hd
  obtain ⟨ep, hat⟩ := hdo.dictAt
  refine ⟨"dict", _, PySem.F.plainAttrs_dict, PySem.F.slot_dict_values, PySem.F.type_dict_values, hdo.typeIs, hdo.mapOf.noDict, ?_⟩
  refine method_meetsIn PySem.F.slot_dict_values PySem.F.entry_dict_values rfl (PySem.evalArgs_none ⟨rfl, hdo.typeIs, PySem.F.args_dict_values_1 _, _, meets_dict_values (strKind W.prog W.w) a hy, ⟨kvs, hdo⟩, ?_⟩)
  have g₂ := Grow.of_ext (K := K₁) (h := h₁) (h' := h₁.push { cls := .type "dict_values", data := .fields #[.ref a] }) g₁.sub (fun b o e => Heap.get?_push_of_some _ e)
  show wpAny _ _ (pyIter (.ref h₁.objs.size)) _ _ _
  refine wpAny_pyIter_values (knd := strKind W.prog W.w) (d := a) (kvs := kvs) (ep := ep) ⟨_, Heap.get?_push_size _ rfl, rfl, rfl⟩ (hat.push _) ?_
  generalize hob : ({ cls := .type "dict_values", data := .fields #[.ref a] } : Obj) = ob at g₂ ⊢
  have hn : (h₁.push ob).get? (h₁.push ob).objs.size = none := get?_size _
  have hn' : s.heap.get? (h₁.push ob).objs.size = none := by
    cases e : s.heap.get? (h₁.push ob).objs.size with
    | none => rfl
    | some o => rw [g₂.ext _ _ (g₁.ext _ _ e)] at hn; cases hn
  have hne : a ≠ (h₁.push ob).objs.size := fun q => by rw [q, not_known g₂.sub hn] at ho; cases ho
  refine hQ _ [(h₁.push ob).objs.size, a] (fun i h => h.IsValIter (h₁.push ob).objs.size a i kvs.length ep ∧ h.DictAt (strKind W.prog W.w) a kvs ep) K₁ _ _ (g₁.trans (g₂.trans (.of_ext g₂.sub fun b o e => Heap.get?_push_of_some _ e))) (fun A' hA => ?_) ⟨⟨_, Heap.get?_push_size _ rfl, rfl, rfl⟩, (hat.push _).push _⟩ (fun b hb => ?_) hn' (not_known g₂.sub hn) (fun i h ⟨⟨o, ho, _⟩, _⟩ => ⟨o, ho⟩)
  · have X := Walks.dictValues (knd := strKind W.prog W.w) hA (h₁.push ob).objs.size a hne kvs ep
    have e1 : ds.length = kvs.length := by have := hr.length; simpa using this.symm
    rw [e1]
    refine Mine.Walks.weak X fun i v hi hv => ?_
    obtain ⟨k, hx⟩ := hv
    exact hr.get' (i := i) (by simp [hx])
  · rcases List.mem_cons.mp hb with rfl | hb
    · exact .inl rfl
    · exact .inr (by rw [List.mem_singleton.mp hb, ho]; simp)

/-! ### for k, v in d.items() -/
inductive LoopI (W : Wd) (F : Fc) (x y : Str) (body : List Stmt) : List (List Nat) → List D → Sto → Sto → Prop
  | nil {ρ : Sto} : LoopI W F x y body [] [] ρ ρ
  | cons {k : List Nat} {d : D} {ks : List (List Nat)} {ds : List D} {ρ ρ₁ ρ₂ : Sto} : Exs W F ((ρ.set x (.imm (.str k))).set y (.imm d)) body ρ₁ .next → LoopI W F x y body ks ds ρ₁ ρ₂ → LoopI W F x y body (k :: ks) (d :: ds) ρ ρ₂

theorem Ex.forItems {x y name : Str} {o : Expr} {body : List Stmt} {pk pv pt apos cpos pos : Pos} {x1 : Nat} {ks : List (List Nat)} {ds : List D} (hn : name = "items") (h : Ev W F ρ o (.dict ks ds)) (hl : LoopI W F x y body ks ds ρ ρ₁) (hx : Storable F.env x) (hy : Storable F.env y)
    (hbase : attributeBase o name F.env (eval o F.env) = eval o F.env := by rfl) (hline : (apos.endLine == cpos.line) = true := by rfl)
    (hs : ∀ v, foldedSetIterable (.Call (.Attribute o name apos) [] [] cpos) F.env v = pure v := by intro _; rfl) : Ex W F ρ (.For (.Tuple [.Name x pk, .Name y pv] x1 pt) (.Call (.Attribute o name apos) [] [] cpos) body [] pos) ρ₁ .next := .mk fun s K μ Q E G hQ => by
  subst hn
  refine wpAny_For (Call_method0 hbase hline (h.run s K μ _ _ G fun v K₁ h₁ tk₁ g₁ r₁ => ?_)) hs
  obtain ⟨a, o', kvs, rfl, ho, ⟨hd, hsy⟩, hk, hr⟩ := r₁
  have hdo := dictOf_of (W := W) (g₁.sub _ _ ho) hd
  obtain ⟨ep, hat⟩ := hdo.dictAt
  refine ⟨"dict", _, PySem.F.plainAttrs_dict, PySem.F.slot_dict_items, PySem.F.type_dict_items, hdo.typeIs, hdo.mapOf.noDict, ?_⟩
  refine method_meetsIn PySem.F.slot_dict_items PySem.F.entry_dict_items rfl (PySem.evalArgs_none ⟨rfl, hdo.typeIs, PySem.F.args_dict_items_1 _, _, meets_dict_items (strKind W.prog W.w) a hsy, ⟨kvs, hdo⟩, ?_⟩)
  have g₂ := Grow.of_ext (K := K₁) (h := h₁) (h' := h₁.push { cls := .type "dict_items", data := .fields #[.ref a] }) g₁.sub (fun b o e => Heap.get?_push_of_some _ e)
  show wpAny _ _ (pyIter (.ref h₁.objs.size)) _ _ _
  refine wpAny_pyIter_items (knd := strKind W.prog W.w) (d := a) (kvs := kvs) (ep := ep) ⟨_, Heap.get?_push_size _ rfl, rfl, rfl⟩ (hat.push _) ?_
  generalize hob : ({ cls := .type "dict_items", data := .fields #[.ref a] } : Obj) = ob at g₂ ⊢
  have hIn : (h₁.push ob).get? (h₁.push ob).objs.size = none := get?_size _
  have hIn' : s.heap.get? (h₁.push ob).objs.size = none := by
    cases e : s.heap.get? (h₁.push ob).objs.size with
    | none => rfl
    | some o => rw [g₂.ext _ _ (g₁.ext _ _ e)] at hIn; cases hIn
  have hne : a ≠ (h₁.push ob).objs.size := fun q => by rw [q, not_known g₂.sub hIn] at ho; cases ho
  have hIK := not_known g₂.sub hIn
  have hit0 : IsItemIter ((h₁.push ob).push { cls := .type "dict_itemiterator", data := .fields #[.none, .bool false, .ref a, .int 0 0, .int kvs.length 0, .int ep 0, .none, .none] }) (h₁.push ob).objs.size a 0 kvs.length ep .none .none := Heap.get?_push_size _ rfl
  generalize hI : (h₁.push ob).objs.size = I at *
  have g₃ := Grow.of_ext (K := K₁) (h := h₁.push ob) (h' := (h₁.push ob).push { cls := .type "dict_itemiterator", data := .fields #[.none, .bool false, .ref a, .int 0 0, .int kvs.length 0, .int ep 0, .none, .none] }) g₂.sub (fun b o e => Heap.get?_push_of_some _ e)
  generalize hh3 : (h₁.push ob).push { cls := .type "dict_itemiterator", data := .fields #[.none, .bool false, .ref a, .int 0 0, .int kvs.length 0, .int ep 0, .none, .none] } = h₃ at *
  have g := g₁.trans (g₂.trans g₃)
  have hIown : I ∉ own F.env μ := fun hm => by obtain ⟨o, ho⟩ := G.ownLive hm; rw [hIn'] at ho; cases ho
  have hneI : ∀ b o, s.heap.get? b = some o → b ≠ I := fun b o e q => by rw [q, hIn'] at e; cases e
  have hlen : kvs.length = ks.length := by simpa using congrArg List.length hk
  have hat' : ∀ {h₂ : Heap}, h₂.get? a = some o' → h₂.DictAt (strKind W.prog W.w) a kvs ep := fun e => hat.at fun o q => by rw [g₁.sub _ _ ho] at q; obtain rfl := Option.some.inj q; exact e
  refine codeAny_forLoop_any (fun n s' => ∃ i K₂ μ₂ ρ₂ h₂ tk₂ ok ov, s' = { s with heap := h₂, toks := tk₂ } ∧ n = kvs.length + 1 - i ∧ i ≤ kvs.length ∧ SGrow F.env K μ s.heap K₂ h₂ ∧ (∀ p ∈ μ₂, p.2 ∈ own F.env μ ∨ s.heap.get? p.2 = none) ∧ Good W F.env K₂ μ₂ ρ₂ h₂ ∧
    IsItemIter h₂ I a i kvs.length ep ok ov ∧ K₂ I = none ∧ I ∉ own F.env μ₂ ∧ (∀ b o, K₁ b = some o → K₂ b = some o) ∧ LoopI W F x y body (ks.drop i) (ds.drop i) ρ₂ ρ₁) ?_ (kvs.length + 1)
    ⟨0, K₁, μ, ρ, h₃, tk₁, .none, .none, rfl, rfl, Nat.zero_le _, .of_grow g, mu_same, G.grow g, hit0, hIK, hIown, fun _ _ e => e, by simpa using hl⟩
  rintro n s' ⟨i, K₂, μ₂, ρ₂, h₂, tk₂, ok, ov, rfl, rfl, hile, sg, hμ, G₂, hit, hIK₂, hIo₂, hK, hL⟩
  have sgI : ∀ {h₃ : Heap}, (∀ b o, b ≠ I → h₂.get? b = some o → h₃.get? b = some o) → Good W F.env K₂ μ₂ ρ₂ h₃ → SGrow F.env K μ s.heap K₂ h₃ := fun hk G' =>
    ⟨fun b o hb e => hk b o (hneI b o e) (sg.ext b o hb e), sg.le, G'.sub, sg.fresh⟩
  have ha₂ : h₂.get? a = some o' := G₂.sub _ _ (hK _ _ ho)
  by_cases hlt : i < kvs.length
  · obtain ⟨⟨k, u⟩, hku⟩ : ∃ p, kvs[i]? = some p := ⟨kvs[i], by simp [hlt]⟩
    obtain ⟨yk, hyk, rfl⟩ := get_keys hk hku
    obtain ⟨du, hdu, hrepu⟩ := hr.get' (i := i) (y := u) (by simp [hku])
    have hL' : LoopI W F x y body (yk :: ks.drop (i + 1)) (du :: ds.drop (i + 1)) ρ₂ ρ₁ := by
      have e1 : ks.drop i = yk :: ks.drop (i + 1) := by
        have hi : i < ks.length := by omega
        rw [List.drop_eq_getElem_cons hi]
        rw [List.getElem?_eq_getElem hi] at hyk
        rw [Option.some.inj hyk]
      have e2 : ds.drop i = du :: ds.drop (i + 1) := by
        obtain ⟨hi, hx⟩ := List.getElem?_eq_some_iff.mp hdu
        rw [List.drop_eq_getElem_cons hi, hx]
      rw [e1, e2] at hL; exact hL
    refine wpAny_pyNext_items_item hit (hat' ha₂) hku fun key h₄ hkey heo ht₄ hz₄ hk₄ => ?_
    obtain ⟨tkey, rfl⟩ := strKind_shape hkey
    refine wpAny_letOwnedTupleGo_items heo fun h₅ he₅ hs₅ => ?_
    have hil : I < h₂.objs.size := Heap.lt_size hit
    have hk₅ : ∀ b o, b ≠ I → h₂.get? b = some o → h₅.get? b = some o := fun b o hb e => (hs₅.2 b hb).trans (hk₄ b o hb e)
    have hz₅ : h₅.objs.size = h₂.objs.size + 1 := hs₅.1.trans hz₄
    have ht₅ : h₅.IsTuple h₂.objs.size #[.str (mkS yk) tkey, u] := ⟨_, (hs₅.2 _ (Nat.ne_of_gt hil)).trans ht₄, rfl, _, rfl⟩
    refine wpAny_assign_Tuple F.hh ht₅ rfl rfl fun h₆ hx₆ => ?_
    have hk₆ : ∀ b o, b ≠ I → h₂.get? b = some o → h₆.get? b = some o := fun b o hb e => hx₆ b o (by
      show b ≠ h₅.objs.size
      rw [hz₅]; exact Nat.ne_of_lt (Nat.lt_succ_of_lt (Heap.lt_size e))) (hk₅ b o hb e)
    have hit₆ : IsItemIter h₆ I a (i + 1) kvs.length ep (.str (mkS yk) tkey) u := hx₆ I _ (by
      show I ≠ h₅.objs.size
      rw [hz₅]; exact Nat.ne_of_lt (Nat.lt_succ_of_lt hil)) he₅
    have G₆ := G₂.but hIK₂ hIo₂ hk₆
    have sg₆ := sgI hk₆ G₆
    show wpAny _ _ (do holding [u] (PySem.assign (.Name x pk) F.env (.str (mkS yk) tkey)); do holding [] (PySem.assign (.Name y pv) F.env u); pure ()) _ _ _
    refine wpAny_bind (wpAny_holding (wpAny_assign_Name (G₆.store F.hk hx (lv := .imm (.str yk)) ⟨tkey, rfl⟩ fun h₇ tk₇ sg₇ G₇ => ?_)))
    refine wpAny_bind (wpAny_holding (wpAny_assign_Name (Good.store G₇ F.hk hy (lv := .imm du) (Rep.mono hK _ _ hrepu) fun h₈ tk₈ sg₈ G₈ => wpAny_pure ?_)))
    have sg₈' := (sg₆.trans hμ sg₇).trans hμ sg₈
    have hit₈ := sg₈.ext I _ hIo₂ (sg₇.ext I _ hIo₂ hit₆)
    cases hL' with
    | cons hE hrest =>
      refine hE.run _ K₂ μ₂ _ _ G₈ fun K₉ μ₉ h₉ tk₉ sg₉ m₉ G₉ => ⟨_, ?_, i + 1, K₉, μ₉, _, h₉, tk₉, _, _, rfl, rfl, hlt, sg₈'.trans hμ sg₉, mu_trans sg₈' hμ m₉, G₉, sg₉.ext I _ hIo₂ hit₈, ?_, own_up m₉ hIo₂ hit₈, fun b o e => sg₉.le _ _ (hK b o e), hrest⟩
      · omega
      · exact sg₉.fresh I hIK₂ (by show h₈.get? I ≠ none; rw [hit₈]; simp) hIo₂
  · have hie : i = kvs.length := by omega
    subst hie
    refine wpAny_pyNext_items_end F.hh hit (hat' ha₂) (by simp) fun h₄ he₄ => wpAny_execs_nil ?_
    have hk₄ : ∀ b o, b ≠ I → h₂.get? b = some o → h₄.get? b = some o := fun b o hb e => he₄ b o hb e
    have G₄ := G₂.but hIK₂ hIo₂ hk₄
    have e1 : ks.drop kvs.length = [] := by rw [hlen]; simp
    have e2 : ds.drop kvs.length = [] := by
      have := hr.length
      rw [List.length_map] at this
      rw [this]; simp
    rw [e1, e2] at hL
    cases hL
    exact hQ K₂ μ₂ h₄ _ (sgI hk₄ G₄) hμ G₄
end
end Mine

namespace Mine

/-! ### values that stand by themselves -/
noncomputable def Sc : D → Bool
  | .int _ => true
  | .str _ => true
  | _ => false
noncomputable def toD : Value → D
  | .int i _ => .int i
  | .str s _ => .str s.cps.toList
  | _ => .none

section
variable {W : Wd} {F : Fc} {ρ ρ₁ ρ₂ : Sto}

theorem Sc.rep {d : D} {v : Value} {K K' : Kn} (h : Sc d = true) (r : Rep W.prog W.w K d v) : Rep W.prog W.w K' d v := by
  cases d <;> first | exact r | cases h
theorem Sc.toD {d : D} {v : Value} {K : Kn} (h : Sc d = true) (r : Rep W.prog W.w K d v) : toD v = d := by
  cases d with
  | int i => obtain ⟨t, rfl⟩ := r; rfl
  | str s => obtain ⟨t, rfl⟩ := r; simp [Mine.toD, mkS]
  | _ => cases h

theorem vals_of {K : Kn} : ∀ {ds : List D} {vs : List Value}, (∀ d ∈ ds, Sc d = true) → vs.length = ds.length → (∀ (j : Nat) v, vs[j]? = some v → ∃ d, ds[j]? = some d ∧ Rep W.prog W.w K d v) → vs.map Mine.toD = ds
  | [], [], _, _, _ => rfl
  | [], v :: vs, _, h, _ => by simp at h
  | d :: ds, [], _, h, _ => by simp at h
  | d :: ds, v :: vs, hs, h, hP => by
    obtain ⟨d', hd', hr⟩ := hP 0 v rfl
    simp only [List.getElem?_cons_zero, Option.some.injEq] at hd'
    subst hd'
    rw [List.map_cons, Sc.toD (hs _ (.head _)) hr, vals_of (fun x hx => hs x (.tail _ hx)) (by simpa using h) fun j u hj => by
      obtain ⟨d', h1, h2⟩ := hP (j + 1) u (by simpa using hj)
      exact ⟨d', by simpa using h1, h2⟩]

theorem paired_rep {K : Kn} {f : D → D} : ∀ {vs ys : List Value}, Paired (fun v y => Rep W.prog W.w (fun _ => Option.none) (f (Mine.toD v)) y) vs ys → RepL W.prog W.w K ((vs.map Mine.toD).map f) ys
  | _, _, .nil => rfl
  | _, _, .cons h t => ⟨_, _, rfl, Rep.mono (fun _ _ e => by cases e) _ _ h, paired_rep t⟩

theorem filter_toD {p : D → Bool} : ∀ (vs : List Value), (vs.filter fun v => p (Mine.toD v)).map Mine.toD = (vs.map Mine.toD).filter p
  | [] => rfl
  | v :: vs => by
    simp only [List.filter_cons, List.map_cons]
    split
    · simp [filter_toD vs]
    · exact filter_toD vs

/-! ### list comprehensions -/
noncomputable def Fc.comp (F : Fc) (scope : Scope) (cl : List (Str × Addr)) (C : Addr) (hk : scope.kind = .function) : Fc :=
  { F with env := compEnvC scope cl C F.env, hk := hk, hg := F.hg, hb := F.hb }

structure CompOK (F : Fc) (ρ : Sto) (scope : Scope) (cl : List (Str × Addr)) (x : Str) (ρc : Sto) : Prop where
  kind : scope.kind = .function
  clos : closureFor scope F.env = pure cl
  cell : ∀ y ∈ scope.names, y.2 ≠ .cell
  names : ∀ y ∈ scope.names, y.2 = .local → scope.names.lookup y.1 = some .local
  var : scope.names.lookup x = some .local
  mem : ∀ p ∈ cl, p ∈ F.env.cells
  nodup : (cl.map (·.2)).Nodup
  sto : ∀ y lv, ρc.get y = some lv → ∃ d, lv = .imm d ∧ ρ.get y = some (.imm d) ∧ F.env.kindOf y = some .cell ∧ ∃ c, F.env.cells.lookup y = some c ∧ cl.lookup y = some c ∧ (relabel scope F.env).names.lookup y = some .cell

theorem CompOK.good {scope : Scope} {cl : List (Str × Addr)} {x : Str} {ρc : Sto} (c : CompOK F ρ scope cl x ρc) {K : Kn} {μ : List (Str × Addr)} {h h' : Heap} {I C : Addr} {m : Str → Option Value} {d : D} {v : Value} (G : Good W F.env K μ ρ h) (hIK : K I = none) (hIo : I ∉ own F.env μ)
    (hC : h.get? C = none) (hk : ∀ b o, b ∉ [I] → h.get? b = some o → h'.get? b = some o) (hn : h'.Ns C m) (hm : m x = some v) (hr : Rep W.prog W.w K d v) : Good W (F.comp scope cl C c.kind).env K [] ((x, .imm d) :: ρc) h' := by
  have hk' : ∀ b o, b ≠ I → h.get? b = some o → h'.get? b = some o := fun b o hb => hk b o (by simpa using hb)
  have hKI : ∀ b o, K b = some o → b ≠ I := fun b o e q => by rw [q, hIK] at e; cases e
  have hcI : ∀ p ∈ cl, p.2 ≠ I := fun p hp q => hIo (q ▸ own_cell (x := p.1) (c.mem p hp))
  refine ⟨fun b o e => hk' b o (hKI b o e) (G.sub b o e), G.base, ?_, ?_, (fun p hp => nomatch hp), ⟨m, hn⟩, fun p hp => ?_, fun y lv e => ?_⟩
  · show (C :: (cl.map (·.2) ++ [])).Nodup
    rw [List.append_nil]
    refine List.nodup_cons.mpr ⟨fun hm => ?_, c.nodup⟩
    obtain ⟨p, hp, rfl⟩ := List.mem_map.mp hm
    obtain ⟨v, o, ho, _⟩ := G.cells p (c.mem p hp)
    rw [hC] at ho; cases ho
  · intro b hb
    rcases List.mem_cons.mp hb with rfl | hb
    · exact not_known G.sub hC
    · rcases List.mem_append.mp hb with hb | hb
      · obtain ⟨p, hp, rfl⟩ := List.mem_map.mp hb
        exact G.off _ (own_cell (x := p.1) (c.mem p hp))
      · cases hb
  · obtain ⟨v, o, ho, r⟩ := G.cells p (c.mem p hp)
    exact ⟨v, o, hk' _ _ (hcI p hp) ho, r⟩
  · simp only [Sto.get] at e
    by_cases q : x = y
    · subst q
      rw [if_pos rfl] at e
      obtain rfl := Option.some.inj e
      exact ⟨v, .inl ⟨lookup_relabel_local c.var, m, hn, hm⟩, hr⟩
    · rw [if_neg q] at e
      obtain ⟨d', rfl, e1, e2, cc, e3, e4, e5⟩ := c.sto y lv e
      obtain ⟨v', hb, hr'⟩ := G.vals _ _ e1
      rcases hb with ⟨k, _⟩ | ⟨_, c2, hc2, o, ho, r⟩
      · rw [e2] at k; cases k
      · rw [e3] at hc2
        obtain rfl := Option.some.inj hc2
        exact ⟨v', .inr ⟨e5, cc, e4, o, hk' _ _ (hcI _ (mem_of_lookup' e4)) ho, r⟩, hr'⟩

theorem get_none_of_size {h : Heap} {C : Addr} (hC : h.objs.size ≤ C) : h.get? C = none := by
  cases e : h.get? C with
  | none => rfl
  | some o => exact absurd (Heap.lt_size e) (Nat.not_lt.mpr hC)

/-- one test or none -/
noncomputable def TestOK (W : Wd) (F : Fc) (ρ : Sto) (ifs : List Expr) (b : Bool) : Prop := (ifs = [] ∧ b = true) ∨ ∃ c, ifs = [c] ∧ Ts W F ρ c b

theorem TestOK.run {ifs : List Expr} {b : Bool} (h : TestOK W F ρ ifs b) {s : Shared} {K : Kn} {μ : List (Str × Addr)} {E : Value → Shared → Prop} (G : Good W F.env K μ ρ s.heap) :
    wpAny (model W.prog W.w) F.A (forIn ifs true fun c r => if r = true then do let ok ← isTrue c F.env (eval c F.env); pure (ForInStep.yield ok) else pure (ForInStep.yield r)) (fun ok s₄ => ok = b ∧ Keeps s s₄) E s := by
  rcases h with ⟨rfl, rfl⟩ | ⟨c, rfl, ht⟩
  · exact wpAny_pure ⟨rfl, s.heap, s.toks, rfl, fun _ _ e => e⟩
  · simp only [List.forIn_cons, List.forIn_nil, if_true]
    refine wpAny_bind (wpAny_bind (ht.run s K μ _ _ G fun K' h' tk g => wpAny_pure (wpAny_pure ⟨rfl, h', tk, rfl, g.ext⟩)))

theorem quiet_of {scope : Scope} {cl : List (Str × Addr)} {x : Str} {ρc : Sto} {ifs : List Expr} {elt : Expr} {ds : List D} {p : D → Bool} {f : D → D} (c : CompOK F ρ scope cl x ρc) (hsc : ∀ d ∈ ds, Sc d = true) (hfs : ∀ d ∈ ds, p d = true → Sc (f d) = true)
    (ht : ∀ d ∈ ds, ∀ C, TestOK W (F.comp scope cl C c.kind) ((x, .imm d) :: ρc) ifs (p d)) (he : ∀ d ∈ ds, p d = true → ∀ C, Ev W (F.comp scope cl C c.kind) ((x, .imm d) :: ρc) elt (f d))
    {K : Kn} {μ : List (Str × Addr)} {s : Shared} {I : Addr} (G : Good W F.env K μ ρ s.heap) (hIK : K I = none) (hIo : I ∉ own F.env μ) :
    QuietOnC W.prog W.w F.A F.env scope cl x ifs elt [I] (fun i v => ∃ d, ds[i]? = some d ∧ Rep W.prog W.w K d v) (fun v => p (Mine.toD v)) (fun v y => Rep W.prog W.w (fun _ => none) (f (Mine.toD v)) y) s where
  tests := fun C i v s₃ m₃ E' hC ⟨d, hd, hr⟩ hn hm hk _ => by
    have hmem := List.mem_of_getElem? hd
    have := (ht d hmem C).run (E := E') (c.good G hIK hIo (get_none_of_size hC) hk hn hm hr)
    rw [Sc.toD (hsc d hmem) hr]
    exact this
  elt := fun C i v s₃ m₃ E' hC ⟨d, hd, hr⟩ hp hn hm hk _ => by
    have hmem := List.mem_of_getElem? hd
    rw [Sc.toD (hsc d hmem) hr] at hp ⊢
    exact (he d hmem hp C).run s₃ K [] _ _ (c.good G hIK hIo (get_none_of_size hC) hk hn hm hr) fun y K' h' tk g ry => ⟨Sc.rep (hfs d hmem hp) ry, h', tk, rfl, g.ext⟩

theorem fp_lt {K : Kn} {h : Heap} {I : Addr} {fp : List Addr} (hs : ∀ b o, K b = some o → h.get? b = some o) (hfp : ∀ b ∈ fp, b = I ∨ K b ≠ none) (hI : ∃ o, h.get? I = some o) : ∀ b ∈ fp, b < h.objs.size := fun b hb => by
  rcases hfp b hb with rfl | q
  · obtain ⟨o, ho⟩ := hI; exact Heap.lt_size ho
  · cases e : K b with
    | none => exact absurd e q
    | some o => exact Heap.lt_size (hs _ _ e)

theorem Ev.listComp {elt iter : Expr} {x : Str} {px pos : Pos} {ifs : List Expr} {scope : Scope} {cl : List (Str × Addr)} {ρc : Sto} {ds : List D} (p : D → Bool) (f : D → D) (c : CompOK F ρ scope cl x ρc) (hit : It W F ρ iter ds) (hl : ds.length ≤ sizeLine) (hsc : ∀ d ∈ ds, Sc d = true) (hfs : ∀ d ∈ ds, p d = true → Sc (f d) = true)
    (ht : ∀ d ∈ ds, ∀ C, TestOK W (F.comp scope cl C c.kind) ((x, .imm d) :: ρc) ifs (p d)) (he : ∀ d ∈ ds, p d = true → ∀ C, Ev W (F.comp scope cl C c.kind) ((x, .imm d) :: ρc) elt (f d))
    (hs : ∀ v, foldedSetIterable iter F.env v = pure v := by intro _; rfl) : Ev W F ρ (.ListComp elt [⟨.Name x px, iter, ifs, 0⟩] scope pos) (.list ((ds.filter p).map f)) := .mk fun s K μ Q E G hQ => by
  refine wpAny_ListComp_free (fun v => p (Mine.toD v)) (fun v y => Rep W.prog W.w (fun _ => Option.none) (f (Mine.toD v)) y) c.clos c.cell c.kind c.names c.var (hit.run s K μ _ _ G fun I fp St K₁ h₁ tk₁ g₁ hW hst hfp hIn hIK hIo => ?_) hs
  have hIown : I ∉ own F.env μ := fun hm => by obtain ⟨o, ho⟩ := G.ownLive hm; rw [hIn] at ho; cases ho
  have G₁ := G.grow g₁
  refine ⟨I, fp, [I], ds.length, _, St, rfl, hW F.A F.hh, hl, hst, fp_lt g₁.sub hfp (hIo _ _ hst), quiet_of c hsc hfs ht he G₁ hIK hIown, fun D₁ h' tk ys vs hDn hl' hpl hlen hP hF hk => ?_⟩
  obtain ⟨n, ho⟩ := hpl
  have hsD : s.heap.get? D₁ = Option.none := by
    cases e : s.heap.get? D₁ with
    | none => rfl
    | some o => rw [g₁.ext _ _ e] at hDn; cases hDn
  have hsub : ∀ b o, K₁ b = some o → h'.get? b = some o := fun b o e => hk b o (fun q => by rw [List.mem_singleton.mp q, hIK] at e; cases e) (g₁.sub b o e)
  have hle : ∀ b o', K₁ b = some o' → K₁.add D₁ { cls := .type "list", data := .seq ys n } b = some o' := fun b o' e => by
    unfold Kn.add
    rw [if_neg (fun q => by rw [q, not_known g₁.sub hDn] at e; cases e)]; exact e
  refine hQ _ (K₁.add D₁ { cls := .type "list", data := .seq ys n }) h' tk ⟨fun b o e => hk b o (fun q => by rw [List.mem_singleton.mp q, hIn] at e; cases e) (g₁.ext b o e), fun b o e => hle b o (g₁.le b o e), fun b o e => ?_, fun b e hb => ?_⟩ ⟨D₁, _, ys, rfl, Kn.add_self .., rfl, ⟨n, rfl⟩, ?_⟩
  · unfold Kn.add at e
    by_cases q : b = D₁
    · rw [if_pos q] at e; obtain rfl := Option.some.inj e; exact q ▸ ho
    · rw [if_neg q] at e; exact hsub b o e
  · unfold Kn.add
    rw [if_neg (fun q : b = D₁ => hb (q ▸ hsD))]; exact g₁.fresh b e hb
  · have e1 := vals_of (W := W) hsc hlen hP
    have e2 := paired_rep (W := W) (K := K₁.add D₁ { cls := .type "list", data := .seq ys n }) hF
    rw [filter_toD, e1] at e2
    exact e2
end
end Mine

namespace Mine

section
variable {W : Wd} {F : Fc} {ρ ρ₁ ρ₂ : Sto}

theorem It.list {e : Expr} {ds : List D} (h : Ev W F ρ e (.list ds)) : It W F ρ e ds := .mk fun s K μ Q E G hQ =>
  h.run s K μ _ _ G fun v K₁ h₁ tk₁ g₁ r₁ => by
    obtain ⟨a, o, vs, rfl, ho, hc, hd, hr⟩ := r₁
    have hl : h₁.IsList a vs := ⟨o, g₁.sub _ _ ho, hc, hd⟩
    refine wpAny_pyIter_list hl ?_
    have hn : h₁.get? h₁.objs.size = none := get?_size _
    have hn' : s.heap.get? h₁.objs.size = none := by
      cases e : s.heap.get? h₁.objs.size with
      | none => rfl
      | some o => rw [g₁.ext _ _ e] at hn; cases hn
    have hne : a ≠ h₁.objs.size := fun q => by rw [q, not_known g₁.sub hn] at ho; cases ho
    refine hQ _ [h₁.objs.size, a] (fun i h => h.IsListIter h₁.objs.size a i ∧ h.IsList a vs) K₁ _ _ (g₁.trans (.of_ext g₁.sub fun b o e => Heap.get?_push_of_some _ e)) (fun A' hA => ?_) ⟨⟨_, Heap.get?_push_size _ rfl, rfl, rfl⟩, hl.push _⟩ (fun b hb => ?_) hn' (not_known g₁.sub hn) (fun i h ⟨⟨o, ho, _⟩, _⟩ => ⟨o, ho⟩)
    · have X := Walks.list (prog := W.prog) (w := W.w) hA h₁.objs.size a hne vs
      have e1 : ds.length = vs.size := by have := hr.length; simp at this; exact this.symm
      rw [e1]
      exact Mine.Walks.weak X fun i v hi hv => hr.get' (by simpa using hv)
    · rcases List.mem_cons.mp hb with rfl | hb
      · exact .inl rfl
      · exact .inr (by rw [List.mem_singleton.mp hb, ho]; simp)

/-- y = [elt for x in iter if ..] -/
theorem Ex.assignComp {elt iter : Expr} {x y : Str} {px py pos spos : Pos} {ifs : List Expr} {scope : Scope} {cl : List (Str × Addr)} {ρc : Sto} {ds : List D} (p : D → Bool) (f : D → D) (c : CompOK F ρ scope cl x ρc) (hit : It W F ρ iter ds) (hl : ds.length ≤ sizeLine) (hsc : ∀ d ∈ ds, Sc d = true) (hfs : ∀ d ∈ ds, p d = true → Sc (f d) = true)
    (ht : ∀ d ∈ ds, ∀ C, TestOK W (F.comp scope cl C c.kind) ((x, .imm d) :: ρc) ifs (p d)) (he : ∀ d ∈ ds, p d = true → ∀ C, Ev W (F.comp scope cl C c.kind) ((x, .imm d) :: ρc) elt (f d)) (hy : F.env.kindOf y = some .local)
    (hsw : swapsWith (.ListComp elt [⟨.Name x px, iter, ifs, 0⟩] scope pos) (some (.Name y py)) spos.line F.env = pure true)
    (hs : ∀ v, foldedSetIterable iter F.env v = pure v := by intro _; rfl) : Ex W F ρ (.Assign [.Name y py] (.ListComp elt [⟨.Name x px, iter, ifs, 0⟩] scope pos) spos) (ρ.set y (.imm (.list ((ds.filter p).map f)))) .next := .mk fun s K μ Q E G hQ => by
  refine wpAny_Assign_ListComp_free (fun v => p (Mine.toD v)) (fun v y => Rep W.prog W.w (fun _ => Option.none) (f (Mine.toD v)) y) hsw c.clos c.cell c.kind c.names c.var hy (by rw [F.hk]; rfl) (hit.run s K μ _ _ G fun I fp St K₁ h₁ tk₁ g₁ hW hst hfp hIn hIK hIo => ?_) hs
  have hIown : I ∉ own F.env μ := fun hm => by obtain ⟨o, ho⟩ := G.ownLive hm; rw [hIn] at ho; cases ho
  have G₁ := G.grow g₁
  obtain ⟨m, hm⟩ := G₁.ns
  have hIL : F.env.locals ∉ [I] := fun q => hIown (List.mem_singleton.mp q ▸ own_locals)
  refine ⟨I, fp, [I], ds.length, _, St, m, rfl, hW F.A F.hh, hl, hst, fp_lt g₁.sub hfp (hIo _ _ hst), hIL, hm, quiet_of c hsc hfs ht he G₁ hIK hIown, fun D₁ h' tk ys vs hDn hl' hpl hlen hP hF hn' hk => ?_⟩
  obtain ⟨n, ho⟩ := hpl
  have hsD : s.heap.get? D₁ = Option.none := by
    cases e : s.heap.get? D₁ with
    | none => rfl
    | some o => rw [g₁.ext _ _ e] at hDn; cases hDn
  have hK₁D := not_known g₁.sub hDn
  have hDo : D₁ ∉ own F.env μ := fun q => by obtain ⟨o, ho⟩ := G.ownLive q; rw [hsD] at ho; cases ho
  have keep : ∀ b o, b ≠ F.env.locals → b ≠ I → h₁.get? b = some o → h'.get? b = some o := fun b o h1 h2 => hk b o h1 (by simpa using h2)
  have hle : ∀ b o', K₁ b = some o' → K₁.add D₁ { cls := .type "list", data := .seq ys n } b = some o' := fun b o' e => by
    unfold Kn.add
    rw [if_neg (fun q => by rw [q, hK₁D] at e; cases e)]; exact e
  have hsub : ∀ b o, K₁.add D₁ { cls := .type "list", data := .seq ys n } b = some o → h'.get? b = some o := fun b o e => by
    unfold Kn.add at e
    by_cases q : b = D₁
    · rw [if_pos q] at e; obtain rfl := Option.some.inj e; exact q ▸ ho
    · rw [if_neg q] at e
      exact keep b o (fun z => by rw [z, G₁.off _ own_locals] at e; cases e) (fun z => by rw [z, hIK] at e; cases e) (g₁.sub b o e)
  have e1 := vals_of (W := W) hsc hlen hP
  have e2 := paired_rep (W := W) (K := K₁.add D₁ { cls := .type "list", data := .seq ys n }) hF
  rw [filter_toD, e1] at e2
  refine hQ (K₁.add D₁ { cls := .type "list", data := .seq ys n }) μ h' tk ⟨fun b o hb e => keep b o (fun q => hb (q ▸ own_locals)) (fun q => by rw [q, hIn] at e; cases e) (g₁.ext b o e), fun b o e => hle b o (g₁.le b o e), hsub, fun b e hb _ => ?_⟩ mu_same ⟨hsub, fun b o e => hle b o (G₁.base b o e), G.nodup, fun b hb => ?_, fun p hp => ?_, ⟨_, hn'⟩, fun p hp => ?_, fun z lv e => ?_⟩
  · unfold Kn.add
    rw [if_neg (fun q : b = D₁ => hb (q ▸ hsD))]; exact g₁.fresh b e hb
  · unfold Kn.add
    rw [if_neg (fun q : b = D₁ => hDo (q ▸ hb))]; exact G₁.off b hb
  · obtain ⟨o, hho⟩ := G₁.live p hp
    exact ⟨o, keep _ _ (G.locals_mu hp) (fun q => hIown (q ▸ own_mu (x := p.1) hp)) hho⟩
  · obtain ⟨v, o, hho, r⟩ := G₁.cells p hp
    exact ⟨v, o, keep _ _ (G.locals_cell hp) (fun q => hIown (q ▸ own_cell (x := p.1) hp)) hho, r⟩
  · rw [Sto.get_set] at e
    by_cases q : y = z
    · subst q
      rw [if_pos rfl] at e
      obtain rfl := Option.some.inj e
      exact ⟨.ref D₁, .inl ⟨hy, _, hn', by simp⟩, D₁, _, ys, rfl, Kn.add_self .., rfl, ⟨n, rfl⟩, e2⟩
    · rw [if_neg q] at e
      obtain ⟨v, hb, hr⟩ := G₁.vals z lv e
      refine ⟨v, ?_, hr.mono hle fun a o ha => keep a o (G.locals_mu ha) (fun q => hIown (q ▸ own_mu ha))⟩
      rcases hb with ⟨k, m', hn2, hm'⟩ | ⟨k, c', hc', o, hho, r⟩
      · obtain rfl := Ns.unique hm hn2
        exact .inl ⟨k, _, hn', by rw [if_neg (Ne.symm q)]; exact hm'⟩
      · have hmem := mem_of_lookup' hc'
        exact .inr ⟨k, c', hc', o, keep _ _ (G.locals_cell hmem) (fun q => hIown (q ▸ own_cell hmem)) hho, r⟩

/-! ### unpacking -/
theorem Ex.unpack5 {x0 x1 x2 x3 x4 : Str} {p0 p1 p2 p3 p4 tpos pos : Pos} {k : Nat} {e : Expr} {d0 d1 d2 d3 d4 : D} (h : Ev W F ρ e (.tuple [d0, d1, d2, d3, d4])) (h0 : Storable F.env x0) (h1 : Storable F.env x1) (h2 : Storable F.env x2) (h3 : Storable F.env x3) (h4 : Storable F.env x4)
    (hs : swapsWithSole [.Tuple [.Name x0 p0, .Name x1 p1, .Name x2 p2, .Name x3 p3, .Name x4 p4] k tpos] e pos.line F.env = pure false := by rfl)
    (hw : swappedStores [.Tuple [.Name x0 p0, .Name x1 p1, .Name x2 p2, .Name x3 p3, .Name x4 p4] k tpos] e F.env = pure none := by rfl) :
    Ex W F ρ (.Assign [.Tuple [.Name x0 p0, .Name x1 p1, .Name x2 p2, .Name x3 p3, .Name x4 p4] k tpos] e pos) (((((ρ.set x0 (.imm d0)).set x1 (.imm d1)).set x2 (.imm d2)).set x3 (.imm d3)).set x4 (.imm d4)) .next := .mk fun s K μ Q E G hQ => by
  refine Assign_Tuple (h.run s K μ _ _ G fun v K₁ h₁ tk₁ g₁ r₁ => ?_) hs hw
  obtain ⟨a, o, vs, rfl, ho, hc, hd, hr⟩ := r₁
  simp only [RepL] at hr
  obtain ⟨v0, _, e, r0, v1, _, rfl, r1, v2, _, rfl, r2, v3, _, rfl, r3, v4, _, rfl, r4, rfl⟩ := hr
  have hvs : vs = #[v0, v1, v2, v3, v4] := by apply Array.ext'; rw [e]
  subst hvs
  refine wpAny_assign_Tuple (items := #[v0, v1, v2, v3, v4]) F.hh ⟨o, g₁.sub _ _ ho, hc, hd⟩ rfl rfl fun h₂ hx₂ => ?_
  have hx : ∀ b o, h₁.get? b = some o → h₂.get? b = some o := fun b o e => hx₂ b o (Nat.ne_of_lt (Heap.lt_size e)) e
  have g₂ := Grow.of_ext (K := K₁) g₁.sub hx
  have G₂ := (G.grow g₁).grow g₂
  show wpAny _ _ (do holding [v1, v2, v3, v4] (PySem.assign (.Name x0 p0) F.env v0); do holding [v2, v3, v4] (PySem.assign (.Name x1 p1) F.env v1); do holding [v3, v4] (PySem.assign (.Name x2 p2) F.env v2); do holding [v4] (PySem.assign (.Name x3 p3) F.env v3); do holding [] (PySem.assign (.Name x4 p4) F.env v4); pure ()) _ _ _
  refine wpAny_bind (wpAny_holding (wpAny_assign_Name (G₂.store F.hk h0 (lv := .imm d0) r0 fun h₃ tk₃ s₃ G₃ => ?_)))
  refine wpAny_bind (wpAny_holding (wpAny_assign_Name (Good.store G₃ F.hk h1 (lv := .imm d1) r1 fun h₄ tk₄ s₄ G₄ => ?_)))
  refine wpAny_bind (wpAny_holding (wpAny_assign_Name (Good.store G₄ F.hk h2 (lv := .imm d2) r2 fun h₅ tk₅ s₅ G₅ => ?_)))
  refine wpAny_bind (wpAny_holding (wpAny_assign_Name (Good.store G₅ F.hk h3 (lv := .imm d3) r3 fun h₆ tk₆ s₆ G₆ => ?_)))
  refine wpAny_bind (wpAny_holding (wpAny_assign_Name (Good.store G₆ F.hk h4 (lv := .imm d4) r4 fun h₇ tk₇ s₇ G₇ => wpAny_pure ?_)))
  exact hQ K₁ μ h₇ tk₇ ((SGrow.of_grow (g₁.trans g₂)).trans mu_same (s₃.trans mu_same (s₄.trans mu_same (s₅.trans mu_same (s₆.trans mu_same s₇))))) mu_same G₇

/-- x, y = (y, x) -/
theorem Ex.swap {x y : Str} {p q p' q' tpos vpos pos : Pos} {k k' : Nat} {dx dy : D} (ex : ρ.get x = some (.imm dx)) (ey : ρ.get y = some (.imm dy)) (hx : Storable F.env x) (hy : Storable F.env y)
    (hdx : (x == ("__debug__" : Str)) = false := by decide) (hdy : (y == ("__debug__" : Str)) = false := by decide)
    (hs : swapsWithSole [.Tuple [.Name x p, .Name y q] k tpos] (.Tuple [.Name y q', .Name x p'] k' vpos) pos.line F.env = pure false := by rfl)
    (hw : swappedStores [.Tuple [.Name x p, .Name y q] k tpos] (.Tuple [.Name y q', .Name x p'] k' vpos) F.env = pure (some [x, y]) := by rfl) :
    Ex W F ρ (.Assign [.Tuple [.Name x p, .Name y q] k tpos] (.Tuple [.Name y q', .Name x p'] k' vpos) pos) ((ρ.set y (.imm dx)).set x (.imm dy)) .next := .mk fun s K μ Q E G hQ => by
  refine Assign_Tuple_swapped (names := [x, y]) ((Ev.tuple (.cons (Ev.name ey hdy) (.cons (Ev.name ex hdx) .nil)) (by show 2 ≤ sizeLine; decide)).run s K μ _ _ G fun v K₁ h₁ tk₁ g₁ r₁ => ?_) hs hw
  obtain ⟨a, o, vs, rfl, ho, hc, hd, hr⟩ := r₁
  simp only [RepL] at hr
  obtain ⟨v0, _, e, r0, v1, _, rfl, r1, rfl⟩ := hr
  have hvs : vs = #[v0, v1] := by apply Array.ext'; rw [e]
  subst hvs
  refine wpAny_unpackItems_tuple (items := #[v0, v1]) F.hh ⟨o, g₁.sub _ _ ho, hc, hd⟩ fun h₂ hx₂ => ?_
  have hxx : ∀ b o, h₁.get? b = some o → h₂.get? b = some o := fun b o e => hx₂ b o (Nat.ne_of_lt (Heap.lt_size e)) e
  have g₂ := Grow.of_ext (K := K₁) g₁.sub hxx
  have G₂ := (G.grow g₁).grow g₂
  show wpAny _ _ (do holding [v0] (bindName F.env y v1); do holding [] (bindName F.env x v0); pure ()) _ _ _
  refine wpAny_bind (wpAny_holding (wpAny_bindName (G₂.store F.hk hy (lv := .imm dx) r1 fun h₃ tk₃ s₃ G₃ => ?_)))
  refine wpAny_bind (wpAny_holding (wpAny_bindName (Good.store G₃ F.hk hx (lv := .imm dy) r0 fun h₄ tk₄ s₄ G₄ => wpAny_pure ?_)))
  exact hQ K₁ μ h₄ tk₄ ((SGrow.of_grow (g₁.trans g₂)).trans mu_same (s₃.trans mu_same s₄)) mu_same G₄
end
end Mine

namespace Mine

section
variable {W : Wd}

/-! ### a call's entry -/
noncomputable def RepB (W : Wd) (K : Kn) : Sto → List (Str × Value) → Prop
  | [], bs => bs = []
  | (x, lv) :: r, bs => ∃ v bs', bs = (x, v) :: bs' ∧ (∃ d, lv = .imm d ∧ Rep W.prog W.w K d v) ∧ RepB W K r bs'

theorem RepB.names {K : Kn} : ∀ {ρ : Sto} {bs : List (Str × Value)}, RepB W K ρ bs → bs.map (·.1) = ρ.map (·.1)
  | [], bs, h => by simp only [RepB] at h; subst h; rfl
  | (x, lv) :: r, bs, h => by
    obtain ⟨v, bs', rfl, _, h2⟩ := h
    simp [h2.names]
theorem RepB.mono {K K' : Kn} (hk : ∀ b o, K b = some o → K' b = some o) : ∀ {ρ : Sto} {bs : List (Str × Value)}, RepB W K ρ bs → RepB W K' ρ bs
  | [], bs, h => h
  | (x, lv) :: r, bs, ⟨v, bs', e, ⟨d, e2, r1⟩, h2⟩ => ⟨v, bs', e, ⟨d, e2, Rep.mono hk _ _ r1⟩, h2.mono hk⟩
theorem RepB.look {K : Kn} : ∀ {ρ : Sto} {bs : List (Str × Value)} {x : Str} {lv : LV}, RepB W K ρ bs → ρ.get x = some lv → ∃ v d, bs.lookup x = some v ∧ lv = .imm d ∧ Rep W.prog W.w K d v
  | [], bs, x, lv, h, e => by simp [Sto.get] at e
  | (y, lv') :: r, bs, x, lv, h, e => by
    obtain ⟨v, bs', rfl, ⟨d, rfl, hr⟩, h2⟩ := h
    simp only [Sto.get] at e
    by_cases q : y = x
    · subst q
      rw [if_pos rfl] at e
      obtain rfl := Option.some.inj e
      exact ⟨v, d, by simp [List.lookup_cons], rfl, hr⟩
    · rw [if_neg q] at e
      obtain ⟨v', d', h1, h3, h4⟩ := h2.look e
      refine ⟨v', d', ?_, h3, h4⟩
      rw [List.lookup_cons]
      have : (x == y) = false := beq_eq_false_iff_ne.mpr (Ne.symm q)
      rw [this]; exact h1

theorem lookup_append_none {l m : List (Str × Value)} {x : Str} (h : l.lookup x = none) : (l ++ m).lookup x = m.lookup x := by
  rw [List.lookup_append, h]; rfl
theorem lookup_none {l : List (Str × Value)} {x : Str} (h : x ∉ l.map (·.1)) : l.lookup x = none := by
  induction l with
  | nil => rfl
  | cons p r ih =>
    simp only [List.map_cons, List.mem_cons, not_or] at h
    rw [List.lookup_cons]
    have : (x == p.1) = false := beq_eq_false_iff_ne.mpr h.1
    rw [this]; exact ih h.2
theorem lookup_reverse {l : List (Str × Value)} (hn : (l.map (·.1)).Nodup) (x : Str) : l.reverse.lookup x = l.lookup x := by
  induction l with
  | nil => rfl
  | cons p r ih =>
    simp only [List.map_cons, List.nodup_cons] at hn
    obtain ⟨pk, pv⟩ := p
    rw [List.reverse_cons, List.lookup_append, ih hn.2]
    by_cases q : x = pk
    · subst q
      rw [lookup_none hn.1]
      simp
    · have : (x == pk) = false := beq_eq_false_iff_ne.mpr q
      simp [List.lookup_cons, this]

theorem mem_of_lookup'' {l : List (Str × Value)} {x : Str} {c : Value} (h : l.lookup x = some c) : (x, c) ∈ l := by
  induction l with
  | nil => simp at h
  | cons p r ih =>
    rw [List.lookup_cons] at h
    by_cases e : x == p.1
    · simp only [e] at h; obtain rfl := Option.some.inj h
      rw [eq_of_beq e]; exact .head _
    · simp only [e] at h; exact .tail _ (ih h)

noncomputable def BindOK (W : Wd) (fd : FuncData) (args : List D) (ρ : Sto) : Prop :=
  ∀ (A : Around) (s : Shared) (K : Kn) (vs : List Value) (Q : List (Str × Value) → Shared → Prop) (E : Value → Shared → Prop), (∀ b o, K b = some o → s.heap.get? b = some o) → RepL W.prog W.w K args vs →
    (∀ binds K' h' tk, Grow K s.heap K' h' → RepB W K' ρ binds → Q binds { s with heap := h', toks := tk }) → wpAny (model W.prog W.w) A (bindArgs fd ⟨vs, []⟩) Q E s

theorem BindOK.one {fd : FuncData} {x : Str} {d : D} (h : ∀ v, bindArgs fd ⟨[v], []⟩ = pure [(x, v)]) : BindOK W fd [d] [(x, .imm d)] := fun A s K vs Q E hs hr hQ => by
  simp only [RepL] at hr
  obtain ⟨v, _, rfl, r, rfl⟩ := hr
  rw [h]
  exact wpAny_pure (hQ _ K s.heap s.toks (.refl hs) ⟨v, _, rfl, ⟨d, rfl, r⟩, rfl⟩)
theorem BindOK.two {fd : FuncData} {x y : Str} {d e : D} (h : ∀ v u, bindArgs fd ⟨[v, u], []⟩ = pure [(x, v), (y, u)]) : BindOK W fd [d, e] [(x, .imm d), (y, .imm e)] := fun A s K vs Q E hs hr hQ => by
  simp only [RepL] at hr
  obtain ⟨v, _, rfl, r, u, _, rfl, r2, rfl⟩ := hr
  rw [h]
  exact wpAny_pure (hQ _ K s.heap s.toks (.refl hs) ⟨v, _, rfl, ⟨d, rfl, r⟩, u, _, rfl, ⟨e, rfl, r2⟩, rfl⟩)
theorem BindOK.three {fd : FuncData} {x y z : Str} {d e f : D} (h : ∀ v u w, bindArgs fd ⟨[v, u, w], []⟩ = pure [(x, v), (y, u), (z, w)]) : BindOK W fd [d, e, f] [(x, .imm d), (y, .imm e), (z, .imm f)] := fun A s K vs Q E hs hr hQ => by
  simp only [RepL] at hr
  obtain ⟨v, _, rfl, r, u, _, rfl, r2, w, _, rfl, r3, rfl⟩ := hr
  rw [h]
  exact wpAny_pure (hQ _ K s.heap s.toks (.refl hs) ⟨v, _, rfl, ⟨d, rfl, r⟩, u, _, rfl, ⟨e, rfl, r2⟩, w, _, rfl, ⟨f, rfl, r3⟩, rfl⟩)

theorem ret_grow {env : Env} {K K₁ K₂ : Kn} {h h₁ h₂ : Heap} {L : Addr} (g : Grow K h K₁ h₁) (hL : h.get? L = none) (ho : ∀ b ∈ own env [], b = L ∨ h.get? b = none) (sg : SGrow env K₁ [] h₁ K₂ h₂) : Grow K h K₂ h₂ := by
  have hno : ∀ b o, h.get? b = some o → b ∉ own env [] := fun b o e hm => by
    rcases ho b hm with rfl | q
    · rw [hL] at e; cases e
    · rw [q] at e; cases e
  refine ⟨fun b o e => sg.ext b o (hno b o e) (g.ext b o e), fun b o e => sg.le b o (g.le b o e), sg.sub, fun b e hb => ?_⟩
  cases q : h.get? b with
  | none => exact absurd q hb
  | some o => exact sg.fresh b (g.fresh b e hb) (by rw [g.ext b o q]; simp) (hno b o q)

theorem CallOK.intro {n : Nat} {f : Str} {params : Arguments} {body : List Stmt} {scope : Scope} {pm cd doc : Value} {a : Addr} {o : Obj} {args : List D} {ρ₀ ρ₁ : Sto} {d : D}
    (hf : FnAt W f a o (Calls.docDef f params body scope pm cd doc)) (hcd : W.base.CodeRec cd f) (hb : BindOK W (Calls.docDef f params body scope pm cd doc) args ρ₀)
    (hloc : ∀ p ∈ ρ₀, scope.names.lookup p.1 = some .local) (hnd : (ρ₀.map (·.1)).Nodup) (hcell : ∀ x ∈ scope.names, x.2 ≠ .cell)
    (hco : scope.isCoroutine = false) (hgen : scope.isGenerator = false) (hk : scope.kind = .function)
    (hbody : ∀ F : Fc, (∃ L, F.env = callEnv (Calls.docDef f params body scope pm cd doc) L a) → F.lvl = n → Exs W F ρ₀ body ρ₁ (.ret d)) : CallOK W (n + 1) f args d := by
  refine ⟨a, o, _, hf, fun A s K vs Q E hh hroom hunits hs hbase hr hQ => ?_⟩
  have hbs : ∀ b o, W.base.get? b = some o → s.heap.get? b = some o := fun b o e => hs b o (hbase b o e)
  refine wpAny_call (codeAny_call_function (by omega) (hbs _ _ hf.obj) hf.data hco hgen rfl (hcd.keeps hbs) (hb _ s K vs _ _ hs hr fun binds K₁ h₁ tk₁ g₁ rb => ?_))
  have hlocb : ∀ x ∈ binds, scope.names.lookup x.1 = some .local := fun x hx => by
    have h1 : x.1 ∈ ρ₀.map (·.1) := rb.names ▸ List.mem_map_of_mem (f := (·.1)) hx
    obtain ⟨p, hp, e⟩ := List.mem_map.mp h1
    rw [← e]; exact hloc p hp
  have hbs₁ : ∀ b o, W.base.get? b = some o → h₁.get? b = some o := fun b o e => g₁.ext b o (hbs b o e)
  refine wpAny_newFunctionEnv hcell hlocb (fun h₂ hns hsb => ⟨(W.nolimit.keeps hbs₁).fresh _ hsb, ?_⟩) hk
  have hx : ∀ b o, h₁.get? b = some o → h₂.get? b = some o := fun b o e => hsb.extBut b o (Nat.ne_of_lt (Heap.lt_size e)) (Heap.get?_push_of_some _ e)
  have hLn : h₁.get? h₁.objs.size = none := get?_size _
  have g₂ := Grow.of_ext (K := K₁) g₁.sub hx
  have hKL := not_known g₁.sub hLn
  let env := callEnv (Calls.docDef f params body scope pm cd doc) h₁.objs.size a
  let F : Fc := { A := A.deeper env, env := env, hh := hh, hk := hk, hg := rfl, hb := rfl, lvl := n, room := by show A.depth + 1 + n < recursionLimit; omega, units := by show A.units + 3 + 10 * n + 10 < cLine; omega }
  have G : Good W env K₁ [] ρ₀ h₂ := by
    refine ⟨g₂.sub, fun b o e => g₁.le b o (hbase b o e), ?_, ?_, (fun p hp => nomatch hp), ⟨_, hns⟩, (fun p hp => nomatch hp), fun x lv e => ?_⟩
    · show ([h₁.objs.size] : List Addr).Nodup
      simp
    · intro b hb
      have : b = h₁.objs.size := List.mem_singleton.mp hb
      rw [this]; exact hKL
    · obtain ⟨v, d', h1, rfl, h3⟩ := rb.look e
      refine ⟨v, .inl ⟨?_, _, hns, ?_⟩, h3⟩
      · have hm : x ∈ ρ₀.map (·.1) := by
          rw [← rb.names]
          exact List.mem_map_of_mem (f := (·.1)) (mem_of_lookup'' h1)
        obtain ⟨p, hp, rfl⟩ := List.mem_map.mp hm
        exact hloc p hp
      · show binds.reverse.lookup x = some v
        rw [lookup_reverse (by rw [rb.names]; exact hnd)]; exact h1
  refine codeAny_func ((hbody F ⟨_, rfl⟩ rfl).run _ K₁ [] _ _ G fun v K₂ h₃ tk₃ sg r => ?_)
  refine hQ v K₂ h₃ tk₃ ?_ r
  refine ret_grow (env := env) (L := h₁.objs.size) (g₁.trans g₂) ?_ (fun b hb => .inl (List.mem_singleton.mp hb)) sg
  cases e : s.heap.get? h₁.objs.size with
  | none => rfl
  | some o => rw [g₁.ext _ _ e] at hLn; cases hLn

theorem CallOK.up {n m : Nat} {f : Str} {args : List D} {d : D} (h : CallOK W n f args d) (hnm : n ≤ m) : CallOK W m f args d := by
  obtain ⟨a, o, fd, hf, hc⟩ := h
  exact ⟨a, o, fd, hf, fun A s K vs Q E hh hroom hunits => hc A s K vs Q E hh (by omega) (by omega)⟩
end
end Mine

namespace Mine

noncomputable def fnStmt (n : Nat) : Stmt := (PySem.Challenge.pw_pe0097_01.main.body[n]?).getD (.Pass ⟨0, 0, 0, 0⟩)
noncomputable def fnBody (n : Nat) : List Stmt := match fnStmt n with | .FunctionDef _ _ b _ _ _ _ _ _ _ => b | _ => []
noncomputable def fnArgs (n : Nat) : Arguments := match fnStmt n with | .FunctionDef _ a _ _ _ _ _ _ _ _ => a | _ => default
noncomputable def fnScope (n : Nat) : Scope := match fnStmt n with | .FunctionDef _ _ _ _ _ _ s _ _ _ => s | _ => default

structure HasFn (W : Wd) (f : Str) (n : Nat) : Prop where
  ok : ∃ a o pm cd doc, FnAt W f a o (Calls.docDef f (fnArgs n) (fnBody n) (fnScope n) pm cd doc) ∧ W.base.CodeRec cd f

theorem HasFn.call {W : Wd} {f : Str} {n k : Nat} {args : List D} {ρ₀ ρ₁ : Sto} {d : D} (h : HasFn W f n) (xs : List Str)
    (hb : ∀ pm cd doc, BindOK W (Calls.docDef f (fnArgs n) (fnBody n) (fnScope n) pm cd doc) args ρ₀) (hx : ρ₀.map (·.1) = xs)
    (hloc : (xs.all fun x => (fnScope n).names.lookup x == some .local) = true) (hnd : xs.Nodup) (hcell : ∀ x ∈ (fnScope n).names, x.2 ≠ .cell)
    (hco : (fnScope n).isCoroutine = false) (hgen : (fnScope n).isGenerator = false) (hk : (fnScope n).kind = .function)
    (hbody : ∀ F : Fc, F.env.scope = fnScope n → F.lvl = k → Exs W F ρ₀ (fnBody n) ρ₁ (.ret d)) : CallOK W (k + 1) f args d := by
  obtain ⟨a, o, pm, cd, doc, hf, hcd⟩ := h.ok
  refine CallOK.intro hf hcd (hb pm cd doc) (fun p hp => ?_) (by rw [hx]; exact hnd) hcell hco hgen hk fun F ⟨L, e⟩ hl => hbody F (by rw [e]; rfl) hl
  have := List.all_eq_true.mp hloc p.1 (hx ▸ List.mem_map_of_mem (f := (·.1)) hp)
  simpa using this

theorem Fc.kind {F : Fc} {sc : Scope} {x : Str} {k : NameKind} (he : F.env.scope = sc) (h : sc.names.lookup x = some k) : F.env.kindOf x = some k := by
  unfold Env.kindOf; rw [he]; exact h
theorem Fc.loc {F : Fc} {sc : Scope} {x : Str} (he : F.env.scope = sc) (h : sc.names.lookup x = some .local) : Storable F.env x := .inl (Fc.kind he h)

/-- what stands at the top -/
structure Top1 (W : Wd) : Prop where
  move : ∃ t, W.mg "_MOVE_COST" = some (.int 2 t)
  case_ : ∃ t, W.mg "_CASE_COST" = some (.int 1 t)
  max : ∃ t, W.mg "_MAX_STRING_SIZE" = some (.int 40 t)
  free : ∀ x ∈ (["len", "abs", "range", "list", "min", "sum", "isinstance", "tuple"] : List Str), W.mg x = none
  stats : HasFn W "add_func_stats" 1
  callers : HasFn W "add_callers" 2
  count : HasFn W "count_calls" 3
  repl : HasFn W "replace" 5
  sub : HasFn W "_substitution_cost" 10
  lev : HasFn W "_levenshtein_distance" 11
  plus : HasFn W "_law_plus" 13
  norm : HasFn W "_law_norm" 14
  read : HasFn W "_law_read" 15
  nought : HasFn W "_law_without_noughts" 16
  sys : ∃ o, W.base.get? sysModules = some o

noncomputable def isSign (c : Nat) : Prop := c = 97 ∨ c = 65 ∨ c = 98 ∨ c = 66
noncomputable def lowC (c : Nat) : Nat := if c = 65 then 97 else if c = 66 then 98 else c
theorem lower_sign {c : Nat} (h : isSign c) : Txt.lower (mkS [c]) = mkS [lowC c] := by
  rcases h with rfl | rfl | rfl | rfl <;> decide +kernel
noncomputable def upC (c : Nat) : Nat := if c = 97 then 65 else if c = 98 then 66 else c
theorem upper_sign {c : Nat} (h : isSign c) : Txt.upper (mkS [c]) = mkS [upC c] := by
  rcases h with rfl | rfl | rfl | rfl <;> decide +kernel
noncomputable def subCost (a b : Nat) : Int := if a = b then 0 else if lowC a = lowC b then 1 else 2

section
variable {W : Wd} {F : Fc} {ρ : Sto}
theorem Ev.cast {e : Expr} {d d' : D} (h : Ev W F ρ e d) (q : d = d') : Ev W F ρ e d' := q ▸ h
theorem Ts.cast {e : Expr} {c c' : Bool} (h : Ts W F ρ e c) (q : c = c') : Ts W F ρ e c' := q ▸ h
theorem Ev.s0 {k : Nat} {pos : Pos} : Ev W F ρ (.Constant (.str (Str.ofString "")) k pos) (.str []) := Ev.str (by decide +kernel)
theorem Ev.sa {k : Nat} {pos : Pos} : Ev W F ρ (.Constant (.str (Str.ofString "a")) k pos) (.str [97]) := Ev.str (by decide +kernel)
theorem Ev.sb {k : Nat} {pos : Pos} : Ev W F ρ (.Constant (.str (Str.ofString "b")) k pos) (.str [98]) := Ev.str (by decide +kernel)
theorem Ev.sab {k : Nat} {pos : Pos} : Ev W F ρ (.Constant (.str (Str.ofString "ab")) k pos) (.str [97, 98]) := Ev.str (by decide +kernel)
theorem Ev.saAbB {k : Nat} {pos : Pos} : Ev W F ρ (.Constant (.str (Str.ofString "aAbB")) k pos) (.str [97, 65, 98, 66]) := Ev.str (by decide +kernel)
theorem GI.tupN {l : List D} {i : Int} {d : D} (h0 : 0 ≤ i) (h1 : i < 2 ^ 62) (hc : l[i.toNat]? = some d) : GI W F (.tuple l) (.int i) d := by
  have hlt : i.toNat < l.length := (List.getElem?_eq_some_iff.mp hc).1
  refine GI.tuple (j := i.toNat) (by omega) (by omega) ?_ hc
  unfold seqIndex?
  simp only
  rw [if_neg (show ¬ i < 0 by omega), if_pos (by simp; omega)]
theorem GI.strN {l : List Nat} {i c : Nat} (h1 : i < 2 ^ 62) (hc : l[i]? = some c) : GI W F (.str l) (.int i) (.str [c]) := by
  have hlt : i < l.length := (List.getElem?_eq_some_iff.mp hc).1
  refine GI.str (j := i) (by omega) (by omega) ?_ hc
  unfold seqIndex?
  simp only
  rw [if_neg (show ¬ ((i : Nat) : Int) < 0 by omega), if_pos (by simp; omega)]
  simp
end

set_option maxRecDepth 100000 in
set_option maxHeartbeats 4000000 in
theorem sub_ok {W : Wd} (T : Top1 W) {a b : Nat} (ha : isSign a) (hb : isSign b) : CallOK W 1 "_substitution_cost" [.str [a], .str [b]] (.int (subCost a b)) := by
  refine T.sub.call (k := 0) (ρ₁ := []) ["ch_a", "ch_b"] (fun pm cd doc => BindOK.two (x := "ch_a") (y := "ch_b") fun v u => by rfl) rfl (by decide +kernel) (by decide +kernel) (by decide +kernel) rfl rfl rfl ?_
  intro F he hl
  obtain ⟨tm, hm⟩ := T.move
  obtain ⟨tc, hc⟩ := T.case_
  unfold subCost
  show Exs W F _ (_ :: _) _ _
  by_cases h1 : a = b
  · rw [if_pos h1]
    exact Exs.ret (ρ₁ := []) (Ex.ite (c := true) (Ts.cast (Ts.cmp (Ev.name rfl) (Ev.name rfl) V2.eqS) (by simp [h1])) (fun _ => Exs.ret (ρ₁ := []) (Ex.retV Ev.int)) (fun q => nomatch q))
  · rw [if_neg h1]
    refine Exs.cons (Ex.ite (c := false) (Ts.cast (Ts.cmp (Ev.name rfl) (Ev.name rfl) V2.eqS) (by simp [h1])) (fun q => nomatch q) (fun _ => Exs.nil)) ?_
    by_cases h2 : lowC a = lowC b
    · rw [if_pos h2]
      exact Exs.ret (ρ₁ := []) (Ex.ite (c := true) (Ts.cast (Ts.cmp (Ev.lower rfl (Ev.name rfl) (lower_sign ha) (by show 1 ≤ sizeLine; decide)) (Ev.lower rfl (Ev.name rfl) (lower_sign hb) (by show 1 ≤ sizeLine; decide)) V2.eqS) (by simp [h2])) (fun _ => Exs.ret (ρ₁ := []) (Ex.retV (Ev.globalInt hc (Fc.kind he (by decide +kernel))))) (fun q => nomatch q))
    · rw [if_neg h2]
      refine Exs.cons (Ex.ite (c := false) (Ts.cast (Ts.cmp (Ev.lower rfl (Ev.name rfl) (lower_sign ha) (by show 1 ≤ sizeLine; decide)) (Ev.lower rfl (Ev.name rfl) (lower_sign hb) (by show 1 ≤ sizeLine; decide)) V2.eqS) (by simp [h2])) (fun q => nomatch q) (fun _ => Exs.nil)) ?_
      exact Exs.ret (ρ₁ := []) (Ex.retV (Ev.globalInt hm (Fc.kind he (by decide +kernel))))

set_option maxRecDepth 100000 in
set_option maxHeartbeats 4000000 in
theorem plus_ok {W : Wd} (T : Top1 W) (a b c d t : Int) (ht : t.natAbs < 2 ^ 64) : CallOK W 1 "_law_plus" [.tuple [.int a, .int b], .tuple [.int c, .int d], .int t] (.tuple [.int (a + t * c), .int (b + t * d)]) := by
  refine T.plus.call (k := 0) (ρ₁ := []) ["row", "other", "times"] (fun pm cd doc => BindOK.three (x := "row") (y := "other") (z := "times") fun v u w => by rfl) rfl (by decide +kernel) (by decide +kernel) (by decide +kernel) rfl rfl rfl ?_
  intro F he hl
  show Exs W F _ (_ :: _) _ _
  refine Exs.ret (ρ₁ := []) (Ex.retV (Ev.tuple (.cons (Ev.bin (Ev.item (Ev.name rfl) Ev.int (GI.tupN (by decide) (by decide) rfl)) (Ev.bin (Ev.name rfl) (Ev.item (Ev.name rfl) Ev.int (GI.tupN (by decide) (by decide) rfl)) (V2.mulI (.inl ht))) V2.addI)
    (.cons (Ev.bin (Ev.item (Ev.name rfl) Ev.int (GI.tupN (by decide) (by decide) rfl)) (Ev.bin (Ev.name rfl) (Ev.item (Ev.name rfl) Ev.int (GI.tupN (by decide) (by decide) rfl)) (V2.mulI (.inl ht))) V2.addI) .nil)) (by show 2 ≤ sizeLine; decide)))

theorem boot_abs : bootBuiltins "abs" = some (.builtin "abs") := by boot_by_name
theorem boot_len : bootBuiltins "len" = some (.builtin "len") := by boot_by_name
theorem boot_min : bootBuiltins "min" = some (.builtin "min") := by boot_by_name
theorem boot_sum : bootBuiltins "sum" = some (.builtin "sum") := by boot_by_name
theorem boot_isi : bootBuiltins "isinstance" = some (.builtin "isinstance") := by boot_by_name
theorem boot_range : bootBuiltins "range" = some (.type "range") := by boot_by_name
theorem boot_list : bootBuiltins "list" = some (.type "list") := by boot_by_name
theorem boot_tuple : bootBuiltins "tuple" = some (.type "tuple") := by boot_by_name

set_option maxRecDepth 100000 in
set_option maxHeartbeats 4000000 in
theorem norm_ok {W : Wd} (T : Top1 W) (a b : Int) : CallOK W 1 "_law_norm" [.tuple [.int a, .int b]] (.int ((a.natAbs : Int) + (b.natAbs : Int))) := by
  refine T.norm.call (k := 0) (ρ₁ := []) ["row"] (fun pm cd doc => BindOK.one (x := "row") fun v => by rfl) rfl (by decide +kernel) (by decide +kernel) (by decide +kernel) rfl rfl rfl ?_
  intro F he hl
  have hf := T.free "abs" (by simp)
  show Exs W F _ (_ :: _) _ _
  exact Exs.ret (ρ₁ := []) (Ex.retV (Ev.bin (Ev.builtin1 (Ev.item (Ev.name rfl) Ev.int (GI.tupN (by decide) (by decide) rfl)) V1.abs boot_abs hf (by decide) (Fc.kind he (by decide +kernel)))
    (Ev.builtin1 (Ev.item (Ev.name rfl) Ev.int (GI.tupN (by decide) (by decide) rfl)) V1.abs boot_abs hf (by decide) (Fc.kind he (by decide +kernel))) V2.addI))
end Mine

namespace Mine

noncomputable def stAt (l : List Stmt) (i : Nat) : Stmt := (l[i]?).getD (.Pass ⟨0, 0, 0, 0⟩)
noncomputable def loopBody : Stmt → List Stmt
  | .For _ _ b _ _ => b
  | .While _ b _ _ => b
  | _ => []

/-! ## tables: texts to ints -/
abbrev Tab := List (List Nat × Int)
noncomputable def dT (t : Tab) : D := .dict (t.map (·.1)) ((t.map (·.2)).map .int)
noncomputable def lookT : Tab → List Nat → Option Int
  | [], _ => none
  | (k, v) :: r, x => if k = x then some v else lookT r x
noncomputable def putT : Tab → List Nat → Int → Tab
  | [], x, e => [(x, e)]
  | (k, v) :: r, x, e => if k = x then (k, e) :: r else (k, v) :: putT r x e
theorem lookT_eq : ∀ (t : Tab) (x : List Nat), lookD (t.map (·.1)) ((t.map (·.2)).map .int) x = (lookT t x).map .int
  | [], x => rfl
  | (k, v) :: r, x => by
    simp only [List.map_cons, lookD, lookT]
    split
    · rfl
    · exact lookT_eq r x
theorem putT_keys : ∀ (t : Tab) (x : List Nat) (e : Int), (putT t x e).map (·.1) = setK (t.map (·.1)) x
  | [], x, e => rfl
  | (k, v) :: r, x, e => by
    simp only [putT]
    by_cases h : k = x
    · subst h
      simp only [if_true, List.map_cons, setK, List.mem_cons, true_or]
    · simp only [h, if_false, List.map_cons, putT_keys r x e, setK, List.mem_cons, Ne.symm h, false_or]
      split <;> rfl
theorem putT_vals : ∀ (t : Tab) (x : List Nat) (e : Int), ((putT t x e).map (·.2)).map D.int = setV (t.map (·.1)) ((t.map (·.2)).map .int) x (.int e)
  | [], x, e => rfl
  | (k, v) :: r, x, e => by
    simp only [putT]
    by_cases h : k = x
    · subst h; simp only [if_true, List.map_cons, setV]
    · simp only [h, if_false, List.map_cons, setV, putT_vals r x e]
theorem dT_put (t : Tab) (x : List Nat) (e : Int) : D.dict (setK (t.map (·.1)) x) (setV (t.map (·.1)) ((t.map (·.2)).map .int) x (.int e)) = dT (putT t x e) := by
  unfold dT; rw [putT_keys, putT_vals]
theorem putT_length : ∀ (t : Tab) (x : List Nat) (e : Int), (putT t x e).length ≤ t.length + 1
  | [], x, e => by simp [putT]
  | (k, v) :: r, x, e => by
    simp only [putT]
    split
    · simp
    · simp; exact putT_length r x e
noncomputable def addT1 (n : Tab) (k : List Nat) (v : Int) : Tab := match lookT n k with | some v0 => putT n k (v0 + v) | none => putT n k v
noncomputable def copyT (t : Tab) : Tab := t.foldl (fun n p => putT n p.1 p.2) []
noncomputable def addT (t s : Tab) : Tab := s.foldl (fun n p => addT1 n p.1 p.2) (copyT t)
theorem addT1_length (n : Tab) (k : List Nat) (v : Int) : (addT1 n k v).length ≤ n.length + 1 := by
  unfold addT1; split <;> exact putT_length ..

section
variable {W : Wd}
noncomputable def acSto (t s n : Tab) : Sto := [("target", .imm (dT t)), ("source", .imm (dT s)), ("new_callers", .mu (dT n))]

set_option maxRecDepth 100000 in
set_option maxHeartbeats 4000000 in
theorem ac_loop1 {F : Fc} (he : F.env.scope = fnScope 2) (t s : Tab) : ∀ (r n : Tab), n.length + r.length ≤ 10000 →
    LoopI W F "func" "caller" (loopBody (stAt (fnBody 2) 1)) (r.map (·.1)) ((r.map (·.2)).map .int) (acSto t s n) (acSto t s (r.foldl (fun n p => putT n p.1 p.2) n))
  | [], n, _ => .nil
  | (k, v) :: r, n, h => by
    simp only [List.length_cons] at h
    have hl := putT_length n k v
    refine LoopI.cons (ρ₁ := acSto t s (putT n k v)) ?_ (ac_loop1 he t s r (putT n k v) (by omega))
    show Exs W F _ (_ :: _) _ _
    refine Exs.forget (Exs.cons (Ex.setDict (d := .int v) (ks := n.map (·.1)) (ds := (n.map (·.2)).map .int) rfl (Ev.name rfl) (Ev.name rfl) (by simp; rw [sizeLine_eq]; omega)) Exs.nil) ⟨rfl, rfl, ?_, trivial⟩
    rw [← dT_put]; rfl

set_option maxRecDepth 100000 in
set_option maxHeartbeats 4000000 in
theorem ac_loop2 (T : Top1 W) {F : Fc} (he : F.env.scope = fnScope 2) (t s : Tab) : ∀ (r n : Tab), n.length + r.length ≤ 10000 →
    LoopI W F "func" "caller" (loopBody (stAt (fnBody 2) 2)) (r.map (·.1)) ((r.map (·.2)).map .int) (acSto t s n) (acSto t s (r.foldl (fun n p => addT1 n p.1 p.2) n))
  | [], n, _ => .nil
  | (k, v) :: r, n, h => by
    simp only [List.length_cons] at h
    have hl := addT1_length n k v
    refine LoopI.cons (ρ₁ := acSto t s (addT1 n k v)) ?_ (ac_loop2 T he t s r (addT1 n k v) (by omega))
    have hsz : (n.map (·.1)).length ≤ sizeLine := by simp; rw [sizeLine_eq]; omega
    have hlk := lookT_eq n k
    show Exs W F _ (_ :: _) _ _
    cases q : lookT n k with
    | some v0 =>
      rw [q] at hlk
      refine Exs.forget (Exs.cons (Ex.ite (c := true) (Ts.cast (Ts.inM (ks := n.map (·.1)) (ds := (n.map (·.2)).map .int) (Ev.name rfl) rfl) (by rw [hlk]; rfl)) (fun _ => Exs.cons (Ex.ite (c := false) (Ts.isiTuple (Ev.name rfl) boot_isi (T.free _ (by simp)) (by decide) (Fc.kind he (by decide +kernel)) boot_tuple (T.free _ (by simp)) (by decide) (Fc.kind he (by decide +kernel))) (fun q => nomatch q) (fun _ => Exs.cons (Ex.augDict (ks := n.map (·.1)) (ds := (n.map (·.2)).map .int) (d := .int (v0 + v)) rfl (Ev.name rfl) hlk (Ev.name rfl) V2.iaddI hsz) Exs.nil)) Exs.nil) (fun q => nomatch q)) Exs.nil) ⟨rfl, rfl, ?_, trivial⟩
      unfold addT1; rw [q]; simp only; rw [← dT_put]; rfl
    | none =>
      rw [q] at hlk
      refine Exs.forget (Exs.cons (Ex.ite (c := false) (Ts.cast (Ts.inM (ks := n.map (·.1)) (ds := (n.map (·.2)).map .int) (Ev.name rfl) rfl) (by rw [hlk]; rfl)) (fun q => nomatch q) (fun _ => Exs.cons (Ex.setDict (d := .int v) (ks := n.map (·.1)) (ds := (n.map (·.2)).map .int) rfl (Ev.name rfl) (Ev.name rfl) hsz) Exs.nil)) Exs.nil) ⟨rfl, rfl, ?_, trivial⟩
      unfold addT1; rw [q]; simp only; rw [← dT_put]; rfl

theorem foldl_len {f : Tab → List Nat × Int → Tab} (hf : ∀ n p, (f n p).length ≤ n.length + 1) : ∀ (r n : Tab), (r.foldl f n).length ≤ n.length + r.length
  | [], n => by simp
  | p :: r, n => by
    have := foldl_len hf r (f n p)
    have := hf n p
    simp only [List.foldl_cons, List.length_cons]; omega
theorem copyT_length (t : Tab) : (copyT t).length ≤ t.length := by
  have := foldl_len (f := fun n p => putT n p.1 p.2) (fun n p => putT_length ..) t []
  simpa [copyT] using this
theorem addT_length (t s : Tab) : (addT t s).length ≤ t.length + s.length := by
  have := foldl_len (f := fun n p => addT1 n p.1 p.2) (fun n p => addT1_length ..) s (copyT t)
  have := copyT_length t
  unfold addT; omega

set_option maxRecDepth 100000 in
set_option maxHeartbeats 4000000 in
theorem callers_ok (T : Top1 W) (t s : Tab) (h : t.length + s.length ≤ 10000) : CallOK W 1 "add_callers" [dT t, dT s] (dT (addT t s)) := by
  refine T.callers.call (k := 0) (ρ₁ := []) ["target", "source"] (fun pm cd doc => BindOK.two (x := "target") (y := "source") fun v u => by rfl) rfl (by decide +kernel) (by decide +kernel) (by decide +kernel) rfl rfl rfl ?_
  intro F he hl
  show Exs W F _ (_ :: _) _ _
  have hc := copyT_length t
  refine Exs.cons (Ex.assignO (d := dT []) EvO.dict0 (Fc.loc he (by decide +kernel))) ?_
  refine Exs.cons (ρ₁ := acSto t s (copyT t)) (Ex.forItems rfl (Ev.name (d := dT t) rfl) (ac_loop1 he t s t [] (by simp; omega)) (Fc.loc he (by decide +kernel)) (Fc.loc he (by decide +kernel))) ?_
  refine Exs.cons (ρ₁ := acSto t s (addT t s)) (Ex.forItems rfl (Ev.name (d := dT s) rfl) (ac_loop2 T he t s s (copyT t) (by omega)) (Fc.loc he (by decide +kernel)) (Fc.loc he (by decide +kernel))) ?_
  refine Exs.freeze (x := "new_callers") (d := dT (addT t s)) rfl ?_
  exact Exs.ret (ρ₁ := []) (Ex.retV (Ev.name rfl))
end
end Mine

namespace Mine
section
variable {W : Wd}

theorem foldl_add (l : List Int) : ∀ a : Int, l.foldl (· + ·) a = a + l.sum := by
  induction l with
  | nil => intro a; simp
  | cons x l ih => intro a; simp only [List.foldl_cons, ih, List.sum_cons]; omega

set_option maxRecDepth 100000 in
set_option maxHeartbeats 4000000 in
theorem cc_loop {F : Fc} (he : F.env.scope = fnScope 3) (t : Tab) : ∀ (r : List Int) (n : Int),
    LoopR W F "calls" (loopBody (stAt (fnBody 3) 1)) (r.map .int) [("callers", .imm (dT t)), ("nc", .imm (.int n))] [("callers", .imm (dT t)), ("nc", .imm (.int (r.foldl (· + ·) n)))] .next
  | [], n => .nil
  | v :: r, n => by
    refine LoopR.cons (ρ₁ := [("callers", .imm (dT t)), ("nc", .imm (.int (n + v)))]) ?_ (cc_loop he t r (n + v))
    show Exs W F _ (_ :: _) _ _
    exact Exs.forget (Exs.cons (Ex.augName rfl (Ev.name rfl) V2.iaddI (Fc.loc he (by decide +kernel))) Exs.nil) ⟨rfl, rfl, trivial⟩

set_option maxRecDepth 100000 in
set_option maxHeartbeats 4000000 in
theorem count_ok (T : Top1 W) (t : Tab) : CallOK W 1 "count_calls" [dT t] (.int (t.map (·.2)).sum) := by
  refine T.count.call (k := 0) (ρ₁ := []) ["callers"] (fun pm cd doc => BindOK.one (x := "callers") fun v => by rfl) rfl (by decide +kernel) (by decide +kernel) (by decide +kernel) rfl rfl rfl ?_
  intro F he hl
  show Exs W F _ (_ :: _) _ _
  refine Exs.cons (Ex.assign Ev.int (Fc.loc he (by decide +kernel))) ?_
  refine Exs.cons (Ex.forName (It.values rfl (Ev.name (d := dT t) rfl)) (cc_loop he t (t.map (·.2)) 0) (Fc.loc he (by decide +kernel))) ?_
  have := foldl_add (t.map (·.2)) 0
  rw [Int.zero_add] at this
  rw [← this]
  exact Exs.ret (ρ₁ := []) (Ex.retV (Ev.name rfl))

noncomputable def dB (a b c d : Int) (t : Tab) : D := .tuple [.int a, .int b, .int c, .int d, dT t]
set_option maxRecDepth 100000 in
set_option maxHeartbeats 4000000 in
theorem stats_ok (T : Top1 W) (a b c d a' b' c' d' : Int) (t s : Tab) (h : t.length + s.length ≤ 10000) : CallOK W 2 "add_func_stats" [dB a b c d t, dB a' b' c' d' s] (dB (a' + a) (b' + b) (c' + c) (d' + d) (addT t s)) := by
  refine T.stats.call (k := 1) (ρ₁ := []) ["target", "source"] (fun pm cd doc => BindOK.two (x := "target") (y := "source") fun v u => by rfl) rfl (by decide +kernel) (by decide +kernel) (by decide +kernel) rfl rfl rfl ?_
  intro F he hl
  show Exs W F _ (_ :: _) _ _
  refine Exs.cons (Ex.unpack5 (Ev.name (d := dB a' b' c' d' s) rfl) (Fc.loc he (by decide +kernel)) (Fc.loc he (by decide +kernel)) (Fc.loc he (by decide +kernel)) (Fc.loc he (by decide +kernel)) (Fc.loc he (by decide +kernel))) ?_
  refine Exs.cons (Ex.unpack5 (Ev.name (d := dB a b c d t) rfl) (Fc.loc he (by decide +kernel)) (Fc.loc he (by decide +kernel)) (Fc.loc he (by decide +kernel)) (Fc.loc he (by decide +kernel)) (Fc.loc he (by decide +kernel))) ?_
  refine Exs.ret (ρ₁ := []) (Ex.retV (Ev.tuple (.cons (Ev.bin (Ev.name rfl) (Ev.name rfl) V2.addI) (.cons (Ev.bin (Ev.name rfl) (Ev.name rfl) V2.addI) (.cons (Ev.bin (Ev.name rfl) (Ev.name rfl) V2.addI) (.cons (Ev.bin (Ev.name rfl) (Ev.name rfl) V2.addI) (.cons (Ev.call (ds := [dT t, dT s]) (.cons (Ev.name rfl) (.cons (Ev.name rfl) .nil)) (by rw [hl]; exact callers_ok T t s h) (Fc.kind he (by decide +kernel))) .nil))))) (by show 5 ≤ sizeLine; decide)))
end
end Mine

namespace Mine

/-! ### removing every c₁c₂, from the left -/
noncomputable def rm2 (c1 c2 : Nat) : List Nat → List Nat
  | [] => []
  | [a] => [a]
  | a :: b :: r => if a = c1 ∧ b = c2 then rm2 c1 c2 r else a :: rm2 c1 c2 (b :: r)

theorem rm2_length (c1 c2 : Nat) : ∀ l : List Nat, (rm2 c1 c2 l).length ≤ l.length
  | [] => by simp [rm2]
  | [a] => by simp [rm2]
  | a :: b :: r => by
    rw [rm2]
    split
    · have := rm2_length c1 c2 r; simp only [List.length_cons]; omega
    · have := rm2_length c1 c2 (b :: r); simp only [List.length_cons] at this ⊢; omega

theorem rm2_none {c1 c2 : Nat} : ∀ l : List Nat, (∀ k, (l.drop k).take 2 ≠ [c1, c2]) → rm2 c1 c2 l = l
  | [], _ => rfl
  | [a], _ => rfl
  | a :: b :: r, h => by
    rw [rm2, if_neg (fun q => h 0 (by simp [q.1, q.2])), rm2_none (b :: r) fun k => by have := h (k + 1); simpa using this]

theorem rm2_skip {c1 c2 : Nat} : ∀ (n : Nat) (l : List Nat), (∀ k, k < n → (l.drop k).take 2 ≠ [c1, c2]) → (l.drop n).take 2 = [c1, c2] → rm2 c1 c2 l = l.take n ++ rm2 c1 c2 (l.drop (n + 2))
  | 0, l, _, h => by
    match l, h with
    | [], h => simp at h
    | [a], h => simp at h
    | a :: b :: r, h =>
      simp at h
      rw [rm2, if_pos h]; simp
  | n + 1, l, hn, h => by
    match l, h with
    | [], h => simp at h
    | [a], h => simp at h
    | a :: b :: r, h =>
      have h0 := hn 0 (by omega)
      rw [rm2, if_neg (fun q => h0 (by simp [q.1, q.2])), rm2_skip n (b :: r) (fun k hk => by have := hn (k + 1) (by omega); simpa using this) (by simpa using h)]
      simp

theorem at_iff (x y : Str) (k : Nat) (hy : y.length = 2) : StrLaws.At x y x.length k ↔ (x.cps.toList.drop k).take 2 = y.cps.toList := by
  unfold StrLaws.At
  rw [StrLaws.subAt_eq, beq_iff_eq, hy]
  constructor
  · exact fun h => h.2
  · intro h
    refine ⟨?_, h⟩
    have := congrArg List.length h
    simp [Str.length] at this hy ⊢
    omega

theorem parts_rm2 (x : Str) (c1 c2 : Nat) : ∀ (cuts : List Nat) (a f : Nat), StrLaws.ChainG x (mkS [c1, c2]) x.length a cuts f → (∀ k, f ≤ k → ¬ StrLaws.At x (mkS [c1, c2]) x.length k) →
    ((StrLaws.partsFrom x 2 a cuts).map (·.cps.toList)).flatten = rm2 c1 c2 (x.cps.toList.drop a)
  | [], a, f, h, hn => by
    have e : f = a := h
    subst e
    simp only [StrLaws.partsFrom, List.map_cons, List.map_nil, List.flatten_cons, List.flatten_nil, List.append_nil, StrLaws.strSub_toList]
    rw [rm2_none]
    · rw [List.take_of_length_le]; simp [Str.length]
    · intro k hk
      refine hn (f + k) (by omega) ((at_iff x _ _ rfl).mpr ?_)
      rw [List.drop_drop] at hk
      simpa [mkS] using hk
  | c :: r, a, f, h, hn => by
    obtain ⟨h1, h2, h3, h4⟩ := h
    have ih := parts_rm2 x c1 c2 r (c + 2) f h4 hn
    simp only [StrLaws.partsFrom, List.map_cons, List.flatten_cons, StrLaws.strSub_toList, ih]
    rw [rm2_skip (c - a) (x.cps.toList.drop a)]
    · rw [List.drop_drop]; congr 2; congr 1; omega
    · intro k hk q
      refine h3 (a + k) (by omega) (by omega) ((at_iff x _ _ rfl).mpr ?_)
      rw [List.drop_drop] at q
      simpa [mkS] using q
    · rw [List.drop_drop]
      have := (at_iff x _ _ rfl).mp h2
      rw [show a + (c - a) = c by omega]
      simpa [mkS] using this

theorem join_nil_flat : ∀ (ps : List Str), (Str.join (mkS []) ps).cps.toList = (ps.map (·.cps.toList)).flatten
  | [] => rfl
  | [p] => by simp [Str.join]
  | p :: q :: r => by
    have := join_nil_flat (q :: r)
    show ((p ++ mkS []) ++ Str.join (mkS []) (q :: r)).cps.toList = _
    rw [Str.cps_append, Str.cps_append]
    simp only [Array.toList_append, this, List.map_cons, List.flatten_cons]
    simp [mkS]

theorem strKind_low (l : List Nat) (h : ∀ c ∈ l, c < 256) : Builtin.Str.strKind (mkS l) = 1 := by
  unfold Builtin.Str.strKind
  rw [if_pos]
  simpa [mkS] using h

theorem glue_split (x : List Nat) (c1 c2 : Nat) (hx : ∀ c ∈ x, c < 256) (h1 : c1 < 256) (h2 : c2 < 256) : glueSplit [] x [c1, c2] = rm2 c1 c2 x := by
  obtain ⟨f, hG, hn⟩ := StrLaws.occ_tight (mkS x) (mkS [c1, c2]) (by show 1 ≤ 2; omega)
  have key := parts_rm2 (mkS x) c1 c2 _ 0 f hG hn
  rw [List.drop_zero, mkS_cps] at key
  unfold glueSplit Txt.join
  rw [StrLaws.glued_eq_join, join_nil_flat]
  unfold Txt.split
  have hk1 := strKind_low x hx
  have hk2 := strKind_low [c1, c2] (by simp [h1, h2])
  rw [hk1, hk2]
  have hL : (mkS x).length = x.length := mkS_length x
  have hL2 : (mkS [c1, c2]).length = 2 := rfl
  by_cases hlen : x.length < 2
  · rw [if_pos (by rw [hL, hL2]; simp [hlen])]
    simp only [List.map_cons, List.map_nil, List.flatten_cons, List.flatten_nil, List.append_nil, mkS_cps]
    match x, hlen with
    | [], _ => rfl
    | [a], _ => rfl
  · rw [if_neg (by rw [hL, hL2]; simp; omega)]
    split
    · rename_i hem
      rw [← key]
      rw [List.isEmpty_iff.mp hem]
      simp only [StrLaws.partsFrom, List.map_cons, List.map_nil, List.flatten_cons, List.flatten_nil, List.append_nil, StrLaws.strSub_toList, mkS_cps, List.drop_zero]
      rw [List.take_of_length_le]; rw [hL]; simp
    · rw [StrLaws.partsBetween_eq]; exact key

theorem split_small (x : List Nat) (c1 c2 : Nat) (hx : x.length ≤ 1000) : JoinOk (mkS []) (Txt.split (mkS x) (mkS [c1, c2])) = true := by
  unfold JoinOk
  have hlen : ∀ y ∈ Txt.split (mkS x) (mkS [c1, c2]), y.length ≤ 1000 := by
    intro y hy
    unfold Txt.split at hy
    have hL : (mkS x).length = x.length := mkS_length x
    split at hy
    · simp at hy; subst hy; omega
    · split at hy
      · simp at hy; subst hy; omega
      · unfold Builtin.Str.partsBetween at hy
        simp only [List.mem_map] at hy
        obtain ⟨p, _, rfl⟩ := hy
        have := StrLaws.strSub_toList (mkS x) p.1 p.2
        have := congrArg List.length this
        simp [mkS] at this
        show (Builtin.Str.strSub (mkS x) p.1 p.2).cps.size ≤ 1000
        unfold mkS
        omega
  have hn : (Txt.split (mkS x) (mkS [c1, c2])).length ≤ 1002 := by
    unfold Txt.split
    have hL : (mkS x).length = x.length := mkS_length x
    split
    · simp
    · split
      · simp
      · rw [PySem.length_partsBetween]
        have := StrLaws.occ_length_le (mkS x) (mkS [c1, c2]) 0 (mkS x).length ((mkS x).length + 1)
        omega
  have := StrLaws.joinFits (sep := mkS []) (B := 1000) hlen (by
    have : (mkS []).length = 0 := rfl
    rw [this]; omega)
  rw [this]; rfl
theorem parts_small (x : List Nat) (c1 c2 : Nat) (hx : x.length ≤ 1000) : (Builtin.Str.partsBetween (mkS x) (Builtin.Str.occurrences (mkS x) (mkS [c1, c2]) 0 (mkS x).length ((mkS x).length + 1)) (mkS [c1, c2]).length).length ≤ sizeLine := by
  rw [PySem.length_partsBetween]
  have hL : (mkS x).length = x.length := mkS_length x
  have := StrLaws.occ_length_le (mkS x) (mkS [c1, c2]) 0 (mkS x).length ((mkS x).length + 1)
  rw [sizeLine_eq]; omega

noncomputable def cntL (c : Nat) (l : List Nat) : Nat := (l.filter (· = c)).length
theorem cnt_eq (c : Nat) : ∀ l : List Nat, PyProof.Rows.cnt c l = cntL c l
  | [] => rfl
  | a :: r => by
    rw [PyProof.Rows.cnt_cons, cnt_eq c r]
    unfold cntL
    rw [List.filter_cons]
    by_cases h : a = c <;> simp [h]; omega
theorem count_sign (l : List Nat) (c : Nat) : Txt.count (mkS l) (mkS [c]) = cntL c l := by
  have := PyProof.Rows.count_is (mkS l) c
  rw [show (mkS [c]) = ⟨#[c]⟩ from rfl, this, mkS_cps, ← cnt_eq]
  rfl

section
variable {W : Wd} {F : Fc} {ρ : Sto}
open Builtin.Str
theorem filterMap_plain (l : List Nat) {a b : Nat} (hab : a ≤ b) (hb : b ≤ l.length) : (strSliceIndices (some (a : Int)) (some (b : Int)) 1 l.length).filterMap (l[·]?) = (l.drop a).take (b - a) := by
  rw [StrLaws.strSliceIndices_plain hab hb]
  exact StrLaws.picks l (b - a) a (by omega)
theorem plain_len {a b n : Nat} (hab : a ≤ b) (hb : b ≤ n) : (strSliceIndices (some (a : Int)) (some (b : Int)) 1 n).length = b - a := by
  rw [StrLaws.strSliceIndices_plain hab hb]; simp
theorem slice_lo {n : Nat} (a : Nat) : strSliceIndices (some (a : Int)) none 1 n = strSliceIndices (some (a : Int)) (some (n : Int)) 1 n := by
  have h0 : (1 : Int) > 0 := by decide
  have h1 : ¬ ((n : Int) < 0) := by omega
  have h2 : max (0 : Int) (min (n : Int) (n : Int)) = n := by omega
  simp only [strSliceIndices, h0, if_true, h1, if_false, h2]
theorem slice_hi {n : Nat} (b : Nat) : strSliceIndices none (some (b : Int)) 1 n = strSliceIndices (some ((0 : Nat) : Int)) (some (b : Int)) 1 n := by
  have h0 : (1 : Int) > 0 := by decide
  have h1 : ¬ (((0 : Nat) : Int) < 0) := by omega
  have h2 : max (0 : Int) (min ((0 : Nat) : Int) (n : Int)) = 0 := by omega
  simp only [strSliceIndices, h0, if_true, h1, if_false, h2]
theorem slice_none {n : Nat} : strSliceIndices none none 1 n = strSliceIndices (some ((0 : Nat) : Int)) none 1 n := by
  have h0 : (1 : Int) > 0 := by decide
  have h1 : ¬ (((0 : Nat) : Int) < 0) := by omega
  have h2 : max (0 : Int) (min ((0 : Nat) : Int) (n : Int)) = 0 := by omega
  simp only [strSliceIndices, h0, if_true, h1, if_false, h2]
theorem slice_clip {n : Nat} (a b : Nat) : strSliceIndices (some (a : Int)) (some (b : Int)) 1 n = strSliceIndices (some ((min a n : Nat) : Int)) (some ((min b n : Nat) : Int)) 1 n := by
  unfold strSliceIndices
  simp only
  have h0 : (1 : Int) > 0 := by decide
  simp only [h0, if_true]
  rw [if_neg (show ¬ ((a : Int) < 0) by omega), if_neg (show ¬ ((b : Int) < 0) by omega), if_neg (show ¬ (((min a n : Nat) : Int) < 0) by omega), if_neg (show ¬ (((min b n : Nat) : Int) < 0) by omega)]
  congr 1 <;> omega

theorem slice_form (l : List Nat) (i j : Option Int) {a b : Nat} (hab : a ≤ b) (hb : b ≤ l.length) (e : strSliceIndices i j 1 l.length = strSliceIndices (some (a : Int)) (some (b : Int)) 1 l.length) :
    (if (((none : Option Int).getD 1 == 1) && (strSliceIndices i j ((none : Option Int).getD 1) l.length).length == l.length) = true then l else (strSliceIndices i j ((none : Option Int).getD 1) l.length).filterMap (l[·]?)) = (l.drop a).take (b - a) := by
  show (if ((1 : Int) == 1 && (strSliceIndices i j 1 l.length).length == l.length) = true then l else (strSliceIndices i j 1 l.length).filterMap (l[·]?)) = _
  rw [e, plain_len hab hb, filterMap_plain l hab hb]
  split
  · rename_i h
    simp at h
    have h1 : a = 0 := by omega
    have h2 : b = l.length := by omega
    subst h1 h2
    simp
  · rfl

/-- s[a:] -/
theorem Ev.strFrom {value lo : Expr} {p pos : Pos} {l : List Nat} {a : Nat} (h : Ev W F ρ value (.str l)) (hlo : Ev W F ρ lo (.int a)) (hl : l.length ≤ sizeLine) :
    Ev W F ρ (.Subscript value (.Slice (some lo) Option.none Option.none p) pos) (.str (l.drop a)) := by
  refine Ev.sliceS (i := some (a : Int)) (j := Option.none) (k := Option.none) h hlo rfl rfl rfl hl (by simp) ?_
  by_cases q : a ≤ l.length
  · rw [slice_form l _ _ q (Nat.le_refl _) (slice_lo a)]
    rw [List.take_of_length_le]; simp
  · rw [slice_form l _ _ (a := l.length) (b := l.length) (Nat.le_refl _) (Nat.le_refl _) (by rw [slice_lo, slice_clip, Nat.min_eq_right (by omega), Nat.min_self])]
    rw [List.drop_eq_nil_of_le (by omega : l.length ≤ a)]; simp
/-- s[:b] -/
theorem Ev.strTo {value hi : Expr} {p pos : Pos} {l : List Nat} {b : Nat} (h : Ev W F ρ value (.str l)) (hhi : Ev W F ρ hi (.int b)) (hl : l.length ≤ sizeLine) :
    Ev W F ρ (.Subscript value (.Slice Option.none (some hi) Option.none p) pos) (.str (l.take b)) := by
  refine Ev.sliceS (i := Option.none) (j := some (b : Int)) (k := Option.none) h rfl hhi rfl rfl hl (by simp; omega) ?_
  rw [slice_form l _ _ (a := min 0 l.length) (b := min b l.length) (by omega) (by omega) (by rw [slice_hi, slice_clip])]
  simp
/-- s[:None] -/
theorem Ev.strToNone {value hi : Expr} {p pos : Pos} {l : List Nat} (h : Ev W F ρ value (.str l)) (hhi : Ev W F ρ hi .none) (hl : l.length ≤ sizeLine) :
    Ev W F ρ (.Subscript value (.Slice Option.none (some hi) Option.none p) pos) (.str l) := by
  refine Ev.sliceS (i := Option.none) (j := Option.none) (k := Option.none) h rfl hhi rfl rfl hl (Nat.le_refl _) ?_
  rw [slice_form l _ _ (a := 0) (b := l.length) (by omega) (by omega) ?_]
  · simp
  · rw [← slice_lo, ← slice_none]
/-- s[:-n] -/
theorem Ev.strToNeg {value hi : Expr} {p pos : Pos} {l : List Nat} {b : Nat} (hb0 : 0 < b) (h : Ev W F ρ value (.str l)) (hhi : Ev W F ρ hi (.int (-(b : Int)))) (hl : l.length ≤ sizeLine) :
    Ev W F ρ (.Subscript value (.Slice Option.none (some hi) Option.none p) pos) (.str (l.take (l.length - b))) := by
  refine Ev.sliceS (i := Option.none) (j := some (-(b : Int))) (k := Option.none) h rfl hhi rfl rfl hl (by simp) ?_
  rw [slice_form l _ _ (a := 0) (b := l.length - b) (by omega) (by omega) ?_]
  · simp
  · unfold strSliceIndices
    simp only
    have h0 : (1 : Int) > 0 := by decide
    simp only [h0, if_true]
    rw [if_pos (show (-(b : Int)) < 0 by omega), if_neg (show ¬ (((0 : Nat) : Int) < 0) by omega), if_neg (show ¬ (((l.length - b : Nat) : Int) < 0) by omega)]
    congr 1 <;> omega
/-- s[::-1] -/
theorem Ev.strRev {value st : Expr} {p pos : Pos} {l : List Nat} (h : Ev W F ρ value (.str l)) (hst : Ev W F ρ st (.int (-1))) (hl : l.length ≤ sizeLine) :
    Ev W F ρ (.Subscript value (.Slice Option.none Option.none (some st) p) pos) (.str l.reverse) := by
  refine Ev.sliceS (i := Option.none) (j := Option.none) (k := some (-1)) h rfl rfl hst rfl hl (by simp) ?_
  show (if ((-1 : Int) == 1 && _) = true then l else (strSliceIndices none none (-1) l.length).filterMap (l[·]?)) = _
  rw [if_neg (by simp), PyProof.Rows.picked_rev]
  rw [List.filterMap_map]
  apply List.ext_getElem?
  intro i
  have e : (List.range l.length).filterMap ((fun x => l[x]?) ∘ fun k => l.length - 1 - k) = (List.range l.length).map (fun k => l.getD (l.length - 1 - k) 0) := by
    have key : ∀ r : List Nat, (∀ k ∈ r, k < l.length) → r.filterMap ((fun x => l[x]?) ∘ fun k => l.length - 1 - k) = r.map (fun k => l.getD (l.length - 1 - k) 0) := by
      intro r
      induction r with
      | nil => intro _; rfl
      | cons k r ih =>
        intro hk
        have hk' : k < l.length := hk k (.head _)
        have hlt : l.length - 1 - k < l.length := by omega
        rw [List.filterMap_cons, ih fun j hj => hk j (.tail _ hj)]
        simp [List.getD, List.getElem?_eq_getElem hlt]
    exact key _ fun k hk => List.mem_range.mp hk
  rw [e]
  by_cases hi : i < l.length
  · rw [List.getElem?_reverse hi, List.getElem?_map, List.getElem?_range hi]
    have hlt : l.length - 1 - i < l.length := by omega
    simp [List.getD, List.getElem?_eq_getElem hlt]
  · rw [List.getElem?_eq_none (by simp; omega), List.getElem?_eq_none (by simp; omega)]
/-- s[-n] -/
theorem GI.strNeg {l : List Nat} {b c : Nat} (h0 : 0 < b) (hb : b ≤ l.length) (h1 : b < 2 ^ 62) (hc : l[l.length - b]? = some c) : GI W F (.str l) (.int (-(b : Int))) (.str [c]) := by
  refine GI.str (j := l.length - b) (by omega) (by omega) ?_ hc
  unfold seqIndex?
  simp only
  rw [if_pos (show -((b : Nat) : Int) < 0 by omega), if_pos (by simp; omega)]
  congr 1; omega
end
end Mine

namespace Mine
section
variable {W : Wd}

theorem BindOK.var8 {fd : FuncData} {x y : Str} {d : D} {ds : List D} (hl : ds.length = 8) (h : ∀ v r0 r1 r2 r3 r4 r5 r6 r7, bindArgs fd ⟨[v, r0, r1, r2, r3, r4, r5, r6, r7], []⟩ = (newTuple [r0, r1, r2, r3, r4, r5, r6, r7] >>= fun t => pure [(x, v), (y, t)])) :
    BindOK W fd (d :: ds) [(x, .imm d), (y, .imm (.tuple ds))] := fun A s K vs Q E hs hr hQ => by
  simp only [RepL] at hr
  obtain ⟨v, rest, rfl, r, hr⟩ := hr
  have hlen := hr.length
  rw [hl] at hlen
  match rest, hlen with
  | [r0, r1, r2, r3, r4, r5, r6, r7], _ =>
    rw [h]
    refine wpAny_bind (wpAny_newTuple ?_ (by show 8 ≤ sizeLine; decide))
    have g := Grow.new (K := K) (h := s.heap) (h' := s.heap.push { cls := .type "tuple", data := .seq #[r0, r1, r2, r3, r4, r5, r6, r7] }) hs (fun b o e => Heap.get?_push_of_some _ e) (get?_size _) (Heap.get?_push_size _ rfl)
    refine wpAny_pure (hQ _ _ _ s.toks g ⟨v, _, rfl, ⟨d, rfl, Rep.mono g.le _ _ r⟩, _, _, rfl, ⟨_, rfl, ?_⟩, rfl⟩)
    exact ⟨_, _, _, rfl, Kn.add_self .., rfl, ⟨_, rfl⟩, RepL.mono g.le _ _ hr⟩

noncomputable def pairsD : List D := [.str [97, 65], .str [], .str [65, 97], .str [], .str [98, 66], .str [], .str [66, 98], .str []]
noncomputable def rep1 (x : List Nat) : List Nat := rm2 66 98 (rm2 98 66 (rm2 65 97 (rm2 97 65 x)))
noncomputable def Signs (x : List Nat) : Prop := ∀ c ∈ x, isSign c
theorem Signs.low {x : List Nat} (h : Signs x) : ∀ c ∈ x, c < 256 := fun c hc => by rcases h c hc with rfl | rfl | rfl | rfl <;> decide
theorem rm2_sub {c1 c2 : Nat} : ∀ {l : List Nat} {c : Nat}, c ∈ rm2 c1 c2 l → c ∈ l
  | [], c, h => h
  | [a], c, h => h
  | a :: b :: r, c, h => by
    rw [rm2] at h
    split at h
    · exact .tail _ (.tail _ (rm2_sub h))
    · rcases List.mem_cons.mp h with rfl | h
      · exact .head _
      · exact .tail _ (rm2_sub h)
theorem Signs.rm2 {x : List Nat} (h : Signs x) (c1 c2 : Nat) : Signs (rm2 c1 c2 x) := fun c hc => h c (rm2_sub hc)

noncomputable def rpSto (x : List Nat) (l : List D) : Sto := [("text", .imm (.str x)), ("pairs", .imm (.tuple l))]

set_option maxRecDepth 100000 in
set_option maxHeartbeats 4000000 in
theorem rp_step {F : Fc} (he : F.env.scope = fnScope 5) {x : List Nat} {c1 c2 : Nat} {l : List D} (hx : Signs x) (h1 : c1 < 256) (h2 : c2 < 256) (hl : x.length ≤ 1000) (hd : l.length ≤ 100) :
    Exs W F (rpSto x (.str [c1, c2] :: .str [] :: l)) (loopBody (stAt (fnBody 5) 0)) (rpSto (rm2 c1 c2 x) l) .next := by
  show Exs W F _ (_ :: _) _ _
  have hs : x.length ≤ sizeLine := by rw [sizeLine_eq]; omega
  refine Exs.forget (Exs.cons (Ex.assign (Ev.joinSplit (sep := []) (x := x) (y := [c1, c2]) rfl rfl (Ev.item (Ev.name rfl) Ev.int (GI.tupN (by decide) (by decide) rfl)) (Ev.name rfl) (Ev.item (Ev.name rfl) Ev.int (GI.tupN (by decide) (by decide) rfl)) (by simp) hs (parts_small x c1 c2 hl) (split_small x c1 c2 hl)) (Fc.loc he (by decide +kernel))) (Exs.cons (Ex.assign (Ev.tupFrom (a := 2) (l := .str [c1, c2] :: .str [] :: l) (Ev.name rfl) Ev.int (by decide) (by simp) (by rw [sizeLine_eq]; simp; omega)) (Fc.loc he (by decide +kernel))) Exs.nil)) ⟨?_, rfl, trivial⟩
  rw [glue_split x c1 c2 hx.low h1 h2]; rfl

set_option maxRecDepth 100000 in
set_option maxHeartbeats 4000000 in
theorem replace_ok (T : Top1 W) (x : List Nat) (hx : Signs x) (hl : x.length ≤ 1000) : CallOK W 1 "replace" (.str x :: pairsD) (.str (rep1 x)) := by
  refine T.repl.call (k := 0) (ρ₁ := []) ["text", "pairs"] (fun pm cd doc => BindOK.var8 (x := "text") (y := "pairs") rfl fun v r0 r1 r2 r3 r4 r5 r6 r7 => by rfl) rfl (by decide +kernel) (by decide +kernel) (by decide +kernel) rfl rfl rfl ?_
  intro F he hl'
  show Exs W F _ (_ :: _) _ _
  have tt : ∀ x (d : D) l, l.length ≤ 100 → Ts W F (rpSto x (d :: l)) (.Name "pairs" ⟨0,0,0,0⟩) true := fun x d l hd => Ts.plain (Ev.name rfl) (VT.tuple (l := d :: l) (by rw [sizeLine_eq]; simp; omega)) fun A E s Q whole h => isTrue_plain h
  have tf : ∀ x, Ts W F (rpSto x []) (.Name "pairs" ⟨0,0,0,0⟩) false := fun x => Ts.plain (Ev.name rfl) (VT.tuple (l := []) (by decide)) fun A E s Q whole h => isTrue_plain h
  have h1 := hx.rm2 97 65
  have h2 := h1.rm2 65 97
  have h3 := h2.rm2 98 66
  have l1 := rm2_length 97 65 x
  have l2 := rm2_length 65 97 (rm2 97 65 x)
  have l3 := rm2_length 98 66 (rm2 65 97 (rm2 97 65 x))
  refine Exs.cons (ρ₁ := rpSto (rep1 x) []) (Ex.while (n := 4) ?_) (Exs.ret (ρ₁ := []) (Ex.retV (Ev.name rfl)))
  refine WhileR.step (ρ₁ := rpSto _ _) (Ts.plain (Ev.name rfl) (VT.tuple (by decide)) fun A E s Q whole h => isTrue_plain h) (rp_step he hx (by decide) (by decide) hl (by decide)) ?_
  refine WhileR.step (ρ₁ := rpSto _ _) (Ts.plain (Ev.name rfl) (VT.tuple (by decide)) fun A E s Q whole h => isTrue_plain h) (rp_step he h1 (by decide) (by decide) (by omega) (by decide)) ?_
  refine WhileR.step (ρ₁ := rpSto _ _) (Ts.plain (Ev.name rfl) (VT.tuple (by decide)) fun A E s Q whole h => isTrue_plain h) (rp_step he h2 (by decide) (by decide) (by omega) (by decide)) ?_
  refine WhileR.step (ρ₁ := rpSto _ _) (Ts.plain (Ev.name rfl) (VT.tuple (by decide)) fun A E s Q whole h => isTrue_plain h) (rp_step he h3 (by decide) (by decide) (by omega) (by decide)) ?_
  exact WhileR.done (Ts.plain (Ev.name rfl) (VT.tuple (by decide)) fun A E s Q whole h => isTrue_plain h)
end
end Mine

namespace Mine
abbrev RSt := (Int × Int) × (Int × Int)
noncomputable def getR (l : Nat) (st : RSt) : Int × Int := if l = 97 then st.1 else st.2
noncomputable def putR (l : Nat) (p : Int × Int) (st : RSt) : RSt := if l = 97 then (p, st.2) else (st.1, p)
noncomputable def addR (p q : Int × Int) (t : Int) : Int × Int := (p.1 + t * q.1, p.2 + t * q.2)
noncomputable def othL (l : Nat) : Nat := if l = 97 then 98 else 97
noncomputable def normR (p : Int × Int) : Int := (p.1.natAbs : Int) + (p.2.natAbs : Int)
noncomputable def P2 (p : Int × Int) : D := .tuple [.int p.1, .int p.2]
noncomputable def rdD (st : RSt) : D := .dict [[97], [98]] [P2 st.1, P2 st.2]
noncomputable def isLow (l : Nat) : Prop := l = 97 ∨ l = 98
theorem lowC_low {c : Nat} (h : isSign c) : isLow (lowC c) := by rcases h with rfl | rfl | rfl | rfl <;> simp [isLow, lowC]
theorem isLow.sign {l : Nat} (h : isLow l) : isSign l := by rcases h with rfl | rfl <;> simp [isSign]
theorem isLow.oth {l : Nat} (h : isLow l) : isLow (othL l) := by rcases h with rfl | rfl <;> simp [isLow, othL]
theorem look_r {l : Nat} (h : isLow l) (st : RSt) : lookD [[97], [98]] [P2 st.1, P2 st.2] [l] = some (P2 (getR l st)) := by
  rcases h with rfl | rfl <;> rfl
theorem look_o {l : Nat} (h : isLow l) : lookD [[97], [98]] [.str [98], .str [97]] [l] = some (.str [othL l]) := by
  rcases h with rfl | rfl <;> rfl
theorem put_r {l : Nat} (h : isLow l) (st : RSt) (p : Int × Int) : D.dict (setK [[97], [98]] [l]) (setV [[97], [98]] [P2 st.1, P2 st.2] [l] (P2 p)) = rdD (putR l p st) := by
  rcases h with rfl | rfl <;> rfl
noncomputable def rdTimes (c : Nat) : Int := if c = lowC c then 2 else -2
noncomputable def rd1 (c : Nat) (st : RSt) : RSt := putR (lowC c) (addR (getR (lowC c) st) (getR (othL (lowC c)) st) (rdTimes c)) st
noncomputable def rdOut : List Nat → List Nat → RSt → List Nat
  | [], told, _ => told
  | _ :: r, told, st =>
    if normR st.1 = normR st.2 then told else
    let l := if normR st.1 > normR st.2 then 97 else 98
    let less := addR (getR l st) (getR (othL l) st) (-2)
    let more := addR (getR l st) (getR (othL l) st) 2
    if normR less < normR more then rdOut r (told ++ [l]) (putR l less st) else rdOut r (told ++ [upC l]) (putR l more st)

end Mine

namespace Mine
section
variable {W : Wd}
theorem EvO.dict2 {F : Fc} {ρ : Sto} {k1 k2 v1 v2 : Expr} {pos : Pos} {x1 x2 : List Nat} {d1 d2 : D} (h1 : Ev W F ρ k1 (.str x1)) (g1 : Ev W F ρ v1 d1) (h2 : Ev W F ρ k2 (.str x2)) (g2 : Ev W F ρ v2 d2) (hne : x1 ≠ x2) : EvO W F ρ (.Dict [some k1, some k2] [v1, v2] pos) (.dict [x1, x2] [d1, d2]) :=
  EvO.dict (.cons h1 g1 (.cons h2 g2 .nil)) (by simp [hne]) (hlen := by simp)
theorem EvO.dict1 {F : Fc} {ρ : Sto} {k1 v1 : Expr} {pos : Pos} {x1 : List Nat} {d1 : D} (h1 : Ev W F ρ k1 (.str x1)) (g1 : Ev W F ρ v1 d1) : EvO W F ρ (.Dict [some k1] [v1] pos) (.dict [x1] [d1]) :=
  EvO.dict (.cons h1 g1 .nil) (by simp) (hlen := by simp)
noncomputable def othD : D := .dict [[97], [98]] [.str [98], .str [97]]
noncomputable def rdSto (w : List Nat) (st : RSt) : Sto := [("word", .imm (.str w)), ("other", .imm othD), ("rows", .mu (rdD st))]
noncomputable def rdSto2 (w told : List Nat) (st : RSt) : Sto := [("word", .imm (.str w)), ("other", .imm othD), ("rows", .mu (rdD st)), ("told", .imm (.str told))]

set_option maxRecDepth 100000 in
set_option maxHeartbeats 4000000 in
theorem rd_loop1 (T : Top1 W) {F : Fc} (he : F.env.scope = fnScope 15) (hl : F.lvl = 1) (w : List Nat) : ∀ (r : List Nat) (st : RSt), Signs r →
    LoopR W F "sign" (loopBody (stAt (fnBody 15) 2)) (r.map fun c => .str [c]) (rdSto w st) (rdSto w (r.foldl (fun st c => rd1 c st) st)) .next
  | [], st, _ => .nil
  | c :: r, st, h => by
    have hc := h c (.head _)
    have hlow := lowC_low hc
    refine LoopR.cons (ρ₁ := rdSto w (rd1 c st)) ?_ (rd_loop1 T he hl w r (rd1 c st) fun d hd => h d (.tail _ hd))
    show Exs W F _ (_ :: _) _ _
    refine Exs.cons (Ex.assign (Ev.lower rfl (Ev.name rfl) (lower_sign hc) (by show 1 ≤ sizeLine; decide)) (Fc.loc he (by decide +kernel))) ?_
    refine Exs.cons (Ex.assign (d := .int (rdTimes c)) (Ev.ite (c := decide (c = lowC c)) (Ts.cast (Ts.cmp (Ev.name rfl) (Ev.name rfl) V2.eqS) (by simp)) (fun q => ?_) (fun q => ?_)) (Fc.loc he (by decide +kernel))) ?_
    · unfold rdTimes; rw [if_pos (by simpa using q)]; exact Ev.int
    · unfold rdTimes; rw [if_neg (by simpa using q)]; exact Ev.un Ev.int V1.negI
    have ht : (rdTimes c).natAbs < 2 ^ 64 := by unfold rdTimes; split <;> decide
    refine Exs.forget (Exs.cons (Ex.setDict (ks := [[97], [98]]) (ds := [P2 st.1, P2 st.2]) (k := [lowC c]) (d := P2 (addR (getR (lowC c) st) (getR (othL (lowC c)) st) (rdTimes c))) rfl (Ev.name rfl)
      (Ev.call (ds := [P2 (getR (lowC c) st), P2 (getR (othL (lowC c)) st), .int (rdTimes c)]) (.cons (Ev.itemM (d₁ := rdD st) rfl (Ev.name rfl) (MI.dict (look_r hlow st))) (.cons (Ev.itemM (d₁ := rdD st) rfl (Ev.item (d₁ := othD) (Ev.name rfl) (Ev.name rfl) (GI.dict (look_o hlow))) (MI.dict (look_r hlow.oth st))) (.cons (Ev.name rfl) .nil)))
        (by rw [hl]; exact plus_ok T _ _ _ _ _ ht) (Fc.kind he (by decide +kernel))) (by show 2 ≤ sizeLine; decide)) Exs.nil) ⟨rfl, rfl, ?_, trivial⟩
    rw [put_r hlow]; rfl

set_option maxRecDepth 100000 in
set_option maxHeartbeats 4000000 in
theorem rd_norm (T : Top1 W) {F : Fc} (hl : F.lvl = 1) (p : Int × Int) : CallOK W F.lvl "_law_norm" [P2 p] (.int (normR p)) := by
  rw [hl]; exact norm_ok T p.1 p.2

noncomputable def fRd (told : List Nat) (st : RSt) : Sto := rdSto2 [] told st

theorem lookA (st : RSt) : lookD [[97], [98]] [P2 st.1, P2 st.2] [97] = some (P2 st.1) := rfl
theorem lookB (st : RSt) : lookD [[97], [98]] [P2 st.1, P2 st.2] [98] = some (P2 st.2) := rfl

set_option maxRecDepth 100000 in
set_option maxHeartbeats 4000000 in
theorem rd_loop2 (T : Top1 W) {F : Fc} (he : F.env.scope = fnScope 15) (hl : F.lvl = 1) (w : List Nat) : ∀ (r told : List Nat) (st : RSt), told.length + r.length ≤ 1000 →
    (∃ st', LoopR W F "sign" (loopBody (stAt (fnBody 15) 4)) (r.map fun c => .str [c]) (rdSto2 w told st) (rdSto2 w (rdOut r told st) st') .next) ∨ LoopR W F "sign" (loopBody (stAt (fnBody 15) 4)) (r.map fun c => .str [c]) (rdSto2 w told st) [] (.ret (.str (rdOut r told st)))
  | [], told, st, _ => .inl ⟨st, .nil⟩
  | c :: r, told, st, h => by
    simp only [List.length_cons] at h
    by_cases h1 : normR st.1 = normR st.2
    · right
      rw [rdOut, if_pos h1]
      refine LoopR.ret (ρ₁ := []) ?_
      show Exs W F _ (_ :: _) _ _
      refine Exs.ret (ρ₁ := []) (Ex.ite (c := true) (Ts.cast (Ts.cmp (Ev.call (ds := [P2 st.1]) (.cons (Ev.itemM (d₁ := rdD st) rfl Ev.sa (MI.dict (lookA st))) .nil) (rd_norm T hl _) (Fc.kind he (by decide +kernel))) (Ev.call (ds := [P2 st.2]) (.cons (Ev.itemM (d₁ := rdD st) rfl Ev.sb (MI.dict (lookB st))) .nil) (rd_norm T hl _) (Fc.kind he (by decide +kernel))) V2.eqI) (by simp [h1])) (fun _ => Exs.ret (ρ₁ := []) (Ex.retV (Ev.name rfl))) (fun q => nomatch q))
    · generalize hlt : (if normR st.1 > normR st.2 then 97 else 98) = l
      have hlow : isLow l := by rw [← hlt]; split <;> simp [isLow]
      generalize hle : addR (getR l st) (getR (othL l) st) (-2) = less
      generalize hmo : addR (getR l st) (getR (othL l) st) 2 = more
      have step : ∀ c', (c' = if normR less < normR more then l else upC l) → Exs W F ((rdSto2 w told st).set "sign" (.imm (.str [c]))) (loopBody (stAt (fnBody 15) 4)) (rdSto2 w (told ++ [c']) (putR l (if normR less < normR more then less else more) st)) .next := by
        intro c' hc'
        show Exs W F _ (_ :: _) _ _
        refine Exs.cons (Ex.ite (c := false) (Ts.cast (Ts.cmp (Ev.call (ds := [P2 st.1]) (.cons (Ev.itemM (d₁ := rdD st) rfl Ev.sa (MI.dict (lookA st))) .nil) (rd_norm T hl _) (Fc.kind he (by decide +kernel))) (Ev.call (ds := [P2 st.2]) (.cons (Ev.itemM (d₁ := rdD st) rfl Ev.sb (MI.dict (lookB st))) .nil) (rd_norm T hl _) (Fc.kind he (by decide +kernel))) V2.eqI) (by simp [h1])) (fun q => nomatch q) (fun _ => Exs.nil)) ?_
        refine Exs.cons (Ex.assign (d := .str [l]) (Ev.ite (c := decide (normR st.1 > normR st.2)) (Ts.cmp (Ev.call (ds := [P2 st.1]) (.cons (Ev.itemM (d₁ := rdD st) rfl Ev.sa (MI.dict (lookA st))) .nil) (rd_norm T hl _) (Fc.kind he (by decide +kernel))) (Ev.call (ds := [P2 st.2]) (.cons (Ev.itemM (d₁ := rdD st) rfl Ev.sb (MI.dict (lookB st))) .nil) (rd_norm T hl _) (Fc.kind he (by decide +kernel))) V2.gtI) (fun q => ?_) (fun q => ?_)) (Fc.loc he (by decide +kernel))) ?_
        · rw [← hlt, if_pos (by simpa using q)]; exact Ev.sa
        · rw [← hlt, if_neg (by simpa using q)]; exact Ev.sb
        refine Exs.cons (Ex.assign (d := P2 less) (Ev.call (ds := [P2 (getR l st), P2 (getR (othL l) st), .int (-2)]) (.cons (Ev.itemM (d₁ := rdD st) rfl (Ev.name rfl) (MI.dict (look_r hlow st))) (.cons (Ev.itemM (d₁ := rdD st) rfl (Ev.item (d₁ := othD) (Ev.name rfl) (Ev.name rfl) (GI.dict (look_o hlow))) (MI.dict (look_r hlow.oth st))) (.cons (Ev.un Ev.int V1.negI) .nil)))
          (by rw [hl, ← hle]; exact plus_ok T _ _ _ _ _ (by decide)) (Fc.kind he (by decide +kernel))) (Fc.loc he (by decide +kernel))) ?_
        refine Exs.cons (Ex.assign (d := P2 more) (Ev.call (ds := [P2 (getR l st), P2 (getR (othL l) st), .int 2]) (.cons (Ev.itemM (d₁ := rdD st) rfl (Ev.name rfl) (MI.dict (look_r hlow st))) (.cons (Ev.itemM (d₁ := rdD st) rfl (Ev.item (d₁ := othD) (Ev.name rfl) (Ev.name rfl) (GI.dict (look_o hlow))) (MI.dict (look_r hlow.oth st))) (.cons Ev.int .nil)))
          (by rw [hl, ← hmo]; exact plus_ok T _ _ _ _ _ (by decide)) (Fc.kind he (by decide +kernel))) (Fc.loc he (by decide +kernel))) ?_
        by_cases h2 : normR less < normR more
        · rw [if_pos h2] at hc' ⊢
          subst hc'
          refine Exs.cons (ρ₁ := rdSto2 w (told ++ [c']) (putR c' less st)) (Ex.ite (c := true) (Ts.cast (Ts.cmp (Ev.call (ds := [P2 less]) (.cons (Ev.name rfl) .nil) (rd_norm T hl _) (Fc.kind he (by decide +kernel))) (Ev.call (ds := [P2 more]) (.cons (Ev.name rfl) .nil) (rd_norm T hl _) (Fc.kind he (by decide +kernel))) V2.ltI) (by simp [h2])) (fun _ => ?_) (fun q => nomatch q)) Exs.nil
          refine Exs.cons (Ex.augName (d₁ := .str told) (d₂ := .str [c']) rfl (Ev.name rfl) (V2.iaddS (by rw [sizeLine_eq]; simp; omega)) (Fc.loc he (by decide +kernel))) ?_
          refine Exs.forget (Exs.cons (Ex.setDict (ks := [[97], [98]]) (ds := [P2 st.1, P2 st.2]) (k := [c']) (d := P2 less) rfl (Ev.name rfl) (Ev.name rfl) (by show 2 ≤ sizeLine; decide)) Exs.nil) ⟨rfl, rfl, ?_, rfl, trivial⟩
          rw [put_r hlow]; rfl
        · rw [if_neg h2] at hc' ⊢
          subst hc'
          refine Exs.cons (ρ₁ := rdSto2 w (told ++ [upC l]) (putR l more st)) (Ex.ite (c := false) (Ts.cast (Ts.cmp (Ev.call (ds := [P2 less]) (.cons (Ev.name rfl) .nil) (rd_norm T hl _) (Fc.kind he (by decide +kernel))) (Ev.call (ds := [P2 more]) (.cons (Ev.name rfl) .nil) (rd_norm T hl _) (Fc.kind he (by decide +kernel))) V2.ltI) (by simp [h2])) (fun q => nomatch q) (fun _ => ?_)) Exs.nil
          refine Exs.cons (Ex.augName (d₁ := .str told) (d₂ := .str [upC l]) rfl (Ev.upper (l := [l]) rfl (Ev.name rfl) (upper_sign hlow.sign) (by show 1 ≤ sizeLine; decide)) (V2.iaddS (by rw [sizeLine_eq]; simp; omega)) (Fc.loc he (by decide +kernel))) ?_
          refine Exs.forget (Exs.cons (Ex.setDict (ks := [[97], [98]]) (ds := [P2 st.1, P2 st.2]) (k := [l]) (d := P2 more) rfl (Ev.name rfl) (Ev.name rfl) (by show 2 ≤ sizeLine; decide)) Exs.nil) ⟨rfl, rfl, ?_, rfl, trivial⟩
          rw [put_r hlow]; rfl
      have hr : rdOut (c :: r) told st = rdOut r (told ++ [if normR less < normR more then l else upC l]) (putR l (if normR less < normR more then less else more) st) := by
        rw [rdOut, if_neg h1]
        simp only [hlt, hle, hmo]
        split <;> rfl
      have s1 := step _ rfl
      rw [hr]
      rcases rd_loop2 T he hl w r (told ++ [if normR less < normR more then l else upC l]) (putR l (if normR less < normR more then less else more) st) (by simp; omega) with ⟨st', hq⟩ | hq
      · exact .inl ⟨st', LoopR.cons s1 hq⟩
      · exact .inr (LoopR.cons s1 hq)

set_option maxRecDepth 100000 in
set_option maxHeartbeats 4000000 in
theorem read_ok (T : Top1 W) (x : List Nat) (hx : Signs x) (hl : x.length ≤ 1000) : CallOK W 2 "_law_read" [.str x] (.str (rdOut x [] (x.reverse.foldl (fun st c => rd1 c st) ((1, 0), (0, 1))))) := by
  refine T.read.call (k := 1) (ρ₁ := []) ["word"] (fun pm cd doc => BindOK.one (x := "word") fun v => by rfl) rfl (by decide +kernel) (by decide +kernel) (by decide +kernel) rfl rfl rfl ?_
  intro F he hl'
  have hs : x.length ≤ sizeLine := by rw [sizeLine_eq]; omega
  show Exs W F _ (_ :: _) _ _
  refine Exs.cons (Ex.assign (d := othD) (EvO.dict2 Ev.sa Ev.sb Ev.sb Ev.sa (by decide)).ev (Fc.loc he (by decide +kernel))) ?_
  refine Exs.cons (Ex.assignO (d := rdD ((1, 0), (0, 1))) (EvO.dict2 Ev.sa (Ev.tuple (.cons Ev.int (.cons Ev.int .nil)) (by show 2 ≤ sizeLine; decide)) Ev.sb (Ev.tuple (.cons Ev.int (.cons Ev.int .nil)) (by show 2 ≤ sizeLine; decide)) (by decide)) (Fc.loc he (by decide +kernel))) ?_
  refine Exs.cons (Ex.forName (It.str (Ev.strRev (Ev.name rfl) (Ev.un Ev.int V1.negI) hs)) (rd_loop1 T he hl' x x.reverse ((1, 0), (0, 1)) (fun c hc => hx c (List.mem_reverse.mp hc))) (Fc.loc he (by decide +kernel))) ?_
  refine Exs.cons (ρ₁ := rdSto2 x [] _) (Ex.assign Ev.s0 (Fc.loc he (by decide +kernel))) ?_
  rcases rd_loop2 T he hl' x x [] (x.reverse.foldl (fun st c => rd1 c st) ((1, 0), (0, 1))) (by simp; omega) with ⟨st', hq⟩ | hq
  · refine Exs.cons (Ex.forName (It.str (Ev.name rfl)) hq (Fc.loc he (by decide +kernel))) ?_
    exact Exs.ret (ρ₁ := []) (Ex.retV (Ev.name rfl))
  · exact Exs.ret (Ex.forName (It.str (Ev.name rfl)) hq (Fc.loc he (by decide +kernel)))
end
end Mine

namespace Mine

theorem lookT_mem : ∀ {t : Tab} {p : List Nat × Int}, (t.map (·.1)).Nodup → p ∈ t → lookT t p.1 = some p.2
  | (k, v) :: r, p, hn, h => by
    simp only [List.map_cons, List.nodup_cons] at hn
    rcases List.mem_cons.mp h with rfl | h
    · simp [lookT]
    · rw [lookT, if_neg (fun q => hn.1 (by rw [q]; exact List.mem_map_of_mem (f := (·.1)) h))]
      exact lookT_mem hn.2 h
noncomputable def noT (t : Tab) : Tab := t.filter fun p => decide (p.2 ≠ 0)
noncomputable def valT (t : Tab) (k : List Nat) : Int := (lookT t k).getD 0
theorem noT_keys {t : Tab} (hn : (t.map (·.1)).Nodup) : (t.map (·.1)).filter (fun k => decide (valT t k ≠ 0)) = (noT t).map (·.1) := by
  rw [List.filter_map]
  congr 1
  unfold noT
  apply List.filter_congr
  intro p hp
  simp [valT, lookT_mem hn hp]
theorem noT_vals {t : Tab} (hn : (t.map (·.1)).Nodup) : ((noT t).map (·.1)).map (valT t) = (noT t).map (·.2) := by
  rw [List.map_map]
  apply List.map_congr_left
  intro p hp
  have := lookT_mem hn ((List.mem_filter.mp hp).1)
  simp [valT, this]

noncomputable def keyOf (v : Value) : List Nat := match toD v with | .str k => k | _ => []

section
variable {W : Wd}
theorem setK_new {ks : List (List Nat)} {x : List Nat} (h : x ∉ ks) : setK ks x = ks ++ [x] := by unfold setK; rw [if_neg h]
theorem setV_new : ∀ {ks : List (List Nat)} {ds : List D} {x : List Nat} {e : D}, x ∉ ks → ds.length = ks.length → setV ks ds x e = ds ++ [e]
  | [], [], x, e, _, _ => rfl
  | [], _ :: _, x, e, _, h => by simp at h
  | k :: ks, [], x, e, _, h => by simp at h
  | k :: ks, d :: ds, x, e, h, hl => by
    rw [setV, if_neg (fun q => h (by rw [q]; exact .head _)), setV_new (fun q => h (.tail _ q)) (by simpa using hl)]; rfl

theorem storedAll_rep {K : Kn} {f : List Nat → Int} {l : List Value} {kvs : List (Str × Value)} (h : StoredAll (fun v k => k = mkS (keyOf v)) (fun v y => ∃ t, y = Value.int (f (keyOf v)) t) l kvs) :
    (l.map keyOf).Nodup → kvs.map (·.1) = (l.map keyOf).map mkS ∧ RepL W.prog W.w K ((l.map keyOf).map fun k => .int (f k)) (kvs.map (·.2)) := by
  induction h with
  | nil => exact fun _ => ⟨rfl, rfl⟩
  | @snoc l kvs v k y _ hk hv ih =>
    intro hn
    rw [List.map_append] at hn
    obtain ⟨h1, _, h3⟩ := List.nodup_append.mp hn
    obtain ⟨e1, e2⟩ := ih h1
    have hnk : keyOf v ∉ l.map keyOf := fun q => h3 _ q _ (.head _) rfl
    have hnd : (kvs.map (·.1)).Nodup := by
      rw [e1]
      exact List.Pairwise.map _ (fun a b hab q => hab (mkS_inj q)) h1
    subst hk
    obtain ⟨t, rfl⟩ := hv
    have := stored_rep (W := W) (K := K) (x := keyOf v) (d := .int (f (keyOf v))) (v := .int (f (keyOf v)) t) ⟨t, rfl⟩ hnd e1 e2
    rw [setK_new hnk, setV_new hnk (by simp)] at this
    simpa using this

theorem sub_load {F : Fc} {env : Env} (hk : env.scope.kind = .function) {s : Shared} {K : Kn} {tv v : Value} {t : Tab} {k : List Nat} {x : Int} {p1 p2 p3 : Pos} {Q E : Value → Shared → Prop} (hT : Bound env s.heap "table" tv) (hP : Bound env s.heap "place" v)
    (hs : ∀ b o, K b = some o → s.heap.get? b = some o) (rt : Rep W.prog W.w K (dT t) tv) (rv : Rep W.prog W.w K (.str k) v) (hl : lookT t k = some x)
    (hQ : ∀ y K' h' tk, Grow K s.heap K' h' → Rep W.prog W.w K' (.int x) y → Q y { s with heap := h', toks := tk }) :
    wpAny (model W.prog W.w) F.A (eval (.Subscript (.Name "table" p1) (.Name "place" p2) p3) env) Q E s := by
  refine Subscript_ (wpAny_Name (hT.load hk (wpAny_Name (hP.load hk ?_) (by decide))) (by decide))
  have hlk : lookD (t.map (·.1)) ((t.map (·.2)).map .int) k = some (.int x) := by rw [lookT_eq, hl]; rfl
  obtain ⟨hh, hop⟩ := GI.dict (W := W) (F := F) hlk s K tv v hs rt rv
  exact tail_get hh (hop _ _ hQ)

noncomputable def noughtScope : Scope := match fnBody 16 with | [.Return (some (.DictComp _ _ _ s _)) _] => s | _ => default

set_option maxRecDepth 100000 in
set_option maxHeartbeats 4000000 in
theorem Ev.noughts {F : Fc} {c : Addr} {t : Tab} {p1 p2 p3 p4 p5 p6 p7 p8 p9 p10 p11 pos : Pos} {k1 : Nat} (hcells : F.env.cells = [(("table" : Str), c)]) (hkind : F.env.kindOf "table" = some .cell) (hclos : closureFor noughtScope F.env = pure [(("table" : Str), c)])
    (hrel : (relabel noughtScope F.env).names.lookup ("table" : Str) = some .cell) (hlen : t.length ≤ 10000) (hsm : ∃ o, W.base.get? sysModules = some o) :
    Ev W F [("table", .imm (dT t))] (.DictComp (.Name "place" p1) (.Subscript (.Name "table" p2) (.Name "place" p3) p4) [⟨.Name "place" p5, .Name "table" p6, [.Compare (.Subscript (.Name "table" p7) (.Name "place" p8) p9) [.NotEq] [.Constant (.int 0) k1 p10] p11], 0⟩] noughtScope pos) (dT (noT t)) := .mk fun s K μ Q E G hQ => by
  refine wpAny_DictComp_free (strKind W.prog W.w) (fun v => decide (valT t (keyOf v) ≠ 0)) (fun v k => k = mkS (keyOf v)) (fun v y => ∃ tk, y = Value.int (valT t (keyOf v)) tk) hclos (by decide +kernel) rfl (by decide +kernel) (by decide +kernel)
    ((It.dict (ks := t.map (·.1)) (ds := (t.map (·.2)).map .int) (Ev.name rfl)).run s K μ _ _ G fun I fp St K₁ h₁ tk₁ g₁ hW hst hfp hIn hIK hIo => ?_)
  have G₁ := G.grow g₁
  obtain ⟨tv, hb, rt⟩ := G₁.vals "table" _ rfl
  have rt : Rep W.prog W.w K₁ (dT t) tv := rt
  have hIown : I ∉ own F.env μ := fun hm => by obtain ⟨o, ho⟩ := G.ownLive hm; rw [hIn] at ho; cases ho
  have hnd : (t.map (·.1)).Nodup := by
    obtain ⟨a, o, kvs, rfl, ho, ⟨hd, hy⟩, hk, hr⟩ := rt
    have := Heap.DictOf.nodup (W := W) (dictOf_of (W := W) (g₁.sub _ _ ho) hd)
    rw [hk] at this
    exact (List.pairwise_map.mp this).imp fun h q => h (congrArg mkS q)
  have hcell : h₁.IsCell c (some tv) := by
    rcases hb with ⟨k, _⟩ | ⟨_, c2, hc2, hi⟩
    · rw [hkind] at k; cases k
    · rw [hcells] at hc2
      have : c2 = c := by simpa using hc2.symm
      exact this ▸ hi
  have hcI : c ≠ I := fun q => hIown (q ▸ own_cell (x := "table") (by rw [hcells]; exact .head _))
  have hx : ∀ (C : Addr) (s₃ : Shared) (m₃ : Str → Option Value) (v : Value), s₃.heap.Ns C m₃ → m₃ "place" = some v → (∀ b o, b ∉ [I] → h₁.get? b = some o → s₃.heap.get? b = some o) →
      Bound (compEnvC noughtScope [(("table" : Str), c)] C F.env) s₃.heap "table" tv ∧ Bound (compEnvC noughtScope [(("table" : Str), c)] C F.env) s₃.heap "place" v ∧ (∀ b o, K₁ b = some o → s₃.heap.get? b = some o) := by
    intro C s₃ m₃ v hn hm hk
    refine ⟨.inr ⟨hrel, c, rfl, ?_⟩, .inl ⟨lookup_relabel_local (by decide +kernel), m₃, hn, hm⟩, fun b o e => hk b o (fun (q : b ∈ [I]) => by rw [List.mem_singleton.mp q, hIK] at e; cases e) (g₁.sub b o e)⟩
    obtain ⟨o, ho, r⟩ := hcell
    exact ⟨o, hk c o (by simpa using hcI) ho, r⟩
  have hkey : ∀ (i : Nat) (v : Value), (∃ d, ((t.map (·.1)).map D.str)[i]? = some d ∧ Rep W.prog W.w K₁ d v) → ∃ k x, lookT t k = some x ∧ Rep W.prog W.w K₁ (.str k) v ∧ keyOf v = k := by
    intro i v ⟨d, hd, hr⟩
    rw [List.map_map, List.getElem?_map] at hd
    cases e : t[i]? with
    | none => rw [e] at hd; cases hd
    | some p =>
      rw [e] at hd
      obtain rfl : D.str p.1 = d := by simpa using hd
      refine ⟨p.1, p.2, lookT_mem hnd (List.mem_of_getElem? e), hr, ?_⟩
      unfold keyOf
      rw [Sc.toD (W := W) rfl hr]
  refine ⟨I, fp, [I], _, _, St, rfl, hW F.A F.hh, by rw [sizeLine_eq]; simp; omega, hst, fp_lt g₁.sub hfp (hIo _ _ hst), ⟨?_, ?_, ?_⟩, ?_⟩
  · intro C i v s₃ m₃ E' hP hn hm hk
    obtain ⟨b1, b2, hs3⟩ := hx C s₃ m₃ v hn hm hk
    obtain ⟨k, x, hl, rv, hko⟩ := hkey i v hP
    simp only [List.forIn_cons, List.forIn_nil, if_true]
    refine wpAny_bind (wpAny_bind (wpAny_isTrue_Compare1 (sub_load (F := F) rfl b1 b2 hs3 rt rv hl fun y K' h' tk g ry => wpAny_Constant_int ?_) rfl))
    refine V2.neI (W := W) (F := F) (a := x) (b := 0) _ K' y _ g.sub (fun b o e => g.le b o (G₁.base b o e)) ry ⟨_, rfl⟩ _ _ fun v' K'' h'' tk'' g'' r'' => ?_
    obtain rfl : v' = .bool (decide (x ≠ 0)) := r''
    refine wpAny_truthy_bool (wpAny_pure (wpAny_pure ⟨?_, h'', tk'', rfl, fun b o e => g''.ext b o (g.ext b o e)⟩))
    rw [hko, valT, hl]; rfl
  · intro C i v s₃ m₃ E' hP hp hn hm hk
    obtain ⟨b1, b2, hs3⟩ := hx C s₃ m₃ v hn hm hk
    obtain ⟨k, x, hl, rv, hko⟩ := hkey i v hP
    refine wpAny_Name (b2.load rfl ⟨⟨mkS (keyOf v), ?_, rfl⟩, s₃.heap, s₃.toks, rfl, fun _ _ e => e⟩) (by decide)
    obtain ⟨tk, rfl⟩ := rv
    rw [hko]
    exact strKind_is W.prog W.w (mkS k) tk
  · intro C i v s₃ m₃ E' hP hp hn hm hk
    obtain ⟨b1, b2, hs3⟩ := hx C s₃ m₃ v hn hm hk
    obtain ⟨k, x, hl, rv, hko⟩ := hkey i v hP
    refine sub_load (F := F) rfl b1 b2 hs3 rt rv hl fun y K' h' tk g ry => ⟨?_, h', tk, rfl, g.ext⟩
    obtain ⟨tk', rfl⟩ := ry
    exact ⟨tk', by rw [hko, valT, hl]; rfl⟩
  · intro D₁ h' tk kvs vs hDn hd hlen' hP hF hk
    have hvs : vs.map toD = (t.map (·.1)).map D.str := vals_of (W := W) (K := K₁) (fun d hd => by obtain ⟨k, _, rfl⟩ := List.mem_map.mp hd; rfl) (by simpa using hlen') hP
    have hko : vs.map keyOf = t.map (·.1) := by
      have : vs.map keyOf = (vs.map toD).map fun d => match d with | .str k => k | _ => [] := by rw [List.map_map]; rfl
      rw [this, hvs, List.map_map]
      conv => rhs; rw [← List.map_id (t.map (·.1))]
      rfl
    have hfk : (vs.filter fun v => decide (valT t (keyOf v) ≠ 0)).map keyOf = (noT t).map (·.1) := by
      have := List.filter_map (f := keyOf) (p := fun k => decide (valT t k ≠ 0)) (l := vs)
      rw [hko, noT_keys hnd] at this
      rw [this]; rfl
    have hn2 : ((noT t).map (·.1)).Nodup := by rw [← noT_keys hnd]; exact hnd.filter _
    obtain ⟨e1, e2⟩ := storedAll_rep (W := W) (K := K₁) hF (by rw [hfk]; exact hn2)
    rw [hfk] at e1 e2
    have e3 : ((noT t).map (·.1)).map (fun k => D.int (valT t k)) = ((noT t).map (·.2)).map .int := by
      rw [← noT_vals hnd, List.map_map, List.map_map, List.map_map]; rfl
    rw [e3] at e2
    obtain ⟨o, ho, hio⟩ := Heap.dictOf_iff.mp hd
    have hsD : s.heap.get? D₁ = Option.none := by
      cases e : s.heap.get? D₁ with
      | none => rfl
      | some o => rw [g₁.ext _ _ e] at hDn; cases hDn
    have hle : ∀ b o', K₁ b = some o' → K₁.add D₁ o b = some o' := fun b o' e => by
      unfold Kn.add
      rw [if_neg (fun q => by rw [q, not_known g₁.sub hDn] at e; cases e)]; exact e
    have hsub : ∀ b o, K₁ b = some o → h'.get? b = some o := fun b o e => hk b o (fun q => by rw [List.mem_singleton.mp q, hIK] at e; cases e) (g₁.sub b o e)
    have hsys : (D₁ == sysModules) = false := by
      refine beq_eq_false_iff_ne.mpr fun q => ?_
      obtain ⟨o', ho'⟩ := hsm
      have := G₁.baseIn _ _ ho'
      rw [q, this] at hDn; cases hDn
    refine hQ _ (K₁.add D₁ o) h' tk ⟨fun b o e => hk b o (fun q => by rw [List.mem_singleton.mp q, hIn] at e; cases e) (g₁.ext b o e), fun b o e => hle b o (g₁.le b o e), fun b o' e => ?_, fun b e hb => ?_⟩ ⟨D₁, o, kvs, rfl, Kn.add_self .., ⟨hio, hsys⟩, e1, RepL.mono hle _ _ e2⟩
    · unfold Kn.add at e
      by_cases q : b = D₁
      · rw [if_pos q] at e; obtain rfl := Option.some.inj e; exact q ▸ ho
      · rw [if_neg q] at e; exact hsub b o' e
    · unfold Kn.add
      rw [if_neg (fun q : b = D₁ => hb (q ▸ hsD))]; exact g₁.fresh b e hb
end
end Mine

namespace Mine
section
variable {W : Wd}

set_option maxRecDepth 100000 in
set_option maxHeartbeats 4000000 in
theorem nought_ok (T : Top1 W) (t : Tab) (hlen : t.length ≤ 10000) : CallOK W 1 "_law_without_noughts" [dT t] (dT (noT t)) := by
  obtain ⟨a, o, pm, cd, doc, hf, hcd⟩ := T.nought.ok
  refine ⟨a, o, _, hf, fun A s K vs Q E hh hroom hunits hs hbase hr hQ => ?_⟩
  have hbs : ∀ b o, W.base.get? b = some o → s.heap.get? b = some o := fun b o e => hs b o (hbase b o e)
  simp only [RepL] at hr
  obtain ⟨v, _, rfl, r, rfl⟩ := hr
  let fd := Calls.docDef "_law_without_noughts" (fnArgs 16) (fnBody 16) (fnScope 16) pm cd doc
  let env := callEnvC fd s.heap.objs.size a
  have hcells : env.cells = [(("table" : Str), s.heap.objs.size + 1)] := by rfl
  have hkind : env.kindOf "table" = some .cell := by rfl
  refine wpAny_call (codeAny_call_cells (fd := fd) (binds := [("table", v)]) (body := fnBody 16) (by omega) (hbs _ _ hf.obj) hf.data (W.nolimit.keeps hbs) (hcd.keeps hbs) rfl (by rfl) rfl (fun x hx => ?_) (fun s₁ X => ?_) rfl rfl rfl)
  · obtain rfl := List.mem_singleton.mp hx
    exact .inr ⟨by rfl, by rfl⟩
  obtain ⟨h₁, tk₁, rfl⟩ := X.toInCall.same
  have hx₁ := X.toInCall.keep
  let F : Fc := { A := A.deeper env, env := env, hh := hh, hk := rfl, hg := rfl, hb := rfl, lvl := 0, room := by show A.depth + 1 + 0 < recursionLimit; omega, units := by show A.units + 3 + 10 * 0 + 10 < cLine; omega }
  have g₁ : Grow K s.heap K h₁ := .of_ext hs hx₁
  have hL : s.heap.get? s.heap.objs.size = none := get?_size _
  have hL1 : s.heap.get? (s.heap.objs.size + 1) = none := by
    cases e : s.heap.get? (s.heap.objs.size + 1) with
    | none => rfl
    | some o => exact absurd (Heap.lt_size e) (Nat.not_lt.mpr (Nat.le_succ _))
  have hcell : h₁.IsCell (s.heap.objs.size + 1) (some v) := X.cell "table" _ (by rfl)
  have G : Good W env K [] [("table", .imm (dT t))] h₁ := by
    refine ⟨g₁.sub, hbase, ?_, ?_, (fun p hp => nomatch hp), ⟨_, X.toInCall.ns⟩, fun p hp => ?_, fun x lv e => ?_⟩
    · show ([s.heap.objs.size, s.heap.objs.size + 1] : List Addr).Nodup
      simp
    · intro b hb
      have hb : b ∈ ([s.heap.objs.size, s.heap.objs.size + 1] : List Addr) := hb
      rcases List.mem_cons.mp hb with rfl | hb
      · exact not_known hs hL
      · rw [List.mem_singleton.mp hb]; exact not_known hs hL1
    · rw [hcells] at hp
      obtain rfl := List.mem_singleton.mp hp
      exact ⟨_, hcell⟩
    · simp only [Sto.get] at e
      by_cases q : ("table" : Str) = x
      · subst q
        rw [if_pos rfl] at e
        obtain rfl := Option.some.inj e
        exact ⟨v, .inr ⟨hkind, _, by rfl, hcell⟩, r⟩
      · rw [if_neg q] at e; cases e
  have body : Exs W F [("table", .imm (dT t))] (fnBody 16) [] (.ret (dT (noT t))) := by
    show Exs W F _ (_ :: _) _ _
    exact Exs.ret (ρ₁ := []) (Ex.retV (Ev.noughts (c := s.heap.objs.size + 1) hcells hkind (by rfl) (by rfl) hlen T.sys))
  refine body.run _ K [] _ _ G fun v' K₂ h₃ tk₃ sg r' => ?_
  refine hQ v' K₂ h₃ tk₃ ?_ r'
  refine ret_grow (env := env) (L := s.heap.objs.size) g₁ hL (fun b hb => ?_) sg
  have hb : b ∈ ([s.heap.objs.size, s.heap.objs.size + 1] : List Addr) := hb
  rcases List.mem_cons.mp hb with rfl | hb
  · exact .inl rfl
  · rw [List.mem_singleton.mp hb]; exact .inr hL1
end
end Mine

namespace Mine

/-! ## the plain law: words, inverses, reduced words -/
noncomputable def invC (c : Nat) : Nat := if c = 97 then 65 else if c = 65 then 97 else if c = 98 then 66 else if c = 66 then 98 else c
theorem invC_sign {c : Nat} (h : isSign c) : isSign (invC c) := by rcases h with rfl | rfl | rfl | rfl <;> simp [isSign, invC]
theorem invC_invC {c : Nat} (h : isSign c) : invC (invC c) = c := by rcases h with rfl | rfl | rfl | rfl <;> simp [invC]
theorem invC_ne {c : Nat} (h : isSign c) : invC c ≠ c := by rcases h with rfl | rfl | rfl | rfl <;> simp [invC]

noncomputable def Red : List Nat → Prop
  | a :: b :: r => b ≠ invC a ∧ Red (b :: r)
  | _ => True
theorem Red.tail {a : Nat} {r : List Nat} (h : Red (a :: r)) : Red r := by
  cases r with
  | nil => trivial
  | cons b r => exact h.2
theorem Red.get : ∀ {x : List Nat} (k : Nat) (c : Nat), Red x → (x.drop k).take 2 ≠ [c, invC c]
  | [], k, c, _ => by simp
  | [a], k, c, _ => by
    intro h
    have := congrArg List.length h
    simp at this
    omega
  | a :: b :: r, 0, c, h => by
    intro q
    simp at q
    exact h.1 (by rw [q.1, q.2])
  | a :: b :: r, k + 1, c, h => by simpa using Red.get k c h.2
theorem Red.of_get : ∀ {x : List Nat}, Signs x → (∀ k c, isSign c → (x.drop k).take 2 ≠ [c, invC c]) → Red x
  | [], _, _ => trivial
  | [a], _, _ => trivial
  | a :: b :: r, hs, h => ⟨fun q => h 0 a (hs a (.head _)) (by simp [q]), Red.of_get (fun c hc => hs c (.tail _ hc)) fun k c hc => by have := h (k + 1) c hc; simpa using this⟩

theorem rm2_red {x : List Nat} (h : Red x) (c : Nat) : rm2 c (invC c) x = x := rm2_none x fun k => Red.get k c h
theorem rm2_fix {c1 c2 : Nat} : ∀ {x : List Nat}, (rm2 c1 c2 x).length = x.length → ∀ k, (x.drop k).take 2 ≠ [c1, c2]
  | [], _, k => by simp
  | [a], _, k => by
    intro h
    have := congrArg List.length h
    simp at this
    omega
  | a :: b :: r, h, k => by
    rw [rm2] at h
    split at h
    · have := rm2_length c1 c2 r
      simp at h; omega
    · rename_i hn
      simp only [List.length_cons] at h
      cases k with
      | zero => intro q; simp at q; exact hn q
      | succ k => have := rm2_fix (x := b :: r) (by simpa using h) k; simpa using this
theorem rm2_same {c1 c2 : Nat} {x : List Nat} (h : (rm2 c1 c2 x).length = x.length) : rm2 c1 c2 x = x := rm2_none x (rm2_fix h)

theorem rep1_length (x : List Nat) : (rep1 x).length ≤ x.length := by
  unfold rep1
  have l1 := rm2_length 97 65 x
  have l2 := rm2_length 65 97 (rm2 97 65 x)
  have l3 := rm2_length 98 66 (rm2 65 97 (rm2 97 65 x))
  have l4 := rm2_length 66 98 (rm2 98 66 (rm2 65 97 (rm2 97 65 x)))
  omega
theorem rep1_signs {x : List Nat} (h : Signs x) : Signs (rep1 x) := (((h.rm2 _ _).rm2 _ _).rm2 _ _).rm2 _ _
theorem rep1_red {x : List Nat} (h : Red x) : rep1 x = x := by
  unfold rep1
  have e1 : rm2 97 65 x = x := rm2_red h 97
  have e2 : rm2 65 97 x = x := rm2_red h 65
  have e3 : rm2 98 66 x = x := rm2_red h 98
  have e4 : rm2 66 98 x = x := rm2_red h 66
  rw [e1, e2, e3, e4]
/-- where a round changes nothing, the word is reduced; else it is shorter -/
theorem rep1_step {x : List Nat} (hs : Signs x) : (rep1 x = x ∧ Red x) ∨ (rep1 x).length < x.length := by
  have l1 := rm2_length 97 65 x
  have l2 := rm2_length 65 97 (rm2 97 65 x)
  have l3 := rm2_length 98 66 (rm2 65 97 (rm2 97 65 x))
  have l4 := rm2_length 66 98 (rm2 98 66 (rm2 65 97 (rm2 97 65 x)))
  have hr : (rep1 x).length = (rm2 66 98 (rm2 98 66 (rm2 65 97 (rm2 97 65 x)))).length := rfl
  by_cases h1 : (rm2 97 65 x).length = x.length
  · have e1 := rm2_same h1
    have f1 := rm2_fix h1
    rw [e1] at l2 l3 l4 hr
    by_cases h2 : (rm2 65 97 x).length = x.length
    · have e2 := rm2_same h2
      have f2 := rm2_fix h2
      rw [e2] at l3 l4 hr
      by_cases h3 : (rm2 98 66 x).length = x.length
      · have e3 := rm2_same h3
        have f3 := rm2_fix h3
        rw [e3] at l4 hr
        by_cases h4 : (rm2 66 98 x).length = x.length
        · have e4 := rm2_same h4
          have f4 := rm2_fix h4
          left
          refine ⟨by unfold rep1; rw [e1, e2, e3, e4], Red.of_get hs fun k c hc => ?_⟩
          rcases hc with rfl | rfl | rfl | rfl
          · exact f1 k
          · exact f2 k
          · exact f3 k
          · exact f4 k
        · right; omega
      · right; omega
    · right; omega
  · right; omega

/-- rest comes out of word by rounds -/
inductive Rw : List Nat → List Nat → Prop
  | refl (w : List Nat) : Rw w w
  | step {w r : List Nat} : Rw (rep1 w) r → Rw w r

/-- what every removal of an inverse pair keeps, a round keeps -/
theorem rep1_keep {α : Type} (f : List Nat → α) (h : ∀ c x, isSign c → Signs x → f (rm2 c (invC c) x) = f x) {x : List Nat} (hx : Signs x) : f (rep1 x) = f x := by
  unfold rep1
  have h1 := hx.rm2 97 65
  have h2 := h1.rm2 65 97
  have h3 := h2.rm2 98 66
  have e4 := h 66 _ (by simp [isSign]) h3
  have e3 := h 98 _ (by simp [isSign]) h2
  have e2 := h 65 _ (by simp [isSign]) h1
  have e1 := h 97 _ (by simp [isSign]) hx
  exact e4.trans (e3.trans (e2.trans e1))
theorem Rw.keep {α : Type} (f : List Nat → α) (h : ∀ c x, isSign c → Signs x → f (rm2 c (invC c) x) = f x) {x r : List Nat} (q : Rw x r) : Signs x → f r = f x := by
  induction q with
  | refl w => exact fun _ => rfl
  | step _ ih => exact fun hx => (ih (rep1_signs hx)).trans (rep1_keep f h hx)
theorem Rw.signs {x r : List Nat} (q : Rw x r) : Signs x → Signs r := by
  induction q with
  | refl w => exact id
  | step _ ih => exact fun hx => ih (rep1_signs hx)

/-! ### one more letter at the right end -/
noncomputable def pushR (p : List Nat) (c : Nat) : List Nat := if p.getLast? = some (invC c) then p.dropLast else p ++ [c]
theorem red_append : ∀ {x : List Nat} {c : Nat}, Red x → x.getLast? ≠ some (invC c) → isSign c → Signs x → Red (x ++ [c])
  | [], c, _, _, _, _ => trivial
  | [a], c, _, h, hc, hs => by
    refine ⟨fun q => h ?_, trivial⟩
    rw [q, invC_invC (hs a (.head _))]; rfl
  | a :: b :: r, c, hr, h, hc, hs => ⟨hr.1, red_append hr.2 (by rw [List.getLast?_cons_cons] at h; exact h) hc fun d hd => hs d (.tail _ hd)⟩
theorem red_dropLast : ∀ {x : List Nat}, Red x → Red x.dropLast
  | [], _ => trivial
  | [a], _ => trivial
  | [a, b], _ => trivial
  | a :: b :: d :: r, h => ⟨h.1, red_dropLast (x := b :: d :: r) h.2⟩
theorem pushR_red {p : List Nat} {c : Nat} (h : Red p) (hs : Signs p) (hc : isSign c) : Red (pushR p c) := by
  unfold pushR
  split
  · exact red_dropLast h
  · exact red_append h (by assumption) hc hs
theorem pushR_signs {p : List Nat} {c : Nat} (hs : Signs p) (hc : isSign c) : Signs (pushR p c) := by
  unfold pushR
  split
  · exact fun d hd => hs d (List.dropLast_subset _ hd)
  · intro d hd
    rcases List.mem_append.mp hd with hd | hd
    · exact hs d hd
    · rw [List.mem_singleton.mp hd]; exact hc
theorem pushR_length (p : List Nat) (c : Nat) : (pushR p c).length ≤ p.length + 1 := by
  unfold pushR; split <;> simp; omega
theorem getLast_split {p : List Nat} {d : Nat} (h : p.getLast? = some d) : p = p.dropLast ++ [d] := by
  have hne : p ≠ [] := by rintro rfl; simp at h
  rw [List.getLast?_eq_some_getLast hne] at h
  have := List.dropLast_concat_getLast hne
  rw [Option.some.inj h] at this
  exact this.symm
theorem pushR_back {p : List Nat} {c : Nat} (h : Red p) (hs : Signs p) (hc : isSign c) : pushR (pushR p c) (invC c) = p := by
  unfold pushR
  by_cases q : p.getLast? = some (invC c)
  · rw [if_pos q]
    have e := getLast_split q
    have hn : p.dropLast.getLast? ≠ some c := by
      intro q2
      have e2 := getLast_split q2
      have hr : Red (p.dropLast.dropLast ++ [c, invC c]) := by
        have : p.dropLast.dropLast ++ [c, invC c] = p := by
          rw [show p.dropLast.dropLast ++ [c, invC c] = (p.dropLast.dropLast ++ [c]) ++ [invC c] by simp, ← e2, ← e]
        rw [this]; exact h
      have := Red.get p.dropLast.dropLast.length c hr
      simp at this
    rw [invC_invC hc, if_neg hn, ← e]
  · rw [if_neg q, invC_invC hc, if_pos (by simp)]; simp
theorem rep1_push {p : List Nat} {c : Nat} (h : Red p) (hs : Signs p) (hc : isSign c) : rep1 (p ++ [c]) = pushR p c := by
  unfold pushR
  by_cases q : p.getLast? = some (invC c)
  · rw [if_pos q]
    have e := getLast_split q
    have hd := red_dropLast h
    have hpair : p ++ [c] = p.dropLast ++ [invC c, c] := by
      conv => lhs; rw [e]
      simp
    have hlt : ∀ a k, k < p.dropLast.length → ((p ++ [c]).drop k).take 2 ≠ [a, invC a] := by
      intro a k hk q2
      refine Red.get k a h ?_
      rw [List.drop_append_of_le_length (by simp at hk; omega), List.take_append_of_le_length (by simp at hk ⊢; omega)] at q2
      exact q2
    have hat : ((p ++ [c]).drop p.dropLast.length).take 2 = [invC c, c] := by rw [hpair]; simp
    have hgt : ∀ a k, p.dropLast.length < k → ((p ++ [c]).drop k).take 2 ≠ [a, invC a] := by
      intro a k hk q2
      have := congrArg List.length q2
      rw [hpair] at this
      simp at this hk
      omega
    have no : ∀ a, isSign a → a ≠ invC c → rm2 a (invC a) (p ++ [c]) = p ++ [c] := by
      intro a ha hne
      refine rm2_none _ fun k => ?_
      rcases Nat.lt_trichotomy k p.dropLast.length with hk | hk | hk
      · exact hlt a k hk
      · subst hk
        rw [hat]
        intro q2
        simp at q2
        exact hne q2.1.symm
      · exact hgt a k hk
    have yes : rm2 (invC c) (invC (invC c)) (p ++ [c]) = p.dropLast := by
      rw [rm2_skip p.dropLast.length _ (fun k hk => hlt _ k hk) (by rw [hat, invC_invC hc]), hpair, List.drop_eq_nil_of_le (as := p.dropLast ++ [invC c, c]) (by simp)]
      simp [rm2]
    have d97 := rm2_red hd 97
    have d65 := rm2_red hd 65
    have d98 := rm2_red hd 98
    have d66 := rm2_red hd 66
    have n97 := no 97 (by simp [isSign])
    have n65 := no 65 (by simp [isSign])
    have n98 := no 98 (by simp [isSign])
    have n66 := no 66 (by simp [isSign])
    unfold rep1
    simp [invC] at d97 d65 d98 d66
    rcases hc with rfl | rfl | rfl | rfl
    · simp [invC] at yes n97 n98 n66
      rw [n97, yes, d98, d66]
    · simp [invC] at yes n65 n98 n66
      rw [yes, d65, d98, d66]
    · simp [invC] at yes n97 n65 n98
      rw [n97, n65, n98, yes]
    · simp [invC] at yes n97 n65 n66
      rw [n97, n65, yes, d66]
  · rw [if_neg q]
    exact rep1_red (red_append h q hc hs)
end Mine

namespace Mine

/-! ## ping-pong -/
noncomputable def base0 : RSt := ((1, 0), (0, 1))
noncomputable def stOf (w : List Nat) : RSt := w.foldr rd1 base0

theorem addR_back (p q : Int × Int) (t : Int) : addR (addR p q t) q (-t) = p := by
  unfold addR
  rw [Int.neg_mul, Int.neg_mul]
  ext <;> simp <;> omega
theorem rd1_back {c : Nat} (hc : isSign c) (st : RSt) : rd1 c (rd1 (invC c) st) = st := by
  obtain ⟨a, b⟩ := st
  rcases hc with rfl | rfl | rfl | rfl
  · have := addR_back a b (-2)
    simpa [rd1, invC, lowC, rdTimes, getR, putR, othL] using this
  · have := addR_back a b 2
    simpa [rd1, invC, lowC, rdTimes, getR, putR, othL] using this
  · have := addR_back b a (-2)
    simpa [rd1, invC, lowC, rdTimes, getR, putR, othL] using this
  · have := addR_back b a 2
    simpa [rd1, invC, lowC, rdTimes, getR, putR, othL] using this
theorem stOf_rm2 {c : Nat} (hc : isSign c) : ∀ w : List Nat, stOf (rm2 c (invC c) w) = stOf w
  | [] => rfl
  | [a] => rfl
  | a :: b :: r => by
    rw [rm2]
    split
    · rename_i q
      obtain ⟨rfl, rfl⟩ := q
      rw [stOf_rm2 hc r]
      show _ = rd1 a (rd1 (invC a) (stOf r))
      rw [rd1_back hc]
    · show rd1 a (stOf (rm2 c (invC c) (b :: r))) = rd1 a (stOf (b :: r))
      rw [stOf_rm2 hc (b :: r)]

noncomputable def nN (p : Int × Int) : Nat := p.1.natAbs + p.2.natAbs
theorem normR_eq (p : Int × Int) : normR p = (nN p : Int) := by unfold normR nN; omega
theorem abs_hi (a m b : Int) : (a + m * b).natAbs ≤ a.natAbs + m.natAbs * b.natAbs := by
  rw [← Int.natAbs_mul]; omega
theorem abs_lo (a m b : Int) : m.natAbs * b.natAbs ≤ (a + m * b).natAbs + a.natAbs := by
  rw [← Int.natAbs_mul]; omega
theorem nN_hi (x y : Int × Int) (m : Int) : nN (addR x y m) ≤ nN x + m.natAbs * nN y := by
  unfold nN addR
  have := abs_hi x.1 m y.1
  have := abs_hi x.2 m y.2
  rw [Nat.mul_add]; simp only; omega
theorem nN_lo (x y : Int × Int) (m : Int) : m.natAbs * nN y ≤ nN (addR x y m) + nN x := by
  unfold nN addR
  have := abs_lo x.1 m y.1
  have := abs_lo x.2 m y.2
  rw [Nat.mul_add]; simp only; omega
theorem addR_addR (x y : Int × Int) (m t : Int) : addR (addR x y m) y t = addR x y (m + t) := by
  unfold addR
  rw [Int.add_mul, Int.add_mul]
  ext <;> simp <;> omega

/-- what a reduced word that opens with c leaves: the row of c's letter is x + t k y, y the other row -/
structure Ping (c : Nat) (st : RSt) : Prop where
  ex : ∃ (k : Nat) (x : Int × Int), 1 ≤ k ∧ getR (lowC c) st = addR x (getR (othL (lowC c)) st) (rdTimes c * k) ∧
    0 < nN (getR (othL (lowC c)) st) ∧ (nN x < nN (getR (othL (lowC c)) st) ∨ (nN x = nN (getR (othL (lowC c)) st) ∧ nN x < nN (getR (lowC c) st)))

theorem Ping.gt {c : Nat} {st : RSt} (hc : isSign c) (h : Ping c st) : nN (getR (othL (lowC c)) st) < nN (getR (lowC c) st) := by
  obtain ⟨k, x, hk, e, hy, hx⟩ := h.ex
  rcases hx with hx | ⟨h1, h2⟩
  · have := nN_lo x (getR (othL (lowC c)) st) (rdTimes c * k)
    rw [← e, Int.natAbs_mul] at this
    have ht : (rdTimes c).natAbs = 2 := by unfold rdTimes; split <;> rfl
    rw [ht] at this
    have hk2 : 2 * nN (getR (othL (lowC c)) st) ≤ 2 * (k : Int).natAbs * nN (getR (othL (lowC c)) st) := Nat.mul_le_mul_right _ (by simp; omega)
    omega
  · omega

theorem getR_put (l : Nat) (p : Int × Int) (st : RSt) : getR l (putR l p st) = p := by
  unfold getR putR; split <;> simp
theorem getR_put_ne {l : Nat} (h : isLow l) (p : Int × Int) (st : RSt) : getR (othL l) (putR l p st) = getR (othL l) st := by
  rcases h with rfl | rfl <;> simp [getR, putR, othL]
theorem putR_back {l : Nat} (h : isLow l) (p q : Int × Int) (st : RSt) : putR l q (putR l p st) = putR l q st := by
  rcases h with rfl | rfl <;> simp [putR]
theorem putR_get {l : Nat} (h : isLow l) (st : RSt) : putR l (getR l st) st = st := by
  rcases h with rfl | rfl <;> simp [putR, getR]

theorem sign_same {a b : Nat} (ha : isSign a) (hb : isSign b) (h : lowC a = lowC b) (hn : b ≠ invC a) : b = a := by
  rcases ha with rfl | rfl | rfl | rfl <;> rcases hb with rfl | rfl | rfl | rfl <;> simp [lowC, invC] at h hn ⊢
theorem sign_other {a b : Nat} (ha : isSign a) (hb : isSign b) (h : lowC a ≠ lowC b) : lowC b = othL (lowC a) := by
  rcases ha with rfl | rfl | rfl | rfl <;> rcases hb with rfl | rfl | rfl | rfl <;> simp [lowC, othL] at h ⊢
theorem othL_othL {l : Nat} (h : isLow l) : othL (othL l) = l := by
  rcases h with rfl | rfl <;> simp [othL]

theorem ping : ∀ (c : Nat) (r : List Nat), Signs (c :: r) → Red (c :: r) → Ping c (stOf (c :: r))
  | c, [], hs, _ => by
    refine ⟨⟨1, getR (lowC c) base0, Nat.le_refl _, ?_, ?_, ?_⟩⟩
    · rcases hs c (.head _) with rfl | rfl | rfl | rfl <;> decide
    · rcases hs c (.head _) with rfl | rfl | rfl | rfl <;> decide
    · rcases hs c (.head _) with rfl | rfl | rfl | rfl <;> decide
  | c, d :: r, hs, hr => by
    have ih := ping d r (fun e he => hs e (.tail _ he)) hr.2
    have hc := hs c (.head _)
    have hd := hs d (.tail _ (.head _))
    have hl := lowC_low hc
    have e0 : stOf (c :: d :: r) = rd1 c (stOf (d :: r)) := rfl
    rw [e0]
    generalize hst : stOf (d :: r) = st at ih
    have ho : getR (othL (lowC c)) (rd1 c st) = getR (othL (lowC c)) st := getR_put_ne hl _ _
    have hg : getR (lowC c) (rd1 c st) = addR (getR (lowC c) st) (getR (othL (lowC c)) st) (rdTimes c) := getR_put _ _ _
    by_cases q : lowC c = lowC d
    · obtain rfl := sign_same hc hd q hr.1
      obtain ⟨k, x, hk, e, hy, hx⟩ := ih.ex
      refine ⟨⟨k + 1, x, by omega, ?_, by rw [ho]; exact hy, ?_⟩⟩
      · rw [ho, hg]
        conv => lhs; rw [e]
        rw [addR_addR]
        congr 1
        rw [Int.natCast_add, Int.mul_add]; simp
      · rw [ho]
        rcases hx with hx | ⟨h1, h2⟩
        · exact .inl hx
        · right
          refine ⟨h1, ?_⟩
          have hh := nN_lo x (getR (othL (lowC d)) st) (rdTimes d * ((k + 1 : Nat) : Int))
          have e2 : getR (lowC d) (rd1 d st) = addR x (getR (othL (lowC d)) st) (rdTimes d * ((k + 1 : Nat) : Int)) := by
            rw [hg]
            conv => lhs; rw [e]
            rw [addR_addR]
            congr 1
            rw [Int.natCast_add, Int.mul_add]; simp
          rw [← e2, Int.natAbs_mul] at hh
          have ht : (rdTimes d).natAbs = 2 := by unfold rdTimes; split <;> rfl
          rw [ht] at hh
          have hk2 : 4 * nN (getR (othL (lowC d)) st) ≤ 2 * ((k + 1 : Nat) : Int).natAbs * nN (getR (othL (lowC d)) st) := Nat.mul_le_mul_right _ (by simp; omega)
          omega
    · have hq := sign_other hc hd q
      have hgt := ih.gt hd
      rw [hq, othL_othL hl] at hgt
      refine ⟨⟨1, getR (lowC c) st, Nat.le_refl _, ?_, by rw [ho]; omega, .inl (by rw [ho]; exact hgt)⟩⟩
      rw [ho, hg]; simp

theorem putR_rd {c : Nat} (hc : isSign c) (st : RSt) : putR (lowC c) (getR (lowC c) st) (rd1 c st) = st := by
  unfold rd1
  rw [putR_back (lowC_low hc), putR_get (lowC_low hc)]

theorem rdOut_told : ∀ (w : List Nat) (fuel told : List Nat), Signs w → Red w → w.length ≤ fuel.length → rdOut fuel told (stOf w) = told ++ w
  | [], [], told, _, _, _ => by simp [rdOut]
  | [], _ :: f, told, _, _, _ => by
    rw [rdOut, if_pos (by decide)]; simp
  | c :: r, [], told, _, _, h => by simp at h
  | c :: r, f :: fuel, told, hs, hr, h => by
    have hc := hs c (.head _)
    have hl := lowC_low hc
    have hp := ping c r hs hr
    have hgt := hp.gt hc
    have ih := rdOut_told r fuel (told ++ [c]) (fun e he => hs e (.tail _ he)) hr.tail (by simpa using h)
    have e0 : stOf (c :: r) = rd1 c (stOf r) := rfl
    obtain ⟨k, x, hk, e, hy, hx⟩ := hp.ex
    have ho : getR (othL (lowC c)) (rd1 c (stOf r)) = getR (othL (lowC c)) (stOf r) := getR_put_ne hl _ _
    have hg : getR (lowC c) (rd1 c (stOf r)) = addR (getR (lowC c) (stOf r)) (getR (othL (lowC c)) (stOf r)) (rdTimes c) := getR_put _ _ _
    have hxy : nN x ≤ nN (getR (othL (lowC c)) (stOf (c :: r))) := by rcases hx with hx | hx <;> omega
    generalize hst : stOf (c :: r) = st at *
    have hne : normR st.1 ≠ normR st.2 := by
      rw [normR_eq, normR_eq]
      rcases hl with q | q <;> rw [q] at hgt <;> simp [getR, othL] at hgt <;> omega
    have hlet : (if normR st.1 > normR st.2 then 97 else 98) = lowC c := by
      rw [normR_eq, normR_eq]
      rcases hl with q | q <;> rw [q] at hgt ⊢ <;> simp [getR, othL] at hgt
      · rw [if_pos (by omega)]
      · rw [if_neg (by omega)]
    rw [rdOut, if_neg hne]
    simp only [hlet]
    -- the two candidates
    have back : addR (getR (lowC c) st) (getR (othL (lowC c)) st) (-(rdTimes c)) = getR (lowC c) (stOf r) := by
      rw [e0, hg, ho, addR_back]
    have good : nN (addR (getR (lowC c) st) (getR (othL (lowC c)) st) (-(rdTimes c))) < nN (addR (getR (lowC c) st) (getR (othL (lowC c)) st) (rdTimes c)) := by
      conv => lhs; rw [e]
      conv => rhs; rw [e]
      rw [addR_addR, addR_addR]
      generalize getR (othL (lowC c)) st = y at *
      have h1 := nN_hi x y (rdTimes c * k + -(rdTimes c))
      have h2 := nN_lo x y (rdTimes c * k + rdTimes c)
      have t1 : (rdTimes c * k + -(rdTimes c)).natAbs = 2 * k - 2 := by unfold rdTimes; split <;> omega
      have t2 : (rdTimes c * k + rdTimes c).natAbs = 2 * k + 2 := by unfold rdTimes; split <;> omega
      rw [t1] at h1
      rw [t2] at h2
      have hk' : (2 * k - 2) * nN y + 4 * nN y = (2 * k + 2) * nN y := by
        rw [← Nat.add_mul]; congr 1; omega
      omega
    have done : putR (lowC c) (getR (lowC c) (stOf r)) st = stOf r := by rw [e0, putR_rd hc]
    by_cases q : c = lowC c
    · have ht : rdTimes c = 2 := by unfold rdTimes; rw [if_pos q]
      rw [ht] at back good
      rw [if_pos (by rw [normR_eq, normR_eq]; omega), back, done, ← q, ih]
      simp
    · have ht : rdTimes c = -2 := by unfold rdTimes; rw [if_neg q]
      rw [ht] at back good
      simp only [Int.neg_neg] at back good
      rw [if_neg (by rw [normR_eq, normR_eq]; omega), back, done]
      have hu : upC (lowC c) = c := by rcases hc with rfl | rfl | rfl | rfl <;> simp [upC, lowC] at q ⊢
      rw [hu, ih]; simp

/-- the reading of a word is its reduced form -/
theorem read_law {w r : List Nat} (hs : Signs w) (q : Rw w r) (hr : Red r) (hl : r.length ≤ w.length) : rdOut w [] (w.reverse.foldl (fun st c => rd1 c st) ((1, 0), (0, 1))) = r := by
  have e1 : w.reverse.foldl (fun st c => rd1 c st) ((1, 0), (0, 1)) = stOf w := by
    rw [List.foldl_reverse]; rfl
  have e2 : stOf r = stOf w := q.keep stOf (fun c x hc _ => stOf_rm2 hc x) hs
  rw [e1, ← e2, rdOut_told r w [] (q.signs hs) hr hl]; rfl
end Mine

namespace Mine

/-! ## the plain law of the distance -/
noncomputable def pmin (x y : Int) : Int := if y < x then y else x
theorem pmin_l (x y : Int) : pmin x y ≤ x := by unfold pmin; split <;> omega
theorem pmin_r (x y : Int) : pmin x y ≤ y := by unfold pmin; split <;> omega
theorem pmin_ge {x y z : Int} (h1 : z ≤ x) (h2 : z ≤ y) : z ≤ pmin x y := by unfold pmin; split <;> omega
noncomputable def lvDist (i : Nat) (prev : Nat → Int) (j : Nat) : Int := if j = 0 then 2 * (i : Int) else prev j
noncomputable def lvRow (a : List Nat) (c i : Nat) (prev : Nat → Int) : Nat → Int
  | 0 => 2 * (i : Int)
  | j + 1 => pmin (pmin (lvRow a c i prev j) (prev (j + 1)) + 2) (lvDist i prev j + subCost c (a.getD j 0))
noncomputable def lv (a b : List Nat) : Nat → Nat → Int
  | 0 => fun j => 2 * (j : Int)
  | i + 1 => lvRow a (b.getD i 0) i (lv a b i)
noncomputable def lvMin (row : Nat → Int) : Nat → Int
  | 0 => 9223372036854775807
  | j + 1 => if row (j + 1) < lvMin row j then row (j + 1) else lvMin row j

theorem subCost_nn (a b : Nat) : 0 ≤ subCost a b ∧ subCost a b ≤ 2 := by unfold subCost; split <;> (try split) <;> omega
theorem subCost_same (a : Nat) : subCost a a = 0 := by unfold subCost; simp

theorem lv_first (a b : List Nat) (i : Nat) : lv a b (i + 1) 1 ≤ 2 * (i : Int) + 2 := by
  show pmin _ (lvDist i (lv a b i) 0 + subCost (b.getD i 0) (a.getD 0 0)) ≤ _
  have h1 := pmin_r (pmin (lvRow a (b.getD i 0) i (lv a b i) 0) (lv a b i (0 + 1)) + 2) (lvDist i (lv a b i) 0 + subCost (b.getD i 0) (a.getD 0 0))
  have h2 := subCost_nn (b.getD i 0) (a.getD 0 0)
  have h3 : lvDist i (lv a b i) 0 = 2 * (i : Int) := rfl
  refine Int.le_trans h1 ?_
  omega

theorem lv_low (a b : List Nat) : ∀ (i j : Nat), 1 ≤ j → 2 * ((i : Int) - (j : Int)) ≤ lv a b i j
  | 0, j, _ => by show _ ≤ 2 * (j : Int); omega
  | i + 1, j + 1, _ => by
    show _ ≤ pmin _ _
    have ih1 := lv_low a b i (j + 1) (by omega)
    have hs := subCost_nn (b.getD i 0) (a.getD j 0)
    refine pmin_ge ?_ ?_
    · have : 2 * ((i : Int) - ((j + 1 : Nat) : Int)) ≤ pmin (lvRow a (b.getD i 0) i (lv a b i) j) (lv a b i (j + 1)) := by
        refine pmin_ge ?_ ih1
        cases j with
        | zero => show _ ≤ 2 * (i : Int); omega
        | succ j =>
          have := lv_low a b (i + 1) (j + 1) (by omega)
          have e : lv a b (i + 1) (j + 1) = lvRow a (b.getD i 0) i (lv a b i) (j + 1) := rfl
          rw [e] at this; omega
      omega
    · have : 2 * ((i : Int) - (j : Int)) ≤ lvDist i (lv a b i) j := by
        unfold lvDist
        split
        · subst j; omega
        · exact lv_low a b i j (by omega)
      omega
theorem take_snoc {l : List Nat} {j : Nat} (h : j < l.length) : l.take (j + 1) = l.take j ++ [l.getD j 0] := by
  rw [List.take_succ_eq_append_getElem h]
  congr 1
  simp [List.getD, List.getElem?_eq_getElem h]

theorem sub_snoc {x y : List Nat} {p q : Nat} (h : (x ++ [p]).Sublist (y ++ [q])) : (x ++ [p]).Sublist y ∨ (p = q ∧ x.Sublist y) := by
  have h2 := h.reverse
  simp only [List.reverse_append, List.reverse_cons, List.reverse_nil, List.nil_append, List.singleton_append] at h2
  cases h2 with
  | cons _ h3 =>
    left
    have := h3.reverse
    simpa using this
  | cons_cons _ h3 =>
    right
    have := h3.reverse
    exact ⟨rfl, by simpa using this⟩

theorem lv_high (a b : List Nat) : ∀ (i j : Nat), 1 ≤ j → j ≤ a.length → i ≤ b.length → (a.take j).Sublist (b.take i) → lv a b i j ≤ 2 * ((i : Int) - (j : Int))
  | 0, j, hj, hja, _, h => by
    have := h.length_le
    rw [List.length_take, List.take_zero, List.length_nil] at this
    omega
  | i + 1, j + 1, _, hja, hib, h => by
    show pmin _ _ ≤ _
    rw [take_snoc (by omega), take_snoc (by omega)] at h
    rcases sub_snoc h with h | ⟨e, h⟩
    · rw [← take_snoc (by omega)] at h
      have ih := lv_high a b i (j + 1) (by omega) hja (by omega) h
      have h1 := pmin_l (pmin (lvRow a (b.getD i 0) i (lv a b i) j) (lv a b i (j + 1)) + 2) (lvDist i (lv a b i) j + subCost (b.getD i 0) (a.getD j 0))
      have h2 := pmin_r (lvRow a (b.getD i 0) i (lv a b i) j) (lv a b i (j + 1))
      omega
    · have h1 := pmin_r (pmin (lvRow a (b.getD i 0) i (lv a b i) j) (lv a b i (j + 1)) + 2) (lvDist i (lv a b i) j + subCost (b.getD i 0) (a.getD j 0))
      have h3 : subCost (b.getD i 0) (a.getD j 0) = 0 := by rw [e]; exact subCost_same _
      have h4 : lvDist i (lv a b i) j ≤ 2 * ((i : Int) - (j : Int)) := by
        unfold lvDist
        split
        · subst j; omega
        · exact lv_high a b i j (by omega) (by omega) (by omega) h
      omega

theorem lvMin_le (row : Nat → Int) : ∀ (n j : Nat), 1 ≤ j → j ≤ n → lvMin row n ≤ row j
  | 0, j, h1, h2 => by omega
  | n + 1, j, h1, h2 => by
    show (if row (n + 1) < lvMin row n then row (n + 1) else lvMin row n) ≤ _
    by_cases e : j = n + 1
    · subst e; split <;> omega
    · have := lvMin_le row n j h1 (by omega)
      split <;> omega

theorem lv_min {a b : List Nat} (ha : a ≠ []) (h : a.Sublist b) {i : Nat} (hi : i < b.length) : lvMin (lv a b (i + 1)) a.length ≤ 2 * ((b.length : Int) - (a.length : Int)) := by
  have hsp : a.Sublist (b.take (i + 1) ++ b.drop (i + 1)) := by rw [List.take_append_drop]; exact h
  obtain ⟨l1, l2, e, h1, h2⟩ := List.sublist_append_iff.mp hsp
  have hl2 := h2.length_le
  have hl1 := h1.length_le
  simp at hl2 hl1
  have hla : a.length = l1.length + l2.length := by rw [e]; simp
  have hlb := h.length_le
  have hpos : 0 < a.length := List.length_pos_iff.mpr ha
  by_cases q : l1 = []
  · subst q
    have h3 := lvMin_le (lv a b (i + 1)) a.length 1 (by omega) (by omega)
    have h4 := lv_first a b i
    simp at hla
    omega
  · have hpos1 : 0 < l1.length := List.length_pos_iff.mpr q
    have h3 := lvMin_le (lv a b (i + 1)) a.length l1.length (by omega) (by omega)
    have h4 := lv_high a b (i + 1) l1.length (by omega) (by omega) (by omega) (by rw [e]; simpa using h1)
    omega

theorem lv_end {a b : List Nat} (ha : a ≠ []) (h : a.Sublist b) : lv a b b.length a.length = 2 * ((b.length : Int) - (a.length : Int)) := by
  have hpos : 0 < a.length := List.length_pos_iff.mpr ha
  have h1 := lv_low a b b.length a.length hpos
  have h2 := lv_high a b b.length a.length hpos (Nat.le_refl _) (Nat.le_refl _) (by simpa using h)
  omega
end Mine

namespace Mine
section
variable {W : Wd}
noncomputable def loopTest : Stmt → Expr
  | .While t _ _ _ => t
  | _ => .Constant .none 0 ⟨0, 0, 0, 0⟩
noncomputable def lvSto (a b : List Nat) (mc : Int) : Sto := [("a", .imm (.str a)), ("b", .imm (.str b)), ("max_cost", .imm (.int mc))]
noncomputable def lvStoP (a b : List Nat) (mc : Int) (p : Nat) : Sto := [("a", .imm (.str a)), ("b", .imm (.str b)), ("max_cost", .imm (.int mc)), ("pre", .imm (.int p))]
noncomputable def lvStoQ (a b : List Nat) (mc : Int) (p : Nat) : Sto := [("a", .imm (.str a)), ("b", .imm (.str b)), ("max_cost", .imm (.int mc)), ("post", .imm (.int (-(p : Int))))]

theorem isEmpty_drop {a : List Nat} {p : Nat} : (!(a.drop p).isEmpty) = decide (p < a.length) := by
  rw [Bool.eq_iff_iff]; simp
theorem get_of_lt {a : List Nat} {p : Nat} (h : p < a.length) : a[p]? = some (a.getD p 0) := by simp [List.getD, List.getElem?_eq_getElem h]

set_option maxRecDepth 100000 in
set_option maxHeartbeats 4000000 in
theorem lv_pre {F : Fc} (he : F.env.scope = fnScope 11) (a b : List Nat) (mc : Int) (ha : a.length ≤ 1000) (hb : b.length ≤ 1000) : ∀ (n p : Nat), a.length - p ≤ n → p ≤ a.length → p ≤ b.length → a.take p = b.take p →
    ∃ q, q ≤ a.length ∧ q ≤ b.length ∧ a.take q = b.take q ∧ WhileR W F (loopTest (stAt (fnBody 11) 2)) (loopBody (stAt (fnBody 11) 2)) n (lvStoP a b mc p) (lvStoP a b mc q) .next := by
  intro n
  induction n with
  | zero =>
    intro p h1 h2 h3 h4
    refine ⟨p, h2, h3, h4, WhileR.done ?_⟩
    have sz : a.length ≤ sizeLine := by rw [sizeLine_eq]; omega
    exact Ts.andF (Ts.cast (Ts.plain (Ev.strFrom (Ev.name rfl) (Ev.name rfl) sz) (VT.str (by simp; omega)) fun A E s Q whole h => isTrue_plain h) (by rw [isEmpty_drop]; simp; omega))
  | succ n ih =>
    intro p h1 h2 h3 h4
    have sza : a.length ≤ sizeLine := by rw [sizeLine_eq]; omega
    have szb : b.length ≤ sizeLine := by rw [sizeLine_eq]; omega
    have ta : Ts W F (lvStoP a b mc p) _ (decide (p < a.length)) := Ts.cast (Ts.plain (e := .Subscript (.Name "a" ⟨44, 10, 44, 11⟩) (.Slice (some (.Name "pre" ⟨44, 12, 44, 15⟩)) none none ⟨44, 12, 44, 16⟩) ⟨44, 10, 44, 17⟩) (Ev.strFrom (Ev.name rfl) (Ev.name rfl) sza) (VT.str (by simp; omega)) fun A E s Q whole h => isTrue_plain h) isEmpty_drop
    have tb : Ts W F (lvStoP a b mc p) _ (decide (p < b.length)) := Ts.cast (Ts.plain (e := .Subscript (.Name "b" ⟨44, 22, 44, 23⟩) (.Slice (some (.Name "pre" ⟨44, 24, 44, 27⟩)) none none ⟨44, 24, 44, 28⟩) ⟨44, 22, 44, 29⟩) (Ev.strFrom (Ev.name rfl) (Ev.name rfl) szb) (VT.str (by simp; omega)) fun A E s Q whole h => isTrue_plain h) isEmpty_drop
    by_cases c1 : p < a.length
    · rw [decide_eq_true c1] at ta
      by_cases c2 : p < b.length
      · rw [decide_eq_true c2] at tb
        have tc : Ts W F (lvStoP a b mc p) (.Compare (.Subscript (.Name "a" ⟨44, 35, 44, 36⟩) (.Name "pre" ⟨44, 37, 44, 40⟩) ⟨44, 35, 44, 41⟩) [.Eq] [.Subscript (.Name "b" ⟨44, 45, 44, 46⟩) (.Name "pre" ⟨44, 47, 44, 50⟩) ⟨44, 45, 44, 51⟩] ⟨44, 35, 44, 51⟩) (decide ([a.getD p 0] = [b.getD p 0])) :=
          Ts.cmp (Ev.item (Ev.name rfl) (Ev.name rfl) (GI.strN (by omega) (get_of_lt c1))) (Ev.item (Ev.name rfl) (Ev.name rfl) (GI.strN (by omega) (get_of_lt c2))) V2.eqS
        by_cases c3 : a.getD p 0 = b.getD p 0
        · obtain ⟨q, q1, q2, q3, q4⟩ := ih (p + 1) (by omega) (by omega) (by omega) (by rw [take_snoc c1, take_snoc c2, h4, c3])
          refine ⟨q, q1, q2, q3, WhileR.step (Ts.andT ta (Ts.andT tb (Ts.andT (Ts.cast tc (decide_eq_true (by rw [c3]))) Ts.andNil))) ?_ q4⟩
          show Exs W F _ (_ :: _) _ _
          exact Exs.forget (Exs.cons (Ex.augName (d := .int ((p + 1 : Nat) : Int)) rfl Ev.int V2.iaddI (Fc.loc he (by decide +kernel))) Exs.nil) ⟨rfl, rfl, rfl, rfl, trivial⟩
        · exact ⟨p, h2, h3, h4, WhileR.done (Ts.andT ta (Ts.andT tb (Ts.andF (Ts.cast tc (decide_eq_false fun z => c3 (List.cons.inj z).1)))))⟩
      · rw [decide_eq_false c2] at tb
        exact ⟨p, h2, h3, h4, WhileR.done (Ts.andT ta (Ts.andF tb))⟩
    · rw [decide_eq_false c1] at ta
      exact ⟨p, h2, h3, h4, WhileR.done (Ts.andF ta)⟩

/-- s[:post or None] -/
theorem Ev.upTo {F : Fc} {ρ : Sto} {x y : Str} {l : List Nat} {k : Nat} {p1 p2 p3 p4 p5 p6 : Pos} {c : Nat} (hx : ρ.get x = some (.imm (.str l))) (hy : ρ.get y = some (.imm (.int (-(k : Int))))) (hl : l.length ≤ sizeLine)
    (hdx : (x == ("__debug__" : Str)) = false := by decide) (hdy : (y == ("__debug__" : Str)) = false := by decide) :
    Ev W F ρ (.Subscript (.Name x p1) (.Slice none (some (.BoolOp .Or [.Name y p2, .Constant .none c p3] p4)) none p5) p6) (.str (l.take (l.length - k))) := by
  by_cases q : k = 0
  · subst q
    have := Ev.strToNone (W := W) (F := F) (p := p5) (pos := p6) (Ev.name hx hdx (pos := p1)) (Ev.or2 (pos := p4) (d := .none) (Ev.name hy hdy (pos := p2)) VT.int (c := false) (fun z => nomatch z) (fun _ => Ev.noneC (k := c) (pos := p3))) hl
    simpa using this
  · refine Ev.strToNeg (by omega) (Ev.name hx hdx) (Ev.or2 (c := true) (Ev.name hy hdy) ?_ (fun _ => rfl) (fun z => nomatch z)) hl
    have := VT.int (W := W) (F := F) (i := -(k : Int))
    have e : (-(k : Int) != 0) = true := by simp; omega
    rw [e] at this; exact this

theorem isEmpty_take {a : List Nat} {p : Nat} (h : p ≤ a.length) : (!(a.take (a.length - p)).isEmpty) = decide (p < a.length) := by
  rw [Bool.eq_iff_iff]
  cases a with
  | nil => simp
  | cons x r => simp; omega
theorem drop_snoc {a b : List Nat} {p : Nat} (h1 : p < a.length) (h2 : p < b.length) (h : a.drop (a.length - p) = b.drop (b.length - p)) (hc : a.getD (a.length - (p + 1)) 0 = b.getD (b.length - (p + 1)) 0) : a.drop (a.length - (p + 1)) = b.drop (b.length - (p + 1)) := by
  have e1 : a.length - (p + 1) < a.length := by omega
  have e2 : b.length - (p + 1) < b.length := by omega
  rw [List.drop_eq_getElem_cons e1, List.drop_eq_getElem_cons e2]
  simp only [List.getD, List.getElem?_eq_getElem e1, List.getElem?_eq_getElem e2, Option.getD_some] at hc
  rw [hc]
  congr 1
  rw [show a.length - (p + 1) + 1 = a.length - p by omega, show b.length - (p + 1) + 1 = b.length - p by omega]
  exact h

set_option maxRecDepth 100000 in
set_option maxHeartbeats 4000000 in
theorem lv_post {F : Fc} (he : F.env.scope = fnScope 11) (a b : List Nat) (mc : Int) (ha : a.length ≤ 1000) (hb : b.length ≤ 1000) : ∀ (n p : Nat), a.length - p ≤ n → p ≤ a.length → p ≤ b.length → a.drop (a.length - p) = b.drop (b.length - p) →
    ∃ q, q ≤ a.length ∧ q ≤ b.length ∧ a.drop (a.length - q) = b.drop (b.length - q) ∧ WhileR W F (loopTest (stAt (fnBody 11) 6)) (loopBody (stAt (fnBody 11) 6)) n (lvStoQ a b mc p) (lvStoQ a b mc q) .next := by
  intro n
  induction n with
  | zero =>
    intro p h1 h2 h3 h4
    refine ⟨p, h2, h3, h4, WhileR.done ?_⟩
    have sz : a.length ≤ sizeLine := by rw [sizeLine_eq]; omega
    exact Ts.andF (Ts.cast (Ts.plain (Ev.upTo (l := a) (k := p) rfl rfl sz) (VT.str (by simp; omega)) fun A E s Q whole h => isTrue_plain h) (by rw [isEmpty_take h2]; simp; omega))
  | succ n ih =>
    intro p h1 h2 h3 h4
    have sza : a.length ≤ sizeLine := by rw [sizeLine_eq]; omega
    have szb : b.length ≤ sizeLine := by rw [sizeLine_eq]; omega
    have ta : ∀ p1 p2 p3 p4 p5 p6, Ts W F (lvStoQ a b mc p) (.Subscript (.Name "a" p1) (.Slice none (some (.BoolOp .Or [.Name "post" p2, .Constant .none 0 p3] p4)) none p5) p6) (decide (p < a.length)) := fun p1 p2 p3 p4 p5 p6 => Ts.cast (Ts.plain (Ev.upTo (l := a) (k := p) rfl rfl sza) (VT.str (by simp; omega)) fun A E s Q whole h => isTrue_plain h) (isEmpty_take h2)
    have tb : ∀ p1 p2 p3 p4 p5 p6, Ts W F (lvStoQ a b mc p) (.Subscript (.Name "b" p1) (.Slice none (some (.BoolOp .Or [.Name "post" p2, .Constant .none 0 p3] p4)) none p5) p6) (decide (p < b.length)) := fun p1 p2 p3 p4 p5 p6 => Ts.cast (Ts.plain (Ev.upTo (l := b) (k := p) rfl rfl szb) (VT.str (by simp; omega)) fun A E s Q whole h => isTrue_plain h) (isEmpty_take h3)
    by_cases c1 : p < a.length
    · rw [decide_eq_true c1] at ta
      by_cases c2 : p < b.length
      · rw [decide_eq_true c2] at tb
        have ge : ∀ l : List Nat, p < l.length → GI W F (.str l) (.int (-(p : Int) - 1)) (.str [l.getD (l.length - (p + 1)) 0]) := fun l hl => by
          have := GI.strNeg (W := W) (F := F) (l := l) (b := p + 1) (c := l.getD (l.length - (p + 1)) 0) (by omega) (by omega) (by omega) (get_of_lt (by omega))
          have e : (-((p + 1 : Nat) : Int)) = -(p : Int) - 1 := by omega
          rw [e] at this; exact this
        have tc : ∀ p1 p2 p3 p4 p5 p6 p7 p8 p9 p10 p11, Ts W F (lvStoQ a b mc p) (.Compare (.Subscript (.Name "a" p1) (.BinOp (.Name "post" p2) .Sub (.Constant (.int 1) 0 p3) p4) p5) [.Eq] [.Subscript (.Name "b" p6) (.BinOp (.Name "post" p7) .Sub (.Constant (.int 1) 0 p8) p9) p10] p11) (decide ([a.getD (a.length - (p + 1)) 0] = [b.getD (b.length - (p + 1)) 0])) := fun p1 p2 p3 p4 p5 p6 p7 p8 p9 p10 p11 =>
          Ts.cmp (Ev.item (Ev.name rfl) (Ev.bin (Ev.name rfl) Ev.int V2.subI) (ge a c1)) (Ev.item (Ev.name rfl) (Ev.bin (Ev.name rfl) Ev.int V2.subI) (ge b c2)) V2.eqS
        by_cases c3 : a.getD (a.length - (p + 1)) 0 = b.getD (b.length - (p + 1)) 0
        · obtain ⟨q, q1, q2, q3, q4⟩ := ih (p + 1) (by omega) (by omega) (by omega) (drop_snoc c1 c2 h4 c3)
          refine ⟨q, q1, q2, q3, WhileR.step (Ts.andT (ta ..) (Ts.andT (tb ..) (Ts.andT (Ts.cast (tc ..) (decide_eq_true (by rw [c3]))) Ts.andNil))) ?_ q4⟩
          show Exs W F _ (_ :: _) _ _
          refine Exs.forget (Exs.cons (Ex.augName (d := .int (-(p : Int) - 1)) rfl Ev.int V2.isubI (Fc.loc he (by decide +kernel))) Exs.nil) ⟨rfl, rfl, rfl, ?_, trivial⟩
          have e : (-((p + 1 : Nat) : Int)) = -(p : Int) - 1 := by omega
          show some _ = some (LV.imm (D.int (-((p + 1 : Nat) : Int))))
          rw [e]
        · exact ⟨p, h2, h3, h4, WhileR.done (Ts.andT (ta ..) (Ts.andT (tb ..) (Ts.andF (Ts.cast (tc ..) (decide_eq_false fun z => c3 (List.cons.inj z).1)))))⟩
      · rw [decide_eq_false c2] at tb
        exact ⟨p, h2, h3, h4, WhileR.done (Ts.andT (ta ..) (Ts.andF (tb ..)))⟩
    · rw [decide_eq_false c1] at ta
      exact ⟨p, h2, h3, h4, WhileR.done (Ts.andF (ta ..))⟩
end
end Mine

namespace Mine
section
variable {W : Wd}

noncomputable def lvMid (a b : List Nat) (i j : Nat) : List D := (List.range a.length).map fun t => .int (if t < j then lv a b (i + 1) (t + 1) else lv a b i (t + 1))
theorem lvMid_length (a b : List Nat) (i j : Nat) : (lvMid a b i j).length = a.length := by simp [lvMid]
theorem lvMid_get {a b : List Nat} {i j : Nat} (h : j < a.length) : (lvMid a b i j)[((j : Int)).toNat]? = some (.int (lv a b i (j + 1))) := by
  simp [lvMid, h]
theorem lvMid_set {a b : List Nat} {i j : Nat} (h : j < a.length) : (lvMid a b i j).set j (.int (lv a b (i + 1) (j + 1))) = lvMid a b i (j + 1) := by
  apply List.ext_getElem?
  intro t
  rw [List.getElem?_set]
  by_cases q : j = t
  · subst q
    rw [if_pos rfl, if_pos (by rw [lvMid_length]; exact h)]
    simp [lvMid, h]
  · rw [if_neg q]
    unfold lvMid
    rw [List.getElem?_map, List.getElem?_map]
    by_cases ht : t < a.length
    · rw [List.getElem?_range ht]
      simp only [Option.map_some, Option.some.injEq, D.int.injEq]
      by_cases q2 : t < j
      · rw [if_pos q2, if_pos (by omega)]
      · rw [if_neg q2, if_neg (by omega)]
    · rw [List.getElem?_eq_none (by simp; omega)]; rfl
theorem lvMid_end (a b : List Nat) (i : Nat) : lvMid a b i a.length = lvMid a b (i + 1) 0 := by
  unfold lvMid
  refine List.map_congr_left fun t ht => ?_
  rw [if_pos (List.mem_range.mp ht), if_neg (Nat.not_lt_zero _)]

noncomputable def lvStoI (a b : List Nat) (mc : Int) (i j : Nat) : Sto := [("a", .imm (.str a)), ("b", .imm (.str b)), ("max_cost", .imm (.int mc)), ("row", .mu (.list (lvMid a b i j))), ("result", .imm (.int (lv a b (i + 1) j))), ("bchar", .imm (.str [b.getD i 0])),
  ("distance", .imm (.int (lvDist i (lv a b i) j))), ("minimum", .imm (.int (lvMin (lv a b (i + 1)) j)))]

theorem Signs.getD {a : List Nat} (h : Signs a) {j : Nat} (hj : j < a.length) : isSign (a.getD j 0) := h _ (by simp [List.getD, List.getElem?_eq_getElem hj])

set_option maxRecDepth 100000 in
set_option maxHeartbeats 4000000 in
theorem lv_inner (T : Top1 W) {F : Fc} (he : F.env.scope = fnScope 11) (hl : F.lvl = 1) (a b : List Nat) (mc : Int) (i : Nat) (hi : i < b.length) (hsa : Signs a) (hsb : Signs b) (hal : a.length ≤ 1000) : ∀ (r j : Nat), j + r = a.length →
    LoopR W F "index" (loopBody (stAt (loopBody (stAt (fnBody 11) 15)) 3)) ((List.range' j r).map fun (t : Nat) => .int t) (lvStoI a b mc i j) (lvStoI a b mc i a.length) .next
  | 0, j, h => by
    have e : j = a.length := by omega
    subst e; exact .nil
  | r + 1, j, h => by
    have hj : j < a.length := by omega
    obtain ⟨tm, hm⟩ := T.move
    have hlen := lvMid_length a b i j
    refine LoopR.cons (ρ₁ := lvStoI a b mc i (j + 1)) ?_ (lv_inner T he hl a b mc i hi hsa hsb hal r (j + 1) (by omega))
    show Exs W F _ (_ :: _) _ _
    refine Exs.cons (Ex.assign (d := .int (lvDist i (lv a b i) j + subCost (b.getD i 0) (a.getD j 0))) (Ev.bin (Ev.name rfl) (Ev.call (ds := [.str [b.getD i 0], .str [a.getD j 0]]) (.cons (Ev.name rfl) (.cons (Ev.item (Ev.name rfl) (Ev.name rfl) (GI.strN (by omega) (get_of_lt hj))) .nil))
      (by rw [hl]; exact sub_ok T (hsb.getD hi) (hsa.getD hj)) (Fc.kind he (by decide +kernel))) V2.addI) (Fc.loc he (by decide +kernel))) ?_
    refine Exs.cons (Ex.assign (d := .int (lv a b i (j + 1))) (Ev.itemM (d₁ := .list (lvMid a b i j)) rfl (Ev.name rfl) (MI.list (by omega) (by omega) (lvMid_get hj))) (Fc.loc he (by decide +kernel))) ?_
    refine Exs.cons (Ex.assign (d := .int (pmin (lv a b (i + 1) j) (lv a b i (j + 1)) + 2)) (Ev.bin (Ev.builtin2 (Ev.name rfl) (Ev.name rfl) V2.min boot_min (T.free _ (by simp)) (by decide) (Fc.kind he (by decide +kernel))) (Ev.globalInt hm (Fc.kind he (by decide +kernel))) V2.addI) (Fc.loc he (by decide +kernel))) ?_
    refine Exs.cons (Ex.assign (d := .int (lv a b (i + 1) (j + 1))) (Ev.builtin2 (Ev.name rfl) (Ev.name rfl) V2.min boot_min (T.free _ (by simp)) (by decide) (Fc.kind he (by decide +kernel))) (Fc.loc he (by decide +kernel))) ?_
    refine Exs.cons (Ex.setList (k := j) (l := lvMid a b i j) (d := .int (lv a b (i + 1) (j + 1))) rfl (Ev.name rfl) (Ev.name rfl) (by omega) (by rw [sizeLine_eq]; omega)) ?_
    have hmid := lvMid_set (b := b) (i := i) hj
    by_cases q : lv a b (i + 1) (j + 1) < lvMin (lv a b (i + 1)) j
    · refine Exs.forget (Exs.cons (Ex.ite (c := true) (Ts.cast (Ts.cmp (Ev.name rfl) (Ev.name rfl) V2.ltI) (decide_eq_true q)) (fun _ => Exs.cons (Ex.assign (Ev.name rfl) (Fc.loc he (by decide +kernel))) Exs.nil) (fun q => nomatch q)) Exs.nil) ⟨rfl, rfl, rfl, ?_, rfl, rfl, rfl, ?_, trivial⟩
      · rw [← hmid]; rfl
      · rw [lvMin, if_pos q]; rfl
    · refine Exs.forget (Exs.cons (Ex.ite (c := false) (Ts.cast (Ts.cmp (Ev.name rfl) (Ev.name rfl) V2.ltI) (decide_eq_false q)) (fun q => nomatch q) (fun _ => Exs.nil)) Exs.nil) ⟨rfl, rfl, rfl, ?_, rfl, rfl, rfl, ?_, trivial⟩
      · rw [← hmid]; rfl
      · rw [lvMin, if_neg q]; rfl

noncomputable def lvRes (a b : List Nat) : Nat → Int
  | 0 => 0
  | i + 1 => lv a b (i + 1) a.length
noncomputable def lvStoO (a b : List Nat) (mc : Int) (i : Nat) : Sto := [("a", .imm (.str a)), ("b", .imm (.str b)), ("max_cost", .imm (.int mc)), ("row", .mu (.list (lvMid a b i 0))), ("result", .imm (.int (lvRes a b i)))]

set_option maxRecDepth 100000 in
set_option maxHeartbeats 4000000 in
theorem lv_outer (T : Top1 W) {F : Fc} (he : F.env.scope = fnScope 11) (hl : F.lvl = 1) (a b : List Nat) (mc : Int) (hsa : Signs a) (hsb : Signs b) (hal : a.length ≤ 1000) (hbl : b.length ≤ 1000) (hmin : ∀ i, i < b.length → lvMin (lv a b (i + 1)) a.length ≤ mc) : ∀ (r i : Nat), i + r = b.length →
    LoopR W F "bindex" (loopBody (stAt (fnBody 11) 15)) ((List.range' i r).map fun (t : Nat) => .int t) (lvStoO a b mc i) (lvStoO a b mc b.length) .next
  | 0, j, h => by
    have e : j = b.length := by omega
    subst e; exact .nil
  | r + 1, i, h => by
    have hi : i < b.length := by omega
    obtain ⟨tm, hm⟩ := T.move
    have sza : a.length ≤ sizeLine := by rw [sizeLine_eq]; omega
    refine LoopR.cons (ρ₁ := lvStoO a b mc (i + 1)) ?_ (lv_outer T he hl a b mc hsa hsb hal hbl hmin r (i + 1) (by omega))
    show Exs W F _ (_ :: _) _ _
    refine Exs.cons (Ex.assign (d := .str [b.getD i 0]) (Ev.item (Ev.name rfl) (Ev.name rfl) (GI.strN (by omega) (get_of_lt hi))) (Fc.loc he (by decide +kernel))) ?_
    refine Exs.cons (Ex.assign2 (i := 2 * (i : Int)) (Ev.cast (Ev.bin (Ev.name rfl) (Ev.globalInt hm (Fc.kind he (by decide +kernel))) (V2.mulI (.inr (by decide)))) (by rw [Int.mul_comm])) (Fc.loc he (by decide +kernel)) (Fc.loc he (by decide +kernel))) ?_
    refine Exs.cons (Ex.assign (d := .int 9223372036854775807) Ev.int (Fc.loc he (by decide +kernel))) ?_
    refine Exs.weaken (ρ₁ := lvStoI a b mc i 0) ⟨rfl, rfl, rfl, rfl, rfl, rfl, rfl, rfl, trivial⟩ ?_
    refine Exs.cons (ρ₁ := lvStoI a b mc i a.length) (Ex.forName (It.range1 (n := a.length) (Ev.builtin1 (Ev.name rfl) (V1.len sza) boot_len (T.free _ (by simp)) (by decide) (Fc.kind he (by decide +kernel))) sza boot_range (T.free _ (by simp)) (by decide) (Fc.kind he (by decide +kernel)))
      (by rw [List.range_eq_range']; exact lv_inner T he hl a b mc i hi hsa hsb hal a.length 0 (by omega)) (Fc.loc he (by decide +kernel))) ?_
    refine Exs.forget (Exs.cons (Ex.ite (c := false) (Ts.cast (Ts.cmp (Ev.name rfl) (Ev.name rfl) V2.gtI) (decide_eq_false (by have := hmin i hi; omega))) (fun q => nomatch q) (fun _ => Exs.nil)) Exs.nil) ⟨rfl, rfl, rfl, ?_, rfl, trivial⟩
    rw [← lvMid_end]; rfl
end
end Mine

namespace Mine
section
variable {W : Wd}

set_option maxRecDepth 100000 in
set_option maxHeartbeats 4000000 in
/-- common ends struck off -/
theorem lv_strip {F : Fc} (he : F.env.scope = fnScope 11) (a b : List Nat) (mc : Int) (ha : a.length ≤ 1000) (hb : b.length ≤ 1000) (hne : a ≠ b) {d : D}
    (h : ∀ (x y p q : List Nat), a = p ++ (x ++ q) → b = p ++ (y ++ q) → Exs W F (lvSto x y mc) ((fnBody 11).drop 9) [] (.ret d)) : Exs W F (lvSto a b mc) (fnBody 11) [] (.ret d) := by
  have sza : a.length ≤ sizeLine := by rw [sizeLine_eq]; omega
  have szb : b.length ≤ sizeLine := by rw [sizeLine_eq]; omega
  obtain ⟨p, p1, p2, p3, p4⟩ := lv_pre (W := W) he a b mc ha hb (a.length) 0 (by omega) (by omega) (by omega) (by simp)
  have hla : (a.drop p).length = a.length - p := by simp
  have hlb : (b.drop p).length = b.length - p := by simp
  obtain ⟨q, q1, q2, q3, q4⟩ := lv_post (W := W) he (a.drop p) (b.drop p) mc (by omega) (by omega) ((a.drop p).length) 0 (by omega) (by omega) (by omega) (by rw [Nat.sub_zero, Nat.sub_zero, List.drop_length, List.drop_length])
  have sza' : (a.drop p).length ≤ sizeLine := by omega
  have szb' : (b.drop p).length ≤ sizeLine := by omega
  have fin := h ((a.drop p).take ((a.drop p).length - q)) ((b.drop p).take ((b.drop p).length - q)) (a.take p) ((a.drop p).drop ((a.drop p).length - q)) (by rw [List.take_append_drop, List.take_append_drop]) (by rw [q3, List.take_append_drop, p3, List.take_append_drop])
  show Exs W F _ (_ :: _) _ _
  refine Exs.cons (Ex.ite (c := false) (Ts.cast (Ts.cmp (Ev.name rfl) (Ev.name rfl) V2.eqS) (decide_eq_false hne)) (fun q => nomatch q) (fun _ => Exs.nil)) ?_
  refine Exs.cons (Ex.assign (d := .int 0) Ev.int (Fc.loc he (by decide +kernel))) ?_
  refine Exs.weaken (ρ₁ := lvStoP a b mc 0) ⟨rfl, rfl, rfl, rfl, trivial⟩ ?_
  refine Exs.cons (ρ₁ := lvStoP a b mc p) (Ex.while p4) ?_
  refine Exs.cons (Ex.assign (d := .str (a.drop p)) (Ev.strFrom (Ev.name rfl) (Ev.name rfl) sza) (Fc.loc he (by decide +kernel))) ?_
  refine Exs.cons (Ex.assign (d := .str (b.drop p)) (Ev.strFrom (Ev.name rfl) (Ev.name rfl) szb) (Fc.loc he (by decide +kernel))) ?_
  refine Exs.cons (Ex.assign (d := .int 0) Ev.int (Fc.loc he (by decide +kernel))) ?_
  refine Exs.weaken (ρ₁ := lvStoQ (a.drop p) (b.drop p) mc 0) ⟨rfl, rfl, rfl, rfl, trivial⟩ ?_
  refine Exs.cons (ρ₁ := lvStoQ (a.drop p) (b.drop p) mc q) (Ex.while q4) ?_
  refine Exs.cons (Ex.assign (d := .str ((a.drop p).take ((a.drop p).length - q))) (Ev.upTo rfl rfl sza') (Fc.loc he (by decide +kernel))) ?_
  refine Exs.cons (Ex.assign (d := .str ((b.drop p).take ((b.drop p).length - q))) (Ev.upTo rfl rfl szb') (Fc.loc he (by decide +kernel))) ?_
  exact Exs.weaken (ρ₁ := lvSto ((a.drop p).take ((a.drop p).length - q)) ((b.drop p).take ((b.drop p).length - q)) mc) ⟨rfl, rfl, rfl, trivial⟩ fin

set_option maxRecDepth 100000 in
set_option maxHeartbeats 4000000 in
/-- one of the two is empty -/
theorem lv_empty (T : Top1 W) {F : Fc} (he : F.env.scope = fnScope 11) (x y : List Nat) (mc : Int) (hx : x.length ≤ 40) (hy : y.length ≤ 40) (h : x = [] ∨ y = []) : Exs W F (lvSto x y mc) ((fnBody 11).drop 9) [] (.ret (.int (2 * ((x.length : Int) + (y.length : Int))))) := by
  have szx : x.length ≤ sizeLine := by rw [sizeLine_eq]; omega
  have szy : y.length ≤ sizeLine := by rw [sizeLine_eq]; omega
  obtain ⟨tm, hm⟩ := T.move
  show Exs W F _ (_ :: _) _ _
  have hr : Exs W F (lvSto x y mc) (match stAt (fnBody 11) 9 with | .If _ b _ _ => b | _ => []) [] (.ret (.int (2 * ((x.length : Int) + (y.length : Int))))) := by
    show Exs W F _ (_ :: _) _ _
    exact Exs.ret (ρ₁ := []) (Ex.retV (Ev.bin (Ev.globalInt hm (Fc.kind he (by decide +kernel))) (Ev.bin (Ev.builtin1 (Ev.name rfl) (V1.len szx) boot_len (T.free _ (by simp)) (by decide) (Fc.kind he (by decide +kernel))) (Ev.builtin1 (Ev.name rfl) (V1.len szy) boot_len (T.free _ (by simp)) (by decide) (Fc.kind he (by decide +kernel))) V2.addI) (V2.mulI (.inl (by decide)))))
  refine Exs.ret (ρ₁ := []) (Ex.ite (c := true) ?_ (fun _ => hr) (fun q => nomatch q))
  have ta : ∀ p1 p2, Ts W F (lvSto x y mc) (.UnaryOp .Not (.Name "a" p1) p2) x.isEmpty := fun p1 p2 => Ts.cast (Ts.not (Ts.plain (Ev.name rfl) (VT.str szx) fun A E s Q whole h => isTrue_plain h)) (by simp)
  have tb : ∀ p1 p2, Ts W F (lvSto x y mc) (.UnaryOp .Not (.Name "b" p1) p2) y.isEmpty := fun p1 p2 => Ts.cast (Ts.not (Ts.plain (Ev.name rfl) (VT.str szy) fun A E s Q whole h => isTrue_plain h)) (by simp)
  rcases h with h | h
  · exact Ts.orT (Ts.cast (ta ..) (by simp [h]))
  · cases hh : x.isEmpty with
    | true => exact Ts.orT (Ts.cast (ta ..) hh)
    | false => exact Ts.orF (Ts.cast (ta ..) hh) (Ts.orT (Ts.cast (tb ..) (by simp [h])))

set_option maxRecDepth 100000 in
theorem lv_swap : ∀ (env : Env), env.scope = fnScope 11 → swappedStores [.Tuple [.Name "a" ⟨58, 8, 58, 9⟩, .Name "b" ⟨58, 11, 58, 12⟩] 0 ⟨58, 8, 58, 12⟩] (.Tuple [.Name "b" ⟨58, 16, 58, 17⟩, .Name "a" ⟨58, 19, 58, 20⟩] 0 ⟨58, 15, 58, 21⟩) env = pure (some [("a" : Str), ("b" : Str)]) := by
  intro env he
  cases env
  dsimp only at he
  subst he
  rfl
set_option maxRecDepth 100000 in
set_option maxHeartbeats 4000000 in
/-- neither is empty: the sizes, the swap; then the rest -/
theorem lv_mid (T : Top1 W) {F : Fc} (he : F.env.scope = fnScope 11) (x y u v : List Nat) (mc : Int) (hx : x.length ≤ 40) (hy : y.length ≤ 40) (hx0 : x ≠ []) (hy0 : y ≠ []) {d : D} (hs : (y.length < x.length → u = y ∧ v = x) ∧ (¬ y.length < x.length → u = x ∧ v = y))
    (h : Exs W F (lvSto u v mc) ((fnBody 11).drop 12) [] (.ret d)) : Exs W F (lvSto x y mc) ((fnBody 11).drop 9) [] (.ret d) := by
  have szx : x.length ≤ sizeLine := by rw [sizeLine_eq]; omega
  have szy : y.length ≤ sizeLine := by rw [sizeLine_eq]; omega
  obtain ⟨tm, hm⟩ := T.max
  have ta : ∀ p1 p2, Ts W F (lvSto x y mc) (.UnaryOp .Not (.Name "a" p1) p2) false := fun p1 p2 => Ts.cast (Ts.not (Ts.plain (Ev.name rfl) (VT.str szx) fun A E s Q whole h => isTrue_plain h)) (by cases x <;> simp_all)
  have tb : ∀ p1 p2, Ts W F (lvSto x y mc) (.UnaryOp .Not (.Name "b" p1) p2) false := fun p1 p2 => Ts.cast (Ts.not (Ts.plain (Ev.name rfl) (VT.str szy) fun A E s Q whole h => isTrue_plain h)) (by cases y <;> simp_all)
  have la : ∀ p1 p2 p3, Ev W F (lvSto x y mc) (.Call (.Name "len" p1) [.Name "a" p2] [] p3) (.int x.length) := fun p1 p2 p3 => Ev.builtin1 (Ev.name rfl) (V1.len szx) boot_len (T.free _ (by simp)) (by decide) (Fc.kind he (by decide +kernel))
  have lb : ∀ p1 p2 p3, Ev W F (lvSto x y mc) (.Call (.Name "len" p1) [.Name "b" p2] [] p3) (.int y.length) := fun p1 p2 p3 => Ev.builtin1 (Ev.name rfl) (V1.len szy) boot_len (T.free _ (by simp)) (by decide) (Fc.kind he (by decide +kernel))
  show Exs W F _ (_ :: _) _ _
  refine Exs.cons (Ex.ite (c := false) (Ts.orF (ta ..) (Ts.orF (tb ..) Ts.orNil)) (fun q => nomatch q) (fun _ => Exs.nil)) ?_
  refine Exs.cons (Ex.ite (c := false) (Ts.orF (Ts.cast (Ts.cmp (la ..) (Ev.globalInt hm (Fc.kind he (by decide +kernel))) V2.gtI) (decide_eq_false (by omega))) (Ts.orF (Ts.cast (Ts.cmp (lb ..) (Ev.globalInt hm (Fc.kind he (by decide +kernel))) V2.gtI) (decide_eq_false (by omega))) Ts.orNil)) (fun q => nomatch q) (fun _ => Exs.nil)) ?_
  by_cases q : y.length < x.length
  · obtain ⟨rfl, rfl⟩ := hs.1 q
    refine Exs.cons (Ex.ite (c := true) (Ts.cast (Ts.cmp (lb ..) (la ..) V2.ltI) (decide_eq_true (by omega))) (fun _ => Exs.cons (Ex.swap (dx := .str v) (dy := .str u) rfl rfl (Fc.loc he (by decide +kernel)) (Fc.loc he (by decide +kernel)) (hw := lv_swap _ he)) Exs.nil) (fun q => nomatch q)) ?_
    exact Exs.weaken (ρ₁ := lvSto u v mc) ⟨rfl, rfl, rfl, trivial⟩ h
  · obtain ⟨rfl, rfl⟩ := hs.2 q
    exact Exs.cons (Ex.ite (c := false) (Ts.cast (Ts.cmp (lb ..) (la ..) V2.ltI) (decide_eq_false (by omega))) (fun q => nomatch q) (fun _ => Exs.nil)) h

theorem rangeSize2 (n : Nat) : Builtin.Range.rangeSize 2 (2 * ((n : Int) + 1)) 2 = n := by
  unfold Builtin.Range.rangeSize
  simp only [show (2 : Int) > 0 by decide, if_true]
  by_cases h : n = 0
  · subst h; rfl
  · rw [if_pos (by omega)]; omega
theorem small2 (n : Nat) (h : n ≤ 40) : Builtin.Range.small 2 (2 * ((n : Int) + 1)) 2 = true := by
  have all : ∀ n : Fin 41, Builtin.Range.small 2 (2 * (((n : Nat) : Int) + 1)) 2 = true := by decide +kernel
  exact all ⟨n, by omega⟩

set_option maxRecDepth 100000 in
set_option maxHeartbeats 4000000 in
/-- the table of distances -/
theorem lv_table (T : Top1 W) {F : Fc} (he : F.env.scope = fnScope 11) (hl : F.lvl = 1) (u v : List Nat) (mc : Int) (hu : u.length ≤ 40) (hv : v.length ≤ 40) (hsu : Signs u) (hsv : Signs v) (hu0 : u ≠ []) (h : u.Sublist v) (hmc : mc = 2 * ((v.length : Int) - (u.length : Int))) : Exs W F (lvSto u v mc) ((fnBody 11).drop 12) [] (.ret (.int mc)) := by
  have szu : u.length ≤ sizeLine := by rw [sizeLine_eq]; omega
  have szv : v.length ≤ sizeLine := by rw [sizeLine_eq]; omega
  obtain ⟨tm, hm⟩ := T.move
  have hlen := h.length_le
  have hup : 0 < u.length := List.length_pos_iff.mpr hu0
  show Exs W F _ (_ :: _) _ _
  refine Exs.cons (Ex.ite (c := false) (Ts.cast (Ts.cmp (Ev.bin (Ev.bin (Ev.builtin1 (Ev.name rfl) (V1.len szv) boot_len (T.free _ (by simp)) (by decide) (Fc.kind he (by decide +kernel))) (Ev.builtin1 (Ev.name rfl) (V1.len szu) boot_len (T.free _ (by simp)) (by decide) (Fc.kind he (by decide +kernel))) V2.subI) (Ev.globalInt hm (Fc.kind he (by decide +kernel))) (V2.mulI (.inr (by decide)))) (Ev.name rfl) V2.gtI) (decide_eq_false (by omega))) (fun q => nomatch q) (fun _ => Exs.nil)) ?_
  refine Exs.cons (Ex.assignO (d := .list (lvMid u v 0 0)) ?_ (Fc.loc he (by decide +kernel))) ?_
  · have e : lvMid u v 0 0 = (List.range u.length).map fun (i : Nat) => D.int (2 + (i : Int) * 2) := by
      unfold lvMid
      refine List.map_congr_left fun t _ => ?_
      rw [if_neg (Nat.not_lt_zero _)]
      show D.int (2 * ((t + 1 : Nat) : Int)) = _
      congr 1; omega
    rw [e]
    exact EvO.listRange3 (a := 2) (b := 2 * ((u.length : Int) + 1)) (c := 2) (n := u.length) (Ev.globalInt hm (Fc.kind he (by decide +kernel))) (Ev.bin (Ev.globalInt hm (Fc.kind he (by decide +kernel))) (Ev.bin (Ev.builtin1 (Ev.name rfl) (V1.len szu) boot_len (T.free _ (by simp)) (by decide) (Fc.kind he (by decide +kernel))) Ev.int V2.addI) (V2.mulI (.inl (by decide)))) (Ev.globalInt hm (Fc.kind he (by decide +kernel))) (by decide) (by decide) (small2 _ hu) (rangeSize2 _) (by omega)
      boot_list (T.free _ (by simp)) (by decide) (Fc.kind he (by decide +kernel)) boot_range (T.free _ (by simp)) (by decide) (Fc.kind he (by decide +kernel))
  refine Exs.cons (Ex.assign (d := .int 0) Ev.int (Fc.loc he (by decide +kernel))) ?_
  refine Exs.weaken (ρ₁ := lvStoO u v mc 0) ⟨rfl, rfl, rfl, rfl, rfl, trivial⟩ ?_
  refine Exs.cons (ρ₁ := lvStoO u v mc v.length) (Ex.forName (It.range1 (n := v.length) (Ev.builtin1 (Ev.name rfl) (V1.len szv) boot_len (T.free _ (by simp)) (by decide) (Fc.kind he (by decide +kernel))) szv boot_range (T.free _ (by simp)) (by decide) (Fc.kind he (by decide +kernel)))
    (by rw [List.range_eq_range']; exact lv_outer T he hl u v mc hsu hsv (by omega) (by omega) (fun i hi => by rw [hmc]; exact lv_min hu0 h hi) v.length 0 (by omega)) (Fc.loc he (by decide +kernel))) ?_
  have e : mc = lvRes u v v.length := by
    rw [hmc]
    have := lv_end hu0 h
    have hvp : 0 < v.length := by omega
    match hv2 : v.length, hvp with
    | n + 1, _ => rw [hv2] at this; exact this.symm
  have : Exs W F (lvStoO u v mc v.length) ((fnBody 11).drop 16) [] (.ret (.int (lvRes u v v.length))) := Exs.ret (ρ₁ := []) (Ex.retV (Ev.name rfl))
  rw [← e] at this
  exact this

set_option maxRecDepth 100000 in
set_option maxHeartbeats 4000000 in
/-- too far at once -/
theorem lv_far (T : Top1 W) {F : Fc} (he : F.env.scope = fnScope 11) (hl : F.lvl = 1) (u v : List Nat) (mc : Int) (hu : u.length ≤ 40) (hv : v.length ≤ 40) (hmc : mc < 2 * ((v.length : Int) - (u.length : Int))) : Exs W F (lvSto u v mc) ((fnBody 11).drop 12) [] (.ret (.int (mc + 1))) := by
  have szu : u.length ≤ sizeLine := by rw [sizeLine_eq]; omega
  have szv : v.length ≤ sizeLine := by rw [sizeLine_eq]; omega
  obtain ⟨tm, hm⟩ := T.move
  show Exs W F _ (_ :: _) _ _
  exact Exs.ret (ρ₁ := []) (Ex.ite (c := true) (Ts.cast (Ts.cmp (Ev.bin (Ev.bin (Ev.builtin1 (Ev.name rfl) (V1.len szv) boot_len (T.free _ (by simp)) (by decide) (Fc.kind he (by decide +kernel))) (Ev.builtin1 (Ev.name rfl) (V1.len szu) boot_len (T.free _ (by simp)) (by decide) (Fc.kind he (by decide +kernel))) V2.subI) (Ev.globalInt hm (Fc.kind he (by decide +kernel))) (V2.mulI (.inr (by decide)))) (Ev.name rfl) V2.gtI) (decide_eq_true (by omega))) (fun _ => Exs.ret (ρ₁ := []) (Ex.retV (Ev.bin (Ev.name rfl) Ev.int V2.addI))) (fun q => nomatch q))

theorem mid_sub {a b p q x y : List Nat} (ha : a = p ++ (x ++ q)) (hb : b = p ++ (y ++ q)) (h : b.Sublist a) : y.Sublist x := by
  subst ha hb
  exact (List.append_sublist_append_right q).mp ((List.append_sublist_append_left p).mp h)

set_option maxRecDepth 100000 in
set_option maxHeartbeats 4000000 in
/-- a word against what is left of it -/
theorem lev_ok1 (T : Top1 W) (a b : List Nat) (hsa : Signs a) (hsb : Signs b) (h : b.Sublist a) (hla : a.length ≤ 40) : CallOK W 2 "_levenshtein_distance" [.str a, .str b, .int (2 * ((a.length : Int) - (b.length : Int)))] (.int (2 * ((a.length : Int) - (b.length : Int)))) := by
  refine T.lev.call (k := 1) (ρ₁ := []) ["a", "b", "max_cost"] (fun pm cd doc => BindOK.three (x := "a") (y := "b") (z := "max_cost") fun v u w => by rfl) rfl (by decide +kernel) (by decide +kernel) (by decide +kernel) rfl rfl rfl ?_
  intro F he hl
  have hlb := h.length_le
  by_cases hne : a = b
  · subst hne
    show Exs W F _ (_ :: _) _ _
    refine Exs.ret (ρ₁ := []) (Ex.ite (c := true) (Ts.cast (Ts.cmp (Ev.name rfl) (Ev.name rfl) V2.eqS) (decide_eq_true rfl)) (fun _ => Exs.ret (ρ₁ := []) (Ex.retV (Ev.cast Ev.int ?_))) (fun q => nomatch q))
    congr 1; omega
  · refine lv_strip he a b _ (by omega) (by omega) hne fun x y p q ea eb => ?_
    have hyx := mid_sub ea eb h
    have hxy := hyx.length_le
    have lx : a.length = p.length + (x.length + q.length) := by rw [ea]; simp
    have ly : b.length = p.length + (y.length + q.length) := by rw [eb]; simp
    by_cases hy0 : y = []
    · have := lv_empty (W := W) T he x y (2 * ((a.length : Int) - (b.length : Int))) (by omega) (by omega) (.inr hy0)
      have e : 2 * ((x.length : Int) + (y.length : Int)) = 2 * ((a.length : Int) - (b.length : Int)) := by
        rw [hy0] at ly ⊢
        simp at ly ⊢
        omega
      rw [e] at this; exact this
    · have hx0 : x ≠ [] := fun z => by rw [z] at hxy; exact hy0 (List.length_eq_zero_iff.mp (by simpa using hxy))
      have sx : Signs x := fun c hc => hsa c (by rw [ea]; simp [hc])
      have sy : Signs y := fun c hc => hsb c (by rw [eb]; simp [hc])
      refine lv_mid T he x y y x _ (by omega) (by omega) hx0 hy0 ⟨fun _ => ⟨rfl, rfl⟩, fun z => ?_⟩ (lv_table T he hl y x _ (by omega) (by omega) sy sx hy0 hyx (by omega))
      have := hyx.eq_of_length (by omega)
      exact ⟨this, this.symm⟩

set_option maxRecDepth 100000 in
set_option maxHeartbeats 4000000 in
/-- the other way round, with one less allowed -/
theorem lev_ok2 (T : Top1 W) (a b : List Nat) (hsa : Signs a) (hsb : Signs b) (h : b.Sublist a) (hla : a.length ≤ 40) : CallOK W 2 "_levenshtein_distance" [.str b, .str a, .int (2 * ((a.length : Int) - (b.length : Int)) - 1)] (.int (2 * ((a.length : Int) - (b.length : Int)))) := by
  refine T.lev.call (k := 1) (ρ₁ := []) ["a", "b", "max_cost"] (fun pm cd doc => BindOK.three (x := "a") (y := "b") (z := "max_cost") fun v u w => by rfl) rfl (by decide +kernel) (by decide +kernel) (by decide +kernel) rfl rfl rfl ?_
  intro F he hl
  have hlb := h.length_le
  by_cases hne : b = a
  · subst hne
    show Exs W F _ (_ :: _) _ _
    refine Exs.ret (ρ₁ := []) (Ex.ite (c := true) (Ts.cast (Ts.cmp (Ev.name rfl) (Ev.name rfl) V2.eqS) (decide_eq_true rfl)) (fun _ => Exs.ret (ρ₁ := []) (Ex.retV (Ev.cast Ev.int ?_))) (fun q => nomatch q))
    congr 1; omega
  · refine lv_strip he b a _ (by omega) (by omega) hne fun y x p q eb ea => ?_
    have hyx := mid_sub ea eb h
    have hxy := hyx.length_le
    have lx : a.length = p.length + (x.length + q.length) := by rw [ea]; simp
    have ly : b.length = p.length + (y.length + q.length) := by rw [eb]; simp
    by_cases hy0 : y = []
    · have := lv_empty (W := W) T he y x (2 * ((a.length : Int) - (b.length : Int)) - 1) (by omega) (by omega) (.inl hy0)
      have e : 2 * ((y.length : Int) + (x.length : Int)) = 2 * ((a.length : Int) - (b.length : Int)) := by
        rw [hy0] at ly ⊢
        simp at ly ⊢
        omega
      rw [e] at this; exact this
    · have hx0 : x ≠ [] := fun z => by rw [z] at hxy; exact hy0 (List.length_eq_zero_iff.mp (by simpa using hxy))
      have := lv_far T he hl y x (2 * ((a.length : Int) - (b.length : Int)) - 1) (by omega) (by omega) (by omega)
      rw [Int.sub_add_cancel] at this
      exact lv_mid T he y x y x _ (by omega) (by omega) hy0 hx0 ⟨fun z => by omega, fun _ => ⟨rfl, rfl⟩⟩ this
end
end Mine

namespace Mine

/-! ## law: the word and what is left of it -/
noncomputable def sg (i : Int) : Nat := [97, 65, 98, 66].getD (i.fmod 4).toNat 0
theorem fmod4 (i : Int) : 0 ≤ i.fmod 4 ∧ i.fmod 4 < 4 := ⟨by rw [Int.fmod_eq_emod_of_nonneg _ (by decide)]; omega, Int.fmod_lt_of_pos i (by decide)⟩
theorem sg_get (i : Int) : [97, 65, 98, 66][(i.fmod 4).toNat]? = some (sg i) := get_of_lt (by have := fmod4 i; simp; omega)
theorem sg_sign (i : Int) : isSign (sg i) := by
  have h := sg_get i
  have := List.mem_of_getElem? h
  simp at this
  unfold isSign
  omega
noncomputable def wordOf (ns : List Int) : List Nat := (ns.take 8 ++ [0, 2, 3, 0, 2]).map sg
theorem wordOf_signs (ns : List Int) : Signs (wordOf ns) := fun c hc => by
  obtain ⟨i, _, rfl⟩ := List.mem_map.mp hc
  exact sg_sign i
theorem wordOf_length (ns : List Int) : (wordOf ns).length ≤ 13 := by
  unfold wordOf
  simp
  omega
theorem wordOf_ne (ns : List Int) : wordOf ns ≠ [] := by
  unfold wordOf
  simp

structure LawF (F : Fc) : Prop where
  he : F.env.scope = fnScope 17
  lvl : F.lvl = 2
  word : ∃ c, F.env.cells.lookup ("word" : Str) = some c
  letter : ∃ c, F.env.cells.lookup ("letter" : Str) = some c
  ne : ∀ a b, F.env.cells.lookup ("word" : Str) = some a → F.env.cells.lookup ("letter" : Str) = some b → a ≠ b

noncomputable def compD : D → D
  | .int i => .str [sg i]
  | d => d
noncomputable def lawScope1 : Scope := match stAt (fnBody 17) 0 with | .Assign _ (.Call _ (.ListComp _ _ s _ :: _) _ _) _ => s | _ => default

section
variable {W : Wd}
theorem LawF.wordS {F : Fc} (L : LawF F) : Storable F.env "word" := .inr ⟨Fc.kind L.he (by decide +kernel), L.word⟩
theorem LawF.letterS {F : Fc} (L : LawF F) : Storable F.env "letter" := .inr ⟨Fc.kind L.he (by decide +kernel), L.letter⟩

theorem join_signs (ts : List (List Nat)) : Txt.join (mkS []) (ts.map mkS) = mkS ts.flatten := by
  unfold Txt.join
  rw [StrLaws.glued_eq_join]
  have := join_nil_flat (ts.map mkS)
  rw [List.map_map] at this
  have e : (ts.map ((fun x => x.cps.toList) ∘ mkS)) = ts := by
    conv => rhs; rw [← List.map_id ts]
    exact List.map_congr_left fun a _ => by simp [mkS_cps]
  rw [e] at this
  rw [← this, ← mkS_of]
theorem joinOk_signs (ts : List (List Nat)) (h : ∀ t ∈ ts, t.length ≤ 1) (hn : ts.length ≤ 1000) : JoinOk (mkS []) (ts.map mkS) = true := by
  unfold JoinOk
  have := StrLaws.joinFits (sep := mkS []) (texts := ts.map mkS) (B := 1) (fun y hy => by
    obtain ⟨t, ht, rfl⟩ := List.mem_map.mp hy
    rw [mkS_length]; exact h t ht) (by
    have : (mkS []).length = 0 := rfl
    rw [this]; simp; omega)
  rw [this]; rfl

theorem comp1_ok {F : Fc} (L : LawF F) (ρ : Sto) : CompOK F ρ lawScope1 [] "x" [] :=
  ⟨rfl, by rfl, by decide +kernel, by decide +kernel, by decide +kernel, (fun p hp => nomatch hp), by simp, fun y lv e => by simp [Sto.get] at e⟩

theorem Ev.mod4 {F : Fc} {i : Int} {p1 p2 p3 p4 p5 : Pos} : Ev W F [("x", .imm (.int i))] (.Subscript (.Constant (.str (Str.ofString "aAbB")) 0 p1) (.BinOp (.Name "x" p2) .Mod (.Constant (.int 4) 0 p3) p4) p5) (.str [sg i]) := by
  have := fmod4 i
  have h := GI.strN (W := W) (F := F) (l := [97, 65, 98, 66]) (i := (i.fmod 4).toNat) (c := sg i) (by omega) (sg_get i)
  rw [Int.toNat_of_nonneg this.1] at h
  exact Ev.item Ev.saAbB (Ev.bin (Ev.name rfl) Ev.int (V2.modI (by decide))) h

set_option maxRecDepth 100000 in
set_option maxHeartbeats 4000000 in
theorem law0 (T : Top1 W) {F : Fc} (L : LawF F) (ns : List Int) (hn : ns.length ≤ 1000) : Ex W F [("script", .imm (.list (ns.map .int)))] (stAt (fnBody 17) 0) [("script", .imm (.list (ns.map .int))), ("word", .imm (.str (wordOf ns)))] .next := by
  have he := L.he
  have hlen := wordOf_length ns
  have hl1 : (ns.map D.int).length ≤ sizeLine := by rw [sizeLine_eq]; simp; omega
  have hl2 : ((ns.map D.int).take 8).length ≤ 8 := by simp; omega
  have e1 : (ns.map D.int).take 8 ++ [.int 0, .int 2, .int 3, .int 0, .int 2] = (ns.take 8 ++ [0, 2, 3, 0, 2]).map D.int := by simp [List.map_take]
  have e2 : (((ns.take 8 ++ [0, 2, 3, 0, 2]).map D.int).filter (fun _ => true)).map compD = ((ns.take 8 ++ [0, 2, 3, 0, 2]).map fun i => [sg i]).map D.str := by
    rw [List.filter_eq_self.mpr (fun _ _ => rfl), List.map_map, List.map_map]; rfl
  have e3 : ((ns.take 8 ++ [0, 2, 3, 0, 2]).map fun i => [sg i]).flatten = wordOf ns := by
    unfold wordOf
    generalize ns.take 8 ++ [0, 2, 3, 0, 2] = l
    induction l with
    | nil => rfl
    | cons a l ih => simpa using ih
  have hl3 : (ns.take 8 ++ [0, 2, 3, 0, 2]).length ≤ 13 := by simp; omega
  show Ex W F _ (.Assign _ _ _) _ _
  refine Ex.assign (d := .str (wordOf ns)) (Ev.joinL (ts := (ns.take 8 ++ [0, 2, 3, 0, 2]).map fun i => [sg i]) rfl Ev.s0 (Ev.cast (Ev.listComp (ρc := []) (ds := (ns.take 8 ++ [0, 2, 3, 0, 2]).map D.int) (fun _ => true) compD (comp1_ok L _)
      (It.list (Ev.cast (Ev.bin (Ev.listTo (b := 8) (Ev.name rfl) Ev.int hl1) (Ev.list (.cons Ev.int (.cons Ev.int (.cons Ev.int (.cons Ev.int (.cons Ev.int .nil))))) (by show 5 ≤ sizeLine; decide)) (V2.addL (by rw [sizeLine_eq]; simp; omega))) (by rw [e1])))
      (by rw [sizeLine_eq]; simp; omega) (fun d hd => by obtain ⟨i, _, rfl⟩ := List.mem_map.mp hd; rfl) (fun d hd _ => by obtain ⟨i, _, rfl⟩ := List.mem_map.mp hd; rfl) (fun d hd C => .inl ⟨rfl, rfl⟩) (fun d hd _ C => by obtain ⟨i, _, rfl⟩ := List.mem_map.mp hd; exact Ev.mod4)) (by rw [e2]))
      (joinOk_signs _ (fun t ht => by obtain ⟨i, _, rfl⟩ := List.mem_map.mp ht; simp) (by rw [List.length_map]; omega)) (by rw [join_signs, e3])) L.wordS
end
end Mine

namespace Mine
section
variable {W : Wd}
noncomputable def prs1 (c d : Nat) : List D := if subCost c d = 1 then [.str [c, d], .str []] else []
noncomputable def prsS (w : List Nat) (l : List D) : Sto := [("word", .imm (.str w)), ("pairs", .mu (.list l))]
noncomputable def prsS2 (w : List Nat) (l : List D) (c : Nat) : Sto := [("word", .imm (.str w)), ("pairs", .mu (.list l)), ("one", .imm (.str [c]))]
theorem prs1_length (c d : Nat) : (prs1 c d).length ≤ 2 := by unfold prs1; split <;> simp
theorem LawF.notI {F : Fc} (L : LawF F) : interactive F.env = false := by
  obtain ⟨A, env, hh, hk, hg, hb, lvl, room, units⟩ := F
  have he := L.he
  cases env
  dsimp only at he
  subst he
  rfl

set_option maxRecDepth 100000 in
set_option maxHeartbeats 4000000 in
theorem prs_inner (T : Top1 W) {F : Fc} (L : LawF F) (w : List Nat) (c : Nat) (hc : isSign c) : ∀ (r : List Nat) (l : List D), Signs r → l.length + 2 * r.length ≤ 1000 →
    LoopR W F "two" (loopBody (stAt (loopBody (stAt (fnBody 17) 2)) 0)) (r.map fun d => .str [d]) (prsS2 w l c) (prsS2 w (l ++ r.flatMap (prs1 c)) c) .next
  | [], l, _, _ => by simp; exact .nil
  | d :: r, l, hs, hl => by
    have hd := hs d (.head _)
    simp only [List.length_cons] at hl
    have h1 := prs1_length c d
    have ih := prs_inner T L w c hc r (l ++ prs1 c d) (fun e he => hs e (.tail _ he)) (by simp; omega)
    rw [List.flatMap_cons, ← List.append_assoc]
    refine LoopR.cons (ρ₁ := prsS2 w (l ++ prs1 c d) c) ?_ ih
    show Exs W F _ (_ :: _) _ _
    have tst : ∀ (q : Bool), q = decide (subCost c d = 1) → Ts W F ((prsS2 w l c).set "two" (.imm (.str [d]))) (match stAt (loopBody (stAt (loopBody (stAt (fnBody 17) 2)) 0)) 0 with | .If t _ _ _ => t | _ => .Constant .none 0 ⟨0, 0, 0, 0⟩) q := fun q hq => by
      subst hq
      exact Ts.cmp (Ev.call (ds := [.str [c], .str [d]]) (.cons (Ev.name rfl) (.cons (Ev.name rfl) .nil)) ((by rw [L.lvl]; exact (sub_ok T hc hd).up (by decide))) (Fc.kind L.he (by decide +kernel))) Ev.int V2.eqI
    by_cases q : subCost c d = 1
    · refine Exs.forget (Exs.cons (Ex.ite (c := true) (tst true (by simp [q])) (fun _ => Exs.cons (Ex.extend (l := l) (ds := [.str [c, d], .str []]) rfl rfl (EvO.list (.cons (Ev.bin (Ev.name rfl) (Ev.name rfl) (V2.addS (by rw [sizeLine_eq]; simp))) (.cons Ev.s0 .nil)) (by show 2 ≤ sizeLine; decide)) (by rw [sizeLine_eq]; simp; omega) (hi := L.notI)) Exs.nil) (fun q => nomatch q)) Exs.nil) ⟨rfl, ?_, rfl, trivial⟩
      unfold prs1; rw [if_pos q]; rfl
    · refine Exs.forget (Exs.cons (Ex.ite (c := false) (tst false (by simp [q])) (fun q => nomatch q) (fun _ => Exs.nil)) Exs.nil) ⟨rfl, ?_, rfl, trivial⟩
      unfold prs1; rw [if_neg q, List.append_nil]; rfl

noncomputable def all4 : List Nat := [97, 65, 98, 66]
theorem all4_signs : Signs all4 := by unfold all4 Signs isSign; simp

set_option maxRecDepth 100000 in
set_option maxHeartbeats 4000000 in
theorem prs_outer (T : Top1 W) {F : Fc} (L : LawF F) (w : List Nat) : ∀ (r : List Nat) (l : List D), Signs r → l.length + 8 * r.length ≤ 1000 →
    LoopR W F "one" (loopBody (stAt (fnBody 17) 2)) (r.map fun d => .str [d]) (prsS w l) (prsS w (l ++ r.flatMap fun c => all4.flatMap (prs1 c))) .next
  | [], l, _, _ => by simp; exact .nil
  | c :: r, l, hs, hl => by
    have hc := hs c (.head _)
    simp only [List.length_cons] at hl
    have h1 : (all4.flatMap (prs1 c)).length ≤ 8 := by
      have a := prs1_length c 97
      have b := prs1_length c 65
      have e := prs1_length c 98
      have f := prs1_length c 66
      simp only [all4, List.flatMap_cons, List.flatMap_nil, List.length_append, List.length_nil]
      omega
    have ih := prs_outer T L w r (l ++ all4.flatMap (prs1 c)) (fun e he => hs e (.tail _ he)) (by simp only [List.length_append]; omega)
    rw [List.flatMap_cons, ← List.append_assoc]
    refine LoopR.cons (ρ₁ := prsS w (l ++ all4.flatMap (prs1 c))) ?_ ih
    show Exs W F _ (_ :: _) _ _
    refine Exs.weaken (ρ₁ := prsS2 w l c) ⟨rfl, rfl, rfl, trivial⟩ ?_
    refine Exs.forget (Exs.cons (ρ₁ := prsS2 w (l ++ all4.flatMap (prs1 c)) c) (Ex.forName (It.str Ev.saAbB) (prs_inner T L w c hc all4 l all4_signs (by simp [all4]; omega)) (Fc.loc L.he (by decide +kernel))) Exs.nil) ⟨rfl, rfl, trivial⟩

theorem prs_all : (all4.flatMap fun c => all4.flatMap (prs1 c)) = pairsD := by rfl

noncomputable def lawS3 (w r s : List Nat) : Sto := [("word", .imm (.str w)), ("pairs", .mu (.list pairsD)), ("rest", .imm (.str r)), ("seen", .imm (.str s))]

set_option maxRecDepth 100000 in
set_option maxHeartbeats 4000000 in
/-- one round -/
theorem law_round (T : Top1 W) {F : Fc} (L : LawF F) (w r s : List Nat) (hr : Signs r) (hl : r.length ≤ 1000) : Exs W F (lawS3 w r s) (loopBody (stAt (fnBody 17) 5)) (lawS3 w (rep1 r) r) .next := by
  show Exs W F _ (_ :: _) _ _
  refine Exs.cons (Ex.assign (Ev.name rfl) (Fc.loc L.he (by decide +kernel))) ?_
  exact Exs.forget (Exs.cons (Ex.assign (d := .str (rep1 r)) (Ev.call (ds := .str r :: (pairsD ++ [])) (.cons (Ev.name rfl) (EvL.starM rfl (by decide) .nil)) (by rw [L.lvl, List.append_nil]; exact (replace_ok T r hr hl).up (by decide)) (Fc.kind L.he (by decide +kernel))) (Fc.loc L.he (by decide +kernel))) Exs.nil) ⟨rfl, rfl, rfl, rfl, trivial⟩

set_option maxRecDepth 100000 in
set_option maxHeartbeats 4000000 in
theorem law_while (T : Top1 W) {F : Fc} (L : LawF F) (w : List Nat) : ∀ (n : Nat) (r s : List Nat), Signs r → r.length ≤ n → r.length ≤ 1000 → r ≠ s →
    ∃ z, Rw r z ∧ Red z ∧ WhileR W F (loopTest (stAt (fnBody 17) 5)) (loopBody (stAt (fnBody 17) 5)) (n + 2) (lawS3 w r s) (lawS3 w z z) .next := by
  have tst : ∀ (r s : List Nat), Ts W F (lawS3 w r s) (loopTest (stAt (fnBody 17) 5)) (decide (r ≠ s)) := fun r s => Ts.cmp (Ev.name rfl) (Ev.name rfl) V2.neS
  intro n
  induction n with
  | zero =>
    intro r s hs hn hl hne
    have e : r = [] := List.length_eq_zero_iff.mp (by omega)
    subst e
    refine ⟨[], .refl _, trivial, WhileR.step (ρ₁ := lawS3 w [] []) (Ts.cast (tst _ _) (decide_eq_true hne)) (law_round T L w [] s hs (by simp)) (WhileR.done (Ts.cast (tst _ _) (by simp)))⟩
  | succ n ih =>
    intro r s hs hn hl hne
    rcases rep1_step hs with ⟨e, hred⟩ | hlt
    · have hr := law_round T L w r s hs hl
      rw [e] at hr
      exact ⟨r, .refl _, hred, WhileR.step (Ts.cast (tst _ _) (decide_eq_true hne)) hr (WhileR.done (Ts.cast (tst _ _) (by simp)))⟩
    · obtain ⟨z, h1, h2, h3⟩ := ih (rep1 r) r (rep1_signs hs) (by omega) (by omega) (fun z => by rw [z] at hlt; exact absurd hlt (Nat.lt_irrefl _))
      exact ⟨z, .step h1, h2, WhileR.step (Ts.cast (tst _ _) (decide_eq_true hne)) (law_round T L w r s hs hl) h3⟩
end
end Mine

namespace Mine

/-! ## law: the two tables -/
theorem rm2_sublist (c1 c2 : Nat) : ∀ l : List Nat, (rm2 c1 c2 l).Sublist l
  | [] => .slnil
  | [a] => List.Sublist.refl _
  | a :: b :: r => by
    rw [rm2]
    split
    · exact ((rm2_sublist c1 c2 r).cons b).cons a
    · exact (rm2_sublist c1 c2 (b :: r)).cons_cons a
theorem rep1_sublist (x : List Nat) : (rep1 x).Sublist x := by
  unfold rep1
  exact (((rm2_sublist _ _ _).trans (rm2_sublist _ _ _)).trans (rm2_sublist _ _ _)).trans (rm2_sublist _ _ _)
theorem Rw.sublist {x r : List Nat} (q : Rw x r) : r.Sublist x := by
  induction q with
  | refl w => exact List.Sublist.refl _
  | step _ ih => exact ih.trans (rep1_sublist _)

abbrev Bk := (Int × Int × Int × Int) × Tab
noncomputable def bkD (x : Bk) : D := dB x.1.1 x.1.2.1 x.1.2.2.1 x.1.2.2.2 x.2
noncomputable def bookD (b : Bk × Bk) : D := .dict [[97], [98]] [bkD b.1, bkD b.2]
noncomputable def bkAdd (x e : Bk) : Bk := ((e.1.1 + x.1.1, e.1.2.1 + x.1.2.1, e.1.2.2.1 + x.1.2.2.1, e.1.2.2.2 + x.1.2.2.2), addT x.2 e.2)
noncomputable def getB (l : Nat) (b : Bk × Bk) : Bk := if l = 97 then b.1 else b.2
noncomputable def putB (l : Nat) (x : Bk) (b : Bk × Bk) : Bk × Bk := if l = 97 then (x, b.2) else (b.1, x)
noncomputable def entryOf (k : Nat) (p q : List Nat) (c : Nat) : Bk := if c = lowC c then ((1, 1, 1, (k : Int)), [(p, 1)]) else ((0, 1, -1, (k : Int)), [(q, -1)])
noncomputable def stepB (k : Nat) (p : List Nat) (c : Nat) (b : Bk × Bk) : Bk × Bk := putB (lowC c) (bkAdd (getB (lowC c) b) (entryOf k p (rep1 (p ++ [c])) c)) b
noncomputable def walkB : Nat → List Nat → List Nat → Bk × Bk → List Nat × (Bk × Bk)
  | _, p, [], b => (p, b)
  | k, p, c :: r, b => walkB (k + 1) (rep1 (p ++ [c])) r (stepB k p c b)
theorem look_b {l : Nat} (h : isLow l) (b : Bk × Bk) : lookD [[97], [98]] [bkD b.1, bkD b.2] [l] = some (bkD (getB l b)) := by
  rcases h with rfl | rfl <;> rfl
theorem put_b {l : Nat} (h : isLow l) (b : Bk × Bk) (x : Bk) : D.dict (setK [[97], [98]] [l]) (setV [[97], [98]] [bkD b.1, bkD b.2] [l] (bkD x)) = bookD (putB l x b) := by
  rcases h with rfl | rfl <;> rfl
theorem entryOf_length (k : Nat) (p q : List Nat) (c : Nat) : (entryOf k p q c).2.length = 1 := by unfold entryOf; split <;> rfl
theorem stepB_length {k : Nat} {p : List Nat} {c : Nat} {b : Bk × Bk} {n : Nat} (h1 : b.1.2.length ≤ n) (h2 : b.2.2.length ≤ n) : (stepB k p c b).1.2.length ≤ n + 1 ∧ (stepB k p c b).2.2.length ≤ n + 1 := by
  unfold stepB putB getB bkAdd
  have := entryOf_length k p (rep1 (p ++ [c])) c
  have a1 := addT_length b.1.2 (entryOf k p (rep1 (p ++ [c])) c).2
  have a2 := addT_length b.2.2 (entryOf k p (rep1 (p ++ [c])) c).2
  split <;> simp only <;> omega

section
variable {W : Wd}
noncomputable def lawS4 (w z p : List Nat) (b : Bk × Bk) : Sto := [("word", .imm (.str w)), ("pairs", .mu (.list pairsD)), ("rest", .imm (.str z)), ("place", .imm (.str p)), ("book", .mu (bookD b))]
noncomputable def lawS5 (w z p q : List Nat) (b : Bk × Bk) (k c : Nat) : Sto := [("word", .imm (.str w)), ("pairs", .mu (.list pairsD)), ("rest", .imm (.str z)), ("place", .imm (.str p)), ("book", .mu (bookD b)), ("k", .imm (.int k)), ("letter", .imm (.str [lowC c])), ("behind", .imm (.str q))]
noncomputable def lawS6 (w z p q : List Nat) (b : Bk × Bk) (c : Nat) (e : Bk) : Sto := [("word", .imm (.str w)), ("pairs", .mu (.list pairsD)), ("rest", .imm (.str z)), ("place", .imm (.str p)), ("book", .mu (bookD b)), ("letter", .imm (.str [lowC c])), ("behind", .imm (.str q)), ("entry", .imm (bkD e))]

set_option maxRecDepth 100000 in
set_option maxHeartbeats 4000000 in
theorem law_entry {F : Fc} (L : LawF F) (w z p q : List Nat) (b : Bk × Bk) (k c : Nat) (hw : w[k]? = some c) (hk : k < 1000) : Ex W F (lawS5 w z p q b k c) (stAt (loopBody (stAt (fnBody 17) 12)) 2) (lawS6 w z p q b c (entryOf k p q c)) .next := by
  have tst : ∀ p1 p2 p3 p4 p5, Ts W F (lawS5 w z p q b k c) (.Compare (.Subscript (.Name "word" p1) (.Name "k" p2) p3) [.Eq] [.Name "letter" p4] p5) (decide ([c] = [lowC c])) := fun p1 p2 p3 p4 p5 => Ts.cmp (Ev.item (Ev.name rfl) (Ev.name rfl) (GI.strN (by omega) hw)) (Ev.name rfl) V2.eqS
  show Ex W F _ (.If _ _ _ _) _ _
  by_cases hc : c = lowC c
  · refine Ex.ite (c := true) (Ts.cast (tst ..) (decide_eq_true (by rw [← hc]))) (fun _ => Exs.forget (Exs.cons (Ex.assign (d := bkD (entryOf k p q c)) (Ev.cast (Ev.tuple (.cons Ev.int (.cons Ev.int (.cons Ev.int (.cons (Ev.name rfl) (.cons (EvO.dict1 (Ev.name rfl) Ev.int).ev .nil))))) (by show 5 ≤ sizeLine; decide)) ?_) (Fc.loc L.he (by decide +kernel))) Exs.nil) ⟨rfl, rfl, rfl, rfl, rfl, rfl, rfl, rfl, trivial⟩) (fun q => nomatch q)
    unfold entryOf; rw [if_pos hc]; rfl
  · refine Ex.ite (c := false) (Ts.cast (tst ..) (decide_eq_false fun q => hc (List.cons.inj q).1)) (fun q => nomatch q) (fun _ => Exs.forget (Exs.cons (Ex.assign (d := bkD (entryOf k p q c)) (Ev.cast (Ev.tuple (.cons Ev.int (.cons Ev.int (.cons (Ev.un Ev.int V1.negI) (.cons (Ev.name rfl) (.cons (EvO.dict1 (Ev.name rfl) (Ev.un Ev.int V1.negI)).ev .nil))))) (by show 5 ≤ sizeLine; decide)) ?_) (Fc.loc L.he (by decide +kernel))) Exs.nil) ⟨rfl, rfl, rfl, rfl, rfl, rfl, rfl, rfl, trivial⟩)
    unfold entryOf; rw [if_neg hc]; rfl

set_option maxRecDepth 100000 in
set_option maxHeartbeats 4000000 in
theorem law_book (T : Top1 W) {F : Fc} (L : LawF F) (w z : List Nat) : ∀ (r : List Nat) (k : Nat) (p : List Nat) (b : Bk × Bk), (∀ i c, r[i]? = some c → w[k + i]? = some c) → Signs r → Signs p → p.length + r.length ≤ 100 → k + r.length ≤ 100 → b.1.2.length + r.length ≤ 100 → b.2.2.length + r.length ≤ 100 →
    LoopR W F "k" (loopBody (stAt (fnBody 17) 12)) ((List.range' k r.length).map fun (t : Nat) => .int t) (lawS4 w z p b) (lawS4 w z (walkB k p r b).1 (walkB k p r b).2) .next
  | [], k, p, b, _, _, _, _, _, _, _ => .nil
  | c :: r, k, p, b, hw, hs, hp, hl, hk, hb1, hb2 => by
    have hc := hs c (.head _)
    have hlow := lowC_low hc
    have hwk := hw 0 c rfl
    rw [Nat.add_zero] at hwk
    simp only [List.length_cons] at hl hk hb1 hb2
    have hpc : Signs (p ++ [c]) := fun d hd => by
      rcases List.mem_append.mp hd with hd | hd
      · exact hp d hd
      · rw [List.mem_singleton.mp hd]; exact hc
    have hrl := rep1_length (p ++ [c])
    rw [List.length_append, List.length_singleton] at hrl
    have hsl := stepB_length (k := k) (p := p) (c := c) (b := b) (n := 99 - r.length) (by omega) (by omega)
    have ih := law_book T L w z r (k + 1) (rep1 (p ++ [c])) (stepB k p c b) (fun i d hi => by have := hw (i + 1) d (by simpa using hi); rwa [show k + (i + 1) = k + 1 + i by omega] at this) (fun e he => hs e (.tail _ he)) (rep1_signs hpc) (by omega) (by omega) (by omega) (by omega)
    refine LoopR.cons (ρ₁ := lawS4 w z (rep1 (p ++ [c])) (stepB k p c b)) ?_ ih
    show Exs W F _ (_ :: _) _ _
    refine Exs.cons (Ex.assign (d := .str [lowC c]) (Ev.lower (l := [c]) rfl (Ev.item (Ev.name rfl) (Ev.name rfl) (GI.strN (by omega) hwk)) (lower_sign hc) (by show 1 ≤ sizeLine; decide)) L.letterS) ?_
    refine Exs.cons (Ex.assign (d := .str (rep1 (p ++ [c]))) (Ev.call (ds := .str (p ++ [c]) :: (pairsD ++ [])) (.cons (Ev.bin (Ev.name rfl) (Ev.item (Ev.name rfl) (Ev.name rfl) (GI.strN (by omega) hwk)) (V2.addS (by rw [sizeLine_eq]; simp; omega))) (EvL.starM rfl (by decide) .nil))
      (by rw [L.lvl, List.append_nil]; exact (replace_ok T (p ++ [c]) hpc (by simp; omega)).up (by decide)) (Fc.kind L.he (by decide +kernel))) (Fc.loc L.he (by decide +kernel))) ?_
    refine Exs.weaken (ρ₁ := lawS5 w z p (rep1 (p ++ [c])) b k c) ⟨rfl, rfl, rfl, rfl, rfl, rfl, rfl, rfl, trivial⟩ ?_
    refine Exs.cons (law_entry L w z p (rep1 (p ++ [c])) b k c hwk (by omega)) ?_
    have hel := entryOf_length k p (rep1 (p ++ [c])) c
    have hgl : (getB (lowC c) b).2.length ≤ 100 := by unfold getB; split <;> omega
    refine Exs.cons (Ex.setDict (ks := [[97], [98]]) (ds := [bkD b.1, bkD b.2]) (k := [lowC c]) (d := bkD (bkAdd (getB (lowC c) b) (entryOf k p (rep1 (p ++ [c])) c))) rfl (Ev.name rfl)
      (Ev.call (ds := [bkD (getB (lowC c) b), bkD (entryOf k p (rep1 (p ++ [c])) c)]) (.cons (Ev.itemM (d₁ := bookD b) rfl (Ev.name rfl) (MI.dict (look_b hlow b))) (.cons (Ev.name rfl) .nil))
        (by rw [L.lvl]; exact stats_ok T _ _ _ _ _ _ _ _ _ _ (by omega)) (Fc.kind L.he (by decide +kernel))) (by show 2 ≤ sizeLine; decide)) ?_
    refine Exs.forget (Exs.cons (Ex.assign (Ev.name rfl) (Fc.loc L.he (by decide +kernel))) Exs.nil) ⟨rfl, rfl, rfl, rfl, ?_, trivial⟩
    rw [put_b hlow]; rfl

set_option maxRecDepth 100000 in
set_option maxHeartbeats 4000000 in
/-- statements 1 to 12 -/
theorem law_1to12 (T : Top1 W) {F : Fc} (L : LawF F) (w : List Nat) (hs : Signs w) (hl : w.length ≤ 13) (hw0 : w ≠ []) {ρ₂ : Sto} {d : D}
    (h : ∀ z, Rw w z → Red z → Exs W F (lawS4 w z (walkB 0 [] w (((0, 0, 0, 0), []), ((0, 0, 0, 0), []))).1 (walkB 0 [] w (((0, 0, 0, 0), []), ((0, 0, 0, 0), []))).2) ((fnBody 17).drop 13) ρ₂ (.ret d)) :
    Exs W F [("word", .imm (.str w))] ((fnBody 17).drop 1) ρ₂ (.ret d) := by
  obtain ⟨z, hz, hred, hloop⟩ := law_while T L w w.length w [] hs (Nat.le_refl _) (by omega) hw0
  have hsub := hz.sublist
  have hzl := hsub.length_le
  have hsz := hz.signs hs
  have fin := h z hz hred
  have szw : w.length ≤ sizeLine := by rw [sizeLine_eq]; omega
  have szz : z.length ≤ sizeLine := by rw [sizeLine_eq]; omega
  show Exs W F _ (_ :: _) _ _
  refine Exs.cons (Ex.assignO (d := .list []) (EvO.list .nil (by decide)) (Fc.loc L.he (by decide +kernel))) ?_
  refine Exs.weaken (ρ₁ := prsS w []) ⟨rfl, rfl, trivial⟩ ?_
  refine Exs.cons (ρ₁ := prsS w pairsD) (Ex.forName (It.str Ev.saAbB) (by
    have := prs_outer T L w all4 [] all4_signs (by simp [all4])
    rw [List.nil_append, prs_all] at this
    exact this) (Fc.loc L.he (by decide +kernel))) ?_
  refine Exs.cons (Ex.assign (Ev.name rfl) (Fc.loc L.he (by decide +kernel))) ?_
  refine Exs.cons (Ex.assign Ev.s0 (Fc.loc L.he (by decide +kernel))) ?_
  refine Exs.weaken (ρ₁ := lawS3 w w []) ⟨rfl, rfl, rfl, rfl, trivial⟩ ?_
  refine Exs.cons (ρ₁ := lawS3 w z z) (Ex.while hloop) ?_
  have hread := read_ok T w hs (by omega)
  rw [read_law hs hz hred hzl] at hread
  refine Exs.cons (Ex.ite (c := false) (Ts.cast (Ts.cmp (Ev.name rfl) (Ev.call (ds := [.str w]) (.cons (Ev.name rfl) .nil) (by rw [L.lvl]; exact hread) (Fc.kind L.he (by decide +kernel))) V2.neS) (by simp)) (fun q => nomatch q) (fun _ => Exs.nil)) ?_
  refine Exs.cons (Ex.assign (d := .int (2 * ((w.length : Int) - (z.length : Int)))) (Ev.bin Ev.int (Ev.bin (Ev.builtin1 (Ev.name rfl) (V1.len szw) boot_len (T.free _ (by simp)) (by decide) (Fc.kind L.he (by decide +kernel))) (Ev.builtin1 (Ev.name rfl) (V1.len szz) boot_len (T.free _ (by simp)) (by decide) (Fc.kind L.he (by decide +kernel))) V2.subI) (V2.mulI (.inl (by decide)))) (Fc.loc L.he (by decide +kernel))) ?_
  have h1 := lev_ok1 T w z hs hsz hsub (by omega)
  have h2 := lev_ok2 T w z hs hsz hsub (by omega)
  refine Exs.cons (Ex.ite (c := false) (Ts.cast (Ts.cmp (Ev.call (ds := [.str w, .str z, .int (2 * ((w.length : Int) - (z.length : Int)))]) (.cons (Ev.name rfl) (.cons (Ev.name rfl) (.cons (Ev.name rfl) .nil))) (by rw [L.lvl]; exact h1) (Fc.kind L.he (by decide +kernel))) (Ev.name rfl) V2.neI) (by simp)) (fun q => nomatch q) (fun _ => Exs.nil)) ?_
  refine Exs.cons (Ex.ite (c := false) (Ts.cast (Ts.cmp (Ev.call (ds := [.str z, .str w, .int (2 * ((w.length : Int) - (z.length : Int)) - 1)]) (.cons (Ev.name rfl) (.cons (Ev.name rfl) (.cons (Ev.bin (Ev.name rfl) Ev.int V2.subI) .nil))) (by rw [L.lvl]; exact h2) (Fc.kind L.he (by decide +kernel))) (Ev.name rfl) V2.neI) (by simp)) (fun q => nomatch q) (fun _ => Exs.nil)) ?_
  refine Exs.cons (Ex.assignO (d := bookD (((0, 0, 0, 0), []), ((0, 0, 0, 0), []))) (EvO.dict2 Ev.sa (Ev.tuple (.cons Ev.int (.cons Ev.int (.cons Ev.int (.cons Ev.int (.cons EvO.dict0.ev .nil))))) (by show 5 ≤ sizeLine; decide)) Ev.sb (Ev.tuple (.cons Ev.int (.cons Ev.int (.cons Ev.int (.cons Ev.int (.cons EvO.dict0.ev .nil))))) (by show 5 ≤ sizeLine; decide)) (by decide)) (Fc.loc L.he (by decide +kernel))) ?_
  refine Exs.cons (Ex.assign Ev.s0 (Fc.loc L.he (by decide +kernel))) ?_
  refine Exs.weaken (ρ₁ := lawS4 w z [] (((0, 0, 0, 0), []), ((0, 0, 0, 0), []))) ⟨rfl, rfl, rfl, rfl, rfl, trivial⟩ ?_
  refine Exs.cons (Ex.forName (It.range1 (n := w.length) (Ev.builtin1 (Ev.name rfl) (V1.len szw) boot_len (T.free _ (by simp)) (by decide) (Fc.kind L.he (by decide +kernel))) szw boot_range (T.free _ (by simp)) (by decide) (Fc.kind L.he (by decide +kernel)))
    (by rw [List.range_eq_range']; exact law_book T L w z w 0 [] _ (fun i c hi => by rw [Nat.zero_add]; exact hi) hs (fun c hc => nomatch hc) (by simp; omega) (by omega) (by simp; omega) (by simp; omega)) (Fc.loc L.he (by decide +kernel))) ?_
  exact fin
end
end Mine

namespace Mine

/-! ## law: the spots, what is due -/
noncomputable def spotsOf (l : Nat) (w : List Nat) : List Nat := (List.range w.length).filter fun k => decide (lowC (w.getD k 0) = l)
noncomputable def spI (l : Nat) (w : List Nat) : List Int := (spotsOf l w).map fun (k : Nat) => (k : Int)
noncomputable def spotP (l : Nat) (w : List Nat) : D → Bool
  | .int i => decide (lowC (w.getD i.toNat 0) = l)
  | _ => false
theorem spot_list (l : Nat) (w : List Nat) : ((((List.range w.length).map fun (i : Nat) => D.int i).filter (spotP l w)).map fun d => d) = (spI l w).map D.int := by
  rw [List.map_id', List.filter_map]
  unfold spI spotsOf
  rw [List.map_map]
  congr 1
noncomputable def lawScope2 : Scope := match stAt (loopBody (stAt (fnBody 17) 15)) 1 with | .Assign _ (.ListComp _ _ s _) _ => s | _ => default
noncomputable def due1 (l k c : Nat) (z : List Nat) (t : Tab) : Tab :=
  let t1 := if c = l then putT t (z.take k) 1 else t
  if c = upC l then putT t1 (z.take (k + 1)) (-1) else t1
noncomputable def dueT (l : Nat) (z : List Nat) : Nat → List Nat → Tab → Tab
  | _, [], t => t
  | k, c :: r, t => dueT l z (k + 1) r (due1 l k c z t)
theorem due1_length (l k c : Nat) (z : List Nat) (t : Tab) : (due1 l k c z t).length ≤ t.length + 2 := by
  have a := putT_length t (z.take k) 1
  have b := putT_length t (z.take (k + 1)) (-1)
  have e := putT_length (putT t (z.take k) 1) (z.take (k + 1)) (-1)
  unfold due1
  split <;> split <;> simp only <;> omega

section
variable {W : Wd}
noncomputable def lawS7 (w z : List Nat) (b : Bk × Bk) (wh : Tab) : Sto := [("word", .imm (.str w)), ("pairs", .mu (.list pairsD)), ("rest", .imm (.str z)), ("book", .mu (bookD b)), ("whole", .imm (dT wh))]
noncomputable def lawS8 (w z : List Nat) (b : Bk × Bk) (wh : Tab) (l : Nat) (t : Tab) : Sto := [("word", .imm (.str w)), ("pairs", .mu (.list pairsD)), ("rest", .imm (.str z)), ("book", .mu (bookD b)), ("whole", .imm (dT wh)), ("letter", .imm (.str [l])), ("table", .imm (dT t))]
noncomputable def lawS9 (w z : List Nat) (b : Bk × Bk) (wh : Tab) (l : Nat) (t due : Tab) : Sto := [("word", .imm (.str w)), ("pairs", .mu (.list pairsD)), ("rest", .imm (.str z)), ("book", .mu (bookD b)), ("whole", .imm (dT wh)), ("letter", .imm (.str [l])), ("table", .imm (dT t)), ("due", .mu (dT due))]

theorem closure2 {env : Env} {cw cl : Addr} (h1 : env.cells.lookup ("word" : Str) = some cw) (h2 : env.cells.lookup ("letter" : Str) = some cl) : closureFor lawScope2 env = pure [(("word" : Str), cw), (("letter" : Str), cl)] := by
  have e1 : cellOf env ("word" : Str) = pure cw := by unfold cellOf; rw [h1]
  have e2 : cellOf env ("letter" : Str) = pure cl := by unfold cellOf; rw [h2]
  have names : lawScope2.names = [((".0" : Str), .local), (("k" : Str), .local), (("letter" : Str), .free), (("word" : Str), .free)] := by rfl
  unfold closureFor
  rw [names]
  simp [e1, e2]

theorem comp2_ok {F : Fc} (L : LawF F) {cw cl : Addr} (h1 : F.env.cells.lookup ("word" : Str) = some cw) (h2 : F.env.cells.lookup ("letter" : Str) = some cl) (hne : cw ≠ cl) {ρ : Sto} {w : List Nat} {l : Nat}
    (hw : ρ.get "word" = some (.imm (.str w))) (hl : ρ.get "letter" = some (.imm (.str [l]))) : CompOK F ρ lawScope2 [(("word" : Str), cw), (("letter" : Str), cl)] "k" [("word", .imm (.str w)), ("letter", .imm (.str [l]))] := by
  have he := L.he
  have r1 : (relabel lawScope2 F.env).names.lookup ("word" : Str) = some .cell := by
    unfold relabel Env.kindOf; rw [he]; rfl
  have r2 : (relabel lawScope2 F.env).names.lookup ("letter" : Str) = some .cell := by
    unfold relabel Env.kindOf; rw [he]; rfl
  refine ⟨rfl, closure2 h1 h2, by decide +kernel, by decide +kernel, by decide +kernel, fun p hp => ?_, by simp [hne], fun y lv e => ?_⟩
  · rcases List.mem_cons.mp hp with rfl | hp
    · exact mem_of_lookup' h1
    · rw [List.mem_singleton.mp hp]; exact mem_of_lookup' h2
  · simp only [Sto.get] at e
    by_cases q : ("word" : Str) = y
    · subst q
      rw [if_pos rfl] at e
      obtain rfl := Option.some.inj e
      exact ⟨_, rfl, hw, Fc.kind he (by decide +kernel), cw, h1, by rfl, r1⟩
    · rw [if_neg q] at e
      by_cases q2 : ("letter" : Str) = y
      · subst q2
        rw [if_pos rfl] at e
        obtain rfl := Option.some.inj e
        exact ⟨_, rfl, hl, Fc.kind he (by decide +kernel), cl, h2, by rfl, r2⟩
      · rw [if_neg q2] at e; cases e

theorem law_swaps : ∀ (env : Env), env.scope = fnScope 17 → ∀ (p : Pos), p.line = 141 → ∀ e cs n, swapsWith (.ListComp e cs lawScope2 ⟨141, 16, 141, 74⟩) (some (.Name "spots" p)) n env = pure true := by
  intro env he p hp e cs n
  cases env
  dsimp only at he
  subst he
  cases p
  dsimp only at hp
  subst hp
  rfl

set_option maxRecDepth 100000 in
set_option maxHeartbeats 4000000 in
theorem law_spots (T : Top1 W) {F : Fc} (L : LawF F) {cw cl : Addr} (h1 : F.env.cells.lookup ("word" : Str) = some cw) (h2 : F.env.cells.lookup ("letter" : Str) = some cl) (hne : cw ≠ cl) (w z : List Nat) (b : Bk × Bk) (wh t : Tab) (l : Nat) (hs : Signs w) (hl : w.length ≤ 13) :
    Ex W F (lawS8 w z b wh l t) (stAt (loopBody (stAt (fnBody 17) 15)) 1) ((lawS8 w z b wh l t).set "spots" (.imm (.list ((spI l w).map .int)))) .next := by
  have szw : w.length ≤ sizeLine := by rw [sizeLine_eq]; omega
  rw [← spot_list]
  show Ex W F _ (.Assign _ _ _) _ _
  refine Ex.assignComp (x := "k") (ρc := [("word", .imm (.str w)), ("letter", .imm (.str [l]))]) (spotP l w) (fun d => d) (comp2_ok L h1 h2 hne rfl rfl) (It.range1 (n := w.length) (Ev.builtin1 (Ev.name rfl) (V1.len szw) boot_len (T.free _ (by simp)) (by decide) (Fc.kind L.he (by decide +kernel))) szw boot_range (T.free _ (by simp)) (by decide) (Fc.kind L.he (by decide +kernel)))
    (by rw [List.length_map, List.length_range]; omega) (fun d hd => by obtain ⟨i, _, rfl⟩ := List.mem_map.mp hd; rfl) (fun d hd _ => by obtain ⟨i, _, rfl⟩ := List.mem_map.mp hd; rfl) (fun d hd C => ?_) (fun d hd _ C => ?_) (Fc.kind L.he (by decide +kernel)) (law_swaps _ L.he _ rfl _ _ _)
  · obtain ⟨i, hi, rfl⟩ := List.mem_map.mp hd
    have hi := List.mem_range.mp hi
    have hc : isSign (w.getD i 0) := hs.getD hi
    refine .inr ⟨_, rfl, Ts.cast (Ts.cmp (Ev.lower (l := [w.getD i 0]) rfl (Ev.item (d₁ := .str w) (d₂ := .int i) (Ev.name rfl) (Ev.name rfl) (GI.strN (by omega) (get_of_lt hi))) (lower_sign hc) (by show 1 ≤ sizeLine; decide)) (Ev.name rfl) V2.eqS) ?_⟩
    show decide ([lowC (w.getD i 0)] = [l]) = decide (lowC (w.getD ((i : Int)).toNat 0) = l)
    rw [Int.toNat_natCast]
    simp
  · obtain ⟨i, hi, rfl⟩ := List.mem_map.mp hd
    exact Ev.name rfl

set_option maxRecDepth 100000 in
set_option maxHeartbeats 4000000 in
theorem law_due {F : Fc} (L : LawF F) (w z : List Nat) (b : Bk × Bk) (wh t : Tab) (l : Nat) (hlow : isLow l) (hz : z.length ≤ 100) : ∀ (r : List Nat) (k : Nat) (d : Tab), (∀ i c, r[i]? = some c → z[k + i]? = some c) → k + r.length ≤ 100 → d.length + 2 * r.length ≤ 1000 →
    LoopR W F "k" (loopBody (stAt (loopBody (stAt (fnBody 17) 15)) 6)) ((List.range' k r.length).map fun (t : Nat) => .int t) (lawS9 w z b wh l t d) (lawS9 w z b wh l t (dueT l z k r d)) .next
  | [], k, d, _, _, _ => .nil
  | c :: r, k, d, hw, hk, hd => by
    have hwk := hw 0 c rfl
    rw [Nat.add_zero] at hwk
    simp only [List.length_cons] at hk hd
    have hl1 := due1_length l k c z d
    have szz : z.length ≤ sizeLine := by rw [sizeLine_eq]; omega
    have ih := law_due L w z b wh t l hlow hz r (k + 1) (due1 l k c z d) (fun i d hi => by have := hw (i + 1) d (by simpa using hi); rwa [show k + (i + 1) = k + 1 + i by omega] at this) (by omega) (by omega)
    refine LoopR.cons (ρ₁ := lawS9 w z b wh l t (due1 l k c z d)) ?_ ih
    have hne : ¬ (c = l ∧ c = upC l) := by rintro ⟨rfl, q⟩; rcases hlow with rfl | rfl <;> simp [upC] at q
    have tup : Txt.upper (mkS [l]) = mkS [upC l] := upper_sign hlow.sign
    have hsz : (d.map (·.1)).length ≤ sizeLine := by simp; rw [sizeLine_eq]; omega
    show Exs W F _ (_ :: _) _ _
    by_cases h1 : c = l
    · have h2 : ¬ c = upC l := fun q => hne ⟨h1, q⟩
      refine Exs.cons (Ex.ite (c := true) (Ts.cast (Ts.cmp (Ev.item (Ev.name rfl) (Ev.name rfl) (GI.strN (by omega) hwk)) (Ev.name rfl) V2.eqS) (decide_eq_true (by rw [h1]))) (fun _ => Exs.cons (Ex.setDict (ks := d.map (·.1)) (ds := (d.map (·.2)).map .int) (k := z.take k) (d := .int 1) rfl (Ev.strTo (Ev.name rfl) (Ev.name rfl) szz) Ev.int hsz) Exs.nil) (fun q => nomatch q)) ?_
      refine Exs.forget (Exs.cons (Ex.ite (c := false) (Ts.cast (Ts.cmp (Ev.item (Ev.name rfl) (Ev.name rfl) (GI.strN (by omega) hwk)) (Ev.upper (l := [l]) rfl (Ev.name rfl) tup (by show 1 ≤ sizeLine; decide)) V2.eqS) (decide_eq_false fun q => h2 (List.cons.inj q).1)) (fun q => nomatch q) (fun _ => Exs.nil)) Exs.nil) ⟨rfl, rfl, rfl, rfl, rfl, rfl, rfl, ?_, trivial⟩
      unfold due1; rw [if_neg h2, if_pos h1, ← dT_put]; rfl
    · refine Exs.cons (Ex.ite (c := false) (Ts.cast (Ts.cmp (Ev.item (Ev.name rfl) (Ev.name rfl) (GI.strN (by omega) hwk)) (Ev.name rfl) V2.eqS) (decide_eq_false fun q => h1 (List.cons.inj q).1)) (fun q => nomatch q) (fun _ => Exs.nil)) ?_
      by_cases h2 : c = upC l
      · refine Exs.forget (Exs.cons (Ex.ite (c := true) (Ts.cast (Ts.cmp (Ev.item (Ev.name rfl) (Ev.name rfl) (GI.strN (by omega) hwk)) (Ev.upper (l := [l]) rfl (Ev.name rfl) tup (by show 1 ≤ sizeLine; decide)) V2.eqS) (decide_eq_true (by rw [h2]))) (fun _ => Exs.cons (Ex.setDict (ks := d.map (·.1)) (ds := (d.map (·.2)).map .int) (k := z.take (k + 1)) (d := .int (-1)) rfl (Ev.strTo (b := k + 1) (Ev.name rfl) (Ev.bin (Ev.name rfl) Ev.int V2.addI) szz) (Ev.un Ev.int V1.negI) hsz) Exs.nil) (fun q => nomatch q)) Exs.nil) ⟨rfl, rfl, rfl, rfl, rfl, rfl, rfl, ?_, trivial⟩
        unfold due1; rw [if_pos h2, if_neg h1, ← dT_put]; rfl
      · refine Exs.forget (Exs.cons (Ex.ite (c := false) (Ts.cast (Ts.cmp (Ev.item (Ev.name rfl) (Ev.name rfl) (GI.strN (by omega) hwk)) (Ev.upper (l := [l]) rfl (Ev.name rfl) tup (by show 1 ≤ sizeLine; decide)) V2.eqS) (decide_eq_false fun q => h2 (List.cons.inj q).1)) (fun q => nomatch q) (fun _ => Exs.nil)) Exs.nil) ⟨rfl, rfl, rfl, rfl, rfl, rfl, rfl, ?_, trivial⟩
        unfold due1; rw [if_neg h2, if_neg h1]; rfl
end
end Mine

namespace Mine

/-! ## law: the two turns over the letters, the end -/
noncomputable def wh1 (l : Nat) (k : List Nat) (v : Int) (wh : Tab) : Tab := addT (addT wh [(rep1 (k ++ [l]), v)]) [(k, -v)]
noncomputable def whT (l : Nat) : Tab → Tab → Tab
  | [], wh => wh
  | (k, v) :: r, wh => whT l r (wh1 l k v wh)
theorem wh1_length (l : Nat) (k : List Nat) (v : Int) (wh : Tab) : (wh1 l k v wh).length ≤ wh.length + 2 := by
  have a := addT_length wh [(rep1 (k ++ [l]), v)]
  have b := addT_length (addT wh [(rep1 (k ++ [l]), v)]) [(k, -v)]
  unfold wh1
  simp only [List.length_cons, List.length_nil] at a b
  omega
theorem whT_length (l : Nat) : ∀ (t wh : Tab), (whT l t wh).length ≤ wh.length + 2 * t.length
  | [], wh => by simp [whT]
  | (k, v) :: r, wh => by
    have a := whT_length l r (wh1 l k v wh)
    have b := wh1_length l k v wh
    simp only [whT, List.length_cons]; omega
noncomputable def dEqT (s t : Tab) : Bool := dEq (s.map (·.1)) (s.map (·.2)) (t.map (·.1)) (t.map (·.2))
noncomputable def endsT (z : List Nat) : Tab := if z = [] then [] else [(z, 1), ([], -1)]

/-- what a turn asks of a letter's book -/
structure Turn (w z : List Nat) (x : Bk) (l : Nat) : Prop where
  q1 : x.1.1 = cntL l w
  q2 : x.1.2.1 = (spI l w).length
  q3 : x.1.2.2.1 = 2 * (cntL l w : Int) - (spI l w).length
  q4 : x.1.2.2.2 = (spI l w).sum
  sum : (x.2.map (·.2)).sum = 2 * (cntL l w : Int) - (spI l w).length
  due : dEqT (noT x.2) (dueT l z 0 z []) = true
  nodup : (x.2.map (·.1)).Nodup
  signs : ∀ p ∈ x.2, Signs p.1
  short : ∀ p ∈ x.2, p.1.length ≤ 100
  few : x.2.length ≤ 100

theorem noT_length (t : Tab) : (noT t).length ≤ t.length := List.length_filter_le ..

section
variable {W : Wd}
set_option maxRecDepth 100000 in
set_option maxHeartbeats 4000000 in
theorem law_whole (T : Top1 W) {F : Fc} (L : LawF F) (w z : List Nat) (b : Bk × Bk) (l : Nat) (hlow : isLow l) (t : Tab) (hn : (t.map (·.1)).Nodup) (hsg : ∀ p ∈ t, Signs p.1) (hsh : ∀ p ∈ t, p.1.length ≤ 100) : ∀ (r wh : Tab), (∀ p ∈ r, p ∈ t) → wh.length + 2 * r.length ≤ 9000 →
    LoopR W F "spot" (loopBody (stAt (loopBody (stAt (fnBody 17) 15)) 8)) ((r.map (·.1)).map .str) (lawS8 w z b wh l t) (lawS8 w z b (whT l r wh) l t) .next
  | [], wh, _, _ => .nil
  | (k, v) :: r, wh, hm, hl => by
    simp only [List.length_cons] at hl
    have hmem := hm _ (.head _)
    have hk : Signs (k ++ [l]) := fun d hd => by
      rcases List.mem_append.mp hd with hd | hd
      · exact hsg _ hmem d hd
      · rw [List.mem_singleton.mp hd]; exact hlow.sign
    have hkl := hsh _ hmem
    simp only at hkl
    have hlk : lookD (t.map (·.1)) ((t.map (·.2)).map .int) k = some (.int v) := by rw [lookT_eq, lookT_mem hn hmem]; rfl
    have h1 := wh1_length l k v wh
    have h2 := addT_length wh [(rep1 (k ++ [l]), v)]
    simp only [List.length_cons, List.length_nil] at h2
    have ih := law_whole T L w z b l hlow t hn hsg hsh r (wh1 l k v wh) (fun p hp => hm p (.tail _ hp)) (by omega)
    refine LoopR.cons (ρ₁ := lawS8 w z b (wh1 l k v wh) l t) ?_ ih
    show Exs W F _ (_ :: _) _ _
    refine Exs.cons (Ex.assign (d := dT (addT wh [(rep1 (k ++ [l]), v)])) (Ev.call (ds := [dT wh, dT [(rep1 (k ++ [l]), v)]]) (.cons (Ev.name rfl) (.cons (EvO.dict1 (x1 := rep1 (k ++ [l])) (d1 := .int v) (Ev.call (ds := .str (k ++ [l]) :: (pairsD ++ [])) (.cons (Ev.bin (Ev.name rfl) (Ev.name rfl) (V2.addS (by rw [sizeLine_eq]; simp; omega))) (EvL.starM rfl (by decide) .nil))
      (by rw [L.lvl, List.append_nil]; exact (replace_ok T (k ++ [l]) hk (by simp; omega)).up (by decide)) (Fc.kind L.he (by decide +kernel))) (Ev.item (d₁ := dT t) (Ev.name rfl) (Ev.name rfl) (GI.dict hlk))).ev .nil))
      (by rw [L.lvl]; exact (callers_ok T wh [(rep1 (k ++ [l]), v)] (by simp; omega)).up (by decide)) (Fc.kind L.he (by decide +kernel))) (Fc.loc L.he (by decide +kernel))) ?_
    exact Exs.forget (Exs.cons (Ex.assign (d := dT (wh1 l k v wh)) (Ev.call (ds := [dT (addT wh [(rep1 (k ++ [l]), v)]), dT [(k, -v)]]) (.cons (Ev.name rfl) (.cons (EvO.dict1 (x1 := k) (d1 := .int (-v)) (Ev.name rfl) (Ev.un (Ev.item (d₁ := dT t) (Ev.name rfl) (Ev.name rfl) (GI.dict hlk)) V1.negI)).ev .nil))
      (by rw [L.lvl]; exact (callers_ok T (addT wh [(rep1 (k ++ [l]), v)]) [(k, -v)] (by simp; omega)).up (by decide)) (Fc.kind L.he (by decide +kernel))) (Fc.loc L.he (by decide +kernel))) Exs.nil) ⟨rfl, rfl, rfl, rfl, rfl, rfl, rfl, trivial⟩

set_option maxRecDepth 100000 in
set_option maxHeartbeats 4000000 in
theorem law_turn (T : Top1 W) {F : Fc} (L : LawF F) (w z : List Nat) (b : Bk × Bk) (wh : Tab) (l : Nat) (hlow : isLow l) (hs : Signs w) (hw : w.length ≤ 13) (hz : z.length ≤ 13) (H : Turn w z (getB l b) l) (hwh : wh.length ≤ 1000) :
    Exs W F ((lawS7 w z b wh).set "letter" (.imm (.str [l]))) (loopBody (stAt (fnBody 17) 15)) (lawS7 w z b (whT l (getB l b).2 wh)) .next := by
  obtain ⟨cw, h1⟩ := L.word
  obtain ⟨cl, h2⟩ := L.letter
  have hne : cw ≠ cl := L.ne cw cl h1 h2
  have szw : w.length ≤ sizeLine := by rw [sizeLine_eq]; omega
  have szz : z.length ≤ sizeLine := by rw [sizeLine_eq]; omega
  have hsl : (spI l w).length ≤ 13 := by
    unfold spI spotsOf
    rw [List.length_map]
    have := List.length_filter_le (fun k => decide (lowC (w.getD k 0) = l)) (List.range w.length)
    rw [List.length_range] at this; omega
  have szs : ((spI l w).map D.int).length ≤ sizeLine := by rw [List.length_map, sizeLine_eq]; omega
  have bookE : ∀ {ρ : Sto} p1 p2 p3, ρ.get "book" = some (.mu (bookD b)) → ρ.get "letter" = some (.imm (.str [l])) → Ev W F ρ (.Subscript (.Name "book" p1) (.Name "letter" p2) p3) (bkD (getB l b)) := fun p1 p2 p3 e1 e2 => Ev.itemM (d₁ := bookD b) e1 (Ev.name e2) (MI.dict (look_b hlow b))
  obtain ⟨q1, q2, q3, q4, hsum, hdue, hnd, hsg, hsh, hfew⟩ := H
  generalize getB l b = x at *
  show Exs W F _ (_ :: _) _ _
  refine Exs.cons (Ex.assign (d := dT x.2) (Ev.item (d₁ := bkD x) (bookE _ _ _ rfl rfl) Ev.int (GI.tupN (by decide) (by decide) rfl)) (Fc.loc L.he (by decide +kernel))) ?_
  refine Exs.weaken (ρ₁ := lawS8 w z b wh l x.2) ⟨rfl, rfl, rfl, rfl, rfl, rfl, rfl, trivial⟩ ?_
  refine Exs.cons (law_spots T L h1 h2 hne w z b wh x.2 l hs hw) ?_
  refine Exs.cons (Ex.assign (d := .int (cntL l w : Int)) (Ev.cast (Ev.count (l := w) (y := [l]) rfl (Ev.name rfl) (Ev.name rfl)) (by rw [count_sign])) (Fc.loc L.he (by decide +kernel))) ?_
  have lenS : ∀ {ρ : Sto} p1 p2 p3, ρ.get "spots" = some (.imm (.list ((spI l w).map .int))) → Ev W F ρ (.Call (.Name "len" p1) [.Name "spots" p2] [] p3) (.int ((spI l w).length)) := fun p1 p2 p3 e => Ev.cast (Ev.builtin1 (Ev.name e) (V1.lenL szs) boot_len (T.free _ (by simp)) (by decide) (Fc.kind L.he (by decide +kernel))) (by rw [List.length_map])
  refine Exs.cons (Ex.ite (c := false) (Ts.cast (Ts.cmp (Ev.tupTo4 (d0 := .int x.1.1) (d1 := .int x.1.2.1) (d2 := .int x.1.2.2.1) (d3 := .int x.1.2.2.2) (d4 := dT x.2) (bookE _ _ _ rfl rfl) Ev.int)
    (Ev.tuple (.cons (Ev.name rfl) (.cons (lenS _ _ _ rfl) (.cons (Ev.bin (Ev.bin Ev.int (Ev.name rfl) (V2.mulI (.inl (by decide)))) (lenS _ _ _ rfl) V2.subI) (.cons (Ev.builtin1 (Ev.name rfl) V1.sum boot_sum (T.free _ (by simp)) (by decide) (Fc.kind L.he (by decide +kernel))) .nil)))) (by show 4 ≤ sizeLine; decide)) V2.neT4) (by simp [q1, q2, q3, q4])) (fun q => nomatch q) (fun _ => Exs.nil)) ?_
  refine Exs.cons (Ex.ite (c := false) (Ts.cast (Ts.cmp (Ev.call (ds := [dT x.2]) (.cons (Ev.name rfl) .nil) (by rw [L.lvl]; exact (count_ok T x.2).up (by decide)) (Fc.kind L.he (by decide +kernel))) (Ev.bin (Ev.bin Ev.int (Ev.name rfl) (V2.mulI (.inl (by decide)))) (lenS _ _ _ rfl) V2.subI) V2.neI) (by simp [hsum])) (fun q => nomatch q) (fun _ => Exs.nil)) ?_
  refine Exs.cons (Ex.assignO (d := dT []) EvO.dict0 (Fc.loc L.he (by decide +kernel))) ?_
  refine Exs.weaken (ρ₁ := lawS9 w z b wh l x.2 []) ⟨rfl, rfl, rfl, rfl, rfl, rfl, rfl, rfl, trivial⟩ ?_
  refine Exs.cons (ρ₁ := lawS9 w z b wh l x.2 (dueT l z 0 z [])) (Ex.forName (It.range1 (n := z.length) (Ev.builtin1 (Ev.name rfl) (V1.len szz) boot_len (T.free _ (by simp)) (by decide) (Fc.kind L.he (by decide +kernel))) szz boot_range (T.free _ (by simp)) (by decide) (Fc.kind L.he (by decide +kernel)))
    (by rw [List.range_eq_range']; exact law_due L w z b wh x.2 l hlow (by omega) z 0 [] (fun i c hi => by rw [Nat.zero_add]; exact hi) (by omega) (by simp; omega)) (Fc.loc L.he (by decide +kernel))) ?_
  refine Exs.freeze (x := "due") (d := dT (dueT l z 0 z [])) rfl ?_
  refine Exs.cons (Ex.ite (c := false) (Ts.cast (Ts.cmp (Ev.call (ds := [dT x.2]) (d := dT (noT x.2)) (.cons (Ev.name rfl) .nil) (by rw [L.lvl]; exact (nought_ok T x.2 (by omega)).up (by decide)) (Fc.kind L.he (by decide +kernel))) (Ev.name rfl) V2.neD) (by
    have : dEq ((noT x.2).map (·.1)) ((noT x.2).map (·.2)) ((dueT l z 0 z []).map (·.1)) ((dueT l z 0 z []).map (·.2)) = true := hdue
    rw [this]; rfl)) (fun q => nomatch q) (fun _ => Exs.nil)) ?_
  refine Exs.weaken (ρ₁ := lawS8 w z b wh l x.2) ⟨rfl, rfl, rfl, rfl, rfl, rfl, rfl, trivial⟩ ?_
  have ite : ∀ p, It W F (lawS8 w z b wh l x.2) (.Name "table" p) ((x.2.map (·.1)).map .str) := fun p => It.dict (ks := x.2.map (·.1)) (ds := (x.2.map (·.2)).map .int) (Ev.name rfl)
  exact Exs.forget (Exs.cons (ρ₁ := lawS8 w z b (whT l x.2 wh) l x.2) (Ex.forName (ite _) (law_whole T L w z b l hlow x.2 hnd hsg hsh x.2 wh (fun p hp => hp) (by omega)) (Fc.loc L.he (by decide +kernel))) Exs.nil) ⟨rfl, rfl, rfl, rfl, rfl, trivial⟩

set_option maxRecDepth 100000 in
set_option maxHeartbeats 4000000 in
/-- statements 13 to 17 -/
theorem law_13to17 (T : Top1 W) {F : Fc} (L : LawF F) (w z : List Nat) (b : Bk × Bk) (hs : Signs w) (hw : w.length ≤ 13) (hz : z.length ≤ 13) (H1 : Turn w z b.1 97) (H2 : Turn w z b.2 98)
    (hend : dEqT (noT (whT 98 b.2.2 (whT 97 b.1.2 []))) (endsT z) = true) : Exs W F (lawS4 w z z b) ((fnBody 17).drop 13) [] (.ret (.bool true)) := by
  have f1 := H1.few
  have f2 := H2.few
  have wl1 := whT_length 97 b.1.2 []
  have wl2 := whT_length 98 b.2.2 (whT 97 b.1.2 [])
  simp only [List.length_nil] at wl1
  show Exs W F _ (_ :: _) _ _
  refine Exs.cons (Ex.ite (c := false) (Ts.cast (Ts.cmp (Ev.name rfl) (Ev.name rfl) V2.neS) (by simp)) (fun q => nomatch q) (fun _ => Exs.nil)) ?_
  refine Exs.cons (Ex.assign (d := dT []) EvO.dict0.ev (Fc.loc L.he (by decide +kernel))) ?_
  refine Exs.weaken (ρ₁ := lawS7 w z b []) ⟨rfl, rfl, rfl, rfl, rfl, trivial⟩ ?_
  have t1 := law_turn T L w z b [] 97 (.inl rfl) hs hw hz H1 (by simp)
  have t2 := law_turn T L w z b (whT 97 b.1.2 []) 98 (.inr rfl) hs hw hz H2 (by omega)
  refine Exs.cons (ρ₁ := lawS7 w z b (whT 98 b.2.2 (whT 97 b.1.2 []))) (Ex.forName (It.str Ev.sab) (LoopR.cons t1 (LoopR.cons t2 LoopR.nil)) L.letterS) ?_
  refine Exs.cons (Ex.assign (d := dT (endsT z)) (Ev.ite (c := decide (z = [])) (Ts.cmp (Ev.name rfl) Ev.s0 V2.eqS) (fun q => ?_) (fun q => ?_)) (Fc.loc L.he (by decide +kernel))) ?_
  · unfold endsT; rw [if_pos (by simpa using q)]; exact EvO.dict0.ev
  · have q := of_decide_eq_false q
    unfold endsT; rw [if_neg q]; exact (EvO.dict2 (Ev.name rfl) Ev.int Ev.s0 (Ev.un Ev.int V1.negI) q).ev
  refine Exs.ret (ρ₁ := []) (Ex.retV (Ev.cast (Ev.cmp (Ev.call (ds := [dT (whT 98 b.2.2 (whT 97 b.1.2 []))]) (d := dT (noT (whT 98 b.2.2 (whT 97 b.1.2 [])))) (.cons (Ev.name rfl) .nil) (by rw [L.lvl]; exact (nought_ok T _ (by omega)).up (by decide)) (Fc.kind L.he (by decide +kernel))) (Ev.name rfl) V2.eqD) ?_))
  exact congrArg D.bool hend
end
end Mine

namespace Mine

/-! ## the plain law of tables -/
noncomputable def pair (t : Tab) (φ : List Nat → Int) : Int := (t.map fun p => p.2 * φ p.1).sum
abbrev Nd (t : Tab) : Prop := (t.map (·.1)).Nodup
theorem pair_cons (k : List Nat) (v : Int) (t : Tab) (φ : List Nat → Int) : pair ((k, v) :: t) φ = v * φ k + pair t φ := by simp [pair]
theorem pair_nil (φ : List Nat → Int) : pair [] φ = 0 := rfl

theorem putT_new : ∀ {t : Tab} {x : List Nat} {e : Int}, x ∉ t.map (·.1) → putT t x e = t ++ [(x, e)]
  | [], x, e, _ => rfl
  | (k, v) :: r, x, e, h => by
    simp only [List.map_cons, List.mem_cons, not_or] at h
    rw [putT, if_neg (Ne.symm h.1), putT_new h.2]; rfl
theorem pair_append (t s : Tab) (φ : List Nat → Int) : pair (t ++ s) φ = pair t φ + pair s φ := by simp [pair]
theorem nd_snoc {t : Tab} {x : List Nat} {e : Int} (h : Nd t) (hx : x ∉ t.map (·.1)) : Nd (t ++ [(x, e)]) := by
  unfold Nd
  rw [List.map_append]
  refine List.nodup_append.mpr ⟨h, by simp, fun a ha b hb => ?_⟩
  have : b = x := by simpa using hb
  subst this
  exact fun q => hx (q ▸ ha)
theorem lookT_none : ∀ {t : Tab} {x : List Nat}, lookT t x = none ↔ x ∉ t.map (·.1)
  | [], x => by simp [lookT]
  | (k, v) :: r, x => by
    rw [lookT]
    by_cases q : k = x
    · subst q; simp
    · rw [if_neg q, lookT_none]
      simp only [List.map_cons, List.mem_cons, not_or]
      exact ⟨fun h => ⟨Ne.symm q, h⟩, fun h => h.2⟩
theorem putT_old : ∀ {t : Tab} {x : List Nat} {e v : Int}, lookT t x = some v → (putT t x e).map (·.1) = t.map (·.1) ∧ ∀ φ, pair (putT t x e) φ = pair t φ + (e - v) * φ x
  | [], x, e, v, h => by simp [lookT] at h
  | (k, u) :: r, x, e, v, h => by
    rw [lookT] at h
    by_cases q : k = x
    · subst q
      rw [if_pos rfl] at h
      obtain rfl := Option.some.inj h
      rw [putT, if_pos rfl]
      refine ⟨rfl, fun φ => ?_⟩
      rw [pair_cons, pair_cons, Int.sub_mul]; omega
    · rw [if_neg q] at h
      obtain ⟨h1, h2⟩ := putT_old (e := e) h
      rw [putT, if_neg q]
      refine ⟨by simp only [List.map_cons, h1], fun φ => ?_⟩
      rw [pair_cons, pair_cons, h2]; omega

theorem foldl_put : ∀ {r n : Tab}, Nd (n ++ r) → r.foldl (fun n p => putT n p.1 p.2) n = n ++ r
  | [], n, _ => by simp
  | (k, v) :: r, n, h => by
    have hk : k ∉ n.map (·.1) := by
      unfold Nd at h
      rw [List.map_append] at h
      exact fun q => (List.nodup_append.mp h).2.2 _ q _ (.head _) rfl
    rw [List.foldl_cons, putT_new hk, foldl_put (by simpa using h)]
    simp
theorem copyT_eq {t : Tab} (h : Nd t) : copyT t = t := foldl_put (n := []) (by simpa using h)

theorem addT_one {t : Tab} (h : Nd t) (k : List Nat) (v : Int) : addT t [(k, v)] = addT1 t k v := by
  unfold addT; rw [copyT_eq h]; rfl
theorem addT1_nd {t : Tab} (h : Nd t) (k : List Nat) (v : Int) : Nd (addT1 t k v) := by
  unfold addT1
  split
  · rename_i v0 q; unfold Nd; rw [(putT_old q).1]; exact h
  · rename_i q; rw [putT_new (lookT_none.mp q)]; exact nd_snoc h (lookT_none.mp q)
theorem addT1_pair (t : Tab) (k : List Nat) (v : Int) (φ : List Nat → Int) : pair (addT1 t k v) φ = pair t φ + v * φ k := by
  unfold addT1
  split
  · rename_i v0 q
    rw [(putT_old q).2]
    congr 2; omega
  · rename_i q
    rw [putT_new (lookT_none.mp q), pair_append, pair_cons, pair_nil]; omega
theorem addT1_keys {t : Tab} {k : List Nat} {v : Int} {P : List Nat → Prop} (h : ∀ p ∈ t, P p.1) (hk : P k) : ∀ p ∈ addT1 t k v, P p.1 := by
  have key : ∀ x ∈ (addT1 t k v).map (·.1), P x := by
    unfold addT1
    split
    · rename_i v0 q
      rw [(putT_old q).1]
      intro x hx
      obtain ⟨p, hp, rfl⟩ := List.mem_map.mp hx
      exact h p hp
    · rename_i q
      rw [putT_new (lookT_none.mp q)]
      intro x hx
      obtain ⟨p, hp, rfl⟩ := List.mem_map.mp hx
      rcases List.mem_append.mp hp with hp | hp
      · exact h p hp
      · rw [List.mem_singleton.mp hp]; exact hk
  exact fun p hp => key _ (List.mem_map_of_mem (f := (·.1)) hp)

noncomputable def del (g k : List Nat) : Int := if k = g then 1 else 0
theorem pair_none : ∀ {t : Tab} {g : List Nat}, g ∉ t.map (·.1) → pair t (del g) = 0
  | [], g, _ => rfl
  | (k, v) :: r, g, h => by
    simp only [List.map_cons, List.mem_cons, not_or] at h
    rw [pair_cons, pair_none h.2, del, if_neg (Ne.symm h.1)]; omega
theorem valT_pair : ∀ {t : Tab}, Nd t → ∀ g, valT t g = pair t (del g)
  | [], _, g => rfl
  | (k, v) :: r, h, g => by
    simp only [Nd, List.map_cons, List.nodup_cons] at h
    rw [pair_cons, valT, lookT]
    by_cases q : k = g
    · subst q
      rw [if_pos rfl, pair_none h.1, del, if_pos rfl]; simp
    · rw [if_neg q, del, if_neg q]
      have := valT_pair h.2 g
      rw [valT] at this
      rw [this]; omega

theorem nodup_le {α : Type} [DecidableEq α] : ∀ {l m : List α}, l.Nodup → (∀ x ∈ l, x ∈ m) → l.length ≤ m.length
  | [], m, _, _ => Nat.zero_le _
  | a :: l, m, hn, h => by
    obtain ⟨h1, h2⟩ := List.nodup_cons.mp hn
    have ha := h a (.head _)
    have := nodup_le (m := m.erase a) h2 fun x hx => by
      have hne : x ≠ a := by rintro rfl; exact h1 hx
      exact (List.mem_erase_of_ne hne).mpr (h x (.tail _ hx))
    rw [List.length_erase_of_mem ha] at this
    have hp := List.length_pos_of_mem ha
    simp only [List.length_cons]; omega

theorem lookI_eq : ∀ (t : Tab) (k : List Nat), lookI (t.map (·.1)) (t.map (·.2)) k = lookT t k
  | [], k => rfl
  | (x, v) :: r, k => by
    simp only [List.map_cons, lookI, lookT]
    split
    · rfl
    · exact lookI_eq r k
theorem zip_keys : ∀ (t : Tab), (t.map (·.1)).zip (t.map (·.2)) = t
  | [] => rfl
  | (x, v) :: r => by simp only [List.map_cons, List.zip_cons_cons, zip_keys r]

theorem dEqT_of {s t : Tab} (hs : Nd s) (ht : Nd t) (zs : ∀ p ∈ s, p.2 ≠ 0) (zt : ∀ p ∈ t, p.2 ≠ 0) (h : ∀ g, valT s g = valT t g) : dEqT s t = true := by
  have sub : ∀ {s t : Tab}, Nd s → (∀ p ∈ s, p.2 ≠ 0) → (∀ g, valT s g = valT t g) → ∀ p ∈ s, lookT t p.1 = some p.2 := by
    intro s t hs zs h p hp
    have e := h p.1
    have l1 := lookT_mem hs hp
    rw [valT, l1, valT] at e
    cases q : lookT t p.1 with
    | none => rw [q] at e; exact absurd e (zs p hp)
    | some v => rw [q] at e; simp at e; rw [e]
  have mem : ∀ {t : Tab} {k : List Nat} {v : Int}, lookT t k = some v → k ∈ t.map (·.1) := fun {t k v} q => by
    by_cases z : k ∈ t.map (·.1)
    · exact z
    · rw [lookT_none.mpr z] at q; cases q
  have l1 := sub hs zs h
  have l2 := sub ht zt fun g => (h g).symm
  have le1 := nodup_le hs (m := t.map (·.1)) fun x hx => by
    obtain ⟨p, hp, rfl⟩ := List.mem_map.mp hx
    exact mem (l1 p hp)
  have le2 := nodup_le ht (m := s.map (·.1)) fun x hx => by
    obtain ⟨p, hp, rfl⟩ := List.mem_map.mp hx
    exact mem (l2 p hp)
  unfold dEqT dEq
  rw [zip_keys]
  refine Bool.and_eq_true_iff.mpr ⟨by simp at le1 le2 ⊢; omega, List.all_eq_true.mpr fun p hp => ?_⟩
  rw [lookI_eq, l1 p hp]; simp

theorem noT_nd {t : Tab} (h : Nd t) : Nd (noT t) := List.Sublist.nodup (List.Sublist.map _ List.filter_sublist) h
theorem noT_pair (φ : List Nat → Int) : ∀ (t : Tab), pair (noT t) φ = pair t φ
  | [] => rfl
  | (k, v) :: r => by
    have ih := noT_pair φ r
    unfold noT at ih ⊢
    rw [List.filter_cons]
    by_cases q : v = 0
    · subst q; simp only [ne_eq, not_true_eq_false, decide_false, Bool.false_eq_true, if_false]; rw [pair_cons, ih]; omega
    · simp only [ne_eq, q, not_false_eq_true, decide_true, if_true]; rw [pair_cons, pair_cons, ih]
theorem noT_nz (t : Tab) : ∀ p ∈ noT t, p.2 ≠ 0 := fun p hp => by
  have := (List.mem_filter.mp hp).2
  simpa using this
/-- two tables that pair alike are equal but for noughts -/
theorem dEqT_pair {s t : Tab} (hs : Nd s) (ht : Nd t) (zt : ∀ p ∈ t, p.2 ≠ 0) (h : ∀ φ, pair s φ = pair t φ) : dEqT (noT s) t = true :=
  dEqT_of (noT_nd hs) ht (noT_nz s) zt fun g => by rw [valT_pair (noT_nd hs), valT_pair ht, noT_pair, h]
end Mine

namespace Mine

/-! ## the plain law of Fox's derivatives -/
/-- one letter's part -/
noncomputable def fox1 (l : Nat) (φ : List Nat → Int) (p : List Nat) (c : Nat) : Int := if lowC c = l then (if c = lowC c then φ p else - φ (pushR p c)) else 0
noncomputable def foxS (l : Nat) (φ : List Nat → Int) : List Nat → List Nat → Int
  | _, [] => 0
  | p, c :: r => fox1 l φ p c + foxS l φ (pushR p c) r
noncomputable def plc : List Nat → List Nat → List Nat
  | p, [] => p
  | p, c :: r => plc (pushR p c) r
structure Pl (p : List Nat) : Prop where
  red : Red p
  signs : Signs p
theorem Pl.push {p : List Nat} {c : Nat} (h : Pl p) (hc : isSign c) : Pl (pushR p c) := ⟨pushR_red h.red h.signs hc, pushR_signs h.signs hc⟩
theorem Pl.nil : Pl [] := ⟨trivial, fun c hc => nomatch hc⟩

theorem sign_cases {c : Nat} (h : isSign c) : (c = lowC c ∧ lowC (invC c) = lowC c ∧ invC c ≠ lowC c ∧ invC c = upC (lowC c)) ∨ (c ≠ lowC c ∧ invC c = lowC c ∧ lowC (invC c) = lowC c ∧ c = upC (lowC c)) := by
  rcases h with rfl | rfl | rfl | rfl <;> simp [lowC, invC, upC]

theorem fox1_back {l : Nat} {φ : List Nat → Int} {p : List Nat} {c : Nat} (h : Pl p) (hc : isSign c) : fox1 l φ p c + fox1 l φ (pushR p c) (invC c) = 0 := by
  have hb := pushR_back h.red h.signs hc
  unfold fox1
  rcases sign_cases hc with ⟨h1, h2, h3, _⟩ | ⟨h1, h2, h3, _⟩
  · rw [h2, hb, if_neg h3, if_pos h1]
    split <;> omega
  · rw [h3, if_pos h2, if_neg h1]
    split <;> omega
theorem foxS_rm2 {l : Nat} {φ : List Nat → Int} {c : Nat} (hc : isSign c) : ∀ (x p : List Nat), Signs x → Pl p → foxS l φ p (rm2 c (invC c) x) = foxS l φ p x
  | [], p, _, _ => rfl
  | [a], p, _, _ => rfl
  | a :: b :: r, p, hs, hp => by
    have ha := hs a (.head _)
    rw [rm2]
    split
    · rename_i q
      obtain ⟨rfl, rfl⟩ := q
      rw [foxS_rm2 hc r p (fun d hd => hs d (.tail _ (.tail _ hd))) hp]
      have := fox1_back (l := l) (φ := φ) hp ha
      rw [foxS, foxS, pushR_back hp.red hp.signs ha]
      omega
    · rw [foxS, foxS_rm2 hc (b :: r) (pushR p a) (fun d hd => hs d (.tail _ hd)) (hp.push ha)]
      rfl
theorem plc_rm2 {c : Nat} (hc : isSign c) : ∀ (x p : List Nat), Signs x → Pl p → plc p (rm2 c (invC c) x) = plc p x
  | [], p, _, _ => rfl
  | [a], p, _, _ => rfl
  | a :: b :: r, p, hs, hp => by
    have ha := hs a (.head _)
    rw [rm2]
    split
    · rename_i q
      obtain ⟨rfl, rfl⟩ := q
      rw [plc_rm2 hc r p (fun d hd => hs d (.tail _ (.tail _ hd))) hp, plc, plc, pushR_back hp.red hp.signs ha]
    · rw [plc, plc_rm2 hc (b :: r) (pushR p a) (fun d hd => hs d (.tail _ hd)) (hp.push ha)]
      rfl
theorem Rw.fox {w z : List Nat} (q : Rw w z) (hs : Signs w) (l : Nat) (φ : List Nat → Int) : foxS l φ [] z = foxS l φ [] w := by
  have := q.keep (α := {p : List Nat // Pl p} → Int) (fun x p => foxS l φ p.1 x) (fun c x hc hx => funext fun p => foxS_rm2 hc x p.1 hx p.2) hs
  exact congrFun this ⟨[], Pl.nil⟩
theorem Rw.plc {w z : List Nat} (q : Rw w z) (hs : Signs w) : plc [] z = plc [] w := by
  have := q.keep (α := {p : List Nat // Pl p} → List Nat) (fun x p => Mine.plc p.1 x) (fun c x hc hx => funext fun p => plc_rm2 hc x p.1 hx p.2) hs
  exact congrFun this ⟨[], Pl.nil⟩

theorem push_red {p r : List Nat} {c : Nat} (h : Red (p ++ c :: r)) (hc : isSign c) : pushR p c = p ++ [c] := by
  unfold pushR
  split
  · rename_i q
    have e := getLast_split q
    exfalso
    rw [e] at h
    have := Red.get p.dropLast.length (invC c) h
    rw [invC_invC hc, List.append_assoc, List.drop_left] at this
    exact this rfl
  · rfl
theorem plc_red : ∀ (r p : List Nat), Red (p ++ r) → Signs r → plc p r = p ++ r
  | [], p, _, _ => by simp [plc]
  | c :: r, p, h, hs => by
    have hc := hs c (.head _)
    rw [plc, push_red h hc, plc_red r (p ++ [c]) (by simpa using h) (fun d hd => hs d (.tail _ hd))]
    simp

/-! ### the walk -/
noncomputable def KeyOK (n : Nat) (k : List Nat) : Prop := Pl k ∧ k.length ≤ n
structure TabOK (n : Nat) (t : Tab) : Prop where
  nd : Nd t
  keys : ∀ p ∈ t, KeyOK n p.1
theorem TabOK.add {n : Nat} {t : Tab} (h : TabOK n t) {k : List Nat} {v : Int} (hk : KeyOK n k) : TabOK n (addT t [(k, v)]) := by
  rw [addT_one h.nd]
  exact ⟨addT1_nd h.nd k v, addT1_keys h.keys hk⟩
theorem TabOK.pair {n : Nat} {t : Tab} (h : TabOK n t) (k : List Nat) (v : Int) (φ : List Nat → Int) : Mine.pair (addT t [(k, v)]) φ = Mine.pair t φ + v * φ k := by
  rw [addT_one h.nd, addT1_pair]
theorem TabOK.nil (n : Nat) : TabOK n [] := ⟨by simp [Nd], fun p hp => nomatch hp⟩

theorem getB_put {l m : Nat} (hl : isLow l) (hm : isLow m) (x : Bk) (b : Bk × Bk) : getB l (putB m x b) = if m = l then x else getB l b := by
  rcases hl with rfl | rfl <;> rcases hm with rfl | rfl <;> simp [getB, putB]

/-- what a step of the walk does to a letter's book -/
theorem stepB_get {l k c : Nat} {p : List Nat} {b : Bk × Bk} (hl : isLow l) (hc : isSign c) (hp : Pl p) : getB l (stepB k p c b) = if lowC c = l then bkAdd (getB l b) (entryOf k p (pushR p c) c) else getB l b := by
  unfold stepB
  rw [getB_put hl (lowC_low hc), rep1_push hp.red hp.signs hc]
  split
  · rename_i q; rw [q]
  · rfl
theorem entry_tab (k : Nat) (p q : List Nat) (c : Nat) : (entryOf k p q c).2 = if c = lowC c then [(p, 1)] else [(q, -1)] := by
  unfold entryOf; split <;> rfl

theorem walk_tab {l : Nat} (hl : isLow l) {n : Nat} : ∀ (r : List Nat) (k : Nat) (p : List Nat) (b : Bk × Bk), Signs r → Pl p → p.length + r.length ≤ n → TabOK n (getB l b).2 →
    (walkB k p r b).1 = plc p r ∧ TabOK n (getB l (walkB k p r b).2).2 ∧ (∀ φ, pair (getB l (walkB k p r b).2).2 φ = pair (getB l b).2 φ + foxS l φ p r) ∧ (getB l (walkB k p r b).2).2.length ≤ (getB l b).2.length + r.length
  | [], k, p, b, _, _, _, hT => ⟨rfl, hT, fun φ => by simp [walkB, foxS], by simp [walkB]⟩
  | c :: r, k, p, b, hs, hp, hn, hT => by
    have hc := hs c (.head _)
    simp only [List.length_cons] at hn
    have hpl := pushR_length p c
    have hst : getB l (stepB k p c b) = _ := stepB_get (k := k) (b := b) hl hc hp
    have hk1 : KeyOK n p := ⟨hp, by omega⟩
    have hk2 : KeyOK n (pushR p c) := ⟨hp.push hc, by omega⟩
    have main : TabOK n (getB l (stepB k p c b)).2 ∧ (∀ φ, pair (getB l (stepB k p c b)).2 φ = pair (getB l b).2 φ + fox1 l φ p c) ∧ (getB l (stepB k p c b)).2.length ≤ (getB l b).2.length + 1 := by
      rw [hst]
      by_cases q : lowC c = l
      · rw [if_pos q]
        have e : (bkAdd (getB l b) (entryOf k p (pushR p c) c)).2 = addT (getB l b).2 (entryOf k p (pushR p c) c).2 := rfl
        have hlen := addT_length (getB l b).2 (entryOf k p (pushR p c) c).2
        rw [entryOf_length] at hlen
        rw [e]
        refine ⟨?_, fun φ => ?_, hlen⟩
        · rw [entry_tab]; split
          · exact hT.add hk1
          · exact hT.add hk2
        · rw [entry_tab]
          unfold fox1
          rw [if_pos q]
          split
          · rw [hT.pair]; omega
          · rw [hT.pair]; omega
      · rw [if_neg q]
        refine ⟨hT, fun φ => ?_, by omega⟩
        unfold fox1
        rw [if_neg q]; omega
    obtain ⟨i1, i2, i3, i4⟩ := walk_tab hl r (k + 1) (pushR p c) (stepB k p c b) (fun d hd => hs d (.tail _ hd)) (hp.push hc) (by omega) main.1
    rw [walkB, rep1_push hp.red hp.signs hc]
    refine ⟨i1, i2, fun φ => ?_, ?_⟩
    · rw [i3, main.2.1, foxS]; omega
    · have := main.2.2
      simp only [List.length_cons]; omega

/-! ### what is due -/
structure DueOK (l : Nat) (z : List Nat) (k : Nat) (t : Tab) : Prop where
  nd : Nd t
  nz : ∀ p ∈ t, p.2 ≠ 0
  short : ∀ p ∈ t, p.1.length ≤ k
  last : ∀ p ∈ t, p.1.length = k → ∃ j, k = j + 1 ∧ z[j]? = some (upC l)

theorem invC_upC {l : Nat} (h : isLow l) : invC (upC l) = l := by rcases h with rfl | rfl <;> simp [upC, invC]
theorem drop2 {z : List Nat} {j a b : Nat} (h1 : z[j]? = some a) (h2 : z[j + 1]? = some b) : (z.drop j).take 2 = [a, b] := by
  obtain ⟨q1, e1⟩ := List.getElem?_eq_some_iff.mp h1
  obtain ⟨q2, e2⟩ := List.getElem?_eq_some_iff.mp h2
  rw [List.drop_eq_getElem_cons q1, List.drop_eq_getElem_cons q2, e1, e2]; rfl

theorem due_step {l k c : Nat} {z : List Nat} {t : Tab} (hl : isLow l) (hz : Red z) (hs : Signs z) (hc : z[k]? = some c) (h : DueOK l z k t) :
    DueOK l z (k + 1) (due1 l k c z t) ∧ ∀ φ, pair (due1 l k c z t) φ = pair t φ + fox1 l φ (z.take k) c := by
  obtain ⟨hk, hck⟩ := List.getElem?_eq_some_iff.mp hc
  have hcs : isSign c := hs c (List.mem_of_getElem? hc)
  have hsplit : z = z.take k ++ c :: z.drop (k + 1) := by rw [← hck, ← List.drop_eq_getElem_cons hk, List.take_append_drop]
  have hpush : pushR (z.take k) c = z.take (k + 1) := by
    rw [push_red (r := z.drop (k + 1)) (by rw [← hsplit]; exact hz) hcs, List.take_succ_eq_append_getElem hk, hck]
  have lk : (z.take k).length = k := by simp; omega
  have lk1 : (z.take (k + 1)).length = k + 1 := by simp; omega
  have ins : ∀ (key : List Nat) (v : Int), v ≠ 0 → key ∉ t.map (·.1) → key.length ≤ k + 1 → (key.length = k + 1 → c = upC l) → DueOK l z (k + 1) (putT t key v) := by
    intro key v hv hn hle hla
    rw [putT_new hn]
    refine ⟨nd_snoc h.nd hn, fun p hp => ?_, fun p hp => ?_, fun p hp e => ?_⟩
    · rcases List.mem_append.mp hp with hp | hp
      · exact h.nz p hp
      · rw [List.mem_singleton.mp hp]; exact hv
    · rcases List.mem_append.mp hp with hp | hp
      · have := h.short p hp; omega
      · rw [List.mem_singleton.mp hp]; exact hle
    · rcases List.mem_append.mp hp with hp | hp
      · have := h.short p hp; omega
      · rw [List.mem_singleton.mp hp] at e
        exact ⟨k, rfl, by rw [hc, hla e]⟩
  unfold due1 fox1
  by_cases h1 : c = l
  · have hlow : lowC c = l := by subst h1; rcases hl with rfl | rfl <;> rfl
    have h2 : ¬ c = upC l := by rw [h1]; rcases hl with rfl | rfl <;> simp [upC]
    have hn : z.take k ∉ t.map (·.1) := fun q => by
      obtain ⟨p, hp, e⟩ := List.mem_map.mp q
      obtain ⟨j, rfl, hj⟩ := h.last p hp (by rw [e, lk])
      refine Red.get j (upC l) hz ?_
      rw [drop2 hj hc, h1, invC_upC hl]
    rw [if_pos h1, if_neg h2]
    refine ⟨ins _ _ (by decide) hn (by omega) (fun q => by omega), fun φ => ?_⟩
    rw [if_pos hlow, if_pos (by rw [hlow, h1]), putT_new hn, pair_append, pair_cons, pair_nil]; omega
  · rw [if_neg h1]
    by_cases h2 : c = upC l
    · have hlow : lowC c = l := by subst h2; rcases hl with rfl | rfl <;> rfl
      have hn : z.take (k + 1) ∉ t.map (·.1) := fun q => by
        obtain ⟨p, hp, e⟩ := List.mem_map.mp q
        have := h.short p hp
        rw [e, lk1] at this; omega
      rw [if_pos h2]
      refine ⟨ins _ _ (by decide) hn (by omega) (fun _ => h2), fun φ => ?_⟩
      rw [if_pos hlow, if_neg (by rw [hlow]; exact h1), putT_new hn, pair_append, pair_cons, pair_nil, hpush]; omega
    · rw [if_neg h2]
      have hlow : ¬ lowC c = l := fun q => by
        subst q
        rcases hcs with rfl | rfl | rfl | rfl <;> simp [lowC, upC] at h1 h2
      refine ⟨⟨h.nd, h.nz, fun p hp => ?_, fun p hp e => ?_⟩, fun φ => by rw [if_neg hlow]; omega⟩
      · have := h.short p hp; omega
      · have := h.short p hp; omega

theorem due_all {l : Nat} {z : List Nat} (hl : isLow l) (hz : Red z) (hs : Signs z) : ∀ (r : List Nat) (k : Nat) (t : Tab), z.drop k = r → DueOK l z k t →
    Nd (dueT l z k r t) ∧ (∀ p ∈ dueT l z k r t, p.2 ≠ 0) ∧ ∀ φ, pair (dueT l z k r t) φ = pair t φ + foxS l φ (z.take k) r
  | [], k, t, _, h => ⟨h.nd, h.nz, fun φ => by simp [dueT, foxS]⟩
  | c :: r, k, t, e, h => by
    have hlt : k < z.length := by
      by_cases q : k < z.length
      · exact q
      · rw [List.drop_eq_nil_of_le (by omega)] at e; cases e
    rw [List.drop_eq_getElem_cons hlt] at e
    obtain ⟨e1, e2⟩ := List.cons.inj e
    have hc : z[k]? = some c := by rw [List.getElem?_eq_getElem hlt, e1]
    have hcs : isSign c := hs c (List.mem_of_getElem? hc)
    obtain ⟨s1, s2⟩ := due_step hl hz hs hc h
    obtain ⟨i1, i2, i3⟩ := due_all hl hz hs r (k + 1) (due1 l k c z t) e2 s1
    refine ⟨i1, i2, fun φ => ?_⟩
    have hsplit : z = z.take k ++ c :: z.drop (k + 1) := by rw [← e1, ← List.drop_eq_getElem_cons hlt, List.take_append_drop]
    have hpush : pushR (z.take k) c = z.take (k + 1) := by
      rw [push_red (r := z.drop (k + 1)) (by rw [← hsplit]; exact hz) hcs, List.take_succ_eq_append_getElem hlt, e1]
    rw [dueT, i3, s2, foxS, hpush]; omega
theorem due_law {l : Nat} {z : List Nat} (hl : isLow l) (hz : Red z) (hs : Signs z) : Nd (dueT l z 0 z []) ∧ (∀ p ∈ dueT l z 0 z [], p.2 ≠ 0) ∧ ∀ φ, pair (dueT l z 0 z []) φ = foxS l φ [] z := by
  obtain ⟨h1, h2, h3⟩ := due_all hl hz hs z 0 [] rfl ⟨by simp [Nd], (fun p hp => nomatch hp), (fun p hp => nomatch hp), (fun p hp => nomatch hp)⟩
  exact ⟨h1, h2, fun φ => by rw [h3, pair_nil, List.take_zero]; omega⟩

/-! ### the two together -/
theorem fox_whole {φ : List Nat → Int} : ∀ (r p : List Nat), Signs r → Pl p →
    foxS 97 (fun k => φ (rep1 (k ++ [97])) - φ k) p r + foxS 98 (fun k => φ (rep1 (k ++ [98])) - φ k) p r = φ (plc p r) - φ p
  | [], p, _, _ => by simp [foxS, plc]
  | c :: r, p, hs, hp => by
    have hc := hs c (.head _)
    have ih := fox_whole (φ := φ) r (pushR p c) (fun d hd => hs d (.tail _ hd)) (hp.push hc)
    rw [foxS, foxS, plc]
    have one : fox1 97 (fun k => φ (rep1 (k ++ [97])) - φ k) p c + fox1 98 (fun k => φ (rep1 (k ++ [98])) - φ k) p c = φ (pushR p c) - φ p := by
      have key : ∀ l, lowC c = l → fox1 l (fun k => φ (rep1 (k ++ [l])) - φ k) p c = φ (pushR p c) - φ p := by
        intro l hl
        unfold fox1
        rw [if_pos hl]
        rcases sign_cases hc with ⟨h1, h2, h3, _⟩ | ⟨h1, h2, h3, _⟩
        · rw [if_pos h1, ← hl, ← h1]
          show φ (rep1 (p ++ [c])) - φ p = _
          rw [rep1_push hp.red hp.signs hc]
        · have hq := hp.push hc
          rw [if_neg h1, ← hl, ← h2]
          show -(φ (rep1 (pushR p c ++ [invC c])) - φ (pushR p c)) = _
          rw [rep1_push hq.red hq.signs (invC_sign hc), pushR_back hp.red hp.signs hc]; omega
      have zero : ∀ l ψ, lowC c ≠ l → fox1 l ψ p c = 0 := by
        intro l ψ hl
        unfold fox1; rw [if_neg hl]
      rcases lowC_low hc with h | h
      · rw [key 97 h, zero 98 _ (by rw [h]; decide)]; omega
      · rw [key 98 h, zero 97 _ (by rw [h]; decide)]; omega
    omega

theorem whT_law (l : Nat) : ∀ (t wh : Tab), Nd wh → Nd (whT l t wh) ∧ ∀ φ, pair (whT l t wh) φ = pair wh φ + pair t (fun k => φ (rep1 (k ++ [l])) - φ k)
  | [], wh, h => ⟨h, fun φ => by rw [whT, pair_nil]; omega⟩
  | (k, v) :: r, wh, h => by
    have h1 : Nd (addT wh [(rep1 (k ++ [l]), v)]) := by rw [addT_one h]; exact addT1_nd h _ _
    have h2 : Nd (wh1 l k v wh) := by unfold wh1; rw [addT_one h1]; exact addT1_nd h1 _ _
    obtain ⟨i1, i2⟩ := whT_law l r (wh1 l k v wh) h2
    refine ⟨i1, fun φ => ?_⟩
    rw [whT, i2, pair_cons]
    unfold wh1
    rw [addT_one h1, addT1_pair, addT_one h, addT1_pair, Int.mul_sub, Int.neg_mul]; omega

theorem ends_law (z : List Nat) : Nd (endsT z) ∧ (∀ p ∈ endsT z, p.2 ≠ 0) ∧ ∀ φ, pair (endsT z) φ = φ z - φ [] := by
  unfold endsT
  by_cases q : z = []
  · subst q
    rw [if_pos rfl]
    exact ⟨by simp [Nd], (fun p hp => nomatch hp), fun φ => by rw [pair_nil]; omega⟩
  · rw [if_neg q]
    refine ⟨by simp [Nd, q], fun p hp => ?_, fun φ => by rw [pair_cons, pair_cons, pair_nil]; omega⟩
    rcases List.mem_cons.mp hp with rfl | hp
    · show (1 : Int) ≠ 0; decide
    · rw [List.mem_singleton.mp hp]; show (-1 : Int) ≠ 0; decide
end Mine

namespace Mine

/-! ## the counts -/
noncomputable def spotsFrom (l : Nat) : Nat → List Nat → List Int
  | _, [] => []
  | k, c :: r => if lowC c = l then (k : Int) :: spotsFrom l (k + 1) r else spotsFrom l (k + 1) r
theorem spots_from (l : Nat) (w : List Nat) : ∀ (r : List Nat) (k : Nat), w.drop k = r → ((List.range' k r.length).filter fun j => decide (lowC (w.getD j 0) = l)).map (fun (j : Nat) => (j : Int)) = spotsFrom l k r
  | [], k, _ => rfl
  | c :: r, k, e => by
    have hlt : k < w.length := by
      by_cases q : k < w.length
      · exact q
      · rw [List.drop_eq_nil_of_le (by omega)] at e; cases e
    rw [List.drop_eq_getElem_cons hlt] at e
    obtain ⟨e1, e2⟩ := List.cons.inj e
    have ih := spots_from l w r (k + 1) e2
    have hg : w.getD k 0 = c := by simp [List.getD, List.getElem?_eq_getElem hlt, e1]
    rw [List.length_cons, List.range'_succ, List.filter_cons, spotsFrom, hg]
    by_cases q : lowC c = l
    · rw [if_pos q, if_pos (decide_eq_true q), List.map_cons, ih]
    · rw [if_neg q, if_neg (by simpa using q), ih]
theorem spI_from (l : Nat) (w : List Nat) : spI l w = spotsFrom l 0 w := by
  rw [← spots_from l w w 0 rfl, ← List.range_eq_range']; rfl
theorem cntL_cons (l c : Nat) (r : List Nat) : (cntL l (c :: r) : Int) = (if c = l then 1 else 0) + cntL l r := by
  unfold cntL
  rw [List.filter_cons]
  by_cases q : c = l
  · simp [q]; omega
  · simp [q]

theorem low_iff {l c : Nat} (hl : isLow l) (hc : isSign c) : (c = l) ↔ (lowC c = l ∧ c = lowC c) := by
  constructor
  · rintro rfl
    rcases hl with rfl | rfl <;> simp [lowC]
  · rintro ⟨h1, h2⟩; rw [h2, h1]

theorem walk_quad {l : Nat} (hl : isLow l) : ∀ (r : List Nat) (k : Nat) (p : List Nat) (b : Bk × Bk), Signs r → Pl p →
    (getB l (walkB k p r b).2).1 = ((getB l b).1.1 + cntL l r, (getB l b).1.2.1 + (spotsFrom l k r).length, (getB l b).1.2.2.1 + (2 * cntL l r - (spotsFrom l k r).length), (getB l b).1.2.2.2 + (spotsFrom l k r).sum)
  | [], k, p, b, _, _ => by simp [walkB, spotsFrom, cntL]
  | c :: r, k, p, b, hs, hp => by
    have hc := hs c (.head _)
    have ih := walk_quad hl r (k + 1) (pushR p c) (stepB k p c b) (fun d hd => hs d (.tail _ hd)) (hp.push hc)
    have hiff := low_iff hl hc
    rw [walkB, rep1_push hp.red hp.signs hc, ih, stepB_get hl hc hp, spotsFrom, cntL_cons]
    by_cases q : lowC c = l
    · rw [if_pos q, if_pos q]
      unfold bkAdd entryOf
      by_cases h : c = lowC c
      · rw [if_pos h, if_pos (hiff.mpr ⟨q, h⟩)]
        simp only [List.length_cons, List.sum_cons]
        refine Prod.ext ?_ (Prod.ext ?_ (Prod.ext ?_ ?_)) <;> simp only <;> omega
      · rw [if_neg h, if_neg (fun z => h (hiff.mp z).2)]
        simp only [List.length_cons, List.sum_cons]
        refine Prod.ext ?_ (Prod.ext ?_ (Prod.ext ?_ ?_)) <;> simp only <;> omega
    · rw [if_neg q, if_neg q, if_neg (fun z => q (hiff.mp z).1)]
      refine Prod.ext ?_ (Prod.ext ?_ (Prod.ext ?_ ?_)) <;> simp only <;> omega

theorem fox_count {l : Nat} (hl : isLow l) : ∀ (r : List Nat) (k : Nat) (p : List Nat), Signs r → foxS l (fun _ => 1) p r = 2 * (cntL l r : Int) - (spotsFrom l k r).length
  | [], k, p, _ => by simp [foxS, spotsFrom, cntL]
  | c :: r, k, p, hs => by
    have hc := hs c (.head _)
    have ih := fox_count hl r (k + 1) (pushR p c) (fun d hd => hs d (.tail _ hd))
    have hiff := low_iff hl hc
    rw [foxS, ih, spotsFrom, cntL_cons]
    unfold fox1
    by_cases q : lowC c = l
    · rw [if_pos q, if_pos q]
      by_cases h : c = lowC c
      · rw [if_pos h, if_pos (hiff.mpr ⟨q, h⟩)]
        simp only [List.length_cons]; omega
      · rw [if_neg h, if_neg (fun z => h (hiff.mp z).2)]
        simp only [List.length_cons]; omega
    · rw [if_neg q, if_neg q, if_neg (fun z => q (hiff.mp z).1)]; omega

abbrev bk0 : Bk × Bk := (((0, 0, 0, 0), []), ((0, 0, 0, 0), []))
theorem turn_ok {w z : List Nat} (hs : Signs w) (hw : w.length ≤ 13) (q : Rw w z) (hz : Red z) {l : Nat} (hl : isLow l) : Turn w z (getB l (walkB 0 [] w bk0).2) l := by
  have hT : TabOK 13 (getB l bk0).2 := by rcases hl with rfl | rfl <;> exact TabOK.nil 13
  obtain ⟨h1, h2, h3, h4⟩ := walk_tab hl w 0 [] bk0 hs Pl.nil (by simpa using hw) hT
  have hq := walk_quad hl w 0 [] bk0 hs Pl.nil
  have e0 : getB l bk0 = ((0, 0, 0, 0), []) := by rcases hl with rfl | rfl <;> rfl
  rw [e0] at hq h3 h4
  rw [← spI_from] at hq
  obtain ⟨d1, d2, d3⟩ := due_law hl hz (q.signs hs)
  generalize getB l (walkB 0 [] w bk0).2 = x at *
  refine ⟨by rw [hq]; simp, by rw [hq]; simp, by rw [hq]; simp, by rw [hq]; simp, ?_, ?_, h2.nd, fun p hp => (h2.keys p hp).1.signs, fun p hp => by have := (h2.keys p hp).2; omega, by simp at h4; omega⟩
  · have := h3 fun _ => 1
    rw [pair_nil, fox_count hl w 0 [] hs, ← spI_from] at this
    rw [← show pair x.2 (fun _ => 1) = (x.2.map (·.2)).sum by simp [pair], this]; omega
  · refine dEqT_pair h2.nd d1 d2 fun φ => ?_
    rw [h3, d3, pair_nil, q.fox hs]; omega

theorem walk_place {w z : List Nat} (hs : Signs w) (q : Rw w z) (hz : Red z) : (walkB 0 [] w bk0).1 = z := by
  have hT : TabOK w.length (getB 97 bk0).2 := TabOK.nil _
  obtain ⟨h1, _⟩ := walk_tab (.inl rfl) w 0 [] bk0 hs Pl.nil (by simp) hT
  rw [h1, ← q.plc hs, plc_red z [] (by simpa using hz) (q.signs hs)]; rfl

theorem end_ok {w z : List Nat} (hs : Signs w) (hw : w.length ≤ 13) (q : Rw w z) (hz : Red z) : dEqT (noT (whT 98 (walkB 0 [] w bk0).2.2.2 (whT 97 (walkB 0 [] w bk0).2.1.2 []))) (endsT z) = true := by
  obtain ⟨a1, a2, a3, _⟩ := walk_tab (l := 97) (n := 13) (.inl rfl) w 0 [] bk0 hs Pl.nil (by simpa using hw) (TabOK.nil 13)
  obtain ⟨_, b2, b3, _⟩ := walk_tab (l := 98) (n := 13) (.inr rfl) w 0 [] bk0 hs Pl.nil (by simpa using hw) (TabOK.nil 13)
  obtain ⟨w1, w2⟩ := whT_law 97 (walkB 0 [] w bk0).2.1.2 [] (TabOK.nil 13).nd
  obtain ⟨w3, w4⟩ := whT_law 98 (walkB 0 [] w bk0).2.2.2 _ w1
  obtain ⟨e1, e2, e3⟩ := ends_law z
  refine dEqT_pair w3 e1 e2 fun φ => ?_
  have hf := fox_whole (φ := φ) w [] hs Pl.nil
  have a4 := a3 fun k => φ (rep1 (k ++ [97])) - φ k
  have b4 := b3 fun k => φ (rep1 (k ++ [98])) - φ k
  have p1 : plc [] w = z := by rw [← a1]; exact walk_place hs q hz
  rw [p1] at hf
  have g1 : getB 97 (walkB 0 [] w bk0).2 = (walkB 0 [] w bk0).2.1 := rfl
  have g2 : getB 98 (walkB 0 [] w bk0).2 = (walkB 0 [] w bk0).2.2 := rfl
  rw [g1] at a4
  rw [g2] at b4
  have z1 : pair (getB 97 bk0).2 (fun k => φ (rep1 (k ++ [97])) - φ k) = 0 := rfl
  have z2 : pair (getB 98 bk0).2 (fun k => φ (rep1 (k ++ [98])) - φ k) = 0 := rfl
  rw [w4, w2, e3, pair_nil, a4, b4, z1, z2]
  omega

section
variable {W : Wd}
/-- law gives True -/
theorem law_ok (T : Top1 W) {F : Fc} (L : LawF F) (ns : List Int) (hn : ns.length ≤ 1000) : Exs W F [("script", .imm (.list (ns.map .int)))] (fnBody 17) [] (.ret (.bool true)) := by
  have hs := wordOf_signs ns
  have hl := wordOf_length ns
  refine Exs.cons (rest := (fnBody 17).drop 1) (law0 T L ns hn) ?_
  refine Exs.weaken (ρ₁ := [("word", .imm (.str (wordOf ns)))]) ⟨rfl, trivial⟩ ?_
  refine law_1to12 T L (wordOf ns) hs hl (wordOf_ne ns) fun z hz hred => ?_
  have hzl := hz.sublist.length_le
  have := law_13to17 T L (wordOf ns) z (walkB 0 [] (wordOf ns) bk0).2 hs hl (by omega) (turn_ok hs hl hz hred (.inl rfl)) (turn_ok hs hl hz hred (.inr rfl)) (end_ok hs hl hz hred)
  rw [← walk_place hs hz hred] at this ⊢
  exact this
end
end Mine

namespace Mine

theorem ints_rep {W : Wd} {K : Kn} : ∀ {vs : List Value} {ns : List Int}, IntsAre vs ns → RepL W.prog W.w K (ns.map .int) vs
  | _, _, .nil => rfl
  | _, _, .cons n t h => ⟨_, _, rfl, ⟨t, rfl⟩, ints_rep h⟩

set_option maxRecDepth 100000 in
set_option maxHeartbeats 4000000 in
/-- the call of law, from its frame on -/
theorem law_run (W : Wd) (T : Top1 W) {s : Shared} {h₁ : Heap} {tk₁ : Tok} {name : Str} {fa a : Addr} {cd : Value} {ns : List Int} {vs : List Value} {o1 o2 : Obj} {m : Str → Option Value} {Q : Flow → Shared → Prop} {E : Value → Shared → Prop} (hbase : s.heap = W.base) (hn : ns.length ≤ 1000)
    (hfr : Fr s.heap s.heap.objs.size h₁ m) (hm : m "script" = some (.ref a))
    (hN : News s.heap s.heap.objs.size h₁ [(s.heap.objs.size + 1 + 1, o1), (s.heap.objs.size + 1, o2)]) (ho1 : ∃ v, o1.data = .cell v) (ho2 : ∃ v, o2.data = .cell v) (hL : s.heap.IsList a vs.toArray) (hI : IntsAre vs ns)
    (hQ : ∀ h' tk, (∀ b o, s.heap.get? b = some o → h'.get? b = some o) → Q (.ret (.bool true)) { s with heap := h', toks := tk }) :
    wpAny (model W.prog W.w) (callerA.deeper (envOfC name (fnScope 17) s.heap.objs.size fa cd)) (execs (fnBody 17) (envOfC name (fnScope 17) s.heap.objs.size fa cd)) Q E { s with heap := h₁, toks := tk₁ } := by
  obtain ⟨v1, ho1⟩ := ho1
  obtain ⟨v2, ho2⟩ := ho2
  let env := envOfC name (fnScope 17) s.heap.objs.size fa cd
  have hcells : env.cells = [(("letter" : Str), s.heap.objs.size + 1 + 1), (("word" : Str), s.heap.objs.size + 1)] := by rfl
  let F : Fc := { A := callerA.deeper env, env := env, hh := rfl, hk := rfl, hg := rfl, hb := rfl, lvl := 2, room := by show callerA.depth + 1 + 2 < recursionLimit; decide +kernel, units := by show callerA.units + 3 + 10 * 2 + 10 < cLine; decide +kernel }
  have L : LawF F := by
    refine ⟨rfl, rfl, ⟨s.heap.objs.size + 1, by show env.cells.lookup _ = _; rw [hcells]; rfl⟩, ⟨s.heap.objs.size + 1 + 1, by show env.cells.lookup _ = _; rw [hcells]; rfl⟩, fun x y hx hy => ?_⟩
    have hx : env.cells.lookup ("word" : Str) = some x := hx
    have hy : env.cells.lookup ("letter" : Str) = some y := hy
    have e1 : env.cells.lookup ("word" : Str) = some (s.heap.objs.size + 1) := by rw [hcells]; rfl
    have e2 : env.cells.lookup ("letter" : Str) = some (s.heap.objs.size + 1 + 1) := by rw [hcells]; rfl
    rw [e1] at hx
    rw [e2] at hy
    have hx := Option.some.inj hx
    have hy := Option.some.inj hy
    intro q
    rw [← hx, ← hy] at q
    exact absurd q (Nat.ne_of_lt (Nat.lt_succ_self _))
  have n1 := hN _ (.head _)
  have n2 := hN _ (.tail _ (.head _))
  have fresh : ∀ b, s.heap.objs.size ≤ b → s.heap.get? b = none := fun b hb => by
    cases e : s.heap.get? b with
    | none => rfl
    | some o => exact absurd (Heap.lt_size e) (Nat.not_lt.mpr hb)
  have G : Good W env (fun b => s.heap.get? b) [] [("script", .imm (.list (ns.map .int)))] h₁ := by
    refine ⟨hfr.keep, fun b o e => by rw [hbase]; exact e, ?_, fun b hb => ?_, (fun p hp => nomatch hp), ⟨m, hfr.ns⟩, fun p hp => ?_, fun x lv e => ?_⟩
    · show ([s.heap.objs.size, s.heap.objs.size + 1 + 1, s.heap.objs.size + 1] : List Nat).Nodup
      simp
      omega
    · have hb : b ∈ ([s.heap.objs.size, s.heap.objs.size + 1 + 1, s.heap.objs.size + 1] : List Nat) := hb
      simp only [List.mem_cons, List.not_mem_nil, or_false] at hb
      refine fresh b ?_
      rcases hb with rfl | rfl | rfl <;> omega
    · have hp : p ∈ env.cells := hp
      rw [hcells] at hp
      rcases List.mem_cons.mp hp with rfl | hp
      · exact ⟨v1, o1, n1.1, ho1⟩
      · rw [List.mem_singleton.mp hp]; exact ⟨v2, o2, n2.1, ho2⟩
    · simp only [Sto.get] at e
      by_cases q : ("script" : Str) = x
      · subst q
        rw [if_pos rfl] at e
        obtain rfl := Option.some.inj e
        refine ⟨.ref a, .inl ⟨by rfl, m, hfr.ns, hm⟩, ?_⟩
        obtain ⟨o, ho, hc, nn, hd⟩ := hL
        exact ⟨a, o, vs.toArray, rfl, ho, hc, ⟨nn, hd⟩, by simpa using ints_rep hI⟩
      · rw [if_neg q] at e; cases e
  refine (law_ok T L ns hn).run { s with heap := h₁, toks := tk₁ } _ [] Q E G fun v K' h' tk sg r => ?_
  obtain rfl : v = .bool true := r
  refine hQ h' tk fun b o e => ?_
  have hb : b ∉ own env [] := fun hb => by
    have hb : b ∈ ([s.heap.objs.size, s.heap.objs.size + 1 + 1, s.heap.objs.size + 1] : List Nat) := hb
    simp only [List.mem_cons, List.not_mem_nil, or_false] at hb
    have := fresh b (by rcases hb with rfl | rfl | rfl <;> omega)
    rw [this] at e; cases e
  exact sg.ext b o hb (hfr.keep b o e)
end Mine

namespace Mine

/-! ## the join: what the head's view says of the text -/
noncomputable def RecAt (p : Program) (i : Nat) (f : Str) (n : Nat) : Prop := ∃ pos, (recsOf p)[i]? = some ⟨f, fnArgs n, fnBody n, fnScope n, pos⟩
structure ViewOK (p : Program) : Prop where
  stats : RecAt p 0 "add_func_stats" 1
  callers : RecAt p 1 "add_callers" 2
  count : RecAt p 2 "count_calls" 3
  repl : RecAt p 3 "replace" 5
  sub : RecAt p 4 "_substitution_cost" 10
  lev : RecAt p 5 "_levenshtein_distance" 11
  plus : RecAt p 6 "_law_plus" 13
  norm : RecAt p 7 "_law_norm" 14
  read : RecAt p 8 "_law_read" 15
  nought : RecAt p 9 "_law_without_noughts" 16
  move : valOf p "_MOVE_COST" = some (.int 2)
  case_ : valOf p "_CASE_COST" = some (.int 1)
  max : valOf p "_MAX_STRING_SIZE" = some (.int 40)
  free : ((["len", "abs", "range", "list", "min", "sum", "isinstance", "tuple"] : List Str).all fun x => !(startupNames.contains x || ((recsOf p).map (·.name)).contains x || ((litsOf p).map (·.1)).contains x || ((clssOf p []).map (·.name)).contains x)) = true
  lone : importsNone p = true

section
variable {p : Program} {loose : List Str} {mean : ExcName → Option Value} {mg mb : Str → Option Value} {h : Heap}
noncomputable def wdOf (T : Top p loose mean mg mb h) (prog : Program) (w : World) : Wd := { prog := prog, w := w, base := h, mg := mg, mb := mb, g := T.g, b := T.b, nolimit := T.nolimit, builtins := T.builtins }

theorem fn_of (T : Top p loose mean mg mb h) (prog : Program) (w : World) {f : Str} {n i : Nat} (e : RecAt p i f n) : HasFn (wdOf T prog w) f n := by
  obtain ⟨pos, e⟩ := e
  obtain ⟨a, o, pm, cd, doc, h1, h2, h3, h4⟩ := T.fn _ (List.mem_of_getElem? e)
  exact ⟨a, o, pm, cd, doc, ⟨h1, h2, h3⟩, h4⟩
theorem int_of (T : Top p loose mean mg mb h) {x : Str} {i : Int} (e : valOf p x = some (.int i)) : ∃ t, mg x = some (.int i t) := by
  obtain ⟨v, hv, hr⟩ := T.const x _ e
  cases hr h with
  | int i t => exact ⟨t, hv⟩

theorem top1_of (T : Top p loose mean mg mb h) (hl : loose = []) (V : ViewOK p) (prog : Program) (w : World) : Top1 (wdOf T prog w) := by
  refine ⟨int_of T V.move, int_of T V.case_, int_of T V.max, fun x hx => ?_, fn_of T prog w V.stats, fn_of T prog w V.callers, fn_of T prog w V.count, fn_of T prog w V.repl, fn_of T prog w V.sub, fn_of T prog w V.lev, fn_of T prog w V.plus, fn_of T prog w V.norm, fn_of T prog w V.read, fn_of T prog w V.nought, ?_⟩
  · subst hl
    have := List.all_eq_true.mp V.free x hx
    simp only [Bool.not_eq_true', Bool.or_eq_false_iff] at this
    obtain ⟨⟨⟨k1, k2⟩, k3⟩, k4⟩ := this
    refine T.free x (fun q => ?_) (fun q => nomatch q) (fun q => ?_) (fun q => ?_) (fun q => ?_)
    · rw [List.contains_iff_mem.mpr q] at k1; cases k1
    · rw [List.contains_iff_mem.mpr q] at k2; cases k2
    · rw [List.contains_iff_mem.mpr q] at k3; cases k3
    · rw [List.contains_iff_mem.mpr q] at k4; cases k4
  · obtain ⟨mm, ⟨o, _, _, ho, _⟩, _⟩ := (T.seer V.lone).mods
    exact ⟨o, ho⟩
end

theorem post_ok (args : List WData) : PySem.Challenge.rw_pe0097_01.row.claim.post args (.bool true) args = true := by
  refine postW_of (X := true) (by rfl) ?_ rfl
  show WTm.value _ (.eq .res (.lit (.bool true))) _ = _
  first
    | (with_unfolding_all rfl)
    | (simp [WTm.value]; done)
end Mine

open Mine in
set_option maxRecDepth 100000 in
set_option maxHeartbeats 8000000 in
theorem PySem.Challenge.cw_pe0097_01_holds : PySem.Challenge.rw_pe0097_01.Holds := by
  (w_on; o_law; k_head; (case hw => w_witness2); w_strict (k_go0))
  have T := ‹Top _ _ _ _ _ _›
  have T1 := top1_of T (by decide +kernel) ⟨⟨_, by rfl⟩, ⟨_, by rfl⟩, ⟨_, by rfl⟩, ⟨_, by rfl⟩, ⟨_, by rfl⟩, ⟨_, by rfl⟩, ⟨_, by rfl⟩, ⟨_, by rfl⟩, ⟨_, by rfl⟩, ⟨_, by rfl⟩, by rfl, by rfl, by rfl, by decide +kernel, by decide +kernel⟩ PySem.Challenge.rw_pe0097_01.row.prog
  have hN := ‹News _ _ _ _›
  have hF := ‹Fr _ _ _ _›
  have hL := ‹Heap.IsList _ _ _›
  have hI := ‹IntsAre _ _›
  refine law_run (wdOf T _ _) (T1 _) rfl ?hn hF rfl hN ?h1 ?h2 hL hI fun h' tk hk => ?hQ
  case hn => omega
  case h1 => exact ⟨_, by assumption⟩
  case h2 => exact ⟨_, by assumption⟩
  case hQ =>
    refine ⟨.inl ⟨_, .bool true, [], rfl, fun cls => ?_, .bool true, ?_, fun _ => ⟨List.nodup_nil, fun a h => nomatch h⟩⟩, hk, rfl, ?_⟩
    · rfl
    · exact post_ok _
    · assumption
