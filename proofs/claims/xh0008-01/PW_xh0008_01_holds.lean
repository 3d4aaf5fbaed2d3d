import PyProof.Rows.All
import Wide.All
import OpenK.AllK
import Wide.FinOn
import PySem.Challenge.RW_xh0008_01
set_option autoImplicit false
set_option Elab.async false
set_option linter.unusedVariables false
set_option linter.unusedSimpArgs false

section
namespace Mine
open PySem

inductive V where
  | none
  | bool (b : Bool)
  | int (i : Int)
  | flt (b : UInt64)
  | str (s : Str)
  | list (xs : List V)
  | tup (xs : List V)
  | judge (cols : V)
deriving Inhabited

noncomputable abbrev lst (vs : List Value) (n : Nat) : Obj := { cls := .type "list", data := .seq vs.toArray n }
noncomputable abbrev tpl (vs : List Value) (n : Nat) : Obj := { cls := .type "tuple", data := .seq vs.toArray n }
noncomputable abbrev selfDict (hs : Int) (t : Tok) (v : Value) (n : Nat) : Obj := PySem.W.dictOf [⟨hs, .str (Str.ofString "comp_select_list") t, v⟩] n

mutual
inductive Rep (C : Addr) (h : Heap) (M : List Addr) : Value → V → Prop
  | none : Rep C h M .none .none
  | bool (b : Bool) : Rep C h M (.bool b) (.bool b)
  | int (i : Int) (t : Tok) : Rep C h M (.int i t) (.int i)
  | flt (b : UInt64) (t : Tok) : Rep C h M (.float b t) (.flt b)
  | str (x : Str) (t : Tok) : Rep C h M (.str x t) (.str x)
  | list {a : Addr} {vs : List Value} {n : Nat} {ds : List V} : h.get? a = some (lst vs n) → a ∉ M → RepAll C h M vs ds → Rep C h M (.ref a) (.list ds)
  | tup {a : Addr} {vs : List Value} {n : Nat} {ds : List V} : h.get? a = some (tpl vs n) → a ∉ M → RepAll C h M vs ds → Rep C h M (.ref a) (.tup ds)
  | judge {a dx : Addr} {hs : Int} {t : Tok} {n : Nat} {v : Value} {d : V} : h.get? a = some (PySem.W.instObj C dx) → a ∉ M → h.get? dx = some (selfDict hs t v n) → dx ∉ M → Rep C h M v d →
      Rep C h M (.ref a) (.judge d)
inductive RepAll (C : Addr) (h : Heap) (M : List Addr) : List Value → List V → Prop
  | nil : RepAll C h M [] []
  | cons {v : Value} {vs : List Value} {d : V} {ds : List V} : Rep C h M v d → RepAll C h M vs ds → RepAll C h M (v :: vs) (d :: ds)
end

section
variable {C : Addr} {h h' : Heap} {M M' : List Addr}
mutual
theorem Rep.mono (hk : ∀ b o, b ∉ M → h.get? b = some o → h'.get? b = some o ∧ b ∉ M') : ∀ {v : Value} {d : V}, Rep C h M v d → Rep C h' M' v d
  | _, _, .none => .none
  | _, _, .bool b => .bool b
  | _, _, .int i t => .int i t
  | _, _, .flt b t => .flt b t
  | _, _, .str x t => .str x t
  | _, _, .list e m r => .list (hk _ _ m e).1 (hk _ _ m e).2 (RepAll.mono hk r)
  | _, _, .tup e m r => .tup (hk _ _ m e).1 (hk _ _ m e).2 (RepAll.mono hk r)
  | _, _, .judge e m e' m' r => .judge (hk _ _ m e).1 (hk _ _ m e).2 (hk _ _ m' e').1 (hk _ _ m' e').2 (Rep.mono hk r)
theorem RepAll.mono (hk : ∀ b o, b ∉ M → h.get? b = some o → h'.get? b = some o ∧ b ∉ M') : ∀ {vs : List Value} {ds : List V}, RepAll C h M vs ds → RepAll C h' M' vs ds
  | _, _, .nil => .nil
  | _, _, .cons x r => .cons (Rep.mono hk x) (RepAll.mono hk r)
end
theorem RepAll.length : ∀ {vs : List Value} {ds : List V}, RepAll C h M vs ds → vs.length = ds.length
  | _, _, .nil => rfl
  | _, _, .cons _ r => by simp [RepAll.length r]
theorem RepAll.append : ∀ {vs ws : List Value} {ds es : List V}, RepAll C h M vs ds → RepAll C h M ws es → RepAll C h M (vs ++ ws) (ds ++ es)
  | _, _, _, _, .nil, k => k
  | _, _, _, _, .cons x r, k => .cons x (RepAll.append r k)
theorem RepAll.get : ∀ {vs : List Value} {ds : List V} {i : Nat} {d : V}, RepAll C h M vs ds → ds[i]? = some d → ∃ v, vs[i]? = some v ∧ Rep C h M v d
  | _, _, 0, _, .cons x _, e => by cases e; exact ⟨_, rfl, x⟩
  | _, _, i + 1, _, .cons _ r, e => by simpa using RepAll.get (i := i) r (by simpa using e)
theorem RepAll.getV : ∀ {vs : List Value} {ds : List V} {i : Nat} {v : Value}, RepAll C h M vs ds → vs[i]? = some v → ∃ d, ds[i]? = some d ∧ Rep C h M v d
  | _, _, 0, _, .cons x _, e => by cases e; exact ⟨_, rfl, x⟩
  | _, _, i + 1, _, .cons _ r, e => by simpa using RepAll.getV (i := i) r (by simpa using e)
theorem RepAll.take : ∀ {vs : List Value} {ds : List V} (i : Nat), RepAll C h M vs ds → RepAll C h M (vs.take i) (ds.take i)
  | _, _, 0, _ => by simpa using RepAll.nil
  | _, _, i + 1, .nil => by simpa using RepAll.nil
  | _, _, i + 1, .cons x r => by simpa using RepAll.cons x (RepAll.take i r)
theorem RepAll.drop : ∀ {vs : List Value} {ds : List V} (i : Nat), RepAll C h M vs ds → RepAll C h M (vs.drop i) (ds.drop i)
  | _, _, 0, r => by simpa using r
  | _, _, i + 1, .nil => by simpa using RepAll.nil
  | _, _, i + 1, .cons x r => by simpa using RepAll.drop i r
end

/-- the state moved on, and all old objects off W stand -/
structure Off (W : List Addr) (s s' : Shared) : Prop where
  heap : ∀ b o, b ∉ W → s.heap.get? b = some o → s'.heap.get? b = some o
  gens : ∀ (i : Nat) (x : GenState), s.gens[i]? = some x → s'.gens[i]? = some x
  bare : PyProof.Rows.AllBare s.gens → PyProof.Rows.AllBare s'.gens
  os : s'.os = s.os
noncomputable abbrev Ext (s s' : Shared) : Prop := Off [] s s'

theorem Off.refl (W : List Addr) (s : Shared) : Off W s s := ⟨fun _ _ _ e => e, fun _ _ e => e, id, rfl⟩
theorem Off.trans {W : List Addr} {s s' s'' : Shared} (x : Off W s s') (y : Off W s' s'') : Off W s s'' :=
  ⟨fun b o hb e => y.heap b o hb (x.heap b o hb e), fun i z e => y.gens i z (x.gens i z e), fun e => y.bare (x.bare e), y.os.trans x.os⟩
theorem Off.mono {W W' : List Addr} {s s' : Shared} (x : Off W s s') (hw : ∀ a ∈ W, a ∈ W') : Off W' s s' := ⟨fun b o hb e => x.heap b o (fun hm => hb (hw b hm)) e, x.gens, x.bare, x.os⟩
/-- what is off W' and new is no matter -/
theorem Off.fresh {W W' : List Addr} {s s' : Shared} (x : Off W' s s') (hw : ∀ a ∈ W', a ∈ W ∨ s.heap.get? a = none) : Off W s s' :=
  ⟨fun b o hb e => x.heap b o (fun hm => (hw b hm).elim hb fun h => by rw [h] at e; cases e) e, x.gens, x.bare, x.os⟩
theorem Ext.of_heap {s : Shared} {h' : Heap} {tk : Tok} (hk : ∀ b o, s.heap.get? b = some o → h'.get? b = some o) : Ext s { s with heap := h', toks := tk } := ⟨fun b o _ e => hk b o e, fun _ _ e => e, id, rfl⟩
theorem Off.of_heap {W : List Addr} {s : Shared} {h' : Heap} {tk : Tok} (hk : ∀ b o, b ∉ W → s.heap.get? b = some o → h'.get? b = some o) : Off W s { s with heap := h', toks := tk } := ⟨hk, fun _ _ e => e, id, rfl⟩
theorem Ext.keep {s s' : Shared} (x : Ext s s') : ∀ b o, s.heap.get? b = some o → s'.heap.get? b = some o := fun b o e => x.heap b o (by simp) e
theorem Ext.off {W : List Addr} {s s' : Shared} (x : Ext s s') : Off W s s' := Off.mono x (by simp)
theorem Ext.push (s : Shared) (o : Obj) (tk : Tok) : Ext s { s with heap := s.heap.push o, toks := tk } := Ext.of_heap fun _ _ e => Heap.get?_push_of_some _ e
theorem Ext.same (s : Shared) (tk : Tok) : Ext s { s with toks := tk } := Ext.of_heap (h' := s.heap) fun _ _ e => e

theorem Rep.ext {C : Addr} {M : List Addr} {s s' : Shared} {v : Value} {d : V} (r : Rep C s.heap M v d) (x : Ext s s') : Rep C s'.heap M v d := r.mono fun b o m e => ⟨x.keep b o e, m⟩
theorem RepAll.ext {C : Addr} {M : List Addr} {s s' : Shared} {vs : List Value} {ds : List V} (r : RepAll C s.heap M vs ds) (x : Ext s s') : RepAll C s'.heap M vs ds := r.mono fun b o m e => ⟨x.keep b o e, m⟩
theorem Rep.off {C : Addr} {M W : List Addr} {s s' : Shared} {v : Value} {d : V} (r : Rep C s.heap M v d) (x : Off W s s') (hw : ∀ a ∈ W, a ∈ M) : Rep C s'.heap M v d := r.mono fun b o m e => ⟨x.heap b o (fun h => m (hw b h)) e, m⟩
theorem RepAll.off {C : Addr} {M W : List Addr} {s s' : Shared} {vs : List Value} {ds : List V} (r : RepAll C s.heap M vs ds) (x : Off W s s') (hw : ∀ a ∈ W, a ∈ M) : RepAll C s'.heap M vs ds := r.mono fun b o m e => ⟨x.heap b o (fun h => m (hw b h)) e, m⟩
theorem Rep.more {C : Addr} {M M' : List Addr} {h : Heap} {v : Value} {d : V} (r : Rep C h M v d) (hm : ∀ a ∈ M', a ∈ M ∨ h.get? a = Option.none) : Rep C h M' v d := r.mono fun b o m e => ⟨e, fun h' => (hm b h').elim m fun q => by rw [q] at e; cases e⟩
theorem RepAll.more {C : Addr} {M M' : List Addr} {h : Heap} {vs : List Value} {ds : List V} (r : RepAll C h M vs ds) (hm : ∀ a ∈ M', a ∈ M ∨ h.get? a = Option.none) : RepAll C h M' vs ds := r.mono fun b o m e => ⟨e, fun h' => (hm b h').elim m fun q => by rw [q] at e; cases e⟩

/-- every address of M is alive -/
noncomputable def Live (h : Heap) (M : List Addr) : Prop := ∀ a ∈ M, ∃ o, h.get? a = some o
theorem Live.off {M W : List Addr} {s s' : Shared} (l : Live s.heap M) (x : Off W s s') (k : ∀ a ∈ W, a ∈ M → ∃ o, s'.heap.get? a = some o) : Live s'.heap M := fun a ha => by
  by_cases hw : a ∈ W
  · exact k a hw ha
  · obtain ⟨o, ho⟩ := l a ha; exact ⟨o, x.heap a o hw ho⟩
theorem Live.ext {M : List Addr} {s s' : Shared} (l : Live s.heap M) (x : Ext s s') : Live s'.heap M := fun a ha => let ⟨o, ho⟩ := l a ha; ⟨o, x.keep a o ho⟩
theorem Live.new {M : List Addr} {h : Heap} (l : Live h M) : h.objs.size ∉ M := fun hm => let ⟨_, ho⟩ := l _ hm; Nat.lt_irrefl _ (Heap.lt_size ho)

/-- room for n levels of calls, nothing handled -/
structure Fit (A : Around) (n : Nat) : Prop where
  handled : A.handled = none
  depth : A.depth + 8 * n + 100 < recursionLimit
  units : A.units + 200 * n + 400 < cLine
theorem Fit.room {A : Around} {n : Nat} (f : Fit A n) : A.depth < recursionLimit := by have := f.depth; omega
theorem Fit.less {A : Around} {n m : Nat} (f : Fit A n) (h : m ≤ n) : Fit A m := ⟨f.handled, by have := f.depth; omega, by have := f.units; omega⟩

noncomputable abbrev NoE : Value → Shared → Prop := fun _ _ => False

theorem wp_use {α : Type} {M : Model} {A : Around} {t : Sem α} {P Q : α → Shared → Prop} {E : Value → Shared → Prop} {s : Shared} (h : wpAny M A t P NoE s) (hq : ∀ a s', P a s' → Q a s') : wpAny M A t Q E s :=
  wpAny_mono h hq fun _ _ f => f.elim
theorem code_use {M : Model} {A : Around} {c : Code} {P Q : Result → Shared → Prop} {s : Shared} (h : codeAny M A c P s) (hq : ∀ a s', P a s' → Q a s') : codeAny M A c Q s := codeAny_mono h hq
end Mine
end

section
namespace Mine
open PySem PySem.Calls PyProof.Rows

/-- the ground: program, world, the class of the judges, the heap of the law's call -/
structure Gd where
  prog : Program
  w : World
  C : Addr
  h₀ : Heap

noncomputable abbrev Rho := List (Option V)
noncomputable def get (ρ : Rho) (i : Nat) : Option V := (ρ[i]?).join
noncomputable def put (ρ : Rho) (i : Nat) (d : V) : Rho := (ρ ++ List.replicate (i + 1 - ρ.length) Option.none).set i (some d)

theorem get_put_self (ρ : Rho) (i : Nat) (d : V) : get (put ρ i d) i = some d := by
  unfold get put
  rw [List.getElem?_set_self (by simp; omega)]; rfl
theorem get_put_ne (ρ : Rho) {i j : Nat} (d : V) (h : i ≠ j) : get (put ρ i d) j = get ρ j := by
  unfold get put
  rw [List.getElem?_set_ne h]
  rcases Nat.lt_or_ge j ρ.length with hj | hj
  · rw [List.getElem?_append_left hj]
  · rw [List.getElem?_append_right hj, List.getElem?_eq_none hj]
    rcases hq : (List.replicate (i + 1 - ρ.length) (Option.none : Option V))[j - ρ.length]? with _ | x
    · rfl
    · obtain ⟨_, e⟩ := List.getElem?_eq_some_iff.mp hq
      rw [List.getElem_replicate] at e
      rw [← e]; rfl

/-- the value that a name of the scope holds -/
noncomputable def SlotVal (h : Heap) (env : Env) (x : Str) (v : Value) : Prop :=
  (env.kindOf x = some .local ∧ ∃ m, h.Ns env.locals m ∧ m x = some v) ∨
  ((env.kindOf x = some .cell ∨ env.kindOf x = some .free) ∧ ∃ c, env.cells.lookup x = some c ∧ h.IsCell c (some v))

/-- an own list, that may still change -/
noncomputable def OwnList (C : Addr) (h : Heap) (M : List Addr) (a : Addr) (d : V) : Prop := ∃ vs n ds, d = .list ds ∧ h.get? a = some (lst vs n) ∧ a ∈ M ∧ RepAll C h M vs ds

noncomputable def SlotIs (C : Addr) (h : Heap) (M : List Addr) (env : Env) (x : Str) (own : Bool) (d : V) : Prop :=
  ∃ v, SlotVal h env x v ∧ (if own then ∃ a, v = .ref a ∧ OwnList C h M a d else Rep C h M v d)

structure EnvOk (G : Gd) (sc : Scope) (env : Env) : Prop where
  scope : env.scope = sc
  globals : env.globals = mainGlobals
  builtins : env.builtins = builtinsNs
  above : G.h₀.objs.size ≤ env.locals
  kind : sc.kind = .function
  cells : ∀ x, env.kindOf x = some .cell ∨ env.kindOf x = some .free → ∃ c, env.cells.lookup x = some c
  apart : ∀ x y c, x ≠ y → env.cells.lookup x = some c → env.cells.lookup y ≠ some c
  cellsAbove : ∀ x c, env.cells.lookup x = some c → G.h₀.objs.size ≤ c

structure St (G : Gd) (lvl : Nat) (sc : Scope) (T : List (Str × Nat)) (ms : List Nat) (A : Around) (env : Env) (M : List Addr) (s : Shared) (ρ : Rho) : Prop where
  fit : Fit A lvl
  eok : EnvOk G sc env
  base : ∀ b o, G.h₀.get? b = some o → s.heap.get? b = some o
  live : Live s.heap M
  loc : env.locals ∈ M ∧ ∃ m, s.heap.Ns env.locals m
  cellAt : ∀ x c, env.cells.lookup x = some c → c ∈ M ∧ ∃ v, s.heap.IsCell c v
  slots : ∀ x i d, (x, i) ∈ T → get ρ i = some d → SlotIs G.C s.heap M env x (ms.contains i) d
  own : ∀ x y i j a, (x, i) ∈ T → (y, j) ∈ T → i ≠ j → ms.contains i = true → ms.contains j = true → SlotVal s.heap env x (.ref a) → ¬ SlotVal s.heap env y (.ref a)

theorem cell_keeps {h h' : Heap} {c : Addr} {v : Option Value} (hk : ∀ b o, h.get? b = some o → h'.get? b = some o) (x : h.IsCell c v) : h'.IsCell c v := let ⟨o, e, d⟩ := x; ⟨o, hk _ _ e, d⟩
theorem SlotVal.keeps {h h' : Heap} {env : Env} {x : Str} {v : Value} (hk : ∀ b o, h.get? b = some o → h'.get? b = some o) (sv : SlotVal h env x v) : SlotVal h' env x v := by
  rcases sv with ⟨k, m, n, e⟩ | ⟨k, c, l, e⟩
  · exact .inl ⟨k, m, n.keeps hk, e⟩
  · exact .inr ⟨k, c, l, cell_keeps hk e⟩
theorem Ns_unique {h : Heap} {a : Addr} {m m' : Str → Option Value} (x : h.Ns a m) (y : h.Ns a m') : m = m' := by
  obtain ⟨o, es, ep, ho, hd, _, hm⟩ := x
  obtain ⟨o', es', ep', ho', hd', _, hm'⟩ := y
  rw [ho] at ho'; cases ho'
  rw [hd] at hd'; cases hd'
  funext n; rw [← hm n, ← hm' n]
theorem cell_unique {h : Heap} {c : Addr} {v v' : Option Value} (x : h.IsCell c v) (y : h.IsCell c v') : v = v' := by
  obtain ⟨o, ho, hd⟩ := x
  obtain ⟨o', ho', hd'⟩ := y
  rw [ho] at ho'; cases ho'
  rw [hd] at hd'; cases hd'; rfl
theorem SlotVal.unique {h : Heap} {env : Env} {x : Str} {v v' : Value} (a : SlotVal h env x v) (b : SlotVal h env x v') : v = v' := by
  rcases a with ⟨k, m, n, e⟩ | ⟨k, c, l, e⟩ <;> rcases b with ⟨k', m', n', e'⟩ | ⟨k', c', l', e'⟩
  · cases Ns_unique n n'; rw [e] at e'; exact Option.some.inj e'
  · rcases k' with k' | k' <;> rw [k] at k' <;> cases k'
  · rcases k with k | k <;> rw [k'] at k <;> cases k
  · rw [l] at l'; cases l'; exact Option.some.inj (cell_unique e e')

theorem OwnList.ext {C : Addr} {M : List Addr} {s s' : Shared} {a : Addr} {d : V} (o : OwnList C s.heap M a d) (x : Ext s s') : OwnList C s'.heap M a d :=
  let ⟨vs, n, ds, e, g, m, r⟩ := o; ⟨vs, n, ds, e, x.keep _ _ g, m, r.ext x⟩
theorem SlotIs.ext {C : Addr} {M : List Addr} {s s' : Shared} {env : Env} {x : Str} {b : Bool} {d : V} (i : SlotIs C s.heap M env x b d) (e : Ext s s') : SlotIs C s'.heap M env x b d := by
  obtain ⟨v, sv, r⟩ := i
  refine ⟨v, sv.keeps e.keep, ?_⟩
  cases b with
  | true => exact let ⟨a, q, o⟩ := r; ⟨a, q, o.ext e⟩
  | false => exact Rep.ext r e

section
variable {G : Gd} {lvl : Nat} {sc : Scope} {T : List (Str × Nat)} {ms : List Nat} {A : Around} {env : Env} {M : List Addr} {s s' : Shared} {ρ : Rho}

theorem St.valBack (S : St G lvl sc T ms A env M s ρ) (e : Ext s s') {x : Str} {v : Value} (sv : SlotVal s'.heap env x v) : SlotVal s.heap env x v := by
  rcases sv with ⟨k, m, n, q⟩ | ⟨k, c, l, q⟩
  · obtain ⟨m', n'⟩ := S.loc.2
    cases Ns_unique (n'.keeps e.keep) n
    exact .inl ⟨k, _, n', q⟩
  · obtain ⟨v', q'⟩ := (S.cellAt x c l).2
    cases cell_unique (cell_keeps e.keep q') q
    exact .inr ⟨k, c, l, q'⟩
theorem St.ext (S : St G lvl sc T ms A env M s ρ) (e : Ext s s') : St G lvl sc T ms A env M s' ρ where
  fit := S.fit
  eok := S.eok
  base := fun b o q => e.keep b o (S.base b o q)
  live := S.live.ext e
  loc := ⟨S.loc.1, let ⟨m, n⟩ := S.loc.2; ⟨m, n.keeps e.keep⟩⟩
  cellAt := fun x c l => ⟨(S.cellAt x c l).1, let ⟨v, q⟩ := (S.cellAt x c l).2; ⟨v, cell_keeps e.keep q⟩⟩
  slots := fun x i d h g => (S.slots x i d h g).ext e
  own := fun x y i j a hx hy hn h1 h2 sx sy => S.own x y i j a hx hy hn h1 h2 (S.valBack e sx) (S.valBack e sy)
theorem St.fr (S : St G lvl sc T ms A env M s ρ) : ∃ m, Fr G.h₀ env.locals s.heap m := let ⟨m, n⟩ := S.loc.2; ⟨m, n, S.base, S.eok.above⟩
end

/-- the ground stands -/
noncomputable def Base (G : Gd) (s : Shared) : Prop := (∀ b o, G.h₀.get? b = some o → s.heap.get? b = some o) ∧ G.h₀.objs.size ≤ s.heap.objs.size
theorem St.base' {G : Gd} {lvl : Nat} {sc : Scope} {T : List (Str × Nat)} {ms : List Nat} {A : Around} {env : Env} {M : List Addr} {s : Shared} {ρ : Rho} (S : St G lvl sc T ms A env M s ρ) : Base G s :=
  ⟨S.base, let ⟨_, n⟩ := S.loc.2; Nat.le_of_lt (Nat.lt_of_le_of_lt S.eok.above n.lt)⟩

/-- e denotes F: pure -/
noncomputable def DenP (G : Gd) (lvl : Nat) (sc : Scope) (T : List (Str × Nat)) (ms : List Nat) (e : Expr) (F : Rho → Option V) : Prop :=
  ∀ A env M s ρ d, St G lvl sc T ms A env M s ρ → F ρ = some d →
    wpAny (model G.prog G.w) A (eval e env) (fun v s' => Ext s s' ∧ Rep G.C s'.heap M v d) NoE s
/-- e denotes a list, that may be an own one -/
noncomputable def DenL (G : Gd) (lvl : Nat) (sc : Scope) (T : List (Str × Nat)) (ms : List Nat) (e : Expr) (F : Rho → Option (List V)) : Prop :=
  ∀ A env M s ρ ds, St G lvl sc T ms A env M s ρ → F ρ = some ds →
    wpAny (model G.prog G.w) A (eval e env) (fun v s' => Ext s s' ∧ ∃ a vs n, v = .ref a ∧ s'.heap.get? a = some (lst vs n) ∧ RepAll G.C s'.heap M vs ds) NoE s
noncomputable def DenAll (G : Gd) (lvl : Nat) (sc : Scope) (T : List (Str × Nat)) (ms : List Nat) (es : List Expr) (F : Rho → Option (List V)) : Prop :=
  ∀ A env M s ρ ds pos, St G lvl sc T ms A env M s ρ → F ρ = some ds →
    wpAny (model G.prog G.w) A (spliced (backTo pos (starEach es env))) (fun vs s' => Ext s s' ∧ RepAll G.C s'.heap M vs ds ∧ vs.length = es.length) NoE s
/-- the truth of e -/
noncomputable def DenB (G : Gd) (lvl : Nat) (sc : Scope) (T : List (Str × Nat)) (ms : List Nat) (e : Expr) (F : Rho → Option Bool) : Prop :=
  ∀ A env M s ρ b, St G lvl sc T ms A env M s ρ → F ρ = some b →
    wpAny (model G.prog G.w) A (isTrue e env (eval e env)) (fun r s' => Ext s s' ∧ r = b) NoE s

noncomputable def binT (op : Operator) : List Value → Sem Value
  | [a, b] => binaryOp op a b
  | _ => unsupported ""
noncomputable def cmpT (op : CmpOp) : List Value → Sem Value
  | [a, b] => compareOp op a b
  | _ => unsupported ""
noncomputable def unT (op : UnaryOp) : List Value → Sem Value
  | [a] => unaryOp op a
  | _ => unsupported ""
noncomputable def subT (value slice : Expr) : List Value → Sem Value
  | [a, b] => subscriptTail value slice a b
  | _ => unsupported ""
/-- a step over data -/
noncomputable def Prim (G : Gd) (lvl : Nat) (t : List Value → Sem Value) (g : List V → Option V) : Prop :=
  ∀ A M s vs ds d, Fit A lvl → Base G s → Live s.heap M → RepAll G.C s.heap M vs ds → g ds = some d →
    wpAny (model G.prog G.w) A (t vs) (fun v s' => Ext s s' ∧ Rep G.C s'.heap M v d) NoE s

section
variable {G : Gd} {lvl : Nat} {sc : Scope} {T : List (Str × Nat)} {ms : List Nat}

theorem DenP.int {i : Int} {k : Nat} {pos : Pos} : DenP G lvl sc T ms (.Constant (.int i) k pos) fun _ => some (.int i) := fun A env M s ρ d S e => by
  cases e; exact wpAny_Constant_int ⟨Ext.same s _, .int _ _⟩
theorem DenP.str {x : Str} {k : Nat} {pos : Pos} : DenP G lvl sc T ms (.Constant (.str x) k pos) fun _ => some (.str x) := fun A env M s ρ d S e => by
  cases e; exact wpAny_Constant_str ⟨Ext.same s _, .str _ _⟩
theorem DenP.flt {x : UInt64} {k : Nat} {pos : Pos} : DenP G lvl sc T ms (.Constant (.float x) k pos) fun _ => some (.flt x) := fun A env M s ρ d S e => by
  cases e; exact PySem.wpAny_Constant_float ⟨Ext.same s _, .flt _ _⟩
theorem DenP.none {k : Nat} {pos : Pos} : DenP G lvl sc T ms (.Constant .none k pos) fun _ => some .none := fun A env M s ρ d S e => by
  cases e; exact wpAny_Constant_none ⟨Off.refl _ s, .none⟩
theorem DenP.bool {b : Bool} {k : Nat} {pos : Pos} : DenP G lvl sc T ms (.Constant (.bool b) k pos) fun _ => some (.bool b) := fun A env M s ρ d S e => by
  cases e; exact wpAny_Constant_bool ⟨Off.refl _ s, .bool _⟩

theorem name_slot {A : Around} {env : Env} {M : List Addr} {s : Shared} {ρ : Rho} {x : Str} {pos : Pos} {v : Value} {Q : Value → Shared → Prop} {E : Value → Shared → Prop} (S : St G lvl sc T ms A env M s ρ) (sv : SlotVal s.heap env x v) (h : Q v s)
    (hd : (x == ("__debug__" : Str)) = false) (hn : (x == ("__classdict__" : Str)) = false) : wpAny (model G.prog G.w) A (eval (.Name x pos) env) Q E s := by
  have hk : env.scope.kind = .function := by rw [S.eok.scope]; exact S.eok.kind
  rcases sv with ⟨k, m, n, e⟩ | ⟨k | k, c, l, e⟩
  · exact wpAny_Name (wpAny_loadName_local hk k n e h) hd
  · exact wpAny_Name (wpAny_loadName_cell hk k l e h) hd
  · exact wpAny_Name (wpAny_loadName_free hk k l e h hn) hd

noncomputable def plainName (x : Str) : Bool := !(x == ("__debug__" : Str)) && !(x == ("__classdict__" : Str))
theorem DenP.name {x : Str} {pos : Pos} (i : Nat) (hT : (x, i) ∈ T) (hm : ms.contains i = false) (hp : plainName x = true) : DenP G lvl sc T ms (.Name x pos) fun ρ => get ρ i := fun A env M s ρ d S e => by
  simp only [plainName, Bool.and_eq_true, Bool.not_eq_true'] at hp
  obtain ⟨v, sv, r⟩ := S.slots x i d hT e
  rw [hm] at r
  exact name_slot S sv ⟨Off.refl _ s, r⟩ hp.1 hp.2
noncomputable def asList : Option V → Option (List V)
  | some (.list ds) => some ds
  | _ => Option.none
theorem asList_some {o : Option V} {ds : List V} (h : asList o = some ds) : o = some (.list ds) := by
  unfold asList at h
  split at h
  · cases h; rfl
  · cases h
theorem DenL.name {x : Str} {pos : Pos} (i : Nat) (hT : (x, i) ∈ T) (hp : plainName x = true) : DenL G lvl sc T ms (.Name x pos) fun ρ => asList (get ρ i) := fun A env M s ρ ds S e => by
  simp only [plainName, Bool.and_eq_true, Bool.not_eq_true'] at hp
  have hg := asList_some e
  obtain ⟨v, sv, r⟩ := S.slots x i _ hT hg
  cases hm : ms.contains i with
  | false =>
    rw [hm] at r
    cases r with
    | list e m r => exact name_slot S sv ⟨Off.refl _ s, _, _, _, rfl, e, r⟩ hp.1 hp.2
  | true =>
    rw [hm] at r
    obtain ⟨a, rfl, vs, n, ds, q, g, m, r⟩ := r
    cases q
    exact name_slot S sv ⟨Off.refl _ s, a, vs, n, rfl, g, r⟩ hp.1 hp.2
theorem DenL.of {e : Expr} {F : Rho → Option V} (h : DenP G lvl sc T ms e F) : DenL G lvl sc T ms e fun ρ => asList (F ρ) := fun A env M s ρ ds S q => by
  refine wp_use (h A env M s ρ _ S (asList_some q)) fun v s' ⟨x, r⟩ => ?_
  cases r with
  | list e m r => exact ⟨x, _, _, _, rfl, e, r⟩

theorem DenAll.nil : DenAll G lvl sc T ms [] fun _ => some [] := fun A env M s ρ ds pos S e => by
  cases e; exact spliced_nil ⟨Off.refl _ s, .nil, rfl⟩
theorem DenAll.cons {e : Expr} {es : List Expr} {F : Rho → Option V} {Fs : Rho → Option (List V)} (h : DenP G lvl sc T ms e F) (hs : DenAll G lvl sc T ms es Fs) (he : (match e with | .Starred .. => false | _ => true) = true) :
    DenAll G lvl sc T ms (e :: es) fun ρ => (F ρ).bind fun d => (Fs ρ).bind fun ds => some (d :: ds) := fun A env M s ρ ds pos S q => by
  obtain ⟨d, hd, q⟩ := Option.bind_eq_some_iff.mp q
  obtain ⟨ds', hds, q⟩ := Option.bind_eq_some_iff.mp q
  cases q
  have : starEach (e :: es) env = (false, eval e env) :: starEach es env := by cases e <;> first | rfl | cases he
  rw [this]
  show wpAny _ _ (spliced ((false, (if false = true then _ else eval e env)) :: backTo pos (starEach es env))) _ _ _
  refine spliced_cons (wp_use (h A env M s ρ d S hd) fun v s₁ ⟨x, r⟩ => wp_use (hs A env M s₁ ρ ds' pos (S.ext x) hds) fun vs s₂ ⟨y, rs, hl⟩ => ⟨x.trans y, .cons (r.ext y) rs, by simp [hl]⟩)

theorem DenP.tuple {es : List Expr} {k : Nat} {pos : Pos} {F : Rho → Option (List V)} (h : DenAll G lvl sc T ms es F) (hl : decide (es.length ≤ 1000) = true) : DenP G lvl sc T ms (.Tuple es k pos) fun ρ => (F ρ).map .tup := fun A env M s ρ d S q => by
  obtain ⟨ds, hds, rfl⟩ := Option.map_eq_some_iff.mp q
  refine wpAny_Tuple (wp_use (h A env M s ρ ds pos S hds) fun vs s₁ ⟨x, r, hn⟩ => ⟨by rw [hn, sizeLine_eq]; have := of_decide_eq_true hl; omega, x.trans (Ext.push s₁ _ _), ?_⟩)
  have x' : Ext s₁ { s₁ with heap := s₁.heap.push (tpl vs 0) } := Ext.push s₁ _ _
  exact .tup (n := 0) (Heap.get?_push_size _ rfl) ((S.live.ext x).new) (r.ext x')
theorem DenP.list {es : List Expr} {pos : Pos} {F : Rho → Option (List V)} (h : DenAll G lvl sc T ms es F) (hl : decide (es.length ≤ 1000) = true) : DenP G lvl sc T ms (.List es pos) fun ρ => (F ρ).map .list := fun A env M s ρ d S q => by
  obtain ⟨ds, hds, rfl⟩ := Option.map_eq_some_iff.mp q
  refine wpAny_List (wp_use (h A env M s ρ ds pos S hds) fun vs s₁ ⟨x, r, hn⟩ => ⟨by rw [hn, sizeLine_eq]; have := of_decide_eq_true hl; omega, x.trans (Ext.push s₁ _ _), ?_⟩)
  have x' : Ext s₁ { s₁ with heap := s₁.heap.push (lst vs 0) } := Ext.push s₁ _ _
  exact .list (n := 0) (Heap.get?_push_size _ rfl) ((S.live.ext x).new) (r.ext x')

/-- binary operators, comparisons, calls over data -/
theorem DenP.bin {l r : Expr} {op : Operator} {pos : Pos} {F₁ F₂ : Rho → Option V} {g : List V → Option V} (hg : Prim G lvl (binT op) g)
    (h₁ : DenP G lvl sc T ms l F₁) (h₂ : DenP G lvl sc T ms r F₂) : DenP G lvl sc T ms (.BinOp l op r pos) fun ρ => (F₁ ρ).bind fun a => (F₂ ρ).bind fun b => g [a, b] := fun A env M s ρ d S q => by
  obtain ⟨a, ha, q⟩ := Option.bind_eq_some_iff.mp q
  obtain ⟨b, hb, q⟩ := Option.bind_eq_some_iff.mp q
  refine wpAny_BinOp (wp_use (h₁ A env M s ρ a S ha) fun va s₁ ⟨x, ra⟩ => wp_use (h₂ A env M s₁ ρ b (S.ext x) hb) fun vb s₂ ⟨y, rb⟩ => ?_)
  have S₂ := (S.ext x).ext y
  exact wp_use (hg A M s₂ [va, vb] [a, b] d S₂.fit S₂.base' S₂.live (.cons (ra.ext y) (.cons rb .nil)) q) fun v s₃ ⟨z, r⟩ => ⟨(x.trans y).trans z, r⟩
theorem DenP.cmp {l r : Expr} {op : CmpOp} {pos : Pos} {F₁ F₂ : Rho → Option V} {g : List V → Option V} (hg : Prim G lvl (cmpT op) g)
    (h₁ : DenP G lvl sc T ms l F₁) (h₂ : DenP G lvl sc T ms r F₂) (hm : behindInMarks op r = false) : DenP G lvl sc T ms (.Compare l [op] [r] pos) fun ρ => (F₁ ρ).bind fun a => (F₂ ρ).bind fun b => g [a, b] := fun A env M s ρ d S q => by
  obtain ⟨a, ha, q⟩ := Option.bind_eq_some_iff.mp q
  obtain ⟨b, hb, q⟩ := Option.bind_eq_some_iff.mp q
  refine wpAny_Compare1 (wp_use (h₁ A env M s ρ a S ha) fun va s₁ ⟨x, ra⟩ => wp_use (h₂ A env M s₁ ρ b (S.ext x) hb) fun vb s₂ ⟨y, rb⟩ => ?_) hm
  have S₂ := (S.ext x).ext y
  exact wp_use (hg A M s₂ [va, vb] [a, b] d S₂.fit S₂.base' S₂.live (.cons (ra.ext y) (.cons rb .nil)) q) fun v s₃ ⟨z, r⟩ => ⟨(x.trans y).trans z, r⟩
theorem DenP.un {e : Expr} {op : UnaryOp} {pos : Pos} {F : Rho → Option V} {g : List V → Option V} (hg : Prim G lvl (unT op) g)
    (h : DenP G lvl sc T ms e F) : DenP G lvl sc T ms (.UnaryOp op e pos) fun ρ => (F ρ).bind fun a => g [a] := fun A env M s ρ d S q => by
  obtain ⟨a, ha, q⟩ := Option.bind_eq_some_iff.mp q
  refine wpAny_UnaryOp (wp_use (h A env M s ρ a S ha) fun va s₁ ⟨x, ra⟩ => ?_)
  have S₁ := S.ext x
  exact wp_use (hg A M s₁ [va] [a] d S₁.fit S₁.base' S₁.live (.cons ra .nil) q) fun v s₃ ⟨z, r⟩ => ⟨x.trans z, r⟩

/-- a global name of the ground heap; a built-in's name -/
noncomputable def GlobAt (h : Heap) (x : Str) (v : Value) : Prop := ∃ mg, h.Ns mainGlobals mg ∧ mg x = some v
noncomputable def BuiltAt (h : Heap) (x : Str) (v : Value) : Prop := ∃ mg mb, h.Ns mainGlobals mg ∧ mg x = none ∧ h.Ns builtinsNs mb ∧ mb x = some v

noncomputable def isGlobal (sc : Scope) (x : Str) : Bool := sc.names.lookup x == some .globalImplicit
theorem St.global {A : Around} {env : Env} {M : List Addr} {s : Shared} {ρ : Rho} {x : Str} {pos : Pos} {v : Value} {Q : Value → Shared → Prop} {E : Value → Shared → Prop} (S : St G lvl sc T ms A env M s ρ) (hx : isGlobal sc x = true) (hp : plainName x = true)
    (hg : GlobAt G.h₀ x v ∨ BuiltAt G.h₀ x v) (h : Q v s) : wpAny (model G.prog G.w) A (eval (.Name x pos) env) Q E s := by
  simp only [plainName, Bool.and_eq_true, Bool.not_eq_true'] at hp
  have hk : env.scope.kind = .function := by rw [S.eok.scope]; exact S.eok.kind
  have hx' : env.kindOf x = some .globalImplicit := by unfold Env.kindOf; rw [S.eok.scope]; exact beq_iff_eq.mp hx
  refine wpAny_Name ?_ hp.1
  rw [loadName_read hk hx']
  rcases hg with ⟨mg, n, e⟩ | ⟨mg, mb, n, e, nb, eb⟩
  · exact loadGlobal_global (by rw [S.eok.globals]; exact n.keeps S.base) e h
  · exact loadGlobal_builtin (by rw [S.eok.globals]; exact n.keeps S.base) e (by rw [S.eok.builtins]; exact nb.keeps S.base) eb h

theorem plain_args {es : List Expr} {env : Env} {pos : Pos} (h : (es.all fun e => match e with | .Starred .. => false | _ => true) = true) : (backTo pos (starEach es env)).any (·.1) = false := by
  induction es with
  | nil => rfl
  | cons e es ih =>
    rw [List.all_cons, Bool.and_eq_true] at h
    have : starEach (e :: es) env = (false, eval e env) :: starEach es env := by cases e <;> first | rfl | cases h.1
    rw [this]
    show (false || (backTo pos (starEach es env)).any (·.1)) = false
    rw [Bool.false_or]; exact ih h.2
noncomputable def plainArgs (es : List Expr) : Bool := !es.isEmpty && es.all fun e => match e with | .Starred .. => false | _ => true
theorem evalArgs_spliced {M : Model} {A : Around} {E : Value → Shared → Prop} {s : Shared} {f : Value} {es : List Expr} {env : Env} {pos : Pos} {Q : Args → Shared → Prop} (h : plainArgs es = true)
    (hq : wpAny M A (spliced (backTo pos (starEach es env))) (fun vs s' => Q ⟨vs, []⟩ s') E s) : wpAny M A (evalArgs f true (backTo pos (starEach es env)) []) Q E s := by
  cases es with
  | nil => cases h
  | cons e es =>
    unfold plainArgs at h
    rw [Bool.and_eq_true, List.all_cons, Bool.and_eq_true] at h
    have : starEach (e :: es) env = (false, eval e env) :: starEach es env := by cases e <;> first | rfl | cases h.2.1
    rw [this] at hq ⊢
    exact evalArgs_plain hq

theorem callN {A : Around} {env : Env} {M : List Addr} {s : Shared} {ρ : Rho} {x : Str} {np pos : Pos} {es : List Expr} {Q : Value → Shared → Prop} {E : Value → Shared → Prop} (S : St G lvl sc T ms A env M s ρ) (hx : isGlobal sc x = true) (hp : plainName x = true) {f : Value} 
    (hg : GlobAt G.h₀ x f ∨ BuiltAt G.h₀ x f) (h : wpAny (model G.prog G.w) A (callWith pos f [] (backTo pos (starEach es env)) []) Q E s) : wpAny (model G.prog G.w) A (eval (.Call (.Name x np) es [] pos) env) Q E s :=
  wpAny_Call_ofName (S.global hx hp hg h)

theorem DenP.callB {x : Str} {np pos : Pos} {es : List Expr} {id : String} {F : Rho → Option (List V)} {g : List V → Option V} (hp : Prim G lvl (fun vs => call (.builtin id) vs) g) (hb : BuiltAt G.h₀ x (.builtin id)) (h : DenAll G lvl sc T ms es F)
    (hx : isGlobal sc x = true) (hn : plainName x = true) (ha : plainArgs es = true) : DenP G lvl sc T ms (.Call (.Name x np) es [] pos) fun ρ => (F ρ).bind g := fun A env M s ρ d S q => by
  obtain ⟨ds, hds, q⟩ := Option.bind_eq_some_iff.mp q
  refine callN S hx hn (.inr hb) (callWith_builtin (plain_args (by unfold plainArgs at ha; exact (Bool.and_eq_true_iff.mp ha).2)) (evalArgs_spliced ha (wp_use (h A env M s ρ ds pos S hds) fun vs s₁ ⟨e, r, _⟩ => ?_)))
  have S₁ := S.ext e
  exact wp_use (hp A M s₁ vs ds d S₁.fit S₁.base' S₁.live r q) fun v s₂ ⟨y, r'⟩ => ⟨e.trans y, r'⟩
theorem DenP.callT {x : Str} {np pos : Pos} {es : List Expr} {id : String} {F : Rho → Option (List V)} {g : List V → Option V} (hp : Prim G lvl (fun vs => call (.type id) vs) g) (hb : BuiltAt G.h₀ x (.type id)) (h : DenAll G lvl sc T ms es F)
    (hx : isGlobal sc x = true) (hn : plainName x = true) (ha : plainArgs es = true) : DenP G lvl sc T ms (.Call (.Name x np) es [] pos) fun ρ => (F ρ).bind g := fun A env M s ρ d S q => by
  obtain ⟨ds, hds, q⟩ := Option.bind_eq_some_iff.mp q
  refine callN S hx hn (.inr hb) (PyProof.Rows.callWith_type (plain_args (by unfold plainArgs at ha; exact (Bool.and_eq_true_iff.mp ha).2)) (evalArgs_spliced ha (wp_use (h A env M s ρ ds pos S hds) fun vs s₁ ⟨e, r, _⟩ => ?_)))
  have S₁ := S.ext e
  exact wp_use (hp A M s₁ vs ds d S₁.fit S₁.base' S₁.live r q) fun v s₂ ⟨y, r'⟩ => ⟨e.trans y, r'⟩

/-- a def of the ground heap -/
noncomputable def FnAt (h : Heap) (a : Addr) : Prop := ∃ o fd, h.get? a = some o ∧ o.data = .func fd
theorem DenP.callF {x : Str} {np pos : Pos} {es : List Expr} {a : Addr} {F : Rho → Option (List V)} {g : List V → Option V} (hp : Prim G lvl (fun vs => call (.ref a) vs) g) (hb : GlobAt G.h₀ x (.ref a)) (hf : FnAt G.h₀ a) (h : DenAll G lvl sc T ms es F)
    (hx : isGlobal sc x = true) (hn : plainName x = true) (ha : plainArgs es = true) : DenP G lvl sc T ms (.Call (.Name x np) es [] pos) fun ρ => (F ρ).bind g := fun A env M s ρ d S q => by
  obtain ⟨ds, hds, q⟩ := Option.bind_eq_some_iff.mp q
  obtain ⟨o, fd, ho, hd⟩ := hf
  refine callN S hx hn (.inl hb) (callWith_function (o := o) (fd := fd) (evalArgs_spliced ha (wp_use (h A env M s ρ ds pos S hds) fun vs s₁ ⟨e, r, _⟩ => ?_)))
  have S₁ := S.ext e
  exact ⟨⟨S₁.base _ _ ho, hd⟩, wp_use (hp A M s₁ vs ds d S₁.fit S₁.base' S₁.live r q) fun v s₂ ⟨y, r'⟩ => ⟨e.trans y, r'⟩⟩
end
end Mine
end

section
namespace Mine
open PySem PySem.Calls PyProof.Rows

noncomputable def asBool : Option V → Option Bool
  | some (.bool b) => some b
  | _ => Option.none
theorem asBool_some {o : Option V} {b : Bool} (h : asBool o = some b) : o = some (.bool b) := by
  unfold asBool at h
  split at h
  · cases h; rfl
  · cases h
theorem Rep.isBool {C : Addr} {h : Heap} {M : List Addr} {v : Value} {b : Bool} (r : Rep C h M v (.bool b)) : v = .bool b := by cases r; rfl

section
variable {G : Gd} {lvl : Nat} {sc : Scope} {T : List (Str × Nat)} {ms : List Nat}

theorem DenB.cmp {l r : Expr} {op : CmpOp} {pos : Pos} {F₁ F₂ : Rho → Option V} {g : List V → Option V} (hg : Prim G lvl (cmpT op) g)
    (h₁ : DenP G lvl sc T ms l F₁) (h₂ : DenP G lvl sc T ms r F₂) (hm : behindInMarks op r = false) : DenB G lvl sc T ms (.Compare l [op] [r] pos) fun ρ => asBool ((F₁ ρ).bind fun a => (F₂ ρ).bind fun b => g [a, b]) := fun A env M s ρ d S q => by
  obtain ⟨a, ha, q⟩ := Option.bind_eq_some_iff.mp (asBool_some q)
  obtain ⟨b, hb, q⟩ := Option.bind_eq_some_iff.mp q
  refine wpAny_isTrue_Compare1 (wp_use (h₁ A env M s ρ a S ha) fun va s₁ ⟨x, ra⟩ => wp_use (h₂ A env M s₁ ρ b (S.ext x) hb) fun vb s₂ ⟨y, rb⟩ => ?_) hm
  have S₂ := (S.ext x).ext y
  exact wp_use (hg A M s₂ [va, vb] [a, b] _ S₂.fit S₂.base' S₂.live (.cons (ra.ext y) (.cons rb .nil)) q) fun v s₃ ⟨z, r⟩ => by
    cases r.isBool; exact wpAny_truthy_bool ⟨(x.trans y).trans z, rfl⟩
theorem DenB.val {e : Expr} {F : Rho → Option V} (h : DenP G lvl sc T ms e F) (he : ∀ env whole, isTrue e env whole = (do let v ← whole; standAt e.pos; holding [v] (truthy v))) : DenB G lvl sc T ms e fun ρ => asBool (F ρ) := fun A env M s ρ b S q =>
  isTrue_plain (wp_use (h A env M s ρ _ S (asBool_some q)) fun v s₁ ⟨x, r⟩ => by cases r.isBool; exact wpAny_truthy_bool ⟨x, rfl⟩) (he _ _)
theorem DenB.not {e : Expr} {pos : Pos} {F : Rho → Option Bool} (h : DenB G lvl sc T ms e F) : DenB G lvl sc T ms (.UnaryOp .Not e pos) fun ρ => (F ρ).map (!·) := fun A env M s ρ b S q => by
  obtain ⟨c, hc, rfl⟩ := Option.map_eq_some_iff.mp q
  exact wpAny_isTrue_Not (wp_use (h A env M s ρ c S hc) fun r s₁ ⟨x, e⟩ => ⟨x, by rw [e]⟩)
theorem DenB.and2 {e e' : Expr} {pos : Pos} {F F' : Rho → Option Bool} (h : DenB G lvl sc T ms e F) (h' : DenB G lvl sc T ms e' F') : DenB G lvl sc T ms (.BoolOp .And [e, e'] pos) fun ρ => (F ρ).bind fun b => if b then F' ρ else some false := fun A env M s ρ b S q => by
  obtain ⟨c, hc, q⟩ := Option.bind_eq_some_iff.mp q
  refine wpAny_isTrue_BoolOp (wpAny_allTrue_And_cons (wp_use (h A env M s ρ c S hc) fun r s₁ ⟨x, e⟩ => ?_))
  subst e
  cases r with
  | false => cases q; exact ⟨x, rfl⟩
  | true =>
    refine wpAny_allTrue_And_cons (wp_use (h' A env M s₁ ρ b (S.ext x) q) fun r s₂ ⟨y, e⟩ => ?_)
    subst e
    cases r with
    | false => exact ⟨x.trans y, rfl⟩
    | true => exact wpAny_allTrue_And_nil ⟨x.trans y, rfl⟩
theorem DenB.or2 {e e' : Expr} {pos : Pos} {F F' : Rho → Option Bool} (h : DenB G lvl sc T ms e F) (h' : DenB G lvl sc T ms e' F') : DenB G lvl sc T ms (.BoolOp .Or [e, e'] pos) fun ρ => (F ρ).bind fun b => if b then some true else F' ρ := fun A env M s ρ b S q => by
  obtain ⟨c, hc, q⟩ := Option.bind_eq_some_iff.mp q
  refine wpAny_isTrue_BoolOp (wpAny_allTrue_Or_cons (wp_use (h A env M s ρ c S hc) fun r s₁ ⟨x, e⟩ => ?_))
  subst e
  cases r with
  | true => cases q; exact ⟨x, rfl⟩
  | false =>
    refine wpAny_allTrue_Or_cons (wp_use (h' A env M s₁ ρ b (S.ext x) q) fun r s₂ ⟨y, e⟩ => ?_)
    subst e
    cases r with
    | true => exact ⟨x.trans y, rfl⟩
    | false => exact wpAny_allTrue_Or_nil ⟨x.trans y, rfl⟩

/-- «in» a list that may be an own one -/
noncomputable def PrimIn (G : Gd) (op : CmpOp) (g : V → List V → Option Bool) : Prop :=
  ∀ A M s va a vs n da ds b, Fit A 0 → Rep G.C s.heap M va da → s.heap.get? a = some (lst vs n) → RepAll G.C s.heap M vs ds → g da ds = some b →
    wpAny (model G.prog G.w) A (compareOp op va (.ref a)) (fun v s' => Ext s s' ∧ v = .bool b) NoE s
theorem DenB.inL {l r : Expr} {op : CmpOp} {pos : Pos} {F₁ : Rho → Option V} {F₂ : Rho → Option (List V)} {g : V → List V → Option Bool} (hg : PrimIn G op g)
    (h₁ : DenP G lvl sc T ms l F₁) (h₂ : DenL G lvl sc T ms r F₂) (hm : behindInMarks op r = false) : DenB G lvl sc T ms (.Compare l [op] [r] pos) fun ρ => (F₁ ρ).bind fun a => (F₂ ρ).bind fun b => g a b := fun A env M s ρ d S q => by
  obtain ⟨a, ha, q⟩ := Option.bind_eq_some_iff.mp q
  obtain ⟨b, hb, q⟩ := Option.bind_eq_some_iff.mp q
  refine wpAny_isTrue_Compare1 (wp_use (h₁ A env M s ρ a S ha) fun va s₁ ⟨x, ra⟩ => wp_use (h₂ A env M s₁ ρ b (S.ext x) hb) fun vb s₂ ⟨y, c, vs, n, e, hc, rb⟩ => ?_) hm
  subst e
  have S₂ := (S.ext x).ext y
  exact wp_use (hg A M s₂ va c vs n a b d (S₂.fit.less (Nat.zero_le _)) (ra.ext y) hc rb q) fun v s₃ ⟨z, r⟩ => by
    cases r; exact wpAny_truthy_bool ⟨(x.trans y).trans z, rfl⟩

/-- and, as a value: all parts are truth values -/
noncomputable def DenAnd (G : Gd) (lvl : Nat) (sc : Scope) (T : List (Str × Nat)) (ms : List Nat) (es : List Expr) (F : Rho → Option Bool) : Prop :=
  ∀ A env M s ρ b pos, St G lvl sc T ms A env M s ρ → F ρ = some b →
    wpAny (model G.prog G.w) A (boolOp pos .And (evalEach es env)) (fun v s' => Ext s s' ∧ v = .bool b) NoE s
theorem DenAnd.one {e : Expr} {F : Rho → Option V} (h : DenP G lvl sc T ms e F) : DenAnd G lvl sc T ms [e] fun ρ => asBool (F ρ) := fun A env M s ρ b pos S q =>
  wp_use (h A env M s ρ _ S (asBool_some q)) fun v s₁ ⟨x, r⟩ => ⟨x, r.isBool⟩
theorem DenAnd.cons {e e' : Expr} {es : List Expr} {F : Rho → Option V} {Fs : Rho → Option Bool} (h : DenP G lvl sc T ms e F) (hs : DenAnd G lvl sc T ms (e' :: es) Fs) : DenAnd G lvl sc T ms (e :: e' :: es) fun ρ => (asBool (F ρ)).bind fun b => if b then Fs ρ else some false := fun A env M s ρ b pos S q => by
  obtain ⟨c, hc, q⟩ := Option.bind_eq_some_iff.mp q
  show wpAny _ A (boolOp pos .And (eval e env :: evalEach (e' :: es) env)) _ _ s
  have hb : boolOp pos .And (eval e env :: evalEach (e' :: es) env) = (do
    let v ← eval e env
    standAt pos
    let t ← holding [v] (truthy v)
    match BoolOp.And, t with
    | .And, false | .Or, true => pure v
    | _, _ => boolOp pos .And (evalEach (e' :: es) env)) := rfl
  rw [hb]
  refine wpAny_bind (wp_use (h A env M s ρ _ S (asBool_some hc)) fun v s₁ ⟨x, r⟩ => wpAny_bind (wpAny_standAt (wpAny_bind (wpAny_holding ?_))))
  cases r.isBool
  refine wpAny_truthy_bool ?_
  cases c with
  | false => cases q; exact wpAny_pure ⟨x, rfl⟩
  | true => exact wp_use (hs A env M s₁ ρ b pos (S.ext x) q) fun v s₂ ⟨y, e⟩ => ⟨x.trans y, e⟩
theorem DenP.and {es : List Expr} {pos : Pos} {F : Rho → Option Bool} (h : DenAnd G lvl sc T ms es F) : DenP G lvl sc T ms (.BoolOp .And es pos) fun ρ => (F ρ).map .bool := fun A env M s ρ d S q => by
  obtain ⟨b, hb, rfl⟩ := Option.map_eq_some_iff.mp q
  rw [arm_eval_BoolOp]
  exact wp_use (h A env M s ρ b pos S hb) fun v s₁ ⟨x, e⟩ => ⟨x, e ▸ .bool b⟩

/-- a op b op' c -/
theorem DenP.chain2 {l r r' : Expr} {op op' : CmpOp} {pos : Pos} {F₁ F₂ F₃ : Rho → Option V} {g g' : List V → Option V} (hg : Prim G lvl (cmpT op) g)
    (hg' : Prim G lvl (cmpT op') g')
    (h₁ : DenP G lvl sc T ms l F₁) (h₂ : DenP G lvl sc T ms r F₂) (h₃ : DenP G lvl sc T ms r' F₃) (hm : ∀ env, markedEach [op, op'] [r, r'] (evalEach [r, r'] env) = [eval r env, eval r' env]) :
    DenP G lvl sc T ms (.Compare l [op, op'] [r, r'] pos) fun ρ => (F₁ ρ).bind fun a => (F₂ ρ).bind fun b => (asBool (g [a, b])).bind fun t => if t then (F₃ ρ).bind fun c => g' [b, c] else some (.bool false) := fun A env M s ρ d S q => by
  obtain ⟨a, ha, q⟩ := Option.bind_eq_some_iff.mp q
  obtain ⟨b, hb, q⟩ := Option.bind_eq_some_iff.mp q
  obtain ⟨t, ht, q⟩ := Option.bind_eq_some_iff.mp q
  have he : eval (.Compare l [op, op'] [r, r'] pos) env = (do compareChain pos (← eval l env) [op, op'] (markedEach [op, op'] [r, r'] (evalEach [r, r'] env))) := rfl
  rw [he, hm]
  refine wpAny_bind (wp_use (h₁ A env M s ρ a S ha) fun va s₁ ⟨x, ra⟩ => ?_)
  have hc : compareChain pos va [op, op'] [eval r env, eval r' env] = (do
    let rv ← holding [va] (eval r env)
    standAt pos
    let c ← holding [va, rv] (compareOp op va rv)
    release [va, rv] [c]
    if ← holding [c, rv] (truthy c) then compareChain pos rv [op'] [eval r' env] else pure c) := rfl
  rw [hc]
  refine wpAny_bind (wpAny_holding (wp_use (h₂ A env M s₁ ρ b (S.ext x) hb) fun vb s₂ ⟨y, rb⟩ => wpAny_bind (wpAny_standAt (wpAny_bind (wpAny_holding ?_)))))
  have S₂ := (S.ext x).ext y
  refine wp_use (hg A M s₂ [va, vb] [a, b] _ S₂.fit S₂.base' S₂.live (.cons (ra.ext y) (.cons rb .nil)) (asBool_some ht)) fun v s₃ ⟨z, rv⟩ => ?_
  cases rv.isBool
  have S₃ := S₂.ext z
  refine wpAny_bind (wpAny_release (wpAny_bind (wpAny_holding (wpAny_truthy_bool ?_))))
  cases t with
  | false => cases q; exact wpAny_pure ⟨(x.trans y).trans z, .bool _⟩
  | true =>
    obtain ⟨c, hc, q⟩ := Option.bind_eq_some_iff.mp (show ((F₃ ρ).bind fun c => g' [b, c]) = some d from q)
    have hl : compareChain pos vb [op'] [eval r' env] = (do
      let rv ← holding [vb] (eval r' env)
      standAt pos
      operate [vb, rv] (compareOp op' vb rv)) := rfl
    show wpAny _ A (compareChain pos vb [op'] [eval r' env]) _ _ s₃
    rw [hl]
    refine wpAny_bind (wpAny_holding (wp_use (h₃ A env M s₃ ρ c S₃ hc) fun vc s₄ ⟨u, rc⟩ => wpAny_bind (wpAny_standAt (wpAny_operate' ?_))))
    have S₄ := S₃.ext u
    exact wp_use (hg' A M s₄ [vb, vc] [b, c] d S₄.fit S₄.base' S₄.live (.cons ((rb.ext z).ext u) (.cons rc .nil)) q) fun v s₅ ⟨o, r⟩ => ⟨(((x.trans y).trans z).trans u).trans o, r⟩

theorem DenP.ite {t b o : Expr} {pos : Pos} {F₀ : Rho → Option Bool} {F₁ F₂ : Rho → Option V} (h : DenB G lvl sc T ms t F₀) (h₁ : DenP G lvl sc T ms b F₁) (h₂ : DenP G lvl sc T ms o F₂) :
    DenP G lvl sc T ms (.IfExp t b o pos) fun ρ => (F₀ ρ).bind fun c => if c then F₁ ρ else F₂ ρ := fun A env M s ρ d S q => by
  obtain ⟨c, hc, q⟩ := Option.bind_eq_some_iff.mp q
  refine wpAny_IfExp (wp_use (h A env M s ρ c S hc) fun r s₁ ⟨x, e⟩ => ?_)
  subst e
  cases r with
  | true => exact wp_use (h₁ A env M s₁ ρ d (S.ext x) q) fun v s₂ ⟨y, r⟩ => ⟨x.trans y, r⟩
  | false => exact wp_use (h₂ A env M s₁ ρ d (S.ext x) q) fun v s₂ ⟨y, r⟩ => ⟨x.trans y, r⟩

/-- o[i], o[a:b] -/
theorem DenP.sub {v i : Expr} {pos : Pos} {F₁ F₂ : Rho → Option V} {g : List V → Option V} (hg : ∀ value, Prim G lvl (subT value i) g)
    (h₁ : DenP G lvl sc T ms v F₁) (h₂ : DenP G lvl sc T ms i F₂) : DenP G lvl sc T ms (.Subscript v i pos) fun ρ => (F₁ ρ).bind fun a => (F₂ ρ).bind fun b => g [a, b] := fun A env M s ρ d S q => by
  obtain ⟨a, ha, q⟩ := Option.bind_eq_some_iff.mp q
  obtain ⟨b, hb, q⟩ := Option.bind_eq_some_iff.mp q
  refine Subscript_ (wp_use (h₁ A env M s ρ a S ha) fun va s₁ ⟨x, ra⟩ => wp_use (h₂ A env M s₁ ρ b (S.ext x) hb) fun vb s₂ ⟨y, rb⟩ => ?_)
  have S₂ := (S.ext x).ext y
  exact wp_use (hg v A M s₂ [va, vb] [a, b] d S₂.fit S₂.base' S₂.live (.cons (ra.ext y) (.cons rb .nil)) q) fun v s₃ ⟨z, r⟩ => ⟨(x.trans y).trans z, r⟩
end
end Mine
end

section
namespace Mine
open PySem PySem.Calls PyProof.Rows

/-- sizes that this law stays under -/
noncomputable abbrev roof : Nat := 100000

noncomputable def addV : List V → Option V
  | [.int a, .int b] => some (.int (a + b))
  | [.flt a, .flt b] => some (.flt (Float64.add a b))
  | [.flt a, .int b] => if b.natAbs < roof then some (.flt (Float64.add a (Float64.ofInt b))) else none
  | [.str a, .str b] => if a.length + b.length < roof then some (.str (a ++ b)) else none
  | [.list a, .list b] => if a.length + b.length < roof then some (.list (a ++ b)) else none
  | _ => none
noncomputable def subV : List V → Option V
  | [.int a, .int b] => some (.int (a - b))
  | [.flt a, .flt b] => some (.flt (Float64.sub a b))
  | [.int a, .flt b] => if a.natAbs < roof then some (.flt (Float64.sub (Float64.ofInt a) b)) else none
  | _ => none
noncomputable def mulV : List V → Option V
  | [.int a, .int b] => if a.natAbs < roof || b.natAbs < roof then some (.int (a * b)) else none
  | [.flt a, .flt b] => some (.flt (Float64.mul a b))
  | [.int a, .flt b] => if a.natAbs < roof then some (.flt (Float64.mul (Float64.ofInt a) b)) else none
  | [.flt a, .int b] => if b.natAbs < roof then some (.flt (Float64.mul a (Float64.ofInt b))) else none
  | [.list [a], .int b] => if 0 ≤ b && b < 1000 then some (.list (List.replicate b.toNat a)) else none
  | _ => none
noncomputable def divV : List V → Option V
  | [.int a, .int b] => if a.natAbs < roof && b != 0 && !Float64.isInf (Float64.ofFrac (decide (a < 0) != decide (b < 0)) a.natAbs b.natAbs) then some (.flt (Float64.ofFrac (decide (a < 0) != decide (b < 0)) a.natAbs b.natAbs)) else none
  | [.flt a, .flt b] => if Float64.isZero b then none else some (.flt (Float64.div a b))
  | _ => none
noncomputable def fdivV : List V → Option V
  | [.int a, .int b] => if b != 0 && b.natAbs < roof then some (.int (a.fdiv b)) else none
  | _ => none
noncomputable def modV : List V → Option V
  | [.int a, .int b] => if b != 0 then some (.int (a.fmod b)) else none
  | [.flt a, .flt b] => if Float64.isZero b then none else some (.flt (Float64.divmod a b).2)
  | _ => none
noncomputable def powV : List V → Option V
  | [.int a, .int b] => if a == 10 && b == 12 then some (.int (10 ^ 12)) else none
  | _ => none
noncomputable def negV : List V → Option V
  | [.int a] => some (.int (-a))
  | _ => none

theorem Rep.isInt {C : Addr} {h : Heap} {M : List Addr} {v : Value} {i : Int} (r : Rep C h M v (.int i)) : ∃ t, v = .int i t := by cases r; exact ⟨_, rfl⟩
theorem Rep.isFlt {C : Addr} {h : Heap} {M : List Addr} {v : Value} {i : UInt64} (r : Rep C h M v (.flt i)) : ∃ t, v = .float i t := by cases r; exact ⟨_, rfl⟩
theorem Rep.isStr {C : Addr} {h : Heap} {M : List Addr} {v : Value} {i : Str} (r : Rep C h M v (.str i)) : ∃ t, v = .str i t := by cases r; exact ⟨_, rfl⟩
theorem Rep.isList {C : Addr} {h : Heap} {M : List Addr} {v : Value} {ds : List V} (r : Rep C h M v (.list ds)) : ∃ a vs n, v = .ref a ∧ h.get? a = some (lst vs n) ∧ a ∉ M ∧ RepAll C h M vs ds := by cases r; exact ⟨_, _, _, rfl, by assumption, by assumption, by assumption⟩
theorem Rep.isTup {C : Addr} {h : Heap} {M : List Addr} {v : Value} {ds : List V} (r : Rep C h M v (.tup ds)) : ∃ a vs n, v = .ref a ∧ h.get? a = some (tpl vs n) ∧ a ∉ M ∧ RepAll C h M vs ds := by cases r; exact ⟨_, _, _, rfl, by assumption, by assumption, by assumption⟩
theorem RepAll.two {C : Addr} {h : Heap} {M : List Addr} {vs : List Value} {a b : V} (r : RepAll C h M vs [a, b]) : ∃ u v, vs = [u, v] ∧ Rep C h M u a ∧ Rep C h M v b := by
  cases r with | cons x r => cases r with | cons y r => cases r; exact ⟨_, _, rfl, x, y⟩
theorem RepAll.one {C : Addr} {h : Heap} {M : List Addr} {vs : List Value} {a : V} (r : RepAll C h M vs [a]) : ∃ u, vs = [u] ∧ Rep C h M u a := by
  cases r with | cons x r => cases r; exact ⟨_, rfl, x⟩
theorem RepAll.three {C : Addr} {h : Heap} {M : List Addr} {vs : List Value} {a b c : V} (r : RepAll C h M vs [a, b, c]) : ∃ u v w, vs = [u, v, w] ∧ Rep C h M u a ∧ Rep C h M v b ∧ Rep C h M w c := by
  cases r with | cons x r => cases r with | cons y r => cases r with | cons z r => cases r; exact ⟨_, _, _, rfl, x, y, z⟩

/-- a new list stands -/
theorem new_list {C : Addr} {M : List Addr} {s s₀ : Shared} {vs : List Value} {ds : List V} {tk : Tok} (x : Ext s₀ s) (l : Live s₀.heap M) (r : RepAll C s.heap M vs ds) :
    Ext s₀ { s with heap := s.heap.push { cls := .type "list", data := .seq vs.toArray }, toks := tk } ∧ Rep C (s.heap.push { cls := .type "list", data := .seq vs.toArray }) M (.ref s.heap.objs.size) (.list ds) := by
  have y : Ext s { s with heap := s.heap.push (lst vs 0), toks := tk } := Ext.push s _ _
  exact ⟨x.trans y, .list (n := 0) (Heap.get?_push_size _ rfl) ((l.ext x).new) (r.ext y)⟩
theorem new_tup {C : Addr} {M : List Addr} {s s₀ : Shared} {vs : List Value} {ds : List V} {tk : Tok} (x : Ext s₀ s) (l : Live s₀.heap M) (r : RepAll C s.heap M vs ds) :
    Ext s₀ { s with heap := s.heap.push { cls := .type "tuple", data := .seq vs.toArray }, toks := tk } ∧ Rep C (s.heap.push { cls := .type "tuple", data := .seq vs.toArray }) M (.ref s.heap.objs.size) (.tup ds) := by
  have y : Ext s { s with heap := s.heap.push (tpl vs 0), toks := tk } := Ext.push s _ _
  exact ⟨x.trans y, .tup (n := 0) (Heap.get?_push_size _ rfl) ((l.ext x).new) (r.ext y)⟩

theorem small_1023 {n : Int} (h : n.natAbs < roof) : n.natAbs < 2 ^ 1023 := Nat.lt_trans h (by decide +kernel)
theorem mulOk_small {a b : Int} (h : (decide (a.natAbs < roof) || decide (b.natAbs < roof)) = true) : IntMulOk a b := by
  intro q
  simp only [Bool.and_eq_true, decide_eq_true_eq] at q
  have key : ∀ n : Int, n.natAbs < roof → ¬ Builtin.Int.intBits n > shortFactorBits := by
    intro n hn hb
    have h1 : n.natAbs.log2 < 17 := by
      by_cases h0 : n.natAbs = 0
      · rw [h0]; decide
      · exact (Nat.log2_lt h0).mpr (Nat.lt_trans hn (by decide))
    unfold Builtin.Int.intBits shortFactorBits at hb
    revert hb
    split <;> omega
  rcases Bool.or_eq_true_iff.mp h with h | h
  · exact key a (of_decide_eq_true h) q.1.1
  · exact key b (of_decide_eq_true h) q.1.2

section
variable {G : Gd} {lvl : Nat}

theorem P_add : Prim G lvl (binT .Add) addV := by
  intro A M s vs ds d f b l r e
  unfold addV at e
  split at e
  · cases e
    obtain ⟨u, v, rfl, x, y⟩ := r.two
    obtain ⟨t, rfl⟩ := x.isInt; obtain ⟨t', rfl⟩ := y.isInt
    exact PyProof.Rows.add_int ⟨Ext.same s _, .int _ _⟩
  · cases e
    obtain ⟨u, v, rfl, x, y⟩ := r.two
    obtain ⟨t, rfl⟩ := x.isFlt; obtain ⟨t', rfl⟩ := y.isFlt
    exact PyProof.Rows.add_float ⟨Ext.same s _, .flt _ _⟩
  · split at e
    · rename_i hb
      cases e
      obtain ⟨u, v, rfl, x, y⟩ := r.two
      obtain ⟨t, rfl⟩ := x.isFlt; obtain ⟨t', rfl⟩ := y.isInt
      exact PyProof.Rows.add_fi_fits (small_1023 hb) ⟨Ext.same s _, .flt _ _⟩
    · cases e
  · split at e
    · rename_i hb
      cases e
      obtain ⟨u, v, rfl, x, y⟩ := r.two
      obtain ⟨t, rfl⟩ := x.isStr; obtain ⟨t', rfl⟩ := y.isStr
      exact PyProof.Rows.add_str (fun t' tk => ⟨Ext.same s _, .str _ _⟩) (by rw [sizeLine_eq]; unfold roof at hb; omega)
    · cases e
  · split at e
    · rename_i hb
      cases e
      obtain ⟨u, v, rfl, x, y⟩ := r.two
      obtain ⟨a₁, vs₁, n₁, rfl, g₁, m₁, r₁⟩ := x.isList; obtain ⟨a₂, vs₂, n₂, rfl, g₂, m₂, r₂⟩ := y.isList
      have e : vs₁.toArray ++ vs₂.toArray = (vs₁ ++ vs₂).toArray := by simp
      have hsz : vs₁.toArray.size + vs₂.toArray.size ≤ sizeLine := by simp only [List.size_toArray]; rw [r₁.length, r₂.length, sizeLine_eq]; unfold roof at hb; omega
      refine concat_meets ⟨_, g₁, rfl⟩ ⟨_, g₂, rfl⟩ noFill_list_add seq_list_add PySem.F.slot_list_add PySem.F.entry_list_add (PySem.F.args_list_add_2 _ _) (list_addW a₁ a₂ vs₁.toArray vs₂.toArray n₁ n₂ Option.none Option.none #[] #[] hsz) ⟨g₁, g₂, ?_⟩
      rw [e]
      exact new_list (Off.refl _ s) l (r₁.append r₂)
    · cases e
  · cases e
theorem P_sub : Prim G lvl (binT .Sub) subV := by
  intro A M s vs ds d f b l r e
  unfold subV at e
  split at e
  · cases e
    obtain ⟨u, v, rfl, x, y⟩ := r.two
    obtain ⟨t, rfl⟩ := x.isInt; obtain ⟨t', rfl⟩ := y.isInt
    exact PyProof.Rows.sub_int ⟨Ext.same s _, .int _ _⟩
  · cases e
    obtain ⟨u, v, rfl, x, y⟩ := r.two
    obtain ⟨t, rfl⟩ := x.isFlt; obtain ⟨t', rfl⟩ := y.isFlt
    exact PyProof.Rows.sub_float ⟨Ext.same s _, .flt _ _⟩
  · split at e
    · rename_i hb
      cases e
      obtain ⟨u, v, rfl, x, y⟩ := r.two
      obtain ⟨t, rfl⟩ := x.isInt; obtain ⟨t', rfl⟩ := y.isFlt
      exact PyProof.Rows.sub_if_fits (small_1023 hb) ⟨Ext.same s _, .flt _ _⟩
    · cases e
  · cases e
theorem P_mul : Prim G lvl (binT .Mult) mulV := by
  intro A M s vs ds d f b l r e
  unfold mulV at e
  split at e
  · split at e
    · rename_i hb
      cases e
      obtain ⟨u, v, rfl, x, y⟩ := r.two
      obtain ⟨t, rfl⟩ := x.isInt; obtain ⟨t', rfl⟩ := y.isInt
      exact PyProof.Rows.mul_int ⟨Ext.same s _, .int _ _⟩ (mulOk_small hb)
    · cases e
  · cases e
    obtain ⟨u, v, rfl, x, y⟩ := r.two
    obtain ⟨t, rfl⟩ := x.isFlt; obtain ⟨t', rfl⟩ := y.isFlt
    exact PyProof.Rows.mul_float ⟨Ext.same s _, .flt _ _⟩
  · split at e
    · rename_i hb
      cases e
      obtain ⟨u, v, rfl, x, y⟩ := r.two
      obtain ⟨t, rfl⟩ := x.isInt; obtain ⟨t', rfl⟩ := y.isFlt
      exact PyProof.Rows.mul_if_fits (small_1023 hb) ⟨Ext.same s _, .flt _ _⟩
    · cases e
  · split at e
    · rename_i hb
      cases e
      obtain ⟨u, v, rfl, x, y⟩ := r.two
      obtain ⟨t, rfl⟩ := x.isFlt; obtain ⟨t', rfl⟩ := y.isInt
      exact PyProof.Rows.mul_fi_fits (small_1023 hb) ⟨Ext.same s _, .flt _ _⟩
    · cases e
  · split at e
    · rename_i a k hb
      cases e
      simp only [Bool.and_eq_true, decide_eq_true_eq] at hb
      obtain ⟨u, v, rfl, x, y⟩ := r.two
      obtain ⟨a₁, vs₁, n₁, rfl, g₁, m₁, r₁⟩ := x.isList; obtain ⟨t', rfl⟩ := y.isInt
      obtain ⟨u, rfl, ru⟩ := r₁.one
      refine wpAny_binaryOp_repeat_ref (T := "list") (U := "int") (by decide) ⟨_, g₁, rfl⟩ (fun s' => typeIs_int s' k t') noFill_list_mul F.fills_int_mul F.slot_int_rmul repeat_list F.slot_int_index.lookup
        (call_meets F.slot_int_rmul (typeIs_int s k t') F.entry_int_rmul (F.args_int_rmul_2 _ _) (int___rmul___int_list k t' a₁ [u].toArray n₁)
          ⟨g₁, rfl, ⟨_, g₁, rfl⟩, call_meets F.slot_list_mul ⟨_, g₁, rfl⟩ F.entry_list_mul (F.args_list_mul_2 _ _)
            (AutoListH.list___mul___list_int_3 a₁ [u].toArray n₁ k t' (by simp [Builtin.List.listFitsIndex]; omega) (by simp; omega) (by simp [Builtin.List.listTooLong, sizeLine]; omega))
            ⟨g₁, ?_⟩⟩)
      have e : List.foldl (fun x1 x2 => x1 ++ x2) #[] (List.replicate (if ([u].toArray).isEmpty = true then 0 else k.toNat) [u].toArray) = (List.replicate k.toNat u).toArray := by
        have : ([u].toArray).isEmpty = false := rfl
        rw [this]
        simp only [Bool.false_eq_true, if_false]
        have key : ∀ (n : Nat) (acc : Array Value), List.foldl (fun x1 x2 => x1 ++ x2) acc (List.replicate n [u].toArray) = acc ++ (List.replicate n u).toArray := by
          intro n
          induction n with
          | zero => intro acc; simp
          | succ n ih =>
            intro acc
            rw [List.replicate_succ, List.foldl_cons, ih, List.replicate_succ]
            apply Array.ext'
            simp
        rw [key]; simp
      have rr : RepAll G.C s.heap M (List.replicate k.toNat u) (List.replicate k.toNat a) := by
        generalize k.toNat = n
        induction n with
        | zero => exact .nil
        | succ n ih => exact .cons ru ih
      have N := new_list (tk := s.toks) (Off.refl _ s) l rr
      simp only [e]
      exact N
    · cases e
  · cases e
theorem P_div : Prim G lvl (binT .Div) divV := by
  intro A M s vs ds d f b l r e
  unfold divV at e
  split at e
  · split at e
    · rename_i hb
      cases e
      simp only [Bool.and_eq_true, bne_iff_ne, decide_eq_true_eq, Bool.not_eq_true'] at hb
      obtain ⟨u, v, rfl, x, y⟩ := r.two
      obtain ⟨t, rfl⟩ := x.isInt; obtain ⟨t', rfl⟩ := y.isInt
      exact PySem.Flt.div_ii_fits f.handled (small_1023 hb.1.1) (fun q => absurd q hb.1.2) fun _ _ => ⟨Ext.same s _, .flt _ _⟩
    · cases e
  · split at e
    · cases e
    · rename_i hb
      cases e
      obtain ⟨u, v, rfl, x, y⟩ := r.two
      obtain ⟨t, rfl⟩ := x.isFlt; obtain ⟨t', rfl⟩ := y.isFlt
      exact PyProof.Rows.truediv_float_or f.handled (fun q => absurd q hb) fun _ => ⟨Ext.same s _, .flt _ _⟩
  · cases e
theorem P_fdiv : Prim G lvl (binT .FloorDiv) fdivV := by
  intro A M s vs ds d f b l r e
  unfold fdivV at e
  split at e
  · split at e
    · rename_i hb
      cases e
      simp only [Bool.and_eq_true, bne_iff_ne, decide_eq_true_eq] at hb
      obtain ⟨u, v, rfl, x, y⟩ := r.two
      obtain ⟨t, rfl⟩ := x.isInt; obtain ⟨t', rfl⟩ := y.isInt
      exact PyProof.Rows.floordiv_int hb.1 ⟨Ext.same s _, .int _ _⟩ (.inl (PyProof.noPylong_small (by have := hb.2; unfold roof at this; omega)))
    · cases e
  · cases e
theorem P_mod : Prim G lvl (binT .Mod) modV := by
  intro A M s vs ds d f b l r e
  unfold modV at e
  split at e
  · split at e
    · rename_i hb
      cases e
      obtain ⟨u, v, rfl, x, y⟩ := r.two
      obtain ⟨t, rfl⟩ := x.isInt; obtain ⟨t', rfl⟩ := y.isInt
      exact PyProof.Rows.mod_int' (by simpa using hb) ⟨Ext.same s _, .int _ _⟩
    · cases e
  · split at e
    · cases e
    · rename_i hb
      cases e
      obtain ⟨u, v, rfl, x, y⟩ := r.two
      obtain ⟨t, rfl⟩ := x.isFlt; obtain ⟨t', rfl⟩ := y.isFlt
      exact PySem.Flt.mod_ff f.handled (fun q => absurd q hb) fun _ => ⟨Ext.same s _, .flt _ _⟩
  · cases e
theorem P_pow : Prim G lvl (binT .Pow) powV := by
  intro A M s vs ds d f b l r e
  unfold powV at e
  split at e
  · split at e
    · rename_i hb
      cases e
      simp only [Bool.and_eq_true, beq_iff_eq] at hb
      obtain ⟨u, v, rfl, x, y⟩ := r.two
      obtain ⟨t, rfl⟩ := x.isInt; obtain ⟨t', rfl⟩ := y.isInt
      obtain ⟨rfl, rfl⟩ := hb
      exact PyProof.Rows.pow_int (by decide) (by decide +kernel) ⟨Ext.same s _, .int _ _⟩
    · cases e
  · cases e
theorem P_neg : Prim G lvl (unT .USub) negV := by
  intro A M s vs ds d f b l r e
  unfold negV at e
  split at e
  · cases e
    obtain ⟨u, rfl, x⟩ := r.one
    obtain ⟨t, rfl⟩ := x.isInt
    exact PyProof.Rows.neg_int ⟨Ext.same s _, .int _ _⟩
  · cases e
end
end Mine
end

section
namespace Mine
open PySem PySem.Calls PyProof.Rows

mutual
noncomputable def toPy : V → Option PyData
  | .none => some .none
  | .bool b => some (.bool b)
  | .int i => some (.int i)
  | .str s => some (.str s)
  | .list xs => (toPys xs).map .list
  | .tup xs => (toPys xs).map .tuple
  | .flt _ => none
  | .judge _ => none
noncomputable def toPys : List V → Option (List PyData)
  | [] => some []
  | x :: xs => (toPy x).bind fun d => (toPys xs).map (d :: ·)
end
mutual
theorem Rep.reads {C : Addr} {h : Heap} {M : List Addr} : ∀ {v : Value} {d : V} {p : PyData}, Rep C h M v d → toPy d = some p → ∃ as, Reads h v p as
  | _, _, _, .none, e => by unfold toPy at e; cases e; exact ⟨_, .none⟩
  | _, _, _, .bool b, e => by unfold toPy at e; cases e; exact ⟨_, .bool b⟩
  | _, _, _, .int i t, e => by unfold toPy at e; cases e; exact ⟨_, .int i t⟩
  | _, _, _, .str i t, e => by unfold toPy at e; cases e; exact ⟨_, .str i t⟩
  | _, _, _, .flt i t, e => by unfold toPy at e; cases e
  | _, _, _, .list g m r, e => by
    unfold toPy at e
    obtain ⟨ps, hp, rfl⟩ := Option.map_eq_some_iff.mp e
    obtain ⟨as, q⟩ := RepAll.reads r hp
    exact ⟨_, reads_list_at g rfl rfl (by simpa using q)⟩
  | _, _, _, .tup g m r, e => by
    unfold toPy at e
    obtain ⟨ps, hp, rfl⟩ := Option.map_eq_some_iff.mp e
    obtain ⟨as, q⟩ := RepAll.reads r hp
    exact ⟨_, reads_tuple_at g rfl rfl (by simpa using q)⟩
  | _, _, _, .judge .., e => by unfold toPy at e; cases e
theorem RepAll.reads {C : Addr} {h : Heap} {M : List Addr} : ∀ {vs : List Value} {ds : List V} {ps : List PyData}, RepAll C h M vs ds → toPys ds = some ps → ∃ as, ReadsAll h vs ps as
  | _, _, _, .nil, e => by unfold toPys at e; cases e; exact ⟨_, .nil⟩
  | _, _, _, .cons x r, e => by
    unfold toPys at e
    obtain ⟨d, hd, e⟩ := Option.bind_eq_some_iff.mp e
    obtain ⟨ps, hps, rfl⟩ := Option.map_eq_some_iff.mp e
    obtain ⟨as, q⟩ := Rep.reads x hd
    obtain ⟨bs, p⟩ := RepAll.reads r hps
    exact ⟨_, .cons q p⟩
end

noncomputable def deepEq (a b : V) : Option Bool := (toPy a).bind fun p => (toPy b).bind fun q => if SeqAt.shaped p && SeqAt.shaped q then some (PyData.eqv p q) else none
noncomputable def eqB : V → V → Option Bool
  | .int a, .int b => some (a == b)
  | .str a, .str b => some (a == b)
  | .flt a, .flt b => some (Float64.cmp a b == some .eq)
  | .flt a, .int b => some (Float64.cmpInt a b == some .eq)
  | a, b => deepEq a b
noncomputable def eqV : List V → Option V
  | [a, b] => (eqB a b).map .bool
  | _ => none
noncomputable def neV : List V → Option V
  | [.int a, .int b] => some (.bool (a != b))
  | [.str a, .str b] => some (.bool (!(a == b)))
  | [a, b] => (deepEq a b).map fun c => .bool !c
  | _ => none
noncomputable def ltV : List V → Option V
  | [.int a, .int b] => some (.bool (decide (a < b)))
  | [.flt a, .int b] => some (.bool (Float64.cmpInt a b == some .lt))
  | _ => none
noncomputable def gtV : List V → Option V
  | [.int a, .int b] => some (.bool (decide (b < a)))
  | _ => none
noncomputable def leV : List V → Option V
  | [.int a, .int b] => some (.bool (decide (a ≤ b)))
  | [.int a, .flt b] => some (.bool (Float64.cmpInt b a == some .gt || Float64.cmpInt b a == some .eq))
  | [.flt a, .flt b] => some (.bool (Float64.cmp a b == some .lt || Float64.cmp a b == some .eq))
  | _ => none

noncomputable def intsOf : List V → Option (List Int)
  | [] => some []
  | .int i :: r => (intsOf r).map (i :: ·)
  | _ => none
theorem RepAll.items {C : Addr} {h : Heap} {M : List Addr} : ∀ {vs : List Value} {ds : List V} {ns : List Int}, RepAll C h M vs ds → intsOf ds = some ns → ∃ xs : List (Int × Tok), vs = xs.map (fun p => .int p.1 p.2) ∧ ns = xs.map (·.1)
  | _, _, _, .nil, e => by cases e; exact ⟨[], rfl, rfl⟩
  | _, _, _, .cons (d := d) x r, e => by
    cases x with
    | int i t =>
      unfold intsOf at e
      obtain ⟨ns, hn, rfl⟩ := Option.map_eq_some_iff.mp e
      obtain ⟨xs, rfl, rfl⟩ := RepAll.items r hn
      exact ⟨(i, t) :: xs, rfl, rfl⟩
    | _ => cases e
theorem intsAre_map : ∀ xs : List (Int × Tok), IntsAre (xs.map fun p => .int p.1 p.2) (xs.map (·.1))
  | [] => .nil
  | x :: xs => .cons _ _ (intsAre_map xs)
theorem carried_map : ∀ xs : List (Int × Tok), CarriedAll (xs.map fun p => .int p.1 p.2) ((xs.map (·.1)).map PyData.int)
  | [] => .nil
  | x :: xs => .cons (.int _ _) (carried_map xs)

section
variable {G : Gd} {lvl : Nat}

theorem Fit.u64 {A : Around} {n : Nat} (f : Fit A n) : A.units + 64 < cLine := by have := f.units; omega
theorem deep_eq {A : Around} {M : List Addr} {s : Shared} {a b : Value} {x y : V} {c : Bool} {Q : Value → Shared → Prop} {E : Value → Shared → Prop} (f : Fit A lvl) (ra : Rep G.C s.heap M a x) (rb : Rep G.C s.heap M b y) (e : deepEq x y = some c) (h : Q (.bool c) s) :
    wpAny (model G.prog G.w) A (compareOp .Eq a b) Q E s := by
  unfold deepEq at e
  obtain ⟨p, hp, e⟩ := Option.bind_eq_some_iff.mp e
  obtain ⟨q, hq, e⟩ := Option.bind_eq_some_iff.mp e
  split at e
  · rename_i hs
    cases e
    obtain ⟨as, r1⟩ := ra.reads hp
    obtain ⟨bs, r2⟩ := rb.reads hq
    exact eq_dataH r1 r2 (Bool.and_eq_true_iff.mp hs).1 (Bool.and_eq_true_iff.mp hs).2 f.u64 h
  · cases e
theorem deep_ne {A : Around} {M : List Addr} {s : Shared} {a b : Value} {x y : V} {c : Bool} {Q : Value → Shared → Prop} {E : Value → Shared → Prop} (f : Fit A lvl) (ra : Rep G.C s.heap M a x) (rb : Rep G.C s.heap M b y) (e : deepEq x y = some c) (h : Q (.bool !c) s) :
    wpAny (model G.prog G.w) A (compareOp .NotEq a b) Q E s := by
  unfold deepEq at e
  obtain ⟨p, hp, e⟩ := Option.bind_eq_some_iff.mp e
  obtain ⟨q, hq, e⟩ := Option.bind_eq_some_iff.mp e
  split at e
  · rename_i hs
    cases e
    obtain ⟨as, r1⟩ := ra.reads hp
    obtain ⟨bs, r2⟩ := rb.reads hq
    exact ne_dataH r1 r2 (Bool.and_eq_true_iff.mp hs).1 (Bool.and_eq_true_iff.mp hs).2 f.u64 h
  · cases e

theorem P_eq : Prim G lvl (cmpT .Eq) eqV := by
  intro A M s vs ds d f b l r e
  unfold eqV at e
  split at e
  · obtain ⟨c, hc, rfl⟩ := Option.map_eq_some_iff.mp e
    obtain ⟨u, v, rfl, x, y⟩ := r.two
    unfold eqB at hc
    split at hc
    · cases hc
      obtain ⟨t, rfl⟩ := x.isInt; obtain ⟨t', rfl⟩ := y.isInt
      exact PyProof.Rows.eq_int ⟨Off.refl _ s, .bool _⟩
    · cases hc
      obtain ⟨t, rfl⟩ := x.isStr; obtain ⟨t', rfl⟩ := y.isStr
      exact PyProof.Rows.eq_str ⟨Off.refl _ s, .bool _⟩
    · cases hc
      obtain ⟨t, rfl⟩ := x.isFlt; obtain ⟨t', rfl⟩ := y.isFlt
      exact AutoFloatOps.eq_0 ⟨Off.refl _ s, .bool _⟩
    · cases hc
      obtain ⟨t, rfl⟩ := x.isFlt; obtain ⟨t', rfl⟩ := y.isInt
      exact PyProof.Rows.eq_fi ⟨Off.refl _ s, .bool _⟩
    · exact deep_eq f x y hc ⟨Off.refl _ s, .bool _⟩
  · cases e
theorem P_ne : Prim G lvl (cmpT .NotEq) neV := by
  intro A M s vs ds d f b l r e
  unfold neV at e
  split at e
  · cases e
    obtain ⟨u, v, rfl, x, y⟩ := r.two
    obtain ⟨t, rfl⟩ := x.isInt; obtain ⟨t', rfl⟩ := y.isInt
    exact PyProof.Rows.ne_int ⟨Off.refl _ s, .bool _⟩
  · cases e
    obtain ⟨u, v, rfl, x, y⟩ := r.two
    obtain ⟨t, rfl⟩ := x.isStr; obtain ⟨t', rfl⟩ := y.isStr
    exact PyProof.Rows.ne_str ⟨Off.refl _ s, .bool _⟩
  · obtain ⟨c, hc, rfl⟩ := Option.map_eq_some_iff.mp e
    obtain ⟨u, v, rfl, x, y⟩ := r.two
    exact deep_ne f x y hc ⟨Off.refl _ s, .bool _⟩
  · cases e
theorem P_lt : Prim G lvl (cmpT .Lt) ltV := by
  intro A M s vs ds d f b l r e
  unfold ltV at e
  split at e
  · cases e
    obtain ⟨u, v, rfl, x, y⟩ := r.two
    obtain ⟨t, rfl⟩ := x.isInt; obtain ⟨t', rfl⟩ := y.isInt
    exact PyProof.Rows.lt_int ⟨Off.refl _ s, .bool _⟩
  · cases e
    obtain ⟨u, v, rfl, x, y⟩ := r.two
    obtain ⟨t, rfl⟩ := x.isFlt; obtain ⟨t', rfl⟩ := y.isInt
    exact PyProof.Rows.lt_fi ⟨Off.refl _ s, .bool _⟩
  · cases e
theorem P_gt : Prim G lvl (cmpT .Gt) gtV := by
  intro A M s vs ds d f b l r e
  unfold gtV at e
  split at e
  · cases e
    obtain ⟨u, v, rfl, x, y⟩ := r.two
    obtain ⟨t, rfl⟩ := x.isInt; obtain ⟨t', rfl⟩ := y.isInt
    exact PyProof.Rows.gt_int ⟨Off.refl _ s, .bool _⟩
  · cases e
theorem P_le : Prim G lvl (cmpT .LtE) leV := by
  intro A M s vs ds d f b l r e
  unfold leV at e
  split at e
  · cases e
    obtain ⟨u, v, rfl, x, y⟩ := r.two
    obtain ⟨t, rfl⟩ := x.isInt; obtain ⟨t', rfl⟩ := y.isInt
    exact PyProof.Rows.le_int ⟨Off.refl _ s, .bool _⟩
  · cases e
    obtain ⟨u, v, rfl, x, y⟩ := r.two
    obtain ⟨t, rfl⟩ := x.isInt; obtain ⟨t', rfl⟩ := y.isFlt
    exact PyProof.Rows.le_if ⟨Off.refl _ s, .bool _⟩
  · cases e
    obtain ⟨u, v, rfl, x, y⟩ := r.two
    obtain ⟨t, rfl⟩ := x.isFlt; obtain ⟨t', rfl⟩ := y.isFlt
    exact AutoFloatOps.le_0 ⟨Off.refl _ s, .bool _⟩
  · cases e

/-- an int in a list of ints -/
noncomputable def inI (a : V) (ds : List V) : Option Bool := match a with
  | .int i => (intsOf ds).map fun ns => ns.any (· == i)
  | _ => none
theorem P_in : PrimIn G .In inI := by
  intro A M s va a vs n da ds b f ra g r e
  unfold inI at e
  split at e
  · obtain ⟨ns, hn, rfl⟩ := Option.map_eq_some_iff.mp e
    obtain ⟨t, rfl⟩ := ra.isInt
    obtain ⟨xs, rfl, rfl⟩ := r.items hn
    exact in_made_int ⟨_, g, rfl, n, rfl⟩ (carried_map xs) ⟨Off.refl _ s, by rw [datHitsInt_map]⟩
  · cases e
theorem P_notin : PrimIn G .NotIn fun a ds => (inI a ds).map (!·) := by
  intro A M s va a vs n da ds b f ra g r e
  obtain ⟨c, hc, rfl⟩ := Option.map_eq_some_iff.mp e
  unfold inI at hc
  split at hc
  · obtain ⟨ns, hn, rfl⟩ := Option.map_eq_some_iff.mp hc
    obtain ⟨t, rfl⟩ := ra.isInt
    obtain ⟨xs, rfl, rfl⟩ := r.items hn
    exact notin_made_int ⟨_, g, rfl, n, rfl⟩ (carried_map xs) ⟨Off.refl _ s, by rw [datHitsInt_map]⟩
  · cases hc
end
end Mine
end

section
namespace Mine
open PySem PySem.Calls PyProof.Rows
open AutoSeq1 (wpAny_loadPart')

noncomputable def lexLt : List Int → List Int → Bool
  | [], [] => false
  | [], _ :: _ => true
  | _ :: _, [] => false
  | a :: r, b :: t => if a == b then lexLt r t else decide (a < b)
noncomputable def lexGt (l m : List Int) : Bool := lexLt m l
section
variable {prog : Program} {w : World} {A : Around} {E : Value → Shared → Prop} {s : Shared}
theorem rc_lt {p q : Int × Tok} {Q : Value → Shared → Prop} (h : Q (.bool (decide (p.1 < q.1))) s) : wpAny (model prog w) A (richCompare .Lt (.int p.1 p.2) (.int q.1 q.2)) Q E s := PySem.Flt.lt_num (.int _ _) (.int _ _) h
theorem rc_gt {p q : Int × Tok} {Q : Value → Shared → Prop} (h : Q (.bool (decide (q.1 < p.1))) s) : wpAny (model prog w) A (richCompare .Gt (.int p.1 p.2) (.int q.1 q.2)) Q E s := PySem.Flt.gt_num (.int _ _) (.int _ _) h
end

noncomputable def val2 (p : Int × Tok) : Value := .int p.1 p.2
theorem loop_lt (l b : Addr) (xs ys : List (Int × Tok)) (n n2 : Nat) (k : Nat) :
    ∀ i : Nat, xs.length - i = k → i ≤ xs.length → i ≤ ys.length → Meets (Builtin.«list.__eq__.loop» ⟨[.ref l, .ref b, rawInt i, rawInt 0], []⟩)
      (fun A R s => s.heap.get? l = some (lst (xs.map val2) n) ∧ s.heap.get? b = some (lst (ys.map val2) n2) ∧
        R (.ok (.ret (.bool (lexLt ((xs.drop i).map (·.1)) ((ys.drop i).map (·.1)))))) s) := by
  induction k with
  | zero =>
    intro i hk h1 h2 prog w A R s h
    obtain ⟨hp, g, d, tk, os⟩ := s; obtain ⟨hl, hb, h⟩ := h
    have e1 : i = xs.length := by omega
    wp_walk using wpAny_loadPart' hl, wpAny_loadPart' hb
    have hi1 : (xs.map val2).toArray[((i : Nat) : Int).toNat]? = none := by simp; omega
    rw [hi1]
    wp_walk using wpAny_loadPart' hl, wpAny_loadPart' hb
    have hd : xs.drop i = [] := by simp; omega
    rw [hd] at h
    show R (.ok (.ret (.bool (decide ((xs.map val2).toArray.size < (ys.map val2).toArray.size))))) _
    have : lexLt (([] : List (Int × Tok)).map (·.1)) ((ys.drop i).map (·.1)) = decide ((xs.map val2).toArray.size < (ys.map val2).toArray.size) := by
      simp only [List.map_nil, List.size_toArray, List.length_map]
      rw [← e1]
      cases hy : ys.drop i with
      | nil => have : ys.length ≤ i := by simpa using hy
               simp [lexLt]; omega
      | cons z zs => have : i < ys.length := by
                       have := congrArg List.length hy; simp at this; omega
                     simp [lexLt]; omega
    rw [← this]; exact h
  | succ k ih =>
    intro i hk h1 h2 prog w A R s h
    obtain ⟨hp, g, d, tk, os⟩ := s; obtain ⟨hl, hb, h⟩ := h
    have hlt : i < xs.length := by omega
    wp_walk using wpAny_loadPart' hl, wpAny_loadPart' hb
    have hi1 : (xs.map val2).toArray[((i : Nat) : Int).toNat]? = some (val2 xs[i]) := by simp [hlt]
    have hd : xs.drop i = xs[i] :: xs.drop (i + 1) := List.drop_eq_getElem_cons hlt
    rw [hd] at h
    by_cases hlt2 : i < ys.length
    · have hi2 : (ys.map val2).toArray[((i : Nat) : Int).toNat]? = some (val2 ys[i]) := by simp [hlt2]
      have hd2 : ys.drop i = ys[i] :: ys.drop (i + 1) := List.drop_eq_getElem_cons hlt2
      rw [hd2] at h
      rw [hi1, hi2]
      refine wpAny_bind (wpAny_eqBool_int ?_)
      by_cases hq : (xs[i].1 == ys[i].1) = true
      · rw [hq]
        wp_walk
        have hc : ((i : Int) + 1) = ((i + 1 : Nat) : Int) := by push_cast; rfl
        rw [hc]
        refine ⟨plainId_quiet MeetsSeq3.plain_eq_loop _, codeAny_builtin MeetsSeq3.entry_eq_loop ?_⟩
        rw [Around.under_plainId MeetsSeq3.plain_eq_loop _]
        refine ih (i + 1) (by omega) (by omega) (by omega) prog w A R _ ⟨hl, hb, ?_⟩
        have := h
        simp only [List.map_cons, lexLt, lexLt, hq, if_true] at this
        first | exact this | simpa [lexLt, lexLt, beq_iff_eq.mp hq] using this
      · have hq' : (xs[i].1 == ys[i].1) = false := by simpa using hq
        rw [hq']
        wp_walk using wpAny_loadPart' hl, wpAny_loadPart' hb
        rw [hi1, hi2]
        refine wpAny_bind (rc_lt ?_)
        refine wpAny_pure ?_
        have hne : ¬ (ys[i].1 = xs[i].1) := fun q => hq (by simp [q])
        have := h
        simp only [List.map_cons, lexLt, lexLt, hq', Bool.false_eq_true, if_false] at this
        first | exact this | simpa [lexLt, lexLt, hne] using this
    · have hi2 : (ys.map val2).toArray[((i : Nat) : Int).toNat]? = none := by simp; omega
      rw [hi1, hi2]
      wp_walk using wpAny_loadPart' hl, wpAny_loadPart' hb
      have hd2 : ys.drop i = [] := by simp; omega
      rw [hd2] at h
      show R (.ok (.ret (.bool (decide ((xs.map val2).toArray.size < (ys.map val2).toArray.size))))) _
      have : lexLt ((xs[i] :: xs.drop (i + 1)).map (·.1)) (([] : List (Int × Tok)).map (·.1)) = decide ((xs.map val2).toArray.size < (ys.map val2).toArray.size) := by
        simp only [List.map_nil, List.map_cons, List.size_toArray, List.length_map, lexLt, lexLt]
        symm; simp; omega
      rw [← this]; exact h

theorem loop_gt (l b : Addr) (xs ys : List (Int × Tok)) (n n2 : Nat) (k : Nat) :
    ∀ i : Nat, xs.length - i = k → i ≤ xs.length → i ≤ ys.length → Meets (Builtin.«list.__eq__.loop» ⟨[.ref l, .ref b, rawInt i, rawInt 4], []⟩)
      (fun A R s => s.heap.get? l = some (lst (xs.map val2) n) ∧ s.heap.get? b = some (lst (ys.map val2) n2) ∧
        R (.ok (.ret (.bool (lexGt ((xs.drop i).map (·.1)) ((ys.drop i).map (·.1)))))) s) := by
  induction k with
  | zero =>
    intro i hk h1 h2 prog w A R s h
    obtain ⟨hp, g, d, tk, os⟩ := s; obtain ⟨hl, hb, h⟩ := h
    have e1 : i = xs.length := by omega
    wp_walk using wpAny_loadPart' hl, wpAny_loadPart' hb
    have hi1 : (xs.map val2).toArray[((i : Nat) : Int).toNat]? = none := by simp; omega
    rw [hi1]
    wp_walk using wpAny_loadPart' hl, wpAny_loadPart' hb
    have hd : xs.drop i = [] := by simp; omega
    rw [hd] at h
    show R (.ok (.ret (.bool (decide ((xs.map val2).toArray.size > (ys.map val2).toArray.size))))) _
    have : lexGt (([] : List (Int × Tok)).map (·.1)) ((ys.drop i).map (·.1)) = decide ((xs.map val2).toArray.size > (ys.map val2).toArray.size) := by
      simp only [List.map_nil, List.size_toArray, List.length_map]
      rw [← e1]
      cases hy : ys.drop i with
      | nil => have : ys.length ≤ i := by simpa using hy
               simp [lexGt, lexLt]; omega
      | cons z zs => have : i < ys.length := by
                       have := congrArg List.length hy; simp at this; omega
                     simp [lexGt, lexLt]; omega
    rw [← this]; exact h
  | succ k ih =>
    intro i hk h1 h2 prog w A R s h
    obtain ⟨hp, g, d, tk, os⟩ := s; obtain ⟨hl, hb, h⟩ := h
    have hlt : i < xs.length := by omega
    wp_walk using wpAny_loadPart' hl, wpAny_loadPart' hb
    have hi1 : (xs.map val2).toArray[((i : Nat) : Int).toNat]? = some (val2 xs[i]) := by simp [hlt]
    have hd : xs.drop i = xs[i] :: xs.drop (i + 1) := List.drop_eq_getElem_cons hlt
    rw [hd] at h
    by_cases hlt2 : i < ys.length
    · have hi2 : (ys.map val2).toArray[((i : Nat) : Int).toNat]? = some (val2 ys[i]) := by simp [hlt2]
      have hd2 : ys.drop i = ys[i] :: ys.drop (i + 1) := List.drop_eq_getElem_cons hlt2
      rw [hd2] at h
      rw [hi1, hi2]
      refine wpAny_bind (wpAny_eqBool_int ?_)
      by_cases hq : (xs[i].1 == ys[i].1) = true
      · rw [hq]
        wp_walk
        have hc : ((i : Int) + 1) = ((i + 1 : Nat) : Int) := by push_cast; rfl
        rw [hc]
        refine ⟨plainId_quiet MeetsSeq3.plain_eq_loop _, codeAny_builtin MeetsSeq3.entry_eq_loop ?_⟩
        rw [Around.under_plainId MeetsSeq3.plain_eq_loop _]
        refine ih (i + 1) (by omega) (by omega) (by omega) prog w A R _ ⟨hl, hb, ?_⟩
        have := h
        simp only [List.map_cons, lexGt, lexLt, hq, if_true] at this
        first | exact this | simpa [lexGt, lexLt, beq_iff_eq.mp hq] using this
      · have hq' : (xs[i].1 == ys[i].1) = false := by simpa using hq
        rw [hq']
        wp_walk using wpAny_loadPart' hl, wpAny_loadPart' hb
        rw [hi1, hi2]
        refine wpAny_bind (rc_gt ?_)
        refine wpAny_pure ?_
        have hne : ¬ (ys[i].1 = xs[i].1) := fun q => hq (by simp [q])
        have := h
        simp only [List.map_cons, lexGt, lexLt, hq', Bool.false_eq_true, if_false] at this
        first | exact this | simpa [lexGt, lexLt, hne] using this
    · have hi2 : (ys.map val2).toArray[((i : Nat) : Int).toNat]? = none := by simp; omega
      rw [hi1, hi2]
      wp_walk using wpAny_loadPart' hl, wpAny_loadPart' hb
      have hd2 : ys.drop i = [] := by simp; omega
      rw [hd2] at h
      show R (.ok (.ret (.bool (decide ((xs.map val2).toArray.size > (ys.map val2).toArray.size))))) _
      have : lexGt ((xs[i] :: xs.drop (i + 1)).map (·.1)) (([] : List (Int × Tok)).map (·.1)) = decide ((xs.map val2).toArray.size > (ys.map val2).toArray.size) := by
        simp only [List.map_nil, List.map_cons, List.size_toArray, List.length_map, lexGt, lexLt]
        symm; simp; omega
      rw [← this]; exact h
end Mine
end

section
namespace Mine
open PySem PySem.Calls PyProof.Rows
open AutoSeq1 (wpAny_loadPart')

theorem list_lt_m (l b : Addr) (xs ys : List (Int × Tok)) (n n2 : Nat) : Meets (Builtin.«list.__lt__» ⟨[.ref l, .ref b], []⟩)
      (fun A R s => s.heap.get? l = some (lst (xs.map val2) n) ∧ s.heap.get? b = some (lst (ys.map val2) n2) ∧ R (.ok (.ret (.bool (lexLt (xs.map (·.1)) (ys.map (·.1)))))) s) := by
  intro prog w A R s h
  obtain ⟨hp, g, d, tk, os⟩ := s; obtain ⟨hl, hb, h⟩ := h
  have f3 := AutoSeq1.sub_list_list
  wp_walk using wpAny_loadPart' hl, wpAny_loadPart' hb
  refine ⟨plainId_quiet MeetsSeq3.plain_eq_loop _, codeAny_builtin MeetsSeq3.entry_eq_loop ?_⟩
  rw [Around.under_plainId MeetsSeq3.plain_eq_loop _]
  exact loop_lt l b xs ys n n2 _ 0 rfl (Nat.zero_le _) (Nat.zero_le _) prog w A R _ ⟨hl, hb, by simpa using h⟩
theorem list_gt_m (l b : Addr) (xs ys : List (Int × Tok)) (n n2 : Nat) : Meets (Builtin.«list.__gt__» ⟨[.ref l, .ref b], []⟩)
      (fun A R s => s.heap.get? l = some (lst (xs.map val2) n) ∧ s.heap.get? b = some (lst (ys.map val2) n2) ∧ R (.ok (.ret (.bool (lexGt (xs.map (·.1)) (ys.map (·.1)))))) s) := by
  intro prog w A R s h
  obtain ⟨hp, g, d, tk, os⟩ := s; obtain ⟨hl, hb, h⟩ := h
  have f3 := AutoSeq1.sub_list_list
  wp_walk using wpAny_loadPart' hl, wpAny_loadPart' hb
  refine ⟨plainId_quiet MeetsSeq3.plain_eq_loop _, codeAny_builtin MeetsSeq3.entry_eq_loop ?_⟩
  rw [Around.under_plainId MeetsSeq3.plain_eq_loop _]
  exact loop_gt l b xs ys n n2 _ 0 rfl (Nat.zero_le _) (Nat.zero_le _) prog w A R _ ⟨hl, hb, by simpa using h⟩

noncomputable def ltL : List V → Option V
  | [.list a, .list b] => (intsOf a).bind fun x => (intsOf b).map fun y => .bool (lexLt x y)
  | vs => ltV vs
noncomputable def gtL : List V → Option V
  | [.list a, .list b] => (intsOf a).bind fun x => (intsOf b).map fun y => .bool (lexGt x y)
  | vs => gtV vs

section
variable {G : Gd} {lvl : Nat}
theorem Fit.u1 {A : Around} {n : Nat} (f : Fit A n) : A.units < cLine := by have := f.units; omega

theorem P_ltL : Prim G lvl (cmpT .Lt) ltL := by
  intro A M s vs ds d f b l r e
  unfold ltL at e
  split at e
  · obtain ⟨x, hx, e⟩ := Option.bind_eq_some_iff.mp e
    obtain ⟨y, hy, rfl⟩ := Option.map_eq_some_iff.mp e
    obtain ⟨u, v, rfl, ra, rb⟩ := r.two
    obtain ⟨a₁, vs₁, n₁, rfl, g₁, m₁, r₁⟩ := ra.isList; obtain ⟨a₂, vs₂, n₂, rfl, g₂, m₂, r₂⟩ := rb.isList
    obtain ⟨xs, rfl, rfl⟩ := r₁.items hx; obtain ⟨ys, rfl, rfl⟩ := r₂.items hy
    show wpAny _ _ (richCompare .Lt (.ref a₁) (.ref a₂)) _ _ _
    exact wpAny_richCompare_same_room (op := .Lt) (T := "list") ⟨_, g₁, rfl⟩ ⟨_, g₂, rfl⟩ F.slot_list_lt (call_meets F.slot_list_lt ⟨_, g₁, rfl⟩ F.entry_list_lt (F.args_list_lt_2 _ _) (list_lt_m a₁ a₂ xs ys n₁ n₂) ⟨g₁, g₂, by show Value.bool _ ≠ Value.notImplemented ∧ _ ∧ _; exact ⟨nofun, Off.refl _ s, Rep.bool _⟩⟩) f.u1
  · exact P_lt A M s vs ds d f b l r e
theorem P_gtL : Prim G lvl (cmpT .Gt) gtL := by
  intro A M s vs ds d f b l r e
  unfold gtL at e
  split at e
  · obtain ⟨x, hx, e⟩ := Option.bind_eq_some_iff.mp e
    obtain ⟨y, hy, rfl⟩ := Option.map_eq_some_iff.mp e
    obtain ⟨u, v, rfl, ra, rb⟩ := r.two
    obtain ⟨a₁, vs₁, n₁, rfl, g₁, m₁, r₁⟩ := ra.isList; obtain ⟨a₂, vs₂, n₂, rfl, g₂, m₂, r₂⟩ := rb.isList
    obtain ⟨xs, rfl, rfl⟩ := r₁.items hx; obtain ⟨ys, rfl, rfl⟩ := r₂.items hy
    show wpAny _ _ (richCompare .Gt (.ref a₁) (.ref a₂)) _ _ _
    exact wpAny_richCompare_same_room (op := .Gt) (T := "list") ⟨_, g₁, rfl⟩ ⟨_, g₂, rfl⟩ F.slot_list_gt (call_meets F.slot_list_gt ⟨_, g₁, rfl⟩ F.entry_list_gt (F.args_list_gt_2 _ _) (list_gt_m a₁ a₂ xs ys n₁ n₂) ⟨g₁, g₂, by show Value.bool _ ≠ Value.notImplemented ∧ _ ∧ _; exact ⟨nofun, Off.refl _ s, Rep.bool _⟩⟩) f.u1
  · exact P_gt A M s vs ds d f b l r e

/-- the built-in functions -/
noncomputable def divmodV : List V → Option V
  | [.int a, .int b] => if b != 0 && b.natAbs < roof then some (.tup [.int (a.fdiv b), .int (a.fmod b)]) else none
  | _ => none
theorem P_divmod : Prim G lvl (fun vs => call (.builtin "divmod") vs) divmodV := by
  intro A M s vs ds d f b l r e
  unfold divmodV at e
  split at e
  · split at e
    · rename_i hb
      cases e
      simp only [Bool.and_eq_true, bne_iff_ne, decide_eq_true_eq] at hb
      obtain ⟨u, v, rfl, x, y⟩ := r.two
      obtain ⟨t, rfl⟩ := x.isInt; obtain ⟨t', rfl⟩ := y.isInt
      exact PyProof.Rows.divmod_int hb.1 (new_tup (Off.refl _ s) l (.cons (.int _ _) (.cons (.int _ _) .nil))) (.inl (PyProof.noPylong_small (by have := hb.2; unfold roof at this; omega)))
    · cases e
  · cases e

noncomputable def ltN : V → V → Option Bool
  | .int a, .int b => some (decide (a < b))
  | .flt a, .flt b => some (Float64.cmp a b == some .lt)
  | _, _ => none
theorem ltN_num {C : Addr} {h : Heap} {M : List Addr} {u v : Value} {a b : V} {c : Bool} (x : Rep C h M u a) (y : Rep C h M v b) (e : ltN a b = some c) : PySem.Flt.NumV u ∧ PySem.Flt.NumV v ∧ PySem.Flt.ltV u v = c := by
  unfold ltN at e
  split at e
  · cases e; obtain ⟨t, rfl⟩ := x.isInt; obtain ⟨t', rfl⟩ := y.isInt; exact ⟨.int _ _, .int _ _, rfl⟩
  · cases e; obtain ⟨t, rfl⟩ := x.isFlt; obtain ⟨t', rfl⟩ := y.isFlt; exact ⟨.float _ _, .float _ _, rfl⟩
  · cases e
noncomputable def maxL : V → List V → Option V
  | a, [] => some a
  | a, b :: r => (ltN a b).bind fun c => maxL (if c then b else a) r
noncomputable def minL : V → List V → Option V
  | a, [] => some a
  | a, b :: r => (ltN b a).bind fun c => minL (if c then b else a) r
noncomputable def maxV : List V → Option V
  | [a, b] => (ltN a b).map fun c => if c then b else a
  | [a, b, c] => (ltN a b).bind fun k => (ltN (if k then b else a) c).map fun j => if j then c else if k then b else a
  | [.list [.int a, .int b, .int c]] => some (.int (if (if a < b then b else a) < c then c else if a < b then b else a))
  | _ => none
noncomputable def minV : List V → Option V
  | [a, b] => (ltN b a).map fun c => if c then b else a
  | [a, b, c] => (ltN b a).bind fun k => (ltN c (if k then b else a)).map fun j => if j then c else if k then b else a
  | [.list [.int a, .int b, .int c]] => some (.int (if c < (if b < a then b else a) then c else if b < a then b else a))
  | _ => none
end

section
variable {prog : Program} {w : World} {A : Around} {E : Value → Shared → Prop} {s : Shared}
theorem max_three_num {a b c : Value} {Q : Value → Shared → Prop} (hh : A.handled = none) (ha : PySem.Flt.NumV a) (hb : PySem.Flt.NumV b) (hc : PySem.Flt.NumV c)
    (h : ∀ h' tk, (∀ d o, s.heap.get? d = some o → h'.get? d = some o) → Q (if PySem.Flt.ltV (if PySem.Flt.ltV a b then b else a) c then c else if PySem.Flt.ltV a b then b else a) { s with heap := h', toks := tk }) :
    wpAny (model prog w) A (call (.builtin "max") [a, b, c]) Q E s := by
  have hT : (s.heap.push { cls := .type "tuple", data := .seq #[a, b, c] }).IsTuple s.heap.objs.size #[a, b, c] := ⟨_, Heap.get?_push_size _ rfl, rfl, 0, rfl⟩
  refine call_max_three (wpAny_pyIter_tuple hT ?_)
  have hsz : (s.heap.push { cls := .type "tuple", data := .seq #[a, b, c] }).objs.size = s.heap.objs.size + 1 := Heap.size_push ..
  refine ⟨_, [_, s.heap.objs.size], [_], _, _, _, _, rfl, Walks.tuple (A := A.in1) hh _ s.heap.objs.size (by rw [hsz]; exact Nat.ne_of_lt (Nat.lt_succ_self _)) #[a, b, c],
    ⟨⟨_, Heap.get?_push_size _ rfl, rfl, rfl⟩, hT.push _⟩, fun d hd => ?_, by simp, PySem.Flt.cmpOf_gt #[a, b, c] (by simp [ha, hb, hc]), fun v h' tk hP hk => ?_⟩
  · show d < ((s.heap.push _).push _).objs.size
    rw [Heap.size_push, hsz]
    rcases List.mem_cons.mp hd with rfl | hd
    · rw [hsz]; exact Nat.lt_succ_self _
    · rcases List.mem_cons.mp hd with rfl | hd
      · exact Nat.lt_succ_of_lt (Nat.lt_succ_self _)
      · cases hd
  · have hold : ∀ d o, s.heap.get? d = some o → h'.get? d = some o := fun d o e => by
      refine hk d o (fun hm => ?_) (Heap.get?_push_of_some _ (Heap.get?_push_of_some _ e))
      rcases List.mem_cons.mp hm with e1 | hm
      · have := Heap.lt_size e; rw [e1, hsz] at this; exact Nat.lt_irrefl _ (Nat.lt_of_succ_lt this)
      · cases hm
    have := h h' tk hold
    have hv : v = if PySem.Flt.ltV (if PySem.Flt.ltV a b then b else a) c then c else if PySem.Flt.ltV a b then b else a := by
      have hP' : #[a, b, c][argBest (fun i j => PySem.Flt.ltV (#[a, b, c].getD j .none) (#[a, b, c].getD i .none)) 2]? = some v := hP
      cases k : PySem.Flt.ltV a b with
      | true =>
        cases j : PySem.Flt.ltV b c with
        | true => simp [argBest, k, j] at hP' ⊢; exact hP'.symm
        | false => simp [argBest, k, j] at hP' ⊢; exact hP'.symm
      | false =>
        cases j : PySem.Flt.ltV a c with
        | true => simp [argBest, k, j] at hP' ⊢; exact hP'.symm
        | false => simp [argBest, k, j] at hP' ⊢; exact hP'.symm
    rw [hv]; exact this
theorem min_three_num {a b c : Value} {Q : Value → Shared → Prop} (hh : A.handled = none) (ha : PySem.Flt.NumV a) (hb : PySem.Flt.NumV b) (hc : PySem.Flt.NumV c)
    (h : ∀ h' tk, (∀ d o, s.heap.get? d = some o → h'.get? d = some o) → Q (if PySem.Flt.ltV c (if PySem.Flt.ltV b a then b else a) then c else if PySem.Flt.ltV b a then b else a) { s with heap := h', toks := tk }) :
    wpAny (model prog w) A (call (.builtin "min") [a, b, c]) Q E s := by
  have hT : (s.heap.push { cls := .type "tuple", data := .seq #[a, b, c] }).IsTuple s.heap.objs.size #[a, b, c] := ⟨_, Heap.get?_push_size _ rfl, rfl, 0, rfl⟩
  refine call_min_three (wpAny_pyIter_tuple hT ?_)
  have hsz : (s.heap.push { cls := .type "tuple", data := .seq #[a, b, c] }).objs.size = s.heap.objs.size + 1 := Heap.size_push ..
  refine ⟨_, [_, s.heap.objs.size], [_], _, _, _, _, rfl, Walks.tuple (A := A.in1) hh _ s.heap.objs.size (by rw [hsz]; exact Nat.ne_of_lt (Nat.lt_succ_self _)) #[a, b, c],
    ⟨⟨_, Heap.get?_push_size _ rfl, rfl, rfl⟩, hT.push _⟩, fun d hd => ?_, by simp, PySem.Flt.cmpOf_lt #[a, b, c] (by simp [ha, hb, hc]), fun v h' tk hP hk => ?_⟩
  · show d < ((s.heap.push _).push _).objs.size
    rw [Heap.size_push, hsz]
    rcases List.mem_cons.mp hd with rfl | hd
    · rw [hsz]; exact Nat.lt_succ_self _
    · rcases List.mem_cons.mp hd with rfl | hd
      · exact Nat.lt_succ_of_lt (Nat.lt_succ_self _)
      · cases hd
  · have hold : ∀ d o, s.heap.get? d = some o → h'.get? d = some o := fun d o e => by
      refine hk d o (fun hm => ?_) (Heap.get?_push_of_some _ (Heap.get?_push_of_some _ e))
      rcases List.mem_cons.mp hm with e1 | hm
      · have := Heap.lt_size e; rw [e1, hsz] at this; exact Nat.lt_irrefl _ (Nat.lt_of_succ_lt this)
      · cases hm
    have := h h' tk hold
    have hv : v = if PySem.Flt.ltV c (if PySem.Flt.ltV b a then b else a) then c else if PySem.Flt.ltV b a then b else a := by
      have hP' : #[a, b, c][argBest (fun i j => PySem.Flt.ltV (#[a, b, c].getD i .none) (#[a, b, c].getD j .none)) 2]? = some v := hP
      cases k : PySem.Flt.ltV b a with
      | true =>
        cases j : PySem.Flt.ltV c b with
        | true => simp [argBest, k, j] at hP' ⊢; exact hP'.symm
        | false => simp [argBest, k, j] at hP' ⊢; exact hP'.symm
      | false =>
        cases j : PySem.Flt.ltV c a with
        | true => simp [argBest, k, j] at hP' ⊢; exact hP'.symm
        | false => simp [argBest, k, j] at hP' ⊢; exact hP'.symm
    rw [hv]; exact this
end
end Mine
end

section
namespace Mine
open PySem PySem.Calls PyProof.Rows

theorem Rep.heapExt {C : Addr} {M : List Addr} {h h' : Heap} {v : Value} {d : V} (r : Rep C h M v d) (hk : ∀ b o, h.get? b = some o → h'.get? b = some o) : Rep C h' M v d := r.mono fun b o m e => ⟨hk b o e, m⟩
theorem RepAll.heapExt {C : Addr} {M : List Addr} {h h' : Heap} {vs : List Value} {ds : List V} (r : RepAll C h M vs ds) (hk : ∀ b o, h.get? b = some o → h'.get? b = some o) : RepAll C h' M vs ds := r.mono fun b o m e => ⟨hk b o e, m⟩

section
variable {G : Gd} {lvl : Nat}
theorem P_max : Prim G lvl (fun vs => call (.builtin "max") vs) maxV := by
  intro A M s vs ds d f b l r e
  unfold maxV at e
  split at e
  · obtain ⟨c, hc, rfl⟩ := Option.map_eq_some_iff.mp e
    obtain ⟨u, v, rfl, x, y⟩ := r.two
    obtain ⟨n1, n2, q⟩ := ltN_num x y hc
    refine PySem.Flt.max_two_num f.handled n1 n2 fun h' tk hk => ⟨Ext.of_heap hk, ?_⟩
    rw [q]
    cases c with
    | true => exact y.heapExt hk
    | false => exact x.heapExt hk
  · rename_i va vb vc
    obtain ⟨k, hk, e⟩ := Option.bind_eq_some_iff.mp e
    obtain ⟨j, hj, rfl⟩ := Option.map_eq_some_iff.mp e
    obtain ⟨u, v, w, rfl, x, y, z⟩ := r.three
    obtain ⟨n1, n2, q⟩ := ltN_num x y hk
    have xy : Rep G.C s.heap M (if k then v else u) (if k then vb else va) := by cases k with | true => exact y | false => exact x
    obtain ⟨_, n3, q'⟩ := ltN_num xy z hj
    refine max_three_num f.handled n1 n2 n3 fun h' tk hk' => ⟨Ext.of_heap hk', ?_⟩
    rw [q, q']
    cases j with
    | true => exact z.heapExt hk'
    | false => exact xy.heapExt hk'
  · rename_i i i2 i3
    cases e
    obtain ⟨u, rfl, x⟩ := r.one
    obtain ⟨a₁, vs₁, n₁, rfl, g₁, m₁, r₁⟩ := x.isList
    obtain ⟨u, v, w, rfl, x, y, z⟩ := r₁.three
    obtain ⟨t, rfl⟩ := x.isInt; obtain ⟨t2, rfl⟩ := y.isInt; obtain ⟨t3, rfl⟩ := z.isInt
    have hl : s.heap.IsList a₁ (intItems #[(i, t), (i2, t2), (i3, t3)]) := ⟨_, g₁, rfl, n₁, by simp [intItems]⟩
    refine max_intList f.handled hl (by simp) fun v h' tk hP hk' => ⟨Ext.of_heap hk', ?_⟩
    have hP' : #[Value.int i t, .int i2 t2, .int i3 t3][argBest (fun a b => decide (numAt #[(i, t), (i2, t2), (i3, t3)] a > numAt #[(i, t), (i2, t2), (i3, t3)] b)) 2]? = some v := by simpa [intItems] using hP
    by_cases c : i < i2
    · by_cases c' : i2 < i3
      · simp [argBest, numAt, c, c'] at hP' ⊢; subst hP'; exact .int _ _
      · simp [argBest, numAt, c, c'] at hP' ⊢; subst hP'; exact .int _ _
    · by_cases c' : i < i3
      · simp [argBest, numAt, c, c'] at hP' ⊢; subst hP'; exact .int _ _
      · simp [argBest, numAt, c, c'] at hP' ⊢; subst hP'; exact .int _ _
  · cases e
theorem P_min : Prim G lvl (fun vs => call (.builtin "min") vs) minV := by
  intro A M s vs ds d f b l r e
  unfold minV at e
  split at e
  · obtain ⟨c, hc, rfl⟩ := Option.map_eq_some_iff.mp e
    obtain ⟨u, v, rfl, x, y⟩ := r.two
    obtain ⟨n1, n2, q⟩ := ltN_num y x hc
    refine PySem.Flt.min_two_num f.handled n2 n1 fun h' tk hk => ⟨Ext.of_heap hk, ?_⟩
    rw [q]
    cases c with
    | true => exact y.heapExt hk
    | false => exact x.heapExt hk
  · rename_i va vb vc
    obtain ⟨k, hk, e⟩ := Option.bind_eq_some_iff.mp e
    obtain ⟨j, hj, rfl⟩ := Option.map_eq_some_iff.mp e
    obtain ⟨u, v, w, rfl, x, y, z⟩ := r.three
    obtain ⟨n2, n1, q⟩ := ltN_num y x hk
    have xy : Rep G.C s.heap M (if k then v else u) (if k then vb else va) := by cases k with | true => exact y | false => exact x
    obtain ⟨n3, _, q'⟩ := ltN_num z xy hj
    refine min_three_num f.handled n1 n2 n3 fun h' tk hk' => ⟨Ext.of_heap hk', ?_⟩
    rw [q, q']
    cases j with
    | true => exact z.heapExt hk'
    | false => exact xy.heapExt hk'
  · rename_i i i2 i3
    cases e
    obtain ⟨u, rfl, x⟩ := r.one
    obtain ⟨a₁, vs₁, n₁, rfl, g₁, m₁, r₁⟩ := x.isList
    obtain ⟨u, v, w, rfl, x, y, z⟩ := r₁.three
    obtain ⟨t, rfl⟩ := x.isInt; obtain ⟨t2, rfl⟩ := y.isInt; obtain ⟨t3, rfl⟩ := z.isInt
    have hl : s.heap.IsList a₁ (intItems #[(i, t), (i2, t2), (i3, t3)]) := ⟨_, g₁, rfl, n₁, by simp [intItems]⟩
    refine min_intList f.handled hl (by simp) fun v h' tk hP hk' => ⟨Ext.of_heap hk', ?_⟩
    have hP' : #[Value.int i t, .int i2 t2, .int i3 t3][argBest (fun a b => decide (numAt #[(i, t), (i2, t2), (i3, t3)] a < numAt #[(i, t), (i2, t2), (i3, t3)] b)) 2]? = some v := by simpa [intItems] using hP
    by_cases c : i2 < i
    · by_cases c' : i3 < i2
      · simp [argBest, numAt, c, c'] at hP' ⊢; subst hP'; exact .int _ _
      · simp [argBest, numAt, c, c'] at hP' ⊢; subst hP'; exact .int _ _
    · by_cases c' : i3 < i
      · simp [argBest, numAt, c, c'] at hP' ⊢; subst hP'; exact .int _ _
      · simp [argBest, numAt, c, c'] at hP' ⊢; subst hP'; exact .int _ _
  · cases e

noncomputable def absV : List V → Option V
  | [.int a] => some (.int (if a < 0 then -a else a))
  | _ => none
theorem P_abs : Prim G lvl (fun vs => call (.builtin "abs") vs) absV := by
  intro A M s vs ds d f b l r e
  unfold absV at e
  split at e
  · cases e
    obtain ⟨u, rfl, x⟩ := r.one
    obtain ⟨t, rfl⟩ := x.isInt
    exact PyProof.Rows.call_abs_int fun u tk => ⟨Ext.same s _, .int _ _⟩
  · cases e
noncomputable def lenV : List V → Option V
  | [.list xs] => if xs.length < roof then some (.int xs.length) else none
  | [.str x] => if x.length < roof then some (.int x.length) else none
  | _ => none
theorem P_len : Prim G lvl (fun vs => call (.builtin "len") vs) lenV := by
  intro A M s vs ds d f b l r e
  unfold lenV at e
  split at e
  · split at e
    · rename_i hb
      cases e
      obtain ⟨u, rfl, x⟩ := r.one
      obtain ⟨a₁, vs₁, n₁, rfl, g₁, m₁, r₁⟩ := x.isList
      have hn : vs₁.toArray.size = vs₁.length := by simp
      refine call_len_list ⟨_, g₁, rfl, n₁, rfl⟩ (by rw [hn, r₁.length]; unfold roof at hb; omega) ⟨Ext.same s _, ?_⟩
      rw [hn, r₁.length]; exact .int _ _
    · cases e
  · split at e
    · rename_i hb
      cases e
      obtain ⟨u, rfl, x⟩ := r.one
      obtain ⟨t, rfl⟩ := x.isStr
      exact PyProof.Rows.len_str (by unfold roof at hb; omega) ⟨Ext.same s _, .int _ _⟩
    · cases e
  · cases e
noncomputable def sumV : List V → Option V
  | [.list xs] => (intsOf xs).map fun ns => .int ns.sum
  | _ => none
theorem preSum_take (xs : List (Int × Tok)) : ∀ j, j ≤ xs.length → preSum (numAt xs.toArray) j = ((xs.map (·.1)).take j).sum
  | 0, _ => by simp [preSum]
  | j + 1, h => by
    have hj : j < xs.length := h
    rw [preSum, preSum_take xs j (by omega), List.take_add_one]
    simp [numAt, hj]
theorem P_sum : Prim G lvl (fun vs => call (.builtin "sum") vs) sumV := by
  intro A M s vs ds d f b l r e
  unfold sumV at e
  split at e
  · obtain ⟨ns, hn, rfl⟩ := Option.map_eq_some_iff.mp e
    obtain ⟨u, rfl, x⟩ := r.one
    obtain ⟨a₁, vs₁, n₁, rfl, g₁, m₁, r₁⟩ := x.isList
    obtain ⟨xs, rfl, rfl⟩ := r₁.items hn
    have hl : s.heap.IsList a₁ (intItems xs.toArray) := ⟨_, g₁, rfl, n₁, by simp [intItems]⟩
    refine sum_intListG f.handled hl fun h' tk t' hk => ⟨Ext.of_heap hk, ?_⟩
    have : preSum (numAt xs.toArray) xs.toArray.size = (xs.map (·.1)).sum := by
      rw [preSum_take xs _ (by simp)]
      simp [List.take_of_length_le]
    rw [this]; exact .int _ _
  · cases e

theorem repAll_ints {C : Addr} {h : Heap} {M : List Addr} : ∀ {vs : List Value} {ns : List Int}, IntsAre vs ns → RepAll C h M vs (ns.map .int)
  | _, _, .nil => .nil
  | _, _, .cons n t r => .cons (.int n t) (repAll_ints r)
theorem ints_repAll {C : Addr} {h : Heap} {M : List Addr} {vs : List Value} {ds : List V} {ns : List Int} (r : RepAll C h M vs ds) (e : intsOf ds = some ns) : IntsAre vs ns := by
  obtain ⟨xs, rfl, rfl⟩ := r.items e
  exact intsAre_map xs
noncomputable def insI (a : Int) : List Int → List Int
  | [] => [a]
  | b :: r => if a ≤ b then a :: b :: r else b :: insI a r
noncomputable def sortI : List Int → List Int
  | [] => []
  | a :: r => insI a (sortI r)
theorem insI_perm (a : Int) : ∀ l, (insI a l).Perm (a :: l)
  | [] => .refl _
  | b :: r => by
    unfold insI
    split
    · exact .refl _
    · exact (List.Perm.cons b (insI_perm a r)).trans (List.Perm.swap a b r)
theorem sortI_perm : ∀ l, (sortI l).Perm l
  | [] => .refl _
  | a :: r => (insI_perm a (sortI r)).trans (List.Perm.cons a (sortI_perm r))
theorem insI_sorted (a : Int) : ∀ l : List Int, l.Pairwise (· ≤ ·) → (insI a l).Pairwise (· ≤ ·)
  | [], _ => by simp [insI]
  | b :: r, h => by
    unfold insI
    have h' := List.pairwise_cons.mp h
    split
    · rename_i hab
      exact List.pairwise_cons.mpr ⟨fun c hc => by
        rcases List.mem_cons.mp hc with rfl | hc
        · exact hab
        · exact Int.le_trans hab (h'.1 c hc), h⟩
    · rename_i hab
      refine List.pairwise_cons.mpr ⟨fun c hc => ?_, insI_sorted a r h'.2⟩
      rcases List.mem_cons.mp ((insI_perm a r).mem_iff.mp hc) with rfl | hc
      · omega
      · exact h'.1 c hc
theorem sortI_sorted : ∀ l : List Int, (sortI l).Pairwise (· ≤ ·)
  | [] => .nil
  | a :: r => insI_sorted a _ (sortI_sorted r)
theorem sorted_unique {l m : List Int} (p : l.Perm m) (hl : l.Pairwise (· ≤ ·)) (hm : m.Pairwise (· ≤ ·)) : l = m :=
  List.Perm.eq_of_pairwise (fun a b _ _ h1 h2 => Int.le_antisymm h1 h2) hl hm p
noncomputable def sortedV : List V → Option V
  | [.list xs] => (intsOf xs).bind fun ns => if ns.length < 64 then some (.list ((sortI ns).map .int)) else none
  | _ => none
theorem P_sorted : Prim G lvl (fun vs => call (.builtin "sorted") vs) sortedV := by
  intro A M s vs ds d f b l r e
  unfold sortedV at e
  split at e
  · obtain ⟨ns, hn, e⟩ := Option.bind_eq_some_iff.mp e
    split at e
    · rename_i h64
      cases e
      obtain ⟨u, rfl, x⟩ := r.one
      obtain ⟨a₁, vs₁, n₁, rfl, g₁, m₁, r₁⟩ := x.isList
      have hI := ints_repAll r₁ hn
      refine sorted_ints ⟨_, g₁, rfl, n₁, rfl⟩ hI (by rw [hI.length]; exact h64) fun out ns' a1 a2 a3 => ?_
      have hk : ∀ b o, s.heap.get? b = some o → (sortedAll s.heap vs₁ out).get? b = some o := fun b o e => sortedAll_old e
      obtain ⟨e, he⟩ := sortedAll_at s.heap vs₁ out
      have hns : ns' = sortI ns := sorted_unique (a2.trans (sortI_perm ns).symm) a3 (sortI_sorted ns)
      subst hns
      refine ⟨Ext.of_heap (tk := s.toks) hk, .list (vs := out.toList) (n := e) (by simpa using he) (fun hm => ?_) (repAll_ints a1)⟩
      obtain ⟨o, ho⟩ := l _ hm
      exact absurd (Heap.lt_size ho) (by show ¬ (s.heap.objs.size + 1 < s.heap.objs.size); omega)
    · cases e
  · cases e

/-- the built-in types -/
noncomputable def intV : List V → Option V
  | [.bool b] => some (.int (if b then 1 else 0))
  | [.flt x] => if Float64.isFinite x && !Float64.isNaN x && !Float64.isInf x then some (.int (PySem.Flt.toInt Float64.truncOf x)) else none
  | [.str x] => if x.length ≤ 10 then (PySem.intText? x).map .int else none
  | _ => none
theorem P_int : Prim G lvl (fun vs => call (.type "int") vs) intV := by
  intro A M s vs ds d f b l r e
  unfold intV at e
  split at e
  · cases e
    obtain ⟨u, rfl, x⟩ := r.one
    cases x.isBool
    exact call_int_bool ⟨Ext.same s _, .int _ _⟩
  · split at e
    · rename_i hb
      cases e
      simp only [Bool.and_eq_true, Bool.not_eq_true'] at hb
      obtain ⟨u, rfl, x⟩ := r.one
      obtain ⟨t, rfl⟩ := x.isFlt
      exact PySem.Flt.call_int_float3 f.handled (fun q => by rw [hb.1.2] at q; cases q) (fun q => by rw [hb.2] at q; cases q) fun _ => ⟨Ext.same s _, .int _ _⟩
    · cases e
  · split at e
    · rename_i hb
      obtain ⟨n, hn, rfl⟩ := Option.map_eq_some_iff.mp e
      obtain ⟨u, rfl, x⟩ := r.one
      obtain ⟨t, rfl⟩ := x.isStr
      exact PySem.W.KIN.call_text hn (by omega) ⟨Ext.same s _, .int _ _⟩
    · cases e
  · cases e
theorem log_small {a : Int} (hb : a.natAbs < roof) : a.natAbs.log2 < 1920 := by
  by_cases h0 : a.natAbs = 0
  · rw [h0]; decide
  · exact (Nat.log2_lt h0).mpr (Nat.lt_trans hb (by decide +kernel))
noncomputable def strV : List V → Option V
  | [.int a] => if a.natAbs < roof then some (.str (Str.ofString (toString a))) else none
  | _ => none
theorem P_str : Prim G lvl (fun vs => call (.type "str") vs) strV := by
  intro A M s vs ds d f b l r e
  unfold strV at e
  split at e
  · split at e
    · rename_i hb
      cases e
      obtain ⟨u, rfl, x⟩ := r.one
      obtain ⟨t, rfl⟩ := x.isInt
      refine PySem.P.str_of_int (log_small hb) ⟨Ext.same s _, .str _ _⟩
    · cases e
  · cases e
end
end Mine
end

section
namespace Mine
open PySem PySem.Calls PyProof.Rows

/-- items and slices -/
noncomputable def itemV : List V → Option V
  | [.list xs, .int k] => if -1000 < k && k < 1000 && xs.length < 1000 then (seqIndex? k xs.length).bind fun j => xs[j]? else none
  | [.tup xs, .int k] => if -1000 < k && k < 1000 && xs.length < 1000 then (seqIndex? k xs.length).bind fun j => xs[j]? else none
  | _ => none
noncomputable def notSlice : Expr → Bool
  | .Slice .. => false
  | _ => true
theorem subscripted_plain {slice : Expr} (h : notSlice slice = true) (o i : Value) : subscripted slice false o i = operate [o, i] (getItem o i) := by
  cases slice <;> first | rfl | cases h
noncomputable def sliceV : V → Option Int → Option Int → Option V
  | .str x, l, u => if x.length < roof then some (.str (Txt.slice x l u)) else none
  | .list xs, none, some y => if 0 ≤ y && xs.length < roof then some (.list (xs.take y.toNat)) else none
  | .list xs, some x, none => if 0 ≤ x && xs.length < roof then some (.list (xs.drop x.toNat)) else none
  | _, _, _ => none
noncomputable def asInt : Option V → Option Int
  | some (.int i) => some i
  | _ => none
theorem asInt_some {o : Option V} {i : Int} (h : asInt o = some i) : o = some (.int i) := by
  unfold asInt at h
  split at h
  · cases h; rfl
  · cases h

section
variable {G : Gd} {lvl : Nat} {sc : Scope} {T : List (Str × Nat)} {ms : List Nat}

theorem P_item (value slice : Expr) (hs : notSlice slice = true) : Prim G lvl (subT value slice) itemV := by
  intro A M s vs ds d f b l r e
  unfold itemV at e
  split at e
  · rename_i xs k
    split at e
    · rename_i hb
      simp only [Bool.and_eq_true, decide_eq_true_eq] at hb
      obtain ⟨j, hj, hx⟩ := Option.bind_eq_some_iff.mp e
      obtain ⟨u, v, rfl, x, y⟩ := r.two
      obtain ⟨a₁, vs₁, n₁, rfl, g₁, m₁, r₁⟩ := x.isList; obtain ⟨t', rfl⟩ := y.isInt
      obtain ⟨v, hv, rv⟩ := r₁.get hx
      have hL : s.heap.IsList a₁ vs₁.toArray := ⟨_, g₁, rfl, n₁, rfl⟩
      have hlen := r₁.length
      have hjlt : j < vs₁.length := (List.getElem?_eq_some_iff.mp hv).1
      unfold seqIndex? at hj
      show wpAny _ A (subscriptTail value slice (.ref a₁) (.int k t')) _ _ s
      refine tail_any (T := "list") ⟨_, g₁, rfl⟩ slot_list_getitem.lookup ?_ (subscripted_plain hs _ _)
      by_cases h0 : k < 0
      · simp only [h0, if_true] at hj
        split at hj
        · rename_i hq
          simp only [Bool.and_eq_true, decide_eq_true_eq] at hq
          cases hj
          exact wpAny_getItem_list_neg hL h0 (by simp; omega) (by omega) (by rw [List.size_toArray, hlen]; simpa using hv) ⟨Off.refl _ s, rv⟩
        · cases hj
      · simp only [h0, if_false] at hj
        split at hj
        · rename_i hq
          simp only [Bool.and_eq_true, decide_eq_true_eq] at hq
          cases hj
          exact wpAny_getItem_list hL (by omega) (by omega) (by simpa using hv) ⟨Off.refl _ s, rv⟩
        · cases hj
    · cases e
  · rename_i xs k
    split at e
    · rename_i hb
      simp only [Bool.and_eq_true, decide_eq_true_eq] at hb
      obtain ⟨j, hj, hx⟩ := Option.bind_eq_some_iff.mp e
      obtain ⟨u, v, rfl, x, y⟩ := r.two
      obtain ⟨a₁, vs₁, n₁, rfl, g₁, m₁, r₁⟩ := x.isTup; obtain ⟨t', rfl⟩ := y.isInt
      obtain ⟨v, hv, rv⟩ := r₁.get hx
      exact item_tupleT (l := vs₁) ⟨_, g₁, rfl, n₁, rfl⟩ (by omega) (by omega) (by rw [r₁.length]; exact hj) hv ⟨Off.refl _ s, rv⟩ (subscripted_plain hs _ _)
    · cases e
  · cases e
theorem DenP.item {v i : Expr} {pos : Pos} {F₁ F₂ : Rho → Option V} (h₁ : DenP G lvl sc T ms v F₁) (h₂ : DenP G lvl sc T ms i F₂) (hs : notSlice i = true) :
    DenP G lvl sc T ms (.Subscript v i pos) fun ρ => (F₁ ρ).bind fun a => (F₂ ρ).bind fun b => itemV [a, b] := DenP.sub (fun value => P_item value i hs) h₁ h₂

noncomputable def DenPart (G : Gd) (lvl : Nat) (sc : Scope) (T : List (Str × Nat)) (ms : List Nat) (o : Option Expr) (F : Rho → Option (Option Int)) : Prop :=
  ∀ A env M s ρ r, St G lvl sc T ms A env M s ρ → F ρ = some r →
    wpAny (model G.prog G.w) A (evalPart o env) (fun v s' => Ext s s' ∧ ∃ p : Option (Int × Tok), v = partValue p ∧ p.map (·.1) = r) NoE s
theorem DenPart.none : DenPart G lvl sc T ms Option.none fun _ => some Option.none := fun A env M s ρ r S q => by
  cases q; exact wpAny_evalPart_none ⟨Off.refl _ s, Option.none, rfl, rfl⟩
theorem DenPart.some {e : Expr} {F : Rho → Option V} (h : DenP G lvl sc T ms e F) : DenPart G lvl sc T ms (some e) fun ρ => (asInt (F ρ)).map Option.some := fun A env M s ρ r S q => by
  obtain ⟨i, hi, rfl⟩ := Option.map_eq_some_iff.mp q
  refine wpAny_evalPart_some (wp_use (h A env M s ρ _ S (asInt_some hi)) fun v s' ⟨x, r⟩ => ?_)
  obtain ⟨t, rfl⟩ := r.isInt
  exact ⟨x, Option.some (i, t), rfl, rfl⟩
theorem part_is {p : Option (Int × Tok)} : IsPart (partValue p) (p.map (·.1)) := by
  cases p with
  | none => exact .none
  | some q => exact .int q.1 q.2
theorem pick_to {vs : List Value} {y : Int} (h : 0 ≤ y) : slicePick vs.toArray Option.none (some y) Option.none = (vs.take y.toNat).toArray := by
  have e : sliceBounds Option.none (some y) Option.none vs.toArray.size = (((0 : Nat) : Int), ((min y.toNat vs.toArray.size : Nat) : Int), 1) := by
    simp only [sliceBounds, Option.getD_none, show (1 : Int) > 0 by decide, if_true, if_neg (show ¬ (y < 0) by omega)]
    congr 1
    congr 1
    omega
  rw [PySem.W.kmk_pick_nat _ e]
  simp [List.take_eq_take_iff]
theorem pick_from {vs : List Value} {x : Int} (h : 0 ≤ x) : slicePick vs.toArray (some x) Option.none Option.none = (vs.drop x.toNat).toArray := by
  have e : sliceBounds (some x) Option.none Option.none vs.toArray.size = (((min x.toNat vs.toArray.size : Nat) : Int), ((vs.toArray.size : Nat) : Int), 1) := by
    simp only [sliceBounds, Option.getD_none, show (1 : Int) > 0 by decide, if_true, if_neg (show ¬ (x < 0) by omega)]
    congr 1
    omega
  rw [PySem.W.kmk_pick_nat _ e]
  simp only [List.size_toArray]
  rw [PySem.W.kmk_drop_min, List.take_of_length_le (by rw [List.length_drop]; omega)]

theorem sliceV_list {xs : List V} {l u : Option Int} {d : V} (q : sliceV (.list xs) l u = some d) : xs.length < roof ∧
    ((l = none ∧ ∃ y, u = some y ∧ 0 ≤ y ∧ d = .list (xs.take y.toNat)) ∨ (∃ x, l = some x ∧ u = none ∧ 0 ≤ x ∧ d = .list (xs.drop x.toNat))) := by
  cases l with
  | none =>
    cases u with
    | none => simp [sliceV] at q
    | some y =>
      simp only [sliceV] at q
      split at q
      · rename_i hb
        simp only [Bool.and_eq_true, decide_eq_true_eq] at hb
        cases q
        exact ⟨hb.2, .inl ⟨rfl, y, rfl, hb.1, rfl⟩⟩
      · cases q
  | some x =>
    cases u with
    | some y => simp [sliceV] at q
    | none =>
      simp only [sliceV] at q
      split at q
      · rename_i hb
        simp only [Bool.and_eq_true, decide_eq_true_eq] at hb
        cases q
        exact ⟨hb.2, .inr ⟨x, rfl, rfl, hb.1, rfl⟩⟩
      · cases q
theorem DenP.sliceL {v : Expr} {lo hi : Option Expr} {p pos : Pos} {F : Rho → Option V} {Fl Fu : Rho → Option (Option Int)} (h : DenP G lvl sc T ms v F) (hl : DenPart G lvl sc T ms lo Fl) (hu : DenPart G lvl sc T ms hi Fu)
    (hne : ∀ o r, letTemporaryGo v o r = pure ()) :
    DenP G lvl sc T ms (.Subscript v (.Slice lo hi Option.none p) pos) fun ρ => ((asList (F ρ)).map .list).bind fun a => (Fl ρ).bind fun l => (Fu ρ).bind fun u => sliceV a l u := fun A env M s ρ d S q => by
  obtain ⟨a, ha, q⟩ := Option.bind_eq_some_iff.mp q
  obtain ⟨xs, hxs, rfl⟩ := Option.map_eq_some_iff.mp ha
  obtain ⟨l, hl', q⟩ := Option.bind_eq_some_iff.mp q
  obtain ⟨u, hu', q⟩ := Option.bind_eq_some_iff.mp q
  refine wpAny_Subscript_list_slice (wp_use (h A env M s ρ _ S (asList_some hxs)) fun o s₁ ⟨x, ro⟩ => wp_use (hl A env M s₁ ρ l (S.ext x) hl') fun vl s₂ ⟨y, pl, e1, e2⟩ => wp_use (hu A env M s₂ ρ u ((S.ext x).ext y) hu') fun vu s₃ ⟨z, pu, e3, e4⟩ => ?_) hne
  obtain ⟨a₁, vs₁, n₁, rfl, g₁, m₁, r₁⟩ := ((ro.ext y).ext z).isList
  subst e1 e3 e2 e4
  have S₃ := ((S.ext x).ext y).ext z
  refine ⟨a₁, vs₁.toArray, _, _, rfl, ⟨_, g₁, rfl, n₁, rfl⟩, ?_, part_is, part_is, ?_⟩
  · have := (sliceV_list q).1
    rw [List.size_toArray, r₁.length, sizeLine_eq]; unfold roof at this; omega
  · have key : ∃ (ws : List Value) (es : List V), slicePick vs₁.toArray (pl.map (·.1)) (pu.map (·.1)) Option.none = ws.toArray ∧ d = .list es ∧ RepAll G.C s₃.heap M ws es := by
      rcases (sliceV_list q).2 with ⟨e1, y, e2, hy, rfl⟩ | ⟨x, e1, e2, hx, rfl⟩
      · rw [e1, e2]; exact ⟨_, _, pick_to hy, rfl, r₁.take _⟩
      · rw [e1, e2]; exact ⟨_, _, pick_from hx, rfl, r₁.drop _⟩
    obtain ⟨ws, es, e, rfl, rr⟩ := key
    rw [e]
    have x1 : Ext s₃ { s₃ with heap := s₃.heap.push { cls := .type "slice", data := .fields #[partValue pl, partValue pu, .none] } } := Ext.push s₃ _ _
    have N := new_list (s₀ := s) (tk := s₃.toks) (((x.trans y).trans z).trans x1) S.live (rr.ext x1)
    have hsz : (s₃.heap.push { cls := .type "slice", data := .fields #[partValue pl, partValue pu, .none] }).objs.size = s₃.heap.objs.size + 1 := Heap.size_push ..
    rw [hsz] at N
    exact N
theorem DenP.sliceS {v : Expr} {lo hi : Option Expr} {p pos : Pos} {F : Rho → Option V} {Fl Fu : Rho → Option (Option Int)} (h : DenP G lvl sc T ms v F) (hl : DenPart G lvl sc T ms lo Fl) (hu : DenPart G lvl sc T ms hi Fu)
    (hne : ∀ o r, letTemporaryGo v o r = pure ()) :
    DenP G lvl sc T ms (.Subscript v (.Slice lo hi Option.none p) pos) fun ρ => (match F ρ with | some (.str x) => some (V.str x) | _ => Option.none).bind fun a => (Fl ρ).bind fun l => (Fu ρ).bind fun u => sliceV a l u := fun A env M s ρ d S q => by
  obtain ⟨a, ha, q⟩ := Option.bind_eq_some_iff.mp q
  split at ha
  · rename_i x0 hx0
    cases ha
    obtain ⟨l, hl', q⟩ := Option.bind_eq_some_iff.mp q
    obtain ⟨u, hu', q⟩ := Option.bind_eq_some_iff.mp q
    refine wpAny_Subscript_str_slice (wp_use (h A env M s ρ _ S hx0) fun o s₁ ⟨x, ro⟩ => wp_use (hl A env M s₁ ρ l (S.ext x) hl') fun vl s₂ ⟨y, pl, e1, e2⟩ => wp_use (hu A env M s₂ ρ u ((S.ext x).ext y) hu') fun vu s₃ ⟨z, pu, e3, e4⟩ => ?_) hne
    obtain ⟨t, rfl⟩ := ro.isStr
    subst e1 e3 e2 e4
    refine ⟨x0, t, pl, pu, rfl, rfl, rfl, ?_⟩
    unfold sliceV at q
    dsimp only at q
    split at q
    · rename_i hb
      cases q
      have x1 : Ext s₃ { s₃ with heap := s₃.heap.push { cls := .type "slice", data := .fields #[partValue pl, partValue pu, .none] } } := Ext.push s₃ _ _
      have X := ((x.trans y).trans z).trans x1
      have hle : (Txt.slice x0 (pl.map (·.1)) (pu.map (·.1))).length ≤ sizeLine := Nat.le_trans (PyProof.Txt.length_slice_le _ _ _) (by rw [sizeLine_eq]; unfold roof at hb; omega)
      unfold sliceMade
      unfold Txt.slice at hle ⊢
      have hp : slicePicked x0 pl pu Option.none = Builtin.Str.strSliceIndices (pl.map (·.1)) (pu.map (·.1)) 1 x0.length := rfl
      rw [hp]
      show Made.post (if ((1 : Int) == 1 && (Builtin.Str.strSliceIndices (pl.map (·.1)) (pu.map (·.1)) 1 x0.length).length == x0.length) = true then _ else _) _ _
      split
      · rename_i hc
        exact ⟨X, .str _ _⟩
      · rename_i hc
        rw [if_neg hc] at hle
        exact ⟨hle, X.trans (Ext.same _ _), .str _ _⟩
    · cases q
  · cases ha
end
end Mine
end

section
namespace Mine
open PySem PySem.Calls PyProof.Rows

noncomputable def typeNameV : V → Option String
  | .str _ => some "str"
  | .list _ => some "list"
  | _ => none
theorem Rep.typed {C : Addr} {s : Shared} {M : List Addr} {v : Value} {d : V} {T : String} (r : Rep C s.heap M v d) (e : typeNameV d = some T) : s.TypeIs v T ∧ ∀ a, v = .ref a → ∃ ob, s.heap.get? a = some ob ∧ ob.dict = Option.none := by
  cases r with
  | str x t => cases e; exact ⟨typeIs_str s x t, fun a h => by cases h⟩
  | list g m r => cases e; exact ⟨⟨_, g, rfl⟩, fun a h => by cases h; exact ⟨_, g, rfl⟩⟩
  | _ => cases e

section
variable {G : Gd} {lvl : Nat} {sc : Scope} {T : List (Str × Nat)} {ms : List Nat}

theorem DenP.meth {o : Expr} {name : Str} {apos pos : Pos} {args : List Expr} (Ty id : String) {F : Rho → Option V} {Fs : Rho → Option (List V)} {g : List V → Option V} (hp : Prim G lvl (fun vs => call (.builtin id) vs) g)
    (pa : PlainAttrs Ty) (slot : Slot Ty name id) (hty : typeOf (.builtin id) = pure (.type "method_descriptor"))
    (h : DenP G lvl sc T ms o F) (hs : DenAll G lvl sc T ms args Fs) (ha : plainArgs args = true)
    (hbase : ∀ env w, attributeBase o name env w = w)
    (hfew : ∀ env, ((backTo pos (starEach args env)).all (fun x => !x.1) && (backToKw pos (keywordEach [] env)).all (fun x => x.1.isSome) && decide (args.length + ([] : List Keyword).length + (if ([] : List Keyword).isEmpty then 0 else 1) < 30)) = true)
    (hline : (apos.endLine == pos.line) = true) :
    DenP G lvl sc T ms (.Call (.Attribute o name apos) args [] pos) fun ρ => (F ρ).bind fun a => if typeNameV a = some Ty then (Fs ρ).bind fun ds => g (a :: ds) else Option.none := fun A env M s ρ d S q => by
  obtain ⟨a, ha', q⟩ := Option.bind_eq_some_iff.mp q
  split at q
  · rename_i hT
    obtain ⟨ds, hds, q⟩ := Option.bind_eq_some_iff.mp q
    refine wpAny_Call_method (hbase env _) (hfew env) hline pa slot hty (wp_use (h A env M s ρ a S ha') fun v s₁ ⟨x, r⟩ => ⟨(r.typed hT).1, (r.typed hT).2, ?_⟩)
    refine callWith_builtin (plain_args (by unfold plainArgs at ha; exact (Bool.and_eq_true_iff.mp ha).2)) (evalArgs_spliced ha (wp_use (hs A env M s₁ ρ ds pos (S.ext x) hds) fun vs s₂ ⟨y, rs, _⟩ => ?_))
    have S₂ := (S.ext x).ext y
    exact wp_use (hp A M s₂ (v :: vs) (a :: ds) d S₂.fit S₂.base' S₂.live (.cons (r.ext y) rs) q) fun v s₃ ⟨z, r'⟩ => ⟨(x.trans y).trans z, r'⟩
  · cases q

/-- x.count(i) -/
noncomputable def countV : List V → Option V
  | [.list xs, .int i] => (intsOf xs).map fun ns => .int (ns.countP (· == i))
  | _ => none
theorem P_count : Prim G lvl (fun vs => call (.builtin "list.count") vs) countV := by
  intro A M s vs ds d f b l r e
  unfold countV at e
  split at e
  · rename_i _ xs0 i0
    obtain ⟨ns, hn, rfl⟩ := Option.map_eq_some_iff.mp e
    obtain ⟨u, v, rfl, x, y⟩ := r.two
    obtain ⟨a₁, vs₁, n₁, rfl, g₁, m₁, r₁⟩ := x.isList; obtain ⟨t', rfl⟩ := y.isInt
    obtain ⟨xs, rfl, rfl⟩ := r₁.items hn
    refine call_meets F.slot_list_count ⟨_, g₁, rfl⟩ F.entry_list_count (F.args_list_count_2 _ _) (SeqAt.list_countAt a₁ _ n₁ none #[] (.int i0 t') (valHitsInt i0)) ⟨g₁, fun y hy => ?_, ?_⟩
    · simp only [List.mem_toArray, List.mem_map] at hy
      obtain ⟨p, hp, rfl⟩ := hy
      exact Carried.eqAtInt (.int p.1 p.2) _ t'
    · show Ext s _ ∧ _
      refine ⟨Ext.same s _, ?_⟩
      have : (List.map (fun p : Int × Tok => Value.int p.1 p.2) xs).toArray.toList.countP (valHitsInt i0) = (xs.map (·.1)).countP (· == i0) := by
        simp only [List.countP_map]
        rfl
      rw [this]; exact .int _ _
  · cases e
/-- isinstance(e, T) -/
noncomputable def isiV (ty : String) : V → Option Bool
  | .list _ => if ty = "list" then some true else none
  | .tup _ => if ty = "list" then some false else none
  | .int _ => if ty = "bool" then some false else none
  | .bool _ => if ty = "bool" then some true else none
  | _ => none
theorem DenP.isi {np tp pos : Pos} {e : Expr} {x : Str} {ty : String} {F : Rho → Option V} (h : DenP G lvl sc T ms e F) (hb : BuiltAt G.h₀ "isinstance" (.builtin "isinstance")) (hb' : BuiltAt G.h₀ x (.type ty))
    (hx : isGlobal sc "isinstance" = true) (hx' : isGlobal sc x = true) (hn : plainName x = true) (ha : plainArgs [e] = true) :
    DenP G lvl sc T ms (.Call (.Name "isinstance" np) [e, .Name x tp] [] pos) fun ρ => (F ρ).bind fun a => (isiV ty a).map .bool := fun A env M s ρ d S q => by
  obtain ⟨a, hF, q⟩ := Option.bind_eq_some_iff.mp q
  obtain ⟨b, hi, rfl⟩ := Option.map_eq_some_iff.mp q
  have ha2 : plainArgs [e, .Name x tp] = true := by
    unfold plainArgs at ha ⊢
    simp only [List.all_cons, List.all_nil, Bool.and_eq_true] at ha ⊢
    exact ⟨rfl, ha.2.1, by simp⟩
  refine callN S hx (by decide) (.inr hb) (callWith_builtin (plain_args (by unfold plainArgs at ha2; exact (Bool.and_eq_true_iff.mp ha2).2)) (evalArgs_spliced ha2 ?_))
  have he : starEach [e, .Name x tp] env = (false, eval e env) :: [(false, eval (.Name x tp) env)] := by
    unfold plainArgs at ha
    simp only [List.all_cons, List.all_nil, Bool.and_eq_true] at ha
    cases e <;> first | rfl | cases ha.2.1
  rw [he]
  show wpAny _ _ (spliced ((false, eval e env) :: [(false, eval (.Name x tp) env)])) _ _ _
  refine spliced_cons (wp_use (h A env M s ρ a S hF) fun v s₁ ⟨y, r⟩ => spliced_cons ((S.ext y).global hx' hn (.inr hb') (spliced_nil ?_)))
  show wpAny _ _ (call (.builtin "isinstance") [v, .type ty]) _ _ _
  unfold isiV at hi
  cases r with
  | list g m r =>
    simp only at hi
    split at hi
    · rename_i hty
      cases hi; subst hty
      exact PySem.IsiPair.list_list g rfl ⟨y, .bool _⟩
    · cases hi
  | tup g m r =>
    simp only at hi
    split at hi
    · rename_i hty
      cases hi; subst hty
      exact PySem.IsiPair.tuple_list g rfl ⟨y.trans (Ext.same _ _), .bool _⟩
    · cases hi
  | int i t =>
    simp only at hi
    split at hi
    · rename_i hty
      cases hi; subst hty
      exact PySem.IsiPair.int_bool ⟨y.trans (Ext.same _ _), .bool _⟩
    · cases hi
  | bool b =>
    simp only at hi
    split at hi
    · rename_i hty
      cases hi; subst hty
      exact PySem.IsiPair.bool_bool ⟨y, .bool _⟩
    · cases hi
  | _ => cases hi

noncomputable def strsOf : List V → Option (List Str)
  | [] => some []
  | .str x :: r => (strsOf r).map (x :: ·)
  | _ => Option.none
theorem RepAll.strs {C : Addr} {h : Heap} {M : List Addr} : ∀ {vs : List Value} {ds : List V} {ss : List Str}, RepAll C h M vs ds → strsOf ds = some ss → ∃ l : List (Str × Tok), vs = strValues l ∧ ss = l.map (·.1)
  | _, _, _, .nil, e => by cases e; exact ⟨[], rfl, rfl⟩
  | _, _, _, .cons x r, e => by
    cases x with
    | str x t =>
      unfold strsOf at e
      obtain ⟨ss, hs, rfl⟩ := Option.map_eq_some_iff.mp e
      obtain ⟨l, rfl, rfl⟩ := RepAll.strs r hs
      exact ⟨(x, t) :: l, rfl, rfl⟩
    | _ => cases e
noncomputable def joinV : List V → Option V
  | [.str sep, .list xs] => (strsOf xs).bind fun ss => if (ss.map (·.length)).sum + ss.length * sep.length < roof then some (.str (Txt.join sep ss)) else Option.none
  | _ => Option.none
theorem P_join : Prim G lvl (fun vs => call (.builtin "str.join") vs) joinV := by
  intro A M s vs ds d f b l r e
  unfold joinV at e
  split at e
  · rename_i _ sep xs0
    obtain ⟨ss, hs, e⟩ := Option.bind_eq_some_iff.mp e
    split at e
    · rename_i hb
      cases e
      obtain ⟨u, v, rfl, x, y⟩ := r.two
      obtain ⟨t, rfl⟩ := x.isStr
      obtain ⟨a₁, vs₁, n₁, rfl, g₁, m₁, r₁⟩ := y.isList
      obtain ⟨l', rfl, rfl⟩ := r₁.strs hs
      have htot : ((l'.map (·.1)).toArray.foldl (fun n (x : Str) => n + x.length + sep.length) 0) = ((l'.map (·.1)).map (·.length)).sum + (l'.map (·.1)).length * sep.length := StrLaws.joinTotal sep _
      have hlong : Builtin.Str.tooLong ((l'.map (·.1)).toArray.foldl (fun n (x : Str) => n + x.length + sep.length) 0) = false := by
        rw [htot]
        unfold Builtin.Str.tooLong
        rw [decide_eq_false_iff_not, sizeLine_eq]
        unfold roof at hb; omega
      refine call_meets PySem.F.slot_str_join (typeIs_str s sep t) PySem.F.entry_str_join (PySem.F.args_str_join_2 _ _) (meets_str_join_list sep t a₁ l' hlong) ⟨⟨_, g₁, rfl, n₁, rfl⟩, post_join l' ⟨?_, fun t' k => ?_⟩⟩
      · exact joinFit_length hlong
      · show Ext s _ ∧ _
        exact ⟨Ext.same s _, .str _ _⟩
    · cases e
  · cases e

theorem range_size (n : Int) : Builtin.Range.rangeSize 0 n 1 = (n.toNat : Int) := by
  unfold Builtin.Range.rangeSize; simp; omega
theorem range_small {n : Int} (h0 : 0 ≤ n) (h : n < 1000) : Builtin.Range.small 0 n 1 = true := by
  have key : ∀ i : Int, 0 ≤ i → i ≤ 1000 → Builtin.Range.rangeFitsLong i = true := fun i h1 h2 => by
    unfold Builtin.Range.rangeFitsLong
    rw [Bool.and_eq_true, decide_eq_true_eq, decide_eq_true_eq]
    exact ⟨by omega, by omega⟩
  unfold Builtin.Range.small
  rw [range_size, key 0 (by omega) (by omega), key n h0 (by omega), key 1 (by omega) (by omega), key (n.toNat : Int) (by omega) (by omega), if_pos (by decide), key _ (by omega) (by omega)]
  simp
/-- list(range(n)) -/
noncomputable def rangeL (n : Int) : List V := (List.range n.toNat).map fun i => V.int (i : Nat)
theorem DenP.listRange {np rp pos pos' : Pos} {e : Expr} {F : Rho → Option V} (h : DenP G lvl sc T ms e F) (hb : BuiltAt G.h₀ "list" (.type "list")) (hb' : BuiltAt G.h₀ "range" (.type "range"))
    (hx : isGlobal sc "list" = true) (hx' : isGlobal sc "range" = true) (ha : plainArgs [e] = true) :
    DenP G lvl sc T ms (.Call (.Name "list" np) [.Call (.Name "range" rp) [e] [] pos'] [] pos) fun ρ => (asInt (F ρ)).bind fun n => if 0 ≤ n && n < 1000 then some (.list (rangeL n)) else Option.none := fun A env M s ρ d S q => by
  obtain ⟨n, hn, q⟩ := Option.bind_eq_some_iff.mp q
  split at q
  · rename_i hlt
    simp only [Bool.and_eq_true, decide_eq_true_eq] at hlt
    cases q
    have hp1 : plainArgs [Expr.Call (.Name "range" rp) [e] [] pos'] = true := rfl
    refine callN S hx (by decide) (.inr hb) (PyProof.Rows.callWith_type (plain_args (by unfold plainArgs at hp1; exact (Bool.and_eq_true_iff.mp hp1).2)) (evalArgs_spliced hp1 ?_))
    show wpAny _ _ (spliced ((false, eval (Expr.Call (.Name "range" rp) [e] [] pos') env) :: [])) _ _ _
    refine spliced_cons (callN S hx' (by decide) (.inr hb') (PyProof.Rows.callWith_type (plain_args (by unfold plainArgs at ha; exact (Bool.and_eq_true_iff.mp ha).2)) (evalArgs_spliced ha ?_)))
    have he : starEach [e] env = (false, eval e env) :: [] := by
      unfold plainArgs at ha
      simp only [List.all_cons, List.all_nil, Bool.and_eq_true] at ha
      cases e <;> first | rfl | cases ha.2.1
    rw [he]
    show wpAny _ _ (spliced ((false, eval e env) :: [])) _ _ _
    refine spliced_cons (wp_use (h A env M s ρ _ S (asInt_some hn)) fun v s₁ ⟨x, r⟩ => spliced_nil ?_)
    obtain ⟨t, rfl⟩ := r.isInt
    refine call_range_1 (spliced_nil ?_)
    have S₁ := S.ext x
    have hr : IsRange (s₁.heap.push { cls := .type "range", data := .fields #[.int 0 s₁.toks, .int n t, .int 1 (s₁.toks + 1)] }) s₁.heap.objs.size 0 n 1 s₁.toks t (s₁.toks + 1) := Heap.get?_push_size _ rfl
    have hsz : Builtin.Range.rangeSize 0 n 1 = (n.toNat : Int) := range_size n
    have hsm : Builtin.Range.small 0 n 1 = true := by
      exact range_small hlt.1 hlt.2
    refine call_list_range S.fit.handled hr hsm hsz (by omega) fun h' tk acc' c' hk hS' hacc => ?_
    have x2 : Ext s₁ { s₁ with heap := s₁.heap.push { cls := .type "range", data := .fields #[.int 0 s₁.toks, .int n t, .int 1 (s₁.toks + 1)] }, toks := s₁.toks + 1 + 1 } := Ext.push s₁ _ _
    have x3 : Ext { s₁ with heap := s₁.heap.push { cls := .type "range", data := .fields #[.int 0 s₁.toks, .int n t, .int 1 (s₁.toks + 1)] }, toks := s₁.toks + 1 + 1 } _ := Ext.of_heap (tk := tk) hk
    refine ⟨(x.trans x2).trans x3, .list (vs := acc'.toList) (n := c') (by simpa using hS') ((S₁.live.ext x2).new) ?_⟩
    have hlen : acc'.toList.length = n.toNat := by simpa using hacc.1
    have key : ∀ (vs : List Value) (k : Nat), (∀ (i : Nat) (v : Value), vs[i]? = some v → ∃ t, v = Value.int ((i + k : Nat) : Int) t) → RepAll G.C h' M vs ((List.range' k vs.length).map fun i => V.int (i : Nat)) := by
      intro vs
      induction vs with
      | nil => intro k _; exact .nil
      | cons v vs ih =>
        intro k hv
        obtain ⟨t, rfl⟩ := hv 0 v rfl
        rw [List.length_cons, List.range'_succ, List.map_cons]
        refine .cons (by simpa using Rep.int (C := G.C) (h := h') (M := M) _ t) (ih (k + 1) fun i w hw => ?_)
        obtain ⟨t, e⟩ := hv (i + 1) w (by simpa using hw)
        exact ⟨t, by rw [e]; congr 2; omega⟩
    have := key acc'.toList 0 fun i v hv => by
      obtain ⟨t, e⟩ := hacc.2 i v (by simpa using hv)
      exact ⟨t, by rw [e]; congr 1; omega⟩
    rw [hlen] at this
    unfold rangeL
    rw [List.range_eq_range']
    exact this
  · cases q
end
end Mine
end

section
namespace Mine
open PySem PySem.Calls PyProof.Rows

noncomputable def ownedTypes : List String := ["enumerate", "zip", "dict_itemiterator", "dict_reverseitemiterator", "odict_iterator", "itertools.zip_longest", "itertools.pairwise"]

/-- an iterator at I, that will give ds -/
structure Src (G : Gd) (A : Around) (M : List Addr) (h₁ : Heap) (I : Addr) (ds : List V) (fp : List Addr) (P : Nat → Value → Prop) (J : Nat → Heap → Prop) (H : List Addr → Heap → Prop) : Prop where
  walk : Walks G.prog G.w A I fp [I] ds.length P J
  start : J 0 h₁
  have_ : H (I :: M) h₁
  fpM : ∀ b ∈ fp, b = I ∨ ∃ o, h₁.get? b = some o
  cls : ∀ i h, J i h → ∃ o n, h.get? I = some o ∧ o.cls = .type n ∧ ownedTypes.contains n = false
  stays : ∀ M h M' h', H M h → (∀ b o, b ∉ M → h.get? b = some o → h'.get? b = some o ∧ b ∉ M') → H M' h'
  rep : ∀ M i v h, P i v → H M h → ∃ d, ds[i]? = some d ∧ Rep G.C h M v d

theorem letOwned_quiet {M : Model} {A : Around} {s : Shared} {target : Expr} {I : Addr} {v : Value} {o : Obj} {n : String} {Q : Unit → Shared → Prop} {E : Value → Shared → Prop} (ho : s.heap.get? I = some o) (hc : o.cls = .type n) (hn : ownedTypes.contains n = false) (h : Q () s) :
    wpAny M A (letOwnedTupleGo target (.ref I) v) Q E s := by
  have key : ∀ a : Addr, wpAny M A (do
      let o ← load I
      match o.cls, o.data with
      | .type n, .fields vs =>
        if ["enumerate", "zip", "dict_itemiterator", "dict_reverseitemiterator", "odict_iterator", "itertools.zip_longest", "itertools.pairwise"].contains n && vs[0]? == some (rawInt a) then
          rule "for.unpacks-the-owned-tuple"
          updateField I 0 .none
      | _, _ => pure ()) Q E s := fun a => by
    refine wpAny_bind (wpAny_load ho ?_)
    rw [hc]
    cases o.data with
    | fields vs =>
      have : (["enumerate", "zip", "dict_itemiterator", "dict_reverseitemiterator", "odict_iterator", "itertools.zip_longest", "itertools.pairwise"] : List String).contains n = false := hn
      simp only [this, Bool.false_and, Bool.false_eq_true, if_false]
      exact wpAny_pure h
    | _ => exact wpAny_pure h
  cases target with
  | Tuple elts k pos => cases v <;> first | exact wpAny_pure h | exact key _
  | List elts pos => cases v <;> first | exact wpAny_pure h | exact key _
  | _ => exact wpAny_pure h

section
variable {G : Gd} {A : Around} {M : List Addr} {s : Shared}

/-- the step of the iterator -/
theorem Src.next {M₀ : List Addr} {h₁ : Heap} {I : Addr} {ds : List V} {fp : List Addr} {P : Nat → Value → Prop} {J : Nat → Heap → Prop} {H : List Addr → Heap → Prop} (S : Src G A M₀ h₁ I ds fp P J H) (hI : I ∈ M) {i : Nat} {d : V} (hd : ds[i]? = some d) (hJ : J i s.heap) (hH : H M s.heap)
    {Q : Option Value → Shared → Prop} {E : Value → Shared → Prop} (h : ∀ v s', Off [I] s s' → J (i + 1) s'.heap → H M s'.heap → Rep G.C s'.heap M v d → Q (some v) s') : wpAny (model G.prog G.w) A (pyNext (.ref I)) Q E s := by
  have hi : i < ds.length := (List.getElem?_eq_some_iff.mp hd).1
  refine S.walk.item i s Q E hi hJ fun v h' tk hP hJ' hk => ?_
  have hH' : H M h' := S.stays _ _ _ _ hH fun b o hb e => ⟨hk b o (fun hm => hb ((List.mem_singleton.mp hm) ▸ hI)) e, hb⟩
  obtain ⟨d', hd', r⟩ := S.rep M i v h' hP hH'
  rw [hd] at hd'; cases hd'
  exact h v _ (Off.of_heap hk) hJ' hH' r
theorem Src.done {M₀ : List Addr} {h₁ : Heap} {I : Addr} {ds : List V} {fp : List Addr} {P : Nat → Value → Prop} {J : Nat → Heap → Prop} {H : List Addr → Heap → Prop} (S : Src G A M₀ h₁ I ds fp P J H) (hJ : J ds.length s.heap)
    {Q : Option Value → Shared → Prop} {E : Value → Shared → Prop} (h : ∀ s', Off [I] s s' → Q none s') : wpAny (model G.prog G.w) A (pyNext (.ref I)) Q E s :=
  S.walk.done s Q E hJ fun h' tk hk => h _ (Off.of_heap hk)

/-- e is iterated: it gives ds -/
noncomputable def DenI (G : Gd) (lvl : Nat) (sc : Scope) (T : List (Str × Nat)) (ms : List Nat) (pure : Bool) (e : Expr) (F : Rho → Option (List V)) : Prop :=
  ∀ A env M s ρ ds, St G lvl sc T ms A env M s ρ → F ρ = some ds →
    wpAny (model G.prog G.w) A (eval e env) (fun x s₁ => Ext s s₁ ∧ wpAny (model G.prog G.w) A (pyIter x) (fun it s₂ => ∃ I fp P J H, it = .ref I ∧ s.heap.get? I = none ∧ Ext s s₂ ∧ Src G A M s₂.heap I ds fp P J H ∧ (pure = true → ∀ b ∈ fp, b = I ∨ b ∉ M)) NoE s₁) NoE s
end

theorem next_none {s s₁ : Shared} (y : Ext s s₁) : s.heap.get? s₁.heap.objs.size = none := by
  cases q : s.heap.get? s₁.heap.objs.size with
  | none => rfl
  | some o => exact absurd (Heap.lt_size (y.keep _ _ q)) (Nat.lt_irrefl _)

section
variable {G : Gd} {lvl : Nat} {sc : Scope} {T : List (Str × Nat)} {ms : List Nat}

theorem src_list {A : Around} {M : List Addr} {s s₁ : Shared} {a : Addr} {vs : List Value} {n : Nat} {ds : List V} (hh : A.handled = none) (y : Ext s s₁) (g : s₁.heap.get? a = some (lst vs n)) (r : RepAll G.C s₁.heap M vs ds) (pure : Bool) (hp : pure = true → a ∉ M) :
    wpAny (model G.prog G.w) A (pyIter (.ref a)) (fun it s₂ => ∃ I fp P J H, it = .ref I ∧ s.heap.get? I = none ∧ Ext s s₂ ∧ Src G A M s₂.heap I ds fp P J H ∧ (pure = true → ∀ b ∈ fp, b = I ∨ b ∉ M)) NoE s₁ := by
  have hL : s₁.heap.IsList a vs.toArray := ⟨_, g, rfl, n, rfl⟩
  refine wpAny_pyIter_list hL ?_
  have hne : a ≠ s₁.heap.objs.size := Nat.ne_of_lt (Heap.lt_size g)
  have W := Walks.list (prog := G.prog) (w := G.w) (A := A) hh s₁.heap.objs.size a hne vs.toArray
  have hsz : vs.toArray.size = ds.length := by simp [r.length]
  rw [hsz] at W
  have x2 : Ext s₁ { s₁ with heap := s₁.heap.push { cls := .type "list_iterator", data := .fields #[.ref a, .int 0 0] } } := Ext.push s₁ _ _
  refine ⟨_, [_, a], _, _, fun M h => RepAll G.C h M vs ds, rfl, next_none y, y.trans x2, ⟨W, ⟨⟨_, Heap.get?_push_size _ rfl, rfl, rfl⟩, ⟨_, x2.keep _ _ g, rfl, n, rfl⟩⟩, (r.more (M' := s₁.heap.objs.size :: M) (fun a ha => (List.mem_cons.mp ha).elim (fun e => .inr (e ▸ next_none (Off.refl _ s₁))) .inl)).ext x2, fun b hb => ?_, fun i h hJ => ?_,
    fun M h M' h' hh hk => hh.mono hk, fun M i v h hP hh => ?_⟩, fun hpure b hb => ?_⟩
  · rcases List.mem_cons.mp hb with rfl | hb
    · exact .inl rfl
    · rcases List.mem_cons.mp hb with rfl | hb
      · exact .inr ⟨_, x2.keep _ _ g⟩
      · cases hb
  · obtain ⟨o, ho, hc, _⟩ := hJ.1
    exact ⟨o, _, ho, hc, rfl⟩
  · exact hh.getV (by simpa using hP)
  · rcases List.mem_cons.mp hb with rfl | hb
    · exact .inl rfl
    · rcases List.mem_cons.mp hb with rfl | hb
      · exact .inr (hp hpure)
      · cases hb
theorem DenI.listL {e : Expr} {F : Rho → Option (List V)} (h : DenL G lvl sc T ms e F) : DenI G lvl sc T ms false e F := fun A env M s ρ ds S q => by
  refine wp_use (h A env M s ρ ds S q) fun x s₁ ⟨y, a, vs, n, e, g, r⟩ => ⟨y, ?_⟩
  subst e
  exact src_list S.fit.handled y g r _ (fun e => nomatch e)
theorem DenI.list {e : Expr} {F : Rho → Option V} (pure : Bool) (h : DenP G lvl sc T ms e F) : DenI G lvl sc T ms pure e fun ρ => asList (F ρ) := fun A env M s ρ ds S q => by
  refine wp_use (h A env M s ρ _ S (asList_some q)) fun x s₁ ⟨y, r⟩ => ⟨y, ?_⟩
  obtain ⟨a, vs, n, rfl, g, m, rs⟩ := r.isList
  exact src_list S.fit.handled y g rs _ (fun _ => m)

noncomputable def asTup : Option V → Option (List V)
  | some (.tup ds) => some ds
  | _ => Option.none
theorem asTup_some {o : Option V} {ds : List V} (h : asTup o = some ds) : o = some (.tup ds) := by
  unfold asTup at h
  split at h
  · cases h; rfl
  · cases h
theorem DenI.tup {e : Expr} {F : Rho → Option V} (pure : Bool) (h : DenP G lvl sc T ms e F) : DenI G lvl sc T ms pure e fun ρ => asTup (F ρ) := fun A env M s ρ ds S q => by
  refine wp_use (h A env M s ρ _ S (asTup_some q)) fun x s₁ ⟨y, r⟩ => ⟨y, ?_⟩
  obtain ⟨a, vs, n, rfl, g, m, r⟩ := r.isTup
  have hL : s₁.heap.IsTuple a vs.toArray := ⟨_, g, rfl, n, rfl⟩
  refine wpAny_pyIter_tuple hL ?_
  have hne : a ≠ s₁.heap.objs.size := Nat.ne_of_lt (Heap.lt_size g)
  have W := Walks.tuple (prog := G.prog) (w := G.w) (A := A) S.fit.handled s₁.heap.objs.size a hne vs.toArray
  have hsz : vs.toArray.size = ds.length := by simp [r.length]
  rw [hsz] at W
  have x2 : Ext s₁ { s₁ with heap := s₁.heap.push { cls := .type "tuple_iterator", data := .fields #[.ref a, .int 0 0] } } := Ext.push s₁ _ _
  refine ⟨_, [_, a], _, _, fun M h => RepAll G.C h M vs ds, rfl, next_none y, y.trans x2, ⟨W, ⟨⟨_, Heap.get?_push_size _ rfl, rfl, rfl⟩, ⟨_, x2.keep _ _ g, rfl, n, rfl⟩⟩, (r.more (M' := s₁.heap.objs.size :: M) (fun a ha => (List.mem_cons.mp ha).elim (fun e => .inr (e ▸ next_none (Off.refl _ s₁))) .inl)).ext x2, fun b hb => ?_, fun i h hJ => ?_,
    fun M h M' h' hh hk => hh.mono hk, fun M i v h hP hh => ?_⟩, fun hpure b hb => ?_⟩
  · rcases List.mem_cons.mp hb with rfl | hb
    · exact .inl rfl
    · rcases List.mem_cons.mp hb with rfl | hb
      · exact .inr ⟨_, x2.keep _ _ g⟩
      · cases hb
  · obtain ⟨o, ho, hc, _⟩ := hJ.1
    exact ⟨o, _, ho, hc, rfl⟩
  · exact hh.getV (by simpa using hP)
  · rcases List.mem_cons.mp hb with rfl | hb
    · exact .inl rfl
    · rcases List.mem_cons.mp hb with rfl | hb
      · exact .inr m
      · cases hb

theorem rangeL_get {n : Int} {i : Nat} (h : i < n.toNat) : (rangeL n)[i]? = some (.int (i : Nat)) := by
  unfold rangeL; simp [h]
theorem rangeL_length (n : Int) : (rangeL n).length = n.toNat := by unfold rangeL; simp
theorem DenI.range {rp pos : Pos} {e : Expr} {F : Rho → Option V} (pure : Bool) (h : DenP G lvl sc T ms e F) (hb : BuiltAt G.h₀ "range" (.type "range")) (hx : isGlobal sc "range" = true) (ha : plainArgs [e] = true) :
    DenI G lvl sc T ms pure (.Call (.Name "range" rp) [e] [] pos) fun ρ => (asInt (F ρ)).bind fun n => if 0 ≤ n && n < 1000 then some (rangeL n) else Option.none := fun A env M s ρ ds S q => by
  obtain ⟨n, hn, q⟩ := Option.bind_eq_some_iff.mp q
  split at q
  · rename_i hlt
    simp only [Bool.and_eq_true, decide_eq_true_eq] at hlt
    cases q
    refine callN S hx (by decide) (.inr hb) (PyProof.Rows.callWith_type (plain_args (by unfold plainArgs at ha; exact (Bool.and_eq_true_iff.mp ha).2)) (evalArgs_spliced ha ?_))
    have he : starEach [e] env = (false, eval e env) :: [] := by
      unfold plainArgs at ha
      simp only [List.all_cons, List.all_nil, Bool.and_eq_true] at ha
      cases e <;> first | rfl | cases ha.2.1
    rw [he]
    show wpAny _ _ (spliced ((false, eval e env) :: [])) _ _ _
    refine spliced_cons (wp_use (h A env M s ρ _ S (asInt_some hn)) fun v s₁ ⟨x, r⟩ => spliced_nil ?_)
    obtain ⟨t, rfl⟩ := r.isInt
    refine call_range_1 ?_
    have x2 : Ext s₁ { s₁ with heap := s₁.heap.push { cls := .type "range", data := .fields #[.int 0 s₁.toks, .int n t, .int 1 (s₁.toks + 1)] }, toks := s₁.toks + 1 + 1 } := Ext.push s₁ _ _
    refine ⟨x.trans x2, ?_⟩
    have hr : IsRange (s₁.heap.push { cls := .type "range", data := .fields #[.int 0 s₁.toks, .int n t, .int 1 (s₁.toks + 1)] }) s₁.heap.objs.size 0 n 1 s₁.toks t (s₁.toks + 1) := Heap.get?_push_size _ rfl
    refine wpAny_pyIter_range hr (range_small hlt.1 hlt.2) ?_
    rw [range_size]
    have W := (Walks.range (prog := G.prog) (w := G.w) (A := A) S.fit.handled (s₁.heap.push { cls := .type "range", data := .fields #[.int 0 s₁.toks, .int n t, .int 1 (s₁.toks + 1)] }).objs.size 0 1 n.toNat).bound
    have x3 : Ext { s₁ with heap := s₁.heap.push { cls := .type "range", data := .fields #[.int 0 s₁.toks, .int n t, .int 1 (s₁.toks + 1)] }, toks := s₁.toks + 1 + 1 }
        { s₁ with heap := (s₁.heap.push { cls := .type "range", data := .fields #[.int 0 s₁.toks, .int n t, .int 1 (s₁.toks + 1)] }).push { cls := .type "range_iterator", data := .fields #[rawInt 0, rawInt (n.toNat : Int), rawInt 1] }, toks := s₁.toks + 1 + 1 } := Ext.push _ _ _
    refine ⟨_, _, _, _, fun _ _ => True, rfl, next_none (x.trans x2), (x.trans x2).trans x3, ⟨by rw [rangeL_length]; exact W, ?_, trivial, fun b hb => .inl (List.mem_singleton.mp hb), fun i h hJ => ⟨_, _, hJ, rfl, rfl⟩, fun _ _ _ _ _ _ => trivial, fun M i v h hP _ => ?_⟩, fun _ b hb => .inl (List.mem_singleton.mp hb)⟩
    · show IsRangeIter _ _ (0 + ((0 : Nat) : Int) * 1) ((n.toNat : Int) - ((0 : Nat) : Int)) 1
      have e1 : (0 + ((0 : Nat) : Int) * 1) = 0 := by simp
      have e2 : ((n.toNat : Int) - ((0 : Nat) : Int)) = (n.toNat : Int) := by simp
      rw [e1, e2]
      exact Heap.get?_push_size _ rfl
    · obtain ⟨hi, t, rfl⟩ := hP
      exact ⟨_, rangeL_get hi, by simpa using Rep.int (C := G.C) (h := h) (M := M) (i : Int) t⟩
  · cases q

noncomputable def asStr : Option V → Option Str
  | some (.str x) => some x
  | _ => Option.none
theorem asStr_some {o : Option V} {x : Str} (h : asStr o = some x) : o = some (.str x) := by
  unfold asStr at h
  split at h
  · cases h; rfl
  · cases h
noncomputable def signs (x : Str) : List V := x.cps.toList.map fun c => .str ⟨#[c]⟩
theorem DenI.str {e : Expr} {F : Rho → Option V} (pure : Bool) (h : DenP G lvl sc T ms e F) : DenI G lvl sc T ms pure e fun ρ => (asStr (F ρ)).bind fun x => if x.cps.all (· < 128) then some (signs x) else Option.none := fun A env M s ρ ds S q => by
  obtain ⟨x, hx, q⟩ := Option.bind_eq_some_iff.mp q
  split at q
  · rename_i ha
    cases q
    refine wp_use (h A env M s ρ _ S (asStr_some hx)) fun v s₁ ⟨y, r⟩ => ⟨y, ?_⟩
    obtain ⟨t, rfl⟩ := r.isStr
    refine wpAny_pyIter_ascii ha ?_
    have W := Walks.strAscii (prog := G.prog) (w := G.w) (A := A) S.fit.handled s₁.heap.objs.size x t
    have hsz : x.cps.size = (signs x).length := by simp [signs]
    rw [hsz] at W
    have x2 : Ext s₁ { s₁ with heap := s₁.heap.push { cls := .type "str_ascii_iterator", data := .fields #[.str x t, .int 0 0] } } := Ext.push s₁ _ _
    refine ⟨_, [_], _, _, fun _ _ => True, rfl, next_none y, y.trans x2, ⟨W, ⟨_, Heap.get?_push_size _ rfl, rfl, rfl⟩, trivial, fun b hb => .inl (List.mem_singleton.mp hb), fun i h hJ => ?_, fun _ _ _ _ _ _ => trivial, fun M i v h hP _ => ?_⟩, fun _ b hb => .inl (List.mem_singleton.mp hb)⟩
    · obtain ⟨o, ho, hc, _⟩ := hJ
      exact ⟨o, _, ho, hc, rfl⟩
    · obtain ⟨c, u, hc, rfl⟩ := hP
      refine ⟨.str ⟨#[c]⟩, ?_, .str _ _⟩
      unfold signs
      rw [List.getElem?_map, Array.getElem?_toList, hc]; rfl
  · cases q
end
end Mine
end

section
namespace Mine
open PySem PySem.Calls PyProof.Rows

theorem ns_cell_ne {h : Heap} {L c : Addr} {m : Str → Option Value} {v : Option Value} (n : h.Ns L m) (k : h.IsCell c v) : c ≠ L := by
  rintro rfl
  obtain ⟨o, es, ep, ho, hd, _⟩ := n
  obtain ⟨o', ho', hd'⟩ := k
  rw [ho] at ho'; cases ho'
  rw [hd] at hd'; cases hd'
theorem ns_list_ne {h : Heap} {L a : Addr} {m : Str → Option Value} {vs : List Value} {k : Nat} (n : h.Ns L m) (g : h.get? a = some (lst vs k)) : a ≠ L := by
  rintro rfl
  obtain ⟨o, es, ep, ho, hd, _⟩ := n
  rw [g] at ho; cases ho; cases hd
theorem cell_list_ne {h : Heap} {c a : Addr} {v : Option Value} {vs : List Value} {k : Nat} (n : h.IsCell c v) (g : h.get? a = some (lst vs k)) : a ≠ c := by
  rintro rfl
  obtain ⟨o, ho, hd⟩ := n
  rw [g] at ho; cases ho; cases hd

section
variable {G : Gd} {lvl : Nat} {sc : Scope} {T T2 : List (Str × Nat)} {ms : List Nat} {A : Around} {env : Env} {M : List Addr} {s : Shared} {ρ : Rho}

/-- what may be put into slot i: a datum, or an own list that no other name holds -/
noncomputable def PutOk (G : Gd) (T : List (Str × Nat)) (ms : List Nat) (env : Env) (M : List Addr) (s : Shared) (x : Str) (i : Nat) (v : Value) (d : V) : Prop :=
  (ms.contains i = false ∧ Rep G.C s.heap M v d) ∨ (ms.contains i = true ∧ ∃ a, v = .ref a ∧ OwnList G.C s.heap M a d ∧ ∀ y j, (y, j) ∈ T → ms.contains j = true → y ≠ x → ¬ SlotVal s.heap env y (.ref a))

theorem St.storeL {x : Str} {i : Nat} {d : V} {v : Value} (S : St G lvl sc T ms A env M s ρ) (hk : env.kindOf x = some .local) (hv : PutOk G T ms env M s x i v d)
    (hT : ∀ y j, (y, j) ∈ T2 → (y = x ∧ j = i) ∨ ((y, j) ∈ T ∧ y ≠ x ∧ j ≠ i)) {Q : Unit → Shared → Prop} {E : Value → Shared → Prop}
    (h : ∀ s', Off [env.locals] s s' → St G lvl sc T2 ms A env M s' (put ρ i d) → (∀ y v, y ≠ x → SlotVal s'.heap env y v → SlotVal s.heap env y v) → SlotVal s'.heap env x v → Q () s') : wpAny (model G.prog G.w) A (storeName env x v) Q E s := by
  obtain ⟨hLM, m, hn⟩ := S.loc
  have hkind : env.scope.kind = .function := by rw [S.eok.scope]; exact S.eok.kind
  refine wpAny_storeName_local hk hn (fun h' hn' hs => ?_) (by rw [hkind]; rfl)
  have off : ∀ b o, b ≠ env.locals → s.heap.get? b = some o → h'.get? b = some o := fun b o hb e => hs.extBut b o hb e
  have hoff : Off [env.locals] s { s with heap := h', toks := s.toks + 1 } := Off.of_heap fun b o hb e => off b o (fun q => hb (q ▸ List.mem_singleton.mpr rfl)) e
  have cellF : ∀ c v, s.heap.IsCell c v → h'.IsCell c v := fun c v ⟨o, ho, hd⟩ => ⟨o, off c o (ns_cell_ne hn ⟨o, ho, hd⟩) ho, hd⟩
  have repF : ∀ {v d}, Rep G.C s.heap M v d → Rep G.C h' M v d := fun r => r.mono fun b o hb e => ⟨off b o (fun q => hb (q ▸ hLM)) e, hb⟩
  have repsF : ∀ {v d}, RepAll G.C s.heap M v d → RepAll G.C h' M v d := fun r => r.mono fun b o hb e => ⟨off b o (fun q => hb (q ▸ hLM)) e, hb⟩
  have svF : ∀ y v, y ≠ x → SlotVal s.heap env y v → SlotVal h' env y v := fun y v hy sv => by
    rcases sv with ⟨k, m', n', e⟩ | ⟨k, c, l, e⟩
    · cases Ns_unique hn n'
      exact .inl ⟨k, _, hn', by rw [if_neg hy]; exact e⟩
    · exact .inr ⟨k, c, l, cellF _ _ e⟩
  have svB : ∀ y v, y ≠ x → SlotVal h' env y v → SlotVal s.heap env y v := fun y v hy sv => by
    rcases sv with ⟨k, m', n', e⟩ | ⟨k, c, l, e⟩
    · cases Ns_unique hn' n'
      dsimp only at e
      rw [if_neg hy] at e
      exact .inl ⟨k, _, hn, e⟩
    · obtain ⟨v', q'⟩ := (S.cellAt y c l).2
      cases cell_unique (cellF _ _ q') e
      exact .inr ⟨k, c, l, q'⟩
  refine h _ hoff ⟨S.fit, S.eok, fun b o e => off b o (fun q => ?_) (S.base b o e), fun a ha => ?_, ⟨hLM, _, hn'⟩, fun y c l => ⟨(S.cellAt y c l).1, let ⟨v, q⟩ := (S.cellAt y c l).2; ⟨v, cellF _ _ q⟩⟩, fun y j d' hy hg => ?_, fun y z j k a hy hz hjk h1 h2 sy sz => ?_⟩ svB (.inl ⟨hk, _, hn', if_pos rfl⟩)
  · have := Heap.lt_size e; rw [q] at this; exact Nat.lt_irrefl _ (Nat.lt_of_lt_of_le this S.eok.above)
  · by_cases q : a = env.locals
    · subst q
      obtain ⟨o, es, ep, ho, _⟩ := hn'
      exact ⟨o, ho⟩
    · obtain ⟨o, ho⟩ := S.live a ha; exact ⟨o, off a o q ho⟩
  · rcases hT y j hy with ⟨rfl, rfl⟩ | ⟨hy', hne, hji⟩
    · rw [get_put_self] at hg; cases hg
      refine ⟨v, .inl ⟨hk, _, hn', if_pos rfl⟩, ?_⟩
      rcases hv with ⟨hi, r⟩ | ⟨hi, a, e1, ⟨vs, n, ds, e2, g, hM, rs⟩, _⟩
      · rw [hi]; exact repF r
      · rw [hi]; exact ⟨a, e1, vs, n, ds, e2, off a _ (ns_list_ne hn g) g, hM, repsF rs⟩
    · rw [get_put_ne _ _ (Ne.symm hji)] at hg
      obtain ⟨w, sv, rr⟩ := S.slots y j d' hy' hg
      refine ⟨w, svF y w hne sv, ?_⟩
      cases hm : ms.contains j with
      | false => rw [hm] at rr; exact repF rr
      | true =>
        rw [hm] at rr
        obtain ⟨a, e1, vs, n, ds, e2, g, hM, rs⟩ := rr
        exact ⟨a, e1, vs, n, ds, e2, off a _ (ns_list_ne hn g) g, hM, repsF rs⟩
  · rcases hT y j hy with ⟨rfl, rfl⟩ | ⟨hy', hne, hji⟩
    · rcases hT z k hz with ⟨rfl, rfl⟩ | ⟨hz', hne', hki⟩
      · exact hjk rfl
      · rcases hv with ⟨hi, _⟩ | ⟨hi, a', e1, _, hno⟩
        · rw [hi] at h1; cases h1
        · cases (SlotVal.unique sy (show SlotVal h' env _ v from .inl ⟨hk, _, hn', if_pos rfl⟩)).trans e1
          exact hno z k hz' h2 hne' (svB z _ hne' sz)
    · rcases hT z k hz with ⟨rfl, rfl⟩ | ⟨hz', hne', hki⟩
      · rcases hv with ⟨hi, _⟩ | ⟨hi, a', e1, _, hno⟩
        · rw [hi] at h2; cases h2
        · cases (SlotVal.unique sz (show SlotVal h' env _ v from .inl ⟨hk, _, hn', if_pos rfl⟩)).trans e1
          exact hno y j hy' h1 hne (svB y _ hne sy)
      · exact S.own y z j k a hy' hz' hjk h1 h2 (svB y _ hne sy) (svB z _ hne' sz)

theorem St.storeC {x : Str} {i : Nat} {d : V} {v : Value} (S : St G lvl sc T ms A env M s ρ) (hk : env.kindOf x = some .cell) (hv : PutOk G T ms env M s x i v d)
    (hT : ∀ y j, (y, j) ∈ T2 → (y = x ∧ j = i) ∨ ((y, j) ∈ T ∧ y ≠ x ∧ j ≠ i)) {Q : Unit → Shared → Prop} {E : Value → Shared → Prop}
    (h : ∀ s', Off (env.cells.lookup x).toList s s' → St G lvl sc T2 ms A env M s' (put ρ i d) → (∀ y v, y ≠ x → SlotVal s'.heap env y v → SlotVal s.heap env y v) → SlotVal s'.heap env x v → Q () s') : wpAny (model G.prog G.w) A (storeName env x v) Q E s := by
  obtain ⟨hLM, m, hn⟩ := S.loc
  have hkind : env.scope.kind = .function := by rw [S.eok.scope]; exact S.eok.kind
  obtain ⟨c, hc⟩ := S.eok.cells x (.inl hk)
  obtain ⟨hcM, v₀, hv₀⟩ := S.cellAt x c hc
  refine wpAny_storeName_cell hkind hk hc hv₀ fun h' hn' hs => ?_
  have off : ∀ b o, b ≠ c → s.heap.get? b = some o → h'.get? b = some o := fun b o hb e => hs.extBut b o hb e
  have hcm : c ∈ (env.cells.lookup x).toList := by rw [hc]; simp
  have hoff : Off (env.cells.lookup x).toList s { s with heap := h' } := Off.of_heap fun b o hb e => off b o (fun q => hb (q ▸ hcm)) e
  have nsF : ∀ m, s.heap.Ns env.locals m → h'.Ns env.locals m := fun m n => n.extBut hs.extBut (Ne.symm (ns_cell_ne n hv₀))
  have cellF : ∀ y c' v, y ≠ x → env.cells.lookup y = some c' → s.heap.IsCell c' v → h'.IsCell c' v := fun y c' v hy l ⟨o, ho, hd⟩ => ⟨o, off c' o (fun q => S.eok.apart x y c (Ne.symm hy) hc (q ▸ l)) ho, hd⟩
  have repF : ∀ {v d}, Rep G.C s.heap M v d → Rep G.C h' M v d := fun r => r.mono fun b o hb e => ⟨off b o (fun q => hb (q ▸ hcM)) e, hb⟩
  have repsF : ∀ {v d}, RepAll G.C s.heap M v d → RepAll G.C h' M v d := fun r => r.mono fun b o hb e => ⟨off b o (fun q => hb (q ▸ hcM)) e, hb⟩
  have svF : ∀ y v, y ≠ x → SlotVal s.heap env y v → SlotVal h' env y v := fun y v hy sv => by
    rcases sv with ⟨k, m', n', e⟩ | ⟨k, c', l, e⟩
    · exact .inl ⟨k, _, nsF _ n', e⟩
    · exact .inr ⟨k, c', l, cellF y _ _ hy l e⟩
  have svB : ∀ y v, y ≠ x → SlotVal h' env y v → SlotVal s.heap env y v := fun y v hy sv => by
    rcases sv with ⟨k, m', n', e⟩ | ⟨k, c', l, e⟩
    · cases Ns_unique (nsF _ hn) n'
      exact .inl ⟨k, _, hn, e⟩
    · obtain ⟨v', q'⟩ := (S.cellAt y c' l).2
      cases cell_unique (cellF y _ _ hy l q') e
      exact .inr ⟨k, c', l, q'⟩
  refine h _ hoff ⟨S.fit, S.eok, fun b o e => off b o (fun q => ?_) (S.base b o e), fun a ha => ?_, ⟨hLM, _, nsF _ hn⟩, fun y c' l => ⟨(S.cellAt y c' l).1, ?_⟩, fun y j d' hy hg => ?_, fun y z j k a hy hz hjk h1 h2 sy sz => ?_⟩ svB (.inr ⟨.inl hk, c, hc, hn'⟩)
  · have := Heap.lt_size e; rw [q] at this; exact Nat.lt_irrefl _ (Nat.lt_of_lt_of_le this (S.eok.cellsAbove x c hc))
  · by_cases q : a = c
    · subst q
      obtain ⟨o, ho, _⟩ := hn'
      exact ⟨o, ho⟩
    · obtain ⟨o, ho⟩ := S.live a ha; exact ⟨o, off a o q ho⟩
  · by_cases hy : y = x
    · subst hy
      rw [hc] at l; cases l
      exact ⟨_, hn'⟩
    · obtain ⟨v', q'⟩ := (S.cellAt y c' l).2
      exact ⟨v', cellF y _ _ hy l q'⟩
  · rcases hT y j hy with ⟨rfl, rfl⟩ | ⟨hy', hne, hji⟩
    · rw [get_put_self] at hg; cases hg
      refine ⟨v, .inr ⟨.inl hk, c, hc, hn'⟩, ?_⟩
      rcases hv with ⟨hi, r⟩ | ⟨hi, a, e1, ⟨vs, n, ds, e2, g, hM, rs⟩, _⟩
      · rw [hi]; exact repF r
      · rw [hi]; exact ⟨a, e1, vs, n, ds, e2, off a _ (cell_list_ne hv₀ g) g, hM, repsF rs⟩
    · rw [get_put_ne _ _ (Ne.symm hji)] at hg
      obtain ⟨w, sv, rr⟩ := S.slots y j d' hy' hg
      refine ⟨w, svF y w hne sv, ?_⟩
      cases hm : ms.contains j with
      | false => rw [hm] at rr; exact repF rr
      | true =>
        rw [hm] at rr
        obtain ⟨a, e1, vs, n, ds, e2, g, hM, rs⟩ := rr
        exact ⟨a, e1, vs, n, ds, e2, off a _ (cell_list_ne hv₀ g) g, hM, repsF rs⟩
  · rcases hT y j hy with ⟨rfl, rfl⟩ | ⟨hy', hne, hji⟩
    · rcases hT z k hz with ⟨rfl, rfl⟩ | ⟨hz', hne', hki⟩
      · exact hjk rfl
      · rcases hv with ⟨hi, _⟩ | ⟨hi, a', e1, _, hno⟩
        · rw [hi] at h1; cases h1
        · cases (SlotVal.unique sy (show SlotVal h' env _ v from .inr ⟨.inl hk, c, hc, hn'⟩)).trans e1
          exact hno z k hz' h2 hne' (svB z _ hne' sz)
    · rcases hT z k hz with ⟨rfl, rfl⟩ | ⟨hz', hne', hki⟩
      · rcases hv with ⟨hi, _⟩ | ⟨hi, a', e1, _, hno⟩
        · rw [hi] at h2; cases h2
        · cases (SlotVal.unique sz (show SlotVal h' env _ v from .inr ⟨.inl hk, c, hc, hn'⟩)).trans e1
          exact hno y j hy' h1 hne (svB y _ hne sy)
      · exact S.own y z j k a hy' hz' hjk h1 h2 (svB y _ hne sy) (svB z _ hne' sz)

noncomputable def storable (sc : Scope) (x : Str) : Bool := sc.names.lookup x == some .local || sc.names.lookup x == some .cell
/-- what a store to x touches -/
noncomputable abbrev touch (env : Env) (x : Str) : List Addr := env.locals :: (env.cells.lookup x).toList
theorem St.store {x : Str} {i : Nat} {d : V} {v : Value} (S : St G lvl sc T ms A env M s ρ) (hk : storable sc x = true) (hv : PutOk G T ms env M s x i v d)
    (hT : ∀ y j, (y, j) ∈ T2 → (y = x ∧ j = i) ∨ ((y, j) ∈ T ∧ y ≠ x ∧ j ≠ i)) {Q : Unit → Shared → Prop} {E : Value → Shared → Prop}
    (h : ∀ s', Off (touch env x) s s' → St G lvl sc T2 ms A env M s' (put ρ i d) → (∀ y v, y ≠ x → SlotVal s'.heap env y v → SlotVal s.heap env y v) → SlotVal s'.heap env x v → Q () s') : wpAny (model G.prog G.w) A (storeName env x v) Q E s := by
  rcases Bool.or_eq_true_iff.mp hk with k | k
  · exact S.storeL (by unfold Env.kindOf; rw [S.eok.scope]; exact beq_iff_eq.mp k) hv hT fun s' x st sb sv => h s' (x.mono fun a ha => by simp at ha; simp [ha]) st sb sv
  · exact S.storeC (by unfold Env.kindOf; rw [S.eok.scope]; exact beq_iff_eq.mp k) hv hT fun s' x st sb sv => h s' (x.mono fun a ha => List.mem_cons_of_mem _ ha) st sb sv

theorem St.sub {ρ' : Rho} (S : St G lvl sc T ms A env M s ρ) (h : ∀ y j, (y, j) ∈ T2 → (y, j) ∈ T ∧ get ρ' j = get ρ j) : St G lvl sc T2 ms A env M s ρ' :=
  ⟨S.fit, S.eok, S.base, S.live, S.loc, S.cellAt, fun y j d hy hg => S.slots y j d (h y j hy).1 ((h y j hy).2 ▸ hg), fun y z j k a hy hz => S.own y z j k a (h y j hy).1 (h z k hz).1⟩

/-- more addresses may change from now on, none of which was there -/
theorem St.widen {M' : List Addr} {s' : Shared} (S : St G lvl sc T ms A env M s ρ) (x : Ext s s') (h1 : ∀ a ∈ M, a ∈ M') (h2 : ∀ a ∈ M', a ∈ M ∨ s.heap.get? a = none) (hl : Live s'.heap M') : St G lvl sc T ms A env M' s' ρ where
  fit := S.fit
  eok := S.eok
  base := fun b o q => x.keep b o (S.base b o q)
  live := hl
  loc := ⟨h1 _ S.loc.1, let ⟨m, n⟩ := S.loc.2; ⟨m, n.keeps x.keep⟩⟩
  cellAt := fun y c l => ⟨h1 _ (S.cellAt y c l).1, let ⟨v, q⟩ := (S.cellAt y c l).2; ⟨v, cell_keeps x.keep q⟩⟩
  slots := fun y j d hy hg => by
    obtain ⟨w, sv, rr⟩ := S.slots y j d hy hg
    refine ⟨w, sv.keeps x.keep, ?_⟩
    cases hm : ms.contains j with
    | false => rw [hm] at rr; exact Rep.ext (Rep.more rr h2) x
    | true =>
      rw [hm] at rr
      obtain ⟨a, e1, vs, n, ds, e2, g, hM, rs⟩ := rr
      exact ⟨a, e1, vs, n, ds, e2, x.keep a _ g, h1 a hM, (rs.more h2).ext x⟩
  own := fun y z j k a hy hz hn h1 h2 sy sz => S.own y z j k a hy hz hn h1 h2 (S.valBack x sy) (S.valBack x sz)
end

/-- the scope of a comprehension within sc -/
noncomputable def relab (scope sc : Scope) : Scope :=
  { scope with names := scope.names.map fun (n, k) => if (k == .free && sc.kind == .function && sc.names.lookup n == some .cell) then (n, .cell) else (n, k) }
theorem relabel_eq {scope sc : Scope} {env : Env} (h : env.scope = sc) : relabel scope env = relab scope sc := by subst h; rfl

noncomputable def closed (env : Env) : List (Str × NameKind) → List (Str × Addr) → List (Str × Addr)
  | [], acc => acc
  | (n, k) :: r, acc => if k == .free then closed env r ((n, (env.cells.lookup n).getD 0) :: acc) else closed env r acc
theorem closed_eq {env : Env} {scope : Scope} (h : ∀ n, (n, NameKind.free) ∈ scope.names → ∃ c, env.cells.lookup n = some c) : closureFor scope env = pure (closed env scope.names []) := by
  unfold closureFor
  have key : ∀ (names : List (Str × NameKind)) (acc : List (Str × Addr)), (∀ n, (n, NameKind.free) ∈ names → ∃ c, env.cells.lookup n = some c) →
      (forIn names acc fun (x : Str × NameKind) (r : List (Str × Addr)) => (match x with
        | (name, kind) => if (kind == NameKind.free) = true then do let y ← cellOf env name; pure (ForInStep.yield ((name, y) :: r)) else pure (ForInStep.yield r) : Sem (ForInStep (List (Str × Addr))))) = pure (closed env names acc) := by
    intro names
    induction names with
    | nil => intro acc _; rfl
    | cons x r ih =>
      intro acc hx
      obtain ⟨n, k⟩ := x
      rw [List.forIn_cons]
      unfold closed
      by_cases hk : (k == NameKind.free) = true
      · obtain ⟨c, hc⟩ := hx n (by rw [beq_iff_eq.mp hk]; exact .head _)
        rw [if_pos hk]
        have : cellOf env n = pure c := by unfold cellOf; rw [hc]
        simp only [hk, if_true, this, pure_bind]
        rw [ih _ fun n hn => hx n (.tail _ hn), hc]; rfl
      · rw [if_neg hk]
        simp only [hk, if_false, pure_bind, Bool.false_eq_true]
        exact ih _ fun n hn => hx n (.tail _ hn)
  have := key scope.names [] h
  simp only [bind_pure]
  exact this
theorem closed_lookup {env : Env} : ∀ (names : List (Str × NameKind)) (acc : List (Str × Addr)) (x : Str), (∀ n, (n, NameKind.free) ∈ names → ∃ c, env.cells.lookup n = some c) →
    (closed env names acc).lookup x = if (x, NameKind.free) ∈ names then env.cells.lookup x else acc.lookup x
  | [], acc, x, _ => by simp [closed]
  | (n, k) :: r, acc, x, h => by
    unfold closed
    by_cases hk : (k == NameKind.free) = true
    · rw [if_pos hk, closed_lookup r _ x fun n hn => h n (.tail _ hn)]
      obtain rfl := beq_iff_eq.mp hk
      obtain ⟨c, hc⟩ := h n (.head _)
      by_cases hx : (x, NameKind.free) ∈ r
      · rw [if_pos hx, if_pos (.tail _ hx)]
      · rw [if_neg hx, List.lookup_cons]
        cases hb : x == n with
        | true => obtain rfl := beq_iff_eq.mp hb; rw [if_pos (.head _), hc]; rfl
        | false => rw [if_neg (fun hm => by
            rcases List.mem_cons.mp hm with e | hm
            · cases e; simp at hb
            · exact hx hm)]
    · rw [if_neg hk, closed_lookup r _ x fun n hn => h n (.tail _ hn)]
      by_cases hx : (x, NameKind.free) ∈ r
      · rw [if_pos hx, if_pos (.tail _ hx)]
      · rw [if_neg hx, if_neg (fun hm => by
            rcases List.mem_cons.mp hm with e | hm
            · cases e; exact hk rfl
            · exact hx hm)]
theorem cellsFrom_append : ∀ (names : List (Str × NameKind)) (n : Nat) (a b : List (Str × Addr)), cellsFrom n names (a ++ b) = cellsFrom n names a ++ b
  | [], _, _, _ => rfl
  | (x, k) :: r, n, a, b => by
    unfold cellsFrom
    split
    · exact cellsFrom_append r (n + 1) ((x, n) :: a) b
    · exact cellsFrom_append r n a b
theorem cellsFrom_mem : ∀ (names : List (Str × NameKind)) (n : Nat) (acc : List (Str × Addr)) (x : Str) (c : Addr), (x, c) ∈ cellsFrom n names acc → (x, c) ∈ acc ∨ ((x, NameKind.cell) ∈ names ∧ n ≤ c)
  | [], _, _, _, _, h => .inl h
  | (y, k) :: r, n, acc, x, c, h => by
    unfold cellsFrom at h
    split at h
    · rename_i hk
      obtain rfl := beq_iff_eq.mp hk
      rcases cellsFrom_mem r (n + 1) _ x c h with h | ⟨h, hc⟩
      · rcases List.mem_cons.mp h with e | h
        · cases e; exact .inr ⟨.head _, Nat.le_refl _⟩
        · exact .inl h
      · exact .inr ⟨.tail _ h, Nat.le_of_succ_le hc⟩
    · rcases cellsFrom_mem r n _ x c h with h | ⟨h, hc⟩
      · exact .inl h
      · exact .inr ⟨.tail _ h, hc⟩
theorem cellsFrom_has : ∀ (names : List (Str × NameKind)) (n : Nat) (acc : List (Str × Addr)) (x : Str), (x, NameKind.cell) ∈ names ∨ (∃ c, acc.lookup x = some c) → ∃ c, (cellsFrom n names acc).lookup x = some c
  | [], _, _, _, h => h.elim (fun h => nomatch h) id
  | (y, k) :: r, n, acc, x, h => by
    unfold cellsFrom
    split
    · rename_i hk
      refine cellsFrom_has r (n + 1) _ x ?_
      rcases h with h | ⟨c, h⟩
      · rcases List.mem_cons.mp h with e | h
        · cases e; exact .inr ⟨n, by rw [List.lookup_cons]; simp⟩
        · exact .inl h
      · refine .inr ?_
        rw [List.lookup_cons]
        cases x == y with
        | true => exact ⟨n, rfl⟩
        | false => exact ⟨c, h⟩
    · rename_i hk
      refine cellsFrom_has r n _ x ?_
      rcases h with h | h
      · rcases List.mem_cons.mp h with e | h
        · cases e; exact absurd rfl hk
        · exact .inl h
      · exact .inr h
end Mine
end

section
namespace Mine
open PySem PySem.Calls PyProof.Rows

noncomputable def addT (T : List (Str × Nat)) (x : Str) (i : Nat) : List (Str × Nat) := (x, i) :: T.filter fun p => !(p.1 == x) && !(p.2 == i)
noncomputable def addAll (T : List (Str × Nat)) : List (Str × Nat) → List (Str × Nat)
  | [] => T
  | (x, i) :: r => addAll (addT T x i) r
noncomputable def putAll (ρ : Rho) : List (Str × Nat) → List V → Option Rho
  | [], [] => some ρ
  | (_, i) :: r, d :: ds => putAll (put ρ i d) r ds
  | _, _ => none
noncomputable abbrev touches (env : Env) (xs : List (Str × Nat)) : List Addr := env.locals :: xs.filterMap fun p => env.cells.lookup p.1
noncomputable def tgtPairs : List Expr → List Nat → List (Str × Nat)
  | .Name x _ :: es, i :: is => (x, i) :: tgtPairs es is
  | _, _ => []
noncomputable def tgtOk (sc : Scope) (ms : List Nat) : List Expr → List Nat → Bool
  | .Name x _ :: es, i :: is => storable sc x && !ms.contains i && tgtOk sc ms es is
  | [], [] => true
  | _, _ => false

section
variable {G : Gd} {lvl : Nat} {sc : Scope} {T T' T2 : List (Str × Nat)} {ms : List Nat} {A : Around} {env : Env} {M : List Addr} {s : Shared} {ρ : Rho}

theorem St.storeP {x : Str} {i : Nat} {d : V} {v : Value} (S : St G lvl sc T ms A env M s ρ) (hk : storable sc x = true) (hv : PutOk G T ms env M s x i v d)
    {Q : Unit → Shared → Prop} {E : Value → Shared → Prop}
    (h : ∀ s', Off (touch env x) s s' → St G lvl sc (addT T x i) ms A env M s' (put ρ i d) → (∀ y v, y ≠ x → SlotVal s'.heap env y v → SlotVal s.heap env y v) → SlotVal s'.heap env x v → Q () s') : wpAny (model G.prog G.w) A (storeName env x v) Q E s :=
  S.store hk hv (fun y j hm => by
    rcases List.mem_cons.mp hm with e | hm
    · cases e; exact .inl ⟨rfl, rfl⟩
    · obtain ⟨hm, hp⟩ := List.mem_filter.mp hm
      simp only [Bool.and_eq_true, Bool.not_eq_true', beq_eq_false_iff_ne] at hp
      exact .inr ⟨hm, hp.1, hp.2⟩) h

theorem St.storeT {x : Str} {i : Nat} {d : V} {v : Value} (S : St G lvl sc T ms A env M s ρ) (hk : storable sc x = true) (hi : ms.contains i = false) (r : Rep G.C s.heap M v d)
    {Q : Unit → Shared → Prop} {E : Value → Shared → Prop}
    (h : ∀ s', Off (touch env x) s s' → St G lvl sc (addT T x i) ms A env M s' (put ρ i d) → (∀ y v, y ≠ x → SlotVal s'.heap env y v → SlotVal s.heap env y v) → SlotVal s'.heap env x v → Q () s') : wpAny (model G.prog G.w) A (storeName env x v) Q E s :=
  S.storeP hk (.inl ⟨hi, r⟩) h

theorem touch_sub {x : Str} {i : Nat} {r : List (Str × Nat)} : ∀ a ∈ touch env x, a ∈ touches env ((x, i) :: r) := fun a ha => by
  rcases List.mem_cons.mp ha with rfl | ha
  · exact .head _
  · refine List.mem_cons_of_mem _ ?_
    rw [List.mem_filterMap]
    exact ⟨(x, i), .head _, by simpa using ha⟩
theorem touches_sub {p : Str × Nat} {r : List (Str × Nat)} : ∀ a ∈ touches env r, a ∈ touches env (p :: r) := fun a ha => by
  rcases List.mem_cons.mp ha with rfl | ha
  · exact .head _
  · refine List.mem_cons_of_mem _ ?_
    rw [List.mem_filterMap] at ha ⊢
    obtain ⟨q, hq, e⟩ := ha
    exact ⟨q, .tail _ hq, e⟩
theorem St.touches (S : St G lvl sc T ms A env M s ρ) {xs : List (Str × Nat)} : ∀ a ∈ touches env xs, a ∈ M := fun a ha => by
  rcases List.mem_cons.mp ha with rfl | ha
  · exact S.loc.1
  · rw [List.mem_filterMap] at ha
    obtain ⟨q, hq, e⟩ := ha
    exact (S.cellAt q.1 a e).1

theorem store_all (elts : List Expr) : ∀ (is : List Nat) (T : List (Str × Nat)) (s : Shared) (ρ ρ' : Rho) (vs : List Value) (ds : List V), tgtOk sc ms elts is = true → St G lvl sc T ms A env M s ρ → RepAll G.C s.heap M vs ds →
    putAll ρ (tgtPairs elts is) ds = some ρ' →
    wpAny (model G.prog G.w) A (assignInOrder ((assignEach elts env).map (·.2)) vs) (fun _ s' => Off (touches env (tgtPairs elts is)) s s' ∧ St G lvl sc (addAll T (tgtPairs elts is)) ms A env M s' ρ' ∧ (∀ y v, (∀ p ∈ tgtPairs elts is, p.1 ≠ y) → SlotVal s'.heap env y v → SlotVal s.heap env y v)) NoE s := by
  induction elts with
  | nil =>
    intro is T s ρ ρ' vs ds ht S r q
    cases is with
    | cons _ _ => cases ht
    | nil =>
      cases r with
      | nil => cases q; exact wpAny_assignInOrder_none ⟨Off.refl _ s, S, fun _ _ _ h => h⟩
      | cons _ _ => cases q
  | cons e es ih =>
    intro is T s ρ ρ' vs ds ht S r q
    cases e with
    | Name x p =>
      cases is with
      | nil => cases ht
      | cons i is =>
        simp only [tgtOk, Bool.and_eq_true, Bool.not_eq_true'] at ht
        cases r with
        | nil => cases q
        | cons r rs =>
          refine wpAny_assignInOrder_more (t := assign (.Name x p) env) (wpAny_assign_Name (S.storeT ht.1.1 ht.1.2 r fun s' off S' sb _ => ?_))
          refine wp_use (ih is _ s' _ ρ' _ _ ht.2 S' (rs.off off fun a ha => ?_) q) fun _ s'' ⟨o2, S2, sb2⟩ => ⟨(off.mono touch_sub).trans (o2.mono touches_sub), S2, fun y v hy sv => sb y v (Ne.symm (hy (x, i) (.head _))) (sb2 y v (fun p hp => hy p (.tail _ hp)) sv)⟩
          exact S.touches (xs := [(x, i)]) a (touch_sub a ha)
    | _ => cases is <;> cases ht

/-- the target takes a datum -/
noncomputable def DenT (G : Gd) (lvl : Nat) (sc : Scope) (T T' : List (Str × Nat)) (ms : List Nat) (target : Expr) (xs : List (Str × Nat)) (bnd : Rho → V → Option Rho) : Prop :=
  ∀ A env M s ρ v d ρ', St G lvl sc T ms A env M s ρ → Rep G.C s.heap M v d → bnd ρ d = some ρ' →
    wpAny (model G.prog G.w) A (assign target env v) (fun _ s' => Off (touches env xs) s s' ∧ St G lvl sc T' ms A env M s' ρ' ∧ (∀ y v, (∀ p ∈ xs, p.1 ≠ y) → SlotVal s'.heap env y v → SlotVal s.heap env y v)) NoE s
noncomputable def subT' (T' T : List (Str × Nat)) : Bool := T'.all fun p => T.contains p
theorem St.subT (S : St G lvl sc T ms A env M s ρ) (h : subT' T' T = true) : St G lvl sc T' ms A env M s ρ :=
  S.sub fun y j hm => ⟨by simpa using List.all_eq_true.mp h (y, j) hm, rfl⟩

theorem DenT.name {x : Str} {i : Nat} {pos : Pos} (hs : storable sc x = true) (hi : ms.contains i = false) (ht : subT' T' (addT T x i) = true) : DenT G lvl sc T T' ms (.Name x pos) [(x, i)] fun ρ d => some (put ρ i d) :=
  fun A env M s ρ v d ρ' S r q => by
  cases q
  exact wpAny_assign_Name (S.storeT hs hi r fun s' off S' sb _ => ⟨off.mono touch_sub, S'.subT ht, fun y v hy sv => sb y v (Ne.symm (hy (x, i) (.head _))) sv⟩)

noncomputable def asSeq : V → Option (List V)
  | .list ds => some ds
  | .tup ds => some ds
  | _ => none
theorem tgt_length (elts : List Expr) : ∀ (is : List Nat) (ρ ρ' : Rho) (ds : List V), tgtOk sc ms elts is = true → putAll ρ (tgtPairs elts is) ds = some ρ' → (assignEach elts env).length = ds.length ∧ (assignEach elts env).findIdx? (·.1) = none := by
  induction elts with
  | nil =>
    intro is ρ ρ' ds h q
    cases is with
    | cons _ _ => cases h
    | nil => cases ds with
      | nil => exact ⟨rfl, rfl⟩
      | cons _ _ => cases q
  | cons e es ih =>
    intro is ρ ρ' ds h q
    cases e with
    | Name x p =>
      cases is with
      | nil => cases h
      | cons i is =>
        cases ds with
        | nil => cases q
        | cons d ds =>
          simp only [tgtOk, Bool.and_eq_true] at h
          obtain ⟨e1, e2⟩ := ih is (put ρ i d) ρ' ds h.2 q
          constructor
          · show (assignEach es env).length + 1 = _; rw [e1]; rfl
          · show List.findIdx? _ ((false, _) :: assignEach es env) = _
            rw [List.findIdx?_cons]; simp [e2]
    | _ => cases is <;> cases h
theorem DenT.tuple {elts : List Expr} {is : List Nat} {k : Nat} {pos : Pos} (ht : tgtOk sc ms elts is = true) (hsub : subT' T' (addAll T (tgtPairs elts is)) = true) :
    DenT G lvl sc T T' ms (.Tuple elts k pos) (tgtPairs elts is) fun ρ d => (asSeq d).bind (putAll ρ (tgtPairs elts is)) := fun A env M s ρ v d ρ' S r q => by
  obtain ⟨ds, hds, q⟩ := Option.bind_eq_some_iff.mp q
  obtain ⟨hl, hst⟩ := tgt_length (env := env) elts is ρ ρ' ds ht q
  have fin : ∀ (vs : List Value) (h' : Heap), RepAll G.C s.heap M vs ds → Heap.ExtBut s.heap.objs.size s.heap h' →
      wpAny (model G.prog G.w) A (assignInOrder ((assignEach elts env).map (·.2)) vs) (fun _ s' => Off (touches env (tgtPairs elts is)) s s' ∧ St G lvl sc T' ms A env M s' ρ' ∧ (∀ y v, (∀ p ∈ tgtPairs elts is, p.1 ≠ y) → SlotVal s'.heap env y v → SlotVal s.heap env y v)) NoE { s with heap := h' } := fun vs h' rs he => by
    have x : Ext s { s with heap := h' } := Ext.of_heap (tk := s.toks) fun b o e => he b o (Nat.ne_of_lt (Heap.lt_size e)) e
    exact wp_use (store_all elts is T _ ρ ρ' vs ds ht (S.ext x) (rs.ext x) q) fun _ s' ⟨o, S', sb⟩ => ⟨x.off.trans o, S'.subT hsub, fun y v hy sv => S.valBack x (sb y v hy sv)⟩
  cases d with
  | tup es =>
    cases hds
    obtain ⟨a, vs, n, rfl, g, _, rs⟩ := r.isTup
    have hT : s.heap.IsTuple a vs.toArray := ⟨_, g, rfl, n, rfl⟩
    exact wpAny_assign_Tuple S.fit.handled hT (by rw [hl]; simp [rs.length]) hst fun h' he => by simpa using fin vs h' rs he
  | list es =>
    cases hds
    obtain ⟨a, vs, n, rfl, g, _, rs⟩ := r.isList
    have hL : s.heap.IsList a vs.toArray := ⟨_, g, rfl, n, rfl⟩
    rw [arm_assign_Tuple]
    refine wpAny_bind (wpAny_standAt ?_)
    unfold unpack
    rw [show (assignEach elts env).length = vs.toArray.size by rw [hl]; simp [rs.length], hst]
    refine wpAny_bind (wpAny_holding (PySem.W.kun_itemsOf S.fit.handled hL fun h' he => ?_))
    simpa using fin vs h' rs he
  | _ => cases hds
end
end Mine
end

section
namespace Mine
open PySem PySem.Calls PyProof.Rows

noncomputable def DenC (G : Gd) (lvl : Nat) (sc : Scope) (T : List (Str × Nat)) (ms : List Nat) (ifs : List Expr) (F : Rho → Option Bool) : Prop :=
  ∀ A env M s ρ b, St G lvl sc T ms A env M s ρ → F ρ = some b →
    wpAny (model G.prog G.w) A (forIn ifs true fun c r => if r = true then do let ok ← isTrue c env (eval c env); pure (ForInStep.yield ok) else pure (ForInStep.yield r)) (fun r s' => Ext s s' ∧ r = b) NoE s
theorem DenC.nil {G : Gd} {lvl : Nat} {sc : Scope} {T : List (Str × Nat)} {ms : List Nat} : DenC G lvl sc T ms [] fun _ => some true := fun A env M s ρ b S q => by
  cases q; exact wpAny_tests_nil ⟨Off.refl _ s, rfl⟩
theorem DenC.one {G : Gd} {lvl : Nat} {sc : Scope} {T : List (Str × Nat)} {ms : List Nat} {e : Expr} {F : Rho → Option Bool} (h : DenB G lvl sc T ms e F) : DenC G lvl sc T ms [e] F := fun A env M s ρ b S q =>
  wpAny_tests_one (h A env M s ρ b S q)

/-- what a comprehension does with an item that passed -/
noncomputable def DenE (G : Gd) (lvl : Nat) (sc : Scope) (T : List (Str × Nat)) (ms : List Nat) (body : Value → Env → Sem Unit) (ys : List (Str × Nat)) (F : Rho → Option (List V)) : Prop :=
  ∀ A env M s ρ D vs k acc xs, St G lvl sc T ms A env M s ρ → D ∈ M → D ∉ touches env ys → G.h₀.get? D = none → s.heap.get? D = some (lst vs k) → RepAll G.C s.heap M vs acc → acc.length + xs.length ≤ 10000 → F ρ = some xs →
    wpAny (model G.prog G.w) A (body (.ref D) env) (fun _ s' => ∃ s₁ vs' k', St G lvl sc T ms A env M s₁ ρ ∧ Off (D :: touches env ys) s s₁ ∧ (∃ vs₁ k₁, s₁.heap.get? D = some (lst vs₁ k₁)) ∧ Off [D] s₁ s' ∧
      s'.heap.get? D = some (lst vs' k') ∧ RepAll G.C s'.heap M vs' (acc ++ xs)) NoE s

noncomputable def emitList (elt : Expr) (acc : Value) (env : Env) : Sem Unit := do let _ ← call (.builtin "list.append") [acc, ← eval elt env]
theorem DenE.emit {G : Gd} {lvl : Nat} {sc : Scope} {T : List (Str × Nat)} {ms : List Nat} {elt : Expr} {F : Rho → Option V} (h : DenP G lvl sc T ms elt F) : DenE G lvl sc T ms (emitList elt) [] fun ρ => (F ρ).map ([·]) :=
  fun A env M s ρ D vs k acc xs S hD hnt hbD hg hr hn q => by
    obtain ⟨d, hd, rfl⟩ := Option.map_eq_some_iff.mp q
    refine wpAny_bind (wp_use (h A env M s ρ d S hd) fun v s₁ ⟨x, r⟩ => wpAny_bind ?_)
    have hl := hr.length
    refine wpAny_list_append_plain (items := vs.toArray) ⟨k, x.keep _ _ hg⟩ (fun h' hp hs => wpAny_pure ?_) (by rw [List.size_toArray, sizeLine_eq, hl]; omega)
    obtain ⟨k', hg'⟩ := hp
    have off : Off [D] s₁ { s₁ with heap := h' } := Off.of_heap (tk := s₁.toks) fun b o hb e => hs.extBut b o (fun q => hb (q ▸ List.mem_singleton.mpr rfl)) e
    have sub : ∀ a ∈ [D], a ∈ M := fun a ha => (List.mem_singleton.mp ha) ▸ hD
    exact ⟨s₁, vs ++ [v], k', S.ext x, x.off, ⟨vs, k, x.keep _ _ hg⟩, off, by simpa using hg', ((hr.ext x).off off sub).append (.cons (r.off off sub) .nil)⟩

noncomputable def compGo (bnd : Rho → V → Option Rho) (tst : Rho → Option Bool) (body : Rho → Option (List V)) (ρ : Rho) : List V → Option (List V)
  | [] => some []
  | d :: ds => (bnd ρ d).bind fun ρ1 => (tst ρ1).bind fun b => if b then (body ρ1).bind fun xs => (compGo bnd tst body ρ ds).map (xs ++ ·) else compGo bnd tst body ρ ds

theorem comp_loop {G : Gd} {lvl : Nat} {sc : Scope} {T₀ T₁ : List (Str × Nat)} {ms : List Nat} {A : Around} {cenv : Env} {M M₀ : List Addr} {s : Shared} {ρ : Rho} {elt : Expr} {gens : List Comprehension} {scope : Scope} {pos : Pos} {depth : Nat} {target : Expr} {ifs : List Expr} {ip : Pos}
    {body : Value → Env → Sem Unit} {P : Shared → Prop} {I D : Addr} {ds out acc₀ : List V} {fp : List Addr} {PP : Nat → Value → Prop} {J : Nat → Heap → Prop} {H : List Addr → Heap → Prop} {h₁ : Heap}
    {xs ys : List (Str × Nat)} {bnd : Rho → V → Option Rho} {Ft : Rho → Option Bool} {Fb : Rho → Option (List V)} {R : Result → Shared → Prop} {vs : List Value} {k : Nat}
    (heq : ∀ it acc env, compTurn (.ListComp elt gens scope pos) depth it acc env = (do
      standAt ip
      match ← pyNext it with
      | none => pure (.done .next)
      | some v =>
        letOwnedTupleGo target it v
        assign target env v
        let mut ok := true
        for c in ifs do
          if ok then ok ← isTrue c env (eval c env)
        if ok then body acc env
        again (.compLoop (.ListComp elt gens scope pos) depth it acc env)))
    (src : Src G A M₀ h₁ I ds fp PP J H) (hIM : I ∈ M) (hDM : D ∈ M) (hID : D ≠ I) (hbD : G.h₀.get? D = none)
    (hfp : ∀ b ∈ fp, b = I ∨ b ∉ D :: touches cenv (xs ++ ys)) (hI : I ∉ touches cenv (xs ++ ys)) (hDt : D ∉ touches cenv (xs ++ ys))
    (pst : ∀ s', P s' → St G lvl sc T₀ ms A cenv M s' ρ)
    (pnext : ∀ s' s₁, P s' → Off [I] s' s₁ → (∃ o n, s₁.heap.get? I = some o ∧ o.cls = .type n) → P s₁)
    (pback : ∀ s₁ s₄ s₅ ρ1 d, P s₁ → bnd ρ d = some ρ1 → St G lvl sc T₁ ms A cenv M s₄ ρ1 → Off (D :: touches cenv (xs ++ ys)) s₁ s₄ → (∃ vs₁ k₁, s₄.heap.get? D = some (lst vs₁ k₁)) → Off [D] s₄ s₅ → (∃ o, s₅.heap.get? D = some o) → P s₅)
    (hT : DenT G lvl sc T₀ T₁ ms target xs bnd) (hC : DenC G lvl sc T₁ ms ifs Ft) (hB : DenE G lvl sc T₁ ms body ys Fb)
    (hgo : compGo bnd Ft Fb ρ ds = some out) (hlen : acc₀.length + out.length ≤ 10000)
    (hp : P s) (hJ : J 0 s.heap) (hH : H M s.heap) (hD : s.heap.get? D = some (lst vs k)) (hr : RepAll G.C s.heap M vs acc₀)
    (fin : ∀ s' s'' vs' k', P s' → Off [I] s' s'' → s''.heap.get? D = some (lst vs' k') → RepAll G.C s''.heap M vs' (acc₀ ++ out) → Off (I :: D :: touches cenv (xs ++ ys)) s s'' → R (.ok .next) s'') :
    codeAny (model G.prog G.w) A (.compLoop (.ListComp elt gens scope pos) depth (.ref I) (.ref D) cenv) R s := by
  refine codeAny_loop rfl (fun n s' => ∃ i vs k acc rest, n = ds.length + 1 - i ∧ i ≤ ds.length ∧ P s' ∧ J i s'.heap ∧ H M s'.heap ∧ s'.heap.get? D = some (lst vs k) ∧ RepAll G.C s'.heap M vs acc ∧
    compGo bnd Ft Fb ρ (ds.drop i) = some rest ∧ acc₀ ++ out = acc ++ rest ∧ Off (I :: D :: touches cenv (xs ++ ys)) s s') (fun n s' hI' => ?_) (ds.length + 1)
    ⟨0, vs, k, acc₀, out, rfl, Nat.zero_le _, hp, hJ, hH, hD, hr, by simpa using hgo, rfl, Off.refl _ s⟩
  obtain ⟨i, vs, k, acc, rest, rfl, hi, hp, hJ, hH, hD, hr, hgo, hout, off₀⟩ := hI'
  show wpAny _ A ((compTurn (.ListComp elt gens scope pos) depth (.ref I) (.ref D) cenv).onRaise (fun x => do noteFrame x cenv; theTreesLotGoes x)) _ _ s'
  refine wpAny_noted ?_
  rw [heq]
  refine wpAny_bind (wpAny_standAt (wpAny_bind ?_))
  have IM : ∀ a ∈ [I], a ∈ M := fun a ha => (List.mem_singleton.mp ha) ▸ hIM
  have hDI : ∀ {s₁ : Shared} {o : Obj}, Off [I] s' s₁ → s'.heap.get? D = some o → s₁.heap.get? D = some o := fun x e => x.heap _ _ (fun hm => hID (List.mem_singleton.mp hm)) e
  have offI : ∀ {s₁ : Shared}, Off [I] s' s₁ → Off (I :: D :: touches cenv (xs ++ ys)) s' s₁ := fun x => x.mono fun a ha => by rw [List.mem_singleton.mp ha]; exact .head _
  rcases Nat.lt_or_ge i ds.length with hlt | hge
  · obtain ⟨d, hd⟩ : ∃ d, ds[i]? = some d := ⟨_, List.getElem?_eq_getElem hlt⟩
    have hdrop : ds.drop i = d :: ds.drop (i + 1) := by
      rw [List.drop_eq_getElem_cons hlt]
      rw [List.getElem?_eq_getElem hlt] at hd
      cases hd; rfl
    rw [hdrop] at hgo
    unfold compGo at hgo
    obtain ⟨ρ1, hb, hgo⟩ := Option.bind_eq_some_iff.mp hgo
    obtain ⟨b, ht, hgo⟩ := Option.bind_eq_some_iff.mp hgo
    refine src.next hIM hd hJ hH fun v s₁ o₁ hJ₁ hH₁ r₁ => ?_
    obtain ⟨oi, ni, hoi, hci, hni⟩ := src.cls _ _ hJ₁
    have hp₁ : P s₁ := pnext s' s₁ hp o₁ ⟨oi, ni, hoi, hci⟩
    have S₁ := pst s₁ hp₁
    have hD₁ := hDI o₁ hD
    refine wpAny_bind (letOwned_quiet hoi hci hni (wpAny_bind (wpAny_mono (hT A cenv M s₁ ρ v d ρ1 S₁ r₁ hb) (fun _ s₂ h₂ => ?_) fun _ _ f => f.elim)))
    obtain ⟨o₂, S₂, _⟩ := h₂
    have tsub : ∀ a ∈ touches cenv xs, a ∈ touches cenv (xs ++ ys) := fun a ha => by
      rcases List.mem_cons.mp ha with rfl | ha
      · exact .head _
      · refine List.mem_cons_of_mem _ ?_
        rw [List.filterMap_append]; exact List.mem_append.mpr (.inl ha)
    have tsub' : ∀ a ∈ touches cenv ys, a ∈ touches cenv (xs ++ ys) := fun a ha => by
      rcases List.mem_cons.mp ha with rfl | ha
      · exact .head _
      · refine List.mem_cons_of_mem _ ?_
        rw [List.filterMap_append]; exact List.mem_append.mpr (.inr ha)
    have sM : ∀ a ∈ touches cenv (xs ++ ys), a ∈ M := fun a ha => S₁.touches a ha
    have hD₂ : s₂.heap.get? D = some (lst vs k) := o₂.heap _ _ (fun hm => hDt (tsub _ hm)) hD₁
    have hr₂ : RepAll G.C s₂.heap M vs acc := (hr.off o₁ IM).off o₂ fun a ha => sM a (tsub a ha)
    refine wpAny_bind (wpAny_mono (hC A cenv M s₂ ρ1 b S₂ ht) (fun ok s₃ h₃ => ?_) fun _ _ f => f.elim)
    obtain ⟨x₃, rfl⟩ := h₃
    have S₃ := S₂.ext x₃
    have hD₃ := x₃.keep _ _ hD₂
    have hr₃ := hr₂.ext x₃
    have keepJ : ∀ s₅, Off (D :: touches cenv (xs ++ ys)) s₁ s₅ → J (i + 1) s₅.heap := fun s₅ o => src.walk.frame _ _ _ hJ₁ fun b hb ob eb => by
      rcases hfp b hb with rfl | hb
      · exact o.heap _ _ (fun hm => by rcases List.mem_cons.mp hm with e | hm; exact hID e.symm; exact hI hm) eb
      · exact o.heap _ _ hb eb
    have DM : ∀ a ∈ D :: touches cenv (xs ++ ys), a ∈ M := fun a ha => by
      rcases List.mem_cons.mp ha with rfl | ha
      · exact hDM
      · exact sM a ha
    have keepH : ∀ s₅, Off (D :: touches cenv (xs ++ ys)) s₁ s₅ → H M s₅.heap := fun s₅ o => src.stays _ _ _ _ hH₁ fun b ob hb eb => ⟨o.heap _ _ (fun hm => hb (DM b hm)) eb, hb⟩
    have o₁₃ : Off (D :: touches cenv (xs ++ ys)) s₁ s₃ := (o₂.mono fun a ha => List.mem_cons_of_mem _ (tsub a ha)).trans x₃.off
    have tail : ∀ s₅, Off (D :: touches cenv (xs ++ ys)) s₁ s₅ → Off (I :: D :: touches cenv (xs ++ ys)) s s₅ := fun s₅ o => (off₀.trans (offI o₁)).trans (o.mono fun a ha => List.mem_cons_of_mem _ ha)
    cases ok with
    | false =>
      simp only [Bool.false_eq_true, if_false] at hgo ⊢
      exact wpAny_pure ⟨rfl, ds.length + 1 - (i + 1), by omega, i + 1, vs, k, acc, rest, rfl, hlt, pback s₁ s₃ s₃ ρ1 d hp₁ hb S₃ o₁₃ ⟨_, _, hD₃⟩ (Off.refl _ _) ⟨_, hD₃⟩, keepJ _ o₁₃, keepH _ o₁₃, hD₃, hr₃, hgo, hout, tail _ o₁₃⟩
    | true =>
      simp only [if_true] at hgo ⊢
      obtain ⟨new, hnew, hgo⟩ := Option.bind_eq_some_iff.mp hgo
      obtain ⟨more, hmore, rfl⟩ := Option.map_eq_some_iff.mp hgo
      have hlen' : acc.length + new.length ≤ 10000 := by
        have := congrArg List.length hout
        simp only [List.length_append] at this hlen
        omega
      refine wpAny_bind (wpAny_mono (hB A cenv M s₃ ρ1 D vs k acc new S₃ hDM (fun hm => hDt (tsub' _ hm)) hbD hD₃ hr₃ hlen' hnew) (fun _ s₅ h₅ => ?_) fun _ _ f => f.elim)
      obtain ⟨s₄, vs', k', S₄, o₄, hD₄, o₅, hD₅, hr₅⟩ := h₅
      have o₁₄ : Off (D :: touches cenv (xs ++ ys)) s₁ s₄ := o₁₃.trans (o₄.mono fun a ha => by
        rcases List.mem_cons.mp ha with rfl | ha
        · exact .head _
        · exact List.mem_cons_of_mem _ (tsub' a ha))
      have o₁₅ : Off (D :: touches cenv (xs ++ ys)) s₁ s₅ := o₁₄.trans (o₅.mono fun a ha => (List.mem_singleton.mp ha) ▸ .head _)
      exact wpAny_pure ⟨rfl, ds.length + 1 - (i + 1), by omega, i + 1, vs', k', acc ++ new, more, rfl, hlt, pback s₁ s₄ s₅ ρ1 d hp₁ hb S₄ o₁₄ hD₄ o₅ ⟨_, hD₅⟩, keepJ _ o₁₅, keepH _ o₁₅, hD₅, hr₅, hmore,
        by rw [hout, List.append_assoc], tail _ o₁₅⟩
  · have hie : i = ds.length := Nat.le_antisymm hi hge
    subst hie
    rw [List.drop_length] at hgo
    unfold compGo at hgo
    cases hgo
    rw [List.append_nil] at hout
    refine src.done hJ fun s₁ o₁ => wpAny_pure ?_
    exact fin s' s₁ vs k hp o₁ (hDI o₁ hD) (hout ▸ hr.off o₁ IM) (off₀.trans (offI o₁))
end Mine
end

section
namespace Mine
open PySem PySem.Calls PyProof.Rows

noncomputable def compE (scope sc : Scope) (env : Env) (C : Addr) : Env :=
  { scope := relab scope sc, locals := C, globals := env.globals, cells := cellsFrom (C + 1) scope.names (closed env scope.names []), qual := env.qual, func := none, code := env.code, frame := env.frame, builtins := env.builtins }
/-- the comprehension's scope fits into sc -/
noncomputable def compOk (scope sc : Scope) : Bool :=
  scope.kind == .function && (scope.names.all fun p => scope.names.lookup p.1 == some p.2) && (scope.names.all fun p => p.2 != .free || (sc.names.lookup p.1 == some .cell || sc.names.lookup p.1 == some .free))
noncomputable def innerOk (scope : Scope) (T T₀ : List (Str × Nat)) : Bool := T₀.all fun p => T.contains p && scope.names.lookup p.1 == some .free
noncomputable def ownOk (scope : Scope) (xs : List (Str × Nat)) : Bool := xs.all fun p => scope.names.lookup p.1 == some .local || scope.names.lookup p.1 == some .cell

theorem relab_lookup {sc : Scope} : ∀ (names : List (Str × NameKind)) (x : Str),
    (names.map fun (n, k) => if (k == NameKind.free && sc.kind == .function && sc.names.lookup n == some .cell) then (n, NameKind.cell) else (n, k)).lookup x =
      (names.lookup x).map fun k => if (k == NameKind.free && sc.kind == .function && sc.names.lookup x == some .cell) then NameKind.cell else k
  | [], x => rfl
  | (n, k) :: r, x => by
    rw [List.map_cons, List.lookup_cons]
    have ih := relab_lookup (sc := sc) r x
    by_cases hc : (k == NameKind.free && sc.kind == .function && sc.names.lookup n == some .cell) = true
    · simp only [hc, if_true]
      rw [List.lookup_cons]
      cases hb : x == n with
      | true => obtain rfl := beq_iff_eq.mp hb; dsimp only [Option.map_some]; rw [if_pos hc]
      | false => exact ih
    · simp only [hc, if_false, Bool.false_eq_true]
      rw [List.lookup_cons]
      cases hb : x == n with
      | true => obtain rfl := beq_iff_eq.mp hb; dsimp only [Option.map_some]; rw [if_neg hc]
      | false => exact ih
theorem relab_eq (scope sc : Scope) (x : Str) : (relab scope sc).names.lookup x = (scope.names.lookup x).map fun k => if (k == NameKind.free && sc.kind == .function && sc.names.lookup x == some .cell) then NameKind.cell else k :=
  relab_lookup scope.names x

theorem closed_mem {env : Env} : ∀ (names : List (Str × NameKind)) (acc : List (Str × Addr)) (x : Str) (c : Addr), (x, c) ∈ closed env names acc → (x, c) ∈ acc ∨ ((x, NameKind.free) ∈ names ∧ c = (env.cells.lookup x).getD 0)
  | [], acc, x, c, h => .inl h
  | (n, k) :: r, acc, x, c, h => by
    unfold closed at h
    split at h
    · rename_i hk
      obtain rfl := beq_iff_eq.mp hk
      rcases closed_mem r _ x c h with h | ⟨h, e⟩
      · rcases List.mem_cons.mp h with e | h
        · cases e; exact .inr ⟨.head _, rfl⟩
        · exact .inl h
      · exact .inr ⟨.tail _ h, e⟩
    · rcases closed_mem r _ x c h with h | ⟨h, e⟩
      · exact .inl h
      · exact .inr ⟨.tail _ h, e⟩

section
variable {G : Gd} {lvl : Nat} {scope sc : Scope} {T T₀ T₁ : List (Str × Nat)} {ms : List Nat} {A : Around} {env : Env} {M : List Addr} {s : Shared} {ρ : Rho} {C : Addr}

theorem compOk_kind (h : compOk scope sc = true) : scope.kind = .function := by
  simp only [compOk, Bool.and_eq_true] at h; exact beq_iff_eq.mp h.1.1
theorem compOk_names (h : compOk scope sc = true) : ∀ p ∈ scope.names, scope.names.lookup p.1 = some p.2 := fun p hp => by
  simp only [compOk, Bool.and_eq_true] at h; exact beq_iff_eq.mp (List.all_eq_true.mp h.1.2 p hp)
theorem compOk_free (h : compOk scope sc = true) {x : Str} (hx : scope.names.lookup x = some .free) : sc.names.lookup x = some .cell ∨ sc.names.lookup x = some .free := by
  simp only [compOk, Bool.and_eq_true] at h
  have := List.all_eq_true.mp h.2 _ (mem_of_lookup hx)
  simpa using this
theorem mem_free_iff (h : compOk scope sc = true) {x : Str} : (x, NameKind.free) ∈ scope.names ↔ scope.names.lookup x = some .free := ⟨fun m => compOk_names h _ m, mem_of_lookup⟩
theorem comp_freeHas (h : compOk scope sc = true) (E : EnvOk G sc env) : ∀ n, (n, NameKind.free) ∈ scope.names → ∃ c, env.cells.lookup n = some c := fun n hn =>
  E.cells n (by unfold Env.kindOf; rw [E.scope]; exact compOk_free h (compOk_names h _ hn))

/-- a cell of the comprehension: one from outside, or an own one -/
theorem comp_cell (h : compOk scope sc = true) (E : EnvOk G sc env) {x : Str} {c : Addr} (hc : (compE scope sc env C).cells.lookup x = some c) :
    (scope.names.lookup x = some .free ∧ env.cells.lookup x = some c) ∨ (scope.names.lookup x = some .cell ∧ (x, c) ∈ cellsFrom (C + 1) scope.names [] ∧ C + 1 ≤ c) := by
  have hm := mem_of_lookup hc
  have hm' : (x, c) ∈ cellsFrom (C + 1) scope.names [] ++ closed env scope.names [] := by rw [← cellsFrom_append]; exact hm
  rcases List.mem_append.mp hm' with hm | hm
  · rcases cellsFrom_mem _ _ _ _ _ hm with q | ⟨q, hle⟩
    · cases q
    · exact .inr ⟨compOk_names h _ q, hm, hle⟩
  · rcases closed_mem _ _ _ _ hm with q | ⟨q, e⟩
    · cases q
    · obtain ⟨c', hc'⟩ := comp_freeHas h E x q
      rw [hc'] at e
      exact .inl ⟨compOk_names h _ q, by rw [hc', e]; rfl⟩
theorem comp_cellFree (h : compOk scope sc = true) (E : EnvOk G sc env) {x : Str} (hx : scope.names.lookup x = some .free) : (compE scope sc env C).cells.lookup x = env.cells.lookup x := by
  obtain ⟨c', hc'⟩ := comp_freeHas h E x (mem_of_lookup hx)
  have : ∃ c, (compE scope sc env C).cells.lookup x = some c := cellsFrom_has scope.names (C + 1) (closed env scope.names []) x (.inr ⟨c', by
    rw [closed_lookup _ _ _ (comp_freeHas h E), if_pos (mem_of_lookup hx), hc']⟩)
  obtain ⟨c, hc⟩ := this
  rcases comp_cell h E hc with ⟨_, e⟩ | ⟨e, _⟩
  · rw [hc, e]
  · rw [hx] at e; cases e

theorem St.inner (S : St G lvl sc T ms A env M s ρ) (h : compOk scope sc = true) (hT : innerOk scope T T₀ = true) (hC : C ∈ M ∧ ∃ m, s.heap.Ns C m) (hab : G.h₀.objs.size ≤ C) (hlo : ∀ x c, env.cells.lookup x = some c → c < C + 1)
    (hap : (cellsFrom (C + 1) scope.names []).Pairwise fun x y => x.2 ≠ y.2)
    (hown : ∀ x c, (compE scope sc env C).cells.lookup x = some c → c ∈ M ∧ ∃ v, s.heap.IsCell c v) : St G lvl (relab scope sc) T₀ ms A (compE scope sc env C) M s ρ := by
  have free : ∀ p ∈ T₀, p ∈ T ∧ scope.names.lookup p.1 = some .free := fun p hp => by
    have := List.all_eq_true.mp hT p hp
    simp only [Bool.and_eq_true] at this
    exact ⟨by simpa using this.1, beq_iff_eq.mp this.2⟩
  have kin : ∀ x, scope.names.lookup x = some .free → (compE scope sc env C).kindOf x = some .cell ∨ (compE scope sc env C).kindOf x = some .free := fun x hx => by
    unfold Env.kindOf
    show (relab scope sc).names.lookup x = _ ∨ (relab scope sc).names.lookup x = _
    rw [relab_eq, hx]
    dsimp only [Option.map_some]
    split
    · exact .inl rfl
    · exact .inr rfl
  have kout : ∀ x, scope.names.lookup x = some .free → env.kindOf x = some .cell ∨ env.kindOf x = some .free := fun x hx => by
    unfold Env.kindOf; rw [S.eok.scope]; exact compOk_free h hx
  have fw : ∀ x v, scope.names.lookup x = some .free → SlotVal s.heap env x v → SlotVal s.heap (compE scope sc env C) x v := fun x v hx sv => by
    rcases sv with ⟨k, _⟩ | ⟨_, c, l, q⟩
    · rcases kout x hx with e | e <;> rw [e] at k <;> cases k
    · exact .inr ⟨kin x hx, c, by rw [comp_cellFree h S.eok hx]; exact l, q⟩
  have bw : ∀ x v, scope.names.lookup x = some .free → SlotVal s.heap (compE scope sc env C) x v → SlotVal s.heap env x v := fun x v hx sv => by
    rcases sv with ⟨k, _⟩ | ⟨_, c, l, q⟩
    · rcases kin x hx with e | e <;> rw [e] at k <;> cases k
    · exact .inr ⟨kout x hx, c, by rw [← comp_cellFree (C := C) h S.eok hx]; exact l, q⟩
  refine ⟨S.fit, ⟨rfl, S.eok.globals, S.eok.builtins, hab, compOk_kind (scope := scope) h, fun x hx => ?_, fun x y c hxy hx hy => ?_, fun x c hx => ?_⟩, S.base, S.live, hC, hown, fun x i d hx hg => ?_, fun x y i j a hx hy hn h1 h2 sx sy => ?_⟩
  · unfold Env.kindOf at hx
    change (relab scope sc).names.lookup x = _ ∨ (relab scope sc).names.lookup x = _ at hx
    rw [relab_eq] at hx
    cases hk : scope.names.lookup x with
    | none => rw [hk] at hx; rcases hx with e | e <;> cases e
    | some k =>
      rw [hk] at hx
      cases k with
      | free =>
        obtain ⟨c, hc⟩ := comp_freeHas h S.eok x (mem_of_lookup hk)
        exact ⟨c, by rw [comp_cellFree h S.eok hk]; exact hc⟩
      | cell => exact cellsFrom_has scope.names (C + 1) _ x (.inl (mem_of_lookup hk))
      | _ => rcases hx with e | e <;> simp at e
  · rcases comp_cell h S.eok hx with ⟨e1, l1⟩ | ⟨e1, m1, b1⟩ <;> rcases comp_cell h S.eok hy with ⟨e2, l2⟩ | ⟨e2, m2, b2⟩
    · exact S.eok.apart x y c hxy l1 l2
    · exact absurd (hlo x c l1) (Nat.not_lt.mpr b2)
    · exact absurd (hlo y c l2) (Nat.not_lt.mpr b1)
    · exact hxy (name_of_addr hap m1 m2)
  · rcases comp_cell h S.eok hx with ⟨_, l⟩ | ⟨_, _, b⟩
    · exact S.eok.cellsAbove x c l
    · exact Nat.le_trans hab (Nat.le_of_succ_le b)
  · obtain ⟨hm, hf⟩ := free _ hx
    obtain ⟨v, sv, r⟩ := S.slots x i d hm hg
    exact ⟨v, fw x v hf sv, r⟩
  · exact S.own x y i j a (free _ hx).1 (free _ hy).1 hn h1 h2 (bw x _ (free _ hx).2 sx) (bw y _ (free _ hy).2 sy)

theorem wpAny_compEnv {Q : Env → Shared → Prop} (h : Q { scope := scope, locals := s.heap.objs.size, globals := env.globals, cells := cellsFrom (s.heap.objs.size + 1) scope.names (closed env scope.names []), qual := env.qual, func := none, code := env.code, frame := env.frame, builtins := env.builtins }
      { s with heap := pushCells (s.heap.push { cls := .type "dict", data := .dict #[] }) scope.names }) :
    wpAny (model G.prog G.w) A (newFunctionEnv scope env.globals (closed env scope.names []) [] env.qual none .none (some env)) Q NoE s := by
  simp only [newFunctionEnv, Option.isSome_some, if_true]
  refine wpAny_bind (wpAny_alloc ?_)
  refine wpAny_bind (wpAny_layCells _ (fun name kind cells => by cases hkc : kind == NameKind.cell <;> simp [hkc]) _ _ _ _ ?_)
  rw [show ({ s with heap := s.heap.push { cls := .type "dict", data := .dict #[] } } : Shared).heap.objs.size = s.heap.objs.size + 1 from Heap.size_push ..]
  exact wpAny_pure h
end
end Mine
end

section
namespace Mine
open PySem PySem.Calls PyProof.Rows

theorem old_ne {h : Heap} {a b : Addr} {o : Obj} (x : h.get? a = some o) (y : h.get? b = none) : a ≠ b := by rintro rfl; rw [y] at x; cases x
theorem fresh_of_le {h : Heap} {a : Addr} (x : h.objs.size ≤ a) : h.get? a = none := by
  cases e : h.get? a with
  | none => rfl
  | some o => exact absurd (Heap.lt_size e) (Nat.not_lt.mpr x)

section
variable {G : Gd} {lvl : Nat} {scope sc : Scope} {T T₀ T₁ : List (Str × Nat)} {ms : List Nat} {A : Around} {env : Env} {M : List Addr} {s : Shared} {ρ : Rho} {C : Addr}

theorem touches_comp (ok : compOk scope sc = true) (E : EnvOk G sc env) {xs : List (Str × Nat)} (hx : ownOk scope xs = true) {a : Addr} (ha : a ∈ touches (compE scope sc env C) xs) :
    a = C ∨ (C + 1 ≤ a ∧ ∃ x, (x, NameKind.cell) ∈ scope.names ∧ (compE scope sc env C).cells.lookup x = some a) := by
  rcases List.mem_cons.mp ha with e | ha
  · exact .inl e
  · rw [List.mem_filterMap] at ha
    obtain ⟨p, hp, e⟩ := ha
    have := List.all_eq_true.mp hx p hp
    rcases comp_cell ok E e with ⟨q, _⟩ | ⟨q, _, b⟩
    · rw [q] at this; simp at this
    · exact .inr ⟨b, p.1, mem_of_lookup q, e⟩

theorem comp_core {use : Option (Value → Sem Unit)} {Q : Value → Shared → Prop} {pure : Bool} {elt target iter : Expr} {ifs : List Expr} {rest : List Comprehension} {pos pos' : Pos} {ds out : List V}
    {body : Value → Env → Sem Unit} {xs ys : List (Str × Nat)} {bnd : Rho → V → Option Rho} {Fi : Rho → Option (List V)} {Ft : Rho → Option Bool} {Fb : Rho → Option (List V)}
    (heq : ∀ it acc env, compTurn (.ListComp elt (⟨target, iter, ifs, 0⟩ :: rest) scope pos) 0 it acc env = (do
      standAt iter.pos
      match ← pyNext it with
      | none => Pure.pure (.done .next)
      | some v =>
        letOwnedTupleGo target it v
        assign target env v
        let mut ok := true
        for c in ifs do
          if ok then ok ← isTrue c env (eval c env)
        if ok then body acc env
        again (.compLoop (.ListComp elt (⟨target, iter, ifs, 0⟩ :: rest) scope pos) 0 it acc env)))
    (hs : ∀ env x, foldedSetIterable iter env x = Pure.pure x)
    (ok : compOk scope sc = true) (hT₀ : innerOk scope T T₀ = true) (hx : ownOk scope (xs ++ ys) = true)
    (hI : DenI G lvl sc T ms pure iter Fi) (hT : DenT G lvl (relab scope sc) T₀ T₁ ms target xs bnd) (hC : DenC G lvl (relab scope sc) T₁ ms ifs Ft) (hB : DenE G lvl (relab scope sc) T₁ ms body ys Fb)
    (S : St G lvl sc T ms A env M s ρ) (hds : Fi ρ = some ds) (hgo : compGo bnd Ft Fb ρ ds = some out) (hlen : out.length ≤ 10000)
    (hfin : ∀ C D s' m, s.heap.get? C = none → s.heap.get? D = none → C ≠ D → s'.heap.Ns C m → Ext s s' → Rep G.C s'.heap (C :: M) (.ref D) (.list out) → compPost (model G.prog G.w) A NoE use Q (.ref D) C (.ok .next) s') :
    wpAny (model G.prog G.w) A (comprehension (.ListComp elt (⟨target, iter, ifs, 0⟩ :: rest) scope pos) scope env pos' (newList []) false (eval iter env) use) Q NoE s := by
  refine wpAny_comprehension_free (g := ⟨target, iter, ifs, 0⟩) (gs := rest) rfl (fun x => hs env x) (closed_eq (comp_freeHas ok S.eok)) (compOk_kind ok) (fun x hx hl => hl ▸ compOk_names ok x hx)
    (wp_use (hI A env M s ρ ds S hds) fun x s₁ ⟨x₁, h₁⟩ => wp_use h₁ fun it s₂ ⟨I, fp, PP, J, H, e, hIn, x₂, src, _⟩ => ?_)
  subst e
  refine wpAny_newObj_type (hd := by size_fits) (wpAny_compEnv (G := G) (scope := scope) ?_)
  dsimp only
  rw [relabel_eq S.eok.scope]
  generalize hH3 : s₂.heap.push { cls := .type "list", dict := none, data := .seq ([] : List Value).toArray } = h₃
  have hC3 : h₃.objs.size = s₂.heap.objs.size + 1 := by rw [← hH3, Heap.size_push]
  generalize hC' : h₃.objs.size = C at hC3
  generalize hD' : s₂.heap.objs.size = D at hC3
  show codeAny _ _ (.compStart _ 0 (.ref I) (.ref D) (compE scope sc env C)) _ { s₂ with heap := pushCells (h₃.push { cls := .type "dict", data := .dict #[] }) scope.names }
  generalize hs4 : ({ s₂ with heap := pushCells (h₃.push { cls := .type "dict", data := .dict #[] }) scope.names } : Shared) = s₄
  have x₄ : Ext s₂ s₄ := by
    rw [← hs4]
    refine Ext.of_heap (tk := s₂.toks) fun b o e => pushCells_keeps _ _ _ _ (Heap.get?_push_of_some _ ?_)
    rw [← hH3]; exact Heap.get?_push_of_some _ e
  have hok : CellsOk s₄.heap (C + 1) (cellsFrom (C + 1) scope.names []) := by
    have := cellsFrom_ok scope.names (h₃.push { cls := .type "dict", data := .dict #[] }) (C + 1) [] ⟨fun _ _ hm => (nomatch hm), List.Pairwise.nil⟩ (by rw [Heap.size_push, hC']; exact Nat.le_refl _)
    rw [Heap.size_push, hC'] at this
    rw [← hs4]; exact this
  have nsC : s₄.heap.Ns C (fun _ => none) := by
    rw [← hs4, ← hC']; exact (Heap.Ns.new h₃ (.type "dict")).keeps (pushCells_keeps _ _)
  have hDl : s₄.heap.get? D = some (lst [] 0) := by
    rw [← hs4]
    refine pushCells_keeps _ _ _ _ (Heap.get?_push_of_some _ ?_)
    rw [← hH3, ← hD']; exact Heap.get?_push_size _ rfl
  have frD : s₂.heap.get? D = none := fresh_of_le (Nat.le_of_eq hD')
  have frC : s₂.heap.get? C = none := fresh_of_le (by rw [hD', hC3]; exact Nat.le_succ _)
  have frO : ∀ a, C + 1 ≤ a → s₂.heap.get? a = none := fun a ha => fresh_of_le (Nat.le_trans (by rw [hD', hC3]; exact Nat.le_succ _) (Nat.le_of_succ_le ha))
  have back : ∀ a, s₂.heap.get? a = none → s.heap.get? a = none := fun a ha => by
    cases e : s.heap.get? a with
    | none => rfl
    | some o => rw [x₂.keep _ _ e] at ha; cases ha
  have hDC : D ≠ C := by rw [hC3]; exact Nat.ne_of_lt (Nat.lt_succ_self _)
  obtain ⟨oI, nI, hoI, hcI, _⟩ := src.cls _ _ src.start
  have hID : D ≠ I := Ne.symm (old_ne hoI frD)
  have hIC : I ≠ C := old_ne hoI frC
  have hCO : ∀ x c, (compE scope sc env C).cells.lookup x = some c → (s.heap.get? c).isSome = true ∨ C + 1 ≤ c := fun x c hc => by
    rcases comp_cell ok S.eok hc with ⟨_, l⟩ | ⟨_, _, b⟩
    · obtain ⟨v, o, ho, _⟩ := (S.cellAt x c l).2; exact .inl (by rw [ho]; rfl)
    · exact .inr b
  -- the addresses that may change
  let own : List Addr := scope.names.filterMap fun p => if p.2 == .cell then (compE scope sc env C).cells.lookup p.1 else none
  have ownHas : ∀ a, a ∈ own ↔ ∃ x, (x, NameKind.cell) ∈ scope.names ∧ (compE scope sc env C).cells.lookup x = some a := fun a => by
    simp only [own, List.mem_filterMap]
    constructor
    · rintro ⟨⟨x, k⟩, hp, e⟩
      split at e
      · rename_i hk
        obtain rfl := beq_iff_eq.mp hk
        exact ⟨x, hp, e⟩
      · cases e
    · rintro ⟨x, hp, e⟩
      exact ⟨(x, .cell), hp, by simpa using e⟩
  have ownLe : ∀ a ∈ own, C + 1 ≤ a := fun a ha => by
    obtain ⟨x, hp, e⟩ := (ownHas a).mp ha
    rcases comp_cell ok S.eok e with ⟨q, _⟩ | ⟨_, _, b⟩
    · rw [compOk_names ok _ hp] at q; cases q
    · exact b
  let M' : List Addr := I :: D :: C :: (own ++ M)
  have inM : ∀ a ∈ M, a ∈ M' := fun a ha => .tail _ (.tail _ (.tail _ (List.mem_append.mpr (.inr ha))))
  have M'new : ∀ a ∈ M', a ∈ M ∨ s.heap.get? a = none := fun a ha => by
    rcases List.mem_cons.mp ha with rfl | ha
    · exact .inr hIn
    rcases List.mem_cons.mp ha with rfl | ha
    · exact .inr (back _ frD)
    rcases List.mem_cons.mp ha with rfl | ha
    · exact .inr (back _ frC)
    rcases List.mem_append.mp ha with ha | ha
    · exact .inr (back _ (frO a (ownLe a ha)))
    · exact .inl ha
  have tch : ∀ a ∈ touches (compE scope sc env C) (xs ++ ys), a = C ∨ (C + 1 ≤ a ∧ a ∈ own) := fun a ha => by
    rcases touches_comp ok S.eok hx ha with e | ⟨b, q⟩
    · exact .inl e
    · exact .inr ⟨b, (ownHas a).mpr q⟩
  have tchNew : ∀ a ∈ touches (compE scope sc env C) (xs ++ ys), s₂.heap.get? a = none := fun a ha => by
    rcases tch a ha with rfl | ⟨b, _⟩
    · exact frC
    · exact frO a b
  have hIt : I ∉ touches (compE scope sc env C) (xs ++ ys) := fun hm => old_ne hoI (tchNew I hm) rfl
  have hDt : D ∉ touches (compE scope sc env C) (xs ++ ys) := fun hm => by
    rcases tch D hm with e | ⟨b, _⟩
    · exact hDC e
    · rw [hC3] at b; exact absurd b (by intro b; exact absurd (Nat.lt_of_succ_lt (Nat.lt_of_succ_le b)) (Nat.lt_irrefl _))
  have xs₄ : Ext s s₄ := x₂.trans x₄
  let P : Shared → Prop := fun s' => Ext s s' ∧ (∃ m, s'.heap.Ns C m) ∧ (∀ x c, (compE scope sc env C).cells.lookup x = some c → ∃ v, s'.heap.IsCell c v) ∧ (∃ o, s'.heap.get? I = some o) ∧ (∃ o, s'.heap.get? D = some o)
  have hab : G.h₀.objs.size ≤ C := by
    obtain ⟨_, m, o, es, ep, ho, _⟩ := S.loc
    have := Heap.lt_size (x₂.keep _ _ ho)
    rw [hD'] at this
    rw [hC3]
    exact Nat.le_trans S.eok.above (Nat.le_of_lt (Nat.lt_succ_of_lt this))
  have hlo : ∀ x c, env.cells.lookup x = some c → c < C + 1 := fun x c hc => by
    obtain ⟨v, o, ho, _⟩ := (S.cellAt x c hc).2
    have := Heap.lt_size (x₂.keep _ _ ho)
    rw [hD'] at this
    rw [hC3]
    exact Nat.lt_succ_of_lt (Nat.lt_succ_of_lt this)
  have pst : ∀ s', P s' → St G lvl (relab scope sc) T₀ ms A (compE scope sc env C) M' s' ρ := fun s' ⟨x, hn, hc, hi, hd⟩ => by
    have live : Live s'.heap M' := fun a ha => by
      rcases List.mem_cons.mp ha with rfl | ha
      · exact hi
      rcases List.mem_cons.mp ha with rfl | ha
      · exact hd
      rcases List.mem_cons.mp ha with rfl | ha
      · obtain ⟨m, o, _, _, ho, _⟩ := hn; exact ⟨o, ho⟩
      rcases List.mem_append.mp ha with ha | ha
      · obtain ⟨x, _, e⟩ := (ownHas a).mp ha
        obtain ⟨v, o, ho, _⟩ := hc x a e; exact ⟨o, ho⟩
      · exact S.live.ext x a ha
    have S' := S.widen x inM M'new live
    refine S'.inner ok hT₀ ⟨.tail _ (.tail _ (.head _)), hn⟩ hab hlo hok.apart fun x c l => ⟨?_, hc x c l⟩
    rcases comp_cell ok S.eok l with ⟨_, l'⟩ | ⟨q, _, _⟩
    · exact inM _ (S.cellAt x c l').1
    · exact .tail _ (.tail _ (.tail _ (List.mem_append.mpr (.inl ((ownHas c).mpr ⟨x, mem_of_lookup q, l⟩)))))
  have cellNe : ∀ x c a, (compE scope sc env C).cells.lookup x = some c → s.heap.get? a = none → a < C + 1 → c ≠ a := fun x c a hc ha hlt => by
    rcases hCO x c hc with q | b
    · rintro rfl; rw [ha] at q; cases q
    · exact fun e => absurd hlt (Nat.not_lt.mpr (e ▸ b))
  have hIlt : I < C + 1 := by have := Heap.lt_size hoI; rw [hD'] at this; rw [hC3]; exact Nat.lt_succ_of_lt (Nat.lt_succ_of_lt this)
  have hDlt : D < C + 1 := by rw [hC3]; exact Nat.lt_succ_of_lt (Nat.lt_succ_self _)
  have offCell : ∀ {a s' s₁}, Off [a] s' s₁ → s.heap.get? a = none → a < C + 1 → (∀ x c, (compE scope sc env C).cells.lookup x = some c → ∃ v, s'.heap.IsCell c v) →
      ∀ x c, (compE scope sc env C).cells.lookup x = some c → ∃ v, s₁.heap.IsCell c v := fun o ha hlt h x c hc => by
    obtain ⟨v, ob, ho, hd⟩ := h x c hc
    exact ⟨v, ob, o.heap _ _ (fun hm => cellNe x c _ hc ha hlt (List.mem_singleton.mp hm)) ho, hd⟩
  have offNs : ∀ {a s' s₁}, Off [a] s' s₁ → a ≠ C → (∃ m, s'.heap.Ns C m) → ∃ m, s₁.heap.Ns C m := fun o ha ⟨m, n⟩ => ⟨m, n.at' fun ob e => o.heap _ _ (fun hm => ha (List.mem_singleton.mp hm).symm) e⟩
  have pnext : ∀ s' s₁, P s' → Off [I] s' s₁ → (∃ o n, s₁.heap.get? I = some o ∧ o.cls = .type n) → P s₁ := fun s' s₁ ⟨x, hn, hc, _, od, hd⟩ o ⟨oi, ni, hoi, _⟩ =>
    ⟨(Off.trans x.off o).fresh fun a ha => .inr ((List.mem_singleton.mp ha) ▸ hIn), offNs o hIC hn, offCell o hIn hIlt hc, ⟨oi, hoi⟩, ⟨od, o.heap _ _ (fun hm => hID (List.mem_singleton.mp hm)) hd⟩⟩
  have pback : ∀ s₁ s₄ s₅ ρ1 d, P s₁ → bnd ρ d = some ρ1 → St G lvl (relab scope sc) T₁ ms A (compE scope sc env C) M' s₄ ρ1 → Off (D :: touches (compE scope sc env C) (xs ++ ys)) s₁ s₄ →
      (∃ vs₁ k₁, s₄.heap.get? D = some (lst vs₁ k₁)) → Off [D] s₄ s₅ → (∃ o, s₅.heap.get? D = some o) → P s₅ := fun s₁ s₄ s₅ ρ1 d ⟨x, hn, hc, ⟨oi, hi⟩, hd⟩ _ S₄ o _ o' hd' => by
    refine ⟨((Off.trans x.off o).trans (o'.mono fun a ha => (List.mem_singleton.mp ha) ▸ .head _)).fresh fun a ha => ?_, offNs o' hDC S₄.loc.2, offCell o' (back _ frD) hDlt fun x c l => (S₄.cellAt x c l).2,
      ⟨oi, o'.heap _ _ (fun hm => hID (List.mem_singleton.mp hm).symm) (o.heap _ _ (fun hm => ?_) hi)⟩, hd'⟩
    · rcases List.mem_cons.mp ha with rfl | ha
      · exact .inr (back _ frD)
      · exact .inr (back _ (tchNew a ha))
    · rcases List.mem_cons.mp hm with e | hm
      · exact hID e.symm
      · exact hIt hm
  have start : P s₄ := by
    refine ⟨xs₄, ⟨_, nsC⟩, fun x c hc => ?_, ⟨oI, x₄.keep _ _ hoI⟩, ⟨_, hDl⟩⟩
    rcases comp_cell ok S.eok hc with ⟨_, l⟩ | ⟨_, m, _⟩
    · obtain ⟨v, q⟩ := (S.cellAt x c l).2; exact ⟨v, cell_keeps xs₄.keep q⟩
    · exact ⟨_, (hok.empty x c m).1⟩
  have fin : ∀ s' s'' vs' k', P s' → Off [I] s' s'' → s''.heap.get? D = some (lst vs' k') → RepAll G.C s''.heap M' vs' ([] ++ out) → Off (I :: D :: touches (compE scope sc env C) (xs ++ ys)) s₄ s'' →
      compPost (model G.prog G.w) A NoE use Q (.ref D) C (.ok .next) s'' := fun s' s'' vs' k' ⟨x, hn, _⟩ o hd hr _ => by
    obtain ⟨m, hn'⟩ := offNs o hIC hn
    refine hfin C D s'' m (back _ frC) (back _ frD) (Ne.symm hDC) hn' ((Off.trans x.off o).fresh fun a ha => .inr ((List.mem_singleton.mp ha) ▸ hIn)) (.list hd (fun hm => ?_) (RepAll.mono (fun b ob hb e => ⟨e, fun hm => hb ?_⟩) hr))
    · rcases List.mem_cons.mp hm with e | hm
      · exact hDC e
      · obtain ⟨o, ho⟩ := S.live D hm
        rw [back _ frD] at ho; cases ho
    · rcases List.mem_cons.mp hm with rfl | hm
      · exact .tail _ (.tail _ (.head _))
      · exact inM _ hm
  have loop : codeAny (model G.prog G.w) A (.compLoop (.ListComp elt (⟨target, iter, ifs, 0⟩ :: rest) scope pos) 0 (.ref I) (.ref D) (compE scope sc env C)) (compPost (model G.prog G.w) A NoE use Q (.ref D) C) s₄ := by
    refine comp_loop (P := P) (T₀ := T₀) (T₁ := T₁) (acc₀ := []) heq src (M := M') (.head _) (.tail _ (.head _)) hID (by cases e : G.h₀.get? D with | none => rfl | some o => (have := S.base _ _ e; rw [back _ frD] at this; cases this)) (fun b hb => ?_) hIt hDt pst pnext pback hT hC hB hgo (by simpa using hlen) start ?_ ?_ hDl .nil fin
    · rcases src.fpM b hb with e | ⟨o, ho⟩
      · exact .inl e
      · refine .inr fun hm => ?_
        rcases List.mem_cons.mp hm with e | hm
        · rw [e, frD] at ho; cases ho
        · rw [tchNew b hm] at ho; cases ho
    · exact src.walk.frame _ _ _ src.start fun b _ o e => x₄.keep _ _ e
    · refine src.stays _ _ _ _ src.have_ fun b o hb e => ⟨x₄.keep _ _ e, fun hm => ?_⟩
      rcases List.mem_cons.mp hm with rfl | hm
      · exact hb (.head _)
      rcases List.mem_cons.mp hm with rfl | hm
      · rw [frD] at e; cases e
      rcases List.mem_cons.mp hm with rfl | hm
      · rw [frC] at e; cases e
      rcases List.mem_append.mp hm with hm | hm
      · rw [frO _ (ownLe _ hm)] at e; cases e
      · exact hb (.tail _ hm)
  exact codeAny_compStart_list loop (src.walk.self 0 _ _ _ (src.walk.frame _ _ _ src.start fun b _ o e => x₄.keep _ _ e) loop)
end
end Mine
end

section
namespace Mine
open PySem PySem.Calls PyProof.Rows

noncomputable def compF (Fi : Rho → Option (List V)) (bnd : Rho → V → Option Rho) (Ft : Rho → Option Bool) (Fb : Rho → Option (List V)) (ρ : Rho) : Option V :=
  (Fi ρ).bind fun ds => (compGo bnd Ft Fb ρ ds).bind fun out => if out.length ≤ 10000 then some (.list out) else none
theorem compF_some {Fi : Rho → Option (List V)} {bnd : Rho → V → Option Rho} {Ft : Rho → Option Bool} {Fb : Rho → Option (List V)} {ρ : Rho} {d : V} (h : compF Fi bnd Ft Fb ρ = some d) :
    ∃ ds out, Fi ρ = some ds ∧ compGo bnd Ft Fb ρ ds = some out ∧ out.length ≤ 10000 ∧ d = .list out := by
  obtain ⟨ds, h1, h⟩ := Option.bind_eq_some_iff.mp h
  obtain ⟨out, h2, h⟩ := Option.bind_eq_some_iff.mp h
  split at h
  · rename_i hl; cases h; exact ⟨ds, out, h1, h2, hl, rfl⟩
  · cases h

section
variable {G : Gd} {lvl : Nat} {scope sc : Scope} {T T₀ T₁ T₂ : List (Str × Nat)} {ms : List Nat}

theorem comp_gen {pure : Bool} {elt target iter : Expr} {ifs : List Expr} {rest : List Comprehension} {pos : Pos} {body : Value → Env → Sem Unit} {xs ys : List (Str × Nat)} {bnd : Rho → V → Option Rho} {Fi : Rho → Option (List V)} {Ft : Rho → Option Bool} {Fb : Rho → Option (List V)}
    (heq : ∀ it acc env, compTurn (.ListComp elt (⟨target, iter, ifs, 0⟩ :: rest) scope pos) 0 it acc env = (do
      standAt iter.pos
      match ← pyNext it with
      | none => Pure.pure (.done .next)
      | some v =>
        letOwnedTupleGo target it v
        assign target env v
        let mut ok := true
        for c in ifs do
          if ok then ok ← isTrue c env (eval c env)
        if ok then body acc env
        again (.compLoop (.ListComp elt (⟨target, iter, ifs, 0⟩ :: rest) scope pos) 0 it acc env)))
    (hs : ∀ env x, foldedSetIterable iter env x = Pure.pure x)
    (ok : compOk scope sc = true) (hT₀ : innerOk scope T T₀ = true) (hx : ownOk scope (xs ++ ys) = true)
    (hI : DenI G lvl sc T ms pure iter Fi) (hT : DenT G lvl (relab scope sc) T₀ T₁ ms target xs bnd) (hC : DenC G lvl (relab scope sc) T₁ ms ifs Ft) (hB : DenE G lvl (relab scope sc) T₁ ms body ys Fb) :
    DenP G lvl sc T ms (.ListComp elt (⟨target, iter, ifs, 0⟩ :: rest) scope pos) (compF Fi bnd Ft Fb) := fun A env M s ρ d S q => by
  obtain ⟨ds, out, hds, hgo, hl, rfl⟩ := compF_some q
  rw [eval_ListComp]
  refine comp_core (use := none) heq hs ok hT₀ hx hI hT hC hB S hds hgo hl fun C D s' m hC' hD' hCD hn x r => ⟨m, hn, fun h' hsb => ?_⟩
  have o : Off [C] s' { s' with heap := h' } := Off.of_heap (tk := s'.toks) fun b ob hb e => hsb.extBut b ob (fun q => hb (q ▸ List.mem_singleton.mpr rfl)) e
  exact ⟨(Off.trans x.off o).fresh fun a ha => .inr ((List.mem_singleton.mp ha) ▸ hC'), (Rep.off r o fun a ha => (List.mem_singleton.mp ha) ▸ .head _).mono fun b ob hb e => ⟨e, fun hm => hb (.tail _ hm)⟩⟩

theorem DenP.comp {pure : Bool} {elt target iter : Expr} {ifs : List Expr} {pos : Pos} {xs : List (Str × Nat)} {bnd : Rho → V → Option Rho} {Fi : Rho → Option (List V)} {Ft : Rho → Option Bool} {Fe : Rho → Option V} (T₀ T₁ : List (Str × Nat))
    (hs : ∀ env x, foldedSetIterable iter env x = Pure.pure x)
    (ok : compOk scope sc = true) (hT₀ : innerOk scope T T₀ = true) (hx : ownOk scope (xs ++ []) = true)
    (hI : DenI G lvl sc T ms pure iter Fi) (hT : DenT G lvl (relab scope sc) T₀ T₁ ms target xs bnd) (hC : DenC G lvl (relab scope sc) T₁ ms ifs Ft) (hE : DenP G lvl (relab scope sc) T₁ ms elt Fe) :
    DenP G lvl sc T ms (.ListComp elt [⟨target, iter, ifs, 0⟩] scope pos) (compF Fi bnd Ft fun ρ => (Fe ρ).map ([·])) :=
  comp_gen (body := emitList elt) (fun _ _ _ => rfl) hs ok hT₀ hx hI hT hC (DenE.emit hE)

theorem St.offs {A : Around} {env : Env} {M : List Addr} {s s' : Shared} {ρ : Rho} {a : Addr} (S : St G lvl sc T [] A env M s ρ) (o : Off [a] s s') (hL : a ≠ env.locals) (hc : ∀ x c, env.cells.lookup x = some c → c ≠ a) (haM : a ∈ M)
    (hl : ∃ o, s'.heap.get? a = some o) (hb : G.h₀.get? a = none) : St G lvl sc T [] A env M s' ρ := by
  have k : ∀ b ob, b ≠ a → s.heap.get? b = some ob → s'.heap.get? b = some ob := fun b ob hb e => o.heap b ob (fun hm => hb (List.mem_singleton.mp hm)) e
  have sub : ∀ b ∈ [a], b ∈ M := fun b hb => (List.mem_singleton.mp hb) ▸ haM
  have cf : ∀ x c v, env.cells.lookup x = some c → s.heap.IsCell c v → s'.heap.IsCell c v := fun x c v l ⟨ob, ho, hd⟩ => ⟨ob, k c ob (hc x c l) ho, hd⟩
  refine ⟨S.fit, S.eok, fun b ob e => k b ob (fun q => by rw [q, hb] at e; cases e) (S.base b ob e), S.live.off o fun b hb _ => (List.mem_singleton.mp hb) ▸ hl,
    ⟨S.loc.1, let ⟨m, n⟩ := S.loc.2; ⟨m, n.at' fun ob e => k _ ob (Ne.symm hL) e⟩⟩, fun x c l => ⟨(S.cellAt x c l).1, let ⟨v, q⟩ := (S.cellAt x c l).2; ⟨v, cf x c v l q⟩⟩, fun x i d hx hg => ?_, fun _ _ _ _ _ _ _ _ h1 => by cases h1⟩
  obtain ⟨v, sv, r⟩ := S.slots x i d hx hg
  refine ⟨v, ?_, ?_⟩
  · rcases sv with ⟨kk, m, n, e⟩ | ⟨kk, c, l, e⟩
    · exact .inl ⟨kk, m, n.at' fun ob e => k _ ob (Ne.symm hL) e, e⟩
    · exact .inr ⟨kk, c, l, cf x c _ l e⟩
  · exact Rep.off r o sub

theorem St.narrow {A : Around} {env : Env} {M : List Addr} {s s' s₀ : Shared} {ρ ρ₀ : Rho} {a : Addr} {T' : List (Str × Nat)} (S₀ : St G lvl sc T' [] A env M s₀ ρ₀) (S : St G lvl sc T [] A env (a :: M) s ρ) (o : Off [a] s s') (ha : s₀.heap.get? a = none) :
    St G lvl sc T [] A env M s' ρ := by
  have ne : ∀ b ob, s₀.heap.get? b = some ob → b ≠ a := fun b ob e => by rintro rfl; rw [ha] at e; cases e
  have hL : env.locals ≠ a := by obtain ⟨_, m, ob, _, _, ho, _⟩ := S₀.loc; exact ne _ _ ho
  have k : ∀ b ob, b ≠ a → s.heap.get? b = some ob → s'.heap.get? b = some ob := fun b ob hb e => o.heap b ob (fun hm => hb (List.mem_singleton.mp hm)) e
  have hc : ∀ x c, env.cells.lookup x = some c → c ≠ a := fun x c l => by obtain ⟨v, ob, ho, _⟩ := (S₀.cellAt x c l).2; exact ne _ _ ho
  have cf : ∀ x c v, env.cells.lookup x = some c → s.heap.IsCell c v → s'.heap.IsCell c v := fun x c v l ⟨ob, ho, hd⟩ => ⟨ob, k c ob (hc x c l) ho, hd⟩
  refine ⟨S.fit, S.eok, fun b ob e => k b ob (ne b _ (S₀.base b ob e)) (S.base b ob e), fun b hb => ?_,
    ⟨S₀.loc.1, let ⟨m, n⟩ := S.loc.2; ⟨m, n.at' fun ob e => k _ ob hL e⟩⟩, fun x c l => ⟨(S₀.cellAt x c l).1, let ⟨v, q⟩ := (S.cellAt x c l).2; ⟨v, cf x c v l q⟩⟩, fun x i d hx hg => ?_, fun _ _ _ _ _ _ _ _ h1 => by cases h1⟩
  · obtain ⟨ob, hob⟩ := S.live b (.tail _ hb)
    obtain ⟨ob', hob'⟩ := S₀.live b hb
    exact ⟨ob, k b ob (ne b _ hob') hob⟩
  obtain ⟨v, sv, r⟩ := S.slots x i d hx hg
  refine ⟨v, ?_, ?_⟩
  · rcases sv with ⟨kk, m, n, e⟩ | ⟨kk, c, l, e⟩
    · exact .inl ⟨kk, m, n.at' fun ob e => k _ ob hL e, e⟩
    · exact .inr ⟨kk, c, l, cf x c _ l e⟩
  · exact Rep.mono (fun b ob hb e => ⟨k b ob (fun q => hb (q ▸ .head _)) e, fun hm => hb (.tail _ hm)⟩) r

noncomputable def nestBody (elt : Expr) (g0 : Comprehension) (target' iter' : Expr) (ifs' : List Expr) (scope : Scope) (pos : Pos) (acc : Value) (env : Env) : Sem Unit := do
  let x ← eval iter' env
  standAt iter'.pos
  let x ← foldedSetIterable iter' env x
  let _ ← runOwn (.compStart (.ListComp elt [g0, ⟨target', iter', ifs', 0⟩] scope pos) 1 (← holding [x] (pyIter x)) acc env) env

theorem codeAny_compStart_one {prog : Program} {w : World} {A : Around} {R : Result → Shared → Prop} {s : Shared} {elt target iter ifs g0 scope pos it acc env}
    (h0 : codeAny (model prog w) A (.compLoop (.ListComp elt [g0, ⟨target, iter, ifs, 0⟩] scope pos) 1 it acc env) R s)
    (h : wpAny (model prog w) A (pyIter it) (fun it' s' => codeAny (model prog w) A (.compLoop (.ListComp elt [g0, ⟨target, iter, ifs, 0⟩] scope pos) 1 it' acc env) R s')
      (notedBy (model prog w) A env fun x s' => R (.error x) s') s) :
    codeAny (model prog w) A (.compStart (.ListComp elt [g0, ⟨target, iter, ifs, 0⟩] scope pos) 1 it acc env) R s := by
  refine codeAny_of_tree ?_
  show wpAny _ _ ((compStart (.ListComp elt [g0, ⟨target, iter, ifs, 0⟩] scope pos) 1 it acc env).onRaise (fun x => do noteFrame x env; standAt theWindowsPlace)) _ _ s
  refine wpAny_notedAt ?_
  unfold compStart
  show wpAny _ _ (ask >>= _) _ _ s
  refine wpAny_bind (wpAny_askSetting (wpAny_ite ?_))
  split
  · first
      | exact wpAny_bind (wpAny_pure (wpAny_pure (And.intro rfl h0)))
      | exact wpAny_pure (And.intro rfl h0)
  · first
      | exact wpAny_bind (wpAny_rule (wpAny_bind (wpAny_standAt (wpAny_bind (wpAny_mono h (fun it' s' h' => wpAny_pure (And.intro rfl h')) fun _ _ x => x)))))
      | (refine wpAny_bind (wpAny_rule ?_); show wpAny _ _ (standAt iter.pos >>= _) _ _ s; exact wpAny_bind (wpAny_standAt (wpAny_bind (wpAny_mono h (fun it' s' h' => wpAny_pure (And.intro rfl h')) fun _ _ x => x))))

theorem DenE.nest {elt target' iter' : Expr} {g0 : Comprehension} {ifs' : List Expr} {pos : Pos} {ys : List (Str × Nat)} {bnd' : Rho → V → Option Rho} {Fi' : Rho → Option (List V)} {Ft' : Rho → Option Bool} {Fe : Rho → Option V}
    (heq : ∀ it acc env, compTurn (.ListComp elt [g0, ⟨target', iter', ifs', 0⟩] scope pos) 1 it acc env = (do
      standAt iter'.pos
      match ← pyNext it with
      | none => Pure.pure (.done .next)
      | some v =>
        letOwnedTupleGo target' it v
        assign target' env v
        let mut ok := true
        for c in ifs' do
          if ok then ok ← isTrue c env (eval c env)
        if ok then emitList elt acc env
        again (.compLoop (.ListComp elt [g0, ⟨target', iter', ifs', 0⟩] scope pos) 1 it acc env)))
    (hs : ∀ env x, foldedSetIterable iter' env x = Pure.pure x)
    (hI : DenI G lvl sc T₁ [] true iter' Fi') (hT : DenT G lvl sc T₁ T₂ [] target' ys bnd') (hC : DenC G lvl sc T₂ [] ifs' Ft') (hE : DenP G lvl sc T₂ [] elt Fe)
    (hk : ∀ ρ d ρ1, bnd' ρ d = some ρ1 → ∀ y j, (y, j) ∈ T₁ → (y, j) ∈ T₂ ∧ get ρ j = get ρ1 j) :
    DenE G lvl sc T₁ [] (nestBody elt g0 target' iter' ifs' scope pos) ys fun ρ => (Fi' ρ).bind (compGo bnd' Ft' (fun ρ => (Fe ρ).map ([·])) ρ) := fun A env M s ρ D vs k acc xs S hD hnt hbD hg hr hn q => by
  obtain ⟨ds, hds, hgo⟩ := Option.bind_eq_some_iff.mp q
  unfold nestBody
  refine wpAny_bind (wp_use (hI A env M s ρ ds S hds) fun x s₁ ⟨x₁, h₁⟩ => wpAny_bind (wpAny_standAt (wpAny_bind (wpAny_of_eq (hs env x) (wpAny_bind (wpAny_holding (wp_use h₁ fun it s₂ ⟨I, fp, PP, J, H, e, hIn, x₂, src, hfp⟩ => ?_)))))))
  subst e
  refine wpAny_bind (wpAny_runOwn (code_use (P := fun r s' => ∃ s₁ vs' k', r = .ok .next ∧ St G lvl sc T₁ [] A env M s₁ ρ ∧ Off (D :: touches env ys) s s₁ ∧ (∃ vs₁ k₁, s₁.heap.get? D = some (lst vs₁ k₁)) ∧ Off [D] s₁ s' ∧
      s'.heap.get? D = some (lst vs' k') ∧ RepAll G.C s'.heap M vs' (acc ++ xs)) ?_ ?_))
  rotate_left
  · rintro r s' ⟨s₁, vs', k', rfl, h⟩
    exact wpAny_pure ⟨s₁, vs', k', h⟩
  obtain ⟨oI, nI, hoI, hcI, _⟩ := src.cls _ _ src.start
  have hID : D ≠ I := old_ne hg hIn
  have ne : ∀ b ob, s.heap.get? b = some ob → b ≠ I := fun b ob e => old_ne e hIn
  have hLI : env.locals ≠ I := by obtain ⟨_, m, ob, _, _, ho, _⟩ := S.loc; exact ne _ _ ho
  have hcI' : ∀ x c, env.cells.lookup x = some c → c ≠ I := fun x c l => by obtain ⟨v, ob, ho, _⟩ := (S.cellAt x c l).2; exact ne _ _ ho
  have hbI : G.h₀.get? I = none := by
    cases e : G.h₀.get? I with
    | none => rfl
    | some o => exact absurd rfl (ne _ _ (S.base _ _ e))
  have new : ∀ a ∈ I :: M, a ∈ M ∨ s.heap.get? a = none := fun a ha => (List.mem_cons.mp ha).elim (fun e => .inr (e ▸ hIn)) .inl
  have S₂ : St G lvl sc T₁ [] A env (I :: M) s₂ ρ := S.widen x₂ (fun a ha => .tail _ ha) new fun a ha => (List.mem_cons.mp ha).elim (fun e => e ▸ ⟨oI, hoI⟩) fun h => S.live.ext x₂ a h
  have tIn : ∀ a ∈ touches env (ys ++ []), a ∈ M := fun a ha => S.touches a ha
  have loop : codeAny (model G.prog G.w) A (.compLoop (.ListComp elt [g0, ⟨target', iter', ifs', 0⟩] scope pos) 1 (.ref I) (.ref D) env) (fun r s' => ∃ s₁ vs' k', r = .ok .next ∧ St G lvl sc T₁ [] A env M s₁ ρ ∧ Off (D :: touches env ys) s s₁ ∧ (∃ vs₁ k₁, s₁.heap.get? D = some (lst vs₁ k₁)) ∧ Off [D] s₁ s' ∧
      s'.heap.get? D = some (lst vs' k') ∧ RepAll G.C s'.heap M vs' (acc ++ xs)) s₂ := by
    refine comp_loop (P := fun s' => St G lvl sc T₁ [] A env (I :: M) s' ρ) (T₀ := T₁) (T₁ := T₂) (xs := ys) (ys := []) (acc₀ := acc) heq src (M := I :: M) (.head _) (.tail _ hD) hID hbD (fun b hb => ?_) (fun hm => ?_) (by simpa using hnt) (fun _ h => h)
      (fun s' s₁ S' o ⟨oi, _, hi, _⟩ => S'.offs o (Ne.symm hLI) hcI' (.head _) ⟨oi, hi⟩ hbI) (fun s₁ s₄ s₅ ρ1 d _ hb S₄ _ ⟨vs₁, k₁, hl⟩ o hd => ?_) hT hC (DenE.emit hE) hgo hn S₂ src.start src.have_ (x₂.keep _ _ hg)
      ((hr.more new).ext x₂) fun s' s'' vs' k' S' o hd hr' o₂ => ⟨s'', vs', k', rfl, S.narrow S' o hIn, ?_, ⟨vs', k', hd⟩, Off.refl _ _, hd, hr'.mono fun b ob hb e => ⟨e, fun hm => hb (.tail _ hm)⟩⟩
    · rcases hfp rfl b hb with e | hbM
      · exact .inl e
      · refine .inr fun hm => hbM ?_
        rcases List.mem_cons.mp hm with rfl | hm
        · exact hD
        · exact tIn _ hm
    · obtain ⟨o, ho⟩ := S.live I (tIn I hm)
      rw [hIn] at ho; cases ho
    · have hDL : D ≠ env.locals := by obtain ⟨m, n⟩ := S₄.loc.2; exact ns_list_ne n hl
      exact (S₄.offs o hDL (fun x c l => by obtain ⟨v, q⟩ := (S₄.cellAt x c l).2; exact Ne.symm (cell_list_ne q hl)) (.tail _ hD) hd hbD).sub fun y j hm => hk ρ d ρ1 hb y j hm
    · refine (x₂.off.trans o₂).fresh fun a ha => ?_
      rcases List.mem_cons.mp ha with rfl | ha
      · exact .inr hIn
      · exact .inl (by simpa using ha)
  exact codeAny_compStart_one loop (src.walk.self 0 _ _ _ src.start loop)

theorem compTurn_nest (elt target iter target' iter' : Expr) (scope : Scope) (pos : Pos) (it acc : Value) (env : Env) :
    compTurn (.ListComp elt [⟨target, iter, [], 0⟩, ⟨target', iter', [], 0⟩] scope pos) 0 it acc env = (do
      standAt iter.pos
      match ← pyNext it with
      | none => Pure.pure (.done .next)
      | some v =>
        letOwnedTupleGo target it v
        assign target env v
        let mut ok := true
        for c in ([] : List Expr) do
          if ok then ok ← isTrue c env (eval c env)
        if ok then nestBody elt ⟨target, iter, [], 0⟩ target' iter' [] scope pos acc env
        again (.compLoop (.ListComp elt [⟨target, iter, [], 0⟩, ⟨target', iter', [], 0⟩] scope pos) 0 it acc env)) := by
  unfold nestBody
  simp only [bind_assoc]
  rfl

theorem DenP.comp2 {pure : Bool} {elt target iter target' iter' : Expr} {pos : Pos} {xs ys : List (Str × Nat)} {bnd bnd' : Rho → V → Option Rho} {Fi Fi' : Rho → Option (List V)} {Fe : Rho → Option V} (T₀ T₁ T₂ : List (Str × Nat))
    (hs : ∀ env x, foldedSetIterable iter env x = Pure.pure x) (hs' : ∀ env x, foldedSetIterable iter' env x = Pure.pure x)
    (ok : compOk scope sc = true) (hT₀ : innerOk scope T T₀ = true) (hx : ownOk scope (xs ++ ys) = true)
    (hI : DenI G lvl sc T [] pure iter Fi) (hT : DenT G lvl (relab scope sc) T₀ T₁ [] target xs bnd)
    (hI' : DenI G lvl (relab scope sc) T₁ [] true iter' Fi') (hT' : DenT G lvl (relab scope sc) T₁ T₂ [] target' ys bnd') (hE : DenP G lvl (relab scope sc) T₂ [] elt Fe)
    (hk : ∀ ρ d ρ1, bnd' ρ d = some ρ1 → ∀ y j, (y, j) ∈ T₁ → (y, j) ∈ T₂ ∧ get ρ j = get ρ1 j) :
    DenP G lvl sc T [] (.ListComp elt [⟨target, iter, [], 0⟩, ⟨target', iter', [], 0⟩] scope pos) (compF Fi bnd (fun _ => some true) fun ρ => (Fi' ρ).bind (compGo bnd' (fun _ => some true) (fun ρ => (Fe ρ).map ([·])) ρ)) :=
  comp_gen (body := nestBody elt ⟨target, iter, [], 0⟩ target' iter' [] scope pos) (compTurn_nest elt target iter target' iter' scope pos) hs ok hT₀ hx hI hT .nil (DenE.nest (fun _ _ _ => rfl) hs' hI' hT' .nil hE hk)
end
end Mine
end

section
namespace Mine
open PySem PySem.Calls PyProof.Rows

structure StW (G : Gd) (lvl : Nat) (sc : Scope) (T : List (Str × Nat)) (ms : List Nat) (A : Around) (env : Env) (W M₀ : List Addr) (s : Shared) (ρ : Rho) : Prop where
  st : St G lvl sc T ms A env (W ++ M₀) s ρ
  frame : env.locals ∈ W
  cells : ∀ x c, env.cells.lookup x = some c → c ∈ W
  lists : ∀ x i a, (x, i) ∈ T → ms.contains i = true → SlotVal s.heap env x (.ref a) → a ∈ W ∧ a ∉ M₀
  above : ∀ a ∈ W, G.h₀.get? a = none

inductive Res where
  | next (ρ : Rho)
  | ret (d : V)

noncomputable def After (G : Gd) (lvl : Nat) (sc : Scope) (T : List (Str × Nat)) (ms : List Nat) (A : Around) (env : Env) (W M₀ : List Addr) (s : Shared) (r : Res) (fl : Flow) (s' : Shared) : Prop :=
  ∃ W', (∀ a ∈ W', a ∈ W ∨ s.heap.get? a = none) ∧ Off W s s' ∧ match r with
    | .next ρ' => fl = .next ∧ StW G lvl sc T ms A env W' M₀ s' ρ'
    | .ret d => ∃ v, fl = .ret v ∧ Rep G.C s'.heap M₀ v d ∧ Live s'.heap M₀
/-- a statement -/
noncomputable def DenX (G : Gd) (lvl : Nat) (sc : Scope) (T T' : List (Str × Nat)) (ms : List Nat) (st : Stmt) (F : Rho → Option Res) : Prop :=
  ∀ A env W M₀ s ρ r, StW G lvl sc T ms A env W M₀ s ρ → F ρ = some r → wpAny (model G.prog G.w) A (exec st env) (After G lvl sc T' ms A env W M₀ s r) NoE s
noncomputable def DenS (G : Gd) (lvl : Nat) (sc : Scope) (T T' : List (Str × Nat)) (ms : List Nat) (ss : List Stmt) (F : Rho → Option Res) : Prop :=
  ∀ A env W M₀ s ρ r, StW G lvl sc T ms A env W M₀ s ρ → F ρ = some r → wpAny (model G.prog G.w) A (execs ss env) (After G lvl sc T' ms A env W M₀ s r) NoE s

noncomputable def andThen (F K : Rho → Option Res) (ρ : Rho) : Option Res := (F ρ).bind fun r => match r with
  | .next ρ1 => K ρ1
  | .ret d => some (.ret d)

section
variable {G : Gd} {lvl : Nat} {sc : Scope} {T T' T2 : List (Str × Nat)} {ms : List Nat} {A : Around} {env : Env} {W W' M₀ : List Addr} {s s' s'' : Shared} {ρ : Rho}

theorem After.trans {r : Res} {fl : Flow} (hw : ∀ a ∈ W', a ∈ W ∨ s.heap.get? a = none) (o : Off W s s') (h : After G lvl sc T ms A env W' M₀ s' r fl s'') : After G lvl sc T ms A env W M₀ s r fl s'' := by
  obtain ⟨W2, h2, o2, h⟩ := h
  have keepNone : ∀ a, s'.heap.get? a = none → a ∈ W ∨ s.heap.get? a = none := fun a ha => by
    by_cases hm : a ∈ W
    · exact .inl hm
    · cases e : s.heap.get? a with
      | none => exact .inr rfl
      | some ob => rw [o.heap a ob hm e] at ha; cases ha
  exact ⟨W2, fun a ha => (h2 a ha).elim (hw a) (keepNone a), ⟨fun b ob hb e => o2.heap b ob (fun hm => (hw b hm).elim hb (fun q => by rw [q] at e; cases e)) (o.heap b ob hb e), fun i x e => o2.gens i x (o.gens i x e), fun e => o2.bare (o.bare e), o2.os.trans o.os⟩, h⟩

theorem DenS.nil : DenS G lvl sc T T ms [] fun ρ => some (.next ρ) := fun A env W M₀ s ρ r S q => by
  cases q; exact wpAny_execs_nil ⟨W, fun _ h => .inl h, Off.refl _ s, rfl, S⟩
theorem DenS.cons {st : Stmt} {ss : List Stmt} {F K : Rho → Option Res} (h : DenX G lvl sc T T' ms st F) (hs : DenS G lvl sc T' T2 ms ss K) : DenS G lvl sc T T2 ms (st :: ss) (andThen F K) := fun A env W M₀ s ρ r S q => by
  obtain ⟨r₁, h₁, q⟩ := Option.bind_eq_some_iff.mp q
  refine wpAny_execs_cons (wp_use (h A env W M₀ s ρ r₁ S h₁) fun fl s₁ hA => ?_)
  cases r₁ with
  | next ρ1 =>
    obtain ⟨W', hw, o, rfl, S'⟩ := hA
    exact wp_use (hs A env W' M₀ s₁ ρ1 r S' q) fun fl s₂ h2 => h2.trans hw o
  | ret d =>
    cases q
    obtain ⟨W', hw, o, v, rfl, h⟩ := hA
    exact ⟨W', hw, o, v, rfl, h⟩

theorem StW.ext (S : StW G lvl sc T ms A env W M₀ s ρ) (x : Ext s s') : StW G lvl sc T ms A env W M₀ s' ρ := ⟨S.st.ext x, S.frame, S.cells, fun y i a hy hm sv => S.lists y i a hy hm (S.st.valBack x sv), S.above⟩
theorem StW.live (S : StW G lvl sc T ms A env W M₀ s ρ) : Live s.heap M₀ := fun a ha => S.st.live a (List.mem_append.mpr (.inr ha))
theorem StW.touches (S : StW G lvl sc T ms A env W M₀ s ρ) {xs : List (Str × Nat)} : ∀ a ∈ touches env xs, a ∈ W := fun a ha => by
  rcases List.mem_cons.mp ha with rfl | ha
  · exact S.frame
  · rw [List.mem_filterMap] at ha
    obtain ⟨q, hq, e⟩ := ha
    exact S.cells q.1 a e

theorem DenS.ret {e : Expr} {pos : Pos} {F : Rho → Option V} (h : DenP G lvl sc T ms e F) : DenX G lvl sc T T' ms (.Return (some e) pos) fun ρ => (F ρ).map .ret := fun A env W M₀ s ρ r S q => by
  obtain ⟨d, hd, rfl⟩ := Option.map_eq_some_iff.mp q
  exact wpAny_Return_some (wp_use (h A env _ s ρ d S.st hd) fun v s₁ ⟨x, r⟩ => ⟨W, fun _ h => .inl h, x.off, v, rfl, r.mono fun b o hb e => ⟨e, fun hm => hb (List.mem_append.mpr (.inr hm))⟩, S.live.ext x⟩)

theorem DenX.ite {test : Expr} {b1 b2 : List Stmt} {pos : Pos} {Ft : Rho → Option Bool} {F1 F2 : Rho → Option Res} (h : DenB G lvl sc T ms test Ft) (h1 : DenS G lvl sc T T' ms b1 F1) (h2 : DenS G lvl sc T T' ms b2 F2) :
    DenX G lvl sc T T' ms (.If test b1 b2 pos) fun ρ => (Ft ρ).bind fun b => if b then F1 ρ else F2 ρ := fun A env W M₀ s ρ r S q => by
  obtain ⟨b, hb, q⟩ := Option.bind_eq_some_iff.mp q
  refine wpAny_If (wp_use (h A env _ s ρ b S.st hb) fun b' s₁ ⟨x, e⟩ => ?_)
  subst e
  cases b' with
  | true => exact wp_use (h1 A env W M₀ s₁ ρ r (S.ext x) q) fun fl s₂ hA => hA.trans (fun _ h => .inl h) x.off
  | false => exact wp_use (h2 A env W M₀ s₁ ρ r (S.ext x) q) fun fl s₂ hA => hA.trans (fun _ h => .inl h) x.off
end
end Mine
end

section
namespace Mine
open PySem PySem.Calls PyProof.Rows

noncomputable def keepOk (T T' : List (Str × Nat)) (ms : List Nat) (xs : List (Str × Nat)) : Bool := T'.all fun p => (xs.contains p && !ms.contains p.2) || (T.contains p && xs.all fun q => q.1 != p.1)

section
variable {G : Gd} {lvl : Nat} {sc : Scope} {T T' T1 T2 : List (Str × Nat)} {ms : List Nat} {A : Around} {env : Env} {W W' M M₀ : List Addr} {s s' s'' : Shared} {ρ ρ' : Rho}

theorem keepOk_own {xs : List (Str × Nat)} (h : keepOk T T' ms xs = true) {x : Str} {i : Nat} (hx : (x, i) ∈ T') (hi : ms.contains i = true) : (x, i) ∈ T ∧ ∀ p ∈ xs, p.1 ≠ x := by
  have := List.all_eq_true.mp h _ hx
  simp only [hi, Bool.not_true, Bool.and_false, Bool.false_or, Bool.and_eq_true] at this
  exact ⟨by simpa using this.1, fun p hp => by simpa using List.all_eq_true.mp this.2 p hp⟩
theorem StW.afterT {xs : List (Str × Nat)} (S : StW G lvl sc T ms A env W M₀ s ρ) (S' : St G lvl sc T' ms A env (W ++ M₀) s' ρ') (hk : keepOk T T' ms xs = true)
    (sb : ∀ y v, (∀ p ∈ xs, p.1 ≠ y) → SlotVal s'.heap env y v → SlotVal s.heap env y v) : StW G lvl sc T' ms A env W M₀ s' ρ' :=
  ⟨S', S.frame, S.cells, fun y i a hy hi sv => let ⟨h1, h2⟩ := keepOk_own hk hy hi; S.lists y i a h1 hi (sb y _ h2 sv), S.above⟩

theorem DenX.assign {target value : Expr} {pos : Pos} {xs : List (Str × Nat)} {bnd : Rho → V → Option Rho} {F : Rho → Option V}
    (h : DenP G lvl sc T ms value F) (ht : DenT G lvl sc T T' ms target xs bnd) (hk : keepOk T T' ms xs = true)
    (hsw : ∀ env : Env, env.scope = sc → swapsWithSole [target] value pos.line env = pure false) (hw : ∀ env : Env, env.scope = sc → swappedStores [target] value env = pure none)
    (hae : ∀ env v, assignAll v ((assignEach [target] env).map (·.2)) = assign target env v) :
    DenX G lvl sc T T' ms (.Assign [target] value pos) fun ρ => (F ρ).bind fun d => (bnd ρ d).map .next := fun A env W M₀ s ρ r S q => by
  obtain ⟨d, hd, q⟩ := Option.bind_eq_some_iff.mp q
  obtain ⟨ρ1, h1, rfl⟩ := Option.map_eq_some_iff.mp q
  refine wpAny_Assign_stores (wp_use (h A env _ s ρ d S.st hd) fun v s₁ ⟨x, r⟩ => ?_) (hsw env S.st.eok.scope) (hw env S.st.eok.scope)
  rw [hae]
  exact wp_use (ht A env _ s₁ ρ v d ρ1 (S.st.ext x) r h1) fun _ s₂ ⟨o, S', sb⟩ => ⟨W, fun _ h => .inl h, x.off.trans (o.mono S.touches), rfl, (S.ext x).afterT S' hk sb⟩

theorem St.narrowC {ρ₀ : Rho} {s₀ : Shared} {a : Addr} (S₀ : St G lvl sc T1 ms A env M s₀ ρ₀) (S : St G lvl sc T ms A env (a :: M) s ρ) (o : Off [a] s s') (ha : s₀.heap.get? a = none) (hl : ∀ vs n, s.heap.get? a ≠ some (lst vs n)) :
    St G lvl sc T ms A env M s' ρ ∧ ∀ y v, SlotVal s'.heap env y v → SlotVal s.heap env y v := by
  have ne : ∀ b ob, s₀.heap.get? b = some ob → b ≠ a := fun b ob e => by rintro rfl; rw [ha] at e; cases e
  have hL : env.locals ≠ a := by obtain ⟨_, m, ob, _, _, ho, _⟩ := S₀.loc; exact ne _ _ ho
  have k : ∀ b ob, b ≠ a → s.heap.get? b = some ob → s'.heap.get? b = some ob := fun b ob hb e => o.heap b ob (fun hm => hb (List.mem_singleton.mp hm)) e
  have hc : ∀ x c, env.cells.lookup x = some c → c ≠ a := fun x c l => by obtain ⟨v, ob, ho, _⟩ := (S₀.cellAt x c l).2; exact ne _ _ ho
  have cf : ∀ x c v, env.cells.lookup x = some c → s.heap.IsCell c v → s'.heap.IsCell c v := fun x c v l ⟨ob, ho, hd⟩ => ⟨ob, k c ob (hc x c l) ho, hd⟩
  have nf : ∀ m, s.heap.Ns env.locals m → s'.heap.Ns env.locals m := fun m n => n.at' fun ob e => k _ ob hL e
  have sf : ∀ y v, SlotVal s.heap env y v → SlotVal s'.heap env y v := fun y v sv => by
    rcases sv with ⟨kk, m, n, e⟩ | ⟨kk, c, l, e⟩
    · exact .inl ⟨kk, m, nf m n, e⟩
    · exact .inr ⟨kk, c, l, cf y c _ l e⟩
  have sb : ∀ y v, SlotVal s'.heap env y v → SlotVal s.heap env y v := fun y v sv => by
    rcases sv with ⟨kk, m, n, e⟩ | ⟨kk, c, l, e⟩
    · obtain ⟨m', n'⟩ := S.loc.2
      cases Ns_unique (nf _ n') n
      exact .inl ⟨kk, _, n', e⟩
    · obtain ⟨v', q⟩ := (S.cellAt y c l).2
      cases cell_unique (cf y c _ l q) e
      exact .inr ⟨kk, c, l, q⟩
  have rf : ∀ {v d}, Rep G.C s.heap (a :: M) v d → Rep G.C s'.heap M v d := fun r => r.mono fun b ob hb e => ⟨k b ob (fun q => hb (q ▸ .head _)) e, fun hm => hb (.tail _ hm)⟩
  have rfs : ∀ {v d}, RepAll G.C s.heap (a :: M) v d → RepAll G.C s'.heap M v d := fun r => r.mono fun b ob hb e => ⟨k b ob (fun q => hb (q ▸ .head _)) e, fun hm => hb (.tail _ hm)⟩
  refine ⟨⟨S.fit, S.eok, fun b ob e => k b ob (ne b _ (S₀.base b ob e)) (S.base b ob e), fun b hb => ?_,
    ⟨S₀.loc.1, let ⟨m, n⟩ := S.loc.2; ⟨m, nf m n⟩⟩, fun x c l => ⟨(S₀.cellAt x c l).1, let ⟨v, q⟩ := (S.cellAt x c l).2; ⟨v, cf x c v l q⟩⟩, fun x i d hx hg => ?_, fun x y i j b hx hy hn h1 h2 sx sy => S.own x y i j b hx hy hn h1 h2 (sb _ _ sx) (sb _ _ sy)⟩, sb⟩
  · obtain ⟨ob, hob⟩ := S.live b (.tail _ hb)
    obtain ⟨ob', hob'⟩ := S₀.live b hb
    exact ⟨ob, k b ob (ne b _ hob') hob⟩
  obtain ⟨v, sv, r⟩ := S.slots x i d hx hg
  refine ⟨v, sf x v sv, ?_⟩
  cases hm : ms.contains i with
  | false => rw [hm] at r; exact rf r
  | true =>
    rw [hm] at r
    obtain ⟨b, e1, vs, n, ds, e2, g, hM, rs⟩ := r
    have hba : b ≠ a := by rintro rfl; exact hl _ _ g
    exact ⟨b, e1, vs, n, ds, e2, k b _ hba g, (List.mem_cons.mp hM).resolve_left hba, rfs rs⟩

theorem DenX.assignGen {pure : Bool} {rest : List Comprehension} {body : Value → Env → Sem Unit} {ys : List (Str × Nat)} {Fb : Rho → Option (List V)} {y : Str} {i : Nat} {py pos spos : Pos} {scope : Scope} {elt target iter : Expr} {ifs : List Expr} {xs : List (Str × Nat)} {bnd : Rho → V → Option Rho} {Fi : Rho → Option (List V)} {Ft : Rho → Option Bool} (T₀ T₁ : List (Str × Nat))
    (heq : ∀ it acc env, compTurn (.ListComp elt (⟨target, iter, ifs, 0⟩ :: rest) scope pos) 0 it acc env = (do
      standAt iter.pos
      match ← pyNext it with
      | none => Pure.pure (.done .next)
      | some v =>
        letOwnedTupleGo target it v
        PySem.assign target env v
        let mut ok := true
        for c in ifs do
          if ok then ok ← isTrue c env (eval c env)
        if ok then body acc env
        again (.compLoop (.ListComp elt (⟨target, iter, ifs, 0⟩ :: rest) scope pos) 0 it acc env)))
    (hs : ∀ env x, foldedSetIterable iter env x = Pure.pure x)
    (ok : compOk scope sc = true) (hT₀ : innerOk scope T T₀ = true) (hx : ownOk scope (xs ++ ys) = true)
    (hI : DenI G lvl sc T ms pure iter Fi) (hT : DenT G lvl (relab scope sc) T₀ T₁ ms target xs bnd) (hC : DenC G lvl (relab scope sc) T₁ ms ifs Ft) (hB : DenE G lvl (relab scope sc) T₁ ms body ys Fb)
    (hst : storable sc y = true) (hi : ms.contains i = false) (hsub : subT' T' (addT T y i) = true) (hk : keepOk T T' ms [(y, i)] = true)
    (hsw : ∀ env : Env, env.scope = sc → swapsWith (.ListComp elt (⟨target, iter, ifs, 0⟩ :: rest) scope pos) (some (.Name y py)) spos.line env = Pure.pure true) :
    DenX G lvl sc T T' ms (.Assign [.Name y py] (.ListComp elt (⟨target, iter, ifs, 0⟩ :: rest) scope pos) spos) fun ρ => (compF Fi bnd Ft Fb ρ).bind fun d => some (.next (put ρ i d)) := fun A env W M₀ s ρ r S q => by
  obtain ⟨d, hd, q⟩ := Option.bind_eq_some_iff.mp q
  cases q
  obtain ⟨ds, out, hds, hgo, hl, rfl⟩ := compF_some hd
  rw [exec_Assign_Name_used _ _ _ _ (hsw env S.st.eok.scope)]
  refine wpAny_bind (wpAny_standAt (wpAny_bind ?_))
  show wpAny _ A (do let _ ← comprehension (.ListComp elt (⟨target, iter, ifs, 0⟩ :: rest) scope pos) scope env _ (newList []) false (eval iter env) (some (PySem.assign (.Name y py) env))) _ _ s
  refine wpAny_bind (wpAny_mono (comp_core (use := some (PySem.assign (.Name y py) env)) (Q := fun _ s' => After G lvl sc T' ms A env W M₀ s (.next (put ρ i (.list out))) .next s') heq hs ok hT₀ hx hI hT hC hB S.st hds hgo hl ?_)
    (fun _ s' hq => wpAny_pure (wpAny_pure hq)) fun _ _ f => f.elim)
  intro C D s' m hC' hD' hCD hn x r
  show wpAny _ A (PySem.assign (.Name y py) env (.ref D)) _ _ _
  have liveC : Live s'.heap (C :: (W ++ M₀)) := fun a ha => (List.mem_cons.mp ha).elim (fun e => let ⟨o, _, _, ho, _⟩ := hn; ⟨o, e ▸ ho⟩) fun h => S.st.live.ext x a h
  have S₁ : St G lvl sc T ms A env (C :: (W ++ M₀)) s' ρ := S.st.widen x (fun a ha => .tail _ ha) (fun a ha => (List.mem_cons.mp ha).elim (fun e => .inr (e ▸ hC')) .inl) liveC
  refine wpAny_assign_Name (S₁.storeT hst hi r fun s'' off S'' sb _ => ?_)
  have hCt : C ∉ touch env y := fun hm => by
    obtain ⟨o, ho⟩ := S.st.live C (List.mem_append.mpr (.inl (S.touches (xs := [(y, i)]) C (touch_sub C hm))))
    rw [hC'] at ho; cases ho
  have hn' : s''.heap.Ns C m := hn.at' fun ob e => off.heap _ _ hCt e
  refine ⟨m, hn', fun h' hsb => ?_⟩
  have o : Off [C] s'' { s'' with heap := h' } := Off.of_heap (tk := s''.toks) fun b ob hb e => hsb.extBut b ob (fun q => hb (q ▸ List.mem_singleton.mpr rfl)) e
  obtain ⟨S3, sb3⟩ := S.st.narrowC S'' o hC' fun vs n e => ns_list_ne hn' e rfl
  have offW : Off W s s'' := x.off.trans (off.mono fun a ha => S.touches (xs := [(y, i)]) a (touch_sub a ha))
  refine ⟨W, fun _ h => .inl h, Off.fresh (W' := C :: W) ((offW.mono fun a h => .tail _ h).trans (o.mono fun a h => (List.mem_singleton.mp h) ▸ .head _)) (fun a ha => (List.mem_cons.mp ha).elim (fun e => .inr (e ▸ hC')) .inl), rfl, ?_⟩
  exact S.afterT (S3.subT hsub) hk fun z v hz sv => S.st.valBack x (sb z v (Ne.symm (hz (y, i) (.head _))) (sb3 z v sv))

theorem DenX.assignComp {pure : Bool} {y : Str} {i : Nat} {py pos spos : Pos} {scope : Scope} {elt target iter : Expr} {ifs : List Expr} {xs : List (Str × Nat)} {bnd : Rho → V → Option Rho} {Fi : Rho → Option (List V)} {Ft : Rho → Option Bool} {Fe : Rho → Option V} (T₀ T₁ : List (Str × Nat))
    (hs : ∀ env x, foldedSetIterable iter env x = Pure.pure x)
    (ok : compOk scope sc = true) (hT₀ : innerOk scope T T₀ = true) (hx : ownOk scope (xs ++ []) = true)
    (hI : DenI G lvl sc T ms pure iter Fi) (hT : DenT G lvl (relab scope sc) T₀ T₁ ms target xs bnd) (hC : DenC G lvl (relab scope sc) T₁ ms ifs Ft) (hE : DenP G lvl (relab scope sc) T₁ ms elt Fe)
    (hst : storable sc y = true) (hi : ms.contains i = false) (hsub : subT' T' (addT T y i) = true) (hk : keepOk T T' ms [(y, i)] = true)
    (hsw : ∀ env : Env, env.scope = sc → swapsWith (.ListComp elt [⟨target, iter, ifs, 0⟩] scope pos) (some (.Name y py)) spos.line env = Pure.pure true) :
    DenX G lvl sc T T' ms (.Assign [.Name y py] (.ListComp elt [⟨target, iter, ifs, 0⟩] scope pos) spos) fun ρ => (compF Fi bnd Ft (fun ρ => (Fe ρ).map ([·])) ρ).bind fun d => some (.next (put ρ i d)) :=
  DenX.assignGen (body := emitList elt) (ys := []) T₀ T₁ (fun _ _ _ => rfl) hs ok hT₀ hx hI hT hC (DenE.emit hE) hst hi hsub hk hsw
theorem DenX.assignComp2 {pure : Bool} {y : Str} {i : Nat} {py pos spos : Pos} {scope : Scope} {elt target iter target' iter' : Expr} {xs ys : List (Str × Nat)} {bnd bnd' : Rho → V → Option Rho} {Fi Fi' : Rho → Option (List V)} {Fe : Rho → Option V} (T₀ T₁ T₂ : List (Str × Nat))
    (hs : ∀ env x, foldedSetIterable iter env x = Pure.pure x) (hs' : ∀ env x, foldedSetIterable iter' env x = Pure.pure x)
    (ok : compOk scope sc = true) (hT₀ : innerOk scope T T₀ = true) (hx : ownOk scope (xs ++ ys) = true)
    (hI : DenI G lvl sc T [] pure iter Fi) (hT : DenT G lvl (relab scope sc) T₀ T₁ [] target xs bnd)
    (hI' : DenI G lvl (relab scope sc) T₁ [] true iter' Fi') (hT' : DenT G lvl (relab scope sc) T₁ T₂ [] target' ys bnd') (hE : DenP G lvl (relab scope sc) T₂ [] elt Fe)
    (hk' : ∀ ρ d ρ1, bnd' ρ d = some ρ1 → ∀ y j, (y, j) ∈ T₁ → (y, j) ∈ T₂ ∧ get ρ j = get ρ1 j)
    (hst : storable sc y = true) (hi : ([] : List Nat).contains i = false) (hsub : subT' T' (addT T y i) = true) (hk : keepOk T T' [] [(y, i)] = true)
    (hsw : ∀ env : Env, env.scope = sc → swapsWith (.ListComp elt [⟨target, iter, [], 0⟩, ⟨target', iter', [], 0⟩] scope pos) (some (.Name y py)) spos.line env = Pure.pure true) :
    DenX G lvl sc T T' [] (.Assign [.Name y py] (.ListComp elt [⟨target, iter, [], 0⟩, ⟨target', iter', [], 0⟩] scope pos) spos) fun ρ => (compF Fi bnd (fun _ => some true) (fun ρ => (Fi' ρ).bind (compGo bnd' (fun _ => some true) (fun ρ => (Fe ρ).map ([·])) ρ)) ρ).bind fun d => some (.next (put ρ i d)) :=
  DenX.assignGen (body := nestBody elt ⟨target, iter, [], 0⟩ target' iter' [] scope pos) (ys := ys) T₀ T₁ (compTurn_nest elt target iter target' iter' scope pos) hs ok hT₀ hx hI hT .nil (DenE.nest (fun _ _ _ => rfl) hs' hI' hT' .nil hE hk') hst hi hsub hk hsw

noncomputable def freezeOk (T T1 : List (Str × Nat)) (x : Str) (i j : Nat) : Bool := T.contains (x, i) && T1.all fun p => p == (x, j) || (T.contains p && p.1 != x && p.2 != j && p.2 != i)
theorem DenS.freeze {x : Str} {i : Nat} {j : Nat} {ss : List Stmt} {F : Rho → Option Res} (h : DenS G lvl sc T1 T2 ms ss F) (hi : ms.contains i = true) (hj : ms.contains j = false) (hT : freezeOk T T1 x i j = true) :
    DenS G lvl sc T T2 ms ss fun ρ => (get ρ i).bind fun d => F (put ρ j d) := fun A env W M₀ s ρ r S q => by
  obtain ⟨d, hd, q⟩ := Option.bind_eq_some_iff.mp q
  unfold freezeOk at hT
  rw [Bool.and_eq_true] at hT
  have hx : (x, i) ∈ T := by simpa using hT.1
  have h1 : ∀ p ∈ T1, p = (x, j) ∨ (p ∈ T ∧ p.1 ≠ x ∧ p.2 ≠ j ∧ p.2 ≠ i) := fun p hp => by
    have := List.all_eq_true.mp hT.2 p hp
    simp only [Bool.or_eq_true, Bool.and_eq_true, beq_iff_eq, bne_iff_ne] at this
    rcases this with e | ⟨⟨⟨e1, e2⟩, e3⟩, e4⟩
    · exact .inl e
    · exact .inr ⟨by simpa using e1, e2, e3, e4⟩
  obtain ⟨v, sv, r⟩ := S.st.slots x i d hx hd
  rw [hi] at r
  obtain ⟨a, rfl, vs, n, ds, rfl, g, hM, rs⟩ := r
  obtain ⟨haW, haM⟩ := S.lists x i a hx hi sv
  have hin : ∀ b, b ∈ W.filter (· != a) ↔ b ∈ W ∧ b ≠ a := fun b => by simp [List.mem_filter]
  have sub : ∀ b, b ∈ W.filter (· != a) ++ M₀ → b ∈ W ++ M₀ := fun b hb => by
    rcases List.mem_append.mp hb with hb | hb
    · exact List.mem_append.mpr (.inl ((hin b).mp hb).1)
    · exact List.mem_append.mpr (.inr hb)
  have hLa : env.locals ≠ a := by obtain ⟨m, n⟩ := S.st.loc.2; exact Ne.symm (ns_list_ne n g)
  have hca : ∀ y c, env.cells.lookup y = some c → c ≠ a := fun y c l => by obtain ⟨v, q⟩ := (S.st.cellAt y c l).2; exact Ne.symm (cell_list_ne q g)
  have hcW : ∀ y c, env.cells.lookup y = some c → c ∈ W.filter (· != a) := fun y c l => (hin c).mpr ⟨S.cells y c l, hca y c l⟩
  have hnot : a ∉ W.filter (· != a) ++ M₀ := fun hm => (List.mem_append.mp hm).elim (fun h => ((hin a).mp h).2 rfl) haM
  have rsub : ∀ {v d}, Rep G.C s.heap (W ++ M₀) v d → Rep G.C s.heap (W.filter (· != a) ++ M₀) v d := fun r => r.mono fun b ob hb e => ⟨e, fun hm => hb (sub b hm)⟩
  have rsubs : ∀ {v d}, RepAll G.C s.heap (W ++ M₀) v d → RepAll G.C s.heap (W.filter (· != a) ++ M₀) v d := fun r => r.mono fun b ob hb e => ⟨e, fun hm => hb (sub b hm)⟩
  have S' : StW G lvl sc T1 ms A env (W.filter (· != a)) M₀ s (put ρ j (.list ds)) := by
    refine ⟨⟨S.st.fit, S.st.eok, S.st.base, fun b hb => S.st.live b (sub b hb), ⟨List.mem_append.mpr (.inl ((hin _).mpr ⟨S.frame, hLa⟩)), S.st.loc.2⟩, fun y c l => ⟨List.mem_append.mpr (.inl (hcW y c l)), (S.st.cellAt y c l).2⟩, fun y k d' hy hg => ?_, fun y z k l b hy hz hkl hk hl sy sz => ?_⟩,
      (hin _).mpr ⟨S.frame, hLa⟩, hcW, fun y k b hy hk svy => ?_, fun b hb => S.above b ((hin b).mp hb).1⟩
    · rcases h1 _ hy with e | ⟨hyT, hyx, hkj, hki⟩
      · cases e
        rw [get_put_self] at hg; cases hg
        rw [hj]
        exact ⟨.ref a, sv, .list g hnot (rsubs rs)⟩
      · rw [get_put_ne _ _ (Ne.symm hkj)] at hg
        obtain ⟨w, svw, rr⟩ := S.st.slots y k d' hyT hg
        refine ⟨w, svw, ?_⟩
        cases hk : ms.contains k with
        | false => rw [hk] at rr; exact rsub rr
        | true =>
          rw [hk] at rr
          obtain ⟨b, rfl, vs', n', ds', e2, g', hM', rs'⟩ := rr
          have hba : b ≠ a := by rintro rfl; exact S.st.own x y i k b hx hyT (Ne.symm hki) hi hk sv svw
          refine ⟨b, rfl, vs', n', ds', e2, g', ?_, rsubs rs'⟩
          rcases List.mem_append.mp hM' with h | h
          · exact List.mem_append.mpr (.inl ((hin b).mpr ⟨h, hba⟩))
          · exact List.mem_append.mpr (.inr h)
    · rcases h1 _ hy with e | ⟨hyT, _⟩
      · cases e; rw [hj] at hk; cases hk
      · rcases h1 _ hz with e | ⟨hzT, _⟩
        · cases e; rw [hj] at hl; cases hl
        · exact S.st.own y z k l b hyT hzT hkl hk hl sy sz
    · rcases h1 _ hy with e | ⟨hyT, hyx, hkj, hki⟩
      · cases e; rw [hj] at hk; cases hk
      · obtain ⟨hbW, hbM⟩ := S.lists y k b hyT hk svy
        refine ⟨(hin b).mpr ⟨hbW, ?_⟩, hbM⟩
        rintro rfl
        exact S.st.own x y i k b hx hyT (Ne.symm hki) hi hk sv svy
  exact wp_use (h A env _ M₀ s _ r S' q) fun fl s₁ hA => hA.trans (fun b hb => .inl ((hin b).mp hb).1) (Off.refl _ s)
end
end Mine
end

section
namespace Mine
open PySem PySem.Calls PyProof.Rows

noncomputable def uniqT (T : List (Str × Nat)) (x : Str) (i : Nat) : Bool := T.all fun p => p.2 != i || p.1 == x

section
variable {G : Gd} {lvl : Nat} {sc : Scope} {T T' T1 T2 : List (Str × Nat)} {ms : List Nat} {A : Around} {env : Env} {W W' M M₀ : List Addr} {s s' s'' : Shared} {ρ ρ' : Rho}

/-- an own list gets new items -/
theorem StW.upd {x : Str} {i : Nat} {a : Addr} {vs' : List Value} {n' : Nat} {ds' : List V} (S : StW G lvl sc T ms A env W M₀ s ρ) (hx : (x, i) ∈ T) (hi : ms.contains i = true) (hu : uniqT T x i = true) (sv : SlotVal s.heap env x (.ref a))
    (hl : ∃ vs n, s.heap.get? a = some (lst vs n)) (o : Off [a] s s') (hg : s'.heap.get? a = some (lst vs' n')) (hr : RepAll G.C s'.heap (W ++ M₀) vs' ds') : StW G lvl sc T ms A env W M₀ s' (put ρ i (.list ds')) := by
  obtain ⟨vs, n, g⟩ := hl
  obtain ⟨haW, haM⟩ := S.lists x i a hx hi sv
  have hLa : env.locals ≠ a := by obtain ⟨m, n⟩ := S.st.loc.2; exact Ne.symm (ns_list_ne n g)
  have hca : ∀ y c, env.cells.lookup y = some c → c ≠ a := fun y c l => by obtain ⟨v, q⟩ := (S.st.cellAt y c l).2; exact Ne.symm (cell_list_ne q g)
  have k : ∀ b ob, b ≠ a → s.heap.get? b = some ob → s'.heap.get? b = some ob := fun b ob hb e => o.heap b ob (fun hm => hb (List.mem_singleton.mp hm)) e
  have cf : ∀ x c v, env.cells.lookup x = some c → s.heap.IsCell c v → s'.heap.IsCell c v := fun x c v l ⟨ob, ho, hd⟩ => ⟨ob, k c ob (hca x c l) ho, hd⟩
  have nf : ∀ m, s.heap.Ns env.locals m → s'.heap.Ns env.locals m := fun m n => n.at' fun ob e => k _ ob hLa e
  have sf : ∀ y v, SlotVal s.heap env y v → SlotVal s'.heap env y v := fun y v sv => by
    rcases sv with ⟨kk, m, n, e⟩ | ⟨kk, c, l, e⟩
    · exact .inl ⟨kk, m, nf m n, e⟩
    · exact .inr ⟨kk, c, l, cf y c _ l e⟩
  have sb : ∀ y v, SlotVal s'.heap env y v → SlotVal s.heap env y v := fun y v sv => by
    rcases sv with ⟨kk, m, n, e⟩ | ⟨kk, c, l, e⟩
    · obtain ⟨m', n'⟩ := S.st.loc.2
      cases Ns_unique (nf _ n') n
      exact .inl ⟨kk, _, n', e⟩
    · obtain ⟨v', q⟩ := (S.st.cellAt y c l).2
      cases cell_unique (cf y c _ l q) e
      exact .inr ⟨kk, c, l, q⟩
  have sub : ∀ b ∈ [a], b ∈ W ++ M₀ := fun b hb => (List.mem_singleton.mp hb) ▸ List.mem_append.mpr (.inl haW)
  refine ⟨⟨S.st.fit, S.st.eok, fun b ob e => ?_, S.st.live.off o fun b hb _ => ⟨_, (List.mem_singleton.mp hb) ▸ hg⟩, ⟨S.st.loc.1, let ⟨m, n⟩ := S.st.loc.2; ⟨m, nf m n⟩⟩, fun y c l => ⟨(S.st.cellAt y c l).1, let ⟨v, q⟩ := (S.st.cellAt y c l).2; ⟨v, cf y c v l q⟩⟩,
    fun y j d hy hgj => ?_, fun y z j l b hy hz hjl h1 h2 sy sz => S.st.own y z j l b hy hz hjl h1 h2 (sb _ _ sy) (sb _ _ sz)⟩, S.frame, S.cells, fun y j b hy hj svy => S.lists y j b hy hj (sb _ _ svy), S.above⟩
  · exact k b ob (fun q => by
      rw [q, S.above a haW] at e; cases e) (S.st.base b ob e)
  · by_cases hji : j = i
    · subst hji
      rw [get_put_self] at hgj; cases hgj
      have : y = x := by
        have := List.all_eq_true.mp hu _ hy
        simpa using this
      subst this
      rw [hi]
      exact ⟨.ref a, sf _ _ sv, a, rfl, vs', n', ds', rfl, hg, List.mem_append.mpr (.inl haW), hr⟩
    · rw [get_put_ne _ _ (Ne.symm hji)] at hgj
      obtain ⟨w, sw, r⟩ := S.st.slots y j d hy hgj
      refine ⟨w, sf _ _ sw, ?_⟩
      cases hm : ms.contains j with
      | false => rw [hm] at r; exact Rep.off r o sub
      | true =>
        rw [hm] at r
        obtain ⟨b, rfl, vs2, n2, ds2, e2, g2, hM2, rs2⟩ := r
        have hba : b ≠ a := by rintro rfl; exact S.st.own x y i j b hx hy (Ne.symm hji) hi hm sv sw
        exact ⟨b, rfl, vs2, n2, ds2, e2, k b _ hba g2, hM2, rs2.off o sub⟩

theorem DenX.append {x : Str} {i : Nat} {px apos pos spos : Pos} {e : Expr} {Fe : Rho → Option V} (h : DenP G lvl sc T ms e Fe) (hx : (x, i) ∈ T) (hi : ms.contains i = true) (hu : uniqT T x i = true) (hp : plainName x = true)
    (ha : plainArgs [e] = true) (hbase : ∀ env w, attributeBase (.Name x px) "append" env w = w)
    (hfew : ∀ env, ((backTo pos (starEach [e] env)).all (fun x => !x.1) && (backToKw pos (keywordEach [] env)).all (fun x => x.1.isSome) && decide ([e].length + ([] : List Keyword).length + (if ([] : List Keyword).isEmpty then 0 else 1) < 30)) = true)
    (hline : (apos.endLine == pos.line) = true)
    (hsw : ∀ env : Env, env.scope = sc → swapsWith (.Call (.Attribute (.Name x px) "append" apos) [e] [] pos) none spos.line env = Pure.pure false) (hint : ∀ env : Env, env.scope = sc → interactive env = false) :
    DenX G lvl sc T T ms (.Expr (.Call (.Attribute (.Name x px) "append" apos) [e] [] pos) spos) fun ρ => (asList (get ρ i)).bind fun ds => (Fe ρ).bind fun d => if ds.length < 10000 then some (.next (put ρ i (.list (ds ++ [d])))) else none :=
  fun A env W M₀ s ρ r S q => by
  obtain ⟨ds, hds, q⟩ := Option.bind_eq_some_iff.mp q
  obtain ⟨d, hd, q⟩ := Option.bind_eq_some_iff.mp q
  split at q
  case isFalse => cases q
  rename_i hlen
  cases q
  simp only [plainName, Bool.and_eq_true, Bool.not_eq_true'] at hp
  obtain ⟨v, sv, r⟩ := S.st.slots x i _ hx (asList_some hds)
  rw [hi] at r
  obtain ⟨a, rfl, vs, n, ds', e2, g, hM, rs⟩ := r
  cases e2
  refine wpAny_Expr_any (wpAny_Call_method (T := "list") (id := "list.append") (hbase env _) (hfew env) hline F.plainAttrs_list F.slot_list_append (by rfl) (name_slot S.st sv ⟨⟨_, g, rfl⟩, fun b hb => ?_, ?_⟩ hp.1 hp.2)) (hint env S.st.eok.scope) (hsw env S.st.eok.scope)
  · cases hb; exact ⟨_, g, rfl⟩
  · refine callWith_builtin (plain_args (by unfold plainArgs at ha; exact (Bool.and_eq_true_iff.mp ha).2)) (evalArgs_spliced ha ?_)
    have he : starEach [e] env = (false, eval e env) :: [] := by
      unfold plainArgs at ha
      simp only [List.all_cons, List.all_nil, Bool.and_eq_true] at ha
      cases e <;> first | rfl | cases ha.2.1
    rw [he]
    show wpAny _ _ (spliced ((false, eval e env) :: [])) _ _ _
    refine spliced_cons (wp_use (h A env _ s ρ d S.st hd) fun v s₁ ⟨x₁, r₁⟩ => spliced_nil ?_)
    have hl := rs.length
    refine wpAny_list_append_plain (items := vs.toArray) ⟨n, x₁.keep _ _ g⟩ (fun h' hpl hs => ?_) (by rw [List.size_toArray, sizeLine_eq, hl]; omega)
    obtain ⟨k', hg'⟩ := hpl
    have off : Off [a] s₁ { s₁ with heap := h' } := Off.of_heap (tk := s₁.toks) fun b o hb e => hs.extBut b o (fun q => hb (q ▸ List.mem_singleton.mpr rfl)) e
    have sub : ∀ b ∈ [a], b ∈ W ++ M₀ := fun b hb => (List.mem_singleton.mp hb) ▸ hM
    obtain ⟨haW, _⟩ := S.lists x i a hx hi sv
    have S₁ := S.ext x₁
    refine ⟨W, fun _ h => .inl h, x₁.off.trans (off.mono fun b hb => (List.mem_singleton.mp hb) ▸ haW), rfl, S₁.upd hx hi hu (sv.keeps x₁.keep) ⟨_, _, x₁.keep _ _ g⟩ off (by simpa using hg') (((rs.ext x₁).off off sub).append (.cons (r₁.off off sub) .nil))⟩

/-- more own addresses, none of which was there -/
theorem StW.widen {a : Addr} (S : StW G lvl sc T ms A env W M₀ s ρ) (x : Ext s s') (ha : s.heap.get? a = none) (hl : ∃ o, s'.heap.get? a = some o) : StW G lvl sc T ms A env (a :: W) M₀ s' ρ := by
  have st : St G lvl sc T ms A env ((a :: W) ++ M₀) s' ρ := S.st.widen x (fun b hb => .tail _ hb) (fun b hb => (List.mem_cons.mp hb).elim (fun e => .inr (e ▸ ha)) .inl) fun b hb => (List.mem_cons.mp hb).elim (fun e => e ▸ hl) fun h => S.st.live.ext x b h
  exact ⟨st, .tail _ S.frame, fun y c l => .tail _ (S.cells y c l), fun y i b hy hi sv => let ⟨h1, h2⟩ := S.lists y i b hy hi (S.st.valBack x sv); ⟨.tail _ h1, h2⟩, fun b hb => (List.mem_cons.mp hb).elim (fun e => by
    cases q : G.h₀.get? b with
    | none => rfl
    | some o => have := S.st.base _ _ q; rw [e, ha] at this; cases this) (S.above b)⟩

/-- x = [..]: an own list -/
theorem DenX.assignOwn {x : Str} {i : Nat} {px pos spos : Pos} {es : List Expr} {F : Rho → Option (List V)} (h : DenAll G lvl sc T ms es F) (hst : storable sc x = true) (hi : ms.contains i = true) (hn : decide (es.length ≤ 1000) = true)
    (hT : T'.all (fun p => p == (x, i) || (T.contains p && p.1 != x && p.2 != i)) = true)
     :
    DenX G lvl sc T T' ms (.Assign [.Name x px] (.List es pos) spos) fun ρ => (F ρ).bind fun ds => some (.next (put ρ i (.list ds))) := fun A env W M₀ s ρ r S q => by
  obtain ⟨ds, hds, q⟩ := Option.bind_eq_some_iff.mp q
  cases q
  have h1 : ∀ p ∈ T', p = (x, i) ∨ (p ∈ T ∧ p.1 ≠ x ∧ p.2 ≠ i) := fun p hp => by
    have := List.all_eq_true.mp hT p hp
    simp only [Bool.or_eq_true, Bool.and_eq_true, beq_iff_eq, bne_iff_ne] at this
    rcases this with e | ⟨⟨e1, e2⟩, e3⟩
    · exact .inl e
    · exact .inr ⟨by simpa using e1, e2, e3⟩
  rw [exec_Assign_Name (env := env) x px (.List es pos) spos (by rfl)]
  refine wpAny_bind (wpAny_standAt (wpAny_bind (wpAny_List (wp_use (h A env _ s ρ ds pos S.st hds) fun vs s₁ ⟨x₁, rs, hlen⟩ => ⟨by rw [hlen, sizeLine_eq]; have := of_decide_eq_true hn; omega, ?_⟩))))
  refine wpAny_bind (wpAny_standAt (wpAny_bind (wpAny_bindName ?_)))
  have x₂ : Ext s₁ { s₁ with heap := s₁.heap.push (lst vs 0) } := Ext.push s₁ _ _
  have hfr : s₁.heap.get? s₁.heap.objs.size = none := next_none (Off.refl _ s₁)
  have hg : (s₁.heap.push (lst vs 0)).get? s₁.heap.objs.size = some (lst vs 0) := Heap.get?_push_size _ rfl
  have S₂ := (S.ext x₁).widen x₂ hfr ⟨_, hg⟩
  have rs₂ : RepAll G.C (s₁.heap.push (lst vs 0)) (s₁.heap.objs.size :: (W ++ M₀)) vs ds := (rs.more fun b hb => (List.mem_cons.mp hb).elim (fun e => .inr (e ▸ hfr)) .inl).ext x₂
  refine S₂.st.store (x := x) (i := i) (d := .list ds) (T2 := T') hst (.inr ⟨hi, _, rfl, ⟨vs, 0, ds, rfl, hg, .head _, rs₂⟩, fun y j hy hj hne sv => ?_⟩) (fun y j hy => ?_) fun s₃ o S₃ sb svx => wpAny_pure ?_
  · obtain ⟨hW, _⟩ := S.lists y j _ hy hj (S.st.valBack (x₁.trans x₂) sv)
    obtain ⟨ob, hob⟩ := S.st.live _ (List.mem_append.mpr (.inl hW))
    have := x₁.keep _ _ hob
    rw [hfr] at this; cases this
  · rcases h1 _ hy with e | ⟨e1, e2, e3⟩
    · cases e; exact .inl ⟨rfl, rfl⟩
    · exact .inr ⟨e1, e2, e3⟩
  · have hnew : s.heap.get? s₁.heap.objs.size = none := next_none x₁
    have offW : Off W s s₃ := (x₁.off.trans x₂.off).trans (o.mono fun a ha => S.touches (xs := [(x, i)]) a (touch_sub a ha))
    refine ⟨s₁.heap.objs.size :: W, fun a ha => (List.mem_cons.mp ha).elim (fun e => .inr (e ▸ hnew)) .inl, offW, rfl, S₃, S₂.frame, S₂.cells, fun y j b hy hj sv => ?_, S₂.above⟩
    rcases h1 _ hy with e | ⟨e1, e2, e3⟩
    · cases e
      cases sv.unique svx
      refine ⟨.head _, fun hm => ?_⟩
      obtain ⟨ob, hob⟩ := S.live _ hm
      rw [hnew] at hob; cases hob
    · exact S₂.lists y j b e1 hj (sb y _ e2 sv)
end
end Mine
end

section
namespace Mine
open PySem PySem.Calls PyProof.Rows

noncomputable def forGo (bnd : Rho → V → Option Rho) (body : Rho → Option Res) : Rho → List V → Option Res
  | ρ, [] => some (.next ρ)
  | ρ, d :: ds => (bnd ρ d).bind fun ρ1 => (body ρ1).bind fun r => match r with
    | .next ρ2 => forGo bnd body ρ2 ds
    | .ret v => some (.ret v)

theorem Off.comp {V V' : List Addr} {s s' s'' : Shared} (x : Off V s s') (y : Off V' s' s'') (h : ∀ a ∈ V', a ∈ V ∨ s.heap.get? a = none) : Off V s s'' :=
  ⟨fun b ob hb e => y.heap b ob (fun hm => (h b hm).elim hb (fun q => by rw [q] at e; cases e)) (x.heap b ob hb e), fun i z e => y.gens i z (x.gens i z e), fun e => y.bare (x.bare e), y.os.trans x.os⟩

section
variable {G : Gd} {lvl : Nat} {sc : Scope} {T T' T1 T2 : List (Str × Nat)} {ms : List Nat} {A : Around} {env : Env} {W W' M M' M₀ M₁ K : List Addr} {s s' s'' : Shared} {ρ ρ' : Rho}

theorem St.setM (S : St G lvl sc T ms A env M s ρ) (h : ∀ a, a ∈ M ↔ a ∈ M') : St G lvl sc T ms A env M' s ρ :=
  S.widen (Off.refl _ s) (fun a => (h a).mp) (fun a ha => .inl ((h a).mpr ha)) fun a ha => S.live a ((h a).mpr ha)

theorem St.offG (S : St G lvl sc T ms A env M s ρ) (o : Off K s s') (hL : env.locals ∉ K) (hc : ∀ x c, env.cells.lookup x = some c → c ∉ K) (haM : ∀ a ∈ K, a ∈ M)
    (hl : ∀ a ∈ K, ∃ o, s'.heap.get? a = some o) (hb : ∀ a ∈ K, G.h₀.get? a = none) (hlist : ∀ x i b, (x, i) ∈ T → ms.contains i = true → SlotVal s.heap env x (.ref b) → b ∉ K) :
    St G lvl sc T ms A env M s' ρ ∧ ∀ y v, SlotVal s'.heap env y v → SlotVal s.heap env y v := by
  have k : ∀ b ob, b ∉ K → s.heap.get? b = some ob → s'.heap.get? b = some ob := fun b ob hb e => o.heap b ob hb e
  have cf : ∀ x c v, env.cells.lookup x = some c → s.heap.IsCell c v → s'.heap.IsCell c v := fun x c v l ⟨ob, ho, hd⟩ => ⟨ob, k c ob (hc x c l) ho, hd⟩
  have nf : ∀ m, s.heap.Ns env.locals m → s'.heap.Ns env.locals m := fun m n => n.at' fun ob e => k _ ob hL e
  have sf : ∀ y v, SlotVal s.heap env y v → SlotVal s'.heap env y v := fun y v sv => by
    rcases sv with ⟨kk, m, n, e⟩ | ⟨kk, c, l, e⟩
    · exact .inl ⟨kk, m, nf m n, e⟩
    · exact .inr ⟨kk, c, l, cf y c _ l e⟩
  have sb : ∀ y v, SlotVal s'.heap env y v → SlotVal s.heap env y v := fun y v sv => by
    rcases sv with ⟨kk, m, n, e⟩ | ⟨kk, c, l, e⟩
    · obtain ⟨m', n'⟩ := S.loc.2
      cases Ns_unique (nf _ n') n
      exact .inl ⟨kk, _, n', e⟩
    · obtain ⟨v', q⟩ := (S.cellAt y c l).2
      cases cell_unique (cf y c _ l q) e
      exact .inr ⟨kk, c, l, q⟩
  refine ⟨⟨S.fit, S.eok, fun b ob e => k b ob (fun q => by rw [hb b q] at e; cases e) (S.base b ob e), S.live.off o fun b hb _ => hl b hb,
    ⟨S.loc.1, let ⟨m, n⟩ := S.loc.2; ⟨m, nf m n⟩⟩, fun x c l => ⟨(S.cellAt x c l).1, let ⟨v, q⟩ := (S.cellAt x c l).2; ⟨v, cf x c v l q⟩⟩, fun x i d hx hg => ?_, fun x y i j b hx hy hn h1 h2 sx sy => S.own x y i j b hx hy hn h1 h2 (sb _ _ sx) (sb _ _ sy)⟩, sb⟩
  obtain ⟨v, sv, r⟩ := S.slots x i d hx hg
  refine ⟨v, sf x v sv, ?_⟩
  cases hm : ms.contains i with
  | false => rw [hm] at r; exact Rep.off r o haM
  | true =>
    rw [hm] at r
    obtain ⟨b, rfl, vs, n, ds, e2, g, hM, rs⟩ := r
    exact ⟨b, rfl, vs, n, ds, e2, k b _ (hlist x i b hx hm sv) g, hM, rs.off o haM⟩
/-- a step of something that is no own thing -/
theorem StW.offK (S : StW G lvl sc T ms A env W M₀ s ρ) (o : Off K s s') (ha : ∀ a ∈ K, a ∈ M₀) (hW : ∀ a ∈ K, a ∉ W) (hl : ∀ a ∈ K, ∃ o, s'.heap.get? a = some o) (hb : ∀ a ∈ K, G.h₀.get? a = none) : StW G lvl sc T ms A env W M₀ s' ρ := by
  obtain ⟨S', sb⟩ := S.st.offG o (fun q => hW _ q S.frame) (fun x c l q => hW _ q (S.cells x c l)) (fun a h => List.mem_append.mpr (.inr (ha a h))) hl hb fun x i b hx hi sv q => hW _ q (S.lists x i b hx hi sv).1
  exact ⟨S', S.frame, S.cells, fun y i b hy hi sv => S.lists y i b hy hi (sb _ _ sv), S.above⟩
theorem StW.offM {a : Addr} (S : StW G lvl sc T ms A env W M₀ s ρ) (o : Off [a] s s') (ha : a ∈ M₀) (hW : a ∉ W) (hl : ∃ o, s'.heap.get? a = some o) (hb : G.h₀.get? a = none) : StW G lvl sc T ms A env W M₀ s' ρ :=
  S.offK o (fun b h => List.mem_singleton.mp h ▸ ha) (fun b h => List.mem_singleton.mp h ▸ hW) (fun b h => List.mem_singleton.mp h ▸ hl) fun b h => List.mem_singleton.mp h ▸ hb

theorem StW.dropK (S : StW G lvl sc T ms A env W (K ++ M₀) s ρ) (o : Off K s s') (hW : ∀ a ∈ K, a ∉ W) (hM : ∀ a ∈ K, a ∉ M₀) (hb : ∀ a ∈ K, G.h₀.get? a = none) : StW G lvl sc T ms A env W M₀ s' ρ := by
  have k : ∀ b ob, b ∉ K → s.heap.get? b = some ob → s'.heap.get? b = some ob := fun b ob hb e => o.heap b ob hb e
  have hL : env.locals ∉ K := fun q => hW _ q S.frame
  have hc : ∀ x c, env.cells.lookup x = some c → c ∉ K := fun x c l q => hW _ q (S.cells x c l)
  have sub : ∀ b, b ∈ W ++ (K ++ M₀) ↔ b ∈ K ∨ b ∈ W ++ M₀ := fun b => by
    simp only [List.mem_append]
    constructor
    · rintro (h | h | h)
      · exact .inr (.inl h)
      · exact .inl h
      · exact .inr (.inr h)
    · rintro (h | h | h)
      · exact .inr (.inl h)
      · exact .inl h
      · exact .inr (.inr h)
  have cf : ∀ x c v, env.cells.lookup x = some c → s.heap.IsCell c v → s'.heap.IsCell c v := fun x c v l ⟨ob, ho, hd⟩ => ⟨ob, k c ob (hc x c l) ho, hd⟩
  have nf : ∀ m, s.heap.Ns env.locals m → s'.heap.Ns env.locals m := fun m n => n.at' fun ob e => k _ ob hL e
  have sf : ∀ y v, SlotVal s.heap env y v → SlotVal s'.heap env y v := fun y v sv => by
    rcases sv with ⟨kk, m, n, e⟩ | ⟨kk, c, l, e⟩
    · exact .inl ⟨kk, m, nf m n, e⟩
    · exact .inr ⟨kk, c, l, cf y c _ l e⟩
  have sb : ∀ y v, SlotVal s'.heap env y v → SlotVal s.heap env y v := fun y v sv => by
    rcases sv with ⟨kk, m, n, e⟩ | ⟨kk, c, l, e⟩
    · obtain ⟨m', n'⟩ := S.st.loc.2
      cases Ns_unique (nf _ n') n
      exact .inl ⟨kk, _, n', e⟩
    · obtain ⟨v', q⟩ := (S.st.cellAt y c l).2
      cases cell_unique (cf y c _ l q) e
      exact .inr ⟨kk, c, l, q⟩
  have rf : ∀ {v d}, Rep G.C s.heap (W ++ (K ++ M₀)) v d → Rep G.C s'.heap (W ++ M₀) v d := fun r => r.mono fun b ob hb e => ⟨k b ob (fun q => hb ((sub b).mpr (.inl q))) e, fun hm => hb ((sub b).mpr (.inr hm))⟩
  have rfs : ∀ {v d}, RepAll G.C s.heap (W ++ (K ++ M₀)) v d → RepAll G.C s'.heap (W ++ M₀) v d := fun r => r.mono fun b ob hb e => ⟨k b ob (fun q => hb ((sub b).mpr (.inl q))) e, fun hm => hb ((sub b).mpr (.inr hm))⟩
  have W' : ∀ b ∈ W, b ∈ W ++ M₀ := fun b hb => List.mem_append.mpr (.inl hb)
  refine ⟨⟨S.st.fit, S.st.eok, fun b ob e => k b ob (fun q => by rw [hb b q] at e; cases e) (S.st.base b ob e), fun b hb => ?_,
    ⟨W' _ S.frame, let ⟨m, n⟩ := S.st.loc.2; ⟨m, nf m n⟩⟩, fun x c l => ⟨W' _ (S.cells x c l), let ⟨v, q⟩ := (S.st.cellAt x c l).2; ⟨v, cf x c v l q⟩⟩, fun x i d hx hg => ?_, fun x y i j b hx hy hn h1 h2 sx sy => S.st.own x y i j b hx hy hn h1 h2 (sb _ _ sx) (sb _ _ sy)⟩,
    S.frame, S.cells, fun y i b hy hi sv => let ⟨h1, h2⟩ := S.lists y i b hy hi (sb _ _ sv); ⟨h1, fun hm => h2 (List.mem_append.mpr (.inr hm))⟩, S.above⟩
  · obtain ⟨ob, hob⟩ := S.st.live b ((sub b).mpr (.inr hb))
    exact ⟨ob, k b ob (fun q => (List.mem_append.mp hb).elim (fun h => hW _ q h) fun h => hM _ q h) hob⟩
  obtain ⟨v, sv, r⟩ := S.st.slots x i d hx hg
  refine ⟨v, sf x v sv, ?_⟩
  cases hm : ms.contains i with
  | false => rw [hm] at r; exact rf r
  | true =>
    rw [hm] at r
    obtain ⟨b, rfl, vs, n, ds, e2, g, _, rs⟩ := r
    obtain ⟨h1, _⟩ := S.lists x i b hx hm sv
    exact ⟨b, rfl, vs, n, ds, e2, k b _ (fun q => hW _ q h1) g, W' _ h1, rfs rs⟩
theorem StW.dropM {a : Addr} (S : StW G lvl sc T ms A env W (a :: M₀) s ρ) (o : Off [a] s s') (hW : a ∉ W) (hM : a ∉ M₀) (hb : G.h₀.get? a = none) : StW G lvl sc T ms A env W M₀ s' ρ :=
  StW.dropK (K := [a]) S o (fun b h => List.mem_singleton.mp h ▸ hW) (fun b h => List.mem_singleton.mp h ▸ hM) fun b h => List.mem_singleton.mp h ▸ hb
/-- more that may change, that is no own thing -/
theorem StW.addK (S : StW G lvl sc T ms A env W M₀ s ρ) (x : Ext s s') (hK : ∀ a ∈ K, s.heap.get? a = none ∧ ∃ o, s'.heap.get? a = some o) : StW G lvl sc T ms A env W (K ++ M₀) s' ρ := by
  have hKW : ∀ a ∈ K, a ∉ W := fun a h hm => by obtain ⟨o, ho⟩ := S.st.live a (List.mem_append.mpr (.inl hm)); rw [(hK a h).1] at ho; cases ho
  refine ⟨S.st.widen x (fun a ha => ?_) (fun a ha => ?_) (fun a ha => ?_), S.frame, S.cells, fun y i a hy hi sv => ?_, S.above⟩
  · exact (List.mem_append.mp ha).elim (fun h => List.mem_append.mpr (.inl h)) fun h => List.mem_append.mpr (.inr (List.mem_append.mpr (.inr h)))
  · rcases List.mem_append.mp ha with h | h
    · exact .inl (List.mem_append.mpr (.inl h))
    · exact (List.mem_append.mp h).elim (fun h => .inr (hK a h).1) fun h => .inl (List.mem_append.mpr (.inr h))
  · rcases List.mem_append.mp ha with h | h
    · exact S.st.live.ext x a (List.mem_append.mpr (.inl h))
    · exact (List.mem_append.mp h).elim (fun h => (hK a h).2) fun h => S.live.ext x a h
  · obtain ⟨h1, h2⟩ := S.lists y i a hy hi (S.st.valBack x sv)
    exact ⟨h1, fun hm => (List.mem_append.mp hm).elim (fun h => hKW a h h1) h2⟩

theorem for_core {it : Value} {target : Expr} {body : List Stmt} {ds : List V} {bnd : Rho → V → Option Rho} {Fb : Rho → Option Res} {r : Res} {R : Result → Shared → Prop} (J : Nat → List Addr → Shared → Prop) (Fin : List Addr → Shared → Rho → Prop)
    (hK : ∀ a ∈ K, a ∈ M₁)
    (hturn : ∀ i d W s ρ ρ1, ds[i]? = some d → StW G lvl sc T ms A env W M₁ s ρ → J i W s → bnd ρ d = some ρ1 →
      wpAny (model G.prog G.w) A (pyNext it) (fun r s₁ => ∃ v, r = some v ∧ wpAny (model G.prog G.w) A (letOwnedTupleGo target it v) (fun _ s₂ => wpAny (model G.prog G.w) A (assign target env v) (fun _ s₃ =>
        ∃ W', (∀ a ∈ W', a ∈ W ∨ s.heap.get? a = none) ∧ Off (K ++ W) s s₃ ∧ StW G lvl sc T ms A env W' M₁ s₃ ρ1 ∧ J (i + 1) W' s₃) NoE s₂) NoE s₁) NoE s)
    (hdone : ∀ W s ρ, StW G lvl sc T ms A env W M₁ s ρ → J ds.length W s → wpAny (model G.prog G.w) A (pyNext it) (fun r s₁ => r = none ∧ Off K s s₁ ∧ Fin W s₁ ρ) NoE s)
    (hkeep : ∀ i W W' s s', J i W s → Off W s s' → (∀ a ∈ W', a ∈ W ∨ s.heap.get? a = none) → J i W' s')
    (hB : DenS G lvl sc T T ms body Fb)
    (S : StW G lvl sc T ms A env W M₁ s ρ) (hJ : J 0 W s) (hgo : forGo bnd Fb ρ ds = some r)
    (hR : ∀ fl s' W', (∀ a ∈ W', a ∈ W ∨ s.heap.get? a = none) → Off (K ++ W) s s' → (match r with
      | .next ρ' => fl = .next ∧ Fin W' s' ρ'
      | .ret d => ∃ v, fl = .ret v ∧ Rep G.C s'.heap M₁ v d ∧ Live s'.heap M₁) → R (.ok fl) s') :
    codeAny (model G.prog G.w) A (.forLoop target it body [] env) R s := by
  refine codeAny_forLoop_any (fun n s' => ∃ i W' ρ', n = ds.length + 1 - i ∧ i ≤ ds.length ∧ (∀ a ∈ W', a ∈ W ∨ s.heap.get? a = none) ∧ Off (K ++ W) s s' ∧ StW G lvl sc T ms A env W' M₁ s' ρ' ∧ J i W' s' ∧ forGo bnd Fb ρ' (ds.drop i) = some r)
    (fun n s' hI => ?_) (ds.length + 1) ⟨0, W, ρ, rfl, Nat.zero_le _, fun _ h => .inl h, Off.refl _ s, S, hJ, by simpa using hgo⟩
  obtain ⟨i, W₁, ρ', rfl, hi, hW₁, off, S₁, hJ₁, hgo⟩ := hI
  -- what was not there at s' was not there at s, or is own
  have back : ∀ {s₂ : Shared} {W₁ : List Addr} {M₂ : List Addr}, Off (K ++ W) s s₂ → Live s₂.heap M₁ → ∀ a, s₂.heap.get? a = none → a ∈ W ∨ s.heap.get? a = none := fun {s₂ _ _} o lv a ha => by
    by_cases hm : a ∈ K ++ W
    · rcases List.mem_append.mp hm with h | h
      · obtain ⟨ob, hob⟩ := lv a (hK a h); rw [ha] at hob; cases hob
      · exact .inl h
    · cases e : s.heap.get? a with
      | none => exact .inr rfl
      | some ob => rw [o.heap a ob hm e] at ha; cases ha
  rcases Nat.lt_or_ge i ds.length with hlt | hge
  · obtain ⟨d, hd⟩ : ∃ d, ds[i]? = some d := ⟨_, List.getElem?_eq_getElem hlt⟩
    have hdrop : ds.drop i = d :: ds.drop (i + 1) := by
      rw [List.drop_eq_getElem_cons hlt]
      rw [List.getElem?_eq_getElem hlt] at hd
      cases hd; rfl
    rw [hdrop] at hgo
    unfold forGo at hgo
    obtain ⟨ρ1, hb, hgo⟩ := Option.bind_eq_some_iff.mp hgo
    obtain ⟨r₁, hr₁, hgo⟩ := Option.bind_eq_some_iff.mp hgo
    refine wpAny_mono (hturn i d W₁ s' ρ' ρ1 hd S₁ hJ₁ hb) (fun rr s₁ h => ?_) fun _ _ f => f.elim
    obtain ⟨v, rfl, h⟩ := h
    refine wpAny_mono h (fun _ s₂ h => wpAny_mono h (fun _ s₃ h => ?_) fun _ _ f => f.elim) fun _ _ f => f.elim
    obtain ⟨W₂, hW₂, o₂, S₂, hJ₂⟩ := h
    have hsub : ∀ a ∈ K ++ W₁, a ∈ K ++ W ∨ s.heap.get? a = none := fun a ha => by
      rcases List.mem_append.mp ha with h | h
      · exact .inl (List.mem_append.mpr (.inl h))
      · exact (hW₁ a h).imp (fun h => List.mem_append.mpr (.inr h)) id
    have o₃ : Off (K ++ W) s s₃ := off.comp o₂ hsub
    have hW₂' : ∀ a ∈ W₂, a ∈ W ∨ s.heap.get? a = none := fun a ha => (hW₂ a ha).elim (hW₁ a) (back (W₁ := W) (M₂ := W) off S₁.live a)
    refine wpAny_mono (hB A env W₂ M₁ s₃ ρ1 r₁ S₂ hr₁) (fun fl s₄ hA => ?_) fun _ _ f => f.elim
    obtain ⟨W₃, hW₃, o₄, hA⟩ := hA
    have hsub₂ : ∀ a ∈ W₂, a ∈ K ++ W ∨ s.heap.get? a = none := fun a ha => (hW₂' a ha).imp (fun h => List.mem_append.mpr (.inr h)) id
    have o₅ : Off (K ++ W) s s₄ := o₃.comp o₄ hsub₂
    have hW₃' : ∀ a ∈ W₃, a ∈ W ∨ s.heap.get? a = none := fun a ha => (hW₃ a ha).elim (hW₂' a) (back (W₁ := W) (M₂ := W) o₃ S₂.live a)
    cases r₁ with
    | next ρ2 =>
      obtain ⟨rfl, S₄⟩ := hA
      exact ⟨ds.length + 1 - (i + 1), by omega, i + 1, W₃, ρ2, rfl, hlt, hW₃', o₅, S₄, hkeep (i + 1) W₂ W₃ s₃ s₄ hJ₂ o₄ hW₃, hgo⟩
    | ret dd =>
      cases hgo
      obtain ⟨v, rfl, h⟩ := hA
      exact hR _ s₄ W₃ hW₃' o₅ ⟨v, rfl, h⟩
  · have hie : i = ds.length := Nat.le_antisymm hi hge
    subst hie
    rw [List.drop_length] at hgo
    unfold forGo at hgo
    cases hgo
    refine wpAny_mono (hdone W₁ s' ρ' S₁ hJ₁) (fun rr s₁ h => ?_) fun _ _ f => f.elim
    obtain ⟨rfl, o₁, S₂⟩ := h
    exact wpAny_execs_nil (hR .next s₁ W₁ hW₁ (off.comp o₁ fun a ha => .inl (List.mem_append.mpr (.inl ha))) ⟨rfl, S₂⟩)

theorem DenX.for_ {target iter : Expr} {body : List Stmt} {pos : Pos} {xs : List (Str × Nat)} {bnd : Rho → V → Option Rho} {Fi : Rho → Option (List V)} {Fb : Rho → Option Res}
    (hs : ∀ env x, foldedSetIterable iter env x = Pure.pure x)
    (hI : DenI G lvl sc T ms true iter Fi) (hT : DenT G lvl sc T T ms target xs bnd) (hk : keepOk T T ms xs = true) (hB : DenS G lvl sc T T ms body Fb) :
    DenX G lvl sc T T ms (.For target iter body [] pos) fun ρ => (Fi ρ).bind fun ds => forGo bnd Fb ρ ds := fun A env W M₀ s ρ r S q => by
  obtain ⟨ds, hds, hgo⟩ := Option.bind_eq_some_iff.mp q
  refine wpAny_For (wp_use (hI A env _ s ρ ds S.st hds) fun x s₁ ⟨x₁, h₁⟩ => wp_use h₁ fun it s₂ ⟨I, fp, PP, J, H, e, hIn, x₂, src, hfp⟩ => ?_) (fun x => hs env x)
  subst e
  obtain ⟨oI, nI, hoI, hcI, _⟩ := src.cls _ _ src.start
  have hbI : G.h₀.get? I = none := by
    cases e : G.h₀.get? I with
    | none => rfl
    | some o => have := S.st.base _ _ e; rw [hIn] at this; cases this
  have hIW : I ∉ W := fun hm => by obtain ⟨o, ho⟩ := S.st.live I (List.mem_append.mpr (.inl hm)); rw [hIn] at ho; cases ho
  have hIM : I ∉ M₀ := fun hm => by obtain ⟨o, ho⟩ := S.st.live I (List.mem_append.mpr (.inr hm)); rw [hIn] at ho; cases ho
  have new : ∀ a ∈ W ++ (I :: M₀), a ∈ W ++ M₀ ∨ s.heap.get? a = none := fun a ha => by
    rcases List.mem_append.mp ha with h | h
    · exact .inl (List.mem_append.mpr (.inl h))
    · rcases List.mem_cons.mp h with rfl | h
      · exact .inr hIn
      · exact .inl (List.mem_append.mpr (.inr h))
  have sub : ∀ a ∈ W ++ M₀, a ∈ W ++ (I :: M₀) := fun a ha => by
    rcases List.mem_append.mp ha with h | h
    · exact List.mem_append.mpr (.inl h)
    · exact List.mem_append.mpr (.inr (.tail _ h))
  have live₂ : Live s₂.heap (W ++ (I :: M₀)) := fun a ha => by
    rcases List.mem_append.mp ha with h | h
    · exact S.st.live.ext x₂ a (List.mem_append.mpr (.inl h))
    · rcases List.mem_cons.mp h with rfl | h
      · exact ⟨oI, hoI⟩
      · exact S.live.ext x₂ a h
  have S₂ : StW G lvl sc T ms A env W (I :: M₀) s₂ ρ := ⟨S.st.widen x₂ sub new live₂, S.frame, S.cells, fun y i a hy hi sv => by
    obtain ⟨h1, h2⟩ := S.lists y i a hy hi (S.st.valBack x₂ sv)
    exact ⟨h1, fun hm => (List.mem_cons.mp hm).elim (fun e => hIW (e ▸ h1)) h2⟩, S.above⟩
  have hold : ∀ b ∈ fp, b = I ∨ (b ∉ W ∧ ∃ o, s₂.heap.get? b = some o) := fun b hb => by
    rcases hfp rfl b hb with e | h
    · exact .inl e
    · rcases src.fpM b hb with e | h'
      · exact .inl e
      · exact .inr ⟨fun hm => h (List.mem_append.mpr (.inl hm)), h'⟩
  refine for_core (K := [I]) (M₁ := I :: M₀) (T := T) (ds := ds) (bnd := bnd) (Fb := Fb) (r := r)
    (fun i W s => J i s.heap ∧ H (W ++ (I :: M₀)) s.heap ∧ I ∉ W ∧ (∃ o, s.heap.get? I = some o) ∧ ∀ b ∈ fp, b = I ∨ (b ∉ W ∧ ∃ o, s.heap.get? b = some o)) (fun W s ρ => StW G lvl sc T ms A env W M₀ s ρ) (fun a ha => (List.mem_singleton.mp ha) ▸ .head _)
    (fun i d W s ρ ρ1 hd S ⟨hJ, hH, hIW, hIl, hf⟩ hb => ?_) (fun W s ρ S ⟨hJ, _, hIW, _⟩ => ?_) (fun i W W' s s' ⟨hJ, hH, hIW, ⟨oi, hoi⟩, hf⟩ o hW => ?_) hB S₂ ⟨src.start, ?_, hIW, ⟨oI, hoI⟩, hold⟩ hgo fun fl s' W' hW o h => ?_
  · refine src.next (List.mem_append.mpr (.inr (.head _))) hd hJ hH fun v s₁ o₁ hJ₁ hH₁ r₁ => ⟨v, rfl, ?_⟩
    obtain ⟨oi, ni, hoi, hci, hni⟩ := src.cls _ _ hJ₁
    have S₁ := S.offM o₁ (.head _) hIW ⟨oi, hoi⟩ hbI
    refine letOwned_quiet hoi hci hni (wp_use (hT A env _ s₁ ρ v d ρ1 S₁.st r₁ hb) fun _ s₂ ⟨o₂, S₂, sb⟩ => ⟨W, fun _ h => .inl h, (o₁.mono fun a h => List.mem_append.mpr (.inl h)).trans (o₂.mono fun a h => List.mem_append.mpr (.inr (S.touches a h))),
      S₁.afterT S₂ hk sb, src.walk.frame _ _ _ hJ₁ fun b hbf ob eb => ?_, src.stays _ _ _ _ hH₁ fun b ob hbn eb => ⟨o₂.heap b ob (fun hm => hbn (List.mem_append.mpr (.inl (S.touches b hm)))) eb, hbn⟩, hIW, ⟨oi, o₂.heap _ _ (fun hm => hIW (S.touches _ hm)) hoi⟩, fun b hbf => ?_⟩)
    · rcases hf b hbf with rfl | ⟨h, _⟩
      · exact o₂.heap _ _ (fun hm => hIW (S.touches _ hm)) eb
      · exact o₂.heap _ _ (fun hm => h (S.touches _ hm)) eb
    · rcases hf b hbf with e | ⟨h, ob, eb⟩
      · exact .inl e
      · by_cases hbI' : b = I
        · exact .inl hbI'
        · exact .inr ⟨h, ob, o₂.heap _ _ (fun hm => h (S.touches _ hm)) (o₁.heap _ _ (fun hm => hbI' (List.mem_singleton.mp hm)) eb)⟩
  · exact src.done hJ fun s₁ o₁ => ⟨rfl, o₁, S.dropM o₁ hIW hIM hbI⟩
  · refine ⟨src.walk.frame _ _ _ hJ fun b hbf ob eb => ?_, src.stays _ _ _ _ hH fun b ob hbn eb => ⟨o.heap b ob (fun hm => hbn (List.mem_append.mpr (.inl hm))) eb, fun hm => ?_⟩, fun hm => ?_, ⟨oi, o.heap _ _ hIW hoi⟩, fun b hbf => ?_⟩
    · rcases hf b hbf with rfl | ⟨h, _⟩
      · exact o.heap _ _ hIW eb
      · exact o.heap _ _ h eb
    · rcases List.mem_append.mp hm with h | h
      · rcases hW b h with h | h
        · exact hbn (List.mem_append.mpr (.inl h))
        · rw [h] at eb; cases eb
      · exact hbn (List.mem_append.mpr (.inr h))
    · rcases hW I hm with h | h
      · exact hIW h
      · rw [h] at hoi; cases hoi
    · rcases hf b hbf with e | ⟨h, ob, eb⟩
      · exact .inl e
      · refine .inr ⟨fun hm => ?_, ob, o.heap _ _ h eb⟩
        rcases hW b hm with h' | h'
        · exact h h'
        · rw [h'] at eb; cases eb
  · refine src.stays _ _ _ _ src.have_ fun b ob hbn eb => ⟨eb, fun hm => hbn ?_⟩
    rcases List.mem_append.mp hm with h | h
    · exact .tail _ (List.mem_append.mpr (.inl h))
    · rcases List.mem_cons.mp h with rfl | h
      · exact .head _
      · exact .tail _ (List.mem_append.mpr (.inr h))
  · have back : ∀ a, s₂.heap.get? a = none → s.heap.get? a = none := fun a ha => by
      cases e : s.heap.get? a with
      | none => rfl
      | some ob => rw [x₂.keep _ _ e] at ha; cases ha
    refine ⟨W', fun a ha => (hW a ha).imp id (back a), ?_, ?_⟩
    · refine (Off.trans x₂.off o).fresh (W := W) fun a ha => ?_
      rcases List.mem_append.mp ha with h | h
      · exact .inr ((List.mem_singleton.mp h) ▸ hIn)
      · exact .inl h
    · cases r with
      | next ρ' => exact h
      | ret d =>
        obtain ⟨v, rfl, hr, hl⟩ := h
        exact ⟨v, rfl, hr.mono fun b ob hb e => ⟨e, fun hm => hb (.tail _ hm)⟩, fun a ha => hl a (.tail _ ha)⟩
end
end Mine
end

section
namespace Mine
open PySem PySem.Calls PyProof.Rows

structure FnOk (h : Heap) (a : Addr) (fd : FuncData) (body : List Stmt) : Prop where
  obj : ∃ o, h.get? a = some o ∧ o.data = .func fd
  code : h.CodeRec fd.code fd.qualname
  body : fd.body = .stmts body
  clo : fd.closure = []
  globals : fd.globals = mainGlobals
  builtins : fd.builtins = builtinsNs
  co : fd.scope.isCoroutine = false
  gen : fd.scope.isGenerator = false
  kind : fd.scope.kind = .function

noncomputable def nodupB : List Str → Bool
  | [] => true
  | x :: r => !r.contains x && nodupB r
theorem nodupB_ok : ∀ {l : List Str}, nodupB l = true → l.Nodup
  | [], _ => List.nodup_nil
  | x :: r, h => by
    simp only [nodupB, Bool.and_eq_true, Bool.not_eq_true'] at h
    exact List.nodup_cons.mpr ⟨by simpa using h.1, nodupB_ok h.2⟩
noncomputable def startOk (sc : Scope) (T : List (Str × Nat)) (ms : List Nat) (ps : List (Str × Nat)) : Bool :=
  (sc.names.all fun p => p.2 != .free) && (sc.names.all fun p => sc.names.lookup p.1 == some p.2) && (T.all fun p => !ms.contains p.2 || ps.all fun q => q.1 != p.1) &&
  (T.all fun p => ps.all fun q => p.2 != q.2 || (p.1 == q.1 && !ms.contains p.2)) && nodupB (ps.map (·.1)) && (ps.all fun p => storable sc p.1)

noncomputable def runF (ps : List (Str × Nat)) (F : Rho → Option Res) (ds : List V) : Option V := (putAll [] ps ds).bind fun ρ => (F ρ).map fun r => match r with
  | .ret d => d
  | .next _ => .none

theorem bindL_off {k : Str → Option NameKind} {x : Str} : ∀ (binds : List (Str × Value)) (m : Str → Option Value), (∀ p ∈ binds, p.1 ≠ x) → bindL k binds m x = m x
  | [], m, _ => rfl
  | (n, v) :: r, m, h => by
    unfold bindL
    rw [bindL_off r _ fun p hp => h p (.tail _ hp)]
    have : x ≠ n := fun e => h (n, v) (.head _) e.symm
    split
    · simp [this]
    · rfl
theorem bindC_off {k : Str → Option NameKind} {x : Str} : ∀ (binds : List (Str × Value)) (m : Str → Option Value), (∀ p ∈ binds, p.1 ≠ x) → bindC k binds m x = m x
  | [], m, _ => rfl
  | (n, v) :: r, m, h => by
    unfold bindC
    rw [bindC_off r _ fun p hp => h p (.tail _ hp)]
    have : x ≠ n := fun e => h (n, v) (.head _) e.symm
    split
    · rfl
    · simp [this]
theorem bindL_get {k : Str → Option NameKind} {x : Str} {v : Value} : ∀ (binds : List (Str × Value)) (m : Str → Option Value), (x, v) ∈ binds → (binds.map (·.1)).Nodup → k x = some .local → bindL k binds m x = some v
  | (n, u) :: r, m, h, hd, hk => by
    rw [List.map_cons, List.nodup_cons] at hd
    unfold bindL
    rcases List.mem_cons.mp h with e | h
    · cases e
      rw [bindL_off r _ fun p hp e => hd.1 (by have := List.mem_map_of_mem (f := fun x => x.1) hp; rwa [e] at this), if_pos hk]
      simp
    · exact bindL_get r _ h hd.2 hk
theorem bindC_get {k : Str → Option NameKind} {x : Str} {v : Value} : ∀ (binds : List (Str × Value)) (m : Str → Option Value), (x, v) ∈ binds → (binds.map (·.1)).Nodup → k x ≠ some .local → bindC k binds m x = some v
  | (n, u) :: r, m, h, hd, hk => by
    rw [List.map_cons, List.nodup_cons] at hd
    unfold bindC
    rcases List.mem_cons.mp h with e | h
    · cases e
      rw [bindC_off r _ fun p hp e => hd.1 (by have := List.mem_map_of_mem (f := fun x => x.1) hp; rwa [e] at this), if_neg hk]
      simp
    · exact bindC_get r _ h hd.2 hk

theorem putAll_get {C : Addr} {h : Heap} {M : List Addr} : ∀ (ps : List (Str × Nat)) (ρ ρ' : Rho) (vs : List Value) (ds : List V), RepAll C h M vs ds → putAll ρ ps ds = some ρ' → ∀ i d, get ρ' i = some d →
    get ρ i = some d ∨ ∃ x v, (x, i) ∈ ps ∧ (x, v) ∈ (ps.map (·.1)).zip vs ∧ Rep C h M v d
  | [], ρ, ρ', vs, ds, r, q, i, d, hg => by
    cases r with
    | nil => cases q; exact .inl hg
    | cons _ _ => cases q
  | (x, j) :: ps, ρ, ρ', vs, ds, r, q, i, d, hg => by
    cases r with
    | nil => cases q
    | @cons v vs d' ds r rs =>
      rcases putAll_get ps (put ρ j d') ρ' vs ds rs q i d hg with hg | ⟨y, w, h1, h2, h3⟩
      · by_cases hij : i = j
        · subst hij
          rw [get_put_self] at hg; cases hg
          exact .inr ⟨x, v, .head _, .head _, r⟩
        · rw [get_put_ne _ _ (Ne.symm hij)] at hg
          exact .inl hg
      · exact .inr ⟨y, w, .tail _ h1, .tail _ h2, h3⟩
theorem putAll_length : ∀ (ps : List (Str × Nat)) (ρ ρ' : Rho) (ds : List V), putAll ρ ps ds = some ρ' → ds.length = ps.length
  | [], _, _, [], _ => rfl
  | (x, j) :: ps, ρ, ρ', d :: ds, q => by simp [putAll_length ps _ _ _ q]

section
variable {G : Gd} {lvl : Nat} {T T' : List (Str × Nat)} {ms : List Nat} {fd : FuncData} {body : List Stmt}

theorem Prim.fn {a : Addr} {ps : List (Str × Nat)} {F : Rho → Option Res} (ok : FnOk G.h₀ a fd body) (hlim : G.h₀.NoLimit)
    (hbind : ∀ vals : List Value, vals.length = ps.length → bindArgs fd ⟨vals, []⟩ = pure ((ps.map (·.1)).zip vals))
    (st : startOk fd.scope T ms ps = true) (hS : DenS G lvl fd.scope T T' ms body F) : Prim G (lvl + 1) (fun vs => call (.ref a) vs) (runF ps F) := fun A M s vs ds d fit base live rs q => by
  obtain ⟨ρ, hρ, q⟩ := Option.bind_eq_some_iff.mp q
  obtain ⟨r, hr, rfl⟩ := Option.map_eq_some_iff.mp q
  simp only [startOk, Bool.and_eq_true] at st
  obtain ⟨⟨⟨⟨⟨nofree, uniq⟩, msOff⟩, idx⟩, nd⟩, sto⟩ := st
  have nd' := nodupB_ok nd
  have hlen : vs.length = ps.length := by rw [rs.length, putAll_length ps _ _ _ hρ]
  obtain ⟨o, ho, hd⟩ := ok.obj
  have hrec : Fit (A.deeper (callEnvC fd s.heap.objs.size a)) lvl := ⟨fit.handled, by have := fit.depth; show A.depth + 1 + 8 * lvl + 100 < _; omega, by have := fit.units; show A.units + 3 + 200 * lvl + 400 < _; omega⟩
  have uq : ∀ p ∈ fd.scope.names, fd.scope.names.lookup p.1 = some p.2 := fun p hp => beq_iff_eq.mp (List.all_eq_true.mp uniq p hp)
  have hzmem : ∀ x v, (x, v) ∈ (ps.map (·.1)).zip vs → ∃ i, (x, i) ∈ ps := fun x v h => by
    have := (List.of_mem_zip h).1
    obtain ⟨p, hp, e⟩ := List.mem_map.mp this
    exact ⟨p.2, by rw [← e]; exact hp⟩
  have hsto : ∀ x i, (x, i) ∈ ps → fd.scope.names.lookup x = some .local ∨ fd.scope.names.lookup x = some .cell := fun x i h => by
    have := List.all_eq_true.mp sto _ h
    simpa [storable] using this
  have hcells : ∀ L x, fd.scope.names.lookup x = some .cell → ∃ c, (cellsFrom (L + 1) fd.scope.names []).lookup x = some c := fun L x h => cellsFrom_has _ _ _ _ (.inl (mem_of_lookup h))
  refine wpAny_call (codeAny_call_cells fit.room (base.1 _ _ ho) hd (hlim.keeps base.1) (ok.code.keeps base.1) ok.body (hbind vs hlen) ok.clo (fun p hp => ?_) (fun s₁ X => ?_) ok.co ok.gen ok.kind)
  · obtain ⟨i, hi⟩ := hzmem p.1 p.2 hp
    rcases hsto _ _ hi with e | e
    · exact .inl e
    · obtain ⟨c, hc⟩ := hcells s.heap.objs.size _ e
      exact .inr ⟨e, by rw [hc]; rfl⟩
  generalize hL : s.heap.objs.size = L at *
  have eLoc : (callEnvC fd L a).locals = L := rfl
  have eCells : (callEnvC fd L a).cells = cellsFrom (L + 1) fd.scope.names [] := rfl
  have ns := X.toInCall.ns
  obtain ⟨h', tk, e₁⟩ := X.toInCall.same
  have x₁ : Ext s s₁ := by rw [e₁]; exact Ext.of_heap (tk := tk) fun b o e => by have := X.toInCall.keep b o e; rw [e₁] at this; exact this
  have hkind : ∀ x, (callEnvC fd L a).kindOf x = fd.scope.names.lookup x := fun x => rfl
  let W : List Addr := L :: fd.scope.names.filterMap fun p => if p.2 == .cell then (cellsFrom (L + 1) fd.scope.names []).lookup p.1 else none
  have cellMem : ∀ x c, (cellsFrom (L + 1) fd.scope.names []).lookup x = some c → c ∈ W := fun x c l => by
    refine List.mem_cons_of_mem _ (List.mem_filterMap.mpr ⟨(x, .cell), ?_, by simpa using l⟩)
    rcases cellsFrom_mem _ _ _ _ _ (mem_of_lookup l) with h | ⟨h, _⟩
    · cases h
    · exact h
  have Wnew : ∀ b ∈ W, s.heap.get? b = none ∧ ∃ o, s₁.heap.get? b = some o := fun b hb => by
    rcases List.mem_cons.mp hb with rfl | hb
    · exact ⟨fresh_of_le (Nat.le_of_eq hL), let ⟨o, _, _, ho, _⟩ := ns; ⟨o, ho⟩⟩
    · obtain ⟨p, hp, e⟩ := List.mem_filterMap.mp hb
      split at e
      · have hc := X.cell p.1 b e
        have := X.above p.1 b (mem_of_lookup e)
        exact ⟨fresh_of_le (by rw [hL]; exact Nat.le_of_lt this), let ⟨o, ho, _⟩ := hc; ⟨o, ho⟩⟩
      · cases e
  have noSlot : ∀ x v, (∀ p ∈ ps, p.1 ≠ x) → ¬ SlotVal s₁.heap (callEnvC fd L a) x v := fun x v hx sv => by
    have hz : ∀ p ∈ (ps.map (·.1)).zip vs, p.1 ≠ x := fun p hp => by
      obtain ⟨i, hi⟩ := hzmem p.1 p.2 hp
      exact hx _ hi
    rcases sv with ⟨k, m, n, e⟩ | ⟨k, c, l, e⟩
    · cases Ns_unique ns n
      rw [bindL_off _ _ hz] at e; cases e
    · have := cell_unique (X.cell x c l) e
      rw [bindC_off _ _ hz] at this; cases this
  have S : StW G lvl fd.scope T ms (A.deeper (callEnvC fd L a)) (callEnvC fd L a) W M s₁ ρ := by
    refine ⟨⟨hrec, ⟨rfl, ok.globals, ok.builtins, by rw [eLoc, ← hL]; exact base.2, ok.kind, fun x hx => ?_, fun x y c hxy hx hy => hxy (name_of_addr X.apart (mem_of_lookup hx) (mem_of_lookup hy)), fun x c hx => ?_⟩,
      fun b o e => x₁.keep b o (base.1 b o e), fun b hb => ?_, ⟨List.mem_append.mpr (.inl (.head _)), _, ns⟩, fun x c l => ⟨List.mem_append.mpr (.inl (cellMem x c l)), _, X.cell x c l⟩, fun x i d hx hg => ?_, fun x y i j b hx hy hn h1 h2 sx sy => ?_⟩,
      .head _, fun x c l => cellMem x c l, fun x i b hx hi sv => ?_, fun b hb => ?_⟩
    · rw [hkind] at hx
      rcases hx with e | e
      · exact hcells L x e
      · have := List.all_eq_true.mp nofree _ (mem_of_lookup e)
        simp at this
    · have := X.above x c (mem_of_lookup hx)
      have h2 : G.h₀.objs.size ≤ L := by rw [← hL]; exact base.2
      exact Nat.le_trans h2 (Nat.le_of_lt this)
    · rcases List.mem_append.mp hb with h | h
      · exact (Wnew b h).2
      · exact live.ext x₁ b h
    · rcases putAll_get ps [] ρ vs ds rs hρ i d hg with hg | ⟨y, v, h1, h2, h3⟩
      · simp [get] at hg
      · have hi := List.all_eq_true.mp (List.all_eq_true.mp idx _ hx) _ h1
        simp only [bne_self_eq_false, Bool.false_or, Bool.and_eq_true, Bool.not_eq_true'] at hi
        obtain rfl := beq_iff_eq.mp hi.1
        rw [hi.2]
        refine ⟨v, ?_, (h3.more fun b hb => ?_).ext x₁⟩
        · rcases hsto _ _ h1 with e | e
          · exact .inl ⟨(hkind _).trans e, _, ns, bindL_get _ _ h2 (by rw [List.map_fst_zip (by rw [List.length_map]; exact Nat.le_of_eq hlen.symm)]; exact nd') ((hkind _).trans e)⟩
          · obtain ⟨c, hc⟩ := hcells L x e
            refine .inr ⟨.inl ((hkind _).trans e), c, hc, ?_⟩
            have := X.cell x c hc
            rwa [bindC_get _ _ h2 (by rw [List.map_fst_zip (by rw [List.length_map]; exact Nat.le_of_eq hlen.symm)]; exact nd') (by rw [hkind, e]; simp)] at this
        · exact (List.mem_append.mp hb).elim (fun h => .inr (Wnew b h).1) .inl
    · have h := List.all_eq_true.mp msOff _ hx
      rw [h1, Bool.not_true, Bool.false_or] at h
      exact noSlot x _ (fun p hp => by simpa using List.all_eq_true.mp h p hp) sx
    · have h := List.all_eq_true.mp msOff _ hx
      rw [hi, Bool.not_true, Bool.false_or] at h
      exact absurd sv (noSlot x _ fun p hp => by simpa using List.all_eq_true.mp h p hp)
    · cases e : G.h₀.get? b with
      | none => rfl
      | some o => have := base.1 _ _ e; rw [(Wnew b hb).1] at this; cases this
  refine wpAny_mono (hS _ _ W M s₁ ρ r S hr) (fun fl s' hA => ?_) fun _ _ f => f.elim
  obtain ⟨W', hW', off, hA⟩ := hA
  have x : Ext s s' := (Off.trans x₁.off off).fresh fun b hb => .inr (Wnew b hb).1
  cases r with
  | next ρ' =>
    obtain ⟨rfl, _⟩ := hA
    exact ⟨x, .none⟩
  | ret d =>
    obtain ⟨v, rfl, hv, _⟩ := hA
    exact ⟨x, hv⟩
end
end Mine
end

section
namespace Mine
open PySem PySem.Calls PyProof.Rows

noncomputable def enumL : Nat → List V → List V
  | _, [] => []
  | i, d :: ds => .tup [.int i, d] :: enumL (i + 1) ds
theorem enumL_length : ∀ (i : Nat) (ds : List V), (enumL i ds).length = ds.length
  | _, [] => rfl
  | i, d :: ds => by simp [enumL, enumL_length (i + 1) ds]
theorem enumL_get : ∀ (k : Nat) (ds : List V) (i : Nat) (d : V), (enumL k ds)[i]? = some d → ∃ d', ds[i]? = some d' ∧ d = .tup [.int ((k + i : Nat) : Int), d']
  | k, [], i, d, h => by simp [enumL] at h
  | k, x :: ds, 0, d, h => by
    simp only [enumL, List.getElem?_cons_zero, Option.some.injEq] at h
    exact ⟨x, rfl, by rw [← h]; rfl⟩
  | k, x :: ds, i + 1, d, h => by
    simp only [enumL, List.getElem?_cons_succ] at h
    obtain ⟨d', h1, h2⟩ := enumL_get (k + 1) ds i d h
    exact ⟨d', by simpa using h1, by rw [h2, show k + 1 + i = k + (i + 1) by omega]⟩

section
variable {G : Gd} {lvl : Nat} {sc : Scope} {T T' T1 T2 : List (Str × Nat)} {ms : List Nat}

theorem DenX.forEnum {elts : List Expr} {k : Nat} {tp np pos pos' : Pos} {e : Expr} {body : List Stmt} {xs : List (Str × Nat)} {bnd : Rho → V → Option Rho} {Fi : Rho → Option V} {Fb : Rho → Option Res}
    (h : DenP G lvl sc T ms e Fi) (hb : BuiltAt G.h₀ "enumerate" (.type "enumerate")) (hx : isGlobal sc "enumerate" = true) (ha : plainArgs [e] = true)
    (hT : DenT G lvl sc T T ms (.Tuple elts k tp) xs bnd) (hk : keepOk T T ms xs = true) (hB : DenS G lvl sc T T ms body Fb) :
    DenX G lvl sc T T ms (.For (.Tuple elts k tp) (.Call (.Name "enumerate" np) [e] [] pos') body [] pos) fun ρ => (asList (Fi ρ)).bind fun ds => forGo bnd Fb ρ (enumL 0 ds) := fun A env W M₀ s ρ r S q => by
  obtain ⟨ds, hds, hgo⟩ := Option.bind_eq_some_iff.mp q
  have he : starEach [e] env = (false, eval e env) :: [] := by
    unfold plainArgs at ha
    simp only [List.all_cons, List.all_nil, Bool.and_eq_true] at ha
    cases e <;> first | rfl | cases ha.2.1
  refine wpAny_For (callN S.st hx (by decide) (.inr hb) (PyProof.Rows.callWith_type (plain_args (by unfold plainArgs at ha; exact (Bool.and_eq_true_iff.mp ha).2)) (evalArgs_spliced ha ?_)))
  rw [he]
  show wpAny _ _ (spliced ((false, eval e env) :: [])) _ _ _
  refine spliced_cons (wp_use (h A env _ s ρ _ S.st (asList_some hds)) fun v s₁ ⟨x₁, rv⟩ => spliced_nil ?_)
  obtain ⟨l, vs, n, rfl, g, hlM, rs⟩ := rv.isList
  have hL : s₁.heap.IsList l vs.toArray := ⟨_, g, rfl, n, rfl⟩
  refine call_enumerate_list hL fun h₂ hE hit hsz hk₂ => ?_
  generalize hit0 : s₁.heap.objs.size = it at hE hit hsz
  have x₂ : Ext s₁ { s₁ with heap := h₂ } := Ext.of_heap (tk := s₁.toks) hk₂
  refine wpAny_pyIter_enum hE ?_
  have frIt : s₁.heap.get? it = none := fresh_of_le (Nat.le_of_eq hit0)
  have frE : s₁.heap.get? (it + 1) = none := fresh_of_le (by rw [hit0]; exact Nat.le_succ _)
  have back : ∀ a, s₁.heap.get? a = none → s.heap.get? a = none := fun a ha => by
    cases e : s.heap.get? a with
    | none => rfl
    | some o => rw [x₁.keep _ _ e] at ha; cases ha
  obtain ⟨oit, hoit, _⟩ := id hit
  have hKn : ∀ a ∈ [it + 1, it], s₁.heap.get? a = none ∧ ∃ o, h₂.get? a = some o := fun a ha => by
    rcases List.mem_cons.mp ha with rfl | ha
    · exact ⟨frE, _, hE⟩
    · rw [List.mem_singleton.mp ha]; exact ⟨frIt, _, hoit⟩
  have S₂ := (S.ext x₁).addK x₂ hKn
  have hKM : ∀ a ∈ [it + 1, it], a ∉ M₀ := fun a ha hm => by obtain ⟨o, ho⟩ := S.live a hm; rw [back a (hKn a ha).1] at ho; cases ho
  have hKW : ∀ a ∈ [it + 1, it], a ∉ W := fun a ha hm => by obtain ⟨o, ho⟩ := S.st.live a (List.mem_append.mpr (.inl hm)); rw [back a (hKn a ha).1] at ho; cases ho
  have hKb : ∀ a ∈ [it + 1, it], G.h₀.get? a = none := fun a ha => by
    cases e : G.h₀.get? a with
    | none => rfl
    | some o => have := S.st.base _ _ e; rw [back a (hKn a ha).1] at this; cases this
  have hll : l ∉ W ++ ([it + 1, it] ++ M₀) := fun hm => by
    rcases List.mem_append.mp hm with hm | hm
    · exact hlM (List.mem_append.mpr (.inl hm))
    · rcases List.mem_append.mp hm with hm | hm
      · rw [(hKn l hm).1] at g; cases g
      · exact hlM (List.mem_append.mpr (.inr hm))
  have hei : it + 1 ≠ it := Nat.succ_ne_self _
  refine code_use (P := fun r' s' => ∃ fl, r' = .ok fl ∧ After G lvl sc T ms A env W M₀ s r fl s') (for_core (K := [it + 1, it]) (M₁ := [it + 1, it] ++ M₀) (T := T) (ds := enumL 0 ds) (bnd := bnd) (Fb := Fb) (r := r)
    (fun i W s => (∃ old, IsEnum s.heap (it + 1) it i old) ∧ s.heap.IsListIter it l i ∧ s.heap.get? l = some (lst vs n) ∧ l ∉ W ++ ([it + 1, it] ++ M₀) ∧ RepAll G.C s.heap (W ++ ([it + 1, it] ++ M₀)) vs ds ∧ ∀ a ∈ [it + 1, it], a ∉ W)
    (fun W s ρ => StW G lvl sc T ms A env W M₀ s ρ) (fun a ha => List.mem_append.mpr (.inl ha))
    (fun i d W s ρ ρ1 hd S ⟨⟨old, hE⟩, hit, hl, hln, hr, hKW⟩ hb => ?_) (fun W s ρ S ⟨⟨old, hE⟩, hit, hl, hln, hr, hKW⟩ => ?_) (fun i W W' s s' ⟨⟨old, hE⟩, hit, hl, hln, hr, hKW⟩ o hW => ?_) hB S₂ ⟨⟨.none, hE⟩, hit, x₂.keep _ _ g, hll, ?_, hKW⟩ hgo fun fl s' W' hW o h => ?_)
    fun r' s' ⟨fl, e, hA⟩ => by subst e; exact hA
  · obtain ⟨d', hd', rfl⟩ := enumL_get 0 ds i d hd
    obtain ⟨v, hv, rv⟩ := hr.get hd'
    refine wpAny_pyNext_enum_item hE hit ⟨_, hl, rfl, n, rfl⟩ (x := v) (by simpa using hv) hei fun h₁ heo hit₁ ht₁ hz₁ hk₁ => ⟨_, rfl, ?_⟩
    refine wpAny_letOwnedTupleGo_enum heo fun h₂ he₂ hs₂ => ?_
    replace hs₂ : Heap.SameBut (it + 1) h₁ h₂ := hs₂
    have frT : s.heap.get? s.heap.objs.size = none := fresh_of_le (Nat.le_refl _)
    have hTe : s.heap.objs.size ≠ it + 1 := Ne.symm (old_ne hE frT)
    have o₁ : Off [it + 1, it] s { s with heap := h₂, toks := s.toks + 1 } := Off.of_heap fun b ob hb e => hs₂.extBut b ob (fun q => hb (q ▸ .head _)) (hk₁ b ob (fun q => hb (q ▸ .head _)) (fun q => hb (q ▸ .tail _ (.head _))) e)
    have hit₂ : h₂.IsListIter it l (i + 1) := hit₁.extBut hs₂.extBut (Ne.symm hei)
    obtain ⟨oi, hoi, _⟩ := id hit₂
    have S₁ := S.offK o₁ (fun a h => List.mem_append.mpr (.inl h)) hKW (fun a h => by
      rcases List.mem_cons.mp h with rfl | h
      · exact ⟨_, he₂⟩
      · rw [List.mem_singleton.mp h]; exact ⟨_, hoi⟩) hKb
    have hsub : ∀ a ∈ [it + 1, it], a ∈ W ++ ([it + 1, it] ++ M₀) := fun a h => List.mem_append.mpr (.inr (List.mem_append.mpr (.inl h)))
    have rT : Rep G.C h₂ (W ++ ([it + 1, it] ++ M₀)) (.ref s.heap.objs.size) (.tup [.int ((0 + i : Nat) : Int), d']) :=
      .tup (vs := [.int i s.toks, v]) (n := 0) (hs₂.extBut _ _ hTe ht₁) (fun hm => by obtain ⟨o, ho⟩ := S.st.live _ hm; rw [frT] at ho; cases ho) (.cons (by rw [Nat.zero_add]; exact .int _ _) (.cons (rv.off o₁ hsub) .nil))
    refine wp_use (hT A env _ _ ρ _ _ ρ1 S₁.st rT hb) fun _ s₃ ⟨o₂, S₃, sb⟩ => ⟨W, fun _ h => .inl h, (o₁.mono fun a h => List.mem_append.mpr (.inl h)).trans (o₂.mono fun a h => List.mem_append.mpr (.inr (S₁.touches a h))), S₁.afterT S₃ hk sb, ?_⟩
    have tW : ∀ a, a ∈ touches env xs → a ∈ W := fun a h => S₁.touches a h
    refine ⟨⟨v, ?_⟩, ?_, o₂.heap _ _ (fun h => hln (List.mem_append.mpr (.inl (tW _ h)))) (o₁.heap _ _ (fun h => hln (hsub _ h)) hl), hln, (hr.off o₁ hsub).off o₂ (fun a h => List.mem_append.mpr (.inl (tW a h))), hKW⟩
    · have : ((i + 1 : Nat) : Int) = (i : Int) + 1 := by push_cast; rfl
      show s₃.heap.get? _ = _
      rw [this]
      exact o₂.heap _ _ (fun h => hKW _ (.head _) (tW _ h)) he₂
    · exact hit₂.at fun ob e => o₂.heap _ _ (fun h => hKW _ (.tail _ (.head _)) (tW _ h)) e
  · have hlen := hr.length
    refine wpAny_pyNext_enum_end S.st.fit.handled hE hit ⟨_, hl, rfl, n, rfl⟩ (by rw [enumL_length, ← hlen]; simp) fun h' hx => ⟨rfl, ?_, ?_⟩
    · exact Off.of_heap (tk := s.toks) fun b ob hb e => hx b ob (fun q => hb (q ▸ .tail _ (.head _))) e
    · exact S.dropK (Off.of_heap (tk := s.toks) fun b ob hb e => hx b ob (fun q => hb (q ▸ .tail _ (.head _))) e) hKW hKM hKb
  · have eAl : ∀ a ∈ [it + 1, it], ∃ o, s.heap.get? a = some o := fun a h => by
      rcases List.mem_cons.mp h with rfl | h
      · exact ⟨_, hE⟩
      · rw [List.mem_singleton.mp h]; obtain ⟨oi, hoi, _⟩ := id hit; exact ⟨_, hoi⟩
    have nl : ∀ b ob, s.heap.get? b = some ob → b ∉ W ++ ([it + 1, it] ++ M₀) → b ∉ W' ++ ([it + 1, it] ++ M₀) := fun b ob e hb hm => by
      rcases List.mem_append.mp hm with h | h
      · rcases hW b h with h | h
        · exact hb (List.mem_append.mpr (.inl h))
        · rw [h] at e; cases e
      · exact hb (List.mem_append.mpr (.inr h))
    refine ⟨⟨old, o.heap _ _ (hKW _ (.head _)) hE⟩, hit.at fun ob e => o.heap _ _ (hKW _ (.tail _ (.head _))) e, o.heap _ _ (fun h => hln (List.mem_append.mpr (.inl h))) hl, nl l _ hl hln, hr.mono fun b ob hb e => ⟨o.heap b ob (fun h => hb (List.mem_append.mpr (.inl h))) e, nl b ob e hb⟩, fun a ha hm => ?_⟩
    rcases hW a hm with h | h
    · exact hKW a ha h
    · obtain ⟨ob, hob⟩ := eAl a ha; rw [h] at hob; cases hob
  · exact (rs.more fun a ha => by
      rcases List.mem_append.mp ha with h | h
      · exact .inl (List.mem_append.mpr (.inl h))
      · exact (List.mem_append.mp h).elim (fun h => .inr (hKn a h).1) fun h => .inl (List.mem_append.mpr (.inr h))).ext x₂
  · have back₂ : ∀ a, h₂.get? a = none → s.heap.get? a = none := fun a ha => back a (by
      cases e : s₁.heap.get? a with
      | none => rfl
      | some o => have := hk₂ _ _ e; rw [ha] at this; cases this)
    refine ⟨fl, rfl, W', fun a ha => (hW a ha).imp id (back₂ a), ?_, ?_⟩
    · refine (Off.trans (Off.trans x₁.off x₂.off) o).fresh (W := W) fun a ha => ?_
      rcases List.mem_append.mp ha with h | h
      · exact .inr (back a (hKn a h).1)
      · exact .inl h
    · cases r with
      | next ρ' => exact h
      | ret d =>
        obtain ⟨v, rfl, hr, hl⟩ := h
        exact ⟨v, rfl, hr.mono fun b ob hb e => ⟨e, fun hm => hb (List.mem_append.mpr (.inr hm))⟩, fun a ha => hl a (List.mem_append.mpr (.inr ha))⟩
end
end Mine
end

section
namespace Mine
open PySem PySem.Calls PyProof.Rows

/-- x.split(y), x.split(y, k) -/
noncomputable def splitV : List V → Option V
  | [.str x, .str y] => if y.length ≠ 0 && x.length < roof then some (.list ((Txt.split x y).map .str)) else none
  | [.str x, .str y, .int k] => if y.length ≠ 0 && x.length < roof && 0 ≤ k && k < 1000 then some (.list ((Txt.splitMax x y k).map .str)) else none
  | _ => none
/-- y not in x -/
noncomputable def notinStrV : List V → Option V
  | [.str y, .str x] => some (.bool (!(!(Builtin.Str.occurrences x y 0 x.length 1).isEmpty)))
  | _ => none

theorem reps_strsFrom {C : Addr} {h : Heap} {M : List Addr} : ∀ (tk : Nat) (xs : List Str), RepAll C h M (strsFrom tk xs) (xs.map .str)
  | _, [] => .nil
  | tk, x :: xs => .cons (.str _ _) (reps_strsFrom (tk + 1) xs)

section
variable {G : Gd} {lvl : Nat} {sc : Scope} {T T' T1 T2 : List (Str × Nat)} {ms : List Nat}
open Builtin Builtin.Str

theorem P_notinStr : Prim G lvl (cmpT .NotIn) notinStrV := by
  intro A M s vs ds d f b l r e
  unfold notinStrV at e
  split at e
  · cases e
    obtain ⟨u, v, rfl, x, y⟩ := r.two
    obtain ⟨t, rfl⟩ := x.isStr; obtain ⟨t', rfl⟩ := y.isStr
    exact PyProof.Rows.notIn_str ⟨Off.refl _ s, .bool _⟩
  · cases e

theorem split_new {s : Shared} {C : Addr} {M : List Addr} (l : Live s.heap M) (xs : List Str) (tk : Tok) :
    Ext s { s with toks := tk, heap := s.heap.push { cls := .type "list", data := .seq (strsFrom s.toks xs).toArray } } ∧
    Rep C (s.heap.push { cls := .type "list", data := .seq (strsFrom s.toks xs).toArray }) M (.ref s.heap.objs.size) (.list (xs.map .str)) :=
  ⟨Ext.push s _ _, .list (n := 0) (Heap.get?_push_size _ rfl) l.new (reps_strsFrom _ _)⟩
theorem split_self {s : Shared} {C : Addr} {M : List Addr} (l : Live s.heap M) (x : Str) (t : Tok) :
    Ext s { s with heap := s.heap.push { cls := .type "list", data := .seq [Value.str x t].toArray } } ∧
    Rep C (s.heap.push { cls := .type "list", data := .seq [Value.str x t].toArray }) M (.ref s.heap.objs.size) (.list ([x].map .str)) :=
  ⟨Ext.push s _ _, .list (n := 0) (Heap.get?_push_size _ rfl) l.new (.cons (.str _ _) .nil)⟩

theorem P_split : Prim G lvl (fun vs => call (.builtin "str.split") vs) splitV := by
  intro A M s vs ds d f b l r e
  unfold splitV at e
  split at e
  · rename_i x y
    split at e
    · rename_i hb
      simp only [Bool.and_eq_true, decide_eq_true_eq] at hb
      cases e
      obtain ⟨u, v, rfl, rx, ry⟩ := r.two
      obtain ⟨t, rfl⟩ := rx.isStr; obtain ⟨t', rfl⟩ := ry.isStr
      have hy : (y.length == 0) = false := by simpa using hb.1
      have hx := hb.2
      unfold roof at hx
      have hn : (partsBetween x (occurrences x y 0 x.length (x.length + 1)) y.length).length ≤ sizeLine := by
        have e1 := StrLaws.occ_length_le_len x y 0 x.length (x.length + 1)
        rw [length_partsBetween, sizeLine_eq]; omega
      unfold Txt.split
      cases h1 : (decide (x.length < y.length) || decide (strKind x < strKind y))
      · cases hf : (occurrences x y 0 x.length (x.length + 1)).isEmpty
        · exact call_meets PySem.F.slot_str_split (typeIs_str _ _ _) PySem.F.entry_str_split (PySem.F.args_str_split_2 _ _) (meets_str_split_sep x y t t' h1 hy hf (by rw [sizeLine_eq]; omega) hn) (split_new l _ _)
        · exact call_meets PySem.F.slot_str_split (typeIs_str _ _ _) PySem.F.entry_str_split (PySem.F.args_str_split_2 _ _) (meets_str_split_not_found x y t t' h1 hy hf) (split_self l _ _)
      · exact call_meets PySem.F.slot_str_split (typeIs_str _ _ _) PySem.F.entry_str_split (PySem.F.args_str_split_2 _ _) (meets_str_split_cannot_occur x y t t' h1) (split_self l _ _)
    · cases e
  · rename_i x y k
    split at e
    · rename_i hb
      simp only [Bool.and_eq_true, decide_eq_true_eq] at hb
      cases e
      obtain ⟨u, v, w, rfl, rx, ry, rk⟩ := r.three
      obtain ⟨t, rfl⟩ := rx.isStr; obtain ⟨t', rfl⟩ := ry.isStr; obtain ⟨t'', rfl⟩ := rk.isInt
      have hy : (y.length == 0) = false := by simpa using hb.1.1.1
      have hx := hb.1.1.2
      unfold roof at hx
      have hk : (decide (k < -(2 ^ 63 : Int)) || decide (k ≥ 2 ^ 63)) = false := by
        have h1 := hb.1.2
        have h2 := hb.2
        simp only [Bool.or_eq_false_iff, decide_eq_false_iff_not]
        constructor <;> omega
      have hn : (partsBetween x (occurrences x y 0 x.length (limitOf x k)) y.length).length ≤ sizeLine := by
        have e1 := StrLaws.occ_length_le_len x y 0 x.length (limitOf x k)
        rw [length_partsBetween, sizeLine_eq]; omega
      unfold Txt.splitMax
      cases h1 : (decide (x.length < y.length) || decide (strKind x < strKind y))
      · cases hf : (occurrences x y 0 x.length (limitOf x k)).isEmpty
        · exact call_meets PySem.F.slot_str_split (typeIs_str _ _ _) PySem.F.entry_str_split (PySem.F.args_str_split_3 _ _ _) (meets_str_split_sep_max x y k t t' t'' hk h1 hy hf (by rw [sizeLine_eq]; omega) hn) (split_new l _ _)
        · exact call_meets PySem.F.slot_str_split (typeIs_str _ _ _) PySem.F.entry_str_split (PySem.F.args_str_split_3 _ _ _) (meets_str_split_max_not_found x y k t t' t'' hk h1 hy hf) (split_self l _ _)
      · exact call_meets PySem.F.slot_str_split (typeIs_str _ _ _) PySem.F.entry_str_split (PySem.F.args_str_split_3 _ _ _) (meets_str_split_max_cannot_occur x y k t t' t'' hk h1) (split_self l _ _)
    · cases e
  · cases e

/-- len of a list that may be an own one -/
theorem DenP.lenL {np pos : Pos} {e : Expr} {F : Rho → Option (List V)} (h : DenL G lvl sc T ms e F) (hb : BuiltAt G.h₀ "len" (.builtin "len")) (hx : isGlobal sc "len" = true) (ha : plainArgs [e] = true) :
    DenP G lvl sc T ms (.Call (.Name "len" np) [e] [] pos) fun ρ => (F ρ).bind fun ds => if ds.length < roof then some (.int ds.length) else Option.none := fun A env M s ρ d S q => by
  obtain ⟨ds, hds, q⟩ := Option.bind_eq_some_iff.mp q
  split at q
  · rename_i hl
    cases q
    have he : starEach [e] env = (false, eval e env) :: [] := by
      unfold plainArgs at ha
      simp only [List.all_cons, List.all_nil, Bool.and_eq_true] at ha
      cases e <;> first | rfl | cases ha.2.1
    refine callN S hx (by decide) (.inr hb) (callWith_builtin (plain_args (by unfold plainArgs at ha; exact (Bool.and_eq_true_iff.mp ha).2)) (evalArgs_spliced ha ?_))
    rw [he]
    show wpAny _ _ (spliced ((false, eval e env) :: [])) _ _ _
    refine spliced_cons (wp_use (h A env M s ρ ds S hds) fun v s₁ ⟨x₁, a, vs, n, e, g, r⟩ => spliced_nil ?_)
    subst e
    have hn : vs.toArray.size = vs.length := by simp
    refine call_len_list ⟨_, g, rfl, n, rfl⟩ (by rw [hn, r.length]; unfold roof at hl; omega) ⟨x₁.trans (Ext.same s₁ _), ?_⟩
    rw [hn, r.length]; exact .int _ _
  · cases q

/-- x[i] += v over an own list of ints -/
theorem DenX.augItem {x : Str} {i : Nat} {px tpos pos : Pos} {ie ve : Expr} {Fi Fv : Rho → Option V} (hi : DenP G lvl sc T ms ie Fi) (hv : DenP G lvl sc T ms ve Fv) (hx : (x, i) ∈ T) (him : ms.contains i = true) (hu : uniqT T x i = true) (hp : plainName x = true)
    (haug : ∀ ov iv new, augStore ie ov iv new = (do holding [new, ov, iv] (setItem ov iv new); release [new, ov, iv] []; Pure.pure .next)) :
    DenX G lvl sc T T ms (.AugAssign (.Subscript (.Name x px) ie tpos) .Add ve pos) fun ρ => (asList (get ρ i)).bind fun ds => (asInt (Fi ρ)).bind fun k => (asInt (Fv ρ)).bind fun v => (asInt (ds[k.toNat]?)).bind fun old =>
      if 0 ≤ k && k < ds.length && ds.length < 1000 then some (.next (put ρ i (.list (ds.set k.toNat (.int (old + v)))))) else Option.none := fun A env W M₀ s ρ r S q => by
  obtain ⟨ds, hds, q⟩ := Option.bind_eq_some_iff.mp q
  obtain ⟨k, hk, q⟩ := Option.bind_eq_some_iff.mp q
  obtain ⟨v, hvv, q⟩ := Option.bind_eq_some_iff.mp q
  obtain ⟨old, hold, q⟩ := Option.bind_eq_some_iff.mp q
  split at q
  case isFalse => cases q
  rename_i hb
  cases q
  simp only [Bool.and_eq_true, decide_eq_true_eq] at hb
  simp only [plainName, Bool.and_eq_true, Bool.not_eq_true'] at hp
  obtain ⟨w, sv, rr⟩ := S.st.slots x i _ hx (asList_some hds)
  rw [him] at rr
  obtain ⟨a, rfl, vs, n, ds', e2, g, hM, rs⟩ := rr
  cases e2
  obtain ⟨haW, _⟩ := S.lists x i a hx him sv
  have hlen := rs.length
  obtain ⟨u, hu', ru⟩ := rs.get (asInt_some hold)
  obtain ⟨tu, rfl⟩ := ru.isInt
  refine wpAny_AugAssign_SubscriptAny (name_slot S.st sv (wp_use (hi A env _ s ρ _ S.st (asInt_some hk)) fun iv s₁ ⟨x₁, r₁⟩ => ?_) hp.1 hp.2) haug
  obtain ⟨tk, rfl⟩ := r₁.isInt
  have g₁ := x₁.keep _ _ g
  refine wpAny_getItem_list (items := vs.toArray) ⟨_, g₁, rfl, n, rfl⟩ (by omega) (by omega) (by simpa using hu') (wp_use (hv A env _ s₁ ρ _ (S.st.ext x₁) (asInt_some hvv)) fun vv s₂ ⟨x₂, r₂⟩ => ?_)
  obtain ⟨tv, rfl⟩ := r₂.isInt
  have g₂ := x₂.keep _ _ g₁
  refine wpAny_iadd_int (PySem.W.ki_setAt (items := vs.toArray) (n := n) g₂ (by omega) (by omega) (by simp; omega) ?_)
  have hg : (s₂.heap.update a (Obj.mapSeq (·.setIfInBounds k.toNat (.int (old + v) s₂.toks)))).get? a = some (Obj.mapSeq (·.setIfInBounds k.toNat (.int (old + v) s₂.toks)) (lst vs n)) := Heap.get?_update_self _ g₂ rfl
  obtain ⟨n', hn'⟩ : ∃ n', Obj.mapSeq (·.setIfInBounds k.toNat (.int (old + v) s₂.toks)) (lst vs n) = lst (vs.set k.toNat (.int (old + v) s₂.toks)) n' := by
    have e1 : (vs.toArray.setIfInBounds k.toNat (.int (old + v) s₂.toks)) = (vs.set k.toNat (.int (old + v) s₂.toks)).toArray := List.setIfInBounds_toArray ..
    unfold lst
    rw [← e1]
    exact ⟨_, rfl⟩
  have off : Off [a] s₂ { s₂ with heap := s₂.heap.update a (Obj.mapSeq (·.setIfInBounds k.toNat (.int (old + v) s₂.toks))), toks := s₂.toks + 1 } :=
    Off.of_heap fun b o hb e => (Heap.SameBut.update ..).extBut b o (fun q => hb (q ▸ List.mem_singleton.mpr rfl)) e
  have sub : ∀ b ∈ [a], b ∈ W ++ M₀ := fun b hb => (List.mem_singleton.mp hb) ▸ hM
  have setR : ∀ {C h M}, ∀ (vs : List Value) (ds : List V) (j : Nat) (z : Value) (d : V), RepAll C h M vs ds → Rep C h M z d → RepAll C h M (vs.set j z) (ds.set j d) := fun {C h M} vs => by
    induction vs with
    | nil => intro ds j z d r _; cases r; exact .nil
    | cons y ys ih =>
      intro ds j z d r rz
      cases r with
      | cons ry rys =>
        cases j with
        | zero => exact .cons rz rys
        | succ j => exact .cons ry (ih _ j z d rys rz)
  have S₂ := (S.ext x₁).ext x₂
  refine ⟨W, fun _ h => .inl h, (Off.trans x₁.off x₂.off).trans (off.mono fun b hb => (List.mem_singleton.mp hb) ▸ haW), rfl, S₂.upd hx him hu ((sv.keeps x₁.keep).keeps x₂.keep) ⟨_, _, g₂⟩ off (by rw [← hn']; exact hg)
    (setR _ _ _ _ _ (((rs.ext x₁).ext x₂).off off sub) (.int _ _))⟩

/-- x, y = (.., ..): stored in the other order -/
theorem DenX.swap {x y : Str} {i j : Nat} {target value : Expr} {pos : Pos} {F : Rho → Option V} (h : DenP G lvl sc T ms value F) (hx : storable sc x = true) (hy : storable sc y = true) (hi : ms.contains i = false) (hj : ms.contains j = false)
    (hsub : subT' T' (addT (addT T y j) x i) = true) (hk : keepOk T T' ms [(y, j), (x, i)] = true)
    (hsw : ∀ env : Env, env.scope = sc → swapsWithSole [target] value pos.line env = Pure.pure false) (hw : ∀ env : Env, env.scope = sc → swappedStores [target] value env = Pure.pure (some [x, y])) :
    DenX G lvl sc T T' ms (.Assign [target] value pos) fun ρ => (asTup (F ρ)).bind fun ds => match ds with
      | [dx, dy] => some (.next (put (put ρ j dy) i dx))
      | _ => Option.none := fun A env W M₀ s ρ r S q => by
  obtain ⟨ds, hds, q⟩ := Option.bind_eq_some_iff.mp q
  split at q
  case h_2 => cases q
  rename_i dx dy
  cases q
  rw [arm_exec_Assign]
  refine wpAny_bind (wpAny_standAt (wpAny_bind ?_))
  rw [hsw env S.st.eok.scope]
  refine wpAny_pure ?_
  simp only [Bool.false_eq_true, if_false]
  refine wpAny_bind (wp_use (h A env _ s ρ _ S.st (asTup_some hds)) fun v s₁ ⟨x₁, rv⟩ => ?_)
  obtain ⟨a, vs, n, rfl, g, _, rs⟩ := rv.isTup
  obtain ⟨u, w, rfl, ru, rw'⟩ := rs.two
  rw [hw env S.st.eok.scope]
  refine wpAny_bind (wpAny_pure ?_)
  show wpAny _ A (do rule "assign.swapped-stores"; let items ← unpackItems (.ref a) 2 none; assignInOrder ([y, x].map fun n => bindName env n) items.reverse; Pure.pure Flow.next) _ _ _
  refine wpAny_bind (wpAny_rule (wpAny_bind (wpAny_unpackItems_tuple (items := #[u, w]) S.st.fit.handled ⟨_, g, rfl, n, rfl⟩ fun h' he => wpAny_bind ?_)))
  have x₂ : Ext s₁ { s₁ with heap := h' } := Ext.of_heap (tk := s₁.toks) fun b o e => he b o (Nat.ne_of_lt (Heap.lt_size e)) e
  have S₂ := (S.ext x₁).ext x₂
  refine wpAny_assignInOrder_more (t := bindName env y) (wpAny_bindName (S₂.st.storeT hy hj (rw'.ext x₂) fun s₃ o₃ S₃ sb₃ _ => ?_))
  have tW : ∀ z k a, a ∈ touch env z → a ∈ W := fun z k a h => S.touches (xs := [(z, k)]) a (touch_sub a h)
  refine wpAny_assignInOrder_more (t := bindName env x) (wpAny_bindName (S₃.storeT hx hi ((ru.ext x₂).off o₃ fun a h => List.mem_append.mpr (.inl (tW y j a h))) fun s₄ o₄ S₄ sb₄ _ => wpAny_assignInOrder_none (wpAny_pure ?_)))
  refine ⟨W, fun _ h => .inl h, ((Off.trans x₁.off x₂.off).trans (o₃.mono (tW y j))).trans (o₄.mono (tW x i)), rfl, S₂.afterT (S₄.subT hsub) hk fun z v hz sv => sb₃ z v (Ne.symm (hz (y, j) (.head _))) (sb₄ z v (Ne.symm (hz (x, i) (.tail _ (.head _)))) sv)⟩
end
end Mine
end

section
namespace Mine
open PySem PySem.Calls PyProof.Rows
open PySem.W

noncomputable abbrev selName : Str := Str.ofString "comp_select_list"
/-- the class of the judges, as the fragment K lays it out -/
structure ClsOk (K : Frag) (C fI fC : Addr) : Prop where
  makes : makesIn K C = true
  init : findIn K (.ref C) "__init__" = some (some (.ref fI))
  initFn : typeIn K (.ref fI) = some (.type "function")
  setter : findIn K (.ref C) "__setattr__" = some (some (.builtin "object.__setattr__"))
  over : plainOver K C = true
  taker : takerIn K C selName = some none
  hasDict : hasDictIn K C = true
  get : plainGet K C selName = true
  attr : findIn K (.ref C) selName = some none
  getC : plainGet K C "compare" = true
  compare : findIn K (.ref C) "compare" = some (some (.ref fC))
  compareFn : isFn K (.ref fC) = true

theorem getL_self (hs : Int) (t : Tok) (v : Value) : getL selName [⟨hs, .str selName t, v⟩] = some (some v) := by
  unfold getL
  have : (Value.str selName t).isStr selName = true := by simp [Value.isStr]
  simp [this]
theorem getL_compare (hs : Int) (t : Tok) (v : Value) : getL "compare" [⟨hs, .str selName t, v⟩] = some none := by
  unfold getL
  have h1 : (Value.str selName t).isStr "compare" = false := by
    show (selName == ("compare" : Str)) = false
    decide
  simp [h1, DictEntry.refKey]

noncomputable def judgeCols : Option V → Option V
  | some (.judge d) => some d
  | _ => none
theorem judgeCols_some {o : Option V} {d : V} (h : judgeCols o = some d) : o = some (.judge d) := by
  unfold judgeCols at h
  split at h
  · cases h; rfl
  · cases h

section
variable {G : Gd} {lvl : Nat} {sc : Scope} {T T' T1 T2 : List (Str × Nat)} {ms : List Nat} {K : Frag} {fI fC : Addr}

/-- judge.comp_select_list -/
theorem DenP.sel {e : Expr} {pos : Pos} {F : Rho → Option V} (hK : K.In G.h₀) (ok : ClsOk K G.C fI fC) (h : DenP G lvl sc T ms e F)
    (he : ∀ env, eval (.Attribute e selName pos) env = (do
      let o ← eval e env
      standAt pos.atName
      let r ← holding [o] (getAttr o selName true)
      letTemporaryGo e o r
      Pure.pure r)) :
    DenP G lvl sc T ms (.Attribute e selName pos) fun ρ => judgeCols (F ρ) := fun A env M s ρ d S q => by
  refine Attribute_any_ (wp_use (h A env M s ρ _ S (judgeCols_some q)) fun v s₁ ⟨x₁, r⟩ => ?_) (he env)
  cases r with
  | @judge a dx hs t n v d g hm gd hmd rv =>
    obtain ⟨m, F⟩ := (S.ext x₁).fr
    refine PySem.W.get_own (K := K) (C := G.C) (es := [⟨hs, .str selName t, v⟩]) (n := n) (v := v) (attr := Option.none) F hK ⟨g, rfl, rfl, gd⟩ ok.get ok.hasDict ok.attr rfl (getL_self hs t v) ?_ ⟨x₁.trans (Ext.same s₁ _), rv⟩
    cases v with
    | builtin i => cases rv
    | _ => rfl

/-- judge.compare(..) -/
theorem DenP.ask {o : Expr} {apos pos : Pos} {args : List Expr} {F : Rho → Option V} {Fs : Rho → Option (List V)} {g : List V → Option V} (hK : K.In G.h₀) (ok : ClsOk K G.C fI fC) (hf : FnAt G.h₀ fC)
    (hp : Prim G lvl (fun vs => call (.ref fC) vs) g) (h : DenP G lvl sc T ms o F) (hs : DenAll G lvl sc T ms args Fs) (ha : plainArgs args = true)
    (hbase : ∀ env w, attributeBase o "compare" env w = w)
    (hfew : ∀ env, ((backTo pos (starEach args env)).all (fun x => !x.1) && (backToKw pos (keywordEach [] env)).all (fun x => x.1.isSome) && decide (args.length + ([] : List Keyword).length + (if ([] : List Keyword).isEmpty then 0 else 1) < 30)) = true)
    (hline : (apos.endLine == pos.line) = true) :
    DenP G lvl sc T ms (.Call (.Attribute o "compare" apos) args [] pos) fun ρ => (F ρ).bind fun a => (judgeCols (some a)).bind fun _ => (Fs ρ).bind fun ds => g (a :: ds) := fun A env M s ρ d S q => by
  obtain ⟨a, ha', q⟩ := Option.bind_eq_some_iff.mp q
  obtain ⟨c, hc, q⟩ := Option.bind_eq_some_iff.mp q
  obtain ⟨ds, hds, q⟩ := Option.bind_eq_some_iff.mp q
  cases judgeCols_some hc
  rw [arm_eval_Call, hbase env]
  refine wpAny_bind (wp_use (h A env M s ρ _ S ha') fun v s₁ ⟨x, r⟩ => wpAny_bind (wpAny_standAt ?_))
  have hform : methodCallForm (args.length + ([] : List Keyword).length) (backTo pos (starEach args env)) (backToKw pos (keywordEach [] env)) = true := hfew env
  have hpos : methodCallPos true o env apos pos = Pure.pure pos := by unfold methodCallPos; simp [hline]
  unfold methodCall
  rw [hform]
  have r' := r
  cases r with
  | @judge ad dx hs' t n v d' g' hm gd hmd rv =>
    obtain ⟨m, F⟩ := (S.ext x).fr
    obtain ⟨ob, fd, hob, hfd⟩ := hf
    refine wpAny_bind (wpAny_holding (PySem.W.method_inst (K := K) (C := G.C) (es := [⟨hs', .str selName t, v⟩]) (n := n) F hK ⟨g', rfl, rfl, gd⟩ ok.getC ok.compare ok.compareFn (getL_compare hs' t v) (wpAny_bind (wpAny_of_eq hpos ?_))))
    refine callWith_function (o := ob) (fd := fd) (evalArgs_spliced ha (wp_use (hs A env M s₁ ρ ds pos (S.ext x) hds) fun vs s₂ ⟨y, rs, _⟩ => ?_))
    have S₂ := (S.ext x).ext y
    exact ⟨⟨S₂.base _ _ hob, hfd⟩, wp_use (hp A M s₂ (.ref ad :: vs) (.judge c :: ds) d S₂.fit S₂.base' S₂.live (.cons (r'.ext y) rs) q) fun v s₃ ⟨z, r''⟩ => ⟨(x.trans y).trans z, r''⟩⟩
end
end Mine
end

section
namespace Mine
open PySem PySem.Calls PyProof.Rows
open PySem.W

noncomputable abbrev selfName : Str := Str.ofString "self"
noncomputable def makeV : List V → Option V
  | [d] => some (.judge d)
  | _ => none

section
variable {G : Gd} {lvl : Nat} {K : Frag} {fI fC : Addr} {fd : FuncData}

theorem Prim.make {p1 p2 p3 p4 : Pos} (hK : K.In G.h₀) (ok : ClsOk K G.C fI fC) (hlim : G.h₀.NoLimit) (fok : FnOk G.h₀ fI fd [.Assign [.Attribute (.Name selfName p1) selName p2] (.Name selName p3) p4])
    (hbind : ∀ a b : Value, bindArgs fd ⟨[a, b], []⟩ = pure [(selfName, a), (selName, b)])
    (n1 : fd.scope.names.lookup selfName = some .local) (n2 : fd.scope.names.lookup selName = some .local) : Prim G (lvl + 1) (fun vs => call (.ref G.C) vs) makeV := fun A M s vs ds d fit base live rs q => by
  unfold makeV at q
  split at q
  case h_2 => cases q
  rename_i dc
  cases q
  obtain ⟨v, rfl, rv⟩ := rs.one
  obtain ⟨h, g, dr, tk, os⟩ := s
  have KX : K.In h := hK.keeps base.1
  refine wpAny_call (make_core (makes_of KX ok.makes) (looks_findIn KX ok.init) (fun self => bind_fn KX self ok.initFn) (.inl rfl) ?_)
  have kk : ∀ b o, h.get? b = some o → ((h.push emptyDict).push (instObj G.C h.objs.size)).get? b = some o := fun b o e => Heap.get?_push_of_some _ (Heap.get?_push_of_some _ e)
  obtain ⟨o, ho, hd⟩ := fok.obj
  have sz : ((h.push emptyDict).push (instObj G.C h.objs.size)).objs.size = h.objs.size + 2 := by rw [Heap.size_push, Heap.size_push]
  have gx : ((h.push emptyDict).push (instObj G.C h.objs.size)).get? (h.objs.size + 1) = some (instObj G.C h.objs.size) := by
    have := Heap.get?_push_size (h.push emptyDict) (o := instObj G.C h.objs.size) rfl
    rwa [Heap.size_push] at this
  have gd : ((h.push emptyDict).push (instObj G.C h.objs.size)).get? h.objs.size = some emptyDict := Heap.get?_push_of_some _ (Heap.get?_push_size _ rfl)
  generalize ((h.push emptyDict).push (instObj G.C h.objs.size)) = h2 at kk sz gx gd
  refine codeAny_call_cells (vals := [.ref (h.objs.size + 1), v]) (by have := fit.depth; show A.depth + Code.weight (.builtin "type.__call__" _) < recursionLimit; have hw : Code.weight (.builtin "type.__call__" ⟨[.ref G.C, v], []⟩) ≤ 3 := Nat.le_of_ble_eq_true (by kernel_rfl); omega) (kk _ _ (base.1 _ _ ho)) hd (hlim.keeps fun b o e => kk b o (base.1 b o e)) (fok.code.keeps fun b o e => kk b o (base.1 b o e)) fok.body (hbind _ _) fok.clo (fun p hp => ?_) (fun s₁ X => ?_) fok.co fok.gen fok.kind
  · rcases List.mem_cons.mp hp with rfl | hp
    · exact .inl n1
    · rw [List.mem_singleton.mp hp]; exact .inl n2
  have ns := X.toInCall.ns
  obtain ⟨h', tk', e₁⟩ := X.toInCall.same
  have hkeep := X.toInCall.keep
  have hL : (callEnvC fd h2.objs.size fI).locals = h2.objs.size := rfl
  have hk : ∀ x, (callEnvC fd h2.objs.size fI).kindOf x = fd.scope.names.lookup x := fun _ => rfl
  have fnd : ([(selfName, (.ref (h.objs.size + 1) : Value)), (selName, v)] : List (Str × Value)).map (·.1) = [selfName, selName] := rfl
  have nd : ([selfName, selName] : List Str).Nodup := nodupB_ok (by decide)
  have m1 : bindL (callEnvC fd h2.objs.size fI).kindOf [(selfName, .ref (h.objs.size + 1)), (selName, v)] (fun _ => none) selfName = some (.ref (h.objs.size + 1)) := bindL_get _ _ (.head _) (fnd ▸ nd) ((hk _).trans n1)
  have m2 : bindL (callEnvC fd h2.objs.size fI).kindOf [(selfName, .ref (h.objs.size + 1)), (selName, v)] (fun _ => none) selName = some v := bindL_get _ _ (.tail _ (.head _)) (fnd ▸ nd) ((hk _).trans n2)
  have F : Fr h h2.objs.size s₁.heap _ := ⟨ns, fun b o e => hkeep b o (kk b o e), by rw [sz]; exact Nat.le_add_right _ _⟩
  have fx : h.get? (h.objs.size + 1) = none := fresh_of_le (Nat.le_succ _)
  have fd' : h.get? h.objs.size = none := fresh_of_le (Nat.le_refl _)
  have N : News h h2.objs.size s₁.heap [(h.objs.size + 1, instObj G.C h.objs.size), (h.objs.size, emptyDict)] := fun p hp => by
    rcases List.mem_cons.mp hp with rfl | hp
    · exact ⟨hkeep _ _ gx, by rw [sz]; exact Nat.ne_of_lt (Nat.lt_succ_self _), fx⟩
    · rw [List.mem_singleton.mp hp]; exact ⟨hkeep _ _ gd, by rw [sz]; exact Nat.ne_of_lt (Nat.lt_add_of_pos_right (by decide)), fd'⟩
  refine wpAny_execs_cons (plainObj_wpAny_Assign_Attribute (wpAny_Name (wpAny_loadName_local fok.kind ((hk _).trans n2) ns m2 (wpAny_Name (wpAny_loadName_local fok.kind ((hk _).trans n1) ns m1 ?_) (by decide))) (by decide)) (by rfl))
  refine PySem.W.set_dict (K := K) (C := G.C) (dx := h.objs.size) (es := []) (n := 0) F KX N ⟨hkeep _ _ gx, rfl, rfl, hkeep _ _ gd⟩ rfl ok.setter ok.over ok.taker ok.hasDict rfl rfl (.tail (Nat.succ_ne_self _) (.head fun _ h => nomatch h)) (by show (1 : Nat) ≤ 1000; decide) fun h3 F3 N3 => ?_
  refine wpAny_execs_nil ?_
  have x3 : Ext ⟨h, g, dr, tk, os⟩ { s₁ with heap := h3, toks := s₁.toks + 2 } := by
    rw [e₁]
    exact Ext.of_heap (s := ⟨h, g, dr, tk, os⟩) F3.keep
  refine ⟨rfl, x3, .judge (N3 _ (.head _)).1 (fun hm => ?_) (N3 _ (.tail _ (.head _))).1 (fun hm => ?_) (rv.ext x3)⟩
  · obtain ⟨ob, hob⟩ := live _ hm; rw [show (Shared.heap ⟨h, g, dr, tk, os⟩) = h from rfl, fx] at hob; cases hob
  · obtain ⟨ob, hob⟩ := live _ hm; rw [show (Shared.heap ⟨h, g, dr, tk, os⟩) = h from rfl, fd'] at hob; cases hob
end
end Mine
end

section
namespace Mine
open PySem PySem.Calls PyProof.Rows
open PySem.W

/-- the built-in names -/
structure Ctx (G : Gd) : Prop where
  len : BuiltAt G.h₀ "len" (.builtin "len")
  range : BuiltAt G.h₀ "range" (.type "range")
  enumerate : BuiltAt G.h₀ "enumerate" (.type "enumerate")
  min : BuiltAt G.h₀ "min" (.builtin "min")
  max : BuiltAt G.h₀ "max" (.builtin "max")
  abs : BuiltAt G.h₀ "abs" (.builtin "abs")
  sum : BuiltAt G.h₀ "sum" (.builtin "sum")
  sorted : BuiltAt G.h₀ "sorted" (.builtin "sorted")
  divmod : BuiltAt G.h₀ "divmod" (.builtin "divmod")
  isinstance : BuiltAt G.h₀ "isinstance" (.builtin "isinstance")
  str : BuiltAt G.h₀ "str" (.type "str")
  int : BuiltAt G.h₀ "int" (.type "int")
  list : BuiltAt G.h₀ "list" (.type "list")
  bool : BuiltAt G.h₀ "bool" (.type "bool")

section
variable {G : Gd} {lvl lvl' : Nat} {sc : Scope} {T T' T1 T2 : List (Str × Nat)} {ms : List Nat} {K : Frag}

theorem Prim.up {t : List Value → Sem Value} {g : List V → Option V} (h : Prim G lvl t g) (hl : lvl ≤ lvl') : Prim G lvl' t g := fun A M s vs ds d f => h A M s vs ds d (f.less hl)

theorem DenP.globStr {x y : Str} {t : Tok} {pos : Pos} (h : GlobAt G.h₀ x (.str y t)) (hx : isGlobal sc x = true) (hp : plainName x = true) : DenP G lvl sc T ms (.Name x pos) fun _ => some (.str y) := fun A env M s ρ d S q => by
  cases q; exact S.global hx hp (.inl h) ⟨Off.refl _ s, .str _ _⟩

theorem DenP.callK {x : Str} {np pos : Pos} {es : List Expr} {f : Value} {F : Rho → Option (List V)} {g : List V → Option V} (hK : K.In G.h₀) (hk : keepIn K f = true) (hp : Prim G lvl (fun vs => call f vs) g) (hb : GlobAt G.h₀ x f) (h : DenAll G lvl sc T ms es F)
    (hx : isGlobal sc x = true) (hn : plainName x = true) (ha : plainArgs es = true) : DenP G lvl sc T ms (.Call (.Name x np) es [] pos) fun ρ => (F ρ).bind g := fun A env M s ρ d S q => by
  obtain ⟨ds, hds, q⟩ := Option.bind_eq_some_iff.mp q
  cases es with
  | nil => cases ha
  | cons e es =>
    unfold plainArgs at ha
    rw [List.all_cons, Bool.and_eq_true, Bool.and_eq_true] at ha
    have he : starEach (e :: es) env = (false, eval e env) :: starEach es env := by cases e <;> first | rfl | cases ha.2.1
    refine callN S hx hn (.inl hb) (PySem.W.callWith_K (first := []) (hK.keeps S.base) hk (wp_use (h A env M s ρ ds pos S hds) fun vs s₁ ⟨x₁, r, _⟩ => ?_) he (plain_args ha.2.2))
    have S₁ := S.ext x₁
    exact ⟨hK.keeps S₁.base, wp_use (hp A M s₁ vs ds d S₁.fit S₁.base' S₁.live r q) fun v s₂ ⟨y, r'⟩ => ⟨x₁.trans y, r'⟩⟩
end

/-! the words of the functions -/
noncomputable abbrev RV := Rho → Option V
noncomputable abbrev RL := Rho → Option (List V)
noncomputable abbrev RB := Rho → Option Bool
noncomputable def fI (i : Int) : RV := fun _ => some (.int i)
noncomputable def fS (x : Str) : RV := fun _ => some (.str x)
noncomputable def fF (x : UInt64) : RV := fun _ => some (.flt x)
noncomputable def fN : RV := fun _ => some .none
noncomputable def fT (b : Bool) : RV := fun _ => some (.bool b)
noncomputable def fV (i : Nat) : RV := fun ρ => get ρ i
noncomputable def lV (i : Nat) : RL := fun ρ => asList (get ρ i)
noncomputable def lOf (F : RV) : RL := fun ρ => asList (F ρ)
noncomputable def lTup (F : RV) : RL := fun ρ => asTup (F ρ)
noncomputable def a0 : RL := fun _ => some []
noncomputable def aC (F : RV) (Fs : RL) : RL := fun ρ => (F ρ).bind fun d => (Fs ρ).bind fun ds => some (d :: ds)
noncomputable def fTup (F : RL) : RV := fun ρ => (F ρ).map .tup
noncomputable def fList (F : RL) : RV := fun ρ => (F ρ).map .list
noncomputable def f2 (g : List V → Option V) (F₁ F₂ : RV) : RV := fun ρ => (F₁ ρ).bind fun a => (F₂ ρ).bind fun b => g [a, b]
noncomputable def f1 (g : List V → Option V) (F : RV) : RV := fun ρ => (F ρ).bind fun a => g [a]
noncomputable def fC (g : List V → Option V) (F : RL) : RV := fun ρ => (F ρ).bind g
noncomputable def fM (Ty : String) (g : List V → Option V) (F : RV) (Fs : RL) : RV := fun ρ => (F ρ).bind fun a => if typeNameV a = some Ty then (Fs ρ).bind fun ds => g (a :: ds) else none
noncomputable def fAsk (g : List V → Option V) (F : RV) (Fs : RL) : RV := fun ρ => (F ρ).bind fun a => (judgeCols (some a)).bind fun _ => (Fs ρ).bind fun ds => g (a :: ds)
noncomputable def fSel (F : RV) : RV := fun ρ => judgeCols (F ρ)
noncomputable def bC (g : List V → Option V) (F₁ F₂ : RV) : RB := fun ρ => asBool ((F₁ ρ).bind fun a => (F₂ ρ).bind fun b => g [a, b])
noncomputable def bV (F : RV) : RB := fun ρ => asBool (F ρ)
noncomputable def bNot (F : RB) : RB := fun ρ => (F ρ).map (!·)
noncomputable def bAnd (F F' : RB) : RB := fun ρ => (F ρ).bind fun b => if b then F' ρ else some false
noncomputable def bOr (F F' : RB) : RB := fun ρ => (F ρ).bind fun b => if b then some true else F' ρ
noncomputable def bIn (g : V → List V → Option Bool) (F₁ : RV) (F₂ : RL) : RB := fun ρ => (F₁ ρ).bind fun a => (F₂ ρ).bind fun b => g a b
noncomputable def notIn (a : V) (ds : List V) : Option Bool := (inI a ds).map (!·)
noncomputable def aAnd (F : RV) (Fs : RB) : RB := fun ρ => (asBool (F ρ)).bind fun b => if b then Fs ρ else some false
noncomputable def fB (F : RB) : RV := fun ρ => (F ρ).map .bool
noncomputable def fCh (g g' : List V → Option V) (F₁ F₂ F₃ : RV) : RV := fun ρ => (F₁ ρ).bind fun a => (F₂ ρ).bind fun b => (asBool (g [a, b])).bind fun t => if t then (F₃ ρ).bind fun c => g' [b, c] else some (.bool false)
noncomputable def fIte (B : RB) (F₁ F₂ : RV) : RV := fun ρ => (B ρ).bind fun c => if c then F₁ ρ else F₂ ρ
noncomputable def pN : Rho → Option (Option Int) := fun _ => some none
noncomputable def pS (F : RV) : Rho → Option (Option Int) := fun ρ => (asInt (F ρ)).map some
noncomputable def fSl (F : RV) (Fl Fu : Rho → Option (Option Int)) : RV := fun ρ => ((asList (F ρ)).map .list).bind fun a => (Fl ρ).bind fun l => (Fu ρ).bind fun u => sliceV a l u
noncomputable def fSs (F : RV) (Fl Fu : Rho → Option (Option Int)) : RV := fun ρ => (match F ρ with | some (.str x) => some (V.str x) | _ => none).bind fun a => (Fl ρ).bind fun l => (Fu ρ).bind fun u => sliceV a l u
noncomputable def fIsi (ty : String) (F : RV) : RV := fun ρ => (F ρ).bind fun a => (isiV ty a).map .bool
noncomputable def lRange (F : RV) : RL := fun ρ => (asInt (F ρ)).bind fun n => if 0 ≤ n && n < 1000 then some (rangeL n) else none
noncomputable def fRange (F : RV) : RV := fun ρ => (asInt (F ρ)).bind fun n => if 0 ≤ n && n < 1000 then some (.list (rangeL n)) else none
noncomputable def lStr (F : RV) : RL := fun ρ => (asStr (F ρ)).bind fun x => if x.cps.all (· < 128) then some (signs x) else none
noncomputable def fLen (F : RL) : RV := fun ρ => (F ρ).bind fun ds => if ds.length < roof then some (.int ds.length) else none
noncomputable def b1 (i : Nat) : Rho → V → Option Rho := fun ρ d => some (put ρ i d)
noncomputable def bT (xs : List (Str × Nat)) : Rho → V → Option Rho := fun ρ d => (asSeq d).bind (putAll ρ xs)
noncomputable def tT : RB := fun _ => some true
noncomputable def one (F : RV) : RL := fun ρ => (F ρ).map ([·])
noncomputable def fComp (Fi : RL) (bnd : Rho → V → Option Rho) (Ft : RB) (Fe : RV) : RV := compF Fi bnd Ft (one Fe)
noncomputable def fComp2 (Fi : RL) (bnd : Rho → V → Option Rho) (Fi' : RL) (bnd' : Rho → V → Option Rho) (Fe : RV) : RV := compF Fi bnd tT fun ρ => (Fi' ρ).bind (compGo bnd' tT (one Fe) ρ)
noncomputable abbrev RX := Rho → Option Res
noncomputable def xNil : RX := fun ρ => some (.next ρ)
noncomputable def xAsg (F : RV) (bnd : Rho → V → Option Rho) : RX := fun ρ => (F ρ).bind fun d => (bnd ρ d).map .next
noncomputable def xAsc (F : RV) (i : Nat) : RX := fun ρ => (F ρ).bind fun d => some (.next (put ρ i d))
noncomputable def xOwn (F : RL) (i : Nat) : RX := fun ρ => (F ρ).bind fun ds => some (.next (put ρ i (.list ds)))
noncomputable def xApp (i : Nat) (F : RV) : RX := fun ρ => (asList (get ρ i)).bind fun ds => (F ρ).bind fun d => if ds.length < 10000 then some (.next (put ρ i (.list (ds ++ [d])))) else none
noncomputable def xAug (i : Nat) (Fi Fv : RV) : RX := fun ρ => (asList (get ρ i)).bind fun ds => (asInt (Fi ρ)).bind fun k => (asInt (Fv ρ)).bind fun v => (asInt (ds[k.toNat]?)).bind fun old =>
      if 0 ≤ k && k < ds.length && ds.length < 1000 then some (.next (put ρ i (.list (ds.set k.toNat (.int (old + v)))))) else none
noncomputable def xSwap (F : RV) (i j : Nat) : RX := fun ρ => (asTup (F ρ)).bind fun ds => match ds with
      | [dx, dy] => some (.next (put (put ρ j dy) i dx))
      | _ => none
noncomputable def xIte (B : RB) (F1 F2 : RX) : RX := fun ρ => (B ρ).bind fun b => if b then F1 ρ else F2 ρ
noncomputable def xFor (Fi : RL) (bnd : Rho → V → Option Rho) (Fb : RX) : RX := fun ρ => (Fi ρ).bind fun ds => forGo bnd Fb ρ ds
noncomputable def xEnum (F : RV) (bnd : Rho → V → Option Rho) (Fb : RX) : RX := fun ρ => (asList (F ρ)).bind fun ds => forGo bnd Fb ρ (enumL 0 ds)
noncomputable def xRet (F : RV) : RX := fun ρ => (F ρ).map .ret
noncomputable def xFrz (i j : Nat) (F : RX) : RX := fun ρ => (get ρ i).bind fun d => F (put ρ j d)

/-! the program's defs, as they lie in the given program -/
noncomputable def topBody (k : Nat) : List Stmt := match PySem.Challenge.pw_xh0008_01.main.body[k]? with
  | some (.FunctionDef _ _ b _ _ _ _ _ _ _) => b
  | _ => []
noncomputable def topScope (k : Nat) : Scope := match PySem.Challenge.pw_xh0008_01.main.body[k]? with
  | some (.FunctionDef _ _ _ _ _ _ s _ _ _) => s
  | _ => PySem.Challenge.pw_xh0008_01.main.scope
end Mine
end

section
namespace Mine
open PySem PySem.Calls PyProof.Rows

section
variable {prog : Program} {w : World} {A : Around} {E : Value → Shared → Prop} {s : Shared}

/-- the next value of a generator made by a def, and its state stays bare -/
theorem next_genfun {a : Addr} {g n : Nat} {gs : GenState} {P : Nat → Shared → Shared → Prop} {Y : Protocol} {Q : Option Value → Shared → Prop} (hh : A.handled = none)
    (hl : s.heap.NoLimit) (hroom : A.depth < recursionLimit) (hg : s.heap.IsGen a g) (hgs : s.gens[g]? = some gs)
    (hgo : gs.Goes (model prog w) A.in1 (fun n s₀ r s₁ => r = .ok (.ret .none) ∧ P n s₀ s₁) Y n (.send .none) (s.setGen g .running))
    (hY : ∀ v s₁ gs', gs'.bare = true → Y (n - 1) (s.setGen g .running) v s₁ (fun r' s'' => match n with
        | 0 => False
        | m + 1 => gs'.Goes (model prog w) A.in1 (fun n s₀ r s₁ => r = .ok (.ret .none) ∧ P n s₀ s₁) Y m r' s'') → Q (some v) (s₁.setGen g gs'))
    (hP : ∀ s₁, P n (s.setGen g .running) s₁ → ∀ h', (∀ b o, s₁.heap.get? b = some o → h'.get? b = some o) → Q none { s₁.setGen g .finished with heap := h' }) :
    wpAny (model prog w) A (pyNext (.ref a)) Q E s := by
  unfold pyNext
  refine wpAny_bind (wpAny_attempt (wpAny_callSpecial?_slot (name := Str.ofString "__next__") hg.typeIs slot_gen_next
    (wpAny_call_entry slot_gen_next hg.typeIs entry_gen_next ?_ (args_gen_next _))))
  show wpAny _ _ (Builtin.Generator.genWake (.ref a) (.send .none)) _ _ s
  unfold Builtin.Generator.genWake
  refine wpAny_bind (wpAny_holding (wpAny_genNumber hg (wpAny_bind (wpAny_genState hgs ?_))))
  have fin : ∀ (x : Result) s₁, (x = .ok (.ret .none) ∧ P n (s.setGen g .running) s₁) → ∀ h', (∀ b o, s₁.heap.get? b = some o → h'.get? b = some o) → Q none { s₁.setGen g .finished with heap := h' } := fun x s₁ hx => hP s₁ hx.2
  cases gs with
  | running => exact hgo.elim
  | finished => exact hgo.elim
  | _ =>
    refine wpAny_bind (wpAny_roomToWake hl hroom ?_)
    show wpAny _ _ (.resume g (.send .none) [] _) _ _ s
    refine wpAny_resumeQ hgs hgo (fun x s₁ hx => ?_) (fun v s₁ gs' hb hv => wpAny_pure ⟨v, rfl, wpAny_pure (hY v s₁ gs' hb hv)⟩)
    have hf := fin x s₁ hx
    obtain ⟨rfl, _⟩ := hx
    show wpAny _ _ (newExc (.type "StopIteration") [] >>= _) _ _ _
    refine wpAny_bind ?_
    simp only [newExc, newTuple]
    refine wpAny_bind (wpAny_newObj_type ?_ (by size_fits))
    refine wpAny_bind (m := firstArgMember _ _) (wpAny_of_eq (a := Value.none) (by first | rfl | (simp only [firstArgMember]; rfl)) ?_)
    refine wpAny_newObj_type ?_ (by size_fits)
    simp only [raiseNew]
    refine wpAny_bind (wpAny_bind (wpAny_handled ?_))
    rw [show A.in1.handled = none from hh]
    refine wpAny_throw (wpAny_bind (wpAny_isInstance (T := "StopIteration") (b := true) ⟨_, Heap.get?_push_size _ rfl, rfl⟩ isSubtype_stop ?_))
    exact wpAny_pure (hf _ fun b o hb => Heap.get?_push_of_some _ (Heap.get?_push_of_some _ hb))
end

/-- as Off, but generator g may move -/
structure OffG (g : Nat) (W : List Addr) (s s' : Shared) : Prop where
  heap : ∀ b o, b ∉ W → s.heap.get? b = some o → s'.heap.get? b = some o
  gens : ∀ (i : Nat) (x : GenState), i ≠ g → s.gens[i]? = some x → s'.gens[i]? = some x
  bare : AllBare s.gens → AllBare s'.gens
  os : s'.os = s.os
theorem Off.g {W : List Addr} {s s' : Shared} (x : Off W s s') (g : Nat) : OffG g W s s' := ⟨x.heap, fun i z _ e => x.gens i z e, x.bare, x.os⟩
theorem OffG.comp {g : Nat} {V V' : List Addr} {s s' s'' : Shared} (x : OffG g V s s') (y : OffG g V' s' s'') (h : ∀ a ∈ V', a ∈ V ∨ s.heap.get? a = none) : OffG g V s s'' :=
  ⟨fun b ob hb e => y.heap b ob (fun hm => (h b hm).elim hb (fun q => by rw [q] at e; cases e)) (x.heap b ob hb e), fun i z hi e => y.gens i z hi (x.gens i z hi e), fun e => y.bare (x.bare e), y.os.trans x.os⟩

section
variable {G : Gd} {lvl : Nat} {sc : Scope} {T : List (Str × Nat)} {ms : List Nat} {A : Around} {env : Env} {W W' M M' M₀ M₁ K : List Addr} {s s' s'' : Shared} {ρ ρ' : Rho} {g : Nat}

theorem for_coreG {it : Value} {target : Expr} {body : List Stmt} {ds : List V} {bnd : Rho → V → Option Rho} {Fb : Rho → Option Res} {r : Res} {R : Result → Shared → Prop} (J : Nat → List Addr → List Addr → Shared → Prop) (Fin : List Addr → Shared → Rho → Prop)
    (hM0 : ∀ i W M s, J i W M s → ∀ a ∈ M₀, a ∈ M) (hK : ∀ i W M s', J i W M s' → ∀ a ∈ K, (∃ o, s'.heap.get? a = some o) ∨ s.heap.get? a = none)
    (hturn : ∀ i d W M s ρ ρ1, ds[i]? = some d → StW G lvl sc T ms A env W M s ρ → J i W M s → bnd ρ d = some ρ1 →
      wpAny (model G.prog G.w) A (pyNext it) (fun r s₁ => ∃ v, r = some v ∧ wpAny (model G.prog G.w) A (letOwnedTupleGo target it v) (fun _ s₂ => wpAny (model G.prog G.w) A (assign target env v) (fun _ s₃ =>
        ∃ W' M', (∀ a ∈ W', a ∈ W ∨ s.heap.get? a = none) ∧ OffG g (K ++ W) s s₃ ∧ StW G lvl sc T ms A env W' M' s₃ ρ1 ∧ J (i + 1) W' M' s₃) NoE s₂) NoE s₁) NoE s)
    (hdone : ∀ W M s ρ, StW G lvl sc T ms A env W M s ρ → J ds.length W M s → wpAny (model G.prog G.w) A (pyNext it) (fun r s₁ => r = none ∧ OffG g K s s₁ ∧ Fin W s₁ ρ) NoE s)
    (hkeep : ∀ i W W' M s s', J (i + 1) W M s → Off W s s' → (∀ a ∈ W', a ∈ W ∨ s.heap.get? a = none) → J (i + 1) W' M s')
    (hB : DenS G lvl sc T T ms body Fb)
    (S : StW G lvl sc T ms A env W M₁ s ρ) (hJ : J 0 W M₁ s) (hgo : forGo bnd Fb ρ ds = some r)
    (hR : ∀ fl s' W', (∀ a ∈ W', a ∈ W ∨ s.heap.get? a = none) → OffG g (K ++ W) s s' → (match r with
      | .next ρ' => fl = .next ∧ Fin W' s' ρ'
      | .ret d => ∃ v, fl = .ret v ∧ Rep G.C s'.heap M₀ v d ∧ Live s'.heap M₀) → R (.ok fl) s') :
    codeAny (model G.prog G.w) A (.forLoop target it body [] env) R s := by
  refine codeAny_forLoop_any (fun n s' => ∃ i W' M' ρ', n = ds.length + 1 - i ∧ i ≤ ds.length ∧ (∀ a ∈ W', a ∈ W ∨ s.heap.get? a = none) ∧ OffG g (K ++ W) s s' ∧ StW G lvl sc T ms A env W' M' s' ρ' ∧ J i W' M' s' ∧ forGo bnd Fb ρ' (ds.drop i) = some r)
    (fun n s' hI => ?_) (ds.length + 1) ⟨0, W, M₁, ρ, rfl, Nat.zero_le _, fun _ h => .inl h, (Off.refl _ s).g g, S, hJ, by simpa using hgo⟩
  obtain ⟨i, W₁, M', ρ', rfl, hi, hW₁, off, S₁, hJ₁, hgo⟩ := hI
  have back : ∀ {s₂ : Shared}, OffG g (K ++ W) s s₂ → (∀ a ∈ K, (∃ o, s₂.heap.get? a = some o) ∨ s.heap.get? a = none) → ∀ a, s₂.heap.get? a = none → a ∈ W ∨ s.heap.get? a = none := fun {s₂} o lv a ha => by
    by_cases hm : a ∈ K ++ W
    · rcases List.mem_append.mp hm with h | h
      · rcases lv a h with ⟨ob, hob⟩ | h'
        · rw [ha] at hob; cases hob
        · exact .inr h'
      · exact .inl h
    · cases e : s.heap.get? a with
      | none => exact .inr rfl
      | some ob => rw [o.heap a ob hm e] at ha; cases ha
  rcases Nat.lt_or_ge i ds.length with hlt | hge
  · obtain ⟨d, hd⟩ : ∃ d, ds[i]? = some d := ⟨_, List.getElem?_eq_getElem hlt⟩
    have hdrop : ds.drop i = d :: ds.drop (i + 1) := by
      rw [List.drop_eq_getElem_cons hlt]
      rw [List.getElem?_eq_getElem hlt] at hd
      cases hd; rfl
    rw [hdrop] at hgo
    unfold forGo at hgo
    obtain ⟨ρ1, hb, hgo⟩ := Option.bind_eq_some_iff.mp hgo
    obtain ⟨r₁, hr₁, hgo⟩ := Option.bind_eq_some_iff.mp hgo
    refine wpAny_mono (hturn i d W₁ M' s' ρ' ρ1 hd S₁ hJ₁ hb) (fun rr s₁ h => ?_) fun _ _ f => f.elim
    obtain ⟨v, rfl, h⟩ := h
    refine wpAny_mono h (fun _ s₂ h => wpAny_mono h (fun _ s₃ h => ?_) fun _ _ f => f.elim) fun _ _ f => f.elim
    obtain ⟨W₂, M₂, hW₂, o₂, S₂, hJ₂⟩ := h
    have hsub : ∀ a ∈ K ++ W₁, a ∈ K ++ W ∨ s.heap.get? a = none := fun a ha => by
      rcases List.mem_append.mp ha with h | h
      · exact .inl (List.mem_append.mpr (.inl h))
      · exact (hW₁ a h).imp (fun h => List.mem_append.mpr (.inr h)) id
    have o₃ : OffG g (K ++ W) s s₃ := off.comp o₂ hsub
    have hW₂' : ∀ a ∈ W₂, a ∈ W ∨ s.heap.get? a = none := fun a ha => (hW₂ a ha).elim (hW₁ a) (back off (hK _ _ _ _ hJ₁) a)
    refine wpAny_mono (hB A env W₂ M₂ s₃ ρ1 r₁ S₂ hr₁) (fun fl s₄ hA => ?_) fun _ _ f => f.elim
    obtain ⟨W₃, hW₃, o₄, hA⟩ := hA
    have hsub₂ : ∀ a ∈ W₂, a ∈ K ++ W ∨ s.heap.get? a = none := fun a ha => (hW₂' a ha).imp (fun h => List.mem_append.mpr (.inr h)) id
    have o₅ : OffG g (K ++ W) s s₄ := o₃.comp (o₄.g g) hsub₂
    have hW₃' : ∀ a ∈ W₃, a ∈ W ∨ s.heap.get? a = none := fun a ha => (hW₃ a ha).elim (hW₂' a) (back o₃ (hK _ _ _ _ hJ₂) a)
    cases r₁ with
    | next ρ2 =>
      obtain ⟨rfl, S₄⟩ := hA
      exact ⟨ds.length + 1 - (i + 1), by omega, i + 1, W₃, M₂, ρ2, rfl, hlt, hW₃', o₅, S₄, hkeep i W₂ W₃ M₂ s₃ s₄ hJ₂ o₄ hW₃, hgo⟩
    | ret dd =>
      cases hgo
      obtain ⟨v, rfl, h, hl⟩ := hA
      exact hR _ s₄ W₃ hW₃' o₅ ⟨v, rfl, h.mono fun b ob hb e => ⟨e, fun hm => hb (hM0 _ _ _ _ hJ₂ b hm)⟩, fun a ha => hl a (hM0 _ _ _ _ hJ₂ a ha)⟩
  · have hie : i = ds.length := Nat.le_antisymm hi hge
    subst hie
    rw [List.drop_length] at hgo
    unfold forGo at hgo
    cases hgo
    refine wpAny_mono (hdone W₁ M' s' ρ' S₁ hJ₁) (fun rr s₁ h => ?_) fun _ _ f => f.elim
    obtain ⟨rfl, o₁, S₂⟩ := h
    exact wpAny_execs_nil (hR .next s₁ W₁ hW₁ (off.comp o₁ fun a ha => .inl (List.mem_append.mpr (.inl ha))) ⟨rfl, S₂⟩)
end
end Mine
end

section
namespace Mine
open PySem PySem.Calls PyProof.Rows

/-- the escaped signs, one by one: (place, sign) -/
noncomputable def escGo : Nat → Bool → List Nat → List V
  | n, false, [] => []
  | n, true, [] => [.tup [.int ((n : Int) - 1), .str ⟨#[92]⟩]]
  | n, true, c :: r => .tup [.int n, .str ⟨#[92, c]⟩] :: escGo (n + 1) false r
  | n, false, c :: r => if c = 92 then escGo (n + 1) true r else .tup [.int n, .str ⟨#[c]⟩] :: escGo (n + 1) false r

/-- whether a mark behind the last sign is still open -/
noncomputable def escEnd : Bool → List Nat → Bool
  | b, [] => b
  | true, _ :: r => escEnd false r
  | false, c :: r => escEnd (c == 92) r

theorem StW.reA {G : Gd} {lvl lvl' : Nat} {sc : Scope} {T : List (Str × Nat)} {ms : List Nat} {A A' : Around} {env : Env} {W M₀ : List Addr} {s : Shared} {ρ : Rho} (S : StW G lvl sc T ms A env W M₀ s ρ) (f : Fit A' lvl') : StW G lvl' sc T ms A' env W M₀ s ρ :=
  ⟨⟨f, S.st.eok, S.st.base, S.st.live, S.st.loc, S.st.cellAt, S.st.slots, S.st.own⟩, S.frame, S.cells, S.lists, S.above⟩

section
variable {G : Gd} {lvl : Nat} {sc : Scope} {T T' : List (Str × Nat)} {ms : List Nat} {A : Around} {env : Env} {W M₀ : List Addr} {s s₀ : Shared} {ρ ρ' : Rho} {R : GenEnd} {Y : Protocol} {n : Nat} {c : Code} {fs : List Frame}
  {K : Flow → Sem PySem.Fin} {H : Value → Sem PySem.Fin} {gd : Bool → Bool} {lv : List Value → List Value}

theorem seg_stmt {st : Stmt} {rest : List Stmt} {F : Rho → Option Res} (hX : DenX G lvl sc T T' ms st F) (S : StW G lvl sc T ms (A.over c fs) env W M₀ s ρ) (hF : F ρ = some (.next ρ'))
    (h : ∀ W' s', (∀ a ∈ W', a ∈ W ∨ s.heap.get? a = none) → Off W s s' → StW G lvl sc T' ms (A.over c fs) env W' M₀ s' ρ' → Seg (model G.prog G.w) A R Y n s₀ c ((execs rest env).wrap K H gd lv) fs s') :
    Seg (model G.prog G.w) A R Y n s₀ c ((execs (st :: rest) env).wrap K H gd lv) fs s := by
  refine seg_execs_cons (seg_wrap (wpAny_mono (hX _ env W M₀ s ρ _ S hF) (fun fl s' hA => ?_) fun _ _ f => f.elim))
  obtain ⟨W', hW, o, rfl, S'⟩ := hA
  exact h W' s' hW o S'
theorem seg_if {test : Expr} {body orelse : List Stmt} {pos : Pos} {F : Rho → Option Bool} {b : Bool} (hB : DenB G lvl sc T ms test F) (S : StW G lvl sc T ms (A.over c fs) env W M₀ s ρ) (hF : F ρ = some b)
    (h : ∀ s', Ext s s' → StW G lvl sc T ms (A.over c fs) env W M₀ s' ρ → Seg (model G.prog G.w) A R Y n s₀ c ((execs (if b then body else orelse) env).wrap K H gd lv) fs s') :
    Seg (model G.prog G.w) A R Y n s₀ c ((exec (.If test body orelse pos) env).wrap K H gd lv) fs s := by
  rw [arm_exec_If]
  refine seg_bind_wrap (wpAny_standAt (seg_bind_wrap (wpAny_mono (hB _ env _ s ρ b S.st hF) (fun b' s' h' => ?_) fun _ _ f => f.elim)))
  obtain ⟨x, rfl⟩ := h'
  have := h s' x (S.ext x)
  cases b' with
  | true => exact this
  | false => exact this
end
end Mine
end

section
namespace Mine
open PySem PySem.Calls PyProof.Rows

noncomputable def escCond (G : Gd) (V : List Addr) (s s'' : Shared) : Prop := (∀ b ∈ V, ∀ o, s.heap.get? b = some o → s''.heap.get? b = some o) ∧ (∀ b o, G.h₀.get? b = some o → s''.heap.get? b = some o)
noncomputable def escY (G : Gd) (U : List Addr) (all : List Mine.V) : Protocol := fun m s₀ v s kap =>
  (∃ a p t z u n, v = .ref a ∧ s₀.heap.get? a = none ∧ a ∉ U ∧ s.heap.get? a = some (tpl [.int p t, .str z u] n) ∧ all[all.length - 1 - m]? = some (.tup [.int p, .str z])) ∧ Off U s₀ s ∧
    Live s.heap U ∧ ∀ s'', escCond G U s s'' → kap (.send .none) s''
noncomputable def escR (V : List Addr) : GenEnd := fun n s₀ r s₁ => r = .ok (.ret .none) ∧ (n = 0 ∧ Off V s₀ s₁)

section
variable {G : Gd} {lvl : Nat} {sc : Scope} {T T' : List (Str × Nat)} {ms : List Nat} {A : Around} {env : Env} {W M₀ : List Addr} {s s₀ : Shared} {ρ ρ' : Rho} {n : Nat} {c : Code} {fs : List Frame}
  {K : Flow → Sem PySem.Fin} {H : Value → Sem PySem.Fin} {gd : Bool → Bool} {lv : List Value → List Value} {U : List Addr} {all : List Mine.V}

theorem seg_yielded {es : List Expr} {k : Nat} {tp yp pos : Pos} {F : Rho → Option (List V)} {p : Int} {z : Str} (hA : DenAll G lvl sc T ms es F) (S : StW G lvl sc T ms (A.over c fs) env W M₀ s ρ) (hF : F ρ = some [.int p, .str z])
    (hfs : splitAtGen fs = none) (hgd : gd false = false) (hfg : fs.any Frame.guarded = false) (hco : env.scope.isCoroutine = false) (hi : interactive env = false)
    (hoff : Off U s₀ s) (hL : Live s.heap U) (hidx : all[all.length - 1 - n]? = some (.tup [.int p, .str z]))
    (h : ∀ s' s'', Ext s s' → escCond G U s' s'' → Seg (model G.prog G.w) A (escR U) (escY G U all) n s'' c (K .next) fs s'') :
    Seg (model G.prog G.w) A (escR U) (escY G U all) (n + 1) s₀ c ((exec (.Expr (.Yield (some (.Tuple es k tp)) yp) pos) env).wrap K H gd lv) fs s := by
  refine seg_Expr_Yield hfs hgd hfg (wpAny_mono (wpAny_Tuple (E := NoE) (Q := fun v s' => ∃ s₁ vs, Ext s s₁ ∧ RepAll G.C s₁.heap (W ++ M₀) vs [.int p, .str z] ∧ v = .ref s₁.heap.objs.size ∧ s' = { s₁ with heap := s₁.heap.push (tpl vs 0) })
    (wp_use (hA _ env _ s ρ _ tp S.st hF) fun vs s₁ ⟨x, r, hn⟩ => ⟨by rw [r.length, sizeLine_eq]; show (2 : Nat) ≤ 16777216; decide, s₁, vs, x, r, rfl, rfl⟩)) (fun v s' h' => ?_) fun _ _ f => f.elim) hco hi
  obtain ⟨s₁, vs, x, r, rfl, rfl⟩ := h'
  intro kap hkap
  obtain ⟨u, w, rfl, ru, rw'⟩ := r.two
  obtain ⟨t, rfl⟩ := ru.isInt
  obtain ⟨t', rfl⟩ := rw'.isStr
  have x' : Ext s { s₁ with heap := s₁.heap.push (tpl [.int p t, .str z t'] 0) } := Off.trans x (Ext.push s₁ _ _)
  have f := next_none x
  have hnot : s₁.heap.objs.size ∉ U := fun hm => by
    obtain ⟨o', ho'⟩ := hL _ hm; exact absurd (Heap.lt_size (x.keep _ _ ho')) (Nat.lt_irrefl _)
  refine ⟨⟨_, p, t, z, t', 0, rfl, ?_, hnot, Heap.get?_push_size _ rfl, hidx⟩, hoff.trans x'.off, hL.ext x', fun s'' hc => hkap .none s'' (h _ s'' x' hc)⟩
  cases e : s₀.heap.get? s₁.heap.objs.size with
  | none => rfl
  | some o => have := hoff.heap _ _ hnot e; rw [f] at this; cases this
end
end Mine
end

section
namespace Mine
open PySem PySem.Calls PyProof.Rows

/-- data that need no heap -/
noncomputable def scalar : V → Bool
  | .none => true
  | .bool _ => true
  | .int _ => true
  | .flt _ => true
  | .str _ => true
  | _ => false
theorem Rep.scalar {C : Addr} {h h' : Heap} {M M' : List Addr} {v : Value} {d : V} (r : Rep C h M v d) (hs : scalar d = true) : Rep C h' M' v d := by
  cases r with
  | none => exact .none
  | bool b => exact .bool b
  | int i t => exact .int i t
  | flt b t => exact .flt b t
  | str x t => exact .str x t
  | _ => cases hs

/-- what the generator holds between its turns -/
structure EscSt (G : Gd) (sc : Scope) (T : List (Str × Nat)) (A' : Around) (env : Env) (e it : Addr) (x : Str) (t : Tok) (i : Nat) (esc : Bool) (ρ : Rho) (s : Shared) : Prop where
  st : StW G 0 sc T [] A' env [env.locals] [e, it] s ρ
  ne : e ≠ it
  lt : it ≤ e
  off : e ≠ env.locals ∧ it ≠ env.locals
  high : G.h₀.get? e = none ∧ G.h₀.get? it = none
  enum : ∃ old, IsEnum s.heap e it i old
  iter : s.heap.IsStrIter it "str_ascii_iterator" x t i
  flag : get ρ 2 = some (.bool esc)
  begun : esc = true → 0 < i
  plain : ∀ j d, get ρ j = some d → scalar d = true
  last : 0 < i → get ρ 1 = some (.int ((i : Int) - 1))

section
variable {G : Gd} {sc : Scope} {T : List (Str × Nat)} {A A' A'' : Around} {env : Env} {e it : Addr} {x : Str} {t : Tok} {i : Nat} {esc : Bool} {ρ ρ' : Rho} {s s' s'' s₀ : Shared}

theorem EscSt.live (S : EscSt G sc T A' env e it x t i esc ρ s) : Live s.heap [env.locals, e, it] := fun a ha => S.st.st.live a (by simpa using ha)
/-- the generator sleeps; what it holds is as it was -/
theorem EscSt.wake (S : EscSt G sc T A' env e it x t i esc ρ s) (f : Fit A'' 0) (hc : escCond G [env.locals, e, it] s s'') : EscSt G sc T A'' env e it x t i esc ρ s'' := by
  have hT := S.st.st
  have kL : ∀ o, s.heap.get? env.locals = some o → s''.heap.get? env.locals = some o := fun o h => hc.1 _ (.head _) o h
  have kE : ∀ o, s.heap.get? e = some o → s''.heap.get? e = some o := fun o h => hc.1 _ (.tail _ (.head _)) o h
  have kI : ∀ o, s.heap.get? it = some o → s''.heap.get? it = some o := fun o h => hc.1 _ (.tail _ (.tail _ (.head _))) o h
  have al : ∀ b ∈ [env.locals] ++ [e, it], ∀ o, s.heap.get? b = some o → s''.heap.get? b = some o := fun b hb => hc.1 b (by simpa using hb)
  have ns : ∀ m, s.heap.Ns env.locals m → s''.heap.Ns env.locals m := fun m n => n.at' kL
  have cf : ∀ y c v, env.cells.lookup y = some c → s.heap.IsCell c v → s''.heap.IsCell c v := fun y c v l ⟨o, ho, hd⟩ => ⟨o, al c (hT.cellAt y c l).1 o ho, hd⟩
  have sf : ∀ y v, SlotVal s.heap env y v → SlotVal s''.heap env y v := fun y v sv => by
    rcases sv with ⟨kk, m, n, q⟩ | ⟨kk, c, l, q⟩
    · exact .inl ⟨kk, m, ns m n, q⟩
    · exact .inr ⟨kk, c, l, cf y c _ l q⟩
  obtain ⟨old, hE⟩ := S.enum
  refine ⟨⟨⟨f, hT.eok, hc.2, fun b hb => ?_, ⟨hT.loc.1, let ⟨m, n⟩ := hT.loc.2; ⟨m, ns m n⟩⟩, fun y c l => ⟨(hT.cellAt y c l).1, let ⟨v, q⟩ := (hT.cellAt y c l).2; ⟨v, cf y c v l q⟩⟩, fun y j d hy hg => ?_, fun _ _ _ _ _ _ _ _ h1 => by cases h1⟩,
    S.st.frame, S.st.cells, fun _ _ _ _ h => (by cases h), S.st.above⟩, S.ne, S.lt, S.off, S.high, ⟨old, kE _ hE⟩, (let ⟨o, ho, q⟩ := S.iter; ⟨o, kI o ho, q⟩), S.flag, S.begun, S.plain, S.last⟩
  · obtain ⟨o, ho⟩ := hT.live b hb; exact ⟨o, al b hb o ho⟩
  · obtain ⟨v, sv, r⟩ := hT.slots y j d hy hg
    exact ⟨v, sf y v sv, Rep.scalar r (S.plain j d hg)⟩

/-- an assignment within the generator -/
theorem seg_assign {lvl : Nat} {T' : List (Str × Nat)} {ms : List Nat} {W M₀ : List Addr} {R : GenEnd} {Y : Protocol} {n : Nat} {c : Code} {fs : List Frame} {K : Flow → Sem PySem.Fin} {H : Value → Sem PySem.Fin} {gd : Bool → Bool} {lv : List Value → List Value}
    {target value : Expr} {pos : Pos} {rest : List Stmt} {xs : List (Str × Nat)} {bnd : Rho → V → Option Rho} {F : Rho → Option V} {d : V}
    (h : DenP G lvl sc T ms value F) (ht : DenT G lvl sc T T' ms target xs bnd) (hk : keepOk T T' ms xs = true)
    (hsw : ∀ env : Env, env.scope = sc → swapsWithSole [target] value pos.line env = pure false) (hw : ∀ env : Env, env.scope = sc → swappedStores [target] value env = pure none)
    (hae : ∀ env v, assignAll v ((assignEach [target] env).map (·.2)) = assign target env v)
    (S : StW G lvl sc T ms (A.over c fs) env W M₀ s ρ) (hF : F ρ = some d) (hb : bnd ρ d = some ρ')
    (hn : ∀ s', Off (touches env xs) s s' → StW G lvl sc T' ms (A.over c fs) env W M₀ s' ρ' → Seg (model G.prog G.w) A R Y n s₀ c ((execs rest env).wrap K H gd lv) fs s') :
    Seg (model G.prog G.w) A R Y n s₀ c ((execs (.Assign [target] value pos :: rest) env).wrap K H gd lv) fs s := by
  refine seg_execs_cons (seg_wrap (wpAny_mono (wpAny_Assign_stores (E := NoE) (Q := fun fl s' => fl = .next ∧ Off (touches env xs) s s' ∧ StW G lvl sc T' ms (A.over c fs) env W M₀ s' ρ') (wp_use (h _ env _ s ρ d S.st hF) fun v s₁ ⟨x, r⟩ => ?_) (hsw env S.st.eok.scope) (hw env S.st.eok.scope)) (fun fl s' hA => ?_) fun _ _ f => f.elim))
  · rw [hae]
    exact wp_use (ht _ env _ s₁ ρ v d ρ' (S.st.ext x) r hb) fun _ s₂ ⟨o, S', sb⟩ => ⟨rfl, x.off.trans o, (S.ext x).afterT S' hk sb⟩
  · obtain ⟨rfl, o, S'⟩ := hA
    exact hn s' o S'
end
end Mine
end

section
namespace Mine
open PySem PySem.Calls PyProof.Rows

noncomputable abbrev escT : List (Str × Nat) := [("addr", 0), ("pos", 1), ("escape", 2), ("ch", 3)]
noncomputable abbrev escXs : List (Str × Nat) := [("pos", 1), ("ch", 3)]

section
variable {G : Gd} {sc : Scope} {A : Around} {env : Env} {e it : Addr} {x : Str} {t : Tok} {fs : List Frame} {all : List V}

theorem EscSt.set {sc : Scope} {A' : Around} {i : Nat} {esc b : Bool} {ρ : Rho} {s s' : Shared} (S : EscSt G sc escT A' env e it x t i esc ρ s) (hb : b = true → 0 < i) (S' : StW G 0 sc escT [] A' env [env.locals] [e, it] s' (put ρ 2 (.bool b))) (o : Off (touches env [("escape", 2)]) s s') :
    EscSt G sc escT A' env e it x t i b (put ρ 2 (.bool b)) s' ∧ Off [env.locals, e, it] s s' := by
  have tL : ∀ a ∈ touches env [("escape", 2)], a ∈ [env.locals] := fun a h => S.st.touches a h
  have hW : ∀ a ∈ [e, it], a ∉ [env.locals] := fun a ha hm => by
    rw [List.mem_singleton.mp hm] at ha
    rcases List.mem_cons.mp ha with q | ha
    · exact S.off.1 q.symm
    · exact S.off.2 (List.mem_singleton.mp ha).symm
  obtain ⟨old, hE⟩ := S.enum
  obtain ⟨oi, hoi, q⟩ := S.iter
  refine ⟨⟨S', S.ne, S.lt, S.off, S.high, ⟨old, o.heap _ _ (fun h => hW _ (.head _) (tL _ h)) hE⟩, ⟨oi, o.heap _ _ (fun h => hW _ (.tail _ (.head _)) (tL _ h)) hoi, q⟩, get_put_self _ _ _, hb, fun j d hj => ?_, fun h => ?_⟩, o.mono fun a h => (List.mem_singleton.mp (tL a h)) ▸ .head _⟩
  · by_cases h2 : j = 2
    · subst h2; rw [get_put_self] at hj; cases hj; rfl
    · rw [get_put_ne _ _ (Ne.symm h2)] at hj; exact S.plain j d hj
  · rw [get_put_ne _ _ (by decide)]; exact S.last h

theorem at_rest {pre rest all : List V} {d : V} (h : all = pre ++ d :: rest) : all[all.length - 1 - rest.length]? = some d := by
  subst h
  have : (pre ++ d :: rest).length - 1 - rest.length = pre.length := by rw [List.length_append, List.length_cons]; omega
  rw [this, List.getElem?_append_right (Nat.le_refl _)]
  simp

theorem esc_loop {elts : List Expr} {k : Nat} {tp p1 p2 p3 p4 p5 p6 yp1 yp2 tp1 tp2 : Pos} {k1 k2 : Nat} {t1 t2 v1 v2 g1 g2 : Expr} {es1 es2 : List Expr}
    (hT : DenT G 0 sc escT escT [] (.Tuple elts k tp) escXs (bT escXs))
    (hB1 : DenB G 0 sc escT [] t1 (bV (fV 2))) (hY1 : DenAll G 0 sc escT [] es1 (aC (fV 1) (aC (f2 addV (fS ⟨#[92]⟩) (fV 3)) a0)))
    (hV1 : DenP G 0 sc escT [] v1 (fT false)) (hG1 : DenT G 0 sc escT escT [] g1 [("escape", 2)] (b1 2))
    (hB2 : DenB G 0 sc escT [] t2 (bC eqV (fV 3) (fS ⟨#[92]⟩))) (hY2 : DenAll G 0 sc escT [] es2 (aC (fV 1) (aC (fV 3) a0)))
    (hV2 : DenP G 0 sc escT [] v2 (fT true)) (hG2 : DenT G 0 sc escT escT [] g2 [("escape", 2)] (b1 2))
    (hsw1 : ∀ env : Env, env.scope = sc → swapsWithSole [g1] v1 p2.line env = pure false) (hw1 : ∀ env : Env, env.scope = sc → swappedStores [g1] v1 env = pure none) (hae1 : ∀ env v, assignAll v ((assignEach [g1] env).map (·.2)) = assign g1 env v)
    (hsw2 : ∀ env : Env, env.scope = sc → swapsWithSole [g2] v2 p3.line env = pure false) (hw2 : ∀ env : Env, env.scope = sc → swappedStores [g2] v2 env = pure none) (hae2 : ∀ env v, assignAll v ((assignEach [g2] env).map (·.2)) = assign g2 env v)
    (hco : env.scope.isCoroutine = false) (hi : interactive env = false) (hfs : splitAtGen fs = none) (hfg : fs.any Frame.guarded = false)
    (hsc : storable sc "escape" = true)
    (c : Code) (hc : c = .forLoop (.Tuple elts k tp) (.ref e) [.If t1 [.Expr (.Yield (some (.Tuple es1 k1 tp1)) yp1) p1, .Assign [g1] v1 p2] [.If t2 [.Assign [g2] v2 p3] [.Expr (.Yield (some (.Tuple es2 k2 tp2)) yp2) p4] p5] p6] [] env)
    (fit : Fit (A.over c fs) 0)
    (hend : ∀ ρ s₀ s, StW G 0 sc escT [] (A.over c fs) env [env.locals] [] s ρ → get ρ 2 = some (.bool false) → Off [env.locals, e, it] s₀ s →
      Seg (model G.prog G.w) A (escR [env.locals, e, it]) (escY G [env.locals, e, it] all) 0 s₀ (.block [] env) ((model G.prog G.w).den (.block [] env)) fs s) :
    ∀ (cs : List Nat) (i : Nat) (esc : Bool) (ρ : Rho) (s₀ s : Shared), x.cps.toList.drop i = cs → escEnd esc cs = false → i ≤ x.cps.size → (∃ pre, all = pre ++ escGo i esc cs) → EscSt G sc escT (A.over c fs) env e it x t i esc ρ s → Off [env.locals, e, it] s₀ s →
      Seg (model G.prog G.w) A (escR [env.locals, e, it]) (escY G [env.locals, e, it] all) (escGo i esc cs).length s₀ c ((model G.prog G.w).den c) fs s := by
  have hden : (model G.prog G.w).den c = ((forTurn (.Tuple elts k tp) (.ref e) [.If t1 [.Expr (.Yield (some (.Tuple es1 k1 tp1)) yp1) p1, .Assign [g1] v1 p2] [.If t2 [.Assign [g2] v2 p3] [.Expr (.Yield (some (.Tuple es2 k2 tp2)) yp2) p4] p5] p6] [] env).onRaise (fun x => do noteFrame x env; theTreesLotGoes x)) := by rw [hc]; rfl
  have hq : c.quiet = true := by rw [hc]; rfl
  intro cs
  induction cs with
  | nil =>
    intro i esc ρ s₀ s hcs hesc hile hall S hoff
    have hi'' : i = x.cps.size := by
      have := congrArg List.length hcs
      simp at this; omega
    rw [hden, Sem.onRaise_eq_wrap]
    unfold forTurn
    obtain ⟨old, hE⟩ := S.enum
    refine seg_bind_wrap (wpAny_standAt (seg_bind_wrap (wpAny_onRaise (wpAny_mono (wpAny_pyNext_enum_endD (E := NoE) (Q := fun r s' => r = none ∧ ∃ h', Heap.ExtBut it s.heap h' ∧ s' = { s with heap := h' })
      (Draws.strAscii (A := (A.over c fs).in1) S.st.st.fit.handled it x t) hE (hi'' ▸ S.iter) fun h' hx => ⟨rfl, h', hx, rfl⟩) (fun r s' h' => ?_) fun _ _ f => f.elim))))
    obtain ⟨rfl, h', hx, rfl⟩ := h'
    have o : Off [e, it] s { s with heap := h' } := Off.of_heap (tk := s.toks) fun b ob hb eb => hx b ob (fun q => hb (q ▸ .tail _ (.head _))) eb
    have hW : ∀ a ∈ [e, it], a ∉ [env.locals] := fun a ha hm => by
      rw [List.mem_singleton.mp hm] at ha
      rcases List.mem_cons.mp ha with q | ha
      · exact S.off.1 q.symm
      · exact S.off.2 (List.mem_singleton.mp ha).symm
    have S' : StW G 0 sc escT [] (A.over c fs) env [env.locals] [] { s with heap := h' } ρ := StW.dropK (K := [e, it]) (M₀ := []) S.st o hW (fun _ _ h => nomatch h) fun a ha => by
      rcases List.mem_cons.mp ha with rfl | ha
      · exact S.high.1
      · rw [List.mem_singleton.mp ha]; exact S.high.2
    have he : esc = false := hesc
    subst he
    exact seg_again rfl (hend ρ s₀ _ S' S.flag (hoff.trans (o.mono fun a ha => .tail _ ha)))
  | cons ch cs ih =>
    intro i esc ρ s₀ s hcs hesc hile hall S hoff
    have hch : x.cps[i]? = some ch := by
      have := congrArg List.head? hcs
      rw [List.head?_drop, List.head?_cons, Array.getElem?_toList] at this
      exact this
    have hlt : i < x.cps.size := (Array.getElem?_eq_some_iff.mp hch).1
    have hcs' : x.cps.toList.drop (i + 1) = cs := by
      have := congrArg List.tail hcs
      rwa [List.tail_drop, List.tail_cons] at this
    rw [hden, Sem.onRaise_eq_wrap]
    unfold forTurn
    obtain ⟨old, hE⟩ := S.enum
    have hW : ∀ a ∈ [e, it], a ∉ [env.locals] := fun a ha hm => by
      rw [List.mem_singleton.mp hm] at ha
      rcases List.mem_cons.mp ha with q | ha
      · exact S.off.1 q.symm
      · exact S.off.2 (List.mem_singleton.mp ha).symm
    have hH : ∀ a ∈ [e, it], G.h₀.get? a = none := fun a ha => by
      rcases List.mem_cons.mp ha with rfl | ha
      · exact S.high.1
      · rw [List.mem_singleton.mp ha]; exact S.high.2
    -- the turn's head: the next item, and its two names
    refine seg_bind_wrap (wpAny_standAt (seg_bind_wrap (wpAny_onRaise (wpAny_mono (Q := fun r s₁ => ∃ v, r = some v ∧ wpAny (model G.prog G.w) (A.over c fs) (letOwnedTupleGo (.Tuple elts k tp) (.ref e) v) (fun _ s₂ => wpAny (model G.prog G.w) (A.over c fs) (assign (.Tuple elts k tp) env v) (fun _ s₃ =>
        EscSt G sc escT (A.over c fs) env e it x t (i + 1) esc (put (put ρ 1 (.int (i : Nat))) 3 (.str ⟨#[ch]⟩)) s₃ ∧ Off [env.locals, e, it] s s₃) NoE s₂) NoE s₁) (E := NoE) ?_ (fun r s₁ h₁ => ?_) fun _ _ f => f.elim))))
    · refine wpAny_pyNext_enum_itemD (Draws.strAscii (A := (A.over c fs).in1) S.st.st.fit.handled it x t) hE S.iter hlt S.ne (fun h => S.ne (List.mem_singleton.mp h)) fun xv h₁ tk hP heo hit₁ ht₁ hz₁ hk₁ => ⟨_, rfl, ?_⟩
      obtain ⟨c', u, hc', rfl⟩ := hP
      rw [hch] at hc'; cases hc'
      refine wpAny_letOwnedTupleGo_enum heo fun h₂ he₂ hs₂ => ?_
      replace hs₂ : Heap.SameBut e h₁ h₂ := hs₂
      have frT : s.heap.get? s.heap.objs.size = none := fresh_of_le (Nat.le_refl _)
      have hTe : s.heap.objs.size ≠ e := Ne.symm (old_ne hE frT)
      have o₁ : Off [e, it] s { s with heap := h₂, toks := tk + 1 } := Off.of_heap fun b ob hb eb => hs₂.extBut b ob (fun q => hb (q ▸ .head _)) (hk₁ b ob (fun q => hb (q ▸ .head _)) (fun q => hb (q ▸ .tail _ (.head _))) eb)
      have hit₂ : h₂.IsStrIter it "str_ascii_iterator" x t (i + 1) := by
        obtain ⟨oi, hoi, q⟩ := hit₁
        exact ⟨oi, hs₂.extBut _ _ (Ne.symm S.ne) hoi, q⟩
      obtain ⟨oi, hoi, _⟩ := id hit₂
      have S₁ := S.st.offK o₁ (fun a h => h) hW (fun a h => by
        rcases List.mem_cons.mp h with rfl | h
        · exact ⟨_, he₂⟩
        · rw [List.mem_singleton.mp h]; exact ⟨_, hoi⟩) hH
      have rT : Rep G.C h₂ ([env.locals] ++ [e, it]) (.ref s.heap.objs.size) (.tup [.int (i : Nat), .str ⟨#[ch]⟩]) :=
        .tup (vs := [.int i tk, .str ⟨#[ch]⟩ u]) (n := 0) (hs₂.extBut _ _ hTe ht₁) (fun hm => by obtain ⟨o, ho⟩ := S.st.st.live _ hm; rw [frT] at ho; cases ho) (.cons (.int _ _) (.cons (.str _ _) .nil))
      refine wp_use (hT _ env _ _ ρ _ _ (put (put ρ 1 (.int (i : Nat))) 3 (.str ⟨#[ch]⟩)) S₁.st rT rfl) fun _ s₃ ⟨o₂, S₃, sb⟩ => ?_
      have tL : ∀ a ∈ touches env escXs, a ∈ [env.locals] := fun a h => S₁.touches a h
      have S₃' : StW G 0 sc escT [] (A.over c fs) env [env.locals] [e, it] s₃ (put (put ρ 1 (.int (i : Nat))) 3 (.str ⟨#[ch]⟩)) := ⟨S₃, S₁.frame, S₁.cells, fun _ _ _ _ h => (by cases h), S₁.above⟩
      have oE : s₃.heap.get? e = some { cls := .type "enumerate", dict := none, data := .fields #[.none, .bool false, .ref it, rawInt ((i : Int) + 1), .none, .str ⟨#[ch]⟩ u], slots := #[] } := o₂.heap _ _ (fun h => hW _ (.head _) (tL _ h)) he₂
      refine ⟨⟨S₃', S.ne, S.lt, S.off, S.high, ⟨.str ⟨#[ch]⟩ u, ?_⟩, ?_, ?_, ?_, fun j d hj => ?_, fun _ => ?_⟩, (o₁.mono fun a h => .tail _ h).trans (o₂.mono fun a h => (List.mem_singleton.mp (tL a h)) ▸ .head _)⟩
      · have : ((i + 1 : Nat) : Int) = (i : Int) + 1 := by push_cast; rfl
        show s₃.heap.get? e = _
        rw [this]; exact oE
      · exact ⟨oi, o₂.heap _ _ (fun h => hW _ (.tail _ (.head _)) (tL _ h)) hoi, (let ⟨oi', hoi', q⟩ := hit₂; by rw [hoi] at hoi'; cases hoi'; exact q)⟩
      · rw [get_put_ne _ _ (by decide), get_put_ne _ _ (by decide)]; exact S.flag
      · exact fun _ => Nat.succ_pos _
      · by_cases h3 : j = 3
        · subst h3; rw [get_put_self] at hj; cases hj; rfl
        · rw [get_put_ne _ _ (Ne.symm h3)] at hj
          by_cases h1 : j = 1
          · subst h1; rw [get_put_self] at hj; cases hj; rfl
          · rw [get_put_ne _ _ (Ne.symm h1)] at hj; exact S.plain j d hj
      · rw [get_put_ne _ _ (by decide), get_put_self]
        congr 2; push_cast; omega
    obtain ⟨v, rfl, h₁⟩ := h₁
    refine seg_bind_wrap (wpAny_mono h₁ (fun _ s₂ h₂ => seg_bind_wrap (wpAny_mono h₂ (fun _ s₃ h₃ => ?_) fun _ _ f => f.elim)) fun _ _ f => f.elim)
    obtain ⟨S₃, o₃⟩ := h₃
    rw [Sem.bind_eq_wrap', Sem.wrap_wrap]
    have hgo : Off [env.locals, e, it] s₀ s₃ := hoff.trans o₃
    have extS : ∀ {s' : Shared}, Ext s₃ s' → EscSt G sc escT (A.over c fs) env e it x t (i + 1) esc (put (put ρ 1 (.int (i : Nat))) 3 (.str ⟨#[ch]⟩)) s' := fun {s'} y =>
      S₃.wake fit ⟨fun b _ o h => y.keep b o h, fun b o h => y.keep b o (S₃.st.st.base b o h)⟩
    refine seg_execs_cons (seg_if hB1 S₃.st (b := esc) (by show asBool (get _ 2) = _; rw [S₃.flag]; rfl) fun s₄ x₄ _ => ?_)
    have S₄ := extS x₄
    have g1' : fV 1 (put (put ρ 1 (.int (i : Nat))) 3 (.str ⟨#[ch]⟩)) = some (.int (i : Nat)) := by unfold fV; rw [get_put_ne _ _ (by decide), get_put_self]
    have g3 : fV 3 (put (put ρ 1 (.int (i : Nat))) 3 (.str ⟨#[ch]⟩)) = some (.str ⟨#[ch]⟩) := get_put_self _ _ _
    generalize hρ3 : put (put ρ 1 (.int (i : Nat))) 3 (.str ⟨#[ch]⟩) = ρ3 at *
    have step : ∀ {n : Nat} {b : Bool} {s₀' s₆ s₇ : Shared}, n = (escGo (i + 1) b cs).length → escEnd b cs = false → (∃ pre, all = pre ++ escGo (i + 1) b cs) → EscSt G sc escT (A.over c fs) env e it x t (i + 1) esc ρ3 s₆ → Off [env.locals, e, it] s₀' s₆ →
        Off (touches env [("escape", 2)]) s₆ s₇ → StW G 0 sc escT [] (A.over c fs) env [env.locals] [e, it] s₇ (put ρ3 2 (.bool b)) →
        Seg (model G.prog G.w) A (escR [env.locals, e, it]) (escY G [env.locals, e, it] all) n s₀' c (.pure (.again c)) fs s₇ := fun hn he hall S₆ ho o₇ S₇ => by
      obtain ⟨S₇', o⟩ := S₆.set (fun _ => Nat.succ_pos _) S₇ o₇
      rw [hn]
      exact seg_again hq (ih (i + 1) _ _ _ _ hcs' he hlt hall S₇' (ho.trans o))
    obtain ⟨pre, hall⟩ := hall
    cases esc with
    | true =>
      have hY : aC (fV 1) (aC (f2 addV (fS ⟨#[92]⟩) (fV 3)) a0) ρ3 = some [.int (i : Nat), .str ⟨#[92, ch]⟩] := by
        unfold aC f2
        rw [g1', g3]
        rfl
      simp only [escGo, List.length_cons] at hall ⊢
      try rw [if_pos rfl]
      refine seg_execs_cons (seg_yielded hY1 S₄.st hY hfs rfl hfg hco hi (hgo.trans x₄.off) S₄.live (at_rest hall) fun s₅ s₆ x₅ hc₆ => ?_)
      have S₅ := S₄.wake fit ⟨fun b _ o h => x₅.keep b o h, fun b o h => x₅.keep b o (S₄.st.st.base b o h)⟩
      have S₆ := S₅.wake fit hc₆
      refine seg_assign hV1 hG1 (by decide) hsw1 hw1 hae1 S₆.st (d := .bool false) rfl rfl fun s₇ o₇ S₇ => seg_execs_nil ?_
      show Seg _ _ _ _ _ _ _ (.pure (.again (.forLoop (.Tuple elts k tp) (.ref e) _ [] env))) _ _
      rw [← hc]
      exact step rfl hesc ⟨pre ++ [_], by rw [hall, List.append_assoc]; rfl⟩ S₆ (Off.refl _ _) o₇ S₇
    | false =>
      rw [if_neg (by decide)]
      have hEq : bC eqV (fV 3) (fS ⟨#[92]⟩) ρ3 = some (decide (ch = 92)) := by
        unfold bC
        rw [g3]
        show some ((⟨#[ch]⟩ : Str) == ⟨#[92]⟩) = _
        congr 1
        by_cases h : ch = 92
        · subst h; decide
        · rw [decide_eq_false h, beq_eq_false_iff_ne]
          intro h'; injection h' with h'; injection h' with h'; injection h' with h' _; exact h h'
      refine seg_execs_cons (seg_if hB2 S₄.st hEq fun s₅ x₅ _ => ?_)
      have S₅ := S₄.wake fit ⟨fun b _ o h => x₅.keep b o h, fun b o h => x₅.keep b o (S₄.st.st.base b o h)⟩
      have hgo₅ := hgo.trans (Off.trans x₄.off x₅.off)
      by_cases h : ch = 92
      · simp only [escGo, h, if_true] at hall ⊢
        simp only [decide_true, if_true]
        refine seg_assign hV2 hG2 (by decide) hsw2 hw2 hae2 S₅.st (d := .bool true) rfl rfl fun s₇ o₇ S₇ => seg_execs_nil ?_
        show Seg _ _ _ _ _ _ _ (.pure (.again (.forLoop (.Tuple elts k tp) (.ref e) _ [] env))) _ _
        rw [← hc]
        exact step rfl (by subst h; exact hesc) ⟨pre, hall⟩ S₅ hgo₅ o₇ S₇
      · simp only [escGo, h, if_false, List.length_cons] at hall ⊢
        simp only [decide_false, Bool.false_eq_true, if_false]
        have hY : aC (fV 1) (aC (fV 3) a0) ρ3 = some [.int (i : Nat), .str ⟨#[ch]⟩] := by
          unfold aC
          rw [g1', g3]
          rfl
        refine seg_execs_cons (seg_yielded hY2 S₅.st hY hfs rfl hfg hco hi hgo₅ S₅.live (at_rest hall) fun s₆ s₇ x₆ hc₇ => ?_)
        have S₆ := S₅.wake fit ⟨fun b _ o h => x₆.keep b o h, fun b o h => x₆.keep b o (S₅.st.st.base b o h)⟩
        have S₇ := S₆.wake fit hc₇
        show Seg _ _ _ _ _ _ _ (.pure (.again (.forLoop (.Tuple elts k tp) (.ref e) _ [] env))) _ _
        rw [← hc]
        exact seg_again hq (ih (i + 1) false ρ3 _ _ hcs' (by have := hesc; unfold escEnd at this; rwa [beq_eq_false_iff_ne.mpr h] at this) hlt ⟨pre ++ [_], by rw [hall, List.append_assoc]; rfl⟩ S₇ (Off.refl _ _))
end
end Mine
end

section
namespace Mine
open PySem PySem.Calls PyProof.Rows

section
variable {G : Gd} {sc : Scope} {A : Around} {env : Env} {x : Str} {t : Tok} {all : List V} {s : Shared}

theorem fit_func {b : List Stmt} (f : Fit A 1) : Fit (A.over (.func b env) []) 0 :=
  ⟨f.handled, by have := f.depth; show A.depth + 0 + Code.weight (.func b env) + 8 * 0 + 100 < _; have hw : Code.weight (.func b env) = 1 := rfl; omega,
    by have := f.units; show A.units + 0 + Code.cUnits (.func b env) + 200 * 0 + 400 < _; have hw : Code.cUnits (.func b env) = 3 := rfl; omega⟩
theorem fit_loop {b fb : List Stmt} {tg : Expr} {it : Value} {k : Result → Sem PySem.Fin} {g : Bool} {l : List Value} {p : Pos} (f : Fit A 1) : Fit (A.over (.forLoop tg it fb [] env) [.ret k none g l (.func b env) p []]) 0 :=
  ⟨f.handled, by have := f.depth; show A.depth + (Code.weight (.func b env) + 0) + Code.weight (.forLoop tg it fb [] env) + 8 * 0 + 100 < _; have hw : Code.weight (.func b env) = 1 := rfl; have hw2 : Code.weight (.forLoop tg it fb [] env) = 0 := rfl; omega,
    by have := f.units; show A.units + (Code.cUnits (.func b env) + 0) + Code.cUnits (.forLoop tg it fb [] env) + 200 * 0 + 400 < _; have hw : Code.cUnits (.func b env) = 3 := rfl; have hw2 : Code.cUnits (.forLoop tg it fb [] env) = 0 := rfl; omega⟩

/-- the frame of the generator, read off its names -/
theorem mkSt {M₀ : List Addr} {m : Str → Option Value} {y : Str} {ty tp : Tok} {p : Int} {b : Bool} (f : Fit A 0) (eok : EnvOk G sc env) (hc : env.cells = []) (base : ∀ b o, G.h₀.get? b = some o → s.heap.get? b = some o) (hM : Live s.heap M₀)
    (hn : s.heap.Ns env.locals m) (h0 : m "addr" = some (.str y ty)) (h1 : m "pos" = some (.int p tp)) (h2 : m "escape" = some (.bool b))
    (k0 : sc.names.lookup ("addr" : Str) = some .local) (k1 : sc.names.lookup ("pos" : Str) = some .local) (k2 : sc.names.lookup ("escape" : Str) = some .local) :
    StW G 0 sc escT [] A env [env.locals] M₀ s [some (.str y), some (.int p), some (.bool b)] := by
  have kk : ∀ z, env.kindOf z = sc.names.lookup z := fun z => by unfold Env.kindOf; rw [eok.scope]
  refine ⟨⟨f, eok, base, fun a ha => ?_, ⟨.head _, m, hn⟩, fun z c l => (by rw [hc] at l; cases l), fun z j d hz hg => ?_, fun _ _ _ _ _ _ _ _ h => (by cases h)⟩, .head _, fun z c l => (by rw [hc] at l; cases l), fun _ _ _ _ h => (by cases h), fun a ha => ?_⟩
  · rcases List.mem_append.mp ha with h | h
    · rw [List.mem_singleton.mp h]; obtain ⟨o, _, _, ho, _⟩ := hn; exact ⟨o, ho⟩
    · exact hM a h
  · simp only [List.mem_cons, List.not_mem_nil, or_false, Prod.mk.injEq] at hz
    rcases hz with ⟨rfl, rfl⟩ | ⟨rfl, rfl⟩ | ⟨rfl, rfl⟩ | ⟨rfl, rfl⟩
    · cases hg; exact ⟨_, .inl ⟨(kk _).trans k0, m, hn, h0⟩, .str _ _⟩
    · cases hg; exact ⟨_, .inl ⟨(kk _).trans k1, m, hn, h1⟩, .int _ _⟩
    · cases hg; exact ⟨_, .inl ⟨(kk _).trans k2, m, hn, h2⟩, .bool _⟩
    · cases hg
  · rw [List.mem_singleton.mp ha]
    exact fresh_of_le eok.above
end
end Mine
end

section
namespace Mine
open PySem PySem.Calls PyProof.Rows

section
variable {G : Gd} {sc : Scope} {A : Around} {env : Env} {x : Str} {t : Tok} {all : List V} {s : Shared}

theorem esc_start {m : Str → Option Value} {elts : List Expr} {k kp ke : Nat} {q1 q2 pp pe vp ve fpos np pos' pa tp p1 p2 p3 p4 p5 p6 p7 p8 yp1 yp2 yp3 tp1 tp2 tp3 : Pos} {k1 k2 k3 : Nat} {t1 t2 t3 v1 v2 g1 g2 : Expr} {es1 es2 es3 : List Expr} {body : List Stmt}
    (hbody : body = [.Assign [.Name "pos" pp] (.Constant (.int 0) kp vp) q1, .Assign [.Name "escape" pe] (.Constant (.bool false) ke ve) q2,
      .For (.Tuple elts k tp) (.Call (.Name "enumerate" np) [.Name "addr" pa] [] pos') [.If t1 [.Expr (.Yield (some (.Tuple es1 k1 tp1)) yp1) p1, .Assign [g1] v1 p2] [.If t2 [.Assign [g2] v2 p3] [.Expr (.Yield (some (.Tuple es2 k2 tp2)) yp2) p4] p5] p6] [] fpos,
      .If t3 [.Expr (.Yield (some (.Tuple es3 k3 tp3)) yp3) p7] [] p8])
    (hT : DenT G 0 sc escT escT [] (.Tuple elts k tp) escXs (bT escXs))
    (hB1 : DenB G 0 sc escT [] t1 (bV (fV 2))) (hY1 : DenAll G 0 sc escT [] es1 (aC (fV 1) (aC (f2 addV (fS ⟨#[92]⟩) (fV 3)) a0)))
    (hV1 : DenP G 0 sc escT [] v1 (fT false)) (hG1 : DenT G 0 sc escT escT [] g1 [("escape", 2)] (b1 2))
    (hB2 : DenB G 0 sc escT [] t2 (bC eqV (fV 3) (fS ⟨#[92]⟩))) (hY2 : DenAll G 0 sc escT [] es2 (aC (fV 1) (aC (fV 3) a0)))
    (hV2 : DenP G 0 sc escT [] v2 (fT true)) (hG2 : DenT G 0 sc escT escT [] g2 [("escape", 2)] (b1 2))
    (hB3 : DenB G 0 sc escT [] t3 (bV (fV 2))) (hY3 : DenAll G 0 sc escT [] es3 (aC (fV 1) (aC (fS ⟨#[92]⟩) a0)))
    (hsw1 : ∀ env : Env, env.scope = sc → swapsWithSole [g1] v1 p2.line env = pure false) (hw1 : ∀ env : Env, env.scope = sc → swappedStores [g1] v1 env = pure none) (hae1 : ∀ env v, assignAll v ((assignEach [g1] env).map (·.2)) = assign g1 env v)
    (hsw2 : ∀ env : Env, env.scope = sc → swapsWithSole [g2] v2 p3.line env = pure false) (hw2 : ∀ env : Env, env.scope = sc → swappedStores [g2] v2 env = pure none) (hae2 : ∀ env v, assignAll v ((assignEach [g2] env).map (·.2)) = assign g2 env v)
    (hco : env.scope.isCoroutine = false) (hi : interactive env = false) (hsc : storable sc "escape" = true) (henum : BuiltAt G.h₀ "enumerate" (.type "enumerate")) (hglob : isGlobal sc "enumerate" = true)
    (k0 : sc.names.lookup ("addr" : Str) = some .local) (kk1 : sc.names.lookup ("pos" : Str) = some .local) (kk2 : sc.names.lookup ("escape" : Str) = some .local)
    (eok : EnvOk G sc env) (hcells : env.cells = []) (fit : Fit A 1) (hasc : x.cps.all (· < 128) = true) (hno : escEnd false x.cps.toList = false) (hall : all = escGo 0 false x.cps.toList)
    (base : ∀ b o, G.h₀.get? b = some o → s.heap.get? b = some o) (hn : s.heap.Ns env.locals m) (h0 : m "addr" = some (.str x t)) :
    Seg (model G.prog G.w) A (escR [env.locals, s.heap.objs.size + 1, s.heap.objs.size]) (escY G [env.locals, s.heap.objs.size + 1, s.heap.objs.size] all) all.length s (.func body env) ((model G.prog G.w).den (.func body env)) [] s := by
  have hexec : execs body env = execs _ env := congrArg (fun b => execs b env) hbody
  have hkf : env.scope.kind = .function := by rw [eok.scope]; exact eok.kind
  have kk : ∀ z, env.kindOf z = sc.names.lookup z := fun z => by unfold Env.kindOf; rw [eok.scope]
  have hp : (env.scope.kind == .class || (env.scope.kind == .module && env.locals != env.globals)) = false := by rw [hkf]; rfl
  have hLlt : env.locals < s.heap.objs.size := hn.lt
  refine seg_func ?_
  rw [hexec]
  refine (seg_execs_cons (seg_wrap (wpAny_mono (E := NoE) (Q := fun fl s₁ => fl = .next ∧ s₁.heap.objs.size = s.heap.objs.size ∧ Off [env.locals] s s₁ ∧ ∃ tk, s₁.heap.Ns env.locals (fun y => if y = "pos" then some (.int 0 tk) else m y))
    (wpAny_Assign_stores (wpAny_Constant_int (wpAny_assign_Name (wpAny_storeName_local ((kk _).trans kk1) hn (fun h' hn' hs => ⟨rfl, hs.1, Off.of_heap fun b o hb e => hs.extBut b o (fun q => hb (q ▸ List.mem_singleton.mpr rfl)) e, _, hn'⟩) hp))) rfl rfl) (fun fl s₁ h₁ => ?_) fun _ _ f => f.elim)))
  obtain ⟨rfl, z₁, o₁, tk₁, n₁⟩ := h₁
  refine seg_execs_cons (seg_wrap (wpAny_mono (E := NoE) (Q := fun fl s₂ => fl = .next ∧ s₂.heap.objs.size = s.heap.objs.size ∧ Off [env.locals] s s₂ ∧ s₂.heap.Ns env.locals (fun y => if y = "escape" then some (.bool false) else if y = "pos" then some (.int 0 tk₁) else m y))
    (wpAny_Assign_stores (wpAny_Constant_bool (wpAny_assign_Name (wpAny_storeName_local ((kk _).trans kk2) n₁ (fun h' hn' hs => ⟨rfl, hs.1.trans z₁, o₁.trans (Off.of_heap fun b o hb e => hs.extBut b o (fun q => hb (q ▸ List.mem_singleton.mpr rfl)) e), hn'⟩) hp))) rfl rfl) (fun fl s₂ h₂ => ?_) fun _ _ f => f.elim))
  obtain ⟨rfl, z₂, o₂, n₂⟩ := h₂
  have base₂ : ∀ b o, G.h₀.get? b = some o → s₂.heap.get? b = some o := fun b o e => o₂.heap b o (fun hm => by
    have := Heap.lt_size e
    rw [List.mem_singleton.mp hm] at this
    exact Nat.lt_irrefl _ (Nat.lt_of_lt_of_le this eok.above)) (base b o e)
  have e0 : (fun y => if y = ("escape" : Str) then some (Value.bool false) else if y = ("pos" : Str) then some (.int 0 tk₁) else m y) "addr" = some (.str x t) := by
    show (if ("addr" : Str) = "escape" then _ else if ("addr" : Str) = "pos" then _ else _) = _
    rw [if_neg (by decide), if_neg (by decide)]; exact h0
  have e1 : (fun y => if y = ("escape" : Str) then some (Value.bool false) else if y = ("pos" : Str) then some (.int 0 tk₁) else m y) "pos" = some (.int 0 tk₁) := by
    show (if ("pos" : Str) = "escape" then _ else if ("pos" : Str) = "pos" then _ else _) = _
    rw [if_neg (by decide), if_pos rfl]
  have e2 : (fun y => if y = ("escape" : Str) then some (Value.bool false) else if y = ("pos" : Str) then some (.int 0 tk₁) else m y) "escape" = some (.bool false) := if_pos rfl
  have S₂ := mkSt (G := G) (sc := sc) (M₀ := []) (s := s₂) (fit_func (b := body) (env := env) fit) eok hcells base₂ (fun _ h => nomatch h) n₂ e0 e1 e2 k0 kk1 kk2
  have ha : plainArgs [Expr.Name "addr" pa] = true := rfl
  refine seg_execs_cons ?_
  rw [arm_exec_For]
  refine seg_bind_wrap (wpAny_standAt (seg_bind_wrap (wpAny_mono (E := NoE) (Q := fun v s₃ => v = .ref (s.heap.objs.size + 1) ∧ ∃ h', IsEnum h' (s.heap.objs.size + 1) s.heap.objs.size 0 .none ∧ h'.IsStrIter s.heap.objs.size "str_ascii_iterator" x t 0 ∧ (∀ b o, s₂.heap.get? b = some o → h'.get? b = some o) ∧ s₃ = { s₂ with heap := h' })
    (callN S₂.st hglob (by decide) (.inr henum) (PyProof.Rows.callWith_type rfl (evalArgs_spliced ha (spliced_cons (name_slot S₂.st (.inl ⟨(kk _).trans k0, _, n₂, e0⟩) (spliced_nil (call_enumerate_str fun h' hE hit hz hk => ?_)) (by decide) (by decide)))))) (fun v s₃ h₃ => ?_) fun _ _ f => f.elim)))
  · rw [z₂] at hE hit
    have hty : strIterType x = "str_ascii_iterator" := by unfold strIterType; rw [if_pos hasc]
    rw [hty] at hit
    exact ⟨by rw [z₂], h', hE, hit, hk, rfl⟩
  obtain ⟨rfl, h', hE, hit, hk, rfl⟩ := h₃
  refine seg_bind_wrap (wpAny_of_eq rfl (seg_bind_wrap (wpAny_standAt (seg_bind_wrap (wpAny_holding (wpAny_pyIter_enum hE ?_))))))
  have x₃ : Ext s₂ { s₂ with heap := h' } := Ext.of_heap (tk := s₂.toks) hk
  have fr0 : s₂.heap.get? s.heap.objs.size = none := fresh_of_le (Nat.le_of_eq z₂)
  have fr1 : s₂.heap.get? (s.heap.objs.size + 1) = none := fresh_of_le (by rw [z₂]; exact Nat.le_succ _)
  obtain ⟨oi, hoi, _⟩ := id hit
  have S₃ : StW G 0 sc escT [] (A.over (.func body env) []) env [env.locals] ([s.heap.objs.size + 1, s.heap.objs.size] ++ []) { s₂ with heap := h' } [some (.str x), some (.int 0), some (.bool false)] := S₂.addK x₃ fun a ha => by
    rcases List.mem_cons.mp ha with rfl | ha
    · exact ⟨fr1, _, hE⟩
    · rw [List.mem_singleton.mp ha]; exact ⟨fr0, _, hoi⟩
  refine seg_call fun p => ?_
  have o₃ : Off [env.locals, s.heap.objs.size + 1, s.heap.objs.size] s { s₂ with heap := h' } := (o₂.mono fun a h => (List.mem_singleton.mp h) ▸ .head _).trans x₃.off
  have hlen : all.length = (escGo 0 false x.cps.toList).length := by rw [hall]
  rw [hlen]
  refine esc_loop hT hB1 hY1 hV1 hG1 hB2 hY2 hV2 hG2 hsw1 hw1 hae1 hsw2 hw2 hae2 hco hi rfl rfl hsc _ rfl (fit_loop fit) (fun ρ s₀ s' SW hflag hoff => ?_) x.cps.toList 0 false _ s _ rfl hno (Nat.zero_le _) ⟨[], hall⟩
    ⟨S₃.reA (fit_loop fit), Nat.succ_ne_self _, Nat.le_succ _, ⟨Nat.ne_of_gt (Nat.lt_succ_of_lt hLlt), Nat.ne_of_gt hLlt⟩, ⟨fresh_of_le (Nat.le_trans eok.above (Nat.le_of_lt (Nat.lt_succ_of_lt hLlt))), fresh_of_le (Nat.le_trans eok.above (Nat.le_of_lt hLlt))⟩, ⟨_, hE⟩, hit, rfl, fun h => (by cases h), fun j d hj => ?_, fun h => absurd h (Nat.lt_irrefl _)⟩ o₃
  · refine seg_leaf (.ok .next) ?_
    show Seg _ _ _ _ _ _ _ ((execs [.If t3 [.Expr (.Yield (some (.Tuple es3 k3 tp3)) yp3) p7] [] p8] env).wrap _ _ _ _) [] s'
    refine seg_execs_cons (seg_if hB3 (SW.reA (fit_func fit)) (b := false) (by show asBool (get ρ 2) = _; rw [hflag]; rfl) fun s₄ x₄ S₄ => ?_)
    exact seg_end (.ok (.ret .none)) ⟨rfl, rfl, hoff.trans x₄.off⟩
  · match j, hj with
    | 0, hj => cases hj; rfl
    | 1, hj => cases hj; rfl
    | 2, hj => cases hj; rfl
    | j + 3, hj => simp [get] at hj
end
end Mine
end

section
namespace Mine
open PySem PySem.Calls PyProof.Rows

section
variable {G : Gd} {lvl : Nat} {sc : Scope} {T : List (Str × Nat)} {ms : List Nat} {A : Around} {env : Env} {W M M' M₀ K : List Addr} {s s' : Shared} {ρ : Rho}

/-- what is no own thing moved; the list of what may move is made anew -/
theorem StW.move (S : StW G lvl sc T ms A env W M s ρ) (hk : ∀ b o, b ∉ K → s.heap.get? b = some o → s'.heap.get? b = some o) (hK : ∀ a ∈ K, (a ∈ M ∧ a ∉ W) ∨ s.heap.get? a = none) (hKb : ∀ a ∈ K, G.h₀.get? a = none) (hM' : ∀ a ∈ M', a ∈ M ∨ s.heap.get? a = none) (hl : Live s'.heap M') :
    StW G lvl sc T ms A env W M' s' ρ := by
  have alive : ∀ a ∈ W, ∃ o, s.heap.get? a = some o := fun a h => S.st.live a (List.mem_append.mpr (.inl h))
  have WK : ∀ a ∈ W, a ∉ K := fun a h hk => (hK a hk).elim (fun q => q.2 h) fun q => by obtain ⟨o, ho⟩ := alive a h; rw [q] at ho; cases ho
  have hL : env.locals ∉ K := WK _ S.frame
  have hc : ∀ x c, env.cells.lookup x = some c → c ∉ K := fun x c l => WK _ (S.cells x c l)
  have cf : ∀ x c v, env.cells.lookup x = some c → s.heap.IsCell c v → s'.heap.IsCell c v := fun x c v l ⟨ob, ho, hd⟩ => ⟨ob, hk c ob (hc x c l) ho, hd⟩
  have nf : ∀ m, s.heap.Ns env.locals m → s'.heap.Ns env.locals m := fun m n => n.at' fun ob e => hk _ ob hL e
  have sf : ∀ y v, SlotVal s.heap env y v → SlotVal s'.heap env y v := fun y v sv => by
    rcases sv with ⟨kk, m, n, e⟩ | ⟨kk, c, l, e⟩
    · exact .inl ⟨kk, m, nf m n, e⟩
    · exact .inr ⟨kk, c, l, cf y c _ l e⟩
  have sb : ∀ y v, SlotVal s'.heap env y v → SlotVal s.heap env y v := fun y v sv => by
    rcases sv with ⟨kk, m, n, e⟩ | ⟨kk, c, l, e⟩
    · obtain ⟨m', n'⟩ := S.st.loc.2
      cases Ns_unique (nf _ n') n
      exact .inl ⟨kk, _, n', e⟩
    · obtain ⟨v', q⟩ := (S.st.cellAt y c l).2
      cases cell_unique (cf y c _ l q) e
      exact .inr ⟨kk, c, l, q⟩
  have step : ∀ b ob, b ∉ W ++ M → s.heap.get? b = some ob → s'.heap.get? b = some ob ∧ b ∉ W ++ M' := fun b ob hb e => by
    refine ⟨hk b ob (fun q => ?_) e, fun q => ?_⟩
    · rcases hK b q with h | h
      · exact hb (List.mem_append.mpr (.inr h.1))
      · rw [h] at e; cases e
    · rcases List.mem_append.mp q with h | h
      · exact hb (List.mem_append.mpr (.inl h))
      · rcases hM' b h with h | h
        · exact hb (List.mem_append.mpr (.inr h))
        · rw [h] at e; cases e
  have W' : ∀ b ∈ W, b ∈ W ++ M' := fun b hb => List.mem_append.mpr (.inl hb)
  refine ⟨⟨S.st.fit, S.st.eok, fun b ob e => hk b ob (fun q => by rw [hKb b q] at e; cases e) (S.st.base b ob e), fun b hb => ?_,
    ⟨W' _ S.frame, let ⟨m, n⟩ := S.st.loc.2; ⟨m, nf m n⟩⟩, fun x c l => ⟨W' _ (S.cells x c l), let ⟨v, q⟩ := (S.st.cellAt x c l).2; ⟨v, cf x c v l q⟩⟩, fun x i d hx hg => ?_, fun x y i j b hx hy hn h1 h2 sx sy => S.st.own x y i j b hx hy hn h1 h2 (sb _ _ sx) (sb _ _ sy)⟩,
    S.frame, S.cells, fun y i b hy hi sv => ?_, S.above⟩
  · rcases List.mem_append.mp hb with h | h
    · obtain ⟨o, ho⟩ := alive b h; exact ⟨o, hk b o (WK b h) ho⟩
    · exact hl b h
  · obtain ⟨v, sv, r⟩ := S.st.slots x i d hx hg
    refine ⟨v, sf x v sv, ?_⟩
    cases hm : ms.contains i with
    | false => rw [hm] at r; exact Rep.mono step r
    | true =>
      rw [hm] at r
      obtain ⟨b, rfl, vs, n, ds, e2, g, _, rs⟩ := r
      obtain ⟨h1, _⟩ := S.lists x i b hx hm sv
      exact ⟨b, rfl, vs, n, ds, e2, hk b _ (WK b h1) g, W' _ h1, rs.mono step⟩
  · obtain ⟨h1, h2⟩ := S.lists y i b hy hi (sb _ _ sv)
    refine ⟨h1, fun hm => (hM' b hm).elim h2 fun q => ?_⟩
    obtain ⟨o, ho⟩ := alive b h1; rw [q] at ho; cases ho
end
end Mine
end

section
namespace Mine
open PySem PySem.Calls PyProof.Rows

/-- the generator function: as it lies in the ground heap, and that its body does as escGo says -/
structure GenOk (G : Gd) (a : Addr) (fd : FuncData) (gbody : List Stmt) : Prop where
  obj : ∃ o, G.h₀.get? a = some o ∧ o.data = .func fd
  code : G.h₀.CodeRec fd.code fd.qualname
  body : fd.body = .stmts gbody
  clo : fd.closure = []
  globals : fd.globals = mainGlobals
  builtins : fd.builtins = builtinsNs
  co : fd.scope.isCoroutine = false
  gen : fd.scope.isGenerator = true
  kind : fd.scope.kind = .function
  nocell : ∀ x ∈ fd.scope.names, x.2 ≠ .cell
  nofree : ∀ x ∈ fd.scope.names, x.2 ≠ .free
  addr : fd.scope.names.lookup ("addr" : Str) = some .local
  bind : ∀ v : Value, bindArgs fd ⟨[v], []⟩ = pure [(("addr" : Str), v)]
  lim : G.h₀.NoLimit
  start : ∀ (A : Around) (env : Env) (x : Str) (t : Tok) (all : List V) (s : Shared) (m : Str → Option Value), EnvOk G fd.scope env → env.cells = [] → env.scope.isCoroutine = false → Fit A 1 → x.cps.all (· < 128) = true → escEnd false x.cps.toList = false → all = escGo 0 false x.cps.toList →
    (∀ b o, G.h₀.get? b = some o → s.heap.get? b = some o) → s.heap.Ns env.locals m → m "addr" = some (.str x t) →
    Seg (model G.prog G.w) A (escR [env.locals, s.heap.objs.size + 1, s.heap.objs.size]) (escY G [env.locals, s.heap.objs.size + 1, s.heap.objs.size] all) all.length s (.func gbody env) ((model G.prog G.w).den (.func gbody env)) [] s

theorem bare_set {gens : Array GenState} {i : Nat} {x : GenState} (h : AllBare gens) (hx : x.bare = true) : AllBare (gens.setIfInBounds i x) := fun y hy => by
  rcases Array.mem_or_eq_of_mem_setIfInBounds hy with h' | h'
  · exact h y h'
  · rw [h']; exact hx

section
variable {G : Gd} {lvl : Nat} {sc : Scope} {T T' T1 T2 : List (Str × Nat)} {ms : List Nat}

theorem DenX.forEsc {fa : Addr} {fd : FuncData} {gbody : List Stmt} {fname : Str} {elts : List Expr} {k : Nat} {tp np pos pos' : Pos} {e : Expr} {body : List Stmt} {xs : List (Str × Nat)} {bnd : Rho → V → Option Rho} {Fe : Rho → Option V} {Fb : Rho → Option Res}
    (hG : GenOk G fa fd gbody) (h : DenP G (lvl + 2) sc T ms e Fe) (hb : GlobAt G.h₀ fname (.ref fa)) (hx : isGlobal sc fname = true) (hpn : plainName fname = true) (ha : plainArgs [e] = true)
    (hT : DenT G (lvl + 2) sc T T ms (.Tuple elts k tp) xs bnd) (hk : keepOk T T ms xs = true) (hB : DenS G (lvl + 2) sc T T ms body Fb) :
    DenX G (lvl + 2) sc T T ms (.For (.Tuple elts k tp) (.Call (.Name fname np) [e] [] pos') body [] pos) fun ρ => (asStr (Fe ρ)).bind fun x => if x.cps.all (· < 128) && !escEnd false x.cps.toList then forGo bnd Fb ρ (escGo 0 false x.cps.toList) else none := fun A env W M₀ s ρ r S q => by
  obtain ⟨x, hxs, q⟩ := Option.bind_eq_some_iff.mp q
  split at q
  case isFalse => cases q
  rename_i hcond
  simp only [Bool.and_eq_true, Bool.not_eq_true'] at hcond
  obtain ⟨hasc, hno⟩ := hcond
  have he : starEach [e] env = (false, eval e env) :: [] := by
    unfold plainArgs at ha
    simp only [List.all_cons, List.all_nil, Bool.and_eq_true] at ha
    cases e <;> first | rfl | cases ha.2.1
  obtain ⟨ob, hob, hfd⟩ := hG.obj
  refine wpAny_For (callN S.st hx hpn (.inl hb) (callWith_function (o := ob) (fd := fd) (evalArgs_spliced ha ?_)))
  rw [he]
  show wpAny _ _ (spliced ((false, eval e env) :: [])) _ _ _
  refine spliced_cons (wp_use (h A env _ s ρ _ S.st (asStr_some hxs)) fun v s₁ ⟨x₁, rv⟩ => spliced_nil ⟨⟨(S.ext x₁).st.base _ _ hob, hfd⟩, ?_⟩)
  obtain ⟨t, rfl⟩ := rv.isStr
  have S₁ := S.ext x₁
  refine wpAny_call (codeAny_call_generator S₁.st.fit.room (S₁.st.base _ _ hob) hfd hG.co hG.gen hG.body (hG.code.keeps S₁.st.base) ?_)
  show wpAny _ _ (bindArgs fd ⟨[.str x t], []⟩) _ _ _
  rw [hG.bind, hG.clo, hG.globals, hG.builtins]
  refine wpAny_pure (wpAny_newFunctionEnv hG.nocell (fun y hy => by rw [List.mem_singleton.mp hy]; exact hG.addr) (fun h₂ ns₂ sb₂ => ⟨hG.lim.keeps fun b o eb => ?_, ?_⟩) hG.kind)
  · exact sb₂.extBut b o (Nat.ne_of_lt (Heap.lt_size (S₁.st.base b o eb))) (Heap.get?_push_of_some _ (S₁.st.base b o eb))
  dsimp only at ns₂ sb₂ ⊢
  have hz₂ : h₂.objs.size = s₁.heap.objs.size + 1 := by rw [sb₂.1, Heap.size_push]
  have k₂ : ∀ b o, s₁.heap.get? b = some o → h₂.get? b = some o := fun b o eb => sb₂.extBut b o (Nat.ne_of_lt (Heap.lt_size eb)) (Heap.get?_push_of_some _ eb)
  generalize hL : s₁.heap.objs.size = L at ns₂ hz₂ sb₂
  -- the state at which the loop begins
  show wpAny _ A (pyIter (.ref h₂.objs.size)) _ NoE ({ s₁ with gens := s₁.gens.push (.fresh (.func gbody (newEnv fd.scope L mainGlobals [] (fd.qualname ++ ".<locals>.") (some fa) fd.code none builtinsNs))), toks := s₁.toks + 1 + 1 + 1, heap := h₂.push { cls := .type "generator", data := .fields #[.int s₁.gens.size 0, .str fd.name (s₁.toks + 1), .str fd.qualname (s₁.toks + 1 + 1)] } } : Shared)
  rw [hz₂]
  generalize hs₃ : ({ s₁ with gens := s₁.gens.push (.fresh (.func gbody (newEnv fd.scope L mainGlobals [] (fd.qualname ++ ".<locals>.") (some fa) fd.code none builtinsNs))), toks := s₁.toks + 1 + 1 + 1, heap := h₂.push { cls := .type "generator", data := .fields #[.int s₁.gens.size 0, .str fd.name (s₁.toks + 1), .str fd.qualname (s₁.toks + 1 + 1)] } } : Shared) = s₃
  let genv : Env := newEnv fd.scope L mainGlobals [] (fd.qualname ++ ".<locals>.") (some fa) fd.code none builtinsNs
  have gA : s₃.heap.get? (L + 1) = some { cls := .type "generator", data := .fields #[.int s₁.gens.size 0, .str fd.name (s₁.toks + 1), .str fd.qualname (s₁.toks + 1 + 1)] } := by
    rw [← hs₃, ← hz₂]; exact Heap.get?_push_size _ rfl
  have isG : s₃.heap.IsGen (L + 1) s₁.gens.size := ⟨_, _, _, gA, rfl, rfl, rfl⟩
  have z₃ : s₃.heap.objs.size = L + 2 := by rw [← hs₃]; show (h₂.push _).objs.size = _; rw [Heap.size_push, hz₂]
  have k₃ : ∀ b o, s₁.heap.get? b = some o → s₃.heap.get? b = some o := fun b o eb => by rw [← hs₃]; exact Heap.get?_push_of_some _ (k₂ b o eb)
  have ns₃ : s₃.heap.Ns L (fun y => ([("addr", .str x t)] : List (Str × Value)).reverse.lookup y) := by
    rw [← hs₃]; exact ns₂.keeps fun b o eb => Heap.get?_push_of_some _ eb
  have gn₃ : s₃.gens = s₁.gens.push (.fresh (.func gbody genv)) := by rw [← hs₃]
  have o₁₃ : Off [] s₁ s₃ := ⟨fun b o _ eb => k₃ b o eb, fun i y e => by
      obtain ⟨hi, e⟩ := Array.getElem?_eq_some_iff.mp e
      rw [gn₃, Array.getElem?_push_lt hi, e], fun hb y hy => by
      rw [gn₃] at hy
      rcases Array.mem_push.mp hy with h | h
      · exact hb y h
      · rw [h]; rfl, by rw [← hs₃]⟩
  have frL : s₁.heap.get? L = none := fresh_of_le (Nat.le_of_eq hL)
  have frA : s₁.heap.get? (L + 1) = none := fresh_of_le (by rw [hL]; exact Nat.le_succ _)
  obtain ⟨oL, _, _, hoL, _⟩ := id ns₃
  have back₁ : ∀ a, s₁.heap.get? a = none → s.heap.get? a = none := fun a ha => by
    cases e : s.heap.get? a with
    | none => rfl
    | some o => rw [x₁.keep _ _ e] at ha; cases ha
  have S₃ := S₁.addK (K := [L, L + 1]) o₁₃ fun a ha => by
    rcases List.mem_cons.mp ha with rfl | ha
    · exact ⟨frL, _, hoL⟩
    · rw [List.mem_singleton.mp ha]; exact ⟨frA, _, gA⟩
  have hLab : G.h₀.objs.size ≤ L := by rw [← hL]; exact S₁.st.base'.2
  have eok : EnvOk G fd.scope genv := ⟨rfl, rfl, rfl, hLab, hG.kind, fun y hy => by
      rcases hy with h | h
      · exact absurd rfl (hG.nocell _ (mem_of_lookup h))
      · exact absurd rfl (hG.nofree _ (mem_of_lookup h)), fun _ _ _ _ h => (by cases h), fun _ _ h => (by cases h)⟩
  have hb₀ : ∀ a, L ≤ a → G.h₀.get? a = none := fun a ha => fresh_of_le (Nat.le_trans hLab ha)
  have WL : ∀ a ∈ W, a < L := fun a ha => by
    obtain ⟨o, ho⟩ := S₁.st.live a (List.mem_append.mpr (.inl ha)); rw [← hL]; exact Heap.lt_size ho
  have frG : ∀ a, L ≤ a → s.heap.get? a = none := fun a ha => back₁ a (fresh_of_le (by rw [hL]; exact ha))
  have M0L : ∀ a ∈ M₀, a < L := fun a ha => by
    obtain ⟨o, ho⟩ := S₁.live a ha; rw [← hL]; exact Heap.lt_size ho
  let g : Nat := s₁.gens.size
  let U : List Addr := [L, L + 2 + 1, L + 2]
  have UL : ∀ a ∈ U, L ≤ a := fun a ha => by
    rcases List.mem_cons.mp ha with rfl | ha
    · exact Nat.le_refl _
    · rcases List.mem_cons.mp ha with rfl | ha
      · exact Nat.le_succ_of_le (Nat.le_add_right _ _)
      · rw [List.mem_singleton.mp ha]; exact Nat.le_add_right _ _
  have frN : ∀ a, L + 2 ≤ a → s₃.heap.get? a = none := fun a ha => fresh_of_le (by rw [z₃]; exact ha)
  let all : List V := escGo 0 false x.cps.toList
  have start : ∀ s', s'.heap = s₃.heap → GenState.Goes (model G.prog G.w) A.in1 (escR U) (escY G U all) all.length (.fresh (.func gbody genv)) (.send .none) s' := fun s' hs' => by
    refine ⟨rfl, ?_⟩
    have := hG.start A.in1 genv x t all s' _ eok rfl hG.co ⟨S.st.fit.handled, by have := S.st.fit.depth; show A.depth + 8 * 1 + 100 < _; omega, by have := S.st.fit.units; show A.units + 1 + 200 * 1 + 400 < _; omega⟩ hasc hno rfl (fun b o eb => by rw [hs']; exact S₃.st.base b o eb) (by rw [hs']; exact ns₃) (by
      rfl)
    rw [hs', z₃] at this
    exact this
  refine wpAny_pyIter_gen isG (code_use (P := fun r' s' => ∃ fl, r' = .ok fl ∧ After G (lvl + 2) sc T ms A env W M₀ s r fl s') (for_coreG (g := g) (K := U) (M₁ := [L, L + 1] ++ M₀) (M₀ := M₀) (T := T) (ds := all) (bnd := bnd) (Fb := Fb) (r := r)
    (fun i W M s => (∀ a ∈ W, a ≠ L ∧ a ≠ L + 1) ∧ s.heap.IsGen (L + 1) g ∧ (∃ o, s.heap.get? L = some o) ∧
      ((i = 0 ∧ M = [L, L + 1] ++ M₀ ∧ s.heap = s₃.heap ∧ s.gens[g]? = some (.fresh (.func gbody genv))) ∨
       (0 < i ∧ M = U ++ ((L + 1) :: M₀) ∧ Live s.heap U ∧ (∀ a ∈ W, a ∉ U) ∧ ∃ gs, s.gens[g]? = some gs ∧ ∀ s'', escCond G U s s'' → (match all.length - (i - 1) with
          | 0 => False
          | m + 1 => gs.Goes (model G.prog G.w) A.in1 (escR U) (escY G U all) m (.send .none) s''))))
    (fun W s ρ => StW G (lvl + 2) sc T ms A env W M₀ s ρ) ?_ ?_ ?_ ?_ ?_ hB S₃ ?_ q ?_) fun r' s' ⟨fl, e, hA⟩ => by subst e; exact hA)
  · -- M₀ stays among what may move
    rintro i W M s ⟨_, _, _, ⟨_, rfl, _⟩ | ⟨_, rfl, _⟩⟩ a ha
    · exact List.mem_append.mpr (.inr ha)
    · exact List.mem_append.mpr (.inr (.tail _ ha))
  · -- what is alive stays alive
    rintro i W M s' ⟨_, _, hl, _⟩ a ha
    rcases List.mem_cons.mp ha with rfl | ha
    · exact .inl hl
    · exact .inr (frN a (by
        rcases List.mem_cons.mp ha with rfl | ha
        · exact Nat.le_succ _
        · rw [List.mem_singleton.mp ha]; exact Nat.le_refl _))
  · -- a turn
    rintro i d W M s ρ ρ1 hd S ⟨hW, hIs, hLl, hst⟩ hb
    have hi : i < all.length := (List.getElem?_eq_some_iff.mp hd).1
    obtain ⟨m, hm⟩ : ∃ m, all.length - i = m + 1 := ⟨all.length - i - 1, by omega⟩
    have aliveW : ∀ a ∈ W, ∃ o, s.heap.get? a = some o := fun a h => S.st.live a (List.mem_append.mpr (.inl h))
    obtain ⟨oG, nm, qn, hoG, r1, r2, r3⟩ := id hIs
    have hM0 : ∀ a ∈ M₀, a ∈ M := fun a ha => by
      rcases hst with ⟨_, rfl, _⟩ | ⟨_, rfl, _⟩
      · exact List.mem_append.mpr (.inr ha)
      · exact List.mem_append.mpr (.inr (.tail _ ha))
    have hA1 : L + 1 ∈ M := by
      rcases hst with ⟨_, rfl, _⟩ | ⟨_, rfl, _⟩
      · exact .tail _ (.head _)
      · exact List.mem_append.mpr (.inr (.head _))
    have hK : ∀ a ∈ U, (a ∈ M ∧ a ∉ W) ∨ s.heap.get? a = none := fun a ha => by
      rcases hst with ⟨_, rfl, hh, _⟩ | ⟨_, rfl, _, hWU, _⟩
      · rcases List.mem_cons.mp ha with rfl | ha
        · exact .inl ⟨.head _, fun h => (hW _ h).1 rfl⟩
        · refine .inr ?_
          rw [hh]
          exact frN a (by
            rcases List.mem_cons.mp ha with rfl | ha
            · exact Nat.le_succ _
            · rw [List.mem_singleton.mp ha]; exact Nat.le_refl _)
      · exact .inl ⟨List.mem_append.mpr (.inl ha), fun h => hWU a h ha⟩
    have hWU : ∀ a ∈ W, a ∉ U := fun a h hu => (hK a hu).elim (fun q => q.2 h) fun q => by obtain ⟨o, ho⟩ := aliveW a h; rw [q] at ho; cases ho
    have hgoes : ∃ gs, s.gens[g]? = some gs ∧ gs.Goes (model G.prog G.w) A.in1 (escR U) (escY G U all) (m + 1) (.send .none) (s.setGen g .running) := by
      rcases hst with ⟨rfl, _, hh, hgs⟩ | ⟨hpos, _, _, _, gs, hgs, hgo⟩
      · have := start (s.setGen g .running) hh
        rw [show all.length = m + 1 from by omega] at this
        exact ⟨_, hgs, this⟩
      · refine ⟨gs, hgs, ?_⟩
        have := hgo (s.setGen g .running) ⟨fun _ _ _ e => e, S.st.base⟩
        rwa [show all.length - (i - 1) = (m + 1) + 1 from by omega] at this
    obtain ⟨gs, hgs, hgo⟩ := hgoes
    refine next_genfun (P := fun n s₀ s₁ => n = 0 ∧ Off U s₀ s₁) S.st.fit.handled (hG.lim.keeps S.st.base) S.st.fit.room hIs hgs hgo (fun v s₁ gs' hb' hY => ?_) (fun s₁ hP => absurd hP.1 (Nat.succ_ne_zero m))
    obtain ⟨⟨a, p, tt, z, u, nn, rfl, hfr, hnU, hget, hidx⟩, hoff, hlU, hkap⟩ := hY
    replace hfr : s.heap.get? a = none := hfr
    have hoffH : ∀ b o, b ∉ U → s.heap.get? b = some o → s₁.heap.get? b = some o := fun b o hb e => hoff.heap b o hb e
    have hA1U : L + 1 ∉ U := fun hm => by
      rcases List.mem_cons.mp hm with q | hm
      · exact Nat.succ_ne_self _ q
      · rcases List.mem_cons.mp hm with q | hm
        · exact absurd q (Nat.ne_of_lt (Nat.lt_succ_of_lt (Nat.lt_succ_self _)))
        · exact absurd (List.mem_singleton.mp hm) (Nat.ne_of_lt (Nat.lt_succ_self _))
    have hoG₁ := hoffH _ _ hA1U hoG
    have hdd : d = .tup [.int p, .str z] := by
      rw [show all.length - 1 - (m + 1 - 1) = i from by omega, hd] at hidx
      exact Option.some.inj hidx
    subst hdd
    have hgr : s₁.gens[g]? = some .running := hoff.gens _ _ (setGen_self hgs)
    refine ⟨.ref a, rfl, letOwned_quiet (n := "generator") (s := s₁.setGen g gs') hoG₁ r1 (by decide) ?_⟩
    have S₂ : StW G (lvl + 2) sc T ms A env W (U ++ ((L + 1) :: M₀)) (s₁.setGen g gs') ρ := S.move (K := U) hoffH hK (fun a ha => hb₀ a (UL a ha)) (fun b hb => by
        rcases List.mem_append.mp hb with h | h
        · exact (hK b h).imp (·.1) id
        · rcases List.mem_cons.mp h with rfl | h
          · exact .inl hA1
          · exact .inl (hM0 b h)) fun b hb => by
        rcases List.mem_append.mp hb with h | h
        · exact hlU b h
        · rcases List.mem_cons.mp h with rfl | h
          · exact ⟨_, hoG₁⟩
          · obtain ⟨o, ho⟩ := S.st.live b (List.mem_append.mpr (.inr (hM0 b h)))
            exact ⟨o, hoffH b o (fun q => Nat.lt_irrefl _ (Nat.lt_of_lt_of_le (M0L b h) (UL b q))) ho⟩
    have rT : Rep G.C (s₁.setGen g gs').heap (W ++ (U ++ ((L + 1) :: M₀))) (.ref a) (.tup [.int p, .str z]) := .tup (vs := [.int p tt, .str z u]) hget (fun hm => by
        rcases List.mem_append.mp hm with h | h
        · obtain ⟨o, ho⟩ := aliveW a h; rw [hfr] at ho; cases ho
        · rcases List.mem_append.mp h with h | h
          · exact hnU h
          · rcases List.mem_cons.mp h with rfl | h
            · rw [hfr] at hoG; cases hoG
            · obtain ⟨o, ho⟩ := S.st.live a (List.mem_append.mpr (.inr (hM0 a h))); rw [hfr] at ho; cases ho) (.cons (.int _ _) (.cons (.str _ _) .nil))
    refine wp_use (hT A env _ _ ρ _ _ ρ1 S₂.st rT hb) fun _ s₃' ⟨o₂, S₃', sb⟩ => ⟨W, _, fun _ h => .inl h, ?_, S₂.afterT S₃' hk sb, ?_⟩
    · refine ⟨fun b o hb e => o₂.heap b o (fun q => hb (List.mem_append.mpr (.inr (S₂.touches b q)))) (hoffH b o (fun q => hb (List.mem_append.mpr (.inl q))) e), fun j y hj e => ?_, fun hb => ?_, o₂.os.trans hoff.os⟩
      · have e1 : (s.setGen g .running).gens[j]? = some y := by rw [(GenOnly.setGen s g .running).2 j hj]; exact e
        have e2 := hoff.gens j y e1
        have e3 : (s₁.setGen g gs').gens[j]? = some y := by rw [(GenOnly.setGen s₁ g gs').2 j hj]; exact e2
        exact o₂.gens j y e3
      · exact o₂.bare (bare_set (hoff.bare (bare_set hb rfl)) hb')
    · have kU : ∀ b ∈ U, ∀ ob, s₁.heap.get? b = some ob → s₃'.heap.get? b = some ob := fun b hb ob e => o₂.heap b ob (fun q => hWU b (S₂.touches b q) hb) e
      obtain ⟨oL', hoL'⟩ := hlU L (.head _)
      refine ⟨hW, ⟨oG, nm, qn, o₂.heap _ _ (fun q => (hW _ (S₂.touches _ q)).2 rfl) hoG₁, r1, r2, r3⟩, ⟨oL', kU L (.head _) _ hoL'⟩, .inr ⟨Nat.succ_pos _, rfl, fun b hb => ?_, hWU, gs', o₂.gens _ _ (setGen_self hgr), fun s'' hc => ?_⟩⟩
      · obtain ⟨o, ho⟩ := hlU b hb; exact ⟨o, kU b hb o ho⟩
      · have := hkap s'' ⟨fun b hb o e => hc.1 b hb o (kU b hb o e), hc.2⟩
        rw [show all.length - (i + 1 - 1) = m + 1 from by omega]
        exact this
  · -- the end
    rintro W M s ρ S ⟨hW, hIs, hLl, hst⟩
    have aliveW : ∀ a ∈ W, ∃ o, s.heap.get? a = some o := fun a h => S.st.live a (List.mem_append.mpr (.inl h))
    have hM0 : ∀ a ∈ M₀, a ∈ M := fun a ha => by
      rcases hst with ⟨_, rfl, _⟩ | ⟨_, rfl, _⟩
      · exact List.mem_append.mpr (.inr ha)
      · exact List.mem_append.mpr (.inr (.tail _ ha))
    have hK : ∀ a ∈ U, (a ∈ M ∧ a ∉ W) ∨ s.heap.get? a = none := fun a ha => by
      rcases hst with ⟨_, rfl, hh, _⟩ | ⟨_, rfl, _, hWU, _⟩
      · rcases List.mem_cons.mp ha with rfl | ha
        · exact .inl ⟨.head _, fun h => (hW _ h).1 rfl⟩
        · refine .inr ?_
          rw [hh]
          exact frN a (by
            rcases List.mem_cons.mp ha with rfl | ha
            · exact Nat.le_succ _
            · rw [List.mem_singleton.mp ha]; exact Nat.le_refl _)
      · exact .inl ⟨List.mem_append.mpr (.inl ha), fun h => hWU a h ha⟩
    have hgoes : ∃ gs, s.gens[g]? = some gs ∧ gs.Goes (model G.prog G.w) A.in1 (escR U) (escY G U all) 0 (.send .none) (s.setGen g .running) := by
      rcases hst with ⟨h0, _, hh, hgs⟩ | ⟨hpos, _, _, _, gs, hgs, hgo⟩
      · have := start (s.setGen g .running) hh
        rw [h0] at this
        exact ⟨_, hgs, this⟩
      · refine ⟨gs, hgs, ?_⟩
        have := hgo (s.setGen g .running) ⟨fun _ _ _ e => e, S.st.base⟩
        rwa [show all.length - (all.length - 1) = 0 + 1 from by omega] at this
    obtain ⟨gs, hgs, hgo⟩ := hgoes
    refine next_genfun (P := fun n s₀ s₁ => n = 0 ∧ Off U s₀ s₁) S.st.fit.handled (hG.lim.keeps S.st.base) S.st.fit.room hIs hgs hgo (fun v s₁ gs' hb' hY => ?_) (fun s₁ hP h' hk' => ⟨rfl, ?_, ?_⟩)
    · obtain ⟨_, hoff, _, hkap⟩ := hY
      exact (hkap s₁ ⟨fun _ _ _ e => e, fun b o e => hoff.heap b o (fun q => by rw [hb₀ b (UL b q)] at e; cases e) (S.st.base b o e)⟩).elim
    · obtain ⟨_, hoff⟩ := hP
      refine ⟨fun b o hb e => hk' b o (hoff.heap b o hb e), fun j y hj e => ?_, fun hb => bare_set (hoff.bare (bare_set hb rfl)) rfl, hoff.os⟩
      have e1 : (s.setGen g .running).gens[j]? = some y := by rw [(GenOnly.setGen s g .running).2 j hj]; exact e
      have e2 := hoff.gens j y e1
      show (s₁.setGen g .finished).gens[j]? = some y
      rw [(GenOnly.setGen s₁ g .finished).2 j hj]; exact e2
    · obtain ⟨_, hoff⟩ := hP
      have hoffH : ∀ b o, b ∉ U → s.heap.get? b = some o → h'.get? b = some o := fun b o hb e => hk' b o (hoff.heap b o hb e)
      refine S.move (K := U) hoffH hK (fun a ha => hb₀ a (UL a ha)) (fun b hb => .inl (hM0 b hb)) fun b hb => ?_
      obtain ⟨o, ho⟩ := S.st.live b (List.mem_append.mpr (.inr (hM0 b hb)))
      exact ⟨o, hoffH b o (fun q => Nat.lt_irrefl _ (Nat.lt_of_lt_of_le (M0L b hb) (UL b q))) ho⟩
  · -- the body leaves the generator alone
    rintro i W W' M s s' ⟨hW, hIs, ⟨oL', hoL'⟩, ⟨h0, _⟩ | ⟨hpos, rfl, hlU, hWU, gs, hgs, hgo⟩⟩ o hW'
    · cases h0
    obtain ⟨oG, nm, qn, hoG, r1, r2, r3⟩ := hIs
    have kU : ∀ a ∈ U, ∀ ob, s.heap.get? a = some ob → s'.heap.get? a = some ob := fun a ha ob e => o.heap a ob (fun hm => hWU a hm ha) e
    refine ⟨fun a ha => ?_, ⟨oG, nm, qn, o.heap _ _ (fun hm => (hW _ hm).2 rfl) hoG, r1, r2, r3⟩, ⟨oL', kU L (.head _) _ hoL'⟩, .inr ⟨hpos, rfl, fun a ha => ?_, fun a ha hm => ?_, gs, o.gens _ _ hgs, fun s'' hc => hgo s'' ⟨fun b hb ob e => hc.1 b hb ob (kU b hb ob e), hc.2⟩⟩⟩
    · rcases hW' a ha with h | h
      · exact hW a h
      · exact ⟨fun q => (by rw [q, hoL'] at h; cases h), fun q => (by rw [q, hoG] at h; cases h)⟩
    · obtain ⟨ob, hob⟩ := hlU a ha; exact ⟨ob, kU a ha ob hob⟩
    · rcases hW' a ha with h | h
      · exact hWU a h hm
      · obtain ⟨ob, hob⟩ := hlU a hm; rw [h] at hob; cases hob
  · -- at the loop's start
    refine ⟨fun a ha => ?_, isG, ⟨_, hoL⟩, .inl ⟨rfl, rfl, rfl, by rw [gn₃]; simp [g]⟩⟩
    have := WL a ha
    exact ⟨Nat.ne_of_lt this, Nat.ne_of_lt (Nat.lt_succ_of_lt this)⟩
  · -- after the loop
    intro fl s' W' hW' o hA
    refine ⟨fl, rfl, W', fun a ha => (hW' a ha).imp id fun q => ?_, ?_, ?_⟩
    · refine back₁ a ?_
      cases e : s₁.heap.get? a with
      | none => rfl
      | some ob => rw [k₃ _ _ e] at q; cases q
    · refine ⟨fun b ob hb eb => o.heap b ob (fun hm => ?_) (k₃ _ _ (x₁.keep _ _ eb)), fun i y ey => ?_, fun hb => o.bare (o₁₃.bare (x₁.bare hb)), (o.os.trans o₁₃.os).trans x₁.os⟩
      · rcases List.mem_append.mp hm with h | h
        · rw [frG b (UL b h)] at eb; cases eb
        · exact hb h
      · have e1 := x₁.gens i y ey
        refine o.gens i y (fun q => ?_) (o₁₃.gens i y e1)
        have := (Array.getElem?_eq_some_iff.mp e1).1
        rw [q] at this; exact Nat.lt_irrefl _ this
    · cases r with
      | next ρ' => exact hA
      | ret d => exact hA
end
end Mine
end

section
namespace Mine
open PySem PySem.Calls PyProof.Rows

/-- x is None -/
noncomputable def isNV : List V → Option V
  | [.none, .none] => some (.bool true)
  | [.int _, .none] => some (.bool false)
  | _ => none
theorem P_isN {G : Gd} {lvl : Nat} : Prim G lvl (cmpT .Is) isNV := by
  intro A M s vs ds d f b l r e
  unfold isNV at e
  split at e
  · cases e
    obtain ⟨u, v, rfl, x, y⟩ := r.two
    cases x; cases y
    exact PyProof.Rows.is_none_none ⟨Off.refl _ s, .bool _⟩
  · cases e
    obtain ⟨u, v, rfl, x, y⟩ := r.two
    obtain ⟨t, rfl⟩ := x.isInt
    cases y
    exact PyProof.Rows.is_none_ne (by intro h; cases h) ⟨Off.refl _ s, .bool _⟩
  · cases e

set_option maxRecDepth 100000
set_option maxHeartbeats 4000000
theorem esc_ok {G : Gd} (c : Ctx G) {A : Around} {env : Env} {x : Str} {t : Tok} {all : List V} {s : Shared} {m : Str → Option Value} (eok : EnvOk G (topScope 7) env) (hc : env.cells = []) (hco : env.scope.isCoroutine = false) (fit : Fit A 1) (hasc : x.cps.all (· < 128) = true)
    (hno : escEnd false x.cps.toList = false) (hall : all = escGo 0 false x.cps.toList) (base : ∀ b o, G.h₀.get? b = some o → s.heap.get? b = some o) (hn : s.heap.Ns env.locals m) (h0 : m "addr" = some (.str x t)) :
    Seg (model G.prog G.w) A (escR [env.locals, s.heap.objs.size + 1, s.heap.objs.size]) (escY G [env.locals, s.heap.objs.size + 1, s.heap.objs.size] all) all.length s (.func (topBody 7) env) ((model G.prog G.w).den (.func (topBody 7) env)) [] s :=
  esc_start (sc := topScope 7) (body := topBody 7) rfl (DenT.tuple (is := [1, 3]) (by decide +kernel) (by decide +kernel))
    (DenB.val (DenP.name 2 (by decide +kernel) (by decide +kernel) (by decide +kernel)) (fun _ _ => rfl))
    (DenAll.cons (DenP.name 1 (by decide +kernel) (by decide +kernel) (by decide +kernel)) (DenAll.cons (DenP.bin P_add DenP.str (DenP.name 3 (by decide +kernel) (by decide +kernel) (by decide +kernel))) DenAll.nil rfl) rfl)
    DenP.bool (DenT.name (i := 2) (by decide +kernel) (by decide +kernel) (by decide +kernel))
    (DenB.cmp P_eq (DenP.name 3 (by decide +kernel) (by decide +kernel) (by decide +kernel)) DenP.str rfl)
    (DenAll.cons (DenP.name 1 (by decide +kernel) (by decide +kernel) (by decide +kernel)) (DenAll.cons (DenP.name 3 (by decide +kernel) (by decide +kernel) (by decide +kernel)) DenAll.nil rfl) rfl)
    DenP.bool (DenT.name (i := 2) (by decide +kernel) (by decide +kernel) (by decide +kernel))
    (DenB.val (DenP.name 2 (by decide +kernel) (by decide +kernel) (by decide +kernel)) (fun _ _ => rfl))
    (DenAll.cons (DenP.name 1 (by decide +kernel) (by decide +kernel) (by decide +kernel)) (DenAll.cons DenP.str DenAll.nil rfl) rfl)
    (fun _ _ => rfl) (fun _ _ => rfl) (fun _ _ => rfl) (fun _ _ => rfl) (fun _ _ => rfl) (fun _ _ => rfl)
    hco (by have := eok.scope; obtain ⟨⟩ := env; cases this; rfl) (by decide +kernel) c.enumerate (by decide +kernel) (by decide +kernel) (by decide +kernel) (by decide +kernel) eok hc fit hasc hno hall base hn h0
end Mine
end

section
namespace Mine
open PySem PySem.Calls PyProof.Rows
open PySem.W
set_option maxRecDepth 100000
set_option maxHeartbeats 4000000
noncomputable def F_hsv : RX :=
  (andThen (xAsg (fC maxV (aC (fV 0) (aC (fV 1) (aC (fV 2) a0)))) (b1 3))
  (andThen (xAsg (fC minV (aC (fV 0) (aC (fV 1) (aC (fV 2) a0)))) (b1 4))
  (andThen (xAsg (f2 subV (fV 3) (fV 4)) (b1 5))
  (andThen (xAsg (fV 3) (b1 6))
  (andThen (xIte (bC eqV (fV 4) (fV 3)) (andThen (xRet (fTup (aC (fF 0) (aC (fF 0) (aC (fV 6) a0)))))
  xNil) xNil)
  (andThen (xAsg (f2 divV (fV 5) (fV 3)) (b1 7))
  (andThen (xAsg (f2 divV (f2 subV (fV 3) (fV 0)) (fV 5)) (b1 8))
  (andThen (xAsg (f2 divV (f2 subV (fV 3) (fV 1)) (fV 5)) (b1 9))
  (andThen (xAsg (f2 divV (f2 subV (fV 3) (fV 2)) (fV 5)) (b1 10))
  (andThen (xIte (bC eqV (fV 0) (fV 3)) (andThen (xAsg (f2 subV (fV 10) (fV 9)) (b1 11))
  xNil) (andThen (xIte (bC eqV (fV 1) (fV 3)) (andThen (xAsg (f2 subV (f2 addV (fF 4611686018427387904) (fV 8)) (fV 10)) (b1 11))
  xNil) (andThen (xAsg (f2 subV (f2 addV (fF 4616189618054758400) (fV 9)) (fV 8)) (b1 11))
  xNil))
  xNil))
  (andThen (xAsg (f2 modV (f2 divV (fV 11) (fF 4618441417868443648)) (fF 4607182418800017408)) (b1 11))
  (andThen (xRet (fTup (aC (fV 11) (aC (fV 7) (aC (fV 6) a0)))))
  xNil))))))))))))

noncomputable def ps_hsv : List (Str × Nat) := [("r", 0), ("g", 1), ("b", 2)]

noncomputable def W_hsv : List V → Option V := runF ps_hsv F_hsv

noncomputable def T_hsv : List (Str × Nat) := [("r", 0), ("g", 1), ("b", 2), ("maxc", 3), ("minc", 4), ("rangec", 5), ("v", 6), ("s", 7), ("rc", 8), ("gc", 9), ("bc", 10), ("h", 11)]

theorem D_hsv {G : Gd} {lvl : Nat} (c : Ctx G) : DenS G lvl (topScope 4) T_hsv T_hsv [] (topBody 4) F_hsv :=
  (DenS.cons (T' := T_hsv) (DenX.assign (DenP.callB P_max c.max (DenAll.cons (DenP.name 0 (by first | kernel_rfl | decide +kernel) (by first | kernel_rfl | decide +kernel) (by first | kernel_rfl | decide +kernel)) (DenAll.cons (DenP.name 1 (by first | kernel_rfl | decide +kernel) (by first | kernel_rfl | decide +kernel) (by first | kernel_rfl | decide +kernel)) (DenAll.cons (DenP.name 2 (by first | kernel_rfl | decide +kernel) (by first | kernel_rfl | decide +kernel) (by first | kernel_rfl | decide +kernel)) DenAll.nil rfl) rfl) rfl) (by first | kernel_rfl | decide +kernel) (by first | kernel_rfl | decide +kernel) (by first | kernel_rfl | decide +kernel)) (DenT.name (i := 3) (by first | kernel_rfl | decide +kernel) (by first | kernel_rfl | decide +kernel) (by first | kernel_rfl | decide +kernel)) (by first | kernel_rfl | decide +kernel) (fun _ _ => rfl) (fun _ _ => rfl) (fun _ _ => rfl))
  (DenS.cons (T' := T_hsv) (DenX.assign (DenP.callB P_min c.min (DenAll.cons (DenP.name 0 (by first | kernel_rfl | decide +kernel) (by first | kernel_rfl | decide +kernel) (by first | kernel_rfl | decide +kernel)) (DenAll.cons (DenP.name 1 (by first | kernel_rfl | decide +kernel) (by first | kernel_rfl | decide +kernel) (by first | kernel_rfl | decide +kernel)) (DenAll.cons (DenP.name 2 (by first | kernel_rfl | decide +kernel) (by first | kernel_rfl | decide +kernel) (by first | kernel_rfl | decide +kernel)) DenAll.nil rfl) rfl) rfl) (by first | kernel_rfl | decide +kernel) (by first | kernel_rfl | decide +kernel) (by first | kernel_rfl | decide +kernel)) (DenT.name (i := 4) (by first | kernel_rfl | decide +kernel) (by first | kernel_rfl | decide +kernel) (by first | kernel_rfl | decide +kernel)) (by first | kernel_rfl | decide +kernel) (fun _ _ => rfl) (fun _ _ => rfl) (fun _ _ => rfl))
  (DenS.cons (T' := T_hsv) (DenX.assign (DenP.bin P_sub (DenP.name 3 (by first | kernel_rfl | decide +kernel) (by first | kernel_rfl | decide +kernel) (by first | kernel_rfl | decide +kernel)) (DenP.name 4 (by first | kernel_rfl | decide +kernel) (by first | kernel_rfl | decide +kernel) (by first | kernel_rfl | decide +kernel))) (DenT.name (i := 5) (by first | kernel_rfl | decide +kernel) (by first | kernel_rfl | decide +kernel) (by first | kernel_rfl | decide +kernel)) (by first | kernel_rfl | decide +kernel) (fun _ _ => rfl) (fun _ _ => rfl) (fun _ _ => rfl))
  (DenS.cons (T' := T_hsv) (DenX.assign (DenP.name 3 (by first | kernel_rfl | decide +kernel) (by first | kernel_rfl | decide +kernel) (by first | kernel_rfl | decide +kernel)) (DenT.name (i := 6) (by first | kernel_rfl | decide +kernel) (by first | kernel_rfl | decide +kernel) (by first | kernel_rfl | decide +kernel)) (by first | kernel_rfl | decide +kernel) (fun _ _ => rfl) (fun _ _ => rfl) (fun _ _ => rfl))
  (DenS.cons (T' := T_hsv) (DenX.ite (DenB.cmp P_eq (DenP.name 4 (by first | kernel_rfl | decide +kernel) (by first | kernel_rfl | decide +kernel) (by first | kernel_rfl | decide +kernel)) (DenP.name 3 (by first | kernel_rfl | decide +kernel) (by first | kernel_rfl | decide +kernel) (by first | kernel_rfl | decide +kernel)) rfl) (DenS.cons (T' := T_hsv) (DenS.ret (DenP.tuple (DenAll.cons DenP.flt (DenAll.cons DenP.flt (DenAll.cons (DenP.name 6 (by first | kernel_rfl | decide +kernel) (by first | kernel_rfl | decide +kernel) (by first | kernel_rfl | decide +kernel)) DenAll.nil rfl) rfl) rfl) (by first | kernel_rfl | decide +kernel)))
  DenS.nil) DenS.nil)
  (DenS.cons (T' := T_hsv) (DenX.assign (DenP.bin P_div (DenP.name 5 (by first | kernel_rfl | decide +kernel) (by first | kernel_rfl | decide +kernel) (by first | kernel_rfl | decide +kernel)) (DenP.name 3 (by first | kernel_rfl | decide +kernel) (by first | kernel_rfl | decide +kernel) (by first | kernel_rfl | decide +kernel))) (DenT.name (i := 7) (by first | kernel_rfl | decide +kernel) (by first | kernel_rfl | decide +kernel) (by first | kernel_rfl | decide +kernel)) (by first | kernel_rfl | decide +kernel) (fun _ _ => rfl) (fun _ _ => rfl) (fun _ _ => rfl))
  (DenS.cons (T' := T_hsv) (DenX.assign (DenP.bin P_div (DenP.bin P_sub (DenP.name 3 (by first | kernel_rfl | decide +kernel) (by first | kernel_rfl | decide +kernel) (by first | kernel_rfl | decide +kernel)) (DenP.name 0 (by first | kernel_rfl | decide +kernel) (by first | kernel_rfl | decide +kernel) (by first | kernel_rfl | decide +kernel))) (DenP.name 5 (by first | kernel_rfl | decide +kernel) (by first | kernel_rfl | decide +kernel) (by first | kernel_rfl | decide +kernel))) (DenT.name (i := 8) (by first | kernel_rfl | decide +kernel) (by first | kernel_rfl | decide +kernel) (by first | kernel_rfl | decide +kernel)) (by first | kernel_rfl | decide +kernel) (fun _ _ => rfl) (fun _ _ => rfl) (fun _ _ => rfl))
  (DenS.cons (T' := T_hsv) (DenX.assign (DenP.bin P_div (DenP.bin P_sub (DenP.name 3 (by first | kernel_rfl | decide +kernel) (by first | kernel_rfl | decide +kernel) (by first | kernel_rfl | decide +kernel)) (DenP.name 1 (by first | kernel_rfl | decide +kernel) (by first | kernel_rfl | decide +kernel) (by first | kernel_rfl | decide +kernel))) (DenP.name 5 (by first | kernel_rfl | decide +kernel) (by first | kernel_rfl | decide +kernel) (by first | kernel_rfl | decide +kernel))) (DenT.name (i := 9) (by first | kernel_rfl | decide +kernel) (by first | kernel_rfl | decide +kernel) (by first | kernel_rfl | decide +kernel)) (by first | kernel_rfl | decide +kernel) (fun _ _ => rfl) (fun _ _ => rfl) (fun _ _ => rfl))
  (DenS.cons (T' := T_hsv) (DenX.assign (DenP.bin P_div (DenP.bin P_sub (DenP.name 3 (by first | kernel_rfl | decide +kernel) (by first | kernel_rfl | decide +kernel) (by first | kernel_rfl | decide +kernel)) (DenP.name 2 (by first | kernel_rfl | decide +kernel) (by first | kernel_rfl | decide +kernel) (by first | kernel_rfl | decide +kernel))) (DenP.name 5 (by first | kernel_rfl | decide +kernel) (by first | kernel_rfl | decide +kernel) (by first | kernel_rfl | decide +kernel))) (DenT.name (i := 10) (by first | kernel_rfl | decide +kernel) (by first | kernel_rfl | decide +kernel) (by first | kernel_rfl | decide +kernel)) (by first | kernel_rfl | decide +kernel) (fun _ _ => rfl) (fun _ _ => rfl) (fun _ _ => rfl))
  (DenS.cons (T' := T_hsv) (DenX.ite (DenB.cmp P_eq (DenP.name 0 (by first | kernel_rfl | decide +kernel) (by first | kernel_rfl | decide +kernel) (by first | kernel_rfl | decide +kernel)) (DenP.name 3 (by first | kernel_rfl | decide +kernel) (by first | kernel_rfl | decide +kernel) (by first | kernel_rfl | decide +kernel)) rfl) (DenS.cons (T' := T_hsv) (DenX.assign (DenP.bin P_sub (DenP.name 10 (by first | kernel_rfl | decide +kernel) (by first | kernel_rfl | decide +kernel) (by first | kernel_rfl | decide +kernel)) (DenP.name 9 (by first | kernel_rfl | decide +kernel) (by first | kernel_rfl | decide +kernel) (by first | kernel_rfl | decide +kernel))) (DenT.name (i := 11) (by first | kernel_rfl | decide +kernel) (by first | kernel_rfl | decide +kernel) (by first | kernel_rfl | decide +kernel)) (by first | kernel_rfl | decide +kernel) (fun _ _ => rfl) (fun _ _ => rfl) (fun _ _ => rfl))
  DenS.nil) (DenS.cons (T' := T_hsv) (DenX.ite (DenB.cmp P_eq (DenP.name 1 (by first | kernel_rfl | decide +kernel) (by first | kernel_rfl | decide +kernel) (by first | kernel_rfl | decide +kernel)) (DenP.name 3 (by first | kernel_rfl | decide +kernel) (by first | kernel_rfl | decide +kernel) (by first | kernel_rfl | decide +kernel)) rfl) (DenS.cons (T' := T_hsv) (DenX.assign (DenP.bin P_sub (DenP.bin P_add DenP.flt (DenP.name 8 (by first | kernel_rfl | decide +kernel) (by first | kernel_rfl | decide +kernel) (by first | kernel_rfl | decide +kernel))) (DenP.name 10 (by first | kernel_rfl | decide +kernel) (by first | kernel_rfl | decide +kernel) (by first | kernel_rfl | decide +kernel))) (DenT.name (i := 11) (by first | kernel_rfl | decide +kernel) (by first | kernel_rfl | decide +kernel) (by first | kernel_rfl | decide +kernel)) (by first | kernel_rfl | decide +kernel) (fun _ _ => rfl) (fun _ _ => rfl) (fun _ _ => rfl))
  DenS.nil) (DenS.cons (T' := T_hsv) (DenX.assign (DenP.bin P_sub (DenP.bin P_add DenP.flt (DenP.name 9 (by first | kernel_rfl | decide +kernel) (by first | kernel_rfl | decide +kernel) (by first | kernel_rfl | decide +kernel))) (DenP.name 8 (by first | kernel_rfl | decide +kernel) (by first | kernel_rfl | decide +kernel) (by first | kernel_rfl | decide +kernel))) (DenT.name (i := 11) (by first | kernel_rfl | decide +kernel) (by first | kernel_rfl | decide +kernel) (by first | kernel_rfl | decide +kernel)) (by first | kernel_rfl | decide +kernel) (fun _ _ => rfl) (fun _ _ => rfl) (fun _ _ => rfl))
  DenS.nil))
  DenS.nil))
  (DenS.cons (T' := T_hsv) (DenX.assign (DenP.bin P_mod (DenP.bin P_div (DenP.name 11 (by first | kernel_rfl | decide +kernel) (by first | kernel_rfl | decide +kernel) (by first | kernel_rfl | decide +kernel)) DenP.flt) DenP.flt) (DenT.name (i := 11) (by first | kernel_rfl | decide +kernel) (by first | kernel_rfl | decide +kernel) (by first | kernel_rfl | decide +kernel)) (by first | kernel_rfl | decide +kernel) (fun _ _ => rfl) (fun _ _ => rfl) (fun _ _ => rfl))
  (DenS.cons (T' := T_hsv) (DenS.ret (DenP.tuple (DenAll.cons (DenP.name 11 (by first | kernel_rfl | decide +kernel) (by first | kernel_rfl | decide +kernel) (by first | kernel_rfl | decide +kernel)) (DenAll.cons (DenP.name 7 (by first | kernel_rfl | decide +kernel) (by first | kernel_rfl | decide +kernel) (by first | kernel_rfl | decide +kernel)) (DenAll.cons (DenP.name 6 (by first | kernel_rfl | decide +kernel) (by first | kernel_rfl | decide +kernel) (by first | kernel_rfl | decide +kernel)) DenAll.nil rfl) rfl) rfl) (by first | kernel_rfl | decide +kernel)))
  DenS.nil))))))))))))
end Mine
end

section
namespace Mine
open PySem PySem.Calls PyProof.Rows
open PySem.W
set_option maxRecDepth 100000
set_option maxHeartbeats 4000000
noncomputable def F_hls : RX :=
  (andThen (xAsg (fC maxV (aC (fV 0) (aC (fV 1) (aC (fV 2) a0)))) (b1 3))
  (andThen (xAsg (fC minV (aC (fV 0) (aC (fV 1) (aC (fV 2) a0)))) (b1 4))
  (andThen (xAsg (f2 addV (fV 3) (fV 4)) (b1 5))
  (andThen (xAsg (f2 subV (fV 3) (fV 4)) (b1 6))
  (andThen (xAsg (f2 divV (fV 5) (fF 4611686018427387904)) (b1 7))
  (andThen (xIte (bC eqV (fV 4) (fV 3)) (andThen (xRet (fTup (aC (fF 0) (aC (fV 7) (aC (fF 0) a0)))))
  xNil) xNil)
  (andThen (xIte (bC leV (fV 7) (fF 4602678819172646912)) (andThen (xAsg (f2 divV (fV 6) (fV 5)) (b1 8))
  xNil) (andThen (xAsg (f2 divV (fV 6) (f2 subV (f2 subV (fF 4611686018427387904) (fV 3)) (fV 4))) (b1 8))
  xNil))
  (andThen (xAsg (f2 divV (f2 subV (fV 3) (fV 0)) (fV 6)) (b1 9))
  (andThen (xAsg (f2 divV (f2 subV (fV 3) (fV 1)) (fV 6)) (b1 10))
  (andThen (xAsg (f2 divV (f2 subV (fV 3) (fV 2)) (fV 6)) (b1 11))
  (andThen (xIte (bC eqV (fV 0) (fV 3)) (andThen (xAsg (f2 subV (fV 11) (fV 10)) (b1 12))
  xNil) (andThen (xIte (bC eqV (fV 1) (fV 3)) (andThen (xAsg (f2 subV (f2 addV (fF 4611686018427387904) (fV 9)) (fV 11)) (b1 12))
  xNil) (andThen (xAsg (f2 subV (f2 addV (fF 4616189618054758400) (fV 10)) (fV 9)) (b1 12))
  xNil))
  xNil))
  (andThen (xAsg (f2 modV (f2 divV (fV 12) (fF 4618441417868443648)) (fF 4607182418800017408)) (b1 12))
  (andThen (xRet (fTup (aC (fV 12) (aC (fV 7) (aC (fV 8) a0)))))
  xNil)))))))))))))

noncomputable def ps_hls : List (Str × Nat) := [("r", 0), ("g", 1), ("b", 2)]

noncomputable def W_hls : List V → Option V := runF ps_hls F_hls

noncomputable def T_hls : List (Str × Nat) := [("r", 0), ("g", 1), ("b", 2), ("maxc", 3), ("minc", 4), ("sumc", 5), ("rangec", 6), ("l", 7), ("s", 8), ("rc", 9), ("gc", 10), ("bc", 11), ("h", 12)]

theorem D_hls {G : Gd} {lvl : Nat} (c : Ctx G) : DenS G lvl (topScope 3) T_hls T_hls [] (topBody 3) F_hls :=
  (DenS.cons (T' := T_hls) (DenX.assign (DenP.callB P_max c.max (DenAll.cons (DenP.name 0 (by first | kernel_rfl | decide +kernel) (by first | kernel_rfl | decide +kernel) (by first | kernel_rfl | decide +kernel)) (DenAll.cons (DenP.name 1 (by first | kernel_rfl | decide +kernel) (by first | kernel_rfl | decide +kernel) (by first | kernel_rfl | decide +kernel)) (DenAll.cons (DenP.name 2 (by first | kernel_rfl | decide +kernel) (by first | kernel_rfl | decide +kernel) (by first | kernel_rfl | decide +kernel)) DenAll.nil rfl) rfl) rfl) (by first | kernel_rfl | decide +kernel) (by first | kernel_rfl | decide +kernel) (by first | kernel_rfl | decide +kernel)) (DenT.name (i := 3) (by first | kernel_rfl | decide +kernel) (by first | kernel_rfl | decide +kernel) (by first | kernel_rfl | decide +kernel)) (by first | kernel_rfl | decide +kernel) (fun _ _ => rfl) (fun _ _ => rfl) (fun _ _ => rfl))
  (DenS.cons (T' := T_hls) (DenX.assign (DenP.callB P_min c.min (DenAll.cons (DenP.name 0 (by first | kernel_rfl | decide +kernel) (by first | kernel_rfl | decide +kernel) (by first | kernel_rfl | decide +kernel)) (DenAll.cons (DenP.name 1 (by first | kernel_rfl | decide +kernel) (by first | kernel_rfl | decide +kernel) (by first | kernel_rfl | decide +kernel)) (DenAll.cons (DenP.name 2 (by first | kernel_rfl | decide +kernel) (by first | kernel_rfl | decide +kernel) (by first | kernel_rfl | decide +kernel)) DenAll.nil rfl) rfl) rfl) (by first | kernel_rfl | decide +kernel) (by first | kernel_rfl | decide +kernel) (by first | kernel_rfl | decide +kernel)) (DenT.name (i := 4) (by first | kernel_rfl | decide +kernel) (by first | kernel_rfl | decide +kernel) (by first | kernel_rfl | decide +kernel)) (by first | kernel_rfl | decide +kernel) (fun _ _ => rfl) (fun _ _ => rfl) (fun _ _ => rfl))
  (DenS.cons (T' := T_hls) (DenX.assign (DenP.bin P_add (DenP.name 3 (by first | kernel_rfl | decide +kernel) (by first | kernel_rfl | decide +kernel) (by first | kernel_rfl | decide +kernel)) (DenP.name 4 (by first | kernel_rfl | decide +kernel) (by first | kernel_rfl | decide +kernel) (by first | kernel_rfl | decide +kernel))) (DenT.name (i := 5) (by first | kernel_rfl | decide +kernel) (by first | kernel_rfl | decide +kernel) (by first | kernel_rfl | decide +kernel)) (by first | kernel_rfl | decide +kernel) (fun _ _ => rfl) (fun _ _ => rfl) (fun _ _ => rfl))
  (DenS.cons (T' := T_hls) (DenX.assign (DenP.bin P_sub (DenP.name 3 (by first | kernel_rfl | decide +kernel) (by first | kernel_rfl | decide +kernel) (by first | kernel_rfl | decide +kernel)) (DenP.name 4 (by first | kernel_rfl | decide +kernel) (by first | kernel_rfl | decide +kernel) (by first | kernel_rfl | decide +kernel))) (DenT.name (i := 6) (by first | kernel_rfl | decide +kernel) (by first | kernel_rfl | decide +kernel) (by first | kernel_rfl | decide +kernel)) (by first | kernel_rfl | decide +kernel) (fun _ _ => rfl) (fun _ _ => rfl) (fun _ _ => rfl))
  (DenS.cons (T' := T_hls) (DenX.assign (DenP.bin P_div (DenP.name 5 (by first | kernel_rfl | decide +kernel) (by first | kernel_rfl | decide +kernel) (by first | kernel_rfl | decide +kernel)) DenP.flt) (DenT.name (i := 7) (by first | kernel_rfl | decide +kernel) (by first | kernel_rfl | decide +kernel) (by first | kernel_rfl | decide +kernel)) (by first | kernel_rfl | decide +kernel) (fun _ _ => rfl) (fun _ _ => rfl) (fun _ _ => rfl))
  (DenS.cons (T' := T_hls) (DenX.ite (DenB.cmp P_eq (DenP.name 4 (by first | kernel_rfl | decide +kernel) (by first | kernel_rfl | decide +kernel) (by first | kernel_rfl | decide +kernel)) (DenP.name 3 (by first | kernel_rfl | decide +kernel) (by first | kernel_rfl | decide +kernel) (by first | kernel_rfl | decide +kernel)) rfl) (DenS.cons (T' := T_hls) (DenS.ret (DenP.tuple (DenAll.cons DenP.flt (DenAll.cons (DenP.name 7 (by first | kernel_rfl | decide +kernel) (by first | kernel_rfl | decide +kernel) (by first | kernel_rfl | decide +kernel)) (DenAll.cons DenP.flt DenAll.nil rfl) rfl) rfl) (by first | kernel_rfl | decide +kernel)))
  DenS.nil) DenS.nil)
  (DenS.cons (T' := T_hls) (DenX.ite (DenB.cmp P_le (DenP.name 7 (by first | kernel_rfl | decide +kernel) (by first | kernel_rfl | decide +kernel) (by first | kernel_rfl | decide +kernel)) DenP.flt rfl) (DenS.cons (T' := T_hls) (DenX.assign (DenP.bin P_div (DenP.name 6 (by first | kernel_rfl | decide +kernel) (by first | kernel_rfl | decide +kernel) (by first | kernel_rfl | decide +kernel)) (DenP.name 5 (by first | kernel_rfl | decide +kernel) (by first | kernel_rfl | decide +kernel) (by first | kernel_rfl | decide +kernel))) (DenT.name (i := 8) (by first | kernel_rfl | decide +kernel) (by first | kernel_rfl | decide +kernel) (by first | kernel_rfl | decide +kernel)) (by first | kernel_rfl | decide +kernel) (fun _ _ => rfl) (fun _ _ => rfl) (fun _ _ => rfl))
  DenS.nil) (DenS.cons (T' := T_hls) (DenX.assign (DenP.bin P_div (DenP.name 6 (by first | kernel_rfl | decide +kernel) (by first | kernel_rfl | decide +kernel) (by first | kernel_rfl | decide +kernel)) (DenP.bin P_sub (DenP.bin P_sub DenP.flt (DenP.name 3 (by first | kernel_rfl | decide +kernel) (by first | kernel_rfl | decide +kernel) (by first | kernel_rfl | decide +kernel))) (DenP.name 4 (by first | kernel_rfl | decide +kernel) (by first | kernel_rfl | decide +kernel) (by first | kernel_rfl | decide +kernel)))) (DenT.name (i := 8) (by first | kernel_rfl | decide +kernel) (by first | kernel_rfl | decide +kernel) (by first | kernel_rfl | decide +kernel)) (by first | kernel_rfl | decide +kernel) (fun _ _ => rfl) (fun _ _ => rfl) (fun _ _ => rfl))
  DenS.nil))
  (DenS.cons (T' := T_hls) (DenX.assign (DenP.bin P_div (DenP.bin P_sub (DenP.name 3 (by first | kernel_rfl | decide +kernel) (by first | kernel_rfl | decide +kernel) (by first | kernel_rfl | decide +kernel)) (DenP.name 0 (by first | kernel_rfl | decide +kernel) (by first | kernel_rfl | decide +kernel) (by first | kernel_rfl | decide +kernel))) (DenP.name 6 (by first | kernel_rfl | decide +kernel) (by first | kernel_rfl | decide +kernel) (by first | kernel_rfl | decide +kernel))) (DenT.name (i := 9) (by first | kernel_rfl | decide +kernel) (by first | kernel_rfl | decide +kernel) (by first | kernel_rfl | decide +kernel)) (by first | kernel_rfl | decide +kernel) (fun _ _ => rfl) (fun _ _ => rfl) (fun _ _ => rfl))
  (DenS.cons (T' := T_hls) (DenX.assign (DenP.bin P_div (DenP.bin P_sub (DenP.name 3 (by first | kernel_rfl | decide +kernel) (by first | kernel_rfl | decide +kernel) (by first | kernel_rfl | decide +kernel)) (DenP.name 1 (by first | kernel_rfl | decide +kernel) (by first | kernel_rfl | decide +kernel) (by first | kernel_rfl | decide +kernel))) (DenP.name 6 (by first | kernel_rfl | decide +kernel) (by first | kernel_rfl | decide +kernel) (by first | kernel_rfl | decide +kernel))) (DenT.name (i := 10) (by first | kernel_rfl | decide +kernel) (by first | kernel_rfl | decide +kernel) (by first | kernel_rfl | decide +kernel)) (by first | kernel_rfl | decide +kernel) (fun _ _ => rfl) (fun _ _ => rfl) (fun _ _ => rfl))
  (DenS.cons (T' := T_hls) (DenX.assign (DenP.bin P_div (DenP.bin P_sub (DenP.name 3 (by first | kernel_rfl | decide +kernel) (by first | kernel_rfl | decide +kernel) (by first | kernel_rfl | decide +kernel)) (DenP.name 2 (by first | kernel_rfl | decide +kernel) (by first | kernel_rfl | decide +kernel) (by first | kernel_rfl | decide +kernel))) (DenP.name 6 (by first | kernel_rfl | decide +kernel) (by first | kernel_rfl | decide +kernel) (by first | kernel_rfl | decide +kernel))) (DenT.name (i := 11) (by first | kernel_rfl | decide +kernel) (by first | kernel_rfl | decide +kernel) (by first | kernel_rfl | decide +kernel)) (by first | kernel_rfl | decide +kernel) (fun _ _ => rfl) (fun _ _ => rfl) (fun _ _ => rfl))
  (DenS.cons (T' := T_hls) (DenX.ite (DenB.cmp P_eq (DenP.name 0 (by first | kernel_rfl | decide +kernel) (by first | kernel_rfl | decide +kernel) (by first | kernel_rfl | decide +kernel)) (DenP.name 3 (by first | kernel_rfl | decide +kernel) (by first | kernel_rfl | decide +kernel) (by first | kernel_rfl | decide +kernel)) rfl) (DenS.cons (T' := T_hls) (DenX.assign (DenP.bin P_sub (DenP.name 11 (by first | kernel_rfl | decide +kernel) (by first | kernel_rfl | decide +kernel) (by first | kernel_rfl | decide +kernel)) (DenP.name 10 (by first | kernel_rfl | decide +kernel) (by first | kernel_rfl | decide +kernel) (by first | kernel_rfl | decide +kernel))) (DenT.name (i := 12) (by first | kernel_rfl | decide +kernel) (by first | kernel_rfl | decide +kernel) (by first | kernel_rfl | decide +kernel)) (by first | kernel_rfl | decide +kernel) (fun _ _ => rfl) (fun _ _ => rfl) (fun _ _ => rfl))
  DenS.nil) (DenS.cons (T' := T_hls) (DenX.ite (DenB.cmp P_eq (DenP.name 1 (by first | kernel_rfl | decide +kernel) (by first | kernel_rfl | decide +kernel) (by first | kernel_rfl | decide +kernel)) (DenP.name 3 (by first | kernel_rfl | decide +kernel) (by first | kernel_rfl | decide +kernel) (by first | kernel_rfl | decide +kernel)) rfl) (DenS.cons (T' := T_hls) (DenX.assign (DenP.bin P_sub (DenP.bin P_add DenP.flt (DenP.name 9 (by first | kernel_rfl | decide +kernel) (by first | kernel_rfl | decide +kernel) (by first | kernel_rfl | decide +kernel))) (DenP.name 11 (by first | kernel_rfl | decide +kernel) (by first | kernel_rfl | decide +kernel) (by first | kernel_rfl | decide +kernel))) (DenT.name (i := 12) (by first | kernel_rfl | decide +kernel) (by first | kernel_rfl | decide +kernel) (by first | kernel_rfl | decide +kernel)) (by first | kernel_rfl | decide +kernel) (fun _ _ => rfl) (fun _ _ => rfl) (fun _ _ => rfl))
  DenS.nil) (DenS.cons (T' := T_hls) (DenX.assign (DenP.bin P_sub (DenP.bin P_add DenP.flt (DenP.name 10 (by first | kernel_rfl | decide +kernel) (by first | kernel_rfl | decide +kernel) (by first | kernel_rfl | decide +kernel))) (DenP.name 9 (by first | kernel_rfl | decide +kernel) (by first | kernel_rfl | decide +kernel) (by first | kernel_rfl | decide +kernel))) (DenT.name (i := 12) (by first | kernel_rfl | decide +kernel) (by first | kernel_rfl | decide +kernel) (by first | kernel_rfl | decide +kernel)) (by first | kernel_rfl | decide +kernel) (fun _ _ => rfl) (fun _ _ => rfl) (fun _ _ => rfl))
  DenS.nil))
  DenS.nil))
  (DenS.cons (T' := T_hls) (DenX.assign (DenP.bin P_mod (DenP.bin P_div (DenP.name 12 (by first | kernel_rfl | decide +kernel) (by first | kernel_rfl | decide +kernel) (by first | kernel_rfl | decide +kernel)) DenP.flt) DenP.flt) (DenT.name (i := 12) (by first | kernel_rfl | decide +kernel) (by first | kernel_rfl | decide +kernel) (by first | kernel_rfl | decide +kernel)) (by first | kernel_rfl | decide +kernel) (fun _ _ => rfl) (fun _ _ => rfl) (fun _ _ => rfl))
  (DenS.cons (T' := T_hls) (DenS.ret (DenP.tuple (DenAll.cons (DenP.name 12 (by first | kernel_rfl | decide +kernel) (by first | kernel_rfl | decide +kernel) (by first | kernel_rfl | decide +kernel)) (DenAll.cons (DenP.name 7 (by first | kernel_rfl | decide +kernel) (by first | kernel_rfl | decide +kernel) (by first | kernel_rfl | decide +kernel)) (DenAll.cons (DenP.name 8 (by first | kernel_rfl | decide +kernel) (by first | kernel_rfl | decide +kernel) (by first | kernel_rfl | decide +kernel)) DenAll.nil rfl) rfl) rfl) (by first | kernel_rfl | decide +kernel)))
  DenS.nil)))))))))))))
end Mine
end

section
namespace Mine
open PySem PySem.Calls PyProof.Rows
open PySem.W
set_option maxRecDepth 100000
set_option maxHeartbeats 4000000
noncomputable def F_dec : RX :=
  (andThen (xAsg (fM "str" splitV (fV 0) (aC (fS "'") (aC (fI 2) a0))) (b1 1))
  (andThen (xIte (bC leV (fC lenV (aC (fV 1) a0)) (fI 2)) (andThen (xRet (fTup (aC fN (aC fN (aC (fV 0) a0)))))
  xNil) xNil)
  (andThen (xRet (fV 1))
  xNil)))

noncomputable def ps_dec : List (Str × Nat) := [("s", 0)]

noncomputable def W_dec : List V → Option V := runF ps_dec F_dec

noncomputable def T_dec : List (Str × Nat) := [("s", 0), ("parts", 1)]

theorem D_dec {G : Gd} {lvl : Nat} (c : Ctx G) {tk : Tok} (g_tick : GlobAt G.h₀ "TICK" (.str (Str.ofString "'") tk)) : DenS G lvl (topScope 9) T_dec T_dec [] (topBody 9) F_dec :=
  (DenS.cons (T' := T_dec) (DenX.assign (DenP.meth "str" "str.split" P_split F.plainAttrs_str F.slot_str_split (by rfl) (DenP.name 0 (by first | kernel_rfl | decide +kernel) (by first | kernel_rfl | decide +kernel) (by first | kernel_rfl | decide +kernel)) (DenAll.cons (DenP.globStr g_tick (by first | kernel_rfl | decide +kernel) (by first | kernel_rfl | decide +kernel)) (DenAll.cons DenP.int DenAll.nil rfl) rfl) (by first | kernel_rfl | decide +kernel) (fun _ _ => rfl) (fun _ => rfl) (by first | kernel_rfl | decide +kernel)) (DenT.name (i := 1) (by first | kernel_rfl | decide +kernel) (by first | kernel_rfl | decide +kernel) (by first | kernel_rfl | decide +kernel)) (by first | kernel_rfl | decide +kernel) (fun _ _ => rfl) (fun _ _ => rfl) (fun _ _ => rfl))
  (DenS.cons (T' := T_dec) (DenX.ite (DenB.cmp P_le (DenP.callB P_len c.len (DenAll.cons (DenP.name 1 (by first | kernel_rfl | decide +kernel) (by first | kernel_rfl | decide +kernel) (by first | kernel_rfl | decide +kernel)) DenAll.nil rfl) (by first | kernel_rfl | decide +kernel) (by first | kernel_rfl | decide +kernel) (by first | kernel_rfl | decide +kernel)) DenP.int rfl) (DenS.cons (T' := T_dec) (DenS.ret (DenP.tuple (DenAll.cons DenP.none (DenAll.cons DenP.none (DenAll.cons (DenP.name 0 (by first | kernel_rfl | decide +kernel) (by first | kernel_rfl | decide +kernel) (by first | kernel_rfl | decide +kernel)) DenAll.nil rfl) rfl) rfl) (by first | kernel_rfl | decide +kernel)))
  DenS.nil) DenS.nil)
  (DenS.cons (T' := T_dec) (DenS.ret (DenP.name 1 (by first | kernel_rfl | decide +kernel) (by first | kernel_rfl | decide +kernel) (by first | kernel_rfl | decide +kernel)))
  DenS.nil)))
end Mine
end

section
namespace Mine
open PySem PySem.Calls PyProof.Rows
open PySem.W
set_option maxRecDepth 100000
set_option maxHeartbeats 4000000
noncomputable def F_cells : RX :=
  (andThen (xOwn (aC (fI 34291671) (aC (fI 2916) (aC (fI 18030) (aC (fI 949437) (aC (fI 7558456) (aC (fI 876) (aC (fI 83555322) (aC (fI 32301) (aC (fI 6309279) (aC (fI 637) a0)))))))))) 1)
  (andThen (xEnum (fSl (fV 0) pN (pS (fI 60))) (bT [("place", 2), ("number", 3)]) (andThen (xAug 1 (f2 modV (fV 2) (fI 10)) (f2 modV (fV 3) (f2 powV (fI 10) (fI 12))))
  xNil))
  (xFrz 1 4 (andThen (xRet (fV 4))
  xNil))))

noncomputable def ps_cells : List (Str × Nat) := [("script", 0)]

noncomputable def W_cells : List V → Option V := runF ps_cells F_cells

noncomputable def T_cells : List (Str × Nat) := [("script", 0), ("cells", 1), ("place", 2), ("number", 3)]

theorem D_cells {G : Gd} {lvl : Nat} (c : Ctx G) : DenS G lvl (topScope 11) T_cells T_cells [1] (topBody 11) F_cells :=
  (@DenS.cons _ _ _ _ T_cells _ _ _ _ _ _ (@DenX.assignOwn _ _ _ _ _ _ _ 1 _ _ _ _ _ (DenAll.cons DenP.int (DenAll.cons DenP.int (DenAll.cons DenP.int (DenAll.cons DenP.int (DenAll.cons DenP.int (DenAll.cons DenP.int (DenAll.cons DenP.int (DenAll.cons DenP.int (DenAll.cons DenP.int (DenAll.cons DenP.int DenAll.nil rfl) rfl) rfl) rfl) rfl) rfl) rfl) rfl) rfl) rfl) (by first | kernel_rfl | decide +kernel) (by first | kernel_rfl | decide +kernel) (by first | kernel_rfl | decide +kernel) (by first | kernel_rfl | decide +kernel))
  (DenS.cons (T' := T_cells) (DenX.forEnum (DenP.sliceL (DenP.name 0 (by first | kernel_rfl | decide +kernel) (by first | kernel_rfl | decide +kernel) (by first | kernel_rfl | decide +kernel)) DenPart.none (DenPart.some DenP.int) (fun _ _ => rfl)) c.enumerate (by first | kernel_rfl | decide +kernel) (by first | kernel_rfl | decide +kernel) (DenT.tuple (is := [2, 3]) (by first | kernel_rfl | decide +kernel) (by first | kernel_rfl | decide +kernel)) (by first | kernel_rfl | decide +kernel) (DenS.cons (T' := T_cells) (DenX.augItem (DenP.bin P_mod (DenP.name 2 (by first | kernel_rfl | decide +kernel) (by first | kernel_rfl | decide +kernel) (by first | kernel_rfl | decide +kernel)) DenP.int) (DenP.bin P_mod (DenP.name 3 (by first | kernel_rfl | decide +kernel) (by first | kernel_rfl | decide +kernel) (by first | kernel_rfl | decide +kernel)) (DenP.bin P_pow DenP.int DenP.int)) (by first | kernel_rfl | decide +kernel) (by first | kernel_rfl | decide +kernel) (by first | kernel_rfl | decide +kernel) (by first | kernel_rfl | decide +kernel) (fun _ _ _ => rfl))
  DenS.nil))
  (DenS.freeze (T1 := [("script", 0), ("cells", 4), ("place", 2), ("number", 3)]) (x := "cells") (i := 1) (j := 4) (DenS.cons (T' := T_cells) (DenS.ret (DenP.name 4 (by first | kernel_rfl | decide +kernel) (by first | kernel_rfl | decide +kernel) (by first | kernel_rfl | decide +kernel)))
  DenS.nil) (by first | kernel_rfl | decide +kernel) (by first | kernel_rfl | decide +kernel) (by first | kernel_rfl | decide +kernel))))
end Mine
end

section
namespace Mine
open PySem PySem.Calls PyProof.Rows
open PySem.W
set_option maxRecDepth 100000
set_option maxHeartbeats 4000000
noncomputable def F_chosen : RX :=
  (andThen (xFor (lRange (fI 10)) (b1 3) (andThen (xOwn a0 4)
  (andThen (xFor (lOf (fV 1)) (b1 5) (andThen (xIte (bAnd (bIn inI (fV 5) (lOf (fV 0))) (bIn notIn (f2 fdivV (fV 5) (fI 3)) (lOf (fComp (lV 4) (b1 7) tT (f2 fdivV (fV 7) (fI 3)))))) (andThen (xApp 4 (fV 5))
  xNil) xNil)
  xNil))
  (andThen (xOwn a0 6)
  (andThen (xFor (lOf (fV 2)) (b1 5) (andThen (xIte (bAnd (bIn inI (fV 5) (lV 4)) (bIn notIn (f2 modV (fV 5) (fI 3)) (lOf (fComp (lV 6) (b1 8) tT (f2 modV (fV 8) (fI 3)))))) (andThen (xApp 6 (fV 5))
  xNil) xNil)
  xNil))
  (andThen (xIte (bC eqV (fLen (lV 6)) (fLen (lV 4))) (xFrz 4 9 (andThen (xRet (fV 9))
  xNil)) xNil)
  (andThen (xAsc (fComp (lOf (fV 0)) (b1 10) (bOr (bIn notIn (fV 10) (lV 4)) (bIn inI (fV 10) (lV 6))) (fV 10)) 0)
  xNil)))))))
  (andThen (xRet (fList a0))
  xNil))

noncomputable def ps_chosen : List (Str × Nat) := [("free", 0), ("by_lines", 1), ("by_columns", 2)]

noncomputable def W_chosen : List V → Option V := runF ps_chosen F_chosen

noncomputable def T_chosen : List (Str × Nat) := [("free", 0), ("by_lines", 1), ("by_columns", 2), ("lap", 3), ("asking", 4), ("one", 5), ("kept", 6)]

theorem D_chosen {G : Gd} {lvl : Nat} (c : Ctx G) : DenS G lvl (topScope 16) T_chosen T_chosen [4, 6] (topBody 16) F_chosen :=
  (DenS.cons (T' := T_chosen) (DenX.for_ (fun _ _ => rfl) (DenI.range true DenP.int c.range (by first | kernel_rfl | decide +kernel) (by first | kernel_rfl | decide +kernel)) (DenT.name (i := 3) (by first | kernel_rfl | decide +kernel) (by first | kernel_rfl | decide +kernel) (by first | kernel_rfl | decide +kernel)) (by first | kernel_rfl | decide +kernel) (DenS.cons (T' := T_chosen) (DenX.assignOwn (i := 4) DenAll.nil (by first | kernel_rfl | decide +kernel) (by first | kernel_rfl | decide +kernel) (by first | kernel_rfl | decide +kernel) (by first | kernel_rfl | decide +kernel))
  (DenS.cons (T' := T_chosen) (DenX.for_ (fun _ _ => rfl) (DenI.list true (DenP.name 1 (by first | kernel_rfl | decide +kernel) (by first | kernel_rfl | decide +kernel) (by first | kernel_rfl | decide +kernel))) (DenT.name (i := 5) (by first | kernel_rfl | decide +kernel) (by first | kernel_rfl | decide +kernel) (by first | kernel_rfl | decide +kernel)) (by first | kernel_rfl | decide +kernel) (DenS.cons (T' := T_chosen) (DenX.ite (DenB.and2 (DenB.inL P_in (DenP.name 5 (by first | kernel_rfl | decide +kernel) (by first | kernel_rfl | decide +kernel) (by first | kernel_rfl | decide +kernel)) (DenL.of (DenP.name 0 (by first | kernel_rfl | decide +kernel) (by first | kernel_rfl | decide +kernel) (by first | kernel_rfl | decide +kernel))) rfl) (DenB.inL P_notin (DenP.bin P_fdiv (DenP.name 5 (by first | kernel_rfl | decide +kernel) (by first | kernel_rfl | decide +kernel) (by first | kernel_rfl | decide +kernel)) DenP.int) (DenL.of (DenP.comp [] [("other", 7)] (fun _ _ => rfl) (by first | kernel_rfl | decide +kernel) (by first | kernel_rfl | decide +kernel) (by first | kernel_rfl | decide +kernel) (DenI.listL (DenL.name 4 (by first | kernel_rfl | decide +kernel) (by first | kernel_rfl | decide +kernel))) (DenT.name (i := 7) (by first | kernel_rfl | decide +kernel) (by first | kernel_rfl | decide +kernel) (by first | kernel_rfl | decide +kernel)) DenC.nil (DenP.bin P_fdiv (DenP.name 7 (by first | kernel_rfl | decide +kernel) (by first | kernel_rfl | decide +kernel) (by first | kernel_rfl | decide +kernel)) DenP.int))) rfl)) (DenS.cons (T' := T_chosen) (DenX.append (DenP.name 5 (by first | kernel_rfl | decide +kernel) (by first | kernel_rfl | decide +kernel) (by first | kernel_rfl | decide +kernel)) (by first | kernel_rfl | decide +kernel) (by first | kernel_rfl | decide +kernel) (by first | kernel_rfl | decide +kernel) (by first | kernel_rfl | decide +kernel) (by first | kernel_rfl | decide +kernel) (fun _ _ => rfl) (fun _ => rfl) (by first | kernel_rfl | decide +kernel) (by intro env h; cases env; cases h; rfl) (by intro env h; cases env; cases h; rfl))
  DenS.nil) DenS.nil)
  DenS.nil))
  (DenS.cons (T' := T_chosen) (DenX.assignOwn (i := 6) DenAll.nil (by first | kernel_rfl | decide +kernel) (by first | kernel_rfl | decide +kernel) (by first | kernel_rfl | decide +kernel) (by first | kernel_rfl | decide +kernel))
  (DenS.cons (T' := T_chosen) (DenX.for_ (fun _ _ => rfl) (DenI.list true (DenP.name 2 (by first | kernel_rfl | decide +kernel) (by first | kernel_rfl | decide +kernel) (by first | kernel_rfl | decide +kernel))) (DenT.name (i := 5) (by first | kernel_rfl | decide +kernel) (by first | kernel_rfl | decide +kernel) (by first | kernel_rfl | decide +kernel)) (by first | kernel_rfl | decide +kernel) (DenS.cons (T' := T_chosen) (DenX.ite (DenB.and2 (DenB.inL P_in (DenP.name 5 (by first | kernel_rfl | decide +kernel) (by first | kernel_rfl | decide +kernel) (by first | kernel_rfl | decide +kernel)) (DenL.name 4 (by first | kernel_rfl | decide +kernel) (by first | kernel_rfl | decide +kernel)) rfl) (DenB.inL P_notin (DenP.bin P_mod (DenP.name 5 (by first | kernel_rfl | decide +kernel) (by first | kernel_rfl | decide +kernel) (by first | kernel_rfl | decide +kernel)) DenP.int) (DenL.of (DenP.comp [] [("other", 8)] (fun _ _ => rfl) (by first | kernel_rfl | decide +kernel) (by first | kernel_rfl | decide +kernel) (by first | kernel_rfl | decide +kernel) (DenI.listL (DenL.name 6 (by first | kernel_rfl | decide +kernel) (by first | kernel_rfl | decide +kernel))) (DenT.name (i := 8) (by first | kernel_rfl | decide +kernel) (by first | kernel_rfl | decide +kernel) (by first | kernel_rfl | decide +kernel)) DenC.nil (DenP.bin P_mod (DenP.name 8 (by first | kernel_rfl | decide +kernel) (by first | kernel_rfl | decide +kernel) (by first | kernel_rfl | decide +kernel)) DenP.int))) rfl)) (DenS.cons (T' := T_chosen) (DenX.append (DenP.name 5 (by first | kernel_rfl | decide +kernel) (by first | kernel_rfl | decide +kernel) (by first | kernel_rfl | decide +kernel)) (by first | kernel_rfl | decide +kernel) (by first | kernel_rfl | decide +kernel) (by first | kernel_rfl | decide +kernel) (by first | kernel_rfl | decide +kernel) (by first | kernel_rfl | decide +kernel) (fun _ _ => rfl) (fun _ => rfl) (by first | kernel_rfl | decide +kernel) (by intro env h; cases env; cases h; rfl) (by intro env h; cases env; cases h; rfl))
  DenS.nil) DenS.nil)
  DenS.nil))
  (DenS.cons (T' := T_chosen) (DenX.ite (DenB.cmp P_eq (DenP.lenL (DenL.name 6 (by first | kernel_rfl | decide +kernel) (by first | kernel_rfl | decide +kernel)) c.len (by first | kernel_rfl | decide +kernel) (by first | kernel_rfl | decide +kernel)) (DenP.lenL (DenL.name 4 (by first | kernel_rfl | decide +kernel) (by first | kernel_rfl | decide +kernel)) c.len (by first | kernel_rfl | decide +kernel) (by first | kernel_rfl | decide +kernel)) rfl) (DenS.freeze (T1 := [("free", 0), ("by_lines", 1), ("by_columns", 2), ("lap", 3), ("asking", 9), ("one", 5), ("kept", 6)]) (x := "asking") (i := 4) (j := 9) (DenS.cons (T' := T_chosen) (DenS.ret (DenP.name 9 (by first | kernel_rfl | decide +kernel) (by first | kernel_rfl | decide +kernel) (by first | kernel_rfl | decide +kernel)))
  DenS.nil) (by first | kernel_rfl | decide +kernel) (by first | kernel_rfl | decide +kernel) (by first | kernel_rfl | decide +kernel)) DenS.nil)
  (DenS.cons (T' := T_chosen) (DenX.assignComp (i := 0) [("asking", 4), ("kept", 6)] [("one", 10), ("asking", 4), ("kept", 6)] (fun _ _ => rfl) (by first | kernel_rfl | decide +kernel) (by first | kernel_rfl | decide +kernel) (by first | kernel_rfl | decide +kernel) (DenI.list false (DenP.name 0 (by first | kernel_rfl | decide +kernel) (by first | kernel_rfl | decide +kernel) (by first | kernel_rfl | decide +kernel))) (DenT.name (i := 10) (by first | kernel_rfl | decide +kernel) (by first | kernel_rfl | decide +kernel) (by first | kernel_rfl | decide +kernel)) (DenC.one (DenB.or2 (DenB.inL P_notin (DenP.name 10 (by first | kernel_rfl | decide +kernel) (by first | kernel_rfl | decide +kernel) (by first | kernel_rfl | decide +kernel)) (DenL.name 4 (by first | kernel_rfl | decide +kernel) (by first | kernel_rfl | decide +kernel)) rfl) (DenB.inL P_in (DenP.name 10 (by first | kernel_rfl | decide +kernel) (by first | kernel_rfl | decide +kernel) (by first | kernel_rfl | decide +kernel)) (DenL.name 6 (by first | kernel_rfl | decide +kernel) (by first | kernel_rfl | decide +kernel)) rfl))) (DenP.name 10 (by first | kernel_rfl | decide +kernel) (by first | kernel_rfl | decide +kernel) (by first | kernel_rfl | decide +kernel)) (by first | kernel_rfl | decide +kernel) (by first | kernel_rfl | decide +kernel) (by first | kernel_rfl | decide +kernel) (by first | kernel_rfl | decide +kernel) (by intro env h; cases env; cases h; rfl))
  DenS.nil)))))))
  (DenS.cons (T' := T_chosen) (DenS.ret (DenP.list DenAll.nil (by first | kernel_rfl | decide +kernel)))
  DenS.nil))
end Mine
end

section
namespace Mine
open PySem PySem.Calls PyProof.Rows
open PySem.W
set_option maxRecDepth 100000
set_option maxHeartbeats 4000000
noncomputable def F_place : RX :=
  (andThen (xAsg (fC divmodV (aC (fV 0) (aC (fI 3) a0))) (bT [("number", 0), ("more", 2)]))
  (andThen (xOwn a0 3)
  (andThen (xOwn a0 4)
  (andThen (xFor (lRange (fC minV (aC (fC lenV (aC (fV 1) a0)) (aC (f2 addV (fI 3) (fV 2)) a0)))) (b1 5) (andThen (xAsg (fComp (lOf (fV 1)) (b1 15) (bIn notIn (fV 15) (lV 3)) (fV 15)) (b1 6))
  (andThen (xAsg (fC divmodV (aC (fV 0) (aC (fC lenV (aC (fV 6) a0)) a0))) (bT [("number", 0), ("pick", 7)]))
  (andThen (xAsg (fC divmodV (aC (fV 0) (aC (fI 9) a0))) (bT [("number", 0), ("shade", 8)]))
  (andThen (xApp 3 (f2 itemV (fV 6) (fV 7)))
  (andThen (xAsc (fComp (lTup (fTup (aC (fI 0) (aC (fI 4) (aC (fI 8) a0))))) (b1 16) tT (f2 addV (f2 fdivV (fV 8) (fI 3)) (f2 mulV (f2 addV (fI 1) (f2 modV (fV 8) (fI 3))) (fC maxV (aC (fI 0) (aC (fC minV (aC (fI 2) (aC (f2 subV (fI 4) (fC absV (aC (f2 subV (f2 modV (f2 addV (f2 subV (fV 16) (f2 itemV (fV 6) (fV 7))) (fI 6)) (fI 12)) (fI 6)) a0))) a0))) a0)))))) 9)
  (andThen (xApp 4 (fM "str" joinV (fS "") (aC (fComp (lOf (fV 9)) (b1 17) tT (fC strV (aC (fV 17) a0))) a0)))
  xNil)))))))
  (xFrz 3 18 (xFrz 4 19 (andThen (xAsg (fC divmodV (aC (fV 0) (aC (fI 16) a0))) (bT [("number", 0), ("decoy", 10)]))
  (andThen (xAsg (fC divmodV (aC (fV 0) (aC (fI 8) a0))) (bT [("number", 0), ("gap", 11)]))
  (andThen (xAsg (f2 addV (f2 addV (fSl (fV 19) pN (pS (f2 fdivV (fV 11) (fI 2)))) (f2 mulV (fList (aC (fS "") a0)) (f2 modV (fV 11) (fI 2)))) (fSl (fV 19) (pS (f2 fdivV (fV 11) (fI 2))) pN)) (b1 19))
  (andThen (xAsg (fM "str" joinV (fS "'") (aC (fV 19) a0)) (b1 12))
  (andThen (xAsg (f2 modV (fV 0) (f2 addV (fC lenV (aC (fV 12) a0)) (fI 1))) (b1 13))
  (andThen (xAsg (fList (aC (fS "") (aC (fS "\"'\"") (aC (fS "\"\"") (aC (fS "\"9'\\\"'\"") a0))))) (b1 14))
  (andThen (xRet (fTup (aC (fV 18) (aC (fV 19) (aC (f2 addV (f2 addV (f2 addV (f2 itemV (fV 14) (f2 fdivV (fV 10) (fI 4))) (fSs (fV 12) pN (pS (fV 13)))) (f2 itemV (fV 14) (f2 modV (fV 10) (fI 4)))) (fSs (fV 12) (pS (fV 13)) pN)) a0)))))
  xNil)))))))))))))

noncomputable def ps_place : List (Str × Nat) := [("number", 0), ("palette", 1)]

noncomputable def W_place : List V → Option V := runF ps_place F_place

noncomputable def T_place : List (Str × Nat) := [("number", 0), ("palette", 1), ("more", 2), ("hues", 3), ("names", 4), ("step", 5), ("left", 6), ("pick", 7), ("shade", 8), ("parts", 9), ("decoy", 10), ("gap", 11), ("text", 12), ("cut", 13), ("pieces", 14)]

theorem D_place {G : Gd} {lvl : Nat} (c : Ctx G) : DenS G lvl (topScope 12) T_place T_place [3, 4] (topBody 12) F_place :=
  (DenS.cons (T' := T_place) (DenX.assign (DenP.callB P_divmod c.divmod (DenAll.cons (DenP.name 0 (by first | kernel_rfl | decide +kernel) (by first | kernel_rfl | decide +kernel) (by first | kernel_rfl | decide +kernel)) (DenAll.cons DenP.int DenAll.nil rfl) rfl) (by first | kernel_rfl | decide +kernel) (by first | kernel_rfl | decide +kernel) (by first | kernel_rfl | decide +kernel)) (DenT.tuple (is := [0, 2]) (by first | kernel_rfl | decide +kernel) (by first | kernel_rfl | decide +kernel)) (by first | kernel_rfl | decide +kernel) (fun _ _ => rfl) (fun _ _ => rfl) (fun _ _ => rfl))
  (DenS.cons (T' := T_place) (DenX.assignOwn (i := 3) DenAll.nil (by first | kernel_rfl | decide +kernel) (by first | kernel_rfl | decide +kernel) (by first | kernel_rfl | decide +kernel) (by first | kernel_rfl | decide +kernel))
  (DenS.cons (T' := T_place) (DenX.assignOwn (i := 4) DenAll.nil (by first | kernel_rfl | decide +kernel) (by first | kernel_rfl | decide +kernel) (by first | kernel_rfl | decide +kernel) (by first | kernel_rfl | decide +kernel))
  (DenS.cons (T' := T_place) (DenX.for_ (fun _ _ => rfl) (DenI.range true (DenP.callB P_min c.min (DenAll.cons (DenP.callB P_len c.len (DenAll.cons (DenP.name 1 (by first | kernel_rfl | decide +kernel) (by first | kernel_rfl | decide +kernel) (by first | kernel_rfl | decide +kernel)) DenAll.nil rfl) (by first | kernel_rfl | decide +kernel) (by first | kernel_rfl | decide +kernel) (by first | kernel_rfl | decide +kernel)) (DenAll.cons (DenP.bin P_add DenP.int (DenP.name 2 (by first | kernel_rfl | decide +kernel) (by first | kernel_rfl | decide +kernel) (by first | kernel_rfl | decide +kernel))) DenAll.nil rfl) rfl) (by first | kernel_rfl | decide +kernel) (by first | kernel_rfl | decide +kernel) (by first | kernel_rfl | decide +kernel)) c.range (by first | kernel_rfl | decide +kernel) (by first | kernel_rfl | decide +kernel)) (DenT.name (i := 5) (by first | kernel_rfl | decide +kernel) (by first | kernel_rfl | decide +kernel) (by first | kernel_rfl | decide +kernel)) (by first | kernel_rfl | decide +kernel) (DenS.cons (T' := T_place) (DenX.assign (DenP.comp [("hues", 3)] [("hue", 15), ("hues", 3)] (fun _ _ => rfl) (by first | kernel_rfl | decide +kernel) (by first | kernel_rfl | decide +kernel) (by first | kernel_rfl | decide +kernel) (DenI.list false (DenP.name 1 (by first | kernel_rfl | decide +kernel) (by first | kernel_rfl | decide +kernel) (by first | kernel_rfl | decide +kernel))) (DenT.name (i := 15) (by first | kernel_rfl | decide +kernel) (by first | kernel_rfl | decide +kernel) (by first | kernel_rfl | decide +kernel)) (DenC.one (DenB.inL P_notin (DenP.name 15 (by first | kernel_rfl | decide +kernel) (by first | kernel_rfl | decide +kernel) (by first | kernel_rfl | decide +kernel)) (DenL.name 3 (by first | kernel_rfl | decide +kernel) (by first | kernel_rfl | decide +kernel)) rfl)) (DenP.name 15 (by first | kernel_rfl | decide +kernel) (by first | kernel_rfl | decide +kernel) (by first | kernel_rfl | decide +kernel))) (DenT.name (i := 6) (by first | kernel_rfl | decide +kernel) (by first | kernel_rfl | decide +kernel) (by first | kernel_rfl | decide +kernel)) (by first | kernel_rfl | decide +kernel) (by intro env h; cases env; cases h; rfl) (fun _ _ => rfl) (fun _ _ => rfl))
  (DenS.cons (T' := T_place) (DenX.assign (DenP.callB P_divmod c.divmod (DenAll.cons (DenP.name 0 (by first | kernel_rfl | decide +kernel) (by first | kernel_rfl | decide +kernel) (by first | kernel_rfl | decide +kernel)) (DenAll.cons (DenP.callB P_len c.len (DenAll.cons (DenP.name 6 (by first | kernel_rfl | decide +kernel) (by first | kernel_rfl | decide +kernel) (by first | kernel_rfl | decide +kernel)) DenAll.nil rfl) (by first | kernel_rfl | decide +kernel) (by first | kernel_rfl | decide +kernel) (by first | kernel_rfl | decide +kernel)) DenAll.nil rfl) rfl) (by first | kernel_rfl | decide +kernel) (by first | kernel_rfl | decide +kernel) (by first | kernel_rfl | decide +kernel)) (DenT.tuple (is := [0, 7]) (by first | kernel_rfl | decide +kernel) (by first | kernel_rfl | decide +kernel)) (by first | kernel_rfl | decide +kernel) (fun _ _ => rfl) (fun _ _ => rfl) (fun _ _ => rfl))
  (DenS.cons (T' := T_place) (DenX.assign (DenP.callB P_divmod c.divmod (DenAll.cons (DenP.name 0 (by first | kernel_rfl | decide +kernel) (by first | kernel_rfl | decide +kernel) (by first | kernel_rfl | decide +kernel)) (DenAll.cons DenP.int DenAll.nil rfl) rfl) (by first | kernel_rfl | decide +kernel) (by first | kernel_rfl | decide +kernel) (by first | kernel_rfl | decide +kernel)) (DenT.tuple (is := [0, 8]) (by first | kernel_rfl | decide +kernel) (by first | kernel_rfl | decide +kernel)) (by first | kernel_rfl | decide +kernel) (fun _ _ => rfl) (fun _ _ => rfl) (fun _ _ => rfl))
  (DenS.cons (T' := T_place) (DenX.append (DenP.item (DenP.name 6 (by first | kernel_rfl | decide +kernel) (by first | kernel_rfl | decide +kernel) (by first | kernel_rfl | decide +kernel)) (DenP.name 7 (by first | kernel_rfl | decide +kernel) (by first | kernel_rfl | decide +kernel) (by first | kernel_rfl | decide +kernel)) rfl) (by first | kernel_rfl | decide +kernel) (by first | kernel_rfl | decide +kernel) (by first | kernel_rfl | decide +kernel) (by first | kernel_rfl | decide +kernel) (by first | kernel_rfl | decide +kernel) (fun _ _ => rfl) (fun _ => rfl) (by first | kernel_rfl | decide +kernel) (by intro env h; cases env; cases h; rfl) (by intro env h; cases env; cases h; rfl))
  (DenS.cons (T' := T_place) (DenX.assignComp (i := 9) [("left", 6), ("pick", 7), ("shade", 8)] [("lamp", 16), ("left", 6), ("pick", 7), ("shade", 8)] (fun _ _ => rfl) (by first | kernel_rfl | decide +kernel) (by first | kernel_rfl | decide +kernel) (by first | kernel_rfl | decide +kernel) (DenI.tup false (DenP.tuple (DenAll.cons DenP.int (DenAll.cons DenP.int (DenAll.cons DenP.int DenAll.nil rfl) rfl) rfl) (by first | kernel_rfl | decide +kernel))) (DenT.name (i := 16) (by first | kernel_rfl | decide +kernel) (by first | kernel_rfl | decide +kernel) (by first | kernel_rfl | decide +kernel)) DenC.nil (DenP.bin P_add (DenP.bin P_fdiv (DenP.name 8 (by first | kernel_rfl | decide +kernel) (by first | kernel_rfl | decide +kernel) (by first | kernel_rfl | decide +kernel)) DenP.int) (DenP.bin P_mul (DenP.bin P_add DenP.int (DenP.bin P_mod (DenP.name 8 (by first | kernel_rfl | decide +kernel) (by first | kernel_rfl | decide +kernel) (by first | kernel_rfl | decide +kernel)) DenP.int)) (DenP.callB P_max c.max (DenAll.cons DenP.int (DenAll.cons (DenP.callB P_min c.min (DenAll.cons DenP.int (DenAll.cons (DenP.bin P_sub DenP.int (DenP.callB P_abs c.abs (DenAll.cons (DenP.bin P_sub (DenP.bin P_mod (DenP.bin P_add (DenP.bin P_sub (DenP.name 16 (by first | kernel_rfl | decide +kernel) (by first | kernel_rfl | decide +kernel) (by first | kernel_rfl | decide +kernel)) (DenP.item (DenP.name 6 (by first | kernel_rfl | decide +kernel) (by first | kernel_rfl | decide +kernel) (by first | kernel_rfl | decide +kernel)) (DenP.name 7 (by first | kernel_rfl | decide +kernel) (by first | kernel_rfl | decide +kernel) (by first | kernel_rfl | decide +kernel)) rfl)) DenP.int) DenP.int) DenP.int) DenAll.nil rfl) (by first | kernel_rfl | decide +kernel) (by first | kernel_rfl | decide +kernel) (by first | kernel_rfl | decide +kernel))) DenAll.nil rfl) rfl) (by first | kernel_rfl | decide +kernel) (by first | kernel_rfl | decide +kernel) (by first | kernel_rfl | decide +kernel)) DenAll.nil rfl) rfl) (by first | kernel_rfl | decide +kernel) (by first | kernel_rfl | decide +kernel) (by first | kernel_rfl | decide +kernel)))) (by first | kernel_rfl | decide +kernel) (by first | kernel_rfl | decide +kernel) (by first | kernel_rfl | decide +kernel) (by first | kernel_rfl | decide +kernel) (by intro env h; cases env; cases h; rfl))
  (DenS.cons (T' := T_place) (DenX.append (DenP.meth "str" "str.join" P_join F.plainAttrs_str F.slot_str_join (by rfl) DenP.str (DenAll.cons (DenP.comp [] [("part", 17)] (fun _ _ => rfl) (by first | kernel_rfl | decide +kernel) (by first | kernel_rfl | decide +kernel) (by first | kernel_rfl | decide +kernel) (DenI.list false (DenP.name 9 (by first | kernel_rfl | decide +kernel) (by first | kernel_rfl | decide +kernel) (by first | kernel_rfl | decide +kernel))) (DenT.name (i := 17) (by first | kernel_rfl | decide +kernel) (by first | kernel_rfl | decide +kernel) (by first | kernel_rfl | decide +kernel)) DenC.nil (DenP.callT P_str c.str (DenAll.cons (DenP.name 17 (by first | kernel_rfl | decide +kernel) (by first | kernel_rfl | decide +kernel) (by first | kernel_rfl | decide +kernel)) DenAll.nil rfl) (by first | kernel_rfl | decide +kernel) (by first | kernel_rfl | decide +kernel) (by first | kernel_rfl | decide +kernel))) DenAll.nil rfl) (by first | kernel_rfl | decide +kernel) (fun _ _ => rfl) (fun _ => rfl) (by first | kernel_rfl | decide +kernel)) (by first | kernel_rfl | decide +kernel) (by first | kernel_rfl | decide +kernel) (by first | kernel_rfl | decide +kernel) (by first | kernel_rfl | decide +kernel) (by first | kernel_rfl | decide +kernel) (fun _ _ => rfl) (fun _ => rfl) (by first | kernel_rfl | decide +kernel) (by intro env h; cases env; cases h; rfl) (by intro env h; cases env; cases h; rfl))
  DenS.nil)))))))
  (DenS.freeze (T1 := [("number", 0), ("palette", 1), ("more", 2), ("hues", 18), ("names", 4), ("step", 5), ("left", 6), ("pick", 7), ("shade", 8), ("parts", 9), ("decoy", 10), ("gap", 11), ("text", 12), ("cut", 13), ("pieces", 14)]) (x := "hues") (i := 3) (j := 18) (DenS.freeze (T1 := [("number", 0), ("palette", 1), ("more", 2), ("hues", 18), ("names", 19), ("step", 5), ("left", 6), ("pick", 7), ("shade", 8), ("parts", 9), ("decoy", 10), ("gap", 11), ("text", 12), ("cut", 13), ("pieces", 14)]) (x := "names") (i := 4) (j := 19) (DenS.cons (T' := [("number", 0), ("palette", 1), ("more", 2), ("hues", 18), ("names", 19), ("step", 5), ("left", 6), ("pick", 7), ("shade", 8), ("parts", 9), ("decoy", 10), ("gap", 11), ("text", 12), ("cut", 13), ("pieces", 14)]) (DenX.assign (DenP.callB P_divmod c.divmod (DenAll.cons (DenP.name 0 (by first | kernel_rfl | decide +kernel) (by first | kernel_rfl | decide +kernel) (by first | kernel_rfl | decide +kernel)) (DenAll.cons DenP.int DenAll.nil rfl) rfl) (by first | kernel_rfl | decide +kernel) (by first | kernel_rfl | decide +kernel) (by first | kernel_rfl | decide +kernel)) (DenT.tuple (is := [0, 10]) (by first | kernel_rfl | decide +kernel) (by first | kernel_rfl | decide +kernel)) (by first | kernel_rfl | decide +kernel) (fun _ _ => rfl) (fun _ _ => rfl) (fun _ _ => rfl))
  (DenS.cons (T' := [("number", 0), ("palette", 1), ("more", 2), ("hues", 18), ("names", 19), ("step", 5), ("left", 6), ("pick", 7), ("shade", 8), ("parts", 9), ("decoy", 10), ("gap", 11), ("text", 12), ("cut", 13), ("pieces", 14)]) (DenX.assign (DenP.callB P_divmod c.divmod (DenAll.cons (DenP.name 0 (by first | kernel_rfl | decide +kernel) (by first | kernel_rfl | decide +kernel) (by first | kernel_rfl | decide +kernel)) (DenAll.cons DenP.int DenAll.nil rfl) rfl) (by first | kernel_rfl | decide +kernel) (by first | kernel_rfl | decide +kernel) (by first | kernel_rfl | decide +kernel)) (DenT.tuple (is := [0, 11]) (by first | kernel_rfl | decide +kernel) (by first | kernel_rfl | decide +kernel)) (by first | kernel_rfl | decide +kernel) (fun _ _ => rfl) (fun _ _ => rfl) (fun _ _ => rfl))
  (DenS.cons (T' := [("number", 0), ("palette", 1), ("more", 2), ("hues", 18), ("names", 19), ("step", 5), ("left", 6), ("pick", 7), ("shade", 8), ("parts", 9), ("decoy", 10), ("gap", 11), ("text", 12), ("cut", 13), ("pieces", 14)]) (DenX.assign (DenP.bin P_add (DenP.bin P_add (DenP.sliceL (DenP.name 19 (by first | kernel_rfl | decide +kernel) (by first | kernel_rfl | decide +kernel) (by first | kernel_rfl | decide +kernel)) DenPart.none (DenPart.some (DenP.bin P_fdiv (DenP.name 11 (by first | kernel_rfl | decide +kernel) (by first | kernel_rfl | decide +kernel) (by first | kernel_rfl | decide +kernel)) DenP.int)) (fun _ _ => rfl)) (DenP.bin P_mul (DenP.list (DenAll.cons DenP.str DenAll.nil rfl) (by first | kernel_rfl | decide +kernel)) (DenP.bin P_mod (DenP.name 11 (by first | kernel_rfl | decide +kernel) (by first | kernel_rfl | decide +kernel) (by first | kernel_rfl | decide +kernel)) DenP.int))) (DenP.sliceL (DenP.name 19 (by first | kernel_rfl | decide +kernel) (by first | kernel_rfl | decide +kernel) (by first | kernel_rfl | decide +kernel)) (DenPart.some (DenP.bin P_fdiv (DenP.name 11 (by first | kernel_rfl | decide +kernel) (by first | kernel_rfl | decide +kernel) (by first | kernel_rfl | decide +kernel)) DenP.int)) DenPart.none (fun _ _ => rfl))) (DenT.name (i := 19) (by first | kernel_rfl | decide +kernel) (by first | kernel_rfl | decide +kernel) (by first | kernel_rfl | decide +kernel)) (by first | kernel_rfl | decide +kernel) (fun _ _ => rfl) (fun _ _ => rfl) (fun _ _ => rfl))
  (DenS.cons (T' := [("number", 0), ("palette", 1), ("more", 2), ("hues", 18), ("names", 19), ("step", 5), ("left", 6), ("pick", 7), ("shade", 8), ("parts", 9), ("decoy", 10), ("gap", 11), ("text", 12), ("cut", 13), ("pieces", 14)]) (DenX.assign (DenP.meth "str" "str.join" P_join F.plainAttrs_str F.slot_str_join (by rfl) DenP.str (DenAll.cons (DenP.name 19 (by first | kernel_rfl | decide +kernel) (by first | kernel_rfl | decide +kernel) (by first | kernel_rfl | decide +kernel)) DenAll.nil rfl) (by first | kernel_rfl | decide +kernel) (fun _ _ => rfl) (fun _ => rfl) (by first | kernel_rfl | decide +kernel)) (DenT.name (i := 12) (by first | kernel_rfl | decide +kernel) (by first | kernel_rfl | decide +kernel) (by first | kernel_rfl | decide +kernel)) (by first | kernel_rfl | decide +kernel) (fun _ _ => rfl) (fun _ _ => rfl) (fun _ _ => rfl))
  (DenS.cons (T' := [("number", 0), ("palette", 1), ("more", 2), ("hues", 18), ("names", 19), ("step", 5), ("left", 6), ("pick", 7), ("shade", 8), ("parts", 9), ("decoy", 10), ("gap", 11), ("text", 12), ("cut", 13), ("pieces", 14)]) (DenX.assign (DenP.bin P_mod (DenP.name 0 (by first | kernel_rfl | decide +kernel) (by first | kernel_rfl | decide +kernel) (by first | kernel_rfl | decide +kernel)) (DenP.bin P_add (DenP.callB P_len c.len (DenAll.cons (DenP.name 12 (by first | kernel_rfl | decide +kernel) (by first | kernel_rfl | decide +kernel) (by first | kernel_rfl | decide +kernel)) DenAll.nil rfl) (by first | kernel_rfl | decide +kernel) (by first | kernel_rfl | decide +kernel) (by first | kernel_rfl | decide +kernel)) DenP.int)) (DenT.name (i := 13) (by first | kernel_rfl | decide +kernel) (by first | kernel_rfl | decide +kernel) (by first | kernel_rfl | decide +kernel)) (by first | kernel_rfl | decide +kernel) (fun _ _ => rfl) (fun _ _ => rfl) (fun _ _ => rfl))
  (DenS.cons (T' := [("number", 0), ("palette", 1), ("more", 2), ("hues", 18), ("names", 19), ("step", 5), ("left", 6), ("pick", 7), ("shade", 8), ("parts", 9), ("decoy", 10), ("gap", 11), ("text", 12), ("cut", 13), ("pieces", 14)]) (DenX.assign (DenP.list (DenAll.cons DenP.str (DenAll.cons DenP.str (DenAll.cons DenP.str (DenAll.cons DenP.str DenAll.nil rfl) rfl) rfl) rfl) (by first | kernel_rfl | decide +kernel)) (DenT.name (i := 14) (by first | kernel_rfl | decide +kernel) (by first | kernel_rfl | decide +kernel) (by first | kernel_rfl | decide +kernel)) (by first | kernel_rfl | decide +kernel) (fun _ _ => rfl) (fun _ _ => rfl) (fun _ _ => rfl))
  (DenS.cons (T' := T_place) (DenS.ret (DenP.tuple (DenAll.cons (DenP.name 18 (by first | kernel_rfl | decide +kernel) (by first | kernel_rfl | decide +kernel) (by first | kernel_rfl | decide +kernel)) (DenAll.cons (DenP.name 19 (by first | kernel_rfl | decide +kernel) (by first | kernel_rfl | decide +kernel) (by first | kernel_rfl | decide +kernel)) (DenAll.cons (DenP.bin P_add (DenP.bin P_add (DenP.bin P_add (DenP.item (DenP.name 14 (by first | kernel_rfl | decide +kernel) (by first | kernel_rfl | decide +kernel) (by first | kernel_rfl | decide +kernel)) (DenP.bin P_fdiv (DenP.name 10 (by first | kernel_rfl | decide +kernel) (by first | kernel_rfl | decide +kernel) (by first | kernel_rfl | decide +kernel)) DenP.int) rfl) (DenP.sliceS (DenP.name 12 (by first | kernel_rfl | decide +kernel) (by first | kernel_rfl | decide +kernel) (by first | kernel_rfl | decide +kernel)) DenPart.none (DenPart.some (DenP.name 13 (by first | kernel_rfl | decide +kernel) (by first | kernel_rfl | decide +kernel) (by first | kernel_rfl | decide +kernel))) (fun _ _ => rfl))) (DenP.item (DenP.name 14 (by first | kernel_rfl | decide +kernel) (by first | kernel_rfl | decide +kernel) (by first | kernel_rfl | decide +kernel)) (DenP.bin P_mod (DenP.name 10 (by first | kernel_rfl | decide +kernel) (by first | kernel_rfl | decide +kernel) (by first | kernel_rfl | decide +kernel)) DenP.int) rfl)) (DenP.sliceS (DenP.name 12 (by first | kernel_rfl | decide +kernel) (by first | kernel_rfl | decide +kernel) (by first | kernel_rfl | decide +kernel)) (DenPart.some (DenP.name 13 (by first | kernel_rfl | decide +kernel) (by first | kernel_rfl | decide +kernel) (by first | kernel_rfl | decide +kernel))) DenPart.none (fun _ _ => rfl))) DenAll.nil rfl) rfl) rfl) (by first | kernel_rfl | decide +kernel)))
  DenS.nil))))))) (by first | kernel_rfl | decide +kernel) (by first | kernel_rfl | decide +kernel) (by first | kernel_rfl | decide +kernel)) (by first | kernel_rfl | decide +kernel) (by first | kernel_rfl | decide +kernel) (by first | kernel_rfl | decide +kernel))))))
end Mine
end

section
namespace Mine
open PySem PySem.Calls PyProof.Rows
open PySem.W
set_option maxRecDepth 100000
set_option maxHeartbeats 4000000
noncomputable def F_hue : RX :=
  (andThen (xAsg (f2 itemV (fC W_hsv (aC (fI 8) (aC (fI 8) (aC (fI 7) a0)))) (fI 1)) (b1 1))
  (andThen (xAsc (fComp (lStr (fV 0)) (b1 15) tT (fC intV (aC (fV 15) a0))) 2)
  (andThen (xAsg (fV 2) (bT [("red", 3), ("green", 4), ("blue", 5)]))
  (andThen (xAsg (f2 subV (fC maxV (aC (fV 2) a0)) (fC minV (aC (fV 2) a0))) (b1 6))
  (andThen (xAsg (fC W_hsv (aC (fV 3) (aC (fV 4) (aC (fV 5) a0)))) (bT [("hue", 7), ("share", 8), ("value", 9)]))
  (andThen (xAsg (fC W_hls (aC (f2 mulV (fV 3) (fV 1)) (aC (f2 mulV (fV 4) (fV 1)) (aC (f2 mulV (fV 5) (fV 1)) a0)))) (bT [("again", 10), ("light", 11), ("deep", 12)]))
  (andThen (xAsg (fB (aAnd (f2 eqV (fV 10) (fV 7)) (aAnd (fCh leV ltV (fI 0) (fV 7) (fI 1)) (aAnd (f2 eqV (fV 9) (fC maxV (aC (fV 2) a0))) (bV (f2 eqV (f2 mulV (fI 16) (fV 11)) (f2 addV (fC maxV (aC (fV 2) a0)) (fC minV (aC (fV 2) a0))))))))) (b1 13))
  (andThen (xAsg (fList (aC (f2 fdivV (fC intV (aC (f2 addV (f2 mulV (f2 mulV (fI 2000) (fV 8)) (fV 9)) (fI 1)) a0)) (fI 2)) (aC (f2 fdivV (fC intV (aC (f2 addV (f2 mulV (f2 mulV (fI 16000) (fV 12)) (fC minV (aC (f2 mulV (fI 2) (fV 11)) (aC (f2 subV (fI 2) (f2 mulV (fI 2) (fV 11))) a0)))) (fI 1)) a0)) (fI 2)) a0))) (b1 14))
  (andThen (xRet (fTup (aC (f2 fdivV (fC intV (aC (f2 addV (f2 mulV (fI 24000) (fV 7)) (fI 1)) a0)) (fI 2)) (aC (fB (aAnd (fV 13) (bV (f2 eqV (fV 14) (fList (aC (f2 mulV (fI 1000) (fV 6)) (aC (f2 mulV (fI 1000) (fV 6)) a0))))))) a0))))
  xNil)))))))))

noncomputable def ps_hue : List (Str × Nat) := [("name", 0)]

noncomputable def W_hue : List V → Option V := runF ps_hue F_hue

noncomputable def T_hue : List (Str × Nat) := [("name", 0), ("eighth", 1), ("parts", 2), ("red", 3), ("green", 4), ("blue", 5), ("spread", 6), ("hue", 7), ("share", 8), ("value", 9), ("again", 10), ("light", 11), ("deep", 12), ("sure", 13), ("far", 14)]

theorem D_hue {G : Gd} {lvl : Nat} (c : Ctx G) {a_hsv : Addr} (g_hsv : GlobAt G.h₀ "rgb_to_hsv" (.ref a_hsv)) (f_hsv : FnAt G.h₀ a_hsv) (p_hsv : Prim G lvl (fun vs => call (.ref a_hsv) vs) W_hsv) {a_hls : Addr} (g_hls : GlobAt G.h₀ "rgb_to_hls" (.ref a_hls)) (f_hls : FnAt G.h₀ a_hls) (p_hls : Prim G lvl (fun vs => call (.ref a_hls) vs) W_hls) : DenS G lvl (topScope 14) T_hue T_hue [] (topBody 14) F_hue :=
  (DenS.cons (T' := T_hue) (DenX.assign (DenP.item (DenP.callF p_hsv g_hsv f_hsv (DenAll.cons DenP.int (DenAll.cons DenP.int (DenAll.cons DenP.int DenAll.nil rfl) rfl) rfl) (by first | kernel_rfl | decide +kernel) (by first | kernel_rfl | decide +kernel) (by first | kernel_rfl | decide +kernel)) DenP.int rfl) (DenT.name (i := 1) (by first | kernel_rfl | decide +kernel) (by first | kernel_rfl | decide +kernel) (by first | kernel_rfl | decide +kernel)) (by first | kernel_rfl | decide +kernel) (fun _ _ => rfl) (fun _ _ => rfl) (fun _ _ => rfl))
  (DenS.cons (T' := T_hue) (DenX.assignComp (i := 2) [] [("sign", 15)] (fun _ _ => rfl) (by first | kernel_rfl | decide +kernel) (by first | kernel_rfl | decide +kernel) (by first | kernel_rfl | decide +kernel) (DenI.str false (DenP.name 0 (by first | kernel_rfl | decide +kernel) (by first | kernel_rfl | decide +kernel) (by first | kernel_rfl | decide +kernel))) (DenT.name (i := 15) (by first | kernel_rfl | decide +kernel) (by first | kernel_rfl | decide +kernel) (by first | kernel_rfl | decide +kernel)) DenC.nil (DenP.callT P_int c.int (DenAll.cons (DenP.name 15 (by first | kernel_rfl | decide +kernel) (by first | kernel_rfl | decide +kernel) (by first | kernel_rfl | decide +kernel)) DenAll.nil rfl) (by first | kernel_rfl | decide +kernel) (by first | kernel_rfl | decide +kernel) (by first | kernel_rfl | decide +kernel)) (by first | kernel_rfl | decide +kernel) (by first | kernel_rfl | decide +kernel) (by first | kernel_rfl | decide +kernel) (by first | kernel_rfl | decide +kernel) (by intro env h; cases env; cases h; rfl))
  (DenS.cons (T' := T_hue) (DenX.assign (DenP.name 2 (by first | kernel_rfl | decide +kernel) (by first | kernel_rfl | decide +kernel) (by first | kernel_rfl | decide +kernel)) (DenT.tuple (is := [3, 4, 5]) (by first | kernel_rfl | decide +kernel) (by first | kernel_rfl | decide +kernel)) (by first | kernel_rfl | decide +kernel) (fun _ _ => rfl) (fun _ _ => rfl) (fun _ _ => rfl))
  (DenS.cons (T' := T_hue) (DenX.assign (DenP.bin P_sub (DenP.callB P_max c.max (DenAll.cons (DenP.name 2 (by first | kernel_rfl | decide +kernel) (by first | kernel_rfl | decide +kernel) (by first | kernel_rfl | decide +kernel)) DenAll.nil rfl) (by first | kernel_rfl | decide +kernel) (by first | kernel_rfl | decide +kernel) (by first | kernel_rfl | decide +kernel)) (DenP.callB P_min c.min (DenAll.cons (DenP.name 2 (by first | kernel_rfl | decide +kernel) (by first | kernel_rfl | decide +kernel) (by first | kernel_rfl | decide +kernel)) DenAll.nil rfl) (by first | kernel_rfl | decide +kernel) (by first | kernel_rfl | decide +kernel) (by first | kernel_rfl | decide +kernel))) (DenT.name (i := 6) (by first | kernel_rfl | decide +kernel) (by first | kernel_rfl | decide +kernel) (by first | kernel_rfl | decide +kernel)) (by first | kernel_rfl | decide +kernel) (fun _ _ => rfl) (fun _ _ => rfl) (fun _ _ => rfl))
  (DenS.cons (T' := T_hue) (DenX.assign (DenP.callF p_hsv g_hsv f_hsv (DenAll.cons (DenP.name 3 (by first | kernel_rfl | decide +kernel) (by first | kernel_rfl | decide +kernel) (by first | kernel_rfl | decide +kernel)) (DenAll.cons (DenP.name 4 (by first | kernel_rfl | decide +kernel) (by first | kernel_rfl | decide +kernel) (by first | kernel_rfl | decide +kernel)) (DenAll.cons (DenP.name 5 (by first | kernel_rfl | decide +kernel) (by first | kernel_rfl | decide +kernel) (by first | kernel_rfl | decide +kernel)) DenAll.nil rfl) rfl) rfl) (by first | kernel_rfl | decide +kernel) (by first | kernel_rfl | decide +kernel) (by first | kernel_rfl | decide +kernel)) (DenT.tuple (is := [7, 8, 9]) (by first | kernel_rfl | decide +kernel) (by first | kernel_rfl | decide +kernel)) (by first | kernel_rfl | decide +kernel) (fun _ _ => rfl) (fun _ _ => rfl) (fun _ _ => rfl))
  (DenS.cons (T' := T_hue) (DenX.assign (DenP.callF p_hls g_hls f_hls (DenAll.cons (DenP.bin P_mul (DenP.name 3 (by first | kernel_rfl | decide +kernel) (by first | kernel_rfl | decide +kernel) (by first | kernel_rfl | decide +kernel)) (DenP.name 1 (by first | kernel_rfl | decide +kernel) (by first | kernel_rfl | decide +kernel) (by first | kernel_rfl | decide +kernel))) (DenAll.cons (DenP.bin P_mul (DenP.name 4 (by first | kernel_rfl | decide +kernel) (by first | kernel_rfl | decide +kernel) (by first | kernel_rfl | decide +kernel)) (DenP.name 1 (by first | kernel_rfl | decide +kernel) (by first | kernel_rfl | decide +kernel) (by first | kernel_rfl | decide +kernel))) (DenAll.cons (DenP.bin P_mul (DenP.name 5 (by first | kernel_rfl | decide +kernel) (by first | kernel_rfl | decide +kernel) (by first | kernel_rfl | decide +kernel)) (DenP.name 1 (by first | kernel_rfl | decide +kernel) (by first | kernel_rfl | decide +kernel) (by first | kernel_rfl | decide +kernel))) DenAll.nil rfl) rfl) rfl) (by first | kernel_rfl | decide +kernel) (by first | kernel_rfl | decide +kernel) (by first | kernel_rfl | decide +kernel)) (DenT.tuple (is := [10, 11, 12]) (by first | kernel_rfl | decide +kernel) (by first | kernel_rfl | decide +kernel)) (by first | kernel_rfl | decide +kernel) (fun _ _ => rfl) (fun _ _ => rfl) (fun _ _ => rfl))
  (DenS.cons (T' := T_hue) (DenX.assign (DenP.and (DenAnd.cons (DenP.cmp P_eq (DenP.name 10 (by first | kernel_rfl | decide +kernel) (by first | kernel_rfl | decide +kernel) (by first | kernel_rfl | decide +kernel)) (DenP.name 7 (by first | kernel_rfl | decide +kernel) (by first | kernel_rfl | decide +kernel) (by first | kernel_rfl | decide +kernel)) rfl) (DenAnd.cons (DenP.chain2 P_le P_lt DenP.int (DenP.name 7 (by first | kernel_rfl | decide +kernel) (by first | kernel_rfl | decide +kernel) (by first | kernel_rfl | decide +kernel)) DenP.int (fun _ => rfl)) (DenAnd.cons (DenP.cmp P_eq (DenP.name 9 (by first | kernel_rfl | decide +kernel) (by first | kernel_rfl | decide +kernel) (by first | kernel_rfl | decide +kernel)) (DenP.callB P_max c.max (DenAll.cons (DenP.name 2 (by first | kernel_rfl | decide +kernel) (by first | kernel_rfl | decide +kernel) (by first | kernel_rfl | decide +kernel)) DenAll.nil rfl) (by first | kernel_rfl | decide +kernel) (by first | kernel_rfl | decide +kernel) (by first | kernel_rfl | decide +kernel)) rfl) (DenAnd.one (DenP.cmp P_eq (DenP.bin P_mul DenP.int (DenP.name 11 (by first | kernel_rfl | decide +kernel) (by first | kernel_rfl | decide +kernel) (by first | kernel_rfl | decide +kernel))) (DenP.bin P_add (DenP.callB P_max c.max (DenAll.cons (DenP.name 2 (by first | kernel_rfl | decide +kernel) (by first | kernel_rfl | decide +kernel) (by first | kernel_rfl | decide +kernel)) DenAll.nil rfl) (by first | kernel_rfl | decide +kernel) (by first | kernel_rfl | decide +kernel) (by first | kernel_rfl | decide +kernel)) (DenP.callB P_min c.min (DenAll.cons (DenP.name 2 (by first | kernel_rfl | decide +kernel) (by first | kernel_rfl | decide +kernel) (by first | kernel_rfl | decide +kernel)) DenAll.nil rfl) (by first | kernel_rfl | decide +kernel) (by first | kernel_rfl | decide +kernel) (by first | kernel_rfl | decide +kernel))) rfl)))))) (DenT.name (i := 13) (by first | kernel_rfl | decide +kernel) (by first | kernel_rfl | decide +kernel) (by first | kernel_rfl | decide +kernel)) (by first | kernel_rfl | decide +kernel) (fun _ _ => rfl) (fun _ _ => rfl) (fun _ _ => rfl))
  (DenS.cons (T' := T_hue) (DenX.assign (DenP.list (DenAll.cons (DenP.bin P_fdiv (DenP.callT P_int c.int (DenAll.cons (DenP.bin P_add (DenP.bin P_mul (DenP.bin P_mul DenP.int (DenP.name 8 (by first | kernel_rfl | decide +kernel) (by first | kernel_rfl | decide +kernel) (by first | kernel_rfl | decide +kernel))) (DenP.name 9 (by first | kernel_rfl | decide +kernel) (by first | kernel_rfl | decide +kernel) (by first | kernel_rfl | decide +kernel))) DenP.int) DenAll.nil rfl) (by first | kernel_rfl | decide +kernel) (by first | kernel_rfl | decide +kernel) (by first | kernel_rfl | decide +kernel)) DenP.int) (DenAll.cons (DenP.bin P_fdiv (DenP.callT P_int c.int (DenAll.cons (DenP.bin P_add (DenP.bin P_mul (DenP.bin P_mul DenP.int (DenP.name 12 (by first | kernel_rfl | decide +kernel) (by first | kernel_rfl | decide +kernel) (by first | kernel_rfl | decide +kernel))) (DenP.callB P_min c.min (DenAll.cons (DenP.bin P_mul DenP.int (DenP.name 11 (by first | kernel_rfl | decide +kernel) (by first | kernel_rfl | decide +kernel) (by first | kernel_rfl | decide +kernel))) (DenAll.cons (DenP.bin P_sub DenP.int (DenP.bin P_mul DenP.int (DenP.name 11 (by first | kernel_rfl | decide +kernel) (by first | kernel_rfl | decide +kernel) (by first | kernel_rfl | decide +kernel)))) DenAll.nil rfl) rfl) (by first | kernel_rfl | decide +kernel) (by first | kernel_rfl | decide +kernel) (by first | kernel_rfl | decide +kernel))) DenP.int) DenAll.nil rfl) (by first | kernel_rfl | decide +kernel) (by first | kernel_rfl | decide +kernel) (by first | kernel_rfl | decide +kernel)) DenP.int) DenAll.nil rfl) rfl) (by first | kernel_rfl | decide +kernel)) (DenT.name (i := 14) (by first | kernel_rfl | decide +kernel) (by first | kernel_rfl | decide +kernel) (by first | kernel_rfl | decide +kernel)) (by first | kernel_rfl | decide +kernel) (fun _ _ => rfl) (fun _ _ => rfl) (fun _ _ => rfl))
  (DenS.cons (T' := T_hue) (DenS.ret (DenP.tuple (DenAll.cons (DenP.bin P_fdiv (DenP.callT P_int c.int (DenAll.cons (DenP.bin P_add (DenP.bin P_mul DenP.int (DenP.name 7 (by first | kernel_rfl | decide +kernel) (by first | kernel_rfl | decide +kernel) (by first | kernel_rfl | decide +kernel))) DenP.int) DenAll.nil rfl) (by first | kernel_rfl | decide +kernel) (by first | kernel_rfl | decide +kernel) (by first | kernel_rfl | decide +kernel)) DenP.int) (DenAll.cons (DenP.and (DenAnd.cons (DenP.name 13 (by first | kernel_rfl | decide +kernel) (by first | kernel_rfl | decide +kernel) (by first | kernel_rfl | decide +kernel)) (DenAnd.one (DenP.cmp P_eq (DenP.name 14 (by first | kernel_rfl | decide +kernel) (by first | kernel_rfl | decide +kernel) (by first | kernel_rfl | decide +kernel)) (DenP.list (DenAll.cons (DenP.bin P_mul DenP.int (DenP.name 6 (by first | kernel_rfl | decide +kernel) (by first | kernel_rfl | decide +kernel) (by first | kernel_rfl | decide +kernel))) (DenAll.cons (DenP.bin P_mul DenP.int (DenP.name 6 (by first | kernel_rfl | decide +kernel) (by first | kernel_rfl | decide +kernel) (by first | kernel_rfl | decide +kernel))) DenAll.nil rfl) rfl) (by first | kernel_rfl | decide +kernel)) rfl)))) DenAll.nil rfl) rfl) (by first | kernel_rfl | decide +kernel)))
  DenS.nil)))))))))
end Mine
end

section
namespace Mine
open PySem PySem.Calls PyProof.Rows
open PySem.W
set_option maxRecDepth 100000
set_option maxHeartbeats 4000000
noncomputable def clsBody (k : Nat) : List Stmt := match (PySem.Challenge.pw_xh0008_01.main.body[1]? : Option Stmt) with
  | some (.ClassDef _ _ _ b _ _ _ _ _ _ _) => (match (b[k]? : Option Stmt) with
    | some (.FunctionDef _ _ b _ _ _ _ _ _ _) => b
    | _ => [])
  | _ => []
noncomputable def clsScope (k : Nat) : Scope := match (PySem.Challenge.pw_xh0008_01.main.body[1]? : Option Stmt) with
  | some (.ClassDef _ _ _ b _ _ _ _ _ _ _) => (match (b[k]? : Option Stmt) with
    | some (.FunctionDef _ _ _ _ _ _ s _ _ _) => s
    | _ => PySem.Challenge.pw_xh0008_01.main.scope)
  | _ => PySem.Challenge.pw_xh0008_01.main.scope
noncomputable def F_cmp : RX :=
  (andThen (xFor (lOf (fSel (fV 0))) (bT [("index", 3), ("direction", 4)]) (andThen (xAsg (f2 itemV (fV 1) (fV 3)) (b1 5))
  (andThen (xAsg (f2 itemV (fV 2) (fV 3)) (b1 6))
  (andThen (xIte (bC ltV (fV 5) (fV 6)) (andThen (xRet (f1 negV (fV 4)))
  xNil) xNil)
  (andThen (xIte (bC gtV (fV 5) (fV 6)) (andThen (xRet (fV 4))
  xNil) xNil)
  xNil)))))
  (andThen (xRet (fI 0))
  xNil))

noncomputable def ps_cmp : List (Str × Nat) := [("self", 0), ("left", 1), ("right", 2)]

noncomputable def W_cmp : List V → Option V := runF ps_cmp F_cmp

noncomputable def T_cmp : List (Str × Nat) := [("self", 0), ("left", 1), ("right", 2), ("index", 3), ("direction", 4), ("l", 5), ("r", 6)]

theorem D_cmp {G : Gd} {lvl : Nat} (c : Ctx G) {K : Frag} {fI fC : Addr} (hK : K.In G.h₀) (ok : ClsOk K G.C fI fC) : DenS G lvl (clsScope 1) T_cmp T_cmp [] (clsBody 1) F_cmp :=
  (DenS.cons (T' := T_cmp) (DenX.for_ (fun _ _ => rfl) (DenI.list true (DenP.sel hK ok (DenP.name 0 (by first | kernel_rfl | decide +kernel) (by first | kernel_rfl | decide +kernel) (by first | kernel_rfl | decide +kernel)) (fun _ => rfl))) (DenT.tuple (is := [3, 4]) (by first | kernel_rfl | decide +kernel) (by first | kernel_rfl | decide +kernel)) (by first | kernel_rfl | decide +kernel) (DenS.cons (T' := T_cmp) (DenX.assign (DenP.item (DenP.name 1 (by first | kernel_rfl | decide +kernel) (by first | kernel_rfl | decide +kernel) (by first | kernel_rfl | decide +kernel)) (DenP.name 3 (by first | kernel_rfl | decide +kernel) (by first | kernel_rfl | decide +kernel) (by first | kernel_rfl | decide +kernel)) rfl) (DenT.name (i := 5) (by first | kernel_rfl | decide +kernel) (by first | kernel_rfl | decide +kernel) (by first | kernel_rfl | decide +kernel)) (by first | kernel_rfl | decide +kernel) (fun _ _ => rfl) (fun _ _ => rfl) (fun _ _ => rfl))
  (DenS.cons (T' := T_cmp) (DenX.assign (DenP.item (DenP.name 2 (by first | kernel_rfl | decide +kernel) (by first | kernel_rfl | decide +kernel) (by first | kernel_rfl | decide +kernel)) (DenP.name 3 (by first | kernel_rfl | decide +kernel) (by first | kernel_rfl | decide +kernel) (by first | kernel_rfl | decide +kernel)) rfl) (DenT.name (i := 6) (by first | kernel_rfl | decide +kernel) (by first | kernel_rfl | decide +kernel) (by first | kernel_rfl | decide +kernel)) (by first | kernel_rfl | decide +kernel) (fun _ _ => rfl) (fun _ _ => rfl) (fun _ _ => rfl))
  (DenS.cons (T' := T_cmp) (DenX.ite (DenB.cmp P_lt (DenP.name 5 (by first | kernel_rfl | decide +kernel) (by first | kernel_rfl | decide +kernel) (by first | kernel_rfl | decide +kernel)) (DenP.name 6 (by first | kernel_rfl | decide +kernel) (by first | kernel_rfl | decide +kernel) (by first | kernel_rfl | decide +kernel)) rfl) (DenS.cons (T' := T_cmp) (DenS.ret (DenP.un P_neg (DenP.name 4 (by first | kernel_rfl | decide +kernel) (by first | kernel_rfl | decide +kernel) (by first | kernel_rfl | decide +kernel))))
  DenS.nil) DenS.nil)
  (DenS.cons (T' := T_cmp) (DenX.ite (DenB.cmp P_gt (DenP.name 5 (by first | kernel_rfl | decide +kernel) (by first | kernel_rfl | decide +kernel) (by first | kernel_rfl | decide +kernel)) (DenP.name 6 (by first | kernel_rfl | decide +kernel) (by first | kernel_rfl | decide +kernel) (by first | kernel_rfl | decide +kernel)) rfl) (DenS.cons (T' := T_cmp) (DenS.ret (DenP.name 4 (by first | kernel_rfl | decide +kernel) (by first | kernel_rfl | decide +kernel) (by first | kernel_rfl | decide +kernel)))
  DenS.nil) DenS.nil)
  DenS.nil)))))
  (DenS.cons (T' := T_cmp) (DenS.ret DenP.int)
  DenS.nil))
end Mine
end

section
namespace Mine
open PySem PySem.Calls PyProof.Rows
open PySem.W
set_option maxRecDepth 100000
set_option maxHeartbeats 4000000
noncomputable def F_order : RX :=
  (andThen (xAsg (fC makeV (aC (fV 1) a0)) (b1 2))
  (andThen (xSwap (fTup (aC (fList a0) (aC (fT true) a0))) 3 4)
  (andThen (xFor (lOf (fV 0)) (b1 5) (andThen (xAsc (fComp (lOf (f2 addV (fV 3) (fList (aC (fV 5) a0)))) (b1 11) tT (fAsk W_cmp (fV 2) (aC (fV 5) (aC (fV 11) a0)))) 6)
  (andThen (xAsg (fAsk W_cmp (fV 2) (aC (f2 itemV (f2 addV (fV 3) (fList (aC (fV 5) a0))) (fI 0)) (aC (fV 5) a0))) (b1 7))
  (andThen (xAsg (fComp (lOf (f2 addV (fV 3) (fList (aC (fV 5) a0)))) (b1 12) tT (fComp (lOf (fV 1)) (bT [("column", 13), ("way", 14)]) tT (f2 mulV (fV 14) (f2 itemV (fV 12) (fV 13))))) (b1 8))
  (andThen (xAsc (fComp (lOf (fV 8)) (b1 15) tT (f2 subV (fC intV (aC (f2 gtL (f2 itemV (fV 8) (f1 negV (fI 1))) (fV 15)) a0)) (fC intV (aC (f2 ltL (f2 itemV (fV 8) (f1 negV (fI 1))) (fV 15)) a0)))) 9)
  (andThen (xAsg (fB (aAnd (fV 4) (aAnd (f2 eqV (fV 6) (fV 9)) (aAnd (f2 eqV (fV 7) (f1 negV (f2 itemV (fV 9) (fI 0)))) (bV (f2 eqV (fComp (lOf (f2 addV (fV 6) (fList (aC (fV 7) a0)))) (b1 16) (bV (fIsi "bool" (fV 16))) (fV 16)) (fList a0))))))) (b1 4))
  (andThen (xAsg (fM "list" countV (fV 6) (aC (fI 1) a0)) (b1 10))
  (andThen (xAsg (f2 addV (f2 addV (fSl (fV 3) pN (pS (fV 10))) (fList (aC (fV 5) a0))) (fSl (fV 3) (pS (fV 10)) pN)) (b1 3))
  xNil))))))))
  (andThen (xRet (fTup (aC (fComp (lOf (fV 3)) (b1 17) tT (f2 addV (f2 mulV (fI 3) (f2 itemV (fV 17) (fI 0))) (f2 itemV (fV 17) (fI 1)))) (aC (fV 4) a0))))
  xNil))))

noncomputable def ps_order : List (Str × Nat) := [("items", 0), ("columns", 1)]

noncomputable def W_order : List V → Option V := runF ps_order F_order

noncomputable def T_order : List (Str × Nat) := [("items", 0), ("columns", 1), ("judge", 2), ("row", 3), ("sure", 4), ("one", 5), ("told", 6), ("back", 7), ("keys", 8), ("due", 9), ("place", 10)]

theorem D_order {G : Gd} {lvl : Nat} (c : Ctx G) {K : Frag} {fI fC : Addr} (hK : K.In G.h₀) (ok : ClsOk K G.C fI fC) (hfC : FnAt G.h₀ fC) (pC : Prim G lvl (fun vs => call (.ref fC) vs) W_cmp) (hk : keepIn K (.ref G.C) = true) (pM : Prim G lvl (fun vs => call (.ref G.C) vs) makeV) (gM : GlobAt G.h₀ "TupleComp" (.ref G.C)) : DenS G lvl (topScope 15) T_order T_order [] (topBody 15) F_order :=
  (DenS.cons (T' := T_order) (DenX.assign (DenP.callK hK hk pM gM (DenAll.cons (DenP.name 1 (by first | kernel_rfl | decide +kernel) (by first | kernel_rfl | decide +kernel) (by first | kernel_rfl | decide +kernel)) DenAll.nil rfl) (by first | kernel_rfl | decide +kernel) (by first | kernel_rfl | decide +kernel) (by first | kernel_rfl | decide +kernel)) (DenT.name (i := 2) (by first | kernel_rfl | decide +kernel) (by first | kernel_rfl | decide +kernel) (by first | kernel_rfl | decide +kernel)) (by first | kernel_rfl | decide +kernel) (fun _ _ => rfl) (fun _ _ => rfl) (fun _ _ => rfl))
  (DenS.cons (T' := T_order) (DenX.swap (x := "row") (y := "sure") (i := 3) (j := 4) (DenP.tuple (DenAll.cons (DenP.list DenAll.nil (by first | kernel_rfl | decide +kernel)) (DenAll.cons DenP.bool DenAll.nil rfl) rfl) (by first | kernel_rfl | decide +kernel)) (by first | kernel_rfl | decide +kernel) (by first | kernel_rfl | decide +kernel) (by first | kernel_rfl | decide +kernel) (by first | kernel_rfl | decide +kernel) (by first | kernel_rfl | decide +kernel) (by first | kernel_rfl | decide +kernel) (fun _ _ => rfl) (by intro env h; cases env; cases h; rfl))
  (DenS.cons (T' := T_order) (DenX.for_ (fun _ _ => rfl) (DenI.list true (DenP.name 0 (by first | kernel_rfl | decide +kernel) (by first | kernel_rfl | decide +kernel) (by first | kernel_rfl | decide +kernel))) (DenT.name (i := 5) (by first | kernel_rfl | decide +kernel) (by first | kernel_rfl | decide +kernel) (by first | kernel_rfl | decide +kernel)) (by first | kernel_rfl | decide +kernel) (DenS.cons (T' := T_order) (DenX.assignComp (i := 6) [("judge", 2), ("one", 5)] [("other", 11), ("judge", 2), ("one", 5)] (fun _ _ => rfl) (by first | kernel_rfl | decide +kernel) (by first | kernel_rfl | decide +kernel) (by first | kernel_rfl | decide +kernel) (DenI.list false (DenP.bin P_add (DenP.name 3 (by first | kernel_rfl | decide +kernel) (by first | kernel_rfl | decide +kernel) (by first | kernel_rfl | decide +kernel)) (DenP.list (DenAll.cons (DenP.name 5 (by first | kernel_rfl | decide +kernel) (by first | kernel_rfl | decide +kernel) (by first | kernel_rfl | decide +kernel)) DenAll.nil rfl) (by first | kernel_rfl | decide +kernel)))) (DenT.name (i := 11) (by first | kernel_rfl | decide +kernel) (by first | kernel_rfl | decide +kernel) (by first | kernel_rfl | decide +kernel)) DenC.nil (DenP.ask hK ok hfC pC (DenP.name 2 (by first | kernel_rfl | decide +kernel) (by first | kernel_rfl | decide +kernel) (by first | kernel_rfl | decide +kernel)) (DenAll.cons (DenP.name 5 (by first | kernel_rfl | decide +kernel) (by first | kernel_rfl | decide +kernel) (by first | kernel_rfl | decide +kernel)) (DenAll.cons (DenP.name 11 (by first | kernel_rfl | decide +kernel) (by first | kernel_rfl | decide +kernel) (by first | kernel_rfl | decide +kernel)) DenAll.nil rfl) rfl) (by first | kernel_rfl | decide +kernel) (fun _ _ => rfl) (fun _ => rfl) (by first | kernel_rfl | decide +kernel)) (by first | kernel_rfl | decide +kernel) (by first | kernel_rfl | decide +kernel) (by first | kernel_rfl | decide +kernel) (by first | kernel_rfl | decide +kernel) (by intro env h; cases env; cases h; rfl))
  (DenS.cons (T' := T_order) (DenX.assign (DenP.ask hK ok hfC pC (DenP.name 2 (by first | kernel_rfl | decide +kernel) (by first | kernel_rfl | decide +kernel) (by first | kernel_rfl | decide +kernel)) (DenAll.cons (DenP.item (DenP.bin P_add (DenP.name 3 (by first | kernel_rfl | decide +kernel) (by first | kernel_rfl | decide +kernel) (by first | kernel_rfl | decide +kernel)) (DenP.list (DenAll.cons (DenP.name 5 (by first | kernel_rfl | decide +kernel) (by first | kernel_rfl | decide +kernel) (by first | kernel_rfl | decide +kernel)) DenAll.nil rfl) (by first | kernel_rfl | decide +kernel))) DenP.int rfl) (DenAll.cons (DenP.name 5 (by first | kernel_rfl | decide +kernel) (by first | kernel_rfl | decide +kernel) (by first | kernel_rfl | decide +kernel)) DenAll.nil rfl) rfl) (by first | kernel_rfl | decide +kernel) (fun _ _ => rfl) (fun _ => rfl) (by first | kernel_rfl | decide +kernel)) (DenT.name (i := 7) (by first | kernel_rfl | decide +kernel) (by first | kernel_rfl | decide +kernel) (by first | kernel_rfl | decide +kernel)) (by first | kernel_rfl | decide +kernel) (fun _ _ => rfl) (fun _ _ => rfl) (fun _ _ => rfl))
  (DenS.cons (T' := T_order) (DenX.assign (DenP.comp [("columns", 1)] [("other", 12), ("columns", 1)] (fun _ _ => rfl) (by first | kernel_rfl | decide +kernel) (by first | kernel_rfl | decide +kernel) (by first | kernel_rfl | decide +kernel) (DenI.list false (DenP.bin P_add (DenP.name 3 (by first | kernel_rfl | decide +kernel) (by first | kernel_rfl | decide +kernel) (by first | kernel_rfl | decide +kernel)) (DenP.list (DenAll.cons (DenP.name 5 (by first | kernel_rfl | decide +kernel) (by first | kernel_rfl | decide +kernel) (by first | kernel_rfl | decide +kernel)) DenAll.nil rfl) (by first | kernel_rfl | decide +kernel)))) (DenT.name (i := 12) (by first | kernel_rfl | decide +kernel) (by first | kernel_rfl | decide +kernel) (by first | kernel_rfl | decide +kernel)) DenC.nil (DenP.comp [("other", 12)] [("column", 13), ("way", 14), ("other", 12)] (fun _ _ => rfl) (by first | kernel_rfl | decide +kernel) (by first | kernel_rfl | decide +kernel) (by first | kernel_rfl | decide +kernel) (DenI.list false (DenP.name 1 (by first | kernel_rfl | decide +kernel) (by first | kernel_rfl | decide +kernel) (by first | kernel_rfl | decide +kernel))) (DenT.tuple (is := [13, 14]) (by first | kernel_rfl | decide +kernel) (by first | kernel_rfl | decide +kernel)) DenC.nil (DenP.bin P_mul (DenP.name 14 (by first | kernel_rfl | decide +kernel) (by first | kernel_rfl | decide +kernel) (by first | kernel_rfl | decide +kernel)) (DenP.item (DenP.name 12 (by first | kernel_rfl | decide +kernel) (by first | kernel_rfl | decide +kernel) (by first | kernel_rfl | decide +kernel)) (DenP.name 13 (by first | kernel_rfl | decide +kernel) (by first | kernel_rfl | decide +kernel) (by first | kernel_rfl | decide +kernel)) rfl)))) (DenT.name (i := 8) (by first | kernel_rfl | decide +kernel) (by first | kernel_rfl | decide +kernel) (by first | kernel_rfl | decide +kernel)) (by first | kernel_rfl | decide +kernel) (by intro env h; cases env; cases h; rfl) (fun _ _ => rfl) (fun _ _ => rfl))
  (DenS.cons (T' := T_order) (DenX.assignComp (i := 9) [("keys", 8)] [("key", 15), ("keys", 8)] (fun _ _ => rfl) (by first | kernel_rfl | decide +kernel) (by first | kernel_rfl | decide +kernel) (by first | kernel_rfl | decide +kernel) (DenI.list false (DenP.name 8 (by first | kernel_rfl | decide +kernel) (by first | kernel_rfl | decide +kernel) (by first | kernel_rfl | decide +kernel))) (DenT.name (i := 15) (by first | kernel_rfl | decide +kernel) (by first | kernel_rfl | decide +kernel) (by first | kernel_rfl | decide +kernel)) DenC.nil (DenP.bin P_sub (DenP.callT P_int c.int (DenAll.cons (DenP.cmp P_gtL (DenP.item (DenP.name 8 (by first | kernel_rfl | decide +kernel) (by first | kernel_rfl | decide +kernel) (by first | kernel_rfl | decide +kernel)) (DenP.un P_neg DenP.int) rfl) (DenP.name 15 (by first | kernel_rfl | decide +kernel) (by first | kernel_rfl | decide +kernel) (by first | kernel_rfl | decide +kernel)) rfl) DenAll.nil rfl) (by first | kernel_rfl | decide +kernel) (by first | kernel_rfl | decide +kernel) (by first | kernel_rfl | decide +kernel)) (DenP.callT P_int c.int (DenAll.cons (DenP.cmp P_ltL (DenP.item (DenP.name 8 (by first | kernel_rfl | decide +kernel) (by first | kernel_rfl | decide +kernel) (by first | kernel_rfl | decide +kernel)) (DenP.un P_neg DenP.int) rfl) (DenP.name 15 (by first | kernel_rfl | decide +kernel) (by first | kernel_rfl | decide +kernel) (by first | kernel_rfl | decide +kernel)) rfl) DenAll.nil rfl) (by first | kernel_rfl | decide +kernel) (by first | kernel_rfl | decide +kernel) (by first | kernel_rfl | decide +kernel))) (by first | kernel_rfl | decide +kernel) (by first | kernel_rfl | decide +kernel) (by first | kernel_rfl | decide +kernel) (by first | kernel_rfl | decide +kernel) (by intro env h; cases env; cases h; rfl))
  (DenS.cons (T' := T_order) (DenX.assign (DenP.and (DenAnd.cons (DenP.name 4 (by first | kernel_rfl | decide +kernel) (by first | kernel_rfl | decide +kernel) (by first | kernel_rfl | decide +kernel)) (DenAnd.cons (DenP.cmp P_eq (DenP.name 6 (by first | kernel_rfl | decide +kernel) (by first | kernel_rfl | decide +kernel) (by first | kernel_rfl | decide +kernel)) (DenP.name 9 (by first | kernel_rfl | decide +kernel) (by first | kernel_rfl | decide +kernel) (by first | kernel_rfl | decide +kernel)) rfl) (DenAnd.cons (DenP.cmp P_eq (DenP.name 7 (by first | kernel_rfl | decide +kernel) (by first | kernel_rfl | decide +kernel) (by first | kernel_rfl | decide +kernel)) (DenP.un P_neg (DenP.item (DenP.name 9 (by first | kernel_rfl | decide +kernel) (by first | kernel_rfl | decide +kernel) (by first | kernel_rfl | decide +kernel)) DenP.int rfl)) rfl) (DenAnd.one (DenP.cmp P_eq (DenP.comp [] [("sign", 16)] (fun _ _ => rfl) (by first | kernel_rfl | decide +kernel) (by first | kernel_rfl | decide +kernel) (by first | kernel_rfl | decide +kernel) (DenI.list false (DenP.bin P_add (DenP.name 6 (by first | kernel_rfl | decide +kernel) (by first | kernel_rfl | decide +kernel) (by first | kernel_rfl | decide +kernel)) (DenP.list (DenAll.cons (DenP.name 7 (by first | kernel_rfl | decide +kernel) (by first | kernel_rfl | decide +kernel) (by first | kernel_rfl | decide +kernel)) DenAll.nil rfl) (by first | kernel_rfl | decide +kernel)))) (DenT.name (i := 16) (by first | kernel_rfl | decide +kernel) (by first | kernel_rfl | decide +kernel) (by first | kernel_rfl | decide +kernel)) (DenC.one (DenB.val (DenP.isi (DenP.name 16 (by first | kernel_rfl | decide +kernel) (by first | kernel_rfl | decide +kernel) (by first | kernel_rfl | decide +kernel)) c.isinstance c.bool (by first | kernel_rfl | decide +kernel) (by first | kernel_rfl | decide +kernel) (by first | kernel_rfl | decide +kernel) (by first | kernel_rfl | decide +kernel)) (fun _ _ => rfl))) (DenP.name 16 (by first | kernel_rfl | decide +kernel) (by first | kernel_rfl | decide +kernel) (by first | kernel_rfl | decide +kernel))) (DenP.list DenAll.nil (by first | kernel_rfl | decide +kernel)) rfl)))))) (DenT.name (i := 4) (by first | kernel_rfl | decide +kernel) (by first | kernel_rfl | decide +kernel) (by first | kernel_rfl | decide +kernel)) (by first | kernel_rfl | decide +kernel) (fun _ _ => rfl) (fun _ _ => rfl) (fun _ _ => rfl))
  (DenS.cons (T' := T_order) (DenX.assign (DenP.meth "list" "list.count" P_count F.plainAttrs_list F.slot_list_count (by rfl) (DenP.name 6 (by first | kernel_rfl | decide +kernel) (by first | kernel_rfl | decide +kernel) (by first | kernel_rfl | decide +kernel)) (DenAll.cons DenP.int DenAll.nil rfl) (by first | kernel_rfl | decide +kernel) (fun _ _ => rfl) (fun _ => rfl) (by first | kernel_rfl | decide +kernel)) (DenT.name (i := 10) (by first | kernel_rfl | decide +kernel) (by first | kernel_rfl | decide +kernel) (by first | kernel_rfl | decide +kernel)) (by first | kernel_rfl | decide +kernel) (fun _ _ => rfl) (fun _ _ => rfl) (fun _ _ => rfl))
  (DenS.cons (T' := T_order) (DenX.assign (DenP.bin P_add (DenP.bin P_add (DenP.sliceL (DenP.name 3 (by first | kernel_rfl | decide +kernel) (by first | kernel_rfl | decide +kernel) (by first | kernel_rfl | decide +kernel)) DenPart.none (DenPart.some (DenP.name 10 (by first | kernel_rfl | decide +kernel) (by first | kernel_rfl | decide +kernel) (by first | kernel_rfl | decide +kernel))) (fun _ _ => rfl)) (DenP.list (DenAll.cons (DenP.name 5 (by first | kernel_rfl | decide +kernel) (by first | kernel_rfl | decide +kernel) (by first | kernel_rfl | decide +kernel)) DenAll.nil rfl) (by first | kernel_rfl | decide +kernel))) (DenP.sliceL (DenP.name 3 (by first | kernel_rfl | decide +kernel) (by first | kernel_rfl | decide +kernel) (by first | kernel_rfl | decide +kernel)) (DenPart.some (DenP.name 10 (by first | kernel_rfl | decide +kernel) (by first | kernel_rfl | decide +kernel) (by first | kernel_rfl | decide +kernel))) DenPart.none (fun _ _ => rfl))) (DenT.name (i := 3) (by first | kernel_rfl | decide +kernel) (by first | kernel_rfl | decide +kernel) (by first | kernel_rfl | decide +kernel)) (by first | kernel_rfl | decide +kernel) (fun _ _ => rfl) (fun _ _ => rfl) (fun _ _ => rfl))
  DenS.nil))))))))
  (DenS.cons (T' := T_order) (DenS.ret (DenP.tuple (DenAll.cons (DenP.comp [] [("one", 17)] (fun _ _ => rfl) (by first | kernel_rfl | decide +kernel) (by first | kernel_rfl | decide +kernel) (by first | kernel_rfl | decide +kernel) (DenI.list false (DenP.name 3 (by first | kernel_rfl | decide +kernel) (by first | kernel_rfl | decide +kernel) (by first | kernel_rfl | decide +kernel))) (DenT.name (i := 17) (by first | kernel_rfl | decide +kernel) (by first | kernel_rfl | decide +kernel) (by first | kernel_rfl | decide +kernel)) DenC.nil (DenP.bin P_add (DenP.bin P_mul DenP.int (DenP.item (DenP.name 17 (by first | kernel_rfl | decide +kernel) (by first | kernel_rfl | decide +kernel) (by first | kernel_rfl | decide +kernel)) DenP.int rfl)) (DenP.item (DenP.name 17 (by first | kernel_rfl | decide +kernel) (by first | kernel_rfl | decide +kernel) (by first | kernel_rfl | decide +kernel)) DenP.int rfl))) (DenAll.cons (DenP.name 4 (by first | kernel_rfl | decide +kernel) (by first | kernel_rfl | decide +kernel) (by first | kernel_rfl | decide +kernel)) DenAll.nil rfl) rfl) (by first | kernel_rfl | decide +kernel)))
  DenS.nil))))
end Mine
end

section
namespace Mine
open PySem PySem.Calls PyProof.Rows
open PySem.W
set_option maxRecDepth 100000
set_option maxHeartbeats 4000000
/-- a loop over the escaped signs -/
noncomputable def xEsc (F : RV) (bnd : Rho → V → Option Rho) (Fb : RX) : RX := fun ρ => (asStr (F ρ)).bind fun x => if x.cps.all (· < 128) && !escEnd false x.cps.toList then forGo bnd Fb ρ (escGo 0 false x.cps.toList) else none
noncomputable def F_strip : RX :=
  (andThen (xIte (bC notinStrV (fS "\"") (fV 0)) (andThen (xRet (fV 0))
  xNil) xNil)
  (andThen (xAsg (fI 0) (b1 1))
  (andThen (xAsg fN (b1 2))
  (andThen (xOwn a0 3)
  (andThen (xEsc (fV 0) (bT [("pos", 4), ("ch", 5)]) (andThen (xIte (bC eqV (fV 5) (fS "\"")) (andThen (xIte (bC isNV (fV 2) fN) (andThen (xAsg (fV 4) (b1 2))
  xNil) (andThen (xIte (bC neV (fV 1) (fV 2)) (andThen (xApp 3 (fSs (fV 0) (pS (fV 1)) (pS (fV 2))))
  xNil) xNil)
  (andThen (xAsg (f2 addV (fV 4) (fI 1)) (b1 1))
  (andThen (xAsg fN (b1 2))
  xNil))))
  xNil) xNil)
  xNil))
  (andThen (xIte (bC ltV (fV 1) (fC lenV (aC (fV 0) a0))) (andThen (xApp 3 (fSs (fV 0) (pS (fV 1)) pN))
  xNil) xNil)
  (xFrz 3 6 (andThen (xRet (fM "str" joinV (fS "") (aC (fV 6) a0)))
  xNil))))))))

noncomputable def ps_strip : List (Str × Nat) := [("addr", 0)]

noncomputable def W_strip : List V → Option V := runF ps_strip F_strip

noncomputable def T_strip : List (Str × Nat) := [("addr", 0), ("start", 1), ("open_pos", 2), ("result", 3), ("pos", 4), ("ch", 5)]

theorem D_strip {G : Gd} {lvl : Nat} (c : Ctx G) {fa : Addr} {fd : FuncData} {gbody : List Stmt} (hG : GenOk G fa fd gbody) (g_esc : GlobAt G.h₀ "_iter_escaped_chars" (.ref fa)) : DenS G (lvl + 2) (topScope 8) T_strip T_strip [3] (topBody 8) F_strip :=
  (DenS.cons (T' := T_strip) (DenX.ite (DenB.cmp P_notinStr DenP.str (DenP.name 0 (by first | kernel_rfl | decide +kernel) (by first | kernel_rfl | decide +kernel) (by first | kernel_rfl | decide +kernel)) rfl) (DenS.cons (T' := T_strip) (DenS.ret (DenP.name 0 (by first | kernel_rfl | decide +kernel) (by first | kernel_rfl | decide +kernel) (by first | kernel_rfl | decide +kernel)))
  DenS.nil) DenS.nil)
  (DenS.cons (T' := T_strip) (DenX.assign DenP.int (DenT.name (i := 1) (by first | kernel_rfl | decide +kernel) (by first | kernel_rfl | decide +kernel) (by first | kernel_rfl | decide +kernel)) (by first | kernel_rfl | decide +kernel) (fun _ _ => rfl) (fun _ _ => rfl) (fun _ _ => rfl))
  (DenS.cons (T' := T_strip) (DenX.assign DenP.none (DenT.name (i := 2) (by first | kernel_rfl | decide +kernel) (by first | kernel_rfl | decide +kernel) (by first | kernel_rfl | decide +kernel)) (by first | kernel_rfl | decide +kernel) (fun _ _ => rfl) (fun _ _ => rfl) (fun _ _ => rfl))
  (DenS.cons (T' := T_strip) (DenX.assignOwn (i := 3) DenAll.nil (by first | kernel_rfl | decide +kernel) (by first | kernel_rfl | decide +kernel) (by first | kernel_rfl | decide +kernel) (by first | kernel_rfl | decide +kernel))
  (DenS.cons (T' := T_strip) (DenX.forEsc hG (DenP.name 0 (by first | kernel_rfl | decide +kernel) (by first | kernel_rfl | decide +kernel) (by first | kernel_rfl | decide +kernel)) g_esc (by first | kernel_rfl | decide +kernel) (by first | kernel_rfl | decide +kernel) (by first | kernel_rfl | decide +kernel) (DenT.tuple (is := [4, 5]) (by first | kernel_rfl | decide +kernel) (by first | kernel_rfl | decide +kernel)) (by first | kernel_rfl | decide +kernel) (DenS.cons (T' := T_strip) (DenX.ite (DenB.cmp P_eq (DenP.name 5 (by first | kernel_rfl | decide +kernel) (by first | kernel_rfl | decide +kernel) (by first | kernel_rfl | decide +kernel)) DenP.str rfl) (DenS.cons (T' := T_strip) (DenX.ite (DenB.cmp P_isN (DenP.name 2 (by first | kernel_rfl | decide +kernel) (by first | kernel_rfl | decide +kernel) (by first | kernel_rfl | decide +kernel)) DenP.none rfl) (DenS.cons (T' := T_strip) (DenX.assign (DenP.name 4 (by first | kernel_rfl | decide +kernel) (by first | kernel_rfl | decide +kernel) (by first | kernel_rfl | decide +kernel)) (DenT.name (i := 2) (by first | kernel_rfl | decide +kernel) (by first | kernel_rfl | decide +kernel) (by first | kernel_rfl | decide +kernel)) (by first | kernel_rfl | decide +kernel) (fun _ _ => rfl) (fun _ _ => rfl) (fun _ _ => rfl))
  DenS.nil) (DenS.cons (T' := T_strip) (DenX.ite (DenB.cmp P_ne (DenP.name 1 (by first | kernel_rfl | decide +kernel) (by first | kernel_rfl | decide +kernel) (by first | kernel_rfl | decide +kernel)) (DenP.name 2 (by first | kernel_rfl | decide +kernel) (by first | kernel_rfl | decide +kernel) (by first | kernel_rfl | decide +kernel)) rfl) (DenS.cons (T' := T_strip) (DenX.append (DenP.sliceS (DenP.name 0 (by first | kernel_rfl | decide +kernel) (by first | kernel_rfl | decide +kernel) (by first | kernel_rfl | decide +kernel)) (DenPart.some (DenP.name 1 (by first | kernel_rfl | decide +kernel) (by first | kernel_rfl | decide +kernel) (by first | kernel_rfl | decide +kernel))) (DenPart.some (DenP.name 2 (by first | kernel_rfl | decide +kernel) (by first | kernel_rfl | decide +kernel) (by first | kernel_rfl | decide +kernel))) (fun _ _ => rfl)) (by first | kernel_rfl | decide +kernel) (by first | kernel_rfl | decide +kernel) (by first | kernel_rfl | decide +kernel) (by first | kernel_rfl | decide +kernel) (by first | kernel_rfl | decide +kernel) (fun _ _ => rfl) (fun _ => rfl) (by first | kernel_rfl | decide +kernel) (by intro env h; cases env; cases h; rfl) (by intro env h; cases env; cases h; rfl))
  DenS.nil) DenS.nil)
  (DenS.cons (T' := T_strip) (DenX.assign (DenP.bin P_add (DenP.name 4 (by first | kernel_rfl | decide +kernel) (by first | kernel_rfl | decide +kernel) (by first | kernel_rfl | decide +kernel)) DenP.int) (DenT.name (i := 1) (by first | kernel_rfl | decide +kernel) (by first | kernel_rfl | decide +kernel) (by first | kernel_rfl | decide +kernel)) (by first | kernel_rfl | decide +kernel) (fun _ _ => rfl) (fun _ _ => rfl) (fun _ _ => rfl))
  (DenS.cons (T' := T_strip) (DenX.assign DenP.none (DenT.name (i := 2) (by first | kernel_rfl | decide +kernel) (by first | kernel_rfl | decide +kernel) (by first | kernel_rfl | decide +kernel)) (by first | kernel_rfl | decide +kernel) (fun _ _ => rfl) (fun _ _ => rfl) (fun _ _ => rfl))
  DenS.nil))))
  DenS.nil) DenS.nil)
  DenS.nil))
  (DenS.cons (T' := T_strip) (DenX.ite (DenB.cmp P_lt (DenP.name 1 (by first | kernel_rfl | decide +kernel) (by first | kernel_rfl | decide +kernel) (by first | kernel_rfl | decide +kernel)) (DenP.callB P_len c.len (DenAll.cons (DenP.name 0 (by first | kernel_rfl | decide +kernel) (by first | kernel_rfl | decide +kernel) (by first | kernel_rfl | decide +kernel)) DenAll.nil rfl) (by first | kernel_rfl | decide +kernel) (by first | kernel_rfl | decide +kernel) (by first | kernel_rfl | decide +kernel)) rfl) (DenS.cons (T' := T_strip) (DenX.append (DenP.sliceS (DenP.name 0 (by first | kernel_rfl | decide +kernel) (by first | kernel_rfl | decide +kernel) (by first | kernel_rfl | decide +kernel)) (DenPart.some (DenP.name 1 (by first | kernel_rfl | decide +kernel) (by first | kernel_rfl | decide +kernel) (by first | kernel_rfl | decide +kernel))) DenPart.none (fun _ _ => rfl)) (by first | kernel_rfl | decide +kernel) (by first | kernel_rfl | decide +kernel) (by first | kernel_rfl | decide +kernel) (by first | kernel_rfl | decide +kernel) (by first | kernel_rfl | decide +kernel) (fun _ _ => rfl) (fun _ => rfl) (by first | kernel_rfl | decide +kernel) (by intro env h; cases env; cases h; rfl) (by intro env h; cases env; cases h; rfl))
  DenS.nil) DenS.nil)
  (DenS.freeze (T1 := [("addr", 0), ("start", 1), ("open_pos", 2), ("result", 6), ("pos", 4), ("ch", 5)]) (x := "result") (i := 3) (j := 6) (DenS.cons (T' := T_strip) (DenS.ret (DenP.meth "str" "str.join" P_join F.plainAttrs_str F.slot_str_join (by rfl) DenP.str (DenAll.cons (DenP.name 6 (by first | kernel_rfl | decide +kernel) (by first | kernel_rfl | decide +kernel) (by first | kernel_rfl | decide +kernel)) DenAll.nil rfl) (by first | kernel_rfl | decide +kernel) (fun _ _ => rfl) (fun _ => rfl) (by first | kernel_rfl | decide +kernel)))
  DenS.nil) (by first | kernel_rfl | decide +kernel) (by first | kernel_rfl | decide +kernel) (by first | kernel_rfl | decide +kernel))))))))
end Mine
end

section
namespace Mine
open PySem PySem.Calls PyProof.Rows
open PySem.W
set_option maxRecDepth 100000
set_option maxHeartbeats 4000000
noncomputable def F_read : RX :=
  (andThen (xAsg (fC W_strip (aC (fV 0) a0)) (b1 1))
  (andThen (xAsg (fList a0) (b1 2))
  (andThen (xFor (lRange (fI 3)) (b1 3) (andThen (xAsg (fC W_dec (aC (fV 1) a0)) (b1 4))
  (andThen (xIte (bNot (bV (fIsi "list" (fV 4)))) (andThen (xRet (fIte (bC eqV (fV 4) (fTup (aC fN (aC fN (aC (fV 1) a0))))) (f2 addV (fV 2) (fM "str" splitV (fV 1) (aC (fS "'") a0))) fN))
  xNil) xNil)
  (andThen (xAsg (f2 addV (fV 2) (fSl (fV 4) pN (pS (fI 2)))) (b1 2))
  (andThen (xAsg (f2 itemV (fV 4) (fI 2)) (b1 1))
  xNil)))))
  (andThen (xRet fN)
  xNil))))

noncomputable def ps_read : List (Str × Nat) := [("text", 0)]

noncomputable def W_read : List V → Option V := runF ps_read F_read

noncomputable def T_read : List (Str × Nat) := [("text", 0), ("rest", 1), ("names", 2), ("lap", 3), ("told", 4)]

theorem D_read {G : Gd} {lvl : Nat} (c : Ctx G) {a_strip : Addr} (g_strip : GlobAt G.h₀ "_strip_quoted_realnames" (.ref a_strip)) (f_strip : FnAt G.h₀ a_strip) (p_strip : Prim G lvl (fun vs => call (.ref a_strip) vs) W_strip) {a_dec : Addr} (g_dec : GlobAt G.h₀ "decode_rfc2231" (.ref a_dec)) (f_dec : FnAt G.h₀ a_dec) (p_dec : Prim G lvl (fun vs => call (.ref a_dec) vs) W_dec) : DenS G lvl (topScope 13) T_read T_read [] (topBody 13) F_read :=
  (DenS.cons (T' := T_read) (DenX.assign (DenP.callF p_strip g_strip f_strip (DenAll.cons (DenP.name 0 (by first | kernel_rfl | decide +kernel) (by first | kernel_rfl | decide +kernel) (by first | kernel_rfl | decide +kernel)) DenAll.nil rfl) (by first | kernel_rfl | decide +kernel) (by first | kernel_rfl | decide +kernel) (by first | kernel_rfl | decide +kernel)) (DenT.name (i := 1) (by first | kernel_rfl | decide +kernel) (by first | kernel_rfl | decide +kernel) (by first | kernel_rfl | decide +kernel)) (by first | kernel_rfl | decide +kernel) (fun _ _ => rfl) (fun _ _ => rfl) (fun _ _ => rfl))
  (DenS.cons (T' := T_read) (DenX.assign (DenP.list DenAll.nil (by first | kernel_rfl | decide +kernel)) (DenT.name (i := 2) (by first | kernel_rfl | decide +kernel) (by first | kernel_rfl | decide +kernel) (by first | kernel_rfl | decide +kernel)) (by first | kernel_rfl | decide +kernel) (fun _ _ => rfl) (fun _ _ => rfl) (fun _ _ => rfl))
  (DenS.cons (T' := T_read) (DenX.for_ (fun _ _ => rfl) (DenI.range true DenP.int c.range (by first | kernel_rfl | decide +kernel) (by first | kernel_rfl | decide +kernel)) (DenT.name (i := 3) (by first | kernel_rfl | decide +kernel) (by first | kernel_rfl | decide +kernel) (by first | kernel_rfl | decide +kernel)) (by first | kernel_rfl | decide +kernel) (DenS.cons (T' := T_read) (DenX.assign (DenP.callF p_dec g_dec f_dec (DenAll.cons (DenP.name 1 (by first | kernel_rfl | decide +kernel) (by first | kernel_rfl | decide +kernel) (by first | kernel_rfl | decide +kernel)) DenAll.nil rfl) (by first | kernel_rfl | decide +kernel) (by first | kernel_rfl | decide +kernel) (by first | kernel_rfl | decide +kernel)) (DenT.name (i := 4) (by first | kernel_rfl | decide +kernel) (by first | kernel_rfl | decide +kernel) (by first | kernel_rfl | decide +kernel)) (by first | kernel_rfl | decide +kernel) (fun _ _ => rfl) (fun _ _ => rfl) (fun _ _ => rfl))
  (DenS.cons (T' := T_read) (DenX.ite (DenB.not (DenB.val (DenP.isi (DenP.name 4 (by first | kernel_rfl | decide +kernel) (by first | kernel_rfl | decide +kernel) (by first | kernel_rfl | decide +kernel)) c.isinstance c.list (by first | kernel_rfl | decide +kernel) (by first | kernel_rfl | decide +kernel) (by first | kernel_rfl | decide +kernel) (by first | kernel_rfl | decide +kernel)) (fun _ _ => rfl))) (DenS.cons (T' := T_read) (DenS.ret (DenP.ite (DenB.cmp P_eq (DenP.name 4 (by first | kernel_rfl | decide +kernel) (by first | kernel_rfl | decide +kernel) (by first | kernel_rfl | decide +kernel)) (DenP.tuple (DenAll.cons DenP.none (DenAll.cons DenP.none (DenAll.cons (DenP.name 1 (by first | kernel_rfl | decide +kernel) (by first | kernel_rfl | decide +kernel) (by first | kernel_rfl | decide +kernel)) DenAll.nil rfl) rfl) rfl) (by first | kernel_rfl | decide +kernel)) rfl) (DenP.bin P_add (DenP.name 2 (by first | kernel_rfl | decide +kernel) (by first | kernel_rfl | decide +kernel) (by first | kernel_rfl | decide +kernel)) (DenP.meth "str" "str.split" P_split F.plainAttrs_str F.slot_str_split (by rfl) (DenP.name 1 (by first | kernel_rfl | decide +kernel) (by first | kernel_rfl | decide +kernel) (by first | kernel_rfl | decide +kernel)) (DenAll.cons DenP.str DenAll.nil rfl) (by first | kernel_rfl | decide +kernel) (fun _ _ => rfl) (fun _ => rfl) (by first | kernel_rfl | decide +kernel))) DenP.none))
  DenS.nil) DenS.nil)
  (DenS.cons (T' := T_read) (DenX.assign (DenP.bin P_add (DenP.name 2 (by first | kernel_rfl | decide +kernel) (by first | kernel_rfl | decide +kernel) (by first | kernel_rfl | decide +kernel)) (DenP.sliceL (DenP.name 4 (by first | kernel_rfl | decide +kernel) (by first | kernel_rfl | decide +kernel) (by first | kernel_rfl | decide +kernel)) DenPart.none (DenPart.some DenP.int) (fun _ _ => rfl))) (DenT.name (i := 2) (by first | kernel_rfl | decide +kernel) (by first | kernel_rfl | decide +kernel) (by first | kernel_rfl | decide +kernel)) (by first | kernel_rfl | decide +kernel) (fun _ _ => rfl) (fun _ _ => rfl) (fun _ _ => rfl))
  (DenS.cons (T' := T_read) (DenX.assign (DenP.item (DenP.name 4 (by first | kernel_rfl | decide +kernel) (by first | kernel_rfl | decide +kernel) (by first | kernel_rfl | decide +kernel)) DenP.int rfl) (DenT.name (i := 1) (by first | kernel_rfl | decide +kernel) (by first | kernel_rfl | decide +kernel) (by first | kernel_rfl | decide +kernel)) (by first | kernel_rfl | decide +kernel) (fun _ _ => rfl) (fun _ _ => rfl) (fun _ _ => rfl))
  DenS.nil)))))
  (DenS.cons (T' := T_read) (DenS.ret DenP.none)
  DenS.nil))))
end Mine
end

section
namespace Mine
open PySem PySem.Calls PyProof.Rows
open PySem.W
set_option maxRecDepth 100000
set_option maxHeartbeats 4000000
noncomputable def F_law : RX :=
  (andThen (xAsg (fC W_cells (aC (fV 0) a0)) (b1 1))
  (andThen (xAsg (fC sumV (aC (fV 1) a0)) (b1 2))
  (andThen (xAsg (fComp (lRange (f2 addV (fI 3) (f2 modV (fV 2) (fI 4)))) (b1 17) tT (f2 modV (f2 addV (f2 fdivV (fV 2) (fI 4)) (f2 mulV (fI 5) (fV 17))) (fI 12))) (b1 3))
  (andThen (xAsc (fComp2 (lRange (fI 3)) (b1 18) (lRange (fI 3)) (b1 19) (fTup (aC (fV 18) (aC (fV 19) (aC (f2 modV (f2 addV (f2 addV (f2 mulV (f2 addV (fI 1) (f2 modV (f2 fdivV (fV 2) (fI 48)) (fI 2))) (fV 18)) (f2 mulV (f2 addV (fI 1) (f2 modV (f2 fdivV (fV 2) (fI 96)) (fI 2))) (fV 19))) (f2 fdivV (fV 2) (fI 192))) (fI 3)) (aC (f2 fdivV (fV 19) (fI 2)) a0)))))) 4)
  (andThen (xAsc (fComp (lOf (fSl (fV 1) pN (pS (fI 9)))) (b1 20) tT (fC W_place (aC (fV 20) (aC (fV 3) a0)))) 5)
  (andThen (xAsc (fComp (lOf (fV 5)) (bT [("hues", 21), ("names", 22), ("text", 23)]) tT (fC W_read (aC (fV 23) a0))) 6)
  (andThen (xIte (bC neV (fV 6) (fComp (lOf (fV 5)) (bT [("hues", 24), ("names", 25), ("text", 26)]) tT (fV 25))) (andThen (xRet (fT false))
  xNil) xNil)
  (andThen (xAsc (fComp (lOf (fV 6)) (b1 27) tT (fComp (lOf (fV 27)) (b1 28) (bC neV (fV 28) (fS "")) (fC W_hue (aC (fV 28) a0)))) 7)
  (andThen (xAsg (fComp (lOf (fV 7)) (b1 29) tT (fComp (lOf (fV 29)) (bT [("code", 30), ("sure", 31)]) tT (fV 30))) (b1 8))
  (andThen (xAsg (f2 subV (fI 1) (f2 mulV (fI 2) (f2 modV (f2 fdivV (fV 2) (fI 576)) (fI 2)))) (b1 9))
  (andThen (xAsg (fC W_order (aC (fV 4) (aC (fList (aC (fTup (aC (fI 2) (aC (f1 negV (fI 1)) a0))) a0)) a0))) (bT [("by_lines", 10), ("first_sure", 11)]))
  (andThen (xAsg (fC W_order (aC (fV 4) (aC (fList (aC (fTup (aC (fI 3) (aC (fV 9) a0))) (aC (fTup (aC (fI 1) (aC (f1 negV (fV 9)) a0))) (aC (fTup (aC (fI 2) (aC (fI 1) a0))) a0)))) a0))) (bT [("by_columns", 12), ("second_sure", 13)]))
  (andThen (xAsg (fList a0) (b1 14))
  (andThen (xFor (lOf (fV 3)) (b1 15) (andThen (xAsc (fComp (lRange (fI 9)) (b1 32) (bAnd (bIn inI (f2 mulV (fI 1000) (fV 15)) (lOf (f2 itemV (fV 8) (fV 32)))) (bIn notIn (fV 32) (lOf (fComp (lOf (fV 14)) (bT [("other", 33), ("paint", 34)]) tT (fV 33))))) (fV 32)) 16)
  (andThen (xAsg (f2 addV (fV 14) (fComp (lOf (fC W_chosen (aC (fV 16) (aC (fV 10) (aC (fV 12) a0))))) (b1 35) tT (fTup (aC (fV 35) (aC (fV 15) a0))))) (b1 14))
  xNil)))
  (andThen (xIte (bC neV (fC sortedV (aC (fComp (lOf (fV 14)) (bT [("one", 36), ("hue", 37)]) tT (fV 36)) a0)) (fRange (fI 9))) (andThen (xRet (fT false))
  xNil) xNil)
  (andThen (xRet (fB (aAnd (fV 11) (aAnd (fV 13) (bV (f2 eqV (fV 7) (fComp (lOf (fV 5)) (bT [("hues", 38), ("names", 39), ("text", 40)]) tT (fComp (lOf (fV 38)) (b1 41) tT (fTup (aC (f2 mulV (fI 1000) (fV 41)) (aC (fT true) a0)))))))))))
  xNil))))))))))))))))

noncomputable def ps_law : List (Str × Nat) := [("script", 0)]

noncomputable def W_law : List V → Option V := runF ps_law F_law

noncomputable def T_law : List (Str × Nat) := [("script", 0), ("cells", 1), ("draw", 2), ("palette", 3), ("items", 4), ("places", 5), ("read", 6), ("told", 7), ("offers", 8), ("way", 9), ("by_lines", 10), ("first_sure", 11), ("by_columns", 12), ("second_sure", 13), ("painted", 14), ("hue", 15), ("free", 16)]

theorem D_law {G : Gd} {lvl : Nat} (c : Ctx G) {a_cells : Addr} (g_cells : GlobAt G.h₀ "_law_cells" (.ref a_cells)) (f_cells : FnAt G.h₀ a_cells) (p_cells : Prim G lvl (fun vs => call (.ref a_cells) vs) W_cells) {a_place : Addr} (g_place : GlobAt G.h₀ "_law_place" (.ref a_place)) (f_place : FnAt G.h₀ a_place) (p_place : Prim G lvl (fun vs => call (.ref a_place) vs) W_place) {a_read : Addr} (g_read : GlobAt G.h₀ "_law_read" (.ref a_read)) (f_read : FnAt G.h₀ a_read) (p_read : Prim G lvl (fun vs => call (.ref a_read) vs) W_read) {a_hue : Addr} (g_hue : GlobAt G.h₀ "_law_hue" (.ref a_hue)) (f_hue : FnAt G.h₀ a_hue) (p_hue : Prim G lvl (fun vs => call (.ref a_hue) vs) W_hue) {a_order : Addr} (g_order : GlobAt G.h₀ "_law_order" (.ref a_order)) (f_order : FnAt G.h₀ a_order) (p_order : Prim G lvl (fun vs => call (.ref a_order) vs) W_order) {a_chosen : Addr} (g_chosen : GlobAt G.h₀ "_law_chosen" (.ref a_chosen)) (f_chosen : FnAt G.h₀ a_chosen) (p_chosen : Prim G lvl (fun vs => call (.ref a_chosen) vs) W_chosen) : DenS G lvl (topScope 17) T_law T_law [] (topBody 17) F_law :=
  (DenS.cons (T' := T_law) (DenX.assign (DenP.callF p_cells g_cells f_cells (DenAll.cons (DenP.name 0 (by first | kernel_rfl | decide +kernel) (by first | kernel_rfl | decide +kernel) (by first | kernel_rfl | decide +kernel)) DenAll.nil rfl) (by first | kernel_rfl | decide +kernel) (by first | kernel_rfl | decide +kernel) (by first | kernel_rfl | decide +kernel)) (DenT.name (i := 1) (by first | kernel_rfl | decide +kernel) (by first | kernel_rfl | decide +kernel) (by first | kernel_rfl | decide +kernel)) (by first | kernel_rfl | decide +kernel) (fun _ _ => rfl) (fun _ _ => rfl) (fun _ _ => rfl))
  (DenS.cons (T' := T_law) (DenX.assign (DenP.callB P_sum c.sum (DenAll.cons (DenP.name 1 (by first | kernel_rfl | decide +kernel) (by first | kernel_rfl | decide +kernel) (by first | kernel_rfl | decide +kernel)) DenAll.nil rfl) (by first | kernel_rfl | decide +kernel) (by first | kernel_rfl | decide +kernel) (by first | kernel_rfl | decide +kernel)) (DenT.name (i := 2) (by first | kernel_rfl | decide +kernel) (by first | kernel_rfl | decide +kernel) (by first | kernel_rfl | decide +kernel)) (by first | kernel_rfl | decide +kernel) (fun _ _ => rfl) (fun _ _ => rfl) (fun _ _ => rfl))
  (DenS.cons (T' := T_law) (DenX.assign (DenP.comp [("draw", 2)] [("step", 17), ("draw", 2)] (fun _ _ => rfl) (by first | kernel_rfl | decide +kernel) (by first | kernel_rfl | decide +kernel) (by first | kernel_rfl | decide +kernel) (DenI.range false (DenP.bin P_add DenP.int (DenP.bin P_mod (DenP.name 2 (by first | kernel_rfl | decide +kernel) (by first | kernel_rfl | decide +kernel) (by first | kernel_rfl | decide +kernel)) DenP.int)) c.range (by first | kernel_rfl | decide +kernel) (by first | kernel_rfl | decide +kernel)) (DenT.name (i := 17) (by first | kernel_rfl | decide +kernel) (by first | kernel_rfl | decide +kernel) (by first | kernel_rfl | decide +kernel)) DenC.nil (DenP.bin P_mod (DenP.bin P_add (DenP.bin P_fdiv (DenP.name 2 (by first | kernel_rfl | decide +kernel) (by first | kernel_rfl | decide +kernel) (by first | kernel_rfl | decide +kernel)) DenP.int) (DenP.bin P_mul DenP.int (DenP.name 17 (by first | kernel_rfl | decide +kernel) (by first | kernel_rfl | decide +kernel) (by first | kernel_rfl | decide +kernel)))) DenP.int)) (DenT.name (i := 3) (by first | kernel_rfl | decide +kernel) (by first | kernel_rfl | decide +kernel) (by first | kernel_rfl | decide +kernel)) (by first | kernel_rfl | decide +kernel) (by intro env h; cases env; cases h; rfl) (fun _ _ => rfl) (fun _ _ => rfl))
  (DenS.cons (T' := T_law) (DenX.assignComp2 (i := 4) [("draw", 2)] [("line", 18), ("draw", 2)] [("column", 19), ("line", 18), ("draw", 2)] (fun _ _ => rfl) (fun _ _ => rfl) (by first | kernel_rfl | decide +kernel) (by first | kernel_rfl | decide +kernel) (by first | kernel_rfl | decide +kernel) (DenI.range false DenP.int c.range (by first | kernel_rfl | decide +kernel) (by first | kernel_rfl | decide +kernel)) (DenT.name (i := 18) (by first | kernel_rfl | decide +kernel) (by first | kernel_rfl | decide +kernel) (by first | kernel_rfl | decide +kernel)) (DenI.range true DenP.int c.range (by first | kernel_rfl | decide +kernel) (by first | kernel_rfl | decide +kernel)) (DenT.name (i := 19) (by first | kernel_rfl | decide +kernel) (by first | kernel_rfl | decide +kernel) (by first | kernel_rfl | decide +kernel)) (DenP.tuple (DenAll.cons (DenP.name 18 (by first | kernel_rfl | decide +kernel) (by first | kernel_rfl | decide +kernel) (by first | kernel_rfl | decide +kernel)) (DenAll.cons (DenP.name 19 (by first | kernel_rfl | decide +kernel) (by first | kernel_rfl | decide +kernel) (by first | kernel_rfl | decide +kernel)) (DenAll.cons (DenP.bin P_mod (DenP.bin P_add (DenP.bin P_add (DenP.bin P_mul (DenP.bin P_add DenP.int (DenP.bin P_mod (DenP.bin P_fdiv (DenP.name 2 (by first | kernel_rfl | decide +kernel) (by first | kernel_rfl | decide +kernel) (by first | kernel_rfl | decide +kernel)) DenP.int) DenP.int)) (DenP.name 18 (by first | kernel_rfl | decide +kernel) (by first | kernel_rfl | decide +kernel) (by first | kernel_rfl | decide +kernel))) (DenP.bin P_mul (DenP.bin P_add DenP.int (DenP.bin P_mod (DenP.bin P_fdiv (DenP.name 2 (by first | kernel_rfl | decide +kernel) (by first | kernel_rfl | decide +kernel) (by first | kernel_rfl | decide +kernel)) DenP.int) DenP.int)) (DenP.name 19 (by first | kernel_rfl | decide +kernel) (by first | kernel_rfl | decide +kernel) (by first | kernel_rfl | decide +kernel)))) (DenP.bin P_fdiv (DenP.name 2 (by first | kernel_rfl | decide +kernel) (by first | kernel_rfl | decide +kernel) (by first | kernel_rfl | decide +kernel)) DenP.int)) DenP.int) (DenAll.cons (DenP.bin P_fdiv (DenP.name 19 (by first | kernel_rfl | decide +kernel) (by first | kernel_rfl | decide +kernel) (by first | kernel_rfl | decide +kernel)) DenP.int) DenAll.nil rfl) rfl) rfl) rfl) (by first | kernel_rfl | decide +kernel)) (fun ρ d ρ1 h y j hm => by cases h; simp only [List.mem_cons, List.not_mem_nil, or_false, Prod.mk.injEq] at hm; rcases hm with ⟨rfl, rfl⟩ | ⟨rfl, rfl⟩ <;> exact ⟨by first | kernel_rfl | decide +kernel, (get_put_ne _ _ (by decide)).symm⟩) (by first | kernel_rfl | decide +kernel) (by first | kernel_rfl | decide +kernel) (by first | kernel_rfl | decide +kernel) (by first | kernel_rfl | decide +kernel) (by intro env h; cases env; cases h; rfl))
  (DenS.cons (T' := T_law) (DenX.assignComp (i := 5) [("palette", 3)] [("number", 20), ("palette", 3)] (fun _ _ => rfl) (by first | kernel_rfl | decide +kernel) (by first | kernel_rfl | decide +kernel) (by first | kernel_rfl | decide +kernel) (DenI.list false (DenP.sliceL (DenP.name 1 (by first | kernel_rfl | decide +kernel) (by first | kernel_rfl | decide +kernel) (by first | kernel_rfl | decide +kernel)) DenPart.none (DenPart.some DenP.int) (fun _ _ => rfl))) (DenT.name (i := 20) (by first | kernel_rfl | decide +kernel) (by first | kernel_rfl | decide +kernel) (by first | kernel_rfl | decide +kernel)) DenC.nil (DenP.callF p_place g_place f_place (DenAll.cons (DenP.name 20 (by first | kernel_rfl | decide +kernel) (by first | kernel_rfl | decide +kernel) (by first | kernel_rfl | decide +kernel)) (DenAll.cons (DenP.name 3 (by first | kernel_rfl | decide +kernel) (by first | kernel_rfl | decide +kernel) (by first | kernel_rfl | decide +kernel)) DenAll.nil rfl) rfl) (by first | kernel_rfl | decide +kernel) (by first | kernel_rfl | decide +kernel) (by first | kernel_rfl | decide +kernel)) (by first | kernel_rfl | decide +kernel) (by first | kernel_rfl | decide +kernel) (by first | kernel_rfl | decide +kernel) (by first | kernel_rfl | decide +kernel) (by intro env h; cases env; cases h; rfl))
  (DenS.cons (T' := T_law) (DenX.assignComp (i := 6) [] [("hues", 21), ("names", 22), ("text", 23)] (fun _ _ => rfl) (by first | kernel_rfl | decide +kernel) (by first | kernel_rfl | decide +kernel) (by first | kernel_rfl | decide +kernel) (DenI.list false (DenP.name 5 (by first | kernel_rfl | decide +kernel) (by first | kernel_rfl | decide +kernel) (by first | kernel_rfl | decide +kernel))) (DenT.tuple (is := [21, 22, 23]) (by first | kernel_rfl | decide +kernel) (by first | kernel_rfl | decide +kernel)) DenC.nil (DenP.callF p_read g_read f_read (DenAll.cons (DenP.name 23 (by first | kernel_rfl | decide +kernel) (by first | kernel_rfl | decide +kernel) (by first | kernel_rfl | decide +kernel)) DenAll.nil rfl) (by first | kernel_rfl | decide +kernel) (by first | kernel_rfl | decide +kernel) (by first | kernel_rfl | decide +kernel)) (by first | kernel_rfl | decide +kernel) (by first | kernel_rfl | decide +kernel) (by first | kernel_rfl | decide +kernel) (by first | kernel_rfl | decide +kernel) (by intro env h; cases env; cases h; rfl))
  (DenS.cons (T' := T_law) (DenX.ite (DenB.cmp P_ne (DenP.name 6 (by first | kernel_rfl | decide +kernel) (by first | kernel_rfl | decide +kernel) (by first | kernel_rfl | decide +kernel)) (DenP.comp [] [("hues", 24), ("names", 25), ("text", 26)] (fun _ _ => rfl) (by first | kernel_rfl | decide +kernel) (by first | kernel_rfl | decide +kernel) (by first | kernel_rfl | decide +kernel) (DenI.list false (DenP.name 5 (by first | kernel_rfl | decide +kernel) (by first | kernel_rfl | decide +kernel) (by first | kernel_rfl | decide +kernel))) (DenT.tuple (is := [24, 25, 26]) (by first | kernel_rfl | decide +kernel) (by first | kernel_rfl | decide +kernel)) DenC.nil (DenP.name 25 (by first | kernel_rfl | decide +kernel) (by first | kernel_rfl | decide +kernel) (by first | kernel_rfl | decide +kernel))) rfl) (DenS.cons (T' := T_law) (DenS.ret DenP.bool)
  DenS.nil) DenS.nil)
  (DenS.cons (T' := T_law) (DenX.assignComp (i := 7) [] [("names", 27)] (fun _ _ => rfl) (by first | kernel_rfl | decide +kernel) (by first | kernel_rfl | decide +kernel) (by first | kernel_rfl | decide +kernel) (DenI.list false (DenP.name 6 (by first | kernel_rfl | decide +kernel) (by first | kernel_rfl | decide +kernel) (by first | kernel_rfl | decide +kernel))) (DenT.name (i := 27) (by first | kernel_rfl | decide +kernel) (by first | kernel_rfl | decide +kernel) (by first | kernel_rfl | decide +kernel)) DenC.nil (DenP.comp [] [("name", 28)] (fun _ _ => rfl) (by first | kernel_rfl | decide +kernel) (by first | kernel_rfl | decide +kernel) (by first | kernel_rfl | decide +kernel) (DenI.list false (DenP.name 27 (by first | kernel_rfl | decide +kernel) (by first | kernel_rfl | decide +kernel) (by first | kernel_rfl | decide +kernel))) (DenT.name (i := 28) (by first | kernel_rfl | decide +kernel) (by first | kernel_rfl | decide +kernel) (by first | kernel_rfl | decide +kernel)) (DenC.one (DenB.cmp P_ne (DenP.name 28 (by first | kernel_rfl | decide +kernel) (by first | kernel_rfl | decide +kernel) (by first | kernel_rfl | decide +kernel)) DenP.str rfl)) (DenP.callF p_hue g_hue f_hue (DenAll.cons (DenP.name 28 (by first | kernel_rfl | decide +kernel) (by first | kernel_rfl | decide +kernel) (by first | kernel_rfl | decide +kernel)) DenAll.nil rfl) (by first | kernel_rfl | decide +kernel) (by first | kernel_rfl | decide +kernel) (by first | kernel_rfl | decide +kernel))) (by first | kernel_rfl | decide +kernel) (by first | kernel_rfl | decide +kernel) (by first | kernel_rfl | decide +kernel) (by first | kernel_rfl | decide +kernel) (by intro env h; cases env; cases h; rfl))
  (DenS.cons (T' := T_law) (DenX.assign (DenP.comp [] [("row", 29)] (fun _ _ => rfl) (by first | kernel_rfl | decide +kernel) (by first | kernel_rfl | decide +kernel) (by first | kernel_rfl | decide +kernel) (DenI.list false (DenP.name 7 (by first | kernel_rfl | decide +kernel) (by first | kernel_rfl | decide +kernel) (by first | kernel_rfl | decide +kernel))) (DenT.name (i := 29) (by first | kernel_rfl | decide +kernel) (by first | kernel_rfl | decide +kernel) (by first | kernel_rfl | decide +kernel)) DenC.nil (DenP.comp [] [("code", 30), ("sure", 31)] (fun _ _ => rfl) (by first | kernel_rfl | decide +kernel) (by first | kernel_rfl | decide +kernel) (by first | kernel_rfl | decide +kernel) (DenI.list false (DenP.name 29 (by first | kernel_rfl | decide +kernel) (by first | kernel_rfl | decide +kernel) (by first | kernel_rfl | decide +kernel))) (DenT.tuple (is := [30, 31]) (by first | kernel_rfl | decide +kernel) (by first | kernel_rfl | decide +kernel)) DenC.nil (DenP.name 30 (by first | kernel_rfl | decide +kernel) (by first | kernel_rfl | decide +kernel) (by first | kernel_rfl | decide +kernel)))) (DenT.name (i := 8) (by first | kernel_rfl | decide +kernel) (by first | kernel_rfl | decide +kernel) (by first | kernel_rfl | decide +kernel)) (by first | kernel_rfl | decide +kernel) (by intro env h; cases env; cases h; rfl) (fun _ _ => rfl) (fun _ _ => rfl))
  (DenS.cons (T' := T_law) (DenX.assign (DenP.bin P_sub DenP.int (DenP.bin P_mul DenP.int (DenP.bin P_mod (DenP.bin P_fdiv (DenP.name 2 (by first | kernel_rfl | decide +kernel) (by first | kernel_rfl | decide +kernel) (by first | kernel_rfl | decide +kernel)) DenP.int) DenP.int))) (DenT.name (i := 9) (by first | kernel_rfl | decide +kernel) (by first | kernel_rfl | decide +kernel) (by first | kernel_rfl | decide +kernel)) (by first | kernel_rfl | decide +kernel) (fun _ _ => rfl) (fun _ _ => rfl) (fun _ _ => rfl))
  (DenS.cons (T' := T_law) (DenX.assign (DenP.callF p_order g_order f_order (DenAll.cons (DenP.name 4 (by first | kernel_rfl | decide +kernel) (by first | kernel_rfl | decide +kernel) (by first | kernel_rfl | decide +kernel)) (DenAll.cons (DenP.list (DenAll.cons (DenP.tuple (DenAll.cons DenP.int (DenAll.cons (DenP.un P_neg DenP.int) DenAll.nil rfl) rfl) (by first | kernel_rfl | decide +kernel)) DenAll.nil rfl) (by first | kernel_rfl | decide +kernel)) DenAll.nil rfl) rfl) (by first | kernel_rfl | decide +kernel) (by first | kernel_rfl | decide +kernel) (by first | kernel_rfl | decide +kernel)) (DenT.tuple (is := [10, 11]) (by first | kernel_rfl | decide +kernel) (by first | kernel_rfl | decide +kernel)) (by first | kernel_rfl | decide +kernel) (fun _ _ => rfl) (fun _ _ => rfl) (fun _ _ => rfl))
  (DenS.cons (T' := T_law) (DenX.assign (DenP.callF p_order g_order f_order (DenAll.cons (DenP.name 4 (by first | kernel_rfl | decide +kernel) (by first | kernel_rfl | decide +kernel) (by first | kernel_rfl | decide +kernel)) (DenAll.cons (DenP.list (DenAll.cons (DenP.tuple (DenAll.cons DenP.int (DenAll.cons (DenP.name 9 (by first | kernel_rfl | decide +kernel) (by first | kernel_rfl | decide +kernel) (by first | kernel_rfl | decide +kernel)) DenAll.nil rfl) rfl) (by first | kernel_rfl | decide +kernel)) (DenAll.cons (DenP.tuple (DenAll.cons DenP.int (DenAll.cons (DenP.un P_neg (DenP.name 9 (by first | kernel_rfl | decide +kernel) (by first | kernel_rfl | decide +kernel) (by first | kernel_rfl | decide +kernel))) DenAll.nil rfl) rfl) (by first | kernel_rfl | decide +kernel)) (DenAll.cons (DenP.tuple (DenAll.cons DenP.int (DenAll.cons DenP.int DenAll.nil rfl) rfl) (by first | kernel_rfl | decide +kernel)) DenAll.nil rfl) rfl) rfl) (by first | kernel_rfl | decide +kernel)) DenAll.nil rfl) rfl) (by first | kernel_rfl | decide +kernel) (by first | kernel_rfl | decide +kernel) (by first | kernel_rfl | decide +kernel)) (DenT.tuple (is := [12, 13]) (by first | kernel_rfl | decide +kernel) (by first | kernel_rfl | decide +kernel)) (by first | kernel_rfl | decide +kernel) (fun _ _ => rfl) (fun _ _ => rfl) (fun _ _ => rfl))
  (DenS.cons (T' := T_law) (DenX.assign (DenP.list DenAll.nil (by first | kernel_rfl | decide +kernel)) (DenT.name (i := 14) (by first | kernel_rfl | decide +kernel) (by first | kernel_rfl | decide +kernel) (by first | kernel_rfl | decide +kernel)) (by first | kernel_rfl | decide +kernel) (fun _ _ => rfl) (fun _ _ => rfl) (fun _ _ => rfl))
  (DenS.cons (T' := T_law) (DenX.for_ (fun _ _ => rfl) (DenI.list true (DenP.name 3 (by first | kernel_rfl | decide +kernel) (by first | kernel_rfl | decide +kernel) (by first | kernel_rfl | decide +kernel))) (DenT.name (i := 15) (by first | kernel_rfl | decide +kernel) (by first | kernel_rfl | decide +kernel) (by first | kernel_rfl | decide +kernel)) (by first | kernel_rfl | decide +kernel) (DenS.cons (T' := T_law) (DenX.assignComp (i := 16) [("offers", 8), ("painted", 14), ("hue", 15)] [("one", 32), ("offers", 8), ("painted", 14), ("hue", 15)] (fun _ _ => rfl) (by first | kernel_rfl | decide +kernel) (by first | kernel_rfl | decide +kernel) (by first | kernel_rfl | decide +kernel) (DenI.range false DenP.int c.range (by first | kernel_rfl | decide +kernel) (by first | kernel_rfl | decide +kernel)) (DenT.name (i := 32) (by first | kernel_rfl | decide +kernel) (by first | kernel_rfl | decide +kernel) (by first | kernel_rfl | decide +kernel)) (DenC.one (DenB.and2 (DenB.inL P_in (DenP.bin P_mul DenP.int (DenP.name 15 (by first | kernel_rfl | decide +kernel) (by first | kernel_rfl | decide +kernel) (by first | kernel_rfl | decide +kernel))) (DenL.of (DenP.item (DenP.name 8 (by first | kernel_rfl | decide +kernel) (by first | kernel_rfl | decide +kernel) (by first | kernel_rfl | decide +kernel)) (DenP.name 32 (by first | kernel_rfl | decide +kernel) (by first | kernel_rfl | decide +kernel) (by first | kernel_rfl | decide +kernel)) rfl)) rfl) (DenB.inL P_notin (DenP.name 32 (by first | kernel_rfl | decide +kernel) (by first | kernel_rfl | decide +kernel) (by first | kernel_rfl | decide +kernel)) (DenL.of (DenP.comp [] [("other", 33), ("paint", 34)] (fun _ _ => rfl) (by first | kernel_rfl | decide +kernel) (by first | kernel_rfl | decide +kernel) (by first | kernel_rfl | decide +kernel) (DenI.list false (DenP.name 14 (by first | kernel_rfl | decide +kernel) (by first | kernel_rfl | decide +kernel) (by first | kernel_rfl | decide +kernel))) (DenT.tuple (is := [33, 34]) (by first | kernel_rfl | decide +kernel) (by first | kernel_rfl | decide +kernel)) DenC.nil (DenP.name 33 (by first | kernel_rfl | decide +kernel) (by first | kernel_rfl | decide +kernel) (by first | kernel_rfl | decide +kernel)))) rfl))) (DenP.name 32 (by first | kernel_rfl | decide +kernel) (by first | kernel_rfl | decide +kernel) (by first | kernel_rfl | decide +kernel)) (by first | kernel_rfl | decide +kernel) (by first | kernel_rfl | decide +kernel) (by first | kernel_rfl | decide +kernel) (by first | kernel_rfl | decide +kernel) (by intro env h; cases env; cases h; rfl))
  (DenS.cons (T' := T_law) (DenX.assign (DenP.bin P_add (DenP.name 14 (by first | kernel_rfl | decide +kernel) (by first | kernel_rfl | decide +kernel) (by first | kernel_rfl | decide +kernel)) (DenP.comp [("hue", 15)] [("one", 35), ("hue", 15)] (fun _ _ => rfl) (by first | kernel_rfl | decide +kernel) (by first | kernel_rfl | decide +kernel) (by first | kernel_rfl | decide +kernel) (DenI.list false (DenP.callF p_chosen g_chosen f_chosen (DenAll.cons (DenP.name 16 (by first | kernel_rfl | decide +kernel) (by first | kernel_rfl | decide +kernel) (by first | kernel_rfl | decide +kernel)) (DenAll.cons (DenP.name 10 (by first | kernel_rfl | decide +kernel) (by first | kernel_rfl | decide +kernel) (by first | kernel_rfl | decide +kernel)) (DenAll.cons (DenP.name 12 (by first | kernel_rfl | decide +kernel) (by first | kernel_rfl | decide +kernel) (by first | kernel_rfl | decide +kernel)) DenAll.nil rfl) rfl) rfl) (by first | kernel_rfl | decide +kernel) (by first | kernel_rfl | decide +kernel) (by first | kernel_rfl | decide +kernel))) (DenT.name (i := 35) (by first | kernel_rfl | decide +kernel) (by first | kernel_rfl | decide +kernel) (by first | kernel_rfl | decide +kernel)) DenC.nil (DenP.tuple (DenAll.cons (DenP.name 35 (by first | kernel_rfl | decide +kernel) (by first | kernel_rfl | decide +kernel) (by first | kernel_rfl | decide +kernel)) (DenAll.cons (DenP.name 15 (by first | kernel_rfl | decide +kernel) (by first | kernel_rfl | decide +kernel) (by first | kernel_rfl | decide +kernel)) DenAll.nil rfl) rfl) (by first | kernel_rfl | decide +kernel)))) (DenT.name (i := 14) (by first | kernel_rfl | decide +kernel) (by first | kernel_rfl | decide +kernel) (by first | kernel_rfl | decide +kernel)) (by first | kernel_rfl | decide +kernel) (fun _ _ => rfl) (fun _ _ => rfl) (fun _ _ => rfl))
  DenS.nil)))
  (DenS.cons (T' := T_law) (DenX.ite (DenB.cmp P_ne (DenP.callB P_sorted c.sorted (DenAll.cons (DenP.comp [] [("one", 36), ("hue", 37)] (fun _ _ => rfl) (by first | kernel_rfl | decide +kernel) (by first | kernel_rfl | decide +kernel) (by first | kernel_rfl | decide +kernel) (DenI.list false (DenP.name 14 (by first | kernel_rfl | decide +kernel) (by first | kernel_rfl | decide +kernel) (by first | kernel_rfl | decide +kernel))) (DenT.tuple (is := [36, 37]) (by first | kernel_rfl | decide +kernel) (by first | kernel_rfl | decide +kernel)) DenC.nil (DenP.name 36 (by first | kernel_rfl | decide +kernel) (by first | kernel_rfl | decide +kernel) (by first | kernel_rfl | decide +kernel))) DenAll.nil rfl) (by first | kernel_rfl | decide +kernel) (by first | kernel_rfl | decide +kernel) (by first | kernel_rfl | decide +kernel)) (DenP.listRange DenP.int c.list c.range (by first | kernel_rfl | decide +kernel) (by first | kernel_rfl | decide +kernel) (by first | kernel_rfl | decide +kernel)) rfl) (DenS.cons (T' := T_law) (DenS.ret DenP.bool)
  DenS.nil) DenS.nil)
  (DenS.cons (T' := T_law) (DenS.ret (DenP.and (DenAnd.cons (DenP.name 11 (by first | kernel_rfl | decide +kernel) (by first | kernel_rfl | decide +kernel) (by first | kernel_rfl | decide +kernel)) (DenAnd.cons (DenP.name 13 (by first | kernel_rfl | decide +kernel) (by first | kernel_rfl | decide +kernel) (by first | kernel_rfl | decide +kernel)) (DenAnd.one (DenP.cmp P_eq (DenP.name 7 (by first | kernel_rfl | decide +kernel) (by first | kernel_rfl | decide +kernel) (by first | kernel_rfl | decide +kernel)) (DenP.comp [] [("hues", 38), ("names", 39), ("text", 40)] (fun _ _ => rfl) (by first | kernel_rfl | decide +kernel) (by first | kernel_rfl | decide +kernel) (by first | kernel_rfl | decide +kernel) (DenI.list false (DenP.name 5 (by first | kernel_rfl | decide +kernel) (by first | kernel_rfl | decide +kernel) (by first | kernel_rfl | decide +kernel))) (DenT.tuple (is := [38, 39, 40]) (by first | kernel_rfl | decide +kernel) (by first | kernel_rfl | decide +kernel)) DenC.nil (DenP.comp [] [("hue", 41)] (fun _ _ => rfl) (by first | kernel_rfl | decide +kernel) (by first | kernel_rfl | decide +kernel) (by first | kernel_rfl | decide +kernel) (DenI.list false (DenP.name 38 (by first | kernel_rfl | decide +kernel) (by first | kernel_rfl | decide +kernel) (by first | kernel_rfl | decide +kernel))) (DenT.name (i := 41) (by first | kernel_rfl | decide +kernel) (by first | kernel_rfl | decide +kernel) (by first | kernel_rfl | decide +kernel)) DenC.nil (DenP.tuple (DenAll.cons (DenP.bin P_mul DenP.int (DenP.name 41 (by first | kernel_rfl | decide +kernel) (by first | kernel_rfl | decide +kernel) (by first | kernel_rfl | decide +kernel))) (DenAll.cons DenP.bool DenAll.nil rfl) rfl) (by first | kernel_rfl | decide +kernel)))) rfl))))))
  DenS.nil))))))))))))))))
end Mine
end

section
namespace Mine
open PySem PySem.Calls PyProof.Rows
open PySem.W
set_option maxRecDepth 100000
set_option maxHeartbeats 4000000

/-- a def of the program as the fragment K lays it out -/
structure FnK (K : Frag) (name : Str) (k : Nat) (ps : List (Str × Nat)) (a : Addr) (fd : FuncData) : Prop where
  at_ : nsIn K mainGlobals name = some (some (.ref a))
  obj : ∃ oc od sl, K.lookup a = some ⟨oc, od, .func fd, sl⟩
  code : codeIn K fd.code fd.qualname = true
  body : fd.body = .stmts (topBody k)
  scope : fd.scope = topScope k
  clo : fd.closure = []
  globals : fd.globals = mainGlobals
  builtins : fd.builtins = builtinsNs
  bind : ∀ vals : List Value, vals.length = ps.length → bindArgs fd ⟨vals, []⟩ = pure ((ps.map (·.1)).zip vals)

section
variable {G : Gd} {K : Frag} {name : Str} {k : Nat} {ps : List (Str × Nat)} {a : Addr} {fd : FuncData} {mg : Str → Option Value}

theorem FnK.glob (F : FnK K name k ps a fd) (hK : K.In G.h₀) (hg : G.h₀.Ns mainGlobals mg) : GlobAt G.h₀ name (.ref a) := ⟨mg, hg, mg_of hK hg F.at_⟩
theorem FnK.fn (F : FnK K name k ps a fd) (hK : K.In G.h₀) : FnAt G.h₀ a := by obtain ⟨oc, od, sl, h⟩ := F.obj; exact ⟨_, fd, hK _ _ h, rfl⟩
theorem FnK.ok (F : FnK K name k ps a fd) (hK : K.In G.h₀) (h1 : (topScope k).isCoroutine = false) (h2 : (topScope k).isGenerator = false) (h3 : (topScope k).kind = .function) : FnOk G.h₀ a fd (topBody k) := by
  obtain ⟨oc, od, sl, h⟩ := F.obj
  exact ⟨⟨_, hK _ _ h, rfl⟩, codeRec_of hK F.code, F.body, F.clo, F.globals, F.builtins, by rw [F.scope]; exact h1, by rw [F.scope]; exact h2, by rw [F.scope]; exact h3⟩
theorem FnK.prim {lvl : Nat} {T T' : List (Str × Nat)} {ms : List Nat} {F' : RX} (F : FnK K name k ps a fd) (hK : K.In G.h₀) (hlim : G.h₀.NoLimit) (h1 : (topScope k).isCoroutine = false) (h2 : (topScope k).isGenerator = false) (h3 : (topScope k).kind = .function)
    (st : startOk (topScope k) T ms ps = true) (hS : DenS G lvl (topScope k) T T' ms (topBody k) F') : Prim G (lvl + 1) (fun vs => call (.ref a) vs) (runF ps F') :=
  Prim.fn (F.ok hK h1 h2 h3) hlim F.bind (by rw [F.scope]; exact st) (by rw [F.scope]; exact hS)
end
end Mine
end

section
namespace Mine
open PySem PySem.Calls PyProof.Rows
open PySem.W
set_option maxRecDepth 100000
set_option maxHeartbeats 400000

section
variable {G : Gd} {K : Frag} {mg : Str → Option Value}

theorem gen_ok (c : Ctx G) (hK : K.In G.h₀) (hlim : G.h₀.NoLimit) {a : Addr} {fd : FuncData} (F : FnK K "_iter_escaped_chars" 7 [("addr", 0)] a fd) : GenOk G a fd (topBody 7) := by
  obtain ⟨oc, od, sl, h⟩ := F.obj
  refine ⟨⟨_, hK _ _ h, rfl⟩, codeRec_of hK F.code, F.body, F.clo, F.globals, F.builtins, by rw [F.scope]; decide +kernel, by rw [F.scope]; decide +kernel, by rw [F.scope]; decide +kernel, by rw [F.scope]; decide +kernel, by rw [F.scope]; decide +kernel, by rw [F.scope]; decide +kernel, fun v => F.bind [v] rfl, hlim,
    fun A env x t all s m eok hc hco fit hasc hno hall base hn h0 => ?_⟩
  rw [F.scope] at eok
  exact esc_ok c eok hc hco fit hasc hno hall base hn h0

theorem pr_hls {a : Addr} {fd : FuncData} (c : Ctx G) (hK : K.In G.h₀) (hg : G.h₀.Ns mainGlobals mg) (hlim : G.h₀.NoLimit)  (k : FnK K "rgb_to_hls" 3 ps_hls a fd) : Prim G 1 (fun vs => PySem.call (.ref a) vs) W_hls :=
  k.prim hK hlim (by first | kernel_rfl | decide +kernel) (by first | kernel_rfl | decide +kernel) (by first | kernel_rfl | decide +kernel) (by first | kernel_rfl | decide +kernel) (D_hls (lvl := 0) c)

theorem pr_hsv {a : Addr} {fd : FuncData} (c : Ctx G) (hK : K.In G.h₀) (hg : G.h₀.Ns mainGlobals mg) (hlim : G.h₀.NoLimit)  (k : FnK K "rgb_to_hsv" 4 ps_hsv a fd) : Prim G 1 (fun vs => PySem.call (.ref a) vs) W_hsv :=
  k.prim hK hlim (by first | kernel_rfl | decide +kernel) (by first | kernel_rfl | decide +kernel) (by first | kernel_rfl | decide +kernel) (by first | kernel_rfl | decide +kernel) (D_hsv (lvl := 0) c)

theorem pr_dec {a : Addr} {fd : FuncData} (c : Ctx G) (hK : K.In G.h₀) (hg : G.h₀.Ns mainGlobals mg) (hlim : G.h₀.NoLimit) {tk : Tok} (eT : mg "TICK" = some (.str (Str.ofString "'") tk)) (k : FnK K "decode_rfc2231" 9 ps_dec a fd) : Prim G 1 (fun vs => PySem.call (.ref a) vs) W_dec :=
  k.prim hK hlim (by first | kernel_rfl | decide +kernel) (by first | kernel_rfl | decide +kernel) (by first | kernel_rfl | decide +kernel) (by first | kernel_rfl | decide +kernel) (D_dec (lvl := 0) c ⟨mg, hg, eT⟩)

theorem cells1 : (topScope 11).isCoroutine = false := by first | kernel_rfl | decide +kernel
theorem cells2 : (topScope 11).isGenerator = false := by first | kernel_rfl | decide +kernel
theorem cells3 : (topScope 11).kind = .function := by first | kernel_rfl | decide +kernel
theorem cells4 : startOk (topScope 11) [("script", 0), ("cells", 1), ("place", 2), ("number", 3)] [1] ps_cells = true := by first | kernel_rfl | decide +kernel
theorem pr_cells {a : Addr} {fd : FuncData} (c : Ctx G) (hK : K.In G.h₀) (hg : G.h₀.Ns mainGlobals mg) (hlim : G.h₀.NoLimit)  (k : FnK K "_law_cells" 11 ps_cells a fd) : Prim G 1 (fun vs => PySem.call (.ref a) vs) (runF ps_cells F_cells) :=
  FnK.prim k hK hlim cells1 cells2 cells3 cells4 (@D_cells G 0 c)

theorem pr_place {a : Addr} {fd : FuncData} (c : Ctx G) (hK : K.In G.h₀) (hg : G.h₀.Ns mainGlobals mg) (hlim : G.h₀.NoLimit)  (k : FnK K "_law_place" 12 ps_place a fd) : Prim G 1 (fun vs => PySem.call (.ref a) vs) W_place :=
  k.prim hK hlim (by first | kernel_rfl | decide +kernel) (by first | kernel_rfl | decide +kernel) (by first | kernel_rfl | decide +kernel) (by first | kernel_rfl | decide +kernel) (D_place (lvl := 0) c)

theorem pr_chosen {a : Addr} {fd : FuncData} (c : Ctx G) (hK : K.In G.h₀) (hg : G.h₀.Ns mainGlobals mg) (hlim : G.h₀.NoLimit)  (k : FnK K "_law_chosen" 16 ps_chosen a fd) : Prim G 1 (fun vs => PySem.call (.ref a) vs) W_chosen :=
  k.prim hK hlim (by first | kernel_rfl | decide +kernel) (by first | kernel_rfl | decide +kernel) (by first | kernel_rfl | decide +kernel) (by first | kernel_rfl | decide +kernel) (D_chosen (lvl := 0) c)

theorem pr_strip {a : Addr} {fd : FuncData} (c : Ctx G) (hK : K.In G.h₀) (hg : G.h₀.Ns mainGlobals mg) (hlim : G.h₀.NoLimit) {a_esc : Addr} {fd_esc : FuncData} (k_esc : FnK K "_iter_escaped_chars" 7 [("addr", 0)] a_esc fd_esc) (k : FnK K "_strip_quoted_realnames" 8 ps_strip a fd) : Prim G 3 (fun vs => PySem.call (.ref a) vs) W_strip :=
  k.prim hK hlim (by first | kernel_rfl | decide +kernel) (by first | kernel_rfl | decide +kernel) (by first | kernel_rfl | decide +kernel) (by first | kernel_rfl | decide +kernel) (D_strip (lvl := 0) c (gen_ok c hK hlim k_esc) (k_esc.glob hK hg))

theorem pr_hue {a : Addr} {fd : FuncData} (c : Ctx G) (hK : K.In G.h₀) (hg : G.h₀.Ns mainGlobals mg) (hlim : G.h₀.NoLimit) {a_hsv : Addr} {fd_hsv : FuncData} (k_hsv : FnK K "rgb_to_hsv" 4 ps_hsv a_hsv fd_hsv) (p_hsv : Prim G 1 (fun vs => PySem.call (.ref a_hsv) vs) W_hsv) {a_hls : Addr} {fd_hls : FuncData} (k_hls : FnK K "rgb_to_hls" 3 ps_hls a_hls fd_hls) (p_hls : Prim G 1 (fun vs => PySem.call (.ref a_hls) vs) W_hls) (k : FnK K "_law_hue" 14 ps_hue a fd) : Prim G 2 (fun vs => PySem.call (.ref a) vs) W_hue :=
  k.prim hK hlim (by first | kernel_rfl | decide +kernel) (by first | kernel_rfl | decide +kernel) (by first | kernel_rfl | decide +kernel) (by first | kernel_rfl | decide +kernel) (D_hue (lvl := 1) c (k_hsv.glob hK hg) (k_hsv.fn hK) p_hsv (k_hls.glob hK hg) (k_hls.fn hK) p_hls)

theorem pr_read {a : Addr} {fd : FuncData} (c : Ctx G) (hK : K.In G.h₀) (hg : G.h₀.Ns mainGlobals mg) (hlim : G.h₀.NoLimit) {a_strip : Addr} {fd_strip : FuncData} (k_strip : FnK K "_strip_quoted_realnames" 8 ps_strip a_strip fd_strip) (p_strip : Prim G 3 (fun vs => PySem.call (.ref a_strip) vs) W_strip) {a_dec : Addr} {fd_dec : FuncData} (k_dec : FnK K "decode_rfc2231" 9 ps_dec a_dec fd_dec) (p_dec : Prim G 3 (fun vs => PySem.call (.ref a_dec) vs) W_dec) (k : FnK K "_law_read" 13 ps_read a fd) : Prim G 4 (fun vs => PySem.call (.ref a) vs) W_read :=
  k.prim hK hlim (by first | kernel_rfl | decide +kernel) (by first | kernel_rfl | decide +kernel) (by first | kernel_rfl | decide +kernel) (by first | kernel_rfl | decide +kernel) (D_read (lvl := 3) c (k_strip.glob hK hg) (k_strip.fn hK) p_strip (k_dec.glob hK hg) (k_dec.fn hK) p_dec)

theorem pr_order {a : Addr} {fd : FuncData} (c : Ctx G) (hK : K.In G.h₀) (hg : G.h₀.Ns mainGlobals mg) (hlim : G.h₀.NoLimit) {fI fC : Addr} {fdC : FuncData} {b : List Stmt} (ok : ClsOk K G.C fI fC) (okC : FnOk G.h₀ fC fdC b) (pC : Prim G 1 (fun vs => PySem.call (.ref fC) vs) W_cmp) (pM : Prim G 1 (fun vs => PySem.call (.ref G.C) vs) makeV) (hk : keepIn K (.ref G.C) = true) (eM : nsIn K mainGlobals "TupleComp" = some (some (.ref G.C))) (k : FnK K "_law_order" 15 ps_order a fd) : Prim G 2 (fun vs => PySem.call (.ref a) vs) W_order :=
  k.prim hK hlim (by first | kernel_rfl | decide +kernel) (by first | kernel_rfl | decide +kernel) (by first | kernel_rfl | decide +kernel) (by first | kernel_rfl | decide +kernel) (D_order (lvl := 1) c hK ok (let ⟨o, h, hd⟩ := okC.obj; ⟨o, _, h, hd⟩) pC hk pM ⟨mg, hg, mg_of hK hg eM⟩)

theorem pr_law {a : Addr} {fd : FuncData} (c : Ctx G) (hK : K.In G.h₀) (hg : G.h₀.Ns mainGlobals mg) (hlim : G.h₀.NoLimit) {a_cells : Addr} {fd_cells : FuncData} (k_cells : FnK K "_law_cells" 11 ps_cells a_cells fd_cells) (p_cells : Prim G 4 (fun vs => PySem.call (.ref a_cells) vs) W_cells) {a_place : Addr} {fd_place : FuncData} (k_place : FnK K "_law_place" 12 ps_place a_place fd_place) (p_place : Prim G 4 (fun vs => PySem.call (.ref a_place) vs) W_place) {a_read : Addr} {fd_read : FuncData} (k_read : FnK K "_law_read" 13 ps_read a_read fd_read) (p_read : Prim G 4 (fun vs => PySem.call (.ref a_read) vs) W_read) {a_hue : Addr} {fd_hue : FuncData} (k_hue : FnK K "_law_hue" 14 ps_hue a_hue fd_hue) (p_hue : Prim G 4 (fun vs => PySem.call (.ref a_hue) vs) W_hue) {a_order : Addr} {fd_order : FuncData} (k_order : FnK K "_law_order" 15 ps_order a_order fd_order) (p_order : Prim G 4 (fun vs => PySem.call (.ref a_order) vs) W_order) {a_chosen : Addr} {fd_chosen : FuncData} (k_chosen : FnK K "_law_chosen" 16 ps_chosen a_chosen fd_chosen) (p_chosen : Prim G 4 (fun vs => PySem.call (.ref a_chosen) vs) W_chosen) (k : FnK K "law" 17 ps_law a fd) : Prim G 5 (fun vs => PySem.call (.ref a) vs) W_law :=
  k.prim hK hlim (by first | kernel_rfl | decide +kernel) (by first | kernel_rfl | decide +kernel) (by first | kernel_rfl | decide +kernel) (by first | kernel_rfl | decide +kernel) (D_law (lvl := 4) c (k_cells.glob hK hg) (k_cells.fn hK) p_cells (k_place.glob hK hg) (k_place.fn hK) p_place (k_read.glob hK hg) (k_read.fn hK) p_read (k_hue.glob hK hg) (k_hue.fn hK) p_hue (k_order.glob hK hg) (k_order.fn hK) p_order (k_chosen.glob hK hg) (k_chosen.fn hK) p_chosen)

theorem pr_cmp {fI fC : Addr} {fdC : FuncData} (c : Ctx G) (hK : K.In G.h₀) (hlim : G.h₀.NoLimit) (ok : ClsOk K G.C fI fC) (okC : FnOk G.h₀ fC fdC (clsBody 1)) (scC : fdC.scope = clsScope 1)
    (bindC : ∀ vals : List Value, vals.length = ps_cmp.length → bindArgs fdC ⟨vals, []⟩ = pure ((ps_cmp.map (·.1)).zip vals)) : Prim G 1 (fun vs => PySem.call (.ref fC) vs) W_cmp := by
  have hS := D_cmp (lvl := 0) c hK ok
  rw [← scC] at hS
  exact Prim.fn okC hlim bindC (by rw [scC]; decide +kernel) hS
end
end Mine
end

section
namespace Mine
open PySem PySem.Calls PyProof.Rows
open PySem.W
set_option maxRecDepth 100000
set_option maxHeartbeats 400000
section
variable {G : Gd} {K : Frag} {mg : Str → Option Value}

theorem law_prim {fI fC a_hls a_hsv a_esc a_strip a_dec a_cells a_place a_read a_hue a_order a_chosen a_law : Addr} {fdC fd_hls fd_hsv fd_esc fd_strip fd_dec fd_cells fd_place fd_read fd_hue fd_order fd_chosen fd_law : FuncData} {tk : Tok}
    (c : Ctx G) (hK : K.In G.h₀) (hg : G.h₀.Ns mainGlobals mg) (hlim : G.h₀.NoLimit) (ok : ClsOk K G.C fI fC) (okC : FnOk G.h₀ fC fdC (clsBody 1)) (scC : fdC.scope = clsScope 1)
    (bindC : ∀ vals : List Value, vals.length = ps_cmp.length → bindArgs fdC ⟨vals, []⟩ = pure ((ps_cmp.map (·.1)).zip vals)) (pM : Prim G 1 (fun vs => PySem.call (.ref G.C) vs) makeV) (hk : keepIn K (.ref G.C) = true) (eM : nsIn K mainGlobals "TupleComp" = some (some (.ref G.C)))
    (eT : mg "TICK" = some (.str (Str.ofString "'") tk))
    (k_hls : FnK K "rgb_to_hls" 3 ps_hls a_hls fd_hls) (k_hsv : FnK K "rgb_to_hsv" 4 ps_hsv a_hsv fd_hsv) (k_esc : FnK K "_iter_escaped_chars" 7 [("addr", 0)] a_esc fd_esc) (k_strip : FnK K "_strip_quoted_realnames" 8 ps_strip a_strip fd_strip)
    (k_dec : FnK K "decode_rfc2231" 9 ps_dec a_dec fd_dec) (k_cells : FnK K "_law_cells" 11 ps_cells a_cells fd_cells) (k_place : FnK K "_law_place" 12 ps_place a_place fd_place) (k_read : FnK K "_law_read" 13 ps_read a_read fd_read)
    (k_hue : FnK K "_law_hue" 14 ps_hue a_hue fd_hue) (k_order : FnK K "_law_order" 15 ps_order a_order fd_order) (k_chosen : FnK K "_law_chosen" 16 ps_chosen a_chosen fd_chosen) (k_law : FnK K "law" 17 ps_law a_law fd_law) :
    Prim G 5 (fun vs => PySem.call (.ref a_law) vs) W_law := by
  have p_hls := pr_hls c hK hg hlim k_hls
  have p_hsv := pr_hsv c hK hg hlim k_hsv
  have p_dec := pr_dec c hK hg hlim eT k_dec
  have p_cells : Prim G 1 (fun vs => PySem.call (.ref a_cells) vs) W_cells := pr_cells c hK hg hlim k_cells
  have p_place := pr_place c hK hg hlim k_place
  have p_chosen := pr_chosen c hK hg hlim k_chosen
  have p_strip := pr_strip c hK hg hlim k_esc k_strip
  have p_cmp := pr_cmp c hK hlim ok okC scC bindC
  have p_order := pr_order c hK hg hlim ok okC p_cmp pM hk eM k_order
  have p_hue := pr_hue c hK hg hlim k_hsv p_hsv k_hls p_hls k_hue
  have p_read := pr_read c hK hg hlim k_strip p_strip k_dec (p_dec.up (by decide)) k_read
  exact pr_law c hK hg hlim k_cells (p_cells.up (by decide)) k_place (p_place.up (by decide)) k_read p_read k_hue (p_hue.up (by decide)) k_order (p_order.up (by decide)) k_chosen (p_chosen.up (by decide)) k_law
end
end Mine
end

section
namespace Mine
open PySem PySem.Calls PyProof.Rows
open PySem.W
theorem ints_rep {C : Addr} {h : Heap} {M : List Addr} : ∀ {vs : List Value} {ns : List Int}, IntsAre vs ns → RepAll C h M vs (ns.map .int)
  | _, _, .nil => .nil
  | _, _, .cons n t hI => .cons (.int n t) (ints_rep hI)
theorem arg_rep {P : Params} {h : Heap} {l : Addr} {vs : List Value} {ns : List Int} {C : Addr} (w : Well P h (.ref l) (ofPy (PyData.list (ns.map PyData.int)))) (hL : h.IsList l vs.toArray) (hI : IntsAre vs ns) : Rep C h [] (.ref l) (.list (ns.map .int)) := by
  obtain ⟨xs, e⟩ : ∃ xs, ofPy (PyData.list (ns.map PyData.int)) = WData.list xs := ⟨_, rfl⟩
  rw [e] at w
  cases w with
  | list hg _ =>
    obtain ⟨o, ho, hc, n, hd⟩ := hL
    rw [hg] at ho
    cases ho
    have hd' := (Data.seq.inj hd).1
    have := congrArg Array.toList hd'
    simp only [List.toList_toArray] at this
    subst this
    exact .list (n := 0) hg (by simp) (ints_rep hI)

set_option maxRecDepth 100000
theorem post_ok (as : List WData) : PySem.Challenge.rw_xh0008_01.row.claim.post as (WData.bool true) as = true := by
  refine postW_of (r := PySem.Challenge.rw_xh0008_01.row.toRowW) (X := true) ?_ ?_ rfl
  · decide +kernel
  · exact w_eq_bool (k := true) (l := true) (by simp [WTm.value]) (by simp [WTm.value])
theorem bare_empty : AllBare #[] := fun y hy => by simp at hy
/-- a method of TupleComp as the fragment lays it out -/
structure MethK (K : Frag) (k : Nat) (ps : List (Str × Nat)) (a : Addr) (fd : FuncData) : Prop where
  obj : ∃ oc od sl, K.lookup a = some ⟨oc, od, .func fd, sl⟩
  code : codeIn K fd.code fd.qualname = true
  body : fd.body = .stmts (clsBody k)
  scope : fd.scope = clsScope k
  clo : fd.closure = []
  globals : fd.globals = mainGlobals
  builtins : fd.builtins = builtinsNs
  bind : ∀ vals : List Value, vals.length = ps.length → bindArgs fd ⟨vals, []⟩ = pure ((ps.map (·.1)).zip vals)
theorem MethK.ok {G : Gd} {K : Frag} {k : Nat} {ps : List (Str × Nat)} {a : Addr} {fd : FuncData} (F : MethK K k ps a fd) (hK : K.In G.h₀) (h1 : (clsScope k).isCoroutine = false) (h2 : (clsScope k).isGenerator = false) (h3 : (clsScope k).kind = .function) : FnOk G.h₀ a fd (clsBody k) := by
  obtain ⟨oc, od, sl, h⟩ := F.obj
  exact ⟨⟨_, hK _ _ h, rfl⟩, codeRec_of hK F.code, F.body, F.clo, F.globals, F.builtins, by rw [F.scope]; exact h1, by rw [F.scope]; exact h2, by rw [F.scope]; exact h3⟩
theorem cls10 : (clsScope 0).isCoroutine = false := by first | kernel_rfl | decide +kernel
theorem cls11 : (clsScope 0).isGenerator = false := by first | kernel_rfl | decide +kernel
theorem cls12 : (clsScope 0).kind = .function := by first | kernel_rfl | decide +kernel
theorem cls13 : (clsScope 0).names.lookup selfName = some .local := by first | kernel_rfl | decide +kernel
theorem cls14 : (clsScope 0).names.lookup selName = some .local := by first | kernel_rfl | decide +kernel
theorem cls20 : (clsScope 1).isCoroutine = false := by first | kernel_rfl | decide +kernel
theorem cls21 : (clsScope 1).isGenerator = false := by first | kernel_rfl | decide +kernel
theorem cls22 : (clsScope 1).kind = .function := by first | kernel_rfl | decide +kernel
theorem make_prim {G : Gd} {K : Frag} {fI fC : Addr} {fdI : FuncData} (hK : K.In G.h₀) (hlim : G.h₀.NoLimit) (ok : ClsOk K G.C fI fC) (F : MethK K 0 [(selfName, 0), (selName, 1)] fI fdI) : Prim G 1 (fun vs => PySem.call (.ref G.C) vs) makeV :=
  Prim.make (lvl := 0) hK ok hlim (F.ok hK cls10 cls11 cls12) (fun a b => F.bind [a, b] rfl) (by rw [F.scope]; exact cls13) (by rw [F.scope]; exact cls14)
end Mine
end

section
namespace Mine
open PySem PySem.Calls PyProof.Rows
set_option maxRecDepth 100000
mutual
noncomputable def V.same : V → V → Bool
  | .none, .none => true
  | .bool a, .bool b => a == b
  | .int a, .int b => a == b
  | .flt a, .flt b => a == b
  | .str a, .str b => a == b
  | .list a, .list b => V.sames a b
  | .tup a, .tup b => V.sames a b
  | .judge a, .judge b => V.same a b
  | _, _ => false
noncomputable def V.sames : List V → List V → Bool
  | [], [] => true
  | a :: r, b :: q => V.same a b && V.sames r q
  | _, _ => false
end
mutual
theorem V.same_eq : ∀ {a b : V}, V.same a b = true → a = b
  | .none, .none, _ => rfl
  | .bool a, .bool b, h => congrArg V.bool (eq_of_beq (show (a == b) = true from h))
  | .int a, .int b, h => congrArg V.int (eq_of_beq (show (a == b) = true from h))
  | .flt a, .flt b, h => congrArg V.flt (eq_of_beq (show (a == b) = true from h))
  | .str a, .str b, h => congrArg V.str (eq_of_beq (show (a == b) = true from h))
  | .list a, .list b, h => congrArg V.list (V.sames_eq (show V.sames a b = true from h))
  | .tup a, .tup b, h => congrArg V.tup (V.sames_eq (show V.sames a b = true from h))
  | .judge a, .judge b, h => congrArg V.judge (V.same_eq (show V.same a b = true from h))
theorem V.sames_eq : ∀ {a b : List V}, V.sames a b = true → a = b
  | [], [], _ => rfl
  | a :: r, b :: q, h => by
    have h' := Bool.and_eq_true_iff.mp (show (V.same a b && V.sames r q) = true from h)
    rw [V.same_eq h'.1, V.sames_eq h'.2]
end
noncomputable def gives (o : Option V) (d : V) : Bool := match o with
  | some e => V.same e d
  | none => false
theorem gives_eq {o : Option V} {d : V} (h : gives o d = true) : o = some d := by
  unfold gives at h
  split at h
  · rw [V.same_eq h]
  · cases h

/-- the figures of a colour: hue h (0..11), shade s (0..8) -/
noncomputable def figure (h s lamp : Nat) : Nat := s / 3 + (1 + s % 3) * (((4 : Int) - ((((lamp : Int) - h + 6) % 12 - 6).natAbs : Int)) |> fun z => (max 0 (min 2 z)).toNat)
noncomputable def nameOf (h s : Nat) : Str := ⟨#[48 + figure h s 0, 48 + figure h s 4, 48 + figure h s 8]⟩
noncomputable def hueOk (h : Nat) : Bool := (List.range 9).all fun s => gives (W_hue [.str (nameOf h s)]) (.tup [.int (1000 * h), .bool true])
theorem hue0 : hueOk 0 = true := by decide +kernel
theorem hue1 : hueOk 1 = true := by decide +kernel
theorem hue2 : hueOk 2 = true := by decide +kernel
theorem hue3 : hueOk 3 = true := by decide +kernel
theorem hue4 : hueOk 4 = true := by decide +kernel
theorem hue5 : hueOk 5 = true := by decide +kernel
theorem hue6 : hueOk 6 = true := by decide +kernel
theorem hue7 : hueOk 7 = true := by decide +kernel
theorem hue8 : hueOk 8 = true := by decide +kernel
theorem hue9 : hueOk 9 = true := by decide +kernel
theorem hue10 : hueOk 10 = true := by decide +kernel
theorem hue11 : hueOk 11 = true := by decide +kernel
theorem hue_ok {h : Nat} (hh : h < 12) : hueOk h = true := by
  match h, hh with
  | 0, _ => exact hue0
  | 1, _ => exact hue1
  | 2, _ => exact hue2
  | 3, _ => exact hue3
  | 4, _ => exact hue4
  | 5, _ => exact hue5
  | 6, _ => exact hue6
  | 7, _ => exact hue7
  | 8, _ => exact hue8
  | 9, _ => exact hue9
  | 10, _ => exact hue10
  | 11, _ => exact hue11
theorem hue_all {h s : Nat} (hh : h < 12) (hs : s < 9) : W_hue [.str (nameOf h s)] = some (.tup [.int (1000 * h), .bool true]) :=
  gives_eq (List.all_eq_true.mp (hue_ok hh) s (List.mem_range.mpr hs))
end Mine
end

section
namespace Mine
open PySem PySem.Calls PyProof.Rows
open PySem.Builtin PySem.Builtin.Str

theorem tl_len (x : Str) : x.length = x.cps.toList.length := by simp [Str.length]
theorem str_ext {x y : Str} (h : x.cps.toList = y.cps.toList) : x = y := Str.ext' (Array.toList_inj.mp h)

/-- a text of these signs -/
noncomputable def mkS (l : List Nat) : Str := ⟨l.toArray⟩
theorem mkS_list (l : List Nat) : (mkS l).cps.toList = l := rfl
theorem mkS_len (l : List Nat) : (mkS l).length = l.length := by simp [mkS, Str.length]
theorem mkS_app (l m : List Nat) : mkS l ++ mkS m = mkS (l ++ m) := str_ext (by simp [mkS, Str.cps_append])
theorem mkS_of (x : Str) : mkS x.cps.toList = x := str_ext rfl
theorem mkS_inj {l m : List Nat} (h : mkS l = mkS m) : l = m := by
  have := congrArg (fun s : Str => s.cps.toList) h
  exact this

theorem strSub_mk (l : List Nat) (i j : Nat) : strSub (mkS l) i j = mkS ((l.drop i).take (j - i)) := str_ext (StrLaws.strSub_toList _ _ _)

/-- the signs of a join -/
noncomputable def jn (c : List Nat) : List (List Nat) → List Nat
  | [] => []
  | [x] => x
  | x :: y :: r => x ++ c ++ jn c (y :: r)
theorem join_mk (c : List Nat) : ∀ ns : List (List Nat), Txt.join (mkS c) (ns.map mkS) = mkS (jn c ns) := by
  intro ns
  unfold Txt.join
  rw [StrLaws.glued_eq_join]
  induction ns with
  | nil => rfl
  | cons x r ih =>
    cases r with
    | nil => rfl
    | cons y r =>
      show mkS x ++ mkS c ++ Str.join (mkS c) ((y :: r).map mkS) = _
      rw [ih, mkS_app, mkS_app]; rfl

theorem jn_nil_sep : ∀ ns : List (List Nat), jn [] ns = ns.flatten
  | [] => rfl
  | [x] => by simp [jn]
  | x :: y :: r => by
    show x ++ [] ++ jn [] (y :: r) = _
    rw [jn_nil_sep (y :: r)]; simp

theorem jn_inj (c : Nat) : ∀ {ns ms : List (List Nat)}, ns ≠ [] → ms ≠ [] → (∀ n ∈ ns, c ∉ n) → (∀ n ∈ ms, c ∉ n) → jn [c] ns = jn [c] ms → ns = ms
  | [], _, h, _, _, _, _ => (h rfl).elim
  | _, [], _, h, _, _, _ => (h rfl).elim
  | [x], [y], _, _, _, _, e => by simp only [jn] at e; rw [e]
  | [x], y :: z :: r, _, _, hx, _, e => by
    exfalso
    refine hx x (List.mem_singleton.mpr rfl) ?_
    have e' : x = y ++ [c] ++ jn [c] (z :: r) := e
    rw [e']; simp
  | x :: z :: r, [y], _, _, _, hy, e => by
    exfalso
    refine hy y (List.mem_singleton.mpr rfl) ?_
    have e' : x ++ [c] ++ jn [c] (z :: r) = y := e
    rw [← e']; simp
  | x :: z :: r, y :: u :: q, _, _, hx, hy, e => by
    have e' : x ++ [c] ++ jn [c] (z :: r) = y ++ [c] ++ jn [c] (u :: q) := e
    rw [List.append_assoc, List.append_assoc] at e'
    have hxc : c ∉ x := hx x (List.mem_cons_self ..)
    have hyc : c ∉ y := hy y (List.mem_cons_self ..)
    have key : ∀ (x y p q : List Nat), c ∉ x → c ∉ y → x ++ c :: p = y ++ c :: q → x = y ∧ p = q := by
      intro x
      induction x with
      | nil =>
        intro y p q _ hy h
        cases y with
        | nil => simpa using h
        | cons b y =>
          simp only [List.nil_append, List.cons_append, List.cons.injEq] at h
          exact (hy (by rw [h.1]; exact List.mem_cons_self ..)).elim
      | cons a x ih =>
        intro y p q hx hy h
        cases y with
        | nil =>
          simp only [List.nil_append, List.cons_append, List.cons.injEq] at h
          exact (hx (by rw [h.1]; exact List.mem_cons_self ..)).elim
        | cons b y =>
          simp only [List.cons_append, List.cons.injEq] at h
          obtain ⟨h1, h2⟩ := ih y p q (fun m => hx (List.mem_cons_of_mem _ m)) (fun m => hy (List.mem_cons_of_mem _ m)) h.2
          exact ⟨by rw [h.1, h1], h2⟩
    obtain ⟨h1, h2⟩ := key x y _ _ hxc hyc e'
    rw [h1, jn_inj c (by simp) (by simp) (fun n m => hx n (List.mem_cons_of_mem _ m)) (fun n m => hy n (List.mem_cons_of_mem _ m)) h2]

theorem split_ne (x y : Str) : Txt.split x y ≠ [] := fun h => by
  have := PyProof.Rows.split_pos x y
  rw [h] at this; exact absurd this (by decide)

/-- parts of a join -/
theorem split_jn (c : Nat) {ns : List (List Nat)} (h0 : ns ≠ []) (hn : ∀ n ∈ ns, c ∉ n) : Txt.split (mkS (jn [c] ns)) (mkS [c]) = ns.map mkS := by
  have e : Txt.split (mkS (jn [c] ns)) (mkS [c]) = ((Txt.split (mkS (jn [c] ns)) (mkS [c])).map fun s => s.cps.toList).map mkS := by
    rw [List.map_map]
    conv => lhs; rw [← List.map_id (Txt.split (mkS (jn [c] ns)) (mkS [c]))]
    exact List.map_congr_left fun a _ => (mkS_of a).symm
  have h1 : jn [c] ((Txt.split (mkS (jn [c] ns)) (mkS [c])).map fun s => s.cps.toList) = jn [c] ns := by
    have := StrLaws.join_split (mkS (jn [c] ns)) (mkS [c])
    rw [← StrLaws.glued_eq_join] at this
    have h2 := join_mk [c] ((Txt.split (mkS (jn [c] ns)) (mkS [c])).map fun s => s.cps.toList)
    rw [← e] at h2
    exact mkS_inj (h2.symm.trans this)
  have h3 := jn_inj c (ns := (Txt.split (mkS (jn [c] ns)) (mkS [c])).map fun s => s.cps.toList) (ms := ns) (by simpa using split_ne _ _) h0 (fun n m => by
    obtain ⟨p, hp, rfl⟩ := List.mem_map.mp m
    exact StrLaws.split_free _ c p hp) hn h1
  rw [e, h3]

/-- with a limit: the first of the places -/
theorem occ_ext (s sub : Str) (hi limit : Nat) : ∀ (l : List Nat) (st : Array Nat × Nat), ∃ r, (forIn l st (StrLaws.occBody s sub hi limit)).run.fst.toList = st.fst.toList ++ r
  | [], st => ⟨[], (List.append_nil _).symm⟩
  | a :: l, st => by
    rw [List.forIn_cons]
    unfold StrLaws.occBody
    split
    · obtain ⟨r, h⟩ := occ_ext s sub hi limit l (st.fst.push a, a + sub.length)
      refine ⟨a :: r, h.trans ?_⟩
      simp
    · exact occ_ext s sub hi limit l _
theorem occ_full (s sub : Str) (hi limit : Nat) : ∀ (l : List Nat) (st : Array Nat × Nat), limit ≤ st.fst.size → (forIn l st (StrLaws.occBody s sub hi limit)).run.fst = st.fst
  | [], st, _ => rfl
  | a :: l, st, h => by
    rw [List.forIn_cons]
    unfold StrLaws.occBody
    rw [if_neg (fun h' => by have := h'.1.1.1; omega)]
    exact occ_full s sub hi limit l _ h
theorem occ_lim (s sub : Str) (hi limit big : Nat) : ∀ (l : List Nat) (st : Array Nat × Nat), limit ≤ big → st.fst.size ≤ limit → (forIn l st (StrLaws.occBody s sub hi limit)).run.fst.toList = (forIn l st (StrLaws.occBody s sub hi big)).run.fst.toList.take limit
  | [], st, _, h => (List.take_of_length_le (by simpa using h)).symm
  | a :: l, st, hb, h => by
    rcases Nat.lt_or_ge st.fst.size limit with h' | h'
    · rw [List.forIn_cons, List.forIn_cons]
      unfold StrLaws.occBody
      by_cases hc : (st.snd ≤ a ∧ a + sub.length ≤ hi) ∧ subAt s sub a = true
      · rw [if_pos ⟨⟨⟨h', hc.1.1⟩, hc.1.2⟩, hc.2⟩, if_pos ⟨⟨⟨by omega, hc.1.1⟩, hc.1.2⟩, hc.2⟩]
        exact occ_lim s sub hi limit big l _ hb (by simp; omega)
      · rw [if_neg (fun x => hc ⟨⟨x.1.1.2, x.1.2⟩, x.2⟩), if_neg (fun x => hc ⟨⟨x.1.1.2, x.1.2⟩, x.2⟩)]
        exact occ_lim s sub hi limit big l _ hb h
    · rw [occ_full s sub hi limit (a :: l) st h']
      obtain ⟨r, e⟩ := occ_ext s sub hi big (a :: l) st
      rw [e]
      have : st.fst.toList.length = limit := by simp; omega
      rw [← this, List.take_left]

theorem occ_take (x y : Str) {limit big : Nat} (h : limit ≤ big) : occurrences x y 0 x.length limit = (occurrences x y 0 x.length big).take limit := by
  rw [StrLaws.occ_eq, StrLaws.occ_eq]
  exact occ_lim x y x.length limit big _ _ h (by simp)

theorem Str_join_mk (c : List Nat) (ns : List (List Nat)) : Str.join (mkS c) (ns.map mkS) = mkS (jn c ns) := by
  rw [← join_mk]; exact (StrLaws.glued_eq_join _ _).symm

/-- cut at the first two -/
theorem splitMax2 (c : Nat) {ns : List (List Nat)} (h0 : ns ≠ []) (hn : ∀ n ∈ ns, c ∉ n) : Txt.splitMax (mkS (jn [c] ns)) (mkS [c]) 2 = match ns with
    | a :: b :: d :: r => [mkS a, mkS b, mkS (jn [c] (d :: r))]
    | l => l.map mkS := by
  have hs := split_jn c h0 hn
  have two : Txt.splitMax (mkS (jn [c] ns)) (mkS [c]) 2 = if (decide ((mkS (jn [c] ns)).length < (mkS [c]).length) || decide (strKind (mkS (jn [c] ns)) < strKind (mkS [c]))) = true then [mkS (jn [c] ns)] else
    if (occurrences (mkS (jn [c] ns)) (mkS [c]) 0 (mkS (jn [c] ns)).length 2).isEmpty = true then [mkS (jn [c] ns)] else partsBetween (mkS (jn [c] ns)) (occurrences (mkS (jn [c] ns)) (mkS [c]) 0 (mkS (jn [c] ns)).length 2) (mkS [c]).length := rfl
  rw [two]
  unfold Txt.split at hs
  generalize hX : mkS (jn [c] ns) = X at hs ⊢
  by_cases h1 : (decide (X.length < (mkS [c]).length) || decide (strKind X < strKind (mkS [c]))) = true
  · rw [if_pos h1] at hs ⊢
    match ns, hs with
    | [a], hs => exact hs
  · rw [if_neg h1] at hs ⊢
    by_cases hl : X.length = 0
    · exfalso
      apply h1
      rw [Bool.or_eq_true]; left
      exact decide_eq_true (by rw [hl, mkS_len]; simp)
    have ht : occurrences X (mkS [c]) 0 X.length 2 = (occurrences X (mkS [c]) 0 X.length (X.length + 1)).take 2 := occ_take _ _ (by omega)
    obtain ⟨f, hch⟩ := StrLaws.occ_chain X (mkS [c]) (X.length + 1)
    rw [ht]
    generalize occurrences X (mkS [c]) 0 X.length (X.length + 1) = cuts at hs hch ⊢
    rw [StrLaws.partsBetween_eq] at hs ⊢
    match cuts, hs, hch with
    | [], hs, hch =>
      simp only [List.isEmpty_nil, if_true] at hs
      simp only [List.take_nil, List.isEmpty_nil, if_true]
      match ns, hs with
      | [], hs => cases hs
      | [a], hs => exact hs
      | a :: b :: r, hs => cases hs
    | [c1], hs, hch =>
      have hs' : [strSub X 0 c1, strSub X (c1 + (mkS [c]).length) X.length] = ns.map mkS := hs
      show [strSub X 0 c1, strSub X (c1 + (mkS [c]).length) X.length] = _
      rw [hs']
      match ns, hs' with
      | [], hs => exact absurd (congrArg List.length hs) (by simp)
      | [a], hs => exact absurd (congrArg List.length hs) (by simp)
      | [a, b], hs => rfl
      | a :: b :: d :: r, hs => exact absurd (congrArg List.length hs) (by simp)
    | [c1, c2], hs, hch =>
      have hs' : [strSub X 0 c1, strSub X (c1 + (mkS [c]).length) c2, strSub X (c2 + (mkS [c]).length) X.length] = ns.map mkS := hs
      show [strSub X 0 c1, strSub X (c1 + (mkS [c]).length) c2, strSub X (c2 + (mkS [c]).length) X.length] = _
      rw [hs']
      match ns, hs' with
      | [], hs => exact absurd (congrArg List.length hs) (by simp)
      | [a], hs => exact absurd (congrArg List.length hs) (by simp)
      | [a, b], hs => exact absurd (congrArg List.length hs) (by simp)
      | [a, b, d], hs => rfl
      | a :: b :: d :: e :: r, hs => exact absurd (congrArg List.length hs) (by simp)
    | c1 :: c2 :: c3 :: r, hs, hch =>
      have hs' : strSub X 0 c1 :: strSub X (c1 + (mkS [c]).length) c2 :: strSub X (c2 + (mkS [c]).length) c3 :: StrLaws.partsFrom X (mkS [c]).length (c3 + (mkS [c]).length) r = ns.map mkS := hs
      show strSub X 0 c1 :: strSub X (c1 + (mkS [c]).length) c2 :: [strSub X (c2 + (mkS [c]).length) X.length] = _
      match ns, hs' with
      | [], hs => exact absurd (congrArg List.length hs) (by simp)
      | [a], hs => exact absurd (congrArg List.length hs) (by simp)
      | [a, b], hs => exact absurd (congrArg List.length hs) (by simp)
      | a :: b :: d :: q, hs =>
        have hs2 : strSub X 0 c1 :: strSub X (c1 + (mkS [c]).length) c2 :: StrLaws.partsFrom X (mkS [c]).length (c2 + (mkS [c]).length) (c3 :: r) = mkS a :: mkS b :: (d :: q).map mkS := hs
        simp only [List.cons.injEq] at hs2
        obtain ⟨e1, e2, e3⟩ := hs2
        have e4 := StrLaws.join_partsFrom X (mkS [c]) (c3 :: r) (c2 + (mkS [c]).length) f hch.2.2.2.2
        rw [e3, Str_join_mk] at e4
        rw [e1, e2, ← e4]
end Mine
end

section
namespace Mine
open PySem PySem.Calls PyProof.Rows
open PySem.Builtin PySem.Builtin.Str

theorem gp (ρ : Rho) (i j : Nat) (d : V) : get (put ρ i d) j = if i = j then some d else get ρ j := by
  by_cases h : i = j
  · rw [if_pos h, ← h, get_put_self]
  · rw [if_neg h, get_put_ne ρ d h]

theorem at_next {F K : RX} {ρ ρ1 : Rho} {r : Option Res} (h : F ρ = some (.next ρ1)) (k : K ρ1 = r) : andThen F K ρ = r := by
  unfold andThen; rw [h]; exact k
theorem at_ret {F K : RX} {ρ : Rho} {d : V} (h : F ρ = some (.ret d)) : andThen F K ρ = some (.ret d) := by
  unfold andThen; rw [h]; rfl
theorem asg_eq {F : RV} {bnd : Rho → V → Option Rho} {ρ ρ1 : Rho} {d : V} (h : F ρ = some d) (hb : bnd ρ d = some ρ1) : xAsg F bnd ρ = some (.next ρ1) := by
  unfold xAsg; rw [h]; show (bnd ρ d).map Res.next = _; rw [hb]; rfl
theorem asc_eq {F : RV} {i : Nat} {ρ : Rho} {d : V} (h : F ρ = some d) : xAsc F i ρ = some (.next (put ρ i d)) := by
  unfold xAsc; rw [h]; rfl
theorem ite_t {B : RB} {F1 F2 : RX} {ρ : Rho} {r : Option Res} (h : B ρ = some true) (k : F1 ρ = r) : xIte B F1 F2 ρ = r := by
  unfold xIte; rw [h]; exact k
theorem ite_f {B : RB} {F1 F2 : RX} {ρ : Rho} {r : Option Res} (h : B ρ = some false) (k : F2 ρ = r) : xIte B F1 F2 ρ = r := by
  unfold xIte; rw [h]; exact k
theorem ret_eq {F : RV} {ρ : Rho} {d : V} (h : F ρ = some d) : xRet F ρ = some (.ret d) := by
  unfold xRet; rw [h]; rfl
theorem frz_eq {i j : Nat} {F : RX} {ρ : Rho} {d : V} {r : Option Res} (h : get ρ i = some d) (k : F (put ρ j d) = r) : xFrz i j F ρ = r := by
  unfold xFrz; rw [h]; exact k

theorem compGo_eq {α : Type} {bnd : Rho → V → Option Rho} {tst : Rho → Option Bool} {body : Rho → Option (List V)} {ρ : Rho} {f : α → V} (t : α → Bool) (g : α → List V) :
    ∀ (l : List α), (∀ a ∈ l, ∃ ρ1, bnd ρ (f a) = some ρ1 ∧ tst ρ1 = some (t a) ∧ (t a = true → body ρ1 = some (g a))) → compGo bnd tst body ρ (l.map f) = some ((l.filter t).flatMap g)
  | [], _ => rfl
  | a :: l, h => by
    obtain ⟨ρ1, h1, h2, h3⟩ := h a (List.mem_cons_self ..)
    have ih := compGo_eq t g l fun b hb => h b (List.mem_cons_of_mem _ hb)
    show (bnd ρ (f a)).bind _ = _
    rw [h1]
    show (tst ρ1).bind _ = _
    rw [h2]
    cases ht : t a with
    | true =>
      show (body ρ1).bind _ = _
      rw [h3 ht]
      show (compGo bnd tst body ρ (l.map f)).map _ = _
      rw [ih, List.filter_cons_of_pos ht]; rfl
    | false =>
      show compGo bnd tst body ρ (l.map f) = _
      rw [ih, List.filter_cons_of_neg (by rw [ht]; exact Bool.false_ne_true)]

theorem flat_one {α : Type} (g : α → V) : ∀ l : List α, l.flatMap (fun a => [g a]) = l.map g
  | [] => rfl
  | a :: l => by rw [List.flatMap_cons, flat_one g l]; rfl

theorem comp_eq {α : Type} {Fi : RL} {bnd : Rho → V → Option Rho} {Ft : RB} {Fe : RV} {ρ : Rho} {f : α → V} {l : List α} (t : α → Bool) (g : α → V) (hi : Fi ρ = some (l.map f)) (hl : l.length ≤ 10000)
    (h : ∀ a ∈ l, ∃ ρ1, bnd ρ (f a) = some ρ1 ∧ Ft ρ1 = some (t a) ∧ (t a = true → Fe ρ1 = some (g a))) : fComp Fi bnd Ft Fe ρ = some (.list ((l.filter t).map g)) := by
  unfold fComp compF
  rw [hi]
  show (compGo bnd Ft (one Fe) ρ (l.map f)).bind _ = _
  rw [compGo_eq t (fun a => [g a]) l fun a ha => by
    obtain ⟨ρ1, h1, h2, h3⟩ := h a ha
    exact ⟨ρ1, h1, h2, fun e => by unfold one; rw [h3 e]; rfl⟩]
  show (if _ then _ else _) = _
  have e := flat_one g (l.filter t)
  rw [e, if_pos]
  rw [List.length_map]
  exact Nat.le_trans (List.length_filter_le _ _) hl

theorem filter_all {α : Type} (l : List α) : l.filter (fun _ => true) = l := List.filter_eq_self.mpr fun _ _ => rfl

theorem compT_eq {α : Type} {Fi : RL} {bnd : Rho → V → Option Rho} {Fe : RV} {ρ : Rho} {f : α → V} {l : List α} (g : α → V) (hi : Fi ρ = some (l.map f)) (hl : l.length ≤ 10000)
    (h : ∀ a ∈ l, ∃ ρ1, bnd ρ (f a) = some ρ1 ∧ Fe ρ1 = some (g a)) : fComp Fi bnd tT Fe ρ = some (.list (l.map g)) := by
  have := comp_eq (Ft := tT) (fun _ : α => true) g hi hl fun a ha => by
    obtain ⟨ρ1, h1, h2⟩ := h a ha
    exact ⟨ρ1, h1, rfl, fun _ => h2⟩
  rw [this, filter_all]

/-- a loop with an invariant over what is done -/
theorem for_inv {α : Type} {bnd : Rho → V → Option Rho} {body : RX} (f : α → V) (R : List α → Rho → Prop) : ∀ (rest done : List α) (ρ : Rho), R done ρ →
    (∀ (pre : List α) (a : α) (post : List α) (ρ : Rho), done ++ rest = pre ++ a :: post → R pre ρ → ∃ ρ1 ρ2, bnd ρ (f a) = some ρ1 ∧ body ρ1 = some (.next ρ2) ∧ R (pre ++ [a]) ρ2) →
    ∃ ρ', forGo bnd body ρ (rest.map f) = some (.next ρ') ∧ R (done ++ rest) ρ'
  | [], done, ρ, hr, _ => ⟨ρ, rfl, by rw [List.append_nil]; exact hr⟩
  | a :: rest, done, ρ, hr, h => by
    obtain ⟨ρ1, ρ2, h1, h2, h3⟩ := h done a rest ρ rfl hr
    obtain ⟨ρ', h4, h5⟩ := for_inv f R rest (done ++ [a]) ρ2 h3 fun pre b post σ e => h pre b post σ (by rw [← e]; simp)
    refine ⟨ρ', ?_, by simpa using h5⟩
    show (bnd ρ (f a)).bind _ = _
    rw [h1]
    show (body ρ1).bind _ = _
    rw [h2]
    exact h4

theorem enum_map {α : Type} (f : α → V) : ∀ (l : List α) (k : Nat), enumL k (l.map f) = (l.zipIdx k).map fun p => .tup [.int (p.2 : Nat), f p.1]
  | [], _ => rfl
  | a :: l, k => by
    show V.tup [.int k, f a] :: enumL (k + 1) (l.map f) = _
    rw [enum_map f l (k + 1)]; rfl

theorem intsOf_map : ∀ l : List Int, intsOf (l.map .int) = some l
  | [] => rfl
  | a :: l => by show (intsOf (l.map .int)).map _ = _; rw [intsOf_map l]; rfl
/-- the whole numbers of a list of naturals -/
noncomputable def nats (l : List Nat) : List V := l.map fun (n : Nat) => V.int (n : Int)
theorem intsOf_nats (l : List Nat) : intsOf (nats l) = some (l.map fun (n : Nat) => (n : Int)) := by
  have := intsOf_map (l.map fun (n : Nat) => (n : Int))
  rw [List.map_map] at this
  exact this
theorem any_nat (n : Nat) : ∀ l : List Nat, (l.map fun (n : Nat) => (n : Int)).any (· == (n : Int)) = decide (n ∈ l)
  | [] => rfl
  | a :: l => by
    rw [List.map_cons, List.any_cons, any_nat n l]
    by_cases h : a = n
    · subst h; simp
    · have h1 : ((a : Int) == (n : Int)) = false := by rw [beq_eq_false_iff_ne]; omega
      rw [h1, Bool.false_or]
      exact decide_eq_decide.mpr ⟨List.mem_cons_of_mem _, fun m => (List.mem_cons.mp m).resolve_left fun e => h e.symm⟩
theorem in_nats (n : Nat) (l : List Nat) : inI (.int (n : Int)) (nats l) = some (decide (n ∈ l)) := by
  show (intsOf (nats l)).map _ = _
  rw [intsOf_nats]
  exact congrArg some (any_nat n l)
theorem notIn_nats (n : Nat) (l : List Nat) : notIn (.int (n : Int)) (nats l) = some (!decide (n ∈ l)) := by
  unfold notIn; rw [in_nats]; rfl
theorem nats_len (l : List Nat) : (nats l).length = l.length := List.length_map ..
theorem nats_get (l : List Nat) (j : Nat) : (nats l)[j]? = (l[j]?).map fun (n : Nat) => V.int (n : Int) := List.getElem?_map ..
theorem nats_app (l m : List Nat) : nats l ++ nats m = nats (l ++ m) := List.map_append.symm

theorem seqIdx_nat (j len : Nat) (h : j < len) : seqIndex? (j : Int) len = some j := by
  unfold seqIndex?
  have h1 : ¬ ((j : Int) < 0) := by omega
  simp only [h1, if_false]
  rw [if_pos (by simp; omega)]; simp
theorem item_list {xs : List V} {j : Nat} {d : V} (h : xs[j]? = some d) (hl : xs.length < 1000) : itemV [.list xs, .int (j : Int)] = some d := by
  have hj : j < xs.length := (List.getElem?_eq_some_iff.mp h).1
  have hc : (decide ((-1000 : Int) < (j : Int)) && decide ((j : Int) < 1000) && decide (xs.length < 1000)) = true := by simp; omega
  show (if (decide ((-1000 : Int) < (j : Int)) && decide ((j : Int) < 1000) && decide (xs.length < 1000)) = true then (seqIndex? (j : Int) xs.length).bind fun j => xs[j]? else Option.none) = some d
  rw [if_pos hc, seqIdx_nat j _ hj]
  exact h
theorem item_tup {xs : List V} {j : Nat} {d : V} (h : xs[j]? = some d) (hl : xs.length < 1000) : itemV [.tup xs, .int (j : Int)] = some d := by
  have hj : j < xs.length := (List.getElem?_eq_some_iff.mp h).1
  have hc : (decide ((-1000 : Int) < (j : Int)) && decide ((j : Int) < 1000) && decide (xs.length < 1000)) = true := by simp; omega
  show (if (decide ((-1000 : Int) < (j : Int)) && decide ((j : Int) < 1000) && decide (xs.length < 1000)) = true then (seqIndex? (j : Int) xs.length).bind fun j => xs[j]? else Option.none) = some d
  rw [if_pos hc, seqIdx_nat j _ hj]
  exact h

/-! the words at data of a known kind, each by its own reduction -/
theorem addV_ii (a b : Int) : addV [.int a, .int b] = some (.int (a + b)) := rfl
theorem addV_ll (a b : List V) : addV [.list a, .list b] = if a.length + b.length < roof then some (.list (a ++ b)) else Option.none := rfl
theorem eqV_ss (a b : Str) : eqV [.str a, .str b] = some (.bool (a == b)) := rfl
theorem eqV_tt (a b : List V) : eqV [.tup a, .tup b] = (deepEq (.tup a) (.tup b)).map .bool := rfl
theorem neV_ii (a b : Int) : neV [.int a, .int b] = some (.bool (a != b)) := rfl
theorem isNV_n : isNV [.none, .none] = some (.bool true) := rfl
theorem isNV_i (a : Int) : isNV [.int a, .none] = some (.bool false) := rfl
theorem sliceV_s (x : Str) (l u : Option Int) : sliceV (.str x) l u = if x.length < roof then some (.str (Txt.slice x l u)) else Option.none := rfl
theorem sliceV_to (xs : List V) (y : Int) : sliceV (.list xs) Option.none (some y) = if 0 ≤ y && xs.length < roof then some (.list (xs.take y.toNat)) else Option.none := rfl
theorem sliceV_from (xs : List V) (x : Int) : sliceV (.list xs) (some x) Option.none = if 0 ≤ x && xs.length < roof then some (.list (xs.drop x.toNat)) else Option.none := rfl
theorem ltV_ii (a b : Int) : ltV [.int a, .int b] = some (.bool (decide (a < b))) := rfl
theorem leV_ii (a b : Int) : leV [.int a, .int b] = some (.bool (decide (a ≤ b))) := rfl
theorem lenV_l (xs : List V) : lenV [.list xs] = if xs.length < roof then some (.int xs.length) else Option.none := rfl
theorem lenV_s (x : Str) : lenV [.str x] = if x.length < roof then some (.int x.length) else Option.none := rfl
theorem typeNameV_s (x : Str) : typeNameV (.str x) = some "str" := rfl
theorem splitV_2 (x y : Str) : splitV [.str x, .str y] = if y.length ≠ 0 && x.length < roof then some (.list ((Txt.split x y).map .str)) else Option.none := rfl
theorem splitV_3 (x y : Str) (k : Int) : splitV [.str x, .str y, .int k] = if y.length ≠ 0 && x.length < roof && 0 ≤ k && k < 1000 then some (.list ((Txt.splitMax x y k).map .str)) else Option.none := rfl
theorem isiV_l (xs : List V) : isiV "list" (.list xs) = some true := rfl
theorem isiV_t (xs : List V) : isiV "list" (.tup xs) = some false := rfl
theorem item_two (a b c : V) : itemV [.list [a, b, c], .int 2] = some c := item_list (j := 2) rfl (by simp)
theorem negV_i (a : Int) : negV [.int a] = some (.int (-a)) := rfl
theorem notinStrV_ss (y x : Str) : notinStrV [.str y, .str x] = some (.bool (!(!(Builtin.Str.occurrences x y 0 x.length 1).isEmpty))) := rfl

theorem slice_nn (l : List Nat) {a b : Nat} (hab : a ≤ b) (hb : b ≤ l.length) : Txt.slice (mkS l) (some (a : Int)) (some (b : Int)) = mkS ((l.drop a).take (b - a)) :=
  StrLaws.sliceText_nat (mkS l) hab (by rw [mkS_len]; exact hb)
theorem slice_to (l : List Nat) {b : Nat} (hb : b ≤ l.length) : Txt.slice (mkS l) none (some (b : Int)) = mkS (l.take b) := by
  have h := slice_nn l (Nat.zero_le b) hb
  unfold Txt.slice at h ⊢
  rw [StrLaws.sliceIdx_none_lo]
  exact h
theorem slice_from (l : List Nat) {a : Nat} (ha : a ≤ l.length) : Txt.slice (mkS l) (some (a : Int)) none = mkS (l.drop a) := by
  have h := slice_nn l ha (Nat.le_refl _)
  rw [List.take_of_length_le (by simp)] at h
  unfold Txt.slice at h ⊢
  rw [StrLaws.sliceIdx_none_hi, mkS_len]
  rw [mkS_len] at h
  exact h

theorem strsOf_mk : ∀ l : List (List Nat), strsOf (l.map fun n => V.str (mkS n)) = some (l.map mkS)
  | [] => rfl
  | a :: l => by show (strsOf (l.map _)).map _ = _; rw [strsOf_mk l]; rfl
theorem join_V (c : List Nat) (l : List (List Nat)) (h : ((l.map mkS).map (·.length)).sum + (l.map mkS).length * c.length < roof) : joinV [.str (mkS c), .list (l.map fun n => V.str (mkS n))] = some (.str (mkS (jn c l))) := by
  show (strsOf _).bind _ = _
  rw [strsOf_mk]
  show (if _ then _ else _) = _
  rw [if_pos (by rw [mkS_len]; exact h), join_mk]

/-- data is equal to itself -/
theorem deepEq_self {d : V} {p : PyData} (h : toPy d = some p) (hs : SeqAt.shaped p = true) : deepEq d d = some true := by
  unfold deepEq
  rw [h]
  show (some p).bind _ = _
  show (if _ then _ else _) = _
  rw [hs, SeqAt.eqv_refl p (SeqAt.canLay_of_shaped hs)]
  rfl
end Mine
end

section
namespace Mine
open PySem PySem.Calls PyProof.Rows
open PySem.Builtin PySem.Builtin.Str

theorem q_mk : ("\"" : Str) = mkS [34] := by decide +kernel
theorem e_mk : ("" : Str) = mkS [] := by decide +kernel
theorem t_mk : ("'" : Str) = mkS [39] := by decide +kernel

/-- the loop's body in _strip_quoted_realnames -/
noncomputable def stripB : RX := (andThen (xIte (bC eqV (fV 5) (fS "\"")) (andThen (xIte (bC isNV (fV 2) fN) (andThen (xAsg (fV 4) (b1 2))
  xNil) (andThen (xIte (bC neV (fV 1) (fV 2)) (andThen (xApp 3 (fSs (fV 0) (pS (fV 1)) (pS (fV 2))))
  xNil) xNil)
  (andThen (xAsg (f2 addV (fV 4) (fI 1)) (b1 1))
  (andThen (xAsg fN (b1 2))
  xNil))))
  xNil) xNil)
  xNil)
noncomputable def txts (l : List (List Nat)) : List V := l.map fun n => V.str (mkS n)
theorem strs_app (l m : List (List Nat)) : txts l ++ txts m = txts (l ++ m) := List.map_append.symm
noncomputable def oV : Option Nat → V
  | none => .none
  | some n => .int (n : Int)
structure SSt (L : List Nat) (s : Nat) (o : Option Nat) (R : List (List Nat)) (ρ : Rho) : Prop where
  addr : get ρ 0 = some (.str (mkS L))
  start : get ρ 1 = some (.int (s : Int))
  opn : get ρ 2 = some (oV o)
  res : get ρ 3 = some (.list (txts R))
noncomputable abbrev sB : Rho → V → Option Rho := bT [("pos", 4), ("ch", 5)]

theorem s_other {L : List Nat} {s : Nat} {o : Option Nat} {R : List (List Nat)} {ρ : Rho} (h : SSt L s o R ρ) (p : Int) {c : List Nat} (hc : c ≠ [34]) (rest : List V) :
    ∃ ρ', forGo sB stripB ρ (.tup [.int p, .str (mkS c)] :: rest) = forGo sB stripB ρ' rest ∧ SSt L s o R ρ' := by
  have hne : (mkS c == mkS [34]) = false := by
    rw [beq_eq_false_iff_ne]; exact fun e => hc (mkS_inj e)
  refine ⟨put (put ρ 4 (.int p)) 5 (.str (mkS c)), ?_, ?_⟩
  · rw [forGo]
    simp [sB, stripB, fI, fS, fF, fN, fT, fV, lV, lOf, lTup, a0, aC, fTup, fList, f2, f1, fC, fM, bC, bV, bNot, bAnd, bOr, bIn, aAnd, fB, fIte, pN, pS, fSl, fSs, fIsi, lRange, fRange, lStr, fLen, b1, bT, tT, one, xNil, xAsg, xAsc, xOwn, xApp, xAug, xSwap, xIte, xRet, xFrz, andThen, putAll, asSeq, asList, asInt, asStr, asTup, asBool, Option.bind_some, Option.map_some, gp, roof, eqV_ss, q_mk, hne]
  · exact ⟨by simp [gp, h.addr], by simp [gp, h.start], by simp [gp, h.opn], by simp [gp, h.res]⟩

theorem s_open {L : List Nat} {s : Nat} {R : List (List Nat)} {ρ : Rho} (h : SSt L s none R ρ) (p : Nat) (rest : List V) :
    ∃ ρ', forGo sB stripB ρ (.tup [.int (p : Int), .str (mkS [34])] :: rest) = forGo sB stripB ρ' rest ∧ SSt L s (some p) R ρ' := by
  have ho := h.opn
  simp only [oV] at ho
  refine ⟨put (put (put ρ 4 (.int p)) 5 (.str (mkS [34]))) 2 (.int p), ?_, ?_⟩
  · rw [forGo]
    simp [sB, stripB, fI, fS, fF, fN, fT, fV, lV, lOf, lTup, a0, aC, fTup, fList, f2, f1, fC, fM, bC, bV, bNot, bAnd, bOr, bIn, aAnd, fB, fIte, pN, pS, fSl, fSs, fIsi, lRange, fRange, lStr, fLen, b1, bT, tT, one, xNil, xAsg, xAsc, xOwn, xApp, xAug, xSwap, xIte, xRet, xFrz, andThen, putAll, asSeq, asList, asInt, asStr, asTup, asBool, Option.bind_some, Option.map_some, gp, roof, eqV_ss, q_mk, isNV_n, ho]
  · exact ⟨by simp [gp, h.addr], by simp [gp, h.start], by simp [gp, oV], by simp [gp, h.res]⟩

theorem s_close {L : List Nat} {s q : Nat} {R : List (List Nat)} {ρ : Rho} (h : SSt L s (some q) R ρ) (hs : s ≤ q) (hq : q ≤ L.length) (hL : L.length < 1000) (hR : R.length < 1000) (p : Nat) (rest : List V) :
    ∃ ρ', forGo sB stripB ρ (.tup [.int (p : Int), .str (mkS [34])] :: rest) = forGo sB stripB ρ' rest ∧ SSt L (p + 1) none (if s = q then R else R ++ [(L.drop s).take (q - s)]) ρ' := by
  have ho := h.opn
  simp only [oV] at ho
  by_cases e : s = q
  · subst e
    refine ⟨put (put (put (put ρ 4 (.int p)) 5 (.str (mkS [34]))) 1 (.int ((p : Int) + 1))) 2 .none, ?_, ?_⟩
    · rw [forGo]
      simp [sB, stripB, fI, fS, fF, fN, fT, fV, lV, lOf, lTup, a0, aC, fTup, fList, f2, f1, fC, fM, bC, bV, bNot, bAnd, bOr, bIn, aAnd, fB, fIte, pN, pS, fSl, fSs, fIsi, lRange, fRange, lStr, fLen, b1, bT, tT, one, xNil, xAsg, xAsc, xOwn, xApp, xAug, xSwap, xIte, xRet, xFrz, andThen, putAll, asSeq, asList, asInt, asStr, asTup, asBool, Option.bind_some, Option.map_some, gp, roof, eqV_ss, neV_ii, addV_ii, q_mk, isNV_i, ho, h.start]
    · rw [if_pos rfl]
      exact ⟨by simp [gp, h.addr], by simp [gp], by simp [gp, oV], by simp [gp, h.res]⟩
  · refine ⟨put (put (put (put (put ρ 4 (.int p)) 5 (.str (mkS [34]))) 3 (.list (txts R ++ [.str (mkS ((L.drop s).take (q - s)))]))) 1 (.int ((p : Int) + 1))) 2 .none, ?_, ?_⟩
    · have e' : ((s : Int) != (q : Int)) = true := by rw [bne_iff_ne]; omega
      have hlen : (txts R).length < 10000 := by unfold txts; rw [List.length_map]; omega
      have hlen' : (mkS L).length < 100000 := by rw [mkS_len]; omega
      rw [forGo]
      simp [sB, stripB, fI, fS, fF, fN, fT, fV, lV, lOf, lTup, a0, aC, fTup, fList, f2, f1, fC, fM, bC, bV, bNot, bAnd, bOr, bIn, aAnd, fB, fIte, pN, pS, fSl, fSs, fIsi, lRange, fRange, lStr, fLen, b1, bT, tT, one, xNil, xAsg, xAsc, xOwn, xApp, xAug, xSwap, xIte, xRet, xFrz, andThen, putAll, asSeq, asList, asInt, asStr, asTup, asBool, Option.bind_some, Option.map_some, gp, roof, eqV_ss, neV_ii, addV_ii, q_mk, isNV_i, ho, h.start, h.addr, h.res, e', sliceV_s, hlen, hlen', slice_nn L hs hq]
    · rw [if_neg e]
      exact ⟨by simp [gp, h.addr], by simp [gp], by simp [gp, oV], by simp [gp, txts]⟩

/-- signs that are no marks -/
noncomputable def Plain (a : List Nat) : Prop := ∀ c ∈ a, c ≠ 34 ∧ c ≠ 92 ∧ c < 128

theorem seg_plain {L : List Nat} {s : Nat} {o : Option Nat} {R : List (List Nat)} (b : List Nat) : ∀ (a : List Nat) (n : Nat) {ρ : Rho}, SSt L s o R ρ → Plain a →
    ∃ ρ', forGo sB stripB ρ (escGo n false (a ++ b)) = forGo sB stripB ρ' (escGo (n + a.length) false b) ∧ SSt L s o R ρ'
  | [], n, ρ, h, _ => ⟨ρ, rfl, h⟩
  | c :: a, n, ρ, h, ha => by
    have hc := ha c (List.mem_cons_self ..)
    have e : escGo n false (c :: a ++ b) = .tup [.int (n : Int), .str (mkS [c])] :: escGo (n + 1) false (a ++ b) := by
      show escGo n false (c :: (a ++ b)) = _
      rw [escGo, if_neg hc.2.1]; rfl
    obtain ⟨ρ1, h1, h2⟩ := s_other h (n : Int) (c := [c]) (by simpa using hc.1) (escGo (n + 1) false (a ++ b))
    obtain ⟨ρ2, h3, h4⟩ := seg_plain b a (n + 1) h2 fun d m => ha d (List.mem_cons_of_mem _ m)
    refine ⟨ρ2, ?_, h4⟩
    rw [e, h1, h3, List.length_cons, Nat.add_assoc, Nat.add_comm 1]

/-- the marks that the law lays -/
noncomputable def pieces : List (List Nat) := [[], [34, 39, 34], [34, 34], [34, 57, 39, 92, 34, 39, 34]]

theorem seg_piece {L : List Nat} {s : Nat} {R : List (List Nat)} (b : List Nat) (n : Nat) {q : List Nat} (hq : q ∈ pieces) (h0 : q ≠ []) {ρ : Rho} (h : SSt L s none R ρ) (hs : s ≤ n) (hn : n ≤ L.length) (hL : L.length < 1000) (hR : R.length < 1000) :
    ∃ ρ', forGo sB stripB ρ (escGo n false (q ++ b)) = forGo sB stripB ρ' (escGo (n + q.length) false b) ∧ SSt L (n + q.length) none (if s = n then R else R ++ [(L.drop s).take (n - s)]) ρ' := by
  simp only [pieces, List.mem_cons, List.not_mem_nil, or_false] at hq
  rcases hq with rfl | rfl | rfl | rfl
  · exact (h0 rfl).elim
  · obtain ⟨ρ1, e1, h1⟩ := s_open h n (escGo (n + 1) false (39 :: 34 :: b))
    obtain ⟨ρ2, e2, h2⟩ := s_other h1 ((n + 1 : Nat) : Int) (c := [39]) (by decide) (escGo (n + 1 + 1) false (34 :: b))
    obtain ⟨ρ3, e3, h3⟩ := s_close h2 hs hn hL hR (n + 1 + 1) (escGo (n + 1 + 1 + 1) false b)
    refine ⟨ρ3, ?_, h3⟩
    exact e1.trans (e2.trans e3)
  · obtain ⟨ρ1, e1, h1⟩ := s_open h n (escGo (n + 1) false (34 :: b))
    obtain ⟨ρ3, e3, h3⟩ := s_close h1 hs hn hL hR (n + 1) (escGo (n + 1 + 1) false b)
    refine ⟨ρ3, ?_, h3⟩
    exact e1.trans e3
  · obtain ⟨ρ1, e1, h1⟩ := s_open h n (escGo (n + 1) false (57 :: 39 :: 92 :: 34 :: 39 :: 34 :: b))
    obtain ⟨ρ2, e2, h2⟩ := s_other h1 ((n + 1 : Nat) : Int) (c := [57]) (by decide) (escGo (n + 1 + 1) false (39 :: 92 :: 34 :: 39 :: 34 :: b))
    obtain ⟨ρ3, e3, h3⟩ := s_other h2 ((n + 1 + 1 : Nat) : Int) (c := [39]) (by decide) (escGo (n + 1 + 1 + 1) false (92 :: 34 :: 39 :: 34 :: b))
    obtain ⟨ρ4, e4, h4⟩ := s_other h3 ((n + 1 + 1 + 1 + 1 : Nat) : Int) (c := [92, 34]) (by decide) (escGo (n + 1 + 1 + 1 + 1 + 1) false (39 :: 34 :: b))
    obtain ⟨ρ5, e5, h5⟩ := s_other h4 ((n + 1 + 1 + 1 + 1 + 1 : Nat) : Int) (c := [39]) (by decide) (escGo (n + 1 + 1 + 1 + 1 + 1 + 1) false (34 :: b))
    obtain ⟨ρ6, e6, h6⟩ := s_close h5 hs hn hL hR (n + 1 + 1 + 1 + 1 + 1 + 1) (escGo (n + 1 + 1 + 1 + 1 + 1 + 1 + 1) false b)
    refine ⟨ρ6, ?_, h6⟩
    exact e1.trans (e2.trans (e3.trans (e4.trans (e5.trans e6))))
end Mine
end

section
namespace Mine
open PySem PySem.Calls PyProof.Rows
open PySem.Builtin PySem.Builtin.Str

theorem F_strip_def : F_strip = (andThen (xIte (bC notinStrV (fS "\"") (fV 0)) (andThen (xRet (fV 0))
  xNil) xNil)
  (andThen (xAsg (fI 0) (b1 1))
  (andThen (xAsg fN (b1 2))
  (andThen (xOwn a0 3)
  (andThen (xEsc (fV 0) sB stripB)
  (andThen (xIte (bC ltV (fV 1) (fC lenV (aC (fV 0) a0))) (andThen (xApp 3 (fSs (fV 0) (pS (fV 1)) pN))
  xNil) xNil)
  (xFrz 3 6 (andThen (xRet (fM "str" joinV (fS "") (aC (fV 6) a0)))
  xNil)))))))) := rfl

theorem strip_none (l : List Nat) (h : 34 ∉ l) : W_strip [.str (mkS l)] = some (.str (mkS l)) := by
  have hf : (!(occurrences (mkS l) (mkS [34]) 0 (mkS l).length 1).isEmpty) = decide (34 ∈ (mkS l).cps.toList) := StrLaws.found_one (mkS l) 34
  have hd : decide (34 ∈ (mkS l).cps.toList) = false := decide_eq_false h
  rw [hd] at hf
  have hf' : (occurrences (mkS l) (mkS [34]) 0 (mkS l).length 1).isEmpty = true := by rw [Bool.not_eq_eq_eq_not] at hf; exact hf
  unfold W_strip runF
  rw [F_strip_def]
  simp [ps_strip, fI, fS, fF, fN, fT, fV, lV, lOf, lTup, a0, aC, fTup, fList, f2, f1, fC, fM, bC, bV, bNot, bAnd, bOr, bIn, aAnd, fB, fIte, pN, pS, fSl, fSs, fIsi, lRange, fRange, lStr, fLen, b1, bT, tT, one, xNil, xAsg, xAsc, xOwn, xApp, xAug, xSwap, xIte, xRet, xFrz, andThen, putAll, asSeq, asList, asInt, asStr, asTup, asBool, Option.bind_some, Option.map_some, gp, roof, notinStrV_ss, q_mk, hf']

theorem esc_end_plain : ∀ (a b : List Nat), Plain a → escEnd false (a ++ b) = escEnd false b
  | [], _, _ => rfl
  | c :: a, b, h => by
    have hc := h c (List.mem_cons_self ..)
    show escEnd (c == 92) (a ++ b) = _
    rw [(beq_eq_false_iff_ne).mpr hc.2.1]
    exact esc_end_plain a b fun d m => h d (List.mem_cons_of_mem _ m)
theorem esc_end_piece {q : List Nat} (hq : q ∈ pieces) (b : List Nat) : escEnd false (q ++ b) = escEnd false b := by
  simp only [pieces, List.mem_cons, List.not_mem_nil, or_false] at hq
  rcases hq with rfl | rfl | rfl | rfl <;> rfl
theorem piece_ascii {q : List Nat} (hq : q ∈ pieces) : ∀ c ∈ q, c < 128 := by
  simp only [pieces, List.mem_cons, List.not_mem_nil, or_false] at hq
  rcases hq with rfl | rfl | rfl | rfl <;> decide
theorem piece_short {q : List Nat} (hq : q ∈ pieces) : q.length ≤ 7 := by
  simp only [pieces, List.mem_cons, List.not_mem_nil, or_false] at hq
  rcases hq with rfl | rfl | rfl | rfl <;> decide
theorem piece_mark {q : List Nat} (hq : q ∈ pieces) (h0 : q ≠ []) : 34 ∈ q := by
  simp only [pieces, List.mem_cons, List.not_mem_nil, or_false] at hq
  rcases hq with rfl | rfl | rfl | rfl
  · exact (h0 rfl).elim
  all_goals decide

/-- what is left of the loop -/
theorem strip_loop {p1 a p2 b : List Nat} (h1 : p1 ∈ pieces) (h2 : p2 ∈ pieces) (ha : Plain a) (hb : Plain b) (hl : (p1 ++ (a ++ (p2 ++ b))).length < 1000) {ρ : Rho} (hr : SSt (p1 ++ (a ++ (p2 ++ b))) 0 none [] ρ) :
    ∃ ρ' s R, forGo sB stripB ρ (escGo 0 false (p1 ++ (a ++ (p2 ++ b)))) = some (.next ρ') ∧ SSt (p1 ++ (a ++ (p2 ++ b))) s none R ρ' ∧ s ≤ (p1 ++ (a ++ (p2 ++ b))).length ∧ R.length ≤ 2 ∧ R.flatten ++ (p1 ++ (a ++ (p2 ++ b))).drop s = a ++ b ∧ R.flatten.length ≤ a.length := by
  have s1 : ∃ ρ1, forGo sB stripB ρ (escGo 0 false (p1 ++ (a ++ (p2 ++ b)))) = forGo sB stripB ρ1 (escGo p1.length false (a ++ (p2 ++ b))) ∧ SSt (p1 ++ (a ++ (p2 ++ b))) p1.length none [] ρ1 := by
    by_cases e : p1 = []
    · subst e; exact ⟨ρ, rfl, hr⟩
    · obtain ⟨ρ1, e1, hr1⟩ := seg_piece (a ++ (p2 ++ b)) 0 h1 e hr (Nat.le_refl _) (Nat.zero_le _) hl (by decide)
      rw [if_pos rfl, Nat.zero_add] at hr1
      rw [Nat.zero_add] at e1
      exact ⟨ρ1, e1, hr1⟩
  obtain ⟨ρ1, e1, hr1⟩ := s1
  obtain ⟨ρ2, e2, hr2⟩ := seg_plain (p2 ++ b) a p1.length hr1 ha
  have hlen : (p1 ++ (a ++ (p2 ++ b))).length = p1.length + (a.length + (p2.length + b.length)) := by simp
  by_cases e : p2 = []
  · subst e
    obtain ⟨ρ3, e3, hr3⟩ := seg_plain [] b (p1.length + a.length) hr2 hb
    rw [List.append_nil] at e3
    refine ⟨ρ3, p1.length, [], e1.trans (e2.trans (e3.trans rfl)), hr3, by omega, by decide, ?_, by simp⟩
    simp
  · obtain ⟨ρ3, e3, hr3⟩ := seg_piece b (p1.length + a.length) h2 e hr2 (by omega) (by omega) hl (by decide)
    obtain ⟨ρ4, e4, hr4⟩ := seg_plain [] b (p1.length + a.length + p2.length) hr3 hb
    rw [List.append_nil] at e4
    have hd : (p1 ++ (a ++ (p2 ++ b))).drop (p1.length + a.length + p2.length) = b := by
      rw [show p1 ++ (a ++ (p2 ++ b)) = (p1 ++ a ++ p2) ++ b by simp, show p1.length + a.length + p2.length = (p1 ++ a ++ p2).length by simp [Nat.add_assoc]]
      exact List.drop_left
    refine ⟨ρ4, _, _, e1.trans (e2.trans (e3.trans (e4.trans rfl))), hr4, by omega, ?_, ?_, ?_⟩
    · split <;> simp
    · rw [hd]
      by_cases e5 : p1.length = p1.length + a.length
      · rw [if_pos e5]
        have : a = [] := List.length_eq_zero_iff.mp (by omega)
        rw [this]; rfl
      · rw [if_neg e5, List.drop_left, Nat.add_sub_cancel_left, List.take_left]
        simp
    · by_cases e5 : p1.length = p1.length + a.length
      · rw [if_pos e5]; exact Nat.zero_le _
      · rw [if_neg e5, List.drop_left, Nat.add_sub_cancel_left, List.take_left]
        simp

theorem strip_loop_law {p1 a p2 b : List Nat} (h1 : p1 ∈ pieces) (h2 : p2 ∈ pieces) (ha : Plain a) (hb : Plain b) (hl : (p1 ++ (a ++ (p2 ++ b))).length < 1000) :
    W_strip [.str (mkS (p1 ++ (a ++ (p2 ++ b))))] = some (.str (mkS (a ++ b))) := by
  by_cases h0 : p1 = [] ∧ p2 = []
  · obtain ⟨e1, e2⟩ := h0
    subst e1; subst e2
    refine strip_none _ fun m => ?_
    rcases List.mem_append.mp (show 34 ∈ a ++ b from m) with m | m
    · exact (ha 34 m).1 rfl
    · exact (hb 34 m).1 rfl
  · have hm : 34 ∈ p1 ++ (a ++ (p2 ++ b)) := by
      by_cases e : p1 = []
      · have := piece_mark h2 fun e' => h0 ⟨e, e'⟩
        simp [this]
      · have := piece_mark h1 e
        simp [this]
    have hf : (!(occurrences (mkS (p1 ++ (a ++ (p2 ++ b)))) (mkS [34]) 0 (mkS (p1 ++ (a ++ (p2 ++ b)))).length 1).isEmpty) = decide (34 ∈ (mkS (p1 ++ (a ++ (p2 ++ b)))).cps.toList) := StrLaws.found_one (mkS (p1 ++ (a ++ (p2 ++ b)))) 34
    have hd : decide (34 ∈ (mkS (p1 ++ (a ++ (p2 ++ b)))).cps.toList) = true := decide_eq_true hm
    rw [hd] at hf
    have hf' : (occurrences (mkS (p1 ++ (a ++ (p2 ++ b)))) (mkS [34]) 0 (mkS (p1 ++ (a ++ (p2 ++ b)))).length 1).isEmpty = false := by rw [Bool.not_eq_eq_eq_not] at hf; exact hf
    have hasc : ∀ c ∈ p1 ++ (a ++ (p2 ++ b)), c < 128 := by
      intro c m
      simp only [List.mem_append] at m
      rcases m with m | m | m | m
      · exact piece_ascii h1 c m
      · exact (ha c m).2.2
      · exact piece_ascii h2 c m
      · exact (hb c m).2.2
    have hend : escEnd false (p1 ++ (a ++ (p2 ++ b))) = false := by
      rw [esc_end_piece h1, esc_end_plain a _ ha, esc_end_piece h2, ← List.append_nil b, esc_end_plain b [] hb]; rfl
    have hflat : (p1 ++ (a ++ (p2 ++ b))).length = p1.length + (a.length + (p2.length + b.length)) := by simp
    generalize hL : p1 ++ (a ++ (p2 ++ b)) = L at *
    let ρ0 : Rho := put (put (put (put [] 0 (.str (mkS L))) 1 (.int 0)) 2 .none) 3 (.list [])
    have hr0 : SSt L 0 none [] ρ0 := ⟨by simp [ρ0, gp], by simp [ρ0, gp], by simp [ρ0, gp, oV], by simp [ρ0, gp, txts]⟩
    have key := strip_loop h1 h2 ha hb (by rw [hL]; exact hl) (ρ := ρ0) (by rw [hL]; exact hr0)
    rw [hL] at key
    obtain ⟨ρ', s, R, e1, hr, hs, hR2, hRf, hRl⟩ := key
    have hall : (mkS L).cps.all (· < 128) = true := by
      rw [← Array.all_toList]
      exact List.all_eq_true.mpr fun c m => decide_eq_true (hasc c m)
    have hesc : xEsc (fV 0) sB stripB ρ0 = some (.next ρ') := by
      unfold xEsc
      have : fV 0 ρ0 = some (.str (mkS L)) := hr0.addr
      rw [this]
      show (if ((mkS L).cps.all (· < 128) && !escEnd false L) = true then forGo sB stripB ρ0 (escGo 0 false L) else none) = _
      rw [hall, hend, e1]; rfl
    have hsl : (mkS L).length < 100000 := by rw [mkS_len]; omega
    have hsl' : L.length < 100000 := by omega
    have hlen' : (txts R).length < 10000 := by unfold txts; rw [List.length_map]; omega
    have hnot : bC notinStrV (fS "\"") (fV 0) (put [] 0 (.str (mkS L))) = some false := by
      simp only [fI, fS, fF, fN, fT, fV, lV, lOf, lTup, a0, aC, fTup, fList, f2, f1, fC, fM, bC, bV, bNot, bAnd, bOr, bIn, aAnd, fB, fIte, pN, pS, fSl, fSs, fIsi, lRange, fRange, lStr, fLen, b1, bT, tT, one, xNil, xAsg, xAsc, xOwn, xApp, xAug, xSwap, xIte, xRet, xFrz, andThen, putAll, asSeq, asList, asInt, asStr, asTup, asBool, Option.bind_some, Option.map_some, gp, roof, notinStrV_ss, q_mk, hf', if_true, Bool.not_false, Bool.not_true]
    have hrest : ∀ r, andThen (xIte (bC ltV (fV 1) (fC lenV (aC (fV 0) a0))) (andThen (xApp 3 (fSs (fV 0) (pS (fV 1)) pN)) xNil) xNil)
          (xFrz 3 6 (andThen (xRet (fM "str" joinV (fS "") (aC (fV 6) a0))) xNil)) ρ' = r → W_strip [.str (mkS L)] = r.map fun r => match r with
            | .ret d => d
            | .next _ => .none := by
      intro r h
      unfold W_strip runF
      rw [F_strip_def]
      show ((andThen _ _ (put [] 0 (.str (mkS L)))).map _) = _
      rw [at_next (ite_f hnot rfl) (at_next (asg_eq rfl rfl) (at_next (asg_eq rfl rfl) (at_next (F := xOwn a0 3) (ρ1 := ρ0) rfl (at_next hesc h))))]
      try rfl
    by_cases hc : s < L.length
    · have hj := join_V [] (R ++ [L.drop s]) (by
        have : (List.map (fun x => Str.length x) (List.map mkS (R ++ [List.drop s L]))).sum = (R ++ [L.drop s]).flatten.length := by
          rw [List.length_flatten, List.map_map]; congr 1
        rw [this]
        simp only [List.length_nil, Nat.mul_zero, Nat.add_zero, List.flatten_append, List.length_append, List.flatten_singleton, List.length_drop]
        unfold roof
        omega)
      rw [jn_nil_sep, List.flatten_append, List.flatten_singleton, hRf] at hj
      have hj' : joinV [V.str (mkS []), V.list (txts R ++ [V.str (mkS (List.drop s L))])] = some (V.str (mkS (a ++ b))) := by
        rw [← hj, List.map_append]; rfl
      have hc' : ((s : Int) < (L.length : Int)) := by omega
      have hcond : bC ltV (fV 1) (fC lenV (aC (fV 0) a0)) ρ' = some true := by
        simp [fI, fS, fF, fN, fT, fV, lV, lOf, lTup, a0, aC, fTup, fList, f2, f1, fC, fM, bC, bV, bNot, bAnd, bOr, bIn, aAnd, fB, fIte, pN, pS, fSl, fSs, fIsi, lRange, fRange, lStr, fLen, b1, bT, tT, one, xNil, xAsg, xAsc, xOwn, xApp, xAug, xSwap, xIte, xRet, xFrz, andThen, putAll, asSeq, asList, asInt, asStr, asTup, asBool, Option.bind_some, Option.map_some, gp, roof, ltV_ii, lenV_s, hr.addr, hr.start, hsl, hsl', mkS_len]
        omega
      have happ : xApp 3 (fSs (fV 0) (pS (fV 1)) pN) ρ' = some (.next (put ρ' 3 (.list (txts R ++ [.str (mkS (L.drop s))])))) := by
        simp [fI, fS, fF, fN, fT, fV, lV, lOf, lTup, a0, aC, fTup, fList, f2, f1, fC, fM, bC, bV, bNot, bAnd, bOr, bIn, aAnd, fB, fIte, pN, pS, fSl, fSs, fIsi, lRange, fRange, lStr, fLen, b1, bT, tT, one, xNil, xAsg, xAsc, xOwn, xApp, xAug, xSwap, xIte, xRet, xFrz, andThen, putAll, asSeq, asList, asInt, asStr, asTup, asBool, Option.bind_some, Option.map_some, gp, roof, hr.addr, hr.start, hr.res, hsl, hlen', sliceV_s, slice_from L hs]
      rw [hrest _ (at_next (ite_t hcond (at_next happ rfl)) (frz_eq (d := .list (txts R ++ [.str (mkS (L.drop s))])) (by simp [gp]) (at_ret (ret_eq (d := .str (mkS (a ++ b))) (by simp [fI, fS, fF, fN, fT, fV, lV, lOf, lTup, a0, aC, fTup, fList, f2, f1, fC, fM, bC, bV, bNot, bAnd, bOr, bIn, aAnd, fB, fIte, pN, pS, fSl, fSs, fIsi, lRange, fRange, lStr, fLen, b1, bT, tT, one, xNil, xAsg, xAsc, xOwn, xApp, xAug, xSwap, xIte, xRet, xFrz, andThen, putAll, asSeq, asList, asInt, asStr, asTup, asBool, Option.bind_some, Option.map_some, gp, roof, typeNameV_s, e_mk, hj'])))))]
      rfl
    · have hj := join_V [] R (by
        have : (List.map (fun x => Str.length x) (List.map mkS R)).sum = R.flatten.length := by
          rw [List.length_flatten, List.map_map]; congr 1
        rw [this]
        simp only [List.length_nil, Nat.mul_zero, Nat.add_zero]
        unfold roof
        omega)
      rw [List.drop_eq_nil_of_le (by omega), List.append_nil] at hRf
      rw [jn_nil_sep, hRf] at hj
      have hj' : joinV [V.str (mkS []), V.list (txts R)] = some (V.str (mkS (a ++ b))) := hj
      have hcond : bC ltV (fV 1) (fC lenV (aC (fV 0) a0)) ρ' = some false := by
        simp [fI, fS, fF, fN, fT, fV, lV, lOf, lTup, a0, aC, fTup, fList, f2, f1, fC, fM, bC, bV, bNot, bAnd, bOr, bIn, aAnd, fB, fIte, pN, pS, fSl, fSs, fIsi, lRange, fRange, lStr, fLen, b1, bT, tT, one, xNil, xAsg, xAsc, xOwn, xApp, xAug, xSwap, xIte, xRet, xFrz, andThen, putAll, asSeq, asList, asInt, asStr, asTup, asBool, Option.bind_some, Option.map_some, gp, roof, ltV_ii, lenV_s, hr.addr, hr.start, hsl, hsl', mkS_len]
        omega
      rw [hrest _ (at_next (ite_f hcond rfl) (frz_eq (d := .list (txts R)) hr.res (at_ret (ret_eq (d := .str (mkS (a ++ b))) (by simp [fI, fS, fF, fN, fT, fV, lV, lOf, lTup, a0, aC, fTup, fList, f2, f1, fC, fM, bC, bV, bNot, bAnd, bOr, bIn, aAnd, fB, fIte, pN, pS, fSl, fSs, fIsi, lRange, fRange, lStr, fLen, b1, bT, tT, one, xNil, xAsg, xAsc, xOwn, xApp, xAug, xSwap, xIte, xRet, xFrz, andThen, putAll, asSeq, asList, asInt, asStr, asTup, asBool, Option.bind_some, Option.map_some, gp, roof, typeNameV_s, e_mk, hj'])))))]
      rfl
end Mine
end

section
namespace Mine
open PySem PySem.Calls PyProof.Rows
open PySem.Builtin PySem.Builtin.Str

noncomputable def NoTick (ns : List (List Nat)) : Prop := ∀ n ∈ ns, 39 ∉ n

theorem dec_long {a b d : List Nat} {r : List (List Nat)} (hn : NoTick (a :: b :: d :: r)) (hl : (jn [39] (a :: b :: d :: r)).length < 1000) :
    W_dec [.str (mkS (jn [39] (a :: b :: d :: r)))] = some (.list [.str (mkS a), .str (mkS b), .str (mkS (jn [39] (d :: r)))]) := by
  have hs := splitMax2 39 (ns := a :: b :: d :: r) (by simp) hn
  have hl' : (mkS (jn [39] (a :: b :: d :: r))).length < 100000 := by rw [mkS_len]; omega
  have ht : (mkS [39]).length = 1 := rfl
  unfold W_dec runF F_dec
  simp [ps_dec, fI, fS, fF, fN, fT, fV, lV, lOf, lTup, a0, aC, fTup, fList, f2, f1, fC, fM, bC, bV, bNot, bAnd, bOr, bIn, aAnd, fB, fIte, pN, pS, fSl, fSs, fIsi, lRange, fRange, lStr, fLen, b1, bT, tT, one, xNil, xAsg, xAsc, xOwn, xApp, xAug, xSwap, xIte, xRet, xFrz, andThen, putAll, asSeq, asList, asInt, asStr, asTup, asBool, Option.bind_some, Option.map_some, gp, roof, typeNameV_s, splitV_3, t_mk, ht, hl', hs, lenV_l, leV_ii]
theorem dec_short {ns : List (List Nat)} (h0 : ns ≠ []) (h2 : ns.length ≤ 2) (hn : NoTick ns) (hl : (jn [39] ns).length < 1000) :
    W_dec [.str (mkS (jn [39] ns))] = some (.tup [.none, .none, .str (mkS (jn [39] ns))]) := by
  have hs := splitMax2 39 h0 hn
  have hl' : (mkS (jn [39] ns)).length < 100000 := by rw [mkS_len]; omega
  have ht : (mkS [39]).length = 1 := rfl
  have hs' : Txt.splitMax (mkS (jn [39] ns)) (mkS [39]) 2 = ns.map mkS := by
    rw [hs]
    match ns, h2 with
    | [], _ => rfl
    | [a], _ => rfl
    | [a, b], _ => rfl
    | a :: b :: d :: r, h => exact absurd h (by simp)
  have h3 : ns.length < 100000 := by omega
  have h4 : (ns.length : Int) ≤ 2 := by omega
  unfold W_dec runF F_dec
  simp [ps_dec, fI, fS, fF, fN, fT, fV, lV, lOf, lTup, a0, aC, fTup, fList, f2, f1, fC, fM, bC, bV, bNot, bAnd, bOr, bIn, aAnd, fB, fIte, pN, pS, fSl, fSs, fIsi, lRange, fRange, lStr, fLen, b1, bT, tT, one, xNil, xAsg, xAsc, xOwn, xApp, xAug, xSwap, xIte, xRet, xFrz, andThen, putAll, asSeq, asList, asInt, asStr, asTup, asBool, Option.bind_some, Option.map_some, gp, roof, typeNameV_s, splitV_3, t_mk, ht, hl', hs', lenV_l, leV_ii, h3, h4]

/-- the laps of _law_read -/
noncomputable def readB : RX := (andThen (xAsg (fC W_dec (aC (fV 1) a0)) (b1 4))
  (andThen (xIte (bNot (bV (fIsi "list" (fV 4)))) (andThen (xRet (fIte (bC eqV (fV 4) (fTup (aC fN (aC fN (aC (fV 1) a0))))) (f2 addV (fV 2) (fM "str" splitV (fV 1) (aC (fS "'") a0))) fN))
  xNil) xNil)
  (andThen (xAsg (f2 addV (fV 2) (fSl (fV 4) pN (pS (fI 2)))) (b1 2))
  (andThen (xAsg (f2 itemV (fV 4) (fI 2)) (b1 1))
  xNil))))

theorem lap_go {a b d : List Nat} {r done : List (List Nat)} {ρ : Rho} (h1 : get ρ 1 = some (.str (mkS (jn [39] (a :: b :: d :: r))))) (h2 : get ρ 2 = some (.list (txts done))) (hn : NoTick (a :: b :: d :: r))
    (hl : (jn [39] (a :: b :: d :: r)).length < 1000) (hd : done.length < 100) (i : V) (rest : List V) :
    ∃ ρ', forGo (b1 3) readB ρ (i :: rest) = forGo (b1 3) readB ρ' rest ∧ get ρ' 1 = some (.str (mkS (jn [39] (d :: r)))) ∧ get ρ' 2 = some (.list (txts (done ++ [a, b]))) := by
  have e := dec_long hn hl
  have hlen : (txts done).length < 100 := by unfold txts; rw [List.length_map]; exact hd
  have hlen' : (txts done).length + 2 < 100000 := by omega
  refine ⟨put (put (put (put ρ 3 i) 4 (.list [.str (mkS a), .str (mkS b), .str (mkS (jn [39] (d :: r)))])) 2 (.list (txts done ++ [.str (mkS a), .str (mkS b)]))) 1 (.str (mkS (jn [39] (d :: r)))), ?_, by simp [gp], by simp [gp, txts]⟩
  rw [forGo]
  simp [readB, fI, fS, fF, fN, fT, fV, lV, lOf, lTup, a0, aC, fTup, fList, f2, f1, fC, fM, bC, bV, bNot, bAnd, bOr, bIn, aAnd, fB, fIte, pN, pS, fSl, fSs, fIsi, lRange, fRange, lStr, fLen, b1, bT, tT, one, xNil, xAsg, xAsc, xOwn, xApp, xAug, xSwap, xIte, xRet, xFrz, andThen, putAll, asSeq, asList, asInt, asStr, asTup, asBool, Option.bind_some, Option.map_some, gp, roof, h1, h2, e, isiV_l, addV_ll, sliceV_to, item_two, hlen']

theorem lap_end {ns done : List (List Nat)} {ρ : Rho} (h1 : get ρ 1 = some (.str (mkS (jn [39] ns)))) (h2 : get ρ 2 = some (.list (txts done))) (h0 : ns ≠ []) (h3 : ns.length ≤ 2) (hn : NoTick ns)
    (hl : (jn [39] ns).length < 1000) (ha : ∀ c ∈ jn [39] ns, c < 128) (hd : done.length < 100) (i : V) (rest : List V) :
    forGo (b1 3) readB ρ (i :: rest) = some (.ret (.list (txts (done ++ ns)))) := by
  have e := dec_short h0 h3 hn hl
  have hs := split_jn 39 h0 hn
  have ht : (mkS [39]).length = 1 := rfl
  have hlen2 : done.length + ns.length < 100000 := by omega
  have hlen : (txts done).length + ns.length < 100000 := by unfold txts; rw [List.length_map]; omega
  have hl' : (mkS (jn [39] ns)).length < 100000 := by rw [mkS_len]; omega
  have heq : deepEq (.tup [.none, .none, .str (mkS (jn [39] ns))]) (.tup [.none, .none, .str (mkS (jn [39] ns))]) = some true := by
    refine deepEq_self (p := .tuple [.none, .none, .str (mkS (jn [39] ns))]) (by simp [toPy, toPys]) ?_
    have hok : PyData.strOk (mkS (jn [39] ns)) = true := by
      unfold PyData.strOk
      rw [← Array.all_toList]
      exact List.all_eq_true.mpr fun c m => decide_eq_true (by have := ha c m; omega)
    simp [SeqAt.shaped, PyData.canLay0, PyData.canLayAll0, PyData.depth, PyData.depthAll, hok]
  rw [forGo]
  simp [readB, fI, fS, fF, fN, fT, fV, lV, lOf, lTup, a0, aC, fTup, fList, f2, f1, fC, fM, bC, bV, bNot, bAnd, bOr, bIn, aAnd, fB, fIte, pN, pS, fSl, fSs, fIsi, lRange, fRange, lStr, fLen, b1, bT, tT, one, xNil, xAsg, xAsc, xOwn, xApp, xAug, xSwap, xIte, xRet, xFrz, andThen, putAll, asSeq, asList, asInt, asStr, asTup, asBool, Option.bind_some, Option.map_some, gp, roof, h1, h2, e, isiV_t, eqV_tt, heq, addV_ll, typeNameV_s, splitV_2, t_mk, ht, hl', hs, hlen, hlen2, txts, Function.comp_def]

theorem F_read_def : F_read = (andThen (xAsg (fC W_strip (aC (fV 0) a0)) (b1 1))
  (andThen (xAsg (fList a0) (b1 2))
  (andThen (xFor (lRange (fI 3)) (b1 3) readB)
  (andThen (xRet fN)
  xNil)))) := rfl

theorem jn_tail_le {a b : List Nat} {r : List (List Nat)} : (jn [39] r).length ≤ (jn [39] (a :: b :: r)).length := by
  cases r with
  | nil => exact Nat.zero_le _
  | cons d r => 
    show (jn [39] (d :: r)).length ≤ (a ++ [39] ++ (b ++ [39] ++ jn [39] (d :: r))).length
    simp only [List.length_append]; omega
theorem jn_tail_mem {a b : List Nat} {r : List (List Nat)} {c : Nat} (h : c ∈ jn [39] r) : c ∈ jn [39] (a :: b :: r) := by
  cases r with
  | nil => exact (List.not_mem_nil h).elim
  | cons d r => 
    show c ∈ a ++ [39] ++ (b ++ [39] ++ jn [39] (d :: r))
    simp [h]

theorem read_law {ns : List (List Nat)} {x : Str} (hx : W_strip [.str x] = some (.str (mkS (jn [39] ns)))) (h0 : ns ≠ []) (h6 : ns.length ≤ 6) (hn : NoTick ns) (hl : (jn [39] ns).length < 1000) (ha : ∀ c ∈ jn [39] ns, c < 128) :
    W_read [.str x] = some (.list (txts ns)) := by
  let ρ0 : Rho := put (put (put [] 0 (.str x)) 1 (.str (mkS (jn [39] ns)))) 2 (.list [])
  have g1 : get ρ0 1 = some (.str (mkS (jn [39] ns))) := by simp [ρ0, gp]
  have g2 : get ρ0 2 = some (.list (txts [])) := by simp [ρ0, gp, txts]
  have key : forGo (b1 3) readB ρ0 (rangeL 3) = some (.ret (.list (txts ns))) := by
    show forGo (b1 3) readB ρ0 [.int 0, .int 1, .int 2] = _
    match ns, h0, h6, hn, hl, ha, g1 with
    | [a], h0, _, hn, hl, ha, g1 => exact lap_end g1 g2 h0 (by simp) hn hl ha (by decide) _ _
    | [a, b], h0, _, hn, hl, ha, g1 => exact lap_end g1 g2 h0 (by simp) hn hl ha (by decide) _ _
    | a :: b :: d :: r, h0, h6, hn, hl, ha, g1 =>
      obtain ⟨ρ1, e1, k1, k2⟩ := lap_go g1 g2 hn hl (by decide) (.int 0) [.int 1, .int 2]
      rw [e1]
      have hn1 : NoTick (d :: r) := fun n m => hn n (List.mem_cons_of_mem _ (List.mem_cons_of_mem _ m))
      have hl1 : (jn [39] (d :: r)).length < 1000 := Nat.lt_of_le_of_lt jn_tail_le hl
      have ha1 : ∀ c ∈ jn [39] (d :: r), c < 128 := fun c m => ha c (jn_tail_mem m)
      match r, h6, hn1, hl1, ha1, k1 with
      | [], _, hn1, hl1, ha1, k1 => exact lap_end k1 k2 (by simp) (by simp) hn1 hl1 ha1 (by simp) _ _
      | [e], _, hn1, hl1, ha1, k1 => exact lap_end k1 k2 (by simp) (by simp) hn1 hl1 ha1 (by simp) _ _
      | e :: f :: r, h6, hn1, hl1, ha1, k1 =>
        obtain ⟨ρ2, e2, k3, k4⟩ := lap_go k1 k2 hn1 hl1 (by simp) (.int 1) [.int 2]
        rw [e2]
        have hn2 : NoTick (f :: r) := fun n m => hn1 n (List.mem_cons_of_mem _ (List.mem_cons_of_mem _ m))
        have hl2 : (jn [39] (f :: r)).length < 1000 := Nat.lt_of_le_of_lt jn_tail_le hl1
        have ha2 : ∀ c ∈ jn [39] (f :: r), c < 128 := fun c m => ha1 c (jn_tail_mem m)
        rw [lap_end k3 k4 (by simp) (by simp at h6 ⊢; omega) hn2 hl2 ha2 (by simp) _ _]
        simp
  unfold W_read runF
  rw [F_read_def]
  show ((andThen _ _ (put [] 0 (.str x))).map _) = _
  rw [at_next (asg_eq (d := .str (mkS (jn [39] ns))) (by simp [fI, fS, fF, fN, fT, fV, lV, lOf, lTup, a0, aC, fTup, fList, f2, f1, fC, fM, bC, bV, bNot, bAnd, bOr, bIn, aAnd, fB, fIte, pN, pS, fSl, fSs, fIsi, lRange, fRange, lStr, fLen, b1, bT, tT, one, xNil, xAsg, xAsc, xOwn, xApp, xAug, xSwap, xIte, xRet, xFrz, andThen, putAll, asSeq, asList, asInt, asStr, asTup, asBool, Option.bind_some, Option.map_some, gp, roof, hx]) rfl) (at_next (asg_eq (d := .list []) rfl rfl) (at_ret (d := .list (txts ns)) (by
    show (lRange (fI 3) ρ0).bind _ = _
    exact key)))]
  rfl
end Mine
end

section
namespace Mine
open PySem PySem.Calls PyProof.Rows
open PySem.Builtin PySem.Builtin.Str
set_option maxRecDepth 100000

theorem pick_int (c : Bool) (a b : Int) : (some c : Option Bool).map (fun k => if k then V.int b else V.int a) = some (.int (if c = true then b else a)) := by cases c <;> rfl
theorem minV2 (a b : Int) : minV [.int a, .int b] = some (.int (if b < a then b else a)) := by
  rw [show minV [.int a, .int b] = (some (decide (b < a)) : Option Bool).map (fun k => if k then V.int b else V.int a) from rfl, pick_int]
  simp only [decide_eq_true_eq]
theorem maxV2 (a b : Int) : maxV [.int a, .int b] = some (.int (if a < b then b else a)) := by
  rw [show maxV [.int a, .int b] = (some (decide (a < b)) : Option Bool).map (fun k => if k then V.int b else V.int a) from rfl, pick_int]
  simp only [decide_eq_true_eq]

/-- one part of a colour -/
noncomputable def partE : RV := (f2 addV (f2 fdivV (fV 8) (fI 3)) (f2 mulV (f2 addV (fI 1) (f2 modV (fV 8) (fI 3))) (fC maxV (aC (fI 0) (aC (fC minV (aC (fI 2) (aC (f2 subV (fI 4) (fC absV (aC (f2 subV (f2 modV (f2 addV (f2 subV (fV 16) (f2 itemV (fV 6) (fV 7))) (fI 6)) (fI 12)) (fI 6)) a0))) a0))) a0)))))
noncomputable def partZ (h lamp : Int) : Int := 4 - (if (lamp - h + 6).fmod 12 - 6 < 0 then -((lamp - h + 6).fmod 12 - 6) else (lamp - h + 6).fmod 12 - 6)
noncomputable def partM (z : Int) : Int := if z < 2 then z else 2
noncomputable def partI (h s lamp : Int) : Int := s.fdiv 3 + (1 + s.fmod 3) * (if 0 < partM (partZ h lamp) then partM (partZ h lamp) else 0)

theorem part_check : ((List.range 12).all fun h => (List.range 9).all fun s => [0, 4, 8].all fun l => decide (partI (h : Nat) (s : Nat) (l : Nat) = (figure h s l : Nat)) && decide (figure h s l < 10)) = true := by decide +kernel
theorem part_fig {h s l : Nat} (hh : h < 12) (hs : s < 9) (hl : l ∈ [0, 4, 8]) : partI (h : Nat) (s : Nat) (l : Nat) = (figure h s l : Nat) ∧ figure h s l < 10 := by
  have := List.all_eq_true.mp (List.all_eq_true.mp (List.all_eq_true.mp part_check h (List.mem_range.mpr hh)) s (List.mem_range.mpr hs)) l hl
  rw [Bool.and_eq_true] at this
  exact ⟨of_decide_eq_true this.1, of_decide_eq_true this.2⟩

theorem part_eq {ρ : Rho} {s lamp h k : Nat} {left : List Nat} (h8 : get ρ 8 = some (.int (s : Int))) (h16 : get ρ 16 = some (.int (lamp : Int))) (h6 : get ρ 6 = some (.list (nats left))) (h7 : get ρ 7 = some (.int (k : Int)))
    (hk : left[k]? = some h) (hl : left.length < 1000) : partE ρ = some (.int (partI h s lamp)) := by
  have hi : f2 itemV (fV 6) (fV 7) ρ = some (.int (h : Int)) := by
    unfold f2 fV
    rw [h6, h7]
    exact item_list (by rw [nats_get, hk]; rfl) (by rw [nats_len]; exact hl)
  have e1 : f2 fdivV (fV 8) (fI 3) ρ = some (.int ((s : Int).fdiv 3)) := by unfold f2 fV fI; rw [h8]; rfl
  have e2 : f2 addV (fI 1) (f2 modV (fV 8) (fI 3)) ρ = some (.int (1 + (s : Int).fmod 3)) := by unfold f2 fV fI; rw [h8]; rfl
  have e3 : f2 subV (fV 16) (f2 itemV (fV 6) (fV 7)) ρ = some (.int ((lamp : Int) - h)) := by
    show ((fV 16 ρ).bind _) = _
    rw [show fV 16 ρ = _ from h16, Option.bind_some, hi]; rfl
  have e4 : f2 subV (fI 4) (fC absV (aC (f2 subV (f2 modV (f2 addV (f2 subV (fV 16) (f2 itemV (fV 6) (fV 7))) (fI 6)) (fI 12)) (fI 6)) a0)) ρ = some (.int (partZ h lamp)) := by
    have a1 : f2 addV (f2 subV (fV 16) (f2 itemV (fV 6) (fV 7))) (fI 6) ρ = some (.int ((lamp : Int) - h + 6)) := by
      unfold f2 at e3 ⊢; rw [e3]; rfl
    have a2 : f2 subV (f2 modV (f2 addV (f2 subV (fV 16) (f2 itemV (fV 6) (fV 7))) (fI 6)) (fI 12)) (fI 6) ρ = some (.int (((lamp : Int) - h + 6).fmod 12 - 6)) := by
      show ((Option.bind (f2 addV (f2 subV (fV 16) (f2 itemV (fV 6) (fV 7))) (fI 6) ρ) _).bind _) = _
      rw [a1]; rfl
    show (Option.bind (fI 4 ρ) fun a => (Option.bind (Option.bind (f2 subV (f2 modV (f2 addV (f2 subV (fV 16) (f2 itemV (fV 6) (fV 7))) (fI 6)) (fI 12)) (fI 6) ρ) _) absV).bind fun b => subV [a, b]) = _
    rw [a2]; rfl
  have e5 : (fC maxV (aC (fI 0) (aC (fC minV (aC (fI 2) (aC (f2 subV (fI 4) (fC absV (aC (f2 subV (f2 modV (f2 addV (f2 subV (fV 16) (f2 itemV (fV 6) (fV 7))) (fI 6)) (fI 12)) (fI 6)) a0))) a0))) a0))) ρ = some (.int (if 0 < partM (partZ h lamp) then partM (partZ h lamp) else 0)) := by
    generalize (f2 subV (fI 4) (fC absV (aC (f2 subV (f2 modV (f2 addV (f2 subV (fV 16) (f2 itemV (fV 6) (fV 7))) (fI 6)) (fI 12)) (fI 6)) a0))) = X at e4 ⊢
    simp only [fC, aC, a0, fI, e4, Option.bind_some, minV2, maxV2]
    rfl
  have hs : (1 + (s : Int).fmod 3).natAbs < roof := by
    rw [Int.fmod_eq_emod_of_nonneg _ (by decide)]
    unfold roof; omega
  have hm : (decide ((1 + (s : Int).fmod 3).natAbs < roof) || decide ((if 0 < partM (partZ h lamp) then partM (partZ h lamp) else 0).natAbs < roof)) = true := by
    rw [decide_eq_true hs]; rfl
  unfold partE
  generalize (fC maxV (aC (fI 0) (aC (fC minV (aC (fI 2) (aC (f2 subV (fI 4) (fC absV (aC (f2 subV (f2 modV (f2 addV (f2 subV (fV 16) (f2 itemV (fV 6) (fV 7))) (fI 6)) (fI 12)) (fI 6)) a0))) a0))) a0))) = X at e5 ⊢
  generalize f2 fdivV (fV 8) (fI 3) = Y at e1 ⊢
  generalize f2 addV (fI 1) (f2 modV (fV 8) (fI 3)) = Z at e2 ⊢
  have e6 : f2 mulV Z X ρ = some (.int ((1 + (s : Int).fmod 3) * (if 0 < partM (partZ h lamp) then partM (partZ h lamp) else 0))) := by
    unfold f2; rw [e2, e5]
    show (if _ then _ else _) = _
    rw [if_pos hm]
  unfold f2 at e6 ⊢
  rw [e1]
  show (Option.bind (Option.bind _ _) _) = _
  rw [e6]
  rfl

/-- the three figures of a colour, as signs -/
noncomputable def figs (h s : Nat) : List Nat := [48 + figure h s 0, 48 + figure h s 4, 48 + figure h s 8]
theorem nameOf_figs (h s : Nat) : nameOf h s = mkS (figs h s) := rfl
theorem digit_check : ((List.range 10).all fun (k : Nat) => decide (Str.ofString (toString (k : Int)) = mkS [48 + k])) = true := by decide +kernel
theorem digit {k : Nat} (h : k < 10) : strV [.int (k : Int)] = some (.str (mkS [48 + k])) := by
  have := of_decide_eq_true (List.all_eq_true.mp digit_check k (List.mem_range.mpr h))
  show (if (k : Int).natAbs < roof then some (V.str (Str.ofString (toString (k : Int)))) else none) = _
  rw [if_pos (by unfold roof; omega), this]
end Mine
end

section
namespace Mine
open PySem PySem.Calls PyProof.Rows
open PySem.Builtin PySem.Builtin.Str
set_option maxRecDepth 100000

noncomputable def placeB : RX := (andThen (xAsg (fComp (lOf (fV 1)) (b1 15) (bIn notIn (fV 15) (lV 3)) (fV 15)) (b1 6))
  (andThen (xAsg (fC divmodV (aC (fV 0) (aC (fC lenV (aC (fV 6) a0)) a0))) (bT [("number", 0), ("pick", 7)]))
  (andThen (xAsg (fC divmodV (aC (fV 0) (aC (fI 9) a0))) (bT [("number", 0), ("shade", 8)]))
  (andThen (xApp 3 (f2 itemV (fV 6) (fV 7)))
  (andThen (xAsc (fComp (lTup (fTup (aC (fI 0) (aC (fI 4) (aC (fI 8) a0))))) (b1 16) tT partE) 9)
  (andThen (xApp 4 (fM "str" joinV (fS "") (aC (fComp (lOf (fV 9)) (b1 17) tT (fC strV (aC (fV 17) a0))) a0)))
  xNil))))))

structure PSt (pal : List Nat) (P : List (Nat × Nat)) (ρ : Rho) : Prop where
  num : ∃ n : Int, get ρ 0 = some (.int n)
  palette : get ρ 1 = some (.list (nats pal))
  hues : get ρ 3 = some (.list (nats (P.map (·.1))))
  names : get ρ 4 = some (.list (txts (P.map fun p => figs p.1 p.2)))
structure POk (pal : List Nat) (P : List (Nat × Nat)) : Prop where
  nodup : (P.map (·.1)).Nodup
  mem : ∀ p ∈ P, p.1 ∈ pal
  shade : ∀ p ∈ P, p.2 < 9
structure PalOk (pal : List Nat) : Prop where
  nodup : pal.Nodup
  lt : ∀ h ∈ pal, h < 12
  lo : 3 ≤ pal.length
  hi : pal.length ≤ 6

theorem fmod_nat (n : Int) {k : Nat} (h : 0 < k) : ∃ j : Nat, n.fmod (k : Int) = (j : Int) ∧ j < k := by
  refine ⟨(n.fmod (k : Int)).toNat, ?_, ?_⟩
  · have := Int.fmod_nonneg_of_pos n (b := (k : Int)) (by omega)
    omega
  · have h1 := Int.fmod_nonneg_of_pos n (b := (k : Int)) (by omega)
    have h2 := Int.fmod_lt_of_pos n (b := (k : Int)) (by omega)
    omega
theorem divmod_nat (n : Int) {k : Nat} (h : 0 < k) (hk : k < 1000) : ∃ (q : Int) (j : Nat), divmodV [.int n, .int (k : Int)] = some (.tup [.int q, .int (j : Int)]) ∧ j < k := by
  obtain ⟨j, e, hj⟩ := fmod_nat n h
  refine ⟨n.fdiv (k : Int), j, ?_, hj⟩
  rw [← e]
  have hc : (((k : Int) != 0) && decide ((k : Int).natAbs < roof)) = true := by
    rw [Bool.and_eq_true]
    exact ⟨bne_iff_ne.mpr (by omega), decide_eq_true (by unfold roof; omega)⟩
  show (if (((k : Int) != 0) && decide ((k : Int).natAbs < roof)) = true then _ else _) = _
  rw [if_pos hc]

theorem place_step {pal : List Nat} (hp : PalOk pal) {P : List (Nat × Nat)} (hP : POk pal P) (hlt : P.length < pal.length) {ρ : Rho} (h : PSt pal P ρ) (i : V) :
    ∃ ρ1 ρ2, b1 5 ρ i = some ρ1 ∧ placeB ρ1 = some (.next ρ2) ∧ ∃ q, POk pal (P ++ [q]) ∧ PSt pal (P ++ [q]) ρ2 := by
  obtain ⟨n, hn⟩ := h.num
  have hleft : (fComp (lOf (fV 1)) (b1 15) (bIn notIn (fV 15) (lV 3)) (fV 15)) (put ρ 5 i) = some (.list (nats (pal.filter fun x => !decide (x ∈ P.map (·.1))))) := by
    refine comp_eq (Fi := lOf (fV 1)) (bnd := b1 15) (Ft := bIn notIn (fV 15) (lV 3)) (Fe := fV 15) (ρ := put ρ 5 i) (f := fun (n : Nat) => V.int (n : Int)) (l := pal) (fun x => !decide (x ∈ P.map (·.1))) (fun (n : Nat) => V.int (n : Int)) (by show asList (get (put ρ 5 i) 1) = _; rw [get_put_ne _ _ (by decide), h.palette]; rfl) (by have := hp.hi; omega) fun a ha => ?_
    refine ⟨put (put ρ 5 i) 15 (.int a), rfl, ?_, fun _ => by simp [fI, fS, fF, fN, fT, fV, lV, lOf, lTup, a0, aC, fTup, fList, f2, f1, fC, fM, bC, bV, bNot, bAnd, bOr, bIn, aAnd, fB, fIte, pN, pS, fSl, fSs, fIsi, lRange, fRange, lStr, fLen, b1, bT, tT, one, xNil, xAsg, xAsc, xOwn, xApp, xAug, xSwap, xIte, xRet, xFrz, andThen, putAll, asSeq, asList, asInt, asStr, asTup, asBool, Option.bind_some, Option.map_some, gp, roof]⟩
    simp only [fI, fS, fF, fN, fT, fV, lV, lOf, lTup, a0, aC, fTup, fList, f2, f1, fC, fM, bC, bV, bNot, bAnd, bOr, bIn, aAnd, fB, fIte, pN, pS, fSl, fSs, fIsi, lRange, fRange, lStr, fLen, b1, bT, tT, one, xNil, xAsg, xAsc, xOwn, xApp, xAug, xSwap, xIte, xRet, xFrz, andThen, putAll, asSeq, asList, asInt, asStr, asTup, asBool, Option.bind_some, Option.map_some, gp, roof, h.hues, if_true, if_false, reduceCtorEq, Nat.reduceEqDiff, reduceIte]
    exact notIn_nats a _
  generalize hL : pal.filter (fun x => !decide (x ∈ P.map (·.1))) = left at hleft
  have hll : left.length ≤ 6 := by rw [← hL]; exact Nat.le_trans (List.length_filter_le _ _) hp.hi
  have hl0 : 0 < left.length := by
    rcases Nat.eq_zero_or_pos left.length with h0 | h0
    · exfalso
      have he : left = [] := List.length_eq_zero_iff.mp h0
      rw [← hL, List.filter_eq_nil_iff] at he
      have hsub : pal ⊆ P.map (·.1) := fun x hx => by
        have := he x hx
        simpa using this
      have := List.Nodup.length_le_of_subset hp.nodup hsub
      rw [List.length_map] at this
      omega
    · exact h0
  obtain ⟨n1, k, e1, hk⟩ := divmod_nat n hl0 (by omega)
  obtain ⟨n2, s, e2, hs⟩ := divmod_nat n1 (k := 9) (by decide) (by decide)
  obtain ⟨hu, hhu⟩ : ∃ x, left[k]? = some x := ⟨left[k], List.getElem?_eq_getElem hk⟩
  have hmem : hu ∈ left := List.mem_of_getElem? hhu
  have hmem' : hu ∈ pal ∧ hu ∉ P.map (·.1) := by
    rw [← hL, List.mem_filter] at hmem
    exact ⟨hmem.1, by simpa using hmem.2⟩
  have hu12 : hu < 12 := hp.lt hu hmem'.1
  have hPl : P.length < 10 := by have := hp.hi; omega
  let ρa : Rho := put (put ρ 5 i) 6 (.list (nats left))
  let ρb : Rho := put (put ρa 0 (.int n1)) 7 (.int (k : Int))
  let ρc : Rho := put (put ρb 0 (.int n2)) 8 (.int (s : Int))
  let ρd : Rho := put ρc 3 (.list (nats (P.map (·.1)) ++ [.int (hu : Int)]))
  let ρe : Rho := put ρd 9 (.list (nats [figure hu s 0, figure hu s 4, figure hu s 8]))
  let ρf : Rho := put ρe 4 (.list (txts (P.map fun p => figs p.1 p.2) ++ [.str (mkS (figs hu s))]))
  have s1 : xAsg (fComp (lOf (fV 1)) (b1 15) (bIn notIn (fV 15) (lV 3)) (fV 15)) (b1 6) (put ρ 5 i) = some (.next ρa) := asg_eq hleft rfl
  have s2 : xAsg (fC divmodV (aC (fV 0) (aC (fC lenV (aC (fV 6) a0)) a0))) (bT [("number", 0), ("pick", 7)]) ρa = some (.next ρb) := by
    refine asg_eq (d := .tup [.int n1, .int (k : Int)]) ?_ rfl
    have hln : lenV [.list (nats left)] = some (.int (left.length : Int)) := by
      rw [lenV_l, nats_len, if_pos (by unfold roof; omega)]
    simp [ρa, fI, fS, fF, fN, fT, fV, lV, lOf, lTup, a0, aC, fTup, fList, f2, f1, fC, fM, bC, bV, bNot, bAnd, bOr, bIn, aAnd, fB, fIte, pN, pS, fSl, fSs, fIsi, lRange, fRange, lStr, fLen, b1, bT, tT, one, xNil, xAsg, xAsc, xOwn, xApp, xAug, xSwap, xIte, xRet, xFrz, andThen, putAll, asSeq, asList, asInt, asStr, asTup, asBool, Option.bind_some, Option.map_some, gp, roof, hn, hln, e1]
  have s3 : xAsg (fC divmodV (aC (fV 0) (aC (fI 9) a0))) (bT [("number", 0), ("shade", 8)]) ρb = some (.next ρc) := by
    refine asg_eq (d := .tup [.int n2, .int (s : Int)]) ?_ rfl
    have e2' : divmodV [.int n1, .int 9] = some (.tup [.int n2, .int (s : Int)]) := e2
    simp [ρb, fI, fS, fF, fN, fT, fV, lV, lOf, lTup, a0, aC, fTup, fList, f2, f1, fC, fM, bC, bV, bNot, bAnd, bOr, bIn, aAnd, fB, fIte, pN, pS, fSl, fSs, fIsi, lRange, fRange, lStr, fLen, b1, bT, tT, one, xNil, xAsg, xAsc, xOwn, xApp, xAug, xSwap, xIte, xRet, xFrz, andThen, putAll, asSeq, asList, asInt, asStr, asTup, asBool, Option.bind_some, Option.map_some, gp, roof, e2']
  have hit : itemV [.list (nats left), .int (k : Int)] = some (.int (hu : Int)) := item_list (by rw [nats_get, hhu]; rfl) (by rw [nats_len]; omega)
  have s4 : xApp 3 (f2 itemV (fV 6) (fV 7)) ρc = some (.next ρd) := by
    have hc : (nats (P.map (·.1))).length < 10000 := by rw [nats_len, List.length_map]; omega
    simp [ρa, ρb, ρc, ρd, fI, fS, fF, fN, fT, fV, lV, lOf, lTup, a0, aC, fTup, fList, f2, f1, fC, fM, bC, bV, bNot, bAnd, bOr, bIn, aAnd, fB, fIte, pN, pS, fSl, fSs, fIsi, lRange, fRange, lStr, fLen, b1, bT, tT, one, xNil, xAsg, xAsc, xOwn, xApp, xAug, xSwap, xIte, xRet, xFrz, andThen, putAll, asSeq, asList, asInt, asStr, asTup, asBool, Option.bind_some, Option.map_some, gp, roof, h.hues, hit, hc]
  have hfg : ∀ l ∈ [0, 4, 8], partI (hu : Nat) (s : Nat) (l : Nat) = (figure hu s l : Nat) ∧ figure hu s l < 10 := fun l hl => part_fig hu12 hs hl
  have s5 : xAsc (fComp (lTup (fTup (aC (fI 0) (aC (fI 4) (aC (fI 8) a0))))) (b1 16) tT partE) 9 ρd = some (.next ρe) := by
    refine asc_eq ?_
    refine (compT_eq (f := fun (n : Nat) => V.int (n : Int)) (l := [0, 4, 8]) (fun (l : Nat) => V.int (figure hu s l : Nat)) rfl (by decide) fun l hl => ⟨put ρd 16 (.int (l : Int)), rfl, ?_⟩)
    rw [← (hfg l hl).1]
    exact part_eq (left := left) (k := k) (by simp [ρa, ρb, ρc, ρd, gp]) (by simp [gp]) (by simp [ρa, ρb, ρc, ρd, gp]) (by simp [ρa, ρb, ρc, ρd, gp]) hhu (by omega)
  have s6 : xApp 4 (fM "str" joinV (fS "") (aC (fComp (lOf (fV 9)) (b1 17) tT (fC strV (aC (fV 17) a0))) a0)) ρe = some (.next ρf) := by
    have hcomp : fComp (lOf (fV 9)) (b1 17) tT (fC strV (aC (fV 17) a0)) ρe = some (.list (([figure hu s 0, figure hu s 4, figure hu s 8] : List Nat).map fun (k : Nat) => V.str (mkS [48 + k]))) := by
      refine compT_eq (f := fun (n : Nat) => V.int (n : Int)) (l := [figure hu s 0, figure hu s 4, figure hu s 8]) (fun (k : Nat) => V.str (mkS [48 + k])) (by simp [ρe, fI, fS, fF, fN, fT, fV, lV, lOf, lTup, a0, aC, fTup, fList, f2, f1, fC, fM, bC, bV, bNot, bAnd, bOr, bIn, aAnd, fB, fIte, pN, pS, fSl, fSs, fIsi, lRange, fRange, lStr, fLen, b1, bT, tT, one, xNil, xAsg, xAsc, xOwn, xApp, xAug, xSwap, xIte, xRet, xFrz, andThen, putAll, asSeq, asList, asInt, asStr, asTup, asBool, Option.bind_some, Option.map_some, gp, roof]; rfl) (by simp) fun a ha => ⟨put ρe 17 (.int (a : Int)), rfl, ?_⟩
      have ha10 : a < 10 := by
        simp only [List.mem_cons, List.not_mem_nil, or_false] at ha
        rcases ha with rfl | rfl | rfl
        · exact (hfg 0 (by decide)).2
        · exact (hfg 4 (by decide)).2
        · exact (hfg 8 (by decide)).2
      simp [fI, fS, fF, fN, fT, fV, lV, lOf, lTup, a0, aC, fTup, fList, f2, f1, fC, fM, bC, bV, bNot, bAnd, bOr, bIn, aAnd, fB, fIte, pN, pS, fSl, fSs, fIsi, lRange, fRange, lStr, fLen, b1, bT, tT, one, xNil, xAsg, xAsc, xOwn, xApp, xAug, xSwap, xIte, xRet, xFrz, andThen, putAll, asSeq, asList, asInt, asStr, asTup, asBool, Option.bind_some, Option.map_some, gp, roof, digit ha10]
    have hj : joinV [.str (mkS []), .list (([figure hu s 0, figure hu s 4, figure hu s 8] : List Nat).map fun (k : Nat) => V.str (mkS [48 + k]))] = some (.str (mkS (figs hu s))) :=
      join_V [] [[48 + figure hu s 0], [48 + figure hu s 4], [48 + figure hu s 8]] (by simp [mkS_len, roof])
    have hc : (txts (P.map fun p => figs p.1 p.2)).length < 10000 := by unfold txts; rw [List.length_map, List.length_map]; omega
    have h4 : get ρe 4 = some (.list (txts (P.map fun p => figs p.1 p.2))) := by simp [ρa, ρb, ρc, ρd, ρe, gp, h.names]
    have hval : (fM "str" joinV (fS "") (aC (fComp (lOf (fV 9)) (b1 17) tT (fC strV (aC (fV 17) a0))) a0)) ρe = some (.str (mkS (figs hu s))) := by
      generalize fComp (lOf (fV 9)) (b1 17) tT (fC strV (aC (fV 17) a0)) = X at hcomp ⊢
      unfold fM aC a0
      rw [hcomp]
      simp only [fS, Option.bind_some, typeNameV_s, if_true, e_mk]
      exact hj
    unfold xApp
    rw [h4, hval]
    show (if _ then _ else _) = _
    rw [if_pos hc]
  refine ⟨put ρ 5 i, ρf, rfl, at_next s1 (at_next s2 (at_next s3 (at_next s4 (at_next s5 (at_next s6 rfl))))), (hu, s), ⟨?_, ?_, ?_⟩, ⟨⟨n2, by simp [ρa, ρb, ρc, ρd, ρe, ρf, gp]⟩, by simp [ρa, ρb, ρc, ρd, ρe, ρf, gp, h.palette], by simp [ρa, ρb, ρc, ρd, ρe, ρf, gp, nats], by simp [ρa, ρb, ρc, ρd, ρe, ρf, gp, txts]⟩⟩
  · rw [List.map_append, List.nodup_append]
    refine ⟨hP.nodup, by simp, fun a ha b hb => ?_⟩
    simp only [List.map_cons, List.map_nil, List.mem_singleton] at hb
    subst hb
    intro e; subst e
    exact hmem'.2 ha
  · intro p hp'
    rcases List.mem_append.mp hp' with hp' | hp'
    · exact hP.mem p hp'
    · rw [List.mem_singleton.mp hp']; exact hmem'.1
  · intro p hp'
    rcases List.mem_append.mp hp' with hp' | hp'
    · exact hP.shade p hp'
    · rw [List.mem_singleton.mp hp']; exact hs
end Mine
end

section
namespace Mine
open PySem PySem.Calls PyProof.Rows
open PySem.Builtin PySem.Builtin.Str
set_option maxRecDepth 100000
set_option maxHeartbeats 1000000

/-- behind the loop of _law_place -/
noncomputable def placeT : RX := (xFrz 3 18 (xFrz 4 19 (andThen (xAsg (fC divmodV (aC (fV 0) (aC (fI 16) a0))) (bT [("number", 0), ("decoy", 10)]))
  (andThen (xAsg (fC divmodV (aC (fV 0) (aC (fI 8) a0))) (bT [("number", 0), ("gap", 11)]))
  (andThen (xAsg (f2 addV (f2 addV (fSl (fV 19) pN (pS (f2 fdivV (fV 11) (fI 2)))) (f2 mulV (fList (aC (fS "") a0)) (f2 modV (fV 11) (fI 2)))) (fSl (fV 19) (pS (f2 fdivV (fV 11) (fI 2))) pN)) (b1 19))
  (andThen (xAsg (fM "str" joinV (fS "'") (aC (fV 19) a0)) (b1 12))
  (andThen (xAsg (f2 modV (fV 0) (f2 addV (fC lenV (aC (fV 12) a0)) (fI 1))) (b1 13))
  (andThen (xAsg (fList (aC (fS "") (aC (fS "\"'\"") (aC (fS "\"\"") (aC (fS "\"9'\\\"'\"") a0))))) (b1 14))
  (andThen (xRet (fTup (aC (fV 18) (aC (fV 19) (aC (f2 addV (f2 addV (f2 addV (f2 itemV (fV 14) (f2 fdivV (fV 10) (fI 4))) (fSs (fV 12) pN (pS (fV 13)))) (f2 itemV (fV 14) (f2 modV (fV 10) (fI 4)))) (fSs (fV 12) (pS (fV 13)) pN)) a0)))))
  xNil)))))))))
theorem F_place_def : F_place = (andThen (xAsg (fC divmodV (aC (fV 0) (aC (fI 3) a0))) (bT [("number", 0), ("more", 2)]))
  (andThen (xOwn a0 3)
  (andThen (xOwn a0 4)
  (andThen (xFor (lRange (fC minV (aC (fC lenV (aC (fV 1) a0)) (aC (f2 addV (fI 3) (fV 2)) a0)))) (b1 5) placeB)
  placeT)))) := rfl

theorem pc1 : ("\"'\"" : Str) = mkS [34, 39, 34] := by decide +kernel
theorem pc2 : ("\"\"" : Str) = mkS [34, 34] := by decide +kernel
theorem pc3 : ("\"9'\\\"'\"" : Str) = mkS [34, 57, 39, 92, 34, 39, 34] := by decide +kernel

theorem fdiv_nat (a b : Nat) : (a : Int).fdiv (b : Int) = ((a / b : Nat) : Int) := by
  rw [Int.fdiv_eq_ediv_of_nonneg _ (by omega)]; exact (Int.natCast_ediv a b).symm
theorem fmod_natn (a b : Nat) : (a : Int).fmod (b : Int) = ((a % b : Nat) : Int) := by
  rw [Int.fmod_eq_emod_of_nonneg _ (by omega)]; exact (Int.natCast_emod a b).symm

theorem jn_len (c : Nat) : ∀ ns : List (List Nat), (∀ n ∈ ns, n.length ≤ 3) → (jn [c] ns).length ≤ 4 * ns.length
  | [], _ => Nat.zero_le _
  | [x], h => by
    have := h x (List.mem_singleton.mpr rfl)
    show x.length ≤ 4 * 1
    omega
  | x :: y :: r, h => by
    have h1 := h x (List.mem_cons_self ..)
    have h2 := jn_len c (y :: r) fun n m => h n (List.mem_cons_of_mem _ m)
    show (x ++ [c] ++ jn [c] (y :: r)).length ≤ _
    simp only [List.length_append, List.length_cons, List.length_nil] at h2 ⊢
    omega
theorem jn_mem (c : Nat) : ∀ ns : List (List Nat), ∀ d ∈ jn [c] ns, d = c ∨ ∃ n ∈ ns, d ∈ n
  | [], _, h => (List.not_mem_nil h).elim
  | [x], d, h => .inr ⟨x, List.mem_singleton.mpr rfl, h⟩
  | x :: y :: r, d, h => by
    have h' : d ∈ x ++ [c] ++ jn [c] (y :: r) := h
    rw [List.mem_append, List.mem_append, List.mem_singleton] at h'
    rcases h' with (h' | h') | h'
    · exact .inr ⟨x, List.mem_cons_self .., h'⟩
    · exact .inl h'
    · rcases jn_mem c (y :: r) d h' with e | ⟨n, hn, hd⟩
      · exact .inl e
      · exact .inr ⟨n, List.mem_cons_of_mem _ hn, hd⟩

noncomputable def Digits (ns : List (List Nat)) : Prop := ∀ n ∈ ns, n.length ≤ 3 ∧ ∀ c ∈ n, 48 ≤ c ∧ c < 58

theorem sum_len (ns : List (List Nat)) (h : ∀ n ∈ ns, n.length ≤ 3) : ((ns.map mkS).map (·.length)).sum ≤ 3 * ns.length := by
  induction ns with
  | nil => exact Nat.zero_le _
  | cons a r ih =>
    have h1 := h a (List.mem_cons_self ..)
    have h2 := ih fun n m => h n (List.mem_cons_of_mem _ m)
    simp only [List.map_cons, List.sum_cons, mkS_len, List.length_cons]
    omega

/-- what the tail makes -/
theorem place_tail {pal : List Nat} {P : List (Nat × Nat)} {ρ : Rho} (h : PSt pal P ρ) (hd : Digits (P.map fun p => figs p.1 p.2)) (h1 : 1 ≤ P.length) (h5 : P.length ≤ 5) :
    ∃ N p1 a p2 b, placeT ρ = some (.ret (.tup [.list (nats (P.map (·.1))), .list (txts N), .str (mkS (p1 ++ (a ++ (p2 ++ b))))])) ∧
      (∃ g, N = (P.map fun p => figs p.1 p.2).take g ++ (P.map fun p => figs p.1 p.2).drop g ∨ N = (P.map fun p => figs p.1 p.2).take g ++ [[]] ++ (P.map fun p => figs p.1 p.2).drop g) ∧ p1 ∈ pieces ∧ p2 ∈ pieces ∧ a ++ b = jn [39] N := by
  obtain ⟨n, hn⟩ := h.num
  obtain ⟨n1, de, e1, hde⟩ := divmod_nat n (k := 16) (by decide) (by decide)
  obtain ⟨n2, ga, e2, hga⟩ := divmod_nat n1 (k := 8) (by decide) (by decide)
  have e1' : divmodV [.int n, .int 16] = some (.tup [.int n1, .int (de : Int)]) := e1
  have e2' : divmodV [.int n1, .int 8] = some (.tup [.int n2, .int (ga : Int)]) := e2
  generalize hN0 : (P.map fun p => figs p.1 p.2) = N0 at *
  have hN0l : N0.length = P.length := by rw [← hN0, List.length_map]
  let ρa : Rho := put (put ρ 18 (.list (nats (P.map (·.1))))) 19 (.list (txts N0))
  let ρb : Rho := put (put ρa 0 (.int n1)) 10 (.int (de : Int))
  let ρc : Rho := put (put ρb 0 (.int n2)) 11 (.int (ga : Int))
  let N : List (List Nat) := N0.take (ga / 2) ++ List.replicate (ga % 2) [] ++ N0.drop (ga / 2)
  have hNl : N.length ≤ 6 := by
    simp only [N, List.length_append, List.length_take, List.length_drop, List.length_replicate]; omega
  have hN1 : 1 ≤ N.length := by
    simp only [N, List.length_append, List.length_take, List.length_drop, List.length_replicate]; omega
  have hN3 : ∀ m ∈ N, m.length ≤ 3 := by
    intro m hm
    simp only [N, List.mem_append, List.mem_replicate] at hm
    rcases hm with (hm | hm) | hm
    · exact (hd m (List.mem_of_mem_take hm)).1
    · rw [hm.2]; exact Nat.zero_le _
    · exact (hd m (List.mem_of_mem_drop hm)).1
  let ρd : Rho := put ρc 19 (.list (txts N))
  let ρe : Rho := put ρd 12 (.str (mkS (jn [39] N)))
  have hjl : (jn [39] N).length ≤ 24 := Nat.le_trans (jn_len 39 N hN3) (by omega)
  obtain ⟨cut, ecut, hcut⟩ := fmod_nat n2 (k := (jn [39] N).length + 1) (by omega)
  let ρf : Rho := put ρe 13 (.int (cut : Int))
  let ρg : Rho := put ρf 14 (.list (txts pieces))
  have s1 : xAsg (fC divmodV (aC (fV 0) (aC (fI 16) a0))) (bT [("number", 0), ("decoy", 10)]) ρa = some (.next ρb) := by
    refine asg_eq (d := .tup [.int n1, .int (de : Int)]) ?_ rfl
    simp [ρa, fI, fS, fF, fN, fT, fV, lV, lOf, lTup, a0, aC, fTup, fList, f2, f1, fC, fM, bC, bV, bNot, bAnd, bOr, bIn, aAnd, fB, fIte, pN, pS, fSl, fSs, fIsi, lRange, fRange, lStr, fLen, b1, bT, tT, one, xNil, xAsg, xAsc, xOwn, xApp, xAug, xSwap, xIte, xRet, xFrz, andThen, putAll, asSeq, asList, asInt, asStr, asTup, asBool, Option.bind_some, Option.map_some, gp, roof, hn, e1']
  have s2 : xAsg (fC divmodV (aC (fV 0) (aC (fI 8) a0))) (bT [("number", 0), ("gap", 11)]) ρb = some (.next ρc) := by
    refine asg_eq (d := .tup [.int n2, .int (ga : Int)]) ?_ rfl
    simp [ρb, fI, fS, fF, fN, fT, fV, lV, lOf, lTup, a0, aC, fTup, fList, f2, f1, fC, fM, bC, bV, bNot, bAnd, bOr, bIn, aAnd, fB, fIte, pN, pS, fSl, fSs, fIsi, lRange, fRange, lStr, fLen, b1, bT, tT, one, xNil, xAsg, xAsc, xOwn, xApp, xAug, xSwap, xIte, xRet, xFrz, andThen, putAll, asSeq, asList, asInt, asStr, asTup, asBool, Option.bind_some, Option.map_some, gp, roof, e2']
  have g19 : get ρc 19 = some (.list (txts N0)) := by simp [ρa, ρb, ρc, gp]
  have g11 : get ρc 11 = some (.int (ga : Int)) := by simp [ρa, ρb, ρc, gp]
  have hfd : f2 fdivV (fV 11) (fI 2) ρc = some (.int ((ga / 2 : Nat) : Int)) := by
    unfold f2 fV fI
    rw [g11, ← fdiv_nat]; rfl
  have hfm : f2 modV (fV 11) (fI 2) ρc = some (.int ((ga % 2 : Nat) : Int)) := by
    unfold f2 fV fI
    rw [g11, ← fmod_natn]; rfl
  have s3 : xAsg (f2 addV (f2 addV (fSl (fV 19) pN (pS (f2 fdivV (fV 11) (fI 2)))) (f2 mulV (fList (aC (fS "") a0)) (f2 modV (fV 11) (fI 2)))) (fSl (fV 19) (pS (f2 fdivV (fV 11) (fI 2))) pN)) (b1 19) ρc = some (.next ρd) := by
    refine asg_eq (d := .list (txts N)) ?_ rfl
    generalize f2 fdivV (fV 11) (fI 2) = X at hfd ⊢
    generalize f2 modV (fV 11) (fI 2) = Y at hfm ⊢
    have hlt : (txts N0).length = N0.length := List.length_map ..
    have b1 : fSl (fV 19) pN (pS X) ρc = some (.list (txts (N0.take (ga / 2)))) := by
      have c1 : (0 ≤ ((ga / 2 : Nat) : Int)) := by omega
      have c2 : N0.length < 100000 := by omega
      simp [fI, fS, fF, fN, fT, fV, lV, lOf, lTup, a0, aC, fTup, fList, f2, f1, fC, fM, bC, bV, bNot, bAnd, bOr, bIn, aAnd, fB, fIte, pN, pS, fSl, fSs, fIsi, lRange, fRange, lStr, fLen, b1, bT, tT, one, xNil, xAsg, xAsc, xOwn, xApp, xAug, xSwap, xIte, xRet, xFrz, andThen, putAll, asSeq, asList, asInt, asStr, asTup, asBool, Option.bind_some, Option.map_some, gp, roof, g19, hfd, sliceV_to, hlt, c1, c2]
      constructor
      · omega
      · rw [txts, txts, List.map_take]; congr 1
    have b2 : fSl (fV 19) (pS X) pN ρc = some (.list (txts (N0.drop (ga / 2)))) := by
      have c1 : (0 ≤ ((ga / 2 : Nat) : Int)) := by omega
      have c2 : N0.length < 100000 := by omega
      simp [fI, fS, fF, fN, fT, fV, lV, lOf, lTup, a0, aC, fTup, fList, f2, f1, fC, fM, bC, bV, bNot, bAnd, bOr, bIn, aAnd, fB, fIte, pN, pS, fSl, fSs, fIsi, lRange, fRange, lStr, fLen, b1, bT, tT, one, xNil, xAsg, xAsc, xOwn, xApp, xAug, xSwap, xIte, xRet, xFrz, andThen, putAll, asSeq, asList, asInt, asStr, asTup, asBool, Option.bind_some, Option.map_some, gp, roof, g19, hfd, sliceV_from, hlt, c1, c2]
      constructor
      · omega
      · rw [txts, txts, List.map_drop]; congr 1
    have b3 : f2 mulV (fList (aC (fS "") a0)) Y ρc = some (.list (txts (List.replicate (ga % 2) []))) := by
      have hm : mulV [.list [.str (mkS [])], .int ((ga % 2 : Nat) : Int)] = some (.list (txts (List.replicate (ga % 2) []))) := by
        have hc : (decide ((0 : Int) ≤ ((ga % 2 : Nat) : Int)) && decide (((ga % 2 : Nat) : Int) < 1000)) = true := by
          rw [Bool.and_eq_true]; exact ⟨decide_eq_true (by omega), decide_eq_true (by omega)⟩
        show (if (decide ((0 : Int) ≤ ((ga % 2 : Nat) : Int)) && decide (((ga % 2 : Nat) : Int) < 1000)) = true then some (V.list (List.replicate ((ga % 2 : Nat) : Int).toNat (V.str (mkS [])))) else Option.none) = _
        rw [if_pos hc, txts, List.map_replicate, Int.toNat_natCast]
      simp only [fI, fS, fF, fN, fT, fV, lV, lOf, lTup, a0, aC, fTup, fList, f2, f1, fC, fM, bC, bV, bNot, bAnd, bOr, bIn, aAnd, fB, fIte, pN, pS, fSl, fSs, fIsi, lRange, fRange, lStr, fLen, b1, bT, tT, one, xNil, xAsg, xAsc, xOwn, xApp, xAug, xSwap, xIte, xRet, xFrz, andThen, putAll, asSeq, asList, asInt, asStr, asTup, asBool, Option.bind_some, Option.map_some, gp, roof, hfm, e_mk, hm]
    have b4 : ∀ (l m : List (List Nat)), l.length + m.length < 1000 → addV [.list (txts l), .list (txts m)] = some (.list (txts (l ++ m))) := by
      intro l m hlm
      have hc : (txts l).length + (txts m).length < roof := by unfold txts roof; rw [List.length_map, List.length_map]; omega
      show (if (txts l).length + (txts m).length < roof then _ else _) = _
      rw [if_pos hc, strs_app]
    show (Option.bind (f2 addV (fSl (fV 19) pN (pS X)) (f2 mulV (fList (aC (fS "") a0)) Y) ρc) fun a => (fSl (fV 19) (pS X) pN ρc).bind fun b => addV [a, b]) = _
    have b5 : f2 addV (fSl (fV 19) pN (pS X)) (f2 mulV (fList (aC (fS "") a0)) Y) ρc = some (.list (txts (N0.take (ga / 2) ++ List.replicate (ga % 2) []))) := by
      show (Option.bind (fSl (fV 19) pN (pS X) ρc) fun a => (f2 mulV (fList (aC (fS "") a0)) Y ρc).bind fun b => addV [a, b]) = _
      rw [b1, b3]
      exact b4 _ _ (by simp only [List.length_take, List.length_replicate]; omega)
    rw [b5, b2]
    exact b4 _ _ (by simp only [List.length_append, List.length_take, List.length_drop, List.length_replicate]; omega)
  have s4 : xAsg (fM "str" joinV (fS "'") (aC (fV 19) a0)) (b1 12) ρd = some (.next ρe) := by
    refine asg_eq (d := .str (mkS (jn [39] N))) ?_ rfl
    have hj : joinV [.str (mkS [39]), .list (txts N)] = some (.str (mkS (jn [39] N))) := join_V [39] N (by
      have := sum_len N hN3
      rw [List.length_map]
      unfold roof
      simp only [List.length_singleton]
      omega)
    simp [ρd, fI, fS, fF, fN, fT, fV, lV, lOf, lTup, a0, aC, fTup, fList, f2, f1, fC, fM, bC, bV, bNot, bAnd, bOr, bIn, aAnd, fB, fIte, pN, pS, fSl, fSs, fIsi, lRange, fRange, lStr, fLen, b1, bT, tT, one, xNil, xAsg, xAsc, xOwn, xApp, xAug, xSwap, xIte, xRet, xFrz, andThen, putAll, asSeq, asList, asInt, asStr, asTup, asBool, Option.bind_some, Option.map_some, gp, roof, typeNameV_s, t_mk, hj]
  have s5 : xAsg (f2 modV (fV 0) (f2 addV (fC lenV (aC (fV 12) a0)) (fI 1))) (b1 13) ρe = some (.next ρf) := by
    refine asg_eq (d := .int (cut : Int)) ?_ rfl
    have g0 : get ρe 0 = some (.int n2) := by simp [ρa, ρb, ρc, ρd, ρe, gp]
    have g12 : get ρe 12 = some (.str (mkS (jn [39] N))) := by simp [ρe, gp]
    have hl : f2 addV (fC lenV (aC (fV 12) a0)) (fI 1) ρe = some (.int (((jn [39] N).length + 1 : Nat) : Int)) := by
      have : (jn [39] N).length < 100000 := by omega
      simp [fI, fS, fF, fN, fT, fV, lV, lOf, lTup, a0, aC, fTup, fList, f2, f1, fC, fM, bC, bV, bNot, bAnd, bOr, bIn, aAnd, fB, fIte, pN, pS, fSl, fSs, fIsi, lRange, fRange, lStr, fLen, b1, bT, tT, one, xNil, xAsg, xAsc, xOwn, xApp, xAug, xSwap, xIte, xRet, xFrz, andThen, putAll, asSeq, asList, asInt, asStr, asTup, asBool, Option.bind_some, Option.map_some, gp, roof, g12, lenV_s, mkS_len, this, addV_ii]
    have hm : modV [.int n2, .int (((jn [39] N).length + 1 : Nat) : Int)] = some (.int (cut : Int)) := by
      rw [← ecut]
      have hc : ((((jn [39] N).length + 1 : Nat) : Int) != 0) = true := bne_iff_ne.mpr (by omega)
      show (if ((((jn [39] N).length + 1 : Nat) : Int) != 0) = true then some (V.int (n2.fmod (((jn [39] N).length + 1 : Nat) : Int))) else Option.none) = _
      rw [if_pos hc]
    generalize f2 addV (fC lenV (aC (fV 12) a0)) (fI 1) = X at hl ⊢
    unfold f2 fV
    rw [g0, hl]
    exact hm
  have s6 : xAsg (fList (aC (fS "") (aC (fS "\"'\"") (aC (fS "\"\"") (aC (fS "\"9'\\\"'\"") a0))))) (b1 14) ρf = some (.next ρg) := by
    refine asg_eq (d := .list (txts pieces)) ?_ rfl
    simp only [fI, fS, fF, fN, fT, fV, lV, lOf, lTup, a0, aC, fTup, fList, f2, f1, fC, fM, bC, bV, bNot, bAnd, bOr, bIn, aAnd, fB, fIte, pN, pS, fSl, fSs, fIsi, lRange, fRange, lStr, fLen, b1, bT, tT, one, xNil, xAsg, xAsc, xOwn, xApp, xAug, xSwap, xIte, xRet, xFrz, andThen, putAll, asSeq, asList, asInt, asStr, asTup, asBool, Option.bind_some, Option.map_some, gp, roof, e_mk, pc1, pc2, pc3]
    rfl
  have k10 : get ρg 10 = some (.int (de : Int)) := by simp [ρa, ρb, ρc, ρd, ρe, ρf, ρg, gp]
  have k12 : get ρg 12 = some (.str (mkS (jn [39] N))) := by simp [ρa, ρb, ρc, ρd, ρe, ρf, ρg, gp]
  have k13 : get ρg 13 = some (.int (cut : Int)) := by simp [ρa, ρb, ρc, ρd, ρe, ρf, ρg, gp]
  have k14 : get ρg 14 = some (.list (txts pieces)) := by simp [ρa, ρb, ρc, ρd, ρe, ρf, ρg, gp]
  have k18 : get ρg 18 = some (.list (nats (P.map (·.1)))) := by simp [ρa, ρb, ρc, ρd, ρe, ρf, ρg, gp]
  have k19 : get ρg 19 = some (.list (txts N)) := by simp [ρa, ρb, ρc, ρd, ρe, ρf, ρg, gp]
  have hpl : pieces.length = 4 := rfl
  have pick : ∀ j : Nat, j < 4 → ∃ p, p ∈ pieces ∧ itemV [.list (txts pieces), .int (j : Int)] = some (.str (mkS p)) := by
    intro j hj
    have hj' : j < pieces.length := by rw [hpl]; exact hj
    refine ⟨pieces[j], List.getElem_mem _, item_list ?_ (by unfold txts; rw [List.length_map, hpl]; decide)⟩
    unfold txts
    rw [List.getElem?_map, List.getElem?_eq_getElem hj']; rfl
  obtain ⟨p1, hp1, i1⟩ := pick (de / 4) (by omega)
  obtain ⟨p2, hp2, i2⟩ := pick (de % 4) (by omega)
  have hcl : cut ≤ (jn [39] N).length := by omega
  have e4 : f2 itemV (fV 14) (f2 fdivV (fV 10) (fI 4)) ρg = some (.str (mkS p1)) := by
    have : f2 fdivV (fV 10) (fI 4) ρg = some (.int ((de / 4 : Nat) : Int)) := by
      unfold f2 fV fI
      rw [k10, ← fdiv_nat]; rfl
    generalize f2 fdivV (fV 10) (fI 4) = X at this ⊢
    unfold f2 fV
    rw [k14, this]; exact i1
  have e5 : f2 itemV (fV 14) (f2 modV (fV 10) (fI 4)) ρg = some (.str (mkS p2)) := by
    have : f2 modV (fV 10) (fI 4) ρg = some (.int ((de % 4 : Nat) : Int)) := by
      unfold f2 fV fI
      rw [k10, ← fmod_natn]; rfl
    generalize f2 modV (fV 10) (fI 4) = X at this ⊢
    unfold f2 fV
    rw [k14, this]; exact i2
  have hsl : (jn [39] N).length < 100000 := by omega
  have e6 : fSs (fV 12) pN (pS (fV 13)) ρg = some (.str (mkS ((jn [39] N).take cut))) := by
    simp [fI, fS, fF, fN, fT, fV, lV, lOf, lTup, a0, aC, fTup, fList, f2, f1, fC, fM, bC, bV, bNot, bAnd, bOr, bIn, aAnd, fB, fIte, pN, pS, fSl, fSs, fIsi, lRange, fRange, lStr, fLen, b1, bT, tT, one, xNil, xAsg, xAsc, xOwn, xApp, xAug, xSwap, xIte, xRet, xFrz, andThen, putAll, asSeq, asList, asInt, asStr, asTup, asBool, Option.bind_some, Option.map_some, gp, roof, k12, k13, sliceV_s, mkS_len, hsl, slice_to _ hcl]
  have e7 : fSs (fV 12) (pS (fV 13)) pN ρg = some (.str (mkS ((jn [39] N).drop cut))) := by
    simp [fI, fS, fF, fN, fT, fV, lV, lOf, lTup, a0, aC, fTup, fList, f2, f1, fC, fM, bC, bV, bNot, bAnd, bOr, bIn, aAnd, fB, fIte, pN, pS, fSl, fSs, fIsi, lRange, fRange, lStr, fLen, b1, bT, tT, one, xNil, xAsg, xAsc, xOwn, xApp, xAug, xSwap, xIte, xRet, xFrz, andThen, putAll, asSeq, asList, asInt, asStr, asTup, asBool, Option.bind_some, Option.map_some, gp, roof, k12, k13, sliceV_s, mkS_len, hsl, slice_from _ hcl]
  have cat : ∀ (l m : List Nat), l.length + m.length < 1000 → addV [.str (mkS l), .str (mkS m)] = some (.str (mkS (l ++ m))) := by
    intro l m hlm
    have hc : (mkS l).length + (mkS m).length < roof := by rw [mkS_len, mkS_len]; unfold roof; omega
    show (if (mkS l).length + (mkS m).length < roof then _ else _) = _
    rw [if_pos hc, mkS_app]
  have hp1l := piece_short hp1
  have hp2l := piece_short hp2
  refine ⟨N, p1, (jn [39] N).take cut, p2, (jn [39] N).drop cut, ?_, ⟨ga / 2, ?_⟩, hp1, hp2, List.take_append_drop ..⟩
  · have e8 : (f2 addV (f2 addV (f2 addV (f2 itemV (fV 14) (f2 fdivV (fV 10) (fI 4))) (fSs (fV 12) pN (pS (fV 13)))) (f2 itemV (fV 14) (f2 modV (fV 10) (fI 4)))) (fSs (fV 12) (pS (fV 13)) pN)) ρg = some (.str (mkS (p1 ++ ((jn [39] N).take cut ++ (p2 ++ (jn [39] N).drop cut))))) := by
      generalize f2 itemV (fV 14) (f2 fdivV (fV 10) (fI 4)) = X1 at e4 ⊢
      generalize f2 itemV (fV 14) (f2 modV (fV 10) (fI 4)) = X2 at e5 ⊢
      generalize fSs (fV 12) pN (pS (fV 13)) = X3 at e6 ⊢
      generalize fSs (fV 12) (pS (fV 13)) pN = X4 at e7 ⊢
      have q1 := cat p1 ((jn [39] N).take cut) (by rw [List.length_take]; omega)
      have q2 := cat (p1 ++ (jn [39] N).take cut) p2 (by rw [List.length_append, List.length_take]; omega)
      have q3 := cat (p1 ++ (jn [39] N).take cut ++ p2) ((jn [39] N).drop cut) (by rw [List.length_append, List.length_append, List.length_take, List.length_drop]; omega)
      unfold f2
      rw [e4, e6, Option.bind_some, Option.bind_some, q1, e5, Option.bind_some, Option.bind_some, q2, e7, Option.bind_some, Option.bind_some, q3]
      simp only [List.append_assoc]
    have hr : ∀ Y : RV, Y ρg = some (.str (mkS (p1 ++ ((jn [39] N).take cut ++ (p2 ++ (jn [39] N).drop cut))))) → (fTup (aC (fV 18) (aC (fV 19) (aC Y a0)))) ρg = some (.tup [.list (nats (P.map (·.1))), .list (txts N), .str (mkS (p1 ++ ((jn [39] N).take cut ++ (p2 ++ (jn [39] N).drop cut))))]) := by
      intro Y hY
      simp [fI, fS, fF, fN, fT, fV, lV, lOf, lTup, a0, aC, fTup, fList, f2, f1, fC, fM, bC, bV, bNot, bAnd, bOr, bIn, aAnd, fB, fIte, pN, pS, fSl, fSs, fIsi, lRange, fRange, lStr, fLen, b1, bT, tT, one, xNil, xAsg, xAsc, xOwn, xApp, xAug, xSwap, xIte, xRet, xFrz, andThen, putAll, asSeq, asList, asInt, asStr, asTup, asBool, Option.bind_some, Option.map_some, gp, roof, k18, k19, hY]
    unfold placeT
    refine frz_eq h.hues (frz_eq (d := .list (txts N0)) (by rw [get_put_ne _ _ (by decide), h.names, hN0]) (at_next s1 (at_next s2 (at_next s3 (at_next s4 (at_next s5 (at_next s6 (at_ret (ret_eq (hr _ e8))))))))))
  · have : ga % 2 = 0 ∨ ga % 2 = 1 := by omega
    rcases this with e | e
    · left; simp only [N, e]; simp
    · right; simp only [N, e]; rfl
end Mine
end

section
namespace Mine
open PySem PySem.Calls PyProof.Rows
open PySem.Builtin PySem.Builtin.Str
set_option maxRecDepth 100000

theorem figs_ne (h s : Nat) : figs h s ≠ [] := by unfold figs; simp
theorem figs_digits {pal : List Nat} (hp : PalOk pal) {P : List (Nat × Nat)} (hP : POk pal P) : Digits (P.map fun p => figs p.1 p.2) := by
  intro n hn
  obtain ⟨p, hm, rfl⟩ := List.mem_map.mp hn
  have hh := hp.lt p.1 (hP.mem p hm)
  have hs := hP.shade p hm
  refine ⟨by simp [figs], fun c hc => ?_⟩
  have f0 := (part_fig hh hs (l := 0) (by decide)).2
  have f4 := (part_fig hh hs (l := 4) (by decide)).2
  have f8 := (part_fig hh hs (l := 8) (by decide)).2
  simp only [figs, List.mem_cons, List.not_mem_nil, or_false] at hc
  rcases hc with rfl | rfl | rfl <;> omega

structure PlaceIs (pal : List Nat) (n : Int) (P : List (Nat × Nat)) (N : List (List Nat)) (x : Str) : Prop where
  place : W_place [.int n, .list (nats pal)] = some (.tup [.list (nats (P.map (·.1))), .list (txts N), .str x])
  read : W_read [.str x] = some (.list (txts N))
  ok : POk pal P
  lo : 3 ≤ P.length
  hi : P.length ≤ 5
  names : N.filter (fun m => !decide (m = [])) = P.map fun p => figs p.1 p.2
  digits : Digits N
  short : N.length ≤ 6

theorem range_eq {F : RV} {ρ : Rho} {k : Nat} (h : F ρ = some (.int (k : Int))) (hk : k < 1000) : lRange F ρ = some ((List.range k).map fun (i : Nat) => V.int (i : Int)) := by
  unfold lRange
  rw [h]
  have hc : (decide ((0 : Int) ≤ (k : Int)) && decide ((k : Int) < 1000)) = true := by
    rw [Bool.and_eq_true]; exact ⟨decide_eq_true (by omega), decide_eq_true (by omega)⟩
  show (if (decide ((0 : Int) ≤ (k : Int)) && decide ((k : Int) < 1000)) = true then some (rangeL (k : Int)) else none) = _
  rw [if_pos hc]
  unfold rangeL
  rw [Int.toNat_natCast]
theorem place_range {pal : List Nat} {ρ : Rho} {mo k : Nat} (g1 : get ρ 1 = some (.list (nats pal))) (g2 : get ρ 2 = some (.int (mo : Int))) (h6 : pal.length ≤ 6) (hmo : mo < 3) (hk : k = if 3 + mo < pal.length then 3 + mo else pal.length) :
    lRange (fC minV (aC (fC lenV (aC (fV 1) a0)) (aC (f2 addV (fI 3) (fV 2)) a0))) ρ = some ((List.range k).map fun (i : Nat) => V.int (i : Int)) := by
  refine range_eq ?_ (by rw [hk]; split <;> omega)
  have hln : lenV [.list (nats pal)] = some (.int (pal.length : Int)) := by
    have hc : (nats pal).length < roof := by rw [nats_len]; unfold roof; omega
    show (if (nats pal).length < roof then some (V.int ((nats pal).length : Int)) else none) = _
    rw [if_pos hc, nats_len]
  have hmin : minV [.int (pal.length : Int), .int (3 + (mo : Int))] = some (.int (k : Int)) := by
    rw [minV2, hk]
    by_cases h : 3 + mo < pal.length
    · rw [if_pos h, if_pos (by omega)]
      simp
    · rw [if_neg h, if_neg (by omega)]
  simp only [fC, aC, a0, f2, fI, fV, g1, g2, Option.bind_some, hln, addV_ii, hmin]

theorem place_law {pal : List Nat} (hp : PalOk pal) (n : Int) : ∃ P N x, PlaceIs pal n P N x := by
  obtain ⟨n1, mo, e1, hmo⟩ := divmod_nat n (k := 3) (by decide) (by decide)
  have e1' : divmodV [.int n, .int 3] = some (.tup [.int n1, .int (mo : Int)]) := e1
  let ρ0 : Rho := put (put [] 0 (.int n)) 1 (.list (nats pal))
  let ρa : Rho := put (put ρ0 0 (.int n1)) 2 (.int (mo : Int))
  let ρb : Rho := put (put ρa 3 (.list [])) 4 (.list [])
  obtain ⟨k, hk⟩ : ∃ k, k = if 3 + mo < pal.length then 3 + mo else pal.length := ⟨_, rfl⟩
  have hk3 : 3 ≤ k := by have := hp.lo; rw [hk]; split <;> omega
  have hk5 : k ≤ 5 := by rw [hk]; split <;> omega
  have hkl : k ≤ pal.length := by rw [hk]; split <;> omega
  have s1 : xAsg (fC divmodV (aC (fV 0) (aC (fI 3) a0))) (bT [("number", 0), ("more", 2)]) ρ0 = some (.next ρa) := by
    refine asg_eq (d := .tup [.int n1, .int (mo : Int)]) ?_ rfl
    simp [ρ0, fI, fS, fF, fN, fT, fV, lV, lOf, lTup, a0, aC, fTup, fList, f2, f1, fC, fM, bC, bV, bNot, bAnd, bOr, bIn, aAnd, fB, fIte, pN, pS, fSl, fSs, fIsi, lRange, fRange, lStr, fLen, b1, bT, tT, one, xNil, xAsg, xAsc, xOwn, xApp, xAug, xSwap, xIte, xRet, xFrz, andThen, putAll, asSeq, asList, asInt, asStr, asTup, asBool, Option.bind_some, Option.map_some, gp, roof, e1']
  have hb : PSt pal [] ρb := ⟨⟨n1, by simp [ρ0, ρa, ρb, gp]⟩, by simp [ρ0, ρa, ρb, gp], by simp [ρ0, ρa, ρb, gp, nats], by simp [ρ0, ρa, ρb, gp, txts]⟩
  have hrange := place_range (k := k) hb.palette (show get ρb 2 = some (.int (mo : Int)) by simp [ρ0, ρa, ρb, gp]) hp.hi hmo hk
  obtain ⟨ρL, eL, P, hPl, hP, hPS⟩ := for_inv (bnd := b1 5) (body := placeB) (fun (i : Nat) => V.int (i : Int)) (fun done ρ => ∃ P, P.length = done.length ∧ POk pal P ∧ PSt pal P ρ) (List.range k) [] ρb ⟨[], rfl, ⟨by simp, by simp, by simp⟩, hb⟩
    fun pre a post ρ e ⟨P, h1, h2, h3⟩ => by
      have hlen : pre.length < k := by
        have := congrArg List.length e
        simp only [List.nil_append, List.length_range, List.length_append, List.length_cons] at this
        omega
      obtain ⟨ρ1, ρ2, a1, a2, q, a3, a4⟩ := place_step hp h2 (by omega) h3 (.int (a : Int))
      exact ⟨ρ1, ρ2, a1, a2, P ++ [q], by simp [h1], a3, a4⟩
  rw [List.nil_append, List.length_range] at hPl
  have hdig := figs_digits hp hP
  obtain ⟨N, p1, a, p2, b, hT, ⟨g, hN⟩, hp1, hp2, hab⟩ := place_tail hPS hdig (by omega) (by omega)
  have hNd : Digits N := by
    intro m hm
    rcases hN with hN | hN <;> rw [hN] at hm <;> simp only [List.mem_append, List.mem_singleton] at hm
    · rcases hm with hm | hm
      · exact hdig m (List.mem_of_mem_take hm)
      · exact hdig m (List.mem_of_mem_drop hm)
    · rcases hm with (hm | hm) | hm
      · exact hdig m (List.mem_of_mem_take hm)
      · rw [hm]; exact ⟨by decide, by simp⟩
      · exact hdig m (List.mem_of_mem_drop hm)
  have hfig : ∀ m ∈ (P.map fun p => figs p.1 p.2), (!decide (m = [])) = true := by
    intro m hm
    obtain ⟨p, _, rfl⟩ := List.mem_map.mp hm
    simp [figs_ne]
  have hNf : N.filter (fun m => !decide (m = [])) = P.map fun p => figs p.1 p.2 := by
    have h0 : ([[]] : List (List Nat)).filter (fun m => !decide (m = [])) = [] := rfl
    rcases hN with hN | hN
    · rw [hN, List.take_append_drop]
      exact List.filter_eq_self.mpr hfig
    · rw [hN, List.filter_append, List.filter_append, h0, List.append_nil, ← List.filter_append, List.take_append_drop]
      exact List.filter_eq_self.mpr hfig
  have hNl : N.length ≤ 6 := by
    rcases hN with hN | hN <;> rw [hN] <;> simp only [List.length_append, List.length_take, List.length_drop, List.length_map, List.length_singleton] <;> omega
  have hN0 : N ≠ [] := by
    intro e
    rw [e] at hNf
    have := congrArg List.length hNf
    simp only [List.filter_nil, List.length_nil, List.length_map] at this
    omega
  have hjl : (jn [39] N).length ≤ 24 := Nat.le_trans (jn_len 39 N fun m hm => (hNd m hm).1) (by omega)
  have hch : ∀ c ∈ jn [39] N, c = 39 ∨ (48 ≤ c ∧ c < 58) := by
    intro c hc
    rcases jn_mem 39 N c hc with e | ⟨m, hm, hcm⟩
    · exact .inl e
    · exact .inr ((hNd m hm).2 c hcm)
  have hpl : Plain (a ++ b) := by
    intro c hc
    rw [hab] at hc
    rcases hch c hc with e | e <;> omega
  have hs := strip_loop_law hp1 hp2 (fun c hc => hpl c (List.mem_append_left _ hc)) (fun c hc => hpl c (List.mem_append_right _ hc)) (p1 := p1) (a := a) (p2 := p2) (b := b) (by
    have h1 := piece_short hp1
    have h2 := piece_short hp2
    have h3 := congrArg List.length hab
    simp only [List.length_append] at h3 ⊢
    omega)
  rw [hab] at hs
  have hread := read_law hs hN0 hNl (fun m hm h39 => by have := (hNd m hm).2 39 h39; omega) (by omega) (fun c hc => by rcases hch c hc with e | e <;> omega)
  refine ⟨P, N, _, ⟨?_, hread, hP, by omega, by omega, hNf, hNd, hNl⟩⟩
  unfold W_place runF
  rw [F_place_def]
  show ((andThen _ _ ρ0).map _) = _
  have hfor : xFor (lRange (fC minV (aC (fC lenV (aC (fV 1) a0)) (aC (f2 addV (fI 3) (fV 2)) a0)))) (b1 5) placeB ρb = some (.next ρL) := by
    unfold xFor
    rw [hrange]; exact eL
  rw [at_next s1 (at_next (F := xOwn a0 3) (ρ1 := put ρa 3 (.list [])) rfl (at_next (F := xOwn a0 4) (ρ1 := ρb) rfl (at_next hfor hT)))]
  rfl
end Mine
end

section
namespace Mine
open PySem PySem.Calls PyProof.Rows

/-! the stable choice, on lists of naturals -/
noncomputable def pick (c : Nat → Nat) (S : List Nat) (l : List Nat) : List Nat := l.foldl (fun acc x => if x ∈ S ∧ c x ∉ acc.map c then acc ++ [x] else acc) []
theorem pick_snoc (c : Nat → Nat) (S l : List Nat) (a : Nat) : pick c S (l ++ [a]) = if a ∈ S ∧ c a ∉ (pick c S l).map c then pick c S l ++ [a] else pick c S l := by
  unfold pick
  rw [List.foldl_append]
  rfl
theorem snoc_ind {P : List Nat → Prop} (h0 : P []) (h1 : ∀ l a, P l → P (l ++ [a])) (l : List Nat) : P l := by
  have : ∀ m : List Nat, P m.reverse := by
    intro m
    induction m with
    | nil => exact h0
    | cons a m ih => rw [List.reverse_cons]; exact h1 _ _ ih
  have h := this l.reverse
  rw [List.reverse_reverse] at h
  exact h
theorem pick_mem (c : Nat → Nat) (S : List Nat) (l : List Nat) : ∀ x ∈ pick c S l, x ∈ l ∧ x ∈ S := by
  induction l using snoc_ind with
  | h0 => intro x h; exact (List.not_mem_nil h).elim
  | h1 l a ih =>
    intro x h
    rw [pick_snoc] at h
    split at h
    · rename_i hc
      rcases List.mem_append.mp h with h | h
      · exact ⟨List.mem_append_left _ (ih x h).1, (ih x h).2⟩
      · rw [List.mem_singleton.mp h]; exact ⟨by simp, hc.1⟩
    · exact ⟨List.mem_append_left _ (ih x h).1, (ih x h).2⟩
theorem pick_nodup (c : Nat → Nat) (S : List Nat) (l : List Nat) : ((pick c S l).map c).Nodup := by
  induction l using snoc_ind with
  | h0 => exact List.nodup_nil
  | h1 l a ih =>
    rw [pick_snoc]
    split
    · rename_i hc
      rw [List.map_append, List.nodup_append]
      refine ⟨ih, by simp, fun x hx y hy => ?_⟩
      simp only [List.map_cons, List.map_nil, List.mem_singleton] at hy
      subst hy
      intro e; subst e
      exact hc.2 hx
    · exact ih
theorem idx_left {l : List Nat} {a x : Nat} (h : x ∈ l) : (l ++ [a]).idxOf x = l.idxOf x := by
  rw [List.idxOf_append, if_pos h]
theorem pick_first (c : Nat → Nat) (S : List Nat) (l : List Nat) : ∀ x ∈ l, x ∈ S → ∃ y ∈ pick c S l, c y = c x ∧ l.idxOf y ≤ l.idxOf x := by
  induction l using snoc_ind with
  | h0 => intro x h; exact (List.not_mem_nil h).elim
  | h1 l a ih =>
    intro x h hS
    by_cases hx : x ∈ l
    · obtain ⟨y, hy, h1, h2⟩ := ih x hx hS
      refine ⟨y, ?_, h1, ?_⟩
      · rw [pick_snoc]; split
        · exact List.mem_append_left _ hy
        · exact hy
      · rw [idx_left hx, idx_left (pick_mem c S l y hy).1]; exact h2
    · have e : x = a := by
        rcases List.mem_append.mp h with h | h
        · exact (hx h).elim
        · exact List.mem_singleton.mp h
      subst e
      rw [pick_snoc]
      by_cases hc : c x ∈ (pick c S l).map c
      · rw [if_neg fun h' => h'.2 hc]
        obtain ⟨y, hy, hyc⟩ := List.mem_map.mp hc
        have hyl := (pick_mem c S l y hy).1
        refine ⟨y, hy, hyc, ?_⟩
        rw [idx_left hyl, List.idxOf_append, if_neg hx]
        have := List.idxOf_lt_length_iff.mpr hyl
        omega
      · rw [if_pos ⟨hS, hc⟩]
        exact ⟨x, List.mem_append_right _ (List.mem_singleton.mpr rfl), rfl, Nat.le_refl _⟩
theorem map_inj {c : Nat → Nat} : ∀ {l : List Nat}, (l.map c).Nodup → ∀ a ∈ l, ∀ b ∈ l, c a = c b → a = b
  | [], _, a, ha, _, _, _ => (List.not_mem_nil ha).elim
  | x :: l, h, a, ha, b, hb, e => by
    rw [List.map_cons, List.nodup_cons] at h
    rcases List.mem_cons.mp ha with ea | ha'
    · rcases List.mem_cons.mp hb with eb | hb'
      · rw [ea, eb]
      · exact (h.1 (by rw [← ea, e]; exact List.mem_map_of_mem hb')).elim
    · rcases List.mem_cons.mp hb with eb | hb'
      · exact (h.1 (by rw [← eb, ← e]; exact List.mem_map_of_mem ha')).elim
      · exact map_inj h.2 a ha' b hb' e
theorem nodup_of_map {c : Nat → Nat} : ∀ {l : List Nat}, (l.map c).Nodup → l.Nodup
  | [], _ => List.nodup_nil
  | x :: l, h => by
    rw [List.map_cons, List.nodup_cons] at h
    rw [List.nodup_cons]
    exact ⟨fun m => h.1 (List.mem_map_of_mem m), nodup_of_map h.2⟩
theorem idx_inj {l : List Nat} {x y : Nat} (hx : x ∈ l) (hy : y ∈ l) (h : l.idxOf x = l.idxOf y) : x = y := by
  have h1 := List.getElem_idxOf (List.idxOf_lt_length_iff.mpr hx)
  have h2 := List.getElem_idxOf (List.idxOf_lt_length_iff.mpr hy)
  rw [← h1, ← h2]
  simp only [h]
theorem pick_min (c : Nat → Nat) (S l : List Nat) {y z : Nat} (hy : y ∈ pick c S l) (hz : z ∈ l) (hzS : z ∈ S) (e : c z = c y) : l.idxOf y ≤ l.idxOf z := by
  obtain ⟨w, hw, h1, h2⟩ := pick_first c S l z hz hzS
  rw [map_inj (pick_nodup c S l) y hy w hw (by rw [h1, e])]
  exact h2

noncomputable def asks (bl free : List Nat) : List Nat := pick (· / 3) free bl
noncomputable def keeps (bc A : List Nat) : List Nat := pick (· % 3) A bc
noncomputable def left (free A K : List Nat) : List Nat := free.filter fun x => !decide (x ∈ A) || decide (x ∈ K)
noncomputable def chL (bl bc : List Nat) : Nat → List Nat → List Nat
  | 0, _ => []
  | n + 1, free => if (keeps bc (asks bl free)).length = (asks bl free).length then asks bl free else chL bl bc n (left free (asks bl free) (keeps bc (asks bl free)))

/-- y stands ahead of x in its line or in its column -/
noncomputable def Dom (bl bc : List Nat) (y x : Nat) : Prop := (y / 3 = x / 3 ∧ bl.idxOf y < bl.idxOf x) ∨ (y % 3 = x % 3 ∧ bc.idxOf y < bc.idxOf x)

theorem left_lt {bl bc free : List Nat} (h : (keeps bc (asks bl free)).length ≠ (asks bl free).length) : (left free (asks bl free) (keeps bc (asks bl free))).length < free.length := by
  have hA : (asks bl free).Nodup := nodup_of_map (pick_nodup _ _ _)
  have hK : (keeps bc (asks bl free)).Nodup := nodup_of_map (pick_nodup _ _ _)
  have hKA : keeps bc (asks bl free) ⊆ asks bl free := fun x hx => (pick_mem _ _ _ x hx).2
  have h1 := List.Nodup.length_le_of_subset hK hKA
  have : ¬ asks bl free ⊆ keeps bc (asks bl free) := fun hs => by
    have := List.Nodup.length_le_of_subset hA hs
    omega
  obtain ⟨x, hx, hxK⟩ : ∃ x, x ∈ asks bl free ∧ x ∉ keeps bc (asks bl free) := by
    refine Classical.byContradiction fun hn => this fun x hx => ?_
    exact Classical.byContradiction fun hk => hn ⟨x, hx, hk⟩
  refine List.length_filter_lt_length_iff_exists.mpr ⟨x, (pick_mem _ _ _ x hx).2, ?_⟩
  simp [hx, hxK]

theorem ch_spec {bl bc free0 : List Nat} (hb : ∀ x ∈ free0, x ∈ bl ∧ x ∈ bc) : ∀ (n : Nat) (free : List Nat), free.length < n → free ⊆ free0 →
    (∀ x ∈ free0, x ∉ free → ∃ y ∈ free, y % 3 = x % 3 ∧ bc.idxOf y < bc.idxOf x ∧ ∀ z ∈ free, z / 3 = y / 3 → bl.idxOf y ≤ bl.idxOf z) →
    (chL bl bc n free).Nodup ∧ chL bl bc n free ⊆ free0 ∧ ∀ x ∈ free0, x ∉ chL bl bc n free → ∃ y ∈ chL bl bc n free, Dom bl bc y x
  | 0, _, h, _, _ => absurd h (Nat.not_lt_zero _)
  | n + 1, free, hlt, hsub, inv => by
    have hAm : ∀ x ∈ asks bl free, x ∈ bl ∧ x ∈ free := pick_mem _ _ _
    have hKm : ∀ x ∈ keeps bc (asks bl free), x ∈ bc ∧ x ∈ asks bl free := pick_mem _ _ _
    unfold chL
    by_cases hl : (keeps bc (asks bl free)).length = (asks bl free).length
    · rw [if_pos hl]
      refine ⟨nodup_of_map (pick_nodup _ _ _), fun x hx => hsub (hAm x hx).2, fun x hx hxA => ?_⟩
      by_cases hf : x ∈ free
      · obtain ⟨y, hy, h1, h2⟩ := pick_first (· / 3) free bl x (hb x hx).1 hf
        refine ⟨y, hy, .inl ⟨h1, ?_⟩⟩
        refine Nat.lt_of_le_of_ne h2 fun e => ?_
        have := idx_inj (hAm y hy).1 (hb x hx).1 e
        exact hxA (this ▸ hy)
      · obtain ⟨y, hy, h1, h2, h3⟩ := inv x hx hf
        obtain ⟨z, hz, h4, h5⟩ := pick_first (· / 3) free bl y (hb y (hsub hy)).1 hy
        have h6 := h3 z (hAm z hz).2 h4
        have e : z = y := idx_inj (hAm z hz).1 (hb y (hsub hy)).1 (by omega)
        subst e
        exact ⟨z, hz, .inr ⟨h1, h2⟩⟩
    · rw [if_neg hl]
      have hlt' := left_lt hl
      have hLm : ∀ x, x ∈ left free (asks bl free) (keeps bc (asks bl free)) ↔ x ∈ free ∧ (x ∉ asks bl free ∨ x ∈ keeps bc (asks bl free)) := by
        intro x
        unfold left
        rw [List.mem_filter, Bool.or_eq_true, decide_eq_true_eq, Bool.not_eq_true', decide_eq_false_iff_not]
      have kept : ∀ x, x ∈ asks bl free → x ∉ keeps bc (asks bl free) → ∃ y ∈ left free (asks bl free) (keeps bc (asks bl free)), y % 3 = x % 3 ∧ bc.idxOf y < bc.idxOf x ∧ ∀ z ∈ left free (asks bl free) (keeps bc (asks bl free)), z / 3 = y / 3 → bl.idxOf y ≤ bl.idxOf z := by
        intro x hxA hxK
        have hx0 := hb x (hsub (hAm x hxA).2)
        obtain ⟨y, hy, h1, h2⟩ := pick_first (· % 3) (asks bl free) bc x hx0.2 hxA
        have hyK : y ∈ keeps bc (asks bl free) := hy
        have hyA := (hKm y hyK).2
        refine ⟨y, (hLm y).mpr ⟨(hAm y hyA).2, .inr hyK⟩, h1, ?_, fun z hz ez => ?_⟩
        · refine Nat.lt_of_le_of_ne h2 fun e => ?_
          have := idx_inj (hKm y hyK).1 hx0.2 e
          exact hxK (this ▸ hyK)
        · have hzf := ((hLm z).mp hz).1
          exact pick_min (· / 3) free bl hyA (hb z (hsub hzf)).1 hzf ez
      refine ch_spec hb n _ (by omega) (fun x hx => hsub ((hLm x).mp hx).1) fun x hx hxl => ?_
      by_cases hf : x ∈ free
      · have hxA : x ∈ asks bl free := Classical.byContradiction fun hn => hxl ((hLm x).mpr ⟨hf, .inl hn⟩)
        have hxK : x ∉ keeps bc (asks bl free) := fun hk => hxl ((hLm x).mpr ⟨hf, .inr hk⟩)
        exact kept x hxA hxK
      · obtain ⟨y, hy, h1, h2, h3⟩ := inv x hx hf
        by_cases hyl : y ∈ left free (asks bl free) (keeps bc (asks bl free))
        · exact ⟨y, hyl, h1, h2, fun z hz => h3 z ((hLm z).mp hz).1⟩
        · have hyA : y ∈ asks bl free := Classical.byContradiction fun hn => hyl ((hLm y).mpr ⟨hy, .inl hn⟩)
          have hyK : y ∉ keeps bc (asks bl free) := fun hk => hyl ((hLm y).mpr ⟨hy, .inr hk⟩)
          obtain ⟨z, hz, h4, h5, h6⟩ := kept y hyA hyK
          exact ⟨z, hz, by rw [h4, h1], by omega, h6⟩

theorem chosen_spec {bl bc free : List Nat} (hb : ∀ x ∈ free, x ∈ bl ∧ x ∈ bc) (h : free.length < 10) :
    (chL bl bc 10 free).Nodup ∧ chL bl bc 10 free ⊆ free ∧ ∀ x ∈ free, x ∉ chL bl bc 10 free → ∃ y ∈ chL bl bc 10 free, Dom bl bc y x :=
  ch_spec hb 10 free h (fun _ h => h) fun x hx hn => (hn hx).elim
end Mine
end

section
namespace Mine
open PySem PySem.Calls PyProof.Rows
set_option maxRecDepth 100000

noncomputable def askB : RX := (andThen (xIte (bAnd (bIn inI (fV 5) (lOf (fV 0))) (bIn notIn (f2 fdivV (fV 5) (fI 3)) (lOf (fComp (lV 4) (b1 7) tT (f2 fdivV (fV 7) (fI 3)))))) (andThen (xApp 4 (fV 5))
  xNil) xNil)
  xNil)
noncomputable def keepB : RX := (andThen (xIte (bAnd (bIn inI (fV 5) (lV 4)) (bIn notIn (f2 modV (fV 5) (fI 3)) (lOf (fComp (lV 6) (b1 8) tT (f2 modV (fV 8) (fI 3)))))) (andThen (xApp 6 (fV 5))
  xNil) xNil)
  xNil)
noncomputable def chB : RX := (andThen (xOwn a0 4)
  (andThen (xFor (lOf (fV 1)) (b1 5) askB)
  (andThen (xOwn a0 6)
  (andThen (xFor (lOf (fV 2)) (b1 5) keepB)
  (andThen (xIte (bC eqV (fLen (lV 6)) (fLen (lV 4))) (xFrz 4 9 (andThen (xRet (fV 9))
  xNil)) xNil)
  (andThen (xAsc (fComp (lOf (fV 0)) (b1 10) (bOr (bIn notIn (fV 10) (lV 4)) (bIn inI (fV 10) (lV 6))) (fV 10)) 0)
  xNil))))))
theorem F_chosen_def : F_chosen = (andThen (xFor (lRange (fI 10)) (b1 3) chB)
  (andThen (xRet (fList a0))
  xNil)) := rfl

structure CSt (free bl bc : List Nat) (ρ : Rho) : Prop where
  free : get ρ 0 = some (.list (nats free))
  lines : get ρ 1 = some (.list (nats bl))
  columns : get ρ 2 = some (.list (nats bc))

theorem nats_mapped (c : Nat → Nat) (l : List Nat) : (l.map fun (n : Nat) => V.int ((c n : Nat) : Int)) = nats (l.map c) := by
  unfold nats; rw [List.map_map]; rfl
theorem div3 (n : Nat) : fdivV [.int (n : Int), .int 3] = some (.int ((n / 3 : Nat) : Int)) := by
  rw [← fdiv_nat]; rfl
theorem mod3 (n : Nat) : modV [.int (n : Int), .int 3] = some (.int ((n % 3 : Nat) : Int)) := by
  rw [← fmod_natn]; rfl

theorem ask_step {free bl bc acc : List Nat} {ρ : Rho} (h : CSt free bl bc ρ) (h4 : get ρ 4 = some (.list (nats acc))) (ha : acc.length < 1000) (x : Nat) :
    ∃ ρ1 ρ2, b1 5 ρ (.int (x : Int)) = some ρ1 ∧ askB ρ1 = some (.next ρ2) ∧ CSt free bl bc ρ2 ∧ get ρ2 4 = some (.list (nats (if x ∈ free ∧ x / 3 ∉ acc.map (· / 3) then acc ++ [x] else acc))) := by
  let ρ1 : Rho := put ρ 5 (.int (x : Int))
  have g0 : get ρ1 0 = some (.list (nats free)) := by simp [ρ1, gp, h.free]
  have g4 : get ρ1 4 = some (.list (nats acc)) := by simp [ρ1, gp, h4]
  have g5 : get ρ1 5 = some (.int (x : Int)) := by simp [ρ1, gp]
  have hc : fComp (lV 4) (b1 7) tT (f2 fdivV (fV 7) (fI 3)) ρ1 = some (.list (nats (acc.map (· / 3)))) := by
    rw [← nats_mapped (· / 3) acc]
    refine compT_eq (f := fun (n : Nat) => V.int (n : Int)) (l := acc) (fun (n : Nat) => V.int ((n / 3 : Nat) : Int)) (by unfold lV; rw [g4]; rfl) (by omega) fun a _ => ⟨put ρ1 7 (.int (a : Int)), rfl, ?_⟩
    simp only [fI, fS, fF, fN, fT, fV, lV, lOf, lTup, a0, aC, fTup, fList, f2, f1, fC, fM, bC, bV, bNot, bAnd, bOr, bIn, aAnd, fB, fIte, pN, pS, fSl, fSs, fIsi, lRange, fRange, lStr, fLen, b1, bT, tT, one, xNil, xAsg, xAsc, xOwn, xApp, xAug, xSwap, xIte, xRet, xFrz, andThen, putAll, asSeq, asList, asInt, asStr, asTup, asBool, Option.bind_some, Option.map_some, gp, roof, if_true]
    exact div3 a
  have hcond : (bAnd (bIn inI (fV 5) (lOf (fV 0))) (bIn notIn (f2 fdivV (fV 5) (fI 3)) (lOf (fComp (lV 4) (b1 7) tT (f2 fdivV (fV 7) (fI 3)))))) ρ1 = some (decide (x ∈ free ∧ x / 3 ∉ acc.map (· / 3))) := by
    generalize fComp (lV 4) (b1 7) tT (f2 fdivV (fV 7) (fI 3)) = X at hc ⊢
    simp only [bAnd, bIn, fV, lOf, f2, fI, g0, g5, hc, asList, Option.bind_some, in_nats, div3, notIn_nats]
    generalize acc.map (· / 3) = M
    by_cases hx : x ∈ free <;> by_cases hm : x / 3 ∈ M <;> simp [hx, hm]
  by_cases hx : x ∈ free ∧ x / 3 ∉ acc.map (· / 3)
  · rw [decide_eq_true hx] at hcond
    rw [if_pos hx]
    have happ : xApp 4 (fV 5) ρ1 = some (.next (put ρ1 4 (.list (nats (acc ++ [x]))))) := by
      unfold xApp fV
      rw [g4, g5]
      have hl : (nats acc).length < 10000 := by rw [nats_len]; omega
      show (if (nats acc).length < 10000 then _ else _) = _
      rw [if_pos hl, ← nats_app]; rfl
    refine ⟨ρ1, put ρ1 4 (.list (nats (acc ++ [x]))), rfl, at_next (ite_t hcond (at_next happ rfl)) rfl, ⟨?_, ?_, ?_⟩, ?_⟩
    · simp [ρ1, gp, h.free]
    · simp [ρ1, gp, h.lines]
    · simp [ρ1, gp, h.columns]
    · simp [gp]
  · rw [decide_eq_false hx] at hcond
    rw [if_neg hx]
    refine ⟨ρ1, ρ1, rfl, at_next (ite_f hcond rfl) rfl, ⟨?_, ?_, ?_⟩, ?_⟩
    · simp [ρ1, gp, h.free]
    · simp [ρ1, gp, h.lines]
    · simp [ρ1, gp, h.columns]
    · simp [ρ1, gp, h4]

theorem keep_step {free bl bc A acc : List Nat} {ρ : Rho} (h : CSt free bl bc ρ) (h4 : get ρ 4 = some (.list (nats A))) (h6 : get ρ 6 = some (.list (nats acc))) (ha : acc.length < 1000) (x : Nat) :
    ∃ ρ1 ρ2, b1 5 ρ (.int (x : Int)) = some ρ1 ∧ keepB ρ1 = some (.next ρ2) ∧ CSt free bl bc ρ2 ∧ get ρ2 4 = some (.list (nats A)) ∧ get ρ2 6 = some (.list (nats (if x ∈ A ∧ x % 3 ∉ acc.map (· % 3) then acc ++ [x] else acc))) := by
  let ρ1 : Rho := put ρ 5 (.int (x : Int))
  have g4 : get ρ1 4 = some (.list (nats A)) := by simp [ρ1, gp, h4]
  have g6 : get ρ1 6 = some (.list (nats acc)) := by simp [ρ1, gp, h6]
  have g5 : get ρ1 5 = some (.int (x : Int)) := by simp [ρ1, gp]
  have hc : fComp (lV 6) (b1 8) tT (f2 modV (fV 8) (fI 3)) ρ1 = some (.list (nats (acc.map (· % 3)))) := by
    rw [← nats_mapped (· % 3) acc]
    refine compT_eq (f := fun (n : Nat) => V.int (n : Int)) (l := acc) (fun (n : Nat) => V.int ((n % 3 : Nat) : Int)) (by unfold lV; rw [g6]; rfl) (by omega) fun a _ => ⟨put ρ1 8 (.int (a : Int)), rfl, ?_⟩
    simp only [fI, fS, fF, fN, fT, fV, lV, lOf, lTup, a0, aC, fTup, fList, f2, f1, fC, fM, bC, bV, bNot, bAnd, bOr, bIn, aAnd, fB, fIte, pN, pS, fSl, fSs, fIsi, lRange, fRange, lStr, fLen, b1, bT, tT, one, xNil, xAsg, xAsc, xOwn, xApp, xAug, xSwap, xIte, xRet, xFrz, andThen, putAll, asSeq, asList, asInt, asStr, asTup, asBool, Option.bind_some, Option.map_some, gp, roof, if_true]
    exact mod3 a
  have hcond : (bAnd (bIn inI (fV 5) (lV 4)) (bIn notIn (f2 modV (fV 5) (fI 3)) (lOf (fComp (lV 6) (b1 8) tT (f2 modV (fV 8) (fI 3)))))) ρ1 = some (decide (x ∈ A ∧ x % 3 ∉ acc.map (· % 3))) := by
    generalize fComp (lV 6) (b1 8) tT (f2 modV (fV 8) (fI 3)) = X at hc ⊢
    simp only [bAnd, bIn, fV, lV, lOf, f2, fI, g4, g5, hc, asList, Option.bind_some, in_nats, mod3, notIn_nats]
    generalize acc.map (· % 3) = M
    by_cases hx : x ∈ A <;> by_cases hm : x % 3 ∈ M <;> simp [hx, hm]
  by_cases hx : x ∈ A ∧ x % 3 ∉ acc.map (· % 3)
  · rw [decide_eq_true hx] at hcond
    rw [if_pos hx]
    have happ : xApp 6 (fV 5) ρ1 = some (.next (put ρ1 6 (.list (nats (acc ++ [x]))))) := by
      unfold xApp fV
      rw [g6, g5]
      have hl : (nats acc).length < 10000 := by rw [nats_len]; omega
      show (if (nats acc).length < 10000 then _ else _) = _
      rw [if_pos hl, ← nats_app]; rfl
    refine ⟨ρ1, put ρ1 6 (.list (nats (acc ++ [x]))), rfl, at_next (ite_t hcond (at_next happ rfl)) rfl, ⟨?_, ?_, ?_⟩, ?_, ?_⟩
    · simp [ρ1, gp, h.free]
    · simp [ρ1, gp, h.lines]
    · simp [ρ1, gp, h.columns]
    · simp [ρ1, gp, h4]
    · simp [gp]
  · rw [decide_eq_false hx] at hcond
    rw [if_neg hx]
    refine ⟨ρ1, ρ1, rfl, at_next (ite_f hcond rfl) rfl, ⟨?_, ?_, ?_⟩, ?_, ?_⟩
    · simp [ρ1, gp, h.free]
    · simp [ρ1, gp, h.lines]
    · simp [ρ1, gp, h.columns]
    · simp [ρ1, gp, h4]
    · simp [ρ1, gp, h6]

theorem pick_le (c : Nat → Nat) (S : List Nat) (l : List Nat) : (pick c S l).length ≤ l.length := by
  induction l using snoc_ind with
  | h0 => exact Nat.le_refl _
  | h1 l a ih =>
    rw [pick_snoc]
    split <;> simp only [List.length_append, List.length_singleton] <;> omega

theorem ch_lap {free bl bc : List Nat} {ρ : Rho} (h : CSt free bl bc ρ) (hl : bl.length < 500) (hc : bc.length < 500) (hf : free.length < 500) (i : V) (rest : List V) :
    ((keeps bc (asks bl free)).length = (asks bl free).length → forGo (b1 3) chB ρ (i :: rest) = some (.ret (.list (nats (asks bl free))))) ∧
    ((keeps bc (asks bl free)).length ≠ (asks bl free).length → ∃ ρ', forGo (b1 3) chB ρ (i :: rest) = forGo (b1 3) chB ρ' rest ∧ CSt (left free (asks bl free) (keeps bc (asks bl free))) bl bc ρ') := by
  let ρ0 : Rho := put (put ρ 3 i) 4 (.list [])
  have s0 : xOwn a0 4 (put ρ 3 i) = some (.next ρ0) := rfl
  have k0 : CSt free bl bc ρ0 := ⟨by simp [ρ0, gp, h.free], by simp [ρ0, gp, h.lines], by simp [ρ0, gp, h.columns]⟩
  obtain ⟨ρ1, e1, k1, m1⟩ := for_inv (bnd := b1 5) (body := askB) (fun (n : Nat) => V.int (n : Int)) (fun done ρ => CSt free bl bc ρ ∧ get ρ 4 = some (.list (nats (pick (· / 3) free done)))) bl [] ρ0 ⟨k0, by simp [ρ0, gp, pick, nats]⟩
    fun pre a post ρ e ⟨h1, h2⟩ => by
      have hpl : pre.length < 500 := by
        have := congrArg List.length e
        simp only [List.nil_append, List.length_append, List.length_cons] at this
        omega
      obtain ⟨ρ1, ρ2, a1, a2, a3, a4⟩ := ask_step h1 h2 (by have := pick_le (· / 3) free pre; omega) a
      exact ⟨ρ1, ρ2, a1, a2, a3, by rw [pick_snoc]; exact a4⟩
  rw [List.nil_append] at m1
  have s1 : xFor (lOf (fV 1)) (b1 5) askB ρ0 = some (.next ρ1) := by
    unfold xFor lOf fV; rw [k0.lines]; exact e1
  let ρ2 : Rho := put ρ1 6 (.list [])
  have s2 : xOwn a0 6 ρ1 = some (.next ρ2) := rfl
  have k2 : CSt free bl bc ρ2 := ⟨by simp [ρ2, gp, k1.free], by simp [ρ2, gp, k1.lines], by simp [ρ2, gp, k1.columns]⟩
  obtain ⟨ρ3, e3, k3, m3, m3'⟩ := for_inv (bnd := b1 5) (body := keepB) (fun (n : Nat) => V.int (n : Int)) (fun done ρ => CSt free bl bc ρ ∧ get ρ 4 = some (.list (nats (asks bl free))) ∧ get ρ 6 = some (.list (nats (pick (· % 3) (asks bl free) done)))) bc [] ρ2 ⟨k2, by simp only [ρ2, gp]; exact m1, by simp [ρ2, gp, pick, nats]⟩
    fun pre a post ρ e ⟨h1, h2, h3⟩ => by
      have hpl : pre.length < 500 := by
        have := congrArg List.length e
        simp only [List.nil_append, List.length_append, List.length_cons] at this
        omega
      obtain ⟨ρ1, ρ2, a1, a2, a3, a4, a5⟩ := keep_step h1 h2 h3 (by have := pick_le (· % 3) (asks bl free) pre; omega) a
      exact ⟨ρ1, ρ2, a1, a2, a3, a4, by rw [pick_snoc]; exact a5⟩
  rw [List.nil_append] at m3'
  have m6 : get ρ3 6 = some (.list (nats (keeps bc (asks bl free)))) := m3'
  have s3 : xFor (lOf (fV 2)) (b1 5) keepB ρ2 = some (.next ρ3) := by
    unfold xFor lOf fV; rw [k2.columns]; exact e3
  have hAl : (asks bl free).length ≤ bl.length := pick_le _ _ _
  have hKl : (keeps bc (asks bl free)).length ≤ bc.length := pick_le _ _ _
  have hfl : ∀ (j : Nat) (l : List Nat), l.length < 1000 → get ρ3 j = some (.list (nats l)) → fLen (lV j) ρ3 = some (.int (l.length : Int)) := by
    intro j l hl' hg
    unfold fLen lV
    rw [hg]
    have hc' : (nats l).length < roof := by rw [nats_len]; unfold roof; omega
    show (if (nats l).length < roof then some (V.int ((nats l).length : Int)) else none) = _
    rw [if_pos hc', nats_len]
  have hcond : bC eqV (fLen (lV 6)) (fLen (lV 4)) ρ3 = some (decide ((keeps bc (asks bl free)).length = (asks bl free).length)) := by
    have a1 := hfl 6 _ (by omega) m6
    have a2 := hfl 4 _ (by omega) m3
    unfold bC
    rw [a1, a2]
    show some ((((keeps bc (asks bl free)).length : Int) == ((asks bl free).length : Int))) = _
    congr 1
    rw [Bool.eq_iff_iff, beq_iff_eq, decide_eq_true_eq]
    omega
  have hgo : forGo (b1 3) chB ρ (i :: rest) = (chB (put ρ 3 i)).bind fun r => match r with
    | .next ρ2 => forGo (b1 3) chB ρ2 rest
    | .ret v => some (.ret v) := rfl
  constructor
  · intro e
    rw [decide_eq_true e] at hcond
    have : chB (put ρ 3 i) = some (.ret (.list (nats (asks bl free)))) :=
      at_next s0 (at_next s1 (at_next s2 (at_next s3 (at_ret (ite_t hcond (frz_eq m3 (at_ret (ret_eq (get_put_self _ _ _)))))))))
    rw [hgo, this]; rfl
  · intro e
    rw [decide_eq_false e] at hcond
    have hcomp : fComp (lOf (fV 0)) (b1 10) (bOr (bIn notIn (fV 10) (lV 4)) (bIn inI (fV 10) (lV 6))) (fV 10) ρ3 = some (.list (nats (left free (asks bl free) (keeps bc (asks bl free))))) := by
      refine comp_eq (Fi := lOf (fV 0)) (bnd := b1 10) (Ft := bOr (bIn notIn (fV 10) (lV 4)) (bIn inI (fV 10) (lV 6))) (Fe := fV 10) (ρ := ρ3) (f := fun (n : Nat) => V.int (n : Int)) (l := free) (fun x => !decide (x ∈ asks bl free) || decide (x ∈ keeps bc (asks bl free))) (fun (n : Nat) => V.int (n : Int)) (by unfold lOf fV; rw [k3.free]; rfl) (by omega) fun a ha => ?_
      have q4 : get (put ρ3 10 (.int (a : Int))) 4 = some (.list (nats (asks bl free))) := by simp only [gp]; exact m3
      have q6 : get (put ρ3 10 (.int (a : Int))) 6 = some (.list (nats (keeps bc (asks bl free)))) := by simp only [gp]; exact m6
      have q10 : get (put ρ3 10 (.int (a : Int))) 10 = some (.int (a : Int)) := get_put_self _ _ _
      refine ⟨put ρ3 10 (.int (a : Int)), rfl, ?_, fun _ => q10⟩
      simp only [bOr, bIn, fV, lV, q4, q6, q10, asList, Option.bind_some, notIn_nats, in_nats]
      by_cases hx : a ∈ asks bl free <;> simp [hx]
    refine ⟨put ρ3 0 (.list (nats (left free (asks bl free) (keeps bc (asks bl free))))), ?_, ⟨by simp [gp], by simp [gp, k3.lines], by simp [gp, k3.columns]⟩⟩
    have : chB (put ρ 3 i) = some (.next (put ρ3 0 (.list (nats (left free (asks bl free) (keeps bc (asks bl free))))))) :=
      at_next s0 (at_next s1 (at_next s2 (at_next s3 (at_next (ite_f hcond rfl) (at_next (asc_eq hcomp) rfl)))))
    rw [hgo, this]; rfl

theorem ch_laps {bl bc : List Nat} (hl : bl.length < 500) (hc : bc.length < 500) : ∀ (ds : List V) (free : List Nat) (ρ : Rho), CSt free bl bc ρ → free.length < ds.length → ds.length < 100 →
    forGo (b1 3) chB ρ ds = some (.ret (.list (nats (chL bl bc ds.length free))))
  | [], _, _, _, h, _ => absurd h (Nat.not_lt_zero _)
  | d :: ds, free, ρ, hs, h, h100 => by
    rw [List.length_cons] at h h100
    have hlap := ch_lap hs hl hc (by omega) d ds
    rw [List.length_cons]
    unfold chL
    by_cases e : (keeps bc (asks bl free)).length = (asks bl free).length
    · rw [if_pos e]
      exact hlap.1 e
    · rw [if_neg e]
      obtain ⟨ρ', e', hs'⟩ := hlap.2 e
      have := left_lt e
      rw [e']
      exact ch_laps hl hc ds _ ρ' hs' (by omega) (by omega)

theorem chosen_eq {free bl bc : List Nat} (hl : bl.length < 500) (hc : bc.length < 500) (hf : free.length < 10) : W_chosen [.list (nats free), .list (nats bl), .list (nats bc)] = some (.list (nats (chL bl bc 10 free))) := by
  let ρ0 : Rho := put (put (put [] 0 (.list (nats free))) 1 (.list (nats bl))) 2 (.list (nats bc))
  have k0 : CSt free bl bc ρ0 := ⟨by simp [ρ0, gp], by simp [ρ0, gp], by simp [ρ0, gp]⟩
  have key := ch_laps hl hc (rangeL 10) free ρ0 k0 hf (by decide)
  unfold W_chosen runF
  rw [F_chosen_def]
  show ((andThen _ _ ρ0).map _) = _
  have : xFor (lRange (fI 10)) (b1 3) chB ρ0 = some (.ret (.list (nats (chL bl bc 10 free)))) := key
  rw [at_ret this]
  rfl
end Mine
end

section
namespace Mine
open PySem PySem.Calls PyProof.Rows
set_option maxRecDepth 100000

/-- the square: the rank of a place -/
noncomputable def rankOf (a b d l c : Nat) : Nat := ((1 + a) * l + (1 + b) * c + d) % 3
noncomputable def itemOf (a b d l c : Nat) : V := .tup [.int (l : Int), .int (c : Int), .int (rankOf a b d l c : Int), .int ((c / 2 : Nat) : Int)]
noncomputable def itemsV (a b d : Nat) : V := .list ((List.range 3).flatMap fun l => (List.range 3).map fun c => itemOf a b d l c)
noncomputable def wayI (w : Nat) : Int := 1 - 2 * (w : Int)
noncomputable def colsL : V := .list [.tup [.int 2, .int (-1)]]
noncomputable def colsC (w : Nat) : V := .list [.tup [.int 3, .int (wayI w)], .tup [.int 1, .int (-wayI w)], .tup [.int 2, .int 1]]
/-- the places of a row, where all is sure -/
noncomputable def rowOf : Option V → List Nat
  | some (.tup [.list xs, .bool true]) => xs.map fun v => match v with
    | .int i => i.toNat
    | _ => 99
  | _ => []
noncomputable def domB (bl bc : List Nat) (y x : Nat) : Bool := (y / 3 == x / 3 && decide (bl.idxOf y < bl.idxOf x)) || (y % 3 == x % 3 && decide (bc.idxOf y < bc.idxOf x))
noncomputable def rowsOk (bl bc : List Nat) : Bool := (bl.length == 9) && (bc.length == 9) && (List.range 9).all fun x => bl.contains x && bc.contains x && decide (((List.range 9).filter fun y => domB bl bc y x).length ≤ 2)
noncomputable def orderOk (a b d : Nat) : Bool :=
  let o := W_order [itemsV a b d, colsL]
  let bl := rowOf o
  gives o (.tup [.list (nats bl), .bool true]) && (List.range 2).all fun w =>
    let q := W_order [itemsV a b d, colsC w]
    let bc := rowOf q
    gives q (.tup [.list (nats bc), .bool true]) && rowsOk bl bc
theorem o000 : orderOk 0 0 0 = true := by decide +kernel
theorem o001 : orderOk 0 0 1 = true := by decide +kernel
theorem o002 : orderOk 0 0 2 = true := by decide +kernel
theorem o010 : orderOk 0 1 0 = true := by decide +kernel
theorem o011 : orderOk 0 1 1 = true := by decide +kernel
theorem o012 : orderOk 0 1 2 = true := by decide +kernel
theorem o100 : orderOk 1 0 0 = true := by decide +kernel
theorem o101 : orderOk 1 0 1 = true := by decide +kernel
theorem o102 : orderOk 1 0 2 = true := by decide +kernel
theorem o110 : orderOk 1 1 0 = true := by decide +kernel
theorem o111 : orderOk 1 1 1 = true := by decide +kernel
theorem o112 : orderOk 1 1 2 = true := by decide +kernel
theorem order_all {a b d : Nat} (ha : a < 2) (hb : b < 2) (hd : d < 3) : orderOk a b d = true := by
  match a, b, d, ha, hb, hd with
  | 0, 0, 0, _, _, _ => exact o000
  | 0, 0, 1, _, _, _ => exact o001
  | 0, 0, 2, _, _, _ => exact o002
  | 0, 1, 0, _, _, _ => exact o010
  | 0, 1, 1, _, _, _ => exact o011
  | 0, 1, 2, _, _, _ => exact o012
  | 1, 0, 0, _, _, _ => exact o100
  | 1, 0, 1, _, _, _ => exact o101
  | 1, 0, 2, _, _, _ => exact o102
  | 1, 1, 0, _, _, _ => exact o110
  | 1, 1, 1, _, _, _ => exact o111
  | 1, 1, 2, _, _, _ => exact o112

structure Rows (bl bc : List Nat) : Prop where
  bl9 : bl.length = 9
  bc9 : bc.length = 9
  mem : ∀ x, x < 9 → x ∈ bl ∧ x ∈ bc
  dom : ∀ x, x < 9 → ∀ l : List Nat, l.Nodup → (∀ y ∈ l, y < 9 ∧ Dom bl bc y x) → l.length ≤ 2
theorem rows_of {bl bc : List Nat} (h : rowsOk bl bc = true) : Rows bl bc := by
  unfold rowsOk at h
  rw [Bool.and_eq_true, Bool.and_eq_true, beq_iff_eq, beq_iff_eq] at h
  have hx : ∀ x, x < 9 → (x ∈ bl ∧ x ∈ bc) ∧ ((List.range 9).filter fun y => domB bl bc y x).length ≤ 2 := by
    intro x hx
    have := List.all_eq_true.mp h.2 x (List.mem_range.mpr hx)
    rw [Bool.and_eq_true, Bool.and_eq_true, decide_eq_true_eq, List.contains_iff_mem, List.contains_iff_mem] at this
    exact this
  refine ⟨h.1.1, h.1.2, fun x h9 => (hx x h9).1, fun x h9 l hl hy => ?_⟩
  refine Nat.le_trans (List.Nodup.length_le_of_subset hl fun y hm => ?_) (hx x h9).2
  obtain ⟨y9, hd⟩ := hy y hm
  refine List.mem_filter.mpr ⟨List.mem_range.mpr y9, ?_⟩
  unfold domB
  rw [Bool.or_eq_true, Bool.and_eq_true, Bool.and_eq_true, decide_eq_true_eq, decide_eq_true_eq, beq_iff_eq, beq_iff_eq]
  exact hd
theorem order_law {a b d w : Nat} (ha : a < 2) (hb : b < 2) (hd : d < 3) (hw : w < 2) : ∃ bl bc, W_order [itemsV a b d, colsL] = some (.tup [.list (nats bl), .bool true]) ∧ W_order [itemsV a b d, colsC w] = some (.tup [.list (nats bc), .bool true]) ∧ Rows bl bc := by
  have h := order_all ha hb hd
  unfold orderOk at h
  simp only [Bool.and_eq_true] at h
  have h2 := List.all_eq_true.mp h.2 w (List.mem_range.mpr hw)
  simp only [Bool.and_eq_true] at h2
  exact ⟨_, _, gives_eq h.1, gives_eq h2.1, rows_of h2.2⟩
end Mine
end

section
namespace Mine
open PySem PySem.Calls PyProof.Rows
set_option maxRecDepth 100000

/-- data that may be compared -/
noncomputable def Lay (k : Nat) (d : V) : Prop := ∃ p, toPy d = some p ∧ p.canLay0 = true ∧ p.depth ≤ k
theorem Lay.int (k : Nat) (i : Int) : Lay k (.int i) := ⟨.int i, rfl, rfl, Nat.zero_le _⟩
theorem Lay.bool (k : Nat) (b : Bool) : Lay k (.bool b) := ⟨.bool b, rfl, rfl, Nat.zero_le _⟩
theorem Lay.str (k : Nat) {l : List Nat} (h : ∀ c ∈ l, c < 128) : Lay k (.str (mkS l)) := by
  refine ⟨.str (mkS l), rfl, ?_, Nat.zero_le _⟩
  show PyData.strOk (mkS l) = true
  unfold PyData.strOk
  rw [← Array.all_toList]
  exact List.all_eq_true.mpr fun c m => decide_eq_true (by have := h c m; omega)
theorem lay_all (k : Nat) : ∀ {ds : List V}, (∀ d ∈ ds, Lay k d) → ∃ ps, toPys ds = some ps ∧ PyData.canLayAll0 ps = true ∧ PyData.depthAll ps ≤ k
  | [], _ => ⟨[], rfl, rfl, Nat.zero_le _⟩
  | d :: ds, h => by
    obtain ⟨p, h1, h2, h3⟩ := h d (List.mem_cons_self ..)
    obtain ⟨ps, h4, h5, h6⟩ := lay_all k fun e m => h e (List.mem_cons_of_mem _ m)
    refine ⟨p :: ps, ?_, ?_, ?_⟩
    · unfold toPys; rw [h1, h4]; rfl
    · unfold PyData.canLayAll0; rw [h2, h5]; rfl
    · unfold PyData.depthAll; omega
theorem Lay.list {k : Nat} {ds : List V} (h : ∀ d ∈ ds, Lay k d) : Lay (k + 1) (.list ds) := by
  obtain ⟨ps, h1, h2, h3⟩ := lay_all k h
  refine ⟨.list ps, ?_, ?_, ?_⟩
  · unfold toPy; rw [h1]; rfl
  · unfold PyData.canLay0; exact h2
  · unfold PyData.depth; omega
theorem Lay.tup {k : Nat} {ds : List V} (h : ∀ d ∈ ds, Lay k d) : Lay (k + 1) (.tup ds) := by
  obtain ⟨ps, h1, h2, h3⟩ := lay_all k h
  refine ⟨.tuple ps, ?_, ?_, ?_⟩
  · unfold toPy; rw [h1]; rfl
  · unfold PyData.canLay0; exact h2
  · unfold PyData.depth; omega
theorem Lay.eq {k : Nat} {d : V} (h : Lay k d) (hk : k ≤ 64) : deepEq d d = some true := by
  obtain ⟨p, h1, h2, h3⟩ := h
  refine deepEq_self h1 ?_
  unfold SeqAt.shaped
  rw [h2, decide_eq_true (by omega)]; rfl

/-! the ten numbers -/
theorem F_cells_def : F_cells = (andThen (xOwn (aC (fI 34291671) (aC (fI 2916) (aC (fI 18030) (aC (fI 949437) (aC (fI 7558456) (aC (fI 876) (aC (fI 83555322) (aC (fI 32301) (aC (fI 6309279) (aC (fI 637) a0)))))))))) 1)
  (andThen (xEnum (fSl (fV 0) pN (pS (fI 60))) (bT [("place", 2), ("number", 3)]) (andThen (xAug 1 (f2 modV (fV 2) (fI 10)) (f2 modV (fV 3) (f2 powV (fI 10) (fI 12))))
  xNil))
  (xFrz 1 4 (andThen (xRet (fV 4))
  xNil)))) := rfl
noncomputable def CRep (ρ : Rho) : Prop := ∃ cs : List Int, cs.length = 10 ∧ get ρ 1 = some (.list (cs.map .int))
theorem cell_step {ρ : Rho} (h : CRep ρ) (i : Nat) (n : Int) : ∃ ρ1 ρ2, bT [("place", 2), ("number", 3)] ρ (.tup [.int (i : Int), .int n]) = some ρ1 ∧
    (andThen (xAug 1 (f2 modV (fV 2) (fI 10)) (f2 modV (fV 3) (f2 powV (fI 10) (fI 12)))) xNil) ρ1 = some (.next ρ2) ∧ CRep ρ2 := by
  obtain ⟨cs, hl, h1⟩ := h
  let ρ1 : Rho := put (put ρ 2 (.int (i : Int))) 3 (.int n)
  have g1 : get ρ1 1 = some (.list (cs.map .int)) := by simp [ρ1, gp, h1]
  have g2 : get ρ1 2 = some (.int (i : Int)) := by simp [ρ1, gp]
  have g3 : get ρ1 3 = some (.int n) := by simp [ρ1, gp]
  have e2 : f2 modV (fV 2) (fI 10) ρ1 = some (.int ((i % 10 : Nat) : Int)) := by
    unfold f2 fV fI
    rw [g2, ← fmod_natn]; rfl
  obtain ⟨v, e3⟩ : ∃ v : Int, f2 modV (fV 3) (f2 powV (fI 10) (fI 12)) ρ1 = some (.int v) := by
    refine ⟨n.fmod (10 ^ 12), ?_⟩
    have hp : f2 powV (fI 10) (fI 12) ρ1 = some (.int (10 ^ 12)) := rfl
    generalize f2 powV (fI 10) (fI 12) = X at hp ⊢
    unfold f2 fV
    rw [g3, hp]
    have hc : ((10 ^ 12 : Int) != 0) = true := by decide
    show (if ((10 ^ 12 : Int) != 0) = true then some (V.int (n.fmod (10 ^ 12))) else none) = _
    rw [if_pos hc]
  have hi : i % 10 < cs.length := by omega
  have e4 : asInt ((cs.map V.int)[((i % 10 : Nat) : Int).toNat]?) = some cs[i % 10] := by
    rw [Int.toNat_natCast, List.getElem?_map, List.getElem?_eq_getElem hi]; rfl
  refine ⟨ρ1, put ρ1 1 (.list ((cs.map V.int).set ((i % 10 : Nat) : Int).toNat (.int (cs[i % 10] + v)))), rfl, at_next (ρ1 := put ρ1 1 (.list ((cs.map V.int).set ((i % 10 : Nat) : Int).toNat (.int (cs[i % 10] + v))))) ?_ rfl, ?_⟩
  · generalize f2 modV (fV 2) (fI 10) = X at e2 ⊢
    generalize f2 modV (fV 3) (f2 powV (fI 10) (fI 12)) = Y at e3 ⊢
    unfold xAug
    rw [g1, e2, e3]
    show (Option.bind (asInt ((cs.map V.int)[((i % 10 : Nat) : Int).toNat]?)) _) = _
    rw [e4]
    have hc : (decide ((0 : Int) ≤ ((i % 10 : Nat) : Int)) && decide (((i % 10 : Nat) : Int) < ((cs.map V.int).length : Int)) && decide ((cs.map V.int).length < 1000)) = true := by
      rw [List.length_map, Bool.and_eq_true, Bool.and_eq_true]
      exact ⟨⟨decide_eq_true (by omega), decide_eq_true (by omega)⟩, decide_eq_true (by omega)⟩
    show (if (decide ((0 : Int) ≤ ((i % 10 : Nat) : Int)) && decide (((i % 10 : Nat) : Int) < ((cs.map V.int).length : Int)) && decide ((cs.map V.int).length < 1000)) = true then some (Res.next (put ρ1 1 (.list ((cs.map V.int).set ((i % 10 : Nat) : Int).toNat (.int (cs[i % 10] + v)))))) else none) = _
    rw [if_pos hc]
  · exact ⟨cs.set (i % 10) (cs[i % 10] + v), by rw [List.length_set]; exact hl, by rw [get_put_self, Int.toNat_natCast, List.map_set]⟩

theorem cells_law (ns : List Int) (h : ns.length ≤ 63) : ∃ cs : List Int, cs.length = 10 ∧ W_cells [.list (ns.map .int)] = some (.list (cs.map .int)) := by
  let base : List Int := [34291671, 2916, 18030, 949437, 7558456, 876, 83555322, 32301, 6309279, 637]
  let ρ0 : Rho := put [] 0 (.list (ns.map .int))
  let ρ1 : Rho := put ρ0 1 (.list (base.map .int))
  have g0 : get ρ1 0 = some (.list (ns.map .int)) := by simp only [ρ0, ρ1, gp]; rfl
  have hsl : fSl (fV 0) pN (pS (fI 60)) ρ1 = some (.list ((ns.take 60).map .int)) := by
    unfold fSl fV pN pS fI
    rw [g0]
    have hc : (decide ((0 : Int) ≤ 60) && decide ((ns.map V.int).length < roof)) = true := by
      rw [List.length_map, Bool.and_eq_true]; exact ⟨by decide, decide_eq_true (by unfold roof; omega)⟩
    show (if (decide ((0 : Int) ≤ 60) && decide ((ns.map V.int).length < roof)) = true then some (V.list ((ns.map V.int).take (60 : Int).toNat)) else none) = _
    rw [if_pos hc, List.map_take]; rfl
  obtain ⟨ρ2, e2, cs, hl, h2⟩ := for_inv (bnd := bT [("place", 2), ("number", 3)]) (body := (andThen (xAug 1 (f2 modV (fV 2) (fI 10)) (f2 modV (fV 3) (f2 powV (fI 10) (fI 12)))) xNil)) (fun (p : Int × Nat) => V.tup [.int (p.2 : Nat), .int p.1]) (fun _ ρ => CRep ρ) ((ns.take 60).zipIdx 0) [] ρ1 ⟨base, rfl, get_put_self _ _ _⟩
    fun pre a post ρ e hr => cell_step hr a.2 a.1
  refine ⟨cs, hl, ?_⟩
  unfold W_cells runF
  rw [F_cells_def]
  show ((andThen _ _ ρ0).map _) = _
  have henum : xEnum (fSl (fV 0) pN (pS (fI 60))) (bT [("place", 2), ("number", 3)]) (andThen (xAug 1 (f2 modV (fV 2) (fI 10)) (f2 modV (fV 3) (f2 powV (fI 10) (fI 12)))) xNil) ρ1 = some (.next ρ2) := by
    unfold xEnum
    rw [hsl]
    show forGo _ _ ρ1 (enumL 0 ((ns.take 60).map .int)) = _
    rw [enum_map]
    exact e2
  rw [at_next (F := xOwn (aC (fI 34291671) (aC (fI 2916) (aC (fI 18030) (aC (fI 949437) (aC (fI 7558456) (aC (fI 876) (aC (fI 83555322) (aC (fI 32301) (aC (fI 6309279) (aC (fI 637) a0)))))))))) 1) (ρ := ρ0) (ρ1 := ρ1) rfl (at_next henum (frz_eq h2 (at_ret (ret_eq (get_put_self _ _ _)))))]
  rfl

/-! the palette -/
noncomputable def palN (q k : Nat) : List Nat := (List.range k).map fun s => (q + 5 * s) % 12
theorem pal_check : ((List.range 12).all fun q => [3, 4, 5, 6].all fun k => decide ((palN q k).Nodup) && (palN q k).all fun h => decide (h < 12)) = true := by decide +kernel
theorem pal_ok {q k : Nat} (hq : q < 12) (h3 : 3 ≤ k) (h6 : k ≤ 6) : PalOk (palN q k) := by
  have hk : k ∈ [3, 4, 5, 6] := by
    have : k = 3 ∨ k = 4 ∨ k = 5 ∨ k = 6 := by omega
    simpa using this
  have := List.all_eq_true.mp (List.all_eq_true.mp pal_check q (List.mem_range.mpr hq)) k hk
  rw [Bool.and_eq_true, decide_eq_true_eq] at this
  refine ⟨this.1, fun h hm => of_decide_eq_true (List.all_eq_true.mp this.2 h hm), ?_, ?_⟩
  · unfold palN; rw [List.length_map, List.length_range]; exact h3
  · unfold palN; rw [List.length_map, List.length_range]; exact h6
end Mine
end

section
namespace Mine
open PySem PySem.Calls PyProof.Rows
set_option maxRecDepth 100000

/-! sorting -/
theorem sort_all {l : List Nat} (hn : l.Nodup) (hm : ∀ x, x ∈ l ↔ x < 9) : sortI (l.map fun (n : Nat) => (n : Int)) = (List.range 9).map fun (n : Nat) => (n : Int) := by
  have hp : List.Perm l (List.range 9) := (List.perm_ext_iff_of_nodup hn List.nodup_range).mpr fun a => by rw [hm, List.mem_range]
  refine List.Perm.eq_of_pairwise (le := (· ≤ ·)) (fun a b _ _ h1 h2 => Int.le_antisymm h1 h2) (sortI_sorted _) (by decide) ((sortI_perm _).trans (hp.map _))

/-! painting -/
noncomputable def freeN (off : Nat → List Nat) (painted : List (Nat × Nat)) (h : Nat) : List Nat := (List.range 9).filter fun x => decide (h ∈ off x) && !decide (x ∈ painted.map (·.1))
noncomputable def paint (bl bc : List Nat) (off : Nat → List Nat) (painted : List (Nat × Nat)) (h : Nat) : List (Nat × Nat) := painted ++ (chL bl bc 10 (freeN off painted h)).map fun x => (x, h)

structure Painted (bl bc : List Nat) (off : Nat → List Nat) (done : List Nat) (painted : List (Nat × Nat)) : Prop where
  nodup : (painted.map (·.1)).Nodup
  lt : ∀ x ∈ painted.map (·.1), x < 9
  doms : ∀ p, p < 9 → p ∉ painted.map (·.1) → ∃ l : List Nat, l.Nodup ∧ (∀ y ∈ l, y ∈ painted.map (·.1) ∧ Dom bl bc y p) ∧ (done.filter fun h => decide (h ∈ off p)).length ≤ l.length

theorem paint_fst (bl bc : List Nat) (off : Nat → List Nat) (painted : List (Nat × Nat)) (h : Nat) : (paint bl bc off painted h).map (·.1) = painted.map (·.1) ++ chL bl bc 10 (freeN off painted h) := by
  unfold paint
  rw [List.map_append, List.map_map]
  congr 1
  exact List.map_id _
theorem free_len (off : Nat → List Nat) (painted : List (Nat × Nat)) (h : Nat) : (freeN off painted h).length < 10 := by
  have := List.length_filter_le (fun x => decide (h ∈ off x) && !decide (x ∈ painted.map (·.1))) (List.range 9)
  rw [List.length_range] at this
  unfold freeN
  omega
theorem free_mem (off : Nat → List Nat) (painted : List (Nat × Nat)) (h x : Nat) : x ∈ freeN off painted h ↔ x < 9 ∧ h ∈ off x ∧ x ∉ painted.map (·.1) := by
  unfold freeN
  rw [List.mem_filter, List.mem_range, Bool.and_eq_true, decide_eq_true_eq, Bool.not_eq_true', decide_eq_false_iff_not]

theorem paint_step {bl bc : List Nat} {off : Nat → List Nat} (hr : Rows bl bc) {done : List Nat} {painted : List (Nat × Nat)} (I : Painted bl bc off done painted) (h : Nat) : Painted bl bc off (done ++ [h]) (paint bl bc off painted h) := by
  have hb : ∀ x ∈ freeN off painted h, x ∈ bl ∧ x ∈ bc := fun x hx => hr.mem x ((free_mem _ _ _ _).mp hx).1
  obtain ⟨c1, c2, c3⟩ := chosen_spec hb (free_len off painted h)
  have cf : ∀ x ∈ chL bl bc 10 (freeN off painted h), x < 9 ∧ h ∈ off x ∧ x ∉ painted.map (·.1) := fun x hx => (free_mem _ _ _ _).mp (c2 hx)
  refine ⟨?_, ?_, fun p hp hn => ?_⟩
  · rw [paint_fst, List.nodup_append]
    refine ⟨I.nodup, c1, fun a ha b hb e => ?_⟩
    subst e
    exact (cf a hb).2.2 ha
  · intro x hx
    rw [paint_fst, List.mem_append] at hx
    rcases hx with hx | hx
    · exact I.lt x hx
    · exact (cf x hx).1
  · rw [paint_fst, List.mem_append] at hn
    have hn1 : p ∉ painted.map (·.1) := fun m => hn (.inl m)
    have hn2 : p ∉ chL bl bc 10 (freeN off painted h) := fun m => hn (.inr m)
    obtain ⟨l, l1, l2, l3⟩ := I.doms p hp hn1
    rw [List.filter_append]
    by_cases ho : h ∈ off p
    · obtain ⟨y, hy, hd⟩ := c3 p ((free_mem _ _ _ _).mpr ⟨hp, ho, hn1⟩) hn2
      refine ⟨l ++ [y], ?_, ?_, ?_⟩
      · rw [List.nodup_append]
        refine ⟨l1, by simp, fun a ha b hb e => ?_⟩
        rw [List.mem_singleton.mp hb] at e
        subst e
        exact (cf a hy).2.2 (l2 a ha).1
      · intro z hz
        rw [paint_fst, List.mem_append]
        rcases List.mem_append.mp hz with hz | hz
        · exact ⟨.inl (l2 z hz).1, (l2 z hz).2⟩
        · rw [List.mem_singleton.mp hz]; exact ⟨.inr hy, hd⟩
      · rw [List.filter_cons_of_pos (by simpa using ho)]
        simp only [List.length_append, List.length_cons, List.filter_nil, List.length_nil]
        omega
    · refine ⟨l, l1, fun z hz => ?_, ?_⟩
      · rw [paint_fst, List.mem_append]
        exact ⟨.inl (l2 z hz).1, (l2 z hz).2⟩
      · rw [List.filter_cons_of_neg (by simpa using ho), List.filter_nil, List.append_nil]
        exact l3

theorem paint_nil (bl bc : List Nat) (off : Nat → List Nat) : Painted bl bc off [] [] :=
  ⟨List.nodup_nil, fun x hx => (List.not_mem_nil hx).elim, fun p _ _ => ⟨[], List.nodup_nil, fun y hy => (List.not_mem_nil hy).elim, Nat.le_refl _⟩⟩

theorem paint_all {bl bc : List Nat} {off : Nat → List Nat} (hr : Rows bl bc) {pal : List Nat} {painted : List (Nat × Nat)} (I : Painted bl bc off pal painted)
    (ho : ∀ p, p < 9 → (off p).Nodup ∧ (∀ h ∈ off p, h ∈ pal) ∧ 3 ≤ (off p).length) : sortI ((painted.map (·.1)).map fun (n : Nat) => (n : Int)) = (List.range 9).map fun (n : Nat) => (n : Int) := by
  refine sort_all I.nodup fun x => ⟨I.lt x, fun hx => Classical.byContradiction fun hn => ?_⟩
  obtain ⟨l, l1, l2, l3⟩ := I.doms x hx hn
  obtain ⟨o1, o2, o3⟩ := ho x hx
  have h1 : (off x).length ≤ (pal.filter fun h => decide (h ∈ off x)).length := List.Nodup.length_le_of_subset o1 fun h hh => List.mem_filter.mpr ⟨o2 h hh, decide_eq_true hh⟩
  have h2 := hr.dom x hx l l1 fun y hy => ⟨I.lt y (l2 y hy).1, (l2 y hy).2⟩
  omega
end Mine
end

section
namespace Mine
open PySem PySem.Calls PyProof.Rows
set_option maxRecDepth 100000

noncomputable def freeE : RV := (fComp (lRange (fI 9)) (b1 32) (bAnd (bIn inI (f2 mulV (fI 1000) (fV 15)) (lOf (f2 itemV (fV 8) (fV 32)))) (bIn notIn (fV 32) (lOf (fComp (lOf (fV 14)) (bT [("other", 33), ("paint", 34)]) tT (fV 33))))) (fV 32))
noncomputable def paintE : RV := (f2 addV (fV 14) (fComp (lOf (fC W_chosen (aC (fV 16) (aC (fV 10) (aC (fV 12) a0))))) (b1 35) tT (fTup (aC (fV 35) (aC (fV 15) a0)))))
noncomputable def paintB : RX := (andThen (xAsc freeE 16)
  (andThen (xAsg paintE (b1 14))
  xNil))
noncomputable def pairs (l : List (Nat × Nat)) : List V := l.map fun p => .tup [.int (p.1 : Int), .int (p.2 : Int)]
noncomputable def thou (l : List Nat) : List V := nats (l.map (1000 * ·))
theorem thou_in (h : Nat) (l : List Nat) : inI (.int (1000 * (h : Int))) (thou l) = some (decide (h ∈ l)) := by
  have : (1000 * (h : Int)) = ((1000 * h : Nat) : Int) := by simp
  rw [this]
  unfold thou
  rw [in_nats]
  congr 1
  refine decide_eq_decide.mpr ⟨fun hm => ?_, fun hm => List.mem_map_of_mem hm⟩
  obtain ⟨a, ha, e⟩ := List.mem_map.mp hm
  have : a = h := by omega
  rw [← this]; exact ha

theorem paint_le {bl bc : List Nat} {off : Nat → List Nat} {done : List Nat} {painted : List (Nat × Nat)} (I : Painted bl bc off done painted) : painted.length ≤ 9 := by
  have := List.Nodup.length_le_of_subset I.nodup (l₂ := List.range 9) fun x hx => List.mem_range.mpr (I.lt x hx)
  rw [List.length_map, List.length_range] at this
  exact this

theorem paint_lap {bl bc : List Nat} (hr : Rows bl bc) {HL : List (List Nat)} (h9 : HL.length = 9) {ρ0 : Rho} (g8 : get ρ0 8 = some (.list (HL.map fun hs => .list (thou hs)))) (g10 : get ρ0 10 = some (.list (nats bl))) (g12 : get ρ0 12 = some (.list (nats bc)))
    {done : List Nat} {painted : List (Nat × Nat)} (I : Painted bl bc (fun p => HL.getD p []) done painted) {ρ : Rho} (hk : ∀ j, j < 14 → get ρ j = get ρ0 j) (h14 : get ρ 14 = some (.list (pairs painted))) (h : Nat) :
    ∃ ρ1 ρ2, b1 15 ρ (.int (h : Int)) = some ρ1 ∧ paintB ρ1 = some (.next ρ2) ∧ ∃ painted', Painted bl bc (fun p => HL.getD p []) (done ++ [h]) painted' ∧ (∀ j, j < 14 → get ρ2 j = get ρ0 j) ∧ get ρ2 14 = some (.list (pairs painted')) := by
  have hpl := paint_le I
  let ρ1 : Rho := put ρ 15 (.int (h : Int))
  have k8 : get ρ1 8 = some (.list (HL.map fun hs => .list (thou hs))) := by
    show get (put ρ 15 _) 8 = _
    rw [get_put_ne _ _ (by decide), hk 8 (by decide), g8]
  have k14 : get ρ1 14 = some (.list (pairs painted)) := by
    show get (put ρ 15 _) 14 = _
    rw [get_put_ne _ _ (by decide), h14]
  have k15 : get ρ1 15 = some (.int (h : Int)) := get_put_self _ _ _
  have hfree : freeE ρ1 = some (.list (nats (freeN (fun p => HL.getD p []) painted h))) := by
    refine comp_eq (Fi := lRange (fI 9)) (bnd := b1 32) (Fe := fV 32) (ρ := ρ1) (f := fun (n : Nat) => V.int (n : Int)) (l := List.range 9) (fun x => decide (h ∈ HL.getD x []) && !decide (x ∈ painted.map (·.1))) (fun (n : Nat) => V.int (n : Int)) rfl (by decide) fun x hx => ?_
    have hx9 : x < 9 := List.mem_range.mp hx
    let ρ2 : Rho := put ρ1 32 (.int (x : Int))
    have q8 : get ρ2 8 = some (.list (HL.map fun hs => .list (thou hs))) := by
      show get (put ρ1 32 _) 8 = _
      rw [get_put_ne _ _ (by decide), k8]
    have q14 : get ρ2 14 = some (.list (pairs painted)) := by
      show get (put ρ1 32 _) 14 = _
      rw [get_put_ne _ _ (by decide), k14]
    have q15 : get ρ2 15 = some (.int (h : Int)) := by
      show get (put ρ1 32 _) 15 = _
      rw [get_put_ne _ _ (by decide), k15]
    have q32 : get ρ2 32 = some (.int (x : Int)) := get_put_self _ _ _
    have e1 : f2 mulV (fI 1000) (fV 15) ρ2 = some (.int (1000 * (h : Int))) := by
      unfold f2 fI fV
      rw [q15]
      have hc : (decide ((1000 : Int).natAbs < roof) || decide ((h : Int).natAbs < roof)) = true := by
        rw [decide_eq_true (show (1000 : Int).natAbs < roof by decide)]; rfl
      show (if (decide ((1000 : Int).natAbs < roof) || decide ((h : Int).natAbs < roof)) = true then some (V.int (1000 * (h : Int))) else none) = _
      rw [if_pos hc]
    have e2 : f2 itemV (fV 8) (fV 32) ρ2 = some (.list (thou (HL.getD x []))) := by
      unfold f2 fV
      rw [q8, q32]
      refine item_list ?_ (by rw [List.length_map]; omega)
      rw [List.getElem?_map, List.getElem?_eq_getElem (by omega), List.getD_eq_getElem?_getD, List.getElem?_eq_getElem (by omega)]
      rfl
    have e3 : fComp (lOf (fV 14)) (bT [("other", 33), ("paint", 34)]) tT (fV 33) ρ2 = some (.list (nats (painted.map (·.1)))) := by
      have : nats (painted.map (·.1)) = painted.map fun p => V.int ((p.1 : Nat) : Int) := by unfold nats; rw [List.map_map]; rfl
      rw [this]
      refine compT_eq (f := fun (p : Nat × Nat) => V.tup [.int (p.1 : Int), .int (p.2 : Int)]) (l := painted) (fun p => V.int ((p.1 : Nat) : Int)) (by unfold lOf fV; rw [q14]; rfl) (by omega) fun p _ => ⟨put (put ρ2 33 (.int (p.1 : Int))) 34 (.int (p.2 : Int)), rfl, ?_⟩
      simp only [fV, gp]
      rfl
    refine ⟨ρ2, rfl, ?_, fun _ => q32⟩
    generalize f2 mulV (fI 1000) (fV 15) = X1 at e1 ⊢
    generalize f2 itemV (fV 8) (fV 32) = X2 at e2 ⊢
    generalize fComp (lOf (fV 14)) (bT [("other", 33), ("paint", 34)]) tT (fV 33) = X3 at e3 ⊢
    simp only [bAnd, bIn, lOf, fV, e1, e2, e3, q32, asList, Option.bind_some, thou_in, notIn_nats]
    by_cases hm : h ∈ HL.getD x [] <;> simp only [hm, decide_true, decide_false, if_true, if_false, Bool.true_and, Bool.false_and, reduceCtorEq, Bool.false_eq_true]
  let ρ2 : Rho := put ρ1 16 (.list (nats (freeN (fun p => HL.getD p []) painted h)))
  have s1 : xAsc freeE 16 ρ1 = some (.next ρ2) := asc_eq hfree
  have I' := paint_step hr I h
  have m10 : get ρ2 10 = some (.list (nats bl)) := by
    show get (put (put ρ 15 _) 16 _) 10 = _
    rw [get_put_ne _ _ (by decide), get_put_ne _ _ (by decide), hk 10 (by decide), g10]
  have m12 : get ρ2 12 = some (.list (nats bc)) := by
    show get (put (put ρ 15 _) 16 _) 12 = _
    rw [get_put_ne _ _ (by decide), get_put_ne _ _ (by decide), hk 12 (by decide), g12]
  have m14 : get ρ2 14 = some (.list (pairs painted)) := by
    show get (put ρ1 16 _) 14 = _
    rw [get_put_ne _ _ (by decide), k14]
  have m15 : get ρ2 15 = some (.int (h : Int)) := by
    show get (put ρ1 16 _) 15 = _
    rw [get_put_ne _ _ (by decide), k15]
  have m16 : get ρ2 16 = some (.list (nats (freeN (fun p => HL.getD p []) painted h))) := get_put_self _ _ _
  have hch := chosen_eq (free := freeN (fun p => HL.getD p []) painted h) (bl := bl) (bc := bc) (by rw [hr.bl9]; decide) (by rw [hr.bc9]; decide) (free_len _ _ _)
  have hpl' := paint_le I'
  have hcl : (chL bl bc 10 (freeN (fun p => HL.getD p []) painted h)).length ≤ 9 := by
    unfold paint at hpl'
    rw [List.length_append, List.length_map] at hpl'
    omega
  have hpaint : paintE ρ2 = some (.list (pairs (paint bl bc (fun p => HL.getD p []) painted h))) := by
    have e1 : lOf (fC W_chosen (aC (fV 16) (aC (fV 10) (aC (fV 12) a0)))) ρ2 = some (nats (chL bl bc 10 (freeN (fun p => HL.getD p []) painted h))) := by
      simp only [lOf, fC, aC, a0, fV, m16, m10, m12, Option.bind_some, hch, asList]
    have e2 : fComp (lOf (fC W_chosen (aC (fV 16) (aC (fV 10) (aC (fV 12) a0))))) (b1 35) tT (fTup (aC (fV 35) (aC (fV 15) a0))) ρ2 = some (.list (pairs ((chL bl bc 10 (freeN (fun p => HL.getD p []) painted h)).map fun x => (x, h)))) := by
      have : pairs ((chL bl bc 10 (freeN (fun p => HL.getD p []) painted h)).map fun x => (x, h)) = (chL bl bc 10 (freeN (fun p => HL.getD p []) painted h)).map fun (x : Nat) => V.tup [.int (x : Int), .int (h : Int)] := by
        unfold pairs; rw [List.map_map]; rfl
      rw [this]
      refine compT_eq (f := fun (n : Nat) => V.int (n : Int)) (fun (x : Nat) => V.tup [.int (x : Int), .int (h : Int)]) e1 (by omega) fun a _ => ⟨put ρ2 35 (.int (a : Int)), rfl, ?_⟩
      have q15 : get (put ρ2 35 (.int (a : Int))) 15 = some (.int (h : Int)) := by rw [get_put_ne _ _ (by decide), m15]
      have q35 : get (put ρ2 35 (.int (a : Int))) 35 = some (.int (a : Int)) := get_put_self _ _ _
      simp only [fTup, aC, a0, fV, q15, q35, Option.bind_some, Option.map_some]
    unfold paintE
    generalize fComp (lOf (fC W_chosen (aC (fV 16) (aC (fV 10) (aC (fV 12) a0))))) (b1 35) tT (fTup (aC (fV 35) (aC (fV 15) a0))) = X at e2 ⊢
    unfold f2 fV
    rw [m14, e2]
    have hc : (pairs painted).length + (pairs ((chL bl bc 10 (freeN (fun p => HL.getD p []) painted h)).map fun x => (x, h))).length < roof := by
      unfold pairs roof
      rw [List.length_map, List.length_map, List.length_map]; omega
    show (if (pairs painted).length + (pairs ((chL bl bc 10 (freeN (fun p => HL.getD p []) painted h)).map fun x => (x, h))).length < roof then some (V.list (pairs painted ++ (pairs ((chL bl bc 10 (freeN (fun p => HL.getD p []) painted h)).map fun x => (x, h))))) else none) = _
    rw [if_pos hc]
    unfold pairs paint
    rw [List.map_append]
  refine ⟨ρ1, put ρ2 14 (.list (pairs (paint bl bc (fun p => HL.getD p []) painted h))), rfl, at_next s1 (at_next (asg_eq hpaint rfl) rfl), _, I', fun j hj => ?_, get_put_self _ _ _⟩
  show get (put (put (put ρ 15 _) 16 _) 14 _) j = _
  rw [get_put_ne _ _ (by omega), get_put_ne _ _ (by omega), get_put_ne _ _ (by omega), hk j hj]

theorem paint_loop {bl bc : List Nat} (hr : Rows bl bc) {HL : List (List Nat)} (h9 : HL.length = 9) {ρ0 : Rho} (g8 : get ρ0 8 = some (.list (HL.map fun hs => .list (thou hs)))) (g10 : get ρ0 10 = some (.list (nats bl))) (g12 : get ρ0 12 = some (.list (nats bc)))
    (g14 : get ρ0 14 = some (.list [])) (pal : List Nat) : ∃ ρ' painted, forGo (b1 15) paintB ρ0 (nats pal) = some (.next ρ') ∧ Painted bl bc (fun p => HL.getD p []) pal painted ∧ (∀ j, j < 14 → get ρ' j = get ρ0 j) ∧ get ρ' 14 = some (.list (pairs painted)) := by
  obtain ⟨ρ', e, painted, h1, h2, h3⟩ := for_inv (bnd := b1 15) (body := paintB) (fun (n : Nat) => V.int (n : Int)) (fun done ρ => ∃ painted, Painted bl bc (fun p => HL.getD p []) done painted ∧ (∀ j, j < 14 → get ρ j = get ρ0 j) ∧ get ρ 14 = some (.list (pairs painted))) pal [] ρ0
    ⟨[], paint_nil _ _ _, fun _ _ => rfl, g14⟩ fun pre a post ρ _ ⟨painted, h1, h2, h3⟩ => paint_lap hr h9 g8 g10 g12 h1 h2 h3 a
  exact ⟨ρ', painted, e, h1, h2, h3⟩
end Mine
end

section
namespace Mine
open PySem PySem.Calls PyProof.Rows
set_option maxRecDepth 100000

section
variable {F G : RV} {ρ : Rho} {x y : Int}
theorem l_add (h : F ρ = some (.int x)) (k : G ρ = some (.int y)) : f2 addV F G ρ = some (.int (x + y)) := by unfold f2; rw [h, k]; rfl
theorem l_sub (h : F ρ = some (.int x)) (k : G ρ = some (.int y)) : f2 subV F G ρ = some (.int (x - y)) := by unfold f2; rw [h, k]; rfl
theorem l_mul (h : F ρ = some (.int x)) (k : G ρ = some (.int y)) (hb : x.natAbs < 10000 ∨ y.natAbs < 10000) : f2 mulV F G ρ = some (.int (x * y)) := by
  unfold f2; rw [h, k]
  have hc : (decide (x.natAbs < roof) || decide (y.natAbs < roof)) = true := by
    rw [Bool.or_eq_true, decide_eq_true_eq, decide_eq_true_eq]; unfold roof; omega
  show (if (decide (x.natAbs < roof) || decide (y.natAbs < roof)) = true then some (V.int (x * y)) else none) = _
  rw [if_pos hc]
theorem l_mod {m : Int} (h : F ρ = some (.int x)) (hm : 0 < m) : f2 modV F (fI m) ρ = some (.int (x.fmod m)) := by
  unfold f2; rw [h]
  have hc : (m != 0) = true := bne_iff_ne.mpr (by omega)
  show (if (m != 0) = true then some (V.int (x.fmod m)) else none) = _
  rw [if_pos hc]
theorem l_div {m : Int} (h : F ρ = some (.int x)) (hm : 0 < m) (hb : m < 1000) : f2 fdivV F (fI m) ρ = some (.int (x.fdiv m)) := by
  unfold f2; rw [h]
  have hc : (m != 0 && decide (m.natAbs < roof)) = true := by
    rw [Bool.and_eq_true]; exact ⟨bne_iff_ne.mpr (by omega), decide_eq_true (by unfold roof; omega)⟩
  show (if (m != 0 && decide (m.natAbs < roof)) = true then some (V.int (x.fdiv m)) else none) = _
  rw [if_pos hc]
end

noncomputable def palE : RV := fComp (lRange (f2 addV (fI 3) (f2 modV (fV 2) (fI 4)))) (b1 17) tT (f2 modV (f2 addV (f2 fdivV (fV 2) (fI 4)) (f2 mulV (fI 5) (fV 17))) (fI 12))
theorem pal_law {ρ : Rho} {D : Int} (h2 : get ρ 2 = some (.int D)) : ∃ pal, PalOk pal ∧ palE ρ = some (.list (nats pal)) := by
  obtain ⟨k, ek, hk⟩ := fmod_nat D (k := 4) (by decide)
  obtain ⟨q, eq, hq⟩ := fmod_nat (D.fdiv 4) (k := 12) (by decide)
  have ek' : D.fmod 4 = (k : Int) := ek
  have eq' : (D.fdiv 4).fmod 12 = (q : Int) := eq
  refine ⟨palN q (3 + k), pal_ok hq (by omega) (by omega), ?_⟩
  have hr := range_eq (F := f2 addV (fI 3) (f2 modV (fV 2) (fI 4))) (ρ := ρ) (k := 3 + k) (by
    have h := l_add (F := fI 3) (x := 3) rfl (l_mod (F := fV 2) (m := 4) h2 (by decide))
    rw [ek'] at h
    rw [h]; simp) (by omega)
  have hn : nats (palN q (3 + k)) = (List.range (3 + k)).map fun (s : Nat) => V.int (((q + 5 * s) % 12 : Nat) : Int) := by
    unfold nats palN; rw [List.map_map]; rfl
  rw [hn]
  refine compT_eq (f := fun (n : Nat) => V.int (n : Int)) (l := List.range (3 + k)) (fun (s : Nat) => V.int (((q + 5 * s) % 12 : Nat) : Int)) hr (by rw [List.length_range]; omega) fun s hs => ⟨put ρ 17 (.int (s : Int)), rfl, ?_⟩
  have hs' := List.mem_range.mp hs
  have g2 : fV 2 (put ρ 17 (.int (s : Int))) = some (.int D) := by unfold fV; rw [get_put_ne _ _ (by decide), h2]
  have g17 : fV 17 (put ρ 17 (.int (s : Int))) = some (.int (s : Int)) := get_put_self _ _ _
  have h := l_mod (m := 12) (l_add (l_div (m := 4) g2 (by decide) (by decide)) (l_mul (F := fI 5) (x := 5) rfl g17 (.inl (by decide)))) (by decide)
  rw [h]
  congr 2
  rw [Int.fmod_eq_emod_of_nonneg _ (by decide)] at eq' ⊢
  omega

noncomputable def itemE : RV := (fTup (aC (fV 18) (aC (fV 19) (aC (f2 modV (f2 addV (f2 addV (f2 mulV (f2 addV (fI 1) (f2 modV (f2 fdivV (fV 2) (fI 48)) (fI 2))) (fV 18)) (f2 mulV (f2 addV (fI 1) (f2 modV (f2 fdivV (fV 2) (fI 96)) (fI 2))) (fV 19))) (f2 fdivV (fV 2) (fI 192))) (fI 3)) (aC (f2 fdivV (fV 19) (fI 2)) a0)))))
noncomputable def itemsE : RV := fComp2 (lRange (fI 3)) (b1 18) (lRange (fI 3)) (b1 19) itemE

theorem item_law {ρ : Rho} {D : Int} {a b d l c : Nat} (h2 : get ρ 2 = some (.int D)) (h18 : get ρ 18 = some (.int (l : Int))) (h19 : get ρ 19 = some (.int (c : Int))) (hl : l < 3) (hc : c < 3)
    (ea : (D.fdiv 48).fmod 2 = (a : Int)) (eb : (D.fdiv 96).fmod 2 = (b : Int)) (ed : (D.fdiv 192).fmod 3 = (d : Int)) : itemE ρ = some (itemOf a b d l c) := by
  have t1 := l_mul (l_add (F := fI 1) (x := 1) rfl (l_mod (m := 2) (l_div (F := fV 2) (m := 48) h2 (by decide) (by decide)) (by decide))) (G := fV 18) h18 (.inr (by omega))
  have t2 := l_mul (l_add (F := fI 1) (x := 1) rfl (l_mod (m := 2) (l_div (F := fV 2) (m := 96) h2 (by decide) (by decide)) (by decide))) (G := fV 19) h19 (.inr (by omega))
  have t3 := l_mod (m := 3) (l_add (l_add t1 t2) (l_div (F := fV 2) (m := 192) h2 (by decide) (by decide))) (by decide)
  have t4 := l_div (F := fV 19) (m := 2) h19 (by decide) (by decide)
  have r1 : ((1 + (D.fdiv 48).fmod 2) * (l : Int) + (1 + (D.fdiv 96).fmod 2) * (c : Int) + D.fdiv 192).fmod 3 = (rankOf a b d l c : Int) := by
    rw [ea, eb]
    have e1 : (1 + (a : Int)) * (l : Int) = (((1 + a) * l : Nat) : Int) := by simp
    have e2 : (1 + (b : Int)) * (c : Int) = (((1 + b) * c : Nat) : Int) := by simp
    rw [e1, e2]
    unfold rankOf
    generalize (1 + a) * l = X
    generalize (1 + b) * c = Y
    rw [Int.fmod_eq_emod_of_nonneg _ (by decide)] at ed ⊢
    omega
  have r2 : (c : Int).fdiv 2 = ((c / 2 : Nat) : Int) := fdiv_nat c 2
  rw [r1] at t3
  rw [r2] at t4
  unfold itemE
  generalize (f2 modV (f2 addV (f2 addV (f2 mulV (f2 addV (fI 1) (f2 modV (f2 fdivV (fV 2) (fI 48)) (fI 2))) (fV 18)) (f2 mulV (f2 addV (fI 1) (f2 modV (f2 fdivV (fV 2) (fI 96)) (fI 2))) (fV 19))) (f2 fdivV (fV 2) (fI 192))) (fI 3)) = X at t3 ⊢
  generalize f2 fdivV (fV 19) (fI 2) = Y at t4 ⊢
  simp only [fTup, aC, a0, t3, t4, Option.bind_some]
  simp only [fV, h18, h19, Option.bind_some, Option.map_some]
  rfl

theorem items_law {ρ : Rho} {D : Int} {a b d : Nat} (h2 : get ρ 2 = some (.int D)) (ea : (D.fdiv 48).fmod 2 = (a : Int)) (eb : (D.fdiv 96).fmod 2 = (b : Int)) (ed : (D.fdiv 192).fmod 3 = (d : Int)) : itemsE ρ = some (itemsV a b d) := by
  unfold itemsE fComp2 compF
  have hr : lRange (fI 3) ρ = some ((List.range 3).map fun (i : Nat) => V.int (i : Int)) := range_eq (k := 3) rfl (by decide)
  rw [hr]
  have hgo := compGo_eq (bnd := b1 18) (tst := tT) (body := fun ρ => (lRange (fI 3) ρ).bind (compGo (b1 19) tT (one itemE) ρ)) (ρ := ρ) (f := fun (i : Nat) => V.int (i : Int)) (fun _ => true) (fun l => (List.range 3).map fun c => itemOf a b d l c) (List.range 3) fun l hl => by
    have hl3 := List.mem_range.mp hl
    refine ⟨put ρ 18 (.int (l : Int)), rfl, rfl, fun _ => ?_⟩
    have hin := compGo_eq (bnd := b1 19) (tst := tT) (body := one itemE) (ρ := put ρ 18 (.int (l : Int))) (f := fun (i : Nat) => V.int (i : Int)) (fun _ => true) (fun c => [itemOf a b d l c]) (List.range 3) fun c hc => by
      have hc3 := List.mem_range.mp hc
      refine ⟨put (put ρ 18 (.int (l : Int))) 19 (.int (c : Int)), rfl, rfl, fun _ => ?_⟩
      unfold one
      rw [item_law (D := D) (a := a) (b := b) (d := d) (l := l) (c := c) (by rw [get_put_ne _ _ (by decide), get_put_ne _ _ (by decide), h2]) (by rw [get_put_ne _ _ (by decide), get_put_self]) (get_put_self _ _ _) hl3 hc3 ea eb ed]
      rfl
    rw [filter_all, flat_one] at hin
    have hr' : lRange (fI 3) (put ρ 18 (.int (l : Int))) = some ((List.range 3).map fun (i : Nat) => V.int (i : Int)) := range_eq (k := 3) rfl (by decide)
    rw [hr']
    exact hin
  rw [filter_all] at hgo
  show (Option.bind (compGo (b1 18) tT (fun ρ => (lRange (fI 3) ρ).bind (compGo (b1 19) tT (one itemE) ρ)) ρ ((List.range 3).map fun (i : Nat) => V.int (i : Int))) _) = _
  rw [hgo]
  rfl
end Mine
end

section
namespace Mine
open PySem PySem.Calls PyProof.Rows
open PySem.Builtin PySem.Builtin.Str
set_option maxRecDepth 100000

/-- what the law tells of a place's colours -/
noncomputable def toldOf (P : List (Nat × Nat)) : List V := P.map fun p => .tup [.int (1000 * (p.1 : Int)), .bool true]
noncomputable def nameE : RV := fComp (lOf (fV 27)) (b1 28) (bC neV (fV 28) (fS "")) (fC W_hue (aC (fV 28) a0))
theorem name_law {pal : List Nat} (hp : PalOk pal) {n : Int} {P : List (Nat × Nat)} {N : List (List Nat)} {x : Str} (h : PlaceIs pal n P N x) {ρ : Rho} (g : get ρ 27 = some (.list (txts N))) : nameE ρ = some (.list (toldOf P)) := by
  have hall : ∀ m ∈ N, m ≠ [] → ∃ p ∈ P, m = figs p.1 p.2 := by
    intro m hm h0
    have : m ∈ N.filter (fun m => !decide (m = [])) := List.mem_filter.mpr ⟨hm, by simpa using h0⟩
    rw [h.names] at this
    obtain ⟨p, h1, h2⟩ := List.mem_map.mp this
    exact ⟨p, h1, h2.symm⟩
  have hue : ∀ p ∈ P, W_hue [.str (mkS (figs p.1 p.2))] = some (.tup [.int (1000 * (p.1 : Int)), .bool true]) := fun p hm =>
    hue_all (hp.lt _ (h.ok.mem p hm)) (h.ok.shade p hm)
  have e : toldOf P = (N.filter (fun m => !decide (m = []))).map fun m => (W_hue [.str (mkS m)]).getD .none := by
    rw [h.names, List.map_map]
    refine List.map_congr_left fun p hm => ?_
    show _ = (W_hue [.str (mkS (figs p.1 p.2))]).getD .none
    rw [hue p hm]; rfl
  rw [e]
  refine comp_eq (Fi := lOf (fV 27)) (bnd := b1 28) (Ft := bC neV (fV 28) (fS "")) (Fe := fC W_hue (aC (fV 28) a0)) (f := fun m => V.str (mkS m)) (l := N) (fun m => !decide (m = [])) (fun m => (W_hue [.str (mkS m)]).getD .none) (by unfold lOf fV; rw [g]; rfl) (by have := h.short; omega) fun m hm => ?_
  have g28 : get (put ρ 28 (.str (mkS m))) 28 = some (.str (mkS m)) := get_put_self _ _ _
  refine ⟨put ρ 28 (.str (mkS m)), rfl, ?_, fun ht => ?_⟩
  · unfold bC fV fS
    rw [g28, e_mk]
    show some (!(mkS m == mkS [])) = _
    congr 2
    by_cases h0 : m = []
    · subst h0; rfl
    · rw [decide_eq_false h0, beq_eq_false_iff_ne]
      exact fun e => h0 (mkS_inj e)
  · have h0 : m ≠ [] := by simpa using ht
    obtain ⟨p, hpm, rfl⟩ := hall m hm h0
    simp only [fC, aC, a0, fV, g28, Option.bind_some]
    rw [hue p hpm]; rfl

noncomputable def toldE : RV := fComp (lOf (fV 6)) (b1 27) tT nameE
noncomputable def offerE : RV := fComp (lOf (fV 7)) (b1 29) tT (fComp (lOf (fV 29)) (bT [("code", 30), ("sure", 31)]) tT (fV 30))
theorem offer_one {P : List (Nat × Nat)} {ρ : Rho} (hl : P.length ≤ 10) (g : get ρ 29 = some (.list (toldOf P))) : fComp (lOf (fV 29)) (bT [("code", 30), ("sure", 31)]) tT (fV 30) ρ = some (.list (thou (P.map (·.1)))) := by
  have e : thou (P.map (·.1)) = P.map fun p => V.int (1000 * (p.1 : Int)) := by
    unfold thou nats
    rw [List.map_map, List.map_map]
    refine List.map_congr_left fun p _ => ?_
    show V.int ((1000 * p.1 : Nat) : Int) = _
    congr 1
  rw [e]
  refine compT_eq (f := fun (p : Nat × Nat) => V.tup [.int (1000 * (p.1 : Int)), .bool true]) (l := P) (fun p => V.int (1000 * (p.1 : Int))) (by unfold lOf fV; rw [g]; rfl) (by omega) fun p _ => ⟨put (put ρ 30 (.int (1000 * (p.1 : Int)))) 31 (.bool true), rfl, ?_⟩
  unfold fV
  rw [get_put_ne _ _ (by decide), get_put_self]

noncomputable def dueE : RV := fComp (lOf (fV 5)) (bT [("hues", 38), ("names", 39), ("text", 40)]) tT (fComp (lOf (fV 38)) (b1 41) tT (fTup (aC (f2 mulV (fI 1000) (fV 41)) (aC (fT true) a0))))
theorem due_one {P : List (Nat × Nat)} {ρ : Rho} (hl : P.length ≤ 10) (g : get ρ 38 = some (.list (nats (P.map (·.1))))) : fComp (lOf (fV 38)) (b1 41) tT (fTup (aC (f2 mulV (fI 1000) (fV 41)) (aC (fT true) a0))) ρ = some (.list (toldOf P)) := by
  refine compT_eq (f := fun (p : Nat × Nat) => V.int (p.1 : Int)) (l := P) (fun p => V.tup [.int (1000 * (p.1 : Int)), .bool true]) (by unfold lOf fV; rw [g]; unfold nats; rw [List.map_map]; rfl) (by omega) fun p _ => ⟨put ρ 41 (.int (p.1 : Int)), rfl, ?_⟩
  have h := l_mul (F := fI 1000) (x := 1000) (G := fV 41) rfl (get_put_self ρ 41 (.int (p.1 : Int))) (.inl (by decide))
  generalize f2 mulV (fI 1000) (fV 41) = X at h ⊢
  simp only [fTup, aC, a0, fT, h, Option.bind_some, Option.map_some]

noncomputable def F_law2 : RX := (andThen (xAsc (fComp (lOf (fSl (fV 1) pN (pS (fI 9)))) (b1 20) tT (fC W_place (aC (fV 20) (aC (fV 3) a0)))) 5)
  (andThen (xAsc (fComp (lOf (fV 5)) (bT [("hues", 21), ("names", 22), ("text", 23)]) tT (fC W_read (aC (fV 23) a0))) 6)
  (andThen (xIte (bC neV (fV 6) (fComp (lOf (fV 5)) (bT [("hues", 24), ("names", 25), ("text", 26)]) tT (fV 25))) (andThen (xRet (fT false))
  xNil) xNil)
  (andThen (xAsc toldE 7)
  (andThen (xAsg offerE (b1 8))
  (andThen (xAsg (f2 subV (fI 1) (f2 mulV (fI 2) (f2 modV (f2 fdivV (fV 2) (fI 576)) (fI 2)))) (b1 9))
  (andThen (xAsg (fC W_order (aC (fV 4) (aC (fList (aC (fTup (aC (fI 2) (aC (f1 negV (fI 1)) a0))) a0)) a0))) (bT [("by_lines", 10), ("first_sure", 11)]))
  (andThen (xAsg (fC W_order (aC (fV 4) (aC (fList (aC (fTup (aC (fI 3) (aC (fV 9) a0))) (aC (fTup (aC (fI 1) (aC (f1 negV (fV 9)) a0))) (aC (fTup (aC (fI 2) (aC (fI 1) a0))) a0)))) a0))) (bT [("by_columns", 12), ("second_sure", 13)]))
  (andThen (xAsg (fList a0) (b1 14))
  (andThen (xFor (lOf (fV 3)) (b1 15) paintB)
  (andThen (xIte (bC neV (fC sortedV (aC (fComp (lOf (fV 14)) (bT [("one", 36), ("hue", 37)]) tT (fV 36)) a0)) (fRange (fI 9))) (andThen (xRet (fT false))
  xNil) xNil)
  (andThen (xRet (fB (aAnd (fV 11) (aAnd (fV 13) (bV (f2 eqV (fV 7) dueE))))))
  xNil))))))))))))
theorem F_law_def : F_law = (andThen (xAsg (fC W_cells (aC (fV 0) a0)) (b1 1))
  (andThen (xAsg (fC sumV (aC (fV 1) a0)) (b1 2))
  (andThen (xAsg palE (b1 3))
  (andThen (xAsc itemsE 4)
  F_law2)))) := rfl

theorem law_tail {pal : List Nat} (hp : PalOk pal) {D : Int} {cs : List Int} (hcs : cs.length = 10) {a b d w : Nat} (ha : a < 2) (hb : b < 2) (hd : d < 3) (hw : w < 2) (ew : (D.fdiv 576).fmod 2 = (w : Int)) {ρ4 : Rho}
    (g1 : get ρ4 1 = some (.list (cs.map .int))) (g2 : get ρ4 2 = some (.int D)) (g3 : get ρ4 3 = some (.list (nats pal))) (g4 : get ρ4 4 = some (itemsV a b d)) : F_law2 ρ4 = some (.ret (.bool true)) := by
  obtain ⟨bl, bc, hbl, hbc, hrows⟩ := order_law ha hb hd hw
  obtain ⟨fP, hfP⟩ := Classical.axiomOfChoice fun n => place_law hp n
  obtain ⟨fN, hfN⟩ := Classical.axiomOfChoice hfP
  obtain ⟨fx, hf⟩ := Classical.axiomOfChoice hfN
  generalize hc9 : cs.take 9 = c9
  have h9 : c9.length = 9 := by rw [← hc9, List.length_take]; omega
  have h10 : c9.length ≤ 10000 := by omega
  -- the places
  let placeV : Int → V := fun n => .tup [.list (nats ((fP n).map (·.1))), .list (txts (fN n)), .str (fx n)]
  let ρ5 : Rho := put ρ4 5 (.list (c9.map placeV))
  have s5 : xAsc (fComp (lOf (fSl (fV 1) pN (pS (fI 9)))) (b1 20) tT (fC W_place (aC (fV 20) (aC (fV 3) a0)))) 5 ρ4 = some (.next ρ5) := by
    refine asc_eq (compT_eq (f := fun (n : Int) => V.int n) (l := c9) placeV ?_ h10 fun n _ => ⟨put ρ4 20 (.int n), rfl, ?_⟩)
    · unfold lOf fSl fV pN pS fI
      rw [g1]
      have hc : (decide ((0 : Int) ≤ 9) && decide ((cs.map V.int).length < roof)) = true := by
        rw [List.length_map, Bool.and_eq_true]; exact ⟨by decide, decide_eq_true (by unfold roof; omega)⟩
      have e : sliceV (.list (cs.map V.int)) Option.none (some 9) = some (.list (c9.map V.int)) := by
        show (if (decide ((0 : Int) ≤ 9) && decide ((cs.map V.int).length < roof)) = true then some (V.list ((cs.map V.int).take (9 : Int).toNat)) else Option.none) = _
        rw [if_pos hc, ← hc9, List.map_take]; rfl
      show asList (sliceV (.list (cs.map V.int)) Option.none (some 9)) = _
      rw [e]; rfl
    · have q3 : get (put ρ4 20 (.int n)) 3 = some (.list (nats pal)) := by rw [get_put_ne _ _ (by decide), g3]
      have q20 : get (put ρ4 20 (.int n)) 20 = some (.int n) := get_put_self _ _ _
      simp only [fC, aC, a0, fV, q3, q20, Option.bind_some]
      exact (hf n).place
  have k5 : get ρ5 5 = some (.list (c9.map placeV)) := get_put_self _ _ _
  -- read
  let ρ6 : Rho := put ρ5 6 (.list (c9.map fun n => .list (txts (fN n))))
  have s6 : xAsc (fComp (lOf (fV 5)) (bT [("hues", 21), ("names", 22), ("text", 23)]) tT (fC W_read (aC (fV 23) a0))) 6 ρ5 = some (.next ρ6) := by
    refine asc_eq (compT_eq (f := placeV) (l := c9) (fun n => V.list (txts (fN n))) (by unfold lOf fV; rw [k5]; rfl) h10 fun n _ => ⟨put (put (put ρ5 21 (.list (nats ((fP n).map (·.1))))) 22 (.list (txts (fN n)))) 23 (.str (fx n)), rfl, ?_⟩)
    have q : get (put (put (put ρ5 21 (.list (nats ((fP n).map (·.1))))) 22 (.list (txts (fN n)))) 23 (.str (fx n))) 23 = some (.str (fx n)) := get_put_self _ _ _
    simp only [fC, aC, a0, fV, q, Option.bind_some]
    exact (hf n).read
  have k6 : get ρ6 6 = some (.list (c9.map fun n => .list (txts (fN n)))) := get_put_self _ _ _
  have k65 : get ρ6 5 = some (.list (c9.map placeV)) := by show get (put ρ5 6 _) 5 = _; rw [get_put_ne _ _ (by decide), k5]
  have hlayN : Lay 2 (.list (c9.map fun n => .list (txts (fN n)))) := by
    refine Lay.list fun e he => ?_
    obtain ⟨n, _, rfl⟩ := List.mem_map.mp he
    refine Lay.list fun e he => ?_
    obtain ⟨m, hm, rfl⟩ := List.mem_map.mp he
    exact Lay.str _ fun c hc => by have := ((hf n).digits m hm).2 c hc; omega
  have s7 : bC neV (fV 6) (fComp (lOf (fV 5)) (bT [("hues", 24), ("names", 25), ("text", 26)]) tT (fV 25)) ρ6 = some false := by
    have e : fComp (lOf (fV 5)) (bT [("hues", 24), ("names", 25), ("text", 26)]) tT (fV 25) ρ6 = some (.list (c9.map fun n => .list (txts (fN n)))) := by
      refine compT_eq (f := placeV) (l := c9) (fun n => V.list (txts (fN n))) (by unfold lOf fV; rw [k65]; rfl) h10 fun n _ => ⟨put (put (put ρ6 24 (.list (nats ((fP n).map (·.1))))) 25 (.list (txts (fN n)))) 26 (.str (fx n)), rfl, ?_⟩
      unfold fV
      rw [get_put_ne _ _ (by decide), get_put_self]
    generalize fComp (lOf (fV 5)) (bT [("hues", 24), ("names", 25), ("text", 26)]) tT (fV 25) = X at e ⊢
    unfold bC fV
    rw [k6, e]
    show asBool ((deepEq (.list (c9.map fun n => .list (txts (fN n)))) (.list (c9.map fun n => .list (txts (fN n))))).map fun c => V.bool !c) = _
    rw [hlayN.eq (by decide)]; rfl
  -- told
  let ρ7 : Rho := put ρ6 7 (.list (c9.map fun n => .list (toldOf (fP n))))
  have s8 : xAsc toldE 7 ρ6 = some (.next ρ7) := by
    refine asc_eq (compT_eq (f := fun (n : Int) => V.list (txts (fN n))) (l := c9) (fun n => V.list (toldOf (fP n))) (by unfold lOf fV; rw [k6]; rfl) h10 fun n _ => ⟨put ρ6 27 (.list (txts (fN n))), rfl, ?_⟩)
    exact name_law hp (hf n) (get_put_self _ _ _)
  have k7 : get ρ7 7 = some (.list (c9.map fun n => .list (toldOf (fP n)))) := get_put_self _ _ _
  -- offers
  let HL : List (List Nat) := c9.map fun n => (fP n).map (·.1)
  have hHL9 : HL.length = 9 := by show (c9.map _).length = 9; rw [List.length_map]; exact h9
  let ρ8 : Rho := put ρ7 8 (.list (HL.map fun hs => .list (thou hs)))
  have s9 : xAsg offerE (b1 8) ρ7 = some (.next ρ8) := by
    have e : HL.map (fun hs => V.list (thou hs)) = c9.map fun n => V.list (thou ((fP n).map (·.1))) := by
      show (c9.map _).map _ = _
      rw [List.map_map]; rfl
    refine asg_eq (d := .list (HL.map fun hs => .list (thou hs))) ?_ rfl
    rw [e]
    refine compT_eq (Fi := lOf (fV 7)) (bnd := b1 29) (Fe := fComp (lOf (fV 29)) (bT [("code", 30), ("sure", 31)]) tT (fV 30)) (ρ := ρ7) (f := fun (n : Int) => V.list (toldOf (fP n))) (l := c9) (fun n => V.list (thou ((fP n).map (·.1)))) (by unfold lOf fV; rw [k7]; rfl) h10 fun n _ => ⟨put ρ7 29 (.list (toldOf (fP n))), rfl, ?_⟩
    exact offer_one (by have := (hf n).hi; omega) (get_put_self _ _ _)
  have k8 : get ρ8 8 = some (.list (HL.map fun hs => .list (thou hs))) := get_put_self _ _ _
  have k82 : get ρ8 2 = some (.int D) := by
    show get (put (put (put (put ρ4 5 _) 6 _) 7 _) 8 _) 2 = _
    rw [get_put_ne _ _ (by decide), get_put_ne _ _ (by decide), get_put_ne _ _ (by decide), get_put_ne _ _ (by decide), g2]
  have k84 : get ρ8 4 = some (itemsV a b d) := by
    show get (put (put (put (put ρ4 5 _) 6 _) 7 _) 8 _) 4 = _
    rw [get_put_ne _ _ (by decide), get_put_ne _ _ (by decide), get_put_ne _ _ (by decide), get_put_ne _ _ (by decide), g4]
  -- way
  let ρ9 : Rho := put ρ8 9 (.int (wayI w))
  have s10 : xAsg (f2 subV (fI 1) (f2 mulV (fI 2) (f2 modV (f2 fdivV (fV 2) (fI 576)) (fI 2)))) (b1 9) ρ8 = some (.next ρ9) := by
    refine asg_eq (d := .int (wayI w)) ?_ rfl
    have h := l_sub (F := fI 1) (x := 1) rfl (l_mul (F := fI 2) (x := 2) rfl (l_mod (m := 2) (l_div (F := fV 2) (m := 576) k82 (by decide) (by decide)) (by decide)) (.inl (by decide)))
    rw [ew] at h
    exact h
  have k9 : get ρ9 9 = some (.int (wayI w)) := get_put_self _ _ _
  have k94 : get ρ9 4 = some (itemsV a b d) := by show get (put ρ8 9 _) 4 = _; rw [get_put_ne _ _ (by decide), k84]
  -- the rows
  let ρa : Rho := put (put ρ9 10 (.list (nats bl))) 11 (.bool true)
  have s11 : xAsg (fC W_order (aC (fV 4) (aC (fList (aC (fTup (aC (fI 2) (aC (f1 negV (fI 1)) a0))) a0)) a0))) (bT [("by_lines", 10), ("first_sure", 11)]) ρ9 = some (.next ρa) := by
    refine asg_eq (d := .tup [.list (nats bl), .bool true]) ?_ rfl
    have e : fList (aC (fTup (aC (fI 2) (aC (f1 negV (fI 1)) a0))) a0) ρ9 = some colsL := rfl
    generalize fList (aC (fTup (aC (fI 2) (aC (f1 negV (fI 1)) a0))) a0) = X at e ⊢
    simp only [fC, aC, a0, fV, k94, e, Option.bind_some]
    exact hbl
  have ka9 : get ρa 9 = some (.int (wayI w)) := by show get (put (put ρ9 10 _) 11 _) 9 = _; rw [get_put_ne _ _ (by decide), get_put_ne _ _ (by decide), k9]
  have ka4 : get ρa 4 = some (itemsV a b d) := by show get (put (put ρ9 10 _) 11 _) 4 = _; rw [get_put_ne _ _ (by decide), get_put_ne _ _ (by decide), k94]
  let ρb : Rho := put (put ρa 12 (.list (nats bc))) 13 (.bool true)
  have s12 : xAsg (fC W_order (aC (fV 4) (aC (fList (aC (fTup (aC (fI 3) (aC (fV 9) a0))) (aC (fTup (aC (fI 1) (aC (f1 negV (fV 9)) a0))) (aC (fTup (aC (fI 2) (aC (fI 1) a0))) a0)))) a0))) (bT [("by_columns", 12), ("second_sure", 13)]) ρa = some (.next ρb) := by
    refine asg_eq (d := .tup [.list (nats bc), .bool true]) ?_ rfl
    have e : fList (aC (fTup (aC (fI 3) (aC (fV 9) a0))) (aC (fTup (aC (fI 1) (aC (f1 negV (fV 9)) a0))) (aC (fTup (aC (fI 2) (aC (fI 1) a0))) a0))) ρa = some (colsC w) := by
      simp only [fList, fTup, aC, a0, fI, fV, f1, ka9, negV_i, Option.bind_some, Option.map_some]
      rfl
    generalize fList (aC (fTup (aC (fI 3) (aC (fV 9) a0))) (aC (fTup (aC (fI 1) (aC (f1 negV (fV 9)) a0))) (aC (fTup (aC (fI 2) (aC (fI 1) a0))) a0))) = X at e ⊢
    simp only [fC, aC, a0, fV, ka4, e, Option.bind_some]
    exact hbc
  let ρc : Rho := put ρb 14 (.list [])
  have s13 : xAsg (fList a0) (b1 14) ρb = some (.next ρc) := asg_eq rfl rfl
  have down : ∀ j, j < 14 → j ≠ 13 → j ≠ 12 → j ≠ 11 → j ≠ 10 → j ≠ 9 → get ρc j = get ρ8 j := by
    intro j h1 h2 h3 h4 h5 h6
    show get (put (put (put (put (put (put ρ8 9 _) 10 _) 11 _) 12 _) 13 _) 14 _) j = _
    rw [get_put_ne _ _ (by omega), get_put_ne _ _ (by omega), get_put_ne _ _ (by omega), get_put_ne _ _ (by omega), get_put_ne _ _ (by omega), get_put_ne _ _ (by omega)]
  have kc8 : get ρc 8 = some (.list (HL.map fun hs => .list (thou hs))) := by rw [down 8 (by decide) (by decide) (by decide) (by decide) (by decide) (by decide), k8]
  have kc10 : get ρc 10 = some (.list (nats bl)) := by
    show get (put (put (put (put (put ρ9 10 _) 11 _) 12 _) 13 _) 14 _) 10 = _
    rw [get_put_ne _ _ (by decide), get_put_ne _ _ (by decide), get_put_ne _ _ (by decide), get_put_ne _ _ (by decide), get_put_self]
  have kc11 : get ρc 11 = some (.bool true) := by
    show get (put (put (put (put (put ρ9 10 _) 11 _) 12 _) 13 _) 14 _) 11 = _
    rw [get_put_ne _ _ (by decide), get_put_ne _ _ (by decide), get_put_ne _ _ (by decide), get_put_self]
  have kc12 : get ρc 12 = some (.list (nats bc)) := by
    show get (put (put (put ρa 12 _) 13 _) 14 _) 12 = _
    rw [get_put_ne _ _ (by decide), get_put_ne _ _ (by decide), get_put_self]
  have kc13 : get ρc 13 = some (.bool true) := by
    show get (put (put (put ρa 12 _) 13 _) 14 _) 13 = _
    rw [get_put_ne _ _ (by decide), get_put_self]
  have kc7 : get ρc 7 = some (.list (c9.map fun n => .list (toldOf (fP n)))) := by
    rw [down 7 (by decide) (by decide) (by decide) (by decide) (by decide) (by decide)]
    show get (put ρ7 8 _) 7 = _
    rw [get_put_ne _ _ (by decide), k7]
  have kc5 : get ρc 5 = some (.list (c9.map placeV)) := by
    rw [down 5 (by decide) (by decide) (by decide) (by decide) (by decide) (by decide)]
    show get (put (put ρ6 7 _) 8 _) 5 = _
    rw [get_put_ne _ _ (by decide), get_put_ne _ _ (by decide), k65]
  have kc3 : get ρc 3 = some (.list (nats pal)) := by
    rw [down 3 (by decide) (by decide) (by decide) (by decide) (by decide) (by decide)]
    show get (put (put (put (put ρ4 5 _) 6 _) 7 _) 8 _) 3 = _
    rw [get_put_ne _ _ (by decide), get_put_ne _ _ (by decide), get_put_ne _ _ (by decide), get_put_ne _ _ (by decide), g3]
  -- painting
  obtain ⟨ρd, painted, eloop, I, keep, kd14⟩ := paint_loop hrows hHL9 kc8 kc10 kc12 (get_put_self _ _ _) pal
  have s14 : xFor (lOf (fV 3)) (b1 15) paintB ρc = some (.next ρd) := by
    unfold xFor lOf fV
    rw [kc3]; exact eloop
  have hoff : ∀ p, p < 9 → (HL.getD p []).Nodup ∧ (∀ h ∈ HL.getD p [], h ∈ pal) ∧ 3 ≤ (HL.getD p []).length := by
    intro p hp9
    have hpc : p < c9.length := by omega
    have e : HL.getD p [] = (fP c9[p]).map (·.1) := by
      rw [List.getD_eq_getElem?_getD]
      show ((c9.map fun n => (fP n).map (·.1))[p]?).getD [] = _
      rw [List.getElem?_map, List.getElem?_eq_getElem hpc]; rfl
    rw [e]
    have hn := hf c9[p]
    refine ⟨hn.ok.nodup, fun h hh => ?_, by rw [List.length_map]; exact hn.lo⟩
    obtain ⟨q, hq, rfl⟩ := List.mem_map.mp hh
    exact hn.ok.mem q hq
  have hsort := paint_all hrows I hoff
  have hpl := paint_le I
  have s15 : bC neV (fC sortedV (aC (fComp (lOf (fV 14)) (bT [("one", 36), ("hue", 37)]) tT (fV 36)) a0)) (fRange (fI 9)) ρd = some false := by
    have e : fComp (lOf (fV 14)) (bT [("one", 36), ("hue", 37)]) tT (fV 36) ρd = some (.list (nats (painted.map (·.1)))) := by
      have : nats (painted.map (·.1)) = painted.map fun p => V.int ((p.1 : Nat) : Int) := by unfold nats; rw [List.map_map]; rfl
      rw [this]
      refine compT_eq (f := fun (p : Nat × Nat) => V.tup [.int (p.1 : Int), .int (p.2 : Int)]) (l := painted) (fun p => V.int ((p.1 : Nat) : Int)) (by unfold lOf fV; rw [kd14]; rfl) (by omega) fun p _ => ⟨put (put ρd 36 (.int (p.1 : Int))) 37 (.int (p.2 : Int)), rfl, ?_⟩
      unfold fV
      rw [get_put_ne _ _ (by decide), get_put_self]
    have e2 : sortedV [.list (nats (painted.map (·.1)))] = some (.list (nats (List.range 9))) := by
      show (intsOf (nats (painted.map (·.1)))).bind (fun ns => if ns.length < 64 then some (V.list ((sortI ns).map .int)) else Option.none) = _
      rw [intsOf_nats, Option.bind_some, if_pos (by rw [List.length_map, List.length_map]; omega), hsort]
      unfold nats
      rw [List.map_map]; rfl
    have hl9 : Lay 1 (.list (nats (List.range 9))) := Lay.list fun e he => by
      obtain ⟨n, _, rfl⟩ := List.mem_map.mp he
      exact Lay.int _ _
    have e3 : fRange (fI 9) ρd = some (.list (nats (List.range 9))) := rfl
    generalize fComp (lOf (fV 14)) (bT [("one", 36), ("hue", 37)]) tT (fV 36) = X at e ⊢
    generalize fRange (fI 9) = Y at e3 ⊢
    unfold bC fC aC a0
    rw [e, e3, Option.bind_some, Option.bind_some, Option.bind_some, e2]
    show asBool ((deepEq (.list (nats (List.range 9))) (.list (nats (List.range 9)))).map fun c => V.bool !c) = _
    rw [hl9.eq (by decide)]; rfl
  have hdue : dueE ρd = some (.list (c9.map fun n => .list (toldOf (fP n)))) := by
    refine compT_eq (f := placeV) (l := c9) (fun n => V.list (toldOf (fP n))) (by unfold lOf fV; rw [keep 5 (by decide), kc5]; rfl) h10 fun n _ => ⟨put (put (put ρd 38 (.list (nats ((fP n).map (·.1))))) 39 (.list (txts (fN n)))) 40 (.str (fx n)), rfl, ?_⟩
    exact due_one (by have := (hf n).hi; omega) (by rw [get_put_ne _ _ (by decide), get_put_ne _ _ (by decide), get_put_self])
  have hlayT : Lay 3 (.list (c9.map fun n => .list (toldOf (fP n)))) := by
    refine Lay.list fun e he => ?_
    obtain ⟨n, _, rfl⟩ := List.mem_map.mp he
    refine Lay.list fun e he => ?_
    obtain ⟨p, _, rfl⟩ := List.mem_map.mp he
    refine Lay.tup fun e he => ?_
    simp only [List.mem_cons, List.not_mem_nil, or_false] at he
    rcases he with rfl | rfl
    · exact Lay.int _ _
    · exact Lay.bool _ _
  have s16 : fB (aAnd (fV 11) (aAnd (fV 13) (bV (f2 eqV (fV 7) dueE)))) ρd = some (.bool true) := by
    have e : f2 eqV (fV 7) dueE ρd = some (.bool true) := by
      generalize dueE = X at hdue ⊢
      unfold f2 fV
      rw [keep 7 (by decide), kc7, hdue]
      show (deepEq (.list (c9.map fun n => .list (toldOf (fP n)))) (.list (c9.map fun n => .list (toldOf (fP n))))).map V.bool = _
      rw [hlayT.eq (by decide)]; rfl
    generalize f2 eqV (fV 7) dueE = X at e ⊢
    unfold fB aAnd bV fV
    rw [keep 11 (by decide), keep 13 (by decide), kc11, kc13, e]
    rfl
  exact at_next s5 (at_next s6 (at_next (ite_f s7 rfl) (at_next s8 (at_next s9 (at_next s10 (at_next s11 (at_next s12 (at_next s13 (at_next s14 (at_next (ite_f s15 rfl) (at_ret (ret_eq s16))))))))))))

theorem plain_law (ns : List Int) (h : ns.length ≤ 63) : W_law [.list (ns.map .int)] = some (.bool true) := by
  obtain ⟨cs, hcs, ecs⟩ := cells_law ns h
  let D : Int := cs.sum
  obtain ⟨a, ea, ha⟩ := fmod_nat (D.fdiv 48) (k := 2) (by decide)
  obtain ⟨b, eb, hb⟩ := fmod_nat (D.fdiv 96) (k := 2) (by decide)
  obtain ⟨d, ed, hd⟩ := fmod_nat (D.fdiv 192) (k := 3) (by decide)
  obtain ⟨w, ew, hw⟩ := fmod_nat (D.fdiv 576) (k := 2) (by decide)
  let ρ0 : Rho := put [] 0 (.list (ns.map .int))
  let ρ1 : Rho := put ρ0 1 (.list (cs.map .int))
  let ρ2 : Rho := put ρ1 2 (.int D)
  have s1 : xAsg (fC W_cells (aC (fV 0) a0)) (b1 1) ρ0 = some (.next ρ1) := by
    refine asg_eq (d := .list (cs.map .int)) ?_ rfl
    have g : get ρ0 0 = some (.list (ns.map .int)) := get_put_self _ _ _
    simp only [fC, aC, a0, fV, g, Option.bind_some]
    exact ecs
  have s2 : xAsg (fC sumV (aC (fV 1) a0)) (b1 2) ρ1 = some (.next ρ2) := by
    refine asg_eq (d := .int D) ?_ rfl
    have g : get ρ1 1 = some (.list (cs.map .int)) := get_put_self _ _ _
    simp only [fC, aC, a0, fV, g, Option.bind_some]
    show (intsOf (cs.map .int)).map _ = _
    rw [intsOf_map]; rfl
  have g22 : get ρ2 2 = some (.int D) := get_put_self _ _ _
  obtain ⟨pal, hp, epal⟩ := pal_law g22
  let ρ3 : Rho := put ρ2 3 (.list (nats pal))
  have s3 : xAsg palE (b1 3) ρ2 = some (.next ρ3) := asg_eq epal rfl
  have g32 : get ρ3 2 = some (.int D) := by show get (put ρ2 3 _) 2 = _; rw [get_put_ne _ _ (by decide), g22]
  let ρ4 : Rho := put ρ3 4 (itemsV a b d)
  have s4 : xAsc itemsE 4 ρ3 = some (.next ρ4) := asc_eq (items_law g32 ea eb ed)
  have key := law_tail hp hcs ha hb hd hw ew (ρ4 := ρ4) (by
      show get (put (put (put (put ρ0 1 _) 2 _) 3 _) 4 _) 1 = _
      rw [get_put_ne _ _ (by decide), get_put_ne _ _ (by decide), get_put_ne _ _ (by decide), get_put_self]) (by
      show get (put ρ3 4 _) 2 = _
      rw [get_put_ne _ _ (by decide), g32]) (by
      show get (put (put ρ2 3 _) 4 _) 3 = _
      rw [get_put_ne _ _ (by decide), get_put_self]) (get_put_self _ _ _)
  unfold W_law runF
  rw [F_law_def]
  show ((andThen _ _ ρ0).map _) = _
  rw [at_next s1 (at_next s2 (at_next s3 (at_next s4 key)))]
  rfl
end Mine
end

section
open PySem PySem.W PyProof.Rows
namespace Mine
/-- the top's statements without those that name the parts -/
noncomputable def view : Program := { PySem.Challenge.pw_xh0008_01 with main := { PySem.Challenge.pw_xh0008_01.main with body := [1, 3, 4, 6, 7, 8, 9, 11, 12, 13, 14, 15, 16, 17].filterMap fun i => PySem.Challenge.pw_xh0008_01.main.body[i]? } }
/-- the objects that the proof knows whole; printed by a program, the bodies and scopes by their place in the given program -/
noncomputable def K0 (P : Params) : Frag :=
  [(3, (Obj.mk (.type "dict") Option.none (Data.dict (List.toArray [(DictEntry.mk (PyData.keyHash P (.ofString "__name__")) (.str (.ofString "__name__") 165) (.str (.ofString "law_xh0008_01") 304)), (DictEntry.mk (PyData.keyHash P (.ofString "__doc__")) (.str (.ofString "__doc__") 166) Value.none), (DictEntry.mk (PyData.keyHash P (.ofString "__package__")) (.str (.ofString "__package__") 167) Value.none), (DictEntry.mk (PyData.keyHash P (.ofString "__loader__")) (.str (.ofString "__loader__") 168) (.builtin "__main__.__loader__#opaque")), (DictEntry.mk (PyData.keyHash P (.ofString "__spec__")) (.str (.ofString "__spec__") 169) Value.none), (DictEntry.mk (PyData.keyHash P (.ofString "__annotations__")) (.str (.ofString "__annotations__") 170) (.ref 6)), (DictEntry.mk (PyData.keyHash P (.ofString "__builtins__")) (.str (.ofString "__builtins__") 171) (.ref 4)), (DictEntry.mk (PyData.keyHash P (.ofString "__file__")) (.str (.ofString "__file__") 173) (.str (.ofString "/claim/cut.py") 172)), (DictEntry.mk (PyData.keyHash P (.ofString "__cached__")) (.str (.ofString "__cached__") 174) Value.none), (DictEntry.mk (PyData.keyHash P (.ofString "TupleComp")) (.str (.ofString "TupleComp") 230) (.ref 38)), (DictEntry.mk (PyData.keyHash P (.ofString "rgb_to_hls")) (.str (.ofString "rgb_to_hls") 251) (.ref 49)), (DictEntry.mk (PyData.keyHash P (.ofString "rgb_to_hsv")) (.str (.ofString "rgb_to_hsv") 269) (.ref 56)), (DictEntry.mk (PyData.keyHash P (.ofString "TICK")) (.str (.ofString "TICK") 273) (.str (.ofString "'") 272)), (DictEntry.mk (PyData.keyHash P (.ofString "_iter_escaped_chars")) (.str (.ofString "_iter_escaped_chars") 283) (.ref 63)), (DictEntry.mk (PyData.keyHash P (.ofString "_strip_quoted_realnames")) (.str (.ofString "_strip_quoted_realnames") 295) (.ref 70)), (DictEntry.mk (PyData.keyHash P (.ofString "decode_rfc2231")) (.str (.ofString "decode_rfc2231") 303) (.ref 77)), (DictEntry.mk (PyData.keyHash P (.ofString "_law_cells")) (.str (.ofString "_law_cells") 315) (.ref 84)), (DictEntry.mk (PyData.keyHash P (.ofString "_law_place")) (.str (.ofString "_law_place") 321) (.ref 89)), (DictEntry.mk (PyData.keyHash P (.ofString "_law_read")) (.str (.ofString "_law_read") 332) (.ref 96)), (DictEntry.mk (PyData.keyHash P (.ofString "_law_hue")) (.str (.ofString "_law_hue") 338) (.ref 101)), (DictEntry.mk (PyData.keyHash P (.ofString "_law_order")) (.str (.ofString "_law_order") 344) (.ref 106)), (DictEntry.mk (PyData.keyHash P (.ofString "_law_chosen")) (.str (.ofString "_law_chosen") 350) (.ref 111)), (DictEntry.mk (PyData.keyHash P (.ofString "law")) (.str (.ofString "law") 356) (.ref 116))]) 23) (List.toArray []))),
   (27, (Obj.mk (.type "code") Option.none (Data.fields (List.toArray [(.str (.ofString "__init__") 201), (.str (.ofString "TupleComp.__init__") 202), (.str (.ofString "/claim/cut.py") 203), (.int (4 : Int) 0), (.int (2 : Int) 0), (.int (0 : Int) 0), (.int (0 : Int) 0), (.int (3 : Int) 0), (.ref 22), (.bool @Bool.true), (.int (181 : Int) 0), (.ref 23), Value.none, (.ref 24), (.ref 25), (.ref 26), (.int (206 : Int) 0), (.int (4 : Int) 0), (.str (.ofString "/claim/cut.py") 207)])) (List.toArray []))),
   (28, Obj.mk (.type "function") Option.none (PySem.Data.func (FuncData.mk (.ofString "__init__") (.ofString "TupleComp.__init__") (Arguments.mk [] [(Arg.mk (.ofString "self") Option.none (Pos.mk 4 17 4 21)), (Arg.mk (.ofString "comp_select_list") Option.none (Pos.mk 4 23 4 39))] Option.none [] [] Option.none []) (PySem.FuncBody.stmts (clsBody 0)) (clsScope 0) 3 [] Value.none Value.none Value.none (.str (.ofString "cpy313.pstats") 187) Option.none (.ref 27) Value.none 0)) (List.toArray [])),
   (34, (Obj.mk (.type "code") Option.none (Data.fields (List.toArray [(.str (.ofString "compare") 209), (.str (.ofString "TupleComp.compare") 210), (.str (.ofString "/claim/cut.py") 211), (.int (7 : Int) 0), (.int (3 : Int) 0), (.int (0 : Int) 0), (.int (0 : Int) 0), (.int (3 : Int) 0), (.ref 29), (.bool @Bool.true), (.int (181 : Int) 0), (.ref 30), Value.none, (.ref 31), (.ref 32), (.ref 33), (.int (219 : Int) 0), (.int (7 : Int) 0), (.str (.ofString "/claim/cut.py") 220)])) (List.toArray []))),
   (35, Obj.mk (.type "function") Option.none (PySem.Data.func (FuncData.mk (.ofString "compare") (.ofString "TupleComp.compare") (Arguments.mk [] [(Arg.mk (.ofString "self") Option.none (Pos.mk 7 16 7 20)), (Arg.mk (.ofString "left") Option.none (Pos.mk 7 22 7 26)), (Arg.mk (.ofString "right") Option.none (Pos.mk 7 28 7 33))] Option.none [] [] Option.none []) (PySem.FuncBody.stmts (clsBody 1)) (clsScope 1) 3 [] Value.none Value.none Value.none (.str (.ofString "cpy313.pstats") 187) Option.none (.ref 34) Value.none 0)) (List.toArray [])),
   (37, (Obj.mk (.type "dict") Option.none (Data.dict (List.toArray [(DictEntry.mk (PyData.keyHash P (.ofString "__module__")) (.str (.ofString "__module__") 196) (.str (.ofString "cpy313.pstats") 187)), (DictEntry.mk (PyData.keyHash P (.ofString "__firstlineno__")) (.str (.ofString "__firstlineno__") 200) (.int (2 : Int) 199)), (DictEntry.mk (PyData.keyHash P (.ofString "__init__")) (.str (.ofString "__init__") 208) (.ref 28)), (DictEntry.mk (PyData.keyHash P (.ofString "compare")) (.str (.ofString "compare") 221) (.ref 35)), (DictEntry.mk (PyData.keyHash P (.ofString "__static_attributes__")) (.str (.ofString "__static_attributes__") 223) (.ref 36)), (DictEntry.mk (PyData.keyHash P (.ofString "__dict__")) (.str (.ofString "__dict__") 225) (.ref 39)), (DictEntry.mk (PyData.keyHash P (.ofString "__weakref__")) (.str (.ofString "__weakref__") 227) (.ref 40)), (DictEntry.mk (PyData.keyHash P (.ofString "__doc__")) (.str (.ofString "__doc__") 228) Value.none)]) 4) (List.toArray []))),
   (38, (Obj.mk (.type "type") Option.none (Data.cls (ClassData.mk (.ofString "TupleComp") [(.type "object")] [(.ref 38), (.type "object")] 37 (.ofString "TupleComp") @Bool.true [] [] @Bool.false Option.none @Bool.false)) (List.toArray [Option.none, Option.none, (Option.some (.str (.ofString "TupleComp") 189)), (Option.some (.str (.ofString "TupleComp") 197)), (Option.some (.builtin "object.__new__")), (Option.some (.bool @Bool.true))]))),
   (48, (Obj.mk (.type "code") Option.none (Data.fields (List.toArray [(.str (.ofString "rgb_to_hls") 233), (.str (.ofString "rgb_to_hls") 234), (.str (.ofString "/claim/cut.py") 235), (.int (17 : Int) 0), (.int (3 : Int) 0), (.int (0 : Int) 0), (.int (0 : Int) 0), (.int (3 : Int) 0), (.ref 43), (.bool @Bool.true), (.int (181 : Int) 0), (.ref 44), Value.none, (.ref 45), (.ref 46), (.ref 47), (.int (249 : Int) 0), (.int (17 : Int) 0), (.str (.ofString "/claim/cut.py") 250)])) (List.toArray []))),
   (49, Obj.mk (.type "function") Option.none (PySem.Data.func (FuncData.mk (.ofString "rgb_to_hls") (.ofString "rgb_to_hls") (Arguments.mk [] [(Arg.mk (.ofString "r") Option.none (Pos.mk 17 15 17 16)), (Arg.mk (.ofString "g") Option.none (Pos.mk 17 18 17 19)), (Arg.mk (.ofString "b") Option.none (Pos.mk 17 21 17 22))] Option.none [] [] Option.none []) (PySem.FuncBody.stmts (topBody 3)) (topScope 3) 3 [] Value.none Value.none Value.none (.str (.ofString "cpy313.colorsys") 231) Option.none (.ref 48) Value.none 0)) (List.toArray [])),
   (55, (Obj.mk (.type "code") Option.none (Data.fields (List.toArray [(.str (.ofString "rgb_to_hsv") 252), (.str (.ofString "rgb_to_hsv") 253), (.str (.ofString "/claim/cut.py") 254), (.int (40 : Int) 0), (.int (3 : Int) 0), (.int (0 : Int) 0), (.int (0 : Int) 0), (.int (3 : Int) 0), (.ref 50), (.bool @Bool.true), (.int (181 : Int) 0), (.ref 51), Value.none, (.ref 52), (.ref 53), (.ref 54), (.int (267 : Int) 0), (.int (40 : Int) 0), (.str (.ofString "/claim/cut.py") 268)])) (List.toArray []))),
   (56, Obj.mk (.type "function") Option.none (PySem.Data.func (FuncData.mk (.ofString "rgb_to_hsv") (.ofString "rgb_to_hsv") (Arguments.mk [] [(Arg.mk (.ofString "r") Option.none (Pos.mk 40 15 40 16)), (Arg.mk (.ofString "g") Option.none (Pos.mk 40 18 40 19)), (Arg.mk (.ofString "b") Option.none (Pos.mk 40 21 40 22))] Option.none [] [] Option.none []) (PySem.FuncBody.stmts (topBody 4)) (topScope 4) 3 [] Value.none Value.none Value.none (.str (.ofString "cpy313.colorsys") 231) Option.none (.ref 55) Value.none 0)) (List.toArray [])),
   (62, (Obj.mk (.type "code") Option.none (Data.fields (List.toArray [(.str (.ofString "_iter_escaped_chars") 274), (.str (.ofString "_iter_escaped_chars") 275), (.str (.ofString "/claim/cut.py") 276), (.int (61 : Int) 0), (.int (1 : Int) 0), (.int (0 : Int) 0), (.int (0 : Int) 0), (.int (35 : Int) 0), (.ref 57), (.bool @Bool.true), (.int (181 : Int) 0), (.ref 58), Value.none, (.ref 59), (.ref 60), (.ref 61), (.int (281 : Int) 0), (.int (61 : Int) 0), (.str (.ofString "/claim/cut.py") 282)])) (List.toArray []))),
   (63, Obj.mk (.type "function") Option.none (PySem.Data.func (FuncData.mk (.ofString "_iter_escaped_chars") (.ofString "_iter_escaped_chars") (Arguments.mk [] [(Arg.mk (.ofString "addr") Option.none (Pos.mk 61 24 61 28))] Option.none [] [] Option.none []) (PySem.FuncBody.stmts (topBody 7)) (topScope 7) 3 [] Value.none Value.none Value.none (.str (.ofString "cpy313.email.utils") 270) Option.none (.ref 62) Value.none 0)) (List.toArray [])),
   (69, (Obj.mk (.type "code") Option.none (Data.fields (List.toArray [(.str (.ofString "_strip_quoted_realnames") 284), (.str (.ofString "_strip_quoted_realnames") 285), (.str (.ofString "/claim/cut.py") 286), (.int (74 : Int) 0), (.int (1 : Int) 0), (.int (0 : Int) 0), (.int (0 : Int) 0), (.int (3 : Int) 0), (.ref 64), (.bool @Bool.true), (.int (181 : Int) 0), (.ref 65), Value.none, (.ref 66), (.ref 67), (.ref 68), (.int (293 : Int) 0), (.int (74 : Int) 0), (.str (.ofString "/claim/cut.py") 294)])) (List.toArray []))),
   (70, Obj.mk (.type "function") Option.none (PySem.Data.func (FuncData.mk (.ofString "_strip_quoted_realnames") (.ofString "_strip_quoted_realnames") (Arguments.mk [] [(Arg.mk (.ofString "addr") Option.none (Pos.mk 74 28 74 32))] Option.none [] [] Option.none []) (PySem.FuncBody.stmts (topBody 8)) (topScope 8) 3 [] Value.none Value.none Value.none (.str (.ofString "cpy313.email.utils") 270) Option.none (.ref 69) Value.none 0)) (List.toArray [])),
   (76, (Obj.mk (.type "code") Option.none (Data.fields (List.toArray [(.str (.ofString "decode_rfc2231") 296), (.str (.ofString "decode_rfc2231") 297), (.str (.ofString "/claim/cut.py") 298), (.int (92 : Int) 0), (.int (1 : Int) 0), (.int (0 : Int) 0), (.int (0 : Int) 0), (.int (3 : Int) 0), (.ref 71), (.bool @Bool.true), (.int (181 : Int) 0), (.ref 72), Value.none, (.ref 73), (.ref 74), (.ref 75), (.int (301 : Int) 0), (.int (92 : Int) 0), (.str (.ofString "/claim/cut.py") 302)])) (List.toArray []))),
   (77, Obj.mk (.type "function") Option.none (PySem.Data.func (FuncData.mk (.ofString "decode_rfc2231") (.ofString "decode_rfc2231") (Arguments.mk [] [(Arg.mk (.ofString "s") Option.none (Pos.mk 92 19 92 20))] Option.none [] [] Option.none []) (PySem.FuncBody.stmts (topBody 9)) (topScope 9) 3 [] Value.none Value.none Value.none (.str (.ofString "cpy313.email.utils") 270) Option.none (.ref 76) Value.none 0)) (List.toArray [])),
   (83, (Obj.mk (.type "code") Option.none (Data.fields (List.toArray [(.str (.ofString "_law_cells") 306), (.str (.ofString "_law_cells") 307), (.str (.ofString "/claim/cut.py") 308), (.int (98 : Int) 0), (.int (1 : Int) 0), (.int (0 : Int) 0), (.int (0 : Int) 0), (.int (3 : Int) 0), (.ref 78), (.bool @Bool.true), (.int (181 : Int) 0), (.ref 79), Value.none, (.ref 80), (.ref 81), (.ref 82), (.int (313 : Int) 0), (.int (98 : Int) 0), (.str (.ofString "/claim/cut.py") 314)])) (List.toArray []))),
   (84, Obj.mk (.type "function") Option.none (PySem.Data.func (FuncData.mk (.ofString "_law_cells") (.ofString "_law_cells") (Arguments.mk [] [(Arg.mk (.ofString "script") Option.none (Pos.mk 98 15 98 21))] Option.none [] [] Option.none []) (PySem.FuncBody.stmts (topBody 11)) (topScope 11) 3 [] Value.none Value.none Value.none (.str (.ofString "law_xh0008_01") 304) Option.none (.ref 83) Value.none 0)) (List.toArray [])),
   (88, (Obj.mk (.type "code") Option.none (Data.fields (List.toArray [(.str (.ofString "_law_place") 316), (.str (.ofString "_law_place") 317), (.str (.ofString "/claim/cut.py") 318), (.int (103 : Int) 0), (.int (2 : Int) 0), (.int (0 : Int) 0), (.int (0 : Int) 0), (.int (3 : Int) 0), (.ref 85), (.bool @Bool.true), (.int (181 : Int) 0), (.ref 86), Value.none, Value.none, Value.none, (.ref 87), (.int (319 : Int) 0), (.int (103 : Int) 0), (.str (.ofString "/claim/cut.py") 320)])) (List.toArray []))),
   (89, Obj.mk (.type "function") Option.none (PySem.Data.func (FuncData.mk (.ofString "_law_place") (.ofString "_law_place") (Arguments.mk [] [(Arg.mk (.ofString "number") Option.none (Pos.mk 103 15 103 21)), (Arg.mk (.ofString "palette") Option.none (Pos.mk 103 23 103 30))] Option.none [] [] Option.none []) (PySem.FuncBody.stmts (topBody 12)) (topScope 12) 3 [] Value.none Value.none Value.none (.str (.ofString "law_xh0008_01") 304) Option.none (.ref 88) Value.none 0)) (List.toArray [])),
   (95, (Obj.mk (.type "code") Option.none (Data.fields (List.toArray [(.str (.ofString "_law_read") 322), (.str (.ofString "_law_read") 323), (.str (.ofString "/claim/cut.py") 324), (.int (121 : Int) 0), (.int (1 : Int) 0), (.int (0 : Int) 0), (.int (0 : Int) 0), (.int (3 : Int) 0), (.ref 90), (.bool @Bool.true), (.int (181 : Int) 0), (.ref 91), Value.none, (.ref 92), (.ref 93), (.ref 94), (.int (330 : Int) 0), (.int (121 : Int) 0), (.str (.ofString "/claim/cut.py") 331)])) (List.toArray []))),
   (96, Obj.mk (.type "function") Option.none (PySem.Data.func (FuncData.mk (.ofString "_law_read") (.ofString "_law_read") (Arguments.mk [] [(Arg.mk (.ofString "text") Option.none (Pos.mk 121 14 121 18))] Option.none [] [] Option.none []) (PySem.FuncBody.stmts (topBody 13)) (topScope 13) 3 [] Value.none Value.none Value.none (.str (.ofString "law_xh0008_01") 304) Option.none (.ref 95) Value.none 0)) (List.toArray [])),
   (100, (Obj.mk (.type "code") Option.none (Data.fields (List.toArray [(.str (.ofString "_law_hue") 333), (.str (.ofString "_law_hue") 334), (.str (.ofString "/claim/cut.py") 335), (.int (131 : Int) 0), (.int (1 : Int) 0), (.int (0 : Int) 0), (.int (0 : Int) 0), (.int (3 : Int) 0), (.ref 97), (.bool @Bool.true), (.int (181 : Int) 0), (.ref 98), Value.none, Value.none, Value.none, (.ref 99), (.int (336 : Int) 0), (.int (131 : Int) 0), (.str (.ofString "/claim/cut.py") 337)])) (List.toArray []))),
   (101, Obj.mk (.type "function") Option.none (PySem.Data.func (FuncData.mk (.ofString "_law_hue") (.ofString "_law_hue") (Arguments.mk [] [(Arg.mk (.ofString "name") Option.none (Pos.mk 131 13 131 17))] Option.none [] [] Option.none []) (PySem.FuncBody.stmts (topBody 14)) (topScope 14) 3 [] Value.none Value.none Value.none (.str (.ofString "law_xh0008_01") 304) Option.none (.ref 100) Value.none 0)) (List.toArray [])),
   (105, (Obj.mk (.type "code") Option.none (Data.fields (List.toArray [(.str (.ofString "_law_order") 339), (.str (.ofString "_law_order") 340), (.str (.ofString "/claim/cut.py") 341), (.int (141 : Int) 0), (.int (2 : Int) 0), (.int (0 : Int) 0), (.int (0 : Int) 0), (.int (3 : Int) 0), (.ref 102), (.bool @Bool.true), (.int (181 : Int) 0), (.ref 103), Value.none, Value.none, Value.none, (.ref 104), (.int (342 : Int) 0), (.int (141 : Int) 0), (.str (.ofString "/claim/cut.py") 343)])) (List.toArray []))),
   (106, Obj.mk (.type "function") Option.none (PySem.Data.func (FuncData.mk (.ofString "_law_order") (.ofString "_law_order") (Arguments.mk [] [(Arg.mk (.ofString "items") Option.none (Pos.mk 141 15 141 20)), (Arg.mk (.ofString "columns") Option.none (Pos.mk 141 22 141 29))] Option.none [] [] Option.none []) (PySem.FuncBody.stmts (topBody 15)) (topScope 15) 3 [] Value.none Value.none Value.none (.str (.ofString "law_xh0008_01") 304) Option.none (.ref 105) Value.none 0)) (List.toArray [])),
   (110, (Obj.mk (.type "code") Option.none (Data.fields (List.toArray [(.str (.ofString "_law_chosen") 345), (.str (.ofString "_law_chosen") 346), (.str (.ofString "/claim/cut.py") 347), (.int (153 : Int) 0), (.int (3 : Int) 0), (.int (0 : Int) 0), (.int (0 : Int) 0), (.int (3 : Int) 0), (.ref 107), (.bool @Bool.true), (.int (181 : Int) 0), (.ref 108), Value.none, Value.none, Value.none, (.ref 109), (.int (348 : Int) 0), (.int (153 : Int) 0), (.str (.ofString "/claim/cut.py") 349)])) (List.toArray []))),
   (111, Obj.mk (.type "function") Option.none (PySem.Data.func (FuncData.mk (.ofString "_law_chosen") (.ofString "_law_chosen") (Arguments.mk [] [(Arg.mk (.ofString "free") Option.none (Pos.mk 153 16 153 20)), (Arg.mk (.ofString "by_lines") Option.none (Pos.mk 153 22 153 30)), (Arg.mk (.ofString "by_columns") Option.none (Pos.mk 153 32 153 42))] Option.none [] [] Option.none []) (PySem.FuncBody.stmts (topBody 16)) (topScope 16) 3 [] Value.none Value.none Value.none (.str (.ofString "law_xh0008_01") 304) Option.none (.ref 110) Value.none 0)) (List.toArray [])),
   (115, (Obj.mk (.type "code") Option.none (Data.fields (List.toArray [(.str (.ofString "law") 351), (.str (.ofString "law") 352), (.str (.ofString "/claim/cut.py") 353), (.int (167 : Int) 0), (.int (1 : Int) 0), (.int (0 : Int) 0), (.int (0 : Int) 0), (.int (3 : Int) 0), (.ref 112), (.bool @Bool.true), (.int (181 : Int) 0), (.ref 113), Value.none, Value.none, Value.none, (.ref 114), (.int (354 : Int) 0), (.int (167 : Int) 0), (.str (.ofString "/claim/cut.py") 355)])) (List.toArray []))),
   (116, Obj.mk (.type "function") Option.none (PySem.Data.func (FuncData.mk (.ofString "law") (.ofString "law") (Arguments.mk [] [(Arg.mk (.ofString "script") Option.none (Pos.mk 167 8 167 14))] Option.none [] [] Option.none []) (PySem.FuncBody.stmts (topBody 17)) (topScope 17) 3 [] Value.none Value.none Value.none (.str (.ofString "law_xh0008_01") 304) Option.none (.ref 115) Value.none 0)) (List.toArray []))]
noncomputable def K0as : List Addr := [3, 27, 28, 34, 35, 37, 38, 48, 49, 55, 56, 62, 63, 69, 70, 76, 77, 83, 84, 88, 89, 95, 96, 100, 101, 105, 106, 110, 111, 115, 116]
noncomputable def hook : Hook := kHook K0 K0as (fun _ => rfl)
/-- what the written part of the state says of the class -/
def KAll (K : Frag) : Prop := ∃ (C fI fC : Addr) (fdI fdC : FuncData), nsIn K mainGlobals "TupleComp" = some (some (.ref C)) ∧ ClsOk K C fI fC ∧ keepIn K (.ref C) = true ∧
    MethK K 0 [(selfName, 0), (selName, 1)] fI fdI ∧ MethK K 1 ps_cmp fC fdC
theorem kall {K : Frag} {h : Heap} (_ : K.In h) (p : KAll K) : KAll K := p
theorem bu_of {K : Frag} {h : Heap} {mg mb : Str → Option Value} (KX : K.In h) (g : h.Ns mainGlobals mg) (b : h.Ns builtinsNs mb) {x : Str} {v : Value} (e : nsIn K mainGlobals x = some none) (eb : mb x = some v) : BuiltAt h x v := ⟨mg, mb, g, mg_none_of KX g e, b, eb⟩
end Mine
end
open PySem PySem.W PyProof.Rows Mine
set_option maxRecDepth 100000 in
set_option maxHeartbeats 8000000 in
theorem PySem.Challenge.cw_xh0008_01_holds : PySem.Challenge.rw_xh0008_01.Holds := by
  (w_on; refine holds_law (by kernel_rfl) fun said => ?_; refine holds_open (q := Mine.view) (loose := []) (Xt := fun s => xlAt Mine.view [] s && recOk (RowW.records (OpenRow.toRowW PySem.Challenge.rw_xh0008_01.row)) s) (XP := XL Mine.view []) (Yf := Hook.obs Mine.hook) (Ya := Hook.val Mine.hook) (YP := Hook.says Mine.hook) (N := 1478) ?hl (Hook.of Mine.hook) (Hook.keeps Mine.hook) (fun s e => xl_of s (Bool.and_eq_true_iff.mp e).1) XL.keeps (by rfl) (by rfl) (by rfl) (fun s e => recFacts_of (Bool.and_eq_true_iff.mp e).2) (by rfl) (by first | assumption | decide +kernel) (by decide +kernel) ⟨rfl, rfl, rfl, rfl, rfl, by decide +kernel⟩ ?hw ?hc; (case hl => intro w; kernel_rfl); (case hw => w_witness2); w_strict (
    intro w s₀ s₁ mg mb G Y fa o pm cd doc dV kV ho hd' hcd hD hmg hg args vals as hpre hlay hrd hwl hlo
    have KX := kIn_of Y
    refine Ground.open G ?_
    intro T B D TE TW
    wrow_args hpre hlay hrd hwl hlo
    rename_i ns hs hlay0 hL1 hr1 hl2 w4 w3 l vals' w0 hL ra w1 r0 hI hr hc hc'
    have hlen : ns.length ≤ 63 := by omega
    have bu := fun (x : Str) (v : Value) e (hn : x ≠ "__name__") (hv : bootBuiltins x = some v) => bu_of KX T.g T.b (x := x) (v := v) e ((T.builtins x hn).trans hv)
    obtain ⟨C, fI, fC, fdI, fdC, eM, ok, hk, kI, kC⟩ := kall KX ⟨_, _, _, _, _, rfl, ⟨rfl, rfl, rfl, rfl, rfl, rfl, rfl, rfl, rfl, rfl, rfl, rfl⟩, rfl, ⟨⟨_, _, _, rfl⟩, rfl, rfl, rfl, rfl, rfl, rfl, fun vals h => match vals, h with | [a, b], _ => rfl⟩, ⟨⟨_, _, _, rfl⟩, rfl, rfl, rfl, rfl, rfl, rfl, fun vals h => match vals, h with | [a, b, c], _ => rfl⟩⟩
    have rep := arg_rep (C := C) w1 hL hI
    let gd : Mine.Gd := ⟨PySem.Challenge.rw_xh0008_01.prog, w, C, s₁.heap⟩
    have c : Mine.Ctx gd := ⟨bu _ _ rfl (by decide) rfl, bu _ _ rfl (by decide) rfl, bu _ _ rfl (by decide) rfl, bu _ _ rfl (by decide) rfl, bu _ _ rfl (by decide) rfl, bu _ _ rfl (by decide) rfl, bu _ _ rfl (by decide) rfl, bu _ _ rfl (by decide) rfl, bu _ _ rfl (by decide) rfl, bu _ _ rfl (by decide) rfl, bu _ _ rfl (by decide) rfl, bu _ _ rfl (by decide) rfl, bu _ _ rfl (by decide) rfl, bu _ _ rfl (by decide) rfl⟩
    have P1 := law_prim (G := gd) (fC := fC) c KX T.g T.nolimit ok (kC.ok KX cls20 cls21 cls22) kC.scope kC.bind (make_prim KX T.nolimit ok kI) hk eM (mg_of KX T.g rfl)
      ⟨rfl, ⟨_, _, _, rfl⟩, rfl, rfl, rfl, rfl, rfl, rfl, fun vals h => match vals, h with | [a, b, c], _ => rfl⟩
      ⟨rfl, ⟨_, _, _, rfl⟩, rfl, rfl, rfl, rfl, rfl, rfl, fun vals h => match vals, h with | [a, b, c], _ => rfl⟩
      ⟨rfl, ⟨_, _, _, rfl⟩, rfl, rfl, rfl, rfl, rfl, rfl, fun vals h => match vals, h with | [a], _ => rfl⟩
      ⟨rfl, ⟨_, _, _, rfl⟩, rfl, rfl, rfl, rfl, rfl, rfl, fun vals h => match vals, h with | [a], _ => rfl⟩
      ⟨rfl, ⟨_, _, _, rfl⟩, rfl, rfl, rfl, rfl, rfl, rfl, fun vals h => match vals, h with | [a], _ => rfl⟩
      ⟨rfl, ⟨_, _, _, rfl⟩, rfl, rfl, rfl, rfl, rfl, rfl, fun vals h => match vals, h with | [a], _ => rfl⟩
      ⟨rfl, ⟨_, _, _, rfl⟩, rfl, rfl, rfl, rfl, rfl, rfl, fun vals h => match vals, h with | [a, b], _ => rfl⟩
      ⟨rfl, ⟨_, _, _, rfl⟩, rfl, rfl, rfl, rfl, rfl, rfl, fun vals h => match vals, h with | [a], _ => rfl⟩
      ⟨rfl, ⟨_, _, _, rfl⟩, rfl, rfl, rfl, rfl, rfl, rfl, fun vals h => match vals, h with | [a], _ => rfl⟩
      ⟨rfl, ⟨_, _, _, rfl⟩, rfl, rfl, rfl, rfl, rfl, rfl, fun vals h => match vals, h with | [a, b], _ => rfl⟩
      ⟨rfl, ⟨_, _, _, rfl⟩, rfl, rfl, rfl, rfl, rfl, rfl, fun vals h => match vals, h with | [a, b, c], _ => rfl⟩
      ⟨rfl, ⟨_, _, _, rfl⟩, rfl, rfl, rfl, rfl, rfl, rfl, fun vals h => match vals, h with | [a], _ => rfl⟩
    have hfa : Value.ref fa = _ := Option.some.inj (hmg.symm.trans (mg_of (n := "law") KX T.g rfl))
    cases hfa
    refine wpAny_mono (P1 callerA [] s₁ [.ref l] [.list (ns.map .int)] (.bool true) ⟨rfl, by decide, by decide⟩ ⟨fun _ _ e => e, Nat.le_refl _⟩ (fun _ h => nomatch h) (.cons rep .nil) (plain_law ns hlen)) (fun v s' hx => ?_) (fun _ _ f => f.elim)
    obtain ⟨x, r⟩ := hx
    cases r
    exact ⟨.inl ⟨_, .bool true, [], rfl, fun cls => rfl, .bool true, post_ok _, fun _ => ⟨List.nodup_nil, fun _ h => nomatch h⟩⟩, .of_keep x.keep, x.os, x.bare (by rw [hg]; exact bare_empty)⟩))
