import PyProof.Rows.All
import Wide.All
import OpenK.AllK
import Wide.FinOn
import Lean
import PySem.Challenge.RW_dm0161_03
set_option Elab.async false
set_option linter.unusedVariables false

section
open PySem PyProof.Rows
namespace Mine

/-! ### pure values, and what stands for them -/
inductive PV where
  | none
  | bool (b : Bool)
  | int (i : Int)
  | str (x : Str)
  | list (xs : List PV)
  | tuple (xs : List PV)
  | range (a b c : Int)
  | raw (os : List (Addr × Obj)) (v : Value)
  | obj (T : String) (xs : List PV)

/-- a code object or its table -/
noncomputable def Obj.codeLike (o : Obj) : Prop := (o.cls = .none ∨ o.cls = .type "code") ∧ ∃ vs, o.data = .fields vs
theorem Obj.notCode_cls {o : Obj} {T : String} (h : o.cls = .type T) (hT : T ≠ "code") : ¬ Obj.codeLike o := fun q => by
  rcases q.1 with e | e
  · rw [h] at e; cases e
  · rw [h] at e; injection e with e; exact hT e

/-- an iterator -/
noncomputable def Obj.iterLike (o : Obj) : Prop := (∃ T ∈ ["list_iterator", "tuple_iterator", "range_iterator", "str_iterator", "str_ascii_iterator"], o.cls = .type T) ∧ ∃ vs, o.data = .fields vs
/-- what a value may be made of -/
noncomputable def Obj.val (o : Obj) : Prop := ¬ Obj.codeLike o ∧ ¬ Obj.iterLike o
theorem Obj.val_cls {o : Obj} {T : String} (h : o.cls = .type T) (hT : (T != "code" && !["list_iterator", "tuple_iterator", "range_iterator", "str_iterator", "str_ascii_iterator"].contains T) = true) : Obj.val o := by
  simp only [Bool.and_eq_true, bne_iff_ne, ne_eq, Bool.not_eq_true'] at hT
  refine ⟨Obj.notCode_cls h hT.1, fun ⟨⟨T', hm, e⟩, _⟩ => ?_⟩
  rw [h] at e; injection e with e
  subst e
  rw [List.contains_iff_mem.mpr hm] at hT
  exact absurd hT.2 (by simp)

mutual
noncomputable def Rep (h : Heap) (P : Addr → Prop) : PV → Value → Prop
  | .none, v => v = .none
  | .bool b, v => v = .bool b
  | .int i, v => ∃ t, v = .int i t
  | .str x, v => (∃ t, v = .str x t) ∧ x.length ≤ sizeLine
  | .list ds, v => ∃ a vs n, v = .ref a ∧ P a ∧ IsL h a vs n ∧ RepAll h P ds vs.toList ∧ ds.length ≤ sizeLine
  | .tuple ds, v => ∃ a vs n, v = .ref a ∧ P a ∧ IsT h a vs n ∧ RepAll h P ds vs.toList ∧ ds.length ≤ sizeLine
  | .range a b c, v => ∃ x t u w, v = .ref x ∧ P x ∧ IsRange h x a b c t u w
  | .raw os w, v => v = w ∧ ∀ p ∈ os, P p.1 ∧ Obj.val p.2 ∧ h.get? p.1 = some p.2
  | .obj T ds, v => ∃ a vs, v = .ref a ∧ P a ∧ (T != "code" && !["list_iterator", "tuple_iterator", "range_iterator", "str_iterator", "str_ascii_iterator"].contains T) = true ∧
      h.get? a = some { cls := .type T, dict := none, data := .fields vs, slots := #[] } ∧ RepAll h P ds vs.toList
noncomputable def RepAll (h : Heap) (P : Addr → Prop) : List PV → List Value → Prop
  | [], vs => vs = []
  | d :: ds, vs => ∃ v r, vs = v :: r ∧ Rep h P d v ∧ RepAll h P ds r
end

theorem Obj.notCode_list {vs : Array Value} {n : Nat} : ¬ Obj.codeLike { cls := .type "list", dict := none, data := .seq vs n, slots := #[] } := Obj.notCode_cls (T := "list") rfl (by decide)
theorem Obj.notCode_tuple {vs : Array Value} {n : Nat} : ¬ Obj.codeLike { cls := .type "tuple", dict := none, data := .seq vs n, slots := #[] } := Obj.notCode_cls (T := "tuple") rfl (by decide)
mutual
theorem Rep.mono {h h' : Heap} {P P' : Addr → Prop} (hk : ∀ b o, h.get? b = some o → Obj.val o → P b → P' b ∧ h'.get? b = some o) :
    ∀ (d : PV) (v : Value), Rep h P d v → Rep h' P' d v
  | .none, v, r => by simpa only [Rep] using r
  | .bool b, v, r => by simpa only [Rep] using r
  | .int i, v, r => by simpa only [Rep] using r
  | .str x, v, r => by simpa only [Rep] using r
  | .list ds, v, r => by
    simp only [Rep] at r ⊢
    obtain ⟨a, vs, n, e, p, l, q, z⟩ := r
    have := hk a _ l (Obj.val_cls (T := "list") rfl (by decide)) p
    exact ⟨a, vs, n, e, this.1, this.2, RepAll.mono hk ds _ q, z⟩
  | .tuple ds, v, r => by
    simp only [Rep] at r ⊢
    obtain ⟨a, vs, n, e, p, l, q, z⟩ := r
    have := hk a _ l (Obj.val_cls (T := "tuple") rfl (by decide)) p
    exact ⟨a, vs, n, e, this.1, this.2, RepAll.mono hk ds _ q, z⟩
  | .range a b c, v, r => by
    simp only [Rep] at r ⊢
    obtain ⟨x, t, u, w, e, p, l⟩ := r
    have := hk x _ l (Obj.val_cls (T := "range") rfl (by decide)) p
    exact ⟨x, t, u, w, e, this.1, this.2⟩
  | .raw os w, v, r => by
    simp only [Rep] at r ⊢
    exact ⟨r.1, fun p hp => let ⟨a, b, c⟩ := r.2 p hp; let q := hk _ _ c b a; ⟨q.1, b, q.2⟩⟩
  | .obj T ds, v, r => by
    simp only [Rep] at r ⊢
    obtain ⟨a, vs, e, p, ht, l, q⟩ := r
    have := hk a _ l (Obj.val_cls (T := T) rfl ht) p
    exact ⟨a, vs, e, this.1, ht, this.2, RepAll.mono hk ds _ q⟩
theorem RepAll.mono {h h' : Heap} {P P' : Addr → Prop} (hk : ∀ b o, h.get? b = some o → Obj.val o → P b → P' b ∧ h'.get? b = some o) :
    ∀ (ds : List PV) (vs : List Value), RepAll h P ds vs → RepAll h' P' ds vs
  | [], vs, r => by simpa only [RepAll] using r
  | d :: ds, vs, r => by
    simp only [RepAll] at r ⊢
    obtain ⟨v, r', e, a, b⟩ := r
    exact ⟨v, r', e, Rep.mono hk d _ a, RepAll.mono hk ds _ b⟩
end

theorem Rep.weak {h : Heap} {P P' : Addr → Prop} (hp : ∀ a, P a → P' a) {d : PV} {v : Value} (r : Rep h P d v) : Rep h P' d v :=
  Rep.mono (fun b _ e _ p => ⟨hp b p, e⟩) d v r
theorem RepAll.weak {h : Heap} {P P' : Addr → Prop} (hp : ∀ a, P a → P' a) {d : List PV} {v : List Value} (r : RepAll h P d v) : RepAll h P' d v :=
  RepAll.mono (fun b _ e _ p => ⟨hp b p, e⟩) d v r

theorem RepAll.length {h : Heap} {P : Addr → Prop} : ∀ {ds : List PV} {vs : List Value}, RepAll h P ds vs → vs.length = ds.length
  | [], vs, r => by simp only [RepAll] at r; subst r; rfl
  | d :: ds, vs, r => by
    simp only [RepAll] at r
    obtain ⟨v, r', e, _, b⟩ := r
    subst e
    simp only [List.length_cons, RepAll.length b]
theorem RepAll.get {h : Heap} {P : Addr → Prop} : ∀ {ds : List PV} {vs : List Value}, RepAll h P ds vs → ∀ {i : Nat} {d : PV}, ds[i]? = some d → ∃ v, vs[i]? = some v ∧ Rep h P d v
  | [], vs, _, i, d, e => by simp at e
  | d :: ds, vs, r, i, d', e => by
    simp only [RepAll] at r
    obtain ⟨v, r', rfl, a, b⟩ := r
    cases i with
    | zero => simp at e; subst e; exact ⟨v, by simp, a⟩
    | succ i => simpa using RepAll.get b (i := i) (d := d') (by simpa using e)
theorem RepAll.get' {h : Heap} {P : Addr → Prop} : ∀ {ds : List PV} {vs : List Value}, RepAll h P ds vs → ∀ {i : Nat} {v : Value}, vs[i]? = some v → ∃ d, ds[i]? = some d ∧ Rep h P d v
  | [], vs, r, i, d, e => by simp only [RepAll] at r; subst r; simp at e
  | d :: ds, vs, r, i, d', e => by
    simp only [RepAll] at r
    obtain ⟨v, r', rfl, a, b⟩ := r
    cases i with
    | zero => simp at e; subst e; exact ⟨d, by simp, a⟩
    | succ i => simpa using RepAll.get' b (i := i) (v := d') (by simpa using e)
theorem RepAll.append {h : Heap} {P : Addr → Prop} : ∀ {ds es : List PV} {vs us : List Value}, RepAll h P ds vs → RepAll h P es us → RepAll h P (ds ++ es) (vs ++ us)
  | [], es, vs, us, r, q => by simp only [RepAll] at r; subst r; simpa using q
  | d :: ds, es, vs, us, r, q => by
    simp only [RepAll] at r
    obtain ⟨v, r', rfl, a, b⟩ := r
    simp only [List.cons_append, RepAll]
    exact ⟨v, _, rfl, a, RepAll.append b q⟩
theorem RepAll.snoc {h : Heap} {P : Addr → Prop} {ds : List PV} {d : PV} {vs : List Value} {v : Value} (r : RepAll h P ds vs) (q : Rep h P d v) : RepAll h P (ds ++ [d]) (vs ++ [v]) :=
  r.append (by simp only [RepAll]; exact ⟨v, [], rfl, q, rfl⟩)
theorem RepAll.take {h : Heap} {P : Addr → Prop} : ∀ {ds : List PV} {vs : List Value} (k : Nat), RepAll h P ds vs → RepAll h P (ds.take k) (vs.take k)
  | [], vs, k, r => by simp only [RepAll] at r; subst r; simp [RepAll]
  | d :: ds, vs, 0, r => by simp [RepAll]
  | d :: ds, vs, k + 1, r => by
    simp only [RepAll] at r
    obtain ⟨v, r', rfl, a, b⟩ := r
    simp only [List.take_succ_cons, RepAll]
    exact ⟨v, _, rfl, a, RepAll.take k b⟩
theorem RepAll.drop {h : Heap} {P : Addr → Prop} : ∀ {ds : List PV} {vs : List Value} (k : Nat), RepAll h P ds vs → RepAll h P (ds.drop k) (vs.drop k)
  | [], vs, k, r => by simp only [RepAll] at r; subst r; simp [RepAll]
  | d :: ds, vs, 0, r => by simpa using r
  | d :: ds, vs, k + 1, r => by
    simp only [RepAll] at r
    obtain ⟨v, r', rfl, a, b⟩ := r
    simpa using RepAll.drop k b
theorem RepAll.nil {h : Heap} {P : Addr → Prop} : RepAll h P [] [] := by simp [RepAll]
theorem RepAll.cons {h : Heap} {P : Addr → Prop} {d : PV} {ds : List PV} {v : Value} {vs : List Value} (a : Rep h P d v) (b : RepAll h P ds vs) : RepAll h P (d :: ds) (v :: vs) := by
  simp only [RepAll]; exact ⟨v, vs, rfl, a, b⟩
theorem RepAll.one {h : Heap} {P : Addr → Prop} {d : PV} {v : Value} (a : Rep h P d v) : RepAll h P [d] [v] := .cons a .nil

/-- no object in it -/
noncomputable def PV.flat : PV → Bool
  | .none | .bool _ | .int _ | .str _ => true
  | _ => false
theorem Rep.flat {h h' : Heap} {P P' : Addr → Prop} {d : PV} {v : Value} (hf : d.flat = true) (r : Rep h P d v) : Rep h' P' d v := by
  cases d <;> simp_all [PV.flat, Rep]

/-! ### the world of a law -/
structure Wo where
  prog : Program
  w : World
  h₁ : Heap
  os₁ : OsState
  Tb : Addr → Prop
  TabOk : Heap → Prop
  tabKeeps : ∀ h h', TabOk h → (∀ b o, h.get? b = some o → Obj.codeLike o → h'.get? b = some o) → TabOk h'

noncomputable abbrev Wo.M (G : Wo) : Model := model G.prog G.w

structure Wd (G : Wo) (s : Shared) : Prop where
  old : ∀ b o, G.h₁.get? b = some o → ¬ G.Tb b → s.heap.get? b = some o
  tab : G.TabOk s.heap
  tb : ∀ b, G.Tb b → ∃ o, s.heap.get? b = some o ∧ Obj.codeLike o
  os : s.os = G.os₁
  gens : AllBare s.gens

/-- from s to s' nothing has changed but what X names (and the code tables) -/
structure Evo (G : Wo) (X : Addr → Prop) (s s' : Shared) : Prop where
  keep : ∀ b o, s.heap.get? b = some o → ¬ G.Tb b → ¬ X b → s'.heap.get? b = some o
  wd : Wd G s → Wd G s'

noncomputable abbrev Ext (G : Wo) (s s' : Shared) : Prop := Evo G (fun _ => False) s s'

theorem Evo.refl {G : Wo} {X : Addr → Prop} {s : Shared} : Evo G X s s := ⟨fun _ _ e _ _ => e, id⟩
theorem Evo.trans {G : Wo} {X : Addr → Prop} {s s' s'' : Shared} (a : Evo G X s s') (b : Evo G X s' s'') : Evo G X s s'' :=
  ⟨fun x o e t n => b.keep x o (a.keep x o e t n) t n, fun h => b.wd (a.wd h)⟩
theorem Evo.weak {G : Wo} {X Y : Addr → Prop} {s s' : Shared} (a : Evo G X s s') (h : ∀ b, X b → Y b) : Evo G Y s s' :=
  ⟨fun x o e t n => a.keep x o e t (fun q => n (h x q)), a.wd⟩
theorem Ext.evo {G : Wo} {X : Addr → Prop} {s s' : Shared} (a : Ext G s s') : Evo G X s s' := a.weak (fun _ h => h.elim)

theorem Wd.keeps {G : Wo} {s : Shared} {h' : Heap} {tk : Nat} (x : Wd G s) (hk : ∀ b o, s.heap.get? b = some o → h'.get? b = some o) : Wd G { s with heap := h', toks := tk } :=
  ⟨fun b o e t => hk b o (x.old b o e t), G.tabKeeps _ _ x.tab (fun b o e _ => hk b o e), fun b t => let ⟨o, e, c⟩ := x.tb b t; ⟨o, hk b o e, c⟩, x.os, x.gens⟩
theorem Ext.of {G : Wo} {s : Shared} {h' : Heap} {tk : Nat} (hk : ∀ b o, s.heap.get? b = some o → h'.get? b = some o) : Ext G s { s with heap := h', toks := tk } :=
  ⟨fun b o e _ _ => hk b o e, fun x => x.keeps hk⟩
theorem Ext.tok {G : Wo} {s : Shared} {tk : Nat} : Ext G s { s with toks := tk } := Ext.of (h' := s.heap) fun _ _ e => e
theorem Ext.push {G : Wo} {s : Shared} {o : Obj} {tk : Nat} : Ext G s { s with heap := s.heap.push o, toks := tk } := Ext.of fun _ _ e => Heap.get?_push_of_some o e
theorem Ext.push' {G : Wo} {s : Shared} {o : Obj} : Ext G s { s with heap := s.heap.push o } := Ext.of (tk := s.toks) fun _ _ e => Heap.get?_push_of_some o e

/-- one object, no code and none of the law's start, is changed -/
theorem Evo.but {G : Wo} {X : Addr → Prop} {s : Shared} {a : Addr} {h' : Heap} {tk : Nat} (hs : ∀ b o, b ≠ a → s.heap.get? b = some o → h'.get? b = some o) (hX : X a)
    (hold : G.h₁.get? a = none) (hc : ∀ o, s.heap.get? a = some o → ¬ Obj.codeLike o) : Evo G X s { s with heap := h', toks := tk } := by
  refine ⟨fun b o e _ n => hs b o (fun q => n (q ▸ hX)) e, fun x => ⟨fun b o e t => ?_, ?_, fun b t => ?_, x.os, x.gens⟩⟩
  · refine hs b o (fun q => ?_) (x.old b o e t)
    rw [q, hold] at e; cases e
  · refine G.tabKeeps _ _ x.tab (fun b o e q => hs b o (fun r => ?_) e)
    subst r
    exact hc o e q
  · obtain ⟨o, e, c⟩ := x.tb b t
    refine ⟨o, hs b o (fun r => ?_) e, c⟩
    subst r
    exact hc o e c

theorem Wd.notTb {G : Wo} {s : Shared} (x : Wd G s) {b : Addr} {o : Obj} (e : s.heap.get? b = some o) (hc : ¬ Obj.codeLike o) : ¬ G.Tb b := fun t => by
  obtain ⟨o', e', c⟩ := x.tb b t
  rw [e] at e'; cases e'; exact hc c

/-- what a value is made of is no code table -/
theorem Rep.evo {G : Wo} {X P : Addr → Prop} {s s' : Shared} (x : Wd G s) (ev : Evo G X s s') (hX : ∀ b, P b → ¬ X b) {d : PV} {v : Value} (r : Rep s.heap P d v) : Rep s'.heap P d v :=
  Rep.mono (fun b o e q p => ⟨p, ev.keep b o e (x.notTb e q.1) (hX b p)⟩) d v r
theorem RepAll.evo {G : Wo} {X P : Addr → Prop} {s s' : Shared} (x : Wd G s) (ev : Evo G X s s') (hX : ∀ b, P b → ¬ X b) {ds : List PV} {vs : List Value} (r : RepAll s.heap P ds vs) : RepAll s'.heap P ds vs :=
  RepAll.mono (fun b o e q p => ⟨p, ev.keep b o e (x.notTb e q.1) (hX b p)⟩) ds vs r
theorem Rep.ext {G : Wo} {P : Addr → Prop} {s s' : Shared} (x : Wd G s) (ev : Ext G s s') {d : PV} {v : Value} (r : Rep s.heap P d v) : Rep s'.heap P d v := r.evo x ev (fun _ _ h => h)
theorem RepAll.ext {G : Wo} {P : Addr → Prop} {s s' : Shared} (x : Wd G s) (ev : Ext G s s') {d : List PV} {v : List Value} (r : RepAll s.heap P d v) : RepAll s'.heap P d v := r.evo x ev (fun _ _ h => h)
end Mine
end

section
open PySem PyProof.Rows
namespace Mine

/-! ### a frame -/
structure Cx where
  G : Wo
  env : Env
  h₀ : Heap
  P : Addr → Prop
  mc : List Addr
  own : List Str
  rk : Nat
  comp : Bool
  av : List Addr

noncomputable abbrev Cx.L (c : Cx) : Addr := c.env.locals
noncomputable abbrev Cx.M (c : Cx) : Model := model c.G.prog c.G.w

structure Cx.Ok (c : Cx) : Prop where
  kind : c.env.scope.kind = .function
  glob : c.env.globals = mainGlobals
  blt : c.env.builtins = builtinsNs
  Lnew : c.h₀.get? c.env.locals = none
  mcnew : ∀ a ∈ c.mc, c.h₀.get? a = none
  fresh : ∀ a, c.h₀.get? a = none → c.P a
  tb : ∀ a, c.G.Tb a → ∃ o, c.h₀.get? a = some o
  old : ∀ a o, c.G.h₁.get? a = some o → ∃ o, c.h₀.get? a = some o
  cellMc : ∀ x, c.env.kindOf x = some .cell → c.comp = false → ∃ a ∈ c.mc, c.env.cells.lookup x = some a
  ownNe : Str.empty ∉ c.own
  avX : ∀ a ∈ c.av, ¬ (a = c.env.locals ∨ a ∈ c.mc)
  apart : c.comp = false → c.env.cells.Pairwise fun x y => x.2 ≠ y.2

noncomputable abbrev Env1 := List (Str × PV)
noncomputable abbrev Own1 := List (Str × Addr)

noncomputable def LocalIs (s : Shared) (L : Addr) (x : Str) (v : Value) : Prop := ∃ m, s.heap.Ns L m ∧ m x = some v
noncomputable def VarAt (c : Cx) (s : Shared) (x : Str) (v : Value) : Prop :=
  (c.env.kindOf x = some .local ∧ LocalIs s c.L x v) ∨
  ((c.env.kindOf x = some .cell ∨ c.env.kindOf x = some .free) ∧ ∃ a, c.env.cells.lookup x = some a ∧ s.heap.IsCell a (some v))

/-- not the frame's own things -/
noncomputable def Cx.N (c : Cx) : Addr → Prop := fun a => c.P a ∧ a ≠ c.L ∧ a ∉ c.mc ∧ a ∉ c.av
noncomputable def Cx.Q (c : Cx) (T : Own1) : Addr → Prop := fun a => c.N a ∧ ∀ p ∈ T, a ≠ p.2
noncomputable def Cx.Qb (c : Cx) (T : Own1) (b : Bool) : Addr → Prop := fun a => c.N a ∧ (b = true → ∀ p ∈ T, a ≠ p.2)
noncomputable def Cx.X (c : Cx) (T : Own1) : Addr → Prop := fun a => a = c.L ∨ a ∈ c.mc ∨ ∃ p ∈ T, a = p.2

noncomputable def OwnRep (c : Cx) (T : Own1) (s : Shared) (x : Str) (d : PV) (v : Value) : Prop :=
  ∃ a ds vs n, d = .list ds ∧ v = .ref a ∧ T.lookup x = some a ∧ IsL s.heap a vs n ∧ RepAll s.heap (c.Q T) ds vs.toList ∧ ds.length ≤ sizeLine

structure St (c : Cx) (ρ : Env1) (T : Own1) (s : Shared) : Prop where
  wd : Wd c.G s
  keep0 : ∀ b o, c.h₀.get? b = some o → ¬ c.G.Tb b → s.heap.get? b = some o
  ns : ∃ m, s.heap.Ns c.L m
  mcs : ∀ a ∈ c.mc, ∃ v, s.heap.IsCell a v
  vars : ∀ x d, ρ.lookup x = some d → ∃ v, VarAt c s x v ∧ (x ∈ c.own → OwnRep c T s x d v) ∧ (x ∉ c.own → Rep s.heap (c.Q T) d v)
  own : ∀ p ∈ T, c.h₀.get? p.2 = none ∧ ∃ vs n, IsL s.heap p.2 vs n
  nodup : T.Pairwise fun p q => p.2 ≠ q.2
  avs : ∀ a ∈ c.av, ∃ o, s.heap.get? a = some o ∧ ∀ vs n, o.data ≠ .seq vs n

theorem Cx.Q_iff {c : Cx} {T : Own1} {a : Addr} : c.Q T a ↔ c.Qb T true a := by simp [Cx.Q, Cx.Qb]
theorem Cx.Qb_of {c : Cx} {T : Own1} {b : Bool} {a : Addr} (h : c.Q T a) : c.Qb T b a := ⟨h.1, fun _ => h.2⟩
theorem Cx.Qb_false {c : Cx} {T : Own1} {b : Bool} {a : Addr} (h : c.Qb T b a) : c.Qb T false a := ⟨h.1, fun e => by cases e⟩

theorem not_codeLike_dict {o : Obj} {es ep} (h : o.data = .dict es ep) : ¬ Obj.codeLike o := fun ⟨_, _, e⟩ => by rw [h] at e; cases e
theorem not_codeLike_cell {o : Obj} {v} (h : o.data = .cell v) : ¬ Obj.codeLike o := fun ⟨_, _, e⟩ => by rw [h] at e; cases e

theorem Wd.ns_keep {G : Wo} {X : Addr → Prop} {s s' : Shared} {L : Addr} {m} (x : Wd G s) (e : Evo G X s s') (hX : ¬ X L) (h : s.heap.Ns L m) : s'.heap.Ns L m := by
  obtain ⟨o, es, ep, ho, hd, r⟩ := h
  exact ⟨o, es, ep, e.keep _ _ ho (x.notTb ho (not_codeLike_dict hd)) hX, hd, r⟩
theorem Wd.cell_keep {G : Wo} {X : Addr → Prop} {s s' : Shared} {a : Addr} {v} (x : Wd G s) (e : Evo G X s s') (hX : ¬ X a) (h : s.heap.IsCell a v) : s'.heap.IsCell a v := by
  obtain ⟨o, ho, hd⟩ := h
  exact ⟨o, e.keep _ _ ho (x.notTb ho (not_codeLike_cell hd)) hX, hd⟩
theorem Wd.list_keep {G : Wo} {X : Addr → Prop} {s s' : Shared} {a : Addr} {vs n} (x : Wd G s) (e : Evo G X s s') (hX : ¬ X a) (h : IsL s.heap a vs n) : IsL s'.heap a vs n :=
  e.keep _ _ h (x.notTb h Obj.notCode_list) hX
theorem Wd.alive_keep {G : Wo} {X : Addr → Prop} {s s' : Shared} {a : Addr} {o : Obj} (x : Wd G s) (e : Evo G X s s') (hX : ¬ X a) (ho : s.heap.get? a = some o) (q : ∀ vs n, o.data ≠ .seq vs n) : ∃ o, s'.heap.get? a = some o ∧ ∀ vs n, o.data ≠ .seq vs n := by
  by_cases t : G.Tb a
  · obtain ⟨o', h1, _, vs, h2⟩ := (e.wd x).tb a t
    exact ⟨o', h1, fun vs' n r => by rw [h2] at r; cases r⟩
  · exact ⟨o, e.keep a o ho t hX, q⟩
theorem St.ext {c : Cx} {ρ : Env1} {T : Own1} {s s' : Shared} (x : St c ρ T s) (e : Ext c.G s s') : St c ρ T s' where
  wd := e.wd x.wd
  keep0 := fun b o h t => e.keep b o (x.keep0 b o h t) t (fun h => h)
  ns := let ⟨m, h⟩ := x.ns; ⟨m, x.wd.ns_keep e (fun h => h) h⟩
  mcs := fun a h => let ⟨v, h⟩ := x.mcs a h; ⟨v, x.wd.cell_keep e (fun h => h) h⟩
  vars := fun y d h => by
    obtain ⟨v, h1, h2, h3⟩ := x.vars y d h
    refine ⟨v, ?_, fun q => ?_, fun q => (h3 q).ext x.wd e⟩
    · rcases h1 with ⟨k, m, h, hm⟩ | ⟨k, a, h, hc⟩
      · exact .inl ⟨k, m, x.wd.ns_keep e (fun h => h) h, hm⟩
      · exact .inr ⟨k, a, h, x.wd.cell_keep e (fun h => h) hc⟩
    · obtain ⟨a, ds, vs, n, e1, e2, e3, e4, e5, e6⟩ := h2 q
      exact ⟨a, ds, vs, n, e1, e2, e3, x.wd.list_keep e (fun h => h) e4, e5.ext x.wd e, e6⟩
  own := fun p h => let ⟨a, vs, n, l⟩ := x.own p h; ⟨a, vs, n, x.wd.list_keep e (fun h => h) l⟩
  nodup := x.nodup
  avs := fun a h => let ⟨o, ho, q⟩ := x.avs a h; (x.wd.alive_keep e (fun h => h) ho q).imp fun _ r => r

/-- fewer variables -/
noncomputable def SubEnv (ρ ρ' : Env1) : Prop := ∀ x d, ρ.lookup x = some d → ρ'.lookup x = some d
theorem St.sub {c : Cx} {ρ ρ' : Env1} {T : Own1} {s : Shared} (x : St c ρ' T s) (h : SubEnv ρ ρ') : St c ρ T s :=
  ⟨x.wd, x.keep0, x.ns, x.mcs, fun y d e => x.vars y d (h y d e), x.own, x.nodup, x.avs⟩

/-- room left: depth, C units, no exception being handled -/
structure AOk (k : Nat) (A : Around) : Prop where
  handled : A.handled = none
  depth : A.depth + k ≤ 690
  units : A.units + 20 * k ≤ 9000

/-- an expression comes to the datum d, nothing old is changed -/
structure Ev (c : Cx) (ρ : Env1) (b : Bool) (e : Expr) (d : PV) : Prop where
  run : ∀ (A : Around) (T : Own1) (s : Shared), AOk c.rk A → St c ρ T s →
    wpAny c.M A (eval e c.env) (fun v s' => Ext c.G s s' ∧ Rep s'.heap (c.Qb T b) d v) (fun _ _ => False) s
/-- it comes to a list or a tuple whose items are so -/
structure EvS (c : Cx) (ρ : Env1) (e : Expr) (ds : List PV) : Prop where
  run : ∀ (A : Around) (T : Own1) (s : Shared), AOk c.rk A → St c ρ T s →
    wpAny c.M A (eval e c.env) (fun v s' => Ext c.G s s' ∧ ∃ a vs n, v = .ref a ∧ IsL s'.heap a vs n ∧ RepAll s'.heap (c.Q T) ds vs.toList ∧ ds.length ≤ sizeLine) (fun _ _ => False) s
/-- it comes to a list that nothing else knows of -/
structure EvF (c : Cx) (ρ : Env1) (e : Expr) (ds : List PV) : Prop where
  run : ∀ (A : Around) (T : Own1) (s : Shared), AOk c.rk A → St c ρ T s →
    wpAny c.M A (eval e c.env) (fun v s' => Ext c.G s s' ∧ ∃ a vs n, v = .ref a ∧ s.heap.get? a = none ∧ IsL s'.heap a vs n ∧
      RepAll s'.heap (fun x => c.Q T x ∧ x ≠ a) ds vs.toList ∧ ds.length ≤ sizeLine) (fun _ _ => False) s
structure IsT1 (c : Cx) (ρ : Env1) (e : Expr) (t : Bool) : Prop where
  run : ∀ (A : Around) (T : Own1) (s : Shared), AOk c.rk A → St c ρ T s →
    wpAny c.M A (isTrue e c.env (eval e c.env)) (fun v s' => Ext c.G s s' ∧ v = t) (fun _ _ => False) s

theorem Ev.use {c : Cx} {ρ : Env1} {b : Bool} {e : Expr} {d : PV} (h : Ev c ρ b e d) {A : Around} {T : Own1} {s : Shared} (ha : AOk c.rk A) (st : St c ρ T s) {E : Value → Shared → Prop}
    {Q : Value → Shared → Prop} (k : ∀ v s', Ext c.G s s' → St c ρ T s' → Rep s'.heap (c.Qb T b) d v → Q v s') : wpAny c.M A (eval e c.env) Q E s :=
  wpAny_mono (h.run A T s ha st) (fun v s' ⟨h1, h2⟩ => k v s' h1 (st.ext h1) h2) fun _ _ x => x.elim
theorem EvS.use {c : Cx} {ρ : Env1} {e : Expr} {d : List PV} (h : EvS c ρ e d) {A : Around} {T : Own1} {s : Shared} (ha : AOk c.rk A) (st : St c ρ T s) {E : Value → Shared → Prop}
    {Q : Value → Shared → Prop} (k : ∀ a vs n s', Ext c.G s s' → St c ρ T s' → IsL s'.heap a vs n → RepAll s'.heap (c.Q T) d vs.toList → d.length ≤ sizeLine → Q (.ref a) s') : wpAny c.M A (eval e c.env) Q E s :=
  wpAny_mono (h.run A T s ha st) (fun v s' ⟨h1, a, vs, n, e, h2, h3, h4⟩ => e ▸ k a vs n s' h1 (st.ext h1) h2 h3 h4) fun _ _ x => x.elim
theorem IsT1.use {c : Cx} {ρ : Env1} {e : Expr} {d : Bool} (h : IsT1 c ρ e d) {A : Around} {T : Own1} {s : Shared} (ha : AOk c.rk A) (st : St c ρ T s) {E : Value → Shared → Prop}
    {Q : Bool → Shared → Prop} (k : ∀ s', Ext c.G s s' → St c ρ T s' → Q d s') : wpAny c.M A (isTrue e c.env (eval e c.env)) Q E s :=
  wpAny_mono (h.run A T s ha st) (fun v s' ⟨h1, h2⟩ => h2 ▸ k s' h1 (st.ext h1)) fun _ _ x => x.elim

theorem Ev.any {c : Cx} {ρ : Env1} {b : Bool} {e : Expr} {d : PV} (h : Ev c ρ b e d) : Ev c ρ false e d := .mk fun A T s ha st =>
  h.use ha st fun _ _ ex _ r => ⟨ex, r.weak fun _ q => Cx.Qb_false q⟩
theorem Ev.seq {c : Cx} {ρ : Env1} {e : Expr} {ds : List PV} (h : Ev c ρ true e (.list ds)) : EvS c ρ e ds := .mk fun A T s ha st =>
  h.use ha st fun v s' ex _ r => by
    simp only [Rep] at r
    obtain ⟨a, vs, n, e1, _, l, q, z⟩ := r
    exact ⟨ex, a, vs, n, e1, l, q.weak fun _ q => Cx.Q_iff.mpr q, z⟩
theorem EvF.seq {c : Cx} {ρ : Env1} {e : Expr} {ds : List PV} (h : EvF c ρ e ds) : EvS c ρ e ds := .mk fun A T s ha st =>
  wpAny_mono (h.run A T s ha st) (fun v s' ⟨ex, a, vs, n, e1, _, l, q, z⟩ => ⟨ex, a, vs, n, e1, l, q.weak fun _ q => q.1, z⟩) fun _ _ x => x.elim
/-- what is new may be had -/
theorem St.newP {c : Cx} {ρ : Env1} {T : Own1} {s : Shared} (ok : c.Ok) (x : St c ρ T s) {a : Addr} (h : s.heap.get? a = none) : c.Q T a := by
  refine ⟨⟨ok.fresh a ?_, fun e => ?_, fun hm => ?_, fun hm => ?_⟩, fun p hp e => ?_⟩
  · cases q : c.h₀.get? a with
    | none => rfl
    | some o =>
      by_cases t : c.G.Tb a
      · obtain ⟨o', e, _⟩ := x.wd.tb a t
        rw [h] at e; cases e
      · rw [x.keep0 a o q t] at h; cases h
  · obtain ⟨m, o, _, _, hL, _⟩ := x.ns
    rw [← e, h] at hL; cases hL
  · obtain ⟨v, o, hc, _⟩ := x.mcs a hm
    rw [h] at hc; cases hc
  · obtain ⟨o, hc, _⟩ := x.avs a hm
    rw [h] at hc; cases hc
  · obtain ⟨_, vs, n, l⟩ := x.own p hp
    have l' : s.heap.get? p.2 = _ := l
    rw [← e, h] at l'; cases l'
theorem St.own_ne {c : Cx} {ρ : Env1} {T : Own1} {s : Shared} (x : St c ρ T s) {p : Str × Addr} (h : p ∈ T) : p.2 ≠ c.L ∧ p.2 ∉ c.mc ∧ p.2 ∉ c.av := by
  obtain ⟨_, vs, n, l⟩ := x.own p h
  refine ⟨fun e => ?_, fun hm => ?_, fun hm => ?_⟩
  · obtain ⟨m, o, _, _, hL, hd, _⟩ := x.ns
    rw [← e] at hL
    have := l.symm.trans hL; cases this; cases hd
  · obtain ⟨v, o, hc, hd⟩ := x.mcs _ hm
    have := l.symm.trans hc; cases this; cases hd
  · obtain ⟨o, hc, hd⟩ := x.avs _ hm
    have := l.symm.trans hc; cases this; exact hd _ _ rfl
theorem EvF.ev {c : Cx} {ρ : Env1} {b : Bool} {e : Expr} {ds : List PV} (ok : c.Ok) (h : EvF c ρ e ds) : Ev c ρ b e (.list ds) := .mk fun A T s ha st =>
  wpAny_mono (h.run A T s ha st) (fun v s' ⟨ex, a, vs, n, e1, hn, l, q, z⟩ => ⟨ex, by
    simp only [Rep]
    exact ⟨a, vs, n, e1, Cx.Qb_of (st.newP ok hn), l, q.weak fun _ q => Cx.Qb_of q.1, z⟩⟩) fun _ _ x => x.elim
theorem get_new {h : Heap} : h.get? h.objs.size = none := by
  cases e : h.get? h.objs.size with
  | none => rfl
  | some o => exact absurd (Heap.lt_size e) (Nat.lt_irrefl _)

/-! ### constants and names -/
section
variable {c : Cx} {ρ : Env1} {b : Bool}
theorem Ev_int {i : Int} {k pos} : Ev c ρ b (.Constant (.int i) k pos) (.int i) := .mk fun _ _ _ _ _ =>
  wpAny_Constant_int ⟨Ext.tok, by simp only [Rep]; exact ⟨_, rfl⟩⟩
theorem Ev_str {x : Str} {k pos} (hx : x.length ≤ sizeLine) : Ev c ρ b (.Constant (.str x) k pos) (.str x) := .mk fun _ _ s _ _ _ _ _ =>
  ⟨(Ext.tok : Ext c.G s { s with toks := s.toks + 1 }), by simp only [Rep]; exact ⟨⟨_, rfl⟩, hx⟩⟩
theorem Ev_none {k pos} : Ev c ρ b (.Constant .none k pos) .none := .mk fun _ _ s _ _ _ _ _ => ⟨(Evo.refl : Ext c.G s s), by simp only [Rep]⟩
theorem Ev_bool {x : Bool} {k pos} : Ev c ρ b (.Constant (.bool x) k pos) (.bool x) := .mk fun _ _ s _ _ _ _ _ => ⟨(Evo.refl : Ext c.G s s), by simp only [Rep]⟩

theorem loadVar (ok : c.Ok) {x : Str} {v : Value} {s : Shared} {A : Around} {E : Value → Shared → Prop} {Q : Value → Shared → Prop} (hv : VarAt c s x v) (h : Q v s)
    (hn : (x == ("__classdict__" : Str)) = false) : wpAny c.M A (loadName c.env x) Q E s := by
  rcases hv with ⟨k, m, hm, hx⟩ | ⟨k | k, a, ha, hc⟩
  · exact wpAny_loadName_local ok.kind k hm hx h
  · exact wpAny_loadName_cell ok.kind k ha hc h
  · exact wpAny_loadName_free ok.kind k ha hc h hn

/-- no name of the text's own that the machine keeps for itself -/
noncomputable def plainName (x : Str) : Bool := !(x == ("__classdict__" : Str)) && !(x == ("__debug__" : Str))
theorem plainName_spec {x : Str} (h : plainName x = true) : (x == ("__classdict__" : Str)) = false ∧ (x == ("__debug__" : Str)) = false := by
  simpa [plainName] using h

theorem Ev_name (ok : c.Ok) {x : Str} {pos} {d : PV} (hd : ρ.lookup x = some d) (ho : c.own.contains x = false) (hp : plainName x = true) : Ev c ρ b (.Name x pos) d := .mk fun _ T s _ st => by
  obtain ⟨v, h1, _, h3⟩ := st.vars x d hd
  refine wpAny_Name (loadVar ok h1 ⟨Evo.refl, ?_⟩ (plainName_spec hp).1) (plainName_spec hp).2
  exact (h3 (fun q => by rw [List.contains_iff_mem.mpr q] at ho; cases ho)).weak fun _ q => Cx.Qb_of q
theorem Ev_nameOwn (ok : c.Ok) {x : Str} {pos} {d : PV} (hd : ρ.lookup x = some d) (ho : c.own.contains x = true) (hp : plainName x = true) : Ev c ρ false (.Name x pos) d := .mk fun _ T s _ st => by
  obtain ⟨v, h1, h2, _⟩ := st.vars x d hd
  refine wpAny_Name (loadVar ok h1 ⟨Evo.refl, ?_⟩ (plainName_spec hp).1) (plainName_spec hp).2
  obtain ⟨a, ds, vs, n, rfl, rfl, e3, e4, e5, e6⟩ := h2 (List.contains_iff_mem.mp ho)
  have hm : (x, a) ∈ T := mem_of_lookup e3
  simp only [Rep]
  exact ⟨a, vs, n, rfl, ⟨⟨ok.fresh a (st.own _ hm).1, st.own_ne hm⟩, fun e => by cases e⟩, e4, e5.weak fun _ q => Cx.Qb_of q, e6⟩
theorem EvS_nameOwn (ok : c.Ok) {x : Str} {pos} {ds : List PV} (hd : ρ.lookup x = some (.list ds)) (ho : c.own.contains x = true) (hp : plainName x = true) : EvS c ρ (.Name x pos) ds := .mk fun _ T s _ st => by
  obtain ⟨v, h1, h2, _⟩ := st.vars x _ hd
  refine wpAny_Name (loadVar ok h1 ⟨Evo.refl, ?_⟩ (plainName_spec hp).1) (plainName_spec hp).2
  obtain ⟨a, ds', vs, n, e1, rfl, e3, e4, e5, e6⟩ := h2 (List.contains_iff_mem.mp ho)
  cases e1
  exact ⟨a, vs, n, rfl, e4, e5, e6⟩
end
end Mine
end

section
open PySem PyProof.Rows
open PySem.SeqAt
namespace Mine

/-! ### equality of data -/
open Classical in
mutual
noncomputable def PV.eqv : PV → PV → Bool
  | .none, .none => true
  | .bool a, .bool b => a == b
  | .int a, .int b => a == b
  | .str a, .str b => a == b
  | .list a, .list b => PV.eqvs a b
  | .tuple a, .tuple b => PV.eqvs a b
  | .range a b c, .range a' b' c' => decide (a = a' ∧ b = b' ∧ c = c')
  | .raw a v, .raw b w => decide (a = b ∧ v = w)
  | .obj a v, .obj b w => (a == b) && PV.eqvs v w
  | _, _ => false
noncomputable def PV.eqvs : List PV → List PV → Bool
  | [], [] => true
  | a :: r, b :: q => PV.eqv a b && PV.eqvs r q
  | _, _ => false
end
mutual
noncomputable def PV.kin : PV → PV → Bool
  | .none, .none => true
  | .bool _, .bool _ => true
  | .int _, .int _ => true
  | .str _, .str _ => true
  | .list a, .list b => PV.kins a b
  | .tuple a, .tuple b => PV.kins a b
  | _, _ => false
noncomputable def PV.kins : List PV → List PV → Bool
  | a :: r, b :: q => PV.kin a b && PV.kins r q
  | _, _ => true
end
mutual
noncomputable def PV.deep : PV → Nat
  | .list a => PV.deeps a + 1
  | .tuple a => PV.deeps a + 1
  | _ => 0
noncomputable def PV.deeps : List PV → Nat
  | [] => 0
  | a :: r => max (PV.deep a) (PV.deeps r)
end
theorem PV.eqvs_length : ∀ {a b : List PV}, PV.eqvs a b = true → a.length = b.length
  | [], [], _ => rfl
  | _ :: _, _ :: _, h => by simp only [PV.eqvs, Bool.and_eq_true] at h; simp [PV.eqvs_length h.2]
  | [], _ :: _, h => by simp [PV.eqvs] at h
  | _ :: _, [], h => by simp [PV.eqvs] at h
theorem PV.eqvs_all : ∀ {a b : List PV}, a.length = b.length → PV.eqvs a b = (List.range a.length).all fun j => match a[j]?, b[j]? with | some x, some y => PV.eqv x y | _, _ => false
  | [], [], _ => by simp [PV.eqvs]
  | x :: a, y :: b, h => by
    have ih := PV.eqvs_all (a := a) (b := b) (by simpa using h)
    rw [PV.eqvs, ih, List.length_cons, List.range_succ_eq_map, List.all_cons, List.all_map]
    rfl
  | [], _ :: _, h => by simp at h
  | _ :: _, [], h => by simp at h

mutual
theorem PV.eqv_refl : ∀ d : PV, PV.eqv d d = true
  | .none => by simp [PV.eqv]
  | .bool _ => by simp [PV.eqv]
  | .int _ => by simp [PV.eqv]
  | .str _ => by simp [PV.eqv]
  | .list a => by simp [PV.eqv, PV.eqvs_refl a]
  | .tuple a => by simp [PV.eqv, PV.eqvs_refl a]
  | .range _ _ _ => by simp [PV.eqv]
  | .raw _ _ => by simp [PV.eqv]
  | .obj _ a => by simp [PV.eqv, PV.eqvs_refl a]
theorem PV.eqvs_refl : ∀ d : List PV, PV.eqvs d d = true
  | [] => by simp [PV.eqvs]
  | a :: r => by simp [PV.eqvs, PV.eqv_refl a, PV.eqvs_refl r]
end
mutual
theorem PV.eq_of_eqv : ∀ {a b : PV}, PV.eqv a b = true → a = b
  | .none, b, h => by cases b <;> simp_all [PV.eqv]
  | .bool _, b, h => by cases b <;> simp_all [PV.eqv]
  | .int _, b, h => by cases b <;> simp_all [PV.eqv]
  | .str _, b, h => by cases b <;> simp_all [PV.eqv]
  | .list a, b, h => by
    cases b with
    | list b => rw [PV.eqv] at h; rw [PV.eqs_of_eqvs h]
    | _ => simp [PV.eqv] at h
  | .tuple a, b, h => by
    cases b with
    | tuple b => rw [PV.eqv] at h; rw [PV.eqs_of_eqvs h]
    | _ => simp [PV.eqv] at h
  | .range _ _ _, b, h => by cases b <;> simp_all [PV.eqv]
  | .raw _ _, b, h => by cases b <;> simp_all [PV.eqv]
  | .obj T a, b, h => by
    cases b with
    | obj U b => rw [PV.eqv, Bool.and_eq_true, beq_iff_eq] at h; rw [h.1, PV.eqs_of_eqvs h.2]
    | _ => simp [PV.eqv] at h
theorem PV.eqs_of_eqvs : ∀ {a b : List PV}, PV.eqvs a b = true → a = b
  | [], [], _ => rfl
  | x :: a, y :: b, h => by
    rw [PV.eqvs, Bool.and_eq_true] at h
    rw [PV.eq_of_eqv h.1, PV.eqs_of_eqvs h.2]
  | [], _ :: _, h => by simp [PV.eqvs] at h
  | _ :: _, [], h => by simp [PV.eqvs] at h
end
mutual
theorem Rep.unique {h : Heap} {P P' : Addr → Prop} : ∀ {d d' : PV} {v : Value}, PV.kin d d' = true → Rep h P d v → Rep h P' d' v → d = d'
  | .none, d', v, k, r, q => by cases d' <;> simp_all [PV.kin]
  | .bool _, d', v, k, r, q => by cases d' <;> simp_all [PV.kin, Rep]
  | .int _, d', v, k, r, q => by
    cases d' <;> simp_all [PV.kin, Rep]
    obtain ⟨t, rfl⟩ := r; simpa using q
  | .str _, d', v, k, r, q => by
    cases d' <;> simp_all [PV.kin, Rep]
    obtain ⟨⟨t, rfl⟩, _⟩ := r; simpa using q.1
  | .list ds, d', v, k, r, q => by
    simp only [Rep] at r; obtain ⟨a, vs, n, rfl, _, l, ra, _⟩ := r
    cases d' with
    | list ds' =>
      simp only [Rep] at q; obtain ⟨a', vs', n', e, _, l', ra', _⟩ := q
      cases e
      have := l.symm.trans l'
      cases this
      rw [PV.kin] at k
      rw [RepAll.unique k ra ra']
    | _ => simp [PV.kin] at k
  | .tuple ds, d', v, k, r, q => by
    simp only [Rep] at r; obtain ⟨a, vs, n, rfl, _, l, ra, _⟩ := r
    cases d' with
    | tuple ds' =>
      simp only [Rep] at q; obtain ⟨a', vs', n', e, _, l', ra', _⟩ := q
      cases e
      have := l.symm.trans l'
      cases this
      rw [PV.kin] at k
      rw [RepAll.unique k ra ra']
    | _ => simp [PV.kin] at k
  | .range _ _ _, d', v, k, r, q => by cases d' <;> simp [PV.kin] at k
  | .raw _ _, d', v, k, r, q => by cases d' <;> simp [PV.kin] at k
  | .obj _ _, d', v, k, r, q => by cases d' <;> simp [PV.kin] at k
theorem RepAll.unique {h : Heap} {P P' : Addr → Prop} : ∀ {d d' : List PV} {v : List Value}, PV.kins d d' = true → RepAll h P d v → RepAll h P' d' v → d = d'
  | [], d', v, k, r, q => by
    simp only [RepAll] at r; subst r
    cases d' with
    | nil => rfl
    | cons => simp [RepAll] at q
  | d :: ds, d', v, k, r, q => by
    simp only [RepAll] at r; obtain ⟨x, y, rfl, a, b⟩ := r
    cases d' with
    | nil => simp [RepAll] at q
    | cons e es =>
      simp only [RepAll] at q; obtain ⟨x', y', e', a', b'⟩ := q
      cases e'
      simp only [PV.kins, Bool.and_eq_true] at k
      rw [Rep.unique k.1 a a', RepAll.unique k.2 b b']
end
theorem Rep.unique_flat {h : Heap} {P P' : Addr → Prop} {d d' : PV} {v : Value} (f : d.flat = true) (f' : d'.flat = true) (r : Rep h P d v) (q : Rep h P' d' v) : d = d' := by
  cases d <;> simp [PV.flat] at f <;> cases d' <;> simp [PV.flat] at f' <;> simp only [Rep] at r q
  all_goals (first | rfl | (subst r; simp_all) | (obtain ⟨t, rfl⟩ := r; simp_all) | (obtain ⟨⟨t, rfl⟩, _⟩ := r; simp_all))
theorem PV.kin_flat {d a : PV} (f : a.flat = true) (k : PV.kin d a = true) : d.flat = true := by
  cases a <;> simp [PV.flat] at f <;> cases d <;> simp [PV.kin] at k <;> rfl

theorem PV.kins_get : ∀ {a b : List PV}, PV.kins a b = true → ∀ {j : Nat} {x y : PV}, a[j]? = some x → b[j]? = some y → PV.kin x y = true
  | x :: a, y :: b, h, 0, _, _, e, e' => by
    simp at e e'; subst e e'
    simp only [PV.kins, Bool.and_eq_true] at h; exact h.1
  | x :: a, y :: b, h, j + 1, _, _, e, e' => by
    simp only [PV.kins, Bool.and_eq_true] at h
    exact PV.kins_get h.2 (j := j) (by simpa using e) (by simpa using e')
  | [], b, h, j, _, _, e, e' => by simp at e
  | a :: _, [], h, j, _, _, e, e' => by simp at e'
theorem PV.deeps_get : ∀ {a : List PV} {j : Nat} {x : PV}, a[j]? = some x → PV.deep x ≤ PV.deeps a
  | y :: a, 0, x, e => by simp at e; subst e; simp only [PV.deeps]; omega
  | y :: a, j + 1, x, e => by
    have := PV.deeps_get (a := a) (j := j) (x := x) (by simpa using e)
    simp only [PV.deeps]; omega
  | [], j, x, e => by simp at e

theorem cLine_eq : cLine = 9900 := rfl

theorem eqAt_rep {s : Shared} {P P' : Addr → Prop} : ∀ (k : Nat) (d d' : PV) (v v' : Value) (A : Around), PV.deep d ≤ k → PV.kin d d' = true → A.units + k < cLine → Rep s.heap P d v → Rep s.heap P' d' v' →
    EqAt A s v v' (PV.eqv d d') ∧ RcAt A s v v' (PV.eqv d d') ∧ RcNeAt A s v v' (!PV.eqv d d') := by
  intro k
  induction k with
  | zero =>
    intro d d' v v' A hk hkin hu r r'
    cases d with
    | none =>
      cases d' <;> simp [PV.kin] at hkin
      simp only [Rep] at r r'; subst r r'
      exact ⟨EqAt.same _, RcAt.none_none, RcNeAt.none_none⟩
    | bool a =>
      cases d' <;> simp [PV.kin] at hkin
      simp only [Rep] at r r'; subst r r'
      exact ⟨EqAt.bool_bool _ _, RcAt.bool_bool _ _, RcNeAt.bool_bool _ _⟩
    | int a =>
      cases d' <;> simp [PV.kin] at hkin
      simp only [Rep] at r r'; obtain ⟨t, rfl⟩ := r; obtain ⟨t', rfl⟩ := r'
      exact ⟨EqAt.int_int _ _ _ _, RcAt.int_int _ _ _ _, RcNeAt.int_int _ _ _ _⟩
    | str a =>
      cases d' <;> simp [PV.kin] at hkin
      simp only [Rep] at r r'; obtain ⟨⟨t, rfl⟩, _⟩ := r; obtain ⟨⟨t', rfl⟩, _⟩ := r'
      exact ⟨EqAt.str_str _ _ _ _, RcAt.str_str _ _ _ _, RcNeAt.str_str _ _ _ _⟩
    | list a => simp [PV.deep] at hk
    | tuple a => simp [PV.deep] at hk
    | range a b c => cases d' <;> simp [PV.kin] at hkin
    | raw a v => cases d' <;> simp [PV.kin] at hkin
    | obj a v => cases d' <;> simp [PV.kin] at hkin
  | succ k ih =>
    intro d d' v v' A hk hkin hu r r'
    have items : ∀ (ds ds' : List PV) (vs vs' : Array Value), PV.deeps ds ≤ k → PV.kins ds ds' = true → RepAll s.heap P ds vs.toList → RepAll s.heap P' ds' vs'.toList →
        ∀ j (h1 : j < vs.size) (h2 : j < vs'.size), EqAt A.in1 s vs[j] vs'[j] ((fun j => match ds[j]?, ds'[j]? with | some x, some y => PV.eqv x y | _, _ => false) j) := by
      intro ds ds' vs vs' hd hki ra ra' j h1 h2
      obtain ⟨x, ex, rx⟩ := ra.get' (i := j) (v := vs[j]) (by simp [h1])
      obtain ⟨y, ey, ry⟩ := ra'.get' (i := j) (v := vs'[j]) (by simp [h2])
      simp only [ex, ey]
      exact (ih x y _ _ A.in1 (Nat.le_trans (PV.deeps_get ex) hd) (PV.kins_get hki ex ey) (by show A.units + 1 + k < cLine; omega) rx ry).1
    cases d with
    | list ds =>
      cases d' with
      | list ds' =>
        simp only [Rep] at r r'
        obtain ⟨a, vs, n, rfl, hp, l, ra, z⟩ := r
        obtain ⟨a', vs', n', rfl, hp', l', ra', z'⟩ := r'
        simp only [PV.kin] at hkin
        simp only [PV.deep] at hk
        have hit := items ds ds' vs vs' (by omega) hkin ra ra'
        have n1 : vs.size = ds.length := by simpa using ra.length
        have n2 : vs'.size = ds'.length := by simpa using ra'.length
        have hrc : RcAt A s (.ref a) (.ref a') (PV.eqvs ds ds') ∧ RcNeAt A s (.ref a) (.ref a') (!PV.eqvs ds ds') := by
          by_cases hl : ds.length = ds'.length
          · rw [PV.eqvs_all hl, ← n1]
            exact ⟨RcAt.lists l.isList l'.isList (by omega) (by omega) hit, RcNeAt.lists l.isList l'.isList (by omega) (by omega) hit⟩
          · have : PV.eqvs ds ds' = false := by
              cases q : PV.eqvs ds ds' with
              | false => rfl
              | true => exact absurd (PV.eqvs_length q) hl
            rw [this]
            have hb : (vs.size != vs'.size) = true := by simp; omega
            exact ⟨RcAt.lists_lengths l.isList l'.isList hb (by omega), RcNeAt.lists_lengths l.isList l'.isList hb (by omega)⟩
        simp only [PV.eqv]
        refine ⟨?_, hrc⟩
        by_cases hq : a = a'
        · subst hq
          have := l.symm.trans l'
          cases this
          rw [RepAll.unique hkin ra ra', PV.eqvs_refl]
          exact EqAt.same _
        · exact EqAt.of_refs hq hrc.1
      | _ => simp [PV.kin] at hkin
    | tuple ds =>
      cases d' with
      | tuple ds' =>
        simp only [Rep] at r r'
        obtain ⟨a, vs, n, rfl, hp, l, ra, z⟩ := r
        obtain ⟨a', vs', n', rfl, hp', l', ra', z'⟩ := r'
        simp only [PV.kin] at hkin
        simp only [PV.deep] at hk
        have hit := items ds ds' vs vs' (by omega) hkin ra ra'
        have n1 : vs.size = ds.length := by simpa using ra.length
        have n2 : vs'.size = ds'.length := by simpa using ra'.length
        have t1 : s.heap.IsTuple a vs := ⟨_, l, rfl, n, rfl⟩
        have t2 : s.heap.IsTuple a' vs' := ⟨_, l', rfl, n', rfl⟩
        have hrc : RcAt A s (.ref a) (.ref a') (PV.eqvs ds ds') ∧ RcNeAt A s (.ref a) (.ref a') (!PV.eqvs ds ds') := by
          have e : PV.eqvs ds ds' = ((List.range (min vs.size vs'.size)).all (fun j => match ds[j]?, ds'[j]? with | some x, some y => PV.eqv x y | _, _ => false) && vs.size == vs'.size) := by
            by_cases hl : ds.length = ds'.length
            · rw [PV.eqvs_all hl, n1, n2, hl]; simp
            · have q : PV.eqvs ds ds' = false := by
                cases q : PV.eqvs ds ds' with
                | false => rfl
                | true => exact absurd (PV.eqvs_length q) hl
              have : (vs.size == vs'.size) = false := by simp; omega
              rw [q, this, Bool.and_false]
          rw [e]
          exact ⟨RcAt.tuples t1 t2 (by omega) hit, RcNeAt.tuples t1 t2 (by omega) hit⟩
        simp only [PV.eqv]
        refine ⟨?_, hrc⟩
        by_cases hq : a = a'
        · subst hq
          have := l.symm.trans l'
          cases this
          rw [RepAll.unique hkin ra ra', PV.eqvs_refl]
          exact EqAt.same _
        · exact EqAt.of_refs hq hrc.1
      | _ => simp [PV.kin] at hkin
    | none => exact ih _ _ _ _ A (by simp [PV.deep]) hkin (by omega) r r'
    | bool => exact ih _ _ _ _ A (by simp [PV.deep]) hkin (by omega) r r'
    | int => exact ih _ _ _ _ A (by simp [PV.deep]) hkin (by omega) r r'
    | str => exact ih _ _ _ _ A (by simp [PV.deep]) hkin (by omega) r r'
    | range a b c => cases d' <;> simp [PV.kin] at hkin
    | raw a v => cases d' <;> simp [PV.kin] at hkin
    | obj a v => cases d' <;> simp [PV.kin] at hkin
end Mine
end

section
open PySem PyProof.Rows
open PySem.SeqAt
namespace Mine

noncomputable abbrev Sl (x : Str) : List Nat := x.cps.toList
noncomputable abbrev mkS (l : List Nat) : Str := ⟨l.toArray⟩
theorem mkS_Sl (x : Str) : mkS (Sl x) = x := by cases x; rfl
theorem Sl_mkS (l : List Nat) : Sl (mkS l) = l := rfl
theorem Str_len (x : Str) : x.length = (Sl x).length := by cases x; simp [Str.length]
theorem Str_ext {x y : Str} (h : Sl x = Sl y) : x = y := by rw [← mkS_Sl x, ← mkS_Sl y, h]
theorem Sl_append (x y : Str) : Sl (x ++ y) = Sl x ++ Sl y := by
  show (Str.append x y).cps.toList = _
  simp [Str.append]
theorem sizeLine_is : sizeLine = 16777216 := rfl

/-! ### operators on flat data -/
inductive BinOk : Operator → PV → PV → PV → Prop
  | addI {a b} : BinOk .Add (.int a) (.int b) (.int (a + b))
  | subI {a b} : BinOk .Sub (.int a) (.int b) (.int (a - b))
  | mulI {a b} (h : IntMulOk a b) : BinOk .Mult (.int a) (.int b) (.int (a * b))
  | divI {a b} (h : b ≠ 0) (hp : Builtin.divisionGoesByPylong a b = false) : BinOk .FloorDiv (.int a) (.int b) (.int (a.fdiv b))
  | modI {a b} (h : b ≠ 0) : BinOk .Mod (.int a) (.int b) (.int (a.fmod b))
  | addS {x y} (h : x.length + y.length ≤ sizeLine) : BinOk .Add (.str x) (.str y) (.str (x ++ y))
  | mulS {x n} (h : MulOk x n) (hl : (Txt.mul x n).length ≤ sizeLine) : BinOk .Mult (.str x) (.int n) (.str (Txt.mul x n))

theorem Str_length_append (x y : Str) : (x ++ y).length = x.length + y.length := by
  rw [Str_len, Str_len, Str_len, Sl_append, List.length_append]

section
variable {c : Cx} {ρ : Env1} {b : Bool}
theorem bin_ok {op : Operator} {d₁ d₂ d : PV} (h : BinOk op d₁ d₂ d) {A : Around} {s : Shared} {P P' P'' : Addr → Prop} {v₁ v₂ : Value} {E : Value → Shared → Prop} {Q : Value → Shared → Prop}
    (r₁ : Rep s.heap P d₁ v₁) (r₂ : Rep s.heap P' d₂ v₂) (k : ∀ v s', Ext c.G s s' → Rep s'.heap P'' d v → Q v s') : wpAny c.M A (binaryOp op v₁ v₂) Q E s := by
  cases h with
  | addI =>
    simp only [Rep] at r₁ r₂; obtain ⟨t, rfl⟩ := r₁; obtain ⟨u, rfl⟩ := r₂
    exact add_int (k _ _ Ext.tok (by simp only [Rep]; exact ⟨_, rfl⟩))
  | subI =>
    simp only [Rep] at r₁ r₂; obtain ⟨t, rfl⟩ := r₁; obtain ⟨u, rfl⟩ := r₂
    exact sub_int (k _ _ Ext.tok (by simp only [Rep]; exact ⟨_, rfl⟩))
  | mulI h =>
    simp only [Rep] at r₁ r₂; obtain ⟨t, rfl⟩ := r₁; obtain ⟨u, rfl⟩ := r₂
    exact mul_int (k _ _ Ext.tok (by simp only [Rep]; exact ⟨_, rfl⟩)) h
  | divI h hp =>
    simp only [Rep] at r₁ r₂; obtain ⟨t, rfl⟩ := r₁; obtain ⟨u, rfl⟩ := r₂
    exact floordiv_int h (k _ _ Ext.tok (by simp only [Rep]; exact ⟨_, rfl⟩)) (.inl hp)
  | modI h =>
    simp only [Rep] at r₁ r₂; obtain ⟨t, rfl⟩ := r₁; obtain ⟨u, rfl⟩ := r₂
    exact mod_int' h (k _ _ Ext.tok (by simp only [Rep]; exact ⟨_, rfl⟩))
  | addS h =>
    simp only [Rep] at r₁ r₂; obtain ⟨⟨t, rfl⟩, _⟩ := r₁; obtain ⟨⟨u, rfl⟩, _⟩ := r₂
    exact add_str (fun t' tk => k _ _ Ext.tok (by simp only [Rep]; exact ⟨⟨_, rfl⟩, by rw [Str_length_append]; exact h⟩)) h
  | mulS h hl =>
    simp only [Rep] at r₁ r₂; obtain ⟨⟨t, rfl⟩, _⟩ := r₁; obtain ⟨u, rfl⟩ := r₂
    exact SB.mul h (fun t' tk => k _ _ Ext.tok (by simp only [Rep]; exact ⟨⟨_, rfl⟩, hl⟩))

theorem Ev_bin {l r : Expr} {op : Operator} {pos} {d₁ d₂ d : PV} (h₁ : Ev c ρ false l d₁) (h₂ : Ev c ρ false r d₂) (h : BinOk op d₁ d₂ d) : Ev c ρ b (.BinOp l op r pos) d := .mk fun A T s ha st =>
  wpAny_BinOp (h₁.use ha st fun v₁ s₁ e₁ st₁ r₁ => h₂.use ha st₁ fun v₂ s₂ e₂ st₂ r₂ =>
    bin_ok (c := c) h (r₁.ext st₁.wd e₂) r₂ fun v s' e r => ⟨(e₁.trans e₂).trans e, r⟩)

theorem Ev_neg {x : Expr} {pos} {i : Int} (h : Ev c ρ false x (.int i)) : Ev c ρ b (.UnaryOp .USub x pos) (.int (-i)) := .mk fun A T s ha st => by
  show wpAny _ _ (do let v ← eval x c.env; standAt pos; holding [v] (unaryOp .USub v)) _ _ _
  refine wpAny_bind (h.use ha st fun v s₁ e₁ _ r => wpAny_bind (wpAny_standAt (wpAny_holding ?_)))
  simp only [Rep] at r; obtain ⟨t, rfl⟩ := r
  exact neg_int ⟨e₁.trans Ext.tok, by simp only [Rep]; exact ⟨_, rfl⟩⟩

/-! ### comparisons -/
inductive CmpOk : CmpOp → PV → PV → Bool → Prop
  | eq {a b} (hk : PV.kin a b = true) (hd : PV.deep a ≤ 64) : CmpOk .Eq a b (PV.eqv a b)
  | ne {a b} (hk : PV.kin a b = true) (hd : PV.deep a ≤ 64) : CmpOk .NotEq a b (!PV.eqv a b)
  | lt {a b} : CmpOk .Lt (.int a) (.int b) (decide (a < b))
  | le {a b} : CmpOk .LtE (.int a) (.int b) (decide (a ≤ b))
  | gt {a b} : CmpOk .Gt (.int a) (.int b) (decide (b < a))
  | ge {a b} : CmpOk .GtE (.int a) (.int b) (decide (b ≤ a))
  | inL {a ds} (hf : a.flat = true) (hk : ∀ d ∈ ds, PV.kin d a = true ∧ PV.deep d ≤ 64) : CmpOk .In a (.list ds) (ds.any fun d => PV.eqv d a)
  | notInL {a ds} (hf : a.flat = true) (hk : ∀ d ∈ ds, PV.kin d a = true ∧ PV.deep d ≤ 64) : CmpOk .NotIn a (.list ds) (!ds.any fun d => PV.eqv d a)
  | inT {a ds} (hf : a.flat = true) (hk : ∀ d ∈ ds, PV.kin d a = true ∧ PV.deep d ≤ 64) : CmpOk .In a (.tuple ds) (ds.any fun d => PV.eqv d a)
  | notInT {a ds} (hf : a.flat = true) (hk : ∀ d ∈ ds, PV.kin d a = true ∧ PV.deep d ≤ 64) : CmpOk .NotIn a (.tuple ds) (!ds.any fun d => PV.eqv d a)
  | isNN : CmpOk .Is .none .none true
  | isNotNN : CmpOk .IsNot .none .none false
  | isO {T ds} : CmpOk .Is (.obj T ds) .none false
  | isNotO {T ds} : CmpOk .IsNot (.obj T ds) .none true

theorem AOk.line {k : Nat} {A : Around} (h : AOk k A) : A.units + 200 < cLine := by rw [cLine_eq]; have := h.units; omega

theorem any_rep {s : Shared} {P P' : Addr → Prop} {A : Around} {a : PV} {v : Value} (hu : A.units + 200 < cLine) (hf : a.flat = true) (ra : Rep s.heap P a v) :
    ∀ {ds : List PV} {vs : List Value}, RepAll s.heap P' ds vs → (∀ d ∈ ds, PV.kin d a = true ∧ PV.deep d ≤ 64) →
      ∃ e : Value → Bool, (∀ y ∈ vs, EqAt A.in1 s y v (e y)) ∧ vs.any e = ds.any fun d => PV.eqv d a := by
  intro ds vs r hk
  classical
  refine ⟨fun y => decide (∃ d ∈ ds, Rep s.heap P' d y ∧ PV.eqv d a = true), fun y hy => ?_, ?_⟩
  · obtain ⟨i, hi⟩ := List.getElem?_of_mem hy
    obtain ⟨d, hd, rd⟩ := r.get' hi
    have hm := List.mem_of_getElem? hd
    have := (eqAt_rep 64 d a y v A.in1 (hk d hm).2 (hk d hm).1 (by show A.units + 1 + 64 < _; omega) rd ra).1
    by_cases q : PV.eqv d a = true
    · rw [q] at this
      have e : decide (∃ d ∈ ds, Rep s.heap P' d y ∧ PV.eqv d a = true) = true := decide_eq_true ⟨d, hm, rd, q⟩
      show EqAt A.in1 s y v (decide (∃ d ∈ ds, Rep s.heap P' d y ∧ PV.eqv d a = true))
      rw [e]; exact this
    · have q' : PV.eqv d a = false := by simpa using q
      rw [q'] at this
      have e : decide (∃ d ∈ ds, Rep s.heap P' d y ∧ PV.eqv d a = true) = false := decide_eq_false fun ⟨d', hd', rd', q''⟩ => by
        rw [Rep.unique_flat (PV.kin_flat hf (hk d' hd').1) (PV.kin_flat hf (hk d hm).1) rd' rd] at q''; exact q q''
      show EqAt A.in1 s y v (decide (∃ d ∈ ds, Rep s.heap P' d y ∧ PV.eqv d a = true))
      rw [e]; exact this
  · rw [Bool.eq_iff_iff, List.any_eq_true, List.any_eq_true]
    constructor
    · rintro ⟨y, hy, e⟩
      obtain ⟨d, hd, _, q⟩ := of_decide_eq_true e
      exact ⟨d, hd, q⟩
    · rintro ⟨d, hd, q⟩
      obtain ⟨i, hi⟩ := List.getElem?_of_mem hd
      obtain ⟨y, hy, rd⟩ := r.get hi
      exact ⟨y, List.mem_of_getElem? hy, decide_eq_true ⟨d, hd, rd, q⟩⟩

theorem cmp_ok {op : CmpOp} {d₁ d₂ : PV} {t : Bool} (h : CmpOk op d₁ d₂ t) {A : Around} {s : Shared} {P P' : Addr → Prop} {v₁ v₂ : Value} {E : Value → Shared → Prop} {Q : Value → Shared → Prop}
    (hu : A.units + 200 < cLine) (r₁ : Rep s.heap P d₁ v₁) (r₂ : Rep s.heap P' d₂ v₂) (k : Q (.bool t) s) : wpAny c.M A (compareOp op v₁ v₂) Q E s := by
  cases h with
  | eq hk hd => exact (eqAt_rep 64 _ _ _ _ A hd hk (by omega) r₁ r₂).2.1 _ _ _ _ k
  | ne hk hd => exact (eqAt_rep 64 _ _ _ _ A hd hk (by omega) r₁ r₂).2.2 _ _ _ _ k
  | lt => simp only [Rep] at r₁ r₂; obtain ⟨t, rfl⟩ := r₁; obtain ⟨u, rfl⟩ := r₂; exact PyProof.Rows.lt_int k
  | le => simp only [Rep] at r₁ r₂; obtain ⟨t, rfl⟩ := r₁; obtain ⟨u, rfl⟩ := r₂; exact PyProof.Rows.le_int k
  | gt => simp only [Rep] at r₁ r₂; obtain ⟨t, rfl⟩ := r₁; obtain ⟨u, rfl⟩ := r₂; exact PyProof.Rows.gt_int k
  | ge => simp only [Rep] at r₁ r₂; obtain ⟨t, rfl⟩ := r₁; obtain ⟨u, rfl⟩ := r₂; exact PyProof.Rows.ge_int k
  | inL hf hk =>
    simp only [Rep] at r₂; obtain ⟨a, vs, n, rfl, _, l, ra, _⟩ := r₂
    obtain ⟨e, he, ha⟩ := any_rep (A := A) (by omega) hf r₁ ra hk
    refine in_listAt e l.isList (fun y hy => he y (Array.mem_toList_iff.mpr hy)) ?_
    rw [← Array.any_toList, ha]; exact k
  | notInL hf hk =>
    simp only [Rep] at r₂; obtain ⟨a, vs, n, rfl, _, l, ra, _⟩ := r₂
    obtain ⟨e, he, ha⟩ := any_rep (A := A) (by omega) hf r₁ ra hk
    refine notIn_listAt e l.isList (fun y hy => he y (Array.mem_toList_iff.mpr hy)) ?_
    rw [← Array.any_toList, ha]; exact k
  | inT hf hk =>
    simp only [Rep] at r₂; obtain ⟨a, vs, n, rfl, _, l, ra, _⟩ := r₂
    obtain ⟨e, he, ha⟩ := any_rep (A := A) (by omega) hf r₁ ra hk
    refine in_tupleAt e ⟨_, l, rfl, n, rfl⟩ (fun y hy => he y (Array.mem_toList_iff.mpr hy)) ?_
    rw [← Array.any_toList, ha]; exact k
  | notInT hf hk =>
    simp only [Rep] at r₂; obtain ⟨a, vs, n, rfl, _, l, ra, _⟩ := r₂
    obtain ⟨e, he, ha⟩ := any_rep (A := A) (by omega) hf r₁ ra hk
    refine notIn_tupleAt e ⟨_, l, rfl, n, rfl⟩ (fun y hy => he y (Array.mem_toList_iff.mpr hy)) ?_
    rw [← Array.any_toList, ha]; exact k
  | isNN => simp only [Rep] at r₁ r₂; subst r₁ r₂; exact wpAny_is_self rfl k
  | isNotNN => simp only [Rep] at r₁ r₂; subst r₁ r₂; exact wpAny_isNot_self rfl k
  | isO => simp only [Rep] at r₁ r₂; subst r₂; obtain ⟨a, vs, rfl, _⟩ := r₁; exact wpAny_is_other rfl (fun e => by cases e) k
  | isNotO => simp only [Rep] at r₁ r₂; subst r₂; obtain ⟨a, vs, rfl, _⟩ := r₁; exact wpAny_isNot_other rfl (fun e => by cases e) k

theorem Ev_cmp {l r : Expr} {op : CmpOp} {pos} {d₁ d₂ : PV} {t : Bool} (h₁ : Ev c ρ false l d₁) (h₂ : Ev c ρ false r d₂) (h : CmpOk op d₁ d₂ t) (hm : behindInMarks op r = false) :
    Ev c ρ b (.Compare l [op] [r] pos) (.bool t) := .mk fun A T s ha st =>
  wpAny_Compare1 (h₁.use ha st fun v₁ s₁ e₁ st₁ r₁ => h₂.use ha st₁ fun v₂ s₂ e₂ st₂ r₂ =>
    cmp_ok (c := c) h ha.line (r₁.ext st₁.wd e₂) r₂ ⟨e₁.trans e₂, by simp only [Rep]⟩) hm
theorem IsT_cmp {l r : Expr} {op : CmpOp} {pos} {d₁ d₂ : PV} {t : Bool} (h₁ : Ev c ρ false l d₁) (h₂ : Ev c ρ false r d₂) (h : CmpOk op d₁ d₂ t) (hm : behindInMarks op r = false) :
    IsT1 c ρ (.Compare l [op] [r] pos) t := .mk fun A T s ha st =>
  wpAny_isTrue_Compare1 (h₁.use ha st fun v₁ s₁ e₁ st₁ r₁ => h₂.use ha st₁ fun v₂ s₂ e₂ st₂ r₂ =>
    cmp_ok (c := c) h ha.line (r₁.ext st₁.wd e₂) r₂ (wpAny_truthy_bool ⟨e₁.trans e₂, rfl⟩)) hm

/-! ### truth -/
noncomputable def PV.truth : PV → Bool
  | .none => false
  | .bool b => b
  | .int i => i != 0
  | .str x => !(Sl x).isEmpty
  | .list ds => !ds.isEmpty
  | .tuple ds => !ds.isEmpty
  | _ => true
/-- data whose truth is served -/
noncomputable def PV.tame : PV → Bool
  | .range .. | .raw .. | .obj .. => false
  | _ => true
theorem truthy_rep {d : PV} {A : Around} {s : Shared} {P : Addr → Prop} {v : Value} {E : Value → Shared → Prop} {Q : Bool → Shared → Prop} (ht : d.tame = true) (r : Rep s.heap P d v)
    (k : ∀ s', Ext c.G s s' → Q d.truth s') : wpAny c.M A (truthy v) Q E s := by
  cases d with
  | none => simp only [Rep] at r; subst r; exact truthy_none (k s Evo.refl)
  | bool b => simp only [Rep] at r; subst r; exact wpAny_truthy_bool (k s Evo.refl)
  | int i => simp only [Rep] at r; obtain ⟨t, rfl⟩ := r; exact PyProof.Rows.truthy_int (k s Evo.refl)
  | str x =>
    simp only [Rep] at r; obtain ⟨⟨t, rfl⟩, hx⟩ := r
    refine PySem.P.truthy_str (by rw [sizeLine_is] at hx; omega) ?_
    have e : ((x.length : Int) != 0) = (PV.str x).truth := by
      simp only [PV.truth, Str_len]
      cases hh : Sl x with
      | nil => simp
      | cons => simp; omega
    rw [e]; exact k _ Ext.tok
  | list ds =>
    simp only [Rep] at r; obtain ⟨a, vs, n, rfl, _, l, ra, z⟩ := r
    have hl : vs.size = ds.length := by simpa using ra.length
    refine wpAny_truthy_list l.isList (by rw [sizeLine_is] at z; omega) ?_
    have e : (!vs.isEmpty) = (PV.list ds).truth := by
      simp only [PV.truth]
      rw [Array.isEmpty, hl]
      cases ds <;> simp
    rw [e]; exact k _ Ext.tok
  | tuple ds =>
    simp only [Rep] at r; obtain ⟨a, vs, n, rfl, _, l, ra, z⟩ := r
    have hl : vs.size = ds.length := by simpa using ra.length
    refine truthy_tuple (items := vs) ⟨_, l, rfl, n, rfl⟩ (by rw [sizeLine_is] at z; omega) ?_
    have e : (!vs.isEmpty) = (PV.tuple ds).truth := by
      simp only [PV.truth]
      rw [Array.isEmpty, hl]
      cases ds <;> simp
    rw [e]; exact k _ Ext.tok
  | range => simp [PV.tame] at ht
  | raw => simp [PV.tame] at ht
  | obj => simp [PV.tame] at ht

theorem IsT_val {e : Expr} {d : PV} (h : Ev c ρ false e d) (ht : d.tame = true) (hw : isTrue e c.env (eval e c.env) = (do let v ← eval e c.env; standAt e.pos; holding [v] (truthy v))) : IsT1 c ρ e d.truth := .mk fun A T s ha st => by
  rw [hw]
  exact wpAny_bind (h.use ha st fun v s₁ e₁ st₁ r => wpAny_bind (wpAny_standAt (wpAny_holding (truthy_rep (c := c) ht r fun s' e' => ⟨e₁.trans e', rfl⟩))))
theorem IsT_name {x pos d} (ht : d.tame = true) (h : Ev c ρ false (.Name x pos) d) : IsT1 c ρ (.Name x pos) d.truth := IsT_val h ht rfl
theorem IsT_call {f as ks pos d} (ht : d.tame = true) (h : Ev c ρ false (.Call f as ks pos) d) : IsT1 c ρ (.Call f as ks pos) d.truth := IsT_val h ht rfl
theorem IsT_sub {x i pos d} (ht : d.tame = true) (h : Ev c ρ false (.Subscript x i pos) d) : IsT1 c ρ (.Subscript x i pos) d.truth := IsT_val h ht rfl
theorem IsT_not {x pos t} (h : IsT1 c ρ x t) : IsT1 c ρ (.UnaryOp .Not x pos) (!t) := .mk fun A T s ha st =>
  isTrue_not (h.use ha st fun s' e _ => ⟨e, rfl⟩)
theorem IsT_and {xs : List Expr} {pos} : ∀ {ts : List Bool}, (hn : xs.length = ts.length) → (∀ (i : Nat) (x : Expr) (t : Bool), xs[i]? = some x → ts[i]? = some t → (∀ j : Nat, j < i → ts[j]? = some true) → IsT1 c ρ x t) →
    IsT1 c ρ (.BoolOp .And xs pos) (ts.all id) := by
  intro ts hn h
  refine .mk fun A T s ha st => ?_
  show wpAny _ _ (allTrue .And xs c.env) _ _ _
  induction xs generalizing ts s with
  | nil =>
    have : ts = [] := by cases ts <;> simp_all
    subst this
    exact wpAny_pure ⟨Evo.refl, rfl⟩
  | cons x xs ih =>
    cases ts with
    | nil => simp at hn
    | cons t ts =>
      show wpAny _ _ (do match BoolOp.And, ← isTrue x c.env (eval x c.env) with | .And, false => pure false | .Or, true => pure true | _, _ => allTrue .And xs c.env) _ _ _
      refine wpAny_bind ((h 0 x t rfl rfl (fun j hj => absurd hj (Nat.not_lt_zero _))).use ha st fun s' e st' => ?_)
      cases t with
      | false => exact wpAny_pure ⟨e, by simp⟩
      | true =>
        refine wpAny_mono (ih (ts := ts) (by simpa using hn) (fun i y u hy hu hj => h (i + 1) y u (by simpa using hy) (by simpa using hu) fun j q => ?_) s' st') (fun v s'' q => ⟨e.trans q.1, by simpa using q.2⟩) fun _ _ q => q
        cases j with
        | zero => rfl
        | succ j => simpa using hj j (by omega)
theorem IsT_and2 {x y : Expr} {pos} {t : Bool} {u : Bool} (hx : IsT1 c ρ x t) (hy : t = true → IsT1 c ρ y u) : IsT1 c ρ (.BoolOp .And [x, y] pos) (t && u) := by
  have := IsT_and (c := c) (ρ := ρ) (xs := [x, y]) (pos := pos) (ts := [t, u]) rfl (fun i x' t' h1 h2 h3 => by
    match i with
    | 0 => simp at h1 h2; subst h1 h2; exact hx
    | 1 => simp at h1 h2; subst h1 h2; exact hy (by simpa using h3 0 (by omega))
    | n + 2 => simp at h1)
  simpa using this
theorem IsT_or2 {x y : Expr} {pos} {t : Bool} {u : Bool} (hx : IsT1 c ρ x t) (hy : t = false → IsT1 c ρ y u) : IsT1 c ρ (.BoolOp .Or [x, y] pos) (t || u) := .mk fun A T s ha st => by
  show wpAny _ _ (do match BoolOp.Or, ← isTrue x c.env (eval x c.env) with | .And, false => pure false | .Or, true => pure true | _, _ => allTrue .Or [y] c.env) _ _ _
  refine wpAny_bind (hx.use ha st fun s' e st' => ?_)
  cases t with
  | true => exact wpAny_pure ⟨e, rfl⟩
  | false =>
    show wpAny _ _ (do match BoolOp.Or, ← isTrue y c.env (eval y c.env) with | .And, false => pure false | .Or, true => pure true | _, _ => allTrue .Or [] c.env) _ _ _
    refine wpAny_bind ((hy rfl).use ha st' fun s'' e' st'' => ?_)
    cases u with
    | true => exact wpAny_pure ⟨e.trans e', rfl⟩
    | false => exact wpAny_pure ⟨e.trans e', rfl⟩
theorem Ev_ifexp {t x y : Expr} {pos} {k : Bool} {d : PV} (ht : IsT1 c ρ t k) (h₁ : k = true → Ev c ρ b x d) (h₂ : k = false → Ev c ρ b y d) : Ev c ρ b (.IfExp t x y pos) d := .mk fun A T s ha st =>
  wpAny_IfExp (ht.use ha st fun s' e st' => by
    cases k with
    | true => exact (h₁ rfl).use ha st' fun v s'' e' _ r => ⟨e.trans e', r⟩
    | false => exact (h₂ rfl).use ha st' fun v s'' e' _ r => ⟨e.trans e', r⟩)
end
end Mine
end

section
open PySem PyProof.Rows
open PySem.SeqAt
namespace Mine

noncomputable def noStar : Expr → Bool
  | .Starred .. => false
  | _ => true

inductive EvL (c : Cx) (ρ : Env1) (b : Bool) : List Expr → List PV → Prop
  | nil : EvL c ρ b [] []
  | cons {e es d ds} (h : Ev c ρ b e d) (hs : noStar e = true) (r : EvL c ρ b es ds) : EvL c ρ b (e :: es) (d :: ds)

section
variable {c : Cx} {ρ : Env1} {b : Bool}

theorem starEach_cons {e : Expr} {es : List Expr} {env : Env} (h : noStar e = true) : starEach (e :: es) env = (false, eval e env) :: starEach es env := by
  cases e <;> first | rfl | (simp [noStar] at h)

theorem spliced_ev {pos : Pos} {es : List Expr} {ds : List PV} (h : EvL c ρ b es ds) {A : Around} {T : Own1} {s : Shared} (ha : AOk c.rk A) (st : St c ρ T s) {E : Value → Shared → Prop}
    {Q : List Value → Shared → Prop} (k : ∀ vs s', Ext c.G s s' → St c ρ T s' → RepAll s'.heap (c.Qb T b) ds vs → Q vs s') : wpAny c.M A (spliced (backTo pos (starEach es c.env))) Q E s := by
  induction h generalizing s Q with
  | nil => exact Calls.spliced_nil (k [] s Evo.refl st RepAll.nil)
  | cons h hs r ih =>
    rw [starEach_cons hs]
    refine Calls.spliced_cons (h.use ha st fun v s₁ e₁ st₁ r₁ => ih st₁ fun vs s₂ e₂ st₂ r₂ => k _ _ (e₁.trans e₂) st₂ (.cons (r₁.ext st₁.wd e₂) r₂))

theorem EvL.length {es : List Expr} {ds : List PV} (h : EvL c ρ b es ds) : ds.length = es.length := by
  induction h with
  | nil => rfl
  | cons _ _ _ ih => simp [ih]

theorem Ev_tuple (ok : c.Ok) {es : List Expr} {ds : List PV} {k pos} (h : EvL c ρ b es ds) (hl : decide (es.length ≤ sizeLine) = true) : Ev c ρ b (.Tuple es k pos) (.tuple ds) := .mk fun A T s ha st => by
  refine wpAny_Tuple (spliced_ev h ha st fun vs s₁ e₁ st₁ r₁ => ?_)
  have hz := of_decide_eq_true hl
  refine ⟨by rw [r₁.length, h.length]; exact hz, e₁.trans Ext.push', ?_⟩
  simp only [Rep]
  exact ⟨_, vs.toArray, 0, rfl, Cx.Qb_of (st₁.newP ok get_new), IsT.new _ _, r₁.ext st₁.wd Ext.push', by rw [h.length]; exact hz⟩

theorem EvF_list (ok : c.Ok) {es : List Expr} {ds : List PV} {pos} (h : EvL c ρ true es ds) (hl : decide (es.length ≤ sizeLine) = true) : EvF c ρ (.List es pos) ds := .mk fun A T s ha st => by
  refine List_ (spliced_ev h ha st fun vs s₁ e₁ st₁ r₁ => ?_)
  have hz := of_decide_eq_true hl
  refine wpAny_newObj_type ⟨e₁.trans Ext.push', s₁.heap.objs.size, vs.toArray, 0, rfl, ?_, IsL.new _ _, ?_, by rw [h.length]; exact hz⟩ (by show vs.toArray.size ≤ sizeLine; rw [List.size_toArray, r₁.length, h.length]; exact hz)
  · cases q : s.heap.get? s₁.heap.objs.size with
    | none => rfl
    | some o =>
      exfalso
      by_cases tb : c.G.Tb s₁.heap.objs.size
      · obtain ⟨o', q', _⟩ := st₁.wd.tb _ tb
        rw [get_new] at q'; cases q'
      · have := e₁.keep _ o q tb (fun h => h)
        rw [get_new] at this; cases this
  · refine RepAll.mono (fun a o e _ p => ⟨⟨Cx.Q_iff.mpr p, fun q => ?_⟩, Heap.get?_push_of_some _ e⟩) _ _ r₁
    rw [q, get_new] at e; cases e

/-! ### slices -/
noncomputable def clip (o : Option Int) (dflt n : Nat) : Nat := match o with
  | none => dflt
  | some i => if i < 0 then (i + n).toNat else min i.toNat n
noncomputable def lsl {α : Type} (l : List α) (lo hi : Option Int) : List α := (l.drop (clip lo 0 l.length)).take (clip hi l.length l.length - clip lo 0 l.length)
noncomputable def ssl (x : Str) (lo hi : Option Int) : Str := mkS (lsl (Sl x) lo hi)
theorem clip_le {o : Option Int} {d n : Nat} (h : d ≤ n) : clip o d n ≤ n := by
  unfold clip
  cases o with
  | none => exact h
  | some i => dsimp only; split <;> omega

theorem clip_bounds (lo hi : Option Int) (n : Nat) : sliceBounds lo hi none n = (((clip lo 0 n : Nat) : Int), ((clip hi n n : Nat) : Int), (1 : Int)) := by
  have one : ∀ (o : Option Int) (d : Nat), (match o with | none => (d : Int) | some i => max 0 (min (if i < 0 then i + n else i) n)) = ((clip o d n : Nat) : Int) := by
    intro o d
    unfold clip
    cases o with
    | none => rfl
    | some i => dsimp only; split <;> omega
  have h1 := one lo 0
  have h2 := one hi n
  unfold sliceBounds
  simp only [Option.getD_none, show ((1 : Int) > 0) = True from by simp, if_true]
  rw [← h1, ← h2]
  cases lo <;> cases hi <;> rfl

theorem slicePick_toList (items : Array Value) (lo hi : Option Int) : (slicePick items lo hi none).toList = lsl items.toList lo hi := by
  unfold slicePick
  rw [clip_bounds]
  simp only [sliceRange_one, pick_run, lsl, Array.length_toList]

theorem slice_idx (lo hi : Option Int) (n : Nat) : Builtin.Str.strSliceIndices lo hi 1 n = (List.range (clip hi n n - clip lo 0 n)).map (clip lo 0 n + ·) := by
  have := clip_bounds lo hi n
  rw [← sliceRange_one]
  unfold Builtin.Str.strSliceIndices
  unfold sliceBounds at this
  simp only [Option.getD_none] at this
  injection this with h1 h2
  injection h2 with h2 _
  simp only [show ((1 : Int) > 0) = True from by simp, if_true] at h1 h2 ⊢
  have key : ∀ {a a' b b' : Int}, a = a' → b = b' → sliceRange a b 1 = sliceRange a' b' 1 := by rintro _ _ _ _ rfl rfl; rfl
  exact key h1 h2

theorem txt_slice (x : Str) (lo hi : Option Int) : Txt.slice x lo hi = ssl x lo hi := by
  unfold Txt.slice ssl
  rw [slice_idx, pick_run]
  have h0 : clip lo 0 x.length ≤ x.length := clip_le (by omega)
  have h1 : clip hi x.length x.length ≤ x.length := clip_le (Nat.le_refl _)
  split
  · rename_i h
    simp only [List.length_map, List.length_range, Bool.and_eq_true, beq_iff_eq] at h
    apply Str_ext
    show Sl x = lsl (Sl x) lo hi
    unfold lsl
    rw [← Str_len, List.take_of_length_le (by rw [List.length_drop, ← Str_len]; omega)]
    by_cases hz : clip lo 0 x.length = 0
    · rw [hz]; rfl
    · have : Sl x = [] := List.length_eq_zero_iff.mp (by rw [← Str_len]; omega)
      rw [this]; simp
  · show (⟨_⟩ : Str) = mkS _
    unfold lsl
    rw [← Str_len]

theorem lsl_length {α : Type} (l : List α) (lo hi : Option Int) : (lsl l lo hi).length ≤ l.length := by
  unfold lsl; simp; omega
theorem ssl_length (x : Str) (lo hi : Option Int) : (ssl x lo hi).length ≤ x.length := by
  rw [Str_len, Str_len]; exact lsl_length _ _ _

/-- an optional bound of a slice -/
inductive EvO (c : Cx) (ρ : Env1) : Option Expr → Option Int → Prop
  | no : EvO c ρ none none
  | yes {e i} (h : Ev c ρ false e (.int i)) : EvO c ρ (some e) (some i)

theorem EvO.use {oe : Option Expr} {oi : Option Int} (h : EvO c ρ oe oi) {A : Around} {T : Own1} {s : Shared} (ha : AOk c.rk A) (st : St c ρ T s) {E : Value → Shared → Prop}
    {Q : Value → Shared → Prop} (k : ∀ p : Option (Int × Tok), p.map (·.1) = oi → ∀ s', Ext c.G s s' → St c ρ T s' → Q (partValue p) s') : wpAny c.M A (valueOrNone (evalOpt oe c.env)) Q E s := by
  cases h with
  | no => exact wpAny_pure (k none rfl s Evo.refl st)
  | yes h =>
    show wpAny _ _ (eval _ _) _ _ _
    refine h.use ha st fun v s' e st' r => ?_
    simp only [Rep] at r; obtain ⟨t, rfl⟩ := r
    exact k (some (_, t)) rfl s' e st'

theorem slice_use {lo hi : Option Expr} {li hj : Option Int} {p : Pos} (h₁ : EvO c ρ lo li) (h₂ : EvO c ρ hi hj) {A : Around} {T : Own1} {s : Shared} (ha : AOk c.rk A) (st : St c ρ T s) {E : Value → Shared → Prop}
    {Q : Value → Shared → Prop} (k : ∀ pl pu : Option (Int × Tok), pl.map (·.1) = li → pu.map (·.1) = hj → ∀ s', Ext c.G s s' → St c ρ T s' →
      s'.heap.get? (s'.heap.objs.size - 1) = some { cls := .type "slice", data := .fields #[partValue pl, partValue pu, .none] } → Q (.ref (s'.heap.objs.size - 1)) s') : wpAny c.M A (eval (.Slice lo hi none p) c.env) Q E s := by
  show wpAny _ _ (do
    let l ← valueOrNone (evalOpt lo c.env)
    let u ← holding [l] (valueOrNone (evalOpt hi c.env))
    let st ← holding [l, u] (valueOrNone none)
    newFields "slice" [l, u, st]) _ _ _
  refine wpAny_bind (h₁.use ha st fun pl el s₁ e₁ st₁ => wpAny_bind (wpAny_holding (h₂.use ha st₁ fun pu eu s₂ e₂ st₂ => wpAny_bind (wpAny_holding (wpAny_pure ?_)))))
  refine wpAny_newObj_type (T := "slice") (data := .fields #[partValue pl, partValue pu, .none]) ?_ (by show 3 ≤ sizeLine + 2; rw [sizeLine_is]; omega)
  have e3 : Ext c.G s₂ { s₂ with heap := s₂.heap.push { cls := .type "slice", data := .fields #[partValue pl, partValue pu, .none] } } := Ext.push'
  have hs : ({ s₂ with heap := s₂.heap.push { cls := .type "slice", data := .fields #[partValue pl, partValue pu, .none] } } : Shared).heap.objs.size - 1 = s₂.heap.objs.size := by simp
  have := k pl pu el eu _ ((e₁.trans e₂).trans e3) (st₂.ext e3) (by rw [hs]; exact Heap.get?_push_size _ rfl)
  rw [hs] at this
  exact this

theorem Subs_ {value slice : Expr} {pos : Pos} {A : Around} {s : Shared} {E : Value → Shared → Prop} {Q : Value → Shared → Prop}
    (h : wpAny c.M A (eval value c.env) (fun o s₁ => wpAny c.M A (eval slice c.env) (fun i s₂ => wpAny c.M A (subscriptTail value slice o i) Q E s₂) E s₁) E s) :
    wpAny c.M A (eval (.Subscript value slice pos) c.env) Q E s := Subscript_ h

/-- text[lo:hi] -/
theorem Ev_ssl {e : Expr} {lo hi : Option Expr} {li hj : Option Int} {p pos : Pos} {x : Str} (h : Ev c ρ false e (.str x)) (h₁ : EvO c ρ lo li) (h₂ : EvO c ρ hi hj) :
    Ev c ρ b (.Subscript e (.Slice lo hi none p) pos) (.str (ssl x li hj)) := .mk fun A T s ha st => by
  refine Subs_ (h.use ha st fun v s₁ e₁ st₁ r => slice_use h₁ h₂ ha st₁ fun pl pu el eu s₂ e₂ st₂ hsl => ?_)
  simp only [Rep] at r; obtain ⟨⟨t, rfl⟩, hx⟩ := r
  refine tail_any (T := "str") (typeIs_str _ x t) F.slot_str_getitem.lookup ?_ rfl
  refine wpAny_getItem_str_slice (l := pl) (u := pu) (st := none) ⟨_, hsl, rfl, rfl⟩ rfl ?_
  have hz : (ssl x li hj).length ≤ sizeLine := Nat.le_trans (ssl_length _ _ _) hx
  have hr : ∀ t, Rep s₂.heap (c.Qb T b) (.str (ssl x li hj)) (.str (ssl x li hj) t) := fun t => by simp only [Rep]; exact ⟨⟨t, rfl⟩, hz⟩
  have ts := txt_slice x li hj
  unfold Txt.slice at ts
  unfold sliceMade slicePicked
  simp only [Option.map_none, Option.getD_none, el, eu]
  split
  · rename_i hh
    rw [if_pos hh] at ts
    show Ext _ _ _ ∧ Rep _ _ _ (.str x t)
    refine ⟨e₁.trans e₂, ?_⟩
    have := hr t
    rwa [← ts] at this ⊢
  · rename_i hh
    rw [if_neg hh] at ts
    rw [ts]
    exact ⟨hz, (e₁.trans e₂).trans Ext.tok, hr _⟩

theorem RepAll.lsl {h : Heap} {P : Addr → Prop} {ds : List PV} {vs : List Value} (r : RepAll h P ds vs) (lo hi : Option Int) : RepAll h P (lsl ds lo hi) (Mine.lsl vs lo hi) := by
  unfold Mine.lsl
  rw [r.length]
  exact (r.drop _).take _

/-- list[lo:hi] -/
theorem EvF_lsl (ok : c.Ok) {e : Expr} {lo hi : Option Expr} {li hj : Option Int} {p pos : Pos} {ds : List PV} (h : EvS c ρ e ds) (h₁ : EvO c ρ lo li) (h₂ : EvO c ρ hi hj) :
    EvF c ρ (.Subscript e (.Slice lo hi none p) pos) (lsl ds li hj) := .mk fun A T s ha st => by
  refine Subs_ (h.use ha st fun a vs n s₁ e₁ st₁ l r z => slice_use h₁ h₂ ha st₁ fun pl pu el eu s₂ e₂ st₂ hsl => ?_)
  have l₂ : IsL s₂.heap a vs n := st₁.wd.list_keep e₂ (fun h => h) l
  have r₂ := r.ext st₁.wd e₂
  refine tail_any (T := "list") l₂.isList.typeIs F.slot_list_getitem.lookup ?_ rfl
  have hp : ∀ {q : Option (Int × Tok)} {i : Option Int}, q.map (·.1) = i → IsPart (partValue q) i := by
    rintro q i rfl
    cases q with
    | none => exact .none
    | some q => exact .int _ _
  have hsz : vs.size ≤ sizeLine := by have := r.length; simp at this; omega
  refine wpAny_getItem_list_slice l₂.isList (vl := partValue pl) (vu := partValue pu) (vs := .none) (lo := li) (hi := hj) (st := none) ⟨_, hsl, rfl, rfl⟩ (hp el) (hp eu) .none (by simp) ?_ hsz
  refine ⟨(e₁.trans e₂).trans Ext.push', s₂.heap.objs.size, slicePick vs li hj none, 0, rfl, ?_, IsL.new _ _, ?_, Nat.le_trans (lsl_length _ _ _) z⟩
  · cases q : s.heap.get? s₂.heap.objs.size with
    | none => rfl
    | some o =>
      exfalso
      by_cases tb : c.G.Tb s₂.heap.objs.size
      · obtain ⟨o', q', _⟩ := st₂.wd.tb _ tb
        rw [get_new] at q'; cases q'
      · have := (e₁.trans e₂).keep _ o q tb (fun h => h)
        rw [get_new] at this; cases this
  · rw [slicePick_toList]
    refine RepAll.mono (fun a o e _ p => ⟨⟨p, fun q => ?_⟩, Heap.get?_push_of_some _ e⟩) _ _ (r₂.lsl li hj)
    rw [q, get_new] at e; cases e

/-! ### items -/
noncomputable def idx (i : Int) (n : Nat) : Option Nat := if i < 0 then (if 0 ≤ i + n then some (i + n).toNat else none) else if i < n then some i.toNat else none
theorem idx_is (i : Int) (n : Nat) : seqIndex? i n = idx i n := by
  unfold seqIndex? idx
  by_cases h : i < 0
  · simp only [h, if_true]
    by_cases q : 0 ≤ i + (n : Int)
    · rw [if_pos q, if_pos (by simp; omega)]
    · rw [if_neg q, if_neg (by simp; omega)]
  · simp only [h, if_false]
    by_cases q : i < (n : Int)
    · rw [if_pos q, if_pos (by simp; omega)]
    · rw [if_neg q, if_neg (by simp; omega)]
theorem idx_bound {i : Int} {n k : Nat} (h : idx i n = some k) : -(n : Int) ≤ i ∧ i < n ∧ k = (if i < 0 then i + n else i).toNat := by
  unfold idx at h
  split at h
  · rename_i q
    split at h <;> cases h
    rw [if_pos q]; omega
  · rename_i q
    split at h <;> cases h
    rw [if_neg q]; omega

theorem Ev_item {e i : Expr} {pos : Pos} {ds : List PV} {k : Int} {j : Nat} {d : PV} (h : EvS c ρ e ds) (hi : Ev c ρ false i (.int k)) (hj : idx k ds.length = some j) (hd : ds[j]? = some d)
    (hs : ∀ o iv, subscripted i false o iv = operate [o, iv] (getItem o iv)) : Ev c ρ b (.Subscript e i pos) d := .mk fun A T s ha st => by
  refine Subs_ (h.use ha st fun a vs n s₁ e₁ st₁ l r z => hi.use ha st₁ fun v s₂ e₂ st₂ ri => ?_)
  simp only [Rep] at ri; obtain ⟨t, rfl⟩ := ri
  have l₂ : IsL s₂.heap a vs n := st₁.wd.list_keep e₂ (fun h => h) l
  obtain ⟨v, hv, rv⟩ := (r.ext st₁.wd e₂).get hd
  have hb := idx_bound hj
  have hlen : vs.size = ds.length := by simpa using r.length
  rw [sizeLine_is] at z
  refine tail_any (T := "list") l₂.isList.typeIs F.slot_list_getitem.lookup ?_ (hs _ _)
  have fin : Ext c.G s s₂ ∧ Rep s₂.heap (c.Qb T b) d v := ⟨e₁.trans e₂, rv.weak fun _ q => Cx.Qb_of q⟩
  by_cases hk : k < 0
  · rw [if_pos hk] at hb
    refine wpAny_getItem_list_neg l₂.isList hk (by omega) (by omega) ?_ fin
    rw [hlen, ← Array.getElem?_toList, ← hb.2.2]; exact hv
  · rw [if_neg hk] at hb
    refine wpAny_getItem_list l₂.isList (by omega) (by omega) ?_ fin
    rw [← Array.getElem?_toList, ← hb.2.2]; exact hv

theorem Ev_itemT {e i : Expr} {pos : Pos} {ds : List PV} {k : Int} {j : Nat} {d : PV} (h : Ev c ρ b e (.tuple ds)) (hi : Ev c ρ false i (.int k)) (hj : idx k ds.length = some j) (hd : ds[j]? = some d)
    (hs : ∀ o iv, subscripted i false o iv = operate [o, iv] (getItem o iv)) : Ev c ρ b (.Subscript e i pos) d := .mk fun A T s ha st => by
  refine Subs_ (h.use ha st fun v₀ s₁ e₁ st₁ r => hi.use ha st₁ fun v s₂ e₂ st₂ ri => ?_)
  simp only [Rep] at ri; obtain ⟨t, rfl⟩ := ri
  have r₂ := r.ext st₁.wd e₂
  simp only [Rep] at r₂
  obtain ⟨a, vs, n, rfl, _, l₂, r₂, z⟩ := r₂
  obtain ⟨v, hv, rv⟩ := r₂.get hd
  have hb := idx_bound hj
  have hlen : vs.size = ds.length := by simpa using r₂.length
  rw [sizeLine_is] at z
  refine tail_any (T := "tuple") ⟨_, l₂, rfl⟩ F.slot_tuple_getitem.lookup ?_ (hs _ _)
  exact P.getItem_tuple l₂ (by omega) (by omega) (by rw [hlen, idx_is]; exact hj) (by rw [← Array.getElem?_toList]; exact hv) ⟨e₁.trans e₂, rv⟩

theorem Ev_itemS {e i : Expr} {pos : Pos} {x : Str} {k : Int} {j : Nat} {ch : Nat} (h : Ev c ρ false e (.str x)) (hi : Ev c ρ false i (.int k)) (hj : idx k x.length = some j) (hd : (Sl x)[j]? = some ch)
    (hs : ∀ o iv, subscripted i false o iv = operate [o, iv] (getItem o iv)) : Ev c ρ b (.Subscript e i pos) (.str (mkS [ch])) := .mk fun A T s ha st => by
  refine Subs_ (h.use ha st fun v₀ s₁ e₁ st₁ r => hi.use ha st₁ fun v s₂ e₂ st₂ ri => ?_)
  simp only [Rep] at ri r; obtain ⟨t, rfl⟩ := ri; obtain ⟨⟨u, rfl⟩, z⟩ := r
  have hb := idx_bound hj
  rw [sizeLine_is] at z
  refine tail_any (T := "str") (typeIs_str _ x u) F.slot_str_getitem.lookup ?_ (hs _ _)
  refine P.getItem_str (c := ch) ?_ ?_ ⟨(e₁.trans e₂).trans Ext.tok, by simp only [Rep]; exact ⟨⟨_, rfl⟩, by show (mkS [ch]).length ≤ _; rw [Str_len]; simp [sizeLine_is]⟩⟩
  · simp; omega
  · rw [idx_is, hj]; simpa using hd

/-- two lists one behind the other -/
theorem EvF_cat (ok : c.Ok) {l r : Expr} {pos} {ds es : List PV} (h₁ : EvS c ρ l ds) (h₂ : EvS c ρ r es) (hz : ds.length + es.length ≤ sizeLine) : EvF c ρ (.BinOp l .Add r pos) (ds ++ es) := .mk fun A T s ha st => by
  refine wpAny_BinOp (h₁.use ha st fun a vs n s₁ e₁ st₁ l₁ r₁ z₁ => h₂.use ha st₁ fun a' vs' n' s₂ e₂ st₂ l₂ r₂ z₂ => ?_)
  have l₁' : IsL s₂.heap a vs n := st₁.wd.list_keep e₂ (fun h => h) l₁
  have hl1 := r₁.length; have hl2 := r₂.length
  simp at hl1 hl2
  refine P.add_list l₁' l₂ ?_ (by omega)
  refine ⟨(e₁.trans e₂).trans Ext.push', s₂.heap.objs.size, vs ++ vs', 0, rfl, ?_, IsL.new _ _, ?_, by simp; exact hz⟩
  · cases q : s.heap.get? s₂.heap.objs.size with
    | none => rfl
    | some o =>
      exfalso
      by_cases tb : c.G.Tb s₂.heap.objs.size
      · obtain ⟨o', q', _⟩ := st₂.wd.tb _ tb
        rw [get_new] at q'; cases q'
      · have := (e₁.trans e₂).keep _ o q tb (fun h => h)
        rw [get_new] at this; cases this
  · rw [Array.toList_append]
    refine RepAll.mono (fun a o e _ p => ⟨⟨p, fun q => ?_⟩, Heap.get?_push_of_some _ e⟩) _ _ ((r₁.ext st₁.wd e₂).append r₂)
    rw [q, get_new] at e; cases e
end
end Mine
end

section
open PySem PyProof.Rows
open PySem.SeqAt
namespace Mine

/-- what stands in the globals and the built-ins, from the law's start on -/
structure Gl (G : Wo) (mg mb : Str → Option Value) : Prop where
  g : G.h₁.Ns mainGlobals mg
  b : G.h₁.Ns builtinsNs mb
  boot : ∀ x : Str, x ≠ "__name__" → mb x = bootBuiltins x
  nolimit : G.h₁.NoLimit
  tb : ∀ b o, G.h₁.get? b = some o → ¬ Obj.codeLike o → ¬ G.Tb b

theorem Gl.ns {G : Wo} {mg mb} (g : Gl G mg mb) {s : Shared} (w : Wd G s) {a : Addr} {m : Str → Option Value} (h : G.h₁.Ns a m) : s.heap.Ns a m := by
  obtain ⟨o, es, ep, ho, hd, r⟩ := h
  exact ⟨o, es, ep, w.old _ _ ho (g.tb _ _ ho (not_codeLike_dict hd)), hd, r⟩
theorem Gl.noLimit {G : Wo} {mg mb} (g : Gl G mg mb) {s : Shared} (w : Wd G s) : s.heap.NoLimit := let ⟨mc, h, e⟩ := g.nolimit; ⟨mc, g.ns w h, e⟩

section
variable {c : Cx} {ρ : Env1} {b : Bool} {mg mb : Str → Option Value}

theorem load_global (ok : c.Ok) (g : Gl c.G mg mb) {x : Str} {pos : Pos} {v : Value} (hk : c.env.kindOf x = some .globalImplicit) (hv : mg x = some v) (hp : plainName x = true)
    {A : Around} {s : Shared} (w : Wd c.G s) {E : Value → Shared → Prop} {Q : Value → Shared → Prop} (h : Q v s) : wpAny c.M A (eval (.Name x pos) c.env) Q E s :=
  Calls.Name_function_global ok.kind hk (Calls.loadGlobal_global (by rw [ok.glob]; exact g.ns w g.g) hv h) (plainName_spec hp).2
theorem load_builtin (ok : c.Ok) (g : Gl c.G mg mb) {x : Str} {pos : Pos} {v : Value} (hk : c.env.kindOf x = some .globalImplicit) (hv : mg x = none) (hb : bootBuiltins x = some v) (hp : plainName x = true) (hn : x ≠ "__name__")
    {A : Around} {s : Shared} (w : Wd c.G s) {E : Value → Shared → Prop} {Q : Value → Shared → Prop} (h : Q v s) : wpAny c.M A (eval (.Name x pos) c.env) Q E s :=
  Calls.Name_function_global ok.kind hk (Calls.loadGlobal_builtin (by rw [ok.glob]; exact g.ns w g.g) hv (by rw [ok.blt]; exact g.ns w g.b) ((g.boot x hn).trans hb) h) (plainName_spec hp).2

/-! ### calls -/
theorem evalArgs_ev {f : Value} {pos : Pos} {es : List Expr} {ds : List PV} (h : EvL c ρ b es ds) {A : Around} {T : Own1} {s : Shared} (ha : AOk c.rk A) (st : St c ρ T s) {E : Value → Shared → Prop}
    {Q : Args → Shared → Prop} (k : ∀ vs s', Ext c.G s s' → St c ρ T s' → RepAll s'.heap (c.Qb T b) ds vs → Q ⟨vs, []⟩ s') : wpAny c.M A (evalArgs f true (backTo pos (starEach es c.env)) []) Q E s := by
  cases h with
  | nil => exact PySem.evalArgs_none (k [] s Evo.refl st RepAll.nil)
  | cons h hs r =>
    have := spliced_ev (pos := pos) (EvL.cons h hs r) ha st (E := E) k
    rw [starEach_cons hs] at this ⊢
    exact Calls.evalArgs_plain this

theorem noStars {pos : Pos} {es : List Expr} {ds : List PV} (h : EvL c ρ b es ds) : (backTo pos (starEach es c.env)).any (·.1) = false := by
  induction h with
  | nil => rfl
  | cons h hs r ih =>
    rw [starEach_cons hs]
    simp only [backTo, List.map_cons, List.any_cons, Bool.false_or]
    exact ih
theorem noStars' {pos : Pos} {es : List Expr} {ds : List PV} (h : EvL c ρ b es ds) : (backTo pos (starEach es c.env)).all (fun x => !x.1) = true := by
  have := noStars (pos := pos) h
  rw [List.any_eq_false] at this
  rw [List.all_eq_true]
  intro x hx
  simpa using this x hx

/-- a built-in (or a type) called upon data -/
structure BiOk (G : Wo) (f : Value) (ds : List PV) (d : PV) : Prop where
  run : ∀ (A : Around) (s : Shared) (P : Addr → Prop) (vs : List Value), A.handled = none → A.depth ≤ 690 → A.units + 200 < cLine → Wd G s → RepAll s.heap P ds vs →
    wpAny G.M A (call f vs) (fun v s' => Ext G s s' ∧ Rep s'.heap (fun a => P a ∨ s.heap.get? a = none) d v) (fun _ _ => False) s

theorem AOk.handledN {k : Nat} {A : Around} (h : AOk k A) : A.handled = none ∧ A.depth ≤ 690 ∧ A.units + 200 < cLine := ⟨h.handled, by have := h.depth; omega, h.line⟩

theorem eval_Call_Name {x : Str} {p pos : Pos} {es : List Expr} {env : Env} : eval (.Call (.Name x p) es [] pos) env = (do callWith pos (← eval (.Name x p) env) [] (backTo pos (starEach es env)) []) := rfl

theorem biOk_fin (ok : c.Ok) {f : Value} {ds : List PV} {d : PV} (hb : BiOk c.G f ds d) {A : Around} {T : Own1} {s s₁ : Shared} (ha : AOk c.rk A) (e₁ : Ext c.G s s₁) (st₁ : St c ρ T s₁) {vs : List Value}
    (r : RepAll s₁.heap (c.Qb T b) ds vs) : wpAny c.M A (call f vs) (fun v s' => Ext c.G s s' ∧ Rep s'.heap (c.Qb T b) d v) (fun _ _ => False) s₁ :=
  wpAny_mono (hb.run A s₁ _ vs ha.handledN.1 ha.handledN.2.1 ha.handledN.2.2 st₁.wd r) (fun v s' ⟨e, q⟩ => ⟨e₁.trans e, q.weak fun a hq => hq.elim id fun hn => Cx.Qb_of (st₁.newP ok hn)⟩) fun _ _ h => h

theorem Ev_callB (ok : c.Ok) (g : Gl c.G mg mb) {x : Str} {p pos : Pos} {es : List Expr} {id : String} {ds : List PV} {d : PV} (hk : c.env.kindOf x = some .globalImplicit) (hv : mg x = none)
    (hb : bootBuiltins x = some (.builtin id)) (hp : plainName x = true) (hn : x ≠ "__name__") (h : EvL c ρ b es ds) (hd : BiOk c.G (.builtin id) ds d) : Ev c ρ b (.Call (.Name x p) es [] pos) d := .mk fun A T s ha st => by
  rw [eval_Call_Name]
  refine wpAny_bind (load_builtin ok g hk hv hb hp hn st.wd ?_)
  refine Calls.callWith_builtin (noStars h) (evalArgs_ev h ha st fun vs s₁ e₁ st₁ r => ?_)
  exact biOk_fin ok hd ha e₁ st₁ r
theorem Ev_callT (ok : c.Ok) (g : Gl c.G mg mb) {x : Str} {p pos : Pos} {es : List Expr} {T₀ : String} {ds : List PV} {d : PV} (hk : c.env.kindOf x = some .globalImplicit) (hv : mg x = none)
    (hb : bootBuiltins x = some (.type T₀)) (hp : plainName x = true) (hn : x ≠ "__name__") (h : EvL c ρ b es ds) (hd : BiOk c.G (.type T₀) ds d) : Ev c ρ b (.Call (.Name x p) es [] pos) d := .mk fun A T s ha st => by
  rw [eval_Call_Name]
  refine wpAny_bind (load_builtin ok g hk hv hb hp hn st.wd ?_)
  refine PySem.callWith_type (noStars h) (evalArgs_ev h ha st fun vs s₁ e₁ st₁ r => ?_)
  exact biOk_fin ok hd ha e₁ st₁ r

theorem Ev.flat {e : Expr} {d : PV} (hf : d.flat = true) (h : Ev c ρ false e d) : Ev c ρ b e d := .mk fun A T s ha st =>
  h.use ha st fun v s' e' _ r => ⟨e', r.flat hf⟩

/-! ### the text's own functions: a contract -/
structure Fn (G : Wo) (k : Nat) (fa : Addr) (f : List PV → PV → Prop) : Prop where
  run : ∀ (A : Around) (s : Shared) (P : Addr → Prop) (vs : List Value) (ds : List PV) (d : PV), AOk k A → Wd G s → (∀ a, s.heap.get? a = none → P a) → RepAll s.heap P ds vs → f ds d →
    codeAny G.M A (.call (.ref fa) ⟨vs, []⟩) (fun r s' => ∃ v, r = .ok (.ret v) ∧ Ext G s s' ∧ Rep s'.heap P d v) s

theorem AOk.mono {k k' : Nat} {A : Around} (h : AOk k' A) (hk : k ≤ k') : AOk k A := ⟨h.handled, by have := h.depth; omega, by have := h.units; omega⟩

structure FnAt (G : Wo) (mg : Str → Option Value) (x : Str) (fa : Addr) : Prop where
  glob : mg x = some (.ref fa)
  obj : ∃ o fd, G.h₁.get? fa = some o ∧ o.data = .func fd

theorem not_codeLike_func {o : Obj} {f} (h : o.data = .func f) : ¬ Obj.codeLike o := fun ⟨_, _, e⟩ => by rw [h] at e; cases e

theorem Ev_callU (ok : c.Ok) (g : Gl c.G mg mb) {x : Str} {p pos : Pos} {es : List Expr} {fa : Addr} {k : Nat} {f : List PV → PV → Prop} {ds : List PV} {d : PV} (hk : c.env.kindOf x = some .globalImplicit)
    (hf : FnAt c.G mg x fa) (hp : plainName x = true) (hF : Fn c.G k fa f) (hle : k ≤ c.rk) (h : EvL c ρ b es ds) (hd : f ds d) : Ev c ρ b (.Call (.Name x p) es [] pos) d := .mk fun A T s ha st => by
  rw [eval_Call_Name]
  refine wpAny_bind (load_global ok g hk hf.glob hp st.wd ?_)
  obtain ⟨o, fd, ho, hod⟩ := hf.obj
  refine Calls.callWith_function (o := o) (fd := fd) (evalArgs_ev h ha st fun vs s₁ e₁ st₁ r => ⟨⟨st₁.wd.old _ _ ho (g.tb _ _ ho (not_codeLike_func hod)), hod⟩, ?_⟩)
  refine wpAny_call (codeAny_mono (hF.run A s₁ (c.Qb T b) vs ds d (ha.mono hle) st₁.wd (fun a hn => Cx.Qb_of (st₁.newP ok hn)) r hd) ?_)
  rintro r s' ⟨v, rfl, e, q⟩
  exact ⟨e₁.trans e, q⟩

/-! ### methods -/
theorem Ev_meth (ok : c.Ok) {o : Expr} {name : Str} {apos pos : Pos} {es : List Expr} {T₀ id : String} {d₀ : PV} {ds : List PV} {d : PV} (hbase : attributeBase o name c.env (eval o c.env) = eval o c.env)
    (hline : (apos.endLine == pos.line) = true) (pa : PlainAttrs T₀) (slot : Slot T₀ name id) (hty : typeOf (.builtin id) = pure (.type "method_descriptor")) (hlen : es.length < 30)
    (hT : ∀ (s : Shared) (P : Addr → Prop) (v : Value), Rep s.heap P d₀ v → s.TypeIs v T₀ ∧ ∀ a, v = .ref a → ∃ ob, s.heap.get? a = some ob ∧ ob.dict = none)
    (h₀ : Ev c ρ b o d₀) (h : EvL c ρ b es ds) (hd : BiOk c.G (.builtin id) (d₀ :: ds) d) : Ev c ρ b (.Call (.Attribute o name apos) es [] pos) d := .mk fun A T s ha st => by
  refine wpAny_Call_method hbase ?_ hline pa slot hty (h₀.use ha st fun v s₁ e₁ st₁ r => ⟨(hT _ _ _ r).1, (hT _ _ _ r).2, ?_⟩)
  · rw [noStars' h]
    show (true && true && decide (es.length + 0 + 0 < 30)) = true
    simpa using hlen
  · refine Calls.callWith_builtin (noStars h) (evalArgs_ev h ha st₁ fun vs s₂ e₂ st₂ r₂ => ?_)
    exact biOk_fin ok hd ha (e₁.trans e₂) st₂ (.cons (r.ext st₁.wd e₂) r₂)

theorem rep_str_type {x : Str} (s : Shared) (P : Addr → Prop) (v : Value) (r : Rep s.heap P (.str x) v) : s.TypeIs v "str" ∧ ∀ a, v = .ref a → ∃ ob, s.heap.get? a = some ob ∧ ob.dict = none := by
  simp only [Rep] at r; obtain ⟨⟨t, rfl⟩, _⟩ := r
  exact ⟨typeIs_str s x t, fun a e => by cases e⟩
theorem rep_list_type {x : List PV} (s : Shared) (P : Addr → Prop) (v : Value) (r : Rep s.heap P (.list x) v) : s.TypeIs v "list" ∧ ∀ a, v = .ref a → ∃ ob, s.heap.get? a = some ob ∧ ob.dict = none := by
  simp only [Rep] at r; obtain ⟨a, vs, n, rfl, _, l, _⟩ := r
  exact ⟨l.isList.typeIs, fun a' e => by cases e; exact ⟨_, l, rfl⟩⟩
end
end Mine
end

section
open PySem PyProof.Rows
open PySem.SeqAt
namespace Mine

inductive PF where
  | next | brk | cont
  | ret (d : PV)

noncomputable def FlOk (s : Shared) (P : Addr → Prop) : Flow → PF → Prop
  | .next, .next => True
  | .brk, .brk => True
  | .cont, .cont => True
  | .ret v, .ret d => Rep s.heap P d v
  | _, _ => False

structure TGrow (s : Shared) (T T' : Own1) : Prop where
  sub : ∀ p ∈ T, p ∈ T'
  new : ∀ p ∈ T', p ∈ T ∨ s.heap.get? p.2 = none
theorem TGrow.refl {s : Shared} {T : Own1} : TGrow s T T := ⟨fun _ h => h, fun _ h => .inl h⟩

/-- the frame's own dict and cells -/
noncomputable def Cx.Xs (c : Cx) : Addr → Prop := fun a => a = c.L ∨ a ∈ c.mc
theorem Cx.Xs_X {c : Cx} {T : Own1} {b : Addr} (h : c.Xs b) : c.X T b := h.elim .inl fun h => .inr (.inl h)
theorem Cx.Q_notX {c : Cx} {T : Own1} {b : Addr} (h : c.Q T b) : ¬ c.X T b := by
  rintro (e | e | ⟨p, hp, e⟩)
  · exact h.1.2.1 e
  · exact h.1.2.2.1 e
  · exact h.2 p hp e

/-- what is dead was dead -/
theorem dead_back {c : Cx} {ρ : Env1} {T T' : Own1} {s s' : Shared} (w : Wd c.G s) (x : St c ρ T' s') (e : Evo c.G (c.X T) s s') (sub : ∀ p ∈ T, p ∈ T') {a : Addr} (h : s'.heap.get? a = none) : s.heap.get? a = none := by
  cases q : s.heap.get? a with
  | none => rfl
  | some o =>
    exfalso
    by_cases tb : c.G.Tb a
    · obtain ⟨o', q', _⟩ := x.wd.tb a tb
      rw [h] at q'; cases q'
    by_cases hX : c.X T a
    · rcases hX with e | e | ⟨p, hp, e⟩
      · obtain ⟨m, o, _, _, hL, _⟩ := x.ns
        rw [← e, h] at hL; cases hL
      · obtain ⟨v, o, hc, _⟩ := x.mcs a e
        rw [h] at hc; cases hc
      · obtain ⟨_, vs, n, l⟩ := x.own p (sub p hp)
        have l' : s'.heap.get? p.2 = _ := l
        rw [← e, h] at l'; cases l'
    · rw [e.keep a o q tb hX] at h; cases h

theorem Evo.transT {c : Cx} {T T' : Own1} {s s' s'' : Shared} (e : Evo c.G (c.X T) s s') (g : TGrow s T T') (e' : Evo c.G (c.X T') s' s'') : Evo c.G (c.X T) s s'' := by
  refine ⟨fun b o h t n => e'.keep b o (e.keep b o h t n) t ?_, fun w => e'.wd (e.wd w)⟩
  rintro (q | q | ⟨p, hp, q⟩)
  · exact n (.inl q)
  · exact n (.inr (.inl q))
  · rcases g.new p hp with hp | hn
    · exact n (.inr (.inr ⟨p, hp, q⟩))
    · rw [← q, h] at hn; cases hn
theorem TGrow.trans {c : Cx} {ρ : Env1} {T T' T'' : Own1} {s s' : Shared} (w : Wd c.G s) (x : St c ρ T' s') (e : Evo c.G (c.X T) s s') (g : TGrow s T T') (g' : TGrow s' T' T'') : TGrow s T T'' :=
  ⟨fun p h => g'.sub p (g.sub p h), fun p h => (g'.new p h).elim (fun h => g.new p h) fun h => .inr (dead_back w x e g.sub h)⟩

structure Ex (c : Cx) (ρ : Env1) (ss : List Stmt) (Q : PF → Env1 → Prop) : Prop where
  run : ∀ (A : Around) (T : Own1) (s : Shared), AOk c.rk A → St c ρ T s →
    wpAny c.M A (execs ss c.env) (fun fl s' => ∃ ρ' T' pf, St c ρ' T' s' ∧ Evo c.G (c.X T) s s' ∧ TGrow s T T' ∧ FlOk s' c.P fl pf ∧ Q pf ρ') (fun _ _ => False) s
structure Ex1 (c : Cx) (ρ : Env1) (st : Stmt) (Q : PF → Env1 → Prop) : Prop where
  run : ∀ (A : Around) (T : Own1) (s : Shared), AOk c.rk A → St c ρ T s →
    wpAny c.M A (exec st c.env) (fun fl s' => ∃ ρ' T' pf, St c ρ' T' s' ∧ Evo c.G (c.X T) s s' ∧ TGrow s T T' ∧ FlOk s' c.P fl pf ∧ Q pf ρ') (fun _ _ => False) s

section
variable {c : Cx} {ρ : Env1} {Q : PF → Env1 → Prop}

theorem Ex.sub {ρ' : Env1} {ss} (h : Ex c ρ ss Q) (hs : SubEnv ρ ρ') : Ex c ρ' ss Q := .mk fun A T s ha st => h.run A T s ha (st.sub hs)
theorem Ex.mono {ss} {Q' : PF → Env1 → Prop} (h : Ex c ρ ss Q) (hq : ∀ pf ρ', Q pf ρ' → Q' pf ρ') : Ex c ρ ss Q' := .mk fun A T s ha st =>
  wpAny_mono (h.run A T s ha st) (fun fl s' ⟨ρ', T', pf, h1, h2, h3, h4, h5⟩ => ⟨ρ', T', pf, h1, h2, h3, h4, hq _ _ h5⟩) fun _ _ x => x
theorem Ex_nil (h : Q .next ρ) : Ex c ρ [] Q := .mk fun A T s ha st => wpAny_execs_nil ⟨ρ, T, .next, st, Evo.refl, TGrow.refl, trivial, h⟩
theorem Ex_cons {st : Stmt} {ss : List Stmt} (h : Ex1 c ρ st (fun pf ρ' => match pf with | .next => Ex c ρ' ss Q | pf => Q pf ρ')) : Ex c ρ (st :: ss) Q := .mk fun A T s ha st₀ => by
  refine wpAny_execs_cons (wpAny_mono (h.run A T s ha st₀) (fun fl s₁ ⟨ρ₁, T₁, pf, st₁, e₁, g₁, f₁, q₁⟩ => ?_) fun _ _ x => x)
  cases fl with
  | next =>
    cases pf <;> simp [FlOk] at f₁
    refine wpAny_mono (q₁.run A T₁ s₁ ha st₁) (fun fl s₂ ⟨ρ₂, T₂, pf, st₂, e₂, g₂, f₂, q₂⟩ => ?_) fun _ _ x => x
    exact ⟨ρ₂, T₂, pf, st₂, e₁.transT g₁ e₂, TGrow.trans st₀.wd st₁ e₁ g₁ g₂, f₂, q₂⟩
  | brk => cases pf <;> simp [FlOk] at f₁; exact ⟨ρ₁, T₁, .brk, st₁, e₁, g₁, trivial, q₁⟩
  | cont => cases pf <;> simp [FlOk] at f₁; exact ⟨ρ₁, T₁, .cont, st₁, e₁, g₁, trivial, q₁⟩
  | ret v => cases pf <;> simp [FlOk] at f₁; exact ⟨ρ₁, T₁, .ret _, st₁, e₁, g₁, f₁, q₁⟩

theorem Ex1_return {e : Expr} {pos} {d : PV} (h : Ev c ρ false e d) (hq : Q (.ret d) ρ) : Ex1 c ρ (.Return (some e) pos) Q := .mk fun A T s ha st =>
  wpAny_Return_some (h.use ha st fun v s' e' st' r => ⟨ρ, T, .ret d, st', e'.evo, TGrow.refl, r.weak fun a q => q.1.1, hq⟩)

theorem Ex1_if {t : Expr} {a b : List Stmt} {pos} {k : Bool} (ht : IsT1 c ρ t k) (h₁ : k = true → Ex c ρ a Q) (h₂ : k = false → Ex c ρ b Q) : Ex1 c ρ (.If t a b pos) Q := .mk fun A T s ha st =>
  wpAny_If (ht.use ha st fun s' e st' => by
    have fin : ∀ (fl : Flow) (s'' : Shared), (∃ ρ' T' pf, St c ρ' T' s'' ∧ Evo c.G (c.X T) s' s'' ∧ TGrow s' T T' ∧ FlOk s'' c.P fl pf ∧ Q pf ρ') →
        ∃ ρ' T' pf, St c ρ' T' s'' ∧ Evo c.G (c.X T) s s'' ∧ TGrow s T T' ∧ FlOk s'' c.P fl pf ∧ Q pf ρ' := fun fl s'' ⟨ρ', T', pf, h1, h2, h3, h4, h5⟩ =>
      ⟨ρ', T', pf, h1, (Ext.evo e).trans h2, TGrow.trans st.wd st' (Ext.evo e) TGrow.refl h3, h4, h5⟩
    cases k with
    | true => exact wpAny_mono ((h₁ rfl).run A T s' ha st') fin fun _ _ x => x
    | false => exact wpAny_mono ((h₂ rfl).run A T s' ha st') fin fun _ _ x => x)

theorem Ex1_continue {pos} (h : Q .cont ρ) : Ex1 c ρ (.Continue pos) Q := .mk fun A T s ha st => by
  show wpAny _ _ (do standAt pos; pure Flow.cont) _ _ _
  exact wpAny_bind (wpAny_standAt (wpAny_pure ⟨ρ, T, .cont, st, Evo.refl, TGrow.refl, trivial, h⟩))

/-! ### storing a name -/
theorem cells_ne {cs : List (Str × Addr)} (hp : cs.Pairwise fun x y => x.2 ≠ y.2) {x y : Str} {a b : Addr} (hx : cs.lookup x = some a) (hy : cs.lookup y = some b) (hne : x ≠ y) : a ≠ b := fun e => by
  subst e
  exact hne (name_of_addr hp (mem_of_lookup hx) (mem_of_lookup hy))

/-- the frame's dict or one of its cells has been written -/
theorem St.written (ok : c.Ok) {T : Own1} {s : Shared} (st : St c ρ T s) {u : Addr} {h' : Heap} {tk : Nat} (hu : u = c.L ∨ u ∈ c.mc) (hs : Heap.SameBut u s.heap h') :
    Evo c.G c.Xs s { s with heap := h', toks := tk } := by
  refine Evo.but (fun b o hb e => (hs.2 b hb).trans e) hu ?_ ?_
  · cases q : c.G.h₁.get? u with
    | none => rfl
    | some o =>
      obtain ⟨o', e⟩ := ok.old u o q
      rcases hu with rfl | hu
      · rw [ok.Lnew] at e; cases e
      · rw [ok.mcnew u hu] at e; cases e
  · intro o e
    rcases hu with rfl | hu
    · obtain ⟨m, o', _, _, hL, hd, _⟩ := st.ns
      rw [hL] at e; cases e
      exact not_codeLike_dict hd
    · obtain ⟨v, o', hc, hd⟩ := st.mcs u hu
      rw [hc] at e; cases e
      exact not_codeLike_cell hd

theorem St.storing (ok : c.Ok) {T : Own1} {s : Shared} (st : St c ρ T s) {x : Str} {v : Value} {A : Around} {E : Value → Shared → Prop} {R : Unit → Shared → Prop}
    (hk : c.env.kindOf x = some .local ∨ (c.env.kindOf x = some .cell ∧ c.comp = false))
    (k : ∀ s', Evo c.G c.Xs s s' → (∀ a vs n, IsL s.heap a vs n → IsL s'.heap a vs n) → (∃ m, s'.heap.Ns c.L m) → (∀ a ∈ c.mc, ∃ v, s'.heap.IsCell a v) → VarAt c s' x v →
      (∀ y w, y ≠ x → VarAt c s y w → VarAt c s' y w) → R () s') : wpAny c.M A (storeName c.env x v) R E s := by
  obtain ⟨m, hm⟩ := st.ns
  rcases hk with hk | ⟨hk, hcomp⟩
  · refine wpAny_storeName_local hk hm (fun h' hn hs => ?_) (by rw [ok.kind]; rfl)
    have e : Evo c.G c.Xs s { s with heap := h', toks := s.toks + 1 } := st.written ok (.inl rfl) hs
    obtain ⟨o, es, ep, hL, hd, hsk, hfm⟩ := hm
    have hne : ∀ {a : Addr} {o' : Obj}, s.heap.get? a = some o' → (∀ es ep, o'.data ≠ .dict es ep) → a ≠ c.L := fun {a o'} e q r => by
      subst r; rw [hL] at e; cases e; exact q _ _ hd
    have hcell : ∀ a v, s.heap.IsCell a v → h'.IsCell a v := fun a v hc => hc.sameBut hs (let ⟨o', e, q⟩ := hc; hne e (by rw [q]; nofun))
    refine k _ e (fun a vs n l => (hs.2 a (hne l nofun)).trans l) ⟨_, hn⟩ (fun a ha => let ⟨v, hc⟩ := st.mcs a ha; ⟨v, hcell a v hc⟩) (.inl ⟨hk, _, hn, by simp⟩) ?_
    intro y w hy hv
    rcases hv with ⟨hky, m', hm', hw⟩ | ⟨hky, a, ha, hc⟩
    · refine .inl ⟨hky, _, hn, ?_⟩
      obtain ⟨o', es', ep', hL', hd', _, hf'⟩ := hm'
      have : m' y = m y := by
        have e1 := hL'.symm.trans hL
        cases e1
        rw [hd'] at hd; cases hd
        rw [← hf' y, hfm y]
      simp only [hy, if_false]
      rw [← this]; exact hw
    · exact .inr ⟨hky, a, ha, hcell a _ hc⟩
  · obtain ⟨a, ha, hl⟩ := ok.cellMc x hk hcomp
    obtain ⟨v₀, hc⟩ := st.mcs a ha
    refine wpAny_storeName_cell ok.kind hk hl hc fun h' hn hs => ?_
    have e : Evo c.G c.Xs s { s with heap := h', toks := s.toks } := st.written ok (.inr ha) hs
    obtain ⟨o, ho, hd⟩ := hc
    have hne : ∀ {a' : Addr} {o' : Obj}, s.heap.get? a' = some o' → (∀ v, o'.data ≠ .cell v) → a' ≠ a := fun {a' o'} e q r => by
      subst r; rw [ho] at e; cases e; exact q _ hd
    have hns : ∀ m, s.heap.Ns c.L m → h'.Ns c.L m := fun m hm => hm.sameBut hs (let ⟨o', es, ep, e, q, _⟩ := hm; hne e (by rw [q]; nofun))
    refine k _ e (fun a' vs n l => (hs.2 a' (hne l nofun)).trans l) ⟨m, hns m hm⟩ (fun a' ha' => ?_) (.inr ⟨.inl hk, a, hl, hn⟩) ?_
    · by_cases q : a' = a
      · exact ⟨_, q ▸ hn⟩
      · obtain ⟨v, hc⟩ := st.mcs a' ha'
        exact ⟨v, hc.sameBut hs q⟩
    · intro y w hy hv
      rcases hv with ⟨hky, m', hm', hw⟩ | ⟨hky, a', ha', hc'⟩
      · exact .inl ⟨hky, m', hns m' hm', hw⟩
      · exact .inr ⟨hky, a', ha', hc'.sameBut hs (cells_ne (ok.apart hcomp) ha' hl hy)⟩

theorem lookup_cons_ne {x y : Str} {d : PV} {ρ : Env1} (h : y ≠ x) : ((x, d) :: ρ).lookup y = ρ.lookup y := by
  rw [List.lookup_cons]
  have : (y == x) = false := by simpa using h
  rw [this]
theorem lookup_cons_self {x : Str} {d : PV} {ρ : Env1} : ((x, d) :: ρ).lookup x = some d := by
  rw [List.lookup_cons, beq_self_eq_true]

theorem OwnRep.evo {T : Own1} {s s' : Shared} {x : Str} {d : PV} {v : Value} (w : Wd c.G s) (e : Evo c.G c.Xs s s') (hl : ∀ a vs n, IsL s.heap a vs n → IsL s'.heap a vs n) (r : OwnRep c T s x d v) : OwnRep c T s' x d v := by
  obtain ⟨a, ds, vs, n, e1, e2, e3, e4, e5, e6⟩ := r
  exact ⟨a, ds, vs, n, e1, e2, e3, hl _ _ _ e4, e5.evo w e (fun _ h q => Cx.Q_notX h (Cx.Xs_X q)), e6⟩

theorem St.avs_store (ok : c.Ok) {T : Own1} {s s' : Shared} (st : St c ρ T s) (e : Evo c.G c.Xs s s') : ∀ a ∈ c.av, ∃ o, s'.heap.get? a = some o ∧ ∀ vs n, o.data ≠ .seq vs n := fun a h => by
  obtain ⟨o, ho, q⟩ := st.avs a h
  refine st.wd.alive_keep e (fun hx => ?_) ho q
  exact (ok.avX a h) hx

/-- the frame behind a store of x -/
theorem St.final (ok : c.Ok) {T : Own1} {s s' : Shared} (st : St c ρ T s) {x : Str} {d : PV} {v : Value} (ho : x ∉ c.own) (e : Evo c.G c.Xs s s') (hl : ∀ a vs n, IsL s.heap a vs n → IsL s'.heap a vs n)
    (hns : ∃ m, s'.heap.Ns c.L m) (hmc : ∀ a ∈ c.mc, ∃ v, s'.heap.IsCell a v) (hx : VarAt c s' x v) (hy : ∀ y w, y ≠ x → VarAt c s y w → VarAt c s' y w) (r : Rep s'.heap (c.Q T) d v) : St c ((x, d) :: ρ) T s' := by
  refine ⟨e.wd st.wd, fun b o h t => ?_, hns, hmc, fun y d' hd => ?_, fun p hp => ?_, st.nodup, st.avs_store ok e⟩
  · refine e.keep b o (st.keep0 b o h t) t ?_
    rintro (q | q)
    · rw [q, ok.Lnew] at h; cases h
    · rw [ok.mcnew b q] at h; cases h
  · by_cases q : y = x
    · subst q
      rw [lookup_cons_self] at hd; cases hd
      exact ⟨v, hx, fun h => absurd h ho, fun _ => r⟩
    · rw [lookup_cons_ne q] at hd
      obtain ⟨w, h1, h2, h3⟩ := st.vars y d' hd
      exact ⟨w, hy y w q h1, fun h => (h2 h).evo st.wd e hl, fun h => (h3 h).evo st.wd e (fun _ h q => Cx.Q_notX h (Cx.Xs_X q))⟩
  · obtain ⟨a, vs, n, l⟩ := st.own p hp
    exact ⟨a, vs, n, hl _ _ _ l⟩

theorem Cx.Q_cons {T : Own1} {x : Str} {a : Addr} {b : Addr} (h : c.Q T b) (hn : b ≠ a) : c.Q ((x, a) :: T) b := ⟨h.1, fun p hp => by
  rcases List.mem_cons.mp hp with rfl | hp
  · exact hn
  · exact h.2 p hp⟩

theorem St.finalOwn (ok : c.Ok) {T : Own1} {s s' : Shared} (st : St c ρ T s) {x : Str} {ds : List PV} {a : Addr} {vs : Array Value} {n : Nat} (ho : x ∈ c.own) (hn : s.heap.get? a = none) (e : Evo c.G c.Xs s s')
    (hl : ∀ a vs n, IsL s.heap a vs n → IsL s'.heap a vs n) (hns : ∃ m, s'.heap.Ns c.L m) (hmc : ∀ a ∈ c.mc, ∃ v, s'.heap.IsCell a v) (hx : VarAt c s' x (.ref a)) (hy : ∀ y w, y ≠ x → VarAt c s y w → VarAt c s' y w)
    (l : IsL s'.heap a vs n) (r : RepAll s'.heap (fun x => c.Q T x ∧ x ≠ a) ds vs.toList) (hz : ds.length ≤ sizeLine) : St c ((x, .list ds) :: ρ) ((x, a) :: T) s' := by
  have hTa : ∀ p ∈ T, p.2 ≠ a := fun p hp q => by
    obtain ⟨_, vs', n', l'⟩ := st.own p hp
    have l'' : s.heap.get? p.2 = _ := l'
    rw [q, hn] at l''; cases l''
  have noA : ∀ (d : PV) (w : Value), Rep s.heap (c.Q T) d w → Rep s.heap (c.Q ((x, a) :: T)) d w := fun d w q =>
    Rep.mono (fun b o e _ p => ⟨Cx.Q_cons p (fun q => by rw [q, hn] at e; cases e), e⟩) _ _ q
  have noAs : ∀ (d : List PV) (w : List Value), RepAll s.heap (c.Q T) d w → RepAll s.heap (c.Q ((x, a) :: T)) d w := fun d w q =>
    RepAll.mono (fun b o e _ p => ⟨Cx.Q_cons p (fun q => by rw [q, hn] at e; cases e), e⟩) _ _ q
  have hX : ∀ b, c.Q ((x, a) :: T) b → ¬ c.Xs b := fun b h q => Cx.Q_notX h (Cx.Xs_X q)
  refine ⟨e.wd st.wd, fun b o h t => ?_, hns, hmc, fun y d' hd => ?_, fun p hp => ?_, ?_, st.avs_store ok e⟩
  · refine e.keep b o (st.keep0 b o h t) t ?_
    rintro (q | q)
    · rw [q, ok.Lnew] at h; cases h
    · rw [ok.mcnew b q] at h; cases h
  · by_cases q : y = x
    · subst q
      rw [lookup_cons_self] at hd; cases hd
      refine ⟨_, hx, fun h => ⟨a, ds, vs, n, rfl, rfl, ?_, l, r.weak fun b p => Cx.Q_cons p.1 p.2, hz⟩, fun h => absurd ho h⟩
      rw [List.lookup_cons, beq_self_eq_true]
    · rw [lookup_cons_ne q] at hd
      obtain ⟨w, h1, h2, h3⟩ := st.vars y d' hd
      refine ⟨w, hy y w q h1, fun h => ?_, fun h => (noA _ _ (h3 h)).evo st.wd e hX⟩
      obtain ⟨b, ds', vs', n', e1, e2, e3, e4, e5, e6⟩ := h2 h
      refine ⟨b, ds', vs', n', e1, e2, ?_, hl _ _ _ e4, (noAs _ _ e5).evo st.wd e hX, e6⟩
      rw [List.lookup_cons]
      have : (y == x) = false := by simpa using q
      rw [this]; exact e3
  · rcases List.mem_cons.mp hp with rfl | hp
    · refine ⟨?_, vs, n, l⟩
      cases q : c.h₀.get? a with
      | none => rfl
      | some o =>
        exfalso
        by_cases t : c.G.Tb a
        · obtain ⟨o', e', _⟩ := st.wd.tb a t
          rw [hn] at e'; cases e'
        · have := st.keep0 a o q t
          rw [hn] at this; cases this
    · obtain ⟨b, vs', n', l'⟩ := st.own p hp
      exact ⟨b, vs', n', hl _ _ _ l'⟩
  · exact List.pairwise_cons.mpr ⟨fun p hp q => hTa p hp q.symm, st.nodup⟩

/-- x = v -/
theorem St.store (ok : c.Ok) {T : Own1} {s : Shared} (st : St c ρ T s) {x : Str} {d : PV} {v : Value} {A : Around} {E : Value → Shared → Prop} {R : Unit → Shared → Prop}
    (hk : c.env.kindOf x = some .local ∨ (c.env.kindOf x = some .cell ∧ c.comp = false)) (ho : x ∉ c.own) (r : Rep s.heap (c.Q T) d v)
    (k : ∀ s', Evo c.G c.Xs s s' → St c ((x, d) :: ρ) T s' → R () s') : wpAny c.M A (storeName c.env x v) R E s :=
  st.storing ok hk fun s' e hl hns hmc hx hy => k s' e (st.final ok ho e hl hns hmc hx hy (r.evo st.wd e (fun _ h q => Cx.Q_notX h (Cx.Xs_X q))))

theorem VarAt.ext {T : Own1} {s s' : Shared} (st : St c ρ T s) (e : Ext c.G s s') {y : Str} {w : Value} (h : VarAt c s y w) : VarAt c s' y w := by
  rcases h with ⟨k, m, h, hm⟩ | ⟨k, b, h, hc⟩
  · exact .inl ⟨k, m, st.wd.ns_keep e (fun h => h) h, hm⟩
  · exact .inr ⟨k, b, h, st.wd.cell_keep e (fun h => h) hc⟩

/-- x = a list that this frame will change -/
theorem St.storeOwn (ok : c.Ok) {T : Own1} {s₀ s : Shared} (st₀ : St c ρ T s₀) (e₀ : Ext c.G s₀ s) {x : Str} {ds : List PV} {a : Addr} {vs : Array Value} {n : Nat} {A : Around} {E : Value → Shared → Prop} {R : Unit → Shared → Prop}
    (hk : c.env.kindOf x = some .local ∨ (c.env.kindOf x = some .cell ∧ c.comp = false)) (ho : x ∈ c.own) (hn : s₀.heap.get? a = none) (l : IsL s.heap a vs n) (r : RepAll s.heap (fun x => c.Q T x ∧ x ≠ a) ds vs.toList) (hz : ds.length ≤ sizeLine)
    (k : ∀ s', Evo c.G c.Xs s s' → St c ((x, .list ds) :: ρ) ((x, a) :: T) s' → R () s') : wpAny c.M A (storeName c.env x (.ref a)) R E s := by
  have st := st₀.ext e₀
  refine st.storing ok hk fun s' e hl hns hmc hx hy => k s' e ?_
  refine st₀.finalOwn ok ho hn ((Ext.evo e₀).trans e) (fun b vs n l => hl _ _ _ (st₀.wd.list_keep e₀ (fun h => h) l)) hns hmc hx (fun y w q h => hy y w q (VarAt.ext st₀ e₀ h)) (hl _ _ _ l) ?_ hz
  exact r.evo st.wd e (fun _ h q => Cx.Q_notX h.1 (Cx.Xs_X q))

noncomputable def storable (c : Cx) (x : Str) : Bool := c.env.kindOf x == some .local || (c.env.kindOf x == some .cell && !c.comp)
theorem storable_spec {x : Str} (h : storable c x = true) : c.env.kindOf x = some .local ∨ (c.env.kindOf x = some .cell ∧ c.comp = false) := by
  simpa [storable] using h

theorem Ex1_assign (ok : c.Ok) {x : Str} {e : Expr} {px pos : Pos} {d : PV} (h : Ev c ρ true e d) (hq : Q .next ((x, d) :: ρ)) (hk : storable c x = true) (ho : c.own.contains x = false)
    (hs : swapsWith e (some (.Name x px)) pos.line c.env = pure false) : Ex1 c ρ (.Assign [.Name x px] e pos) Q := .mk fun A T s ha st => by
  refine wpAny_Assign_Name (h.use ha st fun v s₁ e₁ st₁ r => ?_) hs
  refine st₁.store ok (storable_spec hk) (fun q => by rw [List.contains_iff_mem.mpr q] at ho; cases ho) (r.weak fun _ q => Cx.Q_iff.mpr q) fun s' e' st' => ?_
  exact ⟨_, T, .next, st', (Ext.evo e₁).trans (e'.weak fun _ => Cx.Xs_X), TGrow.refl, trivial, hq⟩
theorem Ex1_assignOwn (ok : c.Ok) {x : Str} {e : Expr} {px pos : Pos} {ds : List PV} (h : EvF c ρ e ds) (hq : Q .next ((x, .list ds) :: ρ)) (hk : storable c x = true) (ho : c.own.contains x = true)
    (hs : swapsWith e (some (.Name x px)) pos.line c.env = pure false) : Ex1 c ρ (.Assign [.Name x px] e pos) Q := .mk fun A T s ha st => by
  refine wpAny_Assign_Name (wpAny_mono (h.run A T s ha st) (fun v s₁ ⟨e₁, a, vs, n, hv, hn, l, r, z⟩ => ?_) fun _ _ x => x.elim) hs
  subst hv
  refine St.storeOwn ok st e₁ (storable_spec hk) (List.contains_iff_mem.mp ho) hn l r z fun s' e' st' => ?_
  refine ⟨_, _, .next, st', (Ext.evo e₁).trans (e'.weak fun _ => Cx.Xs_X), ⟨fun p hp => List.mem_cons_of_mem _ hp, fun p hp => ?_⟩, trivial, hq⟩
  rcases List.mem_cons.mp hp with rfl | hp
  · exact .inr hn
  · exact .inl hp
end
end Mine
end

section
open PySem PyProof.Rows
open PySem.SeqAt
namespace Mine

/-! ### what can be walked over -/
structure Itr (c : Cx) (T : Own1) (s₀ s : Shared) (it : Value) (ds : List PV) (I : Addr) (fp wr : List Addr) (Pv : Nat → Value → Prop) (StI : Nat → Heap → Prop) : Prop where
  hit : it = .ref I
  walks : ∀ A : Around, A.handled = none → Walks c.G.prog c.G.w A I fp wr ds.length Pv StI
  start : StI 0 s.heap
  ext : Ext c.G s₀ s
  hfp : ∀ b ∈ fp, ¬ c.G.Tb b ∧ ¬ c.X T b
  alive : ∀ i h, StI i h → ∀ b ∈ fp, ∃ o, h.get? b = some o
  hwr : ∀ b ∈ wr, s₀.heap.get? b = none
  plain : ∀ i h, StI i h → ∀ b ∈ wr, ∀ o, h.get? b = some o → Obj.iterLike o
  items : ∀ i v, Pv i v → ∃ d, ds[i]? = some d ∧ Rep s₀.heap (c.Q T) d v
  iwr : I ∈ wr

theorem Itr.iterAt {c : Cx} {T : Own1} {s₀ s : Shared} {it : Value} {ds : List PV} {I : Addr} {fp wr : List Addr} {Pv : Nat → Value → Prop} {StI : Nat → Heap → Prop} (x : Itr c T s₀ s it ds I fp wr Pv StI) {h : Heap} {i : Nat} (hs : StI i h) :
    ∃ o, h.get? I = some o ∧ Obj.iterLike o := by
  obtain ⟨o, ho⟩ := x.alive i _ hs I ((x.walks {} rfl).sub I x.iwr)
  exact ⟨o, ho, x.plain i _ hs I x.iwr o ho⟩
theorem Obj.iterLike.notCode {o : Obj} (h : Obj.iterLike o) : ¬ Obj.codeLike o := by
  obtain ⟨⟨T, hm, e⟩, _⟩ := h
  refine Obj.notCode_cls e fun q => ?_
  subst q
  simp at hm

noncomputable def rangeL (a b c : Int) : List PV := (List.range (Builtin.Range.rangeSize a b c).toNat).map fun (i : Nat) => PV.int (a + (i : Int) * c)

/-- d can be walked over and gives ds -/
inductive ItOk : PV → List PV → Prop
  | list {ds} : ItOk (.list ds) ds
  | tuple {ds} : ItOk (.tuple ds) ds
  | range {a b c} (h : Builtin.Range.small a b c = true) : ItOk (.range a b c) (rangeL a b c)
  | str {x} : ItOk (.str x) ((Sl x).map fun ch => .str (mkS [ch]))

section
variable {c : Cx} {ρ : Env1}
theorem newX (ok : c.Ok) {T : Own1} {s : Shared} (st : St c ρ T s) {a : Addr} (h : s.heap.get? a = none) : ¬ c.G.Tb a ∧ ¬ c.X T a :=
  ⟨fun t => (by obtain ⟨o, e, _⟩ := st.wd.tb a t; rw [h] at e; cases e), Cx.Q_notX (st.newP ok h)⟩

theorem itr_of (ok : c.Ok) {d : PV} {ds : List PV} (h : ItOk d ds) {A : Around} {T : Own1} {s : Shared} (st : St c ρ T s) {v : Value} (r : Rep s.heap (c.Q T) d v) {E : Value → Shared → Prop} {R : Value → Shared → Prop}
    (k : ∀ it s' I fp wr Pv StI, St c ρ T s' → Itr c T s s' it ds I fp wr Pv StI → R it s') : wpAny c.M A (pyIter v) R E s := by
  have hnew := newX ok st (get_new (h := s.heap))
  cases h with
  | list =>
    simp only [Rep] at r
    obtain ⟨a, vs, n, rfl, hq, l, ra, z⟩ := r
    have hne : a ≠ s.heap.objs.size := Nat.ne_of_lt (Heap.lt_size l)
    refine wpAny_pyIter_list l.isList (k _ _ s.heap.objs.size [s.heap.objs.size, a] [s.heap.objs.size] (fun i v => vs[i]? = some v) (fun i h => h.IsListIter s.heap.objs.size a i ∧ h.IsList a vs) (st.ext Ext.push') ⟨rfl, fun A' hA => ?_, ⟨⟨_, Heap.get?_push_size _ rfl, rfl, rfl⟩, l.isList.push _⟩, Ext.push', ?_, ?_, ?_, ?_, ?_, List.mem_singleton.mpr rfl⟩)
    · have := Walks.list (prog := c.G.prog) (w := c.G.w) hA s.heap.objs.size a hne vs
      rwa [show vs.size = ds.length by simpa using ra.length] at this
    · intro b hb
      simp at hb
      rcases hb with rfl | rfl
      · exact hnew
      · exact ⟨st.wd.notTb l Obj.notCode_list, Cx.Q_notX hq⟩
    · rintro i h ⟨⟨o, h1, _⟩, ⟨o', h2, _⟩⟩ b hb
      simp at hb
      rcases hb with rfl | rfl
      · exact ⟨o, h1⟩
      · exact ⟨o', h2⟩
    · intro b hb
      simp at hb; subst hb; exact get_new
    · rintro i h ⟨⟨o, h1, h2, h3⟩, _⟩ b hb o' e
      simp at hb; subst hb
      rw [h1] at e; cases e
      exact ⟨⟨_, by simp, h2⟩, _, h3⟩
    · intro i v hv
      exact ra.get' (by simpa using hv)
  | tuple =>
    simp only [Rep] at r
    obtain ⟨a, vs, n, rfl, hq, l, ra, z⟩ := r
    have lt : s.heap.IsTuple a vs := ⟨_, l, rfl, n, rfl⟩
    have hne : a ≠ s.heap.objs.size := Nat.ne_of_lt (Heap.lt_size l)
    refine wpAny_pyIter_tuple lt (k _ _ s.heap.objs.size [s.heap.objs.size, a] [s.heap.objs.size] (fun i v => vs[i]? = some v) (fun i h => h.IsTupleIter s.heap.objs.size a i ∧ h.IsTuple a vs) (st.ext Ext.push') ⟨rfl, fun A' hA => ?_, ⟨⟨_, Heap.get?_push_size _ rfl, rfl, rfl⟩, ⟨_, Heap.get?_push_of_some _ l, rfl, n, rfl⟩⟩, Ext.push', ?_, ?_, ?_, ?_, ?_, List.mem_singleton.mpr rfl⟩)
    · have := Walks.tuple (prog := c.G.prog) (w := c.G.w) hA s.heap.objs.size a hne vs
      rwa [show vs.size = ds.length by simpa using ra.length] at this
    · intro b hb
      simp at hb
      rcases hb with rfl | rfl
      · exact hnew
      · exact ⟨st.wd.notTb l Obj.notCode_tuple, Cx.Q_notX hq⟩
    · rintro i h ⟨⟨o, h1, _⟩, ⟨o', h2, _⟩⟩ b hb
      simp at hb
      rcases hb with rfl | rfl
      · exact ⟨o, h1⟩
      · exact ⟨o', h2⟩
    · intro b hb
      simp at hb; subst hb; exact get_new
    · rintro i h ⟨⟨o, h1, h2, h3⟩, _⟩ b hb o' e
      simp at hb; subst hb
      rw [h1] at e; cases e
      exact ⟨⟨_, by simp, h2⟩, _, h3⟩
    · intro i v hv
      exact ra.get' (by simpa using hv)
  | range hsm =>
    rename_i a b cc
    simp only [Rep] at r
    obtain ⟨x, t, u, w, rfl, hq, l⟩ := r
    have hn0 : 0 ≤ Builtin.Range.rangeSize a b cc := by
      unfold Builtin.Range.rangeSize
      split
      · split
        · have : 0 ≤ (b - a - 1) / cc := Int.ediv_nonneg (by omega) (by omega)
          omega
        · omega
      · split
        · have : 0 ≤ (a - b - 1) / (-cc) := Int.ediv_nonneg (by omega) (by omega)
          omega
        · omega
    have hlen : (rangeL a b cc).length = (Builtin.Range.rangeSize a b cc).toNat := by simp [rangeL]
    refine wpAny_pyIter_range l hsm (k _ _ s.heap.objs.size [s.heap.objs.size] [s.heap.objs.size] (fun i v => ∃ t, v = .int (a + i * cc) t ∧ i < (rangeL a b cc).length)
      (fun i h => IsRangeIter h s.heap.objs.size (a + (i : Nat) * cc) (((rangeL a b cc).length : Int) - (i : Nat)) cc) (st.ext Ext.push') ⟨rfl, fun A' hA => ?_, ?_, Ext.push', ?_, ?_, ?_, ?_, ?_, List.mem_singleton.mpr rfl⟩)
    · have W := Walks.range (prog := c.G.prog) (w := c.G.w) hA s.heap.objs.size a cc (rangeL a b cc).length
      exact ⟨W.sub, W.frame, fun i s' Q' E' hi hst hQ => W.item i s' Q' E' hi hst (fun v h' tk ⟨t, e⟩ => hQ v h' tk ⟨t, e, hi⟩), W.done, W.self⟩
    · show IsRangeIter _ _ _ _ _
      rw [hlen, Int.toNat_of_nonneg hn0]
      simpa using Heap.get?_push_size _ rfl
    · intro b hb
      simp at hb; subst hb; exact hnew
    · intro i h hst b hb
      simp at hb; subst hb; exact ⟨_, hst⟩
    · intro b hb
      simp at hb; subst hb; exact get_new
    · intro i h hst b hb o' e
      simp at hb; subst hb
      rw [hst] at e; cases e
      exact ⟨⟨"range_iterator", by simp, rfl⟩, _, rfl⟩
    · rintro i v ⟨t, rfl, hi⟩
      rw [hlen] at hi
      exact ⟨.int (a + i * cc), by simp [rangeL, hi], by simp only [Rep]; exact ⟨t, rfl⟩⟩
  | str =>
    rename_i x
    simp only [Rep] at r
    obtain ⟨⟨t, rfl⟩, hx⟩ := r
    have hl : x.cps.size = ((Sl x).map fun ch => PV.str (mkS [ch])).length := by simp
    have fin : ∀ (T₀ : String) (hT : T₀ ∈ ["list_iterator", "tuple_iterator", "range_iterator", "str_iterator", "str_ascii_iterator"]) (W : ∀ A' : Around, A'.handled = none → Walks c.G.prog c.G.w A' s.heap.objs.size [s.heap.objs.size] [s.heap.objs.size] x.cps.size (SignAt x) (fun i h => h.IsStrIter s.heap.objs.size T₀ x t i)),
        R (.ref s.heap.objs.size) { s with heap := s.heap.push { cls := .type T₀, data := .fields #[.str x t, .int 0 0] } } := by
      intro T₀ hT W
      refine k _ _ s.heap.objs.size [s.heap.objs.size] [s.heap.objs.size] (SignAt x) (fun i h => h.IsStrIter s.heap.objs.size T₀ x t i) (st.ext Ext.push') ⟨rfl, fun A' hA => hl ▸ W A' hA, ⟨_, Heap.get?_push_size _ rfl, rfl, rfl⟩, Ext.push', ?_, ?_, ?_, ?_, ?_, List.mem_singleton.mpr rfl⟩
      · intro b hb
        simp at hb; subst hb; exact hnew
      · rintro i h ⟨o, h1, _⟩ b hb
        simp at hb; subst hb; exact ⟨_, h1⟩
      · intro b hb
        simp at hb; subst hb; exact get_new
      · rintro i h ⟨o, h1, h2, h3⟩ b hb o' e
        simp at hb; subst hb
        rw [h1] at e; cases e
        exact ⟨⟨_, hT, h2⟩, _, h3⟩
      · rintro i v ⟨ch, u, e1, rfl⟩
        refine ⟨.str (mkS [ch]), by simp [e1], ?_⟩
        simp only [Rep]
        exact ⟨⟨u, rfl⟩, by rw [Str_len]; simp [sizeLine_is]⟩
    cases ha : x.cps.all (· < 128)
    · exact wpAny_pyIter_wide ha (fin "str_iterator" (by simp) fun A' hA => Walks.strWide hA _ x t)
    · exact wpAny_pyIter_ascii ha (fin "str_ascii_iterator" (by simp) fun A' hA => Walks.strAscii hA _ x t)

/-- between the turns of a loop -/
structure Mid (c : Cx) (X₀ : Addr → Prop) (ρ' : Env1) (T T' : Own1) (s s' : Shared) (wr : List Addr) (StI : Nat → Heap → Prop) (i : Nat) : Prop where
  st : St c ρ' T' s'
  evo : Evo c.G (fun b => X₀ b ∨ b ∈ wr) s s'
  grow : TGrow s T T'
  at_ : StI i s'.heap

variable {T T' : Own1} {s₀ s s' : Shared} {it : Value} {ds : List PV} {I : Addr} {fp wr : List Addr} {Pv : Nat → Value → Prop} {StI : Nat → Heap → Prop}

variable {X₀ : Addr → Prop}
theorem Mid.first (st : St c ρ T s) (x : Itr c T s₀ s it ds I fp wr Pv StI) : Mid c X₀ ρ T T s s wr StI 0 := ⟨st, Evo.refl, TGrow.refl, x.start⟩

theorem Mid.dead (hX₀ : ∀ b, X₀ b → c.X T b) (st₀ : St c ρ T s) (x : Itr c T s₀ s it ds I fp wr Pv StI) (hsub : ∀ b ∈ wr, b ∈ fp) {ρ' : Env1} {i : Nat} (m : Mid c X₀ ρ' T T' s s' wr StI i) {a : Addr} (h : s'.heap.get? a = none) : s.heap.get? a = none := by
  cases q : s.heap.get? a with
  | none => rfl
  | some o =>
    exfalso
    by_cases tb : c.G.Tb a
    · obtain ⟨o', q', _⟩ := m.st.wd.tb a tb
      rw [h] at q'; cases q'
    by_cases hw : a ∈ wr
    · obtain ⟨o', q'⟩ := x.alive i _ m.at_ a (hsub a hw)
      rw [h] at q'; cases q'
    by_cases hX : X₀ a
    · rcases hX₀ a hX with e | e | ⟨p, hp, e⟩
      · obtain ⟨m', o, _, _, hL, _⟩ := m.st.ns
        rw [← e, h] at hL; cases hL
      · obtain ⟨v, o, hc, _⟩ := m.st.mcs a e
        rw [h] at hc; cases hc
      · obtain ⟨_, vs, n, l⟩ := m.st.own p (m.grow.sub p hp)
        have l' : s'.heap.get? p.2 = _ := l
        rw [← e, h] at l'; cases l'
    · rw [m.evo.keep a o q tb (fun h => h.elim hX hw)] at h; cases h

/-- an item is what it was when the walk began -/
theorem Mid.item (hX₀ : ∀ b, X₀ b → c.X T b) (x : Itr c T s₀ s it ds I fp wr Pv StI) (w₀ : Wd c.G s₀) {ρ' : Env1} {i : Nat} (m : Mid c X₀ ρ' T T' s s' wr StI i) {d : PV} {v : Value} (r : Rep s₀.heap (c.Q T) d v) : Rep s'.heap (c.Q T') d v := by
  refine Rep.mono (fun b o e hc p => ?_) _ _ r
  have e1 := x.ext.keep b o e (w₀.notTb e hc.1) (fun h => h)
  refine ⟨⟨p.1, fun q hq r => ?_⟩, m.evo.keep b o e1 ((x.ext.wd w₀).notTb e1 hc.1) ?_⟩
  · rcases m.grow.new q hq with hq | hn
    · exact p.2 q hq r
    · rw [← r, e1] at hn; cases hn
  · rintro (q | q)
    · exact Cx.Q_notX p (hX₀ b q)
    · rw [x.hwr b q] at e; cases e

/-- the frame does something while the walk waits -/
theorem Mid.step (hX₀ : ∀ b, X₀ b → c.X T b) (st₀ : St c ρ T s) (x : Itr c T s₀ s it ds I fp wr Pv StI) {ρ' ρ'' : Env1} {T'' : Own1} {s'' : Shared} {i : Nat} {X₁ : Addr → Prop} (m : Mid c X₀ ρ' T T' s s' wr StI i) (st : St c ρ'' T'' s'') (e : Evo c.G X₁ s' s'')
    (h1 : ∀ b, X₁ b → c.X T' b) (h2 : ∀ b o, s.heap.get? b = some o → X₁ b → X₀ b) (g : TGrow s' T' T'') : Mid c X₀ ρ'' T T'' s s'' wr StI i := by
  have W := x.walks {} rfl
  have fpX : ∀ b ∈ fp, ¬ X₁ b := fun b hb q => by
    rcases h1 b q with q | q | ⟨p, hp, q⟩
    · exact (x.hfp b hb).2 (.inl q)
    · exact (x.hfp b hb).2 (.inr (.inl q))
    · rcases m.grow.new p hp with hp | hn
      · exact (x.hfp b hb).2 (.inr (.inr ⟨p, hp, q⟩))
      · obtain ⟨o, ho⟩ := x.alive 0 _ x.start b hb
        rw [← q, ho] at hn; cases hn
  refine ⟨st, ⟨fun b o h t n => ?_, fun w => e.wd (m.evo.wd w)⟩, ⟨fun p h => g.sub p (m.grow.sub p h), fun p h => ?_⟩, ?_⟩
  · exact e.keep b o (m.evo.keep b o h t n) t fun q => n (.inl (h2 b o h q))
  · rcases g.new p h with h | h
    · exact m.grow.new p h
    · exact .inr (m.dead hX₀ st₀ x W.sub h)
  · exact W.frame i _ _ m.at_ fun b hb o ho => e.keep b o ho (x.hfp b hb).1 (fpX b hb)
theorem X_old {b : Addr} {o : Obj} (g : TGrow s T T') (h : s.heap.get? b = some o) (q : c.X T' b) : c.X T b := by
  rcases q with q | q | ⟨p, hp, q⟩
  · exact .inl q
  · exact .inr (.inl q)
  · rcases g.new p hp with hp | hn
    · exact .inr (.inr ⟨p, hp, q⟩)
    · rw [← q, h] at hn; cases hn

/-- the walk takes its next step: the frame is as it was -/
theorem Mid.next (ok : c.Ok) (st₀ : St c ρ T s) (x : Itr c T s₀ s it ds I fp wr Pv StI) (w₀ : Wd c.G s₀) (hold : ∀ b o, c.h₀.get? b = some o → ¬ c.G.Tb b → s₀.heap.get? b = some o) (avW : ∀ a ∈ c.av, a ∉ wr) {ρ' : Env1} {i : Nat} (m : Mid c X₀ ρ' T T' s s' wr StI i) {h' : Heap} {tk : Nat} (hk : ∀ b o, b ∉ wr → s'.heap.get? b = some o → h'.get? b = some o) :
    St c ρ' T' { s' with heap := h', toks := tk } ∧ Evo c.G (fun b => X₀ b ∨ b ∈ wr) s { s' with heap := h', toks := tk } := by
  have hsub := (x.walks {} rfl).sub
  have ev : Evo c.G (fun b => b ∈ wr) s' { s' with heap := h', toks := tk } := by
    refine ⟨fun b o e _ n => hk b o n e, fun w => ⟨fun b o e t => hk b o (fun hb => ?_) (w.old b o e t), ?_, fun b t => ?_, w.os, w.gens⟩⟩
    · have h1 := w₀.old b o e t
      rw [x.hwr b hb] at h1; cases h1
    · refine c.G.tabKeeps _ _ w.tab fun b o e q => hk b o (fun hb => (x.plain i _ m.at_ b hb o e).notCode q) e
    · obtain ⟨o, e, q⟩ := w.tb b t
      refine ⟨o, hk b o (fun hb => ?_) e, q⟩
      obtain ⟨o', e', _⟩ := w₀.tb b t
      rw [x.hwr b hb] at e'; cases e'
  have aliveNe : ∀ b, (∃ o, s₀.heap.get? b = some o) → b ∉ wr := fun b ⟨o, e⟩ hb => by rw [x.hwr b hb] at e; cases e
  have notWr : ∀ b, b ∈ wr → b ≠ c.L ∧ b ∉ c.mc ∧ ∀ p ∈ T', b ≠ p.2 := fun b hb => by
    have hX := (x.hfp b (hsub b hb)).2
    refine ⟨fun q => hX (.inl q), fun q => hX (.inr (.inl q)), fun p hp q => ?_⟩
    rcases m.grow.new p hp with hp | hn
    · exact hX (.inr (.inr ⟨p, hp, q⟩))
    · obtain ⟨o, ho⟩ := x.alive 0 _ x.start b (hsub b hb)
      rw [← q, ho] at hn; cases hn
  have rep : ∀ (P : Addr → Prop) (d : PV) (v : Value), Rep s'.heap P d v → Rep h' P d v := fun P d v r =>
    Rep.mono (fun b o e q p => ⟨p, hk b o (fun hb => q.2 (x.plain i _ m.at_ b hb o e)) e⟩) _ _ r
  have reps : ∀ (P : Addr → Prop) (d : List PV) (v : List Value), RepAll s'.heap P d v → RepAll h' P d v := fun P d v r =>
    RepAll.mono (fun b o e q p => ⟨p, hk b o (fun hb => q.2 (x.plain i _ m.at_ b hb o e)) e⟩) _ _ r
  have lst : ∀ a vs n, IsL s'.heap a vs n → IsL h' a vs n := fun a vs n l => hk a _ (fun hb => by
    obtain ⟨_, _, e⟩ := x.plain i _ m.at_ a hb _ l
    cases e) l
  have cel : ∀ a v, s'.heap.IsCell a v → h'.IsCell a v := fun a v ⟨o, e, q⟩ => ⟨o, hk a o (fun hb => by
    obtain ⟨_, _, e'⟩ := x.plain i _ m.at_ a hb _ e
    rw [q] at e'; cases e') e, q⟩
  · refine ⟨⟨ev.wd m.st.wd, fun b o e t => hk b o (fun hb => ?_) (m.st.keep0 b o e t), ?_, fun a ha => ?_, fun y d hd => ?_, fun p hp => ?_, m.st.nodup, fun a ha => ?_⟩, ⟨fun b o e t n => hk b o (fun hb => n (.inr hb)) (m.evo.keep b o e t n), fun w => ev.wd (m.evo.wd w)⟩⟩
    · have h1 := hold b o e t
      rw [x.hwr b hb] at h1; cases h1
    · obtain ⟨mm, o, es, ep, hL, r⟩ := m.st.ns
      exact ⟨mm, o, es, ep, hk _ _ (fun hb => (notWr _ hb).1 rfl) hL, r⟩
    · obtain ⟨v, o, e, q⟩ := m.st.mcs a ha
      exact ⟨v, o, hk a o (fun hb => (notWr _ hb).2.1 ha) e, q⟩
    · obtain ⟨v, h1, h2, h3⟩ := m.st.vars y d hd
      refine ⟨v, ?_, fun q => ?_, fun q => rep _ _ _ (h3 q)⟩
      · rcases h1 with ⟨k1, mm, ⟨o, es, ep, hL, r⟩, hm⟩ | ⟨k1, a, ha, hc⟩
        · exact .inl ⟨k1, mm, ⟨o, es, ep, hk _ _ (fun hb => (notWr _ hb).1 rfl) hL, r⟩, hm⟩
        · exact .inr ⟨k1, a, ha, cel _ _ hc⟩
      · obtain ⟨a, ds, vs, n, e1, e2, e3, e4, e5, e6⟩ := h2 q
        exact ⟨a, ds, vs, n, e1, e2, e3, lst _ _ _ e4, reps _ _ _ e5, e6⟩
    · obtain ⟨a, vs, n, l⟩ := m.st.own p hp
      exact ⟨a, vs, n, lst _ _ _ l⟩
    · obtain ⟨o, ho, q⟩ := m.st.avs a ha
      exact m.st.wd.alive_keep ev (avW a ha) ho q
end
end Mine
end

section
open PySem PyProof.Rows
open PySem.SeqAt
namespace Mine

section
variable {c : Cx} {ρ : Env1} {Q : PF → Env1 → Prop}

/-- while, by a measure -/
theorem Ex1_while {t : Expr} {body : List Stmt} {pos} (Inv : Nat → Env1 → Prop) (n₀ : Nat) (h₀ : Inv n₀ ρ)
    (turn : ∀ n ρ, Inv n ρ → ∃ k, IsT1 c ρ t k ∧ (k = true → Ex c ρ body (fun pf ρ' => match pf with | .next => ∃ m, m < n ∧ Inv m ρ' | .cont => ∃ m, m < n ∧ Inv m ρ' | .brk => Q .next ρ' | .ret d => Q (.ret d) ρ')) ∧
      (k = false → Q .next ρ)) : Ex1 c ρ (.While t body [] pos) Q := .mk fun A T s ha st => by
  refine wpAny_While (codeAny_whileLoop (fun n s' => ∃ ρ' T', St c ρ' T' s' ∧ Evo c.G (c.X T) s s' ∧ TGrow s T T' ∧ Inv n ρ') ?_ n₀ ⟨ρ, T, st, Evo.refl, TGrow.refl, h₀⟩)
  rintro n s₁ ⟨ρ₁, T₁, st₁, e₁, g₁, hI⟩
  obtain ⟨k, ht, hb, hf⟩ := turn n ρ₁ hI
  refine wpAny_mono (ht.use (E := fun _ _ => False) ha st₁ fun s₂ e₂ st₂ => ?_) (fun _ _ h => h) (fun _ _ h => h.elim)
  cases k with
  | true =>
    simp only [if_true]
    refine wpAny_mono ((hb rfl).run A T₁ s₂ ha st₂) (fun fl s₃ ⟨ρ₃, T₃, pf, st₃, e₃, g₃, f₃, q₃⟩ => ?_) fun _ _ h => h.elim
    have ee := (e₁.transT g₁ (Ext.evo e₂)).transT g₁ e₃
    have gg : TGrow s T T₃ := TGrow.trans st.wd st₂ (e₁.transT g₁ (Ext.evo e₂)) g₁ g₃
    cases fl with
    | next =>
      cases pf <;> simp [FlOk] at f₃
      obtain ⟨m, hm, hI'⟩ := q₃
      exact ⟨m, hm, ρ₃, T₃, st₃, ee, gg, hI'⟩
    | cont =>
      cases pf <;> simp [FlOk] at f₃
      obtain ⟨m, hm, hI'⟩ := q₃
      exact ⟨m, hm, ρ₃, T₃, st₃, ee, gg, hI'⟩
    | brk => cases pf <;> simp [FlOk] at f₃; exact ⟨ρ₃, T₃, .next, st₃, ee, gg, trivial, q₃⟩
    | ret v => cases pf <;> simp [FlOk] at f₃; exact ⟨ρ₃, T₃, .ret _, st₃, ee, gg, f₃, q₃⟩
  | false =>
    simp only [Bool.false_eq_true, if_false]
    exact wpAny_execs_nil ⟨ρ₁, T₁, .next, st₂, e₁.transT g₁ (Ext.evo e₂), g₁, trivial, hf rfl⟩

/-! ### a loop's target -/
structure Asg (c : Cx) (t : Expr) (d : PV) (ρ ρ' : Env1) : Prop where
  run : ∀ (A : Around) (T : Own1) (s : Shared) (v : Value), AOk c.rk A → St c ρ T s → Rep s.heap (c.Q T) d v →
    wpAny c.M A (assign t c.env v) (fun _ s' => St c ρ' T s' ∧ Evo c.G c.Xs s s') (fun _ _ => False) s

theorem Asg_name (ok : c.Ok) {x : Str} {pos} {d : PV} (hk : storable c x = true) (ho : c.own.contains x = false) : Asg c (.Name x pos) d ρ ((x, d) :: ρ) := .mk fun A T s v ha st r =>
  PyProof.Rows.assign_Name (st.store ok (storable_spec hk) (fun q => by rw [List.contains_iff_mem.mpr q] at ho; cases ho) r fun s' e st' => ⟨st', e⟩)

inductive AsgL (c : Cx) : List Expr → List PV → Env1 → Env1 → Prop
  | nil {r : Env1} : AsgL c [] [] r r
  | cons {t ts d ds} {ρ₀ ρ₁ ρ₂ : Env1} (h : Asg c t d ρ₀ ρ₁) (hs : noStar t = true) (r : AsgL c ts ds ρ₁ ρ₂) : AsgL c (t :: ts) (d :: ds) ρ₀ ρ₂

theorem assignEach_cons {e : Expr} {es : List Expr} {env : Env} (h : noStar e = true) : assignEach (e :: es) env = (false, assign e env) :: assignEach es env := by
  cases e <;> first | rfl | (simp [noStar] at h)

theorem asgL_use {ts : List Expr} {ds : List PV} {ρ ρ' : Env1} (h : AsgL c ts ds ρ ρ') {A : Around} {T : Own1} {s : Shared} (ha : AOk c.rk A) (st : St c ρ T s) {vs : List Value} (r : RepAll s.heap (c.Q T) ds vs) :
    wpAny c.M A (assignInOrder ((assignEach ts c.env).map (·.2)) vs) (fun _ s' => St c ρ' T s' ∧ Evo c.G c.Xs s s') (fun _ _ => False) s := by
  induction h generalizing s vs with
  | nil => exact wpAny_pure ⟨st, Evo.refl⟩
  | cons h hs _ ih =>
    simp only [RepAll] at r
    obtain ⟨v, rest, rfl, r1, r2⟩ := r
    rw [assignEach_cons hs]
    show wpAny _ _ (do holding rest (assign _ c.env v); assignInOrder _ rest) _ _ _
    refine wpAny_bind (wpAny_holding (wpAny_mono (h.run A T s v ha st r1) (fun _ s₁ ⟨st₁, e₁⟩ => ?_) fun _ _ h => h))
    exact wpAny_mono (ih st₁ (r2.evo st.wd e₁ (fun _ h q => Cx.Q_notX h (Cx.Xs_X q)))) (fun _ s₂ ⟨st₂, e₂⟩ => ⟨st₂, e₁.trans e₂⟩) fun _ _ h => h

theorem asgL_len {ts : List Expr} {ds : List PV} {ρ ρ' : Env1} (h : AsgL c ts ds ρ ρ') : (assignEach ts c.env).length = ds.length ∧ (assignEach ts c.env).findIdx? (·.1) = none := by
  induction h with
  | nil => exact ⟨rfl, rfl⟩
  | cons h hs _ ih => rw [assignEach_cons hs]; exact ⟨by simp [ih.1], by simp [List.findIdx?_cons, ih.2]⟩

theorem ext_new {s : Shared} {h' : Heap} (he : Heap.ExtBut s.heap.objs.size s.heap h') : Ext c.G s { s with heap := h' } :=
  Ext.of (tk := s.toks) fun b o e => he b o (Nat.ne_of_lt (Heap.lt_size e)) e

theorem Asg_tuple {ts : List Expr} {k pos} {ds : List PV} {ρ ρ' : Env1} (h : AsgL c ts ds ρ ρ') : Asg c (.Tuple ts k pos) (.tuple ds) ρ ρ' := .mk fun A T s v ha st r => by
  simp only [Rep] at r
  obtain ⟨a, vs, n, rfl, hq, l, ra, z⟩ := r
  have hl := asgL_len h
  have hlen : vs.size = ds.length := by simpa using ra.length
  refine wpAny_assign_Tuple ha.handled (items := vs) ⟨_, l, rfl, n, rfl⟩ (by rw [hl.1, hlen]) hl.2 fun h' he => ?_
  have e := ext_new (c := c) he
  exact wpAny_mono (asgL_use h ha (st.ext e) (ra.ext st.wd e)) (fun _ s₂ ⟨st₂, e₂⟩ => ⟨st₂, (Ext.evo e).trans e₂⟩) fun _ _ h => h

/-! ### for -/
theorem letOwned_list {target : Expr} {A : Around} {s : Shared} {it v : Value} {R : Unit → Shared → Prop} {E : Value → Shared → Prop} (h : ∀ r, it = .ref r → ∃ o, s.heap.get? r = some o ∧ Obj.iterLike o) (hk : R () s) :
    wpAny c.M A (letOwnedTupleGo target it v) R E s := by
  unfold letOwnedTupleGo
  cases target <;> first | exact wpAny_pure hk | skip
  all_goals (
    cases it <;> first | exact wpAny_pure hk | skip
    cases v <;> first | exact wpAny_pure hk | skip
    obtain ⟨o, ho, ⟨T, hT, hc⟩, vs, hd⟩ := h _ rfl
    refine wpAny_bind (wpAny_load ho ?_)
    rw [hc, hd]
    dsimp only
    refine wpAny_ite ?_
    rw [if_neg]
    · exact wpAny_pure hk
    · simp only [Bool.and_eq_true, not_and]
      intro q
      exfalso
      simp at hT
      rcases hT with rfl | rfl | rfl | rfl | rfl <;> simp at q)

/-- the for statement's machine, nothing raised -/
theorem for_loop {R : Result → Shared → Prop} {A : Around} {target : Expr} {it : Value} {body : List Stmt} {s : Shared} (I : Nat → Shared → Prop)
    (turn : ∀ n s, I n s → wpAny c.M A (pyNext it) (fun r s₁ => match r with
      | none => R (.ok .next) s₁
      | some v => wpAny c.M A (letOwnedTupleGo target it v) (fun _ s₁' => wpAny c.M A (assign target c.env v) (fun _ s₂ => wpAny c.M A (execs body c.env) (fun f s₃ => match f with
          | .next | .cont => ∃ m, m < n ∧ I m s₃
          | .brk => R (.ok .next) s₃
          | .ret v => R (.ok (.ret v)) s₃) (fun _ _ => False) s₂) (fun _ _ => False) s₁') (fun _ _ => False) s₁) (fun _ _ => False) s)
    (n : Nat) (h : I n s) : codeAny c.M A (.forLoop target it body [] c.env) R s := by
  refine codeAny_loop' rfl I (fun n s hI => ?_) n h
  show wpAny _ _ ((forTurn target it body [] c.env).onRaise (fun x => do noteFrame x c.env; theTreesLotGoes x)) _ _ s
  refine wpAny_noted ?_
  unfold forTurn
  refine wpAny_bind (wpAny_standAt (wpAny_bind (wpAny_onRaise (wpAny_mono (turn n s hI) (fun r s₁ h₁ => ?_) fun _ _ x => x.elim))))
  cases r with
  | none => exact wpAny_pure (.inr ⟨rfl, codeAny_block (wpAny_execs_nil h₁)⟩)
  | some v =>
    refine wpAny_bind (wpAny_mono h₁ (fun _ s₁' h₁' => ?_) fun _ _ x => x.elim)
    refine wpAny_bind (wpAny_mono h₁' (fun _ s₂ h₂ => wpAny_bind (wpAny_mono h₂ (fun f s₃ h₃ => ?_) fun _ _ x => x.elim)) fun _ _ x => x.elim)
    cases f with
    | next => exact wpAny_pure (.inl ⟨rfl, h₃⟩)
    | cont => exact wpAny_pure (.inl ⟨rfl, h₃⟩)
    | brk => exact wpAny_pure h₃
    | ret v => exact wpAny_pure h₃

/-- for -/
theorem Ex1_for (ok : c.Ok) {target iter : Expr} {body : List Stmt} {pos} {d : PV} {ds : List PV} (hit : Ev c ρ true iter d) (hds : ItOk d ds) (Inv : Nat → Env1 → Prop) (h₀ : Inv 0 ρ)
    (turn : ∀ i (d : PV) ρ, ds[i]? = some d → Inv i ρ → ∃ ρ', Asg c target d ρ ρ' ∧ Ex c ρ' body (fun pf ρ'' => match pf with | .next => Inv (i + 1) ρ'' | .cont => Inv (i + 1) ρ'' | .brk => Q .next ρ'' | .ret d => Q (.ret d) ρ''))
    (fin : ∀ ρ, Inv ds.length ρ → Q .next ρ) (hs : ∀ x, foldedSetIterable iter c.env x = pure x) : Ex1 c ρ (.For target iter body [] pos) Q := .mk fun A T s ha st => by
  refine wpAny_For (hit.use ha st fun v s₀ e₀ st₀ r => itr_of ok hds st₀ (r.weak fun _ q => Cx.Q_iff.mpr q) fun it s₁ I fp wr Pv StI st₁ x => ?_) hs
  have w₀ := st₀.wd
  have endE : ∀ {ρ' : Env1} {T' : Own1} {s' : Shared}, St c ρ' T' s' → Evo c.G (fun b => c.X T b ∨ b ∈ wr) s₁ s' → Evo c.G (c.X T) s s' := fun {ρ' T' s'} st' ev => by
    refine ⟨fun b o h t n => ?_, fun w => ev.wd (x.ext.wd (e₀.wd w))⟩
    have h1 := e₀.keep b o h t (fun h => h)
    refine ev.keep b o (x.ext.keep b o h1 t (fun h => h)) t ?_
    rintro (q | q)
    · exact n q
    · rw [x.hwr b q] at h1; cases h1
  have endG : ∀ {T' : Own1}, TGrow s₁ T T' → TGrow s T T' := fun {T'} g => ⟨g.sub, fun p hp => (g.new p hp).imp id fun h => dead_back st.wd st₁ (Ext.evo (e₀.trans x.ext)) (fun _ h => h) h⟩
  refine for_loop (fun n s' => ∃ i ρ' T', i ≤ ds.length ∧ n = ds.length - i ∧ Mid c (c.X T) ρ' T T' s₁ s' wr StI i ∧ Inv i ρ') ?_ ds.length ⟨0, ρ, T, Nat.zero_le _, rfl, Mid.first st₁ x, h₀⟩
  rintro n s' ⟨i, ρ', T', hi, rfl, m, hI⟩
  have W := x.walks A ha.handled
  rw [x.hit]
  have avW : ∀ a ∈ c.av, a ∉ wr := fun a h hb => by
    obtain ⟨o, ho, _⟩ := st₀.avs a h
    rw [x.hwr a hb] at ho; cases ho
  by_cases hlt : i < ds.length
  · refine W.item i s' _ _ hlt m.at_ fun v h' tk hv hst hk => ?_
    obtain ⟨d', hd', rd⟩ := x.items i v hv
    obtain ⟨st₂, ev₂⟩ := m.next ok st₁ x w₀ st₀.keep0 avW hk (tk := tk)
    have m₂ : Mid c (c.X T) ρ' T T' s₁ { s' with heap := h', toks := tk } wr StI (i + 1) := ⟨st₂, ev₂, m.grow, hst⟩
    obtain ⟨ρ₁, hasg, hbody⟩ := turn i d' ρ' hd' hI
    refine letOwned_list (fun r e => ?_) ?_
    · cases e
      exact x.iterAt hst
    refine wpAny_mono (hasg.run A T' _ v ha st₂ (m₂.item (fun _ h => h) x w₀ rd)) (fun _ s₃ ⟨st₃, e₃⟩ => ?_) fun _ _ h => h
    have m₃ := m₂.step (fun _ h => h) st₁ x st₃ e₃ (fun _ => Cx.Xs_X) (fun _ _ _ => Cx.Xs_X) TGrow.refl
    refine wpAny_mono (hbody.run A T' s₃ ha st₃) (fun fl s₄ ⟨ρ₄, T₄, pf, st₄, e₄, g₄, f₄, q₄⟩ => ?_) fun _ _ h => h
    have m₄ := m₃.step (fun _ h => h) st₁ x st₄ e₄ (fun _ h => h) (fun _ _ h q => X_old m.grow h q) g₄
    cases fl with
    | next => cases pf <;> simp [FlOk] at f₄; exact ⟨_, by omega, i + 1, ρ₄, T₄, hlt, rfl, m₄, q₄⟩
    | cont => cases pf <;> simp [FlOk] at f₄; exact ⟨_, by omega, i + 1, ρ₄, T₄, hlt, rfl, m₄, q₄⟩
    | brk => cases pf <;> simp [FlOk] at f₄; exact ⟨ρ₄, T₄, .next, st₄, endE st₄ m₄.evo, endG m₄.grow, trivial, q₄⟩
    | ret v => cases pf <;> simp [FlOk] at f₄; exact ⟨ρ₄, T₄, .ret _, st₄, endE st₄ m₄.evo, endG m₄.grow, f₄, q₄⟩
  · have hi' : i = ds.length := by omega
    subst hi'
    refine W.done s' _ _ m.at_ fun h' tk hk => ?_
    obtain ⟨st₂, ev₂⟩ := m.next ok st₁ x w₀ st₀.keep0 avW hk (tk := tk)
    exact ⟨ρ', T', .next, st₂, endE st₂ ev₂, endG m.grow, trivial, fin ρ' hI⟩
end
end Mine
end

section
open PySem PyProof.Rows
open PySem.SeqAt
namespace Mine

/-! ### the cells that a comprehension takes along -/
noncomputable def closFrom (env : Env) : List (Str × NameKind) → List (Str × Addr) → List (Str × Addr)
  | [], acc => acc
  | (n, k) :: r, acc => if k == .free then closFrom env r ((n, (env.cells.lookup n).getD 0) :: acc) else closFrom env r acc

noncomputable def capOk (env : Env) (scope : Scope) : Bool := scope.names.all fun p => p.2 != .free || ((env.kindOf p.1 == some .cell || env.kindOf p.1 == some .free) && (env.cells.lookup p.1).isSome)

theorem capOk_spec {env : Env} {scope : Scope} (h : capOk env scope = true) {x : Str} (hx : (x, NameKind.free) ∈ scope.names) :
    (env.kindOf x = some .cell ∨ env.kindOf x = some .free) ∧ ∃ a, env.cells.lookup x = some a := by
  have := List.all_eq_true.mp h _ hx
  simp only [bne_self_eq_false, Bool.false_or, Bool.and_eq_true, Bool.or_eq_true, beq_iff_eq] at this
  exact ⟨this.1, Option.isSome_iff_exists.mp this.2⟩

theorem closureFor_go (env : Env) (f : Str × NameKind → List (Str × Addr) → Sem (ForInStep (List (Str × Addr))))
    (hf : ∀ n k acc, f (n, k) acc = if (k == .free) = true then (do let a ← cellOf env n; pure (.yield ((n, a) :: acc))) else pure (.yield acc)) :
    ∀ (names : List (Str × NameKind)) (acc : List (Str × Addr)), (∀ x, (x, NameKind.free) ∈ names → ∃ a, env.cells.lookup x = some a) → forIn names acc f = pure (closFrom env names acc)
  | [], acc, _ => rfl
  | (n, k) :: r, acc, h => by
    rw [List.forIn_cons, hf]
    have ih := closureFor_go env f hf r
    have hr : ∀ x, (x, NameKind.free) ∈ r → ∃ a, env.cells.lookup x = some a := fun x hx => h x (List.mem_cons_of_mem _ hx)
    unfold closFrom
    by_cases hk : (k == NameKind.free) = true
    · rw [if_pos hk, if_pos hk]
      have hk' : k = .free := by simpa using hk
      subst hk'
      obtain ⟨a, ha⟩ := h n List.mem_cons_self
      have : cellOf env n = pure a := by unfold cellOf; rw [ha]
      rw [this, ha]
      simp only [pure_bind]
      exact ih _ hr
    · rw [if_neg hk, if_neg hk]
      simp only [pure_bind]
      exact ih _ hr

theorem closureFor_eq {env : Env} {scope : Scope} (h : capOk env scope = true) : closureFor scope env = pure (closFrom env scope.names []) := by
  have key := closureFor_go env (fun x acc => match x with | (name, kind) => if (kind == NameKind.free) = true then (do let a ← cellOf env name; pure (ForInStep.yield ((name, a) :: acc))) else pure (ForInStep.yield acc))
    (fun n k acc => rfl) scope.names [] (fun x hx => (capOk_spec h hx).2)
  unfold closureFor
  exact (congrArg (· >>= fun s => pure s) key).trans rfl

theorem closFrom_acc {env : Env} {x : Str} {a : Addr} (ha : env.cells.lookup x = some a) : ∀ (names : List (Str × NameKind)) (acc : List (Str × Addr)), acc.lookup x = some a → (closFrom env names acc).lookup x = some a
  | [], acc, h => h
  | (n, k) :: r, acc, h => by
    unfold closFrom
    split
    · refine closFrom_acc ha r _ ?_
      rw [List.lookup_cons]
      cases hx : x == n with
      | true => rw [← beq_iff_eq.mp hx, ha]; rfl
      | false => exact h
    · exact closFrom_acc ha r acc h
theorem closFrom_lookup {env : Env} {x : Str} {a : Addr} (ha : env.cells.lookup x = some a) : ∀ (names : List (Str × NameKind)) (acc : List (Str × Addr)), (x, NameKind.free) ∈ names → (closFrom env names acc).lookup x = some a
  | (n, k) :: r, acc, h => by
    unfold closFrom
    rcases List.mem_cons.mp h with e | h
    · cases e
      rw [if_pos (by rfl)]
      refine closFrom_acc ha r _ ?_
      rw [List.lookup_cons, beq_self_eq_true, ha]; rfl
    · split
      · exact closFrom_lookup ha r _ h
      · exact closFrom_lookup ha r _ h

theorem lookup_relabel {env : Env} {x : Str} {k₀ : NameKind} (g : Str × NameKind → Str × NameKind) (hg : ∀ n k, g (n, k) = (n, k) ∨ (k = .free ∧ g (n, k) = (n, .cell))) : ∀ {names : List (Str × NameKind)}, names.lookup x = some k₀ →
    (names.map g).lookup x = some k₀ ∨ (k₀ = .free ∧ (names.map g).lookup x = some .cell)
  | [], h => by simp at h
  | (n, k) :: r, h => by
    have ih := @lookup_relabel env x k₀ g hg r
    rw [List.map_cons]
    rw [List.lookup_cons] at h
    rcases hg n k with e | ⟨hk, e⟩
    · rw [e, List.lookup_cons]
      cases hx : x == n with
      | true => rw [hx] at h; exact .inl h
      | false => rw [hx] at h; exact ih h
    · rw [e, List.lookup_cons]
      cases hx : x == n with
      | true =>
        rw [hx] at h
        have h' : k = k₀ := by simpa using h
        exact .inr ⟨h' ▸ hk, rfl⟩
      | false => rw [hx] at h; exact ih h
theorem relabel_lookup {scope : Scope} {env : Env} {x : Str} {k₀ : NameKind} (h : scope.names.lookup x = some k₀) : (relabel scope env).names.lookup x = some k₀ ∨ (k₀ = .free ∧ (relabel scope env).names.lookup x = some .cell) := by
  refine lookup_relabel (env := env) _ (fun n k => ?_) h
  by_cases hc : (k == NameKind.free && env.scope.kind == .function && env.kindOf n == some .cell) = true
  · have hk : k = .free := by simp only [Bool.and_eq_true, beq_iff_eq] at hc; exact hc.1.1
    exact .inr ⟨hk, if_pos hc⟩
  · exact .inl (if_neg hc)
theorem lookup_relabel_free {scope : Scope} {env : Env} {x : Str} (h : scope.names.lookup x = some .free) : (relabel scope env).names.lookup x = some .cell ∨ (relabel scope env).names.lookup x = some .free :=
  (relabel_lookup h).elim .inr fun h => .inl h.2
/-- the frame of a comprehension's body -/
noncomputable def Cx.inner (c : Cx) (scope : Scope) (C : Addr) : Cx where
  G := c.G
  env := compEnvC scope (closFrom c.env scope.names []) C c.env
  h₀ := c.h₀
  P := c.P
  mc := []
  own := c.own
  rk := c.rk
  comp := true
  av := c.L :: c.mc ++ c.av

section
variable {c : Cx} {ρ : Env1} {T : Own1}

theorem inner_ok (ok : c.Ok) {s : Shared} (st : St c ρ T s) {scope : Scope} {C : Addr} (hC : s.heap.get? C = none) (hk : scope.kind = .function) : (c.inner scope C).Ok where
  kind := hk
  glob := ok.glob
  blt := ok.blt
  Lnew := by
    show c.h₀.get? C = none
    cases q : c.h₀.get? C with
    | none => rfl
    | some o =>
      exfalso
      by_cases t : c.G.Tb C
      · obtain ⟨o', e', _⟩ := st.wd.tb C t
        rw [hC] at e'; cases e'
      · rw [st.keep0 C o q t] at hC; cases hC
  mcnew := fun a h => by cases h
  fresh := ok.fresh
  tb := ok.tb
  old := ok.old
  cellMc := fun _ _ h => by cases h
  ownNe := ok.ownNe
  avX := fun a h q => by
    rcases q with q | q
    · subst q
      have alive : ∃ o, s.heap.get? a = some o := by
        have h' : a ∈ c.L :: c.mc ++ c.av := h
        simp only [List.cons_append, List.mem_cons, List.mem_append] at h'
        rcases h' with h' | h' | h'
        · obtain ⟨m, o, _, _, hL, _⟩ := st.ns
          exact ⟨o, h' ▸ hL⟩
        · obtain ⟨v, o, hc, _⟩ := st.mcs a h'
          exact ⟨o, hc⟩
        · obtain ⟨o, hc, _⟩ := st.avs a h'
          exact ⟨o, hc⟩
      obtain ⟨o, ho⟩ := alive
      have hC' : s.heap.get? a = none := hC
      rw [ho] at hC'; cases hC'
    · cases q
  apart := fun h => by cases h

/-- the variables that it takes along -/
noncomputable def CapEnv (ρc ρ : Env1) (scope : Scope) : Prop := ∀ x d, ρc.lookup x = some d → ρ.lookup x = some d ∧ scope.names.lookup x = some .free

theorem inner_st (ok : c.Ok) {s₁ s : Shared} (st₁ : St c ρ T s₁) (e : Ext c.G s₁ s) {scope : Scope} {C D : Addr} (hC : s₁.heap.get? C = none) (hD : s₁.heap.get? D = none) {m} (hn : s.heap.Ns C m) {vs n} (hl : IsL s.heap D vs n)
    (hcap : capOk c.env scope = true) {ρc : Env1} (hρ : CapEnv ρc ρ scope) : St (c.inner scope C) ρc ((Str.empty, D) :: T) s := by
  have st := st₁.ext e
  have dead0 : ∀ a, s₁.heap.get? a = none → c.h₀.get? a = none := fun a h => by
    cases q : c.h₀.get? a with
    | none => rfl
    | some o =>
      exfalso
      by_cases t : c.G.Tb a
      · obtain ⟨o', e', _⟩ := st₁.wd.tb a t
        rw [h] at e'; cases e'
      · rw [st₁.keep0 a o q t] at h; cases h
  have qq : ∀ b o, s₁.heap.get? b = some o → c.Q T b → (c.inner scope C).Q ((Str.empty, D) :: T) b := fun b o hb h => by
    refine ⟨⟨h.1.1, fun q => ?_, List.not_mem_nil, fun q => ?_⟩, fun p hp q => ?_⟩
    · have q' : b = C := q
      rw [q', hC] at hb; cases hb
    · have q' : b ∈ c.L :: c.mc ++ c.av := q
      simp only [List.cons_append, List.mem_cons, List.mem_append] at q'
      rcases q' with q' | q' | q'
      · exact h.1.2.1 q'
      · exact h.1.2.2.1 q'
      · exact h.1.2.2.2 q'
    · rcases List.mem_cons.mp hp with rfl | hp
      · have q' : b = D := q
        rw [q', hD] at hb; cases hb
      · exact h.2 p hp q
  refine ⟨st.wd, st.keep0, ⟨m, hn⟩, (fun a h => absurd h List.not_mem_nil), fun x d hd => ?_, fun p hp => ?_, ?_, fun a h => ?_⟩
  · obtain ⟨h1, h2⟩ := hρ x d hd
    obtain ⟨v, hv, ho, hr⟩ := st₁.vars x d h1
    have hmem : (x, NameKind.free) ∈ scope.names := mem_of_lookup h2
    obtain ⟨hkind, a, ha⟩ := capOk_spec hcap hmem
    refine ⟨v, ?_, fun q => ?_, fun q => ?_⟩
    · refine .inr ⟨lookup_relabel_free h2, a, closFrom_lookup ha _ _ hmem, ?_⟩
      rcases hv with ⟨k, _⟩ | ⟨_, a', ha', hc⟩
      · rcases hkind with q | q <;> rw [k] at q <;> cases q
      · rw [ha] at ha'; cases ha'
        exact st₁.wd.cell_keep e (fun h => h) hc
    · obtain ⟨b, ds, vs', n', e1, e2, e3, e4, e5, e6⟩ := ho q
      refine ⟨b, ds, vs', n', e1, e2, ?_, st₁.wd.list_keep e (fun h => h) e4, ?_, e6⟩
      · rw [List.lookup_cons]
        have : (x == Str.empty) = false := by
          cases hx : x == Str.empty with
          | false => rfl
          | true => exact absurd (beq_iff_eq.mp hx ▸ q) ok.ownNe
        rw [this]; exact e3
      · exact RepAll.mono (fun b o hb hv p => ⟨qq b o hb p, e.keep b o hb (st₁.wd.notTb hb hv.1) (fun h => h)⟩) _ _ e5
    · exact Rep.mono (fun b o hb hv p => ⟨qq b o hb p, e.keep b o hb (st₁.wd.notTb hb hv.1) (fun h => h)⟩) _ _ (hr q)
  · rcases List.mem_cons.mp hp with rfl | hp
    · exact ⟨dead0 D hD, vs, n, hl⟩
    · exact st.own p hp
  · refine List.pairwise_cons.mpr ⟨fun p hp q => ?_, st.nodup⟩
    obtain ⟨_, vs', n', l'⟩ := st₁.own p hp
    have l'' : s₁.heap.get? p.2 = _ := l'
    have q' : D = p.2 := q
    rw [← q', hD] at l''; cases l''
  · have h' : a ∈ c.L :: c.mc ++ c.av := h
    simp only [List.cons_append, List.mem_cons, List.mem_append] at h'
    rcases h' with h' | h' | h'
    · obtain ⟨m', o, es, ep, hL, hd, _⟩ := st.ns
      exact ⟨o, h' ▸ hL, fun vs n q => by rw [hd] at q; cases q⟩
    · obtain ⟨v, o, hc, hd⟩ := st.mcs a h'
      exact ⟨o, hc, fun vs n q => by rw [hd] at q; cases q⟩
    · exact st.avs a h'
end
end Mine
end

section
open PySem PyProof.Rows
open PySem.SeqAt
open MeetsSeq
namespace Mine

section
variable {c : Cx} {ρ : Env1} {T : Own1}

/-- a list that the frame owns is changed -/
theorem St.mutate (ok : c.Ok) {s : Shared} (st : St c ρ T s) {y : Str} {a : Addr} (hm : (y, a) ∈ T) {h' : Heap} {tk : Nat} (hs : Heap.SameBut a s.heap h') {vs : Array Value} {n : Nat} (l : IsL h' a vs n) {ρ' : Env1}
    (hρ : ∀ x d, ρ'.lookup x = some d → (x ≠ y ∧ ρ.lookup x = some d) ∨ (x = y ∧ y ∈ c.own ∧ T.lookup y = some a ∧ (∃ d, ρ.lookup y = some d) ∧ ∃ ds, d = .list ds ∧ RepAll s.heap (c.Q T) ds vs.toList ∧ ds.length ≤ sizeLine)) :
    St c ρ' T { s with heap := h', toks := tk } ∧ Evo c.G (fun b => b = a) s { s with heap := h', toks := tk } := by
  obtain ⟨h0, vs₀, n₀, l₀⟩ := st.own _ hm
  have hne := st.own_ne hm
  have ev : Evo c.G (fun b => b = a) s { s with heap := h', toks := tk } := by
    refine Evo.but (fun b o hb e => (hs.2 b hb).trans e) rfl ?_ (fun o e => ?_)
    · cases q : c.G.h₁.get? a with
      | none => rfl
      | some o => obtain ⟨o', e⟩ := ok.old a o q; rw [h0] at e; cases e
    · have l₀' : s.heap.get? a = _ := l₀
      rw [l₀'] at e; cases e
      exact Obj.notCode_list
  have hQ : ∀ b, c.Q T b → ¬ (b = a) := fun b h q => h.2 _ hm q
  have dataNe : ∀ {b : Addr} {o : Obj}, s.heap.get? b = some o → (∀ vs n, o.data ≠ .seq vs n) → b ≠ a := fun {b o} e q r => by
    subst r
    have l₀' : s.heap.get? b = _ := l₀
    rw [l₀'] at e; cases e; exact q _ _ rfl
  refine ⟨⟨ev.wd st.wd, fun b o e t => ?_, ?_, fun b hb => ?_, fun x d hd => ?_, fun p hp => ?_, st.nodup, fun b hb => ?_⟩, ev⟩
  · exact ev.keep b o (st.keep0 b o e t) t fun q => by rw [q, h0] at e; cases e
  · obtain ⟨m, o, es, ep, hL, hd, r⟩ := st.ns
    exact ⟨m, o, es, ep, (hs.2 _ (dataNe hL (by rw [hd]; nofun))).trans hL, hd, r⟩
  · obtain ⟨v, o, hc, hd⟩ := st.mcs b hb
    exact ⟨v, o, (hs.2 _ (dataNe hc (by rw [hd]; nofun))).trans hc, hd⟩
  · have var : ∀ {x : Str} {v : Value}, VarAt c s x v → VarAt c { s with heap := h', toks := tk } x v := fun {x v} hv => by
      rcases hv with ⟨k, m, ⟨o, es, ep, hL, hd, r⟩, hx⟩ | ⟨k, b, hb, o, hc, hd⟩
      · exact .inl ⟨k, m, ⟨o, es, ep, (hs.2 _ (dataNe hL (by rw [hd]; nofun))).trans hL, hd, r⟩, hx⟩
      · exact .inr ⟨k, b, hb, o, (hs.2 _ (dataNe hc (by rw [hd]; nofun))).trans hc, hd⟩
    rcases hρ x d hd with ⟨hxy, hd⟩ | ⟨rfl, hown, hT, ⟨d₀, hd₀⟩, ds, rfl, rs, hz⟩
    · obtain ⟨v, h1, h2, h3⟩ := st.vars x d hd
      refine ⟨v, var h1, fun q => ?_, fun q => (h3 q).evo st.wd ev hQ⟩
      obtain ⟨b, ds, vs', n', e1, e2, e3, e4, e5, e6⟩ := h2 q
      have hba : b ≠ a := fun q => hxy (name_of_addr st.nodup (q ▸ mem_of_lookup e3) hm)
      exact ⟨b, ds, vs', n', e1, e2, e3, (hs.2 b hba).trans e4, e5.evo st.wd ev hQ, e6⟩
    · obtain ⟨v, h1, h2, _⟩ := st.vars x d₀ hd₀
      obtain ⟨b, ds', vs', n', e1, e2, e3, e4, e5, e6⟩ := h2 hown
      rw [hT] at e3; cases e3
      refine ⟨v, var h1, fun q => ⟨a, ds, vs, n, rfl, e2, hT, l, rs.evo st.wd ev hQ, hz⟩, fun q => absurd hown q⟩
  · by_cases q : p.2 = a
    · exact ⟨(st.own p hp).1, vs, n, by rw [q]; exact l⟩
    · obtain ⟨h1, vs', n', l'⟩ := st.own p hp
      exact ⟨h1, vs', n', (hs.2 _ q).trans l'⟩
  · obtain ⟨o, ho, q⟩ := st.avs b hb
    exact ⟨o, (hs.2 _ (dataNe ho q)).trans ho, q⟩

/-! ### comprehensions -/
noncomputable def Tests (c : Cx) (ρ : Env1) (ifs : List Expr) (k : Bool) : Prop := (ifs = [] ∧ k = true) ∨ ∃ t, ifs = [t] ∧ IsT1 c ρ t k
noncomputable def CompRes (c : Cx) (ρ : Env1) (ifs : List Expr) (elt : Expr) : Option PV → Prop
  | some o => Tests c ρ ifs true ∧ Ev c ρ true elt o
  | none => Tests c ρ ifs false

theorem tests_use {ifs : List Expr} {k : Bool} (h : Tests c ρ ifs k) {A : Around} {s : Shared} (ha : AOk c.rk A) (st : St c ρ T s) {R : Bool → Shared → Prop} (hk : ∀ s', Ext c.G s s' → St c ρ T s' → R k s') {E : Value → Shared → Prop} :
    wpAny c.M A (forIn ifs true fun t r => if r = true then do let ok ← isTrue t c.env (eval t c.env); pure (ForInStep.yield ok) else pure (ForInStep.yield r)) R E s := by
  rcases h with ⟨rfl, rfl⟩ | ⟨t, rfl, h⟩
  · rw [List.forIn_nil]; exact wpAny_pure (hk s Evo.refl st)
  · rw [List.forIn_cons]
    refine wpAny_bind ?_
    rw [if_pos rfl]
    refine wpAny_bind (h.use ha st fun s' e st' => wpAny_pure ?_)
    exact wpAny_pure (hk s' e st')

theorem comp_loop {M₀ : Model} {prog : Program} {w : World} {R : Result → Shared → Prop} {A : Around} {elt target iter : Expr} {ifs : List Expr} {scope : Scope} {pos : Pos} {it acc : Value} {env : Env} {s : Shared} (I : Nat → Shared → Prop)
    (turn : ∀ n s, I n s → wpAny (model prog w) A (pyNext it) (fun r s₁ => match r with
      | none => R (.ok .next) s₁
      | some v => wpAny (model prog w) A (letOwnedTupleGo target it v) (fun _ s₁' => wpAny (model prog w) A (assign target env v) (fun _ s₂ =>
          wpAny (model prog w) A (forIn ifs true fun t r => if r = true then do let ok ← isTrue t env (eval t env); pure (ForInStep.yield ok) else pure (ForInStep.yield r)) (fun ok s₃ =>
            if ok = true then wpAny (model prog w) A (eval elt env) (fun x s₄ =>
              wpAny (model prog w) A (call (.builtin "list.append") [acc, x]) (fun _ s₅ => ∃ m, m < n ∧ I m s₅) (fun _ _ => False) s₄) (fun _ _ => False) s₃
            else ∃ m, m < n ∧ I m s₃) (fun _ _ => False) s₂) (fun _ _ => False) s₁') (fun _ _ => False) s₁) (fun _ _ => False) s)
    (n : Nat) (h : I n s) : codeAny (model prog w) A (.compLoop (.ListComp elt [⟨target, iter, ifs, 0⟩] scope pos) 0 it acc env) R s := by
  refine codeAny_loop rfl I (fun n s hI => ?_) n h
  show wpAny _ A ((compTurn (.ListComp elt [⟨target, iter, ifs, 0⟩] scope pos) 0 it acc env).onRaise (fun x => do noteFrame x env; theTreesLotGoes x)) _ _ s
  refine wpAny_noted ?_
  rw [compTurn_list]
  refine wpAny_bind (wpAny_standAt (wpAny_bind (wpAny_mono (turn n s hI) (fun r s₁ h₁ => ?_) fun _ _ x => x.elim)))
  cases r with
  | none => exact wpAny_pure h₁
  | some v =>
    refine wpAny_bind (wpAny_mono h₁ (fun _ s₁' h₁' => ?_) fun _ _ x => x.elim)
    refine wpAny_bind (wpAny_mono h₁' (fun _ s₂ h₂ => wpAny_bind (wpAny_mono h₂ (fun ok s₃ h₃ => ?_) fun _ _ x => x.elim)) fun _ _ x => x.elim)
    cases ok with
    | false => exact wpAny_pure ⟨rfl, h₃⟩
    | true => exact wpAny_bind (wpAny_bind (wpAny_mono h₃ (fun x s₄ h₄ => wpAny_bind (wpAny_mono h₄ (fun _ s₅ h₅ => wpAny_pure (wpAny_pure ⟨rfl, h₅⟩)) fun _ _ x => x.elim)) fun _ _ x => x.elim))

noncomputable def compOk (env : Env) (scope : Scope) : Bool :=
  capOk env scope && scope.kind == .function && scope.names.all (fun p => p.2 != .cell) && scope.names.all (fun p => p.2 != .local || scope.names.lookup p.1 == some .local) && scope.names.all (fun p => p.1 != Str.empty)

theorem inner_Q (ok : c.Ok) {scope : Scope} {C D : Addr} {a : Addr} (h : (c.inner scope C).Q ((Str.empty, D) :: T) a) : c.Q T a ∧ a ≠ D ∧ a ≠ C := by
  obtain ⟨⟨h1, h2, _, h4⟩, h5⟩ := h
  have h4' : a ∉ c.L :: c.mc ++ c.av := h4
  simp only [List.cons_append, List.mem_cons, List.mem_append, not_or] at h4'
  exact ⟨⟨⟨h1, h4'.1, h4'.2.1, h4'.2.2⟩, fun p hp => h5 p (List.mem_cons_of_mem _ hp)⟩, h5 _ List.mem_cons_self, h2⟩

theorem take_filterMap_succ {ds : List PV} {i : Nat} {d : PV} (F : PV → Option PV) (h : ds[i]? = some d) : (ds.take (i + 1)).filterMap F = (ds.take i).filterMap F ++ (F d).toList := by
  rw [List.take_add_one, h, List.filterMap_append]
  congr 1

set_option maxHeartbeats 1000000 in
theorem comp_main' (ok : c.Ok) {elt target iter : Expr} {ifs : List Expr} {scope : Scope} {pos p' : Pos} {use : Option (Value → Sem Unit)} {Qv : Value → Shared → Prop} {A : Around} {s : Shared} {d : PV} {ds : List PV} (ha : AOk c.rk A) (st : St c ρ T s)
    (hit : ∀ R : Value → Shared → Prop, (∀ v s₁, Ext c.G s s₁ → St c ρ T s₁ → Rep s₁.heap (c.Q T) d v → R v s₁) → wpAny c.M A (eval iter c.env) R (fun _ _ => False) s) (hds : ItOk d ds) (hlen : ds.length ≤ sizeLine) (hok : compOk c.env scope = true) {ρc : Env1} (hρ : CapEnv ρc ρ scope) (F : PV → Option PV)
    (turn : ∀ C d, d ∈ ds → (c.inner scope C).Ok → ∃ ρ', Asg (c.inner scope C) target d ρc ρ' ∧ SubEnv ρc ρ' ∧ CompRes (c.inner scope C) ρ' ifs elt (F d))
    (hs : ∀ x, foldedSetIterable iter c.env x = pure x)
    (k : ∀ s' C D vs n m, Ext c.G s s' → s.heap.get? C = none → s.heap.get? D = none → C ≠ D → s'.heap.Ns C m → IsL s'.heap D vs n → RepAll s'.heap (fun a => c.Q T a ∧ a ≠ D ∧ a ≠ C) (ds.filterMap F) vs.toList →
      compPost c.M A (fun _ _ => False) use Qv (.ref D) C (.ok .next) s') :
    wpAny c.M A (comprehension (.ListComp elt [⟨target, iter, ifs, 0⟩] scope pos) scope c.env p' (newList []) false (eval iter c.env) use) Qv (fun _ _ => False) s := by
  simp only [compOk, Bool.and_eq_true, beq_iff_eq] at hok
  obtain ⟨⟨⟨⟨hcap, hkind⟩, hcell⟩, hnames⟩, hempty⟩ := hok
  have hcell' : ∀ x ∈ scope.names, x.2 ≠ .cell := fun x hx => by simpa using List.all_eq_true.mp hcell x hx
  have hnames' : ∀ x ∈ scope.names, x.2 = .local → scope.names.lookup x.1 = some .local := fun x hx hl => by
    have := List.all_eq_true.mp hnames x hx
    simpa [hl] using this
  refine wpAny_comprehension_free (g := ⟨target, iter, ifs, 0⟩) (gs := []) rfl hs (closureFor_eq hcap) hkind hnames' ?_
  refine hit _ fun v s₁ e₁ st₁ r => itr_of ok hds st₁ r fun it s₂ I fp wr Pv StI st₂ x => ?_
  refine wpAny_newObj_type (T := "list") (data := .seq #[]) ?_ (Nat.zero_le _)
  refine wpAny_newFunctionEnv hcell' (fun _ h => nomatch h) (fun h₄ hns hsb => ?_) hkind
  -- the state at the loop's start
  have D_new : s₂.heap.get? s₂.heap.objs.size = none := get_new
  have C_new : (s₂.heap.push { cls := .type "list", data := .seq #[] }).get? (s₂.heap.push { cls := .type "list", data := .seq #[] }).objs.size = none := get_new
  generalize hDe : s₂.heap.objs.size = D at *
  generalize hh₃ : s₂.heap.push { cls := .type "list", data := .seq #[] } = h₃ at *
  have hCD : h₃.objs.size = D + 1 := by rw [← hh₃, ← hDe]; simp
  generalize hCe : h₃.objs.size = C at *
  have lD₃ : IsL h₃ D #[] 0 := by rw [← hh₃, ← hDe]; exact IsL.new _ _
  have hCneD : C ≠ D := by omega
  have k23 : ∀ b o, s₂.heap.get? b = some o → h₃.get? b = some o := fun b o e => by rw [← hh₃]; exact Heap.get?_push_of_some _ e
  have k34 : ∀ b o, h₃.get? b = some o → h₄.get? b = some o := fun b o e => by
    have hb : b ≠ C := fun q => by rw [q, C_new] at e; cases e
    exact (hsb.2 b hb).trans (Heap.get?_push_of_some _ e)
  have e24 : Ext c.G s₂ { s₂ with heap := h₄, toks := s₂.toks + 0 } := Ext.of fun b o e => k34 b o (k23 b o e)
  have lD₄ : IsL h₄ D #[] 0 := k34 _ _ lD₃
  have C_new₂ : s₂.heap.get? C = none := by
    cases q : s₂.heap.get? C with
    | none => rfl
    | some o => rw [k23 C o q] at C_new; cases C_new
  have dead1 : ∀ a, s₂.heap.get? a = none → s₁.heap.get? a = none := fun a h => dead_back st₁.wd st₂ (Ext.evo x.ext) (fun _ h => h) h
  have dead0 : ∀ a, s₁.heap.get? a = none → s.heap.get? a = none := fun a h => dead_back st.wd st₁ (Ext.evo e₁) (fun _ h => h) h
  have C₁ := dead1 C C_new₂
  have D₁ := dead1 D D_new
  have ok' : (c.inner scope C).Ok := inner_ok ok st₁ C₁ hkind
  have e14 : Ext c.G s₁ { s₂ with heap := h₄, toks := s₂.toks + 0 } := x.ext.trans e24
  have st₄ : St (c.inner scope C) ρc ((Str.empty, D) :: T) { s₂ with heap := h₄, toks := s₂.toks + 0 } := inner_st ok st₁ e14 C₁ D₁ hns lD₄ hcap hρ
  show codeAny c.M A (.compStart _ 0 it (.ref D) (compEnvC scope (closFrom c.env scope.names []) C c.env)) _ _
  generalize hs₄ : ({ s₂ with heap := h₄, toks := s₂.toks + 0 } : Shared) = s₄ at *
  have hs₄h : s₄.heap = h₄ := by rw [← hs₄]
  have W := x.walks A ha.handled
  have fpNew : ∀ b ∈ fp, b ≠ C ∧ b ≠ D := fun b hb => by
    obtain ⟨o, ho⟩ := x.alive 0 _ x.start b hb
    exact ⟨fun q => (by rw [q, C_new₂] at ho; cases ho), fun q => (by rw [q, D_new] at ho; cases ho)⟩
  have x' : Itr (c.inner scope C) ((Str.empty, D) :: T) s₁ s₄ it ds I fp wr Pv StI := by
    refine ⟨x.hit, x.walks, ?_, e14, fun b hb => ⟨(x.hfp b hb).1, fun q => ?_⟩, x.alive, x.hwr, x.plain, fun i v hv => ?_, x.iwr⟩
    · exact W.frame 0 _ _ x.start fun b hb o ho => by rw [hs₄h]; exact k34 b o (k23 b o ho)
    · rcases q with q | q | ⟨p, hp, q⟩
      · exact (fpNew b hb).1 q
      · cases q
      · rcases List.mem_cons.mp hp with rfl | hp
        · exact (fpNew b hb).2 q
        · exact (x.hfp b hb).2 (.inr (.inr ⟨p, hp, q⟩))
    · obtain ⟨d', hd', rd⟩ := x.items i v hv
      refine ⟨d', hd', Rep.mono (fun b o hb hv p => ⟨?_, hb⟩) _ _ rd⟩
      refine ⟨⟨p.1.1, fun q => ?_, List.not_mem_nil, fun q => ?_⟩, fun p' hp' q => ?_⟩
      · have q' : b = C := q
        rw [q', C₁] at hb; cases hb
      · have q' : b ∈ c.L :: c.mc ++ c.av := q
        simp only [List.cons_append, List.mem_cons, List.mem_append] at q'
        rcases q' with q' | q' | q'
        · exact p.1.2.1 q'
        · exact p.1.2.2.1 q'
        · exact p.1.2.2.2 q'
      · rcases List.mem_cons.mp hp' with rfl | hp'
        · have q' : b = D := q
          rw [q', D₁] at hb; cases hb
        · exact p.2 p' hp' q
  have hX₀ : ∀ b, (b = C ∨ b = D) → (c.inner scope C).X ((Str.empty, D) :: T) b := fun b h => h.elim .inl fun h => .inr (.inr ⟨_, List.mem_cons_self, h⟩)
  have hold : ∀ b o, (c.inner scope C).h₀.get? b = some o → ¬ (c.inner scope C).G.Tb b → s₁.heap.get? b = some o := st₁.keep0
  have avW : ∀ a ∈ (c.inner scope C).av, a ∉ wr := fun a h hb => by
    have h' : a ∈ c.L :: c.mc ++ c.av := h
    have alive : ∃ o, s₁.heap.get? a = some o := by
      simp only [List.cons_append, List.mem_cons, List.mem_append] at h'
      rcases h' with h' | h' | h'
      · obtain ⟨m, o, _, _, hL, _⟩ := st₁.ns
        exact ⟨o, h' ▸ hL⟩
      · obtain ⟨v, o, hc, _⟩ := st₁.mcs a h'
        exact ⟨o, hc⟩
      · obtain ⟨o, hc, _⟩ := st₁.avs a h'
        exact ⟨o, hc⟩
    obtain ⟨o, ho⟩ := alive
    rw [x.hwr a hb] at ho; cases ho
  have hhere : (Str.empty, D) ∈ ((Str.empty, D) :: T : Own1) := List.mem_cons_self
  have hneE : ∀ y d, ρc.lookup y = some d → y ≠ Str.empty := fun y d hd q => by
    subst q
    obtain ⟨h1, h2⟩ := hρ _ _ hd
    have := List.all_eq_true.mp hempty _ (mem_of_lookup h2)
    simp at this
  -- the loop
  have loop : codeAny c.M A (.compLoop (.ListComp elt [⟨target, iter, ifs, 0⟩] scope pos) 0 it (.ref D) (compEnvC scope (closFrom c.env scope.names []) C c.env)) (compPost c.M A (fun _ _ => False) use Qv (.ref D) C) s₄ := by
    refine comp_loop (M₀ := c.M) (fun n s' => ∃ i, i ≤ ds.length ∧ n = ds.length - i ∧ Mid (c.inner scope C) (fun b => b = C ∨ b = D) ρc ((Str.empty, D) :: T) ((Str.empty, D) :: T) s₄ s' wr StI i ∧
      ∃ vs n, IsL s'.heap D vs n ∧ RepAll s'.heap ((c.inner scope C).Q ((Str.empty, D) :: T)) ((ds.take i).filterMap F) vs.toList) ?_ ds.length
      ⟨0, Nat.zero_le _, rfl, Mid.first st₄ x', #[], 0, by rw [hs₄h]; exact lD₄, by simp [RepAll]⟩
    rintro n s' ⟨i, hi, rfl, m, vs, nn, lD, rD⟩
    rw [x.hit]
    by_cases hlt : i < ds.length
    · refine W.item i s' _ _ hlt m.at_ fun v h' tk hv hst hk => ?_
      obtain ⟨d', hd', rd⟩ := x'.items i v hv
      obtain ⟨st₅, ev₅⟩ := m.next ok' st₄ x' st₁.wd hold avW hk (tk := tk)
      have m₅ : Mid (c.inner scope C) (fun b => b = C ∨ b = D) ρc ((Str.empty, D) :: T) ((Str.empty, D) :: T) s₄ { s' with heap := h', toks := tk } wr StI (i + 1) := ⟨st₅, ev₅, m.grow, hst⟩
      have DnotWr : D ∉ wr := fun hb => (fpNew D (W.sub D hb)).2 rfl
      have lD₅ : IsL h' D vs nn := hk D _ DnotWr lD
      have rD₅ : RepAll h' ((c.inner scope C).Q ((Str.empty, D) :: T)) ((ds.take i).filterMap F) vs.toList :=
        RepAll.mono (fun b o hb hv p => ⟨p, hk b o (fun hw => hv.2 (x.plain i _ m.at_ b hw o hb)) hb⟩) _ _ rD
      refine letOwned_list (c := c) (fun r e => by cases e; exact x.iterAt hst) ?_
      obtain ⟨ρ', hasg, hsub, hres⟩ := turn C d' (List.mem_of_getElem? hd') ok'
      refine wpAny_mono (hasg.run A _ _ v ha st₅ (m₅.item hX₀ x' st₁.wd rd)) (fun _ s₆ ⟨st₆, e₆⟩ => ?_) fun _ _ h => h
      have xs : ∀ b, (c.inner scope C).Xs b → b = C := fun b h => h.elim id fun h => nomatch h
      have m₆ := m₅.step hX₀ st₄ x' (st₆.sub hsub) e₆ (fun _ => Cx.Xs_X) (fun b _ _ h => .inl (xs b h)) TGrow.refl
      have lD₆ : IsL s₆.heap D vs nn := e₆.keep _ _ lD₅ (st₅.wd.notTb lD₅ Obj.notCode_list) fun q => hCneD (xs _ q).symm
      have rD₆ : RepAll s₆.heap ((c.inner scope C).Q ((Str.empty, D) :: T)) ((ds.take i).filterMap F) vs.toList := rD₅.evo st₅.wd e₆ fun b h q => Cx.Q_notX h (Cx.Xs_X q)
      have tk' := take_filterMap_succ F hd'
      cases hF : F d' with
      | none =>
        rw [hF] at hres
        refine tests_use (c := c.inner scope C) hres ha st₆ fun s₇ e₇ st₇ => ?_
        simp only [Bool.false_eq_true, if_false]
        have m₇ := m₆.step hX₀ st₄ x' (st₇.sub hsub) e₇ (fun _ h => h.elim) (fun _ _ _ h => h.elim) TGrow.refl
        refine ⟨_, by omega, i + 1, hlt, rfl, m₇, vs, nn, st₆.wd.list_keep e₇ (fun h => h) lD₆, ?_⟩
        rw [tk', hF]
        simpa using rD₆.ext st₆.wd e₇
      | some o =>
        rw [hF] at hres
        refine tests_use (c := c.inner scope C) hres.1 ha st₆ fun s₇ e₇ st₇ => ?_
        simp only [if_true]
        refine hres.2.use ha st₇ fun v₈ s₈ e₈ st₈ r₈ => ?_
        have lD₈ : IsL s₈.heap D vs nn := st₆.wd.list_keep (e₇.trans e₈) (fun h => h) lD₆
        have rD₈ := rD₆.ext st₆.wd (e₇.trans e₈)
        have m₈ := m₆.step hX₀ st₄ x' (st₈.sub hsub) (e₇.trans e₈) (fun _ h => h.elim) (fun _ _ _ h => h.elim) TGrow.refl
        have hsz : vs.size ≤ sizeLine := by
          have h1 := rD.length
          simp only [Array.length_toList] at h1
          rw [h1]
          refine Nat.le_trans (List.length_filterMap_le _ _) (Nat.le_trans ?_ hlen)
          simp; omega
        refine call_meets PySem.F.slot_list_append ⟨_, lD₈, rfl⟩ PySem.F.entry_list_append (PySem.F.args_list_append_2 _ _) (list_append D vs nn v₈ hsz) ⟨lD₈, ?_⟩
        have hsame : Heap.SameBut D s₈.heap (s₈.heap.update D (Obj.mapSeq fun xs => xs.push v₈)) := Heap.SameBut.update ..
        have lD₉ := lD₈.update (fun xs => xs.push v₈)
        obtain ⟨st₉, e₉⟩ := (st₈.sub hsub).mutate ok' hhere hsame (tk := s₈.toks) lD₉ (ρ' := ρc) (fun y d hd => .inl ⟨hneE y d hd, hd⟩)
        · have m₉ := m₈.step hX₀ st₄ x' st₉ e₉ (fun b h => hX₀ b (.inr h)) (fun b _ _ h => .inr h) TGrow.refl
          refine ⟨_, by omega, i + 1, hlt, rfl, m₉, _, _, lD₉, ?_⟩
          rw [tk', hF]
          have rr : RepAll s₈.heap ((c.inner scope C).Q ((Str.empty, D) :: T)) ((ds.take i).filterMap F ++ [o]) (vs.toList ++ [v₈]) := rD₈.snoc (r₈.weak fun _ q => Cx.Q_iff.mpr q)
          have := rr.evo st₈.wd e₉ fun b h q => h.2 _ hhere q
          simpa using this
    · have hi' : i = ds.length := by omega
      subst hi'
      refine W.done s' _ _ m.at_ fun h' tk hk => ?_
      obtain ⟨st₅, ev₅⟩ := m.next ok' st₄ x' st₁.wd hold avW hk (tk := tk)
      have DnotWr : D ∉ wr := fun hb => (fpNew D (W.sub D hb)).2 rfl
      have lD₅ : IsL h' D vs nn := hk D _ DnotWr lD
      have rD₅ : RepAll h' ((c.inner scope C).Q ((Str.empty, D) :: T)) ((ds.take ds.length).filterMap F) vs.toList :=
        RepAll.mono (fun b o hb hv p => ⟨p, hk b o (fun hw => hv.2 (x.plain _ _ m.at_ b hw o hb)) hb⟩) _ _ rD
      obtain ⟨mm, hmm⟩ := st₅.ns
      have ext : Ext c.G s { s' with heap := h', toks := tk } := by
        refine ⟨fun b o hb t _ => ?_, fun w => ev₅.wd (e14.wd (e₁.wd w))⟩
        have h1 := e₁.keep b o hb t (fun h => h)
        refine ev₅.keep b o (e14.keep b o h1 t (fun h => h)) t ?_
        rintro ((q | q) | q)
        · rw [q, C₁] at h1; cases h1
        · rw [q, D₁] at h1; cases h1
        · rw [x.hwr b q] at h1; cases h1
      refine k _ C D vs nn mm ext (dead0 C C₁) (dead0 D D₁) hCneD hmm lD₅ ?_
      rw [List.take_length] at rD₅
      exact rD₅.weak fun a h => inner_Q ok h
  refine codeAny_compStart_list loop ?_
  rw [x.hit] at loop ⊢
  exact W.self 0 _ _ _ x'.start loop
theorem comp_main (ok : c.Ok) {elt target iter : Expr} {ifs : List Expr} {scope : Scope} {pos p' : Pos} {use : Option (Value → Sem Unit)} {Qv : Value → Shared → Prop} {A : Around} {s : Shared} {d : PV} {ds : List PV} (ha : AOk c.rk A) (st : St c ρ T s)
    (hiter : Ev c ρ true iter d) (hds : ItOk d ds) (hlen : ds.length ≤ sizeLine) (hok : compOk c.env scope = true) {ρc : Env1} (hρ : CapEnv ρc ρ scope) (F : PV → Option PV)
    (turn : ∀ C d, d ∈ ds → (c.inner scope C).Ok → ∃ ρ', Asg (c.inner scope C) target d ρc ρ' ∧ SubEnv ρc ρ' ∧ CompRes (c.inner scope C) ρ' ifs elt (F d))
    (hs : ∀ x, foldedSetIterable iter c.env x = pure x)
    (k : ∀ s' C D vs n m, Ext c.G s s' → s.heap.get? C = none → s.heap.get? D = none → C ≠ D → s'.heap.Ns C m → IsL s'.heap D vs n → RepAll s'.heap (fun a => c.Q T a ∧ a ≠ D ∧ a ≠ C) (ds.filterMap F) vs.toList →
      compPost c.M A (fun _ _ => False) use Qv (.ref D) C (.ok .next) s') :
    wpAny c.M A (comprehension (.ListComp elt [⟨target, iter, ifs, 0⟩] scope pos) scope c.env p' (newList []) false (eval iter c.env) use) Qv (fun _ _ => False) s :=
  comp_main' ok ha st (fun R k => hiter.use ha st fun v s₁ e₁ st₁ r => k v s₁ e₁ st₁ (r.weak fun _ q => Cx.Q_iff.mpr q)) hds hlen hok hρ F turn hs k
end
end Mine
end

section
open PySem PyProof.Rows
open PySem.SeqAt
open MeetsSeq
namespace Mine

section
variable {c : Cx} {ρ : Env1} {T : Own1}

theorem Wd.dead₁ {G : Wo} {s : Shared} (w : Wd G s) {a : Addr} (h : s.heap.get? a = none) : G.h₁.get? a = none := by
  cases q : G.h₁.get? a with
  | none => rfl
  | some o =>
    exfalso
    by_cases t : G.Tb a
    · obtain ⟨o', e, _⟩ := w.tb a t; rw [h] at e; cases e
    · rw [w.old a o q t] at h; cases h

theorem ext_but {s s' : Shared} (w : Wd c.G s) (e : Ext c.G s s') {C : Addr} (hC : s.heap.get? C = none) {m} (hn : s'.heap.Ns C m) {h' : Heap} (hs : Heap.SameBut C s'.heap h') : Ext c.G s { s' with heap := h' } := by
  have ev : Evo c.G (fun b => b = C) s' { s' with heap := h', toks := s'.toks } := Evo.but (fun b o hb e => (hs.2 b hb).trans e) rfl (w.dead₁ hC) fun o e => by
    obtain ⟨o', es, ep, hL, hd, _⟩ := hn
    rw [hL] at e; cases e
    exact not_codeLike_dict hd
  exact ⟨fun b o hb t _ => ev.keep b o (e.keep b o hb t (fun h => h)) t fun q => (by rw [q, hC] at hb; cases hb), fun w => ev.wd (e.wd w)⟩

/-- [elt for target in iter (if ..)] -/
theorem EvF_comp (ok : c.Ok) {elt target iter : Expr} {ifs : List Expr} {scope : Scope} {pos : Pos} {d : PV} {ds : List PV}
    (hiter : Ev c ρ true iter d) (hds : ItOk d ds) (hlen : ds.length ≤ sizeLine) (hok : compOk c.env scope = true) {ρc : Env1} (hρ : CapEnv ρc ρ scope) (F : PV → Option PV)
    (turn : ∀ C d, d ∈ ds → (c.inner scope C).Ok → ∃ ρ', Asg (c.inner scope C) target d ρc ρ' ∧ SubEnv ρc ρ' ∧ CompRes (c.inner scope C) ρ' ifs elt (F d))
    (hs : ∀ x, foldedSetIterable iter c.env x = pure x) : EvF c ρ (.ListComp elt [⟨target, iter, ifs, 0⟩] scope pos) (ds.filterMap F) := .mk fun A T s ha st => by
  rw [eval_ListComp]
  show wpAny _ _ (comprehension _ scope c.env _ (newList []) false (eval iter c.env) none) _ _ _
  refine comp_main ok ha st hiter hds hlen hok hρ F turn hs fun s' C D vs n m e hC hD hne hn l r => ?_
  refine ⟨m, hn, fun h' hsb => ⟨ext_but st.wd e hC hn hsb, D, vs, n, rfl, hD, (hsb.2 D hne.symm).trans l, ?_, Nat.le_trans (List.length_filterMap_le _ _) hlen⟩⟩
  exact RepAll.mono (fun b o hb _ p => ⟨⟨p.1, p.2.1⟩, (hsb.2 b p.2.2).trans hb⟩) _ _ r

theorem evalThenUse_comp {elt target iter : Expr} {ifs : List Expr} {scope : Scope} {pos : Pos} {env : Env} {use : Value → Sem Unit} :
    evalThenUse (.ListComp elt [⟨target, iter, ifs, 0⟩] scope pos) env use = (do
      let _ ← comprehension (.ListComp elt [⟨target, iter, ifs, 0⟩] scope pos) scope env (firstIterPos [⟨target, iter, ifs, 0⟩] pos) (newList []) false (eval iter env) (some use)) := rfl

variable {Q : PF → Env1 → Prop}
/-- behind a store, the comprehension's own names let go -/
theorem var_but {s' : Shared} {x : Str} {v : Value} {C : Addr} (hC1 : C ≠ c.L) (hC2 : ∀ y a, c.env.cells.lookup y = some a → (∃ w, s'.heap.IsCell a w) → a ≠ C) {h' : Heap} (hs : Heap.SameBut C s'.heap h') (h : VarAt c s' x v) : VarAt c { s' with heap := h' } x v := by
  rcases h with ⟨k, m, hm, hx⟩ | ⟨k, b, hb, hc⟩
  · exact .inl ⟨k, m, hm.sameBut hs hC1.symm, hx⟩
  · exact .inr ⟨k, b, hb, hc.sameBut hs (hC2 x b hb ⟨_, hc⟩)⟩

theorem Ex1_assignC (ok : c.Ok) {x : Str} {px : Pos} {elt target iter : Expr} {ifs : List Expr} {scope : Scope} {pos cpos : Pos} {d : PV} {ds : List PV}
    (hiter : Ev c ρ true iter d) (hds : ItOk d ds) (hlen : ds.length ≤ sizeLine) (hok : compOk c.env scope = true) {ρc : Env1} (hρ : CapEnv ρc ρ scope) (F : PV → Option PV)
    (turn : ∀ C d, d ∈ ds → (c.inner scope C).Ok → ∃ ρ', Asg (c.inner scope C) target d ρc ρ' ∧ SubEnv ρc ρ' ∧ CompRes (c.inner scope C) ρ' ifs elt (F d))
    (hs : ∀ x, foldedSetIterable iter c.env x = pure x)
    (hq : Q .next ((x, .list (ds.filterMap F)) :: ρ)) (hk : storable c x = true)
    (hsw : swapsWith (.ListComp elt [⟨target, iter, ifs, 0⟩] scope cpos) (some (.Name x px)) pos.line c.env = pure true) :
    Ex1 c ρ (.Assign [.Name x px] (.ListComp elt [⟨target, iter, ifs, 0⟩] scope cpos) pos) Q := .mk fun A T s ha st => by
  rw [exec_Assign_Name_used _ _ _ _ hsw, evalThenUse_comp]
  refine wpAny_bind (wpAny_standAt (wpAny_bind (wpAny_bind ?_)))
  refine wpAny_mono (comp_main (Qv := fun _ s' => ∃ ρ' T' pf, St c ρ' T' s' ∧ Evo c.G (c.X T) s s' ∧ TGrow s T T' ∧ FlOk s' c.P .next pf ∧ Q pf ρ') ok ha st hiter hds hlen hok hρ F turn hs fun s' C D vs n m e hC hD hne hn l r => ?_) (fun _ _ h => wpAny_pure (wpAny_pure h)) fun _ _ h => h
  show wpAny c.M A (assign (.Name x px) c.env (.ref D)) _ _ s'
  have st' := st.ext e
  have hlen' : (ds.filterMap F).length ≤ sizeLine := Nat.le_trans (List.length_filterMap_le _ _) hlen
  have hCne : ∀ a o, s.heap.get? a = some o → a ≠ C := fun a o h q => by rw [q, hC] at h; cases h
  refine PyProof.Rows.assign_Name (st'.storing ok (storable_spec hk) fun s'' ev hl hns hmc hx hy => ?_)
  have hCL : C ≠ c.L := fun q => by
    obtain ⟨m', o, _, _, hL, _⟩ := st.ns
    exact hCne _ _ hL q.symm
  have hCmc : C ∉ c.mc := fun q => by
    obtain ⟨v, o, hc, _⟩ := st.mcs C q
    exact hCne _ _ hc rfl
  have hn'' : s''.heap.Ns C m := st'.wd.ns_keep ev (fun q => q.elim hCL hCmc) hn
  refine ⟨m, hn'', fun h' hsb => ?_⟩
  have evC : Evo c.G (fun b => b = C) s'' { s'' with heap := h', toks := s''.toks } := Evo.but (fun b o hb e => (hsb.2 b hb).trans e) rfl (st.wd.dead₁ hC) fun o e => by
    obtain ⟨o', es, ep, hL, hd, _⟩ := hn''
    rw [hL] at e; cases e
    exact not_codeLike_dict hd
  have evT : Evo c.G c.Xs s { s'' with heap := h' } := by
    refine ⟨fun b o hb t n => ?_, fun w => evC.wd (ev.wd (e.wd w))⟩
    exact (hsb.2 b (hCne b o hb)).trans (ev.keep b o (e.keep b o hb t (fun h => h)) t n)
  have notC : ∀ a, a ≠ C → ∀ o, s''.heap.get? a = some o → h'.get? a = some o := fun a ha o h => (hsb.2 a ha).trans h
  have cellNe : ∀ a w, s''.heap.IsCell a w → a ≠ C := fun a w ⟨o, ho, hd⟩ q => by
    subst q
    obtain ⟨o', es, ep, hL, hd', _⟩ := hn''
    rw [hL] at ho; cases ho
    rw [hd] at hd'; cases hd'
  have varC : ∀ {y v}, VarAt c s'' y v → VarAt c { s'' with heap := h' } y v := fun {y v} h => var_but hCL (fun y a _ ⟨w, hc⟩ => cellNe a w hc) hsb h
  have lstC : ∀ a vs n, IsL s''.heap a vs n → IsL h' a vs n := fun a vs n l => notC a (fun q => by
    subst q
    obtain ⟨o', es, ep, hL, hd', _⟩ := hn''
    have := l.symm.trans hL; cases this; cases hd') _ l
  have hl' : ∀ a vs n, IsL s.heap a vs n → IsL h' a vs n := fun a vs n l => lstC _ _ _ (hl _ _ _ (st.wd.list_keep e (fun h => h) l))
  have hns' : ∃ m, ({ s'' with heap := h' } : Shared).heap.Ns c.L m := let ⟨m', hm⟩ := hns; ⟨m', hm.sameBut hsb hCL.symm⟩
  have hmc' : ∀ a ∈ c.mc, ∃ v, ({ s'' with heap := h' } : Shared).heap.IsCell a v := fun a ha => let ⟨v, hc⟩ := hmc a ha; ⟨v, hc.sameBut hsb (cellNe a v hc)⟩
  have hy' : ∀ y w, y ≠ x → VarAt c s y w → VarAt c { s'' with heap := h' } y w := fun y w q h => varC (hy y w q (VarAt.ext st e h))
  have rI : RepAll h' (fun a => c.Q T a ∧ a ≠ D) (ds.filterMap F) vs.toList := by
    have r1 : RepAll s''.heap (fun a => c.Q T a ∧ a ≠ D ∧ a ≠ C) (ds.filterMap F) vs.toList := r.evo st'.wd ev fun b h q => Cx.Q_notX h.1 (Cx.Xs_X q)
    exact RepAll.mono (fun b o hb _ p => ⟨⟨p.1, p.2.1⟩, notC b p.2.2 o hb⟩) _ _ r1
  have lD : IsL h' D vs n := lstC _ _ _ (hl _ _ _ l)
  by_cases ho : x ∈ c.own
  · refine ⟨_, (x, D) :: T, .next, st.finalOwn ok ho hD evT hl' hns' hmc' (varC hx) hy' lD rI hlen', evT.weak fun _ => Cx.Xs_X, ⟨fun p hp => List.mem_cons_of_mem _ hp, fun p hp => ?_⟩, trivial, hq⟩
    rcases List.mem_cons.mp hp with rfl | hp
    · exact .inr hD
    · exact .inl hp
  · refine ⟨_, T, .next, st.final ok ho evT hl' hns' hmc' (varC hx) hy' ?_, evT.weak fun _ => Cx.Xs_X, TGrow.refl, trivial, hq⟩
    simp only [Rep]
    exact ⟨D, vs, n, rfl, st.newP ok hD, lD, rI.weak fun _ h => h.1, hlen'⟩
end
end Mine
end

section
open PySem PyProof.Rows
open PySem.SeqAt
open MeetsSeq
namespace Mine

/-! ### a function of the text's own is entered -/
noncomputable def fnEnv (qual : Str) (scope : Scope) (L fa : Addr) (cd : Value) : Env :=
  { scope := scope, locals := L, globals := mainGlobals, cells := cellsFrom (L + 1) scope.names [], qual := qual ++ ".<locals>.", func := some fa, code := cd, frame := some L, builtins := builtinsNs }

structure FnDef (G : Wo) (fa : Addr) (qual : Str) (params : List Str) (body : List Stmt) (scope : Scope) (cd : Value) : Prop where
  obj : ∃ o fd, G.h₁.get? fa = some o ∧ o.data = .func fd ∧ fd.scope = scope ∧ fd.body = .stmts body ∧ fd.globals = mainGlobals ∧ fd.closure = [] ∧ fd.builtins = builtinsNs ∧ fd.code = cd ∧ fd.qualname = qual ∧
    ∀ vs : List Value, vs.length = params.length → bindArgs fd ⟨vs, []⟩ = pure (params.zip vs)
  code : G.h₁.CodeRec cd qual
  codeT : ∀ a, cd = .ref a → ¬ G.Tb a
  kind : scope.kind = .function
  co : scope.isCoroutine = false
  gen : scope.isGenerator = false
  locs : ∀ x ∈ params, scope.names.lookup x = some .local ∨ scope.names.lookup x = some .cell

noncomputable def fnCx (G : Wo) (P : Addr → Prop) (h₀ : Heap) (qual : Str) (scope : Scope) (fa : Addr) (cd : Value) (own : List Str) (rk : Nat) : Cx where
  G := G
  env := fnEnv qual scope h₀.objs.size fa cd
  h₀ := h₀
  P := P
  mc := (cellsFrom (h₀.objs.size + 1) scope.names []).map (·.2)
  own := own
  rk := rk
  comp := false
  av := []

section
variable {G : Wo} {mg mb : Str → Option Value}

theorem get_ge {h : Heap} {a : Addr} (ha : h.objs.size ≤ a) : h.get? a = none := by
  cases e : h.get? a with
  | none => rfl
  | some o => exact absurd (Heap.lt_size e) (Nat.not_lt.mpr ha)

theorem cells_mc {scope : Scope} {n : Nat} {x : Str} (h : scope.names.lookup x = some .cell) : ∃ a ∈ (cellsFrom n scope.names []).map (·.2), (cellsFrom n scope.names []).lookup x = some a := by
  obtain ⟨a, ha⟩ := Option.isSome_iff_exists.mp (PySem.W.cellsFrom_some scope.names n [] (.inl h))
  exact ⟨a, List.mem_map.mpr ⟨(x, a), mem_of_lookup ha, rfl⟩, ha⟩

theorem fnCx_ok {P : Addr → Prop} {s : Shared} (w : Wd G s) (hP : ∀ a, s.heap.get? a = none → P a) {qual : Str} {scope : Scope} {fa : Addr} {cd : Value} {own : List Str} {rk : Nat} (hk : scope.kind = .function) (ho : Str.empty ∉ own) :
    (fnCx G P s.heap qual scope fa cd own rk).Ok := by
  have CO := cellsFrom_ok scope.names (s.heap.push { cls := .type "frame", data := .dict #[] }) (s.heap.objs.size + 1) [] ⟨(fun _ _ h => nomatch h), .nil⟩ (by simp)
  rw [show (s.heap.push { cls := .type "frame", data := .dict #[] }).objs.size = s.heap.objs.size + 1 from Heap.size_push ..] at CO
  refine ⟨hk, rfl, rfl, get_new, fun a ha => ?_, hP, fun a t => ?_, fun a o h => ?_, fun x hx _ => cells_mc hx, ho, (fun a h => nomatch h), fun _ => CO.apart⟩
  · obtain ⟨⟨y, b⟩, hm, rfl⟩ := List.mem_map.mp ha
    exact get_ge (Nat.le_of_succ_le (CO.empty y b hm).2)
  · obtain ⟨o, e, _⟩ := w.tb a t
    exact ⟨o, e⟩
  · by_cases t : G.Tb a
    · obtain ⟨o, e, _⟩ := w.tb a t
      exact ⟨o, e⟩
    · exact ⟨o, w.old a o h t⟩

theorem binds_st {c : Cx} (ok : c.Ok) {A : Around} {E : Value → Shared → Prop} {R : PUnit → Shared → Prop} {T : Own1} (f : Str × Value → PUnit → Sem (ForInStep PUnit)) (hf : ∀ x v u, f (x, v) u = (do storeName c.env x v; pure (.yield ⟨⟩))) :
    ∀ (xs : List Str) (ds : List PV) (vs : List Value) (ρ : Env1) (s : Shared), St c ρ T s → RepAll s.heap (c.Q T) ds vs → xs.length = ds.length →
      (∀ x ∈ xs, (c.env.kindOf x = some .local ∨ (c.env.kindOf x = some .cell ∧ c.comp = false)) ∧ x ∉ c.own) →
      (∀ s', Evo c.G c.Xs s s' → St c ((xs.zip ds).reverse ++ ρ) T s' → R ⟨⟩ s') → wpAny c.M A (forIn (xs.zip vs) ⟨⟩ f) R E s
  | [], ds, vs, ρ, s, st, r, hl, hx, k => by
    rw [List.zip_nil_left, List.forIn_nil]
    exact wpAny_pure (k s Evo.refl (by simpa using st))
  | x :: xs, d :: ds, vs, ρ, s, st, r, hl, hx, k => by
    simp only [RepAll] at r
    obtain ⟨v, r', rfl, r1, r2⟩ := r
    rw [List.zip_cons_cons, List.forIn_cons, hf]
    refine wpAny_bind (wpAny_bind (st.store ok (hx x List.mem_cons_self).1 (hx x List.mem_cons_self).2 r1 fun s' e st' => wpAny_pure ?_))
    refine binds_st ok f hf xs ds r' _ s' st' (r2.evo st.wd e fun b h q => Cx.Q_notX h (Cx.Xs_X q)) (by simpa using hl) (fun y hy => hx y (List.mem_cons_of_mem _ hy)) fun s'' e' st'' => k s'' (e.trans e') ?_
    simpa using st''
  | x :: xs, [], vs, ρ, s, st, r, hl, hx, k => by simp at hl

/-- the contract of a function, from its body -/
theorem Fn_of (g : Gl G mg mb) {fa : Addr} {qual : Str} {params : List Str} {body : List Stmt} {scope : Scope} {cd : Value} (D : FnDef G fa qual params body scope cd) (own : List Str) (k : Nat) {f : List PV → PV → Prop}
    (hown : (own.contains Str.empty = false ∧ ∀ x ∈ params, own.contains x = false)) (hfl : ∀ ds d, f ds d → ds.length = params.length)
    (h : ∀ (P : Addr → Prop) (h₀ : Heap) (ds : List PV) (d : PV), (fnCx G P h₀ qual scope fa cd own k).Ok → f ds d →
      Ex (fnCx G P h₀ qual scope fa cd own k) (params.zip ds).reverse body (fun pf _ => match pf with | .ret d' => d' = d | _ => d = .none)) : Fn G (k + 1) fa f := by
  refine .mk fun A s P vs ds d ha w hP r hfd => ?_
  obtain ⟨o, fd, ho, hod, hsc, hbody, hglob, hclos, hblt, hcode, hqual, hbind⟩ := D.obj
  have hnotT : ¬ G.Tb fa := g.tb _ _ ho (not_codeLike_func hod)
  have hcd : s.heap.CodeRec fd.code fd.qualname := by
    rw [hcode, hqual]
    obtain ⟨c, o', vs', t, e1, e2, e3, e4⟩ := D.code
    exact ⟨c, o', vs', t, e1, w.old _ _ e2 (D.codeT c e1), e3, e4⟩
  have hlen := hfl ds d hfd
  have okm : ∀ b ∈ (fnCx G P s.heap qual scope fa cd own k).mc, s.heap.get? b = none := (fnCx_ok (qual := qual) (fa := fa) (cd := cd) (own := []) (rk := k) w hP D.kind (fun q => nomatch q)).mcnew
  have ok : (fnCx G P s.heap qual scope fa cd own k).Ok := fnCx_ok w hP D.kind (fun q => by rw [List.contains_iff_mem.mpr q] at hown; exact absurd hown.1 (by simp))
  refine codeAny_call_function (by have := ha.depth; show A.depth < 1000; omega) (w.old _ _ ho hnotT) hod (by rw [hsc]; exact D.co) (by rw [hsc]; exact D.gen) hbody hcd ?_
  rw [hbind vs (by rw [r.length, hlen])]
  refine wpAny_pure ?_
  rw [hsc, hglob, hclos, hblt, hcode, hqual]
  unfold newFunctionEnv
  simp only [Option.isSome_none, Bool.false_eq_true, if_false]
  refine wpAny_bind (wpAny_alloc ?_)
  refine wpAny_bind (wpAny_layCells _ (fun name kind cells => rfl) scope.names [] _ _ ?_)
  -- the state with the cells laid
  have CO := cellsFrom_ok scope.names (s.heap.push { cls := .type "frame", data := .dict #[] }) (s.heap.objs.size + 1) [] ⟨(fun _ _ h => nomatch h), .nil⟩ (by simp)
  have hsz : (s.heap.push { cls := .type "frame", data := .dict #[] }).objs.size = s.heap.objs.size + 1 := Heap.size_push ..
  rw [hsz] at CO
  have kk : ∀ b o, s.heap.get? b = some o → (pushCells (s.heap.push { cls := .type "frame", data := .dict #[] }) scope.names).get? b = some o := fun b o e => pushCells_keeps _ _ _ _ (Heap.get?_push_of_some _ e)
  have e1 : Ext G s { s with heap := pushCells (s.heap.push { cls := .type "frame", data := .dict #[] }) scope.names, toks := s.toks } := Ext.of kk
  have st₁ : St (fnCx G P s.heap qual scope fa cd own k) [] [] { s with heap := pushCells (s.heap.push { cls := .type "frame", data := .dict #[] }) scope.names, toks := s.toks } := by
    refine ⟨e1.wd w, fun b o e _ => kk b o e, ⟨fun _ => none, ?_⟩, fun a ha => ?_, (fun x d hd => nomatch hd), (fun p hp => nomatch hp), .nil, (fun a ha => nomatch ha)⟩
    · exact (Heap.Ns.new s.heap _).keeps fun b o e => pushCells_keeps _ _ _ _ e
    · obtain ⟨⟨y, b⟩, hm, rfl⟩ := List.mem_map.mp ha
      exact ⟨none, (CO.empty y b hm).1⟩
  show wpAny _ _ ((forIn (params.zip vs) PUnit.unit _) >>= _) _ _ _
  rw [show ({ s with heap := s.heap.push { cls := .type "frame", data := .dict #[] } } : Shared).heap.objs.size = s.heap.objs.size + 1 from hsz]
  have r₁ : RepAll (pushCells (s.heap.push { cls := .type "frame", data := .dict #[] }) scope.names) ((fnCx G P s.heap qual scope fa cd own k).Q []) ds vs := by
    refine RepAll.mono (fun b o e _ p => ⟨⟨⟨p, fun q => ?_, fun q => ?_, (fun q => nomatch q)⟩, (fun _ hp => nomatch hp)⟩, kk b o e⟩) _ _ r
    · have q' : b = s.heap.objs.size := q
      rw [q', get_new] at e; cases e
    · rw [okm b q] at e; cases e
  refine wpAny_bind (binds_st (c := fnCx G P s.heap qual scope fa cd own k) (T := []) (R := fun _ s' => wpAny _ _ (pure (fnEnv qual scope s.heap.objs.size fa cd)) _ _ s') ok _ (fun x v u => rfl) params ds vs [] _ st₁ r₁ hlen.symm (fun x hx => ⟨?_, fun q => ?_⟩) fun s₂ e₂ st₂ => wpAny_pure ?_)
  · rcases D.locs x hx with q | q
    · exact .inl q
    · exact .inr ⟨q, rfl⟩
  · have q' : x ∈ own := q
    have := hown.2 x hx
    rw [List.contains_iff_mem.mpr q'] at this; cases this
  refine ⟨g.noLimit st₂.wd, codeAny_func ?_⟩
  have ha' : AOk k (A.deeper (fnEnv qual scope s.heap.objs.size fa cd)) := ⟨ha.handled, by have := ha.depth; show A.depth + 1 + k ≤ 690; omega, by have := ha.units; show A.units + 3 + 20 * k ≤ 9000; omega⟩
  rw [List.append_nil] at st₂
  refine wpAny_mono ((h P s.heap ds d ok hfd).run _ [] s₂ ha' st₂) (fun fl s₃ ⟨ρ', T', pf, st₃, e₃, g₃, f₃, q₃⟩ => ?_) fun _ _ x => x.elim
  have ext : Ext G s s₃ := by
    refine ⟨fun b o e t _ => e₃.keep b o (e₂.keep b o (kk b o e) t fun q => ?_) t fun q => ?_, fun w => st₃.wd⟩
    · rcases q with q | q
      · have q' : b = s.heap.objs.size := q
        rw [q', get_new] at e; cases e
      · rw [okm b q] at e; cases e
    · rcases q with q | q | ⟨p, hp, _⟩
      · have q' : b = s.heap.objs.size := q
        rw [q', get_new] at e; cases e
      · rw [okm b q] at e; cases e
      · cases hp
  cases fl with
  | ret v => cases pf <;> simp [FlOk] at f₃; subst q₃; exact ⟨v, rfl, ext, f₃⟩
  | next => cases pf <;> simp [FlOk] at f₃; subst q₃; exact ⟨.none, rfl, ext, by simp only [Rep]⟩
  | brk => cases pf <;> simp [FlOk] at f₃; subst q₃; exact ⟨.none, rfl, ext, by simp only [Rep]⟩
  | cont => cases pf <;> simp [FlOk] at f₃; subst q₃; exact ⟨.none, rfl, ext, by simp only [Rep]⟩
end
end Mine
end

section
open PySem PyProof.Rows
open PySem.SeqAt
namespace Mine

/-! ### the built-ins -/
theorem RepAll.inv1 {h : Heap} {P : Addr → Prop} {d : PV} {vs : List Value} (r : RepAll h P [d] vs) : ∃ v, vs = [v] ∧ Rep h P d v := by
  simp only [RepAll] at r; obtain ⟨v, r, rfl, a, rfl⟩ := r; exact ⟨v, rfl, a⟩
theorem RepAll.inv2 {h : Heap} {P : Addr → Prop} {d e : PV} {vs : List Value} (r : RepAll h P [d, e] vs) : ∃ v u, vs = [v, u] ∧ Rep h P d v ∧ Rep h P e u := by
  simp only [RepAll] at r; obtain ⟨v, r, rfl, a, u, r', rfl, b, rfl⟩ := r; exact ⟨v, u, rfl, a, b⟩
theorem RepAll.inv3 {h : Heap} {P : Addr → Prop} {d e f : PV} {vs : List Value} (r : RepAll h P [d, e, f] vs) : ∃ v u w, vs = [v, u, w] ∧ Rep h P d v ∧ Rep h P e u ∧ Rep h P f w := by
  simp only [RepAll] at r; obtain ⟨v, r, rfl, a, u, r', rfl, b, w, r'', rfl, c, rfl⟩ := r; exact ⟨v, u, w, rfl, a, b, c⟩

section
variable {G : Wo}

theorem BiOk_len_str {x : Str} : BiOk G (.builtin "len") [.str x] (.int x.length) := .mk fun A s P vs _ _ _ wd r₀ => by
  obtain ⟨v, rfl, r⟩ := r₀.inv1
  simp only [Rep] at r; obtain ⟨⟨t, rfl⟩, hz⟩ := r
  rw [sizeLine_is] at hz
  exact PySem.P.len_str (by omega) ⟨Ext.tok, by simp only [Rep]; exact ⟨_, rfl⟩⟩
theorem BiOk_len_list {ds : List PV} : BiOk G (.builtin "len") [.list ds] (.int ds.length) := .mk fun A s P vs _ _ _ wd r₀ => by
  obtain ⟨v, rfl, r⟩ := r₀.inv1
  simp only [Rep] at r; obtain ⟨a, vs, n, rfl, _, l, ra, z⟩ := r
  rw [sizeLine_is] at z
  have hl : vs.size = ds.length := by simpa using ra.length
  exact Calls.call_len_list l.isList (by omega) ⟨Ext.tok, by simp only [Rep]; exact ⟨_, by rw [hl]⟩⟩
theorem BiOk_range1 {n : Int} : BiOk G (.type "range") [.int n] (.range 0 n 1) := .mk fun A s P vs _ _ _ wd r₀ => by
  obtain ⟨v, rfl, r⟩ := r₀.inv1
  simp only [Rep] at r; obtain ⟨t, rfl⟩ := r
  exact call_range_1 ⟨Ext.push, by simp only [Rep]; exact ⟨_, _, _, _, rfl, .inr get_new, IsRange.new _ _ _ _ _ _ _⟩⟩
theorem BiOk_range2 {a b : Int} : BiOk G (.type "range") [.int a, .int b] (.range a b 1) := .mk fun A s P vs _ _ _ wd r₀ => by
  obtain ⟨v, u, rfl, r, r2⟩ := r₀.inv2
  simp only [Rep] at r r2; obtain ⟨t, rfl⟩ := r; obtain ⟨t', rfl⟩ := r2
  exact call_range_2 ⟨Ext.push, by simp only [Rep]; exact ⟨_, _, _, _, rfl, .inr get_new, IsRange.new _ _ _ _ _ _ _⟩⟩
theorem BiOk_range3 {a b c : Int} (hc : c ≠ 0) (hp : Builtin.divisionGoesByPylong (b - a) c = false) : BiOk G (.type "range") [.int a, .int b, .int c] (.range a b c) := .mk fun A s P vs _ _ _ wd r₀ => by
  obtain ⟨v, u, w, rfl, r, r2, r3⟩ := r₀.inv3
  simp only [Rep] at r r2 r3; obtain ⟨t, rfl⟩ := r; obtain ⟨t', rfl⟩ := r2; obtain ⟨t'', rfl⟩ := r3
  exact call_range_3 hc ⟨Ext.push, by simp only [Rep]; exact ⟨_, _, _, _, rfl, .inr get_new, IsRange.new _ _ _ _ _ _ _⟩⟩ (.inl hp)

/-! #### texts -/
theorem RepAll.strs {h : Heap} {P : Addr → Prop} : ∀ {xs : List Str} {vs : List Value}, RepAll h P (xs.map .str) vs → ∃ l : List (Str × Tok), vs = strValues l ∧ l.map (·.1) = xs
  | [], vs, r => by simp only [List.map_nil, RepAll] at r; exact ⟨[], r, rfl⟩
  | x :: xs, vs, r => by
    simp only [List.map_cons, RepAll] at r
    obtain ⟨v, r, rfl, a, b⟩ := r
    simp only [Rep] at a
    obtain ⟨⟨t, rfl⟩, _⟩ := a
    obtain ⟨l, rfl, rfl⟩ := RepAll.strs b
    exact ⟨(x, t) :: l, rfl, rfl⟩

/-- what join gives -/
noncomputable def jn (sep : Str) : List Str → Str
  | [] => mkS []
  | [x] => x
  | x :: y :: r => x ++ sep ++ jn sep (y :: r)
theorem jn_eq (sep : Str) : ∀ xs, Txt.join sep xs = jn sep xs := by
  intro xs
  show Builtin.Str.glued sep xs = _
  rw [StrLaws.glued_eq_join]
  induction xs with
  | nil => rfl
  | cons x r ih =>
    cases r with
    | nil => rfl
    | cons y r => show x ++ sep ++ Str.join sep (y :: r) = x ++ sep ++ jn sep (y :: r); rw [ih]

theorem joinOk_of {sep : Str} {xs : List Str} (h : (xs.map (·.length)).sum + xs.length * sep.length ≤ sizeLine) : JoinOk sep xs = true := by
  unfold JoinOk
  rw [StrLaws.joinTotal]
  have : PySem.Builtin.Str.tooLong ((xs.map (·.length)).sum + xs.length * sep.length) = false := by
    unfold PySem.Builtin.Str.tooLong; simpa using h
  rw [this]; rfl

theorem BiOk_join {sep : Str} {xs : List Str} (h : (xs.map (·.length)).sum + xs.length * sep.length ≤ sizeLine) : BiOk G (.builtin "str.join") [.str sep, .list (xs.map .str)] (.str (jn sep xs)) := .mk fun A s P vs _ _ _ wd r₀ => by
  obtain ⟨v, u, rfl, r, r2⟩ := r₀.inv2
  simp only [Rep] at r r2; obtain ⟨⟨t, rfl⟩, _⟩ := r; obtain ⟨a, vs, n, rfl, _, l, ra, z⟩ := r2
  obtain ⟨ll, e, ht⟩ := ra.strs
  have hok := joinOk_of h
  refine SC.join (l := ll) (texts := xs) (by rw [← e]; exact l.isList) ht hok fun t' k => ⟨Ext.tok, ?_⟩
  simp only [Rep]; rw [jn_eq]; exact ⟨⟨_, rfl⟩, by rw [← jn_eq]; exact joinOk_length hok⟩
end

section
variable {c : Cx} {ρ : Env1} {b : Bool} {mg mb : Str → Option Value}
end
end Mine
end

section
open PySem PyProof.Rows
open PySem.Sre
namespace Mine

/-! ### the machine, step by step -/
noncomputable def itm : Nat → M → M
  | 0, m => m
  | n + 1, m => itm n m.step
theorem itm_add : ∀ (a b : Nat) (m : M), itm (a + b) m = itm b (itm a m)
  | 0, b, m => by simp [itm]
  | a + 1, b, m => by rw [Nat.succ_add]; exact itm_add a b m.step
theorem step_done {m : M} (h : m.outcome.isSome = true) : m.step = m := by unfold M.step; simp [h]
theorem itm_done {m : M} (h : m.outcome.isSome = true) : ∀ n, itm n m = m
  | 0 => rfl
  | n + 1 => by rw [itm, step_done h]; exact itm_done h n
theorem runFor_eq : ∀ (n : Nat) (m : M), m.runFor n = itm n m
  | 0, m => rfl
  | n + 1, m => by
    unfold M.runFor
    by_cases h : m.outcome.isSome = true
    · simp only [h, if_true]; exact (itm_done h (n + 1)).symm
    · simp only [h]; exact runFor_eq n m.step

/-- within k steps from m to m' -/
noncomputable def Go (k : Nat) (m m' : M) : Prop := ∃ n, n ≤ k ∧ itm n m = m'
theorem Go.trans {j k : Nat} {m m' m'' : M} : Go j m m' → Go k m' m'' → Go (j + k) m m''
  | ⟨a, ha, ea⟩, ⟨b, hb, eb⟩ => ⟨a + b, by omega, by rw [itm_add, ea, eb]⟩
theorem Go.one {m m' : M} (h : m.step = m') : Go 1 m m' := ⟨1, Nat.le_refl _, h⟩
theorem Go.mono {j k : Nat} {m m' : M} (h : j ≤ k) : Go j m m' → Go k m m'
  | ⟨a, ha, ea⟩ => ⟨a, by omega, ea⟩

/-- the leading signs that χ accepts -/
noncomputable def lead (χ : Nat → Bool) (l : List Nat) : Nat := (l.takeWhile χ).length

theorem run_eq {code text : Array Nat} {i : Nat} {χ : Nat → Bool} (hacc : ∀ c σ, ∃ σ', accepts code i c σ = .ok (χ c, σ')) :
    ∀ (n p found : Nat) (σ : Sre.Seen), p + n = text.size → ∃ σ', Sre.run code text i n p found σ = .ok (found + lead χ (text.toList.drop p), σ')
  | 0, p, found, σ, h => by
    refine ⟨σ, ?_⟩
    have : text.toList.drop p = [] := by simp; omega
    simp [Sre.run, this, lead]
  | n + 1, p, found, σ, h => by
    have hp : p < text.toList.length := by simp; omega
    have hd : text.toList.drop p = text.toList[p] :: text.toList.drop (p + 1) := List.drop_eq_getElem_cons hp
    have hg : text.getD p 0 = text.toList[p] := by simp [Array.getD, show p < text.size by omega]
    obtain ⟨σ₁, e₁⟩ := hacc (text.getD p 0) σ
    unfold Sre.run
    rw [e₁]
    simp only [bind, Except.bind]
    rw [hg]
    by_cases hc : χ text.toList[p] = true
    · obtain ⟨σ₂, e₂⟩ := run_eq (text := text) hacc n (p + 1) (found + 1) σ₁ (by omega)
      refine ⟨σ₂, ?_⟩
      simp only [hc, if_true]
      rw [e₂, hd, lead, lead, List.takeWhile_cons_of_pos hc, List.length_cons]
      congr 2; omega
    · refine ⟨σ₁, ?_⟩
      simp only [hc]
      rw [hd, lead, List.takeWhile_cons_of_neg hc]
      rfl

structure Live (m : M) : Prop where
  out : m.outcome = none
  ans : m.answer = none
  pc : m.pc < m.code.size

theorem step_live {m : M} (h : Live m) : m.step = m.exec := by
  unfold M.step
  simp [h.out, h.ans, h.pc]

theorem step_at {m : M} {k : Nat} {yes : Bool} (h : Live m) (h0 : m.code.getD m.pc 0 = 6) (h1 : m.code.getD (m.pc + 1) 0 = k) (hk : m.isAt k = .ok yes) :
    ∃ σ, m.step = if yes then { m with seen := σ, pc := m.pc + 2 } else ({ m with seen := σ } : M).say false := by
  rw [step_live h]
  unfold M.exec M.word
  rw [Nat.add_zero, h0]
  refine ⟨(m.seen.add 6).add (43 + k), ?_⟩
  show (match ({ m with seen := m.seen.add 6 } : M).isAt (m.code.getD (m.pc + 1) 0) with | .error why => _ | .ok yes => _) = _
  rw [h1, show ({ m with seen := m.seen.add 6 } : M).isAt k = m.isAt k from rfl, hk]

theorem step_succ {m : M} (h : Live m) (h0 : m.code.getD m.pc 0 = 1) (hw : m.wholeText = false) (ha : m.mustAdvance = false) :
    ∃ σ, m.step = ({ m with seen := σ, handed := m.pos } : M).say true := by
  rw [step_live h]
  unfold M.exec M.word
  rw [Nat.add_zero, h0]
  refine ⟨m.seen.add 1, ?_⟩
  show (if (m.outermost && ((m.wholeText && _) || (m.mustAdvance && _))) = true then _ else _) = _
  rw [hw, ha]
  simp only [Bool.false_and, Bool.or_false, Bool.and_false, Bool.false_eq_true, if_false]

theorem step_mark {m : M} {i : Nat} (h : Live m) (h0 : m.code.getD m.pc 0 = 17) (h1 : m.code.getD (m.pc + 1) 0 = i) :
    ∃ σ, m.step = ({ m with seen := σ } : M).mark i := by
  rw [step_live h]
  unfold M.exec M.word
  rw [Nat.add_zero, h0]
  refine ⟨m.seen.add 17, ?_⟩
  show M.mark _ (m.code.getD (m.pc + 1) 0) = _
  rw [h1]

theorem step_rep {m : M} {χ : Nat → Bool} {sk : Nat} (h : Live m) (h0 : m.code.getD m.pc 0 = 24) (h1 : m.code.getD (m.pc + 1) 0 = sk) {least : Nat} (h2 : m.code.getD (m.pc + 2) 0 = least) (h3 : m.code.getD (m.pc + 3) 0 = 4294967295)
    (hacc : ∀ c σ, ∃ σ', accepts m.code (m.pc + 4) c σ = .ok (χ c, σ')) (hlim : m.lim = m.text.size) (hpos : m.pos ≤ m.lim) (hsz : m.lim ≤ 4294967295) (hw : m.weight + 1 ≤ 16777216) (hin : m.inner = none)
    {n : Nat} (hn : lead χ (m.text.toList.drop m.pos) = n) (hle : least ≤ n) (hroom : least ≤ m.lim - m.pos) :
    ∃ σ, m.step = { m with seen := σ, frames := List.cons (Sre.Frame.mk .giveBack m.pc (m.pos + n) m.outermost n (Kept.mk m.lastmark m.lastindex false #[]) 0 none) m.frames, weight := m.weight + 1, pc := m.pc + 1 + sk, pos := m.pos + n, handed := m.pos + n } := by
  rw [step_live h]
  obtain ⟨σ, e⟩ := run_eq (text := m.text) hacc (m.lim - m.pos) m.pos 0 ((m.seen.add 24).add (m.code.getD (m.pc + 4) 0)) (by omega)
  refine ⟨σ, ?_⟩
  have e' : Sre.run m.code m.text (m.pc + 4) (min 4294967295 ((m.lim : Int) - m.pos).toNat) m.pos 0 ((m.seen.add 24).add (m.code.getD (m.pc + 4) 0)) = .ok (n, σ) := by
    rw [show min 4294967295 ((m.lim : Int) - m.pos).toNat = m.lim - m.pos by omega, e, Nat.zero_add, hn]
  have q : ¬ ((least : Int) > (m.lim : Int) - m.pos) := by omega
  unfold M.exec M.word
  rw [Nat.add_zero, h0]
  show (if (m.code.getD (m.pc + 2) 0 : Int) > (m.lim : Int) - m.pos then _ else match Sre.run m.code m.text (m.pc + 4) (min (m.code.getD (m.pc + 3) 0) ((m.lim : Int) - m.pos).toNat) m.pos 0 ((m.seen.add 24).add (m.code.getD (m.pc + 4) 0)) with | .error why => _ | .ok (n, seen) => _) = _
  rw [h2, h3, if_neg q, e']
  show (if n < least then _ else M.afterRun _ _ _ _) = _
  rw [if_neg (by omega)]
  unfold M.afterRun M.attempt M.keep M.frame M.word
  simp only [hin, h1]
  show (if m.weight + 1 + 0 > 16777216 then _ else _) = _
  rw [if_neg (by omega)]
  rfl

/-- all is said: the frames of runs and starts are left with yes -/
theorem leave_yes : ∀ (fs : List Sre.Frame) (m : M), m.frames = fs → (∀ f ∈ fs, f.wait = .giveBack ∨ f.wait = .nextStart) → m.outcome = none → m.answer = some true →
    ∃ m', Go (fs.length + 1) m m' ∧ m'.outcome = some .matched ∧ m'.start = m.start ∧ m'.handed = m.handed ∧ m'.marks = m.marks ∧ m'.lastmark = m.lastmark ∧ m'.lastindex = m.lastindex
  | [], m, hf, hw, ho, ha => by
    refine ⟨{ m with outcome := some .matched }, Go.one ?_, rfl, rfl, rfl, rfl, rfl, rfl⟩
    unfold M.step
    simp [ho, ha, hf]
  | f :: fs, m, hf, hw, ho, ha => by
    have hs : m.step = ({ m with answer := none, frames := fs, weight := m.weight - (1 + f.kept.marks.size), pc := f.pc, pos := f.pos, outermost := f.outermost } : M).say true := by
      unfold M.step
      simp only [ho, ha, hf, Option.isSome_none, Bool.false_eq_true, if_false]
      unfold M.resume
      rcases hw f (List.mem_cons_self ..) with e | e <;> rw [e] <;> rfl
    obtain ⟨m', g, r⟩ := leave_yes fs (({ m with answer := none, frames := fs, weight := m.weight - (1 + f.kept.marks.size), pc := f.pc, pos := f.pos, outermost := f.outermost } : M).say true) rfl (fun x hx => hw x (List.mem_cons_of_mem _ hx)) ho rfl
    exact ⟨m', by have := (Go.one hs).trans g; rw [List.length_cons]; exact this.mono (by omega), r⟩

end Mine
end

section
open PySem PyProof.Rows
open PySem.Sre
namespace Mine

noncomputable def C4 : Array Nat := #[14, 4, 0, 0, 4294967295, 6, 0, 24, 9, 0, 4294967295, 13, 4, 8, 12, 0, 1, 6, 5, 1]
noncomputable def C5 : Array Nat := #[14, 4, 0, 0, 4294967295, 6, 0, 17, 0, 24, 11, 0, 4294967295, 13, 6, 16, 32, 16, 9, 0, 1, 17, 1, 1]
noncomputable def C3 : Array Nat := #[14, 4, 0, 1, 4294967295, 17, 0, 24, 9, 1, 4294967295, 13, 4, 8, 12, 0, 1, 17, 1, 1]

noncomputable def white (c : Nat) : Bool := Unicode.isSpace c
noncomputable def blank (c : Nat) : Bool := c == 32 || c == 9
noncomputable def hash (c : Nat) : Bool := c == 35

theorem acc4 (c : Nat) (σ : Sre.Seen) : ∃ σ', accepts C4 11 c σ = .ok (white c, σ') := by
  unfold white
  have : accepts C4 11 c σ = (do if ← (Except.ok (Unicode.isSpace c) : Except String Bool).map (· != (12 % 2 == 1)) then pure (true, (σ.add 8).add (55 + 12)) else inSet C4 c 19 15 true ((σ.add 8).add (55 + 12))) := rfl
  rw [this]
  cases Unicode.isSpace c <;> exact ⟨_, rfl⟩
theorem acc3 (c : Nat) (σ : Sre.Seen) : ∃ σ', accepts C3 11 c σ = .ok (white c, σ') := by
  unfold white
  have : accepts C3 11 c σ = (do if ← (Except.ok (Unicode.isSpace c) : Except String Bool).map (· != (12 % 2 == 1)) then pure (true, (σ.add 8).add (55 + 12)) else inSet C3 c 19 15 true ((σ.add 8).add (55 + 12))) := rfl
  rw [this]
  cases Unicode.isSpace c <;> exact ⟨_, rfl⟩
theorem acc5 (c : Nat) (σ : Sre.Seen) : ∃ σ', accepts C5 13 c σ = .ok (blank c, σ') := by
  unfold blank
  have : accepts C5 13 c σ = (if c == 32 then .ok (true, σ.add 16) else if c == 9 then .ok (true, (σ.add 16).add 16) else .ok (false, ((σ.add 16).add 16).add 0)) := rfl
  rw [this]
  cases c == 32 <;> cases c == 9 <;> exact ⟨_, rfl⟩
theorem lead_le (χ : Nat → Bool) (l : List Nat) : lead χ l ≤ l.length := by
  unfold lead; exact (List.takeWhile_sublist χ).length_le
theorem lead_all {χ : Nat → Bool} : ∀ {l : List Nat}, lead χ l = l.length ↔ l.all χ = true
  | [] => by simp [lead]
  | c :: l => by
    have ih := lead_all (χ := χ) (l := l)
    have := lead_le χ l
    unfold lead at *
    by_cases h : χ c = true
    · simp [List.takeWhile_cons_of_pos h, h]; simpa using ih
    · simp [List.takeWhile_cons_of_neg h, h]
theorem lead_next {χ : Nat → Bool} : ∀ {l : List Nat} {c : Nat}, l[lead χ l]? = some c → χ c = false
  | [], c, h => by simp at h
  | d :: l, c, h => by
    have ih := lead_next (χ := χ) (l := l) (c := c)
    unfold lead at *
    by_cases hd : χ d = true
    · rw [List.takeWhile_cons_of_pos hd, List.length_cons, List.getElem?_cons_succ] at h; exact ih h
    · rw [List.takeWhile_cons_of_neg hd] at h; simp at h; subst h; simpa using hd

/-! #### is it white: '^\s*$' -/
structure Back4 (text : Array Nat) (n : Nat) (m : M) : Prop where
  code : m.code = C4
  txt : m.text = text
  lim : m.lim = text.size
  out : m.outcome = none
  ans : m.answer = none
  pc : m.pc = 17
  pos : m.pos = n
  frames : m.frames = [Sre.Frame.mk .giveBack 7 n true n (Kept.mk (-1) (-1) false #[]) 0 none]
  weight : m.weight = 1

theorem back4 {text : Array Nat} : ∀ (n : Nat) (m : M), Back4 text n m → (∀ p, p ≤ n → p ≠ text.size ∧ (p + 1 = text.size → text.getD p 0 ≠ 10)) → ∃ m', Go (2 * n + 3) m m' ∧ m'.outcome = some .failed := by
  intro n
  induction n with
  | zero =>
    intro m b hp
    have hat : m.isAt 5 = .ok false := by
      have := hp 0 (Nat.le_refl _)
      show Except.ok _ = Except.ok _
      rw [b.pos, b.lim, b.txt]
      congr 1
      simp only [Bool.or_eq_false_iff, Bool.and_eq_false_iff, beq_eq_false_iff_ne]
      refine ⟨this.1, ?_⟩
      by_cases h : 0 + 1 = text.size
      · exact .inr (this.2 h)
      · exact .inl h
    obtain ⟨σ, e⟩ := step_at (m := m) (k := 5) ⟨b.out, b.ans, by rw [b.pc, b.code]; decide⟩ (by rw [b.pc, b.code]; rfl) (by rw [b.pc, b.code]; rfl) hat
    rw [if_neg (by simp)] at e
    have e2 : (({ m with seen := σ } : M).say false).step = ({ ({ m with seen := σ } : M).say false with answer := some false, frames := [], weight := 0, pc := 7, pos := 0, outermost := true, lastmark := -1, lastindex := -1 } : M) := by
      unfold M.step M.say
      simp only [b.out, b.frames, Option.isSome_none, Bool.false_eq_true, if_false]
      unfold M.resume M.word M.putBack M.say
      simp only [b.code, b.weight]
      rfl
    refine ⟨{ ({ ({ m with seen := σ } : M).say false with answer := some false, frames := [], weight := 0, pc := 7, pos := 0, outermost := true, lastmark := -1, lastindex := -1 } : M) with outcome := some .failed }, ((Go.one e).trans ((Go.one e2).trans (Go.one ?_))).mono (by omega), rfl⟩
    unfold M.step M.say
    simp only [b.out]
    rfl
  | succ n ih =>
    intro m b hp
    have hat : m.isAt 5 = .ok false := by
      have := hp (n + 1) (Nat.le_refl _)
      show Except.ok _ = Except.ok _
      rw [b.pos, b.lim, b.txt]
      congr 1
      simp only [Bool.or_eq_false_iff, Bool.and_eq_false_iff, beq_eq_false_iff_ne]
      refine ⟨this.1, ?_⟩
      by_cases h : n + 1 + 1 = text.size
      · exact .inr (this.2 h)
      · exact .inl h
    obtain ⟨σ, e⟩ := step_at (m := m) (k := 5) ⟨b.out, b.ans, by rw [b.pc, b.code]; decide⟩ (by rw [b.pc, b.code]; rfl) (by rw [b.pc, b.code]; rfl) hat
    rw [if_neg (by simp)] at e
    have e2 : (({ m with seen := σ } : M).say false).step = ({ ({ m with seen := σ } : M).say false with answer := none, frames := [Sre.Frame.mk .giveBack 7 n true n (Kept.mk (-1) (-1) false #[]) 0 none], weight := 1, pc := 17, pos := n, handed := n, outermost := true, lastmark := -1, lastindex := -1 } : M) := by
      unfold M.step M.say
      simp only [b.out, b.frames, Option.isSome_none, Bool.false_eq_true, if_false]
      unfold M.resume M.word M.putBack M.say
      have q : ¬ (((n + 1 : Nat) : Int) - 1 < ((0 : Nat) : Int)) := by omega
      show (if (((n + 1 : Nat) : Int) - 1 < ((m.code.getD 9 0 : Nat) : Int)) then _ else _) = _
      rw [b.code, show C4.getD 9 0 = 0 from rfl, if_neg q]
      unfold M.afterRun M.attempt M.frame M.word
      show (if m.weight - 1 + 1 + 0 > 16777216 then _ else _) = _
      rw [b.weight, if_neg (by omega)]
      simp only [show ((n + 1 : Nat) : Int) - 1 = (n : Int) by omega]
      rfl
    obtain ⟨m', g, r⟩ := ih _ (show Back4 text n ({ ({ m with seen := σ } : M).say false with answer := none, frames := [Sre.Frame.mk .giveBack 7 n true n (Kept.mk (-1) (-1) false #[]) 0 none], weight := 1, pc := 17, pos := n, handed := n, outermost := true, lastmark := -1, lastindex := -1 } : M) from
      ⟨b.code, b.txt, b.lim, b.out, rfl, rfl, rfl, rfl, rfl⟩) fun p h => hp p (by omega)
    exact ⟨m', ((Go.one e).trans ((Go.one e2).trans g)).mono (by omega), r⟩

theorem run4 {text : Array Nat} (hz : text.size ≤ 16777216) : ∃ m', Go (2 * text.size + 20) (forMatch C4 text 0 0 text.size false false) m' ∧
    (if text.toList.all white then m'.outcome = some .matched ∧ m'.start = 0 ∧ m'.handed = text.size ∧ m'.lastmark = -1 ∧ m'.lastindex = -1 ∧ m'.marks = #[] else m'.outcome = some .failed) := by
  let m : M := forMatch C4 text 0 0 text.size false false
  obtain ⟨σ₁, e₁⟩ := step_at (m := m) (k := 0) (yes := true) ⟨rfl, rfl, (show (5:Nat) < 20 by decide)⟩ rfl rfl rfl
  rw [if_pos rfl] at e₁
  obtain ⟨σ₂, e₂⟩ := step_rep (m := { m with seen := σ₁, pc := m.pc + 2 }) (χ := white) (sk := 9) (least := 0) ⟨rfl, rfl, (show (7:Nat) < 20 by decide)⟩ rfl rfl rfl rfl acc4 rfl (Nat.zero_le _) (show text.size ≤ _ by omega) (show (0 + 1 : Nat) ≤ 16777216 by decide) rfl (n := lead white text.toList) rfl (Nat.zero_le _) (Nat.zero_le _)
  generalize hn : lead white text.toList = n at e₂
  let m₂ : M := { ({ m with seen := σ₁, pc := m.pc + 2 } : M) with seen := σ₂, frames := [Sre.Frame.mk .giveBack 7 n true n (Kept.mk (-1) (-1) false #[]) 0 none], weight := 1, pc := 17, pos := n, handed := n }
  have hm₂ : ({ m with seen := σ₁, pc := m.pc + 2 } : M).step = m₂ := by
    rw [e₂]
    show M.mk .. = M.mk ..
    congr 1
    · show 0 + n = n; omega
    · show 0 + n = n; omega
    · show [Sre.Frame.mk .giveBack 7 (0 + n) true n (Kept.mk (-1) (-1) false #[]) 0 none] = [Sre.Frame.mk .giveBack 7 n true n (Kept.mk (-1) (-1) false #[]) 0 none]
      rw [Nat.zero_add]
  have hle : n ≤ text.size := by have := lead_le white text.toList; simp at this; omega
  cases hall : text.toList.all white with
  | true =>
    have hnt : n = text.size := by rw [← hn]; simpa using lead_all.mpr hall
    obtain ⟨σ₃, e₃⟩ := step_at (m := m₂) (k := 5) (yes := true) ⟨rfl, rfl, (show (17:Nat) < 20 by decide)⟩ rfl rfl (by show Except.ok (n == text.size || _) = _; rw [hnt]; simp)
    rw [if_pos rfl] at e₃
    obtain ⟨σ₄, e₄⟩ := step_succ (m := { m₂ with seen := σ₃, pc := m₂.pc + 2 }) ⟨rfl, rfl, (show (19:Nat) < 20 by decide)⟩ rfl rfl rfl
    obtain ⟨m', g, r1, r2, r3, r4, r5, r6⟩ := leave_yes m₂.frames (({ ({ m₂ with seen := σ₃, pc := m₂.pc + 2 } : M) with seen := σ₄, handed := n } : M).say true) rfl (fun f hf => by rw [List.mem_singleton.mp hf]; exact .inl rfl) rfl rfl
    refine ⟨m', ((Go.one e₁).trans ((Go.one hm₂).trans ((Go.one e₃).trans ((Go.one e₄).trans g)))).mono (show 1 + (1 + (1 + (1 + (1 + 1)))) ≤ _ by omega), ?_⟩
    rw [if_pos rfl]
    exact ⟨r1, r2, r3.trans hnt, r5, r6, r4⟩
  | false =>
    obtain ⟨m', g, r⟩ := back4 (text := text) n m₂ ⟨rfl, rfl, rfl, rfl, rfl, rfl, rfl, rfl, rfl⟩ fun p hp => by
      have hlt : n ≠ text.size := fun e => by
        have : text.toList.all white = true := lead_all.mp (by rw [hn, e]; simp)
        rw [hall] at this; cases this
      refine ⟨by omega, fun h1 h2 => ?_⟩
      have hpn : p = n := by omega
      subst hpn
      have := lead_next (χ := white) (l := text.toList) (c := 10) (by rw [hn]; simp [Array.getD] at h2; simp [show p < text.size by omega] at h2 ⊢; exact h2)
      exact absurd this (by decide +kernel)
    refine ⟨m', ((Go.one e₁).trans ((Go.one hm₂).trans g)).mono (by omega), ?_⟩
    rw [if_neg (by simp)]
    exact r
end Mine
end

section
open PySem PyProof.Rows
open PySem.Sre
namespace Mine

structure Hit (m' : M) (st hd : Nat) (marks : Array (Option Nat)) (lm li : Int) : Prop where
  out : m'.outcome = some .matched
  start : m'.start = st
  handed : m'.handed = hd
  marks : m'.marks = marks
  lastmark : m'.lastmark = lm
  lastindex : m'.lastindex = li

/-- '^([ \t]*)' -/
theorem run5 {text : Array Nat} (hz : text.size ≤ 16777216) : ∃ m', Go 20 (forMatch C5 text 1 0 text.size false false) m' ∧ Hit m' 0 (lead blank text.toList) #[some 0, some (lead blank text.toList)] 1 1 := by
  let m : M := forMatch C5 text 1 0 text.size false false
  obtain ⟨σ₁, e₁⟩ := step_at (m := m) (k := 0) (yes := true) ⟨rfl, rfl, (show (5:Nat) < 24 by decide)⟩ rfl rfl rfl
  rw [if_pos rfl] at e₁
  let m₁ : M := { m with seen := σ₁, pc := m.pc + 2 }
  obtain ⟨σ₂, e₂⟩ := step_mark (m := m₁) (i := 0) ⟨rfl, rfl, (show (7:Nat) < 24 by decide)⟩ rfl rfl
  let m₂ : M := ({ m₁ with seen := σ₂ } : M).mark 0
  obtain ⟨σ₃, e₃⟩ := step_rep (m := m₂) (χ := blank) (sk := 11) (least := 0) ⟨rfl, rfl, (show (9:Nat) < 24 by decide)⟩ rfl rfl rfl rfl acc5 rfl (Nat.zero_le _) (show text.size ≤ _ by omega) (show (0 + 1 : Nat) ≤ 16777216 by decide) rfl (n := lead blank text.toList) rfl (Nat.zero_le _) (Nat.zero_le _)
  generalize lead blank text.toList = n at e₃ ⊢
  let m₃ : M := { m₂ with seen := σ₃, frames := List.cons (Sre.Frame.mk .giveBack m₂.pc (m₂.pos + n) m₂.outermost n (Kept.mk m₂.lastmark m₂.lastindex false #[]) 0 none) m₂.frames, weight := m₂.weight + 1, pc := m₂.pc + 1 + 11, pos := m₂.pos + n, handed := m₂.pos + n }
  obtain ⟨σ₄, e₄⟩ := step_mark (m := m₃) (i := 1) ⟨rfl, rfl, (show (21:Nat) < 24 by decide)⟩ rfl rfl
  let m₄ : M := ({ m₃ with seen := σ₄ } : M).mark 1
  obtain ⟨σ₅, e₅⟩ := step_succ (m := m₄) ⟨rfl, rfl, (show (23:Nat) < 24 by decide)⟩ rfl rfl rfl
  obtain ⟨m', g, r1, r2, r3, r4, r5, r6⟩ := leave_yes m₄.frames (({ m₄ with seen := σ₅, handed := m₄.pos } : M).say true) rfl (fun f hf => by rw [List.mem_singleton.mp hf]; exact .inl rfl) rfl rfl
  refine ⟨m', ((Go.one e₁).trans ((Go.one e₂).trans ((Go.one e₃).trans ((Go.one e₄).trans ((Go.one e₅).trans g))))).mono (show 1 + (1 + (1 + (1 + (1 + (1 + 1))))) ≤ 20 by omega), r1, r2, r3.trans (Nat.zero_add n), r4.trans ?_, r5, r6⟩
  show #[some 0, some (0 + n)] = _
  rw [Nat.zero_add]

end Mine
end

section
open PySem PyProof.Rows
open PySem.SeqAt
open PySem.Builtin.Re
namespace Mine

/-! ### facts of the tables -/
set_option maxRecDepth 100000
theorem plainAttrs_pat : PlainAttrs "re.Pattern" :=
  ⟨⟨"object.__getattribute__", by rw [typeLookup_type, builtinLookup_eq_fast]; kernel_rfl, by decide +kernel⟩, by rw [typeLookup_type, builtinLookup_eq_fast]; kernel_rfl⟩
theorem plainAttrs_mat : PlainAttrs "re.Match" :=
  ⟨⟨"object.__getattribute__", by rw [typeLookup_type, builtinLookup_eq_fast]; kernel_rfl, by decide +kernel⟩, by rw [typeLookup_type, builtinLookup_eq_fast]; kernel_rfl⟩
theorem owner_pat : Manifest.owners.lookup (String.ofList ['n', 'r', 'e', 't', 't', 'a', 'P', '.', 'e', 'r'].reverse) = some Manifest.sig_re_Pattern := by kernel_rfl
theorem owner_mat : Manifest.owners.lookup (String.ofList ['h', 'c', 't', 'a', 'M', '.', 'e', 'r'].reverse) = some Manifest.sig_re_Match := by kernel_rfl

theorem slot_pat_match : Slot "re.Pattern" "match" "re.Pattern.match" :=
  .of (owner := "re.Pattern") (n := "match") (by rw [typeLookup_type, builtinLookup_eq_fast]; kernel_rfl) (by decide +kernel) (by decide +kernel) (by decide +kernel)
    (by first | exact .inl (by decide +kernel) | exact .inr (by decide +kernel)) (by rw [isSubtype_type]; kernel_rfl)
theorem type_pat_match : typeOf (.builtin "re.Pattern.match") = pure (.type "method_descriptor") := by show builtinType _ = _; rw [builtinType_eq_fast]; kernel_rfl
theorem entry_pat_match : entryFor table "re.Pattern.match" = some Builtin.«re.Pattern.match» := entryFor_of_tree (by kernel_rfl)
theorem args_pat_match (a b : Value) : argsOk "re.Pattern.match" ⟨[a, b], []⟩ := by
  unfold argsOk; rw [signature?_of (id := "re.Pattern.match") (n := ['h', 'c', 't', 'a', 'm']) (o := ['n', 'r', 'e', 't', 't', 'a', 'P', '.', 'e', 'r']) (by kernel_rfl) owner_pat]; kernel_rfl

theorem slot_mat_group : Slot "re.Match" "group" "re.Match.group" :=
  .of (owner := "re.Match") (n := "group") (by rw [typeLookup_type, builtinLookup_eq_fast]; kernel_rfl) (by decide +kernel) (by decide +kernel) (by decide +kernel)
    (by first | exact .inl (by decide +kernel) | exact .inr (by decide +kernel)) (by rw [isSubtype_type]; kernel_rfl)
theorem type_mat_group : typeOf (.builtin "re.Match.group") = pure (.type "method_descriptor") := by show builtinType _ = _; rw [builtinType_eq_fast]; kernel_rfl
theorem entry_mat_group : entryFor table "re.Match.group" = some Builtin.«re.Match.group» := entryFor_of_tree (by kernel_rfl)
theorem args_mat_group_1 (a : Value) : argsOk "re.Match.group" ⟨[a], []⟩ := by
  unfold argsOk; rw [signature?_of (id := "re.Match.group") (n := ['p', 'u', 'o', 'r', 'g']) (o := ['h', 'c', 't', 'a', 'M', '.', 'e', 'r']) (by kernel_rfl) owner_mat]; kernel_rfl
/-! ### the driver -/
section
variable {prog : Program} {w : World} {A : Around} {E : Value → Shared → Prop} {s : Shared}

theorem wp_drive {Q : Sre.M → Shared → Prop} {m' : Sre.M} (ho : m'.outcome.isSome = true) (h : Q m' s) : ∀ (turns n : Nat) (m : Sre.M), n ≤ 4 * turns → 0 < turns → itm n m = m' → wpAny (model prog w) A (reDrive turns m) Q E s := by
  intro turns
  induction turns with
  | zero => intro n m _ h0; omega
  | succ t ih =>
    intro n m hn _ e
    unfold reDrive
    simp only [reTurnSteps, runFor_eq]
    by_cases h4 : n ≤ 4
    · have e4 : itm 4 m = m' := by
        rw [show 4 = n + (4 - n) by omega, itm_add, e, itm_done ho]
      rw [e4, if_pos ho]
      exact wpAny_pure h
    · have e4 : itm (n - 4) (itm 4 m) = m' := by rw [← itm_add, ← e]; congr 1; omega
      by_cases h1 : (itm 4 m).outcome.isSome = true
      · rw [if_pos h1]
        have : itm 4 m = m' := by rw [← e4, itm_done h1]
        rw [this]; exact wpAny_pure h
      · rw [if_neg h1]
        exact wpAny_bind (wpAny_rule (ih (n - 4) _ (by omega) (by omega) e4))

theorem wp_seen {Q : PUnit → Shared → Prop} {f : Nat → PUnit → Sem (ForInStep PUnit)} (h : Q ⟨⟩ s) (hf : ∀ i (R : ForInStep PUnit → Shared → Prop), R (.yield ⟨⟩) s → wpAny (model prog w) A (f i ⟨⟩) R E s) :
    ∀ l : List Nat, wpAny (model prog w) A (forIn l PUnit.unit f) Q E s
  | [] => by rw [List.forIn_nil]; exact wpAny_pure h
  | i :: l => by
    rw [List.forIn_cons]
    exact wpAny_bind (hf i _ (wp_seen h hf l))

theorem wp_runToEnd {Q : Option Sre.M → Shared → Prop} {m m' : Sre.M} {k : Nat} (hk : k ≤ 4 * 2 ^ 64) (g : Go k m m')
    (h : match m'.outcome with | some .matched => Q (some m') s | some .failed => Q none s | _ => False) : wpAny (model prog w) A (reRunToEnd m) Q E s := by
  obtain ⟨n, hn, e⟩ := g
  unfold reRunToEnd
  have ho : m'.outcome.isSome = true := by
    revert h; cases m'.outcome with
    | none => exact fun h => h.elim
    | some _ => exact fun _ => rfl
  refine wpAny_bind (wp_drive (m' := m') ho ?_ (2 ^ 64) n m (by omega) (by decide) e)
  refine wpAny_bind ?_
  refine wp_seen ?_ (fun i R hR => ?_) _
  rotate_left
  · split
    · exact wpAny_bind (wpAny_rule (wpAny_pure hR))
    · exact wpAny_pure hR
  revert h
  cases m'.outcome with
  | none => exact fun h => h.elim
  | some o => cases o with
    | matched => exact fun h => wpAny_pure h
    | failed => exact fun h => wpAny_pure h
    | stuck => exact fun h => h.elim
end

/-- a pattern -/
structure PatAt (h : Heap) (pa : Addr) (code : Array Nat) (groups : Nat) : Prop where
  pat : ∃ f0 f1 f2 f3 f4 f6 ca vs n, h.get? pa = some { cls := .type "re.Pattern", dict := none, data := .fields #[f0, f1, f2, f3, f4, .ref ca, f6], slots := #[] } ∧ reRawNat f2 = groups ∧ reRawNat f6 = 0 ∧ IsT h ca vs n ∧ (vs.toList.map fun v => (reRawOf v).toNat) = code.toList

theorem reNamed_one (id f : String) (v : Value) : reNamed id "match" ["string", "pos", "endpos"] 1 [v] [] = pure [some v, none, none] := by
  rfl
end Mine
end

section
open PySem PyProof.Rows
open PySem.SeqAt
open PySem.Builtin.Re
namespace Mine

/-- the spans of the groups -/
structure SpanOk (groups : Nat) (marks : Array (Option Nat)) (lm : Int) (sp : List Int) : Prop where
  eq : ((List.range groups).flatMap fun g =>
    match if ((2 * g + 1 : Nat) : Int) ≤ lm then (marks.getD (2 * g) none, marks.getD (2 * g + 1) none) else (none, none) with
    | (some b, some e) => [rawInt b, rawInt e]
    | _ => [rawInt (-1), rawInt (-1)]) = sp.map rawInt
  ok : ((List.range groups).any (fun g => match marks.getD (2 * g) none, marks.getD (2 * g + 1) none with | some b, some e => ((2 * g + 1 : Nat) : Int) ≤ lm && e < b | _, _ => false)) = false
  few : sp.length ≤ 100

theorem SpanOk.zero : SpanOk 0 #[] (-1) [] := ⟨rfl, rfl, by decide⟩
theorem SpanOk.one {n : Nat} : SpanOk 1 #[some 0, some n] 1 [0, n] := ⟨rfl, by
  show ((decide ((1 : Int) ≤ 1) && decide (n < 0)) || false) = false
  simp, (show (2:Nat) ≤ 100 by decide)⟩

noncomputable def matchPV (y : Str) (pa : Addr) (n : Nat) (li : Int) (sp : List Int) : PV :=
  .obj "re.Match" [.str y, .raw [] (.ref pa), .int 0, .int y.length, .int li, .tuple (.int 0 :: .int n :: sp.map .int)]

/-- what a match tells -/
noncomputable def MatchR (code : Array Nat) (groups : Nat) (pa : Addr) (y : Str) (d : PV) : Prop :=
  ∃ k m', k ≤ 4 * 2 ^ 64 ∧ Go k (Sre.forMatch code y.cps groups 0 y.cps.size false false) m' ∧
    ((m'.outcome = some .failed ∧ d = .none) ∨ ∃ n marks lm li sp, Hit m' 0 n marks lm li ∧ SpanOk groups marks lm sp ∧ d = matchPV y pa n li sp)

theorem repAll_ints {h : Heap} {P : Addr → Prop} : ∀ l : List Int, RepAll h P (l.map .int) (l.map rawInt)
  | [] => RepAll.nil
  | i :: l => RepAll.cons (by simp only [Rep]; exact ⟨0, rfl⟩) (repAll_ints l)

section
variable {G : Wo}
theorem call_match {A : Around} {s : Shared} {pa : Addr} {code : Array Nat} {groups : Nat} {y : Str} {t : Tok} {d : PV} {E : Value → Shared → Prop} {Q : Value → Shared → Prop} {P : Addr → Prop}
    (pat : PatAt s.heap pa code groups) (hy : y.length ≤ sizeLine) (hR : MatchR code groups pa y d) (hP : ∀ a, s.heap.get? a = none → P a)
    (h : ∀ v s', Ext G s s' → Rep s'.heap P d v → Q v s') : wpAny G.M A (call (.builtin "re.Pattern.match") [.ref pa, .str y t]) Q E s := by
  obtain ⟨f0, f1, f2, f3, f4, f6, ca, vs, n, hpat, hg, hk, hT, hc0⟩ := pat.pat
  have hc : (vs.map reRawOf).map (fun x => x.toNat) = code := by rw [← Array.toList_inj, ← hc0]; simp
  obtain ⟨k, m', hk', go, hR⟩ := hR
  have hTy : s.TypeIs (.ref pa) "re.Pattern" := ⟨_, hpat, rfl⟩
  have hsz : y.cps.size ≤ 16777216 := by rw [sizeLine_is] at hy; exact hy
  refine wpAny_call (codeAny_call_builtin slot_pat_match.plain entry_pat_match (slot_pat_match.check _ _ _ _ _ _ _ _ hTy (args_pat_match _ _) ?_))
  unfold Builtin.«re.Pattern.match»
  refine wpAny_bind (m := reTarget "re.Pattern.match" "match" _) ?_
  unfold reTarget
  show wpAny _ _ (reNamed "re.Pattern.match" "match" ["string", "pos", "endpos"] 1 [.str y t] [] >>= _) _ _ s
  rw [reNamed_one "re.Pattern.match" "match"]
  refine wpAny_bind (wpAny_pure ?_)
  refine wpAny_bind (wpAny_pure ?_)
  refine wpAny_bind (wpAny_pure ?_)
  refine wpAny_bind (wpAny_fieldsOf hpat rfl ?_)
  refine wpAny_bind (m := reTextOf (.str y t)) (wpAny_pure ?_)
  have e6 : reRawNat ((#[f0, f1, f2, f3, f4, .ref ca, f6] : Array Value).getD 6 .none) = 0 := hk
  have e2 : reRawNat ((#[f0, f1, f2, f3, f4, .ref ca, f6] : Array Value).getD 2 .none) = groups := hg
  simp only [e6, e2]
  refine wpAny_bind (m := reNoCollectionInside (.str y t) 0) (wpAny_pure ?_)
  refine wpAny_bind (m := reRawItems (.ref ca)) ?_
  unfold reRawItems
  refine wpAny_bind (wpAny_seqItems hT rfl (wpAny_pure (wpAny_pure ?_)))
  have h0 : min (Int.toNat 0) y.cps.size = 0 := by simp
  have h1 : min ((2 : Int) ^ 63 - 1).toNat y.cps.size = y.cps.size := by omega
  simp only [Option.getD_some, hc, h0, h1]
  unfold reAnswer
  rcases hR with ⟨ho, rfl⟩ | ⟨nn, marks, lm, li, sp, hit, spo, rfl⟩
  · refine wpAny_bind (wp_runToEnd hk' go ?_)
    rw [ho]
    exact wpAny_pure (h _ _ Evo.refl (by simp only [Rep]))
  · refine wpAny_bind (wp_runToEnd hk' go ?_)
    rw [hit.out]
    show wpAny _ _ (reNewMatch _ _ _ _ _ m' >>= fun v => ret v) _ _ s
    refine wpAny_bind ?_
    unfold reNewMatch
    rw [hit.marks, hit.lastmark, hit.lastindex, hit.start, hit.handed]
    dsimp only
    generalize hL : List.flatMap _ (List.range groups) = L
    have hL' : L = sp.map rawInt := hL.symm.trans spo.eq
    subst hL'
    split
    · rename_i hbad
      exact absurd (hbad.symm.trans spo.ok) (by decide)
    refine wpAny_bind (wpAny_newTuple ?_ (by rw [sizeLine_is]; have := spo.few; simp; omega))
    unfold newFields
    refine wpAny_newObj_type (wpAny_pure ?_)
    have ext : Ext G s { s with heap := (s.heap.push { cls := .type "tuple", data := .seq (rawInt ((0 : Nat) : Int) :: rawInt (nn : Int) :: sp.map rawInt).toArray }).push { cls := .type "re.Match", dict := none, data := .fields [.str y t, .ref pa, rawInt ((0 : Nat) : Int), rawInt (y.cps.size : Int), rawInt li, .ref s.heap.objs.size].toArray } } :=
      Ext.of (tk := s.toks) fun b o e => Heap.get?_push_of_some _ (Heap.get?_push_of_some _ e)
    refine h _ _ ext ?_
    have hn : (s.heap.push { cls := .type "tuple", data := .seq (rawInt ((0 : Nat) : Int) :: rawInt (nn : Int) :: sp.map rawInt).toArray }).objs.size = s.heap.objs.size + 1 := by
      unfold Heap.push; simp
    have hnone : s.heap.get? (s.heap.objs.size + 1) = none := by
      cases e : s.heap.get? (s.heap.objs.size + 1) with
      | none => rfl
      | some o => exact absurd (show s.heap.objs.size + 1 < s.heap.objs.size from Heap.lt_size e) (Nat.not_lt.mpr (Nat.le_succ _))
    unfold matchPV
    simp only [Rep, RepAll]
    refine ⟨_, _, rfl, hP _ (by rw [hn]; exact hnone), by decide, Heap.get?_push_size _ rfl, _, _, rfl, ⟨⟨t, rfl⟩, hy⟩, _, _, rfl, ⟨rfl, fun p hp => by cases hp⟩, _, _, rfl, ⟨_, rfl⟩, _, _, rfl, ⟨_, rfl⟩, _, _, rfl, ⟨_, rfl⟩, _, _, rfl, ?_, rfl⟩
    refine ⟨_, _, 0, rfl, hP _ get_new, Heap.get?_push_of_some _ (Heap.get?_push_size _ rfl), ?_, ?_⟩
    · exact ⟨_, _, rfl, ⟨_, rfl⟩, _, _, rfl, ⟨_, rfl⟩, repAll_ints sp⟩
    · rw [sizeLine_is]; have := spo.few; simp; omega
end
end Mine
end

section
open PySem PyProof.Rows
open PySem.SeqAt
open PySem.Builtin.Re
namespace Mine

theorem PatAt.keeps {G : Wo} {mg mb} (g : Gl G mg mb) {s : Shared} (w : Wd G s) {pa : Addr} {code : Array Nat} {groups : Nat} (p : PatAt G.h₁ pa code groups) : PatAt s.heap pa code groups := by
  obtain ⟨f0, f1, f2, f3, f4, f6, ca, vs, n, hpat, r, r', hT, r''⟩ := p.pat
  exact ⟨_, _, _, _, _, _, _, _, _, w.old _ _ hpat (g.tb _ _ hpat (Obj.notCode_cls (T := "re.Pattern") rfl (by decide))), r, r', w.old _ _ hT (g.tb _ _ hT Obj.notCode_tuple), r''⟩

section
variable {c : Cx} {ρ : Env1} {b : Bool} {mg mb : Str → Option Value}

theorem Ev_match (ok : c.Ok) (g : Gl c.G mg mb) {x : Str} {p apos pos : Pos} {e : Expr} {pa : Addr} {code : Array Nat} {groups : Nat} {y : Str} {d : PV} (hk : c.env.kindOf x = some .globalImplicit) (hv : mg x = some (.ref pa)) (hp : plainName x = true)
    (pat : PatAt c.G.h₁ pa code groups) (hline : (apos.endLine == pos.line) = true) (hs : noStar e = true) (h : Ev c ρ b e (.str y)) (hR : y.length ≤ sizeLine → MatchR code groups pa y d) :
    Ev c ρ b (.Call (.Attribute (.Name x p) "match" apos) [e] [] pos) d := .mk fun A T s ha st => by
  have hL : EvL c ρ b [e] [.str y] := .cons h hs .nil
  refine wpAny_Call_method rfl ?_ hline plainAttrs_pat slot_pat_match type_pat_match (load_global ok g hk hv hp st.wd ?_)
  · rw [noStars' hL]; rfl
  · have hp₁ := pat.keeps g st.wd
    obtain ⟨f0, f1, f2, f3, f4, f6, ca, vs, n, hpat, _⟩ := hp₁.pat
    refine ⟨⟨_, hpat, rfl⟩, fun a e => by cases e; exact ⟨_, hpat, rfl⟩, ?_⟩
    refine Calls.callWith_builtin (noStars hL) (evalArgs_ev hL ha st fun vs s₂ e₂ st₂ r₂ => ?_)
    obtain ⟨v, rfl, r⟩ := r₂.inv1
    simp only [Rep] at r
    obtain ⟨⟨t, rfl⟩, hy⟩ := r
    exact call_match (G := c.G) (P := c.Qb T b) (pat.keeps g st₂.wd) hy (hR hy) (fun a hn => Cx.Qb_of (st₂.newP ok hn)) fun v s' e r => ⟨e₂.trans e, r⟩
end

theorem rep_mat_type {ds : List PV} (s : Shared) (P : Addr → Prop) (v : Value) (r : Rep s.heap P (.obj "re.Match" ds) v) : s.TypeIs v "re.Match" ∧ ∀ a, v = .ref a → ∃ ob, s.heap.get? a = some ob ∧ ob.dict = none := by
  simp only [Rep] at r; obtain ⟨a, vs, rfl, _, _, l, _⟩ := r
  exact ⟨⟨_, l, rfl⟩, fun a' e => by cases e; exact ⟨_, l, rfl⟩⟩

theorem MatchR4 {pa : Addr} {y : Str} (hy : y.length ≤ sizeLine) : MatchR C4 0 pa y (if (Sl y).all white then matchPV y pa y.length (-1) [] else .none) := by
  have hz : y.cps.size ≤ 16777216 := by rw [sizeLine_is] at hy; exact hy
  obtain ⟨m', go, r⟩ := run4 hz
  refine ⟨_, m', by omega, go, ?_⟩
  cases hw : (Sl y).all white with
  | true =>
    rw [if_pos hw] at r
    obtain ⟨r1, r2, r3, r4, r5, r6⟩ := r
    exact .inr ⟨_, _, _, _, _, ⟨r1, r2, r3, r6, r4, r5⟩, .zero, rfl⟩
  | false =>
    rw [if_neg (by rw [hw]; simp)] at r
    exact .inl ⟨r, rfl⟩
theorem MatchR5 {pa : Addr} {y : Str} (hy : y.length ≤ sizeLine) : MatchR C5 1 pa y (matchPV y pa (lead blank (Sl y)) 1 [0, (lead blank (Sl y) : Nat)]) := by
  have hz : y.cps.size ≤ 16777216 := by rw [sizeLine_is] at hy; exact hy
  obtain ⟨m', go, r⟩ := run5 hz
  exact ⟨_, m', by omega, go, .inr ⟨_, _, _, _, _, r, .one, rfl⟩⟩
/-- the header's length -/
noncomputable def hdl (l : List Nat) : Nat := lead blank l + lead hash (l.drop (lead blank l))
/-- the parts of a match -/
theorem mat_parts {h : Heap} {P : Addr → Prop} {y : Str} {pa : Addr} {n : Nat} {li : Int} {sp : List Int} {v : Value} (r : Rep h P (matchPV y pa n li sp) v) :
    ∃ a t v2 v3 v4 ta ts k, v = .ref a ∧ h.get? a = some { cls := .type "re.Match", dict := none, data := .fields #[.str y t, .ref pa, v2, v3, v4, .ref ta], slots := #[] } ∧ IsT h ta ts k ∧ ts.map reRawOf = (0 :: (n : Int) :: sp).toArray ∧ y.length ≤ sizeLine := by
  unfold matchPV at r
  simp only [Rep, RepAll] at r
  obtain ⟨a, vs, rfl, _, _, l, v0, r0, e0, ⟨⟨t, rfl⟩, hy⟩, v1, r1, rfl, ⟨rfl, _⟩, v2, r2, rfl, _, v3, r3, rfl, _, v4, r4, rfl, _, v5, r5, rfl, ⟨ta, ts, k, rfl, _, lt, q, _⟩, rfl⟩ := r
  have e : vs = #[.str y t, .ref pa, v2, v3, v4, .ref ta] := by rw [← Array.toList_inj]; exact e0
  subst e
  refine ⟨a, t, v2, v3, v4, ta, ts, k, rfl, l, lt, ?_, hy⟩
  obtain ⟨w0, q0, e0, ⟨_, rfl⟩, w1, q1, rfl, ⟨_, rfl⟩, q⟩ := q
  have key : ∀ (sp : List Int) (l : List Value), RepAll h P (sp.map .int) l → l.map reRawOf = sp := by
    intro sp
    induction sp with
    | nil => intro l hl; simp only [List.map_nil, RepAll] at hl; subst hl; rfl
    | cons i sp ih =>
      intro l hl
      simp only [List.map_cons, RepAll, Rep] at hl
      obtain ⟨v, r, rfl, ⟨_, rfl⟩, hr⟩ := hl
      rw [List.map_cons, ih r hr]; rfl
  rw [← Array.toList_inj, Array.toList_map, e0, List.map_cons, List.map_cons, key sp q1 q]
  rfl

theorem extract_take (y : Str) (n : Nat) : (⟨y.cps.extract 0 n⟩ : Str) = mkS ((Sl y).take n) := by
  apply Str_ext
  show (y.cps.extract 0 n).toList = _
  simp

section
variable {G : Wo}
theorem wp_groupText {A : Around} {s : Shared} {y : Str} {t : Tok} {fs : Array Value} {sp : Array Int} {k n : Nat} {Q : Value → Shared → Prop} {E : Value → Shared → Prop} (h0 : fs.getD 0 .none = .str y t)
    (hb : sp.getD (2 * k) (-1) = 0) (he : sp.getD (2 * k + 1) (-1) = n) (hy : y.length ≤ sizeLine) (h : Q (.str (mkS ((Sl y).take n)) s.toks) { s with toks := s.toks + 1 }) :
    wpAny G.M A (reGroupText ⟨fs, sp⟩ k .none) Q E s := by
  unfold reGroupText
  simp only [hb, he]
  rw [if_neg (by simp)]
  rw [h0]
  refine wpAny_bind (m := reTextOf (.str y t)) (wpAny_pure ?_)
  show wpAny _ _ (mkStr ⟨y.cps.extract (Int.toNat 0) (Int.toNat (n : Int))⟩) _ _ s
  rw [show Int.toNat 0 = 0 from rfl, Int.toNat_natCast, extract_take]
  refine wpAny_mkStr h ?_
  rw [Str_len] at hy ⊢
  rw [Sl_mkS, List.length_take]; omega

theorem BiOk_group {y : Str} {pa : Addr} {n : Nat} {li : Int} {sp : List Int} : BiOk G (.builtin "re.Match.group") [matchPV y pa n li sp] (.str (mkS ((Sl y).take n))) := .mk fun A s P vs _ _ _ wd r₀ => by
  obtain ⟨v, rfl, r⟩ := r₀.inv1
  obtain ⟨a, t, v2, v3, v4, ta, ts, k, rfl, l, lt, e, hy⟩ := mat_parts r
  refine wpAny_call (codeAny_call_builtin slot_mat_group.plain entry_mat_group (slot_mat_group.check _ _ _ _ _ _ _ _ ⟨_, l, rfl⟩ (args_mat_group_1 _) ?_))
  unfold Builtin.«re.Match.group»
  refine wpAny_bind (m := noKeywords _ _) (wpAny_pure ?_)
  show wpAny _ _ (reFound (.ref a) >>= _) _ _ s
  unfold reFound
  refine wpAny_bind (wpAny_bind (wpAny_fieldsOf l rfl ?_))
  refine wpAny_bind (m := reRawItems (.ref ta)) ?_
  unfold reRawItems
  refine wpAny_bind (wpAny_seqItems lt rfl (wpAny_pure (wpAny_pure ?_)))
  show wpAny _ _ (reGroupText ⟨_, ts.map reRawOf⟩ 0 .none >>= fun v => ret v) _ _ s
  refine wpAny_bind (wp_groupText (y := y) (t := t) (n := n) rfl (by rw [e]; rfl) (by rw [e]; rfl) hy (wpAny_pure ⟨Ext.tok, ?_⟩))
  simp only [Rep]
  refine ⟨⟨_, rfl⟩, ?_⟩
  rw [Str_len] at hy ⊢
  rw [Sl_mkS, List.length_take]; omega

end
end Mine
end

section
open PySem PyProof.Rows
open PySem.SeqAt
namespace Mine

/-- what the law's contract says -/
noncomputable def LawF (ds : List PV) (d : PV) : Prop := ∃ ns : List Int, ns.length ≤ 63 ∧ ds = [.list (ns.map .int)] ∧ d = .bool true

theorem well_ints {P : Params} {h : Heap} {Q : Addr → Prop} : ∀ {vs : List Value} {ns : List Int}, PySem.W.WellAll P h vs (ns.map fun i => PySem.W.WData.int i) → RepAll h Q (ns.map .int) vs
  | vs, [], w => by cases w; exact RepAll.nil
  | vs, i :: ns, w => by
    cases w with
    | cons w1 w2 =>
      cases w1 with
      | int _ t => exact RepAll.cons (by simp only [Rep]; exact ⟨t, rfl⟩) (well_ints w2)

end Mine
end

section
open PySem PySem.W PyProof.Rows
open PySem.SeqAt
namespace Mine

theorem callerA_ok {k : Nat} (hk : k ≤ 300) : AOk k callerA := ⟨rfl, by show 1 + claimMargin + k ≤ 690; have : claimMargin = 300 := rfl; omega, by show 4 + 20 * k ≤ 9000; omega⟩

theorem ofPys_ints (ns : List Int) : ofPys (ns.map PyData.int) = ns.map fun i => WData.int i := by
  rw [ofPys_eq, List.map_map]; rfl

end Mine
namespace Mine
theorem ns_at {h : Heap} {a : Addr} {m : Str → Option Value} {o : Obj} {es ep} (N : h.Ns a m) (ho : h.get? a = some o) (hd : o.data = .dict es ep) (x : Str) : m x = nsFind es x := by
  obtain ⟨o', es', ep', ho', hd', _, r⟩ := N
  rw [ho] at ho'; cases ho'
  rw [hd] at hd'; cases hd'
  exact (r x).symm

theorem len1 {α : Type} {P : List α → Prop} (h : ∀ a, P [a]) : ∀ vs : List α, vs.length = 1 → P vs
  | [a], _ => h a
theorem len2 {α : Type} {P : List α → Prop} (h : ∀ a b, P [a, b]) : ∀ vs : List α, vs.length = 2 → P vs
  | [a, b], _ => h a b
theorem len3 {α : Type} {P : List α → Prop} (h : ∀ a b c, P [a, b, c]) : ∀ vs : List α, vs.length = 3 → P vs
  | [a, b, c], _ => h a b c
/-- a function as it lies in the law's heap -/
theorem fnDef_of {G : Wo} {fa ca : Addr} {o oc : Obj} {fd : FuncData} {params : List Str} {body : List Stmt} {qual : Str} {scope : Scope} {t : Tok} {vs : Array Value} (ho : G.h₁.get? fa = some o) (hd : o.data = .func fd) (hbody : fd.body = .stmts body) (hq : fd.qualname = qual) (hs : fd.scope = scope) (hglob : fd.globals = mainGlobals)
    (hclos : fd.closure = []) (hblt : fd.builtins = builtinsNs) (hcode : fd.code = .ref ca) (hoc : G.h₁.get? ca = some oc) (hcd : oc.data = .fields vs) (hv : vs[1]? = some (.str qual t))
    (hbind : ∀ vs : List Value, vs.length = params.length → bindArgs fd ⟨vs, []⟩ = pure (params.zip vs)) (hT : ¬ G.Tb ca) (hk : scope.kind = .function) (hco : scope.isCoroutine = false) (hgen : scope.isGenerator = false)
    (hloc : (params.all fun x => scope.names.lookup x == some .local || scope.names.lookup x == some .cell) = true) : FnDef G fa qual params body scope (.ref ca) := by
  refine ⟨⟨o, fd, ho, hd, hs, hbody, hglob, hclos, hblt, hcode, hq, hbind⟩, ?_, fun a e => by cases e; exact hT, hk, hco, hgen, fun x hx => ?_⟩
  · exact ⟨ca, oc, vs, t, rfl, hoc, hcd, hv⟩
  · have := List.all_eq_true.mp hloc x hx
    simpa using this
end Mine
end

section
open PySem PyProof.Rows
open PySem.SeqAt
namespace Mine

theorem EvF.cast {c : Cx} {ρ : Env1} {e : Expr} {ds ds' : List PV} (h : ds = ds') (x : EvF c ρ e ds) : EvF c ρ e ds' := h ▸ x
theorem Ev.cast {c : Cx} {ρ : Env1} {b : Bool} {e : Expr} {d d' : PV} (h : d = d') (x : Ev c ρ b e d) : Ev c ρ b e d' := h ▸ x
theorem IsT1.cast {c : Cx} {ρ : Env1} {e : Expr} {d d' : Bool} (h : d = d') (x : IsT1 c ρ e d) : IsT1 c ρ e d' := h ▸ x

/-- a branch, and what is known behind it -/
theorem Ex_if {c : Cx} {ρ : Env1} {t : Expr} {a b : List Stmt} {pos : Pos} {ss : List Stmt} {Q : PF → Env1 → Prop} {k : Bool} (ρ' : Env1) (ht : IsT1 c ρ t k)
    (ha : k = true → Ex c ρ a (fun pf r => match pf with | .next => SubEnv ρ' r | pf => Q pf r)) (hb : k = false → Ex c ρ b (fun pf r => match pf with | .next => SubEnv ρ' r | pf => Q pf r))
    (rest : Ex c ρ' ss Q) : Ex c ρ (.If t a b pos :: ss) Q := by
  refine Ex_cons (Ex1_if ht (fun h => (ha h).mono fun pf r q => ?_) fun h => (hb h).mono fun pf r q => ?_) <;>
  · cases pf with
    | next => exact rest.sub q
    | _ => exact q

theorem kins_nil (a : List PV) : PV.kins a [] = true := by cases a <;> rfl
theorem nil_kins (a : List PV) : PV.kins [] a = true := by cases a <;> rfl
theorem eqv_list {a b : List PV} : PV.eqv (.list a) (.list b) = PV.eqvs a b := by rw [PV.eqv]
theorem eqvs_nil {a : List PV} : PV.eqvs a [] = a.isEmpty := by cases a <;> simp [PV.eqvs]
theorem SubEnv.nil {ρ : Env1} : SubEnv [] ρ := fun x d h => nomatch h
theorem SubEnv.put {ρ r : Env1} {x : Str} {d : PV} (h : ρ.lookup x = some d) (hr : SubEnv r ρ) : SubEnv ((x, d) :: r) ρ := fun y e hy => by
  rw [List.lookup_cons] at hy
  by_cases q : (y == x) = true
  · rw [q] at hy; cases hy; rw [eq_of_beq q]; exact h
  · simp only [q] at hy; exact hr y e hy
theorem SubEnv.both {ρ ρ' : Env1} {x : Str} {d : PV} (h : SubEnv ρ ρ') : SubEnv ((x, d) :: ρ) ((x, d) :: ρ') := fun y e hy => by
  rw [List.lookup_cons] at hy ⊢
  by_cases q : (y == x) = true
  · rw [q] at hy ⊢; exact hy
  · simp only [q] at hy ⊢; exact h y e hy
theorem CapEnv.nil {ρ : Env1} {sc : Scope} : CapEnv [] ρ sc := fun x d h => nomatch h
theorem CapEnv.put {ρ r : Env1} {sc : Scope} {x : Str} {d : PV} (h : ρ.lookup x = some d) (hs : sc.names.lookup x = some .free) (hr : CapEnv r ρ sc) : CapEnv ((x, d) :: r) ρ sc := fun y e hy => by
  rw [List.lookup_cons] at hy
  by_cases q : (y == x) = true
  · rw [q] at hy; cases hy; rw [eq_of_beq q]; exact ⟨h, hs⟩
  · simp only [q] at hy; exact hr y e hy
theorem filterMap_of {α : Type} {l : List α} {f g : α → PV} {F : PV → Option PV} (h : ∀ a, F (f a) = some (g a)) : (l.map f).filterMap F = l.map g := by
  induction l with
  | nil => rfl
  | cons a l ih => rw [List.map_cons, List.filterMap_cons_some (h a), ih, List.map_cons]
open Classical in
noncomputable def liftF {α : Type} (f g : α → PV) (d : PV) : Option PV := if h : ∃ a, f a = d then some (g h.choose) else none
theorem liftF_of {α : Type} {f g : α → PV} (hfg : ∀ a b, f a = f b → g a = g b) (a : α) : liftF f g (f a) = some (g a) := by
  have h : ∃ b, f b = f a := ⟨a, rfl⟩
  unfold liftF
  rw [dif_pos h, hfg _ _ h.choose_spec]
/-- a comprehension over known data, without a test -/
theorem EvF_compM {c : Cx} {ρ : Env1} (ok : c.Ok) {α : Type} {elt target iter : Expr} {scope : Scope} {pos : Pos} {d : PV} (l : List α) (f g : α → PV) (hfg : ∀ a b, f a = f b → g a = g b)
    (hiter : Ev c ρ true iter d) (hds : ItOk d (l.map f)) (hlen : l.length ≤ sizeLine) (hok : compOk c.env scope = true) (ρc : Env1) (hρ : CapEnv ρc ρ scope)
    (turn : ∀ C a, a ∈ l → (c.inner scope C).Ok → ∃ ρ', Asg (c.inner scope C) target (f a) ρc ρ' ∧ SubEnv ρc ρ' ∧ Ev (c.inner scope C) ρ' true elt (g a))
    (hs : ∀ x, foldedSetIterable iter c.env x = pure x) : EvF c ρ (.ListComp elt [⟨target, iter, [], 0⟩] scope pos) (l.map g) := by
  have := EvF_comp (pos := pos) (elt := elt) (target := target) (ifs := []) ok hiter hds (by simpa using hlen) hok hρ (liftF f g) (fun C d hd ok' => by
    obtain ⟨a, ha, rfl⟩ := List.mem_map.mp hd
    obtain ⟨ρ', h1, h2, h3⟩ := turn C a ha ok'
    refine ⟨ρ', h1, h2, ?_⟩
    rw [liftF_of hfg]
    exact ⟨.inl ⟨rfl, rfl⟩, h3⟩) hs
  rwa [filterMap_of (liftF_of hfg)] at this
theorem Ex1_assignCM {c : Cx} {ρ : Env1} {Q : PF → Env1 → Prop} (ok : c.Ok) {α : Type} {x : Str} {px : Pos} {elt target iter : Expr} {scope : Scope} {pos cpos : Pos} {d : PV} (l : List α) (f g : α → PV) (hfg : ∀ a b, f a = f b → g a = g b)
    (hiter : Ev c ρ true iter d) (hds : ItOk d (l.map f)) (hlen : l.length ≤ sizeLine) (hok : compOk c.env scope = true) (ρc : Env1) (hρ : CapEnv ρc ρ scope)
    (turn : ∀ C a, a ∈ l → (c.inner scope C).Ok → ∃ ρ', Asg (c.inner scope C) target (f a) ρc ρ' ∧ SubEnv ρc ρ' ∧ Ev (c.inner scope C) ρ' true elt (g a))
    (hs : ∀ x, foldedSetIterable iter c.env x = pure x)
    (hq : Q .next ((x, .list (l.map g)) :: ρ)) (hk : storable c x = true)
    (hsw : swapsWith (.ListComp elt [⟨target, iter, [], 0⟩] scope cpos) (some (.Name x px)) pos.line c.env = pure true) :
    Ex1 c ρ (.Assign [.Name x px] (.ListComp elt [⟨target, iter, [], 0⟩] scope cpos) pos) Q := by
  refine Ex1_assignC ok hiter hds (by simpa using hlen) hok hρ (liftF f g) (fun C d hd ok' => ?_) hs (by rw [filterMap_of (liftF_of hfg)]; exact hq) hk hsw
  obtain ⟨a, ha, rfl⟩ := List.mem_map.mp hd
  obtain ⟨ρ', h1, h2, h3⟩ := turn C a ha ok'
  refine ⟨ρ', h1, h2, ?_⟩
  rw [liftF_of hfg]
  exact ⟨.inl ⟨rfl, rfl⟩, h3⟩
end Mine
end

section
open PySem PyProof.Rows
open PySem.SeqAt
namespace Mine

/-! ### cutting a text at a sign -/
noncomputable def spl (c : Nat) : List Nat → List (List Nat)
  | [] => [[]]
  | x :: r => if x = c then [] :: spl c r else match spl c r with
    | [] => [[x]]
    | p :: q => (x :: p) :: q
theorem spl_ne (c : Nat) : ∀ l, spl c l ≠ []
  | [] => by simp [spl]
  | x :: r => by
    unfold spl
    split
    · simp
    · split <;> simp
theorem spl_free {c : Nat} : ∀ {p : List Nat}, c ∉ p → spl c p = [p]
  | [], _ => rfl
  | x :: r, h => by
    have hx : x ≠ c := fun e => h (e ▸ List.mem_cons_self)
    have hr : c ∉ r := fun q => h (List.mem_cons_of_mem _ q)
    unfold spl
    rw [if_neg hx, spl_free hr]
theorem spl_app {c : Nat} {t : List Nat} : ∀ {p : List Nat}, c ∉ p → spl c (p ++ c :: t) = p :: spl c t
  | [], _ => by rw [List.nil_append, spl, if_pos rfl]
  | x :: r, h => by
    have hx : x ≠ c := fun e => h (e ▸ List.mem_cons_self)
    have hr : c ∉ r := fun q => h (List.mem_cons_of_mem _ q)
    rw [List.cons_append, spl, if_neg hx, spl_app hr]
theorem spl_len (c : Nat) : ∀ l, (spl c l).length ≤ l.length + 1
  | [] => by simp [spl]
  | x :: r => by
    have ih := spl_len c r
    unfold spl
    split
    · simp; exact ih
    · split
      · simp
      · rename_i e; rw [e] at ih; simp at ih ⊢; omega
theorem spl_parts {c : Nat} : ∀ {l : List Nat} {p : List Nat}, p ∈ spl c l → p.length ≤ l.length ∧ c ∉ p
  | [], p, h => by simp [spl] at h; subst h; simp
  | x :: r, p, h => by
    unfold spl at h
    split at h
    · rcases List.mem_cons.mp h with rfl | h
      · simp
      · have := spl_parts h; exact ⟨by simp; omega, this.2⟩
    · rename_i hx
      have ih := @spl_parts c r
      split at h
      · simp at h; subst h; simp; exact fun e => hx e.symm
      · rename_i q t e
        rcases List.mem_cons.mp h with rfl | h
        · have := @ih q (by rw [e]; exact List.mem_cons_self)
          refine ⟨by simp; omega, fun m => ?_⟩
          rcases List.mem_cons.mp m with m | m
          · exact hx m.symm
          · exact this.2 m
        · have := @ih p (by rw [e]; exact List.mem_cons_of_mem _ h)
          exact ⟨by simp; omega, this.2⟩
theorem spl_join {c : Nat} : ∀ (ps : List Str), ps ≠ [] → (∀ p ∈ ps, c ∉ Sl p) → spl c (Sl (Str.join ⟨#[c]⟩ ps)) = ps.map Sl
  | [], h, _ => absurd rfl h
  | [p], _, hp => by
    show spl c (Sl p) = [Sl p]
    exact spl_free (hp p List.mem_cons_self)
  | p :: q :: r, _, hp => by
    show spl c (Sl (p ++ ⟨#[c]⟩ ++ Str.join ⟨#[c]⟩ (q :: r))) = _
    rw [Sl_append, Sl_append, List.append_assoc]
    show spl c (Sl p ++ c :: Sl (Str.join ⟨#[c]⟩ (q :: r))) = _
    rw [spl_app (hp p List.mem_cons_self), spl_join (q :: r) (by simp) fun x hx => hp x (List.mem_cons_of_mem _ hx)]
    rfl
theorem split_ne (x y : Str) : Txt.split x y ≠ [] := by
  unfold Txt.split
  split
  · simp
  · split
    · simp
    · rw [StrLaws.partsBetween_eq]
      obtain ⟨p, r, e⟩ := StrLaws.partsFrom_ne x y.length 0 (Builtin.Str.occurrences x y 0 x.length (x.length + 1))
      rw [e]; simp
theorem split_eq (x : Str) (c : Nat) : Txt.split x ⟨#[c]⟩ = (spl c (Sl x)).map mkS := by
  have h := spl_join (c := c) (Txt.split x ⟨#[c]⟩) (split_ne _ _) (StrLaws.split_free x c)
  rw [StrLaws.join_split] at h
  rw [h, List.map_map]
  have : (mkS ∘ Sl) = id := by funext y; exact mkS_Sl y
  rw [this, List.map_id]

theorem repAll_strs {h : Heap} {P : Addr → Prop} : ∀ {l : List (Str × Tok)} {xs : List Str}, l.map (·.1) = xs → (∀ x ∈ xs, x.length ≤ sizeLine) → RepAll h P (xs.map .str) (strValues l)
  | [], xs, e, _ => by subst e; exact RepAll.nil
  | (x, t) :: l, xs, e, hx => by
    subst e
    refine RepAll.cons (by simp only [Rep]; exact ⟨⟨t, rfl⟩, hx x List.mem_cons_self⟩) (repAll_strs rfl fun y hy => hx y (List.mem_cons_of_mem _ hy))

section
variable {G : Wo}
theorem BiOk_split {x : Str} {c : Nat} (hn : (spl c (Sl x)).length ≤ sizeLine) : BiOk G (.builtin "str.split") [.str x, .str (mkS [c])] (.list ((spl c (Sl x)).map fun p => .str (mkS p))) := .mk fun A s P vs _ _ _ wd r₀ => by
  obtain ⟨v, u, rfl, r, r2⟩ := r₀.inv2
  simp only [Rep] at r r2; obtain ⟨⟨t, rfl⟩, hx⟩ := r; obtain ⟨⟨u, rfl⟩, _⟩ := r2
  have hsp := split_eq x c
  have hlen : ∀ y ∈ (spl c (Sl x)).map mkS, y.length ≤ sizeLine := by
    intro y hy
    obtain ⟨p, hp, rfl⟩ := List.mem_map.mp hy
    have := (spl_parts hp).1
    rw [Str_len] at hx ⊢
    rw [Sl_mkS]; omega
  have fin : ∀ (l : List (Str × Tok)) (tk : Nat), l.map (·.1) = Txt.split x (mkS [c]) → (Ext G s { s with heap := s.heap.push { cls := .type "list", data := .seq (strValues l).toArray }, toks := tk } ∧
      Rep (s.heap.push { cls := .type "list", data := .seq (strValues l).toArray }) (fun a => P a ∨ s.heap.get? a = none) (.list ((spl c (Sl x)).map fun p => .str (mkS p))) (.ref s.heap.objs.size)) := by
    intro l tk hl
    refine ⟨Ext.push, ?_⟩
    simp only [Rep]
    refine ⟨_, _, 0, rfl, .inr get_new, IsL.new _ _, ?_, by rw [List.length_map]; exact hn⟩
    have := repAll_strs (h := s.heap.push { cls := .type "list", data := .seq (strValues l).toArray }) (P := fun a => P a ∨ s.heap.get? a = none) (hl.trans hsp) hlen
    rw [List.map_map] at this
    exact this
  cases h1 : (decide (x.length < (mkS [c]).length) || decide (Builtin.Str.strKind x < Builtin.Str.strKind (mkS [c])))
  · cases hf : (Builtin.Str.occurrences x (mkS [c]) 0 x.length (x.length + 1)).isEmpty
    · have hpb : Txt.split x (mkS [c]) = Builtin.Str.partsBetween x (Builtin.Str.occurrences x (mkS [c]) 0 x.length (x.length + 1)) (mkS [c]).length := (if_neg (ne_true_of_eq_false h1)).trans (if_neg (ne_true_of_eq_false hf))
      refine call_meets PySem.F.slot_str_split (typeIs_str _ _ _) PySem.F.entry_str_split (PySem.F.args_str_split_2 _ _) (meets_str_split_sep x (mkS [c]) t u h1 rfl hf hx (by rw [← hpb, hsp, List.length_map]; exact hn)) ?_
      show wants _ _ _ { s with toks := _, heap := s.heap.push { cls := .type "list", data := .seq (strsFrom s.toks (Builtin.Str.partsBetween x (Builtin.Str.occurrences x (mkS [c]) 0 x.length (x.length + 1)) (mkS [c]).length)).toArray } }
      rw [strsFrom_eq]
      exact fin (numbered s.toks _) _ ((numbered_texts _ _).trans hpb.symm)
    · exact call_meets PySem.F.slot_str_split (typeIs_str _ _ _) PySem.F.entry_str_split (PySem.F.args_str_split_2 _ _) (meets_str_split_not_found x (mkS [c]) t u h1 rfl hf) (fin [(x, t)] s.toks ((if_neg (ne_true_of_eq_false h1)).trans (if_pos hf)).symm)
  · exact call_meets PySem.F.slot_str_split (typeIs_str _ _ _) PySem.F.entry_str_split (PySem.F.args_str_split_2 _ _) (meets_str_split_cannot_occur x (mkS [c]) t u h1) (fin [(x, t)] s.toks (if_pos h1).symm)
end
end Mine
end

section
open PySem PyProof.Rows
open PySem.SeqAt
namespace Mine

/-! ### what is stripped -/
noncomputable def lstr (p : Nat → Bool) (l : List Nat) : List Nat := l.dropWhile p
noncomputable def rstr (p : Nat → Bool) (l : List Nat) : List Nat := (l.reverse.dropWhile p).reverse
theorem drop_take_while (p : Nat → Bool) : ∀ l : List Nat, l.drop (l.takeWhile p).length = l.dropWhile p
  | [] => rfl
  | c :: l => by
    by_cases h : p c = true
    · rw [List.takeWhile_cons_of_pos h, List.dropWhile_cons_of_pos h, List.length_cons, List.drop_succ_cons, drop_take_while p l]
    · rw [List.takeWhile_cons_of_neg h, List.dropWhile_cons_of_neg h]; rfl
theorem take_rstr (p : Nat → Bool) (l : List Nat) : l.take (l.length - (l.reverse.takeWhile p).length) = rstr p l := by
  unfold rstr
  rw [← drop_take_while, List.reverse_drop, List.length_reverse, List.reverse_reverse]
theorem rstr_len (p : Nat → Bool) (l : List Nat) : (rstr p l).length ≤ l.length := by
  rw [← take_rstr]; simp
theorem lstr_len (p : Nat → Bool) (l : List Nat) : (lstr p l).length ≤ l.length := by
  unfold lstr; rw [← drop_take_while]; simp
theorem stripR (p : Nat → Bool) (x : Str) : Txt.stripBy p false true x = mkS (rstr p (Sl x)) := by
  apply Str_ext
  rw [stripBy_eq, Sl_mkS]
  show (Builtin.Str.strSub _ _ _).cps.toList = _
  rw [StrLaws.strSub_toList]
  unfold stripLo stripHi
  simp only [if_true, Bool.false_eq_true, if_false]
  rw [List.drop_zero, Nat.sub_zero, Str_len, take_rstr]
theorem stripB (p : Nat → Bool) (x : Str) : Txt.stripBy p true true x = mkS (rstr p (lstr p (Sl x))) := by
  apply Str_ext
  rw [stripBy_eq, Sl_mkS]
  show (Builtin.Str.strSub _ _ _).cps.toList = _
  rw [StrLaws.strSub_toList]
  unfold stripLo stripHi
  simp only [if_true]
  rw [drop_take_while, Str_len, ← take_rstr]
  unfold lstr
  congr 1
  have h := congrArg List.length (drop_take_while p (Sl x))
  rw [List.length_drop] at h
  rw [show x.cps.toList = Sl x from rfl]
  omega

section
variable {G : Wo}
theorem BiOk_rstrip {x : Str} : BiOk G (.builtin "str.rstrip") [.str x] (.str (mkS (rstr white (Sl x)))) := .mk fun A s P vs _ _ _ wd r₀ => by
  obtain ⟨v, rfl, r⟩ := r₀.inv1
  simp only [Rep] at r; obtain ⟨⟨t, rfl⟩, hx⟩ := r
  refine SC.rstrip (fun t' k => ⟨Ext.tok, ?_⟩) hx
  rw [show Txt.rstrip x = mkS (rstr white (Sl x)) from stripR white x]
  simp only [Rep]
  exact ⟨⟨t', rfl⟩, by rw [Str_len] at hx ⊢; exact Nat.le_trans (rstr_len _ _) hx⟩
theorem BiOk_strip {x : Str} : BiOk G (.builtin "str.strip") [.str x] (.str (mkS (rstr white (lstr white (Sl x))))) := .mk fun A s P vs _ _ _ wd r₀ => by
  obtain ⟨v, rfl, r⟩ := r₀.inv1
  simp only [Rep] at r; obtain ⟨⟨t, rfl⟩, hx⟩ := r
  refine SC.strip (fun t' k => ⟨Ext.tok, ?_⟩) hx
  rw [show Txt.strip x = mkS (rstr white (lstr white (Sl x))) from stripB white x]
  simp only [Rep]
  exact ⟨⟨t', rfl⟩, by rw [Str_len] at hx ⊢; exact Nat.le_trans (rstr_len _ _) (Nat.le_trans (lstr_len _ _) hx)⟩
end

/-! ### tabs -/
noncomputable def xt (k : Nat) : Nat → List Nat → List Nat
  | _, [] => []
  | col, c :: r => if c = 9 then List.replicate (k - col % k) 32 ++ xt k (col + (k - col % k)) r else c :: xt k (if c == 10 || c == 13 then 0 else col + 1) r
theorem xt_notab (k : Nat) : ∀ (l : List Nat) (col : Nat), 9 ∉ l → xt k col l = l
  | [], _, _ => rfl
  | c :: l, col, h => by
    have hc : c ≠ 9 := fun e => h (e ▸ List.mem_cons_self)
    rw [xt, if_neg hc, xt_notab k l _ fun q => h (List.mem_cons_of_mem _ q)]

theorem expand_loop {G : Wo} {A : Around} {E : Value → Shared → Prop} {s : Shared} {k : Nat} {Q : (Array Nat × Nat) → Shared → Prop} (f : Nat → (Array Nat × Nat) → Sem (ForInStep (Array Nat × Nat)))
    (hf : ∀ c (out : Array Nat) (col : Nat), f c ⟨out, col⟩ = if c == 9 then (if Builtin.Str.tooLong (out.size + (k - col % k)) then (do let _ ← (unsupported "str.expandtabs:memory" : Sem PUnit); pure (.yield ⟨out ++ Array.replicate (k - col % k) 32, col + (k - col % k)⟩)) else pure (.yield ⟨out ++ Array.replicate (k - col % k) 32, col + (k - col % k)⟩)) else pure (.yield ⟨out.push c, if c == 10 || c == 13 then 0 else col + 1⟩)) :
    ∀ (l : List Nat) (out : Array Nat) (col : Nat), out.size + (xt k col l).length ≤ sizeLine → (∀ col', Q ⟨(out.toList ++ xt k col l).toArray, col'⟩ s) → wpAny G.M A (forIn l ((out, col) : Array Nat × Nat) f) Q E s
  | [], out, col, _, h => by
    rw [List.forIn_nil]
    have := h col
    simp [xt] at this
    exact wpAny_pure this
  | c :: l, out, col, hz, h => by
    rw [List.forIn_cons, hf]
    rw [xt] at hz h
    by_cases hc : c = 9
    · subst hc
      rw [if_pos rfl] at hz h
      rw [if_pos (by rfl)]
      have ht : Builtin.Str.tooLong (out.size + (k - col % k)) = false := by
        unfold Builtin.Str.tooLong
        simp at hz ⊢; omega
      rw [ht]
      refine wpAny_bind (wpAny_pure ?_)
      refine expand_loop f hf l _ _ (by simp at hz ⊢; omega) fun col' => ?_
      have := h col'
      rw [← List.append_assoc] at this
      simpa using this
    · rw [if_neg hc] at hz h
      rw [if_neg (by simpa using hc)]
      refine wpAny_bind (wpAny_pure ?_)
      refine expand_loop f hf l _ _ (by simp at hz ⊢; omega) fun col' => ?_
      have := h col'
      simpa using this

section
variable {G : Wo}
theorem expand_body {A : Around} {s : Shared} {x : Str} {t : Tok} {k : Nat} {Q : Fin → Shared → Prop} {E : Value → Shared → Prop} {rest : List Value} {o : Option Value} (hk : 0 < k) (hk2 : k < 2147483648) (hx : x.length ≤ sizeLine)
    (hb : Builtin.Str.strSelf ⟨.str x t :: rest, []⟩ = pure (.str x t, x, rest)) (hn : Builtin.Str.bindOptional "str.expandtabs" "expandtabs" 0 ["tabsize"] rest [] = pure [o])
    (ho : (o = none ∧ k = 8) ∨ ∃ u, o = some (.int k u)) (hz : (xt k 0 (Sl x)).length ≤ sizeLine) (h : ∀ t' tk, Q (.done (.ret (.str (mkS (xt k 0 (Sl x))) t'))) { s with toks := tk }) :
    wpAny G.M A (Builtin.«str.expandtabs» ⟨.str x t :: rest, []⟩) Q E s := by
  unfold Builtin.«str.expandtabs»
  rw [hb]
  refine wpAny_bind (wpAny_pure ?_)
  show wpAny _ _ (Builtin.Str.bindOptional "str.expandtabs" "expandtabs" 0 ["tabsize"] rest [] >>= _) _ _ s
  rw [hn]
  refine wpAny_bind (wpAny_pure ?_)
  have fin : ∀ (K Z : Sem Fin), K = (if (decide ((k : Int) < -(2 ^ 31 : Int)) || decide ((k : Int) ≥ 2 ^ 31)) = true then Z else
      if (!x.cps.contains 9) = true then (do rule "str.expandtabs.no-tab"; ret (← Builtin.Str.strUnchanged (.str x t) x)) else (do
        let r ← forIn x.cps ((#[], 0) : Array Nat × Nat) fun c r => if (c == 9) = true then (if Builtin.Str.tooLong (r.1.size + (if (k : Int) > 0 then (k : Int).toNat - r.2 % (k : Int).toNat else 0)) = true then (do
              let _ ← (unsupported "str.expandtabs:memory" : Sem PUnit); pure (.yield (r.1 ++ Array.replicate (if (k : Int) > 0 then (k : Int).toNat - r.2 % (k : Int).toNat else 0) 32, r.2 + (if (k : Int) > 0 then (k : Int).toNat - r.2 % (k : Int).toNat else 0))))
            else pure (.yield (r.1 ++ Array.replicate (if (k : Int) > 0 then (k : Int).toNat - r.2 % (k : Int).toNat else 0) 32, r.2 + (if (k : Int) > 0 then (k : Int).toNat - r.2 % (k : Int).toNat else 0))))
          else pure (.yield (r.1.push c, if (c == 10 || c == 13) = true then 0 else r.2 + 1))
        retStr ⟨r.1⟩)) → wpAny G.M A K Q E s := by
    rintro K Z rfl
    rw [if_neg (by simp; omega)]
    by_cases h9 : x.cps.contains 9 = true
    · rw [if_neg (by rw [h9]; simp)]
      have e : (if (k : Int) > 0 then (k : Int).toNat else 0) = k := by rw [if_pos (by omega)]; omega
      rw [← Array.forIn_toList]
      refine wpAny_bind (expand_loop (k := k) _ (fun c out col => ?_) (Sl x) #[] 0 (by simpa using hz) fun col' => ?_)
      · simp only [show (k : Int) > 0 by omega, if_true, Int.toNat_natCast]
      · refine wpAny_bind (wpAny_mkStr (wpAny_pure ?_) ?_)
        · simpa using h s.toks (s.toks + 1)
        · rw [Str_len]; simpa using hz
    · rw [if_pos (by simpa using h9)]
      refine wpAny_bind (wpAny_rule (wpAny_bind (wpAny_pure (wpAny_pure ?_))))
      have : xt k 0 (Sl x) = Sl x := xt_notab k _ _ (by simpa using h9)
      rw [this, mkS_Sl] at h
      exact h t s.toks
  rcases ho with ⟨rfl, rfl⟩ | ⟨u, rfl⟩
  · exact wpAny_bind (wpAny_pure (fin _ _ rfl))
  · exact wpAny_bind (wpAny_pure (fin _ _ rfl))
theorem BiOk_expand {x : Str} (hz : (xt 8 0 (Sl x)).length ≤ sizeLine) : BiOk G (.builtin "str.expandtabs") [.str x] (.str (mkS (xt 8 0 (Sl x)))) := .mk fun A s P vs _ _ _ wd r₀ => by
  obtain ⟨v, rfl, r⟩ := r₀.inv1
  simp only [Rep] at r; obtain ⟨⟨t, rfl⟩, hx⟩ := r
  refine wpAny_call (codeAny_call_builtin PySem.F.slot_str_expandtabs.plain PySem.F.entry_str_expandtabs (PySem.F.slot_str_expandtabs.check _ _ _ _ _ _ _ _ (typeIs_str _ _ _) (PySem.F.args_str_expandtabs_1 _) ?_))
  refine expand_body (k := 8) (o := none) (by decide) (by decide) hx rfl rfl (.inl ⟨rfl, rfl⟩) hz fun t' tk => ⟨Ext.tok, ?_⟩
  simp only [Rep]
  exact ⟨⟨t', rfl⟩, by rw [Str_len, Sl_mkS]; exact hz⟩
end
end Mine
end

section
open PySem PyProof.Rows
open PySem.SeqAt
namespace Mine

theorem foldl_rep (c : Nat) : ∀ (n : Nat) (acc : Array Nat), ((List.replicate n #[c]).foldl (· ++ ·) acc).toList = acc.toList ++ List.replicate n c
  | 0, acc => by simp
  | n + 1, acc => by
    rw [List.replicate_succ, List.foldl_cons, foldl_rep c n, Array.toList_append, List.append_assoc]
    rfl
theorem mul_one (c : Nat) (n : Nat) : Txt.mul (mkS [c]) (n : Int) = mkS (List.replicate n c) := by
  unfold Txt.mul
  by_cases h0 : n = 0
  · subst h0; rfl
  · rw [if_neg (by omega)]
    by_cases h1 : n = 1
    · subst h1; rfl
    · have : ((n : Int) == 1 || (mkS [c]).length == 0) = false := by
        rw [Bool.or_eq_false_iff]
        exact ⟨by simpa using (by omega : (n : Int) ≠ 1), rfl⟩
      rw [if_neg (by rw [this]; simp)]
      apply Str_ext
      show ((List.replicate (Int.toNat (n : Int)) #[c]).foldl (· ++ ·) #[]).toList = _
      rw [foldl_rep, Int.toNat_natCast]
      rfl
theorem BinOk.mul1 {c n : Nat} (hn : n ≤ sizeLine) : BinOk .Mult (.str (mkS [c])) (.int (n : Int)) (.str (mkS (List.replicate n c))) := by
  rw [← mul_one]
  rw [sizeLine_is] at hn
  refine .mulS ⟨?_, fun h1 h2 => ?_, fun h1 h2 => ?_⟩ ?_
  · simp; omega
  · show ¬ ((1 : Nat) : Int) > _
    have : (1 : Int) ≤ (2 ^ 63 - 1) / (n : Int) := by
      rw [Int.le_ediv_iff_mul_le (by omega)]; omega
    omega
  · show Builtin.Str.tooLong (1 * (n : Int).toNat) = false
    unfold Builtin.Str.tooLong
    rw [sizeLine_is]; simp; omega
  · rw [mul_one, Str_len, Sl_mkS, List.length_replicate, sizeLine_is]; exact hn

/-! ### the contracts of the small functions -/
noncomputable def iawF (ds : List PV) (d : PV) : Prop := ∃ y : Str, ds = [.str y] ∧ d = .bool ((Sl y).all white)
noncomputable def indF (ds : List PV) (d : PV) : Prop := ∃ y : Str, ds = [.str y] ∧ d = .str (mkS ((Sl y).take (lead blank (Sl y))))
theorem fnAt_of {G : Wo} {mg : Str → Option Value} {fa : Addr} {x : Str} {o : Obj} {fd : FuncData} (h : mg x = some (.ref fa)) (ho : G.h₁.get? fa = some o) (hd : o.data = .func fd) : FnAt G mg x fa := ⟨h, o, fd, ho, hd⟩
theorem lsl_any {α : Type} {l : List α} {a b : Nat} (h : a ≤ b) : lsl l (some (a : Int)) (some (b : Int)) = (l.drop a).take (b - a) := by
  unfold lsl clip
  simp only []
  rw [if_neg (by omega), if_neg (by omega)]
  by_cases h1 : a ≤ l.length
  · rw [show min (Int.toNat (a : Int)) l.length = a by omega]
    by_cases h2 : b ≤ l.length
    · rw [show min (Int.toNat (b : Int)) l.length = b by omega]
    · rw [show min (Int.toNat (b : Int)) l.length = l.length by omega, List.take_of_length_le (by simp), List.take_of_length_le (by simp; omega)]
  · rw [show min (Int.toNat (a : Int)) l.length = l.length by omega, List.drop_eq_nil_of_le (Nat.le_refl _), List.drop_eq_nil_of_le (by omega)]; simp
theorem lsl_to {α : Type} {l : List α} {b : Nat} : lsl l none (some (b : Int)) = l.take b := by
  unfold lsl clip
  simp only []
  rw [if_neg (by omega), List.drop_zero, Nat.sub_zero, List.take_eq_take_iff]
  omega
theorem lsl_from {α : Type} {l : List α} {a : Nat} : lsl l (some (a : Int)) none = l.drop a := by
  unfold lsl clip
  simp only []
  rw [if_neg (by omega)]
  by_cases h1 : a ≤ l.length
  · rw [show min (Int.toNat (a : Int)) l.length = a by omega, List.take_of_length_le (by simp)]
  · rw [show min (Int.toNat (a : Int)) l.length = l.length by omega, List.drop_eq_nil_of_le (Nat.le_refl _), List.drop_eq_nil_of_le (by omega)]; simp
theorem rangeL_up (a b : Int) : rangeL a b 1 = (List.range (b - a).toNat).map fun (i : Nat) => PV.int (a + i) := by
  unfold rangeL
  rw [rangeSize_one]
  have : (if a < b then b - a else 0).toNat = (b - a).toNat := by split <;> omega
  rw [this]
  simp
theorem range_get {α : Type} {n i : Nat} {f : Nat → α} {d : α} (h : ((List.range n).map f)[i]? = some d) : i < n ∧ d = f i := by
  rw [List.getElem?_map] at h
  by_cases hi : i < n
  · rw [List.getElem?_range hi] at h; cases h; exact ⟨hi, rfl⟩
  · rw [List.getElem?_eq_none (by simpa using hi)] at h; cases h
theorem eqv_int (a b : Int) : PV.eqv (.int a) (.int b) = (a == b) := by simp [PV.eqv]
theorem eqv_str (a b : Str) : PV.eqv (.str a) (.str b) = (a == b) := by simp [PV.eqv]
theorem eqv_mkS (a b : List Nat) : PV.eqv (.str (mkS a)) (.str (mkS b)) = (a == b) := by
  rw [eqv_str, Bool.eq_iff_iff, beq_iff_eq, beq_iff_eq]
  exact ⟨fun h => by have := congrArg Sl h; simpa using this, fun h => by rw [h]⟩
theorem fmod_range (x : Int) {n : Int} (hn : 0 < n) : 0 ≤ x.fmod n ∧ x.fmod n < n := by
  rw [Int.fmod_eq_emod_of_nonneg _ (by omega)]
  exact ⟨Int.emod_nonneg _ (by omega), Int.emod_lt_of_pos _ hn⟩
theorem BiOk_len_mkS {G : Wo} {l : List Nat} : BiOk G (.builtin "len") [.str (mkS l)] (.int (l.length : Nat)) := by
  have := BiOk_len_str (G := G) (x := mkS l)
  rw [Str_len, Sl_mkS] at this
  exact this
theorem IsT1.sub {c : Cx} {ρ ρ' : Env1} {e : Expr} {t : Bool} (hs : SubEnv ρ ρ') (h : IsT1 c ρ e t) : IsT1 c ρ' e t := .mk fun A T s ha st => h.run A T s ha (st.sub hs)
end Mine
end

section
open PySem PyProof.Rows
open PySem.Sre
namespace Mine

/-! ### the search for white: '(\s+)' -/
theorem step_rep0 {m : M} {χ : Nat → Bool} (h : Live m) (h0 : m.code.getD m.pc 0 = 24) {least : Nat} (h2 : m.code.getD (m.pc + 2) 0 = least) (h3 : m.code.getD (m.pc + 3) 0 = 4294967295)
    (hacc : ∀ c σ, ∃ σ', accepts m.code (m.pc + 4) c σ = .ok (χ c, σ')) (hlim : m.lim = m.text.size) (hpos : m.pos ≤ m.lim) (hsz : m.lim ≤ 4294967295)
    {n : Nat} (hn : lead χ (m.text.toList.drop m.pos) = n) (hle : n < least) : ∃ σ, m.step = ({ m with seen := σ } : M).say false := by
  rw [step_live h]
  by_cases hr : (least : Int) > (m.lim : Int) - m.pos
  · refine ⟨m.seen.add 24, ?_⟩
    unfold M.exec M.word
    rw [Nat.add_zero, h0]
    show (if (m.code.getD (m.pc + 2) 0 : Int) > (m.lim : Int) - m.pos then _ else _) = _
    rw [h2, if_pos hr]
  · obtain ⟨σ, e⟩ := run_eq (text := m.text) hacc (m.lim - m.pos) m.pos 0 ((m.seen.add 24).add (m.code.getD (m.pc + 4) 0)) (by omega)
    refine ⟨σ, ?_⟩
    have e' : Sre.run m.code m.text (m.pc + 4) (min 4294967295 ((m.lim : Int) - m.pos).toNat) m.pos 0 ((m.seen.add 24).add (m.code.getD (m.pc + 4) 0)) = .ok (n, σ) := by
      rw [show min 4294967295 ((m.lim : Int) - m.pos).toNat = m.lim - m.pos by omega, e, Nat.zero_add, hn]
    unfold M.exec M.word
    rw [Nat.add_zero, h0]
    show (if (m.code.getD (m.pc + 2) 0 : Int) > (m.lim : Int) - m.pos then _ else match Sre.run m.code m.text (m.pc + 4) (min (m.code.getD (m.pc + 3) 0) ((m.lim : Int) - m.pos).toNat) m.pos 0 ((m.seen.add 24).add (m.code.getD (m.pc + 4) 0)) with | .error why => _ | .ok (n, seen) => _) = _
    rw [h2, h3, if_neg hr, e']
    show (if n < least then _ else _) = _
    rw [if_pos hle]

/-- the machine, about to try at s -/
noncomputable def S3 (text : Array Nat) (s : Nat) (first : Bool) (a b : Option Nat) (σ : Sre.Seen) : M :=
  { code := C3, text := text, lim := text.size, start := s, lastStart := text.size, pc := 5, pos := s, handed := s, outermost := first, marks := #[a, b], frames := [Sre.Frame.mk .nextStart 5 s first 0 {} 0 none], weight := 1, seen := σ }

theorem run3_hit {text : Array Nat} (hz : text.size ≤ 16777216) {s : Nat} {first : Bool} {a b : Option Nat} {σ : Sre.Seen} (hs : s ≤ text.size) {n : Nat} (hn : lead white (text.toList.drop s) = n) (h1 : 1 ≤ n) :
    ∃ m', Go 20 (S3 text s first a b σ) m' ∧ Hit m' s (s + n) #[some s, some (s + n)] 1 1 := by
  let m : M := S3 text s first a b σ
  have hle : n ≤ text.size - s := by have := lead_le white (text.toList.drop s); rw [hn] at this; simpa using this
  obtain ⟨σ₁, e₁⟩ := step_mark (m := m) (i := 0) ⟨rfl, rfl, (show (5:Nat) < 20 by decide)⟩ rfl rfl
  let m₁ : M := ({ m with seen := σ₁ } : M).mark 0
  obtain ⟨σ₂, e₂⟩ := step_rep (m := m₁) (χ := white) (sk := 9) (least := 1) ⟨rfl, rfl, (show (7:Nat) < 20 by decide)⟩ rfl rfl rfl rfl acc3 rfl hs (show text.size ≤ _ by omega) (show (1 + 1 : Nat) ≤ 16777216 by decide) rfl (n := n) hn h1 (show 1 ≤ text.size - s by omega)
  let m₂ : M := { m₁ with seen := σ₂, frames := List.cons (Sre.Frame.mk .giveBack m₁.pc (m₁.pos + n) m₁.outermost n (Kept.mk m₁.lastmark m₁.lastindex false #[]) 0 none) m₁.frames, weight := m₁.weight + 1, pc := m₁.pc + 1 + 9, pos := m₁.pos + n, handed := m₁.pos + n }
  obtain ⟨σ₃, e₃⟩ := step_mark (m := m₂) (i := 1) ⟨rfl, rfl, (show (17:Nat) < 20 by decide)⟩ rfl rfl
  let m₃ : M := ({ m₂ with seen := σ₃ } : M).mark 1
  obtain ⟨σ₄, e₄⟩ := step_succ (m := m₃) ⟨rfl, rfl, (show (19:Nat) < 20 by decide)⟩ rfl rfl rfl
  obtain ⟨m', g, r1, r2, r3, r4, r5, r6⟩ := leave_yes m₃.frames (({ m₃ with seen := σ₄, handed := m₃.pos } : M).say true) rfl (fun f hf => by
    rcases List.mem_cons.mp hf with e | e
    · rw [e]; exact .inl rfl
    · rw [List.mem_singleton.mp e]; exact .inr rfl) rfl rfl
  exact ⟨m', ((Go.one e₁).trans ((Go.one e₂).trans ((Go.one e₃).trans ((Go.one e₄).trans g)))).mono (show 1 + (1 + (1 + (1 + (2 + 1)))) ≤ 20 by omega), r1, r2, r3, r4, r5, r6⟩

theorem run3_miss {text : Array Nat} (hz : text.size ≤ 16777216) {s : Nat} {first : Bool} {a b : Option Nat} {σ : Sre.Seen} (hs : s ≤ text.size) (hn : lead white (text.toList.drop s) = 0) :
    if s < text.size then ∃ σ', Go 3 (S3 text s first a b σ) (S3 text (s + 1) false (some s) b σ') else ∃ m', Go 4 (S3 text s first a b σ) m' ∧ m'.outcome = some .failed := by
  let m : M := S3 text s first a b σ
  obtain ⟨σ₁, e₁⟩ := step_mark (m := m) (i := 0) ⟨rfl, rfl, (show (5:Nat) < 20 by decide)⟩ rfl rfl
  let m₁ : M := ({ m with seen := σ₁ } : M).mark 0
  obtain ⟨σ₂, e₂⟩ := step_rep0 (m := m₁) (χ := white) (least := 1) ⟨rfl, rfl, (show (7:Nat) < 20 by decide)⟩ rfl rfl rfl acc3 rfl hs (show text.size ≤ _ by omega) (n := 0) hn (by decide)
  let m₂ : M := ({ m₁ with seen := σ₂ } : M).say false
  have e₃ : m₂.step = if s < text.size then S3 text (s + 1) false (some s) b σ₂ else ({ m₂ with answer := some false, frames := [], weight := 0, pc := 5, pos := s, outermost := first } : M) := by
    show (if s < text.size then _ else _) = _
    by_cases h : s < text.size
    · rw [if_pos h, if_pos h]; rfl
    · rw [if_neg h, if_neg h]; rfl
  split
  · rename_i h
    rw [if_pos h] at e₃
    exact ⟨σ₂, (Go.one e₁).trans ((Go.one e₂).trans (Go.one e₃))⟩
  · rename_i h
    rw [if_neg h] at e₃
    exact ⟨_, (Go.one e₁).trans ((Go.one e₂).trans ((Go.one e₃).trans (Go.one rfl))), rfl⟩

noncomputable def dark (c : Nat) : Bool := !white c
theorem lead_dark_cons {c : Nat} {l : List Nat} (h : white c = false) : lead dark (c :: l) = lead dark l + 1 := by
  unfold lead; rw [List.takeWhile_cons_of_pos (by simp [dark, h])]; rfl
theorem lead_dark_zero {c : Nat} {l : List Nat} (h : white c = true) : lead dark (c :: l) = 0 := by
  unfold lead; rw [List.takeWhile_cons_of_neg (by simp [dark, h])]; rfl
theorem lead_white_pos {c : Nat} {l : List Nat} (h : white c = true) : 1 ≤ lead white (c :: l) := by
  unfold lead; rw [List.takeWhile_cons_of_pos h, List.length_cons]; omega
theorem lead_white_zero {c : Nat} {l : List Nat} (h : white c = false) : lead white (c :: l) = 0 := by
  unfold lead; rw [List.takeWhile_cons_of_neg (by simp [h])]; rfl

/-- what the search from s finds -/
noncomputable def Found3 (text : Array Nat) (s : Nat) (m' : M) : Prop :=
  if lead dark (text.toList.drop s) = (text.toList.drop s).length then m'.outcome = some .failed
  else Hit m' (s + lead dark (text.toList.drop s)) (s + lead dark (text.toList.drop s) + lead white (text.toList.drop (s + lead dark (text.toList.drop s))))
    #[some (s + lead dark (text.toList.drop s)), some (s + lead dark (text.toList.drop s) + lead white (text.toList.drop (s + lead dark (text.toList.drop s))))] 1 1

theorem run3 {text : Array Nat} (hz : text.size ≤ 16777216) : ∀ (d s : Nat) (first : Bool) (a b : Option Nat) (σ : Sre.Seen), text.size - s = d → s ≤ text.size →
    ∃ m', Go (3 * d + 24) (S3 text s first a b σ) m' ∧ Found3 text s m' := by
  intro d
  induction d with
  | zero =>
    intro s first a b σ hd hs
    have hnil : text.toList.drop s = [] := by simp; omega
    have := run3_miss hz (first := first) (a := a) (b := b) (σ := σ) hs (by rw [hnil]; rfl)
    rw [if_neg (by omega)] at this
    obtain ⟨m', g, h⟩ := this
    refine ⟨m', g.mono (by omega), ?_⟩
    unfold Found3
    rw [hnil, if_pos (show lead dark [] = ([] : List Nat).length from rfl)]; exact h
  | succ d ih =>
    intro s first a b σ hd hs
    have hlt : s < text.toList.length := by simp; omega
    have hc : text.toList.drop s = text.toList[s] :: text.toList.drop (s + 1) := List.drop_eq_getElem_cons hlt
    cases hw : white text.toList[s] with
    | true =>
      obtain ⟨m', g, h⟩ := run3_hit hz (first := first) (a := a) (b := b) (σ := σ) hs rfl (by rw [hc]; exact lead_white_pos hw)
      refine ⟨m', g.mono (by omega), ?_⟩
      have h0 : lead dark (text.toList.drop s) = 0 := by rw [hc]; exact lead_dark_zero hw
      unfold Found3
      rw [h0, Nat.add_zero, if_neg (by rw [hc]; simp)]
      exact h
    | false =>
      have := run3_miss hz (first := first) (a := a) (b := b) (σ := σ) hs (by rw [hc]; exact lead_white_zero hw)
      rw [if_pos (by omega)] at this
      obtain ⟨σ', g⟩ := this
      obtain ⟨m', g', h⟩ := ih (s + 1) false (some s) b σ' (by omega) (by omega)
      refine ⟨m', (g.trans g').mono (by omega), ?_⟩
      have h0 : lead dark (text.toList.drop s) = lead dark (text.toList.drop (s + 1)) + 1 := by rw [hc]; exact lead_dark_cons hw
      have h1 : (text.toList.drop s).length = (text.toList.drop (s + 1)).length + 1 := by rw [hc]; rfl
      unfold Found3 at h ⊢
      rw [h0, h1]
      have e : s + (lead dark (text.toList.drop (s + 1)) + 1) = s + 1 + lead dark (text.toList.drop (s + 1)) := by omega
      rw [e]
      by_cases hq : lead dark (text.toList.drop (s + 1)) = (text.toList.drop (s + 1)).length
      · rw [if_pos hq] at h; rw [if_pos (by omega)]; exact h
      · rw [if_neg hq] at h; rw [if_neg (by omega)]; exact h

theorem search3 {text : Array Nat} (hz : text.size ≤ 16777216) {s : Nat} (hs : s ≤ text.size) : ∃ m', Go (3 * text.size + 30) (forSearch C3 text 1 s text.size false) m' ∧ Found3 text s m' := by
  by_cases h : s = text.size
  · have hnil : text.toList.drop s = [] := by simp; omega
    have e : forSearch C3 text 1 s text.size false = (forSearch C3 text 1 s text.size false) := rfl
    refine ⟨{ (({ code := C3, text := text, lim := text.size, start := s, pc := 5, pos := s, handed := s, marks := #[none, none], seen := ({} : Sre.Seen).add 14 } : M).say false) with outcome := some .failed }, Go.mono (show 1 ≤ 3 * text.size + 30 by omega) (Go.one ?_), ?_⟩
    · have e : forSearch C3 text 1 s text.size false = (({ code := C3, text := text, lim := text.size, start := s, pc := 5, pos := s, handed := s, marks := #[none, none], seen := ({} : Sre.Seen).add 14 } : M).say false) := by
        show (if (decide (s > text.size) || decide (text.size - s < 1)) = true then _ else _) = _
        rw [if_pos (by simp; omega)]; rfl
      rw [e]; rfl
    · unfold Found3; rw [hnil, if_pos (show lead dark [] = ([] : List Nat).length from rfl)]
  · have e : forSearch C3 text 1 s text.size false = S3 text s true none none (({} : Sre.Seen).add 14) := by
      show (if (decide (s > text.size) || decide (text.size - s < 1)) = true then _ else _) = _
      rw [if_neg (by simp; omega)]; rfl
    rw [e]
    obtain ⟨m', g, f⟩ := run3 hz (text.size - s) s true none none (({} : Sre.Seen).add 14) rfl hs
    exact ⟨m', g.mono (by omega), f⟩
end Mine
end

section
open PySem PyProof.Rows
open PySem.SeqAt
open PySem.Builtin.Re
namespace Mine
set_option maxRecDepth 100000
theorem slot_pat_split : Slot "re.Pattern" "split" "re.Pattern.split" :=
  .of (owner := "re.Pattern") (n := "split") (by rw [typeLookup_type, builtinLookup_eq_fast]; kernel_rfl) (by decide +kernel) (by decide +kernel) (by decide +kernel)
    (by first | exact .inl (by decide +kernel) | exact .inr (by decide +kernel)) (by rw [isSubtype_type]; kernel_rfl)
theorem type_pat_split : typeOf (.builtin "re.Pattern.split") = pure (.type "method_descriptor") := by show builtinType _ = _; rw [builtinType_eq_fast]; kernel_rfl
theorem entry_pat_split : entryFor table "re.Pattern.split" = some Builtin.«re.Pattern.split» := entryFor_of_tree (by kernel_rfl)
theorem args_pat_split (a b : Value) : argsOk "re.Pattern.split" ⟨[a, b], []⟩ := by
  unfold argsOk; rw [signature?_of (id := "re.Pattern.split") (n := ['t', 'i', 'l', 'p', 's']) (o := ['n', 'r', 'e', 't', 't', 'a', 'P', '.', 'e', 'r']) (by kernel_rfl) owner_pat]; kernel_rfl
theorem reNamed_split (v : Value) : reNamed "re.Pattern.split" "split" ["string", "maxsplit"] 1 [v] [] = pure [some v, none] := by rfl

/-- words and the white between them -/
noncomputable def wsp (l : List Nat) : List (List Nat) :=
  if h : lead dark l = l.length then [l]
  else l.take (lead dark l) :: (l.drop (lead dark l)).take (lead white (l.drop (lead dark l))) :: wsp ((l.drop (lead dark l)).drop (lead white (l.drop (lead dark l))))
termination_by l.length
decreasing_by
  have h1 := lead_le dark l
  have h2 : 1 ≤ lead white (l.drop (lead dark l)) := by
    rw [List.drop_eq_getElem_cons (show lead dark l < l.length by omega)]
    refine lead_white_pos ?_
    have := lead_next (χ := dark) (l := l) (c := l[lead dark l]'(by omega)) (List.getElem?_eq_getElem _)
    simpa [dark] using this
  rw [List.length_drop, List.length_drop]; omega

noncomputable def T3 (pa : Addr) (y : Str) (t : Tok) : ReTarget := { pattern := .ref pa, string := .str y t, code := C3, text := y.cps, kind := 0, groups := 1, pos := 0, lim := y.cps.size }
noncomputable abbrev St6 := Array Value × Nat × Nat × Bool × Int × Bool
noncomputable def body6 (pa : Addr) (y : Str) (t : Tok) (x : Nat) (r : St6) : Sem (ForInStep St6) :=
  if (!r.2.2.2.2.2) = true then do
    let o ← if ((0 : Int) != 0 && decide (r.2.2.2.2.1 ≥ 0)) = true then pure none else reNextFound (T3 pa y t) r.2.1 r.2.2.2.1
    match o with
    | none => pure (.yield (r.1, r.2.1, r.2.2.1, r.2.2.2.1, r.2.2.2.2.1, true))
    | some m => do
      let v ← reSlice y.cps 0 r.2.2.1 m.start
      let out ← forIn (List.range 1) (r.1.push v) fun g o => do
        let v ← reMachineGroup (T3 pa y t) m (g + 1) (pure Value.none)
        pure (ForInStep.yield (o.push v))
      pure (.yield (out, m.handed, m.handed, m.handed == m.start, r.2.2.2.2.1 + 1, r.2.2.2.2.2))
  else pure (.yield (r.1, r.2.1, r.2.2.1, r.2.2.2.1, r.2.2.2.2.1, r.2.2.2.2.2))

theorem wsp_end {l : List Nat} (h : lead dark l = l.length) : wsp l = [l] := by rw [wsp, dif_pos h]
theorem wsp_more {l : List Nat} (h : lead dark l ≠ l.length) : wsp l = l.take (lead dark l) :: (l.drop (lead dark l)).take (lead white (l.drop (lead dark l))) :: wsp ((l.drop (lead dark l)).drop (lead white (l.drop (lead dark l)))) := by
  rw [wsp, dif_neg h]
theorem white_pos {l : List Nat} (h : lead dark l ≠ l.length) : 1 ≤ lead white (l.drop (lead dark l)) := by
  have h1 := lead_le dark l
  rw [List.drop_eq_getElem_cons (show lead dark l < l.length by omega)]
  refine lead_white_pos ?_
  have := lead_next (χ := dark) (l := l) (c := l[lead dark l]'(by omega)) (List.getElem?_eq_getElem _)
  simpa [dark] using this
theorem wsp_len : ∀ (n : Nat) {l p : List Nat}, l.length = n → p ∈ wsp l → p.length ≤ l.length := by
  intro n
  induction n using Nat.strongRecOn with
  | ind n ih =>
    intro l p hn hp
    by_cases h : lead dark l = l.length
    · rw [wsp_end h] at hp
      rw [List.mem_singleton.mp hp]; omega
    · rw [wsp_more h] at hp
      have hw := white_pos h
      have hd := lead_le dark l
      rcases List.mem_cons.mp hp with rfl | hp
      · simp; omega
      · rcases List.mem_cons.mp hp with rfl | hp
        · simp; omega
        · have := ih _ (by rw [← hn, List.length_drop, List.length_drop]; omega) rfl hp
          rw [List.length_drop, List.length_drop] at this; omega
theorem extract_mid (y : Str) (a b : Nat) : (⟨y.cps.extract a b⟩ : Str) = mkS (((Sl y).drop a).take (b - a)) := by
  apply Str_ext
  show (y.cps.extract a b).toList = _
  simp [List.extract_eq_take_drop]

section
variable {G : Wo} {A : Around} {E : Value → Shared → Prop} {s : Shared} {pa : Addr} {y : Str} {t : Tok}
theorem wp_slice {tk : Nat} {a b : Nat} {Q : Value → Shared → Prop} (hy : y.length ≤ sizeLine) (h : ∀ u tk', Q (.str (mkS (((Sl y).drop a).take (b - a))) u) { s with toks := tk' }) :
    wpAny G.M A (reSlice y.cps 0 a b) Q E { s with toks := tk } := by
  show wpAny _ _ (mkStr ⟨y.cps.extract a b⟩) _ _ _
  rw [extract_mid]
  refine wpAny_mkStr (h _ _) ?_
  rw [Str_len] at hy ⊢
  rw [Sl_mkS, List.length_take, List.length_drop]; omega
theorem over6 {Q : St6 → Shared → Prop} (f : Nat → St6 → Sem (ForInStep St6)) (hf : ∀ x r, f x r = body6 pa y t x r) {r : St6} (hr : r.2.2.2.2.2 = true) : ∀ (xs : List Nat) {s : Shared}, Q r s → wpAny G.M A (forIn xs r f) Q E s
  | [], s, h => by rw [List.forIn_nil]; exact wpAny_pure h
  | x :: xs, s, h => by
    rw [List.forIn_cons, hf]
    unfold body6
    rw [if_neg (by rw [hr]; simp)]
    exact wpAny_bind (wpAny_pure (over6 f hf hr xs h))
theorem loop6 {Q : St6 → Shared → Prop} (hy : y.length ≤ sizeLine) (f : Nat → St6 → Sem (ForInStep St6)) (hf : ∀ x r, f x r = body6 pa y t x r)
    (hQ : ∀ (out : Array Value) (q : Nat) (mu : Bool) (n : Int) (tk : Nat), q ≤ (Sl y).length → (∃ vs : List (Str × Tok), out.toList = strValues vs ∧ vs.map (·.1) ++ [mkS ((Sl y).drop q)] = (wsp (Sl y)).map mkS) → Q (out, q, q, mu, n, true) { s with toks := tk }) :
    ∀ (xs : List Nat) (out : Array Value) (p : Nat) (n : Int) (tk : Nat), p ≤ (Sl y).length → ((Sl y).drop p).length + 1 ≤ xs.length →
      (∃ vs : List (Str × Tok), out.toList = strValues vs ∧ vs.map (·.1) ++ (wsp ((Sl y).drop p)).map mkS = (wsp (Sl y)).map mkS) → wpAny G.M A (forIn xs ((out, p, p, false, n, false) : St6) f) Q E { s with toks := tk }
  | [], out, p, n, tk, _, h0, _ => by simp at h0
  | x :: xs, out, p, n, tk, hp, hl, ⟨vs, hvs, hw⟩ => by
    have hsz : y.cps.size ≤ 16777216 := by rw [sizeLine_is] at hy; exact hy
    have hpz : p ≤ y.cps.size := by simpa using hp
    rw [List.forIn_cons, hf]
    unfold body6
    rw [if_pos (by rfl)]
    obtain ⟨m', go, fd⟩ := search3 hsz hpz
    have hgo : ∀ (R : Option Sre.M → Shared → Prop), (match m'.outcome with | some .matched => R (some m') { s with toks := tk } | some .failed => R none { s with toks := tk } | _ => False) →
        wpAny G.M A (if ((0 : Int) != 0 && decide (n ≥ 0)) = true then pure none else reNextFound (T3 pa y t) p false) R E { s with toks := tk } := fun R h => by
      rw [if_neg (by simp)]
      exact wp_runToEnd (by omega) go h
    unfold Found3 at fd
    refine wpAny_bind (wpAny_bind (hgo _ ?_))
    by_cases hd : lead dark ((Sl y).drop p) = ((Sl y).drop p).length
    · rw [if_pos hd] at fd
      rw [fd]
      refine wpAny_pure ?_
      refine over6 f hf rfl xs (hQ out p false n tk hp ⟨vs, hvs, ?_⟩)
      rw [wsp_end hd] at hw; exact hw
    · rw [if_neg hd] at fd
      rw [fd.out]
      have hwp := white_pos hd
      have hld := lead_le dark ((Sl y).drop p)
      have hlw := lead_le white (((Sl y).drop p).drop (lead dark ((Sl y).drop p)))
      generalize hD : lead dark ((Sl y).drop p) = D at fd hd hwp hld hlw
      rw [List.drop_drop] at hwp hlw
      have fd' : Hit m' (p + D) (p + D + lead white ((Sl y).drop (p + D))) #[some (p + D), some (p + D + lead white ((Sl y).drop (p + D)))] 1 1 := fd
      generalize hN : lead white ((Sl y).drop (p + D)) = N at fd' hwp hlw
      rw [List.length_drop] at hld hlw
      refine wpAny_bind (wp_slice (a := p) (b := m'.start) hy fun u1 k1 => ?_)
      refine wpAny_bind ?_
      rw [show List.range 1 = [0] from rfl, List.forIn_cons]
      refine wpAny_bind (wpAny_bind ?_)
      unfold reMachineGroup
      rw [fd'.lastmark, fd'.marks, fd'.start]
      rw [if_neg (by decide)]
      show wpAny _ _ (if p + D + N < p + D then _ else reSlice y.cps 0 (p + D) (p + D + N)) _ _ _
      rw [if_neg (by omega)]
      refine wp_slice (a := p + D) (b := p + D + N) hy fun u2 k2 => wpAny_pure ?_
      dsimp only
      rw [List.forIn_nil]
      refine wpAny_pure (wpAny_pure ?_)
      rw [fd'.handed]
      rw [show (p + D + N == p + D) = false by simp; omega]
      refine loop6 hy f hf hQ xs _ (p + D + N) _ k2 (by omega) (by rw [List.length_drop] at hl ⊢; rw [List.length_cons] at hl; omega) ⟨vs ++ [(mkS (((Sl y).drop p).take D), u1), (mkS (((Sl y).drop (p + D)).take N), u2)], ?_, ?_⟩
      · rw [show p + D - p = D by omega, show p + D + N - (p + D) = N by omega]
        simp [hvs, strValues]
      · rw [← hw, wsp_more (l := (Sl y).drop p) (by rw [hD]; exact hd), hD, List.drop_drop, hN, List.drop_drop]
        simp
end

theorem call_split {G : Wo} {A : Around} {s : Shared} {pa : Addr} {y : Str} {t : Tok} {E : Value → Shared → Prop} {Q : Value → Shared → Prop}
    {P : Addr → Prop} (pat : PatAt s.heap pa C3 1) (hy : y.length ≤ sizeLine) (hn : (wsp (Sl y)).length ≤ sizeLine) (hP : ∀ a, s.heap.get? a = none → P a)
    (h : ∀ v s', Ext G s s' → Rep s'.heap P (.list ((wsp (Sl y)).map fun p => .str (mkS p))) v → Q v s') : wpAny G.M A (call (.builtin "re.Pattern.split") [.ref pa, .str y t]) Q E s := by
  obtain ⟨f0, f1, f2, f3, f4, f6, ca, vs, n, hpat, hg, hk, hT, hc0⟩ := pat.pat
  have hc : (vs.map reRawOf).map (fun x => x.toNat) = C3 := by rw [← Array.toList_inj, ← hc0]; simp
  have hTy : s.TypeIs (.ref pa) "re.Pattern" := ⟨_, hpat, rfl⟩
  have hsz : y.cps.size ≤ 16777216 := by rw [sizeLine_is] at hy; exact hy
  refine wpAny_call (codeAny_call_builtin slot_pat_split.plain entry_pat_split (slot_pat_split.check _ _ _ _ _ _ _ _ hTy (args_pat_split _ _) ?_))
  unfold Builtin.«re.Pattern.split»
  show wpAny _ _ (reNamed "re.Pattern.split" "split" ["string", "maxsplit"] 1 [.str y t] [] >>= _) _ _ s
  rw [reNamed_split]
  refine wpAny_bind (wpAny_pure ?_)
  refine wpAny_bind (wpAny_pure ?_)
  unfold reWholeTarget
  refine wpAny_bind (wpAny_bind (wpAny_fieldsOf hpat rfl ?_))
  refine wpAny_bind (m := reTextOf (.str y t)) (wpAny_pure ?_)
  have e6 : reRawNat ((#[f0, f1, f2, f3, f4, .ref ca, f6] : Array Value).getD 6 .none) = 0 := hk
  have e2 : reRawNat ((#[f0, f1, f2, f3, f4, .ref ca, f6] : Array Value).getD 2 .none) = 1 := hg
  simp only [e6, e2]
  refine wpAny_bind (m := reNoCollectionInside (.str y t) 0) (wpAny_pure ?_)
  refine wpAny_bind (m := reRawItems (.ref ca)) ?_
  unfold reRawItems
  refine wpAny_bind (wpAny_seqItems hT rfl (wpAny_pure (wpAny_pure ?_)))
  simp only [Option.getD_some, hc]
  refine wpAny_bind (loop6 (s := s) (pa := pa) (t := t) hy _ (fun x r => rfl) ?_ _ #[] 0 0 s.toks (Nat.zero_le _) (by simp [reMostMatches]; omega) ⟨[], rfl, by simp⟩)
  intro out q mu k tk hq ⟨vs', hvs, hw⟩
  rw [if_neg (by simp)]
  refine wpAny_bind (wp_slice (a := q) (b := y.cps.size) hy fun u tk' => ?_)
  have hlast : ((Sl y).drop q).take (y.cps.size - q) = (Sl y).drop q := List.take_of_length_le (by simp)
  rw [hlast]
  have hl : (vs' ++ [(mkS ((Sl y).drop q), u)]).map (·.1) = (wsp (Sl y)).map mkS := by rw [List.map_append]; exact hw
  have hL : (out.push (.str (mkS ((Sl y).drop q)) u)).toList = strValues (vs' ++ [(mkS ((Sl y).drop q), u)]) := by simp [hvs, strValues]
  rw [hL]
  have hlen : (strValues (vs' ++ [(mkS ((Sl y).drop q), u)])).length = (wsp (Sl y)).length := by
    have := congrArg List.length hl
    simpa [strValues] using this
  refine wpAny_bind (wpAny_newObj_type (wpAny_pure ?_) (by show (strValues _).toArray.size ≤ sizeLine; rw [List.size_toArray, hlen]; exact hn))
  refine h _ _ (Ext.of (tk := tk') fun b o e => Heap.get?_push_of_some _ e) ?_
  simp only [Rep]
  refine ⟨_, _, 0, rfl, hP _ get_new, IsL.new _ _, ?_, by rw [List.length_map]; exact hn⟩
  have := repAll_strs (h := s.heap.push { cls := .type "list", data := .seq (strValues (vs' ++ [(mkS ((Sl y).drop q), u)])).toArray }) (P := P) hl (fun x hx => by
    obtain ⟨p, hp, rfl⟩ := List.mem_map.mp hx
    rw [Str_len] at hy ⊢
    rw [Sl_mkS]
    exact Nat.le_trans (wsp_len _ rfl hp) hy)
  rw [List.map_map] at this
  exact this
end Mine
end

section
open PySem PyProof.Rows
open PySem.SeqAt
open PySem.Builtin.Re
namespace Mine
section
variable {c : Cx} {ρ : Env1} {b : Bool} {mg mb : Str → Option Value}
theorem Ev_resplit (ok : c.Ok) (g : Gl c.G mg mb) {x : Str} {p apos pos : Pos} {e : Expr} {pa : Addr} {y : Str} (hk : c.env.kindOf x = some .globalImplicit) (hv : mg x = some (.ref pa)) (hp : plainName x = true)
    (pat : PatAt c.G.h₁ pa C3 1) (hline : (apos.endLine == pos.line) = true) (hs : noStar e = true) (h : Ev c ρ b e (.str y)) (hn : (wsp (Sl y)).length ≤ sizeLine) :
    Ev c ρ b (.Call (.Attribute (.Name x p) "split" apos) [e] [] pos) (.list ((wsp (Sl y)).map fun p => .str (mkS p))) := .mk fun A T s ha st => by
  have hL : EvL c ρ b [e] [.str y] := .cons h hs .nil
  refine wpAny_Call_method rfl ?_ hline plainAttrs_pat slot_pat_split type_pat_split (load_global ok g hk hv hp st.wd ?_)
  · rw [noStars' hL]; rfl
  · have hp₁ := pat.keeps g st.wd
    obtain ⟨f0, f1, f2, f3, f4, f6, ca, vs, n, hpat, _⟩ := hp₁.pat
    refine ⟨⟨_, hpat, rfl⟩, fun a e => by cases e; exact ⟨_, hpat, rfl⟩, ?_⟩
    refine Calls.callWith_builtin (noStars hL) (evalArgs_ev hL ha st fun vs s₂ e₂ st₂ r₂ => ?_)
    obtain ⟨v, rfl, r⟩ := r₂.inv1
    simp only [Rep] at r
    obtain ⟨⟨t, rfl⟩, hy⟩ := r
    exact call_split (G := c.G) (P := c.Qb T b) (pat.keeps g st₂.wd) hy hn (fun a hn => Cx.Qb_of (st₂.newP ok hn)) fun v s' e r => ⟨e₂.trans e, r⟩
end
end Mine
end

section
open PySem PyProof.Rows
open PySem.SeqAt
open MeetsSeq
namespace Mine
section
variable {c : Cx} {ρ : Env1} {Q : PF → Env1 → Prop}
theorem Ex1_append (ok : c.Ok) {x : Str} {px apos pos spos : Pos} {e : Expr} {ds : List PV} {d : PV} (hx : ρ.lookup x = some (.list ds)) (ho : c.own.contains x = true) (hp : plainName x = true) (h : Ev c ρ true e d) (hz : ds.length + 1 ≤ sizeLine)
    (hs : noStar e = true) (hline : (apos.endLine == pos.line) = true) (hi : interactive c.env = false) (hq : Q .next ((x, .list (ds ++ [d])) :: ρ)) :
    Ex1 c ρ (.Expr (.Call (.Attribute (.Name x px) "append" apos) [e] [] pos) spos) Q := .mk fun A T s ha st => by
  refine wpAny_Expr ?_ hi rfl
  obtain ⟨v, h1, h2, _⟩ := st.vars x _ hx
  obtain ⟨a, ds', vs, n, e1, rfl, e3, e4, e5, e6⟩ := h2 (List.contains_iff_mem.mp ho)
  cases e1
  have hL : EvL c ρ true [e] [d] := .cons h hs .nil
  refine wpAny_Call_method rfl ?_ hline PySem.F.plainAttrs_list PySem.F.slot_list_append PySem.F.type_list_append (wpAny_Name (loadVar ok h1 ?_ (plainName_spec hp).1) (plainName_spec hp).2)
  · rw [noStars' hL]; rfl
  refine ⟨e4.isList.typeIs, fun b e => by cases e; exact ⟨_, e4, rfl⟩, ?_⟩
  refine Calls.callWith_builtin (noStars hL) (evalArgs_ev hL ha st fun us s₂ e₂ st₂ r₂ => ?_)
  obtain ⟨u, rfl, r⟩ := r₂.inv1
  have l₂ : IsL s₂.heap a vs n := st.wd.list_keep e₂ (fun h => h) e4
  have hsz : vs.size ≤ sizeLine := by have := e5.length; simp at this; omega
  refine call_meets PySem.F.slot_list_append l₂.isList.typeIs PySem.F.entry_list_append (PySem.F.args_list_append_2 _ _) (list_append a vs n u hsz) ⟨l₂, ?_⟩
  have lu := l₂.update (fun xs => xs.push u)
  have hsb : Heap.SameBut a s₂.heap (s₂.heap.update a (Obj.mapSeq fun xs => xs.push u)) := Heap.SameBut.update ..
  obtain ⟨st₃, ev₃⟩ := st₂.mutate (tk := s₂.toks) ok (mem_of_lookup e3) hsb lu (ρ' := (x, .list (ds ++ [d])) :: ρ) (fun y d' hy => by
    rw [List.lookup_cons] at hy
    by_cases q : (y == x) = true
    · rw [q] at hy; cases hy
      refine .inr ⟨eq_of_beq q, List.contains_iff_mem.mp ho, e3, ⟨_, hx⟩, _, rfl, ?_, by simp; exact hz⟩
      have := (e5.ext st.wd e₂).snoc (r.weak fun _ q => Cx.Q_iff.mpr q)
      simpa using this
    · simp only [q] at hy
      exact .inl ⟨fun e => q (by rw [e]; exact beq_self_eq_true _), hy⟩)
  exact ⟨_, T, .next, st₃, (Ext.evo e₂).trans (ev₃.weak fun b hb => .inr (.inr ⟨_, mem_of_lookup e3, hb⟩)), TGrow.refl, trivial, hq⟩

theorem extend_door' {b : Nat} {xs : Array Value} (h : xs.size + b ≤ sizeLine) : ¬ (!xs.isEmpty && Builtin.List.listTooLong (xs.size + b)) = true := by
  unfold Builtin.List.listTooLong
  simp
  intro _
  exact h

theorem Ex1_extend (ok : c.Ok) {x : Str} {px apos pos spos : Pos} {e : Expr} {ds es : List PV} (hx : ρ.lookup x = some (.list ds)) (ho : c.own.contains x = true) (hp : plainName x = true) (h : Ev c ρ true e (.list es)) (hz : ds.length + es.length ≤ sizeLine)
    (hs : noStar e = true) (hline : (apos.endLine == pos.line) = true) (hi : interactive c.env = false) (hq : Q .next ((x, .list (ds ++ es)) :: ρ)) :
    Ex1 c ρ (.Expr (.Call (.Attribute (.Name x px) "extend" apos) [e] [] pos) spos) Q := .mk fun A T s ha st => by
  refine wpAny_Expr ?_ hi rfl
  obtain ⟨v, h1, h2, _⟩ := st.vars x _ hx
  obtain ⟨a, ds', vs, n, e1, rfl, e3, e4, e5, e6⟩ := h2 (List.contains_iff_mem.mp ho)
  cases e1
  have hL : EvL c ρ true [e] [.list es] := .cons h hs .nil
  refine wpAny_Call_method rfl ?_ hline PySem.F.plainAttrs_list PySem.F.slot_list_extend PySem.F.type_list_extend (wpAny_Name (loadVar ok h1 ?_ (plainName_spec hp).1) (plainName_spec hp).2)
  · rw [noStars' hL]; rfl
  refine ⟨e4.isList.typeIs, fun b e => by cases e; exact ⟨_, e4, rfl⟩, ?_⟩
  refine Calls.callWith_builtin (noStars hL) (evalArgs_ev hL ha st fun us s₂ e₂ st₂ r₂ => ?_)
  obtain ⟨u, rfl, r⟩ := r₂.inv1
  simp only [Rep] at r
  obtain ⟨b, ws, k, rfl, hqb, lb, rb, zb⟩ := r
  have l₂ : IsL s₂.heap a vs n := st.wd.list_keep e₂ (fun h => h) e4
  have h1' := e5.length
  have h2' := rb.length
  simp at h1' h2'
  refine call_meets PySem.F.slot_list_extend l₂.isList.typeIs PySem.F.entry_list_extend (PySem.F.args_list_extend_2 _ _) (AutoSeq1.list_extend_list_list_0 a vs n b ws k (extend_door' (by omega)) (by omega) (by omega)) ⟨l₂, lb, ?_⟩
  have lu := l₂.update (fun xs => xs ++ ws)
  have hsb : Heap.SameBut a s₂.heap (s₂.heap.update a (Obj.mapSeq fun xs => xs ++ ws)) := Heap.SameBut.update ..
  obtain ⟨st₃, ev₃⟩ := st₂.mutate (tk := s₂.toks) ok (mem_of_lookup e3) hsb lu (ρ' := (x, .list (ds ++ es)) :: ρ) (fun y d' hy => by
    rw [List.lookup_cons] at hy
    by_cases q : (y == x) = true
    · rw [q] at hy; cases hy
      refine .inr ⟨eq_of_beq q, List.contains_iff_mem.mp ho, e3, ⟨_, hx⟩, _, rfl, ?_, by simp; exact hz⟩
      have := (e5.ext st.wd e₂).append (rb.weak fun _ q => Cx.Q_iff.mpr q)
      simpa using this
    · simp only [q] at hy
      exact .inl ⟨fun e => q (by rw [e]; exact beq_self_eq_true _), hy⟩)
  exact ⟨_, T, .next, st₃, (Ext.evo e₂).trans (ev₃.weak fun b hb => .inr (.inr ⟨_, mem_of_lookup e3, hb⟩)), TGrow.refl, trivial, hq⟩
end
end Mine
end

section
open PySem PySem.W PyProof.Rows
open PySem.SeqAt
namespace Mine

/-! ### a world in which some functions' code tables grow -/
noncomputable def TabAt (h₁ h : Heap) (c P : Addr) : Prop := ∃ ps₀ more, h₁.TableAt c P ps₀ ∧ h.TableAt c P (ps₀ ++ more) ∧ h.IsCode c P (ps₀ ++ more)

theorem tabP {h : Heap} {c P : Addr} {ps : Array Value} (x : h.TableAt c P ps) : h.get? P = some { cls := .none, data := .fields ps } ∧ Obj.codeLike { cls := .none, data := .fields ps } := ⟨x.2, .inl rfl, _, rfl⟩
theorem tabC {h : Heap} {c P : Addr} {ps : Array Value} (x : h.TableAt c P ps) : ∃ o, h.get? c = some o ∧ Obj.codeLike o ∧ o.cls = .type "code" :=
  let ⟨⟨o, vs, a, b, d, _⟩, _⟩ := x; ⟨o, a, ⟨.inr b, vs, d⟩, b⟩

theorem TabAt.keep2 {h₁ h h' : Heap} {c P : Addr} (x : TabAt h₁ h c P) (hc : ∀ o, h.get? c = some o → Obj.codeLike o → h'.get? c = some o) (hP : ∀ o, h.get? P = some o → Obj.codeLike o → h'.get? P = some o) : TabAt h₁ h' c P := by
  obtain ⟨ps₀, more, a, t, i⟩ := x
  have hp' := hP _ (tabP t).1 (tabP t).2
  obtain ⟨o, ho, hco, _⟩ := tabC t
  have hc' := hc _ ho hco
  refine ⟨ps₀, more, a, ?_, ?_⟩
  · obtain ⟨⟨o', vs, e, r⟩, q⟩ := t
    rw [ho] at e; cases e
    exact ⟨⟨o, vs, hc', r⟩, hp'⟩
  · obtain ⟨o', vs, file, tf, flags, tg, inF, text, tt, op, e, r1, r2, r3, r4, r5, r6, q, r⟩ := i
    rw [ho] at e; cases e
    rw [t.2] at q; cases q
    exact ⟨o, vs, file, tf, flags, tg, inF, text, tt, _, hc', r1, r2, r3, r4, r5, r6, hp', r⟩

noncomputable def woT (prog : Program) (w : World) (s : Shared) (cs : List (Addr × Addr)) : Wo where
  prog := prog
  w := w
  h₁ := s.heap
  os₁ := s.os
  Tb := fun a => ∃ p ∈ cs, a = p.2
  TabOk := fun h => ∀ p ∈ cs, TabAt s.heap h p.1 p.2
  tabKeeps := fun _ _ t k p hp => (t p hp).keep2 (fun o e q => k _ o e q) fun o e q => k _ o e q

noncomputable def Tabs (h : Heap) (cs : List (Addr × Addr)) : Prop := (∀ p ∈ cs, ∃ ps, h.TableAt p.1 p.2 ps ∧ h.IsCode p.1 p.2 ps) ∧ cs.Pairwise fun p q => p.2 ≠ q.2

theorem woT_gl {prog : Program} {w : World} {s : Shared} {cs : List (Addr × Addr)} (X : Tabs s.heap cs) {p loose mean} {mg mb : Str → Option Value} (T : Top p loose mean mg mb s.heap) : Gl (woT prog w s cs) mg mb :=
  ⟨T.g, T.b, T.builtins, T.nolimit, fun b o e hc ⟨p, hp, q⟩ => by
    obtain ⟨ps, t, _⟩ := X.1 p hp
    have e' : s.heap.get? b = some o := e
    rw [q, t.2] at e'; cases e'
    exact hc (tabP t).2⟩
theorem woT_wd {prog : Program} {w : World} {s : Shared} {cs : List (Addr × Addr)} (X : Tabs s.heap cs) (hg : s.gens = #[]) : Wd (woT prog w s cs) s :=
  ⟨fun _ _ e _ => e, fun p hp => let ⟨ps, t, i⟩ := X.1 p hp; ⟨ps, #[], t, by simpa using t, by simpa using i⟩, (fun b ⟨p, hp, q⟩ => let ⟨ps, t, _⟩ := X.1 p hp; q ▸ ⟨_, (tabP t).1, (tabP t).2⟩), rfl, .of_eq hg⟩

theorem notTb {prog : Program} {w : World} {s : Shared} {cs : List (Addr × Addr)} {a : Addr} (h : cs.all (fun p => p.2 != a) = true) : ¬ (woT prog w s cs).Tb a := fun ⟨p, hp, q⟩ => by
  have := List.all_eq_true.mp h p hp
  simp [q] at this

theorem law_doneT {l : OpenLaw} {w : World} {s₁ : Shared} {cs : List (Addr × Addr)} (X : Tabs s₁.heap cs) {k : Nat} {fa a : Addr} {ns : List Int} {cl : Str → Option Addr} {mean : ExcName → Option Value} (F : Fn (woT l.row.prog w s₁ cs) k fa LawF) (hk : k ≤ 300) (hg : s₁.gens = #[])
    (hw : Well w.params s₁.heap (.ref a) (ofPy (.list (ns.map PyData.int)))) (hn : ns.length ≤ 63) :
    wpAny (model l.row.prog w) callerA ((fun f vs => PySem.call f vs) (.ref fa) [.ref a]) (fun v s' => GoodWG l.row.claim cl mean [ofPy (.list (ns.map PyData.int))] s₁ (.ok (.ret v)) s')
      (fun e s' => GoodWG l.row.claim cl mean [ofPy (.list (ns.map PyData.int))] s₁ (.error e) s') s₁ := by
  refine enter_call ?_
  have r : RepAll s₁.heap (fun _ => True) [.list (ns.map .int)] [.ref a] := by
    rw [show ofPy (.list (ns.map PyData.int)) = .list (ofPys (ns.map PyData.int)) from rfl, ofPys_ints] at hw
    cases hw with
    | list hl hA =>
      refine RepAll.one ?_
      simp only [Rep]
      exact ⟨a, _, 0, rfl, trivial, hl, well_ints hA, by rw [sizeLine_is, List.length_map]; omega⟩
  refine codeAny_mono (F.run callerA s₁ (fun _ => True) [.ref a] _ _ (callerA_ok hk) (woT_wd X hg) (fun _ _ => trivial) r ⟨ns, hn, rfl, rfl⟩) ?_
  rintro res s' ⟨v, rfl, e, rv⟩
  simp only [Rep] at rv
  subst rv
  have w' := e.wd (woT_wd X hg)
  refine ⟨.inl ⟨_, .bool true, [], rfl, fun cls => rfl, .bool true, ?_, fun _ => ⟨List.nodup_nil, fun a h => nomatch h⟩⟩, ⟨fun b o h => ?_, fun b o h => ?_⟩, w'.os, w'.gens⟩
  · exact postW_of (by wrow_shape) (by wtm_val) (by w_fin)
  · by_cases tb : (woT l.row.prog w s₁ cs).Tb b
    · obtain ⟨p, hp, q⟩ := tb
      obtain ⟨ps₀, more, t₀, t, _⟩ := w'.tab p hp
      rw [q, t₀.2] at h; cases h
      rw [q]
      exact .inr (.inl ⟨t₀.isCodeTable, rfl, ps₀, more, rfl, t.2⟩)
    · exact .inl (w'.old b o h tb)
  · by_cases tb : (woT l.row.prog w s₁ cs).Tb b
    · obtain ⟨o', e', _⟩ := w'.tb b tb
      exact ⟨o', e'⟩
    · exact ⟨o, w'.old b o h tb⟩

theorem apart_eq : ∀ {cs : List (Addr × Addr)}, (cs.Pairwise fun p q => p.2 ≠ q.2) → ∀ {p q : Addr × Addr}, p ∈ cs → q ∈ cs → p.2 = q.2 → p = q
  | [], _, _, _, h, _, _ => by cases h
  | x :: r, pw, p, q, hp, hq, e => by
    rw [List.pairwise_cons] at pw
    rcases List.mem_cons.mp hp with hp' | hp'
    · rcases List.mem_cons.mp hq with hq' | hq'
      · rw [hp', hq']
      · exact absurd e (by rw [hp']; exact pw.1 q hq')
    · rcases List.mem_cons.mp hq with hq' | hq'
      · exact absurd e.symm (by rw [hq']; exact pw.1 p hp')
      · exact apart_eq pw.2 hp' hq' e
/-! ### the code of a generator expression -/
section
variable {prog : Program} {w : World} {s₁ : Shared} {cs : List (Addr × Addr)}
theorem wp_gencode {env : Env} {ca P : Addr} (X : Tabs s₁.heap cs) (hm : (ca, P) ∈ cs) (hc : env.code = .ref ca) {A : Around} {s : Shared} (wd : Wd (woT prog w s₁ cs) s) {pos : Pos} {qual : Str} {scope : Scope} {E : Value → Shared → Prop} {Q : Value → Shared → Prop}
    (k : ∀ code h' tk, (∀ b o, b ≠ P → s.heap.get? b = some o → h'.get? b = some o) → s.heap.objs.size ≤ h'.objs.size → Ext (woT prog w s₁ cs) s { s with heap := h', toks := tk } → Q code { s with heap := h', toks := tk }) :
    wpAny (model prog w) A (genexprCode env pos qual scope) Q E s := by
  obtain ⟨ps₀, more, t₀, t, i⟩ := wd.tab (ca, P) hm
  cases hf : codeAmong pos (ps₀ ++ more).toList with
  | some c' => exact wpAny_genexprCode_hit hc i hf (k c' s.heap s.toks (fun _ _ _ e => e) (Nat.le_refl _) Evo.refl)
  | none =>
    refine wpAny_genexprCodeX hc i t hf fun c' h' tk hx hge hlt hcode' hrec htab' _ => ?_
    refine k _ h' tk (fun b o hb e => hx b o hb e) (Nat.le_trans hge (Nat.le_of_lt hlt)) ⟨fun b o e ht _ => hx b o (fun q => ht ⟨_, hm, q⟩) e, fun _ => ?_⟩
    have tabs : ∀ p ∈ cs, TabAt s₁.heap h' p.1 p.2 := by
      intro p hp
      by_cases hpe : p = (ca, P)
      · subst hpe
        exact ⟨ps₀, more ++ #[rawInt pos.line, rawInt pos.col, .ref c'], t₀, by rw [← Array.append_assoc]; exact htab', by rw [← Array.append_assoc]; exact hcode'⟩
      · have hne : p.2 ≠ P := by
          exact fun q => hpe (apart_eq X.2 hp hm q)
        have tp := wd.tab p hp
        refine TabAt.keep2 tp (fun o e q => hx _ o (fun q' => ?_) e) fun o e _ => hx _ o hne e
        obtain ⟨ps', more', _, t', _⟩ := tp
        obtain ⟨o', e', _, hcl⟩ := tabC t'
        rw [q', t.2] at e'; cases e'; cases hcl
    refine ⟨fun b o e ht => hx b o (fun q => ht ⟨_, hm, q⟩) (wd.old b o e ht), tabs, fun b ⟨p, hp, q⟩ => ?_, wd.os, wd.gens⟩
    obtain ⟨ps', more', _, t', _⟩ := tabs p hp
    subst q; exact ⟨_, (tabP t').1, (tabP t').2⟩
end
end Mine
end

section
open PySem PySem.W PyProof.Rows
open PySem.SeqAt
namespace Mine

structure CodeGo (G : Wo) (env : Env) : Prop where
  run : ∀ (pos : Pos) (qual : Str) (scope : Scope) (A : Around) (s : Shared) (E : Value → Shared → Prop) (Q : Value → Shared → Prop), Wd G s →
    (∀ code h' tk, (∀ b o, ¬ G.Tb b → s.heap.get? b = some o → h'.get? b = some o) → s.heap.objs.size ≤ h'.objs.size → Ext G s { s with heap := h', toks := tk } → Q code { s with heap := h', toks := tk }) →
    wpAny G.M A (genexprCode env pos qual scope) Q E s
theorem codeGo_of {prog : Program} {w : World} {s₁ : Shared} {cs : List (Addr × Addr)} {env : Env} {ca P : Addr} (X : Tabs s₁.heap cs) (hm : (ca, P) ∈ cs) (hc : env.code = .ref ca) : CodeGo (woT prog w s₁ cs) env :=
  .mk fun pos qual scope A s E Q wd k => wp_gencode X hm hc wd fun code h' tk h1 h2 h3 => k code h' tk (fun b o ht e => h1 b o (fun q => ht ⟨_, hm, q⟩) e) h2 h3

noncomputable def BMain (h : Heap) (mg : Str → Option Value) : Prop := ∃ bm ob, mg "__builtins__" = some (.ref bm) ∧ bm ≠ builtinsNs ∧ h.get? bm = some ob ∧ ob.cls = .type "module" ∧ ob.dict = some builtinsNs ∧ ob.data = .plain

section
variable {c : Cx} {ρ : Env1} {b : Bool} {mg mb : Str → Option Value}

/-- an element of a generator expression over texts -/
structure GenElt (c : Cx) (ρ : Env1) (scope : Scope) (x : Str) (elt : Expr) (l : List Str) (gf : Str → Str) : Prop where
  run : ∀ (T : Own1) (s : Shared), St c ρ T s → ∀ (C : Addr) (code : Value) (A : Around) (E : Value → Shared → Prop) (y : Str) (t : Tok) (s₂ : Shared) (m₂ : Str → Option Value), A.handled = none → s₂.heap.Ns C m₂ → m₂ x = some (.str y t) →
    (∀ a v, s.heap.IsCell a v → s₂.heap.IsCell a v) → y ∈ l → y.length ≤ sizeLine →
    wpAny c.M A (eval elt (genEnv scope (closFrom c.env scope.names []) C code builtinsNs c.env)) (fun v s₃ => (∃ u, v = .str (gf y) u) ∧ Keeps s₂ s₃) E s₂

theorem passing_all (n : Nat) : passing (fun _ => true) n 0 = List.range n := by
  unfold passing; simp

theorem Ev_joinGen (ok : c.Ok) (g : Gl c.G mg mb) (CG : CodeGo c.G c.env) (BM : BMain c.G.h₁ mg) {sepE : Expr} {sep : Str} {apos pos gpos px : Pos} {x : Str} {elt iter : Expr} {scope : Scope}
    (hbase : attributeBase sepE "join" c.env (eval sepE c.env) = eval sepE c.env) (hline : (apos.endLine == pos.line) = true) (hsep : Ev c ρ b sepE (.str sep)) (l : List Str) (gf : Str → Str)
    (hiter : Ev c ρ true iter (.list (l.map .str))) (hlen : l.length ≤ sizeLine) (hcap : capOk c.env scope = true) (hco : scope.isCoroutine = false) (hcell : scope.names.all (fun p => p.2 != .cell) = true)
    (h0 : scope.names.lookup (".0" : Str) = some NameKind.local) (hx : scope.names.lookup x = some .local) (hkind : scope.kind = .function) (hs : ∀ x, genFold iter c.env x = pure x)
    (helt : GenElt c ρ scope x elt l gf) (hz : ((l.map gf).map (·.length)).sum + (l.map gf).length * sep.length ≤ sizeLine) :
    Ev c ρ b (.Call (.Attribute sepE "join" apos) [.GeneratorExp elt [⟨.Name x px, iter, [], 0⟩] scope gpos] [] pos) (.str (jn sep (l.map gf))) := .mk fun A T s ha st => by
  refine wpAny_Call_method hbase rfl hline PySem.F.plainAttrs_str PySem.F.slot_str_join PySem.F.type_str_join (hsep.use ha st fun v s₁ e₁ st₁ r => ⟨(rep_str_type _ _ _ r).1, (rep_str_type _ _ _ r).2, ?_⟩)
  simp only [Rep] at r
  obtain ⟨⟨tsep, rfl⟩, hsepz⟩ := r
  refine Calls.callWith_builtin rfl ?_
  refine Calls.evalArgs_plain (Calls.spliced_cons ?_)
  have hd := ha.depth
  have hh := ha.handled
  refine wpAny_GeneratorExp_walksQD hh hco (closureFor_eq hcap) (fun y hy q => by have := List.all_eq_true.mp hcell y hy; simp [q] at this) h0 hx hkind (by show A.depth < 1000; omega)
    (hiter.use ha st₁ fun xv s₂ e₂ st₂ r₂ => itr_of ok .list st₂ (r₂.weak fun a h => Cx.Q_iff.mpr h) fun it s₃ I fp wr Pv StI st₃ X => ⟨g.noLimit st₃.wd, ?_⟩) hs
  refine CG.run _ _ _ _ _ _ _ st₃.wd fun code h₄ tk₄ hk₄ hsz₄ e₄ => ?_
  have st₄ := st₃.ext e₄
  obtain ⟨bm, ob, hb1, hb2, hb3, hb4, hb5, hb6⟩ := BM
  have hbm : h₄.get? bm = some ob := st₄.wd.old bm ob hb3 (g.tb bm ob hb3 fun q => by
    rcases q with ⟨_, vs, e⟩
    rw [hb6] at e; cases e)
  have hgl : h₄.Ns mainGlobals mg := g.ns st₄.wd g.g
  rw [ok.glob]
  refine wpAny_builtinsFor hgl hb1 hb2 hbm hb4 hb5 hb6 ?_
  have limit₄ := g.noLimit st₄.wd
  have wrOld : ∀ a ∈ wr, s₂.heap.get? a = none := X.hwr
  have keep34 : ∀ a ∈ fp, ∀ o, s₃.heap.get? a = some o → h₄.get? a = some o := fun a hf o e => hk₄ a o (X.hfp a hf).1 e
  have W0 := X.walks A hh
  have st₄I : StI 0 h₄ := W0.frame _ _ _ X.start fun a hf o e => keep34 a hf o e
  have csw : cStatics ∉ wr := fun hm => by
    obtain ⟨mc, ⟨o, _, _, ho, _⟩, _⟩ := g.noLimit st₂.wd
    rw [wrOld _ hm] at ho; cases ho
  have items : ∀ i v, Pv i v → ∃ z t, l[i]? = some z ∧ v = .str z t ∧ z.length ≤ sizeLine := fun i v hv => by
    obtain ⟨d, h1, h2⟩ := X.items i v hv
    rw [List.getElem?_map] at h1
    cases hz : l[i]? with
    | none => rw [hz] at h1; cases h1
    | some z =>
      rw [hz] at h1; cases h1
      simp only [Rep] at h2
      obtain ⟨⟨t, rfl⟩, hl⟩ := h2
      exact ⟨z, t, rfl, rfl, hl⟩
  refine ⟨I, fp, wr, l.length, Pv, StI, fun _ => true, fun i y => ∃ z u, l[i]? = some z ∧ y = .str (gf z) u, X.hit, fun A' hA => by simpa using X.walks A' hA, st₄I, ?_, limit₄, csw, ?_, ?_⟩
  · intro a hf
    obtain ⟨o, ho⟩ := X.alive 0 _ st₄I a hf
    exact Heap.lt_size ho
  · intro href hhref
    refine ⟨fun A' E' i v s₅ m₅ hA' _ _ hP hn hm hk => wpAny_pure ⟨rfl, s₅.heap, s₅.toks, rfl, fun _ _ e => e⟩, fun A' E' i v s₅ m₅ hA' _ _ hP _ hn hm hk => ?_⟩
    obtain ⟨z, t, hz, rfl, hzl⟩ := items i v hP
    refine wpAny_mono (helt.run T s₃ st₃ h₄.objs.size code A' E' z t s₅ m₅ hA' hn hm (fun a v ⟨o, ho, hod⟩ => ?_) (List.mem_of_getElem? hz) hzl) (fun y s₆ ⟨⟨u, e⟩, q⟩ => ⟨⟨z, u, hz, e⟩, q⟩) fun _ _ e => e
    have h1 : h₄.get? a = some o := hk₄ a o (st₃.wd.notTb ho (not_codeLike_cell hod)) ho
    refine ⟨o, hk a (List.mem_range.mpr (Heap.lt_size h1)) (fun hw => ?_) o (hhref a o h1), hod⟩
    obtain ⟨_, _, hq⟩ := X.plain 0 _ st₄I a hw o h1
    rw [hod] at hq; cases hq
  · intro a h₅ tk gs hbare hgt hsz₅ hk₅ W hat
    refine Calls.spliced_nil ?_
    show wpAny _ A (call (.builtin "str.join") [.str sep tsep, .ref a]) _ _ _
    rw [passing_all] at W
    simp only [List.length_range] at W
    refine SC.joinGen W.in4_2 (fun i s' q => q.1.typeIs) hat ?_ List.mem_cons_self (fun j v ⟨i, _, z, u, _, e⟩ => ⟨gf z, u, e⟩) (fun s' lt hm hacc => ?_) hlen
    · intro a' ha'
      show a' < h₅.objs.size
      rw [hsz₅]
      have hgt' : h₄.objs.size < a := hgt
      rcases List.mem_cons.mp ha' with rfl | hb
      · exact Nat.lt_succ_self _
      · rcases List.mem_cons.mp hb with rfl | hb
        · exact Nat.lt_succ_of_lt hgt
        · exact Nat.lt_succ_of_lt (Nat.lt_trans (List.mem_range.mp hb) hgt')
    · have hl : lt.map (·.1) = l.map gf := by
        apply List.ext_getElem?
        intro j
        have hsz : lt.length = l.length := by simpa [strValues] using hacc.1
        by_cases hj : j < l.length
        · have hj' : j < lt.length := hsz ▸ hj
          obtain ⟨i, hi, z, u, hz', hv⟩ := hacc.2 j (.str lt[j].1 lt[j].2) (by simp [strValues, List.getElem?_eq_getElem hj'])
          rw [List.getElem?_range hj] at hi
          cases hi
          injection hv with h1 _
          rw [List.getElem?_map, List.getElem?_map, List.getElem?_eq_getElem hj', hz']
          simp [h1]
        · rw [List.getElem?_eq_none (by simpa [hsz] using Nat.le_of_not_lt hj), List.getElem?_eq_none (by simpa using Nat.le_of_not_lt hj)]
      rw [hl]
      refine ⟨joinOk_of hz, fun t' k => ?_⟩
      have kept : ∀ b o, h₄.get? b = some o → b ∉ wr → s'.heap.get? b = some o := fun b o e hw => hm.heap b o (fun q => by
        rcases List.mem_cons.mp q with q | q
        · have := Heap.lt_size e
          rw [q] at this; exact absurd this (Nat.lt_irrefl _)
        · exact hw q) (hk₅ b o e)
      have e25 : Ext c.G s₂ { s' with toks := k } := by
        refine ⟨fun b o e ht _ => kept b o (hk₄ b o ht (X.ext.keep b o e ht fun q => q)) (fun q => by rw [wrOld b q] at e; cases e), fun _ => ⟨fun b o e ht => ?_, ?_, fun b ht => ?_, ?_, ?_⟩⟩
        · have e2 := st₂.wd.old b o e ht
          exact kept b o (st₄.wd.old b o e ht) (fun q => by rw [wrOld b q] at e2; cases e2)
        · refine c.G.tabKeeps _ _ st₄.wd.tab fun b o e hc => kept b o e fun q => ?_
          exact (X.plain 0 _ st₄I b q o e).notCode hc
        · obtain ⟨o, e, hc⟩ := st₄.wd.tb b ht
          exact ⟨o, kept b o e fun q => (X.plain 0 _ st₄I b q o e).notCode hc, hc⟩
        · exact hm.os.trans st₄.wd.os
        · exact (AllBare.push st₄.wd.gens hbare).moved hm.gens
      refine ⟨e₁.trans (e₂.trans e25), ?_⟩
      simp only [Rep]
      rw [jn_eq]
      exact ⟨⟨t', rfl⟩, by rw [← jn_eq]; exact joinOk_length (joinOk_of hz)⟩
end
end Mine
end

section
open PySem PySem.W PyProof.Rows
open PySem.SeqAt
namespace Mine
section
variable {c : Cx} {ρ : Env1}

/-- a name of the generator's own -/
theorem gen_own {M : Model} {scope : Scope} {cl : List (Str × Addr)} {C : Addr} {code : Value} {bi : Addr} {env : Env} {x : Str} {pos : Pos} (hkind : scope.kind = .function) (hx : scope.names.lookup x = some .local) (hp : plainName x = true)
    {A : Around} {E : Value → Shared → Prop} {Q : Value → Shared → Prop} {s : Shared} {m : Str → Option Value} {v : Value} (hn : s.heap.Ns C m) (hm : m x = some v) (h : Q v s) : wpAny M A (eval (.Name x pos) (genEnv scope cl C code bi env)) Q E s :=
  wpAny_Name (wpAny_loadName_local (env := genEnv scope cl C code bi env) hkind hx hn hm h) (plainName_spec hp).2
/-- a name that it takes along -/
theorem gen_cap {scope : Scope} {C : Addr} {code : Value} {bi : Addr} {y : Str} {pos : Pos} {d : PV} (hkind : scope.kind = .function) (hy : scope.names.lookup y = some .free) (hyc : c.env.kindOf y = some .cell) (hp : plainName y = true)
    (hyo : c.own.contains y = false) (hd : ρ.lookup y = some d) {T : Own1} {s₀ : Shared} (st : St c ρ T s₀) {s : Shared} (hk : ∀ a v, s₀.heap.IsCell a v → s.heap.IsCell a v)
    {A : Around} {E : Value → Shared → Prop} {Q : Value → Shared → Prop} (h : ∀ v, Rep s₀.heap (c.Q T) d v → Q v s) : wpAny c.M A (eval (.Name y pos) (genEnv scope (closFrom c.env scope.names []) C code bi c.env)) Q E s := by
  obtain ⟨v, h1, _, h3⟩ := st.vars y d hd
  have r := h3 (fun q => by rw [List.contains_iff_mem.mpr q] at hyo; cases hyo)
  rcases h1 with ⟨k, _⟩ | ⟨_, a, ha, hc⟩
  · rw [hyc] at k; cases k
  · exact wpAny_Name (wpAny_loadName_free (env := genEnv scope (closFrom c.env scope.names []) C code bi c.env) hkind hy (closFrom_lookup ha _ _ (mem_of_lookup hy)) (hk a _ hc) (h v r) (plainName_spec hp).1) (plainName_spec hp).2

theorem GenElt_cut {scope : Scope} {x y : Str} {p1 p2 p3 p4 : Pos} {l : List Str} {n : Int} (hkind : scope.kind = .function) (hx : scope.names.lookup x = some .local) (hpx : plainName x = true) (hy : scope.names.lookup y = some .free)
    (hyc : c.env.kindOf y = some .cell) (hp : plainName y = true) (hyo : c.own.contains y = false) (hd : ρ.lookup y = some (.int n)) :
    GenElt c ρ scope x (.Subscript (.Name x p1) (.Slice (some (.Name y p2)) none none p3) p4) l (fun z => ssl z (some n) none) := .mk fun T s st C code A E z t s₂ m₂ hA hn hm hk hz hzl => by
  refine Subscript_ (gen_own hkind hx hpx hn hm ?_)
  show wpAny _ _ (do
    let l ← valueOrNone (evalOpt (some (.Name y p2)) _)
    let u ← holding [l] (valueOrNone (evalOpt none _))
    let st ← holding [l, u] (valueOrNone none)
    newFields "slice" [l, u, st]) _ _ _
  refine wpAny_bind ?_
  show wpAny _ _ (eval _ _) _ _ _
  refine gen_cap hkind hy hyc hp hyo hd st hk fun v r => ?_
  simp only [Rep] at r; obtain ⟨u, rfl⟩ := r
  refine wpAny_bind (wpAny_holding (wpAny_pure (wpAny_bind (wpAny_holding (wpAny_pure ?_)))))
  refine wpAny_newObj_type (T := "slice") (data := .fields #[partValue (some (n, u)), partValue none, .none]) ?_ (by show 3 ≤ sizeLine + 2; rw [sizeLine_is]; omega)
  refine tail_any (T := "str") (typeIs_str _ z t) F.slot_str_getitem.lookup ?_ rfl
  refine wpAny_getItem_str_slice (l := some (n, u)) (u := none) (st := none) ⟨_, Heap.get?_push_size _ rfl, rfl, rfl⟩ rfl ?_
  have hsz : (ssl z (some n) none).length ≤ sizeLine := Nat.le_trans (ssl_length _ _ _) hzl
  have ts := txt_slice z (some n) none
  unfold Txt.slice at ts
  unfold sliceMade slicePicked
  simp only [Option.map_none, Option.getD_none, Option.map_some]
  split
  · rename_i hh
    rw [if_pos hh] at ts
    exact ⟨⟨t, by rw [← ts]⟩, _, _, rfl, fun b o e => Heap.get?_push_of_some _ e⟩
  · rename_i hh
    rw [if_neg hh] at ts
    rw [ts]
    exact ⟨hsz, ⟨_, rfl⟩, _, _, rfl, fun b o e => Heap.get?_push_of_some _ e⟩

theorem GenElt_add {scope : Scope} {x y : Str} {p1 p2 p3 : Pos} {l : List Str} {n : Str} (hkind : scope.kind = .function) (hx : scope.names.lookup x = some .local) (hpx : plainName x = true) (hy : scope.names.lookup y = some .free)
    (hyc : c.env.kindOf y = some .cell) (hp : plainName y = true) (hyo : c.own.contains y = false) (hd : ρ.lookup y = some (.str n)) (hl : ∀ z ∈ l, n.length + z.length ≤ sizeLine) :
    GenElt c ρ scope x (.BinOp (.Name y p1) .Add (.Name x p2) p3) l (fun z => n ++ z) := .mk fun T s st C code A E z t s₂ m₂ hA hn hm hk hz hzl => by
  refine wpAny_BinOp (gen_cap hkind hy hyc hp hyo hd st hk fun v r => gen_own hkind hx hpx hn hm ?_)
  simp only [Rep] at r; obtain ⟨⟨u, rfl⟩, _⟩ := r
  exact add_str (fun t' tk => ⟨⟨_, rfl⟩, _, _, rfl, fun b o e => e⟩) (hl z hz)
end
end Mine
end

section
open PySem PySem.W PyProof.Rows
open PySem.SeqAt
namespace Mine

/-! ### what reformat_paragraph computes -/
noncomputable def isw (l : List Nat) : Bool := l.all white
noncomputable def indt (l : List Nat) : List Nat := l.take (lead blank l)
noncomputable def one (w : List Nat) (s : Option (List Nat)) : List (List Nat × Bool) := if w = [] then [] else [(w, match s with | none => false | some t => t != [32])]
noncomputable def prs (ws : List (List Nat)) : List (List Nat × Bool) := (List.range ((ws.length + 1) / 2)).flatMap fun i => one (ws.getD (2 * i) []) ws[2 * i + 1]?
noncomputable abbrev RSt := List (List Nat) × List Nat
noncomputable def brk (i1 : List Nat) (lim : Int) (st : RSt) (w : List Nat) : Bool := decide (lim < ((xt 8 0 (st.2 ++ w)).length : Nat)) && (st.2 != i1)
noncomputable def turn (i1 i2 : List Nat) (lim : Int) (st : RSt) (w : List Nat) : RSt := if brk i1 lim st w then (st.1 ++ [rstr white st.2], i2) else st
noncomputable def dbl (b : Bool) : List Nat := if b then [32] else []
noncomputable def put (i1 i2 : List Nat) (lim : Int) (st : RSt) (wd : List Nat × Bool) : RSt := ((turn i1 i2 lim st wd.1).1, (turn i1 i2 lim st wd.1).2 ++ wd.1 ++ [32] ++ dbl wd.2)
noncomputable def rowsOf (i1 i2 : List Nat) (lim : Int) (ls : List (List Nat)) (st : RSt) : RSt := (ls.flatMap fun l => prs (wsp l)).foldl (put i1 i2 lim) st
noncomputable def ind2 (i1 : List Nat) : List (List Nat) → List Nat
  | r :: _ => if isw r then i1 else indt r
  | [] => i1
noncomputable def jl : List (List Nat) → List Nat
  | [] => []
  | [x] => x
  | x :: y :: r => x ++ 10 :: jl (y :: r)
theorem jn_jl : ∀ ls : List (List Nat), jn (mkS [10]) (ls.map mkS) = mkS (jl ls)
  | [] => rfl
  | [x] => rfl
  | x :: y :: r => by
    have := jn_jl (y :: r)
    simp only [List.map_cons] at this ⊢
    rw [jn, this]
    apply Str_ext
    rw [Sl_append, Sl_append, List.append_assoc]
    rfl
noncomputable def rpSet (lines : List (List Nat)) (lim : Int) (r : List Nat) (more : List (List Nat)) : RSt :=
  rowsOf (indt r) (ind2 (indt r) more) lim ((r :: more).takeWhile fun l => !isw l) (lines.takeWhile isw, indt r)
noncomputable def rp (data : List Nat) (lim : Int) : List Nat :=
  match (spl 10 data).dropWhile isw with
  | [] => data
  | r :: more => jl ((rpSet (spl 10 data) lim r more).1 ++ [rstr white (rpSet (spl 10 data) lim r more).2] ++ (r :: more).dropWhile fun l => !isw l)

theorem prs_one (w : List Nat) : prs [w] = one w none := by simp [prs]
theorem prs_cons2 (w s : List Nat) (r : List (List Nat)) : prs (w :: s :: r) = one w (some s) ++ prs r := by
  unfold prs
  rw [show ((w :: s :: r).length + 1) / 2 = (r.length + 1) / 2 + 1 by simp; omega, List.range_succ_eq_map, List.flatMap_cons, List.flatMap_map]
  congr 1
noncomputable def sumw (ps : List (List Nat × Bool)) : Nat := (ps.map (·.1.length)).sum
theorem sumw_app (a b : List (List Nat × Bool)) : sumw (a ++ b) = sumw a + sumw b := by simp [sumw]
theorem sumw_one (w : List Nat) (s : Option (List Nat)) : sumw (one w s) = w.length := by
  unfold one
  split
  · rename_i h; subst h; rfl
  · simp [sumw]
theorem sumw_wsp : ∀ (n : Nat) (l : List Nat), l.length = n → sumw (prs (wsp l)) ≤ l.length := by
  intro n
  induction n using Nat.strongRecOn with
  | ind n ih =>
    intro l hl
    by_cases h : lead dark l = l.length
    · rw [wsp_end h, prs_one, sumw_one]; omega
    · have h1 := white_pos h
      have h2 := lead_le dark l
      rw [wsp_more h, prs_cons2, sumw_app, sumw_one, List.length_take]
      have := ih ((l.drop (lead dark l)).drop (lead white (l.drop (lead dark l)))).length (by rw [List.length_drop, List.length_drop]; omega) _ rfl
      rw [List.length_drop, List.length_drop] at this
      omega
theorem one_ne {w : List Nat} {s : Option (List Nat)} {p : List Nat × Bool} (h : p ∈ one w s) : p.1 ≠ [] := by
  unfold one at h
  split at h
  · cases h
  · rename_i hw
    simp at h; subst h; exact hw
theorem prs_ne {ws : List (List Nat)} {p : List Nat × Bool} (h : p ∈ prs ws) : p.1 ≠ [] := by
  unfold prs at h
  obtain ⟨i, _, h⟩ := List.mem_flatMap.mp h
  exact one_ne h
theorem len_sumw : ∀ {ps : List (List Nat × Bool)}, (∀ p ∈ ps, p.1 ≠ []) → ps.length ≤ sumw ps
  | [], _ => Nat.zero_le _
  | p :: r, h => by
    have := len_sumw (ps := r) fun q hq => h q (List.mem_cons_of_mem _ hq)
    have h1 : 1 ≤ p.1.length := by
      cases e : p.1 with
      | nil => exact absurd e (h p List.mem_cons_self)
      | cons => simp
    simp only [sumw, List.map_cons, List.sum_cons, List.length_cons] at *
    omega
theorem sum_spl (c : Nat) : ∀ l : List Nat, ((spl c l).map List.length).sum + (spl c l).length = l.length + 1
  | [] => by simp [spl]
  | x :: r => by
    have := sum_spl c r
    rw [spl]
    split
    · simp at *; omega
    · split
      · rename_i h; exact absurd h (spl_ne c r)
      · rename_i h; rw [h] at this; simp at *; omega

theorem turn_p (i1 i2 : List Nat) (lim : Int) (st : RSt) (w : List Nat) : (turn i1 i2 lim st w).2.length ≤ max st.2.length i2.length := by
  unfold turn; split
  · exact Nat.le_max_right _ _
  · exact Nat.le_max_left _ _
theorem put_p (i1 i2 : List Nat) (lim : Int) : ∀ (ps : List (List Nat × Bool)) (st : RSt), (ps.foldl (put i1 i2 lim) st).2.length ≤ max st.2.length i2.length + (sumw ps + 2 * ps.length)
  | [], st => by simp only [List.foldl_nil]; have := Nat.le_max_left st.2.length i2.length; omega
  | p :: r, st => by
    rw [List.foldl_cons]
    have h1 := put_p i1 i2 lim r (put i1 i2 lim st p)
    have h2 := turn_p i1 i2 lim st p.1
    have h3 : (put i1 i2 lim st p).2.length ≤ max st.2.length i2.length + p.1.length + 2 := by
      unfold put dbl
      simp only [List.length_append]
      split <;> simp <;> omega
    have h4 : sumw (p :: r) = p.1.length + sumw r := rfl
    simp only [List.length_cons]
    omega
theorem put_n (i1 i2 : List Nat) (lim : Int) : ∀ (ps : List (List Nat × Bool)) (st : RSt), (ps.foldl (put i1 i2 lim) st).1.length ≤ st.1.length + ps.length
  | [], st => by simp
  | p :: r, st => by
    rw [List.foldl_cons]
    have h1 := put_n i1 i2 lim r (put i1 i2 lim st p)
    have h3 : (put i1 i2 lim st p).1.length ≤ st.1.length + 1 := by
      unfold put turn
      simp only
      split <;> simp
    simp only [List.length_cons]
    omega
noncomputable def sumL (ls : List (List Nat)) : Nat := (ls.map List.length).sum
theorem sumL_app (a b : List (List Nat)) : sumL (a ++ b) = sumL a + sumL b := by simp [sumL]
theorem put_all (i1 i2 : List Nat) (lim : Int) : ∀ (ps : List (List Nat × Bool)) (st : RSt), sumL (ps.foldl (put i1 i2 lim) st).1 + (ps.foldl (put i1 i2 lim) st).2.length ≤ sumL st.1 + st.2.length + sumw ps + (2 + i2.length) * ps.length
  | [], st => by simp [sumw]
  | p :: r, st => by
    rw [List.foldl_cons]
    have h1 := put_all i1 i2 lim r (put i1 i2 lim st p)
    have h3 : sumL (put i1 i2 lim st p).1 + (put i1 i2 lim st p).2.length ≤ sumL st.1 + st.2.length + p.1.length + 2 + i2.length := by
      have := rstr_len white st.2
      unfold put turn dbl
      simp only
      split <;> split <;> simp [sumL] <;> omega
    have h4 : sumw (p :: r) = p.1.length + sumw r := rfl
    have h5 : (2 + i2.length) * (p :: r).length = (2 + i2.length) * r.length + (2 + i2.length) := by rw [List.length_cons, Nat.mul_add, Nat.mul_one]
    omega
theorem sumw_flat : ∀ (ls : List (List Nat)), sumw (ls.flatMap fun l => prs (wsp l)) ≤ sumL ls
  | [] => by simp [sumw]
  | l :: r => by
    have := sumw_flat r
    have h := sumw_wsp _ l rfl
    rw [List.flatMap_cons, sumw_app]
    simp only [sumL, List.map_cons, List.sum_cons] at *
    omega
theorem flat_ne {ls : List (List Nat)} {p : List Nat × Bool} (h : p ∈ ls.flatMap fun l => prs (wsp l)) : p.1 ≠ [] := by
  obtain ⟨l, _, h⟩ := List.mem_flatMap.mp h
  exact prs_ne h
theorem sumL_le : ∀ {a b : List (List Nat)}, a.Sublist b → sumL a ≤ sumL b
  | _, _, .slnil => Nat.le_refl _
  | _, _, .cons x h => by have := sumL_le h; simp only [sumL, List.map_cons, List.sum_cons] at *; omega
  | _, _, .cons_cons x h => by have := sumL_le h; simp only [sumL, List.map_cons, List.sum_cons] at *; omega
theorem xt_le (k : Nat) (hk : 0 < k) : ∀ (l : List Nat) (col : Nat), (xt k col l).length ≤ k * l.length
  | [], _ => by simp [xt]
  | c :: r, col => by
    rw [xt]
    have hm : k * (c :: r).length = k * r.length + k := by rw [List.length_cons, Nat.mul_add, Nat.mul_one]
    split
    · have := xt_le k hk r (col + (k - col % k))
      rw [List.length_append, List.length_replicate, hm]
      omega
    · have := xt_le k hk r (if c == 10 || c == 13 then 0 else col + 1)
      rw [List.length_cons, hm]; omega
theorem sumL_mem : ∀ {ls : List (List Nat)} {l : List Nat}, l ∈ ls → l.length ≤ sumL ls
  | x :: r, l, h => by
    simp only [sumL, List.map_cons, List.sum_cons]
    rcases List.mem_cons.mp h with rfl | h
    · omega
    · have := sumL_mem h; simp only [sumL] at this; omega
theorem take_while_get {α : Type} {p : α → Bool} : ∀ {l : List α} {i : Nat} {a : α}, i < (l.takeWhile p).length → l[i]? = some a → p a = true
  | [], i, a, h, _ => by simp at h
  | x :: r, i, a, h, e => by
    by_cases hx : p x = true
    · rw [List.takeWhile_cons_of_pos hx] at h
      cases i with
      | zero => simp at e; subst e; exact hx
      | succ i => exact take_while_get (l := r) (by simpa using h) (by simpa using e)
    · rw [List.takeWhile_cons_of_neg hx] at h; simp at h
theorem take_while_end {α : Type} {p : α → Bool} : ∀ {l : List α} {a : α}, l[(l.takeWhile p).length]? = some a → p a = false
  | [], a, e => by simp at e
  | x :: r, a, e => by
    by_cases hx : p x = true
    · rw [List.takeWhile_cons_of_pos hx, List.length_cons] at e
      exact take_while_end (l := r) (by simpa using e)
    · rw [List.takeWhile_cons_of_neg hx] at e; simp at e; subst e; simpa using hx
theorem tw_drop {α : Type} (p : α → Bool) : ∀ l : List α, l.drop (l.takeWhile p).length = l.dropWhile p
  | [] => rfl
  | x :: r => by
    by_cases hx : p x = true
    · rw [List.takeWhile_cons_of_pos hx, List.dropWhile_cons_of_pos hx, List.length_cons, List.drop_succ_cons, tw_drop p r]
    · rw [List.takeWhile_cons_of_neg hx, List.dropWhile_cons_of_neg hx]; rfl
theorem tw_take {α : Type} (p : α → Bool) : ∀ l : List α, l.take (l.takeWhile p).length = l.takeWhile p
  | [] => rfl
  | x :: r => by
    by_cases hx : p x = true
    · rw [List.takeWhile_cons_of_pos hx, List.length_cons, List.take_succ_cons, tw_take p r]
    · rw [List.takeWhile_cons_of_neg hx]; rfl
theorem tw_len {α : Type} (p : α → Bool) (l : List α) : (l.takeWhile p).length ≤ l.length := (List.takeWhile_sublist p).length_le
end Mine
end

section
open PySem PySem.W PyProof.Rows
open PySem.SeqAt
namespace Mine
noncomputable abbrev SS (ls : List (List Nat)) : List PV := ls.map fun p => PV.str (mkS p)
theorem idx_nat {i n : Nat} (h : i < n) : idx (i : Int) n = some i := by
  unfold idx
  rw [if_neg (by omega), if_pos (by omega)]; rfl
theorem SS_get {ls : List (List Nat)} {i : Nat} {l : List Nat} (h : ls[i]? = some l) : (SS ls)[i]? = some (.str (mkS l)) := by simp [SS, h]
theorem BiOk_joinL {G : Wo} {c : List Nat} {ls : List (List Nat)} (h : sumL ls + ls.length * c.length ≤ sizeLine) : BiOk G (.builtin "str.join") [.str (mkS c), .list (SS ls)] (.str (jn (mkS c) (ls.map mkS))) := by
  have := BiOk_join (G := G) (sep := mkS c) (xs := ls.map mkS) (by
    rw [List.map_map, List.length_map]
    have e : ((fun x : Str => x.length) ∘ mkS) = List.length := by funext l; simp [Str.length]
    rw [e]
    simpa [sumL, Str.length] using h)
  rwa [List.map_map] at this
theorem BiOk_joinN {G : Wo} {ls : List (List Nat)} (h : sumL ls + ls.length ≤ sizeLine) : BiOk G (.builtin "str.join") [.str (mkS [10]), .list (SS ls)] (.str (mkS (jl ls))) := by
  rw [← jn_jl]; exact BiOk_joinL (by simpa using h)
noncomputable def pre (ws : List (List Nat)) (i : Nat) : List (List Nat × Bool) := (List.range i).flatMap fun i => one (ws.getD (2 * i) []) ws[2 * i + 1]?
theorem pre_all (ws : List (List Nat)) : pre ws ((ws.length + 1) / 2) = prs ws := rfl
theorem pre_succ (ws : List (List Nat)) (i : Nat) : pre ws (i + 1) = pre ws i ++ one (ws.getD (2 * i) []) ws[2 * i + 1]? := by
  unfold pre; rw [List.range_succ, List.flatMap_append]; simp
theorem pre_le (ws : List (List Nat)) {i : Nat} : ∀ {n : Nat}, i ≤ n → ∃ r, pre ws n = pre ws i ++ r
  | 0, h => ⟨[], by rw [show i = 0 by omega]; simp⟩
  | n + 1, h => by
    by_cases e : i = n + 1
    · exact ⟨[], by rw [e]; simp⟩
    · obtain ⟨r, hr⟩ := pre_le ws (i := i) (n := n) (by omega)
      exact ⟨r ++ one (ws.getD (2 * n) []) ws[2 * n + 1]?, by rw [pre_succ, hr, List.append_assoc]⟩
theorem pre_sum {l : List Nat} {i : Nat} (h : i ≤ ((wsp l).length + 1) / 2) : sumw (pre (wsp l) i) ≤ l.length := by
  obtain ⟨r, hr⟩ := pre_le (wsp l) h
  have := sumw_wsp _ l rfl
  rw [← pre_all, hr, sumw_app] at this
  omega
theorem pre_ne {ws : List (List Nat)} {i : Nat} {p : List Nat × Bool} (h : p ∈ pre ws i) : p.1 ≠ [] := by
  obtain ⟨j, _, h⟩ := List.mem_flatMap.mp h
  exact one_ne h
theorem wsp_count : ∀ (n : Nat) (l : List Nat), l.length = n → (wsp l).length ≤ 2 * l.length + 1 ∧ (wsp l).length % 2 = 1 := by
  intro n
  induction n using Nat.strongRecOn with
  | ind n ih =>
    intro l hl
    by_cases h : lead dark l = l.length
    · rw [wsp_end h]; simp
    · have h1 := white_pos h
      have h2 := lead_le dark l
      rw [wsp_more h]
      have := ih ((l.drop (lead dark l)).drop (lead white (l.drop (lead dark l)))).length (by rw [List.length_drop, List.length_drop]; omega) _ rfl
      simp only [List.length_cons, List.length_drop] at *
      omega
theorem wsp_part {l p : List Nat} (h : p ∈ wsp l) : p.length ≤ l.length := wsp_len _ rfl h

/-- sizes on the way -/
theorem row_p {i1 i2 : List Nat} {lim : Int} {ls : List (List Nat)} {st : RSt} {ps : List (List Nat × Bool)} {D : Nat} (h1 : st.2.length ≤ D) (h2 : i2.length ≤ D) (h3 : sumL ls ≤ D) (h4 : sumw ps ≤ D) (h5 : ∀ p ∈ ps, p.1 ≠ []) :
    (ps.foldl (put i1 i2 lim) (rowsOf i1 i2 lim ls st)).2.length ≤ 7 * D := by
  have a := put_p i1 i2 lim ps (rowsOf i1 i2 lim ls st)
  have b := put_p i1 i2 lim (ls.flatMap fun l => prs (wsp l)) st
  have c := sumw_flat ls
  have d := len_sumw (ps := ls.flatMap fun l => prs (wsp l)) fun p => flat_ne
  have e := len_sumw h5
  have f : rowsOf i1 i2 lim ls st = (ls.flatMap fun l => prs (wsp l)).foldl (put i1 i2 lim) st := rfl
  rw [← f] at b
  have g : max (rowsOf i1 i2 lim ls st).2.length i2.length ≤ 4 * D := by omega
  omega
theorem row_n {i1 i2 : List Nat} {lim : Int} {ls : List (List Nat)} {st : RSt} {ps : List (List Nat × Bool)} {D : Nat} (h1 : st.1.length ≤ D) (h3 : sumL ls ≤ D) (h4 : sumw ps ≤ D) (h5 : ∀ p ∈ ps, p.1 ≠ []) :
    (ps.foldl (put i1 i2 lim) (rowsOf i1 i2 lim ls st)).1.length ≤ 3 * D := by
  have a := put_n i1 i2 lim ps (rowsOf i1 i2 lim ls st)
  have b := put_n i1 i2 lim (ls.flatMap fun l => prs (wsp l)) st
  have c := sumw_flat ls
  have d := len_sumw (ps := ls.flatMap fun l => prs (wsp l)) fun p => flat_ne
  have e := len_sumw h5
  have f : rowsOf i1 i2 lim ls st = (ls.flatMap fun l => prs (wsp l)).foldl (put i1 i2 lim) st := rfl
  rw [← f] at b
  omega
theorem row_all {i1 i2 : List Nat} {lim : Int} {ls : List (List Nat)} {st : RSt} {D I : Nat} (h2 : i2.length ≤ I) (h3 : sumL ls ≤ D) :
    sumL (rowsOf i1 i2 lim ls st).1 + (rowsOf i1 i2 lim ls st).2.length ≤ sumL st.1 + st.2.length + D + (2 + I) * D := by
  have b := put_all i1 i2 lim (ls.flatMap fun l => prs (wsp l)) st
  have c := sumw_flat ls
  have d := len_sumw (ps := ls.flatMap fun l => prs (wsp l)) fun p => flat_ne
  have f : rowsOf i1 i2 lim ls st = (ls.flatMap fun l => prs (wsp l)).foldl (put i1 i2 lim) st := rfl
  rw [← f] at b
  have e : (2 + i2.length) * (ls.flatMap fun l => prs (wsp l)).length ≤ (2 + I) * D := Nat.mul_le_mul (by omega) (by omega)
  omega
theorem rowsOf_snoc {i1 i2 : List Nat} {lim : Int} {st : RSt} {ls : List (List Nat)} {l : List Nat} : rowsOf i1 i2 lim (ls ++ [l]) st = (prs (wsp l)).foldl (put i1 i2 lim) (rowsOf i1 i2 lim ls st) := by
  unfold rowsOf
  rw [List.flatMap_append, List.foldl_append]; simp

noncomputable def rpG (ds : List PV) (d : PV) : Prop := ∃ (y : List Nat) (lim : Int) (M : Nat), ds = [.str (mkS y), .int lim] ∧ y.length ≤ 50000 ∧ M ≤ 50000 ∧ (∀ l ∈ spl 10 y, isw l = false → lead blank l ≤ M) ∧ (M + 5) * (y.length + 1) ≤ 12000000 ∧ d = .str (mkS (rp y lim))
theorem Fn.of {G : Wo} {k : Nat} {fa : Addr} {f f' : List PV → PV → Prop} (F : Fn G k fa f) (h : ∀ ds d, f' ds d → f ds d) : Fn G k fa f' := .mk fun A s P vs ds d a1 a2 a3 a4 a5 => F.run A s P vs ds d a1 a2 a3 a4 (h ds d a5)
theorem line_le {y l : List Nat} (h : l ∈ spl 10 y) : l.length ≤ y.length := (spl_parts h).1
theorem rangeSize2 {n : Nat} : (Builtin.Range.rangeSize 0 (n : Int) 2).toNat = (n + 1) / 2 := by
  unfold Builtin.Range.rangeSize
  simp only [show (0 : Int) < 2 by decide, if_true]
  split <;> omega
theorem small_two {n : Nat} (h : n < 1000000) : Builtin.Range.small 0 (n : Int) 2 = true := by
  have hs : Builtin.Range.rangeSize 0 (n : Int) 2 = ((n + 1) / 2 : Nat) := by
    have := @rangeSize2 n
    have h0 : 0 ≤ Builtin.Range.rangeSize 0 (n : Int) 2 := by
      unfold Builtin.Range.rangeSize
      simp only [show (0 : Int) < 2 by decide, if_true]
      split <;> omega
    omega
  have fit : ∀ i : Int, -1000001 ≤ i → i ≤ 1000001 → Builtin.Range.rangeFitsLong i = true := fun i h1 h2 => by
    unfold Builtin.Range.rangeFitsLong
    have e : (2 : Int) ^ 63 = 9223372036854775808 := rfl
    rw [e, Bool.and_eq_true]
    exact ⟨decide_eq_true (by omega), decide_eq_true (by omega)⟩
  unfold Builtin.Range.small
  rw [hs, if_pos (by decide), fit 0 (by omega) (by omega), fit n (by omega) (by omega), fit 2 (by omega) (by omega), fit _ (by omega) (by omega), fit (n + (2 - 1)) (by omega) (by omega)]
  simp
theorem range2_get {n i : Nat} {d : PV} (h : (rangeL 0 (n : Int) 2)[i]? = some d) : i < (n + 1) / 2 ∧ d = .int ((2 * i : Nat) : Int) := by
  unfold rangeL at h
  rw [rangeSize2] at h
  obtain ⟨h1, rfl⟩ := range_get h
  exact ⟨h1, by congr 1; push_cast; omega⟩
end Mine
end

section
open PySem PySem.W PyProof.Rows
open PySem.SeqAt
namespace Mine

theorem jl_cons {x : List Nat} {r : List (List Nat)} (h : r ≠ []) : jl (x :: r) = x ++ 10 :: jl r := by
  cases r with
  | nil => exact absurd rfl h
  | cons y r => rfl
theorem spl_jl : ∀ {ls : List (List Nat)}, ls ≠ [] → (∀ l ∈ ls, 10 ∉ l) → spl 10 (jl ls) = ls
  | [], h, _ => absurd rfl h
  | [x], _, h => spl_free (h x List.mem_cons_self)
  | x :: y :: r, _, h => by
    rw [jl_cons (by simp), spl_app (h x List.mem_cons_self), spl_jl (by simp) fun l hl => h l (List.mem_cons_of_mem _ hl)]
theorem jl_spl : ∀ y : List Nat, jl (spl 10 y) = y
  | [] => rfl
  | c :: r => by
    have ih := jl_spl r
    rw [spl]
    split
    · rename_i h; rw [jl_cons (spl_ne 10 r), ih, h]; rfl
    · split
      · rename_i h; exact absurd h (spl_ne 10 r)
      · rename_i p q h
        rw [h] at ih
        cases q with
        | nil => simp only [jl] at ih ⊢; rw [ih]
        | cons z t =>
          rw [jl_cons (by simp)] at ih ⊢
          rw [← ih]; rfl
theorem jl_len : ∀ ls : List (List Nat), (jl ls).length ≤ sumL ls + ls.length
  | [] => by simp [jl]
  | [x] => by simp [jl, sumL]
  | x :: y :: r => by
    have := jl_len (y :: r)
    rw [jl_cons (by simp), List.length_append, List.length_cons]
    simp only [sumL, List.map_cons, List.sum_cons, List.length_cons] at *
    omega
theorem spl_no {y l : List Nat} (h : l ∈ spl 10 y) : 10 ∉ l := (spl_parts h).2

noncomputable def rpR (lines : List (List Nat)) (lim : Int) : List (List Nat) :=
  match lines.dropWhile isw with
  | [] => lines
  | r :: more => (rpSet lines lim r more).1 ++ [rstr white (rpSet lines lim r more).2] ++ (r :: more).dropWhile fun l => !isw l
theorem rp_rows (y : List Nat) (lim : Int) : rp y lim = jl (rpR (spl 10 y) lim) := by
  unfold rp rpR
  cases (spl 10 y).dropWhile isw with
  | nil => exact (jl_spl y).symm
  | cons r more => rfl

theorem wsp_mem : ∀ (n : Nat) {l p : List Nat}, l.length = n → p ∈ wsp l → ∀ c ∈ p, c ∈ l := by
  intro n
  induction n using Nat.strongRecOn with
  | ind n ih =>
    intro l p hl hp c hc
    by_cases h : lead dark l = l.length
    · rw [wsp_end h] at hp; simp at hp; subst hp; exact hc
    · have h1 := white_pos h
      have h2 := lead_le dark l
      rw [wsp_more h] at hp
      rcases List.mem_cons.mp hp with rfl | hp
      · exact List.mem_of_mem_take hc
      · rcases List.mem_cons.mp hp with rfl | hp
        · exact List.mem_of_mem_drop (List.mem_of_mem_take hc)
        · exact List.mem_of_mem_drop (List.mem_of_mem_drop (ih _ (by rw [List.length_drop, List.length_drop]; omega) rfl hp c hc))
theorem prs_mem {ws : List (List Nat)} {p : List Nat × Bool} (h : p ∈ prs ws) : p.1 ∈ ws := by
  obtain ⟨i, hi, h⟩ := List.mem_flatMap.mp h
  rw [List.mem_range] at hi
  unfold one at h
  split at h
  · cases h
  · simp at h; subst h
    have : 2 * i < ws.length := by omega
    simp [List.getElem?_eq_getElem this]
theorem rstr_mem {p : Nat → Bool} {l : List Nat} {c : Nat} (h : c ∈ rstr p l) : c ∈ l := by
  unfold rstr at h
  rw [List.mem_reverse] at h
  have := List.dropWhile_sublist p |>.subset h
  simpa using this

/-- signs that are in no row -/
theorem put_no {z : Nat} (hz : z ≠ 32) {i1 i2 : List Nat} {lim : Int} (h2 : z ∉ i2) : ∀ (ps : List (List Nat × Bool)) (st : RSt), (∀ p ∈ ps, z ∉ p.1) → (∀ l ∈ st.1, z ∉ l) → z ∉ st.2 →
    (∀ l ∈ (ps.foldl (put i1 i2 lim) st).1, z ∉ l) ∧ z ∉ (ps.foldl (put i1 i2 lim) st).2
  | [], st, _, ha, hb => ⟨ha, hb⟩
  | p :: r, st, hp, ha, hb => by
    rw [List.foldl_cons]
    have hw := hp p List.mem_cons_self
    have ht : (∀ l ∈ (turn i1 i2 lim st p.1).1, z ∉ l) ∧ z ∉ (turn i1 i2 lim st p.1).2 := by
      unfold turn
      split
      · refine ⟨fun l hl => ?_, h2⟩
        rcases List.mem_append.mp hl with hl | hl
        · exact ha l hl
        · simp at hl; subst hl; exact fun h => hb (rstr_mem h)
      · exact ⟨ha, hb⟩
    refine put_no hz h2 r _ (fun q hq => hp q (List.mem_cons_of_mem _ hq)) ht.1 ?_
    unfold put dbl
    simp only [List.mem_append, not_or]
    refine ⟨⟨⟨ht.2, hw⟩, by simp [hz]⟩, ?_⟩
    split <;> simp [hz]
theorem rpR_no {z : Nat} (hz : z ≠ 32) {L : List (List Nat)} {lim : Int} (h : ∀ l ∈ L, z ∉ l) : ∀ l ∈ rpR L lim, z ∉ l := by
  unfold rpR
  split
  · exact h
  · rename_i r more e
    have hs : ∀ l ∈ (r :: more), z ∉ l := fun l hl => h l ((List.dropWhile_sublist isw).subset (by rw [e]; exact hl))
    have hi : ∀ l ∈ (r :: more), z ∉ indt l := fun l hl q => hs l hl (List.mem_of_mem_take q)
    have hr := hi r List.mem_cons_self
    have h2 : z ∉ ind2 (indt r) more := by
      cases more with
      | nil => exact hr
      | cons q t =>
        show z ∉ if isw q = true then indt r else indt q
        split
        · exact hr
        · exact hi q (by simp)
    have := put_no hz (i1 := indt r) (lim := lim) h2 (((r :: more).takeWhile fun l => !isw l).flatMap fun l => prs (wsp l)) (L.takeWhile isw, indt r) (fun p hp q => by
      obtain ⟨l, hl, hp⟩ := List.mem_flatMap.mp hp
      exact hs l ((List.takeWhile_sublist _).subset hl) (wsp_mem _ rfl (prs_mem hp) _ q)) (fun l hl => h l ((List.takeWhile_sublist _).subset hl)) hr
    intro l hl
    rcases List.mem_append.mp hl with hl | hl
    · rcases List.mem_append.mp hl with hl | hl
      · exact this.1 l hl
      · simp at hl; subst hl; exact fun q => this.2 (rstr_mem q)
    · exact hs l ((List.dropWhile_sublist _).subset hl)
theorem rpR_ne {L : List (List Nat)} {lim : Int} (h : L ≠ []) : rpR L lim ≠ [] := by
  unfold rpR
  split
  · exact h
  · simp
theorem spl_rp (y : List Nat) (lim : Int) : spl 10 (rp y lim) = rpR (spl 10 y) lim := by
  rw [rp_rows, spl_jl (rpR_ne (spl_ne 10 y)) (rpR_no (by decide) fun l hl => spl_no hl)]
theorem sumL_nil : sumL [] = 0 := rfl
theorem sumL_cons (x : List Nat) (r : List (List Nat)) : sumL (x :: r) = x.length + sumL r := rfl
theorem split_sum {p : List Nat → Bool} : ∀ l : List (List Nat), sumL (l.takeWhile p) + sumL (l.dropWhile p) = sumL l ∧ (l.takeWhile p).length + (l.dropWhile p).length = l.length
  | [] => by simp [sumL_nil]
  | x :: r => by
    have := split_sum (p := p) r
    by_cases h : p x = true
    · rw [List.takeWhile_cons_of_pos h, List.dropWhile_cons_of_pos h]; simp only [sumL_cons, List.length_cons]; omega
    · rw [List.takeWhile_cons_of_neg h, List.dropWhile_cons_of_neg h]; simp [sumL_nil]
theorem rpR_len {L : List (List Nat)} {lim : Int} : (rpR L lim).length ≤ L.length + sumL L + 1 := by
  unfold rpR
  split
  · omega
  · rename_i r more e
    have h1 := put_n (indt r) (ind2 (indt r) more) lim (((r :: more).takeWhile fun l => !isw l).flatMap fun l => prs (wsp l)) (L.takeWhile isw, indt r)
    have h2 := sumw_flat ((r :: more).takeWhile fun l => !isw l)
    have h3 := len_sumw (ps := ((r :: more).takeWhile fun l => !isw l).flatMap fun l => prs (wsp l)) fun p => flat_ne
    have h4 := split_sum (p := isw) L
    have h5 := split_sum (p := fun l => !isw l) (r :: more)
    rw [e] at h4
    have h6 : (rpSet L lim r more).1.length ≤ (L.takeWhile isw).length + (((r :: more).takeWhile fun l => !isw l).flatMap fun l => prs (wsp l)).length := h1
    simp only [List.length_append, List.length_cons, List.length_nil] at *
    omega
theorem rpR_sumM {L : List (List Nat)} {lim : Int} {D M : Nat} (hD : sumL L ≤ D) (hM : ∀ l ∈ L, isw l = false → lead blank l ≤ M) : sumL (rpR L lim) ≤ 3 * D + (2 + M) * D := by
  unfold rpR
  split
  · have : 0 ≤ (2 + M) * D := Nat.zero_le _
    omega
  · rename_i r more e
    have h4 := split_sum (p := isw) L
    have h5 := split_sum (p := fun l => !isw l) (r :: more)
    have hsub : ∀ l ∈ r :: more, l ∈ L := fun l hl => (List.dropWhile_sublist isw).subset (by rw [e]; exact hl)
    have hr : isw r = false := by
      have h' := List.head?_dropWhile_not isw L
      rw [e] at h'
      simpa using h'
    rw [e] at h4
    have hi1 : (indt r).length ≤ M := by have := hM r (hsub r List.mem_cons_self) hr; unfold indt; rw [List.length_take]; omega
    have hi2 : (ind2 (indt r) more).length ≤ M := by
      cases more with
      | nil => exact hi1
      | cons q t =>
        show (if isw q = true then indt r else indt q).length ≤ M
        split
        · exact hi1
        · rename_i hq
          have := hM q (hsub q (by simp)) (by simpa using hq)
          unfold indt; rw [List.length_take]; omega
    have h1 := row_all (i1 := indt r) (i2 := ind2 (indt r) more) (lim := lim) (ls := (r :: more).takeWhile fun l => !isw l) (st := (L.takeWhile isw, indt r)) (D := D) (I := M) hi2 (by omega)
    have h6 : (indt r).length ≤ r.length := by unfold indt; rw [List.length_take]; omega
    have h7 := rstr_len white (rpSet L lim r more).2
    have h8 : sumL (rpSet L lim r more).1 + (rpSet L lim r more).2.length ≤ sumL (L.takeWhile isw) + (indt r).length + D + (2 + M) * D := h1
    have h9 : sumL (r :: more) = r.length + sumL more := rfl
    rw [sumL_app, sumL_app, show sumL [rstr white (rpSet L lim r more).2] = (rstr white (rpSet L lim r more).2).length from by simp [sumL]]
    omega

/-! ### what reformat_comment computes -/
noncomputable def cut (k : Nat) (data : List Nat) : List Nat := jl ((spl 10 data).map (List.drop k))
noncomputable def wid (lim : Int) (h : List Nat) : Int := max (lim - (h.length : Nat)) 20
noncomputable def under (h : List Nat) (ls : List (List Nat)) : List Nat := jl (ls.map (h ++ ·))
/-- the rows that it sets -/
noncomputable def rcR (data : List Nat) (lim : Int) (h : List Nat) : List (List Nat) := rpR ((spl 10 data).map (List.drop h.length)) (wid lim h)
noncomputable def rcOf (h : List Nat) (nd : List (List Nat)) : List Nat := if nd.getLast? = some [] then under h nd.dropLast ++ [10] else under h nd
noncomputable def rc (data : List Nat) (lim : Int) (h : List Nat) : List Nat := rcOf h (rcR data lim h)
noncomputable def rcF (ds : List PV) (d : PV) : Prop := ∃ (y : List Nat) (lim : Int) (h : List Nat), ds = [.str (mkS y), .int lim, .str (mkS h)] ∧ y.length ≤ 3000 ∧ h.length ≤ 200 ∧ d = .str (mkS (rc y lim h))
theorem drop_no {k : Nat} {y : List Nat} : ∀ l ∈ (spl 10 y).map (List.drop k), 10 ∉ l := fun l hl => by
  obtain ⟨p, hp, rfl⟩ := List.mem_map.mp hl
  exact fun q => spl_no hp (List.mem_of_mem_drop q)
theorem spl_cut (k : Nat) (y : List Nat) : spl 10 (cut k y) = (spl 10 y).map (List.drop k) := spl_jl (by simp [spl_ne]) drop_no
theorem sumL_map_drop (k : Nat) : ∀ ls : List (List Nat), sumL (ls.map (List.drop k)) ≤ sumL ls
  | [] => Nat.le_refl _
  | x :: r => by have := sumL_map_drop k r; simp only [List.map_cons, sumL_cons, List.length_drop]; omega
theorem cut_len (k : Nat) (y : List Nat) : (cut k y).length ≤ y.length := by
  have h1 := sum_spl 10 (cut k y)
  have h2 := sum_spl 10 y
  rw [spl_cut] at h1
  have h3 := sumL_map_drop k (spl 10 y)
  simp only [sumL, List.length_map] at *
  omega
theorem sumL_under (h : List Nat) : ∀ ls : List (List Nat), sumL (ls.map (h ++ ·)) = sumL ls + ls.length * h.length
  | [] => by simp [sumL]
  | x :: r => by
    have := sumL_under h r
    simp only [List.map_cons, sumL_cons, List.length_append, List.length_cons, Nat.add_mul, Nat.one_mul] at *
    omega
theorem ssl_drop (y : List Nat) (k : Nat) : ssl (mkS y) (some (k : Int)) none = mkS (y.drop k) := by unfold ssl; rw [lsl_from]
theorem cut_jn (k : Nat) (y : List Nat) : jn (mkS [10]) (((spl 10 y).map mkS).map fun z => ssl z (some (k : Int)) none) = mkS (cut k y) := by
  unfold cut
  rw [← jn_jl, List.map_map, List.map_map]
  congr 1
  apply List.map_congr_left
  intro l _
  exact ssl_drop l k
noncomputable def rcG (ds : List PV) (d : PV) : Prop := ∃ (y : List Nat) (lim : Int) (h : List Nat) (M : Nat), ds = [.str (mkS y), .int lim, .str (mkS h)] ∧ y.length ≤ 10000000 ∧ (cut h.length y).length ≤ 50000 ∧ M ≤ 50000 ∧ (∀ l ∈ (spl 10 y).map (List.drop h.length), isw l = false → lead blank l ≤ M) ∧
  (M + 5) * ((cut h.length y).length + 1) ≤ 12000000 ∧ (M + 5) * ((cut h.length y).length + 1) + ((cut h.length y).length + 2) * (h.length + 1) ≤ 16000000 ∧ d = .str (mkS (rc y lim h))
theorem rcF_G {ds : List PV} {d : PV} (q : rcF ds d) : rcG ds d := by
  obtain ⟨y, lim, h, h1, h2, hh, h3⟩ := q
  have hc := cut_len h.length y
  refine ⟨y, lim, h, (cut h.length y).length, h1, by omega, by omega, by omega, fun l hl _ => ?_, ?_, ?_, h3⟩
  · rw [← spl_cut] at hl
    exact Nat.le_trans (lead_le blank l) (line_le hl)
  · exact Nat.le_trans (Nat.mul_le_mul (show (cut h.length y).length + 5 ≤ 3005 by omega) (show (cut h.length y).length + 1 ≤ 3001 by omega)) (by decide)
  · exact Nat.le_trans (Nat.add_le_add (Nat.mul_le_mul (show (cut h.length y).length + 5 ≤ 3005 by omega) (show (cut h.length y).length + 1 ≤ 3001 by omega)) (Nat.mul_le_mul (show (cut h.length y).length + 2 ≤ 3002 by omega) (show h.length + 1 ≤ 201 by omega))) (by decide)
theorem mkS_app (a b : List Nat) : mkS a ++ mkS b = mkS (a ++ b) := Str_ext (Sl_append _ _)
theorem under_jn (h : List Nat) (ls : List (List Nat)) : jn (mkS [10]) ((ls.map mkS).map fun z => mkS h ++ z) = mkS (under h ls) := by
  unfold under
  rw [← jn_jl, List.map_map, List.map_map]
  congr 1
  apply List.map_congr_left
  intro l _
  exact mkS_app h l
theorem SS_strs (ls : List (List Nat)) : (ls.map mkS).map PV.str = SS ls := by rw [List.map_map]; rfl
theorem mkS_len (l : List Nat) : (mkS l).length = l.length := by rw [Str_len]
theorem sum_lensS (ls : List (List Nat)) : (((ls.map mkS)).map (·.length)).sum = sumL ls := by
  unfold sumL
  rw [List.map_map]
  congr 1
theorem BiOk_max2 {G : Wo} {a b : Int} : BiOk G (.builtin "max") [.int a, .int b] (.int (max a b)) := .mk fun A s P vs hh _ _ wd r₀ => by
  obtain ⟨v, u, rfl, r, r2⟩ := r₀.inv2
  simp only [Rep] at r r2; obtain ⟨t, rfl⟩ := r; obtain ⟨t', rfl⟩ := r2
  refine max_two_ints hh fun h' tk hk => ⟨Ext.of hk, ?_⟩
  simp only [Rep]
  split
  · exact ⟨t', by rw [show max a b = b by omega]⟩
  · exact ⟨t, by rw [show max a b = a by omega]⟩
theorem idx_last {n : Nat} (h : 0 < n) : idx (-1) n = some (n - 1) := by
  unfold idx
  rw [if_pos (by decide), if_pos (by omega)]
  congr 1; omega
theorem lsl_butlast {α : Type} (l : List α) : lsl l none (some (-1)) = l.dropLast := by
  unfold lsl clip
  simp only [show (-1 : Int) < 0 by decide, if_true, List.drop_zero, Nat.sub_zero]
  rw [List.dropLast_eq_take]
  congr 1; omega
end Mine
end

section
open PySem PySem.W PyProof.Rows
open PySem.SeqAt
namespace Mine
section
variable {c : Cx} {ρ : Env1} {b : Bool} {mg mb : Str → Option Value} {Q : PF → Env1 → Prop}

/-! ### lists that nothing else knows of -/
noncomputable def flats (ds : List PV) : Bool := ds.all PV.flat
theorem RepAll.flats {h h' : Heap} {P P' : Addr → Prop} : ∀ {ds : List PV} {vs : List Value}, flats ds = true → RepAll h P ds vs → RepAll h' P' ds vs
  | [], vs, _, r => by simpa only [RepAll] using r
  | d :: ds, vs, hf, r => by
    simp only [Mine.flats, List.all_cons, Bool.and_eq_true] at hf
    simp only [RepAll] at r ⊢
    obtain ⟨v, q, e, r1, r2⟩ := r
    exact ⟨v, q, e, r1.flat hf.1, RepAll.flats (ds := ds) hf.2 r2⟩
/-! ### a, b = .. -/
theorem Ex1_tuple {ts : List Expr} {k tpos pos} {e : Expr} {ds : List PV} {ρ' : Env1} (h : Ev c ρ true e (.tuple ds)) (ha' : AsgL c ts ds ρ ρ') (hq : Q .next ρ')
    (hs : swapsWithSole [.Tuple ts k tpos] e pos.line c.env = pure false) (hw : swappedStores [.Tuple ts k tpos] e c.env = pure none) : Ex1 c ρ (.Assign [.Tuple ts k tpos] e pos) Q := .mk fun A T s ha st => by
  refine Assign_Tuple (h.use ha st fun v s₁ e₁ st₁ r => ?_) hs hw
  refine wpAny_mono ((Asg_tuple ha').run A T s₁ v ha st₁ (r.weak fun _ q => Cx.Q_iff.mpr q)) (fun _ s₂ ⟨st₂, e₂⟩ => ?_) fun _ _ h => h.elim
  exact ⟨_, T, .next, st₂, (Ext.evo e₁).trans (e₂.weak fun _ => Cx.Xs_X), TGrow.refl, trivial, hq⟩

theorem bindL_use (ok : c.Ok) {A : Around} {T : Own1} (ha : AOk c.rk A) : ∀ (xs : List Str) (ds : List PV) (vs : List Value) (ρ : Env1) (s : Shared), St c ρ T s → RepAll s.heap (c.Q T) ds vs → xs.length = ds.length → (∀ x ∈ xs, storable c x = true ∧ c.own.contains x = false) →
    wpAny c.M A (assignInOrder (xs.map fun n => bindName c.env n) vs) (fun _ s' => St c ((xs.zip ds).reverse ++ ρ) T s' ∧ Evo c.G c.Xs s s') (fun _ _ => False) s
  | [], [], vs, ρ, s, st, r, _, _ => by
    simp only [RepAll] at r; subst r
    exact wpAny_pure ⟨st, Evo.refl⟩
  | x :: xs, d :: ds, vs, ρ, s, st, r, hl, hx => by
    simp only [RepAll] at r
    obtain ⟨v, rest, rfl, r1, r2⟩ := r
    have h1 := hx x List.mem_cons_self
    show wpAny _ _ (do holding rest (bindName c.env x v); assignInOrder _ rest) _ _ _
    refine wpAny_bind (wpAny_holding (bindName_ (st.store ok (storable_spec h1.1) (fun q => by rw [List.contains_iff_mem.mpr q] at h1; cases h1.2) r1 fun s₁ e₁ st₁ => ?_)))
    have := bindL_use ok ha xs ds rest ((x, d) :: ρ) s₁ st₁ (r2.evo st.wd e₁ (fun _ h q => Cx.Q_notX h (Cx.Xs_X q))) (by simpa using hl) fun y hy => hx y (List.mem_cons_of_mem _ hy)
    refine wpAny_mono this (fun _ s₂ ⟨st₂, e₂⟩ => ⟨?_, e₁.trans e₂⟩) fun _ _ h => h
    simpa using st₂
  | [], d :: ds, vs, ρ, s, st, r, hl, hx => by simp at hl
  | x :: xs, [], vs, ρ, s, st, r, hl, hx => by simp at hl
theorem RepAll.reverse {h : Heap} {P : Addr → Prop} : ∀ {ds : List PV} {vs : List Value}, RepAll h P ds vs → RepAll h P ds.reverse vs.reverse
  | [], vs, r => by simp only [RepAll] at r; subst r; exact RepAll.nil
  | d :: ds, vs, r => by
    simp only [RepAll] at r
    obtain ⟨v, q, rfl, r1, r2⟩ := r
    rw [List.reverse_cons, List.reverse_cons]
    exact (RepAll.reverse r2).snoc r1
theorem Ex1_swap (ok : c.Ok) {ts : List Expr} {k tpos pos} {e : Expr} {names : List Str} {ds : List PV} (h : Ev c ρ true e (.tuple ds)) (hn : names.length = ds.length) (hx : (names.reverse.all fun x => storable c x && !c.own.contains x) = true)
    (hq : Q .next ((names.reverse.zip ds.reverse).reverse ++ ρ))
    (hs : swapsWithSole [.Tuple ts k tpos] e pos.line c.env = pure false) (hw : swappedStores [.Tuple ts k tpos] e c.env = pure (some names)) : Ex1 c ρ (.Assign [.Tuple ts k tpos] e pos) Q := .mk fun A T s ha st => by
  refine Assign_Tuple_swapped (h.use ha st fun v s₁ e₁ st₁ r => ?_) hs hw
  simp only [Rep] at r
  obtain ⟨a, vs, n, rfl, hp, l, ra, z⟩ := r
  have hlen : vs.size = ds.length := by simpa using ra.length
  refine (hn.trans hlen.symm) ▸ unpackItems_tuple ha.handled (items := vs) ⟨_, l, rfl, n, rfl⟩ fun h' he => ?_
  have e2 := ext_new (c := c) he
  have ra' := (RepAll.reverse (ra.ext st₁.wd e2)).weak fun _ q => Cx.Q_iff.mpr q
  refine wpAny_mono (bindL_use ok ha names.reverse ds.reverse vs.toList.reverse ρ _ (st₁.ext e2) ra' (by simpa using hn) fun x hx' => ?_) (fun _ s₂ ⟨st₂, e₃⟩ => ?_) fun _ _ h => h.elim
  · have := List.all_eq_true.mp hx x hx'
    simpa using this
  · exact ⟨_, T, .next, st₂, (Ext.evo (e₁.trans e2)).trans (e₃.weak fun _ => Cx.Xs_X), TGrow.refl, trivial, hq⟩

/-! ### x = rows.pop() -/
/-! ### [x] * n, a ** n -/
end
end Mine
end

section
open PySem PySem.W PyProof.Rows
open PySem.SeqAt
namespace Mine
section
variable {c : Cx} {ρ : Env1} {T : Own1}

/-- the state with one list given up -/
theorem St.unown {s : Shared} (st : St c ρ T s) {x : Str} {a : Addr} (hT : T.lookup x = some a) {ρ' : Env1} (hρ : ∀ y d, ρ'.lookup y = some d → y ≠ x ∧ ρ.lookup y = some d) : St c ρ' (T.filter fun p => p.1 != x) s := by
  have hsub : ∀ p ∈ T.filter (fun p => p.1 != x), p ∈ T := fun p hp => (List.mem_filter.mp hp).1
  have hQ : ∀ b, c.Q T b → c.Q (T.filter fun p => p.1 != x) b := fun b h => ⟨h.1, fun p hp => h.2 p (hsub p hp)⟩
  have hlk : ∀ y, y ≠ x → (T.filter fun p => p.1 != x).lookup y = T.lookup y := by
    intro y hy
    clear hT hsub hQ st
    induction T with
    | nil => rfl
    | cons p r ih =>
      obtain ⟨k, v⟩ := p
      by_cases hk : k = x
      · subst hk
        rw [List.filter_cons_of_neg (by simp), ih, List.lookup_cons]
        have : (y == k) = false := by simpa using hy
        rw [this]
      · rw [List.filter_cons_of_pos (by simpa using hk), List.lookup_cons, List.lookup_cons, ih]
  refine ⟨st.wd, st.keep0, st.ns, st.mcs, fun y d hy => ?_, fun p hp => st.own p (hsub p hp), st.nodup.sublist List.filter_sublist, st.avs⟩
  obtain ⟨hne, hy'⟩ := hρ y d hy
  obtain ⟨v, h1, h2, h3⟩ := st.vars y d hy'
  refine ⟨v, h1, fun q => ?_, fun q => (h3 q).weak hQ⟩
  obtain ⟨a', ds, vs, n, e1, e2, e3, e4, e5, e6⟩ := h2 q
  exact ⟨a', ds, vs, n, e1, e2, by rw [hlk y hne]; exact e3, e4, e5.weak hQ, e6⟩

/-- a comprehension over a list of our own; what it makes is flat -/
theorem EvF_compOwn (ok : c.Ok) {x : Str} {px : Pos} {elt target : Expr} {ifs : List Expr} {scope : Scope} {pos : Pos} {ds : List PV} (hx : ρ.lookup x = some (.list ds)) (ho : c.own.contains x = true) (hp : plainName x = true) (hok : compOk c.env scope = true) {ρc : Env1}
    (hρ : CapEnv ρc ρ scope) (hnx : ρc.lookup x = none) (F : PV → Option PV)
    (turn : ∀ C d, d ∈ ds → (c.inner scope C).Ok → ∃ ρ', Asg (c.inner scope C) target d ρc ρ' ∧ SubEnv ρc ρ' ∧ CompRes (c.inner scope C) ρ' ifs elt (F d))
    (hf : flats (ds.filterMap F) = true) : EvF c ρ (.ListComp elt [⟨target, .Name x px, ifs, 0⟩] scope pos) (ds.filterMap F) := .mk fun A T s ha st => by
  obtain ⟨v, h1, h2, _⟩ := st.vars x _ hx
  obtain ⟨a, ds', vs, n, e1, rfl, e3, e4, e5, e6⟩ := h2 (List.contains_iff_mem.mp ho)
  cases e1
  have st' : St c ρc (T.filter fun p => p.1 != x) s := st.unown e3 fun y d hy => ⟨fun q => (by rw [q, hnx] at hy; cases hy), (hρ y d hy).1⟩
  have hQ : ∀ b, c.Q T b → c.Q (T.filter fun p => p.1 != x) b := fun b h => ⟨h.1, fun p hp => h.2 p (List.mem_filter.mp hp).1⟩
  have hQa : c.Q (T.filter fun p => p.1 != x) a := by
    have h3 := st.own _ (mem_of_lookup e3)
    have hne := St.own_ne st (mem_of_lookup e3)
    refine ⟨⟨ok.fresh a h3.1, hne.1, hne.2.1, hne.2.2⟩, fun p hp q => ?_⟩
    have hp' := List.mem_filter.mp hp
    have : p = (x, a) := by
      have nd := st.nodup
      have h4 := mem_of_lookup e3
      clear hp hρ hnx turn
      have key : ∀ {T : Own1}, (T.Pairwise fun p q => p.2 ≠ q.2) → ∀ {p q : Str × Addr}, p ∈ T → q ∈ T → p.2 = q.2 → p = q := fun {T} h => by
        induction T with
        | nil => intro p q hp; cases hp
        | cons z r ih =>
          intro p q hp hq e
          rw [List.pairwise_cons] at h
          rcases List.mem_cons.mp hp with hp' | hp'
          · rcases List.mem_cons.mp hq with hq' | hq'
            · rw [hp', hq']
            · exact absurd e (by rw [hp']; exact h.1 q hq')
          · rcases List.mem_cons.mp hq with hq' | hq'
            · exact absurd e.symm (by rw [hq']; exact h.1 p hp')
            · exact ih h.2 hp' hq' e
      exact key nd hp'.1 h4 q.symm
    rw [this] at hp'
    simp at hp'
  rw [eval_ListComp]
  show wpAny _ _ (comprehension _ scope c.env _ (newList []) false (eval _ c.env) none) _ _ _
  refine comp_main' ok ha st' (d := .list ds) (fun R k => wpAny_Name (loadVar ok h1 (k _ s Evo.refl st' ?_) (plainName_spec hp).1) (plainName_spec hp).2) .list (by simpa using e6) hok (fun y d hy => ⟨hy, (hρ y d hy).2⟩) F turn (fun _ => rfl) fun s' C D vs n m e hC hD hne hn l r => ?_
  · simp only [Rep]
    exact ⟨a, vs, n, rfl, hQa, e4, e5.weak hQ, e6⟩
  · refine ⟨m, hn, fun h' hsb => ⟨ext_but st.wd e hC hn hsb, D, vs, n, rfl, hD, (hsb.2 D hne.symm).trans l, RepAll.flats hf r, Nat.le_trans (List.length_filterMap_le _ _) e6⟩⟩
theorem EvF_compOwnM (ok : c.Ok) {α : Type} {x : Str} {px : Pos} {elt target : Expr} {scope : Scope} {pos : Pos} (l : List α) (f g : α → PV) (hfg : ∀ a b, f a = f b → g a = g b) (hx : ρ.lookup x = some (.list (l.map f))) (ho : c.own.contains x = true) (hp : plainName x = true) (hok : compOk c.env scope = true) (ρc : Env1)
    (hρ : CapEnv ρc ρ scope) (hnx : ρc.lookup x = none)
    (turn : ∀ C a, a ∈ l → (c.inner scope C).Ok → ∃ ρ', Asg (c.inner scope C) target (f a) ρc ρ' ∧ SubEnv ρc ρ' ∧ Ev (c.inner scope C) ρ' true elt (g a))
    (hf : flats (l.map g) = true) : EvF c ρ (.ListComp elt [⟨target, .Name x px, [], 0⟩] scope pos) (l.map g) := by
  have e := filterMap_of (l := l) (f := f) (g := g) (F := liftF f g) (liftF_of hfg)
  rw [← e] at hf ⊢
  refine EvF_compOwn ok hx ho hp hok hρ hnx (liftF f g) (fun C d hd okC => ?_) hf
  obtain ⟨a, ha, rfl⟩ := List.mem_map.mp hd
  obtain ⟨ρ', h1, h2, h3⟩ := turn C a ha okC
  refine ⟨ρ', h1, h2, ?_⟩
  rw [liftF_of hfg a]
  exact ⟨.inl ⟨rfl, rfl⟩, h3⟩
end
end Mine
end

section
open PySem PySem.W PyProof.Rows
open PySem.SeqAt
namespace Mine
theorem jn_flat : ∀ (l : List (List Nat)), jn (mkS []) (l.map mkS) = mkS l.flatten
  | [] => rfl
  | [a] => by simp [jn]
  | a :: b :: r => by
    have ih := jn_flat (b :: r)
    rw [List.map_cons, List.map_cons, jn, ← List.map_cons (f := mkS), ih]
    apply Str_ext; rw [Sl_append, Sl_append]
    show a ++ [] ++ (b :: r).flatten = (a :: b :: r).flatten
    simp
theorem mkS_inj {a b : List Nat} (h : PV.str (mkS a) = PV.str (mkS b)) : a = b := by
  injection h with h; have := congrArg Sl h; simpa using this
theorem sumL_flat (l : List (List Nat)) : sumL l = l.flatten.length := by
  induction l with
  | nil => rfl
  | cons a l ih => rw [sumL_cons, ih, List.flatten_cons, List.length_append]
theorem BiOk_join0 {G : Wo} {ls : List (List Nat)} (h : sumL ls ≤ sizeLine) : BiOk G (.builtin "str.join") [.str (mkS []), .list (SS ls)] (.str (mkS ls.flatten)) := by
  rw [← jn_flat]; exact BiOk_joinL (by simpa using h)

/-! ### rows under a header -/
/-- what _law_under makes -/
noncomputable def lu (o t : List Nat) : List Nat :=
  if (spl 10 t).getLast? = some [] then ((spl 10 t).dropLast.map fun r => o ++ r ++ [10]).flatten
  else ((spl 10 t).dropLast.map fun r => o ++ r ++ [10]).flatten ++ o ++ ((spl 10 t).getLast?).getD []
theorem rcOf_last {b : List Nat} {m : List (List Nat)} : rcOf b (m ++ [[]]) = under b m ++ [10] := by
  unfold rcOf
  rw [List.getLast?_append]
  simp
theorem rcOf_ink {b x : List Nat} {m : List (List Nat)} (hx : x ≠ []) : rcOf b (m ++ [x]) = under b (m ++ [x]) := by
  unfold rcOf
  rw [if_neg]
  rw [List.getLast?_append]
  simpa using hx
/-! ### a set row has ink -/
theorem rstr_ne {p : Nat → Bool} {l : List Nat} {c : Nat} (hc : c ∈ l) (hp : p c = false) : rstr p l ≠ [] := by
  unfold rstr
  intro h
  have h' : l.reverse.dropWhile p = [] := by simpa using h
  have : ∀ {l : List Nat}, l.dropWhile p = [] → ∀ x ∈ l, p x = true := by
    intro l
    induction l with
    | nil => intro _ x hx; cases hx
    | cons y r ih =>
      intro h x hx
      by_cases hy : p y = true
      · rw [List.dropWhile_cons_of_pos hy] at h
        rcases List.mem_cons.mp hx with rfl | hx
        · exact hy
        · exact ih h x hx
      · rw [List.dropWhile_cons_of_neg hy] at h; cases h
  have := this h' c (by simpa using hc)
  rw [hp] at this; cases this
theorem lead_cons_pos {χ : Nat → Bool} {c : Nat} {l : List Nat} (h : χ c = true) : lead χ (c :: l) = lead χ l + 1 := by unfold lead; rw [List.takeWhile_cons_of_pos h]; rfl
theorem lead_cons_neg {χ : Nat → Bool} {c : Nat} {l : List Nat} (h : χ c = false) : lead χ (c :: l) = 0 := by unfold lead; rw [List.takeWhile_cons_of_neg (by rw [h]; simp)]; rfl
theorem take_lead {χ : Nat → Bool} : ∀ {l : List Nat}, ∀ x ∈ l.take (lead χ l), χ x = true
  | [], x, h => by simp at h
  | c :: l, x, h => by
    by_cases hc : χ c = true
    · rw [lead_cons_pos hc, List.take_succ_cons] at h
      rcases List.mem_cons.mp h with rfl | h
      · exact hc
      · exact take_lead x h
    · rw [lead_cons_neg (by simpa using hc)] at h; simp at h
/-- words are dark, what stands between them is white -/
theorem prs_dark : ∀ (n : Nat) {l : List Nat}, l.length = n → ∀ p ∈ prs (wsp l), ∀ c ∈ p.1, white c = false := by
  intro n
  induction n using Nat.strongRecOn with
  | ind n ih =>
    intro l hl p hp c hc
    have dk : ∀ c ∈ l.take (lead dark l), white c = false := fun c hc => by simpa [dark] using take_lead (χ := dark) c hc
    have one_in : ∀ {w : List Nat} {s : Option (List Nat)} {p : List Nat × Bool}, p ∈ one w s → p.1 = w := fun h => by
      unfold one at h
      split at h
      · cases h
      · simp at h; rw [h]
    by_cases h : lead dark l = l.length
    · rw [wsp_end h, prs_one] at hp
      rw [one_in hp] at hc
      exact dk c (by rw [h, List.take_length]; exact hc)
    · have h1 := white_pos h
      have h2 := lead_le dark l
      rw [wsp_more h, prs_cons2] at hp
      rcases List.mem_append.mp hp with hp | hp
      · rw [one_in hp] at hc; exact dk c hc
      · exact ih _ (by rw [List.length_drop, List.length_drop]; omega) rfl p hp c hc
theorem prs_some : ∀ (n : Nat) {l : List Nat}, l.length = n → isw l = false → prs (wsp l) ≠ [] := by
  intro n
  induction n using Nat.strongRecOn with
  | ind n ih =>
    intro l hl hw
    by_cases h : lead dark l = l.length
    · rw [wsp_end h, prs_one]
      unfold one
      split
      · rename_i e; subst e; simp [isw] at hw
      · simp
    · have h1 := white_pos h
      have h2 := lead_le dark l
      rw [wsp_more h, prs_cons2]
      by_cases hz : l.take (lead dark l) = []
      · have hz0 : lead dark l = 0 := by
          have := congrArg List.length hz
          rw [List.length_take, List.length_nil] at this
          omega
        have hrec := ih ((l.drop (lead dark l)).drop (lead white (l.drop (lead dark l)))).length (by rw [List.length_drop, List.length_drop]; omega) rfl (by
          rw [hz0, List.drop_zero]
          have e : isw l = (isw (l.take (lead white l)) && isw (l.drop (lead white l))) := by unfold isw; rw [← List.all_append, List.take_append_drop]
          have e2 : isw (l.take (lead white l)) = true := by unfold isw; rw [List.all_eq_true]; exact take_lead
          rw [e, e2, Bool.true_and] at hw
          exact hw)
        exact fun q => hrec (List.append_eq_nil_iff.mp q).2
      · unfold one; rw [if_neg hz]; simp
end Mine
end

section
open PySem PySem.W PyProof.Rows
open PySem.SeqAt
namespace Mine
/-! ### the plain law -/
theorem idx_mod {x n : Int} {k : Nat} (hn : 0 < n) (hk : n = k) : idx (x.fmod n) k = some (x.fmod n).toNat := by
  have := fmod_range x hn
  unfold idx
  rw [if_neg (by omega), if_pos (by omega)]
end Mine
end

section
open PySem PySem.W PyProof.Rows
open PySem.SeqAt
namespace Mine

/-! ### dark signs are kept -/
noncomputable def dk (l : List Nat) : Nat := l.countP dark
theorem white10 : white 10 = true := by decide +kernel
theorem white32 : white 32 = true := by decide +kernel
theorem dbl_white (b : Bool) : ∀ c ∈ [32] ++ dbl b, white c = true := by
  unfold dbl
  split <;> simp [white32]
theorem flat_dark {ls : List (List Nat)} {p : List Nat × Bool} (h : p ∈ ls.flatMap fun l => prs (wsp l)) : p.1 ≠ [] ∧ ∀ c ∈ p.1, white c = false := by
  obtain ⟨l, _, h⟩ := List.mem_flatMap.mp h
  exact ⟨prs_ne h, prs_dark _ rfl p h⟩
theorem blank_white (c : Nat) (h : blank c = true) : white c = true := by
  simp only [blank, Bool.or_eq_true, beq_iff_eq] at h
  rcases h with rfl | rfl <;> decide +kernel
theorem indt_blank (l : List Nat) : ∀ c ∈ indt l, blank c = true := fun c hc => take_lead c hc
theorem ind2_blank (r : List Nat) (more : List (List Nat)) : ∀ c ∈ ind2 (indt r) more, blank c = true := by
  cases more with
  | nil => exact indt_blank r
  | cons q t =>
    show ∀ c ∈ (if isw q = true then indt r else indt q), _
    split
    · exact indt_blank r
    · exact indt_blank q
/-! ### how long it gets -/
/-! ### indents stay -/
theorem lead_stop {χ : Nat → Bool} {c : Nat} (hc : χ c = false) : ∀ (a b : List Nat), lead χ (a ++ c :: b) = lead χ a
  | [], b => by rw [List.nil_append, lead_cons_neg hc]; simp [lead]
  | d :: a, b => by
    by_cases h : χ d = true
    · rw [List.cons_append, lead_cons_pos h, lead_cons_pos h, lead_stop hc a b]
    · rw [List.cons_append, lead_cons_neg (by simpa using h), lead_cons_neg (by simpa using h)]
/-! ### rows under a header -/
end Mine
end

section
open PySem PySem.W PyProof.Rows
open PySem.SeqAt
namespace Mine

/-! ### the rows of a set paragraph, as lists of words with the blanks behind them -/
noncomputable abbrev Wd2 := List Nat × Bool
noncomputable def gap (b : Bool) : Nat := if b then 2 else 1
noncomputable def wl (q : List Wd2) : Nat := (q.map fun p => p.1.length + gap p.2).sum
noncomputable def flat (q : List Wd2) : List Nat := q.flatMap fun p => p.1 ++ [32] ++ dbl p.2
theorem flat_app (a b : List Wd2) : flat (a ++ b) = flat a ++ flat b := by simp [flat]
theorem flat_one (p : Wd2) : flat [p] = p.1 ++ [32] ++ dbl p.2 := by simp [flat]
theorem wl_app (a b : List Wd2) : wl (a ++ b) = wl a + wl b := by simp [wl]
theorem dbl_len (b : Bool) : ([32] ++ dbl b).length = gap b := by cases b <;> rfl
theorem flat_len (q : List Wd2) : (flat q).length = wl q := by
  induction q with
  | nil => rfl
  | cons p r ih =>
    have e : flat (p :: r) = flat [p] ++ flat r := flat_app [p] r
    rw [e, List.length_append, ih, flat_one, List.append_assoc, List.length_append, dbl_len]
    show _ = (p.1.length + gap p.2) + _
    rfl
/-- the rows: c columns stand ahead of the row that is being filled, c2 ahead of all further ones -/
noncomputable def fillR (c2 : Nat) (lim : Int) : Nat → List Wd2 → List Wd2 → List (List Wd2)
  | _, cur, [] => [cur]
  | c, cur, p :: r => if cur ≠ [] ∧ lim < ((c + wl cur + p.1.length : Nat) : Int) then cur :: fillR c2 lim c2 [p] r else fillR c2 lim c (cur ++ [p]) r

/-- good words: dark and not empty -/
noncomputable def Good (ps : List Wd2) : Prop := ∀ p ∈ ps, p.1 ≠ [] ∧ ∀ c ∈ p.1, white c = false
theorem Good.tail {p : Wd2} {r : List Wd2} (h : Good (p :: r)) : Good r := fun q hq => h q (List.mem_cons_of_mem _ hq)
theorem Good.app {a b : List Wd2} (h : Good a) (h' : Good b) : Good (a ++ b) := fun q hq => (List.mem_append.mp hq).elim (h q) (h' q)
theorem Good.one {p : Wd2} {r : List Wd2} (h : Good (p :: r)) : Good [p] := fun q hq => by simp at hq; subst hq; exact h q List.mem_cons_self

theorem white9 : white 9 = true := by decide +kernel
theorem flat_no9 {q : List Wd2} (h : Good q) : 9 ∉ flat q := by
  intro hm
  obtain ⟨p, hp, hc⟩ := List.mem_flatMap.mp hm
  rcases List.mem_append.mp hc with hc | hc
  · rcases List.mem_append.mp hc with hc | hc
    · have := (h p hp).2 9 hc; rw [white9] at this; cases this
    · simp at hc
  · unfold dbl at hc; split at hc <;> simp at hc
theorem xt_app (k : Nat) : ∀ (a b : List Nat) (col : Nat), ∃ col', xt k col (a ++ b) = xt k col a ++ xt k col' b
  | [], b, col => ⟨col, by simp [xt]⟩
  | c :: a, b, col => by
    rw [List.cons_append, xt, xt]
    split
    · obtain ⟨col', e⟩ := xt_app k a b (col + (k - col % k))
      exact ⟨col', by rw [e, List.append_assoc]⟩
    · obtain ⟨col', e⟩ := xt_app k a b (if c == 10 || c == 13 then 0 else col + 1)
      exact ⟨col', by rw [e]; rfl⟩
theorem xt_width {i q : List Nat} (h : 9 ∉ q) : (xt 8 0 (i ++ q)).length = (xt 8 0 i).length + q.length := by
  obtain ⟨col', e⟩ := xt_app 8 i q 0
  rw [e, xt_notab 8 q col' h, List.length_append]
noncomputable abbrev cols (i : List Nat) : Nat := (xt 8 0 i).length

/-- a row's text -/
noncomputable def body (q : List Wd2) : List Nat := rstr white (flat q)
theorem rstr_app {p : Nat → Bool} {a b : List Nat} {c : Nat} (hc : c ∈ b) (hp : p c = false) : rstr p (a ++ b) = a ++ rstr p b := by
  unfold rstr
  rw [List.reverse_append]
  have : ∀ {l m : List Nat} {c : Nat}, c ∈ l → p c = false → (l ++ m).dropWhile p = l.dropWhile p ++ m := by
    intro l m c hc hp
    induction l with
    | nil => cases hc
    | cons x r ih =>
      by_cases hx : p x = true
      · rw [List.cons_append, List.dropWhile_cons_of_pos hx, List.dropWhile_cons_of_pos hx]
        rcases List.mem_cons.mp hc with rfl | hc
        · rw [hp] at hx; cases hx
        · exact ih hc
      · rw [List.cons_append, List.dropWhile_cons_of_neg hx, List.dropWhile_cons_of_neg hx]; rfl
  rw [this (c := c) (by simpa using hc) hp, List.reverse_append, List.reverse_reverse]
theorem flat_dark1 {q : List Wd2} (h : Good q) (hne : q ≠ []) : ∃ c ∈ flat q, white c = false := by
  cases q with
  | nil => exact absurd rfl hne
  | cons p r =>
    obtain ⟨h1, h2⟩ := h p List.mem_cons_self
    obtain ⟨c, hc⟩ := List.exists_mem_of_ne_nil _ h1
    exact ⟨c, List.mem_flatMap.mpr ⟨p, List.mem_cons_self, by simp [hc]⟩, h2 c hc⟩
theorem row_text {i : List Nat} {q : List Wd2} (h : Good q) (hne : q ≠ []) : rstr white (i ++ flat q) = i ++ body q := by
  obtain ⟨c, hc, hw⟩ := flat_dark1 h hne
  exact rstr_app hc hw
theorem rstr_white {a b : List Nat} (h : ∀ c ∈ b, white c = true) : rstr white (a ++ b) = rstr white a := by
  unfold rstr
  rw [List.reverse_append]
  have : ∀ {l m : List Nat}, (∀ c ∈ l, white c = true) → (l ++ m).dropWhile white = m.dropWhile white := by
    intro l m hl
    induction l with
    | nil => rfl
    | cons x r ih => rw [List.cons_append, List.dropWhile_cons_of_pos (hl x List.mem_cons_self), ih fun c hc => hl c (List.mem_cons_of_mem _ hc)]
  rw [this fun c hc => h c (by simpa using hc)]
theorem rstr_self {l : List Nat} (h : ∀ c ∈ l, white c = false) : rstr white l = l := by
  cases l with
  | nil => rfl
  | cons x r =>
    obtain ⟨m, y, e⟩ : ∃ m y, x :: r = m ++ [y] := ⟨_, _, (List.dropLast_concat_getLast (by simp)).symm⟩
    rw [e] at h ⊢
    unfold rstr
    rw [List.reverse_append, List.reverse_singleton, List.singleton_append, List.dropWhile_cons_of_neg (by have := h y (by simp); simp [this])]
    simp
theorem body_snoc {q : List Wd2} {p : Wd2} (h : Good [p]) : body (q ++ [p]) = flat q ++ p.1 := by
  unfold body
  rw [flat_app, flat_one, List.append_assoc p.1, ← List.append_assoc, rstr_white (dbl_white p.2)]
  obtain ⟨h1, h2⟩ := h p (by simp)
  obtain ⟨c, hc⟩ := List.exists_mem_of_ne_nil _ h1
  rw [rstr_app hc (h2 c hc), rstr_self h2]
theorem body_len {q : List Wd2} {p : Wd2} (h : Good [p]) : (body (q ++ [p])).length = wl q + p.1.length := by
  rw [body_snoc h, List.length_append, flat_len]

/-- the machine's state while a row is being filled -/
theorem fill_run {i1 i2 : List Nat} {lim : Int} (hb1 : ∀ c ∈ i1, blank c = true) (hb2 : ∀ c ∈ i2, blank c = true) : ∀ (ps : List Wd2) (i : List Nat) (cur : List Wd2) (R : List (List Nat)), Good ps → Good cur → (cur = [] → i = i1) → (∀ c ∈ i, blank c = true) →
    ∃ q0 qs, fillR (cols i2) lim (cols i) cur ps = q0 :: qs ∧
      (ps.foldl (put i1 i2 lim) (R, i ++ flat cur)).1 ++ [rstr white (ps.foldl (put i1 i2 lim) (R, i ++ flat cur)).2] = R ++ rstr white (i ++ flat q0) :: qs.map (fun q => rstr white (i2 ++ flat q))
  | [], i, cur, R, _, hc, h0, hi => ⟨cur, [], rfl, by simp⟩
  | p :: r, i, cur, R, hp, hc, h0, hi => by
    rw [List.foldl_cons]
    have hw9 : 9 ∉ p.1 := fun hm => by have := (hp p List.mem_cons_self).2 9 hm; rw [white9] at this; cases this
    have hbr : brk i1 lim (R, i ++ flat cur) p.1 = decide (cur ≠ [] ∧ lim < ((cols i + wl cur + p.1.length : Nat) : Int)) := by
      unfold brk
      have e1 : (xt 8 0 (i ++ flat cur ++ p.1)).length = cols i + wl cur + p.1.length := by
        rw [List.append_assoc, xt_width (by rw [List.mem_append, not_or]; exact ⟨flat_no9 hc, hw9⟩), List.length_append, flat_len]; unfold cols; omega
      have e2 : ((i ++ flat cur) != i1) = decide (cur ≠ []) := by
        by_cases hcur : cur = []
        · subst hcur; rw [h0 rfl]; simp [flat]
        · obtain ⟨c, hcm, hcw⟩ := flat_dark1 hc hcur
          have : i ++ flat cur ≠ i1 := fun e => by
            have hm : c ∈ i1 := by rw [← e]; exact List.mem_append.mpr (.inr hcm)
            rw [blank_white c (hb1 c hm)] at hcw; cases hcw
          simp [this, hcur]
      show (decide (lim < ((xt 8 0 (i ++ flat cur ++ p.1)).length : Nat)) && ((i ++ flat cur) != i1)) = _
      rw [e1, e2, Bool.and_comm, Bool.decide_and]
    by_cases hcond : cur ≠ [] ∧ lim < ((cols i + wl cur + p.1.length : Nat) : Int)
    · have hput : put i1 i2 lim (R, i ++ flat cur) p = (R ++ [rstr white (i ++ flat cur)], i2 ++ flat [p]) := by
        unfold put turn
        simp only
        rw [hbr, if_pos (decide_eq_true hcond), flat_one]
        simp
      rw [hput]
      obtain ⟨q0, qs, e1, e2⟩ := fill_run hb1 hb2 r i2 [p] (R ++ [rstr white (i ++ flat cur)]) hp.tail hp.one (fun h => by cases h) hb2
      refine ⟨cur, q0 :: qs, ?_, ?_⟩
      · rw [fillR, if_pos hcond, e1]
      · rw [e2]; simp
    · have hput : put i1 i2 lim (R, i ++ flat cur) p = (R, i ++ flat (cur ++ [p])) := by
        unfold put turn
        simp only
        rw [hbr, if_neg (by rw [decide_eq_false hcond]; simp), flat_app, flat_one]
        simp
      rw [hput]
      obtain ⟨q0, qs, e1, e2⟩ := fill_run hb1 hb2 r i (cur ++ [p]) R hp.tail (hc.app hp.one) (fun h => by simp at h) hi
      exact ⟨q0, qs, by rw [fillR, if_neg hcond, e1], e2⟩

/-- all that the rows are -/
theorem fillR_join (c2 : Nat) (lim : Int) : ∀ (ps : List Wd2) (c : Nat) (cur : List Wd2), (fillR c2 lim c cur ps).flatten = cur ++ ps
  | [], c, cur => by simp [fillR]
  | p :: r, c, cur => by
    rw [fillR]
    split
    · rw [List.flatten_cons, fillR_join c2 lim r]; simp
    · rw [fillR_join c2 lim r]; simp
/-- a row of two words or more is not too wide -/
noncomputable def Fits (lim : Int) (c : Nat) (q : List Wd2) : Prop := ∀ a p, q = a ++ [p] → a ≠ [] → ((c + wl a + p.1.length : Nat) : Int) ≤ lim
inductive Rows (c2 : Nat) (lim : Int) : Nat → List (List Wd2) → Prop
  | last {c q} (h : q ≠ []) (hf : Fits lim c q) : Rows c2 lim c [q]
  | more {c q p q' r} (h : q ≠ []) (hf : Fits lim c q) (hn : lim < ((c + wl q + p.1.length : Nat) : Int)) (hr : Rows c2 lim c2 ((p :: q') :: r)) : Rows c2 lim c (q :: (p :: q') :: r)
theorem fits_one (lim : Int) (c : Nat) (p : Wd2) : Fits lim c [p] := fun a p' e ha => by
  cases a with
  | nil => exact absurd rfl ha
  | cons x t => simp at e
theorem fill_head (c2 : Nat) (lim : Int) : ∀ (ps : List Wd2) (c : Nat) (cur : List Wd2), cur ≠ [] → ∃ t r, fillR c2 lim c cur ps = (cur ++ t) :: r
  | [], c, cur, h => ⟨[], [], by simp [fillR]⟩
  | p :: r, c, cur, h => by
    rw [fillR]
    split
    · exact ⟨[], fillR c2 lim c2 [p] r, by simp⟩
    · obtain ⟨t, r', e⟩ := fill_head c2 lim r c (cur ++ [p]) (by simp)
      exact ⟨p :: t, r', by rw [e]; simp⟩
theorem fill_rows (c2 : Nat) (lim : Int) : ∀ (ps : List Wd2) (c : Nat) (cur : List Wd2), cur ≠ [] → Fits lim c cur → Rows c2 lim c (fillR c2 lim c cur ps)
  | [], c, cur, h, hf => .last h hf
  | p :: r, c, cur, h, hf => by
    rw [fillR]
    split
    · rename_i hc
      obtain ⟨t, r', e⟩ := fill_head c2 lim r c2 [p] (by simp)
      have hr := fill_rows c2 lim r c2 [p] (by simp) (fits_one lim c2 p)
      rw [e] at hr ⊢
      exact .more h hf hc.2 hr
    · rename_i hc
      refine fill_rows c2 lim r c (cur ++ [p]) (by simp) fun a p' e ha => ?_
      obtain ⟨e1, e2⟩ := List.append_inj' e rfl
      cases e2
      subst e1
      have : ¬ lim < ((c + wl cur + p.1.length : Nat) : Int) := fun q => hc ⟨h, q⟩
      omega
theorem fill_start (c2 : Nat) (lim : Int) (c : Nat) (p : Wd2) (r : List Wd2) : Rows c2 lim c (fillR c2 lim c [] (p :: r)) := by
  rw [fillR, if_neg (by simp)]
  exact fill_rows c2 lim r c [p] (by simp) (fits_one lim c p)

/-- what reformat_paragraph's rows are -/
noncomputable def setR (i1 i2 : List Nat) (lim : Int) (ps : List Wd2) : List (List Wd2) := fillR (cols i2) lim (cols i1) [] ps
noncomputable def rowsT (i1 i2 : List Nat) : List (List Wd2) → List (List Nat)
  | [] => []
  | q :: r => (i1 ++ body q) :: r.map fun q => i2 ++ body q
theorem Rows.ne {c2 : Nat} {lim : Int} {c : Nat} {qs : List (List Wd2)} (h : Rows c2 lim c qs) : ∀ q ∈ qs, q ≠ [] := by
  induction h with
  | last h hf => intro q hq; simp at hq; subst hq; exact h
  | more h hf hn hr ih =>
    intro q hq
    rcases List.mem_cons.mp hq with rfl | hq
    · exact h
    · exact ih q hq
theorem rows_are {i1 i2 : List Nat} {lim : Int} (hb1 : ∀ c ∈ i1, blank c = true) (hb2 : ∀ c ∈ i2, blank c = true) {ps : List Wd2} (hg : Good ps) (hne : ps ≠ []) (R : List (List Nat)) :
    (ps.foldl (put i1 i2 lim) (R, i1)).1 ++ [rstr white (ps.foldl (put i1 i2 lim) (R, i1)).2] = R ++ rowsT i1 i2 (setR i1 i2 lim ps) := by
  obtain ⟨q0, qs, e1, e2⟩ := fill_run (lim := lim) hb1 hb2 ps i1 [] R hg (fun _ h => by cases h) (fun _ => rfl) hb1
  have e3 : i1 ++ flat [] = i1 := by simp [flat]
  rw [e3] at e2
  rw [e2]
  unfold setR
  rw [e1]
  cases ps with
  | nil => exact absurd rfl hne
  | cons p r =>
    have hr := fill_start (cols i2) lim (cols i1) p r
    rw [e1] at hr
    have hj := fillR_join (cols i2) lim (p :: r) (cols i1) []
    rw [e1] at hj
    have hgood : ∀ q ∈ q0 :: qs, Good q := fun q hq x hx => hg x (by
      have hj' : (q0 :: qs).flatten = p :: r := by simpa using hj
      rw [← hj']; exact List.mem_flatten.mpr ⟨q, hq, hx⟩)
    congr 1
    show rstr white (i1 ++ flat q0) :: _ = (i1 ++ body q0) :: _
    rw [row_text (hgood q0 List.mem_cons_self) (hr.ne q0 List.mem_cons_self)]
    congr 1
    apply List.map_congr_left
    intro q hq
    exact row_text (hgood q (List.mem_cons_of_mem _ hq)) (hr.ne q (List.mem_cons_of_mem _ hq))
/-- the pairs of lines -/
noncomputable def pairsOf (ls : List (List Nat)) : List Wd2 := ls.flatMap fun l => prs (wsp l)
theorem pairs_good (ls : List (List Nat)) : Good (pairsOf ls) := fun p hp => flat_dark hp
/-- reformat_paragraph, row by row -/
theorem rpR_set {W para tail : List (List Nat)} {lim : Int} {r : List Nat} {more : List (List Nat)} (hW : ∀ l ∈ W, isw l = true) (hp : para = r :: more) (hpw : ∀ l ∈ para, isw l = false) (ht : tail = [] ∨ ∃ t u, tail = t :: u ∧ isw t = true) :
    rpR (W ++ para ++ tail) lim = W ++ rowsT (indt r) (ind2 (indt r) (more ++ tail)) (setR (indt r) (ind2 (indt r) (more ++ tail)) lim (pairsOf para)) ++ tail := by
  have dw : ∀ {p : List Nat → Bool} {a b : List (List Nat)}, (∀ l ∈ a, p l = true) → (a ++ b).dropWhile p = b.dropWhile p ∧ (a ++ b).takeWhile p = a ++ b.takeWhile p := by
    intro p a b h
    induction a with
    | nil => exact ⟨rfl, rfl⟩
    | cons x r ih =>
      have := ih fun l hl => h l (List.mem_cons_of_mem _ hl)
      have hx := h x List.mem_cons_self
      rw [List.cons_append, List.dropWhile_cons_of_pos hx, List.takeWhile_cons_of_pos hx, this.1, this.2]
      exact ⟨rfl, rfl⟩
  subst hp
  have hr := hpw r List.mem_cons_self
  have hr' : ¬ isw r = true := by rw [hr]; simp
  have e1 : (W ++ (r :: more) ++ tail).dropWhile isw = r :: (more ++ tail) := by
    rw [List.append_assoc, (dw hW).1, List.cons_append, List.dropWhile_cons_of_neg hr']
  have e2 : (W ++ (r :: more) ++ tail).takeWhile isw = W := by
    rw [List.append_assoc, (dw hW).2, List.cons_append, List.takeWhile_cons_of_neg hr', List.append_nil]
  have tl : tail.dropWhile (fun l => !isw l) = tail ∧ tail.takeWhile (fun l => !isw l) = [] := by
    rcases ht with rfl | ⟨t, u, rfl, h⟩
    · exact ⟨rfl, rfl⟩
    · rw [List.dropWhile_cons_of_neg (by simp [h]), List.takeWhile_cons_of_neg (by simp [h])]; exact ⟨rfl, rfl⟩
  have hpw' : ∀ l ∈ r :: more, (!isw l) = true := fun l hl => by rw [hpw l hl]; rfl
  have e3 : (r :: (more ++ tail)).takeWhile (fun l => !isw l) = r :: more := by
    rw [← List.cons_append, (dw hpw').2, tl.2, List.append_nil]
  have e4 : (r :: (more ++ tail)).dropWhile (fun l => !isw l) = tail := by
    rw [← List.cons_append, (dw hpw').1, tl.1]
  unfold rpR
  rw [e1]
  show (rpSet _ lim r (more ++ tail)).1 ++ [rstr white (rpSet _ lim r (more ++ tail)).2] ++ _ = _
  rw [e4]
  congr 1
  unfold rpSet rowsOf
  rw [e2, e3]
  refine rows_are (fun c hc => indt_blank r c hc) (fun c hc => ind2_blank r (more ++ tail) c hc) (pairs_good _) ?_ W
  unfold pairsOf
  rw [List.flatMap_cons]
  have := prs_some _ rfl hr
  simp [this]
end Mine
end

section
open PySem PySem.W PyProof.Rows
open PySem.SeqAt
namespace Mine

/-! ### text.split() -/
noncomputable def wds (l : List Nat) : List (List Nat) := (prs (wsp l)).map (·.1)
theorem step_dark {ws : List Str} {r : Str} : ∀ {d : List Nat}, (∀ c ∈ d, white c = false) → d.foldl KWd.step (ws, r) = (ws, r ++ mkS d)
  | [], _ => by
    have e : r ++ mkS [] = r := Str_ext (by rw [Sl_append]; simp)
    rw [e]; rfl
  | c :: d, h => by
    rw [List.foldl_cons]
    have hc : Unicode.isSpace c = false := h c List.mem_cons_self
    have e : KWd.step (ws, r) c = (ws, r ++ ⟨#[c]⟩) := by unfold KWd.step; rw [if_neg (by rw [hc]; simp)]
    rw [e, step_dark fun x hx => h x (List.mem_cons_of_mem _ hx)]
    congr 1
    apply Str_ext
    rw [Sl_append, Sl_append, Sl_append, List.append_assoc]
    rfl
theorem step_white0 {ws : List Str} : ∀ {d : List Nat}, (∀ c ∈ d, white c = true) → d.foldl KWd.step (ws, mkS []) = (ws, mkS [])
  | [], _ => rfl
  | c :: d, h => by
    rw [List.foldl_cons]
    have hc : Unicode.isSpace c = true := h c List.mem_cons_self
    have e : KWd.step (ws, mkS []) c = (ws, mkS []) := by unfold KWd.step; rw [if_pos hc]; rfl
    rw [e, step_white0 fun x hx => h x (List.mem_cons_of_mem _ hx)]
theorem step_white {ws : List Str} {r : List Nat} {d : List Nat} (h : ∀ c ∈ d, white c = true) (hd : d ≠ []) : d.foldl KWd.step (ws, mkS r) = (if r = [] then ws else ws ++ [mkS r], mkS []) := by
  cases d with
  | nil => exact absurd rfl hd
  | cons c d =>
    rw [List.foldl_cons]
    have hc : Unicode.isSpace c = true := h c List.mem_cons_self
    have e : KWd.step (ws, mkS r) c = (if r = [] then ws else ws ++ [mkS r], mkS []) := by
      unfold KWd.step
      rw [if_pos hc]
      by_cases hr : r = []
      · subst hr; rfl
      · rw [if_neg (by rw [mkS_len]; intro q; exact hr (List.length_eq_zero_iff.mp q)), if_neg hr]; rfl
    rw [e, step_white0 fun x hx => h x (List.mem_cons_of_mem _ hx)]
theorem one_fst (w : List Nat) (s : Option (List Nat)) : (one w s).map (·.1) = if w = [] then [] else [w] := by
  unfold one; split <;> simp
theorem scan_wds : ∀ (n : Nat) (l : List Nat) (ws : List Str), l.length = n → KWd.fin (l.foldl KWd.step (ws, mkS [])) = ws ++ (wds l).map mkS := by
  intro n
  induction n using Nat.strongRecOn with
  | ind n ih =>
    intro l ws hl
    have nil_app : ∀ d : List Nat, (mkS [] : Str) ++ mkS d = mkS d := fun d => by rw [mkS_app]; rfl
    by_cases h : lead dark l = l.length
    · have hd : ∀ c ∈ l, white c = false := fun c hc => by
        have := take_lead (χ := dark) (l := l) c (by rw [h, List.take_length]; exact hc)
        simpa [dark] using this
      rw [step_dark hd, nil_app]
      unfold wds KWd.fin
      rw [wsp_end h, prs_one, one_fst]
      by_cases hz : l = []
      · subst hz; show ws = _; simp
      · rw [if_neg (by rw [mkS_len]; intro q; exact hz (List.length_eq_zero_iff.mp q)), if_neg hz]; simp
    · have h1 := white_pos h
      have h2 := lead_le dark l
      have hdk : ∀ c ∈ l.take (lead dark l), white c = false := fun c hc => by simpa [dark] using take_lead (χ := dark) c hc
      have hwh : ∀ c ∈ (l.drop (lead dark l)).take (lead white (l.drop (lead dark l))), white c = true := fun c hc => take_lead c hc
      have e : l = l.take (lead dark l) ++ ((l.drop (lead dark l)).take (lead white (l.drop (lead dark l))) ++ (l.drop (lead dark l)).drop (lead white (l.drop (lead dark l)))) := by
        rw [List.take_append_drop, List.take_append_drop]
      have hne : (l.drop (lead dark l)).take (lead white (l.drop (lead dark l))) ≠ [] := fun q => by
        have := congrArg List.length q
        have hle := lead_le white (l.drop (lead dark l))
        rw [List.length_take, List.length_nil] at this; omega
      have e2 : l.foldl KWd.step (ws, mkS []) = ((l.drop (lead dark l)).drop (lead white (l.drop (lead dark l)))).foldl KWd.step (if l.take (lead dark l) = [] then ws else ws ++ [mkS (l.take (lead dark l))], mkS []) := by
        have : l.foldl KWd.step (ws, mkS []) = (l.take (lead dark l) ++ ((l.drop (lead dark l)).take (lead white (l.drop (lead dark l))) ++ (l.drop (lead dark l)).drop (lead white (l.drop (lead dark l))))).foldl KWd.step (ws, mkS []) := by rw [← e]
        rw [this, List.foldl_append, List.foldl_append, step_dark hdk, nil_app, step_white hwh hne]
      rw [e2, ih _ (by rw [List.length_drop, List.length_drop]; omega) _ _ rfl]
      have e3 : wds l = (if l.take (lead dark l) = [] then [] else [l.take (lead dark l)]) ++ wds ((l.drop (lead dark l)).drop (lead white (l.drop (lead dark l)))) := by
        unfold wds
        rw [wsp_more h, prs_cons2, List.map_append, one_fst]
      rw [e3]
      by_cases hz : l.take (lead dark l) = []
      · rw [if_pos hz, if_pos hz]; simp
      · rw [if_neg hz, if_neg hz]; simp
theorem words_wds (x : Str) : Txt.words x = (wds (Sl x)).map mkS := by
  rw [KWd.words_scan]
  have := scan_wds _ (Sl x) [] rfl
  exact this.trans (by simp)
theorem wds_mem {l w : List Nat} (h : w ∈ wds l) : w.length ≤ l.length := by
  obtain ⟨p, hp, rfl⟩ := List.mem_map.mp h
  exact wsp_part (prs_mem hp)
theorem wds_len (l : List Nat) : (wds l).length ≤ l.length := by
  unfold wds
  rw [List.length_map]
  exact Nat.le_trans (len_sumw fun p => prs_ne) (sumw_wsp _ l rfl)
section
variable {G : Wo}
theorem BiOk_split0 {x : Str} : BiOk G (.builtin "str.split") [.str x] (.list (SS (wds (Sl x)))) := .mk fun A s P vs _ _ _ wd r₀ => by
  obtain ⟨v, rfl, r⟩ := r₀.inv1
  simp only [Rep] at r; obtain ⟨⟨t, rfl⟩, hx⟩ := r
  have hw := words_wds x
  have hlen : ∀ y ∈ (wds (Sl x)).map mkS, y.length ≤ sizeLine := by
    intro y hy
    obtain ⟨p, hp, rfl⟩ := List.mem_map.mp hy
    have := wds_mem hp
    rw [Str_len] at hx
    rw [mkS_len]; omega
  have hn : (wds (Sl x)).length ≤ sizeLine := by have := wds_len (Sl x); rw [Str_len] at hx; omega
  have fin : ∀ (l : List (Str × Tok)) (tk : Nat), l.map (·.1) = Txt.words x → (Ext G s { s with heap := s.heap.push { cls := .type "list", data := .seq (strValues l).toArray }, toks := tk } ∧
      Rep (s.heap.push { cls := .type "list", data := .seq (strValues l).toArray }) (fun a => P a ∨ s.heap.get? a = none) (.list (SS (wds (Sl x)))) (.ref s.heap.objs.size)) := by
    intro l tk hl
    refine ⟨Ext.push, ?_⟩
    simp only [Rep]
    refine ⟨_, _, 0, rfl, .inr get_new, IsL.new _ _, ?_, by rw [List.length_map]; exact hn⟩
    have := repAll_strs (h := s.heap.push { cls := .type "list", data := .seq (strValues l).toArray }) (P := fun a => P a ∨ s.heap.get? a = none) (hl.trans hw) hlen
    rw [List.map_map] at this
    exact this
  have hsw : (Builtin.Str.spaceWords x (x.length + 1)).length ≤ sizeLine := by
    have : (PySem.wordsOf x).length = (Builtin.Str.spaceWords x (x.length + 1)).length := by unfold PySem.wordsOf; rw [List.length_map]
    have h2 : PySem.wordsOf x = (wds (Sl x)).map mkS := by
      rw [← hw, KWd.words_scan]; exact KWd.wordsOf_scan x
    rw [← this, h2, List.length_map]; exact hn
  refine call_meets PySem.F.slot_str_split (typeIs_str _ _ _) PySem.F.entry_str_split (PySem.F.args_str_split_1 _) (meets_str_split_space x t hx hsw) ?_
  split
  · rename_i hh
    refine fin [(x, t)] s.toks ?_
    unfold Txt.words; rw [if_pos hh]; rfl
  · rename_i hh
    rw [strsFrom_eq]
    refine fin (numbered s.toks _) _ ((numbered_texts _ _).trans ?_)
    unfold Txt.words; rw [if_neg hh]

/-! ### text.index(word, place) -/
theorem BiOk_min2 {a b : Int} : BiOk G (.builtin "min") [.int a, .int b] (.int (min a b)) := .mk fun A s P vs hh _ _ wd r₀ => by
  obtain ⟨v, u, rfl, r, r2⟩ := r₀.inv2
  simp only [Rep] at r r2; obtain ⟨t, rfl⟩ := r; obtain ⟨t', rfl⟩ := r2
  refine min_two_ints hh fun h' tk hk => ⟨Ext.of hk, ?_⟩
  simp only [Rep]
  split
  · exact ⟨t', by rw [show min a b = b by omega]⟩
  · exact ⟨t, by rw [show min a b = a by omega]⟩
end
section
variable {c : Cx} {ρ : Env1} {Q : PF → Env1 → Prop}
end
end Mine
end

section
open PySem PySem.W PyProof.Rows
open PySem.SeqAt
namespace Mine

/-- nothing, or a white sign at once -/
noncomputable def Whead (l : List Nat) : Prop := l = [] ∨ ∃ c t, l = c :: t ∧ white c = true
noncomputable def gapB (l : List Nat) : Bool := !(l.take (lead white l) == [] || l.take (lead white l) == [32])
theorem lead_dark0 {l : List Nat} (h : Whead l) : lead dark l = 0 := by
  rcases h with rfl | ⟨c, t, rfl, hc⟩
  · rfl
  · exact lead_dark_zero hc
theorem prs_nil : prs (wsp []) = [] := by rw [wsp_end rfl]; rfl
theorem prs_white {l : List Nat} (h : Whead l) (hne : l ≠ []) : prs (wsp l) = prs (wsp (l.drop (lead white l))) := by
  have h0 := lead_dark0 h
  have hl : lead dark l ≠ l.length := by
    rw [h0]; intro q; exact hne (List.length_eq_zero_iff.mp q.symm)
  rw [wsp_more hl, h0, prs_cons2, List.drop_zero, List.take_zero]
  rfl
/-! ### words of a set row -/
theorem map_mkS_inj {a b : List (List Nat)} (h : a.map mkS = b.map mkS) : a = b := by
  have := congrArg (List.map Sl) h
  rw [List.map_map, List.map_map] at this
  simpa [Function.comp_def] using this
theorem wds_white {ws r : List Nat} (h : ∀ c ∈ ws, white c = true) : wds (ws ++ r) = wds r := by
  apply map_mkS_inj
  have h1 := scan_wds _ (ws ++ r) [] rfl
  have h2 := scan_wds _ r [] rfl
  rw [List.foldl_append, step_white0 h] at h1
  rw [List.nil_append] at h1 h2
  rw [← h1, ← h2]
theorem wds_word {w r : List Nat} (hw : w ≠ []) (hd : ∀ c ∈ w, white c = false) (hr : Whead r) : wds (w ++ r) = w :: wds r := by
  apply map_mkS_inj
  have h1 := scan_wds _ (w ++ r) [] rfl
  have na : (mkS [] : Str) ++ mkS w = mkS w := by rw [mkS_app]; rfl
  rw [List.foldl_append, step_dark hd, na, List.nil_append] at h1
  rw [← h1]
  rcases hr with rfl | ⟨c, t, rfl, hc⟩
  · show KWd.fin ([], mkS w) = _
    unfold KWd.fin
    rw [if_neg (by show ¬ (mkS w).length = 0; rw [mkS_len]; intro q; exact hw (List.length_eq_zero_iff.mp q))]
    unfold wds; rw [prs_nil]; rfl
  · have hs := step_white (ws := []) (r := w) (d := [c]) (by simp [hc]) (by simp)
    rw [if_neg hw] at hs
    rw [show (c :: t) = [c] ++ t from rfl, List.foldl_append, hs]
    have h2 := scan_wds _ t [mkS w] rfl
    rw [List.nil_append, h2, wds_white (ws := [c]) (r := t) (by simp [hc])]
    rfl
theorem wds_flat {w : List Nat} (hw : w ≠ []) (hd : ∀ c ∈ w, white c = false) : ∀ {q : List Wd2}, Good q → wds (flat q ++ w) = q.map (·.1) ++ [w]
  | [], _ => by
    have := wds_word (r := []) hw hd (.inl rfl)
    rw [List.append_nil] at this
    show wds ([] ++ w) = _
    rw [List.nil_append, this]
    unfold wds; rw [prs_nil]; rfl
  | p :: r, h => by
    obtain ⟨h1, h2⟩ := h p List.mem_cons_self
    have e : flat (p :: r) ++ w = p.1 ++ (([32] ++ dbl p.2) ++ (flat r ++ w)) := by
      rw [show p :: r = [p] ++ r from rfl, flat_app, flat_one]; simp
    rw [e, wds_word (r := ([32] ++ dbl p.2) ++ (flat r ++ w)) h1 h2 (.inr ⟨32, dbl p.2 ++ (flat r ++ w), rfl, white32⟩), wds_white (dbl_white p.2), wds_flat hw hd h.tail]
    rfl
theorem wds_row {i : List Nat} (hi : ∀ c ∈ i, blank c = true) {q : List Wd2} (h : Good q) (hne : q ≠ []) : wds (i ++ body q) = q.map (·.1) := by
  obtain ⟨a, p, rfl⟩ : ∃ a p, q = a ++ [p] := ⟨q.dropLast, q.getLast hne, (List.dropLast_concat_getLast hne).symm⟩
  have hp : Good [p] := fun x hx => h x (List.mem_append.mpr (.inr hx))
  have ha : Good a := fun x hx => h x (List.mem_append.mpr (.inl hx))
  obtain ⟨h1, h2⟩ := hp p (by simp)
  rw [wds_white fun c hc => blank_white c (hi c hc), body_snoc hp, wds_flat h1 h2 ha, List.map_append]
  rfl
/-- what ''.join(..).strip() of the row is -/
theorem strip_flat {q : List Wd2} (h : Good q) : rstr white (lstr white (flat q)) = body q := by
  unfold body
  congr 1
  unfold lstr
  cases q with
  | nil => rfl
  | cons p r =>
    obtain ⟨h1, h2⟩ := h p List.mem_cons_self
    rw [show p :: r = [p] ++ r from rfl, flat_app, flat_one]
    cases e : p.1 with
    | nil => exact absurd e h1
    | cons c t =>
      rw [List.append_assoc, List.append_assoc, List.cons_append, List.dropWhile_cons_of_neg (by have := h2 c (by rw [e]; exact List.mem_cons_self); simp [this])]
end Mine
end

section
open PySem PySem.W PyProof.Rows
open PySem.SeqAt
namespace Mine
section
variable {c : Cx} {ρ : Env1} {T : Own1} {Q : PF → Env1 → Prop}
end
end Mine
end

section
open PySem PySem.W PyProof.Rows
open PySem.SeqAt
namespace Mine

/-! ### reading a built row -/
theorem lead_pass {χ : Nat → Bool} : ∀ {a b : List Nat}, (∀ c ∈ a, χ c = true) → lead χ (a ++ b) = a.length + lead χ b
  | [], b, _ => by simp
  | c :: a, b, h => by
    rw [List.cons_append, lead_cons_pos (h c List.mem_cons_self), lead_pass fun x hx => h x (List.mem_cons_of_mem _ hx), List.length_cons]; omega
theorem prs_word {w r : List Nat} (hw : w ≠ []) (hd : ∀ c ∈ w, white c = false) (hr : Whead r) : prs (wsp (w ++ r)) = (w, gapB r) :: prs (wsp r) := by
  have hdk : ∀ c ∈ w, dark c = true := fun c hc => by simp [dark, hd c hc]
  have hl : lead dark (w ++ r) = w.length := by rw [lead_pass hdk, lead_dark0 hr]; rfl
  by_cases hrn : r = []
  · subst hrn
    rw [List.append_nil] at hl ⊢
    rw [wsp_end hl, prs_one, prs_nil]
    unfold one; rw [if_neg hw]; rfl
  · have hne : lead dark (w ++ r) ≠ (w ++ r).length := by
      rw [hl, List.length_append]
      have := List.length_pos_iff.mpr hrn; omega
    rw [wsp_more hne, hl, List.take_left, List.drop_left, prs_cons2, prs_white hr hrn]
    unfold one
    rw [if_neg hw]
    show (w, (r.take (lead white r) != [32])) :: _ = _
    have hsep : r.take (lead white r) ≠ [] := by
      rcases hr with rfl | ⟨c, t, rfl, hc⟩
      · exact absurd rfl hrn
      · rw [lead_cons_pos hc]; simp
    congr 2
    unfold gapB
    have : (r.take (lead white r) == []) = false := by simpa using hsep
    rw [this, Bool.false_or]; rfl
theorem prs_skip {ws t : List Nat} (h : ∀ c ∈ ws, white c = true) (ht : lead white t = 0) : prs (wsp (ws ++ t)) = prs (wsp t) := by
  by_cases hn : ws = []
  · rw [hn, List.nil_append]
  · have hW : Whead (ws ++ t) := by
      cases ws with
      | nil => exact absurd rfl hn
      | cons c r => exact .inr ⟨c, r ++ t, rfl, h c List.mem_cons_self⟩
    rw [prs_white hW (by simp [hn]), lead_pass h, ht, Nat.add_zero, List.drop_left]
theorem gapB_gap {b : Bool} {t : List Nat} (ht : lead white t = 0) : gapB ([32] ++ dbl b ++ t) = b := by
  unfold gapB
  rw [lead_pass (dbl_white b), ht, Nat.add_zero, List.take_left]
  cases b <;> rfl
theorem lead_dark_word {w r : List Nat} (hw : w ≠ []) (hd : ∀ c ∈ w, white c = false) : lead white (w ++ r) = 0 := by
  cases w with
  | nil => exact absurd rfl hw
  | cons c t => rw [List.cons_append]; exact lead_cons_neg (hd c List.mem_cons_self)
/-- words with blanks between them, the last one with what stands behind it -/
theorem prs_flat {w r : List Nat} (hw : w ≠ []) (hd : ∀ c ∈ w, white c = false) (hr : Whead r) : ∀ {q : List Wd2}, Good q → prs (wsp (flat q ++ (w ++ r))) = q ++ (w, gapB r) :: prs (wsp r)
  | [], _ => by
    show prs (wsp ([] ++ (w ++ r))) = _
    rw [List.nil_append, prs_word hw hd hr]; rfl
  | p :: t, h => by
    obtain ⟨h1, h2⟩ := h p List.mem_cons_self
    have hh0 : lead white (flat t ++ (w ++ r)) = 0 := by
      cases t with
      | nil => show lead white ([] ++ (w ++ r)) = 0; rw [List.nil_append]; exact lead_dark_word hw hd
      | cons p' t' =>
        obtain ⟨h3, h4⟩ := h.tail p' List.mem_cons_self
        rw [show p' :: t' = [p'] ++ t' from rfl, flat_app, flat_one, List.append_assoc, List.append_assoc, List.append_assoc]
        exact lead_dark_word h3 h4
    have e : flat (p :: t) ++ (w ++ r) = p.1 ++ (([32] ++ dbl p.2) ++ (flat t ++ (w ++ r))) := by
      rw [show p :: t = [p] ++ t from rfl, flat_app, flat_one]; simp
    rw [e, prs_word (r := ([32] ++ dbl p.2) ++ (flat t ++ (w ++ r))) h1 h2 (.inr ⟨32, dbl p.2 ++ (flat t ++ (w ++ r)), rfl, white32⟩), gapB_gap hh0, prs_skip (dbl_white p.2) hh0, prs_flat hw hd hr h.tail]
    rfl
/-- the same, by the whole row -/
theorem prs_row {i r : List Nat} (hi : ∀ c ∈ i, blank c = true) (hr : Whead r) {q : List Wd2} (h : Good q) (hne : q ≠ []) : prs (wsp (i ++ body q ++ r)) = q.dropLast ++ [((q.getLast hne).1, gapB r)] ++ prs (wsp r) := by
  obtain ⟨a, p, e⟩ : ∃ a p, q = a ++ [p] := ⟨q.dropLast, q.getLast hne, (List.dropLast_concat_getLast hne).symm⟩
  subst e
  have hp : Good [p] := fun x hx => h x (List.mem_append.mpr (.inr hx))
  have ha : Good a := fun x hx => h x (List.mem_append.mpr (.inl hx))
  obtain ⟨h1, h2⟩ := hp p (by simp)
  have h0 : lead white (flat a ++ (p.1 ++ r)) = 0 := by
    cases a with
    | nil => show lead white ([] ++ (p.1 ++ r)) = 0; rw [List.nil_append]; exact lead_dark_word h1 h2
    | cons p' t' =>
      obtain ⟨h3, h4⟩ := ha p' List.mem_cons_self
      rw [show p' :: t' = [p'] ++ t' from rfl, flat_app, flat_one, List.append_assoc, List.append_assoc, List.append_assoc]
      exact lead_dark_word h3 h4
  rw [body_snoc hp, List.append_assoc, List.append_assoc, prs_skip (fun c hc => blank_white c (hi c hc)) h0, prs_flat h1 h2 hr ha]
  simp

/-! ### rows that all fit -/
end Mine
end

section
open PySem PySem.W PyProof.Rows
open PySem.SeqAt
namespace Mine

/-! ### greedy partitions from both sides -/
structure Part (W : Nat → Nat → Int) (r : Int) (n m : Nat) (e : Nat → Nat) : Prop where
  zero : e 0 = 0
  last : e m = n
  lt : ∀ k, k < m → e k < e (k + 1)
  fit : ∀ k, k < m → e (k + 1) = e k + 1 ∨ W (e k) (e (k + 1)) ≤ r
/-! ### widths -/
/-- where the rows end -/
noncomputable def endsN (qs : List (List Wd2)) (k : Nat) : Nat := ((qs.take k).flatten).length
theorem ends_succ {qs : List (List Wd2)} {k : Nat} {q : List Wd2} (h : qs[k]? = some q) : endsN qs (k + 1) = endsN qs k + q.length := by
  unfold endsN; rw [List.take_add_one, h, List.flatten_append]; simp
theorem slice_at {ps : List Wd2} {qs : List (List Wd2)} (hf : qs.flatten = ps) {k : Nat} {q : List Wd2} (h : qs[k]? = some q) : (ps.drop (endsN qs k)).take q.length = q := by
  have e : ∀ {α : Type} {qs : List (List α)} {k : Nat} {q : List α}, qs[k]? = some q → qs.flatten = (qs.take k).flatten ++ (q ++ (qs.drop (k + 1)).flatten) := by
    intro α qs
    induction qs with
    | nil => intro k q h; simp at h
    | cons x r ih =>
      intro k q h
      cases k with
      | zero => simp at h; subst h; simp
      | succ k =>
        have := ih (k := k) (q := q) (by simpa using h)
        rw [List.flatten_cons, this, List.take_succ_cons, List.flatten_cons, List.drop_succ_cons, List.append_assoc]
  rw [← hf, e h]
  unfold endsN
  rw [List.drop_left, List.take_left]
theorem wl_last {q a : List Wd2} {p : Wd2} (h : q = a ++ [p]) : wl q = wl a + (p.1.length + gap p.2) := by rw [h, wl_app]; rfl
theorem rows_k {c2 : Nat} {lim : Int} {c : Nat} {qs : List (List Wd2)} (h : Rows c2 lim c qs) : ∀ (k : Nat) (q : List Wd2), qs[k]? = some q → q ≠ [] ∧ Fits lim (if k = 0 then c else c2) q ∧
    ∀ q', qs[k + 1]? = some q' → ∃ p t, q' = p :: t ∧ lim < (((if k = 0 then c else c2) + wl q + p.1.length : Nat) : Int) := by
  induction h with
  | last h hf =>
    intro k q hq
    cases k with
    | zero => simp at hq; subst hq; exact ⟨h, hf, fun q' hq' => by simp at hq'⟩
    | succ k => simp at hq
  | more h hf hn hr ih =>
    intro k q hq
    cases k with
    | zero =>
      simp at hq; subst hq
      refine ⟨h, hf, fun q' hq' => ?_⟩
      simp at hq'; subst hq'
      exact ⟨_, _, rfl, hn⟩
    | succ k =>
      have hq2 := ih k q (by simpa using hq)
      cases k with
      | zero => exact ⟨hq2.1, hq2.2.1, fun q' hq' => hq2.2.2 q' (by simpa using hq')⟩
      | succ k => exact ⟨hq2.1, hq2.2.1, fun q' hq' => hq2.2.2 q' (by simpa using hq')⟩
/-! ### words and blanks turned round -/
end Mine
end

section
open PySem PySem.W PyProof.Rows
open PySem.SeqAt
namespace Mine
section
variable {prog : Program} {w : World} {A : Around} {E : Value → Shared → Prop} {s : Shared}
end
section
variable {c : Cx} {ρ : Env1} {b : Bool} {Q : PF → Env1 → Prop}
end
end Mine
end

section
open PySem PySem.W PyProof.Rows
open PySem.SeqAt
namespace Mine

/-! ### equal words -/
section
variable {c : Cx} {ρ : Env1} {Q : PF → Env1 → Prop}
end
end Mine
end

section
open PySem PySem.W PyProof.Rows
open PySem.SeqAt
namespace Mine

/-! ### x[i] = v on an owned list -/
section
variable {prog : Program} {w : World} {A : Around} {E : Value → Shared → Prop} {s : Shared}
theorem set_list {a : Addr} {vs : Array Value} {n : Nat} {k : Int} {t : Tok} {v : Value} {j : Nat} {Q : Unit → Shared → Prop} (l : IsL s.heap a vs n) (hj : idx k vs.size = some j) (hz : vs.size < 2 ^ 63)
    (hQ : Q () { s with heap := s.heap.update a (Obj.mapSeq (·.setIfInBounds j v)) }) : wpAny (model prog w) A (setItem (.ref a) (.int k t) v) Q E s := by
  have hl := l.isList
  obtain ⟨o, ho, hc, ne, hd⟩ := id hl
  have hb := idx_bound hj
  have hjl : j < vs.size := by rw [hb.2.2]; split <;> omega
  unfold setItem
  try with_reducible refine wpAny_holding ?_
  first | refine wpAny_bind (wpAny_pure ?_) | skip
  refine wpAny_bind (wpAny_sequenceKey hl.typeIs (by decide) ?_)
  refine wpAny_bind (wpAny_callSpecial?_slot (name := Str.ofString "__setitem__") hl.typeIs slot_list_setitem
    (wpAny_call_entry slot_list_setitem hl.typeIs entry_list_setitem ?_ (args_list_setitem _ _ _)))
  show wpAny _ _ (Builtin.List.listSubscript? (.int k t) >>= _) _ _ s
  by_cases hk : k < 0
  · refine wpAny_bind (wpAny_listSubscript_int (fitsIndex_neg hk (by omega)) ?_)
    have hidx := seqIndex_neg hk hb.1
    rw [if_pos hk] at hb
    obtain ⟨m, rfl⟩ : ∃ m : Nat, k = Int.negSucc m := by
      cases k with
      | ofNat n => exact absurd hk (Int.not_lt.mpr (Int.natCast_nonneg n))
      | negSucc n => exact ⟨n, rfl⟩
    show wpAny _ _ ((Builtin.List.listItems (.ref a) >>= fun xs => pure ((seqIndex? (Int.negSucc m) xs.size).bind fun i => xs[i]?.map (i, ·))) >>= _) _ _ s
    refine wpAny_bind (wpAny_bind ?_)
    show wpAny _ _ (seqItems? (.ref a) >>= _) _ _ s
    refine wpAny_bind (wpAny_seqItems ho hd (wpAny_pure (wpAny_pure ?_)))
    rw [hidx, ← hb.2.2]
    simp only [Option.bind_some, Array.getElem?_eq_getElem hjl, Option.map_some]
    show wpAny _ _ (setSeqItemAt a j v >>= _) _ _ s
    refine wpAny_bind (wpAny_setSeqItemAt ho hd ?_)
    first
      | exact wpAny_bind (wpAny_pure (wpAny_pure ⟨.none, rfl, wpAny_pure hQ⟩))
      | exact wpAny_pure ⟨.none, rfl, wpAny_pure hQ⟩
  · refine wpAny_bind (wpAny_listSubscript_int (fitsIndex_of (by omega) (by omega)) ?_)
    rw [if_neg hk] at hb
    obtain ⟨m, rfl⟩ := Int.eq_ofNat_of_zero_le (show 0 ≤ k by omega)
    have hm : m = j := by rw [hb.2.2]; rfl
    subst hm
    show wpAny _ _ ((seqItemAt a m >>= fun r => pure (r.map (m, ·))) >>= _) _ _ s
    refine wpAny_bind (wpAny_bind (wpAny_seqItemAt ho hd (wpAny_pure ?_)))
    rw [Array.getElem?_eq_getElem hjl]
    show wpAny _ _ (setSeqItemAt a m v >>= _) _ _ s
    refine wpAny_bind (wpAny_setSeqItemAt ho hd ?_)
    first
      | exact wpAny_bind (wpAny_pure (wpAny_pure ⟨.none, rfl, wpAny_pure hQ⟩))
      | exact wpAny_pure ⟨.none, rfl, wpAny_pure hQ⟩
end

section
variable {c : Cx} {ρ : Env1} {Q : PF → Env1 → Prop}
theorem RepAll.setAt {h : Heap} {P : Addr → Prop} {d : PV} {v : Value} (r : Rep h P d v) : ∀ {ds : List PV} {vs : List Value} (j : Nat), RepAll h P ds vs → RepAll h P (ds.set j d) (vs.set j v)
  | [], vs, j, q => by simp only [RepAll] at q; subst q; exact RepAll.nil
  | x :: ds, vs, 0, q => by
    simp only [RepAll] at q
    obtain ⟨y, ys, rfl, _, q2⟩ := q
    exact .cons r q2
  | x :: ds, vs, j + 1, q => by
    simp only [RepAll] at q
    obtain ⟨y, ys, rfl, q1, q2⟩ := q
    exact .cons q1 (RepAll.setAt r j q2)
theorem Ex1_setItem (ok : c.Ok) {x : Str} {px spos pos : Pos} {i e : Expr} {ds : List PV} {k : Int} {j : Nat} {d : PV} (hx : ρ.lookup x = some (.list ds)) (ho : c.own.contains x = true) (hp : plainName x = true) (h : Ev c ρ true e d)
    (hi : Ev c ρ false i (.int k)) (hj : idx k ds.length = some j) (hq : Q .next ((x, .list (ds.set j d)) :: ρ)) (hs : swapsWith e (some (.Subscript (.Name x px) i spos)) pos.line c.env = pure false) :
    Ex1 c ρ (.Assign [.Subscript (.Name x px) i spos] e pos) Q := .mk fun A T s ha st => by
  refine wpAny_Assign_Subscript (h.use ha st fun v s₁ e₁ st₁ r₁ => ?_) hs
  obtain ⟨v0, h1, h2, _⟩ := st₁.vars x _ hx
  obtain ⟨a, ds', vs, n, e1, rfl, e3, e4, e5, e6⟩ := h2 (List.contains_iff_mem.mp ho)
  cases e1
  refine wpAny_Name (loadVar ok h1 ?_ (plainName_spec hp).1) (plainName_spec hp).2
  refine hi.use ha st₁ fun iv s₂ e₂ st₂ r₂ => ?_
  simp only [Rep] at r₂; obtain ⟨t, rfl⟩ := r₂
  have l₂ : IsL s₂.heap a vs n := st₁.wd.list_keep e₂ (fun h => h) e4
  have hlen : vs.size = ds.length := by simpa using e5.length
  rw [sizeLine_is] at e6
  refine set_list l₂ (by rw [hlen]; exact hj) (by omega) ?_
  have lu := l₂.update (fun xs => xs.setIfInBounds j v)
  have hsb : Heap.SameBut a s₂.heap (s₂.heap.update a (Obj.mapSeq fun xs => xs.setIfInBounds j v)) := Heap.SameBut.update ..
  have rr := RepAll.setAt (r₁.ext st₁.wd e₂ |>.weak fun _ q => Cx.Q_iff.mpr q) j (e5.ext st₁.wd e₂)
  obtain ⟨st₃, ev₃⟩ := st₂.mutate (tk := s₂.toks) ok (mem_of_lookup e3) hsb lu (ρ' := (x, .list (ds.set j d)) :: ρ) (fun y d' hy => by
    rw [List.lookup_cons] at hy
    by_cases q : (y == x) = true
    · rw [q] at hy; cases hy
      refine .inr ⟨eq_of_beq q, List.contains_iff_mem.mp ho, e3, ⟨_, hx⟩, _, rfl, ?_, by rw [List.length_set, sizeLine_is]; exact e6⟩
      rw [Array.toList_setIfInBounds]; exact rr
    · simp only [q] at hy
      exact .inl ⟨fun e => q (by rw [e]; exact beq_self_eq_true _), hy⟩)
  exact ⟨_, T, .next, st₃, (Ext.evo (e₁.trans e₂)).trans (ev₃.weak fun b hb => .inr (.inr ⟨_, mem_of_lookup e3, hb⟩)), TGrow.refl, trivial, hq⟩

/-! ### a call with one owned list among its arguments -/
inductive EvLx (c : Cx) (ρ : Env1) (x : Str) : List Expr → List PV → Prop
  | nil : EvLx c ρ x [] []
  | cons {e es d ds} (h : Ev c ρ true e d) (hs : noStar e = true) (r : EvLx c ρ x es ds) : EvLx c ρ x (e :: es) (d :: ds)
  | own {pos es d ds} (h : ρ.lookup x = some d) (ho : c.own.contains x = true) (hp : plainName x = true) (r : EvLx c ρ x es ds) : EvLx c ρ x (.Name x pos :: es) (d :: ds)
noncomputable def Cx.Qx (c : Cx) (T : Own1) (x : Str) : Addr → Prop := fun a => c.Q T a ∨ T.lookup x = some a
theorem spliced_evx (ok : c.Ok) {x : Str} {pos : Pos} {es : List Expr} {ds : List PV} (h : EvLx c ρ x es ds) {A : Around} {T : Own1} {s : Shared} (ha : AOk c.rk A) (st : St c ρ T s) {E : Value → Shared → Prop}
    {Q : List Value → Shared → Prop} (k : ∀ vs s', Ext c.G s s' → St c ρ T s' → RepAll s'.heap (c.Qx T x) ds vs → Q vs s') : wpAny c.M A (spliced (backTo pos (starEach es c.env))) Q E s := by
  induction h generalizing s Q with
  | nil => exact Calls.spliced_nil (k [] s Evo.refl st RepAll.nil)
  | cons h hs r ih =>
    rw [starEach_cons hs]
    refine Calls.spliced_cons (h.use ha st fun v s₁ e₁ st₁ r₁ => ih st₁ fun vs s₂ e₂ st₂ r₂ => k _ _ (e₁.trans e₂) st₂ (.cons ((r₁.ext st₁.wd e₂).weak fun _ q => .inl (Cx.Q_iff.mpr q)) r₂))
  | own h ho hp r ih =>
    rw [starEach_cons rfl]
    refine Calls.spliced_cons ?_
    obtain ⟨v, h1, h2, _⟩ := st.vars x _ h
    obtain ⟨a, ds', vs, n, rfl, rfl, e3, e4, e5, e6⟩ := h2 (List.contains_iff_mem.mp ho)
    refine wpAny_Name (loadVar ok h1 ?_ (plainName_spec hp).1) (plainName_spec hp).2
    have rx : Rep s.heap (c.Qx T x) (.list ds') (.ref a) := by
      simp only [Rep]
      exact ⟨a, vs, n, rfl, .inr e3, e4, e5.weak fun _ q => .inl q, e6⟩
    exact ih st fun us s₂ e₂ st₂ r₂ => k _ _ e₂ st₂ (.cons (rx.ext st.wd e₂) r₂)
theorem evalArgs_evx (ok : c.Ok) {x : Str} {f : Value} {pos : Pos} {es : List Expr} {ds : List PV} (h : EvLx c ρ x es ds) {A : Around} {T : Own1} {s : Shared} (ha : AOk c.rk A) (st : St c ρ T s) {E : Value → Shared → Prop}
    {Q : Args → Shared → Prop} (k : ∀ vs s', Ext c.G s s' → St c ρ T s' → RepAll s'.heap (c.Qx T x) ds vs → Q ⟨vs, []⟩ s') : wpAny c.M A (evalArgs f true (backTo pos (starEach es c.env)) []) Q E s := by
  have := spliced_evx (pos := pos) ok h ha st (E := E) k
  cases h with
  | nil => exact PySem.evalArgs_none (k [] s Evo.refl st RepAll.nil)
  | cons h hs r =>
    rw [starEach_cons hs] at this ⊢
    exact Calls.evalArgs_plain this
  | own h ho hp r =>
    rw [starEach_cons rfl] at this ⊢
    exact Calls.evalArgs_plain this
variable {mg mb : Str → Option Value}
/-- the answer is a list that isn't the owned one -/
theorem Ev_callOwn (ok : c.Ok) (g : Gl c.G mg mb) {y x : Str} {p pos : Pos} {es : List Expr} {fa : Addr} {k : Nat} {f : List PV → PV → Prop} {ds : List PV} {d e₀ : List PV} (hk : c.env.kindOf y = some .globalImplicit)
    (hf : FnAt c.G mg y fa) (hp : plainName y = true) (hF : Fn c.G k fa f) (hle : k ≤ c.rk) (h : EvLx c ρ x es ds) (hd : f ds (.list d)) (hx : ρ.lookup x = some (.list e₀)) (ho : c.own.contains x = true) (hne : d ≠ e₀) (hkin : PV.kins d e₀ = true) (hd' : flats d = true) : Ev c ρ true (.Call (.Name y p) es [] pos) (.list d) := .mk fun A T s ha st => by
  rw [eval_Call_Name]
  refine wpAny_bind (load_global ok g hk hf.glob hp st.wd ?_)
  obtain ⟨o, fd, ho', hod⟩ := hf.obj
  refine Calls.callWith_function (o := o) (fd := fd) (evalArgs_evx ok h ha st fun vs s₁ e₁ st₁ r => ⟨⟨st₁.wd.old _ _ ho' (g.tb _ _ ho' (not_codeLike_func hod)), hod⟩, ?_⟩)
  refine wpAny_call (codeAny_mono (hF.run A s₁ (c.Qx T x) vs ds (.list d) (ha.mono hle) st₁.wd (fun a hn => .inl (st₁.newP ok hn)) r hd) ?_)
  rintro r s' ⟨v, rfl, e, q⟩
  refine ⟨e₁.trans e, ?_⟩
  simp only [Rep] at q ⊢
  obtain ⟨a, us, n, rfl, ha', l, ra, z⟩ := q
  refine ⟨a, us, n, rfl, ?_, l, RepAll.flats hd' ra, z⟩
  rcases ha' with ha' | ha'
  · exact Cx.Q_iff.mp ha'
  · exfalso
    obtain ⟨v0, h1, h2, _⟩ := st₁.vars x _ hx
    obtain ⟨a', ds', vs', n', q1, q2, q3, q4, q5, q6⟩ := h2 (List.contains_iff_mem.mp ho)
    cases q1
    rw [ha'] at q3; cases q3
    have l' : IsL s'.heap a vs' n' := st₁.wd.list_keep e (fun h => h) q4
    have l1 : s'.heap.get? a = _ := l
    have l2 : s'.heap.get? a = _ := l'
    rw [l1] at l2
    injection l2 with l2
    injection l2 with _ _ l3
    injection l3 with l3
    subst l3
    exact hne (RepAll.unique hkin ra (q5.ext st₁.wd e))

/-! ### x, y = [], 0 where x is owned -/
end

/-! ### items.count(x) -/
theorem count_rep {s : Shared} {P P' : Addr → Prop} {A : Around} {a : PV} {v : Value} (hu : A.units + 200 < cLine) (hf : a.flat = true) (ra : Rep s.heap P a v) {ds : List PV} {vs : List Value} (r : RepAll s.heap P' ds vs) (hk : ∀ d ∈ ds, PV.kin d a = true ∧ PV.deep d ≤ 64) :
      ∃ e : Value → Bool, (∀ y ∈ vs, EqAt A.in1 s y v (e y)) ∧ vs.countP e = ds.countP fun d => PV.eqv d a := by
  classical
  have key : ∀ d y, d ∈ ds → Rep s.heap P' d y → decide (∃ d ∈ ds, Rep s.heap P' d y ∧ PV.eqv d a = true) = PV.eqv d a := fun d y hm rd => by
    cases q : PV.eqv d a with
    | true => exact decide_eq_true ⟨d, hm, rd, q⟩
    | false =>
      refine decide_eq_false ?_
      rintro ⟨d', hd', rd', q''⟩
      rw [Rep.unique_flat (PV.kin_flat hf (hk d' hd').1) (PV.kin_flat hf (hk d hm).1) rd' rd] at q''
      rw [q] at q''; cases q''
  refine ⟨fun y => decide (∃ d ∈ ds, Rep s.heap P' d y ∧ PV.eqv d a = true), fun y hy => ?_, ?_⟩
  · obtain ⟨i, hi⟩ := List.getElem?_of_mem hy
    obtain ⟨d, hd, rd⟩ := r.get' hi
    have hm := List.mem_of_getElem? hd
    have := (eqAt_rep 64 d a y v A.in1 (hk d hm).2 (hk d hm).1 (by show A.units + 1 + 64 < _; omega) rd ra).1
    show EqAt A.in1 s y v (decide (∃ d ∈ ds, Rep s.heap P' d y ∧ PV.eqv d a = true))
    rw [key d y hm rd]; exact this
  · have gen : ∀ (es : List PV) (us : List Value), (∀ d ∈ es, d ∈ ds) → RepAll s.heap P' es us → us.countP (fun y => decide (∃ d ∈ ds, Rep s.heap P' d y ∧ PV.eqv d a = true)) = es.countP fun d => PV.eqv d a := by
      intro es
      induction es with
      | nil => intro us _ q; simp only [RepAll] at q; subst q; rfl
      | cons x es ih =>
        intro us hs q
        simp only [RepAll] at q
        obtain ⟨y, ys, rfl, q1, q2⟩ := q
        rw [List.countP_cons, List.countP_cons, ih ys (fun d hd => hs d (List.mem_cons_of_mem _ hd)) q2, key x y (hs x List.mem_cons_self) q1]
    exact gen ds vs (fun d h => h) r
theorem BiOk_count {G : Wo} {ds : List PV} {a : PV} (hf : a.flat = true) (hk : ∀ d ∈ ds, PV.kin d a = true ∧ PV.deep d ≤ 64) : BiOk G (.builtin "list.count") [.list ds, a] (.int (ds.countP fun d => PV.eqv d a : Nat)) := .mk fun A s P vs hh _ hu wd r₀ => by
  obtain ⟨v, u, rfl, r, r2⟩ := r₀.inv2
  simp only [Rep] at r
  obtain ⟨b, us, n, rfl, _, l, ra, z⟩ := r
  obtain ⟨e, he, hc⟩ := count_rep hu hf r2 ra hk
  refine call_meets PySem.F.slot_list_count l.isList.typeIs PySem.F.entry_list_count (PySem.F.args_list_count_2 _ _) (PySem.SeqAt.list_countAt b us n _ _ u e) ⟨l, fun y hy => he y (by simpa using hy), ?_⟩
  refine ⟨Ext.tok, ?_⟩
  simp only [Rep]
  exact ⟨_, by rw [hc]⟩
end Mine
end

section
open PySem PySem.W PyProof.Rows
open PySem.SeqAt
namespace Mine
section
variable {c : Cx} {ρ : Env1} {Q : PF → Env1 → Prop}
/-- x, y = [], 0 where x is owned and lies in a cell -/
theorem Ex1_tupleOwn (ok : c.Ok) {px py tk tpos k' tpos' pos} {e1 e2 : Expr} {x y : Str} {ds : List PV} {i : Int} (h1 : EvF c ρ e1 ds) (h2 : Ev c ρ true e2 (.int i)) (hs1 : noStar e1 = true) (hs2 : noStar e2 = true) (hyn : ρ.lookup y = none)
    (hkx : storable c x = true) (hky : storable c y = true) (hox : c.own.contains x = true) (hoy : c.own.contains y = false)
    (hq : Q .next ((x, .list ds) :: (y, .int i) :: ρ))
    (hs : swapsWithSole [.Tuple [.Name x px, .Name y py] tk tpos] (.Tuple [e1, e2] k' tpos') pos.line c.env = pure false) (hw : swappedStores [.Tuple [.Name x px, .Name y py] tk tpos] (.Tuple [e1, e2] k' tpos') c.env = pure none) : Ex1 c ρ (.Assign [.Tuple [.Name x px, .Name y py] tk tpos] (.Tuple [e1, e2] k' tpos') pos) Q := .mk fun A T s ha st => by
  refine Assign_Tuple (wpAny_Tuple ?_) hs hw
  rw [starEach_cons hs1, starEach_cons hs2]
  refine Calls.spliced_cons (wpAny_mono (h1.run A T s ha st) (fun v s₁ ⟨e₁, a, vs, n, hv, hn, l, r, z⟩ => ?_) fun _ _ x => x.elim)
  subst hv
  have st₁ := st.ext e₁
  refine Calls.spliced_cons (h2.use ha st₁ fun u s₂ e₂ st₂ ru => ?_)
  refine Calls.spliced_nil ?_
  simp only [Rep] at ru; obtain ⟨t, rfl⟩ := ru
  refine ⟨by rw [sizeLine_is]; show 2 ≤ 16777216; decide, ?_⟩
  have e3 : Ext c.G s₂ { s₂ with heap := s₂.heap.push { cls := .type "tuple", data := .seq [Value.ref a, .int i t].toArray } } := Ext.push'
  show wpAny c.M A (do standAt tpos; unpack _ (assignEach _ c.env)) _ _ _
  refine wpAny_bind (wpAny_standAt ?_)
  unfold unpack
  refine wpAny_bind (wpAny_holding ?_)
  refine unpackItems_tuple ha.handled (items := [Value.ref a, .int i t].toArray) ⟨_, Heap.get?_push_size _ rfl, rfl, _, rfl⟩ fun h' he => ?_
  have e4 := ext_new (c := c) he
  have e13 := e₁.trans ((e₂.trans e3).trans e4)
  have st₄ := st.ext e13
  have l₄ := st₁.wd.list_keep ((e₂.trans e3).trans e4) (fun h => h) l
  have r₄ := r.ext st₁.wd ((e₂.trans e3).trans e4)
  show wpAny _ _ (do holding [Value.int i t] (assign (.Name x px) c.env (.ref a)); assignInOrder _ [Value.int i t]) _ _ _
  have hyo : y ∉ c.own := fun q => by rw [List.contains_iff_mem.mpr q] at hoy; cases hoy
  have hox' := List.contains_iff_mem.mp hox
  have hxy : y ≠ x := fun q => hyo (q ▸ hox')
  refine wpAny_bind (wpAny_holding (PyProof.Rows.assign_Name (st₄.storing ok (storable_spec hkx) fun s₅ e₅ hl₅ hns₅ hmc₅ hx₅ hy₅ => ?_)))
  have r₅ : RepAll s₅.heap (fun x => c.Q T x ∧ x ≠ a) ds vs.toList := r₄.evo st₄.wd e₅ (fun _ h q => Cx.Q_notX h.1 (Cx.Xs_X q))
  have e05 : Evo c.G c.Xs s s₅ := (Ext.evo e13).trans e₅
  have st₅ := st.finalOwn ok hox' hn e05 (fun b vs n l => hl₅ _ _ _ (st.wd.list_keep e13 (fun h => h) l)) hns₅ hmc₅ hx₅ (fun zz ww q1 h => hy₅ _ _ q1 (VarAt.ext st e13 h)) (hl₅ _ _ _ l₄) r₅ z
  show wpAny _ _ (do holding [] (assign (.Name y py) c.env (.int i t)); assignInOrder _ []) _ _ _
  refine wpAny_bind (wpAny_holding (PyProof.Rows.assign_Name (st₅.storing ok (storable_spec hky) fun s₆ e₆ hl₆ hns₆ hmc₆ hx₆ hy₆ => ?_)))
  refine wpAny_pure ?_
  have st₆ : St c ((y, .int i) :: (x, .list ds) :: ρ) ((x, a) :: T) s₆ := st₅.final ok hyo e₆ hl₆ hns₆ hmc₆ hx₆ hy₆ (by simp only [Rep]; exact ⟨_, rfl⟩)
  have st₇ := st₆.sub (ρ := (x, .list ds) :: (y, .int i) :: ρ) (fun zz d hd => by
    by_cases q : zz = x
    · subst q
      rw [lookup_cons_self] at hd; cases hd
      rw [lookup_cons_ne (fun q => hxy q.symm), lookup_cons_self]
    · rw [lookup_cons_ne q] at hd
      by_cases q2 : zz = y
      · subst q2; rw [lookup_cons_self] at hd ⊢; exact hd
      · rw [lookup_cons_ne q2] at hd ⊢
        rw [lookup_cons_ne q]; exact hd)
  refine ⟨_, _, .next, st₇, (e05.trans e₆).weak fun _ => Cx.Xs_X, ⟨fun p hp => List.mem_cons_of_mem _ hp, fun p hp => ?_⟩, trivial, hq⟩
  rcases List.mem_cons.mp hp with rfl | hp
  · exact .inr hn
  · exact .inl hp
end
end Mine
end

section
open PySem PySem.W PyProof.Rows
namespace Mine
set_option maxRecDepth 100000 in
set_option maxHeartbeats 8000000 in
open_top hd for PySem.Challenge.rw_dm0161_03
end Mine
end

section
open PySem PySem.W PyProof.Rows
open PySem.SeqAt
namespace Mine
local macro_rules | `(tactic| one_item) => `(tactic| first | exact BinOk.addI | exact BinOk.subI | exact BinOk.modI (by decide) | exact BinOk.mulI (.of_right (by decide)) | exact CmpOk.lt | exact CmpOk.le | exact CmpOk.gt | exact CmpOk.ge)
local macro_rules | `(tactic| pv_eval) => `(tactic| first
  | exact Ev_int | exact Ev_none | exact Ev_bool | exact Ev_str (by decide)
  | exact Ev_name (by assumption) rfl rfl rfl
  | exact Ev_nameOwn (by assumption) rfl rfl rfl
  | exact EvL.nil
  | (refine' EvL.cons ?h rfl ?r; (case h => pv_eval); (case r => pv_eval))
  | exact EvO.no
  | (refine' EvO.yes ?h; (case h => pv_eval))
  | exact EvS_nameOwn (by assumption) rfl rfl rfl
  | (refine' EvF_list (by assumption) ?h rfl; (case h => pv_eval))
  | (refine' EvF_cat (by assumption) ?h ?r ?z; (case h => pv_eval); (case r => pv_eval); (case z => decide))
  | (refine' EvF_lsl (by assumption) ?h ?l ?r; (case h => pv_eval); (case l => pv_eval); (case r => pv_eval))
  | (refine' Ev_neg ?h; (case h => pv_eval))
  | (refine' Ev_ssl ?h ?l ?r; (case h => pv_eval); (case l => pv_eval); (case r => pv_eval))
  | (refine' Ev_bin ?h ?r ?o; (case h => pv_eval); (case r => pv_eval); (case o => one_item))
  | (refine' Ev_cmp ?h ?r ?o rfl; (case h => pv_eval); (case r => pv_eval); (case o => one_item))
  | (refine' EvF.seq ?h; (case h => pv_eval))
  | (refine' Ev.seq ?h; (case h => pv_eval))
  | (refine' EvF.ev (by assumption) ?h; (case h => pv_eval)))
noncomputable abbrev W0 (prog : Program) (w : World) (s : Shared) : Wo := woT prog w s [(59, 55)]
theorem tabs {w : World} {s₁ : Shared} {p : Program} {loose : List Str} {mean : ExcName → Option Value} {mg mb : Str → Option Value} (KX : (hd.heap_39 w.params).In s₁.heap) (T : Top p loose mean mg mb s₁.heap) (h : ((recsOf p).any (fun d => d.name == "reformat_comment")) = true) : Tabs s₁.heap [(59, 55)] := by
  refine ⟨fun p hp => ?_, by simp⟩
  simp only [List.mem_cons, List.not_mem_nil, or_false] at hp
  rcases hp with rfl
  · obtain ⟨d, hd, hn⟩ := List.any_eq_true.mp h
    obtain ⟨a, o, fd, c, P, h1, h2, h3, h4, h5, h6⟩ := T.tab d hd
    rw [beq_iff_eq] at hn
    have e1 : mg "reformat_comment" = some (.ref 60) := by rw [ns_at T.g (KX 3 _ rfl) rfl]; rfl
    rw [hn, e1] at h1; cases h1
    rw [KX 60 _ rfl] at h2; cases h2
    cases h3
    cases h4
    obtain ⟨⟨o, vs, q1, q2, q3, q4⟩, q5⟩ := id h6
    rw [KX 59 _ rfl] at q1; cases q1
    cases q3
    cases q4
    exact ⟨_, h6, h5⟩
section
variable {w : World} {s₁ : Shared} {prog : Program} {mg mb : Str → Option Value}

theorem pat_twin3 (KX : (hd.heap_39 w.params).In s₁.heap) : PatAt (W0 prog w s₁).h₁ 36 C3 1 := ⟨_, _, _, _, _, _, _, _, _, KX 36 _ rfl, rfl, rfl, KX 35 _ rfl, rfl⟩
theorem pat_twin4 (KX : (hd.heap_39 w.params).In s₁.heap) : PatAt (W0 prog w s₁).h₁ 41 C4 0 := ⟨_, _, _, _, _, _, _, _, _, KX 41 _ rfl, rfl, rfl, KX 40 _ rfl, rfl⟩
theorem pat_twin5 (KX : (hd.heap_39 w.params).In s₁.heap) : PatAt (W0 prog w s₁).h₁ 46 C5 1 := ⟨_, _, _, _, _, _, _, _, _, KX 46 _ rfl, rfl, rfl, KX 45 _ rfl, rfl⟩
theorem mg_twin3 (KX : (hd.heap_39 w.params).In s₁.heap) (N : s₁.heap.Ns mainGlobals mg) : mg "_twin_re_3" = some (.ref 36) := by rw [ns_at N (KX 3 _ rfl) rfl]; rfl
theorem mg_twin4 (KX : (hd.heap_39 w.params).In s₁.heap) (N : s₁.heap.Ns mainGlobals mg) : mg "_twin_re_4" = some (.ref 41) := by rw [ns_at N (KX 3 _ rfl) rfl]; rfl
theorem mg_twin5 (KX : (hd.heap_39 w.params).In s₁.heap) (N : s₁.heap.Ns mainGlobals mg) : mg "_twin_re_5" = some (.ref 46) := by rw [ns_at N (KX 3 _ rfl) rfl]; rfl
theorem mg_iaw (KX : (hd.heap_39 w.params).In s₁.heap) (N : s₁.heap.Ns mainGlobals mg) : mg "is_all_white" = some (.ref 67) := by rw [ns_at N (KX 3 _ rfl) rfl]; rfl
theorem mg_ind (KX : (hd.heap_39 w.params).In s₁.heap) (N : s₁.heap.Ns mainGlobals mg) : mg "get_indent" = some (.ref 74) := by rw [ns_at N (KX 3 _ rfl) rfl]; rfl
theorem mg_rp (KX : (hd.heap_39 w.params).In s₁.heap) (N : s₁.heap.Ns mainGlobals mg) : mg "reformat_paragraph" = some (.ref 53) := by rw [ns_at N (KX 3 _ rfl) rfl]; rfl
theorem mg_rc (KX : (hd.heap_39 w.params).In s₁.heap) (N : s₁.heap.Ns mainGlobals mg) : mg "reformat_comment" = some (.ref 60) := by rw [ns_at N (KX 3 _ rfl) rfl]; rfl
theorem mg_law_ends (KX : (hd.heap_39 w.params).In s₁.heap) (N : s₁.heap.Ns mainGlobals mg) : mg "_law_ends" = some (.ref 79) := by rw [ns_at N (KX 3 _ rfl) rfl]; rfl
theorem mg_law (KX : (hd.heap_39 w.params).In s₁.heap) (N : s₁.heap.Ns mainGlobals mg) : mg "law" = some (.ref 84) := by rw [ns_at N (KX 3 _ rfl) rfl]; rfl
theorem mgn_len (KX : (hd.heap_39 w.params).In s₁.heap) (N : s₁.heap.Ns mainGlobals mg) : mg "len" = none := by rw [ns_at N (KX 3 _ rfl) rfl]; rfl
theorem mgn_range (KX : (hd.heap_39 w.params).In s₁.heap) (N : s₁.heap.Ns mainGlobals mg) : mg "range" = none := by rw [ns_at N (KX 3 _ rfl) rfl]; rfl
theorem mgn_max (KX : (hd.heap_39 w.params).In s₁.heap) (N : s₁.heap.Ns mainGlobals mg) : mg "max" = none := by rw [ns_at N (KX 3 _ rfl) rfl]; rfl
theorem mgn_min (KX : (hd.heap_39 w.params).In s₁.heap) (N : s₁.heap.Ns mainGlobals mg) : mg "min" = none := by rw [ns_at N (KX 3 _ rfl) rfl]; rfl

theorem fn_iaw (g : Gl (W0 prog w s₁) mg mb) (KX : (hd.heap_39 w.params).In s₁.heap) : Fn (W0 prog w s₁) 1 67 iawF := by
  refine Fn_of g (fnDef_of (params := ["line"]) (KX 67 _ rfl) rfl rfl rfl rfl rfl rfl rfl rfl (KX 66 _ rfl) rfl rfl (len1 fun a => rfl) (notTb rfl) rfl rfl rfl rfl) [] 0 ⟨rfl, fun x _ => rfl⟩ (fun ds d ⟨y, h, _⟩ => by rw [h]; rfl) ?_
  rintro P h₀ ds d ok ⟨y, rfl, rfl⟩
  refine Ex_cons (Ex1_return (d := .bool ((Sl y).all white)) ?_ rfl)
  cases hw : (Sl y).all white with
  | true =>
    refine Ev_cmp (d₁ := matchPV y 41 y.length (-1) []) (Ev_match (y := y) ok g rfl (mg_twin4 KX g.g) rfl (pat_twin4 KX) rfl rfl (Ev_name ok rfl rfl rfl) (fun hy => ?_)) Ev_none .isNotO rfl
    have := MatchR4 (pa := 41) hy
    rw [if_pos hw] at this
    exact this
  | false =>
    refine Ev_cmp (Ev_match (y := y) ok g rfl (mg_twin4 KX g.g) rfl (pat_twin4 KX) rfl rfl (Ev_name ok rfl rfl rfl) (fun hy => ?_)) Ev_none .isNotNN rfl
    have := MatchR4 (pa := 41) hy
    rw [if_neg (by rw [hw]; simp)] at this
    exact this
theorem at_iaw (g : Gl (W0 prog w s₁) mg mb) (KX : (hd.heap_39 w.params).In s₁.heap) : FnAt (W0 prog w s₁) mg "is_all_white" 67 := fnAt_of (mg_iaw KX g.g) (KX 67 _ rfl) rfl

theorem fn_ind (g : Gl (W0 prog w s₁) mg mb) (KX : (hd.heap_39 w.params).In s₁.heap) : Fn (W0 prog w s₁) 1 74 indF := by
  refine Fn_of g (fnDef_of (params := ["line"]) (KX 74 _ rfl) rfl rfl rfl rfl rfl rfl rfl rfl (KX 73 _ rfl) rfl rfl (len1 fun a => rfl) (notTb rfl) rfl rfl rfl rfl) [] 0 ⟨rfl, fun x _ => rfl⟩ (fun ds d ⟨y, h, _⟩ => by rw [h]; rfl) ?_
  rintro P h₀ ds d ok ⟨y, rfl, rfl⟩
  refine Ex_cons (Ex1_return ?_ rfl)
  exact Ev_meth ok rfl rfl plainAttrs_mat slot_mat_group type_mat_group (by decide) rep_mat_type (Ev_match (y := y) ok g rfl (mg_twin5 KX g.g) rfl (pat_twin5 KX) rfl rfl (Ev_name ok rfl rfl rfl) MatchR5) .nil BiOk_group
theorem at_ind (g : Gl (W0 prog w s₁) mg mb) (KX : (hd.heap_39 w.params).In s₁.heap) : FnAt (W0 prog w s₁) mg "get_indent" 74 := fnAt_of (mg_ind KX g.g) (KX 74 _ rfl) rfl

theorem iaw_ev (g : Gl (W0 prog w s₁) mg mb) (KX : (hd.heap_39 w.params).In s₁.heap) {c : Cx} (hG : c.G = W0 prog w s₁) (ok : c.Ok) (hk : c.env.kindOf "is_all_white" = some .globalImplicit) (hr : 1 ≤ c.rk) {ρ : Env1} {e : Expr} {p pos : Pos} {l : List Nat} (hs : noStar e = true) (h : Ev c ρ true e (.str (mkS l))) :
    Ev c ρ true (.Call (.Name "is_all_white" p) [e] [] pos) (.bool (isw l)) := by
  have g' : Gl c.G mg mb := by rw [hG]; exact g
  have a' := at_iaw g KX
  rw [← hG] at a'
  have f' := fn_iaw g KX
  rw [← hG] at f'
  exact Ev_callU ok g' hk a' rfl f' hr (.cons h hs .nil) ⟨mkS l, rfl, rfl⟩
theorem ind_ev (g : Gl (W0 prog w s₁) mg mb) (KX : (hd.heap_39 w.params).In s₁.heap) {c : Cx} (hG : c.G = W0 prog w s₁) (ok : c.Ok) (hk : c.env.kindOf "get_indent" = some .globalImplicit) (hr : 1 ≤ c.rk) {ρ : Env1} {e : Expr} {p pos : Pos} {l : List Nat} (hs : noStar e = true) (h : Ev c ρ true e (.str (mkS l))) :
    Ev c ρ true (.Call (.Name "get_indent" p) [e] [] pos) (.str (mkS (indt l))) := by
  have g' : Gl c.G mg mb := by rw [hG]; exact g
  have a' := at_ind g KX
  rw [← hG] at a'
  have f' := fn_ind g KX
  rw [← hG] at f'
  exact Ev_callU ok g' hk a' rfl f' hr (.cons h hs .nil) ⟨mkS l, rfl, rfl⟩

set_option maxHeartbeats 1000000 in
theorem fn_rpG (g : Gl (W0 prog w s₁) mg mb) (KX : (hd.heap_39 w.params).In s₁.heap) : Fn (W0 prog w s₁) 2 53 rpG := by
  refine Fn_of g (fnDef_of (params := ["data", "limit"]) (KX 53 _ rfl) rfl rfl rfl rfl rfl rfl rfl rfl (KX 52 _ rfl) rfl rfl (len2 fun a b => rfl) (notTb rfl) rfl rfl rfl rfl) ["new"] 1 ⟨rfl, fun x hx => by simp at hx; rcases hx with rfl | rfl <;> rfl⟩ (fun ds d ⟨y, l, M, h, _⟩ => by rw [h]; rfl) ?_
  rintro P h₀ ds d ok ⟨y, lim, M, rfl, hy, hM, hin, hMD, rfl⟩
  have hsum := sum_spl 10 y
  have hne := spl_ne 10 y
  have hLn := spl_len 10 y
  refine Ex_cons (Ex1_assign ok (d := .list (SS (spl 10 y))) (Ev_meth (d₀ := .str (mkS y)) ok rfl rfl PySem.F.plainAttrs_str PySem.F.slot_str_split PySem.F.type_str_split (by decide) rep_str_type (Ev_name ok rfl rfl rfl) (.cons (Ev_str (by decide)) rfl .nil) (BiOk_split (x := mkS y) (c := 10) (by rw [sizeLine_is]; show (spl 10 y).length ≤ _; omega))) ?_ rfl rfl rfl)
  unfold rp rpSet
  have hMD' : (2 + M) * y.length + 3 * y.length + M + 5 ≤ 12000000 := by
    have e : (M + 5) * (y.length + 1) = M * y.length + 5 * y.length + M + 5 := by rw [Nat.add_mul, Nat.mul_add, Nat.mul_add]; omega
    have e2 : (2 + M) * y.length = 2 * y.length + M * y.length := Nat.add_mul ..
    omega
  generalize spl 10 y = L at hsum hne hLn hin
  have hsL : sumL L ≤ y.length ∧ L.length ≤ y.length + 1 := by
    have : sumL L + L.length = y.length + 1 := hsum
    have : 1 ≤ L.length := by cases L with
      | nil => exact absurd rfl hne
      | cons => simp
    omega
  refine Ex_cons (Ex1_assign ok (d := .int ((0 : Nat) : Int)) (by pv_eval) ?_ rfl rfl rfl)
  refine Ex_cons (Ex1_assign ok (d := .int (L.length : Nat)) (Ev_callB ok g rfl (mgn_len KX g.g) PySem.boot_len rfl (by decide) (.cons (Ev_name ok rfl rfl rfl) rfl .nil) (by simpa [SS] using BiOk_len_list (ds := SS L))) ?_ rfl rfl rfl)
  have hk : (L.takeWhile isw).length ≤ L.length := tw_len _ _
  refine Ex_cons (Ex1_while (fun n ρ => ∃ i, i ≤ (L.takeWhile isw).length ∧ n = (L.takeWhile isw).length - i ∧ SubEnv [("n", .int (L.length : Nat)), ("i", .int (i : Nat)), ("lines", .list (SS L)), ("limit", .int lim), ("data", .str (mkS y))] ρ) (L.takeWhile isw).length ⟨0, Nat.zero_le _, rfl, .put rfl (.put rfl (.put rfl (.put rfl (.put rfl .nil))))⟩ ?_)
  rintro n ρ ⟨i, hi, rfl, hρ⟩
  refine ⟨decide (i < (L.takeWhile isw).length), IsT1.sub hρ ?_, fun h => ?_, fun h => ?_⟩
  · refine IsT1.cast (d := decide ((i : Int) < (L.length : Nat)) && decide (i < (L.takeWhile isw).length)) ?_ (IsT_and2 (IsT_cmp (by pv_eval) (by pv_eval) .lt rfl) fun hlt => ?_)
    · by_cases hh : i < (L.takeWhile isw).length
      · have : i < L.length := by omega
        simp [hh, this]
      · simp [hh]
    · have hlt' : i < L.length := by simpa using hlt
      have hget := List.getElem?_eq_getElem hlt'
      refine IsT1.cast ?_ (IsT_call (d := .bool (isw L[i])) rfl (iaw_ev g KX rfl ok rfl (Nat.le_refl _) rfl (Ev_item (Ev.seq (Ev_name ok rfl rfl rfl)) (Ev_name ok rfl rfl rfl) (idx_nat (by simpa [SS] using hlt')) (SS_get hget) (fun _ _ => rfl))).any)
      show isw L[i] = _
      by_cases hh : i < (L.takeWhile isw).length
      · rw [take_while_get hh hget]; simp [hh]
      · have e : i = (L.takeWhile isw).length := by omega
        have : isw L[i] = false := take_while_end (p := isw) (l := L) (by rw [← e]; exact hget)
        rw [this]; simp [hh]
  · refine Ex.sub ?_ hρ
    have hk' := of_decide_eq_true h
    refine Ex_cons (Ex1_assign ok (by pv_eval) ?_ rfl rfl rfl)
    exact Ex_nil ⟨_, by omega, i + 1, by omega, rfl, .put rfl (.put rfl (.put rfl (.put rfl (.put rfl .nil))))⟩
  have hik : i = (L.takeWhile isw).length := by have := of_decide_eq_false h; omega
  refine Ex.sub ?_ hρ
  have hdrop := tw_drop isw L
  rw [← hik] at hdrop
  have htake := tw_take isw L
  rw [← hik] at htake
  refine Ex_cons (Ex1_if (k := decide (L.length ≤ i)) (IsT1.cast (d := decide ((i : Int) ≥ (L.length : Nat))) (by simp) (IsT_cmp (by pv_eval) (by pv_eval) .ge rfl)) (fun h => ?_) fun h => Ex_nil ?_)
  · have hh := of_decide_eq_true h
    rw [← hdrop, List.drop_eq_nil_of_le hh]
    exact Ex_cons (Ex1_return (by pv_eval) rfl)
  have hlt : i < L.length := by have := of_decide_eq_false h; omega
  have hcons : L.dropWhile isw = L[i] :: L.drop (i + 1) := by rw [← hdrop]; exact List.drop_eq_getElem_cons hlt
  rw [hcons]
  have hget := List.getElem?_eq_getElem hlt
  generalize hr : L[i] = r at hget hcons
  generalize hmore : L.drop (i + 1) = more at hcons
  show Ex _ _ _ _
  simp only
  refine Ex_cons (Ex1_assign ok (ind_ev g KX rfl ok rfl (Nat.le_refl _) rfl (Ev_item (Ev.seq (Ev_name ok rfl rfl rfl)) (Ev_name ok rfl rfl rfl) (idx_nat (by simpa [SS] using hlt)) (SS_get hget) (fun _ _ => rfl))) ?_ rfl rfl rfl)
  have hmem : r ∈ L := List.mem_of_getElem? hget
  have hrl := sumL_mem hmem
  have hrw : isw r = false := take_while_end (p := isw) (l := L) (by rw [← hik]; exact hget)
  have hi1 : (indt r).length ≤ M := by have := hin r hmem hrw; unfold indt; rw [List.length_take]; omega
  have hi2 : (ind2 (indt r) more).length ≤ M := by
    cases more with
    | nil => exact hi1
    | cons q t =>
      show (if isw q = true then indt r else indt q).length ≤ M
      split
      · exact hi1
      · rename_i hq
        have hqL : q ∈ L := List.mem_of_mem_drop (i := i + 1) (by rw [hmore]; exact List.mem_cons_self)
        have := hin q hqL (by simpa using hq)
        unfold indt; rw [List.length_take]; omega
  have hnx : ∀ (hh : i + 1 < L.length), more = L[i + 1] :: L.drop (i + 2) := fun hh => by rw [← hmore]; exact List.drop_eq_getElem_cons hh
  refine Ex_if (k := decide (i + 1 < L.length) && !(isw (more.getD 0 []))) [("indent2", .str (mkS (ind2 (indt r) more))), ("indent1", .str (mkS (indt r))), ("n", .int (L.length : Nat)), ("i", .int (i : Nat)), ("lines", .list (SS L)), ("limit", .int lim)] ?_ (fun h => ?_) (fun h => ?_) ?_
  · refine IsT1.cast (d := decide (((i : Int) + 1) < (L.length : Nat)) && !(isw (more.getD 0 []))) (by congr 1; exact decide_eq_decide.mpr (by omega)) (IsT_and2 (IsT_cmp (by pv_eval) (by pv_eval) .lt rfl) fun hh => IsT_not ?_)
    have hh' : i + 1 < L.length := by have := of_decide_eq_true hh; omega
    refine IsT1.cast ?_ (IsT_call (d := .bool (isw L[i + 1])) rfl (iaw_ev g KX rfl ok rfl (Nat.le_refl _) rfl (Ev_item (j := i + 1) (Ev.seq (Ev_name ok rfl rfl rfl)) (by pv_eval) (by have := idx_nat (i := i + 1) (n := (SS L).length) (by simpa [SS] using hh'); simpa using this) (SS_get (List.getElem?_eq_getElem hh')) (fun _ _ => rfl))).any)
    rw [hnx hh']; rfl
  · rw [Bool.and_eq_true] at h
    have hh' : i + 1 < L.length := by have := of_decide_eq_true h.1; omega
    refine Ex_cons (Ex1_assign ok (ind_ev g KX rfl ok rfl (Nat.le_refl _) rfl (Ev_item (j := i + 1) (Ev.seq (Ev_name ok rfl rfl rfl)) (by pv_eval) (by have := idx_nat (i := i + 1) (n := (SS L).length) (by simpa [SS] using hh'); simpa using this) (SS_get (List.getElem?_eq_getElem hh')) (fun _ _ => rfl))) ?_ rfl rfl rfl)
    refine Ex_nil (.put ?_ (.put rfl (.put rfl (.put rfl (.put rfl (.put rfl .nil))))))
    have h2 := h.2
    rw [hnx hh'] at h2 ⊢
    have h2' : (!isw L[i + 1]) = true := h2
    have h3 : isw L[i + 1] = false := by simpa using h2'
    show some _ = some _
    congr 3
    show indt L[i + 1] = if isw L[i + 1] = true then indt r else indt L[i + 1]
    rw [if_neg (by rw [h3]; simp)]
  · refine Ex_cons (Ex1_assign ok (by pv_eval) ?_ rfl rfl rfl)
    refine Ex_nil (.put ?_ (.put rfl (.put rfl (.put rfl (.put rfl (.put rfl .nil))))))
    show some _ = some _
    congr 3
    by_cases hh : i + 1 < L.length
    · rw [hnx hh] at h ⊢
      have h' : (decide (i + 1 < L.length) && !isw L[i + 1]) = false := h
      have h3 : isw L[i + 1] = true := by simpa [hh] using h'
      show indt r = if isw L[i + 1] = true then indt r else indt L[i + 1]
      rw [if_pos h3]
    · rw [← hmore, List.drop_eq_nil_of_le (by omega)]; rfl
  have hnew : (L.takeWhile isw).length ≤ 50001 := by omega
  refine Ex_cons (Ex1_assignOwn ok (ds := SS (L.takeWhile isw)) (EvF.cast (by rw [lsl_to, ← htake, SS, SS, List.map_take]) (EvF_lsl ok (Ev.seq (Ev_name ok rfl rfl rfl)) .no (.yes (Ev_name ok rfl rfl rfl)))) ?_ rfl rfl rfl)
  refine Ex_cons (Ex1_assign ok (by pv_eval) ?_ rfl rfl rfl)
  generalize hI2 : ind2 (indt r) more = I2 at hi2
  generalize hI1 : indt r = I1 at hi1
  have hpl := tw_len (fun l => !isw l) (r :: more)
  have hcl : (r :: more).length + i = L.length := by rw [← hcons, ← hdrop, List.length_drop]; omega
  have hpg : ∀ j, (r :: more)[j]? = L[i + j]? := fun j => by rw [← hcons, ← hdrop, List.getElem?_drop]
  have hsub : ∀ j, sumL (((r :: more).takeWhile fun l => !isw l).take j) ≤ y.length := fun j => by
    refine Nat.le_trans (sumL_le ((List.take_sublist j _).trans ((List.takeWhile_sublist _).trans ?_))) hsL.1
    rw [← hcons]; exact List.dropWhile_sublist _
  generalize hpara : ((r :: more).takeWhile fun l => !isw l) = para at hpl hsub
  have hst0 : (L.takeWhile isw, I1).2.length ≤ 50001 ∧ (L.takeWhile isw, I1).1.length ≤ 50001 := ⟨by simpa using by omega, by simpa using hnew⟩
  refine Ex_cons (Ex1_while (fun n ρ => ∃ j, j ≤ para.length ∧ n = para.length - j ∧ SubEnv [("partial", .str (mkS (rowsOf I1 I2 lim (para.take j) (L.takeWhile isw, I1)).2)), ("new", .list (SS (rowsOf I1 I2 lim (para.take j) (L.takeWhile isw, I1)).1)), ("i", .int ((i + j : Nat) : Int)), ("indent2", .str (mkS I2)), ("indent1", .str (mkS I1)), ("n", .int (L.length : Nat)), ("lines", .list (SS L)), ("limit", .int lim)] ρ) para.length ⟨0, Nat.zero_le _, rfl, .put rfl (.put rfl (.put rfl (.put rfl (.put rfl (.put rfl (.put rfl (.put rfl .nil)))))))⟩ ?_)
  rintro n ρ ⟨j, hj, rfl, hρ⟩
  refine ⟨decide (j < para.length), IsT1.sub hρ ?_, fun h => ?_, fun h => ?_⟩
  · refine IsT1.cast (d := decide (((i + j : Nat) : Int) < (L.length : Nat)) && decide (j < para.length)) ?_ (IsT_and2 (IsT_cmp (by pv_eval) (by pv_eval) .lt rfl) fun hlt => ?_)
    · by_cases hh : j < para.length
      · have : i + j < L.length := by omega
        simp only [hh, decide_true, Bool.and_true]
        exact decide_eq_true (by omega)
      · simp [hh]
    · have hlt' : i + j < L.length := by have := of_decide_eq_true hlt; omega
      have hget' := List.getElem?_eq_getElem hlt'
      refine IsT1.cast ?_ (IsT_not (IsT_call (d := .bool (isw L[i + j])) rfl (iaw_ev g KX rfl ok rfl (Nat.le_refl _) rfl (Ev_item (Ev.seq (Ev_name ok rfl rfl rfl)) (Ev_name ok rfl rfl rfl) (idx_nat (by simpa [SS] using hlt')) (SS_get hget') (fun _ _ => rfl))).any))
      show (!isw L[i + j]) = _
      by_cases hh : j < para.length
      · rw [take_while_get (p := fun l => !isw l) (l := r :: more) (i := j) (by rw [hpara]; exact hh) (by rw [hpg]; exact hget')]; simp [hh]
      · have e : j = para.length := by omega
        rw [take_while_end (p := fun l => !isw l) (l := r :: more) (by rw [hpara, ← e, hpg]; exact hget')]; simp [hh]
  · have hj' := of_decide_eq_true h
    refine Ex.sub ?_ hρ
    have hlt' : i + j < L.length := by omega
    have hget' := List.getElem?_eq_getElem hlt'
    have hpj : para[j]? = some L[i + j] := by rw [← hpara, ← tw_take, List.getElem?_take_of_lt (by rw [hpara]; exact hj'), hpg]; exact hget'
    generalize L[i + j] = l at hget' hpj
    have hll := sumL_mem (List.mem_of_getElem? hget')
    have hwc := wsp_count _ l rfl
    have hsz : (wsp l).length ≤ sizeLine := by rw [sizeLine_is]; omega
    refine Ex_cons (Ex1_assign ok (d := .list (SS (wsp l))) (Ev_resplit (y := mkS l) ok g rfl (mg_twin3 KX g.g) rfl (pat_twin3 KX) rfl rfl (Ev_item (Ev.seq (Ev_name ok rfl rfl rfl)) (Ev_name ok rfl rfl rfl) (idx_nat (by simpa [SS] using hlt')) (SS_get hget') (fun _ _ => rfl)) hsz) ?_ rfl rfl rfl)
    have hbig : Builtin.Range.small 0 ((wsp l).length : Nat) 2 = true := by
      have : (wsp l).length ≤ 100001 := by omega
      exact small_two (by omega)
    generalize hst : rowsOf I1 I2 lim (para.take j) (L.takeWhile isw, I1) = st
    refine Ex_cons (Ex1_for ok (d := .range 0 ((wsp l).length : Nat) 2) (Ev_callT ok g rfl (mgn_range KX g.g) boot_range rfl (by decide) (.cons Ev_int rfl (.cons (d := .int ((wsp l).length : Nat)) (Ev_callB ok g rfl (mgn_len KX g.g) PySem.boot_len rfl (by decide) (.cons (Ev_name ok rfl rfl rfl) rfl .nil) (by simpa [SS] using BiOk_len_list (ds := SS (wsp l)))) rfl (.cons Ev_int rfl .nil))) (BiOk_range3 (by decide) (PyProof.noPylong_small (by decide)))) (.range hbig)
      (fun q ρ => SubEnv [("partial", .str (mkS ((pre (wsp l) q).foldl (put I1 I2 lim) st).2)), ("new", .list (SS ((pre (wsp l) q).foldl (put I1 I2 lim) st).1)), ("words", .list (SS (wsp l))), ("i", .int ((i + j : Nat) : Int)), ("indent2", .str (mkS I2)), ("indent1", .str (mkS I1)), ("n", .int (L.length : Nat)), ("lines", .list (SS L)), ("limit", .int lim)] ρ)
      (.put rfl (.put rfl (.put rfl (.put rfl (.put rfl (.put rfl (.put rfl (.put rfl (.put rfl .nil))))))))) ?_ ?_ (fun _ => rfl))
    · intro q d ρ hd hI
      obtain ⟨hq, rfl⟩ := range2_get hd
      refine ⟨_, Asg_name ok rfl rfl, ?_⟩
      refine Ex.sub ?_ (SubEnv.both hI)
      have hp7 := row_p (i1 := I1) (i2 := I2) (lim := lim) (ls := para.take j) (st := (L.takeWhile isw, I1)) (ps := pre (wsp l) q) (D := 50001) hst0.1 (by omega) (by have := hsub j; omega) (by have := pre_sum (l := l) (i := q) (by omega); omega) (fun p => pre_ne)
      have hn7 := row_n (i1 := I1) (i2 := I2) (lim := lim) (ls := para.take j) (st := (L.takeWhile isw, I1)) (ps := pre (wsp l) q) (D := 50001) hst0.2 (by have := hsub j; omega) (by have := pre_sum (l := l) (i := q) (by omega); omega) (fun p => pre_ne)
      rw [hst] at hp7 hn7
      have hps := pre_succ (wsp l) q
      have h2q : 2 * q < (wsp l).length := by omega
      have hgetw := List.getElem?_eq_getElem h2q
      have hgd : (wsp l).getD (2 * q) [] = (wsp l)[2 * q] := by rw [List.getD_eq_getElem?_getD, hgetw]; rfl
      rw [hgd] at hps
      generalize hwd : (wsp l)[2 * q] = wd at hps hgetw
      have hwl := wsp_part (List.mem_of_getElem? hgetw)
      show Ex _ _ _ _
      rw [hps, List.foldl_append]
      generalize (pre (wsp l) q).foldl (put I1 I2 lim) st = sq at hp7 hn7
      refine Ex_cons (Ex1_assign ok (d := .str (mkS wd)) (Ev_item (Ev.seq (Ev_name ok rfl rfl rfl)) (Ev_name ok rfl rfl rfl) (idx_nat (by simpa [SS] using h2q)) (SS_get hgetw) (fun _ _ => rfl)) ?_ rfl rfl rfl)
      refine Ex_cons (Ex1_if (k := wd.isEmpty) (IsT1.cast (by simp [PV.truth]) (IsT_not (IsT_name (d := .str (mkS wd)) rfl (Ev_name ok rfl rfl rfl)))) (fun h => ?_) fun h => Ex_nil ?_)
      · have : wd = [] := by simpa using h
        subst this
        refine Ex_cons (Ex1_continue ?_)
        exact .put rfl (.put rfl (.put rfl (.put rfl (.put rfl (.put rfl (.put rfl (.put rfl (.put rfl .nil))))))))
      have hwne : wd ≠ [] := by intro e; subst e; simp at h
      have hxt := xt_le 8 (by decide) (sq.2 ++ wd) 0
      rw [List.length_append] at hxt
      refine Ex_if (k := brk I1 lim sq wd) [("partial", .str (mkS (turn I1 I2 lim sq wd).2)), ("new", .list (SS (turn I1 I2 lim sq wd).1)), ("word", .str (mkS wd)), ("j", .int ((2 * q : Nat) : Int)), ("words", .list (SS (wsp l))), ("i", .int ((i + j : Nat) : Int)), ("indent2", .str (mkS I2)), ("indent1", .str (mkS I1)), ("n", .int (L.length : Nat)), ("lines", .list (SS L)), ("limit", .int lim)] ?_ (fun h => ?_) (fun h => ?_) ?_
      · refine IsT1.cast (d := decide (((xt 8 0 (sq.2 ++ wd)).length : Nat) > lim) && (sq.2 != I1)) rfl (IsT_and2 (IsT_cmp (d₁ := .int ((xt 8 0 (sq.2 ++ wd)).length : Nat)) (Ev_callB ok g rfl (mgn_len KX g.g) PySem.boot_len rfl (by decide) (.cons (Ev_meth (d₀ := .str (mkS (sq.2 ++ wd))) (d := .str (mkS (xt 8 0 (sq.2 ++ wd)))) ok rfl rfl PySem.F.plainAttrs_str PySem.F.slot_str_expandtabs PySem.F.type_str_expandtabs (by decide) rep_str_type (Ev.cast ?_ (Ev_bin (Ev_name ok rfl rfl rfl) (Ev_name ok rfl rfl rfl) (.addS ?_))) .nil (BiOk_expand ?_)) rfl .nil) BiOk_len_mkS) (by pv_eval) .gt rfl) fun _ => ?_)
        · show PV.str (mkS sq.2 ++ mkS wd) = _
          exact congrArg PV.str (Str_ext (Sl_append _ _))
        · show (mkS sq.2).length + (mkS wd).length ≤ _
          rw [Str_len, Str_len, sizeLine_is]; show sq.2.length + wd.length ≤ _; omega
        · rw [sizeLine_is]; show (xt 8 0 (sq.2 ++ wd)).length ≤ _; omega
        · refine IsT1.cast ?_ (IsT_cmp (d₁ := .str (mkS sq.2)) (d₂ := .str (mkS I1)) (by pv_eval) (by pv_eval) (.ne rfl (Nat.zero_le _)) rfl)
          rw [eqv_mkS]; rfl
      · have ht : turn I1 I2 lim sq wd = (sq.1 ++ [rstr white sq.2], I2) := by unfold turn; rw [if_pos h]
        rw [ht]
        refine Ex_cons (Ex1_append ok rfl rfl rfl (d := .str (mkS (rstr white sq.2))) (Ev_meth (d₀ := .str (mkS sq.2)) ok rfl rfl PySem.F.plainAttrs_str PySem.F.slot_str_rstrip PySem.F.type_str_rstrip (by decide) rep_str_type (Ev_name ok rfl rfl rfl) .nil BiOk_rstrip) (by rw [sizeLine_is, List.length_map]; omega) rfl rfl rfl ?_)
        refine Ex_cons (Ex1_assign ok (by pv_eval) ?_ rfl rfl rfl)
        refine Ex_nil (.put rfl (.put ?_ (.put rfl (.put rfl (.put rfl (.put rfl (.put rfl (.put rfl (.put rfl (.put rfl (.put rfl .nil)))))))))))
        show some _ = some _
        simp [SS]
      · have ht : turn I1 I2 lim sq wd = sq := by unfold turn; rw [if_neg (by rw [h]; simp)]
        rw [ht]
        exact Ex_nil (.put rfl (.put rfl (.put rfl (.put rfl (.put rfl (.put rfl (.put rfl (.put rfl (.put rfl (.put rfl (.put rfl .nil)))))))))))
      · have htp := turn_p I1 I2 lim sq wd
        have hput : ∀ s', (one wd s').foldl (put I1 I2 lim) sq = ((turn I1 I2 lim sq wd).1, (turn I1 I2 lim sq wd).2 ++ wd ++ [32] ++ dbl (match s' with | none => false | some t => t != [32])) := fun s' => by
          unfold one; rw [if_neg hwne]; rfl
        rw [hput]
        generalize turn I1 I2 lim sq wd = tq at htp
        have hmx : tq.2.length ≤ 360000 := by omega
        refine Ex_cons (Ex1_assign ok (d := .str (mkS (tq.2 ++ wd ++ [32]))) (Ev.cast ?_ (Ev_bin (Ev_bin (d := .str (mkS tq.2 ++ mkS wd)) (Ev_name ok rfl rfl rfl) (Ev_name ok rfl rfl rfl) (.addS ?_)) (Ev_str (by decide)) (.addS (y := mkS [32]) ?_))) ?_ rfl rfl rfl)
        · show PV.str (mkS tq.2 ++ mkS wd ++ mkS [32]) = _
          exact congrArg PV.str (Str_ext (by rw [Sl_append, Sl_append]))
        · show (mkS tq.2).length + (mkS wd).length ≤ _
          rw [Str_len, Str_len, sizeLine_is]; show tq.2.length + wd.length ≤ _; omega
        · rw [Str_len, Str_len, sizeLine_is, Sl_append]
          show (tq.2 ++ wd).length + 1 ≤ _
          rw [List.length_append]; omega
        refine Ex_cons (Ex1_if (k := (match (wsp l)[2 * q + 1]? with | none => false | some t => t != [32])) ?_ (fun h => ?_) fun h => Ex_nil ?_)
        · refine IsT1.cast (d := decide (((2 * q : Nat) : Int) + 1 < ((wsp l).length : Nat)) && (match (wsp l)[2 * q + 1]? with | none => false | some t => t != [32])) ?_ (IsT_and2 (IsT_cmp (by pv_eval) (d₂ := .int ((wsp l).length : Nat)) (Ev_callB ok g rfl (mgn_len KX g.g) PySem.boot_len rfl (by decide) (.cons (Ev_name ok rfl rfl rfl) rfl .nil) (by simpa [SS] using BiOk_len_list (ds := SS (wsp l)))) .lt rfl) fun hh => ?_)
          · by_cases hh : 2 * q + 1 < (wsp l).length
            · have : decide (((2 * q : Nat) : Int) + 1 < ((wsp l).length : Nat)) = true := decide_eq_true (by omega)
              rw [this, Bool.true_and]
            · rw [List.getElem?_eq_none (by omega)]; simp
          · have hh' : 2 * q + 1 < (wsp l).length := by have := of_decide_eq_true hh; omega
            have hg2 := List.getElem?_eq_getElem hh'
            rw [hg2]
            refine IsT1.cast ?_ (IsT_cmp (d₁ := .str (mkS (wsp l)[2 * q + 1])) (d₂ := .str (mkS [32])) (Ev_item (j := 2 * q + 1) (Ev.seq (Ev_name ok rfl rfl rfl)) (by pv_eval) (by have := idx_nat (i := 2 * q + 1) (n := (SS (wsp l)).length) (by simpa [SS] using hh'); simpa using this) (SS_get hg2) (fun _ _ => rfl)) (Ev_str (by decide)) (.ne rfl (Nat.zero_le _)) rfl)
            rw [eqv_mkS]; rfl
        · rw [h]
          refine Ex_cons (Ex1_assign ok (d := .str (mkS (tq.2 ++ wd ++ [32] ++ [32]))) (Ev.cast ?_ (Ev_bin (Ev_name ok rfl rfl rfl) (Ev_str (by decide)) (.addS (y := mkS [32]) ?_))) ?_ rfl rfl rfl)
          · show PV.str (mkS (tq.2 ++ wd ++ [32]) ++ mkS [32]) = _
            exact congrArg PV.str (Str_ext (Sl_append _ _))
          · rw [Str_len, Str_len, sizeLine_is]
            show (tq.2 ++ wd ++ [32]).length + 1 ≤ _
            rw [List.length_append, List.length_append]; simp; omega
          · exact Ex_nil (Ex_nil (.put rfl (.put rfl (.put rfl (.put rfl (.put rfl (.put rfl (.put rfl (.put rfl (.put rfl .nil))))))))))
        · rw [h]
          refine Ex_nil (.put ?_ (.put rfl (.put rfl (.put rfl (.put rfl (.put rfl (.put rfl (.put rfl (.put rfl .nil)))))))))
          show some _ = some _
          simp [dbl]
    · intro ρ hI
      refine Ex.sub ?_ hI
      refine Ex_cons (Ex1_assign ok (by pv_eval) ?_ rfl rfl rfl)
      have hlen : (rangeL 0 ((wsp l).length : Nat) 2).length = ((wsp l).length + 1) / 2 := by unfold rangeL; rw [List.length_map, List.length_range, rangeSize2]
      have hsn : rowsOf I1 I2 lim (para.take (j + 1)) (L.takeWhile isw, I1) = (pre (wsp l) (rangeL 0 ((wsp l).length : Nat) 2).length).foldl (put I1 I2 lim) st := by
        rw [hlen, pre_all, ← hst, ← rowsOf_snoc, List.take_add_one, hpj]; rfl
      rw [← hsn]
      refine Ex_nil ⟨_, by omega, j + 1, by omega, rfl, .put rfl (.put rfl (.put rfl (.put rfl (.put rfl (.put rfl (.put rfl (.put rfl .nil)))))))⟩
  have hjp : j = para.length := by have := of_decide_eq_false h; omega
  refine Ex.sub ?_ hρ
  have hpt : para.take j = para := by rw [hjp]; exact List.take_length
  rw [hpt]
  have hn7 := row_n (i1 := I1) (i2 := I2) (lim := lim) (ls := para) (st := (L.takeWhile isw, I1)) (ps := []) (D := 50001) hst0.2 (by have := hsub j; rw [hpt] at this; omega) (by simp [sumw]) (fun p h => by cases h)
  have ha7 := row_all (i1 := I1) (i2 := I2) (lim := lim) (ls := para) (st := (L.takeWhile isw, I1)) (D := y.length) (I := M) (by omega) (by have := hsub j; rw [hpt] at this; omega)
  have hs0 : sumL (L.takeWhile isw) ≤ y.length := Nat.le_trans (sumL_le (List.takeWhile_sublist _)) hsL.1
  simp only [List.foldl_nil] at hn7
  generalize rowsOf I1 I2 lim para (L.takeWhile isw, I1) = st at hn7 ha7
  have htail : L.drop (i + j) = (r :: more).dropWhile fun l => !isw l := by rw [← tw_drop, hpara, ← hjp, ← hcons, ← hdrop, List.drop_drop]
  refine Ex_cons (Ex1_append ok rfl rfl rfl (d := .str (mkS (rstr white st.2))) (Ev_meth (d₀ := .str (mkS st.2)) ok rfl rfl PySem.F.plainAttrs_str PySem.F.slot_str_rstrip PySem.F.type_str_rstrip (by decide) rep_str_type (Ev_name ok rfl rfl rfl) .nil BiOk_rstrip) (by rw [sizeLine_is, List.length_map]; omega) rfl rfl rfl ?_)
  have hdl : (L.drop (i + j)).length ≤ 50001 := by rw [List.length_drop]; omega
  refine Ex_cons (Ex1_extend ok (ds := SS (st.1 ++ [rstr white st.2])) (es := SS (L.drop (i + j))) (by show some _ = some _; simp [SS]) rfl rfl (EvF.ev ok (EvF.cast (by rw [lsl_from, SS, SS, List.map_drop]) (EvF_lsl ok (Ev.seq (Ev_name ok rfl rfl rfl)) (.yes (Ev_name ok rfl rfl rfl)) .no))) (by rw [sizeLine_is, List.length_map, List.length_map, List.length_append]; simp; omega) rfl rfl rfl ?_)
  refine Ex_cons (Ex1_return (d := .str (mkS (jl (st.1 ++ [rstr white st.2] ++ L.drop (i + j))))) (Ev_meth (d₀ := .str (mkS [10])) (ds := [.list (SS (st.1 ++ [rstr white st.2] ++ L.drop (i + j)))]) ok rfl rfl PySem.F.plainAttrs_str PySem.F.slot_str_join PySem.F.type_str_join (by decide) rep_str_type (Ev_str (by decide)) (.cons (Ev_nameOwn ok (by show some _ = some _; simp [SS]) rfl rfl) rfl .nil) (BiOk_joinN ?_)) ?_)
  · have h1 := rstr_len white st.2
    have h2 : sumL (L.drop (i + j)) ≤ y.length := Nat.le_trans (sumL_le (List.drop_sublist _ _)) hsL.1
    simp only [sumL_app, List.length_append, List.length_cons, List.length_nil]
    rw [sizeLine_is]
    have h3 : sumL [rstr white st.2] = (rstr white st.2).length := by simp [sumL]
    have h4 : (L.takeWhile isw, I1).2.length = I1.length := rfl
    have h5 : sumL (L.takeWhile isw, I1).1 = sumL (L.takeWhile isw) := rfl
    omega
  · show PV.str _ = PV.str _
    rw [htail]
theorem at_rp (g : Gl (W0 prog w s₁) mg mb) (KX : (hd.heap_39 w.params).In s₁.heap) : FnAt (W0 prog w s₁) mg "reformat_paragraph" 53 := fnAt_of (mg_rp KX g.g) (KX 53 _ rfl) rfl

set_option maxHeartbeats 1000000 in
theorem fn_rcG (g : Gl (W0 prog w s₁) mg mb) (KX : (hd.heap_39 w.params).In s₁.heap) (X : Tabs s₁.heap [(59, 55)]) (BM : BMain s₁.heap mg) : Fn (W0 prog w s₁) 3 60 rcG := by
  refine Fn_of g (fnDef_of (params := ["data", "limit", "comment_header"]) (KX 60 _ rfl) rfl rfl rfl rfl rfl rfl rfl rfl (KX 59 _ rfl) rfl rfl (len3 fun a b c => rfl) (notTb rfl) rfl rfl rfl rfl) [] 2 ⟨rfl, fun x hx => rfl⟩ (fun ds d ⟨y, l, k, M, h, _⟩ => by rw [h]; rfl) ?_
  rintro P h₀ ds d ok ⟨y, lim, h, M, rfl, hy, hy2, hM, hin, hMD, hh, rfl⟩
  have CG : ∀ env : Env, env.code = .ref 59 → CodeGo (W0 prog w s₁) env := fun env hc => codeGo_of (P := 55) X (by simp) hc
  have hsum := sum_spl 10 y
  have hLn := spl_len 10 y
  have hcl := cut_len h.length y
  have hcs := sum_spl 10 (cut h.length y)
  rw [spl_cut] at hcs
  refine Ex_cons (Ex1_assign ok (d := .int (h.length : Nat)) (Ev_callB ok g rfl (mgn_len KX g.g) PySem.boot_len rfl (by decide) (.cons (Ev_name ok rfl rfl rfl) rfl .nil) BiOk_len_mkS) ?_ rfl rfl rfl)
  refine Ex_cons (Ex1_assign ok (d := .str (mkS (cut h.length y))) (Ev.cast (congrArg PV.str (cut_jn h.length y)) (Ev_joinGen (sep := mkS [10]) ok g (CG _ rfl) BM rfl rfl (Ev_str (by decide)) ((spl 10 y).map mkS) _ (Ev.cast (d := .list (SS (spl 10 y))) (by rw [SS_strs]) (Ev_meth (d₀ := .str (mkS y)) ok rfl rfl PySem.F.plainAttrs_str PySem.F.slot_str_split PySem.F.type_str_split (by decide) rep_str_type (Ev_name ok rfl rfl rfl) (.cons (Ev_str (by decide)) rfl .nil) (BiOk_split (x := mkS y) (c := 10) (by rw [sizeLine_is]; show (spl 10 y).length ≤ _; omega))))
    (by rw [sizeLine_is, List.length_map]; omega) rfl rfl rfl rfl rfl rfl (fun _ => rfl) (GenElt_cut rfl rfl rfl rfl rfl rfl rfl rfl) ?_)) ?_ rfl rfl rfl)
  · have e : ((spl 10 y).map mkS).map (fun z => ssl z (some (h.length : Int)) none) = ((spl 10 y).map (List.drop h.length)).map mkS := by
      rw [List.map_map, List.map_map]
      exact List.map_congr_left fun l _ => ssl_drop l h.length
    rw [e, sum_lensS, sizeLine_is, List.length_map, List.length_map]
    have := sumL_map_drop h.length (spl 10 y)
    rw [show (mkS [10]).length = 1 from rfl, Nat.mul_one]
    have h2 : sumL (spl 10 y) + (spl 10 y).length = y.length + 1 := hsum
    omega
  refine Ex_cons (Ex1_assign ok (d := .int (wid lim h)) (Ev_callB ok g rfl (mgn_max KX g.g) (by decide +kernel : bootBuiltins "max" = some (.builtin "max")) rfl (by decide) (.cons (Ev_bin (by pv_eval) (Ev_callB (d := .int (h.length : Nat)) ok g rfl (mgn_len KX g.g) PySem.boot_len rfl (by decide) (.cons (Ev_name ok rfl rfl rfl) rfl .nil) BiOk_len_mkS) .subI) rfl (.cons Ev_int rfl .nil)) BiOk_max2) ?_ rfl rfl rfl)
  refine Ex_cons (Ex1_assign ok (d := .str (mkS (rp (cut h.length y) (wid lim h)))) (Ev_callU ok g rfl (at_rp g KX) rfl (fn_rpG g KX) (Nat.le_refl _) (.cons (Ev_name ok rfl rfl rfl) rfl (.cons (Ev_name ok rfl rfl rfl) rfl .nil)) ⟨_, _, M, rfl, hy2, hM, by rw [spl_cut]; exact hin, hMD, rfl⟩) ?_ rfl rfl rfl)
  have hsp := spl_rp (cut h.length y) (wid lim h)
  rw [spl_cut] at hsp
  have hRl := @rpR_len ((spl 10 y).map (List.drop h.length)) (wid lim h)
  have hds := sumL_map_drop h.length (spl 10 y)
  have h2 : sumL (spl 10 y) + (spl 10 y).length = y.length + 1 := hsum
  have hcs' : sumL ((spl 10 y).map (List.drop h.length)) + ((spl 10 y).map (List.drop h.length)).length = (cut h.length y).length + 1 := hcs
  have hne1 : 1 ≤ ((spl 10 y).map (List.drop h.length)).length := by
    rw [List.length_map]
    cases e : spl 10 y with
    | nil => exact absurd e (spl_ne 10 y)
    | cons => simp
  have hRs := @rpR_sumM ((spl 10 y).map (List.drop h.length)) (wid lim h) (cut h.length y).length M (by omega) hin
  have hRn : rpR ((spl 10 y).map (List.drop h.length)) (wid lim h) ≠ [] := rpR_ne (by simp [spl_ne])
  refine Ex_cons (Ex1_assign ok (d := .list (SS (rcR y lim h))) (Ev.cast (by rw [← hsp.symm.trans rfl]; rfl) (Ev_meth (d₀ := .str (mkS (rp (cut h.length y) (wid lim h)))) ok rfl rfl PySem.F.plainAttrs_str PySem.F.slot_str_split PySem.F.type_str_split (by decide) rep_str_type (Ev_name ok rfl rfl rfl) (.cons (Ev_str (by decide)) rfl .nil) (BiOk_split (x := mkS (rp (cut h.length y) (wid lim h))) (c := 10) (by rw [sizeLine_is]; show (spl 10 (rp (cut h.length y) (wid lim h))).length ≤ _; rw [hsp]; omega)))) ?_ rfl rfl rfl)
  unfold rc
  have eR : rcR y lim h = rpR ((spl 10 y).map (List.drop h.length)) (wid lim h) := rfl
  rw [← eR] at hRl hRs hRn
  generalize rcR y lim h = R at hRl hRs hRn
  refine Ex_cons (Ex1_assign ok (d := .str (mkS [])) (Ev_str (by decide)) ?_ rfl rfl rfl)
  have hpos : 0 < R.length := by cases R with
    | nil => exact absurd rfl hRn
    | cons => simp
  have hlast : R[R.length - 1]? = some (R.getLast hRn) := by rw [List.getElem?_eq_getElem (by omega), List.getLast_eq_getElem]
  have hl? : R.getLast? = some (R.getLast hRn) := List.getLast?_eq_some_getLast hRn
  refine Ex_if (k := (R.getLast hRn).isEmpty) [("newdata", .list (SS (if (R.getLast hRn).isEmpty then R.dropLast else R))), ("block_suffix", .str (mkS (if (R.getLast hRn).isEmpty then [10] else []))), ("comment_header", .str (mkS h))] ?_ (fun hk => ?_) (fun hk => ?_) ?_
  · refine IsT1.cast ?_ (IsT_not (IsT_sub (d := .str (mkS (R.getLast hRn))) rfl (Ev_item (k := -1) (j := R.length - 1) (Ev.seq (Ev_name ok rfl rfl rfl)) (by pv_eval) (by rw [List.length_map]; exact idx_last hpos) (SS_get hlast) (fun _ _ => rfl))))
    simp [PV.truth]
  · rw [if_pos hk, if_pos hk]
    refine Ex_cons (Ex1_assign ok (d := .str (mkS [10])) (Ev_str (by decide)) ?_ rfl rfl rfl)
    refine Ex_cons (Ex1_assign ok (d := .list (SS R.dropLast)) (EvF.ev ok (EvF.cast (by rw [lsl_butlast, SS, SS, List.map_dropLast]) (EvF_lsl ok (Ev.seq (Ev_name ok rfl rfl rfl)) .no (.yes (i := -1) (by pv_eval))))) ?_ rfl rfl rfl)
    exact Ex_nil (.put rfl (.put rfl (.put rfl .nil)))
  · rw [if_neg (by rw [hk]; simp), if_neg (by rw [hk]; simp)]
    exact Ex_nil (.put rfl (.put rfl (.put rfl .nil)))
  have hRe : rcOf h R = under h (if (R.getLast hRn).isEmpty then R.dropLast else R) ++ (if (R.getLast hRn).isEmpty then [10] else []) := by
    unfold rcOf
    rw [hl?]
    cases e : R.getLast hRn with
    | nil => simp
    | cons a t => simp
  rw [hRe]
  have hsuf : (if (R.getLast hRn).isEmpty then [10] else ([] : List Nat)).length ≤ 1 := by split <;> simp
  have hfin : (if (R.getLast hRn).isEmpty then R.dropLast else R).length ≤ R.length ∧ sumL (if (R.getLast hRn).isEmpty then R.dropLast else R) ≤ sumL R := by
    split
    · exact ⟨by rw [List.length_dropLast]; omega, sumL_le (List.dropLast_sublist _)⟩
    · exact ⟨Nat.le_refl _, Nat.le_refl _⟩
  generalize (if (R.getLast hRn).isEmpty then R.dropLast else R) = R' at hfin
  generalize (if (R.getLast hRn).isEmpty then [10] else ([] : List Nat)) = sf at hsuf
  have hhl2 : h.length + 1 ≤ ((cut h.length y).length + 2) * (h.length + 1) := Nat.le_mul_of_pos_left (h.length + 1) (show 0 < (cut h.length y).length + 2 by omega)
  have hhl : h.length ≤ 16000000 := by omega
  have hRR : R'.length ≤ (cut h.length y).length + 2 := by omega
  have hmul : R'.length * (h.length + 1) ≤ ((cut h.length y).length + 2) * (h.length + 1) := Nat.mul_le_mul_right _ hRR
  have hmul2 : R'.length * (h.length + 1) = R'.length * h.length + R'.length := by rw [Nat.mul_add, Nat.mul_one]
  have hMD' : (2 + M) * (cut h.length y).length + 3 * (cut h.length y).length + ((cut h.length y).length + 2) * (h.length + 1) ≤ 16000000 := by
    have e : (M + 5) * ((cut h.length y).length + 1) = M * (cut h.length y).length + 5 * (cut h.length y).length + M + 5 := by rw [Nat.add_mul, Nat.mul_add, Nat.mul_add]; omega
    have e2 : (2 + M) * (cut h.length y).length = 2 * (cut h.length y).length + M * (cut h.length y).length := Nat.add_mul ..
    omega
  have hul : (under h R').length ≤ 16000000 := by
    have := jl_len (R'.map (h ++ ·))
    rw [sumL_under, List.length_map] at this
    unfold under
    omega
  refine Ex_cons (Ex1_return (d := .str (mkS (under h R' ++ sf))) (Ev.cast (congrArg PV.str (mkS_app _ _)) (Ev_bin (d₁ := .str (mkS (under h R'))) (Ev.cast (congrArg PV.str (under_jn h R')) (Ev_joinGen (sep := mkS [10]) ok g (CG _ rfl) BM rfl rfl (Ev_str (by decide)) (R'.map mkS) _ (Ev.cast (by rw [SS_strs]) (Ev_name ok rfl rfl rfl)) (by rw [sizeLine_is, List.length_map]; omega) rfl rfl rfl rfl rfl rfl (fun _ => rfl) (GenElt_add rfl rfl rfl rfl rfl rfl rfl rfl ?_) ?_)) (Ev_name ok rfl rfl rfl) (.addS ?_))) rfl)
  · intro z hz
    obtain ⟨l, hl, rfl⟩ := List.mem_map.mp hz
    have := sumL_mem hl
    rw [mkS_len, mkS_len, sizeLine_is]; omega
  · have e : (R'.map mkS).map (fun z => mkS h ++ z) = (R'.map (h ++ ·)).map mkS := by
      rw [List.map_map, List.map_map]
      exact List.map_congr_left fun l _ => mkS_app h l
    rw [e, sum_lensS, sumL_under, List.length_map, List.length_map, sizeLine_is]
    rw [show (mkS [10]).length = 1 from rfl, Nat.mul_one]
    omega
  · rw [mkS_len, mkS_len, sizeLine_is]; omega
theorem fn_rc (g : Gl (W0 prog w s₁) mg mb) (KX : (hd.heap_39 w.params).In s₁.heap) (X : Tabs s₁.heap [(59, 55)]) (BM : BMain s₁.heap mg) : Fn (W0 prog w s₁) 3 60 rcF := (fn_rcG g KX X BM).of fun ds d h => rcF_G h
theorem at_rc (g : Gl (W0 prog w s₁) mg mb) (KX : (hd.heap_39 w.params).In s₁.heap) : FnAt (W0 prog w s₁) mg "reformat_comment" 60 := fnAt_of (mg_rc KX g.g) (KX 60 _ rfl) rfl
end

/-! ### settings again and again -/
/-- a row's last blank is a single one when it is read again -/
noncomputable def clr : List Wd2 → List Wd2
  | [] => []
  | [p] => [(p.1, false)]
  | p :: q :: r => p :: clr (q :: r)
theorem clr_snoc : ∀ (a : List Wd2) (p : Wd2), clr (a ++ [p]) = a ++ [(p.1, false)]
  | [], p => rfl
  | [x], p => rfl
  | x :: y :: a, p => by
    have := clr_snoc (y :: a) p
    rw [List.cons_append, List.cons_append] at *
    rw [clr]
    rw [show y :: (a ++ [p]) = (y :: a) ++ [p] from rfl, clr_snoc (y :: a) p]; rfl
theorem snoc_of {α : Type} {q : List α} (h : q ≠ []) : ∃ a p, q = a ++ [p] := ⟨q.dropLast, q.getLast h, (List.dropLast_concat_getLast h).symm⟩
theorem clr_fst (q : List Wd2) : (clr q).map (·.1) = q.map (·.1) := by
  by_cases h : q = []
  · subst h; rfl
  · obtain ⟨a, p, rfl⟩ := snoc_of h
    rw [clr_snoc]; simp
noncomputable def nxt (qs : List (List Wd2)) : List Wd2 := (qs.map clr).flatten
theorem nxt_fst : ∀ qs : List (List Wd2), (nxt qs).map (·.1) = qs.flatten.map (·.1)
  | [] => rfl
  | q :: r => by
    have := nxt_fst r
    unfold nxt at this ⊢
    rw [List.map_cons, List.flatten_cons, List.map_append, this, clr_fst, List.flatten_cons, List.map_append]
theorem nxt_len (qs : List (List Wd2)) : (nxt qs).length = qs.flatten.length := by
  have := congrArg List.length (nxt_fst qs)
  rwa [List.length_map, List.length_map] at this
theorem good_fst {a b : List Wd2} (h : a.map (·.1) = b.map (·.1)) (g : Good b) : Good a := fun p hp => by
  have : p.1 ∈ b.map (·.1) := by rw [← h]; exact List.mem_map.mpr ⟨p, hp, rfl⟩
  obtain ⟨q, hq, e⟩ := List.mem_map.mp this
  rw [← e]; exact g q hq
/-- the same words, no blank wider -/
inductive Le2 : List Wd2 → List Wd2 → Prop
  | nil : Le2 [] []
  | cons {p q : Wd2} {a b} (h1 : p.1 = q.1) (h2 : gap p.2 ≤ gap q.2) (r : Le2 a b) : Le2 (p :: a) (q :: b)
theorem Le2.refl : ∀ a : List Wd2, Le2 a a
  | [] => .nil
  | p :: a => .cons rfl (Nat.le_refl _) (Le2.refl a)
theorem Le2.app {a b a' b' : List Wd2} (h : Le2 a b) (h' : Le2 a' b') : Le2 (a ++ a') (b ++ b') := by
  induction h with
  | nil => exact h'
  | cons h1 h2 _ ih => exact .cons h1 h2 ih
theorem Le2.len {a b : List Wd2} (h : Le2 a b) : a.length = b.length := by
  induction h with
  | nil => rfl
  | cons _ _ _ ih => simp [ih]
theorem Le2.wl {a b : List Wd2} (h : Le2 a b) : wl a ≤ wl b := by
  induction h with
  | nil => exact Nat.le_refl _
  | cons h1 h2 _ ih =>
    unfold Mine.wl at ih ⊢
    rw [List.map_cons, List.map_cons, List.sum_cons, List.sum_cons, h1]; omega
theorem Le2.drop {a b : List Wd2} (h : Le2 a b) : ∀ k, Le2 (a.drop k) (b.drop k) := by
  induction h with
  | nil => intro k; simp; exact .nil
  | cons h1 h2 r ih =>
    intro k
    cases k with
    | zero => exact .cons h1 h2 r
    | succ k => exact ih k
theorem Le2.take {a b : List Wd2} (h : Le2 a b) : ∀ k, Le2 (a.take k) (b.take k) := by
  induction h with
  | nil => intro k; simp; exact .nil
  | cons h1 h2 r ih =>
    intro k
    cases k with
    | zero => exact .nil
    | succ k => exact .cons h1 h2 (ih k)
theorem gap_false (b : Bool) : gap false ≤ gap b := by cases b <;> decide
theorem clr_le (q : List Wd2) : Le2 (clr q) q := by
  by_cases h : q = []
  · subst h; exact .nil
  · obtain ⟨a, p, rfl⟩ := snoc_of h
    rw [clr_snoc]
    exact (Le2.refl a).app (.cons rfl (gap_false _) .nil)
theorem nxt_le : ∀ qs : List (List Wd2), Le2 (nxt qs) qs.flatten
  | [] => .nil
  | q :: r => by
    have := nxt_le r
    unfold nxt at this ⊢
    rw [List.map_cons, List.flatten_cons, List.flatten_cons]
    exact (clr_le q).app this
noncomputable def cnt2 (ps : List Wd2) : Nat := ps.countP (·.2)
theorem Le2.cnt {a b : List Wd2} (h : Le2 a b) : cnt2 a ≤ cnt2 b ∧ (cnt2 a = cnt2 b → a = b) := by
  induction h with
  | nil => exact ⟨Nat.le_refl _, fun _ => rfl⟩
  | @cons p q a b h1 h2 r ih =>
    unfold cnt2 at ih ⊢
    rw [List.countP_cons, List.countP_cons]
    obtain ⟨w, x⟩ := p
    obtain ⟨w', x'⟩ := q
    have h1' : w = w' := h1
    subst h1'
    cases x <;> cases x'
    · refine ⟨by simpa using ih.1, fun e => ?_⟩
      rw [ih.2 (by simpa using e)]
    · refine ⟨by simp; omega, fun e => ?_⟩
      exfalso
      simp at e; omega
    · exact absurd h2 (show ¬ gap true ≤ gap false by decide)
    · refine ⟨by simpa using ih.1, fun e => ?_⟩
      rw [ih.2 (by simpa using e)]
theorem cnt2_le (ps : List Wd2) : cnt2 ps ≤ ps.length := List.countP_le_length

/-! narrower blanks get as far -/
theorem fits_prefix {lim : Int} {c : Nat} {q a t : List Wd2} {p : Wd2} (h : Fits lim c q) (e : q = a ++ p :: t) (ha : a ≠ []) : ((c + wl a + p.1.length : Nat) : Int) ≤ lim := by
  by_cases ht : t = []
  · subst ht; exact h a p e ha
  · obtain ⟨t', l, rfl⟩ := snoc_of ht
    have := h (a ++ p :: t') l (by rw [e]; simp) (by simp)
    rw [wl_app, show p :: t' = [p] ++ t' from rfl, wl_app] at this
    have h1 : wl [p] = p.1.length + gap p.2 := by simp [wl]
    omega
theorem ends_le {qs : List (List Wd2)} {ps : List Wd2} (f : qs.flatten = ps) (k : Nat) : endsN qs k ≤ ps.length := by
  have h1 : qs.flatten = (qs.take k).flatten ++ (qs.drop k).flatten := by rw [← List.flatten_append, List.take_append_drop]
  rw [← f, h1, List.length_append]; unfold endsN; omega
theorem ends_all {qs : List (List Wd2)} {ps : List Wd2} (f : qs.flatten = ps) {k : Nat} (h : qs.length ≤ k) : endsN qs k = ps.length := by
  unfold endsN; rw [List.take_of_length_le h, f]
theorem dominates {c2 c : Nat} {lim : Int} {qs qs' : List (List Wd2)} {ps ps' : List Wd2} (h : Rows c2 lim c qs) (f : qs.flatten = ps) (h' : Rows c2 lim c qs') (f' : qs'.flatten = ps') (le : Le2 ps' ps) :
    qs'.length ≤ qs.length ∧ ∀ k, k ≤ qs'.length → endsN qs k ≤ endsN qs' k := by
  have hlen := le.len
  have main : ∀ k, k ≤ qs'.length → endsN qs k ≤ endsN qs' k := by
    intro k
    induction k with
    | zero => intro _; exact Nat.le_refl _
    | succ k ih =>
      intro hk
      have hs := ih (by omega)
      refine Classical.byContradiction fun hlt => ?_
      obtain ⟨q', hq'⟩ : ∃ q', qs'[k]? = some q' := ⟨_, List.getElem?_eq_getElem (by omega)⟩
      obtain ⟨hn', _, hnext⟩ := rows_k h' k q' hq'
      have he' := ends_succ hq'
      have hpos' := List.length_pos_iff.mpr hn'
      have hkl : k < qs.length := by
        rcases Nat.lt_or_ge k qs.length with q | q
        · exact q
        · have h1 := ends_all f q
          have h2 := ends_all f (show qs.length ≤ k + 1 by omega)
          omega
      obtain ⟨q, hq⟩ : ∃ q, qs[k]? = some q := ⟨_, List.getElem?_eq_getElem hkl⟩
      obtain ⟨hn, hfit, _⟩ := rows_k h k q hq
      have he := ends_succ hq
      have hle := ends_le f (k + 1)
      have hk1 : k + 1 < qs'.length := by
        rcases Nat.lt_or_ge (k + 1) qs'.length with q | q
        · exact q
        · have := ends_all f' q; omega
      obtain ⟨q'', hq''⟩ : ∃ q'', qs'[k + 1]? = some q'' := ⟨_, List.getElem?_eq_getElem hk1⟩
      obtain ⟨p, t, hp, hlim⟩ := hnext q'' hq''
      have s1 := slice_at f' hq'
      have s2 := slice_at f hq
      have s3 := slice_at f' hq''
      -- the word in question
      have hpp : ps'[endsN qs' (k + 1)]? = some p := by
        have : q''[0]? = some p := by rw [hp]; rfl
        rw [← s3, List.getElem?_take_of_lt (by rw [hp]; simp), List.getElem?_drop, Nat.add_zero] at this
        exact this
      obtain ⟨x, hx⟩ : ∃ x, x = endsN qs' (k + 1) - endsN qs k := ⟨_, rfl⟩
      have hxq : x < q.length := by omega
      have hx0 : 0 < x := by omega
      have hqx : q = q.take x ++ q[x] :: q.drop (x + 1) := by rw [← List.drop_eq_getElem_cons hxq, List.take_append_drop]
      have hfx := fits_prefix hfit hqx (fun e => by have := congrArg List.length e; rw [List.length_take, List.length_nil] at this; omega)
      have hw : wl q' ≤ wl (q.take x) := by
        have e1 : q.take x = (ps.drop (endsN qs k)).take x := by rw [← s2, List.take_take]; congr 1; omega
        have e2 : ((ps.drop (endsN qs k)).take x).drop (endsN qs' k - endsN qs k) = (ps.drop (endsN qs' k)).take q'.length := by
          rw [List.drop_take, List.drop_drop]; congr 1
          · omega
          · congr 1; omega
        have l1 := ((le.drop (endsN qs' k)).take q'.length).wl
        rw [s1, ← e2] at l1
        have l2 : wl (((ps.drop (endsN qs k)).take x).drop (endsN qs' k - endsN qs k)) ≤ wl ((ps.drop (endsN qs k)).take x) := by
          have e3 : wl ((ps.drop (endsN qs k)).take x) = wl (((ps.drop (endsN qs k)).take x).take (endsN qs' k - endsN qs k)) + wl (((ps.drop (endsN qs k)).take x).drop (endsN qs' k - endsN qs k)) := by rw [← wl_app, List.take_append_drop]
          omega
        rw [e1]; omega
      have hwd : p.1.length = (q[x]).1.length := by
        have h1 : q[x]? = some q[x] := List.getElem?_eq_getElem hxq
        generalize q[x] = y at h1 ⊢
        rw [← s2, List.getElem?_take_of_lt (by omega), List.getElem?_drop, show endsN qs k + x = endsN qs' (k + 1) by omega] at h1
        have : ∀ {a b : List Wd2}, Le2 a b → ∀ (i : Nat) (u v : Wd2), a[i]? = some u → b[i]? = some v → u.1 = v.1 := by
          intro a b hab
          induction hab with
          | nil => intro i u v hu; simp at hu
          | cons g1 g2 r ihh =>
            intro i u v hu hv
            cases i with
            | zero => simp at hu hv; subst hu; subst hv; exact g1
            | succ i => exact ihh i u v (by simpa using hu) (by simpa using hv)
        have e := this le _ _ _ hpp h1
        rw [e]
      omega
  refine ⟨Classical.byContradiction fun hl => ?_, main⟩
  have h1 := main qs.length (by omega)
  rw [ends_all f (Nat.le_refl _)] at h1
  obtain ⟨q', hq'⟩ : ∃ q', qs'[qs.length]? = some q' := ⟨_, List.getElem?_eq_getElem (by omega)⟩
  obtain ⟨hn', _, _⟩ := rows_k h' _ q' hq'
  have := ends_succ hq'
  have := List.length_pos_iff.mpr hn'
  have := ends_le f' (qs.length + 1)
  omega

/-! the last blank doesn't matter -/
theorem fill_tail (c2 : Nat) (lim : Int) (w : List Nat) : ∀ (ps : List Wd2) (c : Nat) (cur : List Wd2), ∃ qs q, ∀ b, fillR c2 lim c cur (ps ++ [(w, b)]) = qs ++ [q ++ [(w, b)]]
  | [], c, cur => by
    by_cases h : cur ≠ [] ∧ lim < ((c + wl cur + w.length : Nat) : Int)
    · exact ⟨[cur], [], fun b => by rw [List.nil_append, fillR, if_pos h]; rfl⟩
    · exact ⟨[], cur, fun b => by rw [List.nil_append, fillR, if_neg h]; rfl⟩
  | p :: r, c, cur => by
    by_cases h : cur ≠ [] ∧ lim < ((c + wl cur + p.1.length : Nat) : Int)
    · obtain ⟨qs, q, hq⟩ := fill_tail c2 lim w r c2 [p]
      exact ⟨cur :: qs, q, fun b => by rw [List.cons_append, fillR, if_pos h, hq b]; rfl⟩
    · obtain ⟨qs, q, hq⟩ := fill_tail c2 lim w r c (cur ++ [p])
      exact ⟨qs, q, fun b => by rw [List.cons_append, fillR, if_neg h, hq b]⟩
theorem rowsT_last {I1 I2 : List Nat} {qs : List (List Wd2)} {q : List Wd2} {w : List Nat} {b b' : Bool} (hw : Good [(w, true)]) : rowsT I1 I2 (qs ++ [q ++ [(w, b)]]) = rowsT I1 I2 (qs ++ [q ++ [(w, b')]]) := by
  have g : ∀ x, Good [(w, x)] := fun x p hp => by simp at hp; subst hp; exact hw (w, true) (by simp)
  have e : body (q ++ [(w, b)]) = body (q ++ [(w, b')]) := by rw [body_snoc (g b), body_snoc (g b')]
  cases qs with
  | nil => show [I1 ++ body _] = [I1 ++ body _]; rw [e]
  | cons x r =>
    show (I1 ++ body x) :: (r ++ [q ++ [(w, b)]]).map _ = (I1 ++ body x) :: (r ++ [q ++ [(w, b')]]).map _
    rw [List.map_append, List.map_append]
    simp only [List.map_cons, List.map_nil]
    rw [e]
theorem rows_clr {I1 I2 : List Nat} {wd : Int} {ps : List Wd2} (hg : Good ps) (hne : ps ≠ []) : rowsT I1 I2 (setR I1 I2 wd (clr ps)) = rowsT I1 I2 (setR I1 I2 wd ps) := by
  obtain ⟨a, p, rfl⟩ := snoc_of hne
  obtain ⟨qs, q, hq⟩ := fill_tail (cols I2) wd p.1 a (cols I1) []
  obtain ⟨w, b⟩ := p
  rw [clr_snoc]
  unfold setR
  rw [hq false, hq b]
  refine rowsT_last fun x hx => ?_
  simp at hx; subst hx
  exact hg (w, b) (by simp)
theorem fill_one {c2 : Nat} {lim : Int} : ∀ {ps : List Wd2} {c : Nat} {cur q : List Wd2}, fillR c2 lim c cur ps = [q] → q = cur ++ ps ∧ ∀ c2', fillR c2' lim c cur ps = [q]
  | [], c, cur, q, h => by
    rw [fillR] at h
    injection h with h
    exact ⟨by rw [← h, List.append_nil], fun c2' => by rw [fillR, h]⟩
  | p :: r, c, cur, q, h => by
    by_cases hb : cur ≠ [] ∧ lim < ((c + wl cur + p.1.length : Nat) : Int)
    · rw [fillR, if_pos hb] at h
      injection h with h1 h2
      exfalso
      obtain ⟨t, r', e⟩ := fill_head c2 lim r c2 [p] (by simp)
      rw [e] at h2; cases h2
    · rw [fillR, if_neg hb] at h
      obtain ⟨h1, h2⟩ := fill_one h
      exact ⟨by rw [h1]; simp, fun c2' => by rw [fillR, if_neg hb]; exact h2 c2'⟩
theorem set_flat (I1 I2 : List Nat) (wd : Int) (ps : List Wd2) : (setR I1 I2 wd ps).flatten = ps := by unfold setR; rw [fillR_join]; rfl
theorem set_rows {I1 I2 : List Nat} {wd : Int} {ps : List Wd2} (h : ps ≠ []) : Rows (cols I2) wd (cols I1) (setR I1 I2 wd ps) := by
  cases ps with
  | nil => exact absurd rfl h
  | cons p r => exact fill_start _ _ _ p r
/-- one row stays one row -/
theorem set_again {I1 I2 : List Nat} {wd : Int} {ps q : List Wd2} (hne : ps ≠ []) (h : setR I1 I2 wd ps = [q]) (I : List Nat) : setR I1 I wd (nxt [q]) = [nxt [q]] := by
  unfold setR at h ⊢
  obtain ⟨e, h2⟩ := fill_one h
  rw [List.nil_append] at e
  subst e
  have en : nxt [q] = clr q := by unfold nxt; simp
  rw [en]
  obtain ⟨a, p, rfl⟩ := snoc_of hne
  obtain ⟨w, b⟩ := p
  obtain ⟨qs, x, hx⟩ := fill_tail (cols I) wd w a (cols I1) []
  rw [clr_snoc, hx false]
  have := (h2 (cols I)).symm.trans (hx b)
  have hq : qs = [] := by
    cases qs with
    | nil => rfl
    | cons y r => injection this with _ t; cases r <;> cases t
  subst hq
  injection this with t
  obtain ⟨t1, _⟩ := List.append_inj' t rfl
  rw [List.nil_append, ← t1]
theorem row_indt3 {I : List Nat} (hb : ∀ c ∈ I, blank c = true) {q : List Wd2} (hg : Good q) (hne : q ≠ []) : indt (I ++ body q) = I ∧ isw (I ++ body q) = false := by
  obtain ⟨p, r, rfl⟩ : ∃ p r, q = p :: r := by cases q with | nil => exact absurd rfl hne | cons p r => exact ⟨p, r, rfl⟩
  obtain ⟨h0, h1⟩ := hg p List.mem_cons_self
  obtain ⟨t, ht⟩ : ∃ t, body (p :: r) = p.1 ++ t := by
    by_cases hr : r = []
    · subst hr
      have := body_snoc (q := []) (p := p) (fun x hx => hg x (by simpa using hx))
      rw [List.nil_append] at this
      exact ⟨[], by rw [this]; simp [flat]⟩
    · obtain ⟨a, l, rfl⟩ := snoc_of hr
      have := body_snoc (q := p :: a) (p := l) (fun x hx => hg x (by simp at hx; subst hx; simp))
      rw [List.cons_append] at this
      rw [this, show p :: a = [p] ++ a from rfl, flat_app, flat_one]
      exact ⟨_, by simp only [List.append_assoc]; rfl⟩
  rw [ht]
  cases hw : p.1 with
  | nil => exact absurd hw h0
  | cons c w =>
    have hc := h1 c (by rw [hw]; exact List.mem_cons_self)
    have hcb : blank c = false := by
      cases q : blank c with
      | false => rfl
      | true => have := blank_white c q; rw [hc] at this; cases this
    constructor
    · unfold indt
      rw [lead_pass hb, List.cons_append, lead_cons_neg hcb, Nat.add_zero, List.take_left]
    · unfold isw
      simp [hc]
theorem pairs_row {I : List Nat} (hb : ∀ c ∈ I, blank c = true) {q : List Wd2} (hg : Good q) (hne : q ≠ []) : prs (wsp (I ++ body q)) = clr q := by
  have := prs_row (r := []) hb (.inl rfl) hg hne
  rw [List.append_nil, prs_nil, List.append_nil] at this
  rw [this]
  obtain ⟨a, p, rfl⟩ := snoc_of hne
  rw [clr_snoc]; simp [gapB]
theorem pairs_rows {I1 I2 : List Nat} (hb1 : ∀ c ∈ I1, blank c = true) (hb2 : ∀ c ∈ I2, blank c = true) {qs : List (List Wd2)} (hg : ∀ q ∈ qs, Good q ∧ q ≠ []) : pairsOf (rowsT I1 I2 qs) = nxt qs := by
  have more : ∀ {qs : List (List Wd2)}, (∀ q ∈ qs, Good q ∧ q ≠ []) → pairsOf (qs.map fun q => I2 ++ body q) = nxt qs := by
    intro qs
    induction qs with
    | nil => intro _; rfl
    | cons q r ih =>
      intro h
      have e := ih fun x hx => h x (List.mem_cons_of_mem _ hx)
      have hq := h q List.mem_cons_self
      unfold pairsOf nxt at *
      rw [List.map_cons, List.flatMap_cons, e, pairs_row hb2 hq.1 hq.2, List.map_cons, List.flatten_cons]
  cases qs with
  | nil => rfl
  | cons q r =>
    have hq := hg q List.mem_cons_self
    have e := more fun x hx => hg x (List.mem_cons_of_mem q hx)
    unfold rowsT pairsOf nxt at *
    rw [List.flatMap_cons, pairs_row hb1 hq.1 hq.2, List.map_cons, List.flatten_cons, e]
theorem set_good {I1 I2 : List Nat} {wd : Int} {ps : List Wd2} (hg : Good ps) (hne : ps ≠ []) : ∀ q ∈ setR I1 I2 wd ps, Good q ∧ q ≠ [] := fun q hq => by
  refine ⟨fun p hp => hg p ?_, (set_rows hne).ne q hq⟩
  rw [← set_flat I1 I2 wd ps]
  exact List.mem_flatten.mpr ⟨q, hq, hp⟩
theorem set_ne {I1 I2 : List Nat} {wd : Int} {ps : List Wd2} (hne : ps ≠ []) : setR I1 I2 wd ps ≠ [] := fun e => by
  have := set_flat I1 I2 wd ps
  rw [e] at this; exact hne this.symm
/-- the setting, set again -/
theorem set_next {I1 I2 : List Nat} (hb1 : ∀ c ∈ I1, blank c = true) (hb2 : ∀ c ∈ I2, blank c = true) {wd : Int} {ps : List Wd2} (hg : Good ps) (hne : ps ≠ []) {tail : List (List Nat)} (ht : tail = [] ∨ ∃ t u, tail = t :: u ∧ isw t = true) :
    rpR (rowsT I1 I2 (setR I1 I2 wd ps) ++ tail) wd = rowsT I1 I2 (setR I1 I2 wd (nxt (setR I1 I2 wd ps))) ++ tail := by
  have hq := set_good (I1 := I1) (I2 := I2) (wd := wd) hg hne
  have hqn := set_ne (I1 := I1) (I2 := I2) (wd := wd) hne
  have hpr := pairs_rows hb1 hb2 hq
  obtain ⟨q, r, e⟩ : ∃ q r, setR I1 I2 wd ps = q :: r := by
    cases h : setR I1 I2 wd ps with
    | nil => exact absurd h hqn
    | cons q r => exact ⟨q, r, rfl⟩
  have hq0 := hq q (by rw [e]; exact List.mem_cons_self)
  have i0 := row_indt3 hb1 hq0.1 hq0.2
  have hd : ∀ l ∈ rowsT I1 I2 (setR I1 I2 wd ps), isw l = false := fun l hl => by
    rw [e] at hl
    rcases List.mem_cons.mp hl with rfl | hl
    · exact i0.2
    · obtain ⟨x, hx, rfl⟩ := List.mem_map.mp hl
      have hx' := hq x (by rw [e]; exact List.mem_cons_of_mem _ hx)
      exact (row_indt3 hb2 hx'.1 hx'.2).2
  have hset := rpR_set (W := []) (para := rowsT I1 I2 (setR I1 I2 wd ps)) (tail := tail) (lim := wd) (r := I1 ++ body q) (more := r.map fun q => I2 ++ body q) (fun l h => by cases h) (by rw [e]; rfl) hd ht
  rw [List.nil_append, List.nil_append, i0.1, hpr] at hset
  rw [hset]
  congr 1
  cases r with
  | nil =>
    have hi : ind2 I1 (([] : List (List Wd2)).map (fun q => I2 ++ body q) ++ tail) = I1 := by
      rcases ht with rfl | ⟨t, u, rfl, ht⟩
      · rfl
      · show (if isw t then _ else _) = _; rw [ht]; rfl
    rw [hi, e, set_again hne e I1, set_again hne e I2]; rfl
  | cons q1 r =>
    have hq1 := hq q1 (by rw [e]; simp)
    have i1 := row_indt3 hb2 hq1.1 hq1.2
    have hi : ind2 I1 ((q1 :: r).map (fun q => I2 ++ body q) ++ tail) = I2 := by
      show (if isw (I2 ++ body q1) then _ else _) = _
      rw [i1.2, i1.1]; rfl
    rw [hi]
/-- the first setting -/
theorem set_first {I1 I2 : List Nat} (hb1 : ∀ c ∈ I1, blank c = true) (hb2 : ∀ c ∈ I2, blank c = true) {wd : Int} {ps : List Wd2} (hg : Good ps) (hne : ps ≠ []) {k : Nat} (hk0 : 0 < k) (hsame : ps.length ≤ k → I2 = I1) {tail : List (List Nat)} (ht : tail = [] ∨ ∃ t u, tail = t :: u ∧ isw t = true)
    {L : List (List Nat)} (hL : L = if k < ps.length then [I1 ++ body (ps.take k) ++ (if (ps.getD (k - 1) ([], false)).2 then [32, 32] else []), I2 ++ body (ps.drop k)] else [I1 ++ body ps]) :
    rpR (L ++ tail) wd = rowsT I1 I2 (setR I1 I2 wd ps) ++ tail := by
  rw [← rows_clr hg hne]
  by_cases hk : k < ps.length
  · rw [if_pos hk] at hL
    have hgt : Good (ps.take k) := fun p hp => hg p (List.mem_of_mem_take hp)
    have hgd : Good (ps.drop k) := fun p hp => hg p (List.mem_of_mem_drop hp)
    have hnt : ps.take k ≠ [] := fun e => by have := congrArg List.length e; rw [List.length_take, List.length_nil] at this; omega
    have hnd : ps.drop k ≠ [] := fun e => by have := congrArg List.length e; rw [List.length_drop, List.length_nil] at this; omega
    obtain ⟨x, hx⟩ : ∃ x, (if (ps.getD (k - 1) ([], false)).2 then [32, 32] else []) = x := ⟨_, rfl⟩
    rw [hx] at hL
    have hxw : Whead x ∧ (∀ c ∈ x, white c = true) ∧ gapB x = (ps.getD (k - 1) ([], false)).2 ∧ prs (wsp x) = [] := by
      rw [← hx]
      cases (ps.getD (k - 1) ([], false)).2 with
      | true =>
        refine ⟨.inr ⟨32, [32], rfl, white32⟩, by decide +kernel, by decide +kernel, ?_⟩
        have := prs_skip (ws := [32, 32]) (t := []) (by decide +kernel) rfl
        rw [List.append_nil] at this
        exact this.trans prs_nil
      | false => exact ⟨.inl rfl, fun c h => by simp at h, rfl, prs_nil⟩
    have p1 : prs (wsp (I1 ++ body (ps.take k) ++ x)) = ps.take k := by
      rw [prs_row hb1 hxw.1 hgt hnt, hxw.2.2.1, hxw.2.2.2, List.append_nil]
      have hgl : (ps.take k).getLast hnt = ps.getD (k - 1) ([], false) := by
        rw [List.getLast_eq_getElem, List.getD_eq_getElem?_getD, List.getElem?_eq_getElem (by omega), Option.getD_some]
        simp only [List.length_take, List.getElem_take]
        congr 1; omega
      have : (((ps.take k).getLast hnt).1, (ps.getD (k - 1) ([], false)).2) = (ps.take k).getLast hnt := by rw [← hgl]
      rw [this, List.dropLast_concat_getLast]
    have p2 := pairs_row hb2 hgd hnd
    have i1 := row_indt3 hb1 hgt hnt
    have i2 := row_indt3 hb2 hgd hnd
    have w1 : isw (I1 ++ body (ps.take k) ++ x) = false := by unfold isw at i1 ⊢; rw [List.all_append, i1.2, Bool.false_and]
    have d1 : indt (I1 ++ body (ps.take k) ++ x) = I1 := by
      have h1 := i1.1
      unfold indt at h1 ⊢
      have hlead : lead blank (I1 ++ body (ps.take k) ++ x) = lead blank (I1 ++ body (ps.take k)) := by
        obtain ⟨c, hc, hcw⟩ : ∃ c ∈ body (ps.take k), white c = false := by
          have := i1.2
          unfold isw at this
          rw [List.all_eq_false] at this
          obtain ⟨c, hc, hcw⟩ := this
          rcases List.mem_append.mp hc with hc | hc
          · exact absurd (blank_white c (hb1 c hc)) hcw
          · exact ⟨c, hc, by simpa using hcw⟩
        obtain ⟨u, v, huv⟩ := List.append_of_mem hc
        have hcb : blank c = false := by
          cases q : blank c with
          | false => rfl
          | true => have := blank_white c q; rw [hcw] at this; cases this
        rw [huv, show I1 ++ (u ++ c :: v) ++ x = (I1 ++ u) ++ c :: (v ++ x) by simp, show I1 ++ (u ++ c :: v) = (I1 ++ u) ++ c :: v by simp, lead_stop hcb, lead_stop hcb]
      rw [hlead, List.take_append_of_le_length (lead_le _ _)]; exact h1
    have hset := rpR_set (W := []) (para := L) (tail := tail) (lim := wd) (r := I1 ++ body (ps.take k) ++ x) (more := [I2 ++ body (ps.drop k)]) (fun l h => by cases h) hL (fun l h => by
      rw [hL] at h
      rcases List.mem_cons.mp h with rfl | h
      · exact w1
      · rw [List.mem_singleton.mp h]; exact i2.2) ht
    rw [List.nil_append, List.nil_append, d1] at hset
    have hi : ind2 I1 ([I2 ++ body (ps.drop k)] ++ tail) = I2 := by
      show (if isw (I2 ++ body (ps.drop k)) then _ else _) = _
      rw [i2.2, i2.1]; rfl
    have hp : pairsOf L = clr ps := by
      rw [hL]
      unfold pairsOf
      simp only [List.flatMap_cons, List.flatMap_nil, List.append_nil]
      rw [p1, p2]
      obtain ⟨a, p, e⟩ := snoc_of hnd
      have e2 : ps = (ps.take k ++ a) ++ [p] := by rw [List.append_assoc, ← e, List.take_append_drop]
      rw [e, clr_snoc]
      conv => rhs; rw [e2]
      rw [clr_snoc, List.append_assoc]
    rw [hi, hp] at hset
    exact hset
  · rw [if_neg hk] at hL
    have i1 := row_indt3 hb1 hg hne
    have hset := rpR_set (W := []) (para := L) (tail := tail) (lim := wd) (r := I1 ++ body ps) (more := []) (fun l h => by cases h) hL (fun l h => by
      rw [hL] at h; rw [List.mem_singleton.mp h]; exact i1.2) ht
    rw [List.nil_append, List.nil_append, i1.1] at hset
    have hi : ind2 I1 ([] ++ tail) = I2 := by
      rw [hsame (by omega)]
      rcases ht with rfl | ⟨t, u, rfl, ht⟩
      · rfl
      · show (if isw t then _ else _) = _; rw [ht]; rfl
    have hp : pairsOf L = clr ps := by
      rw [hL]; unfold pairsOf
      simp only [List.flatMap_cons, List.flatMap_nil, List.append_nil]
      exact pairs_row hb1 hg hne
    rw [hi, hp] at hset
    exact hset



theorem str_cat {c : Cx} {ρ : Env1} {b : Bool} {l r : Expr} {pos : Pos} {x y : List Nat} (h₁ : Ev c ρ false l (.str (mkS x))) (h₂ : Ev c ρ false r (.str (mkS y))) (hz : x.length + y.length ≤ sizeLine) : Ev c ρ b (.BinOp l .Add r pos) (.str (mkS (x ++ y))) :=
  Ev.cast (congrArg PV.str (mkS_app x y)) (Ev_bin h₁ h₂ (.addS (by rw [mkS_len, mkS_len]; exact hz)))
theorem rep_ev {c : Cx} {ρ : Env1} {b : Bool} {r : Expr} {ch : Nat} {k pos pos'} {e : Int} {n : Nat} (hr : Ev c ρ false r (.int e)) (he : e = (n : Int)) (hn : n ≤ 1000000) : Ev c ρ b (.BinOp (.Constant (.str (mkS [ch])) k pos) .Mult r pos') (.str (mkS (List.replicate n ch))) :=
  Ev_bin (Ev_str (by rw [mkS_len, sizeLine_is]; simp)) (Ev.cast (congrArg PV.int he) hr) (.mul1 (by rw [sizeLine_is]; omega))

noncomputable abbrev GSI (gs : List Nat) : List PV := gs.map fun g => PV.int (g : Nat)
theorem GSI_get {gs : List Nat} {i g : Nat} (h : gs[i]? = some g) : (GSI gs)[i]? = some (.int (g : Nat)) := by simp [GSI, h]
theorem GSI_inj {a b : Nat} (h : PV.int (a : Nat) = PV.int (b : Nat)) : a = b := by injection h with h; omega
noncomputable def I6 (i : List Nat) : PV := .tuple [.str (mkS i), .int (cols i : Nat)]
noncomputable abbrev gf (ps : List Wd2) : List Nat := ps.map fun p => gap p.2
noncomputable abbrev fs (ps : List Wd2) : List (List Nat) := ps.map (·.1)
noncomputable def iK3 (I1 I2 : List Nat) (k : Nat) : List Nat := if k = 0 then I1 else I2
theorem rowsT_get {I1 I2 : List Nat} {qs : List (List Wd2)} {k : Nat} {q : List Wd2} (h : qs[k]? = some q) : (rowsT I1 I2 qs)[k]? = some (iK3 I1 I2 k ++ body q) := by
  cases qs with
  | nil => simp at h
  | cons x r =>
    cases k with
    | zero => simp at h; subst h; rfl
    | succ k =>
      show (r.map fun q => I2 ++ body q)[k]? = _
      rw [List.getElem?_map]
      have : r[k]? = some q := by simpa using h
      rw [this]; rfl
theorem rowsT_len {I1 I2 : List Nat} (qs : List (List Wd2)) : (rowsT I1 I2 qs).length = qs.length := by cases qs <;> simp [rowsT]
noncomputable def EN3 (qs : List (List Wd2)) : List Nat := (List.range (qs.length + 1)).map (endsN qs)
structure P3 (ps : List Wd2) (I1 I2 : List Nat) : Prop where
  g : Good ps
  n : ps ≠ []
  b1 : ∀ c ∈ I1, blank c = true
  b2 : ∀ c ∈ I2, blank c = true
  l1 : I1.length ≤ 4
  l2 : I2.length ≤ 4
  l : ps.length ≤ 18
  w : wl ps ≤ 1000
theorem body_le (ps : List Wd2) : (body ps).length ≤ wl ps := by unfold body; have := rstr_len white (flat ps); rw [flat_len] at this; exact this
theorem rows_count : ∀ {qs : List (List Wd2)} {ps : List Wd2}, (∀ q ∈ qs, q ≠ []) → qs.flatten = ps → qs.length ≤ ps.length
  | [], ps, _, _ => Nat.zero_le _
  | q :: r, ps, h, f => by
    have := rows_count (fun x hx => h x (List.mem_cons_of_mem _ hx)) (rfl : r.flatten = r.flatten)
    have := List.length_pos_iff.mpr (h q List.mem_cons_self)
    rw [← f, List.flatten_cons, List.length_append, List.length_cons]; omega
theorem flat_pieces {ps q : List Wd2} {a : Nat} (h : (ps.drop a).take q.length = q) : ((List.range q.length).map fun i => (fs ps).getD (a + i) [] ++ List.replicate ((gf ps).getD (a + i) 0) 32).flatten = flat q := by
  have key : ∀ (r : List Wd2), ((List.range r.length).map fun i => (fs r).getD i [] ++ List.replicate ((gf r).getD i 0) 32).flatten = flat r := by
    intro r
    induction r with
    | nil => rfl
    | cons p r ih =>
      rw [List.length_cons, List.range_succ_eq_map, List.map_cons, List.map_map, List.flatten_cons]
      have e : ((fun i => (fs (p :: r)).getD i [] ++ List.replicate ((gf (p :: r)).getD i 0) 32) ∘ Nat.succ) = fun i => (fs r).getD i [] ++ List.replicate ((gf r).getD i 0) 32 := by
        funext i; simp [fs, gf]
      rw [e, ih, show p :: r = [p] ++ r from rfl, flat_app, flat_one]
      congr 1
      show p.1 ++ List.replicate (gap p.2) 32 = _
      rw [List.append_assoc]
      congr 1
      cases p.2 <;> rfl
  rw [← key q]
  congr 1
  apply List.map_congr_left
  intro i hi
  have hi' := List.mem_range.mp hi
  have g1 : q[i]? = ps[a + i]? := by
    rw [← h, List.getElem?_take_of_lt hi', List.getElem?_drop]
  have e1 : (fs ps).getD (a + i) [] = (fs q).getD i [] := by simp only [fs, List.getD_eq_getElem?_getD, List.getElem?_map, g1]
  have e2 : (gf ps).getD (a + i) 0 = (gf q).getD i 0 := by simp only [gf, List.getD_eq_getElem?_getD, List.getElem?_map, g1]
  rw [e1, e2]
noncomputable def en3F (ds : List PV) (d : PV) : Prop := ∃ (ps : List Wd2) (I1 I2 : List Nat) (wd : Int), ds = [.list (SS (rowsT I1 I2 (setR I1 I2 wd ps))), .list (SS (fs ps)), .list (GSI (gf ps)), .list [I6 I1, I6 I2], .int wd] ∧ P3 ps I1 I2 ∧ d = .list (GSI (EN3 (setR I1 I2 wd ps)))
section
variable {w : World} {s₁ : Shared} {prog : Program} {mg mb : Str → Option Value}
set_option maxHeartbeats 4000000 in
theorem fn_en (g : Gl (W0 prog w s₁) mg mb) (KX : (hd.heap_39 w.params).In s₁.heap) : Fn (W0 prog w s₁) 1 79 en3F := by
  refine Fn_of g (fnDef_of (params := ["lines", "words", "gaps", "indents", "width"]) (KX 79 _ rfl) rfl rfl rfl rfl rfl rfl rfl rfl (KX 78 _ rfl) rfl rfl (fun vs h => by
    match vs, h with
    | [a, b, c, d, e], _ => rfl) (notTb rfl) rfl rfl rfl rfl) ["ends"] 0 ⟨rfl, fun x hx => by simp at hx; rcases hx with rfl | rfl | rfl | rfl | rfl <;> rfl⟩ (fun ds d ⟨a, b, c, e, h, _⟩ => by rw [h]; rfl) ?_
  rintro P h₀ ds d ok ⟨ps, I1, I2, wd, rfl, hp, rfl⟩
  have hlen := mgn_len KX g.g
  have hrange := mgn_range KX g.g
  have hmin := mgn_min KX g.g
  have bmin : bootBuiltins "min" = some (.builtin "min") := by decide +kernel
  have hf := set_flat I1 I2 wd ps
  have hrows := set_rows (I1 := I1) (I2 := I2) (wd := wd) hp.n
  have hgood := set_good (I1 := I1) (I2 := I2) (wd := wd) hp.g hp.n
  generalize setR I1 I2 wd ps = qs at hf hrows hgood
  have hend : ∀ k, endsN qs k ≤ ps.length := fun k => ends_le hf k
  have hpl := hp.l
  have hpw := hp.w
  have hlast : ∀ k, ((List.range (k + 1)).map (endsN qs))[k]? = some (endsN qs k) := fun k => by rw [List.getElem?_map, List.getElem?_range (by omega)]; rfl
  have hgl : ∀ k, (GSI ((List.range (k + 1)).map (endsN qs))).length = k + 1 := fun k => by simp
  have hwl : ∀ {q : List Wd2}, q ∈ qs → wl q ≤ 1000 := fun {q} hq => by
    have : ∀ {qs : List (List Wd2)} {q : List Wd2}, q ∈ qs → wl q ≤ wl qs.flatten := by
      intro qs
      induction qs with
      | nil => intro q h; cases h
      | cons x r ih =>
        intro q h
        rw [List.flatten_cons, wl_app]
        rcases List.mem_cons.mp h with rfl | h
        · omega
        · have := ih h; omega
    have := this hq
    rw [hf] at this; omega
  have hql := rows_count (fun q hq => (hgood q hq).2) hf
  refine Ex_cons (Ex1_assignOwn ok (ds := GSI ((List.range 1).map (endsN qs))) (EvF_list ok (.cons Ev_int rfl .nil) rfl) ?_ rfl rfl rfl)
  refine Ex_cons (Ex1_for ok (d := .list (SS (rowsT I1 I2 qs))) (Ev_name ok rfl rfl rfl) .list (fun k ρ => SubEnv [("ends", .list (GSI ((List.range (k + 1)).map (endsN qs)))), ("words", .list (SS (fs ps))), ("gaps", .list (GSI (gf ps))), ("indents", .list [I6 I1, I6 I2]), ("width", .int wd)] ρ) (.put rfl (.put rfl (.put rfl (.put rfl (.put rfl .nil))))) ?_ ?_ (fun _ => rfl))
  · intro k d ρ hd hI
    have hkl : k < qs.length := by
      rcases Nat.lt_or_ge k qs.length with h | h
      · exact h
      · rw [List.getElem?_eq_none (by rw [List.length_map, rowsT_len]; exact h)] at hd; cases hd
    obtain ⟨q, hqk⟩ : ∃ q, qs[k]? = some q := ⟨_, List.getElem?_eq_getElem hkl⟩
    have hrow := SS_get (rowsT_get (I1 := I1) (I2 := I2) hqk)
    rw [hrow] at hd; cases hd
    have hqm := List.mem_of_getElem? hqk
    obtain ⟨hqg, hqn⟩ := hgood q hqm
    have hq1000 := hwl hqm
    have hsucc := ends_succ hqk
    have hsl := slice_at hf hqk
    have he1 := hend (k + 1)
    have hqpos := List.length_pos_iff.mpr hqn
    obtain ⟨_, hfit, hnext⟩ := rows_k hrows k q hqk
    have hIb : ∀ c ∈ iK3 I1 I2 k, blank c = true := by unfold iK3; split; exact hp.b1; exact hp.b2
    have hIl : (iK3 I1 I2 k).length ≤ 4 := by unfold iK3; split; exact hp.l1; exact hp.l2
    have hcol : (if k = 0 then cols I1 else cols I2) = cols (iK3 I1 I2 k) := by unfold iK3; split <;> rfl
    rw [hcol] at hfit hnext
    have hIg : ([I6 I1, I6 I2] : List PV)[min k 1]? = some (I6 (iK3 I1 I2 k)) := by
      cases k with
      | zero => rfl
      | succ k => rw [show min (k + 1) 1 = 1 by omega]; rfl
    generalize iK3 I1 I2 k = I at hrow hIb hIl hfit hnext hIg
    have hwd : wds (I ++ body q) = q.map (·.1) := wds_row hIb hqg hqn
    refine ⟨_, Asg_name ok rfl rfl, Ex.sub ?_ (SubEnv.both hI)⟩
    have ble : BiOk (W0 prog w s₁) (.builtin "len") [.list (GSI ((List.range (k + 1)).map (endsN qs)))] (.int ((k + 1 : Nat) : Int)) := by
      have := BiOk_len_list (G := W0 prog w s₁) (ds := GSI ((List.range (k + 1)).map (endsN qs)))
      rw [hgl] at this; exact this
    have hmn : min (((k + 1 : Nat) : Int) - 1) 1 = ((min k 1 : Nat) : Int) := by omega
    refine Ex_cons (Ex1_tuple (ds := [.str (mkS I), .int (cols I : Nat)]) (Ev_item (k := ((min k 1 : Nat) : Int)) (j := min k 1) (d := I6 I) (Ev.seq (Ev_name ok rfl rfl rfl)) (Ev.cast (congrArg PV.int hmn) (Ev_callB ok g rfl hmin bmin rfl (by decide) (.cons (Ev_bin (Ev_callB ok g rfl hlen PySem.boot_len rfl (by decide) (.cons (Ev_nameOwn ok rfl rfl rfl) rfl .nil) ble) Ev_int .subI) rfl (.cons Ev_int rfl .nil)) BiOk_min2)) (idx_nat (show min k 1 < 2 by omega)) hIg (fun _ _ => rfl)) (.cons (Asg_name ok rfl rfl) rfl (.cons (Asg_name ok rfl rfl) rfl .nil)) ?_ rfl rfl)
    refine Ex_cons (Ex1_swap ok (names := ["start", "stop"]) (ds := [.int (endsN qs k : Nat), .int (endsN qs (k + 1) : Nat)]) (Ev_tuple ok (.cons (Ev_item (k := -1) (j := k) (EvS_nameOwn ok rfl rfl rfl) (by pv_eval) (by rw [hgl]; exact idx_last (by omega)) (GSI_get (hlast k)) (fun _ _ => rfl)) rfl (.cons (Ev.cast (by rw [hsucc]; push_cast; rfl) (Ev_bin (Ev_item (k := -1) (j := k) (d := .int (endsN qs k : Nat)) (EvS_nameOwn ok rfl rfl rfl) (by pv_eval) (by rw [hgl]; exact idx_last (by omega)) (GSI_get (hlast k)) (fun _ _ => rfl)) (Ev_callB (d := .int (q.length : Nat)) ok g rfl hlen PySem.boot_len rfl (by decide) (.cons (Ev_meth (d₀ := .str (mkS (I ++ body q))) (d := .list (SS (q.map (·.1)))) ok rfl rfl PySem.F.plainAttrs_str PySem.F.slot_str_split PySem.F.type_str_split (by decide) rep_str_type (Ev_name ok rfl rfl rfl) .nil (by have := BiOk_split0 (G := W0 prog w s₁) (x := mkS (I ++ body q)); rw [Sl_mkS, hwd] at this; exact this)) rfl .nil) (by simpa [SS] using BiOk_len_list (ds := SS (q.map (·.1))))) .addI)) rfl .nil)) rfl) rfl rfl ?_ rfl rfl)
    have blw : BiOk (W0 prog w s₁) (.builtin "len") [.list (SS (fs ps))] (.int (ps.length : Nat)) := by simpa [SS] using BiOk_len_list (ds := SS (fs ps))
    have hmn2 : min ((endsN qs (k + 1) : Nat) : Int) (ps.length : Nat) = (endsN qs (k + 1) : Nat) := by omega
    refine Ex_cons (Ex1_assign ok (d := .range (endsN qs k : Nat) (endsN qs (k + 1) : Nat) 1) (Ev_callT ok g rfl hrange boot_range rfl (by decide) (.cons (Ev_name ok rfl rfl rfl) rfl (.cons (Ev.cast (congrArg PV.int hmn2) (Ev_callB ok g rfl hmin bmin rfl (by decide) (.cons (Ev_name ok rfl rfl rfl) rfl (.cons (Ev_callB ok g rfl hlen PySem.boot_len rfl (by decide) (.cons (Ev_name ok rfl rfl rfl) rfl .nil) blw) rfl .nil)) BiOk_min2)) rfl .nil)) BiOk_range2) ?_ rfl rfl rfl)
    have hrg : ItOk (.range (endsN qs k : Nat) (endsN qs (k + 1) : Nat) 1) ((List.range q.length).map fun (i : Nat) => PV.int ((endsN qs k : Nat) + (i : Int))) := by
      have := ItOk.range (small_one (a := (endsN qs k : Nat)) (b := (endsN qs (k + 1) : Nat)) (by omega) (by omega) (by omega) (by omega))
      rw [rangeL_up, show (((endsN qs (k + 1) : Nat) : Int) - (endsN qs k : Nat)).toNat = q.length by omega] at this
      exact this
    have hpc := flat_pieces hsl
    have hfl := flat_len q
    have hfs : sumL ((List.range q.length).map fun i => (fs ps).getD (endsN qs k + i) [] ++ List.replicate ((gf ps).getD (endsN qs k + i) 0) 32) ≤ 1000 := by rw [sumL_flat, hpc, hfl]; exact hq1000
    refine Ex_cons (Ex1_assign ok (d := .str (mkS (body q))) (Ev_meth (d₀ := .str (mkS (flat q))) ok rfl rfl PySem.F.plainAttrs_str PySem.F.slot_str_strip PySem.F.type_str_strip (by decide) rep_str_type (Ev.cast (by rw [hpc]) (Ev_meth (d₀ := .str (mkS [])) (ds := [.list (SS ((List.range q.length).map fun i => (fs ps).getD (endsN qs k + i) [] ++ List.replicate ((gf ps).getD (endsN qs k + i) 0) 32))]) ok rfl rfl PySem.F.plainAttrs_str PySem.F.slot_str_join PySem.F.type_str_join (by decide) rep_str_type (Ev_str (by decide)) (.cons (EvF.ev ok (EvF.cast (by rw [SS, List.map_map]; rfl) (EvF_compM ok (List.range q.length) (fun (i : Nat) => .int ((endsN qs k : Nat) + (i : Int))) (fun i => .str (mkS ((fs ps).getD (endsN qs k + i) [] ++ List.replicate ((gf ps).getD (endsN qs k + i) 0) 32))) (fun x y h => by injection h with h; have e : x = y := (by omega); rw [e])
      (Ev_name ok rfl rfl rfl) hrg (by rw [sizeLine_is, List.length_range]; omega) rfl [("words", .list (SS (fs ps))), ("gaps", .list (GSI (gf ps)))] (.put rfl rfl (.put rfl rfl .nil)) (fun C i hi ok' => ⟨_, Asg_name ok' rfl rfl, .put rfl (.put rfl .nil), ?_⟩) (fun _ => rfl)))) rfl .nil) (BiOk_join0 (by rw [sizeLine_is]; omega)))) .nil (by have := BiOk_strip (G := W0 prog w s₁) (x := mkS (flat q)); rw [Sl_mkS, strip_flat hqg] at this; exact this)) ?_ rfl rfl rfl)
    · have hi' := List.mem_range.mp hi
      have hlt : endsN qs k + i < ps.length := by omega
      have d1 : (fs ps)[endsN qs k + i]? = some ((fs ps).getD (endsN qs k + i) []) := by rw [List.getD_eq_getElem?_getD, List.getElem?_eq_getElem (by rw [List.length_map]; exact hlt)]; rfl
      have d2 : (gf ps)[endsN qs k + i]? = some ((gf ps).getD (endsN qs k + i) 0) := by rw [List.getD_eq_getElem?_getD, List.getElem?_eq_getElem (by rw [List.length_map]; exact hlt)]; rfl
      have hmem : (fs ps).getD (endsN qs k + i) [] ++ List.replicate ((gf ps).getD (endsN qs k + i) 0) 32 ∈ (List.range q.length).map fun i => (fs ps).getD (endsN qs k + i) [] ++ List.replicate ((gf ps).getD (endsN qs k + i) 0) 32 := List.mem_map.mpr ⟨i, hi, rfl⟩
      have hml := sumL_mem hmem
      rw [List.length_append, List.length_replicate] at hml
      have hcast : ((endsN qs k : Nat) : Int) + (i : Int) = ((endsN qs k + i : Nat) : Int) := by push_cast; rfl
      rw [hcast]
      exact str_cat (Ev_item (Ev.seq (Ev_name ok' rfl rfl rfl)) (Ev_name ok' rfl rfl rfl) (idx_nat (by rw [List.length_map, List.length_map]; exact hlt)) (SS_get d1) (fun _ _ => rfl)) (rep_ev (ch := 32) (Ev_item (Ev.seq (Ev_name ok' rfl rfl rfl)) (Ev_name ok' rfl rfl rfl) (idx_nat (by rw [List.length_map, List.length_map]; exact hlt)) (GSI_get d2) (fun _ _ => rfl)) rfl (by omega)) (by rw [sizeLine_is, List.length_replicate]; omega)
    have hbl := body_le (ps := q)
    refine Ex_cons (Ex1_assign ok (d := .int ((cols I + (body q).length : Nat) : Int)) (Ev.cast (by push_cast; rfl) (Ev_bin (d := .int ((cols I : Nat) + ((body q).length : Nat))) (Ev_name ok rfl rfl rfl) (Ev_callB ok g rfl hlen PySem.boot_len rfl (by decide) (.cons (Ev_name ok rfl rfl rfl) rfl .nil) BiOk_len_mkS) .addI)) ?_ rfl rfl rfl)
    have hbne : body q ≠ [] := fun e => by
      obtain ⟨c, hc, hw⟩ := flat_dark1 hqg hqn
      exact rstr_ne hc hw e
    refine Ex_cons (Ex1_if (k := false) (IsT1.cast ?_ (IsT_or2 (t := false) (u := false) (IsT1.cast ?_ (IsT_cmp (d₁ := .str (mkS (body q))) (d₂ := .str (mkS [])) (Ev_name ok rfl rfl rfl) (Ev_str (by decide)) (.eq rfl (Nat.zero_le _)) rfl)) fun _ => IsT1.cast ?_ (IsT_cmp (d₁ := .str (mkS (I ++ body q))) (d₂ := .str (mkS (I ++ body q))) (Ev_name ok rfl rfl rfl) (str_cat (Ev_name ok rfl rfl rfl) (Ev_name ok rfl rfl rfl) (by rw [sizeLine_is]; omega)) (.ne rfl (Nat.zero_le _)) rfl))) (fun h => by cases h) fun _ => Ex_nil ?_)
    · rfl
    · rw [eqv_mkS]
      cases e : body q with
      | nil => exact absurd e hbne
      | cons => rfl
    · rw [PV.eqv_refl]; rfl
    obtain ⟨qa, ql, hqe⟩ := snoc_of hqn
    have hgq : Good [ql] := fun x hx => hqg x (by rw [hqe]; exact List.mem_append.mpr (.inr hx))
    have hblen : (body q).length = wl qa + ql.1.length := by rw [hqe]; exact body_len hgq
    have hwlq : wl q = wl qa + (ql.1.length + gap ql.2) := wl_last hqe
    refine Ex_cons (Ex1_if (k := false) (IsT1.cast ?_ (IsT_and2 (t := decide ((1 : Int) < (endsN qs (k + 1) : Int) - (endsN qs k : Int))) (u := decide (wd < ((cols I + (body q).length : Nat) : Int))) (IsT_cmp (by pv_eval) (by pv_eval) .gt rfl) fun _ => IsT_cmp (Ev_name ok rfl rfl rfl) (by pv_eval) .gt rfl)) (fun h => by cases h) fun _ => Ex_nil ?_)
    · by_cases h1 : 1 < q.length
      · have := hfit qa ql hqe (fun e => by rw [hqe, e] at h1; simp at h1)
        rw [decide_eq_false (show ¬ wd < ((cols I + (body q).length : Nat) : Int) by omega), Bool.and_false]
      · rw [decide_eq_false (show ¬ (1 : Int) < (endsN qs (k + 1) : Int) - (endsN qs k : Int) by omega), Bool.false_and]
    refine Ex_cons (Ex1_if (k := false) (IsT1.cast ?_ (IsT_and2 (t := decide (((endsN qs (k + 1) : Nat) : Int) < (ps.length : Nat))) (u := false) (IsT_cmp (Ev_name ok rfl rfl rfl) (Ev_callB ok g rfl hlen PySem.boot_len rfl (by decide) (.cons (Ev_name ok rfl rfl rfl) rfl .nil) blw) .lt rfl) fun hlt => ?_)) (fun h => by cases h) fun _ => Ex_nil ?_)
    · rw [Bool.and_false]
    · have hlt' : endsN qs (k + 1) < ps.length := by have := of_decide_eq_true hlt; omega
      have hk1 : k + 1 < qs.length := by
        rcases Nat.lt_or_ge (k + 1) qs.length with h | h
        · exact h
        · have := ends_all hf h; omega
      obtain ⟨q', hq'⟩ : ∃ q', qs[k + 1]? = some q' := ⟨_, List.getElem?_eq_getElem hk1⟩
      obtain ⟨p, t, hpt, hlim⟩ := hnext q' hq'
      have hs' := slice_at hf hq'
      have hpp : ps[endsN qs (k + 1)]? = some p := by
        have : q'[0]? = some p := by rw [hpt]; rfl
        rw [← hs', List.getElem?_take_of_lt (by rw [hpt]; simp), List.getElem?_drop, Nat.add_zero] at this
        exact this
      have hgl' : ps[endsN qs (k + 1) - 1]? = some ql := by
        have : q[qa.length]? = some ql := by rw [hqe]; simp
        have hqal : q.length = qa.length + 1 := by rw [hqe]; simp
        rw [← hsl, List.getElem?_take_of_lt (by omega), List.getElem?_drop, show endsN qs k + qa.length = endsN qs (k + 1) - 1 by omega] at this
        exact this
      have g1 : (gf ps)[endsN qs (k + 1) - 1]? = some (gap ql.2) := by rw [List.getElem?_map, hgl']; rfl
      have g2 : (fs ps)[endsN qs (k + 1)]? = some p.1 := by rw [List.getElem?_map, hpp]; rfl
      refine IsT1.cast ?_ (IsT_cmp (d₁ := .int (((cols I + (body q).length : Nat) : Int) + (gap ql.2 : Nat) + (p.1.length : Nat))) (d₂ := .int wd) (Ev_bin (Ev_bin (Ev_name ok rfl rfl rfl) (Ev_item (k := ((endsN qs (k + 1) - 1 : Nat) : Int)) (j := endsN qs (k + 1) - 1) (Ev.seq (Ev_name ok rfl rfl rfl)) (Ev.cast (congrArg PV.int (by omega)) (Ev_bin (d := .int (((endsN qs (k + 1) : Nat) : Int) - 1)) (Ev_name ok rfl rfl rfl) Ev_int .subI)) (idx_nat (by rw [List.length_map, List.length_map]; omega)) (GSI_get g1) (fun _ _ => rfl)) .addI) (Ev_callB ok g rfl hlen PySem.boot_len rfl (by decide) (.cons (Ev_item (j := endsN qs (k + 1)) (d := .str (mkS p.1)) (Ev.seq (Ev_name ok rfl rfl rfl)) (Ev_name ok rfl rfl rfl) (idx_nat (by rw [List.length_map, List.length_map]; exact hlt')) (SS_get g2) (fun _ _ => rfl)) rfl .nil) BiOk_len_mkS) .addI) (Ev_name ok rfl rfl rfl) .le rfl)
      exact decide_eq_false (by push_cast at hlim ⊢; omega)
    refine Ex_cons (Ex1_append ok rfl rfl rfl (Ev_name ok rfl rfl rfl) (by rw [hgl, sizeLine_is]; omega) rfl rfl rfl ?_)
    refine Ex_nil (.put ?_ (.put rfl (.put rfl (.put rfl (.put rfl .nil)))))
    show some _ = some _
    rw [List.range_succ (n := k + 1)]
    simp [GSI]
  · intro ρ hI
    refine Ex.sub ?_ hI
    have hm : (SS (rowsT I1 I2 qs)).length = qs.length := by rw [List.length_map, rowsT_len]
    rw [hm]
    have hfin : endsN qs qs.length = ps.length := ends_all hf (Nat.le_refl _)
    refine Ex_cons (Ex1_return (Ev_ifexp (k := true) (IsT1.cast ?_ (IsT_cmp (d₁ := .int (ps.length : Nat)) (d₂ := .int (ps.length : Nat)) (Ev_item (k := -1) (j := qs.length) (EvS_nameOwn ok rfl rfl rfl) (by pv_eval) (by rw [hgl]; exact idx_last (by omega)) (by rw [← hfin]; exact GSI_get (hlast qs.length)) (fun _ _ => rfl)) (Ev_callB ok g rfl hlen PySem.boot_len rfl (by decide) (.cons (Ev_name ok rfl rfl rfl) rfl .nil) (by simpa [SS] using BiOk_len_list (ds := SS (fs ps)))) (.eq rfl (Nat.zero_le _)) rfl)) (fun _ => Ev_nameOwn ok rfl rfl rfl) (fun h => by cases h)) rfl)
    rw [PV.eqv_refl]
theorem at_en (g : Gl (W0 prog w s₁) mg mb) (KX : (hd.heap_39 w.params).In s₁.heap) : FnAt (W0 prog w s₁) mg "_law_ends" 79 := fnAt_of (mg_law_ends KX g.g) (KX 79 _ rfl) rfl
end

/-! ### the text of a block -/
noncomputable def xy3 : List Nat := [120, 32, 32, 121]
inductive Tl (H : List Nat) : List Nat → List (List Nat) → Prop
  | none : Tl H [] []
  | nl : Tl H [10] [[]]
  | more : Tl H ([10] ++ H ++ [10] ++ H ++ xy3) [[], xy3]
noncomputable def tx (H T : List Nat) (R : List (List Nat)) : List Nat := under H R ++ T
theorem jl_app : ∀ {a b : List (List Nat)}, a ≠ [] → b ≠ [] → jl (a ++ b) = jl a ++ 10 :: jl b
  | [], b, h, _ => absurd rfl h
  | [x], b, _, hb => by rw [List.singleton_append, jl_cons hb]; rfl
  | x :: y :: r, b, _, hb => by
    rw [List.cons_append, jl_cons (by simp), jl_app (a := y :: r) (by simp) hb, jl_cons (r := y :: r) (by simp)]
    simp
theorem tx_jl {H T : List Nat} {tl : List (List Nat)} (hT : Tl H T tl) {R : List (List Nat)} (hR : R ≠ []) : ∃ tr, tx H T R = jl (R.map (H ++ ·) ++ tr) ∧ tr.map (List.drop H.length) = tl ∧ (10 ∉ H → ∀ l ∈ tr, 10 ∉ l) := by
  have hR' : R.map (H ++ ·) ≠ [] := by simpa using hR
  cases hT with
  | none => exact ⟨[], by simp [tx, under], rfl, fun _ l h => by cases h⟩
  | nl =>
    refine ⟨[[]], ?_, by simp, fun _ l h => by simp at h; subst h; simp⟩
    rw [jl_app hR' (by simp)]; rfl
  | more =>
    refine ⟨[H, H ++ xy3], ?_, by simp, fun hH l h => ?_⟩
    · rw [jl_app hR' (by simp)]
      show under H R ++ _ = under H R ++ 10 :: (H ++ 10 :: (H ++ xy3))
      simp
    · rcases List.mem_cons.mp h with rfl | h
      · exact hH
      · rw [List.mem_singleton.mp h]
        intro q
        rcases List.mem_append.mp q with q | q
        · exact hH q
        · revert q; decide
theorem tx_rows {H T : List Nat} {tl : List (List Nat)} (hT : Tl H T tl) (hH : 10 ∉ H) {R : List (List Nat)} (hR : R ≠ []) (h10 : ∀ l ∈ R, 10 ∉ l) : (spl 10 (tx H T R)).map (List.drop H.length) = R ++ tl := by
  obtain ⟨tr, e, h1, h2⟩ := tx_jl hT hR
  rw [e, spl_jl (by simp [hR]) (fun l hl => ?_), List.map_append, h1, List.map_map]
  · congr 1
    have : (List.drop H.length ∘ fun x => H ++ x) = id := by funext x; simp
    rw [this, List.map_id]
  · rcases List.mem_append.mp hl with hl | hl
    · obtain ⟨r, hr, rfl⟩ := List.mem_map.mp hl
      intro q
      rcases List.mem_append.mp q with q | q
      · exact hH q
      · exact h10 r hr q
    · exact h2 hH l hl
theorem tx_rc {H T : List Nat} {tl : List (List Nat)} (hT : Tl H T tl) (hH : 10 ∉ H) {R R' : List (List Nat)} (hR : R ≠ []) (h10 : ∀ l ∈ R, 10 ∉ l) {lim : Int} (hs : rpR (R ++ tl) (wid lim H) = R' ++ tl) (hR' : R' ≠ []) (hl : ∀ l ∈ R', l ≠ []) :
    rc (tx H T R) lim H = tx H T R' := by
  obtain ⟨a, l, rfl⟩ := snoc_of hR'
  have hl' : l ≠ [] := hl l (by simp)
  unfold rc rcR
  rw [tx_rows hT hH hR h10, hs]
  cases hT with
  | none => rw [List.append_nil, rcOf_ink hl']; simp [tx]
  | nl => rw [rcOf_last]; rfl
  | more =>
    rw [show a ++ [l] ++ [[], xy3] = (a ++ [l] ++ [[]]) ++ [xy3] by simp, rcOf_ink (by decide)]
    have hm : (a ++ [l]).map (H ++ ·) ≠ [] := by simp
    unfold tx under
    have e : List.map (fun x => H ++ x) (a ++ [l] ++ [[]] ++ [xy3]) = (a ++ [l]).map (H ++ ·) ++ [H, H ++ xy3] := by simp
    rw [e, jl_app hm (by simp)]
    show jl _ ++ 10 :: (H ++ 10 :: (H ++ xy3)) = _
    simp
theorem flat_no10 {q : List Wd2} (h : Good q) : 10 ∉ flat q := fun hc => by
  unfold flat at hc
  obtain ⟨p, hp, hc⟩ := List.mem_flatMap.mp hc
  rcases List.mem_append.mp hc with hc | hc
  · rcases List.mem_append.mp hc with hc | hc
    · have := (h p hp).2 10 hc; rw [white10] at this; cases this
    · simp at hc
  · unfold dbl at hc; split at hc <;> simp at hc
theorem blank_no10 {I : List Nat} (h : ∀ c ∈ I, blank c = true) : 10 ∉ I := fun q => by have := h 10 q; revert this; decide
theorem body_no10 {q : List Wd2} (h : Good q) : 10 ∉ body q := fun hc => flat_no10 h (rstr_mem hc)
theorem rowsT_mem {I1 I2 : List Nat} {qs : List (List Wd2)} {l : List Nat} (h : l ∈ rowsT I1 I2 qs) : ∃ q ∈ qs, l = I1 ++ body q ∨ l = I2 ++ body q := by
  cases qs with
  | nil => cases h
  | cons q r =>
    rcases List.mem_cons.mp h with rfl | h
    · exact ⟨q, List.mem_cons_self, .inl rfl⟩
    · obtain ⟨x, hx, rfl⟩ := List.mem_map.mp h
      exact ⟨x, List.mem_cons_of_mem _ hx, .inr rfl⟩
theorem rowsT_sum {I1 I2 : List Nat} (h1 : I1.length ≤ 4) (h2 : I2.length ≤ 4) (qs : List (List Wd2)) : sumL (rowsT I1 I2 qs) ≤ wl qs.flatten + 4 * qs.length := by
  have more : ∀ qs : List (List Wd2), sumL (qs.map fun q => I2 ++ body q) ≤ wl qs.flatten + 4 * qs.length := by
    intro qs
    induction qs with
    | nil => simp [sumL]
    | cons q r ih =>
      rw [List.map_cons, sumL_cons, List.flatten_cons, wl_app, List.length_append, List.length_cons]
      have h5 : (body q).length ≤ wl q := by unfold body; have := rstr_len white (flat q); rw [flat_len] at this; exact this
      omega
  cases qs with
  | nil => simp [rowsT, sumL]
  | cons q r =>
    have := more r
    unfold rowsT
    rw [sumL_cons, List.flatten_cons, wl_app, List.length_append, List.length_cons]
    have h5 : (body q).length ≤ wl q := by unfold body; have := rstr_len white (flat q); rw [flat_len] at this; exact this
    omega
theorem tx_len (H T : List Nat) (R : List (List Nat)) : (tx H T R).length ≤ sumL R + R.length * H.length + R.length + T.length := by
  unfold tx under
  rw [List.length_append]
  have := jl_len (R.map (H ++ ·))
  rw [sumL_under, List.length_map] at this
  omega

/-! the blanks, turned one by one -/
noncomputable abbrev gfs (ps : List Wd2) : List Nat := ps.map fun p => gap p.2
noncomputable def Gk (qs : List (List Wd2)) (i : Nat) : List Nat := gfs (nxt (qs.take i)) ++ gfs (qs.drop i).flatten
theorem Gk_zero (qs : List (List Wd2)) : Gk qs 0 = gfs qs.flatten := rfl
theorem Gk_all (qs : List (List Wd2)) : Gk qs qs.length = gfs (nxt qs) := by unfold Gk; rw [List.take_length, List.drop_length]; simp
theorem Gk_succ {qs : List (List Wd2)} {i : Nat} {q : List Wd2} (h : qs[i]? = some q) (hq : q ≠ []) : (Gk qs i).set (endsN qs (i + 1) - 1) 1 = Gk qs (i + 1) := by
  have hi : i < qs.length := by
    rcases Nat.lt_or_ge i qs.length with x | x
    · exact x
    · rw [List.getElem?_eq_none x] at h; cases h
  have he := ends_succ h
  obtain ⟨a, p, rfl⟩ := snoc_of hq
  have hl : (gfs (nxt (qs.take i))).length = endsN qs i := by rw [List.length_map, nxt_len]; rfl
  have hd : qs.drop i = (a ++ [p]) :: qs.drop (i + 1) := by
    rw [List.drop_eq_getElem_cons hi]
    congr 1
    rw [List.getElem?_eq_getElem hi] at h
    injection h
  have ht : qs.take (i + 1) = qs.take i ++ [a ++ [p]] := by rw [List.take_add_one, h]; rfl
  unfold Gk
  rw [hd, ht]
  have hn : nxt (qs.take i ++ [a ++ [p]]) = nxt (qs.take i) ++ (a ++ [(p.1, false)]) := by
    unfold nxt; rw [List.map_append, List.flatten_append]; simp [clr_snoc]
  rw [hn, List.flatten_cons]
  have e1 : gfs (a ++ [p] ++ (qs.drop (i + 1)).flatten) = gfs a ++ gap p.2 :: gfs (qs.drop (i + 1)).flatten := by simp
  have e2 : gfs (nxt (qs.take i) ++ (a ++ [(p.1, false)])) = gfs (nxt (qs.take i)) ++ gfs a ++ [1] := by
    show List.map _ _ = List.map _ _ ++ List.map _ _ ++ _
    rw [List.map_append, List.map_append, List.append_assoc]; rfl
  rw [e1, e2, ← List.append_assoc]
  have hx : endsN qs (i + 1) - 1 = (gfs (nxt (qs.take i)) ++ gfs a).length := by
    rw [List.length_append, hl, List.length_map, he]; simp; try omega
  rw [hx, List.set_append_right _ _ (Nat.le_refl _), Nat.sub_self]
  simp
theorem Gk_len (qs : List (List Wd2)) (i : Nat) : (Gk qs i).length = qs.flatten.length := by
  unfold Gk
  rw [List.length_append, List.length_map, List.length_map, nxt_len, ← List.length_append, ← List.flatten_append, List.take_append_drop]

/-! the first text -/
noncomputable def zf (ps : List Wd2) (ws : List (List Nat)) : List Nat := ((List.range ps.length).map fun i => (ps.map (·.1)).getD i [] ++ ws.getD i []).flatten
theorem zf_cons (p : Wd2) (ps : List Wd2) (w : List Nat) (ws : List (List Nat)) : zf (p :: ps) (w :: ws) = p.1 ++ w ++ zf ps ws := by
  unfold zf
  rw [List.length_cons, List.range_succ_eq_map, List.map_cons, List.map_map, List.flatten_cons]
  congr 1
theorem zf_app : ∀ {a b : List Wd2} {u v : List (List Nat)}, u.length = a.length → zf (a ++ b) (u ++ v) = zf a u ++ zf b v
  | [], b, u, v, h => by
    have : u = [] := List.eq_nil_of_length_eq_zero h
    subst this; rfl
  | p :: a, b, [], v, h => by simp at h
  | p :: a, b, w :: u, v, h => by rw [List.cons_append, List.cons_append, zf_cons, zf_cons, zf_app (by simpa using h)]; simp
noncomputable def gbl (p : Wd2) : List Nat := List.replicate (gap p.2) 32
theorem zf_gap : ∀ a : List Wd2, zf a (a.map gbl) = flat a
  | [] => rfl
  | p :: a => by
    rw [List.map_cons, zf_cons, zf_gap a, show p :: a = [p] ++ a from rfl, flat_app, flat_one]
    congr 1
    rw [List.append_assoc]
    congr 1
    unfold gbl
    cases p.2 <;> rfl
theorem zf_last {ps : List Wd2} (hg : Good ps) (hne : ps ≠ []) : zf ps ((ps.map gbl).set (ps.length - 1) []) = body ps := by
  obtain ⟨a, p, rfl⟩ := snoc_of hne
  rw [List.map_append, List.length_append, List.set_append_right _ _ (by simp), zf_app (by simp), zf_gap, body_snoc (fun x hx => hg x (List.mem_append.mpr (.inr hx)))]
  congr 1
  simp [zf]
theorem zf_cut {ps : List Wd2} (hg : Good ps) {k : Nat} (hk0 : 0 < k) (hk : k < ps.length) (X : List Nat) : zf ps (((ps.map gbl).set (ps.length - 1) []).set (k - 1) X) = body (ps.take k) ++ X ++ body (ps.drop k) := by
  have hnt : ps.take k ≠ [] := fun e => by have := congrArg List.length e; rw [List.length_take, List.length_nil] at this; omega
  have hnd : ps.drop k ≠ [] := fun e => by have := congrArg List.length e; rw [List.length_drop, List.length_nil] at this; omega
  have hgd : Good (ps.drop k) := fun p hp => hg p (List.mem_of_mem_drop hp)
  have hl := zf_last hgd hnd
  obtain ⟨a, p, e⟩ := snoc_of hnt
  have hgp : Good [p] := fun x hx => hg x (List.mem_of_mem_take (by rw [e]; exact List.mem_append.mpr (.inr hx)))
  have hal : a.length + 1 = k := by have := congrArg List.length e; rw [List.length_take, List.length_append] at this; simp at this; omega
  have e0 : ps = (a ++ [p]) ++ ps.drop k := by rw [← e, List.take_append_drop]
  have hdl : (ps.drop k).length = ps.length - k := List.length_drop
  rw [e, body_snoc hgp, ← hl]
  conv => lhs; rw [e0]
  rw [List.map_append, List.length_append, List.set_append_right _ _ (by simp; omega)]
  rw [List.set_append_left _ _ (by simp; omega)]
  rw [zf_app (by simp)]
  have h1 : ((a ++ [p]).map gbl).set (k - 1) X = a.map gbl ++ [X] := by
    rw [List.map_append, List.set_append_right _ _ (by simp; omega)]
    have : k - 1 - (a.map gbl).length = 0 := by simp; omega
    rw [this]; rfl
  rw [h1, zf_app (by simp), zf_gap]
  have h2 : (a ++ [p]).length + (ps.drop k).length - 1 - ((a ++ [p]).map gbl).length = (ps.drop k).length - 1 := by simp; omega
  rw [h2]
  simp [zf]

structure J3 (ws : List (List Nat)) (I1 I2 : List Nat) (wd : Int) (tl : List (List Nat)) (H T : List Nat) (k : Nat) (ps : List Wd2) (Rt : List (List Nat)) (SN : List (List Nat)) (L : Nat) : Prop where
  fst : fs ps = ws
  p : P3 ps I1 I2
  ne : Rt ≠ []
  no : ∀ l ∈ Rt, 10 ∉ l
  len : (tx H T Rt).length ≤ 3000
  run : rpR (Rt ++ tl) wd = rowsT I1 I2 (setR I1 I2 wd ps) ++ tl
  cnt : SN.length = k
  prev : 0 < k → ∃ pq, P3 pq I1 I2 ∧ fs pq = ws ∧ Rt = rowsT I1 I2 (setR I1 I2 wd pq) ∧ ps = nxt (setR I1 I2 wd pq) ∧ SN[k - 1]? = some (EN3 (setR I1 I2 wd pq)) ∧ L ≤ ws.length ∧ (k = 1 → L = cnt2 ps) ∧ (2 ≤ k → (k - 2) + cnt2 pq ≤ L)
theorem EN3_len (qs : List (List Wd2)) : (EN3 qs).length = qs.length + 1 := by simp [EN3]
theorem EN3_get {qs : List (List Wd2)} {k : Nat} (h : k < qs.length + 1) : (EN3 qs)[k]? = some (endsN qs k) := by unfold EN3; rw [List.getElem?_map, List.getElem?_range h]; rfl
theorem rows_len_ps {I1 I2 : List Nat} {wd : Int} {ps : List Wd2} (hp : P3 ps I1 I2) : (setR I1 I2 wd ps).length ≤ 18 ∧ setR I1 I2 wd ps ≠ [] := by
  have := rows_count (fun q hq => (set_good (I1 := I1) (I2 := I2) (wd := wd) hp.g hp.n q hq).2) (set_flat I1 I2 wd ps)
  exact ⟨by have := hp.l; omega, set_ne hp.n⟩
theorem set_tx_len {I1 I2 H T : List Nat} {wd : Int} {ps : List Wd2} (hp : P3 ps I1 I2) (hH : H.length ≤ 3) (hT : T.length ≤ 20) : (tx H T (rowsT I1 I2 (setR I1 I2 wd ps))).length ≤ 3000 := by
  have h1 := tx_len H T (rowsT I1 I2 (setR I1 I2 wd ps))
  have h2 := rowsT_sum hp.l1 hp.l2 (setR I1 I2 wd ps)
  rw [set_flat] at h2
  have h3 := (rows_len_ps (wd := wd) hp).1
  rw [rowsT_len] at h1
  have h4 := hp.w
  have h5 : (setR I1 I2 wd ps).length * H.length ≤ 18 * 3 := Nat.mul_le_mul h3 hH
  omega
theorem nxt_p3 {I1 I2 : List Nat} {wd : Int} {ps : List Wd2} (hp : P3 ps I1 I2) : P3 (nxt (setR I1 I2 wd ps)) I1 I2 := by
  have hf := nxt_fst (setR I1 I2 wd ps)
  have hl := nxt_len (setR I1 I2 wd ps)
  have hw := (nxt_le (setR I1 I2 wd ps)).wl
  rw [set_flat] at hf hl hw
  refine ⟨good_fst hf hp.g, fun e => hp.n ?_, hp.b1, hp.b2, hp.l1, hp.l2, by have := hp.l; omega, by have := hp.w; omega⟩
  rw [e] at hl
  exact List.eq_nil_of_length_eq_zero hl.symm
section
variable {ws : List (List Nat)} {I1 I2 : List Nat} {wd : Int} {tl : List (List Nat)} {H T : List Nat} {k : Nat} {ps : List Wd2} {Rt : List (List Nat)} {SN : List (List Nat)} {L : Nat}
theorem rowsT_ne {qs : List (List Wd2)} (h : qs ≠ []) : rowsT I1 I2 qs ≠ [] := by cases qs with | nil => exact absurd rfl h | cons => simp [rowsT]
theorem J3.rows_dark (hp : P3 ps I1 I2) : ∀ l ∈ rowsT I1 I2 (setR I1 I2 wd ps), l ≠ [] := fun l hl e => by
  obtain ⟨q, hq, h⟩ := rowsT_mem hl
  obtain ⟨g, n⟩ := set_good hp.g hp.n q hq
  rcases h with rfl | rfl
  · have := (row_indt3 hp.b1 g n).2; rw [e] at this; cases this
  · have := (row_indt3 hp.b2 g n).2; rw [e] at this; cases this
theorem rows_no10 (hp : P3 ps I1 I2) : ∀ l ∈ rowsT I1 I2 (setR I1 I2 wd ps), 10 ∉ l := fun l hl e => by
  obtain ⟨q, hq, h⟩ := rowsT_mem hl
  obtain ⟨g, n⟩ := set_good hp.g hp.n q hq
  rcases h with rfl | rfl <;> rcases List.mem_append.mp e with e | e
  · exact blank_no10 hp.b1 e
  · exact body_no10 g e
  · exact blank_no10 hp.b2 e
  · exact body_no10 g e
theorem J3.fresh (j : J3 ws I1 I2 wd tl H T k ps Rt SN L) {lim : Int} (hwd : wd = wid lim H) (hT : Tl H T tl) (hH : 10 ∉ H) : rc (tx H T Rt) lim H = tx H T (rowsT I1 I2 (setR I1 I2 wd ps)) := by
  refine tx_rc hT hH j.ne j.no (by rw [← hwd]; exact j.run) (rowsT_ne (rows_len_ps j.p).2) (J3.rows_dark j.p)
theorem J3.next (j : J3 ws I1 I2 wd tl H T k ps Rt SN L) (hH : H.length ≤ 3) (hT : T.length ≤ 20) (ht : tl = [] ∨ ∃ t u, tl = t :: u ∧ isw t = true) (hne : 0 < k → tx H T (rowsT I1 I2 (setR I1 I2 wd ps)) ≠ tx H T Rt) :
    J3 ws I1 I2 wd tl H T (k + 1) (nxt (setR I1 I2 wd ps)) (rowsT I1 I2 (setR I1 I2 wd ps)) (SN ++ [EN3 (setR I1 I2 wd ps)]) (if k = 0 then cnt2 (nxt (setR I1 I2 wd ps)) else L) := by
  have hf := nxt_fst (setR I1 I2 wd ps)
  rw [set_flat] at hf
  have hl := nxt_len (setR I1 I2 wd ps)
  rw [set_flat] at hl
  have hwl : ws.length = ps.length := by rw [← j.fst, List.length_map]
  refine ⟨hf.trans j.fst, nxt_p3 j.p, rowsT_ne (rows_len_ps j.p).2, rows_no10 j.p, set_tx_len j.p hH hT, set_next j.p.b1 j.p.b2 j.p.g j.p.n ht, by rw [List.length_append, j.cnt]; rfl, fun _ => ?_⟩
  refine ⟨ps, j.p, j.fst, rfl, rfl, ?_, ?_, ?_, ?_⟩
  · rw [show k + 1 - 1 = SN.length by rw [j.cnt]; rfl]; simp
  · split
    · have := cnt2_le (nxt (setR I1 I2 wd ps)); omega
    · obtain ⟨pq, h⟩ := j.prev (by omega)
      exact h.2.2.2.2.2.1
  · intro h; rw [if_pos (by omega)]
  · intro h
    have hk : 0 < k := by omega
    rw [if_neg (by omega)]
    obtain ⟨pq, p1, p2, p3, p4, p5, p6, p7, p8⟩ := j.prev hk
    have hlt : cnt2 ps ≤ cnt2 pq ∧ (cnt2 ps = cnt2 pq → ps = pq) := by
      have := (nxt_le (setR I1 I2 wd pq)).cnt
      rw [set_flat, ← p4] at this; exact this
    have hnp : ps ≠ pq := fun e => hne hk (by rw [p3, e])
    have : cnt2 ps < cnt2 pq := Nat.lt_of_le_of_ne hlt.1 fun e => hnp (hlt.2 e)
    by_cases h1 : k = 1
    · have := p7 h1; omega
    · have := p8 (by omega); omega
theorem J3.stop (j : J3 ws I1 I2 wd tl H T k ps Rt SN L) (hk : 0 < k) : k + 1 ≤ L + 3 := by
  obtain ⟨pq, p1, p2, p3, p4, p5, p6, p7, p8⟩ := j.prev hk
  by_cases h1 : k = 1
  · omega
  · have := p8 (by omega); omega
theorem J3.fin (j : J3 ws I1 I2 wd tl H T (ws.length + 3) ps Rt SN L) : False := by
  obtain ⟨pq, p1, p2, p3, p4, p5, p6, p7, p8⟩ := j.prev (by omega)
  have := p8 (by omega); omega
theorem J3.dom (j : J3 ws I1 I2 wd tl H T k ps Rt SN L) (hk : 0 < k) : ∃ E : List Nat, SN[k - 1]? = some E ∧ (EN3 (setR I1 I2 wd ps)).length ≤ E.length ∧ ∀ i, i < (EN3 (setR I1 I2 wd ps)).length → ∃ x y, (EN3 (setR I1 I2 wd ps))[i]? = some x ∧ E[i]? = some y ∧ y ≤ x := by
  obtain ⟨pq, p1, p2, p3, p4, p5, p6, p7, p8⟩ := j.prev hk
  refine ⟨_, p5, ?_⟩
  have hle := nxt_le (setR I1 I2 wd pq)
  rw [← p4] at hle
  obtain ⟨h1, h2⟩ := dominates (set_rows (I1 := I1) (I2 := I2) (wd := wd) p1.n) rfl (set_rows (I1 := I1) (I2 := I2) (wd := wd) j.p.n) (set_flat I1 I2 wd ps) hle
  rw [EN3_len, EN3_len]
  refine ⟨by omega, fun i hi => ⟨_, _, EN3_get hi, EN3_get (by omega), h2 i (by omega)⟩⟩
end



noncomputable def HD3 : List (List Nat) := [[], [35], [32, 35, 35], [9, 35]]
noncomputable def hd3 (a : Int) : List Nat := HD3.getD (a.fmod 4).toNat []
theorem hd3_get (a : Int) : HD3[(a.fmod 4).toNat]? = some (hd3 a) := by
  unfold hd3
  have := fmod_range a (show (0 : Int) < 4 by decide)
  rw [List.getD_eq_getElem?_getD, List.getElem?_eq_getElem (show _ < 4 by omega)]; rfl
theorem hd3_ok (a : Int) : (hd3 a).length ≤ 3 ∧ 10 ∉ hd3 a := by
  have : ∀ p ∈ HD3, p.length ≤ 3 ∧ 10 ∉ p := by decide
  exact this _ (List.mem_of_getElem? (hd3_get a))
noncomputable def IN3 : List (List Nat) := [[], [32], [9], [32, 32, 9, 32]]
noncomputable def in3 (a : Int) : List Nat := IN3.getD (a.fmod 4).toNat []
theorem in3_get (a : Int) : (IN3.map I6)[(a.fmod 4).toNat]? = some (I6 (in3 a)) := by
  unfold in3
  have := fmod_range a (show (0 : Int) < 4 by decide)
  rw [List.getElem?_map, List.getD_eq_getElem?_getD, List.getElem?_eq_getElem (show _ < IN3.length from (show _ < 4 by omega))]; rfl
theorem in3_ok (a : Int) : (in3 a).length ≤ 4 ∧ ∀ c ∈ in3 a, blank c = true := by
  have : ∀ p ∈ IN3, p.length ≤ 4 ∧ ∀ c ∈ p, blank c = true := by decide
  unfold in3
  have h := fmod_range a (show (0 : Int) < 4 by decide)
  refine this _ (List.mem_of_getElem? (i := (a.fmod 4).toNat) ?_)
  rw [List.getD_eq_getElem?_getD, List.getElem?_eq_getElem (show _ < IN3.length from (show _ < 4 by omega))]; rfl
noncomputable def LET3 : List Nat := [97, 98, 99, 100, 101, 102, 103, 104, 105, 106, 107, 108, 109, 110, 111, 112, 113, 114, 115, 116, 117, 118, 119, 120, 121, 122]
noncomputable def ltr3 (x : Int) : Nat := LET3.getD (x.fmod 26).toNat 0
theorem ltr3_get (x : Int) : LET3[(x.fmod 26).toNat]? = some (ltr3 x) := by
  unfold ltr3
  have := fmod_range x (show (0 : Int) < 26 by decide)
  rw [List.getD_eq_getElem?_getD, List.getElem?_eq_getElem (show _ < 26 by omega)]; rfl
theorem ltr3_ok (x : Int) : white (ltr3 x) = false := by
  have : ∀ c ∈ LET3, white c = false := by decide +kernel
  exact this _ (List.mem_of_getElem? (ltr3_get x))
noncomputable def wn3 (x : Int) : Nat := 1 + (x.fmod 9).toNat
theorem wn3_ok (x : Int) : (1 : Int) + x.fmod 9 = (wn3 x : Int) ∧ 1 ≤ wn3 x ∧ wn3 x ≤ 9 := by
  have := fmod_range x (show (0 : Int) < 9 by decide)
  unfold wn3; omega
noncomputable def pw3 (x : Int) : Wd2 := (List.replicate (wn3 x) (ltr3 x), decide ((x.fdiv 9).fmod 2 = 1))
theorem gp3_ok (x : Int) : (1 : Int) + (x.fdiv 9).fmod 2 = (gap (pw3 x).2 : Nat) := by
  have := fmod_range (x.fdiv 9) (show (0 : Int) < 2 by decide)
  unfold pw3 gap
  by_cases h : (x.fdiv 9).fmod 2 = 1
  · rw [decide_eq_true h, h]; rfl
  · rw [decide_eq_false h, if_neg (by simp)]; omega
theorem gap_le3 (b : Bool) : 1 ≤ gap b ∧ gap b ≤ 2 := by cases b <;> decide
theorem ps3_ok {xs : List Int} (h0 : xs ≠ []) (h : xs.length ≤ 18) {I1 I2 : List Nat} (b1 : ∀ c ∈ I1, blank c = true) (b2 : ∀ c ∈ I2, blank c = true) (l1 : I1.length ≤ 4) (l2 : I2.length ≤ 4) : P3 (xs.map pw3) I1 I2 ∧ wl (xs.map pw3) ≤ 198 := by
  have hw : wl (xs.map pw3) ≤ 198 := by
    have : ∀ xs : List Int, wl (xs.map pw3) ≤ 11 * xs.length := by
      intro xs
      induction xs with
      | nil => exact Nat.le_refl _
      | cons x r ih =>
        rw [List.map_cons, show pw3 x :: r.map pw3 = [pw3 x] ++ r.map pw3 from rfl, wl_app, List.length_cons]
        have h1 : wl [pw3 x] = wn3 x + gap (pw3 x).2 := by simp [wl, pw3]
        have := wn3_ok x
        have := gap_le3 (pw3 x).2
        omega
    have := this xs
    omega
  refine ⟨⟨fun p hp => ?_, by simpa using h0, b1, b2, l1, l2, by rw [List.length_map]; exact h, by omega⟩, hw⟩
  obtain ⟨x, _, rfl⟩ := List.mem_map.mp hp
  refine ⟨fun e => ?_, fun c hc => ?_⟩
  · have := congrArg List.length e
    have h2 := (wn3_ok x).2.1
    simp [pw3] at this; omega
  · rw [List.eq_of_mem_replicate hc]; exact ltr3_ok x
theorem SS_set {l : List (List Nat)} {j : Nat} {a : List Nat} : (SS l).set j (.str (mkS a)) = SS (l.set j a) := by rw [SS, SS, List.map_set]
theorem GSI_set {l : List Nat} {j a : Nat} : (GSI l).set j (.int (a : Nat)) = GSI (l.set j a) := by rw [GSI, GSI, List.map_set]
noncomputable def TL3 (H : List Nat) : List (List Nat) := [[], [10], [10] ++ H ++ [10] ++ H ++ xy3]
theorem tl3_ok (H : List Nat) (x : Int) : ∃ T tl, (TL3 H)[(x.fmod 3).toNat]? = some T ∧ Tl H T tl ∧ (tl = [] ∨ ∃ t u, tl = t :: u ∧ isw t = true) ∧ (H.length ≤ 3 → T.length ≤ 20) := by
  have := fmod_range x (show (0 : Int) < 3 by decide)
  obtain ⟨n, hn⟩ : ∃ n, (x.fmod 3).toNat = n := ⟨_, rfl⟩
  rw [hn]
  match n, (show n < 3 by omega) with
  | 0, _ => exact ⟨_, _, rfl, .none, .inl rfl, fun _ => by simp⟩
  | 1, _ => exact ⟨_, _, rfl, .nl, .inr ⟨_, _, rfl, rfl⟩, fun _ => by simp⟩
  | 2, _ => exact ⟨_, _, rfl, .more, .inr ⟨_, _, rfl, rfl⟩, fun h => by simp [xy3]; omega⟩
noncomputable def wh3 (ps : List Wd2) (H I2 : List Nat) (pl : Nat) : List (List Nat) :=
  if pl < ps.length then ((ps.map gbl).set (ps.length - 1) []).set (pl - 1) ((if (ps.getD (pl - 1) ([], false)).2 then [32, 32] else []) ++ [10] ++ H ++ I2) else (ps.map gbl).set (ps.length - 1) []
theorem wh3_len (ps : List Wd2) (H I2 : List Nat) (pl : Nat) : (wh3 ps H I2 pl).length = ps.length := by unfold wh3; split <;> simp
theorem first_text {ps : List Wd2} {I1 I2 H T : List Nat} (hp : P3 ps I1 I2) {pl : Nat} (hpl : 0 < pl) {L : List (List Nat)} (hL : L = if pl < ps.length then [I1 ++ body (ps.take pl) ++ (if (ps.getD (pl - 1) ([], false)).2 then [32, 32] else []), I2 ++ body (ps.drop pl)] else [I1 ++ body ps]) :
    H ++ I1 ++ zf ps (wh3 ps H I2 pl) ++ T = tx H T L ∧ (zf ps (wh3 ps H I2 pl)).length ≤ wl ps + H.length + I2.length + 3 ∧ L ≠ [] ∧ ∀ l ∈ L, 10 ∉ l := by
  have hx : ∀ b : Bool, (if b then [32, 32] else ([] : List Nat)).length ≤ 2 ∧ 10 ∉ (if b then [32, 32] else ([] : List Nat)) := by decide
  have hgt : Good (ps.take pl) := fun p h => hp.g p (List.mem_of_mem_take h)
  have hgd : Good (ps.drop pl) := fun p h => hp.g p (List.mem_of_mem_drop h)
  unfold wh3
  by_cases h : pl < ps.length
  · rw [if_pos h] at hL ⊢
    rw [zf_cut hp.g hpl h]
    have hxx := hx (ps.getD (pl - 1) ([], false)).2
    generalize (if (ps.getD (pl - 1) ([], false)).2 = true then [32, 32] else ([] : List Nat)) = x at hL hxx
    refine ⟨?_, ?_, by rw [hL]; simp, fun l hl => ?_⟩
    · rw [hL]; unfold tx under
      show _ = H ++ (I1 ++ body (ps.take pl) ++ x) ++ 10 :: (H ++ (I2 ++ body (ps.drop pl))) ++ T
      simp
    · have h1 := body_le (ps.take pl)
      have h2 := body_le (ps.drop pl)
      have h3 : wl ps = wl (ps.take pl) + wl (ps.drop pl) := by rw [← wl_app, List.take_append_drop]
      simp only [List.length_append, List.length_cons, List.length_nil]
      omega
    · rw [hL] at hl
      rcases List.mem_cons.mp hl with rfl | hl
      · intro e
        rcases List.mem_append.mp e with e | e
        · rcases List.mem_append.mp e with e | e
          · exact blank_no10 hp.b1 e
          · exact body_no10 hgt e
        · exact hxx.2 e
      · rw [List.mem_singleton.mp hl]
        intro e
        rcases List.mem_append.mp e with e | e
        · exact blank_no10 hp.b2 e
        · exact body_no10 hgd e
  · rw [if_neg h] at hL ⊢
    rw [zf_last hp.g hp.n]
    refine ⟨?_, ?_, by rw [hL]; simp, fun l hl => ?_⟩
    · rw [hL]; unfold tx under
      show _ = H ++ (I1 ++ body ps) ++ T
      simp
    · have := body_le ps; omega
    · rw [hL] at hl; rw [List.mem_singleton.mp hl]
      intro e
      rcases List.mem_append.mp e with e | e
      · exact blank_no10 hp.b1 e
      · exact body_no10 hp.g e
noncomputable def SV (SN : List (List Nat)) : List PV := SN.map fun e => PV.list (GSI e)
theorem deeps_GSI : ∀ l : List Nat, PV.deeps (GSI l) = 0 := fun l => by
  induction l with
  | nil => rfl
  | cons x r ih => show max (PV.deep (.int _)) (PV.deeps (GSI r)) = 0; rw [ih]; rfl
theorem deeps_SV : ∀ l : List (List Nat), PV.deeps (SV l) ≤ 1 := fun l => by
  induction l with
  | nil => exact Nat.zero_le _
  | cons x r ih => show max (PV.deep (.list (GSI x))) (PV.deeps (SV r)) ≤ 1; rw [PV.deep, deeps_GSI]; omega
theorem flats_GSI (l : List Nat) : flats (GSI l) = true := by
  unfold flats; rw [List.all_eq_true]; intro x hx; obtain ⟨a, _, rfl⟩ := List.mem_map.mp hx; rfl
theorem kins_GSI : ∀ (a b : List Nat), PV.kins (GSI a) (GSI b) = true
  | [], _ => nil_kins _
  | _ :: _, [] => kins_nil _
  | x :: a, y :: b => by show (PV.kin (.int _) (.int _) && PV.kins (GSI a) (GSI b)) = true; rw [kins_GSI a b]; rfl
theorem count2 (ps : List Wd2) : ((GSI (gfs ps)).countP fun d => PV.eqv d (.int 2)) = cnt2 ps := by
  unfold cnt2
  rw [GSI, List.countP_map, List.countP_map]
  congr 1
  funext p
  obtain ⟨w, b⟩ := p
  cases b <;> rfl
theorem ssl_take (y : List Nat) (k : Nat) : ssl (mkS y) none (some (k : Int)) = mkS (y.take k) := by unfold ssl; rw [lsl_to]
theorem deep0 : PV.deep (.list []) ≤ 64 := by simp [PV.deep, PV.deeps]
section
variable {w : World} {s₁ : Shared} {prog : Program} {mg mb : Str → Option Value}
set_option maxHeartbeats 4000000 in
theorem fn_law (g : Gl (W0 prog w s₁) mg mb) (KX : (hd.heap_39 w.params).In s₁.heap) (X : Tabs s₁.heap [(59, 55)]) (BM : BMain s₁.heap mg) : Fn (W0 prog w s₁) 4 84 LawF := by
  have F1 := fn_rc g KX X BM
  have F2 := fn_en g KX
  have A1 := at_rc g KX
  have A2 := at_en g KX
  have hlen := mgn_len KX g.g
  have hrange := mgn_range KX g.g
  have hmax := mgn_max KX g.g
  have bmax : bootBuiltins "max" = some (.builtin "max") := by decide +kernel
  refine Fn_of g (fnDef_of (params := ["script"]) (KX 84 _ rfl) rfl rfl rfl rfl rfl rfl rfl rfl (KX 83 _ rfl) rfl rfl (len1 fun a => rfl) (notTb rfl) rfl rfl rfl rfl) ["gaps", "white", "seen"] 3 ⟨rfl, fun x hx => by simp at hx; subst hx; rfl⟩ (fun ds d ⟨ns, _, h, _⟩ => by rw [h]; rfl) ?_
  rintro P h₀ ds d ok ⟨ns, hns, rfl, rfl⟩
  -- numbers
  obtain ⟨a, b, x0, x1, ms, hms, hme⟩ : ∃ (a b x0 x1 : Int) (ms : List Int), ms.length ≤ 70 ∧ (if 3 < ns.length then ns else ns ++ [0, 17, 22, 16, 17, 8, 35, 12]) = a :: b :: x0 :: x1 :: ms := by
    match ns, hns with
    | [], _ => exact ⟨_, _, _, _, _, by decide, rfl⟩
    | [x], _ => exact ⟨_, _, _, _, _, by decide, rfl⟩
    | [x, y], _ => exact ⟨_, _, _, _, _, by decide, rfl⟩
    | [x, y, z], _ => exact ⟨_, _, _, _, _, by decide, rfl⟩
    | x :: y :: z :: u :: r, h => exact ⟨x, y, z, u, r, by simp at h; omega, if_pos (by simp)⟩
  refine Ex_cons (Ex1_assign ok (d := .list ((a :: b :: x0 :: x1 :: ms).map .int)) ?_ ?_ rfl rfl rfl)
  · refine Ev_ifexp (k := decide (3 < ns.length)) (IsT1.cast (d := decide ((3 : Int) < (ns.length : Nat))) (decide_eq_decide.mpr (by omega)) (IsT_cmp (d₁ := .int (ns.length : Nat)) (Ev_callB ok g rfl hlen PySem.boot_len rfl (by decide) (.cons (Ev_name ok rfl rfl rfl) rfl .nil) (by simpa using BiOk_len_list (ds := ns.map PV.int))) (by pv_eval) .gt rfl)) (fun h => ?_) fun h => ?_
    · rw [← hme, if_pos (of_decide_eq_true h)]; exact Ev_name ok rfl rfl rfl
    · rw [← hme, if_neg (of_decide_eq_false h), List.map_append]
      have := of_decide_eq_false h
      exact EvF.ev ok (EvF_cat ok (Ev.seq (Ev_name ok rfl rfl rfl)) (EvF.seq (by pv_eval)) (by rw [sizeLine_is]; simp; omega))
  have hg0 : ((a :: b :: x0 :: x1 :: ms).map PV.int)[0]? = some (.int a) := rfl
  have hg1 : ((a :: b :: x0 :: x1 :: ms).map PV.int)[1]? = some (.int b) := rfl
  have hg2 : ((a :: b :: x0 :: x1 :: ms).map PV.int)[2]? = some (.int x0) := rfl
  have hg3 : ((a :: b :: x0 :: x1 :: ms).map PV.int)[3]? = some (.int x1) := rfl
  have hl3 : 3 < ((a :: b :: x0 :: x1 :: ms).map PV.int).length := by simp
  refine Ex_cons (Ex1_swap ok (names := ["a", "b"]) (ds := [.int a, .int b]) (Ev_tuple ok (.cons (Ev_item (k := 0) (j := 0) (Ev.seq (Ev_name ok rfl rfl rfl)) (by pv_eval) (idx_nat (i := 0) (by omega)) hg0 (fun _ _ => rfl)) rfl (.cons (Ev_item (k := 1) (j := 1) (Ev.seq (Ev_name ok rfl rfl rfl)) (by pv_eval) (idx_nat (i := 1) (by omega)) hg1 (fun _ _ => rfl)) rfl .nil)) rfl) rfl rfl ?_ rfl rfl)
  refine Ex_cons (Ex1_assign ok (d := .str (mkS (hd3 a))) (Ev_item (EvF.seq (EvF_list (ds := SS HD3) ok (.cons (Ev_str (by decide)) rfl (.cons (Ev_str (by decide)) rfl (.cons (Ev_str (by decide)) rfl (.cons (Ev_str (by decide)) rfl .nil)))) rfl)) (Ev_bin (Ev_name (d := .int a) ok rfl rfl rfl) Ev_int (.modI (b := 4) (by decide))) (idx_mod (n := 4) (by decide) rfl) (SS_get (hd3_get a)) (fun _ _ => rfl)) ?_ rfl rfl rfl)
  obtain ⟨hHl, hH10⟩ := hd3_ok a
  generalize hd3 a = H at hHl hH10
  refine Ex_cons (Ex1_assign ok (d := .int (H.length : Nat)) (Ev_callB ok g rfl hlen PySem.boot_len rfl (by decide) (.cons (Ev_name ok rfl rfl rfl) rfl .nil) BiOk_len_mkS) ?_ rfl rfl rfl)
  refine Ex_cons (Ex1_assign ok (d := .list (IN3.map I6)) (EvF.ev ok (EvF_list (ds := IN3.map I6) ok (.cons (Ev_tuple ok (.cons (Ev_str (by decide)) rfl (.cons Ev_int rfl .nil)) rfl) rfl (.cons (Ev_tuple ok (.cons (Ev_str (by decide)) rfl (.cons Ev_int rfl .nil)) rfl) rfl (.cons (Ev_tuple ok (.cons (Ev_str (by decide)) rfl (.cons Ev_int rfl .nil)) rfl) rfl (.cons (Ev_tuple ok (.cons (Ev_str (by decide)) rfl (.cons Ev_int rfl .nil)) rfl) rfl .nil)))) rfl)) ?_ rfl rfl rfl)
  refine Ex_cons (Ex1_swap ok (names := ["first", "later"]) (ds := [I6 (in3 (a.fdiv 4)), I6 (in3 (a.fdiv 16))]) (Ev_tuple ok (.cons (Ev_item (Ev.seq (Ev_name ok rfl rfl rfl)) (Ev_bin (Ev_bin (Ev_name (d := .int a) ok rfl rfl rfl) Ev_int (.divI (b := 4) (by decide) (PyProof.noPylong_small (by decide)))) Ev_int (.modI (b := 4) (by decide))) (idx_mod (n := 4) (by decide) rfl) (in3_get (a.fdiv 4)) (fun _ _ => rfl)) rfl (.cons (Ev_item (Ev.seq (Ev_name ok rfl rfl rfl)) (Ev_bin (Ev_bin (Ev_name (d := .int a) ok rfl rfl rfl) Ev_int (.divI (b := 16) (by decide) (PyProof.noPylong_small (by decide)))) Ev_int (.modI (b := 4) (by decide))) (idx_mod (n := 4) (by decide) rfl) (in3_get (a.fdiv 16)) (fun _ _ => rfl)) rfl .nil)) rfl) rfl rfl ?_ rfl rfl)
  obtain ⟨l1, b1⟩ := in3_ok (a.fdiv 4)
  obtain ⟨l2', b2'⟩ := in3_ok (a.fdiv 16)
  generalize in3 (a.fdiv 4) = I1 at l1 b1
  generalize in3 (a.fdiv 16) = J at l2' b2'
  obtain ⟨lim, hlim⟩ : ∃ lim : Int, (if b.fmod 4 = 3 then b else (H.length : Nat) + 18 + b.fmod 24) = lim := ⟨_, rfl⟩
  refine Ex_cons (Ex1_assign ok (d := .int lim) (Ev_ifexp (k := decide (b.fmod 4 = 3)) (IsT1.cast ?_ (IsT_cmp (d₁ := .int (b.fmod 4)) (d₂ := .int 3) (by pv_eval) (by pv_eval) (.eq rfl (Nat.zero_le _)) rfl)) (fun h => ?_) fun h => ?_) ?_ rfl rfl rfl)
  · rw [eqv_int]; rfl
  · rw [← hlim, if_pos (of_decide_eq_true h)]; exact Ev_name ok rfl rfl rfl
  · rw [← hlim, if_neg (of_decide_eq_false h)]; pv_eval
  obtain ⟨pl, hpl, hpl0, hpl4⟩ : ∃ n : Nat, (1 : Int) + x0.fmod 4 = (n : Int) ∧ 0 < n ∧ n ≤ 4 := by
    have := fmod_range x0 (show (0 : Int) < 4 by decide)
    exact ⟨(1 + x0.fmod 4).toNat, by omega, by omega, by omega⟩
  refine Ex_cons (Ex1_assign ok (d := .int (pl : Int)) (Ev.cast (congrArg PV.int hpl) (Ev_bin Ev_int (Ev_bin (Ev_item (k := 2) (j := 2) (d := .int x0) (Ev.seq (Ev_name ok rfl rfl rfl)) (by pv_eval) (idx_nat (i := 2) (by omega)) hg2 (fun _ _ => rfl)) Ev_int (.modI (b := 4) (by decide))) .addI)) ?_ rfl rfl rfl)
  obtain ⟨T, tl, hTg, hTl, htw, hT20⟩ := tl3_ok H x1
  have hT20 := hT20 hHl
  refine Ex_cons (Ex1_assign ok (d := .str (mkS T)) (Ev_item (EvF.seq (EvF_list (ds := SS (TL3 H)) ok (.cons (Ev_str (by decide)) rfl (.cons (Ev_str (by decide)) rfl (.cons (str_cat (str_cat (str_cat (str_cat (x := [10]) (Ev_str (by decide)) (Ev_name ok rfl rfl rfl) (by rw [sizeLine_is]; simp; omega)) (y := [10]) (Ev_str (by decide)) (by rw [sizeLine_is]; simp; omega)) (Ev_name ok rfl rfl rfl) (by rw [sizeLine_is]; simp; omega)) (y := xy3) (Ev_str (by decide)) (by rw [sizeLine_is]; simp [xy3]; omega)) rfl .nil))) rfl)) (Ev_bin (Ev_item (k := 3) (j := 3) (d := .int x1) (Ev.seq (Ev_name ok rfl rfl rfl)) (by pv_eval) (idx_nat (i := 3) hl3) hg3 (fun _ _ => rfl)) Ev_int (.modI (b := 3) (by decide))) (idx_mod (n := 3) (by decide) rfl) (SS_get hTg) (fun _ _ => rfl)) ?_ rfl rfl rfl)
  refine Ex_cons (Ex1_assign ok (d := .str (mkS LET3)) (Ev_str (by decide)) ?_ rfl rfl rfl)
  -- words, gaps
  have hxs0 : (x0 :: x1 :: ms.take 16) ≠ [] := by simp
  have hxs : (x0 :: x1 :: ms.take 16).length ≤ 18 := by rw [List.length_cons, List.length_cons, List.length_take]; omega
  have htk : (((a :: b :: x0 :: x1 :: ms).map PV.int).drop 2).take 18 = (x0 :: x1 :: ms.take 16).map PV.int := by simp [List.map_take]
  have hsl : lsl ((a :: b :: x0 :: x1 :: ms).map PV.int) (some 2) (some 20) = (x0 :: x1 :: ms.take 16).map PV.int := by
    rw [show (2 : Int) = ((2 : Nat) : Int) from rfl, show (20 : Int) = ((20 : Nat) : Int) from rfl, lsl_any (by decide)]; exact htk
  generalize x0 :: x1 :: ms.take 16 = xs at hxs0 hxs hsl
  refine Ex_cons (Ex1_assign ok (d := .list (SS (fs (xs.map pw3)))) (EvF.ev ok (EvF.cast (show xs.map (fun x => PV.str (mkS (List.replicate (wn3 x) (ltr3 x)))) = _ by rw [SS, fs, List.map_map, List.map_map]; rfl) (EvF_compM ok xs PV.int _ (fun x y h => by injection h with h; rw [h]) (EvF.ev ok (EvF.cast hsl (EvF_lsl (li := some 2) (hj := some 20) ok (Ev.seq (Ev_name ok rfl rfl rfl)) (by pv_eval) (by pv_eval)))) .list (by rw [sizeLine_is]; omega) rfl [("letters", .str (mkS LET3))] (.put rfl rfl .nil) (fun C x hx ok' => ⟨_, Asg_name ok' rfl rfl, .put rfl .nil, ?_⟩) (fun _ => rfl)))) ?_ rfl rfl rfl)
  · have hw := wn3_ok x
    exact Ev_bin (Ev_itemS (x := mkS LET3) (Ev_name ok' rfl rfl rfl) (Ev_bin (Ev_name (d := .int x) ok' rfl rfl rfl) Ev_int (.modI (b := 26) (by decide))) (idx_mod (n := 26) (by decide) rfl) (ltr3_get x) (fun _ _ => rfl)) (Ev.cast (congrArg PV.int hw.1) (Ev_bin Ev_int (Ev_bin (Ev_name (d := .int x) ok' rfl rfl rfl) Ev_int (.modI (b := 9) (by decide))) .addI)) (.mul1 (by rw [sizeLine_is]; omega))
  refine Ex_cons (Ex1_assignCM ok xs PV.int (fun x => PV.int (gap (pw3 x).2 : Nat)) (fun x y h => by injection h with h; rw [h]) (EvF.ev ok (EvF.cast hsl (EvF_lsl (li := some 2) (hj := some 20) ok (Ev.seq (Ev_name ok rfl rfl rfl)) (by pv_eval) (by pv_eval)))) .list (by rw [sizeLine_is]; omega) rfl [] .nil (fun C x hx ok' => ⟨_, Asg_name ok' rfl rfl, .nil, Ev.cast (congrArg PV.int (gp3_ok x)) (Ev_bin Ev_int (Ev_bin (Ev_bin (Ev_name (d := .int x) ok' rfl rfl rfl) Ev_int (.divI (b := 9) (by decide) (PyProof.noPylong_small (by decide)))) Ev_int (.modI (b := 2) (by decide))) .addI)⟩) (fun _ => rfl) ?_ rfl rfl)
  rw [show xs.map (fun x => PV.int (gap (pw3 x).2 : Nat)) = GSI (gf (xs.map pw3)) by rw [GSI, gf, List.map_map, List.map_map]; rfl]
  obtain ⟨I2, hI2⟩ : ∃ I2, (if pl < (xs.map pw3).length then J else I1) = I2 := ⟨_, rfl⟩
  have hI2l : I2.length ≤ 4 ∧ ∀ c ∈ I2, blank c = true := by rw [← hI2]; split; exact ⟨l2', b2'⟩; exact ⟨l1, b1⟩
  obtain ⟨hp, hw198⟩ := ps3_ok hxs0 hxs b1 hI2l.2 l1 hI2l.1
  generalize xs.map pw3 = ps at hp hw198 hI2
  have hpl18 := hp.l
  have hpn := List.length_pos_iff.mpr hp.n
  refine Ex_cons (Ex1_assignOwn ok (ds := SS (ps.map gbl)) (EvF.cast (show ps.map (fun p => PV.str (mkS (gbl p))) = _ by rw [SS, List.map_map]; rfl) (EvF_compOwnM ok ps (fun p => PV.int (gap p.2 : Nat)) (fun p => PV.str (mkS (gbl p))) (fun x y h => by unfold gbl; rw [GSI_inj h]) (by show some _ = some _; rw [GSI, gf, List.map_map]; rfl) rfl rfl rfl [] .nil rfl (fun C p hp' ok' => ⟨_, Asg_name ok' rfl rfl, .nil, rep_ev (ch := 32) (Ev_name ok' rfl rfl rfl) rfl (by have := gap_le3 p.2; omega)⟩) (by unfold flats; rw [List.all_eq_true]; intro x hx; obtain ⟨a, _, rfl⟩ := List.mem_map.mp hx; rfl))) ?_ rfl rfl rfl)
  refine Ex_cons (Ex1_setItem ok (k := -1) (j := ps.length - 1) (ds := SS (ps.map gbl)) (d := .str (mkS [])) rfl rfl rfl (Ev_str (by decide)) (by pv_eval) (by rw [List.length_map, List.length_map]; exact idx_last hpn) ?_ rfl)
  rw [SS_set]
  have blw : BiOk (W0 prog w s₁) (.builtin "len") [.list (SS (fs ps))] (.int (ps.length : Nat)) := by simpa [SS] using BiOk_len_list (ds := SS (fs ps))
  refine Ex_if (k := decide (pl < ps.length)) [("white", .list (SS (wh3 ps H I2 pl))), ("later", I6 I2), ("gaps", .list (GSI (gf ps))), ("words", .list (SS (fs ps))), ("tail", .str (mkS T)), ("limit", .int lim), ("first", I6 I1), ("size", .int (H.length : Nat)), ("header", .str (mkS H))] (IsT1.cast (d := decide ((pl : Int) < (ps.length : Nat))) (decide_eq_decide.mpr (by omega)) (IsT_cmp (by pv_eval) (Ev_callB ok g rfl hlen PySem.boot_len rfl (by decide) (.cons (Ev_name ok rfl rfl rfl) rfl .nil) blw) .lt rfl)) (fun h => ?_) (fun h => ?_) ?_
  · have hlt := of_decide_eq_true h
    rw [if_pos hlt] at hI2
    subst hI2
    obtain ⟨p, hpg⟩ : ∃ p, ps[pl - 1]? = some p := ⟨_, List.getElem?_eq_getElem (by omega)⟩
    have hgd : ps.getD (pl - 1) ([], false) = p := by rw [List.getD_eq_getElem?_getD, hpg]; rfl
    have hgp : (gf ps)[pl - 1]? = some (gap p.2) := by rw [List.getElem?_map, hpg]; rfl
    have hxl : (if p.2 then [32, 32] else ([] : List Nat)).length ≤ 2 := by cases p.2 <;> decide
    refine Ex_cons (Ex1_setItem ok (k := ((pl - 1 : Nat) : Int)) (j := pl - 1) (ds := SS ((ps.map gbl).set (ps.length - 1) [])) (d := .str (mkS ((if p.2 then [32, 32] else []) ++ [10] ++ H ++ J))) rfl rfl rfl (str_cat (str_cat (str_cat (Ev_item (k := ((gap p.2 - 1 : Nat) : Int)) (j := gap p.2 - 1) (EvF.seq (EvF_list (ds := SS [[], [32, 32]]) ok (.cons (Ev_str (by decide)) rfl (.cons (Ev_str (by decide)) rfl .nil)) rfl)) (Ev.cast (congrArg PV.int (by have := gap_le3 p.2; omega)) (Ev_bin (d := .int ((gap p.2 : Nat) - 1)) (Ev_item (k := ((pl - 1 : Nat) : Int)) (j := pl - 1) (EvS_nameOwn ok rfl rfl rfl) (Ev.cast (congrArg PV.int (by omega)) (Ev_bin (d := .int ((pl : Int) - 1)) (Ev_name ok rfl rfl rfl) Ev_int .subI)) (idx_nat (by rw [List.length_map, List.length_map]; omega)) (GSI_get hgp) (fun _ _ => rfl)) Ev_int .subI)) (idx_nat (by have := gap_le3 p.2; show _ < 2; omega)) (SS_get (by cases p.2 <;> rfl)) (fun _ _ => rfl)) (y := [10]) (Ev_str (by decide)) (by rw [sizeLine_is]; simp; omega)) (Ev_name ok rfl rfl rfl) (by rw [sizeLine_is, List.length_append]; simp; omega)) (Ev_itemT (k := 0) (j := 0) (d := .str (mkS J)) (ds := [.str (mkS J), .int (cols J : Nat)]) (Ev_name ok rfl rfl rfl) (by pv_eval) rfl rfl (fun _ _ => rfl)) (by rw [sizeLine_is, List.length_append, List.length_append]; simp; omega)) (Ev.cast (congrArg PV.int (by omega)) (Ev_bin (d := .int ((pl : Int) - 1)) (Ev_name ok rfl rfl rfl) Ev_int .subI)) (idx_nat (by rw [List.length_map, List.length_set, List.length_map]; omega)) ?_ rfl)
    rw [SS_set]
    have hwh : wh3 ps H J pl = ((ps.map gbl).set (ps.length - 1) []).set (pl - 1) ((if p.2 then [32, 32] else []) ++ [10] ++ H ++ J) := by unfold wh3; rw [if_pos hlt, hgd]
    rw [hwh]
    exact Ex_nil (.put rfl (.put rfl (.put rfl (.put rfl (.put rfl (.put rfl (.put rfl (.put rfl (.put rfl .nil)))))))))
  · have hlt := of_decide_eq_false h
    rw [if_neg hlt] at hI2
    subst hI2
    refine Ex_cons (Ex1_assign ok (Ev_name ok rfl rfl rfl) ?_ rfl rfl rfl)
    have hwh : wh3 ps H I1 pl = (ps.map gbl).set (ps.length - 1) [] := by unfold wh3; rw [if_neg hlt]
    rw [hwh]
    exact Ex_nil (.put rfl (.put rfl (.put rfl (.put rfl (.put rfl (.put rfl (.put rfl (.put rfl (.put rfl .nil)))))))))
  have hsame : ps.length ≤ pl → I2 = I1 := fun h => by rw [← hI2, if_neg (by omega)]
  clear hI2
  obtain ⟨L0, hL0⟩ : ∃ L0, L0 = if pl < ps.length then [I1 ++ body (ps.take pl) ++ (if (ps.getD (pl - 1) ([], false)).2 then [32, 32] else []), I2 ++ body (ps.drop pl)] else [I1 ++ body ps] := ⟨_, rfl⟩
  obtain ⟨ht1, ht2, ht3, ht4⟩ := first_text (T := T) (H := H) hp hpl0 hL0
  have hI2l := hI2l.1
  have hset := set_first (wd := wid lim H) hp.b1 hp.b2 hp.g hp.n hpl0 hsame htw hL0
  have hwhl := wh3_len ps H I2 pl
  generalize wh3 ps H I2 pl = Wh at ht1 ht2 hwhl
  have hrg : ItOk (.range 0 (ps.length : Nat) 1) ((List.range ps.length).map fun (i : Nat) => PV.int (0 + i)) := by
    have := ItOk.range (small_one (a := 0) (b := (ps.length : Nat)) (by omega) (by omega) (by omega) (by omega))
    rw [rangeL_up, show (((ps.length : Nat) : Int) - 0).toNat = ps.length by omega] at this
    exact this
  have hzs : sumL ((List.range ps.length).map fun i => (fs ps).getD i [] ++ Wh.getD i []) ≤ 1000 := by
    rw [sumL_flat]; show (zf ps Wh).length ≤ 1000; omega
  refine Ex_cons (Ex1_assign ok (d := .str (mkS (zf ps Wh))) (Ev_meth (d₀ := .str (mkS [])) (ds := [.list (SS ((List.range ps.length).map fun i => (fs ps).getD i [] ++ Wh.getD i []))]) ok rfl rfl PySem.F.plainAttrs_str PySem.F.slot_str_join PySem.F.type_str_join (by decide) rep_str_type (Ev_str (by decide)) (.cons (EvF.ev ok (EvF.cast (by rw [SS, List.map_map]; rfl) (EvF_compM ok (List.range ps.length) (fun (i : Nat) => .int (0 + (i : Int))) (fun i => .str (mkS ((fs ps).getD i [] ++ Wh.getD i []))) (fun x y h => by injection h with h; have e : x = y := (by omega); rw [e])
      (Ev_callT ok g rfl hrange boot_range rfl (by decide) (.cons (Ev_callB ok g rfl hlen PySem.boot_len rfl (by decide) (.cons (Ev_name ok rfl rfl rfl) rfl .nil) blw) rfl .nil) BiOk_range1) hrg (by rw [sizeLine_is, List.length_range]; omega) rfl [("words", .list (SS (fs ps))), ("white", .list (SS Wh))] (.put rfl rfl (.put rfl rfl .nil)) (fun C i hi ok' => ⟨_, Asg_name ok' rfl rfl, .put rfl (.put rfl .nil), ?_⟩) (fun _ => rfl)))) rfl .nil) (BiOk_join0 (by rw [sizeLine_is]; omega))) ?_ rfl rfl rfl)
  · have hi' := List.mem_range.mp hi
    have d1 : (fs ps)[i]? = some ((fs ps).getD i []) := by rw [List.getD_eq_getElem?_getD, List.getElem?_eq_getElem (by rw [List.length_map]; exact hi')]; rfl
    have d2 : Wh[i]? = some (Wh.getD i []) := by rw [List.getD_eq_getElem?_getD, List.getElem?_eq_getElem (by omega)]; rfl
    have hmem : (fs ps).getD i [] ++ Wh.getD i [] ∈ (List.range ps.length).map fun i => (fs ps).getD i [] ++ Wh.getD i [] := List.mem_map.mpr ⟨i, hi, rfl⟩
    have hml := sumL_mem hmem
    rw [List.length_append] at hml
    rw [Int.zero_add]
    exact str_cat (Ev_item (Ev.seq (Ev_name ok' rfl rfl rfl)) (Ev_name ok' rfl rfl rfl) (idx_nat (by rw [List.length_map, List.length_map]; exact hi')) (SS_get d1) (fun _ _ => rfl)) (Ev_item (EvS_nameOwn ok' rfl rfl rfl) (Ev_name ok' rfl rfl rfl) (idx_nat (by rw [List.length_map]; omega)) (SS_get d2) (fun _ _ => rfl)) (by rw [sizeLine_is]; omega)
  refine Ex_cons (Ex1_assign ok (d := .str (mkS (tx H T L0))) (Ev.cast (by rw [ht1]) (str_cat (str_cat (str_cat (Ev_name ok rfl rfl rfl) (Ev_itemT (k := 0) (j := 0) (d := .str (mkS I1)) (ds := [.str (mkS I1), .int (cols I1 : Nat)]) (Ev_name ok rfl rfl rfl) (by pv_eval) rfl rfl (fun _ _ => rfl)) (by rw [sizeLine_is]; omega)) (Ev_name ok rfl rfl rfl) (by rw [sizeLine_is, List.length_append]; omega)) (Ev_name ok rfl rfl rfl) (by rw [sizeLine_is, List.length_append, List.length_append]; omega))) ?_ rfl rfl rfl)
  refine Ex_cons (Ex1_tupleOwn ok (x := "seen") (y := "left") (ds := []) (i := 0) (EvF_list ok .nil rfl) Ev_int rfl rfl rfl rfl rfl rfl rfl ?_ rfl rfl)
  have hlen0 : (tx H T L0).length ≤ 3000 := by rw [← ht1, List.length_append, List.length_append, List.length_append]; omega
  have j0 : J3 (fs ps) I1 I2 (wid lim H) tl H T 0 ps L0 [] 0 := ⟨rfl, hp, ht3, ht4, hlen0, hset, rfl, fun h => absurd h (by omega)⟩
  obtain ⟨ws, hws⟩ : ∃ ws, fs ps = ws := ⟨_, rfl⟩
  have hwsl : ws.length = ps.length := by rw [← hws, List.length_map]
  have hps0 : ("gaps", PV.list (GSI (gf ps))) = ("gaps", PV.list (GSI (gf ps))) := rfl
  rw [hws] at j0 blw ⊢
  rw [← hwsl] at blw
  have hws18 : ws.length ≤ 18 := by omega
  clear hset ht1 ht2 ht3 ht4 hzs hrg hwhl hw198 hsame hL0 hlen0
  have hrg : ItOk (.range 0 ((ws.length + 3 : Nat) : Int) 1) ((List.range (ws.length + 3)).map fun (i : Nat) => PV.int (0 + i)) := by
    have := ItOk.range (small_one (a := 0) (b := ((ws.length + 3 : Nat) : Int)) (by omega) (by omega) (by omega) (by omega))
    rw [rangeL_up, show (((ws.length + 3 : Nat) : Int) - 0).toNat = ws.length + 3 by omega] at this
    exact this
  refine Ex_cons (Ex1_for ok (d := .range 0 ((ws.length + 3 : Nat) : Int) 1) (Ev_callT ok g rfl hrange boot_range rfl (by decide) (.cons (d := .int ((ws.length + 3 : Nat) : Int)) (Ev.cast (by push_cast; rfl) (Ev_bin (d := .int ((ws.length : Nat) + 3)) (Ev_callB ok g rfl hlen PySem.boot_len rfl (by decide) (.cons (Ev_name ok rfl rfl rfl) rfl .nil) blw) Ev_int .addI)) rfl .nil) BiOk_range1) hrg
    (fun k ρ => ∃ ps Rt SN L, J3 ws I1 I2 (wid lim H) tl H T k ps Rt SN L ∧ SubEnv [("seen", .list (SV SN)), ("left", .int (L : Nat)), ("text", .str (mkS (tx H T Rt))), ("later", I6 I2), ("gaps", .list (GSI (gf ps))), ("words", .list (SS ws)), ("tail", .str (mkS T)), ("limit", .int lim), ("first", I6 I1), ("size", .int (H.length : Nat)), ("header", .str (mkS H))] ρ) ⟨ps, L0, [], 0, j0, .put rfl (.put rfl (.put rfl (.put rfl (.put rfl (.put rfl (.put rfl (.put rfl (.put rfl (.put rfl (.put rfl .nil))))))))))⟩ ?_ ?_ (fun _ => rfl))
  · clear j0 hpn hpl18 hp hws hwsl hps0
    clear ps L0
    intro k d ρ hd ⟨ps, Rt, SN, L, j, hI⟩
    obtain ⟨hk, rfl⟩ := range_get hd
    rw [Int.zero_add]
    refine ⟨_, Asg_name ok rfl rfl, Ex.sub ?_ (SubEnv.both hI)⟩
    have hfresh := j.fresh rfl hTl hH10
    have hdom := j.dom
    have hstop := j.stop
    have hnext := j.next hHl hT20 htw
    have hR10 := rows_no10 (wd := wid lim H) j.p
    have hqn := rows_len_ps (wd := wid lim H) j.p
    have hRn := rowsT_ne (I1 := I1) (I2 := I2) hqn.2
    have hqf := set_flat I1 I2 (wid lim H) ps
    have hqg := set_good (I1 := I1) (I2 := I2) (wd := wid lim H) j.p.g j.p.n
    have hRl := rowsT_len (I1 := I1) (I2 := I2) (setR I1 I2 (wid lim H) ps)
    have hEn : en3F [.list (SS (rowsT I1 I2 (setR I1 I2 (wid lim H) ps))), .list (SS (fs ps)), .list (GSI (gf ps)), .list [I6 I1, I6 I2], .int (wid lim H)] (.list (GSI (EN3 (setR I1 I2 (wid lim H) ps)))) := ⟨ps, I1, I2, _, rfl, j.p, rfl⟩
    rw [j.fst] at hEn
    have hgl : (gf ps).length = ws.length := by rw [List.length_map, ← List.length_map (f := (·.1)) (as := ps)]; exact congrArg List.length j.fst
    have htl : (tx H T (rowsT I1 I2 (setR I1 I2 (wid lim H) ps))).length ≤ 3000 := set_tx_len j.p hHl hT20
    have hpsn := j.p.n
    have hSNl := j.cnt
    refine Ex_cons (Ex1_assign ok (d := .str (mkS (tx H T (rowsT I1 I2 (setR I1 I2 (wid lim H) ps))))) (Ev_callU ok g rfl A1 rfl F1 (Nat.le_refl _) (.cons (Ev_name ok rfl rfl rfl) rfl (.cons (Ev_name ok rfl rfl rfl) rfl (.cons (Ev_name ok rfl rfl rfl) rfl .nil))) ⟨_, lim, H, rfl, j.len, by omega, by rw [hfresh]⟩) ?_ rfl rfl rfl)
    have hlenlt : k < ws.length + 3 := hk
    clear hfresh j
    generalize hR : rowsT I1 I2 (setR I1 I2 (wid lim H) ps) = R at *
    generalize setR I1 I2 (wid lim H) ps = qs at *
    have hql : qs.flatten.length = ws.length := by rw [hqf, ← hgl, List.length_map]
    have hul : (tx H T R).length = (under H R).length + T.length := List.length_append
    have hspl : spl 10 (under H R) = R.map (H ++ ·) := spl_jl (by simpa using hRn) fun l hl => by
      obtain ⟨r, hr, rfl⟩ := List.mem_map.mp hl
      intro e
      rcases List.mem_append.mp e with e | e
      · exact hH10 e
      · exact hR10 r hr e
    have hcut : (tx H T R).take (under H R).length = under H R := List.take_left
    have hcut2 : (tx H T R).drop (under H R).length = T := List.drop_left
    refine Ex_cons (Ex1_assign ok (d := .int ((under H R).length : Nat)) (Ev.cast (congrArg PV.int (by omega)) (Ev_bin (d := .int (((tx H T R).length : Nat) - (T.length : Nat))) (Ev_callB ok g rfl hlen PySem.boot_len rfl (by decide) (.cons (Ev_name ok rfl rfl rfl) rfl .nil) BiOk_len_mkS) (Ev_callB ok g rfl hlen PySem.boot_len rfl (by decide) (.cons (Ev_name ok rfl rfl rfl) rfl .nil) BiOk_len_mkS) .subI)) ?_ rfl rfl rfl)
    refine Ex_cons (Ex1_assign ok (d := .list (SS (R.map (H ++ ·)))) (Ev.cast (by show PV.list (SS (spl 10 (under H R))) = _; rw [hspl]) (Ev_meth (d₀ := .str (mkS (under H R))) ok rfl rfl PySem.F.plainAttrs_str PySem.F.slot_str_split PySem.F.type_str_split (by decide) rep_str_type (Ev.cast (congrArg PV.str ((ssl_take _ _).trans (by rw [hcut]))) (Ev_ssl (Ev_name ok rfl rfl rfl) .no (.yes (Ev_name ok rfl rfl rfl)))) (.cons (Ev_str (by decide)) rfl .nil) (BiOk_split (x := mkS (under H R)) (c := 10) (by rw [sizeLine_is]; show (spl 10 (under H R)).length ≤ _; rw [hspl, List.length_map]; omega)))) ?_ rfl rfl rfl)
    refine Ex_cons (Ex1_if (k := false) (IsT1.cast rfl (IsT_or2 (t := false) (u := false) (IsT1.cast ?_ (IsT_cmp (d₁ := .str (mkS T)) (d₂ := .str (mkS T)) (Ev.cast (congrArg PV.str ((ssl_drop _ _).trans (by rw [hcut2]))) (Ev_ssl (Ev_name ok rfl rfl rfl) (.yes (Ev_name ok rfl rfl rfl)) .no)) (Ev_name ok rfl rfl rfl) (.ne rfl (Nat.zero_le _)) rfl)) fun _ => IsT1.cast ?_ (IsT_cmp (d₁ := .list []) (d₂ := .list []) (EvF.ev ok (EvF.cast (by rw [List.filterMap_eq_nil_iff]; intro a _; rfl) (EvF_comp ok (d := .list (SS (R.map (H ++ ·)))) (Ev_name ok rfl rfl rfl) .list (by rw [List.length_map, List.length_map, sizeLine_is]; omega) rfl (ρc := [("size", .int (H.length : Nat)), ("header", .str (mkS H))]) (.put rfl rfl (.put rfl rfl .nil)) (fun _ => none) (fun C d hd ok' => ?_) (fun _ => rfl)))) (EvF.ev ok (EvF_list ok .nil rfl)) (.ne rfl deep0) rfl))) (fun h => by cases h) fun _ => Ex_nil ?_)
    · rw [PV.eqv_refl]; rfl
    · rw [PV.eqv_refl]; rfl
    · obtain ⟨l, hl, rfl⟩ := List.mem_map.mp hd
      obtain ⟨r, hr, rfl⟩ := List.mem_map.mp hl
      refine ⟨_, Asg_name ok' rfl rfl, .put rfl (.put rfl .nil), .inr ⟨_, rfl, IsT1.cast ?_ (IsT_cmp (d₁ := .str (mkS H)) (d₂ := .str (mkS H)) (Ev.cast (congrArg PV.str ((ssl_take _ _).trans (by rw [List.take_left]))) (Ev_ssl (x := mkS (H ++ r)) (Ev_name ok' rfl rfl rfl) .no (.yes (Ev_name ok' rfl rfl rfl)))) (Ev_name ok' rfl rfl rfl) (.ne rfl (Nat.zero_le _)) rfl)⟩⟩
      rw [PV.eqv_refl]; rfl
    refine Ex_cons (Ex1_assignCM ok R (fun r => PV.str (mkS (H ++ r))) (fun r => PV.str (mkS r)) (fun x y h => by rw [List.append_cancel_left (mkS_inj h)]) (Ev.cast (by rw [SS, List.map_map]; rfl) (Ev_name (d := .list (SS (R.map (H ++ ·)))) ok rfl rfl rfl)) .list (by rw [sizeLine_is]; omega) rfl [("size", .int (H.length : Nat))] (.put rfl rfl .nil) (fun C r hr ok' => ⟨_, Asg_name ok' rfl rfl, .put rfl .nil, Ev.cast (congrArg PV.str ((ssl_drop _ _).trans (by rw [List.drop_left]))) (Ev_ssl (x := mkS (H ++ r)) (Ev_name ok' rfl rfl rfl) (.yes (Ev_name ok' rfl rfl rfl)) .no)⟩) (fun _ => rfl) ?_ rfl rfl)
    obtain ⟨g0, gr, hgc⟩ : ∃ g0 gr, gf ps = g0 :: gr ∧ g0 ≠ 0 := by
      cases ps with
      | nil => exact absurd rfl hpsn
      | cons p r => exact ⟨gap p.2, gf r, rfl, fun e => by have := gap_le3 p.2; omega⟩
    have hE0 : EN3 qs = 0 :: (List.range qs.length).map (fun i => endsN qs (i + 1)) := by
      unfold EN3
      rw [List.range_succ_eq_map, List.map_cons, List.map_map]; rfl
    have hEl : (EN3 qs).length = qs.length + 1 := EN3_len qs
    refine Ex_cons (Ex1_assign ok (d := .list (GSI (EN3 qs))) (Ev_callOwn ok g (x := "gaps") rfl A2 rfl F2 (by show 1 ≤ 3; decide) (.cons (Ev_name ok rfl rfl rfl) rfl (.cons (Ev_name ok rfl rfl rfl) rfl (.own rfl rfl rfl (.cons (EvF.ev ok (EvF_list ok (.cons (Ev_name ok rfl rfl rfl) rfl (.cons (Ev_name ok rfl rfl rfl) rfl .nil)) rfl)) rfl (.cons (Ev_callB (d := .int (wid lim H)) ok g rfl hmax bmax rfl (by decide) (.cons (by pv_eval) rfl (.cons Ev_int rfl .nil)) BiOk_max2) rfl .nil))))) hEn rfl rfl (fun e => ?_) (kins_GSI _ _) (flats_GSI _)) ?_ rfl rfl rfl)
    · rw [hE0, hgc.1] at e
      injection e with e1 e2
      exact hgc.2 (GSI_inj e1).symm
    have blE : BiOk (W0 prog w s₁) (.builtin "len") [.list (GSI (EN3 qs))] (.int ((qs.length + 1 : Nat) : Int)) := by rw [← hEl]; simpa [GSI] using BiOk_len_list (ds := GSI (EN3 qs))
    have hdE : PV.deep (.list (GSI (EN3 qs))) ≤ 64 := by rw [PV.deep, deeps_GSI]; decide
    have hdS : ∀ SN, PV.deep (.list (SV SN)) ≤ 64 := fun SN => by rw [PV.deep]; have := deeps_SV SN; omega
    refine Ex_cons (Ex1_if (k := false) (IsT1.cast ?_ (IsT_cmp (d₁ := .list (GSI (EN3 qs))) (d₂ := .list []) (Ev_name ok rfl rfl rfl) (EvF.ev ok (EvF_list ok .nil rfl)) (.eq (by rw [PV.kin]; exact kins_nil _) hdE) rfl)) (fun h => by cases h) fun _ => Ex_nil ?_)
    · rw [eqv_list, eqvs_nil, hE0]; rfl
    have hseen : (!PV.eqv (.list (SV SN)) (.list [])) = decide (0 < k) := by
      rw [eqv_list, eqvs_nil]
      cases SN with
      | nil => rw [← hSNl]; rfl
      | cons x r => rw [← hSNl]; rfl
    refine Ex_cons (Ex1_if (k := false) (IsT1.cast (Bool.and_false _) (IsT_and2 (t := decide (0 < k)) (u := false) (IsT1.cast hseen (IsT_cmp (d₁ := .list (SV SN)) (d₂ := .list []) (Ev_nameOwn ok rfl rfl rfl) (EvF.ev ok (EvF_list ok .nil rfl)) (.ne (by rw [PV.kin]; exact kins_nil _) (hdS _)) rfl)) fun hk0 => ?_)) (fun h => by cases h) fun _ => Ex_nil ?_)
    · obtain ⟨E, hE1, hE2, hE3⟩ := hdom (of_decide_eq_true hk0)
      have hkp := of_decide_eq_true hk0
      rw [hEl] at hE2
      refine IsT1.cast ?_ (IsT_cmp (d₁ := .int ((qs.length + 1 : Nat) : Int)) (d₂ := .int (E.length : Nat)) (Ev_callB ok g rfl hlen PySem.boot_len rfl (by decide) (.cons (Ev_name ok rfl rfl rfl) rfl .nil) blE) (Ev_callB ok g rfl hlen PySem.boot_len rfl (by decide) (.cons (Ev_item (k := -1) (j := k - 1) (d := .list (GSI E)) (EvS_nameOwn ok rfl rfl rfl) (by pv_eval) (by rw [SV, List.length_map, hSNl]; exact idx_last hkp) (by rw [SV, List.getElem?_map, hE1]; rfl) (fun _ _ => rfl)) rfl .nil) (by simpa [GSI] using BiOk_len_list (ds := GSI E))) .gt rfl)
      exact decide_eq_false (by omega)
    have hrgE : ItOk (.range 0 ((qs.length + 1 : Nat) : Int) 1) ((List.range (qs.length + 1)).map fun (i : Nat) => PV.int (0 + i)) := by
      have := ItOk.range (small_one (a := 0) (b := ((qs.length + 1 : Nat) : Int)) (by omega) (by omega) (by omega) (by omega))
      rw [rangeL_up, show (((qs.length + 1 : Nat) : Int) - 0).toNat = qs.length + 1 by omega] at this
      exact this
    refine Ex_cons (Ex1_if (k := false) (IsT1.cast (Bool.and_false _) (IsT_and2 (t := decide (0 < k)) (u := false) (IsT1.cast hseen (IsT_cmp (d₁ := .list (SV SN)) (d₂ := .list []) (Ev_nameOwn ok rfl rfl rfl) (EvF.ev ok (EvF_list ok .nil rfl)) (.ne (by rw [PV.kin]; exact kins_nil _) (hdS _)) rfl)) fun hk0 => ?_)) (fun h => by cases h) fun _ => Ex_nil ?_)
    · obtain ⟨E, hE1, hE2, hE3⟩ := hdom (of_decide_eq_true hk0)
      have hkp := of_decide_eq_true hk0
      rw [hEl] at hE2 hE3
      refine IsT1.cast ?_ (IsT_cmp (d₁ := .list []) (d₂ := .list []) (EvF.ev ok (EvF.cast (by rw [List.filterMap_eq_nil_iff]; intro a _; rfl) (EvF_comp ok (d := .range 0 ((qs.length + 1 : Nat) : Int) 1) (Ev_callT ok g rfl hrange boot_range rfl (by decide) (.cons (d := .int ((qs.length + 1 : Nat) : Int)) (Ev_callB ok g rfl hlen PySem.boot_len rfl (by decide) (.cons (Ev_name ok rfl rfl rfl) rfl .nil) blE) rfl .nil) BiOk_range1) hrgE (by rw [List.length_map, List.length_range, sizeLine_is]; omega) rfl (ρc := [("ends", .list (GSI (EN3 qs))), ("seen", .list (SV SN))]) (.put rfl rfl (.put rfl rfl .nil)) (fun _ => none) (fun C d hd ok' => ?_) (fun _ => rfl)))) (EvF.ev ok (EvF_list ok .nil rfl)) (.ne rfl deep0) rfl)
      · rw [PV.eqv_refl]; rfl
      · obtain ⟨i, hi, rfl⟩ := List.mem_map.mp hd
        have hi' := List.mem_range.mp hi
        obtain ⟨x, y, hx, hy, hxy⟩ := hE3 i hi'
        rw [Int.zero_add]
        refine ⟨_, Asg_name ok' rfl rfl, .put rfl (.put rfl .nil), .inr ⟨_, rfl, IsT1.cast ?_ (IsT_cmp (d₁ := .int (x : Nat)) (d₂ := .int (y : Nat)) (Ev_item (Ev.seq (Ev_name ok' rfl rfl rfl)) (Ev_name ok' rfl rfl rfl) (idx_nat (by rw [List.length_map, hEl]; exact hi')) (GSI_get hx) (fun _ _ => rfl)) (Ev_item (Ev.seq (Ev_item (k := -1) (j := k - 1) (d := .list (GSI E)) (EvS_nameOwn ok' rfl rfl rfl) (by pv_eval) (by rw [SV, List.length_map, hSNl]; exact idx_last hkp) (by rw [SV, List.getElem?_map, hE1]; rfl) (fun _ _ => rfl))) (Ev_name ok' rfl rfl rfl) (idx_nat (by rw [List.length_map]; omega)) (GSI_get hy) (fun _ _ => rfl)) .lt rfl)⟩⟩
        exact decide_eq_false (by omega)
    refine Ex_cons (Ex1_append ok rfl rfl rfl (Ev_name ok rfl rfl rfl) (by rw [SV, List.length_map, sizeLine_is]; omega) rfl rfl rfl ?_)
    rw [show SV SN ++ [PV.list (GSI (EN3 qs))] = SV (SN ++ [EN3 qs]) by simp [SV]]
    refine Ex_cons (Ex1_if (k := decide (0 < k) && (tx H T R == tx H T Rt)) (IsT_and2 (t := decide (0 < k)) (u := (tx H T R == tx H T Rt)) (IsT1.cast (d := decide ((0 : Int) < (k : Nat))) (decide_eq_decide.mpr (by omega)) (IsT_cmp (by pv_eval) (by pv_eval) .gt rfl)) fun _ => IsT1.cast (eqv_mkS _ _) (IsT_cmp (Ev_name ok rfl rfl rfl) (Ev_name ok rfl rfl rfl) (.eq rfl (Nat.zero_le _)) rfl)) (fun h => ?_) fun h => Ex_nil ?_)
    · rw [Bool.and_eq_true] at h
      have hs := hstop (of_decide_eq_true h.1)
      refine Ex_cons (Ex1_return (d := .bool true) (Ev.cast ?_ (Ev_cmp (d₁ := .int ((k + 1 : Nat) : Int)) (d₂ := .int ((L : Int) + 3)) (Ev_callB ok g rfl hlen PySem.boot_len rfl (by decide) (.cons (Ev_nameOwn ok rfl rfl rfl) rfl .nil) (by have := BiOk_len_list (G := W0 prog w s₁) (ds := SV (SN ++ [EN3 qs])); rw [SV, List.length_map, List.length_append, hSNl] at this; exact this)) (by pv_eval) .le rfl)) rfl)
      exact congrArg PV.bool (decide_eq_true (by omega))
    have hnx := hnext fun hk0 e => by rw [decide_eq_true hk0, Bool.true_and, e] at h; simp at h
    have hdrop : lsl (GSI (EN3 qs)) (some 1) none = (List.range qs.length).map fun i => PV.int (endsN qs (i + 1) : Nat) := by
      rw [show (1 : Int) = ((1 : Nat) : Int) from rfl, lsl_from, hE0]; simp [GSI]
    refine Ex_cons (Ex1_for ok (d := .list ((List.range qs.length).map fun i => PV.int (endsN qs (i + 1) : Nat))) (EvF.ev ok (EvF.cast hdrop (EvF_lsl ok (Ev.seq (Ev_name ok rfl rfl rfl)) (.yes Ev_int) .no))) .list
      (fun i ρ => SubEnv [("gaps", .list (GSI (Gk qs i))), ("fresh", .str (mkS (tx H T R))), ("turn", .int (k : Nat)), ("seen", .list (SV (SN ++ [EN3 qs]))), ("left", .int (L : Nat)), ("later", I6 I2), ("words", .list (SS ws)), ("tail", .str (mkS T)), ("limit", .int lim), ("first", I6 I1), ("size", .int (H.length : Nat)), ("header", .str (mkS H))] ρ) (.put (by rw [Gk_zero, hqf]; rfl) (.put rfl (.put rfl (.put rfl (.put rfl (.put rfl (.put rfl (.put rfl (.put rfl (.put rfl (.put rfl (.put rfl .nil)))))))))))) ?_ ?_ (fun _ => rfl))
    · intro i d ρ hd hI
      obtain ⟨hi, rfl⟩ := range_get hd
      obtain ⟨q, hq⟩ : ∃ q, qs[i]? = some q := ⟨_, List.getElem?_eq_getElem hi⟩
      have hqne := (hqg q (List.mem_of_getElem? hq)).2
      have hqp := List.length_pos_iff.mpr hqne
      have he := ends_succ hq
      have hle := ends_le rfl (qs := qs) (i + 1)
      refine ⟨_, Asg_name ok rfl rfl, Ex.sub ?_ (SubEnv.both hI)⟩
      refine Ex_cons (Ex1_setItem ok (k := ((endsN qs (i + 1) - 1 : Nat) : Int)) (j := endsN qs (i + 1) - 1) (ds := GSI (Gk qs i)) (d := .int ((1 : Nat) : Int)) rfl rfl rfl Ev_int (Ev.cast (congrArg PV.int (by omega)) (Ev_bin (d := .int (((endsN qs (i + 1) : Nat) : Int) - 1)) (Ev_name ok rfl rfl rfl) Ev_int .subI)) (idx_nat (by rw [List.length_map, Gk_len]; omega)) ?_ rfl)
      rw [GSI_set, Gk_succ hq hqne]
      exact Ex_nil (.put rfl (.put rfl (.put rfl (.put rfl (.put rfl (.put rfl (.put rfl (.put rfl (.put rfl (.put rfl (.put rfl (.put rfl .nil))))))))))))
    · intro ρ hI
      rw [List.length_map, List.length_range, Gk_all] at hI
      refine Ex.sub ?_ hI
      refine Ex_if (k := decide (k = 0)) [("left", .int ((if k = 0 then cnt2 (nxt qs) else L : Nat) : Int)), ("gaps", .list (GSI (gf (nxt qs)))), ("fresh", .str (mkS (tx H T R))), ("seen", .list (SV (SN ++ [EN3 qs]))), ("later", I6 I2), ("words", .list (SS ws)), ("tail", .str (mkS T)), ("limit", .int lim), ("first", I6 I1), ("size", .int (H.length : Nat)), ("header", .str (mkS H))] (IsT1.cast ?_ (IsT_cmp (d₁ := .int (k : Nat)) (d₂ := .int 0) (Ev_name ok rfl rfl rfl) Ev_int (.eq rfl (Nat.zero_le _)) rfl)) (fun h => ?_) (fun h => ?_) ?_
      · rw [eqv_int]
        by_cases hk0 : k = 0
        · subst hk0; rfl
        · rw [decide_eq_false hk0]; simp [hk0]
      · rw [if_pos (of_decide_eq_true h)]
        refine Ex_cons (Ex1_assign ok (d := .int (cnt2 (nxt qs) : Nat)) (Ev.flat rfl (Ev.cast (by rw [count2]) (Ev_meth (d₀ := .list (GSI (gfs (nxt qs)))) ok rfl rfl PySem.F.plainAttrs_list PySem.F.slot_list_count PySem.F.type_list_count (by decide) rep_list_type (Ev_nameOwn ok rfl rfl rfl) (.cons Ev_int rfl .nil) (BiOk_count rfl fun d hd => by obtain ⟨x, _, rfl⟩ := List.mem_map.mp hd; exact ⟨rfl, Nat.zero_le _⟩)))) ?_ rfl rfl rfl)
        exact Ex_nil (.put rfl (.put rfl (.put rfl (.put rfl (.put rfl (.put rfl (.put rfl (.put rfl (.put rfl (.put rfl (.put rfl .nil)))))))))))
      · rw [if_neg (of_decide_eq_false h)]
        exact Ex_nil (.put rfl (.put rfl (.put rfl (.put rfl (.put rfl (.put rfl (.put rfl (.put rfl (.put rfl (.put rfl (.put rfl .nil)))))))))))
      refine Ex_cons (Ex1_assign ok (Ev_name ok rfl rfl rfl) ?_ rfl rfl rfl)
      exact Ex_nil ⟨_, _, _, _, hnx, .put rfl (.put rfl (.put rfl (.put rfl (.put rfl (.put rfl (.put rfl (.put rfl (.put rfl (.put rfl (.put rfl .nil))))))))))⟩
  · intro ρ ⟨ps, Rt, SN, L, j, hI⟩
    rw [List.length_map, List.length_range] at j
    exact j.fin.elim
end

end Mine
end

open PySem PySem.W PyProof.Rows in
set_option maxRecDepth 100000 in
set_option maxHeartbeats 8000000 in
theorem PySem.Challenge.cw_dm0161_03_holds : PySem.Challenge.rw_dm0161_03.Holds :=
  Mine.hd (by
    k_fill
    intro w s₀ s₁ mg mb G Y fa o pm cd doc dV kV ho hd hcd hD hmg hg args vals as hpre hlay hrd hwl hlo
    have KX := kIn_of Y
    refine Ground.open G ?_
    intro T B D TE TW
    have X := Mine.tabs KX T (by decide +kernel)
    have F := Mine.fn_law (prog := PySem.Challenge.rw_dm0161_03.row.prog) (w := w) (Mine.woT_gl X T) KX X T.bmain
    have hfa : Value.ref fa = .ref 84 := Option.some.inj (hmg.symm.trans (Mine.mg_law KX T.g))
    cases hfa
    clear hd hcd hD hmg ho KX Y B D TE TW
    wrow_args hpre hlay hrd hwl hlo
    rename_i ns h1 h2 h3 h4 h5 x1 x2 a vs x3 hl ra hw r0 hI hr hc hc2
    exact Mine.law_doneT X F (by decide) hg hw (by omega))


