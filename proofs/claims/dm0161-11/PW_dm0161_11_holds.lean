import PyProof.Rows.All
import Wide.All
import OpenK.AllK
import Wide.FinOn
import KE.KxPercentT
import KE.KIntText
import KE.KLam
import Lean
import PySem.Challenge.RW_dm0161_11
set_option Elab.async false
set_option linter.unusedVariables false

section
open PySem PyProof.Rows
namespace Mine

/-! ### pure values, and what stands for them -/
inductive PV where
  | none
  | bool (b : Bool)
  | int (i : Int)
  | str (x : Str)
  | list (xs : List PV)
  | tuple (xs : List PV)
  | range (a b c : Int)
  | raw (os : List (Addr × Obj)) (v : Value)
  | obj (T : String) (xs : List PV)

/-- a code object or its table -/
noncomputable def Obj.codeLike (o : Obj) : Prop := (o.cls = .none ∨ o.cls = .type "code") ∧ ∃ vs, o.data = .fields vs
theorem Obj.notCode_cls {o : Obj} {T : String} (h : o.cls = .type T) (hT : T ≠ "code") : ¬ Obj.codeLike o := fun q => by
  rcases q.1 with e | e
  · rw [h] at e; cases e
  · rw [h] at e; injection e with e; exact hT e

/-- an iterator -/
noncomputable def Obj.iterLike (o : Obj) : Prop := (∃ T ∈ ["list_iterator", "tuple_iterator", "range_iterator", "str_iterator", "str_ascii_iterator"], o.cls = .type T) ∧ ∃ vs, o.data = .fields vs
/-- a code table -/
noncomputable def Obj.tabLike (o : Obj) : Prop := o.cls = .none ∧ ∃ vs, o.data = .fields vs
theorem Obj.tabLike.code {o : Obj} (h : Obj.tabLike o) : Obj.codeLike o := ⟨.inl h.1, h.2⟩
/-- what a value may be made of -/
noncomputable def Obj.val (o : Obj) : Prop := ¬ Obj.tabLike o ∧ ¬ Obj.iterLike o
theorem Obj.val_cls {o : Obj} {T : String} (h : o.cls = .type T) (hT : (T != "code" && !["list_iterator", "tuple_iterator", "range_iterator", "str_iterator", "str_ascii_iterator"].contains T) = true) : Obj.val o := by
  simp only [Bool.and_eq_true, bne_iff_ne, ne_eq, Bool.not_eq_true'] at hT
  refine ⟨fun q => Obj.notCode_cls h hT.1 q.code, fun ⟨⟨T', hm, e⟩, _⟩ => ?_⟩
  rw [h] at e; injection e with e
  subst e
  rw [List.contains_iff_mem.mpr hm] at hT
  exact absurd hT.2 (by simp)

mutual
noncomputable def Rep (h : Heap) (P : Addr → Prop) : PV → Value → Prop
  | .none, v => v = .none
  | .bool b, v => v = .bool b
  | .int i, v => ∃ t, v = .int i t
  | .str x, v => (∃ t, v = .str x t) ∧ x.length ≤ sizeLine
  | .list ds, v => ∃ a vs n, v = .ref a ∧ P a ∧ IsL h a vs n ∧ RepAll h P ds vs.toList ∧ ds.length ≤ sizeLine
  | .tuple ds, v => ∃ a vs n, v = .ref a ∧ P a ∧ IsT h a vs n ∧ RepAll h P ds vs.toList ∧ ds.length ≤ sizeLine
  | .range a b c, v => ∃ x t u w, v = .ref x ∧ P x ∧ IsRange h x a b c t u w
  | .raw os w, v => v = w ∧ ∀ p ∈ os, P p.1 ∧ Obj.val p.2 ∧ h.get? p.1 = some p.2
  | .obj T ds, v => ∃ a vs, v = .ref a ∧ P a ∧ (T != "code" && !["list_iterator", "tuple_iterator", "range_iterator", "str_iterator", "str_ascii_iterator"].contains T) = true ∧
      h.get? a = some { cls := .type T, dict := none, data := .fields vs, slots := #[] } ∧ RepAll h P ds vs.toList
noncomputable def RepAll (h : Heap) (P : Addr → Prop) : List PV → List Value → Prop
  | [], vs => vs = []
  | d :: ds, vs => ∃ v r, vs = v :: r ∧ Rep h P d v ∧ RepAll h P ds r
end

theorem Obj.notCode_list {vs : Array Value} {n : Nat} : ¬ Obj.codeLike { cls := .type "list", dict := none, data := .seq vs n, slots := #[] } := Obj.notCode_cls (T := "list") rfl (by decide)
theorem Obj.notCode_tuple {vs : Array Value} {n : Nat} : ¬ Obj.codeLike { cls := .type "tuple", dict := none, data := .seq vs n, slots := #[] } := Obj.notCode_cls (T := "tuple") rfl (by decide)
mutual
theorem Rep.mono {h h' : Heap} {P P' : Addr → Prop} (hk : ∀ b o, h.get? b = some o → Obj.val o → P b → P' b ∧ h'.get? b = some o) :
    ∀ (d : PV) (v : Value), Rep h P d v → Rep h' P' d v
  | .none, v, r => by simpa only [Rep] using r
  | .bool b, v, r => by simpa only [Rep] using r
  | .int i, v, r => by simpa only [Rep] using r
  | .str x, v, r => by simpa only [Rep] using r
  | .list ds, v, r => by
    simp only [Rep] at r ⊢
    obtain ⟨a, vs, n, e, p, l, q, z⟩ := r
    have := hk a _ l (Obj.val_cls (T := "list") rfl (by decide)) p
    exact ⟨a, vs, n, e, this.1, this.2, RepAll.mono hk ds _ q, z⟩
  | .tuple ds, v, r => by
    simp only [Rep] at r ⊢
    obtain ⟨a, vs, n, e, p, l, q, z⟩ := r
    have := hk a _ l (Obj.val_cls (T := "tuple") rfl (by decide)) p
    exact ⟨a, vs, n, e, this.1, this.2, RepAll.mono hk ds _ q, z⟩
  | .range a b c, v, r => by
    simp only [Rep] at r ⊢
    obtain ⟨x, t, u, w, e, p, l⟩ := r
    have := hk x _ l (Obj.val_cls (T := "range") rfl (by decide)) p
    exact ⟨x, t, u, w, e, this.1, this.2⟩
  | .raw os w, v, r => by
    simp only [Rep] at r ⊢
    exact ⟨r.1, fun p hp => let ⟨a, b, c⟩ := r.2 p hp; let q := hk _ _ c b a; ⟨q.1, b, q.2⟩⟩
  | .obj T ds, v, r => by
    simp only [Rep] at r ⊢
    obtain ⟨a, vs, e, p, ht, l, q⟩ := r
    have := hk a _ l (Obj.val_cls (T := T) rfl ht) p
    exact ⟨a, vs, e, this.1, ht, this.2, RepAll.mono hk ds _ q⟩
theorem RepAll.mono {h h' : Heap} {P P' : Addr → Prop} (hk : ∀ b o, h.get? b = some o → Obj.val o → P b → P' b ∧ h'.get? b = some o) :
    ∀ (ds : List PV) (vs : List Value), RepAll h P ds vs → RepAll h' P' ds vs
  | [], vs, r => by simpa only [RepAll] using r
  | d :: ds, vs, r => by
    simp only [RepAll] at r ⊢
    obtain ⟨v, r', e, a, b⟩ := r
    exact ⟨v, r', e, Rep.mono hk d _ a, RepAll.mono hk ds _ b⟩
end

theorem Rep.weak {h : Heap} {P P' : Addr → Prop} (hp : ∀ a, P a → P' a) {d : PV} {v : Value} (r : Rep h P d v) : Rep h P' d v :=
  Rep.mono (fun b _ e _ p => ⟨hp b p, e⟩) d v r
theorem RepAll.weak {h : Heap} {P P' : Addr → Prop} (hp : ∀ a, P a → P' a) {d : List PV} {v : List Value} (r : RepAll h P d v) : RepAll h P' d v :=
  RepAll.mono (fun b _ e _ p => ⟨hp b p, e⟩) d v r

theorem RepAll.length {h : Heap} {P : Addr → Prop} : ∀ {ds : List PV} {vs : List Value}, RepAll h P ds vs → vs.length = ds.length
  | [], vs, r => by simp only [RepAll] at r; subst r; rfl
  | d :: ds, vs, r => by
    simp only [RepAll] at r
    obtain ⟨v, r', e, _, b⟩ := r
    subst e
    simp only [List.length_cons, RepAll.length b]
theorem RepAll.get {h : Heap} {P : Addr → Prop} : ∀ {ds : List PV} {vs : List Value}, RepAll h P ds vs → ∀ {i : Nat} {d : PV}, ds[i]? = some d → ∃ v, vs[i]? = some v ∧ Rep h P d v
  | [], vs, _, i, d, e => by simp at e
  | d :: ds, vs, r, i, d', e => by
    simp only [RepAll] at r
    obtain ⟨v, r', rfl, a, b⟩ := r
    cases i with
    | zero => simp at e; subst e; exact ⟨v, by simp, a⟩
    | succ i => simpa using RepAll.get b (i := i) (d := d') (by simpa using e)
theorem RepAll.get' {h : Heap} {P : Addr → Prop} : ∀ {ds : List PV} {vs : List Value}, RepAll h P ds vs → ∀ {i : Nat} {v : Value}, vs[i]? = some v → ∃ d, ds[i]? = some d ∧ Rep h P d v
  | [], vs, r, i, d, e => by simp only [RepAll] at r; subst r; simp at e
  | d :: ds, vs, r, i, d', e => by
    simp only [RepAll] at r
    obtain ⟨v, r', rfl, a, b⟩ := r
    cases i with
    | zero => simp at e; subst e; exact ⟨d, by simp, a⟩
    | succ i => simpa using RepAll.get' b (i := i) (v := d') (by simpa using e)
theorem RepAll.append {h : Heap} {P : Addr → Prop} : ∀ {ds es : List PV} {vs us : List Value}, RepAll h P ds vs → RepAll h P es us → RepAll h P (ds ++ es) (vs ++ us)
  | [], es, vs, us, r, q => by simp only [RepAll] at r; subst r; simpa using q
  | d :: ds, es, vs, us, r, q => by
    simp only [RepAll] at r
    obtain ⟨v, r', rfl, a, b⟩ := r
    simp only [List.cons_append, RepAll]
    exact ⟨v, _, rfl, a, RepAll.append b q⟩
theorem RepAll.snoc {h : Heap} {P : Addr → Prop} {ds : List PV} {d : PV} {vs : List Value} {v : Value} (r : RepAll h P ds vs) (q : Rep h P d v) : RepAll h P (ds ++ [d]) (vs ++ [v]) :=
  r.append (by simp only [RepAll]; exact ⟨v, [], rfl, q, rfl⟩)
theorem RepAll.take {h : Heap} {P : Addr → Prop} : ∀ {ds : List PV} {vs : List Value} (k : Nat), RepAll h P ds vs → RepAll h P (ds.take k) (vs.take k)
  | [], vs, k, r => by simp only [RepAll] at r; subst r; simp [RepAll]
  | d :: ds, vs, 0, r => by simp [RepAll]
  | d :: ds, vs, k + 1, r => by
    simp only [RepAll] at r
    obtain ⟨v, r', rfl, a, b⟩ := r
    simp only [List.take_succ_cons, RepAll]
    exact ⟨v, _, rfl, a, RepAll.take k b⟩
theorem RepAll.drop {h : Heap} {P : Addr → Prop} : ∀ {ds : List PV} {vs : List Value} (k : Nat), RepAll h P ds vs → RepAll h P (ds.drop k) (vs.drop k)
  | [], vs, k, r => by simp only [RepAll] at r; subst r; simp [RepAll]
  | d :: ds, vs, 0, r => by simpa using r
  | d :: ds, vs, k + 1, r => by
    simp only [RepAll] at r
    obtain ⟨v, r', rfl, a, b⟩ := r
    simpa using RepAll.drop k b
theorem RepAll.nil {h : Heap} {P : Addr → Prop} : RepAll h P [] [] := by simp [RepAll]
theorem RepAll.cons {h : Heap} {P : Addr → Prop} {d : PV} {ds : List PV} {v : Value} {vs : List Value} (a : Rep h P d v) (b : RepAll h P ds vs) : RepAll h P (d :: ds) (v :: vs) := by
  simp only [RepAll]; exact ⟨v, vs, rfl, a, b⟩
theorem RepAll.one {h : Heap} {P : Addr → Prop} {d : PV} {v : Value} (a : Rep h P d v) : RepAll h P [d] [v] := .cons a .nil

/-- no object in it -/
noncomputable def PV.flat : PV → Bool
  | .none | .bool _ | .int _ | .str _ => true
  | _ => false
theorem Rep.flat {h h' : Heap} {P P' : Addr → Prop} {d : PV} {v : Value} (hf : d.flat = true) (r : Rep h P d v) : Rep h' P' d v := by
  cases d <;> simp_all [PV.flat, Rep]

/-! ### the world of a law -/
structure Wo where
  prog : Program
  w : World
  h₁ : Heap
  os₁ : OsState
  Tb : Addr → Prop
  TabOk : Heap → Prop
  tabKeeps : ∀ h h', TabOk h → (∀ b o, h.get? b = some o → Obj.codeLike o → h'.get? b = some o) → TabOk h'

noncomputable abbrev Wo.M (G : Wo) : Model := model G.prog G.w

structure Wd (G : Wo) (s : Shared) : Prop where
  old : ∀ b o, G.h₁.get? b = some o → ¬ G.Tb b → s.heap.get? b = some o
  tab : G.TabOk s.heap
  tb : ∀ b, G.Tb b → ∃ o, s.heap.get? b = some o ∧ Obj.tabLike o
  os : s.os = G.os₁
  gens : AllBare s.gens

/-- from s to s' nothing has changed but what X names (and the code tables) -/
structure Evo (G : Wo) (X : Addr → Prop) (s s' : Shared) : Prop where
  keep : ∀ b o, s.heap.get? b = some o → ¬ G.Tb b → ¬ X b → s'.heap.get? b = some o
  wd : Wd G s → Wd G s'

noncomputable abbrev Ext (G : Wo) (s s' : Shared) : Prop := Evo G (fun _ => False) s s'

theorem Evo.refl {G : Wo} {X : Addr → Prop} {s : Shared} : Evo G X s s := ⟨fun _ _ e _ _ => e, id⟩
theorem Evo.trans {G : Wo} {X : Addr → Prop} {s s' s'' : Shared} (a : Evo G X s s') (b : Evo G X s' s'') : Evo G X s s'' :=
  ⟨fun x o e t n => b.keep x o (a.keep x o e t n) t n, fun h => b.wd (a.wd h)⟩
theorem Evo.weak {G : Wo} {X Y : Addr → Prop} {s s' : Shared} (a : Evo G X s s') (h : ∀ b, X b → Y b) : Evo G Y s s' :=
  ⟨fun x o e t n => a.keep x o e t (fun q => n (h x q)), a.wd⟩
theorem Ext.evo {G : Wo} {X : Addr → Prop} {s s' : Shared} (a : Ext G s s') : Evo G X s s' := a.weak (fun _ h => h.elim)

theorem Wd.keeps {G : Wo} {s : Shared} {h' : Heap} {tk : Nat} (x : Wd G s) (hk : ∀ b o, s.heap.get? b = some o → h'.get? b = some o) : Wd G { s with heap := h', toks := tk } :=
  ⟨fun b o e t => hk b o (x.old b o e t), G.tabKeeps _ _ x.tab (fun b o e _ => hk b o e), fun b t => let ⟨o, e, c⟩ := x.tb b t; ⟨o, hk b o e, c⟩, x.os, x.gens⟩
theorem Ext.of {G : Wo} {s : Shared} {h' : Heap} {tk : Nat} (hk : ∀ b o, s.heap.get? b = some o → h'.get? b = some o) : Ext G s { s with heap := h', toks := tk } :=
  ⟨fun b o e _ _ => hk b o e, fun x => x.keeps hk⟩
theorem Ext.tok {G : Wo} {s : Shared} {tk : Nat} : Ext G s { s with toks := tk } := Ext.of (h' := s.heap) fun _ _ e => e
theorem Ext.push {G : Wo} {s : Shared} {o : Obj} {tk : Nat} : Ext G s { s with heap := s.heap.push o, toks := tk } := Ext.of fun _ _ e => Heap.get?_push_of_some o e
theorem Ext.push' {G : Wo} {s : Shared} {o : Obj} : Ext G s { s with heap := s.heap.push o } := Ext.of (tk := s.toks) fun _ _ e => Heap.get?_push_of_some o e

/-- one object, no code and none of the law's start, is changed -/
theorem Evo.but {G : Wo} {X : Addr → Prop} {s : Shared} {a : Addr} {h' : Heap} {tk : Nat} (hs : ∀ b o, b ≠ a → s.heap.get? b = some o → h'.get? b = some o) (hX : X a)
    (hold : G.h₁.get? a = none) (hc : ∀ o, s.heap.get? a = some o → ¬ Obj.codeLike o) : Evo G X s { s with heap := h', toks := tk } := by
  refine ⟨fun b o e _ n => hs b o (fun q => n (q ▸ hX)) e, fun x => ⟨fun b o e t => ?_, ?_, fun b t => ?_, x.os, x.gens⟩⟩
  · refine hs b o (fun q => ?_) (x.old b o e t)
    rw [q, hold] at e; cases e
  · refine G.tabKeeps _ _ x.tab (fun b o e q => hs b o (fun r => ?_) e)
    subst r
    exact hc o e q
  · obtain ⟨o, e, c⟩ := x.tb b t
    refine ⟨o, hs b o (fun r => ?_) e, c⟩
    subst r
    exact hc o e c.code

theorem Wd.notTb {G : Wo} {s : Shared} (x : Wd G s) {b : Addr} {o : Obj} (e : s.heap.get? b = some o) (hc : ¬ Obj.codeLike o) : ¬ G.Tb b := fun t => by
  obtain ⟨o', e', c⟩ := x.tb b t
  rw [e] at e'; cases e'; exact hc c.code
theorem Wd.notTbV {G : Wo} {s : Shared} (x : Wd G s) {b : Addr} {o : Obj} (e : s.heap.get? b = some o) (hc : ¬ Obj.tabLike o) : ¬ G.Tb b := fun t => by
  obtain ⟨o', e', c⟩ := x.tb b t
  rw [e] at e'; cases e'; exact hc c

/-- what a value is made of is no code table -/
theorem Rep.evo {G : Wo} {X P : Addr → Prop} {s s' : Shared} (x : Wd G s) (ev : Evo G X s s') (hX : ∀ b, P b → ¬ X b) {d : PV} {v : Value} (r : Rep s.heap P d v) : Rep s'.heap P d v :=
  Rep.mono (fun b o e q p => ⟨p, ev.keep b o e (x.notTbV e q.1) (hX b p)⟩) d v r
theorem RepAll.evo {G : Wo} {X P : Addr → Prop} {s s' : Shared} (x : Wd G s) (ev : Evo G X s s') (hX : ∀ b, P b → ¬ X b) {ds : List PV} {vs : List Value} (r : RepAll s.heap P ds vs) : RepAll s'.heap P ds vs :=
  RepAll.mono (fun b o e q p => ⟨p, ev.keep b o e (x.notTbV e q.1) (hX b p)⟩) ds vs r
theorem Rep.ext {G : Wo} {P : Addr → Prop} {s s' : Shared} (x : Wd G s) (ev : Ext G s s') {d : PV} {v : Value} (r : Rep s.heap P d v) : Rep s'.heap P d v := r.evo x ev (fun _ _ h => h)
theorem RepAll.ext {G : Wo} {P : Addr → Prop} {s s' : Shared} (x : Wd G s) (ev : Ext G s s') {d : List PV} {v : List Value} (r : RepAll s.heap P d v) : RepAll s'.heap P d v := r.evo x ev (fun _ _ h => h)
end Mine
end

section
open PySem PyProof.Rows
namespace Mine

/-! ### a frame -/
structure Cx where
  G : Wo
  env : Env
  h₀ : Heap
  P : Addr → Prop
  mc : List Addr
  own : List Str
  rk : Nat
  comp : Bool
  av : List Addr

noncomputable abbrev Cx.L (c : Cx) : Addr := c.env.locals
noncomputable abbrev Cx.M (c : Cx) : Model := model c.G.prog c.G.w

structure Cx.Ok (c : Cx) : Prop where
  kind : c.env.scope.kind = .function
  glob : c.env.globals = mainGlobals
  blt : c.env.builtins = builtinsNs
  Lnew : c.h₀.get? c.env.locals = none
  mcnew : ∀ a ∈ c.mc, c.h₀.get? a = none
  fresh : ∀ a, c.h₀.get? a = none → c.P a
  tb : ∀ a, c.G.Tb a → ∃ o, c.h₀.get? a = some o
  old : ∀ a o, c.G.h₁.get? a = some o → ∃ o, c.h₀.get? a = some o
  cellMc : ∀ x, c.env.kindOf x = some .cell → c.comp = false → ∃ a ∈ c.mc, c.env.cells.lookup x = some a
  ownNe : Str.empty ∉ c.own
  avX : ∀ a ∈ c.av, ¬ (a = c.env.locals ∨ a ∈ c.mc)
  apart : c.comp = false → c.env.cells.Pairwise fun x y => x.2 ≠ y.2

noncomputable abbrev Env1 := List (Str × PV)
noncomputable abbrev Own1 := List (Str × Addr)

noncomputable def LocalIs (s : Shared) (L : Addr) (x : Str) (v : Value) : Prop := ∃ m, s.heap.Ns L m ∧ m x = some v
noncomputable def VarAt (c : Cx) (s : Shared) (x : Str) (v : Value) : Prop :=
  (c.env.kindOf x = some .local ∧ LocalIs s c.L x v) ∨
  ((c.env.kindOf x = some .cell ∨ c.env.kindOf x = some .free) ∧ ∃ a, c.env.cells.lookup x = some a ∧ s.heap.IsCell a (some v))

/-- not the frame's own things -/
noncomputable def Cx.N (c : Cx) : Addr → Prop := fun a => c.P a ∧ a ≠ c.L ∧ a ∉ c.mc ∧ a ∉ c.av
noncomputable def Cx.Q (c : Cx) (T : Own1) : Addr → Prop := fun a => c.N a ∧ ∀ p ∈ T, a ≠ p.2
noncomputable def Cx.Qb (c : Cx) (T : Own1) (b : Bool) : Addr → Prop := fun a => c.N a ∧ (b = true → ∀ p ∈ T, a ≠ p.2)
noncomputable def Cx.X (c : Cx) (T : Own1) : Addr → Prop := fun a => a = c.L ∨ a ∈ c.mc ∨ ∃ p ∈ T, a = p.2

noncomputable def OwnRep (c : Cx) (T : Own1) (s : Shared) (x : Str) (d : PV) (v : Value) : Prop :=
  ∃ a ds vs n, d = .list ds ∧ v = .ref a ∧ T.lookup x = some a ∧ IsL s.heap a vs n ∧ RepAll s.heap (c.Q T) ds vs.toList ∧ ds.length ≤ sizeLine

structure St (c : Cx) (ρ : Env1) (T : Own1) (s : Shared) : Prop where
  wd : Wd c.G s
  keep0 : ∀ b o, c.h₀.get? b = some o → ¬ c.G.Tb b → s.heap.get? b = some o
  ns : ∃ m, s.heap.Ns c.L m
  mcs : ∀ a ∈ c.mc, ∃ v, s.heap.IsCell a v
  vars : ∀ x d, ρ.lookup x = some d → ∃ v, VarAt c s x v ∧ (x ∈ c.own → OwnRep c T s x d v) ∧ (x ∉ c.own → Rep s.heap (c.Q T) d v)
  own : ∀ p ∈ T, c.h₀.get? p.2 = none ∧ ∃ vs n, IsL s.heap p.2 vs n
  nodup : T.Pairwise fun p q => p.2 ≠ q.2
  avs : ∀ a ∈ c.av, ∃ o, s.heap.get? a = some o ∧ ∀ vs n, o.data ≠ .seq vs n

theorem Cx.Q_iff {c : Cx} {T : Own1} {a : Addr} : c.Q T a ↔ c.Qb T true a := by simp [Cx.Q, Cx.Qb]
theorem Cx.Qb_of {c : Cx} {T : Own1} {b : Bool} {a : Addr} (h : c.Q T a) : c.Qb T b a := ⟨h.1, fun _ => h.2⟩
theorem Cx.Qb_false {c : Cx} {T : Own1} {b : Bool} {a : Addr} (h : c.Qb T b a) : c.Qb T false a := ⟨h.1, fun e => by cases e⟩

theorem not_codeLike_dict {o : Obj} {es ep} (h : o.data = .dict es ep) : ¬ Obj.codeLike o := fun ⟨_, _, e⟩ => by rw [h] at e; cases e
theorem not_codeLike_cell {o : Obj} {v} (h : o.data = .cell v) : ¬ Obj.codeLike o := fun ⟨_, _, e⟩ => by rw [h] at e; cases e

theorem Wd.ns_keep {G : Wo} {X : Addr → Prop} {s s' : Shared} {L : Addr} {m} (x : Wd G s) (e : Evo G X s s') (hX : ¬ X L) (h : s.heap.Ns L m) : s'.heap.Ns L m := by
  obtain ⟨o, es, ep, ho, hd, r⟩ := h
  exact ⟨o, es, ep, e.keep _ _ ho (x.notTb ho (not_codeLike_dict hd)) hX, hd, r⟩
theorem Wd.cell_keep {G : Wo} {X : Addr → Prop} {s s' : Shared} {a : Addr} {v} (x : Wd G s) (e : Evo G X s s') (hX : ¬ X a) (h : s.heap.IsCell a v) : s'.heap.IsCell a v := by
  obtain ⟨o, ho, hd⟩ := h
  exact ⟨o, e.keep _ _ ho (x.notTb ho (not_codeLike_cell hd)) hX, hd⟩
theorem Wd.list_keep {G : Wo} {X : Addr → Prop} {s s' : Shared} {a : Addr} {vs n} (x : Wd G s) (e : Evo G X s s') (hX : ¬ X a) (h : IsL s.heap a vs n) : IsL s'.heap a vs n :=
  e.keep _ _ h (x.notTb h Obj.notCode_list) hX
theorem Wd.alive_keep {G : Wo} {X : Addr → Prop} {s s' : Shared} {a : Addr} {o : Obj} (x : Wd G s) (e : Evo G X s s') (hX : ¬ X a) (ho : s.heap.get? a = some o) (q : ∀ vs n, o.data ≠ .seq vs n) : ∃ o, s'.heap.get? a = some o ∧ ∀ vs n, o.data ≠ .seq vs n := by
  by_cases t : G.Tb a
  · obtain ⟨o', h1, _, vs, h2⟩ := (e.wd x).tb a t
    exact ⟨o', h1, fun vs' n r => by rw [h2] at r; cases r⟩
  · exact ⟨o, e.keep a o ho t hX, q⟩
theorem St.ext {c : Cx} {ρ : Env1} {T : Own1} {s s' : Shared} (x : St c ρ T s) (e : Ext c.G s s') : St c ρ T s' where
  wd := e.wd x.wd
  keep0 := fun b o h t => e.keep b o (x.keep0 b o h t) t (fun h => h)
  ns := let ⟨m, h⟩ := x.ns; ⟨m, x.wd.ns_keep e (fun h => h) h⟩
  mcs := fun a h => let ⟨v, h⟩ := x.mcs a h; ⟨v, x.wd.cell_keep e (fun h => h) h⟩
  vars := fun y d h => by
    obtain ⟨v, h1, h2, h3⟩ := x.vars y d h
    refine ⟨v, ?_, fun q => ?_, fun q => (h3 q).ext x.wd e⟩
    · rcases h1 with ⟨k, m, h, hm⟩ | ⟨k, a, h, hc⟩
      · exact .inl ⟨k, m, x.wd.ns_keep e (fun h => h) h, hm⟩
      · exact .inr ⟨k, a, h, x.wd.cell_keep e (fun h => h) hc⟩
    · obtain ⟨a, ds, vs, n, e1, e2, e3, e4, e5, e6⟩ := h2 q
      exact ⟨a, ds, vs, n, e1, e2, e3, x.wd.list_keep e (fun h => h) e4, e5.ext x.wd e, e6⟩
  own := fun p h => let ⟨a, vs, n, l⟩ := x.own p h; ⟨a, vs, n, x.wd.list_keep e (fun h => h) l⟩
  nodup := x.nodup
  avs := fun a h => let ⟨o, ho, q⟩ := x.avs a h; (x.wd.alive_keep e (fun h => h) ho q).imp fun _ r => r

/-- fewer variables -/
noncomputable def SubEnv (ρ ρ' : Env1) : Prop := ∀ x d, ρ.lookup x = some d → ρ'.lookup x = some d
theorem St.sub {c : Cx} {ρ ρ' : Env1} {T : Own1} {s : Shared} (x : St c ρ' T s) (h : SubEnv ρ ρ') : St c ρ T s :=
  ⟨x.wd, x.keep0, x.ns, x.mcs, fun y d e => x.vars y d (h y d e), x.own, x.nodup, x.avs⟩

/-- room left: depth, C units, no exception being handled -/
structure AOk (k : Nat) (A : Around) : Prop where
  handled : A.handled = none
  depth : A.depth + k ≤ 690
  units : A.units + 20 * k ≤ 9000

/-- an expression comes to the datum d, nothing old is changed -/
structure Ev (c : Cx) (ρ : Env1) (b : Bool) (e : Expr) (d : PV) : Prop where
  run : ∀ (A : Around) (T : Own1) (s : Shared), AOk c.rk A → St c ρ T s →
    wpAny c.M A (eval e c.env) (fun v s' => Ext c.G s s' ∧ Rep s'.heap (c.Qb T b) d v) (fun _ _ => False) s
/-- it comes to a list or a tuple whose items are so -/
structure EvS (c : Cx) (ρ : Env1) (e : Expr) (ds : List PV) : Prop where
  run : ∀ (A : Around) (T : Own1) (s : Shared), AOk c.rk A → St c ρ T s →
    wpAny c.M A (eval e c.env) (fun v s' => Ext c.G s s' ∧ ∃ a vs n, v = .ref a ∧ IsL s'.heap a vs n ∧ RepAll s'.heap (c.Q T) ds vs.toList ∧ ds.length ≤ sizeLine) (fun _ _ => False) s
/-- it comes to a list that nothing else knows of -/
structure EvF (c : Cx) (ρ : Env1) (e : Expr) (ds : List PV) : Prop where
  run : ∀ (A : Around) (T : Own1) (s : Shared), AOk c.rk A → St c ρ T s →
    wpAny c.M A (eval e c.env) (fun v s' => Ext c.G s s' ∧ ∃ a vs n, v = .ref a ∧ s.heap.get? a = none ∧ IsL s'.heap a vs n ∧
      RepAll s'.heap (fun x => c.Q T x ∧ x ≠ a) ds vs.toList ∧ ds.length ≤ sizeLine) (fun _ _ => False) s
structure IsT1 (c : Cx) (ρ : Env1) (e : Expr) (t : Bool) : Prop where
  run : ∀ (A : Around) (T : Own1) (s : Shared), AOk c.rk A → St c ρ T s →
    wpAny c.M A (isTrue e c.env (eval e c.env)) (fun v s' => Ext c.G s s' ∧ v = t) (fun _ _ => False) s

theorem Ev.use {c : Cx} {ρ : Env1} {b : Bool} {e : Expr} {d : PV} (h : Ev c ρ b e d) {A : Around} {T : Own1} {s : Shared} (ha : AOk c.rk A) (st : St c ρ T s) {E : Value → Shared → Prop}
    {Q : Value → Shared → Prop} (k : ∀ v s', Ext c.G s s' → St c ρ T s' → Rep s'.heap (c.Qb T b) d v → Q v s') : wpAny c.M A (eval e c.env) Q E s :=
  wpAny_mono (h.run A T s ha st) (fun v s' ⟨h1, h2⟩ => k v s' h1 (st.ext h1) h2) fun _ _ x => x.elim
theorem EvS.use {c : Cx} {ρ : Env1} {e : Expr} {d : List PV} (h : EvS c ρ e d) {A : Around} {T : Own1} {s : Shared} (ha : AOk c.rk A) (st : St c ρ T s) {E : Value → Shared → Prop}
    {Q : Value → Shared → Prop} (k : ∀ a vs n s', Ext c.G s s' → St c ρ T s' → IsL s'.heap a vs n → RepAll s'.heap (c.Q T) d vs.toList → d.length ≤ sizeLine → Q (.ref a) s') : wpAny c.M A (eval e c.env) Q E s :=
  wpAny_mono (h.run A T s ha st) (fun v s' ⟨h1, a, vs, n, e, h2, h3, h4⟩ => e ▸ k a vs n s' h1 (st.ext h1) h2 h3 h4) fun _ _ x => x.elim
theorem IsT1.use {c : Cx} {ρ : Env1} {e : Expr} {d : Bool} (h : IsT1 c ρ e d) {A : Around} {T : Own1} {s : Shared} (ha : AOk c.rk A) (st : St c ρ T s) {E : Value → Shared → Prop}
    {Q : Bool → Shared → Prop} (k : ∀ s', Ext c.G s s' → St c ρ T s' → Q d s') : wpAny c.M A (isTrue e c.env (eval e c.env)) Q E s :=
  wpAny_mono (h.run A T s ha st) (fun v s' ⟨h1, h2⟩ => h2 ▸ k s' h1 (st.ext h1)) fun _ _ x => x.elim

theorem Ev.weak {c : Cx} {ρ : Env1} {b : Bool} {e : Expr} {d : PV} (h : Ev c ρ true e d) : Ev c ρ b e d := .mk fun A T s ha st =>
  h.use ha st fun _ _ ex _ r => ⟨ex, r.weak fun _ q => Cx.Qb_of (Cx.Q_iff.mpr q)⟩
theorem Ev.any {c : Cx} {ρ : Env1} {b : Bool} {e : Expr} {d : PV} (h : Ev c ρ b e d) : Ev c ρ false e d := .mk fun A T s ha st =>
  h.use ha st fun _ _ ex _ r => ⟨ex, r.weak fun _ q => Cx.Qb_false q⟩
theorem Ev.seq {c : Cx} {ρ : Env1} {e : Expr} {ds : List PV} (h : Ev c ρ true e (.list ds)) : EvS c ρ e ds := .mk fun A T s ha st =>
  h.use ha st fun v s' ex _ r => by
    simp only [Rep] at r
    obtain ⟨a, vs, n, e1, _, l, q, z⟩ := r
    exact ⟨ex, a, vs, n, e1, l, q.weak fun _ q => Cx.Q_iff.mpr q, z⟩
theorem EvF.seq {c : Cx} {ρ : Env1} {e : Expr} {ds : List PV} (h : EvF c ρ e ds) : EvS c ρ e ds := .mk fun A T s ha st =>
  wpAny_mono (h.run A T s ha st) (fun v s' ⟨ex, a, vs, n, e1, _, l, q, z⟩ => ⟨ex, a, vs, n, e1, l, q.weak fun _ q => q.1, z⟩) fun _ _ x => x.elim
/-- what is new may be had -/
theorem St.newP {c : Cx} {ρ : Env1} {T : Own1} {s : Shared} (ok : c.Ok) (x : St c ρ T s) {a : Addr} (h : s.heap.get? a = none) : c.Q T a := by
  refine ⟨⟨ok.fresh a ?_, fun e => ?_, fun hm => ?_, fun hm => ?_⟩, fun p hp e => ?_⟩
  · cases q : c.h₀.get? a with
    | none => rfl
    | some o =>
      by_cases t : c.G.Tb a
      · obtain ⟨o', e, _⟩ := x.wd.tb a t
        rw [h] at e; cases e
      · rw [x.keep0 a o q t] at h; cases h
  · obtain ⟨m, o, _, _, hL, _⟩ := x.ns
    rw [← e, h] at hL; cases hL
  · obtain ⟨v, o, hc, _⟩ := x.mcs a hm
    rw [h] at hc; cases hc
  · obtain ⟨o, hc, _⟩ := x.avs a hm
    rw [h] at hc; cases hc
  · obtain ⟨_, vs, n, l⟩ := x.own p hp
    have l' : s.heap.get? p.2 = _ := l
    rw [← e, h] at l'; cases l'
theorem St.own_ne {c : Cx} {ρ : Env1} {T : Own1} {s : Shared} (x : St c ρ T s) {p : Str × Addr} (h : p ∈ T) : p.2 ≠ c.L ∧ p.2 ∉ c.mc ∧ p.2 ∉ c.av := by
  obtain ⟨_, vs, n, l⟩ := x.own p h
  refine ⟨fun e => ?_, fun hm => ?_, fun hm => ?_⟩
  · obtain ⟨m, o, _, _, hL, hd, _⟩ := x.ns
    rw [← e] at hL
    have := l.symm.trans hL; cases this; cases hd
  · obtain ⟨v, o, hc, hd⟩ := x.mcs _ hm
    have := l.symm.trans hc; cases this; cases hd
  · obtain ⟨o, hc, hd⟩ := x.avs _ hm
    have := l.symm.trans hc; cases this; exact hd _ _ rfl
theorem EvF.ev {c : Cx} {ρ : Env1} {b : Bool} {e : Expr} {ds : List PV} (ok : c.Ok) (h : EvF c ρ e ds) : Ev c ρ b e (.list ds) := .mk fun A T s ha st =>
  wpAny_mono (h.run A T s ha st) (fun v s' ⟨ex, a, vs, n, e1, hn, l, q, z⟩ => ⟨ex, by
    simp only [Rep]
    exact ⟨a, vs, n, e1, Cx.Qb_of (st.newP ok hn), l, q.weak fun _ q => Cx.Qb_of q.1, z⟩⟩) fun _ _ x => x.elim
theorem get_new {h : Heap} : h.get? h.objs.size = none := by
  cases e : h.get? h.objs.size with
  | none => rfl
  | some o => exact absurd (Heap.lt_size e) (Nat.lt_irrefl _)

/-! ### constants and names -/
section
variable {c : Cx} {ρ : Env1} {b : Bool}
theorem Ev_int {i : Int} {k pos} : Ev c ρ b (.Constant (.int i) k pos) (.int i) := .mk fun _ _ _ _ _ =>
  wpAny_Constant_int ⟨Ext.tok, by simp only [Rep]; exact ⟨_, rfl⟩⟩
theorem Ev_str {x : Str} {k pos} (hx : x.length ≤ sizeLine) : Ev c ρ b (.Constant (.str x) k pos) (.str x) := .mk fun _ _ s _ _ _ _ _ =>
  ⟨(Ext.tok : Ext c.G s { s with toks := s.toks + 1 }), by simp only [Rep]; exact ⟨⟨_, rfl⟩, hx⟩⟩
theorem Ev_none {k pos} : Ev c ρ b (.Constant .none k pos) .none := .mk fun _ _ s _ _ _ _ _ => ⟨(Evo.refl : Ext c.G s s), by simp only [Rep]⟩
theorem Ev_bool {x : Bool} {k pos} : Ev c ρ b (.Constant (.bool x) k pos) (.bool x) := .mk fun _ _ s _ _ _ _ _ => ⟨(Evo.refl : Ext c.G s s), by simp only [Rep]⟩

theorem loadVar (ok : c.Ok) {x : Str} {v : Value} {s : Shared} {A : Around} {E : Value → Shared → Prop} {Q : Value → Shared → Prop} (hv : VarAt c s x v) (h : Q v s)
    (hn : (x == ("__classdict__" : Str)) = false) : wpAny c.M A (loadName c.env x) Q E s := by
  rcases hv with ⟨k, m, hm, hx⟩ | ⟨k | k, a, ha, hc⟩
  · exact wpAny_loadName_local ok.kind k hm hx h
  · exact wpAny_loadName_cell ok.kind k ha hc h
  · exact wpAny_loadName_free ok.kind k ha hc h hn

/-- no name of the text's own that the machine keeps for itself -/
noncomputable def plainName (x : Str) : Bool := !(x == ("__classdict__" : Str)) && !(x == ("__debug__" : Str))
theorem plainName_spec {x : Str} (h : plainName x = true) : (x == ("__classdict__" : Str)) = false ∧ (x == ("__debug__" : Str)) = false := by
  simpa [plainName] using h

theorem Ev_name (ok : c.Ok) {x : Str} {pos} {d : PV} (hd : ρ.lookup x = some d) (ho : c.own.contains x = false) (hp : plainName x = true) : Ev c ρ b (.Name x pos) d := .mk fun _ T s _ st => by
  obtain ⟨v, h1, _, h3⟩ := st.vars x d hd
  refine wpAny_Name (loadVar ok h1 ⟨Evo.refl, ?_⟩ (plainName_spec hp).1) (plainName_spec hp).2
  exact (h3 (fun q => by rw [List.contains_iff_mem.mpr q] at ho; cases ho)).weak fun _ q => Cx.Qb_of q
theorem Ev_nameOwn (ok : c.Ok) {x : Str} {pos} {d : PV} (hd : ρ.lookup x = some d) (ho : c.own.contains x = true) (hp : plainName x = true) : Ev c ρ false (.Name x pos) d := .mk fun _ T s _ st => by
  obtain ⟨v, h1, h2, _⟩ := st.vars x d hd
  refine wpAny_Name (loadVar ok h1 ⟨Evo.refl, ?_⟩ (plainName_spec hp).1) (plainName_spec hp).2
  obtain ⟨a, ds, vs, n, rfl, rfl, e3, e4, e5, e6⟩ := h2 (List.contains_iff_mem.mp ho)
  have hm : (x, a) ∈ T := mem_of_lookup e3
  simp only [Rep]
  exact ⟨a, vs, n, rfl, ⟨⟨ok.fresh a (st.own _ hm).1, st.own_ne hm⟩, fun e => by cases e⟩, e4, e5.weak fun _ q => Cx.Qb_of q, e6⟩
theorem EvS_nameOwn (ok : c.Ok) {x : Str} {pos} {ds : List PV} (hd : ρ.lookup x = some (.list ds)) (ho : c.own.contains x = true) (hp : plainName x = true) : EvS c ρ (.Name x pos) ds := .mk fun _ T s _ st => by
  obtain ⟨v, h1, h2, _⟩ := st.vars x _ hd
  refine wpAny_Name (loadVar ok h1 ⟨Evo.refl, ?_⟩ (plainName_spec hp).1) (plainName_spec hp).2
  obtain ⟨a, ds', vs, n, e1, rfl, e3, e4, e5, e6⟩ := h2 (List.contains_iff_mem.mp ho)
  cases e1
  exact ⟨a, vs, n, rfl, e4, e5, e6⟩
end
end Mine
end

section
open PySem PyProof.Rows
open PySem.SeqAt
namespace Mine

/-! ### equality of data -/
open Classical in
mutual
noncomputable def PV.eqv : PV → PV → Bool
  | .none, .none => true
  | .bool a, .bool b => a == b
  | .int a, .int b => a == b
  | .str a, .str b => a == b
  | .list a, .list b => PV.eqvs a b
  | .tuple a, .tuple b => PV.eqvs a b
  | .range a b c, .range a' b' c' => decide (a = a' ∧ b = b' ∧ c = c')
  | .raw a v, .raw b w => decide (a = b ∧ v = w)
  | .obj a v, .obj b w => (a == b) && PV.eqvs v w
  | _, _ => false
noncomputable def PV.eqvs : List PV → List PV → Bool
  | [], [] => true
  | a :: r, b :: q => PV.eqv a b && PV.eqvs r q
  | _, _ => false
end
mutual
noncomputable def PV.kin : PV → PV → Bool
  | .none, .none => true
  | .bool _, .bool _ => true
  | .int _, .int _ => true
  | .str _, .str _ => true
  | .list a, .list b => PV.kins a b
  | .tuple a, .tuple b => PV.kins a b
  | _, _ => false
noncomputable def PV.kins : List PV → List PV → Bool
  | a :: r, b :: q => PV.kin a b && PV.kins r q
  | _, _ => true
end
mutual
noncomputable def PV.deep : PV → Nat
  | .list a => PV.deeps a + 1
  | .tuple a => PV.deeps a + 1
  | _ => 0
noncomputable def PV.deeps : List PV → Nat
  | [] => 0
  | a :: r => max (PV.deep a) (PV.deeps r)
end
theorem PV.eqvs_length : ∀ {a b : List PV}, PV.eqvs a b = true → a.length = b.length
  | [], [], _ => rfl
  | _ :: _, _ :: _, h => by simp only [PV.eqvs, Bool.and_eq_true] at h; simp [PV.eqvs_length h.2]
  | [], _ :: _, h => by simp [PV.eqvs] at h
  | _ :: _, [], h => by simp [PV.eqvs] at h
theorem PV.eqvs_all : ∀ {a b : List PV}, a.length = b.length → PV.eqvs a b = (List.range a.length).all fun j => match a[j]?, b[j]? with | some x, some y => PV.eqv x y | _, _ => false
  | [], [], _ => by simp [PV.eqvs]
  | x :: a, y :: b, h => by
    have ih := PV.eqvs_all (a := a) (b := b) (by simpa using h)
    rw [PV.eqvs, ih, List.length_cons, List.range_succ_eq_map, List.all_cons, List.all_map]
    rfl
  | [], _ :: _, h => by simp at h
  | _ :: _, [], h => by simp at h

mutual
theorem PV.eqv_refl : ∀ d : PV, PV.eqv d d = true
  | .none => by simp [PV.eqv]
  | .bool _ => by simp [PV.eqv]
  | .int _ => by simp [PV.eqv]
  | .str _ => by simp [PV.eqv]
  | .list a => by simp [PV.eqv, PV.eqvs_refl a]
  | .tuple a => by simp [PV.eqv, PV.eqvs_refl a]
  | .range _ _ _ => by simp [PV.eqv]
  | .raw _ _ => by simp [PV.eqv]
  | .obj _ a => by simp [PV.eqv, PV.eqvs_refl a]
theorem PV.eqvs_refl : ∀ d : List PV, PV.eqvs d d = true
  | [] => by simp [PV.eqvs]
  | a :: r => by simp [PV.eqvs, PV.eqv_refl a, PV.eqvs_refl r]
end
mutual
theorem PV.eq_of_eqv : ∀ {a b : PV}, PV.eqv a b = true → a = b
  | .none, b, h => by cases b <;> simp_all [PV.eqv]
  | .bool _, b, h => by cases b <;> simp_all [PV.eqv]
  | .int _, b, h => by cases b <;> simp_all [PV.eqv]
  | .str _, b, h => by cases b <;> simp_all [PV.eqv]
  | .list a, b, h => by
    cases b with
    | list b => rw [PV.eqv] at h; rw [PV.eqs_of_eqvs h]
    | _ => simp [PV.eqv] at h
  | .tuple a, b, h => by
    cases b with
    | tuple b => rw [PV.eqv] at h; rw [PV.eqs_of_eqvs h]
    | _ => simp [PV.eqv] at h
  | .range _ _ _, b, h => by cases b <;> simp_all [PV.eqv]
  | .raw _ _, b, h => by cases b <;> simp_all [PV.eqv]
  | .obj T a, b, h => by
    cases b with
    | obj U b => rw [PV.eqv, Bool.and_eq_true, beq_iff_eq] at h; rw [h.1, PV.eqs_of_eqvs h.2]
    | _ => simp [PV.eqv] at h
theorem PV.eqs_of_eqvs : ∀ {a b : List PV}, PV.eqvs a b = true → a = b
  | [], [], _ => rfl
  | x :: a, y :: b, h => by
    rw [PV.eqvs, Bool.and_eq_true] at h
    rw [PV.eq_of_eqv h.1, PV.eqs_of_eqvs h.2]
  | [], _ :: _, h => by simp [PV.eqvs] at h
  | _ :: _, [], h => by simp [PV.eqvs] at h
end
mutual
theorem Rep.unique {h : Heap} {P P' : Addr → Prop} : ∀ {d d' : PV} {v : Value}, PV.kin d d' = true → Rep h P d v → Rep h P' d' v → d = d'
  | .none, d', v, k, r, q => by cases d' <;> simp_all [PV.kin]
  | .bool _, d', v, k, r, q => by cases d' <;> simp_all [PV.kin, Rep]
  | .int _, d', v, k, r, q => by
    cases d' <;> simp_all [PV.kin, Rep]
    obtain ⟨t, rfl⟩ := r; simpa using q
  | .str _, d', v, k, r, q => by
    cases d' <;> simp_all [PV.kin, Rep]
    obtain ⟨⟨t, rfl⟩, _⟩ := r; simpa using q.1
  | .list ds, d', v, k, r, q => by
    simp only [Rep] at r; obtain ⟨a, vs, n, rfl, _, l, ra, _⟩ := r
    cases d' with
    | list ds' =>
      simp only [Rep] at q; obtain ⟨a', vs', n', e, _, l', ra', _⟩ := q
      cases e
      have := l.symm.trans l'
      cases this
      rw [PV.kin] at k
      rw [RepAll.unique k ra ra']
    | _ => simp [PV.kin] at k
  | .tuple ds, d', v, k, r, q => by
    simp only [Rep] at r; obtain ⟨a, vs, n, rfl, _, l, ra, _⟩ := r
    cases d' with
    | tuple ds' =>
      simp only [Rep] at q; obtain ⟨a', vs', n', e, _, l', ra', _⟩ := q
      cases e
      have := l.symm.trans l'
      cases this
      rw [PV.kin] at k
      rw [RepAll.unique k ra ra']
    | _ => simp [PV.kin] at k
  | .range _ _ _, d', v, k, r, q => by cases d' <;> simp [PV.kin] at k
  | .raw _ _, d', v, k, r, q => by cases d' <;> simp [PV.kin] at k
  | .obj _ _, d', v, k, r, q => by cases d' <;> simp [PV.kin] at k
theorem RepAll.unique {h : Heap} {P P' : Addr → Prop} : ∀ {d d' : List PV} {v : List Value}, PV.kins d d' = true → RepAll h P d v → RepAll h P' d' v → d = d'
  | [], d', v, k, r, q => by
    simp only [RepAll] at r; subst r
    cases d' with
    | nil => rfl
    | cons => simp [RepAll] at q
  | d :: ds, d', v, k, r, q => by
    simp only [RepAll] at r; obtain ⟨x, y, rfl, a, b⟩ := r
    cases d' with
    | nil => simp [RepAll] at q
    | cons e es =>
      simp only [RepAll] at q; obtain ⟨x', y', e', a', b'⟩ := q
      cases e'
      simp only [PV.kins, Bool.and_eq_true] at k
      rw [Rep.unique k.1 a a', RepAll.unique k.2 b b']
end
theorem Rep.unique_flat {h : Heap} {P P' : Addr → Prop} {d d' : PV} {v : Value} (f : d.flat = true) (f' : d'.flat = true) (r : Rep h P d v) (q : Rep h P' d' v) : d = d' := by
  cases d <;> simp [PV.flat] at f <;> cases d' <;> simp [PV.flat] at f' <;> simp only [Rep] at r q
  all_goals (first | rfl | (subst r; simp_all) | (obtain ⟨t, rfl⟩ := r; simp_all) | (obtain ⟨⟨t, rfl⟩, _⟩ := r; simp_all))
theorem PV.kin_flat {d a : PV} (f : a.flat = true) (k : PV.kin d a = true) : d.flat = true := by
  cases a <;> simp [PV.flat] at f <;> cases d <;> simp [PV.kin] at k <;> rfl

theorem PV.kins_get : ∀ {a b : List PV}, PV.kins a b = true → ∀ {j : Nat} {x y : PV}, a[j]? = some x → b[j]? = some y → PV.kin x y = true
  | x :: a, y :: b, h, 0, _, _, e, e' => by
    simp at e e'; subst e e'
    simp only [PV.kins, Bool.and_eq_true] at h; exact h.1
  | x :: a, y :: b, h, j + 1, _, _, e, e' => by
    simp only [PV.kins, Bool.and_eq_true] at h
    exact PV.kins_get h.2 (j := j) (by simpa using e) (by simpa using e')
  | [], b, h, j, _, _, e, e' => by simp at e
  | a :: _, [], h, j, _, _, e, e' => by simp at e'
theorem PV.deeps_get : ∀ {a : List PV} {j : Nat} {x : PV}, a[j]? = some x → PV.deep x ≤ PV.deeps a
  | y :: a, 0, x, e => by simp at e; subst e; simp only [PV.deeps]; omega
  | y :: a, j + 1, x, e => by
    have := PV.deeps_get (a := a) (j := j) (x := x) (by simpa using e)
    simp only [PV.deeps]; omega
  | [], j, x, e => by simp at e

theorem cLine_eq : cLine = 9900 := rfl

theorem eqAt_rep {s : Shared} {P P' : Addr → Prop} : ∀ (k : Nat) (d d' : PV) (v v' : Value) (A : Around), PV.deep d ≤ k → PV.kin d d' = true → A.units + k < cLine → Rep s.heap P d v → Rep s.heap P' d' v' →
    EqAt A s v v' (PV.eqv d d') ∧ RcAt A s v v' (PV.eqv d d') ∧ RcNeAt A s v v' (!PV.eqv d d') := by
  intro k
  induction k with
  | zero =>
    intro d d' v v' A hk hkin hu r r'
    cases d with
    | none =>
      cases d' <;> simp [PV.kin] at hkin
      simp only [Rep] at r r'; subst r r'
      exact ⟨EqAt.same _, RcAt.none_none, RcNeAt.none_none⟩
    | bool a =>
      cases d' <;> simp [PV.kin] at hkin
      simp only [Rep] at r r'; subst r r'
      exact ⟨EqAt.bool_bool _ _, RcAt.bool_bool _ _, RcNeAt.bool_bool _ _⟩
    | int a =>
      cases d' <;> simp [PV.kin] at hkin
      simp only [Rep] at r r'; obtain ⟨t, rfl⟩ := r; obtain ⟨t', rfl⟩ := r'
      exact ⟨EqAt.int_int _ _ _ _, RcAt.int_int _ _ _ _, RcNeAt.int_int _ _ _ _⟩
    | str a =>
      cases d' <;> simp [PV.kin] at hkin
      simp only [Rep] at r r'; obtain ⟨⟨t, rfl⟩, _⟩ := r; obtain ⟨⟨t', rfl⟩, _⟩ := r'
      exact ⟨EqAt.str_str _ _ _ _, RcAt.str_str _ _ _ _, RcNeAt.str_str _ _ _ _⟩
    | list a => simp [PV.deep] at hk
    | tuple a => simp [PV.deep] at hk
    | range a b c => cases d' <;> simp [PV.kin] at hkin
    | raw a v => cases d' <;> simp [PV.kin] at hkin
    | obj a v => cases d' <;> simp [PV.kin] at hkin
  | succ k ih =>
    intro d d' v v' A hk hkin hu r r'
    have items : ∀ (ds ds' : List PV) (vs vs' : Array Value), PV.deeps ds ≤ k → PV.kins ds ds' = true → RepAll s.heap P ds vs.toList → RepAll s.heap P' ds' vs'.toList →
        ∀ j (h1 : j < vs.size) (h2 : j < vs'.size), EqAt A.in1 s vs[j] vs'[j] ((fun j => match ds[j]?, ds'[j]? with | some x, some y => PV.eqv x y | _, _ => false) j) := by
      intro ds ds' vs vs' hd hki ra ra' j h1 h2
      obtain ⟨x, ex, rx⟩ := ra.get' (i := j) (v := vs[j]) (by simp [h1])
      obtain ⟨y, ey, ry⟩ := ra'.get' (i := j) (v := vs'[j]) (by simp [h2])
      simp only [ex, ey]
      exact (ih x y _ _ A.in1 (Nat.le_trans (PV.deeps_get ex) hd) (PV.kins_get hki ex ey) (by show A.units + 1 + k < cLine; omega) rx ry).1
    cases d with
    | list ds =>
      cases d' with
      | list ds' =>
        simp only [Rep] at r r'
        obtain ⟨a, vs, n, rfl, hp, l, ra, z⟩ := r
        obtain ⟨a', vs', n', rfl, hp', l', ra', z'⟩ := r'
        simp only [PV.kin] at hkin
        simp only [PV.deep] at hk
        have hit := items ds ds' vs vs' (by omega) hkin ra ra'
        have n1 : vs.size = ds.length := by simpa using ra.length
        have n2 : vs'.size = ds'.length := by simpa using ra'.length
        have hrc : RcAt A s (.ref a) (.ref a') (PV.eqvs ds ds') ∧ RcNeAt A s (.ref a) (.ref a') (!PV.eqvs ds ds') := by
          by_cases hl : ds.length = ds'.length
          · rw [PV.eqvs_all hl, ← n1]
            exact ⟨RcAt.lists l.isList l'.isList (by omega) (by omega) hit, RcNeAt.lists l.isList l'.isList (by omega) (by omega) hit⟩
          · have : PV.eqvs ds ds' = false := by
              cases q : PV.eqvs ds ds' with
              | false => rfl
              | true => exact absurd (PV.eqvs_length q) hl
            rw [this]
            have hb : (vs.size != vs'.size) = true := by simp; omega
            exact ⟨RcAt.lists_lengths l.isList l'.isList hb (by omega), RcNeAt.lists_lengths l.isList l'.isList hb (by omega)⟩
        simp only [PV.eqv]
        refine ⟨?_, hrc⟩
        by_cases hq : a = a'
        · subst hq
          have := l.symm.trans l'
          cases this
          rw [RepAll.unique hkin ra ra', PV.eqvs_refl]
          exact EqAt.same _
        · exact EqAt.of_refs hq hrc.1
      | _ => simp [PV.kin] at hkin
    | tuple ds =>
      cases d' with
      | tuple ds' =>
        simp only [Rep] at r r'
        obtain ⟨a, vs, n, rfl, hp, l, ra, z⟩ := r
        obtain ⟨a', vs', n', rfl, hp', l', ra', z'⟩ := r'
        simp only [PV.kin] at hkin
        simp only [PV.deep] at hk
        have hit := items ds ds' vs vs' (by omega) hkin ra ra'
        have n1 : vs.size = ds.length := by simpa using ra.length
        have n2 : vs'.size = ds'.length := by simpa using ra'.length
        have t1 : s.heap.IsTuple a vs := ⟨_, l, rfl, n, rfl⟩
        have t2 : s.heap.IsTuple a' vs' := ⟨_, l', rfl, n', rfl⟩
        have hrc : RcAt A s (.ref a) (.ref a') (PV.eqvs ds ds') ∧ RcNeAt A s (.ref a) (.ref a') (!PV.eqvs ds ds') := by
          have e : PV.eqvs ds ds' = ((List.range (min vs.size vs'.size)).all (fun j => match ds[j]?, ds'[j]? with | some x, some y => PV.eqv x y | _, _ => false) && vs.size == vs'.size) := by
            by_cases hl : ds.length = ds'.length
            · rw [PV.eqvs_all hl, n1, n2, hl]; simp
            · have q : PV.eqvs ds ds' = false := by
                cases q : PV.eqvs ds ds' with
                | false => rfl
                | true => exact absurd (PV.eqvs_length q) hl
              have : (vs.size == vs'.size) = false := by simp; omega
              rw [q, this, Bool.and_false]
          rw [e]
          exact ⟨RcAt.tuples t1 t2 (by omega) hit, RcNeAt.tuples t1 t2 (by omega) hit⟩
        simp only [PV.eqv]
        refine ⟨?_, hrc⟩
        by_cases hq : a = a'
        · subst hq
          have := l.symm.trans l'
          cases this
          rw [RepAll.unique hkin ra ra', PV.eqvs_refl]
          exact EqAt.same _
        · exact EqAt.of_refs hq hrc.1
      | _ => simp [PV.kin] at hkin
    | none => exact ih _ _ _ _ A (by simp [PV.deep]) hkin (by omega) r r'
    | bool => exact ih _ _ _ _ A (by simp [PV.deep]) hkin (by omega) r r'
    | int => exact ih _ _ _ _ A (by simp [PV.deep]) hkin (by omega) r r'
    | str => exact ih _ _ _ _ A (by simp [PV.deep]) hkin (by omega) r r'
    | range a b c => cases d' <;> simp [PV.kin] at hkin
    | raw a v => cases d' <;> simp [PV.kin] at hkin
    | obj a v => cases d' <;> simp [PV.kin] at hkin
end Mine
end

section
open PySem PyProof.Rows
open PySem.SeqAt
namespace Mine

noncomputable abbrev Sl (x : Str) : List Nat := x.cps.toList
noncomputable abbrev mkS (l : List Nat) : Str := ⟨l.toArray⟩
theorem mkS_Sl (x : Str) : mkS (Sl x) = x := by cases x; rfl
theorem Sl_mkS (l : List Nat) : Sl (mkS l) = l := rfl
theorem Str_len (x : Str) : x.length = (Sl x).length := by cases x; simp [Str.length]
theorem Str_ext {x y : Str} (h : Sl x = Sl y) : x = y := by rw [← mkS_Sl x, ← mkS_Sl y, h]
theorem Sl_append (x y : Str) : Sl (x ++ y) = Sl x ++ Sl y := by
  show (Str.append x y).cps.toList = _
  simp [Str.append]
theorem sizeLine_is : sizeLine = 16777216 := rfl

/-! ### operators on flat data -/
inductive BinOk : Operator → PV → PV → PV → Prop
  | addI {a b} : BinOk .Add (.int a) (.int b) (.int (a + b))
  | subI {a b} : BinOk .Sub (.int a) (.int b) (.int (a - b))
  | mulI {a b} (h : IntMulOk a b) : BinOk .Mult (.int a) (.int b) (.int (a * b))
  | divI {a b} (h : b ≠ 0) (hp : Builtin.divisionGoesByPylong a b = false) : BinOk .FloorDiv (.int a) (.int b) (.int (a.fdiv b))
  | modI {a b} (h : b ≠ 0) : BinOk .Mod (.int a) (.int b) (.int (a.fmod b))
  | addS {x y} (h : x.length + y.length ≤ sizeLine) : BinOk .Add (.str x) (.str y) (.str (x ++ y))
  | mulS {x n} (h : MulOk x n) (hl : (Txt.mul x n).length ≤ sizeLine) : BinOk .Mult (.str x) (.int n) (.str (Txt.mul x n))

theorem Str_length_append (x y : Str) : (x ++ y).length = x.length + y.length := by
  rw [Str_len, Str_len, Str_len, Sl_append, List.length_append]

section
variable {c : Cx} {ρ : Env1} {b : Bool}
theorem bin_ok {op : Operator} {d₁ d₂ d : PV} (h : BinOk op d₁ d₂ d) {A : Around} {s : Shared} {P P' P'' : Addr → Prop} {v₁ v₂ : Value} {E : Value → Shared → Prop} {Q : Value → Shared → Prop}
    (r₁ : Rep s.heap P d₁ v₁) (r₂ : Rep s.heap P' d₂ v₂) (k : ∀ v s', Ext c.G s s' → Rep s'.heap P'' d v → Q v s') : wpAny c.M A (binaryOp op v₁ v₂) Q E s := by
  cases h with
  | addI =>
    simp only [Rep] at r₁ r₂; obtain ⟨t, rfl⟩ := r₁; obtain ⟨u, rfl⟩ := r₂
    exact add_int (k _ _ Ext.tok (by simp only [Rep]; exact ⟨_, rfl⟩))
  | subI =>
    simp only [Rep] at r₁ r₂; obtain ⟨t, rfl⟩ := r₁; obtain ⟨u, rfl⟩ := r₂
    exact sub_int (k _ _ Ext.tok (by simp only [Rep]; exact ⟨_, rfl⟩))
  | mulI h =>
    simp only [Rep] at r₁ r₂; obtain ⟨t, rfl⟩ := r₁; obtain ⟨u, rfl⟩ := r₂
    exact mul_int (k _ _ Ext.tok (by simp only [Rep]; exact ⟨_, rfl⟩)) h
  | divI h hp =>
    simp only [Rep] at r₁ r₂; obtain ⟨t, rfl⟩ := r₁; obtain ⟨u, rfl⟩ := r₂
    exact floordiv_int h (k _ _ Ext.tok (by simp only [Rep]; exact ⟨_, rfl⟩)) (.inl hp)
  | modI h =>
    simp only [Rep] at r₁ r₂; obtain ⟨t, rfl⟩ := r₁; obtain ⟨u, rfl⟩ := r₂
    exact mod_int' h (k _ _ Ext.tok (by simp only [Rep]; exact ⟨_, rfl⟩))
  | addS h =>
    simp only [Rep] at r₁ r₂; obtain ⟨⟨t, rfl⟩, _⟩ := r₁; obtain ⟨⟨u, rfl⟩, _⟩ := r₂
    exact add_str (fun t' tk => k _ _ Ext.tok (by simp only [Rep]; exact ⟨⟨_, rfl⟩, by rw [Str_length_append]; exact h⟩)) h
  | mulS h hl =>
    simp only [Rep] at r₁ r₂; obtain ⟨⟨t, rfl⟩, _⟩ := r₁; obtain ⟨u, rfl⟩ := r₂
    exact SB.mul h (fun t' tk => k _ _ Ext.tok (by simp only [Rep]; exact ⟨⟨_, rfl⟩, hl⟩))

theorem Ev_bin {l r : Expr} {op : Operator} {pos} {d₁ d₂ d : PV} (h₁ : Ev c ρ false l d₁) (h₂ : Ev c ρ false r d₂) (h : BinOk op d₁ d₂ d) : Ev c ρ b (.BinOp l op r pos) d := .mk fun A T s ha st =>
  wpAny_BinOp (h₁.use ha st fun v₁ s₁ e₁ st₁ r₁ => h₂.use ha st₁ fun v₂ s₂ e₂ st₂ r₂ =>
    bin_ok (c := c) h (r₁.ext st₁.wd e₂) r₂ fun v s' e r => ⟨(e₁.trans e₂).trans e, r⟩)

theorem Ev_neg {x : Expr} {pos} {i : Int} (h : Ev c ρ false x (.int i)) : Ev c ρ b (.UnaryOp .USub x pos) (.int (-i)) := .mk fun A T s ha st => by
  show wpAny _ _ (do let v ← eval x c.env; standAt pos; holding [v] (unaryOp .USub v)) _ _ _
  refine wpAny_bind (h.use ha st fun v s₁ e₁ _ r => wpAny_bind (wpAny_standAt (wpAny_holding ?_)))
  simp only [Rep] at r; obtain ⟨t, rfl⟩ := r
  exact neg_int ⟨e₁.trans Ext.tok, by simp only [Rep]; exact ⟨_, rfl⟩⟩

/-! ### comparisons -/
inductive CmpOk : CmpOp → PV → PV → Bool → Prop
  | eq {a b} (hk : PV.kin a b = true) (hd : PV.deep a ≤ 64) : CmpOk .Eq a b (PV.eqv a b)
  | ne {a b} (hk : PV.kin a b = true) (hd : PV.deep a ≤ 64) : CmpOk .NotEq a b (!PV.eqv a b)
  | lt {a b} : CmpOk .Lt (.int a) (.int b) (decide (a < b))
  | le {a b} : CmpOk .LtE (.int a) (.int b) (decide (a ≤ b))
  | gt {a b} : CmpOk .Gt (.int a) (.int b) (decide (b < a))
  | ge {a b} : CmpOk .GtE (.int a) (.int b) (decide (b ≤ a))
  | inL {a ds} (hf : a.flat = true) (hk : ∀ d ∈ ds, PV.kin d a = true ∧ PV.deep d ≤ 64) : CmpOk .In a (.list ds) (ds.any fun d => PV.eqv d a)
  | notInL {a ds} (hf : a.flat = true) (hk : ∀ d ∈ ds, PV.kin d a = true ∧ PV.deep d ≤ 64) : CmpOk .NotIn a (.list ds) (!ds.any fun d => PV.eqv d a)
  | inT {a ds} (hf : a.flat = true) (hk : ∀ d ∈ ds, PV.kin d a = true ∧ PV.deep d ≤ 64) : CmpOk .In a (.tuple ds) (ds.any fun d => PV.eqv d a)
  | notInT {a ds} (hf : a.flat = true) (hk : ∀ d ∈ ds, PV.kin d a = true ∧ PV.deep d ≤ 64) : CmpOk .NotIn a (.tuple ds) (!ds.any fun d => PV.eqv d a)
  | isNN : CmpOk .Is .none .none true
  | isNotNN : CmpOk .IsNot .none .none false
  | isO {T ds} : CmpOk .Is (.obj T ds) .none false
  | isNotO {T ds} : CmpOk .IsNot (.obj T ds) .none true

theorem AOk.line {k : Nat} {A : Around} (h : AOk k A) : A.units + 200 < cLine := by rw [cLine_eq]; have := h.units; omega

theorem any_rep {s : Shared} {P P' : Addr → Prop} {A : Around} {a : PV} {v : Value} (hu : A.units + 200 < cLine) (hf : a.flat = true) (ra : Rep s.heap P a v) :
    ∀ {ds : List PV} {vs : List Value}, RepAll s.heap P' ds vs → (∀ d ∈ ds, PV.kin d a = true ∧ PV.deep d ≤ 64) →
      ∃ e : Value → Bool, (∀ y ∈ vs, EqAt A.in1 s y v (e y)) ∧ vs.any e = ds.any fun d => PV.eqv d a := by
  intro ds vs r hk
  classical
  refine ⟨fun y => decide (∃ d ∈ ds, Rep s.heap P' d y ∧ PV.eqv d a = true), fun y hy => ?_, ?_⟩
  · obtain ⟨i, hi⟩ := List.getElem?_of_mem hy
    obtain ⟨d, hd, rd⟩ := r.get' hi
    have hm := List.mem_of_getElem? hd
    have := (eqAt_rep 64 d a y v A.in1 (hk d hm).2 (hk d hm).1 (by show A.units + 1 + 64 < _; omega) rd ra).1
    by_cases q : PV.eqv d a = true
    · rw [q] at this
      have e : decide (∃ d ∈ ds, Rep s.heap P' d y ∧ PV.eqv d a = true) = true := decide_eq_true ⟨d, hm, rd, q⟩
      show EqAt A.in1 s y v (decide (∃ d ∈ ds, Rep s.heap P' d y ∧ PV.eqv d a = true))
      rw [e]; exact this
    · have q' : PV.eqv d a = false := by simpa using q
      rw [q'] at this
      have e : decide (∃ d ∈ ds, Rep s.heap P' d y ∧ PV.eqv d a = true) = false := decide_eq_false fun ⟨d', hd', rd', q''⟩ => by
        rw [Rep.unique_flat (PV.kin_flat hf (hk d' hd').1) (PV.kin_flat hf (hk d hm).1) rd' rd] at q''; exact q q''
      show EqAt A.in1 s y v (decide (∃ d ∈ ds, Rep s.heap P' d y ∧ PV.eqv d a = true))
      rw [e]; exact this
  · rw [Bool.eq_iff_iff, List.any_eq_true, List.any_eq_true]
    constructor
    · rintro ⟨y, hy, e⟩
      obtain ⟨d, hd, _, q⟩ := of_decide_eq_true e
      exact ⟨d, hd, q⟩
    · rintro ⟨d, hd, q⟩
      obtain ⟨i, hi⟩ := List.getElem?_of_mem hd
      obtain ⟨y, hy, rd⟩ := r.get hi
      exact ⟨y, List.mem_of_getElem? hy, decide_eq_true ⟨d, hd, rd, q⟩⟩

theorem cmp_ok {op : CmpOp} {d₁ d₂ : PV} {t : Bool} (h : CmpOk op d₁ d₂ t) {A : Around} {s : Shared} {P P' : Addr → Prop} {v₁ v₂ : Value} {E : Value → Shared → Prop} {Q : Value → Shared → Prop}
    (hu : A.units + 200 < cLine) (r₁ : Rep s.heap P d₁ v₁) (r₂ : Rep s.heap P' d₂ v₂) (k : Q (.bool t) s) : wpAny c.M A (compareOp op v₁ v₂) Q E s := by
  cases h with
  | eq hk hd => exact (eqAt_rep 64 _ _ _ _ A hd hk (by omega) r₁ r₂).2.1 _ _ _ _ k
  | ne hk hd => exact (eqAt_rep 64 _ _ _ _ A hd hk (by omega) r₁ r₂).2.2 _ _ _ _ k
  | lt => simp only [Rep] at r₁ r₂; obtain ⟨t, rfl⟩ := r₁; obtain ⟨u, rfl⟩ := r₂; exact PyProof.Rows.lt_int k
  | le => simp only [Rep] at r₁ r₂; obtain ⟨t, rfl⟩ := r₁; obtain ⟨u, rfl⟩ := r₂; exact PyProof.Rows.le_int k
  | gt => simp only [Rep] at r₁ r₂; obtain ⟨t, rfl⟩ := r₁; obtain ⟨u, rfl⟩ := r₂; exact PyProof.Rows.gt_int k
  | ge => simp only [Rep] at r₁ r₂; obtain ⟨t, rfl⟩ := r₁; obtain ⟨u, rfl⟩ := r₂; exact PyProof.Rows.ge_int k
  | inL hf hk =>
    simp only [Rep] at r₂; obtain ⟨a, vs, n, rfl, _, l, ra, _⟩ := r₂
    obtain ⟨e, he, ha⟩ := any_rep (A := A) (by omega) hf r₁ ra hk
    refine in_listAt e l.isList (fun y hy => he y (Array.mem_toList_iff.mpr hy)) ?_
    rw [← Array.any_toList, ha]; exact k
  | notInL hf hk =>
    simp only [Rep] at r₂; obtain ⟨a, vs, n, rfl, _, l, ra, _⟩ := r₂
    obtain ⟨e, he, ha⟩ := any_rep (A := A) (by omega) hf r₁ ra hk
    refine notIn_listAt e l.isList (fun y hy => he y (Array.mem_toList_iff.mpr hy)) ?_
    rw [← Array.any_toList, ha]; exact k
  | inT hf hk =>
    simp only [Rep] at r₂; obtain ⟨a, vs, n, rfl, _, l, ra, _⟩ := r₂
    obtain ⟨e, he, ha⟩ := any_rep (A := A) (by omega) hf r₁ ra hk
    refine in_tupleAt e ⟨_, l, rfl, n, rfl⟩ (fun y hy => he y (Array.mem_toList_iff.mpr hy)) ?_
    rw [← Array.any_toList, ha]; exact k
  | notInT hf hk =>
    simp only [Rep] at r₂; obtain ⟨a, vs, n, rfl, _, l, ra, _⟩ := r₂
    obtain ⟨e, he, ha⟩ := any_rep (A := A) (by omega) hf r₁ ra hk
    refine notIn_tupleAt e ⟨_, l, rfl, n, rfl⟩ (fun y hy => he y (Array.mem_toList_iff.mpr hy)) ?_
    rw [← Array.any_toList, ha]; exact k
  | isNN => simp only [Rep] at r₁ r₂; subst r₁ r₂; exact wpAny_is_self rfl k
  | isNotNN => simp only [Rep] at r₁ r₂; subst r₁ r₂; exact wpAny_isNot_self rfl k
  | isO => simp only [Rep] at r₁ r₂; subst r₂; obtain ⟨a, vs, rfl, _⟩ := r₁; exact wpAny_is_other rfl (fun e => by cases e) k
  | isNotO => simp only [Rep] at r₁ r₂; subst r₂; obtain ⟨a, vs, rfl, _⟩ := r₁; exact wpAny_isNot_other rfl (fun e => by cases e) k

theorem Ev_cmp {l r : Expr} {op : CmpOp} {pos} {d₁ d₂ : PV} {t : Bool} (h₁ : Ev c ρ false l d₁) (h₂ : Ev c ρ false r d₂) (h : CmpOk op d₁ d₂ t) (hm : behindInMarks op r = false) :
    Ev c ρ b (.Compare l [op] [r] pos) (.bool t) := .mk fun A T s ha st =>
  wpAny_Compare1 (h₁.use ha st fun v₁ s₁ e₁ st₁ r₁ => h₂.use ha st₁ fun v₂ s₂ e₂ st₂ r₂ =>
    cmp_ok (c := c) h ha.line (r₁.ext st₁.wd e₂) r₂ ⟨e₁.trans e₂, by simp only [Rep]⟩) hm
theorem IsT_cmp {l r : Expr} {op : CmpOp} {pos} {d₁ d₂ : PV} {t : Bool} (h₁ : Ev c ρ false l d₁) (h₂ : Ev c ρ false r d₂) (h : CmpOk op d₁ d₂ t) (hm : behindInMarks op r = false) :
    IsT1 c ρ (.Compare l [op] [r] pos) t := .mk fun A T s ha st =>
  wpAny_isTrue_Compare1 (h₁.use ha st fun v₁ s₁ e₁ st₁ r₁ => h₂.use ha st₁ fun v₂ s₂ e₂ st₂ r₂ =>
    cmp_ok (c := c) h ha.line (r₁.ext st₁.wd e₂) r₂ (wpAny_truthy_bool ⟨e₁.trans e₂, rfl⟩)) hm

/-! ### truth -/
noncomputable def PV.truth : PV → Bool
  | .none => false
  | .bool b => b
  | .int i => i != 0
  | .str x => !(Sl x).isEmpty
  | .list ds => !ds.isEmpty
  | .tuple ds => !ds.isEmpty
  | _ => true
/-- data whose truth is served -/
noncomputable def PV.tame : PV → Bool
  | .range .. | .raw .. | .obj .. => false
  | _ => true
theorem truthy_rep {d : PV} {A : Around} {s : Shared} {P : Addr → Prop} {v : Value} {E : Value → Shared → Prop} {Q : Bool → Shared → Prop} (ht : d.tame = true) (r : Rep s.heap P d v)
    (k : ∀ s', Ext c.G s s' → Q d.truth s') : wpAny c.M A (truthy v) Q E s := by
  cases d with
  | none => simp only [Rep] at r; subst r; exact truthy_none (k s Evo.refl)
  | bool b => simp only [Rep] at r; subst r; exact wpAny_truthy_bool (k s Evo.refl)
  | int i => simp only [Rep] at r; obtain ⟨t, rfl⟩ := r; exact PyProof.Rows.truthy_int (k s Evo.refl)
  | str x =>
    simp only [Rep] at r; obtain ⟨⟨t, rfl⟩, hx⟩ := r
    refine PySem.P.truthy_str (by rw [sizeLine_is] at hx; omega) ?_
    have e : ((x.length : Int) != 0) = (PV.str x).truth := by
      simp only [PV.truth, Str_len]
      cases hh : Sl x with
      | nil => simp
      | cons => simp; omega
    rw [e]; exact k _ Ext.tok
  | list ds =>
    simp only [Rep] at r; obtain ⟨a, vs, n, rfl, _, l, ra, z⟩ := r
    have hl : vs.size = ds.length := by simpa using ra.length
    refine wpAny_truthy_list l.isList (by rw [sizeLine_is] at z; omega) ?_
    have e : (!vs.isEmpty) = (PV.list ds).truth := by
      simp only [PV.truth]
      rw [Array.isEmpty, hl]
      cases ds <;> simp
    rw [e]; exact k _ Ext.tok
  | tuple ds =>
    simp only [Rep] at r; obtain ⟨a, vs, n, rfl, _, l, ra, z⟩ := r
    have hl : vs.size = ds.length := by simpa using ra.length
    refine truthy_tuple (items := vs) ⟨_, l, rfl, n, rfl⟩ (by rw [sizeLine_is] at z; omega) ?_
    have e : (!vs.isEmpty) = (PV.tuple ds).truth := by
      simp only [PV.truth]
      rw [Array.isEmpty, hl]
      cases ds <;> simp
    rw [e]; exact k _ Ext.tok
  | range => simp [PV.tame] at ht
  | raw => simp [PV.tame] at ht
  | obj => simp [PV.tame] at ht

theorem IsT_val {e : Expr} {d : PV} (h : Ev c ρ false e d) (ht : d.tame = true) (hw : isTrue e c.env (eval e c.env) = (do let v ← eval e c.env; standAt e.pos; holding [v] (truthy v))) : IsT1 c ρ e d.truth := .mk fun A T s ha st => by
  rw [hw]
  exact wpAny_bind (h.use ha st fun v s₁ e₁ st₁ r => wpAny_bind (wpAny_standAt (wpAny_holding (truthy_rep (c := c) ht r fun s' e' => ⟨e₁.trans e', rfl⟩))))
theorem IsT_call {f as ks pos d} (ht : d.tame = true) (h : Ev c ρ false (.Call f as ks pos) d) : IsT1 c ρ (.Call f as ks pos) d.truth := IsT_val h ht rfl
theorem IsT_not {x pos t} (h : IsT1 c ρ x t) : IsT1 c ρ (.UnaryOp .Not x pos) (!t) := .mk fun A T s ha st =>
  isTrue_not (h.use ha st fun s' e _ => ⟨e, rfl⟩)
theorem IsT_and {xs : List Expr} {pos} : ∀ {ts : List Bool}, (hn : xs.length = ts.length) → (∀ (i : Nat) (x : Expr) (t : Bool), xs[i]? = some x → ts[i]? = some t → (∀ j : Nat, j < i → ts[j]? = some true) → IsT1 c ρ x t) →
    IsT1 c ρ (.BoolOp .And xs pos) (ts.all id) := by
  intro ts hn h
  refine .mk fun A T s ha st => ?_
  show wpAny _ _ (allTrue .And xs c.env) _ _ _
  induction xs generalizing ts s with
  | nil =>
    have : ts = [] := by cases ts <;> simp_all
    subst this
    exact wpAny_pure ⟨Evo.refl, rfl⟩
  | cons x xs ih =>
    cases ts with
    | nil => simp at hn
    | cons t ts =>
      show wpAny _ _ (do match BoolOp.And, ← isTrue x c.env (eval x c.env) with | .And, false => pure false | .Or, true => pure true | _, _ => allTrue .And xs c.env) _ _ _
      refine wpAny_bind ((h 0 x t rfl rfl (fun j hj => absurd hj (Nat.not_lt_zero _))).use ha st fun s' e st' => ?_)
      cases t with
      | false => exact wpAny_pure ⟨e, by simp⟩
      | true =>
        refine wpAny_mono (ih (ts := ts) (by simpa using hn) (fun i y u hy hu hj => h (i + 1) y u (by simpa using hy) (by simpa using hu) fun j q => ?_) s' st') (fun v s'' q => ⟨e.trans q.1, by simpa using q.2⟩) fun _ _ q => q
        cases j with
        | zero => rfl
        | succ j => simpa using hj j (by omega)
theorem IsT_and2 {x y : Expr} {pos} {t : Bool} {u : Bool} (hx : IsT1 c ρ x t) (hy : t = true → IsT1 c ρ y u) : IsT1 c ρ (.BoolOp .And [x, y] pos) (t && u) := by
  have := IsT_and (c := c) (ρ := ρ) (xs := [x, y]) (pos := pos) (ts := [t, u]) rfl (fun i x' t' h1 h2 h3 => by
    match i with
    | 0 => simp at h1 h2; subst h1 h2; exact hx
    | 1 => simp at h1 h2; subst h1 h2; exact hy (by simpa using h3 0 (by omega))
    | n + 2 => simp at h1)
  simpa using this
theorem IsT_or2 {x y : Expr} {pos} {t : Bool} {u : Bool} (hx : IsT1 c ρ x t) (hy : t = false → IsT1 c ρ y u) : IsT1 c ρ (.BoolOp .Or [x, y] pos) (t || u) := .mk fun A T s ha st => by
  show wpAny _ _ (do match BoolOp.Or, ← isTrue x c.env (eval x c.env) with | .And, false => pure false | .Or, true => pure true | _, _ => allTrue .Or [y] c.env) _ _ _
  refine wpAny_bind (hx.use ha st fun s' e st' => ?_)
  cases t with
  | true => exact wpAny_pure ⟨e, rfl⟩
  | false =>
    show wpAny _ _ (do match BoolOp.Or, ← isTrue y c.env (eval y c.env) with | .And, false => pure false | .Or, true => pure true | _, _ => allTrue .Or [] c.env) _ _ _
    refine wpAny_bind ((hy rfl).use ha st' fun s'' e' st'' => ?_)
    cases u with
    | true => exact wpAny_pure ⟨e.trans e', rfl⟩
    | false => exact wpAny_pure ⟨e.trans e', rfl⟩
theorem IsT_or3 {x y z : Expr} {pos} {t u w : Bool} (hx : IsT1 c ρ x t) (hy : t = false → IsT1 c ρ y u) (hz : t = false → u = false → IsT1 c ρ z w) : IsT1 c ρ (.BoolOp .Or [x, y, z] pos) (t || u || w) := .mk fun A T s ha st => by
  show wpAny _ _ (do match BoolOp.Or, ← isTrue x c.env (eval x c.env) with | .And, false => pure false | .Or, true => pure true | _, _ => allTrue .Or [y, z] c.env) _ _ _
  refine wpAny_bind (hx.use ha st fun s' e st' => ?_)
  cases t with
  | true => exact wpAny_pure ⟨e, rfl⟩
  | false => exact wpAny_mono ((IsT_or2 (pos := pos) (hy rfl) (hz rfl)).run A T s' ha st') (fun v s'' q => ⟨e.trans q.1, by simpa using q.2⟩) fun _ _ q => q

theorem Ev_ifexp {t x y : Expr} {pos} {k : Bool} {d : PV} (ht : IsT1 c ρ t k) (h₁ : k = true → Ev c ρ b x d) (h₂ : k = false → Ev c ρ b y d) : Ev c ρ b (.IfExp t x y pos) d := .mk fun A T s ha st =>
  wpAny_IfExp (ht.use ha st fun s' e st' => by
    cases k with
    | true => exact (h₁ rfl).use ha st' fun v s'' e' _ r => ⟨e.trans e', r⟩
    | false => exact (h₂ rfl).use ha st' fun v s'' e' _ r => ⟨e.trans e', r⟩)
/-- x or y, where values are asked -/
theorem Ev_orV {x y : Expr} {pos} {d₁ d₂ : PV} (ht : d₁.tame = true) (hx : Ev c ρ b x d₁) (hy : d₁.truth = false → Ev c ρ b y d₂) : Ev c ρ b (.BoolOp .Or [x, y] pos) (if d₁.truth then d₁ else d₂) := .mk fun A T s ha st => by
  show wpAny _ _ (do let v ← eval x c.env; standAt pos; let t ← holding [v] (truthy v); match BoolOp.Or, t with | .And, false | .Or, true => pure v | _, _ => boolOp pos .Or [eval y c.env]) _ _ _
  refine wpAny_bind (hx.use ha st fun v s₁ e₁ st₁ r => wpAny_bind (wpAny_standAt (wpAny_bind (wpAny_holding (truthy_rep (c := c) ht r fun s₂ e₂ => ?_)))))
  cases hz : d₁.truth with
  | true => exact wpAny_pure ⟨e₁.trans e₂, by simpa using r.ext st₁.wd e₂⟩
  | false => exact (hy hz).use ha (st₁.ext e₂) fun w s₃ e₃ _ r₃ => ⟨(e₁.trans e₂).trans e₃, by simpa using r₃⟩
theorem Ev_andV {x y : Expr} {pos} {d₁ d₂ : PV} (ht : d₁.tame = true) (hx : Ev c ρ b x d₁) (hy : d₁.truth = true → Ev c ρ b y d₂) : Ev c ρ b (.BoolOp .And [x, y] pos) (if d₁.truth then d₂ else d₁) := .mk fun A T s ha st => by
  show wpAny _ _ (do let v ← eval x c.env; standAt pos; let t ← holding [v] (truthy v); match BoolOp.And, t with | .And, false | .Or, true => pure v | _, _ => boolOp pos .And [eval y c.env]) _ _ _
  refine wpAny_bind (hx.use ha st fun v s₁ e₁ st₁ r => wpAny_bind (wpAny_standAt (wpAny_bind (wpAny_holding (truthy_rep (c := c) ht r fun s₂ e₂ => ?_)))))
  cases hz : d₁.truth with
  | false => exact wpAny_pure ⟨e₁.trans e₂, by simpa using r.ext st₁.wd e₂⟩
  | true => exact (hy hz).use ha (st₁.ext e₂) fun w s₃ e₃ _ r₃ => ⟨(e₁.trans e₂).trans e₃, by simpa using r₃⟩
end
end Mine
end

section
open PySem PyProof.Rows
open PySem.SeqAt
namespace Mine

noncomputable def noStar : Expr → Bool
  | .Starred .. => false
  | _ => true

inductive EvL (c : Cx) (ρ : Env1) (b : Bool) : List Expr → List PV → Prop
  | nil : EvL c ρ b [] []
  | cons {e es d ds} (h : Ev c ρ b e d) (hs : noStar e = true) (r : EvL c ρ b es ds) : EvL c ρ b (e :: es) (d :: ds)

section
variable {c : Cx} {ρ : Env1} {b : Bool}

theorem starEach_cons {e : Expr} {es : List Expr} {env : Env} (h : noStar e = true) : starEach (e :: es) env = (false, eval e env) :: starEach es env := by
  cases e <;> first | rfl | (simp [noStar] at h)

theorem spliced_ev {pos : Pos} {es : List Expr} {ds : List PV} (h : EvL c ρ b es ds) {A : Around} {T : Own1} {s : Shared} (ha : AOk c.rk A) (st : St c ρ T s) {E : Value → Shared → Prop}
    {Q : List Value → Shared → Prop} (k : ∀ vs s', Ext c.G s s' → St c ρ T s' → RepAll s'.heap (c.Qb T b) ds vs → Q vs s') : wpAny c.M A (spliced (backTo pos (starEach es c.env))) Q E s := by
  induction h generalizing s Q with
  | nil => exact Calls.spliced_nil (k [] s Evo.refl st RepAll.nil)
  | cons h hs r ih =>
    rw [starEach_cons hs]
    refine Calls.spliced_cons (h.use ha st fun v s₁ e₁ st₁ r₁ => ih st₁ fun vs s₂ e₂ st₂ r₂ => k _ _ (e₁.trans e₂) st₂ (.cons (r₁.ext st₁.wd e₂) r₂))

theorem EvL.length {es : List Expr} {ds : List PV} (h : EvL c ρ b es ds) : ds.length = es.length := by
  induction h with
  | nil => rfl
  | cons _ _ _ ih => simp [ih]

theorem Ev_tuple (ok : c.Ok) {es : List Expr} {ds : List PV} {k pos} (h : EvL c ρ b es ds) (hl : decide (es.length ≤ sizeLine) = true) : Ev c ρ b (.Tuple es k pos) (.tuple ds) := .mk fun A T s ha st => by
  refine wpAny_Tuple (spliced_ev h ha st fun vs s₁ e₁ st₁ r₁ => ?_)
  have hz := of_decide_eq_true hl
  refine ⟨by rw [r₁.length, h.length]; exact hz, e₁.trans Ext.push', ?_⟩
  simp only [Rep]
  exact ⟨_, vs.toArray, 0, rfl, Cx.Qb_of (st₁.newP ok get_new), IsT.new _ _, r₁.ext st₁.wd Ext.push', by rw [h.length]; exact hz⟩

theorem EvF_list (ok : c.Ok) {es : List Expr} {ds : List PV} {pos} (h : EvL c ρ true es ds) (hl : decide (es.length ≤ sizeLine) = true) : EvF c ρ (.List es pos) ds := .mk fun A T s ha st => by
  refine List_ (spliced_ev h ha st fun vs s₁ e₁ st₁ r₁ => ?_)
  have hz := of_decide_eq_true hl
  refine wpAny_newObj_type ⟨e₁.trans Ext.push', s₁.heap.objs.size, vs.toArray, 0, rfl, ?_, IsL.new _ _, ?_, by rw [h.length]; exact hz⟩ (by show vs.toArray.size ≤ sizeLine; rw [List.size_toArray, r₁.length, h.length]; exact hz)
  · cases q : s.heap.get? s₁.heap.objs.size with
    | none => rfl
    | some o =>
      exfalso
      by_cases tb : c.G.Tb s₁.heap.objs.size
      · obtain ⟨o', q', _⟩ := st₁.wd.tb _ tb
        rw [get_new] at q'; cases q'
      · have := e₁.keep _ o q tb (fun h => h)
        rw [get_new] at this; cases this
  · refine RepAll.mono (fun a o e _ p => ⟨⟨Cx.Q_iff.mpr p, fun q => ?_⟩, Heap.get?_push_of_some _ e⟩) _ _ r₁
    rw [q, get_new] at e; cases e

/-! ### slices -/
noncomputable def clip (o : Option Int) (dflt n : Nat) : Nat := match o with
  | none => dflt
  | some i => if i < 0 then (i + n).toNat else min i.toNat n
noncomputable def lsl {α : Type} (l : List α) (lo hi : Option Int) : List α := (l.drop (clip lo 0 l.length)).take (clip hi l.length l.length - clip lo 0 l.length)
noncomputable def ssl (x : Str) (lo hi : Option Int) : Str := mkS (lsl (Sl x) lo hi)
theorem clip_le {o : Option Int} {d n : Nat} (h : d ≤ n) : clip o d n ≤ n := by
  unfold clip
  cases o with
  | none => exact h
  | some i => dsimp only; split <;> omega

theorem clip_bounds (lo hi : Option Int) (n : Nat) : sliceBounds lo hi none n = (((clip lo 0 n : Nat) : Int), ((clip hi n n : Nat) : Int), (1 : Int)) := by
  have one : ∀ (o : Option Int) (d : Nat), (match o with | none => (d : Int) | some i => max 0 (min (if i < 0 then i + n else i) n)) = ((clip o d n : Nat) : Int) := by
    intro o d
    unfold clip
    cases o with
    | none => rfl
    | some i => dsimp only; split <;> omega
  have h1 := one lo 0
  have h2 := one hi n
  unfold sliceBounds
  simp only [Option.getD_none, show ((1 : Int) > 0) = True from by simp, if_true]
  rw [← h1, ← h2]
  cases lo <;> cases hi <;> rfl

theorem slicePick_toList (items : Array Value) (lo hi : Option Int) : (slicePick items lo hi none).toList = lsl items.toList lo hi := by
  unfold slicePick
  rw [clip_bounds]
  simp only [sliceRange_one, pick_run, lsl, Array.length_toList]

theorem slice_idx (lo hi : Option Int) (n : Nat) : Builtin.Str.strSliceIndices lo hi 1 n = (List.range (clip hi n n - clip lo 0 n)).map (clip lo 0 n + ·) := by
  have := clip_bounds lo hi n
  rw [← sliceRange_one]
  unfold Builtin.Str.strSliceIndices
  unfold sliceBounds at this
  simp only [Option.getD_none] at this
  injection this with h1 h2
  injection h2 with h2 _
  simp only [show ((1 : Int) > 0) = True from by simp, if_true] at h1 h2 ⊢
  have key : ∀ {a a' b b' : Int}, a = a' → b = b' → sliceRange a b 1 = sliceRange a' b' 1 := by rintro _ _ _ _ rfl rfl; rfl
  exact key h1 h2

theorem txt_slice (x : Str) (lo hi : Option Int) : Txt.slice x lo hi = ssl x lo hi := by
  unfold Txt.slice ssl
  rw [slice_idx, pick_run]
  have h0 : clip lo 0 x.length ≤ x.length := clip_le (by omega)
  have h1 : clip hi x.length x.length ≤ x.length := clip_le (Nat.le_refl _)
  split
  · rename_i h
    simp only [List.length_map, List.length_range, Bool.and_eq_true, beq_iff_eq] at h
    apply Str_ext
    show Sl x = lsl (Sl x) lo hi
    unfold lsl
    rw [← Str_len, List.take_of_length_le (by rw [List.length_drop, ← Str_len]; omega)]
    by_cases hz : clip lo 0 x.length = 0
    · rw [hz]; rfl
    · have : Sl x = [] := List.length_eq_zero_iff.mp (by rw [← Str_len]; omega)
      rw [this]; simp
  · show (⟨_⟩ : Str) = mkS _
    unfold lsl
    rw [← Str_len]

theorem lsl_length {α : Type} (l : List α) (lo hi : Option Int) : (lsl l lo hi).length ≤ l.length := by
  unfold lsl; simp; omega
theorem ssl_length (x : Str) (lo hi : Option Int) : (ssl x lo hi).length ≤ x.length := by
  rw [Str_len, Str_len]; exact lsl_length _ _ _

/-- an optional bound of a slice -/
inductive EvO (c : Cx) (ρ : Env1) : Option Expr → Option Int → Prop
  | no : EvO c ρ none none
  | yes {e i} (h : Ev c ρ false e (.int i)) : EvO c ρ (some e) (some i)

theorem EvO.use {oe : Option Expr} {oi : Option Int} (h : EvO c ρ oe oi) {A : Around} {T : Own1} {s : Shared} (ha : AOk c.rk A) (st : St c ρ T s) {E : Value → Shared → Prop}
    {Q : Value → Shared → Prop} (k : ∀ p : Option (Int × Tok), p.map (·.1) = oi → ∀ s', Ext c.G s s' → St c ρ T s' → Q (partValue p) s') : wpAny c.M A (valueOrNone (evalOpt oe c.env)) Q E s := by
  cases h with
  | no => exact wpAny_pure (k none rfl s Evo.refl st)
  | yes h =>
    show wpAny _ _ (eval _ _) _ _ _
    refine h.use ha st fun v s' e st' r => ?_
    simp only [Rep] at r; obtain ⟨t, rfl⟩ := r
    exact k (some (_, t)) rfl s' e st'

theorem slice_use {lo hi : Option Expr} {li hj : Option Int} {p : Pos} (h₁ : EvO c ρ lo li) (h₂ : EvO c ρ hi hj) {A : Around} {T : Own1} {s : Shared} (ha : AOk c.rk A) (st : St c ρ T s) {E : Value → Shared → Prop}
    {Q : Value → Shared → Prop} (k : ∀ pl pu : Option (Int × Tok), pl.map (·.1) = li → pu.map (·.1) = hj → ∀ s', Ext c.G s s' → St c ρ T s' →
      s'.heap.get? (s'.heap.objs.size - 1) = some { cls := .type "slice", data := .fields #[partValue pl, partValue pu, .none] } → Q (.ref (s'.heap.objs.size - 1)) s') : wpAny c.M A (eval (.Slice lo hi none p) c.env) Q E s := by
  show wpAny _ _ (do
    let l ← valueOrNone (evalOpt lo c.env)
    let u ← holding [l] (valueOrNone (evalOpt hi c.env))
    let st ← holding [l, u] (valueOrNone none)
    newFields "slice" [l, u, st]) _ _ _
  refine wpAny_bind (h₁.use ha st fun pl el s₁ e₁ st₁ => wpAny_bind (wpAny_holding (h₂.use ha st₁ fun pu eu s₂ e₂ st₂ => wpAny_bind (wpAny_holding (wpAny_pure ?_)))))
  refine wpAny_newObj_type (T := "slice") (data := .fields #[partValue pl, partValue pu, .none]) ?_ (by show 3 ≤ sizeLine + 2; rw [sizeLine_is]; omega)
  have e3 : Ext c.G s₂ { s₂ with heap := s₂.heap.push { cls := .type "slice", data := .fields #[partValue pl, partValue pu, .none] } } := Ext.push'
  have hs : ({ s₂ with heap := s₂.heap.push { cls := .type "slice", data := .fields #[partValue pl, partValue pu, .none] } } : Shared).heap.objs.size - 1 = s₂.heap.objs.size := by simp
  have := k pl pu el eu _ ((e₁.trans e₂).trans e3) (st₂.ext e3) (by rw [hs]; exact Heap.get?_push_size _ rfl)
  rw [hs] at this
  exact this

theorem Subs_ {value slice : Expr} {pos : Pos} {A : Around} {s : Shared} {E : Value → Shared → Prop} {Q : Value → Shared → Prop}
    (h : wpAny c.M A (eval value c.env) (fun o s₁ => wpAny c.M A (eval slice c.env) (fun i s₂ => wpAny c.M A (subscriptTail value slice o i) Q E s₂) E s₁) E s) :
    wpAny c.M A (eval (.Subscript value slice pos) c.env) Q E s := Subscript_ h

/-- text[lo:hi] -/
theorem Ev_ssl {e : Expr} {lo hi : Option Expr} {li hj : Option Int} {p pos : Pos} {x : Str} (h : Ev c ρ false e (.str x)) (h₁ : EvO c ρ lo li) (h₂ : EvO c ρ hi hj) :
    Ev c ρ b (.Subscript e (.Slice lo hi none p) pos) (.str (ssl x li hj)) := .mk fun A T s ha st => by
  refine Subs_ (h.use ha st fun v s₁ e₁ st₁ r => slice_use h₁ h₂ ha st₁ fun pl pu el eu s₂ e₂ st₂ hsl => ?_)
  simp only [Rep] at r; obtain ⟨⟨t, rfl⟩, hx⟩ := r
  refine tail_any (T := "str") (typeIs_str _ x t) F.slot_str_getitem.lookup ?_ rfl
  refine wpAny_getItem_str_slice (l := pl) (u := pu) (st := none) ⟨_, hsl, rfl, rfl⟩ rfl ?_
  have hz : (ssl x li hj).length ≤ sizeLine := Nat.le_trans (ssl_length _ _ _) hx
  have hr : ∀ t, Rep s₂.heap (c.Qb T b) (.str (ssl x li hj)) (.str (ssl x li hj) t) := fun t => by simp only [Rep]; exact ⟨⟨t, rfl⟩, hz⟩
  have ts := txt_slice x li hj
  unfold Txt.slice at ts
  unfold sliceMade slicePicked
  simp only [Option.map_none, Option.getD_none, el, eu]
  split
  · rename_i hh
    rw [if_pos hh] at ts
    show Ext _ _ _ ∧ Rep _ _ _ (.str x t)
    refine ⟨e₁.trans e₂, ?_⟩
    have := hr t
    rwa [← ts] at this ⊢
  · rename_i hh
    rw [if_neg hh] at ts
    rw [ts]
    exact ⟨hz, (e₁.trans e₂).trans Ext.tok, hr _⟩

theorem RepAll.lsl {h : Heap} {P : Addr → Prop} {ds : List PV} {vs : List Value} (r : RepAll h P ds vs) (lo hi : Option Int) : RepAll h P (lsl ds lo hi) (Mine.lsl vs lo hi) := by
  unfold Mine.lsl
  rw [r.length]
  exact (r.drop _).take _

/-- list[lo:hi] -/
theorem EvF_lsl (ok : c.Ok) {e : Expr} {lo hi : Option Expr} {li hj : Option Int} {p pos : Pos} {ds : List PV} (h : EvS c ρ e ds) (h₁ : EvO c ρ lo li) (h₂ : EvO c ρ hi hj) :
    EvF c ρ (.Subscript e (.Slice lo hi none p) pos) (lsl ds li hj) := .mk fun A T s ha st => by
  refine Subs_ (h.use ha st fun a vs n s₁ e₁ st₁ l r z => slice_use h₁ h₂ ha st₁ fun pl pu el eu s₂ e₂ st₂ hsl => ?_)
  have l₂ : IsL s₂.heap a vs n := st₁.wd.list_keep e₂ (fun h => h) l
  have r₂ := r.ext st₁.wd e₂
  refine tail_any (T := "list") l₂.isList.typeIs F.slot_list_getitem.lookup ?_ rfl
  have hp : ∀ {q : Option (Int × Tok)} {i : Option Int}, q.map (·.1) = i → IsPart (partValue q) i := by
    rintro q i rfl
    cases q with
    | none => exact .none
    | some q => exact .int _ _
  have hsz : vs.size ≤ sizeLine := by have := r.length; simp at this; omega
  refine wpAny_getItem_list_slice l₂.isList (vl := partValue pl) (vu := partValue pu) (vs := .none) (lo := li) (hi := hj) (st := none) ⟨_, hsl, rfl, rfl⟩ (hp el) (hp eu) .none (by simp) ?_ hsz
  refine ⟨(e₁.trans e₂).trans Ext.push', s₂.heap.objs.size, slicePick vs li hj none, 0, rfl, ?_, IsL.new _ _, ?_, Nat.le_trans (lsl_length _ _ _) z⟩
  · cases q : s.heap.get? s₂.heap.objs.size with
    | none => rfl
    | some o =>
      exfalso
      by_cases tb : c.G.Tb s₂.heap.objs.size
      · obtain ⟨o', q', _⟩ := st₂.wd.tb _ tb
        rw [get_new] at q'; cases q'
      · have := (e₁.trans e₂).keep _ o q tb (fun h => h)
        rw [get_new] at this; cases this
  · rw [slicePick_toList]
    refine RepAll.mono (fun a o e _ p => ⟨⟨p, fun q => ?_⟩, Heap.get?_push_of_some _ e⟩) _ _ (r₂.lsl li hj)
    rw [q, get_new] at e; cases e

/-! ### items -/
noncomputable def idx (i : Int) (n : Nat) : Option Nat := if i < 0 then (if 0 ≤ i + n then some (i + n).toNat else none) else if i < n then some i.toNat else none
theorem idx_is (i : Int) (n : Nat) : seqIndex? i n = idx i n := by
  unfold seqIndex? idx
  by_cases h : i < 0
  · simp only [h, if_true]
    by_cases q : 0 ≤ i + (n : Int)
    · rw [if_pos q, if_pos (by simp; omega)]
    · rw [if_neg q, if_neg (by simp; omega)]
  · simp only [h, if_false]
    by_cases q : i < (n : Int)
    · rw [if_pos q, if_pos (by simp; omega)]
    · rw [if_neg q, if_neg (by simp; omega)]
theorem idx_bound {i : Int} {n k : Nat} (h : idx i n = some k) : -(n : Int) ≤ i ∧ i < n ∧ k = (if i < 0 then i + n else i).toNat := by
  unfold idx at h
  split at h
  · rename_i q
    split at h <;> cases h
    rw [if_pos q]; omega
  · rename_i q
    split at h <;> cases h
    rw [if_neg q]; omega

theorem Ev_item {e i : Expr} {pos : Pos} {ds : List PV} {k : Int} {j : Nat} {d : PV} (h : EvS c ρ e ds) (hi : Ev c ρ false i (.int k)) (hj : idx k ds.length = some j) (hd : ds[j]? = some d)
    (hs : ∀ o iv, subscripted i false o iv = operate [o, iv] (getItem o iv)) : Ev c ρ b (.Subscript e i pos) d := .mk fun A T s ha st => by
  refine Subs_ (h.use ha st fun a vs n s₁ e₁ st₁ l r z => hi.use ha st₁ fun v s₂ e₂ st₂ ri => ?_)
  simp only [Rep] at ri; obtain ⟨t, rfl⟩ := ri
  have l₂ : IsL s₂.heap a vs n := st₁.wd.list_keep e₂ (fun h => h) l
  obtain ⟨v, hv, rv⟩ := (r.ext st₁.wd e₂).get hd
  have hb := idx_bound hj
  have hlen : vs.size = ds.length := by simpa using r.length
  rw [sizeLine_is] at z
  refine tail_any (T := "list") l₂.isList.typeIs F.slot_list_getitem.lookup ?_ (hs _ _)
  have fin : Ext c.G s s₂ ∧ Rep s₂.heap (c.Qb T b) d v := ⟨e₁.trans e₂, rv.weak fun _ q => Cx.Qb_of q⟩
  by_cases hk : k < 0
  · rw [if_pos hk] at hb
    refine wpAny_getItem_list_neg l₂.isList hk (by omega) (by omega) ?_ fin
    rw [hlen, ← Array.getElem?_toList, ← hb.2.2]; exact hv
  · rw [if_neg hk] at hb
    refine wpAny_getItem_list l₂.isList (by omega) (by omega) ?_ fin
    rw [← Array.getElem?_toList, ← hb.2.2]; exact hv

theorem Ev_itemT {e i : Expr} {pos : Pos} {ds : List PV} {k : Int} {j : Nat} {d : PV} (h : Ev c ρ b e (.tuple ds)) (hi : Ev c ρ false i (.int k)) (hj : idx k ds.length = some j) (hd : ds[j]? = some d)
    (hs : ∀ o iv, subscripted i false o iv = operate [o, iv] (getItem o iv)) : Ev c ρ b (.Subscript e i pos) d := .mk fun A T s ha st => by
  refine Subs_ (h.use ha st fun v₀ s₁ e₁ st₁ r => hi.use ha st₁ fun v s₂ e₂ st₂ ri => ?_)
  simp only [Rep] at ri; obtain ⟨t, rfl⟩ := ri
  have r₂ := r.ext st₁.wd e₂
  simp only [Rep] at r₂
  obtain ⟨a, vs, n, rfl, _, l₂, r₂, z⟩ := r₂
  obtain ⟨v, hv, rv⟩ := r₂.get hd
  have hb := idx_bound hj
  have hlen : vs.size = ds.length := by simpa using r₂.length
  rw [sizeLine_is] at z
  refine tail_any (T := "tuple") ⟨_, l₂, rfl⟩ F.slot_tuple_getitem.lookup ?_ (hs _ _)
  exact P.getItem_tuple l₂ (by omega) (by omega) (by rw [hlen, idx_is]; exact hj) (by rw [← Array.getElem?_toList]; exact hv) ⟨e₁.trans e₂, rv⟩

theorem Ev_itemS {e i : Expr} {pos : Pos} {x : Str} {k : Int} {j : Nat} {ch : Nat} (h : Ev c ρ false e (.str x)) (hi : Ev c ρ false i (.int k)) (hj : idx k x.length = some j) (hd : (Sl x)[j]? = some ch)
    (hs : ∀ o iv, subscripted i false o iv = operate [o, iv] (getItem o iv)) : Ev c ρ b (.Subscript e i pos) (.str (mkS [ch])) := .mk fun A T s ha st => by
  refine Subs_ (h.use ha st fun v₀ s₁ e₁ st₁ r => hi.use ha st₁ fun v s₂ e₂ st₂ ri => ?_)
  simp only [Rep] at ri r; obtain ⟨t, rfl⟩ := ri; obtain ⟨⟨u, rfl⟩, z⟩ := r
  have hb := idx_bound hj
  rw [sizeLine_is] at z
  refine tail_any (T := "str") (typeIs_str _ x u) F.slot_str_getitem.lookup ?_ (hs _ _)
  refine P.getItem_str (c := ch) ?_ ?_ ⟨(e₁.trans e₂).trans Ext.tok, by simp only [Rep]; exact ⟨⟨_, rfl⟩, by show (mkS [ch]).length ≤ _; rw [Str_len]; simp [sizeLine_is]⟩⟩
  · simp; omega
  · rw [idx_is, hj]; simpa using hd

/-- two lists one behind the other -/
theorem EvF_cat (ok : c.Ok) {l r : Expr} {pos} {ds es : List PV} (h₁ : EvS c ρ l ds) (h₂ : EvS c ρ r es) (hz : ds.length + es.length ≤ sizeLine) : EvF c ρ (.BinOp l .Add r pos) (ds ++ es) := .mk fun A T s ha st => by
  refine wpAny_BinOp (h₁.use ha st fun a vs n s₁ e₁ st₁ l₁ r₁ z₁ => h₂.use ha st₁ fun a' vs' n' s₂ e₂ st₂ l₂ r₂ z₂ => ?_)
  have l₁' : IsL s₂.heap a vs n := st₁.wd.list_keep e₂ (fun h => h) l₁
  have hl1 := r₁.length; have hl2 := r₂.length
  simp at hl1 hl2
  refine P.add_list l₁' l₂ ?_ (by omega)
  refine ⟨(e₁.trans e₂).trans Ext.push', s₂.heap.objs.size, vs ++ vs', 0, rfl, ?_, IsL.new _ _, ?_, by simp; exact hz⟩
  · cases q : s.heap.get? s₂.heap.objs.size with
    | none => rfl
    | some o =>
      exfalso
      by_cases tb : c.G.Tb s₂.heap.objs.size
      · obtain ⟨o', q', _⟩ := st₂.wd.tb _ tb
        rw [get_new] at q'; cases q'
      · have := (e₁.trans e₂).keep _ o q tb (fun h => h)
        rw [get_new] at this; cases this
  · rw [Array.toList_append]
    refine RepAll.mono (fun a o e _ p => ⟨⟨p, fun q => ?_⟩, Heap.get?_push_of_some _ e⟩) _ _ ((r₁.ext st₁.wd e₂).append r₂)
    rw [q, get_new] at e; cases e
end
end Mine
end

section
open PySem PyProof.Rows
open PySem.SeqAt
namespace Mine

/-- what stands in the globals and the built-ins, from the law's start on -/
structure Gl (G : Wo) (mg mb : Str → Option Value) : Prop where
  g : G.h₁.Ns mainGlobals mg
  b : G.h₁.Ns builtinsNs mb
  boot : ∀ x : Str, x ≠ "__name__" → mb x = bootBuiltins x
  nolimit : G.h₁.NoLimit
  tb : ∀ b o, G.h₁.get? b = some o → ¬ Obj.codeLike o → ¬ G.Tb b

theorem Gl.ns {G : Wo} {mg mb} (g : Gl G mg mb) {s : Shared} (w : Wd G s) {a : Addr} {m : Str → Option Value} (h : G.h₁.Ns a m) : s.heap.Ns a m := by
  obtain ⟨o, es, ep, ho, hd, r⟩ := h
  exact ⟨o, es, ep, w.old _ _ ho (g.tb _ _ ho (not_codeLike_dict hd)), hd, r⟩
theorem Gl.noLimit {G : Wo} {mg mb} (g : Gl G mg mb) {s : Shared} (w : Wd G s) : s.heap.NoLimit := let ⟨mc, h, e⟩ := g.nolimit; ⟨mc, g.ns w h, e⟩

section
variable {c : Cx} {ρ : Env1} {b : Bool} {mg mb : Str → Option Value}

theorem load_global (ok : c.Ok) (g : Gl c.G mg mb) {x : Str} {pos : Pos} {v : Value} (hk : c.env.kindOf x = some .globalImplicit) (hv : mg x = some v) (hp : plainName x = true)
    {A : Around} {s : Shared} (w : Wd c.G s) {E : Value → Shared → Prop} {Q : Value → Shared → Prop} (h : Q v s) : wpAny c.M A (eval (.Name x pos) c.env) Q E s :=
  Calls.Name_function_global ok.kind hk (Calls.loadGlobal_global (by rw [ok.glob]; exact g.ns w g.g) hv h) (plainName_spec hp).2
theorem load_builtin (ok : c.Ok) (g : Gl c.G mg mb) {x : Str} {pos : Pos} {v : Value} (hk : c.env.kindOf x = some .globalImplicit) (hv : mg x = none) (hb : bootBuiltins x = some v) (hp : plainName x = true) (hn : x ≠ "__name__")
    {A : Around} {s : Shared} (w : Wd c.G s) {E : Value → Shared → Prop} {Q : Value → Shared → Prop} (h : Q v s) : wpAny c.M A (eval (.Name x pos) c.env) Q E s :=
  Calls.Name_function_global ok.kind hk (Calls.loadGlobal_builtin (by rw [ok.glob]; exact g.ns w g.g) hv (by rw [ok.blt]; exact g.ns w g.b) ((g.boot x hn).trans hb) h) (plainName_spec hp).2

/-! ### calls -/
theorem evalArgs_ev {f : Value} {pos : Pos} {es : List Expr} {ds : List PV} (h : EvL c ρ b es ds) {A : Around} {T : Own1} {s : Shared} (ha : AOk c.rk A) (st : St c ρ T s) {E : Value → Shared → Prop}
    {Q : Args → Shared → Prop} (k : ∀ vs s', Ext c.G s s' → St c ρ T s' → RepAll s'.heap (c.Qb T b) ds vs → Q ⟨vs, []⟩ s') : wpAny c.M A (evalArgs f true (backTo pos (starEach es c.env)) []) Q E s := by
  cases h with
  | nil => exact PySem.evalArgs_none (k [] s Evo.refl st RepAll.nil)
  | cons h hs r =>
    have := spliced_ev (pos := pos) (EvL.cons h hs r) ha st (E := E) k
    rw [starEach_cons hs] at this ⊢
    exact Calls.evalArgs_plain this

theorem noStars {pos : Pos} {es : List Expr} {ds : List PV} (h : EvL c ρ b es ds) : (backTo pos (starEach es c.env)).any (·.1) = false := by
  induction h with
  | nil => rfl
  | cons h hs r ih =>
    rw [starEach_cons hs]
    simp only [backTo, List.map_cons, List.any_cons, Bool.false_or]
    exact ih
theorem noStars' {pos : Pos} {es : List Expr} {ds : List PV} (h : EvL c ρ b es ds) : (backTo pos (starEach es c.env)).all (fun x => !x.1) = true := by
  have := noStars (pos := pos) h
  rw [List.any_eq_false] at this
  rw [List.all_eq_true]
  intro x hx
  simpa using this x hx

/-- a built-in (or a type) called upon data -/
structure BiOk (G : Wo) (f : Value) (ds : List PV) (d : PV) : Prop where
  run : ∀ (A : Around) (s : Shared) (P : Addr → Prop) (vs : List Value), A.handled = none → A.depth ≤ 690 → A.units + 200 < cLine → Wd G s → RepAll s.heap P ds vs →
    wpAny G.M A (call f vs) (fun v s' => Ext G s s' ∧ Rep s'.heap (fun a => P a ∨ s.heap.get? a = none) d v) (fun _ _ => False) s

theorem AOk.handledN {k : Nat} {A : Around} (h : AOk k A) : A.handled = none ∧ A.depth ≤ 690 ∧ A.units + 200 < cLine := ⟨h.handled, by have := h.depth; omega, h.line⟩

theorem eval_Call_Name {x : Str} {p pos : Pos} {es : List Expr} {env : Env} : eval (.Call (.Name x p) es [] pos) env = (do callWith pos (← eval (.Name x p) env) [] (backTo pos (starEach es env)) []) := rfl

theorem biOk_fin (ok : c.Ok) {f : Value} {ds : List PV} {d : PV} (hb : BiOk c.G f ds d) {A : Around} {T : Own1} {s s₁ : Shared} (ha : AOk c.rk A) (e₁ : Ext c.G s s₁) (st₁ : St c ρ T s₁) {vs : List Value}
    (r : RepAll s₁.heap (c.Qb T b) ds vs) : wpAny c.M A (call f vs) (fun v s' => Ext c.G s s' ∧ Rep s'.heap (c.Qb T b) d v) (fun _ _ => False) s₁ :=
  wpAny_mono (hb.run A s₁ _ vs ha.handledN.1 ha.handledN.2.1 ha.handledN.2.2 st₁.wd r) (fun v s' ⟨e, q⟩ => ⟨e₁.trans e, q.weak fun a hq => hq.elim id fun hn => Cx.Qb_of (st₁.newP ok hn)⟩) fun _ _ h => h

theorem Ev_callB (ok : c.Ok) (g : Gl c.G mg mb) {x : Str} {p pos : Pos} {es : List Expr} {id : String} {ds : List PV} {d : PV} (hk : c.env.kindOf x = some .globalImplicit) (hv : mg x = none)
    (hb : bootBuiltins x = some (.builtin id)) (hp : plainName x = true) (hn : x ≠ "__name__") (h : EvL c ρ b es ds) (hd : BiOk c.G (.builtin id) ds d) : Ev c ρ b (.Call (.Name x p) es [] pos) d := .mk fun A T s ha st => by
  rw [eval_Call_Name]
  refine wpAny_bind (load_builtin ok g hk hv hb hp hn st.wd ?_)
  refine Calls.callWith_builtin (noStars h) (evalArgs_ev h ha st fun vs s₁ e₁ st₁ r => ?_)
  exact biOk_fin ok hd ha e₁ st₁ r
theorem Ev_callT (ok : c.Ok) (g : Gl c.G mg mb) {x : Str} {p pos : Pos} {es : List Expr} {T₀ : String} {ds : List PV} {d : PV} (hk : c.env.kindOf x = some .globalImplicit) (hv : mg x = none)
    (hb : bootBuiltins x = some (.type T₀)) (hp : plainName x = true) (hn : x ≠ "__name__") (h : EvL c ρ b es ds) (hd : BiOk c.G (.type T₀) ds d) : Ev c ρ b (.Call (.Name x p) es [] pos) d := .mk fun A T s ha st => by
  rw [eval_Call_Name]
  refine wpAny_bind (load_builtin ok g hk hv hb hp hn st.wd ?_)
  refine PySem.callWith_type (noStars h) (evalArgs_ev h ha st fun vs s₁ e₁ st₁ r => ?_)
  exact biOk_fin ok hd ha e₁ st₁ r

theorem Ev.flat {e : Expr} {d : PV} (hf : d.flat = true) (h : Ev c ρ false e d) : Ev c ρ b e d := .mk fun A T s ha st =>
  h.use ha st fun v s' e' _ r => ⟨e', r.flat hf⟩

/-! ### the text's own functions: a contract -/
structure Fn (G : Wo) (k : Nat) (fa : Addr) (f : List PV → PV → Prop) : Prop where
  run : ∀ (A : Around) (s : Shared) (P : Addr → Prop) (vs : List Value) (ds : List PV) (d : PV), AOk k A → Wd G s → (∀ a, s.heap.get? a = none → P a) → RepAll s.heap P ds vs → f ds d →
    codeAny G.M A (.call (.ref fa) ⟨vs, []⟩) (fun r s' => ∃ v, r = .ok (.ret v) ∧ Ext G s s' ∧ Rep s'.heap P d v) s

theorem AOk.mono {k k' : Nat} {A : Around} (h : AOk k' A) (hk : k ≤ k') : AOk k A := ⟨h.handled, by have := h.depth; omega, by have := h.units; omega⟩

structure FnAt (G : Wo) (mg : Str → Option Value) (x : Str) (fa : Addr) : Prop where
  glob : mg x = some (.ref fa)
  obj : ∃ o fd, G.h₁.get? fa = some o ∧ o.data = .func fd

theorem not_codeLike_func {o : Obj} {f} (h : o.data = .func f) : ¬ Obj.codeLike o := fun ⟨_, _, e⟩ => by rw [h] at e; cases e

theorem Ev_callU (ok : c.Ok) (g : Gl c.G mg mb) {x : Str} {p pos : Pos} {es : List Expr} {fa : Addr} {k : Nat} {f : List PV → PV → Prop} {ds : List PV} {d : PV} (hk : c.env.kindOf x = some .globalImplicit)
    (hf : FnAt c.G mg x fa) (hp : plainName x = true) (hF : Fn c.G k fa f) (hle : k ≤ c.rk) (h : EvL c ρ b es ds) (hd : f ds d) : Ev c ρ b (.Call (.Name x p) es [] pos) d := .mk fun A T s ha st => by
  rw [eval_Call_Name]
  refine wpAny_bind (load_global ok g hk hf.glob hp st.wd ?_)
  obtain ⟨o, fd, ho, hod⟩ := hf.obj
  refine Calls.callWith_function (o := o) (fd := fd) (evalArgs_ev h ha st fun vs s₁ e₁ st₁ r => ⟨⟨st₁.wd.old _ _ ho (g.tb _ _ ho (not_codeLike_func hod)), hod⟩, ?_⟩)
  refine wpAny_call (codeAny_mono (hF.run A s₁ (c.Qb T b) vs ds d (ha.mono hle) st₁.wd (fun a hn => Cx.Qb_of (st₁.newP ok hn)) r hd) ?_)
  rintro r s' ⟨v, rfl, e, q⟩
  exact ⟨e₁.trans e, q⟩

/-! ### methods -/
theorem Ev_meth (ok : c.Ok) {o : Expr} {name : Str} {apos pos : Pos} {es : List Expr} {T₀ id : String} {d₀ : PV} {ds : List PV} {d : PV} (hbase : attributeBase o name c.env (eval o c.env) = eval o c.env)
    (hline : (apos.endLine == pos.line) = true) (pa : PlainAttrs T₀) (slot : Slot T₀ name id) (hty : typeOf (.builtin id) = pure (.type "method_descriptor")) (hlen : es.length < 30)
    (hT : ∀ (s : Shared) (P : Addr → Prop) (v : Value), Rep s.heap P d₀ v → s.TypeIs v T₀ ∧ ∀ a, v = .ref a → ∃ ob, s.heap.get? a = some ob ∧ ob.dict = none)
    (h₀ : Ev c ρ b o d₀) (h : EvL c ρ b es ds) (hd : BiOk c.G (.builtin id) (d₀ :: ds) d) : Ev c ρ b (.Call (.Attribute o name apos) es [] pos) d := .mk fun A T s ha st => by
  refine wpAny_Call_method hbase ?_ hline pa slot hty (h₀.use ha st fun v s₁ e₁ st₁ r => ⟨(hT _ _ _ r).1, (hT _ _ _ r).2, ?_⟩)
  · rw [noStars' h]
    show (true && true && decide (es.length + 0 + 0 < 30)) = true
    simpa using hlen
  · refine Calls.callWith_builtin (noStars h) (evalArgs_ev h ha st₁ fun vs s₂ e₂ st₂ r₂ => ?_)
    exact biOk_fin ok hd ha (e₁.trans e₂) st₂ (.cons (r.ext st₁.wd e₂) r₂)

theorem rep_str_type {x : Str} (s : Shared) (P : Addr → Prop) (v : Value) (r : Rep s.heap P (.str x) v) : s.TypeIs v "str" ∧ ∀ a, v = .ref a → ∃ ob, s.heap.get? a = some ob ∧ ob.dict = none := by
  simp only [Rep] at r; obtain ⟨⟨t, rfl⟩, _⟩ := r
  exact ⟨typeIs_str s x t, fun a e => by cases e⟩
end
end Mine
end

section
open PySem PyProof.Rows
open PySem.SeqAt
namespace Mine

inductive PF where
  | next | brk | cont
  | ret (d : PV)

noncomputable def FlOk (s : Shared) (P : Addr → Prop) : Flow → PF → Prop
  | .next, .next => True
  | .brk, .brk => True
  | .cont, .cont => True
  | .ret v, .ret d => Rep s.heap P d v
  | _, _ => False

structure TGrow (s : Shared) (T T' : Own1) : Prop where
  sub : ∀ p ∈ T, p ∈ T'
  new : ∀ p ∈ T', p ∈ T ∨ s.heap.get? p.2 = none
theorem TGrow.refl {s : Shared} {T : Own1} : TGrow s T T := ⟨fun _ h => h, fun _ h => .inl h⟩

/-- the frame's own dict and cells -/
noncomputable def Cx.Xs (c : Cx) : Addr → Prop := fun a => a = c.L ∨ a ∈ c.mc
theorem Cx.Xs_X {c : Cx} {T : Own1} {b : Addr} (h : c.Xs b) : c.X T b := h.elim .inl fun h => .inr (.inl h)
theorem Cx.Q_notX {c : Cx} {T : Own1} {b : Addr} (h : c.Q T b) : ¬ c.X T b := by
  rintro (e | e | ⟨p, hp, e⟩)
  · exact h.1.2.1 e
  · exact h.1.2.2.1 e
  · exact h.2 p hp e

/-- what is dead was dead -/
theorem dead_back {c : Cx} {ρ : Env1} {T T' : Own1} {s s' : Shared} (w : Wd c.G s) (x : St c ρ T' s') (e : Evo c.G (c.X T) s s') (sub : ∀ p ∈ T, p ∈ T') {a : Addr} (h : s'.heap.get? a = none) : s.heap.get? a = none := by
  cases q : s.heap.get? a with
  | none => rfl
  | some o =>
    exfalso
    by_cases tb : c.G.Tb a
    · obtain ⟨o', q', _⟩ := x.wd.tb a tb
      rw [h] at q'; cases q'
    by_cases hX : c.X T a
    · rcases hX with e | e | ⟨p, hp, e⟩
      · obtain ⟨m, o, _, _, hL, _⟩ := x.ns
        rw [← e, h] at hL; cases hL
      · obtain ⟨v, o, hc, _⟩ := x.mcs a e
        rw [h] at hc; cases hc
      · obtain ⟨_, vs, n, l⟩ := x.own p (sub p hp)
        have l' : s'.heap.get? p.2 = _ := l
        rw [← e, h] at l'; cases l'
    · rw [e.keep a o q tb hX] at h; cases h

theorem Evo.transT {c : Cx} {T T' : Own1} {s s' s'' : Shared} (e : Evo c.G (c.X T) s s') (g : TGrow s T T') (e' : Evo c.G (c.X T') s' s'') : Evo c.G (c.X T) s s'' := by
  refine ⟨fun b o h t n => e'.keep b o (e.keep b o h t n) t ?_, fun w => e'.wd (e.wd w)⟩
  rintro (q | q | ⟨p, hp, q⟩)
  · exact n (.inl q)
  · exact n (.inr (.inl q))
  · rcases g.new p hp with hp | hn
    · exact n (.inr (.inr ⟨p, hp, q⟩))
    · rw [← q, h] at hn; cases hn
theorem TGrow.trans {c : Cx} {ρ : Env1} {T T' T'' : Own1} {s s' : Shared} (w : Wd c.G s) (x : St c ρ T' s') (e : Evo c.G (c.X T) s s') (g : TGrow s T T') (g' : TGrow s' T' T'') : TGrow s T T'' :=
  ⟨fun p h => g'.sub p (g.sub p h), fun p h => (g'.new p h).elim (fun h => g.new p h) fun h => .inr (dead_back w x e g.sub h)⟩

structure Ex (c : Cx) (ρ : Env1) (ss : List Stmt) (Q : PF → Env1 → Prop) : Prop where
  run : ∀ (A : Around) (T : Own1) (s : Shared), AOk c.rk A → St c ρ T s →
    wpAny c.M A (execs ss c.env) (fun fl s' => ∃ ρ' T' pf, St c ρ' T' s' ∧ Evo c.G (c.X T) s s' ∧ TGrow s T T' ∧ FlOk s' c.P fl pf ∧ Q pf ρ') (fun _ _ => False) s
structure Ex1 (c : Cx) (ρ : Env1) (st : Stmt) (Q : PF → Env1 → Prop) : Prop where
  run : ∀ (A : Around) (T : Own1) (s : Shared), AOk c.rk A → St c ρ T s →
    wpAny c.M A (exec st c.env) (fun fl s' => ∃ ρ' T' pf, St c ρ' T' s' ∧ Evo c.G (c.X T) s s' ∧ TGrow s T T' ∧ FlOk s' c.P fl pf ∧ Q pf ρ') (fun _ _ => False) s

section
variable {c : Cx} {ρ : Env1} {Q : PF → Env1 → Prop}

theorem Ex.sub {ρ' : Env1} {ss} (h : Ex c ρ ss Q) (hs : SubEnv ρ ρ') : Ex c ρ' ss Q := .mk fun A T s ha st => h.run A T s ha (st.sub hs)
theorem Ex.mono {ss} {Q' : PF → Env1 → Prop} (h : Ex c ρ ss Q) (hq : ∀ pf ρ', Q pf ρ' → Q' pf ρ') : Ex c ρ ss Q' := .mk fun A T s ha st =>
  wpAny_mono (h.run A T s ha st) (fun fl s' ⟨ρ', T', pf, h1, h2, h3, h4, h5⟩ => ⟨ρ', T', pf, h1, h2, h3, h4, hq _ _ h5⟩) fun _ _ x => x
theorem Ex1.mono {ss} {Q' : PF → Env1 → Prop} (h : Ex1 c ρ ss Q) (hq : ∀ pf ρ', Q pf ρ' → Q' pf ρ') : Ex1 c ρ ss Q' := .mk fun A T s ha st =>
  wpAny_mono (h.run A T s ha st) (fun fl s' ⟨ρ', T', pf, h1, h2, h3, h4, h5⟩ => ⟨ρ', T', pf, h1, h2, h3, h4, hq _ _ h5⟩) fun _ _ x => x

theorem Ex_nil (h : Q .next ρ) : Ex c ρ [] Q := .mk fun A T s ha st => wpAny_execs_nil ⟨ρ, T, .next, st, Evo.refl, TGrow.refl, trivial, h⟩
theorem Ex_cons {st : Stmt} {ss : List Stmt} (h : Ex1 c ρ st (fun pf ρ' => match pf with | .next => Ex c ρ' ss Q | pf => Q pf ρ')) : Ex c ρ (st :: ss) Q := .mk fun A T s ha st₀ => by
  refine wpAny_execs_cons (wpAny_mono (h.run A T s ha st₀) (fun fl s₁ ⟨ρ₁, T₁, pf, st₁, e₁, g₁, f₁, q₁⟩ => ?_) fun _ _ x => x)
  cases fl with
  | next =>
    cases pf <;> simp [FlOk] at f₁
    refine wpAny_mono (q₁.run A T₁ s₁ ha st₁) (fun fl s₂ ⟨ρ₂, T₂, pf, st₂, e₂, g₂, f₂, q₂⟩ => ?_) fun _ _ x => x
    exact ⟨ρ₂, T₂, pf, st₂, e₁.transT g₁ e₂, TGrow.trans st₀.wd st₁ e₁ g₁ g₂, f₂, q₂⟩
  | brk => cases pf <;> simp [FlOk] at f₁; exact ⟨ρ₁, T₁, .brk, st₁, e₁, g₁, trivial, q₁⟩
  | cont => cases pf <;> simp [FlOk] at f₁; exact ⟨ρ₁, T₁, .cont, st₁, e₁, g₁, trivial, q₁⟩
  | ret v => cases pf <;> simp [FlOk] at f₁; exact ⟨ρ₁, T₁, .ret _, st₁, e₁, g₁, f₁, q₁⟩

theorem Ex1_return {e : Expr} {pos} {d : PV} (h : Ev c ρ false e d) (hq : Q (.ret d) ρ) : Ex1 c ρ (.Return (some e) pos) Q := .mk fun A T s ha st =>
  wpAny_Return_some (h.use ha st fun v s' e' st' r => ⟨ρ, T, .ret d, st', e'.evo, TGrow.refl, r.weak fun a q => q.1.1, hq⟩)

theorem Ex1_if {t : Expr} {a b : List Stmt} {pos} {k : Bool} (ht : IsT1 c ρ t k) (h₁ : k = true → Ex c ρ a Q) (h₂ : k = false → Ex c ρ b Q) : Ex1 c ρ (.If t a b pos) Q := .mk fun A T s ha st =>
  wpAny_If (ht.use ha st fun s' e st' => by
    have fin : ∀ (fl : Flow) (s'' : Shared), (∃ ρ' T' pf, St c ρ' T' s'' ∧ Evo c.G (c.X T) s' s'' ∧ TGrow s' T T' ∧ FlOk s'' c.P fl pf ∧ Q pf ρ') →
        ∃ ρ' T' pf, St c ρ' T' s'' ∧ Evo c.G (c.X T) s s'' ∧ TGrow s T T' ∧ FlOk s'' c.P fl pf ∧ Q pf ρ' := fun fl s'' ⟨ρ', T', pf, h1, h2, h3, h4, h5⟩ =>
      ⟨ρ', T', pf, h1, (Ext.evo e).trans h2, TGrow.trans st.wd st' (Ext.evo e) TGrow.refl h3, h4, h5⟩
    cases k with
    | true => exact wpAny_mono ((h₁ rfl).run A T s' ha st') fin fun _ _ x => x
    | false => exact wpAny_mono ((h₂ rfl).run A T s' ha st') fin fun _ _ x => x)

/-! ### storing a name -/
theorem cells_ne {cs : List (Str × Addr)} (hp : cs.Pairwise fun x y => x.2 ≠ y.2) {x y : Str} {a b : Addr} (hx : cs.lookup x = some a) (hy : cs.lookup y = some b) (hne : x ≠ y) : a ≠ b := fun e => by
  subst e
  exact hne (name_of_addr hp (mem_of_lookup hx) (mem_of_lookup hy))

/-- the frame's dict or one of its cells has been written -/
theorem St.written (ok : c.Ok) {T : Own1} {s : Shared} (st : St c ρ T s) {u : Addr} {h' : Heap} {tk : Nat} (hu : u = c.L ∨ u ∈ c.mc) (hs : Heap.SameBut u s.heap h') :
    Evo c.G c.Xs s { s with heap := h', toks := tk } := by
  refine Evo.but (fun b o hb e => (hs.2 b hb).trans e) hu ?_ ?_
  · cases q : c.G.h₁.get? u with
    | none => rfl
    | some o =>
      obtain ⟨o', e⟩ := ok.old u o q
      rcases hu with rfl | hu
      · rw [ok.Lnew] at e; cases e
      · rw [ok.mcnew u hu] at e; cases e
  · intro o e
    rcases hu with rfl | hu
    · obtain ⟨m, o', _, _, hL, hd, _⟩ := st.ns
      rw [hL] at e; cases e
      exact not_codeLike_dict hd
    · obtain ⟨v, o', hc, hd⟩ := st.mcs u hu
      rw [hc] at e; cases e
      exact not_codeLike_cell hd

theorem St.storing (ok : c.Ok) {T : Own1} {s : Shared} (st : St c ρ T s) {x : Str} {v : Value} {A : Around} {E : Value → Shared → Prop} {R : Unit → Shared → Prop}
    (hk : c.env.kindOf x = some .local ∨ (c.env.kindOf x = some .cell ∧ c.comp = false))
    (k : ∀ s', Evo c.G c.Xs s s' → (∀ a vs n, IsL s.heap a vs n → IsL s'.heap a vs n) → (∃ m, s'.heap.Ns c.L m) → (∀ a ∈ c.mc, ∃ v, s'.heap.IsCell a v) → VarAt c s' x v →
      (∀ y w, y ≠ x → VarAt c s y w → VarAt c s' y w) → R () s') : wpAny c.M A (storeName c.env x v) R E s := by
  obtain ⟨m, hm⟩ := st.ns
  rcases hk with hk | ⟨hk, hcomp⟩
  · refine wpAny_storeName_local hk hm (fun h' hn hs => ?_) (by rw [ok.kind]; rfl)
    have e : Evo c.G c.Xs s { s with heap := h', toks := s.toks + 1 } := st.written ok (.inl rfl) hs
    obtain ⟨o, es, ep, hL, hd, hsk, hfm⟩ := hm
    have hne : ∀ {a : Addr} {o' : Obj}, s.heap.get? a = some o' → (∀ es ep, o'.data ≠ .dict es ep) → a ≠ c.L := fun {a o'} e q r => by
      subst r; rw [hL] at e; cases e; exact q _ _ hd
    have hcell : ∀ a v, s.heap.IsCell a v → h'.IsCell a v := fun a v hc => hc.sameBut hs (let ⟨o', e, q⟩ := hc; hne e (by rw [q]; nofun))
    refine k _ e (fun a vs n l => (hs.2 a (hne l nofun)).trans l) ⟨_, hn⟩ (fun a ha => let ⟨v, hc⟩ := st.mcs a ha; ⟨v, hcell a v hc⟩) (.inl ⟨hk, _, hn, by simp⟩) ?_
    intro y w hy hv
    rcases hv with ⟨hky, m', hm', hw⟩ | ⟨hky, a, ha, hc⟩
    · refine .inl ⟨hky, _, hn, ?_⟩
      obtain ⟨o', es', ep', hL', hd', _, hf'⟩ := hm'
      have : m' y = m y := by
        have e1 := hL'.symm.trans hL
        cases e1
        rw [hd'] at hd; cases hd
        rw [← hf' y, hfm y]
      simp only [hy, if_false]
      rw [← this]; exact hw
    · exact .inr ⟨hky, a, ha, hcell a _ hc⟩
  · obtain ⟨a, ha, hl⟩ := ok.cellMc x hk hcomp
    obtain ⟨v₀, hc⟩ := st.mcs a ha
    refine wpAny_storeName_cell ok.kind hk hl hc fun h' hn hs => ?_
    have e : Evo c.G c.Xs s { s with heap := h', toks := s.toks } := st.written ok (.inr ha) hs
    obtain ⟨o, ho, hd⟩ := hc
    have hne : ∀ {a' : Addr} {o' : Obj}, s.heap.get? a' = some o' → (∀ v, o'.data ≠ .cell v) → a' ≠ a := fun {a' o'} e q r => by
      subst r; rw [ho] at e; cases e; exact q _ hd
    have hns : ∀ m, s.heap.Ns c.L m → h'.Ns c.L m := fun m hm => hm.sameBut hs (let ⟨o', es, ep, e, q, _⟩ := hm; hne e (by rw [q]; nofun))
    refine k _ e (fun a' vs n l => (hs.2 a' (hne l nofun)).trans l) ⟨m, hns m hm⟩ (fun a' ha' => ?_) (.inr ⟨.inl hk, a, hl, hn⟩) ?_
    · by_cases q : a' = a
      · exact ⟨_, q ▸ hn⟩
      · obtain ⟨v, hc⟩ := st.mcs a' ha'
        exact ⟨v, hc.sameBut hs q⟩
    · intro y w hy hv
      rcases hv with ⟨hky, m', hm', hw⟩ | ⟨hky, a', ha', hc'⟩
      · exact .inl ⟨hky, m', hns m' hm', hw⟩
      · exact .inr ⟨hky, a', ha', hc'.sameBut hs (cells_ne (ok.apart hcomp) ha' hl hy)⟩

theorem lookup_cons_ne {x y : Str} {d : PV} {ρ : Env1} (h : y ≠ x) : ((x, d) :: ρ).lookup y = ρ.lookup y := by
  rw [List.lookup_cons]
  have : (y == x) = false := by simpa using h
  rw [this]
theorem lookup_cons_self {x : Str} {d : PV} {ρ : Env1} : ((x, d) :: ρ).lookup x = some d := by
  rw [List.lookup_cons, beq_self_eq_true]

theorem OwnRep.evo {T : Own1} {s s' : Shared} {x : Str} {d : PV} {v : Value} (w : Wd c.G s) (e : Evo c.G c.Xs s s') (hl : ∀ a vs n, IsL s.heap a vs n → IsL s'.heap a vs n) (r : OwnRep c T s x d v) : OwnRep c T s' x d v := by
  obtain ⟨a, ds, vs, n, e1, e2, e3, e4, e5, e6⟩ := r
  exact ⟨a, ds, vs, n, e1, e2, e3, hl _ _ _ e4, e5.evo w e (fun _ h q => Cx.Q_notX h (Cx.Xs_X q)), e6⟩

theorem St.avs_store (ok : c.Ok) {T : Own1} {s s' : Shared} (st : St c ρ T s) (e : Evo c.G c.Xs s s') : ∀ a ∈ c.av, ∃ o, s'.heap.get? a = some o ∧ ∀ vs n, o.data ≠ .seq vs n := fun a h => by
  obtain ⟨o, ho, q⟩ := st.avs a h
  refine st.wd.alive_keep e (fun hx => ?_) ho q
  exact (ok.avX a h) hx

/-- the frame behind a store of x -/
theorem St.final (ok : c.Ok) {T : Own1} {s s' : Shared} (st : St c ρ T s) {x : Str} {d : PV} {v : Value} (ho : x ∉ c.own) (e : Evo c.G c.Xs s s') (hl : ∀ a vs n, IsL s.heap a vs n → IsL s'.heap a vs n)
    (hns : ∃ m, s'.heap.Ns c.L m) (hmc : ∀ a ∈ c.mc, ∃ v, s'.heap.IsCell a v) (hx : VarAt c s' x v) (hy : ∀ y w, y ≠ x → VarAt c s y w → VarAt c s' y w) (r : Rep s'.heap (c.Q T) d v) : St c ((x, d) :: ρ) T s' := by
  refine ⟨e.wd st.wd, fun b o h t => ?_, hns, hmc, fun y d' hd => ?_, fun p hp => ?_, st.nodup, st.avs_store ok e⟩
  · refine e.keep b o (st.keep0 b o h t) t ?_
    rintro (q | q)
    · rw [q, ok.Lnew] at h; cases h
    · rw [ok.mcnew b q] at h; cases h
  · by_cases q : y = x
    · subst q
      rw [lookup_cons_self] at hd; cases hd
      exact ⟨v, hx, fun h => absurd h ho, fun _ => r⟩
    · rw [lookup_cons_ne q] at hd
      obtain ⟨w, h1, h2, h3⟩ := st.vars y d' hd
      exact ⟨w, hy y w q h1, fun h => (h2 h).evo st.wd e hl, fun h => (h3 h).evo st.wd e (fun _ h q => Cx.Q_notX h (Cx.Xs_X q))⟩
  · obtain ⟨a, vs, n, l⟩ := st.own p hp
    exact ⟨a, vs, n, hl _ _ _ l⟩

theorem Cx.Q_cons {T : Own1} {x : Str} {a : Addr} {b : Addr} (h : c.Q T b) (hn : b ≠ a) : c.Q ((x, a) :: T) b := ⟨h.1, fun p hp => by
  rcases List.mem_cons.mp hp with rfl | hp
  · exact hn
  · exact h.2 p hp⟩

theorem St.finalOwn (ok : c.Ok) {T : Own1} {s s' : Shared} (st : St c ρ T s) {x : Str} {ds : List PV} {a : Addr} {vs : Array Value} {n : Nat} (ho : x ∈ c.own) (hn : s.heap.get? a = none) (e : Evo c.G c.Xs s s')
    (hl : ∀ a vs n, IsL s.heap a vs n → IsL s'.heap a vs n) (hns : ∃ m, s'.heap.Ns c.L m) (hmc : ∀ a ∈ c.mc, ∃ v, s'.heap.IsCell a v) (hx : VarAt c s' x (.ref a)) (hy : ∀ y w, y ≠ x → VarAt c s y w → VarAt c s' y w)
    (l : IsL s'.heap a vs n) (r : RepAll s'.heap (fun x => c.Q T x ∧ x ≠ a) ds vs.toList) (hz : ds.length ≤ sizeLine) : St c ((x, .list ds) :: ρ) ((x, a) :: T) s' := by
  have hTa : ∀ p ∈ T, p.2 ≠ a := fun p hp q => by
    obtain ⟨_, vs', n', l'⟩ := st.own p hp
    have l'' : s.heap.get? p.2 = _ := l'
    rw [q, hn] at l''; cases l''
  have noA : ∀ (d : PV) (w : Value), Rep s.heap (c.Q T) d w → Rep s.heap (c.Q ((x, a) :: T)) d w := fun d w q =>
    Rep.mono (fun b o e _ p => ⟨Cx.Q_cons p (fun q => by rw [q, hn] at e; cases e), e⟩) _ _ q
  have noAs : ∀ (d : List PV) (w : List Value), RepAll s.heap (c.Q T) d w → RepAll s.heap (c.Q ((x, a) :: T)) d w := fun d w q =>
    RepAll.mono (fun b o e _ p => ⟨Cx.Q_cons p (fun q => by rw [q, hn] at e; cases e), e⟩) _ _ q
  have hX : ∀ b, c.Q ((x, a) :: T) b → ¬ c.Xs b := fun b h q => Cx.Q_notX h (Cx.Xs_X q)
  refine ⟨e.wd st.wd, fun b o h t => ?_, hns, hmc, fun y d' hd => ?_, fun p hp => ?_, ?_, st.avs_store ok e⟩
  · refine e.keep b o (st.keep0 b o h t) t ?_
    rintro (q | q)
    · rw [q, ok.Lnew] at h; cases h
    · rw [ok.mcnew b q] at h; cases h
  · by_cases q : y = x
    · subst q
      rw [lookup_cons_self] at hd; cases hd
      refine ⟨_, hx, fun h => ⟨a, ds, vs, n, rfl, rfl, ?_, l, r.weak fun b p => Cx.Q_cons p.1 p.2, hz⟩, fun h => absurd ho h⟩
      rw [List.lookup_cons, beq_self_eq_true]
    · rw [lookup_cons_ne q] at hd
      obtain ⟨w, h1, h2, h3⟩ := st.vars y d' hd
      refine ⟨w, hy y w q h1, fun h => ?_, fun h => (noA _ _ (h3 h)).evo st.wd e hX⟩
      obtain ⟨b, ds', vs', n', e1, e2, e3, e4, e5, e6⟩ := h2 h
      refine ⟨b, ds', vs', n', e1, e2, ?_, hl _ _ _ e4, (noAs _ _ e5).evo st.wd e hX, e6⟩
      rw [List.lookup_cons]
      have : (y == x) = false := by simpa using q
      rw [this]; exact e3
  · rcases List.mem_cons.mp hp with rfl | hp
    · refine ⟨?_, vs, n, l⟩
      cases q : c.h₀.get? a with
      | none => rfl
      | some o =>
        exfalso
        by_cases t : c.G.Tb a
        · obtain ⟨o', e', _⟩ := st.wd.tb a t
          rw [hn] at e'; cases e'
        · have := st.keep0 a o q t
          rw [hn] at this; cases this
    · obtain ⟨b, vs', n', l'⟩ := st.own p hp
      exact ⟨b, vs', n', hl _ _ _ l'⟩
  · exact List.pairwise_cons.mpr ⟨fun p hp q => hTa p hp q.symm, st.nodup⟩

/-- x = v -/
theorem St.store (ok : c.Ok) {T : Own1} {s : Shared} (st : St c ρ T s) {x : Str} {d : PV} {v : Value} {A : Around} {E : Value → Shared → Prop} {R : Unit → Shared → Prop}
    (hk : c.env.kindOf x = some .local ∨ (c.env.kindOf x = some .cell ∧ c.comp = false)) (ho : x ∉ c.own) (r : Rep s.heap (c.Q T) d v)
    (k : ∀ s', Evo c.G c.Xs s s' → St c ((x, d) :: ρ) T s' → R () s') : wpAny c.M A (storeName c.env x v) R E s :=
  st.storing ok hk fun s' e hl hns hmc hx hy => k s' e (st.final ok ho e hl hns hmc hx hy (r.evo st.wd e (fun _ h q => Cx.Q_notX h (Cx.Xs_X q))))

theorem VarAt.ext {T : Own1} {s s' : Shared} (st : St c ρ T s) (e : Ext c.G s s') {y : Str} {w : Value} (h : VarAt c s y w) : VarAt c s' y w := by
  rcases h with ⟨k, m, h, hm⟩ | ⟨k, b, h, hc⟩
  · exact .inl ⟨k, m, st.wd.ns_keep e (fun h => h) h, hm⟩
  · exact .inr ⟨k, b, h, st.wd.cell_keep e (fun h => h) hc⟩

/-- x = a list that this frame will change -/
theorem St.storeOwn (ok : c.Ok) {T : Own1} {s₀ s : Shared} (st₀ : St c ρ T s₀) (e₀ : Ext c.G s₀ s) {x : Str} {ds : List PV} {a : Addr} {vs : Array Value} {n : Nat} {A : Around} {E : Value → Shared → Prop} {R : Unit → Shared → Prop}
    (hk : c.env.kindOf x = some .local ∨ (c.env.kindOf x = some .cell ∧ c.comp = false)) (ho : x ∈ c.own) (hn : s₀.heap.get? a = none) (l : IsL s.heap a vs n) (r : RepAll s.heap (fun x => c.Q T x ∧ x ≠ a) ds vs.toList) (hz : ds.length ≤ sizeLine)
    (k : ∀ s', Evo c.G c.Xs s s' → St c ((x, .list ds) :: ρ) ((x, a) :: T) s' → R () s') : wpAny c.M A (storeName c.env x (.ref a)) R E s := by
  have st := st₀.ext e₀
  refine st.storing ok hk fun s' e hl hns hmc hx hy => k s' e ?_
  refine st₀.finalOwn ok ho hn ((Ext.evo e₀).trans e) (fun b vs n l => hl _ _ _ (st₀.wd.list_keep e₀ (fun h => h) l)) hns hmc hx (fun y w q h => hy y w q (VarAt.ext st₀ e₀ h)) (hl _ _ _ l) ?_ hz
  exact r.evo st.wd e (fun _ h q => Cx.Q_notX h.1 (Cx.Xs_X q))

noncomputable def storable (c : Cx) (x : Str) : Bool := c.env.kindOf x == some .local || (c.env.kindOf x == some .cell && !c.comp)
theorem storable_spec {x : Str} (h : storable c x = true) : c.env.kindOf x = some .local ∨ (c.env.kindOf x = some .cell ∧ c.comp = false) := by
  simpa [storable] using h

theorem Ex1_assign (ok : c.Ok) {x : Str} {e : Expr} {px pos : Pos} {d : PV} (h : Ev c ρ true e d) (hq : Q .next ((x, d) :: ρ)) (hk : storable c x = true) (ho : c.own.contains x = false)
    (hs : swapsWith e (some (.Name x px)) pos.line c.env = pure false) : Ex1 c ρ (.Assign [.Name x px] e pos) Q := .mk fun A T s ha st => by
  refine wpAny_Assign_Name (h.use ha st fun v s₁ e₁ st₁ r => ?_) hs
  refine st₁.store ok (storable_spec hk) (fun q => by rw [List.contains_iff_mem.mpr q] at ho; cases ho) (r.weak fun _ q => Cx.Q_iff.mpr q) fun s' e' st' => ?_
  exact ⟨_, T, .next, st', (Ext.evo e₁).trans (e'.weak fun _ => Cx.Xs_X), TGrow.refl, trivial, hq⟩
theorem Ex1_assignOwn (ok : c.Ok) {x : Str} {e : Expr} {px pos : Pos} {ds : List PV} (h : EvF c ρ e ds) (hq : Q .next ((x, .list ds) :: ρ)) (hk : storable c x = true) (ho : c.own.contains x = true)
    (hs : swapsWith e (some (.Name x px)) pos.line c.env = pure false) : Ex1 c ρ (.Assign [.Name x px] e pos) Q := .mk fun A T s ha st => by
  refine wpAny_Assign_Name (wpAny_mono (h.run A T s ha st) (fun v s₁ ⟨e₁, a, vs, n, hv, hn, l, r, z⟩ => ?_) fun _ _ x => x.elim) hs
  subst hv
  refine St.storeOwn ok st e₁ (storable_spec hk) (List.contains_iff_mem.mp ho) hn l r z fun s' e' st' => ?_
  refine ⟨_, _, .next, st', (Ext.evo e₁).trans (e'.weak fun _ => Cx.Xs_X), ⟨fun p hp => List.mem_cons_of_mem _ hp, fun p hp => ?_⟩, trivial, hq⟩
  rcases List.mem_cons.mp hp with rfl | hp
  · exact .inr hn
  · exact .inl hp
end
end Mine
end

section
open PySem PyProof.Rows
open PySem.SeqAt
namespace Mine

/-! ### what can be walked over -/
structure Itr (c : Cx) (T : Own1) (s₀ s : Shared) (it : Value) (ds : List PV) (I : Addr) (fp wr : List Addr) (Pv : Nat → Value → Prop) (StI : Nat → Heap → Prop) : Prop where
  hit : it = .ref I
  walks : ∀ A : Around, A.handled = none → Walks c.G.prog c.G.w A I fp wr ds.length Pv StI
  start : StI 0 s.heap
  ext : Ext c.G s₀ s
  hfp : ∀ b ∈ fp, ¬ c.G.Tb b ∧ ¬ c.X T b
  alive : ∀ i h, StI i h → ∀ b ∈ fp, ∃ o, h.get? b = some o
  hwr : ∀ b ∈ wr, s₀.heap.get? b = none
  plain : ∀ i h, StI i h → ∀ b ∈ wr, ∀ o, h.get? b = some o → Obj.iterLike o
  items : ∀ i v, Pv i v → ∃ d, ds[i]? = some d ∧ Rep s₀.heap (c.Q T) d v
  iwr : I ∈ wr

theorem Itr.iterAt {c : Cx} {T : Own1} {s₀ s : Shared} {it : Value} {ds : List PV} {I : Addr} {fp wr : List Addr} {Pv : Nat → Value → Prop} {StI : Nat → Heap → Prop} (x : Itr c T s₀ s it ds I fp wr Pv StI) {h : Heap} {i : Nat} (hs : StI i h) :
    ∃ o, h.get? I = some o ∧ Obj.iterLike o := by
  obtain ⟨o, ho⟩ := x.alive i _ hs I ((x.walks {} rfl).sub I x.iwr)
  exact ⟨o, ho, x.plain i _ hs I x.iwr o ho⟩
theorem Obj.iterLike.notCode {o : Obj} (h : Obj.iterLike o) : ¬ Obj.codeLike o := by
  obtain ⟨⟨T, hm, e⟩, _⟩ := h
  refine Obj.notCode_cls e fun q => ?_
  subst q
  simp at hm

noncomputable def rangeL (a b c : Int) : List PV := (List.range (Builtin.Range.rangeSize a b c).toNat).map fun (i : Nat) => PV.int (a + (i : Int) * c)

/-- d can be walked over and gives ds -/
inductive ItOk : PV → List PV → Prop
  | list {ds} : ItOk (.list ds) ds
  | tuple {ds} : ItOk (.tuple ds) ds
  | range {a b c} (h : Builtin.Range.small a b c = true) : ItOk (.range a b c) (rangeL a b c)
  | str {x} : ItOk (.str x) ((Sl x).map fun ch => .str (mkS [ch]))

section
variable {c : Cx} {ρ : Env1}
theorem newX (ok : c.Ok) {T : Own1} {s : Shared} (st : St c ρ T s) {a : Addr} (h : s.heap.get? a = none) : ¬ c.G.Tb a ∧ ¬ c.X T a :=
  ⟨fun t => (by obtain ⟨o, e, _⟩ := st.wd.tb a t; rw [h] at e; cases e), Cx.Q_notX (st.newP ok h)⟩

theorem itr_of (ok : c.Ok) {d : PV} {ds : List PV} (h : ItOk d ds) {A : Around} {T : Own1} {s : Shared} (st : St c ρ T s) {v : Value} (r : Rep s.heap (c.Q T) d v) {E : Value → Shared → Prop} {R : Value → Shared → Prop}
    (k : ∀ it s' I fp wr Pv StI, St c ρ T s' → Itr c T s s' it ds I fp wr Pv StI → R it s') : wpAny c.M A (pyIter v) R E s := by
  have hnew := newX ok st (get_new (h := s.heap))
  cases h with
  | list =>
    simp only [Rep] at r
    obtain ⟨a, vs, n, rfl, hq, l, ra, z⟩ := r
    have hne : a ≠ s.heap.objs.size := Nat.ne_of_lt (Heap.lt_size l)
    refine wpAny_pyIter_list l.isList (k _ _ s.heap.objs.size [s.heap.objs.size, a] [s.heap.objs.size] (fun i v => vs[i]? = some v) (fun i h => h.IsListIter s.heap.objs.size a i ∧ h.IsList a vs) (st.ext Ext.push') ⟨rfl, fun A' hA => ?_, ⟨⟨_, Heap.get?_push_size _ rfl, rfl, rfl⟩, l.isList.push _⟩, Ext.push', ?_, ?_, ?_, ?_, ?_, List.mem_singleton.mpr rfl⟩)
    · have := Walks.list (prog := c.G.prog) (w := c.G.w) hA s.heap.objs.size a hne vs
      rwa [show vs.size = ds.length by simpa using ra.length] at this
    · intro b hb
      simp at hb
      rcases hb with rfl | rfl
      · exact hnew
      · exact ⟨st.wd.notTb l Obj.notCode_list, Cx.Q_notX hq⟩
    · rintro i h ⟨⟨o, h1, _⟩, ⟨o', h2, _⟩⟩ b hb
      simp at hb
      rcases hb with rfl | rfl
      · exact ⟨o, h1⟩
      · exact ⟨o', h2⟩
    · intro b hb
      simp at hb; subst hb; exact get_new
    · rintro i h ⟨⟨o, h1, h2, h3⟩, _⟩ b hb o' e
      simp at hb; subst hb
      rw [h1] at e; cases e
      exact ⟨⟨_, by simp, h2⟩, _, h3⟩
    · intro i v hv
      exact ra.get' (by simpa using hv)
  | tuple =>
    simp only [Rep] at r
    obtain ⟨a, vs, n, rfl, hq, l, ra, z⟩ := r
    have lt : s.heap.IsTuple a vs := ⟨_, l, rfl, n, rfl⟩
    have hne : a ≠ s.heap.objs.size := Nat.ne_of_lt (Heap.lt_size l)
    refine wpAny_pyIter_tuple lt (k _ _ s.heap.objs.size [s.heap.objs.size, a] [s.heap.objs.size] (fun i v => vs[i]? = some v) (fun i h => h.IsTupleIter s.heap.objs.size a i ∧ h.IsTuple a vs) (st.ext Ext.push') ⟨rfl, fun A' hA => ?_, ⟨⟨_, Heap.get?_push_size _ rfl, rfl, rfl⟩, ⟨_, Heap.get?_push_of_some _ l, rfl, n, rfl⟩⟩, Ext.push', ?_, ?_, ?_, ?_, ?_, List.mem_singleton.mpr rfl⟩)
    · have := Walks.tuple (prog := c.G.prog) (w := c.G.w) hA s.heap.objs.size a hne vs
      rwa [show vs.size = ds.length by simpa using ra.length] at this
    · intro b hb
      simp at hb
      rcases hb with rfl | rfl
      · exact hnew
      · exact ⟨st.wd.notTb l Obj.notCode_tuple, Cx.Q_notX hq⟩
    · rintro i h ⟨⟨o, h1, _⟩, ⟨o', h2, _⟩⟩ b hb
      simp at hb
      rcases hb with rfl | rfl
      · exact ⟨o, h1⟩
      · exact ⟨o', h2⟩
    · intro b hb
      simp at hb; subst hb; exact get_new
    · rintro i h ⟨⟨o, h1, h2, h3⟩, _⟩ b hb o' e
      simp at hb; subst hb
      rw [h1] at e; cases e
      exact ⟨⟨_, by simp, h2⟩, _, h3⟩
    · intro i v hv
      exact ra.get' (by simpa using hv)
  | range hsm =>
    rename_i a b cc
    simp only [Rep] at r
    obtain ⟨x, t, u, w, rfl, hq, l⟩ := r
    have hn0 : 0 ≤ Builtin.Range.rangeSize a b cc := by
      unfold Builtin.Range.rangeSize
      split
      · split
        · have : 0 ≤ (b - a - 1) / cc := Int.ediv_nonneg (by omega) (by omega)
          omega
        · omega
      · split
        · have : 0 ≤ (a - b - 1) / (-cc) := Int.ediv_nonneg (by omega) (by omega)
          omega
        · omega
    have hlen : (rangeL a b cc).length = (Builtin.Range.rangeSize a b cc).toNat := by simp [rangeL]
    refine wpAny_pyIter_range l hsm (k _ _ s.heap.objs.size [s.heap.objs.size] [s.heap.objs.size] (fun i v => ∃ t, v = .int (a + i * cc) t ∧ i < (rangeL a b cc).length)
      (fun i h => IsRangeIter h s.heap.objs.size (a + (i : Nat) * cc) (((rangeL a b cc).length : Int) - (i : Nat)) cc) (st.ext Ext.push') ⟨rfl, fun A' hA => ?_, ?_, Ext.push', ?_, ?_, ?_, ?_, ?_, List.mem_singleton.mpr rfl⟩)
    · have W := Walks.range (prog := c.G.prog) (w := c.G.w) hA s.heap.objs.size a cc (rangeL a b cc).length
      exact ⟨W.sub, W.frame, fun i s' Q' E' hi hst hQ => W.item i s' Q' E' hi hst (fun v h' tk ⟨t, e⟩ => hQ v h' tk ⟨t, e, hi⟩), W.done, W.self⟩
    · show IsRangeIter _ _ _ _ _
      rw [hlen, Int.toNat_of_nonneg hn0]
      simpa using Heap.get?_push_size _ rfl
    · intro b hb
      simp at hb; subst hb; exact hnew
    · intro i h hst b hb
      simp at hb; subst hb; exact ⟨_, hst⟩
    · intro b hb
      simp at hb; subst hb; exact get_new
    · intro i h hst b hb o' e
      simp at hb; subst hb
      rw [hst] at e; cases e
      exact ⟨⟨"range_iterator", by simp, rfl⟩, _, rfl⟩
    · rintro i v ⟨t, rfl, hi⟩
      rw [hlen] at hi
      exact ⟨.int (a + i * cc), by simp [rangeL, hi], by simp only [Rep]; exact ⟨t, rfl⟩⟩
  | str =>
    rename_i x
    simp only [Rep] at r
    obtain ⟨⟨t, rfl⟩, hx⟩ := r
    have hl : x.cps.size = ((Sl x).map fun ch => PV.str (mkS [ch])).length := by simp
    have fin : ∀ (T₀ : String) (hT : T₀ ∈ ["list_iterator", "tuple_iterator", "range_iterator", "str_iterator", "str_ascii_iterator"]) (W : ∀ A' : Around, A'.handled = none → Walks c.G.prog c.G.w A' s.heap.objs.size [s.heap.objs.size] [s.heap.objs.size] x.cps.size (SignAt x) (fun i h => h.IsStrIter s.heap.objs.size T₀ x t i)),
        R (.ref s.heap.objs.size) { s with heap := s.heap.push { cls := .type T₀, data := .fields #[.str x t, .int 0 0] } } := by
      intro T₀ hT W
      refine k _ _ s.heap.objs.size [s.heap.objs.size] [s.heap.objs.size] (SignAt x) (fun i h => h.IsStrIter s.heap.objs.size T₀ x t i) (st.ext Ext.push') ⟨rfl, fun A' hA => hl ▸ W A' hA, ⟨_, Heap.get?_push_size _ rfl, rfl, rfl⟩, Ext.push', ?_, ?_, ?_, ?_, ?_, List.mem_singleton.mpr rfl⟩
      · intro b hb
        simp at hb; subst hb; exact hnew
      · rintro i h ⟨o, h1, _⟩ b hb
        simp at hb; subst hb; exact ⟨_, h1⟩
      · intro b hb
        simp at hb; subst hb; exact get_new
      · rintro i h ⟨o, h1, h2, h3⟩ b hb o' e
        simp at hb; subst hb
        rw [h1] at e; cases e
        exact ⟨⟨_, hT, h2⟩, _, h3⟩
      · rintro i v ⟨ch, u, e1, rfl⟩
        refine ⟨.str (mkS [ch]), by simp [e1], ?_⟩
        simp only [Rep]
        exact ⟨⟨u, rfl⟩, by rw [Str_len]; simp [sizeLine_is]⟩
    cases ha : x.cps.all (· < 128)
    · exact wpAny_pyIter_wide ha (fin "str_iterator" (by simp) fun A' hA => Walks.strWide hA _ x t)
    · exact wpAny_pyIter_ascii ha (fin "str_ascii_iterator" (by simp) fun A' hA => Walks.strAscii hA _ x t)

/-- between the turns of a loop -/
structure Mid (c : Cx) (X₀ : Addr → Prop) (ρ' : Env1) (T T' : Own1) (s s' : Shared) (wr : List Addr) (StI : Nat → Heap → Prop) (i : Nat) : Prop where
  st : St c ρ' T' s'
  evo : Evo c.G (fun b => X₀ b ∨ b ∈ wr) s s'
  grow : TGrow s T T'
  at_ : StI i s'.heap

variable {T T' : Own1} {s₀ s s' : Shared} {it : Value} {ds : List PV} {I : Addr} {fp wr : List Addr} {Pv : Nat → Value → Prop} {StI : Nat → Heap → Prop}

variable {X₀ : Addr → Prop}
theorem Mid.first (st : St c ρ T s) (x : Itr c T s₀ s it ds I fp wr Pv StI) : Mid c X₀ ρ T T s s wr StI 0 := ⟨st, Evo.refl, TGrow.refl, x.start⟩

theorem Mid.dead (hX₀ : ∀ b, X₀ b → c.X T b) (st₀ : St c ρ T s) (x : Itr c T s₀ s it ds I fp wr Pv StI) (hsub : ∀ b ∈ wr, b ∈ fp) {ρ' : Env1} {i : Nat} (m : Mid c X₀ ρ' T T' s s' wr StI i) {a : Addr} (h : s'.heap.get? a = none) : s.heap.get? a = none := by
  cases q : s.heap.get? a with
  | none => rfl
  | some o =>
    exfalso
    by_cases tb : c.G.Tb a
    · obtain ⟨o', q', _⟩ := m.st.wd.tb a tb
      rw [h] at q'; cases q'
    by_cases hw : a ∈ wr
    · obtain ⟨o', q'⟩ := x.alive i _ m.at_ a (hsub a hw)
      rw [h] at q'; cases q'
    by_cases hX : X₀ a
    · rcases hX₀ a hX with e | e | ⟨p, hp, e⟩
      · obtain ⟨m', o, _, _, hL, _⟩ := m.st.ns
        rw [← e, h] at hL; cases hL
      · obtain ⟨v, o, hc, _⟩ := m.st.mcs a e
        rw [h] at hc; cases hc
      · obtain ⟨_, vs, n, l⟩ := m.st.own p (m.grow.sub p hp)
        have l' : s'.heap.get? p.2 = _ := l
        rw [← e, h] at l'; cases l'
    · rw [m.evo.keep a o q tb (fun h => h.elim hX hw)] at h; cases h

/-- an item is what it was when the walk began -/
theorem Mid.item (hX₀ : ∀ b, X₀ b → c.X T b) (x : Itr c T s₀ s it ds I fp wr Pv StI) (w₀ : Wd c.G s₀) {ρ' : Env1} {i : Nat} (m : Mid c X₀ ρ' T T' s s' wr StI i) {d : PV} {v : Value} (r : Rep s₀.heap (c.Q T) d v) : Rep s'.heap (c.Q T') d v := by
  refine Rep.mono (fun b o e hc p => ?_) _ _ r
  have e1 := x.ext.keep b o e (w₀.notTbV e hc.1) (fun h => h)
  refine ⟨⟨p.1, fun q hq r => ?_⟩, m.evo.keep b o e1 ((x.ext.wd w₀).notTbV e1 hc.1) ?_⟩
  · rcases m.grow.new q hq with hq | hn
    · exact p.2 q hq r
    · rw [← r, e1] at hn; cases hn
  · rintro (q | q)
    · exact Cx.Q_notX p (hX₀ b q)
    · rw [x.hwr b q] at e; cases e

/-- the frame does something while the walk waits -/
theorem Mid.step (hX₀ : ∀ b, X₀ b → c.X T b) (st₀ : St c ρ T s) (x : Itr c T s₀ s it ds I fp wr Pv StI) {ρ' ρ'' : Env1} {T'' : Own1} {s'' : Shared} {i : Nat} {X₁ : Addr → Prop} (m : Mid c X₀ ρ' T T' s s' wr StI i) (st : St c ρ'' T'' s'') (e : Evo c.G X₁ s' s'')
    (h1 : ∀ b, X₁ b → c.X T' b) (h2 : ∀ b o, s.heap.get? b = some o → X₁ b → X₀ b) (g : TGrow s' T' T'') : Mid c X₀ ρ'' T T'' s s'' wr StI i := by
  have W := x.walks {} rfl
  have fpX : ∀ b ∈ fp, ¬ X₁ b := fun b hb q => by
    rcases h1 b q with q | q | ⟨p, hp, q⟩
    · exact (x.hfp b hb).2 (.inl q)
    · exact (x.hfp b hb).2 (.inr (.inl q))
    · rcases m.grow.new p hp with hp | hn
      · exact (x.hfp b hb).2 (.inr (.inr ⟨p, hp, q⟩))
      · obtain ⟨o, ho⟩ := x.alive 0 _ x.start b hb
        rw [← q, ho] at hn; cases hn
  refine ⟨st, ⟨fun b o h t n => ?_, fun w => e.wd (m.evo.wd w)⟩, ⟨fun p h => g.sub p (m.grow.sub p h), fun p h => ?_⟩, ?_⟩
  · exact e.keep b o (m.evo.keep b o h t n) t fun q => n (.inl (h2 b o h q))
  · rcases g.new p h with h | h
    · exact m.grow.new p h
    · exact .inr (m.dead hX₀ st₀ x W.sub h)
  · exact W.frame i _ _ m.at_ fun b hb o ho => e.keep b o ho (x.hfp b hb).1 (fpX b hb)
theorem X_old {b : Addr} {o : Obj} (g : TGrow s T T') (h : s.heap.get? b = some o) (q : c.X T' b) : c.X T b := by
  rcases q with q | q | ⟨p, hp, q⟩
  · exact .inl q
  · exact .inr (.inl q)
  · rcases g.new p hp with hp | hn
    · exact .inr (.inr ⟨p, hp, q⟩)
    · rw [← q, h] at hn; cases hn

/-- the walk takes its next step: the frame is as it was -/
theorem Mid.next (ok : c.Ok) (st₀ : St c ρ T s) (x : Itr c T s₀ s it ds I fp wr Pv StI) (w₀ : Wd c.G s₀) (hold : ∀ b o, c.h₀.get? b = some o → ¬ c.G.Tb b → s₀.heap.get? b = some o) (avW : ∀ a ∈ c.av, a ∉ wr) {ρ' : Env1} {i : Nat} (m : Mid c X₀ ρ' T T' s s' wr StI i) {h' : Heap} {tk : Nat} (hk : ∀ b o, b ∉ wr → s'.heap.get? b = some o → h'.get? b = some o) :
    St c ρ' T' { s' with heap := h', toks := tk } ∧ Evo c.G (fun b => X₀ b ∨ b ∈ wr) s { s' with heap := h', toks := tk } := by
  have hsub := (x.walks {} rfl).sub
  have ev : Evo c.G (fun b => b ∈ wr) s' { s' with heap := h', toks := tk } := by
    refine ⟨fun b o e _ n => hk b o n e, fun w => ⟨fun b o e t => hk b o (fun hb => ?_) (w.old b o e t), ?_, fun b t => ?_, w.os, w.gens⟩⟩
    · have h1 := w₀.old b o e t
      rw [x.hwr b hb] at h1; cases h1
    · refine c.G.tabKeeps _ _ w.tab fun b o e q => hk b o (fun hb => (x.plain i _ m.at_ b hb o e).notCode q) e
    · obtain ⟨o, e, q⟩ := w.tb b t
      refine ⟨o, hk b o (fun hb => ?_) e, q⟩
      obtain ⟨o', e', _⟩ := w₀.tb b t
      rw [x.hwr b hb] at e'; cases e'
  have aliveNe : ∀ b, (∃ o, s₀.heap.get? b = some o) → b ∉ wr := fun b ⟨o, e⟩ hb => by rw [x.hwr b hb] at e; cases e
  have notWr : ∀ b, b ∈ wr → b ≠ c.L ∧ b ∉ c.mc ∧ ∀ p ∈ T', b ≠ p.2 := fun b hb => by
    have hX := (x.hfp b (hsub b hb)).2
    refine ⟨fun q => hX (.inl q), fun q => hX (.inr (.inl q)), fun p hp q => ?_⟩
    rcases m.grow.new p hp with hp | hn
    · exact hX (.inr (.inr ⟨p, hp, q⟩))
    · obtain ⟨o, ho⟩ := x.alive 0 _ x.start b (hsub b hb)
      rw [← q, ho] at hn; cases hn
  have rep : ∀ (P : Addr → Prop) (d : PV) (v : Value), Rep s'.heap P d v → Rep h' P d v := fun P d v r =>
    Rep.mono (fun b o e q p => ⟨p, hk b o (fun hb => q.2 (x.plain i _ m.at_ b hb o e)) e⟩) _ _ r
  have reps : ∀ (P : Addr → Prop) (d : List PV) (v : List Value), RepAll s'.heap P d v → RepAll h' P d v := fun P d v r =>
    RepAll.mono (fun b o e q p => ⟨p, hk b o (fun hb => q.2 (x.plain i _ m.at_ b hb o e)) e⟩) _ _ r
  have lst : ∀ a vs n, IsL s'.heap a vs n → IsL h' a vs n := fun a vs n l => hk a _ (fun hb => by
    obtain ⟨_, _, e⟩ := x.plain i _ m.at_ a hb _ l
    cases e) l
  have cel : ∀ a v, s'.heap.IsCell a v → h'.IsCell a v := fun a v ⟨o, e, q⟩ => ⟨o, hk a o (fun hb => by
    obtain ⟨_, _, e'⟩ := x.plain i _ m.at_ a hb _ e
    rw [q] at e'; cases e') e, q⟩
  · refine ⟨⟨ev.wd m.st.wd, fun b o e t => hk b o (fun hb => ?_) (m.st.keep0 b o e t), ?_, fun a ha => ?_, fun y d hd => ?_, fun p hp => ?_, m.st.nodup, fun a ha => ?_⟩, ⟨fun b o e t n => hk b o (fun hb => n (.inr hb)) (m.evo.keep b o e t n), fun w => ev.wd (m.evo.wd w)⟩⟩
    · have h1 := hold b o e t
      rw [x.hwr b hb] at h1; cases h1
    · obtain ⟨mm, o, es, ep, hL, r⟩ := m.st.ns
      exact ⟨mm, o, es, ep, hk _ _ (fun hb => (notWr _ hb).1 rfl) hL, r⟩
    · obtain ⟨v, o, e, q⟩ := m.st.mcs a ha
      exact ⟨v, o, hk a o (fun hb => (notWr _ hb).2.1 ha) e, q⟩
    · obtain ⟨v, h1, h2, h3⟩ := m.st.vars y d hd
      refine ⟨v, ?_, fun q => ?_, fun q => rep _ _ _ (h3 q)⟩
      · rcases h1 with ⟨k1, mm, ⟨o, es, ep, hL, r⟩, hm⟩ | ⟨k1, a, ha, hc⟩
        · exact .inl ⟨k1, mm, ⟨o, es, ep, hk _ _ (fun hb => (notWr _ hb).1 rfl) hL, r⟩, hm⟩
        · exact .inr ⟨k1, a, ha, cel _ _ hc⟩
      · obtain ⟨a, ds, vs, n, e1, e2, e3, e4, e5, e6⟩ := h2 q
        exact ⟨a, ds, vs, n, e1, e2, e3, lst _ _ _ e4, reps _ _ _ e5, e6⟩
    · obtain ⟨a, vs, n, l⟩ := m.st.own p hp
      exact ⟨a, vs, n, lst _ _ _ l⟩
    · obtain ⟨o, ho, q⟩ := m.st.avs a ha
      exact m.st.wd.alive_keep ev (avW a ha) ho q
end
end Mine
end

section
open PySem PyProof.Rows
open PySem.SeqAt
namespace Mine

section
variable {c : Cx} {ρ : Env1} {Q : PF → Env1 → Prop}

/-- while, by a measure -/
theorem Ex1_while {t : Expr} {body : List Stmt} {pos} (Inv : Nat → Env1 → Prop) (n₀ : Nat) (h₀ : Inv n₀ ρ)
    (turn : ∀ n ρ, Inv n ρ → ∃ k, IsT1 c ρ t k ∧ (k = true → Ex c ρ body (fun pf ρ' => match pf with | .next => ∃ m, m < n ∧ Inv m ρ' | .cont => ∃ m, m < n ∧ Inv m ρ' | .brk => Q .next ρ' | .ret d => Q (.ret d) ρ')) ∧
      (k = false → Q .next ρ)) : Ex1 c ρ (.While t body [] pos) Q := .mk fun A T s ha st => by
  refine wpAny_While (codeAny_whileLoop (fun n s' => ∃ ρ' T', St c ρ' T' s' ∧ Evo c.G (c.X T) s s' ∧ TGrow s T T' ∧ Inv n ρ') ?_ n₀ ⟨ρ, T, st, Evo.refl, TGrow.refl, h₀⟩)
  rintro n s₁ ⟨ρ₁, T₁, st₁, e₁, g₁, hI⟩
  obtain ⟨k, ht, hb, hf⟩ := turn n ρ₁ hI
  refine wpAny_mono (ht.use (E := fun _ _ => False) ha st₁ fun s₂ e₂ st₂ => ?_) (fun _ _ h => h) (fun _ _ h => h.elim)
  cases k with
  | true =>
    simp only [if_true]
    refine wpAny_mono ((hb rfl).run A T₁ s₂ ha st₂) (fun fl s₃ ⟨ρ₃, T₃, pf, st₃, e₃, g₃, f₃, q₃⟩ => ?_) fun _ _ h => h.elim
    have ee := (e₁.transT g₁ (Ext.evo e₂)).transT g₁ e₃
    have gg : TGrow s T T₃ := TGrow.trans st.wd st₂ (e₁.transT g₁ (Ext.evo e₂)) g₁ g₃
    cases fl with
    | next =>
      cases pf <;> simp [FlOk] at f₃
      obtain ⟨m, hm, hI'⟩ := q₃
      exact ⟨m, hm, ρ₃, T₃, st₃, ee, gg, hI'⟩
    | cont =>
      cases pf <;> simp [FlOk] at f₃
      obtain ⟨m, hm, hI'⟩ := q₃
      exact ⟨m, hm, ρ₃, T₃, st₃, ee, gg, hI'⟩
    | brk => cases pf <;> simp [FlOk] at f₃; exact ⟨ρ₃, T₃, .next, st₃, ee, gg, trivial, q₃⟩
    | ret v => cases pf <;> simp [FlOk] at f₃; exact ⟨ρ₃, T₃, .ret _, st₃, ee, gg, f₃, q₃⟩
  | false =>
    simp only [Bool.false_eq_true, if_false]
    exact wpAny_execs_nil ⟨ρ₁, T₁, .next, st₂, e₁.transT g₁ (Ext.evo e₂), g₁, trivial, hf rfl⟩

/-! ### a loop's target -/
structure Asg (c : Cx) (t : Expr) (d : PV) (ρ ρ' : Env1) : Prop where
  run : ∀ (A : Around) (T : Own1) (s : Shared) (v : Value), AOk c.rk A → St c ρ T s → Rep s.heap (c.Q T) d v →
    wpAny c.M A (assign t c.env v) (fun _ s' => St c ρ' T s' ∧ Evo c.G c.Xs s s') (fun _ _ => False) s

theorem Asg_name (ok : c.Ok) {x : Str} {pos} {d : PV} (hk : storable c x = true) (ho : c.own.contains x = false) : Asg c (.Name x pos) d ρ ((x, d) :: ρ) := .mk fun A T s v ha st r =>
  PyProof.Rows.assign_Name (st.store ok (storable_spec hk) (fun q => by rw [List.contains_iff_mem.mpr q] at ho; cases ho) r fun s' e st' => ⟨st', e⟩)

inductive AsgL (c : Cx) : List Expr → List PV → Env1 → Env1 → Prop
  | nil {r : Env1} : AsgL c [] [] r r
  | cons {t ts d ds} {ρ₀ ρ₁ ρ₂ : Env1} (h : Asg c t d ρ₀ ρ₁) (hs : noStar t = true) (r : AsgL c ts ds ρ₁ ρ₂) : AsgL c (t :: ts) (d :: ds) ρ₀ ρ₂

theorem assignEach_cons {e : Expr} {es : List Expr} {env : Env} (h : noStar e = true) : assignEach (e :: es) env = (false, assign e env) :: assignEach es env := by
  cases e <;> first | rfl | (simp [noStar] at h)

theorem asgL_use {ts : List Expr} {ds : List PV} {ρ ρ' : Env1} (h : AsgL c ts ds ρ ρ') {A : Around} {T : Own1} {s : Shared} (ha : AOk c.rk A) (st : St c ρ T s) {vs : List Value} (r : RepAll s.heap (c.Q T) ds vs) :
    wpAny c.M A (assignInOrder ((assignEach ts c.env).map (·.2)) vs) (fun _ s' => St c ρ' T s' ∧ Evo c.G c.Xs s s') (fun _ _ => False) s := by
  induction h generalizing s vs with
  | nil => exact wpAny_pure ⟨st, Evo.refl⟩
  | cons h hs _ ih =>
    simp only [RepAll] at r
    obtain ⟨v, rest, rfl, r1, r2⟩ := r
    rw [assignEach_cons hs]
    show wpAny _ _ (do holding rest (assign _ c.env v); assignInOrder _ rest) _ _ _
    refine wpAny_bind (wpAny_holding (wpAny_mono (h.run A T s v ha st r1) (fun _ s₁ ⟨st₁, e₁⟩ => ?_) fun _ _ h => h))
    exact wpAny_mono (ih st₁ (r2.evo st.wd e₁ (fun _ h q => Cx.Q_notX h (Cx.Xs_X q)))) (fun _ s₂ ⟨st₂, e₂⟩ => ⟨st₂, e₁.trans e₂⟩) fun _ _ h => h

theorem asgL_len {ts : List Expr} {ds : List PV} {ρ ρ' : Env1} (h : AsgL c ts ds ρ ρ') : (assignEach ts c.env).length = ds.length ∧ (assignEach ts c.env).findIdx? (·.1) = none := by
  induction h with
  | nil => exact ⟨rfl, rfl⟩
  | cons h hs _ ih => rw [assignEach_cons hs]; exact ⟨by simp [ih.1], by simp [List.findIdx?_cons, ih.2]⟩

theorem ext_new {s : Shared} {h' : Heap} (he : Heap.ExtBut s.heap.objs.size s.heap h') : Ext c.G s { s with heap := h' } :=
  Ext.of (tk := s.toks) fun b o e => he b o (Nat.ne_of_lt (Heap.lt_size e)) e

theorem Asg_tuple {ts : List Expr} {k pos} {ds : List PV} {ρ ρ' : Env1} (h : AsgL c ts ds ρ ρ') : Asg c (.Tuple ts k pos) (.tuple ds) ρ ρ' := .mk fun A T s v ha st r => by
  simp only [Rep] at r
  obtain ⟨a, vs, n, rfl, hq, l, ra, z⟩ := r
  have hl := asgL_len h
  have hlen : vs.size = ds.length := by simpa using ra.length
  refine wpAny_assign_Tuple ha.handled (items := vs) ⟨_, l, rfl, n, rfl⟩ (by rw [hl.1, hlen]) hl.2 fun h' he => ?_
  have e := ext_new (c := c) he
  exact wpAny_mono (asgL_use h ha (st.ext e) (ra.ext st.wd e)) (fun _ s₂ ⟨st₂, e₂⟩ => ⟨st₂, (Ext.evo e).trans e₂⟩) fun _ _ h => h

/-! ### for -/
noncomputable def plainTarget : Expr → Bool
  | .Tuple .. => false
  | .List .. => false
  | _ => true

theorem letOwned_list {target : Expr} {A : Around} {s : Shared} {it v : Value} {R : Unit → Shared → Prop} {E : Value → Shared → Prop} (h : ∀ r, it = .ref r → ∃ o, s.heap.get? r = some o ∧ Obj.iterLike o) (hk : R () s) :
    wpAny c.M A (letOwnedTupleGo target it v) R E s := by
  unfold letOwnedTupleGo
  cases target <;> first | exact wpAny_pure hk | skip
  all_goals (
    cases it <;> first | exact wpAny_pure hk | skip
    cases v <;> first | exact wpAny_pure hk | skip
    obtain ⟨o, ho, ⟨T, hT, hc⟩, vs, hd⟩ := h _ rfl
    refine wpAny_bind (wpAny_load ho ?_)
    rw [hc, hd]
    dsimp only
    refine wpAny_ite ?_
    rw [if_neg]
    · exact wpAny_pure hk
    · simp only [Bool.and_eq_true, not_and]
      intro q
      exfalso
      simp at hT
      rcases hT with rfl | rfl | rfl | rfl | rfl <;> simp at q)

/-- the for statement's machine, nothing raised -/
theorem for_loop {R : Result → Shared → Prop} {A : Around} {target : Expr} {it : Value} {body : List Stmt} {s : Shared} (I : Nat → Shared → Prop)
    (turn : ∀ n s, I n s → wpAny c.M A (pyNext it) (fun r s₁ => match r with
      | none => R (.ok .next) s₁
      | some v => wpAny c.M A (letOwnedTupleGo target it v) (fun _ s₁' => wpAny c.M A (assign target c.env v) (fun _ s₂ => wpAny c.M A (execs body c.env) (fun f s₃ => match f with
          | .next | .cont => ∃ m, m < n ∧ I m s₃
          | .brk => R (.ok .next) s₃
          | .ret v => R (.ok (.ret v)) s₃) (fun _ _ => False) s₂) (fun _ _ => False) s₁') (fun _ _ => False) s₁) (fun _ _ => False) s)
    (n : Nat) (h : I n s) : codeAny c.M A (.forLoop target it body [] c.env) R s := by
  refine codeAny_loop' rfl I (fun n s hI => ?_) n h
  show wpAny _ _ ((forTurn target it body [] c.env).onRaise (fun x => do noteFrame x c.env; theTreesLotGoes x)) _ _ s
  refine wpAny_noted ?_
  unfold forTurn
  refine wpAny_bind (wpAny_standAt (wpAny_bind (wpAny_onRaise (wpAny_mono (turn n s hI) (fun r s₁ h₁ => ?_) fun _ _ x => x.elim))))
  cases r with
  | none => exact wpAny_pure (.inr ⟨rfl, codeAny_block (wpAny_execs_nil h₁)⟩)
  | some v =>
    refine wpAny_bind (wpAny_mono h₁ (fun _ s₁' h₁' => ?_) fun _ _ x => x.elim)
    refine wpAny_bind (wpAny_mono h₁' (fun _ s₂ h₂ => wpAny_bind (wpAny_mono h₂ (fun f s₃ h₃ => ?_) fun _ _ x => x.elim)) fun _ _ x => x.elim)
    cases f with
    | next => exact wpAny_pure (.inl ⟨rfl, h₃⟩)
    | cont => exact wpAny_pure (.inl ⟨rfl, h₃⟩)
    | brk => exact wpAny_pure h₃
    | ret v => exact wpAny_pure h₃

/-- for -/
theorem Ex1_for (ok : c.Ok) {target iter : Expr} {body : List Stmt} {pos} {d : PV} {ds : List PV} (hit : Ev c ρ true iter d) (hds : ItOk d ds) (Inv : Nat → Env1 → Prop) (h₀ : Inv 0 ρ)
    (turn : ∀ i (d : PV) ρ, ds[i]? = some d → Inv i ρ → ∃ ρ', Asg c target d ρ ρ' ∧ Ex c ρ' body (fun pf ρ'' => match pf with | .next => Inv (i + 1) ρ'' | .cont => Inv (i + 1) ρ'' | .brk => Q .next ρ'' | .ret d => Q (.ret d) ρ''))
    (fin : ∀ ρ, Inv ds.length ρ → Q .next ρ) (hs : ∀ x, foldedSetIterable iter c.env x = pure x) : Ex1 c ρ (.For target iter body [] pos) Q := .mk fun A T s ha st => by
  refine wpAny_For (hit.use ha st fun v s₀ e₀ st₀ r => itr_of ok hds st₀ (r.weak fun _ q => Cx.Q_iff.mpr q) fun it s₁ I fp wr Pv StI st₁ x => ?_) hs
  have w₀ := st₀.wd
  have endE : ∀ {ρ' : Env1} {T' : Own1} {s' : Shared}, St c ρ' T' s' → Evo c.G (fun b => c.X T b ∨ b ∈ wr) s₁ s' → Evo c.G (c.X T) s s' := fun {ρ' T' s'} st' ev => by
    refine ⟨fun b o h t n => ?_, fun w => ev.wd (x.ext.wd (e₀.wd w))⟩
    have h1 := e₀.keep b o h t (fun h => h)
    refine ev.keep b o (x.ext.keep b o h1 t (fun h => h)) t ?_
    rintro (q | q)
    · exact n q
    · rw [x.hwr b q] at h1; cases h1
  have endG : ∀ {T' : Own1}, TGrow s₁ T T' → TGrow s T T' := fun {T'} g => ⟨g.sub, fun p hp => (g.new p hp).imp id fun h => dead_back st.wd st₁ (Ext.evo (e₀.trans x.ext)) (fun _ h => h) h⟩
  refine for_loop (fun n s' => ∃ i ρ' T', i ≤ ds.length ∧ n = ds.length - i ∧ Mid c (c.X T) ρ' T T' s₁ s' wr StI i ∧ Inv i ρ') ?_ ds.length ⟨0, ρ, T, Nat.zero_le _, rfl, Mid.first st₁ x, h₀⟩
  rintro n s' ⟨i, ρ', T', hi, rfl, m, hI⟩
  have W := x.walks A ha.handled
  rw [x.hit]
  have avW : ∀ a ∈ c.av, a ∉ wr := fun a h hb => by
    obtain ⟨o, ho, _⟩ := st₀.avs a h
    rw [x.hwr a hb] at ho; cases ho
  by_cases hlt : i < ds.length
  · refine W.item i s' _ _ hlt m.at_ fun v h' tk hv hst hk => ?_
    obtain ⟨d', hd', rd⟩ := x.items i v hv
    obtain ⟨st₂, ev₂⟩ := m.next ok st₁ x w₀ st₀.keep0 avW hk (tk := tk)
    have m₂ : Mid c (c.X T) ρ' T T' s₁ { s' with heap := h', toks := tk } wr StI (i + 1) := ⟨st₂, ev₂, m.grow, hst⟩
    obtain ⟨ρ₁, hasg, hbody⟩ := turn i d' ρ' hd' hI
    refine letOwned_list (fun r e => ?_) ?_
    · cases e
      exact x.iterAt hst
    refine wpAny_mono (hasg.run A T' _ v ha st₂ (m₂.item (fun _ h => h) x w₀ rd)) (fun _ s₃ ⟨st₃, e₃⟩ => ?_) fun _ _ h => h
    have m₃ := m₂.step (fun _ h => h) st₁ x st₃ e₃ (fun _ => Cx.Xs_X) (fun _ _ _ => Cx.Xs_X) TGrow.refl
    refine wpAny_mono (hbody.run A T' s₃ ha st₃) (fun fl s₄ ⟨ρ₄, T₄, pf, st₄, e₄, g₄, f₄, q₄⟩ => ?_) fun _ _ h => h
    have m₄ := m₃.step (fun _ h => h) st₁ x st₄ e₄ (fun _ h => h) (fun _ _ h q => X_old m.grow h q) g₄
    cases fl with
    | next => cases pf <;> simp [FlOk] at f₄; exact ⟨_, by omega, i + 1, ρ₄, T₄, hlt, rfl, m₄, q₄⟩
    | cont => cases pf <;> simp [FlOk] at f₄; exact ⟨_, by omega, i + 1, ρ₄, T₄, hlt, rfl, m₄, q₄⟩
    | brk => cases pf <;> simp [FlOk] at f₄; exact ⟨ρ₄, T₄, .next, st₄, endE st₄ m₄.evo, endG m₄.grow, trivial, q₄⟩
    | ret v => cases pf <;> simp [FlOk] at f₄; exact ⟨ρ₄, T₄, .ret _, st₄, endE st₄ m₄.evo, endG m₄.grow, f₄, q₄⟩
  · have hi' : i = ds.length := by omega
    subst hi'
    refine W.done s' _ _ m.at_ fun h' tk hk => ?_
    obtain ⟨st₂, ev₂⟩ := m.next ok st₁ x w₀ st₀.keep0 avW hk (tk := tk)
    exact ⟨ρ', T', .next, st₂, endE st₂ ev₂, endG m.grow, trivial, fin ρ' hI⟩
end
end Mine
end

section
open PySem PyProof.Rows
open PySem.SeqAt
namespace Mine

/-! ### the cells that a comprehension takes along -/
noncomputable def closFrom (env : Env) : List (Str × NameKind) → List (Str × Addr) → List (Str × Addr)
  | [], acc => acc
  | (n, k) :: r, acc => if k == .free then closFrom env r ((n, (env.cells.lookup n).getD 0) :: acc) else closFrom env r acc

noncomputable def capOk (env : Env) (scope : Scope) : Bool := scope.names.all fun p => p.2 != .free || ((env.kindOf p.1 == some .cell || env.kindOf p.1 == some .free) && (env.cells.lookup p.1).isSome)

theorem capOk_spec {env : Env} {scope : Scope} (h : capOk env scope = true) {x : Str} (hx : (x, NameKind.free) ∈ scope.names) :
    (env.kindOf x = some .cell ∨ env.kindOf x = some .free) ∧ ∃ a, env.cells.lookup x = some a := by
  have := List.all_eq_true.mp h _ hx
  simp only [bne_self_eq_false, Bool.false_or, Bool.and_eq_true, Bool.or_eq_true, beq_iff_eq] at this
  exact ⟨this.1, Option.isSome_iff_exists.mp this.2⟩

theorem closureFor_go (env : Env) (f : Str × NameKind → List (Str × Addr) → Sem (ForInStep (List (Str × Addr))))
    (hf : ∀ n k acc, f (n, k) acc = if (k == .free) = true then (do let a ← cellOf env n; pure (.yield ((n, a) :: acc))) else pure (.yield acc)) :
    ∀ (names : List (Str × NameKind)) (acc : List (Str × Addr)), (∀ x, (x, NameKind.free) ∈ names → ∃ a, env.cells.lookup x = some a) → forIn names acc f = pure (closFrom env names acc)
  | [], acc, _ => rfl
  | (n, k) :: r, acc, h => by
    rw [List.forIn_cons, hf]
    have ih := closureFor_go env f hf r
    have hr : ∀ x, (x, NameKind.free) ∈ r → ∃ a, env.cells.lookup x = some a := fun x hx => h x (List.mem_cons_of_mem _ hx)
    unfold closFrom
    by_cases hk : (k == NameKind.free) = true
    · rw [if_pos hk, if_pos hk]
      have hk' : k = .free := by simpa using hk
      subst hk'
      obtain ⟨a, ha⟩ := h n List.mem_cons_self
      have : cellOf env n = pure a := by unfold cellOf; rw [ha]
      rw [this, ha]
      simp only [pure_bind]
      exact ih _ hr
    · rw [if_neg hk, if_neg hk]
      simp only [pure_bind]
      exact ih _ hr

theorem closureFor_eq {env : Env} {scope : Scope} (h : capOk env scope = true) : closureFor scope env = pure (closFrom env scope.names []) := by
  have key := closureFor_go env (fun x acc => match x with | (name, kind) => if (kind == NameKind.free) = true then (do let a ← cellOf env name; pure (ForInStep.yield ((name, a) :: acc))) else pure (ForInStep.yield acc))
    (fun n k acc => rfl) scope.names [] (fun x hx => (capOk_spec h hx).2)
  unfold closureFor
  exact (congrArg (· >>= fun s => pure s) key).trans rfl

theorem closFrom_acc {env : Env} {x : Str} {a : Addr} (ha : env.cells.lookup x = some a) : ∀ (names : List (Str × NameKind)) (acc : List (Str × Addr)), acc.lookup x = some a → (closFrom env names acc).lookup x = some a
  | [], acc, h => h
  | (n, k) :: r, acc, h => by
    unfold closFrom
    split
    · refine closFrom_acc ha r _ ?_
      rw [List.lookup_cons]
      cases hx : x == n with
      | true => rw [← beq_iff_eq.mp hx, ha]; rfl
      | false => exact h
    · exact closFrom_acc ha r acc h
theorem closFrom_lookup {env : Env} {x : Str} {a : Addr} (ha : env.cells.lookup x = some a) : ∀ (names : List (Str × NameKind)) (acc : List (Str × Addr)), (x, NameKind.free) ∈ names → (closFrom env names acc).lookup x = some a
  | (n, k) :: r, acc, h => by
    unfold closFrom
    rcases List.mem_cons.mp h with e | h
    · cases e
      rw [if_pos (by rfl)]
      refine closFrom_acc ha r _ ?_
      rw [List.lookup_cons, beq_self_eq_true, ha]; rfl
    · split
      · exact closFrom_lookup ha r _ h
      · exact closFrom_lookup ha r _ h

theorem lookup_relabel {env : Env} {x : Str} {k₀ : NameKind} (g : Str × NameKind → Str × NameKind) (hg : ∀ n k, g (n, k) = (n, k) ∨ (k = .free ∧ g (n, k) = (n, .cell))) : ∀ {names : List (Str × NameKind)}, names.lookup x = some k₀ →
    (names.map g).lookup x = some k₀ ∨ (k₀ = .free ∧ (names.map g).lookup x = some .cell)
  | [], h => by simp at h
  | (n, k) :: r, h => by
    have ih := @lookup_relabel env x k₀ g hg r
    rw [List.map_cons]
    rw [List.lookup_cons] at h
    rcases hg n k with e | ⟨hk, e⟩
    · rw [e, List.lookup_cons]
      cases hx : x == n with
      | true => rw [hx] at h; exact .inl h
      | false => rw [hx] at h; exact ih h
    · rw [e, List.lookup_cons]
      cases hx : x == n with
      | true =>
        rw [hx] at h
        have h' : k = k₀ := by simpa using h
        exact .inr ⟨h' ▸ hk, rfl⟩
      | false => rw [hx] at h; exact ih h
theorem relabel_lookup {scope : Scope} {env : Env} {x : Str} {k₀ : NameKind} (h : scope.names.lookup x = some k₀) : (relabel scope env).names.lookup x = some k₀ ∨ (k₀ = .free ∧ (relabel scope env).names.lookup x = some .cell) := by
  refine lookup_relabel (env := env) _ (fun n k => ?_) h
  by_cases hc : (k == NameKind.free && env.scope.kind == .function && env.kindOf n == some .cell) = true
  · have hk : k = .free := by simp only [Bool.and_eq_true, beq_iff_eq] at hc; exact hc.1.1
    exact .inr ⟨hk, if_pos hc⟩
  · exact .inl (if_neg hc)
theorem lookup_relabel_free {scope : Scope} {env : Env} {x : Str} (h : scope.names.lookup x = some .free) : (relabel scope env).names.lookup x = some .cell ∨ (relabel scope env).names.lookup x = some .free :=
  (relabel_lookup h).elim .inr fun h => .inl h.2
/-- the frame of a comprehension's body -/
noncomputable def Cx.inner (c : Cx) (scope : Scope) (C : Addr) : Cx where
  G := c.G
  env := compEnvC scope (closFrom c.env scope.names []) C c.env
  h₀ := c.h₀
  P := c.P
  mc := []
  own := c.own
  rk := c.rk
  comp := true
  av := c.L :: c.mc ++ c.av

section
variable {c : Cx} {ρ : Env1} {T : Own1}

theorem inner_ok (ok : c.Ok) {s : Shared} (st : St c ρ T s) {scope : Scope} {C : Addr} (hC : s.heap.get? C = none) (hk : scope.kind = .function) : (c.inner scope C).Ok where
  kind := hk
  glob := ok.glob
  blt := ok.blt
  Lnew := by
    show c.h₀.get? C = none
    cases q : c.h₀.get? C with
    | none => rfl
    | some o =>
      exfalso
      by_cases t : c.G.Tb C
      · obtain ⟨o', e', _⟩ := st.wd.tb C t
        rw [hC] at e'; cases e'
      · rw [st.keep0 C o q t] at hC; cases hC
  mcnew := fun a h => by cases h
  fresh := ok.fresh
  tb := ok.tb
  old := ok.old
  cellMc := fun _ _ h => by cases h
  ownNe := ok.ownNe
  avX := fun a h q => by
    rcases q with q | q
    · subst q
      have alive : ∃ o, s.heap.get? a = some o := by
        have h' : a ∈ c.L :: c.mc ++ c.av := h
        simp only [List.cons_append, List.mem_cons, List.mem_append] at h'
        rcases h' with h' | h' | h'
        · obtain ⟨m, o, _, _, hL, _⟩ := st.ns
          exact ⟨o, h' ▸ hL⟩
        · obtain ⟨v, o, hc, _⟩ := st.mcs a h'
          exact ⟨o, hc⟩
        · obtain ⟨o, hc, _⟩ := st.avs a h'
          exact ⟨o, hc⟩
      obtain ⟨o, ho⟩ := alive
      have hC' : s.heap.get? a = none := hC
      rw [ho] at hC'; cases hC'
    · cases q
  apart := fun h => by cases h

/-- the variables that it takes along -/
noncomputable def CapEnv (ρc ρ : Env1) (scope : Scope) : Prop := ∀ x d, ρc.lookup x = some d → ρ.lookup x = some d ∧ scope.names.lookup x = some .free

theorem inner_st (ok : c.Ok) {s₁ s : Shared} (st₁ : St c ρ T s₁) (e : Ext c.G s₁ s) {scope : Scope} {C D : Addr} (hC : s₁.heap.get? C = none) (hD : s₁.heap.get? D = none) {m} (hn : s.heap.Ns C m) {vs n} (hl : IsL s.heap D vs n)
    (hcap : capOk c.env scope = true) {ρc : Env1} (hρ : CapEnv ρc ρ scope) : St (c.inner scope C) ρc ((Str.empty, D) :: T) s := by
  have st := st₁.ext e
  have dead0 : ∀ a, s₁.heap.get? a = none → c.h₀.get? a = none := fun a h => by
    cases q : c.h₀.get? a with
    | none => rfl
    | some o =>
      exfalso
      by_cases t : c.G.Tb a
      · obtain ⟨o', e', _⟩ := st₁.wd.tb a t
        rw [h] at e'; cases e'
      · rw [st₁.keep0 a o q t] at h; cases h
  have qq : ∀ b o, s₁.heap.get? b = some o → c.Q T b → (c.inner scope C).Q ((Str.empty, D) :: T) b := fun b o hb h => by
    refine ⟨⟨h.1.1, fun q => ?_, List.not_mem_nil, fun q => ?_⟩, fun p hp q => ?_⟩
    · have q' : b = C := q
      rw [q', hC] at hb; cases hb
    · have q' : b ∈ c.L :: c.mc ++ c.av := q
      simp only [List.cons_append, List.mem_cons, List.mem_append] at q'
      rcases q' with q' | q' | q'
      · exact h.1.2.1 q'
      · exact h.1.2.2.1 q'
      · exact h.1.2.2.2 q'
    · rcases List.mem_cons.mp hp with rfl | hp
      · have q' : b = D := q
        rw [q', hD] at hb; cases hb
      · exact h.2 p hp q
  refine ⟨st.wd, st.keep0, ⟨m, hn⟩, (fun a h => absurd h List.not_mem_nil), fun x d hd => ?_, fun p hp => ?_, ?_, fun a h => ?_⟩
  · obtain ⟨h1, h2⟩ := hρ x d hd
    obtain ⟨v, hv, ho, hr⟩ := st₁.vars x d h1
    have hmem : (x, NameKind.free) ∈ scope.names := mem_of_lookup h2
    obtain ⟨hkind, a, ha⟩ := capOk_spec hcap hmem
    refine ⟨v, ?_, fun q => ?_, fun q => ?_⟩
    · refine .inr ⟨lookup_relabel_free h2, a, closFrom_lookup ha _ _ hmem, ?_⟩
      rcases hv with ⟨k, _⟩ | ⟨_, a', ha', hc⟩
      · rcases hkind with q | q <;> rw [k] at q <;> cases q
      · rw [ha] at ha'; cases ha'
        exact st₁.wd.cell_keep e (fun h => h) hc
    · obtain ⟨b, ds, vs', n', e1, e2, e3, e4, e5, e6⟩ := ho q
      refine ⟨b, ds, vs', n', e1, e2, ?_, st₁.wd.list_keep e (fun h => h) e4, ?_, e6⟩
      · rw [List.lookup_cons]
        have : (x == Str.empty) = false := by
          cases hx : x == Str.empty with
          | false => rfl
          | true => exact absurd (beq_iff_eq.mp hx ▸ q) ok.ownNe
        rw [this]; exact e3
      · exact RepAll.mono (fun b o hb hv p => ⟨qq b o hb p, e.keep b o hb (st₁.wd.notTbV hb hv.1) (fun h => h)⟩) _ _ e5
    · exact Rep.mono (fun b o hb hv p => ⟨qq b o hb p, e.keep b o hb (st₁.wd.notTbV hb hv.1) (fun h => h)⟩) _ _ (hr q)
  · rcases List.mem_cons.mp hp with rfl | hp
    · exact ⟨dead0 D hD, vs, n, hl⟩
    · exact st.own p hp
  · refine List.pairwise_cons.mpr ⟨fun p hp q => ?_, st.nodup⟩
    obtain ⟨_, vs', n', l'⟩ := st₁.own p hp
    have l'' : s₁.heap.get? p.2 = _ := l'
    have q' : D = p.2 := q
    rw [← q', hD] at l''; cases l''
  · have h' : a ∈ c.L :: c.mc ++ c.av := h
    simp only [List.cons_append, List.mem_cons, List.mem_append] at h'
    rcases h' with h' | h' | h'
    · obtain ⟨m', o, es, ep, hL, hd, _⟩ := st.ns
      exact ⟨o, h' ▸ hL, fun vs n q => by rw [hd] at q; cases q⟩
    · obtain ⟨v, o, hc, hd⟩ := st.mcs a h'
      exact ⟨o, hc, fun vs n q => by rw [hd] at q; cases q⟩
    · exact st.avs a h'
end
end Mine
end

section
open PySem PyProof.Rows
open PySem.SeqAt
open MeetsSeq
namespace Mine

section
variable {c : Cx} {ρ : Env1} {T : Own1}

/-- a list that the frame owns is changed -/
theorem St.mutate (ok : c.Ok) {s : Shared} (st : St c ρ T s) {y : Str} {a : Addr} (hm : (y, a) ∈ T) {h' : Heap} {tk : Nat} (hs : Heap.SameBut a s.heap h') {vs : Array Value} {n : Nat} (l : IsL h' a vs n) {ρ' : Env1}
    (hρ : ∀ x d, ρ'.lookup x = some d → (x ≠ y ∧ ρ.lookup x = some d) ∨ (x = y ∧ y ∈ c.own ∧ T.lookup y = some a ∧ (∃ d, ρ.lookup y = some d) ∧ ∃ ds, d = .list ds ∧ RepAll s.heap (c.Q T) ds vs.toList ∧ ds.length ≤ sizeLine)) :
    St c ρ' T { s with heap := h', toks := tk } ∧ Evo c.G (fun b => b = a) s { s with heap := h', toks := tk } := by
  obtain ⟨h0, vs₀, n₀, l₀⟩ := st.own _ hm
  have hne := st.own_ne hm
  have ev : Evo c.G (fun b => b = a) s { s with heap := h', toks := tk } := by
    refine Evo.but (fun b o hb e => (hs.2 b hb).trans e) rfl ?_ (fun o e => ?_)
    · cases q : c.G.h₁.get? a with
      | none => rfl
      | some o => obtain ⟨o', e⟩ := ok.old a o q; rw [h0] at e; cases e
    · have l₀' : s.heap.get? a = _ := l₀
      rw [l₀'] at e; cases e
      exact Obj.notCode_list
  have hQ : ∀ b, c.Q T b → ¬ (b = a) := fun b h q => h.2 _ hm q
  have dataNe : ∀ {b : Addr} {o : Obj}, s.heap.get? b = some o → (∀ vs n, o.data ≠ .seq vs n) → b ≠ a := fun {b o} e q r => by
    subst r
    have l₀' : s.heap.get? b = _ := l₀
    rw [l₀'] at e; cases e; exact q _ _ rfl
  refine ⟨⟨ev.wd st.wd, fun b o e t => ?_, ?_, fun b hb => ?_, fun x d hd => ?_, fun p hp => ?_, st.nodup, fun b hb => ?_⟩, ev⟩
  · exact ev.keep b o (st.keep0 b o e t) t fun q => by rw [q, h0] at e; cases e
  · obtain ⟨m, o, es, ep, hL, hd, r⟩ := st.ns
    exact ⟨m, o, es, ep, (hs.2 _ (dataNe hL (by rw [hd]; nofun))).trans hL, hd, r⟩
  · obtain ⟨v, o, hc, hd⟩ := st.mcs b hb
    exact ⟨v, o, (hs.2 _ (dataNe hc (by rw [hd]; nofun))).trans hc, hd⟩
  · have var : ∀ {x : Str} {v : Value}, VarAt c s x v → VarAt c { s with heap := h', toks := tk } x v := fun {x v} hv => by
      rcases hv with ⟨k, m, ⟨o, es, ep, hL, hd, r⟩, hx⟩ | ⟨k, b, hb, o, hc, hd⟩
      · exact .inl ⟨k, m, ⟨o, es, ep, (hs.2 _ (dataNe hL (by rw [hd]; nofun))).trans hL, hd, r⟩, hx⟩
      · exact .inr ⟨k, b, hb, o, (hs.2 _ (dataNe hc (by rw [hd]; nofun))).trans hc, hd⟩
    rcases hρ x d hd with ⟨hxy, hd⟩ | ⟨rfl, hown, hT, ⟨d₀, hd₀⟩, ds, rfl, rs, hz⟩
    · obtain ⟨v, h1, h2, h3⟩ := st.vars x d hd
      refine ⟨v, var h1, fun q => ?_, fun q => (h3 q).evo st.wd ev hQ⟩
      obtain ⟨b, ds, vs', n', e1, e2, e3, e4, e5, e6⟩ := h2 q
      have hba : b ≠ a := fun q => hxy (name_of_addr st.nodup (q ▸ mem_of_lookup e3) hm)
      exact ⟨b, ds, vs', n', e1, e2, e3, (hs.2 b hba).trans e4, e5.evo st.wd ev hQ, e6⟩
    · obtain ⟨v, h1, h2, _⟩ := st.vars x d₀ hd₀
      obtain ⟨b, ds', vs', n', e1, e2, e3, e4, e5, e6⟩ := h2 hown
      rw [hT] at e3; cases e3
      refine ⟨v, var h1, fun q => ⟨a, ds, vs, n, rfl, e2, hT, l, rs.evo st.wd ev hQ, hz⟩, fun q => absurd hown q⟩
  · by_cases q : p.2 = a
    · exact ⟨(st.own p hp).1, vs, n, by rw [q]; exact l⟩
    · obtain ⟨h1, vs', n', l'⟩ := st.own p hp
      exact ⟨h1, vs', n', (hs.2 _ q).trans l'⟩
  · obtain ⟨o, ho, q⟩ := st.avs b hb
    exact ⟨o, (hs.2 _ (dataNe ho q)).trans ho, q⟩

/-! ### comprehensions -/
noncomputable def Tests (c : Cx) (ρ : Env1) (ifs : List Expr) (k : Bool) : Prop := (ifs = [] ∧ k = true) ∨ ∃ t, ifs = [t] ∧ IsT1 c ρ t k
noncomputable def CompRes (c : Cx) (ρ : Env1) (ifs : List Expr) (elt : Expr) : Option PV → Prop
  | some o => Tests c ρ ifs true ∧ Ev c ρ true elt o
  | none => Tests c ρ ifs false

theorem tests_use {ifs : List Expr} {k : Bool} (h : Tests c ρ ifs k) {A : Around} {s : Shared} (ha : AOk c.rk A) (st : St c ρ T s) {R : Bool → Shared → Prop} (hk : ∀ s', Ext c.G s s' → St c ρ T s' → R k s') {E : Value → Shared → Prop} :
    wpAny c.M A (forIn ifs true fun t r => if r = true then do let ok ← isTrue t c.env (eval t c.env); pure (ForInStep.yield ok) else pure (ForInStep.yield r)) R E s := by
  rcases h with ⟨rfl, rfl⟩ | ⟨t, rfl, h⟩
  · rw [List.forIn_nil]; exact wpAny_pure (hk s Evo.refl st)
  · rw [List.forIn_cons]
    refine wpAny_bind ?_
    rw [if_pos rfl]
    refine wpAny_bind (h.use ha st fun s' e st' => wpAny_pure ?_)
    exact wpAny_pure (hk s' e st')

theorem comp_loop {M₀ : Model} {prog : Program} {w : World} {R : Result → Shared → Prop} {A : Around} {elt target iter : Expr} {ifs : List Expr} {scope : Scope} {pos : Pos} {it acc : Value} {env : Env} {s : Shared} (I : Nat → Shared → Prop)
    (turn : ∀ n s, I n s → wpAny (model prog w) A (pyNext it) (fun r s₁ => match r with
      | none => R (.ok .next) s₁
      | some v => wpAny (model prog w) A (letOwnedTupleGo target it v) (fun _ s₁' => wpAny (model prog w) A (assign target env v) (fun _ s₂ =>
          wpAny (model prog w) A (forIn ifs true fun t r => if r = true then do let ok ← isTrue t env (eval t env); pure (ForInStep.yield ok) else pure (ForInStep.yield r)) (fun ok s₃ =>
            if ok = true then wpAny (model prog w) A (eval elt env) (fun x s₄ =>
              wpAny (model prog w) A (call (.builtin "list.append") [acc, x]) (fun _ s₅ => ∃ m, m < n ∧ I m s₅) (fun _ _ => False) s₄) (fun _ _ => False) s₃
            else ∃ m, m < n ∧ I m s₃) (fun _ _ => False) s₂) (fun _ _ => False) s₁') (fun _ _ => False) s₁) (fun _ _ => False) s)
    (n : Nat) (h : I n s) : codeAny (model prog w) A (.compLoop (.ListComp elt [⟨target, iter, ifs, 0⟩] scope pos) 0 it acc env) R s := by
  refine codeAny_loop rfl I (fun n s hI => ?_) n h
  show wpAny _ A ((compTurn (.ListComp elt [⟨target, iter, ifs, 0⟩] scope pos) 0 it acc env).onRaise (fun x => do noteFrame x env; theTreesLotGoes x)) _ _ s
  refine wpAny_noted ?_
  rw [compTurn_list]
  refine wpAny_bind (wpAny_standAt (wpAny_bind (wpAny_mono (turn n s hI) (fun r s₁ h₁ => ?_) fun _ _ x => x.elim)))
  cases r with
  | none => exact wpAny_pure h₁
  | some v =>
    refine wpAny_bind (wpAny_mono h₁ (fun _ s₁' h₁' => ?_) fun _ _ x => x.elim)
    refine wpAny_bind (wpAny_mono h₁' (fun _ s₂ h₂ => wpAny_bind (wpAny_mono h₂ (fun ok s₃ h₃ => ?_) fun _ _ x => x.elim)) fun _ _ x => x.elim)
    cases ok with
    | false => exact wpAny_pure ⟨rfl, h₃⟩
    | true => exact wpAny_bind (wpAny_bind (wpAny_mono h₃ (fun x s₄ h₄ => wpAny_bind (wpAny_mono h₄ (fun _ s₅ h₅ => wpAny_pure (wpAny_pure ⟨rfl, h₅⟩)) fun _ _ x => x.elim)) fun _ _ x => x.elim))

noncomputable def compOk (env : Env) (scope : Scope) : Bool :=
  capOk env scope && scope.kind == .function && scope.names.all (fun p => p.2 != .cell) && scope.names.all (fun p => p.2 != .local || scope.names.lookup p.1 == some .local) && scope.names.all (fun p => p.1 != Str.empty)

theorem inner_Q (ok : c.Ok) {scope : Scope} {C D : Addr} {a : Addr} (h : (c.inner scope C).Q ((Str.empty, D) :: T) a) : c.Q T a ∧ a ≠ D ∧ a ≠ C := by
  obtain ⟨⟨h1, h2, _, h4⟩, h5⟩ := h
  have h4' : a ∉ c.L :: c.mc ++ c.av := h4
  simp only [List.cons_append, List.mem_cons, List.mem_append, not_or] at h4'
  exact ⟨⟨⟨h1, h4'.1, h4'.2.1, h4'.2.2⟩, fun p hp => h5 p (List.mem_cons_of_mem _ hp)⟩, h5 _ List.mem_cons_self, h2⟩

theorem take_filterMap_succ {ds : List PV} {i : Nat} {d : PV} (F : PV → Option PV) (h : ds[i]? = some d) : (ds.take (i + 1)).filterMap F = (ds.take i).filterMap F ++ (F d).toList := by
  rw [List.take_add_one, h, List.filterMap_append]
  congr 1

set_option maxHeartbeats 1000000 in
theorem comp_main' (ok : c.Ok) {elt target iter : Expr} {ifs : List Expr} {scope : Scope} {pos p' : Pos} {use : Option (Value → Sem Unit)} {Qv : Value → Shared → Prop} {A : Around} {s : Shared} {d : PV} {ds : List PV} (ha : AOk c.rk A) (st : St c ρ T s)
    (hit : ∀ R : Value → Shared → Prop, (∀ v s₁, Ext c.G s s₁ → St c ρ T s₁ → Rep s₁.heap (c.Q T) d v → R v s₁) → wpAny c.M A (eval iter c.env) R (fun _ _ => False) s) (hds : ItOk d ds) (hlen : ds.length ≤ sizeLine) (hok : compOk c.env scope = true) {ρc : Env1} (hρ : CapEnv ρc ρ scope) (F : PV → Option PV)
    (turn : ∀ C d, d ∈ ds → (c.inner scope C).Ok → ∃ ρ', Asg (c.inner scope C) target d ρc ρ' ∧ SubEnv ρc ρ' ∧ CompRes (c.inner scope C) ρ' ifs elt (F d))
    (hs : ∀ x, foldedSetIterable iter c.env x = pure x)
    (k : ∀ s' C D vs n m, Ext c.G s s' → s.heap.get? C = none → s.heap.get? D = none → C ≠ D → s'.heap.Ns C m → IsL s'.heap D vs n → RepAll s'.heap (fun a => c.Q T a ∧ a ≠ D ∧ a ≠ C) (ds.filterMap F) vs.toList →
      compPost c.M A (fun _ _ => False) use Qv (.ref D) C (.ok .next) s') :
    wpAny c.M A (comprehension (.ListComp elt [⟨target, iter, ifs, 0⟩] scope pos) scope c.env p' (newList []) false (eval iter c.env) use) Qv (fun _ _ => False) s := by
  simp only [compOk, Bool.and_eq_true, beq_iff_eq] at hok
  obtain ⟨⟨⟨⟨hcap, hkind⟩, hcell⟩, hnames⟩, hempty⟩ := hok
  have hcell' : ∀ x ∈ scope.names, x.2 ≠ .cell := fun x hx => by simpa using List.all_eq_true.mp hcell x hx
  have hnames' : ∀ x ∈ scope.names, x.2 = .local → scope.names.lookup x.1 = some .local := fun x hx hl => by
    have := List.all_eq_true.mp hnames x hx
    simpa [hl] using this
  refine wpAny_comprehension_free (g := ⟨target, iter, ifs, 0⟩) (gs := []) rfl hs (closureFor_eq hcap) hkind hnames' ?_
  refine hit _ fun v s₁ e₁ st₁ r => itr_of ok hds st₁ r fun it s₂ I fp wr Pv StI st₂ x => ?_
  refine wpAny_newObj_type (T := "list") (data := .seq #[]) ?_ (Nat.zero_le _)
  refine wpAny_newFunctionEnv hcell' (fun _ h => nomatch h) (fun h₄ hns hsb => ?_) hkind
  -- the state at the loop's start
  have D_new : s₂.heap.get? s₂.heap.objs.size = none := get_new
  have C_new : (s₂.heap.push { cls := .type "list", data := .seq #[] }).get? (s₂.heap.push { cls := .type "list", data := .seq #[] }).objs.size = none := get_new
  generalize hDe : s₂.heap.objs.size = D at *
  generalize hh₃ : s₂.heap.push { cls := .type "list", data := .seq #[] } = h₃ at *
  have hCD : h₃.objs.size = D + 1 := by rw [← hh₃, ← hDe]; simp
  generalize hCe : h₃.objs.size = C at *
  have lD₃ : IsL h₃ D #[] 0 := by rw [← hh₃, ← hDe]; exact IsL.new _ _
  have hCneD : C ≠ D := by omega
  have k23 : ∀ b o, s₂.heap.get? b = some o → h₃.get? b = some o := fun b o e => by rw [← hh₃]; exact Heap.get?_push_of_some _ e
  have k34 : ∀ b o, h₃.get? b = some o → h₄.get? b = some o := fun b o e => by
    have hb : b ≠ C := fun q => by rw [q, C_new] at e; cases e
    exact (hsb.2 b hb).trans (Heap.get?_push_of_some _ e)
  have e24 : Ext c.G s₂ { s₂ with heap := h₄, toks := s₂.toks + 0 } := Ext.of fun b o e => k34 b o (k23 b o e)
  have lD₄ : IsL h₄ D #[] 0 := k34 _ _ lD₃
  have C_new₂ : s₂.heap.get? C = none := by
    cases q : s₂.heap.get? C with
    | none => rfl
    | some o => rw [k23 C o q] at C_new; cases C_new
  have dead1 : ∀ a, s₂.heap.get? a = none → s₁.heap.get? a = none := fun a h => dead_back st₁.wd st₂ (Ext.evo x.ext) (fun _ h => h) h
  have dead0 : ∀ a, s₁.heap.get? a = none → s.heap.get? a = none := fun a h => dead_back st.wd st₁ (Ext.evo e₁) (fun _ h => h) h
  have C₁ := dead1 C C_new₂
  have D₁ := dead1 D D_new
  have ok' : (c.inner scope C).Ok := inner_ok ok st₁ C₁ hkind
  have e14 : Ext c.G s₁ { s₂ with heap := h₄, toks := s₂.toks + 0 } := x.ext.trans e24
  have st₄ : St (c.inner scope C) ρc ((Str.empty, D) :: T) { s₂ with heap := h₄, toks := s₂.toks + 0 } := inner_st ok st₁ e14 C₁ D₁ hns lD₄ hcap hρ
  show codeAny c.M A (.compStart _ 0 it (.ref D) (compEnvC scope (closFrom c.env scope.names []) C c.env)) _ _
  generalize hs₄ : ({ s₂ with heap := h₄, toks := s₂.toks + 0 } : Shared) = s₄ at *
  have hs₄h : s₄.heap = h₄ := by rw [← hs₄]
  have W := x.walks A ha.handled
  have fpNew : ∀ b ∈ fp, b ≠ C ∧ b ≠ D := fun b hb => by
    obtain ⟨o, ho⟩ := x.alive 0 _ x.start b hb
    exact ⟨fun q => (by rw [q, C_new₂] at ho; cases ho), fun q => (by rw [q, D_new] at ho; cases ho)⟩
  have x' : Itr (c.inner scope C) ((Str.empty, D) :: T) s₁ s₄ it ds I fp wr Pv StI := by
    refine ⟨x.hit, x.walks, ?_, e14, fun b hb => ⟨(x.hfp b hb).1, fun q => ?_⟩, x.alive, x.hwr, x.plain, fun i v hv => ?_, x.iwr⟩
    · exact W.frame 0 _ _ x.start fun b hb o ho => by rw [hs₄h]; exact k34 b o (k23 b o ho)
    · rcases q with q | q | ⟨p, hp, q⟩
      · exact (fpNew b hb).1 q
      · cases q
      · rcases List.mem_cons.mp hp with rfl | hp
        · exact (fpNew b hb).2 q
        · exact (x.hfp b hb).2 (.inr (.inr ⟨p, hp, q⟩))
    · obtain ⟨d', hd', rd⟩ := x.items i v hv
      refine ⟨d', hd', Rep.mono (fun b o hb hv p => ⟨?_, hb⟩) _ _ rd⟩
      refine ⟨⟨p.1.1, fun q => ?_, List.not_mem_nil, fun q => ?_⟩, fun p' hp' q => ?_⟩
      · have q' : b = C := q
        rw [q', C₁] at hb; cases hb
      · have q' : b ∈ c.L :: c.mc ++ c.av := q
        simp only [List.cons_append, List.mem_cons, List.mem_append] at q'
        rcases q' with q' | q' | q'
        · exact p.1.2.1 q'
        · exact p.1.2.2.1 q'
        · exact p.1.2.2.2 q'
      · rcases List.mem_cons.mp hp' with rfl | hp'
        · have q' : b = D := q
          rw [q', D₁] at hb; cases hb
        · exact p.2 p' hp' q
  have hX₀ : ∀ b, (b = C ∨ b = D) → (c.inner scope C).X ((Str.empty, D) :: T) b := fun b h => h.elim .inl fun h => .inr (.inr ⟨_, List.mem_cons_self, h⟩)
  have hold : ∀ b o, (c.inner scope C).h₀.get? b = some o → ¬ (c.inner scope C).G.Tb b → s₁.heap.get? b = some o := st₁.keep0
  have avW : ∀ a ∈ (c.inner scope C).av, a ∉ wr := fun a h hb => by
    have h' : a ∈ c.L :: c.mc ++ c.av := h
    have alive : ∃ o, s₁.heap.get? a = some o := by
      simp only [List.cons_append, List.mem_cons, List.mem_append] at h'
      rcases h' with h' | h' | h'
      · obtain ⟨m, o, _, _, hL, _⟩ := st₁.ns
        exact ⟨o, h' ▸ hL⟩
      · obtain ⟨v, o, hc, _⟩ := st₁.mcs a h'
        exact ⟨o, hc⟩
      · obtain ⟨o, hc, _⟩ := st₁.avs a h'
        exact ⟨o, hc⟩
    obtain ⟨o, ho⟩ := alive
    rw [x.hwr a hb] at ho; cases ho
  have hhere : (Str.empty, D) ∈ ((Str.empty, D) :: T : Own1) := List.mem_cons_self
  have hneE : ∀ y d, ρc.lookup y = some d → y ≠ Str.empty := fun y d hd q => by
    subst q
    obtain ⟨h1, h2⟩ := hρ _ _ hd
    have := List.all_eq_true.mp hempty _ (mem_of_lookup h2)
    simp at this
  -- the loop
  have loop : codeAny c.M A (.compLoop (.ListComp elt [⟨target, iter, ifs, 0⟩] scope pos) 0 it (.ref D) (compEnvC scope (closFrom c.env scope.names []) C c.env)) (compPost c.M A (fun _ _ => False) use Qv (.ref D) C) s₄ := by
    refine comp_loop (M₀ := c.M) (fun n s' => ∃ i, i ≤ ds.length ∧ n = ds.length - i ∧ Mid (c.inner scope C) (fun b => b = C ∨ b = D) ρc ((Str.empty, D) :: T) ((Str.empty, D) :: T) s₄ s' wr StI i ∧
      ∃ vs n, IsL s'.heap D vs n ∧ RepAll s'.heap ((c.inner scope C).Q ((Str.empty, D) :: T)) ((ds.take i).filterMap F) vs.toList) ?_ ds.length
      ⟨0, Nat.zero_le _, rfl, Mid.first st₄ x', #[], 0, by rw [hs₄h]; exact lD₄, by simp [RepAll]⟩
    rintro n s' ⟨i, hi, rfl, m, vs, nn, lD, rD⟩
    rw [x.hit]
    by_cases hlt : i < ds.length
    · refine W.item i s' _ _ hlt m.at_ fun v h' tk hv hst hk => ?_
      obtain ⟨d', hd', rd⟩ := x'.items i v hv
      obtain ⟨st₅, ev₅⟩ := m.next ok' st₄ x' st₁.wd hold avW hk (tk := tk)
      have m₅ : Mid (c.inner scope C) (fun b => b = C ∨ b = D) ρc ((Str.empty, D) :: T) ((Str.empty, D) :: T) s₄ { s' with heap := h', toks := tk } wr StI (i + 1) := ⟨st₅, ev₅, m.grow, hst⟩
      have DnotWr : D ∉ wr := fun hb => (fpNew D (W.sub D hb)).2 rfl
      have lD₅ : IsL h' D vs nn := hk D _ DnotWr lD
      have rD₅ : RepAll h' ((c.inner scope C).Q ((Str.empty, D) :: T)) ((ds.take i).filterMap F) vs.toList :=
        RepAll.mono (fun b o hb hv p => ⟨p, hk b o (fun hw => hv.2 (x.plain i _ m.at_ b hw o hb)) hb⟩) _ _ rD
      refine letOwned_list (c := c) (fun r e => by cases e; exact x.iterAt hst) ?_
      obtain ⟨ρ', hasg, hsub, hres⟩ := turn C d' (List.mem_of_getElem? hd') ok'
      refine wpAny_mono (hasg.run A _ _ v ha st₅ (m₅.item hX₀ x' st₁.wd rd)) (fun _ s₆ ⟨st₆, e₆⟩ => ?_) fun _ _ h => h
      have xs : ∀ b, (c.inner scope C).Xs b → b = C := fun b h => h.elim id fun h => nomatch h
      have m₆ := m₅.step hX₀ st₄ x' (st₆.sub hsub) e₆ (fun _ => Cx.Xs_X) (fun b _ _ h => .inl (xs b h)) TGrow.refl
      have lD₆ : IsL s₆.heap D vs nn := e₆.keep _ _ lD₅ (st₅.wd.notTb lD₅ Obj.notCode_list) fun q => hCneD (xs _ q).symm
      have rD₆ : RepAll s₆.heap ((c.inner scope C).Q ((Str.empty, D) :: T)) ((ds.take i).filterMap F) vs.toList := rD₅.evo st₅.wd e₆ fun b h q => Cx.Q_notX h (Cx.Xs_X q)
      have tk' := take_filterMap_succ F hd'
      cases hF : F d' with
      | none =>
        rw [hF] at hres
        refine tests_use (c := c.inner scope C) hres ha st₆ fun s₇ e₇ st₇ => ?_
        simp only [Bool.false_eq_true, if_false]
        have m₇ := m₆.step hX₀ st₄ x' (st₇.sub hsub) e₇ (fun _ h => h.elim) (fun _ _ _ h => h.elim) TGrow.refl
        refine ⟨_, by omega, i + 1, hlt, rfl, m₇, vs, nn, st₆.wd.list_keep e₇ (fun h => h) lD₆, ?_⟩
        rw [tk', hF]
        simpa using rD₆.ext st₆.wd e₇
      | some o =>
        rw [hF] at hres
        refine tests_use (c := c.inner scope C) hres.1 ha st₆ fun s₇ e₇ st₇ => ?_
        simp only [if_true]
        refine hres.2.use ha st₇ fun v₈ s₈ e₈ st₈ r₈ => ?_
        have lD₈ : IsL s₈.heap D vs nn := st₆.wd.list_keep (e₇.trans e₈) (fun h => h) lD₆
        have rD₈ := rD₆.ext st₆.wd (e₇.trans e₈)
        have m₈ := m₆.step hX₀ st₄ x' (st₈.sub hsub) (e₇.trans e₈) (fun _ h => h.elim) (fun _ _ _ h => h.elim) TGrow.refl
        have hsz : vs.size ≤ sizeLine := by
          have h1 := rD.length
          simp only [Array.length_toList] at h1
          rw [h1]
          refine Nat.le_trans (List.length_filterMap_le _ _) (Nat.le_trans ?_ hlen)
          simp; omega
        refine call_meets PySem.F.slot_list_append ⟨_, lD₈, rfl⟩ PySem.F.entry_list_append (PySem.F.args_list_append_2 _ _) (list_append D vs nn v₈ hsz) ⟨lD₈, ?_⟩
        have hsame : Heap.SameBut D s₈.heap (s₈.heap.update D (Obj.mapSeq fun xs => xs.push v₈)) := Heap.SameBut.update ..
        have lD₉ := lD₈.update (fun xs => xs.push v₈)
        obtain ⟨st₉, e₉⟩ := (st₈.sub hsub).mutate ok' hhere hsame (tk := s₈.toks) lD₉ (ρ' := ρc) (fun y d hd => .inl ⟨hneE y d hd, hd⟩)
        · have m₉ := m₈.step hX₀ st₄ x' st₉ e₉ (fun b h => hX₀ b (.inr h)) (fun b _ _ h => .inr h) TGrow.refl
          refine ⟨_, by omega, i + 1, hlt, rfl, m₉, _, _, lD₉, ?_⟩
          rw [tk', hF]
          have rr : RepAll s₈.heap ((c.inner scope C).Q ((Str.empty, D) :: T)) ((ds.take i).filterMap F ++ [o]) (vs.toList ++ [v₈]) := rD₈.snoc (r₈.weak fun _ q => Cx.Q_iff.mpr q)
          have := rr.evo st₈.wd e₉ fun b h q => h.2 _ hhere q
          simpa using this
    · have hi' : i = ds.length := by omega
      subst hi'
      refine W.done s' _ _ m.at_ fun h' tk hk => ?_
      obtain ⟨st₅, ev₅⟩ := m.next ok' st₄ x' st₁.wd hold avW hk (tk := tk)
      have DnotWr : D ∉ wr := fun hb => (fpNew D (W.sub D hb)).2 rfl
      have lD₅ : IsL h' D vs nn := hk D _ DnotWr lD
      have rD₅ : RepAll h' ((c.inner scope C).Q ((Str.empty, D) :: T)) ((ds.take ds.length).filterMap F) vs.toList :=
        RepAll.mono (fun b o hb hv p => ⟨p, hk b o (fun hw => hv.2 (x.plain _ _ m.at_ b hw o hb)) hb⟩) _ _ rD
      obtain ⟨mm, hmm⟩ := st₅.ns
      have ext : Ext c.G s { s' with heap := h', toks := tk } := by
        refine ⟨fun b o hb t _ => ?_, fun w => ev₅.wd (e14.wd (e₁.wd w))⟩
        have h1 := e₁.keep b o hb t (fun h => h)
        refine ev₅.keep b o (e14.keep b o h1 t (fun h => h)) t ?_
        rintro ((q | q) | q)
        · rw [q, C₁] at h1; cases h1
        · rw [q, D₁] at h1; cases h1
        · rw [x.hwr b q] at h1; cases h1
      refine k _ C D vs nn mm ext (dead0 C C₁) (dead0 D D₁) hCneD hmm lD₅ ?_
      rw [List.take_length] at rD₅
      exact rD₅.weak fun a h => inner_Q ok h
  refine codeAny_compStart_list loop ?_
  rw [x.hit] at loop ⊢
  exact W.self 0 _ _ _ x'.start loop
theorem comp_main (ok : c.Ok) {elt target iter : Expr} {ifs : List Expr} {scope : Scope} {pos p' : Pos} {use : Option (Value → Sem Unit)} {Qv : Value → Shared → Prop} {A : Around} {s : Shared} {d : PV} {ds : List PV} (ha : AOk c.rk A) (st : St c ρ T s)
    (hiter : Ev c ρ true iter d) (hds : ItOk d ds) (hlen : ds.length ≤ sizeLine) (hok : compOk c.env scope = true) {ρc : Env1} (hρ : CapEnv ρc ρ scope) (F : PV → Option PV)
    (turn : ∀ C d, d ∈ ds → (c.inner scope C).Ok → ∃ ρ', Asg (c.inner scope C) target d ρc ρ' ∧ SubEnv ρc ρ' ∧ CompRes (c.inner scope C) ρ' ifs elt (F d))
    (hs : ∀ x, foldedSetIterable iter c.env x = pure x)
    (k : ∀ s' C D vs n m, Ext c.G s s' → s.heap.get? C = none → s.heap.get? D = none → C ≠ D → s'.heap.Ns C m → IsL s'.heap D vs n → RepAll s'.heap (fun a => c.Q T a ∧ a ≠ D ∧ a ≠ C) (ds.filterMap F) vs.toList →
      compPost c.M A (fun _ _ => False) use Qv (.ref D) C (.ok .next) s') :
    wpAny c.M A (comprehension (.ListComp elt [⟨target, iter, ifs, 0⟩] scope pos) scope c.env p' (newList []) false (eval iter c.env) use) Qv (fun _ _ => False) s :=
  comp_main' ok ha st (fun R k => hiter.use ha st fun v s₁ e₁ st₁ r => k v s₁ e₁ st₁ (r.weak fun _ q => Cx.Q_iff.mpr q)) hds hlen hok hρ F turn hs k
end
end Mine
end

section
open PySem PyProof.Rows
open PySem.SeqAt
open MeetsSeq
namespace Mine

section
variable {c : Cx} {ρ : Env1} {T : Own1}

theorem Wd.dead₁ {G : Wo} {s : Shared} (w : Wd G s) {a : Addr} (h : s.heap.get? a = none) : G.h₁.get? a = none := by
  cases q : G.h₁.get? a with
  | none => rfl
  | some o =>
    exfalso
    by_cases t : G.Tb a
    · obtain ⟨o', e, _⟩ := w.tb a t; rw [h] at e; cases e
    · rw [w.old a o q t] at h; cases h

theorem ext_but {s s' : Shared} (w : Wd c.G s) (e : Ext c.G s s') {C : Addr} (hC : s.heap.get? C = none) {m} (hn : s'.heap.Ns C m) {h' : Heap} (hs : Heap.SameBut C s'.heap h') : Ext c.G s { s' with heap := h' } := by
  have ev : Evo c.G (fun b => b = C) s' { s' with heap := h', toks := s'.toks } := Evo.but (fun b o hb e => (hs.2 b hb).trans e) rfl (w.dead₁ hC) fun o e => by
    obtain ⟨o', es, ep, hL, hd, _⟩ := hn
    rw [hL] at e; cases e
    exact not_codeLike_dict hd
  exact ⟨fun b o hb t _ => ev.keep b o (e.keep b o hb t (fun h => h)) t fun q => (by rw [q, hC] at hb; cases hb), fun w => ev.wd (e.wd w)⟩

/-- [elt for target in iter (if ..)] -/
theorem EvF_comp (ok : c.Ok) {elt target iter : Expr} {ifs : List Expr} {scope : Scope} {pos : Pos} {d : PV} {ds : List PV}
    (hiter : Ev c ρ true iter d) (hds : ItOk d ds) (hlen : ds.length ≤ sizeLine) (hok : compOk c.env scope = true) {ρc : Env1} (hρ : CapEnv ρc ρ scope) (F : PV → Option PV)
    (turn : ∀ C d, d ∈ ds → (c.inner scope C).Ok → ∃ ρ', Asg (c.inner scope C) target d ρc ρ' ∧ SubEnv ρc ρ' ∧ CompRes (c.inner scope C) ρ' ifs elt (F d))
    (hs : ∀ x, foldedSetIterable iter c.env x = pure x) : EvF c ρ (.ListComp elt [⟨target, iter, ifs, 0⟩] scope pos) (ds.filterMap F) := .mk fun A T s ha st => by
  rw [eval_ListComp]
  show wpAny _ _ (comprehension _ scope c.env _ (newList []) false (eval iter c.env) none) _ _ _
  refine comp_main ok ha st hiter hds hlen hok hρ F turn hs fun s' C D vs n m e hC hD hne hn l r => ?_
  refine ⟨m, hn, fun h' hsb => ⟨ext_but st.wd e hC hn hsb, D, vs, n, rfl, hD, (hsb.2 D hne.symm).trans l, ?_, Nat.le_trans (List.length_filterMap_le _ _) hlen⟩⟩
  exact RepAll.mono (fun b o hb _ p => ⟨⟨p.1, p.2.1⟩, (hsb.2 b p.2.2).trans hb⟩) _ _ r

theorem evalThenUse_comp {elt target iter : Expr} {ifs : List Expr} {scope : Scope} {pos : Pos} {env : Env} {use : Value → Sem Unit} :
    evalThenUse (.ListComp elt [⟨target, iter, ifs, 0⟩] scope pos) env use = (do
      let _ ← comprehension (.ListComp elt [⟨target, iter, ifs, 0⟩] scope pos) scope env (firstIterPos [⟨target, iter, ifs, 0⟩] pos) (newList []) false (eval iter env) (some use)) := rfl

variable {Q : PF → Env1 → Prop}
/-- behind a store, the comprehension's own names let go -/
theorem var_but {s' : Shared} {x : Str} {v : Value} {C : Addr} (hC1 : C ≠ c.L) (hC2 : ∀ y a, c.env.cells.lookup y = some a → (∃ w, s'.heap.IsCell a w) → a ≠ C) {h' : Heap} (hs : Heap.SameBut C s'.heap h') (h : VarAt c s' x v) : VarAt c { s' with heap := h' } x v := by
  rcases h with ⟨k, m, hm, hx⟩ | ⟨k, b, hb, hc⟩
  · exact .inl ⟨k, m, hm.sameBut hs hC1.symm, hx⟩
  · exact .inr ⟨k, b, hb, hc.sameBut hs (hC2 x b hb ⟨_, hc⟩)⟩

theorem Ex1_assignC (ok : c.Ok) {x : Str} {px : Pos} {elt target iter : Expr} {ifs : List Expr} {scope : Scope} {pos cpos : Pos} {d : PV} {ds : List PV}
    (hiter : Ev c ρ true iter d) (hds : ItOk d ds) (hlen : ds.length ≤ sizeLine) (hok : compOk c.env scope = true) {ρc : Env1} (hρ : CapEnv ρc ρ scope) (F : PV → Option PV)
    (turn : ∀ C d, d ∈ ds → (c.inner scope C).Ok → ∃ ρ', Asg (c.inner scope C) target d ρc ρ' ∧ SubEnv ρc ρ' ∧ CompRes (c.inner scope C) ρ' ifs elt (F d))
    (hs : ∀ x, foldedSetIterable iter c.env x = pure x)
    (hq : Q .next ((x, .list (ds.filterMap F)) :: ρ)) (hk : storable c x = true)
    (hsw : swapsWith (.ListComp elt [⟨target, iter, ifs, 0⟩] scope cpos) (some (.Name x px)) pos.line c.env = pure true) :
    Ex1 c ρ (.Assign [.Name x px] (.ListComp elt [⟨target, iter, ifs, 0⟩] scope cpos) pos) Q := .mk fun A T s ha st => by
  rw [exec_Assign_Name_used _ _ _ _ hsw, evalThenUse_comp]
  refine wpAny_bind (wpAny_standAt (wpAny_bind (wpAny_bind ?_)))
  refine wpAny_mono (comp_main (Qv := fun _ s' => ∃ ρ' T' pf, St c ρ' T' s' ∧ Evo c.G (c.X T) s s' ∧ TGrow s T T' ∧ FlOk s' c.P .next pf ∧ Q pf ρ') ok ha st hiter hds hlen hok hρ F turn hs fun s' C D vs n m e hC hD hne hn l r => ?_) (fun _ _ h => wpAny_pure (wpAny_pure h)) fun _ _ h => h
  show wpAny c.M A (assign (.Name x px) c.env (.ref D)) _ _ s'
  have st' := st.ext e
  have hlen' : (ds.filterMap F).length ≤ sizeLine := Nat.le_trans (List.length_filterMap_le _ _) hlen
  have hCne : ∀ a o, s.heap.get? a = some o → a ≠ C := fun a o h q => by rw [q, hC] at h; cases h
  refine PyProof.Rows.assign_Name (st'.storing ok (storable_spec hk) fun s'' ev hl hns hmc hx hy => ?_)
  have hCL : C ≠ c.L := fun q => by
    obtain ⟨m', o, _, _, hL, _⟩ := st.ns
    exact hCne _ _ hL q.symm
  have hCmc : C ∉ c.mc := fun q => by
    obtain ⟨v, o, hc, _⟩ := st.mcs C q
    exact hCne _ _ hc rfl
  have hn'' : s''.heap.Ns C m := st'.wd.ns_keep ev (fun q => q.elim hCL hCmc) hn
  refine ⟨m, hn'', fun h' hsb => ?_⟩
  have evC : Evo c.G (fun b => b = C) s'' { s'' with heap := h', toks := s''.toks } := Evo.but (fun b o hb e => (hsb.2 b hb).trans e) rfl (st.wd.dead₁ hC) fun o e => by
    obtain ⟨o', es, ep, hL, hd, _⟩ := hn''
    rw [hL] at e; cases e
    exact not_codeLike_dict hd
  have evT : Evo c.G c.Xs s { s'' with heap := h' } := by
    refine ⟨fun b o hb t n => ?_, fun w => evC.wd (ev.wd (e.wd w))⟩
    exact (hsb.2 b (hCne b o hb)).trans (ev.keep b o (e.keep b o hb t (fun h => h)) t n)
  have notC : ∀ a, a ≠ C → ∀ o, s''.heap.get? a = some o → h'.get? a = some o := fun a ha o h => (hsb.2 a ha).trans h
  have cellNe : ∀ a w, s''.heap.IsCell a w → a ≠ C := fun a w ⟨o, ho, hd⟩ q => by
    subst q
    obtain ⟨o', es, ep, hL, hd', _⟩ := hn''
    rw [hL] at ho; cases ho
    rw [hd] at hd'; cases hd'
  have varC : ∀ {y v}, VarAt c s'' y v → VarAt c { s'' with heap := h' } y v := fun {y v} h => var_but hCL (fun y a _ ⟨w, hc⟩ => cellNe a w hc) hsb h
  have lstC : ∀ a vs n, IsL s''.heap a vs n → IsL h' a vs n := fun a vs n l => notC a (fun q => by
    subst q
    obtain ⟨o', es, ep, hL, hd', _⟩ := hn''
    have := l.symm.trans hL; cases this; cases hd') _ l
  have hl' : ∀ a vs n, IsL s.heap a vs n → IsL h' a vs n := fun a vs n l => lstC _ _ _ (hl _ _ _ (st.wd.list_keep e (fun h => h) l))
  have hns' : ∃ m, ({ s'' with heap := h' } : Shared).heap.Ns c.L m := let ⟨m', hm⟩ := hns; ⟨m', hm.sameBut hsb hCL.symm⟩
  have hmc' : ∀ a ∈ c.mc, ∃ v, ({ s'' with heap := h' } : Shared).heap.IsCell a v := fun a ha => let ⟨v, hc⟩ := hmc a ha; ⟨v, hc.sameBut hsb (cellNe a v hc)⟩
  have hy' : ∀ y w, y ≠ x → VarAt c s y w → VarAt c { s'' with heap := h' } y w := fun y w q h => varC (hy y w q (VarAt.ext st e h))
  have rI : RepAll h' (fun a => c.Q T a ∧ a ≠ D) (ds.filterMap F) vs.toList := by
    have r1 : RepAll s''.heap (fun a => c.Q T a ∧ a ≠ D ∧ a ≠ C) (ds.filterMap F) vs.toList := r.evo st'.wd ev fun b h q => Cx.Q_notX h.1 (Cx.Xs_X q)
    exact RepAll.mono (fun b o hb _ p => ⟨⟨p.1, p.2.1⟩, notC b p.2.2 o hb⟩) _ _ r1
  have lD : IsL h' D vs n := lstC _ _ _ (hl _ _ _ l)
  by_cases ho : x ∈ c.own
  · refine ⟨_, (x, D) :: T, .next, st.finalOwn ok ho hD evT hl' hns' hmc' (varC hx) hy' lD rI hlen', evT.weak fun _ => Cx.Xs_X, ⟨fun p hp => List.mem_cons_of_mem _ hp, fun p hp => ?_⟩, trivial, hq⟩
    rcases List.mem_cons.mp hp with rfl | hp
    · exact .inr hD
    · exact .inl hp
  · refine ⟨_, T, .next, st.final ok ho evT hl' hns' hmc' (varC hx) hy' ?_, evT.weak fun _ => Cx.Xs_X, TGrow.refl, trivial, hq⟩
    simp only [Rep]
    exact ⟨D, vs, n, rfl, st.newP ok hD, lD, rI.weak fun _ h => h.1, hlen'⟩
end
end Mine
end

section
open PySem PyProof.Rows
open PySem.SeqAt
open MeetsSeq
namespace Mine

/-! ### a function of the text's own is entered -/
noncomputable def fnEnv (qual : Str) (scope : Scope) (L fa : Addr) (cd : Value) : Env :=
  { scope := scope, locals := L, globals := mainGlobals, cells := cellsFrom (L + 1) scope.names [], qual := qual ++ ".<locals>.", func := some fa, code := cd, frame := some L, builtins := builtinsNs }

structure FnDef (G : Wo) (fa : Addr) (qual : Str) (params : List Str) (body : List Stmt) (scope : Scope) (cd : Value) : Prop where
  obj : ∃ o fd, G.h₁.get? fa = some o ∧ o.data = .func fd ∧ fd.scope = scope ∧ fd.body = .stmts body ∧ fd.globals = mainGlobals ∧ fd.closure = [] ∧ fd.builtins = builtinsNs ∧ fd.code = cd ∧ fd.qualname = qual ∧
    ∀ vs : List Value, vs.length = params.length → bindArgs fd ⟨vs, []⟩ = pure (params.zip vs)
  code : G.h₁.CodeRec cd qual
  codeT : ∀ a, cd = .ref a → ¬ G.Tb a
  kind : scope.kind = .function
  co : scope.isCoroutine = false
  gen : scope.isGenerator = false
  locs : ∀ x ∈ params, scope.names.lookup x = some .local ∨ scope.names.lookup x = some .cell

noncomputable def fnCx (G : Wo) (P : Addr → Prop) (h₀ : Heap) (qual : Str) (scope : Scope) (fa : Addr) (cd : Value) (own : List Str) (rk : Nat) : Cx where
  G := G
  env := fnEnv qual scope h₀.objs.size fa cd
  h₀ := h₀
  P := P
  mc := (cellsFrom (h₀.objs.size + 1) scope.names []).map (·.2)
  own := own
  rk := rk
  comp := false
  av := []

section
variable {G : Wo} {mg mb : Str → Option Value}

theorem get_ge {h : Heap} {a : Addr} (ha : h.objs.size ≤ a) : h.get? a = none := by
  cases e : h.get? a with
  | none => rfl
  | some o => exact absurd (Heap.lt_size e) (Nat.not_lt.mpr ha)

theorem cells_mc {scope : Scope} {n : Nat} {x : Str} (h : scope.names.lookup x = some .cell) : ∃ a ∈ (cellsFrom n scope.names []).map (·.2), (cellsFrom n scope.names []).lookup x = some a := by
  obtain ⟨a, ha⟩ := Option.isSome_iff_exists.mp (PySem.W.cellsFrom_some scope.names n [] (.inl h))
  exact ⟨a, List.mem_map.mpr ⟨(x, a), mem_of_lookup ha, rfl⟩, ha⟩

theorem fnCx_ok {P : Addr → Prop} {s : Shared} (w : Wd G s) (hP : ∀ a, s.heap.get? a = none → P a) {qual : Str} {scope : Scope} {fa : Addr} {cd : Value} {own : List Str} {rk : Nat} (hk : scope.kind = .function) (ho : Str.empty ∉ own) :
    (fnCx G P s.heap qual scope fa cd own rk).Ok := by
  have CO := cellsFrom_ok scope.names (s.heap.push { cls := .type "frame", data := .dict #[] }) (s.heap.objs.size + 1) [] ⟨(fun _ _ h => nomatch h), .nil⟩ (by simp)
  rw [show (s.heap.push { cls := .type "frame", data := .dict #[] }).objs.size = s.heap.objs.size + 1 from Heap.size_push ..] at CO
  refine ⟨hk, rfl, rfl, get_new, fun a ha => ?_, hP, fun a t => ?_, fun a o h => ?_, fun x hx _ => cells_mc hx, ho, (fun a h => nomatch h), fun _ => CO.apart⟩
  · obtain ⟨⟨y, b⟩, hm, rfl⟩ := List.mem_map.mp ha
    exact get_ge (Nat.le_of_succ_le (CO.empty y b hm).2)
  · obtain ⟨o, e, _⟩ := w.tb a t
    exact ⟨o, e⟩
  · by_cases t : G.Tb a
    · obtain ⟨o, e, _⟩ := w.tb a t
      exact ⟨o, e⟩
    · exact ⟨o, w.old a o h t⟩

theorem binds_st {c : Cx} (ok : c.Ok) {A : Around} {E : Value → Shared → Prop} {R : PUnit → Shared → Prop} {T : Own1} (f : Str × Value → PUnit → Sem (ForInStep PUnit)) (hf : ∀ x v u, f (x, v) u = (do storeName c.env x v; pure (.yield ⟨⟩))) :
    ∀ (xs : List Str) (ds : List PV) (vs : List Value) (ρ : Env1) (s : Shared), St c ρ T s → RepAll s.heap (c.Q T) ds vs → xs.length = ds.length →
      (∀ x ∈ xs, (c.env.kindOf x = some .local ∨ (c.env.kindOf x = some .cell ∧ c.comp = false)) ∧ x ∉ c.own) →
      (∀ s', Evo c.G c.Xs s s' → St c ((xs.zip ds).reverse ++ ρ) T s' → R ⟨⟩ s') → wpAny c.M A (forIn (xs.zip vs) ⟨⟩ f) R E s
  | [], ds, vs, ρ, s, st, r, hl, hx, k => by
    rw [List.zip_nil_left, List.forIn_nil]
    exact wpAny_pure (k s Evo.refl (by simpa using st))
  | x :: xs, d :: ds, vs, ρ, s, st, r, hl, hx, k => by
    simp only [RepAll] at r
    obtain ⟨v, r', rfl, r1, r2⟩ := r
    rw [List.zip_cons_cons, List.forIn_cons, hf]
    refine wpAny_bind (wpAny_bind (st.store ok (hx x List.mem_cons_self).1 (hx x List.mem_cons_self).2 r1 fun s' e st' => wpAny_pure ?_))
    refine binds_st ok f hf xs ds r' _ s' st' (r2.evo st.wd e fun b h q => Cx.Q_notX h (Cx.Xs_X q)) (by simpa using hl) (fun y hy => hx y (List.mem_cons_of_mem _ hy)) fun s'' e' st'' => k s'' (e.trans e') ?_
    simpa using st''
  | x :: xs, [], vs, ρ, s, st, r, hl, hx, k => by simp at hl

/-- the contract of a function, from its body -/
theorem Fn_of (g : Gl G mg mb) {fa : Addr} {qual : Str} {params : List Str} {body : List Stmt} {scope : Scope} {cd : Value} (D : FnDef G fa qual params body scope cd) (own : List Str) (k : Nat) {f : List PV → PV → Prop}
    (hown : (own.contains Str.empty = false ∧ ∀ x ∈ params, own.contains x = false)) (hfl : ∀ ds d, f ds d → ds.length = params.length)
    (h : ∀ (P : Addr → Prop) (h₀ : Heap) (ds : List PV) (d : PV), (fnCx G P h₀ qual scope fa cd own k).Ok → f ds d →
      Ex (fnCx G P h₀ qual scope fa cd own k) (params.zip ds).reverse body (fun pf _ => match pf with | .ret d' => d' = d | _ => d = .none)) : Fn G (k + 1) fa f := by
  refine .mk fun A s P vs ds d ha w hP r hfd => ?_
  obtain ⟨o, fd, ho, hod, hsc, hbody, hglob, hclos, hblt, hcode, hqual, hbind⟩ := D.obj
  have hnotT : ¬ G.Tb fa := g.tb _ _ ho (not_codeLike_func hod)
  have hcd : s.heap.CodeRec fd.code fd.qualname := by
    rw [hcode, hqual]
    obtain ⟨c, o', vs', t, e1, e2, e3, e4⟩ := D.code
    exact ⟨c, o', vs', t, e1, w.old _ _ e2 (D.codeT c e1), e3, e4⟩
  have hlen := hfl ds d hfd
  have okm : ∀ b ∈ (fnCx G P s.heap qual scope fa cd own k).mc, s.heap.get? b = none := (fnCx_ok (qual := qual) (fa := fa) (cd := cd) (own := []) (rk := k) w hP D.kind (fun q => nomatch q)).mcnew
  have ok : (fnCx G P s.heap qual scope fa cd own k).Ok := fnCx_ok w hP D.kind (fun q => by rw [List.contains_iff_mem.mpr q] at hown; exact absurd hown.1 (by simp))
  refine codeAny_call_function (by have := ha.depth; show A.depth < 1000; omega) (w.old _ _ ho hnotT) hod (by rw [hsc]; exact D.co) (by rw [hsc]; exact D.gen) hbody hcd ?_
  rw [hbind vs (by rw [r.length, hlen])]
  refine wpAny_pure ?_
  rw [hsc, hglob, hclos, hblt, hcode, hqual]
  unfold newFunctionEnv
  simp only [Option.isSome_none, Bool.false_eq_true, if_false]
  refine wpAny_bind (wpAny_alloc ?_)
  refine wpAny_bind (wpAny_layCells _ (fun name kind cells => rfl) scope.names [] _ _ ?_)
  -- the state with the cells laid
  have CO := cellsFrom_ok scope.names (s.heap.push { cls := .type "frame", data := .dict #[] }) (s.heap.objs.size + 1) [] ⟨(fun _ _ h => nomatch h), .nil⟩ (by simp)
  have hsz : (s.heap.push { cls := .type "frame", data := .dict #[] }).objs.size = s.heap.objs.size + 1 := Heap.size_push ..
  rw [hsz] at CO
  have kk : ∀ b o, s.heap.get? b = some o → (pushCells (s.heap.push { cls := .type "frame", data := .dict #[] }) scope.names).get? b = some o := fun b o e => pushCells_keeps _ _ _ _ (Heap.get?_push_of_some _ e)
  have e1 : Ext G s { s with heap := pushCells (s.heap.push { cls := .type "frame", data := .dict #[] }) scope.names, toks := s.toks } := Ext.of kk
  have st₁ : St (fnCx G P s.heap qual scope fa cd own k) [] [] { s with heap := pushCells (s.heap.push { cls := .type "frame", data := .dict #[] }) scope.names, toks := s.toks } := by
    refine ⟨e1.wd w, fun b o e _ => kk b o e, ⟨fun _ => none, ?_⟩, fun a ha => ?_, (fun x d hd => nomatch hd), (fun p hp => nomatch hp), .nil, (fun a ha => nomatch ha)⟩
    · exact (Heap.Ns.new s.heap _).keeps fun b o e => pushCells_keeps _ _ _ _ e
    · obtain ⟨⟨y, b⟩, hm, rfl⟩ := List.mem_map.mp ha
      exact ⟨none, (CO.empty y b hm).1⟩
  show wpAny _ _ ((forIn (params.zip vs) PUnit.unit _) >>= _) _ _ _
  rw [show ({ s with heap := s.heap.push { cls := .type "frame", data := .dict #[] } } : Shared).heap.objs.size = s.heap.objs.size + 1 from hsz]
  have r₁ : RepAll (pushCells (s.heap.push { cls := .type "frame", data := .dict #[] }) scope.names) ((fnCx G P s.heap qual scope fa cd own k).Q []) ds vs := by
    refine RepAll.mono (fun b o e _ p => ⟨⟨⟨p, fun q => ?_, fun q => ?_, (fun q => nomatch q)⟩, (fun _ hp => nomatch hp)⟩, kk b o e⟩) _ _ r
    · have q' : b = s.heap.objs.size := q
      rw [q', get_new] at e; cases e
    · rw [okm b q] at e; cases e
  refine wpAny_bind (binds_st (c := fnCx G P s.heap qual scope fa cd own k) (T := []) (R := fun _ s' => wpAny _ _ (pure (fnEnv qual scope s.heap.objs.size fa cd)) _ _ s') ok _ (fun x v u => rfl) params ds vs [] _ st₁ r₁ hlen.symm (fun x hx => ⟨?_, fun q => ?_⟩) fun s₂ e₂ st₂ => wpAny_pure ?_)
  · rcases D.locs x hx with q | q
    · exact .inl q
    · exact .inr ⟨q, rfl⟩
  · have q' : x ∈ own := q
    have := hown.2 x hx
    rw [List.contains_iff_mem.mpr q'] at this; cases this
  refine ⟨g.noLimit st₂.wd, codeAny_func ?_⟩
  have ha' : AOk k (A.deeper (fnEnv qual scope s.heap.objs.size fa cd)) := ⟨ha.handled, by have := ha.depth; show A.depth + 1 + k ≤ 690; omega, by have := ha.units; show A.units + 3 + 20 * k ≤ 9000; omega⟩
  rw [List.append_nil] at st₂
  refine wpAny_mono ((h P s.heap ds d ok hfd).run _ [] s₂ ha' st₂) (fun fl s₃ ⟨ρ', T', pf, st₃, e₃, g₃, f₃, q₃⟩ => ?_) fun _ _ x => x.elim
  have ext : Ext G s s₃ := by
    refine ⟨fun b o e t _ => e₃.keep b o (e₂.keep b o (kk b o e) t fun q => ?_) t fun q => ?_, fun w => st₃.wd⟩
    · rcases q with q | q
      · have q' : b = s.heap.objs.size := q
        rw [q', get_new] at e; cases e
      · rw [okm b q] at e; cases e
    · rcases q with q | q | ⟨p, hp, _⟩
      · have q' : b = s.heap.objs.size := q
        rw [q', get_new] at e; cases e
      · rw [okm b q] at e; cases e
      · cases hp
  cases fl with
  | ret v => cases pf <;> simp [FlOk] at f₃; subst q₃; exact ⟨v, rfl, ext, f₃⟩
  | next => cases pf <;> simp [FlOk] at f₃; subst q₃; exact ⟨.none, rfl, ext, by simp only [Rep]⟩
  | brk => cases pf <;> simp [FlOk] at f₃; subst q₃; exact ⟨.none, rfl, ext, by simp only [Rep]⟩
  | cont => cases pf <;> simp [FlOk] at f₃; subst q₃; exact ⟨.none, rfl, ext, by simp only [Rep]⟩
end
end Mine
end

section
open PySem PyProof.Rows
open PySem.SeqAt
namespace Mine

/-! ### the built-ins -/
theorem RepAll.inv1 {h : Heap} {P : Addr → Prop} {d : PV} {vs : List Value} (r : RepAll h P [d] vs) : ∃ v, vs = [v] ∧ Rep h P d v := by
  simp only [RepAll] at r; obtain ⟨v, r, rfl, a, rfl⟩ := r; exact ⟨v, rfl, a⟩
theorem RepAll.inv2 {h : Heap} {P : Addr → Prop} {d e : PV} {vs : List Value} (r : RepAll h P [d, e] vs) : ∃ v u, vs = [v, u] ∧ Rep h P d v ∧ Rep h P e u := by
  simp only [RepAll] at r; obtain ⟨v, r, rfl, a, u, r', rfl, b, rfl⟩ := r; exact ⟨v, u, rfl, a, b⟩
section
variable {G : Wo}

theorem BiOk_len_str {x : Str} : BiOk G (.builtin "len") [.str x] (.int x.length) := .mk fun A s P vs _ _ _ wd r₀ => by
  obtain ⟨v, rfl, r⟩ := r₀.inv1
  simp only [Rep] at r; obtain ⟨⟨t, rfl⟩, hz⟩ := r
  rw [sizeLine_is] at hz
  exact PySem.P.len_str (by omega) ⟨Ext.tok, by simp only [Rep]; exact ⟨_, rfl⟩⟩
theorem BiOk_len_list {ds : List PV} : BiOk G (.builtin "len") [.list ds] (.int ds.length) := .mk fun A s P vs _ _ _ wd r₀ => by
  obtain ⟨v, rfl, r⟩ := r₀.inv1
  simp only [Rep] at r; obtain ⟨a, vs, n, rfl, _, l, ra, z⟩ := r
  rw [sizeLine_is] at z
  have hl : vs.size = ds.length := by simpa using ra.length
  exact Calls.call_len_list l.isList (by omega) ⟨Ext.tok, by simp only [Rep]; exact ⟨_, by rw [hl]⟩⟩
theorem BiOk_range1 {n : Int} : BiOk G (.type "range") [.int n] (.range 0 n 1) := .mk fun A s P vs _ _ _ wd r₀ => by
  obtain ⟨v, rfl, r⟩ := r₀.inv1
  simp only [Rep] at r; obtain ⟨t, rfl⟩ := r
  exact call_range_1 ⟨Ext.push, by simp only [Rep]; exact ⟨_, _, _, _, rfl, .inr get_new, IsRange.new _ _ _ _ _ _ _⟩⟩
theorem BiOk_range2 {a b : Int} : BiOk G (.type "range") [.int a, .int b] (.range a b 1) := .mk fun A s P vs _ _ _ wd r₀ => by
  obtain ⟨v, u, rfl, r, r2⟩ := r₀.inv2
  simp only [Rep] at r r2; obtain ⟨t, rfl⟩ := r; obtain ⟨t', rfl⟩ := r2
  exact call_range_2 ⟨Ext.push, by simp only [Rep]; exact ⟨_, _, _, _, rfl, .inr get_new, IsRange.new _ _ _ _ _ _ _⟩⟩
/-! #### texts -/
theorem RepAll.strs {h : Heap} {P : Addr → Prop} : ∀ {xs : List Str} {vs : List Value}, RepAll h P (xs.map .str) vs → ∃ l : List (Str × Tok), vs = strValues l ∧ l.map (·.1) = xs
  | [], vs, r => by simp only [List.map_nil, RepAll] at r; exact ⟨[], r, rfl⟩
  | x :: xs, vs, r => by
    simp only [List.map_cons, RepAll] at r
    obtain ⟨v, r, rfl, a, b⟩ := r
    simp only [Rep] at a
    obtain ⟨⟨t, rfl⟩, _⟩ := a
    obtain ⟨l, rfl, rfl⟩ := RepAll.strs b
    exact ⟨(x, t) :: l, rfl, rfl⟩

/-- what join gives -/
noncomputable def jn (sep : Str) : List Str → Str
  | [] => mkS []
  | [x] => x
  | x :: y :: r => x ++ sep ++ jn sep (y :: r)
theorem jn_eq (sep : Str) : ∀ xs, Txt.join sep xs = jn sep xs := by
  intro xs
  show Builtin.Str.glued sep xs = _
  rw [StrLaws.glued_eq_join]
  induction xs with
  | nil => rfl
  | cons x r ih =>
    cases r with
    | nil => rfl
    | cons y r => show x ++ sep ++ Str.join sep (y :: r) = x ++ sep ++ jn sep (y :: r); rw [ih]

theorem joinOk_of {sep : Str} {xs : List Str} (h : (xs.map (·.length)).sum + xs.length * sep.length ≤ sizeLine) : JoinOk sep xs = true := by
  unfold JoinOk
  rw [StrLaws.joinTotal]
  have : PySem.Builtin.Str.tooLong ((xs.map (·.length)).sum + xs.length * sep.length) = false := by
    unfold PySem.Builtin.Str.tooLong; simpa using h
  rw [this]; rfl

theorem BiOk_join {sep : Str} {xs : List Str} (h : (xs.map (·.length)).sum + xs.length * sep.length ≤ sizeLine) : BiOk G (.builtin "str.join") [.str sep, .list (xs.map .str)] (.str (jn sep xs)) := .mk fun A s P vs _ _ _ wd r₀ => by
  obtain ⟨v, u, rfl, r, r2⟩ := r₀.inv2
  simp only [Rep] at r r2; obtain ⟨⟨t, rfl⟩, _⟩ := r; obtain ⟨a, vs, n, rfl, _, l, ra, z⟩ := r2
  obtain ⟨ll, e, ht⟩ := ra.strs
  have hok := joinOk_of h
  refine SC.join (l := ll) (texts := xs) (by rw [← e]; exact l.isList) ht hok fun t' k => ⟨Ext.tok, ?_⟩
  simp only [Rep]; rw [jn_eq]; exact ⟨⟨_, rfl⟩, by rw [← jn_eq]; exact joinOk_length hok⟩
end

section
variable {c : Cx} {ρ : Env1} {b : Bool} {mg mb : Str → Option Value}
/-- a built-in's name as a value -/
theorem Ev_builtin (ok : c.Ok) (g : Gl c.G mg mb) {x : Str} {pos : Pos} {v : Value} (hk : c.env.kindOf x = some .globalImplicit) (hv : mg x = none) (hb : bootBuiltins x = some v) (hp : plainName x = true) (hn : x ≠ "__name__") :
    Ev c ρ b (.Name x pos) (.raw [] v) := .mk fun A T s ha st =>
  load_builtin ok g hk hv hb hp hn st.wd ⟨Evo.refl, by simp only [Rep]; exact ⟨trivial, fun _ h => by cases h⟩⟩
end
end Mine
end

section
open PySem PyProof.Rows
open PySem.Sre
namespace Mine

/-! ### the machine, step by step -/
noncomputable def itm : Nat → M → M
  | 0, m => m
  | n + 1, m => itm n m.step
theorem itm_add : ∀ (a b : Nat) (m : M), itm (a + b) m = itm b (itm a m)
  | 0, b, m => by simp [itm]
  | a + 1, b, m => by rw [Nat.succ_add]; exact itm_add a b m.step
theorem step_done {m : M} (h : m.outcome.isSome = true) : m.step = m := by unfold M.step; simp [h]
theorem itm_done {m : M} (h : m.outcome.isSome = true) : ∀ n, itm n m = m
  | 0 => rfl
  | n + 1 => by rw [itm, step_done h]; exact itm_done h n
theorem runFor_eq : ∀ (n : Nat) (m : M), m.runFor n = itm n m
  | 0, m => rfl
  | n + 1, m => by
    unfold M.runFor
    by_cases h : m.outcome.isSome = true
    · simp only [h, if_true]; exact (itm_done h (n + 1)).symm
    · simp only [h]; exact runFor_eq n m.step

/-- within k steps from m to m' -/
noncomputable def Go (k : Nat) (m m' : M) : Prop := ∃ n, n ≤ k ∧ itm n m = m'
theorem Go.refl {m : M} : Go 0 m m := ⟨0, Nat.le_refl _, rfl⟩
theorem Go.trans {j k : Nat} {m m' m'' : M} : Go j m m' → Go k m' m'' → Go (j + k) m m''
  | ⟨a, ha, ea⟩, ⟨b, hb, eb⟩ => ⟨a + b, by omega, by rw [itm_add, ea, eb]⟩
theorem Go.one {m m' : M} (h : m.step = m') : Go 1 m m' := ⟨1, Nat.le_refl _, h⟩
theorem Go.mono {j k : Nat} {m m' : M} (h : j ≤ k) : Go j m m' → Go k m m'
  | ⟨a, ha, ea⟩ => ⟨a, by omega, ea⟩

/-- the leading signs that χ accepts -/
noncomputable def lead (χ : Nat → Bool) (l : List Nat) : Nat := (l.takeWhile χ).length

theorem run_eq {code text : Array Nat} {i : Nat} {χ : Nat → Bool} (hacc : ∀ c σ, ∃ σ', accepts code i c σ = .ok (χ c, σ')) :
    ∀ (n p found : Nat) (σ : Sre.Seen), p + n = text.size → ∃ σ', Sre.run code text i n p found σ = .ok (found + lead χ (text.toList.drop p), σ')
  | 0, p, found, σ, h => by
    refine ⟨σ, ?_⟩
    have : text.toList.drop p = [] := by simp; omega
    simp [Sre.run, this, lead]
  | n + 1, p, found, σ, h => by
    have hp : p < text.toList.length := by simp; omega
    have hd : text.toList.drop p = text.toList[p] :: text.toList.drop (p + 1) := List.drop_eq_getElem_cons hp
    have hg : text.getD p 0 = text.toList[p] := by simp [Array.getD, show p < text.size by omega]
    obtain ⟨σ₁, e₁⟩ := hacc (text.getD p 0) σ
    unfold Sre.run
    rw [e₁]
    simp only [bind, Except.bind]
    rw [hg]
    by_cases hc : χ text.toList[p] = true
    · obtain ⟨σ₂, e₂⟩ := run_eq (text := text) hacc n (p + 1) (found + 1) σ₁ (by omega)
      refine ⟨σ₂, ?_⟩
      simp only [hc, if_true]
      rw [e₂, hd, lead, lead, List.takeWhile_cons_of_pos hc, List.length_cons]
      congr 2; omega
    · refine ⟨σ₁, ?_⟩
      simp only [hc]
      rw [hd, lead, List.takeWhile_cons_of_neg hc]
      rfl

structure Live (m : M) : Prop where
  out : m.outcome = none
  ans : m.answer = none
  pc : m.pc < m.code.size

theorem step_live {m : M} (h : Live m) : m.step = m.exec := by
  unfold M.step
  simp [h.out, h.ans, h.pc]

theorem step_at {m : M} {k : Nat} {yes : Bool} (h : Live m) (h0 : m.code.getD m.pc 0 = 6) (h1 : m.code.getD (m.pc + 1) 0 = k) (hk : m.isAt k = .ok yes) :
    ∃ σ, m.step = if yes then { m with seen := σ, pc := m.pc + 2 } else ({ m with seen := σ } : M).say false := by
  rw [step_live h]
  unfold M.exec M.word
  rw [Nat.add_zero, h0]
  refine ⟨(m.seen.add 6).add (43 + k), ?_⟩
  show (match ({ m with seen := m.seen.add 6 } : M).isAt (m.code.getD (m.pc + 1) 0) with | .error why => _ | .ok yes => _) = _
  rw [h1, show ({ m with seen := m.seen.add 6 } : M).isAt k = m.isAt k from rfl, hk]

theorem step_succ {m : M} (h : Live m) (h0 : m.code.getD m.pc 0 = 1) (hw : m.wholeText = false) (ha : m.mustAdvance = false) :
    ∃ σ, m.step = ({ m with seen := σ, handed := m.pos } : M).say true := by
  rw [step_live h]
  unfold M.exec M.word
  rw [Nat.add_zero, h0]
  refine ⟨m.seen.add 1, ?_⟩
  show (if (m.outermost && ((m.wholeText && _) || (m.mustAdvance && _))) = true then _ else _) = _
  rw [hw, ha]
  simp only [Bool.false_and, Bool.or_false, Bool.and_false, Bool.false_eq_true, if_false]

theorem step_mark {m : M} {i : Nat} (h : Live m) (h0 : m.code.getD m.pc 0 = 17) (h1 : m.code.getD (m.pc + 1) 0 = i) :
    ∃ σ, m.step = ({ m with seen := σ } : M).mark i := by
  rw [step_live h]
  unfold M.exec M.word
  rw [Nat.add_zero, h0]
  refine ⟨m.seen.add 17, ?_⟩
  show M.mark _ (m.code.getD (m.pc + 1) 0) = _
  rw [h1]

theorem step_rep {m : M} {χ : Nat → Bool} {sk : Nat} (h : Live m) (h0 : m.code.getD m.pc 0 = 24) (h1 : m.code.getD (m.pc + 1) 0 = sk) {least : Nat} (h2 : m.code.getD (m.pc + 2) 0 = least) (h3 : m.code.getD (m.pc + 3) 0 = 4294967295)
    (hacc : ∀ c σ, ∃ σ', accepts m.code (m.pc + 4) c σ = .ok (χ c, σ')) (hlim : m.lim = m.text.size) (hpos : m.pos ≤ m.lim) (hsz : m.lim ≤ 4294967295) (hw : m.weight + 1 ≤ 16777216) (hin : m.inner = none)
    {n : Nat} (hn : lead χ (m.text.toList.drop m.pos) = n) (hle : least ≤ n) (hroom : least ≤ m.lim - m.pos) :
    ∃ σ, m.step = { m with seen := σ, frames := List.cons (Sre.Frame.mk .giveBack m.pc (m.pos + n) m.outermost n (Kept.mk m.lastmark m.lastindex false #[]) 0 none) m.frames, weight := m.weight + 1, pc := m.pc + 1 + sk, pos := m.pos + n, handed := m.pos + n } := by
  rw [step_live h]
  obtain ⟨σ, e⟩ := run_eq (text := m.text) hacc (m.lim - m.pos) m.pos 0 ((m.seen.add 24).add (m.code.getD (m.pc + 4) 0)) (by omega)
  refine ⟨σ, ?_⟩
  have e' : Sre.run m.code m.text (m.pc + 4) (min 4294967295 ((m.lim : Int) - m.pos).toNat) m.pos 0 ((m.seen.add 24).add (m.code.getD (m.pc + 4) 0)) = .ok (n, σ) := by
    rw [show min 4294967295 ((m.lim : Int) - m.pos).toNat = m.lim - m.pos by omega, e, Nat.zero_add, hn]
  have q : ¬ ((least : Int) > (m.lim : Int) - m.pos) := by omega
  unfold M.exec M.word
  rw [Nat.add_zero, h0]
  show (if (m.code.getD (m.pc + 2) 0 : Int) > (m.lim : Int) - m.pos then _ else match Sre.run m.code m.text (m.pc + 4) (min (m.code.getD (m.pc + 3) 0) ((m.lim : Int) - m.pos).toNat) m.pos 0 ((m.seen.add 24).add (m.code.getD (m.pc + 4) 0)) with | .error why => _ | .ok (n, seen) => _) = _
  rw [h2, h3, if_neg q, e']
  show (if n < least then _ else M.afterRun _ _ _ _) = _
  rw [if_neg (by omega)]
  unfold M.afterRun M.attempt M.keep M.frame M.word
  simp only [hin, h1]
  show (if m.weight + 1 + 0 > 16777216 then _ else _) = _
  rw [if_neg (by omega)]
  rfl

/-- all is said: the frames of runs and starts are left with yes -/
theorem leave_yes : ∀ (fs : List Sre.Frame) (m : M), m.frames = fs → (∀ f ∈ fs, f.wait = .giveBack ∨ f.wait = .nextStart) → m.outcome = none → m.answer = some true →
    ∃ m', Go (fs.length + 1) m m' ∧ m'.outcome = some .matched ∧ m'.start = m.start ∧ m'.handed = m.handed ∧ m'.marks = m.marks ∧ m'.lastmark = m.lastmark ∧ m'.lastindex = m.lastindex
  | [], m, hf, hw, ho, ha => by
    refine ⟨{ m with outcome := some .matched }, Go.one ?_, rfl, rfl, rfl, rfl, rfl, rfl⟩
    unfold M.step
    simp [ho, ha, hf]
  | f :: fs, m, hf, hw, ho, ha => by
    have hs : m.step = ({ m with answer := none, frames := fs, weight := m.weight - (1 + f.kept.marks.size), pc := f.pc, pos := f.pos, outermost := f.outermost } : M).say true := by
      unfold M.step
      simp only [ho, ha, hf, Option.isSome_none, Bool.false_eq_true, if_false]
      unfold M.resume
      rcases hw f (List.mem_cons_self ..) with e | e <;> rw [e] <;> rfl
    obtain ⟨m', g, r⟩ := leave_yes fs (({ m with answer := none, frames := fs, weight := m.weight - (1 + f.kept.marks.size), pc := f.pc, pos := f.pos, outermost := f.outermost } : M).say true) rfl (fun x hx => hw x (List.mem_cons_of_mem _ hx)) ho rfl
    exact ⟨m', by have := (Go.one hs).trans g; rw [List.length_cons]; exact this.mono (by omega), r⟩

end Mine
end

section
open PySem PyProof.Rows
open PySem.Sre
namespace Mine

noncomputable def C4 : Array Nat := #[14, 4, 0, 0, 4294967295, 6, 0, 24, 9, 0, 4294967295, 13, 4, 8, 12, 0, 1, 6, 5, 1]
noncomputable def C5 : Array Nat := #[14, 4, 0, 0, 4294967295, 6, 0, 17, 0, 24, 11, 0, 4294967295, 13, 6, 16, 32, 16, 9, 0, 1, 17, 1, 1]
noncomputable def C2 : Array Nat := #[14, 4, 0, 0, 4294967295, 6, 0, 17, 0, 24, 11, 0, 4294967295, 13, 6, 16, 32, 16, 9, 0, 1, 24, 6, 0, 4294967295, 16, 35, 1, 17, 1, 1]
noncomputable def CL : Array Nat := #[14, 4, 0, 0, 4294967295, 24, 11, 0, 4294967295, 13, 6, 16, 32, 16, 9, 0, 1, 1]
noncomputable def C3 : Array Nat := #[14, 4, 0, 1, 4294967295, 17, 0, 24, 9, 1, 4294967295, 13, 4, 8, 12, 0, 1, 17, 1, 1]

noncomputable def white (c : Nat) : Bool := Unicode.isSpace c
noncomputable def blank (c : Nat) : Bool := c == 32 || c == 9
noncomputable def hash (c : Nat) : Bool := c == 35

theorem acc4 (c : Nat) (σ : Sre.Seen) : ∃ σ', accepts C4 11 c σ = .ok (white c, σ') := by
  unfold white
  have : accepts C4 11 c σ = (do if ← (Except.ok (Unicode.isSpace c) : Except String Bool).map (· != (12 % 2 == 1)) then pure (true, (σ.add 8).add (55 + 12)) else inSet C4 c 19 15 true ((σ.add 8).add (55 + 12))) := rfl
  rw [this]
  cases Unicode.isSpace c <;> exact ⟨_, rfl⟩
theorem acc2 (c : Nat) (σ : Sre.Seen) : ∃ σ', accepts C2 13 c σ = .ok (blank c, σ') := by
  unfold blank
  have : accepts C2 13 c σ = (if c == 32 then .ok (true, σ.add 16) else if c == 9 then .ok (true, (σ.add 16).add 16) else .ok (false, ((σ.add 16).add 16).add 0)) := rfl
  rw [this]
  cases c == 32 <;> cases c == 9 <;> exact ⟨_, rfl⟩
theorem acc2h (c : Nat) (σ : Sre.Seen) : ∃ σ', accepts C2 25 c σ = .ok (hash c, σ') := ⟨σ, rfl⟩
theorem accL (c : Nat) (σ : Sre.Seen) : ∃ σ', accepts CL 9 c σ = .ok (blank c, σ') := by
  unfold blank
  have : accepts CL 9 c σ = (if c == 32 then .ok (true, σ.add 16) else if c == 9 then .ok (true, (σ.add 16).add 16) else .ok (false, ((σ.add 16).add 16).add 0)) := rfl
  rw [this]
  cases c == 32 <;> cases c == 9 <;> exact ⟨_, rfl⟩

theorem lead_le (χ : Nat → Bool) (l : List Nat) : lead χ l ≤ l.length := by
  unfold lead; exact (List.takeWhile_sublist χ).length_le
theorem lead_all {χ : Nat → Bool} : ∀ {l : List Nat}, lead χ l = l.length ↔ l.all χ = true
  | [] => by simp [lead]
  | c :: l => by
    have ih := lead_all (χ := χ) (l := l)
    have := lead_le χ l
    unfold lead at *
    by_cases h : χ c = true
    · simp [List.takeWhile_cons_of_pos h, h]; simpa using ih
    · simp [List.takeWhile_cons_of_neg h, h]
theorem lead_next {χ : Nat → Bool} : ∀ {l : List Nat} {c : Nat}, l[lead χ l]? = some c → χ c = false
  | [], c, h => by simp at h
  | d :: l, c, h => by
    have ih := lead_next (χ := χ) (l := l) (c := c)
    unfold lead at *
    by_cases hd : χ d = true
    · rw [List.takeWhile_cons_of_pos hd, List.length_cons, List.getElem?_cons_succ] at h; exact ih h
    · rw [List.takeWhile_cons_of_neg hd] at h; simp at h; subst h; simpa using hd

/-! #### is it white: '^\s*$' -/
structure Back4 (text : Array Nat) (n : Nat) (m : M) : Prop where
  code : m.code = C4
  txt : m.text = text
  lim : m.lim = text.size
  out : m.outcome = none
  ans : m.answer = none
  pc : m.pc = 17
  pos : m.pos = n
  frames : m.frames = [Sre.Frame.mk .giveBack 7 n true n (Kept.mk (-1) (-1) false #[]) 0 none]
  weight : m.weight = 1

theorem back4 {text : Array Nat} : ∀ (n : Nat) (m : M), Back4 text n m → (∀ p, p ≤ n → p ≠ text.size ∧ (p + 1 = text.size → text.getD p 0 ≠ 10)) → ∃ m', Go (2 * n + 3) m m' ∧ m'.outcome = some .failed := by
  intro n
  induction n with
  | zero =>
    intro m b hp
    have hat : m.isAt 5 = .ok false := by
      have := hp 0 (Nat.le_refl _)
      show Except.ok _ = Except.ok _
      rw [b.pos, b.lim, b.txt]
      congr 1
      simp only [Bool.or_eq_false_iff, Bool.and_eq_false_iff, beq_eq_false_iff_ne]
      refine ⟨this.1, ?_⟩
      by_cases h : 0 + 1 = text.size
      · exact .inr (this.2 h)
      · exact .inl h
    obtain ⟨σ, e⟩ := step_at (m := m) (k := 5) ⟨b.out, b.ans, by rw [b.pc, b.code]; decide⟩ (by rw [b.pc, b.code]; rfl) (by rw [b.pc, b.code]; rfl) hat
    rw [if_neg (by simp)] at e
    have e2 : (({ m with seen := σ } : M).say false).step = ({ ({ m with seen := σ } : M).say false with answer := some false, frames := [], weight := 0, pc := 7, pos := 0, outermost := true, lastmark := -1, lastindex := -1 } : M) := by
      unfold M.step M.say
      simp only [b.out, b.frames, Option.isSome_none, Bool.false_eq_true, if_false]
      unfold M.resume M.word M.putBack M.say
      simp only [b.code, b.weight]
      rfl
    refine ⟨{ ({ ({ m with seen := σ } : M).say false with answer := some false, frames := [], weight := 0, pc := 7, pos := 0, outermost := true, lastmark := -1, lastindex := -1 } : M) with outcome := some .failed }, ((Go.one e).trans ((Go.one e2).trans (Go.one ?_))).mono (by omega), rfl⟩
    unfold M.step M.say
    simp only [b.out]
    rfl
  | succ n ih =>
    intro m b hp
    have hat : m.isAt 5 = .ok false := by
      have := hp (n + 1) (Nat.le_refl _)
      show Except.ok _ = Except.ok _
      rw [b.pos, b.lim, b.txt]
      congr 1
      simp only [Bool.or_eq_false_iff, Bool.and_eq_false_iff, beq_eq_false_iff_ne]
      refine ⟨this.1, ?_⟩
      by_cases h : n + 1 + 1 = text.size
      · exact .inr (this.2 h)
      · exact .inl h
    obtain ⟨σ, e⟩ := step_at (m := m) (k := 5) ⟨b.out, b.ans, by rw [b.pc, b.code]; decide⟩ (by rw [b.pc, b.code]; rfl) (by rw [b.pc, b.code]; rfl) hat
    rw [if_neg (by simp)] at e
    have e2 : (({ m with seen := σ } : M).say false).step = ({ ({ m with seen := σ } : M).say false with answer := none, frames := [Sre.Frame.mk .giveBack 7 n true n (Kept.mk (-1) (-1) false #[]) 0 none], weight := 1, pc := 17, pos := n, handed := n, outermost := true, lastmark := -1, lastindex := -1 } : M) := by
      unfold M.step M.say
      simp only [b.out, b.frames, Option.isSome_none, Bool.false_eq_true, if_false]
      unfold M.resume M.word M.putBack M.say
      have q : ¬ (((n + 1 : Nat) : Int) - 1 < ((0 : Nat) : Int)) := by omega
      show (if (((n + 1 : Nat) : Int) - 1 < ((m.code.getD 9 0 : Nat) : Int)) then _ else _) = _
      rw [b.code, show C4.getD 9 0 = 0 from rfl, if_neg q]
      unfold M.afterRun M.attempt M.frame M.word
      show (if m.weight - 1 + 1 + 0 > 16777216 then _ else _) = _
      rw [b.weight, if_neg (by omega)]
      simp only [show ((n + 1 : Nat) : Int) - 1 = (n : Int) by omega]
      rfl
    obtain ⟨m', g, r⟩ := ih _ (show Back4 text n ({ ({ m with seen := σ } : M).say false with answer := none, frames := [Sre.Frame.mk .giveBack 7 n true n (Kept.mk (-1) (-1) false #[]) 0 none], weight := 1, pc := 17, pos := n, handed := n, outermost := true, lastmark := -1, lastindex := -1 } : M) from
      ⟨b.code, b.txt, b.lim, b.out, rfl, rfl, rfl, rfl, rfl⟩) fun p h => hp p (by omega)
    exact ⟨m', ((Go.one e).trans ((Go.one e2).trans g)).mono (by omega), r⟩

theorem run4 {text : Array Nat} (hz : text.size ≤ 16777216) : ∃ m', Go (2 * text.size + 20) (forMatch C4 text 0 0 text.size false false) m' ∧
    (if text.toList.all white then m'.outcome = some .matched ∧ m'.start = 0 ∧ m'.handed = text.size ∧ m'.lastmark = -1 ∧ m'.lastindex = -1 ∧ m'.marks = #[] else m'.outcome = some .failed) := by
  let m : M := forMatch C4 text 0 0 text.size false false
  obtain ⟨σ₁, e₁⟩ := step_at (m := m) (k := 0) (yes := true) ⟨rfl, rfl, (show (5:Nat) < 20 by decide)⟩ rfl rfl rfl
  rw [if_pos rfl] at e₁
  obtain ⟨σ₂, e₂⟩ := step_rep (m := { m with seen := σ₁, pc := m.pc + 2 }) (χ := white) (sk := 9) (least := 0) ⟨rfl, rfl, (show (7:Nat) < 20 by decide)⟩ rfl rfl rfl rfl acc4 rfl (Nat.zero_le _) (show text.size ≤ _ by omega) (show (0 + 1 : Nat) ≤ 16777216 by decide) rfl (n := lead white text.toList) rfl (Nat.zero_le _) (Nat.zero_le _)
  generalize hn : lead white text.toList = n at e₂
  let m₂ : M := { ({ m with seen := σ₁, pc := m.pc + 2 } : M) with seen := σ₂, frames := [Sre.Frame.mk .giveBack 7 n true n (Kept.mk (-1) (-1) false #[]) 0 none], weight := 1, pc := 17, pos := n, handed := n }
  have hm₂ : ({ m with seen := σ₁, pc := m.pc + 2 } : M).step = m₂ := by
    rw [e₂]
    show M.mk .. = M.mk ..
    congr 1
    · show 0 + n = n; omega
    · show 0 + n = n; omega
    · show [Sre.Frame.mk .giveBack 7 (0 + n) true n (Kept.mk (-1) (-1) false #[]) 0 none] = [Sre.Frame.mk .giveBack 7 n true n (Kept.mk (-1) (-1) false #[]) 0 none]
      rw [Nat.zero_add]
  have hle : n ≤ text.size := by have := lead_le white text.toList; simp at this; omega
  cases hall : text.toList.all white with
  | true =>
    have hnt : n = text.size := by rw [← hn]; simpa using lead_all.mpr hall
    obtain ⟨σ₃, e₃⟩ := step_at (m := m₂) (k := 5) (yes := true) ⟨rfl, rfl, (show (17:Nat) < 20 by decide)⟩ rfl rfl (by show Except.ok (n == text.size || _) = _; rw [hnt]; simp)
    rw [if_pos rfl] at e₃
    obtain ⟨σ₄, e₄⟩ := step_succ (m := { m₂ with seen := σ₃, pc := m₂.pc + 2 }) ⟨rfl, rfl, (show (19:Nat) < 20 by decide)⟩ rfl rfl rfl
    obtain ⟨m', g, r1, r2, r3, r4, r5, r6⟩ := leave_yes m₂.frames (({ ({ m₂ with seen := σ₃, pc := m₂.pc + 2 } : M) with seen := σ₄, handed := n } : M).say true) rfl (fun f hf => by rw [List.mem_singleton.mp hf]; exact .inl rfl) rfl rfl
    refine ⟨m', ((Go.one e₁).trans ((Go.one hm₂).trans ((Go.one e₃).trans ((Go.one e₄).trans g)))).mono (show 1 + (1 + (1 + (1 + (1 + 1)))) ≤ _ by omega), ?_⟩
    rw [if_pos rfl]
    exact ⟨r1, r2, r3.trans hnt, r5, r6, r4⟩
  | false =>
    obtain ⟨m', g, r⟩ := back4 (text := text) n m₂ ⟨rfl, rfl, rfl, rfl, rfl, rfl, rfl, rfl, rfl⟩ fun p hp => by
      have hlt : n ≠ text.size := fun e => by
        have : text.toList.all white = true := lead_all.mp (by rw [hn, e]; simp)
        rw [hall] at this; cases this
      refine ⟨by omega, fun h1 h2 => ?_⟩
      have hpn : p = n := by omega
      subst hpn
      have := lead_next (χ := white) (l := text.toList) (c := 10) (by rw [hn]; simp [Array.getD] at h2; simp [show p < text.size by omega] at h2 ⊢; exact h2)
      exact absurd this (by decide +kernel)
    refine ⟨m', ((Go.one e₁).trans ((Go.one hm₂).trans g)).mono (by omega), ?_⟩
    rw [if_neg (by simp)]
    exact r
end Mine
end

section
open PySem PyProof.Rows
open PySem.Sre
namespace Mine

structure Hit (m' : M) (st hd : Nat) (marks : Array (Option Nat)) (lm li : Int) : Prop where
  out : m'.outcome = some .matched
  start : m'.start = st
  handed : m'.handed = hd
  marks : m'.marks = marks
  lastmark : m'.lastmark = lm
  lastindex : m'.lastindex = li

/-- '[ \t]*' -/
theorem runL {text : Array Nat} (hz : text.size ≤ 16777216) : ∃ m', Go 20 (forMatch CL text 0 0 text.size false false) m' ∧ Hit m' 0 (lead blank text.toList) #[] (-1) (-1) := by
  let m : M := forMatch CL text 0 0 text.size false false
  obtain ⟨σ₂, e₂⟩ := step_rep (m := m) (χ := blank) (sk := 11) (least := 0) ⟨rfl, rfl, (show (5:Nat) < 18 by decide)⟩ rfl rfl rfl rfl accL rfl (Nat.zero_le _) (show text.size ≤ _ by omega) (show (0 + 1 : Nat) ≤ 16777216 by decide) rfl (n := lead blank text.toList) rfl (Nat.zero_le _) (Nat.zero_le _)
  generalize lead blank text.toList = n at e₂ ⊢
  let m₂ : M := { m with seen := σ₂, frames := List.cons (Sre.Frame.mk .giveBack m.pc (m.pos + n) m.outermost n (Kept.mk m.lastmark m.lastindex false #[]) 0 none) m.frames, weight := m.weight + 1, pc := m.pc + 1 + 11, pos := m.pos + n, handed := m.pos + n }
  obtain ⟨σ₄, e₄⟩ := step_succ (m := m₂) ⟨rfl, rfl, (show (17:Nat) < 18 by decide)⟩ rfl rfl rfl
  obtain ⟨m', g, r1, r2, r3, r4, r5, r6⟩ := leave_yes m₂.frames (({ m₂ with seen := σ₄, handed := m₂.pos } : M).say true) rfl (fun f hf => by rw [List.mem_singleton.mp hf]; exact .inl rfl) rfl rfl
  exact ⟨m', ((Go.one e₂).trans ((Go.one e₄).trans g)).mono (show 1 + (1 + (1 + 1)) ≤ 20 by omega), r1, r2, r3.trans (Nat.zero_add n), r4, r5, r6⟩

/-- '^([ \t]*#*)' -/
theorem run2 {text : Array Nat} (hz : text.size ≤ 16777216) : ∃ m' n, n = lead blank text.toList + lead hash (text.toList.drop (lead blank text.toList)) ∧ Go 20 (forMatch C2 text 1 0 text.size false false) m' ∧ Hit m' 0 n #[some 0, some n] 1 1 := by
  let m : M := forMatch C2 text 1 0 text.size false false
  obtain ⟨σ₁, e₁⟩ := step_at (m := m) (k := 0) (yes := true) ⟨rfl, rfl, (show (5:Nat) < 31 by decide)⟩ rfl rfl rfl
  rw [if_pos rfl] at e₁
  let m₁ : M := { m with seen := σ₁, pc := m.pc + 2 }
  obtain ⟨σ₂, e₂⟩ := step_mark (m := m₁) (i := 0) ⟨rfl, rfl, (show (7:Nat) < 31 by decide)⟩ rfl rfl
  let m₂ : M := ({ m₁ with seen := σ₂ } : M).mark 0
  have hle : lead blank text.toList ≤ text.size := by simpa using lead_le blank text.toList
  obtain ⟨σ₃, e₃⟩ := step_rep (m := m₂) (χ := blank) (sk := 11) (least := 0) ⟨rfl, rfl, (show (9:Nat) < 31 by decide)⟩ rfl rfl rfl rfl acc2 rfl (Nat.zero_le _) (show text.size ≤ _ by omega) (show (0 + 1 : Nat) ≤ 16777216 by decide) rfl (n := lead blank text.toList) rfl (Nat.zero_le _) (Nat.zero_le _)
  generalize lead blank text.toList = n at e₃ hle ⊢
  let m₃ : M := { m₂ with seen := σ₃, frames := List.cons (Sre.Frame.mk .giveBack m₂.pc (m₂.pos + n) m₂.outermost n (Kept.mk m₂.lastmark m₂.lastindex false #[]) 0 none) m₂.frames, weight := m₂.weight + 1, pc := m₂.pc + 1 + 11, pos := m₂.pos + n, handed := m₂.pos + n }
  obtain ⟨σ₄, e₄⟩ := step_rep (m := m₃) (χ := hash) (sk := 6) (least := 0) ⟨rfl, rfl, (show (21:Nat) < 31 by decide)⟩ rfl rfl rfl rfl acc2h rfl (show 0 + n ≤ text.size by omega) (show text.size ≤ _ by omega) (show (1 + 1 : Nat) ≤ 16777216 by decide) rfl (n := lead hash (text.toList.drop n)) (by show lead hash (text.toList.drop (0 + n)) = _; rw [Nat.zero_add]) (Nat.zero_le _) (Nat.zero_le _)
  generalize lead hash (text.toList.drop n) = k at e₄ ⊢
  let m₄ : M := { m₃ with seen := σ₄, frames := List.cons (Sre.Frame.mk .giveBack m₃.pc (m₃.pos + k) m₃.outermost k (Kept.mk m₃.lastmark m₃.lastindex false #[]) 0 none) m₃.frames, weight := m₃.weight + 1, pc := m₃.pc + 1 + 6, pos := m₃.pos + k, handed := m₃.pos + k }
  obtain ⟨σ₅, e₅⟩ := step_mark (m := m₄) (i := 1) ⟨rfl, rfl, (show (28:Nat) < 31 by decide)⟩ rfl rfl
  let m₅ : M := ({ m₄ with seen := σ₅ } : M).mark 1
  obtain ⟨σ₆, e₆⟩ := step_succ (m := m₅) ⟨rfl, rfl, (show (30:Nat) < 31 by decide)⟩ rfl rfl rfl
  obtain ⟨m', g, r1, r2, r3, r4, r5, r6⟩ := leave_yes m₅.frames (({ m₅ with seen := σ₆, handed := m₅.pos } : M).say true) rfl (fun f hf => by
    rcases List.mem_cons.mp hf with e | e
    · rw [e]; exact .inl rfl
    · rw [List.mem_singleton.mp e]; exact .inl rfl) rfl rfl
  refine ⟨m', n + k, rfl, ((Go.one e₁).trans ((Go.one e₂).trans ((Go.one e₃).trans ((Go.one e₄).trans ((Go.one e₅).trans ((Go.one e₆).trans g)))))).mono (show 1 + (1 + (1 + (1 + (1 + (1 + (2 + 1)))))) ≤ 20 by omega), r1, r2, r3.trans (show 0 + n + k = n + k by omega), r4.trans ?_, r5, r6⟩
  show #[some 0, some (0 + n + k)] = _
  rw [Nat.zero_add]
end Mine
end

section
open PySem PyProof.Rows
open PySem.SeqAt
open PySem.Builtin.Re
namespace Mine

/-! ### facts of the tables -/
set_option maxRecDepth 100000
theorem plainAttrs_pat : PlainAttrs "re.Pattern" :=
  ⟨⟨"object.__getattribute__", by rw [typeLookup_type, builtinLookup_eq_fast]; kernel_rfl, by decide +kernel⟩, by rw [typeLookup_type, builtinLookup_eq_fast]; kernel_rfl⟩
theorem plainAttrs_mat : PlainAttrs "re.Match" :=
  ⟨⟨"object.__getattribute__", by rw [typeLookup_type, builtinLookup_eq_fast]; kernel_rfl, by decide +kernel⟩, by rw [typeLookup_type, builtinLookup_eq_fast]; kernel_rfl⟩
theorem owner_pat : Manifest.owners.lookup (String.ofList ['n', 'r', 'e', 't', 't', 'a', 'P', '.', 'e', 'r'].reverse) = some Manifest.sig_re_Pattern := by kernel_rfl
theorem owner_mat : Manifest.owners.lookup (String.ofList ['h', 'c', 't', 'a', 'M', '.', 'e', 'r'].reverse) = some Manifest.sig_re_Match := by kernel_rfl

theorem slot_pat_match : Slot "re.Pattern" "match" "re.Pattern.match" :=
  .of (owner := "re.Pattern") (n := "match") (by rw [typeLookup_type, builtinLookup_eq_fast]; kernel_rfl) (by decide +kernel) (by decide +kernel) (by decide +kernel)
    (by first | exact .inl (by decide +kernel) | exact .inr (by decide +kernel)) (by rw [isSubtype_type]; kernel_rfl)
theorem type_pat_match : typeOf (.builtin "re.Pattern.match") = pure (.type "method_descriptor") := by show builtinType _ = _; rw [builtinType_eq_fast]; kernel_rfl
theorem entry_pat_match : entryFor table "re.Pattern.match" = some Builtin.«re.Pattern.match» := entryFor_of_tree (by kernel_rfl)
theorem args_pat_match (a b : Value) : argsOk "re.Pattern.match" ⟨[a, b], []⟩ := by
  unfold argsOk; rw [signature?_of (id := "re.Pattern.match") (n := ['h', 'c', 't', 'a', 'm']) (o := ['n', 'r', 'e', 't', 't', 'a', 'P', '.', 'e', 'r']) (by kernel_rfl) owner_pat]; kernel_rfl

theorem slot_mat_group : Slot "re.Match" "group" "re.Match.group" :=
  .of (owner := "re.Match") (n := "group") (by rw [typeLookup_type, builtinLookup_eq_fast]; kernel_rfl) (by decide +kernel) (by decide +kernel) (by decide +kernel)
    (by first | exact .inl (by decide +kernel) | exact .inr (by decide +kernel)) (by rw [isSubtype_type]; kernel_rfl)
theorem type_mat_group : typeOf (.builtin "re.Match.group") = pure (.type "method_descriptor") := by show builtinType _ = _; rw [builtinType_eq_fast]; kernel_rfl
theorem entry_mat_group : entryFor table "re.Match.group" = some Builtin.«re.Match.group» := entryFor_of_tree (by kernel_rfl)
theorem args_mat_group_1 (a : Value) : argsOk "re.Match.group" ⟨[a], []⟩ := by
  unfold argsOk; rw [signature?_of (id := "re.Match.group") (n := ['p', 'u', 'o', 'r', 'g']) (o := ['h', 'c', 't', 'a', 'M', '.', 'e', 'r']) (by kernel_rfl) owner_mat]; kernel_rfl
theorem args_mat_group_2 (a b : Value) : argsOk "re.Match.group" ⟨[a, b], []⟩ := by
  unfold argsOk; rw [signature?_of (id := "re.Match.group") (n := ['p', 'u', 'o', 'r', 'g']) (o := ['h', 'c', 't', 'a', 'M', '.', 'e', 'r']) (by kernel_rfl) owner_mat]; kernel_rfl
theorem slot_mat_end : Slot "re.Match" "end" "re.Match.end" :=
  .of (owner := "re.Match") (n := "end") (by rw [typeLookup_type, builtinLookup_eq_fast]; kernel_rfl) (by decide +kernel) (by decide +kernel) (by decide +kernel)
    (by first | exact .inl (by decide +kernel) | exact .inr (by decide +kernel)) (by rw [isSubtype_type]; kernel_rfl)
theorem type_mat_end : typeOf (.builtin "re.Match.end") = pure (.type "method_descriptor") := by show builtinType _ = _; rw [builtinType_eq_fast]; kernel_rfl
theorem entry_mat_end : entryFor table "re.Match.end" = some Builtin.«re.Match.end» := entryFor_of_tree (by kernel_rfl)
theorem args_mat_end_1 (a : Value) : argsOk "re.Match.end" ⟨[a], []⟩ := by
  unfold argsOk; rw [signature?_of (id := "re.Match.end") (n := ['d', 'n', 'e']) (o := ['h', 'c', 't', 'a', 'M', '.', 'e', 'r']) (by kernel_rfl) owner_mat]; kernel_rfl

/-! ### the driver -/
section
variable {prog : Program} {w : World} {A : Around} {E : Value → Shared → Prop} {s : Shared}

theorem wp_drive {Q : Sre.M → Shared → Prop} {m' : Sre.M} (ho : m'.outcome.isSome = true) (h : Q m' s) : ∀ (turns n : Nat) (m : Sre.M), n ≤ 4 * turns → 0 < turns → itm n m = m' → wpAny (model prog w) A (reDrive turns m) Q E s := by
  intro turns
  induction turns with
  | zero => intro n m _ h0; omega
  | succ t ih =>
    intro n m hn _ e
    unfold reDrive
    simp only [reTurnSteps, runFor_eq]
    by_cases h4 : n ≤ 4
    · have e4 : itm 4 m = m' := by
        rw [show 4 = n + (4 - n) by omega, itm_add, e, itm_done ho]
      rw [e4, if_pos ho]
      exact wpAny_pure h
    · have e4 : itm (n - 4) (itm 4 m) = m' := by rw [← itm_add, ← e]; congr 1; omega
      by_cases h1 : (itm 4 m).outcome.isSome = true
      · rw [if_pos h1]
        have : itm 4 m = m' := by rw [← e4, itm_done h1]
        rw [this]; exact wpAny_pure h
      · rw [if_neg h1]
        exact wpAny_bind (wpAny_rule (ih (n - 4) _ (by omega) (by omega) e4))

theorem wp_seen {Q : PUnit → Shared → Prop} {f : Nat → PUnit → Sem (ForInStep PUnit)} (h : Q ⟨⟩ s) (hf : ∀ i (R : ForInStep PUnit → Shared → Prop), R (.yield ⟨⟩) s → wpAny (model prog w) A (f i ⟨⟩) R E s) :
    ∀ l : List Nat, wpAny (model prog w) A (forIn l PUnit.unit f) Q E s
  | [] => by rw [List.forIn_nil]; exact wpAny_pure h
  | i :: l => by
    rw [List.forIn_cons]
    exact wpAny_bind (hf i _ (wp_seen h hf l))

theorem wp_runToEnd {Q : Option Sre.M → Shared → Prop} {m m' : Sre.M} {k : Nat} (hk : k ≤ 4 * 2 ^ 64) (g : Go k m m')
    (h : match m'.outcome with | some .matched => Q (some m') s | some .failed => Q none s | _ => False) : wpAny (model prog w) A (reRunToEnd m) Q E s := by
  obtain ⟨n, hn, e⟩ := g
  unfold reRunToEnd
  have ho : m'.outcome.isSome = true := by
    revert h; cases m'.outcome with
    | none => exact fun h => h.elim
    | some _ => exact fun _ => rfl
  refine wpAny_bind (wp_drive (m' := m') ho ?_ (2 ^ 64) n m (by omega) (by decide) e)
  refine wpAny_bind ?_
  refine wp_seen ?_ (fun i R hR => ?_) _
  rotate_left
  · split
    · exact wpAny_bind (wpAny_rule (wpAny_pure hR))
    · exact wpAny_pure hR
  revert h
  cases m'.outcome with
  | none => exact fun h => h.elim
  | some o => cases o with
    | matched => exact fun h => wpAny_pure h
    | failed => exact fun h => wpAny_pure h
    | stuck => exact fun h => h.elim
end

/-- a pattern -/
structure PatAt (h : Heap) (pa : Addr) (code : Array Nat) (groups : Nat) : Prop where
  pat : ∃ f0 f1 f2 f3 f4 f6 ca vs n, h.get? pa = some { cls := .type "re.Pattern", dict := none, data := .fields #[f0, f1, f2, f3, f4, .ref ca, f6], slots := #[] } ∧ reRawNat f2 = groups ∧ reRawNat f6 = 0 ∧ IsT h ca vs n ∧ (vs.toList.map fun v => (reRawOf v).toNat) = code.toList

theorem reNamed_one (id f : String) (v : Value) : reNamed id "match" ["string", "pos", "endpos"] 1 [v] [] = pure [some v, none, none] := by
  rfl
end Mine
end

section
open PySem PyProof.Rows
open PySem.SeqAt
open PySem.Builtin.Re
namespace Mine

/-- the spans of the groups -/
structure SpanOk (groups : Nat) (marks : Array (Option Nat)) (lm : Int) (sp : List Int) : Prop where
  eq : ((List.range groups).flatMap fun g =>
    match if ((2 * g + 1 : Nat) : Int) ≤ lm then (marks.getD (2 * g) none, marks.getD (2 * g + 1) none) else (none, none) with
    | (some b, some e) => [rawInt b, rawInt e]
    | _ => [rawInt (-1), rawInt (-1)]) = sp.map rawInt
  ok : ((List.range groups).any (fun g => match marks.getD (2 * g) none, marks.getD (2 * g + 1) none with | some b, some e => ((2 * g + 1 : Nat) : Int) ≤ lm && e < b | _, _ => false)) = false
  few : sp.length ≤ 100

theorem SpanOk.zero : SpanOk 0 #[] (-1) [] := ⟨rfl, rfl, by decide⟩
theorem SpanOk.one {n : Nat} : SpanOk 1 #[some 0, some n] 1 [0, n] := ⟨rfl, by
  show ((decide ((1 : Int) ≤ 1) && decide (n < 0)) || false) = false
  simp, (show (2:Nat) ≤ 100 by decide)⟩

noncomputable def matchPV (y : Str) (pa : Addr) (n : Nat) (li : Int) (sp : List Int) : PV :=
  .obj "re.Match" [.str y, .raw [] (.ref pa), .int 0, .int y.length, .int li, .tuple (.int 0 :: .int n :: sp.map .int)]

/-- what a match tells -/
noncomputable def MatchR (code : Array Nat) (groups : Nat) (pa : Addr) (y : Str) (d : PV) : Prop :=
  ∃ k m', k ≤ 4 * 2 ^ 64 ∧ Go k (Sre.forMatch code y.cps groups 0 y.cps.size false false) m' ∧
    ((m'.outcome = some .failed ∧ d = .none) ∨ ∃ n marks lm li sp, Hit m' 0 n marks lm li ∧ SpanOk groups marks lm sp ∧ d = matchPV y pa n li sp)

theorem repAll_ints {h : Heap} {P : Addr → Prop} : ∀ l : List Int, RepAll h P (l.map .int) (l.map rawInt)
  | [] => RepAll.nil
  | i :: l => RepAll.cons (by simp only [Rep]; exact ⟨0, rfl⟩) (repAll_ints l)

section
variable {G : Wo}
theorem call_match {A : Around} {s : Shared} {pa : Addr} {code : Array Nat} {groups : Nat} {y : Str} {t : Tok} {d : PV} {E : Value → Shared → Prop} {Q : Value → Shared → Prop} {P : Addr → Prop}
    (pat : PatAt s.heap pa code groups) (hy : y.length ≤ sizeLine) (hR : MatchR code groups pa y d) (hP : ∀ a, s.heap.get? a = none → P a)
    (h : ∀ v s', Ext G s s' → Rep s'.heap P d v → Q v s') : wpAny G.M A (call (.builtin "re.Pattern.match") [.ref pa, .str y t]) Q E s := by
  obtain ⟨f0, f1, f2, f3, f4, f6, ca, vs, n, hpat, hg, hk, hT, hc0⟩ := pat.pat
  have hc : (vs.map reRawOf).map (fun x => x.toNat) = code := by rw [← Array.toList_inj, ← hc0]; simp
  obtain ⟨k, m', hk', go, hR⟩ := hR
  have hTy : s.TypeIs (.ref pa) "re.Pattern" := ⟨_, hpat, rfl⟩
  have hsz : y.cps.size ≤ 16777216 := by rw [sizeLine_is] at hy; exact hy
  refine wpAny_call (codeAny_call_builtin slot_pat_match.plain entry_pat_match (slot_pat_match.check _ _ _ _ _ _ _ _ hTy (args_pat_match _ _) ?_))
  unfold Builtin.«re.Pattern.match»
  refine wpAny_bind (m := reTarget "re.Pattern.match" "match" _) ?_
  unfold reTarget
  show wpAny _ _ (reNamed "re.Pattern.match" "match" ["string", "pos", "endpos"] 1 [.str y t] [] >>= _) _ _ s
  rw [reNamed_one "re.Pattern.match" "match"]
  refine wpAny_bind (wpAny_pure ?_)
  refine wpAny_bind (wpAny_pure ?_)
  refine wpAny_bind (wpAny_pure ?_)
  refine wpAny_bind (wpAny_fieldsOf hpat rfl ?_)
  refine wpAny_bind (m := reTextOf (.str y t)) (wpAny_pure ?_)
  have e6 : reRawNat ((#[f0, f1, f2, f3, f4, .ref ca, f6] : Array Value).getD 6 .none) = 0 := hk
  have e2 : reRawNat ((#[f0, f1, f2, f3, f4, .ref ca, f6] : Array Value).getD 2 .none) = groups := hg
  simp only [e6, e2]
  refine wpAny_bind (m := reNoCollectionInside (.str y t) 0) (wpAny_pure ?_)
  refine wpAny_bind (m := reRawItems (.ref ca)) ?_
  unfold reRawItems
  refine wpAny_bind (wpAny_seqItems hT rfl (wpAny_pure (wpAny_pure ?_)))
  have h0 : min (Int.toNat 0) y.cps.size = 0 := by simp
  have h1 : min ((2 : Int) ^ 63 - 1).toNat y.cps.size = y.cps.size := by omega
  simp only [Option.getD_some, hc, h0, h1]
  unfold reAnswer
  rcases hR with ⟨ho, rfl⟩ | ⟨nn, marks, lm, li, sp, hit, spo, rfl⟩
  · refine wpAny_bind (wp_runToEnd hk' go ?_)
    rw [ho]
    exact wpAny_pure (h _ _ Evo.refl (by simp only [Rep]))
  · refine wpAny_bind (wp_runToEnd hk' go ?_)
    rw [hit.out]
    show wpAny _ _ (reNewMatch _ _ _ _ _ m' >>= fun v => ret v) _ _ s
    refine wpAny_bind ?_
    unfold reNewMatch
    rw [hit.marks, hit.lastmark, hit.lastindex, hit.start, hit.handed]
    dsimp only
    generalize hL : List.flatMap _ (List.range groups) = L
    have hL' : L = sp.map rawInt := hL.symm.trans spo.eq
    subst hL'
    split
    · rename_i hbad
      exact absurd (hbad.symm.trans spo.ok) (by decide)
    refine wpAny_bind (wpAny_newTuple ?_ (by rw [sizeLine_is]; have := spo.few; simp; omega))
    unfold newFields
    refine wpAny_newObj_type (wpAny_pure ?_)
    have ext : Ext G s { s with heap := (s.heap.push { cls := .type "tuple", data := .seq (rawInt ((0 : Nat) : Int) :: rawInt (nn : Int) :: sp.map rawInt).toArray }).push { cls := .type "re.Match", dict := none, data := .fields [.str y t, .ref pa, rawInt ((0 : Nat) : Int), rawInt (y.cps.size : Int), rawInt li, .ref s.heap.objs.size].toArray } } :=
      Ext.of (tk := s.toks) fun b o e => Heap.get?_push_of_some _ (Heap.get?_push_of_some _ e)
    refine h _ _ ext ?_
    have hn : (s.heap.push { cls := .type "tuple", data := .seq (rawInt ((0 : Nat) : Int) :: rawInt (nn : Int) :: sp.map rawInt).toArray }).objs.size = s.heap.objs.size + 1 := by
      unfold Heap.push; simp
    have hnone : s.heap.get? (s.heap.objs.size + 1) = none := by
      cases e : s.heap.get? (s.heap.objs.size + 1) with
      | none => rfl
      | some o => exact absurd (show s.heap.objs.size + 1 < s.heap.objs.size from Heap.lt_size e) (Nat.not_lt.mpr (Nat.le_succ _))
    unfold matchPV
    simp only [Rep, RepAll]
    refine ⟨_, _, rfl, hP _ (by rw [hn]; exact hnone), by decide, Heap.get?_push_size _ rfl, _, _, rfl, ⟨⟨t, rfl⟩, hy⟩, _, _, rfl, ⟨rfl, fun p hp => by cases hp⟩, _, _, rfl, ⟨_, rfl⟩, _, _, rfl, ⟨_, rfl⟩, _, _, rfl, ⟨_, rfl⟩, _, _, rfl, ?_, rfl⟩
    refine ⟨_, _, 0, rfl, hP _ get_new, Heap.get?_push_of_some _ (Heap.get?_push_size _ rfl), ?_, ?_⟩
    · exact ⟨_, _, rfl, ⟨_, rfl⟩, _, _, rfl, ⟨_, rfl⟩, repAll_ints sp⟩
    · rw [sizeLine_is]; have := spo.few; simp; omega
end
end Mine
end

section
open PySem PyProof.Rows
open PySem.SeqAt
open PySem.Builtin.Re
namespace Mine

theorem PatAt.keeps {G : Wo} {mg mb} (g : Gl G mg mb) {s : Shared} (w : Wd G s) {pa : Addr} {code : Array Nat} {groups : Nat} (p : PatAt G.h₁ pa code groups) : PatAt s.heap pa code groups := by
  obtain ⟨f0, f1, f2, f3, f4, f6, ca, vs, n, hpat, r, r', hT, r''⟩ := p.pat
  exact ⟨_, _, _, _, _, _, _, _, _, w.old _ _ hpat (g.tb _ _ hpat (Obj.notCode_cls (T := "re.Pattern") rfl (by decide))), r, r', w.old _ _ hT (g.tb _ _ hT Obj.notCode_tuple), r''⟩

section
variable {c : Cx} {ρ : Env1} {b : Bool} {mg mb : Str → Option Value}

theorem Ev_match (ok : c.Ok) (g : Gl c.G mg mb) {x : Str} {p apos pos : Pos} {e : Expr} {pa : Addr} {code : Array Nat} {groups : Nat} {y : Str} {d : PV} (hk : c.env.kindOf x = some .globalImplicit) (hv : mg x = some (.ref pa)) (hp : plainName x = true)
    (pat : PatAt c.G.h₁ pa code groups) (hline : (apos.endLine == pos.line) = true) (hs : noStar e = true) (h : Ev c ρ b e (.str y)) (hR : y.length ≤ sizeLine → MatchR code groups pa y d) :
    Ev c ρ b (.Call (.Attribute (.Name x p) "match" apos) [e] [] pos) d := .mk fun A T s ha st => by
  have hL : EvL c ρ b [e] [.str y] := .cons h hs .nil
  refine wpAny_Call_method rfl ?_ hline plainAttrs_pat slot_pat_match type_pat_match (load_global ok g hk hv hp st.wd ?_)
  · rw [noStars' hL]; rfl
  · have hp₁ := pat.keeps g st.wd
    obtain ⟨f0, f1, f2, f3, f4, f6, ca, vs, n, hpat, _⟩ := hp₁.pat
    refine ⟨⟨_, hpat, rfl⟩, fun a e => by cases e; exact ⟨_, hpat, rfl⟩, ?_⟩
    refine Calls.callWith_builtin (noStars hL) (evalArgs_ev hL ha st fun vs s₂ e₂ st₂ r₂ => ?_)
    obtain ⟨v, rfl, r⟩ := r₂.inv1
    simp only [Rep] at r
    obtain ⟨⟨t, rfl⟩, hy⟩ := r
    exact call_match (G := c.G) (P := c.Qb T b) (pat.keeps g st₂.wd) hy (hR hy) (fun a hn => Cx.Qb_of (st₂.newP ok hn)) fun v s' e r => ⟨e₂.trans e, r⟩
end

theorem rep_mat_type {ds : List PV} (s : Shared) (P : Addr → Prop) (v : Value) (r : Rep s.heap P (.obj "re.Match" ds) v) : s.TypeIs v "re.Match" ∧ ∀ a, v = .ref a → ∃ ob, s.heap.get? a = some ob ∧ ob.dict = none := by
  simp only [Rep] at r; obtain ⟨a, vs, rfl, _, _, l, _⟩ := r
  exact ⟨⟨_, l, rfl⟩, fun a' e => by cases e; exact ⟨_, l, rfl⟩⟩

theorem MatchR4 {pa : Addr} {y : Str} (hy : y.length ≤ sizeLine) : MatchR C4 0 pa y (if (Sl y).all white then matchPV y pa y.length (-1) [] else .none) := by
  have hz : y.cps.size ≤ 16777216 := by rw [sizeLine_is] at hy; exact hy
  obtain ⟨m', go, r⟩ := run4 hz
  refine ⟨_, m', by omega, go, ?_⟩
  cases hw : (Sl y).all white with
  | true =>
    rw [if_pos hw] at r
    obtain ⟨r1, r2, r3, r4, r5, r6⟩ := r
    exact .inr ⟨_, _, _, _, _, ⟨r1, r2, r3, r6, r4, r5⟩, .zero, rfl⟩
  | false =>
    rw [if_neg (by rw [hw]; simp)] at r
    exact .inl ⟨r, rfl⟩
theorem MatchRL {pa : Addr} {y : Str} (hy : y.length ≤ sizeLine) : MatchR CL 0 pa y (matchPV y pa (lead blank (Sl y)) (-1) []) := by
  have hz : y.cps.size ≤ 16777216 := by rw [sizeLine_is] at hy; exact hy
  obtain ⟨m', go, r⟩ := runL hz
  exact ⟨_, m', by omega, go, .inr ⟨_, _, _, _, _, r, .zero, rfl⟩⟩
/-- the header's length -/
noncomputable def hdl (l : List Nat) : Nat := lead blank l + lead hash (l.drop (lead blank l))
theorem MatchR2 {pa : Addr} {y : Str} (hy : y.length ≤ sizeLine) : MatchR C2 1 pa y (matchPV y pa (hdl (Sl y)) 1 [0, (hdl (Sl y) : Nat)]) := by
  have hz : y.cps.size ≤ 16777216 := by rw [sizeLine_is] at hy; exact hy
  obtain ⟨m', n, e, go, r⟩ := run2 hz
  have e' : hdl (Sl y) = n := e.symm
  rw [e']
  exact ⟨_, m', by omega, go, .inr ⟨_, _, _, _, _, r, .one, rfl⟩⟩

/-- the parts of a match -/
theorem mat_parts {h : Heap} {P : Addr → Prop} {y : Str} {pa : Addr} {n : Nat} {li : Int} {sp : List Int} {v : Value} (r : Rep h P (matchPV y pa n li sp) v) :
    ∃ a t v2 v3 v4 ta ts k, v = .ref a ∧ h.get? a = some { cls := .type "re.Match", dict := none, data := .fields #[.str y t, .ref pa, v2, v3, v4, .ref ta], slots := #[] } ∧ IsT h ta ts k ∧ ts.map reRawOf = (0 :: (n : Int) :: sp).toArray ∧ y.length ≤ sizeLine := by
  unfold matchPV at r
  simp only [Rep, RepAll] at r
  obtain ⟨a, vs, rfl, _, _, l, v0, r0, e0, ⟨⟨t, rfl⟩, hy⟩, v1, r1, rfl, ⟨rfl, _⟩, v2, r2, rfl, _, v3, r3, rfl, _, v4, r4, rfl, _, v5, r5, rfl, ⟨ta, ts, k, rfl, _, lt, q, _⟩, rfl⟩ := r
  have e : vs = #[.str y t, .ref pa, v2, v3, v4, .ref ta] := by rw [← Array.toList_inj]; exact e0
  subst e
  refine ⟨a, t, v2, v3, v4, ta, ts, k, rfl, l, lt, ?_, hy⟩
  obtain ⟨w0, q0, e0, ⟨_, rfl⟩, w1, q1, rfl, ⟨_, rfl⟩, q⟩ := q
  have key : ∀ (sp : List Int) (l : List Value), RepAll h P (sp.map .int) l → l.map reRawOf = sp := by
    intro sp
    induction sp with
    | nil => intro l hl; simp only [List.map_nil, RepAll] at hl; subst hl; rfl
    | cons i sp ih =>
      intro l hl
      simp only [List.map_cons, RepAll, Rep] at hl
      obtain ⟨v, r, rfl, ⟨_, rfl⟩, hr⟩ := hl
      rw [List.map_cons, ih r hr]; rfl
  rw [← Array.toList_inj, Array.toList_map, e0, List.map_cons, List.map_cons, key sp q1 q]
  rfl

theorem extract_take (y : Str) (n : Nat) : (⟨y.cps.extract 0 n⟩ : Str) = mkS ((Sl y).take n) := by
  apply Str_ext
  show (y.cps.extract 0 n).toList = _
  simp

section
variable {G : Wo}
theorem wp_groupText {A : Around} {s : Shared} {y : Str} {t : Tok} {fs : Array Value} {sp : Array Int} {k n : Nat} {Q : Value → Shared → Prop} {E : Value → Shared → Prop} (h0 : fs.getD 0 .none = .str y t)
    (hb : sp.getD (2 * k) (-1) = 0) (he : sp.getD (2 * k + 1) (-1) = n) (hy : y.length ≤ sizeLine) (h : Q (.str (mkS ((Sl y).take n)) s.toks) { s with toks := s.toks + 1 }) :
    wpAny G.M A (reGroupText ⟨fs, sp⟩ k .none) Q E s := by
  unfold reGroupText
  simp only [hb, he]
  rw [if_neg (by simp)]
  rw [h0]
  refine wpAny_bind (m := reTextOf (.str y t)) (wpAny_pure ?_)
  show wpAny _ _ (mkStr ⟨y.cps.extract (Int.toNat 0) (Int.toNat (n : Int))⟩) _ _ s
  rw [show Int.toNat 0 = 0 from rfl, Int.toNat_natCast, extract_take]
  refine wpAny_mkStr h ?_
  rw [Str_len] at hy ⊢
  rw [Sl_mkS, List.length_take]; omega

theorem BiOk_group {y : Str} {pa : Addr} {n : Nat} {li : Int} {sp : List Int} : BiOk G (.builtin "re.Match.group") [matchPV y pa n li sp] (.str (mkS ((Sl y).take n))) := .mk fun A s P vs _ _ _ wd r₀ => by
  obtain ⟨v, rfl, r⟩ := r₀.inv1
  obtain ⟨a, t, v2, v3, v4, ta, ts, k, rfl, l, lt, e, hy⟩ := mat_parts r
  refine wpAny_call (codeAny_call_builtin slot_mat_group.plain entry_mat_group (slot_mat_group.check _ _ _ _ _ _ _ _ ⟨_, l, rfl⟩ (args_mat_group_1 _) ?_))
  unfold Builtin.«re.Match.group»
  refine wpAny_bind (m := noKeywords _ _) (wpAny_pure ?_)
  show wpAny _ _ (reFound (.ref a) >>= _) _ _ s
  unfold reFound
  refine wpAny_bind (wpAny_bind (wpAny_fieldsOf l rfl ?_))
  refine wpAny_bind (m := reRawItems (.ref ta)) ?_
  unfold reRawItems
  refine wpAny_bind (wpAny_seqItems lt rfl (wpAny_pure (wpAny_pure ?_)))
  show wpAny _ _ (reGroupText ⟨_, ts.map reRawOf⟩ 0 .none >>= fun v => ret v) _ _ s
  refine wpAny_bind (wp_groupText (y := y) (t := t) (n := n) rfl (by rw [e]; rfl) (by rw [e]; rfl) hy (wpAny_pure ⟨Ext.tok, ?_⟩))
  simp only [Rep]
  refine ⟨⟨_, rfl⟩, ?_⟩
  rw [Str_len] at hy ⊢
  rw [Sl_mkS, List.length_take]; omega

theorem BiOk_group1 {y : Str} {pa : Addr} {n m : Nat} {li : Int} : BiOk G (.builtin "re.Match.group") [matchPV y pa n li [0, m], .int 1] (.str (mkS ((Sl y).take m))) := .mk fun A s P vs _ _ _ wd r₀ => by
  obtain ⟨v, u, rfl, r, r'⟩ := r₀.inv2
  simp only [Rep] at r'; obtain ⟨u, rfl⟩ := r'
  obtain ⟨a, t, v2, v3, v4, ta, ts, k, rfl, l, lt, e, hy⟩ := mat_parts r
  refine wpAny_call (codeAny_call_builtin slot_mat_group.plain entry_mat_group (slot_mat_group.check _ _ _ _ _ _ _ _ ⟨_, l, rfl⟩ (args_mat_group_2 _ _) ?_))
  unfold Builtin.«re.Match.group»
  refine wpAny_bind (m := noKeywords _ _) (wpAny_pure ?_)
  show wpAny _ _ (reFound (.ref a) >>= _) _ _ s
  unfold reFound
  refine wpAny_bind (wpAny_bind (wpAny_fieldsOf l rfl ?_))
  refine wpAny_bind (m := reRawItems (.ref ta)) ?_
  unfold reRawItems
  refine wpAny_bind (wpAny_seqItems lt rfl (wpAny_pure (wpAny_pure ?_)))
  show wpAny _ _ (reGroupNumber ⟨_, ts.map reRawOf⟩ (.int 1 u) >>= fun g => reGroupText ⟨_, ts.map reRawOf⟩ g .none >>= fun v => ret v) _ _ s
  rw [e]
  refine wpAny_bind (m := reGroupNumber _ _) (wpAny_pure ?_)
  refine wpAny_bind (wp_groupText (y := y) (t := t) (n := m) rfl rfl rfl hy (wpAny_pure ⟨Ext.tok, ?_⟩))
  simp only [Rep]
  refine ⟨⟨_, rfl⟩, ?_⟩
  rw [Str_len] at hy ⊢
  rw [Sl_mkS, List.length_take]; omega

theorem BiOk_end {y : Str} {pa : Addr} {n : Nat} {li : Int} {sp : List Int} : BiOk G (.builtin "re.Match.end") [matchPV y pa n li sp] (.int n) := .mk fun A s P vs _ _ _ wd r₀ => by
  obtain ⟨v, rfl, r⟩ := r₀.inv1
  obtain ⟨a, t, v2, v3, v4, ta, ts, k, rfl, l, lt, e, hy⟩ := mat_parts r
  refine wpAny_call (codeAny_call_builtin slot_mat_end.plain entry_mat_end (slot_mat_end.check _ _ _ _ _ _ _ _ ⟨_, l, rfl⟩ (args_mat_end_1 _) ?_))
  unfold Builtin.«re.Match.end» Builtin.Re.reOneGroup
  refine wpAny_bind (wpAny_bind (m := selfAndSome _ _ _ _ _) (wpAny_pure ?_))
  show wpAny _ _ (reFound (.ref a) >>= _) _ _ s
  unfold reFound
  refine wpAny_bind (wpAny_bind (wpAny_fieldsOf l rfl ?_))
  refine wpAny_bind (m := reRawItems (.ref ta)) ?_
  unfold reRawItems
  refine wpAny_bind (wpAny_seqItems lt rfl (wpAny_pure (wpAny_pure ?_)))
  refine wpAny_bind (m := pure 0) (wpAny_pure (wpAny_pure ?_))
  show wpAny _ _ (retInt ((ts.map reRawOf).getD 1 (-1))) _ _ s
  rw [e]
  refine wpAny_bind (wpAny_mkInt (wpAny_pure ⟨Ext.tok, ?_⟩))
  simp only [Rep]; exact ⟨_, rfl⟩
end
end Mine
end

section
open PySem PyProof.Rows
open PySem.SeqAt
namespace Mine

/-- the world of a law whose functions make no code of their own -/
noncomputable def wo (prog : Program) (w : World) (s : Shared) : Wo where
  prog := prog
  w := w
  h₁ := s.heap
  os₁ := s.os
  Tb := fun _ => False
  TabOk := fun _ => True
  tabKeeps := fun _ _ _ _ => trivial

/-- what the law's contract says -/
noncomputable def LawF (ds : List PV) (d : PV) : Prop := ∃ ns : List Int, ns.length ≤ 63 ∧ ds = [.list (ns.map .int)] ∧ d = .bool true

theorem well_ints {P : Params} {h : Heap} {Q : Addr → Prop} : ∀ {vs : List Value} {ns : List Int}, PySem.W.WellAll P h vs (ns.map fun i => PySem.W.WData.int i) → RepAll h Q (ns.map .int) vs
  | vs, [], w => by cases w; exact RepAll.nil
  | vs, i :: ns, w => by
    cases w with
    | cons w1 w2 =>
      cases w1 with
      | int _ t => exact RepAll.cons (by simp only [Rep]; exact ⟨t, rfl⟩) (well_ints w2)

end Mine
end

section
open PySem PySem.W PyProof.Rows
open PySem.SeqAt
namespace Mine

theorem callerA_ok {k : Nat} (hk : k ≤ 300) : AOk k callerA := ⟨rfl, by show 1 + claimMargin + k ≤ 690; have : claimMargin = 300 := rfl; omega, by show 4 + 20 * k ≤ 9000; omega⟩

theorem ofPys_ints (ns : List Int) : ofPys (ns.map PyData.int) = ns.map fun i => WData.int i := by
  rw [ofPys_eq, List.map_map]; rfl

end Mine
namespace Mine
theorem ns_at {h : Heap} {a : Addr} {m : Str → Option Value} {o : Obj} {es ep} (N : h.Ns a m) (ho : h.get? a = some o) (hd : o.data = .dict es ep) (x : Str) : m x = nsFind es x := by
  obtain ⟨o', es', ep', ho', hd', _, r⟩ := N
  rw [ho] at ho'; cases ho'
  rw [hd] at hd'; cases hd'
  exact (r x).symm

theorem len1 {α : Type} {P : List α → Prop} (h : ∀ a, P [a]) : ∀ vs : List α, vs.length = 1 → P vs
  | [a], _ => h a
theorem len2 {α : Type} {P : List α → Prop} (h : ∀ a b, P [a, b]) : ∀ vs : List α, vs.length = 2 → P vs
  | [a, b], _ => h a b
theorem len3 {α : Type} {P : List α → Prop} (h : ∀ a b c, P [a, b, c]) : ∀ vs : List α, vs.length = 3 → P vs
  | [a, b, c], _ => h a b c
/-- a function as it lies in the law's heap -/
theorem fnDef_of {G : Wo} {fa ca : Addr} {o oc : Obj} {fd : FuncData} {params : List Str} {body : List Stmt} {qual : Str} {scope : Scope} {t : Tok} {vs : Array Value} (ho : G.h₁.get? fa = some o) (hd : o.data = .func fd) (hbody : fd.body = .stmts body) (hq : fd.qualname = qual) (hs : fd.scope = scope) (hglob : fd.globals = mainGlobals)
    (hclos : fd.closure = []) (hblt : fd.builtins = builtinsNs) (hcode : fd.code = .ref ca) (hoc : G.h₁.get? ca = some oc) (hcd : oc.data = .fields vs) (hv : vs[1]? = some (.str qual t))
    (hbind : ∀ vs : List Value, vs.length = params.length → bindArgs fd ⟨vs, []⟩ = pure (params.zip vs)) (hT : ¬ G.Tb ca) (hk : scope.kind = .function) (hco : scope.isCoroutine = false) (hgen : scope.isGenerator = false)
    (hloc : (params.all fun x => scope.names.lookup x == some .local || scope.names.lookup x == some .cell) = true) : FnDef G fa qual params body scope (.ref ca) := by
  refine ⟨⟨o, fd, ho, hd, hs, hbody, hglob, hclos, hblt, hcode, hq, hbind⟩, ?_, fun a e => by cases e; exact hT, hk, hco, hgen, fun x hx => ?_⟩
  · exact ⟨ca, oc, vs, t, rfl, hoc, hcd, hv⟩
  · have := List.all_eq_true.mp hloc x hx
    simpa using this
end Mine
end

section
open PySem PyProof.Rows
open PySem.SeqAt
namespace Mine

theorem EvF.cast {c : Cx} {ρ : Env1} {e : Expr} {ds ds' : List PV} (h : ds = ds') (x : EvF c ρ e ds) : EvF c ρ e ds' := h ▸ x
theorem Ev.cast {c : Cx} {ρ : Env1} {b : Bool} {e : Expr} {d d' : PV} (h : d = d') (x : Ev c ρ b e d) : Ev c ρ b e d' := h ▸ x
theorem IsT1.cast {c : Cx} {ρ : Env1} {e : Expr} {d d' : Bool} (h : d = d') (x : IsT1 c ρ e d) : IsT1 c ρ e d' := h ▸ x

theorem SubEnv.nil {ρ : Env1} : SubEnv [] ρ := fun x d h => nomatch h
theorem SubEnv.refl {ρ : Env1} : SubEnv ρ ρ := fun x d h => h
theorem SubEnv.trans {ρ ρ' ρ'' : Env1} (h : SubEnv ρ ρ') (h' : SubEnv ρ' ρ'') : SubEnv ρ ρ'' := fun x d e => h' x d (h x d e)
theorem SubEnv.put {ρ r : Env1} {x : Str} {d : PV} (h : ρ.lookup x = some d) (hr : SubEnv r ρ) : SubEnv ((x, d) :: r) ρ := fun y e hy => by
  rw [List.lookup_cons] at hy
  by_cases q : (y == x) = true
  · rw [q] at hy; cases hy; rw [eq_of_beq q]; exact h
  · simp only [q] at hy; exact hr y e hy
theorem SubEnv.both {ρ ρ' : Env1} {x : Str} {d : PV} (h : SubEnv ρ ρ') : SubEnv ((x, d) :: ρ) ((x, d) :: ρ') := fun y e hy => by
  rw [List.lookup_cons] at hy ⊢
  by_cases q : (y == x) = true
  · rw [q] at hy ⊢; exact hy
  · simp only [q] at hy ⊢; exact h y e hy
theorem SubEnv.over {ρ ρ' : Env1} {x : Str} {d : PV} (h : SubEnv ρ ρ') (hn : ρ.lookup x = none) : SubEnv ρ ((x, d) :: ρ') := fun y e hy => by
  rw [List.lookup_cons]
  by_cases q : (y == x) = true
  · rw [eq_of_beq q, hn] at hy; cases hy
  · simp only [q]; exact h y e hy
theorem CapEnv.nil {ρ : Env1} {sc : Scope} : CapEnv [] ρ sc := fun x d h => nomatch h
theorem CapEnv.put {ρ r : Env1} {sc : Scope} {x : Str} {d : PV} (h : ρ.lookup x = some d) (hs : sc.names.lookup x = some .free) (hr : CapEnv r ρ sc) : CapEnv ((x, d) :: r) ρ sc := fun y e hy => by
  rw [List.lookup_cons] at hy
  by_cases q : (y == x) = true
  · rw [q] at hy; cases hy; rw [eq_of_beq q]; exact ⟨h, hs⟩
  · simp only [q] at hy; exact hr y e hy
theorem filterMap_of {α : Type} {l : List α} {f g : α → PV} {F : PV → Option PV} (h : ∀ a, F (f a) = some (g a)) : (l.map f).filterMap F = l.map g := by
  induction l with
  | nil => rfl
  | cons a l ih => rw [List.map_cons, List.filterMap_cons_some (h a), ih, List.map_cons]
open Classical in
noncomputable def liftF {α : Type} (f g : α → PV) (d : PV) : Option PV := if h : ∃ a, f a = d then some (g h.choose) else none
theorem liftF_of {α : Type} {f g : α → PV} (hfg : ∀ a b, f a = f b → g a = g b) (a : α) : liftF f g (f a) = some (g a) := by
  have h : ∃ b, f b = f a := ⟨a, rfl⟩
  unfold liftF
  rw [dif_pos h, hfg _ _ h.choose_spec]
/-- a comprehension over known data, without a test -/
theorem EvF_compM {c : Cx} {ρ : Env1} (ok : c.Ok) {α : Type} {elt target iter : Expr} {scope : Scope} {pos : Pos} {d : PV} (l : List α) (f g : α → PV) (hfg : ∀ a b, f a = f b → g a = g b)
    (hiter : Ev c ρ true iter d) (hds : ItOk d (l.map f)) (hlen : l.length ≤ sizeLine) (hok : compOk c.env scope = true) (ρc : Env1) (hρ : CapEnv ρc ρ scope)
    (turn : ∀ C a, a ∈ l → (c.inner scope C).Ok → ∃ ρ', Asg (c.inner scope C) target (f a) ρc ρ' ∧ SubEnv ρc ρ' ∧ Ev (c.inner scope C) ρ' true elt (g a))
    (hs : ∀ x, foldedSetIterable iter c.env x = pure x) : EvF c ρ (.ListComp elt [⟨target, iter, [], 0⟩] scope pos) (l.map g) := by
  have := EvF_comp (pos := pos) (elt := elt) (target := target) (ifs := []) ok hiter hds (by simpa using hlen) hok hρ (liftF f g) (fun C d hd ok' => by
    obtain ⟨a, ha, rfl⟩ := List.mem_map.mp hd
    obtain ⟨ρ', h1, h2, h3⟩ := turn C a ha ok'
    refine ⟨ρ', h1, h2, ?_⟩
    rw [liftF_of hfg]
    exact ⟨.inl ⟨rfl, rfl⟩, h3⟩) hs
  rwa [filterMap_of (liftF_of hfg)] at this
theorem Ex1_assignCM {c : Cx} {ρ : Env1} {Q : PF → Env1 → Prop} (ok : c.Ok) {α : Type} {x : Str} {px : Pos} {elt target iter : Expr} {scope : Scope} {pos cpos : Pos} {d : PV} (l : List α) (f g : α → PV) (hfg : ∀ a b, f a = f b → g a = g b)
    (hiter : Ev c ρ true iter d) (hds : ItOk d (l.map f)) (hlen : l.length ≤ sizeLine) (hok : compOk c.env scope = true) (ρc : Env1) (hρ : CapEnv ρc ρ scope)
    (turn : ∀ C a, a ∈ l → (c.inner scope C).Ok → ∃ ρ', Asg (c.inner scope C) target (f a) ρc ρ' ∧ SubEnv ρc ρ' ∧ Ev (c.inner scope C) ρ' true elt (g a))
    (hs : ∀ x, foldedSetIterable iter c.env x = pure x)
    (hq : Q .next ((x, .list (l.map g)) :: ρ)) (hk : storable c x = true)
    (hsw : swapsWith (.ListComp elt [⟨target, iter, [], 0⟩] scope cpos) (some (.Name x px)) pos.line c.env = pure true) :
    Ex1 c ρ (.Assign [.Name x px] (.ListComp elt [⟨target, iter, [], 0⟩] scope cpos) pos) Q := by
  refine Ex1_assignC ok hiter hds (by simpa using hlen) hok hρ (liftF f g) (fun C d hd ok' => ?_) hs (by rw [filterMap_of (liftF_of hfg)]; exact hq) hk hsw
  obtain ⟨a, ha, rfl⟩ := List.mem_map.mp hd
  obtain ⟨ρ', h1, h2, h3⟩ := turn C a ha ok'
  refine ⟨ρ', h1, h2, ?_⟩
  rw [liftF_of hfg]
  exact ⟨.inl ⟨rfl, rfl⟩, h3⟩
end Mine
end

section
open PySem PyProof.Rows
open PySem.SeqAt
namespace Mine

/-! ### cutting a text at a sign -/
noncomputable def spl (c : Nat) : List Nat → List (List Nat)
  | [] => [[]]
  | x :: r => if x = c then [] :: spl c r else match spl c r with
    | [] => [[x]]
    | p :: q => (x :: p) :: q
theorem spl_free {c : Nat} : ∀ {p : List Nat}, c ∉ p → spl c p = [p]
  | [], _ => rfl
  | x :: r, h => by
    have hx : x ≠ c := fun e => h (e ▸ List.mem_cons_self)
    have hr : c ∉ r := fun q => h (List.mem_cons_of_mem _ q)
    unfold spl
    rw [if_neg hx, spl_free hr]
theorem spl_app {c : Nat} {t : List Nat} : ∀ {p : List Nat}, c ∉ p → spl c (p ++ c :: t) = p :: spl c t
  | [], _ => by rw [List.nil_append, spl, if_pos rfl]
  | x :: r, h => by
    have hx : x ≠ c := fun e => h (e ▸ List.mem_cons_self)
    have hr : c ∉ r := fun q => h (List.mem_cons_of_mem _ q)
    rw [List.cons_append, spl, if_neg hx, spl_app hr]
theorem spl_parts {c : Nat} : ∀ {l : List Nat} {p : List Nat}, p ∈ spl c l → p.length ≤ l.length ∧ c ∉ p
  | [], p, h => by simp [spl] at h; subst h; simp
  | x :: r, p, h => by
    unfold spl at h
    split at h
    · rcases List.mem_cons.mp h with rfl | h
      · simp
      · have := spl_parts h; exact ⟨by simp; omega, this.2⟩
    · rename_i hx
      have ih := @spl_parts c r
      split at h
      · simp at h; subst h; simp; exact fun e => hx e.symm
      · rename_i q t e
        rcases List.mem_cons.mp h with rfl | h
        · have := @ih q (by rw [e]; exact List.mem_cons_self)
          refine ⟨by simp; omega, fun m => ?_⟩
          rcases List.mem_cons.mp m with m | m
          · exact hx m.symm
          · exact this.2 m
        · have := @ih p (by rw [e]; exact List.mem_cons_of_mem _ h)
          exact ⟨by simp; omega, this.2⟩
theorem spl_join {c : Nat} : ∀ (ps : List Str), ps ≠ [] → (∀ p ∈ ps, c ∉ Sl p) → spl c (Sl (Str.join ⟨#[c]⟩ ps)) = ps.map Sl
  | [], h, _ => absurd rfl h
  | [p], _, hp => by
    show spl c (Sl p) = [Sl p]
    exact spl_free (hp p List.mem_cons_self)
  | p :: q :: r, _, hp => by
    show spl c (Sl (p ++ ⟨#[c]⟩ ++ Str.join ⟨#[c]⟩ (q :: r))) = _
    rw [Sl_append, Sl_append, List.append_assoc]
    show spl c (Sl p ++ c :: Sl (Str.join ⟨#[c]⟩ (q :: r))) = _
    rw [spl_app (hp p List.mem_cons_self), spl_join (q :: r) (by simp) fun x hx => hp x (List.mem_cons_of_mem _ hx)]
    rfl
theorem split_ne (x y : Str) : Txt.split x y ≠ [] := by
  unfold Txt.split
  split
  · simp
  · split
    · simp
    · rw [StrLaws.partsBetween_eq]
      obtain ⟨p, r, e⟩ := StrLaws.partsFrom_ne x y.length 0 (Builtin.Str.occurrences x y 0 x.length (x.length + 1))
      rw [e]; simp
theorem split_eq (x : Str) (c : Nat) : Txt.split x ⟨#[c]⟩ = (spl c (Sl x)).map mkS := by
  have h := spl_join (c := c) (Txt.split x ⟨#[c]⟩) (split_ne _ _) (StrLaws.split_free x c)
  rw [StrLaws.join_split] at h
  rw [h, List.map_map]
  have : (mkS ∘ Sl) = id := by funext y; exact mkS_Sl y
  rw [this, List.map_id]

theorem repAll_strs {h : Heap} {P : Addr → Prop} : ∀ {l : List (Str × Tok)} {xs : List Str}, l.map (·.1) = xs → (∀ x ∈ xs, x.length ≤ sizeLine) → RepAll h P (xs.map .str) (strValues l)
  | [], xs, e, _ => by subst e; exact RepAll.nil
  | (x, t) :: l, xs, e, hx => by
    subst e
    refine RepAll.cons (by simp only [Rep]; exact ⟨⟨t, rfl⟩, hx x List.mem_cons_self⟩) (repAll_strs rfl fun y hy => hx y (List.mem_cons_of_mem _ hy))

section
variable {G : Wo}
theorem BiOk_split {x : Str} {c : Nat} (hn : (spl c (Sl x)).length ≤ sizeLine) : BiOk G (.builtin "str.split") [.str x, .str (mkS [c])] (.list ((spl c (Sl x)).map fun p => .str (mkS p))) := .mk fun A s P vs _ _ _ wd r₀ => by
  obtain ⟨v, u, rfl, r, r2⟩ := r₀.inv2
  simp only [Rep] at r r2; obtain ⟨⟨t, rfl⟩, hx⟩ := r; obtain ⟨⟨u, rfl⟩, _⟩ := r2
  have hsp := split_eq x c
  have hlen : ∀ y ∈ (spl c (Sl x)).map mkS, y.length ≤ sizeLine := by
    intro y hy
    obtain ⟨p, hp, rfl⟩ := List.mem_map.mp hy
    have := (spl_parts hp).1
    rw [Str_len] at hx ⊢
    rw [Sl_mkS]; omega
  have fin : ∀ (l : List (Str × Tok)) (tk : Nat), l.map (·.1) = Txt.split x (mkS [c]) → (Ext G s { s with heap := s.heap.push { cls := .type "list", data := .seq (strValues l).toArray }, toks := tk } ∧
      Rep (s.heap.push { cls := .type "list", data := .seq (strValues l).toArray }) (fun a => P a ∨ s.heap.get? a = none) (.list ((spl c (Sl x)).map fun p => .str (mkS p))) (.ref s.heap.objs.size)) := by
    intro l tk hl
    refine ⟨Ext.push, ?_⟩
    simp only [Rep]
    refine ⟨_, _, 0, rfl, .inr get_new, IsL.new _ _, ?_, by rw [List.length_map]; exact hn⟩
    have := repAll_strs (h := s.heap.push { cls := .type "list", data := .seq (strValues l).toArray }) (P := fun a => P a ∨ s.heap.get? a = none) (hl.trans hsp) hlen
    rw [List.map_map] at this
    exact this
  cases h1 : (decide (x.length < (mkS [c]).length) || decide (Builtin.Str.strKind x < Builtin.Str.strKind (mkS [c])))
  · cases hf : (Builtin.Str.occurrences x (mkS [c]) 0 x.length (x.length + 1)).isEmpty
    · have hpb : Txt.split x (mkS [c]) = Builtin.Str.partsBetween x (Builtin.Str.occurrences x (mkS [c]) 0 x.length (x.length + 1)) (mkS [c]).length := (if_neg (ne_true_of_eq_false h1)).trans (if_neg (ne_true_of_eq_false hf))
      refine call_meets PySem.F.slot_str_split (typeIs_str _ _ _) PySem.F.entry_str_split (PySem.F.args_str_split_2 _ _) (meets_str_split_sep x (mkS [c]) t u h1 rfl hf hx (by rw [← hpb, hsp, List.length_map]; exact hn)) ?_
      show wants _ _ _ { s with toks := _, heap := s.heap.push { cls := .type "list", data := .seq (strsFrom s.toks (Builtin.Str.partsBetween x (Builtin.Str.occurrences x (mkS [c]) 0 x.length (x.length + 1)) (mkS [c]).length)).toArray } }
      rw [strsFrom_eq]
      exact fin (numbered s.toks _) _ ((numbered_texts _ _).trans hpb.symm)
    · exact call_meets PySem.F.slot_str_split (typeIs_str _ _ _) PySem.F.entry_str_split (PySem.F.args_str_split_2 _ _) (meets_str_split_not_found x (mkS [c]) t u h1 rfl hf) (fin [(x, t)] s.toks ((if_neg (ne_true_of_eq_false h1)).trans (if_pos hf)).symm)
  · exact call_meets PySem.F.slot_str_split (typeIs_str _ _ _) PySem.F.entry_str_split (PySem.F.args_str_split_2 _ _) (meets_str_split_cannot_occur x (mkS [c]) t u h1) (fin [(x, t)] s.toks (if_pos h1).symm)
end
end Mine
end

section
open PySem PyProof.Rows
open PySem.SeqAt
namespace Mine

/-! ### what is stripped -/
noncomputable def lstr (p : Nat → Bool) (l : List Nat) : List Nat := l.dropWhile p
noncomputable def rstr (p : Nat → Bool) (l : List Nat) : List Nat := (l.reverse.dropWhile p).reverse
theorem drop_take_while (p : Nat → Bool) : ∀ l : List Nat, l.drop (l.takeWhile p).length = l.dropWhile p
  | [] => rfl
  | c :: l => by
    by_cases h : p c = true
    · rw [List.takeWhile_cons_of_pos h, List.dropWhile_cons_of_pos h, List.length_cons, List.drop_succ_cons, drop_take_while p l]
    · rw [List.takeWhile_cons_of_neg h, List.dropWhile_cons_of_neg h]; rfl
theorem take_rstr (p : Nat → Bool) (l : List Nat) : l.take (l.length - (l.reverse.takeWhile p).length) = rstr p l := by
  unfold rstr
  rw [← drop_take_while, List.reverse_drop, List.length_reverse, List.reverse_reverse]
theorem rstr_len (p : Nat → Bool) (l : List Nat) : (rstr p l).length ≤ l.length := by
  rw [← take_rstr]; simp
theorem lstr_len (p : Nat → Bool) (l : List Nat) : (lstr p l).length ≤ l.length := by
  unfold lstr; rw [← drop_take_while]; simp
theorem stripB (p : Nat → Bool) (x : Str) : Txt.stripBy p true true x = mkS (rstr p (lstr p (Sl x))) := by
  apply Str_ext
  rw [stripBy_eq, Sl_mkS]
  show (Builtin.Str.strSub _ _ _).cps.toList = _
  rw [StrLaws.strSub_toList]
  unfold stripLo stripHi
  simp only [if_true]
  rw [drop_take_while, Str_len, ← take_rstr]
  unfold lstr
  congr 1
  have h := congrArg List.length (drop_take_while p (Sl x))
  rw [List.length_drop] at h
  rw [show x.cps.toList = Sl x from rfl]
  omega

section
variable {G : Wo}
theorem BiOk_strip {x : Str} : BiOk G (.builtin "str.strip") [.str x] (.str (mkS (rstr white (lstr white (Sl x))))) := .mk fun A s P vs _ _ _ wd r₀ => by
  obtain ⟨v, rfl, r⟩ := r₀.inv1
  simp only [Rep] at r; obtain ⟨⟨t, rfl⟩, hx⟩ := r
  refine SC.strip (fun t' k => ⟨Ext.tok, ?_⟩) hx
  rw [show Txt.strip x = mkS (rstr white (lstr white (Sl x))) from stripB white x]
  simp only [Rep]
  exact ⟨⟨t', rfl⟩, by rw [Str_len] at hx ⊢; exact Nat.le_trans (rstr_len _ _) (Nat.le_trans (lstr_len _ _) hx)⟩
end

/-! ### tabs -/
noncomputable def xt (k : Nat) : Nat → List Nat → List Nat
  | _, [] => []
  | col, c :: r => if c = 9 then List.replicate (k - col % k) 32 ++ xt k (col + (k - col % k)) r else c :: xt k (if c == 10 || c == 13 then 0 else col + 1) r
theorem xt_notab (k : Nat) : ∀ (l : List Nat) (col : Nat), 9 ∉ l → xt k col l = l
  | [], _, _ => rfl
  | c :: l, col, h => by
    have hc : c ≠ 9 := fun e => h (e ▸ List.mem_cons_self)
    rw [xt, if_neg hc, xt_notab k l _ fun q => h (List.mem_cons_of_mem _ q)]

theorem expand_loop {G : Wo} {A : Around} {E : Value → Shared → Prop} {s : Shared} {k : Nat} {Q : (Array Nat × Nat) → Shared → Prop} (f : Nat → (Array Nat × Nat) → Sem (ForInStep (Array Nat × Nat)))
    (hf : ∀ c (out : Array Nat) (col : Nat), f c ⟨out, col⟩ = if c == 9 then (if Builtin.Str.tooLong (out.size + (k - col % k)) then (do let _ ← (unsupported "str.expandtabs:memory" : Sem PUnit); pure (.yield ⟨out ++ Array.replicate (k - col % k) 32, col + (k - col % k)⟩)) else pure (.yield ⟨out ++ Array.replicate (k - col % k) 32, col + (k - col % k)⟩)) else pure (.yield ⟨out.push c, if c == 10 || c == 13 then 0 else col + 1⟩)) :
    ∀ (l : List Nat) (out : Array Nat) (col : Nat), out.size + (xt k col l).length ≤ sizeLine → (∀ col', Q ⟨(out.toList ++ xt k col l).toArray, col'⟩ s) → wpAny G.M A (forIn l ((out, col) : Array Nat × Nat) f) Q E s
  | [], out, col, _, h => by
    rw [List.forIn_nil]
    have := h col
    simp [xt] at this
    exact wpAny_pure this
  | c :: l, out, col, hz, h => by
    rw [List.forIn_cons, hf]
    rw [xt] at hz h
    by_cases hc : c = 9
    · subst hc
      rw [if_pos rfl] at hz h
      rw [if_pos (by rfl)]
      have ht : Builtin.Str.tooLong (out.size + (k - col % k)) = false := by
        unfold Builtin.Str.tooLong
        simp at hz ⊢; omega
      rw [ht]
      refine wpAny_bind (wpAny_pure ?_)
      refine expand_loop f hf l _ _ (by simp at hz ⊢; omega) fun col' => ?_
      have := h col'
      rw [← List.append_assoc] at this
      simpa using this
    · rw [if_neg hc] at hz h
      rw [if_neg (by simpa using hc)]
      refine wpAny_bind (wpAny_pure ?_)
      refine expand_loop f hf l _ _ (by simp at hz ⊢; omega) fun col' => ?_
      have := h col'
      simpa using this

section
variable {G : Wo}
theorem expand_body {A : Around} {s : Shared} {x : Str} {t : Tok} {k : Nat} {Q : Fin → Shared → Prop} {E : Value → Shared → Prop} {rest : List Value} {o : Option Value} (hk : 0 < k) (hk2 : k < 2147483648) (hx : x.length ≤ sizeLine)
    (hb : Builtin.Str.strSelf ⟨.str x t :: rest, []⟩ = pure (.str x t, x, rest)) (hn : Builtin.Str.bindOptional "str.expandtabs" "expandtabs" 0 ["tabsize"] rest [] = pure [o])
    (ho : (o = none ∧ k = 8) ∨ ∃ u, o = some (.int k u)) (hz : (xt k 0 (Sl x)).length ≤ sizeLine) (h : ∀ t' tk, Q (.done (.ret (.str (mkS (xt k 0 (Sl x))) t'))) { s with toks := tk }) :
    wpAny G.M A (Builtin.«str.expandtabs» ⟨.str x t :: rest, []⟩) Q E s := by
  unfold Builtin.«str.expandtabs»
  rw [hb]
  refine wpAny_bind (wpAny_pure ?_)
  show wpAny _ _ (Builtin.Str.bindOptional "str.expandtabs" "expandtabs" 0 ["tabsize"] rest [] >>= _) _ _ s
  rw [hn]
  refine wpAny_bind (wpAny_pure ?_)
  have fin : ∀ (K Z : Sem Fin), K = (if (decide ((k : Int) < -(2 ^ 31 : Int)) || decide ((k : Int) ≥ 2 ^ 31)) = true then Z else
      if (!x.cps.contains 9) = true then (do rule "str.expandtabs.no-tab"; ret (← Builtin.Str.strUnchanged (.str x t) x)) else (do
        let r ← forIn x.cps ((#[], 0) : Array Nat × Nat) fun c r => if (c == 9) = true then (if Builtin.Str.tooLong (r.1.size + (if (k : Int) > 0 then (k : Int).toNat - r.2 % (k : Int).toNat else 0)) = true then (do
              let _ ← (unsupported "str.expandtabs:memory" : Sem PUnit); pure (.yield (r.1 ++ Array.replicate (if (k : Int) > 0 then (k : Int).toNat - r.2 % (k : Int).toNat else 0) 32, r.2 + (if (k : Int) > 0 then (k : Int).toNat - r.2 % (k : Int).toNat else 0))))
            else pure (.yield (r.1 ++ Array.replicate (if (k : Int) > 0 then (k : Int).toNat - r.2 % (k : Int).toNat else 0) 32, r.2 + (if (k : Int) > 0 then (k : Int).toNat - r.2 % (k : Int).toNat else 0))))
          else pure (.yield (r.1.push c, if (c == 10 || c == 13) = true then 0 else r.2 + 1))
        retStr ⟨r.1⟩)) → wpAny G.M A K Q E s := by
    rintro K Z rfl
    rw [if_neg (by simp; omega)]
    by_cases h9 : x.cps.contains 9 = true
    · rw [if_neg (by rw [h9]; simp)]
      have e : (if (k : Int) > 0 then (k : Int).toNat else 0) = k := by rw [if_pos (by omega)]; omega
      rw [← Array.forIn_toList]
      refine wpAny_bind (expand_loop (k := k) _ (fun c out col => ?_) (Sl x) #[] 0 (by simpa using hz) fun col' => ?_)
      · simp only [show (k : Int) > 0 by omega, if_true, Int.toNat_natCast]
      · refine wpAny_bind (wpAny_mkStr (wpAny_pure ?_) ?_)
        · simpa using h s.toks (s.toks + 1)
        · rw [Str_len]; simpa using hz
    · rw [if_pos (by simpa using h9)]
      refine wpAny_bind (wpAny_rule (wpAny_bind (wpAny_pure (wpAny_pure ?_))))
      have : xt k 0 (Sl x) = Sl x := xt_notab k _ _ (by simpa using h9)
      rw [this, mkS_Sl] at h
      exact h t s.toks
  rcases ho with ⟨rfl, rfl⟩ | ⟨u, rfl⟩
  · exact wpAny_bind (wpAny_pure (fin _ _ rfl))
  · exact wpAny_bind (wpAny_pure (fin _ _ rfl))
theorem BiOk_expandI {x : Str} {k : Nat} (hk : 0 < k) (hk2 : k < 2147483648) (hz : (xt k 0 (Sl x)).length ≤ sizeLine) : BiOk G (.builtin "str.expandtabs") [.str x, .int k] (.str (mkS (xt k 0 (Sl x)))) := .mk fun A s P vs _ _ _ wd r₀ => by
  obtain ⟨v, u, rfl, r, r2⟩ := r₀.inv2
  simp only [Rep] at r r2; obtain ⟨⟨t, rfl⟩, hx⟩ := r; obtain ⟨u, rfl⟩ := r2
  refine wpAny_call (codeAny_call_builtin PySem.F.slot_str_expandtabs.plain PySem.F.entry_str_expandtabs (PySem.F.slot_str_expandtabs.check _ _ _ _ _ _ _ _ (typeIs_str _ _ _) (PySem.F.args_str_expandtabs_2 _ _) ?_))
  refine expand_body (k := k) (o := some (.int k u)) hk hk2 hx rfl rfl (.inr ⟨u, rfl⟩) hz fun t' tk => ⟨Ext.tok, ?_⟩
  simp only [Rep]
  exact ⟨⟨t', rfl⟩, by rw [Str_len, Sl_mkS]; exact hz⟩
end
end Mine
end

section
open PySem PyProof.Rows
open PySem.SeqAt
namespace Mine

theorem foldl_rep (c : Nat) : ∀ (n : Nat) (acc : Array Nat), ((List.replicate n #[c]).foldl (· ++ ·) acc).toList = acc.toList ++ List.replicate n c
  | 0, acc => by simp
  | n + 1, acc => by
    rw [List.replicate_succ, List.foldl_cons, foldl_rep c n, Array.toList_append, List.append_assoc]
    rfl
theorem mul_one (c : Nat) (n : Nat) : Txt.mul (mkS [c]) (n : Int) = mkS (List.replicate n c) := by
  unfold Txt.mul
  by_cases h0 : n = 0
  · subst h0; rfl
  · rw [if_neg (by omega)]
    by_cases h1 : n = 1
    · subst h1; rfl
    · have : ((n : Int) == 1 || (mkS [c]).length == 0) = false := by
        rw [Bool.or_eq_false_iff]
        exact ⟨by simpa using (by omega : (n : Int) ≠ 1), rfl⟩
      rw [if_neg (by rw [this]; simp)]
      apply Str_ext
      show ((List.replicate (Int.toNat (n : Int)) #[c]).foldl (· ++ ·) #[]).toList = _
      rw [foldl_rep, Int.toNat_natCast]
      rfl
theorem BinOk.mul1 {c n : Nat} (hn : n ≤ sizeLine) : BinOk .Mult (.str (mkS [c])) (.int (n : Int)) (.str (mkS (List.replicate n c))) := by
  rw [← mul_one]
  rw [sizeLine_is] at hn
  refine .mulS ⟨?_, fun h1 h2 => ?_, fun h1 h2 => ?_⟩ ?_
  · simp; omega
  · show ¬ ((1 : Nat) : Int) > _
    have : (1 : Int) ≤ (2 ^ 63 - 1) / (n : Int) := by
      rw [Int.le_ediv_iff_mul_le (by omega)]; omega
    omega
  · show Builtin.Str.tooLong (1 * (n : Int).toNat) = false
    unfold Builtin.Str.tooLong
    rw [sizeLine_is]; simp; omega
  · rw [mul_one, Str_len, Sl_mkS, List.length_replicate, sizeLine_is]; exact hn

/-! ### the contracts of the small functions -/
noncomputable def iawF (ds : List PV) (d : PV) : Prop := ∃ y : Str, ds = [.str y] ∧ d = .bool ((Sl y).all white)
noncomputable def indF (ds : List PV) (d : PV) : Prop := ∃ y : Str, ds = [.str y] ∧ d = .str (mkS ((Sl y).take (lead blank (Sl y))))
noncomputable def hdrF (ds : List PV) (d : PV) : Prop := ∃ y : Str, ds = [.str y] ∧ d = .str (mkS ((Sl y).take (hdl (Sl y))))
noncomputable def linF (ds : List PV) (d : PV) : Prop := ∃ (y : Str) (k : Nat), ds = [.str y, .int (k : Int)] ∧ 0 < k ∧ k < 2147483648 ∧ (xt k 0 ((Sl y).take (lead blank (Sl y)))).length ≤ sizeLine ∧
  d = .tuple [.int (lead blank (Sl y) : Nat), .int ((xt k 0 ((Sl y).take (lead blank (Sl y)))).length : Nat)]

theorem fnAt_of {G : Wo} {mg : Str → Option Value} {fa : Addr} {x : Str} {o : Obj} {fd : FuncData} (h : mg x = some (.ref fa)) (ho : G.h₁.get? fa = some o) (hd : o.data = .func fd) : FnAt G mg x fa := ⟨h, o, fd, ho, hd⟩
theorem lsl_any {α : Type} {l : List α} {a b : Nat} (h : a ≤ b) : lsl l (some (a : Int)) (some (b : Int)) = (l.drop a).take (b - a) := by
  unfold lsl clip
  simp only []
  rw [if_neg (by omega), if_neg (by omega)]
  by_cases h1 : a ≤ l.length
  · rw [show min (Int.toNat (a : Int)) l.length = a by omega]
    by_cases h2 : b ≤ l.length
    · rw [show min (Int.toNat (b : Int)) l.length = b by omega]
    · rw [show min (Int.toNat (b : Int)) l.length = l.length by omega, List.take_of_length_le (by simp), List.take_of_length_le (by simp; omega)]
  · rw [show min (Int.toNat (a : Int)) l.length = l.length by omega, List.drop_eq_nil_of_le (Nat.le_refl _), List.drop_eq_nil_of_le (by omega)]; simp
theorem lsl_to {α : Type} {l : List α} {b : Nat} : lsl l none (some (b : Int)) = l.take b := by
  unfold lsl clip
  simp only []
  rw [if_neg (by omega), List.drop_zero, Nat.sub_zero, List.take_eq_take_iff]
  omega
theorem lsl_from {α : Type} {l : List α} {a : Nat} : lsl l (some (a : Int)) none = l.drop a := by
  unfold lsl clip
  simp only []
  rw [if_neg (by omega)]
  by_cases h1 : a ≤ l.length
  · rw [show min (Int.toNat (a : Int)) l.length = a by omega, List.take_of_length_le (by simp)]
  · rw [show min (Int.toNat (a : Int)) l.length = l.length by omega, List.drop_eq_nil_of_le (Nat.le_refl _), List.drop_eq_nil_of_le (by omega)]; simp
theorem rangeL_up (a b : Int) : rangeL a b 1 = (List.range (b - a).toNat).map fun (i : Nat) => PV.int (a + i) := by
  unfold rangeL
  rw [rangeSize_one]
  have : (if a < b then b - a else 0).toNat = (b - a).toNat := by split <;> omega
  rw [this]
  simp
theorem range_get {α : Type} {n i : Nat} {f : Nat → α} {d : α} (h : ((List.range n).map f)[i]? = some d) : i < n ∧ d = f i := by
  rw [List.getElem?_map] at h
  by_cases hi : i < n
  · rw [List.getElem?_range hi] at h; cases h; exact ⟨hi, rfl⟩
  · rw [List.getElem?_eq_none (by simpa using hi)] at h; cases h
theorem SubEnv.drop {ρ : Env1} {x : Str} {d : PV} {r : Env1} (h : SubEnv ((x, d) :: r) ρ) (hn : r.lookup x = none) : SubEnv r ρ := (SubEnv.refl.over hn).trans h
theorem eqv_str (a b : Str) : PV.eqv (.str a) (.str b) = (a == b) := by simp [PV.eqv]
theorem eqv_mkS (a b : List Nat) : PV.eqv (.str (mkS a)) (.str (mkS b)) = (a == b) := by
  rw [eqv_str, Bool.eq_iff_iff, beq_iff_eq, beq_iff_eq]
  exact ⟨fun h => by have := congrArg Sl h; simpa using this, fun h => by rw [h]⟩
theorem fmod_range (x : Int) {n : Int} (hn : 0 < n) : 0 ≤ x.fmod n ∧ x.fmod n < n := by
  rw [Int.fmod_eq_emod_of_nonneg _ (by omega)]
  exact ⟨Int.emod_nonneg _ (by omega), Int.emod_lt_of_pos _ hn⟩
theorem BiOk_len_mkS {G : Wo} {l : List Nat} : BiOk G (.builtin "len") [.str (mkS l)] (.int (l.length : Nat)) := by
  have := BiOk_len_str (G := G) (x := mkS l)
  rw [Str_len, Sl_mkS] at this
  exact this
theorem IsT1.sub {c : Cx} {ρ ρ' : Env1} {e : Expr} {t : Bool} (hs : SubEnv ρ ρ') (h : IsT1 c ρ e t) : IsT1 c ρ' e t := .mk fun A T s ha st => h.run A T s ha (st.sub hs)
theorem Ev.sub {c : Cx} {ρ ρ' : Env1} {b : Bool} {e : Expr} {d : PV} (hs : SubEnv ρ ρ') (h : Ev c ρ b e d) : Ev c ρ' b e d := .mk fun A T s ha st => h.run A T s ha (st.sub hs)
theorem EvF.sub {c : Cx} {ρ ρ' : Env1} {e : Expr} {d : List PV} (hs : SubEnv ρ ρ') (h : EvF c ρ e d) : EvF c ρ' e d := .mk fun A T s ha st => h.run A T s ha (st.sub hs)
end Mine
end

section
open PySem PyProof.Rows
open PySem.Sre
namespace Mine

/-! ### the search for white: '(\s+)' -/
/-- the machine, about to try at s -/
noncomputable def S3 (text : Array Nat) (s : Nat) (first : Bool) (a b : Option Nat) (σ : Sre.Seen) : M :=
  { code := C3, text := text, lim := text.size, start := s, lastStart := text.size, pc := 5, pos := s, handed := s, outermost := first, marks := #[a, b], frames := [Sre.Frame.mk .nextStart 5 s first 0 {} 0 none], weight := 1, seen := σ }

noncomputable def dark (c : Nat) : Bool := !white c
theorem lead_white_pos {c : Nat} {l : List Nat} (h : white c = true) : 1 ≤ lead white (c :: l) := by
  unfold lead; rw [List.takeWhile_cons_of_pos h, List.length_cons]; omega
/-- what the search from s finds -/
noncomputable def Found3 (text : Array Nat) (s : Nat) (m' : M) : Prop :=
  if lead dark (text.toList.drop s) = (text.toList.drop s).length then m'.outcome = some .failed
  else Hit m' (s + lead dark (text.toList.drop s)) (s + lead dark (text.toList.drop s) + lead white (text.toList.drop (s + lead dark (text.toList.drop s))))
    #[some (s + lead dark (text.toList.drop s)), some (s + lead dark (text.toList.drop s) + lead white (text.toList.drop (s + lead dark (text.toList.drop s))))] 1 1

end Mine
end

section
open PySem PyProof.Rows
open PySem.SeqAt
open PySem.Builtin.Re
namespace Mine
set_option maxRecDepth 100000
/-- words and the white between them -/
noncomputable def wsp (l : List Nat) : List (List Nat) :=
  if h : lead dark l = l.length then [l]
  else l.take (lead dark l) :: (l.drop (lead dark l)).take (lead white (l.drop (lead dark l))) :: wsp ((l.drop (lead dark l)).drop (lead white (l.drop (lead dark l))))
termination_by l.length
decreasing_by
  have h1 := lead_le dark l
  have h2 : 1 ≤ lead white (l.drop (lead dark l)) := by
    rw [List.drop_eq_getElem_cons (show lead dark l < l.length by omega)]
    refine lead_white_pos ?_
    have := lead_next (χ := dark) (l := l) (c := l[lead dark l]'(by omega)) (List.getElem?_eq_getElem _)
    simpa [dark] using this
  rw [List.length_drop, List.length_drop]; omega

noncomputable def T3 (pa : Addr) (y : Str) (t : Tok) : ReTarget := { pattern := .ref pa, string := .str y t, code := C3, text := y.cps, kind := 0, groups := 1, pos := 0, lim := y.cps.size }
noncomputable abbrev St6 := Array Value × Nat × Nat × Bool × Int × Bool
noncomputable def body6 (pa : Addr) (y : Str) (t : Tok) (x : Nat) (r : St6) : Sem (ForInStep St6) :=
  if (!r.2.2.2.2.2) = true then do
    let o ← if ((0 : Int) != 0 && decide (r.2.2.2.2.1 ≥ 0)) = true then pure none else reNextFound (T3 pa y t) r.2.1 r.2.2.2.1
    match o with
    | none => pure (.yield (r.1, r.2.1, r.2.2.1, r.2.2.2.1, r.2.2.2.2.1, true))
    | some m => do
      let v ← reSlice y.cps 0 r.2.2.1 m.start
      let out ← forIn (List.range 1) (r.1.push v) fun g o => do
        let v ← reMachineGroup (T3 pa y t) m (g + 1) (pure Value.none)
        pure (ForInStep.yield (o.push v))
      pure (.yield (out, m.handed, m.handed, m.handed == m.start, r.2.2.2.2.1 + 1, r.2.2.2.2.2))
  else pure (.yield (r.1, r.2.1, r.2.2.1, r.2.2.2.1, r.2.2.2.2.1, r.2.2.2.2.2))

section
variable {G : Wo} {A : Around} {E : Value → Shared → Prop} {s : Shared} {pa : Addr} {y : Str} {t : Tok}
end

end Mine
end

section
open PySem PyProof.Rows
open PySem.SeqAt
open PySem.Builtin.Re
namespace Mine
section
variable {c : Cx} {ρ : Env1} {b : Bool} {mg mb : Str → Option Value}
end
end Mine
end

section
open PySem PyProof.Rows
open PySem.SeqAt
open MeetsSeq
namespace Mine
section
variable {c : Cx} {ρ : Env1} {Q : PF → Env1 → Prop}
theorem Ex1_append (ok : c.Ok) {x : Str} {px apos pos spos : Pos} {e : Expr} {ds : List PV} {d : PV} (hx : ρ.lookup x = some (.list ds)) (ho : c.own.contains x = true) (hp : plainName x = true) (h : Ev c ρ true e d) (hz : ds.length + 1 ≤ sizeLine)
    (hs : noStar e = true) (hline : (apos.endLine == pos.line) = true) (hi : interactive c.env = false) (hq : Q .next ((x, .list (ds ++ [d])) :: ρ)) :
    Ex1 c ρ (.Expr (.Call (.Attribute (.Name x px) "append" apos) [e] [] pos) spos) Q := .mk fun A T s ha st => by
  refine wpAny_Expr ?_ hi rfl
  obtain ⟨v, h1, h2, _⟩ := st.vars x _ hx
  obtain ⟨a, ds', vs, n, e1, rfl, e3, e4, e5, e6⟩ := h2 (List.contains_iff_mem.mp ho)
  cases e1
  have hL : EvL c ρ true [e] [d] := .cons h hs .nil
  refine wpAny_Call_method rfl ?_ hline PySem.F.plainAttrs_list PySem.F.slot_list_append PySem.F.type_list_append (wpAny_Name (loadVar ok h1 ?_ (plainName_spec hp).1) (plainName_spec hp).2)
  · rw [noStars' hL]; rfl
  refine ⟨e4.isList.typeIs, fun b e => by cases e; exact ⟨_, e4, rfl⟩, ?_⟩
  refine Calls.callWith_builtin (noStars hL) (evalArgs_ev hL ha st fun us s₂ e₂ st₂ r₂ => ?_)
  obtain ⟨u, rfl, r⟩ := r₂.inv1
  have l₂ : IsL s₂.heap a vs n := st.wd.list_keep e₂ (fun h => h) e4
  have hsz : vs.size ≤ sizeLine := by have := e5.length; simp at this; omega
  refine call_meets PySem.F.slot_list_append l₂.isList.typeIs PySem.F.entry_list_append (PySem.F.args_list_append_2 _ _) (list_append a vs n u hsz) ⟨l₂, ?_⟩
  have lu := l₂.update (fun xs => xs.push u)
  have hsb : Heap.SameBut a s₂.heap (s₂.heap.update a (Obj.mapSeq fun xs => xs.push u)) := Heap.SameBut.update ..
  obtain ⟨st₃, ev₃⟩ := st₂.mutate (tk := s₂.toks) ok (mem_of_lookup e3) hsb lu (ρ' := (x, .list (ds ++ [d])) :: ρ) (fun y d' hy => by
    rw [List.lookup_cons] at hy
    by_cases q : (y == x) = true
    · rw [q] at hy; cases hy
      refine .inr ⟨eq_of_beq q, List.contains_iff_mem.mp ho, e3, ⟨_, hx⟩, _, rfl, ?_, by simp; exact hz⟩
      have := (e5.ext st.wd e₂).snoc (r.weak fun _ q => Cx.Q_iff.mpr q)
      simpa using this
    · simp only [q] at hy
      exact .inl ⟨fun e => q (by rw [e]; exact beq_self_eq_true _), hy⟩)
  exact ⟨_, T, .next, st₃, (Ext.evo e₂).trans (ev₃.weak fun b hb => .inr (.inr ⟨_, mem_of_lookup e3, hb⟩)), TGrow.refl, trivial, hq⟩

end
end Mine
end

section
open PySem PySem.W PyProof.Rows
open PySem.SeqAt
namespace Mine

/-! ### a world in which some functions' code tables grow -/
noncomputable def TabAt (h₁ h : Heap) (c P : Addr) : Prop := ∃ ps₀ more, h₁.TableAt c P ps₀ ∧ h.TableAt c P (ps₀ ++ more) ∧ h.IsCode c P (ps₀ ++ more)

theorem tabP {h : Heap} {c P : Addr} {ps : Array Value} (x : h.TableAt c P ps) : h.get? P = some { cls := .none, data := .fields ps } ∧ Obj.codeLike { cls := .none, data := .fields ps } := ⟨x.2, .inl rfl, _, rfl⟩
theorem tabL {h : Heap} {c P : Addr} {ps : Array Value} (x : h.TableAt c P ps) : h.get? P = some { cls := .none, data := .fields ps } ∧ Obj.tabLike { cls := .none, data := .fields ps } := ⟨x.2, rfl, _, rfl⟩
theorem tabC {h : Heap} {c P : Addr} {ps : Array Value} (x : h.TableAt c P ps) : ∃ o, h.get? c = some o ∧ Obj.codeLike o ∧ o.cls = .type "code" :=
  let ⟨⟨o, vs, a, b, d, _⟩, _⟩ := x; ⟨o, a, ⟨.inr b, vs, d⟩, b⟩

theorem TabAt.keep2 {h₁ h h' : Heap} {c P : Addr} (x : TabAt h₁ h c P) (hc : ∀ o, h.get? c = some o → Obj.codeLike o → h'.get? c = some o) (hP : ∀ o, h.get? P = some o → Obj.codeLike o → h'.get? P = some o) : TabAt h₁ h' c P := by
  obtain ⟨ps₀, more, a, t, i⟩ := x
  have hp' := hP _ (tabP t).1 (tabP t).2
  obtain ⟨o, ho, hco, _⟩ := tabC t
  have hc' := hc _ ho hco
  refine ⟨ps₀, more, a, ?_, ?_⟩
  · obtain ⟨⟨o', vs, e, r⟩, q⟩ := t
    rw [ho] at e; cases e
    exact ⟨⟨o, vs, hc', r⟩, hp'⟩
  · obtain ⟨o', vs, file, tf, flags, tg, inF, text, tt, op, e, r1, r2, r3, r4, r5, r6, q, r⟩ := i
    rw [ho] at e; cases e
    rw [t.2] at q; cases q
    exact ⟨o, vs, file, tf, flags, tg, inF, text, tt, _, hc', r1, r2, r3, r4, r5, r6, hp', r⟩

noncomputable def woT (prog : Program) (w : World) (s : Shared) (cs : List (Addr × Addr)) : Wo where
  prog := prog
  w := w
  h₁ := s.heap
  os₁ := s.os
  Tb := fun a => ∃ p ∈ cs, a = p.2
  TabOk := fun h => ∀ p ∈ cs, TabAt s.heap h p.1 p.2
  tabKeeps := fun _ _ t k p hp => (t p hp).keep2 (fun o e q => k _ o e q) fun o e q => k _ o e q

noncomputable def Tabs (h : Heap) (cs : List (Addr × Addr)) : Prop := (∀ p ∈ cs, ∃ ps, h.TableAt p.1 p.2 ps ∧ h.IsCode p.1 p.2 ps) ∧ cs.Pairwise fun p q => p.2 ≠ q.2

theorem notTb {prog : Program} {w : World} {s : Shared} {cs : List (Addr × Addr)} {a : Addr} (h : cs.all (fun p => p.2 != a) = true) : ¬ (woT prog w s cs).Tb a := fun ⟨p, hp, q⟩ => by
  have := List.all_eq_true.mp h p hp
  simp [q] at this

theorem apart_eq : ∀ {cs : List (Addr × Addr)}, (cs.Pairwise fun p q => p.2 ≠ q.2) → ∀ {p q : Addr × Addr}, p ∈ cs → q ∈ cs → p.2 = q.2 → p = q
  | [], _, _, _, h, _, _ => by cases h
  | x :: r, pw, p, q, hp, hq, e => by
    rw [List.pairwise_cons] at pw
    rcases List.mem_cons.mp hp with hp' | hp'
    · rcases List.mem_cons.mp hq with hq' | hq'
      · rw [hp', hq']
      · exact absurd e (by rw [hp']; exact pw.1 q hq')
    · rcases List.mem_cons.mp hq with hq' | hq'
      · exact absurd e.symm (by rw [hq']; exact pw.1 p hp')
      · exact apart_eq pw.2 hp' hq' e
/-! ### the code of a generator expression -/
section
variable {prog : Program} {w : World} {s₁ : Shared} {cs : List (Addr × Addr)}
end
end Mine
end

section
open PySem PySem.W PyProof.Rows
open PySem.SeqAt
namespace Mine

structure CodeGo (G : Wo) (env : Env) : Prop where
  run : ∀ (pos : Pos) (qual : Str) (scope : Scope) (A : Around) (s : Shared) (E : Value → Shared → Prop) (Q : Value → Shared → Prop), Wd G s →
    (∀ code h' tk, (∀ b o, ¬ G.Tb b → s.heap.get? b = some o → h'.get? b = some o) → s.heap.objs.size ≤ h'.objs.size → Ext G s { s with heap := h', toks := tk } → Q code { s with heap := h', toks := tk }) →
    wpAny G.M A (genexprCode env pos qual scope) Q E s
noncomputable def BMain (h : Heap) (mg : Str → Option Value) : Prop := ∃ bm ob, mg "__builtins__" = some (.ref bm) ∧ bm ≠ builtinsNs ∧ h.get? bm = some ob ∧ ob.cls = .type "module" ∧ ob.dict = some builtinsNs ∧ ob.data = .plain

section
variable {c : Cx} {ρ : Env1} {b : Bool} {mg mb : Str → Option Value}

/-- an element of a generator expression over texts -/
structure GenElt (c : Cx) (ρ : Env1) (scope : Scope) (x : Str) (elt : Expr) (l : List Str) (gf : Str → Str) : Prop where
  run : ∀ (T : Own1) (s : Shared), St c ρ T s → ∀ (C : Addr) (code : Value) (A : Around) (E : Value → Shared → Prop) (y : Str) (t : Tok) (s₂ : Shared) (m₂ : Str → Option Value), A.handled = none → s₂.heap.Ns C m₂ → m₂ x = some (.str y t) →
    (∀ a v, s.heap.IsCell a v → s₂.heap.IsCell a v) → y ∈ l → y.length ≤ sizeLine →
    wpAny c.M A (eval elt (genEnv scope (closFrom c.env scope.names []) C code builtinsNs c.env)) (fun v s₃ => (∃ u, v = .str (gf y) u) ∧ Keeps s₂ s₃) E s₂

end
end Mine
end

section
open PySem PySem.W PyProof.Rows
open PySem.SeqAt
namespace Mine
section
variable {c : Cx} {ρ : Env1}

end
end Mine
end

section
open PySem PySem.W PyProof.Rows
open PySem.SeqAt
namespace Mine

/-! ### what reformat_paragraph computes -/
noncomputable def isw (l : List Nat) : Bool := l.all white
noncomputable def indt (l : List Nat) : List Nat := l.take (lead blank l)
noncomputable def one (w : List Nat) (s : Option (List Nat)) : List (List Nat × Bool) := if w = [] then [] else [(w, match s with | none => false | some t => t != [32])]
noncomputable def prs (ws : List (List Nat)) : List (List Nat × Bool) := (List.range ((ws.length + 1) / 2)).flatMap fun i => one (ws.getD (2 * i) []) ws[2 * i + 1]?
noncomputable abbrev RSt := List (List Nat) × List Nat
noncomputable def brk (i1 : List Nat) (lim : Int) (st : RSt) (w : List Nat) : Bool := decide (lim < ((xt 8 0 (st.2 ++ w)).length : Nat)) && (st.2 != i1)
noncomputable def turn (i1 i2 : List Nat) (lim : Int) (st : RSt) (w : List Nat) : RSt := if brk i1 lim st w then (st.1 ++ [rstr white st.2], i2) else st
noncomputable def dbl (b : Bool) : List Nat := if b then [32] else []
noncomputable def put (i1 i2 : List Nat) (lim : Int) (st : RSt) (wd : List Nat × Bool) : RSt := ((turn i1 i2 lim st wd.1).1, (turn i1 i2 lim st wd.1).2 ++ wd.1 ++ [32] ++ dbl wd.2)
noncomputable def rowsOf (i1 i2 : List Nat) (lim : Int) (ls : List (List Nat)) (st : RSt) : RSt := (ls.flatMap fun l => prs (wsp l)).foldl (put i1 i2 lim) st
noncomputable def ind2 (i1 : List Nat) : List (List Nat) → List Nat
  | r :: _ => if isw r then i1 else indt r
  | [] => i1
noncomputable def jl : List (List Nat) → List Nat
  | [] => []
  | [x] => x
  | x :: y :: r => x ++ 10 :: jl (y :: r)
noncomputable def rpSet (lines : List (List Nat)) (lim : Int) (r : List Nat) (more : List (List Nat)) : RSt :=
  rowsOf (indt r) (ind2 (indt r) more) lim ((r :: more).takeWhile fun l => !isw l) (lines.takeWhile isw, indt r)
noncomputable def rp (data : List Nat) (lim : Int) : List Nat :=
  match (spl 10 data).dropWhile isw with
  | [] => data
  | r :: more => jl ((rpSet (spl 10 data) lim r more).1 ++ [rstr white (rpSet (spl 10 data) lim r more).2] ++ (r :: more).dropWhile fun l => !isw l)

noncomputable def sumw (ps : List (List Nat × Bool)) : Nat := (ps.map (·.1.length)).sum
noncomputable def sumL (ls : List (List Nat)) : Nat := (ls.map List.length).sum
theorem xt_le (k : Nat) (hk : 0 < k) : ∀ (l : List Nat) (col : Nat), (xt k col l).length ≤ k * l.length
  | [], _ => by simp [xt]
  | c :: r, col => by
    rw [xt]
    have hm : k * (c :: r).length = k * r.length + k := by rw [List.length_cons, Nat.mul_add, Nat.mul_one]
    split
    · have := xt_le k hk r (col + (k - col % k))
      rw [List.length_append, List.length_replicate, hm]
      omega
    · have := xt_le k hk r (if c == 10 || c == 13 then 0 else col + 1)
      rw [List.length_cons, hm]; omega
end Mine
end

section
open PySem PySem.W PyProof.Rows
open PySem.SeqAt
namespace Mine
noncomputable abbrev SS (ls : List (List Nat)) : List PV := ls.map fun p => PV.str (mkS p)
theorem idx_nat {i n : Nat} (h : i < n) : idx (i : Int) n = some i := by
  unfold idx
  rw [if_neg (by omega), if_pos (by omega)]; rfl
theorem SS_get {ls : List (List Nat)} {i : Nat} {l : List Nat} (h : ls[i]? = some l) : (SS ls)[i]? = some (.str (mkS l)) := by simp [SS, h]
theorem BiOk_joinL {G : Wo} {c : List Nat} {ls : List (List Nat)} (h : sumL ls + ls.length * c.length ≤ sizeLine) : BiOk G (.builtin "str.join") [.str (mkS c), .list (SS ls)] (.str (jn (mkS c) (ls.map mkS))) := by
  have := BiOk_join (G := G) (sep := mkS c) (xs := ls.map mkS) (by
    rw [List.map_map, List.length_map]
    have e : ((fun x : Str => x.length) ∘ mkS) = List.length := by funext l; simp [Str.length]
    rw [e]
    simpa [sumL, Str.length] using h)
  rwa [List.map_map] at this
noncomputable def pre (ws : List (List Nat)) (i : Nat) : List (List Nat × Bool) := (List.range i).flatMap fun i => one (ws.getD (2 * i) []) ws[2 * i + 1]?
noncomputable def rpF (ds : List PV) (d : PV) : Prop := ∃ (y : List Nat) (lim : Int), ds = [.str (mkS y), .int lim] ∧ y.length ≤ 3000 ∧ d = .str (mkS (rp y lim))
noncomputable def rpG (ds : List PV) (d : PV) : Prop := ∃ (y : List Nat) (lim : Int) (M : Nat), ds = [.str (mkS y), .int lim] ∧ y.length ≤ 50000 ∧ M ≤ 50000 ∧ (∀ l ∈ spl 10 y, isw l = false → lead blank l ≤ M) ∧ (M + 5) * (y.length + 1) ≤ 12000000 ∧ d = .str (mkS (rp y lim))
theorem Fn.of {G : Wo} {k : Nat} {fa : Addr} {f f' : List PV → PV → Prop} (F : Fn G k fa f) (h : ∀ ds d, f' ds d → f ds d) : Fn G k fa f' := .mk fun A s P vs ds d a1 a2 a3 a4 a5 => F.run A s P vs ds d a1 a2 a3 a4 (h ds d a5)
end Mine
end

section
open PySem PySem.W PyProof.Rows
open PySem.SeqAt
namespace Mine

noncomputable def rpR (lines : List (List Nat)) (lim : Int) : List (List Nat) :=
  match lines.dropWhile isw with
  | [] => lines
  | r :: more => (rpSet lines lim r more).1 ++ [rstr white (rpSet lines lim r more).2] ++ (r :: more).dropWhile fun l => !isw l
theorem sumL_cons (x : List Nat) (r : List (List Nat)) : sumL (x :: r) = x.length + sumL r := rfl
/-! ### what reformat_comment computes -/
noncomputable def cut (k : Nat) (data : List Nat) : List Nat := jl ((spl 10 data).map (List.drop k))
noncomputable def wid (lim : Int) (h : List Nat) : Int := max (lim - (h.length : Nat)) 20
noncomputable def under (h : List Nat) (ls : List (List Nat)) : List Nat := jl (ls.map (h ++ ·))
/-- the rows that it sets -/
noncomputable def rcR (data : List Nat) (lim : Int) (h : List Nat) : List (List Nat) := rpR ((spl 10 data).map (List.drop h.length)) (wid lim h)
noncomputable def rcOf (h : List Nat) (nd : List (List Nat)) : List Nat := if nd.getLast? = some [] then under h nd.dropLast ++ [10] else under h nd
noncomputable def rc (data : List Nat) (lim : Int) (h : List Nat) : List Nat := rcOf h (rcR data lim h)
noncomputable def rcF (ds : List PV) (d : PV) : Prop := ∃ (y : List Nat) (lim : Int) (h : List Nat), ds = [.str (mkS y), .int lim, .str (mkS h)] ∧ y.length ≤ 3000 ∧ h.length ≤ 200 ∧ d = .str (mkS (rc y lim h))
theorem ssl_drop (y : List Nat) (k : Nat) : ssl (mkS y) (some (k : Int)) none = mkS (y.drop k) := by unfold ssl; rw [lsl_from]
noncomputable def rcG (ds : List PV) (d : PV) : Prop := ∃ (y : List Nat) (lim : Int) (h : List Nat) (M : Nat), ds = [.str (mkS y), .int lim, .str (mkS h)] ∧ y.length ≤ 10000000 ∧ (cut h.length y).length ≤ 50000 ∧ M ≤ 50000 ∧ (∀ l ∈ (spl 10 y).map (List.drop h.length), isw l = false → lead blank l ≤ M) ∧
  (M + 5) * ((cut h.length y).length + 1) ≤ 12000000 ∧ (M + 5) * ((cut h.length y).length + 1) + ((cut h.length y).length + 2) * (h.length + 1) ≤ 16000000 ∧ d = .str (mkS (rc y lim h))
theorem mkS_app (a b : List Nat) : mkS a ++ mkS b = mkS (a ++ b) := Str_ext (Sl_append _ _)
theorem mkS_len (l : List Nat) : (mkS l).length = l.length := by rw [Str_len]
theorem BiOk_max2 {G : Wo} {a b : Int} : BiOk G (.builtin "max") [.int a, .int b] (.int (max a b)) := .mk fun A s P vs hh _ _ wd r₀ => by
  obtain ⟨v, u, rfl, r, r2⟩ := r₀.inv2
  simp only [Rep] at r r2; obtain ⟨t, rfl⟩ := r; obtain ⟨t', rfl⟩ := r2
  refine max_two_ints hh fun h' tk hk => ⟨Ext.of hk, ?_⟩
  simp only [Rep]
  split
  · exact ⟨t', by rw [show max a b = b by omega]⟩
  · exact ⟨t, by rw [show max a b = a by omega]⟩
end Mine
end

section
open PySem PySem.W PyProof.Rows
open PySem.SeqAt
namespace Mine
section
variable {c : Cx} {ρ : Env1} {b : Bool} {mg mb : Str → Option Value} {Q : PF → Env1 → Prop}

/-! ### lists that nothing else knows of -/
noncomputable def flats (ds : List PV) : Bool := ds.all PV.flat
theorem RepAll.flats {h h' : Heap} {P P' : Addr → Prop} : ∀ {ds : List PV} {vs : List Value}, flats ds = true → RepAll h P ds vs → RepAll h' P' ds vs
  | [], vs, _, r => by simpa only [RepAll] using r
  | d :: ds, vs, hf, r => by
    simp only [Mine.flats, List.all_cons, Bool.and_eq_true] at hf
    simp only [RepAll] at r ⊢
    obtain ⟨v, q, e, r1, r2⟩ := r
    exact ⟨v, q, e, r1.flat hf.1, RepAll.flats (ds := ds) hf.2 r2⟩
theorem SS_flats (ls : List (List Nat)) : flats (SS ls) = true := by
  unfold flats SS
  rw [List.all_map, List.all_eq_true]
  intro _ _; rfl
/-! ### a, b = .. -/
theorem Ex1_tuple {ts : List Expr} {k tpos pos} {e : Expr} {ds : List PV} {ρ' : Env1} (h : Ev c ρ true e (.tuple ds)) (ha' : AsgL c ts ds ρ ρ') (hq : Q .next ρ')
    (hs : swapsWithSole [.Tuple ts k tpos] e pos.line c.env = pure false) (hw : swappedStores [.Tuple ts k tpos] e c.env = pure none) : Ex1 c ρ (.Assign [.Tuple ts k tpos] e pos) Q := .mk fun A T s ha st => by
  refine Assign_Tuple (h.use ha st fun v s₁ e₁ st₁ r => ?_) hs hw
  refine wpAny_mono ((Asg_tuple ha').run A T s₁ v ha st₁ (r.weak fun _ q => Cx.Q_iff.mpr q)) (fun _ s₂ ⟨st₂, e₂⟩ => ?_) fun _ _ h => h.elim
  exact ⟨_, T, .next, st₂, (Ext.evo e₁).trans (e₂.weak fun _ => Cx.Xs_X), TGrow.refl, trivial, hq⟩

theorem bindL_use (ok : c.Ok) {A : Around} {T : Own1} (ha : AOk c.rk A) : ∀ (xs : List Str) (ds : List PV) (vs : List Value) (ρ : Env1) (s : Shared), St c ρ T s → RepAll s.heap (c.Q T) ds vs → xs.length = ds.length → (∀ x ∈ xs, storable c x = true ∧ c.own.contains x = false) →
    wpAny c.M A (assignInOrder (xs.map fun n => bindName c.env n) vs) (fun _ s' => St c ((xs.zip ds).reverse ++ ρ) T s' ∧ Evo c.G c.Xs s s') (fun _ _ => False) s
  | [], [], vs, ρ, s, st, r, _, _ => by
    simp only [RepAll] at r; subst r
    exact wpAny_pure ⟨st, Evo.refl⟩
  | x :: xs, d :: ds, vs, ρ, s, st, r, hl, hx => by
    simp only [RepAll] at r
    obtain ⟨v, rest, rfl, r1, r2⟩ := r
    have h1 := hx x List.mem_cons_self
    show wpAny _ _ (do holding rest (bindName c.env x v); assignInOrder _ rest) _ _ _
    refine wpAny_bind (wpAny_holding (bindName_ (st.store ok (storable_spec h1.1) (fun q => by rw [List.contains_iff_mem.mpr q] at h1; cases h1.2) r1 fun s₁ e₁ st₁ => ?_)))
    have := bindL_use ok ha xs ds rest ((x, d) :: ρ) s₁ st₁ (r2.evo st.wd e₁ (fun _ h q => Cx.Q_notX h (Cx.Xs_X q))) (by simpa using hl) fun y hy => hx y (List.mem_cons_of_mem _ hy)
    refine wpAny_mono this (fun _ s₂ ⟨st₂, e₂⟩ => ⟨?_, e₁.trans e₂⟩) fun _ _ h => h
    simpa using st₂
  | [], d :: ds, vs, ρ, s, st, r, hl, hx => by simp at hl
  | x :: xs, [], vs, ρ, s, st, r, hl, hx => by simp at hl
theorem RepAll.reverse {h : Heap} {P : Addr → Prop} : ∀ {ds : List PV} {vs : List Value}, RepAll h P ds vs → RepAll h P ds.reverse vs.reverse
  | [], vs, r => by simp only [RepAll] at r; subst r; exact RepAll.nil
  | d :: ds, vs, r => by
    simp only [RepAll] at r
    obtain ⟨v, q, rfl, r1, r2⟩ := r
    rw [List.reverse_cons, List.reverse_cons]
    exact (RepAll.reverse r2).snoc r1
theorem Ex1_swap (ok : c.Ok) {ts : List Expr} {k tpos pos} {e : Expr} {names : List Str} {ds : List PV} (h : Ev c ρ true e (.tuple ds)) (hn : names.length = ds.length) (hx : (names.reverse.all fun x => storable c x && !c.own.contains x) = true)
    (hq : Q .next ((names.reverse.zip ds.reverse).reverse ++ ρ))
    (hs : swapsWithSole [.Tuple ts k tpos] e pos.line c.env = pure false) (hw : swappedStores [.Tuple ts k tpos] e c.env = pure (some names)) : Ex1 c ρ (.Assign [.Tuple ts k tpos] e pos) Q := .mk fun A T s ha st => by
  refine Assign_Tuple_swapped (h.use ha st fun v s₁ e₁ st₁ r => ?_) hs hw
  simp only [Rep] at r
  obtain ⟨a, vs, n, rfl, hp, l, ra, z⟩ := r
  have hlen : vs.size = ds.length := by simpa using ra.length
  refine (hn.trans hlen.symm) ▸ unpackItems_tuple ha.handled (items := vs) ⟨_, l, rfl, n, rfl⟩ fun h' he => ?_
  have e2 := ext_new (c := c) he
  have ra' := (RepAll.reverse (ra.ext st₁.wd e2)).weak fun _ q => Cx.Q_iff.mpr q
  refine wpAny_mono (bindL_use ok ha names.reverse ds.reverse vs.toList.reverse ρ _ (st₁.ext e2) ra' (by simpa using hn) fun x hx' => ?_) (fun _ s₂ ⟨st₂, e₃⟩ => ?_) fun _ _ h => h.elim
  · have := List.all_eq_true.mp hx x hx'
    simpa using this
  · exact ⟨_, T, .next, st₂, (Ext.evo (e₁.trans e2)).trans (e₃.weak fun _ => Cx.Xs_X), TGrow.refl, trivial, hq⟩

/-! ### x = rows.pop() -/
/-! ### [x] * n, a ** n -/
theorem RepAll.replicate {h : Heap} {P : Addr → Prop} {d : PV} {v : Value} (r : Rep h P d v) : ∀ n, RepAll h P (List.replicate n d) (List.replicate n v)
  | 0 => RepAll.nil
  | n + 1 => by rw [List.replicate_succ, List.replicate_succ]; exact RepAll.cons r (RepAll.replicate r n)
theorem Ev_pow {l r : Expr} {pos} {a : Int} {n : Nat} (h₁ : Ev c ρ false l (.int a)) (h₂ : Ev c ρ false r (.int (n : Int))) (ha' : a.natAbs < 2 ^ 64) (hn : n ≤ 1000000) : Ev c ρ b (.BinOp l .Pow r pos) (.int (a ^ n)) := .mk fun A T s ha st => by
  refine wpAny_BinOp (h₁.use ha st fun v₁ s₁ e₁ st₁ r₁ => h₂.use ha st₁ fun v₂ s₂ e₂ st₂ r₂ => ?_)
  simp only [Rep] at r₁ r₂; obtain ⟨t, rfl⟩ := r₁; obtain ⟨u, rfl⟩ := r₂
  exact pow_int_small (by omega) (by omega) ha' ⟨(e₁.trans e₂).trans Ext.tok, by simp only [Rep]; exact ⟨_, rfl⟩⟩
end
end Mine
end

section
open PySem PySem.W PyProof.Rows
open PySem.SeqAt
namespace Mine
section
variable {c : Cx} {ρ : Env1} {T : Own1}

end
end Mine
end

section
open PySem PySem.W PyProof.Rows
open PySem.SeqAt
namespace Mine
theorem jn_flat : ∀ (l : List (List Nat)), jn (mkS []) (l.map mkS) = mkS l.flatten
  | [] => rfl
  | [a] => by simp [jn]
  | a :: b :: r => by
    have ih := jn_flat (b :: r)
    rw [List.map_cons, List.map_cons, jn, ← List.map_cons (f := mkS), ih]
    apply Str_ext; rw [Sl_append, Sl_append]
    show a ++ [] ++ (b :: r).flatten = (a :: b :: r).flatten
    simp
theorem mkS_inj {a b : List Nat} (h : PV.str (mkS a) = PV.str (mkS b)) : a = b := by
  injection h with h; have := congrArg Sl h; simpa using this
theorem sumL_flat (l : List (List Nat)) : sumL l = l.flatten.length := by
  induction l with
  | nil => rfl
  | cons a l ih => rw [sumL_cons, ih, List.flatten_cons, List.length_append]
theorem BiOk_join0 {G : Wo} {ls : List (List Nat)} (h : sumL ls ≤ sizeLine) : BiOk G (.builtin "str.join") [.str (mkS []), .list (SS ls)] (.str (mkS ls.flatten)) := by
  rw [← jn_flat]; exact BiOk_joinL (by simpa using h)

/-! ### rows under a header -/
/-- what _law_under makes -/
noncomputable def lu (o t : List Nat) : List Nat :=
  if (spl 10 t).getLast? = some [] then ((spl 10 t).dropLast.map fun r => o ++ r ++ [10]).flatten
  else ((spl 10 t).dropLast.map fun r => o ++ r ++ [10]).flatten ++ o ++ ((spl 10 t).getLast?).getD []
/-! ### a set row has ink -/
theorem rstr_ne {p : Nat → Bool} {l : List Nat} {c : Nat} (hc : c ∈ l) (hp : p c = false) : rstr p l ≠ [] := by
  unfold rstr
  intro h
  have h' : l.reverse.dropWhile p = [] := by simpa using h
  have : ∀ {l : List Nat}, l.dropWhile p = [] → ∀ x ∈ l, p x = true := by
    intro l
    induction l with
    | nil => intro _ x hx; cases hx
    | cons y r ih =>
      intro h x hx
      by_cases hy : p y = true
      · rw [List.dropWhile_cons_of_pos hy] at h
        rcases List.mem_cons.mp hx with rfl | hx
        · exact hy
        · exact ih h x hx
      · rw [List.dropWhile_cons_of_neg hy] at h; cases h
  have := this h' c (by simpa using hc)
  rw [hp] at this; cases this
theorem lead_cons_pos {χ : Nat → Bool} {c : Nat} {l : List Nat} (h : χ c = true) : lead χ (c :: l) = lead χ l + 1 := by unfold lead; rw [List.takeWhile_cons_of_pos h]; rfl
theorem lead_cons_neg {χ : Nat → Bool} {c : Nat} {l : List Nat} (h : χ c = false) : lead χ (c :: l) = 0 := by unfold lead; rw [List.takeWhile_cons_of_neg (by rw [h]; simp)]; rfl
theorem take_lead {χ : Nat → Bool} : ∀ {l : List Nat}, ∀ x ∈ l.take (lead χ l), χ x = true
  | [], x, h => by simp at h
  | c :: l, x, h => by
    by_cases hc : χ c = true
    · rw [lead_cons_pos hc, List.take_succ_cons] at h
      rcases List.mem_cons.mp h with rfl | h
      · exact hc
      · exact take_lead x h
    · rw [lead_cons_neg (by simpa using hc)] at h; simp at h
end Mine
end

section
open PySem PySem.W PyProof.Rows
open PySem.SeqAt
namespace Mine
/-! ### the plain law -/
theorem flatten_ones {α : Type} (f : α → Nat) : ∀ l : List α, (l.map fun k => [f k]).flatten = l.map f
  | [] => rfl
  | a :: r => by rw [List.map_cons, List.flatten_cons, flatten_ones f r]; rfl
theorem sumL_ones {α : Type} (f : α → Nat) : ∀ l : List α, sumL (l.map fun k => [f k]) = l.length
  | [] => rfl
  | a :: r => by rw [List.map_cons, sumL_cons, sumL_ones f r]; simp; omega
theorem sumL_bound {ls : List (List Nat)} {n : Nat} : (∀ l ∈ ls, l.length ≤ n) → sumL ls ≤ n * ls.length := by
  induction ls with
  | nil => intro _; simp [sumL]
  | cons a r ih =>
    intro h
    have := ih fun l hl => h l (List.mem_cons_of_mem _ hl)
    have := h a List.mem_cons_self
    rw [sumL_cons, List.length_cons, Nat.mul_add, Nat.mul_one]; omega
theorem idx_mod {x n : Int} {k : Nat} (hn : 0 < n) (hk : n = k) : idx (x.fmod n) k = some (x.fmod n).toNat := by
  have := fmod_range x hn
  unfold idx
  rw [if_neg (by omega), if_pos (by omega)]
end Mine
end

section
open PySem PySem.W PyProof.Rows
open PySem.SeqAt
namespace Mine

/-! ### dark signs are kept -/
noncomputable def dk (l : List Nat) : Nat := l.countP dark
noncomputable def dkL (ls : List (List Nat)) : Nat := (ls.map dk).sum
theorem white32 : white 32 = true := by decide +kernel
noncomputable def dkP (ps : List (List Nat × Bool)) : Nat := (ps.map fun p => dk p.1).sum
/-! ### how long it gets -/
/-! ### indents stay -/
/-! ### rows under a header -/
noncomputable def rowsU (h t : List Nat) : List (List Nat) := if (spl 10 t).getLast? = some [] then (spl 10 t).dropLast.map (h ++ ·) ++ [[]] else (spl 10 t).map (h ++ ·)
end Mine
end

section
open PySem PySem.W PyProof.Rows
open PySem.SeqAt
namespace Mine

/-! ### the rows of a set paragraph, as lists of words with the blanks behind them -/
noncomputable abbrev Wd2 := List Nat × Bool
noncomputable def gap (b : Bool) : Nat := if b then 2 else 1
noncomputable def wl (q : List Wd2) : Nat := (q.map fun p => p.1.length + gap p.2).sum
noncomputable def flat (q : List Wd2) : List Nat := q.flatMap fun p => p.1 ++ [32] ++ dbl p.2
/-- the rows: c columns stand ahead of the row that is being filled, c2 ahead of all further ones -/
noncomputable def fillR (c2 : Nat) (lim : Int) : Nat → List Wd2 → List Wd2 → List (List Wd2)
  | _, cur, [] => [cur]
  | c, cur, p :: r => if cur ≠ [] ∧ lim < ((c + wl cur + p.1.length : Nat) : Int) then cur :: fillR c2 lim c2 [p] r else fillR c2 lim c (cur ++ [p]) r

/-- good words: dark and not empty -/
noncomputable def Good (ps : List Wd2) : Prop := ∀ p ∈ ps, p.1 ≠ [] ∧ ∀ c ∈ p.1, white c = false
theorem Good.tail {p : Wd2} {r : List Wd2} (h : Good (p :: r)) : Good r := fun q hq => h q (List.mem_cons_of_mem _ hq)
theorem Good.one {p : Wd2} {r : List Wd2} (h : Good (p :: r)) : Good [p] := fun q hq => by simp at hq; subst hq; exact h q List.mem_cons_self

theorem white9 : white 9 = true := by decide +kernel
noncomputable abbrev cols (i : List Nat) : Nat := (xt 8 0 i).length

/-- a row's text -/
noncomputable def body (q : List Wd2) : List Nat := rstr white (flat q)
/-- a row of two words or more is not too wide -/
noncomputable def Fits (lim : Int) (c : Nat) (q : List Wd2) : Prop := ∀ a p, q = a ++ [p] → a ≠ [] → ((c + wl a + p.1.length : Nat) : Int) ≤ lim
inductive Rows (c2 : Nat) (lim : Int) : Nat → List (List Wd2) → Prop
  | last {c q} (h : q ≠ []) (hf : Fits lim c q) : Rows c2 lim c [q]
  | more {c q p q' r} (h : q ≠ []) (hf : Fits lim c q) (hn : lim < ((c + wl q + p.1.length : Nat) : Int)) (hr : Rows c2 lim c2 ((p :: q') :: r)) : Rows c2 lim c (q :: (p :: q') :: r)
/-- what reformat_paragraph's rows are -/
noncomputable def setR (i1 i2 : List Nat) (lim : Int) (ps : List Wd2) : List (List Wd2) := fillR (cols i2) lim (cols i1) [] ps
noncomputable def rowsT (i1 i2 : List Nat) : List (List Wd2) → List (List Nat)
  | [] => []
  | q :: r => (i1 ++ body q) :: r.map fun q => i2 ++ body q
theorem Rows.ne {c2 : Nat} {lim : Int} {c : Nat} {qs : List (List Wd2)} (h : Rows c2 lim c qs) : ∀ q ∈ qs, q ≠ [] := by
  induction h with
  | last h hf => intro q hq; simp at hq; subst hq; exact h
  | more h hf hn hr ih =>
    intro q hq
    rcases List.mem_cons.mp hq with rfl | hq
    · exact h
    · exact ih q hq
/-- the pairs of lines -/
noncomputable def pairsOf (ls : List (List Nat)) : List Wd2 := ls.flatMap fun l => prs (wsp l)
end Mine
end

section
open PySem PySem.W PyProof.Rows
open PySem.SeqAt
namespace Mine

/-! ### text.split() -/
noncomputable def wds (l : List Nat) : List (List Nat) := (prs (wsp l)).map (·.1)
section
variable {G : Wo}
/-! ### text.index(word, place) -/
/-- the first place from lo on -/
noncomputable def FirstAt (x y : List Nat) (lo p : Nat) : Prop := lo ≤ p ∧ p + y.length ≤ x.length ∧ (x.drop p).take y.length = y ∧ ∀ i, lo ≤ i → i < p → (x.drop i).take y.length ≠ y
end
section
variable {c : Cx} {ρ : Env1} {Q : PF → Env1 → Prop}
end
end Mine
end

section
open PySem PySem.W PyProof.Rows
open PySem.SeqAt
namespace Mine

/-- nothing, or a white sign at once -/
noncomputable def Whead (l : List Nat) : Prop := l = [] ∨ ∃ c t, l = c :: t ∧ white c = true
noncomputable def gapB (l : List Nat) : Bool := !(l.take (lead white l) == [] || l.take (lead white l) == [32])
theorem drop_lead (χ : Nat → Bool) : ∀ l : List Nat, lead χ (l.drop (lead χ l)) = 0
  | [] => rfl
  | c :: l => by
    by_cases h : χ c = true
    · rw [lead_cons_pos h, List.drop_succ_cons]; exact drop_lead χ l
    · have h' : χ c = false := by simpa using h
      rw [lead_cons_neg h', List.drop_zero, lead_cons_neg h']
/-! ### words of a set row -/
end Mine
end

section
open PySem PySem.W PyProof.Rows
open PySem.SeqAt
namespace Mine
section
variable {c : Cx} {ρ : Env1} {T : Own1} {Q : PF → Env1 → Prop}
end
end Mine
end

section
open PySem PySem.W PyProof.Rows
open PySem.SeqAt
namespace Mine

/-! ### reading a built row -/
theorem lead_pass {χ : Nat → Bool} : ∀ {a b : List Nat}, (∀ c ∈ a, χ c = true) → lead χ (a ++ b) = a.length + lead χ b
  | [], b, _ => by simp
  | c :: a, b, h => by
    rw [List.cons_append, lead_cons_pos (h c List.mem_cons_self), lead_pass fun x hx => h x (List.mem_cons_of_mem _ hx), List.length_cons]; omega
/-! ### rows that all fit -/
end Mine
end

section
open PySem PySem.W PyProof.Rows
open PySem.SeqAt
namespace Mine

/-! ### greedy partitions from both sides -/
structure Part (W : Nat → Nat → Int) (r : Int) (n m : Nat) (e : Nat → Nat) : Prop where
  zero : e 0 = 0
  last : e m = n
  lt : ∀ k, k < m → e k < e (k + 1)
  fit : ∀ k, k < m → e (k + 1) = e k + 1 ∨ W (e k) (e (k + 1)) ≤ r
noncomputable def MonoW (W : Nat → Nat → Int) (n : Nat) : Prop := ∀ a a' b' b, a ≤ a' → a' < b' → b' ≤ b → b ≤ n → W a' b' ≤ W a b
theorem Part.le {W : Nat → Nat → Int} {r : Int} {n m : Nat} {e : Nat → Nat} (h : Part W r n m e) : ∀ {i j : Nat}, i ≤ j → j ≤ m → e i + (j - i) ≤ e j := by
  intro i j hij
  induction j with
  | zero => intro _; have : i = 0 := by omega
            subst this; simp
  | succ j ih =>
    intro hj
    by_cases q : i = j + 1
    · subst q; simp
    · have := ih (by omega) (by omega)
      have := h.lt j (by omega)
      omega
/-! ### widths -/
/-- width of the words a .. b - 1, from the sums of words and of blanks -/
noncomputable def Wdt (A B : Nat → Nat) (a b : Nat) : Int := (A b : Int) - A a + ((B (b - 1) : Int) - B a)
noncomputable def PA (ps : List Wd2) (k : Nat) : Nat := sumw (ps.take k)
noncomputable def PB (ps : List Wd2) (k : Nat) : Nat := ((ps.take k).map fun p => gap p.2).sum
/-- where the rows end -/
noncomputable def endsN (qs : List (List Wd2)) (k : Nat) : Nat := ((qs.take k).flatten).length
/-! ### words and blanks turned round -/
/-- pairs of words and blanks -/
noncomputable def mkP : List (List Nat) → List Nat → List Wd2
  | [], _ => []
  | w :: ws, [] => (w, false) :: mkP ws []
  | w :: ws, g :: gs => (w, g == 2) :: mkP ws gs
noncomputable def lensum (ws : List (List Nat)) : Nat := (ws.map List.length).sum
end Mine
end

section
open PySem PySem.W PyProof.Rows
open PySem.SeqAt
namespace Mine
section
variable {prog : Program} {w : World} {A : Around} {E : Value → Shared → Prop} {s : Shared}
theorem isList_but {h h' : Heap} {t a : Addr} {items : Array Value} (x : h.IsList t items) (hs : Heap.SameBut a h h') (hn : t ≠ a) : h'.IsList t items := let ⟨o, ho, r⟩ := x; ⟨o, (hs.2 t hn).trans ho, r⟩
end
section
variable {c : Cx} {ρ : Env1} {b : Bool} {Q : PF → Env1 → Prop}
end
end Mine
end

section
open PySem PySem.W PyProof.Rows
open PySem.SeqAt
namespace Mine

/-! ### equal words -/
section
variable {c : Cx} {ρ : Env1} {Q : PF → Env1 → Prop}
end
/-- n words, all the same, the last one with no blank to speak of -/
noncomputable def eqP (W : List Nat) (b : Bool) : Nat → List Wd2
  | 0 => []
  | n + 1 => List.replicate n (W, b) ++ [(W, false)]
/-- how many words a row holds -/
noncomputable def holds (lim : Int) (c sz gp : Nat) : Nat := (max 1 ((lim - c + gp).fdiv ((sz + gp : Nat) : Int))).toNat
/-- a row of n such words -/
noncomputable def joinW (W s : List Nat) : Nat → List Nat
  | 0 => []
  | 1 => W
  | n + 2 => W ++ s ++ joinW W s (n + 1)
end Mine
end

section
open PySem PySem.W PyProof.Rows
open PySem.SeqAt
namespace Mine

/-! ### x[i] = v on an owned list -/
section
variable {prog : Program} {w : World} {A : Around} {E : Value → Shared → Prop} {s : Shared}
end

section
variable {c : Cx} {ρ : Env1} {Q : PF → Env1 → Prop}
/-! ### a call with one owned list among its arguments -/
inductive EvLx (c : Cx) (ρ : Env1) (x : Str) : List Expr → List PV → Prop
  | nil : EvLx c ρ x [] []
  | cons {e es d ds} (h : Ev c ρ true e d) (hs : noStar e = true) (r : EvLx c ρ x es ds) : EvLx c ρ x (e :: es) (d :: ds)
  | own {pos es d ds} (h : ρ.lookup x = some d) (ho : c.own.contains x = true) (hp : plainName x = true) (r : EvLx c ρ x es ds) : EvLx c ρ x (.Name x pos :: es) (d :: ds)
noncomputable def Cx.Qx (c : Cx) (T : Own1) (x : Str) : Addr → Prop := fun a => c.Q T a ∨ T.lookup x = some a
theorem spliced_evx (ok : c.Ok) {x : Str} {pos : Pos} {es : List Expr} {ds : List PV} (h : EvLx c ρ x es ds) {A : Around} {T : Own1} {s : Shared} (ha : AOk c.rk A) (st : St c ρ T s) {E : Value → Shared → Prop}
    {Q : List Value → Shared → Prop} (k : ∀ vs s', Ext c.G s s' → St c ρ T s' → RepAll s'.heap (c.Qx T x) ds vs → Q vs s') : wpAny c.M A (spliced (backTo pos (starEach es c.env))) Q E s := by
  induction h generalizing s Q with
  | nil => exact Calls.spliced_nil (k [] s Evo.refl st RepAll.nil)
  | cons h hs r ih =>
    rw [starEach_cons hs]
    refine Calls.spliced_cons (h.use ha st fun v s₁ e₁ st₁ r₁ => ih st₁ fun vs s₂ e₂ st₂ r₂ => k _ _ (e₁.trans e₂) st₂ (.cons ((r₁.ext st₁.wd e₂).weak fun _ q => .inl (Cx.Q_iff.mpr q)) r₂))
  | own h ho hp r ih =>
    rw [starEach_cons rfl]
    refine Calls.spliced_cons ?_
    obtain ⟨v, h1, h2, _⟩ := st.vars x _ h
    obtain ⟨a, ds', vs, n, rfl, rfl, e3, e4, e5, e6⟩ := h2 (List.contains_iff_mem.mp ho)
    refine wpAny_Name (loadVar ok h1 ?_ (plainName_spec hp).1) (plainName_spec hp).2
    have rx : Rep s.heap (c.Qx T x) (.list ds') (.ref a) := by
      simp only [Rep]
      exact ⟨a, vs, n, rfl, .inr e3, e4, e5.weak fun _ q => .inl q, e6⟩
    exact ih st fun us s₂ e₂ st₂ r₂ => k _ _ e₂ st₂ (.cons (rx.ext st.wd e₂) r₂)
theorem evalArgs_evx (ok : c.Ok) {x : Str} {f : Value} {pos : Pos} {es : List Expr} {ds : List PV} (h : EvLx c ρ x es ds) {A : Around} {T : Own1} {s : Shared} (ha : AOk c.rk A) (st : St c ρ T s) {E : Value → Shared → Prop}
    {Q : Args → Shared → Prop} (k : ∀ vs s', Ext c.G s s' → St c ρ T s' → RepAll s'.heap (c.Qx T x) ds vs → Q ⟨vs, []⟩ s') : wpAny c.M A (evalArgs f true (backTo pos (starEach es c.env)) []) Q E s := by
  have := spliced_evx (pos := pos) ok h ha st (E := E) k
  cases h with
  | nil => exact PySem.evalArgs_none (k [] s Evo.refl st RepAll.nil)
  | cons h hs r =>
    rw [starEach_cons hs] at this ⊢
    exact Calls.evalArgs_plain this
  | own h ho hp r =>
    rw [starEach_cons rfl] at this ⊢
    exact Calls.evalArgs_plain this
variable {mg mb : Str → Option Value}
/-! ### x, y = [], 0 where x is owned -/
end

/-! ### items.count(x) -/
end Mine
end

section
open PySem PySem.W PyProof.Rows
open PySem.SeqAt
namespace Mine
section
variable {c : Cx} {ρ : Env1} {Q : PF → Env1 → Prop}
end
end Mine
end

section
open PySem PySem.W PyProof.Rows
open PySem.SeqAt
namespace Mine
/-! ### numbers as texts -/
noncomputable def dec (n : Nat) : List Nat := (Nat.toDigits 10 n).map Char.toNat
set_option maxHeartbeats 4000000 in
theorem meets_d0 (t u : Tok) (i : Int) (h0 : 0 ≤ i) (h1 : i < 10 ^ 10) (h2 : i.natAbs.log2 < 1920) (h3 : ((i.natAbs : Nat) : Int).natAbs.log2 < 1920) :
    Meets (Builtin.«str.__mod__» ⟨[.str ⟨#[37, 100, 46, 48]⟩ t, .int i u], []⟩) (fun _ R s => ∀ t' k, R (.ok (.ret (.str (Str.ofString (toString i) ++ Str.ofString ".0") t'))) { s with toks := k }) := by
  kpc_run
set_option maxHeartbeats 4000000 in
theorem meets_dend (t u : Tok) (i : Int) (h0 : 0 ≤ i) (h1 : i < 10 ^ 10) (h2 : i.natAbs.log2 < 1920) (h3 : ((i.natAbs : Nat) : Int).natAbs.log2 < 1920) :
    Meets (Builtin.«str.__mod__» ⟨[.str ⟨#[37, 100, 46, 101, 110, 100]⟩ t, .int i u], []⟩) (fun _ R s => ∀ t' k, R (.ok (.ret (.str (Str.ofString (toString i) ++ Str.ofString ".end") t'))) { s with toks := k }) := by
  kpc_run
end Mine
end

section
open PySem PySem.W PyProof.Rows
open PySem.SeqAt
set_option maxRecDepth 100000
namespace Mine
theorem owner_map : Manifest.owners.lookup (String.ofList ['p', 'a', 'm'].reverse) = some Manifest.sig_map := by kernel_rfl
theorem slot_map_init : Slot "map" "__init__" "object.__init__" :=
  .of (owner := "object") (n := "__init__") (by rw [typeLookup_type, builtinLookup_eq_fast]; kernel_rfl) (by decide +kernel) (by decide +kernel) (by decide +kernel)
    (by first | exact .inl (by decide +kernel) | exact .inr (by decide +kernel)) (by rw [isSubtype_type]; kernel_rfl)
theorem slot_map_iter : Slot "map" "__iter__" "map.__iter__" :=
  .of (owner := "map") (n := "__iter__") (by rw [typeLookup_type, builtinLookup_eq_fast]; kernel_rfl) (by decide +kernel) (by decide +kernel) (by decide +kernel)
    (by first | exact .inl (by decide +kernel) | exact .inr (by decide +kernel)) (by rw [isSubtype_type]; kernel_rfl)
theorem slot_map_next : Slot "map" "__next__" "map.__next__" :=
  .of (owner := "map") (n := "__next__") (by rw [typeLookup_type, builtinLookup_eq_fast]; kernel_rfl) (by decide +kernel) (by decide +kernel) (by decide +kernel)
    (by first | exact .inl (by decide +kernel) | exact .inr (by decide +kernel)) (by rw [isSubtype_type]; kernel_rfl)
theorem args_map_iter (a : Value) : argsOk "map.__iter__" ⟨[a], []⟩ := by
  unfold argsOk; rw [signature?_of (id := "map.__iter__") (n := ['_', '_', 'r', 'e', 't', 'i', '_', '_']) (o := ['p', 'a', 'm']) (by kernel_rfl) owner_map]; kernel_rfl
theorem args_map_next (a : Value) : argsOk "map.__next__" ⟨[a], []⟩ := by
  unfold argsOk; rw [signature?_of (id := "map.__next__") (n := ['_', '_', 't', 'x', 'e', 'n', '_', '_']) (o := ['p', 'a', 'm']) (by kernel_rfl) owner_map]; kernel_rfl
theorem entry_map_next : entryFor table "map.__next__" = some Builtin.«map.__next__» := entryFor_of_tree (by kernel_rfl)
theorem entry_map_new : entryFor table "map.__new__" = some Builtin.«map.__new__» := entryFor_of_tree (by kernel_rfl)
theorem entry_map_iter : entryFor table "map.__iter__" = some Builtin.«dict_keyiterator.__iter__» :=
  entryFor_alias (id' := "dict_keyiterator.__iter__") (by kernel_rfl) (by first | rfl | decide +kernel | (unfold String.splitOn; simp +decide [String.splitOnAux])) (by decide +kernel) (by kernel_rfl)
theorem mro_map : mroOf (.type "map") = pure [.type "map", .type "object"] := by rw [mroOf_type]; kernel_rfl
theorem lookup_map_new : typeLookup (.type "map") "__new__" = pure (some (.builtin "map.__new__")) := by rw [typeLookup_type, builtinLookup_eq_fast]; kernel_rfl
theorem called_map : TypeCalled "map" "map.__new__" "object.__init__" :=
  ⟨by decide +kernel, by decide +kernel, ⟨_, _, mro_map⟩, madeBy_type mro_map lookup_map_new (by decide +kernel), by decide +kernel, by rw [isSubtype_type]; kernel_rfl, slot_map_init⟩
theorem typeCall_map (a b : Value) : checkTypeCall "map" ⟨[a, b], []⟩ = pure () := by kernel_rfl
theorem newCall_map (a b : Value) : checkBuiltinCall "map.__new__" ⟨[.type "map", a, b], []⟩ = pure () := by kernel_rfl
theorem sub_map : isSubtype (.type "map") (.type "map") = pure true := by rw [isSubtype_type]; kernel_rfl
noncomputable abbrev mapH1 (h : Heap) (l : Addr) : Heap := h.push { cls := .type "list_iterator", data := .fields #[.ref l, .int 0 0] }
noncomputable abbrev mapH2 (h : Heap) (l : Addr) : Heap := (mapH1 h l).push { cls := .type "tuple", data := .seq #[.ref h.objs.size] }
noncomputable abbrev mapH3 (h : Heap) (l : Addr) : Heap := (mapH2 h l).push { cls := .type "map", data := .fields #[.ref (mapH1 h l).objs.size, .type "int"] }
theorem meets_map_new (l : Addr) (xs : Array Value) :
    Meets (Builtin.«map.__new__» ⟨[.type "map", .type "int", .ref l], []⟩) (fun _ R s => s.heap.IsList l xs ∧ R (.ok (.ret (.ref (mapH2 s.heap l).objs.size))) { s with heap := mapH3 s.heap l }) :=
  .of_wp fun prog w A R s h => by
    obtain ⟨hp, g, d, tk, os⟩ := s; obtain ⟨hl, h⟩ := h
    have hsub := sub_map
    have hL1 : Heap.IsList (Shared.heap ⟨hp, g, d, tk, os⟩) l xs := hl
    wp_walk using wpAny_pyIter_list hL1
    exact ⟨_, rfl, h⟩
noncomputable abbrev IsMapI (h : Heap) (m t : Addr) : Prop := h.get? m = some { cls := .type "map", dict := none, data := .fields #[.ref t, .type "int"], slots := #[] }
noncomputable abbrev IsOne (h : Heap) (t : Addr) (a : Value) : Prop := h.get? t = some { cls := .type "tuple", data := .seq #[a] }
section
variable {prog : Program} {w : World} {A : Around} {E : Value → Shared → Prop} {s : Shared}
theorem call_map {l : Addr} {xs : Array Value} {Q : Value → Shared → Prop} (hl : s.heap.IsList l xs)
    (h : ∀ h', IsMapI h' (s.heap.objs.size + 2) (s.heap.objs.size + 1) → IsOne h' (s.heap.objs.size + 1) (.ref s.heap.objs.size) → h'.IsListIter s.heap.objs.size l 0 → 
      (∀ c o, s.heap.get? c = some o → h'.get? c = some o) → Q (.ref (s.heap.objs.size + 2)) { s with heap := h' }) :
    wpAny (model prog w) A (call (.type "map") [.type "int", .ref l]) Q E s := by
  refine callType_new called_map (by decide) (typeCall_map _ _) (newCall_map _ _) (fun obj => F.args_object_init_3 obj _ _) entry_map_new (meets_map_new l xs) ⟨hl, ?_⟩
  have z1 : (mapH1 s.heap l).objs.size = s.heap.objs.size + 1 := Heap.size_push ..
  have z2 : (mapH2 s.heap l).objs.size = s.heap.objs.size + 2 := by rw [Heap.size_push, z1]
  have g3 : (mapH3 s.heap l).get? (mapH2 s.heap l).objs.size = some _ := Heap.get?_push_size _ rfl
  have g2 : (mapH3 s.heap l).get? (mapH1 s.heap l).objs.size = some _ := Heap.get?_push_of_some _ (Heap.get?_push_size _ rfl)
  have g1 : (mapH3 s.heap l).get? s.heap.objs.size = some _ := Heap.get?_push_of_some _ (Heap.get?_push_of_some _ (Heap.get?_push_size _ rfl))
  show _ ∧ _
  rw [z1, z2] at g3
  rw [z1] at g2
  rw [z2]
  refine ⟨⟨_, g3, rfl⟩, h _ g3 g2 ⟨_, g1, rfl, rfl⟩ fun c o e => Heap.get?_push_of_some _ (Heap.get?_push_of_some _ (Heap.get?_push_of_some _ e))⟩
theorem map_next_item {m t it l : Addr} {i : Nat} {xs : Array Value} {x : Str} {u : Tok} {n : Int} {Q : Option Value → Shared → Prop} (hm : IsMapI s.heap m t) (ht : IsOne s.heap t (.ref it)) (hit : s.heap.IsListIter it l i) (hl : s.heap.IsList l xs)
    (hx : xs[i]? = some (.str x u)) (hn : PySem.intText? x = some n) (hx6 : x.length ≤ 640) (hmi : m ≠ it)
    (hQ : ∀ h' tk, h'.IsListIter it l (i + 1) → Heap.SameBut it s.heap h' → Q (some (.int n tk)) { s with heap := h', toks := tk + 1 }) : wpAny (model prog w) A (pyNext (.ref m)) Q E s := by
  have hT : s.TypeIs (.ref m) "map" := ⟨_, hm, rfl⟩
  unfold pyNext
  refine wpAny_bind (wpAny_attempt (wpAny_callSpecial?_slot (name := Str.ofString "__next__") hT slot_map_next
    (wpAny_call_entry slot_map_next hT entry_map_next ?_ (args_map_next _))))
  show wpAny _ _ (field (.ref m) 0 >>= _) _ _ _
  refine wpAny_bind (wpAny_field hm rfl (x := .ref t) rfl ?_)
  refine wpAny_bind (wpAny_seqItems ht rfl ?_)
  dsimp only
  refine wpAny_bind ?_
  rw [← Array.forIn_toList]
  rw [show (#[Value.ref it] : Array Value).toList = [Value.ref it] from rfl, List.forIn_cons]
  refine wpAny_bind (wpAny_bind (wpAny_holding (wpAny_nextOf_list_item hit hl hx fun h₁ hit₁ hs₁ => wpAny_pure ?_)))
  dsimp only
  rw [List.forIn_nil]
  refine wpAny_pure ?_
  have hm₁ : IsMapI h₁ m t := (hs₁.2 m hmi).trans hm
  refine wpAny_bind (wpAny_field hm₁ rfl (x := .type "int") rfl ?_)
  refine wpAny_bind (wpAny_holding (KIN.call_text hn hx6 ?_))
  refine wpAny_bind (wpAny_letGo ?_)
  exact wpAny_pure ⟨_, rfl, wpAny_pure (hQ h₁ s.toks hit₁ hs₁)⟩
theorem map_next_end {m t it l : Addr} {i : Nat} {xs : Array Value} {Q : Option Value → Shared → Prop} (hh : A.handled = none) (hm : IsMapI s.heap m t) (ht : IsOne s.heap t (.ref it)) (hit : s.heap.IsListIter it l i) (hl : s.heap.IsList l xs)
    (hx : xs[i]? = none) (hQ : ∀ h', Heap.ExtBut it s.heap h' → Q none { s with heap := h' }) : wpAny (model prog w) A (pyNext (.ref m)) Q E s := by
  have hT : s.TypeIs (.ref m) "map" := ⟨_, hm, rfl⟩
  unfold pyNext
  refine wpAny_bind (wpAny_attempt (wpAny_callSpecial?_slot (name := Str.ofString "__next__") hT slot_map_next
    (wpAny_call_entry slot_map_next hT entry_map_next ?_ (args_map_next _))))
  show wpAny _ _ (field (.ref m) 0 >>= _) _ _ _
  refine wpAny_bind (wpAny_field hm rfl (x := .ref t) rfl ?_)
  refine wpAny_bind (wpAny_seqItems ht rfl ?_)
  dsimp only
  refine wpAny_bind ?_
  rw [← Array.forIn_toList]
  rw [show (#[Value.ref it] : Array Value).toList = [Value.ref it] from rfl, List.forIn_cons]
  refine wpAny_bind (wpAny_bind (wpAny_holding (wpAny_nextOf_list_end hh hit hl hx fun h' x he' hx' => ?_)))
  obtain ⟨o, ho, hc⟩ := hx'
  refine wpAny_bind (wpAny_isInstance (T := "StopIteration") (b := true) ⟨o, ho, hc⟩ isSubtype_stop ?_)
  exact wpAny_pure (hQ _ he')
theorem pyIter_map {m t : Addr} {Q : Value → Shared → Prop} (hm : IsMapI s.heap m t) (h : Q (.ref m) s) : wpAny (model prog w) A (pyIter (.ref m)) Q E s := by
  have hT : s.TypeIs (.ref m) "map" := ⟨_, hm, rfl⟩
  refine wpAny_pyIter_slot hT slot_map_iter (wpAny_call_entry slot_map_iter hT entry_map_iter ?_ (args_map_iter _))
  show wpAny _ _ (ret (.ref m)) _ _ s
  exact wpAny_pure ⟨_, rfl, "map", _, hT, slot_map_next.lookup, h⟩
/-- two numbers out of a map of int -/
theorem unpack_map2 {m t it l : Addr} {x y : Str} {u v : Tok} {a b : Int} {Q : List Value → Shared → Prop} (hh : A.handled = none) (hm : IsMapI s.heap m t) (ht : IsOne s.heap t (.ref it)) (hit : s.heap.IsListIter it l 0) (hl : s.heap.IsList l #[.str x u, .str y v])
    (hmi : m ≠ it) (hti : t ≠ it) (hli : l ≠ it) (hx : PySem.intText? x = some a) (hy : PySem.intText? y = some b) (hx6 : x.length ≤ 640) (hy6 : y.length ≤ 640)
    (hQ : ∀ h' tk tk₁ tk₂, Heap.ExtBut it s.heap h' → Q [.int a tk₁, .int b tk₂] { s with heap := h', toks := tk }) : wpAny (model prog w) A (unpackItems (.ref m) 2 none) Q E s := by
  have hT : s.TypeIs (.ref m) "map" := ⟨_, hm, rfl⟩
  unfold unpackItems
  refine wpAny_bind ?_
  unfold notIterableAtAll
  refine wpAny_bind (wpAny_specialOf hT slot_map_iter.lookup ?_)
  refine wpAny_pure ?_
  simp only [Bool.false_eq_true, if_false]
  refine wpAny_bind (wpAny_holding (pyIter_map hm ?_))
  refine wpAny_bind (wpAny_holding ?_)
  show wpAny _ _ (pyNext (.ref m) >>= _) _ _ s
  refine wpAny_bind (map_next_item hm ht hit hl (x := x) (u := u) rfl hx hx6 hmi fun h₁ tk₁ hit₁ hs₁ => ?_)
  have hl₁ := isList_but hl hs₁ hli
  refine wpAny_bind (wpAny_holding ?_)
  show wpAny _ _ (pyNext (.ref m) >>= _) _ _ _
  refine wpAny_bind (map_next_item (s := { s with heap := h₁, toks := tk₁ + 1 }) ((hs₁.2 m hmi).trans hm) ((hs₁.2 t hti).trans ht) hit₁ hl₁ (x := y) (u := v) rfl hy hy6 hmi fun h₂ tk₂ hit₂ hs₂ => ?_)
  refine wpAny_bind (wpAny_holding (wpAny_pure (wpAny_pure (wpAny_pure ?_))))
  have hs₁₂ := hs₁.trans hs₂
  rw [if_neg (by simp)]
  refine wpAny_bind (wpAny_holding (map_next_end (s := { s with heap := h₂, toks := tk₂ + 1 }) hh ((hs₁₂.2 m hmi).trans hm) ((hs₁₂.2 t hti).trans ht) hit₂ (isList_but hl hs₁₂ hli) rfl fun h₃ he₃ => ?_))
  simp only [Option.isSome_none, Bool.false_eq_true, if_false]
  exact wpAny_pure (hQ h₃ _ _ _ fun b o hb e => he₃ b o hb (hs₁₂.extBut b o hb e))
end
end Mine
end

section
open PySem PySem.W PyProof.Rows
open PySem.SeqAt
namespace Mine
theorem dec_str (n : Nat) : Str.ofString (toString ((n : Nat) : Int)) = mkS (dec n) := Str_ext (KIN.signs_num n)
theorem dec_digit {n : Nat} {c : Nat} (h : c ∈ dec n) : 48 ≤ c ∧ c ≤ 57 := by
  obtain ⟨ch, hch, e⟩ := List.mem_map.mp h
  have r := digit_range (Nat.isDigit_of_mem_toDigits (by decide) (by decide) hch)
  rw [← e]; exact r
theorem dec_len {n : Nat} (h : n < 10 ^ 10) : (dec n).length ≤ 640 := by
  have := KT.len_num (n := (n : Int)) (by omega) (by omega)
  rw [dec_str, mkS_len] at this
  omega
theorem dec_reads {n : Nat} (h : n < 10 ^ 10) : PySem.intText? (mkS (dec n)) = some (n : Int) := by
  rw [← dec_str]; exact KIN.num_reads (by omega) (by omega)
theorem dec_no46 (n : Nat) : 46 ∉ dec n := fun h => by have := dec_digit h; omega
theorem spl_mark (a : Nat) {t : List Nat} (ht : 46 ∉ t) : spl 46 (dec a ++ 46 :: t) = [dec a, t] := by rw [spl_app (dec_no46 a), spl_free ht]
noncomputable def m0 (n : Nat) : List Nat := dec n ++ [46, 48]
noncomputable def mEnd (n : Nat) : List Nat := dec n ++ [46, 101, 110, 100]
theorem m0_len {n : Nat} (h : n < 10 ^ 10) : (m0 n).length ≤ 650 := by unfold m0; rw [List.length_append]; have := dec_len h; simp; omega
theorem spl_m0 (a : Nat) : spl 46 (m0 a) = [dec a, [48]] := spl_mark a (t := [48]) (by decide)
theorem spl_mEnd (a : Nat) : spl 46 (mEnd a) = [dec a, [101, 110, 100]] := spl_mark a (t := [101, 110, 100]) (by decide)
section
variable {c : Cx} {ρ : Env1} {b : Bool} {mg mb : Str → Option Value}
theorem Ev_fmt0 {r : Expr} {F : Str} {k p pos} {n : Nat} (hF : F = ⟨#[37, 100, 46, 48]⟩) (hr : Ev c ρ false r (.int (n : Nat))) (hn : n < 10 ^ 10) : Ev c ρ b (.BinOp (.Constant (.str F) k p) .Mod r pos) (.str (mkS (m0 n))) := .mk fun A T s ha st =>
  wpAny_BinOp ((Ev_str (c := c) (ρ := ρ) (b := false) (x := F) (k := k) (pos := p) (by rw [hF]; decide)).use ha st fun v₁ s₁ e₁ st₁ r₁ => hr.use ha st₁ fun v₂ s₂ e₂ st₂ r₂ => by
    simp only [Rep] at r₁ r₂
    obtain ⟨⟨t, rfl⟩, _⟩ := r₁
    obtain ⟨u, rfl⟩ := r₂
    refine KPc.mod_int (T := fun i => Str.ofString (toString i) ++ Str.ofString ".0") hF (by omega) (by omega) (fun i a b c d => meets_d0 t u i a b c d) fun t' k => ⟨(e₁.trans e₂).trans Ext.tok, ?_⟩
    have e : Str.ofString (toString ((n : Nat) : Int)) ++ Str.ofString ".0" = mkS (m0 n) := by rw [dec_str]; exact Str_ext (by rw [Sl_append]; rfl)
    simp only [Rep]
    exact ⟨⟨t', by rw [e]⟩, by rw [mkS_len, sizeLine_is]; have := m0_len hn; omega⟩)
theorem Ev_fmtEnd {r : Expr} {F : Str} {k p pos} {n : Nat} (hF : F = ⟨#[37, 100, 46, 101, 110, 100]⟩) (hr : Ev c ρ false r (.int (n : Nat))) (hn : n < 10 ^ 10) : Ev c ρ b (.BinOp (.Constant (.str F) k p) .Mod r pos) (.str (mkS (mEnd n))) := .mk fun A T s ha st =>
  wpAny_BinOp ((Ev_str (c := c) (ρ := ρ) (b := false) (x := F) (k := k) (pos := p) (by rw [hF]; decide)).use ha st fun v₁ s₁ e₁ st₁ r₁ => hr.use ha st₁ fun v₂ s₂ e₂ st₂ r₂ => by
    simp only [Rep] at r₁ r₂
    obtain ⟨⟨t, rfl⟩, _⟩ := r₁
    obtain ⟨u, rfl⟩ := r₂
    refine KPc.mod_int (T := fun i => Str.ofString (toString i) ++ Str.ofString ".end") hF (by omega) (by omega) (fun i a b c d => meets_dend t u i a b c d) fun t' k => ⟨(e₁.trans e₂).trans Ext.tok, ?_⟩
    have e : Str.ofString (toString ((n : Nat) : Int)) ++ Str.ofString ".end" = mkS (mEnd n) := by rw [dec_str]; exact Str_ext (by rw [Sl_append]; rfl)
    simp only [Rep]
    exact ⟨⟨t', by rw [e]⟩, by rw [mkS_len, sizeLine_is]; unfold mEnd; rw [List.length_append]; have := dec_len hn; simp; omega⟩)
theorem BiOk_int {G : Wo} {n : Nat} (hn : n < 10 ^ 10) : BiOk G (.type "int") [.str (mkS (dec n))] (.int (n : Nat)) := .mk fun A s P vs hh _ _ wd r₀ => by
  simp only [RepAll, Rep] at r₀
  obtain ⟨_, _, rfl, ⟨⟨t, rfl⟩, _⟩, rfl⟩ := r₀
  refine KIN.call_text (dec_reads hn) (by rw [mkS_len]; exact dec_len hn) ⟨Ext.tok, ?_⟩
  simp only [Rep]
  exact ⟨_, rfl⟩
theorem boot_int : bootBuiltins "int" = some (.type "int") := by decide +kernel
theorem boot_mapT : bootBuiltins "map" = some (.type "map") := by decide +kernel
/-- a, b = map(int, texts) -/
theorem Ex1_mapInt {Q : PF → Env1 → Prop} (ok : c.Ok) (g : Gl c.G mg mb) {ts : List Expr} {k tpos pos cp mp ip} {e : Expr} {x y : Nat} {ρ' : Env1} (hkm : c.env.kindOf "map" = some .globalImplicit) (hki : c.env.kindOf "int" = some .globalImplicit) (hvm : mg "map" = none) (hvi : mg "int" = none)
    (he : Ev c ρ true e (.list [.str (mkS (dec x)), .str (mkS (dec y))])) (hne : noStar e = true) (hx : x < 10 ^ 10) (hy : y < 10 ^ 10) (ha' : AsgL c ts [.int (x : Nat), .int (y : Nat)] ρ ρ') (hq : Q .next ρ')
    (hs : swapsWithSole [.Tuple ts k tpos] (.Call (.Name "map" mp) [.Name "int" ip, e] [] cp) pos.line c.env = pure false) (hw : swappedStores [.Tuple ts k tpos] (.Call (.Name "map" mp) [.Name "int" ip, e] [] cp) c.env = pure none) :
    Ex1 c ρ (.Assign [.Tuple ts k tpos] (.Call (.Name "map" mp) [.Name "int" ip, e] [] cp) pos) Q := .mk fun A T s ha st => by
  refine Assign_Tuple ?_ hs hw
  rw [eval_Call_Name]
  refine wpAny_bind (load_builtin ok g hkm hvm boot_mapT rfl (by decide) st.wd ?_)
  have hL : EvL c ρ true [.Name "int" ip, e] [.raw [] (.type "int"), .list [.str (mkS (dec x)), .str (mkS (dec y))]] := .cons (Ev_builtin ok g hki hvi boot_int rfl (by decide)) rfl (.cons he hne .nil)
  refine PySem.callWith_type (noStars hL) (evalArgs_ev hL ha st fun vs s₁ e₁ st₁ r => ?_)
  simp only [RepAll, Rep] at r
  obtain ⟨_, _, rfl, ⟨rfl, _⟩, _, _, rfl, ⟨a, us, n, rfl, _, l, q, _⟩, rfl⟩ := r
  obtain ⟨_, _, q0, ⟨⟨u, rfl⟩, _⟩, _, _, rfl, ⟨⟨v, rfl⟩, _⟩, rfl⟩ := q
  have hv : us = #[.str (mkS (dec x)) u, .str (mkS (dec y)) v] := by rw [← Array.toArray_toList (xs := us), q0]
  subst hv
  refine call_map l.isList fun h₂ hm ht hit hk => ?_
  have hlt := Heap.lt_size l
  rw [arm_assign_Tuple]
  refine wpAny_bind (wpAny_standAt ?_)
  unfold unpack
  have hl := asgL_len ha'
  rw [show (assignEach ts c.env).length = 2 from hl.1, hl.2]
  refine wpAny_bind (wpAny_holding (unpack_map2 (s := { s₁ with heap := h₂ }) ha.handled hm ht hit (l := a) (x := mkS (dec x)) (y := mkS (dec y)) (u := u) (v := v) ⟨_, hk _ _ l, rfl, n, rfl⟩ (Nat.ne_of_gt (Nat.lt_add_of_pos_right (by decide))) (Nat.ne_of_gt (Nat.lt_add_of_pos_right (by decide))) (Nat.ne_of_lt hlt) (dec_reads hx) (dec_reads hy) (by rw [mkS_len]; exact dec_len hx) (by rw [mkS_len]; exact dec_len hy) fun h₃ tk tk₁ tk₂ he₃ => ?_))
  have e13 : Ext c.G s₁ { s₁ with heap := h₃, toks := tk } := Ext.of fun b o hb => he₃ b o (Nat.ne_of_lt (Heap.lt_size hb)) (hk b o hb)
  refine wpAny_mono (asgL_use ha' ha (st₁.ext e13) (vs := [.int (x : Nat) tk₁, .int (y : Nat) tk₂]) (.cons (by simp only [Rep]; exact ⟨_, rfl⟩) (.cons (by simp only [Rep]; exact ⟨_, rfl⟩) .nil))) (fun _ s₄ ⟨st₄, e₄⟩ => ?_) fun _ _ h => h.elim
  exact ⟨_, T, .next, st₄, (Ext.evo (e₁.trans e13)).trans (e₄.weak fun _ => Cx.Xs_X), TGrow.refl, trivial, hq⟩
theorem wpAny_oper {α : Type} {M : Model} {A : Around} {l : List Value} {m : Sem Value} {Q : Value → Shared → Prop} {E : Value → Shared → Prop} {s : Shared} (h : wpAny M A m Q E s) : wpAny M A (operate l m) Q E s := fun Γ p hΓ => by
  simp only [Sem.wp_operate]
  exact h Γ p hΓ
/-- l < m <= r -/
theorem IsT_cmp2 {l m r : Expr} {op op' : CmpOp} {pos} {d₁ d₂ d₃ : PV} {t t' : Bool} (h₁ : Ev c ρ false l d₁) (h₂ : Ev c ρ false m d₂) (h₃ : t = true → Ev c ρ false r d₃) (h : CmpOk op d₁ d₂ t) (h' : CmpOk op' d₂ d₃ t') (hm' : behindInMarks op' r = false) :
    IsT1 c ρ (.Compare l [op, op'] [m, r] pos) (t && t') := .mk fun A T s ha st => by
  show wpAny _ _ (do testChain pos (← eval l c.env) [op, op'] [eval m c.env, markedBehindIn op' r (eval r c.env)]) _ _ _
  rw [markedBehindIn_of_false hm']
  refine wpAny_bind (h₁.use ha st fun v₁ s₁ e₁ st₁ r₁ => ?_)
  show wpAny _ _ (do
    let rv ← holding [v₁] (eval m c.env)
    standAt pos
    let c' ← holding [v₁, rv] (compareOp op v₁ rv)
    release [v₁, rv] [c']
    if ← holding [c', rv] (truthy c') then testChain pos rv [op'] [eval r c.env] else pure false) _ _ _
  refine wpAny_bind (wpAny_holding (h₂.use ha st₁ fun v₂ s₂ e₂ st₂ r₂ => ?_))
  refine wpAny_bind (wpAny_standAt (wpAny_bind (wpAny_holding (cmp_ok (c := c) h ha.line (r₁.ext st₁.wd e₂) r₂ ?_))))
  refine wpAny_bind (wpAny_release (wpAny_bind (wpAny_holding (wpAny_truthy_bool ?_))))
  cases t with
  | false => exact wpAny_pure ⟨e₁.trans e₂, rfl⟩
  | true =>
    rw [if_pos rfl]
    show wpAny _ _ (do
      let rv ← holding [v₂] (eval r c.env)
      standAt pos
      let c' ← operate [v₂, rv] (compareOp op' v₂ rv)
      holding [c'] (truthy c')) _ _ _
    refine wpAny_bind (wpAny_holding ((h₃ rfl).use ha st₂ fun v₃ s₃ e₃ st₃ r₃ => ?_))
    refine wpAny_bind (wpAny_standAt (wpAny_bind (wpAny_oper (α := Unit) (cmp_ok (c := c) h' ha.line (r₂.ext st₂.wd e₃) r₃ ?_))))
    refine wpAny_holding (wpAny_truthy_bool ⟨(e₁.trans e₂).trans e₃, by simp⟩)
theorem ints_are {h : Heap} {P : Addr → Prop} : ∀ {ns : List Int} {vs : List Value}, RepAll h P (ns.map .int) vs → IntsAre vs ns
  | [], vs, r => by simp only [List.map_nil, RepAll] at r; subst r; exact .nil
  | n :: ns, vs, r => by
    simp only [List.map_cons, RepAll, Rep] at r
    obtain ⟨v, q, rfl, ⟨t, rfl⟩, r2⟩ := r
    exact .cons n t (ints_are r2)
theorem BiOk_sum {G : Wo} {ns : List Int} : BiOk G (.builtin "sum") [.list (ns.map .int)] (.int ns.sum) := .mk fun A s P vs hh _ _ wd r₀ => by
  simp only [RepAll, Rep] at r₀
  obtain ⟨_, _, rfl, ⟨a, us, n, rfl, _, l, q, _⟩, rfl⟩ := r₀
  have hi := ints_are q
  obtain ⟨xs, e⟩ := hi.allInts.items
  have hns : ns = xs.toList.map (·.1) := by rw [← hi.numsOf, ← nums_intItems, ← e]
  have hl := l.isList
  rw [show us = us.toList.toArray by simp, e] at hl
  refine sum_intListG hh hl fun h' tk t' hk => ⟨Ext.of hk, ?_⟩
  simp only [Rep]
  exact ⟨t', by rw [preSum_eq, List.take_of_length_le (by simp), hns]⟩
theorem BiOk_maxL {G : Wo} {ns : List Int} {M : Int} (hM : M ∈ ns) (hle : ∀ a ∈ ns, a ≤ M) : BiOk G (.builtin "max") [.list (ns.map .int)] (.int M) := .mk fun A s P vs hh _ _ wd r₀ => by
  simp only [RepAll, Rep] at r₀
  obtain ⟨_, _, rfl, ⟨a, us, n, rfl, _, l, q, _⟩, rfl⟩ := r₀
  have hi := ints_are q
  obtain ⟨xs, e⟩ := hi.allInts.items
  have hns : ns = xs.toList.map (·.1) := by rw [← hi.numsOf, ← nums_intItems, ← e]
  have hl := l.isList
  rw [show us = us.toList.toArray by simp, e] at hl
  have hsz : 0 < xs.size := by
    have h3 := List.length_pos_of_mem hM; rw [hns, List.length_map, Array.length_toList] at h3; exact h3
  refine max_intList hh hl hsz fun v h' tk hv hk => ⟨Ext.of hk, ?_⟩
  obtain ⟨t, rfl⟩ := intItems_at hv
  obtain ⟨h1, h2⟩ := argBest_gt (numAt xs) (xs.size - 1)
  simp only [Rep]
  refine ⟨t, ?_⟩
  congr 1
  refine Int.le_antisymm (hle _ ?_) ?_
  · rw [hns, numAt_eq]; exact getD_mem (by rw [List.length_map, Array.length_toList]; omega)
  · rw [hns] at hM
    obtain ⟨j, hj, e'⟩ := mem_getD hM
    rw [List.length_map, Array.length_toList] at hj
    rw [← e', ← numAt_eq]; exact h2 j (by omega)
theorem BiOk_minL {G : Wo} {ns : List Int} {M : Int} (hM : M ∈ ns) (hle : ∀ a ∈ ns, M ≤ a) : BiOk G (.builtin "min") [.list (ns.map .int)] (.int M) := .mk fun A s P vs hh _ _ wd r₀ => by
  simp only [RepAll, Rep] at r₀
  obtain ⟨_, _, rfl, ⟨a, us, n, rfl, _, l, q, _⟩, rfl⟩ := r₀
  have hi := ints_are q
  obtain ⟨xs, e⟩ := hi.allInts.items
  have hns : ns = xs.toList.map (·.1) := by rw [← hi.numsOf, ← nums_intItems, ← e]
  have hl := l.isList
  rw [show us = us.toList.toArray by simp, e] at hl
  have hsz : 0 < xs.size := by
    have h3 := List.length_pos_of_mem hM; rw [hns, List.length_map, Array.length_toList] at h3; exact h3
  refine min_intList hh hl hsz fun v h' tk hv hk => ⟨Ext.of hk, ?_⟩
  obtain ⟨t, rfl⟩ := intItems_at hv
  obtain ⟨h1, h2⟩ := argBest_lt (numAt xs) (xs.size - 1)
  simp only [Rep]
  refine ⟨t, ?_⟩
  congr 1
  refine Int.le_antisymm ?_ (hle _ ?_)
  · rw [hns] at hM
    obtain ⟨j, hj, e'⟩ := mem_getD hM
    rw [List.length_map, Array.length_toList] at hj
    rw [← e', ← numAt_eq]; exact h2 j (by omega)
  · rw [hns, numAt_eq]; exact getD_mem (by rw [List.length_map, Array.length_toList]; omega)
end
end Mine
end

section
open PySem PySem.W PyProof.Rows
open PySem.SeqAt
namespace Mine

/-! ### a lambda with cells of its maker, called -/
structure Lam where
  qual : Str
  params : Arguments
  names : List Str
  body : Expr
  scope : Scope

structure Lam.Ok (l : Lam) : Prop where
  kind : l.scope.kind = .function
  co : l.scope.isCoroutine = false
  gen : l.scope.isGenerator = false
  cell : l.scope.names.all (fun x => x.2 != .cell) = true
  locs : l.names.all (fun x => l.scope.names.lookup x == some .local) = true
  rows : l.scope.names.lookup ("rows" : Str) = some NameKind.free
  norows : l.names.contains ("rows" : Str) = false
  bind : ∀ (cl : List (Str × Addr)) (pm cdv ct : Value) (vs : List Value), vs.length = l.names.length → bindArgs (kla_fn "<lambda>" l.qual l.params l.body l.scope cl pm cdv ct) ⟨vs, []⟩ = pure (l.names.zip vs)

noncomputable def lamCx (G : Wo) (P : Addr → Prop) (h₀ : Heap) (l : Lam) (f : Addr) (cd : Value) (cl : Addr) (rk : Nat) : Cx where
  G := G
  env := envX l.qual l.scope h₀.objs.size f cd [("rows", cl)]
  h₀ := h₀
  P := P
  mc := []
  own := []
  rk := rk
  comp := false
  av := []

theorem zip_lookup_rep {h : Heap} {P : Addr → Prop} : ∀ {xs : List Str} {ds : List PV} {vs : List Value}, RepAll h P ds vs → ds.length = xs.length → ∀ {x : Str} {d : PV}, ((xs.zip ds).reverse).lookup x = some d → ∃ v, ((xs.zip vs).reverse).lookup x = some v ∧ Rep h P d v := by
  have look : ∀ {α : Type} (l : List (Str × α)) (x : Str) (p : Str × α), (l ++ [p]).lookup x = match l.lookup x with | some a => some a | none => if x == p.1 then some p.2 else none := by
    intro α l x p
    induction l with
    | nil =>
      rw [List.nil_append, List.lookup_cons]
      cases x == p.1 <;> rfl
    | cons q r ih =>
      rw [List.cons_append, List.lookup_cons, List.lookup_cons]
      cases x == q.1 with
      | true => rfl
      | false => exact ih
  intro xs
  induction xs with
  | nil => intro ds vs r hl x d hd; simp at hd
  | cons y xs ih =>
    intro ds vs r hl x d hd
    cases ds with
    | nil => simp at hl
    | cons e ds =>
      simp only [RepAll] at r
      obtain ⟨v, q, rfl, r1, r2⟩ := r
      rw [List.zip_cons_cons, List.reverse_cons, look] at hd
      rw [List.zip_cons_cons, List.reverse_cons, look]
      have lenn : ∀ {α β : Type} (xs : List Str) (as : List α) (bs : List β), as.length = xs.length → bs.length = xs.length → ((xs.zip as).reverse.lookup x = none ↔ (xs.zip bs).reverse.lookup x = none) := by
        intro α β xs
        induction xs with
        | nil => intro as bs _ _; simp
        | cons z zs ihz =>
          intro as bs ha hb
          cases as with
          | nil => simp at ha
          | cons a as =>
            cases bs with
            | nil => simp at hb
            | cons b bs =>
              rw [List.zip_cons_cons, List.reverse_cons, look, List.zip_cons_cons, List.reverse_cons, look]
              have := ihz as bs (by simpa using ha) (by simpa using hb)
              cases h1 : (zs.zip as).reverse.lookup x with
              | some _ =>
                cases h2 : (zs.zip bs).reverse.lookup x with
                | some _ => simp
                | none => rw [this.mpr h2] at h1; cases h1
              | none =>
                rw [this.mp h1]
                dsimp only
                cases x == z <;> simp
      cases h1 : (xs.zip ds).reverse.lookup x with
      | some d' =>
        rw [h1] at hd; cases hd
        obtain ⟨v', e1, e2⟩ := ih r2 (by simpa using hl) h1
        rw [e1]; exact ⟨v', rfl, e2⟩
      | none =>
        rw [h1] at hd
        rw [(lenn xs ds q (by simpa using hl) (by rw [r2.length]; simpa using hl)).mp h1]
        dsimp only at hd ⊢
        cases hx : x == y with
        | true => rw [hx] at hd; cases hd; exact ⟨v, rfl, r1⟩
        | false => rw [hx] at hd; cases hd
theorem zip_key {α : Type} : ∀ {xs : List Str} {ds : List α} {x : Str} {d : α}, ((xs.zip ds).reverse).lookup x = some d → x ∈ xs := fun {xs ds x d} h => by
  have := mem_of_lookup h
  rw [List.mem_reverse] at this
  exact (List.of_mem_zip this).1

section
variable {G : Wo} {mg mb : Str → Option Value}
theorem lam_call (g : Gl G mg mb) {l : Lam} (lo : l.Ok) {f c₁ cl : Addr} {pm ct va : Value} {da : PV} {k : Nat} {A : Around} {s : Shared} {P : Addr → Prop} {vs : List Value} {ds : List PV} {d : PV} (ha : AOk (k + 1) A) (w : Wd G s) (hP : ∀ a, s.heap.get? a = none → P a)
    (ho : s.heap.get? f = some (kla_obj "<lambda>" l.qual l.params l.body l.scope [("rows", cl)] pm c₁ ct)) (hcd : s.heap.CodeRec (.ref c₁) l.qual) (hcl : s.heap.IsCell cl (some va)) (ra : Rep s.heap P da va) (r : RepAll s.heap P ds vs) (hlen : ds.length = l.names.length)
    (hb : ∀ h₀, (lamCx G P h₀ l f (.ref c₁) cl k).Ok → Ev (lamCx G P h₀ l f (.ref c₁) cl k) (("rows", da) :: (l.names.zip ds).reverse) true l.body d) :
    codeAny G.M A (.call (.ref f) ⟨vs, []⟩) (fun r s' => ∃ v, r = .ok (.ret v) ∧ Ext G s s' ∧ Rep s'.heap P d v) s := by
  have hcell : ∀ x ∈ l.scope.names, x.2 ≠ .cell := fun x hx => by simpa using List.all_eq_true.mp lo.cell x hx
  refine kla_callFunE (by have := ha.depth; show A.depth < 1000; omega) ho rfl lo.co lo.gen rfl hcd ?_
  rw [lo.bind _ _ _ _ vs (by rw [r.length, hlen])]
  refine wpAny_pure (wpAny_newFunctionEnv hcell (fun x hx => ?_) (fun h₁ hns hsb => ⟨(g.noLimit w).fresh _ hsb, ?_⟩) lo.kind)
  · have := List.all_eq_true.mp lo.locs x.1 (List.of_mem_zip hx).1
    simpa using this
  have ok : (lamCx G P s.heap l f (.ref c₁) cl k).Ok := by
    refine ⟨lo.kind, rfl, rfl, get_new, (fun a h => nomatch h), hP, fun a t => ?_, fun a o h => ?_, fun x hx _ => ?_, (fun q => nomatch q), (fun a h => nomatch h), fun _ => List.pairwise_singleton _ _⟩
    · obtain ⟨o, e, _⟩ := w.tb a t
      exact ⟨o, e⟩
    · by_cases t : G.Tb a
      · obtain ⟨o, e, _⟩ := w.tb a t
        exact ⟨o, e⟩
      · exact ⟨o, w.old a o h t⟩
    · exact absurd rfl (hcell _ (mem_of_lookup hx))
  have hk₁ : ∀ b o, s.heap.get? b = some o → h₁.get? b = some o := fun b o e => hsb.extBut b o (Nat.ne_of_lt (Heap.lt_size e)) (Heap.get?_push_of_some _ e)
  have e₁ : Ext G s { s with heap := h₁, toks := s.toks + (l.names.zip vs).length } := Ext.of hk₁
  have hQ : ∀ b o, s.heap.get? b = some o → P b → (lamCx G P s.heap l f (.ref c₁) cl k).Q [] b := fun b o e p => ⟨⟨p, Nat.ne_of_lt (Heap.lt_size e), (fun q => nomatch q), (fun q => nomatch q)⟩, (fun p hp => nomatch hp)⟩
  have st : St (lamCx G P s.heap l f (.ref c₁) cl k) (("rows", da) :: (l.names.zip ds).reverse) [] { s with heap := h₁, toks := s.toks + (l.names.zip vs).length } := by
    refine ⟨e₁.wd w, fun b o e _ => hk₁ b o e, ⟨_, hns⟩, (fun a h => nomatch h), fun x d' hd => ?_, (fun p hp => nomatch hp), .nil, (fun a h => nomatch h)⟩
    rw [List.lookup_cons] at hd
    by_cases q : (x == ("rows" : Str)) = true
    · rw [q] at hd; cases hd
      obtain ⟨oc, ho', hd'⟩ := hcl
      have hx := eq_of_beq q
      subst hx
      refine ⟨va, .inr ⟨.inr lo.rows, cl, rfl, oc, hk₁ _ _ ho', hd'⟩, (fun q => nomatch q), fun _ => Rep.mono (fun b o e _ p => ⟨hQ b o e p, hk₁ b o e⟩) _ _ ra⟩
    · simp only [q] at hd
      obtain ⟨v, e1, e2⟩ := zip_lookup_rep r hlen hd
      have := List.all_eq_true.mp lo.locs x (zip_key hd)
      refine ⟨v, .inl ⟨beq_iff_eq.mp this, _, hns, e1⟩, (fun q => nomatch q), fun _ => Rep.mono (fun b o e _ p => ⟨hQ b o e p, hk₁ b o e⟩) _ _ e2⟩
  have ha' : AOk k (A.deeper (envX l.qual l.scope s.heap.objs.size f (.ref c₁) [("rows", cl)])) := ⟨ha.handled, by have := ha.depth; show A.depth + 1 + k ≤ 690; omega, by have := ha.units; show A.units + 3 + 20 * k ≤ 9000; omega⟩
  show codeAny _ _ (.expr l.body (envX l.qual l.scope s.heap.objs.size f (.ref c₁) [("rows", cl)])) _ _
  refine kla_codeExpr (wpAny_mono ((hb s.heap ok).run _ [] _ ha' st) (fun v s' ⟨e, q⟩ => ⟨v, rfl, e₁.trans e, q.weak fun a h => h.1.1⟩) fun _ _ x => x.elim)
end

/-! ### an attribute of an object, called -/
section
variable {prog : Program} {w : World} {A : Around} {E : Value → Shared → Prop} {s : Shared} {env : Env}
theorem call_attr {o : Expr} {name : Str} {apos pos : Pos} {args : List Expr} {Q : Value → Shared → Prop}
    (hbase : attributeBase o name env (eval o env) = eval o env)
    (hfew : ((backTo pos (starEach args env)).all (fun x => !x.1) && (backToKw pos (keywordEach [] env)).all (fun x => x.1.isSome)
      && decide (args.length + ([] : List Keyword).length + (if ([] : List Keyword).isEmpty then 0 else 1) < 30)) = true)
    (hline : (apos.endLine == pos.line) = true)
    (h : wpAny (model prog w) A (eval o env) (fun ov s₁ => wpAny (model prog w) A (getMethod ov name (do return (← importBound o env).getD true)) (fun p s₂ => wpAny (model prog w) A (callWith pos p.1 p.2 (backTo pos (starEach args env)) []) Q E s₂) E s₁) E s) :
    wpAny (model prog w) A (eval (.Call (.Attribute o name apos) args [] pos) env) Q E s := by
  rw [arm_eval_Call, hbase]
  refine wpAny_bind (wpAny_mono h (fun ov s₁ h₁ => ?_) fun _ _ e => e)
  refine wpAny_bind (wpAny_standAt ?_)
  have hform : methodCallForm (args.length + ([] : List Keyword).length) (backTo pos (starEach args env)) (backToKw pos (keywordEach [] env)) = true := hfew
  have hpos : methodCallPos true o env apos pos = pure pos := by unfold methodCallPos; simp [hline]
  unfold methodCall
  rw [hform]
  refine wpAny_bind (wpAny_holding ?_)
  exact wpAny_mono h₁ (fun p s₂ h₂ => wpAny_bind (wpAny_of_eq hpos h₂)) fun _ _ e => e
end

/-! ### a page -/
structure Kls (K : Frag) (C fI : Addr) : Prop where
  ga : findIn K (.ref C) "__getattribute__" = some (some (.builtin "object.__getattribute__"))
  gt : findIn K (.ref C) "__getattr__" = some none
  sa : findIn K (.ref C) "__setattr__" = some (some (.builtin "object.__setattr__"))
  get : findIn K (.ref C) "get" = some none
  cmp : findIn K (.ref C) "compare" = some none
  edit : findIn K (.ref C) "editwin" = some none
  cls : ∃ cd, clsIn K C = some cd ∧ cd.hasDict = true
  makes : makesIn K C = true
  init : findIn K (.ref C) "__init__" = some (some (.ref fI))
  initT : typeIn K (.ref fI) = some (.type "function")
  over : plainOver K C = true

theorem findObj_own {K : Frag} {C : Addr} {od : Obj} {name : Str} {v : Value} (h : findIn K (.ref C) name = some none) (hc : ∃ cd, clsIn K C = some cd ∧ cd.hasDict = true) (hl : lookIn name od = some (some v)) : findObj K C (some od) name = some (.value v) := by
  obtain ⟨cd, h1, h2⟩ := hc
  unfold findObj
  rw [h1, h]
  simp only [Option.bind_some]
  unfold PySem.W.ownOf
  rw [h2]
  simp only [if_true, hl, Option.bind_some]

structure PageOk (C : Addr) (pm : Value) (L1 L2 : Lam) (os : List (Addr × Obj)) (x : Addr) (R : List (List Nat)) : Prop where
  ok : ∃ dx od f₁ f₂ c₁ c₂ o₁ o₂ ct₁ ct₂ cl oc la vs n, (x, instObj C dx) ∈ os ∧ (dx, od) ∈ os ∧ lookIn "get" od = some (some (.ref f₁)) ∧ lookIn "compare" od = some (some (.ref f₂)) ∧
    (f₁, kla_obj "<lambda>" L1.qual L1.params L1.body L1.scope [("rows", cl)] pm c₁ ct₁) ∈ os ∧ (f₂, kla_obj "<lambda>" L2.qual L2.params L2.body L2.scope [("rows", cl)] pm c₂ ct₂) ∈ os ∧
    ((c₁, o₁) ∈ os ∧ ∃ us t, o₁.data = .fields us ∧ us[1]? = some (.str L1.qual t)) ∧ ((c₂, o₂) ∈ os ∧ ∃ us t, o₂.data = .fields us ∧ us[1]? = some (.str L2.qual t)) ∧
    (cl, oc) ∈ os ∧ oc.data = .cell (some (.ref la)) ∧ (la, ({ cls := .type "list", dict := none, data := .seq vs n, slots := #[] } : Obj)) ∈ os ∧ (∀ h P, RepAll h P (SS R) vs.toList) ∧ R.length ≤ 100000

section
variable {c : Cx} {ρ : Env1} {b : Bool} {mg mb : Str → Option Value}
theorem frag_in {G : Wo} {s : Shared} {K : Frag} (X : K.In G.h₁) (hT : ∀ a o, K.lookup a = some o → ¬ G.Tb a) (w : Wd G s) : K.In s.heap := fun a o e => w.old a o (X a o e) (hT a o e)
theorem Ev_pgCall (ok : c.Ok) (g : Gl c.G mg mb) {K : Frag} {C fI : Addr} (X : K.In c.G.h₁) (hT : ∀ a o, K.lookup a = some o → ¬ c.G.Tb a) (kc : Kls K C fI) {pm : Value} {L1 L2 : Lam} {os : List (Addr × Obj)} {x : Addr} {R : List (List Nat)} (pg : PageOk C pm L1 L2 os x R)
    {t name : Str} {px apos pos : Pos} {es : List Expr} {ds : List PV} {d : PV} {l : Lam} {k : Nat} (hname : (name = "get" ∧ l = L1) ∨ (name = "compare" ∧ l = L2)) (lo : l.Ok) (hv : ρ.lookup t = some (.raw os (.ref x))) (hto : c.own.contains t = false) (htp : plainName t = true)
    (hline : (apos.endLine == pos.line) = true) (h : EvL c ρ b es ds) (hlen : es.length < 30) (hdl : ds.length = l.names.length) (hk : k + 1 ≤ c.rk)
    (hb : ∀ P h₀ f c₁ cl, (lamCx c.G P h₀ l f (.ref c₁) cl k).Ok → Ev (lamCx c.G P h₀ l f (.ref c₁) cl k) (("rows", .list (SS R)) :: (l.names.zip ds).reverse) true l.body d) :
    Ev c ρ b (.Call (.Attribute (.Name t px) name apos) es [] pos) d := .mk fun A T s ha st => by
  have hbase : attributeBase (.Name t px) name c.env (eval (.Name t px) c.env) = eval (.Name t px) c.env := rfl
  refine call_attr hbase ?_ hline ?_
  · rw [noStars' h]
    show (true && true && decide (es.length + 0 + 0 < 30)) = true
    simpa using hlen
  obtain ⟨v, h1, _, h3⟩ := st.vars t _ hv
  have r := h3 (fun q => by rw [List.contains_iff_mem.mpr q] at hto; cases hto)
  simp only [Rep] at r
  obtain ⟨rfl, hos⟩ := r
  refine wpAny_Name (loadVar ok h1 ?_ (plainName_spec htp).1) (plainName_spec htp).2
  obtain ⟨dx, od, f₁, f₂, c₁, c₂, o₁, o₂, ct₁, ct₂, cl, oc, la, vs, n, m1, m2, g1, g2, m3, m4, ⟨m5, u1, t1, q1, q1'⟩, ⟨m6, u2, t2, q2, q2'⟩, m7, q7, m8, rr, hz⟩ := pg.ok
  have XS := frag_in X hT st.wd
  have I : InstAt s.heap x (instObj C dx) C (some od) := ⟨(hos _ m1).2.2, rfl, rfl, (hos _ m2).2.2⟩
  obtain ⟨f, cc, oo, ct, hfn, hff, hl, hoo, hcode⟩ : ∃ f cc oo ct, findIn K (.ref C) name = some none ∧ lookIn name od = some (some (.ref f)) ∧ (f, kla_obj "<lambda>" l.qual l.params l.body l.scope [("rows", cl)] pm cc ct) ∈ os ∧ (cc, oo) ∈ os ∧ ∃ us t, oo.data = .fields us ∧ us[1]? = some (.str l.qual t) := by
    rcases hname with ⟨rfl, rfl⟩ | ⟨rfl, rfl⟩
    · exact ⟨f₁, c₁, o₁, ct₁, kc.get, g1, m3, m5, u1, t1, q1, q1'⟩
    · exact ⟨f₂, c₂, o₂, ct₂, kc.cmp, g2, m4, m6, u2, t2, q2, q2'⟩
  refine method_usual XS I kc.ga kc.gt hfn rfl (get_value XS I kc.ga (findObj_own hfn kc.cls hff) rfl ?_)
  dsimp only
  have e0 : Ext c.G s { s with toks := s.toks + 1 } := Ext.tok
  have st0 := st.ext e0
  refine Calls.callWith_function (o := kla_obj "<lambda>" l.qual l.params l.body l.scope [("rows", cl)] pm cc ct) (fd := kla_fn "<lambda>" l.qual l.params l.body l.scope [("rows", cl)] pm (.ref cc) ct) (evalArgs_ev h ha st0 fun ws s₁ e₁ st₁ r₁ => ?_)
  have hget : ∀ {p : Addr × Obj}, p ∈ os → s₁.heap.get? p.1 = some p.2 := fun {p} hp => (e0.trans e₁).keep _ _ (hos p hp).2.2 (st.wd.notTbV (hos p hp).2.2 (hos p hp).2.1.1) (fun h => h)
  refine ⟨⟨hget hl, rfl⟩, ?_⟩
  obtain ⟨us, tt, d1, d2⟩ := hcode
  have ra : Rep s₁.heap (c.Qb T b) (.list (SS R)) (.ref la) := by
    simp only [Rep]
    exact ⟨la, vs, n, rfl, Cx.Qb_of (hos _ m8).1, hget m8, rr _ _, by rw [List.length_map, sizeLine_is]; omega⟩
  refine wpAny_call (codeAny_mono (lam_call g lo (k := k) (ha.mono hk) st₁.wd (fun a hn => Cx.Qb_of (st₁.newP ok hn)) (hget hl) ⟨cc, oo, us, tt, rfl, hget hoo, d1, d2⟩ ⟨oc, hget m7, q7⟩ ra r₁ hdl (fun h₀ ok' => hb _ h₀ _ _ _ ok')) ?_)
  rintro r s' ⟨v, rfl, e, q⟩
  exact ⟨(e0.trans e₁).trans e, q⟩
end
end Mine
end

section
open PySem PySem.W PyProof.Rows
open PySem.SeqAt
namespace Mine

/-! ### a world in which one function makes lambdas -/
noncomputable def LamTab (h : Heap) (P : Addr) (q : Str) : Prop := ∀ ps pos cv, h.get? P = some { cls := .none, data := .fields ps } → codeAmong pos ps.toList = some cv →
  ∃ c o us t, cv = .ref c ∧ h.get? c = some o ∧ o.cls = .type "code" ∧ o.data = .fields us ∧ us[1]? = some (.str q t)

noncomputable def woP (prog : Program) (w : World) (s : Shared) (lm : Addr × Addr) (cs : List (Addr × Addr)) (q : Str) : Wo where
  prog := prog
  w := w
  h₁ := s.heap
  os₁ := s.os
  Tb := fun a => ∃ p ∈ lm :: cs, a = p.2
  TabOk := fun h => (∀ p ∈ lm :: cs, TabAt s.heap h p.1 p.2) ∧ LamTab h lm.2 q
  tabKeeps := fun h h' t k => ⟨fun p hp => (t.1 p hp).keep2 (fun o e q => k _ o e q) fun o e q => k _ o e q, fun ps pos cv e hc => by
    obtain ⟨ps₀, more, a, t₁, i⟩ := t.1 lm List.mem_cons_self
    have hp := k _ _ (tabP t₁).1 (tabP t₁).2
    rw [hp] at e; cases e
    obtain ⟨c, o, us, tt, e1, e2, e3, e4, e5⟩ := t.2 _ pos cv (tabP t₁).1 hc
    exact ⟨c, o, us, tt, e1, k _ _ e2 ⟨.inr e3, us, e4⟩, e3, e4, e5⟩⟩

section
variable {prog : Program} {w : World} {s₁ : Shared} {lm : Addr × Addr} {cs : List (Addr × Addr)} {q : Str}
theorem woP_gl (X : Tabs s₁.heap (lm :: cs)) {p loose mean} {mg mb : Str → Option Value} (T : Top p loose mean mg mb s₁.heap) : Gl (woP prog w s₁ lm cs q) mg mb :=
  ⟨T.g, T.b, T.builtins, T.nolimit, fun b o e hc ⟨p, hp, q⟩ => by
    obtain ⟨ps, t, _⟩ := X.1 p hp
    have e' : s₁.heap.get? b = some o := e
    rw [q, t.2] at e'; cases e'
    exact hc (tabP t).2⟩
theorem woP_wd (X : Tabs s₁.heap (lm :: cs)) (hem : s₁.heap.TableAt lm.1 lm.2 #[]) (hg : s₁.gens = #[]) : Wd (woP prog w s₁ lm cs q) s₁ :=
  ⟨fun _ _ e _ => e, ⟨fun p hp => let ⟨ps, t, i⟩ := X.1 p hp; ⟨ps, #[], t, by simpa using t, by simpa using i⟩, fun ps pos cv e hc => by
    rw [hem.2] at e; cases e; cases hc⟩, (fun b ⟨p, hp, q⟩ => let ⟨ps, t, _⟩ := X.1 p hp; q ▸ ⟨_, (tabL t).1, (tabL t).2⟩), rfl, .of_eq hg⟩
theorem notTbP {a : Addr} (h : (lm :: cs).all (fun p => p.2 != a) = true) : ¬ (woP prog w s₁ lm cs q).Tb a := fun ⟨p, hp, q⟩ => by
  have := List.all_eq_true.mp h p hp
  simp [q] at this

/-- a table grows by one code -/
theorem woP_grow (X : Tabs s₁.heap (lm :: cs)) {ca P : Addr} (hm : (ca, P) ∈ lm :: cs) {s : Shared} (wd : Wd (woP prog w s₁ lm cs q) s) {ps₀ more : Array Value} {pos : Pos} {c' : Addr} {h' : Heap} {tk : Tok} (t₀ : s₁.heap.TableAt ca P ps₀) (t : s.heap.TableAt ca P (ps₀ ++ more))
    (hx : Heap.ExtBut P s.heap h') (hcode' : h'.IsCode ca P (ps₀ ++ more ++ #[rawInt pos.line, rawInt pos.col, .ref c'])) (htab' : h'.TableAt ca P (ps₀ ++ more ++ #[rawInt pos.line, rawInt pos.col, .ref c']))
    (hq : P = lm.2 → LamTab h' lm.2 q) : Ext (woP prog w s₁ lm cs q) s { s with heap := h', toks := tk } := by
  refine ⟨fun b o e ht _ => hx b o (fun q => ht ⟨_, hm, q⟩) e, fun _ => ?_⟩
  have tabs : ∀ p ∈ lm :: cs, TabAt s₁.heap h' p.1 p.2 := by
    intro p hp
    by_cases hpe : p = (ca, P)
    · subst hpe
      exact ⟨ps₀, more ++ #[rawInt pos.line, rawInt pos.col, .ref c'], t₀, by rw [← Array.append_assoc]; exact htab', by rw [← Array.append_assoc]; exact hcode'⟩
    · have hne : p.2 ≠ P := fun q => hpe (apart_eq X.2 hp hm q)
      have tp := wd.tab.1 p hp
      refine TabAt.keep2 tp (fun o e q => hx _ o (fun q' => ?_) e) fun o e _ => hx _ o hne e
      obtain ⟨ps', more', _, t', _⟩ := tp
      obtain ⟨o', e', _, hcl⟩ := tabC t'
      rw [q', t.2] at e'; cases e'; cases hcl
  refine ⟨fun b o e ht => hx b o (fun q => ht ⟨_, hm, q⟩) (wd.old b o e ht), ⟨tabs, ?_⟩, fun b ⟨p, hp, q⟩ => ?_, wd.os, wd.gens⟩
  · by_cases hl : P = lm.2
    · exact hq hl
    · intro ps' pos' cv e hc
      obtain ⟨psl, morel, _, tl, _⟩ := wd.tab.1 lm List.mem_cons_self
      have hp := hx _ _ (fun q => hl q.symm) tl.2
      rw [hp] at e; cases e
      obtain ⟨c, o, us, tt, e1, e2, e3, e4, e5⟩ := wd.tab.2 _ pos' cv tl.2 hc
      refine ⟨c, o, us, tt, e1, hx _ _ (fun q => ?_) e2, e3, e4, e5⟩
      rw [q, t.2] at e2; cases e2; cases e3
  · obtain ⟨ps', more', _, t', _⟩ := tabs p hp
    subst q; exact ⟨_, (tabL t').1, (tabL t').2⟩
theorem codeAmong_snoc' {pos pos' : Pos} {c cv : Value} (l : List Value) (h : TriplesOk l) (e : codeAmong pos' (l ++ [rawInt pos.line, rawInt pos.col, c]) = some cv) : codeAmong pos' l = some cv ∨ cv = c := by
  match l, h with
  | [], _ =>
    right
    simp only [List.nil_append, codeAmong, rawInt] at e
    split at e
    · injection e with e; exact e.symm
    · cases e
  | .int a t :: .int b u :: v :: rest, h =>
    simp only [List.cons_append, codeAmong] at e ⊢
    split at e
    · rename_i hh; rw [if_pos hh]; exact .inl e
    · rename_i hh; rw [if_neg hh]; exact codeAmong_snoc' rest h e

/-- a lambda that takes one cell along is made -/
theorem lam_make {mg mb : Str → Option Value} (X : Tabs s₁.heap (lm :: cs)) (g : Gl (woP prog w s₁ lm cs q) mg mb) (BM : BMain s₁.heap mg) {env : Env} {params : Arguments} {body : Expr} {scope : Scope} {pos : Pos} {cl : Addr} (hc : env.code = .ref lm.1) (hge : env.globals = mainGlobals)
    (hcl : closureFor scope env = pure [(("rows" : Str), cl)]) (hq : env.qual ++ "<lambda>" = q) (hdef : defaultsOf params env = ([], [])) {A : Around} {s : Shared} (wd : Wd (woP prog w s₁ lm cs q) s) {E : Value → Shared → Prop} {Q : Value → Shared → Prop}
    (k : ∀ f c₁ oc us t ct h' tk, Ext (woP prog w s₁ lm cs q) s { s with heap := h', toks := tk } → s.heap.get? f = none → h'.get? f = some (kla_obj "<lambda>" q params body scope [("rows", cl)] ((mg "__name__").getD .none) c₁ ct) →
      h'.get? c₁ = some oc → oc.cls = .type "code" → oc.data = .fields us → us[1]? = some (.str q t) → Q (.ref f) { s with heap := h', toks := tk }) :
    wpAny (model prog w) A (eval (.Lambda params body scope pos) env) Q E s := by
  refine kla_eval hdef ?_
  rw [hq, makeFunction_eq]
  simp only [List.zip_nil_right, List.filterMap_nil, List.isEmpty_nil, if_true, pure_bind]
  unfold makeTail
  rw [hcl, hge]
  refine wpAny_bind (wpAny_pure ?_)
  simp only [List.isEmpty_cons, Bool.false_eq_true, if_false]
  refine wpAny_bind (wpAny_newTextTuple ?_)
  obtain ⟨bm, ob, hb1, hb2, hb3, hb4, hb5, hb6⟩ := BM
  have hbt : ¬ (woP prog w s₁ lm cs q).Tb bm := g.tb bm ob hb3 fun q => by
    rcases q with ⟨_, vs, e⟩
    rw [hb6] at e; cases e
  obtain ⟨ps₀, more, t₀, t, i⟩ := wd.tab.1 lm List.mem_cons_self
  have htr : TriplesOk (ps₀ ++ more).toList := by
    obtain ⟨_, _, _, _, _, _, _, _, _, op, _, _, _, _, _, _, _, hp, hd, h, _⟩ := i
    exact h
  have e0 : Ext (woP prog w s₁ lm cs q) s { s with heap := s.heap.push { cls := .type "tuple", data := .seq (([("rows", cl)] : List (Str × Addr)).mergeSort (fun a b => decide (a.1.cps.toList ≤ b.1.cps.toList)) |>.map (Value.ref ·.2)).toArray } } := Ext.push'
  have hres : ∀ (c₁ : Addr) (h' : Heap) (tk : Tok), Ext (woP prog w s₁ lm cs q) s { s with heap := h', toks := tk } → s.heap.objs.size ≤ h'.objs.size → (∃ oc us t, h'.get? c₁ = some oc ∧ oc.cls = .type "code" ∧ oc.data = .fields us ∧ us[1]? = some (.str q t)) → ∀ ct,
      wpAny (model prog w) A (do
        let b ← builtinsFor mainGlobals env.builtins
        let nm ← nsGet mainGlobals "__name__"
        let doc ← (pure Value.none : Sem Value)
        newObj (.type "function") (.func { name := "<lambda>", qualname := q, params, body := .expr body, scope, globals := mainGlobals, closure := [("rows", cl)], closureTuple := ct, code := .ref c₁, builtins := b, defaults := .none, kwdefaults := .none, annotations := none, pyModule := nm.getD .none, doc := doc })) Q E { s with heap := h', toks := tk } := by
    intro c₁ h' tk e hsz ⟨oc, us, tt, o1, o2, o3, o4⟩ ct
    have wd' := e.wd wd
    have hg' := g.ns wd' g.g
    refine wpAny_bind (wpAny_builtinsFor hg' hb1 hb2 (wd'.old _ _ hb3 hbt) hb4 hb5 hb6 ?_)
    refine wpAny_bind (wpAny_nsGet hg' ?_)
    refine wpAny_bind (wpAny_pure (wpAny_newObj_type ?_ (by size_fits)))
    refine k h'.objs.size c₁ oc us tt ct _ tk (e.trans (Ext.push' (s := { s with heap := h', toks := tk }))) (Heap.get?_none_of_le hsz) (Heap.get?_push_size _ rfl) (Heap.get?_push_of_some _ o1) o2 o3 o4
  have i' := i.push { cls := .type "tuple", data := .seq (([("rows", cl)] : List (Str × Addr)).mergeSort (fun a b => decide (a.1.cps.toList ≤ b.1.cps.toList)) |>.map (Value.ref ·.2)).toArray }
  have t' := t.push { cls := .type "tuple", data := .seq (([("rows", cl)] : List (Str × Addr)).mergeSort (fun a b => decide (a.1.cps.toList ≤ b.1.cps.toList)) |>.map (Value.ref ·.2)).toArray }
  cases hf : codeAmong pos (ps₀ ++ more).toList with
  | some cv =>
    obtain ⟨c, o, us, tt, rfl, e2, e3, e4, e5⟩ := wd.tab.2 _ pos cv t.2 hf
    refine wpAny_bind (wpAny_functionCode_hit hc i' hf ?_)
    exact hres c _ s.toks e0 (by rw [Heap.size_push]; omega) ⟨o, us, tt, Heap.get?_push_of_some _ e2, e3, e4, e5⟩ _
  | none =>
    refine wpAny_bind (wpAny_functionCodeX hc i' t' hf fun c' h' tk hx hgez hlt hcode' hrec htab' hown => ?_)
    obtain ⟨P', _, _, ⟨oo, vv, w1, w2, w3, w4⟩, _⟩ := hown
    obtain ⟨c₂, oc, us, tt, x1, x2, x3, x4⟩ := hrec
    cases x1
    rw [w1] at x2; cases x2
    have e1 : Ext (woP prog w s₁ lm cs q) { s with heap := s.heap.push { cls := .type "tuple", data := .seq (([("rows", cl)] : List (Str × Addr)).mergeSort (fun a b => decide (a.1.cps.toList ≤ b.1.cps.toList)) |>.map (Value.ref ·.2)).toArray } } { s with heap := h', toks := tk } := by
      refine woP_grow (s := { s with heap := _ }) X List.mem_cons_self (e0.wd wd) t₀ t' hx hcode' htab' fun _ => ?_
      intro ps' pos' cv e hc'
      rw [htab'.2] at e; cases e
      rw [Array.toList_append] at hc'
      rcases codeAmong_snoc' _ htr hc' with hc' | rfl
      · obtain ⟨c, o, us', tt', z1, z2, z3, z4, z5⟩ := wd.tab.2 _ pos' cv t.2 hc'
        refine ⟨c, o, us', tt', z1, hx _ _ (fun q => ?_) (Heap.get?_push_of_some _ z2), z3, z4, z5⟩
        rw [q, t.2] at z2; cases z2; cases z3
      · exact ⟨c', _, us, tt, rfl, w1, w2, x3, x4⟩
    exact hres c' h' tk (e0.trans e1) (Nat.le_trans (Nat.le_trans (by rw [Heap.size_push]; omega) hgez) (Nat.le_of_lt hlt)) ⟨_, us, tt, w1, w2, x3, x4⟩ _
end
end Mine
end

section
open PySem PySem.W PyProof.Rows
open PySem.SeqAt
namespace Mine

/-! ### a function is entered: any end -/
section
variable {G : Wo} {mg mb : Str → Option Value}
theorem fn_enter (g : Gl G mg mb) {fa : Addr} {qual : Str} {params : List Str} {body : List Stmt} {scope : Scope} {cd : Value} (D : FnDef G fa qual params body scope cd) (own : List Str) (k : Nat)
    (hown : (own.contains Str.empty = false ∧ ∀ x ∈ params, own.contains x = false)) {A : Around} {s : Shared} {P : Addr → Prop} {vs : List Value} {ds : List PV} (ha : AOk (k + 1) A) (w : Wd G s) (hP : ∀ a, s.heap.get? a = none → P a) (r : RepAll s.heap P ds vs) (hlen : ds.length = params.length)
    {Rf : Value → Shared → Prop} (X₀ : Addr → Prop)
    (h : (fnCx G P s.heap qual scope fa cd own k).Ok → ∀ A' s₂, AOk k A' → St (fnCx G P s.heap qual scope fa cd own k) (params.zip ds).reverse [] s₂ → (∀ b o, s.heap.get? b = some o → ¬ G.Tb b → s₂.heap.get? b = some o) →
      wpAny G.M A' (execs body (fnCx G P s.heap qual scope fa cd own k).env) (fun fl s₃ => Evo G (fun a => (fnCx G P s.heap qual scope fa cd own k).X [] a ∨ X₀ a) s₂ s₃ ∧ Rf (match fl with | .ret v => v | _ => .none) s₃) (fun _ _ => False) s₂) :
    codeAny G.M A (.call (.ref fa) ⟨vs, []⟩) (fun r s' => ∃ v, r = .ok (.ret v) ∧ Evo G X₀ s s' ∧ Rf v s') s := by
  obtain ⟨o, fd, ho, hod, hsc, hbody, hglob, hclos, hblt, hcode, hqual, hbind⟩ := D.obj
  have hnotT : ¬ G.Tb fa := g.tb _ _ ho (not_codeLike_func hod)
  have hcd : s.heap.CodeRec fd.code fd.qualname := by
    rw [hcode, hqual]
    obtain ⟨c, o', vs', t, e1, e2, e3, e4⟩ := D.code
    exact ⟨c, o', vs', t, e1, w.old _ _ e2 (D.codeT c e1), e3, e4⟩
  have okm : ∀ b ∈ (fnCx G P s.heap qual scope fa cd own k).mc, s.heap.get? b = none := (fnCx_ok (qual := qual) (fa := fa) (cd := cd) (own := []) (rk := k) w hP D.kind (fun q => nomatch q)).mcnew
  have ok : (fnCx G P s.heap qual scope fa cd own k).Ok := fnCx_ok w hP D.kind (fun q => by rw [List.contains_iff_mem.mpr q] at hown; exact absurd hown.1 (by simp))
  refine codeAny_call_function (by have := ha.depth; show A.depth < 1000; omega) (w.old _ _ ho hnotT) hod (by rw [hsc]; exact D.co) (by rw [hsc]; exact D.gen) hbody hcd ?_
  rw [hbind vs (by rw [r.length, hlen])]
  refine wpAny_pure ?_
  rw [hsc, hglob, hclos, hblt, hcode, hqual]
  unfold newFunctionEnv
  simp only [Option.isSome_none, Bool.false_eq_true, if_false]
  refine wpAny_bind (wpAny_alloc ?_)
  refine wpAny_bind (wpAny_layCells _ (fun name kind cells => rfl) scope.names [] _ _ ?_)
  have CO := cellsFrom_ok scope.names (s.heap.push { cls := .type "frame", data := .dict #[] }) (s.heap.objs.size + 1) [] ⟨(fun _ _ h => nomatch h), .nil⟩ (by simp)
  have hsz : (s.heap.push { cls := .type "frame", data := .dict #[] }).objs.size = s.heap.objs.size + 1 := Heap.size_push ..
  rw [hsz] at CO
  have kk : ∀ b o, s.heap.get? b = some o → (pushCells (s.heap.push { cls := .type "frame", data := .dict #[] }) scope.names).get? b = some o := fun b o e => pushCells_keeps _ _ _ _ (Heap.get?_push_of_some _ e)
  have e1 : Ext G s { s with heap := pushCells (s.heap.push { cls := .type "frame", data := .dict #[] }) scope.names, toks := s.toks } := Ext.of kk
  have st₁ : St (fnCx G P s.heap qual scope fa cd own k) [] [] { s with heap := pushCells (s.heap.push { cls := .type "frame", data := .dict #[] }) scope.names, toks := s.toks } := by
    refine ⟨e1.wd w, fun b o e _ => kk b o e, ⟨fun _ => none, ?_⟩, fun a ha => ?_, (fun x d hd => nomatch hd), (fun p hp => nomatch hp), .nil, (fun a ha => nomatch ha)⟩
    · exact (Heap.Ns.new s.heap _).keeps fun b o e => pushCells_keeps _ _ _ _ e
    · obtain ⟨⟨y, b⟩, hm, rfl⟩ := List.mem_map.mp ha
      exact ⟨none, (CO.empty y b hm).1⟩
  show wpAny _ _ ((forIn (params.zip vs) PUnit.unit _) >>= _) _ _ _
  rw [show ({ s with heap := s.heap.push { cls := .type "frame", data := .dict #[] } } : Shared).heap.objs.size = s.heap.objs.size + 1 from hsz]
  have r₁ : RepAll (pushCells (s.heap.push { cls := .type "frame", data := .dict #[] }) scope.names) ((fnCx G P s.heap qual scope fa cd own k).Q []) ds vs := by
    refine RepAll.mono (fun b o e _ p => ⟨⟨⟨p, fun q => ?_, fun q => ?_, (fun q => nomatch q)⟩, (fun _ hp => nomatch hp)⟩, kk b o e⟩) _ _ r
    · have q' : b = s.heap.objs.size := q
      rw [q', get_new] at e; cases e
    · rw [okm b q] at e; cases e
  have notX : ∀ b o, s.heap.get? b = some o → ¬ (fnCx G P s.heap qual scope fa cd own k).Xs b := fun b o e q => by
    rcases q with q | q
    · have q' : b = s.heap.objs.size := q
      rw [q', get_new] at e; cases e
    · rw [okm b q] at e; cases e
  refine wpAny_bind (binds_st (c := fnCx G P s.heap qual scope fa cd own k) (T := []) (R := fun _ s' => wpAny _ _ (pure (fnEnv qual scope s.heap.objs.size fa cd)) _ _ s') ok _ (fun x v u => rfl) params ds vs [] _ st₁ r₁ hlen.symm (fun x hx => ⟨?_, fun q => ?_⟩) fun s₂ e₂ st₂ => wpAny_pure ?_)
  · rcases D.locs x hx with q | q
    · exact .inl q
    · exact .inr ⟨q, rfl⟩
  · have q' : x ∈ own := q
    have := hown.2 x hx
    rw [List.contains_iff_mem.mpr q'] at this; cases this
  refine ⟨g.noLimit st₂.wd, codeAny_func ?_⟩
  have ha' : AOk k (A.deeper (fnEnv qual scope s.heap.objs.size fa cd)) := ⟨ha.handled, by have := ha.depth; show A.depth + 1 + k ≤ 690; omega, by have := ha.units; show A.units + 3 + 20 * k ≤ 9000; omega⟩
  rw [List.append_nil] at st₂
  refine wpAny_mono (h ok _ s₂ ha' st₂ fun b o e t => e₂.keep b o (kk b o e) t (notX b o e)) (fun fl s₃ ⟨e₃, q₃⟩ => ?_) fun _ _ x => x.elim
  have ext : Evo G X₀ s s₃ := by
    refine ⟨fun b o e t nx => e₃.keep b o (e₂.keep b o (kk b o e) t (notX b o e)) t fun q => ?_, fun w => e₃.wd (e₂.wd (e1.wd w))⟩
    rcases q with (q | q | ⟨p, hp, _⟩) | q
    · exact notX b o e (.inl q)
    · exact notX b o e (.inr q)
    · cases hp
    · exact nx q
  exact ⟨_, rfl, ext, q₃⟩
end

theorem put_new {name : Str} {h : Int} {key v : Value} {es : List DictEntry} {n : Nat} (hno : es.any (·.key.isStr name) = false) : Obj.putName name h key v ({ cls := .type "dict", data := .dict es.toArray n } : Obj) = { cls := .type "dict", data := .dict (es ++ [({ hash := h, key := key, val := v } : DictEntry)]).toArray (n + 1) } := by
  rw [Obj.putName_eq]
  unfold Obj.putNameByArray
  have : es.toArray.findIdx? (·.key.isStr name) = none := by
    rw [Array.findIdx?_eq_none_iff]
    intro x hx
    have := List.any_eq_false.mp hno x (by simpa using hx)
    simpa using this
  simp only [this]
  simp
/-! ### x.name = v where x is an object with a dict of its own -/
section
variable {prog : Program} {w : World} {A : Around} {E : Value → Shared → Prop} {s : Shared} {K : Frag} {C fI x dx : Addr}
theorem set_attr {name : Str} {v : Value} {es : List DictEntry} {n : Nat} {Q : Unit → Shared → Prop} (X : K.In s.heap) (kc : Kls K C fI) (hx : s.heap.get? x = some (instObj C dx)) (hd : s.heap.get? dx = some { cls := .type "dict", data := .dict es.toArray n }) (hf : findIn K (.ref C) name = some none)
    (hno : es.any (·.key.isStr name) = false) (hrk : es.any (·.refKey) = false) (hz : es.length ≤ 100)
    (h : ∀ h' tk tk', h'.get? dx = some { cls := .type "dict", data := .dict (es ++ [({ hash := PyData.keyHash w.params name, key := .str name tk', val := v } : DictEntry)]).toArray (n + 1) } → Heap.SameBut dx s.heap h' → Q () { s with heap := h', toks := tk }) :
    wpAny (model prog w) A (setAttr (.ref x) name v) Q E s := by
  have I : InstAt s.heap x (instObj C dx) C (some { cls := .type "dict", data := .dict es.toArray n }) := ⟨hx, rfl, rfl, hd⟩
  refine set_plain X I kc.sa ?_
  have X' : K.In ({ s with toks := s.toks + 1 } : Shared).heap := X
  refine osa_open (s := { s with toks := s.toks + 1 }) (r := none) X' I kc.over (by unfold takerIn; rw [hf]; rfl) fun b => ?_
  obtain ⟨cd, hc, hd'⟩ := kc.cls
  refine wpAny_bind (wpAny_pure (wpAny_bind (wpAny_bind (wpAny_loadPart hx (wpAny_bind ((looks_clsIn X' hc).here ?_))))))
  rw [hd']
  refine wpAny_pure (a := some dx) (wpAny_bind (wpAny_pure (wpAny_bind ?_)))
  unfold nsSet
  refine wpAny_bind (wpAny_bind (wpAny_askSetting (wpAny_pure (wpAny_bind (wpAny_mkText (wpAny_bind (wpAny_loadPart hd ?_)))))))
  dsimp only
  have c1 : (!es.toArray.any (·.key.isStr name) && es.toArray.any (·.refKey)) = false := by
    rw [← Array.any_toList, ← Array.any_toList]
    show (!es.any _ && es.any _) = false
    rw [hrk, Bool.and_false]
  rw [aRefKeyMayBeTheName_at, c1]
  have e : Obj.putName name (PyData.keyHash w.params name) (.str name (s.toks + 1)) v ({ cls := .type "dict", data := .dict es.toArray n } : Obj) = { cls := .type "dict", data := .dict (es ++ [({ hash := PyData.keyHash w.params name, key := .str name (s.toks + 1), val := v } : DictEntry)]).toArray (n + 1) } := put_new hno
  have up : (s.heap.update dx (Obj.putName name (PyData.keyHash w.params name) (.str name (s.toks + 1)) v)).get? dx = some { cls := .type "dict", data := .dict (es ++ [({ hash := PyData.keyHash w.params name, key := .str name (s.toks + 1), val := v } : DictEntry)]).toArray (n + 1) } := by
    rw [← e]
    refine Heap.get?_update_self _ hd ?_
    rw [e]; rfl
  refine wpAny_updatePart hd ?_
  refine wpAny_bind (wpAny_lookBehind up (pastItsLine_dict (by rw [List.size_toArray, List.length_append, sizeLine_eq]; simp; omega)) ?_)
  exact wpAny_pure (h _ _ _ up (Heap.SameBut.update ..))
end
end Mine
end

section
open PySem PySem.W PyProof.Rows
open PySem.SeqAt
namespace Mine
theorem w_tc (C : Addr) : (Code.builtin "type.__call__" ⟨[.ref C, .none], []⟩).weight ≤ 1 := by
  first
  | exact Nat.le_of_eq (show _ = 1 by rfl)
  | (rw [show (Code.builtin "type.__call__" ⟨[.ref C, .none], []⟩).weight = 0 by rfl]; decide)
  | (rw [show (Code.builtin "type.__call__" ⟨[.ref C, .none], []⟩).weight = 0 by kernel_rfl]; decide)
  | (rw [show (Code.builtin "type.__call__" ⟨[.ref C, .none], []⟩).weight = 1 by kernel_rfl]; decide)
theorem u_tc (C : Addr) : (Code.builtin "type.__call__" ⟨[.ref C, .none], []⟩).cUnits ≤ 10 := by
  first
  | (rw [show (Code.builtin "type.__call__" ⟨[.ref C, .none], []⟩).cUnits = 1 by rfl]; decide)
  | (rw [show (Code.builtin "type.__call__" ⟨[.ref C, .none], []⟩).cUnits = 0 by rfl]; decide)
  | (rw [show (Code.builtin "type.__call__" ⟨[.ref C, .none], []⟩).cUnits = 0 by kernel_rfl]; decide)
  | (rw [show (Code.builtin "type.__call__" ⟨[.ref C, .none], []⟩).cUnits = 1 by kernel_rfl]; decide)
  | (rw [show (Code.builtin "type.__call__" ⟨[.ref C, .none], []⟩).cUnits = 2 by kernel_rfl]; decide)
  | (rw [show (Code.builtin "type.__call__" ⟨[.ref C, .none], []⟩).cUnits = 3 by kernel_rfl]; decide)
theorem val_of_ref {o : Obj} {C : Addr} (h : o.cls = .ref C) : Obj.val o := ⟨(fun q => by have q1 := q.1; rw [h] at q1; cases q1), fun ⟨⟨T, _, e⟩, _⟩ => by rw [h] at e; cases e⟩
noncomputable abbrev edEntry (w : World) (tk : Tok) : DictEntry := { hash := PyData.keyHash w.params "editwin", key := .str "editwin" tk, val := .none }
noncomputable abbrev dictOf (es : List DictEntry) (n : Nat) : Obj := { cls := .type "dict", data := .dict es.toArray n }
theorem not_code_dict {es : List DictEntry} {n : Nat} : ¬ Obj.codeLike (dictOf es n) := not_codeLike_dict rfl
/-- one new thing is changed -/
theorem evo_dx {G : Wo} {s : Shared} {dx : Addr} {es : List DictEntry} {n : Nat} {h' : Heap} {tk : Tok} (hold : G.h₁.get? dx = none) (hd : s.heap.get? dx = some (dictOf es n)) (hs : Heap.SameBut dx s.heap h') : Evo G (fun a => a = dx) s { s with heap := h', toks := tk } :=
  Evo.but (fun b o hb e => (hs.2 b hb).trans e) rfl hold fun o e => by rw [hd] at e; cases e; exact not_code_dict
theorem Evo.at {G : Wo} {Y : Addr → Prop} {s s' : Shared} (ev : Evo G Y s s') (w : Wd G s) {a : Addr} {o : Obj} (e : s.heap.get? a = some o) (hv : Obj.val o) (n : ¬ Y a) : s'.heap.get? a = some o := ev.keep a o e (w.notTbV e hv.1) n
theorem Wd.dead {G : Wo} {s : Shared} (w : Wd G s) {a : Addr} (h : s.heap.get? a = none) : G.h₁.get? a = none := w.dead₁ h

section
variable {prog : Program} {w : World} {s₁ : Shared} {lm : Addr × Addr} {cs : List (Addr × Addr)} {q : Str} {mg mb : Str → Option Value} {K : Frag} {C fI : Addr}
/-- Rstrip(None) -/
theorem make_page (g : Gl (woP prog w s₁ lm cs q) mg mb) (X : K.In s₁.heap) (hT : ∀ a o, K.lookup a = some o → ¬ (woP prog w s₁ lm cs q).Tb a) (kc : Kls K C fI) {qI : Str} {scI : Scope} {cdI : Value} {p1 p2 p3 p4 : Pos}
    (DI : FnDef (woP prog w s₁ lm cs q) fI qI ["self", "editwin"] [.Assign [.Attribute (.Name "self" p1) "editwin" p2] (.Name "editwin" p3) p4] scI cdI)
    (hs : ∀ P h₀ k, swapsWith (.Name "editwin" p3) (some (.Attribute (.Name "self" p1) "editwin" p2)) p4.line (fnCx (woP prog w s₁ lm cs q) P h₀ qI scI fI cdI [] k).env = pure false)
    {A : Around} {k : Nat} (ha : AOk (k + 2) A) {s : Shared} (wd : Wd (woP prog w s₁ lm cs q) s) {Q : Value → Shared → Prop} {E : Value → Shared → Prop}
    (h : ∀ x dx s' tk', Ext (woP prog w s₁ lm cs q) s s' → s.heap.get? x = none → s.heap.get? dx = none → x ≠ dx → s'.heap.get? x = some (instObj C dx) → s'.heap.get? dx = some (dictOf [edEntry w tk'] 1) → Q (.ref x) s') :
    wpAny (model prog w) A (call (.ref C) [.none]) Q E s := by
  obtain ⟨hh, gg, dr, tt, os⟩ := s
  have XS : K.In hh := frag_in X hT wd
  refine wpAny_call (make_core (makes_of XS kc.makes) (looks_findIn XS kc.init) (fun self => bind_fn XS self kc.initT) (.inl rfl) ?_)
  have e0 : Ext (woP prog w s₁ lm cs q) ⟨hh, gg, dr, tt, os⟩ ⟨(hh.push emptyDict).push (instObj C hh.objs.size), gg, dr, tt, os⟩ := Ext.of (s := ⟨hh, gg, dr, tt, os⟩) (tk := tt) fun b o e => Heap.get?_push_of_some _ (Heap.get?_push_of_some _ e)
  have hxg : ((hh.push emptyDict).push (instObj C hh.objs.size)).get? (hh.objs.size + 1) = some (instObj C hh.objs.size) := by heap_get
  have hdg : ((hh.push emptyDict).push (instObj C hh.objs.size)).get? hh.objs.size = some emptyDict := Heap.get?_push_of_some _ (Heap.get?_push_at rfl rfl)
  have hnx : hh.get? (hh.objs.size + 1) = none := Heap.get?_none_of_le (Nat.le_succ _)
  have hnd : hh.get? hh.objs.size = none := Heap.get?_none_of_le (Nat.le_refl _)
  have hold : s₁.heap.get? hh.objs.size = none := wd.dead (a := hh.objs.size) hnd
  have hxd : hh.objs.size + 1 ≠ hh.objs.size := Nat.succ_ne_self _
  generalize hX : hh.objs.size + 1 = x at *
  generalize hD : hh.objs.size = dx at *
  generalize hH : (hh.push emptyDict).push (instObj C dx) = h₁ at *
  have wd₁ := e0.wd wd
  have ha' : AOk (k + 1) (A.under (.builtin "type.__call__" ⟨[.ref C, .none], []⟩)) := by
    refine ⟨ha.handled, ?_, ?_⟩
    · have := ha.depth
      show A.depth + (Code.builtin "type.__call__" ⟨[.ref C, .none], []⟩).weight + (k + 1) ≤ 690
      have : (Code.builtin "type.__call__" ⟨[.ref C, .none], []⟩).weight ≤ 1 := w_tc C
      omega
    · have := ha.units
      show A.units + (Code.builtin "type.__call__" ⟨[.ref C, .none], []⟩).cUnits + 20 * (k + 1) ≤ 9000
      have : (Code.builtin "type.__call__" ⟨[.ref C, .none], []⟩).cUnits ≤ 10 := u_tc C
      omega
  refine codeAny_mono (fn_enter g DI [] k ⟨rfl, fun _ _ => rfl⟩ ha' wd₁ (P := fun _ => True) (fun _ _ => trivial) (ds := [.raw [] (.ref x), .none]) (vs := [.ref x, .none]) (.cons (by simp only [Rep]; exact ⟨trivial, fun _ h => by cases h⟩) (.cons (by simp only [Rep]) .nil)) rfl
    (Rf := fun v s' => v = .none ∧ ∃ tk', s'.heap.get? x = some (instObj C dx) ∧ s'.heap.get? dx = some (dictOf [edEntry w tk'] 1)) (fun a => a = dx) fun ok A' s₂ ha₂ st₂ keep₂ => ?_) ?_
  · have st₂' := st₂
    refine wpAny_execs_cons (plainObj_wpAny_Assign_Attribute ((Ev_name (b := true) (d := .none) ok rfl rfl rfl).use ha₂ st₂ fun v s₃ e₃ st₃ r₃ => (Ev_name (b := true) (d := .raw [] (.ref x)) ok rfl rfl rfl).use ha₂ st₃ fun ov s₄ e₄ st₄ r₄ => ?_) (hs _ _ _))
    simp only [Rep] at r₃ r₄
    obtain ⟨rfl, _⟩ := r₄
    subst r₃
    have x4 : s₄.heap.get? x = some (instObj C dx) := e₄.at st₃.wd (e₃.at st₂.wd (keep₂ x _ hxg (wd₁.notTbV hxg (val_of_ref rfl).1)) (val_of_ref rfl) (fun h => h)) (val_of_ref rfl) (fun h => h)
    have vd : Obj.val emptyDict := Obj.val_cls (T := "dict") rfl (by decide)
    have d4 : s₄.heap.get? dx = some emptyDict := e₄.at st₃.wd (e₃.at st₂.wd (keep₂ dx _ hdg (wd₁.notTbV hdg vd.1)) vd (fun h => h)) vd (fun h => h)
    refine set_attr (es := []) (n := 0) (frag_in X hT st₄.wd) kc x4 d4 kc.edit rfl rfl (by decide) fun h' tk tk' hd' hsb => ?_
    refine wpAny_execs_nil ⟨?_, rfl, ?_⟩
    · exact (Ext.evo (e₃.trans e₄)).trans ((evo_dx (es := []) (n := 0) (by exact hold) d4 hsb).weak fun b hb => .inr hb)
    · exact ⟨tk', (hsb.2 x hxd).trans x4, hd'⟩
  · rintro r s' ⟨v, rfl, ev, rfl, tk', hx', hd'⟩
    refine ⟨rfl, h x dx s' tk' ⟨fun b o e t _ => ev.keep b o (e0.keep b o e t fun h => h) t fun q => ?_, fun w => ev.wd (e0.wd w)⟩ hnx hnd hxd hx' hd'⟩
    have e' : hh.get? b = some o := e
    rw [q, hnd] at e'; cases e'
end
end Mine
end

section
open PySem PySem.W PyProof.Rows
open PySem.SeqAt
namespace Mine
noncomputable def isCodeO (o : Obj) : Prop := o.cls = .type "code" ∧ ∃ us, o.data = .fields us
theorem val_code {o : Obj} (h : o.cls = .type "code") : Obj.val o := ⟨(fun q => by have q1 := q.1; rw [h] at q1; cases q1), fun ⟨⟨T, hm, e⟩, _⟩ => by
  rw [h] at e; injection e with e; subst e; revert hm; decide⟩
theorem val_cell {o : Obj} {v} (h : o.data = .cell v) : Obj.val o := ⟨(fun q => by obtain ⟨_, us, e⟩ := q; rw [h] at e; cases e), fun ⟨_, us, e⟩ => by rw [h] at e; cases e⟩
noncomputable def dE (w : World) (n : Str) (tk : Tok) (v : Value) : DictEntry := { hash := PyData.keyHash w.params n, key := .str n tk, val := v }

section
variable {prog : Program} {w : World} {s₁ : Shared} {lm : Addr × Addr} {cs : List (Addr × Addr)} {q : Str} {mg mb : Str → Option Value} {K : Frag} {C fI fP : Addr}
/-- what making a page gives -/
noncomputable def PageEnd (G : Wo) (C : Addr) (pm : Value) (L1 L2 : Lam) (R : List (List Nat)) (P : Addr → Prop) (v : Value) (s' : Shared) : Prop :=
  ∃ x os, v = .ref x ∧ PageOk C pm L1 L2 os x R ∧ ∀ p ∈ os, (P p.1 ∨ isCodeO p.2) ∧ Obj.val p.2 ∧ s'.heap.get? p.1 = some p.2

theorem page_fn (X : Tabs s₁.heap (lm :: cs)) (g : Gl (woP prog w s₁ lm cs q) mg mb) (BM : BMain s₁.heap mg) (XK : K.In s₁.heap) (hT : ∀ a o, K.lookup a = some o → ¬ (woP prog w s₁ lm cs q).Tb a) (kc : Kls K C fI) (hkeep : keepIn K (.ref C) = true) (hgC : mg "Rstrip" = some (.ref C))
    {qI : Str} {scI : Scope} {cdI : Value} {p1 p2 p3 p4 : Pos} (DI : FnDef (woP prog w s₁ lm cs q) fI qI ["self", "editwin"] [.Assign [.Attribute (.Name "self" p1) "editwin" p2] (.Name "editwin" p3) p4] scI cdI)
    (hsI : ∀ P h₀ k, swapsWith (.Name "editwin" p3) (some (.Attribute (.Name "self" p1) "editwin" p2)) p4.line (fnCx (woP prog w s₁ lm cs q) P h₀ qI scI fI cdI [] k).env = pure false)
    {L1 L2 : Lam} {a1 a2 a3 a4 a5 b1 b2 b3 b4 c1 c2 c3 c4 d1 d2 : Pos} {kn : Nat} {scP : Scope} {qP : Str}
    (DP : FnDef (woP prog w s₁ lm cs q) fP qP ["rows"] [.Assign [.Name "page" a1] (.Call (.Name "Rstrip" a2) [.Constant .none kn a3] [] a4) a5, .Assign [.Attribute (.Name "page" b1) "get" b2] (.Lambda L1.params L1.body L1.scope b3) b4,
      .Assign [.Attribute (.Name "page" c1) "compare" c2] (.Lambda L2.params L2.body L2.scope c3) c4, .Return (some (.Name "page" d1)) d2] scP (.ref lm.1))
    (hq1 : L1.qual = q) (hq2 : L2.qual = q)
    (hs1 : ∀ P h₀ k, swapsWith (.Call (.Name "Rstrip" a2) [.Constant .none kn a3] [] a4) (some (.Name "page" a1)) a5.line (fnCx (woP prog w s₁ lm cs q) P h₀ qP scP fP (.ref lm.1) [] k).env = pure false)
    (hs2 : ∀ P h₀ k, swapsWith (.Lambda L1.params L1.body L1.scope b3) (some (.Attribute (.Name "page" b1) "get" b2)) b4.line (fnCx (woP prog w s₁ lm cs q) P h₀ qP scP fP (.ref lm.1) [] k).env = pure false)
    (hs3 : ∀ P h₀ k, swapsWith (.Lambda L2.params L2.body L2.scope c3) (some (.Attribute (.Name "page" c1) "compare" c2)) c4.line (fnCx (woP prog w s₁ lm cs q) P h₀ qP scP fP (.ref lm.1) [] k).env = pure false)
    (hrows : scP.names.lookup ("rows" : Str) = some NameKind.cell) (hpage : scP.names.lookup ("page" : Str) = some NameKind.local) (hR : scP.names.lookup ("Rstrip" : Str) = some NameKind.globalImplicit)
    (hcells : ∀ P h₀ k, (fnCx (woP prog w s₁ lm cs q) P h₀ qP scP fP (.ref lm.1) [] k).env.cells.lookup ("rows" : Str) = some (h₀.objs.size + 1))
    (hcl1 : ∀ P h₀ k, closureFor L1.scope (fnCx (woP prog w s₁ lm cs q) P h₀ qP scP fP (.ref lm.1) [] k).env = pure [(("rows" : Str), h₀.objs.size + 1)])
    (hcl2 : ∀ P h₀ k, closureFor L2.scope (fnCx (woP prog w s₁ lm cs q) P h₀ qP scP fP (.ref lm.1) [] k).env = pure [(("rows" : Str), h₀.objs.size + 1)])
    (hql : qP ++ ".<locals>." ++ "<lambda>" = q) (hd1 : ∀ env, defaultsOf L1.params env = ([], [])) (hd2 : ∀ env, defaultsOf L2.params env = ([], []))
    {A : Around} {k : Nat} (ha : AOk (k + 4) A) {s : Shared} (wd : Wd (woP prog w s₁ lm cs q) s) {P : Addr → Prop} (hP : ∀ a, s.heap.get? a = none → P a) {v : Value} {R : List (List Nat)} (r : Rep s.heap P (.list (SS R)) v) (hz : R.length ≤ 100000) :
    codeAny (model prog w) A (.call (.ref fP) ⟨[v], []⟩) (fun r s' => ∃ u, r = .ok (.ret u) ∧ Ext (woP prog w s₁ lm cs q) s s' ∧ PageEnd (woP prog w s₁ lm cs q) C ((mg "__name__").getD .none) L1 L2 R P u s') s := by
  refine fn_enter g DP [] (k + 3) ⟨rfl, fun _ _ => rfl⟩ ha wd hP (RepAll.one r) rfl (Rf := fun u s' => PageEnd (woP prog w s₁ lm cs q) C ((mg "__name__").getD .none) L1 L2 R P u s') (fun _ => False) fun ok A' s₂ ha₂ st₂ keep₂ => ?_
  -- the rows
  obtain ⟨va, hva, _, hra⟩ := st₂.vars "rows" (.list (SS R)) rfl
  have hra := hra (fun q => nomatch q)
  simp only [Rep] at hra
  obtain ⟨la, vs, n, rfl, hQla, hla, hreps, _⟩ := hra
  obtain ⟨clv, hclv, oc, hoc, hocd⟩ : ∃ a, (fnCx (woP prog w s₁ lm cs q) P s.heap qP scP fP (.ref lm.1) [] (k + 3)).env.cells.lookup ("rows" : Str) = some a ∧ s₂.heap.IsCell a (some (.ref la)) := by
    rcases hva with ⟨kd, _⟩ | ⟨_, a, h1, h2⟩
    · have : scP.names.lookup ("rows" : Str) = some NameKind.local := kd
      rw [hrows] at this; cases this
    · exact ⟨a, h1, h2⟩
  rw [hcells] at hclv
  injection hclv with hclv
  subst hclv
  have kget : ∀ {s' s'' : Shared} {Y : Addr → Prop}, Evo (woP prog w s₁ lm cs q) Y s' s'' → Wd (woP prog w s₁ lm cs q) s' → ∀ {a : Addr} {o : Obj}, s'.heap.get? a = some o → Obj.val o → ¬ Y a → s''.heap.get? a = some o := fun {s' s'' Y} ev w' {a o} e hv n => Evo.at ev w' e hv n
  have vcell : Obj.val oc := val_cell hocd
  have vlist : Obj.val { cls := .type "list", dict := none, data := .seq vs n, slots := #[] } := Obj.val_cls (T := "list") rfl (by decide)
  -- page = Rstrip(None)
  refine wpAny_execs_cons (wpAny_Assign_Name ?_ (hs1 _ _ _))
  rw [eval_Call_Name]
  refine wpAny_bind (load_global ok g hR hgC rfl st₂.wd ?_)
  refine callWith_K (h₀ := s₂.heap) (frag_in XK hT st₂.wd) hkeep ?_
  refine Calls.spliced_cons ((Ev_none (b := true) (k := kn) (pos := a3)).use ha₂ st₂ fun v₀ s₃ e₃ st₃ r₃ => Calls.spliced_nil ⟨frag_in XK hT st₃.wd, ?_⟩)
  simp only [Rep] at r₃
  subst r₃
  refine make_page (k := k + 1) g XK hT kc DI hsI ha₂ st₃.wd fun x dx s₄ tk₀ e₄ hnx hnd hxd hx₄ hd₄ => ?_
  have st₄ := st₃.ext e₄
  refine st₄.storing ok (.inl hpage) fun s₅ e₅ hl₅ hns₅ hmc₅ hv₅ hy₅ => ?_
  have x_s2 : s₂.heap.get? x = none := dead_back st₂.wd st₃ (Ext.evo e₃) (fun _ h => h) hnx
  have d_s2 : s₂.heap.get? dx = none := dead_back st₂.wd st₃ (Ext.evo e₃) (fun _ h => h) hnd
  have notXs : ∀ a, s₂.heap.get? a = none → ¬ (fnCx (woP prog w s₁ lm cs q) P s.heap qP scP fP (.ref lm.1) [] (k + 3)).Xs a := fun a h qx => by
    rcases qx with qx | qx
    · obtain ⟨m, o, _, _, hL, _⟩ := st₂.ns
      rw [← qx, h] at hL; cases hL
    · obtain ⟨vv, o, hc, _⟩ := st₂.mcs a qx
      rw [h] at hc; cases hc
  have w₅ := e₅.wd st₄.wd
  have x₅ := kget e₅ st₄.wd hx₄ (val_of_ref rfl) (notXs x x_s2)
  have vdict : ∀ es n, Obj.val (dictOf es n) := fun es n => Obj.val_cls (T := "dict") rfl (by decide)
  have d₅ := kget e₅ st₄.wd hd₄ (vdict _ _) (notXs dx d_s2)
  have hold : s₁.heap.get? dx = none := st₂.wd.dead (a := dx) d_s2
  have hLdx : (fnCx (woP prog w s₁ lm cs q) P s.heap qP scP fP (.ref lm.1) [] (k + 3)).L ≠ dx := fun e => notXs dx d_s2 (.inl e.symm)
  have pv₅ : LocalIs s₅ (fnCx (woP prog w s₁ lm cs q) P s.heap qP scP fP (.ref lm.1) [] (k + 3)).L "page" (.ref x) := by
    rcases hv₅ with ⟨_, h⟩ | ⟨kd, _⟩
    · exact h
    · have kd' : scP.names.lookup ("page" : Str) = some NameKind.cell ∨ scP.names.lookup ("page" : Str) = some NameKind.free := kd
      rw [hpage] at kd'; rcases kd' with h | h <;> cases h
  have locKeep : ∀ {s' s'' : Shared} {Y : Addr → Prop}, Evo (woP prog w s₁ lm cs q) Y s' s'' → Wd (woP prog w s₁ lm cs q) s' → ¬ Y (fnCx (woP prog w s₁ lm cs q) P s.heap qP scP fP (.ref lm.1) [] (k + 3)).L →
      LocalIs s' (fnCx (woP prog w s₁ lm cs q) P s.heap qP scP fP (.ref lm.1) [] (k + 3)).L "page" (.ref x) → LocalIs s'' (fnCx (woP prog w s₁ lm cs q) P s.heap qP scP fP (.ref lm.1) [] (k + 3)).L "page" (.ref x) := fun {s' s'' Y} ev w' n ⟨m, hm, hx⟩ => ⟨m, w'.ns_keep ev n hm, hx⟩
  -- page.get = lambda ..
  refine wpAny_execs_cons (plainObj_wpAny_Assign_Attribute (lam_make X g BM rfl rfl (hcl1 _ _ _) hql (hd1 _) w₅ fun f₁ c₁ oc₁ us₁ t₁ ct₁ h₆ tk₆ e₆ nf₁ hf₁ hc₁ kc₁ dc₁ uc₁ => ?_) (hs2 _ _ _))
  have w₆ := e₆.wd w₅
  have pv₆ := locKeep e₆ w₅ (fun h => h) pv₅
  refine wpAny_Name (loadVar ok (.inl ⟨hpage, pv₆⟩) ?_ (by decide)) (by decide)
  have x₆ := kget e₆ w₅ x₅ (val_of_ref rfl) (fun h => h)
  have d₆ := kget e₆ w₅ d₅ (vdict _ _) (fun h => h)
  refine set_attr (frag_in XK hT w₆) kc x₆ d₆ kc.get rfl rfl (by simp) fun h₇ tk₇ tk₇' hd₇ hsb₇ => ?_
  have e₇ : Evo (woP prog w s₁ lm cs q) (fun a => a = dx) { s₅ with heap := h₆, toks := tk₆ } { s₅ with heap := h₇, toks := tk₇ } := evo_dx (s := { s₅ with heap := h₆, toks := tk₆ }) (tk := tk₇) hold d₆ hsb₇
  have w₇ := e₇.wd w₆
  have f₁dx : f₁ ≠ dx := fun e => by rw [e, d₅] at nf₁; cases nf₁
  have c₁dx : c₁ ≠ dx := fun e => by have h2 := d₆; rw [← e] at h2; have h3 := Option.some.inj (hc₁.symm.trans h2); rw [h3] at kc₁; exact absurd kc₁ (by simp)
  have x₇ : h₇.get? x = some (instObj C dx) := (hsb₇.2 x hxd).trans x₆
  have pv₇ := locKeep e₇ w₆ hLdx pv₆
  have vf : ∀ {qq : Str} {pp bb sc cl pm cc ct}, Obj.val (kla_obj "<lambda>" qq pp bb sc cl pm cc ct) := Obj.val_cls (T := "function") rfl (by decide)
  have f₁₇ := (hsb₇.2 f₁ f₁dx).trans hf₁
  have c₁₇ := (hsb₇.2 c₁ c₁dx).trans hc₁
  -- page.compare = lambda ..
  refine wpAny_execs_cons (plainObj_wpAny_Assign_Attribute (lam_make X g BM rfl rfl (hcl2 _ _ _) hql (hd2 _) w₇ fun f₂ c₂ oc₂ us₂ t₂ ct₂ h₈ tk₈ e₈ nf₂ hf₂ hc₂ kc₂ dc₂ uc₂ => ?_) (hs3 _ _ _))
  have w₈ := e₈.wd w₇
  have pv₈ := locKeep e₈ w₇ (fun h => h) pv₇
  refine wpAny_Name (loadVar ok (.inl ⟨hpage, pv₈⟩) ?_ (by decide)) (by decide)
  have x₈ := kget e₈ w₇ (o := instObj C dx) x₇ (val_of_ref rfl) (fun h => h)
  have d₈ := kget e₈ w₇ hd₇ (vdict _ _) (fun h => h)
  refine set_attr (frag_in XK hT w₈) kc x₈ d₈ kc.cmp rfl rfl (by simp) fun h₉ tk₉ tk₉' hd₉ hsb₉ => ?_
  have e₉ : Evo (woP prog w s₁ lm cs q) (fun a => a = dx) { s₅ with heap := h₈, toks := tk₈ } { s₅ with heap := h₉, toks := tk₉ } := evo_dx (s := { s₅ with heap := h₈, toks := tk₈ }) (tk := tk₉) hold d₈ hsb₉
  have f₂dx : f₂ ≠ dx := fun e => by have h7 : h₇.get? f₂ = none := nf₂; rw [e, hd₇] at h7; cases h7
  have c₂dx : c₂ ≠ dx := fun e => by have h2 := d₈; rw [← e] at h2; have h3 := Option.some.inj (hc₂.symm.trans h2); rw [h3] at kc₂; exact absurd kc₂ (by simp)
  have x₉ : h₉.get? x = some (instObj C dx) := (hsb₉.2 x hxd).trans x₈
  have w₉ := e₉.wd w₈
  have pv₉ := locKeep e₉ w₈ hLdx pv₈
  have f₁₉ : h₉.get? f₁ = _ := (hsb₉.2 f₁ f₁dx).trans (kget e₈ w₇ f₁₇ vf (fun h => h))
  have c₁₉ : h₉.get? c₁ = _ := (hsb₉.2 c₁ c₁dx).trans (kget e₈ w₇ c₁₇ (val_code kc₁) (fun h => h))
  have f₂₉ : h₉.get? f₂ = _ := (hsb₉.2 f₂ f₂dx).trans hf₂
  have c₂₉ : h₉.get? c₂ = _ := (hsb₉.2 c₂ c₂dx).trans hc₂
  -- the whole way
  have evo59 : Evo (woP prog w s₁ lm cs q) (fun a => a = dx) s₅ { s₅ with heap := h₉, toks := tk₉ } := ((Ext.evo e₆).trans e₇).trans ((Ext.evo e₈).trans e₉)
  have evo29 : Evo (woP prog w s₁ lm cs q) (fun a => (fnCx (woP prog w s₁ lm cs q) P s.heap qP scP fP (.ref lm.1) [] (k + 3)).Xs a) s₂ { s₅ with heap := h₉, toks := tk₉ } := by
    refine ⟨fun b o e t nX => ?_, fun wx => evo59.wd (e₅.wd (e₄.wd (e₃.wd wx)))⟩
    have h5 := e₅.keep b o (e₄.keep b o (e₃.keep b o e t (fun h => h)) t (fun h => h)) t nX
    exact evo59.keep b o h5 t (fun qq => by rw [qq, d_s2] at e; cases e)
  have hcellne : s.heap.objs.size + 1 ≠ dx := fun e => by rw [e, d_s2] at hoc; cases hoc
  -- the cell and the list are kept
  obtain ⟨oc5, cell₅, hocd5⟩ : ∃ o5, s₅.heap.get? (s.heap.objs.size + 1) = some o5 ∧ o5.data = .cell (some (.ref la)) := by
    have v5 := hy₅ "rows" (.ref la) (by decide) (VarAt.ext st₃ e₄ (VarAt.ext st₂ e₃ hva))
    rcases v5 with ⟨kd, _⟩ | ⟨_, a, h1, o5, h2, h3⟩
    · have : scP.names.lookup ("rows" : Str) = some NameKind.local := kd
      rw [hrows] at this; cases this
    · rw [hcells] at h1; injection h1 with h1; subst h1
      exact ⟨o5, h2, h3⟩
  have cell₉ : h₉.get? (s.heap.objs.size + 1) = some oc5 := evo59.at w₅ cell₅ (val_cell hocd5) hcellne
  have la_ne : la ≠ dx := fun e => by rw [e] at hla; have h2 : s₂.heap.get? dx = _ := hla; rw [d_s2] at h2; cases h2
  have la₉ : h₉.get? la = some { cls := .type "list", dict := none, data := .seq vs n, slots := #[] } := evo29.at st₂.wd hla vlist (fun qx => Cx.Q_notX (Cx.Q_iff.mpr (Cx.Q_iff.mp hQla)) (Cx.Xs_X qx))
  refine wpAny_execs_cons (wpAny_Return_some (wpAny_Name (loadVar ok (.inl ⟨hpage, pv₉⟩) ?_ (by decide)) (by decide)))
  refine ⟨evo29.weak fun b hb => .inl (Cx.Xs_X hb), x, [(x, instObj C dx), (dx, dictOf [edEntry w tk₀, dE w "get" tk₇' (.ref f₁), dE w "compare" tk₉' (.ref f₂)] 3),
    (f₁, kla_obj "<lambda>" L1.qual L1.params L1.body L1.scope [("rows", s.heap.objs.size + 1)] ((mg "__name__").getD .none) c₁ ct₁), (f₂, kla_obj "<lambda>" L2.qual L2.params L2.body L2.scope [("rows", s.heap.objs.size + 1)] ((mg "__name__").getD .none) c₂ ct₂),
    (c₁, oc₁), (c₂, oc₂), (s.heap.objs.size + 1, oc5), (la, { cls := .type "list", dict := none, data := .seq vs n, slots := #[] })], rfl, ?_, ?_⟩
  · refine ⟨dx, _, f₁, f₂, c₁, c₂, oc₁, oc₂, ct₁, ct₂, s.heap.objs.size + 1, oc5, la, vs, n, .head _, .tail _ (.head _), rfl, rfl, .tail _ (.tail _ (.head _)), .tail _ (.tail _ (.tail _ (.head _))), ⟨.tail _ (.tail _ (.tail _ (.tail _ (.head _)))), us₁, t₁, dc₁, ?_⟩, ⟨.tail _ (.tail _ (.tail _ (.tail _ (.tail _ (.head _))))), us₂, t₂, dc₂, ?_⟩, .tail _ (.tail _ (.tail _ (.tail _ (.tail _ (.tail _ (.head _)))))), hocd5, .tail _ (.tail _ (.tail _ (.tail _ (.tail _ (.tail _ (.tail _ (.head _))))))), fun h' P' => RepAll.flats (SS_flats R) hreps, hz⟩
    · rw [hq1]; exact uc₁
    · rw [hq2]; exact uc₂
  · have newP : ∀ a, s.heap.get? a = none → P a := hP
    have dead : ∀ a, s₂.heap.get? a = none → s.heap.get? a = none := fun a h => by
      cases e : s.heap.get? a with
      | none => rfl
      | some o =>
        by_cases t : (woP prog w s₁ lm cs q).Tb a
        · obtain ⟨o', e', _⟩ := st₂.wd.tb a t
          rw [h] at e'; cases e'
        · rw [keep₂ a o e t] at h; cases h
    have dead52 : ∀ a, s₅.heap.get? a = none → s₂.heap.get? a = none := fun a h => by
      cases e : s₂.heap.get? a with
      | none => rfl
      | some o =>
        exfalso
        have w4 := st₄.wd
        by_cases t : (woP prog w s₁ lm cs q).Tb a
        · obtain ⟨o', e', _⟩ := w₅.tb a t
          rw [h] at e'; cases e'
        · by_cases hX : (fnCx (woP prog w s₁ lm cs q) P s.heap qP scP fP (.ref lm.1) [] (k + 3)).Xs a
          · rcases hX with hX | hX
            · obtain ⟨m, o', _, _, hL, _⟩ := hns₅
              rw [hX, hL] at h; cases h
            · obtain ⟨vv, o', hc, _⟩ := hmc₅ a hX
              rw [h] at hc; cases hc
          · rw [e₅.keep a o (e₄.keep a o (e₃.keep a o e t (fun h => h)) t (fun h => h)) t hX] at h; cases h
    have dead75 : ∀ a, h₇.get? a = none → s₅.heap.get? a = none := fun a h => by
      cases e : s₅.heap.get? a with
      | none => rfl
      | some o =>
        exfalso
        by_cases t : (woP prog w s₁ lm cs q).Tb a
        · obtain ⟨o', e', _⟩ := w₇.tb a t
          have e'' : h₇.get? a = some o' := e'
          rw [h] at e''; cases e''
        · by_cases hX : a = dx
          · rw [hX, hd₇] at h; cases h
          · have := e₇.keep a o (e₆.keep a o e t (fun h => h)) t hX
            have e'' : h₇.get? a = some o := this
            rw [h] at e''; cases e''
    intro p hp
    simp only [List.mem_cons, List.not_mem_nil, or_false] at hp
    rcases hp with rfl | rfl | rfl | rfl | rfl | rfl | rfl | rfl
    · exact ⟨.inl (newP _ (dead _ x_s2)), val_of_ref rfl, x₉⟩
    · exact ⟨.inl (newP _ (dead _ d_s2)), vdict _ _, hd₉⟩
    · exact ⟨.inl (newP _ (dead _ (dead52 _ nf₁))), vf, by rw [hq1]; exact f₁₉⟩
    · exact ⟨.inl (newP _ (dead _ (dead52 _ (dead75 _ nf₂)))), vf, by rw [hq2]; exact f₂₉⟩
    · exact ⟨.inr ⟨kc₁, us₁, dc₁⟩, val_code kc₁, c₁₉⟩
    · exact ⟨.inr ⟨kc₂, us₂, dc₂⟩, val_code kc₂, c₂₉⟩
    · exact ⟨.inl (newP _ (Heap.get?_none_of_le (Nat.le_succ _))), val_cell hocd5, cell₉⟩
    · exact ⟨.inl hQla.1.1, vlist, la₉⟩
end
end Mine
end

section
open PySem PySem.W PyProof.Rows
open PySem.SeqAt
namespace Mine
structure PgFn (G : Wo) (k : Nat) (fa C : Addr) (pm : Value) (L1 L2 : Lam) : Prop where
  run : ∀ (A : Around) (s : Shared) (P : Addr → Prop) (v : Value) (R : List (List Nat)), AOk k A → Wd G s → (∀ a, s.heap.get? a = none → P a) → Rep s.heap P (.list (SS R)) v → R.length ≤ 100000 →
    codeAny G.M A (.call (.ref fa) ⟨[v], []⟩) (fun r s' => ∃ u, r = .ok (.ret u) ∧ Ext G s s' ∧ PageEnd G C pm L1 L2 R P u s') s
section
variable {c : Cx} {ρ : Env1} {mg mb : Str → Option Value} {Q : PF → Env1 → Prop} {C fa : Addr} {pm : Value} {L1 L2 : Lam}
theorem pg_rep {T : Own1} {s : Shared} (st : St c ρ T s) (hP : ∀ a, c.P a) (hav : c.av = []) {os : List (Addr × Obj)} {x : Addr} (h : ∀ p ∈ os, (c.Qb T true p.1 ∨ isCodeO p.2) ∧ Obj.val p.2 ∧ s.heap.get? p.1 = some p.2) : Rep s.heap (c.Qb T true) (.raw os (.ref x)) (.ref x) := by
  simp only [Rep]
  refine ⟨trivial, fun p hp => ?_⟩
  obtain ⟨h1, h2, h3⟩ := h p hp
  refine ⟨h1.elim id fun ⟨q1, us, q2⟩ => Cx.Q_iff.mp ⟨⟨hP _, fun e => ?_, fun e => ?_, fun e => ?_⟩, fun t ht e => ?_⟩, h2, h3⟩
  · obtain ⟨m, o, _, _, hL, hd, _⟩ := st.ns
    rw [← e, h3] at hL; cases hL; rw [q2] at hd; cases hd
  · obtain ⟨v, o, hc, hd⟩ := st.mcs _ e
    rw [h3] at hc; cases hc; rw [q2] at hd; cases hd
  · rw [hav] at e; cases e
  · obtain ⟨_, vs, n, l⟩ := st.own t ht
    have l' : s.heap.get? t.2 = _ := l
    rw [← e, h3] at l'; have l2 := Option.some.inj l'; rw [l2] at q2; cases q2
/-- page = _law_page(rows) -/
theorem Ex1_page (ok : c.Ok) (g : Gl c.G mg mb) (hP : ∀ a, c.P a) (hav : c.av = []) {f y : Str} {py p pos spos : Pos} {e : Expr} {R : List (List Nat)} {k : Nat} (hk : c.env.kindOf f = some .globalImplicit) (hf : FnAt c.G mg f fa) (hp : plainName f = true) (F : PgFn c.G k fa C pm L1 L2) (hle : k ≤ c.rk)
    (h : Ev c ρ true e (.list (SS R))) (hs : noStar e = true) (hz : R.length ≤ 100000) (hq : ∀ os x, PageOk C pm L1 L2 os x R → Q .next ((y, .raw os (.ref x)) :: ρ)) (hky : storable c y = true) (hoy : c.own.contains y = false)
    (hsw : swapsWith (.Call (.Name f p) [e] [] pos) (some (.Name y py)) spos.line c.env = pure false) : Ex1 c ρ (.Assign [.Name y py] (.Call (.Name f p) [e] [] pos) spos) Q := .mk fun A T s ha st => by
  refine wpAny_Assign_Name ?_ hsw
  rw [eval_Call_Name]
  refine wpAny_bind (load_global ok g hk hf.glob hp st.wd ?_)
  obtain ⟨o, fd, ho, hod⟩ := hf.obj
  have hL : EvL c ρ true [e] [.list (SS R)] := .cons h hs .nil
  refine Calls.callWith_function (o := o) (fd := fd) (evalArgs_ev hL ha st fun vs s₁ e₁ st₁ r => ⟨⟨st₁.wd.old _ _ ho (g.tb _ _ ho (not_codeLike_func hod)), hod⟩, ?_⟩)
  simp only [RepAll] at r
  obtain ⟨v, _, rfl, rv, rfl⟩ := r
  refine wpAny_call (codeAny_mono (F.run A s₁ (c.Qb T true) v R (ha.mono hle) st₁.wd (fun a hn => Cx.Qb_of (st₁.newP ok hn)) rv hz) ?_)
  rintro r s' ⟨u, rfl, e', x, os, rfl, pg, hos⟩
  have st' := st₁.ext e'
  have rp := pg_rep (x := x) st' hP hav hos
  refine st'.store ok (storable_spec hky) (fun q => by rw [List.contains_iff_mem.mpr q] at hoy; cases hoy) (rp.weak fun _ q => Cx.Q_iff.mpr q) fun s'' e'' st'' => ?_
  exact ⟨_, T, .next, st'', (Ext.evo (e₁.trans e')).trans (e''.weak fun _ => Cx.Xs_X), TGrow.refl, trivial, hq os x pg⟩
end

/-! ### a function that is called by the top alone -/
structure FnT (G : Wo) (k : Nat) (fa : Addr) (f : List PV → PV → Prop) : Prop where
  run : ∀ (A : Around) (s : Shared) (vs : List Value) (ds : List PV) (d : PV), AOk k A → Wd G s → RepAll s.heap (fun _ => True) ds vs → f ds d →
    codeAny G.M A (.call (.ref fa) ⟨vs, []⟩) (fun r s' => ∃ v, r = .ok (.ret v) ∧ Ext G s s' ∧ Rep s'.heap (fun _ => True) d v) s
theorem FnT_of {G : Wo} {mg mb : Str → Option Value} (g : Gl G mg mb) {fa : Addr} {qual : Str} {params : List Str} {body : List Stmt} {scope : Scope} {cd : Value} (D : FnDef G fa qual params body scope cd) (own : List Str) (k : Nat) {f : List PV → PV → Prop}
    (hown : (own.contains Str.empty = false ∧ ∀ x ∈ params, own.contains x = false)) (hfl : ∀ ds d, f ds d → ds.length = params.length)
    (h : ∀ (h₀ : Heap) (ds : List PV) (d : PV), (fnCx G (fun _ => True) h₀ qual scope fa cd own k).Ok → f ds d →
      Ex (fnCx G (fun _ => True) h₀ qual scope fa cd own k) (params.zip ds).reverse body (fun pf _ => match pf with | .ret d' => d' = d | _ => d = .none)) : FnT G (k + 1) fa f := by
  refine .mk fun A s vs ds d ha w r hfd => ?_
  refine fn_enter g D own k hown ha w (fun _ _ => trivial) r (hfl ds d hfd) (Rf := fun v s' => Rep s'.heap (fun _ => True) d v) (fun _ => False) fun ok A' s₂ ha₂ st₂ _ => ?_
  refine wpAny_mono ((h s.heap ds d ok hfd).run A' [] s₂ ha₂ st₂) (fun fl s₃ ⟨ρ', T', pf, st₃, e₃, g₃, f₃, q₃⟩ => ⟨e₃.weak fun _ hb => .inl hb, ?_⟩) fun _ _ x => x
  cases fl with
  | ret v => cases pf <;> simp [FlOk] at f₃; subst q₃; exact f₃
  | next => cases pf <;> simp [FlOk] at f₃; subst q₃; simp only [Rep]
  | brk => cases pf <;> simp [FlOk] at f₃; subst q₃; simp only [Rep]
  | cont => cases pf <;> simp [FlOk] at f₃; subst q₃; simp only [Rep]

theorem law_doneP {l : OpenLaw} {w : World} {s₁ : Shared} {lm : Addr × Addr} {cs : List (Addr × Addr)} {qq : Str} (X : Tabs s₁.heap (lm :: cs)) (hem : s₁.heap.TableAt lm.1 lm.2 #[]) {k : Nat} {fa a : Addr} {ns : List Int} {cl : Str → Option Addr} {mean : ExcName → Option Value} (F : FnT (woP l.row.prog w s₁ lm cs qq) k fa LawF) (hk : k ≤ 300) (hg : s₁.gens = #[])
    (hw : Well w.params s₁.heap (.ref a) (ofPy (.list (ns.map PyData.int)))) (hn : ns.length ≤ 63) :
    wpAny (model l.row.prog w) callerA ((fun f vs => PySem.call f vs) (.ref fa) [.ref a]) (fun v s' => GoodWG l.row.claim cl mean [ofPy (.list (ns.map PyData.int))] s₁ (.ok (.ret v)) s')
      (fun e s' => GoodWG l.row.claim cl mean [ofPy (.list (ns.map PyData.int))] s₁ (.error e) s') s₁ := by
  refine enter_call ?_
  have r : RepAll s₁.heap (fun _ => True) [.list (ns.map .int)] [.ref a] := by
    rw [show ofPy (.list (ns.map PyData.int)) = .list (ofPys (ns.map PyData.int)) from rfl, ofPys_ints] at hw
    cases hw with
    | list hl hA =>
      refine RepAll.one ?_
      simp only [Rep]
      exact ⟨a, _, 0, rfl, trivial, hl, well_ints hA, by rw [sizeLine_is, List.length_map]; omega⟩
  refine codeAny_mono (F.run callerA s₁ [.ref a] _ _ (callerA_ok hk) (woP_wd X hem hg) r ⟨ns, hn, rfl, rfl⟩) ?_
  rintro res s' ⟨v, rfl, e, rv⟩
  simp only [Rep] at rv
  subst rv
  have w' := e.wd (woP_wd X hem hg)
  refine ⟨.inl ⟨_, .bool true, [], rfl, fun cls => rfl, .bool true, ?_, fun _ => ⟨List.nodup_nil, fun a h => nomatch h⟩⟩, ⟨fun b o h => ?_, fun b o h => ?_⟩, w'.os, w'.gens⟩
  · exact postW_of (by wrow_shape) (by wtm_val) (by w_fin)
  · by_cases tb : (woP l.row.prog w s₁ lm cs qq).Tb b
    · obtain ⟨p, hp, q⟩ := tb
      obtain ⟨ps₀, more, t₀, t, _⟩ := w'.tab.1 p hp
      rw [q, t₀.2] at h; cases h
      rw [q]
      exact .inr (.inl ⟨t₀.isCodeTable, rfl, ps₀, more, rfl, t.2⟩)
    · exact .inl (w'.old b o h tb)
  · by_cases tb : (woP l.row.prog w s₁ lm cs qq).Tb b
    · obtain ⟨o', e', _⟩ := w'.tb b tb
      exact ⟨o', e'⟩
    · exact ⟨o, w'.old b o h tb⟩

/-! ### rows of a page -/
noncomputable def rowAt (R : List (List Nat)) (k : Nat) : List Nat := if k = 0 then [] else R.getD (k - 1) []
noncomputable def hdr (l : List Nat) : List Nat := l.take (hdl l)
noncomputable def good (R : List (List Nat)) (h : List Nat) (k : Nat) : Bool := (hdr (rowAt R k) == h) && !isw ((rowAt R k).drop h.length)
noncomputable def txt (R : List (List Nat)) (a b : Nat) : List Nat := (((R.drop (a - 1)).take (b - a)).map (· ++ [10])).flatten
theorem rowAt_out {R : List (List Nat)} {k : Nat} (h : k = 0 ∨ R.length < k) : rowAt R k = [] := by
  unfold rowAt
  rcases h with rfl | h
  · rfl
  · rw [if_neg (by omega), List.getD_eq_getElem?_getD, List.getElem?_eq_none (by omega)]; rfl
theorem rowAt_in {R : List (List Nat)} {k : Nat} (h : 0 < k) (h' : k ≤ R.length) : R[k - 1]? = some (rowAt R k) := by
  unfold rowAt
  rw [if_neg (by omega), List.getD_eq_getElem?_getD, List.getElem?_eq_getElem (by omega)]; rfl
theorem isw_nil : isw [] = true := rfl
theorem good_out {R : List (List Nat)} {h : List Nat} {k : Nat} (hk : k = 0 ∨ R.length < k) : good R h k = false := by
  unfold good
  rw [rowAt_out hk]; simp [isw_nil]
theorem rowAt_len {R : List (List Nat)} {k n : Nat} (h : ∀ l ∈ R, l.length ≤ n) : (rowAt R k).length ≤ n := by
  by_cases hk : k = 0 ∨ R.length < k
  · rw [rowAt_out hk]; simp
  · exact h _ (List.mem_of_getElem? (rowAt_in (by omega) (by omega)))
structure FP (R : List (List Nat)) (a S F T : Nat) : Prop where
  aS : a ≤ S
  skip : ∀ j, a ≤ j → j < S → j ≤ R.length ∧ isw (rowAt R j) = true
  stand : ¬ (S ≤ R.length ∧ isw (rowAt R S) = true)
  ST : S ≤ T
  up : ∀ j, S ≤ j → j < T → good R (hdr (rowAt R S)) j = true
  stop : good R (hdr (rowAt R S)) T = false
  FS : F ≤ S
  F1 : 1 ≤ F
  dn : ∀ j, F ≤ j → j < S → good R (hdr (rowAt R S)) j = true
  top : good R (hdr (rowAt R S)) (F - 1) = false
theorem FP.S1 {R : List (List Nat)} {a S F T : Nat} (h : FP R a S F T) : 1 ≤ S := by have := h.FS; have := h.F1; omega
theorem FP.TR {R : List (List Nat)} {a S F T : Nat} (h : FP R a S F T) : T ≤ max S (R.length + 1) := by
  rcases Nat.lt_or_ge (max S (R.length + 1)) T with q | q
  · have := h.up (T - 1) (by omega) (by omega)
    rw [good_out (.inr (by omega))] at this; cases this
  · exact q
/-- what _law_get gives -/
noncomputable def getF (ds : List PV) (d : PV) : Prop := ∃ (R : List (List Nat)) (a b : Nat) (e : List Nat), ds = [.list (SS R), .str (mkS (m0 a)), .str (mkS e)] ∧ a < 10 ^ 10 ∧ b < 10 ^ 10 ∧ R.length ≤ 1000 ∧ (∀ l ∈ R, l.length ≤ 2000) ∧
  ((e = mEnd b ∧ d = .str (mkS (rowAt R a))) ∨ (e = m0 b ∧ 1 ≤ a ∧ a ≤ b ∧ d = .str (mkS (txt R a b))))
end Mine
end

section
open PySem PySem.W PyProof.Rows
open PySem.SeqAt
namespace Mine
/-! ### stretches of rows, in plain words -/
theorem least {p : Nat → Bool} : ∀ (n a : Nat), p (a + n) = true → ∃ k, a ≤ k ∧ k ≤ a + n ∧ p k = true ∧ ∀ j, a ≤ j → j < k → p j = false
  | 0, a, h => ⟨a, Nat.le_refl _, Nat.le_refl _, h, fun j h1 h2 => by omega⟩
  | n + 1, a, h => by
    cases ha : p a with
    | true => exact ⟨a, Nat.le_refl _, by omega, ha, fun j h1 h2 => by omega⟩
    | false =>
      obtain ⟨k, h1, h2, h3, h4⟩ := least n (a + 1) (by rw [show a + 1 + n = a + (n + 1) by omega]; exact h)
      refine ⟨k, by omega, by omega, h3, fun j j1 j2 => ?_⟩
      by_cases e : j = a
      · rw [e]; exact ha
      · exact h4 j (by omega) j2
theorem downto {p : Nat → Bool} (h0 : p 0 = false) : ∀ S : Nat, 1 ≤ S → ∃ F, 1 ≤ F ∧ F ≤ S ∧ p (F - 1) = false ∧ ∀ j, F ≤ j → j < S → p j = true
  | 0, h => by omega
  | 1, _ => ⟨1, Nat.le_refl _, Nat.le_refl _, h0, fun j h1 h2 => by omega⟩
  | S + 2, _ => by
    cases hp : p (S + 1) with
    | false => exact ⟨S + 2, by omega, Nat.le_refl _, hp, fun j h1 h2 => by omega⟩
    | true =>
      obtain ⟨F, h1, h2, h3, h4⟩ := downto h0 (S + 1) (by omega)
      refine ⟨F, h1, by omega, h3, fun j j1 j2 => ?_⟩
      by_cases e : j = S + 1
      · rw [e]; exact hp
      · exact h4 j j1 (by omega)
theorem fp_exists (R : List (List Nat)) (a : Nat) : ∃ S F T, FP R a S F T := by
  obtain ⟨S, h1, h2, h3, h4⟩ := least (p := fun k => !(decide (k ≤ R.length) && isw (rowAt R k))) (R.length + 1) a (by
    have : ¬ (a + (R.length + 1) ≤ R.length) := by omega
    simp [this])
  have hS : 1 ≤ S := by
    rcases Nat.eq_zero_or_pos S with e | e
    · subst e
      rw [rowAt_out (.inl rfl)] at h3; simp [isw_nil] at h3
    · exact e
  obtain ⟨T, t1, t2, t3, t4⟩ := least (p := fun k => !good R (hdr (rowAt R S)) k) (R.length + 1) S (by rw [good_out (.inr (by omega))]; rfl)
  obtain ⟨F, f1, f2, f3, f4⟩ := downto (p := good R (hdr (rowAt R S))) (good_out (.inl rfl)) S hS
  refine ⟨S, F, T, h1, fun j j1 j2 => ?_, fun q => ?_, t1, fun j j1 j2 => by simpa using t4 j j1 j2, by simpa using t3, f2, f1, f4, f3⟩
  · have := h4 j j1 j2
    simp only [Bool.not_eq_false', Bool.and_eq_true, decide_eq_true_eq] at this
    exact this
  · rw [decide_eq_true q.1, q.2] at h3; simp at h3
theorem FP.Sb {R : List (List Nat)} {a S F T : Nat} (fp : FP R a S F T) : S ≤ max a (R.length + 1) := by
  rcases Nat.lt_or_ge (max a (R.length + 1)) S with q | q
  · have := fp.skip (S - 1) (by omega) (by omega); omega
  · exact q
/-- the rows that are strange to it -/
noncomputable def strg (R : List (List Nat)) (H : List Nat) : List Nat := ((List.range R.length).map (· + 1)).filter fun k => !good R H k
theorem mem_strg {R : List (List Nat)} {H : List Nat} {k : Nat} : k ∈ strg R H ↔ 1 ≤ k ∧ k ≤ R.length ∧ good R H k = false := by
  unfold strg
  rw [List.mem_filter, List.mem_map]
  constructor
  · rintro ⟨⟨j, hj, rfl⟩, h⟩
    have := List.mem_range.mp hj
    exact ⟨by omega, by omega, by simpa using h⟩
  · rintro ⟨h1, h2, h3⟩
    exact ⟨⟨k - 1, List.mem_range.mpr (by omega), by omega⟩, by simpa using h3⟩
theorem FP.top_mem {R : List (List Nat)} {a S F T : Nat} (fp : FP R a S F T) : F - 1 = 0 ∨ F - 1 ∈ strg R (hdr (rowAt R S)) ∨ R.length < F - 1 := by
  by_cases h : F - 1 = 0
  · exact .inl h
  · by_cases h2 : F - 1 ≤ R.length
    · exact .inr (.inl (mem_strg.mpr ⟨by omega, h2, fp.top⟩))
    · exact .inr (.inr (by omega))
theorem FP.top_le {R : List (List Nat)} {a S F T k : Nat} (fp : FP R a S F T) (hk : k < S) (hg : good R (hdr (rowAt R S)) k = false) : k ≤ F - 1 := by
  rcases Nat.lt_or_ge (F - 1) k with q | q
  · rw [fp.dn k (by omega) hk] at hg; cases hg
  · exact q
theorem FP.stop_le {R : List (List Nat)} {a S F T k : Nat} (fp : FP R a S F T) (hk : S ≤ k) (hg : good R (hdr (rowAt R S)) k = false) : T ≤ k := by
  rcases Nat.lt_or_ge k T with q | q
  · rw [fp.up k hk q] at hg; cases hg
  · exact q
/-- where it begins -/
noncomputable def bgn (R : List (List Nat)) (a : Nat) : List Nat := ((List.range (R.length + 1 - max a 1)).map (max a 1 + ·)).filter fun k => !isw (rowAt R k)
theorem fp_bgn {R : List (List Nat)} {a S F T : Nat} (fp : FP R a S F T) : (S ≤ R.length ∧ ∃ r, bgn R a = S :: r) ∨ (S = max a (R.length + 1) ∧ bgn R a = []) := by
  have hS1 := fp.S1
  have haS := fp.aS
  unfold bgn
  by_cases h : S ≤ R.length
  · left
    refine ⟨h, ?_⟩
    have hne : isw (rowAt R S) = false := by
      cases q : isw (rowAt R S) with
      | false => rfl
      | true => exact absurd ⟨h, q⟩ fp.stand
    have e : R.length + 1 - max a 1 = (S - max a 1) + (R.length + 1 - S) := by omega
    rw [e, List.range_add, List.map_append, List.filter_append]
    have h1 : (((List.range (S - max a 1)).map (max a 1 + ·)).filter fun k => !isw (rowAt R k)) = [] := by
      rw [List.filter_eq_nil_iff]
      intro k hk
      obtain ⟨j, hj, rfl⟩ := List.mem_map.mp hk
      have := List.mem_range.mp hj
      have := (fp.skip (max a 1 + j) (by omega) (by omega)).2
      simp [this]
    rw [h1, List.nil_append, show R.length + 1 - S = (R.length - S) + 1 by omega, List.range_succ_eq_map]
    simp only [List.map_cons]
    rw [List.filter_cons_of_pos (by rw [show max a 1 + (S - max a 1 + 0) = S by omega, hne]; rfl), show max a 1 + (S - max a 1 + 0) = S by omega]
    exact ⟨_, rfl⟩
  · right
    have hb := fp.Sb
    refine ⟨?_, ?_⟩
    · rcases Nat.lt_or_ge a (R.length + 1) with q | q
      · omega
      · have : S ≤ max a (R.length + 1) := hb
        omega
    · rw [List.filter_eq_nil_iff]
      intro k hk
      obtain ⟨j, hj, rfl⟩ := List.mem_map.mp hk
      have := List.mem_range.mp hj
      have := (fp.skip (max a 1 + j) (by omega) (by omega)).2
      simp [this]
theorem strip_white (l : List Nat) : (rstr white (lstr white l) == []) = isw l := by
  unfold isw
  cases h : l.all white with
  | true =>
    have : lstr white l = [] := by
      unfold lstr
      induction l with
      | nil => rfl
      | cons x r ih =>
        rw [List.all_cons, Bool.and_eq_true] at h
        rw [List.dropWhile_cons_of_pos h.1, ih h.2]
    rw [this]; rfl
  | false =>
    obtain ⟨c, hc, hw⟩ := List.all_eq_false.mp h
    have hw' : white c = false := by simpa using hw
    have hm : c ∈ lstr white l := by
      unfold lstr
      induction l with
      | nil => cases hc
      | cons x r ih =>
        by_cases hx : white x = true
        · rw [List.dropWhile_cons_of_pos hx]
          rcases List.mem_cons.mp hc with rfl | hc
          · rw [hx] at hw'; cases hw'
          · refine ih ?_ hc
            rw [List.all_cons, hx, Bool.true_and] at h; exact h
        · rw [List.dropWhile_cons_of_neg hx]; exact hc
    have := rstr_ne hm hw'
    cases e : rstr white (lstr white l) with
    | nil => exact absurd e this
    | cons => rfl
end Mine
end

section
open PySem PySem.W PyProof.Rows
open PySem.SeqAt
namespace Mine
/-! ### tabs turned into blanks -/
theorem lead_rep {χ : Nat → Bool} {c : Nat} (h : χ c = true) (n : Nat) (r : List Nat) : lead χ (List.replicate n c ++ r) = n + lead χ r := by
  rw [lead_pass (fun x hx => by rw [List.eq_of_mem_replicate hx]; exact h), List.length_replicate]
theorem xt_blanks (k : Nat) : ∀ {i : List Nat} (r : List Nat) (col : Nat), (∀ c ∈ i, blank c = true) → ∃ n, xt k col i = List.replicate n 32 ∧ xt k col (i ++ r) = List.replicate n 32 ++ xt k (col + n) r
  | [], r, col, _ => ⟨0, rfl, rfl⟩
  | c :: i, r, col, h => by
    have hc := h c List.mem_cons_self
    have hi : ∀ x ∈ i, blank x = true := fun x hx => h x (List.mem_cons_of_mem _ hx)
    by_cases h9 : c = 9
    · obtain ⟨n, e1, e2⟩ := xt_blanks k r (col + (k - col % k)) hi
      refine ⟨(k - col % k) + n, ?_, ?_⟩
      · rw [xt, if_pos h9, e1, List.replicate_append_replicate]
      · rw [List.cons_append, xt, if_pos h9, e2, ← List.append_assoc, List.replicate_append_replicate, Nat.add_assoc]
    · have h32 : c = 32 := by
        unfold blank at hc
        simp only [Bool.or_eq_true, beq_iff_eq] at hc
        exact hc.resolve_right h9
      subst h32
      obtain ⟨n, e1, e2⟩ := xt_blanks k r (col + 1) hi
      refine ⟨1 + n, ?_, ?_⟩
      · rw [xt, if_neg h9, if_neg (by decide), e1, Nat.add_comm, List.replicate_succ]
      · rw [List.cons_append, xt, if_neg h9, if_neg (by decide), e2, Nat.add_comm 1 n, List.replicate_succ, show col + 1 + n = col + (n + 1) by omega]; rfl
theorem xt_hashes (k : Nat) : ∀ (h : Nat) (r : List Nat) (col : Nat), xt k col (List.replicate h 35 ++ r) = List.replicate h 35 ++ xt k (col + h) r
  | 0, r, col => rfl
  | h + 1, r, col => by
    rw [List.replicate_succ, List.cons_append, xt, if_neg (by decide), if_neg (by decide), xt_hashes k h r (col + 1), show col + 1 + h = col + (h + 1) by omega]; rfl
theorem isw_xt {k : Nat} (hk : 0 < k) : ∀ (l : List Nat) (col : Nat), isw (xt k col l) = isw l
  | [], _ => rfl
  | c :: l, col => by
    by_cases h9 : c = 9
    · rw [xt, if_pos h9]
      have h1 : isw (List.replicate (k - col % k) 32) = true := by
        unfold isw; rw [List.all_eq_true]; intro x hx; rw [List.eq_of_mem_replicate hx]; exact white32
      have h2 : isw (c :: l) = isw l := by unfold isw; rw [List.all_cons, h9, white9, Bool.true_and]
      unfold isw at h1 h2 ⊢
      rw [List.all_append, h1, Bool.true_and, h2]
      exact isw_xt hk l _
    · rw [xt, if_neg h9]
      unfold isw
      rw [List.all_cons, List.all_cons]
      congr 1
      exact isw_xt hk l _
theorem head_not {χ : Nat → Bool} (l : List Nat) : l.drop (lead χ l) = [] ∨ ∃ c r, l.drop (lead χ l) = c :: r ∧ χ c = false := by
  cases e : l.drop (lead χ l) with
  | nil => exact .inl rfl
  | cons c r =>
    right
    refine ⟨c, r, rfl, ?_⟩
    cases h : χ c with
    | false => rfl
    | true =>
      have := drop_lead χ l
      rw [e, lead_cons_pos h] at this; cases this
theorem take_lead_hash (l : List Nat) : l.take (lead hash l) = List.replicate (lead hash l) 35 := by
  apply List.eq_replicate_iff.mpr
  refine ⟨by rw [List.length_take]; have := lead_le hash l; omega, fun c hc => ?_⟩
  have := take_lead c hc
  unfold hash at this
  simpa using this
structure Row11 (w : Nat) (r : List Nat) (n h : Nat) (b : List Nat) : Prop where
  cols : (xt w 0 (r.take (lead blank r))).length = n
  hd : hdr r = r.take (lead blank r) ++ List.replicate h 35
  hl : hdl r = lead blank r + h
  no35 : (r.drop (hdl r)).take 1 ≠ [35]
  noB : (r.drop (lead blank r)).take 1 ≠ [32] ∧ (r.drop (lead blank r)).take 1 ≠ [9]
  bhd : hdr b = List.replicate n 32 ++ List.replicate h 35
  brest : isw (b.drop (hdr b).length) = isw (r.drop (hdl r))
theorem row11 {w : Nat} (hw : 0 < w) (r : List Nat) : ∃ n h, Row11 w r n h (xt w 0 r) := by
  obtain ⟨i, hi⟩ : ∃ i, r.take (lead blank r) = i := ⟨_, rfl⟩
  obtain ⟨q, hq⟩ : ∃ q, r.drop (lead blank r) = q := ⟨_, rfl⟩
  have hr : r = i ++ q := by rw [← hi, ← hq, List.take_append_drop]
  have hib : ∀ c ∈ i, blank c = true := by rw [← hi]; exact fun c hc => take_lead c hc
  have hil : i.length = lead blank r := by rw [← hi, List.length_take]; have := lead_le blank r; omega
  obtain ⟨h, hh⟩ : ∃ h, lead hash q = h := ⟨_, rfl⟩
  obtain ⟨z, hz⟩ : ∃ z, q.drop h = z := ⟨_, rfl⟩
  have hq2 : q = List.replicate h 35 ++ z := by rw [← hz, ← hh, ← take_lead_hash, List.take_append_drop]
  obtain ⟨n, e1, e2⟩ := xt_blanks w q 0 hib
  have hb : xt w 0 r = List.replicate n 32 ++ (List.replicate h 35 ++ xt w (0 + n + h) z) := by
    rw [hr, e2, hq2, xt_hashes]
  have hhl : hdl r = lead blank r + h := by unfold hdl; rw [hq, hh]
  have hq0 := head_not (χ := blank) r
  rw [hq] at hq0
  have hz0 := head_not (χ := hash) q
  rw [hh, hz] at hz0
  have hzX : lead hash (xt w (0 + n + h) z) = 0 := by
    rcases hz0 with e | ⟨c, t, e, hc⟩
    · rw [e]; rfl
    · rw [e, xt]
      by_cases h9 : c = 9
      · rw [if_pos h9]
        have hp : 0 < w - (0 + n + h) % w := by have := Nat.mod_lt (0 + n + h) hw; omega
        obtain ⟨m, hm⟩ : ∃ m, w - (0 + n + h) % w = m + 1 := ⟨_, (Nat.succ_pred_eq_of_pos hp).symm⟩
        rw [hm, List.replicate_succ, List.cons_append, lead_cons_neg (by decide)]
      · rw [if_neg h9, lead_cons_neg hc]
  have hbX : lead blank (List.replicate h 35 ++ xt w (0 + n + h) z) = 0 := by
    cases h with
    | succ h => rw [List.replicate_succ, List.cons_append, lead_cons_neg (by decide)]
    | zero =>
      rw [List.replicate_zero, List.nil_append]
      rw [List.replicate_zero, List.nil_append] at hq2
      rcases hq0 with e | ⟨c, t, e, hc⟩
      · rw [← hq2, e]; rfl
      · rw [← hq2, e, xt]
        have h9 : c ≠ 9 := fun q => by rw [q] at hc; revert hc; decide
        rw [if_neg h9, lead_cons_neg hc]
  have hlb : lead blank (xt w 0 r) = n := by rw [hb, lead_rep (by decide), hbX]; rfl
  have hbl : hdl (xt w 0 r) = n + h := by
    unfold hdl
    rw [hlb, hb, List.drop_left' (by simp), lead_rep (by decide), hzX]; rfl
  have hbh : hdr (xt w 0 r) = List.replicate n 32 ++ List.replicate h 35 := by
    unfold hdr
    rw [hbl, hb, ← List.append_assoc, List.take_left' (by simp)]
  refine ⟨n, h, by rw [hi, e1, List.length_replicate], ?_, hhl, ?_, ?_, hbh, ?_⟩
  · unfold hdr
    rw [hi, hhl, ← hil]
    conv => lhs; rw [hr, hq2, ← List.append_assoc]
    rw [List.take_left' (by simp)]
  · rw [hhl, ← List.drop_drop, hq, hz]
    rcases hz0 with e | ⟨c, t, e, hc⟩
    · rw [e]; simp
    · rw [e]
      intro q
      injection q with q
      rw [q] at hc; revert hc; decide
  · rw [hq]
    rcases hq0 with e | ⟨c, t, e, hc⟩
    · rw [e]; simp
    · rw [e]
      refine ⟨fun q => ?_, fun q => ?_⟩ <;> (injection q with q; rw [q] at hc; revert hc; decide)
  · rw [hbh]
    have e3 : (xt w 0 r).drop (List.replicate n 32 ++ List.replicate h 35).length = xt w (0 + n + h) z := by
      rw [hb, ← List.append_assoc, List.drop_left]
    rw [e3, isw_xt hw, hhl, ← List.drop_drop, hq, hz]
/-- the kind of a row -/
noncomputable def kd (b : List Nat) : PV := .tuple [.str (mkS (hdr b)), .bool (!isw (b.drop (hdr b).length))]
theorem kd_good (R : List (List Nat)) (H : List Nat) (k : Nat) : PV.eqv (kd (rowAt R k)) (.tuple [.str (mkS H), .bool true]) = good R H k := by
  unfold kd good
  rw [PV.eqv, PV.eqvs, PV.eqvs, PV.eqvs, eqv_mkS]
  have e : ∀ b : Bool, PV.eqv (.bool b) (.bool true) = b := by intro b; cases b <;> rfl
  rw [e, Bool.and_true]
  by_cases h : hdr (rowAt R k) = H
  · rw [h]
  · have : (hdr (rowAt R k) == H) = false := by simpa using h
    rw [this]; rfl
theorem xt_len {k : Nat} (hk : 0 < k) (l : List Nat) : (xt k 0 l).length ≤ k * l.length := xt_le k hk l 0
end Mine
end

section
open PySem PySem.W PyProof.Rows
open PySem.SeqAt
namespace Mine
section
variable {c : Cx} {ρ : Env1} {mg mb : Str → Option Value} {Q : PF → Env1 → Prop}
set_option maxRecDepth 100000 in
theorem call_type_int {prog : Program} {w : World} {A : Around} {E : Value → Shared → Prop} {i : Int} {u : Tok} {s : Shared} {Q : Value → Shared → Prop} (hq : Q (.type "int") s) :
    wpAny (model prog w) A (call (.type "type") [.int i u]) Q E s := by
  obtain ⟨h, g, d, t, os⟩ := s
  refine wpAny_call (codeAny_of_tree ?_)
  show wpAny _ _ (callAny (.type "type") ⟨[.int i u], []⟩) _ _ _
  simp only [callAny]
  refine wpAny_pure ⟨Code.quiet_builtin _ (by decide +kernel), codeAny_builtin entry_type_call ?_⟩
  unfold Builtin.«type.__call__»
  dsimp only
  unfold shownTypeOf
  repeat wp_step
  exact hq
theorem boot_type : bootBuiltins "type" = some (.type "type") := by decide +kernel
/-- type(x) is not int -/
theorem IsT_typeInt (ok : c.Ok) (g : Gl c.G mg mb) {e : Expr} {p pos p2 p3 : Pos} {i : Int} (hkt : c.env.kindOf "type" = some .globalImplicit) (hki : c.env.kindOf "int" = some .globalImplicit) (hvt : mg "type" = none) (hvi : mg "int" = none) (h : Ev c ρ true e (.int i)) (hs : noStar e = true) :
    IsT1 c ρ (.Compare (.Call (.Name "type" p) [e] [] pos) [.IsNot] [.Name "int" p2] p3) false := .mk fun A T s ha st => by
  refine wpAny_isTrue_Compare1 ?_ rfl
  rw [eval_Call_Name]
  refine wpAny_bind (load_builtin ok g hkt hvt boot_type rfl (by decide) st.wd ?_)
  have hL : EvL c ρ true [e] [.int i] := .cons h hs .nil
  refine PySem.callWith_type (noStars hL) (evalArgs_ev hL ha st fun vs s₁ e₁ st₁ r => ?_)
  simp only [RepAll, Rep] at r
  obtain ⟨_, _, rfl, ⟨u, rfl⟩, rfl⟩ := r
  refine call_type_int ?_
  refine load_builtin ok g hki hvi boot_int rfl (by decide) st₁.wd ?_
  exact isnot_type_same (wpAny_truthy_bool ⟨e₁, rfl⟩)
/-- a call with one owned list among its arguments; the answer is a tuple of plain things -/
theorem Ev_callOwnT (ok : c.Ok) (g : Gl c.G mg mb) {y x : Str} {p pos : Pos} {es : List Expr} {fa : Addr} {k : Nat} {f : List PV → PV → Prop} {ds : List PV} {d e₀ : List PV} (hk : c.env.kindOf y = some .globalImplicit)
    (hf : FnAt c.G mg y fa) (hp : plainName y = true) (hF : Fn c.G k fa f) (hle : k ≤ c.rk) (h : EvLx c ρ x es ds) (hd : f ds (.tuple d)) (hx : ρ.lookup x = some (.list e₀)) (ho : c.own.contains x = true) (hd' : flats d = true) : Ev c ρ true (.Call (.Name y p) es [] pos) (.tuple d) := .mk fun A T s ha st => by
  rw [eval_Call_Name]
  refine wpAny_bind (load_global ok g hk hf.glob hp st.wd ?_)
  obtain ⟨o, fd, ho', hod⟩ := hf.obj
  refine Calls.callWith_function (o := o) (fd := fd) (evalArgs_evx ok h ha st fun vs s₁ e₁ st₁ r => ⟨⟨st₁.wd.old _ _ ho' (g.tb _ _ ho' (not_codeLike_func hod)), hod⟩, ?_⟩)
  refine wpAny_call (codeAny_mono (hF.run A s₁ (c.Qx T x) vs ds (.tuple d) (ha.mono hle) st₁.wd (fun a hn => .inl (st₁.newP ok hn)) r hd) ?_)
  rintro r s' ⟨v, rfl, e, q⟩
  refine ⟨e₁.trans e, ?_⟩
  simp only [Rep] at q ⊢
  obtain ⟨a, us, n, rfl, ha', l, ra, z⟩ := q
  refine ⟨a, us, n, rfl, ?_, l, RepAll.flats hd' ra, z⟩
  rcases ha' with ha' | ha'
  · exact Cx.Q_iff.mp ha'
  · exfalso
    obtain ⟨v0, h1, h2, _⟩ := st₁.vars x _ hx
    obtain ⟨a', ds', vs', n', q1, q2, q3, q4, q5, q6⟩ := h2 (List.contains_iff_mem.mp ho)
    rw [ha'] at q3; cases q3
    have l' : IsL s'.heap a vs' n' := st₁.wd.list_keep e (fun h => h) q4
    have l1 : s'.heap.get? a = _ := l
    have l2 : s'.heap.get? a = _ := l'
    rw [l1] at l2
    have l3 := Option.some.inj l2
    have l4 := congrArg Obj.cls l3
    simp at l4
end
end Mine
end

section
open PySem PySem.W PyProof.Rows
open PySem.SeqAt
namespace Mine
noncomputable abbrev NI (l : List Nat) : List PV := l.map fun k => PV.int (k : Nat)
theorem NI_ints (l : List Nat) : NI l = (l.map fun (k : Nat) => (k : Int)).map PV.int := by rw [NI, List.map_map]; rfl
noncomputable def Fi (p : Nat → Bool) : PV → Option PV
  | .int i => if p i.toNat then some (.int i) else none
  | _ => none
theorem Fi_nat (p : Nat → Bool) (k : Nat) : Fi p (.int (k : Nat)) = if p k then some (.int (k : Nat)) else none := by show (if p (((k : Nat) : Int)).toNat then _ else _) = _; rw [Int.toNat_natCast]
theorem filt_int (p : Nat → Bool) : ∀ l : List Nat, (NI l).filterMap (Fi p) = NI (l.filter p)
  | [] => rfl
  | k :: l => by
    rw [NI, List.map_cons, List.filterMap_cons, Fi_nat]
    cases h : p k with
    | true => rw [List.filter_cons_of_pos h]; simp only [if_true]; rw [show l.map (fun k => PV.int ((k : Nat) : Int)) = NI l from rfl, filt_int p l]; rfl
    | false => rw [List.filter_cons_of_neg (by simp [h])]; simp only [Bool.false_eq_true, if_false]; exact filt_int p l
theorem comp_res {c : Cx} {ρ : Env1} {t elt : Expr} {p : Nat → Bool} {k : Nat} (h : IsT1 c ρ t (p k)) (h' : Ev c ρ true elt (.int ((k : Nat) : Int))) : CompRes c ρ [t] elt (Fi p (.int ((k : Nat) : Int))) := by
  rw [Fi_nat]
  cases hp : p k with
  | true => rw [hp] at h; exact ⟨.inr ⟨_, rfl, h⟩, h'⟩
  | false => rw [hp] at h; exact .inr ⟨_, rfl, h⟩
theorem range_NI (a n : Nat) : ItOk (.range (a : Nat) ((n : Nat) : Int) 1) (NI ((List.range (n - a)).map (a + ·))) ∨ 2 ^ 20 < a ∨ 2 ^ 20 < n := by
  by_cases h : 2 ^ 20 < a ∨ 2 ^ 20 < n
  · exact .inr h
  · left
    have hs : Builtin.Range.small (a : Nat) (n : Nat) 1 = true := by
      by_cases hle : a ≤ n
      · exact small_one (by omega) (by omega) (by omega) (by omega)
      · exact small_one (by omega) (by omega) (by omega) (by omega)
    have := ItOk.range hs
    rw [rangeL_up, show (((n : Nat) : Int) - (a : Nat)).toNat = n - a by omega] at this
    have e : (List.range (n - a)).map (fun (i : Nat) => PV.int ((a : Nat) + (i : Int))) = NI ((List.range (n - a)).map (a + ·)) := by
      rw [NI, List.map_map]
      apply List.map_congr_left
      intro i _
      show PV.int _ = PV.int ((a + i : Nat) : Int)
      push_cast; rfl
    rw [e] at this; exact this
theorem range_ni {a n : Nat} (h1 : a ≤ 100000) (h2 : n ≤ 100000) : ItOk (.range (a : Nat) ((n : Nat) : Int) 1) (NI ((List.range (n - a)).map (a + ·))) := by
  rcases range_NI a n with h | h | h
  · exact h
  · have : (2 : Nat) ^ 20 = 1048576 := by decide
    omega
  · have : (2 : Nat) ^ 20 = 1048576 := by decide
    omega
theorem six_pow {k : Nat} (h : k ≤ 7) : ((6 : Int) ^ k).natAbs < 1073741824 ∧ (6 : Int) ^ k ≠ 0 := by
  match k, h with
  | 0, _ => decide
  | 1, _ => decide
  | 2, _ => decide
  | 3, _ => decide
  | 4, _ => decide
  | 5, _ => decide
  | 6, _ => decide
  | 7, _ => decide
theorem n_pow {n k : Nat} (h0 : 0 < n) (h : n ≤ 20) (hk : k ≤ 5) : ((n : Int) ^ k).natAbs < 1073741824 ∧ (n : Int) ^ k ≠ 0 := by
  have h1 : n ^ k ≤ 20 ^ 5 := Nat.le_trans (Nat.pow_le_pow_left h k) (Nat.pow_le_pow_right (by decide) hk)
  have h2 : 0 < n ^ k := Nat.pow_pos h0
  have e : ((n : Int) ^ k) = ((n ^ k : Nat) : Int) := by push_cast; rfl
  rw [e]
  have : (20 : Nat) ^ 5 = 3200000 := by decide
  omega
theorem bits20 : ∀ n : Nat, n ≤ 20 → Builtin.Int.intBits (n : Nat) ≤ 64 := by decide +kernel

theorem str_cat {c : Cx} {ρ : Env1} {b : Bool} {l r : Expr} {pos : Pos} {x y : List Nat} (h₁ : Ev c ρ false l (.str (mkS x))) (h₂ : Ev c ρ false r (.str (mkS y))) (hz : x.length + y.length ≤ sizeLine) : Ev c ρ b (.BinOp l .Add r pos) (.str (mkS (x ++ y))) :=
  Ev.cast (congrArg PV.str (mkS_app x y)) (Ev_bin h₁ h₂ (.addS (by rw [mkS_len, mkS_len]; exact hz)))
theorem rep_ev {c : Cx} {ρ : Env1} {b : Bool} {r : Expr} {ch : Nat} {k pos pos'} {e : Int} {n : Nat} (hr : Ev c ρ false r (.int e)) (he : e = (n : Int)) (hn : n ≤ 1000000) : Ev c ρ b (.BinOp (.Constant (.str (mkS [ch])) k pos) .Mult r pos') (.str (mkS (List.replicate n ch))) :=
  Ev_bin (Ev_str (by rw [mkS_len, sizeLine_is]; simp)) (Ev.cast (congrArg PV.int he) hr) (.mul1 (by rw [sizeLine_is]; omega))
theorem ssl_take (y : List Nat) (k : Nat) : ssl (mkS y) none (some (k : Int)) = mkS (y.take k) := by unfold ssl; rw [lsl_to]
theorem strg_shift (R : List (List Nat)) (H : List Nat) : ((List.range R.length).map (1 + ·)).filter (fun k => !good R H k) = strg R H := by
  unfold strg
  congr 1
  exact List.map_congr_left fun i _ => Nat.add_comm 1 i
end Mine
end

section
open PySem PySem.W PyProof.Rows
namespace Mine
set_option maxRecDepth 100000 in
set_option maxHeartbeats 8000000 in
open_top hd for PySem.Challenge.rw_dm0161_11
end Mine
end

section
open PySem PySem.W PyProof.Rows
open PySem.SeqAt
namespace Mine
local macro_rules | `(tactic| one_item) => `(tactic| first | exact BinOk.addI | exact BinOk.subI | exact BinOk.modI (by decide) | exact BinOk.mulI (.of_right (by decide)) | exact CmpOk.lt | exact CmpOk.le | exact CmpOk.gt | exact CmpOk.ge)
local macro_rules | `(tactic| pv_eval) => `(tactic| first
  | exact Ev_int | exact Ev_none | exact Ev_bool | exact Ev_str (by decide)
  | exact Ev_name (by assumption) rfl rfl rfl
  | exact Ev_nameOwn (by assumption) rfl rfl rfl
  | exact EvL.nil
  | (refine' EvL.cons ?h rfl ?r; (case h => pv_eval); (case r => pv_eval))
  | exact EvO.no
  | (refine' EvO.yes ?h; (case h => pv_eval))
  | exact EvS_nameOwn (by assumption) rfl rfl rfl
  | (refine' EvF_list (by assumption) ?h rfl; (case h => pv_eval))
  | (refine' EvF_cat (by assumption) ?h ?r ?z; (case h => pv_eval); (case r => pv_eval); (case z => decide))
  | (refine' EvF_lsl (by assumption) ?h ?l ?r; (case h => pv_eval); (case l => pv_eval); (case r => pv_eval))
  | (refine' Ev_neg ?h; (case h => pv_eval))
  | (refine' Ev_ssl ?h ?l ?r; (case h => pv_eval); (case l => pv_eval); (case r => pv_eval))
  | (refine' Ev_bin ?h ?r ?o; (case h => pv_eval); (case r => pv_eval); (case o => one_item))
  | (refine' Ev_cmp ?h ?r ?o rfl; (case h => pv_eval); (case r => pv_eval); (case o => one_item))
  | (refine' EvF.seq ?h; (case h => pv_eval))
  | (refine' Ev.seq ?h; (case h => pv_eval))
  | (refine' EvF.ev (by assumption) ?h; (case h => pv_eval)))
noncomputable abbrev W0 (prog : Program) (w : World) (s : Shared) : Wo := woP prog w s (121, 117) [] "_law_page.<locals>.<lambda>"
theorem tabs {w : World} {s₁ : Shared} {p : Program} {loose : List Str} {mean : ExcName → Option Value} {mg mb : Str → Option Value} (KX : (hd.heap_39 w.params).In s₁.heap) (T : Top p loose mean mg mb s₁.heap) (h : ((recsOf p).any (fun d => d.name == "_law_page")) = true) : Tabs s₁.heap [(121, 117)] := by
  refine ⟨fun p hp => ?_, by simp⟩
  simp only [List.mem_cons, List.not_mem_nil, or_false] at hp
  rcases hp with rfl
  · obtain ⟨d, hd, hn⟩ := List.any_eq_true.mp h
    obtain ⟨a, o, fd, c, P, h1, h2, h3, h4, h5, h6⟩ := T.tab d hd
    rw [beq_iff_eq] at hn
    have e1 : mg "_law_page" = some (.ref 122) := by rw [ns_at T.g (KX 3 _ rfl) rfl]; rfl
    rw [hn, e1] at h1; cases h1
    rw [KX 122 _ rfl] at h2; cases h2
    cases h3
    cases h4
    obtain ⟨⟨o, vs, q1, q2, q3, q4⟩, q5⟩ := id h6
    rw [KX 121 _ rfl] at q1; cases q1
    cases q3
    cases q4
    exact ⟨_, h6, h5⟩
section
variable {w : World} {s₁ : Shared} {prog : Program} {mg mb : Str → Option Value}

theorem pat_twin2 (KX : (hd.heap_39 w.params).In s₁.heap) : PatAt (W0 prog w s₁).h₁ 43 C2 1 := ⟨_, _, _, _, _, _, _, _, _, KX 43 _ rfl, rfl, rfl, KX 42 _ rfl, rfl⟩
theorem pat_twin4 (KX : (hd.heap_39 w.params).In s₁.heap) : PatAt (W0 prog w s₁).h₁ 48 C4 0 := ⟨_, _, _, _, _, _, _, _, _, KX 48 _ rfl, rfl, rfl, KX 47 _ rfl, rfl⟩
theorem pat_line (KX : (hd.heap_39 w.params).In s₁.heap) : PatAt (W0 prog w s₁).h₁ 74 CL 0 := ⟨_, _, _, _, _, _, _, _, _, KX 74 _ rfl, rfl, rfl, KX 73 _ rfl, rfl⟩
theorem mg_twin2 (KX : (hd.heap_39 w.params).In s₁.heap) (N : s₁.heap.Ns mainGlobals mg) : mg "_twin_re_2" = some (.ref 43) := by rw [ns_at N (KX 3 _ rfl) rfl]; rfl
theorem mg_twin4 (KX : (hd.heap_39 w.params).In s₁.heap) (N : s₁.heap.Ns mainGlobals mg) : mg "_twin_re_4" = some (.ref 48) := by rw [ns_at N (KX 3 _ rfl) rfl]; rfl
theorem mg_line (KX : (hd.heap_39 w.params).In s₁.heap) (N : s₁.heap.Ns mainGlobals mg) : mg "_line_indent_re" = some (.ref 74) := by rw [ns_at N (KX 3 _ rfl) rfl]; rfl
theorem mg_iaw (KX : (hd.heap_39 w.params).In s₁.heap) (N : s₁.heap.Ns mainGlobals mg) : mg "is_all_white" = some (.ref 62) := by rw [ns_at N (KX 3 _ rfl) rfl]; rfl
theorem mg_hdr (KX : (hd.heap_39 w.params).In s₁.heap) (N : s₁.heap.Ns mainGlobals mg) : mg "get_comment_header" = some (.ref 69) := by rw [ns_at N (KX 3 _ rfl) rfl]; rfl
theorem mg_lin (KX : (hd.heap_39 w.params).In s₁.heap) (N : s₁.heap.Ns mainGlobals mg) : mg "get_line_indent" = some (.ref 81) := by rw [ns_at N (KX 3 _ rfl) rfl]; rfl
theorem mg_find_paragraph (KX : (hd.heap_39 w.params).In s₁.heap) (N : s₁.heap.Ns mainGlobals mg) : mg "find_paragraph" = some (.ref 55) := by rw [ns_at N (KX 3 _ rfl) rfl]; rfl
theorem mg_Rstrip (KX : (hd.heap_39 w.params).In s₁.heap) (N : s₁.heap.Ns mainGlobals mg) : mg "Rstrip" = some (.ref 106) := by rw [ns_at N (KX 3 _ rfl) rfl]; rfl
theorem mg_law_get (KX : (hd.heap_39 w.params).In s₁.heap) (N : s₁.heap.Ns mainGlobals mg) : mg "_law_get" = some (.ref 115) := by rw [ns_at N (KX 3 _ rfl) rfl]; rfl
theorem mg_law_page (KX : (hd.heap_39 w.params).In s₁.heap) (N : s₁.heap.Ns mainGlobals mg) : mg "_law_page" = some (.ref 122) := by rw [ns_at N (KX 3 _ rfl) rfl]; rfl
theorem mg_law_row (KX : (hd.heap_39 w.params).In s₁.heap) (N : s₁.heap.Ns mainGlobals mg) : mg "_law_row" = some (.ref 127) := by rw [ns_at N (KX 3 _ rfl) rfl]; rfl
theorem mg_law_due (KX : (hd.heap_39 w.params).In s₁.heap) (N : s₁.heap.Ns mainGlobals mg) : mg "_law_due" = some (.ref 132) := by rw [ns_at N (KX 3 _ rfl) rfl]; rfl
theorem mg_law (KX : (hd.heap_39 w.params).In s₁.heap) (N : s₁.heap.Ns mainGlobals mg) : mg "law" = some (.ref 137) := by rw [ns_at N (KX 3 _ rfl) rfl]; rfl
theorem mgn_len (KX : (hd.heap_39 w.params).In s₁.heap) (N : s₁.heap.Ns mainGlobals mg) : mg "len" = none := by rw [ns_at N (KX 3 _ rfl) rfl]; rfl
theorem mgn_range (KX : (hd.heap_39 w.params).In s₁.heap) (N : s₁.heap.Ns mainGlobals mg) : mg "range" = none := by rw [ns_at N (KX 3 _ rfl) rfl]; rfl
theorem mgn_max (KX : (hd.heap_39 w.params).In s₁.heap) (N : s₁.heap.Ns mainGlobals mg) : mg "max" = none := by rw [ns_at N (KX 3 _ rfl) rfl]; rfl
theorem mgn_min (KX : (hd.heap_39 w.params).In s₁.heap) (N : s₁.heap.Ns mainGlobals mg) : mg "min" = none := by rw [ns_at N (KX 3 _ rfl) rfl]; rfl
theorem mgn_map (KX : (hd.heap_39 w.params).In s₁.heap) (N : s₁.heap.Ns mainGlobals mg) : mg "map" = none := by rw [ns_at N (KX 3 _ rfl) rfl]; rfl
theorem mgn_int (KX : (hd.heap_39 w.params).In s₁.heap) (N : s₁.heap.Ns mainGlobals mg) : mg "int" = none := by rw [ns_at N (KX 3 _ rfl) rfl]; rfl
theorem mgn_sum (KX : (hd.heap_39 w.params).In s₁.heap) (N : s₁.heap.Ns mainGlobals mg) : mg "sum" = none := by rw [ns_at N (KX 3 _ rfl) rfl]; rfl
theorem mgn_type (KX : (hd.heap_39 w.params).In s₁.heap) (N : s₁.heap.Ns mainGlobals mg) : mg "type" = none := by rw [ns_at N (KX 3 _ rfl) rfl]; rfl

theorem fn_iaw (g : Gl (W0 prog w s₁) mg mb) (KX : (hd.heap_39 w.params).In s₁.heap) : Fn (W0 prog w s₁) 1 62 iawF := by
  refine Fn_of g (fnDef_of (params := ["line"]) (KX 62 _ rfl) rfl rfl rfl rfl rfl rfl rfl rfl (KX 61 _ rfl) rfl rfl (len1 fun a => rfl) (notTbP rfl) rfl rfl rfl rfl) [] 0 ⟨rfl, fun x _ => rfl⟩ (fun ds d ⟨y, h, _⟩ => by rw [h]; rfl) ?_
  rintro P h₀ ds d ok ⟨y, rfl, rfl⟩
  refine Ex_cons (Ex1_return (d := .bool ((Sl y).all white)) ?_ rfl)
  cases hw : (Sl y).all white with
  | true =>
    refine Ev_cmp (d₁ := matchPV y 48 y.length (-1) []) (Ev_match (y := y) ok g rfl (mg_twin4 KX g.g) rfl (pat_twin4 KX) rfl rfl (Ev_name ok rfl rfl rfl) (fun hy => ?_)) Ev_none .isNotO rfl
    have := MatchR4 (pa := 48) hy
    rw [if_pos hw] at this
    exact this
  | false =>
    refine Ev_cmp (Ev_match (y := y) ok g rfl (mg_twin4 KX g.g) rfl (pat_twin4 KX) rfl rfl (Ev_name ok rfl rfl rfl) (fun hy => ?_)) Ev_none .isNotNN rfl
    have := MatchR4 (pa := 48) hy
    rw [if_neg (by rw [hw]; simp)] at this
    exact this
theorem at_iaw (g : Gl (W0 prog w s₁) mg mb) (KX : (hd.heap_39 w.params).In s₁.heap) : FnAt (W0 prog w s₁) mg "is_all_white" 62 := fnAt_of (mg_iaw KX g.g) (KX 62 _ rfl) rfl

theorem fn_hdr (g : Gl (W0 prog w s₁) mg mb) (KX : (hd.heap_39 w.params).In s₁.heap) : Fn (W0 prog w s₁) 1 69 hdrF := by
  refine Fn_of g (fnDef_of (params := ["line"]) (KX 69 _ rfl) rfl rfl rfl rfl rfl rfl rfl rfl (KX 68 _ rfl) rfl rfl (len1 fun a => rfl) (notTbP rfl) rfl rfl rfl rfl) [] 0 ⟨rfl, fun x _ => rfl⟩ (fun ds d ⟨y, h, _⟩ => by rw [h]; rfl) ?_
  rintro P h₀ ds d ok ⟨y, rfl, rfl⟩
  refine Ex_cons (Ex1_assign ok (d := matchPV y 43 (hdl (Sl y)) 1 [0, (hdl (Sl y) : Nat)]) (Ev_match (y := y) ok g rfl (mg_twin2 KX g.g) rfl (pat_twin2 KX) rfl rfl (Ev_name ok rfl rfl rfl) MatchR2) ?_ rfl rfl rfl)
  refine Ex_cons (Ex1_if (k := false) (IsT_cmp (d₁ := matchPV y 43 (hdl (Sl y)) 1 [0, (hdl (Sl y) : Nat)]) (d₂ := .none) (Ev_name ok rfl rfl rfl) Ev_none .isO rfl) (fun h => by cases h) fun _ => Ex_nil ?_)
  refine Ex_cons (Ex1_return ?_ rfl)
  exact Ev_meth (d₀ := matchPV y 43 (hdl (Sl y)) 1 [0, (hdl (Sl y) : Nat)]) ok rfl rfl plainAttrs_mat slot_mat_group type_mat_group (by decide) rep_mat_type (Ev_name ok rfl rfl rfl) (.cons Ev_int rfl .nil) BiOk_group1
theorem at_hdr (g : Gl (W0 prog w s₁) mg mb) (KX : (hd.heap_39 w.params).In s₁.heap) : FnAt (W0 prog w s₁) mg "get_comment_header" 69 := fnAt_of (mg_hdr KX g.g) (KX 69 _ rfl) rfl

theorem fn_lin (g : Gl (W0 prog w s₁) mg mb) (KX : (hd.heap_39 w.params).In s₁.heap) : Fn (W0 prog w s₁) 1 81 linF := by
  refine Fn_of g (fnDef_of (params := ["line", "tabwidth"]) (KX 81 _ rfl) rfl rfl rfl rfl rfl rfl rfl rfl (KX 80 _ rfl) rfl rfl (len2 fun a b => rfl) (notTbP rfl) rfl rfl rfl rfl) [] 0 ⟨rfl, fun x hx => by simp at hx; rcases hx with rfl | rfl <;> rfl⟩ (fun ds d ⟨y, k, h, _⟩ => by rw [h]; rfl) ?_
  rintro P h₀ ds d ok ⟨y, k, rfl, hk, hk2, hz, rfl⟩
  refine Ex_cons (Ex1_assign ok (d := matchPV y 74 (lead blank (Sl y)) (-1) []) (Ev_match (y := y) ok g rfl (mg_line KX g.g) rfl (pat_line KX) rfl rfl (Ev_name ok rfl rfl rfl) MatchRL) ?_ rfl rfl rfl)
  refine Ex_cons (Ex1_return (Ev_tuple ok (.cons ?_ rfl (.cons ?_ rfl .nil)) rfl) rfl)
  · exact Ev_meth (d₀ := matchPV y 74 (lead blank (Sl y)) (-1) []) ok rfl rfl plainAttrs_mat slot_mat_end type_mat_end (by decide) rep_mat_type (Ev_name ok rfl rfl rfl) .nil BiOk_end
  · refine Ev_callB ok g rfl (mgn_len KX g.g) PySem.boot_len rfl (by decide) (.cons ?_ rfl .nil) BiOk_len_mkS
    refine Ev_meth (d₀ := .str (mkS ((Sl y).take (lead blank (Sl y))))) (d := .str (mkS (xt k 0 ((Sl y).take (lead blank (Sl y)))))) ok rfl rfl PySem.F.plainAttrs_str PySem.F.slot_str_expandtabs PySem.F.type_str_expandtabs (by decide) rep_str_type ?_ (.cons (Ev_name ok rfl rfl rfl) rfl .nil) (BiOk_expandI hk hk2 hz)
    exact Ev_meth (d₀ := matchPV y 74 (lead blank (Sl y)) (-1) []) ok rfl rfl plainAttrs_mat slot_mat_group type_mat_group (by decide) rep_mat_type (Ev_name ok rfl rfl rfl) .nil BiOk_group
theorem at_lin (g : Gl (W0 prog w s₁) mg mb) (KX : (hd.heap_39 w.params).In s₁.heap) : FnAt (W0 prog w s₁) mg "get_line_indent" 81 := fnAt_of (mg_lin KX g.g) (KX 81 _ rfl) rfl
theorem tabE {p : Program} {loose : List Str} {mean : ExcName → Option Value} (KX : (hd.heap_39 w.params).In s₁.heap) (T : Top p loose mean mg mb s₁.heap) (h : (recsOf p).any (fun d => d.name == "_law_page") = true) : s₁.heap.TableAt 121 117 #[] := by
  obtain ⟨d, hd, hn⟩ := List.any_eq_true.mp h
  obtain ⟨a, o, fd, c, P, h1, h2, h3, h4, h5, h6⟩ := T.tab d hd
  rw [beq_iff_eq] at hn
  have e1 : mg "_law_page" = some (.ref 122) := by rw [ns_at T.g (KX 3 _ rfl) rfl]; rfl
  rw [hn, e1] at h1; cases h1
  rw [KX 122 _ rfl] at h2; cases h2
  cases h3
  cases h4
  obtain ⟨⟨o, vs, q1, q2, q3, q4⟩, q5⟩ := id h6
  rw [KX 121 _ rfl] at q1; cases q1
  cases q3
  cases q4
  exact h6
theorem kls : Kls (hd.heap_39 w.params) 106 95 := ⟨rfl, rfl, rfl, rfl, rfl, rfl, ⟨_, rfl, rfl⟩, rfl, rfl, rfl, rfl⟩
theorem notTbK : ∀ a o, (hd.heap_39 w.params).lookup a = some o → ¬ (W0 prog w s₁).Tb a := fun a o h => by
  have : (hd.heap_39 w.params).all (fun p => ([(121, 117)]).all (fun q => q.2 != p.1)) = true := rfl
  have hm : (a, o) ∈ hd.heap_39 w.params := by
    clear this
    generalize hd.heap_39 w.params = K at h
    induction K with
    | nil => cases h
    | cons p r ih =>
      rw [List.lookup_cons] at h
      by_cases q : (a == p.1) = true
      · rw [q] at h; cases h
        rw [eq_of_beq q]; exact List.mem_cons_self
      · simp only [q] at h
        exact List.mem_cons_of_mem _ (ih h)
  exact notTbP (List.all_eq_true.mp this _ hm)

theorem split46 {G : Wo} {x : List Nat} (h : (spl 46 x).length ≤ sizeLine) : BiOk G (.builtin "str.split") [.str (mkS x), .str (mkS [46])] (.list (SS (spl 46 x))) := BiOk_split (x := mkS x) (c := 46) h
theorem join_get {R : List (List Nat)} (hR : R.length ≤ 1000) (hl : ∀ l ∈ R, l.length ≤ 2000) (a n : Nat) : sumL (((R.drop a).take n).map (· ++ [10])) ≤ 2001000 := by
  have h1 : ∀ l ∈ ((R.drop a).take n).map (· ++ [10]), l.length ≤ 2001 := fun l h => by
    obtain ⟨x, hx, rfl⟩ := List.mem_map.mp h
    have := hl x (List.mem_of_mem_drop (List.mem_of_mem_take hx))
    rw [List.length_append]; simp; omega
  have h2 := sumL_bound h1
  rw [List.length_map, List.length_take, List.length_drop] at h2
  have : 2001 * min n (R.length - a) ≤ 2001 * 1000 := Nat.mul_le_mul_left _ (by omega)
  omega
set_option maxHeartbeats 1000000 in
theorem fn_get (g : Gl (W0 prog w s₁) mg mb) (KX : (hd.heap_39 w.params).In s₁.heap) : Fn (W0 prog w s₁) 1 115 getF := by
  refine Fn_of g (fnDef_of (params := ["rows", "start", "stop"]) (KX 115 _ rfl) rfl rfl rfl rfl rfl rfl rfl rfl (KX 114 _ rfl) rfl rfl (len3 fun a b c => rfl) (notTbP rfl) rfl rfl rfl rfl) [] 0 ⟨rfl, fun x _ => rfl⟩ (fun ds d ⟨_, _, _, _, h, _⟩ => by rw [h]; rfl) ?_
  rintro P h₀ ds d ok ⟨R, a, b, e, rfl, ha, hb, hR, hl, hcase⟩
  have hlen := mgn_len KX g.g
  have hint := mgn_int KX g.g
  obtain ⟨e0, e1, he, hel⟩ : ∃ e0 e1, spl 46 e = [e0, e1] ∧ e0 = dec b := by
    rcases hcase with ⟨rfl, _⟩ | ⟨rfl, _⟩
    · exact ⟨_, _, spl_mEnd b, rfl⟩
    · exact ⟨_, _, spl_m0 b, rfl⟩
  refine Ex_cons (Ex1_swap ok (names := ["first", "last"]) (ds := [.int (a : Nat), .list (SS (spl 46 e))]) (Ev_tuple ok (.cons (Ev_callT ok g rfl hint boot_int rfl (by decide) (.cons (Ev_item (k := 0) (j := 0) (ds := SS [dec a, [48]]) (Ev.seq (Ev.cast (by rw [spl_m0]) (Ev_meth (d₀ := .str (mkS (m0 a))) (d := .list (SS (spl 46 (m0 a)))) ok rfl rfl PySem.F.plainAttrs_str PySem.F.slot_str_split PySem.F.type_str_split (by decide) rep_str_type (Ev_name ok rfl rfl rfl) (.cons (Ev_str (by decide)) rfl .nil) (split46 (by rw [spl_m0, sizeLine_is]; show 2 ≤ 16777216; decide))))) (by pv_eval) rfl rfl (fun _ _ => rfl)) rfl .nil) (BiOk_int ha)) rfl (.cons (Ev_meth (d₀ := .str (mkS e)) (d := .list (SS (spl 46 e))) ok rfl rfl PySem.F.plainAttrs_str PySem.F.slot_str_split PySem.F.type_str_split (by decide) rep_str_type (Ev_name ok rfl rfl rfl) (.cons (Ev_str (by decide)) rfl .nil) (split46 (by rw [he, sizeLine_is]; show 2 ≤ 16777216; decide))) rfl .nil)) rfl) rfl rfl ?_ rfl rfl)
  have hi1 : (SS (spl 46 e))[1]? = some (.str (mkS e1)) := by rw [he]; rfl
  have hi0 : (SS (spl 46 e))[0]? = some (.str (mkS (dec b))) := by rw [he, hel]; rfl
  have hil : (SS (spl 46 e)).length = 2 := by rw [he]; rfl
  refine Ex_cons (Ex1_if (k := e1 == [101, 110, 100]) (IsT1.cast (eqv_mkS _ _) (IsT_cmp (d₁ := .str (mkS e1)) (d₂ := .str (mkS [101, 110, 100])) (Ev_item (k := 1) (j := 1) (Ev.seq (Ev_name ok rfl rfl rfl)) (by pv_eval) (by rw [hil]; rfl) hi1 (fun _ _ => rfl)) (Ev_str (by decide)) (.eq rfl (Nat.zero_le _)) rfl)) (fun h => ?_) fun h => Ex_nil ?_)
  · rcases hcase with ⟨rfl, rfl⟩ | ⟨rfl, _⟩
    · refine Ex_cons (Ex1_return (Ev_ifexp (k := decide (0 < a) && decide (a ≤ R.length)) (IsT1.cast (d := decide ((0 : Int) < (a : Nat)) && decide (((a : Nat) : Int) ≤ (R.length : Nat))) (by congr 1; exact decide_eq_decide.mpr (by omega); exact decide_eq_decide.mpr (by omega)) (IsT_cmp2 (d₁ := .int 0) (d₂ := .int (a : Nat)) (d₃ := .int (R.length : Nat)) Ev_int (Ev_name ok rfl rfl rfl) (fun _ => Ev_callB ok g rfl hlen PySem.boot_len rfl (by decide) (.cons (Ev_name ok rfl rfl rfl) rfl .nil) (by simpa [SS] using BiOk_len_list (ds := SS R))) .lt .le rfl)) (fun h => ?_) fun h => ?_) rfl)
      · rw [Bool.and_eq_true] at h
        have h1 := of_decide_eq_true h.1
        have h2 := of_decide_eq_true h.2
        exact Ev_item (k := ((a - 1 : Nat) : Int)) (j := a - 1) (Ev.seq (Ev_name ok rfl rfl rfl)) (Ev.cast (congrArg PV.int (by omega)) (Ev_bin (d := .int (((a : Nat) : Int) - 1)) (Ev_name ok rfl rfl rfl) Ev_int .subI)) (idx_nat (by rw [List.length_map]; omega)) (SS_get (rowAt_in h1 h2)) (fun _ _ => rfl)
      · have ho : a = 0 ∨ R.length < a := by
          by_cases h1 : 0 < a
          · right; rw [decide_eq_true h1, Bool.true_and] at h; exact Nat.lt_of_not_le (of_decide_eq_false h)
          · left; omega
        rw [rowAt_out ho]
        exact Ev_str (by decide)
    · rw [spl_m0] at he; injection he with _ he; injection he with he; subst he; cases h
  · rcases hcase with ⟨rfl, _⟩ | ⟨rfl, h1, hab, rfl⟩
    · rw [spl_mEnd] at he; injection he with _ he; injection he with he; subst he; cases h
    · have hsl : lsl (SS R) (some ((a - 1 : Nat) : Int)) (some ((b - 1 : Nat) : Int)) = SS ((R.drop (a - 1)).take (b - a)) := by
        rw [lsl_any (by omega), SS, SS, List.map_take, List.map_drop, show b - 1 - (a - 1) = b - a by omega]
      have hz := join_get hR hl (a - 1) (b - a)
      refine Ex_cons (Ex1_return (d := .str (mkS (txt R a b))) (Ev_meth (d₀ := .str (mkS [])) (ds := [.list (SS (((R.drop (a - 1)).take (b - a)).map (· ++ [10])))]) ok rfl rfl PySem.F.plainAttrs_str PySem.F.slot_str_join PySem.F.type_str_join (by decide) rep_str_type (Ev_str (by decide)) (.cons (EvF.ev ok (EvF.cast (by rw [SS, List.map_map]; rfl) (EvF_compM ok ((R.drop (a - 1)).take (b - a)) (fun l => .str (mkS l)) (fun l => .str (mkS (l ++ [10]))) (fun x y h => by rw [mkS_inj h]) (EvF.ev ok (EvF.cast hsl (EvF_lsl ok (Ev.seq (Ev_name ok rfl rfl rfl)) (.yes (Ev.cast (congrArg PV.int (by omega)) (Ev_bin (d := .int (((a : Nat) : Int) - 1)) (Ev_name ok rfl rfl rfl) Ev_int .subI))) (.yes (Ev.cast (congrArg PV.int (by omega)) (Ev_bin (d := .int (((b : Nat) : Int) - 1)) (Ev_callT ok g rfl hint boot_int rfl (by decide) (.cons (Ev_item (k := 0) (j := 0) (Ev.seq (Ev_name ok rfl rfl rfl)) (by pv_eval) (by rw [hil]; rfl) hi0 (fun _ _ => rfl)) rfl .nil) (BiOk_int hb)) Ev_int .subI)))))) .list (by rw [sizeLine_is, List.length_take, List.length_drop]; omega) rfl [] .nil (fun C l hl' ok' => ⟨_, Asg_name ok' rfl rfl, .nil, Ev.cast (congrArg PV.str (mkS_app l [10])) (Ev_bin (Ev_name (d := .str (mkS l)) ok' rfl rfl rfl) (Ev_str (x := mkS [10]) (by decide)) (.addS (by have := hl l (List.mem_of_mem_drop (List.mem_of_mem_take hl')); rw [mkS_len, mkS_len, sizeLine_is]; simp; omega)))⟩) (fun _ => rfl)))) rfl .nil) (BiOk_join0 (by rw [sizeLine_is]; omega))) rfl)
theorem at_get (g : Gl (W0 prog w s₁) mg mb) (KX : (hd.heap_39 w.params).In s₁.heap) : FnAt (W0 prog w s₁) mg "_law_get" 115 := fnAt_of (mg_law_get KX g.g) (KX 115 _ rfl) rfl
/-- what a page's lambdas do -/
structure GetL (G : Wo) (L : Lam) : Prop where
  ok : L.Ok
  two : L.names.length = 2
  run : ∀ P h₀ f c₁ cl k R ds d, (lamCx G P h₀ L f (.ref c₁) cl k).Ok → 1 ≤ k → ds.length = 2 → getF (.list (SS R) :: ds) d → Ev (lamCx G P h₀ L f (.ref c₁) cl k) (("rows", .list (SS R)) :: (L.names.zip ds).reverse) true L.body d
structure CmpL (G : Wo) (L : Lam) : Prop where
  ok : L.Ok
  three : L.names.length = 3
  run : ∀ P h₀ f c₁ cl k (R : List (List Nat)) (a : Nat), (lamCx G P h₀ L f (.ref c₁) cl k).Ok → a < 10 ^ 10 → Ev (lamCx G P h₀ L f (.ref c₁) cl k) (("rows", .list (SS R)) :: (L.names.zip [.str (mkS (m0 a)), .str (mkS [60]), .str (mkS [101, 110, 100])]).reverse) true L.body (.bool (decide (a ≤ R.length)))
theorem page_all (g : Gl (W0 prog w s₁) mg mb) (KX : (hd.heap_39 w.params).In s₁.heap) (X : Tabs s₁.heap [(121, 117)]) (BM : BMain s₁.heap mg) :
    ∃ L1 L2, PgFn (W0 prog w s₁) 5 122 106 ((mg "__name__").getD .none) L1 L2 ∧ GetL (W0 prog w s₁) L1 ∧ CmpL (W0 prog w s₁) L2 := by
  refine ⟨⟨"_law_page.<locals>.<lambda>", _, ["start", "stop"], _, _⟩, ⟨"_law_page.<locals>.<lambda>", _, ["start", "sign", "stop"], _, _⟩, .mk fun A s P v R ha wd hP r hz => page_fn (k := 1) X g BM KX notTbK kls rfl (mg_Rstrip KX g.g)
    (fnDef_of (params := ["self", "editwin"]) (KX 95 _ rfl) rfl rfl rfl rfl rfl rfl rfl rfl (KX 94 _ rfl) rfl rfl (len2 fun a b => rfl) (notTbP rfl) rfl rfl rfl rfl) (fun _ _ _ => rfl)
    (fnDef_of (params := ["rows"]) (KX 122 _ rfl) rfl rfl rfl rfl rfl rfl rfl rfl (KX 121 _ rfl) rfl rfl (len1 fun a => rfl) (notTbP rfl) rfl rfl rfl rfl) (by decide) (by decide) (fun _ _ _ => rfl) (fun _ _ _ => rfl) (fun _ _ _ => rfl) rfl rfl rfl (fun _ _ _ => rfl) (fun _ _ _ => rfl) (fun _ _ _ => rfl) (by decide) (fun _ => rfl) (fun _ => rfl) ha wd hP r hz, ?_, ?_⟩
  · refine ⟨⟨rfl, rfl, rfl, rfl, rfl, rfl, rfl, fun cl pm cdv ct vs h => by match vs, h with | [a, b], _ => rfl⟩, rfl, fun P h₀ f c₁ cl k R ds d ok hk hl hd => ?_⟩
    match ds, hl with
    | [d1, d2], _ => exact Ev_callU ok g rfl (at_get g KX) rfl (fn_get g KX) hk (.cons (Ev_name ok rfl rfl rfl) rfl (.cons (Ev_name ok rfl rfl rfl) rfl (.cons (Ev_name ok rfl rfl rfl) rfl .nil))) hd
  · refine ⟨⟨rfl, rfl, rfl, rfl, rfl, rfl, rfl, fun cl pm cdv ct vs h => by match vs, h with | [a, b, c], _ => rfl⟩, rfl, fun P h₀ f c₁ cl k R a ok ha => ?_⟩
    have hr : decide ((a : Int) ≤ (R.length : Nat)) = decide (a ≤ R.length) := decide_eq_decide.mpr (by omega)
    rw [← hr]
    exact Ev.cast rfl (Ev_andV (d₁ := .bool true) rfl (Ev.cast (by rw [PV.eqv_refl]) (Ev_cmp (d₁ := .str (mkS [60])) (d₂ := .str (mkS [60])) (Ev_name ok rfl rfl rfl) (Ev_str (by decide)) (.eq rfl (Nat.zero_le _)) rfl)) fun _ => Ev_cmp (d₁ := .int (a : Nat)) (Ev_callT ok g rfl (mgn_int KX g.g) boot_int rfl (by decide) (.cons (Ev_item (k := 0) (j := 0) (ds := SS [dec a, [48]]) (Ev.seq (Ev.cast (by rw [spl_m0]) (Ev_meth (d₀ := .str (mkS (m0 a))) (d := .list (SS (spl 46 (m0 a)))) ok rfl rfl PySem.F.plainAttrs_str PySem.F.slot_str_split PySem.F.type_str_split (by show 1 < 30; decide) rep_str_type (Ev_name ok rfl rfl rfl) (.cons (Ev_str (by decide)) rfl .nil) (split46 (by rw [spl_m0, sizeLine_is]; show 2 ≤ 16777216; decide))))) (by pv_eval) rfl rfl (fun _ _ => rfl)) rfl .nil) (BiOk_int ha)) (Ev_callB ok g rfl (mgn_len KX g.g) PySem.boot_len rfl (by decide) (.cons (Ev_name ok rfl rfl rfl) rfl .nil) (by simpa [SS] using BiOk_len_list (ds := SS R))) .le rfl)
/-- find_paragraph -/
noncomputable def fpF (C : Addr) (pm : Value) (L1 L2 : Lam) (ds : List PV) (d : PV) : Prop := ∃ os x R a m S F T, ds = [.raw os (.ref x), .str (mkS (dec a ++ 46 :: dec m))] ∧ PageOk C pm L1 L2 os x R ∧ a < 10 ^ 6 ∧ m < 10 ^ 6 ∧ R.length ≤ 1000 ∧ (∀ l ∈ R, l.length ≤ 2000) ∧ FP R a S F T ∧
  d = .tuple [.str (mkS (m0 F)), .str (mkS (m0 T)), .str (mkS (hdr (rowAt R S))), .str (mkS (txt R F T))]
set_option maxHeartbeats 2000000 in
theorem fn_fp (g : Gl (W0 prog w s₁) mg mb) (KX : (hd.heap_39 w.params).In s₁.heap) {pm : Value} {L1 L2 : Lam} (l1 : GetL (W0 prog w s₁) L1) (l2 : CmpL (W0 prog w s₁) L2) : Fn (W0 prog w s₁) 3 55 (fpF 106 pm L1 L2) := by
  refine Fn_of (f := fpF 106 pm L1 L2) g (fnDef_of (params := ["text", "mark"]) (KX 55 _ rfl) rfl rfl rfl rfl rfl rfl rfl rfl (KX 54 _ rfl) rfl rfl (len2 fun a b => rfl) (notTbP rfl) rfl rfl rfl rfl) [] (3 - 1) ⟨rfl, fun x _ => rfl⟩ (fun ds d h => by obtain ⟨_, _, _, _, _, _, _, _, h, _⟩ := h; rw [h]; rfl) ?_
  rintro P h₀ ds d ok ⟨os, x, R, a, m, S, F, T, rfl, pg, ha, hm, hRl, hRs, fp, rfl⟩
  have hTR := fp.TR
  have hS1 := fp.S1
  have hST := fp.ST
  have haS := fp.aS
  have hFS := fp.FS
  have hF1 := fp.F1
  have hSb : S ≤ max a (R.length + 1) := by
    rcases Nat.lt_or_ge (max a (R.length + 1)) S with q | q
    · have := fp.skip (S - 1) (by omega) (by omega); omega
    · exact q
  -- text.get(row)
  have getrow : ∀ {ρ : Env1} {px apos pos p1 p2 p3 p4 p5 p6 : Pos} {k1 k2 : Nat} {n : Nat}, ρ.lookup ("text" : Str) = some (.raw os (.ref x)) → ρ.lookup ("lineno" : Str) = some (.int (n : Nat)) → n < 10 ^ 7 → (apos.endLine == pos.line) = true →
      Ev (fnCx (W0 prog w s₁) P h₀ _ _ 55 _ [] (3 - 1)) ρ true (.Call (.Attribute (.Name "text" px) "get" apos) [.BinOp (.Constant (.str "%d.0") k1 p1) .Mod (.Name "lineno" p2) p3, .BinOp (.Constant (.str "%d.end") k2 p4) .Mod (.Name "lineno" p5) p6] [] pos) (.str (mkS (rowAt R n))) := fun {ρ px apos pos p1 p2 p3 p4 p5 p6 k1 k2 n} h1 h2 h3 h4 => by
    refine Ev_pgCall (k := 3 - 2) ok g KX notTbK kls pg (l := L1) (.inl ⟨rfl, rfl⟩) l1.ok h1 rfl rfl h4 (.cons (Ev_fmt0 (by decide +kernel) (Ev_name ok h2 rfl rfl) (by omega)) rfl (.cons (Ev_fmtEnd (by decide +kernel) (Ev_name ok h2 rfl rfl) (by omega)) rfl .nil)) (by show 2 < 30; decide) l1.two.symm (Nat.le_refl _) ?_
    exact fun P h₀ f c₁ cl ok' => l1.run P h₀ f c₁ cl _ R _ _ ok' (by decide) rfl ⟨R, n, n, _, rfl, by omega, by omega, hRl, hRs, .inl ⟨rfl, rfl⟩⟩
  have cmprow : ∀ {ρ : Env1} {px apos pos p1 p2 p3 p4 p5 : Pos} {k1 k2 k3 : Nat} {n : Nat}, ρ.lookup ("text" : Str) = some (.raw os (.ref x)) → ρ.lookup ("lineno" : Str) = some (.int (n : Nat)) → n < 10 ^ 7 → (apos.endLine == pos.line) = true →
      Ev (fnCx (W0 prog w s₁) P h₀ _ _ 55 _ [] (3 - 1)) ρ true (.Call (.Attribute (.Name "text" px) "compare" apos) [.BinOp (.Constant (.str "%d.0") k1 p1) .Mod (.Name "lineno" p2) p3, .Constant (.str "<") k2 p4, .Constant (.str "end") k3 p5] [] pos) (.bool (decide (n ≤ R.length))) := fun {ρ px apos pos p1 p2 p3 p4 p5 k1 k2 k3 n} h1 h2 h3 h4 => by
    refine Ev_pgCall (k := 3 - 2) ok g KX notTbK kls pg (l := L2) (.inr ⟨rfl, rfl⟩) l2.ok h1 rfl rfl h4 (.cons (Ev_fmt0 (by decide +kernel) (Ev_name ok h2 rfl rfl) (by omega)) rfl (.cons (Ev_str (x := mkS [60]) (by decide)) rfl (.cons (Ev_str (x := mkS [101, 110, 100]) (by decide)) rfl .nil))) (by show 3 < 30; decide) l2.three.symm (Nat.le_refl _) ?_
    exact fun P h₀ f c₁ cl ok' => l2.run P h₀ f c₁ cl _ R n ok' (by omega)
  have iaw : ∀ {ρ : Env1} {e : Expr} {p pos : Pos} {l : List Nat}, noStar e = true → Ev (fnCx (W0 prog w s₁) P h₀ _ _ 55 _ [] (3 - 1)) ρ true e (.str (mkS l)) → Ev (fnCx (W0 prog w s₁) P h₀ _ _ 55 _ [] (3 - 1)) ρ true (.Call (.Name "is_all_white" p) [e] [] pos) (.bool (isw l)) := fun {ρ e p pos l} hs h => Ev_callU ok g rfl (at_iaw g KX) rfl (fn_iaw g KX) (by show 1 ≤ 3 - 1; decide) (.cons h hs .nil) ⟨mkS l, rfl, rfl⟩
  have hdrE : ∀ {ρ : Env1} {e : Expr} {p pos : Pos} {l : List Nat}, noStar e = true → Ev (fnCx (W0 prog w s₁) P h₀ _ _ 55 _ [] (3 - 1)) ρ true e (.str (mkS l)) → Ev (fnCx (W0 prog w s₁) P h₀ _ _ 55 _ [] (3 - 1)) ρ true (.Call (.Name "get_comment_header" p) [e] [] pos) (.str (mkS (hdr l))) := fun {ρ e p pos l} hs h => Ev_callU ok g rfl (at_hdr g KX) rfl (fn_hdr g KX) (by show 1 ≤ 3 - 1; decide) (.cons h hs .nil) ⟨mkS l, rfl, rfl⟩
  refine Ex_cons (Ex1_mapInt ok g rfl rfl (mgn_map KX g.g) (mgn_int KX g.g) (x := a) (y := m) (Ev.cast (by rw [spl_mark a (dec_no46 m)]; rfl) (Ev_meth (d₀ := .str (mkS (dec a ++ 46 :: dec m))) (d := .list (SS (spl 46 (dec a ++ 46 :: dec m)))) ok rfl rfl PySem.F.plainAttrs_str PySem.F.slot_str_split PySem.F.type_str_split (by decide) rep_str_type (Ev_name ok rfl rfl rfl) (.cons (Ev_str (by decide)) rfl .nil) (split46 (by rw [spl_mark a (dec_no46 m), sizeLine_is]; show 2 ≤ 16777216; decide)))) rfl (by omega) (by omega) (.cons (Asg_name ok rfl rfl) rfl (.cons (Asg_name ok rfl rfl) rfl .nil)) ?_ rfl rfl)
  refine Ex_cons (Ex1_assign ok (d := .str (mkS (rowAt R a))) (getrow rfl rfl (by omega) rfl) ?_ rfl rfl rfl)
  -- the first row that isn't white
  refine Ex_cons (Ex1_while (fun n ρ => ∃ k, a ≤ k ∧ k ≤ S ∧ n = S - k ∧ SubEnv [("line", .str (mkS (rowAt R k))), ("lineno", .int (k : Nat)), ("text", .raw os (.ref x))] ρ) (S - a) ⟨a, Nat.le_refl _, haS, rfl, .put rfl (.put rfl (.put rfl .nil))⟩ ?_)
  rintro n ρ ⟨k, hk1, hk2, rfl, hρ⟩
  refine ⟨decide (k < S), IsT1.sub hρ ?_, fun h => ?_, fun h => ?_⟩
  · refine IsT1.cast (d := decide (k ≤ R.length) && isw (rowAt R k)) ?_ (IsT_and2 (IsT_call (d := .bool (decide (k ≤ R.length))) rfl (cmprow rfl rfl (by omega) rfl).any) fun _ => IsT_call (d := .bool (isw (rowAt R k))) rfl (iaw rfl (Ev_name ok rfl rfl rfl)).any)
    by_cases hk : k < S
    · have := fp.skip k hk1 hk
      simp [hk, this.1, this.2]
    · have e : k = S := by omega
      subst e
      have := fp.stand
      rw [decide_eq_false hk]
      cases h1 : isw (rowAt R k) with
      | false => simp
      | true =>
        have : ¬ k ≤ R.length := fun q => this ⟨q, h1⟩
        simp [this]
  · refine Ex.sub ?_ hρ
    have hk := of_decide_eq_true h
    refine Ex_cons (Ex1_assign ok (d := .int ((k + 1 : Nat) : Int)) (Ev.cast (by push_cast; rfl) (Ev_bin (d := .int ((k : Int) + 1)) (Ev_name ok rfl rfl rfl) Ev_int .addI)) ?_ rfl rfl rfl)
    refine Ex_cons (Ex1_assign ok (d := .str (mkS (rowAt R (k + 1)))) (getrow rfl rfl (by omega) rfl) ?_ rfl rfl rfl)
    exact Ex_nil ⟨_, by omega, k + 1, by omega, by omega, rfl, .put rfl (.put rfl (.put rfl .nil))⟩
  have hkS : k = S := by have := of_decide_eq_false h; omega
  subst hkS
  refine Ex.sub ?_ hρ
  clear h hρ
  have hh := rowAt_len (k := k) hRs
  refine Ex_cons (Ex1_assign ok (Ev_name ok rfl rfl rfl) ?_ rfl rfl rfl)
  refine Ex_cons (Ex1_assign ok (d := .str (mkS (hdr (rowAt R k)))) (hdrE rfl (Ev_name ok rfl rfl rfl)) ?_ rfl rfl rfl)
  have hup := fp.up
  have hstop := fp.stop
  have hdn := fp.dn
  have htop := fp.top
  generalize hdr (rowAt R k) = H at hup hstop hdn htop
  refine Ex_cons (Ex1_assign ok (d := .int (H.length : Nat)) (Ev_callB ok g rfl (mgn_len KX g.g) PySem.boot_len rfl (by decide) (.cons (Ev_name ok rfl rfl rfl) rfl .nil) BiOk_len_mkS) ?_ rfl rfl rfl)
  have tst1 : ∀ {ρ : Env1} {j : Nat}, ρ.lookup ("line" : Str) = some (.str (mkS (rowAt R j))) → ρ.lookup ("comment_header" : Str) = some (.str (mkS H)) → ∀ {p1 p2 p3 p4 p5 : Pos},
      IsT1 (fnCx (W0 prog w s₁) P h₀ _ _ 55 _ [] (3 - 1)) ρ (.Compare (.Call (.Name "get_comment_header" p1) [.Name "line" p2] [] p3) [.Eq] [.Name "comment_header" p4] p5) (hdr (rowAt R j) == H) := fun {ρ j} h1 h2 {p1 p2 p3 p4 p5} =>
    IsT1.cast (eqv_mkS _ _) (IsT_cmp (hdrE rfl (Ev_name ok h1 rfl rfl)).any (Ev_name ok h2 rfl rfl) (.eq rfl (Nat.zero_le _)) rfl)
  have tst2 : ∀ {ρ : Env1} {j : Nat}, ρ.lookup ("line" : Str) = some (.str (mkS (rowAt R j))) → ρ.lookup ("comment_header_len" : Str) = some (.int (H.length : Nat)) → ∀ {p5 p6 p7 p8 p9 p10 p11 : Pos},
      IsT1 (fnCx (W0 prog w s₁) P h₀ _ _ 55 _ [] (3 - 1)) ρ (.UnaryOp .Not (.Call (.Name "is_all_white" p6) [.Subscript (.Name "line" p7) (.Slice (some (.Name "comment_header_len" p8)) none none p9) p10] [] p11) p5) (!isw ((rowAt R j).drop H.length)) := fun {ρ j} h1 h3 {p5 p6 p7 p8 p9 p10 p11} =>
    IsT_not (IsT_call (d := .bool (isw ((rowAt R j).drop H.length))) rfl (iaw rfl (Ev.cast (congrArg PV.str (ssl_drop _ _)) (Ev_ssl (Ev_name ok h1 rfl rfl) (.yes (Ev_name ok h3 rfl rfl)) .no))).any)
  -- down to its end
  refine Ex_cons (Ex1_while (fun n ρ => ∃ j, k ≤ j ∧ j ≤ T ∧ n = T - j ∧ SubEnv [("line", .str (mkS (rowAt R j))), ("lineno", .int (j : Nat)), ("text", .raw os (.ref x)), ("comment_header", .str (mkS H)), ("comment_header_len", .int (H.length : Nat)), ("first_lineno", .int (k : Nat))] ρ) (T - k) ⟨k, Nat.le_refl _, hST, rfl, .put rfl (.put rfl (.put rfl (.put rfl (.put rfl (.put rfl .nil)))))⟩ ?_)
  rintro n ρ ⟨j, hj1, hj2, rfl, hρ⟩
  refine ⟨decide (j < T), IsT1.sub hρ ?_, fun h => ?_, fun h => ?_⟩
  · refine IsT1.cast (d := (hdr (rowAt R j) == H) && !isw ((rowAt R j).drop H.length)) ?_ (IsT_and2 (tst1 rfl rfl) fun _ => tst2 rfl rfl)
    show good R H j = _
    by_cases hj : j < T
    · rw [hup j hj1 hj, decide_eq_true hj]
    · rw [show j = T by omega, hstop, decide_eq_false (Nat.lt_irrefl _)]
  · refine Ex.sub ?_ hρ
    have hj := of_decide_eq_true h
    refine Ex_cons (Ex1_assign ok (d := .int ((j + 1 : Nat) : Int)) (Ev.cast (by push_cast; rfl) (Ev_bin (d := .int ((j : Int) + 1)) (Ev_name ok rfl rfl rfl) Ev_int .addI)) ?_ rfl rfl rfl)
    refine Ex_cons (Ex1_assign ok (d := .str (mkS (rowAt R (j + 1)))) (getrow rfl rfl (by omega) rfl) ?_ rfl rfl rfl)
    exact Ex_nil ⟨_, by omega, j + 1, by omega, by omega, rfl, .put rfl (.put rfl (.put rfl (.put rfl (.put rfl (.put rfl .nil)))))⟩
  have hjT : j = T := by have := of_decide_eq_false h; omega
  subst hjT
  refine Ex.sub ?_ hρ
  clear h hρ
  refine Ex_cons (Ex1_assign ok (d := .str (mkS (m0 j))) (Ev_fmt0 (by decide +kernel) (Ev_name ok rfl rfl rfl) (by omega)) ?_ rfl rfl rfl)
  refine Ex_cons (Ex1_assign ok (d := .int ((k - 1 : Nat) : Int)) (Ev.cast (congrArg PV.int (by omega)) (Ev_bin (d := .int ((k : Int) - 1)) (Ev_name ok rfl rfl rfl) Ev_int .subI)) ?_ rfl rfl rfl)
  refine Ex_cons (Ex1_assign ok (d := .str (mkS (rowAt R (k - 1)))) (getrow rfl rfl (by omega) rfl) ?_ rfl rfl rfl)
  -- up to its start
  refine Ex_cons (Ex1_while (fun n ρ => ∃ i, F - 1 ≤ i ∧ i ≤ k - 1 ∧ n = i - (F - 1) ∧ SubEnv [("line", .str (mkS (rowAt R i))), ("lineno", .int (i : Nat)), ("text", .raw os (.ref x)), ("comment_header", .str (mkS H)), ("comment_header_len", .int (H.length : Nat)), ("last", .str (mkS (m0 j)))] ρ) (k - 1 - (F - 1)) ⟨k - 1, by omega, Nat.le_refl _, rfl, .put rfl (.put rfl (.put rfl (.put rfl (.put rfl (.put rfl .nil)))))⟩ ?_)
  rintro n ρ ⟨i, hi1, hi2, rfl, hρ⟩
  refine ⟨decide (F - 1 < i), IsT1.sub hρ ?_, fun h => ?_, fun h => ?_⟩
  · refine IsT1.cast (d := [decide ((0 : Int) < (i : Nat)), (hdr (rowAt R i) == H), !isw ((rowAt R i).drop H.length)].all id) ?_ (IsT_and rfl fun n x t hx ht _ => ?_)
    · have e : [decide ((0 : Int) < (i : Nat)), (hdr (rowAt R i) == H), !isw ((rowAt R i).drop H.length)].all id = (decide ((0 : Int) < (i : Nat)) && good R H i) := by unfold good; simp [Bool.and_assoc]
      rw [e]
      by_cases hi : F - 1 < i
      · rw [hdn i (by omega) (by omega), decide_eq_true hi, Bool.and_true]; exact decide_eq_true (by omega)
      · rw [show i = F - 1 by omega, htop, Bool.and_false, decide_eq_false (Nat.lt_irrefl _)]
    · match n, hx, ht with
      | 0, hx, ht => cases hx; cases ht; exact IsT_cmp (by pv_eval) (by pv_eval) .gt rfl
      | 1, hx, ht => cases hx; cases ht; exact tst1 rfl rfl
      | 2, hx, ht => cases hx; cases ht; exact tst2 rfl rfl
      | n + 3, hx, ht => simp at ht
  · refine Ex.sub ?_ hρ
    have hi := of_decide_eq_true h
    refine Ex_cons (Ex1_assign ok (d := .int ((i - 1 : Nat) : Int)) (Ev.cast (congrArg PV.int (by omega)) (Ev_bin (d := .int ((i : Int) - 1)) (Ev_name ok rfl rfl rfl) Ev_int .subI)) ?_ rfl rfl rfl)
    refine Ex_cons (Ex1_assign ok (d := .str (mkS (rowAt R (i - 1)))) (getrow rfl rfl (by omega) rfl) ?_ rfl rfl rfl)
    exact Ex_nil ⟨_, by omega, i - 1, by omega, by omega, rfl, .put rfl (.put rfl (.put rfl (.put rfl (.put rfl (.put rfl .nil)))))⟩
  have hiF : i = F - 1 := by have := of_decide_eq_false h; omega
  subst hiF
  refine Ex.sub ?_ hρ
  refine Ex_cons (Ex1_assign ok (d := .str (mkS (m0 F))) (Ev_fmt0 (by decide +kernel) (Ev.cast (congrArg PV.int (by omega)) (Ev_bin (d := .int (((F - 1 : Nat) : Int) + 1)) (Ev_name ok rfl rfl rfl) Ev_int .addI)) (by omega)) ?_ rfl rfl rfl)
  refine Ex_cons (Ex1_return (Ev_tuple ok (.cons (Ev_name ok rfl rfl rfl) rfl (.cons (Ev_name ok rfl rfl rfl) rfl (.cons (Ev_name ok rfl rfl rfl) rfl (.cons ?_ rfl .nil)))) rfl) rfl)
  refine (Ev_pgCall (b := true) (k := 3 - 2) ok g KX notTbK kls pg (l := L1) (.inl ⟨rfl, rfl⟩) l1.ok rfl rfl rfl rfl (.cons (Ev_name (d := .str (mkS (m0 F))) ok rfl rfl rfl) rfl (.cons (Ev_name (d := .str (mkS (m0 j))) ok rfl rfl rfl) rfl .nil)) (by show 2 < 30; decide) l1.two.symm (Nat.le_refl _) ?_).any
  exact fun P h₀ f c₁ cl ok' => l1.run P h₀ f c₁ cl _ R _ _ ok' (by decide) rfl ⟨R, F, j, _, rfl, by omega, by omega, hRl, hRs, .inr ⟨rfl, hF1, by omega, rfl⟩⟩
end

/-! ### a row -/
noncomputable def SG11 : List Nat := [97, 35, 32, 9, 98, 12]
noncomputable def sg11 (x : Int) (k : Nat) : Nat := SG11.getD (((x.fdiv 6).fdiv (6 ^ k)).fmod 6).toNat 0
theorem sg11_get (x : Int) (k : Nat) : SG11[(((x.fdiv 6).fdiv (6 ^ k)).fmod 6).toNat]? = some (sg11 x k) := by
  unfold sg11
  have := fmod_range ((x.fdiv 6).fdiv (6 ^ k)) (show (0 : Int) < 6 by decide)
  rw [List.getD_eq_getElem?_getD, List.getElem?_eq_getElem (show _ < 6 by omega)]; rfl
noncomputable def row11s (x : Int) : List Nat := (List.range (x.fmod 6).toNat).map (sg11 x)
theorem row11s_len (x : Int) : (row11s x).length ≤ 5 := by
  have := fmod_range x (show (0 : Int) < 6 by decide)
  unfold row11s; rw [List.length_map, List.length_range]; omega
noncomputable def rowF (ds : List PV) (d : PV) : Prop := ∃ x : Int, ds = [.int x] ∧ d = .str (mkS (row11s x))
noncomputable def du11F (ds : List PV) (d : PV) : Prop := ∃ R a S F T, ds = [.list (SS R), .list (R.map kd), .int (a : Nat)] ∧ R.length ≤ 1000 ∧ (∀ l ∈ R, l.length ≤ 2000) ∧ a ≤ R.length + 2 ∧ FP R a S F T ∧
  d = .tuple [.str (mkS (m0 F)), .str (mkS (m0 T)), .str (mkS (hdr (rowAt R S))), .str (mkS (txt R F T))]
section
variable {w : World} {s₁ : Shared} {prog : Program} {mg mb : Str → Option Value}
theorem fn_row (g : Gl (W0 prog w s₁) mg mb) (KX : (hd.heap_39 w.params).In s₁.heap) : Fn (W0 prog w s₁) 1 127 rowF := by
  refine Fn_of g (fnDef_of (params := ["number"]) (KX 127 _ rfl) rfl rfl rfl rfl rfl rfl rfl rfl (KX 126 _ rfl) rfl rfl (len1 fun a => rfl) (notTbP rfl) rfl rfl rfl rfl) [] 0 ⟨rfl, fun x _ => rfl⟩ (fun ds d ⟨y, h, _⟩ => by rw [h]; rfl) ?_
  rintro P h₀ ds d ok ⟨x, rfl, rfl⟩
  have hr := fmod_range x (show (0 : Int) < 6 by decide)
  obtain ⟨n, hn⟩ : ∃ n : Nat, x.fmod 6 = (n : Int) := ⟨(x.fmod 6).toNat, by omega⟩
  have hn7 : n ≤ 7 := by omega
  have hrow : row11s x = ((List.range n).map fun k => [sg11 x k]).flatten := by unfold row11s; rw [flatten_ones, hn]; rfl
  refine Ex_cons (Ex1_return (Ev.cast (by rw [hrow]) (Ev_meth (d₀ := .str (mkS [])) (ds := [.list (SS ((List.range n).map fun k => [sg11 x k]))]) ok rfl rfl PySem.F.plainAttrs_str PySem.F.slot_str_join PySem.F.type_str_join (by decide) rep_str_type (Ev_str (by decide)) (.cons (EvF.ev ok (EvF.cast (show (List.range n).map (fun k => PV.str (mkS [sg11 x k])) = _ by rw [SS, List.map_map]; rfl) (EvF_compM ok (List.range n) (fun (k : Nat) => .int (0 + (k : Int))) _ (fun x' y h => by injection h with h; have e : x' = y := (by omega); rw [e]) (Ev_callT ok g rfl (mgn_range KX g.g) boot_range rfl (by decide) (.cons (Ev.cast (congrArg PV.int hn) (Ev_bin (d := .int (x.fmod 6)) (Ev_name ok rfl rfl rfl) Ev_int (.modI (by decide)))) rfl .nil) BiOk_range1) ?_ (by rw [sizeLine_is, List.length_range]; omega) rfl [("number", .int x)] (.put rfl rfl .nil) (fun C k hk ok' => ⟨_, Asg_name ok' rfl rfl, .put rfl .nil, ?_⟩) (fun _ => rfl)))) rfl .nil) (BiOk_join0 (by rw [sumL_ones, sizeLine_is, List.length_range]; omega)))) rfl)
  · have := ItOk.range (small_one (a := 0) (b := (n : Int)) (by omega) (by omega) (by omega) (by omega))
    rw [rangeL_up] at this
    simpa using this
  · have h6 := six_pow (k := k) (by have := List.mem_range.mp hk; omega)
    exact Ev_itemS (x := mkS SG11) (k := ((x.fdiv 6).fdiv (6 ^ k)).fmod 6) (Ev_str (by decide)) (Ev_bin (Ev_bin (Ev_bin (by pv_eval) (by pv_eval) (.divI (by decide) (PyProof.noPylong_small (by decide)))) (Ev_pow (n := k) (by pv_eval) (Ev.cast (by rw [Int.zero_add]) (Ev_name (d := .int (0 + (k : Int))) ok' rfl rfl rfl)) (by decide) (by have := List.mem_range.mp hk; omega)) (.divI h6.2 (PyProof.noPylong_small h6.1))) (by pv_eval) (.modI (by decide))) (idx_mod (by decide) rfl) (sg11_get x k) (fun _ _ => rfl)
theorem at_row (g : Gl (W0 prog w s₁) mg mb) (KX : (hd.heap_39 w.params).In s₁.heap) : FnAt (W0 prog w s₁) mg "_law_row" 127 := fnAt_of (mg_law_row KX g.g) (KX 127 _ rfl) rfl

set_option maxHeartbeats 2000000 in
theorem fn_du (g : Gl (W0 prog w s₁) mg mb) (KX : (hd.heap_39 w.params).In s₁.heap) : Fn (W0 prog w s₁) 2 132 du11F := by
  refine Fn_of g (fnDef_of (params := ["rows", "kinds", "mark"]) (KX 132 _ rfl) rfl rfl rfl rfl rfl rfl rfl rfl (KX 131 _ rfl) rfl rfl (len3 fun a b c => rfl) (notTbP rfl) rfl rfl rfl rfl) [] 1 ⟨rfl, fun x hx => rfl⟩ (fun ds d ⟨_, _, _, _, _, h, _⟩ => by rw [h]; rfl) ?_
  rintro P h₀ ds d ok ⟨R, a, S, F, T, rfl, hRl, hRs, han, fp, rfl⟩
  have hlen := mgn_len KX g.g
  have hrange := mgn_range KX g.g
  have hmax := mgn_max KX g.g
  have hmin := mgn_min KX g.g
  have bmax : bootBuiltins "max" = some (.builtin "max") := by decide +kernel
  have bmin : bootBuiltins "min" = some (.builtin "min") := by decide +kernel
  have blR : BiOk (W0 prog w s₁) (.builtin "len") [.list (SS R)] (.int (R.length : Nat)) := by simpa [SS] using BiOk_len_list (ds := SS R)
  have hS1 := fp.S1
  have hSb := fp.Sb
  have hTR := fp.TR
  have hFS := fp.FS
  have hF1 := fp.F1
  have hST := fp.ST
  have hkd : ∀ {k : Nat}, 1 ≤ k → k ≤ R.length → (R.map kd)[k - 1]? = some (kd (rowAt R k)) := fun {k} h1 h2 => by rw [List.getElem?_map, rowAt_in h1 h2]; rfl
  -- begin
  have mx1 : max ((a : Nat) : Int) 1 = ((max a 1 : Nat) : Int) := by omega
  refine Ex_cons (Ex1_assignC ok (d := .range ((max a 1 : Nat) : Int) ((R.length + 1 : Nat) : Int) 1) (Ev_callT ok g rfl hrange boot_range rfl (by decide) (.cons (Ev.cast (congrArg PV.int mx1) (Ev_callB ok g rfl hmax bmax rfl (by decide) (.cons (Ev_name ok rfl rfl rfl) rfl (.cons Ev_int rfl .nil)) BiOk_max2)) rfl (.cons (Ev.cast (by push_cast; rfl) (Ev_bin (d := .int ((R.length : Nat) + 1)) (Ev_callB ok g rfl hlen PySem.boot_len rfl (by decide) (.cons (Ev_name ok rfl rfl rfl) rfl .nil) blR) Ev_int .addI)) rfl .nil)) BiOk_range2) (range_ni (by omega) (by omega)) (by rw [List.length_map, List.length_map, List.length_range, sizeLine_is]; omega) rfl (ρc := [("rows", .list (SS R))]) (.put rfl rfl .nil) (Fi fun k => !isw (rowAt R k)) (fun C d hd ok' => ?_) (fun _ => rfl) ?_ rfl rfl)
  · obtain ⟨k, hk, rfl⟩ := List.mem_map.mp hd
    obtain ⟨j, hj, rfl⟩ := List.mem_map.mp hk
    have hj' := List.mem_range.mp hj
    refine ⟨_, Asg_name ok' rfl rfl, .put rfl .nil, ?_⟩
    have hget := rowAt_in (R := R) (k := max a 1 + j) (by omega) (by omega)
    exact comp_res (p := fun k => !isw (rowAt R k)) (k := max a 1 + j) (IsT1.cast (by rw [eqv_mkS, strip_white]) (IsT_cmp (d₁ := .str (mkS (rstr white (lstr white (rowAt R (max a 1 + j)))))) (d₂ := .str (mkS [])) (Ev_meth (b := false) (d₀ := .str (mkS (rowAt R (max a 1 + j)))) ok' rfl rfl PySem.F.plainAttrs_str PySem.F.slot_str_strip PySem.F.type_str_strip (by decide) rep_str_type (Ev_item (k := ((max a 1 + j - 1 : Nat) : Int)) (j := max a 1 + j - 1) (Ev.seq (Ev_name (d := .list (SS R)) ok' rfl rfl rfl)) (Ev.cast (congrArg PV.int (by omega)) (Ev_bin (d := .int (((max a 1 + j : Nat) : Int) - 1)) (Ev_name ok' rfl rfl rfl) Ev_int .subI)) (idx_nat (by rw [List.length_map]; omega)) (SS_get hget) (fun _ _ => rfl)) .nil BiOk_strip) (Ev_str (by decide)) (.ne rfl (Nat.zero_le _)) rfl)) (Ev_name ok' rfl rfl rfl)
  rw [filt_int, show ((List.range (R.length + 1 - max a 1)).map (max a 1 + ·)).filter (fun k => !isw (rowAt R k)) = bgn R a from rfl]
  have hbg := fp_bgn fp
  have hbl : (bgn R a).length ≤ 1001 := by
    unfold bgn
    refine Nat.le_trans (List.length_filter_le _ _) ?_
    rw [List.length_map, List.length_range]; omega
  have hst0 : (NI (bgn R a) ++ [.int ((max a (R.length + 1) : Nat) : Int)])[0]? = some (.int (S : Nat)) := by
    rcases hbg with ⟨_, r, e⟩ | ⟨e1, e2⟩
    · rw [e]; rfl
    · rw [e2, e1]; rfl
  have mx2 : max ((a : Nat) : Int) ((R.length : Nat) + 1) = ((max a (R.length + 1) : Nat) : Int) := by omega
  refine Ex_cons (Ex1_assign ok (d := .int (S : Nat)) (Ev_item (k := 0) (j := 0) (EvF.seq (EvF_cat ok (Ev.seq (Ev_name ok rfl rfl rfl)) (EvF.seq (EvF_list (ds := [.int ((max a (R.length + 1) : Nat) : Int)]) ok (.cons (Ev.cast (congrArg PV.int mx2) (Ev_callB ok g rfl hmax bmax rfl (by decide) (.cons (Ev_name ok rfl rfl rfl) rfl (.cons (Ev_bin (d := .int ((R.length : Nat) + 1)) (Ev_callB ok g rfl hlen PySem.boot_len rfl (by decide) (.cons (Ev_name ok rfl rfl rfl) rfl .nil) blR) Ev_int .addI) rfl .nil)) BiOk_max2)) rfl .nil) rfl)) (by rw [List.length_map, sizeLine_is]; simp; omega))) (by pv_eval) (idx_nat (i := 0) (by simp)) hst0 (fun _ _ => rfl)) ?_ rfl rfl rfl)
  -- header
  have htk : lsl (NI (bgn R a)) none (some 1) = NI ((bgn R a).take 1) := by rw [show (1 : Int) = ((1 : Nat) : Int) from rfl, lsl_to, NI, NI, List.map_take]
  have hhd : (((bgn R a).take 1).map fun k => hdr (rowAt R k)).flatten = hdr (rowAt R S) := by
    rcases hbg with ⟨_, r, e⟩ | ⟨e1, e2⟩
    · rw [e]; simp
    · rw [e2, rowAt_out (.inr (by omega))]; rfl
  have hmem : ∀ k ∈ (bgn R a).take 1, 1 ≤ k ∧ k ≤ R.length := fun k hk => by
    have := List.mem_of_mem_take hk
    unfold bgn at this
    obtain ⟨h1, _⟩ := List.mem_filter.mp this
    obtain ⟨j, hj, rfl⟩ := List.mem_map.mp h1
    have := List.mem_range.mp hj
    omega
  have hHlen : (hdr (rowAt R S)).length ≤ 2000 := by unfold hdr; rw [List.length_take]; have := rowAt_len (k := S) hRs; omega
  refine Ex_cons (Ex1_assign ok (d := .str (mkS (hdr (rowAt R S)))) (Ev.cast (by rw [hhd]) (Ev_meth (d₀ := .str (mkS [])) (ds := [.list (SS (((bgn R a).take 1).map fun k => hdr (rowAt R k)))]) ok rfl rfl PySem.F.plainAttrs_str PySem.F.slot_str_join PySem.F.type_str_join (by decide) rep_str_type (Ev_str (by decide)) (.cons (EvF.ev ok (EvF.cast (show ((bgn R a).take 1).map (fun k => PV.str (mkS (hdr (rowAt R k)))) = _ by rw [SS, List.map_map]; rfl) (EvF_compM ok ((bgn R a).take 1) (fun (k : Nat) => .int (k : Nat)) _ (fun x y h => by injection h with h; have e : x = y := (by omega); rw [e]) (EvF.ev ok (EvF.cast htk (EvF_lsl ok (Ev.seq (Ev_name ok rfl rfl rfl)) .no (.yes (i := 1) (by pv_eval))))) .list (by rw [sizeLine_is, List.length_take]; omega) rfl [("kinds", .list (R.map kd))] (.put rfl rfl .nil) (fun C k hk ok' => ⟨_, Asg_name ok' rfl rfl, .put rfl .nil, ?_⟩) (fun _ => rfl)))) rfl .nil) (BiOk_join0 (by rw [sumL_flat, hhd, sizeLine_is]; omega)))) ?_ rfl rfl rfl)
  · have hk' := hmem k hk
    exact Ev_itemT (k := 0) (j := 0) (ds := [.str (mkS (hdr (rowAt R k))), .bool (!isw ((rowAt R k).drop (hdr (rowAt R k)).length))]) (Ev_item (k := ((k - 1 : Nat) : Int)) (j := k - 1) (d := kd (rowAt R k)) (Ev.seq (Ev_name (d := .list (R.map kd)) ok' rfl rfl rfl)) (Ev.cast (congrArg PV.int (by omega)) (Ev_bin (d := .int (((k : Nat) : Int) - 1)) (Ev_name ok' rfl rfl rfl) Ev_int .subI)) (idx_nat (by rw [List.length_map]; omega)) (hkd hk'.1 hk'.2) (fun _ _ => rfl)) (by pv_eval) rfl rfl (fun _ _ => rfl)
  obtain ⟨H, hH⟩ : ∃ H, hdr (rowAt R S) = H := ⟨_, rfl⟩
  rw [hH] at hHlen ⊢
  -- other
  have hrg : ItOk (.range 1 ((R.length + 1 : Nat) : Int) 1) (NI ((List.range R.length).map (1 + ·))) := range_ni (a := 1) (n := R.length + 1) (by omega) (by omega)
  refine Ex_cons (Ex1_assignC ok (d := .range 1 ((R.length + 1 : Nat) : Int) 1) (Ev_callT ok g rfl hrange boot_range rfl (by decide) (.cons Ev_int rfl (.cons (Ev.cast (by push_cast; rfl) (Ev_bin (d := .int ((R.length : Nat) + 1)) (Ev_callB ok g rfl hlen PySem.boot_len rfl (by decide) (.cons (Ev_name ok rfl rfl rfl) rfl .nil) blR) Ev_int .addI)) rfl .nil)) BiOk_range2) hrg (by rw [List.length_map, List.length_map, List.length_range, sizeLine_is]; omega) rfl (ρc := [("kinds", .list (R.map kd)), ("header", .str (mkS H))]) (.put rfl rfl (.put rfl rfl .nil)) (Fi fun k => !good R H k) (fun C d hd ok' => ?_) (fun _ => rfl) ?_ rfl rfl)
  · obtain ⟨k, hk, rfl⟩ := List.mem_map.mp hd
    obtain ⟨j, hj, rfl⟩ := List.mem_map.mp hk
    have hj' := List.mem_range.mp hj
    refine ⟨_, Asg_name ok' rfl rfl, .put rfl (.put rfl .nil), ?_⟩
    exact comp_res (p := fun k => !good R H k) (k := 1 + j) (IsT1.cast (by rw [kd_good]) (IsT_cmp (d₁ := kd (rowAt R (1 + j))) (d₂ := .tuple [.str (mkS H), .bool true]) (Ev_item (k := ((j : Nat) : Int)) (j := 1 + j - 1) (Ev.seq (Ev_name (d := .list (R.map kd)) ok' rfl rfl rfl)) (Ev.cast (congrArg PV.int (by omega)) (Ev_bin (d := .int (((1 + j : Nat) : Int) - 1)) (Ev_name ok' rfl rfl rfl) Ev_int .subI)) (by rw [show 1 + j - 1 = j by omega]; exact idx_nat (by rw [List.length_map]; omega)) (hkd (by omega) (by omega)) (fun _ _ => rfl)) (Ev_tuple ok' (.cons (Ev_name ok' rfl rfl rfl) rfl (.cons Ev_bool rfl .nil)) rfl) (.ne rfl (by simp [kd, PV.deep, PV.deeps])) rfl)) (Ev_name ok' rfl rfl rfl)
  rw [filt_int, strg_shift]
  have hol : (strg R H).length ≤ 1000 := by
    unfold strg
    refine Nat.le_trans (List.length_filter_le _ _) ?_
    rw [List.length_map, List.length_range]; omega
  have hmo : ∀ k, k ∈ strg R H ↔ 1 ≤ k ∧ k ≤ R.length ∧ good R H k = false := fun k => mem_strg
  generalize strg R H = O at hmo hol
  have compO : ∀ {ρ : Env1} (m : Nat) (p : Nat → Bool) (elt target iter : Expr) (t : Expr) (scope : Scope) (pos : Pos), EvF (fnCx (W0 prog w s₁) P h₀ _ _ 132 _ [] 1) ρ iter (NI (O ++ [m])) → compOk (fnCx (W0 prog w s₁) P h₀ _ _ 132 _ [] 1).env scope = true → CapEnv [("start", .int (S : Nat))] ρ scope →
      (∀ x, foldedSetIterable iter (fnCx (W0 prog w s₁) P h₀ _ _ 132 _ [] 1).env x = pure x) →
      (∀ C k, ((fnCx (W0 prog w s₁) P h₀ _ _ 132 _ [] 1).inner scope C).Ok → ∃ ρ', Asg ((fnCx (W0 prog w s₁) P h₀ _ _ 132 _ [] 1).inner scope C) target (.int ((k : Nat) : Int)) [("start", .int (S : Nat))] ρ' ∧ SubEnv [("start", .int (S : Nat))] ρ' ∧ IsT1 ((fnCx (W0 prog w s₁) P h₀ _ _ 132 _ [] 1).inner scope C) ρ' t (p k) ∧ Ev ((fnCx (W0 prog w s₁) P h₀ _ _ 132 _ [] 1).inner scope C) ρ' true elt (.int ((k : Nat) : Int))) →
      EvF (fnCx (W0 prog w s₁) P h₀ _ _ 132 _ [] 1) ρ (.ListComp elt [⟨target, iter, [t], 0⟩] scope pos) (NI ((O ++ [m]).filter p)) := fun {ρ} m p elt target iter t scope pos h0 h1 h2 hs h3 => by
    rw [← filt_int p (O ++ [m])]
    refine EvF_comp ok (d := .list (NI (O ++ [m]))) (EvF.ev ok h0) .list (by rw [List.length_map, List.length_append, sizeLine_is]; simp; omega) h1 h2 (Fi p) (fun C d hd ok' => ?_) hs
    obtain ⟨k, hk, rfl⟩ := List.mem_map.mp hd
    obtain ⟨ρ', q1, q2, q3, q4⟩ := h3 C k ok'
    exact ⟨ρ', q1, q2, comp_res q3 q4⟩
  have bmx : BiOk (W0 prog w s₁) (.builtin "max") [.list ([.int 0] ++ NI ((O ++ [R.length + 1]).filter fun k => decide (k < S)))] (.int ((F - 1 : Nat) : Int)) := by
    have e : ([.int 0] ++ NI ((O ++ [R.length + 1]).filter fun k => decide (k < S)) : List PV) = ((0 :: (O ++ [R.length + 1]).filter fun k => decide (k < S)).map fun (k : Nat) => (k : Int)).map PV.int := by rw [← NI_ints]; rfl
    rw [e]
    refine BiOk_maxL (List.mem_map.mpr ⟨F - 1, ?_, rfl⟩) fun x hx => ?_
    · rw [← hH] at hmo
      rcases fp.top_mem with q | q | q
      · rw [q]; exact List.mem_cons_self
      · refine List.mem_cons_of_mem _ (List.mem_filter.mpr ⟨List.mem_append.mpr (.inl ((hmo _).mpr (mem_strg.mp q))), decide_eq_true (by omega)⟩)
      · refine List.mem_cons_of_mem _ (List.mem_filter.mpr ⟨List.mem_append.mpr (.inr ?_), decide_eq_true (by omega)⟩)
        rw [show F - 1 = R.length + 1 by omega]; exact List.mem_cons_self
    · obtain ⟨k, hk, rfl⟩ := List.mem_map.mp hx
      rcases List.mem_cons.mp hk with rfl | hk
      · omega
      · obtain ⟨k1, k2⟩ := List.mem_filter.mp hk
        have hg : good R H k = false := by
          rcases List.mem_append.mp k1 with k1 | k1
          · exact ((hmo k).mp k1).2.2
          · rw [List.mem_singleton.mp k1]; exact good_out (.inr (by omega))
        rw [← hH] at hg
        have := fp.top_le (of_decide_eq_true k2) hg
        omega
  have bmn : BiOk (W0 prog w s₁) (.builtin "min") [.list (NI ((O ++ [max S (R.length + 1)]).filter fun k => decide (S ≤ k)))] (.int ((T : Nat) : Int)) := by
    rw [NI_ints]
    refine BiOk_minL (List.mem_map.mpr ⟨T, List.mem_filter.mpr ⟨List.mem_append.mpr ?_, decide_eq_true hST⟩, rfl⟩) fun x hx => ?_
    · have := fp.stop
      rw [hH] at this
      by_cases hT : T ≤ R.length
      · exact .inl ((hmo _).mpr ⟨by omega, hT, this⟩)
      · right; rw [show T = max S (R.length + 1) by omega]; exact List.mem_cons_self
    · obtain ⟨k, hk, rfl⟩ := List.mem_map.mp hx
      obtain ⟨k1, k2⟩ := List.mem_filter.mp hk
      rcases List.mem_append.mp k1 with k1 | k1
      · have := ((hmo k).mp k1).2.2
        rw [← hH] at this
        have := fp.stop_le (of_decide_eq_true k2) this
        omega
      · rw [List.mem_singleton.mp k1]; omega
  refine Ex_cons (Ex1_assign ok (d := .int ((F : Nat) : Int)) (Ev.cast (congrArg PV.int (by omega)) (Ev_bin (d := .int (((F - 1 : Nat) : Int) + 1)) (Ev_callB ok g rfl hmax bmax rfl (by decide) (.cons (EvF.ev ok (EvF_cat ok (EvF.seq (EvF_list ok (.cons Ev_int rfl .nil) rfl)) (EvF.seq (compO (R.length + 1) (fun k => decide (k < S)) _ _ _ _ _ _ (EvF.cast (by simp [NI]) (EvF_cat ok (Ev.seq (Ev_name ok rfl rfl rfl)) (EvF.seq (EvF_list (ds := [.int ((R.length + 1 : Nat) : Int)]) ok (.cons (Ev.cast (by push_cast; rfl) (Ev_bin (d := .int ((R.length : Nat) + 1)) (Ev_callB ok g rfl hlen PySem.boot_len rfl (by decide) (.cons (Ev_name ok rfl rfl rfl) rfl .nil) blR) Ev_int .addI)) rfl .nil) rfl)) (by rw [List.length_map, sizeLine_is]; simp; omega))) rfl (.put rfl rfl .nil) (fun _ => rfl) fun C k ok' => ⟨_, Asg_name ok' rfl rfl, .put rfl .nil, IsT1.cast (decide_eq_decide.mpr (by omega)) (IsT_cmp (d₁ := .int ((k : Nat) : Int)) (d₂ := .int (S : Nat)) (Ev_name ok' rfl rfl rfl) (Ev_name ok' rfl rfl rfl) .lt rfl), Ev_name ok' rfl rfl rfl⟩)) (by rw [List.length_map, sizeLine_is]; have := List.length_filter_le (fun k => decide (k < S)) (O ++ [R.length + 1]); rw [List.length_append] at this; simp only [List.length_cons, List.length_nil] at this ⊢; omega))) rfl .nil) bmx) Ev_int .addI)) ?_ rfl rfl rfl)
  have mx3 : max ((S : Nat) : Int) ((R.length : Nat) + 1) = ((max S (R.length + 1) : Nat) : Int) := by omega
  refine Ex_cons (Ex1_assign ok (d := .int ((T : Nat) : Int)) (Ev_callB ok g rfl hmin bmin rfl (by decide) (.cons (EvF.ev ok (compO (max S (R.length + 1)) (fun k => decide (S ≤ k)) _ _ _ _ _ _ (EvF.cast (by simp [NI]) (EvF_cat ok (Ev.seq (Ev_name ok rfl rfl rfl)) (EvF.seq (EvF_list (ds := [.int ((max S (R.length + 1) : Nat) : Int)]) ok (.cons (Ev.cast (congrArg PV.int mx3) (Ev_callB ok g rfl hmax bmax rfl (by decide) (.cons (Ev_name ok rfl rfl rfl) rfl (.cons (Ev_bin (d := .int ((R.length : Nat) + 1)) (Ev_callB ok g rfl hlen PySem.boot_len rfl (by decide) (.cons (Ev_name ok rfl rfl rfl) rfl .nil) blR) Ev_int .addI) rfl .nil)) BiOk_max2)) rfl .nil) rfl)) (by rw [List.length_map, sizeLine_is]; simp; omega))) rfl (.put rfl rfl .nil) (fun _ => rfl) fun C k ok' => ⟨_, Asg_name ok' rfl rfl, .put rfl .nil, IsT1.cast (decide_eq_decide.mpr (by omega)) (IsT_cmp (d₁ := .int ((k : Nat) : Int)) (d₂ := .int (S : Nat)) (Ev_name ok' rfl rfl rfl) (Ev_name ok' rfl rfl rfl) .ge rfl), Ev_name ok' rfl rfl rfl⟩)) rfl .nil) bmn) ?_ rfl rfl rfl)
  have hsl : lsl (SS R) (some ((F - 1 : Nat) : Int)) (some ((T - 1 : Nat) : Int)) = SS ((R.drop (F - 1)).take (T - F)) := by
    rw [lsl_any (by omega), SS, SS, List.map_take, List.map_drop, show T - 1 - (F - 1) = T - F by omega]
  have hz := join_get hRl hRs (F - 1) (T - F)
  refine Ex_cons (Ex1_assign ok (d := .str (mkS (txt R F T))) (Ev_meth (d₀ := .str (mkS [])) (ds := [.list (SS (((R.drop (F - 1)).take (T - F)).map (· ++ [10])))]) ok rfl rfl PySem.F.plainAttrs_str PySem.F.slot_str_join PySem.F.type_str_join (by decide) rep_str_type (Ev_str (by decide)) (.cons (EvF.ev ok (EvF.cast (by rw [SS, List.map_map]; rfl) (EvF_compM ok ((R.drop (F - 1)).take (T - F)) (fun l => .str (mkS l)) (fun l => .str (mkS (l ++ [10]))) (fun x y h => by rw [mkS_inj h]) (EvF.ev ok (EvF.cast hsl (EvF_lsl ok (Ev.seq (Ev_name ok rfl rfl rfl)) (.yes (Ev.cast (congrArg PV.int (by omega)) (Ev_bin (d := .int (((F : Nat) : Int) - 1)) (Ev_name ok rfl rfl rfl) Ev_int .subI))) (.yes (Ev.cast (congrArg PV.int (by omega)) (Ev_bin (d := .int (((T : Nat) : Int) - 1)) (Ev_name ok rfl rfl rfl) Ev_int .subI)))))) .list (by rw [sizeLine_is, List.length_take, List.length_drop]; omega) rfl [] .nil (fun C l hl' ok' => ⟨_, Asg_name ok' rfl rfl, .nil, Ev.cast (congrArg PV.str (mkS_app l [10])) (Ev_bin (Ev_name (d := .str (mkS l)) ok' rfl rfl rfl) (Ev_str (x := mkS [10]) (by decide)) (.addS (by have := hRs l (List.mem_of_mem_drop (List.mem_of_mem_take hl')); rw [mkS_len, mkS_len, sizeLine_is]; simp; omega)))⟩) (fun _ => rfl)))) rfl .nil) (BiOk_join0 (by rw [sizeLine_is]; omega))) ?_ rfl rfl rfl)
  exact Ex_cons (Ex1_return (Ev_tuple ok (.cons (Ev_fmt0 (by decide +kernel) (Ev_name ok rfl rfl rfl) (by omega)) rfl (.cons (Ev_fmt0 (by decide +kernel) (Ev_name ok rfl rfl rfl) (by omega)) rfl (.cons (Ev_name ok rfl rfl rfl) rfl (.cons (Ev_name ok rfl rfl rfl) rfl .nil)))) rfl) rfl)
theorem at_du (g : Gl (W0 prog w s₁) mg mb) (KX : (hd.heap_39 w.params).In s₁.heap) : FnAt (W0 prog w s₁) mg "_law_due" 132 := fnAt_of (mg_law_due KX g.g) (KX 132 _ rfl) rfl
end

noncomputable def mk11 (d : Int) (n k : Nat) : Nat := (((d.fdiv 8).fdiv ((n : Int) ^ k) + ((k : Int) * n).fdiv 4).fmod n).toNat
theorem mk11_lt {d : Int} {n k : Nat} (h : 0 < n) : ((d.fdiv 8).fdiv ((n : Int) ^ k) + ((k : Int) * n).fdiv 4).fmod n = (mk11 d n k : Int) ∧ mk11 d n k < n := by
  have := fmod_range ((d.fdiv 8).fdiv ((n : Int) ^ k) + ((k : Int) * n).fdiv 4) (show (0 : Int) < n by omega)
  unfold mk11; omega
section
variable {w : World} {s₁ : Shared} {prog : Program} {mg mb : Str → Option Value}
set_option maxHeartbeats 4000000 in
theorem fn_law (g : Gl (W0 prog w s₁) mg mb) (KX : (hd.heap_39 w.params).In s₁.heap) (X : Tabs s₁.heap [(121, 117)]) (BM : BMain s₁.heap mg) : FnT (W0 prog w s₁) 6 137 LawF := by
  obtain ⟨L1, L2, F0, l1, l2⟩ := page_all g KX X BM
  have F1 := fn_fp (pm := (mg "__name__").getD .none) g KX l1 l2
  have F2 := fn_du g KX
  have F3 := fn_lin g KX
  have F4 := fn_row g KX
  have F5 := fn_hdr g KX
  have A0 : FnAt (W0 prog w s₁) mg "_law_page" 122 := fnAt_of (mg_law_page KX g.g) (KX 122 _ rfl) rfl
  have A1 : FnAt (W0 prog w s₁) mg "find_paragraph" 55 := fnAt_of (mg_find_paragraph KX g.g) (KX 55 _ rfl) rfl
  have A2 := at_du g KX
  have A3 := at_lin g KX
  have A4 := at_row g KX
  have A5 := at_hdr g KX
  have hlen := mgn_len KX g.g
  have hrange := mgn_range KX g.g
  have hint := mgn_int KX g.g
  have htype := mgn_type KX g.g
  refine FnT_of g (fnDef_of (params := ["script"]) (KX 137 _ rfl) rfl rfl rfl rfl rfl rfl rfl rfl (KX 136 _ rfl) rfl rfl (len1 fun a => rfl) (notTbP rfl) rfl rfl rfl rfl) ["kinds"] 5 ⟨rfl, fun x hx => by rw [List.mem_singleton.mp hx]; rfl⟩ (fun ds d ⟨ns, _, h, _⟩ => by rw [h]; rfl) ?_
  rintro h₀ ds d ok ⟨ns, hns, rfl, rfl⟩
  obtain ⟨R, hR, hRl, hR0, hRs⟩ : ∃ R : List (List Nat), (if (ns.take 8).map row11s = [] then [[97]] else (ns.take 8).map row11s) = R ∧ R.length ≤ 8 ∧ 0 < R.length ∧ ∀ l ∈ R, l.length ≤ 5 := by
    refine ⟨_, rfl, ?_, ?_, ?_⟩
    · split
      · simp
      · rw [List.length_map, List.length_take]; omega
    · split
      · simp
      · rename_i h; exact List.length_pos_iff.mpr h
    · split
      · simp
      · intro l hl
        obtain ⟨x, _, rfl⟩ := List.mem_map.mp hl
        exact row11s_len x
  have hsl : ∀ n : Nat, lsl (ns.map PV.int) none (some ((n : Nat) : Int)) = (ns.take n).map PV.int := fun n => by rw [lsl_to, List.map_take]
  refine Ex_cons (Ex1_assign ok (d := .list (SS R)) (Ev.cast ?_ (Ev_orV (d₁ := .list (SS ((ns.take 8).map row11s))) (d₂ := .list (SS [[97]])) rfl (EvF.ev ok (EvF.cast (show (ns.take 8).map (fun x => PV.str (mkS (row11s x))) = _ by rw [SS, List.map_map]; rfl) (EvF_compM ok (ns.take 8) PV.int _ (fun x y h => by injection h with h; rw [h]) (EvF.ev ok (EvF.cast (hsl 8) (EvF_lsl (li := none) (hj := some 8) ok (Ev.seq (Ev_name ok rfl rfl rfl)) .no (.yes (i := 8) (by pv_eval))))) .list (by rw [sizeLine_is, List.length_take]; omega) rfl [] .nil (fun C x hx ok' => ⟨_, Asg_name ok' rfl rfl, .nil, Ev_callU ok' g rfl A4 rfl F4 (by show 1 ≤ 5; decide) (.cons (Ev_name (d := .int x) ok' rfl rfl rfl) rfl .nil) ⟨x, rfl, rfl⟩⟩) (fun _ => rfl)))) fun _ => EvF.ev ok (EvF_list ok (.cons (Ev_str (by decide)) rfl .nil) rfl))) ?_ rfl rfl rfl)
  · rw [← hR]
    cases e : (ns.take 8).map row11s with
    | nil => rfl
    | cons x r => rfl
  clear hR
  have blR : ∀ R : List (List Nat), BiOk (W0 prog w s₁) (.builtin "len") [.list (SS R)] (.int (R.length : Nat)) := fun R => by simpa [SS] using BiOk_len_list (ds := SS R)
  -- drawn, count
  refine Ex_cons (Ex1_swap ok (names := ["drawn", "count"]) (ds := [.int (ns.sum.fdiv 46656), .int ((R.length + 3 : Nat) : Int)]) (Ev_tuple ok (.cons (Ev_bin (Ev_callB ok g rfl (mgn_sum KX g.g) (by decide +kernel : bootBuiltins "sum" = some (.builtin "sum")) rfl (by decide) (.cons (Ev_name ok rfl rfl rfl) rfl .nil) BiOk_sum) (d₂ := .int 46656) (Ev.cast (congrArg PV.int (by decide)) (Ev_pow (a := 6) (n := 6) Ev_int Ev_int (by decide) (by decide))) (.divI (by decide) (PyProof.noPylong_small (by decide)))) rfl (.cons (Ev.cast (by push_cast; rfl) (Ev_bin (d := .int ((R.length : Nat) + 3)) (Ev_callB ok g rfl hlen PySem.boot_len rfl (by decide) (.cons (Ev_name ok rfl rfl rfl) rfl .nil) (blR R)) Ev_int .addI)) rfl .nil)) rfl) rfl rfl ?_ rfl rfl)
  generalize ns.sum.fdiv 46656 = D
  obtain ⟨v, hv, hv0, hv8⟩ : ∃ v : Nat, 1 + D.fmod 8 = (v : Int) ∧ 0 < v ∧ v ≤ 8 := by
    have := fmod_range D (show (0 : Int) < 8 by decide)
    exact ⟨(1 + D.fmod 8).toNat, by omega, by omega, by omega⟩
  refine Ex_cons (Ex1_assign ok (d := .int (v : Nat)) (Ev.cast (congrArg PV.int hv) (Ev_bin (d := .int (1 + D.fmod 8)) Ev_int (Ev_bin (d := .int (D.fmod 8)) (Ev_name ok rfl rfl rfl) Ev_int (.modI (by decide))) .addI)) ?_ rfl rfl rfl)
  have hxl : ∀ l ∈ R, (xt v 0 l).length ≤ 40 := fun l hl => by
    have h1 := xt_len hv0 l
    have h2 := hRs l hl
    have h3 : v * l.length ≤ 8 * 5 := Nat.mul_le_mul hv8 h2
    omega
  refine Ex_cons (Ex1_assignCM ok R (fun l => .str (mkS l)) (fun l => .str (mkS (xt v 0 l))) (fun x y h => by rw [mkS_inj h]) (Ev_name ok rfl rfl rfl) .list (by rw [sizeLine_is]; omega) rfl [("width", .int (v : Nat))] (.put rfl rfl .nil) (fun C l hl ok' => ⟨_, Asg_name ok' rfl rfl, .put rfl .nil, ?_⟩) (fun _ => rfl) ?_ rfl rfl)
  · exact Ev_meth (d₀ := .str (mkS l)) (d := .str (mkS (xt v 0 l))) ok' rfl rfl PySem.F.plainAttrs_str PySem.F.slot_str_expandtabs PySem.F.type_str_expandtabs (by decide) rep_str_type (Ev_name ok' rfl rfl rfl) (.cons (Ev_name ok' rfl rfl rfl) rfl .nil) (BiOk_expandI hv0 (by omega) (by rw [Sl_mkS, sizeLine_is]; have := hxl l hl; omega))
  rw [show R.map (fun l => PV.str (mkS (xt v 0 l))) = SS (R.map (xt v 0)) by rw [SS, List.map_map]; rfl]
  refine Ex_cons (Ex1_assignOwn ok (EvF_list ok .nil rfl) ?_ rfl rfl rfl)
  -- the rows
  refine Ex_cons (Ex1_for ok (d := .range 0 ((R.length : Nat) : Int) 1) (Ev_callT ok g rfl hrange boot_range rfl (by decide) (.cons (Ev_callB ok g rfl hlen PySem.boot_len rfl (by decide) (.cons (Ev_name ok rfl rfl rfl) rfl .nil) (blR R)) rfl .nil) BiOk_range1) (range_ni (a := 0) (by omega) (by omega))
    (fun i ρ => SubEnv [("kinds", .list ((R.take i).map fun r => kd (xt v 0 r))), ("blank", .list (SS (R.map (xt v 0)))), ("width", .int (v : Nat)), ("drawn", .int D), ("count", .int ((R.length + 3 : Nat) : Int)), ("rows", .list (SS R))] ρ) (.put rfl (.put rfl (.put rfl (.put rfl (.put rfl (.put rfl .nil)))))) ?_ ?_ (fun _ => rfl))
  · intro i d ρ hd hI
    rw [NI, List.map_map] at hd
    obtain ⟨hi, rfl⟩ := range_get hd
    have hi' : i < R.length := by omega
    have hfi : (((fun k => PV.int ((k : Nat) : Int)) ∘ (0 + ·)) i) = PV.int ((i : Nat) : Int) := by simp
    rw [hfi]
    obtain ⟨r, hr⟩ : ∃ r, R[i]? = some r := ⟨_, List.getElem?_eq_getElem hi'⟩
    have hrm := List.mem_of_getElem? hr
    have hrl := hRs r hrm
    have hrx := hxl r hrm
    obtain ⟨n, h, q⟩ := row11 hv0 r
    have hb : (R.map (xt v 0))[i]? = some (xt v 0 r) := by rw [List.getElem?_map, hr]; rfl
    have hlead := lead_le blank r
    have hhl : (hdr r).length = lead blank r + h := by rw [q.hd, List.length_append, List.length_take, List.length_replicate]; omega
    have hhr : (hdr r).length ≤ r.length := by unfold hdr; rw [List.length_take]; omega
    have hnl : n ≤ 40 := by
      have h1 := xt_len hv0 (r.take (lead blank r))
      rw [q.cols, List.length_take] at h1
      have h3 : v * min (lead blank r) r.length ≤ 8 * 5 := Nat.mul_le_mul hv8 (by omega)
      omega
    have hhd : hdl r = (hdr r).length := by rw [hhl, q.hl]
    refine ⟨_, Asg_name ok rfl rfl, Ex.sub ?_ (SubEnv.both hI)⟩
    have rowE : ∀ {ρ : Env1} {b : Bool} {p1 p2 p3 : Pos}, ρ.lookup ("rows" : Str) = some (.list (SS R)) → ρ.lookup ("k" : Str) = some (.int ((i : Nat) : Int)) → Ev (fnCx (W0 prog w s₁) (fun _ => True) h₀ _ _ 137 _ ["kinds"] 5) ρ b (.Subscript (.Name "rows" p1) (.Name "k" p2) p3) (.str (mkS r)) := fun {ρ b p1 p2 p3} e1 e2 => Ev_item (k := ((i : Nat) : Int)) (j := i) (Ev.seq (Ev_name ok e1 rfl rfl)) (Ev_name ok e2 rfl rfl) (idx_nat (by rw [List.length_map]; omega)) (SS_get hr) (fun _ _ => rfl)
    refine Ex_cons (Ex1_tuple (ds := [.int ((lead blank r : Nat) : Int), .int ((n : Nat) : Int)]) (Ev_callU ok g rfl A3 rfl F3 (by show 1 ≤ 5; decide) (.cons (rowE rfl rfl) rfl (.cons (Ev_name ok rfl rfl rfl) rfl .nil)) ⟨mkS r, v, rfl, hv0, by omega, by rw [Sl_mkS, q.cols, sizeLine_is]; omega, by rw [Sl_mkS, q.cols]⟩) (.cons (Asg_name ok rfl rfl) rfl (.cons (Asg_name ok rfl rfl) rfl .nil)) ?_ rfl rfl)
    refine Ex_cons (Ex1_if (k := false) (IsT_or2 (t := false) (u := false) (IsT_typeInt ok g rfl rfl htype hint (Ev_name ok rfl rfl rfl) rfl) fun _ => IsT_typeInt ok g rfl rfl htype hint (Ev_name ok rfl rfl rfl) rfl) (fun h => by cases h) fun _ => Ex_nil ?_)
    refine Ex_cons (Ex1_assign ok (d := .str (mkS (hdr r))) (Ev_callU ok g rfl A5 rfl F5 (by show 1 ≤ 5; decide) (.cons (rowE rfl rfl) rfl .nil) ⟨mkS r, rfl, rfl⟩) ?_ rfl rfl rfl)
    refine Ex_cons (Ex1_assign ok (d := .str (mkS (r.drop (hdr r).length))) (Ev.cast (congrArg PV.str (ssl_drop r _)) (Ev_ssl (rowE rfl rfl) (.yes (Ev_callB ok g rfl hlen PySem.boot_len rfl (by decide) (.cons (Ev_name ok rfl rfl rfl) rfl .nil) BiOk_len_mkS)) .no)) ?_ rfl rfl rfl)
    refine Ex_cons (Ex1_assign ok (d := .str (mkS (List.replicate h 35))) (rep_ev (ch := 35) (n := h) (e := (((hdr r).length : Nat) : Int) - (lead blank r : Nat)) (Ev_bin (Ev_callB ok g rfl hlen PySem.boot_len rfl (by decide) (.cons (Ev_name ok rfl rfl rfl) rfl .nil) BiOk_len_mkS) (Ev_name ok rfl rfl rfl) .subI) (by omega) (by omega)) ?_ rfl rfl rfl)
    refine Ex_cons (Ex1_if (k := false) (IsT_or3 (t := false) (u := false) (w := false) (IsT1.cast ?_ (IsT_cmp (d₁ := .str (mkS (hdr r))) (d₂ := .str (mkS (r.take (lead blank r) ++ List.replicate h 35))) (Ev_name ok rfl rfl rfl) (str_cat (Ev.cast (congrArg PV.str (ssl_take r _)) (Ev_ssl (rowE rfl rfl) .no (.yes (Ev_name ok rfl rfl rfl)))) (Ev_name ok rfl rfl rfl) (by rw [List.length_take, List.length_replicate, sizeLine_is]; omega)) (.ne rfl (Nat.zero_le _)) rfl)) (fun _ => IsT1.cast ?_ (IsT_cmp (d₁ := .str (mkS ((r.drop (hdr r).length).take 1))) (d₂ := .str (mkS [35])) (Ev.cast (congrArg PV.str (ssl_take _ 1)) (Ev_ssl (hj := some 1) (Ev_name ok rfl rfl rfl) .no (.yes Ev_int))) (Ev_str (by decide)) (.eq rfl (Nat.zero_le _)) rfl)) fun _ _ => IsT1.cast ?_ (IsT_cmp (d₁ := .str (mkS ((r.drop (lead blank r)).take 1))) (d₂ := .list [.str (mkS [32]), .str (mkS [9])]) (Ev.cast (congrArg PV.str (ssl_take _ 1)) (Ev_ssl (hj := some 1) (Ev.cast (congrArg PV.str (ssl_drop r _)) (Ev_ssl (rowE rfl rfl) (.yes (Ev_name ok rfl rfl rfl)) .no)) .no (.yes Ev_int))) (EvF.ev ok (EvF_list ok (.cons (Ev_str (by decide)) rfl (.cons (Ev_str (by decide)) rfl .nil)) rfl)) (.inL rfl (fun d hd => by simp only [List.mem_cons, List.not_mem_nil, or_false] at hd; rcases hd with rfl | rfl <;> exact ⟨rfl, Nat.zero_le _⟩)) rfl)) (fun h => by cases h) fun _ => Ex_nil ?_)
    · rw [← q.hd, PV.eqv_refl]; rfl
    · rw [eqv_mkS]
      have := q.no35
      rw [hhd] at this
      simpa using this
    · have := q.noB
      simp only [List.any_cons, List.any_nil, eqv_mkS, Bool.or_false]
      rw [Bool.or_eq_false_iff]
      exact ⟨by simpa using fun e => this.1 e.symm, by simpa using fun e => this.2 e.symm⟩
    have colE : ∀ {ρ : Env1} {b : Bool} {k1 : Nat} {p1 p2 p3 p4 p5 : Pos}, ρ.lookup ("columns" : Str) = some (.int ((n : Nat) : Int)) → ρ.lookup ("comment" : Str) = some (.str (mkS (List.replicate h 35))) → Ev (fnCx (W0 prog w s₁) (fun _ => True) h₀ _ _ 137 _ ["kinds"] 5) ρ b (.BinOp (.BinOp (.Constant (.str (mkS [32])) k1 p1) .Mult (.Name "columns" p2) p3) .Add (.Name "comment" p4) p5) (.str (mkS (hdr (xt v 0 r)))) := fun {ρ b k1 p1 p2 p3 p4 p5} e1 e2 => Ev.cast (by rw [q.bhd]) (str_cat (x := List.replicate n 32) (y := List.replicate h 35) (rep_ev (ch := 32) (n := n) (Ev_name ok e1 rfl rfl) rfl (by omega)) (Ev_name ok e2 rfl rfl) (by rw [List.length_replicate, List.length_replicate, sizeLine_is]; omega))
    refine Ex_cons (Ex1_if (k := false) (IsT1.cast ?_ (IsT_cmp (d₁ := .str (mkS (hdr (xt v 0 r)))) (d₂ := .str (mkS (hdr (xt v 0 r)))) (Ev_callU ok g rfl A5 rfl F5 (by show 1 ≤ 5; decide) (.cons (Ev_item (k := ((i : Nat) : Int)) (j := i) (Ev.seq (Ev_name ok rfl rfl rfl)) (Ev_name ok rfl rfl rfl) (idx_nat (by rw [List.length_map, List.length_map]; omega)) (SS_get hb) (fun _ _ => rfl)) rfl .nil) ⟨mkS (xt v 0 r), rfl, rfl⟩) (colE rfl rfl) (.ne rfl (Nat.zero_le _)) rfl)) (fun h => by cases h) fun _ => Ex_nil ?_)
    · rw [PV.eqv_refl]; rfl
    refine Ex_cons (Ex1_append ok rfl rfl rfl (d := kd (xt v 0 r)) (Ev_tuple ok (.cons (colE rfl rfl) rfl (.cons (Ev.cast ?_ (Ev_cmp (d₁ := .str (mkS (rstr white (lstr white (r.drop (hdr r).length))))) (d₂ := .str (mkS [])) (Ev_meth (b := false) (d₀ := .str (mkS (r.drop (hdr r).length))) ok rfl rfl PySem.F.plainAttrs_str PySem.F.slot_str_strip PySem.F.type_str_strip (by decide) rep_str_type (Ev_name ok rfl rfl rfl) .nil BiOk_strip) (Ev_str (by decide)) (.ne rfl (Nat.zero_le _)) rfl)) rfl .nil)) rfl) (by rw [List.length_map, List.length_take, sizeLine_is]; omega) rfl rfl rfl ?_)
    · rw [eqv_mkS, strip_white, q.brest, hhd]
    refine Ex_nil (.put ?_ (.put rfl (.put rfl (.put rfl (.put rfl (.put rfl .nil))))))
    show some _ = some _
    rw [List.take_add_one, hr]; simp
  · intro ρ hI
    have hfin : (R.take (NI ((List.range (R.length - 0)).map (0 + ·))).length).map (fun r => kd (xt v 0 r)) = (R.map (xt v 0)).map kd := by
      rw [NI, List.length_map, List.length_map, List.length_range, Nat.sub_zero, List.take_length, List.map_map]; rfl
    rw [hfin] at hI
    refine Ex.sub ?_ hI
    obtain ⟨B, hB⟩ : ∃ B, R.map (xt v 0) = B := ⟨_, rfl⟩
    have hBl : B.length = R.length := by rw [← hB, List.length_map]
    have hBs : ∀ l ∈ B, l.length ≤ 2000 := fun l hl => by
      rw [← hB] at hl
      obtain ⟨x, hx, rfl⟩ := List.mem_map.mp hl
      have := hxl x hx; omega
    rw [hB]
    refine Ex_cons (Ex1_page ok g (fun _ => trivial) rfl rfl A0 rfl F0 (Nat.le_refl _) (Ev_name ok rfl rfl rfl) rfl (by omega) (fun os x pg => ?_) rfl rfl rfl)
    refine Ex_cons (Ex1_for ok (d := .range 0 4 1) (Ev_callT ok g rfl hrange boot_range rfl (by decide) (.cons Ev_int rfl .nil) BiOk_range1) (range_ni (a := 0) (n := 4) (by omega) (by omega))
      (fun i ρ => SubEnv [("page", .raw os (.ref x)), ("kinds", .list (B.map kd)), ("blank", .list (SS B)), ("drawn", .int D), ("count", .int ((R.length + 3 : Nat) : Int))] ρ) (.put rfl (.put rfl (.put rfl (.put rfl (.put rfl .nil))))) ?_ ?_ (fun _ => rfl))
    · intro i d ρ hd hI
      rw [NI, List.map_map] at hd
      obtain ⟨hi, rfl⟩ := range_get hd
      have hfi : (((fun k => PV.int ((k : Nat) : Int)) ∘ (0 + ·)) i) = PV.int ((i : Nat) : Int) := by simp
      rw [hfi]
      refine ⟨_, Asg_name ok rfl rfl, Ex.sub ?_ (SubEnv.both hI)⟩
      have hp := n_pow (n := R.length + 3) (k := i) (by omega) (by omega) (by omega)
      have hm := mk11_lt (d := D) (n := R.length + 3) (k := i) (by omega)
      refine Ex_cons (Ex1_assign ok (d := .int (mk11 D (R.length + 3) i : Nat)) (Ev.cast (congrArg PV.int hm.1) (Ev_bin (Ev_bin (Ev_bin (Ev_bin (d := .int (D.fdiv 8)) (by pv_eval) Ev_int (.divI (by decide) (PyProof.noPylong_small (by decide)))) (Ev_pow (n := i) (Ev_name (d := .int ((R.length + 3 : Nat) : Int)) ok rfl rfl rfl) (Ev_name (d := .int ((i : Nat) : Int)) ok rfl rfl rfl) (by rw [Int.natAbs_natCast]; omega) (by omega)) (.divI hp.2 (PyProof.noPylong_small hp.1))) (Ev_bin (d := .int (((i : Int) * (R.length + 3 : Nat)).fdiv 4)) (Ev_bin (d := .int ((i : Int) * (R.length + 3 : Nat))) (Ev_name (d := .int ((i : Nat) : Int)) ok rfl rfl rfl) (Ev_name (d := .int ((R.length + 3 : Nat) : Int)) ok rfl rfl rfl) (.mulI (.of_right (bits20 _ (by omega))))) Ev_int (.divI (by decide) (PyProof.noPylong_small (by decide)))) .addI) (Ev_name (d := .int ((R.length + 3 : Nat) : Int)) ok rfl rfl rfl) (.modI (by omega)))) ?_ rfl rfl rfl)
      have hml := hm.2
      generalize mk11 D (R.length + 3) i = a at hml
      obtain ⟨S, F, T, fp⟩ := fp_exists B a
      refine Ex_cons (Ex1_if (k := false) (IsT1.cast ?_ (IsT_cmp (d₁ := .tuple [.str (mkS (m0 F)), .str (mkS (m0 T)), .str (mkS (hdr (rowAt B S))), .str (mkS (txt B F T))]) (d₂ := .tuple [.str (mkS (m0 F)), .str (mkS (m0 T)), .str (mkS (hdr (rowAt B S))), .str (mkS (txt B F T))]) (Ev_callU ok g rfl A1 rfl F1 (by show 3 ≤ 5; decide) (.cons (Ev_name ok rfl rfl rfl) rfl (.cons (Ev_fmt0 (n := a) (by decide +kernel) (Ev_name ok rfl rfl rfl) (by omega)) rfl .nil)) ⟨os, x, B, a, 0, S, F, T, rfl, pg, by omega, by decide, by omega, hBs, fp, rfl⟩) (Ev_callOwnT ok g rfl A2 rfl F2 (by show 2 ≤ 5; decide) (x := "kinds") (.cons (Ev_name ok rfl rfl rfl) rfl (.own rfl rfl rfl (.cons (Ev_name ok rfl rfl rfl) rfl .nil))) ⟨B, a, S, F, T, rfl, by omega, hBs, by omega, fp, rfl⟩ rfl rfl rfl).any (.ne rfl (by simp [PV.deep, PV.deeps])) rfl)) (fun h => by cases h) fun _ => Ex_nil (Ex_nil (.put rfl (.put rfl (.put rfl (.put rfl (.put rfl .nil)))))))
      rw [PV.eqv_refl]; rfl
    · intro ρ hI
      exact Ex_cons (Ex1_return Ev_bool rfl)
end

end Mine
end

open PySem PySem.W PyProof.Rows in
set_option maxRecDepth 100000 in
set_option maxHeartbeats 8000000 in
theorem PySem.Challenge.cw_dm0161_11_holds : PySem.Challenge.rw_dm0161_11.Holds :=
  Mine.hd (by
    k_fill
    intro w s₀ s₁ mg mb G Y fa o pm cd doc dV kV ho hd hcd hD hmg hg args vals as hpre hlay hrd hwl hlo
    have KX := km_in_of Y
    refine Ground.open G ?_
    intro T B D TE TW
    have X := Mine.tabs KX T (by decide +kernel)
    have hem := Mine.tabE (mb := mb) KX T (by decide +kernel)
    have F := Mine.fn_law (prog := PySem.Challenge.rw_dm0161_11.row.prog) (w := w) (Mine.woP_gl X T) KX X T.bmain
    have hfa : Value.ref fa = .ref 137 := Option.some.inj (hmg.symm.trans (Mine.mg_law KX T.g))
    cases hfa
    clear hd hcd hD hmg ho KX Y B D TE TW
    wrow_args hpre hlay hrd hwl hlo
    rename_i ns h1 h2 h3 h4 h5 x1 x2 a vs x3 hl ra hw r0 hI hr hc hc2
    exact Mine.law_doneP X hem F (by decide) hg hw (by omega))

